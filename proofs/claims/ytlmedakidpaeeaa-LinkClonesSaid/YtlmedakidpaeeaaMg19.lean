/- Layer 27: parts, walked. -/
import Derived.Test.YtlmedakidpaeeaaMg18
namespace Go.Proofs.Ytlmedakidpaeeaa
open Go.RowKit
set_option maxRecDepth 100000
abbrev DD (w:List (List St)):D:= .sl none (w.map stsD)
theorem OO {n:Nat} (h0:0<n) (h:n≤1000000):IntKind.i64.wrap ((n:Int) - 1)=((n - 1:Nat):Int):=by
 rw [show ((n:Int) - 1)=((n - 1:Nat):Int) by omega];exact IntWalk.i64_in _ (by omega)
theorem Ol {Ks:List St} {L:St ->List St} (hoff:∀k,k∉Ks ->L k=[]) (a:St):CS (Ks.map fun k=>(k,L k)) a []=L a:=by
 have key:∀Ks:List St,CS (Ks.map fun k=>(k,L k)) a []=if a∈Ks then L a else []:=by
  intro Ks
  induction Ks with
  | nil=>rfl
  | cons k r ih=>
   show (if a=k then L k else CS (r.map fun k=>(k,L k)) a [])=_
   by_cases e:a=k
   ·subst e;simp
   ·rw [if_neg e,ih];simp [e]
 rw [key]
 split
 ·rfl
 ·rename_i hn;rw [hoff a hn]
set_option maxHeartbeats 1000000 in
theorem Nm {M:MF} {b:Nat} {w:Ws} (h:BR M b w) (hw:BV w) (hK:w.K.length≤1000000):AR Try.prog 39 [.d (pD b 0)] [(40,[.multi M])] fun r H'=>∃O:List (St×Nat),r= .tup [.d (DD (parts w)),.map 6 0]∧H'=[(40,[.multi M]),(6,[Oo AZ natD O])]∧∀x∈w.R,CS O x 0=idx w x:=by
 have hrep:=h;obtain ⟨m,E,lk,hr,hl⟩:=h;have hfew:=hw.few;have hEl:=hl.len hw;refine DA Try.func39 Z Z Try.ntmps39 Z Z Z fun F hF=>(AG (AI (AE Z Z (AE Z Z (AF (AG (AI (AC Z Z ?_))))))));refine H7 (IZ (neigh_c hrep hw hK) rfl [40,1] ⟨rfl,rfl,trivial⟩ Z Z Z Z (fun r H' ⟨Ks,L,bs,e1,e2,_⟩=>by subst e1 e2;exact ⟨rfl,rfl,rfl⟩) rfl) rfl ?_;rintro _ ⟨r,H',⟨Ks,L,nbs,e1,e2,hoff,hwth,hLl⟩,rfl⟩;subst e1 e2;refine U (HG 4 zl106 Z Z Z Z) (U (Bm Z Z Z Z Z Z Z sz106) (AF (AG (AI (U (Eg 6 Z Z Z Z) ?_)))));refine U (HG 5 zl80 Z Z Z Z) (U (Bm Z Z Z Z Z Z Z sz80) (AF (AG (AI (U (HG 7 zl79 Z Z Z Z) (AF (AG (AI ?_))))))));refine U (HG 9 zl108 Z Z Z Z) (AF (AG (AI (J (FO Z Z) (U (Bm Z Z Z Z Z Z Z sz108) (AF (AG (AG ?_))))))))
 have hL:NbOk w (Ks.map fun k=>(k,L k)) L:=⟨Ol hoff,hwth,hLl⟩
 obtain ⟨NE,hNE⟩:∃NE,(Ks.map fun k=>(k,L k))=NE:=⟨_,rfl⟩
 rw [hNE] at hL;rw [hNE];refine D1 7 0 0 8 Mw Z Z Z Z Z Z Z (Fn 50 Z Z Z (AI (AC Z Z ?_)))
 first | refine J (FJ Z Z) ?_ | refine J (FG Z Z) ?_ | refine J (FK Z Z) ?_ | refine J (FH Z Z) ?_
 first | refine J (A1 rfl A5 Z Z Z) ?_ | refine J (A3 rfl A5 Z Z Z) ?_ | refine J (A4 rfl A5 Z Z Z) ?_ | refine J (A2 rfl A5 Z Z Z) ?_ | refine J (A0 rfl A5 Z Z Z) ?_
 refine J (Ft (f:=40) Z Z (hr.cell) rfl Bk rfl) (U (GD (keys_c m) rfl [] trivial Z Z Z Z Z Z Z Z Z) (U (GD (P3 hr.top (by omega) hl.kd hw.srt hl.ks) rfl [40] ⟨rfl,trivial⟩ Z Z Z Z Z Z Z Z Z) (J (Br rfl (List.length_map ..) Try.underlying32 rfl) (AC Z Z (AF (B7 (FC (α:=Nat×List (St×Nat)×Nat×(Nat ->Hd)×(Nat ->List St)×MF) (fun q=>⟨51,[(0,.d (pD b 0)),(5,(.ptr 5 0 0)),(6,(.ptr 7 0 0)),(7,(.ptr 9 0 0)),(21,(.d (stsD w.R))),(22,(.d (natD w.R.length))),(23,(.d (natD q.1)))],(40,[.multi M])::HV nbs NE q.2.1 q.2.2.1 q.2.2.2.1 q.2.2.2.2.1 q.2.2.2.2.2⟩) (fun q=>q.1≤w.R.length∧PI w q.1 q.2.1 q.2.2.1 q.2.2.2.2.1∧LU q.2.2.2.2.2 q.2.2.1 q.2.2.2.1 q.2.2.2.2.1) (fun q=>w.R.length - q.1) ((0,[],0,(fun _=>none),(fun _=> []),fun _=>none)) (⟨Nat.zero_le _,PI.zero,LU.zero 0⟩) (BC hF [40,4,1,5,6,7,8,9,50] Z Z ⟨rfl,rfl,rfl,rfl,rfl,rfl,rfl,trivial⟩) ?_)))))));rintro ⟨k,O,n,hs,ls,M5⟩ ⟨hk,hP,hG⟩;dsimp only at hk hP hG⊢;refine AG (AI ?_)
 first | refine J (Ed Z Z Z) ?_ | refine J (Ef Z Z Z) ?_
 refine AF (AG ?_)
 first | refine BA rfl (fun h24=>?_) (fun h24=>?_) | refine Az rfl (fun h24=>?_) (fun h24=>?_)
 ·refine Ai (AG (B7 (AG ?_)));have hkl:k<w.R.length:=HB h24;have hnk:=hP.le;refine AI ?_
  first | refine J (BE (k) Z Z (rfl) (Ox hkl) Try.underlying32 rfl DO rfl) ?_ | refine J (BF (k) Z Z (rfl) (Ox hkl) rfl Try.underlying32 DO rfl) ?_
  first | refine J (AX Z Z AY rfl) ?_ | refine J (AU Z Z Z AY rfl) ?_ | refine J (AW Z Z (rfl) rfl AY rfl) ?_
  refine AE Z Z (AF (AG (AI ?_)))
  first | refine J (AX Z Z FF rfl) ?_ | refine J (AU Z Z Z FF rfl) ?_ | refine J (AW Z Z (rfl) rfl FF rfl) ?_
  refine AC Z Z (J (Fb (O) (w.R[k]) (0) Z Z Z Hu Ec za3 rfl) (AC Z Z ?_))
  first | refine J (B4 Z Z Z) ?_ | refine J (B5 Z Z Z) ?_
  first | refine J (B4 Z Z Z) ?_ | refine J (B5 Z Z Z) ?_
  refine AE Z Z (AE Z Z (AF (AG (AI (AC Z Z ?_)))))
  first | refine J (EG Z Z) ?_ | refine J (EE Z Z) ?_
  refine AF ?_
  first | refine BA rfl (fun h34=>?_) (fun h34=>?_) | refine Az rfl (fun h34=>?_) (fun h34=>?_)
  ·refine AG ?_;have hxO:w.R[k]∉O.map Prod.fst:=fun hh=>absurd (Bx.2 hh) (by simpa using h34);refine AI ?_
   first | refine J (AX Z Z Dv rfl) ?_ | refine J (AU Z Z Z Dv rfl) ?_ | refine J (AW Z Z (rfl) rfl Dv rfl) ?_
   refine U (HC 20 Mw Z Z Z Z Z Z Z Z) (U (I6 Z Z Z (Nat.le_of_eq (RZ n hs ls).symm) Z Z (by simp) Mw (by omega) Z Z (show (rowS n hs ls).take n++ [D.sl (some true) []]=rowS n hs ls++ [D.sl (some true) []] from by rw [List.take_of_length_le (by rw [RZ];exact Nat.le_refl _)]) Z Z) (U (Bm Z Z Z Z Z Z Z sz79) (AF (AG (K0 8 0 (rowS (n+1) (An hs n none) (An ls n [])) rfl (by rw [List.length_append,RZ,RZ];rfl) PR ⟨fun x hx=>by rcases List.mem_append.1 hx with hx | hx;exact Ip _ _ _ x hx;simp at hx;subst hx;rfl,Ip _ _ _⟩ rfl (AI ?_))))))
   first | refine J (AX Z Z KC rfl) ?_ | refine J (AU Z Z Z KC rfl) ?_ | refine J (AW Z Z (rfl) rfl KC rfl) ?_
   refine AC Z Z ?_;refine H7 (Jl (visit_c hw hL (n+1) (by omega) (by omega) w.R.length O _ _ M5 w.R[k] (Nat.sub_le _ _) (List.getElem_mem hkl) hP.nd (fun y hy=>((hP.ks y).1 hy).1) hG.grow (by show (An ls n [] n).length≤_;rw [Ds];exact Nat.zero_le _)) rfl [4,1,5,6,7,8,9,50] ⟨rfl,rfl,rfl,rfl,rfl,rfl,rfl,rfl,trivial⟩ Z Z Z Z (fun r H' ⟨ad,hs3,M53,e1,e2,_,_⟩=>by subst e1 e2;exact ⟨rfl,rfl,rfl⟩) rfl) rfl ?_;rintro _ ⟨r,H',⟨ad,hs3,M53,e1,e2,hG3,hVR⟩,rfl⟩;subst e1 e2;refine AF ?_;have e5:An (An ls n []) (n+1 - 1) (An ls n [] (n+1 - 1)++ad)=An ls n ad:=by show An (An ls n []) n (An ls n [] n++ad)=_;rw [Fa,Ds];rfl
   rw [e5] at hG3⊢;have hself:w.R[k]∈ad:=hVR.self.resolve_left hxO;have hadl:ad.length≤w.R.length:=NW hVR.nd fun y hy=>(hVR.nw y hy).2.1;have hGn:=hG3.at_ n (Nat.lt_succ_self n);rw [Ds] at hGn;obtain ⟨b1,c1,hbe⟩:∃b1 c1,hs3 n=some (b1,c1):=by rcases hd_two (hs3 n) with e | e;rw [e] at hGn;have hz:ad.map AZ=[]:=hGn;rw [List.map_eq_nil_iff] at hz;rw [hz] at hself;cases hself;exact e
   rw [hbe] at hGn;refine AI ?_
   first | refine J (AX Z Z Dv rfl) ?_ | refine J (AU Z Z Z Dv rfl) ?_ | refine J (AW Z Z (rfl) rfl Dv rfl) ?_
   first | refine J (AX Z Z Dv rfl) ?_ | refine J (AU Z Z Z Dv rfl) ?_ | refine J (AW Z Z (rfl) rfl Dv rfl) ?_
   first | refine J (J0 rfl Try.underlying79 rfl) ?_ | refine J (Br Z Z Try.underlying79 rfl) ?_ | refine J (JW rfl Try.underlying79 rfl) ?_ | refine J (JY rfl Try.underlying79 rfl) ?_ | refine J (JV rfl Try.underlying79 rfl) ?_ | refine J (JP rfl Try.underlying79 rfl) ?_
   refine J (DW Z Z (show IntKind.i64.wrap (((n+1:Nat):Int) - 1)=(n:Int) from OO (n:=n+1) (by omega) (by omega)) rfl) ?_
   first | refine J (BE (n) Z Z (rfl) (Nat.lt_succ_self n) Try.underlying79 rfl CG rfl) ?_ | refine J (BF (n) Z Z (rfl) (Nat.lt_succ_self n) rfl Try.underlying79 CG rfl) ?_
   first | refine J (AX Z Z AL rfl) ?_ | refine J (AU Z Z Z AL rfl) ?_ | refine J (AW Z Z (show (rowS (n+1) hs3 (An ls n ad))[n]?=some (.raw (sV b1 ad.length c1)) from by rw [FR (Nat.lt_succ_self n),hbe,Ds];rfl) rfl AL rfl) ?_
   refine U (OT Q7 (f:=50) ad (by omega) Z Z Z hGn.2 Z Z Z Z) ?_;obtain ⟨hse,hP2⟩:=hP.new hw hkl hxO hVR;have hG4:=hG3.put (Nat.lt_succ_self n) hbe (l:=Co ad) (by rw [DQ];simpa using hGn.1);rw [Fa,hse] at hG4;have hro:rowS (n+1) hs3 (An ls n ad)=rowS (n+1) hs3 (An ls n (cls w w.R[k])):=by refine List.map_congr_left fun j _=>?_;by_cases e:j=n;subst e;rw [Ds,Ds,←hse,DQ];rw [E6 e,E6 e]
   rw [hse,hro];refine AF (AI (J (Cm Z Z (IntWalk.i64_in _ (by omega)) rfl) (AC Z Z (AF ?_))));exact ⟨(k+1,addO O ad n,n+1,hs3,An ls n (cls w w.R[k]),_),⟨hkl,hP2,hG4⟩,by show w.R.length - (k+1)<w.R.length - k;omega,BC hF [40,4,1,5,6,7,8,9,50] rfl (rfl) ⟨rfl,rfl,rfl,rfl,rfl,rfl,rfl,trivial⟩⟩
  ·refine Ai (AI (J (Cm Z Z (IntWalk.i64_in _ (by omega)) rfl) (AC Z Z (AF ?_))));exact ⟨(k+1,O,n,hs,ls,M5),⟨hkl,hP.old hw hkl (Bx.1 (by simpa using h34)),hG⟩,by show w.R.length - (k+1)<w.R.length - k;omega,BC hF [40,4,1,5,6,7,8,9,50] rfl (rfl) ⟨rfl,rfl,rfl,rfl,rfl,rfl,rfl,trivial⟩⟩
 ·refine Dq (AG ?_);have hke:k=w.R.length:=by have:=h24;omega
  subst hke;obtain ⟨hrw,hix⟩:=hP.fin hw;refine RW 8 0 50 ((O6 n ls).map stsD) Z Z Z Z Z (by rw [List.length_map,Nj,RZ]) hG.melt ⟨Ip _ _ _,one_sts _⟩ rfl ?_;rw [hrw];have hnl:(parts w).length=n:=by rw [←hrw,Nj]
  refine CP (ys:=(parts w).map stsD) 7 0 0 8 Z Z Z (Nat.le_of_eq (by rw [List.length_map,hnl])) (List.take_of_length_le (by rw [List.length_map,hnl];exact Nat.le_refl _)) Z Z Z Z Z Z (Ee [[],[],[0],[0,1,2]] mixed rfl (DL ?_))
  first | refine AD [6] [7] Z Z (fun _=>AB (AX Z Z Dv rfl)) ?_ | refine AD [6] [7] Z Z (fun _=>AB (AU Z Z Z Dv rfl)) ?_ | refine AD [6] [7] Z Z (fun _=>AB (AW Z Z (rfl) rfl Dv rfl)) ?_
  first | refine AD [5] [5] Z Z (fun _=>AB (AX Z Z FF rfl)) ?_ | refine AD [5] [5] Z Z (fun _=>AB (AU Z Z Z FF rfl)) ?_ | refine AD [5] [5] Z Z (fun _=>AB (AW Z Z (rfl) rfl FF rfl)) ?_
  first | refine AD [49] [] Z Z (fun _=>AB (EN Z Z)) ?_ | refine AH [49] Z Z (fun _=>AB (EN Z Z)) ?_
  refine DM 3 Z Z Z (BI 4 Z Z (AE Z Z (AF ⟨rfl,?_⟩)));refine ED (Au ?_);exact ⟨_,[40,6],_,Aq rfl,rfl,rfl,O,rfl,rfl,hix⟩
theorem exmin (p:Nat ->Prop):∀(m x:Nat),p x ->x≤m ->∃y,p y∧∀z,p z ->y≤z:=by
 intro m
 induction m with
 | zero=>intro x hx hm;exact ⟨x,hx,fun z _=>by omega⟩
 | succ m ih=>
  intro x hx hm
  by_cases h:∃y,p y∧y≤m
  ·obtain ⟨y,hy,hym⟩:=h;exact ih y hy hym
  ·exact ⟨x,hx,fun z hz=>by
    have:¬z≤m:=fun h2=>h ⟨z,hz,h2⟩
    omega⟩
theorem Q6 {l:List Nat} (hl:l.Pairwise (· ≤ ·)) {i j:Nat} (hij:i≤j) (hj:j<l.length):C6 l i≤C6 l j:=by
 rcases Nat.eq_or_lt_of_le hij with e | h
 ·subst e;exact Nat.le_refl _
 ·rw [Cj (by omega),Cj hj];exact List.pairwise_iff_getElem.1 hl i j (by omega) hj h
theorem Mc {l:List Nat} (hl:l.Pairwise (· ≤ ·)):(EA l l.length).Pairwise (· < ·):=by
 unfold EA;rw [List.pairwise_map];refine List.Pairwise.imp_of_mem (fun {i j} hi hj hij=>?_) (List.Pairwise.filter _ List.pairwise_lt_range);obtain ⟨hj1,hj2⟩:=List.mem_filter.1 hj;have hj1:=List.mem_range.1 hj1;rcases of_decide_eq_true hj2 with e | e
 ·omega
 ·have h1:=Q6 hl (i:=i) (j:=j - 1) (by omega) (by omega);have h2:=Q6 hl (i:=j - 1) (j:=j) (by omega) hj1;omega
theorem RH {l:List Nat} {x:Nat}:x∈EA l l.length↔x∈l:=by
 unfold EA;rw [List.mem_map]
 constructor
 ·rintro ⟨i,hi,rfl⟩;exact Fg (List.mem_range.1 (List.mem_filter.1 hi).1)
 ·intro hx;obtain ⟨i,hi,e⟩:=List.mem_iff_getElem.1 hx;obtain ⟨j,⟨hj,hjx⟩,hm⟩:=exmin (fun j=>j<l.length∧C6 l j=x) i i ⟨hi,by rw [Cj hi];exact e⟩ (Nat.le_refl _);refine ⟨j,List.mem_filter.2 ⟨List.mem_range.2 hj,decide_eq_true ?_⟩,hjx⟩
  by_cases h0:j=0
  ·exact .inl h0
  ·refine .inr fun e2=>?_;have:=hm (j - 1) ⟨by omega,by rw [←e2,hjx]⟩;omega
theorem Mb (l:List Nat):(GW l).Pairwise (· < ·):=Mc (Gb l)
theorem RG {l:List Nat} {x:Nat}:x∈GW l↔x∈l:=by unfold GW;rw [RH,(Eh l).mem_iff]
structure DP (w:Ws) (acc:List Lw) (L:Nat ->List Nat):Prop where
 mem:∀i k,k∈L i↔∃l∈acc,l.t=1∧idx w l.f≠idx w l.r∧idx w l.f=i∧idx w l.r=k
 len:∀i,(L i).length≤acc.length
theorem DP.zero (w:Ws):DP w [] (fun _=> []):=⟨fun i k=>by simp,fun _=>Nat.le_refl _⟩
theorem DP.skip {w:Ws} {acc:List Lw} {L:Nat ->List Nat} (h:DP w acc L) {l:Lw} (hl:¬(l.t=1∧idx w l.f≠idx w l.r)):DP w (acc++ [l]) L:=by
 refine ⟨fun i k=>?_,fun i=>?_⟩
 ·rw [h.mem]
  constructor
  ·rintro ⟨x,hx,r⟩;exact ⟨x,List.mem_append_left _ hx,r⟩
  ·rintro ⟨x,hx,h1,h2,r⟩;rcases List.mem_append.1 hx with hx | hx
   ·exact ⟨x,hx,h1,h2,r⟩
   ·simp at hx;subst hx;exact absurd ⟨h1,h2⟩ hl
 ·have:=h.len i;simp;omega
theorem DP.hit {w:Ws} {acc:List Lw} {L:Nat ->List Nat} (h:DP w acc L) {l:Lw} (h1:l.t=1) (h2:idx w l.f≠idx w l.r):DP w (acc++ [l]) (An L (idx w l.f) (L (idx w l.f)++ [idx w l.r])):=by
 refine ⟨fun i k=>?_,fun i=>?_⟩
 ·by_cases e:i=idx w l.f
  ·subst e;rw [Ds,List.mem_append,h.mem]
   constructor
   ·rintro (⟨x,hx,r⟩ | hk)
    ·exact ⟨x,List.mem_append_left _ hx,r⟩
    ·exact ⟨l,List.mem_append_right _ (by simp),h1,h2,rfl,(List.mem_singleton.1 hk).symm⟩
   ·rintro ⟨x,hx,q1,q2,q3,q4⟩;rcases List.mem_append.1 hx with hx | hx
    ·exact .inl ⟨x,hx,q1,q2,q3,q4⟩
    ·simp at hx;subst hx;exact .inr (by simp [q4])
  ·rw [E6 e,h.mem]
   constructor
   ·rintro ⟨x,hx,r⟩;exact ⟨x,List.mem_append_left _ hx,r⟩
   ·rintro ⟨x,hx,q1,q2,q3,q4⟩;rcases List.mem_append.1 hx with hx | hx
    ·exact ⟨x,hx,q1,q2,q3,q4⟩
    ·simp at hx;subst hx;exact absurd q3.symm e
 ·have h3:=h.len i
  by_cases e:i=idx w l.f
  ·rw [e,Ds];rw [e] at h3;simp;exact h3
  ·rw [E6 e];simp;omega
theorem DP.fin {w:Ws} {acc:List Lw} {L:Nat ->List Nat} (h:DP w acc L) (hw:BV w) (hp:acc.Perm w.K) (i:Nat):GW (L i)=depL w i:=by
 refine I8 (Mb _) (Gy w i) fun k=>?_;rw [RG,h.mem,By hw];unfold Dep
 constructor
 ·rintro ⟨l,hl,h1,h2,h3,h4⟩;exact ⟨by rw [←h3,←h4];exact h2,l,hp.mem_iff.1 hl,h1,h3,h4⟩
 ·rintro ⟨hne,l,hl,h1,h3,h4⟩;exact ⟨l,hp.mem_iff.2 hl,h1,by rw [h3,h4];exact hne,h3,h4⟩
def Me (L:Nat ->List Nat) (i:Nat):Nat ->List Nat:=fun j=>if j<i then GW (L j) else L j
theorem RM (L:Nat ->List Nat):Me L 0=L:=by funext c;unfold Me;rw [if_neg (by omega)]
theorem LM (L:Nat ->List Nat) (i:Nat):Me L i i=L i:=by unfold Me;rw [if_neg (by omega)]
theorem JJ (L:Nat ->List Nat) (i:Nat):An (Me L i) i (GW (L i))=Me L (i+1):=by
 funext c
 by_cases e:c=i
 ·subst e;rw [Ds];unfold Me;rw [if_pos (by omega)]
 ·rw [E6 e];unfold Me
  by_cases h:c<i
  ·rw [if_pos h,if_pos (by omega)]
  ·rw [if_neg h,if_neg (by omega)]
theorem cdD_end (n:Nat) (L:Nat ->List Nat):grF n (Me L n)=(List.range n).map fun i=>GW (L i):=by
 unfold grF;exact List.map_congr_left fun c hc=>by unfold Me;rw [if_pos (List.mem_range.1 hc)]
noncomputable def depG (w:Ws):List (List Nat):=(List.range (parts w).length).map (depL w)
set_option maxHeartbeats 2000000 in
theorem Qv {M:MF} {b:Nat} {w:Ws} (h:BR M b w) (hw:BV w) (hK:w.K.length≤1000000) {O:List (St×Nat)} (hO:∀x∈w.R,CS O x 0=idx w x) {M7:MF} {x7:Nat} {bs7:Option (List Nat×Nat)} (h7:M7 x7=some (.map bs7 (Ad AZ natD O))):
  AR Try.prog 57 [.d (pD b 0),.d (DD (parts w)),.d (mD x7)] [(40,[.multi M]),(7,[.multi M7])] fun r H'=>r= .d (grD (depG w))∧H'=[(40,[.multi M]),(7,[.multi M7])]:=by
 obtain ⟨m,E,lk,hr,hl⟩:=h;have hperm:=hl.perm hw;have hfew:=hw.few;have hbm:b≠m:=fun e=>by subst e;have:=hr.cell;rw [hr.top] at this;cases this
 have hpm:∀p∈E,p.2≠m:=fun p hp e=>hr.ne (by rw [←e];exact List.mem_map_of_mem hp)
 obtain ⟨n,hn⟩:∃n,(parts w).length=n:=⟨_,rfl⟩
 have hnR:n≤4096:=by rw [←hn];unfold parts;rw [List.length_map];exact Nat.le_trans (List.length_filter_le _ _) hfew
 refine DA Try.func57 Z Z Try.ntmps57 Z Z Z fun F hF=>(AG (AI (AE Z Z (AF (AG (AI (AC Z Z ?_)))))));refine J (Br rfl ((List.length_map ..).trans hn) Try.underlying79 rfl) (U (II 20 sl101 Z Z Z (by omega) zd49 Z Z Z Z) (AE Z Z (AF (AG (AG (K0 20 0 (rowH n (fun _=>none) (fun _=> [])) rfl (by rw [ER,List.length_replicate]) (QU n) ⟨one_nil _,Lu _ _ _⟩ rfl (Fn 50 Z Z Z (Zcx 40 m rfl hr.top (fun _ _=>rfl) fun B c hB hBn=>?_))))))))
 obtain ⟨M1,hM1⟩:∃M1,BD M m (.map (some (B,c)) (CR E))=M1:=⟨_,rfl⟩
 rw [hM1];have h1b:M1 b=some (.cells 68 [mD m]):=by rw [←hM1,Dr hbm];exact hr.cell
 have h1m:M1 m=some (.map (some (B,c)) (CR E)):=by rw [←hM1,D3]
 have h1s:∀p∈E,M1 p.2=some (.map none (CI (lk p.2))):=fun p hp=>by rw [←hM1,Dr (hpm p hp)];exact hr.sub p hp
 refine AI (AC Z Z ?_)
 first | refine J (FJ Z Z) ?_ | refine J (FG Z Z) ?_ | refine J (FK Z Z) ?_ | refine J (FH Z Z) ?_
 first | refine J (A1 rfl A5 Z Z Z) ?_ | refine J (A3 rfl A5 Z Z Z) ?_ | refine J (A4 rfl A5 Z Z Z) ?_ | refine J (A2 rfl A5 Z Z Z) ?_ | refine J (A0 rfl A5 Z Z Z) ?_
 refine J (Ft (f:=40) Z Z (h1b) rfl Bk rfl) (U (Zct 21 (f:=40) Z Z (h1m) rfl Bu Z Z Z Z) (AF (B7 (FC (α:=List Nat×List Lw×(Nat ->Hd)×(Nat ->List Nat)×MF) (fun q=>⟨81,[(0,.d (pD b 0)),(2,.d (mD x7)),(7,(.own 20 0 n)),(19,(.ptr 21 0 0))],[(20,[.rowD 49 1 (rowH n q.2.2.1 q.2.2.2.1)]),(21,[.iter 40 m c q.1]),(40,[.multi M1]),(7,[.multi M7]),(50,[.multi q.2.2.2.2])]⟩) (fun q=>(q.2.1++(Ba (eE E) B q.1).flatMap (Cl lk)).Perm ((eE E).flatMap (Cl lk))∧HE q.2.2.2.2 n q.2.2.1 q.2.2.2.1∧DP w q.2.1 q.2.2.2.1) (fun q=>(Ba (eE E) B q.1).length) (([],[],(fun _=>none),(fun _=> []),fun _=>none)) (⟨by show ([]++(Ba (eE E) B []).flatMap _).Perm _;rw [Zcw (by simpa [Ad] using hB)];exact List.Perm.refl _,HE.zero n,DP.zero w⟩) (BC hF [20,21,40,7,50] Z Z ⟨rfl,rfl,rfl,rfl,trivial⟩) ?_))));rintro ⟨seen,acc,hs,L,M5⟩ ⟨hP,hN,hA⟩;dsimp only at hP hN hA⊢;refine AG (AI (DG (eE E) Z Z Z (h1m) rfl (fun hl20=>?_) (fun j20 b20 k20 v20 hm20 hb20 hB20 hp20=>⟨_,rfl,?_⟩)))
 ·rw [hl20] at hP;refine C1 40 m rfl h1m rfl ?_;rw [show BD M1 m (.map none (CR E))=M by rw [←hM1,Mn];exact CE hr.top]
  first | refine J (B4 Z Z Z) ?_ | refine J (B5 Z Z Z) ?_
  refine AF (AG (D4 Z Z (Dq (AG (AG ?_)))));have hPK:acc.Perm w.K:=(show acc.Perm _ by simpa using hP).trans hperm;have hLl:∀i,(L i).length≤1048576:=fun i=>Nat.le_trans (hA.len i) (by rw [hPK.length_eq];omega);rw [←RM L] at hN⊢;refine AI (AC Z Z ?_)
  first | refine J (J0 rfl Try.underlying101 rfl) ?_ | refine J (Br Z Z Try.underlying101 rfl) ?_ | refine J (JW rfl Try.underlying101 rfl) ?_ | refine J (JY rfl Try.underlying101 rfl) ?_ | refine J (JV rfl Try.underlying101 rfl) ?_ | refine J (JP rfl Try.underlying101 rfl) ?_
  refine AC Z Z (AF (B7 (FC (α:=Nat×MF×(Nat ->Hd)) (fun q=>⟨81,[(7,(.own 20 0 n)),(61,(.own 20 0 n)),(62,(.d (natD n))),(63,(.d (natD q.1)))],[(20,[.rowD 49 1 (rowH n q.2.2 (Me L q.1))]),(40,[.multi M]),(7,[.multi M7]),(50,[.multi q.2.1])]⟩) (fun q=>q.1≤n∧HE q.2.1 n q.2.2 (Me L q.1)) (fun q=>n - q.1) ((0,M5,hs)) (⟨Nat.zero_le _,hN⟩) (BC hF [20,40,7,50] Z Z ⟨rfl,rfl,rfl,rfl,trivial⟩) ?_)));rintro ⟨i,M6,hs⟩ ⟨hi,hr6⟩;dsimp only at hi hr6⊢;refine AG (AI ?_)
  first | refine J (Ed Z Z Z) ?_ | refine J (Ef Z Z Z) ?_
  refine AF (AG ?_)
  first | refine BA rfl (fun h64=>?_) (fun h64=>?_) | refine Az rfl (fun h64=>?_) (fun h64=>?_)
  ·refine Ai (AG (B7 (AG ?_)));have hic:i<n:=HB h64;have hat:=hr6.at_ i hic;have hcl2:=hLl i;rw [LM] at hat;have hget:=Gd (hs:=hs) (ls:=Me L i) hic;rw [LM] at hget;refine AI (AC Z Z (AE Z Z (AF (AG (AI (AC Z Z (AC Z Z ?_)))))))
   first | refine J (BE (i) Z Z (rfl) (hic) Try.underlying101 rfl Cn rfl) ?_ | refine J (BF (i) Z Z (rfl) (hic) rfl Try.underlying101 Cn rfl) ?_
   first | refine J (AX Z Z Ae rfl) ?_ | refine J (AU Z Z Z Ae rfl) ?_ | refine J (AW Z Z (hget) rfl Ae rfl) ?_
   rcases hd_two (hs i) with hh | ⟨b1,c1,hh⟩<;>rw [hh] at hat hget⊢
   ·refine U (OV Q8 Z Z Z) (AF (AI ?_));have h0:L i=[]:=List.map_eq_nil_iff.1 hat;have hcst:Me L i=Me L (i+1):=by rw [←JJ,h0,RE];exact (Da (by rw [LM,h0])).symm
    refine AC Z Z (AC Z Z (AC Z Z (AC Z Z ?_)))
    first | refine J (BE (i) Z Z (rfl) (hic) Try.underlying101 rfl Cn rfl) ?_ | refine J (BF (i) Z Z (rfl) (hic) rfl Try.underlying101 Cn rfl) ?_
    first | refine J (AX Z Z Ae rfl) ?_ | refine J (AU Z Z Z Ae rfl) ?_ | refine J (AW Z Z (hget) rfl Ae rfl) ?_
    refine U (GD PB rfl [] trivial Z Z Z Z Z Z Z Z Z) ?_
    first | refine J (BE (i) Z Z (rfl) (hic) Try.underlying101 rfl Cn rfl) ?_ | refine J (BF (i) Z Z (rfl) (hic) rfl Try.underlying101 Cn rfl) ?_
    refine U (Zcs Z Z Z Z Z (by rw [ER];exact hic) (Id (h:=none) (l:=[])) rfl Cn) (AF (AI (J (Cm Z Z (IntWalk.i64_in _ (by omega)) rfl) (AC Z Z (AF ?_)))));exact ⟨(i+1,M6,hs),⟨hic,by rw [←hcst];exact hr6⟩,by show n - (i+1)<n - i;omega,BC hF [20,40,7,50] rfl (by rw [Da hh,Da (show Me L i i=[] by rw [LM,h0]),hcst];rfl) ⟨rfl,rfl,rfl,rfl,trivial⟩⟩
   ·refine U (OU (f:=50) Q8 ((L i).map Int.ofNat) (by rw [List.length_map];omega) Z Z Z hat.2 (ofN_map _) (by rw [List.length_map]) Z Z) (AF (AI ?_));have hrc:(L i).length≤c1:=by have:=hat.1;rwa [List.length_map] at this
    have hcp:=(N4 hrc hcl2 M6 b1).by [(40,50)] rfl;rw [Jn];refine AC Z Z (AC Z Z (AC Z Z (AC Z Z ?_)))
    first | refine J (BE (i) Z Z (rfl) (hic) Try.underlying101 rfl Cn rfl) ?_ | refine J (BF (i) Z Z (rfl) (hic) rfl Try.underlying101 Cn rfl) ?_
    first | refine J (AX Z Z Ae rfl) ?_ | refine J (AU Z Z Z Ae rfl) ?_ | refine J (AW Z Z (hget) rfl Ae rfl) ?_
    refine U (GD hcp rfl [50] ⟨rfl,trivial⟩ Z Z Z Z Z Z Z Z Z) ?_
    first | refine J (BE (i) Z Z (rfl) (hic) Try.underlying101 rfl Cn rfl) ?_ | refine J (BF (i) Z Z (rfl) (hic) rfl Try.underlying101 Cn rfl) ?_
    refine U (Zcs Z Z Z Z Z (by rw [ER];exact hic) (Id (h:=some (b1,c1)) (l:=GW (L i))) rfl Cn) (AF (AI (J (Cm Z Z (IntWalk.i64_in _ (by omega)) rfl) (AC Z Z (AF ?_)))));exact ⟨(i+1,BD M6 b1 (.row 3 1 c1 ((GW (L i)).map natD)),hs),⟨hic,by have:=hr6.put hic hh (Nat.le_trans (cptS_le _) hrc);rw [JJ] at this;exact this⟩,by show n - (i+1)<n - i;omega,BC hF [20,40,7,50] rfl (by rw [Da hh,JJ,Mn];rfl) ⟨rfl,rfl,rfl,rfl,trivial⟩⟩
  ·refine Dq (AG ?_);have hin:i=n:=by have:=h64;omega
   subst hin;have hdg:grF i (Me L i)=depG w:=by rw [cdD_end];unfold depG;rw [hn];exact List.map_congr_left fun j _=>hA.fin hw hPK j
   refine RW 20 0 50 ((depG w).map natsD) Z Z Z Z Z (by rw [←hdg,List.length_map,IT,ER]) (by rw [←hdg];exact hr6.melt) ⟨Lu _ _ _,one_gr _⟩ rfl (Zcn (emb:=natsD) 7 20 (depG w) Z Z Z (by rw [←hdg,IT]) Z Z Z (AI (AC Z Z (AE Z Z (AF (Au ?_))))));exact ⟨_,[40,7],_,Aq rfl,rfl,rfl,rfl,rfl⟩
 ·first | refine J (B4 Z Z Z) ?_ | refine J (B5 Z Z Z) ?_
  refine AF (AG (IE Z Z (Ai (B7 (AG (AI (J (Zcv (eE E) j20 b20 Z Z Z (h1m) hm20 hb20 rfl) ?_)))))))
  first | refine J (B4 Z Z Z) ?_ | refine J (B5 Z Z Z) ?_
  first | refine J (B4 Z Z Z) ?_ | refine J (B5 Z Z Z) ?_
  refine AE Z Z (AE Z Z (AF (AG ?_)));obtain ⟨hd,hpe,hve⟩:=FV hm20;subst hve;have hkR:k20∈w.R:=(hl.ks k20).1 (List.mem_map_of_mem (f:=Prod.fst) hpe);refine Zcx 40 hd rfl (h1s _ hpe) (fun _ _=>rfl) fun B2 c2 hB2 hBn2=>?_
  obtain ⟨M2,hM2⟩:∃M2,BD M1 hd (.map (some (B2,c2)) (CI (lk hd)))=M2:=⟨_,rfl⟩
  rw [hM2];have h2h:M2 hd=some (.map (some (B2,c2)) (CI (lk hd))):=by rw [←hM2,D3]
  refine AI (AC Z Z (U (Zct 22 (f:=40) Z Z (h2h) rfl FT Z Z Z Z) (AF (B7 (FC (α:=List Nat×List Lw×(Nat ->Hd)×(Nat ->List Nat)×MF) (fun q=>⟨81,[(0,.d (pD b 0)),(2,.d (mD x7)),(7,(.own 20 0 n)),(8,(.d (AZ k20))),(19,(.ptr 21 0 0)),(26,(.ptr 22 0 0))],[(20,[.rowD 49 1 (rowH n q.2.2.1 q.2.2.2.1)]),(21,[.iter 40 m c (seen++ [b20])]),(22,[.iter 40 hd c2 q.1]),(40,[.multi M2]),(7,[.multi M7]),(50,[.multi q.2.2.2.2])]⟩) (fun q=>(q.2.1++((Ba (Ck (lk hd)) B2 q.1).map (fun x=>(⟨k20,x.1.t,x.1.r⟩:Lw))++(Ba (eE E) B (seen++ [b20])).flatMap (Cl lk))).Perm ((eE E).flatMap (Cl lk))∧HE q.2.2.2.2 n q.2.2.1 q.2.2.2.1∧DP w q.2.1 q.2.2.2.1) (fun q=>(Ba (Ck (lk hd)) B2 q.1).length) (([],acc,hs,L,M5)) (⟨by show (acc++((Ba (Ck (lk hd)) B2 []).map _++_)).Perm _;rw [Zcw (by simpa [Ad] using hB2)];exact Nl hP hp20 (Hi lk k20 hd),hN,hA⟩) (BC hF [20,21,22,40,7,50] Z Z ⟨rfl,rfl,rfl,rfl,rfl,rfl,trivial⟩) ?_)))));rintro ⟨seen2,acc2,hs2,L2,M52⟩ ⟨hP2,hN2,hA2⟩;dsimp only at hP2 hN2 hA2⊢;refine AG (AI (DG (Ck (lk hd)) Z Z Z (h2h) rfl (fun hl27=>?_) (fun j27 b27 k27 v27 hm27 hb27 hB27 hp27=>⟨_,rfl,?_⟩)))
  ·rw [hl27] at hP2;refine C1 40 hd rfl h2h rfl ?_;rw [show BD M2 hd (.map none (CI (lk hd)))=M1 by rw [←hM2,Mn];exact CE (h1s _ hpe)]
   first | refine J (B4 Z Z Z) ?_ | refine J (B5 Z Z Z) ?_
   refine AF (AG (D4 Z Z (Dq ?_)));exact ⟨(seen++ [b20],acc2,hs2,L2,M52),⟨by simpa using hP2,hN2,hA2⟩,by show (Ba (eE E) B (seen++ [b20])).length<(Ba (eE E) B seen).length;rw [hp20.length_eq];exact Nat.lt_succ_self _,BC hF [20,21,40,7,50] rfl (rfl) ⟨rfl,rfl,rfl,rfl,trivial⟩⟩
  ·first | refine J (B4 Z Z Z) ?_ | refine J (B5 Z Z Z) ?_
   refine AF (AG (IE Z Z (Ai (B7 (AG (AI (J (Zcv (Ck (lk hd)) j27 b27 Z Z Z (h2h) hm27 hb27 rfl) ?_)))))))
   first | refine J (B4 Z Z Z) ?_ | refine J (B5 Z Z Z) ?_
   refine U (HG 23 LV Z Z Z Z) (U (Bm Z Z Z Z Z Z Z sz39) (AF (AG ?_)));have hlK:(⟨k20,k27.t,k27.r⟩:Lw)∈w.K:=(hl.ls _ hpe k27).1 (MP hm27);have hrR:k27.r∈w.R:=(hw.lk _ hlK).2.1;have hik:idx w k20<n:=by rw [←hn];exact GP hw hkR
   have hir:idx w k27.r<n:=by rw [←hn];exact GP hw hrR
   refine AI ?_
   first | refine J (A1 rfl IF Z Z Z) ?_ | refine J (A3 rfl IF Z Z Z) ?_ | refine J (A4 rfl IF Z Z Z) ?_ | refine J (A2 rfl IF Z Z Z) ?_ | refine J (A0 rfl IF Z Z Z) ?_
   first | refine J (AX Z Z Bf rfl) ?_ | refine J (AU Z Z Z Bf rfl) ?_ | refine J (AW Z Z (rfl) rfl Bf rfl) ?_
   first | refine J (EZ Z Z Z) ?_ | refine J (Ea Z Z Z) ?_ | refine J (EF Z Z Z) ?_ | refine J (E0 Try.underlying3 Z Z Z) ?_ | refine J (E5 Try.underlying3 Z Z Z) ?_ | refine J (E4 Try.underlying3 Z Z) ?_ | refine J (E9 Try.underlying3 Z Z) ?_ | refine J (E8 Try.underlying3 Z Z) ?_ | refine J (E3 Try.underlying3 Z Z Z) ?_ | refine J (E7 Try.underlying3 Z Z) ?_
   refine AC Z Z ?_
   first | refine JQ 34 rfl (fun h34=>?_) (fun h34=>?_) | refine ID 34 rfl (fun h34=>?_) (fun h34=>?_)
   ·refine A8 Z Z Z (AC Z Z (A8 Z Z Z (AC Z Z (A8 Z Z Z (J (H8 (f:=7) O k20 0 (idx w k20) Z Z h7 rfl Hu Ec za3 (hO _ hkR) rfl) (A8 Z Z Z (AC Z Z (A8 Z Z Z ?_))))))))
    first | refine J (A1 rfl CC Z Z Z) ?_ | refine J (A3 rfl CC Z Z Z) ?_ | refine J (A4 rfl CC Z Z Z) ?_ | refine J (A2 rfl CC Z Z Z) ?_ | refine J (A0 rfl CC Z Z Z) ?_
    refine A8 Z Z Z ?_
    first | refine J (AX Z Z AY rfl) ?_ | refine J (AU Z Z Z AY rfl) ?_ | refine J (AW Z Z (rfl) rfl AY rfl) ?_
    refine A8 Z Z Z (J (H8 (f:=7) O k27.r 0 (idx w k27.r) Z Z h7 rfl Hu Ec za3 (hO _ hrR) rfl) (A8 Z Z Z ?_))
    first | refine J (G3 Z Z Z) ?_ | refine J (G0 Z Z Z) ?_ | refine J (GX Z Z Z) ?_ | refine J (G4 Try.underlying3 Z Z Z) ?_ | refine J (G6 Try.underlying3 Z Z Z) ?_ | refine J (st_neqN Try.underlying3 Z Z) ?_ | refine J (GZ Try.underlying3 Z Z) ?_ | refine J (st_neqMz Try.underlying3 Z Z) ?_ | refine J (G5 Try.underlying3 Z Z Z) ?_ | refine J (st_neqFN Try.underlying3 Z Z) ?_
    refine J (G1 Z Z Z Z) (AF ?_)
    first | refine BA rfl (fun h43=>?_) (fun h43=>?_) | refine Az rfl (fun h43=>?_) (fun h43=>?_)
    ·have hne:idx w k20≠idx w k27.r:=fun e=>h43 (congrArg Int.ofNat e);have hal:acc2.length≤1000000:=by have h1:=hP2.length_eq;rw [hperm.length_eq,List.length_append] at h1;omega
     have hln:=hA2.len (idx w k20);refine Ee [[],[],[],[1,2],[],[],[],[5,6],[4,5,6,7],[4,5,6,7,8],[],[],[11],[10,11,12],[10,11,12,13],[4,5,6,7,8,9,10,11,12,13,14],[0,1,2,3,4,5,6,7,8,9,10,11,12,13,14,15],[0,1,2,3,4,5,6,7,8,9,10,11,12,13,14,15,16]] mixed rfl (DL ?_)
     first | refine AD [7] [] Z Z (fun _=>AB (A9 Z Z)) ?_ | refine AH [7] Z Z (fun _=>AB (A9 Z Z)) ?_
     first | refine AD [2] [] Z Z (fun _=>AB (A9 Z Z)) ?_ | refine AH [2] Z Z (fun _=>AB (A9 Z Z)) ?_
     first | refine AD [8] [] Z Z (fun _=>AB (A9 Z Z)) ?_ | refine AH [8] Z Z (fun _=>AB (A9 Z Z)) ?_
     refine AD [45,46] [7] Z Z (fun _=>AB (H8 (f:=7) O k20 0 (idx w k20) Z Z h7 rfl Hu Ec za3 (hO _ hkR) rfl)) ?_
     first | refine AD [7] [] Z Z (fun _=>AB (A9 Z Z)) ?_ | refine AH [7] Z Z (fun _=>AB (A9 Z Z)) ?_
     first | refine AD [2] [] Z Z (fun _=>AB (A9 Z Z)) ?_ | refine AH [2] Z Z (fun _=>AB (A9 Z Z)) ?_
     first | refine AD [8] [] Z Z (fun _=>AB (A9 Z Z)) ?_ | refine AH [8] Z Z (fun _=>AB (A9 Z Z)) ?_
     refine AD [49,50] [7] Z Z (fun _=>AB (H8 (f:=7) O k20 0 (idx w k20) Z Z h7 rfl Hu Ec za3 (hO _ hkR) rfl)) ?_
     first | refine AD [48,51] [20] Z Z (fun _=>AB (BE (idx w k20) Z Z (rfl) (hik) Try.underlying101 rfl Cn rfl)) ?_ | refine AD [48,51] [20] Z Z (fun _=>AB (BF (idx w k20) Z Z (rfl) (hik) rfl Try.underlying101 Cn rfl)) ?_
     first | refine AD [52] [20] Z Z (fun _=>AB (AX Z Z Ae rfl)) ?_ | refine AD [52] [20] Z Z (fun _=>AB (AU Z Z Z Ae rfl)) ?_ | refine AD [52] [20] Z Z (fun _=>AB (AW Z Z (Gd hik) rfl Ae rfl)) ?_
     first | refine AD [2] [] Z Z (fun _=>AB (A9 Z Z)) ?_ | refine AH [2] Z Z (fun _=>AB (A9 Z Z)) ?_
     first | refine AD [10] [] Z Z (fun _=>AB (A1 rfl CC Z Z Z)) ?_ | refine AH [10] Z Z (fun _=>AB (A1 rfl CC Z Z Z)) ?_ | refine AD [10] [] Z Z (fun _=>AB (A3 rfl CC Z Z Z)) ?_ | refine AH [10] Z Z (fun _=>AB (A3 rfl CC Z Z Z)) ?_ | refine AD [10] [] Z Z (fun _=>AB (A4 rfl CC Z Z Z)) ?_ | refine AH [10] Z Z (fun _=>AB (A4 rfl CC Z Z Z)) ?_ | refine AD [10] [] Z Z (fun _=>AB (A2 rfl CC Z Z Z)) ?_ | refine AH [10] Z Z (fun _=>AB (A2 rfl CC Z Z Z)) ?_ | refine AD [10] [] Z Z (fun _=>AB (A0 rfl CC Z Z Z)) ?_ | refine AH [10] Z Z (fun _=>AB (A0 rfl CC Z Z Z)) ?_
     first | refine AD [55] [23] Z Z (fun _=>AB (AX Z Z AY rfl)) ?_ | refine AD [55] [23] Z Z (fun _=>AB (AU Z Z Z AY rfl)) ?_ | refine AD [55] [23] Z Z (fun _=>AB (AW Z Z (rfl) rfl AY rfl)) ?_
     refine AD [54,56] [7] Z Z (fun _=>AB (H8 (f:=7) O k27.r 0 (idx w k27.r) Z Z h7 rfl Hu Ec za3 (hO _ hrR) rfl)) (Bp [57] [24] [(58,_)] Z Z (fun _=>IC (HC 24 FP Z Z Z Z Z Z Z Z)) (.inr ⟨58,_,rfl,rfl,rfl,rfl,rfl⟩) Z Z Z Z Z (Bp [53,58] [50,24,60] [(59,_)] Z Z (fun _=>IC (IJ 53 60 50 (hN2.at_ (idx w k20) hik) Z Z (by rw [List.length_map]) Z Z Z Z Z (J1 (emb:=natD) (L2 (idx w k20)) [idx w k27.r] Z Z Z Z Z Z Z Z FP (by show ((L2 (idx w k20)).length+1)*8≤_;omega) Z Z Z Z))) (.inr ⟨59,_,rfl,rfl,rfl,rfl,rfl⟩) Z Z Z Z Z (DM 16 Z Z Z (BI 17 Z Z (Ff 59 60 50 hF Z Z Z (by rw [List.length_map]) (by simp) Z Z Z Z Z Z Z (fun _ _=>rfl) fun b1 c1 hb1 hc1=>?_)))));have hN3:=hN2.app hik hb1 hc1
     first | refine J (BE (idx w k20) Z Z (rfl) (hik) Try.underlying101 rfl Cn rfl) ?_ | refine J (BF (idx w k20) Z Z (rfl) (hik) rfl Try.underlying101 Cn rfl) ?_
     refine AF ⟨rfl,?_⟩;refine BI 18 Z Z (U (Zcs Z Z Z Z Z (by rw [ER];exact hik) (Id (h:=some (b1,c1))) rfl Cn) (AF ⟨rfl,?_⟩));refine ED ?_;exact ⟨(seen2++ [b27],acc2++ [⟨k20,k27.t,k27.r⟩],An hs2 (idx w k20) (some (b1,c1)),_,_),⟨Gg hP2 hp27,hN3,hA2.hit (l:=⟨k20,k27.t,k27.r⟩) h34 hne⟩,by show (Ba (Ck (lk hd)) B2 (seen2++ [b27])).length<(Ba (Ck (lk hd)) B2 seen2).length;rw [hp27.length_eq];exact Nat.lt_succ_self _,BC hF [20,21,22,40,7,50] rfl (rfl) ⟨rfl,rfl,rfl,rfl,rfl,rfl,trivial⟩⟩
    ·refine Ai ?_;exact ⟨(seen2++ [b27],acc2++ [⟨k20,k27.t,k27.r⟩],hs2,L2,M52),⟨Gg hP2 hp27,hN2,hA2.skip (l:=⟨k20,k27.t,k27.r⟩) (fun hh=>h43 (fun e=>hh.2 (Int.ofNat.inj e)))⟩,by show (Ba (Ck (lk hd)) B2 (seen2++ [b27])).length<(Ba (Ck (lk hd)) B2 seen2).length;rw [hp27.length_eq];exact Nat.lt_succ_self _,BC hF [20,21,22,40,7,50] rfl (rfl) ⟨rfl,rfl,rfl,rfl,rfl,rfl,trivial⟩⟩
   ·refine Ay Z Z Z Z (Ay Z Z Z Z (Ay Z Z Z Z ?_));refine Ay Z Z Z Z (Ay Z Z Z Z (Ay Z Z Z Z (Ay Z Z Z Z (Ay Z Z Z Z (J (Ey Z Z Z Z) (AF (D4 Z Z (Ai ?_))))))));exact ⟨(seen2++ [b27],acc2++ [⟨k20,k27.t,k27.r⟩],hs2,L2,M52),⟨Gg hP2 hp27,hN2,hA2.skip (l:=⟨k20,k27.t,k27.r⟩) (fun hh=>h34 hh.1)⟩,by show (Ba (Ck (lk hd)) B2 (seen2++ [b27])).length<(Ba (Ck (lk hd)) B2 seen2).length;rw [hp27.length_eq];exact Nat.lt_succ_self _,BC hF [20,21,22,40,7,50] rfl (rfl) ⟨rfl,rfl,rfl,rfl,rfl,rfl,trivial⟩⟩
abbrev Hy (g:Grp):D:= .agg [stsD g.m,natsD g.a]
abbrev DJ (l:List Grp):D:= .sl none (l.map Hy)
def DH (ord:List Nat) (i:Nat):Int:=if i∈ord then (ord.idxOf i:Int) else -1
theorem Gk {ord:List Nat} {i:Nat}:DH ord i<0↔i∉ord:=by
 unfold DH
 split
 ·rename_i h;simp [h]
 ·rename_i h;simp [h]
theorem QQ:DH []=fun _=> -1:=by funext i;simp [DH]
theorem Ok {ord:List Nat} {i:Nat} (h:i∉ord):An (DH ord) i (ord.length:Int)=DH (ord++ [i]):=by
 funext j
 unfold DH An;show (if j=i then (ord.length:Int) else (if j∈ord then (ord.idxOf j:Int) else -1))=if j∈ord++ [i] then ((ord++ [i]).idxOf j:Int) else -1
 by_cases e:j=i
 ·subst e;rw [if_pos rfl,if_pos (by simp),List.idxOf_append,if_neg h]
  simp
 ·rw [if_neg e]
  by_cases hj:j∈ord
  ·rw [if_pos hj,if_pos (by simp [hj]),List.idxOf_append,if_pos hj]
  ·rw [if_neg hj,if_neg (by simp [hj,e])]
theorem KQ (w:Ws) (ord:List Nat) (i:Nat):grpS w (ord++ [i])=grpS w ord++ [⟨(parts w).getD i [],EY (depL w) ord i ord.length⟩]:=by
 unfold grpS;rw [List.length_append,List.length_singleton,List.range_succ,List.map_append]
 have hg:∀k,k<ord.length ->(ord++ [i]).getD k 0=ord.getD k 0:=fun k hk=>by
  rw [List.getD_eq_getElem?_getD,List.getD_eq_getElem?_getD,List.getElem?_append_left hk]
 have ha:∀j p,p≤ord.length ->EY (depL w) (ord++ [i]) j p=EY (depL w) ord j p:=fun j p hp=>by
  unfold EY;exact List.filter_congr fun k hk=>by rw [hg k (by have:=List.mem_range.1 hk;omega)]
 congr 1
 ·refine List.map_congr_left fun p hp=>?_;have hp:=List.mem_range.1 hp;rw [hg p hp,ha _ p (Nat.le_of_lt hp)]
 ·simp only [List.map_cons,List.map_nil];have:(ord++ [i]).getD ord.length 0=i:=by simp [List.getD_eq_getElem?_getD]
  rw [this,ha _ _ (Nat.le_refl _)]
theorem O1 {l m:List Nat} (h:l.Nodup) (hm:m.Pairwise (· < ·)) (he:∀x,x∈l↔x∈m):Cp l=m:=by
 have h1:=(Eh l).nodup_iff.2 h;refine I8 ?_ hm fun x=>((Eh l).mem_iff).trans (he x);exact (List.Pairwise.and (Gb l) h1).imp fun ⟨h2,h3⟩=>by omega
theorem Mg {w:Ws} {ord:List Nat} {i:Nat} (hnd:ord.Nodup) (hd:∀k∈depL w i,k∈ord):Cp ((depL w i).map ord.idxOf)=EY (depL w) ord i ord.length:=by
 have hat:∀k∈ord,ord[ord.idxOf k]?=some k:=fun k hk=>by
  have hlt:=List.idxOf_lt_length_iff.2 hk;rw [List.getElem?_eq_getElem hlt,List.getElem_idxOf hlt]
 refine O1 ?_ (List.Pairwise.sublist List.filter_sublist List.pairwise_lt_range) fun p=>?_
 ·rw [List.nodup_iff_pairwise_ne,List.pairwise_map];refine List.Pairwise.imp_of_mem (fun {a b} ha hb hab e=>?_) (Gy w i);have h1:=hat a (hd a ha);rw [e,hat b (hd b hb)] at h1;injection h1 with h1
  omega
 ·unfold EY;rw [List.mem_map,List.mem_filter,List.mem_range,List.contains_iff_mem]
  constructor
  ·rintro ⟨k,hk,rfl⟩;have h1:=hat k (hd k hk);refine ⟨(List.getElem?_eq_some_iff.1 h1).1,?_⟩;rw [List.getD_eq_getElem?_getD,h1];exact hk
  ·rintro ⟨hp,hk⟩;refine ⟨_,hk,?_⟩;have h2:ord[p]?=some (ord.getD p 0):=by rw [List.getD_eq_getElem?_getD,List.getElem?_eq_getElem hp];rfl
   have h3:=hat _ (hd _ hk);have hn:=List.nodup_iff_pairwise_ne.1 hnd;have hlt:=(List.getElem?_eq_some_iff.1 h3).1;refine Classical.byContradiction fun hne=>?_;have e1:=(List.getElem?_eq_some_iff.1 h3).2;have e2:=(List.getElem?_eq_some_iff.1 h2).2;rcases Nat.lt_or_gt_of_ne hne with h4 | h4
   ·exact (List.pairwise_iff_getElem.1 hn _ _ hlt hp h4) (e1.trans e2.symm)
   ·exact (List.pairwise_iff_getElem.1 hn _ _ hp hlt h4) (e2.trans e1.symm)
abbrev HN (n:Nat) (f:Nat ->Int):Hp:=[(930,[.blk 49 [.own 931 0 n]]),(931,[.rowD 3 1 (Lg n f)])]
theorem ord1_c (n:Nat) (f:Nat ->Int) (k:Nat) (hk:k<n):AR Try.prog 59 [.d (natD k),.ptr 930 0 0] (HN n f) fun r H'=>r= .d (Ak (decide (f k<0)))∧H'=HN n f:=by
 refine DA Try.func59 Z Z Try.ntmps59 Z Z Z fun F hF=>(AG (AI (AE Z Z (AF (AG (AI ?_))))))
 first | refine J (AX Z Z Ae rfl) ?_ | refine J (AU Z Z Z Ae rfl) ?_ | refine J (AW Z Z (rfl) rfl Ae rfl) ?_
 refine AC Z Z ?_
 first | refine J (BE (k) Z Z (rfl) (hk) Try.underlying49 rfl D7 rfl) ?_ | refine J (BF (k) Z Z (rfl) (hk) rfl Try.underlying49 D7 rfl) ?_
 first | refine J (AX Z Z Bf rfl) ?_ | refine J (AU Z Z Z Bf rfl) ?_ | refine J (AW Z Z (Ic hk) rfl Bf rfl) ?_
 first | refine J (Ed Z Z Z) ?_ | refine J (Ef Z Z Z) ?_
 refine AE Z Z (AF (Au ?_));exact ⟨_,[930,931],_,Aq rfl,rfl,rfl,rfl,rfl⟩
def ixN (f:Nat ->Int) (l:List Nat):Int:=match l.findIdx? (fun k=>decide (f k<0)) with
 | some i=>(i:Int)
 | none=> -1
theorem ixN_at {f:Nat ->Int} {l:List Nat} {j:Nat} (hj:j<l.length) (h0:∀i,i<j ->¬f (C6 l i)<0) (h:f (C6 l j)<0):ixN f l=(j:Int):=by
 have:l.findIdx? (fun k=>decide (f k<0))=some j:=by
  rw [List.findIdx?_eq_some_iff_getElem];refine ⟨hj,by rw [←Cj hj];simpa using h,fun i hi=>?_⟩;have:=h0 i hi;rw [Cj (by omega)] at this
  simpa using this
 unfold ixN;rw [this]
theorem ixN_no {f:Nat ->Int} {l:List Nat} (h0:∀i,i<l.length ->¬f (C6 l i)<0):ixN f l= -1:=by
 have:l.findIdx? (fun k=>decide (f k<0))=none:=by
  rw [List.findIdx?_eq_none_iff];intro x hx;obtain ⟨i,hi,rfl⟩:=List.getElem_of_mem hx;have:=h0 i hi;rw [Cj hi] at this
  simpa using this
 unfold ixN;rw [this]
abbrev o1A:AV:= .fn 59 [.ptr 930 0 0]
theorem idxF_c (n:Nat) (f:Nat ->Int) (l:List Nat) (hl:∀k∈l,k<n) (hll:l.length≤1000000):AR Try.prog 74 [.d (natsD l),o1A] (HN n f) fun r H'=>r= .d (Bv (ixN f l))∧H'=HN n f:=by
 refine DA Try.func74 Z Z Try.ntmps74 Z Z Z fun F hF=>(AG (AI (AE Z Z (AF ?_))));refine AG (AG (AI (AC Z Z (J (Br rfl (List.length_map ..) Try.underlying49 rfl) (AC Z Z (AF (B7 (Na (α:=Nat) (fun j=>⟨19,[(0,.d (natsD l)),(1,o1A),(7,(.d (natD l.length))),(8,(.d (natD j)))],HN n f⟩) (fun j=>j≤l.length∧∀i,i<j ->¬f (C6 l i)<0) (fun j=>l.length - j) (0) (⟨Nat.zero_le _,fun i hi=>by omega⟩) (Fj ⟨rfl,rfl,rfl,rfl,trivial⟩) ?_))))))));rintro j ⟨hj,h0⟩;refine AG (AI ?_)
 first | refine J (Ed Z Z Z) ?_ | refine J (Ef Z Z Z) ?_
 refine AF (AG ?_)
 first | refine BA rfl (fun h9=>?_) (fun h9=>?_) | refine Az rfl (fun h9=>?_) (fun h9=>?_)
 ·have hjl:j<l.length:=HB h9;refine Ai (AG (B7 (AG ?_)));refine AI (AC Z Z (AE Z Z (AF (AG (AI (AC Z Z (AC Z Z (AC Z Z ?_))))))))
  first | refine J (BE (j) Z Z (rfl) (D0 hjl) Try.underlying49 rfl D7 rfl) ?_ | refine J (BF (j) Z Z (rfl) (D0 hjl) rfl Try.underlying49 D7 rfl) ?_
  first | refine J (AX Z Z Bf rfl) ?_ | refine J (AU Z Z Z Bf rfl) ?_ | refine J (AW Z Z (rfl) rfl Bf rfl) ?_
  refine U (Jm (ord1_c n f (C6 l j) (hl _ (Fg hjl))) rfl [930,931] ⟨rfl,rfl,trivial⟩ Z Z Z Z Z Z Z Z Z) (AF ?_)
  first | refine BA rfl (fun h16=>?_) (fun h16=>?_) | refine Az rfl (fun h16=>?_) (fun h16=>?_)
  ·refine AG (AI (AC Z Z (AE Z Z (AF (Au ?_)))));exact ⟨_,[930,931],_,Aq rfl,rfl,rfl,by rw [ixN_at hjl h0 h16],rfl⟩
  ·refine Ai (AI (J (Cm Z Z (IntWalk.i64_in _ (by omega)) rfl) (AC Z Z (AF ?_))));exact ⟨j+1,⟨hjl,fun i hi=>by by_cases e:i=j;subst e;exact h16;exact h0 i (by omega)⟩,by show l.length - (j+1)<l.length - j;omega,⟨rfl,rfl,fun _ _=>Has.get (l:=[(0,_),(1,_),(7,_),(8,_)]) ⟨rfl,rfl,rfl,rfl,trivial⟩⟩⟩
 ·refine Dq (AG (AI (AE Z Z (AF (Au ?_)))));exact ⟨_,[930,931],_,Aq rfl,rfl,rfl,by rw [ixN_no fun i hi=>h0 i (by have:=h9;omega)],rfl⟩
theorem ixN_any (f:Nat ->Int) (l:List Nat):decide (0≤ixN f l)=decide (∃k∈l,f k<0):=by
 unfold ixN
 cases h:l.findIdx? (fun k=>decide (f k<0)) with
 | some i=>
  obtain ⟨h1,h2,_⟩:=List.findIdx?_eq_some_iff_getElem.1 h;rw [decide_eq_true (show (0:Int)≤(i:Int) by omega),decide_eq_true];exact ⟨_,List.getElem_mem h1,by simpa using h2⟩
 | none=>
  rw [List.findIdx?_eq_none_iff] at h;rw [decide_eq_false (by decide),decide_eq_false];rintro ⟨k,hk,h1⟩;have:=h k hk
  simp at this;omega
theorem contF_c (n:Nat) (f:Nat ->Int) (l:List Nat) (hl:∀k∈l,k<n) (hll:l.length≤1000000):AR Try.prog 58 [.d (natsD l),o1A] (HN n f) fun r H'=>r= .d (Ak (decide (∃k∈l,f k<0)))∧H'=HN n f:=by
 refine DA Try.func58 Z Z Try.ntmps58 Z Z Z fun F hF=>(AG (AI (AE Z Z (AF ?_))));refine AG (AI (AC Z Z (AC Z Z (U (GD (idxF_c n f l hl hll) rfl [930,931] ⟨rfl,rfl,trivial⟩ Z Z Z Z Z Z Z Z Z) (J (Ki Z Z Z) (AE Z Z (AF (Au ?_))))))));exact ⟨_,[930,931],_,Aq rfl,rfl,rfl,by rw [←ixN_any],rfl⟩
theorem Qw (w:Ws) (i:Nat):(depL w i).length≤(parts w).length:=by
 unfold depL;exact Nat.le_trans (List.length_filter_le _ _) (Nat.le_of_eq List.length_range)
theorem IU {w:Ws} {i:Nat} (hi:i<(parts w).length):((depG w).map natsD)[i]?=some (natsD (depL w i)):=by
 rw [List.getElem?_map,depG,List.getElem?_map,List.getElem?_range hi];rfl
theorem JX {w:Ws} {i:Nat} (hi:i<(parts w).length):((parts w).map stsD)[i]?=some (stsD ((parts w).getD i [])):=by
 rw [List.getElem?_map,List.getElem?_eq_getElem hi,List.getD_eq_getElem?_getD,List.getElem?_eq_getElem hi];rfl
theorem rdy_num {dp:Nat ->List Nat} {ord:List Nat} {i:Nat} (h1:DH ord i<0) (h2:¬∃k∈dp i,DH ord k<0):Fs dp ord i=true:=
 CY.2 ⟨Gk.1 h1,fun k hk=>Classical.byContradiction fun h=>h2 ⟨k,hk,Gk.2 h⟩⟩
theorem Ps {dp:Nat ->List Nat} {ord:List Nat} {i:Nat} (h1:¬DH ord i<0):Fs dp ord i=false:=by
 rw [Bool.eq_false_iff];exact fun h=>h1 (Gk.2 (CY.1 h).1)
theorem Pr {dp:Nat ->List Nat} {ord:List Nat} {i:Nat} (h2:∃k∈dp i,DH ord k<0):Fs dp ord i=false:=by
 rw [Bool.eq_false_iff];intro h;obtain ⟨k,hk,h3⟩:=h2;exact Gk.1 h3 ((CY.1 h).2 k hk)
structure Ha (w:Ws) (ord:List Nat):Prop where
 good:C5 (parts w).length (depL w) ord
 run:Gc (parts w).length (depL w) ((parts w).length - ord.length) ord=ordW w
theorem Ha.zero (w:Ws):Ha w []:=⟨C5.nil,rfl⟩
theorem Ha.next {w:Ws} {ord:List Nat} (h:Ha w ord) (hl:ord.length<(parts w).length) {i:Nat} (hi:HW (parts w).length (depL w) ord=some i):Ha w (ord++ [i]):=by
 obtain ⟨h1,h2,h3⟩:=ET hi;refine ⟨h.good.snoc h1 h2 h3,?_⟩;have hr:=h.run;rw [show (parts w).length - ord.length=((parts w).length - (ord++ [i]).length)+1 by simp;omega] at hr;simp only [Gc,hi] at hr;exact hr
theorem Ha.stop {w:Ws} {ord:List Nat} (h:Ha w ord) (hl:ord.length<(parts w).length) (hi:HW (parts w).length (depL w) ord=none):ordW w=none:=by
 have hr:=h.run;rw [show (parts w).length - ord.length=((parts w).length - ord.length - 1)+1 by omega] at hr;simp only [Gc,hi] at hr;exact hr.symm
theorem Ha.fin {w:Ws} {ord:List Nat} (h:Ha w ord) (hl:¬ord.length<(parts w).length):ordW w=some ord:=by
 have hr:=h.run;rw [show (parts w).length - ord.length=0 by omega] at hr;exact hr.symm
theorem LB {w:Ws} (h:ordW w=none):groupsW w=[]∧acyW w=false:=by unfold groupsW acyW;rw [h];exact ⟨rfl,rfl⟩
theorem IS {w:Ws} {ord:List Nat} (h:ordW w=some ord):groupsW w=grpS w ord∧acyW w=true:=by unfold groupsW acyW;rw [h];exact ⟨rfl,rfl⟩
theorem FZ (w:Ws) (ord:List Nat):(grpS w ord).length=ord.length:=by simp [grpS]
theorem upd_neg {f:Nat ->Int} {k j:Nat} (hf:∀j,j<k ->f j= -1) (hj:j<k+1):An f k (-1) j= -1:=by
 by_cases e:j=k
 ·rw [e];exact Ds ..
 ·rw [E6 e];exact hf j (by omega)
set_option maxHeartbeats 2000000 in
theorem Gj {M:MF} {b:Nat} {w:Ws} (h:BR M b w) (hw:BV w) (hK:w.K.length≤1000000):AR Try.prog 38 [.d (pD b 0)] [(40,[.multi M])] fun r H'=>r= .d (.tup [DJ (groupsW w),Ak (acyW w)])∧H'=[(40,[.multi M])]:=by
 have hfew:=hw.few
 obtain ⟨n,hn⟩:∃n,(parts w).length=n:=⟨_,rfl⟩
 have hnR:n≤4096:=by rw [←hn];unfold parts;rw [List.length_map];exact Nat.le_trans (List.length_filter_le _ _) hfew
 refine DA Try.func38 Z Z Try.ntmps38 Z Z Z fun F hF=>?_;refine AG (AI (AE Z Z (MA 2 rfl (AE Z Z (AF (AG (AI (AC Z Z ?_))))))));refine H7 (IZ (Nm h hw hK) rfl [40,6] ⟨rfl,rfl,trivial⟩ Z Z Z Z (fun r H' ⟨O,e1,e2,_⟩=>by subst e1 e2;exact ⟨rfl,rfl,rfl⟩) rfl) rfl ?_;rintro _ ⟨r,H',⟨O,e1,e2,hO⟩,rfl⟩;subst e1 e2;refine AC Z Z ?_
 first | refine J (B4 Z Z Z) ?_ | refine J (B5 Z Z Z) ?_
 first | refine J (B4 Z Z Z) ?_ | refine J (B5 Z Z Z) ?_
 refine AE Z Z (AE Z Z (AF (AG (Fn 7 Z Z Z (K4 5 6 7 hF Z Z Z Z Z Z Z Z Z Z (fun _=>rfl) fun x7 _=>?_)))))
 obtain ⟨M7,hM7⟩:∃M7,BD (fun _=>none) x7 (.map (some (List.range O.length,O.length)) (Ad AZ natD O))=M7:=⟨_,rfl⟩
 rw [hM7];have h7:M7 x7=some (.map (some (List.range O.length,O.length)) (Ad AZ natD O)):=by rw [←hM7,D3]
 refine AI (AC Z Z (AC Z Z (AC Z Z (U (GD (Qv h hw hK hO h7) rfl [40,7] ⟨rfl,rfl,trivial⟩ Z Z Z Z Z Z Z Z Z) (AE Z Z (AF (AG ?_)))))));refine AI (AC Z Z (J (Br rfl ((List.length_map ..).trans hn) Try.underlying79 rfl) (U (II 931 FP Z Z Z (by omega) zd3 Z Z Z Z) (U (HG 930 zl49 Z Z Z Z) (U (Bm Z Z Z Z Z Z Z Cn) (AF (AG (AG ?_))))))));rw [repI];refine AI ?_
 first | refine J (AX Z Z Ae rfl) ?_ | refine J (AU Z Z Z Ae rfl) ?_ | refine J (AW Z Z (rfl) rfl Ae rfl) ?_
 first | refine J (J0 rfl Try.underlying49 rfl) ?_ | refine J (Br Z Z Try.underlying49 rfl) ?_ | refine J (JW rfl Try.underlying49 rfl) ?_ | refine J (JY rfl Try.underlying49 rfl) ?_ | refine J (JV rfl Try.underlying49 rfl) ?_ | refine J (JP rfl Try.underlying49 rfl) ?_
 refine AC Z Z (AF (B7 (FC (α:=Nat×(Nat ->Int)) (fun q=>⟨103,[(0,.d (pD b 0)),(4,(.d (DD (parts w)))),(6,(.d (grD (depG w)))),(7,(.ptr 930 0 0)),(29,(.d (natD n))),(30,(.d (natD q.1)))],(40,[.multi M])::HN n q.2⟩) (fun q=>q.1≤n∧∀j,j<q.1 ->q.2 j= -1) (fun q=>n - q.1) ((0,fun _=>0)) (⟨Nat.zero_le _,fun j hj=>by omega⟩) (BC hF [40,930,931] Z Z ⟨rfl,rfl,rfl,rfl,rfl,rfl,trivial⟩) ?_)));rintro ⟨k,f⟩ ⟨hk,hf⟩;dsimp only at hk hf⊢;refine AG (AI ?_)
 first | refine J (Ed Z Z Z) ?_ | refine J (Ef Z Z Z) ?_
 refine AF (AG ?_)
 first | refine BA rfl (fun h31=>?_) (fun h31=>?_) | refine Az rfl (fun h31=>?_) (fun h31=>?_)
 ·refine Ai (AG (B7 (AG ?_)));have hkl:k<n:=HB h31;refine AI (AC Z Z (AE Z Z (AF (AI ?_))))
  first | refine J (AX Z Z Ae rfl) ?_ | refine J (AU Z Z Z Ae rfl) ?_ | refine J (AW Z Z (rfl) rfl Ae rfl) ?_
  refine AC Z Z ?_
  first | refine J (BE (k) Z Z (rfl) (hkl) Try.underlying49 rfl D7 rfl) ?_ | refine J (BF (k) Z Z (rfl) (hkl) rfl Try.underlying49 D7 rfl) ?_
  refine U (Zcs Z Z Z Z Z (by rw [Ld];exact hkl) Lc rfl D7) (AF (AI (J (Cm Z Z (IntWalk.i64_in _ (by omega)) rfl) (AC Z Z (AF ?_)))));exact ⟨(k+1,An f k (-1)),⟨hkl,fun j hj=>upd_neg hf hj⟩,by show n - (k+1)<n - k;omega,BC hF [40,930,931] rfl (rfl) ⟨rfl,rfl,rfl,rfl,rfl,rfl,trivial⟩⟩
 ·refine Dq (AG ?_);have hkn:k=n:=by have:=h31;omega
  subst hkn;have hro:Lg k f=Lg k (DH []):=by rw [QQ];exact List.map_congr_left fun j hj=>by rw [hf j (List.mem_range.1 hj)]
  unfold HN;rw [hro];refine AI (AE Z Z (AF (AG (B7 (Fo 9 932 sl47 Z Z Z Z (FC (α:=List Nat×List Grp) (fun q=>⟨103,[(0,.d (pD b 0)),(4,(.d (DD (parts w)))),(6,(.d (grD (depG w)))),(7,(.ptr 930 0 0)),(9,(.own 932 0 q.2.length))],(40,[.multi M])::(932,[.rowD 51 2 (q.2.map Hy)])::HN k (DH q.1)⟩) (fun q=>Ha w q.1∧q.2=grpS w q.1) (fun q=>k - q.1.length) (([],[])) (⟨Ha.zero w,rfl⟩) (BC hF [40,932,930,931] Z Z ⟨rfl,rfl,rfl,rfl,rfl,trivial⟩) ?_))))));rintro ⟨ord,gs⟩ ⟨hI,hgs⟩;dsimp only at hI hgs⊢;refine AG (AG (AI (AC Z Z ?_)))
  first | refine J (J0 rfl Try.underlying47 rfl) ?_ | refine J (Br Z Z Try.underlying47 rfl) ?_ | refine J (JW rfl Try.underlying47 rfl) ?_ | refine J (JY rfl Try.underlying47 rfl) ?_ | refine J (JV rfl Try.underlying47 rfl) ?_ | refine J (JP rfl Try.underlying47 rfl) ?_
  refine AC Z Z (J (Br rfl ((List.length_map ..).trans hn) Try.underlying79 rfl) ?_)
  first | refine J (Ed Z Z Z) ?_ | refine J (Ef Z Z Z) ?_
  refine AF ?_
  first | refine BA rfl (fun h41=>?_) (fun h41=>?_) | refine Az rfl (fun h41=>?_) (fun h41=>?_)
  ·refine Ai (B7 (AG ?_));have hgl:gs.length=ord.length:=by rw [hgs,FZ]
   have hlt:gs.length<k:=HB h41;refine AI (AE Z Z (AF ?_));refine AG (AG (AI (AC Z Z (J (Br rfl ((List.length_map ..).trans hn) Try.underlying79 rfl) (AC Z Z (AF (B7 (FC (α:=Nat) (fun i=>⟨103,[(0,.d (pD b 0)),(4,(.d (DD (parts w)))),(6,(.d (grD (depG w)))),(7,(.ptr 930 0 0)),(9,(.own 932 0 gs.length)),(10,(.d (Bv (-1)))),(43,(.d (natD k))),(44,(.d (natD i)))],(40,[.multi M])::(932,[.rowD 51 2 (gs.map Hy)])::HN k (DH ord)⟩) (fun i=>i≤k∧∀j,j<i ->Fs (depL w) ord j=false) (fun i=>k - i) (0) (⟨Nat.zero_le _,fun j hj=>by omega⟩) (BC hF [40,932,930,931] Z Z ⟨rfl,rfl,rfl,rfl,rfl,rfl,rfl,rfl,trivial⟩) ?_))))))));rintro i ⟨hi,hnr⟩;refine AG (AI ?_)
   first | refine J (Ed Z Z Z) ?_ | refine J (Ef Z Z Z) ?_
   refine AF (AG ?_)
   first | refine BA rfl (fun h45=>?_) (fun h45=>?_) | refine Az rfl (fun h45=>?_) (fun h45=>?_)
   ·refine Ai (AG (B7 (AG ?_)));have hil:i<k:=HB h45;have hil':i<(parts w).length:=by rw [hn];exact hil
    have hdl:(depL w i).length≤4096:=Nat.le_trans (Qw w i) (by omega);refine AI (AC Z Z (AE Z Z (AF (AG (AI ?_)))))
    first | refine J (AX Z Z Ae rfl) ?_ | refine J (AU Z Z Z Ae rfl) ?_ | refine J (AW Z Z (rfl) rfl Ae rfl) ?_
    refine AC Z Z ?_
    first | refine J (BE (i) Z Z (rfl) (hil) Try.underlying49 rfl D7 rfl) ?_ | refine J (BF (i) Z Z (rfl) (hil) rfl Try.underlying49 D7 rfl) ?_
    first | refine J (AX Z Z Bf rfl) ?_ | refine J (AU Z Z Z Bf rfl) ?_ | refine J (AW Z Z (Ic hil) rfl Bf rfl) ?_
    first | refine J (Ed Z Z Z) ?_ | refine J (Ef Z Z Z) ?_
    refine AC Z Z ?_
    first | refine JQ 52 rfl (fun h52=>?_) (fun h52=>?_) | refine ID 52 rfl (fun h52=>?_) (fun h52=>?_)
    ·refine A8 Z Z Z (AC Z Z (A8 Z Z Z (AC Z Z (A8 Z Z Z ?_))))
     first | refine J (BE (i) Z Z (rfl) (IU hil') Try.underlying101 rfl Cn rfl) ?_ | refine J (BF (i) Z Z (rfl) (IU hil') rfl Try.underlying101 Cn rfl) ?_
     refine A8 Z Z Z ?_
     first | refine J (AX Z Z Ae rfl) ?_ | refine J (AU Z Z Z Ae rfl) ?_ | refine J (AW Z Z (rfl) rfl Ae rfl) ?_
     refine A8 Z Z Z (J (FO Z Z) (A8 Z Z Z (U (GD (contF_c k (DH ord) (depL w i) (fun x hx=>by rw [←hn];exact Gz hx) (by omega)) rfl [930,931] ⟨rfl,rfl,trivial⟩ Z Z Z Z Z Z Z Z Z) (A8 Z Z Z ?_))))
     first | refine J (EG Z Z) ?_ | refine J (EE Z Z) ?_
     refine J (G1 Z Z Z Z) (AE Z Z (AF (AG (AI (AC Z Z (AF ?_))))))
     first | refine BA rfl (fun h61=>?_) (fun h61=>?_) | refine Az rfl (fun h61=>?_) (fun h61=>?_)
     ·refine AG ?_;refine AI (AC Z Z (AE Z Z (AF (Dq (AG (AG (AI (AC Z Z ?_))))))))
      first | refine J (Ed Z Z Z) ?_ | refine J (Ef Z Z Z) ?_
      refine AF (D4 rfl ((decide_eq_false (by omega))) (Ai (AG ?_)));have hrd:=rdy_num h52 h61;have hnx:HW (parts w).length (depL w) ord=some i:=Em hil' hrd hnr;obtain ⟨_,hio,hds⟩:=ET hnx;refine AI (AC Z Z (AC Z Z ?_))
      first | refine J (BE (i) Z Z (rfl) (JX hil') Try.underlying79 rfl CG rfl) ?_ | refine J (BF (i) Z Z (rfl) (JX hil') rfl Try.underlying79 CG rfl) ?_
      first | refine J (AX Z Z AL rfl) ?_ | refine J (AU Z Z Z AL rfl) ?_ | refine J (AW Z Z (rfl) rfl AL rfl) ?_
      refine J (Ml zl51 pl51 Z Z Z) (U (HG 940 zl51 Z Z Z Z) (U (Bm Z Z Z Z Z Z Z DV) (AF (AG (AG (AI (AC Z Z (AC Z Z ?_))))))))
      first | refine J (BE (i) Z Z (rfl) (IU hil') Try.underlying101 rfl Cn rfl) ?_ | refine J (BF (i) Z Z (rfl) (IU hil') rfl Try.underlying101 Cn rfl) ?_
      first | refine J (AX Z Z Ae rfl) ?_ | refine J (AU Z Z Z Ae rfl) ?_ | refine J (AW Z Z (rfl) rfl Ae rfl) ?_
      refine J (Br rfl (List.length_map ..) Try.underlying49 rfl) (AC Z Z (AF (B7 (D1 940 0 1 933 FP Z Z Z Z Z Z Z (FC (α:=Nat×List Int) (fun q=>⟨103,[(0,.d (pD b 0)),(4,(.d (DD (parts w)))),(6,(.d (grD (depG w)))),(7,(.ptr 930 0 0)),(9,(.own 932 0 gs.length)),(10,(.d (natD i))),(13,(.ptr 940 0 0)),(74,(.d (natsD (depL w i)))),(75,(.d (natD (depL w i).length))),(76,(.d (natD q.1)))],(40,[.multi M])::(932,[.rowD 51 2 (gs.map Hy)])::(940,[.blk 51 [.d (stsD ((parts w).getD i [])),.own 933 0 q.2.length]])::(933,[.rowD 3 1 (q.2.map Bv)])::HN k (DH ord)⟩) (fun q=>q.1≤(depL w i).length∧q.2=((depL w i).take q.1).map (DH ord)) (fun q=>(depL w i).length - q.1) ((0,[])) (⟨Nat.zero_le _,rfl⟩) (BC hF [40,932,940,933,930,931] Z Z ⟨rfl,rfl,rfl,rfl,rfl,rfl,rfl,rfl,rfl,rfl,trivial⟩) ?_)))));rintro ⟨j,acc⟩ ⟨hj,hacc⟩;dsimp only at hj hacc⊢;refine AG (AI ?_)
      first | refine J (Ed Z Z Z) ?_ | refine J (Ef Z Z Z) ?_
      refine AF (AG ?_)
      first | refine BA rfl (fun h77=>?_) (fun h77=>?_) | refine Az rfl (fun h77=>?_) (fun h77=>?_)
      ·refine Ai (AG (B7 (AG ?_)));have hjl:j<(depL w i).length:=HB h77;have hal:acc.length≤4096:=by rw [hacc,List.length_map,List.length_take];omega
       have hkl2:C6 (depL w i) j<k:=by rw [←hn];exact Gz (Fg hjl)
       refine AI ?_
       first | refine J (BE (j) Z Z (rfl) (D0 hjl) Try.underlying49 rfl D7 rfl) ?_ | refine J (BF (j) Z Z (rfl) (D0 hjl) rfl Try.underlying49 D7 rfl) ?_
       first | refine J (AX Z Z Bf rfl) ?_ | refine J (AU Z Z Z Bf rfl) ?_ | refine J (AW Z Z (rfl) rfl Bf rfl) ?_
       refine AE Z Z (AF (Ee [[],[0],[],[],[2,3],[2,3,4],[2,3,4,5],[0,1,2,3,4,5,6],[0,1,2,3,4,5,6,7],[0,1,2,3,4,5,6,7,8]] mixed rfl (DL ?_)))
       first | refine AD [13] [] Z Z (fun _=>AB (A1 rfl Cf Z Z Z)) ?_ | refine AH [13] Z Z (fun _=>AB (A1 rfl Cf Z Z Z)) ?_ | refine AD [13] [] Z Z (fun _=>AB (A3 rfl Cf Z Z Z)) ?_ | refine AH [13] Z Z (fun _=>AB (A3 rfl Cf Z Z Z)) ?_ | refine AD [13] [] Z Z (fun _=>AB (A4 rfl Cf Z Z Z)) ?_ | refine AH [13] Z Z (fun _=>AB (A4 rfl Cf Z Z Z)) ?_ | refine AD [13] [] Z Z (fun _=>AB (A2 rfl Cf Z Z Z)) ?_ | refine AH [13] Z Z (fun _=>AB (A2 rfl Cf Z Z Z)) ?_ | refine AD [13] [] Z Z (fun _=>AB (A0 rfl Cf Z Z Z)) ?_ | refine AH [13] Z Z (fun _=>AB (A0 rfl Cf Z Z Z)) ?_
       first | refine AD [80] [940] Z Z (fun _=>AB (AX Z Z Ae rfl)) ?_ | refine AD [80] [940] Z Z (fun _=>AB (AU Z Z Z Ae rfl)) ?_ | refine AD [80] [940] Z Z (fun _=>AB (AW Z Z (rfl) rfl Ae rfl)) ?_
       first | refine AD [7] [930] Z Z (fun _=>AB (AX Z Z Ae rfl)) ?_ | refine AD [7] [930] Z Z (fun _=>AB (AU Z Z Z Ae rfl)) ?_ | refine AD [7] [930] Z Z (fun _=>AB (AW Z Z (rfl) rfl Ae rfl)) ?_
       first | refine AD [15] [] Z Z (fun _=>AB (A9 Z Z)) ?_ | refine AH [15] Z Z (fun _=>AB (A9 Z Z)) ?_
       first | refine AD [82,83] [931] Z Z (fun _=>AB (BE (C6 (depL w i) j) Z Z (rfl) (hkl2) Try.underlying49 rfl D7 rfl)) ?_ | refine AD [82,83] [931] Z Z (fun _=>AB (BF (C6 (depL w i) j) Z Z (rfl) (hkl2) rfl Try.underlying49 D7 rfl)) ?_
       first | refine AD [84] [931] Z Z (fun _=>AB (AX Z Z Bf rfl)) ?_ | refine AD [84] [931] Z Z (fun _=>AB (AU Z Z Z Bf rfl)) ?_ | refine AD [84] [931] Z Z (fun _=>AB (AW Z Z (Ic hkl2) rfl Bf rfl)) ?_
       refine Bp [85] [941] [(86,_)] Z Z (fun _=>IC (HC 941 FP Z Z Z Z Z Z Z Z)) (.inr ⟨86,_,rfl,rfl,rfl,rfl,rfl⟩) Z Z Z Z Z (DM 7 Z Z Z (BI 8 Z Z ?_))
       first | refine U (J1 (acc) ([DH ord (C6 (depL w i) j)]) Z Z Z Z Z Z Z Z FP (by simp only [List.length_singleton];omega) Z Z Z Z) ?_ | refine U (K9 (acc) ([DH ord (C6 (depL w i) j)]) Z Z Z Z Z Z (fun _=>rfl) FP (by simp only [List.length_singleton];omega) Z Z Z Z) ?_
       refine AF ⟨rfl,?_⟩;refine BI 9 Z Z ?_
       first | refine J (A1 rfl Cf Z Z Z) ?_ | refine J (A3 rfl Cf Z Z Z) ?_ | refine J (A4 rfl Cf Z Z Z) ?_ | refine J (A2 rfl Cf Z Z Z) ?_ | refine J (A0 rfl Cf Z Z Z) ?_
       refine AF ⟨rfl,?_⟩;refine BI 10 Z Z (U (Bm Z Z Z Z Z Z Z Cn) (AF ⟨rfl,?_⟩));refine ED (AI (J (Cm Z Z (IntWalk.i64_in _ (by omega)) rfl) (AC Z Z (AF ?_))));exact ⟨(j+1,acc++ [DH ord (C6 (depL w i) j)]),⟨hjl,by show _=((depL w i).take (j+1)).map (DH ord);rw [List.take_succ_eq_append_getElem hjl,List.map_append,hacc,Cj hjl];rfl⟩,by show (depL w i).length - (j+1)<(depL w i).length - j;omega,BC hF [40,932,940,933,930,931] rfl (rfl) ⟨rfl,rfl,rfl,rfl,rfl,rfl,rfl,rfl,rfl,rfl,trivial⟩⟩
      ·refine Dq (AG ?_);have hje:j=(depL w i).length:=by have:=h77;omega
       have hac2:acc=(((depL w i).map ord.idxOf).map Int.ofNat):=by rw [hacc,hje,List.take_length,List.map_map];exact List.map_congr_left fun x hx=>by unfold DH;rw [if_pos (hds x hx)];rfl
       have hal2:acc.length≤4096:=by rw [hac2,List.length_map,List.length_map];exact hdl
       have hsort:(De acc).map zD=(EY (depL w) ord i ord.length).map natD:=by rw [hac2,Jn,Mg hI.good.nd hds]
       have hsl:(EY (depL w) ord i ord.length).length=acc.length:=by rw [←Mg hI.good.nd hds,EP,hac2,List.length_map,List.length_map,List.length_map]
       refine AI ?_
       first | refine J (A1 rfl Cf Z Z Z) ?_ | refine J (A3 rfl Cf Z Z Z) ?_ | refine J (A4 rfl Cf Z Z Z) ?_ | refine J (A2 rfl Cf Z Z Z) ?_ | refine J (A0 rfl Cf Z Z Z) ?_
       first | refine J (AX Z Z Ae rfl) ?_ | refine J (AU Z Z Z Ae rfl) ?_ | refine J (AW Z Z (rfl) rfl Ae rfl) ?_
       refine U (PV Q8 acc (by omega) Z Z Z Z Z Z Z) (AF (AG ?_));rw [hsort];refine CP (ys:=(EY (depL w) ord i ord.length).map natD) 940 0 1 933 Z Z Z (Nat.le_of_eq (by rw [List.length_map,hsl])) (List.take_of_length_le (by rw [List.length_map,hsl];exact Nat.le_refl _)) Z Z Z Z Z Z (AI ?_)
       first | refine J (AX Z Z Ae rfl) ?_ | refine J (AU Z Z Z Ae rfl) ?_ | refine J (AW Z Z (rfl) rfl Ae rfl) ?_
       refine AC Z Z (AC Z Z ?_)
       first | refine J (J0 rfl Try.underlying47 rfl) ?_ | refine J (Br Z Z Try.underlying47 rfl) ?_ | refine J (JW rfl Try.underlying47 rfl) ?_ | refine J (JY rfl Try.underlying47 rfl) ?_ | refine J (JV rfl Try.underlying47 rfl) ?_ | refine J (JP rfl Try.underlying47 rfl) ?_
       first | refine J (BE (i) Z Z (rfl) (hil) Try.underlying49 rfl D7 rfl) ?_ | refine J (BF (i) Z Z (rfl) (hil) rfl Try.underlying49 D7 rfl) ?_
       refine U (Zcs Z Z Z Z Z (by rw [Ld];exact hil) Lc rfl D7) (AF ?_);rw [show An (DH ord) i (gs.length:Int)=DH (ord++ [i]) from by rw [hgl];exact Ok hio];refine AI (AC Z Z ?_)
       first | refine J (BN Z Z rw51 rfl) ?_ | refine J (BO Z Z rw51 Z Z Z) ?_ | refine J (BP Z Z (rfl) rfl rw51 rfl) ?_
       refine U (HC 942 sl47 Z Z Z Z Z Z Z Z) ?_
       first | refine U (J1 (gs) ([(⟨(parts w).getD i [],EY (depL w) ord i ord.length⟩:Grp)]) Z Z Z Z Z Z Z Z sl47 (by simp only [List.length_singleton];omega) Z Z Z Z) ?_ | refine U (K9 (gs) ([(⟨(parts w).getD i [],EY (depL w) ord i ord.length⟩:Grp)]) Z Z Z Z Z Z (fun _=>rfl) sl47 (by simp only [List.length_singleton];omega) Z Z Z Z) ?_
       refine AE Z Z (AF ?_);exact ⟨(ord++ [i],gs++ [⟨(parts w).getD i [],EY (depL w) ord i ord.length⟩]),⟨hI.next (by omega) hnx,by show _=grpS w (ord++ [i]);rw [KQ,hgs]⟩,by show k - (ord++ [i]).length<k - ord.length;rw [List.length_append,List.length_singleton];omega,BC hF [40,932,930,931] rfl (rfl) ⟨rfl,rfl,rfl,rfl,rfl,trivial⟩⟩
     ·refine Ai (AI (J (Cm Z Z (IntWalk.i64_in _ (by omega)) rfl) (AC Z Z (AF ?_))));exact ⟨i+1,⟨hil,fun j hj=>by by_cases e:j=i;subst e;exact Pr (Classical.not_not.1 h61);exact hnr j (by omega)⟩,by show k - (i+1)<k - i;omega,BC hF [40,932,930,931] rfl (rfl) ⟨rfl,rfl,rfl,rfl,rfl,rfl,rfl,rfl,trivial⟩⟩
    ·refine Ay Z Z Z Z (Ay Z Z Z Z ?_);refine Ay Z Z Z Z (Ay Z Z Z Z (Ay Z Z Z Z (Ay Z Z Z Z (Ay Z Z Z Z (J (Ey Z Z Z Z) (AE Z Z (AF (AG ?_))))))));refine AI (AC Z Z (AF (D4 Z Z (Ai (AI (J (Cm Z Z (IntWalk.i64_in _ (by omega)) rfl) (AC Z Z (AF ?_))))))));exact ⟨i+1,⟨hil,fun j hj=>by by_cases e:j=i;subst e;exact Ps h52;exact hnr j (by omega)⟩,by show k - (i+1)<k - i;omega,BC hF [40,932,930,931] rfl (rfl) ⟨rfl,rfl,rfl,rfl,rfl,rfl,rfl,rfl,trivial⟩⟩
   ·refine Dq (AG (AG (AI (AC Z Z ?_))))
    first | refine J (Ed Z Z Z) ?_ | refine J (Ef Z Z Z) ?_
    refine AF (IE rfl ((by decide)) (AG (AI (AE Z Z (MA 2 rfl (AE Z Z (AF (Au ?_))))))));have hno:=hI.stop (by omega) (MB fun j hj=>hnr j (by omega));obtain ⟨g1,g2⟩:=LB hno;exact ⟨_,[40],_,Aq rfl,rfl,rfl,by rw [g1,g2];rfl,rfl⟩
  ·refine Dq (AG ?_);obtain ⟨g1,g2⟩:=IS (hI.fin (by have h1:=h41;have h2:gs.length=ord.length:=(by rw [hgs,FZ]);omega));refine Zcn (emb:=Hy) 9 932 gs Z Z Z Z Z Z Z (AI (AC Z Z (AE Z Z (AE Z Z (AF (Au ?_))))));exact ⟨_,[40],_,Aq rfl,rfl,rfl,by rw [g1,g2,hgs],rfl⟩
theorem Fm {w:Ws} {i:Nat} (hi:i<(parts w).length):(parts w)[i]?=some ((parts w).getD i []):=by
 rw [List.getD_eq_getElem?_getD,List.getElem?_eq_getElem hi];rfl
theorem Kr {w:Ws} (hw:BV w) {i:Nat} (hi:i<(parts w).length) {x:St}:x∈(parts w).getD i []↔x∈w.R∧idx w x=i:=by
 have hg:=Fm hi
 constructor
 ·intro hx;exact ⟨(Ij (List.mem_of_getElem? hg) hx).1,NU hw hg hx⟩
 ·rintro ⟨hx,e⟩;have h1:=Iy hw hx;rw [e,hg] at h1;injection h1 with h1
  rw [h1];exact Cc hx
noncomputable def nxG (w:Ws) (back:Bool):List (List Nat):=(List.range (parts w).length).map (nxW w back)
theorem QP {w:Ws} {back:Bool} {i:Nat} (hi:i<(parts w).length):((nxG w back).map natsD)[i]?=some (natsD (nxW w back i)):=by
 rw [List.getElem?_map,nxG,List.getElem?_map,List.getElem?_range hi];rfl
structure Fv (w:Ws) (back:Bool) (i0:Nat) (vis stk:List Nat):Prop where
 nd:vis.Nodup
 vl:∀v∈vis,v<(parts w).length
 sl:∀v∈stk,v<(parts w).length
 vr:∀v∈vis,BU (fun i k=>k∈nxW w back i) i0 v
 sr:∀v∈stk,BU (fun i k=>k∈nxW w back i) i0 v
 st:i0∈vis∨i0∈stk
 nx:∀v∈vis,∀k∈nxW w back v,k∈vis∨k∈stk
 len:stk.length≤1+vis.length*(parts w).length
theorem Fv.zero {w:Ws} {back:Bool} {i0:Nat} (h:i0<(parts w).length):Fv w back i0 [] [i0]:=
 ⟨List.nodup_nil,(fun _ h=>by cases h),fun v hv=>by rw [List.mem_singleton.1 hv];exact h,(fun _ h=>by cases h),fun v hv=>by rw [List.mem_singleton.1 hv];exact .refl,.inr (by simp),(fun _ h=>by cases h),by simp⟩
theorem Fv.vlen {w:Ws} {back:Bool} {i0:Nat} {vis stk:List Nat} (h:Fv w back i0 vis stk):vis.length≤(parts w).length:=by
 have:=h.nd.length_le_of_subset (l₂:=List.range (parts w).length) fun k hk=>by simpa using h.vl k hk
 simpa using this
theorem Fv.skip {w:Ws} {back:Bool} {i0:Nat} {vis r:List Nat} {v:Nat} (h:Fv w back i0 vis (r++ [v])) (hv:v∈vis):Fv w back i0 vis r:=by
 have hin:∀{k},k∈vis∨k∈r++ [v] ->k∈vis∨k∈r:=fun hk=>hk.elim .inl fun hk=>(List.mem_append.1 hk).elim .inr fun e=> .inl (by rw [List.mem_singleton.1 e];exact hv);exact ⟨h.nd,h.vl,fun x hx=>h.sl x (List.mem_append_left _ hx),h.vr,fun x hx=>h.sr x (List.mem_append_left _ hx),hin h.st,fun x hx k hk=>hin (h.nx x hx k hk),by have:=h.len;rw [List.length_append] at this;omega⟩
theorem Fv.go {w:Ws} {back:Bool} {i0:Nat} {vis r:List Nat} {v:Nat} (h:Fv w back i0 vis (r++ [v])) (hv:v∉vis):Fv w back i0 (vis++ [v]) (r++nxW w back v):=by
 have hvr:=h.sr v (List.mem_append_right _ (by simp));have hin:∀{k},k∈vis∨k∈r++ [v] ->k∈vis++ [v]∨k∈r++nxW w back v:=fun hk=>hk.elim (fun h=> .inl (List.mem_append_left _ h)) fun hk=>(List.mem_append.1 hk).elim (fun h=> .inr (List.mem_append_left _ h)) fun e=> .inl (List.mem_append_right _ e);refine ⟨List.nodup_append.2 ⟨h.nd,by simp,fun a ha b hb e=>hv (by rw [←List.mem_singleton.1 hb,←e];exact ha)⟩,fun x hx=>?_,fun x hx=>?_,fun x hx=>?_,fun x hx=>?_,hin h.st,fun x hx k hk=>?_,?_⟩
 ·exact (List.mem_append.1 hx).elim (h.vl x) fun e=>by rw [List.mem_singleton.1 e];exact h.sl v (by simp)
 ·exact (List.mem_append.1 hx).elim (fun hx=>h.sl x (List.mem_append_left _ hx)) QO
 ·exact (List.mem_append.1 hx).elim (h.vr x) fun e=>by rw [List.mem_singleton.1 e];exact hvr
 ·exact (List.mem_append.1 hx).elim (fun hx=>h.sr x (List.mem_append_left _ hx)) fun hx=>hvr.tail hx
 ·rcases List.mem_append.1 hx with hx | e
  ·exact hin (h.nx x hx k hk)
  ·rw [List.mem_singleton.1 e] at hk;exact .inr (List.mem_append_right _ hk)
 ·have h1:=h.len;have h2:=Kp w back v;rw [List.length_append,List.length_singleton] at h1;rw [List.length_append,List.length_append,List.length_singleton,Nat.succ_mul];omega
theorem Fv.fin {w:Ws} {back:Bool} {i0:Nat} {vis:List Nat} (h:Fv w back i0 vis []) (v:Nat):v∈vis↔BU (fun i k=>k∈nxW w back i) i0 v:=by
 refine ⟨h.vr v,fun hs=>?_⟩;exact BU.closed (p:=fun v=>v∈vis) (fun a b ha hb=>(h.nx a ha b hb).resolve_right (by simp)) (h.st.resolve_right (by simp)) hs
noncomputable def outS (w:Ws) (vis:List Nat):List St:=vis.flatMap fun i=>(parts w).getD i []
theorem HQ (w:Ws) (vis:List Nat) (v:Nat):outS w (vis++ [v])=outS w vis++(parts w).getD v []:=by simp [outS]
theorem Is {w:Ws} (hw:BV w) {vis:List Nat} (hv:∀v∈vis,v<(parts w).length) {x:St}:x∈outS w vis↔x∈w.R∧idx w x∈vis:=by
 unfold outS;rw [List.mem_flatMap]
 constructor
 ·rintro ⟨i,hi,hx⟩;obtain ⟨h1,h2⟩:=(Kr hw (hv i hi)).1 hx;exact ⟨h1,by rw [h2];exact hi⟩
 ·rintro ⟨h1,h2⟩;exact ⟨_,h2,(Kr hw (hv _ h2)).2 ⟨h1,rfl⟩⟩
theorem Np {w:Ws} (hw:BV w):∀{vis:List Nat},vis.Nodup ->(∀v∈vis,v<(parts w).length) ->(outS w vis).Nodup:=by
 intro vis
 induction vis with
 | nil=>intro _ _;exact List.nodup_nil
 | cons v r ih=>
  intro hn hv;have hn':=List.nodup_cons.1 hn;have hv':∀x∈r,x<(parts w).length:=fun x hx=>hv x (List.mem_cons_of_mem _ hx);show ((parts w).getD v []++outS w r).Nodup;refine List.nodup_append.2 ⟨EO (Ii hw (List.mem_of_getElem? (Fm (hv v (by simp))))),ih hn'.2 hv',fun a ha b hb e=>?_⟩;subst e;have h1:=((Kr hw (hv v (by simp))).1 ha).2;have h2:=((Is hw hv').1 hb).2;exact hn'.1 (by rw [←h1];exact h2)
theorem Im {w:Ws} (hw:BV w) {vis:List Nat} (hn:vis.Nodup) (hv:∀v∈vis,v<(parts w).length):(outS w vis).length≤w.R.length:=
 (Np hw hn hv).length_le_of_subset fun x hx=>((Is hw hv).1 hx).1
theorem Fv.clo {w:Ws} (hw:BV w) {back:Bool} {a:St} (ha:a∈w.R) {vis:List Nat} (h:Fv w back (idx w a) vis []):Co (outS w vis)=cloW w a back:=by
 refine HL (Np hw h.nd h.vl) (List.Pairwise.sublist List.filter_sublist hw.srt) fun x=>?_;rw [Is hw h.vl,ML]
 constructor
 ·rintro ⟨h1,h2⟩;exact ⟨h1,(OE hw ha h1).2 ((h.fin _).1 h2)⟩
 ·rintro ⟨h1,h2⟩;exact ⟨h1,(h.fin _).2 ((OE hw ha h1).1 h2)⟩
theorem snoc_of {l:List Nat} (h:0<l.length):∃r v,l=r++ [v]:=by
 rcases List.eq_nil_or_concat l with e | ⟨r,v,e⟩
 ·subst e;simp at h
 ·exact ⟨r,v,by rw [e];simp⟩
abbrev J6 (n:Nat) (out:List Nat):List D:=(List.range n).map fun v=>Ak (decide (v∈out))
theorem Ie {n i:Nat} {out:List Nat} (h:i<n):(J6 n out)[i]?=some (Ak (decide (i∈out))):=by simp [h]
theorem Lj (n:Nat) (out:List Nat):(J6 n out).length=n:=by simp
theorem Li {n i:Nat} {out:List Nat}:(J6 n out).set i (Ak true)=J6 n (out++ [i]):=
 IL (fun j _ hne=>congrArg Ak (decide_eq_decide.2 ⟨fun h=>List.mem_append_left _ h,fun h=>(List.mem_append.1 h).elim id fun e=>(hne (List.mem_singleton.1 e)).elim⟩)) (by rw [decide_eq_true (List.mem_append_right _ (List.mem_singleton.2 rfl))])
theorem repB (n:Nat):List.replicate n (D.raw (.bool false))=J6 n []:=by
 refine List.ext_getElem (by simp) fun j h1 h2=>?_
 simp
theorem QR (r:List Nat) (v:Nat):C6 (r++ [v]) r.length=v:=by simp [C6]
set_option maxHeartbeats 2000000 in
theorem cloF_c {M:MF} {b:Nat} {w:Ws} (h:BR M b w) (hw:BV w) (hK:w.K.length≤1000000) (a:St):AR Try.prog 41 [.d (pD b 0),.d (AZ a),.d (Ak false)] [(40,[.multi M])] fun r H'=>r= .d (if a∈w.R then stsD (cloW w a false) else .sl (some true) [])∧H'=[(40,[.multi M])]:=by
 refine DA Try.func41 Z Z Try.ntmps41 Z Z Z fun F hF=>(AG ?_);refine AI (AE Z Z (AF (AG (AG (AI (AC Z Z (AC Z Z (U (GD (Iz h a) rfl [40] ⟨rfl,trivial⟩ Z Z Z Z Z Z Z Z Z) ?_))))))))
 first | refine J (EG Z Z) ?_ | refine J (EE Z Z) ?_
 refine AF ?_
 first | refine BA rfl (fun h22=>?_) (fun h22=>?_) | refine Az rfl (fun h22=>?_) (fun h22=>?_)
 ·refine AG (AI (AE Z Z (AF (Au ?_))));exact ⟨_,[40],_,Aq rfl,rfl,rfl,by rw [if_neg h22],rfl⟩
 ·refine Ai (AG ?_);have haR:a∈w.R:=Classical.not_not.1 h22;have hpn:(parts w).length≤4096:=by unfold parts;rw [List.length_map];exact Nat.le_trans (List.length_filter_le _ _) hw.few
  refine AI (AC Z Z ?_);refine H7 (IZ (Nm h hw hK) rfl [40,6] ⟨rfl,rfl,trivial⟩ Z Z Z Z (fun r H' ⟨O,e1,e2,_⟩=>by subst e1 e2;exact ⟨rfl,rfl,rfl⟩) rfl) rfl ?_;rintro _ ⟨r,H',⟨O,e1,e2,hO⟩,rfl⟩;subst e1 e2;refine AC Z Z ?_
  first | refine J (B4 Z Z Z) ?_ | refine J (B5 Z Z Z) ?_
  first | refine J (B4 Z Z Z) ?_ | refine J (B5 Z Z Z) ?_
  refine AE Z Z (AE Z Z (AF (AG (Fn 7 Z Z Z (K4 8 6 7 hF Z Z Z Z Z Z Z Z Z Z (fun _=>rfl) fun x7 _=>?_)))))
  obtain ⟨M7,hM7⟩:∃M7,BD (fun _=>none) x7 (.map (some (List.range O.length,O.length)) (Ad AZ natD O))=M7:=⟨_,rfl⟩
  rw [hM7];have h7:M7 x7=some (.map (some (List.range O.length,O.length)) (Ad AZ natD O)):=by rw [←hM7,D3]
  refine AI (AC Z Z (AC Z Z (AC Z Z (U (GD (Qv h hw hK hO h7) rfl [40,7] ⟨rfl,rfl,trivial⟩ Z Z Z Z Z Z Z Z Z) ?_))));refine AE Z Z (AF (AG (AG (AI (AC Z Z (AF (D4 rfl (rfl) (Ai ?_))))))));refine AG (Nb 9 (.d (grD (nxG w false))) Z Z (AI (AC Z Z (J (Br rfl (List.length_map ..) Try.underlying79 rfl) (U (II 20 sl99 Z Z Z (by omega) zd4 Z Z Z Z) (AE Z Z (AF (AG ?_))))))));rw [repB];refine AI (AE Z Z (AF (AG (AI (AC Z Z ?_)))));refine AC Z Z (J (H8 (f:=7) O a 0 (idx w a) Z Z h7 rfl Hu Ec za3 (hO _ haR) rfl) (U (HC 22 FP Z Z Z Z Z Z Z Z) (AE Z Z (AF (AG (B7 (Fo 16 23 Bg Z Z Z Z (FC (α:=List Nat×List Nat×List Nat) (fun q=>⟨105,[(7,(.d (DD (parts w)))),(9,(.d (grD (nxG w false)))),(15,(.own 20 0 (parts w).length)),(16,(.own 23 0 (outS w q.1).length)),(17,(.own 22 0 q.2.1.length))],[(20,[.rowD 4 1 (J6 (parts w).length q.1)]),(22,[.rowD 3 1 ((q.2.1++q.2.2).map natD)]),(23,[.rowD 9 1 ((outS w q.1).map AZ)]),(40,[.multi M])]⟩) (fun q=>Fv w false (idx w a) q.1 q.2.1) (fun q=>((parts w).length - q.1.length)*5000+q.2.1.length) (([],[idx w a],[])) (Fv.zero (GP hw haR)) (BC hF [20,22,23,40] Z Z ⟨rfl,rfl,rfl,rfl,rfl,trivial⟩) ?_))))))));rintro ⟨vis,stk,jk⟩ hI;dsimp only at hI⊢;refine AG (AG (AI (AC Z Z ?_)))
  first | refine J (J0 rfl Try.underlying49 rfl) ?_ | refine J (Br Z Z Try.underlying49 rfl) ?_ | refine J (JW rfl Try.underlying49 rfl) ?_ | refine J (JY rfl Try.underlying49 rfl) ?_ | refine J (JV rfl Try.underlying49 rfl) ?_ | refine J (JP rfl Try.underlying49 rfl) ?_
  first | refine J (Mv Z Z Z) ?_ | refine J (Kh Z Z Z) ?_
  refine AF ?_
  first | refine BA rfl (fun h71=>?_) (fun h71=>?_) | refine Az rfl (fun h71=>?_) (fun h71=>?_)
  ·refine Ai (B7 (AG ?_));obtain ⟨r,v,hrv⟩:=snoc_of (l:=stk) (HB h71);subst hrv;have hvl:=hI.sl v (by simp);have hI2':=hI.len;have hvle:=hI.vlen;have hmul:vis.length*(parts w).length≤4096*4096:=Nat.mul_le_mul (by omega) hpn;have hsl:(r++ [v]).length≤20000000:=by omega
   have hrl:(r++ [v]).length=r.length+1:=by simp
   have hpe:(((r++ [v]).length:Nat):Int) - 1=((r.length:Nat):Int):=by rw [hrl];omega
   refine AI (AC Z Z (AC Z Z ?_))
   first | refine J (J0 rfl Try.underlying49 rfl) ?_ | refine J (Br Z Z Try.underlying49 rfl) ?_ | refine J (JW rfl Try.underlying49 rfl) ?_ | refine J (JY rfl Try.underlying49 rfl) ?_ | refine J (JV rfl Try.underlying49 rfl) ?_ | refine J (JP rfl Try.underlying49 rfl) ?_
   refine J (DW Z Z (IntWalk.i64_in _ (by omega)) rfl) ?_
   first | refine J (BE (r.length) Z Z (hpe) (by rw [hrl];omega) Try.underlying49 rfl D7 rfl) ?_ | refine J (BF (r.length) Z Z (hpe) (by rw [hrl];omega) rfl Try.underlying49 D7 rfl) ?_
   first | refine J (AX Z Z Bf rfl) ?_ | refine J (AU Z Z Z Bf rfl) ?_ | refine J (AW Z Z ((by rw [D0 (by rw [List.length_append,hrl];omega),nth_app (by omega),QR])) rfl Bf rfl) ?_
   refine AE Z Z (AF (AG (AI (AC Z Z (AC Z Z ?_)))))
   first | refine J (J0 rfl Try.underlying49 rfl) ?_ | refine J (Br Z Z Try.underlying49 rfl) ?_ | refine J (JW rfl Try.underlying49 rfl) ?_ | refine J (JY rfl Try.underlying49 rfl) ?_ | refine J (JV rfl Try.underlying49 rfl) ?_ | refine J (JP rfl Try.underlying49 rfl) ?_
   refine J (DW Z Z (IntWalk.i64_in _ (by omega)) rfl) (J (Jk r.length Z Z hpe (by rw [List.length_map,List.length_append];omega) rfl Try.underlying49 D7 rfl) (AE Z Z (AF (AG (AG (AI (AC Z Z (AC Z Z ?_))))))))
   first | refine J (BE (v) Z Z (rfl) (hvl) Try.underlying99 rfl PL rfl) ?_ | refine J (BF (v) Z Z (rfl) (hvl) rfl Try.underlying99 PL rfl) ?_
   first | refine J (AX Z Z on4 rfl) ?_ | refine J (AU Z Z Z on4 rfl) ?_ | refine J (AW Z Z (Ie hvl) rfl on4 rfl) ?_
   refine AF ?_
   first | refine BA rfl (fun h86=>?_) (fun h86=>?_) | refine Az rfl (fun h86=>?_) (fun h86=>?_)
   ·refine Dq ?_;exact ⟨(vis,r,[v]++jk),hI.skip h86,by show _<_;rw [List.length_append,List.length_singleton];exact Nat.lt_succ_self _,BC hF [20,22,23,40] rfl (by rw [List.append_assoc];rfl) ⟨rfl,rfl,rfl,rfl,rfl,trivial⟩⟩
   ·refine Ai (AG ?_);have hI2:=hI.go h86;have hol:=Im hw hI.nd hI.vl;have hfw:=hw.few;have hol2:=Im hw hI2.nd hI2.vl;rw [HQ,List.length_append] at hol2;refine AI (AC Z Z (AC Z Z ?_))
    first | refine J (BE (v) Z Z (rfl) (hvl) Try.underlying99 rfl PL rfl) ?_ | refine J (BF (v) Z Z (rfl) (hvl) rfl Try.underlying99 PL rfl) ?_
    refine U (Zcs Z Z Z Z Z (by rw [Lj];exact hvl) Li rfl PL) (AF (AG (AI (AC Z Z (AC Z Z (AC Z Z ?_))))))
    first | refine J (BE (v) Z Z (rfl) (JX hvl) Try.underlying79 rfl CG rfl) ?_ | refine J (BF (v) Z Z (rfl) (JX hvl) rfl Try.underlying79 CG rfl) ?_
    first | refine J (AX Z Z AL rfl) ?_ | refine J (AU Z Z Z AL rfl) ?_ | refine J (AW Z Z (rfl) rfl AL rfl) ?_
    first | refine U (J1 (outS w vis) ((parts w).getD v []) Z Z Z Z Z Z Z Z Bg (by omega) Z Z Z Z) ?_ | refine U (K9 (outS w vis) ((parts w).getD v []) Z Z Z Z Z Z (fun _=>rfl) Bg (by omega) Z Z Z Z) ?_
    refine NM 95 (.own 23 0 (outS w (vis++ [v])).length) rfl (by rw [HQ]) (AE Z Z (AF ?_));have hnl:=Kp w false v;refine AI (AC Z Z (AC Z Z (AC Z Z ?_)))
    first | refine J (BE (v) Z Z (rfl) (QP hvl) Try.underlying101 rfl Cn rfl) ?_ | refine J (BF (v) Z Z (rfl) (QP hvl) rfl Try.underlying101 Cn rfl) ?_
    first | refine J (AX Z Z Ae rfl) ?_ | refine J (AU Z Z Z Ae rfl) ?_ | refine J (AW Z Z (rfl) rfl Ae rfl) ?_
    refine U (I7 (zs:=(r++nxW w false v).map natD) Z Z Z (by rw [List.length_map,List.length_append,List.length_append];omega) FP (fun z hz=>by obtain ⟨a,_,rfl⟩:=List.mem_map.1 hz;rfl) (List.length_map ..) (by omega) Z Z (by rw [List.append_assoc,List.map_append,List.take_left' (by simp),←List.map_append]) Z Z) (NM 101 (.own 22 0 (r++nxW w false v).length) rfl (by rw [List.length_append]) (AE Z Z (AF ?_)));exact ⟨(vis++ [v],r++nxW w false v,[]),hI.go h86,by have h1:=hI2.vlen;rw [List.length_append,List.length_singleton] at h1;have h2:=Kp w false v;show ((parts w).length - (vis++ [v]).length)*5000+(r++nxW w false v).length<((parts w).length - vis.length)*5000+(r++ [v]).length;simp only [List.length_append,List.length_singleton];omega,BC hF [20,22,23,40] rfl (by simp only [HQ,List.append_nil];rfl) ⟨rfl,rfl,rfl,rfl,rfl,trivial⟩⟩
  ·refine Dq (AG ?_)
   have hs0:stk=[]:=by
    have h1:=h71;exact List.length_eq_zero_iff.1 (by omega)
   subst hs0;have hcl:=hI.clo hw haR;have hol:=Im hw hI.nd hI.vl;have hfw:=hw.few;refine AI (AC Z Z (U (L4 Q7 (outS w vis) (by omega) Z Z Z Z Z Z Z) (AF (AG ?_))));rw [hcl];have hcn:(outS w vis).length=(cloW w a false).length:=by rw [←hcl,DQ]
   refine Zcn (emb:=AZ) 16 23 (cloW w a false) Z Z Z hcn Z Z Z (AI (AC Z Z (AE Z Z (AF (Au ?_)))));exact ⟨_,[40],_,Aq rfl,rfl,rfl,by rw [if_pos haR],rfl⟩
theorem inj_snd {E:List (St×Nat)} (hn:(E.map Prod.snd).Nodup) {p q:St×Nat} (hp:p∈E) (hq:q∈E) (e:p.2=q.2):p=q:=by
 induction E with
 | nil=>exact by cases hp
 | cons a r ih=>
  obtain ⟨h1,h2⟩:a.2∉r.map Prod.snd∧(r.map Prod.snd).Nodup:=List.nodup_cons.1 hn;rcases List.mem_cons.1 hp with rfl | hp'<;>rcases List.mem_cons.1 hq with rfl | hq'
  ·rfl
  ·exact (h1 (List.mem_map.2 ⟨q,hq',e.symm⟩)).elim
  ·exact (h1 (List.mem_map.2 ⟨p,hp',e⟩)).elim
  ·exact ih h2 hp' hq'
theorem LR.set {M:MF} {b m:Nat} {E:List (St×Nat)} {lk:Nat ->List Lk} (h:LR M b m E lk) {x:St} {hd:Nat} (hm:(x,hd)∈E) (L:List Lk):LR (BD M hd (.map none (CI L))) b m E (An lk hd L):=by
 have h1:b≠hd:=fun e=>by have:=h.sub _ hm;rw [←e,h.cell] at this;cases this
 have h2:m≠hd:=fun e=>h.ne (by rw [e];exact List.mem_map.2 ⟨_,hm,rfl⟩);refine ⟨by rw [Dr h1];exact h.cell,by rw [Dr h2];exact h.top,fun p hp=>?_,h.nd,h.ne⟩
 by_cases e:p.2=hd
 ·rw [e,D3,Ds]
 ·rw [Dr e,E6 e];exact h.sub p hp
theorem LW.set {E:List (St×Nat)} {lk:Nat ->List Lk} {w w':Ws} (h:LW E lk w) (hnd:(E.map Prod.snd).Nodup) {x:St} {hd:Nat} (hm:(x,hd)∈E) {L:List Lk} (hR:w'.R=w.R) (hL:L.Nodup) (hs:∀l:Lk,l∈L↔(⟨x,l.t,l.r⟩:Lw)∈w'.K) (ho:∀l:Lw,l.f≠x ->(l∈w'.K↔l∈w.K)):LW E (An lk hd L) w':=by
 refine ⟨h.kd,fun y=>by rw [hR];exact h.ks y,fun p hp=>?_,fun p hp l=>?_⟩
 ·by_cases e:p.2=hd
  ·rw [e,Ds];exact hL
  ·rw [E6 e];exact h.ld p hp
 ·by_cases e:p.2=hd
  ·have hpe:=inj_snd hnd hp hm e;subst hpe;rw [Ds];exact hs l
  ·rw [E6 e,h.ls p hp l,ho];intro e2
   have e3:p=(x,hd):=by
    have:=K5 h.kd hp;rw [show p.1=x from e2,K5 h.kd hm] at this;injection this with this
    exact absurd this.symm e
   exact e (by rw [e3])
theorem LY {M:MF} {b m:Nat} {E:List (St×Nat)} {lk:Nat ->List Lk} {w:Ws} (hr:LR M b m E lk) (hl:LW E lk w) {x:St} {hd:Nat} (hm:(x,hd)∈E) {l:Lk} (hn:(⟨x,l.t,l.r⟩:Lw)∉w.K):BR (BD M hd (.map none (CI (lk hd++ [l])))) b (BW w ⟨x,l.t,l.r⟩):=by
 have hln:l∉lk hd:=fun h=>hn ((hl.ls _ hm l).1 h);refine ⟨m,E,_,hr.set hm _,hl.set hr.nd hm rfl ?_ (fun l'=>?_) (fun l' hf=>?_)⟩
 ·exact List.nodup_append.2 ⟨hl.ld _ hm,by simp,fun a ha c hc e=>hln (by rw [←List.mem_singleton.1 hc,←e];exact ha)⟩
 ·show l'∈lk hd++ [l]↔_∈w.K++ [_];rw [List.mem_append,List.mem_append,hl.ls _ hm l',List.mem_singleton,List.mem_singleton];refine or_congr Iff.rfl ⟨fun e=>by rw [e],fun e=>?_⟩;injection e with _ e1 e2
  exact Lk.eq_iff.2 ⟨e1,e2⟩
 ·show l'∈w.K++ [_]↔_;rw [List.mem_append,List.mem_singleton];exact ⟨fun h=>h.elim id fun e=>absurd (by rw [e]) hf,.inl⟩
theorem La {M:MF} {b m:Nat} {E:List (St×Nat)} {lk:Nat ->List Lk} {w:Ws} (hr:LR M b m E lk) (hl:LW E lk w) {x:St} {hd:Nat} (hm:(x,hd)∈E) (l:Lk):BR (BD M hd (.map none (CI ((lk hd).filter fun y=>!decide (y=l))))) b (CV w ⟨x,l.t,l.r⟩):=by
 refine ⟨m,E,_,hr.set hm _,hl.set hr.nd hm rfl (List.Nodup.sublist List.filter_sublist (hl.ld _ hm)) (fun l'=>?_) (fun l' hf=>?_)⟩
 ·show l'∈(lk hd).filter _↔_∈w.K.filter _;rw [List.mem_filter,List.mem_filter,hl.ls _ hm l'];refine and_congr Iff.rfl ?_;simp only [Bool.not_eq_true',decide_eq_false_iff_not];refine not_congr ⟨fun e=>by rw [e],fun e=>?_⟩;injection e with _ e1 e2
  exact Lk.eq_iff.2 ⟨e1,e2⟩
 ·show l'∈w.K.filter _↔_;rw [List.mem_filter];exact ⟨fun h=>h.1,fun h=>⟨h,by simp only [Bool.not_eq_true',decide_eq_false_iff_not];exact fun e=>hf (by rw [e])⟩⟩
abbrev HLk (b:Nat) (l:Lw) (e:Int):Hp:=[(910,[.blk 23 [.d (pD b 0)]]),(911,[.blk 9 [.d (AZ l.f)]]),(912,[.blk 39 [.d (Bv l.t),.d (AZ l.r)]]),(913,[.blk 25 [.d (Bv e)]])]
theorem Kc {M:MF} {b:Nat} {w:Ws} (h:BR M b w) (l:Lw) (hf:l.f∈w.R) (e:Int):JU Try.prog 46 [.ptr 913 0 0,.ptr 910 0 0,.ptr 911 0 0,.ptr 912 0 0] (HLk b l e++ [(40,[.multi M])]) fun r H'=>r= .tup []∧∃M',H'=HLk b l e++ [(40,[.multi M'])]∧BR M' b (if e=0 then w else CV w l):=by
 have hrep:=h;obtain ⟨m,E,lk,hr,hl⟩:=h;obtain ⟨hd,hm⟩:=hl.at hf;refine d_enter Try.func46 Z Z Try.ntmps46 Z Z Z fun F hF=>(AG (AI ?_))
 first | refine J (AX Z Z on25 rfl) ?_ | refine J (AU Z Z Z on25 rfl) ?_ | refine J (AW Z Z (rfl) rfl on25 rfl) ?_
 first | refine J (G3 Z Z Z) ?_ | refine J (G0 Z Z Z) ?_ | refine J (GX Z Z Z) ?_ | refine J (G4 Try.underlying25 Z Z Z) ?_ | refine J (G6 Try.underlying25 Z Z Z) ?_ | refine J (st_neqN Try.underlying25 Z Z) ?_ | refine J (GZ Try.underlying25 Z Z) ?_ | refine J (st_neqMz Try.underlying25 Z Z) ?_ | refine J (G5 Try.underlying25 Z Z Z) ?_ | refine J (st_neqFN Try.underlying25 Z Z) ?_
 refine AF ?_
 first | refine BA rfl (fun h5=>?_) (fun h5=>?_) | refine Az rfl (fun h5=>?_) (fun h5=>?_)
 ·refine Ee [[],[0],[0,1],[0,1,2],[],[0,1,2,3,4],[],[0,1,2,3,4,5,6]] mixed rfl (DL ?_)
  first | refine AD [1] [] Z Z (fun _=>AB (AX Z Z BG rfl)) ?_ | refine AH [1] Z Z (fun _=>AB (AX Z Z BG rfl)) ?_ | refine AD [1] [] Z Z (fun _=>AB (AU Z Z Z BG rfl)) ?_ | refine AH [1] Z Z (fun _=>AB (AU Z Z Z BG rfl)) ?_ | refine AD [1] [] Z Z (fun _=>AB (AW Z Z (rfl) rfl BG rfl)) ?_ | refine AH [1] Z Z (fun _=>AB (AW Z Z (rfl) rfl BG rfl)) ?_
  first | refine AD [6] [] Z Z (fun _=>AB (FJ Z Z)) ?_ | refine AH [6] Z Z (fun _=>AB (FJ Z Z)) ?_ | refine AD [6] [] Z Z (fun _=>AB (FG Z Z)) ?_ | refine AH [6] Z Z (fun _=>AB (FG Z Z)) ?_ | refine AD [6] [] Z Z (fun _=>AB (FK Z Z)) ?_ | refine AH [6] Z Z (fun _=>AB (FK Z Z)) ?_ | refine AD [6] [] Z Z (fun _=>AB (FH Z Z)) ?_ | refine AH [6] Z Z (fun _=>AB (FH Z Z)) ?_
  first | refine AD [7] [] Z Z (fun _=>AB (A1 rfl A5 Z Z Z)) ?_ | refine AH [7] Z Z (fun _=>AB (A1 rfl A5 Z Z Z)) ?_ | refine AD [7] [] Z Z (fun _=>AB (A3 rfl A5 Z Z Z)) ?_ | refine AH [7] Z Z (fun _=>AB (A3 rfl A5 Z Z Z)) ?_ | refine AD [7] [] Z Z (fun _=>AB (A4 rfl A5 Z Z Z)) ?_ | refine AH [7] Z Z (fun _=>AB (A4 rfl A5 Z Z Z)) ?_ | refine AD [7] [] Z Z (fun _=>AB (A2 rfl A5 Z Z Z)) ?_ | refine AH [7] Z Z (fun _=>AB (A2 rfl A5 Z Z Z)) ?_ | refine AD [7] [] Z Z (fun _=>AB (A0 rfl A5 Z Z Z)) ?_ | refine AH [7] Z Z (fun _=>AB (A0 rfl A5 Z Z Z)) ?_
  first | refine AD [8] [] Z Z (fun _=>AB (Ft (f:=40) Z Z (hr.cell) rfl Bk rfl)) ?_ | refine AH [8] Z Z (fun _=>AB (Ft (f:=40) Z Z (hr.cell) rfl Bk rfl)) ?_
  first | refine AD [2] [] Z Z (fun _=>AB (AX Z Z AY rfl)) ?_ | refine AH [2] Z Z (fun _=>AB (AX Z Z AY rfl)) ?_ | refine AD [2] [] Z Z (fun _=>AB (AU Z Z Z AY rfl)) ?_ | refine AH [2] Z Z (fun _=>AB (AU Z Z Z AY rfl)) ?_ | refine AD [2] [] Z Z (fun _=>AB (AW Z Z (rfl) rfl AY rfl)) ?_ | refine AH [2] Z Z (fun _=>AB (AW Z Z (rfl) rfl AY rfl)) ?_
  first | refine AD [9,10] [] Z Z (fun _=>AB (H8 (f:=40) (eE E) l.f none (some hd) Z Z hr.top rfl Bu Ec EH (K5 hl.kd hm) rfl)) ?_ | refine AH [9,10] Z Z (fun _=>AB (H8 (f:=40) (eE E) l.f none (some hd) Z Z hr.top rfl Bu Ec EH (K5 hl.kd hm) rfl)) ?_
  first | refine AD [3] [] Z Z (fun _=>AB (BN Z Z As rfl)) ?_ | refine AH [3] Z Z (fun _=>AB (BN Z Z As rfl)) ?_ | refine AD [3] [] Z Z (fun _=>AB (BO Z Z As Z Z Z)) ?_ | refine AH [3] Z Z (fun _=>AB (BO Z Z As Z Z Z)) ?_ | refine AD [3] [] Z Z (fun _=>AB (BP Z Z (rfl) rfl As rfl)) ?_ | refine AH [3] Z Z (fun _=>AB (BP Z Z (rfl) rfl As rfl)) ?_
  refine DM 7 Z Z Z (BI 8 Z Z (U (Ga (f:=40) (Ck (lk hd)) (⟨l.t,l.r⟩) (true) Z Z (hr.sub _ hm) rfl FT Hw rfl) (AF ⟨rfl,?_⟩)));refine ED ?_;exact ⟨_,[910,911,912,913,40],_,Aq rfl,rfl,rfl,rfl,_,rfl,by rw [if_neg h5,IQ (hl.ld _ hm)];exact La hr hl hm _⟩
 ·refine Ai ?_;exact ⟨_,[910,911,912,913,40],_,Aq rfl,rfl,rfl,rfl,_,rfl,by rw [if_pos (Classical.not_not.1 h5)];exact hrep⟩
end Go.Proofs.Ytlmedakidpaeeaa
