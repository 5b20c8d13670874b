/- Layer 27: parts, walked. -/
import Derived.Test.YtlmedakidpaeeaaMg18
namespace Go.Proofs.Ytlmedakidpaeeaa
open Go.RowKit
set_option maxRecDepth 100000
abbrev Cz (w:List (List St)):D:= .sl none (w.map stsD)
theorem Nw {n:Nat} (h0:0<n) (h:n≤1000000):IntKind.i64.wrap ((n:Int) - 1)=((n - 1:Nat):Int):=by
 rw [show ((n:Int) - 1)=((n - 1:Nat):Int) by omega];exact IntWalk.i64_in _ (by omega)
theorem O3 {Ks:List St} {L:St ->List St} (hoff:∀k,k∉Ks ->L k=[]) (a:St):CN (Ks.map fun k=>(k,L k)) a [] =L a:=by
 have key:∀Ks:List St,CN (Ks.map fun k=>(k,L k)) a [] =if a∈Ks then L a else []:=by
  intro Ks
  induction Ks with
  | nil=>rfl
  | cons k r ih=>
   show (if a=k then L k else CN (r.map fun k=>(k,L k)) a [])=_
   by_cases e:a=k
   ·subst e;simp
   ·rw [if_neg e,ih];simp [e]
 rw [key]
 split
 ·rfl
 ·rename_i hn;rw [hoff a hn]
set_option maxHeartbeats 1000000 in
theorem N8 {M:MF} {b:Nat} {w:Ws} (h:B7 M b w) (hw:Ba w) (hK:w.K.length≤1000000):AT Try.prog 39 [.d (pD b 0)] [(40,[.multi M])] fun r H'=>∃O:List (St×Nat),r= .tup [.d (Cz (parts w)),.map 6 0]∧H'=[(40,[.multi M]),(6,[O6 AU natD O])]∧∀x∈w.R,CN O x 0=idx w x:=by
 have hrep:=h;obtain ⟨m,E,lk,hr,hl⟩:=h;have hfew:=hw.few;have hEl:=hl.len hw;refine DY Try.func39 Z Z Try.ntmps39 Z Z Z fun F hF=>(AG (AI (AD Z Z (AD Z Z (AF (AG (AI (AC Z Z ?_))))))));refine Iy (KN (neigh_c hrep hw hK) rfl [40,1] ⟨rfl,rfl,trivial⟩ Z Z Z Z (fun r H' ⟨Ks,L,bs,e1,e2,_⟩=>by subst e1 e2;exact ⟨rfl,rfl,rfl⟩) rfl) rfl ?_;rintro _ ⟨r,H',⟨Ks,L,nbs,e1,e2,hoff,hwth,hLl⟩,rfl⟩;subst e1 e2;refine U (IF 4 zl106 Z Z Z Z) (U (Bu Z Z Z Z Z Z Z sz106) (AF (AG (AI (U (EU 6 Z Z Z Z) ?_)))));refine U (IF 5 zl80 Z Z Z Z) (U (Bu Z Z Z Z Z Z Z sz80) (AF (AG (AI (U (IF 7 zl79 Z Z Z Z) (AF (AG (AI ?_))))))));refine U (IF 9 zl108 Z Z Z Z) (AF (AG (AI (J (Ew Z Z) (U (Bu Z Z Z Z Z Z Z sz108) (AF (AG (AG ?_))))))))
 have hL:NbOk w (Ks.map fun k=>(k,L k)) L:=⟨O3 hoff,hwth,hLl⟩
 obtain ⟨NE,hNE⟩:∃NE,(Ks.map fun k=>(k,L k))=NE:=⟨_,rfl⟩
 rw [hNE] at hL;rw [hNE];refine DU 7 0 0 8 Mk Z Z Z Z Z Z Z (Ff 50 Z Z Z (AI (AC Z Z ?_)))
 first | refine J (Fp Z Z) ?_ | refine J (Fn Z Z) ?_ | refine J (Fq Z Z) ?_ | refine J (Fo Z Z) ?_
 first | refine J (A2 rfl A8 Z Z Z) ?_ | refine J (A4 rfl A8 Z Z Z) ?_ | refine J (A5 rfl A8 Z Z Z) ?_ | refine J (A3 rfl A8 Z Z Z) ?_ | refine J (A1 rfl A8 Z Z Z) ?_
 refine J (GQ (f:=40) Z Z (hr.cell) rfl Bp rfl) (U (HM (keys_c m) rfl [] trivial Z Z Z Z Z Z Z Z Z) (U (HM (PM hr.top (by omega) hl.kd hw.srt hl.ks) rfl [40] ⟨rfl,trivial⟩ Z Z Z Z Z Z Z Z Z) (J (CG rfl (List.length_map ..) Try.underlying32 rfl) (AC Z Z (AF (B9 (Fm (α:=Nat×List (St×Nat)×Nat×(Nat ->Hd)×(Nat ->List St)×MF) (fun q=>⟨51,[(0,.d (pD b 0)),(5,(.ptr 5 0 0)),(6,(.ptr 7 0 0)),(7,(.ptr 9 0 0)),(21,(.d (stsD w.R))),(22,(.d (natD w.R.length))),(23,(.d (natD q.1)))],(40,[.multi M])::HV nbs NE q.2.1 q.2.2.1 q.2.2.2.1 q.2.2.2.2.1 q.2.2.2.2.2⟩) (fun q=>q.1≤w.R.length∧PI w q.1 q.2.1 q.2.2.1 q.2.2.2.2.1∧LF q.2.2.2.2.2 q.2.2.1 q.2.2.2.1 q.2.2.2.2.1) (fun q=>w.R.length - q.1) ((0,[],0,(fun _=>none),(fun _=> []),fun _=>none)) (⟨Nat.zero_le _,PI.zero,LF.zero 0⟩) (BK hF [40,4,1,5,6,7,8,9,50] Z Z ⟨rfl,rfl,rfl,rfl,rfl,rfl,rfl,trivial⟩) ?_)))))));rintro ⟨k,O,n,hs,ls,M5⟩ ⟨hk,hP,hG⟩;dsimp only at hk hP hG⊢;refine AG (AI ?_)
 first | refine J (Eo Z Z Z) ?_ | refine J (Ep Z Z Z) ?_
 refine AF (AG ?_)
 first | refine BG rfl (fun h24=>?_) (fun h24=>?_) | refine BB rfl (fun h24=>?_) (fun h24=>?_)
 ·refine An (AG (B9 (AG ?_)));have hkl:k<w.R.length:=H9 h24;have hnk:=hP.le;refine AI ?_
  first | refine J (BM (k) Z Z (rfl) (Oc hkl) Try.underlying32 rfl ER rfl) ?_ | refine J (BN (k) Z Z (rfl) (Oc hkl) rfl Try.underlying32 ER rfl) ?_
  first | refine J (AY Z Z AZ rfl) ?_ | refine J (AW Z Z Z AZ rfl) ?_ | refine J (AX Z Z (rfl) rfl AZ rfl) ?_
  refine AD Z Z (AF (AG (AI ?_)))
  first | refine J (AY Z Z En rfl) ?_ | refine J (AW Z Z Z En rfl) ?_ | refine J (AX Z Z (rfl) rfl En rfl) ?_
  refine AC Z Z (J (F2 (O) (w.R[k]) (0) Z Z Z Hc E6 za3 rfl) (AC Z Z ?_))
  first | refine J (Bo Z Z Z) ?_ | refine J (Bn Z Z Z) ?_
  first | refine J (Bo Z Z Z) ?_ | refine J (Bn Z Z Z) ?_
  refine AD Z Z (AD Z Z (AF (AG (AI (AC Z Z ?_)))))
  first | refine J (El Z Z) ?_ | refine J (Ek Z Z) ?_
  refine AF ?_
  first | refine BG rfl (fun h34=>?_) (fun h34=>?_) | refine BB rfl (fun h34=>?_) (fun h34=>?_)
  ·refine AG ?_;have hxO:w.R[k]∉O.map Prod.fst:=fun hh=>absurd (Cs.2 hh) (by simpa using h34);refine AI ?_
   first | refine J (AY Z Z Do rfl) ?_ | refine J (AW Z Z Z Do rfl) ?_ | refine J (AX Z Z (rfl) rfl Do rfl) ?_
   refine U (Gl 20 Mk Z Z Z Z Z Z Z Z) (U (iOq Z Z Z (Nat.le_of_eq (Qq n hs ls).symm) Z Z (by simp) Mk (by omega) Z Z (show (rowS n hs ls).take n++ [D.sl (some true) []] =rowS n hs ls++ [D.sl (some true) []] from by rw [List.take_of_length_le (by rw [Qq];exact Nat.le_refl _)]) Z Z) (U (Bu Z Z Z Z Z Z Z sz79) (AF (AG (KG 8 0 (rowS (n+1) (Ak hs n none) (Ak ls n [])) rfl (by rw [List.length_append,Qq,Qq];rfl) PA ⟨fun x hx=>by rcases List.mem_append.1 hx with hx | hx;exact I6 _ _ _ x hx;simp at hx;subst hx;rfl,I6 _ _ _⟩ rfl (AI ?_))))))
   first | refine J (AY Z Z Jj rfl) ?_ | refine J (AW Z Z Z Jj rfl) ?_ | refine J (AX Z Z (rfl) rfl Jj rfl) ?_
   refine AC Z Z ?_;refine Iy (J4 (visit_c hw hL (n+1) (by omega) (by omega) w.R.length O _ _ M5 w.R[k] (Nat.sub_le _ _) (List.getElem_mem hkl) hP.nd (fun y hy=>((hP.ks y).1 hy).1) hG.grow (by show (Ak ls n [] n).length≤_;rw [Dj];exact Nat.zero_le _)) rfl [4,1,5,6,7,8,9,50] ⟨rfl,rfl,rfl,rfl,rfl,rfl,rfl,rfl,trivial⟩ Z Z Z Z (fun r H' ⟨ad,hs3,M53,e1,e2,_,_⟩=>by subst e1 e2;exact ⟨rfl,rfl,rfl⟩) rfl) rfl ?_;rintro _ ⟨r,H',⟨ad,hs3,M53,e1,e2,hG3,hVR⟩,rfl⟩;subst e1 e2;refine AF ?_;have e5:Ak (Ak ls n []) (n+1 - 1) (Ak ls n [] (n+1 - 1)++ad)=Ak ls n ad:=by show Ak (Ak ls n []) n (Ak ls n [] n++ad)=_;rw [F1,Dj];rfl
   rw [e5] at hG3⊢;have hself:w.R[k]∈ad:=hVR.self.resolve_left hxO;have hadl:ad.length≤w.R.length:=NK hVR.nd fun y hy=>(hVR.nw y hy).2.1;have hGn:=hG3.at_ n (Nat.lt_succ_self n);rw [Dj] at hGn;obtain ⟨b1,c1,hbe⟩:∃b1 c1,hs3 n=some (b1,c1):=by rcases hd_two (hs3 n) with e | e;rw [e] at hGn;have hz:ad.map AU=[]:=hGn;rw [List.map_eq_nil_iff] at hz;rw [hz] at hself;cases hself;exact e
   rw [hbe] at hGn;refine AI ?_
   first | refine J (AY Z Z Do rfl) ?_ | refine J (AW Z Z Z Do rfl) ?_ | refine J (AX Z Z (rfl) rfl Do rfl) ?_
   first | refine J (AY Z Z Do rfl) ?_ | refine J (AW Z Z Z Do rfl) ?_ | refine J (AX Z Z (rfl) rfl Do rfl) ?_
   first | refine J (JL rfl Try.underlying79 rfl) ?_ | refine J (CG Z Z Try.underlying79 rfl) ?_ | refine J (JG rfl Try.underlying79 rfl) ?_ | refine J (JJ rfl Try.underlying79 rfl) ?_ | refine J (JF rfl Try.underlying79 rfl) ?_ | refine J (Ix rfl Try.underlying79 rfl) ?_
   refine J (DN Z Z (show IntKind.i64.wrap (((n+1:Nat):Int) - 1)=(n:Int) from Nw (n:=n+1) (by omega) (by omega)) rfl) ?_
   first | refine J (BM (n) Z Z (rfl) (Nat.lt_succ_self n) Try.underlying79 rfl CD rfl) ?_ | refine J (BN (n) Z Z (rfl) (Nat.lt_succ_self n) rfl Try.underlying79 CD rfl) ?_
   first | refine J (AY Z Z AR rfl) ?_ | refine J (AW Z Z Z AR rfl) ?_ | refine J (AX Z Z (show (rowS (n+1) hs3 (Ak ls n ad))[n]?=some (.raw (sV b1 ad.length c1)) from by rw [Ez (Nat.lt_succ_self n),hbe,Dj];rfl) rfl AR rfl) ?_
   refine U (OB QI (f:=50) ad (by omega) Z Z Z hGn.2 Z Z Z Z) ?_;obtain ⟨hse,hP2⟩:=hP.new hw hkl hxO hVR;have hG4:=hG3.put (Nat.lt_succ_self n) hbe (l:=Cj ad) (by rw [DJ];simpa using hGn.1);rw [F1,hse] at hG4;have hro:rowS (n+1) hs3 (Ak ls n ad)=rowS (n+1) hs3 (Ak ls n (cls w w.R[k])):=by refine List.map_congr_left fun j _=>?_;by_cases e:j=n;subst e;rw [Dj,Dj,←hse,DJ];rw [EP e,EP e]
   rw [hse,hro];refine AF (AI (J (DA Z Z (IntWalk.i64_in _ (by omega)) rfl) (AC Z Z (AF ?_))));exact ⟨(k+1,addO O ad n,n+1,hs3,Ak ls n (cls w w.R[k]),_),⟨hkl,hP2,hG4⟩,by show w.R.length - (k+1)<w.R.length - k;omega,BK hF [40,4,1,5,6,7,8,9,50] rfl (rfl) ⟨rfl,rfl,rfl,rfl,rfl,rfl,rfl,trivial⟩⟩
  ·refine An (AI (J (DA Z Z (IntWalk.i64_in _ (by omega)) rfl) (AC Z Z (AF ?_))));exact ⟨(k+1,O,n,hs,ls,M5),⟨hkl,hP.old hw hkl (Cs.1 (by simpa using h34)),hG⟩,by show w.R.length - (k+1)<w.R.length - k;omega,BK hF [40,4,1,5,6,7,8,9,50] rfl (rfl) ⟨rfl,rfl,rfl,rfl,rfl,rfl,rfl,trivial⟩⟩
 ·refine Eg (AG ?_);have hke:k=w.R.length:=by have:=h24;omega
  subst hke;obtain ⟨hrw,hix⟩:=hP.fin hw;refine Qn 8 0 50 ((OO n ls).map stsD) Z Z Z Z Z (by rw [List.length_map,N5,Qq]) hG.melt ⟨I6 _ _ _,one_sts _⟩ rfl ?_;rw [hrw];have hnl:(parts w).length=n:=by rw [←hrw,N5]
  refine CM (ys:=(parts w).map stsD) 7 0 0 8 Z Z Z (Nat.le_of_eq (by rw [List.length_map,hnl])) (List.take_of_length_le (by rw [List.length_map,hnl];exact Nat.le_refl _)) Z Z Z Z Z Z (Fh [[],[],[0],[0,1,2]] mixed rfl (EK ?_))
  first | refine AE [6] [7] Z Z (fun _=>AB (AY Z Z Do rfl)) ?_ | refine AE [6] [7] Z Z (fun _=>AB (AW Z Z Z Do rfl)) ?_ | refine AE [6] [7] Z Z (fun _=>AB (AX Z Z (rfl) rfl Do rfl)) ?_
  first | refine AE [5] [5] Z Z (fun _=>AB (AY Z Z En rfl)) ?_ | refine AE [5] [5] Z Z (fun _=>AB (AW Z Z Z En rfl)) ?_ | refine AE [5] [5] Z Z (fun _=>AB (AX Z Z (rfl) rfl En rfl)) ?_
  first | refine AE [49] [] Z Z (fun _=>AB (Gu Z Z)) ?_ | refine AH [49] Z Z (fun _=>AB (Gu Z Z)) ?_
  refine EL 3 Z Z Z (B6 4 Z Z (AD Z Z (AF ⟨rfl,?_⟩)));refine Es (Ay ?_);exact ⟨_,[40,6],_,Av rfl,rfl,rfl,O,rfl,rfl,hix⟩
theorem exmin (p:Nat ->Prop):∀(m x:Nat),p x ->x≤m ->∃y,p y∧∀z,p z ->y≤z:=by
 intro m
 induction m with
 | zero=>intro x hx hm;exact ⟨x,hx,fun z _=>by omega⟩
 | succ m ih=>
  intro x hx hm
  by_cases h:∃y,p y∧y≤m
  ·obtain ⟨y,hy,hym⟩:=h;exact ih y hy hym
  ·exact ⟨x,hx,fun z hz=>by
    have:¬z≤m:=fun h2=>h ⟨z,hz,h2⟩
    omega⟩
theorem QH {l:List Nat} (hl:l.Pairwise (· ≤ ·)) {i j:Nat} (hij:i≤j) (hj:j<l.length):CZ l i≤CZ l j:=by
 rcases Nat.eq_or_lt_of_le hij with e | h
 ·subst e;exact Nat.le_refl _
 ·rw [Cg (by omega),Cg hj];exact List.pairwise_iff_getElem.1 hl i j (by omega) hj h
theorem MR {l:List Nat} (hl:l.Pairwise (· ≤ ·)):(Dt l l.length).Pairwise (· < ·):=by
 unfold Dt;rw [List.pairwise_map];refine List.Pairwise.imp_of_mem (fun {i j} hi hj hij=>?_) (List.Pairwise.filter _ List.pairwise_lt_range);obtain ⟨hj1,hj2⟩:=List.mem_filter.1 hj;have hj1:=List.mem_range.1 hj1;rcases of_decide_eq_true hj2 with e | e
 ·omega
 ·have h1:=QH hl (i:=i) (j:=j - 1) (by omega) (by omega);have h2:=QH hl (i:=j - 1) (j:=j) (by omega) hj1;omega
theorem Qb {l:List Nat} {x:Nat}:x∈Dt l l.length↔x∈l:=by
 unfold Dt;rw [List.mem_map]
 constructor
 ·rintro ⟨i,hi,rfl⟩;exact F8 (List.mem_range.1 (List.mem_filter.1 hi).1)
 ·intro hx;obtain ⟨i,hi,e⟩:=List.mem_iff_getElem.1 hx;obtain ⟨j,⟨hj,hjx⟩,hm⟩:=exmin (fun j=>j<l.length∧CZ l j=x) i i ⟨hi,by rw [Cg hi];exact e⟩ (Nat.le_refl _);refine ⟨j,List.mem_filter.2 ⟨List.mem_range.2 hj,decide_eq_true ?_⟩,hjx⟩
  by_cases h0:j=0
  ·exact .inl h0
  ·refine .inr fun e2=>?_;have:=hm (j - 1) ⟨by omega,by rw [←e2,hjx]⟩;omega
theorem MQ (l:List Nat):(GP l).Pairwise (· < ·):=MR (GX l)
theorem Qa {l:List Nat} {x:Nat}:x∈GP l↔x∈l:=by unfold GP;rw [Qb,(EV l).mem_iff]
structure DP (w:Ws) (acc:List Lw) (L:Nat ->List Nat):Prop where
 mem:∀i k,k∈L i↔∃l∈acc,l.t=1∧idx w l.f≠idx w l.r∧idx w l.f=i∧idx w l.r=k
 len:∀i,(L i).length≤acc.length
theorem DP.zero (w:Ws):DP w [] (fun _=> []):=⟨fun i k=>by simp,fun _=>Nat.le_refl _⟩
theorem DP.skip {w:Ws} {acc:List Lw} {L:Nat ->List Nat} (h:DP w acc L) {l:Lw} (hl:¬(l.t=1∧idx w l.f≠idx w l.r)):DP w (acc++ [l]) L:=by
 refine ⟨fun i k=>?_,fun i=>?_⟩
 ·rw [h.mem]
  constructor
  ·rintro ⟨x,hx,r⟩;exact ⟨x,List.mem_append_left _ hx,r⟩
  ·rintro ⟨x,hx,h1,h2,r⟩;rcases List.mem_append.1 hx with hx | hx
   ·exact ⟨x,hx,h1,h2,r⟩
   ·simp at hx;subst hx;exact absurd ⟨h1,h2⟩ hl
 ·have:=h.len i;simp;omega
theorem DP.hit {w:Ws} {acc:List Lw} {L:Nat ->List Nat} (h:DP w acc L) {l:Lw} (h1:l.t=1) (h2:idx w l.f≠idx w l.r):DP w (acc++ [l]) (Ak L (idx w l.f) (L (idx w l.f)++ [idx w l.r])):=by
 refine ⟨fun i k=>?_,fun i=>?_⟩
 ·by_cases e:i=idx w l.f
  ·subst e;rw [Dj,List.mem_append,h.mem]
   constructor
   ·rintro (⟨x,hx,r⟩ | hk)
    ·exact ⟨x,List.mem_append_left _ hx,r⟩
    ·exact ⟨l,List.mem_append_right _ (by simp),h1,h2,rfl,(List.mem_singleton.1 hk).symm⟩
   ·rintro ⟨x,hx,q1,q2,q3,q4⟩;rcases List.mem_append.1 hx with hx | hx
    ·exact .inl ⟨x,hx,q1,q2,q3,q4⟩
    ·simp at hx;subst hx;exact .inr (by simp [q4])
  ·rw [EP e,h.mem]
   constructor
   ·rintro ⟨x,hx,r⟩;exact ⟨x,List.mem_append_left _ hx,r⟩
   ·rintro ⟨x,hx,q1,q2,q3,q4⟩;rcases List.mem_append.1 hx with hx | hx
    ·exact ⟨x,hx,q1,q2,q3,q4⟩
    ·simp at hx;subst hx;exact absurd q3.symm e
 ·have h3:=h.len i
  by_cases e:i=idx w l.f
  ·rw [e,Dj];rw [e] at h3;simp;exact h3
  ·rw [EP e];simp;omega
theorem DP.fin {w:Ws} {acc:List Lw} {L:Nat ->List Nat} (h:DP w acc L) (hw:Ba w) (hp:acc.Perm w.K) (i:Nat):GP (L i)=depL w i:=by
 refine IQ (MQ _) (Gi w i) fun k=>?_;rw [Qa,h.mem,Bx hw];unfold Dep
 constructor
 ·rintro ⟨l,hl,h1,h2,h3,h4⟩;exact ⟨by rw [←h3,←h4];exact h2,l,hp.mem_iff.1 hl,h1,h3,h4⟩
 ·rintro ⟨hne,l,hl,h1,h3,h4⟩;exact ⟨l,hp.mem_iff.2 hl,h1,by rw [h3,h4];exact hne,h3,h4⟩
def MT (L:Nat ->List Nat) (i:Nat):Nat ->List Nat:=fun j=>if j<i then GP (L j) else L j
theorem Qg (L:Nat ->List Nat):MT L 0=L:=by funext c;unfold MT;rw [if_neg (by omega)]
theorem Kv (L:Nat ->List Nat) (i:Nat):MT L i i=L i:=by unfold MT;rw [if_neg (by omega)]
theorem Ir (L:Nat ->List Nat) (i:Nat):Ak (MT L i) i (GP (L i))=MT L (i+1):=by
 funext c
 by_cases e:c=i
 ·subst e;rw [Dj];unfold MT;rw [if_pos (by omega)]
 ·rw [EP e];unfold MT
  by_cases h:c<i
  ·rw [if_pos h,if_pos (by omega)]
  ·rw [if_neg h,if_neg (by omega)]
theorem cdD_end (n:Nat) (L:Nat ->List Nat):grF n (MT L n)=(List.range n).map fun i=>GP (L i):=by
 unfold grF;exact List.map_congr_left fun c hc=>by unfold MT;rw [if_pos (List.mem_range.1 hc)]
noncomputable def depG (w:Ws):List (List Nat):=(List.range (parts w).length).map (depL w)
set_option maxHeartbeats 2000000 in
theorem Q0 {M:MF} {b:Nat} {w:Ws} (h:B7 M b w) (hw:Ba w) (hK:w.K.length≤1000000) {O:List (St×Nat)} (hO:∀x∈w.R,CN O x 0=idx w x) {M7:MF} {x7:Nat} {bs7:Option (List Nat×Nat)} (h7:M7 x7=some (.map bs7 (Ac AU natD O))):
  AT Try.prog 57 [.d (pD b 0),.d (Cz (parts w)),.d (mD x7)] [(40,[.multi M]),(7,[.multi M7])] fun r H'=>r= .d (grD (depG w))∧H'=[(40,[.multi M]),(7,[.multi M7])]:=by
 obtain ⟨m,E,lk,hr,hl⟩:=h;have hperm:=hl.perm hw;have hfew:=hw.few;have hbm:b≠m:=fun e=>by subst e;have:=hr.cell;rw [hr.top] at this;cases this
 have hpm:∀p∈E,p.2≠m:=fun p hp e=>hr.ne (by rw [←e];exact List.mem_map_of_mem hp)
 obtain ⟨n,hn⟩:∃n,(parts w).length=n:=⟨_,rfl⟩
 have hnR:n≤4096:=by rw [←hn];unfold parts;rw [List.length_map];exact Nat.le_trans (List.length_filter_le _ _) hfew
 refine DY Try.func57 Z Z Try.ntmps57 Z Z Z fun F hF=>(AG (AI (AD Z Z (AF (AG (AI (AC Z Z ?_)))))));refine J (CG rfl ((List.length_map ..).trans hn) Try.underlying79 rfl) (U (Ho 20 sl101 Z Z Z (by omega) zd49 Z Z Z Z) (AD Z Z (AF (AG (AG (KG 20 0 (rowH n (fun _=>none) (fun _=> [])) rfl (by rw [EF,List.length_replicate]) (Pu n) ⟨one_nil _,Lg _ _ _⟩ rfl (Ff 50 Z Z Z (Cb 40 m rfl hr.top (fun _ _=>rfl) fun B c hB hBn=>?_))))))))
 obtain ⟨M1,hM1⟩:∃M1,BL M m (.map (some (B,c)) (Cx E))=M1:=⟨_,rfl⟩
 rw [hM1];have h1b:M1 b=some (.cells 68 [mD m]):=by rw [←hM1,Dv hbm];exact hr.cell
 have h1m:M1 m=some (.map (some (B,c)) (Cx E)):=by rw [←hM1,D2]
 have h1s:∀p∈E,M1 p.2=some (.map none (Dl (lk p.2))):=fun p hp=>by rw [←hM1,Dv (hpm p hp)];exact hr.sub p hp
 refine AI (AC Z Z ?_)
 first | refine J (Fp Z Z) ?_ | refine J (Fn Z Z) ?_ | refine J (Fq Z Z) ?_ | refine J (Fo Z Z) ?_
 first | refine J (A2 rfl A8 Z Z Z) ?_ | refine J (A4 rfl A8 Z Z Z) ?_ | refine J (A5 rfl A8 Z Z Z) ?_ | refine J (A3 rfl A8 Z Z Z) ?_ | refine J (A1 rfl A8 Z Z Z) ?_
 refine J (GQ (f:=40) Z Z (h1b) rfl Bp rfl) (U (C4 21 (f:=40) Z Z (h1m) rfl CT Z Z Z Z) (AF (B9 (Fm (α:=List Nat×List Lw×(Nat ->Hd)×(Nat ->List Nat)×MF) (fun q=>⟨81,[(0,.d (pD b 0)),(2,.d (mD x7)),(7,(.own 20 0 n)),(19,(.ptr 21 0 0))],[(20,[.rowD 49 1 (rowH n q.2.2.1 q.2.2.2.1)]),(21,[.iter 40 m c q.1]),(40,[.multi M1]),(7,[.multi M7]),(50,[.multi q.2.2.2.2])]⟩) (fun q=>(q.2.1++(Bc (eE E) B q.1).flatMap (Ch lk)).Perm ((eE E).flatMap (Ch lk))∧Gn q.2.2.2.2 n q.2.2.1 q.2.2.2.1∧DP w q.2.1 q.2.2.2.1) (fun q=>(Bc (eE E) B q.1).length) (([],[],(fun _=>none),(fun _=> []),fun _=>none)) (⟨by show ([]++(Bc (eE E) B []).flatMap _).Perm _;rw [C9 (by simpa [Ac] using hB)];exact List.Perm.refl _,Gn.zero n,DP.zero w⟩) (BK hF [20,21,40,7,50] Z Z ⟨rfl,rfl,rfl,rfl,trivial⟩) ?_))));rintro ⟨seen,acc,hs,L,M5⟩ ⟨hP,hN,hA⟩;dsimp only at hP hN hA⊢;refine AG (AI (E3 (eE E) Z Z Z (h1m) rfl (fun hl20=>?_) (fun j20 b20 k20 v20 hm20 hb20 hB20 hp20=>⟨_,rfl,?_⟩)))
 ·rw [hl20] at hP;refine DC 40 m rfl h1m rfl ?_;rw [show BL M1 m (.map none (Cx E))=M by rw [←hM1,Bw];exact F9 hr.top]
  first | refine J (Bo Z Z Z) ?_ | refine J (Bn Z Z Z) ?_
  refine AF (AG (Dk Z Z (Eg (AG (AG ?_)))));have hPK:acc.Perm w.K:=(show acc.Perm _ by simpa using hP).trans hperm;have hLl:∀i,(L i).length≤1048576:=fun i=>Nat.le_trans (hA.len i) (by rw [hPK.length_eq];omega);rw [←Qg L] at hN⊢;refine AI (AC Z Z ?_)
  first | refine J (JL rfl Try.underlying101 rfl) ?_ | refine J (CG Z Z Try.underlying101 rfl) ?_ | refine J (JG rfl Try.underlying101 rfl) ?_ | refine J (JJ rfl Try.underlying101 rfl) ?_ | refine J (JF rfl Try.underlying101 rfl) ?_ | refine J (Ix rfl Try.underlying101 rfl) ?_
  refine AC Z Z (AF (B9 (Fm (α:=Nat×MF×(Nat ->Hd)) (fun q=>⟨81,[(7,(.own 20 0 n)),(61,(.own 20 0 n)),(62,(.d (natD n))),(63,(.d (natD q.1)))],[(20,[.rowD 49 1 (rowH n q.2.2 (MT L q.1))]),(40,[.multi M]),(7,[.multi M7]),(50,[.multi q.2.1])]⟩) (fun q=>q.1≤n∧Gn q.2.1 n q.2.2 (MT L q.1)) (fun q=>n - q.1) ((0,M5,hs)) (⟨Nat.zero_le _,hN⟩) (BK hF [20,40,7,50] Z Z ⟨rfl,rfl,rfl,rfl,trivial⟩) ?_)));rintro ⟨i,M6,hs⟩ ⟨hi,hr6⟩;dsimp only at hi hr6⊢;refine AG (AI ?_)
  first | refine J (Eo Z Z Z) ?_ | refine J (Ep Z Z Z) ?_
  refine AF (AG ?_)
  first | refine BG rfl (fun h64=>?_) (fun h64=>?_) | refine BB rfl (fun h64=>?_) (fun h64=>?_)
  ·refine An (AG (B9 (AG ?_)));have hic:i<n:=H9 h64;have hat:=hr6.at_ i hic;have hcl2:=hLl i;rw [Kv] at hat;have hget:=GZ (hs:=hs) (ls:=MT L i) hic;rw [Kv] at hget;refine AI (AC Z Z (AD Z Z (AF (AG (AI (AC Z Z (AC Z Z ?_)))))))
   first | refine J (BM (i) Z Z (rfl) (hic) Try.underlying101 rfl Ci rfl) ?_ | refine J (BN (i) Z Z (rfl) (hic) rfl Try.underlying101 Ci rfl) ?_
   first | refine J (AY Z Z A9 rfl) ?_ | refine J (AW Z Z Z A9 rfl) ?_ | refine J (AX Z Z (hget) rfl A9 rfl) ?_
   rcases hd_two (hs i) with hh | ⟨b1,c1,hh⟩<;>rw [hh] at hat hget⊢
   ·refine U (OD QJ Z Z Z) (AF (AI ?_));have h0:L i=[]:=List.map_eq_nil_iff.1 hat;have hcst:MT L i=MT L (i+1):=by rw [←Ir,h0,Q9];exact (D4 (by rw [Kv,h0])).symm
    refine AC Z Z (AC Z Z (AC Z Z (AC Z Z ?_)))
    first | refine J (BM (i) Z Z (rfl) (hic) Try.underlying101 rfl Ci rfl) ?_ | refine J (BN (i) Z Z (rfl) (hic) rfl Try.underlying101 Ci rfl) ?_
    first | refine J (AY Z Z A9 rfl) ?_ | refine J (AW Z Z Z A9 rfl) ?_ | refine J (AX Z Z (hget) rfl A9 rfl) ?_
    refine U (HM Oi rfl [] trivial Z Z Z Z Z Z Z Z Z) ?_
    first | refine J (BM (i) Z Z (rfl) (hic) Try.underlying101 rfl Ci rfl) ?_ | refine J (BN (i) Z Z (rfl) (hic) rfl Try.underlying101 Ci rfl) ?_
    refine U (Zcp Z Z Z Z Z (by rw [EF];exact hic) (IV (h:=none) (l:=[])) rfl Ci) (AF (AI (J (DA Z Z (IntWalk.i64_in _ (by omega)) rfl) (AC Z Z (AF ?_)))));exact ⟨(i+1,M6,hs),⟨hic,by rw [←hcst];exact hr6⟩,by show n - (i+1)<n - i;omega,BK hF [20,40,7,50] rfl (by rw [D4 hh,D4 (show MT L i i=[] by rw [Kv,h0]),hcst];rfl) ⟨rfl,rfl,rfl,rfl,trivial⟩⟩
   ·refine U (OC (f:=50) QJ ((L i).map Int.ofNat) (by rw [List.length_map];omega) Z Z Z hat.2 (ofN_map _) (by rw [List.length_map]) Z Z) (AF (AI ?_));have hrc:(L i).length≤c1:=by have:=hat.1;rwa [List.length_map] at this
    have hcp:=(NO hrc hcl2 M6 b1).by [(40,50)] rfl;rw [J5];refine AC Z Z (AC Z Z (AC Z Z (AC Z Z ?_)))
    first | refine J (BM (i) Z Z (rfl) (hic) Try.underlying101 rfl Ci rfl) ?_ | refine J (BN (i) Z Z (rfl) (hic) rfl Try.underlying101 Ci rfl) ?_
    first | refine J (AY Z Z A9 rfl) ?_ | refine J (AW Z Z Z A9 rfl) ?_ | refine J (AX Z Z (hget) rfl A9 rfl) ?_
    refine U (HM hcp rfl [50] ⟨rfl,trivial⟩ Z Z Z Z Z Z Z Z Z) ?_
    first | refine J (BM (i) Z Z (rfl) (hic) Try.underlying101 rfl Ci rfl) ?_ | refine J (BN (i) Z Z (rfl) (hic) rfl Try.underlying101 Ci rfl) ?_
    refine U (Zcp Z Z Z Z Z (by rw [EF];exact hic) (IV (h:=some (b1,c1)) (l:=GP (L i))) rfl Ci) (AF (AI (J (DA Z Z (IntWalk.i64_in _ (by omega)) rfl) (AC Z Z (AF ?_)))));exact ⟨(i+1,BL M6 b1 (.row 3 1 c1 ((GP (L i)).map natD)),hs),⟨hic,by have:=hr6.put hic hh (Nat.le_trans (cptS_le _) hrc);rw [Ir] at this;exact this⟩,by show n - (i+1)<n - i;omega,BK hF [20,40,7,50] rfl (by rw [D4 hh,Ir,Bw];rfl) ⟨rfl,rfl,rfl,rfl,trivial⟩⟩
  ·refine Eg (AG ?_);have hin:i=n:=by have:=h64;omega
   subst hin;have hdg:grF i (MT L i)=depG w:=by rw [cdD_end];unfold depG;rw [hn];exact List.map_congr_left fun j _=>hA.fin hw hPK j
   refine Qn 20 0 50 ((depG w).map natsD) Z Z Z Z Z (by rw [←hdg,List.length_map,Hx,EF]) (by rw [←hdg];exact hr6.melt) ⟨Lg _ _ _,one_gr _⟩ rfl (Zck (emb:=natsD) 7 20 (depG w) Z Z Z (by rw [←hdg,Hx]) Z Z Z (AI (AC Z Z (AD Z Z (AF (Ay ?_))))));exact ⟨_,[40,7],_,Av rfl,rfl,rfl,rfl,rfl⟩
 ·first | refine J (Bo Z Z Z) ?_ | refine J (Bn Z Z Z) ?_
  refine AF (AG (Kx Z Z (An (B9 (AG (AI (J (C5 (eE E) j20 b20 Z Z Z (h1m) hm20 hb20 rfl) ?_)))))))
  first | refine J (Bo Z Z Z) ?_ | refine J (Bn Z Z Z) ?_
  first | refine J (Bo Z Z Z) ?_ | refine J (Bn Z Z Z) ?_
  refine AD Z Z (AD Z Z (AF (AG ?_)));obtain ⟨hd,hpe,hve⟩:=Gd hm20;subst hve;have hkR:k20∈w.R:=(hl.ks k20).1 (List.mem_map_of_mem (f:=Prod.fst) hpe);refine Cb 40 hd rfl (h1s _ hpe) (fun _ _=>rfl) fun B2 c2 hB2 hBn2=>?_
  obtain ⟨M2,hM2⟩:∃M2,BL M1 hd (.map (some (B2,c2)) (Dl (lk hd)))=M2:=⟨_,rfl⟩
  rw [hM2];have h2h:M2 hd=some (.map (some (B2,c2)) (Dl (lk hd))):=by rw [←hM2,D2]
  refine AI (AC Z Z (U (C4 22 (f:=40) Z Z (h2h) rfl HE Z Z Z Z) (AF (B9 (Fm (α:=List Nat×List Lw×(Nat ->Hd)×(Nat ->List Nat)×MF) (fun q=>⟨81,[(0,.d (pD b 0)),(2,.d (mD x7)),(7,(.own 20 0 n)),(8,(.d (AU k20))),(19,(.ptr 21 0 0)),(26,(.ptr 22 0 0))],[(20,[.rowD 49 1 (rowH n q.2.2.1 q.2.2.2.1)]),(21,[.iter 40 m c (seen++ [b20])]),(22,[.iter 40 hd c2 q.1]),(40,[.multi M2]),(7,[.multi M7]),(50,[.multi q.2.2.2.2])]⟩) (fun q=>(q.2.1++((Bc (Dp (lk hd)) B2 q.1).map (fun x=>(⟨k20,x.1.t,x.1.r⟩:Lw))++(Bc (eE E) B (seen++ [b20])).flatMap (Ch lk))).Perm ((eE E).flatMap (Ch lk))∧Gn q.2.2.2.2 n q.2.2.1 q.2.2.2.1∧DP w q.2.1 q.2.2.2.1) (fun q=>(Bc (Dp (lk hd)) B2 q.1).length) (([],acc,hs,L,M5)) (⟨by show (acc++((Bc (Dp (lk hd)) B2 []).map _++_)).Perm _;rw [C9 (by simpa [Ac] using hB2)];exact N7 hP hp20 (HX lk k20 hd),hN,hA⟩) (BK hF [20,21,22,40,7,50] Z Z ⟨rfl,rfl,rfl,rfl,rfl,rfl,trivial⟩) ?_)))));rintro ⟨seen2,acc2,hs2,L2,M52⟩ ⟨hP2,hN2,hA2⟩;dsimp only at hP2 hN2 hA2⊢;refine AG (AI (E3 (Dp (lk hd)) Z Z Z (h2h) rfl (fun hl27=>?_) (fun j27 b27 k27 v27 hm27 hb27 hB27 hp27=>⟨_,rfl,?_⟩)))
  ·rw [hl27] at hP2;refine DC 40 hd rfl h2h rfl ?_;rw [show BL M2 hd (.map none (Dl (lk hd)))=M1 by rw [←hM2,Bw];exact F9 (h1s _ hpe)]
   first | refine J (Bo Z Z Z) ?_ | refine J (Bn Z Z Z) ?_
   refine AF (AG (Dk Z Z (Eg ?_)));exact ⟨(seen++ [b20],acc2,hs2,L2,M52),⟨by simpa using hP2,hN2,hA2⟩,by show (Bc (eE E) B (seen++ [b20])).length<(Bc (eE E) B seen).length;rw [hp20.length_eq];exact Nat.lt_succ_self _,BK hF [20,21,40,7,50] rfl (rfl) ⟨rfl,rfl,rfl,rfl,trivial⟩⟩
  ·first | refine J (Bo Z Z Z) ?_ | refine J (Bn Z Z Z) ?_
   refine AF (AG (Kx Z Z (An (B9 (AG (AI (J (C5 (Dp (lk hd)) j27 b27 Z Z Z (h2h) hm27 hb27 rfl) ?_)))))))
   first | refine J (Bo Z Z Z) ?_ | refine J (Bn Z Z Z) ?_
   refine U (IF 23 Ma Z Z Z Z) (U (Bu Z Z Z Z Z Z Z sz39) (AF (AG ?_)));have hlK:(⟨k20,k27.t,k27.r⟩:Lw)∈w.K:=(hl.ls _ hpe k27).1 (QG hm27);have hrR:k27.r∈w.R:=(hw.lk _ hlK).2.1;have hik:idx w k20<n:=by rw [←hn];exact GJ hw hkR
   have hir:idx w k27.r<n:=by rw [←hn];exact GJ hw hrR
   refine AI ?_
   first | refine J (A2 rfl Hk Z Z Z) ?_ | refine J (A4 rfl Hk Z Z Z) ?_ | refine J (A5 rfl Hk Z Z Z) ?_ | refine J (A3 rfl Hk Z Z Z) ?_ | refine J (A1 rfl Hk Z Z Z) ?_
   first | refine J (AY Z Z B8 rfl) ?_ | refine J (AW Z Z Z B8 rfl) ?_ | refine J (AX Z Z (rfl) rfl B8 rfl) ?_
   first | refine J (FP Z Z Z) ?_ | refine J (FX Z Z Z) ?_ | refine J (Et Z Z Z) ?_ | refine J (FQ Try.underlying3 Z Z Z) ?_ | refine J (FT Try.underlying3 Z Z Z) ?_ | refine J (fSq Try.underlying3 Z Z) ?_ | refine J (FW Try.underlying3 Z Z) ?_ | refine J (FV Try.underlying3 Z Z) ?_ | refine J (FR Try.underlying3 Z Z Z) ?_ | refine J (FU Try.underlying3 Z Z) ?_
   refine AC Z Z ?_
   first | refine KL 34 rfl (fun h34=>?_) (fun h34=>?_) | refine JH 34 rfl (fun h34=>?_) (fun h34=>?_)
   ·refine Ab Z Z Z (AC Z Z (Ab Z Z Z (AC Z Z (Ab Z Z Z (J (HO (f:=7) O k20 0 (idx w k20) Z Z h7 rfl Hc E6 za3 (hO _ hkR) rfl) (Ab Z Z Z (AC Z Z (Ab Z Z Z ?_))))))))
    first | refine J (A2 rfl CB Z Z Z) ?_ | refine J (A4 rfl CB Z Z Z) ?_ | refine J (A5 rfl CB Z Z Z) ?_ | refine J (A3 rfl CB Z Z Z) ?_ | refine J (A1 rfl CB Z Z Z) ?_
    refine Ab Z Z Z ?_
    first | refine J (AY Z Z AZ rfl) ?_ | refine J (AW Z Z Z AZ rfl) ?_ | refine J (AX Z Z (rfl) rfl AZ rfl) ?_
    refine Ab Z Z Z (J (HO (f:=7) O k27.r 0 (idx w k27.r) Z Z h7 rfl Hc E6 za3 (hO _ hrR) rfl) (Ab Z Z Z ?_))
    first | refine J (IH Z Z Z) ?_ | refine J (IG Z Z Z) ?_ | refine J (Hm Z Z Z) ?_ | refine J (IB Try.underlying3 Z Z Z) ?_ | refine J (ID Try.underlying3 Z Z Z) ?_ | refine J (st_neqN Try.underlying3 Z Z) ?_ | refine J (st_neqPr Try.underlying3 Z Z) ?_ | refine J (st_neqMz Try.underlying3 Z Z) ?_ | refine J (IC Try.underlying3 Z Z Z) ?_ | refine J (st_neqFN Try.underlying3 Z Z) ?_
    refine J (H8 Z Z Z Z) (AF ?_)
    first | refine BG rfl (fun h43=>?_) (fun h43=>?_) | refine BB rfl (fun h43=>?_) (fun h43=>?_)
    ·have hne:idx w k20≠idx w k27.r:=fun e=>h43 (congrArg Int.ofNat e);have hal:acc2.length≤1000000:=by have h1:=hP2.length_eq;rw [hperm.length_eq,List.length_append] at h1;omega
     have hln:=hA2.len (idx w k20);refine Fh [[],[],[],[1,2],[],[],[],[5,6],[4,5,6,7],[4,5,6,7,8],[],[],[11],[10,11,12],[10,11,12,13],[4,5,6,7,8,9,10,11,12,13,14],[0,1,2,3,4,5,6,7,8,9,10,11,12,13,14,15],[0,1,2,3,4,5,6,7,8,9,10,11,12,13,14,15,16]] mixed rfl (EK ?_)
     first | refine AE [7] [] Z Z (fun _=>AB (Aa Z Z)) ?_ | refine AH [7] Z Z (fun _=>AB (Aa Z Z)) ?_
     first | refine AE [2] [] Z Z (fun _=>AB (Aa Z Z)) ?_ | refine AH [2] Z Z (fun _=>AB (Aa Z Z)) ?_
     first | refine AE [8] [] Z Z (fun _=>AB (Aa Z Z)) ?_ | refine AH [8] Z Z (fun _=>AB (Aa Z Z)) ?_
     refine AE [45,46] [7] Z Z (fun _=>AB (HO (f:=7) O k20 0 (idx w k20) Z Z h7 rfl Hc E6 za3 (hO _ hkR) rfl)) ?_
     first | refine AE [7] [] Z Z (fun _=>AB (Aa Z Z)) ?_ | refine AH [7] Z Z (fun _=>AB (Aa Z Z)) ?_
     first | refine AE [2] [] Z Z (fun _=>AB (Aa Z Z)) ?_ | refine AH [2] Z Z (fun _=>AB (Aa Z Z)) ?_
     first | refine AE [8] [] Z Z (fun _=>AB (Aa Z Z)) ?_ | refine AH [8] Z Z (fun _=>AB (Aa Z Z)) ?_
     refine AE [49,50] [7] Z Z (fun _=>AB (HO (f:=7) O k20 0 (idx w k20) Z Z h7 rfl Hc E6 za3 (hO _ hkR) rfl)) ?_
     first | refine AE [48,51] [20] Z Z (fun _=>AB (BM (idx w k20) Z Z (rfl) (hik) Try.underlying101 rfl Ci rfl)) ?_ | refine AE [48,51] [20] Z Z (fun _=>AB (BN (idx w k20) Z Z (rfl) (hik) rfl Try.underlying101 Ci rfl)) ?_
     first | refine AE [52] [20] Z Z (fun _=>AB (AY Z Z A9 rfl)) ?_ | refine AE [52] [20] Z Z (fun _=>AB (AW Z Z Z A9 rfl)) ?_ | refine AE [52] [20] Z Z (fun _=>AB (AX Z Z (GZ hik) rfl A9 rfl)) ?_
     first | refine AE [2] [] Z Z (fun _=>AB (Aa Z Z)) ?_ | refine AH [2] Z Z (fun _=>AB (Aa Z Z)) ?_
     first | refine AE [10] [] Z Z (fun _=>AB (A2 rfl CB Z Z Z)) ?_ | refine AH [10] Z Z (fun _=>AB (A2 rfl CB Z Z Z)) ?_ | refine AE [10] [] Z Z (fun _=>AB (A4 rfl CB Z Z Z)) ?_ | refine AH [10] Z Z (fun _=>AB (A4 rfl CB Z Z Z)) ?_ | refine AE [10] [] Z Z (fun _=>AB (A5 rfl CB Z Z Z)) ?_ | refine AH [10] Z Z (fun _=>AB (A5 rfl CB Z Z Z)) ?_ | refine AE [10] [] Z Z (fun _=>AB (A3 rfl CB Z Z Z)) ?_ | refine AH [10] Z Z (fun _=>AB (A3 rfl CB Z Z Z)) ?_ | refine AE [10] [] Z Z (fun _=>AB (A1 rfl CB Z Z Z)) ?_ | refine AH [10] Z Z (fun _=>AB (A1 rfl CB Z Z Z)) ?_
     first | refine AE [55] [23] Z Z (fun _=>AB (AY Z Z AZ rfl)) ?_ | refine AE [55] [23] Z Z (fun _=>AB (AW Z Z Z AZ rfl)) ?_ | refine AE [55] [23] Z Z (fun _=>AB (AX Z Z (rfl) rfl AZ rfl)) ?_
     refine AE [54,56] [7] Z Z (fun _=>AB (HO (f:=7) O k27.r 0 (idx w k27.r) Z Z h7 rfl Hc E6 za3 (hO _ hrR) rfl)) (Bs [57] [24] [(58,_)] Z Z (fun _=>Hl (Gl 24 Ex Z Z Z Z Z Z Z Z)) (.inr ⟨58,_,rfl,rfl,rfl,rfl,rfl⟩) Z Z Z Z Z (Bs [53,58] [50,24,60] [(59,_)] Z Z (fun _=>Hl (Hq 53 60 50 (hN2.at_ (idx w k20) hik) Z Z (by rw [List.length_map]) Z Z Z Z Z (JE (emb:=natD) (L2 (idx w k20)) [idx w k27.r] Z Z Z Z Z Z Z Z Ex (by show ((L2 (idx w k20)).length+1)*8≤_;omega) Z Z Z Z))) (.inr ⟨59,_,rfl,rfl,rfl,rfl,rfl⟩) Z Z Z Z Z (EL 16 Z Z Z (B6 17 Z Z (F7 59 60 50 hF Z Z Z (by rw [List.length_map]) (by simp) Z Z Z Z Z Z Z (fun _ _=>rfl) fun b1 c1 hb1 hc1=>?_)))));have hN3:=hN2.app hik hb1 hc1
     first | refine J (BM (idx w k20) Z Z (rfl) (hik) Try.underlying101 rfl Ci rfl) ?_ | refine J (BN (idx w k20) Z Z (rfl) (hik) rfl Try.underlying101 Ci rfl) ?_
     refine AF ⟨rfl,?_⟩;refine B6 18 Z Z (U (Zcp Z Z Z Z Z (by rw [EF];exact hik) (IV (h:=some (b1,c1))) rfl Ci) (AF ⟨rfl,?_⟩));refine Es ?_;exact ⟨(seen2++ [b27],acc2++ [⟨k20,k27.t,k27.r⟩],Ak hs2 (idx w k20) (some (b1,c1)),_,_),⟨G2 hP2 hp27,hN3,hA2.hit (l:=⟨k20,k27.t,k27.r⟩) h34 hne⟩,by show (Bc (Dp (lk hd)) B2 (seen2++ [b27])).length<(Bc (Dp (lk hd)) B2 seen2).length;rw [hp27.length_eq];exact Nat.lt_succ_self _,BK hF [20,21,22,40,7,50] rfl (rfl) ⟨rfl,rfl,rfl,rfl,rfl,rfl,trivial⟩⟩
    ·refine An ?_;exact ⟨(seen2++ [b27],acc2++ [⟨k20,k27.t,k27.r⟩],hs2,L2,M52),⟨G2 hP2 hp27,hN2,hA2.skip (l:=⟨k20,k27.t,k27.r⟩) (fun hh=>h43 (fun e=>hh.2 (Int.ofNat.inj e)))⟩,by show (Bc (Dp (lk hd)) B2 (seen2++ [b27])).length<(Bc (Dp (lk hd)) B2 seen2).length;rw [hp27.length_eq];exact Nat.lt_succ_self _,BK hF [20,21,22,40,7,50] rfl (rfl) ⟨rfl,rfl,rfl,rfl,rfl,rfl,trivial⟩⟩
   ·refine BH Z Z Z Z (BH Z Z Z Z (BH Z Z Z Z ?_));refine BH Z Z Z Z (BH Z Z Z Z (BH Z Z Z Z (BH Z Z Z Z (BH Z Z Z Z (J (GR Z Z Z Z) (AF (Dk Z Z (An ?_))))))));exact ⟨(seen2++ [b27],acc2++ [⟨k20,k27.t,k27.r⟩],hs2,L2,M52),⟨G2 hP2 hp27,hN2,hA2.skip (l:=⟨k20,k27.t,k27.r⟩) (fun hh=>h34 hh.1)⟩,by show (Bc (Dp (lk hd)) B2 (seen2++ [b27])).length<(Bc (Dp (lk hd)) B2 seen2).length;rw [hp27.length_eq];exact Nat.lt_succ_self _,BK hF [20,21,22,40,7,50] rfl (rfl) ⟨rfl,rfl,rfl,rfl,rfl,rfl,trivial⟩⟩
abbrev Hh (g:Grp):D:= .agg [stsD g.m,natsD g.a]
abbrev DF (l:List Grp):D:= .sl none (l.map Hh)
def DD (ord:List Nat) (i:Nat):Int:=if i∈ord then (ord.idxOf i:Int) else -1
theorem G6 {ord:List Nat} {i:Nat}:DD ord i<0↔i∉ord:=by
 unfold DD
 split
 ·rename_i h;simp [h]
 ·rename_i h;simp [h]
theorem Pq:DD [] =fun _=> -1:=by funext i;simp [DD]
theorem O2 {ord:List Nat} {i:Nat} (h:i∉ord):Ak (DD ord) i (ord.length:Int)=DD (ord++ [i]):=by
 funext j
 unfold DD Ak;show (if j=i then (ord.length:Int) else (if j∈ord then (ord.idxOf j:Int) else -1))=if j∈ord++ [i] then ((ord++ [i]).idxOf j:Int) else -1
 by_cases e:j=i
 ·subst e;rw [if_pos rfl,if_pos (by simp),List.idxOf_append,if_neg h]
  simp
 ·rw [if_neg e]
  by_cases hj:j∈ord
  ·rw [if_pos hj,if_pos (by simp [hj]),List.idxOf_append,if_pos hj]
  ·rw [if_neg hj,if_neg (by simp [hj,e])]
theorem Jw (w:Ws) (ord:List Nat) (i:Nat):grpS w (ord++ [i])=grpS w ord++ [⟨(parts w).getD i [],EO (depL w) ord i ord.length⟩]:=by
 unfold grpS;rw [List.length_append,List.length_singleton,List.range_succ,List.map_append]
 have hg:∀k,k<ord.length ->(ord++ [i]).getD k 0=ord.getD k 0:=fun k hk=>by
  rw [List.getD_eq_getElem?_getD,List.getD_eq_getElem?_getD,List.getElem?_append_left hk]
 have ha:∀j p,p≤ord.length ->EO (depL w) (ord++ [i]) j p=EO (depL w) ord j p:=fun j p hp=>by
  unfold EO;exact List.filter_congr fun k hk=>by rw [hg k (by have:=List.mem_range.1 hk;omega)]
 congr 1
 ·refine List.map_congr_left fun p hp=>?_;have hp:=List.mem_range.1 hp;rw [hg p hp,ha _ p (Nat.le_of_lt hp)]
 ·simp only [List.map_cons,List.map_nil];have:(ord++ [i]).getD ord.length 0=i:=by simp [List.getD_eq_getElem?_getD]
  rw [this,ha _ _ (Nat.le_refl _)]
theorem OL {l m:List Nat} (h:l.Nodup) (hm:m.Pairwise (· < ·)) (he:∀x,x∈l↔x∈m):Ck l=m:=by
 have h1:=(EV l).nodup_iff.2 h;refine IQ ?_ hm fun x=>((EV l).mem_iff).trans (he x);exact (List.Pairwise.and (GX l) h1).imp fun ⟨h2,h3⟩=>by omega
theorem MV {w:Ws} {ord:List Nat} {i:Nat} (hnd:ord.Nodup) (hd:∀k∈depL w i,k∈ord):Ck ((depL w i).map ord.idxOf)=EO (depL w) ord i ord.length:=by
 have hat:∀k∈ord,ord[ord.idxOf k]?=some k:=fun k hk=>by
  have hlt:=List.idxOf_lt_length_iff.2 hk;rw [List.getElem?_eq_getElem hlt,List.getElem_idxOf hlt]
 refine OL ?_ (List.Pairwise.sublist List.filter_sublist List.pairwise_lt_range) fun p=>?_
 ·rw [List.nodup_iff_pairwise_ne,List.pairwise_map];refine List.Pairwise.imp_of_mem (fun {a b} ha hb hab e=>?_) (Gi w i);have h1:=hat a (hd a ha);rw [e,hat b (hd b hb)] at h1;injection h1 with h1
  omega
 ·unfold EO;rw [List.mem_map,List.mem_filter,List.mem_range,List.contains_iff_mem]
  constructor
  ·rintro ⟨k,hk,rfl⟩;have h1:=hat k (hd k hk);refine ⟨(List.getElem?_eq_some_iff.1 h1).1,?_⟩;rw [List.getD_eq_getElem?_getD,h1];exact hk
  ·rintro ⟨hp,hk⟩;refine ⟨_,hk,?_⟩;have h2:ord[p]?=some (ord.getD p 0):=by rw [List.getD_eq_getElem?_getD,List.getElem?_eq_getElem hp];rfl
   have h3:=hat _ (hd _ hk);have hn:=List.nodup_iff_pairwise_ne.1 hnd;have hlt:=(List.getElem?_eq_some_iff.1 h3).1;refine Classical.byContradiction fun hne=>?_;have e1:=(List.getElem?_eq_some_iff.1 h3).2;have e2:=(List.getElem?_eq_some_iff.1 h2).2;rcases Nat.lt_or_gt_of_ne hne with h4 | h4
   ·exact (List.pairwise_iff_getElem.1 hn _ _ hlt hp h4) (e1.trans e2.symm)
   ·exact (List.pairwise_iff_getElem.1 hn _ _ hp hlt h4) (e2.trans e1.symm)
abbrev HN (n:Nat) (f:Nat ->Int):Hp:=[(930,[.blk 49 [.own 931 0 n]]),(931,[.rowD 3 1 (L0 n f)])]
theorem ord1_c (n:Nat) (f:Nat ->Int) (k:Nat) (hk:k<n):AT Try.prog 59 [.d (natD k),.ptr 930 0 0] (HN n f) fun r H'=>r= .d (Ar (decide (f k<0)))∧H'=HN n f:=by
 refine DY Try.func59 Z Z Try.ntmps59 Z Z Z fun F hF=>(AG (AI (AD Z Z (AF (AG (AI ?_))))))
 first | refine J (AY Z Z A9 rfl) ?_ | refine J (AW Z Z Z A9 rfl) ?_ | refine J (AX Z Z (rfl) rfl A9 rfl) ?_
 refine AC Z Z ?_
 first | refine J (BM (k) Z Z (rfl) (hk) Try.underlying49 rfl DZ rfl) ?_ | refine J (BN (k) Z Z (rfl) (hk) rfl Try.underlying49 DZ rfl) ?_
 first | refine J (AY Z Z B8 rfl) ?_ | refine J (AW Z Z Z B8 rfl) ?_ | refine J (AX Z Z (IU hk) rfl B8 rfl) ?_
 first | refine J (Eo Z Z Z) ?_ | refine J (Ep Z Z Z) ?_
 refine AD Z Z (AF (Ay ?_));exact ⟨_,[930,931],_,Av rfl,rfl,rfl,rfl,rfl⟩
def ixN (f:Nat ->Int) (l:List Nat):Int:=match l.findIdx? (fun k=>decide (f k<0)) with
 | some i=>(i:Int)
 | none=> -1
theorem ixN_at {f:Nat ->Int} {l:List Nat} {j:Nat} (hj:j<l.length) (h0:∀i,i<j ->¬f (CZ l i)<0) (h:f (CZ l j)<0):ixN f l=(j:Int):=by
 have:l.findIdx? (fun k=>decide (f k<0))=some j:=by
  rw [List.findIdx?_eq_some_iff_getElem];refine ⟨hj,by rw [←Cg hj];simpa using h,fun i hi=>?_⟩;have:=h0 i hi;rw [Cg (by omega)] at this
  simpa using this
 unfold ixN;rw [this]
theorem ixN_no {f:Nat ->Int} {l:List Nat} (h0:∀i,i<l.length ->¬f (CZ l i)<0):ixN f l= -1:=by
 have:l.findIdx? (fun k=>decide (f k<0))=none:=by
  rw [List.findIdx?_eq_none_iff];intro x hx;obtain ⟨i,hi,rfl⟩:=List.getElem_of_mem hx;have:=h0 i hi;rw [Cg hi] at this
  simpa using this
 unfold ixN;rw [this]
abbrev o1A:AV:= .fn 59 [.ptr 930 0 0]
theorem idxF_c (n:Nat) (f:Nat ->Int) (l:List Nat) (hl:∀k∈l,k<n) (hll:l.length≤1000000):AT Try.prog 74 [.d (natsD l),o1A] (HN n f) fun r H'=>r= .d (Bt (ixN f l))∧H'=HN n f:=by
 refine DY Try.func74 Z Z Try.ntmps74 Z Z Z fun F hF=>(AG (AI (AD Z Z (AF ?_))));refine AG (AG (AI (AC Z Z (J (CG rfl (List.length_map ..) Try.underlying49 rfl) (AC Z Z (AF (B9 (NU (α:=Nat) (fun j=>⟨19,[(0,.d (natsD l)),(1,o1A),(7,(.d (natD l.length))),(8,(.d (natD j)))],HN n f⟩) (fun j=>j≤l.length∧∀i,i<j ->¬f (CZ l i)<0) (fun j=>l.length - j) (0) (⟨Nat.zero_le _,fun i hi=>by omega⟩) (Fb ⟨rfl,rfl,rfl,rfl,trivial⟩) ?_))))))));rintro j ⟨hj,h0⟩;refine AG (AI ?_)
 first | refine J (Eo Z Z Z) ?_ | refine J (Ep Z Z Z) ?_
 refine AF (AG ?_)
 first | refine BG rfl (fun h9=>?_) (fun h9=>?_) | refine BB rfl (fun h9=>?_) (fun h9=>?_)
 ·have hjl:j<l.length:=H9 h9;refine An (AG (B9 (AG ?_)));refine AI (AC Z Z (AD Z Z (AF (AG (AI (AC Z Z (AC Z Z (AC Z Z ?_))))))))
  first | refine J (BM (j) Z Z (rfl) (DT hjl) Try.underlying49 rfl DZ rfl) ?_ | refine J (BN (j) Z Z (rfl) (DT hjl) rfl Try.underlying49 DZ rfl) ?_
  first | refine J (AY Z Z B8 rfl) ?_ | refine J (AW Z Z Z B8 rfl) ?_ | refine J (AX Z Z (rfl) rfl B8 rfl) ?_
  refine U (OJ (ord1_c n f (CZ l j) (hl _ (F8 hjl))) rfl [930,931] ⟨rfl,rfl,trivial⟩ Z Z Z Z Z Z Z Z Z) (AF ?_)
  first | refine BG rfl (fun h16=>?_) (fun h16=>?_) | refine BB rfl (fun h16=>?_) (fun h16=>?_)
  ·refine AG (AI (AC Z Z (AD Z Z (AF (Ay ?_)))));exact ⟨_,[930,931],_,Av rfl,rfl,rfl,by rw [ixN_at hjl h0 h16],rfl⟩
  ·refine An (AI (J (DA Z Z (IntWalk.i64_in _ (by omega)) rfl) (AC Z Z (AF ?_))));exact ⟨j+1,⟨hjl,fun i hi=>by by_cases e:i=j;subst e;exact h16;exact h0 i (by omega)⟩,by show l.length - (j+1)<l.length - j;omega,⟨rfl,rfl,fun _ _=>Has.get (l:=[(0,_),(1,_),(7,_),(8,_)]) ⟨rfl,rfl,rfl,rfl,trivial⟩⟩⟩
 ·refine Eg (AG (AI (AD Z Z (AF (Ay ?_)))));exact ⟨_,[930,931],_,Av rfl,rfl,rfl,by rw [ixN_no fun i hi=>h0 i (by have:=h9;omega)],rfl⟩
theorem ixN_any (f:Nat ->Int) (l:List Nat):decide (0≤ixN f l)=decide (∃k∈l,f k<0):=by
 unfold ixN
 cases h:l.findIdx? (fun k=>decide (f k<0)) with
 | some i=>
  obtain ⟨h1,h2,_⟩:=List.findIdx?_eq_some_iff_getElem.1 h;rw [decide_eq_true (show (0:Int)≤(i:Int) by omega),decide_eq_true];exact ⟨_,List.getElem_mem h1,by simpa using h2⟩
 | none=>
  rw [List.findIdx?_eq_none_iff] at h;rw [decide_eq_false (by decide),decide_eq_false];rintro ⟨k,hk,h1⟩;have:=h k hk
  simp at this;omega
theorem contF_c (n:Nat) (f:Nat ->Int) (l:List Nat) (hl:∀k∈l,k<n) (hll:l.length≤1000000):AT Try.prog 58 [.d (natsD l),o1A] (HN n f) fun r H'=>r= .d (Ar (decide (∃k∈l,f k<0)))∧H'=HN n f:=by
 refine DY Try.func58 Z Z Try.ntmps58 Z Z Z fun F hF=>(AG (AI (AD Z Z (AF ?_))));refine AG (AI (AC Z Z (AC Z Z (U (HM (idxF_c n f l hl hll) rfl [930,931] ⟨rfl,rfl,trivial⟩ Z Z Z Z Z Z Z Z Z) (J (KX Z Z Z) (AD Z Z (AF (Ay ?_))))))));exact ⟨_,[930,931],_,Av rfl,rfl,rfl,by rw [←ixN_any],rfl⟩
theorem Q1 (w:Ws) (i:Nat):(depL w i).length≤(parts w).length:=by
 unfold depL;exact Nat.le_trans (List.length_filter_le _ _) (Nat.le_of_eq List.length_range)
theorem Hy {w:Ws} {i:Nat} (hi:i<(parts w).length):((depG w).map natsD)[i]?=some (natsD (depL w i)):=by
 rw [List.getElem?_map,depG,List.getElem?_map,List.getElem?_range hi];rfl
theorem JI {w:Ws} {i:Nat} (hi:i<(parts w).length):((parts w).map stsD)[i]?=some (stsD ((parts w).getD i [])):=by
 rw [List.getElem?_map,List.getElem?_eq_getElem hi,List.getD_eq_getElem?_getD,List.getElem?_eq_getElem hi];rfl
theorem rdy_num {dp:Nat ->List Nat} {ord:List Nat} {i:Nat} (h1:DD ord i<0) (h2:¬∃k∈dp i,DD ord k<0):Fl dp ord i=true:=
 CS.2 ⟨G6.1 h1,fun k hk=>Classical.byContradiction fun h=>h2 ⟨k,hk,G6.2 h⟩⟩
theorem P2 {dp:Nat ->List Nat} {ord:List Nat} {i:Nat} (h1:¬DD ord i<0):Fl dp ord i=false:=by
 rw [Bool.eq_false_iff];exact fun h=>h1 (G6.2 (CS.1 h).1)
theorem P1 {dp:Nat ->List Nat} {ord:List Nat} {i:Nat} (h2:∃k∈dp i,DD ord k<0):Fl dp ord i=false:=by
 rw [Bool.eq_false_iff];intro h;obtain ⟨k,hk,h3⟩:=h2;exact G6.1 h3 ((CS.1 h).2 k hk)
structure HQ (w:Ws) (ord:List Nat):Prop where
 good:CY (parts w).length (depL w) ord
 run:GY (parts w).length (depL w) ((parts w).length - ord.length) ord=ordW w
theorem HQ.zero (w:Ws):HQ w []:=⟨CY.nil,rfl⟩
theorem HQ.next {w:Ws} {ord:List Nat} (h:HQ w ord) (hl:ord.length<(parts w).length) {i:Nat} (hi:HD (parts w).length (depL w) ord=some i):HQ w (ord++ [i]):=by
 obtain ⟨h1,h2,h3⟩:=EH hi;refine ⟨h.good.snoc h1 h2 h3,?_⟩;have hr:=h.run;rw [show (parts w).length - ord.length=((parts w).length - (ord++ [i]).length)+1 by simp;omega] at hr;simp only [GY,hi] at hr;exact hr
theorem HQ.stop {w:Ws} {ord:List Nat} (h:HQ w ord) (hl:ord.length<(parts w).length) (hi:HD (parts w).length (depL w) ord=none):ordW w=none:=by
 have hr:=h.run;rw [show (parts w).length - ord.length=((parts w).length - ord.length - 1)+1 by omega] at hr;simp only [GY,hi] at hr;exact hr.symm
theorem HQ.fin {w:Ws} {ord:List Nat} (h:HQ w ord) (hl:¬ord.length<(parts w).length):ordW w=some ord:=by
 have hr:=h.run;rw [show (parts w).length - ord.length=0 by omega] at hr;exact hr.symm
theorem Kl {w:Ws} (h:ordW w=none):groupsW w=[]∧acyW w=false:=by unfold groupsW acyW;rw [h];exact ⟨rfl,rfl⟩
theorem Hw {w:Ws} {ord:List Nat} (h:ordW w=some ord):groupsW w=grpS w ord∧acyW w=true:=by unfold groupsW acyW;rw [h];exact ⟨rfl,rfl⟩
theorem FF (w:Ws) (ord:List Nat):(grpS w ord).length=ord.length:=by simp [grpS]
theorem upd_neg {f:Nat ->Int} {k j:Nat} (hf:∀j,j<k ->f j= -1) (hj:j<k+1):Ak f k (-1) j= -1:=by
 by_cases e:j=k
 ·rw [e];exact Dj ..
 ·rw [EP e];exact hf j (by omega)
set_option maxHeartbeats 2000000 in
theorem G5 {M:MF} {b:Nat} {w:Ws} (h:B7 M b w) (hw:Ba w) (hK:w.K.length≤1000000):AT Try.prog 38 [.d (pD b 0)] [(40,[.multi M])] fun r H'=>r= .d (.tup [DF (groupsW w),Ar (acyW w)])∧H'=[(40,[.multi M])]:=by
 have hfew:=hw.few
 obtain ⟨n,hn⟩:∃n,(parts w).length=n:=⟨_,rfl⟩
 have hnR:n≤4096:=by rw [←hn];unfold parts;rw [List.length_map];exact Nat.le_trans (List.length_filter_le _ _) hfew
 refine DY Try.func38 Z Z Try.ntmps38 Z Z Z fun F hF=>?_;refine AG (AI (AD Z Z (Lm 2 rfl (AD Z Z (AF (AG (AI (AC Z Z ?_))))))));refine Iy (KN (N8 h hw hK) rfl [40,6] ⟨rfl,rfl,trivial⟩ Z Z Z Z (fun r H' ⟨O,e1,e2,_⟩=>by subst e1 e2;exact ⟨rfl,rfl,rfl⟩) rfl) rfl ?_;rintro _ ⟨r,H',⟨O,e1,e2,hO⟩,rfl⟩;subst e1 e2;refine AC Z Z ?_
 first | refine J (Bo Z Z Z) ?_ | refine J (Bn Z Z Z) ?_
 first | refine J (Bo Z Z Z) ?_ | refine J (Bn Z Z Z) ?_
 refine AD Z Z (AD Z Z (AF (AG (Ff 7 Z Z Z (KH 5 6 7 hF Z Z Z Z Z Z Z Z Z Z (fun _=>rfl) fun x7 _=>?_)))))
 obtain ⟨M7,hM7⟩:∃M7,BL (fun _=>none) x7 (.map (some (List.range O.length,O.length)) (Ac AU natD O))=M7:=⟨_,rfl⟩
 rw [hM7];have h7:M7 x7=some (.map (some (List.range O.length,O.length)) (Ac AU natD O)):=by rw [←hM7,D2]
 refine AI (AC Z Z (AC Z Z (AC Z Z (U (HM (Q0 h hw hK hO h7) rfl [40,7] ⟨rfl,rfl,trivial⟩ Z Z Z Z Z Z Z Z Z) (AD Z Z (AF (AG ?_)))))));refine AI (AC Z Z (J (CG rfl ((List.length_map ..).trans hn) Try.underlying79 rfl) (U (Ho 931 Ex Z Z Z (by omega) zd3 Z Z Z Z) (U (IF 930 zl49 Z Z Z Z) (U (Bu Z Z Z Z Z Z Z Ci) (AF (AG (AG ?_))))))));rw [repI];refine AI ?_
 first | refine J (AY Z Z A9 rfl) ?_ | refine J (AW Z Z Z A9 rfl) ?_ | refine J (AX Z Z (rfl) rfl A9 rfl) ?_
 first | refine J (JL rfl Try.underlying49 rfl) ?_ | refine J (CG Z Z Try.underlying49 rfl) ?_ | refine J (JG rfl Try.underlying49 rfl) ?_ | refine J (JJ rfl Try.underlying49 rfl) ?_ | refine J (JF rfl Try.underlying49 rfl) ?_ | refine J (Ix rfl Try.underlying49 rfl) ?_
 refine AC Z Z (AF (B9 (Fm (α:=Nat×(Nat ->Int)) (fun q=>⟨103,[(0,.d (pD b 0)),(4,(.d (Cz (parts w)))),(6,(.d (grD (depG w)))),(7,(.ptr 930 0 0)),(29,(.d (natD n))),(30,(.d (natD q.1)))],(40,[.multi M])::HN n q.2⟩) (fun q=>q.1≤n∧∀j,j<q.1 ->q.2 j= -1) (fun q=>n - q.1) ((0,fun _=>0)) (⟨Nat.zero_le _,fun j hj=>by omega⟩) (BK hF [40,930,931] Z Z ⟨rfl,rfl,rfl,rfl,rfl,rfl,trivial⟩) ?_)));rintro ⟨k,f⟩ ⟨hk,hf⟩;dsimp only at hk hf⊢;refine AG (AI ?_)
 first | refine J (Eo Z Z Z) ?_ | refine J (Ep Z Z Z) ?_
 refine AF (AG ?_)
 first | refine BG rfl (fun h31=>?_) (fun h31=>?_) | refine BB rfl (fun h31=>?_) (fun h31=>?_)
 ·refine An (AG (B9 (AG ?_)));have hkl:k<n:=H9 h31;refine AI (AC Z Z (AD Z Z (AF (AI ?_))))
  first | refine J (AY Z Z A9 rfl) ?_ | refine J (AW Z Z Z A9 rfl) ?_ | refine J (AX Z Z (rfl) rfl A9 rfl) ?_
  refine AC Z Z ?_
  first | refine J (BM (k) Z Z (rfl) (hkl) Try.underlying49 rfl DZ rfl) ?_ | refine J (BN (k) Z Z (rfl) (hkl) rfl Try.underlying49 DZ rfl) ?_
  refine U (Zcp Z Z Z Z Z (by rw [LZ];exact hkl) LY rfl DZ) (AF (AI (J (DA Z Z (IntWalk.i64_in _ (by omega)) rfl) (AC Z Z (AF ?_)))));exact ⟨(k+1,Ak f k (-1)),⟨hkl,fun j hj=>upd_neg hf hj⟩,by show n - (k+1)<n - k;omega,BK hF [40,930,931] rfl (rfl) ⟨rfl,rfl,rfl,rfl,rfl,rfl,trivial⟩⟩
 ·refine Eg (AG ?_);have hkn:k=n:=by have:=h31;omega
  subst hkn;have hro:L0 k f=L0 k (DD []):=by rw [Pq];exact List.map_congr_left fun j hj=>by rw [hf j (List.mem_range.1 hj)]
  unfold HN;rw [hro];refine AI (AD Z Z (AF (AG (B9 (Fg 9 932 sl47 Z Z Z Z (Fm (α:=List Nat×List Grp) (fun q=>⟨103,[(0,.d (pD b 0)),(4,(.d (Cz (parts w)))),(6,(.d (grD (depG w)))),(7,(.ptr 930 0 0)),(9,(.own 932 0 q.2.length))],(40,[.multi M])::(932,[.rowD 51 2 (q.2.map Hh)])::HN k (DD q.1)⟩) (fun q=>HQ w q.1∧q.2=grpS w q.1) (fun q=>k - q.1.length) (([],[])) (⟨HQ.zero w,rfl⟩) (BK hF [40,932,930,931] Z Z ⟨rfl,rfl,rfl,rfl,rfl,trivial⟩) ?_))))));rintro ⟨ord,gs⟩ ⟨hI,hgs⟩;dsimp only at hI hgs⊢;refine AG (AG (AI (AC Z Z ?_)))
  first | refine J (JL rfl Try.underlying47 rfl) ?_ | refine J (CG Z Z Try.underlying47 rfl) ?_ | refine J (JG rfl Try.underlying47 rfl) ?_ | refine J (JJ rfl Try.underlying47 rfl) ?_ | refine J (JF rfl Try.underlying47 rfl) ?_ | refine J (Ix rfl Try.underlying47 rfl) ?_
  refine AC Z Z (J (CG rfl ((List.length_map ..).trans hn) Try.underlying79 rfl) ?_)
  first | refine J (Eo Z Z Z) ?_ | refine J (Ep Z Z Z) ?_
  refine AF ?_
  first | refine BG rfl (fun h41=>?_) (fun h41=>?_) | refine BB rfl (fun h41=>?_) (fun h41=>?_)
  ·refine An (B9 (AG ?_));have hgl:gs.length=ord.length:=by rw [hgs,FF]
   have hlt:gs.length<k:=H9 h41;refine AI (AD Z Z (AF ?_));refine AG (AG (AI (AC Z Z (J (CG rfl ((List.length_map ..).trans hn) Try.underlying79 rfl) (AC Z Z (AF (B9 (Fm (α:=Nat) (fun i=>⟨103,[(0,.d (pD b 0)),(4,(.d (Cz (parts w)))),(6,(.d (grD (depG w)))),(7,(.ptr 930 0 0)),(9,(.own 932 0 gs.length)),(10,(.d (Bt (-1)))),(43,(.d (natD k))),(44,(.d (natD i)))],(40,[.multi M])::(932,[.rowD 51 2 (gs.map Hh)])::HN k (DD ord)⟩) (fun i=>i≤k∧∀j,j<i ->Fl (depL w) ord j=false) (fun i=>k - i) (0) (⟨Nat.zero_le _,fun j hj=>by omega⟩) (BK hF [40,932,930,931] Z Z ⟨rfl,rfl,rfl,rfl,rfl,rfl,rfl,rfl,trivial⟩) ?_))))))));rintro i ⟨hi,hnr⟩;refine AG (AI ?_)
   first | refine J (Eo Z Z Z) ?_ | refine J (Ep Z Z Z) ?_
   refine AF (AG ?_)
   first | refine BG rfl (fun h45=>?_) (fun h45=>?_) | refine BB rfl (fun h45=>?_) (fun h45=>?_)
   ·refine An (AG (B9 (AG ?_)));have hil:i<k:=H9 h45;have hil':i<(parts w).length:=by rw [hn];exact hil
    have hdl:(depL w i).length≤4096:=Nat.le_trans (Q1 w i) (by omega);refine AI (AC Z Z (AD Z Z (AF (AG (AI ?_)))))
    first | refine J (AY Z Z A9 rfl) ?_ | refine J (AW Z Z Z A9 rfl) ?_ | refine J (AX Z Z (rfl) rfl A9 rfl) ?_
    refine AC Z Z ?_
    first | refine J (BM (i) Z Z (rfl) (hil) Try.underlying49 rfl DZ rfl) ?_ | refine J (BN (i) Z Z (rfl) (hil) rfl Try.underlying49 DZ rfl) ?_
    first | refine J (AY Z Z B8 rfl) ?_ | refine J (AW Z Z Z B8 rfl) ?_ | refine J (AX Z Z (IU hil) rfl B8 rfl) ?_
    first | refine J (Eo Z Z Z) ?_ | refine J (Ep Z Z Z) ?_
    refine AC Z Z ?_
    first | refine KL 52 rfl (fun h52=>?_) (fun h52=>?_) | refine JH 52 rfl (fun h52=>?_) (fun h52=>?_)
    ·refine Ab Z Z Z (AC Z Z (Ab Z Z Z (AC Z Z (Ab Z Z Z ?_))))
     first | refine J (BM (i) Z Z (rfl) (Hy hil') Try.underlying101 rfl Ci rfl) ?_ | refine J (BN (i) Z Z (rfl) (Hy hil') rfl Try.underlying101 Ci rfl) ?_
     refine Ab Z Z Z ?_
     first | refine J (AY Z Z A9 rfl) ?_ | refine J (AW Z Z Z A9 rfl) ?_ | refine J (AX Z Z (rfl) rfl A9 rfl) ?_
     refine Ab Z Z Z (J (Ew Z Z) (Ab Z Z Z (U (HM (contF_c k (DD ord) (depL w i) (fun x hx=>by rw [←hn];exact Gj hx) (by omega)) rfl [930,931] ⟨rfl,rfl,trivial⟩ Z Z Z Z Z Z Z Z Z) (Ab Z Z Z ?_))))
     first | refine J (El Z Z) ?_ | refine J (Ek Z Z) ?_
     refine J (H8 Z Z Z Z) (AD Z Z (AF (AG (AI (AC Z Z (AF ?_))))))
     first | refine BG rfl (fun h61=>?_) (fun h61=>?_) | refine BB rfl (fun h61=>?_) (fun h61=>?_)
     ·refine AG ?_;refine AI (AC Z Z (AD Z Z (AF (Eg (AG (AG (AI (AC Z Z ?_))))))))
      first | refine J (Eo Z Z Z) ?_ | refine J (Ep Z Z Z) ?_
      refine AF (Dk rfl ((decide_eq_false (by omega))) (An (AG ?_)));have hrd:=rdy_num h52 h61;have hnx:HD (parts w).length (depL w) ord=some i:=E4 hil' hrd hnr;obtain ⟨_,hio,hds⟩:=EH hnx;refine AI (AC Z Z (AC Z Z ?_))
      first | refine J (BM (i) Z Z (rfl) (JI hil') Try.underlying79 rfl CD rfl) ?_ | refine J (BN (i) Z Z (rfl) (JI hil') rfl Try.underlying79 CD rfl) ?_
      first | refine J (AY Z Z AR rfl) ?_ | refine J (AW Z Z Z AR rfl) ?_ | refine J (AX Z Z (rfl) rfl AR rfl) ?_
      refine J (M8 zl51 pl51 Z Z Z) (U (IF 940 zl51 Z Z Z Z) (U (Bu Z Z Z Z Z Z Z DM) (AF (AG (AG (AI (AC Z Z (AC Z Z ?_))))))))
      first | refine J (BM (i) Z Z (rfl) (Hy hil') Try.underlying101 rfl Ci rfl) ?_ | refine J (BN (i) Z Z (rfl) (Hy hil') rfl Try.underlying101 Ci rfl) ?_
      first | refine J (AY Z Z A9 rfl) ?_ | refine J (AW Z Z Z A9 rfl) ?_ | refine J (AX Z Z (rfl) rfl A9 rfl) ?_
      refine J (CG rfl (List.length_map ..) Try.underlying49 rfl) (AC Z Z (AF (B9 (DU 940 0 1 933 Ex Z Z Z Z Z Z Z (Fm (α:=Nat×List Int) (fun q=>⟨103,[(0,.d (pD b 0)),(4,(.d (Cz (parts w)))),(6,(.d (grD (depG w)))),(7,(.ptr 930 0 0)),(9,(.own 932 0 gs.length)),(10,(.d (natD i))),(13,(.ptr 940 0 0)),(74,(.d (natsD (depL w i)))),(75,(.d (natD (depL w i).length))),(76,(.d (natD q.1)))],(40,[.multi M])::(932,[.rowD 51 2 (gs.map Hh)])::(940,[.blk 51 [.d (stsD ((parts w).getD i [])),.own 933 0 q.2.length]])::(933,[.rowD 3 1 (q.2.map Bt)])::HN k (DD ord)⟩) (fun q=>q.1≤(depL w i).length∧q.2=((depL w i).take q.1).map (DD ord)) (fun q=>(depL w i).length - q.1) ((0,[])) (⟨Nat.zero_le _,rfl⟩) (BK hF [40,932,940,933,930,931] Z Z ⟨rfl,rfl,rfl,rfl,rfl,rfl,rfl,rfl,rfl,rfl,trivial⟩) ?_)))));rintro ⟨j,acc⟩ ⟨hj,hacc⟩;dsimp only at hj hacc⊢;refine AG (AI ?_)
      first | refine J (Eo Z Z Z) ?_ | refine J (Ep Z Z Z) ?_
      refine AF (AG ?_)
      first | refine BG rfl (fun h77=>?_) (fun h77=>?_) | refine BB rfl (fun h77=>?_) (fun h77=>?_)
      ·refine An (AG (B9 (AG ?_)));have hjl:j<(depL w i).length:=H9 h77;have hal:acc.length≤4096:=by rw [hacc,List.length_map,List.length_take];omega
       have hkl2:CZ (depL w i) j<k:=by rw [←hn];exact Gj (F8 hjl)
       refine AI ?_
       first | refine J (BM (j) Z Z (rfl) (DT hjl) Try.underlying49 rfl DZ rfl) ?_ | refine J (BN (j) Z Z (rfl) (DT hjl) rfl Try.underlying49 DZ rfl) ?_
       first | refine J (AY Z Z B8 rfl) ?_ | refine J (AW Z Z Z B8 rfl) ?_ | refine J (AX Z Z (rfl) rfl B8 rfl) ?_
       refine AD Z Z (AF (Fh [[],[0],[],[],[2,3],[2,3,4],[2,3,4,5],[0,1,2,3,4,5,6],[0,1,2,3,4,5,6,7],[0,1,2,3,4,5,6,7,8]] mixed rfl (EK ?_)))
       first | refine AE [13] [] Z Z (fun _=>AB (A2 rfl Cc Z Z Z)) ?_ | refine AH [13] Z Z (fun _=>AB (A2 rfl Cc Z Z Z)) ?_ | refine AE [13] [] Z Z (fun _=>AB (A4 rfl Cc Z Z Z)) ?_ | refine AH [13] Z Z (fun _=>AB (A4 rfl Cc Z Z Z)) ?_ | refine AE [13] [] Z Z (fun _=>AB (A5 rfl Cc Z Z Z)) ?_ | refine AH [13] Z Z (fun _=>AB (A5 rfl Cc Z Z Z)) ?_ | refine AE [13] [] Z Z (fun _=>AB (A3 rfl Cc Z Z Z)) ?_ | refine AH [13] Z Z (fun _=>AB (A3 rfl Cc Z Z Z)) ?_ | refine AE [13] [] Z Z (fun _=>AB (A1 rfl Cc Z Z Z)) ?_ | refine AH [13] Z Z (fun _=>AB (A1 rfl Cc Z Z Z)) ?_
       first | refine AE [80] [940] Z Z (fun _=>AB (AY Z Z A9 rfl)) ?_ | refine AE [80] [940] Z Z (fun _=>AB (AW Z Z Z A9 rfl)) ?_ | refine AE [80] [940] Z Z (fun _=>AB (AX Z Z (rfl) rfl A9 rfl)) ?_
       first | refine AE [7] [930] Z Z (fun _=>AB (AY Z Z A9 rfl)) ?_ | refine AE [7] [930] Z Z (fun _=>AB (AW Z Z Z A9 rfl)) ?_ | refine AE [7] [930] Z Z (fun _=>AB (AX Z Z (rfl) rfl A9 rfl)) ?_
       first | refine AE [15] [] Z Z (fun _=>AB (Aa Z Z)) ?_ | refine AH [15] Z Z (fun _=>AB (Aa Z Z)) ?_
       first | refine AE [82,83] [931] Z Z (fun _=>AB (BM (CZ (depL w i) j) Z Z (rfl) (hkl2) Try.underlying49 rfl DZ rfl)) ?_ | refine AE [82,83] [931] Z Z (fun _=>AB (BN (CZ (depL w i) j) Z Z (rfl) (hkl2) rfl Try.underlying49 DZ rfl)) ?_
       first | refine AE [84] [931] Z Z (fun _=>AB (AY Z Z B8 rfl)) ?_ | refine AE [84] [931] Z Z (fun _=>AB (AW Z Z Z B8 rfl)) ?_ | refine AE [84] [931] Z Z (fun _=>AB (AX Z Z (IU hkl2) rfl B8 rfl)) ?_
       refine Bs [85] [941] [(86,_)] Z Z (fun _=>Hl (Gl 941 Ex Z Z Z Z Z Z Z Z)) (.inr ⟨86,_,rfl,rfl,rfl,rfl,rfl⟩) Z Z Z Z Z (EL 7 Z Z Z (B6 8 Z Z ?_))
       first | refine U (JE (acc) ([DD ord (CZ (depL w i) j)]) Z Z Z Z Z Z Z Z Ex (by simp only [List.length_singleton];omega) Z Z Z Z) ?_ | refine U (KM (acc) ([DD ord (CZ (depL w i) j)]) Z Z Z Z Z Z (fun _=>rfl) Ex (by simp only [List.length_singleton];omega) Z Z Z Z) ?_
       refine AF ⟨rfl,?_⟩;refine B6 9 Z Z ?_
       first | refine J (A2 rfl Cc Z Z Z) ?_ | refine J (A4 rfl Cc Z Z Z) ?_ | refine J (A5 rfl Cc Z Z Z) ?_ | refine J (A3 rfl Cc Z Z Z) ?_ | refine J (A1 rfl Cc Z Z Z) ?_
       refine AF ⟨rfl,?_⟩;refine B6 10 Z Z (U (Bu Z Z Z Z Z Z Z Ci) (AF ⟨rfl,?_⟩));refine Es (AI (J (DA Z Z (IntWalk.i64_in _ (by omega)) rfl) (AC Z Z (AF ?_))));exact ⟨(j+1,acc++ [DD ord (CZ (depL w i) j)]),⟨hjl,by show _=((depL w i).take (j+1)).map (DD ord);rw [List.take_succ_eq_append_getElem hjl,List.map_append,hacc,Cg hjl];rfl⟩,by show (depL w i).length - (j+1)<(depL w i).length - j;omega,BK hF [40,932,940,933,930,931] rfl (rfl) ⟨rfl,rfl,rfl,rfl,rfl,rfl,rfl,rfl,rfl,rfl,trivial⟩⟩
      ·refine Eg (AG ?_);have hje:j=(depL w i).length:=by have:=h77;omega
       have hac2:acc=(((depL w i).map ord.idxOf).map Int.ofNat):=by rw [hacc,hje,List.take_length,List.map_map];exact List.map_congr_left fun x hx=>by unfold DD;rw [if_pos (hds x hx)];rfl
       have hal2:acc.length≤4096:=by rw [hac2,List.length_map,List.length_map];exact hdl
       have hsort:(D7 acc).map zD=(EO (depL w) ord i ord.length).map natD:=by rw [hac2,J5,MV hI.good.nd hds]
       have hsl:(EO (depL w) ord i ord.length).length=acc.length:=by rw [←MV hI.good.nd hds,ED,hac2,List.length_map,List.length_map,List.length_map]
       refine AI ?_
       first | refine J (A2 rfl Cc Z Z Z) ?_ | refine J (A4 rfl Cc Z Z Z) ?_ | refine J (A5 rfl Cc Z Z Z) ?_ | refine J (A3 rfl Cc Z Z Z) ?_ | refine J (A1 rfl Cc Z Z Z) ?_
       first | refine J (AY Z Z A9 rfl) ?_ | refine J (AW Z Z Z A9 rfl) ?_ | refine J (AX Z Z (rfl) rfl A9 rfl) ?_
       refine U (PE QJ acc (by omega) Z Z Z Z Z Z Z) (AF (AG ?_));rw [hsort];refine CM (ys:=(EO (depL w) ord i ord.length).map natD) 940 0 1 933 Z Z Z (Nat.le_of_eq (by rw [List.length_map,hsl])) (List.take_of_length_le (by rw [List.length_map,hsl];exact Nat.le_refl _)) Z Z Z Z Z Z (AI ?_)
       first | refine J (AY Z Z A9 rfl) ?_ | refine J (AW Z Z Z A9 rfl) ?_ | refine J (AX Z Z (rfl) rfl A9 rfl) ?_
       refine AC Z Z (AC Z Z ?_)
       first | refine J (JL rfl Try.underlying47 rfl) ?_ | refine J (CG Z Z Try.underlying47 rfl) ?_ | refine J (JG rfl Try.underlying47 rfl) ?_ | refine J (JJ rfl Try.underlying47 rfl) ?_ | refine J (JF rfl Try.underlying47 rfl) ?_ | refine J (Ix rfl Try.underlying47 rfl) ?_
       first | refine J (BM (i) Z Z (rfl) (hil) Try.underlying49 rfl DZ rfl) ?_ | refine J (BN (i) Z Z (rfl) (hil) rfl Try.underlying49 DZ rfl) ?_
       refine U (Zcp Z Z Z Z Z (by rw [LZ];exact hil) LY rfl DZ) (AF ?_);rw [show Ak (DD ord) i (gs.length:Int)=DD (ord++ [i]) from by rw [hgl];exact O2 hio];refine AI (AC Z Z ?_)
       first | refine J (BW Z Z rw51 rfl) ?_ | refine J (BX Z Z rw51 Z Z Z) ?_ | refine J (BY Z Z (rfl) rfl rw51 rfl) ?_
       refine U (Gl 942 sl47 Z Z Z Z Z Z Z Z) ?_
       first | refine U (JE (gs) ([(⟨(parts w).getD i [],EO (depL w) ord i ord.length⟩:Grp)]) Z Z Z Z Z Z Z Z sl47 (by simp only [List.length_singleton];omega) Z Z Z Z) ?_ | refine U (KM (gs) ([(⟨(parts w).getD i [],EO (depL w) ord i ord.length⟩:Grp)]) Z Z Z Z Z Z (fun _=>rfl) sl47 (by simp only [List.length_singleton];omega) Z Z Z Z) ?_
       refine AD Z Z (AF ?_);exact ⟨(ord++ [i],gs++ [⟨(parts w).getD i [],EO (depL w) ord i ord.length⟩]),⟨hI.next (by omega) hnx,by show _=grpS w (ord++ [i]);rw [Jw,hgs]⟩,by show k - (ord++ [i]).length<k - ord.length;rw [List.length_append,List.length_singleton];omega,BK hF [40,932,930,931] rfl (rfl) ⟨rfl,rfl,rfl,rfl,rfl,trivial⟩⟩
     ·refine An (AI (J (DA Z Z (IntWalk.i64_in _ (by omega)) rfl) (AC Z Z (AF ?_))));exact ⟨i+1,⟨hil,fun j hj=>by by_cases e:j=i;subst e;exact P1 (Classical.not_not.1 h61);exact hnr j (by omega)⟩,by show k - (i+1)<k - i;omega,BK hF [40,932,930,931] rfl (rfl) ⟨rfl,rfl,rfl,rfl,rfl,rfl,rfl,rfl,trivial⟩⟩
    ·refine BH Z Z Z Z (BH Z Z Z Z ?_);refine BH Z Z Z Z (BH Z Z Z Z (BH Z Z Z Z (BH Z Z Z Z (BH Z Z Z Z (J (GR Z Z Z Z) (AD Z Z (AF (AG ?_))))))));refine AI (AC Z Z (AF (Dk Z Z (An (AI (J (DA Z Z (IntWalk.i64_in _ (by omega)) rfl) (AC Z Z (AF ?_))))))));exact ⟨i+1,⟨hil,fun j hj=>by by_cases e:j=i;subst e;exact P2 h52;exact hnr j (by omega)⟩,by show k - (i+1)<k - i;omega,BK hF [40,932,930,931] rfl (rfl) ⟨rfl,rfl,rfl,rfl,rfl,rfl,rfl,rfl,trivial⟩⟩
   ·refine Eg (AG (AG (AI (AC Z Z ?_))))
    first | refine J (Eo Z Z Z) ?_ | refine J (Ep Z Z Z) ?_
    refine AF (Kx rfl ((by decide)) (AG (AI (AD Z Z (Lm 2 rfl (AD Z Z (AF (Ay ?_))))))));have hno:=hI.stop (by omega) (Ln fun j hj=>hnr j (by omega));obtain ⟨g1,g2⟩:=Kl hno;exact ⟨_,[40],_,Av rfl,rfl,rfl,by rw [g1,g2];rfl,rfl⟩
  ·refine Eg (AG ?_);obtain ⟨g1,g2⟩:=Hw (hI.fin (by have h1:=h41;have h2:gs.length=ord.length:=(by rw [hgs,FF]);omega));refine Zck (emb:=Hh) 9 932 gs Z Z Z Z Z Z Z (AI (AC Z Z (AD Z Z (AD Z Z (AF (Ay ?_))))));exact ⟨_,[40],_,Av rfl,rfl,rfl,by rw [g1,g2,hgs],rfl⟩
theorem Fe {w:Ws} {i:Nat} (hi:i<(parts w).length):(parts w)[i]?=some ((parts w).getD i []):=by
 rw [List.getD_eq_getElem?_getD,List.getElem?_eq_getElem hi];rfl
theorem Ka {w:Ws} (hw:Ba w) {i:Nat} (hi:i<(parts w).length) {x:St}:x∈(parts w).getD i []↔x∈w.R∧idx w x=i:=by
 have hg:=Fe hi
 constructor
 ·intro hx;exact ⟨(I1 (List.mem_of_getElem? hg) hx).1,NH hw hg hx⟩
 ·rintro ⟨hx,e⟩;have h1:=If hw hx;rw [e,hg] at h1;injection h1 with h1
  rw [h1];exact C7 hx
noncomputable def nxG (w:Ws) (back:Bool):List (List Nat):=(List.range (parts w).length).map (nxW w back)
theorem Pp {w:Ws} {back:Bool} {i:Nat} (hi:i<(parts w).length):((nxG w back).map natsD)[i]?=some (natsD (nxW w back i)):=by
 rw [List.getElem?_map,nxG,List.getElem?_map,List.getElem?_range hi];rfl
structure Ft (w:Ws) (back:Bool) (i0:Nat) (vis stk:List Nat):Prop where
 nd:vis.Nodup
 vl:∀v∈vis,v<(parts w).length
 sl:∀v∈stk,v<(parts w).length
 vr:∀v∈vis,BP (fun i k=>k∈nxW w back i) i0 v
 sr:∀v∈stk,BP (fun i k=>k∈nxW w back i) i0 v
 st:i0∈vis∨i0∈stk
 nx:∀v∈vis,∀k∈nxW w back v,k∈vis∨k∈stk
 len:stk.length≤1+vis.length*(parts w).length
theorem Ft.zero {w:Ws} {back:Bool} {i0:Nat} (h:i0<(parts w).length):Ft w back i0 [] [i0]:=
 ⟨List.nodup_nil,(fun _ h=>by cases h),fun v hv=>by rw [List.mem_singleton.1 hv];exact h,(fun _ h=>by cases h),fun v hv=>by rw [List.mem_singleton.1 hv];exact .refl,.inr (by simp),(fun _ h=>by cases h),by simp⟩
theorem Ft.vlen {w:Ws} {back:Bool} {i0:Nat} {vis stk:List Nat} (h:Ft w back i0 vis stk):vis.length≤(parts w).length:=by
 have:=h.nd.length_le_of_subset (l₂:=List.range (parts w).length) fun k hk=>by simpa using h.vl k hk
 simpa using this
theorem Ft.skip {w:Ws} {back:Bool} {i0:Nat} {vis r:List Nat} {v:Nat} (h:Ft w back i0 vis (r++ [v])) (hv:v∈vis):Ft w back i0 vis r:=by
 have hin:∀{k},k∈vis∨k∈r++ [v] ->k∈vis∨k∈r:=fun hk=>hk.elim .inl fun hk=>(List.mem_append.1 hk).elim .inr fun e=> .inl (by rw [List.mem_singleton.1 e];exact hv);exact ⟨h.nd,h.vl,fun x hx=>h.sl x (List.mem_append_left _ hx),h.vr,fun x hx=>h.sr x (List.mem_append_left _ hx),hin h.st,fun x hx k hk=>hin (h.nx x hx k hk),by have:=h.len;rw [List.length_append] at this;omega⟩
theorem Ft.go {w:Ws} {back:Bool} {i0:Nat} {vis r:List Nat} {v:Nat} (h:Ft w back i0 vis (r++ [v])) (hv:v∉vis):Ft w back i0 (vis++ [v]) (r++nxW w back v):=by
 have hvr:=h.sr v (List.mem_append_right _ (by simp));have hin:∀{k},k∈vis∨k∈r++ [v] ->k∈vis++ [v]∨k∈r++nxW w back v:=fun hk=>hk.elim (fun h=> .inl (List.mem_append_left _ h)) fun hk=>(List.mem_append.1 hk).elim (fun h=> .inr (List.mem_append_left _ h)) fun e=> .inl (List.mem_append_right _ e);refine ⟨List.nodup_append.2 ⟨h.nd,by simp,fun a ha b hb e=>hv (by rw [←List.mem_singleton.1 hb,←e];exact ha)⟩,fun x hx=>?_,fun x hx=>?_,fun x hx=>?_,fun x hx=>?_,hin h.st,fun x hx k hk=>?_,?_⟩
 ·exact (List.mem_append.1 hx).elim (h.vl x) fun e=>by rw [List.mem_singleton.1 e];exact h.sl v (by simp)
 ·exact (List.mem_append.1 hx).elim (fun hx=>h.sl x (List.mem_append_left _ hx)) Po
 ·exact (List.mem_append.1 hx).elim (h.vr x) fun e=>by rw [List.mem_singleton.1 e];exact hvr
 ·exact (List.mem_append.1 hx).elim (fun hx=>h.sr x (List.mem_append_left _ hx)) fun hx=>hvr.tail hx
 ·rcases List.mem_append.1 hx with hx | e
  ·exact hin (h.nx x hx k hk)
  ·rw [List.mem_singleton.1 e] at hk;exact .inr (List.mem_append_right _ hk)
 ·have h1:=h.len;have h2:=K8 w back v;rw [List.length_append,List.length_singleton] at h1;rw [List.length_append,List.length_append,List.length_singleton,Nat.succ_mul];omega
theorem Ft.fin {w:Ws} {back:Bool} {i0:Nat} {vis:List Nat} (h:Ft w back i0 vis []) (v:Nat):v∈vis↔BP (fun i k=>k∈nxW w back i) i0 v:=by
 refine ⟨h.vr v,fun hs=>?_⟩;exact BP.closed (p:=fun v=>v∈vis) (fun a b ha hb=>(h.nx a ha b hb).resolve_right (by simp)) (h.st.resolve_right (by simp)) hs
noncomputable def outS (w:Ws) (vis:List Nat):List St:=vis.flatMap fun i=>(parts w).getD i []
theorem Gz (w:Ws) (vis:List Nat) (v:Nat):outS w (vis++ [v])=outS w vis++(parts w).getD v []:=by simp [outS]
theorem I9 {w:Ws} (hw:Ba w) {vis:List Nat} (hv:∀v∈vis,v<(parts w).length) {x:St}:x∈outS w vis↔x∈w.R∧idx w x∈vis:=by
 unfold outS;rw [List.mem_flatMap]
 constructor
 ·rintro ⟨i,hi,hx⟩;obtain ⟨h1,h2⟩:=(Ka hw (hv i hi)).1 hx;exact ⟨h1,by rw [h2];exact hi⟩
 ·rintro ⟨h1,h2⟩;exact ⟨_,h2,(Ka hw (hv _ h2)).2 ⟨h1,rfl⟩⟩
theorem Na {w:Ws} (hw:Ba w):∀{vis:List Nat},vis.Nodup ->(∀v∈vis,v<(parts w).length) ->(outS w vis).Nodup:=by
 intro vis
 induction vis with
 | nil=>intro _ _;exact List.nodup_nil
 | cons v r ih=>
  intro hn hv;have hn':=List.nodup_cons.1 hn;have hv':∀x∈r,x<(parts w).length:=fun x hx=>hv x (List.mem_cons_of_mem _ hx);show ((parts w).getD v []++outS w r).Nodup;refine List.nodup_append.2 ⟨EC (I0 hw (List.mem_of_getElem? (Fe (hv v (by simp))))),ih hn'.2 hv',fun a ha b hb e=>?_⟩;subst e;have h1:=((Ka hw (hv v (by simp))).1 ha).2;have h2:=((I9 hw hv').1 hb).2;exact hn'.1 (by rw [←h1];exact h2)
theorem I4 {w:Ws} (hw:Ba w) {vis:List Nat} (hn:vis.Nodup) (hv:∀v∈vis,v<(parts w).length):(outS w vis).length≤w.R.length:=
 (Na hw hn hv).length_le_of_subset fun x hx=>((I9 hw hv).1 hx).1
theorem Ft.clo {w:Ws} (hw:Ba w) {back:Bool} {a:St} (ha:a∈w.R) {vis:List Nat} (h:Ft w back (idx w a) vis []):Cj (outS w vis)=cloW w a back:=by
 refine Gv (Na hw h.nd h.vl) (List.Pairwise.sublist List.filter_sublist hw.srt) fun x=>?_;rw [I9 hw h.vl,Lx]
 constructor
 ·rintro ⟨h1,h2⟩;exact ⟨h1,(Nn hw ha h1).2 ((h.fin _).1 h2)⟩
 ·rintro ⟨h1,h2⟩;exact ⟨h1,(h.fin _).2 ((Nn hw ha h1).1 h2)⟩
theorem snoc_of {l:List Nat} (h:0<l.length):∃r v,l=r++ [v]:=by
 rcases List.eq_nil_or_concat l with e | ⟨r,v,e⟩
 ·subst e;simp at h
 ·exact ⟨r,v,by rw [e];simp⟩
abbrev JR (n:Nat) (out:List Nat):List D:=(List.range n).map fun v=>Ar (decide (v∈out))
theorem IW {n i:Nat} {out:List Nat} (h:i<n):(JR n out)[i]?=some (Ar (decide (i∈out))):=by simp [h]
theorem L5 (n:Nat) (out:List Nat):(JR n out).length=n:=by simp
theorem L4 {n i:Nat} {out:List Nat}:(JR n out).set i (Ar true)=JR n (out++ [i]):=
 Hr (fun j _ hne=>congrArg Ar (decide_eq_decide.2 ⟨fun h=>List.mem_append_left _ h,fun h=>(List.mem_append.1 h).elim id fun e=>(hne (List.mem_singleton.1 e)).elim⟩)) (by rw [decide_eq_true (List.mem_append_right _ (List.mem_singleton.2 rfl))])
theorem repB (n:Nat):List.replicate n (D.raw (.bool false))=JR n []:=by
 refine List.ext_getElem (by simp) fun j h1 h2=>?_
 simp
theorem Pr (r:List Nat) (v:Nat):CZ (r++ [v]) r.length=v:=by simp [CZ]
set_option maxHeartbeats 2000000 in
theorem cloF_c {M:MF} {b:Nat} {w:Ws} (h:B7 M b w) (hw:Ba w) (hK:w.K.length≤1000000) (a:St):AT Try.prog 41 [.d (pD b 0),.d (AU a),.d (Ar false)] [(40,[.multi M])] fun r H'=>r= .d (if a∈w.R then stsD (cloW w a false) else .sl (some true) [])∧H'=[(40,[.multi M])]:=by
 refine DY Try.func41 Z Z Try.ntmps41 Z Z Z fun F hF=>(AG ?_);refine AI (AD Z Z (AF (AG (AG (AI (AC Z Z (AC Z Z (U (HM (Ig h a) rfl [40] ⟨rfl,trivial⟩ Z Z Z Z Z Z Z Z Z) ?_))))))))
 first | refine J (El Z Z) ?_ | refine J (Ek Z Z) ?_
 refine AF ?_
 first | refine BG rfl (fun h22=>?_) (fun h22=>?_) | refine BB rfl (fun h22=>?_) (fun h22=>?_)
 ·refine AG (AI (AD Z Z (AF (Ay ?_))));exact ⟨_,[40],_,Av rfl,rfl,rfl,by rw [if_neg h22],rfl⟩
 ·refine An (AG ?_);have haR:a∈w.R:=Classical.not_not.1 h22;have hpn:(parts w).length≤4096:=by unfold parts;rw [List.length_map];exact Nat.le_trans (List.length_filter_le _ _) hw.few
  refine AI (AC Z Z ?_);refine Iy (KN (N8 h hw hK) rfl [40,6] ⟨rfl,rfl,trivial⟩ Z Z Z Z (fun r H' ⟨O,e1,e2,_⟩=>by subst e1 e2;exact ⟨rfl,rfl,rfl⟩) rfl) rfl ?_;rintro _ ⟨r,H',⟨O,e1,e2,hO⟩,rfl⟩;subst e1 e2;refine AC Z Z ?_
  first | refine J (Bo Z Z Z) ?_ | refine J (Bn Z Z Z) ?_
  first | refine J (Bo Z Z Z) ?_ | refine J (Bn Z Z Z) ?_
  refine AD Z Z (AD Z Z (AF (AG (Ff 7 Z Z Z (KH 8 6 7 hF Z Z Z Z Z Z Z Z Z Z (fun _=>rfl) fun x7 _=>?_)))))
  obtain ⟨M7,hM7⟩:∃M7,BL (fun _=>none) x7 (.map (some (List.range O.length,O.length)) (Ac AU natD O))=M7:=⟨_,rfl⟩
  rw [hM7];have h7:M7 x7=some (.map (some (List.range O.length,O.length)) (Ac AU natD O)):=by rw [←hM7,D2]
  refine AI (AC Z Z (AC Z Z (AC Z Z (U (HM (Q0 h hw hK hO h7) rfl [40,7] ⟨rfl,rfl,trivial⟩ Z Z Z Z Z Z Z Z Z) ?_))));refine AD Z Z (AF (AG (AG (AI (AC Z Z (AF (Dk rfl (rfl) (An ?_))))))));refine AG (NV 9 (.d (grD (nxG w false))) Z Z (AI (AC Z Z (J (CG rfl (List.length_map ..) Try.underlying79 rfl) (U (Ho 20 sl99 Z Z Z (by omega) zd4 Z Z Z Z) (AD Z Z (AF (AG ?_))))))));rw [repB];refine AI (AD Z Z (AF (AG (AI (AC Z Z ?_)))));refine AC Z Z (J (HO (f:=7) O a 0 (idx w a) Z Z h7 rfl Hc E6 za3 (hO _ haR) rfl) (U (Gl 22 Ex Z Z Z Z Z Z Z Z) (AD Z Z (AF (AG (B9 (Fg 16 23 Bd Z Z Z Z (Fm (α:=List Nat×List Nat×List Nat) (fun q=>⟨105,[(7,(.d (Cz (parts w)))),(9,(.d (grD (nxG w false)))),(15,(.own 20 0 (parts w).length)),(16,(.own 23 0 (outS w q.1).length)),(17,(.own 22 0 q.2.1.length))],[(20,[.rowD 4 1 (JR (parts w).length q.1)]),(22,[.rowD 3 1 ((q.2.1++q.2.2).map natD)]),(23,[.rowD 9 1 ((outS w q.1).map AU)]),(40,[.multi M])]⟩) (fun q=>Ft w false (idx w a) q.1 q.2.1) (fun q=>((parts w).length - q.1.length)*5000+q.2.1.length) (([],[idx w a],[])) (Ft.zero (GJ hw haR)) (BK hF [20,22,23,40] Z Z ⟨rfl,rfl,rfl,rfl,rfl,trivial⟩) ?_))))))));rintro ⟨vis,stk,jk⟩ hI;dsimp only at hI⊢;refine AG (AG (AI (AC Z Z ?_)))
  first | refine J (JL rfl Try.underlying49 rfl) ?_ | refine J (CG Z Z Try.underlying49 rfl) ?_ | refine J (JG rfl Try.underlying49 rfl) ?_ | refine J (JJ rfl Try.underlying49 rfl) ?_ | refine J (JF rfl Try.underlying49 rfl) ?_ | refine J (Ix rfl Try.underlying49 rfl) ?_
  first | refine J (Mj Z Z Z) ?_ | refine J (KW Z Z Z) ?_
  refine AF ?_
  first | refine BG rfl (fun h71=>?_) (fun h71=>?_) | refine BB rfl (fun h71=>?_) (fun h71=>?_)
  ·refine An (B9 (AG ?_));obtain ⟨r,v,hrv⟩:=snoc_of (l:=stk) (H9 h71);subst hrv;have hvl:=hI.sl v (by simp);have hI2':=hI.len;have hvle:=hI.vlen;have hmul:vis.length*(parts w).length≤4096*4096:=Nat.mul_le_mul (by omega) hpn;have hsl:(r++ [v]).length≤20000000:=by omega
   have hrl:(r++ [v]).length=r.length+1:=by simp
   have hpe:(((r++ [v]).length:Nat):Int) - 1=((r.length:Nat):Int):=by rw [hrl];omega
   refine AI (AC Z Z (AC Z Z ?_))
   first | refine J (JL rfl Try.underlying49 rfl) ?_ | refine J (CG Z Z Try.underlying49 rfl) ?_ | refine J (JG rfl Try.underlying49 rfl) ?_ | refine J (JJ rfl Try.underlying49 rfl) ?_ | refine J (JF rfl Try.underlying49 rfl) ?_ | refine J (Ix rfl Try.underlying49 rfl) ?_
   refine J (DN Z Z (IntWalk.i64_in _ (by omega)) rfl) ?_
   first | refine J (BM (r.length) Z Z (hpe) (by rw [hrl];omega) Try.underlying49 rfl DZ rfl) ?_ | refine J (BN (r.length) Z Z (hpe) (by rw [hrl];omega) rfl Try.underlying49 DZ rfl) ?_
   first | refine J (AY Z Z B8 rfl) ?_ | refine J (AW Z Z Z B8 rfl) ?_ | refine J (AX Z Z ((by rw [DT (by rw [List.length_append,hrl];omega),nth_app (by omega),Pr])) rfl B8 rfl) ?_
   refine AD Z Z (AF (AG (AI (AC Z Z (AC Z Z ?_)))))
   first | refine J (JL rfl Try.underlying49 rfl) ?_ | refine J (CG Z Z Try.underlying49 rfl) ?_ | refine J (JG rfl Try.underlying49 rfl) ?_ | refine J (JJ rfl Try.underlying49 rfl) ?_ | refine J (JF rfl Try.underlying49 rfl) ?_ | refine J (Ix rfl Try.underlying49 rfl) ?_
   refine J (DN Z Z (IntWalk.i64_in _ (by omega)) rfl) (J (J3 r.length Z Z hpe (by rw [List.length_map,List.length_append];omega) rfl Try.underlying49 DZ rfl) (AD Z Z (AF (AG (AG (AI (AC Z Z (AC Z Z ?_))))))))
   first | refine J (BM (v) Z Z (rfl) (hvl) Try.underlying99 rfl Ou rfl) ?_ | refine J (BN (v) Z Z (rfl) (hvl) rfl Try.underlying99 Ou rfl) ?_
   first | refine J (AY Z Z on4 rfl) ?_ | refine J (AW Z Z Z on4 rfl) ?_ | refine J (AX Z Z (IW hvl) rfl on4 rfl) ?_
   refine AF ?_
   first | refine BG rfl (fun h86=>?_) (fun h86=>?_) | refine BB rfl (fun h86=>?_) (fun h86=>?_)
   ·refine Eg ?_;exact ⟨(vis,r,[v]++jk),hI.skip h86,by show _<_;rw [List.length_append,List.length_singleton];exact Nat.lt_succ_self _,BK hF [20,22,23,40] rfl (by rw [List.append_assoc];rfl) ⟨rfl,rfl,rfl,rfl,rfl,trivial⟩⟩
   ·refine An (AG ?_);have hI2:=hI.go h86;have hol:=I4 hw hI.nd hI.vl;have hfw:=hw.few;have hol2:=I4 hw hI2.nd hI2.vl;rw [Gz,List.length_append] at hol2;refine AI (AC Z Z (AC Z Z ?_))
    first | refine J (BM (v) Z Z (rfl) (hvl) Try.underlying99 rfl Ou rfl) ?_ | refine J (BN (v) Z Z (rfl) (hvl) rfl Try.underlying99 Ou rfl) ?_
    refine U (Zcp Z Z Z Z Z (by rw [L5];exact hvl) L4 rfl Ou) (AF (AG (AI (AC Z Z (AC Z Z (AC Z Z ?_))))))
    first | refine J (BM (v) Z Z (rfl) (JI hvl) Try.underlying79 rfl CD rfl) ?_ | refine J (BN (v) Z Z (rfl) (JI hvl) rfl Try.underlying79 CD rfl) ?_
    first | refine J (AY Z Z AR rfl) ?_ | refine J (AW Z Z Z AR rfl) ?_ | refine J (AX Z Z (rfl) rfl AR rfl) ?_
    first | refine U (JE (outS w vis) ((parts w).getD v []) Z Z Z Z Z Z Z Z Bd (by omega) Z Z Z Z) ?_ | refine U (KM (outS w vis) ((parts w).getD v []) Z Z Z Z Z Z (fun _=>rfl) Bd (by omega) Z Z Z Z) ?_
    refine Mx 95 (.own 23 0 (outS w (vis++ [v])).length) rfl (by rw [Gz]) (AD Z Z (AF ?_));have hnl:=K8 w false v;refine AI (AC Z Z (AC Z Z (AC Z Z ?_)))
    first | refine J (BM (v) Z Z (rfl) (Pp hvl) Try.underlying101 rfl Ci rfl) ?_ | refine J (BN (v) Z Z (rfl) (Pp hvl) rfl Try.underlying101 Ci rfl) ?_
    first | refine J (AY Z Z A9 rfl) ?_ | refine J (AW Z Z Z A9 rfl) ?_ | refine J (AX Z Z (rfl) rfl A9 rfl) ?_
    refine U (IP (zs:=(r++nxW w false v).map natD) Z Z Z (by rw [List.length_map,List.length_append,List.length_append];omega) Ex (fun z hz=>by obtain ⟨a,_,rfl⟩:=List.mem_map.1 hz;rfl) (List.length_map ..) (by omega) Z Z (by rw [List.append_assoc,List.map_append,List.take_left' (by simp),←List.map_append]) Z Z) (Mx 101 (.own 22 0 (r++nxW w false v).length) rfl (by rw [List.length_append]) (AD Z Z (AF ?_)));exact ⟨(vis++ [v],r++nxW w false v,[]),hI.go h86,by have h1:=hI2.vlen;rw [List.length_append,List.length_singleton] at h1;have h2:=K8 w false v;show ((parts w).length - (vis++ [v]).length)*5000+(r++nxW w false v).length<((parts w).length - vis.length)*5000+(r++ [v]).length;simp only [List.length_append,List.length_singleton];omega,BK hF [20,22,23,40] rfl (by simp only [Gz,List.append_nil];rfl) ⟨rfl,rfl,rfl,rfl,rfl,trivial⟩⟩
  ·refine Eg (AG ?_)
   have hs0:stk=[]:=by
    have h1:=h71;exact List.length_eq_zero_iff.1 (by omega)
   subst hs0;have hcl:=hI.clo hw haR;have hol:=I4 hw hI.nd hI.vl;have hfw:=hw.few;refine AI (AC Z Z (U (LN QI (outS w vis) (by omega) Z Z Z Z Z Z Z) (AF (AG ?_))));rw [hcl];have hcn:(outS w vis).length=(cloW w a false).length:=by rw [←hcl,DJ]
   refine Zck (emb:=AU) 16 23 (cloW w a false) Z Z Z hcn Z Z Z (AI (AC Z Z (AD Z Z (AF (Ay ?_)))));exact ⟨_,[40],_,Av rfl,rfl,rfl,by rw [if_pos haR],rfl⟩
theorem inj_snd {E:List (St×Nat)} (hn:(E.map Prod.snd).Nodup) {p q:St×Nat} (hp:p∈E) (hq:q∈E) (e:p.2=q.2):p=q:=by
 induction E with
 | nil=>exact by cases hp
 | cons a r ih=>
  obtain ⟨h1,h2⟩:a.2∉r.map Prod.snd∧(r.map Prod.snd).Nodup:=List.nodup_cons.1 hn;rcases List.mem_cons.1 hp with rfl | hp'<;>rcases List.mem_cons.1 hq with rfl | hq'
  ·rfl
  ·exact (h1 (List.mem_map.2 ⟨q,hq',e.symm⟩)).elim
  ·exact (h1 (List.mem_map.2 ⟨p,hp',e⟩)).elim
  ·exact ih h2 hp' hq'
theorem LR.set {M:MF} {b m:Nat} {E:List (St×Nat)} {lk:Nat ->List Lk} (h:LR M b m E lk) {x:St} {hd:Nat} (hm:(x,hd)∈E) (L:List Lk):LR (BL M hd (.map none (Dl L))) b m E (Ak lk hd L):=by
 have h1:b≠hd:=fun e=>by have:=h.sub _ hm;rw [←e,h.cell] at this;cases this
 have h2:m≠hd:=fun e=>h.ne (by rw [e];exact List.mem_map.2 ⟨_,hm,rfl⟩);refine ⟨by rw [Dv h1];exact h.cell,by rw [Dv h2];exact h.top,fun p hp=>?_,h.nd,h.ne⟩
 by_cases e:p.2=hd
 ·rw [e,D2,Dj]
 ·rw [Dv e,EP e];exact h.sub p hp
theorem LW.set {E:List (St×Nat)} {lk:Nat ->List Lk} {w w':Ws} (h:LW E lk w) (hnd:(E.map Prod.snd).Nodup) {x:St} {hd:Nat} (hm:(x,hd)∈E) {L:List Lk} (hR:w'.R=w.R) (hL:L.Nodup) (hs:∀l:Lk,l∈L↔(⟨x,l.t,l.r⟩:Lw)∈w'.K) (ho:∀l:Lw,l.f≠x ->(l∈w'.K↔l∈w.K)):LW E (Ak lk hd L) w':=by
 refine ⟨h.kd,fun y=>by rw [hR];exact h.ks y,fun p hp=>?_,fun p hp l=>?_⟩
 ·by_cases e:p.2=hd
  ·rw [e,Dj];exact hL
  ·rw [EP e];exact h.ld p hp
 ·by_cases e:p.2=hd
  ·have hpe:=inj_snd hnd hp hm e;subst hpe;rw [Dj];exact hs l
  ·rw [EP e,h.ls p hp l,ho];intro e2
   have e3:p=(x,hd):=by
    have:=Bk h.kd hp;rw [show p.1=x from e2,Bk h.kd hm] at this;injection this with this
    exact absurd this.symm e
   exact e (by rw [e3])
theorem LI {M:MF} {b m:Nat} {E:List (St×Nat)} {lk:Nat ->List Lk} {w:Ws} (hr:LR M b m E lk) (hl:LW E lk w) {x:St} {hd:Nat} (hm:(x,hd)∈E) {l:Lk} (hn:(⟨x,l.t,l.r⟩:Lw)∉w.K):B7 (BL M hd (.map none (Dl (lk hd++ [l])))) b (BQ w ⟨x,l.t,l.r⟩):=by
 have hln:l∉lk hd:=fun h=>hn ((hl.ls _ hm l).1 h);refine ⟨m,E,_,hr.set hm _,hl.set hr.nd hm rfl ?_ (fun l'=>?_) (fun l' hf=>?_)⟩
 ·exact List.nodup_append.2 ⟨hl.ld _ hm,by simp,fun a ha c hc e=>hln (by rw [←List.mem_singleton.1 hc,←e];exact ha)⟩
 ·show l'∈lk hd++ [l]↔_∈w.K++ [_];rw [List.mem_append,List.mem_append,hl.ls _ hm l',List.mem_singleton,List.mem_singleton];refine or_congr Iff.rfl ⟨fun e=>by rw [e],fun e=>?_⟩;injection e with _ e1 e2
  exact Lk.eq_iff.2 ⟨e1,e2⟩
 ·show l'∈w.K++ [_]↔_;rw [List.mem_append,List.mem_singleton];exact ⟨fun h=>h.elim id fun e=>absurd (by rw [e]) hf,.inl⟩
theorem LV {M:MF} {b m:Nat} {E:List (St×Nat)} {lk:Nat ->List Lk} {w:Ws} (hr:LR M b m E lk) (hl:LW E lk w) {x:St} {hd:Nat} (hm:(x,hd)∈E) (l:Lk):B7 (BL M hd (.map none (Dl ((lk hd).filter fun y=>!decide (y=l))))) b (CP w ⟨x,l.t,l.r⟩):=by
 refine ⟨m,E,_,hr.set hm _,hl.set hr.nd hm rfl (List.Nodup.sublist List.filter_sublist (hl.ld _ hm)) (fun l'=>?_) (fun l' hf=>?_)⟩
 ·show l'∈(lk hd).filter _↔_∈w.K.filter _;rw [List.mem_filter,List.mem_filter,hl.ls _ hm l'];refine and_congr Iff.rfl ?_;simp only [Bool.not_eq_true',decide_eq_false_iff_not];refine not_congr ⟨fun e=>by rw [e],fun e=>?_⟩;injection e with _ e1 e2
  exact Lk.eq_iff.2 ⟨e1,e2⟩
 ·show l'∈w.K.filter _↔_;rw [List.mem_filter];exact ⟨fun h=>h.1,fun h=>⟨h,by simp only [Bool.not_eq_true',decide_eq_false_iff_not];exact fun e=>hf (by rw [e])⟩⟩
abbrev HLk (b:Nat) (l:Lw) (e:Int):Hp:=[(910,[.blk 23 [.d (pD b 0)]]),(911,[.blk 9 [.d (AU l.f)]]),(912,[.blk 39 [.d (Bt l.t),.d (AU l.r)]]),(913,[.blk 25 [.d (Bt e)]])]
theorem KQ {M:MF} {b:Nat} {w:Ws} (h:B7 M b w) (l:Lw) (hf:l.f∈w.R) (e:Int):JD Try.prog 46 [.ptr 913 0 0,.ptr 910 0 0,.ptr 911 0 0,.ptr 912 0 0] (HLk b l e++ [(40,[.multi M])]) fun r H'=>r= .tup []∧∃M',H'=HLk b l e++ [(40,[.multi M'])]∧B7 M' b (if e=0 then w else CP w l):=by
 have hrep:=h;obtain ⟨m,E,lk,hr,hl⟩:=h;obtain ⟨hd,hm⟩:=hl.at hf;refine d_enter Try.func46 Z Z Try.ntmps46 Z Z Z fun F hF=>(AG (AI ?_))
 first | refine J (AY Z Z on25 rfl) ?_ | refine J (AW Z Z Z on25 rfl) ?_ | refine J (AX Z Z (rfl) rfl on25 rfl) ?_
 first | refine J (IH Z Z Z) ?_ | refine J (IG Z Z Z) ?_ | refine J (Hm Z Z Z) ?_ | refine J (IB Try.underlying25 Z Z Z) ?_ | refine J (ID Try.underlying25 Z Z Z) ?_ | refine J (st_neqN Try.underlying25 Z Z) ?_ | refine J (st_neqPr Try.underlying25 Z Z) ?_ | refine J (st_neqMz Try.underlying25 Z Z) ?_ | refine J (IC Try.underlying25 Z Z Z) ?_ | refine J (st_neqFN Try.underlying25 Z Z) ?_
 refine AF ?_
 first | refine BG rfl (fun h5=>?_) (fun h5=>?_) | refine BB rfl (fun h5=>?_) (fun h5=>?_)
 ·refine Fh [[],[0],[0,1],[0,1,2],[],[0,1,2,3,4],[],[0,1,2,3,4,5,6]] mixed rfl (EK ?_)
  first | refine AE [1] [] Z Z (fun _=>AB (AY Z Z Az rfl)) ?_ | refine AH [1] Z Z (fun _=>AB (AY Z Z Az rfl)) ?_ | refine AE [1] [] Z Z (fun _=>AB (AW Z Z Z Az rfl)) ?_ | refine AH [1] Z Z (fun _=>AB (AW Z Z Z Az rfl)) ?_ | refine AE [1] [] Z Z (fun _=>AB (AX Z Z (rfl) rfl Az rfl)) ?_ | refine AH [1] Z Z (fun _=>AB (AX Z Z (rfl) rfl Az rfl)) ?_
  first | refine AE [6] [] Z Z (fun _=>AB (Fp Z Z)) ?_ | refine AH [6] Z Z (fun _=>AB (Fp Z Z)) ?_ | refine AE [6] [] Z Z (fun _=>AB (Fn Z Z)) ?_ | refine AH [6] Z Z (fun _=>AB (Fn Z Z)) ?_ | refine AE [6] [] Z Z (fun _=>AB (Fq Z Z)) ?_ | refine AH [6] Z Z (fun _=>AB (Fq Z Z)) ?_ | refine AE [6] [] Z Z (fun _=>AB (Fo Z Z)) ?_ | refine AH [6] Z Z (fun _=>AB (Fo Z Z)) ?_
  first | refine AE [7] [] Z Z (fun _=>AB (A2 rfl A8 Z Z Z)) ?_ | refine AH [7] Z Z (fun _=>AB (A2 rfl A8 Z Z Z)) ?_ | refine AE [7] [] Z Z (fun _=>AB (A4 rfl A8 Z Z Z)) ?_ | refine AH [7] Z Z (fun _=>AB (A4 rfl A8 Z Z Z)) ?_ | refine AE [7] [] Z Z (fun _=>AB (A5 rfl A8 Z Z Z)) ?_ | refine AH [7] Z Z (fun _=>AB (A5 rfl A8 Z Z Z)) ?_ | refine AE [7] [] Z Z (fun _=>AB (A3 rfl A8 Z Z Z)) ?_ | refine AH [7] Z Z (fun _=>AB (A3 rfl A8 Z Z Z)) ?_ | refine AE [7] [] Z Z (fun _=>AB (A1 rfl A8 Z Z Z)) ?_ | refine AH [7] Z Z (fun _=>AB (A1 rfl A8 Z Z Z)) ?_
  first | refine AE [8] [] Z Z (fun _=>AB (GQ (f:=40) Z Z (hr.cell) rfl Bp rfl)) ?_ | refine AH [8] Z Z (fun _=>AB (GQ (f:=40) Z Z (hr.cell) rfl Bp rfl)) ?_
  first | refine AE [2] [] Z Z (fun _=>AB (AY Z Z AZ rfl)) ?_ | refine AH [2] Z Z (fun _=>AB (AY Z Z AZ rfl)) ?_ | refine AE [2] [] Z Z (fun _=>AB (AW Z Z Z AZ rfl)) ?_ | refine AH [2] Z Z (fun _=>AB (AW Z Z Z AZ rfl)) ?_ | refine AE [2] [] Z Z (fun _=>AB (AX Z Z (rfl) rfl AZ rfl)) ?_ | refine AH [2] Z Z (fun _=>AB (AX Z Z (rfl) rfl AZ rfl)) ?_
  first | refine AE [9,10] [] Z Z (fun _=>AB (HO (f:=40) (eE E) l.f none (some hd) Z Z hr.top rfl CT E6 ET (Bk hl.kd hm) rfl)) ?_ | refine AH [9,10] Z Z (fun _=>AB (HO (f:=40) (eE E) l.f none (some hd) Z Z hr.top rfl CT E6 ET (Bk hl.kd hm) rfl)) ?_
  first | refine AE [3] [] Z Z (fun _=>AB (BW Z Z Aq rfl)) ?_ | refine AH [3] Z Z (fun _=>AB (BW Z Z Aq rfl)) ?_ | refine AE [3] [] Z Z (fun _=>AB (BX Z Z Aq Z Z Z)) ?_ | refine AH [3] Z Z (fun _=>AB (BX Z Z Aq Z Z Z)) ?_ | refine AE [3] [] Z Z (fun _=>AB (BY Z Z (rfl) rfl Aq rfl)) ?_ | refine AH [3] Z Z (fun _=>AB (BY Z Z (rfl) rfl Aq rfl)) ?_
  refine EL 7 Z Z Z (B6 8 Z Z (U (GW (f:=40) (Dp (lk hd)) (⟨l.t,l.r⟩) (true) Z Z (hr.sub _ hm) rfl HE Ib rfl) (AF ⟨rfl,?_⟩)));refine Es ?_;exact ⟨_,[910,911,912,913,40],_,Av rfl,rfl,rfl,rfl,_,rfl,by rw [if_neg h5,Hv (hl.ld _ hm)];exact LV hr hl hm _⟩
 ·refine An ?_;exact ⟨_,[910,911,912,913,40],_,Av rfl,rfl,rfl,rfl,_,rfl,by rw [if_pos (Classical.not_not.1 h5)];exact hrep⟩
end Go.Proofs.Ytlmedakidpaeeaa
