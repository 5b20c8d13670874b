/- Layer 27: the groups' members, walked. -/
import Derived.Test.YtlmedakidpaeeaaGreatMg18
namespace Go.Proofs.YtlmedakidpaeeaaGreat
open Go.RowKit
set_option maxRecDepth 100000
open Classical in
noncomputable def lstF (w:Ws) (l:List St):List (List St):=(l.filter fun a=>decide (KQ w a)).map (cls w)
theorem R5 (w:Ws):lstF w w.R=parts w:=rfl
structure PI (w:Ws) (k:Nat) (O:List (St×Nat)) (n:Nat) (ls:Nat ->List St):Prop where
 nd:(O.map Prod.fst).Nodup
 ks:∀y,y∈O.map Prod.fst↔y∈w.R∧∃i x,i<k∧w.R[i]? =some x∧Gm w x y
 rows:PX n ls=lstF w (w.R.take k)
 vals:∀p∈O,p.2<n∧ls p.2=cls w p.1
 le:n≤k
theorem PI.zero {w:Ws}:PI w 0 [] 0 (fun _=> []):=⟨List.nodup_nil,fun y=>by simp,by simp [PX,lstF],(fun _ h=>by cases h),Nat.le_refl _⟩
theorem srt_lt {R:List St} (h:Fu R) {i j:Nat} {x y:St} (hi:R[i]? =some x) (hj:R[j]? =some y) (hlt:x<y):i<j:=by
 obtain ⟨h1,rfl⟩:=List.getElem?_eq_some_iff.1 hi;obtain ⟨h2,rfl⟩:=List.getElem?_eq_some_iff.1 hj;rcases Nat.lt_trichotomy i j with h3 | h3 | h3
 ·exact h3
 ·subst h3;exact absurd hlt (G2 _)
 ·exact absurd hlt (Q3 (List.pairwise_iff_getElem.1 h j i h2 h1 h3))
theorem PI.old {w:Ws} (hw:B1 w) {k:Nat} {O:List (St×Nat)} {n:Nat} {ls:Nat ->List St} (h:PI w k O n ls) (hk:k<w.R.length) (hx:w.R[k]∈O.map Prod.fst):PI w (k+1) O n ls:=by
 obtain ⟨_,i,x,hi,hxi,hc⟩:=(h.ks _).1 hx;refine ⟨h.nd,fun y=>?_,?_,h.vals,Nat.le_succ_of_le h.le⟩
 ·rw [h.ks]
  constructor
  ·rintro ⟨hy,j,z,hj,hz,hc2⟩;exact ⟨hy,j,z,by omega,hz,hc2⟩
  ·rintro ⟨hy,j,z,hj,hz,hc2⟩
   by_cases e:j=k
   ·subst e;rw [List.getElem?_eq_getElem hk] at hz;injection hz with hz;subst hz
    exact ⟨hy,i,x,hi,hxi,hc.trans hc2⟩
   ·exact ⟨hy,j,z,by omega,hz,hc2⟩
 ·rw [h.rows,List.take_succ_eq_append_getElem hk];unfold lstF;rw [List.filter_append,List.map_append]
  have hn:¬KQ w w.R[k]:=fun hl=>by
   obtain ⟨h1,rfl⟩:=List.getElem?_eq_some_iff.1 hxi;exact hl _ (List.getElem_mem h1) hc.symm (List.pairwise_iff_getElem.1 hw.srt i k h1 hk hi)
  simp [hn]
theorem PI.new {w:Ws} (hw:B1 w) {k:Nat} {O:List (St×Nat)} {n:Nat} {ls:Nat ->List St} (h:PI w k O n ls) (hk:k<w.R.length) (hx:w.R[k]∉O.map Prod.fst) {ad:List St} (hv:VR w (O.map Prod.fst) w.R[k] ad):
  Ct ad=cls w w.R[k]∧PI w (k+1) (addO O ad n) (n+1) (Ap ls n (cls w w.R[k])):=by
 have hR:w.R[k]∈w.R:=List.getElem_mem hk;have hself:w.R[k]∈ad:=hv.self.resolve_left hx
 have hall:∀z,Gm w w.R[k] z ->z∈ad:=fun z hz=>BM.closed (p:=fun z=>z∈ad) (fun a b ha hab=>by
  rcases hv.cl a ha b hab with h1 | h1
  ·obtain ⟨_,i,x,hi,hxi,hc⟩:=(h.ks b).1 h1;obtain ⟨q1,q2,_⟩:=hv.nw a ha;exact absurd ((h.ks a).2 ⟨q2,i,x,hi,hxi,hc.trans (BM.one hab.symm)⟩) q1
  ·exact h1) hself hz
 have hmem:∀y,y∈ad↔y∈cls w w.R[k]:=fun y=>by
  rw [Jq];exact ⟨fun hy=>⟨(hv.nw y hy).2.1,(hv.nw y hy).2.2⟩,fun hy=>hall y hy.2⟩
 have hL:KQ w w.R[k]:=fun x hxR hc hlt=>by
  obtain ⟨i,hi,rfl⟩:=List.getElem_of_mem hxR;have hik:=srt_lt hw.srt (List.getElem?_eq_getElem hi) (List.getElem?_eq_getElem hk) hlt;exact hx ((h.ks _).2 ⟨hR,i,_,hik,List.getElem?_eq_getElem hi,hc.symm⟩)
 refine ⟨Ha hv.nd (FC hw _) hmem,?_,fun y=>?_,?_,fun p hp=>?_,by have:=h.le;omega⟩
 ·rw [Fl,List.nodup_append];exact ⟨h.nd,hv.nd,fun a ha b hb e=>(hv.nw b hb).1 (e▸ha)⟩
 ·rw [Fl,List.mem_append,h.ks,hmem,Jq]
  constructor
  ·rintro (⟨hy,i,x,hi,hxi,hc⟩ | ⟨hy,hc⟩)
   ·exact ⟨hy,i,x,by omega,hxi,hc⟩
   ·exact ⟨hy,k,_,by omega,List.getElem?_eq_getElem hk,hc⟩
  ·rintro ⟨hy,i,x,hi,hxi,hc⟩
   by_cases e:i=k
   ·subst e;rw [List.getElem?_eq_getElem hk] at hxi;injection hxi with hxi;subst hxi
    exact .inr ⟨hy,hc⟩
   ·exact .inl ⟨hy,i,x,by omega,hxi,hc⟩
 ·have h1:PX (n+1) (Ap ls n (cls w w.R[k]))=PX n ls++ [cls w w.R[k]]:=by
   unfold PX;rw [List.range_succ,List.map_append]
   congr 1
   ·exact List.map_congr_left fun i hi=>EV (by have:=List.mem_range.1 hi;omega)
   ·simp [Di]
  rw [h1,h.rows,List.take_succ_eq_append_getElem hk];unfold lstF;rw [List.filter_append,List.map_append]
  simp [hL]
 ·rcases List.mem_append.1 hp with hp | hp
  ·obtain ⟨h1,h2⟩:=h.vals p hp;exact ⟨by omega,by rw [EV (by omega)];exact h2⟩
  ·obtain ⟨y,hy,rfl⟩:=List.mem_map.1 hp;exact ⟨by show n<n+1;omega,by show Ap ls n (cls w w.R[k]) n=_;rw [Di];exact Hw ((hmem y).1 hy |>Jq.1).2⟩
theorem PI.fin {w:Ws} (hw:B1 w) {O:List (St×Nat)} {n:Nat} {ls:Nat ->List St} (h:PI w w.R.length O n ls):PX n ls=parts w∧∀x∈w.R,CJ O x 0=idx w x:=by
 have h1:PX n ls=parts w:=by rw [h.rows,List.take_length,R5]
 refine ⟨h1,fun x hx=>?_⟩;obtain ⟨i,hi,e⟩:=List.getElem_of_mem hx;have hm:x∈O.map Prod.fst:=(h.ks x).2 ⟨hx,i,x,hi,by rw [List.getElem?_eq_getElem hi,e],.refl⟩;obtain ⟨p,hp,e⟩:=List.mem_map.1 hm;subst e;obtain ⟨h2,h3⟩:=h.vals p hp;rw [IP h.nd hp];refine (OF hw (i:=p.2) (g:=cls w p.1) ?_ (QQ hx)).symm;rw [←h1,O4 h2,h3]
theorem QT {n:Nat} {hs:Nat ->Hd} {ls:Nat ->List St}:∀(j:Nat) x y,(rowS n hs ls++ [D.sl (some true) []])[j]? =some x ->(rowS (n+1) (Ap hs n none) (Ap ls n []))[j]? =some y ->∀w O v,AM w O x v ->AM w O y v:=by
 intro j x y hx hy w O v hr;have hj:j<n+1:=by have:=(List.getElem?_eq_some_iff.1 hy).1;rwa [SZ] at this
 rw [F5 hj] at hy;injection hy with hy
 subst hy
 by_cases e:j=n
 ·subst e;rw [List.getElem?_append_right (by rw [SZ];exact Nat.le_refl _),SZ,Nat.sub_self] at hx;injection hx with hx
  subst hx;rw [Di,Di];exact hr.nrm1
 ·have hj':j<n:=by omega
  rw [List.getElem?_append_left (by rw [SZ];exact hj'),F5 hj'] at hx;injection hx with hx
  subst hx;rw [EV e,EV e];exact hr
theorem Lx.grow {M:MF} {n:Nat} {hs:Nat ->Hd} {ls:Nat ->List St} (h:Lx M n hs ls):Lx M (n+1) (Ap hs n none) (Ap ls n []):=by
 refine ⟨fun j hj=>?_,fun j k b c c' hj hk e1 e2=>?_⟩
 ·by_cases e:j=n
  ·subst e;rw [Di,Di];exact rfl
  ·rw [EV e,EV e];exact h.at_ j (by omega)
 ·by_cases ej:j=n
  ·subst ej;rw [Di] at e1;cases e1
  ·by_cases ek:k=n
   ·subst ek;rw [Di] at e2;cases e2
   ·rw [EV ej] at e1;rw [EV ek] at e2;exact h.inj j k b c c' (by omega) (by omega) e1 e2
abbrev CT (w:List (List St)):D:= .sl none (w.map stsD)
theorem PB {n:Nat} (h0:0<n) (h:n≤1000000):IntKind.i64.wrap ((n:Int) - 1)=((n - 1:Nat):Int):=by
 rw [show ((n:Int) - 1)=((n - 1:Nat):Int) by omega];exact IntWalk.i64_in _ (by omega)
theorem Pn {Ks:List St} {L:St ->List St} (hoff:∀k,k∉Ks ->L k=[]) (a:St):CJ (Ks.map fun k=>(k,L k)) a []=L a:=by
 have key:∀Ks:List St,CJ (Ks.map fun k=>(k,L k)) a []=if a∈Ks then L a else []:=by
  intro Ks
  induction Ks with
  | nil=>rfl
  | cons k r ih=>
   show (if a=k then L k else CJ (r.map fun k=>(k,L k)) a [])=_
   by_cases e:a=k
   ·subst e;simp
   ·rw [if_neg e,ih];simp [e]
 rw [key]
 split
 ·rfl
 ·rename_i hn;rw [hoff a hn]
set_option maxHeartbeats 1000000 in
theorem Il {M:MF} {b:Nat} {w:Ws} (h:Bg M b w) (hw:B1 w) (hK:w.K.length≤1000000):AQ Tryz.prog 30 [.d (pD b 0)] [(40,[.multi M])] fun r H'=>∃O:List (St×Nat),r= .tup [.d (CT (parts w)),.map 6 0]∧H'=[(40,[.multi M]),(6,[Pp AU natD O])]∧∀x∈w.R,CJ O x 0=idx w x:=by
 have hrep:=h;obtain ⟨m,E,lk,hr,hl⟩:=h;have hfew:=hw.few;have hEl:=hl.len hw;refine CP Tryz.func30 Z Z Tryz.ntmps30 Z Z Z fun F hF=>(AE (AH (AD Z Z (AD Z Z (AF (AE (AH (AC Z Z ?_))))))));refine H1 (If (neigh_c hrep hw hK) rfl [40,1] ⟨rfl,rfl,trivial⟩ Z Z Z Z (fun r H' ⟨Ks,L,bs,e1,e2,_⟩=>by subst e1 e2;exact ⟨rfl,rfl,rfl⟩) rfl) rfl ?_;rintro _ ⟨r,H',⟨Ks,L,nbs,e1,e2,hoff,hwth,hLl⟩,rfl⟩;subst e1 e2;refine U (HZ 4 zl88 Z Z Z Z) (U (Bu Z Z Z Z Z Z Z sz88) (AF (AE (AH (U (Ei 6 Z Z Z Z) ?_)))));refine U (HZ 5 zl75 Z Z Z Z) (U (Bu Z Z Z Z Z Z Z sz75) (AF (AE (AH (U (HZ 7 zl74 Z Z Z Z) (AF (AE (AH ?_))))))));refine U (HZ 9 zl90 Z Z Z Z) (AF (AE (AH (J (Do Z Z) (U (Bu Z Z Z Z Z Z Z sz90) (AF (AE (AE ?_))))))))
 have hL:NbOk w (Ks.map fun k=>(k,L k)) L:=⟨Pn hoff,hwth,hLl⟩
 obtain ⟨NE,hNE⟩:∃NE,(Ks.map fun k=>(k,L k))=NE:=⟨_,rfl⟩
 rw [hNE] at hL;rw [hNE];refine DG 7 0 0 8 Nh Z Z Z Z Z Z Z (EB 50 Z Z Z (AH (AC Z Z ?_)))
 first | refine J (GP Z Z) ?_ | refine J (GR Z Z) ?_ | refine J (GQ Z Z) ?_ | refine J (GS Z Z) ?_
 first | refine J (A2 rfl Ac Z Z Z) ?_ | refine J (A4 rfl Ac Z Z Z) ?_ | refine J (A5 rfl Ac Z Z Z) ?_ | refine J (A3 rfl Ac Z Z Z) ?_ | refine J (A1 rfl Ac Z Z Z) ?_
 refine J (Gi (f:=40) Z Z (hr.cell) rfl CB rfl) (U (Fn (keys_c m) rfl [] trivial Z Z Z Z Z Z Z Z Z) (U (Fn (Q5 hr.top (by omega) hl.kd hw.srt hl.ks) rfl [40] ⟨rfl,trivial⟩ Z Z Z Z Z Z Z Z Z) (J (Bs rfl (List.length_map ..) Tryz.underlying25 rfl) (AC Z Z (AF (BH (Db (α:=Nat×List (St×Nat)×Nat×(Nat ->Hd)×(Nat ->List St)×MF) (fun q=>⟨51,[(0,.d (pD b 0)),(5,(.ptr 5 0 0)),(6,(.ptr 7 0 0)),(7,(.ptr 9 0 0)),(21,(.d (stsD w.R))),(22,(.d (natD w.R.length))),(23,(.d (natD q.1)))],(40,[.multi M])::HV nbs NE q.2.1 q.2.2.1 q.2.2.2.1 q.2.2.2.2.1 q.2.2.2.2.2⟩) (fun q=>q.1≤w.R.length∧PI w q.1 q.2.1 q.2.2.1 q.2.2.2.2.1∧Lx q.2.2.2.2.2 q.2.2.1 q.2.2.2.1 q.2.2.2.2.1) (fun q=>w.R.length - q.1) ((0,[],0,(fun _=>none),(fun _=> []),fun _=>none)) (⟨Nat.zero_le _,PI.zero,Lx.zero 0⟩) (At hF [40,4,1,5,6,7,8,9,50] Z Z ⟨rfl,rfl,rfl,rfl,rfl,rfl,rfl,trivial⟩) ?_)))))));rintro ⟨k,O,n,hs,ls,M5⟩ ⟨hk,hP,hG⟩;dsimp only at hk hP hG⊢;refine AE (AH ?_)
 first | refine J (D3 Z Z Z) ?_ | refine J (D4 Z Z Z) ?_
 refine AF (AE ?_)
 first | refine Az rfl (fun h24=>?_) (fun h24=>?_) | refine Aw rfl (fun h24=>?_) (fun h24=>?_)
 ·refine Ai (AE (BH (AE ?_)));have hkl:k<w.R.length:=F1 h24;have hnk:=hP.le;refine AH ?_
  first | refine J (BE (k) Z Z (rfl) (NK hkl) Tryz.underlying25 rfl DW rfl) ?_ | refine J (BF (k) Z Z (rfl) (NK hkl) rfl Tryz.underlying25 DW rfl) ?_
  first | refine J (AZ Z Z AR rfl) ?_ | refine J (AX Z Z Z AR rfl) ?_ | refine J (AY Z Z (rfl) rfl AR rfl) ?_
  refine AD Z Z (AF (AE (AH ?_)))
  first | refine J (AZ Z Z FM rfl) ?_ | refine J (AX Z Z Z FM rfl) ?_ | refine J (AY Z Z (rfl) rfl FM rfl) ?_
  refine AC Z Z (J (Fz (O) (w.R[k]) (0) Z Z Z HM EU QM rfl) (AC Z Z ?_))
  first | refine J (Bn Z Z Z) ?_ | refine J (Bm Z Z Z) ?_
  first | refine J (Bn Z Z Z) ?_ | refine J (Bm Z Z Z) ?_
  refine AD Z Z (AD Z Z (AF (AE (AH (AC Z Z ?_)))))
  first | refine J (ET Z Z) ?_ | refine J (EQ Z Z) ?_
  refine AF ?_
  first | refine Az rfl (fun h34=>?_) (fun h34=>?_) | refine Aw rfl (fun h34=>?_) (fun h34=>?_)
  ·refine AE ?_;have hxO:w.R[k]∉O.map Prod.fst:=fun hh=>absurd (DB.2 hh) (by simpa using h34);refine AH ?_
   first | refine J (AZ Z Z EH rfl) ?_ | refine J (AX Z Z Z EH rfl) ?_ | refine J (AY Z Z (rfl) rfl EH rfl) ?_
   refine U (Fq 20 Nh Z Z Z Z Z Z Z Z) (U (JF Z Z Z (Nat.le_of_eq (SZ n hs ls).symm) Z Z (by simp) Nh (by omega) Z Z (show (rowS n hs ls).take n++ [D.sl (some true) []]=rowS n hs ls++ [D.sl (some true) []] from by rw [List.take_of_length_le (by rw [SZ];exact Nat.le_refl _)]) Z Z) (U (Bu Z Z Z Z Z Z Z sz74) (AF (AE (Hz 8 0 (rowS (n+1) (Ap hs n none) (Ap ls n [])) rfl (by rw [List.length_append,SZ,SZ];rfl) QT ⟨fun x hx=>by rcases List.mem_append.1 hx with hx | hx;exact JX _ _ _ x hx;simp at hx;subst hx;rfl,JX _ _ _⟩ rfl (AH ?_))))))
   first | refine J (AZ Z Z Pf rfl) ?_ | refine J (AX Z Z Z Pf rfl) ?_ | refine J (AY Z Z (rfl) rfl Pf rfl) ?_
   refine AC Z Z ?_;refine H1 (KU (visit_c hw hL (n+1) (by omega) (by omega) w.R.length O _ _ M5 w.R[k] (Nat.sub_le _ _) (List.getElem_mem hkl) hP.nd (fun y hy=>((hP.ks y).1 hy).1) hG.grow (by show (Ap ls n [] n).length≤_;rw [Di];exact Nat.zero_le _)) rfl [4,1,5,6,7,8,9,50] ⟨rfl,rfl,rfl,rfl,rfl,rfl,rfl,rfl,trivial⟩ Z Z Z Z (fun r H' ⟨ad,hs3,M53,e1,e2,_,_⟩=>by subst e1 e2;exact ⟨rfl,rfl,rfl⟩) rfl) rfl ?_;rintro _ ⟨r,H',⟨ad,hs3,M53,e1,e2,hG3,hVR⟩,rfl⟩;subst e1 e2;refine AF ?_;have e5:Ap (Ap ls n []) (n+1 - 1) (Ap ls n [] (n+1 - 1)++ad)=Ap ls n ad:=by show Ap (Ap ls n []) n (Ap ls n [] n++ad)=_;rw [Fx,Di];rfl
   rw [e5] at hG3⊢;have hself:w.R[k]∈ad:=hVR.self.resolve_left hxO;have hadl:ad.length≤w.R.length:=OK hVR.nd fun y hy=>(hVR.nw y hy).2.1;have hGn:=hG3.at_ n (Nat.lt_succ_self n);rw [Di] at hGn;obtain ⟨b1,c1,hbe⟩:∃b1 c1,hs3 n=some (b1,c1):=by rcases hd_two (hs3 n) with e | e;rw [e] at hGn;have hz:ad.map AU=[]:=hGn;rw [List.map_eq_nil_iff] at hz;rw [hz] at hself;cases hself;exact e
   rw [hbe] at hGn;refine AH ?_
   first | refine J (AZ Z Z EH rfl) ?_ | refine J (AX Z Z Z EH rfl) ?_ | refine J (AY Z Z (rfl) rfl EH rfl) ?_
   first | refine J (AZ Z Z EH rfl) ?_ | refine J (AX Z Z Z EH rfl) ?_ | refine J (AY Z Z (rfl) rfl EH rfl) ?_
   first | refine J (IB rfl Tryz.underlying74 rfl) ?_ | refine J (Bs Z Z Tryz.underlying74 rfl) ?_ | refine J (IE rfl Tryz.underlying74 rfl) ?_ | refine J (IG rfl Tryz.underlying74 rfl) ?_ | refine J (ID rfl Tryz.underlying74 rfl) ?_ | refine J (H4 rfl Tryz.underlying74 rfl) ?_
   refine J (Ci Z Z (show IntKind.i64.wrap (((n+1:Nat):Int) - 1)=(n:Int) from PB (n:=n+1) (by omega) (by omega)) rfl) ?_
   first | refine J (BE (n) Z Z (rfl) (Nat.lt_succ_self n) Tryz.underlying74 rfl Bw rfl) ?_ | refine J (BF (n) Z Z (rfl) (Nat.lt_succ_self n) rfl Tryz.underlying74 Bw rfl) ?_
   first | refine J (AZ Z Z AW rfl) ?_ | refine J (AX Z Z Z AW rfl) ?_ | refine J (AY Z Z (show (rowS (n+1) hs3 (Ap ls n ad))[n]? =some (.raw (sV b1 ad.length c1)) from by rw [F5 (Nat.lt_succ_self n),hbe,Di];rfl) rfl AW rfl) ?_
   refine U (PH Og (f:=50) ad (by omega) Z Z Z hGn.2 Z Z Z Z) ?_;obtain ⟨hse,hP2⟩:=hP.new hw hkl hxO hVR;have hG4:=hG3.put (Nat.lt_succ_self n) hbe (l:=Ct ad) (by rw [Cj];simpa using hGn.1);rw [Fx,hse] at hG4;have hro:rowS (n+1) hs3 (Ap ls n ad)=rowS (n+1) hs3 (Ap ls n (cls w w.R[k])):=by refine List.map_congr_left fun j _=>?_;by_cases e:j=n;subst e;rw [Di,Di,←hse,Cj];rw [EV e,EV e]
   rw [hse,hro];refine AF (AH (J (CG Z Z (IntWalk.i64_in _ (by omega)) rfl) (AC Z Z (AF ?_))));exact ⟨(k+1,addO O ad n,n+1,hs3,Ap ls n (cls w w.R[k]),_),⟨hkl,hP2,hG4⟩,by show w.R.length - (k+1)<w.R.length - k;omega,At hF [40,4,1,5,6,7,8,9,50] rfl (rfl) ⟨rfl,rfl,rfl,rfl,rfl,rfl,rfl,trivial⟩⟩
  ·refine Ai (AH (J (CG Z Z (IntWalk.i64_in _ (by omega)) rfl) (AC Z Z (AF ?_))));exact ⟨(k+1,O,n,hs,ls,M5),⟨hkl,hP.old hw hkl (DB.1 (by simpa using h34)),hG⟩,by show w.R.length - (k+1)<w.R.length - k;omega,At hF [40,4,1,5,6,7,8,9,50] rfl (rfl) ⟨rfl,rfl,rfl,rfl,rfl,rfl,rfl,trivial⟩⟩
 ·refine C5 (AE ?_);have hke:k=w.R.length:=by have:=h24;omega
  subst hke;obtain ⟨hrw,hix⟩:=hP.fin hw;refine OV 8 0 50 ((PX n ls).map stsD) Z Z Z Z Z (by rw [List.length_map,O3,SZ]) hG.melt ⟨JX _ _ _,one_sts _⟩ rfl ?_;rw [hrw];have hnl:(parts w).length=n:=by rw [←hrw,O3]
  refine C3 (ys:=(parts w).map stsD) 7 0 0 8 Z Z Z (Nat.le_of_eq (by rw [List.length_map,hnl])) (List.take_of_length_le (by rw [List.length_map,hnl];exact Nat.le_refl _)) Z Z Z Z Z Z (FK [[],[],[0],[0,1,2]] mixed rfl (D1 ?_))
  first | refine AG [6] [7] Z Z (fun _=>AB (AZ Z Z EH rfl)) ?_ | refine AG [6] [7] Z Z (fun _=>AB (AX Z Z Z EH rfl)) ?_ | refine AG [6] [7] Z Z (fun _=>AB (AY Z Z (rfl) rfl EH rfl)) ?_
  first | refine AG [5] [5] Z Z (fun _=>AB (AZ Z Z FM rfl)) ?_ | refine AG [5] [5] Z Z (fun _=>AB (AX Z Z Z FM rfl)) ?_ | refine AG [5] [5] Z Z (fun _=>AB (AY Z Z (rfl) rfl FM rfl)) ?_
  first | refine AG [49] [] Z Z (fun _=>AB (Zct Z Z)) ?_ | refine AI [49] Z Z (fun _=>AB (Zct Z Z)) ?_
  refine D2 3 Z Z Z (BY 4 Z Z (AD Z Z (AF ⟨rfl,?_⟩)));refine Eg (Aq ?_);exact ⟨_,[40,6],_,An rfl,rfl,rfl,O,rfl,rfl,hix⟩
theorem exmin (p:Nat ->Prop):∀(m x:Nat),p x ->x≤m ->∃y,p y∧∀z,p z ->y≤z:=by
 intro m
 induction m with
 | zero=>intro x hx hm;exact ⟨x,hx,fun z _=>by omega⟩
 | succ m ih=>
  intro x hx hm
  by_cases h:∃y,p y∧y≤m
  ·obtain ⟨y,hy,hym⟩:=h;exact ih y hy hym
  ·exact ⟨x,hx,fun z hz=>by
    have:¬z≤m:=fun h2=>h ⟨z,hz,h2⟩
    omega⟩
theorem Rb {l:List Nat} (hl:l.Pairwise (· ≤ ·)) {i j:Nat} (hij:i≤j) (hj:j<l.length):CO l i≤CO l j:=by
 rcases Nat.eq_or_lt_of_le hij with e | h
 ·subst e;exact Nat.le_refl _
 ·rw [Cb (by omega),Cb hj];exact List.pairwise_iff_getElem.1 hl i j (by omega) hj h
theorem NQ {l:List Nat} (hl:l.Pairwise (· ≤ ·)):(EN l l.length).Pairwise (· < ·):=by
 unfold EN;rw [List.pairwise_map];refine List.Pairwise.imp_of_mem (fun {i j} hi hj hij=>?_) (List.Pairwise.filter _ List.pairwise_lt_range);obtain ⟨hj1,hj2⟩:=List.mem_filter.1 hj;have hj1:=List.mem_range.1 hj1;rcases of_decide_eq_true hj2 with e | e
 ·omega
 ·have h1:=Rb hl (i:=i) (j:=j - 1) (by omega) (by omega);have h2:=Rb hl (i:=j - 1) (j:=j) (by omega) hj1;omega
theorem SH {l:List Nat} {x:Nat}:x∈EN l l.length↔x∈l:=by
 unfold EN;rw [List.mem_map]
 constructor
 ·rintro ⟨i,hi,rfl⟩;exact Er (List.mem_range.1 (List.mem_filter.1 hi).1)
 ·intro hx;obtain ⟨i,hi,e⟩:=List.mem_iff_getElem.1 hx;obtain ⟨j,⟨hj,hjx⟩,hm⟩:=exmin (fun j=>j<l.length∧CO l j=x) i i ⟨hi,by rw [Cb hi];exact e⟩ (Nat.le_refl _);refine ⟨j,List.mem_filter.2 ⟨List.mem_range.2 hj,decide_eq_true ?_⟩,hjx⟩
  by_cases h0:j=0
  ·exact .inl h0
  ·refine .inr fun e2=>?_;have:=hm (j - 1) ⟨by omega,by rw [←e2,hjx]⟩;omega
theorem NP (l:List Nat):(Gh l).Pairwise (· < ·):=NQ (Gs l)
theorem SG {l:List Nat} {x:Nat}:x∈Gh l↔x∈l:=by unfold Gh;rw [SH,(Ej l).mem_iff]
structure DP (w:Ws) (acc:List Lw) (L:Nat ->List Nat):Prop where
 mem:∀i k,k∈L i↔∃l∈acc,l.t=1∧idx w l.f≠idx w l.r∧idx w l.f=i∧idx w l.r=k
 len:∀i,(L i).length≤acc.length
theorem DP.zero (w:Ws):DP w [] (fun _=> []):=⟨fun i k=>by simp,fun _=>Nat.le_refl _⟩
theorem DP.skip {w:Ws} {acc:List Lw} {L:Nat ->List Nat} (h:DP w acc L) {l:Lw} (hl:¬(l.t=1∧idx w l.f≠idx w l.r)):DP w (acc++ [l]) L:=by
 refine ⟨fun i k=>?_,fun i=>?_⟩
 ·rw [h.mem]
  constructor
  ·rintro ⟨x,hx,r⟩;exact ⟨x,List.mem_append_left _ hx,r⟩
  ·rintro ⟨x,hx,h1,h2,r⟩;rcases List.mem_append.1 hx with hx | hx
   ·exact ⟨x,hx,h1,h2,r⟩
   ·simp at hx;subst hx;exact absurd ⟨h1,h2⟩ hl
 ·have:=h.len i;simp;omega
theorem DP.hit {w:Ws} {acc:List Lw} {L:Nat ->List Nat} (h:DP w acc L) {l:Lw} (h1:l.t=1) (h2:idx w l.f≠idx w l.r):DP w (acc++ [l]) (Ap L (idx w l.f) (L (idx w l.f)++ [idx w l.r])):=by
 refine ⟨fun i k=>?_,fun i=>?_⟩
 ·by_cases e:i=idx w l.f
  ·subst e;rw [Di,List.mem_append,h.mem]
   constructor
   ·rintro (⟨x,hx,r⟩ | hk)
    ·exact ⟨x,List.mem_append_left _ hx,r⟩
    ·exact ⟨l,List.mem_append_right _ (by simp),h1,h2,rfl,(List.mem_singleton.1 hk).symm⟩
   ·rintro ⟨x,hx,q1,q2,q3,q4⟩;rcases List.mem_append.1 hx with hx | hx
    ·exact .inl ⟨x,hx,q1,q2,q3,q4⟩
    ·simp at hx;subst hx;exact .inr (by simp [q4])
  ·rw [EV e,h.mem]
   constructor
   ·rintro ⟨x,hx,r⟩;exact ⟨x,List.mem_append_left _ hx,r⟩
   ·rintro ⟨x,hx,q1,q2,q3,q4⟩;rcases List.mem_append.1 hx with hx | hx
    ·exact ⟨x,hx,q1,q2,q3,q4⟩
    ·simp at hx;subst hx;exact absurd q3.symm e
 ·have h3:=h.len i
  by_cases e:i=idx w l.f
  ·rw [e,Di];rw [e] at h3;simp;exact h3
  ·rw [EV e];simp;omega
theorem DP.fin {w:Ws} {acc:List Lw} {L:Nat ->List Nat} (h:DP w acc L) (hw:B1 w) (hp:acc.Perm w.K) (i:Nat):Gh (L i)=depL w i:=by
 refine JH (NP _) (Ff w i) fun k=>?_;rw [SG,h.mem,CK hw];unfold Dep
 constructor
 ·rintro ⟨l,hl,h1,h2,h3,h4⟩;exact ⟨by rw [←h3,←h4];exact h2,l,hp.mem_iff.1 hl,h1,h3,h4⟩
 ·rintro ⟨hne,l,hl,h1,h3,h4⟩;exact ⟨l,hp.mem_iff.2 hl,h1,by rw [h3,h4];exact hne,h3,h4⟩
def NV (L:Nat ->List Nat) (i:Nat):Nat ->List Nat:=fun j=>if j<i then Gh (L j) else L j
theorem SM (L:Nat ->List Nat):NV L 0=L:=by funext c;unfold NV;rw [if_neg (by omega)]
theorem Lq (L:Nat ->List Nat) (i:Nat):NV L i i=L i:=by unfold NV;rw [if_neg (by omega)]
theorem Jj (L:Nat ->List Nat) (i:Nat):Ap (NV L i) i (Gh (L i))=NV L (i+1):=by
 funext c
 by_cases e:c=i
 ·subst e;rw [Di];unfold NV;rw [if_pos (by omega)]
 ·rw [EV e];unfold NV
  by_cases h:c<i
  ·rw [if_pos h,if_pos (by omega)]
  ·rw [if_neg h,if_neg (by omega)]
theorem cdD_end (n:Nat) (L:Nat ->List Nat):grF n (NV L n)=(List.range n).map fun i=>Gh (L i):=by
 unfold grF;exact List.map_congr_left fun c hc=>by unfold NV;rw [if_pos (List.mem_range.1 hc)]
noncomputable def depG (w:Ws):List (List Nat):=(List.range (parts w).length).map (depL w)
set_option maxHeartbeats 2000000 in
theorem OL {M:MF} {b:Nat} {w:Ws} (h:Bg M b w) (hw:B1 w) (hK:w.K.length≤1000000) {O:List (St×Nat)} (hO:∀x∈w.R,CJ O x 0=idx w x) {M7:MF} {x7:Nat} {bs7:Option (List Nat×Nat)} (h7:M7 x7=some (.map bs7 (Ae AU natD O))):
  AQ Tryz.prog 51 [.d (pD b 0),.d (CT (parts w)),.d (mD x7)] [(40,[.multi M]),(7,[.multi M7])] fun r H'=>r= .d (grD (depG w))∧H'=[(40,[.multi M]),(7,[.multi M7])]:=by
 obtain ⟨m,E,lk,hr,hl⟩:=h;have hperm:=hl.perm hw;have hfew:=hw.few;have hbm:b≠m:=fun e=>by subst e;have:=hr.cell;rw [hr.top] at this;cases this
 have hpm:∀p∈E,p.2≠m:=fun p hp e=>hr.ne (by rw [←e];exact List.mem_map_of_mem hp)
 obtain ⟨n,hn⟩:∃n,(parts w).length=n:=⟨_,rfl⟩
 have hnR:n≤4096:=by rw [←hn];unfold parts;rw [List.length_map];exact Nat.le_trans (List.length_filter_le _ _) hfew
 refine CP Tryz.func51 Z Z Tryz.ntmps51 Z Z Z fun F hF=>(AE (AH (AD Z Z (AF (AE (AH (AC Z Z ?_)))))));refine J (Bs rfl ((List.length_map ..).trans hn) Tryz.underlying74 rfl) (U (Fy 20 sl97 Z Z Z (by omega) zd52 Z Z Z Z) (AD Z Z (AF (AE (AE (Hz 20 0 (rowH n (fun _=>none) (fun _=> [])) rfl (by rw [C9,List.length_replicate]) (Mn n) ⟨Oc _,HF _ _ _⟩ rfl (EB 50 Z Z Z (C4 40 m rfl hr.top (fun _ _=>rfl) fun B c hB hBn=>?_))))))))
 obtain ⟨M1,hM1⟩:∃M1,BU M m (.map (some (B,c)) (DI E))=M1:=⟨_,rfl⟩
 rw [hM1];have h1b:M1 b=some (.cells 67 [mD m]):=by rw [←hM1,ER hbm];exact hr.cell
 have h1m:M1 m=some (.map (some (B,c)) (DI E)):=by rw [←hM1,D9]
 have h1s:∀p∈E,M1 p.2=some (.map none (DJ (lk p.2))):=fun p hp=>by rw [←hM1,ER (hpm p hp)];exact hr.sub p hp
 refine AH (AC Z Z ?_)
 first | refine J (GP Z Z) ?_ | refine J (GR Z Z) ?_ | refine J (GQ Z Z) ?_ | refine J (GS Z Z) ?_
 first | refine J (A2 rfl Ac Z Z Z) ?_ | refine J (A4 rfl Ac Z Z Z) ?_ | refine J (A5 rfl Ac Z Z Z) ?_ | refine J (A3 rfl Ac Z Z Z) ?_ | refine J (A1 rfl Ac Z Z Z) ?_
 refine J (Gi (f:=40) Z Z (h1b) rfl CB rfl) (U (CV 21 (f:=40) Z Z (h1m) rfl Cc Z Z Z Z) (AF (BH (Db (α:=List Nat×List Lw×(Nat ->Hd)×(Nat ->List Nat)×MF) (fun q=>⟨81,[(0,.d (pD b 0)),(2,.d (mD x7)),(7,(.own 20 0 n)),(19,(.ptr 21 0 0))],[(20,[.rowD 52 1 (rowH n q.2.2.1 q.2.2.2.1)]),(21,[.iter 40 m c q.1]),(40,[.multi M1]),(7,[.multi M7]),(50,[.multi q.2.2.2.2])]⟩) (fun q=>(q.2.1++(Bi (eE E) B q.1).flatMap (Cr lk)).Perm ((eE E).flatMap (Cr lk))∧Fv q.2.2.2.2 n q.2.2.1 q.2.2.2.1∧DP w q.2.1 q.2.2.2.1) (fun q=>(Bi (eE E) B q.1).length) (([],[],(fun _=>none),(fun _=> []),fun _=>none)) (⟨by show ([]++(Bi (eE E) B []).flatMap _).Perm _;rw [CZ (by simpa [Ae] using hB)];exact List.Perm.refl _,Fv.zero n,DP.zero w⟩) (At hF [20,21,40,7,50] Z Z ⟨rfl,rfl,rfl,rfl,trivial⟩) ?_))));rintro ⟨seen,acc,hs,L,M5⟩ ⟨hP,hN,hA⟩;dsimp only at hP hN hA⊢;refine AE (AH (Dv (eE E) Z Z Z (h1m) rfl (fun hl20=>?_) (fun j20 b20 k20 v20 hm20 hb20 hB20 hp20=>⟨_,rfl,?_⟩)))
 ·rw [hl20] at hP;refine Cq 40 m rfl h1m rfl ?_;rw [show BU M1 m (.map none (DI E))=M by rw [←hM1,SY];exact Es hr.top]
  first | refine J (Bn Z Z Z) ?_ | refine J (Bm Z Z Z) ?_
  refine AF (AE (DM Z Z (C5 (AE (AE ?_)))));have hPK:acc.Perm w.K:=(show acc.Perm _ by simpa using hP).trans hperm;have hLl:∀i,(L i).length≤1048576:=fun i=>Nat.le_trans (hA.len i) (by rw [hPK.length_eq];omega);rw [←SM L] at hN⊢;refine AH (AC Z Z ?_)
  first | refine J (IB rfl Tryz.underlying97 rfl) ?_ | refine J (Bs Z Z Tryz.underlying97 rfl) ?_ | refine J (IE rfl Tryz.underlying97 rfl) ?_ | refine J (IG rfl Tryz.underlying97 rfl) ?_ | refine J (ID rfl Tryz.underlying97 rfl) ?_ | refine J (H4 rfl Tryz.underlying97 rfl) ?_
  refine AC Z Z (AF (BH (Db (α:=Nat×MF×(Nat ->Hd)) (fun q=>⟨81,[(7,(.own 20 0 n)),(61,(.own 20 0 n)),(62,(.d (natD n))),(63,(.d (natD q.1)))],[(20,[.rowD 52 1 (rowH n q.2.2 (NV L q.1))]),(40,[.multi M]),(7,[.multi M7]),(50,[.multi q.2.1])]⟩) (fun q=>q.1≤n∧Fv q.2.1 n q.2.2 (NV L q.1)) (fun q=>n - q.1) ((0,M5,hs)) (⟨Nat.zero_le _,hN⟩) (At hF [20,40,7,50] Z Z ⟨rfl,rfl,rfl,rfl,trivial⟩) ?_)));rintro ⟨i,M6,hs⟩ ⟨hi,hr6⟩;dsimp only at hi hr6⊢;refine AE (AH ?_)
  first | refine J (D3 Z Z Z) ?_ | refine J (D4 Z Z Z) ?_
  refine AF (AE ?_)
  first | refine Az rfl (fun h64=>?_) (fun h64=>?_) | refine Aw rfl (fun h64=>?_) (fun h64=>?_)
  ·refine Ai (AE (BH (AE ?_)));have hic:i<n:=F1 h64;have hat:=hr6.at_ i hic;have hcl2:=hLl i;rw [Lq] at hat;have hget:=F6 (hs:=hs) (ls:=NV L i) hic;rw [Lq] at hget;refine AH (AC Z Z (AD Z Z (AF (AE (AH (AC Z Z (AC Z Z ?_)))))))
   first | refine J (BE (i) Z Z (rfl) (hic) Tryz.underlying97 rfl Bv rfl) ?_ | refine J (BF (i) Z Z (rfl) (hic) rfl Tryz.underlying97 Bv rfl) ?_
   first | refine J (AZ Z Z Av rfl) ?_ | refine J (AX Z Z Z Av rfl) ?_ | refine J (AY Z Z (hget) rfl Av rfl) ?_
   rcases hd_two (hs i) with hh | ⟨b1,c1,hh⟩<;>rw [hh] at hat hget⊢
   ·refine U (PK Rd Z Z Z) (AF (AH ?_));have h0:L i=[]:=List.map_eq_nil_iff.1 hat;have hcst:NV L i=NV L (i+1):=by rw [←Jj,h0,SF];exact (Dk (by rw [Lq,h0])).symm
    refine AC Z Z (AC Z Z (AC Z Z (AC Z Z ?_)))
    first | refine J (BE (i) Z Z (rfl) (hic) Tryz.underlying97 rfl Bv rfl) ?_ | refine J (BF (i) Z Z (rfl) (hic) rfl Tryz.underlying97 Bv rfl) ?_
    first | refine J (AZ Z Z Av rfl) ?_ | refine J (AX Z Z Z Av rfl) ?_ | refine J (AY Z Z (hget) rfl Av rfl) ?_
    refine U (Fn QA rfl [] trivial Z Z Z Z Z Z Z Z Z) ?_
    first | refine J (BE (i) Z Z (rfl) (hic) Tryz.underlying97 rfl Bv rfl) ?_ | refine J (BF (i) Z Z (rfl) (hic) rfl Tryz.underlying97 Bv rfl) ?_
    refine U (Zcj Z Z Z Z Z (by rw [C9];exact hic) (Gu (h:=none) (l:=[])) rfl Bv) (AF (AH (J (CG Z Z (IntWalk.i64_in _ (by omega)) rfl) (AC Z Z (AF ?_)))));exact ⟨(i+1,M6,hs),⟨hic,by rw [←hcst];exact hr6⟩,by show n - (i+1)<n - i;omega,At hF [20,40,7,50] rfl (by rw [Dk hh,Dk (show NV L i i=[] by rw [Lq,h0]),hcst];rfl) ⟨rfl,rfl,rfl,rfl,trivial⟩⟩
   ·refine U (PJ (f:=50) Rd ((L i).map Int.ofNat) (by rw [List.length_map];omega) Z Z Z hat.2 (ofN_map _) (by rw [List.length_map]) Z Z) (AF (AH ?_));have hrc:(L i).length≤c1:=by have:=hat.1;rwa [List.length_map] at this
    have hcp:=(OP hrc hcl2 M6 b1).by [(40,50)] rfl;rw [KV];refine AC Z Z (AC Z Z (AC Z Z (AC Z Z ?_)))
    first | refine J (BE (i) Z Z (rfl) (hic) Tryz.underlying97 rfl Bv rfl) ?_ | refine J (BF (i) Z Z (rfl) (hic) rfl Tryz.underlying97 Bv rfl) ?_
    first | refine J (AZ Z Z Av rfl) ?_ | refine J (AX Z Z Z Av rfl) ?_ | refine J (AY Z Z (hget) rfl Av rfl) ?_
    refine U (Fn hcp rfl [50] ⟨rfl,trivial⟩ Z Z Z Z Z Z Z Z Z) ?_
    first | refine J (BE (i) Z Z (rfl) (hic) Tryz.underlying97 rfl Bv rfl) ?_ | refine J (BF (i) Z Z (rfl) (hic) rfl Tryz.underlying97 Bv rfl) ?_
    refine U (Zcj Z Z Z Z Z (by rw [C9];exact hic) (Gu (h:=some (b1,c1)) (l:=Gh (L i))) rfl Bv) (AF (AH (J (CG Z Z (IntWalk.i64_in _ (by omega)) rfl) (AC Z Z (AF ?_)))));exact ⟨(i+1,BU M6 b1 (.row 3 1 c1 ((Gh (L i)).map natD)),hs),⟨hic,by have:=hr6.put hic hh (Nat.le_trans (cptS_le _) hrc);rw [Jj] at this;exact this⟩,by show n - (i+1)<n - i;omega,At hF [20,40,7,50] rfl (by rw [Dk hh,Jj,SY];rfl) ⟨rfl,rfl,rfl,rfl,trivial⟩⟩
  ·refine C5 (AE ?_);have hin:i=n:=by have:=h64;omega
   subst hin;have hdg:grF i (NV L i)=depG w:=by rw [cdD_end];unfold depG;rw [hn];exact List.map_congr_left fun j _=>hA.fin hw hPK j
   refine OV 20 0 50 ((depG w).map natsD) Z Z Z Z Z (by rw [←hdg,List.length_map,GI,C9]) (by rw [←hdg];exact hr6.melt) ⟨HF _ _ _,RI _⟩ rfl (OY (emb:=natsD) 7 20 (depG w) Z Z Z (by rw [←hdg,GI]) Z Z Z (AH (AC Z Z (AD Z Z (AF (Aq ?_))))));exact ⟨_,[40,7],_,An rfl,rfl,rfl,rfl,rfl⟩
 ·first | refine J (Bn Z Z Z) ?_ | refine J (Bm Z Z Z) ?_
  refine AF (AE (IH Z Z (Ai (BH (AE (AH (J (CX (eE E) j20 b20 Z Z Z (h1m) hm20 hb20 rfl) ?_)))))))
  first | refine J (Bn Z Z Z) ?_ | refine J (Bm Z Z Z) ?_
  first | refine J (Bn Z Z Z) ?_ | refine J (Bm Z Z Z) ?_
  refine AD Z Z (AD Z Z (AF (AE ?_)));obtain ⟨hd,hpe,hve⟩:=HQ hm20;subst hve;have hkR:k20∈w.R:=(hl.ks k20).1 (List.mem_map_of_mem (f:=Prod.fst) hpe);refine C4 40 hd rfl (h1s _ hpe) (fun _ _=>rfl) fun B2 c2 hB2 hBn2=>?_
  obtain ⟨M2,hM2⟩:∃M2,BU M1 hd (.map (some (B2,c2)) (DJ (lk hd)))=M2:=⟨_,rfl⟩
  rw [hM2];have h2h:M2 hd=some (.map (some (B2,c2)) (DJ (lk hd))):=by rw [←hM2,D9]
  refine AH (AC Z Z (U (CV 22 (f:=40) Z Z (h2h) rfl G8 Z Z Z Z) (AF (BH (Db (α:=List Nat×List Lw×(Nat ->Hd)×(Nat ->List Nat)×MF) (fun q=>⟨81,[(0,.d (pD b 0)),(2,.d (mD x7)),(7,(.own 20 0 n)),(8,(.d (AU k20))),(19,(.ptr 21 0 0)),(26,(.ptr 22 0 0))],[(20,[.rowD 52 1 (rowH n q.2.2.1 q.2.2.2.1)]),(21,[.iter 40 m c (seen++ [b20])]),(22,[.iter 40 hd c2 q.1]),(40,[.multi M2]),(7,[.multi M7]),(50,[.multi q.2.2.2.2])]⟩) (fun q=>(q.2.1++((Bi (DL (lk hd)) B2 q.1).map (fun x=>(⟨k20,x.1.t,x.1.r⟩:Lw))++(Bi (eE E) B (seen++ [b20])).flatMap (Cr lk))).Perm ((eE E).flatMap (Cr lk))∧Fv q.2.2.2.2 n q.2.2.1 q.2.2.2.1∧DP w q.2.1 q.2.2.2.1) (fun q=>(Bi (DL (lk hd)) B2 q.1).length) (([],acc,hs,L,M5)) (⟨by show (acc++((Bi (DL (lk hd)) B2 []).map _++_)).Perm _;rw [CZ (by simpa [Ae] using hB2)];exact O8 hP hp20 (IR lk k20 hd),hN,hA⟩) (At hF [20,21,22,40,7,50] Z Z ⟨rfl,rfl,rfl,rfl,rfl,rfl,trivial⟩) ?_)))));rintro ⟨seen2,acc2,hs2,L2,M52⟩ ⟨hP2,hN2,hA2⟩;dsimp only at hP2 hN2 hA2⊢;refine AE (AH (Dv (DL (lk hd)) Z Z Z (h2h) rfl (fun hl27=>?_) (fun j27 b27 k27 v27 hm27 hb27 hB27 hp27=>⟨_,rfl,?_⟩)))
  ·rw [hl27] at hP2;refine Cq 40 hd rfl h2h rfl ?_;rw [show BU M2 hd (.map none (DJ (lk hd)))=M1 by rw [←hM2,SY];exact Es (h1s _ hpe)]
   first | refine J (Bn Z Z Z) ?_ | refine J (Bm Z Z Z) ?_
   refine AF (AE (DM Z Z (C5 ?_)));exact ⟨(seen++ [b20],acc2,hs2,L2,M52),⟨by simpa using hP2,hN2,hA2⟩,by show (Bi (eE E) B (seen++ [b20])).length<(Bi (eE E) B seen).length;rw [hp20.length_eq];exact Nat.lt_succ_self _,At hF [20,21,40,7,50] rfl (rfl) ⟨rfl,rfl,rfl,rfl,trivial⟩⟩
  ·first | refine J (Bn Z Z Z) ?_ | refine J (Bm Z Z Z) ?_
   refine AF (AE (IH Z Z (Ai (BH (AE (AH (J (CX (DL (lk hd)) j27 b27 Z Z Z (h2h) hm27 hb27 rfl) ?_)))))))
   first | refine J (Bn Z Z Z) ?_ | refine J (Bm Z Z Z) ?_
   refine U (HZ 23 Iw Z Z Z Z) (U (Bu Z Z Z Z Z Z Z ME) (AF (AE ?_)));have hlK:(⟨k20,k27.t,k27.r⟩:Lw)∈w.K:=(hl.ls _ hpe k27).1 (Ra hm27);have hrR:k27.r∈w.R:=(hw.lk _ hlK).2.1;have hik:idx w k20<n:=by rw [←hn];exact EI hw hkR
   have hir:idx w k27.r<n:=by rw [←hn];exact EI hw hrR
   refine AH ?_
   first | refine J (A2 rfl Dh Z Z Z) ?_ | refine J (A4 rfl Dh Z Z Z) ?_ | refine J (A5 rfl Dh Z Z Z) ?_ | refine J (A3 rfl Dh Z Z Z) ?_ | refine J (A1 rfl Dh Z Z Z) ?_
   first | refine J (AZ Z Z BV rfl) ?_ | refine J (AX Z Z Z BV rfl) ?_ | refine J (AY Z Z (rfl) rfl BV rfl) ?_
   first | refine J (FW Z Z Z) ?_ | refine J (FV Z Z Z) ?_ | refine J (FL Z Z Z) ?_ | refine J (FO Tryz.underlying3 Z Z Z) ?_ | refine J (FR Tryz.underlying3 Z Z Z) ?_ | refine J (FQ Tryz.underlying3 Z Z) ?_ | refine J (FU Tryz.underlying3 Z Z) ?_ | refine J (FT Tryz.underlying3 Z Z) ?_ | refine J (FP Tryz.underlying3 Z Z Z) ?_ | refine J (fSq Tryz.underlying3 Z Z) ?_
   refine AC Z Z ?_
   first | refine It 34 rfl (fun h34=>?_) (fun h34=>?_) | refine I5 34 rfl (fun h34=>?_) (fun h34=>?_)
   ·refine Aa Z Z Z (AC Z Z (Aa Z Z Z (AC Z Z (Aa Z Z Z (J (HY (f:=7) O k20 0 (idx w k20) Z Z h7 rfl HM EU QM (hO _ hkR) rfl) (Aa Z Z Z (AC Z Z (Aa Z Z Z ?_))))))))
    first | refine J (A2 rfl Bd Z Z Z) ?_ | refine J (A4 rfl Bd Z Z Z) ?_ | refine J (A5 rfl Bd Z Z Z) ?_ | refine J (A3 rfl Bd Z Z Z) ?_ | refine J (A1 rfl Bd Z Z Z) ?_
    refine Aa Z Z Z ?_
    first | refine J (AZ Z Z AR rfl) ?_ | refine J (AX Z Z Z AR rfl) ?_ | refine J (AY Z Z (rfl) rfl AR rfl) ?_
    refine Aa Z Z Z (J (HY (f:=7) O k27.r 0 (idx w k27.r) Z Z h7 rfl HM EU QM (hO _ hrR) rfl) (Aa Z Z Z ?_))
    first | refine J (I8 Z Z Z) ?_ | refine J (I7 Z Z Z) ?_ | refine J (IF Z Z Z) ?_ | refine J (I2 Tryz.underlying3 Z Z Z) ?_ | refine J (I4 Tryz.underlying3 Z Z Z) ?_ | refine J (st_neqN Tryz.underlying3 Z Z) ?_ | refine J (st_neqPr Tryz.underlying3 Z Z) ?_ | refine J (st_neqMz Tryz.underlying3 Z Z) ?_ | refine J (I3 Tryz.underlying3 Z Z Z) ?_ | refine J (st_neqFN Tryz.underlying3 Z Z) ?_
    refine J (GZ Z Z Z Z) (AF ?_)
    first | refine Az rfl (fun h43=>?_) (fun h43=>?_) | refine Aw rfl (fun h43=>?_) (fun h43=>?_)
    ·have hne:idx w k20≠idx w k27.r:=fun e=>h43 (congrArg Int.ofNat e);have hal:acc2.length≤1000000:=by have h1:=hP2.length_eq;rw [hperm.length_eq,List.length_append] at h1;omega
     have hln:=hA2.len (idx w k20);refine FK [[],[],[],[1,2],[],[],[],[5,6],[4,5,6,7],[4,5,6,7,8],[],[],[11],[10,11,12],[10,11,12,13],[4,5,6,7,8,9,10,11,12,13,14],[0,1,2,3,4,5,6,7,8,9,10,11,12,13,14,15],[0,1,2,3,4,5,6,7,8,9,10,11,12,13,14,15,16]] mixed rfl (D1 ?_)
     first | refine AG [7] [] Z Z (fun _=>AB (A8 Z Z)) ?_ | refine AI [7] Z Z (fun _=>AB (A8 Z Z)) ?_
     first | refine AG [2] [] Z Z (fun _=>AB (A8 Z Z)) ?_ | refine AI [2] Z Z (fun _=>AB (A8 Z Z)) ?_
     first | refine AG [8] [] Z Z (fun _=>AB (A8 Z Z)) ?_ | refine AI [8] Z Z (fun _=>AB (A8 Z Z)) ?_
     refine AG [45,46] [7] Z Z (fun _=>AB (HY (f:=7) O k20 0 (idx w k20) Z Z h7 rfl HM EU QM (hO _ hkR) rfl)) ?_
     first | refine AG [7] [] Z Z (fun _=>AB (A8 Z Z)) ?_ | refine AI [7] Z Z (fun _=>AB (A8 Z Z)) ?_
     first | refine AG [2] [] Z Z (fun _=>AB (A8 Z Z)) ?_ | refine AI [2] Z Z (fun _=>AB (A8 Z Z)) ?_
     first | refine AG [8] [] Z Z (fun _=>AB (A8 Z Z)) ?_ | refine AI [8] Z Z (fun _=>AB (A8 Z Z)) ?_
     refine AG [49,50] [7] Z Z (fun _=>AB (HY (f:=7) O k20 0 (idx w k20) Z Z h7 rfl HM EU QM (hO _ hkR) rfl)) ?_
     first | refine AG [48,51] [20] Z Z (fun _=>AB (BE (idx w k20) Z Z (rfl) (hik) Tryz.underlying97 rfl Bv rfl)) ?_ | refine AG [48,51] [20] Z Z (fun _=>AB (BF (idx w k20) Z Z (rfl) (hik) rfl Tryz.underlying97 Bv rfl)) ?_
     first | refine AG [52] [20] Z Z (fun _=>AB (AZ Z Z Av rfl)) ?_ | refine AG [52] [20] Z Z (fun _=>AB (AX Z Z Z Av rfl)) ?_ | refine AG [52] [20] Z Z (fun _=>AB (AY Z Z (F6 hik) rfl Av rfl)) ?_
     first | refine AG [2] [] Z Z (fun _=>AB (A8 Z Z)) ?_ | refine AI [2] Z Z (fun _=>AB (A8 Z Z)) ?_
     first | refine AG [10] [] Z Z (fun _=>AB (A2 rfl Bd Z Z Z)) ?_ | refine AI [10] Z Z (fun _=>AB (A2 rfl Bd Z Z Z)) ?_ | refine AG [10] [] Z Z (fun _=>AB (A4 rfl Bd Z Z Z)) ?_ | refine AI [10] Z Z (fun _=>AB (A4 rfl Bd Z Z Z)) ?_ | refine AG [10] [] Z Z (fun _=>AB (A5 rfl Bd Z Z Z)) ?_ | refine AI [10] Z Z (fun _=>AB (A5 rfl Bd Z Z Z)) ?_ | refine AG [10] [] Z Z (fun _=>AB (A3 rfl Bd Z Z Z)) ?_ | refine AI [10] Z Z (fun _=>AB (A3 rfl Bd Z Z Z)) ?_ | refine AG [10] [] Z Z (fun _=>AB (A1 rfl Bd Z Z Z)) ?_ | refine AI [10] Z Z (fun _=>AB (A1 rfl Bd Z Z Z)) ?_
     first | refine AG [55] [23] Z Z (fun _=>AB (AZ Z Z AR rfl)) ?_ | refine AG [55] [23] Z Z (fun _=>AB (AX Z Z Z AR rfl)) ?_ | refine AG [55] [23] Z Z (fun _=>AB (AY Z Z (rfl) rfl AR rfl)) ?_
     refine AG [54,56] [7] Z Z (fun _=>AB (HY (f:=7) O k27.r 0 (idx w k27.r) Z Z h7 rfl HM EU QM (hO _ hrR) rfl)) (Bo [57] [24] [(58,_)] Z Z (fun _=>I1 (Fq 24 Dc Z Z Z Z Z Z Z Z)) (.inr ⟨58,_,rfl,rfl,rfl,rfl,rfl⟩) Z Z Z Z Z (Bo [53,58] [50,24,60] [(59,_)] Z Z (fun _=>I1 (Gr 53 60 50 (hN2.at_ (idx w k20) hik) Z Z (by rw [List.length_map]) Z Z Z Z Z (IC (emb:=natD) (L2 (idx w k20)) [idx w k27.r] Z Z Z Z Z Z Z Z Dc (by show ((L2 (idx w k20)).length+1)*8≤_;omega) Z Z Z Z))) (.inr ⟨59,_,rfl,rfl,rfl,rfl,rfl⟩) Z Z Z Z Z (D2 16 Z Z Z (BY 17 Z Z (Ea 59 60 50 hF Z Z Z (by rw [List.length_map]) (by simp) Z Z Z Z Z Z Z (fun _ _=>rfl) fun b1 c1 hb1 hc1=>?_)))));have hN3:=hN2.app hik hb1 hc1
     first | refine J (BE (idx w k20) Z Z (rfl) (hik) Tryz.underlying97 rfl Bv rfl) ?_ | refine J (BF (idx w k20) Z Z (rfl) (hik) rfl Tryz.underlying97 Bv rfl) ?_
     refine AF ⟨rfl,?_⟩;refine BY 18 Z Z (U (Zcj Z Z Z Z Z (by rw [C9];exact hik) (Gu (h:=some (b1,c1))) rfl Bv) (AF ⟨rfl,?_⟩));refine Eg ?_;exact ⟨(seen2++ [b27],acc2++ [⟨k20,k27.t,k27.r⟩],Ap hs2 (idx w k20) (some (b1,c1)),_,_),⟨Gz hP2 hp27,hN3,hA2.hit (l:=⟨k20,k27.t,k27.r⟩) h34 hne⟩,by show (Bi (DL (lk hd)) B2 (seen2++ [b27])).length<(Bi (DL (lk hd)) B2 seen2).length;rw [hp27.length_eq];exact Nat.lt_succ_self _,At hF [20,21,22,40,7,50] rfl (rfl) ⟨rfl,rfl,rfl,rfl,rfl,rfl,trivial⟩⟩
    ·refine Ai ?_;exact ⟨(seen2++ [b27],acc2++ [⟨k20,k27.t,k27.r⟩],hs2,L2,M52),⟨Gz hP2 hp27,hN2,hA2.skip (l:=⟨k20,k27.t,k27.r⟩) (fun hh=>h43 (fun e=>hh.2 (Int.ofNat.inj e)))⟩,by show (Bi (DL (lk hd)) B2 (seen2++ [b27])).length<(Bi (DL (lk hd)) B2 seen2).length;rw [hp27.length_eq];exact Nat.lt_succ_self _,At hF [20,21,22,40,7,50] rfl (rfl) ⟨rfl,rfl,rfl,rfl,rfl,rfl,trivial⟩⟩
   ·refine BA Z Z Z Z (BA Z Z Z Z (BA Z Z Z Z ?_));refine BA Z Z Z Z (BA Z Z Z Z (BA Z Z Z Z (BA Z Z Z Z (BA Z Z Z Z (J (Fo Z Z Z Z) (AF (DM Z Z (Ai ?_))))))));exact ⟨(seen2++ [b27],acc2++ [⟨k20,k27.t,k27.r⟩],hs2,L2,M52),⟨Gz hP2 hp27,hN2,hA2.skip (l:=⟨k20,k27.t,k27.r⟩) (fun hh=>h34 hh.1)⟩,by show (Bi (DL (lk hd)) B2 (seen2++ [b27])).length<(Bi (DL (lk hd)) B2 seen2).length;rw [hp27.length_eq];exact Nat.lt_succ_self _,At hF [20,21,22,40,7,50] rfl (rfl) ⟨rfl,rfl,rfl,rfl,rfl,rfl,trivial⟩⟩
abbrev KI (g:Grp):D:= .agg [stsD g.m,natsD g.a]
abbrev Ip (l:List Grp):D:= .sl none (l.map KI)
def DQ (ord:List Nat) (i:Nat):Int:=if i∈ord then (ord.idxOf i:Int) else -1
theorem HH {ord:List Nat} {i:Nat}:DQ ord i<0↔i∉ord:=by
 unfold DQ
 split
 ·rename_i h;simp [h]
 ·rename_i h;simp [h]
theorem RP:DQ []=fun _=> -1:=by funext i;simp [DQ]
theorem Pm {ord:List Nat} {i:Nat} (h:i∉ord):Ap (DQ ord) i (ord.length:Int)=DQ (ord++ [i]):=by
 funext j
 unfold DQ Ap;show (if j=i then (ord.length:Int) else (if j∈ord then (ord.idxOf j:Int) else -1))=if j∈ord++ [i] then ((ord++ [i]).idxOf j:Int) else -1
 by_cases e:j=i
 ·subst e;rw [if_pos rfl,if_pos (by simp),List.idxOf_append,if_neg h]
  simp
 ·rw [if_neg e]
  by_cases hj:j∈ord
  ·rw [if_pos hj,if_pos (by simp [hj]),List.idxOf_append,if_pos hj]
  ·rw [if_neg hj,if_neg (by simp [hj,e])]
theorem Kp (w:Ws) (ord:List Nat) (i:Nat):grpS w (ord++ [i])=grpS w ord++ [⟨(parts w).getD i [],FN (depL w) ord i ord.length⟩]:=by
 unfold grpS;rw [List.length_append,List.length_singleton,List.range_succ,List.map_append]
 have hg:∀k,k<ord.length ->(ord++ [i]).getD k 0=ord.getD k 0:=fun k hk=>by
  rw [List.getD_eq_getElem?_getD,List.getD_eq_getElem?_getD,List.getElem?_append_left hk]
 have ha:∀j p,p≤ord.length ->FN (depL w) (ord++ [i]) j p=FN (depL w) ord j p:=fun j p hp=>by
  unfold FN;exact List.filter_congr fun k hk=>by rw [hg k (by have:=List.mem_range.1 hk;omega)]
 congr 1
 ·refine List.map_congr_left fun p hp=>?_;have hp:=List.mem_range.1 hp;rw [hg p hp,ha _ p (Nat.le_of_lt hp)]
 ·simp only [List.map_cons,List.map_nil];have:(ord++ [i]).getD ord.length 0=i:=by simp [List.getD_eq_getElem?_getD]
  rw [this,ha _ _ (Nat.le_refl _)]
theorem PU {l m:List Nat} (h:l.Nodup) (hm:m.Pairwise (· < ·)) (he:∀x,x∈l↔x∈m):Cu l=m:=by
 have h1:=(Ej l).nodup_iff.2 h;refine JH ?_ hm fun x=>((Ej l).mem_iff).trans (he x);exact (List.Pairwise.and (Gs l) h1).imp fun ⟨h2,h3⟩=>by omega
theorem NY {w:Ws} {ord:List Nat} {i:Nat} (hnd:ord.Nodup) (hd:∀k∈depL w i,k∈ord):Cu ((depL w i).map ord.idxOf)=FN (depL w) ord i ord.length:=by
 have hat:∀k∈ord,ord[ord.idxOf k]? =some k:=fun k hk=>by
  have hlt:=List.idxOf_lt_length_iff.2 hk;rw [List.getElem?_eq_getElem hlt,List.getElem_idxOf hlt]
 refine PU ?_ (List.Pairwise.sublist List.filter_sublist List.pairwise_lt_range) fun p=>?_
 ·rw [List.nodup_iff_pairwise_ne,List.pairwise_map];refine List.Pairwise.imp_of_mem (fun {a b} ha hb hab e=>?_) (Ff w i);have h1:=hat a (hd a ha);rw [e,hat b (hd b hb)] at h1;injection h1 with h1
  omega
 ·unfold FN;rw [List.mem_map,List.mem_filter,List.mem_range,List.contains_iff_mem]
  constructor
  ·rintro ⟨k,hk,rfl⟩;have h1:=hat k (hd k hk);refine ⟨(List.getElem?_eq_some_iff.1 h1).1,?_⟩;rw [List.getD_eq_getElem?_getD,h1];exact hk
  ·rintro ⟨hp,hk⟩;refine ⟨_,hk,?_⟩;have h2:ord[p]? =some (ord.getD p 0):=by rw [List.getD_eq_getElem?_getD,List.getElem?_eq_getElem hp];rfl
   have h3:=hat _ (hd _ hk);have hn:=List.nodup_iff_pairwise_ne.1 hnd;have hlt:=(List.getElem?_eq_some_iff.1 h3).1;refine Classical.byContradiction fun hne=>?_;have e1:=(List.getElem?_eq_some_iff.1 h3).2;have e2:=(List.getElem?_eq_some_iff.1 h2).2;rcases Nat.lt_or_gt_of_ne hne with h4 | h4
   ·exact (List.pairwise_iff_getElem.1 hn _ _ hlt hp h4) (e1.trans e2.symm)
   ·exact (List.pairwise_iff_getElem.1 hn _ _ hp hlt h4) (e2.trans e1.symm)
abbrev HN (n:Nat) (f:Nat ->Int):Hp:=[(930,[.blk 52 [.own 931 0 n]]),(931,[.rowD 3 1 (MS n f)])]
theorem ord1_c (n:Nat) (f:Nat ->Int) (k:Nat) (hk:k<n):AQ Tryz.prog 53 [.d (natD k),.ptr 930 0 0] (HN n f) fun r H'=>r= .d (Ad (decide (f k<0)))∧H'=HN n f:=by
 refine CP Tryz.func53 Z Z Tryz.ntmps53 Z Z Z fun F hF=>(AE (AH (AD Z Z (AF (AE (AH ?_))))))
 first | refine J (AZ Z Z Av rfl) ?_ | refine J (AX Z Z Z Av rfl) ?_ | refine J (AY Z Z (rfl) rfl Av rfl) ?_
 refine AC Z Z ?_
 first | refine J (BE (k) Z Z (rfl) (hk) Tryz.underlying52 rfl Dn rfl) ?_ | refine J (BF (k) Z Z (rfl) (hk) rfl Tryz.underlying52 Dn rfl) ?_
 first | refine J (AZ Z Z BV rfl) ?_ | refine J (AX Z Z Z BV rfl) ?_ | refine J (AY Z Z (JL hk) rfl BV rfl) ?_
 first | refine J (D3 Z Z Z) ?_ | refine J (D4 Z Z Z) ?_
 refine AD Z Z (AF (Aq ?_));exact ⟨_,[930,931],_,An rfl,rfl,rfl,rfl,rfl⟩
def ixN (f:Nat ->Int) (l:List Nat):Int:=match l.findIdx? (fun k=>decide (f k<0)) with
 | some i=>(i:Int)
 | none=> -1
theorem ixN_at {f:Nat ->Int} {l:List Nat} {j:Nat} (hj:j<l.length) (h0:∀i,i<j ->¬f (CO l i)<0) (h:f (CO l j)<0):ixN f l=(j:Int):=by
 have:l.findIdx? (fun k=>decide (f k<0))=some j:=by
  rw [List.findIdx?_eq_some_iff_getElem];refine ⟨hj,by rw [←Cb hj];simpa using h,fun i hi=>?_⟩;have:=h0 i hi;rw [Cb (by omega)] at this
  simpa using this
 unfold ixN;rw [this]
theorem ixN_no {f:Nat ->Int} {l:List Nat} (h0:∀i,i<l.length ->¬f (CO l i)<0):ixN f l= -1:=by
 have:l.findIdx? (fun k=>decide (f k<0))=none:=by
  rw [List.findIdx?_eq_none_iff];intro x hx;obtain ⟨i,hi,rfl⟩:=List.getElem_of_mem hx;have:=h0 i hi;rw [Cb hi] at this
  simpa using this
 unfold ixN;rw [this]
abbrev o1A:AV:= .fn 53 [.ptr 930 0 0]
theorem idxF_c (n:Nat) (f:Nat ->Int) (l:List Nat) (hl:∀k∈l,k<n) (hll:l.length≤1000000):AQ Tryz.prog 64 [.d (natsD l),o1A] (HN n f) fun r H'=>r= .d (B7 (ixN f l))∧H'=HN n f:=by
 refine CP Tryz.func64 Z Z Tryz.ntmps64 Z Z Z fun F hF=>(AE (AH (AD Z Z (AF ?_))));refine AE (AE (AH (AC Z Z (J (Bs rfl (List.length_map ..) Tryz.underlying52 rfl) (AC Z Z (AF (BH (Ls (α:=Nat) (fun j=>⟨19,[(0,.d (natsD l)),(1,o1A),(7,(.d (natD l.length))),(8,(.d (natD j)))],HN n f⟩) (fun j=>j≤l.length∧∀i,i<j ->¬f (CO l i)<0) (fun j=>l.length - j) (0) (⟨Nat.zero_le _,fun i hi=>by omega⟩) (Ec ⟨rfl,rfl,rfl,rfl,trivial⟩) ?_))))))));rintro j ⟨hj,h0⟩;refine AE (AH ?_)
 first | refine J (D3 Z Z Z) ?_ | refine J (D4 Z Z Z) ?_
 refine AF (AE ?_)
 first | refine Az rfl (fun h9=>?_) (fun h9=>?_) | refine Aw rfl (fun h9=>?_) (fun h9=>?_)
 ·have hjl:j<l.length:=F1 h9;refine Ai (AE (BH (AE ?_)));refine AH (AC Z Z (AD Z Z (AF (AE (AH (AC Z Z (AC Z Z (AC Z Z ?_))))))))
  first | refine J (BE (j) Z Z (rfl) (Fc hjl) Tryz.underlying52 rfl Dn rfl) ?_ | refine J (BF (j) Z Z (rfl) (Fc hjl) rfl Tryz.underlying52 Dn rfl) ?_
  first | refine J (AZ Z Z BV rfl) ?_ | refine J (AX Z Z Z BV rfl) ?_ | refine J (AY Z Z (rfl) rfl BV rfl) ?_
  refine U (PQ (ord1_c n f (CO l j) (hl _ (Er hjl))) rfl [930,931] ⟨rfl,rfl,trivial⟩ Z Z Z Z Z Z Z Z Z) (AF ?_)
  first | refine Az rfl (fun h16=>?_) (fun h16=>?_) | refine Aw rfl (fun h16=>?_) (fun h16=>?_)
  ·refine AE (AH (AC Z Z (AD Z Z (AF (Aq ?_)))));exact ⟨_,[930,931],_,An rfl,rfl,rfl,by rw [ixN_at hjl h0 h16],rfl⟩
  ·refine Ai (AH (J (CG Z Z (IntWalk.i64_in _ (by omega)) rfl) (AC Z Z (AF ?_))));exact ⟨j+1,⟨hjl,fun i hi=>by by_cases e:i=j;subst e;exact h16;exact h0 i (by omega)⟩,by show l.length - (j+1)<l.length - j;omega,⟨rfl,rfl,fun _ _=>Has.get (l:=[(0,_),(1,_),(7,_),(8,_)]) ⟨rfl,rfl,rfl,rfl,trivial⟩⟩⟩
 ·refine C5 (AE (AH (AD Z Z (AF (Aq ?_)))));exact ⟨_,[930,931],_,An rfl,rfl,rfl,by rw [ixN_no fun i hi=>h0 i (by have:=h9;omega)],rfl⟩
theorem ixN_any (f:Nat ->Int) (l:List Nat):decide (0≤ixN f l)=decide (∃k∈l,f k<0):=by
 unfold ixN
 cases h:l.findIdx? (fun k=>decide (f k<0)) with
 | some i=>
  obtain ⟨h1,h2,_⟩:=List.findIdx?_eq_some_iff_getElem.1 h;rw [decide_eq_true (show (0:Int)≤(i:Int) by omega),decide_eq_true];exact ⟨_,List.getElem_mem h1,by simpa using h2⟩
 | none=>
  rw [List.findIdx?_eq_none_iff] at h;rw [decide_eq_false (by decide),decide_eq_false];rintro ⟨k,hk,h1⟩;have:=h k hk
  simp at this;omega
theorem contF_c (n:Nat) (f:Nat ->Int) (l:List Nat) (hl:∀k∈l,k<n) (hll:l.length≤1000000):AQ Tryz.prog 52 [.d (natsD l),o1A] (HN n f) fun r H'=>r= .d (Ad (decide (∃k∈l,f k<0)))∧H'=HN n f:=by
 refine CP Tryz.func52 Z Z Tryz.ntmps52 Z Z Z fun F hF=>(AE (AH (AD Z Z (AF ?_))));refine AE (AH (AC Z Z (AC Z Z (U (Fn (idxF_c n f l hl hll) rfl [930,931] ⟨rfl,rfl,trivial⟩ Z Z Z Z Z Z Z Z Z) (J (LL Z Z Z) (AD Z Z (AF (Aq ?_))))))));exact ⟨_,[930,931],_,An rfl,rfl,rfl,by rw [←ixN_any],rfl⟩
theorem Fg (w:Ws):(depG w).length=(parts w).length:=by simp [depG]
theorem NO (w:Ws) (i:Nat):(depL w i).length≤(parts w).length:=by
 unfold depL;exact Nat.le_trans (List.length_filter_le _ _) (Nat.le_of_eq List.length_range)
theorem Iq {w:Ws} {i:Nat} (hi:i<(parts w).length):((depG w).map natsD)[i]? =some (natsD (depL w i)):=by
 rw [List.getElem?_map,depG,List.getElem?_map,List.getElem?_range hi];rfl
theorem I6 {w:Ws} {i:Nat} (hi:i<(parts w).length):((parts w).map stsD)[i]? =some (stsD ((parts w).getD i [])):=by
 rw [List.getElem?_map,List.getElem?_eq_getElem hi,List.getD_eq_getElem?_getD,List.getElem?_eq_getElem hi];rfl
theorem rdy_num {dp:Nat ->List Nat} {ord:List Nat} {i:Nat} (h1:DQ ord i<0) (h2:¬∃k∈dp i,DQ ord k<0):GO dp ord i=true:=
 Ca.2 ⟨HH.1 h1,fun k hk=>Classical.byContradiction fun h=>h2 ⟨k,hk,HH.2 h⟩⟩
theorem Qu {dp:Nat ->List Nat} {ord:List Nat} {i:Nat} (h1:¬DQ ord i<0):GO dp ord i=false:=by
 rw [Bool.eq_false_iff];exact fun h=>h1 (HH.2 (Ca.1 h).1)
theorem Qt {dp:Nat ->List Nat} {ord:List Nat} {i:Nat} (h2:∃k∈dp i,DQ ord k<0):GO dp ord i=false:=by
 rw [Bool.eq_false_iff];intro h;obtain ⟨k,hk,h3⟩:=h2;exact HH.1 h3 ((Ca.1 h).2 k hk)
structure IJ (w:Ws) (ord:List Nat):Prop where
 good:Cg (parts w).length (depL w) ord
 run:Gt (parts w).length (depL w) ((parts w).length - ord.length) ord=ordW w
theorem IJ.zero (w:Ws):IJ w []:=⟨Cg.nil,rfl⟩
theorem IJ.next {w:Ws} {ord:List Nat} (h:IJ w ord) (hl:ord.length<(parts w).length) {i:Nat} (hi:Hj (parts w).length (depL w) ord=some i):IJ w (ord++ [i]):=by
 obtain ⟨h1,h2,h3⟩:=Eb hi;refine ⟨h.good.snoc h1 h2 h3,?_⟩;have hr:=h.run;rw [show (parts w).length - ord.length=((parts w).length - (ord++ [i]).length)+1 by simp;omega] at hr;simp only [Gt,hi] at hr;exact hr
theorem IJ.stop {w:Ws} {ord:List Nat} (h:IJ w ord) (hl:ord.length<(parts w).length) (hi:Hj (parts w).length (depL w) ord=none):ordW w=none:=by
 have hr:=h.run;rw [show (parts w).length - ord.length=((parts w).length - ord.length - 1)+1 by omega] at hr;simp only [Gt,hi] at hr;exact hr.symm
theorem IJ.fin {w:Ws} {ord:List Nat} (h:IJ w ord) (hl:¬ord.length<(parts w).length):ordW w=some ord:=by
 have hr:=h.run;rw [show (parts w).length - ord.length=0 by omega] at hr;exact hr.symm
theorem Ok {w:Ws} (h:ordW w=none):groupsW w=[]∧acyW w=false:=by unfold groupsW acyW;rw [h];exact ⟨rfl,rfl⟩
theorem Ld {w:Ws} {ord:List Nat} (h:ordW w=some ord):groupsW w=grpS w ord∧acyW w=true:=by unfold groupsW acyW;rw [h];exact ⟨rfl,rfl⟩
theorem HU (w:Ws) (ord:List Nat):(grpS w ord).length=ord.length:=by simp [grpS]
theorem upd_neg {f:Nat ->Int} {k j:Nat} (hf:∀j,j<k ->f j= -1) (hj:j<k+1):Ap f k (-1) j= -1:=by
 by_cases e:j=k
 ·rw [e];exact Di ..
 ·rw [EV e];exact hf j (by omega)
set_option maxHeartbeats 2000000 in
theorem HC {M:MF} {b:Nat} {w:Ws} (h:Bg M b w) (hw:B1 w) (hK:w.K.length≤1000000):AQ Tryz.prog 34 [.d (pD b 0)] [(40,[.multi M])] fun r H'=>r= .d (.tup [Ip (groupsW w),Ad (acyW w)])∧H'=[(40,[.multi M])]:=by
 have hfew:=hw.few
 obtain ⟨n,hn⟩:∃n,(parts w).length=n:=⟨_,rfl⟩
 have hnR:n≤4096:=by rw [←hn];unfold parts;rw [List.length_map];exact Nat.le_trans (List.length_filter_le _ _) hfew
 refine CP Tryz.func34 Z Z Tryz.ntmps34 Z Z Z fun F hF=>?_;refine AE (AH (AD Z Z (Mi 2 rfl (AD Z Z (AF (AE (AH (AC Z Z ?_))))))));refine H1 (If (Il h hw hK) rfl [40,6] ⟨rfl,rfl,trivial⟩ Z Z Z Z (fun r H' ⟨O,e1,e2,_⟩=>by subst e1 e2;exact ⟨rfl,rfl,rfl⟩) rfl) rfl ?_;rintro _ ⟨r,H',⟨O,e1,e2,hO⟩,rfl⟩;subst e1 e2;refine AC Z Z ?_
 first | refine J (Bn Z Z Z) ?_ | refine J (Bm Z Z Z) ?_
 first | refine J (Bn Z Z Z) ?_ | refine J (Bm Z Z Z) ?_
 refine AD Z Z (AD Z Z (AF (AE (EB 7 Z Z Z (IA 5 6 7 hF Z Z Z Z Z Z Z Z Z Z (fun _=>rfl) fun x7 _=>?_)))))
 obtain ⟨M7,hM7⟩:∃M7,BU (fun _=>none) x7 (.map (some (List.range O.length,O.length)) (Ae AU natD O))=M7:=⟨_,rfl⟩
 rw [hM7];have h7:M7 x7=some (.map (some (List.range O.length,O.length)) (Ae AU natD O)):=by rw [←hM7,D9]
 refine AH (AC Z Z (AC Z Z (AC Z Z (U (Fn (OL h hw hK hO h7) rfl [40,7] ⟨rfl,rfl,trivial⟩ Z Z Z Z Z Z Z Z Z) (AD Z Z (AF (AE ?_)))))));refine AH (AC Z Z (J (Bs rfl ((List.length_map ..).trans hn) Tryz.underlying74 rfl) (U (Fy 931 Dc Z Z Z (by omega) zd3 Z Z Z Z) (U (HZ 930 zl52 Z Z Z Z) (U (Bu Z Z Z Z Z Z Z Bv) (AF (AE (AE ?_))))))));rw [repI];refine AH ?_
 first | refine J (AZ Z Z Av rfl) ?_ | refine J (AX Z Z Z Av rfl) ?_ | refine J (AY Z Z (rfl) rfl Av rfl) ?_
 first | refine J (IB rfl Tryz.underlying52 rfl) ?_ | refine J (Bs Z Z Tryz.underlying52 rfl) ?_ | refine J (IE rfl Tryz.underlying52 rfl) ?_ | refine J (IG rfl Tryz.underlying52 rfl) ?_ | refine J (ID rfl Tryz.underlying52 rfl) ?_ | refine J (H4 rfl Tryz.underlying52 rfl) ?_
 refine AC Z Z (AF (BH (Db (α:=Nat×(Nat ->Int)) (fun q=>⟨103,[(0,.d (pD b 0)),(4,(.d (CT (parts w)))),(6,(.d (grD (depG w)))),(7,(.ptr 930 0 0)),(29,(.d (natD n))),(30,(.d (natD q.1)))],(40,[.multi M])::HN n q.2⟩) (fun q=>q.1≤n∧∀j,j<q.1 ->q.2 j= -1) (fun q=>n - q.1) ((0,fun _=>0)) (⟨Nat.zero_le _,fun j hj=>by omega⟩) (At hF [40,930,931] Z Z ⟨rfl,rfl,rfl,rfl,rfl,rfl,trivial⟩) ?_)));rintro ⟨k,f⟩ ⟨hk,hf⟩;dsimp only at hk hf⊢;refine AE (AH ?_)
 first | refine J (D3 Z Z Z) ?_ | refine J (D4 Z Z Z) ?_
 refine AF (AE ?_)
 first | refine Az rfl (fun h31=>?_) (fun h31=>?_) | refine Aw rfl (fun h31=>?_) (fun h31=>?_)
 ·refine Ai (AE (BH (AE ?_)));have hkl:k<n:=F1 h31;refine AH (AC Z Z (AD Z Z (AF (AH ?_))))
  first | refine J (AZ Z Z Av rfl) ?_ | refine J (AX Z Z Z Av rfl) ?_ | refine J (AY Z Z (rfl) rfl Av rfl) ?_
  refine AC Z Z ?_
  first | refine J (BE (k) Z Z (rfl) (hkl) Tryz.underlying52 rfl Dn rfl) ?_ | refine J (BF (k) Z Z (rfl) (hkl) rfl Tryz.underlying52 Dn rfl) ?_
  refine U (Zcj Z Z Z Z Z (by rw [MR];exact hkl) MQ rfl Dn) (AF (AH (J (CG Z Z (IntWalk.i64_in _ (by omega)) rfl) (AC Z Z (AF ?_)))));exact ⟨(k+1,Ap f k (-1)),⟨hkl,fun j hj=>upd_neg hf hj⟩,by show n - (k+1)<n - k;omega,At hF [40,930,931] rfl (rfl) ⟨rfl,rfl,rfl,rfl,rfl,rfl,trivial⟩⟩
 ·refine C5 (AE ?_);have hkn:k=n:=by have:=h31;omega
  subst hkn;have hro:MS k f=MS k (DQ []):=by rw [RP];exact List.map_congr_left fun j hj=>by rw [hf j (List.mem_range.1 hj)]
  unfold HN;rw [hro];refine AH (AD Z Z (AF (AE (BH (EC 9 932 sl50 Z Z Z Z (Db (α:=List Nat×List Grp) (fun q=>⟨103,[(0,.d (pD b 0)),(4,(.d (CT (parts w)))),(6,(.d (grD (depG w)))),(7,(.ptr 930 0 0)),(9,(.own 932 0 q.2.length))],(40,[.multi M])::(932,[.rowD 54 2 (q.2.map KI)])::HN k (DQ q.1)⟩) (fun q=>IJ w q.1∧q.2=grpS w q.1) (fun q=>k - q.1.length) (([],[])) (⟨IJ.zero w,rfl⟩) (At hF [40,932,930,931] Z Z ⟨rfl,rfl,rfl,rfl,rfl,trivial⟩) ?_))))));rintro ⟨ord,gs⟩ ⟨hI,hgs⟩;dsimp only at hI hgs⊢;refine AE (AE (AH (AC Z Z ?_)))
  first | refine J (IB rfl Tryz.underlying50 rfl) ?_ | refine J (Bs Z Z Tryz.underlying50 rfl) ?_ | refine J (IE rfl Tryz.underlying50 rfl) ?_ | refine J (IG rfl Tryz.underlying50 rfl) ?_ | refine J (ID rfl Tryz.underlying50 rfl) ?_ | refine J (H4 rfl Tryz.underlying50 rfl) ?_
  refine AC Z Z (J (Bs rfl ((List.length_map ..).trans hn) Tryz.underlying74 rfl) ?_)
  first | refine J (D3 Z Z Z) ?_ | refine J (D4 Z Z Z) ?_
  refine AF ?_
  first | refine Az rfl (fun h41=>?_) (fun h41=>?_) | refine Aw rfl (fun h41=>?_) (fun h41=>?_)
  ·refine Ai (BH (AE ?_));have hgl:gs.length=ord.length:=by rw [hgs,HU]
   have hlt:gs.length<k:=F1 h41;refine AH (AD Z Z (AF ?_));refine AE (AE (AH (AC Z Z (J (Bs rfl ((List.length_map ..).trans hn) Tryz.underlying74 rfl) (AC Z Z (AF (BH (Db (α:=Nat) (fun i=>⟨103,[(0,.d (pD b 0)),(4,(.d (CT (parts w)))),(6,(.d (grD (depG w)))),(7,(.ptr 930 0 0)),(9,(.own 932 0 gs.length)),(10,(.d (B7 (-1)))),(43,(.d (natD k))),(44,(.d (natD i)))],(40,[.multi M])::(932,[.rowD 54 2 (gs.map KI)])::HN k (DQ ord)⟩) (fun i=>i≤k∧∀j,j<i ->GO (depL w) ord j=false) (fun i=>k - i) (0) (⟨Nat.zero_le _,fun j hj=>by omega⟩) (At hF [40,932,930,931] Z Z ⟨rfl,rfl,rfl,rfl,rfl,rfl,rfl,rfl,trivial⟩) ?_))))))));rintro i ⟨hi,hnr⟩;refine AE (AH ?_)
   first | refine J (D3 Z Z Z) ?_ | refine J (D4 Z Z Z) ?_
   refine AF (AE ?_)
   first | refine Az rfl (fun h45=>?_) (fun h45=>?_) | refine Aw rfl (fun h45=>?_) (fun h45=>?_)
   ·refine Ai (AE (BH (AE ?_)));have hil:i<k:=F1 h45;have hil':i<(parts w).length:=by rw [hn];exact hil
    have hdl:(depL w i).length≤4096:=Nat.le_trans (NO w i) (by omega);refine AH (AC Z Z (AD Z Z (AF (AE (AH ?_)))))
    first | refine J (AZ Z Z Av rfl) ?_ | refine J (AX Z Z Z Av rfl) ?_ | refine J (AY Z Z (rfl) rfl Av rfl) ?_
    refine AC Z Z ?_
    first | refine J (BE (i) Z Z (rfl) (hil) Tryz.underlying52 rfl Dn rfl) ?_ | refine J (BF (i) Z Z (rfl) (hil) rfl Tryz.underlying52 Dn rfl) ?_
    first | refine J (AZ Z Z BV rfl) ?_ | refine J (AX Z Z Z BV rfl) ?_ | refine J (AY Z Z (JL hil) rfl BV rfl) ?_
    first | refine J (D3 Z Z Z) ?_ | refine J (D4 Z Z Z) ?_
    refine AC Z Z ?_
    first | refine It 52 rfl (fun h52=>?_) (fun h52=>?_) | refine I5 52 rfl (fun h52=>?_) (fun h52=>?_)
    ·refine Aa Z Z Z (AC Z Z (Aa Z Z Z (AC Z Z (Aa Z Z Z ?_))))
     first | refine J (BE (i) Z Z (rfl) (Iq hil') Tryz.underlying97 rfl Bv rfl) ?_ | refine J (BF (i) Z Z (rfl) (Iq hil') rfl Tryz.underlying97 Bv rfl) ?_
     refine Aa Z Z Z ?_
     first | refine J (AZ Z Z Av rfl) ?_ | refine J (AX Z Z Z Av rfl) ?_ | refine J (AY Z Z (rfl) rfl Av rfl) ?_
     refine Aa Z Z Z (J (Do Z Z) (Aa Z Z Z (U (Fn (contF_c k (DQ ord) (depL w i) (fun x hx=>by rw [←hn];exact GL hx) (by omega)) rfl [930,931] ⟨rfl,rfl,trivial⟩ Z Z Z Z Z Z Z Z Z) (Aa Z Z Z ?_))))
     first | refine J (ET Z Z) ?_ | refine J (EQ Z Z) ?_
     refine J (GZ Z Z Z Z) (AD Z Z (AF (AE (AH (AC Z Z (AF ?_))))))
     first | refine Az rfl (fun h61=>?_) (fun h61=>?_) | refine Aw rfl (fun h61=>?_) (fun h61=>?_)
     ·refine AE ?_;refine AH (AC Z Z (AD Z Z (AF (C5 (AE (AE (AH (AC Z Z ?_))))))))
      first | refine J (D3 Z Z Z) ?_ | refine J (D4 Z Z Z) ?_
      refine AF (DM rfl ((decide_eq_false (by omega))) (Ai (AE ?_)));have hrd:=rdy_num h52 h61;have hnx:Hj (parts w).length (depL w) ord=some i:=Ep hil' hrd hnr;obtain ⟨_,hio,hds⟩:=Eb hnx;refine AH (AC Z Z (AC Z Z ?_))
      first | refine J (BE (i) Z Z (rfl) (I6 hil') Tryz.underlying74 rfl Bw rfl) ?_ | refine J (BF (i) Z Z (rfl) (I6 hil') rfl Tryz.underlying74 Bw rfl) ?_
      first | refine J (AZ Z Z AW rfl) ?_ | refine J (AX Z Z Z AW rfl) ?_ | refine J (AY Z Z (rfl) rfl AW rfl) ?_
      refine J (LE zl54 pl54 Z Z Z) (U (HZ 940 zl54 Z Z Z Z) (U (Bu Z Z Z Z Z Z Z LH) (AF (AE (AE (AH (AC Z Z (AC Z Z ?_))))))))
      first | refine J (BE (i) Z Z (rfl) (Iq hil') Tryz.underlying97 rfl Bv rfl) ?_ | refine J (BF (i) Z Z (rfl) (Iq hil') rfl Tryz.underlying97 Bv rfl) ?_
      first | refine J (AZ Z Z Av rfl) ?_ | refine J (AX Z Z Z Av rfl) ?_ | refine J (AY Z Z (rfl) rfl Av rfl) ?_
      refine J (Bs rfl (List.length_map ..) Tryz.underlying52 rfl) (AC Z Z (AF (BH (DG 940 0 1 933 Dc Z Z Z Z Z Z Z (Db (α:=Nat×List Int) (fun q=>⟨103,[(0,.d (pD b 0)),(4,(.d (CT (parts w)))),(6,(.d (grD (depG w)))),(7,(.ptr 930 0 0)),(9,(.own 932 0 gs.length)),(10,(.d (natD i))),(13,(.ptr 940 0 0)),(74,(.d (natsD (depL w i)))),(75,(.d (natD (depL w i).length))),(76,(.d (natD q.1)))],(40,[.multi M])::(932,[.rowD 54 2 (gs.map KI)])::(940,[.blk 54 [.d (stsD ((parts w).getD i [])),.own 933 0 q.2.length]])::(933,[.rowD 3 1 (q.2.map B7)])::HN k (DQ ord)⟩) (fun q=>q.1≤(depL w i).length∧q.2=((depL w i).take q.1).map (DQ ord)) (fun q=>(depL w i).length - q.1) ((0,[])) (⟨Nat.zero_le _,rfl⟩) (At hF [40,932,940,933,930,931] Z Z ⟨rfl,rfl,rfl,rfl,rfl,rfl,rfl,rfl,rfl,rfl,trivial⟩) ?_)))));rintro ⟨j,acc⟩ ⟨hj,hacc⟩;dsimp only at hj hacc⊢;refine AE (AH ?_)
      first | refine J (D3 Z Z Z) ?_ | refine J (D4 Z Z Z) ?_
      refine AF (AE ?_)
      first | refine Az rfl (fun h77=>?_) (fun h77=>?_) | refine Aw rfl (fun h77=>?_) (fun h77=>?_)
      ·refine Ai (AE (BH (AE ?_)));have hjl:j<(depL w i).length:=F1 h77;have hal:acc.length≤4096:=by rw [hacc,List.length_map,List.length_take];omega
       have hkl2:CO (depL w i) j<k:=by rw [←hn];exact GL (Er hjl)
       refine AH ?_
       first | refine J (BE (j) Z Z (rfl) (Fc hjl) Tryz.underlying52 rfl Dn rfl) ?_ | refine J (BF (j) Z Z (rfl) (Fc hjl) rfl Tryz.underlying52 Dn rfl) ?_
       first | refine J (AZ Z Z BV rfl) ?_ | refine J (AX Z Z Z BV rfl) ?_ | refine J (AY Z Z (rfl) rfl BV rfl) ?_
       refine AD Z Z (AF (FK [[],[0],[],[],[2,3],[2,3,4],[2,3,4,5],[0,1,2,3,4,5,6],[0,1,2,3,4,5,6,7],[0,1,2,3,4,5,6,7,8]] mixed rfl (D1 ?_)))
       first | refine AG [13] [] Z Z (fun _=>AB (A2 rfl Gk Z Z Z)) ?_ | refine AI [13] Z Z (fun _=>AB (A2 rfl Gk Z Z Z)) ?_ | refine AG [13] [] Z Z (fun _=>AB (A4 rfl Gk Z Z Z)) ?_ | refine AI [13] Z Z (fun _=>AB (A4 rfl Gk Z Z Z)) ?_ | refine AG [13] [] Z Z (fun _=>AB (A5 rfl Gk Z Z Z)) ?_ | refine AI [13] Z Z (fun _=>AB (A5 rfl Gk Z Z Z)) ?_ | refine AG [13] [] Z Z (fun _=>AB (A3 rfl Gk Z Z Z)) ?_ | refine AI [13] Z Z (fun _=>AB (A3 rfl Gk Z Z Z)) ?_ | refine AG [13] [] Z Z (fun _=>AB (A1 rfl Gk Z Z Z)) ?_ | refine AI [13] Z Z (fun _=>AB (A1 rfl Gk Z Z Z)) ?_
       first | refine AG [80] [940] Z Z (fun _=>AB (AZ Z Z Av rfl)) ?_ | refine AG [80] [940] Z Z (fun _=>AB (AX Z Z Z Av rfl)) ?_ | refine AG [80] [940] Z Z (fun _=>AB (AY Z Z (rfl) rfl Av rfl)) ?_
       first | refine AG [7] [930] Z Z (fun _=>AB (AZ Z Z Av rfl)) ?_ | refine AG [7] [930] Z Z (fun _=>AB (AX Z Z Z Av rfl)) ?_ | refine AG [7] [930] Z Z (fun _=>AB (AY Z Z (rfl) rfl Av rfl)) ?_
       first | refine AG [15] [] Z Z (fun _=>AB (A8 Z Z)) ?_ | refine AI [15] Z Z (fun _=>AB (A8 Z Z)) ?_
       first | refine AG [82,83] [931] Z Z (fun _=>AB (BE (CO (depL w i) j) Z Z (rfl) (hkl2) Tryz.underlying52 rfl Dn rfl)) ?_ | refine AG [82,83] [931] Z Z (fun _=>AB (BF (CO (depL w i) j) Z Z (rfl) (hkl2) rfl Tryz.underlying52 Dn rfl)) ?_
       first | refine AG [84] [931] Z Z (fun _=>AB (AZ Z Z BV rfl)) ?_ | refine AG [84] [931] Z Z (fun _=>AB (AX Z Z Z BV rfl)) ?_ | refine AG [84] [931] Z Z (fun _=>AB (AY Z Z (JL hkl2) rfl BV rfl)) ?_
       refine Bo [85] [941] [(86,_)] Z Z (fun _=>I1 (Fq 941 Dc Z Z Z Z Z Z Z Z)) (.inr ⟨86,_,rfl,rfl,rfl,rfl,rfl⟩) Z Z Z Z Z (D2 7 Z Z Z (BY 8 Z Z ?_))
       first | refine U (IC (acc) ([DQ ord (CO (depL w i) j)]) Z Z Z Z Z Z Z Z Dc (by simp only [List.length_singleton];omega) Z Z Z Z) ?_ | refine U (Iu (acc) ([DQ ord (CO (depL w i) j)]) Z Z Z Z Z Z (fun _=>rfl) Dc (by simp only [List.length_singleton];omega) Z Z Z Z) ?_
       refine AF ⟨rfl,?_⟩;refine BY 9 Z Z ?_
       first | refine J (A2 rfl Gk Z Z Z) ?_ | refine J (A4 rfl Gk Z Z Z) ?_ | refine J (A5 rfl Gk Z Z Z) ?_ | refine J (A3 rfl Gk Z Z Z) ?_ | refine J (A1 rfl Gk Z Z Z) ?_
       refine AF ⟨rfl,?_⟩;refine BY 10 Z Z (U (Bu Z Z Z Z Z Z Z Bv) (AF ⟨rfl,?_⟩));refine Eg (AH (J (CG Z Z (IntWalk.i64_in _ (by omega)) rfl) (AC Z Z (AF ?_))));exact ⟨(j+1,acc++ [DQ ord (CO (depL w i) j)]),⟨hjl,by show _=((depL w i).take (j+1)).map (DQ ord);rw [List.take_succ_eq_append_getElem hjl,List.map_append,hacc,Cb hjl];rfl⟩,by show (depL w i).length - (j+1)<(depL w i).length - j;omega,At hF [40,932,940,933,930,931] rfl (rfl) ⟨rfl,rfl,rfl,rfl,rfl,rfl,rfl,rfl,rfl,rfl,trivial⟩⟩
      ·refine C5 (AE ?_);have hje:j=(depL w i).length:=by have:=h77;omega
       have hac2:acc=(((depL w i).map ord.idxOf).map Int.ofNat):=by rw [hacc,hje,List.take_length,List.map_map];exact List.map_congr_left fun x hx=>by unfold DQ;rw [if_pos (hds x hx)];rfl
       have hal2:acc.length≤4096:=by rw [hac2,List.length_map,List.length_map];exact hdl
       have hsort:(Dp acc).map zD=(FN (depL w) ord i ord.length).map natD:=by rw [hac2,KV,NY hI.good.nd hds]
       have hsl:(FN (depL w) ord i ord.length).length=acc.length:=by rw [←NY hI.good.nd hds,E4,hac2,List.length_map,List.length_map,List.length_map]
       refine AH ?_
       first | refine J (A2 rfl Gk Z Z Z) ?_ | refine J (A4 rfl Gk Z Z Z) ?_ | refine J (A5 rfl Gk Z Z Z) ?_ | refine J (A3 rfl Gk Z Z Z) ?_ | refine J (A1 rfl Gk Z Z Z) ?_
       first | refine J (AZ Z Z Av rfl) ?_ | refine J (AX Z Z Z Av rfl) ?_ | refine J (AY Z Z (rfl) rfl Av rfl) ?_
       refine U (QX Rd acc (by omega) Z Z Z Z Z Z Z) (AF (AE ?_));rw [hsort];refine C3 (ys:=(FN (depL w) ord i ord.length).map natD) 940 0 1 933 Z Z Z (Nat.le_of_eq (by rw [List.length_map,hsl])) (List.take_of_length_le (by rw [List.length_map,hsl];exact Nat.le_refl _)) Z Z Z Z Z Z (AH ?_)
       first | refine J (AZ Z Z Av rfl) ?_ | refine J (AX Z Z Z Av rfl) ?_ | refine J (AY Z Z (rfl) rfl Av rfl) ?_
       refine AC Z Z (AC Z Z ?_)
       first | refine J (IB rfl Tryz.underlying50 rfl) ?_ | refine J (Bs Z Z Tryz.underlying50 rfl) ?_ | refine J (IE rfl Tryz.underlying50 rfl) ?_ | refine J (IG rfl Tryz.underlying50 rfl) ?_ | refine J (ID rfl Tryz.underlying50 rfl) ?_ | refine J (H4 rfl Tryz.underlying50 rfl) ?_
       first | refine J (BE (i) Z Z (rfl) (hil) Tryz.underlying52 rfl Dn rfl) ?_ | refine J (BF (i) Z Z (rfl) (hil) rfl Tryz.underlying52 Dn rfl) ?_
       refine U (Zcj Z Z Z Z Z (by rw [MR];exact hil) MQ rfl Dn) (AF ?_);rw [show Ap (DQ ord) i (gs.length:Int)=DQ (ord++ [i]) from by rw [hgl];exact Pm hio];refine AH (AC Z Z ?_)
       first | refine J (BN Z Z rw54 rfl) ?_ | refine J (BO Z Z rw54 Z Z Z) ?_ | refine J (BP Z Z (rfl) rfl rw54 rfl) ?_
       refine U (Fq 942 sl50 Z Z Z Z Z Z Z Z) ?_
       first | refine U (IC (gs) ([(⟨(parts w).getD i [],FN (depL w) ord i ord.length⟩:Grp)]) Z Z Z Z Z Z Z Z sl50 (by simp only [List.length_singleton];omega) Z Z Z Z) ?_ | refine U (Iu (gs) ([(⟨(parts w).getD i [],FN (depL w) ord i ord.length⟩:Grp)]) Z Z Z Z Z Z (fun _=>rfl) sl50 (by simp only [List.length_singleton];omega) Z Z Z Z) ?_
       refine AD Z Z (AF ?_);exact ⟨(ord++ [i],gs++ [⟨(parts w).getD i [],FN (depL w) ord i ord.length⟩]),⟨hI.next (by omega) hnx,by show _=grpS w (ord++ [i]);rw [Kp,hgs]⟩,by show k - (ord++ [i]).length<k - ord.length;rw [List.length_append,List.length_singleton];omega,At hF [40,932,930,931] rfl (rfl) ⟨rfl,rfl,rfl,rfl,rfl,trivial⟩⟩
     ·refine Ai (AH (J (CG Z Z (IntWalk.i64_in _ (by omega)) rfl) (AC Z Z (AF ?_))));exact ⟨i+1,⟨hil,fun j hj=>by by_cases e:j=i;subst e;exact Qt (Classical.not_not.1 h61);exact hnr j (by omega)⟩,by show k - (i+1)<k - i;omega,At hF [40,932,930,931] rfl (rfl) ⟨rfl,rfl,rfl,rfl,rfl,rfl,rfl,rfl,trivial⟩⟩
    ·refine BA Z Z Z Z (BA Z Z Z Z ?_);refine BA Z Z Z Z (BA Z Z Z Z (BA Z Z Z Z (BA Z Z Z Z (BA Z Z Z Z (J (Fo Z Z Z Z) (AD Z Z (AF (AE ?_))))))));refine AH (AC Z Z (AF (DM Z Z (Ai (AH (J (CG Z Z (IntWalk.i64_in _ (by omega)) rfl) (AC Z Z (AF ?_))))))));exact ⟨i+1,⟨hil,fun j hj=>by by_cases e:j=i;subst e;exact Qu h52;exact hnr j (by omega)⟩,by show k - (i+1)<k - i;omega,At hF [40,932,930,931] rfl (rfl) ⟨rfl,rfl,rfl,rfl,rfl,rfl,rfl,rfl,trivial⟩⟩
   ·refine C5 (AE (AE (AH (AC Z Z ?_))))
    first | refine J (D3 Z Z Z) ?_ | refine J (D4 Z Z Z) ?_
    refine AF (IH rfl ((by decide)) (AE (AH (AD Z Z (Mi 2 rfl (AD Z Z (AF (Aq ?_))))))));have hno:=hI.stop (by omega) (Mj fun j hj=>hnr j (by omega));obtain ⟨g1,g2⟩:=Ok hno;exact ⟨_,[40],_,An rfl,rfl,rfl,by rw [g1,g2];rfl,rfl⟩
  ·refine C5 (AE ?_);obtain ⟨g1,g2⟩:=Ld (hI.fin (by have h1:=h41;have h2:gs.length=ord.length:=(by rw [hgs,HU]);omega));refine OY (emb:=KI) 9 932 gs Z Z Z Z Z Z Z (AH (AC Z Z (AD Z Z (AD Z Z (AF (Aq ?_))))));exact ⟨_,[40],_,An rfl,rfl,rfl,by rw [g1,g2,hgs],rfl⟩
theorem Hq {w:Ws} {i:Nat} (hi:i<(parts w).length):(parts w)[i]? =some ((parts w).getD i []):=by
 rw [List.getD_eq_getElem?_getD,List.getElem?_eq_getElem hi];rfl
theorem Mt {w:Ws} (hw:B1 w) {i:Nat} (hi:i<(parts w).length) {x:St}:x∈(parts w).getD i []↔x∈w.R∧idx w x=i:=by
 have hg:=Hq hi
 constructor
 ·intro hx;exact ⟨(JS (List.mem_of_getElem? hg) hx).1,OF hw hg hx⟩
 ·rintro ⟨hx,e⟩;have h1:=Hm hw hx;rw [e,hg] at h1;injection h1 with h1
  rw [h1];exact QQ hx
theorem clsP {w:Ws} (hw:B1 w) {a:St} (ha:a∈w.R):(parts w).getD (idx w a) []=cls w a:=by
 rw [List.getD_eq_getElem?_getD,Hm hw ha];rfl
noncomputable def nxG (w:Ws) (back:Bool):List (List Nat):=(List.range (parts w).length).map (nxW w back)
theorem LV {w:Ws} {back:Bool} {i:Nat} (hi:i<(parts w).length):((nxG w back).map natsD)[i]? =some (natsD (nxW w back i)):=by
 rw [List.getElem?_map,nxG,List.getElem?_map,List.getElem?_range hi];rfl
theorem Qi (w:Ws):P1 (depG w)=nxG w true:=by
 unfold P1 nxG grF;rw [Fg];refine List.map_congr_left fun j hj=>?_;unfold revL;rw [Fg]
 have key:∀l:List Nat,(∀a∈l,a<(parts w).length) ->(l.flatMap fun a=>List.replicate ((CF (depG w) a).count j) a)=l.filter fun k=>(depL w k).contains j:=by
  intro l
  induction l with
  | nil=>intro _;rfl
  | cons a r ih=>
   intro hl;rw [List.flatMap_cons,ih fun x hx=>hl x (List.mem_cons_of_mem _ hx)];have hs:CF (depG w) a=depL w a:=NJ (hl a (by simp));have hnd:(depL w a).Nodup:=(Ff w a).imp fun h e=>by omega
   rw [hs]
   by_cases hc:j∈depL w a
   ·rw [List.filter_cons_of_pos (by simpa using hc),hnd.count,if_pos hc];rfl
   ·rw [List.filter_cons_of_neg (by simpa using hc),List.count_eq_zero.2 hc];rfl
 exact key _ fun a ha=>List.mem_range.1 ha
theorem depG_GB {w:Ws} (hw:B1 w):GB (depG w):=by
 have hn:(parts w).length≤4096:=by unfold parts;rw [List.length_map];exact Nat.le_trans (List.length_filter_le _ _) hw.few
 refine ⟨by rw [Fg];omega,fun l hl=>?_,fun l hl x hx=>?_⟩
 ·obtain ⟨i,_,rfl⟩:=List.mem_map.1 hl;have:=NO w i;omega
 ·obtain ⟨i,_,rfl⟩:=List.mem_map.1 hl;rw [Fg];exact GL hx
structure FZ (w:Ws) (back:Bool) (i0:Nat) (vis stk:List Nat):Prop where
 nd:vis.Nodup
 vl:∀v∈vis,v<(parts w).length
 sl:∀v∈stk,v<(parts w).length
 vr:∀v∈vis,BM (fun i k=>k∈nxW w back i) i0 v
 sr:∀v∈stk,BM (fun i k=>k∈nxW w back i) i0 v
 st:i0∈vis∨i0∈stk
 nx:∀v∈vis,∀k∈nxW w back v,k∈vis∨k∈stk
 len:stk.length≤1+vis.length*(parts w).length
theorem FZ.zero {w:Ws} {back:Bool} {i0:Nat} (h:i0<(parts w).length):FZ w back i0 [] [i0]:=
 ⟨List.nodup_nil,(fun _ h=>by cases h),fun v hv=>by rw [List.mem_singleton.1 hv];exact h,(fun _ h=>by cases h),fun v hv=>by rw [List.mem_singleton.1 hv];exact .refl,.inr (by simp),(fun _ h=>by cases h),by simp⟩
theorem FZ.vlen {w:Ws} {back:Bool} {i0:Nat} {vis stk:List Nat} (h:FZ w back i0 vis stk):vis.length≤(parts w).length:=by
 have:=h.nd.length_le_of_subset (l₂:=List.range (parts w).length) fun k hk=>by simpa using h.vl k hk
 simpa using this
theorem FZ.skip {w:Ws} {back:Bool} {i0:Nat} {vis r:List Nat} {v:Nat} (h:FZ w back i0 vis (r++ [v])) (hv:v∈vis):FZ w back i0 vis r:=by
 have hin:∀{k},k∈vis∨k∈r++ [v] ->k∈vis∨k∈r:=fun hk=>hk.elim .inl fun hk=>(List.mem_append.1 hk).elim .inr fun e=> .inl (by rw [List.mem_singleton.1 e];exact hv);exact ⟨h.nd,h.vl,fun x hx=>h.sl x (List.mem_append_left _ hx),h.vr,fun x hx=>h.sr x (List.mem_append_left _ hx),hin h.st,fun x hx k hk=>hin (h.nx x hx k hk),by have:=h.len;rw [List.length_append] at this;omega⟩
theorem FZ.go {w:Ws} {back:Bool} {i0:Nat} {vis r:List Nat} {v:Nat} (h:FZ w back i0 vis (r++ [v])) (hv:v∉vis):FZ w back i0 (vis++ [v]) (r++nxW w back v):=by
 have hvr:=h.sr v (List.mem_append_right _ (by simp));have hin:∀{k},k∈vis∨k∈r++ [v] ->k∈vis++ [v]∨k∈r++nxW w back v:=fun hk=>hk.elim (fun h=> .inl (List.mem_append_left _ h)) fun hk=>(List.mem_append.1 hk).elim (fun h=> .inr (List.mem_append_left _ h)) fun e=> .inl (List.mem_append_right _ e);refine ⟨List.nodup_append.2 ⟨h.nd,by simp,fun a ha b hb e=>hv (by rw [←List.mem_singleton.1 hb,←e];exact ha)⟩,fun x hx=>?_,fun x hx=>?_,fun x hx=>?_,fun x hx=>?_,hin h.st,fun x hx k hk=>?_,?_⟩
 ·exact (List.mem_append.1 hx).elim (h.vl x) fun e=>by rw [List.mem_singleton.1 e];exact h.sl v (by simp)
 ·exact (List.mem_append.1 hx).elim (fun hx=>h.sl x (List.mem_append_left _ hx)) RO
 ·exact (List.mem_append.1 hx).elim (h.vr x) fun e=>by rw [List.mem_singleton.1 e];exact hvr
 ·exact (List.mem_append.1 hx).elim (fun hx=>h.sr x (List.mem_append_left _ hx)) fun hx=>hvr.tail hx
 ·rcases List.mem_append.1 hx with hx | e
  ·exact hin (h.nx x hx k hk)
  ·rw [List.mem_singleton.1 e] at hk;exact .inr (List.mem_append_right _ hk)
 ·have h1:=h.len;have h2:=HG w back v;rw [List.length_append,List.length_singleton] at h1;rw [List.length_append,List.length_append,List.length_singleton,Nat.succ_mul];omega
theorem FZ.fin {w:Ws} {back:Bool} {i0:Nat} {vis:List Nat} (h:FZ w back i0 vis []) (v:Nat):v∈vis↔BM (fun i k=>k∈nxW w back i) i0 v:=by
 refine ⟨h.vr v,fun hs=>?_⟩;exact BM.closed (p:=fun v=>v∈vis) (fun a b ha hb=>(h.nx a ha b hb).resolve_right (by simp)) (h.st.resolve_right (by simp)) hs
noncomputable def outS (w:Ws) (vis:List Nat):List St:=vis.flatMap fun i=>(parts w).getD i []
theorem D0 (w:Ws) (vis:List Nat) (v:Nat):outS w (vis++ [v])=outS w vis++(parts w).getD v []:=by simp [outS]
theorem J0 {w:Ws} (hw:B1 w) {vis:List Nat} (hv:∀v∈vis,v<(parts w).length) {x:St}:x∈outS w vis↔x∈w.R∧idx w x∈vis:=by
 unfold outS;rw [List.mem_flatMap]
 constructor
 ·rintro ⟨i,hi,hx⟩;obtain ⟨h1,h2⟩:=(Mt hw (hv i hi)).1 hx;exact ⟨h1,by rw [h2];exact hi⟩
 ·rintro ⟨h1,h2⟩;exact ⟨_,h2,(Mt hw (hv _ h2)).2 ⟨h1,rfl⟩⟩
theorem Oa {w:Ws} (hw:B1 w):∀{vis:List Nat},vis.Nodup ->(∀v∈vis,v<(parts w).length) ->(outS w vis).Nodup:=by
 intro vis
 induction vis with
 | nil=>intro _ _;exact List.nodup_nil
 | cons v r ih=>
  intro hn hv;have hn':=List.nodup_cons.1 hn;have hv':∀x∈r,x<(parts w).length:=fun x hx=>hv x (List.mem_cons_of_mem _ hx);show ((parts w).getD v []++outS w r).Nodup;refine List.nodup_append.2 ⟨DX (Mb hw (List.mem_of_getElem? (Hq (hv v (by simp))))),ih hn'.2 hv',fun a ha b hb e=>?_⟩;subst e;have h1:=((Mt hw (hv v (by simp))).1 ha).2;have h2:=((J0 hw hv').1 hb).2;exact hn'.1 (by rw [←h1];exact h2)
theorem E9 {w:Ws} (hw:B1 w) {vis:List Nat} (hn:vis.Nodup) (hv:∀v∈vis,v<(parts w).length):(outS w vis).length≤w.R.length:=
 (Oa hw hn hv).length_le_of_subset fun x hx=>((J0 hw hv).1 hx).1
theorem FZ.clo {w:Ws} (hw:B1 w) {back:Bool} {a:St} (ha:a∈w.R) {vis:List Nat} (h:FZ w back (idx w a) vis []):Ct (outS w vis)=cloW w a back:=by
 refine Ha (Oa hw h.nd h.vl) (List.Pairwise.sublist List.filter_sublist hw.srt) fun x=>?_;rw [J0 hw h.vl,J1]
 constructor
 ·rintro ⟨h1,h2⟩;exact ⟨h1,(Oq hw ha h1).2 ((h.fin _).1 h2)⟩
 ·rintro ⟨h1,h2⟩;exact ⟨h1,(h.fin _).2 ((Oq hw ha h1).1 h2)⟩
theorem O0 {l:List Nat} (h:0<l.length):∃r v,l=r++ [v]:=by
 rcases List.eq_nil_or_concat l with e | ⟨r,v,e⟩
 ·subst e;simp at h
 ·exact ⟨r,v,by rw [e];simp⟩
abbrev JO (n:Nat) (out:List Nat):List D:=(List.range n).map fun v=>Ad (decide (v∈out))
theorem Gv {n i:Nat} {out:List Nat} (h:i<n):(JO n out)[i]? =some (Ad (decide (i∈out))):=by simp [h]
theorem JN (n:Nat) (out:List Nat):(JO n out).length=n:=by simp
theorem JM {n i:Nat} {out:List Nat}:(JO n out).set i (Ad true)=JO n (out++ [i]):=
 Ij (fun j _ hne=>congrArg Ad (decide_eq_decide.2 ⟨fun h=>List.mem_append_left _ h,fun h=>(List.mem_append.1 h).elim id fun e=>(hne (List.mem_singleton.1 e)).elim⟩)) (by rw [decide_eq_true (List.mem_append_right _ (List.mem_singleton.2 rfl))])
theorem repB (n:Nat):List.replicate n (D.raw (.bool false))=JO n []:=by
 refine List.ext_getElem (by simp) fun j h1 h2=>?_
 simp
theorem Mk (r:List Nat) (v:Nat):CO (r++ [v]) r.length=v:=by simp [CO]
theorem group_c {M:MF} {b:Nat} {w:Ws} (h:Bg M b w) (hw:B1 w) (hK:w.K.length≤1000000) (a:St):AQ Tryz.prog 12 [.d (pD b 0),.d (AU a)] [(40,[.multi M])] fun r H'=>r= .d (if a∈w.R then stsD (cls w a) else .sl (some true) [])∧H'=[(40,[.multi M])]:=by
 refine CP Tryz.func12 Z Z Tryz.ntmps12 Z Z Z fun F hF=>(AE ?_);refine AH (AD Z Z (AF (AE (AE (AH (AC Z Z (AC Z Z (U (Fn (GX h a) rfl [40] ⟨rfl,trivial⟩ Z Z Z Z Z Z Z Z Z) ?_))))))))
 first | refine J (ET Z Z) ?_ | refine J (EQ Z Z) ?_
 refine AF ?_
 first | refine Az rfl (fun h10=>?_) (fun h10=>?_) | refine Aw rfl (fun h10=>?_) (fun h10=>?_)
 ·refine AE (AH (AD Z Z (AF (Aq ?_))));exact ⟨_,[40],_,An rfl,rfl,rfl,by rw [if_neg h10],rfl⟩
 ·refine Ai (AE (AH (AC Z Z ?_)));refine H1 (If (Il h hw hK) rfl [40,6] ⟨rfl,rfl,trivial⟩ Z Z Z Z (fun r H' ⟨O,e1,e2,_⟩=>by subst e1 e2;exact ⟨rfl,rfl,rfl⟩) rfl) rfl ?_;rintro _ ⟨r,H',⟨O,e1,e2,hO⟩,rfl⟩;subst e1 e2;refine AC Z Z ?_
  first | refine J (Bn Z Z Z) ?_ | refine J (Bm Z Z Z) ?_
  first | refine J (Bn Z Z Z) ?_ | refine J (Bm Z Z Z) ?_
  refine AD Z Z (AD Z Z (AF (AE ?_)));have haR:a∈w.R:=Classical.not_not.1 h10;refine AH (AC Z Z (AC Z Z (AC Z Z (J (st_look O a 0 (idx w a) Z Z Z HM EU QM (hO _ haR) rfl) ?_))))
  first | refine J (BE (idx w a) Z Z (rfl) (I6 (EI hw haR)) Tryz.underlying74 rfl Bw rfl) ?_ | refine J (BF (idx w a) Z Z (rfl) (I6 (EI hw haR)) rfl Tryz.underlying74 Bw rfl) ?_
  first | refine J (AZ Z Z AW rfl) ?_ | refine J (AX Z Z Z AW rfl) ?_ | refine J (AY Z Z (rfl) rfl AW rfl) ?_
  refine AD Z Z (AF (Aq ?_));exact ⟨_,[40],_,An rfl,rfl,rfl,by rw [if_pos haR,clsP hw haR],rfl⟩
set_option maxHeartbeats 2000000 in
theorem cloF_c {M:MF} {b:Nat} {w:Ws} (h:Bg M b w) (hw:B1 w) (hK:w.K.length≤1000000) (a:St):AQ Tryz.prog 32 [.d (pD b 0),.d (AU a),.d (Ad false)] [(40,[.multi M])] fun r H'=>r= .d (if a∈w.R then stsD (cloW w a false) else .sl (some true) [])∧H'=[(40,[.multi M])]:=by
 refine CP Tryz.func32 Z Z Tryz.ntmps32 Z Z Z fun F hF=>(AE ?_);refine AH (AD Z Z (AF (AE (AE (AH (AC Z Z (AC Z Z (U (Fn (GX h a) rfl [40] ⟨rfl,trivial⟩ Z Z Z Z Z Z Z Z Z) ?_))))))))
 first | refine J (ET Z Z) ?_ | refine J (EQ Z Z) ?_
 refine AF ?_
 first | refine Az rfl (fun h22=>?_) (fun h22=>?_) | refine Aw rfl (fun h22=>?_) (fun h22=>?_)
 ·refine AE (AH (AD Z Z (AF (Aq ?_))));exact ⟨_,[40],_,An rfl,rfl,rfl,by rw [if_neg h22],rfl⟩
 ·refine Ai (AE ?_);have haR:a∈w.R:=Classical.not_not.1 h22;have hpn:(parts w).length≤4096:=by unfold parts;rw [List.length_map];exact Nat.le_trans (List.length_filter_le _ _) hw.few
  refine AH (AC Z Z ?_);refine H1 (If (Il h hw hK) rfl [40,6] ⟨rfl,rfl,trivial⟩ Z Z Z Z (fun r H' ⟨O,e1,e2,_⟩=>by subst e1 e2;exact ⟨rfl,rfl,rfl⟩) rfl) rfl ?_;rintro _ ⟨r,H',⟨O,e1,e2,hO⟩,rfl⟩;subst e1 e2;refine AC Z Z ?_
  first | refine J (Bn Z Z Z) ?_ | refine J (Bm Z Z Z) ?_
  first | refine J (Bn Z Z Z) ?_ | refine J (Bm Z Z Z) ?_
  refine AD Z Z (AD Z Z (AF (AE (EB 7 Z Z Z (IA 8 6 7 hF Z Z Z Z Z Z Z Z Z Z (fun _=>rfl) fun x7 _=>?_)))))
  obtain ⟨M7,hM7⟩:∃M7,BU (fun _=>none) x7 (.map (some (List.range O.length,O.length)) (Ae AU natD O))=M7:=⟨_,rfl⟩
  rw [hM7];have h7:M7 x7=some (.map (some (List.range O.length,O.length)) (Ae AU natD O)):=by rw [←hM7,D9]
  refine AH (AC Z Z (AC Z Z (AC Z Z (U (Fn (OL h hw hK hO h7) rfl [40,7] ⟨rfl,rfl,trivial⟩ Z Z Z Z Z Z Z Z Z) ?_))));refine AD Z Z (AF (AE (AE (AH (AC Z Z (AF (DM rfl (rfl) (Ai ?_))))))));refine AE (OW 9 (.d (grD (nxG w false))) Z Z (AH (AC Z Z (J (Bs rfl (List.length_map ..) Tryz.underlying74 rfl) (U (Fy 20 sl99 Z Z Z (by omega) zd4 Z Z Z Z) (AD Z Z (AF (AE ?_))))))));rw [repB];refine AH (AD Z Z (AF (AE (AH (AC Z Z ?_)))));refine AC Z Z (J (HY (f:=7) O a 0 (idx w a) Z Z h7 rfl HM EU QM (hO _ haR) rfl) (U (Fq 22 Dc Z Z Z Z Z Z Z Z) (AD Z Z (AF (AE (BH (EC 16 23 Ba Z Z Z Z (Db (α:=List Nat×List Nat×List Nat) (fun q=>⟨105,[(7,(.d (CT (parts w)))),(9,(.d (grD (nxG w false)))),(15,(.own 20 0 (parts w).length)),(16,(.own 23 0 (outS w q.1).length)),(17,(.own 22 0 q.2.1.length))],[(20,[.rowD 4 1 (JO (parts w).length q.1)]),(22,[.rowD 3 1 ((q.2.1++q.2.2).map natD)]),(23,[.rowD 9 1 ((outS w q.1).map AU)]),(40,[.multi M])]⟩) (fun q=>FZ w false (idx w a) q.1 q.2.1) (fun q=>((parts w).length - q.1.length)*5000+q.2.1.length) (([],[idx w a],[])) (FZ.zero (EI hw haR)) (At hF [20,22,23,40] Z Z ⟨rfl,rfl,rfl,rfl,rfl,trivial⟩) ?_))))))));rintro ⟨vis,stk,jk⟩ hI;dsimp only at hI⊢;refine AE (AE (AH (AC Z Z ?_)))
  first | refine J (IB rfl Tryz.underlying52 rfl) ?_ | refine J (Bs Z Z Tryz.underlying52 rfl) ?_ | refine J (IE rfl Tryz.underlying52 rfl) ?_ | refine J (IG rfl Tryz.underlying52 rfl) ?_ | refine J (ID rfl Tryz.underlying52 rfl) ?_ | refine J (H4 rfl Tryz.underlying52 rfl) ?_
  first | refine J (H9 Z Z Z) ?_ | refine J (GA Z Z Z) ?_
  refine AF ?_
  first | refine Az rfl (fun h71=>?_) (fun h71=>?_) | refine Aw rfl (fun h71=>?_) (fun h71=>?_)
  ·refine Ai (BH (AE ?_));obtain ⟨r,v,hrv⟩:=O0 (l:=stk) (F1 h71);subst hrv;have hvl:=hI.sl v (by simp);have hI2':=hI.len;have hvle:=hI.vlen;have hmul:vis.length*(parts w).length≤4096*4096:=Nat.mul_le_mul (by omega) hpn;have hsl:(r++ [v]).length≤20000000:=by omega
   have hrl:(r++ [v]).length=r.length+1:=by simp
   have hpe:(((r++ [v]).length:Nat):Int) - 1=((r.length:Nat):Int):=by rw [hrl];omega
   refine AH (AC Z Z (AC Z Z ?_))
   first | refine J (IB rfl Tryz.underlying52 rfl) ?_ | refine J (Bs Z Z Tryz.underlying52 rfl) ?_ | refine J (IE rfl Tryz.underlying52 rfl) ?_ | refine J (IG rfl Tryz.underlying52 rfl) ?_ | refine J (ID rfl Tryz.underlying52 rfl) ?_ | refine J (H4 rfl Tryz.underlying52 rfl) ?_
   refine J (Ci Z Z (IntWalk.i64_in _ (by omega)) rfl) ?_
   first | refine J (BE (r.length) Z Z (hpe) (by rw [hrl];omega) Tryz.underlying52 rfl Dn rfl) ?_ | refine J (BF (r.length) Z Z (hpe) (by rw [hrl];omega) rfl Tryz.underlying52 Dn rfl) ?_
   first | refine J (AZ Z Z BV rfl) ?_ | refine J (AX Z Z Z BV rfl) ?_ | refine J (AY Z Z ((by rw [Fc (by rw [List.length_append,hrl];omega),Od (by omega),Mk])) rfl BV rfl) ?_
   refine AD Z Z (AF (AE (AH (AC Z Z (AC Z Z ?_)))))
   first | refine J (IB rfl Tryz.underlying52 rfl) ?_ | refine J (Bs Z Z Tryz.underlying52 rfl) ?_ | refine J (IE rfl Tryz.underlying52 rfl) ?_ | refine J (IG rfl Tryz.underlying52 rfl) ?_ | refine J (ID rfl Tryz.underlying52 rfl) ?_ | refine J (H4 rfl Tryz.underlying52 rfl) ?_
   refine J (Ci Z Z (IntWalk.i64_in _ (by omega)) rfl) (J (H8 r.length Z Z hpe (by rw [List.length_map,List.length_append];omega) rfl Tryz.underlying52 Dn rfl) (AD Z Z (AF (AE (AE (AH (AC Z Z (AC Z Z ?_))))))))
   first | refine J (BE (v) Z Z (rfl) (hvl) Tryz.underlying99 rfl MG rfl) ?_ | refine J (BF (v) Z Z (rfl) (hvl) rfl Tryz.underlying99 MG rfl) ?_
   first | refine J (AZ Z Z QN rfl) ?_ | refine J (AX Z Z Z QN rfl) ?_ | refine J (AY Z Z (Gv hvl) rfl QN rfl) ?_
   refine AF ?_
   first | refine Az rfl (fun h86=>?_) (fun h86=>?_) | refine Aw rfl (fun h86=>?_) (fun h86=>?_)
   ·refine C5 ?_;exact ⟨(vis,r,[v]++jk),hI.skip h86,by show _<_;rw [List.length_append,List.length_singleton];exact Nat.lt_succ_self _,At hF [20,22,23,40] rfl (by rw [List.append_assoc];rfl) ⟨rfl,rfl,rfl,rfl,rfl,trivial⟩⟩
   ·refine Ai (AE ?_);have hI2:=hI.go h86;have hol:=E9 hw hI.nd hI.vl;have hfw:=hw.few;have hol2:=E9 hw hI2.nd hI2.vl;rw [D0,List.length_append] at hol2;refine AH (AC Z Z (AC Z Z ?_))
    first | refine J (BE (v) Z Z (rfl) (hvl) Tryz.underlying99 rfl MG rfl) ?_ | refine J (BF (v) Z Z (rfl) (hvl) rfl Tryz.underlying99 MG rfl) ?_
    refine U (Zcj Z Z Z Z Z (by rw [JN];exact hvl) JM rfl MG) (AF (AE (AH (AC Z Z (AC Z Z (AC Z Z ?_))))))
    first | refine J (BE (v) Z Z (rfl) (I6 hvl) Tryz.underlying74 rfl Bw rfl) ?_ | refine J (BF (v) Z Z (rfl) (I6 hvl) rfl Tryz.underlying74 Bw rfl) ?_
    first | refine J (AZ Z Z AW rfl) ?_ | refine J (AX Z Z Z AW rfl) ?_ | refine J (AY Z Z (rfl) rfl AW rfl) ?_
    first | refine U (IC (outS w vis) ((parts w).getD v []) Z Z Z Z Z Z Z Z Ba (by omega) Z Z Z Z) ?_ | refine U (Iu (outS w vis) ((parts w).getD v []) Z Z Z Z Z Z (fun _=>rfl) Ba (by omega) Z Z Z Z) ?_
    refine LU 95 (.own 23 0 (outS w (vis++ [v])).length) rfl (by rw [D0]) (AD Z Z (AF ?_));have hnl:=HG w false v;refine AH (AC Z Z (AC Z Z (AC Z Z ?_)))
    first | refine J (BE (v) Z Z (rfl) (LV hvl) Tryz.underlying97 rfl Bv rfl) ?_ | refine J (BF (v) Z Z (rfl) (LV hvl) rfl Tryz.underlying97 Bv rfl) ?_
    first | refine J (AZ Z Z Av rfl) ?_ | refine J (AX Z Z Z Av rfl) ?_ | refine J (AY Z Z (rfl) rfl Av rfl) ?_
    refine U (G3 (zs:=(r++nxW w false v).map natD) Z Z Z (by rw [List.length_map,List.length_append,List.length_append];omega) Dc (fun z hz=>by obtain ⟨a,_,rfl⟩:=List.mem_map.1 hz;rfl) (List.length_map ..) (by omega) Z Z (by rw [List.append_assoc,List.map_append,List.take_left' (by simp),←List.map_append]) Z Z) (LU 101 (.own 22 0 (r++nxW w false v).length) rfl (by rw [List.length_append]) (AD Z Z (AF ?_)));exact ⟨(vis++ [v],r++nxW w false v,[]),hI.go h86,by have h1:=hI2.vlen;rw [List.length_append,List.length_singleton] at h1;have h2:=HG w false v;show ((parts w).length - (vis++ [v]).length)*5000+(r++nxW w false v).length<((parts w).length - vis.length)*5000+(r++ [v]).length;simp only [List.length_append,List.length_singleton];omega,At hF [20,22,23,40] rfl (by simp only [D0,List.append_nil];rfl) ⟨rfl,rfl,rfl,rfl,rfl,trivial⟩⟩
  ·refine C5 (AE ?_)
   have hs0:stk=[]:=by
    have h1:=h71;exact List.length_eq_zero_iff.1 (by omega)
   subst hs0;have hcl:=hI.clo hw haR;have hol:=E9 hw hI.nd hI.vl;have hfw:=hw.few;refine AH (AC Z Z (U (JC Og (outS w vis) (by omega) Z Z Z Z Z Z Z) (AF (AE ?_))));rw [hcl];have hcn:(outS w vis).length=(cloW w a false).length:=by rw [←hcl,Cj]
   refine OY (emb:=AU) 16 23 (cloW w a false) Z Z Z hcn Z Z Z (AH (AC Z Z (AD Z Z (AF (Aq ?_)))));exact ⟨_,[40],_,An rfl,rfl,rfl,by rw [if_pos haR],rfl⟩
set_option maxHeartbeats 2000000 in
theorem cloT_c {M:MF} {b:Nat} {w:Ws} (h:Bg M b w) (hw:B1 w) (hK:w.K.length≤1000000) (a:St):AQ Tryz.prog 32 [.d (pD b 0),.d (AU a),.d (Ad true)] [(40,[.multi M])] fun r H'=>r= .d (if a∈w.R then stsD (cloW w a true) else .sl (some true) [])∧H'=[(40,[.multi M])]:=by
 refine CP Tryz.func32 Z Z Tryz.ntmps32 Z Z Z fun F hF=>(AE ?_);refine AH (AD Z Z (AF (AE (AE (AH (AC Z Z (AC Z Z (U (Fn (GX h a) rfl [40] ⟨rfl,trivial⟩ Z Z Z Z Z Z Z Z Z) ?_))))))))
 first | refine J (ET Z Z) ?_ | refine J (EQ Z Z) ?_
 refine AF ?_
 first | refine Az rfl (fun h22=>?_) (fun h22=>?_) | refine Aw rfl (fun h22=>?_) (fun h22=>?_)
 ·refine AE (AH (AD Z Z (AF (Aq ?_))));exact ⟨_,[40],_,An rfl,rfl,rfl,by rw [if_neg h22],rfl⟩
 ·refine Ai (AE ?_);have haR:a∈w.R:=Classical.not_not.1 h22;have hpn:(parts w).length≤4096:=by unfold parts;rw [List.length_map];exact Nat.le_trans (List.length_filter_le _ _) hw.few
  refine AH (AC Z Z ?_);refine H1 (If (Il h hw hK) rfl [40,6] ⟨rfl,rfl,trivial⟩ Z Z Z Z (fun r H' ⟨O,e1,e2,_⟩=>by subst e1 e2;exact ⟨rfl,rfl,rfl⟩) rfl) rfl ?_;rintro _ ⟨r,H',⟨O,e1,e2,hO⟩,rfl⟩;subst e1 e2;refine AC Z Z ?_
  first | refine J (Bn Z Z Z) ?_ | refine J (Bm Z Z Z) ?_
  first | refine J (Bn Z Z Z) ?_ | refine J (Bm Z Z Z) ?_
  refine AD Z Z (AD Z Z (AF (AE (EB 7 Z Z Z (IA 8 6 7 hF Z Z Z Z Z Z Z Z Z Z (fun _=>rfl) fun x7 _=>?_)))))
  obtain ⟨M7,hM7⟩:∃M7,BU (fun _=>none) x7 (.map (some (List.range O.length,O.length)) (Ae AU natD O))=M7:=⟨_,rfl⟩
  rw [hM7];have h7:M7 x7=some (.map (some (List.range O.length,O.length)) (Ae AU natD O)):=by rw [←hM7,D9]
  refine AH (AC Z Z (AC Z Z (AC Z Z ?_)));refine U (Fn (OL h hw hK hO h7) rfl [40,7] ⟨rfl,rfl,trivial⟩ Z Z Z Z Z Z Z Z Z) (AD Z Z (AF (AE (AE (AH (AC Z Z (AF (IH rfl (rfl) ?_))))))));refine AE (AH (AC Z Z (J (Bs rfl (List.length_map ..) Tryz.underlying74 rfl) (U (Fy 20 sl97 Z Z Z (by omega) zd52 Z Z Z Z) (AD Z Z (AF (AE (AE ?_))))))));have hg:=depG_GB hw;have hgn:(depG w).length=(parts w).length:=Fg w;refine Hz 20 0 (rowH (parts w).length (fun _=>none) (fun _=> [])) rfl (by rw [C9,List.length_replicate]) (Mn _) ⟨Oc _,HF _ _ _⟩ rfl (EB 50 Z Z Z (AH (AC Z Z (J (Bs rfl ((List.length_map ..).trans hgn) Tryz.underlying97 rfl) (AC Z Z (AF (BH (Db (α:=Nat×MF×(Nat ->Hd)) (fun q=>⟨105,[(1,.d (AU a)),(7,(.d (CT (parts w)))),(8,(.d (mD x7))),(10,(.own 20 0 (parts w).length)),(36,(.d (grD (depG w)))),(37,(.d (natD (parts w).length))),(38,(.d (natD q.1)))],[(20,[.rowD 52 1 (rowH (parts w).length q.2.2 (EF (depG w) q.1 0))]),(40,[.multi M]),(7,[.multi M7]),(50,[.multi q.2.1])]⟩) (fun q=>q.1≤(parts w).length∧Fv q.2.1 (parts w).length q.2.2 (EF (depG w) q.1 0)) (fun q=>(parts w).length - q.1) ((0,fun _=>none,fun _=>none)) (⟨Nat.zero_le _,by rw [PZ];exact Fv.zero _⟩) (At hF [20,40,7,50] Z Z ⟨rfl,rfl,rfl,rfl,rfl,rfl,rfl,trivial⟩) ?_))))))));rintro ⟨i,M5,hs⟩ ⟨hi,hr⟩;dsimp only at hi hr⊢;refine AE (AH ?_)
  first | refine J (D3 Z Z Z) ?_ | refine J (D4 Z Z Z) ?_
  refine AF (AE ?_)
  first | refine Az rfl (fun h39=>?_) (fun h39=>?_) | refine Aw rfl (fun h39=>?_) (fun h39=>?_)
  ·refine Ai (AE (BH (AE ?_)));have hil:i<(parts w).length:=F1 h39;have hil':i<(depG w).length:=by rw [hgn];exact hil
   refine AH (AC Z Z ?_)
   first | refine J (BE (i) Z Z (rfl) (getg hil') Tryz.underlying97 rfl Bv rfl) ?_ | refine J (BF (i) Z Z (rfl) (getg hil') rfl Tryz.underlying97 Bv rfl) ?_
   first | refine J (AZ Z Z Av rfl) ?_ | refine J (AX Z Z Z Av rfl) ?_ | refine J (AY Z Z (rfl) rfl Av rfl) ?_
   refine AD Z Z (AD Z Z ?_);refine AF (AE (AH (AC Z Z (J (Bs rfl (List.length_map ..) Tryz.underlying52 rfl) (AC Z Z (AF (BH (Db (α:=Nat×MF×(Nat ->Hd)) (fun q=>⟨105,[(1,.d (AU a)),(7,(.d (CT (parts w)))),(8,(.d (mD x7))),(10,(.own 20 0 (parts w).length)),(11,(.d (natD i))),(36,(.d (grD (depG w)))),(37,(.d (natD (parts w).length))),(38,(.d (natD i))),(43,(.d (natsD (CF (depG w) i)))),(44,(.d (natD (CF (depG w) i).length))),(45,(.d (natD q.1)))],[(20,[.rowD 52 1 (rowH (parts w).length q.2.2 (EF (depG w) i q.1))]),(40,[.multi M]),(7,[.multi M7]),(50,[.multi q.2.1])]⟩) (fun q=>q.1≤(CF (depG w) i).length∧Fv q.2.1 (parts w).length q.2.2 (EF (depG w) i q.1)) (fun q=>(CF (depG w) i).length - q.1) ((0,M5,hs)) (⟨Nat.zero_le _,hr⟩) (At hF [20,40,7,50] Z Z ⟨rfl,rfl,rfl,rfl,rfl,rfl,rfl,rfl,rfl,rfl,rfl,trivial⟩) ?_))))))));rintro ⟨k,M5,hs⟩ ⟨hk,hr⟩;dsimp only at hk hr⊢;refine AE (AH ?_)
   first | refine J (D3 Z Z Z) ?_ | refine J (D4 Z Z Z) ?_
   refine AF (AE ?_)
   first | refine Az rfl (fun h46=>?_) (fun h46=>?_) | refine Aw rfl (fun h46=>?_) (fun h46=>?_)
   ·refine Ai (AE (BH (AE ?_)));have hkl:k<(CF (depG w) i).length:=F1 h46;have hgn1:=Fc hkl;have hsl:=hg.len hil';have hjl:CO (CF (depG w) i) k<(parts w).length:=by rw [←hgn];exact hg.suc hil' (Er hkl)
    have hst:=P0 hkl
    obtain ⟨j,hje⟩:∃j,CO (CF (depG w) i) k=j:=⟨_,rfl⟩
    rw [hje] at hgn1 hjl hst;have hln:=Qg hg hil' k j;refine AH ?_
    first | refine J (BE (k) Z Z (rfl) (hgn1) Tryz.underlying52 rfl Dn rfl) ?_ | refine J (BF (k) Z Z (rfl) (hgn1) rfl Tryz.underlying52 Dn rfl) ?_
    first | refine J (AZ Z Z BV rfl) ?_ | refine J (AX Z Z Z BV rfl) ?_ | refine J (AY Z Z (rfl) rfl BV rfl) ?_
    refine AD Z Z (AF (AH (AC Z Z (AC Z Z (AC Z Z (AC Z Z ?_))))))
    first | refine J (BE (j) Z Z (rfl) (hjl) Tryz.underlying97 rfl Bv rfl) ?_ | refine J (BF (j) Z Z (rfl) (hjl) rfl Tryz.underlying97 Bv rfl) ?_
    first | refine J (AZ Z Z Av rfl) ?_ | refine J (AX Z Z Z Av rfl) ?_ | refine J (AY Z Z (F6 hjl) rfl Av rfl) ?_
    refine AC Z Z (U (Fq 25 Dc Z Z Z Z Z Z Z Z) (U (Gr 54 60 50 (hr.at_ j hjl) Z Z (by rw [List.length_map]) Z Z Z Z Z (IC (emb:=natD) (EF (depG w) i k j) [i] Z Z Z Z Z Z Z Z Dc (by show ((EF (depG w) i k j).length+1)*8≤_;omega) Z Z Z Z)) (Ea 57 60 50 hF Z Z Z (by rw [List.length_map]) (by simp) Z Z Z Z Z Z Z (fun _ _=>rfl) fun b1 c1 hb1 hc1=>?_)))
    first | refine J (BE (j) Z Z (rfl) (hjl) Tryz.underlying97 rfl Bv rfl) ?_ | refine J (BF (j) Z Z (rfl) (hjl) rfl Tryz.underlying97 Bv rfl) ?_
    refine U (Zcj Z Z Z Z Z (by rw [C9];exact hjl) (Gu (h:=some (b1,c1))) rfl Bv) (AF (AH (J (CG Z Z (IntWalk.i64_in _ (by omega)) rfl) (AC Z Z (AF ?_)))));exact ⟨(k+1,BU (DC M5 (hs j)) b1 (.row 3 1 c1 ((EF (depG w) i k j++ [i]).map natD)),Ap hs j (some (b1,c1))),⟨hkl,by have:=hr.app hjl hb1 hc1;rw [hst] at this;exact this⟩,by show (CF (depG w) i).length - (k+1)<(CF (depG w) i).length - k;omega,At hF [20,40,7,50] rfl (by rw [hst];rfl) ⟨rfl,rfl,rfl,rfl,rfl,rfl,rfl,rfl,rfl,rfl,rfl,trivial⟩⟩
   ·refine C5 ?_;have hke:k=(CF (depG w) i).length:=by have:=h46;omega
    subst hke;refine AH (J (CG Z Z (IntWalk.i64_in _ (by omega)) rfl) (AC Z Z (AF ?_)));exact ⟨(i+1,M5,hs),⟨hil,by rw [←MV];exact hr⟩,by show (parts w).length - (i+1)<(parts w).length - i;omega,At hF [20,40,7,50] rfl (by rw [MV];rfl) ⟨rfl,rfl,rfl,rfl,rfl,rfl,rfl,trivial⟩⟩
  ·refine C5 ?_;have hin:i=(depG w).length:=by have:=h39;omega
   subst hin;rw [Qh] at hr⊢;refine OV 20 0 50 ((P1 (depG w)).map natsD) Z Z Z Z Z (by rw [List.length_map,P1,GI,C9];exact hgn) (by have:=hr;rw [←hgn] at this⊢;exact this.melt) ⟨HF _ _ _,RI _⟩ rfl (OY (emb:=natsD) 10 20 (P1 (depG w)) Z Z Z (by rw [P1,GI,hgn]) Z Z Z ?_);rw [Qi];refine AH (AC Z Z (AD Z Z ?_));refine AF (AE (AH (AC Z Z (J (Bs rfl (List.length_map ..) Tryz.underlying74 rfl) (U (Fy 22 sl99 Z Z Z (by omega) zd4 Z Z Z Z) (AD Z Z (AF (AE ?_))))))));rw [repB];refine AH (AD Z Z (AF (AE (AH (AC Z Z ?_)))));refine AC Z Z (J (HY (f:=7) O a 0 (idx w a) Z Z h7 rfl HM EU QM (hO _ haR) rfl) (U (Fq 26 Dc Z Z Z Z Z Z Z Z) (AD Z Z (AF (AE (BH (EC 16 23 Ba Z Z Z Z (Db (α:=List Nat×List Nat×List Nat) (fun q=>⟨105,[(7,(.d (CT (parts w)))),(9,(.d (grD (nxG w true)))),(15,(.own 22 0 (parts w).length)),(16,(.own 23 0 (outS w q.1).length)),(17,(.own 26 0 q.2.1.length))],[(22,[.rowD 4 1 (JO (parts w).length q.1)]),(26,[.rowD 3 1 ((q.2.1++q.2.2).map natD)]),(23,[.rowD 9 1 ((outS w q.1).map AU)]),(40,[.multi M])]⟩) (fun q=>FZ w true (idx w a) q.1 q.2.1) (fun q=>((parts w).length - q.1.length)*5000+q.2.1.length) (([],[idx w a],[])) (FZ.zero (EI hw haR)) (At hF [22,26,23,40] Z Z ⟨rfl,rfl,rfl,rfl,rfl,trivial⟩) ?_))))))));rintro ⟨vis,stk,jk⟩ hI;dsimp only at hI⊢;refine AE (AE (AH (AC Z Z ?_)))
   first | refine J (IB rfl Tryz.underlying52 rfl) ?_ | refine J (Bs Z Z Tryz.underlying52 rfl) ?_ | refine J (IE rfl Tryz.underlying52 rfl) ?_ | refine J (IG rfl Tryz.underlying52 rfl) ?_ | refine J (ID rfl Tryz.underlying52 rfl) ?_ | refine J (H4 rfl Tryz.underlying52 rfl) ?_
   first | refine J (H9 Z Z Z) ?_ | refine J (GA Z Z Z) ?_
   refine AF ?_
   first | refine Az rfl (fun h71=>?_) (fun h71=>?_) | refine Aw rfl (fun h71=>?_) (fun h71=>?_)
   ·refine Ai (BH (AE ?_));obtain ⟨r,v,hrv⟩:=O0 (l:=stk) (F1 h71);subst hrv;have hvl:=hI.sl v (by simp);have hI2':=hI.len;have hvle:=hI.vlen;have hmul:vis.length*(parts w).length≤4096*4096:=Nat.mul_le_mul (by omega) hpn;have hsl:(r++ [v]).length≤20000000:=by omega
    have hrl:(r++ [v]).length=r.length+1:=by simp
    have hpe:(((r++ [v]).length:Nat):Int) - 1=((r.length:Nat):Int):=by rw [hrl];omega
    refine AH (AC Z Z (AC Z Z ?_))
    first | refine J (IB rfl Tryz.underlying52 rfl) ?_ | refine J (Bs Z Z Tryz.underlying52 rfl) ?_ | refine J (IE rfl Tryz.underlying52 rfl) ?_ | refine J (IG rfl Tryz.underlying52 rfl) ?_ | refine J (ID rfl Tryz.underlying52 rfl) ?_ | refine J (H4 rfl Tryz.underlying52 rfl) ?_
    refine J (Ci Z Z (IntWalk.i64_in _ (by omega)) rfl) ?_
    first | refine J (BE (r.length) Z Z (hpe) (by rw [hrl];omega) Tryz.underlying52 rfl Dn rfl) ?_ | refine J (BF (r.length) Z Z (hpe) (by rw [hrl];omega) rfl Tryz.underlying52 Dn rfl) ?_
    first | refine J (AZ Z Z BV rfl) ?_ | refine J (AX Z Z Z BV rfl) ?_ | refine J (AY Z Z ((by rw [Fc (by rw [List.length_append,hrl];omega),Od (by omega),Mk])) rfl BV rfl) ?_
    refine AD Z Z (AF (AE (AH (AC Z Z (AC Z Z ?_)))))
    first | refine J (IB rfl Tryz.underlying52 rfl) ?_ | refine J (Bs Z Z Tryz.underlying52 rfl) ?_ | refine J (IE rfl Tryz.underlying52 rfl) ?_ | refine J (IG rfl Tryz.underlying52 rfl) ?_ | refine J (ID rfl Tryz.underlying52 rfl) ?_ | refine J (H4 rfl Tryz.underlying52 rfl) ?_
    refine J (Ci Z Z (IntWalk.i64_in _ (by omega)) rfl) (J (H8 r.length Z Z hpe (by rw [List.length_map,List.length_append];omega) rfl Tryz.underlying52 Dn rfl) (AD Z Z (AF (AE (AE (AH (AC Z Z (AC Z Z ?_))))))))
    first | refine J (BE (v) Z Z (rfl) (hvl) Tryz.underlying99 rfl MG rfl) ?_ | refine J (BF (v) Z Z (rfl) (hvl) rfl Tryz.underlying99 MG rfl) ?_
    first | refine J (AZ Z Z QN rfl) ?_ | refine J (AX Z Z Z QN rfl) ?_ | refine J (AY Z Z (Gv hvl) rfl QN rfl) ?_
    refine AF ?_
    first | refine Az rfl (fun h86=>?_) (fun h86=>?_) | refine Aw rfl (fun h86=>?_) (fun h86=>?_)
    ·refine C5 ?_;exact ⟨(vis,r,[v]++jk),hI.skip h86,by show _<_;rw [List.length_append,List.length_singleton];exact Nat.lt_succ_self _,At hF [22,26,23,40] rfl (by rw [List.append_assoc];rfl) ⟨rfl,rfl,rfl,rfl,rfl,trivial⟩⟩
    ·refine Ai (AE ?_);have hI2:=hI.go h86;have hol:=E9 hw hI.nd hI.vl;have hfw:=hw.few;have hol2:=E9 hw hI2.nd hI2.vl;rw [D0,List.length_append] at hol2;refine AH (AC Z Z (AC Z Z ?_))
     first | refine J (BE (v) Z Z (rfl) (hvl) Tryz.underlying99 rfl MG rfl) ?_ | refine J (BF (v) Z Z (rfl) (hvl) rfl Tryz.underlying99 MG rfl) ?_
     refine U (Zcj Z Z Z Z Z (by rw [JN];exact hvl) JM rfl MG) (AF (AE (AH (AC Z Z (AC Z Z (AC Z Z ?_))))))
     first | refine J (BE (v) Z Z (rfl) (I6 hvl) Tryz.underlying74 rfl Bw rfl) ?_ | refine J (BF (v) Z Z (rfl) (I6 hvl) rfl Tryz.underlying74 Bw rfl) ?_
     first | refine J (AZ Z Z AW rfl) ?_ | refine J (AX Z Z Z AW rfl) ?_ | refine J (AY Z Z (rfl) rfl AW rfl) ?_
     first | refine U (IC (outS w vis) ((parts w).getD v []) Z Z Z Z Z Z Z Z Ba (by omega) Z Z Z Z) ?_ | refine U (Iu (outS w vis) ((parts w).getD v []) Z Z Z Z Z Z (fun _=>rfl) Ba (by omega) Z Z Z Z) ?_
     refine LU 95 (.own 23 0 (outS w (vis++ [v])).length) rfl (by rw [D0]) (AD Z Z (AF ?_));have hnl:=HG w true v;refine AH (AC Z Z (AC Z Z (AC Z Z ?_)))
     first | refine J (BE (v) Z Z (rfl) (LV hvl) Tryz.underlying97 rfl Bv rfl) ?_ | refine J (BF (v) Z Z (rfl) (LV hvl) rfl Tryz.underlying97 Bv rfl) ?_
     first | refine J (AZ Z Z Av rfl) ?_ | refine J (AX Z Z Z Av rfl) ?_ | refine J (AY Z Z (rfl) rfl Av rfl) ?_
     refine U (G3 (zs:=(r++nxW w true v).map natD) Z Z Z (by rw [List.length_map,List.length_append,List.length_append];omega) Dc (fun z hz=>by obtain ⟨a,_,rfl⟩:=List.mem_map.1 hz;rfl) (List.length_map ..) (by omega) Z Z (by rw [List.append_assoc,List.map_append,List.take_left' (by simp),←List.map_append]) Z Z) (LU 101 (.own 26 0 (r++nxW w true v).length) rfl (by rw [List.length_append]) (AD Z Z (AF ?_)));exact ⟨(vis++ [v],r++nxW w true v,[]),hI.go h86,by have h1:=hI2.vlen;rw [List.length_append,List.length_singleton] at h1;have h2:=HG w true v;show ((parts w).length - (vis++ [v]).length)*5000+(r++nxW w true v).length<((parts w).length - vis.length)*5000+(r++ [v]).length;simp only [List.length_append,List.length_singleton];omega,At hF [22,26,23,40] rfl (by simp only [D0,List.append_nil];rfl) ⟨rfl,rfl,rfl,rfl,rfl,trivial⟩⟩
   ·refine C5 (AE ?_)
    have hs0:stk=[]:=by
     have h1:=h71;exact List.length_eq_zero_iff.1 (by omega)
    subst hs0;have hcl:=hI.clo hw haR;have hol:=E9 hw hI.nd hI.vl;have hfw:=hw.few;refine AH (AC Z Z (U (JC Og (outS w vis) (by omega) Z Z Z Z Z Z Z) (AF (AE ?_))));rw [hcl];have hcn:(outS w vis).length=(cloW w a true).length:=by rw [←hcl,Cj]
    refine OY (emb:=AU) 16 23 (cloW w a true) Z Z Z hcn Z Z Z (AH (AC Z Z (AD Z Z (AF (Aq ?_)))));exact ⟨_,[40],_,An rfl,rfl,rfl,by rw [if_pos haR],rfl⟩
theorem inj_snd {E:List (St×Nat)} (hn:(E.map Prod.snd).Nodup) {p q:St×Nat} (hp:p∈E) (hq:q∈E) (e:p.2=q.2):p=q:=by
 induction E with
 | nil=>exact by cases hp
 | cons a r ih=>
  obtain ⟨h1,h2⟩:a.2∉r.map Prod.snd∧(r.map Prod.snd).Nodup:=List.nodup_cons.1 hn;rcases List.mem_cons.1 hp with rfl | hp'<;>rcases List.mem_cons.1 hq with rfl | hq'
  ·rfl
  ·exact (h1 (List.mem_map.2 ⟨q,hq',e.symm⟩)).elim
  ·exact (h1 (List.mem_map.2 ⟨p,hp',e⟩)).elim
  ·exact ih h2 hp' hq'
theorem LR.set {M:MF} {b m:Nat} {E:List (St×Nat)} {lk:Nat ->List Lk} (h:LR M b m E lk) {x:St} {hd:Nat} (hm:(x,hd)∈E) (L:List Lk):LR (BU M hd (.map none (DJ L))) b m E (Ap lk hd L):=by
 have h1:b≠hd:=fun e=>by have:=h.sub _ hm;rw [←e,h.cell] at this;cases this
 have h2:m≠hd:=fun e=>h.ne (by rw [e];exact List.mem_map.2 ⟨_,hm,rfl⟩);refine ⟨by rw [ER h1];exact h.cell,by rw [ER h2];exact h.top,fun p hp=>?_,h.nd,h.ne⟩
 by_cases e:p.2=hd
 ·rw [e,D9,Di]
 ·rw [ER e,EV e];exact h.sub p hp
theorem LW.set {E:List (St×Nat)} {lk:Nat ->List Lk} {w w':Ws} (h:LW E lk w) (hnd:(E.map Prod.snd).Nodup) {x:St} {hd:Nat} (hm:(x,hd)∈E) {L:List Lk} (hR:w'.R=w.R) (hL:L.Nodup) (hs:∀l:Lk,l∈L↔(⟨x,l.t,l.r⟩:Lw)∈w'.K) (ho:∀l:Lw,l.f≠x ->(l∈w'.K↔l∈w.K)):LW E (Ap lk hd L) w':=by
 refine ⟨h.kd,fun y=>by rw [hR];exact h.ks y,fun p hp=>?_,fun p hp l=>?_⟩
 ·by_cases e:p.2=hd
  ·rw [e,Di];exact hL
  ·rw [EV e];exact h.ld p hp
 ·by_cases e:p.2=hd
  ·have hpe:=inj_snd hnd hp hm e;subst hpe;rw [Di];exact hs l
  ·rw [EV e,h.ls p hp l,ho];intro e2
   have e3:p=(x,hd):=by
    have:=Br h.kd hp;rw [show p.1=x from e2,Br h.kd hm] at this;injection this with this
    exact absurd this.symm e
   exact e (by rw [e3])
theorem MA {M:MF} {b m:Nat} {E:List (St×Nat)} {lk:Nat ->List Lk} {w:Ws} (hr:LR M b m E lk) (hl:LW E lk w) {x:St} {hd:Nat} (hm:(x,hd)∈E) {l:Lk} (hn:(⟨x,l.t,l.r⟩:Lw)∉w.K):Bg (BU M hd (.map none (DJ (lk hd++ [l])))) b (B3 w ⟨x,l.t,l.r⟩):=by
 have hln:l∉lk hd:=fun h=>hn ((hl.ls _ hm l).1 h);refine ⟨m,E,_,hr.set hm _,hl.set hr.nd hm rfl ?_ (fun l'=>?_) (fun l' hf=>?_)⟩
 ·exact List.nodup_append.2 ⟨hl.ld _ hm,by simp,fun a ha c hc e=>hln (by rw [←List.mem_singleton.1 hc,←e];exact ha)⟩
 ·show l'∈lk hd++ [l]↔_∈w.K++ [_];rw [List.mem_append,List.mem_append,hl.ls _ hm l',List.mem_singleton,List.mem_singleton];refine or_congr Iff.rfl ⟨fun e=>by rw [e],fun e=>?_⟩;injection e with _ e1 e2
  exact Lk.eq_iff.2 ⟨e1,e2⟩
 ·show l'∈w.K++ [_]↔_;rw [List.mem_append,List.mem_singleton];exact ⟨fun h=>h.elim id fun e=>absurd (by rw [e]) hf,.inl⟩
theorem MO {M:MF} {b m:Nat} {E:List (St×Nat)} {lk:Nat ->List Lk} {w:Ws} (hr:LR M b m E lk) (hl:LW E lk w) {x:St} {hd:Nat} (hm:(x,hd)∈E) (l:Lk):Bg (BU M hd (.map none (DJ ((lk hd).filter fun y=>!decide (y=l))))) b (C8 w ⟨x,l.t,l.r⟩):=by
 refine ⟨m,E,_,hr.set hm _,hl.set hr.nd hm rfl (List.Nodup.sublist List.filter_sublist (hl.ld _ hm)) (fun l'=>?_) (fun l' hf=>?_)⟩
 ·show l'∈(lk hd).filter _↔_∈w.K.filter _;rw [List.mem_filter,List.mem_filter,hl.ls _ hm l'];refine and_congr Iff.rfl ?_;simp only [Bool.not_eq_true',decide_eq_false_iff_not];refine not_congr ⟨fun e=>by rw [e],fun e=>?_⟩;injection e with _ e1 e2
  exact Lk.eq_iff.2 ⟨e1,e2⟩
 ·show l'∈w.K.filter _↔_;rw [List.mem_filter];exact ⟨fun h=>h.1,fun h=>⟨h,by simp only [Bool.not_eq_true',decide_eq_false_iff_not];exact fun e=>hf (by rw [e])⟩⟩
abbrev HLk (b:Nat) (l:Lw) (e:Int):Hp:=[(910,[.blk 24 [.d (pD b 0)]]),(911,[.blk 9 [.d (AU l.f)]]),(912,[.blk 42 [.d (B7 l.t),.d (AU l.r)]]),(913,[.blk 47 [.d (B7 e)]])]
theorem LG {M:MF} {b:Nat} {w:Ws} (h:Bg M b w) (l:Lw) (hf:l.f∈w.R) (e:Int):Jv Tryz.prog 33 [.ptr 913 0 0,.ptr 910 0 0,.ptr 911 0 0,.ptr 912 0 0] (HLk b l e++ [(40,[.multi M])]) fun r H'=>r= .tup []∧∃M',H'=HLk b l e++ [(40,[.multi M'])]∧Bg M' b (if e=0 then w else C8 w l):=by
 have hrep:=h;obtain ⟨m,E,lk,hr,hl⟩:=h;obtain ⟨hd,hm⟩:=hl.at hf;refine d_enter Tryz.func33 Z Z Tryz.ntmps33 Z Z Z fun F hF=>(AE (AH ?_))
 first | refine J (AZ Z Z on47 rfl) ?_ | refine J (AX Z Z Z on47 rfl) ?_ | refine J (AY Z Z (rfl) rfl on47 rfl) ?_
 first | refine J (I8 Z Z Z) ?_ | refine J (I7 Z Z Z) ?_ | refine J (IF Z Z Z) ?_ | refine J (I2 Tryz.underlying47 Z Z Z) ?_ | refine J (I4 Tryz.underlying47 Z Z Z) ?_ | refine J (st_neqN Tryz.underlying47 Z Z) ?_ | refine J (st_neqPr Tryz.underlying47 Z Z) ?_ | refine J (st_neqMz Tryz.underlying47 Z Z) ?_ | refine J (I3 Tryz.underlying47 Z Z Z) ?_ | refine J (st_neqFN Tryz.underlying47 Z Z) ?_
 refine AF ?_
 first | refine Az rfl (fun h5=>?_) (fun h5=>?_) | refine Aw rfl (fun h5=>?_) (fun h5=>?_)
 ·refine FK [[],[0],[0,1],[0,1,2],[],[0,1,2,3,4],[],[0,1,2,3,4,5,6]] mixed rfl (D1 ?_)
  first | refine AG [1] [] Z Z (fun _=>AB (AZ Z Z BL rfl)) ?_ | refine AI [1] Z Z (fun _=>AB (AZ Z Z BL rfl)) ?_ | refine AG [1] [] Z Z (fun _=>AB (AX Z Z Z BL rfl)) ?_ | refine AI [1] Z Z (fun _=>AB (AX Z Z Z BL rfl)) ?_ | refine AG [1] [] Z Z (fun _=>AB (AY Z Z (rfl) rfl BL rfl)) ?_ | refine AI [1] Z Z (fun _=>AB (AY Z Z (rfl) rfl BL rfl)) ?_
  first | refine AG [6] [] Z Z (fun _=>AB (GP Z Z)) ?_ | refine AI [6] Z Z (fun _=>AB (GP Z Z)) ?_ | refine AG [6] [] Z Z (fun _=>AB (GR Z Z)) ?_ | refine AI [6] Z Z (fun _=>AB (GR Z Z)) ?_ | refine AG [6] [] Z Z (fun _=>AB (GQ Z Z)) ?_ | refine AI [6] Z Z (fun _=>AB (GQ Z Z)) ?_ | refine AG [6] [] Z Z (fun _=>AB (GS Z Z)) ?_ | refine AI [6] Z Z (fun _=>AB (GS Z Z)) ?_
  first | refine AG [7] [] Z Z (fun _=>AB (A2 rfl Ac Z Z Z)) ?_ | refine AI [7] Z Z (fun _=>AB (A2 rfl Ac Z Z Z)) ?_ | refine AG [7] [] Z Z (fun _=>AB (A4 rfl Ac Z Z Z)) ?_ | refine AI [7] Z Z (fun _=>AB (A4 rfl Ac Z Z Z)) ?_ | refine AG [7] [] Z Z (fun _=>AB (A5 rfl Ac Z Z Z)) ?_ | refine AI [7] Z Z (fun _=>AB (A5 rfl Ac Z Z Z)) ?_ | refine AG [7] [] Z Z (fun _=>AB (A3 rfl Ac Z Z Z)) ?_ | refine AI [7] Z Z (fun _=>AB (A3 rfl Ac Z Z Z)) ?_ | refine AG [7] [] Z Z (fun _=>AB (A1 rfl Ac Z Z Z)) ?_ | refine AI [7] Z Z (fun _=>AB (A1 rfl Ac Z Z Z)) ?_
  first | refine AG [8] [] Z Z (fun _=>AB (Gi (f:=40) Z Z (hr.cell) rfl CB rfl)) ?_ | refine AI [8] Z Z (fun _=>AB (Gi (f:=40) Z Z (hr.cell) rfl CB rfl)) ?_
  first | refine AG [2] [] Z Z (fun _=>AB (AZ Z Z AR rfl)) ?_ | refine AI [2] Z Z (fun _=>AB (AZ Z Z AR rfl)) ?_ | refine AG [2] [] Z Z (fun _=>AB (AX Z Z Z AR rfl)) ?_ | refine AI [2] Z Z (fun _=>AB (AX Z Z Z AR rfl)) ?_ | refine AG [2] [] Z Z (fun _=>AB (AY Z Z (rfl) rfl AR rfl)) ?_ | refine AI [2] Z Z (fun _=>AB (AY Z Z (rfl) rfl AR rfl)) ?_
  first | refine AG [9,10] [] Z Z (fun _=>AB (HY (f:=40) (eE E) l.f none (some hd) Z Z hr.top rfl Cc EU EX (Br hl.kd hm) rfl)) ?_ | refine AI [9,10] Z Z (fun _=>AB (HY (f:=40) (eE E) l.f none (some hd) Z Z hr.top rfl Cc EU EX (Br hl.kd hm) rfl)) ?_
  first | refine AG [3] [] Z Z (fun _=>AB (BN Z Z Am rfl)) ?_ | refine AI [3] Z Z (fun _=>AB (BN Z Z Am rfl)) ?_ | refine AG [3] [] Z Z (fun _=>AB (BO Z Z Am Z Z Z)) ?_ | refine AI [3] Z Z (fun _=>AB (BO Z Z Am Z Z Z)) ?_ | refine AG [3] [] Z Z (fun _=>AB (BP Z Z (rfl) rfl Am rfl)) ?_ | refine AI [3] Z Z (fun _=>AB (BP Z Z (rfl) rfl Am rfl)) ?_
  refine D2 7 Z Z Z (BY 8 Z Z (U (Gq (f:=40) (DL (lk hd)) (⟨l.t,l.r⟩) (true) Z Z (hr.sub _ hm) rfl G8 J4 rfl) (AF ⟨rfl,?_⟩)));refine Eg ?_;exact ⟨_,[910,911,912,913,40],_,An rfl,rfl,rfl,rfl,_,rfl,by rw [if_neg h5,Io (hl.ld _ hm)];exact MO hr hl hm _⟩
 ·refine Ai ?_;exact ⟨_,[910,911,912,913,40],_,An rfl,rfl,rfl,rfl,_,rfl,by rw [if_pos (Classical.not_not.1 h5)];exact hrep⟩
end Go.Proofs.YtlmedakidpaeeaaGreat
