/- Layer 27: Remove, walked. -/
import Derived.Test.YtlmedakidpaeeaaMg20
namespace Go.Proofs.Ytlmedakidpaeeaa
open Go.RowKit
set_option maxRecDepth 100000
theorem eE_del {E:List (St×Nat)} {x:St} (hn:(E.map Prod.fst).Nodup):NG (eE E) x=eE (E.filter fun p=>!decide (p.1=x)):=by
 unfold NG
 induction E with
 | nil=>rfl
 | cons p r ih=>
  obtain ⟨h1,h2⟩:p.1∉r.map Prod.fst∧(r.map Prod.fst).Nodup:=List.nodup_cons.1 hn;show List.eraseIdx ((p.1,some p.2)::eE r) (if x=p.1 then 0 else DZ (eE r) x+1)=_
  by_cases e:x=p.1
  ·subst e;rw [if_pos rfl,List.filter_cons,List.filter_eq_self.2 fun y hy=>by simp;exact fun e=>h1 (by rw [←e];exact List.mem_map_of_mem hy)]
   simp
  ·have e':¬p.1=x:=fun h=>e h.symm;rw [if_neg e,List.eraseIdx_cons_succ,ih h2,List.filter_cons]
   simp [e']
def OT (l:Lk) (L:List Lk):List Lk:=L.filter fun y=>!decide (y=l)
def J4 (x:St) (L:List Lk):List Lk:=OT ⟨1,x⟩ (OT ⟨0,x⟩ L)
theorem ME {l y:Lk} {L:List Lk}:y∈OT l L↔y∈L∧y≠l:=by unfold OT;rw [List.mem_filter];simp
theorem QE {x:St} {L:List Lk} {l:Lk}:l∈J4 x L↔l∈L∧l≠⟨0,x⟩∧l≠⟨1,x⟩:=by unfold J4;rw [ME,ME,and_assoc]
theorem Kb {l:Lk} {L:List Lk} (h:L.Nodup):(OT l L).Nodup:=List.Nodup.sublist List.filter_sublist h
theorem cutL_nd {x:St} {L:List Lk} (h:L.Nodup):(J4 x L).Nodup:=Kb (Kb h)
abbrev cutE (x:St) (E:List (St×Nat)):List (St×Nat):=E.filter fun p=>!decide (p.1=x)
theorem FN {x:St} {E:List (St×Nat)} {p:St×Nat}:p∈cutE x E↔p∈E∧p.1≠x:=by rw [List.mem_filter];simp
theorem LW.cut {E:List (St×Nat)} {lk lk':Nat ->List Lk} {w:Ws} (h:LW E lk w) (hw:Bc w) (x:St) (hk:∀p∈cutE x E,lk' p.2=J4 x (lk p.2)):LW (cutE x E) lk' (DT w x):=by
 have hm:∀p∈cutE x E,p∈E∧p.1≠x:=fun p hp=>FN.1 hp;refine ⟨List.Nodup.sublist (List.Sublist.map _ List.filter_sublist) h.kd,fun y=>?_,fun p hp=>?_,fun p hp l=>?_⟩
 ·show y∈(cutE x E).map Prod.fst↔y∈w.R.filter _;rw [List.mem_map,List.mem_filter,←h.ks y,List.mem_map]
  constructor
  ·rintro ⟨p,hp,rfl⟩;exact ⟨⟨p,(hm p hp).1,rfl⟩,by simpa using (hm p hp).2⟩
  ·rintro ⟨⟨p,hp,rfl⟩,hy⟩;exact ⟨p,FN.2 ⟨hp,by simpa using hy⟩,rfl⟩
 ·rw [hk p hp];exact cutL_nd (h.ld p (hm p hp).1)
 ·rw [hk p hp,QE,h.ls p (hm p hp).1 l];show _↔_∈w.K.filter _;rw [List.mem_filter];refine and_congr_right fun hK=>?_;have ht:=(hw.lk _ hK).2.2.2;have h1:p.1≠x:=(hm p hp).2;simp only [Bool.and_eq_true,Bool.not_eq_true',decide_eq_false_iff_not]
  constructor
  ·rintro ⟨g1,g2⟩;refine ⟨h1,fun e=>?_⟩;rcases ht with ht | ht
   ·exact g1 (Lk.eq_iff.2 ⟨ht,e⟩)
   ·exact g2 (Lk.eq_iff.2 ⟨ht,e⟩)
  ·rintro ⟨_,g⟩;exact ⟨fun e=>g (by rw [e]),fun e=>g (by rw [e])⟩
theorem LR.del {N:MF} {b m:Nat} {E:List (St×Nat)} {lk:Nat ->List Lk} (h:LR N b m E lk) (x:St):LR (BD N m (.map none (CS (cutE x E)))) b m (cutE x E) lk:=by
 have h3:b≠m:=fun e=>by have:=h.cell;rw [e,h.top] at this;cases this
 have h6:∀p∈E,p.2≠m:=fun p hp e=>h.ne (by rw [←e];exact List.mem_map_of_mem hp);refine ⟨by rw [Dk h3];exact h.cell,DW _ _ _,fun p hp=>?_,List.Nodup.sublist (List.Sublist.map _ List.filter_sublist) h.nd,fun hh=>h.ne ?_⟩
 ·have hp':=(FN.1 hp).1;rw [Dk (h6 p hp')];exact h.sub p hp'
 ·obtain ⟨p,hp,e⟩:=List.mem_map.1 hh;rw [←e];exact List.mem_map_of_mem (FN.1 hp).1
structure LC (N:MF) (b m:Nat) (bs:Option (List Nat×Nat)) (E:List (St×Nat)) (lk:Nat ->List Lk):Prop where
 cell:N b=some (.cells 68 [mD m])
 top:N m=some (.map bs (CS E))
 sub:∀p∈E,N p.2=some (.map none (CI (lk p.2)))
theorem LC.set {M:MF} {b m:Nat} {bs:Option (List Nat×Nat)} {E:List (St×Nat)} {lk:Nat ->List Lk} (h:LC M b m bs E lk) (hne:m∉E.map Prod.snd) {x:St} {hd:Nat} (hm:(x,hd)∈E) (L:List Lk):LC (BD M hd (.map none (CI L))) b m bs E (Al lk hd L):=by
 have h1:b≠hd:=fun e=>by have:=h.sub _ hm;rw [←e,h.cell] at this;cases this
 have h2:m≠hd:=fun e=>hne (by rw [e];exact List.mem_map.2 ⟨_,hm,rfl⟩);refine ⟨by rw [Dk h1];exact h.cell,by rw [Dk h2];exact h.top,fun p hp=>?_⟩
 by_cases e:p.2=hd
 ·rw [e,DW,Dl]
 ·rw [Dk e,EU e];exact h.sub p hp
theorem LR.lc {N:MF} {b m:Nat} {E:List (St×Nat)} {lk:Nat ->List Lk} (h:LR N b m E lk) (bs:Option (List Nat×Nat)):LC (BD N m (.map bs (CS E))) b m bs E lk:=by
 have h3:b≠m:=fun e=>by have:=h.cell;rw [e,h.top] at this;cases this
 have h6:∀p∈E,p.2≠m:=fun p hp e=>h.ne (by rw [←e];exact List.mem_map_of_mem hp);exact ⟨by rw [Dk h3];exact h.cell,DW _ _ _,fun p hp=>by rw [Dk (h6 p hp)];exact h.sub p hp⟩
theorem LC.lr {N:MF} {b m:Nat} {bs:Option (List Nat×Nat)} {E:List (St×Nat)} {lk:Nat ->List Lk} (h:LC N b m bs E lk) (hnd:(E.map Prod.snd).Nodup) (hne:m∉E.map Prod.snd):LR (BD N m (.map none (CS E))) b m E lk:=by
 have h3:b≠m:=fun e=>by have:=h.cell;rw [e,h.top] at this;cases this
 have h6:∀p∈E,p.2≠m:=fun p hp e=>hne (by rw [←e];exact List.mem_map_of_mem hp);exact ⟨by rw [Dk h3];exact h.cell,DW _ _ _,fun p hp=>by rw [Dk (h6 p hp)];exact h.sub p hp,hnd,hne⟩
def hdL (e:St×Option Nat):Nat:=e.2.getD 0
theorem eE_hd (E:List (St×Nat)):(eE E).map hdL=E.map Prod.snd:=by rw [List.map_map];rfl
theorem Qd {x:St} {dn:List Nat} {hd:Nat} {lk1 lk2:Nat ->List Lk} (hD:∀h∈dn,lk2 h=J4 x (lk1 h)):∀h∈dn++ [hd],Al lk2 hd (J4 x (lk1 hd)) h=J4 x (lk1 h):=fun h hh=>by
 by_cases e:h=hd
 ·rw [e,Dl]
 ·rw [EU e];exact hD h ((List.mem_append.1 hh).resolve_right fun e2=>e (List.mem_singleton.1 e2))
theorem Qc {dn:List Nat} {hd:Nat} {lk1 lk2:Nat ->List Lk} {L:List Lk} (hU:∀h,h∉dn ->lk2 h=lk1 h):∀h,h∉dn++ [hd] ->Al lk2 hd L h=lk1 h:=fun h hh=>by
 rw [EU fun e=>hh (by rw [e];simp)];exact hU h fun e=>hh (List.mem_append_left _ e)
theorem un_r {M N:MF} {i:Nat} {o:A1} (hd:∀i m m',M i=some m ->N i=some m' ->False) (h:N i=some o):munion M N i=some o:=by
 refine Gb ?_ h
 cases hm:M i with
 | none=>rfl
 | some m=>exact (hd i m o hm h).elim
theorem rem9 {w:Ws} {x:St} (h:x∉w.R):remW w x=(w,9):=by unfold remW;rw [if_pos h]
theorem rem0 {w:Ws} {x:St} (h:x∈w.R):remW w x=if acyW (DT w x)=true then (DT w x,0) else (w,26):=by unfold remW;rw [if_neg fun hh=>hh h]
theorem Lg {M:MF} {b:Nat} {w:Ws} (h:B4 M b w) (hw:Bc w) (hK:w.K.length≤1000000) (x:St):AU Try.prog 26 [.d (pD b 0),.d (AW x)] [(40,[.multi M])] fun r H'=>∃M',r= .d (Bh (remW w x).2)∧H'=[(40,[.multi M'])]∧B4 M' b (remW w x).1:=by
 have hrep:=h;obtain ⟨m,E,lk,hr,hl⟩:=h;refine DA Try.func26 Z Z Try.ntmps26 Z Z Z fun F hF=>(AG (AH (AD Z Z (AF (AG (AG (AH (AC Z Z ?_))))))))
 first | refine J (EN Z Z Z) ?_ | refine J (EY Z Z Z) ?_ | refine J (Dy Z Z Z) ?_ | refine J (EP Try.underlying23 Z Z Z) ?_ | refine J (ES Try.underlying23 Z Z Z) ?_ | refine J (ER Try.underlying23 Z Z) ?_ | refine J (EX Try.underlying23 Z Z) ?_ | refine J (EW Try.underlying23 Z Z) ?_ | refine J (EQ Try.underlying23 Z Z Z) ?_ | refine J (EV Try.underlying23 Z Z) ?_
 refine AF (DX rfl (rfl) (Aj (AG (AG (AH (AC Z Z (AC Z Z (U (GR (In hrep x) rfl [40] ⟨rfl,trivial⟩ Z Z Z Z Z Z Z Z Z) ?_))))))))
 first | refine J (ET Z Z) ?_ | refine J (EO Z Z) ?_
 refine AF ?_
 first | refine BC rfl (fun h15=>?_) (fun h15=>?_) | refine Ax rfl (fun h15=>?_) (fun h15=>?_)
 ·refine AG (AH (AD Z Z (AF (At ?_))));exact ⟨_,[40],_,As rfl,rfl,rfl,M,by rw [rem9 h15],rfl,by rw [rem9 h15];exact hrep⟩
 ·refine Aj (AG (AH (AC Z Z ?_)));refine He (JF (Nu hrep) rfl [40,41] ⟨rfl,rfl,trivial⟩ Z Z Z Z (fun r H' ⟨b1,M1,e1,e2,_⟩=>by subst e1 e2;exact ⟨rfl,rfl,rfl⟩) rfl) rfl ?_;rintro _ ⟨r,H',⟨b1,N0,e1,e2,hc⟩,rfl⟩;subst e1 e2;refine AD Z Z (AF (AG ?_));have hxR:x∈w.R:=Classical.not_not.1 h15;obtain ⟨m1,E1,lk1,hr1,hl1⟩:=hc;refine AH (AC Z Z ?_)
  first | refine J (FB Z Z) ?_ | refine J (Ez Z Z) ?_ | refine J (FC Z Z) ?_ | refine J (FA Z Z) ?_
  first | refine J (A5 rfl A2 Z Z Z) ?_ | refine J (A7 rfl A2 Z Z Z) ?_ | refine J (A8 rfl A2 Z Z Z) ?_ | refine J (A6 rfl A2 Z Z Z) ?_ | refine J (A4 rfl A2 Z Z Z) ?_
  refine J (Fw (f:=41) Z Z hr1.cell rfl Bn rfl) (AC Z Z (U (GY (f:=41) (eE E1) x none Z Z hr1.top rfl Bx E0 rfl) (AF (AG (AG ?_)))));rw [eE_del hl1.kd];have hr2:=hr1.del x
  obtain ⟨N1,hN1⟩:∃N1,BD N0 m1 (.map none (CS (cutE x E1)))=N1:=⟨_,rfl⟩
  rw [hN1] at hr2⊢;refine Zcu 41 m1 rfl hr2.top (fun _ _=>rfl) fun B c hB hBn=>?_;have hc2:=hr2.lc (some (B,c))
  obtain ⟨N2,hN2⟩:∃N2,BD N1 m1 (.map (some (B,c)) (CS (cutE x E1)))=N2:=⟨_,rfl⟩
  rw [hN2] at hc2⊢;refine AH (AC Z Z ?_)
  first | refine J (FB Z Z) ?_ | refine J (Ez Z Z) ?_ | refine J (FC Z Z) ?_ | refine J (FA Z Z) ?_
  first | refine J (A5 rfl A2 Z Z Z) ?_ | refine J (A7 rfl A2 Z Z Z) ?_ | refine J (A8 rfl A2 Z Z Z) ?_ | refine J (A6 rfl A2 Z Z Z) ?_ | refine J (A4 rfl A2 Z Z Z) ?_
  refine J (Fw (f:=41) Z Z hc2.cell rfl Bn rfl) (U (Zcq 1 (f:=41) Z Z hc2.top rfl Bx Z Z Z Z) (AF (B7 (Ex (α:=List Nat×List Nat×(Nat ->List Lk)×MF) (fun q=>⟨52,[(0,.d (pD b 0)),(1,.d (AW x)),(5,(.d (pD b1 0))),(27,(.ptr 1 0 0))],[(1,[.iter 41 m1 c q.1]),(40,[.multi M]),(41,[.multi q.2.2.2])]⟩) (fun q=>LC q.2.2.2 b1 m1 (some (B,c)) (cutE x E1) q.2.2.1∧(q.2.1++(B6 (eE (cutE x E1)) B q.1).map hdL).Perm ((cutE x E1).map Prod.snd)∧(∀h∈q.2.1,q.2.2.1 h=J4 x (lk1 h))∧∀h,h∉q.2.1 ->q.2.2.1 h=lk1 h) (fun q=>(B6 (eE (cutE x E1)) B q.1).length) (([],[],lk1,N2)) (⟨hc2,by show ([]++(B6 (eE (cutE x E1)) B []).map hdL).Perm _;rw [Zct (by simpa [Aa] using hB),eE_hd];exact List.Perm.refl _,fun h hh=>(by cases hh),fun _ _=>rfl⟩) (BB hF [1,40,41] Z Z ⟨rfl,rfl,rfl,rfl,trivial⟩) ?_))));rintro ⟨seen,dn,lk2,N⟩ ⟨hC,hP,hD,hU⟩;dsimp only at hC hP hD hU⊢;refine AG (AH (DC (eE (cutE x E1)) Z Z Z (hC.top) rfl (fun hl28=>?_) (fun j28 b28 k28 v28 hm28 hb28 hB28 hp28=>⟨_,rfl,?_⟩)))
  ·rw [hl28] at hP;refine CY 41 m1 rfl hC.top rfl ?_
   first | refine J (B9 Z Z Z) ?_ | refine J (B8 Z Z Z) ?_
   refine AF (AG (DX Z Z (D3 (AG (AG ?_)))));refine a_only [40,41] hF Z Z ?_;have hr3:=hC.lr hr2.nd hr2.ne;have hP':dn.Perm ((cutE x E1).map Prod.snd):=by simpa using hP
   have hrep3:B4 _ b1 (DT w x):=⟨m1,_,lk2,hr3,hl1.cut hw x fun p hp=>hD p.2 (hP'.mem_iff.2 (List.mem_map_of_mem hp))⟩
   obtain ⟨N3,hN3⟩:∃N3,BD N m1 (.map none (CS (cutE x E1)))=N3:=⟨_,rfl⟩
   rw [hN3] at hr3 hrep3⊢;have hK3:(DT w x).K.length≤1000000:=Nat.le_trans (List.length_filter_le _ _) hK;have ho:=(G7 hrep3 (hw.cut x) hK3).by [(40,41)] rfl;refine AH (AC Z Z (U (GR ho rfl [41] ⟨rfl,trivial⟩ Z Z Z Z Z Z Z Z Z) (AC Z Z ?_)))
   first | refine J (B9 Z Z Z) ?_ | refine J (B8 Z Z Z) ?_
   first | refine J (B9 Z Z Z) ?_ | refine J (B8 Z Z Z) ?_
   refine AD Z Z (AD Z Z (AF (AG (AH (AC Z Z ?_)))))
   first | refine J (ET Z Z) ?_ | refine J (EO Z Z) ?_
   refine AF ?_
   first | refine BC rfl (fun h44=>?_) (fun h44=>?_) | refine Ax rfl (fun h44=>?_) (fun h44=>?_)
   ·refine AG (AH (AD Z Z (AF (At ?_))));have hac:acyW (DT w x)=false:=by simpa using h44
    have h26:remW w x=(w,26):=by rw [rem0 hxR,hac];rfl
    exact ⟨_,[40],_,As rfl,rfl,rfl,M,by rw [h26],rfl,by rw [h26];exact hrep⟩
   ·refine Aj (AG (AH (AC Z Z (AC Z Z ?_))))
    first | refine J (FB Z Z) ?_ | refine J (Ez Z Z) ?_ | refine J (FC Z Z) ?_ | refine J (FA Z Z) ?_
    first | refine J (A5 rfl A2 Z Z Z) ?_ | refine J (A7 rfl A2 Z Z Z) ?_ | refine J (A8 rfl A2 Z Z Z) ?_ | refine J (A6 rfl A2 Z Z Z) ?_ | refine J (A4 rfl A2 Z Z Z) ?_
    refine J (Fw (f:=41) Z Z hr3.cell rfl Bn rfl) ?_
    first | refine J (FB Z Z) ?_ | refine J (Ez Z Z) ?_ | refine J (FC Z Z) ?_ | refine J (FA Z Z) ?_
    first | refine J (A5 rfl A2 Z Z Z) ?_ | refine J (A7 rfl A2 Z Z Z) ?_ | refine J (A8 rfl A2 Z Z Z) ?_ | refine J (A6 rfl A2 Z Z Z) ?_ | refine J (A4 rfl A2 Z Z Z) ?_
    refine U (OJ (f:=40) Z Z Z Z (hr.cell) (by exact Nat.zero_lt_one) rfl sz66) (AF (AG (a_merge 41 40 Z Z Z Z Z Z Z Z Z fun hdis=>(AH (AD Z Z (AF (At ?_)))))));have hac:acyW (DT w x)=true:=by simpa using h44
    have h00:remW w x=(DT w x,0):=by rw [rem0 hxR,if_pos hac]
    exact ⟨_,[40],_,As rfl,rfl,rfl,_,by rw [h00],rfl,by rw [h00];exact ⟨m1,_,lk2,⟨Gc (DW _ _ _),un_r hdis hr3.top,fun p hp=>un_r hdis (hr3.sub p hp),hr3.nd,hr3.ne⟩,hl1.cut hw x fun p hp=>hD p.2 (hP'.mem_iff.2 (List.mem_map_of_mem hp))⟩⟩
  ·first | refine J (B9 Z Z Z) ?_ | refine J (B8 Z Z Z) ?_
   refine AF (AG (JG Z Z (Aj (B7 (AG ?_)))));obtain ⟨hd,hpe,hve⟩:=FP hm28;subst hve
   have hdn:hd∉dn:=fun hh=>by
    have h1:=hP.nodup_iff.2 hr2.nd;exact (List.nodup_append.1 h1).2.2 _ hh _ ((hp28.map hdL).mem_iff.2 (by simp [hdL])) rfl
   have hlk:=hU hd hdn;have hsub:=hC.sub _ hpe;have hE1:(k28,hd)∈E1:=(FN.1 hpe).1;have hnd:=hl1.ld _ hE1;rw [show lk2 (k28,hd).2=lk1 hd from hlk] at hsub;refine AH (J (Zcs (eE (cutE x E1)) j28 b28 Z Z Z (hC.top) hm28 hb28 rfl) ?_)
   first | refine J (B9 Z Z Z) ?_ | refine J (B8 Z Z Z) ?_
   refine AD Z Z (AF (AG (AH (AC Z Z (AC Z Z (J (Me LM P9 Z Z Z) (U (GY (f:=41) (Ci (lk1 hd)) ⟨0,x⟩ true Z Z hsub rfl FM Hk rfl) (AF ?_))))))));rw [IA hnd];refine AH (AC Z Z (AC Z Z (J (Me LM P9 Z Z Z) (U (GY (f:=41) (Ci (OT ⟨0,x⟩ (lk1 hd))) ⟨1,x⟩ true Z Z (by exact DW _ _ _) rfl FM Hk rfl) ?_))));rw [IA (Kb hnd)];refine AF ?_;exact ⟨(seen++ [b28],dn++ [hd],Al lk2 hd (J4 x (lk1 hd)),_),⟨by have:=hC.set hr2.ne hpe (J4 x (lk1 hd));rw [←Mg] at this;exact this,DK hP (y:=[hd]) (by simpa [hdL] using hp28.map hdL),by exact Qd hD,by exact Qc hU⟩,by show (B6 (eE (cutE x E1)) B (seen++ [b28])).length<(B6 (eE (cutE x E1)) B seen).length;rw [hp28.length_eq];exact Nat.lt_succ_self _,BB hF [1,40,41] rfl (rfl) ⟨rfl,rfl,rfl,rfl,trivial⟩⟩
abbrev Nj (l:Lw):D:= .agg [AW l.f,Bh l.t,AW l.r]
abbrev Kj (l:List Lw):D:= .sl none (l.map Nj)
abbrev LO (w:Ws):D:= .agg [stsD w.R,Kj w.K]
def lwC (l:Lw):List Value:=[K5 l.f,.int .i64 l.t,K5 l.r]
abbrev lwT:List TypeDesc:=[.string,.int .i64,.string]
theorem Lw.eq_iff {a b:Lw}:a=b↔a.f=b.f∧a.t=b.t∧a.r=b.r:=by cases a;cases b;simp
theorem QG (a b:Lw):BA (lwC a) (lwC b)=decide (a=b):=by
 simp only [lwC,BA,Iu,It,Lw.eq_iff,Bool.and_true,Bool.decide_and,Bool.and_assoc]
theorem Gf (a:Lw):An lwT (lwC a):=DO trivial (DO rfl (DO trivial Jr))
theorem Bj (l:List St) (x:St) (hl:l.length≤2000000):B3 Try.prog 40 [.d (stsD l),.d (AW x)] (Am (decide (x∈l))):=by
 refine DA Try.func40 Z Z Try.ntmps40 Z Z Z fun F hF=>(AG (AH ?_));refine AD Z Z (AF (AG (AG (AH (AD Z Z (AF (B7 (NZ (α:=Nat) (fun k=>⟨18,[(0,.d (stsD l)),(1,.d (AW x)),(5,(.d (natD k)))],[]⟩) (fun k=>k≤l.length∧x∉l.take k) (fun k=>l.length - k) (0) (⟨Nat.zero_le _,by simp⟩) (Fe ⟨rfl,rfl,rfl,trivial⟩) ?_))))))));rintro k ⟨hk,hx⟩;refine AG (AG (AH (AC Z Z (AC Z Z (J (Cd rfl (List.length_map ..) Try.underlying32 rfl) ?_)))))
 first | refine J (El Z Z Z) ?_ | refine J (Em Z Z Z) ?_
 refine AF ?_
 first | refine BC rfl (fun h9=>?_) (fun h9=>?_) | refine Ax rfl (fun h9=>?_) (fun h9=>?_)
 ·refine Aj (AG (B7 (AG ?_)));have hkl:k<l.length:=Gt h9;refine AH (AC Z Z (AC Z Z ?_))
  first | refine J (BO (k) Z Z (rfl) (D0 hkl) Try.underlying32 rfl Bl rfl) ?_ | refine J (BP (k) Z Z (rfl) (D0 hkl) rfl Try.underlying32 Bl rfl) ?_
  first | refine J (AZ Z Z AQ rfl) ?_ | refine J (AX Z Z Z AQ rfl) ?_ | refine J (AY Z Z (rfl) rfl AQ rfl) ?_
  refine AC Z Z ?_
  first | refine J (EN Z Z Z) ?_ | refine J (EY Z Z Z) ?_ | refine J (Dy Z Z Z) ?_ | refine J (EP Try.underlying9 Z Z Z) ?_ | refine J (ES Try.underlying9 Z Z Z) ?_ | refine J (ER Try.underlying9 Z Z) ?_ | refine J (EX Try.underlying9 Z Z) ?_ | refine J (EW Try.underlying9 Z Z) ?_ | refine J (EQ Try.underlying9 Z Z Z) ?_ | refine J (EV Try.underlying9 Z Z) ?_
  refine AF ?_
  first | refine BC rfl (fun h17=>?_) (fun h17=>?_) | refine Ax rfl (fun h17=>?_) (fun h17=>?_)
  ·refine AG (AH (AD Z Z (AF (At ?_))));exact ⟨_,[],[],As rfl,rfl,rfl,by rw [decide_eq_true (by rw [←h17,List.getD_eq_getElem?_getD,List.getElem?_eq_getElem hkl];exact List.getElem_mem hkl)],rfl⟩
  ·refine Aj (AH (AC Z Z (J (C5 Z Z (IntWalk.i64_in _ (by omega)) rfl) (AD Z Z (AF ?_)))));exact ⟨k+1,⟨hkl,fun hm=>by rw [List.take_succ_eq_append_getElem hkl] at hm;exact (List.mem_append.1 hm).elim hx fun e=>h17 (by rw [List.mem_singleton.1 e,List.getD_eq_getElem?_getD,List.getElem?_eq_getElem hkl];rfl)⟩,by omega,⟨rfl,rfl,fun _ _=>Has.get (l:=[(0,_),(1,_),(5,_)]) ⟨rfl,rfl,rfl,trivial⟩⟩⟩
 ·refine D3 (AG (AH (AD Z Z (AF (At ?_)))));exact ⟨_,[],[],As rfl,rfl,rfl,by rw [decide_eq_false (by rw [←List.take_of_length_le (i:=k) (l:=l) (by have:=h9;omega)];exact hx)],rfl⟩
theorem Ix (l:List St) (x:St) (hl:l.length≤2000000):B3 Try.prog 22 [.d (stsD l),.d (AW x)] (Am (decide (x∈l))):=by
 refine DA Try.func22 Z Z Try.ntmps22 Z Z Z fun F hF=>(AG (AH (AD Z Z ?_)));refine AF (AG (AH (AC Z Z (AC Z Z (J (DL (Bj l x hl) Z Z) (AD Z Z (AF (At ?_))))))));exact ⟨_,[],[],As rfl,rfl,rfl,rfl,rfl⟩
theorem DF {l:List Lw} {k:Nat} (h:k<l.length):(l.map Nj)[k]?=some (Nj l[k]):=by
 rw [List.getElem?_map,List.getElem?_eq_getElem h];rfl
theorem NO (w:Ws) (l:Lw) (hl:w.K.length≤2000000):B3 Try.prog 47 [.d (LO w),.d (Nj l)] (Am (decide (l∈w.K))):=by
 refine DA Try.func47 Z Z Try.ntmps47 Z Z Z fun F hF=>(AG (AH (U (JT 20 Z Z Z Z Z Z Z) (U (JT 21 Z Z Z Z Z Z Z) ?_))));refine AD Z Z (AF (AG (AG (AH (AD Z Z (AF (B7 (Ex (α:=Nat) (fun k=>⟨20,[(2,(.ptr 20 0 0)),(3,(.ptr 21 0 0)),(5,(.d (natD k)))],[(20,[.blk 35 [.d (stsD w.R),.d (Kj w.K)]]),(21,[.blk 71 [.d (AW l.f),.d (Bh l.t),.d (AW l.r)]])]⟩) (fun k=>k≤w.K.length∧l∉w.K.take k) (fun k=>w.K.length - k) (0) (⟨Nat.zero_le _,by simp⟩) (BB hF [20,21] Z Z ⟨rfl,rfl,rfl,trivial⟩) ?_))))))));rintro k ⟨hk,hx⟩;refine AG (AG (AH (AC Z Z ?_)))
 first | refine J (A5 rfl Ag Z Z Z) ?_ | refine J (A7 rfl Ag Z Z Z) ?_ | refine J (A8 rfl Ag Z Z Z) ?_ | refine J (A6 rfl Ag Z Z Z) ?_ | refine J (A4 rfl Ag Z Z Z) ?_
 first | refine J (AZ Z Z Az rfl) ?_ | refine J (AX Z Z Z Az rfl) ?_ | refine J (AY Z Z (rfl) rfl Az rfl) ?_
 refine J (Cd rfl (List.length_map ..) Try.underlying33 rfl) ?_
 first | refine J (El Z Z Z) ?_ | refine J (Em Z Z Z) ?_
 refine AF ?_
 first | refine BC rfl (fun h10=>?_) (fun h10=>?_) | refine Ax rfl (fun h10=>?_) (fun h10=>?_)
 ·refine Aj (AG (B7 (AG ?_)));have hkl:k<w.K.length:=Gt h10;refine F1 [[],[0],[],[0,1,2],[0,1,2,3],[],[0,1,2,3,4,5]] mixed rfl (D1 ?_)
  first | refine AE [2] [] Z Z (fun _=>AB (A5 rfl Ag Z Z Z)) ?_ | refine AI [2] Z Z (fun _=>AB (A5 rfl Ag Z Z Z)) ?_ | refine AE [2] [] Z Z (fun _=>AB (A7 rfl Ag Z Z Z)) ?_ | refine AI [2] Z Z (fun _=>AB (A7 rfl Ag Z Z Z)) ?_ | refine AE [2] [] Z Z (fun _=>AB (A8 rfl Ag Z Z Z)) ?_ | refine AI [2] Z Z (fun _=>AB (A8 rfl Ag Z Z Z)) ?_ | refine AE [2] [] Z Z (fun _=>AB (A6 rfl Ag Z Z Z)) ?_ | refine AI [2] Z Z (fun _=>AB (A6 rfl Ag Z Z Z)) ?_ | refine AE [2] [] Z Z (fun _=>AB (A4 rfl Ag Z Z Z)) ?_ | refine AI [2] Z Z (fun _=>AB (A4 rfl Ag Z Z Z)) ?_
  first | refine AE [13] [20] Z Z (fun _=>AB (AZ Z Z Az rfl)) ?_ | refine AE [13] [20] Z Z (fun _=>AB (AX Z Z Z Az rfl)) ?_ | refine AE [13] [20] Z Z (fun _=>AB (AY Z Z (rfl) rfl Az rfl)) ?_
  first | refine AE [5] [] Z Z (fun _=>AB (Ac Z Z)) ?_ | refine AI [5] Z Z (fun _=>AB (Ac Z Z)) ?_
  first | refine AE [14,15] [] Z Z (fun _=>AB (BO (k) Z Z (rfl) (DF hkl) Try.underlying33 rfl C8 rfl)) ?_ | refine AI [14,15] Z Z (fun _=>AB (BO (k) Z Z (rfl) (DF hkl) Try.underlying33 rfl C8 rfl)) ?_ | refine AE [14,15] [] Z Z (fun _=>AB (BP (k) Z Z (rfl) (DF hkl) rfl Try.underlying33 C8 rfl)) ?_ | refine AI [14,15] Z Z (fun _=>AB (BP (k) Z Z (rfl) (DF hkl) rfl Try.underlying33 C8 rfl)) ?_
  first | refine AE [16] [] Z Z (fun _=>AB (BX Z Z Av rfl)) ?_ | refine AI [16] Z Z (fun _=>AB (BX Z Z Av rfl)) ?_ | refine AE [16] [] Z Z (fun _=>AB (BY Z Z Av Z Z Z)) ?_ | refine AI [16] Z Z (fun _=>AB (BY Z Z Av Z Z Z)) ?_ | refine AE [16] [] Z Z (fun _=>AB (BZ Z Z (rfl) rfl Av rfl)) ?_ | refine AI [16] Z Z (fun _=>AB (BZ Z Z (rfl) rfl Av rfl)) ?_
  first | refine AE [3] [21] Z Z (fun _=>AB (BX Z Z Av rfl)) ?_ | refine AE [3] [21] Z Z (fun _=>AB (BY Z Z Av Z Z Z)) ?_ | refine AE [3] [21] Z Z (fun _=>AB (BZ Z Z (rfl) rfl Av rfl)) ?_
  refine D2 6 Z Z Z (BQ 7 Z Z (J (PR (la:=lwC w.K[k]) (lb:=lwC l) (ds:=lwT) (by kernel_rfl) (by kernel_rfl) (by kernel_rfl) Z Z Z Z (Gf _) (Gf _) (QG _ _) rfl) (AF ⟨rfl,?_⟩)));refine Ei ?_
  first | refine BC rfl (fun h19=>?_) (fun h19=>?_) | refine Ax rfl (fun h19=>?_) (fun h19=>?_)
  ·refine AG (AH (AD Z Z (AF (At ?_))));exact ⟨_,[],[],As rfl,rfl,rfl,by rw [decide_eq_true (by rw [←h19];exact List.getElem_mem hkl)],rfl⟩
  ·refine Aj (AH (AC Z Z (J (C5 Z Z (IntWalk.i64_in _ (by omega)) rfl) (AD Z Z (AF ?_)))));exact ⟨k+1,⟨hkl,fun hm=>by rw [List.take_succ_eq_append_getElem hkl] at hm;exact (List.mem_append.1 hm).elim hx fun e=>h19 (List.mem_singleton.1 e).symm⟩,by omega,BB hF [20,21] rfl (rfl) ⟨rfl,rfl,rfl,trivial⟩⟩
 ·refine D3 (AG (AH (AD Z Z (AF (At ?_)))));exact ⟨_,[],[],As rfl,rfl,rfl,by rw [decide_eq_false (by rw [←List.take_of_length_le (i:=k) (l:=w.K) (by have:=h10;omega)];exact hx)],rfl⟩
theorem Nk:∀(a b:List UInt8),Op.bytesLess a b=decide (a<b)
 | [],[]=>by simp [Op.bytesLess]
 | [],_::_=>by simp [Op.bytesLess]
 | _::_,[]=>by simp [Op.bytesLess]
 | a::x,b::y=>by
  simp only [Op.bytesLess,Nk x y];rw [Bool.eq_iff_iff]
  simp [List.cons_lt_cons_iff]
theorem QH (a b:St):AV.d (.raw (.bool (Op.bytesLess (⟨a.toArray⟩:ByteArray).toList (⟨b.toArray⟩:ByteArray).toList)))= .d (Am (decide (a<b))):=by
 rw [Lib.toList_data,Lib.toList_data];show AV.d (.raw (.bool (Op.bytesLess a b)))=_;rw [Nk]
def Hl (ins:Bool) (l:List St) (x:St):List St:=if ins then l else Bi l x
theorem LA {l:List St} {k:Nat} (h:k<l.length):l.drop k=l.getD k []::l.drop (k+1):=by
 rw [List.drop_eq_getElem_cons h,List.getD_eq_getElem?_getD,List.getElem?_eq_getElem h];rfl
theorem QY {out l:List St} {k:Nat} {x:St} (h:k<l.length) (hx:x<l.getD k []) (e:out++Hl false (l.drop k) x=Bi l x):(out++ [x]++ [l.getD k []])++Hl true (l.drop (k+1)) x=Bi l x:=by
 rw [←e,LA h];show (out++ [x]++ [l.getD k []])++l.drop (k+1)=out++Bi (l.getD k []::l.drop (k+1)) x;rw [show Bi (l.getD k []::l.drop (k+1)) x=x::l.getD k []::l.drop (k+1) by rw [Bi,if_pos hx]]
 simp
theorem Oi {out l:List St} {k:Nat} {x:St} (h:k<l.length) (hx:¬x<l.getD k []) (e:out++Hl false (l.drop k) x=Bi l x):(out++ [l.getD k []])++Hl false (l.drop (k+1)) x=Bi l x:=by
 rw [←e,LA h];simp only [Hl,Bi,if_neg hx]
 simp
theorem Oj {out l:List St} {k:Nat} {x:St} (h:k<l.length) (e:out++Hl true (l.drop k) x=Bi l x):(out++ [l.getD k []])++Hl true (l.drop (k+1)) x=Bi l x:=by
 rw [←e,LA h]
 simp [Hl]
theorem MR {out l:List St} {k:Nat} {x:St} {ins:Bool} (e:out++Hl ins (l.drop k) x=Bi l x):out.length≤l.length+1:=by
 have:=congrArg List.length e;rw [List.length_append,DR] at this;omega
theorem EJ (l:List St) (x:St) (hl:l.length≤100000):B3 Try.prog 54 [.d (stsD l),.d (AW x)] (stsD (Bi l x)):=by
 refine DA Try.func54 Z Z Try.ntmps54 Z Z Z fun F hF=>(AG (AH ?_));refine AD Z Z (AF (AG (AH (AD Z Z (AF (AG (AH (AD Z Z ?_))))))));refine AF (AG (AG (AH (AD Z Z (AF (B7 (Fj 5 1 Bf Z Z Z Z (Ex (α:=Nat×List St×Bool) (fun q=>⟨42,[(0,.d (stsD l)),(1,.d (AW x)),(5,(.own 1 0 q.2.1.length)),(6,(.d (Am q.2.2))),(7,(.d (natD q.1)))],[(1,[.rowD 9 1 (q.2.1.map AW)])]⟩) (fun q=>q.1≤l.length∧q.2.1++Hl q.2.2 (l.drop q.1) x=Bi l x) (fun q=>l.length - q.1) ((0,[],false)) (⟨Nat.zero_le _,by simp [Hl]⟩) (BB hF [1] Z Z ⟨rfl,rfl,rfl,rfl,rfl,trivial⟩) ?_))))))));rintro ⟨k,out,ins⟩ ⟨hk,he⟩;dsimp only at hk he⊢;refine AG (AG (AH (AC Z Z (AC Z Z (J (Cd rfl (List.length_map ..) Try.underlying32 rfl) ?_)))))
 first | refine J (El Z Z Z) ?_ | refine J (Em Z Z Z) ?_
 refine AF ?_
 first | refine BC rfl (fun h11=>?_) (fun h11=>?_) | refine Ax rfl (fun h11=>?_) (fun h11=>?_)
 ·refine Aj (AG (B7 (AG (AG ?_))));have hkl:k<l.length:=Gt h11;have hol:=MR he;refine AH (AC Z Z ?_)
  first | refine J (ET Z Z) ?_ | refine J (EO Z Z) ?_
  refine AC Z Z ?_
  first | refine Hq 16 rfl (fun h16=>?_) (fun h16=>?_) | refine HP 16 rfl (fun h16=>?_) (fun h16=>?_)
  ·refine A3 Z Z Z (AC Z Z (A3 Z Z Z (AC Z Z (A3 Z Z Z (AC Z Z (A3 Z Z Z ?_))))))
   first | refine J (BO (k) Z Z (rfl) (D0 hkl) Try.underlying32 rfl Bl rfl) ?_ | refine J (BP (k) Z Z (rfl) (D0 hkl) rfl Try.underlying32 Bl rfl) ?_
   refine A3 Z Z Z ?_
   first | refine J (AZ Z Z AQ rfl) ?_ | refine J (AX Z Z Z AQ rfl) ?_ | refine J (AY Z Z (rfl) rfl AQ rfl) ?_
   refine A3 Z Z Z ?_
   first | refine J (El Z Z Z) ?_ | refine J (Em Z Z Z) ?_
   refine ND 22 (.d (Am (decide (x<l.getD k [])))) rfl (QH _ _) (J (GS Z Z Z Z) (AF ?_))
   first | refine BC rfl (fun h23=>?_) (fun h23=>?_) | refine Ax rfl (fun h23=>?_) (fun h23=>?_)
   ·refine AG (AH (AC Z Z (AC Z Z (U (Gp 21 Bf Z Z Z Z Z Z Z Z) ?_))))
    first | refine U (JM (out) ([x]) Z Z Z Z Z Z Z Z Bf (by simp only [List.length_singleton];omega) Z Z Z Z) ?_ | refine U (KX (out) ([x]) Z Z Z Z Z Z (fun _=>rfl) Bf (by simp only [List.length_singleton];omega) Z Z Z Z) ?_
    refine AD Z Z (AF (AH (AD Z Z (AF (AH (AC Z Z (AC Z Z (AC Z Z ?_))))))))
    first | refine J (BO (k) Z Z (rfl) (D0 hkl) Try.underlying32 rfl Bl rfl) ?_ | refine J (BP (k) Z Z (rfl) (D0 hkl) rfl Try.underlying32 Bl rfl) ?_
    first | refine J (AZ Z Z AQ rfl) ?_ | refine J (AX Z Z Z AQ rfl) ?_ | refine J (AY Z Z (rfl) rfl AQ rfl) ?_
    refine U (Gp 22 Bf Z Z Z Z Z Z Z Z) ?_
    first | refine U (JM (out++ [x]) ([l.getD k []]) Z Z Z Z Z Z Z Z Bf (by simp only [List.length_append,List.length_singleton];omega) Z Z Z Z) ?_ | refine U (KX (out++ [x]) ([l.getD k []]) Z Z Z Z Z Z (fun _=>rfl) Bf (by simp only [List.length_append,List.length_singleton];omega) Z Z Z Z) ?_
    refine AD Z Z (AF (AH (AC Z Z (J (C5 Z Z (IntWalk.i64_in _ (by omega)) rfl) (AD Z Z (AF ?_))))));exact ⟨(k+1,_,true),⟨hkl,QY hkl h23 (by have:ins=false:=(by simpa using h16);rw [this] at he;exact he)⟩,by show l.length - (k+1)<l.length - k;omega,BB hF [1] rfl (rfl) ⟨rfl,rfl,rfl,rfl,rfl,trivial⟩⟩
   ·refine Aj (AH (AC Z Z (AC Z Z (AC Z Z ?_))))
    first | refine J (BO (k) Z Z (rfl) (D0 hkl) Try.underlying32 rfl Bl rfl) ?_ | refine J (BP (k) Z Z (rfl) (D0 hkl) rfl Try.underlying32 Bl rfl) ?_
    first | refine J (AZ Z Z AQ rfl) ?_ | refine J (AX Z Z Z AQ rfl) ?_ | refine J (AY Z Z (rfl) rfl AQ rfl) ?_
    refine U (Gp 22 Bf Z Z Z Z Z Z Z Z) ?_
    first | refine U (JM (out) ([l.getD k []]) Z Z Z Z Z Z Z Z Bf (by simp only [List.length_singleton];omega) Z Z Z Z) ?_ | refine U (KX (out) ([l.getD k []]) Z Z Z Z Z Z (fun _=>rfl) Bf (by simp only [List.length_singleton];omega) Z Z Z Z) ?_
    refine AD Z Z (AF (AH (AC Z Z (J (C5 Z Z (IntWalk.i64_in _ (by omega)) rfl) (AD Z Z (AF ?_))))));exact ⟨(k+1,_,ins),⟨hkl,by have:ins=false:=(by simpa using h16);rw [this] at he⊢;exact Oi hkl h23 he⟩,by show l.length - (k+1)<l.length - k;omega,BB hF [1] rfl (rfl) ⟨rfl,rfl,rfl,rfl,rfl,trivial⟩⟩
  ·refine Aw Z Z Z Z (Aw Z Z Z Z (Aw Z Z Z Z (Aw Z Z Z Z (Aw Z Z Z Z ?_))));refine Aw Z Z Z Z (J (En Z Z Z Z) (AF (DX Z Z (Aj (AH (AC Z Z (AC Z Z (AC Z Z ?_))))))))
   first | refine J (BO (k) Z Z (rfl) (D0 hkl) Try.underlying32 rfl Bl rfl) ?_ | refine J (BP (k) Z Z (rfl) (D0 hkl) rfl Try.underlying32 Bl rfl) ?_
   first | refine J (AZ Z Z AQ rfl) ?_ | refine J (AX Z Z Z AQ rfl) ?_ | refine J (AY Z Z (rfl) rfl AQ rfl) ?_
   refine U (Gp 22 Bf Z Z Z Z Z Z Z Z) ?_
   first | refine U (JM (out) ([l.getD k []]) Z Z Z Z Z Z Z Z Bf (by simp only [List.length_singleton];omega) Z Z Z Z) ?_ | refine U (KX (out) ([l.getD k []]) Z Z Z Z Z Z (fun _=>rfl) Bf (by simp only [List.length_singleton];omega) Z Z Z Z) ?_
   refine AD Z Z (AF (AH (AC Z Z (J (C5 Z Z (IntWalk.i64_in _ (by omega)) rfl) (AD Z Z (AF ?_))))));exact ⟨(k+1,_,ins),⟨hkl,by have:ins=true:=(by simpa using h16);rw [this] at he⊢;exact Oj hkl he⟩,by show l.length - (k+1)<l.length - k;omega,BB hF [1] rfl (rfl) ⟨rfl,rfl,rfl,rfl,rfl,trivial⟩⟩
 ·refine D3 (AG (AG ?_));have hke:k=l.length:=by have:=h11;omega
  have hol:=MR he;rw [hke,List.drop_length] at he;have hin1:ins=false ->out++ [x]=Bi l x:=fun e=>by rw [e] at he;exact he
  have hin0:ins=true ->out=Bi l x:=fun e=>by rw [e] at he;simpa [Hl] using he
  refine AH (AC Z Z ?_)
  first | refine J (ET Z Z) ?_ | refine J (EO Z Z) ?_
  refine AF ?_
  first | refine BC rfl (fun h36=>?_) (fun h36=>?_) | refine Ax rfl (fun h36=>?_) (fun h36=>?_)
  ·refine AH (AC Z Z (AC Z Z (U (Gp 23 Bf Z Z Z Z Z Z Z Z) ?_)))
   first | refine U (JM (out) ([x]) Z Z Z Z Z Z Z Z Bf (by simp only [List.length_singleton];omega) Z Z Z Z) ?_ | refine U (KX (out) ([x]) Z Z Z Z Z Z (fun _=>rfl) Bf (by simp only [List.length_singleton];omega) Z Z Z Z) ?_
   refine AD Z Z (AF (AG ?_))
   first | refine Zcl (emb:=AW) 5 1 (out++ [x]) Z Z Z Z Z Z Z ?_ | refine Zcl (emb:=AW) 5 1 out Z Z Z Z Z Z Z ?_
   refine AH (AC Z Z (AD Z Z (AF (At ?_))));exact ⟨_,[],[],As rfl,rfl,rfl,by first | rw [hin1 (by simpa using h36)] | rw [hin0 (by simpa using h36)],rfl⟩
  ·refine Aj (AG ?_)
   first | refine Zcl (emb:=AW) 5 1 (out++ [x]) Z Z Z Z Z Z Z ?_ | refine Zcl (emb:=AW) 5 1 out Z Z Z Z Z Z Z ?_
   refine AH (AC Z Z (AD Z Z (AF (At ?_))));exact ⟨_,[],[],As rfl,rfl,rfl,by first | rw [hin1 (by simpa using h36)] | rw [hin0 (by simpa using h36)],rfl⟩
def PB (K:List Lw) (g g2:List St):Prop:=∃l∈K,l.t=1∧l.f∈g∧l.r∈g2
noncomputable instance (K:List Lw) (g g2:List St):Decidable (PB K g g2):=Classical.propDecidable _
abbrev JA (f:Nat) (w:Ws):Nat×List AJ:=(f,[.blk 35 [.d (stsD w.R),.d (Kj w.K)]])
theorem KK (w:Ws) (g g2:List St) (hl:w.K.length≤2000000) (hg:g.length≤2000000) (hg2:g2.length≤2000000):B3 Try.prog 56 [.d (LO w),.d (stsD g),.d (stsD g2)] (Am (decide (PB w.K g g2))):=by
 refine DA Try.func56 Z Z Try.ntmps56 Z Z Z fun F hF=>(AG (AH (U (JT 20 Z Z Z Z Z Z Z) ?_)));refine AD Z Z (AF (AG (AG (AH (AD Z Z (AF (B7 (Ex (α:=Nat) (fun k=>⟨36,[(1,.d (stsD g)),(2,.d (stsD g2)),(3,(.ptr 20 0 0)),(7,(.d (natD k)))],[JA 20 w]⟩) (fun k=>k≤w.K.length∧¬PB (w.K.take k) g g2) (fun k=>w.K.length - k) (0) (⟨Nat.zero_le _,fun ⟨l,hl,_⟩=>by simp at hl⟩) (BB hF [20] Z Z ⟨rfl,rfl,rfl,rfl,trivial⟩) ?_))))))));rintro k ⟨hk,hx⟩;refine AG (AG (AH (AC Z Z ?_)))
 first | refine J (A5 rfl Ag Z Z Z) ?_ | refine J (A7 rfl Ag Z Z Z) ?_ | refine J (A8 rfl Ag Z Z Z) ?_ | refine J (A6 rfl Ag Z Z Z) ?_ | refine J (A4 rfl Ag Z Z Z) ?_
 first | refine J (AZ Z Z Az rfl) ?_ | refine J (AX Z Z Z Az rfl) ?_ | refine J (AY Z Z (rfl) rfl Az rfl) ?_
 refine J (Cd rfl (List.length_map ..) Try.underlying33 rfl) ?_
 first | refine J (El Z Z Z) ?_ | refine J (Em Z Z Z) ?_
 refine AF ?_
 first | refine BC rfl (fun h13=>?_) (fun h13=>?_) | refine Ax rfl (fun h13=>?_) (fun h13=>?_)
 ·refine Aj (AG (B7 (AG ?_)));have hkl:k<w.K.length:=Gt h13;refine AH ?_
  first | refine J (A5 rfl Ag Z Z Z) ?_ | refine J (A7 rfl Ag Z Z Z) ?_ | refine J (A8 rfl Ag Z Z Z) ?_ | refine J (A6 rfl Ag Z Z Z) ?_ | refine J (A4 rfl Ag Z Z Z) ?_
  first | refine J (AZ Z Z Az rfl) ?_ | refine J (AX Z Z Z Az rfl) ?_ | refine J (AY Z Z (rfl) rfl Az rfl) ?_
  refine AC Z Z ?_
  first | refine J (BO (k) Z Z (rfl) (DF hkl) Try.underlying33 rfl C8 rfl) ?_ | refine J (BP (k) Z Z (rfl) (DF hkl) rfl Try.underlying33 C8 rfl) ?_
  first | refine J (BX Z Z Av rfl) ?_ | refine J (BY Z Z Av Z Z Z) ?_ | refine J (BZ Z Z (rfl) rfl Av rfl) ?_
  refine U (HQ 25 zl71 Z Z Z Z) (U (Bq Z Z Z Z Z Z Z C8) (AF (AG (AH ?_))))
  first | refine J (A5 rfl KW Z Z Z) ?_ | refine J (A7 rfl KW Z Z Z) ?_ | refine J (A8 rfl KW Z Z Z) ?_ | refine J (A6 rfl KW Z Z Z) ?_ | refine J (A4 rfl KW Z Z Z) ?_
  first | refine J (AZ Z Z Bv rfl) ?_ | refine J (AX Z Z Z Bv rfl) ?_ | refine J (AY Z Z (rfl) rfl Bv rfl) ?_
  first | refine J (EN Z Z Z) ?_ | refine J (EY Z Z Z) ?_ | refine J (Dy Z Z Z) ?_ | refine J (EP Try.underlying3 Z Z Z) ?_ | refine J (ES Try.underlying3 Z Z Z) ?_ | refine J (ER Try.underlying3 Z Z) ?_ | refine J (EX Try.underlying3 Z Z) ?_ | refine J (EW Try.underlying3 Z Z) ?_ | refine J (EQ Try.underlying3 Z Z Z) ?_ | refine J (EV Try.underlying3 Z Z) ?_
  refine AC Z Z ?_
  first | refine Hq 24 rfl (fun h24=>?_) (fun h24=>?_) | refine HP 24 rfl (fun h24=>?_) (fun h24=>?_)
  ·refine A3 Z Z Z (AC Z Z (A3 Z Z Z ?_))
   first | refine J (A5 rfl CE Z Z Z) ?_ | refine J (A7 rfl CE Z Z Z) ?_ | refine J (A8 rfl CE Z Z Z) ?_ | refine J (A6 rfl CE Z Z Z) ?_ | refine J (A4 rfl CE Z Z Z) ?_
   refine A3 Z Z Z ?_
   first | refine J (AZ Z Z AQ rfl) ?_ | refine J (AX Z Z Z AQ rfl) ?_ | refine J (AY Z Z (rfl) rfl AQ rfl) ?_
   refine A3 Z Z Z (J (DL (Bj g (w.K[k]).f hg) Z Z) (J (GS Z Z Z Z) (AC Z Z ?_)))
   first | refine Hq 30 rfl (fun h30=>?_) (fun h30=>?_) | refine HP 30 rfl (fun h30=>?_) (fun h30=>?_)
   ·refine A3 Z Z Z (AC Z Z (A3 Z Z Z ?_))
    first | refine J (A5 rfl Ce Z Z Z) ?_ | refine J (A7 rfl Ce Z Z Z) ?_ | refine J (A8 rfl Ce Z Z Z) ?_ | refine J (A6 rfl Ce Z Z Z) ?_ | refine J (A4 rfl Ce Z Z Z) ?_
    refine A3 Z Z Z ?_
    first | refine J (AZ Z Z AQ rfl) ?_ | refine J (AX Z Z Z AQ rfl) ?_ | refine J (AY Z Z (rfl) rfl AQ rfl) ?_
    refine A3 Z Z Z (J (DL (Bj g2 (w.K[k]).r hg2) Z Z) (J (GS Z Z Z Z) (AF ?_)))
    first | refine BC rfl (fun h35=>?_) (fun h35=>?_) | refine Ax rfl (fun h35=>?_) (fun h35=>?_)
    ·refine AG (AH (AD Z Z (AF (At ?_))));exact ⟨_,[],[],As rfl,rfl,rfl,by rw [decide_eq_true (show PB w.K g g2 from ⟨_,List.getElem_mem hkl,h24,h30,h35⟩)],rfl⟩
    ·refine Aj (AH (AC Z Z (J (C5 Z Z (IntWalk.i64_in _ (by omega)) rfl) (AD Z Z (AF ?_)))));exact ⟨k+1,⟨hkl,fun ⟨l,hl,h1,h2,h3⟩=>by rw [List.take_succ_eq_append_getElem hkl] at hl;exact (List.mem_append.1 hl).elim (fun hh=>hx ⟨l,hh,h1,h2,h3⟩) fun e=>by (rw [List.mem_singleton.1 e] at h1 h2 h3;first | exact h35 h3 | exact h30 h2 | exact h24 h1)⟩,by omega,BB hF [20] rfl (rfl) ⟨rfl,rfl,rfl,rfl,trivial⟩⟩
   ·refine Aw Z Z Z Z (Aw Z Z Z Z (Aw Z Z Z Z (Aw Z Z Z Z ?_)));refine J (En Z Z Z Z) (AF (DX Z Z (Aj (AH (AC Z Z (J (C5 Z Z (IntWalk.i64_in _ (by omega)) rfl) (AD Z Z (AF ?_))))))));exact ⟨k+1,⟨hkl,fun ⟨l,hl,h1,h2,h3⟩=>by rw [List.take_succ_eq_append_getElem hkl] at hl;exact (List.mem_append.1 hl).elim (fun hh=>hx ⟨l,hh,h1,h2,h3⟩) fun e=>by (rw [List.mem_singleton.1 e] at h1 h2 h3;first | exact h35 h3 | exact h30 h2 | exact h24 h1)⟩,by omega,BB hF [20] rfl (rfl) ⟨rfl,rfl,rfl,rfl,trivial⟩⟩
  ·refine Aw Z Z Z Z ?_;refine Aw Z Z Z Z (Aw Z Z Z Z (Aw Z Z Z Z (J (En Z Z Z Z) (AC Z Z (Aw Z Z Z Z (Aw Z Z Z Z (Aw Z Z Z Z (Aw Z Z Z Z ?_))))))));refine J (En Z Z Z Z) (AF (DX Z Z (Aj (AH (AC Z Z (J (C5 Z Z (IntWalk.i64_in _ (by omega)) rfl) (AD Z Z (AF ?_))))))));exact ⟨k+1,⟨hkl,fun ⟨l,hl,h1,h2,h3⟩=>by rw [List.take_succ_eq_append_getElem hkl] at hl;exact (List.mem_append.1 hl).elim (fun hh=>hx ⟨l,hh,h1,h2,h3⟩) fun e=>by (rw [List.mem_singleton.1 e] at h1 h2 h3;first | exact h35 h3 | exact h30 h2 | exact h24 h1)⟩,by omega,BB hF [20] rfl (rfl) ⟨rfl,rfl,rfl,rfl,trivial⟩⟩
 ·refine D3 (AG (AH (AD Z Z (AF (At ?_)))));exact ⟨_,[],[],As rfl,rfl,rfl,by rw [decide_eq_false (show ¬PB w.K g g2 by rw [←List.take_of_length_le (i:=k) (l:=w.K) (by have:=h13;omega)];exact hx)],rfl⟩
structure J8 (w:Ws) (a:St) (out:List St):Prop where
 srt:Gq out
 ha:a∈out
 con:∀y∈out,y∈w.R∧Gs w a y
def cloL (out:List St) (l:Lw):Prop:=l.t=0 ->(l.f∈out↔l.r∈out)
structure Hs (w:Ws) (a:St) (out0:List St) (k:Nat) (out:List St) (grew:Bool):Prop where
 g:J8 w a out
 no:grew=false ->out=out0∧∀l∈w.K.take k,cloL out l
 yes:grew=true ->out0.length<out.length
theorem J8.zero {w:Ws} {a:St} (h:a∈w.R):J8 w a [a]:=⟨by simp,by simp,fun y hy=>by rw [List.mem_singleton.1 hy];exact ⟨h,.refl⟩⟩
theorem J8.len {w:Ws} {a:St} {out:List St} (h:J8 w a out):out.length≤w.R.length:=(F7 h.srt).length_le_of_subset fun y hy=>(h.con y hy).1
theorem Hs.zero {w:Ws} {a:St} {out:List St} (h:J8 w a out):Hs w a out 0 out false:=⟨h,fun _=>⟨rfl,fun l hl=>by simp at hl⟩,fun e=>by cases e⟩
theorem Hs.le {w:Ws} {a:St} {out0 out:List St} {k:Nat} {grew:Bool} (h:Hs w a out0 k out grew):out0.length≤out.length:=by
 cases hg:grew with
 | false=>rw [(h.no hg).1];exact Nat.le_refl _
 | true=>exact Nat.le_of_lt (h.yes hg)
theorem Hs.ins {w:Ws} {a:St} {out0 out:List St} {k k2:Nat} {grew:Bool} (h:Hs w a out0 k out grew) {y z:St} (hy:y∉out) (hz:z∈out) (hc:J6 w z y) (hR:y∈w.R):Hs w a out0 k2 (Bi out y) true:=by
 refine ⟨⟨LZ h.g.srt hy,LK.2 (.inr h.g.ha),fun x hx=>?_⟩,(fun e=>by cases e),fun _=>by rw [DR];exact Nat.lt_succ_of_le h.le⟩;rcases LK.1 hx with rfl | hx
 ·exact ⟨hR,(h.g.con z hz).2.tail hc⟩
 ·exact h.g.con x hx
theorem Hs.pass {w:Ws} {a:St} {out0 out:List St} {k:Nat} {grew:Bool} (h:Hs w a out0 k out grew) (hk:k<w.K.length) (hc:cloL out w.K[k]):Hs w a out0 (k+1) out grew:=by
 refine ⟨h.g,fun e=>⟨(h.no e).1,fun l hl=>?_⟩,h.yes⟩;rw [List.take_succ_eq_append_getElem hk] at hl;rcases List.mem_append.1 hl with hl | hl
 ·exact (h.no e).2 l hl
 ·rw [List.mem_singleton.1 hl];exact hc
theorem J8.fin {w:Ws} (hw:Bc w) {a:St} {out:List St} (h:J8 w a out) (hc:∀l∈w.K,cloL out l):out=cls w a:=by
 refine Hv h.srt (Gn hw a) fun x=>?_;rw [N5];refine ⟨h.con x,fun ⟨_,hx⟩=>?_⟩;refine BL.closed (p:=fun y=>y∈out) (fun p q hp hq=>?_) h.ha hx;rcases hq with hq | hq
 ·exact (hc _ hq rfl).1 hp
 ·exact (hc _ hq rfl).2 hp
set_option maxHeartbeats 1000000 in
theorem Od (w:Ws) (hw:Bc w) (a:St) (hl:w.K.length≤2000000):B3 Try.prog 72 [.d (LO w),.d (AW a)] (if a∈w.R then stsD (cls w a) else .sl (some true) []):=by
 have hfew:=hw.few;refine DA Try.func72 Z Z Try.ntmps72 Z Z Z fun F hF=>(AG (AH (U (JT 20 Z Z Z Z Z Z Z) (AD Z Z (AF (AG (AG (AH ?_))))))))
 first | refine J (A5 rfl A0 Z Z Z) ?_ | refine J (A7 rfl A0 Z Z Z) ?_ | refine J (A8 rfl A0 Z Z Z) ?_ | refine J (A6 rfl A0 Z Z Z) ?_ | refine J (A4 rfl A0 Z Z Z) ?_
 first | refine J (AZ Z Z AN rfl) ?_ | refine J (AX Z Z Z AN rfl) ?_ | refine J (AY Z Z (rfl) rfl AN rfl) ?_
 refine AC Z Z (J (DL (Bj w.R a (by omega)) Z Z) ?_)
 first | refine J (ET Z Z) ?_ | refine J (EO Z Z) ?_
 refine AF ?_
 first | refine BC rfl (fun h13=>?_) (fun h13=>?_) | refine Ax rfl (fun h13=>?_) (fun h13=>?_)
 ·refine AG (AH (AD Z Z (AF (At ?_))));exact ⟨_,[],[],As rfl,rfl,rfl,by rw [if_neg h13],rfl⟩
 ·refine Aj (AG ?_);have haR:a∈w.R:=Classical.not_not.1 h13;refine AH (AC Z Z (U (Gp 25 Bf Z Z Z Z Z Z Z Z) (Fa (emb:=AW) 15 25 [a] Z Z Z Z Z Z Z ?_)));refine AD Z Z (AF (AG (AG (AH (AD Z Z (AF (B7 (Ex (α:=List St×Bool) (fun q=>⟨63,[(2,(.ptr 20 0 0)),(5,(.d (stsD q.1))),(6,(.d (Am q.2)))],[JA 20 w]⟩) (fun q=>J8 w a q.1∧(q.2=false ->∀l∈w.K,cloL q.1 l)) (fun q=>2*(w.R.length - q.1.length)+(if q.2 then 1 else 0)) (([a],true)) (⟨J8.zero haR,fun e=>by cases e⟩) (BB hF [20] Z Z ⟨rfl,rfl,rfl,trivial⟩) ?_))))))));rintro ⟨out0,gr⟩ ⟨hG0,hC0⟩;dsimp only at hG0 hC0⊢;refine AG (AG (AH (AC Z Z (AF ?_))))
  first | refine BC rfl (fun h16=>?_) (fun h16=>?_) | refine Ax rfl (fun h16=>?_) (fun h16=>?_)
  ·refine Aj (B7 (AG ?_));refine AH (AD Z Z (AF (AG (AH (AD Z Z (AF (B7 (Ex (α:=Nat×List St×Bool) (fun q=>⟨63,[(2,(.ptr 20 0 0)),(5,(.d (stsD q.2.1))),(6,(.d (Am q.2.2))),(7,(.d (natD q.1)))],[JA 20 w]⟩) (fun q=>q.1≤w.K.length∧Hs w a out0 q.1 q.2.1 q.2.2) (fun q=>w.K.length - q.1) ((0,out0,false)) (⟨Nat.zero_le _,Hs.zero hG0⟩) (BB hF [20] Z Z ⟨rfl,rfl,rfl,rfl,trivial⟩) ?_))))))));rintro ⟨k,out,grew⟩ ⟨hk,hI⟩;dsimp only at hk hI⊢;refine AG (AG (AH (AC Z Z ?_)))
   first | refine J (A5 rfl Ag Z Z Z) ?_ | refine J (A7 rfl Ag Z Z Z) ?_ | refine J (A8 rfl Ag Z Z Z) ?_ | refine J (A6 rfl Ag Z Z Z) ?_ | refine J (A4 rfl Ag Z Z Z) ?_
   first | refine J (AZ Z Z Az rfl) ?_ | refine J (AX Z Z Z Az rfl) ?_ | refine J (AY Z Z (rfl) rfl Az rfl) ?_
   refine J (Cd rfl (List.length_map ..) Try.underlying33 rfl) ?_
   first | refine J (El Z Z Z) ?_ | refine J (Em Z Z Z) ?_
   refine AF ?_
   first | refine BC rfl (fun h21=>?_) (fun h21=>?_) | refine Ax rfl (fun h21=>?_) (fun h21=>?_)
   ·refine Aj (AG (B7 (AG ?_)));have hkl:k<w.K.length:=Gt h21;have hol:=hI.g.len;refine AH ?_
    first | refine J (A5 rfl Ag Z Z Z) ?_ | refine J (A7 rfl Ag Z Z Z) ?_ | refine J (A8 rfl Ag Z Z Z) ?_ | refine J (A6 rfl Ag Z Z Z) ?_ | refine J (A4 rfl Ag Z Z Z) ?_
    first | refine J (AZ Z Z Az rfl) ?_ | refine J (AX Z Z Z Az rfl) ?_ | refine J (AY Z Z (rfl) rfl Az rfl) ?_
    refine AC Z Z ?_
    first | refine J (BO (k) Z Z (rfl) (DF hkl) Try.underlying33 rfl C8 rfl) ?_ | refine J (BP (k) Z Z (rfl) (DF hkl) rfl Try.underlying33 C8 rfl) ?_
    first | refine J (BX Z Z Av rfl) ?_ | refine J (BY Z Z Av Z Z Z) ?_ | refine J (BZ Z Z (rfl) rfl Av rfl) ?_
    refine U (HQ 26 zl71 Z Z Z Z) (U (Bq Z Z Z Z Z Z Z C8) (AF (AG (AG (AH ?_)))))
    first | refine J (A5 rfl KW Z Z Z) ?_ | refine J (A7 rfl KW Z Z Z) ?_ | refine J (A8 rfl KW Z Z Z) ?_ | refine J (A6 rfl KW Z Z Z) ?_ | refine J (A4 rfl KW Z Z Z) ?_
    first | refine J (AZ Z Z Bv rfl) ?_ | refine J (AX Z Z Z Bv rfl) ?_ | refine J (AY Z Z (rfl) rfl Bv rfl) ?_
    first | refine J (IP Z Z Z) ?_ | refine J (iOq Z Z Z) ?_ | refine J (Ho Z Z Z) ?_ | refine J (IJ Try.underlying3 Z Z Z) ?_ | refine J (IL Try.underlying3 Z Z Z) ?_ | refine J (st_neqN Try.underlying3 Z Z) ?_ | refine J (IN Try.underlying3 Z Z) ?_ | refine J (st_neqMz Try.underlying3 Z Z) ?_ | refine J (IK Try.underlying3 Z Z Z) ?_ | refine J (st_neqFN Try.underlying3 Z Z) ?_
    refine AF ?_
    first | refine BC rfl (fun h31=>?_) (fun h31=>?_) | refine Ax rfl (fun h31=>?_) (fun h31=>?_)
    ·refine D3 (AH (AC Z Z (J (C5 Z Z (IntWalk.i64_in _ (by omega)) rfl) (AD Z Z (AF ?_)))));exact ⟨(k+1,_,_),⟨hkl,by first | exact hI.pass hkl (fun e=>absurd e h31) | exact hI.pass hkl (fun _=>⟨fun hf=>Classical.byContradiction fun hr=>by first | exact h42 hr | exact h36 hf,fun hr=>Classical.byContradiction fun hf=>by first | exact h57 hf | exact h51 hr⟩) | exact hI.ins h42 h36 (Or.inl hWt) hkR.2 | exact hI.ins h57 h51 (Or.inr hWt) hkR.1 | exact absurd (LK.2 (.inr h36)) h57⟩,by show w.K.length - (k+1)<w.K.length - k;omega,BB hF [20] rfl (rfl) ⟨rfl,rfl,rfl,rfl,trivial⟩⟩
    ·refine Aj (AG (AG ?_));have ht0:(w.K[k]).t=0:=Classical.not_not.1 h31;have hkR:=hw.lk _ (List.getElem_mem hkl)
     have hkR:(w.K[k]).f∈w.R∧(w.K[k]).r∈w.R:=⟨hkR.1,hkR.2.1⟩
     have hWt:(⟨(w.K[k]).f,0,(w.K[k]).r⟩:Lw)∈w.K:=by rw [←ht0];exact List.getElem_mem hkl
     refine AH (AC Z Z ?_)
     first | refine J (A5 rfl CE Z Z Z) ?_ | refine J (A7 rfl CE Z Z Z) ?_ | refine J (A8 rfl CE Z Z Z) ?_ | refine J (A6 rfl CE Z Z Z) ?_ | refine J (A4 rfl CE Z Z Z) ?_
     first | refine J (AZ Z Z AQ rfl) ?_ | refine J (AX Z Z Z AQ rfl) ?_ | refine J (AY Z Z (rfl) rfl AQ rfl) ?_
     refine J (DL (Bj out (w.K[k]).f (by omega)) Z Z) (AC Z Z ?_)
     first | refine Hq 36 rfl (fun h36=>?_) (fun h36=>?_) | refine HP 36 rfl (fun h36=>?_) (fun h36=>?_)
     ·refine A3 Z Z Z (AC Z Z (A3 Z Z Z ?_))
      first | refine J (A5 rfl Ce Z Z Z) ?_ | refine J (A7 rfl Ce Z Z Z) ?_ | refine J (A8 rfl Ce Z Z Z) ?_ | refine J (A6 rfl Ce Z Z Z) ?_ | refine J (A4 rfl Ce Z Z Z) ?_
      refine A3 Z Z Z ?_
      first | refine J (AZ Z Z AQ rfl) ?_ | refine J (AX Z Z Z AQ rfl) ?_ | refine J (AY Z Z (rfl) rfl AQ rfl) ?_
      refine A3 Z Z Z (J (DL (Bj out (w.K[k]).r (by omega)) Z Z) (A3 Z Z Z ?_))
      first | refine J (ET Z Z) ?_ | refine J (EO Z Z) ?_
      refine J (GS Z Z Z Z) (AF ?_)
      first | refine BC rfl (fun h42=>?_) (fun h42=>?_) | refine Ax rfl (fun h42=>?_) (fun h42=>?_)
      ·refine AG (AH (AC Z Z ?_))
       first | refine J (A5 rfl Ce Z Z Z) ?_ | refine J (A7 rfl Ce Z Z Z) ?_ | refine J (A8 rfl Ce Z Z Z) ?_ | refine J (A6 rfl Ce Z Z Z) ?_ | refine J (A4 rfl Ce Z Z Z) ?_
       first | refine J (AZ Z Z AQ rfl) ?_ | refine J (AX Z Z Z AQ rfl) ?_ | refine J (AY Z Z (rfl) rfl AQ rfl) ?_
       refine J (DL (EJ out (w.K[k]).r (by omega)) Z Z) (AD Z Z (AF (AH (AD Z Z (AF (AG (AH (AC Z Z ?_))))))))
       first | refine J (A5 rfl Ce Z Z Z) ?_ | refine J (A7 rfl Ce Z Z Z) ?_ | refine J (A8 rfl Ce Z Z Z) ?_ | refine J (A6 rfl Ce Z Z Z) ?_ | refine J (A4 rfl Ce Z Z Z) ?_
       first | refine J (AZ Z Z AQ rfl) ?_ | refine J (AX Z Z Z AQ rfl) ?_ | refine J (AY Z Z (rfl) rfl AQ rfl) ?_
       refine J (DL (Bj (Bi out (w.K[k]).r) (w.K[k]).r (by rw [DR];omega)) Z Z) (AC Z Z ?_)
       first | refine Hq 51 rfl (fun h51=>?_) (fun h51=>?_) | refine HP 51 rfl (fun h51=>?_) (fun h51=>?_)
       ·refine A3 Z Z Z (AC Z Z (A3 Z Z Z ?_))
        first | refine J (A5 rfl CE Z Z Z) ?_ | refine J (A7 rfl CE Z Z Z) ?_ | refine J (A8 rfl CE Z Z Z) ?_ | refine J (A6 rfl CE Z Z Z) ?_ | refine J (A4 rfl CE Z Z Z) ?_
        refine A3 Z Z Z ?_
        first | refine J (AZ Z Z AQ rfl) ?_ | refine J (AX Z Z Z AQ rfl) ?_ | refine J (AY Z Z (rfl) rfl AQ rfl) ?_
        refine A3 Z Z Z (J (DL (Bj (Bi out (w.K[k]).r) (w.K[k]).f (by rw [DR];omega)) Z Z) (A3 Z Z Z ?_))
        first | refine J (ET Z Z) ?_ | refine J (EO Z Z) ?_
        refine J (GS Z Z Z Z) (AF ?_)
        first | refine BC rfl (fun h57=>?_) (fun h57=>?_) | refine Ax rfl (fun h57=>?_) (fun h57=>?_)
        ·refine AG (AH (AC Z Z ?_))
         first | refine J (A5 rfl CE Z Z Z) ?_ | refine J (A7 rfl CE Z Z Z) ?_ | refine J (A8 rfl CE Z Z Z) ?_ | refine J (A6 rfl CE Z Z Z) ?_ | refine J (A4 rfl CE Z Z Z) ?_
         first | refine J (AZ Z Z AQ rfl) ?_ | refine J (AX Z Z Z AQ rfl) ?_ | refine J (AY Z Z (rfl) rfl AQ rfl) ?_
         refine J (DL (EJ (Bi out (w.K[k]).r) (w.K[k]).f (by rw [DR];omega)) Z Z) (AD Z Z ?_);refine AF (AH (AD Z Z (AF (AH (AC Z Z (J (C5 Z Z (IntWalk.i64_in _ (by omega)) rfl) (AD Z Z (AF ?_))))))));exact ⟨(k+1,_,_),⟨hkl,by first | exact hI.pass hkl (fun e=>absurd e h31) | exact hI.pass hkl (fun _=>⟨fun hf=>Classical.byContradiction fun hr=>by first | exact h42 hr | exact h36 hf,fun hr=>Classical.byContradiction fun hf=>by first | exact h57 hf | exact h51 hr⟩) | exact hI.ins h42 h36 (Or.inl hWt) hkR.2 | exact hI.ins h57 h51 (Or.inr hWt) hkR.1 | exact absurd (LK.2 (.inr h36)) h57⟩,by show w.K.length - (k+1)<w.K.length - k;omega,BB hF [20] rfl (rfl) ⟨rfl,rfl,rfl,rfl,trivial⟩⟩
        ·refine Aj (AH (AC Z Z (J (C5 Z Z (IntWalk.i64_in _ (by omega)) rfl) (AD Z Z (AF ?_)))));exact ⟨(k+1,_,_),⟨hkl,by first | exact hI.pass hkl (fun e=>absurd e h31) | exact hI.pass hkl (fun _=>⟨fun hf=>Classical.byContradiction fun hr=>by first | exact h42 hr | exact h36 hf,fun hr=>Classical.byContradiction fun hf=>by first | exact h57 hf | exact h51 hr⟩) | exact hI.ins h42 h36 (Or.inl hWt) hkR.2 | exact hI.ins h57 h51 (Or.inr hWt) hkR.1 | exact absurd (LK.2 (.inr h36)) h57⟩,by show w.K.length - (k+1)<w.K.length - k;omega,BB hF [20] rfl (rfl) ⟨rfl,rfl,rfl,rfl,trivial⟩⟩
       ·refine Aw Z Z Z Z (Aw Z Z Z Z (Aw Z Z Z Z (Aw Z Z Z Z (Aw Z Z Z Z ?_))));refine J (En Z Z Z Z) (AF (DX Z Z (Aj (AH (AC Z Z (J (C5 Z Z (IntWalk.i64_in _ (by omega)) rfl) (AD Z Z (AF ?_))))))));exact ⟨(k+1,_,_),⟨hkl,by first | exact hI.pass hkl (fun e=>absurd e h31) | exact hI.pass hkl (fun _=>⟨fun hf=>Classical.byContradiction fun hr=>by first | exact h42 hr | exact h36 hf,fun hr=>Classical.byContradiction fun hf=>by first | exact h57 hf | exact h51 hr⟩) | exact hI.ins h42 h36 (Or.inl hWt) hkR.2 | exact hI.ins h57 h51 (Or.inr hWt) hkR.1 | exact absurd (LK.2 (.inr h36)) h57⟩,by show w.K.length - (k+1)<w.K.length - k;omega,BB hF [20] rfl (rfl) ⟨rfl,rfl,rfl,rfl,trivial⟩⟩
      ·refine Aj (AG (AH (AC Z Z ?_)))
       first | refine J (A5 rfl Ce Z Z Z) ?_ | refine J (A7 rfl Ce Z Z Z) ?_ | refine J (A8 rfl Ce Z Z Z) ?_ | refine J (A6 rfl Ce Z Z Z) ?_ | refine J (A4 rfl Ce Z Z Z) ?_
       first | refine J (AZ Z Z AQ rfl) ?_ | refine J (AX Z Z Z AQ rfl) ?_ | refine J (AY Z Z (rfl) rfl AQ rfl) ?_
       refine J (DL (Bj out (w.K[k]).r (by omega)) Z Z) (AC Z Z ?_)
       first | refine Hq 51 rfl (fun h51=>?_) (fun h51=>?_) | refine HP 51 rfl (fun h51=>?_) (fun h51=>?_)
       ·refine A3 Z Z Z (AC Z Z (A3 Z Z Z ?_))
        first | refine J (A5 rfl CE Z Z Z) ?_ | refine J (A7 rfl CE Z Z Z) ?_ | refine J (A8 rfl CE Z Z Z) ?_ | refine J (A6 rfl CE Z Z Z) ?_ | refine J (A4 rfl CE Z Z Z) ?_
        refine A3 Z Z Z ?_
        first | refine J (AZ Z Z AQ rfl) ?_ | refine J (AX Z Z Z AQ rfl) ?_ | refine J (AY Z Z (rfl) rfl AQ rfl) ?_
        refine A3 Z Z Z (J (DL (Bj out (w.K[k]).f (by omega)) Z Z) (A3 Z Z Z ?_))
        first | refine J (ET Z Z) ?_ | refine J (EO Z Z) ?_
        refine J (GS Z Z Z Z) (AF ?_)
        first | refine BC rfl (fun h57=>?_) (fun h57=>?_) | refine Ax rfl (fun h57=>?_) (fun h57=>?_)
        ·refine AG (AH (AC Z Z ?_))
         first | refine J (A5 rfl CE Z Z Z) ?_ | refine J (A7 rfl CE Z Z Z) ?_ | refine J (A8 rfl CE Z Z Z) ?_ | refine J (A6 rfl CE Z Z Z) ?_ | refine J (A4 rfl CE Z Z Z) ?_
         first | refine J (AZ Z Z AQ rfl) ?_ | refine J (AX Z Z Z AQ rfl) ?_ | refine J (AY Z Z (rfl) rfl AQ rfl) ?_
         refine J (DL (EJ out (w.K[k]).f (by omega)) Z Z) (AD Z Z ?_);refine AF (AH (AD Z Z (AF (AH (AC Z Z (J (C5 Z Z (IntWalk.i64_in _ (by omega)) rfl) (AD Z Z (AF ?_))))))));exact ⟨(k+1,_,_),⟨hkl,by first | exact hI.pass hkl (fun e=>absurd e h31) | exact hI.pass hkl (fun _=>⟨fun hf=>Classical.byContradiction fun hr=>by first | exact h42 hr | exact h36 hf,fun hr=>Classical.byContradiction fun hf=>by first | exact h57 hf | exact h51 hr⟩) | exact hI.ins h42 h36 (Or.inl hWt) hkR.2 | exact hI.ins h57 h51 (Or.inr hWt) hkR.1 | exact absurd (LK.2 (.inr h36)) h57⟩,by show w.K.length - (k+1)<w.K.length - k;omega,BB hF [20] rfl (rfl) ⟨rfl,rfl,rfl,rfl,trivial⟩⟩
        ·refine Aj (AH (AC Z Z (J (C5 Z Z (IntWalk.i64_in _ (by omega)) rfl) (AD Z Z (AF ?_)))));exact ⟨(k+1,_,_),⟨hkl,by first | exact hI.pass hkl (fun e=>absurd e h31) | exact hI.pass hkl (fun _=>⟨fun hf=>Classical.byContradiction fun hr=>by first | exact h42 hr | exact h36 hf,fun hr=>Classical.byContradiction fun hf=>by first | exact h57 hf | exact h51 hr⟩) | exact hI.ins h42 h36 (Or.inl hWt) hkR.2 | exact hI.ins h57 h51 (Or.inr hWt) hkR.1 | exact absurd (LK.2 (.inr h36)) h57⟩,by show w.K.length - (k+1)<w.K.length - k;omega,BB hF [20] rfl (rfl) ⟨rfl,rfl,rfl,rfl,trivial⟩⟩
       ·refine Aw Z Z Z Z (Aw Z Z Z Z (Aw Z Z Z Z (Aw Z Z Z Z (Aw Z Z Z Z ?_))));refine J (En Z Z Z Z) (AF (DX Z Z (Aj (AH (AC Z Z (J (C5 Z Z (IntWalk.i64_in _ (by omega)) rfl) (AD Z Z (AF ?_))))))));exact ⟨(k+1,_,_),⟨hkl,by first | exact hI.pass hkl (fun e=>absurd e h31) | exact hI.pass hkl (fun _=>⟨fun hf=>Classical.byContradiction fun hr=>by first | exact h42 hr | exact h36 hf,fun hr=>Classical.byContradiction fun hf=>by first | exact h57 hf | exact h51 hr⟩) | exact hI.ins h42 h36 (Or.inl hWt) hkR.2 | exact hI.ins h57 h51 (Or.inr hWt) hkR.1 | exact absurd (LK.2 (.inr h36)) h57⟩,by show w.K.length - (k+1)<w.K.length - k;omega,BB hF [20] rfl (rfl) ⟨rfl,rfl,rfl,rfl,trivial⟩⟩
     ·refine Aw Z Z Z Z (Aw Z Z Z Z (Aw Z Z Z Z ?_));refine Aw Z Z Z Z (Aw Z Z Z Z (J (En Z Z Z Z) (AF (DX Z Z (Aj (AG (AH (AC Z Z ?_))))))))
      first | refine J (A5 rfl Ce Z Z Z) ?_ | refine J (A7 rfl Ce Z Z Z) ?_ | refine J (A8 rfl Ce Z Z Z) ?_ | refine J (A6 rfl Ce Z Z Z) ?_ | refine J (A4 rfl Ce Z Z Z) ?_
      first | refine J (AZ Z Z AQ rfl) ?_ | refine J (AX Z Z Z AQ rfl) ?_ | refine J (AY Z Z (rfl) rfl AQ rfl) ?_
      refine J (DL (Bj out (w.K[k]).r (by omega)) Z Z) (AC Z Z ?_)
      first | refine Hq 51 rfl (fun h51=>?_) (fun h51=>?_) | refine HP 51 rfl (fun h51=>?_) (fun h51=>?_)
      ·refine A3 Z Z Z (AC Z Z (A3 Z Z Z ?_))
       first | refine J (A5 rfl CE Z Z Z) ?_ | refine J (A7 rfl CE Z Z Z) ?_ | refine J (A8 rfl CE Z Z Z) ?_ | refine J (A6 rfl CE Z Z Z) ?_ | refine J (A4 rfl CE Z Z Z) ?_
       refine A3 Z Z Z ?_
       first | refine J (AZ Z Z AQ rfl) ?_ | refine J (AX Z Z Z AQ rfl) ?_ | refine J (AY Z Z (rfl) rfl AQ rfl) ?_
       refine A3 Z Z Z (J (DL (Bj out (w.K[k]).f (by omega)) Z Z) (A3 Z Z Z ?_))
       first | refine J (ET Z Z) ?_ | refine J (EO Z Z) ?_
       refine J (GS Z Z Z Z) (AF ?_)
       first | refine BC rfl (fun h57=>?_) (fun h57=>?_) | refine Ax rfl (fun h57=>?_) (fun h57=>?_)
       ·refine AG (AH (AC Z Z ?_))
        first | refine J (A5 rfl CE Z Z Z) ?_ | refine J (A7 rfl CE Z Z Z) ?_ | refine J (A8 rfl CE Z Z Z) ?_ | refine J (A6 rfl CE Z Z Z) ?_ | refine J (A4 rfl CE Z Z Z) ?_
        first | refine J (AZ Z Z AQ rfl) ?_ | refine J (AX Z Z Z AQ rfl) ?_ | refine J (AY Z Z (rfl) rfl AQ rfl) ?_
        refine J (DL (EJ out (w.K[k]).f (by omega)) Z Z) (AD Z Z ?_);refine AF (AH (AD Z Z (AF (AH (AC Z Z (J (C5 Z Z (IntWalk.i64_in _ (by omega)) rfl) (AD Z Z (AF ?_))))))));exact ⟨(k+1,_,_),⟨hkl,by first | exact hI.pass hkl (fun e=>absurd e h31) | exact hI.pass hkl (fun _=>⟨fun hf=>Classical.byContradiction fun hr=>by first | exact h42 hr | exact h36 hf,fun hr=>Classical.byContradiction fun hf=>by first | exact h57 hf | exact h51 hr⟩) | exact hI.ins h42 h36 (Or.inl hWt) hkR.2 | exact hI.ins h57 h51 (Or.inr hWt) hkR.1 | exact absurd (LK.2 (.inr h36)) h57⟩,by show w.K.length - (k+1)<w.K.length - k;omega,BB hF [20] rfl (rfl) ⟨rfl,rfl,rfl,rfl,trivial⟩⟩
       ·refine Aj (AH (AC Z Z (J (C5 Z Z (IntWalk.i64_in _ (by omega)) rfl) (AD Z Z (AF ?_)))));exact ⟨(k+1,_,_),⟨hkl,by first | exact hI.pass hkl (fun e=>absurd e h31) | exact hI.pass hkl (fun _=>⟨fun hf=>Classical.byContradiction fun hr=>by first | exact h42 hr | exact h36 hf,fun hr=>Classical.byContradiction fun hf=>by first | exact h57 hf | exact h51 hr⟩) | exact hI.ins h42 h36 (Or.inl hWt) hkR.2 | exact hI.ins h57 h51 (Or.inr hWt) hkR.1 | exact absurd (LK.2 (.inr h36)) h57⟩,by show w.K.length - (k+1)<w.K.length - k;omega,BB hF [20] rfl (rfl) ⟨rfl,rfl,rfl,rfl,trivial⟩⟩
      ·refine Aw Z Z Z Z (Aw Z Z Z Z (Aw Z Z Z Z (Aw Z Z Z Z (Aw Z Z Z Z ?_))));refine J (En Z Z Z Z) (AF (DX Z Z (Aj (AH (AC Z Z (J (C5 Z Z (IntWalk.i64_in _ (by omega)) rfl) (AD Z Z (AF ?_))))))));exact ⟨(k+1,_,_),⟨hkl,by first | exact hI.pass hkl (fun e=>absurd e h31) | exact hI.pass hkl (fun _=>⟨fun hf=>Classical.byContradiction fun hr=>by first | exact h42 hr | exact h36 hf,fun hr=>Classical.byContradiction fun hf=>by first | exact h57 hf | exact h51 hr⟩) | exact hI.ins h42 h36 (Or.inl hWt) hkR.2 | exact hI.ins h57 h51 (Or.inr hWt) hkR.1 | exact absurd (LK.2 (.inr h36)) h57⟩,by show w.K.length - (k+1)<w.K.length - k;omega,BB hF [20] rfl (rfl) ⟨rfl,rfl,rfl,rfl,trivial⟩⟩
   ·refine D3 ?_;exact ⟨(out,grew),⟨hI.g,fun e=>by have:=(hI.no e).2;rw [show k=w.K.length by omega,List.take_length] at this;exact this⟩,by have h1:=hI.g.len;have h2:=hI.le;show 2*(w.R.length - out.length)+(if grew then 1 else 0)<2*(w.R.length - out0.length)+(if gr then 1 else 0);rw [show gr=true from h16];cases hgr:grew with | false=>rw [(hI.no hgr).1];simp | true=>have h3:=hI.yes hgr;simp;omega,BB hF [20] rfl (rfl) ⟨rfl,rfl,rfl,trivial⟩⟩
  ·refine D3 (AG ?_);have hfin:=hG0.fin hw (hC0 (by simpa using h16));refine AH (AC Z Z (AD Z Z (AF (At ?_))));exact ⟨_,[],[],As rfl,rfl,rfl,by rw [if_pos haR,hfin],rfl⟩
theorem MT {w:Ws} (hw:Bc w) {x:St} (hx:x∈w.R):(cls w x).getD 0 []=x↔J9 w x:=by
 have hs:=Gn hw x;have hm:=Ca hx
 cases hc:cls w x with
 | nil=>rw [hc] at hm;simp at hm
 | cons y r=>
  rw [hc] at hs hm;have h1:=List.pairwise_cons.1 hs;show y=x↔_
  constructor
  ·rintro rfl z hz hzc hlt;have hz2:z∈cls w y:=N5.2 ⟨hz,hzc⟩;rw [hc] at hz2;rcases List.mem_cons.1 hz2 with rfl | hz2
   ·exact GA _ hlt
   ·exact GA _ (N8 hlt (h1.1 z hz2))
  ·intro hl;have hy:y∈cls w x:=by rw [hc];simp
   obtain ⟨hyR,hyc⟩:=N5.1 hy;rcases List.mem_cons.1 hm with e | hm
   ·exact e.symm
   ·exact absurd (h1.1 x hm) (hl y hyR hyc)
open Classical in
noncomputable def partT (w:Ws) (k:Nat):List (List St):=((w.R.take k).filter fun a=>decide (J9 w a)).map (cls w)
theorem O3 (w:Ws):partT w w.R.length=parts w:=by unfold partT parts;rw [List.take_length]
theorem O2 {w:Ws} {k:Nat} (hk:k<w.R.length) (h:J9 w w.R[k]):partT w (k+1)=partT w k++ [cls w w.R[k]]:=by
 unfold partT;rw [List.take_succ_eq_append_getElem hk,List.filter_append,List.map_append]
 simp [h]
theorem My {w:Ws} {k:Nat} (hk:k<w.R.length) (h:¬J9 w w.R[k]):partT w (k+1)=partT w k:=by
 unfold partT;rw [List.take_succ_eq_append_getElem hk,List.filter_append,List.map_append]
 simp [h]
theorem O1 (w:Ws) (k:Nat):(partT w k).length≤w.R.length:=by
 unfold partT;rw [List.length_map];exact Nat.le_trans (List.length_filter_le _ _) (by rw [List.length_take];omega)
theorem Ai {l:List St} {k:Nat} (h:k<l.length):(l.map AW)[k]?=some (AW l[k]):=by
 rw [List.getElem?_map,List.getElem?_eq_getElem h];rfl
theorem all_p (w:Ws) (hw:Bc w) (hl:w.K.length≤2000000):B3 Try.prog 55 [.d (LO w)] (Cy (parts w)):=by
 have hfew:=hw.few;refine DA Try.func55 Z Z Try.ntmps55 Z Z Z fun F hF=>(AG (AH (U (JT 20 Z Z Z Z Z Z Z) (AD Z Z (AF (AG (AH (AD Z Z ?_))))))));refine AF (AG (AG (AH (AD Z Z (AF (B7 (Fj 3 1 Mp Z Z Z Z (Ex (α:=Nat×List (List St)) (fun q=>⟨34,[(1,(.ptr 20 0 0)),(3,(.own 1 0 q.2.length)),(4,(.d (natD q.1)))],[JA 20 w,(1,[.rowD 32 1 (q.2.map stsD)])]⟩) (fun q=>q.1≤w.R.length∧q.2=partT w q.1) (fun q=>w.R.length - q.1) ((0,[])) (⟨Nat.zero_le _,rfl⟩) (BB hF [20,1] Z Z ⟨rfl,rfl,rfl,trivial⟩) ?_))))))));rintro ⟨k,out⟩ ⟨hk,ho⟩;dsimp only at hk ho⊢;refine AG (AG (AH (AC Z Z ?_)))
 first | refine J (A5 rfl A0 Z Z Z) ?_ | refine J (A7 rfl A0 Z Z Z) ?_ | refine J (A8 rfl A0 Z Z Z) ?_ | refine J (A6 rfl A0 Z Z Z) ?_ | refine J (A4 rfl A0 Z Z Z) ?_
 first | refine J (AZ Z Z AN rfl) ?_ | refine J (AX Z Z Z AN rfl) ?_ | refine J (AY Z Z (rfl) rfl AN rfl) ?_
 refine J (Cd rfl (List.length_map ..) Try.underlying32 rfl) ?_
 first | refine J (El Z Z Z) ?_ | refine J (Em Z Z Z) ?_
 refine AF ?_
 first | refine BC rfl (fun h10=>?_) (fun h10=>?_) | refine Ax rfl (fun h10=>?_) (fun h10=>?_)
 ·refine Aj (AG (B7 (AG ?_)));have hkl:k<w.R.length:=Gt h10;have hxR:w.R[k]∈w.R:=List.getElem_mem hkl;have hcl:0<(cls w w.R[k]).length:=List.length_pos_of_mem (Ca hxR);have hpl:out.length≤w.R.length:=by rw [ho];exact O1 w k
  refine F1 [[],[],[1],[],[1,2,3],[1,2,3,4],[0,1,2,3,4,5],[0,1,2,3,4,5,6]] mixed rfl (D1 ?_)
  first | refine AE [1] [] Z Z (fun _=>AB (BX Z Z AT rfl)) ?_ | refine AI [1] Z Z (fun _=>AB (BX Z Z AT rfl)) ?_ | refine AE [1] [] Z Z (fun _=>AB (BY Z Z AT Z Z Z)) ?_ | refine AI [1] Z Z (fun _=>AB (BY Z Z AT Z Z Z)) ?_ | refine AE [1] [] Z Z (fun _=>AB (BZ Z Z (rfl) rfl AT rfl)) ?_ | refine AI [1] Z Z (fun _=>AB (BZ Z Z (rfl) rfl AT rfl)) ?_
  first | refine AE [1] [] Z Z (fun _=>AB (A5 rfl A0 Z Z Z)) ?_ | refine AI [1] Z Z (fun _=>AB (A5 rfl A0 Z Z Z)) ?_ | refine AE [1] [] Z Z (fun _=>AB (A7 rfl A0 Z Z Z)) ?_ | refine AI [1] Z Z (fun _=>AB (A7 rfl A0 Z Z Z)) ?_ | refine AE [1] [] Z Z (fun _=>AB (A8 rfl A0 Z Z Z)) ?_ | refine AI [1] Z Z (fun _=>AB (A8 rfl A0 Z Z Z)) ?_ | refine AE [1] [] Z Z (fun _=>AB (A6 rfl A0 Z Z Z)) ?_ | refine AI [1] Z Z (fun _=>AB (A6 rfl A0 Z Z Z)) ?_ | refine AE [1] [] Z Z (fun _=>AB (A4 rfl A0 Z Z Z)) ?_ | refine AI [1] Z Z (fun _=>AB (A4 rfl A0 Z Z Z)) ?_
  first | refine AE [14] [] Z Z (fun _=>AB (AZ Z Z AN rfl)) ?_ | refine AI [14] Z Z (fun _=>AB (AZ Z Z AN rfl)) ?_ | refine AE [14] [] Z Z (fun _=>AB (AX Z Z Z AN rfl)) ?_ | refine AI [14] Z Z (fun _=>AB (AX Z Z Z AN rfl)) ?_ | refine AE [14] [] Z Z (fun _=>AB (AY Z Z (rfl) rfl AN rfl)) ?_ | refine AI [14] Z Z (fun _=>AB (AY Z Z (rfl) rfl AN rfl)) ?_
  first | refine AE [4] [] Z Z (fun _=>AB (Ac Z Z)) ?_ | refine AI [4] Z Z (fun _=>AB (Ac Z Z)) ?_
  first | refine AE [15,16] [] Z Z (fun _=>AB (BO (k) Z Z (rfl) (Ai hkl) Try.underlying32 rfl Bl rfl)) ?_ | refine AI [15,16] Z Z (fun _=>AB (BO (k) Z Z (rfl) (Ai hkl) Try.underlying32 rfl Bl rfl)) ?_ | refine AE [15,16] [] Z Z (fun _=>AB (BP (k) Z Z (rfl) (Ai hkl) rfl Try.underlying32 Bl rfl)) ?_ | refine AI [15,16] Z Z (fun _=>AB (BP (k) Z Z (rfl) (Ai hkl) rfl Try.underlying32 Bl rfl)) ?_
  first | refine AE [17] [] Z Z (fun _=>AB (AZ Z Z AQ rfl)) ?_ | refine AI [17] Z Z (fun _=>AB (AZ Z Z AQ rfl)) ?_ | refine AE [17] [] Z Z (fun _=>AB (AX Z Z Z AQ rfl)) ?_ | refine AI [17] Z Z (fun _=>AB (AX Z Z Z AQ rfl)) ?_ | refine AE [17] [] Z Z (fun _=>AB (AY Z Z (rfl) rfl AQ rfl)) ?_ | refine AI [17] Z Z (fun _=>AB (AY Z Z (rfl) rfl AQ rfl)) ?_
  refine D2 6 Z Z Z (BQ 7 Z Z (J (DL (Od w hw w.R[k] hl) Z Z) ?_));rw [if_pos hxR];refine AF ⟨rfl,?_⟩;refine BQ 8 Z Z (AD Z Z (AF ⟨rfl,?_⟩));refine Ei (AG (F1 [[],[0],[0,1],[],[3],[],[3,4,5],[3,4,5,6],[0,1,2,3,4,5,6,7]] mixed rfl (D1 ?_)))
  first | refine AE [5] [] Z Z (fun _=>AB (Ac Z Z)) ?_ | refine AI [5] Z Z (fun _=>AB (Ac Z Z)) ?_
  first | refine AE [20] [] Z Z (fun _=>AB (BO (0) Z Z (rfl) (D0 hcl) Try.underlying32 rfl Bl rfl)) ?_ | refine AI [20] Z Z (fun _=>AB (BO (0) Z Z (rfl) (D0 hcl) Try.underlying32 rfl Bl rfl)) ?_ | refine AE [20] [] Z Z (fun _=>AB (BP (0) Z Z (rfl) (D0 hcl) rfl Try.underlying32 Bl rfl)) ?_ | refine AI [20] Z Z (fun _=>AB (BP (0) Z Z (rfl) (D0 hcl) rfl Try.underlying32 Bl rfl)) ?_
  first | refine AE [21] [99] Z Z (fun _=>AB (AZ Z Z AQ rfl)) ?_ | refine AE [21] [99] Z Z (fun _=>AB (AX Z Z Z AQ rfl)) ?_ | refine AE [21] [99] Z Z (fun _=>AB (AY Z Z (rfl) rfl AQ rfl)) ?_
  first | refine AE [1] [] Z Z (fun _=>AB (A5 rfl A0 Z Z Z)) ?_ | refine AI [1] Z Z (fun _=>AB (A5 rfl A0 Z Z Z)) ?_ | refine AE [1] [] Z Z (fun _=>AB (A7 rfl A0 Z Z Z)) ?_ | refine AI [1] Z Z (fun _=>AB (A7 rfl A0 Z Z Z)) ?_ | refine AE [1] [] Z Z (fun _=>AB (A8 rfl A0 Z Z Z)) ?_ | refine AI [1] Z Z (fun _=>AB (A8 rfl A0 Z Z Z)) ?_ | refine AE [1] [] Z Z (fun _=>AB (A6 rfl A0 Z Z Z)) ?_ | refine AI [1] Z Z (fun _=>AB (A6 rfl A0 Z Z Z)) ?_ | refine AE [1] [] Z Z (fun _=>AB (A4 rfl A0 Z Z Z)) ?_ | refine AI [1] Z Z (fun _=>AB (A4 rfl A0 Z Z Z)) ?_
  first | refine AE [23] [] Z Z (fun _=>AB (AZ Z Z AN rfl)) ?_ | refine AI [23] Z Z (fun _=>AB (AZ Z Z AN rfl)) ?_ | refine AE [23] [] Z Z (fun _=>AB (AX Z Z Z AN rfl)) ?_ | refine AI [23] Z Z (fun _=>AB (AX Z Z Z AN rfl)) ?_ | refine AE [23] [] Z Z (fun _=>AB (AY Z Z (rfl) rfl AN rfl)) ?_ | refine AI [23] Z Z (fun _=>AB (AY Z Z (rfl) rfl AN rfl)) ?_
  first | refine AE [4] [] Z Z (fun _=>AB (Ac Z Z)) ?_ | refine AI [4] Z Z (fun _=>AB (Ac Z Z)) ?_
  first | refine AE [24,25] [] Z Z (fun _=>AB (BO (k) Z Z (rfl) (Ai hkl) Try.underlying32 rfl Bl rfl)) ?_ | refine AI [24,25] Z Z (fun _=>AB (BO (k) Z Z (rfl) (Ai hkl) Try.underlying32 rfl Bl rfl)) ?_ | refine AE [24,25] [] Z Z (fun _=>AB (BP (k) Z Z (rfl) (Ai hkl) rfl Try.underlying32 Bl rfl)) ?_ | refine AI [24,25] Z Z (fun _=>AB (BP (k) Z Z (rfl) (Ai hkl) rfl Try.underlying32 Bl rfl)) ?_
  first | refine AE [26] [] Z Z (fun _=>AB (AZ Z Z AQ rfl)) ?_ | refine AI [26] Z Z (fun _=>AB (AZ Z Z AQ rfl)) ?_ | refine AE [26] [] Z Z (fun _=>AB (AX Z Z Z AQ rfl)) ?_ | refine AI [26] Z Z (fun _=>AB (AX Z Z Z AQ rfl)) ?_ | refine AE [26] [] Z Z (fun _=>AB (AY Z Z (rfl) rfl AQ rfl)) ?_ | refine AI [26] Z Z (fun _=>AB (AY Z Z (rfl) rfl AQ rfl)) ?_
  refine D2 8 Z Z Z (BQ 9 Z Z ?_)
  first | refine J (EN Z Z Z) ?_ | refine J (EY Z Z Z) ?_ | refine J (Dy Z Z Z) ?_ | refine J (EP Try.underlying9 Z Z Z) ?_ | refine J (ES Try.underlying9 Z Z Z) ?_ | refine J (ER Try.underlying9 Z Z) ?_ | refine J (EX Try.underlying9 Z Z) ?_ | refine J (EW Try.underlying9 Z Z) ?_ | refine J (EQ Try.underlying9 Z Z Z) ?_ | refine J (EV Try.underlying9 Z Z) ?_
  refine AF ⟨rfl,?_⟩;refine Ei ?_
  first | refine BC rfl (fun h28=>?_) (fun h28=>?_) | refine Ax rfl (fun h28=>?_) (fun h28=>?_)
  ·refine AH (AC Z Z (AC Z Z (U (Gp 21 Mp Z Z Z Z Z Z Z Z) ?_)))
   first | refine U (JM (out) ([cls w w.R[k]]) Z Z Z Z Z Z Z Z Mp (by simp only [List.length_singleton];omega) Z Z Z Z) ?_ | refine U (KX (out) ([cls w w.R[k]]) Z Z Z Z Z Z (fun _=>rfl) Mp (by simp only [List.length_singleton];omega) Z Z Z Z) ?_
   refine AD Z Z (AF (AH (AC Z Z (J (C5 Z Z (IntWalk.i64_in _ (by omega)) rfl) (AD Z Z (AF ?_))))));exact ⟨(k+1,out++ [cls w w.R[k]]),⟨hkl,by show _=partT w (k+1);rw [O2 hkl ((MT hw hxR).1 h28),ho]⟩,by show w.R.length - (k+1)<w.R.length - k;omega,BB hF [20,1] rfl (rfl) ⟨rfl,rfl,rfl,trivial⟩⟩
  ·refine Aj (AH (AC Z Z (J (C5 Z Z (IntWalk.i64_in _ (by omega)) rfl) (AD Z Z (AF ?_)))));exact ⟨(k+1,out),⟨hkl,by show _=partT w (k+1);rw [My hkl fun h=>h28 ((MT hw hxR).2 h),ho]⟩,by show w.R.length - (k+1)<w.R.length - k;omega,BB hF [20,1] rfl (rfl) ⟨rfl,rfl,rfl,trivial⟩⟩
 ·refine D3 (AG ?_);have hke:k=w.R.length:=by have:=h10;omega
  refine Zcl (emb:=stsD) 3 1 out Z Z Z Z Z Z Z (AH (AC Z Z (AD Z Z (AF (At ?_)))));exact ⟨_,[],[],As rfl,rfl,rfl,by rw [ho,hke,O3],rfl⟩
theorem CC {w:Ws} (hw:Bc w) {i j:Nat} (hi:i<(parts w).length) (hj:j<(parts w).length) (hne:i≠j):PB w.K ((parts w).getD i []) ((parts w).getD j [])↔j∈depL w i:=by
 rw [Bz hw]
 constructor
 ·rintro ⟨l,hl,ht,hf,hr⟩;exact ⟨hne,l,hl,ht,((MG hw hi).1 hf).2,((MG hw hj).1 hr).2⟩
 ·rintro ⟨_,l,hl,ht,hf,hr⟩;exact ⟨l,hl,ht,(MG hw hi).2 ⟨(hw.lk l hl).1,hf⟩,(MG hw hj).2 ⟨(hw.lk l hl).2.1,hr⟩⟩
def PA (w:Ws) (ord:List Nat) (i k:Nat):Prop:=i∉ord∧∀j,j<k ->j≠i ->j∉ord ->j∉depL w i
noncomputable instance (w:Ws) (ord:List Nat) (i k:Nat):Decidable (PA w ord i k):=Classical.propDecidable _
theorem bD {p q:Prop} [Decidable p] [Decidable q] (h:p↔q):AV.d (Am (decide p))=AV.d (Am (decide q)):=by rw [decide_eq_decide.2 h]
theorem Q3 {w:Ws} {ord:List Nat} {i:Nat}:AV.d (Am (decide (¬i∈ord)))=AV.d (Am (decide (PA w ord i 0))):=bD ⟨fun h=>⟨h,fun j hj=>by omega⟩,fun h=>h.1⟩
theorem PD {w:Ws} {ord:List Nat} {i k:Nat} (h:k=i∨k∈ord∨k∉depL w i):AV.d (Am (decide (PA w ord i k)))=AV.d (Am (decide (PA w ord i (k+1)))):=bD ⟨fun hf=>⟨hf.1,fun j hj h1 h2=>by
 by_cases e:j=k
 ·subst e;rcases h with h | h | h
  ·exact absurd h h1
  ·exact absurd h h2
  ·exact h
 ·exact hf.2 j (by omega) h1 h2⟩,fun hf=>⟨hf.1,fun j hj=>hf.2 j (by omega)⟩⟩
theorem Kv {w:Ws} {ord:List Nat} {i k:Nat} (h1:k≠i) (h2:k∉ord) (h3:k∈depL w i):AV.d (Am false)=AV.d (Am (decide (PA w ord i (k+1)))):=by
 rw [decide_eq_false (show ¬PA w ord i (k+1) from fun hf=>hf.2 k (by omega) h1 h2 h3)]
theorem Ns {w:Ws} {ord:List Nat} {i:Nat} (hn:∀k∈depL w i,k≠i):PA w ord i (parts w).length↔Fm (depL w) ord i=true:=by
 rw [CX];exact ⟨fun h=>⟨h.1,fun k hk=>Classical.byContradiction fun h2=>h.2 k (Gm hk) (hn k hk) h2 hk⟩,fun h=>⟨h.1,fun j _ _ h2 h3=>h2 (h.2 j h3)⟩⟩
theorem Nt {w:Ws} (hw:Bc w) {i:Nat}:∀k∈depL w i,k≠i:=fun k hk e=>((Bz hw).1 hk).1 e.symm
def encR:Option Nat ->Int
 | none=> -1
 | some x=>(x:Int)
structure LRd (w:Ws) (ord:List Nat) (m:Nat) (o:Option Nat):Prop where
 nn:o=none ->∀i,m≤i ->i<(parts w).length ->Fm (depL w) ord i=false
 so:∀x,o=some x ->x<(parts w).length∧Fm (depL w) ord x=true∧∀i,m≤i ->i<x ->Fm (depL w) ord i=false
theorem Og {w:Ws} {ord:List Nat} {m:Nat} (h:m=(parts w).length):LRd w ord m none:=⟨fun _ i hi hl=>by omega,fun x e=>(by cases e)⟩
theorem lrd_hit {w:Ws} {ord:List Nat} {i:Nat} (hi:i<(parts w).length) (h:Fm (depL w) ord i=true):LRd w ord i (some i):=⟨fun e=>(by cases e),fun x e=>by injection e with e;subst e;exact ⟨hi,h,fun j h1 h2=>by omega⟩⟩
theorem QJ {w:Ws} {ord:List Nat} {i:Nat} {o:Option Nat} (h:LRd w ord (i+1) o) (hn:Fm (depL w) ord i=false):LRd w ord i o:=
 ⟨fun e j hj hl=>by
  by_cases e2:j=i
  ·rw [e2];exact hn
  ·exact h.nn e j (by omega) hl,fun x e=>⟨(h.so x e).1,(h.so x e).2.1,fun j hj hl=>by
  by_cases e2:j=i
  ·rw [e2];exact hn
  ·exact (h.so x e).2.2 j (by omega) hl⟩⟩
noncomputable def aftT (w:Ws) (ord:List Nat) (x k:Nat):List Nat:=(List.range k).filter fun p=>(depL w x).contains (ord.getD p 0)
theorem Qu {w:Ws} {ord:List Nat} {x k:Nat} (h:ord.getD k 0∈depL w x):aftT w ord x (k+1)=aftT w ord x k++ [k]:=by
 unfold aftT;rw [List.range_succ,List.filter_append];simp [List.getD_eq_getElem?_getD] at h⊢;simp [h]
theorem Ow {w:Ws} {ord:List Nat} {x k:Nat} (h:ord.getD k 0∉depL w x):aftT w ord x (k+1)=aftT w ord x k:=by
 unfold aftT;rw [List.range_succ,List.filter_append];simp [List.getD_eq_getElem?_getD] at h⊢;simp [h]
theorem Qt (w:Ws) (ord:List Nat) (x k:Nat):(aftT w ord x k).length≤k:=by
 unfold aftT;exact Nat.le_trans (List.length_filter_le _ _) (by simp)
theorem eqI {a b:Int} (h:a=b):AV.d (Bh a)=AV.d (Bh b):=by rw [h]
set_option maxHeartbeats 2000000 in
theorem Li (w:Ws) (hw:Bc w) (hl:w.K.length≤2000000):B3 Try.prog 37 [.d (LO w)] (if acyW w=true then .tup [IC (groupsW w),Am true] else .tup [.sl (some true) [],Am false]):=by
 have hfew:=hw.few
 obtain ⟨n,hn⟩:∃n,(parts w).length=n:=⟨_,rfl⟩
 have hnR:n≤4096:=by rw [←hn];unfold parts;rw [List.length_map];exact Nat.le_trans (List.length_filter_le _ _) hfew
 have hpl:∀i,((parts w).getD i []).length≤2000000:=fun i=>by
  by_cases hi:i<(parts w).length
  ·have h1:=(F7 (Ln hw (List.mem_of_getElem? (HJ hi)))).length_le_of_subset (l₂:=w.R) fun y hy=>((MG hw hi).1 hy).1;omega
  ·rw [List.getD_eq_getElem?_getD,List.getElem?_eq_none (by omega)];exact Nat.zero_le _
 refine DA Try.func37 Z Z Try.ntmps37 Z Z Z fun F hF=>(AG (AH (U (JT 20 Z Z Z Z Z Z Z) (AD Z Z (AD Z Z (AF (AG (AH ?_))))))))
 first | refine J (BX Z Z AT rfl) ?_ | refine J (BY Z Z AT Z Z Z) ?_ | refine J (BZ Z Z (rfl) rfl AT rfl) ?_
 refine J (DL (all_p w hw hl) Z Z) (AD Z Z ?_);refine AF (AG (AH (AC Z Z (J (Cd rfl ((List.length_map ..).trans hn) Try.underlying79 rfl) (U (Ht 21 sl99 Z Z Z (by omega) zd4 Z Z Z Z) (AD Z Z (AF (AG ?_))))))));rw [repB];refine AH (AD Z Z (AF ?_));refine AG (Fj 6 30 sl73 Z Z Z Z (AH (AD Z Z (AF (AG (B7 (Fj 7 31 FH Z Z Z Z (Ex (α:=List Nat×List Grp) (fun q=>⟨110,[(1,(.ptr 20 0 0)),(4,(.d (Cy (parts w)))),(5,(.own 21 0 n)),(6,(.own 30 0 q.2.length)),(7,(.own 31 0 q.1.length))],[JA 20 w,(21,[.rowD 4 1 (JY n q.1)]),(30,[.rowD 76 2 (q.2.map J2)]),(31,[.rowD 3 1 (q.1.map natD)])]⟩) (fun q=>HT w q.1∧q.2=grpS w q.1) (fun q=>n - q.1.length) (([],[])) (⟨HT.zero w,rfl⟩) (BB hF [20,21,30,31] Z Z ⟨rfl,rfl,rfl,rfl,rfl,trivial⟩) ?_))))))));rintro ⟨ord,gs⟩ ⟨hI,hgs⟩;dsimp only at hI hgs⊢;refine AG (AG (AH (AC Z Z ?_)))
 first | refine J (JS rfl Try.underlying73 rfl) ?_ | refine J (Cd Z Z Try.underlying73 rfl) ?_ | refine J (JO rfl Try.underlying73 rfl) ?_ | refine J (JQ rfl Try.underlying73 rfl) ?_ | refine J (JN rfl Try.underlying73 rfl) ?_ | refine J (JE rfl Try.underlying73 rfl) ?_
 refine AC Z Z (J (Cd rfl ((List.length_map ..).trans hn) Try.underlying79 rfl) ?_)
 first | refine J (El Z Z Z) ?_ | refine J (Em Z Z Z) ?_
 refine AF ?_
 first | refine BC rfl (fun h23=>?_) (fun h23=>?_) | refine Ax rfl (fun h23=>?_) (fun h23=>?_)
 ·refine Aj (B7 (AG ?_));have hgl:gs.length=ord.length:=by rw [hgs,Gj]
  have hlt:gs.length<n:=Gt h23;refine AH (AD Z Z (AF (AG (AG ?_))));refine AH (AC Z Z (J (Cd rfl ((List.length_map ..).trans hn) Try.underlying79 rfl) (J (DN Z Z (IntWalk.i64_in _ (by omega)) rfl) (ND 26 (.d (Bh ((n:Int) - 1 - ((0:Nat):Int)))) rfl (eqI (by omega)) (AD Z Z (AF (B7 (Ex (α:=Nat×Option Nat) (fun q=>⟨110,[(1,(.ptr 20 0 0)),(4,(.d (Cy (parts w)))),(5,(.own 21 0 n)),(6,(.own 30 0 gs.length)),(7,(.own 31 0 ord.length)),(8,(.d (Bh (encR q.2)))),(9,(.d (Bh ((n:Int) - 1 - (q.1:Int)))))],[JA 20 w,(21,[.rowD 4 1 (JY n ord)]),(30,[.rowD 76 2 (gs.map J2)]),(31,[.rowD 3 1 (ord.map natD)])]⟩) (fun q=>q.1≤n∧LRd w ord (n - q.1) q.2) (fun q=>n - q.1) ((0,none)) (⟨Nat.zero_le _,Og hn.symm⟩) (BB hF [20,21,30,31] Z Z ⟨rfl,rfl,rfl,rfl,rfl,rfl,rfl,trivial⟩) ?_))))))));rintro ⟨d,o⟩ ⟨hd,hLA⟩;dsimp only at hd hLA⊢;refine AG (AG (AH (AC Z Z (J (K9 Z Z Z) (AF ?_)))))
  first | refine BC rfl (fun h28=>?_) (fun h28=>?_) | refine Ax rfl (fun h28=>?_) (fun h28=>?_)
  ·refine Aj (AG (B7 (AG ?_)));have hdl:d<n:=by have:=h28;omega
   refine N4 9 (.d (natD (n - 1 - d))) rfl (eqI (by omega)) ?_
   obtain ⟨i,hie⟩:∃i,n - 1 - d=i:=⟨_,rfl⟩
   rw [hie];have hil:i<n:=by omega
   have hil2:i<(parts w).length:=by omega
   have hie2:i=n - (d+1):=by omega
   have hie3:n - d=i+1:=by omega
   refine AH (AC Z Z (AC Z Z ?_))
   first | refine J (BO (i) Z Z (rfl) (hil) Try.underlying99 rfl PC rfl) ?_ | refine J (BP (i) Z Z (rfl) (hil) rfl Try.underlying99 PC rfl) ?_
   first | refine J (AZ Z Z on4 rfl) ?_ | refine J (AX Z Z Z on4 rfl) ?_ | refine J (AY Z Z (I4 hil) rfl on4 rfl) ?_
   first | refine J (ET Z Z) ?_ | refine J (EO Z Z) ?_
   refine ND 35 (.d (Am (decide (PA w ord i 0)))) rfl Q3 ?_;refine AD Z Z (AF (AG (AG (AH (AD Z Z (AF (B7 (Ex (α:=Nat) (fun k=>⟨110,[(1,(.ptr 20 0 0)),(4,(.d (Cy (parts w)))),(5,(.own 21 0 n)),(6,(.own 30 0 gs.length)),(7,(.own 31 0 ord.length)),(8,(.d (Bh (encR o)))),(9,(.d (natD i))),(10,(.d (Am (decide (PA w ord i k))))),(11,(.d (natD k)))],[JA 20 w,(21,[.rowD 4 1 (JY n ord)]),(30,[.rowD 76 2 (gs.map J2)]),(31,[.rowD 3 1 (ord.map natD)])]⟩) (fun k=>k≤n) (fun k=>n - k) (0) (Nat.zero_le _) (BB hF [20,21,30,31] Z Z ⟨rfl,rfl,rfl,rfl,rfl,rfl,rfl,rfl,rfl,trivial⟩) ?_))))))));intro k hk;refine AG (AG (AH (AC Z Z (AC Z Z (J (Cd rfl ((List.length_map ..).trans hn) Try.underlying79 rfl) ?_)))))
   first | refine J (El Z Z Z) ?_ | refine J (Em Z Z Z) ?_
   refine AF ?_
   first | refine BC rfl (fun h39=>?_) (fun h39=>?_) | refine Ax rfl (fun h39=>?_) (fun h39=>?_)
   ·refine Aj (AG (B7 (AG ?_)));have hkl:k<n:=Gt h39;have hkl2:k<(parts w).length:=by omega
    refine F1 [[],[],[0,1],[0,1,2],[0,1,2,3],[0,1,2,3],[0,1,2,3,4,5],[0,1,2,3,4,5,6],[0,1,2,3,4,5,6,7],[0,1,2,3,4,5,6,7,8],[0,1,2,3,4,5,6,7,8,9],[0,1,2,3,4,5,6,7,8,9,10],[0,1,2,3,4,5,6,7,8,9,10],[0,1,2,3,4,5,6,7,8,9,10],[0,1,2,3,4,5,6,7,8,9,10,12,13],[0,1,2,3,4,5,6,7,8,9,10,12,13,14],[0,1,2,3,4,5,6,7,8,9,10],[0,1,2,3,4,5,6,7,8,9,10],[0,1,2,3,4,5,6,7,8,9,10,16,17],[0,1,2,3,4,5,6,7,8,9,10,16,17,18],[0,1,2,3,4,5,6,7,8,9,10,11,12,13,14,15,16,17,18,19],[0,1,2,3,4,5,6,7,8,9,10,11,12,13,14,15,16,17,18,19,20]] mixed rfl (D1 ?_)
    first | refine AE [9] [] Z Z (fun _=>AB (Ac Z Z)) ?_ | refine AI [9] Z Z (fun _=>AB (Ac Z Z)) ?_
    first | refine AE [11] [] Z Z (fun _=>AB (Ac Z Z)) ?_ | refine AI [11] Z Z (fun _=>AB (Ac Z Z)) ?_
    refine D2 2 Z Z Z (BQ 3 Z Z ?_)
    first | refine J (IP Z Z Z) ?_ | refine J (iOq Z Z Z) ?_ | refine J (Ho Z Z Z) ?_ | refine J (IJ Try.underlying3 Z Z Z) ?_ | refine J (IL Try.underlying3 Z Z Z) ?_ | refine J (st_neqN Try.underlying3 Z Z) ?_ | refine J (IN Try.underlying3 Z Z) ?_ | refine J (st_neqMz Try.underlying3 Z Z) ?_ | refine J (IK Try.underlying3 Z Z Z) ?_ | refine J (st_neqFN Try.underlying3 Z Z) ?_
    refine AF ⟨rfl,?_⟩;refine BQ 4 Z Z (AC Z Z ?_)
    first | refine Hq 45 rfl (fun h45=>?_) (fun h45=>?_) | refine HP 45 rfl (fun h45=>?_) (fun h45=>?_)
    ·refine AF ⟨rfl,?_⟩;refine D1 ?_
     first | refine AE [5,45] [] Z Z (fun _=>Bu Z Z Z (Ac Z Z)) ?_ | refine AI [5,45] Z Z (fun _=>Bu Z Z Z (Ac Z Z)) ?_
     first | refine AE [11,45] [] Z Z (fun _=>Bu Z Z Z (Ac Z Z)) ?_ | refine AI [11,45] Z Z (fun _=>Bu Z Z Z (Ac Z Z)) ?_
     refine D2 6 Z Z Z (BQ 7 Z Z (A3 Z Z Z ?_))
     first | refine J (BO (k) Z Z (rfl) (hkl) Try.underlying99 rfl PC rfl) ?_ | refine J (BP (k) Z Z (rfl) (hkl) rfl Try.underlying99 PC rfl) ?_
     refine AF ⟨rfl,?_⟩;refine BQ 8 Z Z (A3 Z Z Z ?_)
     first | refine J (AZ Z Z on4 rfl) ?_ | refine J (AX Z Z Z on4 rfl) ?_ | refine J (AY Z Z (I4 hkl) rfl on4 rfl) ?_
     refine AF ⟨rfl,?_⟩;refine BQ 9 Z Z (A3 Z Z Z ?_)
     first | refine J (ET Z Z) ?_ | refine J (EO Z Z) ?_
     refine AF ⟨rfl,?_⟩;refine BQ 10 Z Z (J (GS Z Z Z Z) (AF ⟨rfl,?_⟩));refine BQ 11 Z Z (AC Z Z ?_)
     first | refine Hq 52 rfl (fun h52=>?_) (fun h52=>?_) | refine HP 52 rfl (fun h52=>?_) (fun h52=>?_)
     ·refine AF ⟨rfl,?_⟩;refine D1 ?_
      first | refine AE [1,52] [20] Z Z (fun _=>Bu Z Z Z (BX Z Z AT rfl)) ?_ | refine AE [1,52] [20] Z Z (fun _=>Bu Z Z Z (BY Z Z AT Z Z Z)) ?_ | refine AE [1,52] [20] Z Z (fun _=>Bu Z Z Z (BZ Z Z (rfl) rfl AT rfl)) ?_
      first | refine AE [4,52] [] Z Z (fun _=>Bu Z Z Z (Ac Z Z)) ?_ | refine AI [4,52] Z Z (fun _=>Bu Z Z Z (Ac Z Z)) ?_
      first | refine AE [9,52] [] Z Z (fun _=>Bu Z Z Z (Ac Z Z)) ?_ | refine AI [9,52] Z Z (fun _=>Bu Z Z Z (Ac Z Z)) ?_
      first | refine AE [54,55,52] [] Z Z (fun _=>Bu Z Z Z (BO (i) Z Z (rfl) (JP hil2) Try.underlying79 rfl CG rfl)) ?_ | refine AI [54,55,52] Z Z (fun _=>Bu Z Z Z (BO (i) Z Z (rfl) (JP hil2) Try.underlying79 rfl CG rfl)) ?_ | refine AE [54,55,52] [] Z Z (fun _=>Bu Z Z Z (BP (i) Z Z (rfl) (JP hil2) rfl Try.underlying79 CG rfl)) ?_ | refine AI [54,55,52] Z Z (fun _=>Bu Z Z Z (BP (i) Z Z (rfl) (JP hil2) rfl Try.underlying79 CG rfl)) ?_
      first | refine AE [56,52] [] Z Z (fun _=>Bu Z Z Z (AZ Z Z AN rfl)) ?_ | refine AI [56,52] Z Z (fun _=>Bu Z Z Z (AZ Z Z AN rfl)) ?_ | refine AE [56,52] [] Z Z (fun _=>Bu Z Z Z (AX Z Z Z AN rfl)) ?_ | refine AI [56,52] Z Z (fun _=>Bu Z Z Z (AX Z Z Z AN rfl)) ?_ | refine AE [56,52] [] Z Z (fun _=>Bu Z Z Z (AY Z Z (rfl) rfl AN rfl)) ?_ | refine AI [56,52] Z Z (fun _=>Bu Z Z Z (AY Z Z (rfl) rfl AN rfl)) ?_
      first | refine AE [4,52] [] Z Z (fun _=>Bu Z Z Z (Ac Z Z)) ?_ | refine AI [4,52] Z Z (fun _=>Bu Z Z Z (Ac Z Z)) ?_
      first | refine AE [11,52] [] Z Z (fun _=>Bu Z Z Z (Ac Z Z)) ?_ | refine AI [11,52] Z Z (fun _=>Bu Z Z Z (Ac Z Z)) ?_
      first | refine AE [58,59,52] [] Z Z (fun _=>Bu Z Z Z (BO (k) Z Z (rfl) (JP hkl2) Try.underlying79 rfl CG rfl)) ?_ | refine AI [58,59,52] Z Z (fun _=>Bu Z Z Z (BO (k) Z Z (rfl) (JP hkl2) Try.underlying79 rfl CG rfl)) ?_ | refine AE [58,59,52] [] Z Z (fun _=>Bu Z Z Z (BP (k) Z Z (rfl) (JP hkl2) rfl Try.underlying79 CG rfl)) ?_ | refine AI [58,59,52] Z Z (fun _=>Bu Z Z Z (BP (k) Z Z (rfl) (JP hkl2) rfl Try.underlying79 CG rfl)) ?_
      first | refine AE [60,52] [] Z Z (fun _=>Bu Z Z Z (AZ Z Z AN rfl)) ?_ | refine AI [60,52] Z Z (fun _=>Bu Z Z Z (AZ Z Z AN rfl)) ?_ | refine AE [60,52] [] Z Z (fun _=>Bu Z Z Z (AX Z Z Z AN rfl)) ?_ | refine AI [60,52] Z Z (fun _=>Bu Z Z Z (AX Z Z Z AN rfl)) ?_ | refine AE [60,52] [] Z Z (fun _=>Bu Z Z Z (AY Z Z (rfl) rfl AN rfl)) ?_ | refine AI [60,52] Z Z (fun _=>Bu Z Z Z (AY Z Z (rfl) rfl AN rfl)) ?_
      refine D2 20 Z Z Z (BQ 21 Z Z (A3 Z Z Z (J (DL (KK w ((parts w).getD i []) ((parts w).getD k []) hl (hpl _) (hpl _)) Z Z) (AF ⟨rfl,?_⟩))));refine BQ 22 Z Z (J (GS Z Z Z Z) (AF ⟨rfl,?_⟩));refine Ei ?_
      first | refine BC rfl (fun h63=>?_) (fun h63=>?_) | refine Ax rfl (fun h63=>?_) (fun h63=>?_)
      ·refine AH (AD Z Z (AF (N4 10 (.d (Am (decide (PA w ord i (k+1))))) rfl (by first | exact Kv (fun e=>h45 (by rw [e])) h52 ((CC hw hil2 hkl2 (fun e=>h45 (by rw [e]))).1 h63) | exact PD (.inr (.inr fun hh=>h63 ((CC hw hil2 hkl2 (fun e=>h45 (by rw [e]))).2 hh))) | exact PD (.inr (.inl (Classical.not_not.1 h52))) | exact PD (.inl (Int.ofNat.inj (Classical.not_not.1 h45)).symm)) (AH (AC Z Z (J (C5 Z Z (IntWalk.i64_in _ (by omega)) rfl) (AD Z Z (AF ?_))))))));exact ⟨k+1,hkl,by omega,BB hF [20,21,30,31] rfl (rfl) ⟨rfl,rfl,rfl,rfl,rfl,rfl,rfl,rfl,rfl,trivial⟩⟩
      ·refine Aj (N4 10 (.d (Am (decide (PA w ord i (k+1))))) rfl (by first | exact Kv (fun e=>h45 (by rw [e])) h52 ((CC hw hil2 hkl2 (fun e=>h45 (by rw [e]))).1 h63) | exact PD (.inr (.inr fun hh=>h63 ((CC hw hil2 hkl2 (fun e=>h45 (by rw [e]))).2 hh))) | exact PD (.inr (.inl (Classical.not_not.1 h52))) | exact PD (.inl (Int.ofNat.inj (Classical.not_not.1 h45)).symm)) (AH (AC Z Z (J (C5 Z Z (IntWalk.i64_in _ (by omega)) rfl) (AD Z Z (AF ?_))))));exact ⟨k+1,hkl,by omega,BB hF [20,21,30,31] rfl (rfl) ⟨rfl,rfl,rfl,rfl,rfl,rfl,rfl,rfl,rfl,trivial⟩⟩
     ·refine AF ⟨rfl,?_⟩;refine D1 (AE [1,52] [] Z Z (fun _=>GU Z Z Z Z) (AE [4,52] [] Z Z (fun _=>GU Z Z Z Z) (AE [9,52] [] Z Z (fun _=>GU Z Z Z Z) (AE [54,55,52] [] Z Z (fun _=>GU Z Z Z Z) ?_))));refine AE [56,52] [] Z Z (fun _=>GU Z Z Z Z) (AE [4,52] [] Z Z (fun _=>GU Z Z Z Z) (AE [11,52] [] Z Z (fun _=>GU Z Z Z Z) (AE [58,59,52] [] Z Z (fun _=>GU Z Z Z Z) (AE [60,52] [] Z Z (fun _=>GU Z Z Z Z) (D2 20 Z Z Z (BQ 21 Z Z (Aw Z Z Z Z (AF ⟨rfl,?_⟩))))))));refine BQ 22 Z Z (J (En Z Z Z Z) (AF ⟨rfl,?_⟩));refine Ei (DX Z Z (Aj (N4 10 (.d (Am (decide (PA w ord i (k+1))))) rfl (by first | exact Kv (fun e=>h45 (by rw [e])) h52 ((CC hw hil2 hkl2 (fun e=>h45 (by rw [e]))).1 h63) | exact PD (.inr (.inr fun hh=>h63 ((CC hw hil2 hkl2 (fun e=>h45 (by rw [e]))).2 hh))) | exact PD (.inr (.inl (Classical.not_not.1 h52))) | exact PD (.inl (Int.ofNat.inj (Classical.not_not.1 h45)).symm)) (AH (AC Z Z (J (C5 Z Z (IntWalk.i64_in _ (by omega)) rfl) (AD Z Z (AF ?_))))))));exact ⟨k+1,hkl,by omega,BB hF [20,21,30,31] rfl (rfl) ⟨rfl,rfl,rfl,rfl,rfl,rfl,rfl,rfl,rfl,trivial⟩⟩
    ·refine AF ⟨rfl,?_⟩;refine D1 (AE [5,45] [] Z Z (fun _=>GU Z Z Z Z) (AE [11,45] [] Z Z (fun _=>GU Z Z Z Z) (D2 6 Z Z Z (BQ 7 Z Z (Aw Z Z Z Z (AF ⟨rfl,?_⟩))))));refine BQ 8 Z Z (Aw Z Z Z Z (AF ⟨rfl,?_⟩));refine BQ 9 Z Z (Aw Z Z Z Z (AF ⟨rfl,?_⟩));refine BQ 10 Z Z (J (En Z Z Z Z) (AF ⟨rfl,?_⟩));refine BQ 11 Z Z (AC Z Z (AF ⟨rfl,?_⟩));refine D1 (AE [1,52] [] Z Z (fun _=>GU Z Z Z Z) (AE [4,52] [] Z Z (fun _=>GU Z Z Z Z) (AE [9,52] [] Z Z (fun _=>GU Z Z Z Z) (AE [54,55,52] [] Z Z (fun _=>GU Z Z Z Z) ?_))));refine AE [56,52] [] Z Z (fun _=>GU Z Z Z Z) (AE [4,52] [] Z Z (fun _=>GU Z Z Z Z) (AE [11,52] [] Z Z (fun _=>GU Z Z Z Z) (AE [58,59,52] [] Z Z (fun _=>GU Z Z Z Z) (AE [60,52] [] Z Z (fun _=>GU Z Z Z Z) (D2 20 Z Z Z (BQ 21 Z Z (Aw Z Z Z Z (AF ⟨rfl,?_⟩))))))));refine BQ 22 Z Z (J (En Z Z Z Z) (AF ⟨rfl,?_⟩));refine Ei (DX Z Z (Aj (N4 10 (.d (Am (decide (PA w ord i (k+1))))) rfl (by first | exact Kv (fun e=>h45 (by rw [e])) h52 ((CC hw hil2 hkl2 (fun e=>h45 (by rw [e]))).1 h63) | exact PD (.inr (.inr fun hh=>h63 ((CC hw hil2 hkl2 (fun e=>h45 (by rw [e]))).2 hh))) | exact PD (.inr (.inl (Classical.not_not.1 h52))) | exact PD (.inl (Int.ofNat.inj (Classical.not_not.1 h45)).symm)) (AH (AC Z Z (J (C5 Z Z (IntWalk.i64_in _ (by omega)) rfl) (AD Z Z (AF ?_))))))));exact ⟨k+1,hkl,by omega,BB hF [20,21,30,31] rfl (rfl) ⟨rfl,rfl,rfl,rfl,rfl,rfl,rfl,rfl,rfl,trivial⟩⟩
   ·refine D3 (AG ?_);have hkn:n=k:=by have:=h39;omega
    subst hkn;refine AH (AC Z Z (AF ?_))
    first | refine BC rfl (fun h64=>?_) (fun h64=>?_) | refine Ax rfl (fun h64=>?_) (fun h64=>?_)
    ·refine AH ?_;refine AC Z Z (AD Z Z (AF (AH (AC Z Z (J (DN Z Z (IntWalk.i64_in _ (by omega)) rfl) (ND 30 (.d (Bh ((n:Int) - 1 - ((d+1:Nat):Int)))) rfl (eqI (by omega)) (AD Z Z (AF ?_))))))));exact ⟨(d+1,some i),⟨hdl,hie2▸lrd_hit hil2 ((Ns (Nt hw)).1 (by rw [hn];exact h64))⟩,by show n - (d+1)<n - d;omega,BB hF [20,21,30,31] rfl (rfl) ⟨rfl,rfl,rfl,rfl,rfl,rfl,rfl,trivial⟩⟩
    ·refine Aj (AH (AC Z Z (J (DN Z Z (IntWalk.i64_in _ (by omega)) rfl) (ND 30 (.d (Bh ((n:Int) - 1 - ((d+1:Nat):Int)))) rfl (eqI (by omega)) (AD Z Z (AF ?_))))));exact ⟨(d+1,o),⟨hdl,hie2▸QJ (hie3▸hLA) (by rw [Bool.eq_false_iff];exact fun hc=>h64 (by have:=(Ns (Nt hw)).2 hc;rw [hn] at this;exact this))⟩,by show n - (d+1)<n - d;omega,BB hF [20,21,30,31] rfl (rfl) ⟨rfl,rfl,rfl,rfl,rfl,rfl,rfl,trivial⟩⟩
  ·refine D3 (AG (AG ?_));have hdn:n - d=0:=by have:=h28;omega
   rw [hdn] at hLA;refine AH (AC Z Z ?_)
   first | refine J (El Z Z Z) ?_ | refine J (Em Z Z Z) ?_
   refine AF ?_
   first | refine BC rfl (fun h67=>?_) (fun h67=>?_) | refine Ax rfl (fun h67=>?_) (fun h67=>?_)
   ·refine AG (AH (AD Z Z (AD Z Z (AF (At ?_)))));have hon:o=none:=by cases o with | none=>rfl | some x=>exact absurd h67 (by show ¬((x:Int)<0);omega)
    obtain ⟨g1,g2⟩:=Nq (hI.stop (by omega) (Lv fun i hi=>hLA.nn hon i (Nat.zero_le _) hi));exact ⟨_,[],[],As rfl,rfl,rfl,by rw [g2];rfl,rfl⟩
   ·refine Aj (AG ?_);obtain ⟨x,hx⟩:∃x,o=some x:=by cases o with | none=>exact absurd (show encR none<0 by decide) h67 | some x=>exact ⟨x,rfl⟩
    subst hx;obtain ⟨hx2,hxr,hxm⟩:=hLA.so x rfl;have hxl:x<n:=by omega
    have hnx:=Ea hx2 hxr (fun j hj=>hxm j (Nat.zero_le _) hj);obtain ⟨_,hxo,_⟩:=EI hnx;refine N4 8 (.d (natD x)) Z Z (AH (AC Z Z (AC Z Z ?_)))
    first | refine J (BO (x) Z Z (rfl) (hxl) Try.underlying99 rfl PC rfl) ?_ | refine J (BP (x) Z Z (rfl) (hxl) rfl Try.underlying99 PC rfl) ?_
    refine U (Zcp Z Z Z Z Z (by rw [Lc];exact hxl) Lb rfl PC) (AF (AG (AH (AC Z Z (AC Z Z ?_)))))
    first | refine J (BO (x) Z Z (rfl) (JP hx2) Try.underlying79 rfl CG rfl) ?_ | refine J (BP (x) Z Z (rfl) (JP hx2) rfl Try.underlying79 CG rfl) ?_
    first | refine J (AZ Z Z AN rfl) ?_ | refine J (AX Z Z Z AN rfl) ?_ | refine J (AY Z Z (rfl) rfl AN rfl) ?_
    refine J (Me zl76 pl76 Z Z Z) (U (HQ 40 zl76 Z Z Z Z) (U (Bq Z Z Z Z Z Z Z sz76) ?_));refine AF (AG (AG (AH (AD Z Z (AF (B7 (DU 40 0 1 41 FH Z Z Z Z Z Z Z (Ex (α:=Nat×List Nat) (fun q=>⟨110,[(1,(.ptr 20 0 0)),(4,(.d (Cy (parts w)))),(5,(.own 21 0 n)),(6,(.own 30 0 gs.length)),(7,(.own 31 0 ord.length)),(8,(.d (natD x))),(12,(.ptr 40 0 0)),(13,(.d (natD q.1)))],[JA 20 w,(21,[.rowD 4 1 (JY n (ord++ [x]))]),(30,[.rowD 76 2 (gs.map J2)]),(31,[.rowD 3 1 (ord.map natD)]),(40,[.blk 76 [.d (stsD ((parts w).getD x [])),.own 41 0 q.2.length]]),(41,[.rowD 3 1 (q.2.map natD)])]⟩) (fun q=>q.1≤ord.length∧q.2=aftT w ord x q.1) (fun q=>ord.length - q.1) ((0,[])) (⟨Nat.zero_le _,rfl⟩) (BB hF [20,21,30,31,40,41] Z Z ⟨rfl,rfl,rfl,rfl,rfl,rfl,rfl,rfl,trivial⟩) ?_))))))));rintro ⟨p,acc⟩ ⟨hp,hacc⟩;dsimp only at hp hacc⊢;refine AG (AG (AH (AC Z Z (AC Z Z ?_))))
    first | refine J (JS rfl Try.underlying49 rfl) ?_ | refine J (Cd Z Z Try.underlying49 rfl) ?_ | refine J (JO rfl Try.underlying49 rfl) ?_ | refine J (JQ rfl Try.underlying49 rfl) ?_ | refine J (JN rfl Try.underlying49 rfl) ?_ | refine J (JE rfl Try.underlying49 rfl) ?_
    first | refine J (El Z Z Z) ?_ | refine J (Em Z Z Z) ?_
    refine AF ?_
    first | refine BC rfl (fun h79=>?_) (fun h79=>?_) | refine Ax rfl (fun h79=>?_) (fun h79=>?_)
    ·refine Aj (AG (B7 (AG ?_)));have hpl2:p<ord.length:=Gt h79;have hyl:C4 ord p<(parts w).length:=hI.good.lt _ (Fc hpl2);have hal:acc.length≤4096:=by have:=Qt w ord x p;rw [←hacc] at this;omega
     refine F1 [[],[],[],[1,2],[1,2,3],[],[],[],[6,7],[6,7,8],[5,6,7,8,9],[5,6,7,8,9,10],[0,1,2,3,4,5,6,7,8,9,10,11]] mixed rfl (D1 ?_)
     first | refine AE [1] [20] Z Z (fun _=>AB (BX Z Z AT rfl)) ?_ | refine AE [1] [20] Z Z (fun _=>AB (BY Z Z AT Z Z Z)) ?_ | refine AE [1] [20] Z Z (fun _=>AB (BZ Z Z (rfl) rfl AT rfl)) ?_
     first | refine AE [4] [] Z Z (fun _=>AB (Ac Z Z)) ?_ | refine AI [4] Z Z (fun _=>AB (Ac Z Z)) ?_
     first | refine AE [8] [] Z Z (fun _=>AB (Ac Z Z)) ?_ | refine AI [8] Z Z (fun _=>AB (Ac Z Z)) ?_
     first | refine AE [83,84] [] Z Z (fun _=>AB (BO (x) Z Z (rfl) (JP hx2) Try.underlying79 rfl CG rfl)) ?_ | refine AI [83,84] Z Z (fun _=>AB (BO (x) Z Z (rfl) (JP hx2) Try.underlying79 rfl CG rfl)) ?_ | refine AE [83,84] [] Z Z (fun _=>AB (BP (x) Z Z (rfl) (JP hx2) rfl Try.underlying79 CG rfl)) ?_ | refine AI [83,84] Z Z (fun _=>AB (BP (x) Z Z (rfl) (JP hx2) rfl Try.underlying79 CG rfl)) ?_
     first | refine AE [85] [] Z Z (fun _=>AB (AZ Z Z AN rfl)) ?_ | refine AI [85] Z Z (fun _=>AB (AZ Z Z AN rfl)) ?_ | refine AE [85] [] Z Z (fun _=>AB (AX Z Z Z AN rfl)) ?_ | refine AI [85] Z Z (fun _=>AB (AX Z Z Z AN rfl)) ?_ | refine AE [85] [] Z Z (fun _=>AB (AY Z Z (rfl) rfl AN rfl)) ?_ | refine AI [85] Z Z (fun _=>AB (AY Z Z (rfl) rfl AN rfl)) ?_
     first | refine AE [4] [] Z Z (fun _=>AB (Ac Z Z)) ?_ | refine AI [4] Z Z (fun _=>AB (Ac Z Z)) ?_
     first | refine AE [7] [] Z Z (fun _=>AB (Ac Z Z)) ?_ | refine AI [7] Z Z (fun _=>AB (Ac Z Z)) ?_
     first | refine AE [13] [] Z Z (fun _=>AB (Ac Z Z)) ?_ | refine AI [13] Z Z (fun _=>AB (Ac Z Z)) ?_
     first | refine AE [88,89] [31] Z Z (fun _=>AB (BO (p) Z Z (rfl) (hpl2) Try.underlying49 rfl Et rfl)) ?_ | refine AE [88,89] [31] Z Z (fun _=>AB (BP (p) Z Z (rfl) (hpl2) rfl Try.underlying49 Et rfl)) ?_
     first | refine AE [90] [31] Z Z (fun _=>AB (AZ Z Z Bv rfl)) ?_ | refine AE [90] [31] Z Z (fun _=>AB (AX Z Z Z Bv rfl)) ?_ | refine AE [90] [31] Z Z (fun _=>AB (AY Z Z (GL hpl2) rfl Bv rfl)) ?_
     first | refine AE [87,91] [] Z Z (fun _=>AB (BO (C4 ord p) Z Z (rfl) (JP hyl) Try.underlying79 rfl CG rfl)) ?_ | refine AI [87,91] Z Z (fun _=>AB (BO (C4 ord p) Z Z (rfl) (JP hyl) Try.underlying79 rfl CG rfl)) ?_ | refine AE [87,91] [] Z Z (fun _=>AB (BP (C4 ord p) Z Z (rfl) (JP hyl) rfl Try.underlying79 CG rfl)) ?_ | refine AI [87,91] Z Z (fun _=>AB (BP (C4 ord p) Z Z (rfl) (JP hyl) rfl Try.underlying79 CG rfl)) ?_
     first | refine AE [92] [] Z Z (fun _=>AB (AZ Z Z AN rfl)) ?_ | refine AI [92] Z Z (fun _=>AB (AZ Z Z AN rfl)) ?_ | refine AE [92] [] Z Z (fun _=>AB (AX Z Z Z AN rfl)) ?_ | refine AI [92] Z Z (fun _=>AB (AX Z Z Z AN rfl)) ?_ | refine AE [92] [] Z Z (fun _=>AB (AY Z Z (rfl) rfl AN rfl)) ?_ | refine AI [92] Z Z (fun _=>AB (AY Z Z (rfl) rfl AN rfl)) ?_
     refine D2 12 Z Z Z (BQ 13 Z Z (J (DL (KK w ((parts w).getD x []) ((parts w).getD (C4 ord p) []) hl (hpl _) (hpl _)) Z Z) (AF ⟨rfl,?_⟩)));refine Ei ?_
     first | refine BC rfl (fun h94=>?_) (fun h94=>?_) | refine Ax rfl (fun h94=>?_) (fun h94=>?_)
     ·refine AH ?_
      first | refine J (A5 rfl Dr Z Z Z) ?_ | refine J (A7 rfl Dr Z Z Z) ?_ | refine J (A8 rfl Dr Z Z Z) ?_ | refine J (A6 rfl Dr Z Z Z) ?_ | refine J (A4 rfl Dr Z Z Z) ?_
      first | refine J (AZ Z Z Ay rfl) ?_ | refine J (AX Z Z Z Ay rfl) ?_ | refine J (AY Z Z (rfl) rfl Ay rfl) ?_
      refine AC Z Z (U (Gp 42 FH Z Z Z Z Z Z Z Z) ?_)
      first | refine U (JM (acc) ([p]) Z Z Z Z Z Z Z Z FH (by simp only [List.length_singleton];omega) Z Z Z Z) ?_ | refine U (KX (acc) ([p]) Z Z Z Z Z Z (fun _=>rfl) FH (by simp only [List.length_singleton];omega) Z Z Z Z) ?_
      first | refine J (A5 rfl Dr Z Z Z) ?_ | refine J (A7 rfl Dr Z Z Z) ?_ | refine J (A8 rfl Dr Z Z Z) ?_ | refine J (A6 rfl Dr Z Z Z) ?_ | refine J (A4 rfl Dr Z Z Z) ?_
      refine U (Bq Z Z Z Z Z Z Z Ck) (AF (AH (AC Z Z (J (C5 Z Z (IntWalk.i64_in _ (by omega)) rfl) (AD Z Z (AF ?_))))));exact ⟨(p+1,acc++ [p]),⟨hpl2,by show _=aftT w ord x (p+1);rw [Qu ((CC hw hx2 hyl (fun e=>hxo (by rw [e];exact Fc hpl2))).1 h94),hacc]⟩,by show ord.length - (p+1)<ord.length - p;omega,BB hF [20,21,30,31,40,41] rfl (rfl) ⟨rfl,rfl,rfl,rfl,rfl,rfl,rfl,rfl,trivial⟩⟩
     ·refine Aj (AH (AC Z Z (J (C5 Z Z (IntWalk.i64_in _ (by omega)) rfl) (AD Z Z (AF ?_)))));exact ⟨(p+1,acc),⟨hpl2,by show _=aftT w ord x (p+1);rw [Ow (fun hh=>h94 ((CC hw hx2 hyl (fun e=>hxo (by rw [e];exact Fc hpl2))).2 hh)),hacc]⟩,by show ord.length - (p+1)<ord.length - p;omega,BB hF [20,21,30,31,40,41] rfl (rfl) ⟨rfl,rfl,rfl,rfl,rfl,rfl,rfl,rfl,trivial⟩⟩
    ·refine D3 (AG ?_);have hpe:p=ord.length:=by have:=h79;omega
     have hac:acc=Ew (depL w) ord x ord.length:=by rw [hacc,hpe];rfl
     refine CR (ys:=acc.map natD) 40 0 1 41 Z Z Z (Nat.le_of_eq (by rw [List.length_map])) (List.take_of_length_le (by rw [List.length_map];exact Nat.le_refl _)) Z Z Z Z Z Z ?_;rw [hac];refine AH (AC Z Z ?_)
     first | refine J (BX Z Z rw76 rfl) ?_ | refine J (BY Z Z rw76 Z Z Z) ?_ | refine J (BZ Z Z (rfl) rfl rw76 rfl) ?_
     refine U (Gp 43 sl73 Z Z Z Z Z Z Z Z) ?_
     first | refine U (JM (gs) ([(⟨(parts w).getD x [],Ew (depL w) ord x ord.length⟩:Grp)]) Z Z Z Z Z Z Z Z sl73 (by simp only [List.length_singleton];omega) Z Z Z Z) ?_ | refine U (KX (gs) ([(⟨(parts w).getD x [],Ew (depL w) ord x ord.length⟩:Grp)]) Z Z Z Z Z Z (fun _=>rfl) sl73 (by simp only [List.length_singleton];omega) Z Z Z Z) ?_
     refine AD Z Z (AF (AH (AC Z Z (AC Z Z (U (Gp 44 FH Z Z Z Z Z Z Z Z) ?_)))))
     first | refine U (JM (ord) ([x]) Z Z Z Z Z Z Z Z FH (by simp only [List.length_singleton];omega) Z Z Z Z) ?_ | refine U (KX (ord) ([x]) Z Z Z Z Z Z (fun _=>rfl) FH (by simp only [List.length_singleton];omega) Z Z Z Z) ?_
     refine AD Z Z (AF ?_);exact ⟨(ord++ [x],gs++ [⟨(parts w).getD x [],Ew (depL w) ord x ord.length⟩]),⟨hI.next (by omega) hnx,by show _=grpS w (ord++ [x]);rw [KI,hgs]⟩,by show n - (ord++ [x]).length<n - ord.length;rw [List.length_append,List.length_singleton];omega,BB hF [20,21,30,31] rfl (rfl) ⟨rfl,rfl,rfl,rfl,rfl,trivial⟩⟩
 ·refine D3 (AG ?_);obtain ⟨g1,g2⟩:=Ku (hI.fin (by have h1:=h23;have h2:gs.length=ord.length:=(by rw [hgs,Gj]);omega));refine Zcl (emb:=J2) 6 30 gs Z Z Z Z Z Z Z (AH (AC Z Z (AD Z Z (AD Z Z (AF (At ?_))))));exact ⟨_,[],[],As rfl,rfl,rfl,by rw [if_pos g2,g1,hgs],rfl⟩
end Go.Proofs.Ytlmedakidpaeeaa
