/- Layer 27: Remove, walked. -/
import Derived.Test.YtlmedakidpaeeaaMg20
namespace Go.Proofs.Ytlmedakidpaeeaa
open Go.RowKit
set_option maxRecDepth 100000
theorem eE_del {E:List (St×Nat)} {x:St} (hn:(E.map Prod.fst).Nodup):NL (eE E) x=eE (E.filter fun p=>!decide (p.1=x)):=by
 unfold NL
 induction E with
 | nil=>rfl
 | cons p r ih=>
  obtain ⟨h1,h2⟩:p.1∉r.map Prod.fst∧(r.map Prod.fst).Nodup:=List.nodup_cons.1 hn;show List.eraseIdx ((p.1,some p.2)::eE r) (if x=p.1 then 0 else D2 (eE r) x+1)=_
  by_cases e:x=p.1
  ·subst e;rw [if_pos rfl,List.filter_cons,List.filter_eq_self.2 fun y hy=>by simp;exact fun e=>h1 (by rw [←e];exact List.mem_map_of_mem hy)]
   simp
  ·have e':¬p.1=x:=fun h=>e h.symm;rw [if_neg e,List.eraseIdx_cons_succ,ih h2,List.filter_cons]
   simp [e']
def OX (l:Lk) (L:List Lk):List Lk:=L.filter fun y=>!decide (y=l)
def J9 (x:St) (L:List Lk):List Lk:=OX ⟨1,x⟩ (OX ⟨0,x⟩ L)
theorem MH {l y:Lk} {L:List Lk}:y∈OX l L↔y∈L∧y≠l:=by unfold OX;rw [List.mem_filter];simp
theorem QK {x:St} {L:List Lk} {l:Lk}:l∈J9 x L↔l∈L∧l≠⟨0,x⟩∧l≠⟨1,x⟩:=by unfold J9;rw [MH,MH,and_assoc]
theorem Kg {l:Lk} {L:List Lk} (h:L.Nodup):(OX l L).Nodup:=List.Nodup.sublist List.filter_sublist h
theorem cutL_nd {x:St} {L:List Lk} (h:L.Nodup):(J9 x L).Nodup:=Kg (Kg h)
abbrev cutE (x:St) (E:List (St×Nat)):List (St×Nat):=E.filter fun p=>!decide (p.1=x)
theorem FR {x:St} {E:List (St×Nat)} {p:St×Nat}:p∈cutE x E↔p∈E∧p.1≠x:=by rw [List.mem_filter];simp
theorem LW.cut {E:List (St×Nat)} {lk lk':Nat ->List Lk} {w:Ws} (h:LW E lk w) (hw:B7 w) (x:St) (hk:∀p∈cutE x E,lk' p.2=J9 x (lk p.2)):LW (cutE x E) lk' (Eg w x):=by
 have hm:∀p∈cutE x E,p∈E∧p.1≠x:=fun p hp=>FR.1 hp;refine ⟨List.Nodup.sublist (List.Sublist.map _ List.filter_sublist) h.kd,fun y=>?_,fun p hp=>?_,fun p hp l=>?_⟩
 ·show y∈(cutE x E).map Prod.fst↔y∈w.R.filter _;rw [List.mem_map,List.mem_filter,←h.ks y,List.mem_map]
  constructor
  ·rintro ⟨p,hp,rfl⟩;exact ⟨⟨p,(hm p hp).1,rfl⟩,by simpa using (hm p hp).2⟩
  ·rintro ⟨⟨p,hp,rfl⟩,hy⟩;exact ⟨p,FR.2 ⟨hp,by simpa using hy⟩,rfl⟩
 ·rw [hk p hp];exact cutL_nd (h.ld p (hm p hp).1)
 ·rw [hk p hp,QK,h.ls p (hm p hp).1 l];show _↔_∈w.K.filter _;rw [List.mem_filter];refine and_congr_right fun hK=>?_;have ht:=(hw.lk _ hK).2.2.2;have h1:p.1≠x:=(hm p hp).2;simp only [Bool.and_eq_true,Bool.not_eq_true',decide_eq_false_iff_not]
  constructor
  ·rintro ⟨g1,g2⟩;refine ⟨h1,fun e=>?_⟩;rcases ht with ht | ht
   ·exact g1 (Lk.eq_iff.2 ⟨ht,e⟩)
   ·exact g2 (Lk.eq_iff.2 ⟨ht,e⟩)
  ·rintro ⟨_,g⟩;exact ⟨fun e=>g (by rw [e]),fun e=>g (by rw [e])⟩
theorem LR.del {N:MF} {b m:Nat} {E:List (St×Nat)} {lk:Nat ->List Lk} (h:LR N b m E lk) (x:St):LR (BD N m (.map none (CP (cutE x E)))) b m (cutE x E) lk:=by
 have h3:b≠m:=fun e=>by have:=h.cell;rw [e,h.top] at this;cases this
 have h6:∀p∈E,p.2≠m:=fun p hp e=>h.ne (by rw [←e];exact List.mem_map_of_mem hp);refine ⟨by rw [Do h3];exact h.cell,DX _ _ _,fun p hp=>?_,List.Nodup.sublist (List.Sublist.map _ List.filter_sublist) h.nd,fun hh=>h.ne ?_⟩
 ·have hp':=(FR.1 hp).1;rw [Do (h6 p hp')];exact h.sub p hp'
 ·obtain ⟨p,hp,e⟩:=List.mem_map.1 hh;rw [←e];exact List.mem_map_of_mem (FR.1 hp).1
structure LC (N:MF) (b m:Nat) (bs:Option (List Nat×Nat)) (E:List (St×Nat)) (lk:Nat ->List Lk):Prop where
 cell:N b=some (.cells 68 [mD m])
 top:N m=some (.map bs (CP E))
 sub:∀p∈E,N p.2=some (.map none (CF (lk p.2)))
theorem LC.set {M:MF} {b m:Nat} {bs:Option (List Nat×Nat)} {E:List (St×Nat)} {lk:Nat ->List Lk} (h:LC M b m bs E lk) (hne:m∉E.map Prod.snd) {x:St} {hd:Nat} (hm:(x,hd)∈E) (L:List Lk):LC (BD M hd (.map none (CF L))) b m bs E (Am lk hd L):=by
 have h1:b≠hd:=fun e=>by have:=h.sub _ hm;rw [←e,h.cell] at this;cases this
 have h2:m≠hd:=fun e=>hne (by rw [e];exact List.mem_map.2 ⟨_,hm,rfl⟩);refine ⟨by rw [Do h1];exact h.cell,by rw [Do h2];exact h.top,fun p hp=>?_⟩
 by_cases e:p.2=hd
 ·rw [e,DX,Dn]
 ·rw [Do e,EU e];exact h.sub p hp
theorem LR.lc {N:MF} {b m:Nat} {E:List (St×Nat)} {lk:Nat ->List Lk} (h:LR N b m E lk) (bs:Option (List Nat×Nat)):LC (BD N m (.map bs (CP E))) b m bs E lk:=by
 have h3:b≠m:=fun e=>by have:=h.cell;rw [e,h.top] at this;cases this
 have h6:∀p∈E,p.2≠m:=fun p hp e=>h.ne (by rw [←e];exact List.mem_map_of_mem hp);exact ⟨by rw [Do h3];exact h.cell,DX _ _ _,fun p hp=>by rw [Do (h6 p hp)];exact h.sub p hp⟩
theorem LC.lr {N:MF} {b m:Nat} {bs:Option (List Nat×Nat)} {E:List (St×Nat)} {lk:Nat ->List Lk} (h:LC N b m bs E lk) (hnd:(E.map Prod.snd).Nodup) (hne:m∉E.map Prod.snd):LR (BD N m (.map none (CP E))) b m E lk:=by
 have h3:b≠m:=fun e=>by have:=h.cell;rw [e,h.top] at this;cases this
 have h6:∀p∈E,p.2≠m:=fun p hp e=>hne (by rw [←e];exact List.mem_map_of_mem hp);exact ⟨by rw [Do h3];exact h.cell,DX _ _ _,fun p hp=>by rw [Do (h6 p hp)];exact h.sub p hp,hnd,hne⟩
def hdL (e:St×Option Nat):Nat:=e.2.getD 0
theorem eE_hd (E:List (St×Nat)):(eE E).map hdL=E.map Prod.snd:=by rw [List.map_map];rfl
theorem Qi {x:St} {dn:List Nat} {hd:Nat} {lk1 lk2:Nat ->List Lk} (hD:∀h∈dn,lk2 h=J9 x (lk1 h)):∀h∈dn++ [hd],Am lk2 hd (J9 x (lk1 hd)) h=J9 x (lk1 h):=fun h hh=>by
 by_cases e:h=hd
 ·rw [e,Dn]
 ·rw [EU e];exact hD h ((List.mem_append.1 hh).resolve_right fun e2=>e (List.mem_singleton.1 e2))
theorem Qh {dn:List Nat} {hd:Nat} {lk1 lk2:Nat ->List Lk} {L:List Lk} (hU:∀h,h∉dn ->lk2 h=lk1 h):∀h,h∉dn++ [hd] ->Am lk2 hd L h=lk1 h:=fun h hh=>by
 rw [EU fun e=>hh (by rw [e];simp)];exact hU h fun e=>hh (List.mem_append_left _ e)
theorem un_r {M N:MF} {i:Nat} {o:A2} (hd:∀i m m',M i=some m ->N i=some m' ->False) (h:N i=some o):munion M N i=some o:=by
 refine Ge ?_ h
 cases hm:M i with
 | none=>rfl
 | some m=>exact (hd i m o hm h).elim
theorem rem9 {w:Ws} {x:St} (h:x∉w.R):remW w x=(w,9):=by unfold remW;rw [if_pos h]
theorem rem0 {w:Ws} {x:St} (h:x∈w.R):remW w x=if acyW (Eg w x)=true then (Eg w x,0) else (w,26):=by unfold remW;rw [if_neg fun hh=>hh h]
theorem Pb {M:MF} {b:Nat} {w:Ws} (h:BU M b w) (hw:B7 w) (hK:w.K.length≤1000000) (x:St):AR Try.prog 26 [.d (pD b 0),.d (AU x)] [(40,[.multi M])] fun r H'=>∃M',r= .d (Bt (remW w x).2)∧H'=[(40,[.multi M'])]∧BU M' b (remW w x).1:=by
 have hrep:=h;obtain ⟨m,E,lk,hr,hl⟩:=h;refine DA Try.func26 Z Z Try.ntmps26 Z Z Z fun F hF=>(AF (AI (AD Z Z (AG (AF (AF (AI (AC Z Z ?_))))))))
 first | refine J (Er Z Z Z) ?_ | refine J (FF Z Z Z) ?_ | refine J (En Z Z Z) ?_ | refine J (Et Try.underlying23 Z Z Z) ?_ | refine J (Ew Try.underlying23 Z Z Z) ?_ | refine J (Ev Try.underlying23 Z Z) ?_ | refine J (FE Try.underlying23 Z Z) ?_ | refine J (Ez Try.underlying23 Z Z) ?_ | refine J (Eu Try.underlying23 Z Z Z) ?_ | refine J (Ey Try.underlying23 Z Z) ?_
 refine AG (D0 rfl (rfl) (Ak (AF (AF (AI (AC Z Z (AC Z Z (U (F5 (Iu hrep x) rfl [40] ⟨rfl,trivial⟩ Z Z Z Z Z Z Z Z Z) ?_))))))))
 first | refine J (EZ Z Z) ?_ | refine J (EY Z Z) ?_
 refine AG ?_
 first | refine BC rfl (fun h15=>?_) (fun h15=>?_) | refine Az rfl (fun h15=>?_) (fun h15=>?_)
 ·refine AF (AI (AD Z Z (AG (At ?_))));exact ⟨_,[40],_,Ar rfl,rfl,rfl,M,by rw [rem9 h15],rfl,by rw [rem9 h15];exact hrep⟩
 ·refine Ak (AF (AI (AC Z Z ?_)));refine HZ (IS (Ny hrep) rfl [40,41] ⟨rfl,rfl,trivial⟩ Z Z Z Z (fun r H' ⟨b1,M1,e1,e2,_⟩=>by subst e1 e2;exact ⟨rfl,rfl,rfl⟩) rfl) rfl ?_;rintro _ ⟨r,H',⟨b1,N0,e1,e2,hc⟩,rfl⟩;subst e1 e2;refine AD Z Z (AG (AF ?_));have hxR:x∈w.R:=Classical.not_not.1 h15;obtain ⟨m1,E1,lk1,hr1,hl1⟩:=hc;refine AI (AC Z Z ?_)
  first | refine J (FC Z Z) ?_ | refine J (FA Z Z) ?_ | refine J (FD Z Z) ?_ | refine J (FB Z Z) ?_
  first | refine J (A4 rfl A0 Z Z Z) ?_ | refine J (A6 rfl A0 Z Z Z) ?_ | refine J (A7 rfl A0 Z Z Z) ?_ | refine J (A5 rfl A0 Z Z Z) ?_ | refine J (A3 rfl A0 Z Z Z) ?_
  refine J (Fu (f:=41) Z Z hr1.cell rfl Bk rfl) (AC Z Z (U (G1 (f:=41) (eE E1) x none Z Z hr1.top rfl Bs EX rfl) (AG (AF (AF ?_)))));rw [eE_del hl1.kd];have hr2:=hr1.del x
  obtain ⟨N1,hN1⟩:∃N1,BD N0 m1 (.map none (CP (cutE x E1)))=N1:=⟨_,rfl⟩
  rw [hN1] at hr2⊢;refine Zcx 41 m1 rfl hr2.top (fun _ _=>rfl) fun B c hB hBn=>?_;have hc2:=hr2.lc (some (B,c))
  obtain ⟨N2,hN2⟩:∃N2,BD N1 m1 (.map (some (B,c)) (CP (cutE x E1)))=N2:=⟨_,rfl⟩
  rw [hN2] at hc2⊢;refine AI (AC Z Z ?_)
  first | refine J (FC Z Z) ?_ | refine J (FA Z Z) ?_ | refine J (FD Z Z) ?_ | refine J (FB Z Z) ?_
  first | refine J (A4 rfl A0 Z Z Z) ?_ | refine J (A6 rfl A0 Z Z Z) ?_ | refine J (A7 rfl A0 Z Z Z) ?_ | refine J (A5 rfl A0 Z Z Z) ?_ | refine J (A3 rfl A0 Z Z Z) ?_
  refine J (Fu (f:=41) Z Z hc2.cell rfl Bk rfl) (U (Zct 1 (f:=41) Z Z hc2.top rfl Bs Z Z Z Z) (AG (Bc (F4 (α:=List Nat×List Nat×(Nat ->List Lk)×MF) (fun q=>⟨52,[(0,.d (pD b 0)),(1,.d (AU x)),(5,(.d (pD b1 0))),(27,(.ptr 1 0 0))],[(1,[.iter 41 m1 c q.1]),(40,[.multi M]),(41,[.multi q.2.2.2])]⟩) (fun q=>LC q.2.2.2 b1 m1 (some (B,c)) (cutE x E1) q.2.2.1∧(q.2.1++(B4 (eE (cutE x E1)) B q.1).map hdL).Perm ((cutE x E1).map Prod.snd)∧(∀h∈q.2.1,q.2.2.1 h=J9 x (lk1 h))∧∀h,h∉q.2.1 ->q.2.2.1 h=lk1 h) (fun q=>(B4 (eE (cutE x E1)) B q.1).length) (([],[],lk1,N2)) (⟨hc2,by show ([]++(B4 (eE (cutE x E1)) B []).map hdL).Perm _;rw [Zcw (by simpa [Aa] using hB),eE_hd];exact List.Perm.refl _,fun h hh=>(by cases hh),fun _ _=>rfl⟩) (BK hF [1,40,41] Z Z ⟨rfl,rfl,rfl,rfl,trivial⟩) ?_))));rintro ⟨seen,dn,lk2,N⟩ ⟨hC,hP,hD,hU⟩;dsimp only at hC hP hD hU⊢;refine AF (AI (DC (eE (cutE x E1)) Z Z Z (hC.top) rfl (fun hl28=>?_) (fun j28 b28 k28 v28 hm28 hb28 hB28 hp28=>⟨_,rfl,?_⟩)))
  ·rw [hl28] at hP;refine CX 41 m1 rfl hC.top rfl ?_
   first | refine J (B5 Z Z Z) ?_ | refine J (B6 Z Z Z) ?_
   refine AG (AF (D0 Z Z (ET (AF (AF ?_)))));refine a_only [40,41] hF Z Z ?_;have hr3:=hC.lr hr2.nd hr2.ne;have hP':dn.Perm ((cutE x E1).map Prod.snd):=by simpa using hP
   have hrep3:BU _ b1 (Eg w x):=⟨m1,_,lk2,hr3,hl1.cut hw x fun p hp=>hD p.2 (hP'.mem_iff.2 (List.mem_map_of_mem hp))⟩
   obtain ⟨N3,hN3⟩:∃N3,BD N m1 (.map none (CP (cutE x E1)))=N3:=⟨_,rfl⟩
   rw [hN3] at hr3 hrep3⊢;have hK3:(Eg w x).K.length≤1000000:=Nat.le_trans (List.length_filter_le _ _) hK;have ho:=(Ga hrep3 (hw.cut x) hK3).by [(40,41)] rfl;refine AI (AC Z Z (U (F5 ho rfl [41] ⟨rfl,trivial⟩ Z Z Z Z Z Z Z Z Z) (AC Z Z ?_)))
   first | refine J (B5 Z Z Z) ?_ | refine J (B6 Z Z Z) ?_
   first | refine J (B5 Z Z Z) ?_ | refine J (B6 Z Z Z) ?_
   refine AD Z Z (AD Z Z (AG (AF (AI (AC Z Z ?_)))))
   first | refine J (EZ Z Z) ?_ | refine J (EY Z Z) ?_
   refine AG ?_
   first | refine BC rfl (fun h44=>?_) (fun h44=>?_) | refine Az rfl (fun h44=>?_) (fun h44=>?_)
   ·refine AF (AI (AD Z Z (AG (At ?_))));have hac:acyW (Eg w x)=false:=by simpa using h44
    have h26:remW w x=(w,26):=by rw [rem0 hxR,hac];rfl
    exact ⟨_,[40],_,Ar rfl,rfl,rfl,M,by rw [h26],rfl,by rw [h26];exact hrep⟩
   ·refine Ak (AF (AI (AC Z Z (AC Z Z ?_))))
    first | refine J (FC Z Z) ?_ | refine J (FA Z Z) ?_ | refine J (FD Z Z) ?_ | refine J (FB Z Z) ?_
    first | refine J (A4 rfl A0 Z Z Z) ?_ | refine J (A6 rfl A0 Z Z Z) ?_ | refine J (A7 rfl A0 Z Z Z) ?_ | refine J (A5 rfl A0 Z Z Z) ?_ | refine J (A3 rfl A0 Z Z Z) ?_
    refine J (Fu (f:=41) Z Z hr3.cell rfl Bk rfl) ?_
    first | refine J (FC Z Z) ?_ | refine J (FA Z Z) ?_ | refine J (FD Z Z) ?_ | refine J (FB Z Z) ?_
    first | refine J (A4 rfl A0 Z Z Z) ?_ | refine J (A6 rfl A0 Z Z Z) ?_ | refine J (A7 rfl A0 Z Z Z) ?_ | refine J (A5 rfl A0 Z Z Z) ?_ | refine J (A3 rfl A0 Z Z Z) ?_
    refine U (ON (f:=40) Z Z Z Z (hr.cell) (by exact Nat.zero_lt_one) rfl sz66) (AG (AF (a_merge 41 40 Z Z Z Z Z Z Z Z Z fun hdis=>(AI (AD Z Z (AG (At ?_)))))));have hac:acyW (Eg w x)=true:=by simpa using h44
    have h00:remW w x=(Eg w x,0):=by rw [rem0 hxR,if_pos hac]
    exact ⟨_,[40],_,Ar rfl,rfl,rfl,_,by rw [h00],rfl,by rw [h00];exact ⟨m1,_,lk2,⟨Gf (DX _ _ _),un_r hdis hr3.top,fun p hp=>un_r hdis (hr3.sub p hp),hr3.nd,hr3.ne⟩,hl1.cut hw x fun p hp=>hD p.2 (hP'.mem_iff.2 (List.mem_map_of_mem hp))⟩⟩
  ·first | refine J (B5 Z Z Z) ?_ | refine J (B6 Z Z Z) ?_
   refine AG (AF (JM Z Z (Ak (Bc (AF ?_)))));obtain ⟨hd,hpe,hve⟩:=fSq hm28;subst hve
   have hdn:hd∉dn:=fun hh=>by
    have h1:=hP.nodup_iff.2 hr2.nd;exact (List.nodup_append.1 h1).2.2 _ hh _ ((hp28.map hdL).mem_iff.2 (by simp [hdL])) rfl
   have hlk:=hU hd hdn;have hsub:=hC.sub _ hpe;have hE1:(k28,hd)∈E1:=(FR.1 hpe).1;have hnd:=hl1.ld _ hE1;rw [show lk2 (k28,hd).2=lk1 hd from hlk] at hsub;refine AI (J (Zcv (eE (cutE x E1)) j28 b28 Z Z Z (hC.top) hm28 hb28 rfl) ?_)
   first | refine J (B5 Z Z Z) ?_ | refine J (B6 Z Z Z) ?_
   refine AD Z Z (AG (AF (AI (AC Z Z (AC Z Z (J (Mj LQ Pf Z Z Z) (U (G1 (f:=41) (Cg (lk1 hd)) ⟨0,x⟩ true Z Z hsub rfl FQ Hs rfl) (AG ?_))))))));rw [IH hnd];refine AI (AC Z Z (AC Z Z (J (Mj LQ Pf Z Z Z) (U (G1 (f:=41) (Cg (OX ⟨0,x⟩ (lk1 hd))) ⟨1,x⟩ true Z Z (by exact DX _ _ _) rfl FQ Hs rfl) ?_))));rw [IH (Kg hnd)];refine AG ?_;exact ⟨(seen++ [b28],dn++ [hd],Am lk2 hd (J9 x (lk1 hd)),_),⟨by have:=hC.set hr2.ne hpe (J9 x (lk1 hd));rw [←Ml] at this;exact this,DL hP (y:=[hd]) (by simpa [hdL] using hp28.map hdL),by exact Qi hD,by exact Qh hU⟩,by show (B4 (eE (cutE x E1)) B (seen++ [b28])).length<(B4 (eE (cutE x E1)) B seen).length;rw [hp28.length_eq];exact Nat.lt_succ_self _,BK hF [1,40,41] rfl (rfl) ⟨rfl,rfl,rfl,rfl,trivial⟩⟩
abbrev Np (l:Lw):D:= .agg [AU l.f,Bt l.t,AU l.r]
abbrev QM (l:List Lw):D:= .sl none (l.map Np)
abbrev LM (w:Ws):D:= .agg [stsD w.R,QM w.K]
def lwC (l:Lw):List Value:=[Ka l.f,.int .i64 l.t,Ka l.r]
abbrev lwT:List TypeDesc:=[.string,.int .i64,.string]
theorem Lw.eq_iff {a b:Lw}:a=b↔a.f=b.f∧a.t=b.t∧a.r=b.r:=by cases a;cases b;simp
theorem QN (a b:Lw):Ay (lwC a) (lwC b)=decide (a=b):=by
 simp only [lwC,Ay,JC,JB,Lw.eq_iff,Bool.and_true,Bool.decide_and,Bool.and_assoc]
theorem Gi (a:Lw):Ao lwT (lwC a):=DQ trivial (DQ rfl (DQ trivial Jv))
theorem Bn (l:List St) (x:St) (hl:l.length≤2000000):Ba Try.prog 40 [.d (stsD l),.d (AU x)] (An (decide (x∈l))):=by
 refine DA Try.func40 Z Z Try.ntmps40 Z Z Z fun F hF=>(AF (AI ?_));refine AD Z Z (AG (AF (AF (AI (AD Z Z (AG (Bc (N8 (α:=Nat) (fun k=>⟨18,[(0,.d (stsD l)),(1,.d (AU x)),(5,(.d (natD k)))],[]⟩) (fun k=>k≤l.length∧x∉l.take k) (fun k=>l.length - k) (0) (⟨Nat.zero_le _,by simp⟩) (Fh ⟨rfl,rfl,rfl,trivial⟩) ?_))))))));rintro k ⟨hk,hx⟩;refine AF (AF (AI (AC Z Z (AC Z Z (J (CJ rfl (List.length_map ..) Try.underlying32 rfl) ?_)))))
 first | refine J (Es Z Z Z) ?_ | refine J (Ex Z Z Z) ?_
 refine AG ?_
 first | refine BC rfl (fun h9=>?_) (fun h9=>?_) | refine Az rfl (fun h9=>?_) (fun h9=>?_)
 ·refine Ak (AF (Bc (AF ?_)));have hkl:k<l.length:=Hl h9;refine AI (AC Z Z (AC Z Z ?_))
  first | refine J (BN (k) Z Z (rfl) (D3 hkl) Try.underlying32 rfl EW rfl) ?_ | refine J (BO (k) Z Z (rfl) (D3 hkl) rfl Try.underlying32 EW rfl) ?_
  first | refine J (AY Z Z AZ rfl) ?_ | refine J (AW Z Z Z AZ rfl) ?_ | refine J (AX Z Z (rfl) rfl AZ rfl) ?_
  refine AC Z Z ?_
  first | refine J (Er Z Z Z) ?_ | refine J (FF Z Z Z) ?_ | refine J (En Z Z Z) ?_ | refine J (Et Try.underlying9 Z Z Z) ?_ | refine J (Ew Try.underlying9 Z Z Z) ?_ | refine J (Ev Try.underlying9 Z Z) ?_ | refine J (FE Try.underlying9 Z Z) ?_ | refine J (Ez Try.underlying9 Z Z) ?_ | refine J (Eu Try.underlying9 Z Z Z) ?_ | refine J (Ey Try.underlying9 Z Z) ?_
  refine AG ?_
  first | refine BC rfl (fun h17=>?_) (fun h17=>?_) | refine Az rfl (fun h17=>?_) (fun h17=>?_)
  ·refine AF (AI (AD Z Z (AG (At ?_))));exact ⟨_,[],[],Ar rfl,rfl,rfl,by rw [decide_eq_true (by rw [←h17,List.getD_eq_getElem?_getD,List.getElem?_eq_getElem hkl];exact List.getElem_mem hkl)],rfl⟩
  ·refine Ak (AI (AC Z Z (J (Cz Z Z (IntWalk.i64_in _ (by omega)) rfl) (AD Z Z (AG ?_)))));exact ⟨k+1,⟨hkl,fun hm=>by rw [List.take_succ_eq_append_getElem hkl] at hm;exact (List.mem_append.1 hm).elim hx fun e=>h17 (by rw [List.mem_singleton.1 e,List.getD_eq_getElem?_getD,List.getElem?_eq_getElem hkl];rfl)⟩,by omega,⟨rfl,rfl,fun _ _=>Has.get (l:=[(0,_),(1,_),(5,_)]) ⟨rfl,rfl,rfl,trivial⟩⟩⟩
 ·refine ET (AF (AI (AD Z Z (AG (At ?_)))));exact ⟨_,[],[],Ar rfl,rfl,rfl,by rw [decide_eq_false (by rw [←List.take_of_length_le (i:=k) (l:=l) (by have:=h9;omega)];exact hx)],rfl⟩
theorem DG {l:List Lw} {k:Nat} (h:k<l.length):(l.map Np)[k]?=some (Np l[k]):=by
 rw [List.getElem?_map,List.getElem?_eq_getElem h];rfl
theorem NT (w:Ws) (l:Lw) (hl:w.K.length≤2000000):Ba Try.prog 47 [.d (LM w),.d (Np l)] (An (decide (l∈w.K))):=by
 refine DA Try.func47 Z Z Try.ntmps47 Z Z Z fun F hF=>(AF (AI (U (IT 20 Z Z Z Z Z Z Z) (U (IT 21 Z Z Z Z Z Z Z) ?_))));refine AD Z Z (AG (AF (AF (AI (AD Z Z (AG (Bc (F4 (α:=Nat) (fun k=>⟨20,[(2,(.ptr 20 0 0)),(3,(.ptr 21 0 0)),(5,(.d (natD k)))],[(20,[.blk 35 [.d (stsD w.R),.d (QM w.K)]]),(21,[.blk 71 [.d (AU l.f),.d (Bt l.t),.d (AU l.r)]])]⟩) (fun k=>k≤w.K.length∧l∉w.K.take k) (fun k=>w.K.length - k) (0) (⟨Nat.zero_le _,by simp⟩) (BK hF [20,21] Z Z ⟨rfl,rfl,rfl,trivial⟩) ?_))))))));rintro k ⟨hk,hx⟩;refine AF (AF (AI (AC Z Z ?_)))
 first | refine J (A4 rfl Ah Z Z Z) ?_ | refine J (A6 rfl Ah Z Z Z) ?_ | refine J (A7 rfl Ah Z Z Z) ?_ | refine J (A5 rfl Ah Z Z Z) ?_ | refine J (A3 rfl Ah Z Z Z) ?_
 first | refine J (AY Z Z Ax rfl) ?_ | refine J (AW Z Z Z Ax rfl) ?_ | refine J (AX Z Z (rfl) rfl Ax rfl) ?_
 refine J (CJ rfl (List.length_map ..) Try.underlying33 rfl) ?_
 first | refine J (Es Z Z Z) ?_ | refine J (Ex Z Z Z) ?_
 refine AG ?_
 first | refine BC rfl (fun h10=>?_) (fun h10=>?_) | refine Az rfl (fun h10=>?_) (fun h10=>?_)
 ·refine Ak (AF (Bc (AF ?_)));have hkl:k<w.K.length:=Hl h10;refine FH [[],[0],[],[0,1,2],[0,1,2,3],[],[0,1,2,3,4,5]] mixed rfl (Dk ?_)
  first | refine AE [2] [] Z Z (fun _=>AB (A4 rfl Ah Z Z Z)) ?_ | refine AH [2] Z Z (fun _=>AB (A4 rfl Ah Z Z Z)) ?_ | refine AE [2] [] Z Z (fun _=>AB (A6 rfl Ah Z Z Z)) ?_ | refine AH [2] Z Z (fun _=>AB (A6 rfl Ah Z Z Z)) ?_ | refine AE [2] [] Z Z (fun _=>AB (A7 rfl Ah Z Z Z)) ?_ | refine AH [2] Z Z (fun _=>AB (A7 rfl Ah Z Z Z)) ?_ | refine AE [2] [] Z Z (fun _=>AB (A5 rfl Ah Z Z Z)) ?_ | refine AH [2] Z Z (fun _=>AB (A5 rfl Ah Z Z Z)) ?_ | refine AE [2] [] Z Z (fun _=>AB (A3 rfl Ah Z Z Z)) ?_ | refine AH [2] Z Z (fun _=>AB (A3 rfl Ah Z Z Z)) ?_
  first | refine AE [13] [20] Z Z (fun _=>AB (AY Z Z Ax rfl)) ?_ | refine AE [13] [20] Z Z (fun _=>AB (AW Z Z Z Ax rfl)) ?_ | refine AE [13] [20] Z Z (fun _=>AB (AX Z Z (rfl) rfl Ax rfl)) ?_
  first | refine AE [5] [] Z Z (fun _=>AB (Ac Z Z)) ?_ | refine AH [5] Z Z (fun _=>AB (Ac Z Z)) ?_
  first | refine AE [14,15] [] Z Z (fun _=>AB (BN (k) Z Z (rfl) (DG hkl) Try.underlying33 rfl C6 rfl)) ?_ | refine AH [14,15] Z Z (fun _=>AB (BN (k) Z Z (rfl) (DG hkl) Try.underlying33 rfl C6 rfl)) ?_ | refine AE [14,15] [] Z Z (fun _=>AB (BO (k) Z Z (rfl) (DG hkl) rfl Try.underlying33 C6 rfl)) ?_ | refine AH [14,15] Z Z (fun _=>AB (BO (k) Z Z (rfl) (DG hkl) rfl Try.underlying33 C6 rfl)) ?_
  first | refine AE [16] [] Z Z (fun _=>AB (BS Z Z Av rfl)) ?_ | refine AH [16] Z Z (fun _=>AB (BS Z Z Av rfl)) ?_ | refine AE [16] [] Z Z (fun _=>AB (BQ Z Z Av Z Z Z)) ?_ | refine AH [16] Z Z (fun _=>AB (BQ Z Z Av Z Z Z)) ?_ | refine AE [16] [] Z Z (fun _=>AB (BR Z Z (rfl) rfl Av rfl)) ?_ | refine AH [16] Z Z (fun _=>AB (BR Z Z (rfl) rfl Av rfl)) ?_
  first | refine AE [3] [21] Z Z (fun _=>AB (BS Z Z Av rfl)) ?_ | refine AE [3] [21] Z Z (fun _=>AB (BQ Z Z Av Z Z Z)) ?_ | refine AE [3] [21] Z Z (fun _=>AB (BR Z Z (rfl) rfl Av rfl)) ?_
  refine Dl 6 Z Z Z (B9 7 Z Z (J (PW (la:=lwC w.K[k]) (lb:=lwC l) (ds:=lwT) (by kernel_rfl) (by kernel_rfl) (by kernel_rfl) Z Z Z Z (Gi _) (Gi _) (QN _ _) rfl) (AG ⟨rfl,?_⟩)));refine Em ?_
  first | refine BC rfl (fun h19=>?_) (fun h19=>?_) | refine Az rfl (fun h19=>?_) (fun h19=>?_)
  ·refine AF (AI (AD Z Z (AG (At ?_))));exact ⟨_,[],[],Ar rfl,rfl,rfl,by rw [decide_eq_true (by rw [←h19];exact List.getElem_mem hkl)],rfl⟩
  ·refine Ak (AI (AC Z Z (J (Cz Z Z (IntWalk.i64_in _ (by omega)) rfl) (AD Z Z (AG ?_)))));exact ⟨k+1,⟨hkl,fun hm=>by rw [List.take_succ_eq_append_getElem hkl] at hm;exact (List.mem_append.1 hm).elim hx fun e=>h19 (List.mem_singleton.1 e).symm⟩,by omega,BK hF [20,21] rfl (rfl) ⟨rfl,rfl,rfl,trivial⟩⟩
 ·refine ET (AF (AI (AD Z Z (AG (At ?_)))));exact ⟨_,[],[],Ar rfl,rfl,rfl,by rw [decide_eq_false (by rw [←List.take_of_length_le (i:=k) (l:=w.K) (by have:=h10;omega)];exact hx)],rfl⟩
theorem Nq:∀(a b:List UInt8),Op.bytesLess a b=decide (a<b)
 | [],[]=>by simp [Op.bytesLess]
 | [],_::_=>by simp [Op.bytesLess]
 | _::_,[]=>by simp [Op.bytesLess]
 | a::x,b::y=>by
  simp only [Op.bytesLess,Nq x y];rw [Bool.eq_iff_iff]
  simp [List.cons_lt_cons_iff]
theorem QO (a b:St):AV.d (.raw (.bool (Op.bytesLess (⟨a.toArray⟩:ByteArray).toList (⟨b.toArray⟩:ByteArray).toList)))= .d (An (decide (a<b))):=by
 rw [Lib.toList_data,Lib.toList_data];show AV.d (.raw (.bool (Op.bytesLess a b)))=_;rw [Nq]
def Ht (ins:Bool) (l:List St) (x:St):List St:=if ins then l else Bi l x
theorem LE {l:List St} {k:Nat} (h:k<l.length):l.drop k=l.getD k []::l.drop (k+1):=by
 rw [List.drop_eq_getElem_cons h,List.getD_eq_getElem?_getD,List.getElem?_eq_getElem h];rfl
theorem Q5 {out l:List St} {k:Nat} {x:St} (h:k<l.length) (hx:x<l.getD k []) (e:out++Ht false (l.drop k) x=Bi l x):(out++ [x]++ [l.getD k []])++Ht true (l.drop (k+1)) x=Bi l x:=by
 rw [←e,LE h];show (out++ [x]++ [l.getD k []])++l.drop (k+1)=out++Bi (l.getD k []::l.drop (k+1)) x;rw [show Bi (l.getD k []::l.drop (k+1)) x=x::l.getD k []::l.drop (k+1) by rw [Bi,if_pos hx]]
 simp
theorem Om {out l:List St} {k:Nat} {x:St} (h:k<l.length) (hx:¬x<l.getD k []) (e:out++Ht false (l.drop k) x=Bi l x):(out++ [l.getD k []])++Ht false (l.drop (k+1)) x=Bi l x:=by
 rw [←e,LE h];simp only [Ht,Bi,if_neg hx]
 simp
theorem On {out l:List St} {k:Nat} {x:St} (h:k<l.length) (e:out++Ht true (l.drop k) x=Bi l x):(out++ [l.getD k []])++Ht true (l.drop (k+1)) x=Bi l x:=by
 rw [←e,LE h]
 simp [Ht]
theorem MT {out l:List St} {k:Nat} {x:St} {ins:Bool} (e:out++Ht ins (l.drop k) x=Bi l x):out.length≤l.length+1:=by
 have:=congrArg List.length e;rw [List.length_append,DT] at this;omega
theorem EO (l:List St) (x:St) (hl:l.length≤100000):Ba Try.prog 54 [.d (stsD l),.d (AU x)] (stsD (Bi l x)):=by
 refine DA Try.func54 Z Z Try.ntmps54 Z Z Z fun F hF=>(AF (AI ?_));refine AD Z Z (AG (AF (AI (AD Z Z (AG (AF (AI (AD Z Z ?_))))))));refine AG (AF (AF (AI (AD Z Z (AG (Bc (Fn 5 1 Bg Z Z Z Z (F4 (α:=Nat×List St×Bool) (fun q=>⟨42,[(0,.d (stsD l)),(1,.d (AU x)),(5,(.own 1 0 q.2.1.length)),(6,(.d (An q.2.2))),(7,(.d (natD q.1)))],[(1,[.rowD 9 1 (q.2.1.map AU)])]⟩) (fun q=>q.1≤l.length∧q.2.1++Ht q.2.2 (l.drop q.1) x=Bi l x) (fun q=>l.length - q.1) ((0,[],false)) (⟨Nat.zero_le _,by simp [Ht]⟩) (BK hF [1] Z Z ⟨rfl,rfl,rfl,rfl,rfl,trivial⟩) ?_))))))));rintro ⟨k,out,ins⟩ ⟨hk,he⟩;dsimp only at hk he⊢;refine AF (AF (AI (AC Z Z (AC Z Z (J (CJ rfl (List.length_map ..) Try.underlying32 rfl) ?_)))))
 first | refine J (Es Z Z Z) ?_ | refine J (Ex Z Z Z) ?_
 refine AG ?_
 first | refine BC rfl (fun h11=>?_) (fun h11=>?_) | refine Az rfl (fun h11=>?_) (fun h11=>?_)
 ·refine Ak (AF (Bc (AF (AF ?_))));have hkl:k<l.length:=Hl h11;have hol:=MT he;refine AI (AC Z Z ?_)
  first | refine J (EZ Z Z) ?_ | refine J (EY Z Z) ?_
  refine AC Z Z ?_
  first | refine JU 16 rfl (fun h16=>?_) (fun h16=>?_) | refine IR 16 rfl (fun h16=>?_) (fun h16=>?_)
  ·refine A1 Z Z Z (AC Z Z (A1 Z Z Z (AC Z Z (A1 Z Z Z (AC Z Z (A1 Z Z Z ?_))))))
   first | refine J (BN (k) Z Z (rfl) (D3 hkl) Try.underlying32 rfl EW rfl) ?_ | refine J (BO (k) Z Z (rfl) (D3 hkl) rfl Try.underlying32 EW rfl) ?_
   refine A1 Z Z Z ?_
   first | refine J (AY Z Z AZ rfl) ?_ | refine J (AW Z Z Z AZ rfl) ?_ | refine J (AX Z Z (rfl) rfl AZ rfl) ?_
   refine A1 Z Z Z ?_
   first | refine J (Es Z Z Z) ?_ | refine J (Ex Z Z Z) ?_
   refine NJ 22 (.d (An (decide (x<l.getD k [])))) rfl (QO _ _) (J (Fp Z Z Z Z) (AG ?_))
   first | refine BC rfl (fun h23=>?_) (fun h23=>?_) | refine Az rfl (fun h23=>?_) (fun h23=>?_)
   ·refine AF (AI (AC Z Z (AC Z Z (U (Gx 21 Bg Z Z Z Z Z Z Z Z) ?_))))
    first | refine U (JZ (out) ([x]) Z Z Z Z Z Z Z Z Bg (by simp only [List.length_singleton];omega) Z Z Z Z) ?_ | refine U (K5 (out) ([x]) Z Z Z Z Z Z (fun _=>rfl) Bg (by simp only [List.length_singleton];omega) Z Z Z Z) ?_
    refine AD Z Z (AG (AI (AD Z Z (AG (AI (AC Z Z (AC Z Z (AC Z Z ?_))))))))
    first | refine J (BN (k) Z Z (rfl) (D3 hkl) Try.underlying32 rfl EW rfl) ?_ | refine J (BO (k) Z Z (rfl) (D3 hkl) rfl Try.underlying32 EW rfl) ?_
    first | refine J (AY Z Z AZ rfl) ?_ | refine J (AW Z Z Z AZ rfl) ?_ | refine J (AX Z Z (rfl) rfl AZ rfl) ?_
    refine U (Gx 22 Bg Z Z Z Z Z Z Z Z) ?_
    first | refine U (JZ (out++ [x]) ([l.getD k []]) Z Z Z Z Z Z Z Z Bg (by simp only [List.length_append,List.length_singleton];omega) Z Z Z Z) ?_ | refine U (K5 (out++ [x]) ([l.getD k []]) Z Z Z Z Z Z (fun _=>rfl) Bg (by simp only [List.length_append,List.length_singleton];omega) Z Z Z Z) ?_
    refine AD Z Z (AG (AI (AC Z Z (J (Cz Z Z (IntWalk.i64_in _ (by omega)) rfl) (AD Z Z (AG ?_))))));exact ⟨(k+1,_,true),⟨hkl,Q5 hkl h23 (by have:ins=false:=(by simpa using h16);rw [this] at he;exact he)⟩,by show l.length - (k+1)<l.length - k;omega,BK hF [1] rfl (rfl) ⟨rfl,rfl,rfl,rfl,rfl,trivial⟩⟩
   ·refine Ak (AI (AC Z Z (AC Z Z (AC Z Z ?_))))
    first | refine J (BN (k) Z Z (rfl) (D3 hkl) Try.underlying32 rfl EW rfl) ?_ | refine J (BO (k) Z Z (rfl) (D3 hkl) rfl Try.underlying32 EW rfl) ?_
    first | refine J (AY Z Z AZ rfl) ?_ | refine J (AW Z Z Z AZ rfl) ?_ | refine J (AX Z Z (rfl) rfl AZ rfl) ?_
    refine U (Gx 22 Bg Z Z Z Z Z Z Z Z) ?_
    first | refine U (JZ (out) ([l.getD k []]) Z Z Z Z Z Z Z Z Bg (by simp only [List.length_singleton];omega) Z Z Z Z) ?_ | refine U (K5 (out) ([l.getD k []]) Z Z Z Z Z Z (fun _=>rfl) Bg (by simp only [List.length_singleton];omega) Z Z Z Z) ?_
    refine AD Z Z (AG (AI (AC Z Z (J (Cz Z Z (IntWalk.i64_in _ (by omega)) rfl) (AD Z Z (AG ?_))))));exact ⟨(k+1,_,ins),⟨hkl,by have:ins=false:=(by simpa using h16);rw [this] at he⊢;exact Om hkl h23 he⟩,by show l.length - (k+1)<l.length - k;omega,BK hF [1] rfl (rfl) ⟨rfl,rfl,rfl,rfl,rfl,trivial⟩⟩
  ·refine BA Z Z Z Z (BA Z Z Z Z (BA Z Z Z Z (BA Z Z Z Z (BA Z Z Z Z ?_))));refine BA Z Z Z Z (J (Fo Z Z Z Z) (AG (D0 Z Z (Ak (AI (AC Z Z (AC Z Z (AC Z Z ?_))))))))
   first | refine J (BN (k) Z Z (rfl) (D3 hkl) Try.underlying32 rfl EW rfl) ?_ | refine J (BO (k) Z Z (rfl) (D3 hkl) rfl Try.underlying32 EW rfl) ?_
   first | refine J (AY Z Z AZ rfl) ?_ | refine J (AW Z Z Z AZ rfl) ?_ | refine J (AX Z Z (rfl) rfl AZ rfl) ?_
   refine U (Gx 22 Bg Z Z Z Z Z Z Z Z) ?_
   first | refine U (JZ (out) ([l.getD k []]) Z Z Z Z Z Z Z Z Bg (by simp only [List.length_singleton];omega) Z Z Z Z) ?_ | refine U (K5 (out) ([l.getD k []]) Z Z Z Z Z Z (fun _=>rfl) Bg (by simp only [List.length_singleton];omega) Z Z Z Z) ?_
   refine AD Z Z (AG (AI (AC Z Z (J (Cz Z Z (IntWalk.i64_in _ (by omega)) rfl) (AD Z Z (AG ?_))))));exact ⟨(k+1,_,ins),⟨hkl,by have:ins=true:=(by simpa using h16);rw [this] at he⊢;exact On hkl he⟩,by show l.length - (k+1)<l.length - k;omega,BK hF [1] rfl (rfl) ⟨rfl,rfl,rfl,rfl,rfl,trivial⟩⟩
 ·refine ET (AF (AF ?_));have hke:k=l.length:=by have:=h11;omega
  have hol:=MT he;rw [hke,List.drop_length] at he;have hin1:ins=false ->out++ [x]=Bi l x:=fun e=>by rw [e] at he;exact he
  have hin0:ins=true ->out=Bi l x:=fun e=>by rw [e] at he;simpa [Ht] using he
  refine AI (AC Z Z ?_)
  first | refine J (EZ Z Z) ?_ | refine J (EY Z Z) ?_
  refine AG ?_
  first | refine BC rfl (fun h36=>?_) (fun h36=>?_) | refine Az rfl (fun h36=>?_) (fun h36=>?_)
  ·refine AI (AC Z Z (AC Z Z (U (Gx 23 Bg Z Z Z Z Z Z Z Z) ?_)))
   first | refine U (JZ (out) ([x]) Z Z Z Z Z Z Z Z Bg (by simp only [List.length_singleton];omega) Z Z Z Z) ?_ | refine U (K5 (out) ([x]) Z Z Z Z Z Z (fun _=>rfl) Bg (by simp only [List.length_singleton];omega) Z Z Z Z) ?_
   refine AD Z Z (AG (AF ?_))
   first | refine Zcn (emb:=AU) 5 1 (out++ [x]) Z Z Z Z Z Z Z ?_ | refine Zcn (emb:=AU) 5 1 out Z Z Z Z Z Z Z ?_
   refine AI (AC Z Z (AD Z Z (AG (At ?_))));exact ⟨_,[],[],Ar rfl,rfl,rfl,by first | rw [hin1 (by simpa using h36)] | rw [hin0 (by simpa using h36)],rfl⟩
  ·refine Ak (AF ?_)
   first | refine Zcn (emb:=AU) 5 1 (out++ [x]) Z Z Z Z Z Z Z ?_ | refine Zcn (emb:=AU) 5 1 out Z Z Z Z Z Z Z ?_
   refine AI (AC Z Z (AD Z Z (AG (At ?_))));exact ⟨_,[],[],Ar rfl,rfl,rfl,by first | rw [hin1 (by simpa using h36)] | rw [hin0 (by simpa using h36)],rfl⟩
def PF (K:List Lw) (g g2:List St):Prop:=∃l∈K,l.t=1∧l.f∈g∧l.r∈g2
noncomputable instance (K:List Lw) (g g2:List St):Decidable (PF K g g2):=Classical.propDecidable _
abbrev JH (f:Nat) (w:Ws):Nat×List AJ:=(f,[.blk 35 [.d (stsD w.R),.d (QM w.K)]])
theorem KO (w:Ws) (g g2:List St) (hl:w.K.length≤2000000) (hg:g.length≤2000000) (hg2:g2.length≤2000000):Ba Try.prog 56 [.d (LM w),.d (stsD g),.d (stsD g2)] (An (decide (PF w.K g g2))):=by
 refine DA Try.func56 Z Z Try.ntmps56 Z Z Z fun F hF=>(AF (AI (U (IT 20 Z Z Z Z Z Z Z) ?_)));refine AD Z Z (AG (AF (AF (AI (AD Z Z (AG (Bc (F4 (α:=Nat) (fun k=>⟨36,[(1,.d (stsD g)),(2,.d (stsD g2)),(3,(.ptr 20 0 0)),(7,(.d (natD k)))],[JH 20 w]⟩) (fun k=>k≤w.K.length∧¬PF (w.K.take k) g g2) (fun k=>w.K.length - k) (0) (⟨Nat.zero_le _,fun ⟨l,hl,_⟩=>by simp at hl⟩) (BK hF [20] Z Z ⟨rfl,rfl,rfl,rfl,trivial⟩) ?_))))))));rintro k ⟨hk,hx⟩;refine AF (AF (AI (AC Z Z ?_)))
 first | refine J (A4 rfl Ah Z Z Z) ?_ | refine J (A6 rfl Ah Z Z Z) ?_ | refine J (A7 rfl Ah Z Z Z) ?_ | refine J (A5 rfl Ah Z Z Z) ?_ | refine J (A3 rfl Ah Z Z Z) ?_
 first | refine J (AY Z Z Ax rfl) ?_ | refine J (AW Z Z Z Ax rfl) ?_ | refine J (AX Z Z (rfl) rfl Ax rfl) ?_
 refine J (CJ rfl (List.length_map ..) Try.underlying33 rfl) ?_
 first | refine J (Es Z Z Z) ?_ | refine J (Ex Z Z Z) ?_
 refine AG ?_
 first | refine BC rfl (fun h13=>?_) (fun h13=>?_) | refine Az rfl (fun h13=>?_) (fun h13=>?_)
 ·refine Ak (AF (Bc (AF ?_)));have hkl:k<w.K.length:=Hl h13;refine AI ?_
  first | refine J (A4 rfl Ah Z Z Z) ?_ | refine J (A6 rfl Ah Z Z Z) ?_ | refine J (A7 rfl Ah Z Z Z) ?_ | refine J (A5 rfl Ah Z Z Z) ?_ | refine J (A3 rfl Ah Z Z Z) ?_
  first | refine J (AY Z Z Ax rfl) ?_ | refine J (AW Z Z Z Ax rfl) ?_ | refine J (AX Z Z (rfl) rfl Ax rfl) ?_
  refine AC Z Z ?_
  first | refine J (BN (k) Z Z (rfl) (DG hkl) Try.underlying33 rfl C6 rfl) ?_ | refine J (BO (k) Z Z (rfl) (DG hkl) rfl Try.underlying33 C6 rfl) ?_
  first | refine J (BS Z Z Av rfl) ?_ | refine J (BQ Z Z Av Z Z Z) ?_ | refine J (BR Z Z (rfl) rfl Av rfl) ?_
  refine U (Hm 25 zl71 Z Z Z Z) (U (Bq Z Z Z Z Z Z Z C6) (AG (AF (AI ?_))))
  first | refine J (A4 rfl K4 Z Z Z) ?_ | refine J (A6 rfl K4 Z Z Z) ?_ | refine J (A7 rfl K4 Z Z Z) ?_ | refine J (A5 rfl K4 Z Z Z) ?_ | refine J (A3 rfl K4 Z Z Z) ?_
  first | refine J (AY Z Z Be rfl) ?_ | refine J (AW Z Z Z Be rfl) ?_ | refine J (AX Z Z (rfl) rfl Be rfl) ?_
  first | refine J (Er Z Z Z) ?_ | refine J (FF Z Z Z) ?_ | refine J (En Z Z Z) ?_ | refine J (Et Try.underlying3 Z Z Z) ?_ | refine J (Ew Try.underlying3 Z Z Z) ?_ | refine J (Ev Try.underlying3 Z Z) ?_ | refine J (FE Try.underlying3 Z Z) ?_ | refine J (Ez Try.underlying3 Z Z) ?_ | refine J (Eu Try.underlying3 Z Z Z) ?_ | refine J (Ey Try.underlying3 Z Z) ?_
  refine AC Z Z ?_
  first | refine JU 24 rfl (fun h24=>?_) (fun h24=>?_) | refine IR 24 rfl (fun h24=>?_) (fun h24=>?_)
  ·refine A1 Z Z Z (AC Z Z (A1 Z Z Z ?_))
   first | refine J (A4 rfl CC Z Z Z) ?_ | refine J (A6 rfl CC Z Z Z) ?_ | refine J (A7 rfl CC Z Z Z) ?_ | refine J (A5 rfl CC Z Z Z) ?_ | refine J (A3 rfl CC Z Z Z) ?_
   refine A1 Z Z Z ?_
   first | refine J (AY Z Z AZ rfl) ?_ | refine J (AW Z Z Z AZ rfl) ?_ | refine J (AX Z Z (rfl) rfl AZ rfl) ?_
   refine A1 Z Z Z (J (DZ (Bn g (w.K[k]).f hg) Z Z) (J (Fp Z Z Z Z) (AC Z Z ?_)))
   first | refine JU 30 rfl (fun h30=>?_) (fun h30=>?_) | refine IR 30 rfl (fun h30=>?_) (fun h30=>?_)
   ·refine A1 Z Z Z (AC Z Z (A1 Z Z Z ?_))
    first | refine J (A4 rfl Cc Z Z Z) ?_ | refine J (A6 rfl Cc Z Z Z) ?_ | refine J (A7 rfl Cc Z Z Z) ?_ | refine J (A5 rfl Cc Z Z Z) ?_ | refine J (A3 rfl Cc Z Z Z) ?_
    refine A1 Z Z Z ?_
    first | refine J (AY Z Z AZ rfl) ?_ | refine J (AW Z Z Z AZ rfl) ?_ | refine J (AX Z Z (rfl) rfl AZ rfl) ?_
    refine A1 Z Z Z (J (DZ (Bn g2 (w.K[k]).r hg2) Z Z) (J (Fp Z Z Z Z) (AG ?_)))
    first | refine BC rfl (fun h35=>?_) (fun h35=>?_) | refine Az rfl (fun h35=>?_) (fun h35=>?_)
    ·refine AF (AI (AD Z Z (AG (At ?_))));exact ⟨_,[],[],Ar rfl,rfl,rfl,by rw [decide_eq_true (show PF w.K g g2 from ⟨_,List.getElem_mem hkl,h24,h30,h35⟩)],rfl⟩
    ·refine Ak (AI (AC Z Z (J (Cz Z Z (IntWalk.i64_in _ (by omega)) rfl) (AD Z Z (AG ?_)))));exact ⟨k+1,⟨hkl,fun ⟨l,hl,h1,h2,h3⟩=>by rw [List.take_succ_eq_append_getElem hkl] at hl;exact (List.mem_append.1 hl).elim (fun hh=>hx ⟨l,hh,h1,h2,h3⟩) fun e=>by (rw [List.mem_singleton.1 e] at h1 h2 h3;first | exact h35 h3 | exact h30 h2 | exact h24 h1)⟩,by omega,BK hF [20] rfl (rfl) ⟨rfl,rfl,rfl,rfl,trivial⟩⟩
   ·refine BA Z Z Z Z (BA Z Z Z Z (BA Z Z Z Z (BA Z Z Z Z ?_)));refine J (Fo Z Z Z Z) (AG (D0 Z Z (Ak (AI (AC Z Z (J (Cz Z Z (IntWalk.i64_in _ (by omega)) rfl) (AD Z Z (AG ?_))))))));exact ⟨k+1,⟨hkl,fun ⟨l,hl,h1,h2,h3⟩=>by rw [List.take_succ_eq_append_getElem hkl] at hl;exact (List.mem_append.1 hl).elim (fun hh=>hx ⟨l,hh,h1,h2,h3⟩) fun e=>by (rw [List.mem_singleton.1 e] at h1 h2 h3;first | exact h35 h3 | exact h30 h2 | exact h24 h1)⟩,by omega,BK hF [20] rfl (rfl) ⟨rfl,rfl,rfl,rfl,trivial⟩⟩
  ·refine BA Z Z Z Z ?_;refine BA Z Z Z Z (BA Z Z Z Z (BA Z Z Z Z (J (Fo Z Z Z Z) (AC Z Z (BA Z Z Z Z (BA Z Z Z Z (BA Z Z Z Z (BA Z Z Z Z ?_))))))));refine J (Fo Z Z Z Z) (AG (D0 Z Z (Ak (AI (AC Z Z (J (Cz Z Z (IntWalk.i64_in _ (by omega)) rfl) (AD Z Z (AG ?_))))))));exact ⟨k+1,⟨hkl,fun ⟨l,hl,h1,h2,h3⟩=>by rw [List.take_succ_eq_append_getElem hkl] at hl;exact (List.mem_append.1 hl).elim (fun hh=>hx ⟨l,hh,h1,h2,h3⟩) fun e=>by (rw [List.mem_singleton.1 e] at h1 h2 h3;first | exact h35 h3 | exact h30 h2 | exact h24 h1)⟩,by omega,BK hF [20] rfl (rfl) ⟨rfl,rfl,rfl,rfl,trivial⟩⟩
 ·refine ET (AF (AI (AD Z Z (AG (At ?_)))));exact ⟨_,[],[],Ar rfl,rfl,rfl,by rw [decide_eq_false (show ¬PF w.K g g2 by rw [←List.take_of_length_le (i:=k) (l:=w.K) (by have:=h13;omega)];exact hx)],rfl⟩
structure Jc (w:Ws) (a:St) (out:List St):Prop where
 srt:Gy out
 ha:a∈out
 con:∀y∈out,y∈w.R∧HA w a y
def cloL (out:List St) (l:Lw):Prop:=l.t=0 ->(l.f∈out↔l.r∈out)
structure Hy (w:Ws) (a:St) (out0:List St) (k:Nat) (out:List St) (grew:Bool):Prop where
 g:Jc w a out
 no:grew=false ->out=out0∧∀l∈w.K.take k,cloL out l
 yes:grew=true ->out0.length<out.length
theorem Jc.zero {w:Ws} {a:St} (h:a∈w.R):Jc w a [a]:=⟨by simp,by simp,fun y hy=>by rw [List.mem_singleton.1 hy];exact ⟨h,.refl⟩⟩
theorem Jc.len {w:Ws} {a:St} {out:List St} (h:Jc w a out):out.length≤w.R.length:=(EI h.srt).length_le_of_subset fun y hy=>(h.con y hy).1
theorem Hy.zero {w:Ws} {a:St} {out:List St} (h:Jc w a out):Hy w a out 0 out false:=⟨h,fun _=>⟨rfl,fun l hl=>by simp at hl⟩,fun e=>by cases e⟩
theorem Hy.le {w:Ws} {a:St} {out0 out:List St} {k:Nat} {grew:Bool} (h:Hy w a out0 k out grew):out0.length≤out.length:=by
 cases hg:grew with
 | false=>rw [(h.no hg).1];exact Nat.le_refl _
 | true=>exact Nat.le_of_lt (h.yes hg)
theorem Hy.ins {w:Ws} {a:St} {out0 out:List St} {k k2:Nat} {grew:Bool} (h:Hy w a out0 k out grew) {y z:St} (hy:y∉out) (hz:z∈out) (hc:Jb w z y) (hR:y∈w.R):Hy w a out0 k2 (Bi out y) true:=by
 refine ⟨⟨L5 h.g.srt hy,LO.2 (.inr h.g.ha),fun x hx=>?_⟩,(fun e=>by cases e),fun _=>by rw [DT];exact Nat.lt_succ_of_le h.le⟩;rcases LO.1 hx with rfl | hx
 ·exact ⟨hR,(h.g.con z hz).2.tail hc⟩
 ·exact h.g.con x hx
theorem Hy.pass {w:Ws} {a:St} {out0 out:List St} {k:Nat} {grew:Bool} (h:Hy w a out0 k out grew) (hk:k<w.K.length) (hc:cloL out w.K[k]):Hy w a out0 (k+1) out grew:=by
 refine ⟨h.g,fun e=>⟨(h.no e).1,fun l hl=>?_⟩,h.yes⟩;rw [List.take_succ_eq_append_getElem hk] at hl;rcases List.mem_append.1 hl with hl | hl
 ·exact (h.no e).2 l hl
 ·rw [List.mem_singleton.1 hl];exact hc
theorem Jc.fin {w:Ws} (hw:B7 w) {a:St} {out:List St} (h:Jc w a out) (hc:∀l∈w.K,cloL out l):out=cls w a:=by
 refine IB h.srt (Gq hw a) fun x=>?_;rw [Na];refine ⟨h.con x,fun ⟨_,hx⟩=>?_⟩;refine BT.closed (p:=fun y=>y∈out) (fun p q hp hq=>?_) h.ha hx;rcases hq with hq | hq
 ·exact (hc _ hq rfl).1 hp
 ·exact (hc _ hq rfl).2 hp
set_option maxHeartbeats 1000000 in
theorem Oi (w:Ws) (hw:B7 w) (a:St) (hl:w.K.length≤2000000):Ba Try.prog 72 [.d (LM w),.d (AU a)] (if a∈w.R then stsD (cls w a) else .sl (some true) []):=by
 have hfew:=hw.few;refine DA Try.func72 Z Z Try.ntmps72 Z Z Z fun F hF=>(AF (AI (U (IT 20 Z Z Z Z Z Z Z) (AD Z Z (AG (AF (AF (AI ?_))))))))
 first | refine J (A4 rfl Ag Z Z Z) ?_ | refine J (A6 rfl Ag Z Z Z) ?_ | refine J (A7 rfl Ag Z Z Z) ?_ | refine J (A5 rfl Ag Z Z Z) ?_ | refine J (A3 rfl Ag Z Z Z) ?_
 first | refine J (AY Z Z AT rfl) ?_ | refine J (AW Z Z Z AT rfl) ?_ | refine J (AX Z Z (rfl) rfl AT rfl) ?_
 refine AC Z Z (J (DZ (Bn w.R a (by omega)) Z Z) ?_)
 first | refine J (EZ Z Z) ?_ | refine J (EY Z Z) ?_
 refine AG ?_
 first | refine BC rfl (fun h13=>?_) (fun h13=>?_) | refine Az rfl (fun h13=>?_) (fun h13=>?_)
 ·refine AF (AI (AD Z Z (AG (At ?_))));exact ⟨_,[],[],Ar rfl,rfl,rfl,by rw [if_neg h13],rfl⟩
 ·refine Ak (AF ?_);have haR:a∈w.R:=Classical.not_not.1 h13;refine AI (AC Z Z (U (Gx 25 Bg Z Z Z Z Z Z Z Z) (Fd (emb:=AU) 15 25 [a] Z Z Z Z Z Z Z ?_)));refine AD Z Z (AG (AF (AF (AI (AD Z Z (AG (Bc (F4 (α:=List St×Bool) (fun q=>⟨63,[(2,(.ptr 20 0 0)),(5,(.d (stsD q.1))),(6,(.d (An q.2)))],[JH 20 w]⟩) (fun q=>Jc w a q.1∧(q.2=false ->∀l∈w.K,cloL q.1 l)) (fun q=>2*(w.R.length - q.1.length)+(if q.2 then 1 else 0)) (([a],true)) (⟨Jc.zero haR,fun e=>by cases e⟩) (BK hF [20] Z Z ⟨rfl,rfl,rfl,trivial⟩) ?_))))))));rintro ⟨out0,gr⟩ ⟨hG0,hC0⟩;dsimp only at hG0 hC0⊢;refine AF (AF (AI (AC Z Z (AG ?_))))
  first | refine BC rfl (fun h16=>?_) (fun h16=>?_) | refine Az rfl (fun h16=>?_) (fun h16=>?_)
  ·refine Ak (Bc (AF ?_));refine AI (AD Z Z (AG (AF (AI (AD Z Z (AG (Bc (F4 (α:=Nat×List St×Bool) (fun q=>⟨63,[(2,(.ptr 20 0 0)),(5,(.d (stsD q.2.1))),(6,(.d (An q.2.2))),(7,(.d (natD q.1)))],[JH 20 w]⟩) (fun q=>q.1≤w.K.length∧Hy w a out0 q.1 q.2.1 q.2.2) (fun q=>w.K.length - q.1) ((0,out0,false)) (⟨Nat.zero_le _,Hy.zero hG0⟩) (BK hF [20] Z Z ⟨rfl,rfl,rfl,rfl,trivial⟩) ?_))))))));rintro ⟨k,out,grew⟩ ⟨hk,hI⟩;dsimp only at hk hI⊢;refine AF (AF (AI (AC Z Z ?_)))
   first | refine J (A4 rfl Ah Z Z Z) ?_ | refine J (A6 rfl Ah Z Z Z) ?_ | refine J (A7 rfl Ah Z Z Z) ?_ | refine J (A5 rfl Ah Z Z Z) ?_ | refine J (A3 rfl Ah Z Z Z) ?_
   first | refine J (AY Z Z Ax rfl) ?_ | refine J (AW Z Z Z Ax rfl) ?_ | refine J (AX Z Z (rfl) rfl Ax rfl) ?_
   refine J (CJ rfl (List.length_map ..) Try.underlying33 rfl) ?_
   first | refine J (Es Z Z Z) ?_ | refine J (Ex Z Z Z) ?_
   refine AG ?_
   first | refine BC rfl (fun h21=>?_) (fun h21=>?_) | refine Az rfl (fun h21=>?_) (fun h21=>?_)
   ·refine Ak (AF (Bc (AF ?_)));have hkl:k<w.K.length:=Hl h21;have hol:=hI.g.len;refine AI ?_
    first | refine J (A4 rfl Ah Z Z Z) ?_ | refine J (A6 rfl Ah Z Z Z) ?_ | refine J (A7 rfl Ah Z Z Z) ?_ | refine J (A5 rfl Ah Z Z Z) ?_ | refine J (A3 rfl Ah Z Z Z) ?_
    first | refine J (AY Z Z Ax rfl) ?_ | refine J (AW Z Z Z Ax rfl) ?_ | refine J (AX Z Z (rfl) rfl Ax rfl) ?_
    refine AC Z Z ?_
    first | refine J (BN (k) Z Z (rfl) (DG hkl) Try.underlying33 rfl C6 rfl) ?_ | refine J (BO (k) Z Z (rfl) (DG hkl) rfl Try.underlying33 C6 rfl) ?_
    first | refine J (BS Z Z Av rfl) ?_ | refine J (BQ Z Z Av Z Z Z) ?_ | refine J (BR Z Z (rfl) rfl Av rfl) ?_
    refine U (Hm 26 zl71 Z Z Z Z) (U (Bq Z Z Z Z Z Z Z C6) (AG (AF (AF (AI ?_)))))
    first | refine J (A4 rfl K4 Z Z Z) ?_ | refine J (A6 rfl K4 Z Z Z) ?_ | refine J (A7 rfl K4 Z Z Z) ?_ | refine J (A5 rfl K4 Z Z Z) ?_ | refine J (A3 rfl K4 Z Z Z) ?_
    first | refine J (AY Z Z Be rfl) ?_ | refine J (AW Z Z Z Be rfl) ?_ | refine J (AX Z Z (rfl) rfl Be rfl) ?_
    first | refine J (Gt Z Z Z) ?_ | refine J (Gs Z Z Z) ?_ | refine J (GY Z Z Z) ?_ | refine J (Gu Try.underlying3 Z Z Z) ?_ | refine J (Gw Try.underlying3 Z Z Z) ?_ | refine J (st_neqN Try.underlying3 Z Z) ?_ | refine J (Gr Try.underlying3 Z Z) ?_ | refine J (st_neqMz Try.underlying3 Z Z) ?_ | refine J (Gv Try.underlying3 Z Z Z) ?_ | refine J (st_neqFN Try.underlying3 Z Z) ?_
    refine AG ?_
    first | refine BC rfl (fun h31=>?_) (fun h31=>?_) | refine Az rfl (fun h31=>?_) (fun h31=>?_)
    ·refine ET (AI (AC Z Z (J (Cz Z Z (IntWalk.i64_in _ (by omega)) rfl) (AD Z Z (AG ?_)))));exact ⟨(k+1,_,_),⟨hkl,by first | exact hI.pass hkl (fun e=>absurd e h31) | exact hI.pass hkl (fun _=>⟨fun hf=>Classical.byContradiction fun hr=>by first | exact h42 hr | exact h36 hf,fun hr=>Classical.byContradiction fun hf=>by first | exact h57 hf | exact h51 hr⟩) | exact hI.ins h42 h36 (Or.inl hWt) hkR.2 | exact hI.ins h57 h51 (Or.inr hWt) hkR.1 | exact absurd (LO.2 (.inr h36)) h57⟩,by show w.K.length - (k+1)<w.K.length - k;omega,BK hF [20] rfl (rfl) ⟨rfl,rfl,rfl,rfl,trivial⟩⟩
    ·refine Ak (AF (AF ?_));have ht0:(w.K[k]).t=0:=Classical.not_not.1 h31;have hkR:=hw.lk _ (List.getElem_mem hkl)
     have hkR:(w.K[k]).f∈w.R∧(w.K[k]).r∈w.R:=⟨hkR.1,hkR.2.1⟩
     have hWt:(⟨(w.K[k]).f,0,(w.K[k]).r⟩:Lw)∈w.K:=by rw [←ht0];exact List.getElem_mem hkl
     refine AI (AC Z Z ?_)
     first | refine J (A4 rfl CC Z Z Z) ?_ | refine J (A6 rfl CC Z Z Z) ?_ | refine J (A7 rfl CC Z Z Z) ?_ | refine J (A5 rfl CC Z Z Z) ?_ | refine J (A3 rfl CC Z Z Z) ?_
     first | refine J (AY Z Z AZ rfl) ?_ | refine J (AW Z Z Z AZ rfl) ?_ | refine J (AX Z Z (rfl) rfl AZ rfl) ?_
     refine J (DZ (Bn out (w.K[k]).f (by omega)) Z Z) (AC Z Z ?_)
     first | refine JU 36 rfl (fun h36=>?_) (fun h36=>?_) | refine IR 36 rfl (fun h36=>?_) (fun h36=>?_)
     ·refine A1 Z Z Z (AC Z Z (A1 Z Z Z ?_))
      first | refine J (A4 rfl Cc Z Z Z) ?_ | refine J (A6 rfl Cc Z Z Z) ?_ | refine J (A7 rfl Cc Z Z Z) ?_ | refine J (A5 rfl Cc Z Z Z) ?_ | refine J (A3 rfl Cc Z Z Z) ?_
      refine A1 Z Z Z ?_
      first | refine J (AY Z Z AZ rfl) ?_ | refine J (AW Z Z Z AZ rfl) ?_ | refine J (AX Z Z (rfl) rfl AZ rfl) ?_
      refine A1 Z Z Z (J (DZ (Bn out (w.K[k]).r (by omega)) Z Z) (A1 Z Z Z ?_))
      first | refine J (EZ Z Z) ?_ | refine J (EY Z Z) ?_
      refine J (Fp Z Z Z Z) (AG ?_)
      first | refine BC rfl (fun h42=>?_) (fun h42=>?_) | refine Az rfl (fun h42=>?_) (fun h42=>?_)
      ·refine AF (AI (AC Z Z ?_))
       first | refine J (A4 rfl Cc Z Z Z) ?_ | refine J (A6 rfl Cc Z Z Z) ?_ | refine J (A7 rfl Cc Z Z Z) ?_ | refine J (A5 rfl Cc Z Z Z) ?_ | refine J (A3 rfl Cc Z Z Z) ?_
       first | refine J (AY Z Z AZ rfl) ?_ | refine J (AW Z Z Z AZ rfl) ?_ | refine J (AX Z Z (rfl) rfl AZ rfl) ?_
       refine J (DZ (EO out (w.K[k]).r (by omega)) Z Z) (AD Z Z (AG (AI (AD Z Z (AG (AF (AI (AC Z Z ?_))))))))
       first | refine J (A4 rfl Cc Z Z Z) ?_ | refine J (A6 rfl Cc Z Z Z) ?_ | refine J (A7 rfl Cc Z Z Z) ?_ | refine J (A5 rfl Cc Z Z Z) ?_ | refine J (A3 rfl Cc Z Z Z) ?_
       first | refine J (AY Z Z AZ rfl) ?_ | refine J (AW Z Z Z AZ rfl) ?_ | refine J (AX Z Z (rfl) rfl AZ rfl) ?_
       refine J (DZ (Bn (Bi out (w.K[k]).r) (w.K[k]).r (by rw [DT];omega)) Z Z) (AC Z Z ?_)
       first | refine JU 51 rfl (fun h51=>?_) (fun h51=>?_) | refine IR 51 rfl (fun h51=>?_) (fun h51=>?_)
       ·refine A1 Z Z Z (AC Z Z (A1 Z Z Z ?_))
        first | refine J (A4 rfl CC Z Z Z) ?_ | refine J (A6 rfl CC Z Z Z) ?_ | refine J (A7 rfl CC Z Z Z) ?_ | refine J (A5 rfl CC Z Z Z) ?_ | refine J (A3 rfl CC Z Z Z) ?_
        refine A1 Z Z Z ?_
        first | refine J (AY Z Z AZ rfl) ?_ | refine J (AW Z Z Z AZ rfl) ?_ | refine J (AX Z Z (rfl) rfl AZ rfl) ?_
        refine A1 Z Z Z (J (DZ (Bn (Bi out (w.K[k]).r) (w.K[k]).f (by rw [DT];omega)) Z Z) (A1 Z Z Z ?_))
        first | refine J (EZ Z Z) ?_ | refine J (EY Z Z) ?_
        refine J (Fp Z Z Z Z) (AG ?_)
        first | refine BC rfl (fun h57=>?_) (fun h57=>?_) | refine Az rfl (fun h57=>?_) (fun h57=>?_)
        ·refine AF (AI (AC Z Z ?_))
         first | refine J (A4 rfl CC Z Z Z) ?_ | refine J (A6 rfl CC Z Z Z) ?_ | refine J (A7 rfl CC Z Z Z) ?_ | refine J (A5 rfl CC Z Z Z) ?_ | refine J (A3 rfl CC Z Z Z) ?_
         first | refine J (AY Z Z AZ rfl) ?_ | refine J (AW Z Z Z AZ rfl) ?_ | refine J (AX Z Z (rfl) rfl AZ rfl) ?_
         refine J (DZ (EO (Bi out (w.K[k]).r) (w.K[k]).f (by rw [DT];omega)) Z Z) (AD Z Z ?_);refine AG (AI (AD Z Z (AG (AI (AC Z Z (J (Cz Z Z (IntWalk.i64_in _ (by omega)) rfl) (AD Z Z (AG ?_))))))));exact ⟨(k+1,_,_),⟨hkl,by first | exact hI.pass hkl (fun e=>absurd e h31) | exact hI.pass hkl (fun _=>⟨fun hf=>Classical.byContradiction fun hr=>by first | exact h42 hr | exact h36 hf,fun hr=>Classical.byContradiction fun hf=>by first | exact h57 hf | exact h51 hr⟩) | exact hI.ins h42 h36 (Or.inl hWt) hkR.2 | exact hI.ins h57 h51 (Or.inr hWt) hkR.1 | exact absurd (LO.2 (.inr h36)) h57⟩,by show w.K.length - (k+1)<w.K.length - k;omega,BK hF [20] rfl (rfl) ⟨rfl,rfl,rfl,rfl,trivial⟩⟩
        ·refine Ak (AI (AC Z Z (J (Cz Z Z (IntWalk.i64_in _ (by omega)) rfl) (AD Z Z (AG ?_)))));exact ⟨(k+1,_,_),⟨hkl,by first | exact hI.pass hkl (fun e=>absurd e h31) | exact hI.pass hkl (fun _=>⟨fun hf=>Classical.byContradiction fun hr=>by first | exact h42 hr | exact h36 hf,fun hr=>Classical.byContradiction fun hf=>by first | exact h57 hf | exact h51 hr⟩) | exact hI.ins h42 h36 (Or.inl hWt) hkR.2 | exact hI.ins h57 h51 (Or.inr hWt) hkR.1 | exact absurd (LO.2 (.inr h36)) h57⟩,by show w.K.length - (k+1)<w.K.length - k;omega,BK hF [20] rfl (rfl) ⟨rfl,rfl,rfl,rfl,trivial⟩⟩
       ·refine BA Z Z Z Z (BA Z Z Z Z (BA Z Z Z Z (BA Z Z Z Z (BA Z Z Z Z ?_))));refine J (Fo Z Z Z Z) (AG (D0 Z Z (Ak (AI (AC Z Z (J (Cz Z Z (IntWalk.i64_in _ (by omega)) rfl) (AD Z Z (AG ?_))))))));exact ⟨(k+1,_,_),⟨hkl,by first | exact hI.pass hkl (fun e=>absurd e h31) | exact hI.pass hkl (fun _=>⟨fun hf=>Classical.byContradiction fun hr=>by first | exact h42 hr | exact h36 hf,fun hr=>Classical.byContradiction fun hf=>by first | exact h57 hf | exact h51 hr⟩) | exact hI.ins h42 h36 (Or.inl hWt) hkR.2 | exact hI.ins h57 h51 (Or.inr hWt) hkR.1 | exact absurd (LO.2 (.inr h36)) h57⟩,by show w.K.length - (k+1)<w.K.length - k;omega,BK hF [20] rfl (rfl) ⟨rfl,rfl,rfl,rfl,trivial⟩⟩
      ·refine Ak (AF (AI (AC Z Z ?_)))
       first | refine J (A4 rfl Cc Z Z Z) ?_ | refine J (A6 rfl Cc Z Z Z) ?_ | refine J (A7 rfl Cc Z Z Z) ?_ | refine J (A5 rfl Cc Z Z Z) ?_ | refine J (A3 rfl Cc Z Z Z) ?_
       first | refine J (AY Z Z AZ rfl) ?_ | refine J (AW Z Z Z AZ rfl) ?_ | refine J (AX Z Z (rfl) rfl AZ rfl) ?_
       refine J (DZ (Bn out (w.K[k]).r (by omega)) Z Z) (AC Z Z ?_)
       first | refine JU 51 rfl (fun h51=>?_) (fun h51=>?_) | refine IR 51 rfl (fun h51=>?_) (fun h51=>?_)
       ·refine A1 Z Z Z (AC Z Z (A1 Z Z Z ?_))
        first | refine J (A4 rfl CC Z Z Z) ?_ | refine J (A6 rfl CC Z Z Z) ?_ | refine J (A7 rfl CC Z Z Z) ?_ | refine J (A5 rfl CC Z Z Z) ?_ | refine J (A3 rfl CC Z Z Z) ?_
        refine A1 Z Z Z ?_
        first | refine J (AY Z Z AZ rfl) ?_ | refine J (AW Z Z Z AZ rfl) ?_ | refine J (AX Z Z (rfl) rfl AZ rfl) ?_
        refine A1 Z Z Z (J (DZ (Bn out (w.K[k]).f (by omega)) Z Z) (A1 Z Z Z ?_))
        first | refine J (EZ Z Z) ?_ | refine J (EY Z Z) ?_
        refine J (Fp Z Z Z Z) (AG ?_)
        first | refine BC rfl (fun h57=>?_) (fun h57=>?_) | refine Az rfl (fun h57=>?_) (fun h57=>?_)
        ·refine AF (AI (AC Z Z ?_))
         first | refine J (A4 rfl CC Z Z Z) ?_ | refine J (A6 rfl CC Z Z Z) ?_ | refine J (A7 rfl CC Z Z Z) ?_ | refine J (A5 rfl CC Z Z Z) ?_ | refine J (A3 rfl CC Z Z Z) ?_
         first | refine J (AY Z Z AZ rfl) ?_ | refine J (AW Z Z Z AZ rfl) ?_ | refine J (AX Z Z (rfl) rfl AZ rfl) ?_
         refine J (DZ (EO out (w.K[k]).f (by omega)) Z Z) (AD Z Z ?_);refine AG (AI (AD Z Z (AG (AI (AC Z Z (J (Cz Z Z (IntWalk.i64_in _ (by omega)) rfl) (AD Z Z (AG ?_))))))));exact ⟨(k+1,_,_),⟨hkl,by first | exact hI.pass hkl (fun e=>absurd e h31) | exact hI.pass hkl (fun _=>⟨fun hf=>Classical.byContradiction fun hr=>by first | exact h42 hr | exact h36 hf,fun hr=>Classical.byContradiction fun hf=>by first | exact h57 hf | exact h51 hr⟩) | exact hI.ins h42 h36 (Or.inl hWt) hkR.2 | exact hI.ins h57 h51 (Or.inr hWt) hkR.1 | exact absurd (LO.2 (.inr h36)) h57⟩,by show w.K.length - (k+1)<w.K.length - k;omega,BK hF [20] rfl (rfl) ⟨rfl,rfl,rfl,rfl,trivial⟩⟩
        ·refine Ak (AI (AC Z Z (J (Cz Z Z (IntWalk.i64_in _ (by omega)) rfl) (AD Z Z (AG ?_)))));exact ⟨(k+1,_,_),⟨hkl,by first | exact hI.pass hkl (fun e=>absurd e h31) | exact hI.pass hkl (fun _=>⟨fun hf=>Classical.byContradiction fun hr=>by first | exact h42 hr | exact h36 hf,fun hr=>Classical.byContradiction fun hf=>by first | exact h57 hf | exact h51 hr⟩) | exact hI.ins h42 h36 (Or.inl hWt) hkR.2 | exact hI.ins h57 h51 (Or.inr hWt) hkR.1 | exact absurd (LO.2 (.inr h36)) h57⟩,by show w.K.length - (k+1)<w.K.length - k;omega,BK hF [20] rfl (rfl) ⟨rfl,rfl,rfl,rfl,trivial⟩⟩
       ·refine BA Z Z Z Z (BA Z Z Z Z (BA Z Z Z Z (BA Z Z Z Z (BA Z Z Z Z ?_))));refine J (Fo Z Z Z Z) (AG (D0 Z Z (Ak (AI (AC Z Z (J (Cz Z Z (IntWalk.i64_in _ (by omega)) rfl) (AD Z Z (AG ?_))))))));exact ⟨(k+1,_,_),⟨hkl,by first | exact hI.pass hkl (fun e=>absurd e h31) | exact hI.pass hkl (fun _=>⟨fun hf=>Classical.byContradiction fun hr=>by first | exact h42 hr | exact h36 hf,fun hr=>Classical.byContradiction fun hf=>by first | exact h57 hf | exact h51 hr⟩) | exact hI.ins h42 h36 (Or.inl hWt) hkR.2 | exact hI.ins h57 h51 (Or.inr hWt) hkR.1 | exact absurd (LO.2 (.inr h36)) h57⟩,by show w.K.length - (k+1)<w.K.length - k;omega,BK hF [20] rfl (rfl) ⟨rfl,rfl,rfl,rfl,trivial⟩⟩
     ·refine BA Z Z Z Z (BA Z Z Z Z (BA Z Z Z Z ?_));refine BA Z Z Z Z (BA Z Z Z Z (J (Fo Z Z Z Z) (AG (D0 Z Z (Ak (AF (AI (AC Z Z ?_))))))))
      first | refine J (A4 rfl Cc Z Z Z) ?_ | refine J (A6 rfl Cc Z Z Z) ?_ | refine J (A7 rfl Cc Z Z Z) ?_ | refine J (A5 rfl Cc Z Z Z) ?_ | refine J (A3 rfl Cc Z Z Z) ?_
      first | refine J (AY Z Z AZ rfl) ?_ | refine J (AW Z Z Z AZ rfl) ?_ | refine J (AX Z Z (rfl) rfl AZ rfl) ?_
      refine J (DZ (Bn out (w.K[k]).r (by omega)) Z Z) (AC Z Z ?_)
      first | refine JU 51 rfl (fun h51=>?_) (fun h51=>?_) | refine IR 51 rfl (fun h51=>?_) (fun h51=>?_)
      ·refine A1 Z Z Z (AC Z Z (A1 Z Z Z ?_))
       first | refine J (A4 rfl CC Z Z Z) ?_ | refine J (A6 rfl CC Z Z Z) ?_ | refine J (A7 rfl CC Z Z Z) ?_ | refine J (A5 rfl CC Z Z Z) ?_ | refine J (A3 rfl CC Z Z Z) ?_
       refine A1 Z Z Z ?_
       first | refine J (AY Z Z AZ rfl) ?_ | refine J (AW Z Z Z AZ rfl) ?_ | refine J (AX Z Z (rfl) rfl AZ rfl) ?_
       refine A1 Z Z Z (J (DZ (Bn out (w.K[k]).f (by omega)) Z Z) (A1 Z Z Z ?_))
       first | refine J (EZ Z Z) ?_ | refine J (EY Z Z) ?_
       refine J (Fp Z Z Z Z) (AG ?_)
       first | refine BC rfl (fun h57=>?_) (fun h57=>?_) | refine Az rfl (fun h57=>?_) (fun h57=>?_)
       ·refine AF (AI (AC Z Z ?_))
        first | refine J (A4 rfl CC Z Z Z) ?_ | refine J (A6 rfl CC Z Z Z) ?_ | refine J (A7 rfl CC Z Z Z) ?_ | refine J (A5 rfl CC Z Z Z) ?_ | refine J (A3 rfl CC Z Z Z) ?_
        first | refine J (AY Z Z AZ rfl) ?_ | refine J (AW Z Z Z AZ rfl) ?_ | refine J (AX Z Z (rfl) rfl AZ rfl) ?_
        refine J (DZ (EO out (w.K[k]).f (by omega)) Z Z) (AD Z Z ?_);refine AG (AI (AD Z Z (AG (AI (AC Z Z (J (Cz Z Z (IntWalk.i64_in _ (by omega)) rfl) (AD Z Z (AG ?_))))))));exact ⟨(k+1,_,_),⟨hkl,by first | exact hI.pass hkl (fun e=>absurd e h31) | exact hI.pass hkl (fun _=>⟨fun hf=>Classical.byContradiction fun hr=>by first | exact h42 hr | exact h36 hf,fun hr=>Classical.byContradiction fun hf=>by first | exact h57 hf | exact h51 hr⟩) | exact hI.ins h42 h36 (Or.inl hWt) hkR.2 | exact hI.ins h57 h51 (Or.inr hWt) hkR.1 | exact absurd (LO.2 (.inr h36)) h57⟩,by show w.K.length - (k+1)<w.K.length - k;omega,BK hF [20] rfl (rfl) ⟨rfl,rfl,rfl,rfl,trivial⟩⟩
       ·refine Ak (AI (AC Z Z (J (Cz Z Z (IntWalk.i64_in _ (by omega)) rfl) (AD Z Z (AG ?_)))));exact ⟨(k+1,_,_),⟨hkl,by first | exact hI.pass hkl (fun e=>absurd e h31) | exact hI.pass hkl (fun _=>⟨fun hf=>Classical.byContradiction fun hr=>by first | exact h42 hr | exact h36 hf,fun hr=>Classical.byContradiction fun hf=>by first | exact h57 hf | exact h51 hr⟩) | exact hI.ins h42 h36 (Or.inl hWt) hkR.2 | exact hI.ins h57 h51 (Or.inr hWt) hkR.1 | exact absurd (LO.2 (.inr h36)) h57⟩,by show w.K.length - (k+1)<w.K.length - k;omega,BK hF [20] rfl (rfl) ⟨rfl,rfl,rfl,rfl,trivial⟩⟩
      ·refine BA Z Z Z Z (BA Z Z Z Z (BA Z Z Z Z (BA Z Z Z Z (BA Z Z Z Z ?_))));refine J (Fo Z Z Z Z) (AG (D0 Z Z (Ak (AI (AC Z Z (J (Cz Z Z (IntWalk.i64_in _ (by omega)) rfl) (AD Z Z (AG ?_))))))));exact ⟨(k+1,_,_),⟨hkl,by first | exact hI.pass hkl (fun e=>absurd e h31) | exact hI.pass hkl (fun _=>⟨fun hf=>Classical.byContradiction fun hr=>by first | exact h42 hr | exact h36 hf,fun hr=>Classical.byContradiction fun hf=>by first | exact h57 hf | exact h51 hr⟩) | exact hI.ins h42 h36 (Or.inl hWt) hkR.2 | exact hI.ins h57 h51 (Or.inr hWt) hkR.1 | exact absurd (LO.2 (.inr h36)) h57⟩,by show w.K.length - (k+1)<w.K.length - k;omega,BK hF [20] rfl (rfl) ⟨rfl,rfl,rfl,rfl,trivial⟩⟩
   ·refine ET ?_;exact ⟨(out,grew),⟨hI.g,fun e=>by have:=(hI.no e).2;rw [show k=w.K.length by omega,List.take_length] at this;exact this⟩,by have h1:=hI.g.len;have h2:=hI.le;show 2*(w.R.length - out.length)+(if grew then 1 else 0)<2*(w.R.length - out0.length)+(if gr then 1 else 0);rw [show gr=true from h16];cases hgr:grew with | false=>rw [(hI.no hgr).1];simp | true=>have h3:=hI.yes hgr;simp;omega,BK hF [20] rfl (rfl) ⟨rfl,rfl,rfl,trivial⟩⟩
  ·refine ET (AF ?_);have hfin:=hG0.fin hw (hC0 (by simpa using h16));refine AI (AC Z Z (AD Z Z (AG (At ?_))));exact ⟨_,[],[],Ar rfl,rfl,rfl,by rw [if_pos haR,hfin],rfl⟩
theorem MV {w:Ws} (hw:B7 w) {x:St} (hx:x∈w.R):(cls w x).getD 0 []=x↔Jd w x:=by
 have hs:=Gq hw x;have hm:=C8 hx
 cases hc:cls w x with
 | nil=>rw [hc] at hm;simp at hm
 | cons y r=>
  rw [hc] at hs hm;have h1:=List.pairwise_cons.1 hs;show y=x↔_
  constructor
  ·rintro rfl z hz hzc hlt;have hz2:z∈cls w y:=Na.2 ⟨hz,hzc⟩;rw [hc] at hz2;rcases List.mem_cons.1 hz2 with rfl | hz2
   ·exact GH _ hlt
   ·exact GH _ (Nd hlt (h1.1 z hz2))
  ·intro hl;have hy:y∈cls w x:=by rw [hc];simp
   obtain ⟨hyR,hyc⟩:=Na.1 hy;rcases List.mem_cons.1 hm with e | hm
   ·exact e.symm
   ·exact absurd (h1.1 x hm) (hl y hyR hyc)
open Classical in
noncomputable def partT (w:Ws) (k:Nat):List (List St):=((w.R.take k).filter fun a=>decide (Jd w a)).map (cls w)
theorem O8 (w:Ws):partT w w.R.length=parts w:=by unfold partT parts;rw [List.take_length]
theorem O7 {w:Ws} {k:Nat} (hk:k<w.R.length) (h:Jd w w.R[k]):partT w (k+1)=partT w k++ [cls w w.R[k]]:=by
 unfold partT;rw [List.take_succ_eq_append_getElem hk,List.filter_append,List.map_append]
 simp [h]
theorem NF {w:Ws} {k:Nat} (hk:k<w.R.length) (h:¬Jd w w.R[k]):partT w (k+1)=partT w k:=by
 unfold partT;rw [List.take_succ_eq_append_getElem hk,List.filter_append,List.map_append]
 simp [h]
theorem O6 (w:Ws) (k:Nat):(partT w k).length≤w.R.length:=by
 unfold partT;rw [List.length_map];exact Nat.le_trans (List.length_filter_le _ _) (by rw [List.length_take];omega)
theorem Di {l:List St} {k:Nat} (h:k<l.length):(l.map AU)[k]?=some (AU l[k]):=by
 rw [List.getElem?_map,List.getElem?_eq_getElem h];rfl
theorem all_p (w:Ws) (hw:B7 w) (hl:w.K.length≤2000000):Ba Try.prog 55 [.d (LM w)] (Cx (parts w)):=by
 have hfew:=hw.few;refine DA Try.func55 Z Z Try.ntmps55 Z Z Z fun F hF=>(AF (AI (U (IT 20 Z Z Z Z Z Z Z) (AD Z Z (AG (AF (AI (AD Z Z ?_))))))));refine AG (AF (AF (AI (AD Z Z (AG (Bc (Fn 3 1 Mu Z Z Z Z (F4 (α:=Nat×List (List St)) (fun q=>⟨34,[(1,(.ptr 20 0 0)),(3,(.own 1 0 q.2.length)),(4,(.d (natD q.1)))],[JH 20 w,(1,[.rowD 32 1 (q.2.map stsD)])]⟩) (fun q=>q.1≤w.R.length∧q.2=partT w q.1) (fun q=>w.R.length - q.1) ((0,[])) (⟨Nat.zero_le _,rfl⟩) (BK hF [20,1] Z Z ⟨rfl,rfl,rfl,trivial⟩) ?_))))))));rintro ⟨k,out⟩ ⟨hk,ho⟩;dsimp only at hk ho⊢;refine AF (AF (AI (AC Z Z ?_)))
 first | refine J (A4 rfl Ag Z Z Z) ?_ | refine J (A6 rfl Ag Z Z Z) ?_ | refine J (A7 rfl Ag Z Z Z) ?_ | refine J (A5 rfl Ag Z Z Z) ?_ | refine J (A3 rfl Ag Z Z Z) ?_
 first | refine J (AY Z Z AT rfl) ?_ | refine J (AW Z Z Z AT rfl) ?_ | refine J (AX Z Z (rfl) rfl AT rfl) ?_
 refine J (CJ rfl (List.length_map ..) Try.underlying32 rfl) ?_
 first | refine J (Es Z Z Z) ?_ | refine J (Ex Z Z Z) ?_
 refine AG ?_
 first | refine BC rfl (fun h10=>?_) (fun h10=>?_) | refine Az rfl (fun h10=>?_) (fun h10=>?_)
 ·refine Ak (AF (Bc (AF ?_)));have hkl:k<w.R.length:=Hl h10;have hxR:w.R[k]∈w.R:=List.getElem_mem hkl;have hcl:0<(cls w w.R[k]).length:=List.length_pos_of_mem (C8 hxR);have hpl:out.length≤w.R.length:=by rw [ho];exact O6 w k
  refine FH [[],[],[1],[],[1,2,3],[1,2,3,4],[0,1,2,3,4,5],[0,1,2,3,4,5,6]] mixed rfl (Dk ?_)
  first | refine AE [1] [] Z Z (fun _=>AB (BS Z Z AL rfl)) ?_ | refine AH [1] Z Z (fun _=>AB (BS Z Z AL rfl)) ?_ | refine AE [1] [] Z Z (fun _=>AB (BQ Z Z AL Z Z Z)) ?_ | refine AH [1] Z Z (fun _=>AB (BQ Z Z AL Z Z Z)) ?_ | refine AE [1] [] Z Z (fun _=>AB (BR Z Z (rfl) rfl AL rfl)) ?_ | refine AH [1] Z Z (fun _=>AB (BR Z Z (rfl) rfl AL rfl)) ?_
  first | refine AE [1] [] Z Z (fun _=>AB (A4 rfl Ag Z Z Z)) ?_ | refine AH [1] Z Z (fun _=>AB (A4 rfl Ag Z Z Z)) ?_ | refine AE [1] [] Z Z (fun _=>AB (A6 rfl Ag Z Z Z)) ?_ | refine AH [1] Z Z (fun _=>AB (A6 rfl Ag Z Z Z)) ?_ | refine AE [1] [] Z Z (fun _=>AB (A7 rfl Ag Z Z Z)) ?_ | refine AH [1] Z Z (fun _=>AB (A7 rfl Ag Z Z Z)) ?_ | refine AE [1] [] Z Z (fun _=>AB (A5 rfl Ag Z Z Z)) ?_ | refine AH [1] Z Z (fun _=>AB (A5 rfl Ag Z Z Z)) ?_ | refine AE [1] [] Z Z (fun _=>AB (A3 rfl Ag Z Z Z)) ?_ | refine AH [1] Z Z (fun _=>AB (A3 rfl Ag Z Z Z)) ?_
  first | refine AE [14] [] Z Z (fun _=>AB (AY Z Z AT rfl)) ?_ | refine AH [14] Z Z (fun _=>AB (AY Z Z AT rfl)) ?_ | refine AE [14] [] Z Z (fun _=>AB (AW Z Z Z AT rfl)) ?_ | refine AH [14] Z Z (fun _=>AB (AW Z Z Z AT rfl)) ?_ | refine AE [14] [] Z Z (fun _=>AB (AX Z Z (rfl) rfl AT rfl)) ?_ | refine AH [14] Z Z (fun _=>AB (AX Z Z (rfl) rfl AT rfl)) ?_
  first | refine AE [4] [] Z Z (fun _=>AB (Ac Z Z)) ?_ | refine AH [4] Z Z (fun _=>AB (Ac Z Z)) ?_
  first | refine AE [15,16] [] Z Z (fun _=>AB (BN (k) Z Z (rfl) (Di hkl) Try.underlying32 rfl EW rfl)) ?_ | refine AH [15,16] Z Z (fun _=>AB (BN (k) Z Z (rfl) (Di hkl) Try.underlying32 rfl EW rfl)) ?_ | refine AE [15,16] [] Z Z (fun _=>AB (BO (k) Z Z (rfl) (Di hkl) rfl Try.underlying32 EW rfl)) ?_ | refine AH [15,16] Z Z (fun _=>AB (BO (k) Z Z (rfl) (Di hkl) rfl Try.underlying32 EW rfl)) ?_
  first | refine AE [17] [] Z Z (fun _=>AB (AY Z Z AZ rfl)) ?_ | refine AH [17] Z Z (fun _=>AB (AY Z Z AZ rfl)) ?_ | refine AE [17] [] Z Z (fun _=>AB (AW Z Z Z AZ rfl)) ?_ | refine AH [17] Z Z (fun _=>AB (AW Z Z Z AZ rfl)) ?_ | refine AE [17] [] Z Z (fun _=>AB (AX Z Z (rfl) rfl AZ rfl)) ?_ | refine AH [17] Z Z (fun _=>AB (AX Z Z (rfl) rfl AZ rfl)) ?_
  refine Dl 6 Z Z Z (B9 7 Z Z (J (DZ (Oi w hw w.R[k] hl) Z Z) ?_));rw [if_pos hxR];refine AG ⟨rfl,?_⟩;refine B9 8 Z Z (AD Z Z (AG ⟨rfl,?_⟩));refine Em (AF (FH [[],[0],[0,1],[],[3],[],[3,4,5],[3,4,5,6],[0,1,2,3,4,5,6,7]] mixed rfl (Dk ?_)))
  first | refine AE [5] [] Z Z (fun _=>AB (Ac Z Z)) ?_ | refine AH [5] Z Z (fun _=>AB (Ac Z Z)) ?_
  first | refine AE [20] [] Z Z (fun _=>AB (BN (0) Z Z (rfl) (D3 hcl) Try.underlying32 rfl EW rfl)) ?_ | refine AH [20] Z Z (fun _=>AB (BN (0) Z Z (rfl) (D3 hcl) Try.underlying32 rfl EW rfl)) ?_ | refine AE [20] [] Z Z (fun _=>AB (BO (0) Z Z (rfl) (D3 hcl) rfl Try.underlying32 EW rfl)) ?_ | refine AH [20] Z Z (fun _=>AB (BO (0) Z Z (rfl) (D3 hcl) rfl Try.underlying32 EW rfl)) ?_
  first | refine AE [21] [99] Z Z (fun _=>AB (AY Z Z AZ rfl)) ?_ | refine AE [21] [99] Z Z (fun _=>AB (AW Z Z Z AZ rfl)) ?_ | refine AE [21] [99] Z Z (fun _=>AB (AX Z Z (rfl) rfl AZ rfl)) ?_
  first | refine AE [1] [] Z Z (fun _=>AB (A4 rfl Ag Z Z Z)) ?_ | refine AH [1] Z Z (fun _=>AB (A4 rfl Ag Z Z Z)) ?_ | refine AE [1] [] Z Z (fun _=>AB (A6 rfl Ag Z Z Z)) ?_ | refine AH [1] Z Z (fun _=>AB (A6 rfl Ag Z Z Z)) ?_ | refine AE [1] [] Z Z (fun _=>AB (A7 rfl Ag Z Z Z)) ?_ | refine AH [1] Z Z (fun _=>AB (A7 rfl Ag Z Z Z)) ?_ | refine AE [1] [] Z Z (fun _=>AB (A5 rfl Ag Z Z Z)) ?_ | refine AH [1] Z Z (fun _=>AB (A5 rfl Ag Z Z Z)) ?_ | refine AE [1] [] Z Z (fun _=>AB (A3 rfl Ag Z Z Z)) ?_ | refine AH [1] Z Z (fun _=>AB (A3 rfl Ag Z Z Z)) ?_
  first | refine AE [23] [] Z Z (fun _=>AB (AY Z Z AT rfl)) ?_ | refine AH [23] Z Z (fun _=>AB (AY Z Z AT rfl)) ?_ | refine AE [23] [] Z Z (fun _=>AB (AW Z Z Z AT rfl)) ?_ | refine AH [23] Z Z (fun _=>AB (AW Z Z Z AT rfl)) ?_ | refine AE [23] [] Z Z (fun _=>AB (AX Z Z (rfl) rfl AT rfl)) ?_ | refine AH [23] Z Z (fun _=>AB (AX Z Z (rfl) rfl AT rfl)) ?_
  first | refine AE [4] [] Z Z (fun _=>AB (Ac Z Z)) ?_ | refine AH [4] Z Z (fun _=>AB (Ac Z Z)) ?_
  first | refine AE [24,25] [] Z Z (fun _=>AB (BN (k) Z Z (rfl) (Di hkl) Try.underlying32 rfl EW rfl)) ?_ | refine AH [24,25] Z Z (fun _=>AB (BN (k) Z Z (rfl) (Di hkl) Try.underlying32 rfl EW rfl)) ?_ | refine AE [24,25] [] Z Z (fun _=>AB (BO (k) Z Z (rfl) (Di hkl) rfl Try.underlying32 EW rfl)) ?_ | refine AH [24,25] Z Z (fun _=>AB (BO (k) Z Z (rfl) (Di hkl) rfl Try.underlying32 EW rfl)) ?_
  first | refine AE [26] [] Z Z (fun _=>AB (AY Z Z AZ rfl)) ?_ | refine AH [26] Z Z (fun _=>AB (AY Z Z AZ rfl)) ?_ | refine AE [26] [] Z Z (fun _=>AB (AW Z Z Z AZ rfl)) ?_ | refine AH [26] Z Z (fun _=>AB (AW Z Z Z AZ rfl)) ?_ | refine AE [26] [] Z Z (fun _=>AB (AX Z Z (rfl) rfl AZ rfl)) ?_ | refine AH [26] Z Z (fun _=>AB (AX Z Z (rfl) rfl AZ rfl)) ?_
  refine Dl 8 Z Z Z (B9 9 Z Z ?_)
  first | refine J (Er Z Z Z) ?_ | refine J (FF Z Z Z) ?_ | refine J (En Z Z Z) ?_ | refine J (Et Try.underlying9 Z Z Z) ?_ | refine J (Ew Try.underlying9 Z Z Z) ?_ | refine J (Ev Try.underlying9 Z Z) ?_ | refine J (FE Try.underlying9 Z Z) ?_ | refine J (Ez Try.underlying9 Z Z) ?_ | refine J (Eu Try.underlying9 Z Z Z) ?_ | refine J (Ey Try.underlying9 Z Z) ?_
  refine AG ⟨rfl,?_⟩;refine Em ?_
  first | refine BC rfl (fun h28=>?_) (fun h28=>?_) | refine Az rfl (fun h28=>?_) (fun h28=>?_)
  ·refine AI (AC Z Z (AC Z Z (U (Gx 21 Mu Z Z Z Z Z Z Z Z) ?_)))
   first | refine U (JZ (out) ([cls w w.R[k]]) Z Z Z Z Z Z Z Z Mu (by simp only [List.length_singleton];omega) Z Z Z Z) ?_ | refine U (K5 (out) ([cls w w.R[k]]) Z Z Z Z Z Z (fun _=>rfl) Mu (by simp only [List.length_singleton];omega) Z Z Z Z) ?_
   refine AD Z Z (AG (AI (AC Z Z (J (Cz Z Z (IntWalk.i64_in _ (by omega)) rfl) (AD Z Z (AG ?_))))));exact ⟨(k+1,out++ [cls w w.R[k]]),⟨hkl,by show _=partT w (k+1);rw [O7 hkl ((MV hw hxR).1 h28),ho]⟩,by show w.R.length - (k+1)<w.R.length - k;omega,BK hF [20,1] rfl (rfl) ⟨rfl,rfl,rfl,trivial⟩⟩
  ·refine Ak (AI (AC Z Z (J (Cz Z Z (IntWalk.i64_in _ (by omega)) rfl) (AD Z Z (AG ?_)))));exact ⟨(k+1,out),⟨hkl,by show _=partT w (k+1);rw [NF hkl fun h=>h28 ((MV hw hxR).2 h),ho]⟩,by show w.R.length - (k+1)<w.R.length - k;omega,BK hF [20,1] rfl (rfl) ⟨rfl,rfl,rfl,trivial⟩⟩
 ·refine ET (AF ?_);have hke:k=w.R.length:=by have:=h10;omega
  refine Zcn (emb:=stsD) 3 1 out Z Z Z Z Z Z Z (AI (AC Z Z (AD Z Z (AG (At ?_)))));exact ⟨_,[],[],Ar rfl,rfl,rfl,by rw [ho,hke,O8],rfl⟩
theorem Bz {w:Ws} (hw:B7 w) {i j:Nat} (hi:i<(parts w).length) (hj:j<(parts w).length) (hne:i≠j):PF w.K ((parts w).getD i []) ((parts w).getD j [])↔j∈depL w i:=by
 rw [Bw hw]
 constructor
 ·rintro ⟨l,hl,ht,hf,hr⟩;exact ⟨hne,l,hl,ht,((Ko hw hi).1 hf).2,((Ko hw hj).1 hr).2⟩
 ·rintro ⟨_,l,hl,ht,hf,hr⟩;exact ⟨l,hl,ht,(Ko hw hi).2 ⟨(hw.lk l hl).1,hf⟩,(Ko hw hj).2 ⟨(hw.lk l hl).2.1,hr⟩⟩
def PE (w:Ws) (ord:List Nat) (i k:Nat):Prop:=i∉ord∧∀j,j<k ->j≠i ->j∉ord ->j∉depL w i
noncomputable instance (w:Ws) (ord:List Nat) (i k:Nat):Decidable (PE w ord i k):=Classical.propDecidable _
theorem bD {p q:Prop} [Decidable p] [Decidable q] (h:p↔q):AV.d (An (decide p))=AV.d (An (decide q)):=by rw [decide_eq_decide.2 h]
theorem Q9 {w:Ws} {ord:List Nat} {i:Nat}:AV.d (An (decide (¬i∈ord)))=AV.d (An (decide (PE w ord i 0))):=bD ⟨fun h=>⟨h,fun j hj=>by omega⟩,fun h=>h.1⟩
theorem PH {w:Ws} {ord:List Nat} {i k:Nat} (h:k=i∨k∈ord∨k∉depL w i):AV.d (An (decide (PE w ord i k)))=AV.d (An (decide (PE w ord i (k+1)))):=bD ⟨fun hf=>⟨hf.1,fun j hj h1 h2=>by
 by_cases e:j=k
 ·subst e;rcases h with h | h | h
  ·exact absurd h h1
  ·exact absurd h h2
  ·exact h
 ·exact hf.2 j (by omega) h1 h2⟩,fun hf=>⟨hf.1,fun j hj=>hf.2 j (by omega)⟩⟩
theorem Ky {w:Ws} {ord:List Nat} {i k:Nat} (h1:k≠i) (h2:k∉ord) (h3:k∈depL w i):AV.d (An false)=AV.d (An (decide (PE w ord i (k+1)))):=by
 rw [decide_eq_false (show ¬PE w ord i (k+1) from fun hf=>hf.2 k (by omega) h1 h2 h3)]
theorem Nw {w:Ws} {ord:List Nat} {i:Nat} (hn:∀k∈depL w i,k≠i):PE w ord i (parts w).length↔Ft (depL w) ord i=true:=by
 rw [CV];exact ⟨fun h=>⟨h.1,fun k hk=>Classical.byContradiction fun h2=>h.2 k (Gp hk) (hn k hk) h2 hk⟩,fun h=>⟨h.1,fun j _ _ h2 h3=>h2 (h.2 j h3)⟩⟩
theorem Nx {w:Ws} (hw:B7 w) {i:Nat}:∀k∈depL w i,k≠i:=fun k hk e=>((Bw hw).1 hk).1 e.symm
def encR:Option Nat ->Int
 | none=> -1
 | some x=>(x:Int)
structure LRd (w:Ws) (ord:List Nat) (m:Nat) (o:Option Nat):Prop where
 nn:o=none ->∀i,m≤i ->i<(parts w).length ->Ft (depL w) ord i=false
 so:∀x,o=some x ->x<(parts w).length∧Ft (depL w) ord x=true∧∀i,m≤i ->i<x ->Ft (depL w) ord i=false
theorem Ok {w:Ws} {ord:List Nat} {m:Nat} (h:m=(parts w).length):LRd w ord m none:=⟨fun _ i hi hl=>by omega,fun x e=>(by cases e)⟩
theorem lrd_hit {w:Ws} {ord:List Nat} {i:Nat} (hi:i<(parts w).length) (h:Ft (depL w) ord i=true):LRd w ord i (some i):=⟨fun e=>(by cases e),fun x e=>by injection e with e;subst e;exact ⟨hi,h,fun j h1 h2=>by omega⟩⟩
theorem QQ {w:Ws} {ord:List Nat} {i:Nat} {o:Option Nat} (h:LRd w ord (i+1) o) (hn:Ft (depL w) ord i=false):LRd w ord i o:=
 ⟨fun e j hj hl=>by
  by_cases e2:j=i
  ·rw [e2];exact hn
  ·exact h.nn e j (by omega) hl,fun x e=>⟨(h.so x e).1,(h.so x e).2.1,fun j hj hl=>by
  by_cases e2:j=i
  ·rw [e2];exact hn
  ·exact (h.so x e).2.2 j (by omega) hl⟩⟩
noncomputable def aftT (w:Ws) (ord:List Nat) (x k:Nat):List Nat:=(List.range k).filter fun p=>(depL w x).contains (ord.getD p 0)
theorem Qz {w:Ws} {ord:List Nat} {x k:Nat} (h:ord.getD k 0∈depL w x):aftT w ord x (k+1)=aftT w ord x k++ [k]:=by
 unfold aftT;rw [List.range_succ,List.filter_append];simp [List.getD_eq_getElem?_getD] at h⊢;simp [h]
theorem PA {w:Ws} {ord:List Nat} {x k:Nat} (h:ord.getD k 0∉depL w x):aftT w ord x (k+1)=aftT w ord x k:=by
 unfold aftT;rw [List.range_succ,List.filter_append];simp [List.getD_eq_getElem?_getD] at h⊢;simp [h]
theorem Mf (w:Ws) (ord:List Nat) (x k:Nat):(aftT w ord x k).length≤k:=by
 unfold aftT;exact Nat.le_trans (List.length_filter_le _ _) (by simp)
theorem eqI {a b:Int} (h:a=b):AV.d (Bt a)=AV.d (Bt b):=by rw [h]
set_option maxHeartbeats 2000000 in
theorem Lm (w:Ws) (hw:B7 w) (hl:w.K.length≤2000000):Ba Try.prog 37 [.d (LM w)] (if acyW w=true then .tup [DF (groupsW w),An true] else .tup [.sl (some true) [],An false]):=by
 have hfew:=hw.few
 obtain ⟨n,hn⟩:∃n,(parts w).length=n:=⟨_,rfl⟩
 have hnR:n≤4096:=by rw [←hn];unfold parts;rw [List.length_map];exact Nat.le_trans (List.length_filter_le _ _) hfew
 have hpl:∀i,((parts w).getD i []).length≤2000000:=fun i=>by
  by_cases hi:i<(parts w).length
  ·have h1:=(EI (Id hw (List.mem_of_getElem? (Fl hi)))).length_le_of_subset (l₂:=w.R) fun y hy=>((Ko hw hi).1 hy).1;omega
  ·rw [List.getD_eq_getElem?_getD,List.getElem?_eq_none (by omega)];exact Nat.zero_le _
 refine DA Try.func37 Z Z Try.ntmps37 Z Z Z fun F hF=>(AF (AI (U (IT 20 Z Z Z Z Z Z Z) (AD Z Z (AD Z Z (AG (AF (AI ?_))))))))
 first | refine J (BS Z Z AL rfl) ?_ | refine J (BQ Z Z AL Z Z Z) ?_ | refine J (BR Z Z (rfl) rfl AL rfl) ?_
 refine J (DZ (all_p w hw hl) Z Z) (AD Z Z ?_);refine AG (AF (AI (AC Z Z (J (CJ rfl ((List.length_map ..).trans hn) Try.underlying79 rfl) (U (Hz 21 sl99 Z Z Z (by omega) zd4 Z Z Z Z) (AD Z Z (AG (AF ?_))))))));rw [repB];refine AI (AD Z Z (AG ?_));refine AF (Fn 6 30 sl73 Z Z Z Z (AI (AD Z Z (AG (AF (Bc (Fn 7 31 FM Z Z Z Z (F4 (α:=List Nat×List Grp) (fun q=>⟨110,[(1,(.ptr 20 0 0)),(4,(.d (Cx (parts w)))),(5,(.own 21 0 n)),(6,(.own 30 0 q.2.length)),(7,(.own 31 0 q.1.length))],[JH 20 w,(21,[.rowD 4 1 (J4 n q.1)]),(30,[.rowD 76 2 (q.2.map Hu)]),(31,[.rowD 3 1 (q.1.map natD)])]⟩) (fun q=>H5 w q.1∧q.2=grpS w q.1) (fun q=>n - q.1.length) (([],[])) (⟨H5.zero w,rfl⟩) (BK hF [20,21,30,31] Z Z ⟨rfl,rfl,rfl,rfl,rfl,trivial⟩) ?_))))))));rintro ⟨ord,gs⟩ ⟨hI,hgs⟩;dsimp only at hI hgs⊢;refine AF (AF (AI (AC Z Z ?_)))
 first | refine J (JY rfl Try.underlying73 rfl) ?_ | refine J (CJ Z Z Try.underlying73 rfl) ?_ | refine J (JT rfl Try.underlying73 rfl) ?_ | refine J (JW rfl Try.underlying73 rfl) ?_ | refine J (JS rfl Try.underlying73 rfl) ?_ | refine J (JL rfl Try.underlying73 rfl) ?_
 refine AC Z Z (J (CJ rfl ((List.length_map ..).trans hn) Try.underlying79 rfl) ?_)
 first | refine J (Es Z Z Z) ?_ | refine J (Ex Z Z Z) ?_
 refine AG ?_
 first | refine BC rfl (fun h23=>?_) (fun h23=>?_) | refine Az rfl (fun h23=>?_) (fun h23=>?_)
 ·refine Ak (Bc (AF ?_));have hgl:gs.length=ord.length:=by rw [hgs,FW]
  have hlt:gs.length<n:=Hl h23;refine AI (AD Z Z (AG (AF (AF ?_))));refine AI (AC Z Z (J (CJ rfl ((List.length_map ..).trans hn) Try.underlying79 rfl) (J (DO Z Z (IntWalk.i64_in _ (by omega)) rfl) (NJ 26 (.d (Bt ((n:Int) - 1 - ((0:Nat):Int)))) rfl (eqI (by omega)) (AD Z Z (AG (Bc (F4 (α:=Nat×Option Nat) (fun q=>⟨110,[(1,(.ptr 20 0 0)),(4,(.d (Cx (parts w)))),(5,(.own 21 0 n)),(6,(.own 30 0 gs.length)),(7,(.own 31 0 ord.length)),(8,(.d (Bt (encR q.2)))),(9,(.d (Bt ((n:Int) - 1 - (q.1:Int)))))],[JH 20 w,(21,[.rowD 4 1 (J4 n ord)]),(30,[.rowD 76 2 (gs.map Hu)]),(31,[.rowD 3 1 (ord.map natD)])]⟩) (fun q=>q.1≤n∧LRd w ord (n - q.1) q.2) (fun q=>n - q.1) ((0,none)) (⟨Nat.zero_le _,Ok hn.symm⟩) (BK hF [20,21,30,31] Z Z ⟨rfl,rfl,rfl,rfl,rfl,rfl,rfl,trivial⟩) ?_))))))));rintro ⟨d,o⟩ ⟨hd,hLA⟩;dsimp only at hd hLA⊢;refine AF (AF (AI (AC Z Z (J (Ke Z Z Z) (AG ?_)))))
  first | refine BC rfl (fun h28=>?_) (fun h28=>?_) | refine Az rfl (fun h28=>?_) (fun h28=>?_)
  ·refine Ak (AF (Bc (AF ?_)));have hdl:d<n:=by have:=h28;omega
   refine N9 9 (.d (natD (n - 1 - d))) rfl (eqI (by omega)) ?_
   obtain ⟨i,hie⟩:∃i,n - 1 - d=i:=⟨_,rfl⟩
   rw [hie];have hil:i<n:=by omega
   have hil2:i<(parts w).length:=by omega
   have hie2:i=n - (d+1):=by omega
   have hie3:n - d=i+1:=by omega
   refine AI (AC Z Z (AC Z Z ?_))
   first | refine J (BN (i) Z Z (rfl) (hil) Try.underlying99 rfl PG rfl) ?_ | refine J (BO (i) Z Z (rfl) (hil) rfl Try.underlying99 PG rfl) ?_
   first | refine J (AY Z Z on4 rfl) ?_ | refine J (AW Z Z Z on4 rfl) ?_ | refine J (AX Z Z (I9 hil) rfl on4 rfl) ?_
   first | refine J (EZ Z Z) ?_ | refine J (EY Z Z) ?_
   refine NJ 35 (.d (An (decide (PE w ord i 0)))) rfl Q9 ?_;refine AD Z Z (AG (AF (AF (AI (AD Z Z (AG (Bc (F4 (α:=Nat) (fun k=>⟨110,[(1,(.ptr 20 0 0)),(4,(.d (Cx (parts w)))),(5,(.own 21 0 n)),(6,(.own 30 0 gs.length)),(7,(.own 31 0 ord.length)),(8,(.d (Bt (encR o)))),(9,(.d (natD i))),(10,(.d (An (decide (PE w ord i k))))),(11,(.d (natD k)))],[JH 20 w,(21,[.rowD 4 1 (J4 n ord)]),(30,[.rowD 76 2 (gs.map Hu)]),(31,[.rowD 3 1 (ord.map natD)])]⟩) (fun k=>k≤n) (fun k=>n - k) (0) (Nat.zero_le _) (BK hF [20,21,30,31] Z Z ⟨rfl,rfl,rfl,rfl,rfl,rfl,rfl,rfl,rfl,trivial⟩) ?_))))))));intro k hk;refine AF (AF (AI (AC Z Z (AC Z Z (J (CJ rfl ((List.length_map ..).trans hn) Try.underlying79 rfl) ?_)))))
   first | refine J (Es Z Z Z) ?_ | refine J (Ex Z Z Z) ?_
   refine AG ?_
   first | refine BC rfl (fun h39=>?_) (fun h39=>?_) | refine Az rfl (fun h39=>?_) (fun h39=>?_)
   ·refine Ak (AF (Bc (AF ?_)));have hkl:k<n:=Hl h39;have hkl2:k<(parts w).length:=by omega
    refine FH [[],[],[0,1],[0,1,2],[0,1,2,3],[0,1,2,3],[0,1,2,3,4,5],[0,1,2,3,4,5,6],[0,1,2,3,4,5,6,7],[0,1,2,3,4,5,6,7,8],[0,1,2,3,4,5,6,7,8,9],[0,1,2,3,4,5,6,7,8,9,10],[0,1,2,3,4,5,6,7,8,9,10],[0,1,2,3,4,5,6,7,8,9,10],[0,1,2,3,4,5,6,7,8,9,10,12,13],[0,1,2,3,4,5,6,7,8,9,10,12,13,14],[0,1,2,3,4,5,6,7,8,9,10],[0,1,2,3,4,5,6,7,8,9,10],[0,1,2,3,4,5,6,7,8,9,10,16,17],[0,1,2,3,4,5,6,7,8,9,10,16,17,18],[0,1,2,3,4,5,6,7,8,9,10,11,12,13,14,15,16,17,18,19],[0,1,2,3,4,5,6,7,8,9,10,11,12,13,14,15,16,17,18,19,20]] mixed rfl (Dk ?_)
    first | refine AE [9] [] Z Z (fun _=>AB (Ac Z Z)) ?_ | refine AH [9] Z Z (fun _=>AB (Ac Z Z)) ?_
    first | refine AE [11] [] Z Z (fun _=>AB (Ac Z Z)) ?_ | refine AH [11] Z Z (fun _=>AB (Ac Z Z)) ?_
    refine Dl 2 Z Z Z (B9 3 Z Z ?_)
    first | refine J (Gt Z Z Z) ?_ | refine J (Gs Z Z Z) ?_ | refine J (GY Z Z Z) ?_ | refine J (Gu Try.underlying3 Z Z Z) ?_ | refine J (Gw Try.underlying3 Z Z Z) ?_ | refine J (st_neqN Try.underlying3 Z Z) ?_ | refine J (Gr Try.underlying3 Z Z) ?_ | refine J (st_neqMz Try.underlying3 Z Z) ?_ | refine J (Gv Try.underlying3 Z Z Z) ?_ | refine J (st_neqFN Try.underlying3 Z Z) ?_
    refine AG ⟨rfl,?_⟩;refine B9 4 Z Z (AC Z Z ?_)
    first | refine JU 45 rfl (fun h45=>?_) (fun h45=>?_) | refine IR 45 rfl (fun h45=>?_) (fun h45=>?_)
    ·refine AG ⟨rfl,?_⟩;refine Dk ?_
     first | refine AE [5,45] [] Z Z (fun _=>Aw Z Z Z (Ac Z Z)) ?_ | refine AH [5,45] Z Z (fun _=>Aw Z Z Z (Ac Z Z)) ?_
     first | refine AE [11,45] [] Z Z (fun _=>Aw Z Z Z (Ac Z Z)) ?_ | refine AH [11,45] Z Z (fun _=>Aw Z Z Z (Ac Z Z)) ?_
     refine Dl 6 Z Z Z (B9 7 Z Z (A1 Z Z Z ?_))
     first | refine J (BN (k) Z Z (rfl) (hkl) Try.underlying99 rfl PG rfl) ?_ | refine J (BO (k) Z Z (rfl) (hkl) rfl Try.underlying99 PG rfl) ?_
     refine AG ⟨rfl,?_⟩;refine B9 8 Z Z (A1 Z Z Z ?_)
     first | refine J (AY Z Z on4 rfl) ?_ | refine J (AW Z Z Z on4 rfl) ?_ | refine J (AX Z Z (I9 hkl) rfl on4 rfl) ?_
     refine AG ⟨rfl,?_⟩;refine B9 9 Z Z (A1 Z Z Z ?_)
     first | refine J (EZ Z Z) ?_ | refine J (EY Z Z) ?_
     refine AG ⟨rfl,?_⟩;refine B9 10 Z Z (J (Fp Z Z Z Z) (AG ⟨rfl,?_⟩));refine B9 11 Z Z (AC Z Z ?_)
     first | refine JU 52 rfl (fun h52=>?_) (fun h52=>?_) | refine IR 52 rfl (fun h52=>?_) (fun h52=>?_)
     ·refine AG ⟨rfl,?_⟩;refine Dk ?_
      first | refine AE [1,52] [20] Z Z (fun _=>Aw Z Z Z (BS Z Z AL rfl)) ?_ | refine AE [1,52] [20] Z Z (fun _=>Aw Z Z Z (BQ Z Z AL Z Z Z)) ?_ | refine AE [1,52] [20] Z Z (fun _=>Aw Z Z Z (BR Z Z (rfl) rfl AL rfl)) ?_
      first | refine AE [4,52] [] Z Z (fun _=>Aw Z Z Z (Ac Z Z)) ?_ | refine AH [4,52] Z Z (fun _=>Aw Z Z Z (Ac Z Z)) ?_
      first | refine AE [9,52] [] Z Z (fun _=>Aw Z Z Z (Ac Z Z)) ?_ | refine AH [9,52] Z Z (fun _=>Aw Z Z Z (Ac Z Z)) ?_
      first | refine AE [54,55,52] [] Z Z (fun _=>Aw Z Z Z (BN (i) Z Z (rfl) (JV hil2) Try.underlying79 rfl CE rfl)) ?_ | refine AH [54,55,52] Z Z (fun _=>Aw Z Z Z (BN (i) Z Z (rfl) (JV hil2) Try.underlying79 rfl CE rfl)) ?_ | refine AE [54,55,52] [] Z Z (fun _=>Aw Z Z Z (BO (i) Z Z (rfl) (JV hil2) rfl Try.underlying79 CE rfl)) ?_ | refine AH [54,55,52] Z Z (fun _=>Aw Z Z Z (BO (i) Z Z (rfl) (JV hil2) rfl Try.underlying79 CE rfl)) ?_
      first | refine AE [56,52] [] Z Z (fun _=>Aw Z Z Z (AY Z Z AT rfl)) ?_ | refine AH [56,52] Z Z (fun _=>Aw Z Z Z (AY Z Z AT rfl)) ?_ | refine AE [56,52] [] Z Z (fun _=>Aw Z Z Z (AW Z Z Z AT rfl)) ?_ | refine AH [56,52] Z Z (fun _=>Aw Z Z Z (AW Z Z Z AT rfl)) ?_ | refine AE [56,52] [] Z Z (fun _=>Aw Z Z Z (AX Z Z (rfl) rfl AT rfl)) ?_ | refine AH [56,52] Z Z (fun _=>Aw Z Z Z (AX Z Z (rfl) rfl AT rfl)) ?_
      first | refine AE [4,52] [] Z Z (fun _=>Aw Z Z Z (Ac Z Z)) ?_ | refine AH [4,52] Z Z (fun _=>Aw Z Z Z (Ac Z Z)) ?_
      first | refine AE [11,52] [] Z Z (fun _=>Aw Z Z Z (Ac Z Z)) ?_ | refine AH [11,52] Z Z (fun _=>Aw Z Z Z (Ac Z Z)) ?_
      first | refine AE [58,59,52] [] Z Z (fun _=>Aw Z Z Z (BN (k) Z Z (rfl) (JV hkl2) Try.underlying79 rfl CE rfl)) ?_ | refine AH [58,59,52] Z Z (fun _=>Aw Z Z Z (BN (k) Z Z (rfl) (JV hkl2) Try.underlying79 rfl CE rfl)) ?_ | refine AE [58,59,52] [] Z Z (fun _=>Aw Z Z Z (BO (k) Z Z (rfl) (JV hkl2) rfl Try.underlying79 CE rfl)) ?_ | refine AH [58,59,52] Z Z (fun _=>Aw Z Z Z (BO (k) Z Z (rfl) (JV hkl2) rfl Try.underlying79 CE rfl)) ?_
      first | refine AE [60,52] [] Z Z (fun _=>Aw Z Z Z (AY Z Z AT rfl)) ?_ | refine AH [60,52] Z Z (fun _=>Aw Z Z Z (AY Z Z AT rfl)) ?_ | refine AE [60,52] [] Z Z (fun _=>Aw Z Z Z (AW Z Z Z AT rfl)) ?_ | refine AH [60,52] Z Z (fun _=>Aw Z Z Z (AW Z Z Z AT rfl)) ?_ | refine AE [60,52] [] Z Z (fun _=>Aw Z Z Z (AX Z Z (rfl) rfl AT rfl)) ?_ | refine AH [60,52] Z Z (fun _=>Aw Z Z Z (AX Z Z (rfl) rfl AT rfl)) ?_
      refine Dl 20 Z Z Z (B9 21 Z Z (A1 Z Z Z (J (DZ (KO w ((parts w).getD i []) ((parts w).getD k []) hl (hpl _) (hpl _)) Z Z) (AG ⟨rfl,?_⟩))));refine B9 22 Z Z (J (Fp Z Z Z Z) (AG ⟨rfl,?_⟩));refine Em ?_
      first | refine BC rfl (fun h63=>?_) (fun h63=>?_) | refine Az rfl (fun h63=>?_) (fun h63=>?_)
      ·refine AI (AD Z Z (AG (N9 10 (.d (An (decide (PE w ord i (k+1))))) rfl (by first | exact Ky (fun e=>h45 (by rw [e])) h52 ((Bz hw hil2 hkl2 (fun e=>h45 (by rw [e]))).1 h63) | exact PH (.inr (.inr fun hh=>h63 ((Bz hw hil2 hkl2 (fun e=>h45 (by rw [e]))).2 hh))) | exact PH (.inr (.inl (Classical.not_not.1 h52))) | exact PH (.inl (Int.ofNat.inj (Classical.not_not.1 h45)).symm)) (AI (AC Z Z (J (Cz Z Z (IntWalk.i64_in _ (by omega)) rfl) (AD Z Z (AG ?_))))))));exact ⟨k+1,hkl,by omega,BK hF [20,21,30,31] rfl (rfl) ⟨rfl,rfl,rfl,rfl,rfl,rfl,rfl,rfl,rfl,trivial⟩⟩
      ·refine Ak (N9 10 (.d (An (decide (PE w ord i (k+1))))) rfl (by first | exact Ky (fun e=>h45 (by rw [e])) h52 ((Bz hw hil2 hkl2 (fun e=>h45 (by rw [e]))).1 h63) | exact PH (.inr (.inr fun hh=>h63 ((Bz hw hil2 hkl2 (fun e=>h45 (by rw [e]))).2 hh))) | exact PH (.inr (.inl (Classical.not_not.1 h52))) | exact PH (.inl (Int.ofNat.inj (Classical.not_not.1 h45)).symm)) (AI (AC Z Z (J (Cz Z Z (IntWalk.i64_in _ (by omega)) rfl) (AD Z Z (AG ?_))))));exact ⟨k+1,hkl,by omega,BK hF [20,21,30,31] rfl (rfl) ⟨rfl,rfl,rfl,rfl,rfl,rfl,rfl,rfl,rfl,trivial⟩⟩
     ·refine AG ⟨rfl,?_⟩;refine Dk (AE [1,52] [] Z Z (fun _=>K6 Z Z Z Z) (AE [4,52] [] Z Z (fun _=>K6 Z Z Z Z) (AE [9,52] [] Z Z (fun _=>K6 Z Z Z Z) (AE [54,55,52] [] Z Z (fun _=>K6 Z Z Z Z) ?_))));refine AE [56,52] [] Z Z (fun _=>K6 Z Z Z Z) (AE [4,52] [] Z Z (fun _=>K6 Z Z Z Z) (AE [11,52] [] Z Z (fun _=>K6 Z Z Z Z) (AE [58,59,52] [] Z Z (fun _=>K6 Z Z Z Z) (AE [60,52] [] Z Z (fun _=>K6 Z Z Z Z) (Dl 20 Z Z Z (B9 21 Z Z (BA Z Z Z Z (AG ⟨rfl,?_⟩))))))));refine B9 22 Z Z (J (Fo Z Z Z Z) (AG ⟨rfl,?_⟩));refine Em (D0 Z Z (Ak (N9 10 (.d (An (decide (PE w ord i (k+1))))) rfl (by first | exact Ky (fun e=>h45 (by rw [e])) h52 ((Bz hw hil2 hkl2 (fun e=>h45 (by rw [e]))).1 h63) | exact PH (.inr (.inr fun hh=>h63 ((Bz hw hil2 hkl2 (fun e=>h45 (by rw [e]))).2 hh))) | exact PH (.inr (.inl (Classical.not_not.1 h52))) | exact PH (.inl (Int.ofNat.inj (Classical.not_not.1 h45)).symm)) (AI (AC Z Z (J (Cz Z Z (IntWalk.i64_in _ (by omega)) rfl) (AD Z Z (AG ?_))))))));exact ⟨k+1,hkl,by omega,BK hF [20,21,30,31] rfl (rfl) ⟨rfl,rfl,rfl,rfl,rfl,rfl,rfl,rfl,rfl,trivial⟩⟩
    ·refine AG ⟨rfl,?_⟩;refine Dk (AE [5,45] [] Z Z (fun _=>K6 Z Z Z Z) (AE [11,45] [] Z Z (fun _=>K6 Z Z Z Z) (Dl 6 Z Z Z (B9 7 Z Z (BA Z Z Z Z (AG ⟨rfl,?_⟩))))));refine B9 8 Z Z (BA Z Z Z Z (AG ⟨rfl,?_⟩));refine B9 9 Z Z (BA Z Z Z Z (AG ⟨rfl,?_⟩));refine B9 10 Z Z (J (Fo Z Z Z Z) (AG ⟨rfl,?_⟩));refine B9 11 Z Z (AC Z Z (AG ⟨rfl,?_⟩));refine Dk (AE [1,52] [] Z Z (fun _=>K6 Z Z Z Z) (AE [4,52] [] Z Z (fun _=>K6 Z Z Z Z) (AE [9,52] [] Z Z (fun _=>K6 Z Z Z Z) (AE [54,55,52] [] Z Z (fun _=>K6 Z Z Z Z) ?_))));refine AE [56,52] [] Z Z (fun _=>K6 Z Z Z Z) (AE [4,52] [] Z Z (fun _=>K6 Z Z Z Z) (AE [11,52] [] Z Z (fun _=>K6 Z Z Z Z) (AE [58,59,52] [] Z Z (fun _=>K6 Z Z Z Z) (AE [60,52] [] Z Z (fun _=>K6 Z Z Z Z) (Dl 20 Z Z Z (B9 21 Z Z (BA Z Z Z Z (AG ⟨rfl,?_⟩))))))));refine B9 22 Z Z (J (Fo Z Z Z Z) (AG ⟨rfl,?_⟩));refine Em (D0 Z Z (Ak (N9 10 (.d (An (decide (PE w ord i (k+1))))) rfl (by first | exact Ky (fun e=>h45 (by rw [e])) h52 ((Bz hw hil2 hkl2 (fun e=>h45 (by rw [e]))).1 h63) | exact PH (.inr (.inr fun hh=>h63 ((Bz hw hil2 hkl2 (fun e=>h45 (by rw [e]))).2 hh))) | exact PH (.inr (.inl (Classical.not_not.1 h52))) | exact PH (.inl (Int.ofNat.inj (Classical.not_not.1 h45)).symm)) (AI (AC Z Z (J (Cz Z Z (IntWalk.i64_in _ (by omega)) rfl) (AD Z Z (AG ?_))))))));exact ⟨k+1,hkl,by omega,BK hF [20,21,30,31] rfl (rfl) ⟨rfl,rfl,rfl,rfl,rfl,rfl,rfl,rfl,rfl,trivial⟩⟩
   ·refine ET (AF ?_);have hkn:n=k:=by have:=h39;omega
    subst hkn;refine AI (AC Z Z (AG ?_))
    first | refine BC rfl (fun h64=>?_) (fun h64=>?_) | refine Az rfl (fun h64=>?_) (fun h64=>?_)
    ·refine AI ?_;refine AC Z Z (AD Z Z (AG (AI (AC Z Z (J (DO Z Z (IntWalk.i64_in _ (by omega)) rfl) (NJ 30 (.d (Bt ((n:Int) - 1 - ((d+1:Nat):Int)))) rfl (eqI (by omega)) (AD Z Z (AG ?_))))))));exact ⟨(d+1,some i),⟨hdl,hie2▸lrd_hit hil2 ((Nw (Nx hw)).1 (by rw [hn];exact h64))⟩,by show n - (d+1)<n - d;omega,BK hF [20,21,30,31] rfl (rfl) ⟨rfl,rfl,rfl,rfl,rfl,rfl,rfl,trivial⟩⟩
    ·refine Ak (AI (AC Z Z (J (DO Z Z (IntWalk.i64_in _ (by omega)) rfl) (NJ 30 (.d (Bt ((n:Int) - 1 - ((d+1:Nat):Int)))) rfl (eqI (by omega)) (AD Z Z (AG ?_))))));exact ⟨(d+1,o),⟨hdl,hie2▸QQ (hie3▸hLA) (by rw [Bool.eq_false_iff];exact fun hc=>h64 (by have:=(Nw (Nx hw)).2 hc;rw [hn] at this;exact this))⟩,by show n - (d+1)<n - d;omega,BK hF [20,21,30,31] rfl (rfl) ⟨rfl,rfl,rfl,rfl,rfl,rfl,rfl,trivial⟩⟩
  ·refine ET (AF (AF ?_));have hdn:n - d=0:=by have:=h28;omega
   rw [hdn] at hLA;refine AI (AC Z Z ?_)
   first | refine J (Es Z Z Z) ?_ | refine J (Ex Z Z Z) ?_
   refine AG ?_
   first | refine BC rfl (fun h67=>?_) (fun h67=>?_) | refine Az rfl (fun h67=>?_) (fun h67=>?_)
   ·refine AF (AI (AD Z Z (AD Z Z (AG (At ?_)))));have hon:o=none:=by cases o with | none=>rfl | some x=>exact absurd h67 (by show ¬((x:Int)<0);omega)
    obtain ⟨g1,g2⟩:=Kx (hI.stop (by omega) (Ly fun i hi=>hLA.nn hon i (Nat.zero_le _) hi));exact ⟨_,[],[],Ar rfl,rfl,rfl,by rw [g2];rfl,rfl⟩
   ·refine Ak (AF ?_);obtain ⟨x,hx⟩:∃x,o=some x:=by cases o with | none=>exact absurd (show encR none<0 by decide) h67 | some x=>exact ⟨x,rfl⟩
    subst hx;obtain ⟨hx2,hxr,hxm⟩:=hLA.so x rfl;have hxl:x<n:=by omega
    have hnx:=E8 hx2 hxr (fun j hj=>hxm j (Nat.zero_le _) hj);obtain ⟨_,hxo,_⟩:=EN hnx;refine N9 8 (.d (natD x)) Z Z (AI (AC Z Z (AC Z Z ?_)))
    first | refine J (BN (x) Z Z (rfl) (hxl) Try.underlying99 rfl PG rfl) ?_ | refine J (BO (x) Z Z (rfl) (hxl) rfl Try.underlying99 PG rfl) ?_
    refine U (Zcs Z Z Z Z Z (by rw [Lh];exact hxl) Lg rfl PG) (AG (AF (AI (AC Z Z (AC Z Z ?_)))))
    first | refine J (BN (x) Z Z (rfl) (JV hx2) Try.underlying79 rfl CE rfl) ?_ | refine J (BO (x) Z Z (rfl) (JV hx2) rfl Try.underlying79 CE rfl) ?_
    first | refine J (AY Z Z AT rfl) ?_ | refine J (AW Z Z Z AT rfl) ?_ | refine J (AX Z Z (rfl) rfl AT rfl) ?_
    refine J (Mj zl76 pl76 Z Z Z) (U (Hm 40 zl76 Z Z Z Z) (U (Bq Z Z Z Z Z Z Z HD) ?_));refine AG (AF (AF (AI (AD Z Z (AG (Bc (DV 40 0 1 41 FM Z Z Z Z Z Z Z (F4 (α:=Nat×List Nat) (fun q=>⟨110,[(1,(.ptr 20 0 0)),(4,(.d (Cx (parts w)))),(5,(.own 21 0 n)),(6,(.own 30 0 gs.length)),(7,(.own 31 0 ord.length)),(8,(.d (natD x))),(12,(.ptr 40 0 0)),(13,(.d (natD q.1)))],[JH 20 w,(21,[.rowD 4 1 (J4 n (ord++ [x]))]),(30,[.rowD 76 2 (gs.map Hu)]),(31,[.rowD 3 1 (ord.map natD)]),(40,[.blk 76 [.d (stsD ((parts w).getD x [])),.own 41 0 q.2.length]]),(41,[.rowD 3 1 (q.2.map natD)])]⟩) (fun q=>q.1≤ord.length∧q.2=aftT w ord x q.1) (fun q=>ord.length - q.1) ((0,[])) (⟨Nat.zero_le _,rfl⟩) (BK hF [20,21,30,31,40,41] Z Z ⟨rfl,rfl,rfl,rfl,rfl,rfl,rfl,rfl,trivial⟩) ?_))))))));rintro ⟨p,acc⟩ ⟨hp,hacc⟩;dsimp only at hp hacc⊢;refine AF (AF (AI (AC Z Z (AC Z Z ?_))))
    first | refine J (JY rfl Try.underlying49 rfl) ?_ | refine J (CJ Z Z Try.underlying49 rfl) ?_ | refine J (JT rfl Try.underlying49 rfl) ?_ | refine J (JW rfl Try.underlying49 rfl) ?_ | refine J (JS rfl Try.underlying49 rfl) ?_ | refine J (JL rfl Try.underlying49 rfl) ?_
    first | refine J (Es Z Z Z) ?_ | refine J (Ex Z Z Z) ?_
    refine AG ?_
    first | refine BC rfl (fun h79=>?_) (fun h79=>?_) | refine Az rfl (fun h79=>?_) (fun h79=>?_)
    ·refine Ak (AF (Bc (AF ?_)));have hpl2:p<ord.length:=Hl h79;have hyl:C3 ord p<(parts w).length:=hI.good.lt _ (Ff hpl2);have hal:acc.length≤4096:=by have:=Mf w ord x p;rw [←hacc] at this;omega
     refine FH [[],[],[],[1,2],[1,2,3],[],[],[],[6,7],[6,7,8],[5,6,7,8,9],[5,6,7,8,9,10],[0,1,2,3,4,5,6,7,8,9,10,11]] mixed rfl (Dk ?_)
     first | refine AE [1] [20] Z Z (fun _=>AB (BS Z Z AL rfl)) ?_ | refine AE [1] [20] Z Z (fun _=>AB (BQ Z Z AL Z Z Z)) ?_ | refine AE [1] [20] Z Z (fun _=>AB (BR Z Z (rfl) rfl AL rfl)) ?_
     first | refine AE [4] [] Z Z (fun _=>AB (Ac Z Z)) ?_ | refine AH [4] Z Z (fun _=>AB (Ac Z Z)) ?_
     first | refine AE [8] [] Z Z (fun _=>AB (Ac Z Z)) ?_ | refine AH [8] Z Z (fun _=>AB (Ac Z Z)) ?_
     first | refine AE [83,84] [] Z Z (fun _=>AB (BN (x) Z Z (rfl) (JV hx2) Try.underlying79 rfl CE rfl)) ?_ | refine AH [83,84] Z Z (fun _=>AB (BN (x) Z Z (rfl) (JV hx2) Try.underlying79 rfl CE rfl)) ?_ | refine AE [83,84] [] Z Z (fun _=>AB (BO (x) Z Z (rfl) (JV hx2) rfl Try.underlying79 CE rfl)) ?_ | refine AH [83,84] Z Z (fun _=>AB (BO (x) Z Z (rfl) (JV hx2) rfl Try.underlying79 CE rfl)) ?_
     first | refine AE [85] [] Z Z (fun _=>AB (AY Z Z AT rfl)) ?_ | refine AH [85] Z Z (fun _=>AB (AY Z Z AT rfl)) ?_ | refine AE [85] [] Z Z (fun _=>AB (AW Z Z Z AT rfl)) ?_ | refine AH [85] Z Z (fun _=>AB (AW Z Z Z AT rfl)) ?_ | refine AE [85] [] Z Z (fun _=>AB (AX Z Z (rfl) rfl AT rfl)) ?_ | refine AH [85] Z Z (fun _=>AB (AX Z Z (rfl) rfl AT rfl)) ?_
     first | refine AE [4] [] Z Z (fun _=>AB (Ac Z Z)) ?_ | refine AH [4] Z Z (fun _=>AB (Ac Z Z)) ?_
     first | refine AE [7] [] Z Z (fun _=>AB (Ac Z Z)) ?_ | refine AH [7] Z Z (fun _=>AB (Ac Z Z)) ?_
     first | refine AE [13] [] Z Z (fun _=>AB (Ac Z Z)) ?_ | refine AH [13] Z Z (fun _=>AB (Ac Z Z)) ?_
     first | refine AE [88,89] [31] Z Z (fun _=>AB (BN (p) Z Z (rfl) (hpl2) Try.underlying49 rfl D1 rfl)) ?_ | refine AE [88,89] [31] Z Z (fun _=>AB (BO (p) Z Z (rfl) (hpl2) rfl Try.underlying49 D1 rfl)) ?_
     first | refine AE [90] [31] Z Z (fun _=>AB (AY Z Z Be rfl)) ?_ | refine AE [90] [31] Z Z (fun _=>AB (AW Z Z Z Be rfl)) ?_ | refine AE [90] [31] Z Z (fun _=>AB (AX Z Z (DU hpl2) rfl Be rfl)) ?_
     first | refine AE [87,91] [] Z Z (fun _=>AB (BN (C3 ord p) Z Z (rfl) (JV hyl) Try.underlying79 rfl CE rfl)) ?_ | refine AH [87,91] Z Z (fun _=>AB (BN (C3 ord p) Z Z (rfl) (JV hyl) Try.underlying79 rfl CE rfl)) ?_ | refine AE [87,91] [] Z Z (fun _=>AB (BO (C3 ord p) Z Z (rfl) (JV hyl) rfl Try.underlying79 CE rfl)) ?_ | refine AH [87,91] Z Z (fun _=>AB (BO (C3 ord p) Z Z (rfl) (JV hyl) rfl Try.underlying79 CE rfl)) ?_
     first | refine AE [92] [] Z Z (fun _=>AB (AY Z Z AT rfl)) ?_ | refine AH [92] Z Z (fun _=>AB (AY Z Z AT rfl)) ?_ | refine AE [92] [] Z Z (fun _=>AB (AW Z Z Z AT rfl)) ?_ | refine AH [92] Z Z (fun _=>AB (AW Z Z Z AT rfl)) ?_ | refine AE [92] [] Z Z (fun _=>AB (AX Z Z (rfl) rfl AT rfl)) ?_ | refine AH [92] Z Z (fun _=>AB (AX Z Z (rfl) rfl AT rfl)) ?_
     refine Dl 12 Z Z Z (B9 13 Z Z (J (DZ (KO w ((parts w).getD x []) ((parts w).getD (C3 ord p) []) hl (hpl _) (hpl _)) Z Z) (AG ⟨rfl,?_⟩)));refine Em ?_
     first | refine BC rfl (fun h94=>?_) (fun h94=>?_) | refine Az rfl (fun h94=>?_) (fun h94=>?_)
     ·refine AI ?_
      first | refine J (A4 rfl GX Z Z Z) ?_ | refine J (A6 rfl GX Z Z Z) ?_ | refine J (A7 rfl GX Z Z Z) ?_ | refine J (A5 rfl GX Z Z Z) ?_ | refine J (A3 rfl GX Z Z Z) ?_
      first | refine J (AY Z Z Ab rfl) ?_ | refine J (AW Z Z Z Ab rfl) ?_ | refine J (AX Z Z (rfl) rfl Ab rfl) ?_
      refine AC Z Z (U (Gx 42 FM Z Z Z Z Z Z Z Z) ?_)
      first | refine U (JZ (acc) ([p]) Z Z Z Z Z Z Z Z FM (by simp only [List.length_singleton];omega) Z Z Z Z) ?_ | refine U (K5 (acc) ([p]) Z Z Z Z Z Z (fun _=>rfl) FM (by simp only [List.length_singleton];omega) Z Z Z Z) ?_
      first | refine J (A4 rfl GX Z Z Z) ?_ | refine J (A6 rfl GX Z Z Z) ?_ | refine J (A7 rfl GX Z Z Z) ?_ | refine J (A5 rfl GX Z Z Z) ?_ | refine J (A3 rfl GX Z Z Z) ?_
      refine U (Bq Z Z Z Z Z Z Z Ci) (AG (AI (AC Z Z (J (Cz Z Z (IntWalk.i64_in _ (by omega)) rfl) (AD Z Z (AG ?_))))));exact ⟨(p+1,acc++ [p]),⟨hpl2,by show _=aftT w ord x (p+1);rw [Qz ((Bz hw hx2 hyl (fun e=>hxo (by rw [e];exact Ff hpl2))).1 h94),hacc]⟩,by show ord.length - (p+1)<ord.length - p;omega,BK hF [20,21,30,31,40,41] rfl (rfl) ⟨rfl,rfl,rfl,rfl,rfl,rfl,rfl,rfl,trivial⟩⟩
     ·refine Ak (AI (AC Z Z (J (Cz Z Z (IntWalk.i64_in _ (by omega)) rfl) (AD Z Z (AG ?_)))));exact ⟨(p+1,acc),⟨hpl2,by show _=aftT w ord x (p+1);rw [PA (fun hh=>h94 ((Bz hw hx2 hyl (fun e=>hxo (by rw [e];exact Ff hpl2))).2 hh)),hacc]⟩,by show ord.length - (p+1)<ord.length - p;omega,BK hF [20,21,30,31,40,41] rfl (rfl) ⟨rfl,rfl,rfl,rfl,rfl,rfl,rfl,rfl,trivial⟩⟩
    ·refine ET (AF ?_);have hpe:p=ord.length:=by have:=h79;omega
     have hac:acc=ES (depL w) ord x ord.length:=by rw [hacc,hpe];rfl
     refine CO (ys:=acc.map natD) 40 0 1 41 Z Z Z (Nat.le_of_eq (by rw [List.length_map])) (List.take_of_length_le (by rw [List.length_map];exact Nat.le_refl _)) Z Z Z Z Z Z ?_;rw [hac];refine AI (AC Z Z ?_)
     first | refine J (BS Z Z rw76 rfl) ?_ | refine J (BQ Z Z rw76 Z Z Z) ?_ | refine J (BR Z Z (rfl) rfl rw76 rfl) ?_
     refine U (Gx 43 sl73 Z Z Z Z Z Z Z Z) ?_
     first | refine U (JZ (gs) ([(⟨(parts w).getD x [],ES (depL w) ord x ord.length⟩:Grp)]) Z Z Z Z Z Z Z Z sl73 (by simp only [List.length_singleton];omega) Z Z Z Z) ?_ | refine U (K5 (gs) ([(⟨(parts w).getD x [],ES (depL w) ord x ord.length⟩:Grp)]) Z Z Z Z Z Z (fun _=>rfl) sl73 (by simp only [List.length_singleton];omega) Z Z Z Z) ?_
     refine AD Z Z (AG (AI (AC Z Z (AC Z Z (U (Gx 44 FM Z Z Z Z Z Z Z Z) ?_)))))
     first | refine U (JZ (ord) ([x]) Z Z Z Z Z Z Z Z FM (by simp only [List.length_singleton];omega) Z Z Z Z) ?_ | refine U (K5 (ord) ([x]) Z Z Z Z Z Z (fun _=>rfl) FM (by simp only [List.length_singleton];omega) Z Z Z Z) ?_
     refine AD Z Z (AG ?_);exact ⟨(ord++ [x],gs++ [⟨(parts w).getD x [],ES (depL w) ord x ord.length⟩]),⟨hI.next (by omega) hnx,by show _=grpS w (ord++ [x]);rw [KM,hgs]⟩,by show n - (ord++ [x]).length<n - ord.length;rw [List.length_append,List.length_singleton];omega,BK hF [20,21,30,31] rfl (rfl) ⟨rfl,rfl,rfl,rfl,rfl,trivial⟩⟩
 ·refine ET (AF ?_);obtain ⟨g1,g2⟩:=IJ (hI.fin (by have h1:=h23;have h2:gs.length=ord.length:=(by rw [hgs,FW]);omega));refine Zcn (emb:=Hu) 6 30 gs Z Z Z Z Z Z Z (AI (AC Z Z (AD Z Z (AD Z Z (AG (At ?_))))));exact ⟨_,[],[],Ar rfl,rfl,rfl,by rw [if_pos g2,g1,hgs],rfl⟩
end Go.Proofs.Ytlmedakidpaeeaa
