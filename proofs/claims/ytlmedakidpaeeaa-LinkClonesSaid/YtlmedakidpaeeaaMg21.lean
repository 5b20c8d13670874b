/- Layer 27: Remove, walked. -/
import Derived.Test.YtlmedakidpaeeaaMg20
namespace Go.Proofs.Ytlmedakidpaeeaa
open Go.RowKit
set_option maxRecDepth 100000
theorem eE_del {E:List (St×Nat)} {x:St} (hn:(E.map Prod.fst).Nodup):NO (eE E) x=eE (E.filter fun p=>!decide (p.1=x)):=by
 unfold NO
 induction E with
 | nil=>rfl
 | cons p r ih=>
  obtain ⟨h1,h2⟩:p.1∉r.map Prod.fst∧(r.map Prod.fst).Nodup:=List.nodup_cons.1 hn;show List.eraseIdx ((p.1,some p.2)::eE r) (if x=p.1 then 0 else D8 (eE r) x+1)=_
  by_cases e:x=p.1
  ·subst e;rw [if_pos rfl,List.filter_cons,List.filter_eq_self.2 fun y hy=>by simp;exact fun e=>h1 (by rw [←e];exact List.mem_map_of_mem hy)]
   simp
  ·have e':¬p.1=x:=fun h=>e h.symm;rw [if_neg e,List.eraseIdx_cons_succ,ih h2,List.filter_cons]
   simp [e']
def O2 (l:Lk) (L:List Lk):List Lk:=L.filter fun y=>!decide (y=l)
def Jb (x:St) (L:List Lk):List Lk:=O2 ⟨1,x⟩ (O2 ⟨0,x⟩ L)
theorem MK {l y:Lk} {L:List Lk}:y∈O2 l L↔y∈L∧y≠l:=by unfold O2;rw [List.mem_filter];simp
theorem QY {x:St} {L:List Lk} {l:Lk}:l∈Jb x L↔l∈L∧l≠⟨0,x⟩∧l≠⟨1,x⟩:=by unfold Jb;rw [MK,MK,and_assoc]
theorem Kl {l:Lk} {L:List Lk} (h:L.Nodup):(O2 l L).Nodup:=List.Nodup.sublist List.filter_sublist h
theorem cutL_nd {x:St} {L:List Lk} (h:L.Nodup):(Jb x L).Nodup:=Kl (Kl h)
abbrev cutE (x:St) (E:List (St×Nat)):List (St×Nat):=E.filter fun p=>!decide (p.1=x)
theorem FU {x:St} {E:List (St×Nat)} {p:St×Nat}:p∈cutE x E↔p∈E∧p.1≠x:=by rw [List.mem_filter];simp
theorem LW.cut {E:List (St×Nat)} {lk lk':Nat ->List Lk} {w:Ws} (h:LW E lk w) (hw:BV w) (x:St) (hk:∀p∈cutE x E,lk' p.2=Jb x (lk p.2)):LW (cutE x E) lk' (Ev w x):=by
 have hm:∀p∈cutE x E,p∈E∧p.1≠x:=fun p hp=>FU.1 hp;refine ⟨List.Nodup.sublist (List.Sublist.map _ List.filter_sublist) h.kd,fun y=>?_,fun p hp=>?_,fun p hp l=>?_⟩
 ·show y∈(cutE x E).map Prod.fst↔y∈w.R.filter _;rw [List.mem_map,List.mem_filter,←h.ks y,List.mem_map]
  constructor
  ·rintro ⟨p,hp,rfl⟩;exact ⟨⟨p,(hm p hp).1,rfl⟩,by simpa using (hm p hp).2⟩
  ·rintro ⟨⟨p,hp,rfl⟩,hy⟩;exact ⟨p,FU.2 ⟨hp,by simpa using hy⟩,rfl⟩
 ·rw [hk p hp];exact cutL_nd (h.ld p (hm p hp).1)
 ·rw [hk p hp,QY,h.ls p (hm p hp).1 l];show _↔_∈w.K.filter _;rw [List.mem_filter];refine and_congr_right fun hK=>?_;have ht:=(hw.lk _ hK).2.2.2;have h1:p.1≠x:=(hm p hp).2;simp only [Bool.and_eq_true,Bool.not_eq_true',decide_eq_false_iff_not]
  constructor
  ·rintro ⟨g1,g2⟩;refine ⟨h1,fun e=>?_⟩;rcases ht with ht | ht
   ·exact g1 (Lk.eq_iff.2 ⟨ht,e⟩)
   ·exact g2 (Lk.eq_iff.2 ⟨ht,e⟩)
  ·rintro ⟨_,g⟩;exact ⟨fun e=>g (by rw [e]),fun e=>g (by rw [e])⟩
theorem LR.del {N:MF} {b m:Nat} {E:List (St×Nat)} {lk:Nat ->List Lk} (h:LR N b m E lk) (x:St):LR (BD N m (.map none (CR (cutE x E)))) b m (cutE x E) lk:=by
 have h3:b≠m:=fun e=>by have:=h.cell;rw [e,h.top] at this;cases this
 have h6:∀p∈E,p.2≠m:=fun p hp e=>h.ne (by rw [←e];exact List.mem_map_of_mem hp);refine ⟨by rw [Dr h3];exact h.cell,D3 _ _ _,fun p hp=>?_,List.Nodup.sublist (List.Sublist.map _ List.filter_sublist) h.nd,fun hh=>h.ne ?_⟩
 ·have hp':=(FU.1 hp).1;rw [Dr (h6 p hp')];exact h.sub p hp'
 ·obtain ⟨p,hp,e⟩:=List.mem_map.1 hh;rw [←e];exact List.mem_map_of_mem (FU.1 hp).1
structure LC (N:MF) (b m:Nat) (bs:Option (List Nat×Nat)) (E:List (St×Nat)) (lk:Nat ->List Lk):Prop where
 cell:N b=some (.cells 68 [mD m])
 top:N m=some (.map bs (CR E))
 sub:∀p∈E,N p.2=some (.map none (CI (lk p.2)))
theorem LC.set {M:MF} {b m:Nat} {bs:Option (List Nat×Nat)} {E:List (St×Nat)} {lk:Nat ->List Lk} (h:LC M b m bs E lk) (hne:m∉E.map Prod.snd) {x:St} {hd:Nat} (hm:(x,hd)∈E) (L:List Lk):LC (BD M hd (.map none (CI L))) b m bs E (An lk hd L):=by
 have h1:b≠hd:=fun e=>by have:=h.sub _ hm;rw [←e,h.cell] at this;cases this
 have h2:m≠hd:=fun e=>hne (by rw [e];exact List.mem_map.2 ⟨_,hm,rfl⟩);refine ⟨by rw [Dr h1];exact h.cell,by rw [Dr h2];exact h.top,fun p hp=>?_⟩
 by_cases e:p.2=hd
 ·rw [e,D3,Ds]
 ·rw [Dr e,E6 e];exact h.sub p hp
theorem LR.lc {N:MF} {b m:Nat} {E:List (St×Nat)} {lk:Nat ->List Lk} (h:LR N b m E lk) (bs:Option (List Nat×Nat)):LC (BD N m (.map bs (CR E))) b m bs E lk:=by
 have h3:b≠m:=fun e=>by have:=h.cell;rw [e,h.top] at this;cases this
 have h6:∀p∈E,p.2≠m:=fun p hp e=>h.ne (by rw [←e];exact List.mem_map_of_mem hp);exact ⟨by rw [Dr h3];exact h.cell,D3 _ _ _,fun p hp=>by rw [Dr (h6 p hp)];exact h.sub p hp⟩
theorem LC.lr {N:MF} {b m:Nat} {bs:Option (List Nat×Nat)} {E:List (St×Nat)} {lk:Nat ->List Lk} (h:LC N b m bs E lk) (hnd:(E.map Prod.snd).Nodup) (hne:m∉E.map Prod.snd):LR (BD N m (.map none (CR E))) b m E lk:=by
 have h3:b≠m:=fun e=>by have:=h.cell;rw [e,h.top] at this;cases this
 have h6:∀p∈E,p.2≠m:=fun p hp e=>hne (by rw [←e];exact List.mem_map_of_mem hp);exact ⟨by rw [Dr h3];exact h.cell,D3 _ _ _,fun p hp=>by rw [Dr (h6 p hp)];exact h.sub p hp,hnd,hne⟩
def hdL (e:St×Option Nat):Nat:=e.2.getD 0
theorem eE_hd (E:List (St×Nat)):(eE E).map hdL=E.map Prod.snd:=by rw [List.map_map];rfl
theorem Qz {x:St} {dn:List Nat} {hd:Nat} {lk1 lk2:Nat ->List Lk} (hD:∀h∈dn,lk2 h=Jb x (lk1 h)):∀h∈dn++ [hd],An lk2 hd (Jb x (lk1 hd)) h=Jb x (lk1 h):=fun h hh=>by
 by_cases e:h=hd
 ·rw [e,Ds]
 ·rw [E6 e];exact hD h ((List.mem_append.1 hh).resolve_right fun e2=>e (List.mem_singleton.1 e2))
theorem Qy {dn:List Nat} {hd:Nat} {lk1 lk2:Nat ->List Lk} {L:List Lk} (hU:∀h,h∉dn ->lk2 h=lk1 h):∀h,h∉dn++ [hd] ->An lk2 hd L h=lk1 h:=fun h hh=>by
 rw [E6 fun e=>hh (by rw [e];simp)];exact hU h fun e=>hh (List.mem_append_left _ e)
theorem un_r {M N:MF} {i:Nat} {o:A6} (hd:∀i m m',M i=some m ->N i=some m' ->False) (h:N i=some o):munion M N i=some o:=by
 refine Gn ?_ h
 cases hm:M i with
 | none=>rfl
 | some m=>exact (hd i m o hm h).elim
theorem rem9 {w:Ws} {x:St} (h:x∉w.R):remW w x=(w,9):=by unfold remW;rw [if_pos h]
theorem rem0 {w:Ws} {x:St} (h:x∈w.R):remW w x=if acyW (Ev w x)=true then (Ev w x,0) else (w,26):=by unfold remW;rw [if_neg fun hh=>hh h]
theorem Pp {M:MF} {b:Nat} {w:Ws} (h:BR M b w) (hw:BV w) (hK:w.K.length≤1000000) (x:St):AR Try.prog 26 [.d (pD b 0),.d (AZ x)] [(40,[.multi M])] fun r H'=>∃M',r= .d (Bv (remW w x).2)∧H'=[(40,[.multi M'])]∧BR M' b (remW w x).1:=by
 have hrep:=h;obtain ⟨m,E,lk,hr,hl⟩:=h;refine DA Try.func26 Z Z Try.ntmps26 Z Z Z fun F hF=>(AG (AI (AE Z Z (AF (AG (AG (AI (AC Z Z ?_))))))))
 first | refine J (EZ Z Z Z) ?_ | refine J (Ea Z Z Z) ?_ | refine J (EF Z Z Z) ?_ | refine J (E0 Try.underlying23 Z Z Z) ?_ | refine J (E5 Try.underlying23 Z Z Z) ?_ | refine J (E4 Try.underlying23 Z Z) ?_ | refine J (E9 Try.underlying23 Z Z) ?_ | refine J (E8 Try.underlying23 Z Z) ?_ | refine J (E3 Try.underlying23 Z Z Z) ?_ | refine J (E7 Try.underlying23 Z Z) ?_
 refine AF (D4 rfl (rfl) (Ai (AG (AG (AI (AC Z Z (AC Z Z (U (GD (Iz hrep x) rfl [40] ⟨rfl,trivial⟩ Z Z Z Z Z Z Z Z Z) ?_))))))))
 first | refine J (EG Z Z) ?_ | refine J (EE Z Z) ?_
 refine AF ?_
 first | refine BA rfl (fun h15=>?_) (fun h15=>?_) | refine Az rfl (fun h15=>?_) (fun h15=>?_)
 ·refine AG (AI (AE Z Z (AF (Au ?_))));exact ⟨_,[40],_,Aq rfl,rfl,rfl,M,by rw [rem9 h15],rfl,by rw [rem9 h15];exact hrep⟩
 ·refine Ai (AG (AI (AC Z Z ?_)));refine H7 (IZ (OD hrep) rfl [40,41] ⟨rfl,rfl,trivial⟩ Z Z Z Z (fun r H' ⟨b1,M1,e1,e2,_⟩=>by subst e1 e2;exact ⟨rfl,rfl,rfl⟩) rfl) rfl ?_;rintro _ ⟨r,H',⟨b1,N0,e1,e2,hc⟩,rfl⟩;subst e1 e2;refine AE Z Z (AF (AG ?_));have hxR:x∈w.R:=Classical.not_not.1 h15;obtain ⟨m1,E1,lk1,hr1,hl1⟩:=hc;refine AI (AC Z Z ?_)
  first | refine J (FJ Z Z) ?_ | refine J (FG Z Z) ?_ | refine J (FK Z Z) ?_ | refine J (FH Z Z) ?_
  first | refine J (A1 rfl A5 Z Z Z) ?_ | refine J (A3 rfl A5 Z Z Z) ?_ | refine J (A4 rfl A5 Z Z Z) ?_ | refine J (A2 rfl A5 Z Z Z) ?_ | refine J (A0 rfl A5 Z Z Z) ?_
  refine J (Ft (f:=41) Z Z hr1.cell rfl Bk rfl) (AC Z Z (U (Ga (f:=41) (eE E1) x none Z Z hr1.top rfl Bu Ec rfl) (AF (AG (AG ?_)))));rw [eE_del hl1.kd];have hr2:=hr1.del x
  obtain ⟨N1,hN1⟩:∃N1,BD N0 m1 (.map none (CR (cutE x E1)))=N1:=⟨_,rfl⟩
  rw [hN1] at hr2⊢;refine Zcx 41 m1 rfl hr2.top (fun _ _=>rfl) fun B c hB hBn=>?_;have hc2:=hr2.lc (some (B,c))
  obtain ⟨N2,hN2⟩:∃N2,BD N1 m1 (.map (some (B,c)) (CR (cutE x E1)))=N2:=⟨_,rfl⟩
  rw [hN2] at hc2⊢;refine AI (AC Z Z ?_)
  first | refine J (FJ Z Z) ?_ | refine J (FG Z Z) ?_ | refine J (FK Z Z) ?_ | refine J (FH Z Z) ?_
  first | refine J (A1 rfl A5 Z Z Z) ?_ | refine J (A3 rfl A5 Z Z Z) ?_ | refine J (A4 rfl A5 Z Z Z) ?_ | refine J (A2 rfl A5 Z Z Z) ?_ | refine J (A0 rfl A5 Z Z Z) ?_
  refine J (Ft (f:=41) Z Z hc2.cell rfl Bk rfl) (U (Zct 1 (f:=41) Z Z hc2.top rfl Bu Z Z Z Z) (AF (B7 (FC (α:=List Nat×List Nat×(Nat ->List Lk)×MF) (fun q=>⟨52,[(0,.d (pD b 0)),(1,.d (AZ x)),(5,(.d (pD b1 0))),(27,(.ptr 1 0 0))],[(1,[.iter 41 m1 c q.1]),(40,[.multi M]),(41,[.multi q.2.2.2])]⟩) (fun q=>LC q.2.2.2 b1 m1 (some (B,c)) (cutE x E1) q.2.2.1∧(q.2.1++(Ba (eE (cutE x E1)) B q.1).map hdL).Perm ((cutE x E1).map Prod.snd)∧(∀h∈q.2.1,q.2.2.1 h=Jb x (lk1 h))∧∀h,h∉q.2.1 ->q.2.2.1 h=lk1 h) (fun q=>(Ba (eE (cutE x E1)) B q.1).length) (([],[],lk1,N2)) (⟨hc2,by show ([]++(Ba (eE (cutE x E1)) B []).map hdL).Perm _;rw [Zcw (by simpa [Ad] using hB),eE_hd];exact List.Perm.refl _,fun h hh=>(by cases hh),fun _ _=>rfl⟩) (BC hF [1,40,41] Z Z ⟨rfl,rfl,rfl,rfl,trivial⟩) ?_))));rintro ⟨seen,dn,lk2,N⟩ ⟨hC,hP,hD,hU⟩;dsimp only at hC hP hD hU⊢;refine AG (AI (DG (eE (cutE x E1)) Z Z Z (hC.top) rfl (fun hl28=>?_) (fun j28 b28 k28 v28 hm28 hb28 hB28 hp28=>⟨_,rfl,?_⟩)))
  ·rw [hl28] at hP;refine C1 41 m1 rfl hC.top rfl ?_
   first | refine J (B4 Z Z Z) ?_ | refine J (B5 Z Z Z) ?_
   refine AF (AG (D4 Z Z (Dq (AG (AG ?_)))));refine a_only [40,41] hF Z Z ?_;have hr3:=hC.lr hr2.nd hr2.ne;have hP':dn.Perm ((cutE x E1).map Prod.snd):=by simpa using hP
   have hrep3:BR _ b1 (Ev w x):=⟨m1,_,lk2,hr3,hl1.cut hw x fun p hp=>hD p.2 (hP'.mem_iff.2 (List.mem_map_of_mem hp))⟩
   obtain ⟨N3,hN3⟩:∃N3,BD N m1 (.map none (CR (cutE x E1)))=N3:=⟨_,rfl⟩
   rw [hN3] at hr3 hrep3⊢;have hK3:(Ev w x).K.length≤1000000:=Nat.le_trans (List.length_filter_le _ _) hK;have ho:=(Gj hrep3 (hw.cut x) hK3).by [(40,41)] rfl;refine AI (AC Z Z (U (GD ho rfl [41] ⟨rfl,trivial⟩ Z Z Z Z Z Z Z Z Z) (AC Z Z ?_)))
   first | refine J (B4 Z Z Z) ?_ | refine J (B5 Z Z Z) ?_
   first | refine J (B4 Z Z Z) ?_ | refine J (B5 Z Z Z) ?_
   refine AE Z Z (AE Z Z (AF (AG (AI (AC Z Z ?_)))))
   first | refine J (EG Z Z) ?_ | refine J (EE Z Z) ?_
   refine AF ?_
   first | refine BA rfl (fun h44=>?_) (fun h44=>?_) | refine Az rfl (fun h44=>?_) (fun h44=>?_)
   ·refine AG (AI (AE Z Z (AF (Au ?_))));have hac:acyW (Ev w x)=false:=by simpa using h44
    have h26:remW w x=(w,26):=by rw [rem0 hxR,hac];rfl
    exact ⟨_,[40],_,Aq rfl,rfl,rfl,M,by rw [h26],rfl,by rw [h26];exact hrep⟩
   ·refine Ai (AG (AI (AC Z Z (AC Z Z ?_))))
    first | refine J (FJ Z Z) ?_ | refine J (FG Z Z) ?_ | refine J (FK Z Z) ?_ | refine J (FH Z Z) ?_
    first | refine J (A1 rfl A5 Z Z Z) ?_ | refine J (A3 rfl A5 Z Z Z) ?_ | refine J (A4 rfl A5 Z Z Z) ?_ | refine J (A2 rfl A5 Z Z Z) ?_ | refine J (A0 rfl A5 Z Z Z) ?_
    refine J (Ft (f:=41) Z Z hr3.cell rfl Bk rfl) ?_
    first | refine J (FJ Z Z) ?_ | refine J (FG Z Z) ?_ | refine J (FK Z Z) ?_ | refine J (FH Z Z) ?_
    first | refine J (A1 rfl A5 Z Z Z) ?_ | refine J (A3 rfl A5 Z Z Z) ?_ | refine J (A4 rfl A5 Z Z Z) ?_ | refine J (A2 rfl A5 Z Z Z) ?_ | refine J (A0 rfl A5 Z Z Z) ?_
    refine U (OS (f:=40) Z Z Z Z (hr.cell) (by exact Nat.zero_lt_one) rfl sz66) (AF (AG (a_merge 41 40 Z Z Z Z Z Z Z Z Z fun hdis=>(AI (AE Z Z (AF (Au ?_)))))));have hac:acyW (Ev w x)=true:=by simpa using h44
    have h00:remW w x=(Ev w x,0):=by rw [rem0 hxR,if_pos hac]
    exact ⟨_,[40],_,Aq rfl,rfl,rfl,_,by rw [h00],rfl,by rw [h00];exact ⟨m1,_,lk2,⟨Gp (D3 _ _ _),un_r hdis hr3.top,fun p hp=>un_r hdis (hr3.sub p hp),hr3.nd,hr3.ne⟩,hl1.cut hw x fun p hp=>hD p.2 (hP'.mem_iff.2 (List.mem_map_of_mem hp))⟩⟩
  ·first | refine J (B4 Z Z Z) ?_ | refine J (B5 Z Z Z) ?_
   refine AF (AG (IE Z Z (Ai (B7 (AG ?_)))));obtain ⟨hd,hpe,hve⟩:=FV hm28;subst hve
   have hdn:hd∉dn:=fun hh=>by
    have h1:=hP.nodup_iff.2 hr2.nd;exact (List.nodup_append.1 h1).2.2 _ hh _ ((hp28.map hdL).mem_iff.2 (by simp [hdL])) rfl
   have hlk:=hU hd hdn;have hsub:=hC.sub _ hpe;have hE1:(k28,hd)∈E1:=(FU.1 hpe).1;have hnd:=hl1.ld _ hE1;rw [show lk2 (k28,hd).2=lk1 hd from hlk] at hsub;refine AI (J (Zcv (eE (cutE x E1)) j28 b28 Z Z Z (hC.top) hm28 hb28 rfl) ?_)
   first | refine J (B4 Z Z Z) ?_ | refine J (B5 Z Z Z) ?_
   refine AE Z Z (AF (AG (AI (AC Z Z (AC Z Z (J (Ml LV Pu Z Z Z) (U (Ga (f:=41) (Ck (lk1 hd)) ⟨0,x⟩ true Z Z hsub rfl FT Hw rfl) (AF ?_))))))));rw [IQ hnd];refine AI (AC Z Z (AC Z Z (J (Ml LV Pu Z Z Z) (U (Ga (f:=41) (Ck (O2 ⟨0,x⟩ (lk1 hd))) ⟨1,x⟩ true Z Z (by exact D3 _ _ _) rfl FT Hw rfl) ?_))));rw [IQ (Kl hnd)];refine AF ?_;exact ⟨(seen++ [b28],dn++ [hd],An lk2 hd (Jb x (lk1 hd)),_),⟨by have:=hC.set hr2.ne hpe (Jb x (lk1 hd));rw [←Mn] at this;exact this,DT hP (y:=[hd]) (by simpa [hdL] using hp28.map hdL),by exact Qz hD,by exact Qy hU⟩,by show (Ba (eE (cutE x E1)) B (seen++ [b28])).length<(Ba (eE (cutE x E1)) B seen).length;rw [hp28.length_eq];exact Nat.lt_succ_self _,BC hF [1,40,41] rfl (rfl) ⟨rfl,rfl,rfl,rfl,trivial⟩⟩
abbrev Nt (l:Lw):D:= .agg [AZ l.f,Bv l.t,AZ l.r]
abbrev It (l:List Lw):D:= .sl none (l.map Nt)
abbrev Jh (w:Ws):D:= .agg [stsD w.R,It w.K]
def lwC (l:Lw):List Value:=[Ke l.f,.int .i64 l.t,Ke l.r]
abbrev lwT:List TypeDesc:=[.string,.int .i64,.string]
theorem Lw.eq_iff {a b:Lw}:a=b↔a.f=b.f∧a.t=b.t∧a.r=b.r:=by cases a;cases b;simp
theorem Q0 (a b:Lw):BB (lwC a) (lwC b)=decide (a=b):=by
 simp only [lwC,BB,JG,JF,Lw.eq_iff,Bool.and_true,Bool.decide_and,Bool.and_assoc]
theorem Gs (a:Lw):Ao lwT (lwC a):=DX trivial (DX rfl (DX trivial Jz))
theorem Bo (l:List St) (x:St) (hl:l.length≤2000000):B3 Try.prog 40 [.d (stsD l),.d (AZ x)] (Ak (decide (x∈l))):=by
 refine DA Try.func40 Z Z Try.ntmps40 Z Z Z fun F hF=>(AG (AI ?_));refine AE Z Z (AF (AG (AG (AI (AE Z Z (AF (B7 (Na (α:=Nat) (fun k=>⟨18,[(0,.d (stsD l)),(1,.d (AZ x)),(5,(.d (natD k)))],[]⟩) (fun k=>k≤l.length∧x∉l.take k) (fun k=>l.length - k) (0) (⟨Nat.zero_le _,by simp⟩) (Fj ⟨rfl,rfl,rfl,trivial⟩) ?_))))))));rintro k ⟨hk,hx⟩;refine AG (AG (AI (AC Z Z (AC Z Z (J (Br rfl (List.length_map ..) Try.underlying32 rfl) ?_)))))
 first | refine J (Ed Z Z Z) ?_ | refine J (Ef Z Z Z) ?_
 refine AF ?_
 first | refine BA rfl (fun h9=>?_) (fun h9=>?_) | refine Az rfl (fun h9=>?_) (fun h9=>?_)
 ·refine Ai (AG (B7 (AG ?_)));have hkl:k<l.length:=HB h9;refine AI (AC Z Z (AC Z Z ?_))
  first | refine J (BE (k) Z Z (rfl) (CT hkl) Try.underlying32 rfl DO rfl) ?_ | refine J (BF (k) Z Z (rfl) (CT hkl) rfl Try.underlying32 DO rfl) ?_
  first | refine J (AX Z Z AY rfl) ?_ | refine J (AU Z Z Z AY rfl) ?_ | refine J (AW Z Z (rfl) rfl AY rfl) ?_
  refine AC Z Z ?_
  first | refine J (EZ Z Z Z) ?_ | refine J (Ea Z Z Z) ?_ | refine J (EF Z Z Z) ?_ | refine J (E0 Try.underlying9 Z Z Z) ?_ | refine J (E5 Try.underlying9 Z Z Z) ?_ | refine J (E4 Try.underlying9 Z Z) ?_ | refine J (E9 Try.underlying9 Z Z) ?_ | refine J (E8 Try.underlying9 Z Z) ?_ | refine J (E3 Try.underlying9 Z Z Z) ?_ | refine J (E7 Try.underlying9 Z Z) ?_
  refine AF ?_
  first | refine BA rfl (fun h17=>?_) (fun h17=>?_) | refine Az rfl (fun h17=>?_) (fun h17=>?_)
  ·refine AG (AI (AE Z Z (AF (Au ?_))));exact ⟨_,[],[],Aq rfl,rfl,rfl,by rw [decide_eq_true (by rw [←h17,List.getD_eq_getElem?_getD,List.getElem?_eq_getElem hkl];exact List.getElem_mem hkl)],rfl⟩
  ·refine Ai (AI (AC Z Z (J (Cm Z Z (IntWalk.i64_in _ (by omega)) rfl) (AE Z Z (AF ?_)))));exact ⟨k+1,⟨hkl,fun hm=>by rw [List.take_succ_eq_append_getElem hkl] at hm;exact (List.mem_append.1 hm).elim hx fun e=>h17 (by rw [List.mem_singleton.1 e,List.getD_eq_getElem?_getD,List.getElem?_eq_getElem hkl];rfl)⟩,by omega,⟨rfl,rfl,fun _ _=>Has.get (l:=[(0,_),(1,_),(5,_)]) ⟨rfl,rfl,rfl,trivial⟩⟩⟩
 ·refine Dq (AG (AI (AE Z Z (AF (Au ?_)))));exact ⟨_,[],[],Aq rfl,rfl,rfl,by rw [decide_eq_false (by rw [←List.take_of_length_le (i:=k) (l:=l) (by have:=h9;omega)];exact hx)],rfl⟩
theorem C7 {l:List Lw} {k:Nat} (h:k<l.length):(l.map Nt)[k]?=some (Nt l[k]):=by
 rw [List.getElem?_map,List.getElem?_eq_getElem h];rfl
theorem LH (w:Ws) (l:Lw) (hl:w.K.length≤2000000):B3 Try.prog 47 [.d (Jh w),.d (Nt l)] (Ak (decide (l∈w.K))):=by
 refine DA Try.func47 Z Z Try.ntmps47 Z Z Z fun F hF=>(AG (AI (U (IG 20 Z Z Z Z Z Z Z) (U (IG 21 Z Z Z Z Z Z Z) ?_))));refine AE Z Z (AF (AG (AG (AI (AE Z Z (AF (B7 (FC (α:=Nat) (fun k=>⟨20,[(2,(.ptr 20 0 0)),(3,(.ptr 21 0 0)),(5,(.d (natD k)))],[(20,[.blk 35 [.d (stsD w.R),.d (It w.K)]]),(21,[.blk 71 [.d (AZ l.f),.d (Bv l.t),.d (AZ l.r)]])]⟩) (fun k=>k≤w.K.length∧l∉w.K.take k) (fun k=>w.K.length - k) (0) (⟨Nat.zero_le _,by simp⟩) (BC hF [20,21] Z Z ⟨rfl,rfl,rfl,trivial⟩) ?_))))))));rintro k ⟨hk,hx⟩;refine AG (AG (AI (AC Z Z ?_)))
 first | refine J (A1 rfl Ab Z Z Z) ?_ | refine J (A3 rfl Ab Z Z Z) ?_ | refine J (A4 rfl Ab Z Z Z) ?_ | refine J (A2 rfl Ab Z Z Z) ?_ | refine J (A0 rfl Ab Z Z Z) ?_
 first | refine J (AX Z Z Al rfl) ?_ | refine J (AU Z Z Z Al rfl) ?_ | refine J (AW Z Z (rfl) rfl Al rfl) ?_
 refine J (Br rfl (List.length_map ..) Try.underlying33 rfl) ?_
 first | refine J (Ed Z Z Z) ?_ | refine J (Ef Z Z Z) ?_
 refine AF ?_
 first | refine BA rfl (fun h10=>?_) (fun h10=>?_) | refine Az rfl (fun h10=>?_) (fun h10=>?_)
 ·refine Ai (AG (B7 (AG ?_)));have hkl:k<w.K.length:=HB h10;refine Ee [[],[0],[],[0,1,2],[0,1,2,3],[],[0,1,2,3,4,5]] mixed rfl (DL ?_)
  first | refine AD [2] [] Z Z (fun _=>AB (A1 rfl Ab Z Z Z)) ?_ | refine AH [2] Z Z (fun _=>AB (A1 rfl Ab Z Z Z)) ?_ | refine AD [2] [] Z Z (fun _=>AB (A3 rfl Ab Z Z Z)) ?_ | refine AH [2] Z Z (fun _=>AB (A3 rfl Ab Z Z Z)) ?_ | refine AD [2] [] Z Z (fun _=>AB (A4 rfl Ab Z Z Z)) ?_ | refine AH [2] Z Z (fun _=>AB (A4 rfl Ab Z Z Z)) ?_ | refine AD [2] [] Z Z (fun _=>AB (A2 rfl Ab Z Z Z)) ?_ | refine AH [2] Z Z (fun _=>AB (A2 rfl Ab Z Z Z)) ?_ | refine AD [2] [] Z Z (fun _=>AB (A0 rfl Ab Z Z Z)) ?_ | refine AH [2] Z Z (fun _=>AB (A0 rfl Ab Z Z Z)) ?_
  first | refine AD [13] [20] Z Z (fun _=>AB (AX Z Z Al rfl)) ?_ | refine AD [13] [20] Z Z (fun _=>AB (AU Z Z Z Al rfl)) ?_ | refine AD [13] [20] Z Z (fun _=>AB (AW Z Z (rfl) rfl Al rfl)) ?_
  first | refine AD [5] [] Z Z (fun _=>AB (A9 Z Z)) ?_ | refine AH [5] Z Z (fun _=>AB (A9 Z Z)) ?_
  first | refine AD [14,15] [] Z Z (fun _=>AB (BE (k) Z Z (rfl) (C7 hkl) Try.underlying33 rfl CF rfl)) ?_ | refine AH [14,15] Z Z (fun _=>AB (BE (k) Z Z (rfl) (C7 hkl) Try.underlying33 rfl CF rfl)) ?_ | refine AD [14,15] [] Z Z (fun _=>AB (BF (k) Z Z (rfl) (C7 hkl) rfl Try.underlying33 CF rfl)) ?_ | refine AH [14,15] Z Z (fun _=>AB (BF (k) Z Z (rfl) (C7 hkl) rfl Try.underlying33 CF rfl)) ?_
  first | refine AD [16] [] Z Z (fun _=>AB (BN Z Z Ar rfl)) ?_ | refine AH [16] Z Z (fun _=>AB (BN Z Z Ar rfl)) ?_ | refine AD [16] [] Z Z (fun _=>AB (BO Z Z Ar Z Z Z)) ?_ | refine AH [16] Z Z (fun _=>AB (BO Z Z Ar Z Z Z)) ?_ | refine AD [16] [] Z Z (fun _=>AB (BP Z Z (rfl) rfl Ar rfl)) ?_ | refine AH [16] Z Z (fun _=>AB (BP Z Z (rfl) rfl Ar rfl)) ?_
  first | refine AD [3] [21] Z Z (fun _=>AB (BN Z Z Ar rfl)) ?_ | refine AD [3] [21] Z Z (fun _=>AB (BO Z Z Ar Z Z Z)) ?_ | refine AD [3] [21] Z Z (fun _=>AB (BP Z Z (rfl) rfl Ar rfl)) ?_
  refine DM 6 Z Z Z (BI 7 Z Z (J (P0 (la:=lwC w.K[k]) (lb:=lwC l) (ds:=lwT) (by kernel_rfl) (by kernel_rfl) (by kernel_rfl) Z Z Z Z (Gs _) (Gs _) (Q0 _ _) rfl) (AF ⟨rfl,?_⟩)));refine ED ?_
  first | refine BA rfl (fun h19=>?_) (fun h19=>?_) | refine Az rfl (fun h19=>?_) (fun h19=>?_)
  ·refine AG (AI (AE Z Z (AF (Au ?_))));exact ⟨_,[],[],Aq rfl,rfl,rfl,by rw [decide_eq_true (by rw [←h19];exact List.getElem_mem hkl)],rfl⟩
  ·refine Ai (AI (AC Z Z (J (Cm Z Z (IntWalk.i64_in _ (by omega)) rfl) (AE Z Z (AF ?_)))));exact ⟨k+1,⟨hkl,fun hm=>by rw [List.take_succ_eq_append_getElem hkl] at hm;exact (List.mem_append.1 hm).elim hx fun e=>h19 (List.mem_singleton.1 e).symm⟩,by omega,BC hF [20,21] rfl (rfl) ⟨rfl,rfl,rfl,trivial⟩⟩
 ·refine Dq (AG (AI (AE Z Z (AF (Au ?_)))));exact ⟨_,[],[],Aq rfl,rfl,rfl,by rw [decide_eq_false (by rw [←List.take_of_length_le (i:=k) (l:=w.K) (by have:=h10;omega)];exact hx)],rfl⟩
theorem Nu:∀(a b:List UInt8),Op.bytesLess a b=decide (a<b)
 | [],[]=>by simp [Op.bytesLess]
 | [],_::_=>by simp [Op.bytesLess]
 | _::_,[]=>by simp [Op.bytesLess]
 | a::x,b::y=>by
  simp only [Op.bytesLess,Nu x y];rw [Bool.eq_iff_iff]
  simp [List.cons_lt_cons_iff]
theorem Q1 (a b:St):AV.d (.raw (.bool (Op.bytesLess (⟨a.toArray⟩:ByteArray).toList (⟨b.toArray⟩:ByteArray).toList)))= .d (Ak (decide (a<b))):=by
 rw [Lib.toList_data,Lib.toList_data];show AV.d (.raw (.bool (Op.bytesLess a b)))=_;rw [Nu]
def Hx (ins:Bool) (l:List St) (x:St):List St:=if ins then l else Bi l x
theorem LJ {l:List St} {k:Nat} (h:k<l.length):l.drop k=l.getD k []::l.drop (k+1):=by
 rw [List.drop_eq_getElem_cons h,List.getD_eq_getElem?_getD,List.getElem?_eq_getElem h];rfl
theorem Qi {out l:List St} {k:Nat} {x:St} (h:k<l.length) (hx:x<l.getD k []) (e:out++Hx false (l.drop k) x=Bi l x):(out++ [x]++ [l.getD k []])++Hx true (l.drop (k+1)) x=Bi l x:=by
 rw [←e,LJ h];show (out++ [x]++ [l.getD k []])++l.drop (k+1)=out++Bi (l.getD k []::l.drop (k+1)) x;rw [show Bi (l.getD k []::l.drop (k+1)) x=x::l.getD k []::l.drop (k+1) by rw [Bi,if_pos hx]]
 simp
theorem Ou {out l:List St} {k:Nat} {x:St} (h:k<l.length) (hx:¬x<l.getD k []) (e:out++Hx false (l.drop k) x=Bi l x):(out++ [l.getD k []])++Hx false (l.drop (k+1)) x=Bi l x:=by
 rw [←e,LJ h];simp only [Hx,Bi,if_neg hx]
 simp
theorem Ov {out l:List St} {k:Nat} {x:St} (h:k<l.length) (e:out++Hx true (l.drop k) x=Bi l x):(out++ [l.getD k []])++Hx true (l.drop (k+1)) x=Bi l x:=by
 rw [←e,LJ h]
 simp [Hx]
theorem MW {out l:List St} {k:Nat} {x:St} {ins:Bool} (e:out++Hx ins (l.drop k) x=Bi l x):out.length≤l.length+1:=by
 have:=congrArg List.length e;rw [List.length_append,DZ] at this;omega
theorem EU (l:List St) (x:St) (hl:l.length≤100000):B3 Try.prog 54 [.d (stsD l),.d (AZ x)] (stsD (Bi l x)):=by
 refine DA Try.func54 Z Z Try.ntmps54 Z Z Z fun F hF=>(AG (AI ?_));refine AE Z Z (AF (AG (AI (AE Z Z (AF (AG (AI (AE Z Z ?_))))))));refine AF (AG (AG (AI (AE Z Z (AF (B7 (Fo 5 1 Bg Z Z Z Z (FC (α:=Nat×List St×Bool) (fun q=>⟨42,[(0,.d (stsD l)),(1,.d (AZ x)),(5,(.own 1 0 q.2.1.length)),(6,(.d (Ak q.2.2))),(7,(.d (natD q.1)))],[(1,[.rowD 9 1 (q.2.1.map AZ)])]⟩) (fun q=>q.1≤l.length∧q.2.1++Hx q.2.2 (l.drop q.1) x=Bi l x) (fun q=>l.length - q.1) ((0,[],false)) (⟨Nat.zero_le _,by simp [Hx]⟩) (BC hF [1] Z Z ⟨rfl,rfl,rfl,rfl,rfl,trivial⟩) ?_))))))));rintro ⟨k,out,ins⟩ ⟨hk,he⟩;dsimp only at hk he⊢;refine AG (AG (AI (AC Z Z (AC Z Z (J (Br rfl (List.length_map ..) Try.underlying32 rfl) ?_)))))
 first | refine J (Ed Z Z Z) ?_ | refine J (Ef Z Z Z) ?_
 refine AF ?_
 first | refine BA rfl (fun h11=>?_) (fun h11=>?_) | refine Az rfl (fun h11=>?_) (fun h11=>?_)
 ·refine Ai (AG (B7 (AG (AG ?_))));have hkl:k<l.length:=HB h11;have hol:=MW he;refine AI (AC Z Z ?_)
  first | refine J (EG Z Z) ?_ | refine J (EE Z Z) ?_
  refine AC Z Z ?_
  first | refine JQ 16 rfl (fun h16=>?_) (fun h16=>?_) | refine ID 16 rfl (fun h16=>?_) (fun h16=>?_)
  ·refine A8 Z Z Z (AC Z Z (A8 Z Z Z (AC Z Z (A8 Z Z Z (AC Z Z (A8 Z Z Z ?_))))))
   first | refine J (BE (k) Z Z (rfl) (CT hkl) Try.underlying32 rfl DO rfl) ?_ | refine J (BF (k) Z Z (rfl) (CT hkl) rfl Try.underlying32 DO rfl) ?_
   refine A8 Z Z Z ?_
   first | refine J (AX Z Z AY rfl) ?_ | refine J (AU Z Z Z AY rfl) ?_ | refine J (AW Z Z (rfl) rfl AY rfl) ?_
   refine A8 Z Z Z ?_
   first | refine J (Ed Z Z Z) ?_ | refine J (Ef Z Z Z) ?_
   refine NM 22 (.d (Ak (decide (x<l.getD k [])))) rfl (Q1 _ _) (J (G1 Z Z Z Z) (AF ?_))
   first | refine BA rfl (fun h23=>?_) (fun h23=>?_) | refine Az rfl (fun h23=>?_) (fun h23=>?_)
   ·refine AG (AI (AC Z Z (AC Z Z (U (HC 21 Bg Z Z Z Z Z Z Z Z) ?_))))
    first | refine U (J1 (out) ([x]) Z Z Z Z Z Z Z Z Bg (by simp only [List.length_singleton];omega) Z Z Z Z) ?_ | refine U (K9 (out) ([x]) Z Z Z Z Z Z (fun _=>rfl) Bg (by simp only [List.length_singleton];omega) Z Z Z Z) ?_
    refine AE Z Z (AF (AI (AE Z Z (AF (AI (AC Z Z (AC Z Z (AC Z Z ?_))))))))
    first | refine J (BE (k) Z Z (rfl) (CT hkl) Try.underlying32 rfl DO rfl) ?_ | refine J (BF (k) Z Z (rfl) (CT hkl) rfl Try.underlying32 DO rfl) ?_
    first | refine J (AX Z Z AY rfl) ?_ | refine J (AU Z Z Z AY rfl) ?_ | refine J (AW Z Z (rfl) rfl AY rfl) ?_
    refine U (HC 22 Bg Z Z Z Z Z Z Z Z) ?_
    first | refine U (J1 (out++ [x]) ([l.getD k []]) Z Z Z Z Z Z Z Z Bg (by simp only [List.length_append,List.length_singleton];omega) Z Z Z Z) ?_ | refine U (K9 (out++ [x]) ([l.getD k []]) Z Z Z Z Z Z (fun _=>rfl) Bg (by simp only [List.length_append,List.length_singleton];omega) Z Z Z Z) ?_
    refine AE Z Z (AF (AI (AC Z Z (J (Cm Z Z (IntWalk.i64_in _ (by omega)) rfl) (AE Z Z (AF ?_))))));exact ⟨(k+1,_,true),⟨hkl,Qi hkl h23 (by have:ins=false:=(by simpa using h16);rw [this] at he;exact he)⟩,by show l.length - (k+1)<l.length - k;omega,BC hF [1] rfl (rfl) ⟨rfl,rfl,rfl,rfl,rfl,trivial⟩⟩
   ·refine Ai (AI (AC Z Z (AC Z Z (AC Z Z ?_))))
    first | refine J (BE (k) Z Z (rfl) (CT hkl) Try.underlying32 rfl DO rfl) ?_ | refine J (BF (k) Z Z (rfl) (CT hkl) rfl Try.underlying32 DO rfl) ?_
    first | refine J (AX Z Z AY rfl) ?_ | refine J (AU Z Z Z AY rfl) ?_ | refine J (AW Z Z (rfl) rfl AY rfl) ?_
    refine U (HC 22 Bg Z Z Z Z Z Z Z Z) ?_
    first | refine U (J1 (out) ([l.getD k []]) Z Z Z Z Z Z Z Z Bg (by simp only [List.length_singleton];omega) Z Z Z Z) ?_ | refine U (K9 (out) ([l.getD k []]) Z Z Z Z Z Z (fun _=>rfl) Bg (by simp only [List.length_singleton];omega) Z Z Z Z) ?_
    refine AE Z Z (AF (AI (AC Z Z (J (Cm Z Z (IntWalk.i64_in _ (by omega)) rfl) (AE Z Z (AF ?_))))));exact ⟨(k+1,_,ins),⟨hkl,by have:ins=false:=(by simpa using h16);rw [this] at he⊢;exact Ou hkl h23 he⟩,by show l.length - (k+1)<l.length - k;omega,BC hF [1] rfl (rfl) ⟨rfl,rfl,rfl,rfl,rfl,trivial⟩⟩
  ·refine Ay Z Z Z Z (Ay Z Z Z Z (Ay Z Z Z Z (Ay Z Z Z Z (Ay Z Z Z Z ?_))));refine Ay Z Z Z Z (J (Ey Z Z Z Z) (AF (D4 Z Z (Ai (AI (AC Z Z (AC Z Z (AC Z Z ?_))))))))
   first | refine J (BE (k) Z Z (rfl) (CT hkl) Try.underlying32 rfl DO rfl) ?_ | refine J (BF (k) Z Z (rfl) (CT hkl) rfl Try.underlying32 DO rfl) ?_
   first | refine J (AX Z Z AY rfl) ?_ | refine J (AU Z Z Z AY rfl) ?_ | refine J (AW Z Z (rfl) rfl AY rfl) ?_
   refine U (HC 22 Bg Z Z Z Z Z Z Z Z) ?_
   first | refine U (J1 (out) ([l.getD k []]) Z Z Z Z Z Z Z Z Bg (by simp only [List.length_singleton];omega) Z Z Z Z) ?_ | refine U (K9 (out) ([l.getD k []]) Z Z Z Z Z Z (fun _=>rfl) Bg (by simp only [List.length_singleton];omega) Z Z Z Z) ?_
   refine AE Z Z (AF (AI (AC Z Z (J (Cm Z Z (IntWalk.i64_in _ (by omega)) rfl) (AE Z Z (AF ?_))))));exact ⟨(k+1,_,ins),⟨hkl,by have:ins=true:=(by simpa using h16);rw [this] at he⊢;exact Ov hkl he⟩,by show l.length - (k+1)<l.length - k;omega,BC hF [1] rfl (rfl) ⟨rfl,rfl,rfl,rfl,rfl,trivial⟩⟩
 ·refine Dq (AG (AG ?_));have hke:k=l.length:=by have:=h11;omega
  have hol:=MW he;rw [hke,List.drop_length] at he;have hin1:ins=false ->out++ [x]=Bi l x:=fun e=>by rw [e] at he;exact he
  have hin0:ins=true ->out=Bi l x:=fun e=>by rw [e] at he;simpa [Hx] using he
  refine AI (AC Z Z ?_)
  first | refine J (EG Z Z) ?_ | refine J (EE Z Z) ?_
  refine AF ?_
  first | refine BA rfl (fun h36=>?_) (fun h36=>?_) | refine Az rfl (fun h36=>?_) (fun h36=>?_)
  ·refine AI (AC Z Z (AC Z Z (U (HC 23 Bg Z Z Z Z Z Z Z Z) ?_)))
   first | refine U (J1 (out) ([x]) Z Z Z Z Z Z Z Z Bg (by simp only [List.length_singleton];omega) Z Z Z Z) ?_ | refine U (K9 (out) ([x]) Z Z Z Z Z Z (fun _=>rfl) Bg (by simp only [List.length_singleton];omega) Z Z Z Z) ?_
   refine AE Z Z (AF (AG ?_))
   first | refine Zcn (emb:=AZ) 5 1 (out++ [x]) Z Z Z Z Z Z Z ?_ | refine Zcn (emb:=AZ) 5 1 out Z Z Z Z Z Z Z ?_
   refine AI (AC Z Z (AE Z Z (AF (Au ?_))));exact ⟨_,[],[],Aq rfl,rfl,rfl,by first | rw [hin1 (by simpa using h36)] | rw [hin0 (by simpa using h36)],rfl⟩
  ·refine Ai (AG ?_)
   first | refine Zcn (emb:=AZ) 5 1 (out++ [x]) Z Z Z Z Z Z Z ?_ | refine Zcn (emb:=AZ) 5 1 out Z Z Z Z Z Z Z ?_
   refine AI (AC Z Z (AE Z Z (AF (Au ?_))));exact ⟨_,[],[],Aq rfl,rfl,rfl,by first | rw [hin1 (by simpa using h36)] | rw [hin0 (by simpa using h36)],rfl⟩
def PK (K:List Lw) (g g2:List St):Prop:=∃l∈K,l.t=1∧l.f∈g∧l.r∈g2
noncomputable instance (K:List Lw) (g g2:List St):Decidable (PK K g g2):=Classical.propDecidable _
abbrev JL (f:Nat) (w:Ws):Nat×List AJ:=(f,[.blk 35 [.d (stsD w.R),.d (It w.K)]])
theorem KS (w:Ws) (g g2:List St) (hl:w.K.length≤2000000) (hg:g.length≤2000000) (hg2:g2.length≤2000000):B3 Try.prog 56 [.d (Jh w),.d (stsD g),.d (stsD g2)] (Ak (decide (PK w.K g g2))):=by
 refine DA Try.func56 Z Z Try.ntmps56 Z Z Z fun F hF=>(AG (AI (U (IG 20 Z Z Z Z Z Z Z) ?_)));refine AE Z Z (AF (AG (AG (AI (AE Z Z (AF (B7 (FC (α:=Nat) (fun k=>⟨36,[(1,.d (stsD g)),(2,.d (stsD g2)),(3,(.ptr 20 0 0)),(7,(.d (natD k)))],[JL 20 w]⟩) (fun k=>k≤w.K.length∧¬PK (w.K.take k) g g2) (fun k=>w.K.length - k) (0) (⟨Nat.zero_le _,fun ⟨l,hl,_⟩=>by simp at hl⟩) (BC hF [20] Z Z ⟨rfl,rfl,rfl,rfl,trivial⟩) ?_))))))));rintro k ⟨hk,hx⟩;refine AG (AG (AI (AC Z Z ?_)))
 first | refine J (A1 rfl Ab Z Z Z) ?_ | refine J (A3 rfl Ab Z Z Z) ?_ | refine J (A4 rfl Ab Z Z Z) ?_ | refine J (A2 rfl Ab Z Z Z) ?_ | refine J (A0 rfl Ab Z Z Z) ?_
 first | refine J (AX Z Z Al rfl) ?_ | refine J (AU Z Z Z Al rfl) ?_ | refine J (AW Z Z (rfl) rfl Al rfl) ?_
 refine J (Br rfl (List.length_map ..) Try.underlying33 rfl) ?_
 first | refine J (Ed Z Z Z) ?_ | refine J (Ef Z Z Z) ?_
 refine AF ?_
 first | refine BA rfl (fun h13=>?_) (fun h13=>?_) | refine Az rfl (fun h13=>?_) (fun h13=>?_)
 ·refine Ai (AG (B7 (AG ?_)));have hkl:k<w.K.length:=HB h13;refine AI ?_
  first | refine J (A1 rfl Ab Z Z Z) ?_ | refine J (A3 rfl Ab Z Z Z) ?_ | refine J (A4 rfl Ab Z Z Z) ?_ | refine J (A2 rfl Ab Z Z Z) ?_ | refine J (A0 rfl Ab Z Z Z) ?_
  first | refine J (AX Z Z Al rfl) ?_ | refine J (AU Z Z Z Al rfl) ?_ | refine J (AW Z Z (rfl) rfl Al rfl) ?_
  refine AC Z Z ?_
  first | refine J (BE (k) Z Z (rfl) (C7 hkl) Try.underlying33 rfl CF rfl) ?_ | refine J (BF (k) Z Z (rfl) (C7 hkl) rfl Try.underlying33 CF rfl) ?_
  first | refine J (BN Z Z Ar rfl) ?_ | refine J (BO Z Z Ar Z Z Z) ?_ | refine J (BP Z Z (rfl) rfl Ar rfl) ?_
  refine U (HG 25 zl71 Z Z Z Z) (U (Bm Z Z Z Z Z Z Z CF) (AF (AG (AI ?_))))
  first | refine J (A1 rfl K8 Z Z Z) ?_ | refine J (A3 rfl K8 Z Z Z) ?_ | refine J (A4 rfl K8 Z Z Z) ?_ | refine J (A2 rfl K8 Z Z Z) ?_ | refine J (A0 rfl K8 Z Z Z) ?_
  first | refine J (AX Z Z Bf rfl) ?_ | refine J (AU Z Z Z Bf rfl) ?_ | refine J (AW Z Z (rfl) rfl Bf rfl) ?_
  first | refine J (EZ Z Z Z) ?_ | refine J (Ea Z Z Z) ?_ | refine J (EF Z Z Z) ?_ | refine J (E0 Try.underlying3 Z Z Z) ?_ | refine J (E5 Try.underlying3 Z Z Z) ?_ | refine J (E4 Try.underlying3 Z Z) ?_ | refine J (E9 Try.underlying3 Z Z) ?_ | refine J (E8 Try.underlying3 Z Z) ?_ | refine J (E3 Try.underlying3 Z Z Z) ?_ | refine J (E7 Try.underlying3 Z Z) ?_
  refine AC Z Z ?_
  first | refine JQ 24 rfl (fun h24=>?_) (fun h24=>?_) | refine ID 24 rfl (fun h24=>?_) (fun h24=>?_)
  ·refine A8 Z Z Z (AC Z Z (A8 Z Z Z ?_))
   first | refine J (A1 rfl CD Z Z Z) ?_ | refine J (A3 rfl CD Z Z Z) ?_ | refine J (A4 rfl CD Z Z Z) ?_ | refine J (A2 rfl CD Z Z Z) ?_ | refine J (A0 rfl CD Z Z Z) ?_
   refine A8 Z Z Z ?_
   first | refine J (AX Z Z AY rfl) ?_ | refine J (AU Z Z Z AY rfl) ?_ | refine J (AW Z Z (rfl) rfl AY rfl) ?_
   refine A8 Z Z Z (J (DE (Bo g (w.K[k]).f hg) Z Z) (J (G1 Z Z Z Z) (AC Z Z ?_)))
   first | refine JQ 30 rfl (fun h30=>?_) (fun h30=>?_) | refine ID 30 rfl (fun h30=>?_) (fun h30=>?_)
   ·refine A8 Z Z Z (AC Z Z (A8 Z Z Z ?_))
    first | refine J (A1 rfl Cg Z Z Z) ?_ | refine J (A3 rfl Cg Z Z Z) ?_ | refine J (A4 rfl Cg Z Z Z) ?_ | refine J (A2 rfl Cg Z Z Z) ?_ | refine J (A0 rfl Cg Z Z Z) ?_
    refine A8 Z Z Z ?_
    first | refine J (AX Z Z AY rfl) ?_ | refine J (AU Z Z Z AY rfl) ?_ | refine J (AW Z Z (rfl) rfl AY rfl) ?_
    refine A8 Z Z Z (J (DE (Bo g2 (w.K[k]).r hg2) Z Z) (J (G1 Z Z Z Z) (AF ?_)))
    first | refine BA rfl (fun h35=>?_) (fun h35=>?_) | refine Az rfl (fun h35=>?_) (fun h35=>?_)
    ·refine AG (AI (AE Z Z (AF (Au ?_))));exact ⟨_,[],[],Aq rfl,rfl,rfl,by rw [decide_eq_true (show PK w.K g g2 from ⟨_,List.getElem_mem hkl,h24,h30,h35⟩)],rfl⟩
    ·refine Ai (AI (AC Z Z (J (Cm Z Z (IntWalk.i64_in _ (by omega)) rfl) (AE Z Z (AF ?_)))));exact ⟨k+1,⟨hkl,fun ⟨l,hl,h1,h2,h3⟩=>by rw [List.take_succ_eq_append_getElem hkl] at hl;exact (List.mem_append.1 hl).elim (fun hh=>hx ⟨l,hh,h1,h2,h3⟩) fun e=>by (rw [List.mem_singleton.1 e] at h1 h2 h3;first | exact h35 h3 | exact h30 h2 | exact h24 h1)⟩,by omega,BC hF [20] rfl (rfl) ⟨rfl,rfl,rfl,rfl,trivial⟩⟩
   ·refine Ay Z Z Z Z (Ay Z Z Z Z (Ay Z Z Z Z (Ay Z Z Z Z ?_)));refine J (Ey Z Z Z Z) (AF (D4 Z Z (Ai (AI (AC Z Z (J (Cm Z Z (IntWalk.i64_in _ (by omega)) rfl) (AE Z Z (AF ?_))))))));exact ⟨k+1,⟨hkl,fun ⟨l,hl,h1,h2,h3⟩=>by rw [List.take_succ_eq_append_getElem hkl] at hl;exact (List.mem_append.1 hl).elim (fun hh=>hx ⟨l,hh,h1,h2,h3⟩) fun e=>by (rw [List.mem_singleton.1 e] at h1 h2 h3;first | exact h35 h3 | exact h30 h2 | exact h24 h1)⟩,by omega,BC hF [20] rfl (rfl) ⟨rfl,rfl,rfl,rfl,trivial⟩⟩
  ·refine Ay Z Z Z Z ?_;refine Ay Z Z Z Z (Ay Z Z Z Z (Ay Z Z Z Z (J (Ey Z Z Z Z) (AC Z Z (Ay Z Z Z Z (Ay Z Z Z Z (Ay Z Z Z Z (Ay Z Z Z Z ?_))))))));refine J (Ey Z Z Z Z) (AF (D4 Z Z (Ai (AI (AC Z Z (J (Cm Z Z (IntWalk.i64_in _ (by omega)) rfl) (AE Z Z (AF ?_))))))));exact ⟨k+1,⟨hkl,fun ⟨l,hl,h1,h2,h3⟩=>by rw [List.take_succ_eq_append_getElem hkl] at hl;exact (List.mem_append.1 hl).elim (fun hh=>hx ⟨l,hh,h1,h2,h3⟩) fun e=>by (rw [List.mem_singleton.1 e] at h1 h2 h3;first | exact h35 h3 | exact h30 h2 | exact h24 h1)⟩,by omega,BC hF [20] rfl (rfl) ⟨rfl,rfl,rfl,rfl,trivial⟩⟩
 ·refine Dq (AG (AI (AE Z Z (AF (Au ?_)))));exact ⟨_,[],[],Aq rfl,rfl,rfl,by rw [decide_eq_false (show ¬PK w.K g g2 by rw [←List.take_of_length_le (i:=k) (l:=w.K) (by have:=h13;omega)];exact hx)],rfl⟩
structure Jf (w:Ws) (a:St) (out:List St):Prop where
 srt:HD out
 ha:a∈out
 con:∀y∈out,y∈w.R∧HF w a y
def cloL (out:List St) (l:Lw):Prop:=l.t=0 ->(l.f∈out↔l.r∈out)
structure IH (w:Ws) (a:St) (out0:List St) (k:Nat) (out:List St) (grew:Bool):Prop where
 g:Jf w a out
 no:grew=false ->out=out0∧∀l∈w.K.take k,cloL out l
 yes:grew=true ->out0.length<out.length
theorem Jf.zero {w:Ws} {a:St} (h:a∈w.R):Jf w a [a]:=⟨by simp,by simp,fun y hy=>by rw [List.mem_singleton.1 hy];exact ⟨h,.refl⟩⟩
theorem Jf.len {w:Ws} {a:St} {out:List St} (h:Jf w a out):out.length≤w.R.length:=(EO h.srt).length_le_of_subset fun y hy=>(h.con y hy).1
theorem IH.zero {w:Ws} {a:St} {out:List St} (h:Jf w a out):IH w a out 0 out false:=⟨h,fun _=>⟨rfl,fun l hl=>by simp at hl⟩,fun e=>by cases e⟩
theorem IH.le {w:Ws} {a:St} {out0 out:List St} {k:Nat} {grew:Bool} (h:IH w a out0 k out grew):out0.length≤out.length:=by
 cases hg:grew with
 | false=>rw [(h.no hg).1];exact Nat.le_refl _
 | true=>exact Nat.le_of_lt (h.yes hg)
theorem IH.ins {w:Ws} {a:St} {out0 out:List St} {k k2:Nat} {grew:Bool} (h:IH w a out0 k out grew) {y z:St} (hy:y∉out) (hz:z∈out) (hc:Jd w z y) (hR:y∈w.R):IH w a out0 k2 (Bi out y) true:=by
 refine ⟨⟨L7 h.g.srt hy,LT.2 (.inr h.g.ha),fun x hx=>?_⟩,(fun e=>by cases e),fun _=>by rw [DZ];exact Nat.lt_succ_of_le h.le⟩;rcases LT.1 hx with rfl | hx
 ·exact ⟨hR,(h.g.con z hz).2.tail hc⟩
 ·exact h.g.con x hx
theorem IH.pass {w:Ws} {a:St} {out0 out:List St} {k:Nat} {grew:Bool} (h:IH w a out0 k out grew) (hk:k<w.K.length) (hc:cloL out w.K[k]):IH w a out0 (k+1) out grew:=by
 refine ⟨h.g,fun e=>⟨(h.no e).1,fun l hl=>?_⟩,h.yes⟩;rw [List.take_succ_eq_append_getElem hk] at hl;rcases List.mem_append.1 hl with hl | hl
 ·exact (h.no e).2 l hl
 ·rw [List.mem_singleton.1 hl];exact hc
theorem Jf.fin {w:Ws} (hw:BV w) {a:St} {out:List St} (h:Jf w a out) (hc:∀l∈w.K,cloL out l):out=cls w a:=by
 refine IK h.srt (HA hw a) fun x=>?_;rw [Nc];refine ⟨h.con x,fun ⟨_,hx⟩=>?_⟩;refine BU.closed (p:=fun y=>y∈out) (fun p q hp hq=>?_) h.ha hx;rcases hq with hq | hq
 ·exact (hc _ hq rfl).1 hp
 ·exact (hc _ hq rfl).2 hp
set_option maxHeartbeats 1000000 in
theorem On (w:Ws) (hw:BV w) (a:St) (hl:w.K.length≤2000000):B3 Try.prog 72 [.d (Jh w),.d (AZ a)] (if a∈w.R then stsD (cls w a) else .sl (some true) []):=by
 have hfew:=hw.few;refine DA Try.func72 Z Z Try.ntmps72 Z Z Z fun F hF=>(AG (AI (U (IG 20 Z Z Z Z Z Z Z) (AE Z Z (AF (AG (AG (AI ?_))))))))
 first | refine J (A1 rfl A7 Z Z Z) ?_ | refine J (A3 rfl A7 Z Z Z) ?_ | refine J (A4 rfl A7 Z Z Z) ?_ | refine J (A2 rfl A7 Z Z Z) ?_ | refine J (A0 rfl A7 Z Z Z) ?_
 first | refine J (AX Z Z AL rfl) ?_ | refine J (AU Z Z Z AL rfl) ?_ | refine J (AW Z Z (rfl) rfl AL rfl) ?_
 refine AC Z Z (J (DE (Bo w.R a (by omega)) Z Z) ?_)
 first | refine J (EG Z Z) ?_ | refine J (EE Z Z) ?_
 refine AF ?_
 first | refine BA rfl (fun h13=>?_) (fun h13=>?_) | refine Az rfl (fun h13=>?_) (fun h13=>?_)
 ·refine AG (AI (AE Z Z (AF (Au ?_))));exact ⟨_,[],[],Aq rfl,rfl,rfl,by rw [if_neg h13],rfl⟩
 ·refine Ai (AG ?_);have haR:a∈w.R:=Classical.not_not.1 h13;refine AI (AC Z Z (U (HC 25 Bg Z Z Z Z Z Z Z Z) (Fe (emb:=AZ) 15 25 [a] Z Z Z Z Z Z Z ?_)));refine AE Z Z (AF (AG (AG (AI (AE Z Z (AF (B7 (FC (α:=List St×Bool) (fun q=>⟨63,[(2,(.ptr 20 0 0)),(5,(.d (stsD q.1))),(6,(.d (Ak q.2)))],[JL 20 w]⟩) (fun q=>Jf w a q.1∧(q.2=false ->∀l∈w.K,cloL q.1 l)) (fun q=>2*(w.R.length - q.1.length)+(if q.2 then 1 else 0)) (([a],true)) (⟨Jf.zero haR,fun e=>by cases e⟩) (BC hF [20] Z Z ⟨rfl,rfl,rfl,trivial⟩) ?_))))))));rintro ⟨out0,gr⟩ ⟨hG0,hC0⟩;dsimp only at hG0 hC0⊢;refine AG (AG (AI (AC Z Z (AF ?_))))
  first | refine BA rfl (fun h16=>?_) (fun h16=>?_) | refine Az rfl (fun h16=>?_) (fun h16=>?_)
  ·refine Ai (B7 (AG ?_));refine AI (AE Z Z (AF (AG (AI (AE Z Z (AF (B7 (FC (α:=Nat×List St×Bool) (fun q=>⟨63,[(2,(.ptr 20 0 0)),(5,(.d (stsD q.2.1))),(6,(.d (Ak q.2.2))),(7,(.d (natD q.1)))],[JL 20 w]⟩) (fun q=>q.1≤w.K.length∧IH w a out0 q.1 q.2.1 q.2.2) (fun q=>w.K.length - q.1) ((0,out0,false)) (⟨Nat.zero_le _,IH.zero hG0⟩) (BC hF [20] Z Z ⟨rfl,rfl,rfl,rfl,trivial⟩) ?_))))))));rintro ⟨k,out,grew⟩ ⟨hk,hI⟩;dsimp only at hk hI⊢;refine AG (AG (AI (AC Z Z ?_)))
   first | refine J (A1 rfl Ab Z Z Z) ?_ | refine J (A3 rfl Ab Z Z Z) ?_ | refine J (A4 rfl Ab Z Z Z) ?_ | refine J (A2 rfl Ab Z Z Z) ?_ | refine J (A0 rfl Ab Z Z Z) ?_
   first | refine J (AX Z Z Al rfl) ?_ | refine J (AU Z Z Z Al rfl) ?_ | refine J (AW Z Z (rfl) rfl Al rfl) ?_
   refine J (Br rfl (List.length_map ..) Try.underlying33 rfl) ?_
   first | refine J (Ed Z Z Z) ?_ | refine J (Ef Z Z Z) ?_
   refine AF ?_
   first | refine BA rfl (fun h21=>?_) (fun h21=>?_) | refine Az rfl (fun h21=>?_) (fun h21=>?_)
   ·refine Ai (AG (B7 (AG ?_)));have hkl:k<w.K.length:=HB h21;have hol:=hI.g.len;refine AI ?_
    first | refine J (A1 rfl Ab Z Z Z) ?_ | refine J (A3 rfl Ab Z Z Z) ?_ | refine J (A4 rfl Ab Z Z Z) ?_ | refine J (A2 rfl Ab Z Z Z) ?_ | refine J (A0 rfl Ab Z Z Z) ?_
    first | refine J (AX Z Z Al rfl) ?_ | refine J (AU Z Z Z Al rfl) ?_ | refine J (AW Z Z (rfl) rfl Al rfl) ?_
    refine AC Z Z ?_
    first | refine J (BE (k) Z Z (rfl) (C7 hkl) Try.underlying33 rfl CF rfl) ?_ | refine J (BF (k) Z Z (rfl) (C7 hkl) rfl Try.underlying33 CF rfl) ?_
    first | refine J (BN Z Z Ar rfl) ?_ | refine J (BO Z Z Ar Z Z Z) ?_ | refine J (BP Z Z (rfl) rfl Ar rfl) ?_
    refine U (HG 26 zl71 Z Z Z Z) (U (Bm Z Z Z Z Z Z Z CF) (AF (AG (AG (AI ?_)))))
    first | refine J (A1 rfl K8 Z Z Z) ?_ | refine J (A3 rfl K8 Z Z Z) ?_ | refine J (A4 rfl K8 Z Z Z) ?_ | refine J (A2 rfl K8 Z Z Z) ?_ | refine J (A0 rfl K8 Z Z Z) ?_
    first | refine J (AX Z Z Bf rfl) ?_ | refine J (AU Z Z Z Bf rfl) ?_ | refine J (AW Z Z (rfl) rfl Bf rfl) ?_
    first | refine J (G3 Z Z Z) ?_ | refine J (G0 Z Z Z) ?_ | refine J (GX Z Z Z) ?_ | refine J (G4 Try.underlying3 Z Z Z) ?_ | refine J (G6 Try.underlying3 Z Z Z) ?_ | refine J (st_neqN Try.underlying3 Z Z) ?_ | refine J (GZ Try.underlying3 Z Z) ?_ | refine J (st_neqMz Try.underlying3 Z Z) ?_ | refine J (G5 Try.underlying3 Z Z Z) ?_ | refine J (st_neqFN Try.underlying3 Z Z) ?_
    refine AF ?_
    first | refine BA rfl (fun h31=>?_) (fun h31=>?_) | refine Az rfl (fun h31=>?_) (fun h31=>?_)
    ·refine Dq (AI (AC Z Z (J (Cm Z Z (IntWalk.i64_in _ (by omega)) rfl) (AE Z Z (AF ?_)))));exact ⟨(k+1,_,_),⟨hkl,by first | exact hI.pass hkl (fun e=>absurd e h31) | exact hI.pass hkl (fun _=>⟨fun hf=>Classical.byContradiction fun hr=>by first | exact h42 hr | exact h36 hf,fun hr=>Classical.byContradiction fun hf=>by first | exact h57 hf | exact h51 hr⟩) | exact hI.ins h42 h36 (Or.inl hWt) hkR.2 | exact hI.ins h57 h51 (Or.inr hWt) hkR.1 | exact absurd (LT.2 (.inr h36)) h57⟩,by show w.K.length - (k+1)<w.K.length - k;omega,BC hF [20] rfl (rfl) ⟨rfl,rfl,rfl,rfl,trivial⟩⟩
    ·refine Ai (AG (AG ?_));have ht0:(w.K[k]).t=0:=Classical.not_not.1 h31;have hkR:=hw.lk _ (List.getElem_mem hkl)
     have hkR:(w.K[k]).f∈w.R∧(w.K[k]).r∈w.R:=⟨hkR.1,hkR.2.1⟩
     have hWt:(⟨(w.K[k]).f,0,(w.K[k]).r⟩:Lw)∈w.K:=by rw [←ht0];exact List.getElem_mem hkl
     refine AI (AC Z Z ?_)
     first | refine J (A1 rfl CD Z Z Z) ?_ | refine J (A3 rfl CD Z Z Z) ?_ | refine J (A4 rfl CD Z Z Z) ?_ | refine J (A2 rfl CD Z Z Z) ?_ | refine J (A0 rfl CD Z Z Z) ?_
     first | refine J (AX Z Z AY rfl) ?_ | refine J (AU Z Z Z AY rfl) ?_ | refine J (AW Z Z (rfl) rfl AY rfl) ?_
     refine J (DE (Bo out (w.K[k]).f (by omega)) Z Z) (AC Z Z ?_)
     first | refine JQ 36 rfl (fun h36=>?_) (fun h36=>?_) | refine ID 36 rfl (fun h36=>?_) (fun h36=>?_)
     ·refine A8 Z Z Z (AC Z Z (A8 Z Z Z ?_))
      first | refine J (A1 rfl Cg Z Z Z) ?_ | refine J (A3 rfl Cg Z Z Z) ?_ | refine J (A4 rfl Cg Z Z Z) ?_ | refine J (A2 rfl Cg Z Z Z) ?_ | refine J (A0 rfl Cg Z Z Z) ?_
      refine A8 Z Z Z ?_
      first | refine J (AX Z Z AY rfl) ?_ | refine J (AU Z Z Z AY rfl) ?_ | refine J (AW Z Z (rfl) rfl AY rfl) ?_
      refine A8 Z Z Z (J (DE (Bo out (w.K[k]).r (by omega)) Z Z) (A8 Z Z Z ?_))
      first | refine J (EG Z Z) ?_ | refine J (EE Z Z) ?_
      refine J (G1 Z Z Z Z) (AF ?_)
      first | refine BA rfl (fun h42=>?_) (fun h42=>?_) | refine Az rfl (fun h42=>?_) (fun h42=>?_)
      ·refine AG (AI (AC Z Z ?_))
       first | refine J (A1 rfl Cg Z Z Z) ?_ | refine J (A3 rfl Cg Z Z Z) ?_ | refine J (A4 rfl Cg Z Z Z) ?_ | refine J (A2 rfl Cg Z Z Z) ?_ | refine J (A0 rfl Cg Z Z Z) ?_
       first | refine J (AX Z Z AY rfl) ?_ | refine J (AU Z Z Z AY rfl) ?_ | refine J (AW Z Z (rfl) rfl AY rfl) ?_
       refine J (DE (EU out (w.K[k]).r (by omega)) Z Z) (AE Z Z (AF (AI (AE Z Z (AF (AG (AI (AC Z Z ?_))))))))
       first | refine J (A1 rfl Cg Z Z Z) ?_ | refine J (A3 rfl Cg Z Z Z) ?_ | refine J (A4 rfl Cg Z Z Z) ?_ | refine J (A2 rfl Cg Z Z Z) ?_ | refine J (A0 rfl Cg Z Z Z) ?_
       first | refine J (AX Z Z AY rfl) ?_ | refine J (AU Z Z Z AY rfl) ?_ | refine J (AW Z Z (rfl) rfl AY rfl) ?_
       refine J (DE (Bo (Bi out (w.K[k]).r) (w.K[k]).r (by rw [DZ];omega)) Z Z) (AC Z Z ?_)
       first | refine JQ 51 rfl (fun h51=>?_) (fun h51=>?_) | refine ID 51 rfl (fun h51=>?_) (fun h51=>?_)
       ·refine A8 Z Z Z (AC Z Z (A8 Z Z Z ?_))
        first | refine J (A1 rfl CD Z Z Z) ?_ | refine J (A3 rfl CD Z Z Z) ?_ | refine J (A4 rfl CD Z Z Z) ?_ | refine J (A2 rfl CD Z Z Z) ?_ | refine J (A0 rfl CD Z Z Z) ?_
        refine A8 Z Z Z ?_
        first | refine J (AX Z Z AY rfl) ?_ | refine J (AU Z Z Z AY rfl) ?_ | refine J (AW Z Z (rfl) rfl AY rfl) ?_
        refine A8 Z Z Z (J (DE (Bo (Bi out (w.K[k]).r) (w.K[k]).f (by rw [DZ];omega)) Z Z) (A8 Z Z Z ?_))
        first | refine J (EG Z Z) ?_ | refine J (EE Z Z) ?_
        refine J (G1 Z Z Z Z) (AF ?_)
        first | refine BA rfl (fun h57=>?_) (fun h57=>?_) | refine Az rfl (fun h57=>?_) (fun h57=>?_)
        ·refine AG (AI (AC Z Z ?_))
         first | refine J (A1 rfl CD Z Z Z) ?_ | refine J (A3 rfl CD Z Z Z) ?_ | refine J (A4 rfl CD Z Z Z) ?_ | refine J (A2 rfl CD Z Z Z) ?_ | refine J (A0 rfl CD Z Z Z) ?_
         first | refine J (AX Z Z AY rfl) ?_ | refine J (AU Z Z Z AY rfl) ?_ | refine J (AW Z Z (rfl) rfl AY rfl) ?_
         refine J (DE (EU (Bi out (w.K[k]).r) (w.K[k]).f (by rw [DZ];omega)) Z Z) (AE Z Z ?_);refine AF (AI (AE Z Z (AF (AI (AC Z Z (J (Cm Z Z (IntWalk.i64_in _ (by omega)) rfl) (AE Z Z (AF ?_))))))));exact ⟨(k+1,_,_),⟨hkl,by first | exact hI.pass hkl (fun e=>absurd e h31) | exact hI.pass hkl (fun _=>⟨fun hf=>Classical.byContradiction fun hr=>by first | exact h42 hr | exact h36 hf,fun hr=>Classical.byContradiction fun hf=>by first | exact h57 hf | exact h51 hr⟩) | exact hI.ins h42 h36 (Or.inl hWt) hkR.2 | exact hI.ins h57 h51 (Or.inr hWt) hkR.1 | exact absurd (LT.2 (.inr h36)) h57⟩,by show w.K.length - (k+1)<w.K.length - k;omega,BC hF [20] rfl (rfl) ⟨rfl,rfl,rfl,rfl,trivial⟩⟩
        ·refine Ai (AI (AC Z Z (J (Cm Z Z (IntWalk.i64_in _ (by omega)) rfl) (AE Z Z (AF ?_)))));exact ⟨(k+1,_,_),⟨hkl,by first | exact hI.pass hkl (fun e=>absurd e h31) | exact hI.pass hkl (fun _=>⟨fun hf=>Classical.byContradiction fun hr=>by first | exact h42 hr | exact h36 hf,fun hr=>Classical.byContradiction fun hf=>by first | exact h57 hf | exact h51 hr⟩) | exact hI.ins h42 h36 (Or.inl hWt) hkR.2 | exact hI.ins h57 h51 (Or.inr hWt) hkR.1 | exact absurd (LT.2 (.inr h36)) h57⟩,by show w.K.length - (k+1)<w.K.length - k;omega,BC hF [20] rfl (rfl) ⟨rfl,rfl,rfl,rfl,trivial⟩⟩
       ·refine Ay Z Z Z Z (Ay Z Z Z Z (Ay Z Z Z Z (Ay Z Z Z Z (Ay Z Z Z Z ?_))));refine J (Ey Z Z Z Z) (AF (D4 Z Z (Ai (AI (AC Z Z (J (Cm Z Z (IntWalk.i64_in _ (by omega)) rfl) (AE Z Z (AF ?_))))))));exact ⟨(k+1,_,_),⟨hkl,by first | exact hI.pass hkl (fun e=>absurd e h31) | exact hI.pass hkl (fun _=>⟨fun hf=>Classical.byContradiction fun hr=>by first | exact h42 hr | exact h36 hf,fun hr=>Classical.byContradiction fun hf=>by first | exact h57 hf | exact h51 hr⟩) | exact hI.ins h42 h36 (Or.inl hWt) hkR.2 | exact hI.ins h57 h51 (Or.inr hWt) hkR.1 | exact absurd (LT.2 (.inr h36)) h57⟩,by show w.K.length - (k+1)<w.K.length - k;omega,BC hF [20] rfl (rfl) ⟨rfl,rfl,rfl,rfl,trivial⟩⟩
      ·refine Ai (AG (AI (AC Z Z ?_)))
       first | refine J (A1 rfl Cg Z Z Z) ?_ | refine J (A3 rfl Cg Z Z Z) ?_ | refine J (A4 rfl Cg Z Z Z) ?_ | refine J (A2 rfl Cg Z Z Z) ?_ | refine J (A0 rfl Cg Z Z Z) ?_
       first | refine J (AX Z Z AY rfl) ?_ | refine J (AU Z Z Z AY rfl) ?_ | refine J (AW Z Z (rfl) rfl AY rfl) ?_
       refine J (DE (Bo out (w.K[k]).r (by omega)) Z Z) (AC Z Z ?_)
       first | refine JQ 51 rfl (fun h51=>?_) (fun h51=>?_) | refine ID 51 rfl (fun h51=>?_) (fun h51=>?_)
       ·refine A8 Z Z Z (AC Z Z (A8 Z Z Z ?_))
        first | refine J (A1 rfl CD Z Z Z) ?_ | refine J (A3 rfl CD Z Z Z) ?_ | refine J (A4 rfl CD Z Z Z) ?_ | refine J (A2 rfl CD Z Z Z) ?_ | refine J (A0 rfl CD Z Z Z) ?_
        refine A8 Z Z Z ?_
        first | refine J (AX Z Z AY rfl) ?_ | refine J (AU Z Z Z AY rfl) ?_ | refine J (AW Z Z (rfl) rfl AY rfl) ?_
        refine A8 Z Z Z (J (DE (Bo out (w.K[k]).f (by omega)) Z Z) (A8 Z Z Z ?_))
        first | refine J (EG Z Z) ?_ | refine J (EE Z Z) ?_
        refine J (G1 Z Z Z Z) (AF ?_)
        first | refine BA rfl (fun h57=>?_) (fun h57=>?_) | refine Az rfl (fun h57=>?_) (fun h57=>?_)
        ·refine AG (AI (AC Z Z ?_))
         first | refine J (A1 rfl CD Z Z Z) ?_ | refine J (A3 rfl CD Z Z Z) ?_ | refine J (A4 rfl CD Z Z Z) ?_ | refine J (A2 rfl CD Z Z Z) ?_ | refine J (A0 rfl CD Z Z Z) ?_
         first | refine J (AX Z Z AY rfl) ?_ | refine J (AU Z Z Z AY rfl) ?_ | refine J (AW Z Z (rfl) rfl AY rfl) ?_
         refine J (DE (EU out (w.K[k]).f (by omega)) Z Z) (AE Z Z ?_);refine AF (AI (AE Z Z (AF (AI (AC Z Z (J (Cm Z Z (IntWalk.i64_in _ (by omega)) rfl) (AE Z Z (AF ?_))))))));exact ⟨(k+1,_,_),⟨hkl,by first | exact hI.pass hkl (fun e=>absurd e h31) | exact hI.pass hkl (fun _=>⟨fun hf=>Classical.byContradiction fun hr=>by first | exact h42 hr | exact h36 hf,fun hr=>Classical.byContradiction fun hf=>by first | exact h57 hf | exact h51 hr⟩) | exact hI.ins h42 h36 (Or.inl hWt) hkR.2 | exact hI.ins h57 h51 (Or.inr hWt) hkR.1 | exact absurd (LT.2 (.inr h36)) h57⟩,by show w.K.length - (k+1)<w.K.length - k;omega,BC hF [20] rfl (rfl) ⟨rfl,rfl,rfl,rfl,trivial⟩⟩
        ·refine Ai (AI (AC Z Z (J (Cm Z Z (IntWalk.i64_in _ (by omega)) rfl) (AE Z Z (AF ?_)))));exact ⟨(k+1,_,_),⟨hkl,by first | exact hI.pass hkl (fun e=>absurd e h31) | exact hI.pass hkl (fun _=>⟨fun hf=>Classical.byContradiction fun hr=>by first | exact h42 hr | exact h36 hf,fun hr=>Classical.byContradiction fun hf=>by first | exact h57 hf | exact h51 hr⟩) | exact hI.ins h42 h36 (Or.inl hWt) hkR.2 | exact hI.ins h57 h51 (Or.inr hWt) hkR.1 | exact absurd (LT.2 (.inr h36)) h57⟩,by show w.K.length - (k+1)<w.K.length - k;omega,BC hF [20] rfl (rfl) ⟨rfl,rfl,rfl,rfl,trivial⟩⟩
       ·refine Ay Z Z Z Z (Ay Z Z Z Z (Ay Z Z Z Z (Ay Z Z Z Z (Ay Z Z Z Z ?_))));refine J (Ey Z Z Z Z) (AF (D4 Z Z (Ai (AI (AC Z Z (J (Cm Z Z (IntWalk.i64_in _ (by omega)) rfl) (AE Z Z (AF ?_))))))));exact ⟨(k+1,_,_),⟨hkl,by first | exact hI.pass hkl (fun e=>absurd e h31) | exact hI.pass hkl (fun _=>⟨fun hf=>Classical.byContradiction fun hr=>by first | exact h42 hr | exact h36 hf,fun hr=>Classical.byContradiction fun hf=>by first | exact h57 hf | exact h51 hr⟩) | exact hI.ins h42 h36 (Or.inl hWt) hkR.2 | exact hI.ins h57 h51 (Or.inr hWt) hkR.1 | exact absurd (LT.2 (.inr h36)) h57⟩,by show w.K.length - (k+1)<w.K.length - k;omega,BC hF [20] rfl (rfl) ⟨rfl,rfl,rfl,rfl,trivial⟩⟩
     ·refine Ay Z Z Z Z (Ay Z Z Z Z (Ay Z Z Z Z ?_));refine Ay Z Z Z Z (Ay Z Z Z Z (J (Ey Z Z Z Z) (AF (D4 Z Z (Ai (AG (AI (AC Z Z ?_))))))))
      first | refine J (A1 rfl Cg Z Z Z) ?_ | refine J (A3 rfl Cg Z Z Z) ?_ | refine J (A4 rfl Cg Z Z Z) ?_ | refine J (A2 rfl Cg Z Z Z) ?_ | refine J (A0 rfl Cg Z Z Z) ?_
      first | refine J (AX Z Z AY rfl) ?_ | refine J (AU Z Z Z AY rfl) ?_ | refine J (AW Z Z (rfl) rfl AY rfl) ?_
      refine J (DE (Bo out (w.K[k]).r (by omega)) Z Z) (AC Z Z ?_)
      first | refine JQ 51 rfl (fun h51=>?_) (fun h51=>?_) | refine ID 51 rfl (fun h51=>?_) (fun h51=>?_)
      ·refine A8 Z Z Z (AC Z Z (A8 Z Z Z ?_))
       first | refine J (A1 rfl CD Z Z Z) ?_ | refine J (A3 rfl CD Z Z Z) ?_ | refine J (A4 rfl CD Z Z Z) ?_ | refine J (A2 rfl CD Z Z Z) ?_ | refine J (A0 rfl CD Z Z Z) ?_
       refine A8 Z Z Z ?_
       first | refine J (AX Z Z AY rfl) ?_ | refine J (AU Z Z Z AY rfl) ?_ | refine J (AW Z Z (rfl) rfl AY rfl) ?_
       refine A8 Z Z Z (J (DE (Bo out (w.K[k]).f (by omega)) Z Z) (A8 Z Z Z ?_))
       first | refine J (EG Z Z) ?_ | refine J (EE Z Z) ?_
       refine J (G1 Z Z Z Z) (AF ?_)
       first | refine BA rfl (fun h57=>?_) (fun h57=>?_) | refine Az rfl (fun h57=>?_) (fun h57=>?_)
       ·refine AG (AI (AC Z Z ?_))
        first | refine J (A1 rfl CD Z Z Z) ?_ | refine J (A3 rfl CD Z Z Z) ?_ | refine J (A4 rfl CD Z Z Z) ?_ | refine J (A2 rfl CD Z Z Z) ?_ | refine J (A0 rfl CD Z Z Z) ?_
        first | refine J (AX Z Z AY rfl) ?_ | refine J (AU Z Z Z AY rfl) ?_ | refine J (AW Z Z (rfl) rfl AY rfl) ?_
        refine J (DE (EU out (w.K[k]).f (by omega)) Z Z) (AE Z Z ?_);refine AF (AI (AE Z Z (AF (AI (AC Z Z (J (Cm Z Z (IntWalk.i64_in _ (by omega)) rfl) (AE Z Z (AF ?_))))))));exact ⟨(k+1,_,_),⟨hkl,by first | exact hI.pass hkl (fun e=>absurd e h31) | exact hI.pass hkl (fun _=>⟨fun hf=>Classical.byContradiction fun hr=>by first | exact h42 hr | exact h36 hf,fun hr=>Classical.byContradiction fun hf=>by first | exact h57 hf | exact h51 hr⟩) | exact hI.ins h42 h36 (Or.inl hWt) hkR.2 | exact hI.ins h57 h51 (Or.inr hWt) hkR.1 | exact absurd (LT.2 (.inr h36)) h57⟩,by show w.K.length - (k+1)<w.K.length - k;omega,BC hF [20] rfl (rfl) ⟨rfl,rfl,rfl,rfl,trivial⟩⟩
       ·refine Ai (AI (AC Z Z (J (Cm Z Z (IntWalk.i64_in _ (by omega)) rfl) (AE Z Z (AF ?_)))));exact ⟨(k+1,_,_),⟨hkl,by first | exact hI.pass hkl (fun e=>absurd e h31) | exact hI.pass hkl (fun _=>⟨fun hf=>Classical.byContradiction fun hr=>by first | exact h42 hr | exact h36 hf,fun hr=>Classical.byContradiction fun hf=>by first | exact h57 hf | exact h51 hr⟩) | exact hI.ins h42 h36 (Or.inl hWt) hkR.2 | exact hI.ins h57 h51 (Or.inr hWt) hkR.1 | exact absurd (LT.2 (.inr h36)) h57⟩,by show w.K.length - (k+1)<w.K.length - k;omega,BC hF [20] rfl (rfl) ⟨rfl,rfl,rfl,rfl,trivial⟩⟩
      ·refine Ay Z Z Z Z (Ay Z Z Z Z (Ay Z Z Z Z (Ay Z Z Z Z (Ay Z Z Z Z ?_))));refine J (Ey Z Z Z Z) (AF (D4 Z Z (Ai (AI (AC Z Z (J (Cm Z Z (IntWalk.i64_in _ (by omega)) rfl) (AE Z Z (AF ?_))))))));exact ⟨(k+1,_,_),⟨hkl,by first | exact hI.pass hkl (fun e=>absurd e h31) | exact hI.pass hkl (fun _=>⟨fun hf=>Classical.byContradiction fun hr=>by first | exact h42 hr | exact h36 hf,fun hr=>Classical.byContradiction fun hf=>by first | exact h57 hf | exact h51 hr⟩) | exact hI.ins h42 h36 (Or.inl hWt) hkR.2 | exact hI.ins h57 h51 (Or.inr hWt) hkR.1 | exact absurd (LT.2 (.inr h36)) h57⟩,by show w.K.length - (k+1)<w.K.length - k;omega,BC hF [20] rfl (rfl) ⟨rfl,rfl,rfl,rfl,trivial⟩⟩
   ·refine Dq ?_;exact ⟨(out,grew),⟨hI.g,fun e=>by have:=(hI.no e).2;rw [show k=w.K.length by omega,List.take_length] at this;exact this⟩,by have h1:=hI.g.len;have h2:=hI.le;show 2*(w.R.length - out.length)+(if grew then 1 else 0)<2*(w.R.length - out0.length)+(if gr then 1 else 0);rw [show gr=true from h16];cases hgr:grew with | false=>rw [(hI.no hgr).1];simp | true=>have h3:=hI.yes hgr;simp;omega,BC hF [20] rfl (rfl) ⟨rfl,rfl,rfl,trivial⟩⟩
  ·refine Dq (AG ?_);have hfin:=hG0.fin hw (hC0 (by simpa using h16));refine AI (AC Z Z (AE Z Z (AF (Au ?_))));exact ⟨_,[],[],Aq rfl,rfl,rfl,by rw [if_pos haR,hfin],rfl⟩
theorem MY {w:Ws} (hw:BV w) {x:St} (hx:x∈w.R):(cls w x).getD 0 []=x↔Jg w x:=by
 have hs:=HA hw x;have hm:=Cc hx
 cases hc:cls w x with
 | nil=>rw [hc] at hm;simp at hm
 | cons y r=>
  rw [hc] at hs hm;have h1:=List.pairwise_cons.1 hs;show y=x↔_
  constructor
  ·rintro rfl z hz hzc hlt;have hz2:z∈cls w y:=Nc.2 ⟨hz,hzc⟩;rw [hc] at hz2;rcases List.mem_cons.1 hz2 with rfl | hz2
   ·exact GH _ hlt
   ·exact GH _ (Nh hlt (h1.1 z hz2))
  ·intro hl;have hy:y∈cls w x:=by rw [hc];simp
   obtain ⟨hyR,hyc⟩:=Nc.1 hy;rcases List.mem_cons.1 hm with e | hm
   ·exact e.symm
   ·exact absurd (h1.1 x hm) (hl y hyR hyc)
open Classical in
noncomputable def partT (w:Ws) (k:Nat):List (List St):=((w.R.take k).filter fun a=>decide (Jg w a)).map (cls w)
theorem Od (w:Ws):partT w w.R.length=parts w:=by unfold partT parts;rw [List.take_length]
theorem Oc {w:Ws} {k:Nat} (hk:k<w.R.length) (h:Jg w w.R[k]):partT w (k+1)=partT w k++ [cls w w.R[k]]:=by
 unfold partT;rw [List.take_succ_eq_append_getElem hk,List.filter_append,List.map_append]
 simp [h]
theorem NH {w:Ws} {k:Nat} (hk:k<w.R.length) (h:¬Jg w w.R[k]):partT w (k+1)=partT w k:=by
 unfold partT;rw [List.take_succ_eq_append_getElem hk,List.filter_append,List.map_append]
 simp [h]
theorem Ob (w:Ws) (k:Nat):(partT w k).length≤w.R.length:=by
 unfold partT;rw [List.length_map];exact Nat.le_trans (List.length_filter_le _ _) (by rw [List.length_take];omega)
theorem Do {l:List St} {k:Nat} (h:k<l.length):(l.map AZ)[k]?=some (AZ l[k]):=by
 rw [List.getElem?_map,List.getElem?_eq_getElem h];rfl
theorem all_p (w:Ws) (hw:BV w) (hl:w.K.length≤2000000):B3 Try.prog 55 [.d (Jh w)] (DD (parts w)):=by
 have hfew:=hw.few;refine DA Try.func55 Z Z Try.ntmps55 Z Z Z fun F hF=>(AG (AI (U (IG 20 Z Z Z Z Z Z Z) (AE Z Z (AF (AG (AI (AE Z Z ?_))))))));refine AF (AG (AG (AI (AE Z Z (AF (B7 (Fo 3 1 Mw Z Z Z Z (FC (α:=Nat×List (List St)) (fun q=>⟨34,[(1,(.ptr 20 0 0)),(3,(.own 1 0 q.2.length)),(4,(.d (natD q.1)))],[JL 20 w,(1,[.rowD 32 1 (q.2.map stsD)])]⟩) (fun q=>q.1≤w.R.length∧q.2=partT w q.1) (fun q=>w.R.length - q.1) ((0,[])) (⟨Nat.zero_le _,rfl⟩) (BC hF [20,1] Z Z ⟨rfl,rfl,rfl,trivial⟩) ?_))))))));rintro ⟨k,out⟩ ⟨hk,ho⟩;dsimp only at hk ho⊢;refine AG (AG (AI (AC Z Z ?_)))
 first | refine J (A1 rfl A7 Z Z Z) ?_ | refine J (A3 rfl A7 Z Z Z) ?_ | refine J (A4 rfl A7 Z Z Z) ?_ | refine J (A2 rfl A7 Z Z Z) ?_ | refine J (A0 rfl A7 Z Z Z) ?_
 first | refine J (AX Z Z AL rfl) ?_ | refine J (AU Z Z Z AL rfl) ?_ | refine J (AW Z Z (rfl) rfl AL rfl) ?_
 refine J (Br rfl (List.length_map ..) Try.underlying32 rfl) ?_
 first | refine J (Ed Z Z Z) ?_ | refine J (Ef Z Z Z) ?_
 refine AF ?_
 first | refine BA rfl (fun h10=>?_) (fun h10=>?_) | refine Az rfl (fun h10=>?_) (fun h10=>?_)
 ·refine Ai (AG (B7 (AG ?_)));have hkl:k<w.R.length:=HB h10;have hxR:w.R[k]∈w.R:=List.getElem_mem hkl;have hcl:0<(cls w w.R[k]).length:=List.length_pos_of_mem (Cc hxR);have hpl:out.length≤w.R.length:=by rw [ho];exact Ob w k
  refine Ee [[],[],[1],[],[1,2,3],[1,2,3,4],[0,1,2,3,4,5],[0,1,2,3,4,5,6]] mixed rfl (DL ?_)
  first | refine AD [1] [] Z Z (fun _=>AB (BN Z Z AK rfl)) ?_ | refine AH [1] Z Z (fun _=>AB (BN Z Z AK rfl)) ?_ | refine AD [1] [] Z Z (fun _=>AB (BO Z Z AK Z Z Z)) ?_ | refine AH [1] Z Z (fun _=>AB (BO Z Z AK Z Z Z)) ?_ | refine AD [1] [] Z Z (fun _=>AB (BP Z Z (rfl) rfl AK rfl)) ?_ | refine AH [1] Z Z (fun _=>AB (BP Z Z (rfl) rfl AK rfl)) ?_
  first | refine AD [1] [] Z Z (fun _=>AB (A1 rfl A7 Z Z Z)) ?_ | refine AH [1] Z Z (fun _=>AB (A1 rfl A7 Z Z Z)) ?_ | refine AD [1] [] Z Z (fun _=>AB (A3 rfl A7 Z Z Z)) ?_ | refine AH [1] Z Z (fun _=>AB (A3 rfl A7 Z Z Z)) ?_ | refine AD [1] [] Z Z (fun _=>AB (A4 rfl A7 Z Z Z)) ?_ | refine AH [1] Z Z (fun _=>AB (A4 rfl A7 Z Z Z)) ?_ | refine AD [1] [] Z Z (fun _=>AB (A2 rfl A7 Z Z Z)) ?_ | refine AH [1] Z Z (fun _=>AB (A2 rfl A7 Z Z Z)) ?_ | refine AD [1] [] Z Z (fun _=>AB (A0 rfl A7 Z Z Z)) ?_ | refine AH [1] Z Z (fun _=>AB (A0 rfl A7 Z Z Z)) ?_
  first | refine AD [14] [] Z Z (fun _=>AB (AX Z Z AL rfl)) ?_ | refine AH [14] Z Z (fun _=>AB (AX Z Z AL rfl)) ?_ | refine AD [14] [] Z Z (fun _=>AB (AU Z Z Z AL rfl)) ?_ | refine AH [14] Z Z (fun _=>AB (AU Z Z Z AL rfl)) ?_ | refine AD [14] [] Z Z (fun _=>AB (AW Z Z (rfl) rfl AL rfl)) ?_ | refine AH [14] Z Z (fun _=>AB (AW Z Z (rfl) rfl AL rfl)) ?_
  first | refine AD [4] [] Z Z (fun _=>AB (A9 Z Z)) ?_ | refine AH [4] Z Z (fun _=>AB (A9 Z Z)) ?_
  first | refine AD [15,16] [] Z Z (fun _=>AB (BE (k) Z Z (rfl) (Do hkl) Try.underlying32 rfl DO rfl)) ?_ | refine AH [15,16] Z Z (fun _=>AB (BE (k) Z Z (rfl) (Do hkl) Try.underlying32 rfl DO rfl)) ?_ | refine AD [15,16] [] Z Z (fun _=>AB (BF (k) Z Z (rfl) (Do hkl) rfl Try.underlying32 DO rfl)) ?_ | refine AH [15,16] Z Z (fun _=>AB (BF (k) Z Z (rfl) (Do hkl) rfl Try.underlying32 DO rfl)) ?_
  first | refine AD [17] [] Z Z (fun _=>AB (AX Z Z AY rfl)) ?_ | refine AH [17] Z Z (fun _=>AB (AX Z Z AY rfl)) ?_ | refine AD [17] [] Z Z (fun _=>AB (AU Z Z Z AY rfl)) ?_ | refine AH [17] Z Z (fun _=>AB (AU Z Z Z AY rfl)) ?_ | refine AD [17] [] Z Z (fun _=>AB (AW Z Z (rfl) rfl AY rfl)) ?_ | refine AH [17] Z Z (fun _=>AB (AW Z Z (rfl) rfl AY rfl)) ?_
  refine DM 6 Z Z Z (BI 7 Z Z (J (DE (On w hw w.R[k] hl) Z Z) ?_));rw [if_pos hxR];refine AF ⟨rfl,?_⟩;refine BI 8 Z Z (AE Z Z (AF ⟨rfl,?_⟩));refine ED (AG (Ee [[],[0],[0,1],[],[3],[],[3,4,5],[3,4,5,6],[0,1,2,3,4,5,6,7]] mixed rfl (DL ?_)))
  first | refine AD [5] [] Z Z (fun _=>AB (A9 Z Z)) ?_ | refine AH [5] Z Z (fun _=>AB (A9 Z Z)) ?_
  first | refine AD [20] [] Z Z (fun _=>AB (BE (0) Z Z (rfl) (CT hcl) Try.underlying32 rfl DO rfl)) ?_ | refine AH [20] Z Z (fun _=>AB (BE (0) Z Z (rfl) (CT hcl) Try.underlying32 rfl DO rfl)) ?_ | refine AD [20] [] Z Z (fun _=>AB (BF (0) Z Z (rfl) (CT hcl) rfl Try.underlying32 DO rfl)) ?_ | refine AH [20] Z Z (fun _=>AB (BF (0) Z Z (rfl) (CT hcl) rfl Try.underlying32 DO rfl)) ?_
  first | refine AD [21] [99] Z Z (fun _=>AB (AX Z Z AY rfl)) ?_ | refine AD [21] [99] Z Z (fun _=>AB (AU Z Z Z AY rfl)) ?_ | refine AD [21] [99] Z Z (fun _=>AB (AW Z Z (rfl) rfl AY rfl)) ?_
  first | refine AD [1] [] Z Z (fun _=>AB (A1 rfl A7 Z Z Z)) ?_ | refine AH [1] Z Z (fun _=>AB (A1 rfl A7 Z Z Z)) ?_ | refine AD [1] [] Z Z (fun _=>AB (A3 rfl A7 Z Z Z)) ?_ | refine AH [1] Z Z (fun _=>AB (A3 rfl A7 Z Z Z)) ?_ | refine AD [1] [] Z Z (fun _=>AB (A4 rfl A7 Z Z Z)) ?_ | refine AH [1] Z Z (fun _=>AB (A4 rfl A7 Z Z Z)) ?_ | refine AD [1] [] Z Z (fun _=>AB (A2 rfl A7 Z Z Z)) ?_ | refine AH [1] Z Z (fun _=>AB (A2 rfl A7 Z Z Z)) ?_ | refine AD [1] [] Z Z (fun _=>AB (A0 rfl A7 Z Z Z)) ?_ | refine AH [1] Z Z (fun _=>AB (A0 rfl A7 Z Z Z)) ?_
  first | refine AD [23] [] Z Z (fun _=>AB (AX Z Z AL rfl)) ?_ | refine AH [23] Z Z (fun _=>AB (AX Z Z AL rfl)) ?_ | refine AD [23] [] Z Z (fun _=>AB (AU Z Z Z AL rfl)) ?_ | refine AH [23] Z Z (fun _=>AB (AU Z Z Z AL rfl)) ?_ | refine AD [23] [] Z Z (fun _=>AB (AW Z Z (rfl) rfl AL rfl)) ?_ | refine AH [23] Z Z (fun _=>AB (AW Z Z (rfl) rfl AL rfl)) ?_
  first | refine AD [4] [] Z Z (fun _=>AB (A9 Z Z)) ?_ | refine AH [4] Z Z (fun _=>AB (A9 Z Z)) ?_
  first | refine AD [24,25] [] Z Z (fun _=>AB (BE (k) Z Z (rfl) (Do hkl) Try.underlying32 rfl DO rfl)) ?_ | refine AH [24,25] Z Z (fun _=>AB (BE (k) Z Z (rfl) (Do hkl) Try.underlying32 rfl DO rfl)) ?_ | refine AD [24,25] [] Z Z (fun _=>AB (BF (k) Z Z (rfl) (Do hkl) rfl Try.underlying32 DO rfl)) ?_ | refine AH [24,25] Z Z (fun _=>AB (BF (k) Z Z (rfl) (Do hkl) rfl Try.underlying32 DO rfl)) ?_
  first | refine AD [26] [] Z Z (fun _=>AB (AX Z Z AY rfl)) ?_ | refine AH [26] Z Z (fun _=>AB (AX Z Z AY rfl)) ?_ | refine AD [26] [] Z Z (fun _=>AB (AU Z Z Z AY rfl)) ?_ | refine AH [26] Z Z (fun _=>AB (AU Z Z Z AY rfl)) ?_ | refine AD [26] [] Z Z (fun _=>AB (AW Z Z (rfl) rfl AY rfl)) ?_ | refine AH [26] Z Z (fun _=>AB (AW Z Z (rfl) rfl AY rfl)) ?_
  refine DM 8 Z Z Z (BI 9 Z Z ?_)
  first | refine J (EZ Z Z Z) ?_ | refine J (Ea Z Z Z) ?_ | refine J (EF Z Z Z) ?_ | refine J (E0 Try.underlying9 Z Z Z) ?_ | refine J (E5 Try.underlying9 Z Z Z) ?_ | refine J (E4 Try.underlying9 Z Z) ?_ | refine J (E9 Try.underlying9 Z Z) ?_ | refine J (E8 Try.underlying9 Z Z) ?_ | refine J (E3 Try.underlying9 Z Z Z) ?_ | refine J (E7 Try.underlying9 Z Z) ?_
  refine AF ⟨rfl,?_⟩;refine ED ?_
  first | refine BA rfl (fun h28=>?_) (fun h28=>?_) | refine Az rfl (fun h28=>?_) (fun h28=>?_)
  ·refine AI (AC Z Z (AC Z Z (U (HC 21 Mw Z Z Z Z Z Z Z Z) ?_)))
   first | refine U (J1 (out) ([cls w w.R[k]]) Z Z Z Z Z Z Z Z Mw (by simp only [List.length_singleton];omega) Z Z Z Z) ?_ | refine U (K9 (out) ([cls w w.R[k]]) Z Z Z Z Z Z (fun _=>rfl) Mw (by simp only [List.length_singleton];omega) Z Z Z Z) ?_
   refine AE Z Z (AF (AI (AC Z Z (J (Cm Z Z (IntWalk.i64_in _ (by omega)) rfl) (AE Z Z (AF ?_))))));exact ⟨(k+1,out++ [cls w w.R[k]]),⟨hkl,by show _=partT w (k+1);rw [Oc hkl ((MY hw hxR).1 h28),ho]⟩,by show w.R.length - (k+1)<w.R.length - k;omega,BC hF [20,1] rfl (rfl) ⟨rfl,rfl,rfl,trivial⟩⟩
  ·refine Ai (AI (AC Z Z (J (Cm Z Z (IntWalk.i64_in _ (by omega)) rfl) (AE Z Z (AF ?_)))));exact ⟨(k+1,out),⟨hkl,by show _=partT w (k+1);rw [NH hkl fun h=>h28 ((MY hw hxR).2 h),ho]⟩,by show w.R.length - (k+1)<w.R.length - k;omega,BC hF [20,1] rfl (rfl) ⟨rfl,rfl,rfl,trivial⟩⟩
 ·refine Dq (AG ?_);have hke:k=w.R.length:=by have:=h10;omega
  refine Zcn (emb:=stsD) 3 1 out Z Z Z Z Z Z Z (AI (AC Z Z (AE Z Z (AF (Au ?_)))));exact ⟨_,[],[],Aq rfl,rfl,rfl,by rw [ho,hke,Od],rfl⟩
theorem CB {w:Ws} (hw:BV w) {i j:Nat} (hi:i<(parts w).length) (hj:j<(parts w).length) (hne:i≠j):PK w.K ((parts w).getD i []) ((parts w).getD j [])↔j∈depL w i:=by
 rw [By hw]
 constructor
 ·rintro ⟨l,hl,ht,hf,hr⟩;exact ⟨hne,l,hl,ht,((Kr hw hi).1 hf).2,((Kr hw hj).1 hr).2⟩
 ·rintro ⟨_,l,hl,ht,hf,hr⟩;exact ⟨l,hl,ht,(Kr hw hi).2 ⟨(hw.lk l hl).1,hf⟩,(Kr hw hj).2 ⟨(hw.lk l hl).2.1,hr⟩⟩
def PJ (w:Ws) (ord:List Nat) (i k:Nat):Prop:=i∉ord∧∀j,j<k ->j≠i ->j∉ord ->j∉depL w i
noncomputable instance (w:Ws) (ord:List Nat) (i k:Nat):Decidable (PJ w ord i k):=Classical.propDecidable _
theorem bD {p q:Prop} [Decidable p] [Decidable q] (h:p↔q):AV.d (Ak (decide p))=AV.d (Ak (decide q)):=by rw [decide_eq_decide.2 h]
theorem Qn {w:Ws} {ord:List Nat} {i:Nat}:AV.d (Ak (decide (¬i∈ord)))=AV.d (Ak (decide (PJ w ord i 0))):=bD ⟨fun h=>⟨h,fun j hj=>by omega⟩,fun h=>h.1⟩
theorem PM {w:Ws} {ord:List Nat} {i k:Nat} (h:k=i∨k∈ord∨k∉depL w i):AV.d (Ak (decide (PJ w ord i k)))=AV.d (Ak (decide (PJ w ord i (k+1)))):=bD ⟨fun hf=>⟨hf.1,fun j hj h1 h2=>by
 by_cases e:j=k
 ·subst e;rcases h with h | h | h
  ·exact absurd h h1
  ·exact absurd h h2
  ·exact h
 ·exact hf.2 j (by omega) h1 h2⟩,fun hf=>⟨hf.1,fun j hj=>hf.2 j (by omega)⟩⟩
theorem LD {w:Ws} {ord:List Nat} {i k:Nat} (h1:k≠i) (h2:k∉ord) (h3:k∈depL w i):AV.d (Ak false)=AV.d (Ak (decide (PJ w ord i (k+1)))):=by
 rw [decide_eq_false (show ¬PJ w ord i (k+1) from fun hf=>hf.2 k (by omega) h1 h2 h3)]
theorem OA {w:Ws} {ord:List Nat} {i:Nat} (hn:∀k∈depL w i,k≠i):PJ w ord i (parts w).length↔Fs (depL w) ord i=true:=by
 rw [CY];exact ⟨fun h=>⟨h.1,fun k hk=>Classical.byContradiction fun h2=>h.2 k (Gz hk) (hn k hk) h2 hk⟩,fun h=>⟨h.1,fun j _ _ h2 h3=>h2 (h.2 j h3)⟩⟩
theorem OC {w:Ws} (hw:BV w) {i:Nat}:∀k∈depL w i,k≠i:=fun k hk e=>((By hw).1 hk).1 e.symm
def encR:Option Nat ->Int
 | none=> -1
 | some x=>(x:Int)
structure LRd (w:Ws) (ord:List Nat) (m:Nat) (o:Option Nat):Prop where
 nn:o=none ->∀i,m≤i ->i<(parts w).length ->Fs (depL w) ord i=false
 so:∀x,o=some x ->x<(parts w).length∧Fs (depL w) ord x=true∧∀i,m≤i ->i<x ->Fs (depL w) ord i=false
theorem Oq {w:Ws} {ord:List Nat} {m:Nat} (h:m=(parts w).length):LRd w ord m none:=⟨fun _ i hi hl=>by omega,fun x e=>(by cases e)⟩
theorem lrd_hit {w:Ws} {ord:List Nat} {i:Nat} (hi:i<(parts w).length) (h:Fs (depL w) ord i=true):LRd w ord i (some i):=⟨fun e=>(by cases e),fun x e=>by injection e with e;subst e;exact ⟨hi,h,fun j h1 h2=>by omega⟩⟩
theorem Q3 {w:Ws} {ord:List Nat} {i:Nat} {o:Option Nat} (h:LRd w ord (i+1) o) (hn:Fs (depL w) ord i=false):LRd w ord i o:=
 ⟨fun e j hj hl=>by
  by_cases e2:j=i
  ·rw [e2];exact hn
  ·exact h.nn e j (by omega) hl,fun x e=>⟨(h.so x e).1,(h.so x e).2.1,fun j hj hl=>by
  by_cases e2:j=i
  ·rw [e2];exact hn
  ·exact (h.so x e).2.2 j (by omega) hl⟩⟩
noncomputable def aftT (w:Ws) (ord:List Nat) (x k:Nat):List Nat:=(List.range k).filter fun p=>(depL w x).contains (ord.getD p 0)
theorem RQ {w:Ws} {ord:List Nat} {x k:Nat} (h:ord.getD k 0∈depL w x):aftT w ord x (k+1)=aftT w ord x k++ [k]:=by
 unfold aftT;rw [List.range_succ,List.filter_append];simp [List.getD_eq_getElem?_getD] at h⊢;simp [h]
theorem PE {w:Ws} {ord:List Nat} {x k:Nat} (h:ord.getD k 0∉depL w x):aftT w ord x (k+1)=aftT w ord x k:=by
 unfold aftT;rw [List.range_succ,List.filter_append];simp [List.getD_eq_getElem?_getD] at h⊢;simp [h]
theorem Mh (w:Ws) (ord:List Nat) (x k:Nat):(aftT w ord x k).length≤k:=by
 unfold aftT;exact Nat.le_trans (List.length_filter_le _ _) (by simp)
theorem eqI {a b:Int} (h:a=b):AV.d (Bv a)=AV.d (Bv b):=by rw [h]
set_option maxHeartbeats 2000000 in
theorem Lo (w:Ws) (hw:BV w) (hl:w.K.length≤2000000):B3 Try.prog 37 [.d (Jh w)] (if acyW w=true then .tup [DJ (groupsW w),Ak true] else .tup [.sl (some true) [],Ak false]):=by
 have hfew:=hw.few
 obtain ⟨n,hn⟩:∃n,(parts w).length=n:=⟨_,rfl⟩
 have hnR:n≤4096:=by rw [←hn];unfold parts;rw [List.length_map];exact Nat.le_trans (List.length_filter_le _ _) hfew
 have hpl:∀i,((parts w).getD i []).length≤2000000:=fun i=>by
  by_cases hi:i<(parts w).length
  ·have h1:=(EO (Ii hw (List.mem_of_getElem? (Fm hi)))).length_le_of_subset (l₂:=w.R) fun y hy=>((Kr hw hi).1 hy).1;omega
  ·rw [List.getD_eq_getElem?_getD,List.getElem?_eq_none (by omega)];exact Nat.zero_le _
 refine DA Try.func37 Z Z Try.ntmps37 Z Z Z fun F hF=>(AG (AI (U (IG 20 Z Z Z Z Z Z Z) (AE Z Z (AE Z Z (AF (AG (AI ?_))))))))
 first | refine J (BN Z Z AK rfl) ?_ | refine J (BO Z Z AK Z Z Z) ?_ | refine J (BP Z Z (rfl) rfl AK rfl) ?_
 refine J (DE (all_p w hw hl) Z Z) (AE Z Z ?_);refine AF (AG (AI (AC Z Z (J (Br rfl ((List.length_map ..).trans hn) Try.underlying79 rfl) (U (II 21 sl99 Z Z Z (by omega) zd4 Z Z Z Z) (AE Z Z (AF (AG ?_))))))));rw [repB];refine AI (AE Z Z (AF ?_));refine AG (Fo 6 30 sl73 Z Z Z Z (AI (AE Z Z (AF (AG (B7 (Fo 7 31 FP Z Z Z Z (FC (α:=List Nat×List Grp) (fun q=>⟨110,[(1,(.ptr 20 0 0)),(4,(.d (DD (parts w)))),(5,(.own 21 0 n)),(6,(.own 30 0 q.2.length)),(7,(.own 31 0 q.1.length))],[JL 20 w,(21,[.rowD 4 1 (J6 n q.1)]),(30,[.rowD 76 2 (q.2.map Hy)]),(31,[.rowD 3 1 (q.1.map natD)])]⟩) (fun q=>Ha w q.1∧q.2=grpS w q.1) (fun q=>n - q.1.length) (([],[])) (⟨Ha.zero w,rfl⟩) (BC hF [20,21,30,31] Z Z ⟨rfl,rfl,rfl,rfl,rfl,trivial⟩) ?_))))))));rintro ⟨ord,gs⟩ ⟨hI,hgs⟩;dsimp only at hI hgs⊢;refine AG (AG (AI (AC Z Z ?_)))
 first | refine J (J0 rfl Try.underlying73 rfl) ?_ | refine J (Br Z Z Try.underlying73 rfl) ?_ | refine J (JW rfl Try.underlying73 rfl) ?_ | refine J (JY rfl Try.underlying73 rfl) ?_ | refine J (JV rfl Try.underlying73 rfl) ?_ | refine J (JP rfl Try.underlying73 rfl) ?_
 refine AC Z Z (J (Br rfl ((List.length_map ..).trans hn) Try.underlying79 rfl) ?_)
 first | refine J (Ed Z Z Z) ?_ | refine J (Ef Z Z Z) ?_
 refine AF ?_
 first | refine BA rfl (fun h23=>?_) (fun h23=>?_) | refine Az rfl (fun h23=>?_) (fun h23=>?_)
 ·refine Ai (B7 (AG ?_));have hgl:gs.length=ord.length:=by rw [hgs,FZ]
  have hlt:gs.length<n:=HB h23;refine AI (AE Z Z (AF (AG (AG ?_))));refine AI (AC Z Z (J (Br rfl ((List.length_map ..).trans hn) Try.underlying79 rfl) (J (DW Z Z (IntWalk.i64_in _ (by omega)) rfl) (NM 26 (.d (Bv ((n:Int) - 1 - ((0:Nat):Int)))) rfl (eqI (by omega)) (AE Z Z (AF (B7 (FC (α:=Nat×Option Nat) (fun q=>⟨110,[(1,(.ptr 20 0 0)),(4,(.d (DD (parts w)))),(5,(.own 21 0 n)),(6,(.own 30 0 gs.length)),(7,(.own 31 0 ord.length)),(8,(.d (Bv (encR q.2)))),(9,(.d (Bv ((n:Int) - 1 - (q.1:Int)))))],[JL 20 w,(21,[.rowD 4 1 (J6 n ord)]),(30,[.rowD 76 2 (gs.map Hy)]),(31,[.rowD 3 1 (ord.map natD)])]⟩) (fun q=>q.1≤n∧LRd w ord (n - q.1) q.2) (fun q=>n - q.1) ((0,none)) (⟨Nat.zero_le _,Oq hn.symm⟩) (BC hF [20,21,30,31] Z Z ⟨rfl,rfl,rfl,rfl,rfl,rfl,rfl,trivial⟩) ?_))))))));rintro ⟨d,o⟩ ⟨hd,hLA⟩;dsimp only at hd hLA⊢;refine AG (AG (AI (AC Z Z (J (Ki Z Z Z) (AF ?_)))))
  first | refine BA rfl (fun h28=>?_) (fun h28=>?_) | refine Az rfl (fun h28=>?_) (fun h28=>?_)
  ·refine Ai (AG (B7 (AG ?_)));have hdl:d<n:=by have:=h28;omega
   refine Nb 9 (.d (natD (n - 1 - d))) rfl (eqI (by omega)) ?_
   obtain ⟨i,hie⟩:∃i,n - 1 - d=i:=⟨_,rfl⟩
   rw [hie];have hil:i<n:=by omega
   have hil2:i<(parts w).length:=by omega
   have hie2:i=n - (d+1):=by omega
   have hie3:n - d=i+1:=by omega
   refine AI (AC Z Z (AC Z Z ?_))
   first | refine J (BE (i) Z Z (rfl) (hil) Try.underlying99 rfl PL rfl) ?_ | refine J (BF (i) Z Z (rfl) (hil) rfl Try.underlying99 PL rfl) ?_
   first | refine J (AX Z Z on4 rfl) ?_ | refine J (AU Z Z Z on4 rfl) ?_ | refine J (AW Z Z (Ie hil) rfl on4 rfl) ?_
   first | refine J (EG Z Z) ?_ | refine J (EE Z Z) ?_
   refine NM 35 (.d (Ak (decide (PJ w ord i 0)))) rfl Qn ?_;refine AE Z Z (AF (AG (AG (AI (AE Z Z (AF (B7 (FC (α:=Nat) (fun k=>⟨110,[(1,(.ptr 20 0 0)),(4,(.d (DD (parts w)))),(5,(.own 21 0 n)),(6,(.own 30 0 gs.length)),(7,(.own 31 0 ord.length)),(8,(.d (Bv (encR o)))),(9,(.d (natD i))),(10,(.d (Ak (decide (PJ w ord i k))))),(11,(.d (natD k)))],[JL 20 w,(21,[.rowD 4 1 (J6 n ord)]),(30,[.rowD 76 2 (gs.map Hy)]),(31,[.rowD 3 1 (ord.map natD)])]⟩) (fun k=>k≤n) (fun k=>n - k) (0) (Nat.zero_le _) (BC hF [20,21,30,31] Z Z ⟨rfl,rfl,rfl,rfl,rfl,rfl,rfl,rfl,rfl,trivial⟩) ?_))))))));intro k hk;refine AG (AG (AI (AC Z Z (AC Z Z (J (Br rfl ((List.length_map ..).trans hn) Try.underlying79 rfl) ?_)))))
   first | refine J (Ed Z Z Z) ?_ | refine J (Ef Z Z Z) ?_
   refine AF ?_
   first | refine BA rfl (fun h39=>?_) (fun h39=>?_) | refine Az rfl (fun h39=>?_) (fun h39=>?_)
   ·refine Ai (AG (B7 (AG ?_)));have hkl:k<n:=HB h39;have hkl2:k<(parts w).length:=by omega
    refine Ee [[],[],[0,1],[0,1,2],[0,1,2,3],[0,1,2,3],[0,1,2,3,4,5],[0,1,2,3,4,5,6],[0,1,2,3,4,5,6,7],[0,1,2,3,4,5,6,7,8],[0,1,2,3,4,5,6,7,8,9],[0,1,2,3,4,5,6,7,8,9,10],[0,1,2,3,4,5,6,7,8,9,10],[0,1,2,3,4,5,6,7,8,9,10],[0,1,2,3,4,5,6,7,8,9,10,12,13],[0,1,2,3,4,5,6,7,8,9,10,12,13,14],[0,1,2,3,4,5,6,7,8,9,10],[0,1,2,3,4,5,6,7,8,9,10],[0,1,2,3,4,5,6,7,8,9,10,16,17],[0,1,2,3,4,5,6,7,8,9,10,16,17,18],[0,1,2,3,4,5,6,7,8,9,10,11,12,13,14,15,16,17,18,19],[0,1,2,3,4,5,6,7,8,9,10,11,12,13,14,15,16,17,18,19,20]] mixed rfl (DL ?_)
    first | refine AD [9] [] Z Z (fun _=>AB (A9 Z Z)) ?_ | refine AH [9] Z Z (fun _=>AB (A9 Z Z)) ?_
    first | refine AD [11] [] Z Z (fun _=>AB (A9 Z Z)) ?_ | refine AH [11] Z Z (fun _=>AB (A9 Z Z)) ?_
    refine DM 2 Z Z Z (BI 3 Z Z ?_)
    first | refine J (G3 Z Z Z) ?_ | refine J (G0 Z Z Z) ?_ | refine J (GX Z Z Z) ?_ | refine J (G4 Try.underlying3 Z Z Z) ?_ | refine J (G6 Try.underlying3 Z Z Z) ?_ | refine J (st_neqN Try.underlying3 Z Z) ?_ | refine J (GZ Try.underlying3 Z Z) ?_ | refine J (st_neqMz Try.underlying3 Z Z) ?_ | refine J (G5 Try.underlying3 Z Z Z) ?_ | refine J (st_neqFN Try.underlying3 Z Z) ?_
    refine AF ⟨rfl,?_⟩;refine BI 4 Z Z (AC Z Z ?_)
    first | refine JQ 45 rfl (fun h45=>?_) (fun h45=>?_) | refine ID 45 rfl (fun h45=>?_) (fun h45=>?_)
    ·refine AF ⟨rfl,?_⟩;refine DL ?_
     first | refine AD [5,45] [] Z Z (fun _=>Aw Z Z Z (A9 Z Z)) ?_ | refine AH [5,45] Z Z (fun _=>Aw Z Z Z (A9 Z Z)) ?_
     first | refine AD [11,45] [] Z Z (fun _=>Aw Z Z Z (A9 Z Z)) ?_ | refine AH [11,45] Z Z (fun _=>Aw Z Z Z (A9 Z Z)) ?_
     refine DM 6 Z Z Z (BI 7 Z Z (A8 Z Z Z ?_))
     first | refine J (BE (k) Z Z (rfl) (hkl) Try.underlying99 rfl PL rfl) ?_ | refine J (BF (k) Z Z (rfl) (hkl) rfl Try.underlying99 PL rfl) ?_
     refine AF ⟨rfl,?_⟩;refine BI 8 Z Z (A8 Z Z Z ?_)
     first | refine J (AX Z Z on4 rfl) ?_ | refine J (AU Z Z Z on4 rfl) ?_ | refine J (AW Z Z (Ie hkl) rfl on4 rfl) ?_
     refine AF ⟨rfl,?_⟩;refine BI 9 Z Z (A8 Z Z Z ?_)
     first | refine J (EG Z Z) ?_ | refine J (EE Z Z) ?_
     refine AF ⟨rfl,?_⟩;refine BI 10 Z Z (J (G1 Z Z Z Z) (AF ⟨rfl,?_⟩));refine BI 11 Z Z (AC Z Z ?_)
     first | refine JQ 52 rfl (fun h52=>?_) (fun h52=>?_) | refine ID 52 rfl (fun h52=>?_) (fun h52=>?_)
     ·refine AF ⟨rfl,?_⟩;refine DL ?_
      first | refine AD [1,52] [20] Z Z (fun _=>Aw Z Z Z (BN Z Z AK rfl)) ?_ | refine AD [1,52] [20] Z Z (fun _=>Aw Z Z Z (BO Z Z AK Z Z Z)) ?_ | refine AD [1,52] [20] Z Z (fun _=>Aw Z Z Z (BP Z Z (rfl) rfl AK rfl)) ?_
      first | refine AD [4,52] [] Z Z (fun _=>Aw Z Z Z (A9 Z Z)) ?_ | refine AH [4,52] Z Z (fun _=>Aw Z Z Z (A9 Z Z)) ?_
      first | refine AD [9,52] [] Z Z (fun _=>Aw Z Z Z (A9 Z Z)) ?_ | refine AH [9,52] Z Z (fun _=>Aw Z Z Z (A9 Z Z)) ?_
      first | refine AD [54,55,52] [] Z Z (fun _=>Aw Z Z Z (BE (i) Z Z (rfl) (JX hil2) Try.underlying79 rfl CG rfl)) ?_ | refine AH [54,55,52] Z Z (fun _=>Aw Z Z Z (BE (i) Z Z (rfl) (JX hil2) Try.underlying79 rfl CG rfl)) ?_ | refine AD [54,55,52] [] Z Z (fun _=>Aw Z Z Z (BF (i) Z Z (rfl) (JX hil2) rfl Try.underlying79 CG rfl)) ?_ | refine AH [54,55,52] Z Z (fun _=>Aw Z Z Z (BF (i) Z Z (rfl) (JX hil2) rfl Try.underlying79 CG rfl)) ?_
      first | refine AD [56,52] [] Z Z (fun _=>Aw Z Z Z (AX Z Z AL rfl)) ?_ | refine AH [56,52] Z Z (fun _=>Aw Z Z Z (AX Z Z AL rfl)) ?_ | refine AD [56,52] [] Z Z (fun _=>Aw Z Z Z (AU Z Z Z AL rfl)) ?_ | refine AH [56,52] Z Z (fun _=>Aw Z Z Z (AU Z Z Z AL rfl)) ?_ | refine AD [56,52] [] Z Z (fun _=>Aw Z Z Z (AW Z Z (rfl) rfl AL rfl)) ?_ | refine AH [56,52] Z Z (fun _=>Aw Z Z Z (AW Z Z (rfl) rfl AL rfl)) ?_
      first | refine AD [4,52] [] Z Z (fun _=>Aw Z Z Z (A9 Z Z)) ?_ | refine AH [4,52] Z Z (fun _=>Aw Z Z Z (A9 Z Z)) ?_
      first | refine AD [11,52] [] Z Z (fun _=>Aw Z Z Z (A9 Z Z)) ?_ | refine AH [11,52] Z Z (fun _=>Aw Z Z Z (A9 Z Z)) ?_
      first | refine AD [58,59,52] [] Z Z (fun _=>Aw Z Z Z (BE (k) Z Z (rfl) (JX hkl2) Try.underlying79 rfl CG rfl)) ?_ | refine AH [58,59,52] Z Z (fun _=>Aw Z Z Z (BE (k) Z Z (rfl) (JX hkl2) Try.underlying79 rfl CG rfl)) ?_ | refine AD [58,59,52] [] Z Z (fun _=>Aw Z Z Z (BF (k) Z Z (rfl) (JX hkl2) rfl Try.underlying79 CG rfl)) ?_ | refine AH [58,59,52] Z Z (fun _=>Aw Z Z Z (BF (k) Z Z (rfl) (JX hkl2) rfl Try.underlying79 CG rfl)) ?_
      first | refine AD [60,52] [] Z Z (fun _=>Aw Z Z Z (AX Z Z AL rfl)) ?_ | refine AH [60,52] Z Z (fun _=>Aw Z Z Z (AX Z Z AL rfl)) ?_ | refine AD [60,52] [] Z Z (fun _=>Aw Z Z Z (AU Z Z Z AL rfl)) ?_ | refine AH [60,52] Z Z (fun _=>Aw Z Z Z (AU Z Z Z AL rfl)) ?_ | refine AD [60,52] [] Z Z (fun _=>Aw Z Z Z (AW Z Z (rfl) rfl AL rfl)) ?_ | refine AH [60,52] Z Z (fun _=>Aw Z Z Z (AW Z Z (rfl) rfl AL rfl)) ?_
      refine DM 20 Z Z Z (BI 21 Z Z (A8 Z Z Z (J (DE (KS w ((parts w).getD i []) ((parts w).getD k []) hl (hpl _) (hpl _)) Z Z) (AF ⟨rfl,?_⟩))));refine BI 22 Z Z (J (G1 Z Z Z Z) (AF ⟨rfl,?_⟩));refine ED ?_
      first | refine BA rfl (fun h63=>?_) (fun h63=>?_) | refine Az rfl (fun h63=>?_) (fun h63=>?_)
      ·refine AI (AE Z Z (AF (Nb 10 (.d (Ak (decide (PJ w ord i (k+1))))) rfl (by first | exact LD (fun e=>h45 (by rw [e])) h52 ((CB hw hil2 hkl2 (fun e=>h45 (by rw [e]))).1 h63) | exact PM (.inr (.inr fun hh=>h63 ((CB hw hil2 hkl2 (fun e=>h45 (by rw [e]))).2 hh))) | exact PM (.inr (.inl (Classical.not_not.1 h52))) | exact PM (.inl (Int.ofNat.inj (Classical.not_not.1 h45)).symm)) (AI (AC Z Z (J (Cm Z Z (IntWalk.i64_in _ (by omega)) rfl) (AE Z Z (AF ?_))))))));exact ⟨k+1,hkl,by omega,BC hF [20,21,30,31] rfl (rfl) ⟨rfl,rfl,rfl,rfl,rfl,rfl,rfl,rfl,rfl,trivial⟩⟩
      ·refine Ai (Nb 10 (.d (Ak (decide (PJ w ord i (k+1))))) rfl (by first | exact LD (fun e=>h45 (by rw [e])) h52 ((CB hw hil2 hkl2 (fun e=>h45 (by rw [e]))).1 h63) | exact PM (.inr (.inr fun hh=>h63 ((CB hw hil2 hkl2 (fun e=>h45 (by rw [e]))).2 hh))) | exact PM (.inr (.inl (Classical.not_not.1 h52))) | exact PM (.inl (Int.ofNat.inj (Classical.not_not.1 h45)).symm)) (AI (AC Z Z (J (Cm Z Z (IntWalk.i64_in _ (by omega)) rfl) (AE Z Z (AF ?_))))));exact ⟨k+1,hkl,by omega,BC hF [20,21,30,31] rfl (rfl) ⟨rfl,rfl,rfl,rfl,rfl,rfl,rfl,rfl,rfl,trivial⟩⟩
     ·refine AF ⟨rfl,?_⟩;refine DL (AD [1,52] [] Z Z (fun _=>Ka Z Z Z Z) (AD [4,52] [] Z Z (fun _=>Ka Z Z Z Z) (AD [9,52] [] Z Z (fun _=>Ka Z Z Z Z) (AD [54,55,52] [] Z Z (fun _=>Ka Z Z Z Z) ?_))));refine AD [56,52] [] Z Z (fun _=>Ka Z Z Z Z) (AD [4,52] [] Z Z (fun _=>Ka Z Z Z Z) (AD [11,52] [] Z Z (fun _=>Ka Z Z Z Z) (AD [58,59,52] [] Z Z (fun _=>Ka Z Z Z Z) (AD [60,52] [] Z Z (fun _=>Ka Z Z Z Z) (DM 20 Z Z Z (BI 21 Z Z (Ay Z Z Z Z (AF ⟨rfl,?_⟩))))))));refine BI 22 Z Z (J (Ey Z Z Z Z) (AF ⟨rfl,?_⟩));refine ED (D4 Z Z (Ai (Nb 10 (.d (Ak (decide (PJ w ord i (k+1))))) rfl (by first | exact LD (fun e=>h45 (by rw [e])) h52 ((CB hw hil2 hkl2 (fun e=>h45 (by rw [e]))).1 h63) | exact PM (.inr (.inr fun hh=>h63 ((CB hw hil2 hkl2 (fun e=>h45 (by rw [e]))).2 hh))) | exact PM (.inr (.inl (Classical.not_not.1 h52))) | exact PM (.inl (Int.ofNat.inj (Classical.not_not.1 h45)).symm)) (AI (AC Z Z (J (Cm Z Z (IntWalk.i64_in _ (by omega)) rfl) (AE Z Z (AF ?_))))))));exact ⟨k+1,hkl,by omega,BC hF [20,21,30,31] rfl (rfl) ⟨rfl,rfl,rfl,rfl,rfl,rfl,rfl,rfl,rfl,trivial⟩⟩
    ·refine AF ⟨rfl,?_⟩;refine DL (AD [5,45] [] Z Z (fun _=>Ka Z Z Z Z) (AD [11,45] [] Z Z (fun _=>Ka Z Z Z Z) (DM 6 Z Z Z (BI 7 Z Z (Ay Z Z Z Z (AF ⟨rfl,?_⟩))))));refine BI 8 Z Z (Ay Z Z Z Z (AF ⟨rfl,?_⟩));refine BI 9 Z Z (Ay Z Z Z Z (AF ⟨rfl,?_⟩));refine BI 10 Z Z (J (Ey Z Z Z Z) (AF ⟨rfl,?_⟩));refine BI 11 Z Z (AC Z Z (AF ⟨rfl,?_⟩));refine DL (AD [1,52] [] Z Z (fun _=>Ka Z Z Z Z) (AD [4,52] [] Z Z (fun _=>Ka Z Z Z Z) (AD [9,52] [] Z Z (fun _=>Ka Z Z Z Z) (AD [54,55,52] [] Z Z (fun _=>Ka Z Z Z Z) ?_))));refine AD [56,52] [] Z Z (fun _=>Ka Z Z Z Z) (AD [4,52] [] Z Z (fun _=>Ka Z Z Z Z) (AD [11,52] [] Z Z (fun _=>Ka Z Z Z Z) (AD [58,59,52] [] Z Z (fun _=>Ka Z Z Z Z) (AD [60,52] [] Z Z (fun _=>Ka Z Z Z Z) (DM 20 Z Z Z (BI 21 Z Z (Ay Z Z Z Z (AF ⟨rfl,?_⟩))))))));refine BI 22 Z Z (J (Ey Z Z Z Z) (AF ⟨rfl,?_⟩));refine ED (D4 Z Z (Ai (Nb 10 (.d (Ak (decide (PJ w ord i (k+1))))) rfl (by first | exact LD (fun e=>h45 (by rw [e])) h52 ((CB hw hil2 hkl2 (fun e=>h45 (by rw [e]))).1 h63) | exact PM (.inr (.inr fun hh=>h63 ((CB hw hil2 hkl2 (fun e=>h45 (by rw [e]))).2 hh))) | exact PM (.inr (.inl (Classical.not_not.1 h52))) | exact PM (.inl (Int.ofNat.inj (Classical.not_not.1 h45)).symm)) (AI (AC Z Z (J (Cm Z Z (IntWalk.i64_in _ (by omega)) rfl) (AE Z Z (AF ?_))))))));exact ⟨k+1,hkl,by omega,BC hF [20,21,30,31] rfl (rfl) ⟨rfl,rfl,rfl,rfl,rfl,rfl,rfl,rfl,rfl,trivial⟩⟩
   ·refine Dq (AG ?_);have hkn:n=k:=by have:=h39;omega
    subst hkn;refine AI (AC Z Z (AF ?_))
    first | refine BA rfl (fun h64=>?_) (fun h64=>?_) | refine Az rfl (fun h64=>?_) (fun h64=>?_)
    ·refine AI ?_;refine AC Z Z (AE Z Z (AF (AI (AC Z Z (J (DW Z Z (IntWalk.i64_in _ (by omega)) rfl) (NM 30 (.d (Bv ((n:Int) - 1 - ((d+1:Nat):Int)))) rfl (eqI (by omega)) (AE Z Z (AF ?_))))))));exact ⟨(d+1,some i),⟨hdl,hie2▸lrd_hit hil2 ((OA (OC hw)).1 (by rw [hn];exact h64))⟩,by show n - (d+1)<n - d;omega,BC hF [20,21,30,31] rfl (rfl) ⟨rfl,rfl,rfl,rfl,rfl,rfl,rfl,trivial⟩⟩
    ·refine Ai (AI (AC Z Z (J (DW Z Z (IntWalk.i64_in _ (by omega)) rfl) (NM 30 (.d (Bv ((n:Int) - 1 - ((d+1:Nat):Int)))) rfl (eqI (by omega)) (AE Z Z (AF ?_))))));exact ⟨(d+1,o),⟨hdl,hie2▸Q3 (hie3▸hLA) (by rw [Bool.eq_false_iff];exact fun hc=>h64 (by have:=(OA (OC hw)).2 hc;rw [hn] at this;exact this))⟩,by show n - (d+1)<n - d;omega,BC hF [20,21,30,31] rfl (rfl) ⟨rfl,rfl,rfl,rfl,rfl,rfl,rfl,trivial⟩⟩
  ·refine Dq (AG (AG ?_));have hdn:n - d=0:=by have:=h28;omega
   rw [hdn] at hLA;refine AI (AC Z Z ?_)
   first | refine J (Ed Z Z Z) ?_ | refine J (Ef Z Z Z) ?_
   refine AF ?_
   first | refine BA rfl (fun h67=>?_) (fun h67=>?_) | refine Az rfl (fun h67=>?_) (fun h67=>?_)
   ·refine AG (AI (AE Z Z (AE Z Z (AF (Au ?_)))));have hon:o=none:=by cases o with | none=>rfl | some x=>exact absurd h67 (by show ¬((x:Int)<0);omega)
    obtain ⟨g1,g2⟩:=LB (hI.stop (by omega) (MB fun i hi=>hLA.nn hon i (Nat.zero_le _) hi));exact ⟨_,[],[],Aq rfl,rfl,rfl,by rw [g2];rfl,rfl⟩
   ·refine Ai (AG ?_);obtain ⟨x,hx⟩:∃x,o=some x:=by cases o with | none=>exact absurd (show encR none<0 by decide) h67 | some x=>exact ⟨x,rfl⟩
    subst hx;obtain ⟨hx2,hxr,hxm⟩:=hLA.so x rfl;have hxl:x<n:=by omega
    have hnx:=Em hx2 hxr (fun j hj=>hxm j (Nat.zero_le _) hj);obtain ⟨_,hxo,_⟩:=ET hnx;refine Nb 8 (.d (natD x)) Z Z (AI (AC Z Z (AC Z Z ?_)))
    first | refine J (BE (x) Z Z (rfl) (hxl) Try.underlying99 rfl PL rfl) ?_ | refine J (BF (x) Z Z (rfl) (hxl) rfl Try.underlying99 PL rfl) ?_
    refine U (Zcs Z Z Z Z Z (by rw [Lj];exact hxl) Li rfl PL) (AF (AG (AI (AC Z Z (AC Z Z ?_)))))
    first | refine J (BE (x) Z Z (rfl) (JX hx2) Try.underlying79 rfl CG rfl) ?_ | refine J (BF (x) Z Z (rfl) (JX hx2) rfl Try.underlying79 CG rfl) ?_
    first | refine J (AX Z Z AL rfl) ?_ | refine J (AU Z Z Z AL rfl) ?_ | refine J (AW Z Z (rfl) rfl AL rfl) ?_
    refine J (Ml zl76 pl76 Z Z Z) (U (HG 40 zl76 Z Z Z Z) (U (Bm Z Z Z Z Z Z Z HJ) ?_));refine AF (AG (AG (AI (AE Z Z (AF (B7 (D1 40 0 1 41 FP Z Z Z Z Z Z Z (FC (α:=Nat×List Nat) (fun q=>⟨110,[(1,(.ptr 20 0 0)),(4,(.d (DD (parts w)))),(5,(.own 21 0 n)),(6,(.own 30 0 gs.length)),(7,(.own 31 0 ord.length)),(8,(.d (natD x))),(12,(.ptr 40 0 0)),(13,(.d (natD q.1)))],[JL 20 w,(21,[.rowD 4 1 (J6 n (ord++ [x]))]),(30,[.rowD 76 2 (gs.map Hy)]),(31,[.rowD 3 1 (ord.map natD)]),(40,[.blk 76 [.d (stsD ((parts w).getD x [])),.own 41 0 q.2.length]]),(41,[.rowD 3 1 (q.2.map natD)])]⟩) (fun q=>q.1≤ord.length∧q.2=aftT w ord x q.1) (fun q=>ord.length - q.1) ((0,[])) (⟨Nat.zero_le _,rfl⟩) (BC hF [20,21,30,31,40,41] Z Z ⟨rfl,rfl,rfl,rfl,rfl,rfl,rfl,rfl,trivial⟩) ?_))))))));rintro ⟨p,acc⟩ ⟨hp,hacc⟩;dsimp only at hp hacc⊢;refine AG (AG (AI (AC Z Z (AC Z Z ?_))))
    first | refine J (J0 rfl Try.underlying49 rfl) ?_ | refine J (Br Z Z Try.underlying49 rfl) ?_ | refine J (JW rfl Try.underlying49 rfl) ?_ | refine J (JY rfl Try.underlying49 rfl) ?_ | refine J (JV rfl Try.underlying49 rfl) ?_ | refine J (JP rfl Try.underlying49 rfl) ?_
    first | refine J (Ed Z Z Z) ?_ | refine J (Ef Z Z Z) ?_
    refine AF ?_
    first | refine BA rfl (fun h79=>?_) (fun h79=>?_) | refine Az rfl (fun h79=>?_) (fun h79=>?_)
    ·refine Ai (AG (B7 (AG ?_)));have hpl2:p<ord.length:=HB h79;have hyl:C6 ord p<(parts w).length:=hI.good.lt _ (Fg hpl2);have hal:acc.length≤4096:=by have:=Mh w ord x p;rw [←hacc] at this;omega
     refine Ee [[],[],[],[1,2],[1,2,3],[],[],[],[6,7],[6,7,8],[5,6,7,8,9],[5,6,7,8,9,10],[0,1,2,3,4,5,6,7,8,9,10,11]] mixed rfl (DL ?_)
     first | refine AD [1] [20] Z Z (fun _=>AB (BN Z Z AK rfl)) ?_ | refine AD [1] [20] Z Z (fun _=>AB (BO Z Z AK Z Z Z)) ?_ | refine AD [1] [20] Z Z (fun _=>AB (BP Z Z (rfl) rfl AK rfl)) ?_
     first | refine AD [4] [] Z Z (fun _=>AB (A9 Z Z)) ?_ | refine AH [4] Z Z (fun _=>AB (A9 Z Z)) ?_
     first | refine AD [8] [] Z Z (fun _=>AB (A9 Z Z)) ?_ | refine AH [8] Z Z (fun _=>AB (A9 Z Z)) ?_
     first | refine AD [83,84] [] Z Z (fun _=>AB (BE (x) Z Z (rfl) (JX hx2) Try.underlying79 rfl CG rfl)) ?_ | refine AH [83,84] Z Z (fun _=>AB (BE (x) Z Z (rfl) (JX hx2) Try.underlying79 rfl CG rfl)) ?_ | refine AD [83,84] [] Z Z (fun _=>AB (BF (x) Z Z (rfl) (JX hx2) rfl Try.underlying79 CG rfl)) ?_ | refine AH [83,84] Z Z (fun _=>AB (BF (x) Z Z (rfl) (JX hx2) rfl Try.underlying79 CG rfl)) ?_
     first | refine AD [85] [] Z Z (fun _=>AB (AX Z Z AL rfl)) ?_ | refine AH [85] Z Z (fun _=>AB (AX Z Z AL rfl)) ?_ | refine AD [85] [] Z Z (fun _=>AB (AU Z Z Z AL rfl)) ?_ | refine AH [85] Z Z (fun _=>AB (AU Z Z Z AL rfl)) ?_ | refine AD [85] [] Z Z (fun _=>AB (AW Z Z (rfl) rfl AL rfl)) ?_ | refine AH [85] Z Z (fun _=>AB (AW Z Z (rfl) rfl AL rfl)) ?_
     first | refine AD [4] [] Z Z (fun _=>AB (A9 Z Z)) ?_ | refine AH [4] Z Z (fun _=>AB (A9 Z Z)) ?_
     first | refine AD [7] [] Z Z (fun _=>AB (A9 Z Z)) ?_ | refine AH [7] Z Z (fun _=>AB (A9 Z Z)) ?_
     first | refine AD [13] [] Z Z (fun _=>AB (A9 Z Z)) ?_ | refine AH [13] Z Z (fun _=>AB (A9 Z Z)) ?_
     first | refine AD [88,89] [31] Z Z (fun _=>AB (BE (p) Z Z (rfl) (hpl2) Try.underlying49 rfl D7 rfl)) ?_ | refine AD [88,89] [31] Z Z (fun _=>AB (BF (p) Z Z (rfl) (hpl2) rfl Try.underlying49 D7 rfl)) ?_
     first | refine AD [90] [31] Z Z (fun _=>AB (AX Z Z Bf rfl)) ?_ | refine AD [90] [31] Z Z (fun _=>AB (AU Z Z Z Bf rfl)) ?_ | refine AD [90] [31] Z Z (fun _=>AB (AW Z Z (D0 hpl2) rfl Bf rfl)) ?_
     first | refine AD [87,91] [] Z Z (fun _=>AB (BE (C6 ord p) Z Z (rfl) (JX hyl) Try.underlying79 rfl CG rfl)) ?_ | refine AH [87,91] Z Z (fun _=>AB (BE (C6 ord p) Z Z (rfl) (JX hyl) Try.underlying79 rfl CG rfl)) ?_ | refine AD [87,91] [] Z Z (fun _=>AB (BF (C6 ord p) Z Z (rfl) (JX hyl) rfl Try.underlying79 CG rfl)) ?_ | refine AH [87,91] Z Z (fun _=>AB (BF (C6 ord p) Z Z (rfl) (JX hyl) rfl Try.underlying79 CG rfl)) ?_
     first | refine AD [92] [] Z Z (fun _=>AB (AX Z Z AL rfl)) ?_ | refine AH [92] Z Z (fun _=>AB (AX Z Z AL rfl)) ?_ | refine AD [92] [] Z Z (fun _=>AB (AU Z Z Z AL rfl)) ?_ | refine AH [92] Z Z (fun _=>AB (AU Z Z Z AL rfl)) ?_ | refine AD [92] [] Z Z (fun _=>AB (AW Z Z (rfl) rfl AL rfl)) ?_ | refine AH [92] Z Z (fun _=>AB (AW Z Z (rfl) rfl AL rfl)) ?_
     refine DM 12 Z Z Z (BI 13 Z Z (J (DE (KS w ((parts w).getD x []) ((parts w).getD (C6 ord p) []) hl (hpl _) (hpl _)) Z Z) (AF ⟨rfl,?_⟩)));refine ED ?_
     first | refine BA rfl (fun h94=>?_) (fun h94=>?_) | refine Az rfl (fun h94=>?_) (fun h94=>?_)
     ·refine AI ?_
      first | refine J (A1 rfl G2 Z Z Z) ?_ | refine J (A3 rfl G2 Z Z Z) ?_ | refine J (A4 rfl G2 Z Z Z) ?_ | refine J (A2 rfl G2 Z Z Z) ?_ | refine J (A0 rfl G2 Z Z Z) ?_
      first | refine J (AX Z Z Ae rfl) ?_ | refine J (AU Z Z Z Ae rfl) ?_ | refine J (AW Z Z (rfl) rfl Ae rfl) ?_
      refine AC Z Z (U (HC 42 FP Z Z Z Z Z Z Z Z) ?_)
      first | refine U (J1 (acc) ([p]) Z Z Z Z Z Z Z Z FP (by simp only [List.length_singleton];omega) Z Z Z Z) ?_ | refine U (K9 (acc) ([p]) Z Z Z Z Z Z (fun _=>rfl) FP (by simp only [List.length_singleton];omega) Z Z Z Z) ?_
      first | refine J (A1 rfl G2 Z Z Z) ?_ | refine J (A3 rfl G2 Z Z Z) ?_ | refine J (A4 rfl G2 Z Z Z) ?_ | refine J (A2 rfl G2 Z Z Z) ?_ | refine J (A0 rfl G2 Z Z Z) ?_
      refine U (Bm Z Z Z Z Z Z Z Cn) (AF (AI (AC Z Z (J (Cm Z Z (IntWalk.i64_in _ (by omega)) rfl) (AE Z Z (AF ?_))))));exact ⟨(p+1,acc++ [p]),⟨hpl2,by show _=aftT w ord x (p+1);rw [RQ ((CB hw hx2 hyl (fun e=>hxo (by rw [e];exact Fg hpl2))).1 h94),hacc]⟩,by show ord.length - (p+1)<ord.length - p;omega,BC hF [20,21,30,31,40,41] rfl (rfl) ⟨rfl,rfl,rfl,rfl,rfl,rfl,rfl,rfl,trivial⟩⟩
     ·refine Ai (AI (AC Z Z (J (Cm Z Z (IntWalk.i64_in _ (by omega)) rfl) (AE Z Z (AF ?_)))));exact ⟨(p+1,acc),⟨hpl2,by show _=aftT w ord x (p+1);rw [PE (fun hh=>h94 ((CB hw hx2 hyl (fun e=>hxo (by rw [e];exact Fg hpl2))).2 hh)),hacc]⟩,by show ord.length - (p+1)<ord.length - p;omega,BC hF [20,21,30,31,40,41] rfl (rfl) ⟨rfl,rfl,rfl,rfl,rfl,rfl,rfl,rfl,trivial⟩⟩
    ·refine Dq (AG ?_);have hpe:p=ord.length:=by have:=h79;omega
     have hac:acc=EY (depL w) ord x ord.length:=by rw [hacc,hpe];rfl
     refine CP (ys:=acc.map natD) 40 0 1 41 Z Z Z (Nat.le_of_eq (by rw [List.length_map])) (List.take_of_length_le (by rw [List.length_map];exact Nat.le_refl _)) Z Z Z Z Z Z ?_;rw [hac];refine AI (AC Z Z ?_)
     first | refine J (BN Z Z rw76 rfl) ?_ | refine J (BO Z Z rw76 Z Z Z) ?_ | refine J (BP Z Z (rfl) rfl rw76 rfl) ?_
     refine U (HC 43 sl73 Z Z Z Z Z Z Z Z) ?_
     first | refine U (J1 (gs) ([(⟨(parts w).getD x [],EY (depL w) ord x ord.length⟩:Grp)]) Z Z Z Z Z Z Z Z sl73 (by simp only [List.length_singleton];omega) Z Z Z Z) ?_ | refine U (K9 (gs) ([(⟨(parts w).getD x [],EY (depL w) ord x ord.length⟩:Grp)]) Z Z Z Z Z Z (fun _=>rfl) sl73 (by simp only [List.length_singleton];omega) Z Z Z Z) ?_
     refine AE Z Z (AF (AI (AC Z Z (AC Z Z (U (HC 44 FP Z Z Z Z Z Z Z Z) ?_)))))
     first | refine U (J1 (ord) ([x]) Z Z Z Z Z Z Z Z FP (by simp only [List.length_singleton];omega) Z Z Z Z) ?_ | refine U (K9 (ord) ([x]) Z Z Z Z Z Z (fun _=>rfl) FP (by simp only [List.length_singleton];omega) Z Z Z Z) ?_
     refine AE Z Z (AF ?_);exact ⟨(ord++ [x],gs++ [⟨(parts w).getD x [],EY (depL w) ord x ord.length⟩]),⟨hI.next (by omega) hnx,by show _=grpS w (ord++ [x]);rw [KQ,hgs]⟩,by show n - (ord++ [x]).length<n - ord.length;rw [List.length_append,List.length_singleton];omega,BC hF [20,21,30,31] rfl (rfl) ⟨rfl,rfl,rfl,rfl,rfl,trivial⟩⟩
 ·refine Dq (AG ?_);obtain ⟨g1,g2⟩:=IS (hI.fin (by have h1:=h23;have h2:gs.length=ord.length:=(by rw [hgs,FZ]);omega));refine Zcn (emb:=Hy) 6 30 gs Z Z Z Z Z Z Z (AI (AC Z Z (AE Z Z (AE Z Z (AF (Au ?_))))));exact ⟨_,[],[],Aq rfl,rfl,rfl,by rw [if_pos g2,g1,hgs],rfl⟩
end Go.Proofs.Ytlmedakidpaeeaa
