/- Proved here: gridlockCircles_holds, the given statement Rows.GridlockCirclesSaid: the law girolaw32.GridlockCircles returns true and does not panic, at every input that the statement speaks of; no condition beyond the statement. -/
/- 'girolaw32.GridlockCircles': for every input the law returns true, and each argument reads behind the call as it read before. No condition. -/
import Derived.Test.YteifpcnphnhaoaaGreatMg28
namespace Go.Proofs.YteifpcnphnhaoaaGreat
open Go.RowKit Go.Shelf
theorem cnt1 {l:List Int} {a:Int} (hn:l.Nodup) (h:a∈l):l.count a=1:=by
 have h1:=List.count_pos_iff.2 h;have h2:=List.nodup_iff_count.1 hn a;omega
theorem wt_hit {Q:Prop} {c w:List Int} {b b2:Bool} {n:Nat} (hn:n<w.length) (hb2:b2=true↔b=true∨(Q∧∃y,y∈w.take n∧y∈c)) (h:b2=true):(true=true)↔b=true∨(Q∧∃y,y∈w.take (n+1)∧y∈c):=by
 refine ⟨fun _=>(hb2.1 h).imp id fun ⟨q,y,hy,hc⟩=>⟨q,y,?_,hc⟩,fun _=>rfl⟩;rw [φ hn];exact ψn _ hy
theorem wt_new {Q:Prop} {c w:List Int} {b b2:Bool} {n:Nat} (hn:n<w.length) (hq:Q) (hnd:c.Nodup) (hb2:b2=true↔b=true∨(Q∧∃y,y∈w.take n∧y∈c)) (h:¬b2=true):(decide (((c.count w[n]:Nat):Int)=1)=true)↔b=true∨(Q∧∃y,y∈w.take (n+1)∧y∈c):=by
 have h1:(((c.count w[n]:Nat):Int)=1)↔w[n]∈c:=by
  constructor
  ·intro e;exact List.count_pos_iff.1 (by omega)
  ·intro hm;rw [cnt1 hnd hm];rfl
 rw [decide_eq_true_iff,h1,φ hn]
 constructor
 ·intro hm;exact .inr ⟨hq,_,ψh _ (ξ.2 Z),hm⟩
 ·rintro (hb | ⟨_,y,hy,hc⟩)
  ·exact absurd (hb2.2 (.inl hb)) h
  ·rcases υ.1 hy with hy | hy
   ·exact absurd (hb2.2 (.inr ⟨hq,y,hy,hc⟩)) h
   ·rwa [ξ.1 hy] at hc
theorem Y8 {L:List Int} {W:List (List Int)} {c:List Int} {x:Int} {b b2:Bool} {j n:Nat} (hj:j<L.length) (hjW:j<W.length) (hb:b=true↔∃(j':Nat) (h:j'<L.length) (h2:j'<W.length),j'<j∧L[j']=x∧∃y,y∈W[j']∧y∈c)
  (hb2:b2=true↔b=true∨(L[j]=x∧∃y,y∈W[j].take n∧y∈c)) (he:L[j]=x ->W[j].length≤n):b2=true↔∃(j':Nat) (h:j'<L.length) (h2:j'<W.length),j'<j+1∧L[j']=x∧∃y,y∈W[j']∧y∈c:=by
 rw [hb2,hb]
 constructor
 ·rintro (⟨j',h,h2,h3,h4⟩ | ⟨e,y,hy,hc⟩)
  ·exact ⟨j',h,h2,by omega,h4⟩
  ·exact ⟨j,hj,hjW,by omega,e,y,ωy hy,hc⟩
 ·rintro ⟨j',h,h2,h3,e,y,hy,hc⟩;rcases Nat.lt_succ_iff_lt_or_eq.1 h3 with h3 | rfl
  ·exact .inl ⟨j',h,h2,h3,e,y,hy,hc⟩
  ·exact .inr ⟨e,y,by rw [Θ (he e)];exact hy,hc⟩
set_option maxRecDepth 100000 in
set_option maxHeartbeats 4000000 in
theorem lawG5_p (p:Prb):AO Tryz.prog 7 [.d (Bs p)] (.raw (.bool true)):=by
 have hk:=Xh;have hs:=small_p p
 by_cases hf:Sml p
 ·rw [ωi hf] at hs;have hF:=few_sml hf;have g1:=hf.1;have g2:=hf.2.1;have c1:=own_p p hf
  by_cases hE:Al p=0
  ·have han:=Nn p hF hE;have hwf:=Y9 p hF hE;have hod:=F5 p hF.b;rw [show ordP p=Ay p.it from θ hE] at hod;have hll:=IS hE;have hgl:=PW hF;have hcz:=cirL_sz (rsP p) (entC p);have hCl:=Sl p;have hwz:=wtsL_sz (rsP p) (GQ p);have hWl:(wtsL (rsP p) (GQ p)).length=p.it.length:=by unfold wtsL;rw [ψ,Ns,N0]
   have hAl:=N0 p;have hck:=fun {c:List Int} (h:c∈cirL (rsP p) (entC p))=>cir_ok hE h;unfold repV at han
   obtain ⟨R3,hR3⟩:∃x,compL (rsP p) (Lg p (largeS p))=x:=⟨_,Z⟩
   obtain ⟨R4,hR4⟩:∃x,cirL (rsP p) (entC p)=x:=⟨_,Z⟩
   obtain ⟨R5,hR5⟩:∃x,bksL p=x:=⟨_,Z⟩
   rw [hR3,hR4,hR5] at han;rw [hR4] at hck hcz
   obtain ⟨L,hL⟩:∃x,(Ay p.it).map AK.id=x:=⟨_,Z⟩
   have hLl:L.length=p.it.length:=by rw [←hL,ψ,YN]
   rw [hL] at hod hck
   obtain ⟨W,hW⟩:∃x,wtsL (rsP p) (GQ p)=x:=⟨_,Z⟩
   rw [hW] at hwf hwz hck hWl;refine BB Tryz.func7 Z Z Tryz.ntmps7 Z Z Z fun F hF=>(AC (AE (V (Bz 1 Z Z Z Z Z Z Z) (AB Z Z (AD (AC (AC (AE ?_))))))));refine J (B2 (hk) Z Z) (J (OC Z Z) (goMv Z Z (Iq 17 Z (Z) (Aj Z Z Z (J (BM Z Z ZY Z Z Z) (Aj Z Z Z (J (B2 (hs) Z Z) (Aj Z Z Z ?_))))))));refine J (OC Z Z) (J (Da Z Z Z Z) (AD (D9 Z (Z) (A3 (AC (AE (J (BM Z Z ZY Z Z Z) (J (B2 (c1) Z Z) ?_))))))));refine V (CF 3 Y1 Z Z Z Z) (V (Bi Z Z Z Z Z Z Z sz39) (AD (AC (AE (J (BM Z Z BW Z Z Z) (J (B2 (han) Z Z) (goMv Z Z (J (DD Z Z Z) ?_))))))));refine J (DD Z Z Z) (V (CF 4 Qo Z Z Z Z) (V (Bi Z Z Z Z Z Z Z Yt) (AB Z Z (AD (AC (AE (J (BM Z Z BW Z Z Z) (J (B2 (hwf) Z Z) ?_))))))));refine goMv Z Z (J (DD Z Z Z) (J (DD Z Z Z) (AB Z Z (AB Z Z (AD (AC (AC (AE ?_))))))));refine goMv Z Z (J (D6 Z Z Z) (goMv Z Z (Iq 37 Z (Z) (Aj Z Z Z (goMv Z Z (Aj Z Z Z (J (D6 Z Z Z) (J (Da Z Z Z Z) ?_))))))));refine AD (D9 Z (Z) (A3 (AC (AE (J (BM Z Z BW Z Z Z) (J (B2 (hod) Z Z) (AB Z Z (AD ?_))))))));refine AC (AC (AE (goMv Z Z (J (I5 Z (ψ ..) Tryz.underlying29 Z) (goMv Z Z (J (I5 Z (ψ ..) Tryz.underlying28 Z) (J (D6 Z Z Z) (AD ?_))))))));refine D9 Z (by rw [hWl,hLl];simp) (A3 (AC (AC (AE (AB Z Z (AD (A5 (B7 (α:=Nat) (fun k=>⟨133,[(4,(.ptr 4 0 0)),(6,(.d (Lz W))),(8,(.d (Hh L))),(9,(.d (AF (k:Int))))],[(4,[.blk 32 [.d (Hh (largeS p)),.d (Hh (Bp p)),.d (Lz R3),.d (Lz R4),.d (.sl none (R5.map bkD))]])]⟩) (fun k=>k≤R4.length) (fun k=>R4.length - k) (0) (ς _) (A1 hF [4] Z Z ⟨Z,Z,Z,Z,trivial⟩) ?_))))))));rintro k hk0;refine AC ?_;refine AC (AE (goMv Z Z (J (A4 Z fi32_3 Z Z Z) (J (A9 Z Z Z on29 Z) (J (I5 Z (ψ ..) Tryz.underlying29 Z) (J (BR Z Z Z) (AD (Ae Z (fun h55=>?_) (fun h55=>?_)))))))))
   ·refine A3 (AC (A5 (AC ?_)));have hk1:k<R4.length:=Bf h55;obtain ⟨q1,q2,q3,q4,q5⟩:=hck (κ hk1)
    obtain ⟨c,hcE⟩:∃c,R4[k]=c:=⟨_,Z⟩
    rw [hcE] at q1 q2 q3 q4 q5;refine AE (J (A4 Z fi32_3 Z Z Z) (J (A9 Z Z Z on29 Z) (goMv Z Z (J (Be (k) Z Z (Z) ((show (R4.map Hh)[k]? =some (Hh c) from by rw [Ah hk1,hcE])) Tryz.underlying29 Z CZ Z) ?_))));refine J (Cr Z Z BH Z) (AB Z Z (AD (AC (AC (AE (goMv Z Z (J (CO Z Tryz.underlying28 Z) (J (BR Z Z Z) ?_))))))));refine AD (D9 Z (ωp (by omega)) (A3 (AC (AE (AB Z Z (AD (A5 (B7 (α:=Nat) (fun m=>⟨133,[(4,(.ptr 4 0 0)),(6,(.d (Lz W))),(8,(.d (Hh L))),(9,(.d (AF (k:Int)))),(10,(.d (Hh c))),(11,(.d (AF (m:Int))))],[(4,[.blk 32 [.d (Hh (largeS p)),.d (Hh (Bp p)),.d (Lz R3),.d (Lz R4),.d (.sl none (R5.map bkD))]])]⟩) (fun m=>m≤c.length) (fun m=>c.length - m) (0) (ς _) (A1 hF [4] Z Z ⟨Z,Z,Z,Z,Z,Z,trivial⟩) ?_))))))));rintro m hm0;refine AC (AC (AE (goMv Z Z (goMv Z Z (J (I5 Z (ψ ..) Tryz.underlying28 Z) (J (BR Z Z Z) (AD (Ae Z (fun h69=>?_) (fun h69=>?_)))))))))
    ·refine A3 (AC (A5 (AC ?_)));have hm1:m<c.length:=Bf h69;have hcm:=κ hm1
     obtain ⟨x,hxE⟩:∃x,c[m]=x:=⟨_,Z⟩
     have hxg:(c.map AF)[m]? =some (AF x):=by rw [Ah hm1,hxE]
     rw [hxE] at hcm;refine AE ?_;refine AB Z Z (AD (AC (AC (AE (AB Z Z (AD (A5 (B7 (α:=Nat×Bool) (fun q=>⟨133,[(4,(.ptr 4 0 0)),(6,(.d (Lz W))),(8,(.d (Hh L))),(9,(.d (AF (k:Int)))),(10,(.d (Hh c))),(11,(.d (AF (m:Int)))),(12,(.d (Ai q.2))),(13,(.d (AF (q.1:Int))))],[(4,[.blk 32 [.d (Hh (largeS p)),.d (Hh (Bp p)),.d (Lz R3),.d (Lz R4),.d (.sl none (R5.map bkD))]])]⟩) (fun q=>q.1≤L.length∧(q.2=true↔∃(j:Nat) (h:j<L.length) (h2:j<W.length),j<q.1∧L[j]=x∧∃y,y∈W[j]∧y∈c)) (fun q=>L.length - q.1) ((0,false)) (⟨ς _,⟨(fun h=>by cases h),fun ⟨j,_,_,h,_⟩=>absurd h (Nat.not_lt_zero j)⟩⟩) (A1 hF [4] Z Z ⟨Z,Z,Z,Z,Z,Z,Z,Z,trivial⟩) ?_))))))));rintro ⟨j,b⟩ ⟨hj0,hb⟩;dsimp only at hj0 hb⊢;refine AC (AC (AE (goMv Z Z (goMv Z Z (J (I5 Z (ψ ..) Tryz.underlying28 Z) (J (BR Z Z Z) (AD (Ae Z (fun h75=>?_) (fun h75=>?_)))))))))
     ·refine A3 (AC (A5 (AC ?_)));have hj1:j<L.length:=Bf h75;have hjW:j<W.length:=by omega
      have hwl:=hwz.2 _ (κ hjW);refine AE (AB Z Z (AD (A5 (B7 (α:=Nat×Bool) (fun q=>⟨133,[(4,(.ptr 4 0 0)),(6,(.d (Lz W))),(8,(.d (Hh L))),(9,(.d (AF (k:Int)))),(10,(.d (Hh c))),(11,(.d (AF (m:Int)))),(12,(.d (Ai q.2))),(13,(.d (AF (j:Int)))),(14,(.d (AF (q.1:Int))))],[(4,[.blk 32 [.d (Hh (largeS p)),.d (Hh (Bp p)),.d (Lz R3),.d (Lz R4),.d (.sl none (R5.map bkD))]])]⟩) (fun q=>q.1≤W[j].length∧(0<q.1 ->L[j]=x)∧(q.2=true↔b=true∨(L[j]=x∧∃y,y∈W[j].take q.1∧y∈c))) (fun q=>W[j].length - q.1) ((0,b)) (⟨ς _,(fun h=>absurd h (χx 0)),⟨.inl,fun h=>h.resolve_right fun ⟨_,y,h,_⟩=>by cases h⟩⟩) (A1 hF [4] Z Z ⟨Z,Z,Z,Z,Z,Z,Z,Z,Z,trivial⟩) ?_))));rintro ⟨n,b2⟩ ⟨hn0,hnx,hb2⟩;dsimp only at hn0 hnx hb2⊢;refine AC (AC (Ch [[],[],[],[1,2],[1,2,3],[1,2,3,4],[0,1,2,3,4,5],[0,1,2,3,4,5,6],[0,1,2,3,4,5,6,7],[0,1,2,3,4,5,6,7],[0,1,2,3,4,5,6,7,8,9],[0,1,2,3,4,5,6,7,8,9,10],[0,1,2,3,4,5,6,7],[0,1,2,3,4,5,6,7],[0,1,2,3,4,5,6,7,12,13],[0,1,2,3,4,5,6,7,12,13,14],[0,1,2,3,4,5,6,7,8,9,10,11,12,13,14,15],[0,1,2,3,4,5,6,7,8,9,10,11,12,13,14,15,16]] mixed Z (Cq (AJ [14] [] Z Z (fun _=>AG (Ak Z Z)) ?_))));refine AJ [6] [] Z Z (fun _=>AG (Ak Z Z)) (AJ [13] [] Z Z (fun _=>AG (Ak Z Z)) (AJ [79,80] [] Z Z (fun _=>AG (Be (j) Z Z (Z) (Ah hjW) Tryz.underlying29 Z CZ Z)) (AJ [81] [] Z Z (fun _=>AG (Cr Z Z BH Z)) (AJ [82] [] Z Z (fun _=>AG (I5 Z (ψ ..) Tryz.underlying28 Z)) (C5 6 Z Z Z (Af 7 Z Z (J (BR Z Z Z) (AD ⟨Z,?_⟩))))))));refine Af 8 Z Z (goMv Z Z (Ia 85 Z (fun h85=>?_) (fun h85=>?_)))
      ·refine AD ⟨Z,?_⟩;refine Cq (AJ [8,85] [] Z Z (fun _=>JI Z Z Z (Ak Z Z)) (AJ [13,85] [] Z Z (fun _=>JI Z Z Z (Ak Z Z)) (AJ [86,87,85] [] Z Z (fun _=>JI Z Z Z (Be (j) Z Z (Z) (Ah hj1) Tryz.underlying28 Z BE Z)) (AJ [88,85] [] Z Z (fun _=>JI Z Z Z (Cr Z Z Aq Z)) ?_))));refine AJ [10,85] [] Z Z (fun _=>JI Z Z Z (Ak Z Z)) (AJ [11,85] [] Z Z (fun _=>JI Z Z Z (Ak Z Z)) (AJ [90,91,85] [] Z Z (fun _=>JI Z Z Z (Be (m) Z Z (Z) (hxg) Tryz.underlying28 Z BE Z)) (AJ [92,85] [] Z Z (fun _=>JI Z Z Z (Cr Z Z Aq Z)) (C5 16 Z Z Z (Af 17 Z Z (Aj Z Z Z (J (JL Z Z Z) (AD ⟨Z,?_⟩))))))));refine Af 18 Z Z (J (FO Z Z Z Z) (AD ⟨Z,?_⟩));refine C9 (Ae Z (fun h95=>?_) (fun h95=>?_))
       ·refine A3 (AC (A5 ?_));have hn1:n<W[j].length:=Bf h85;have hLx:L[j]=x:=h95;refine AE (goMv Z Z (goMv Z Z (J4 99 Z (fun h99=>?_) (fun h99=>?_))))
        ·refine Aa Z Z Z Z (Aa Z Z Z Z (Aa Z Z Z Z (Aa Z Z Z Z (Aa Z Z Z Z (Aa Z Z Z Z (Aa Z Z Z Z (Aa Z Z Z Z (Aa Z Z Z Z ?_))))))));refine Aa Z Z Z Z (J (FO Z Z Z Z) (AB Z Z (AD (AE (goMv Z Z (J (BA Z Z (AT (n+1) (by omega)) Z) (AB Z Z (AD ?_))))))));exact ⟨(n+1,true),⟨hn1,(fun _=>hLx),wt_hit hn1 hb2 h99⟩,by show W[j].length - (n+1)<W[j].length - n;omega,A1 hF [4] Z (Z) ⟨Z,Z,Z,Z,Z,Z,Z,Z,Z,trivial⟩⟩
        ·refine Aj Z Z Z ?_;refine goMv Z Z (Aj Z Z Z (goMv Z Z (Aj Z Z Z (goMv Z Z (Aj Z Z Z (J (Be (j) Z Z (Z) (Ah hjW) Tryz.underlying29 Z CZ Z) (Aj Z Z Z (J (Cr Z Z BH Z) ?_))))))));refine Aj Z Z Z (goMv Z Z (Aj Z Z Z (J (Be (n) Z Z (Z) (Ah hn1) Tryz.underlying28 Z BE Z) (Aj Z Z Z (J (Cr Z Z Aq Z) (Aj Z Z Z (J (B2 (LB c W[j][n] (by omega)) Z Z) (Aj Z Z Z ?_))))))));refine J (JL Z Z Z) (J (Da Z Z Z Z) (AB Z Z (AD (AE (goMv Z Z (J (BA Z Z (AT (n+1) (by omega)) Z) (AB Z Z (AD ?_))))))));exact ⟨(n+1,decide (((c.count W[j][n]:Nat):Int)=1)),⟨hn1,(fun _=>hLx),wt_new hn1 hLx q3 hb2 (by simpa using h99)⟩,by show W[j].length - (n+1)<W[j].length - n;omega,A1 hF [4] Z (Z) ⟨Z,Z,Z,Z,Z,Z,Z,Z,Z,trivial⟩⟩
       ·refine BF ?_;have hfin:=Y8 hj1 hjW hb hb2 (by first | exact fun e=>absurd e h95 | exact fun _=>(by have:=h85;omega));refine AE (goMv Z Z (J (BA Z Z (Ω _ (by omega)) Z) (AB Z Z (AD ?_))));exact ⟨(j+1,b2),⟨hj1,hfin⟩,by show L.length - (j+1)<L.length - j;omega,A1 hF [4] Z (Z) ⟨Z,Z,Z,Z,Z,Z,Z,Z,trivial⟩⟩
      ·refine AD ⟨Z,?_⟩;refine Cq (AJ [8,85] [] Z Z (fun _=>Fc Z Z Z Z) (AJ [13,85] [] Z Z (fun _=>Fc Z Z Z Z) (AJ [86,87,85] [] Z Z (fun _=>Fc Z Z Z Z) ?_)));refine AJ [88,85] [] Z Z (fun _=>Fc Z Z Z Z) (AJ [10,85] [] Z Z (fun _=>Fc Z Z Z Z) (AJ [11,85] [] Z Z (fun _=>Fc Z Z Z Z) (AJ [90,91,85] [] Z Z (fun _=>Fc Z Z Z Z) (AJ [92,85] [] Z Z (fun _=>Fc Z Z Z Z) (C5 16 Z Z Z (Af 17 Z Z (Aa Z Z Z Z (AD ⟨Z,?_⟩))))))));refine Af 18 Z Z (J (Da Z Z Z Z) (AD ⟨Z,?_⟩));refine C9 (D9 Z Z (BF ?_));have hfin:=Y8 hj1 hjW hb hb2 (by first | exact fun e=>absurd e h95 | exact fun _=>(by have:=h85;omega));refine AE (goMv Z Z (J (BA Z Z (Ω _ (by omega)) Z) (AB Z Z (AD ?_))));exact ⟨(j+1,b2),⟨hj1,hfin⟩,by show L.length - (j+1)<L.length - j;omega,A1 hF [4] Z (Z) ⟨Z,Z,Z,Z,Z,Z,Z,Z,trivial⟩⟩
     ·refine BF (AC ?_);have hbt:b=true:=hb.2 (by obtain ⟨m',h,h2,e,y,hy,hyc⟩:=q5 x hcm;exact ⟨m',h,h2,by have:=h75;omega,e,y,hy,hyc⟩);subst hbt;have hc1:=LB (largeS p) x (by omega);have hc0:=LB (Bp p) x (by omega);rw [cnt1 (Fb hE) (q4 x hcm).1] at hc1;rw [List.count_eq_zero.2 (q4 x hcm).2] at hc0;refine Ch [[],[0],[0,1],[0,1,2],[0,1,2,3],[0,1,2],[0,1,2],[0,1,2,5,6],[0,1,2,5,6,7],[0,1,2,3,4,5,6,7,8],[0,1,2,3,4,5,6,7,8,9],[0,1,2,3,4,5,6,7,8,9,10],[0,1,2,3,4,5,6,7,8,9,10,11],[0,1,2,3,4,5,6,7,8,9,10,11,12],[0,1,2,3,4,5,6,7,8,9,10,11,12,13],[0,1,2,3,4,5,6,7,8,9,10,11,12],[0,1,2,3,4,5,6,7,8,9,10,11,12],[0,1,2,3,4,5,6,7,8,9,10,11,12,15,16],[0,1,2,3,4,5,6,7,8,9,10,11,12,15,16,17],[0,1,2,3,4,5,6,7,8,9,10,11,12,13,14,15,16,17,18],[0,1,2,3,4,5,6,7,8,9,10,11,12,13,14,15,16,17,18,19],[0,1,2,3,4,5,6,7,8,9,10,11,12,13,14,15,16,17,18,19,20]] mixed Z (Af 1 Z Z (goMv Z Z (AD ⟨Z,?_⟩)));refine Af 2 Z Z (J (OC Z Z) (AD ⟨Z,?_⟩));refine Af 3 Z Z (goMv Z Z (Iq 113 Z (Z) (AD ⟨Z,?_⟩)));refine Cq (AJ [4,113] [] Z Z (fun _=>JI Z Z Z (A4 Z fi32_0 Z Z Z)) (Av [114,113] Z Z (fun _=>JI Z Z Z (A9 Z Z Z BH Z)) ?_));refine AJ [10,113] [] Z Z (fun _=>JI Z Z Z (Ak Z Z)) (AJ [11,113] [] Z Z (fun _=>JI Z Z Z (Ak Z Z)) (AJ [116,117,113] [] Z Z (fun _=>JI Z Z Z (Be (m) Z Z (Z) (hxg) Tryz.underlying28 Z BE Z)) (AJ [118,113] [] Z Z (fun _=>JI Z Z Z (Cr Z Z Aq Z)) (C5 9 Z Z Z (Af 10 Z Z (Aj Z Z Z (J (B2 (hc1) Z Z) (AD ⟨Z,?_⟩))))))));refine Af 11 Z Z (Aj Z Z Z (J (D6 Z Z Z) (AD ⟨Z,?_⟩)));refine Af 12 Z Z (J (Da Z Z Z Z) (AD ⟨Z,?_⟩));refine Af 13 Z Z (goMv Z Z (Iq 123 Z (by simp) (AD ⟨Z,?_⟩)));refine Cq (AJ [4,123] [] Z Z (fun _=>JI Z Z Z (A4 Z fi32_1 Z Z Z)) (Av [124,123] Z Z (fun _=>JI Z Z Z (A9 Z Z Z BH Z)) ?_));refine AJ [10,123] [] Z Z (fun _=>JI Z Z Z (Ak Z Z)) (AJ [11,123] [] Z Z (fun _=>JI Z Z Z (Ak Z Z)) (AJ [126,127,123] [] Z Z (fun _=>JI Z Z Z (Be (m) Z Z (Z) (hxg) Tryz.underlying28 Z BE Z)) (AJ [128,123] [] Z Z (fun _=>JI Z Z Z (Cr Z Z Aq Z)) (C5 19 Z Z Z (Af 20 Z Z (Aj Z Z Z (J (B2 (hc0) Z Z) (AD ⟨Z,?_⟩))))))));refine Af 21 Z Z (Aj Z Z Z (J (D6 Z Z Z) (AD ⟨Z,?_⟩)));refine Af 22 Z Z (J (Da Z Z Z Z) (AD ⟨Z,?_⟩));refine C9 (D9 Z (by simp) (A3 (AE (goMv Z Z (J (BA Z Z (AT (m+1) (by omega)) Z) (AB Z Z (AD ?_)))))));exact ⟨m+1,(by show m+1≤_;omega),by show c.length - (m+1)<c.length - m;omega,A1 hF [4] Z (Z) ⟨Z,Z,Z,Z,Z,Z,trivial⟩⟩
    ·refine BF (AE (goMv Z Z (J (BA Z Z (Ω _ (by omega)) Z) (AB Z Z (AD ?_)))));exact ⟨k+1,(by show k+1≤_;omega),by show R4.length - (k+1)<R4.length - k;omega,A1 hF [4] Z (Z) ⟨Z,Z,Z,Z,trivial⟩⟩
   ·refine BF (AC (AE (AB Z Z (AD (A8 ?_)))));exact ⟨_,[],_,A6 Z,Z,Z,Z,Z⟩
  ·have han:=Q9 p hF hE;have hwf:=Tn p hF.b hE;refine BB Tryz.func7 Z Z Tryz.ntmps7 Z Z Z fun F hF=>(AC (AE (V (Bz 1 Z Z Z Z Z Z Z) (AB Z Z (AD (AC (AC ?_)))))));refine AE (J (B2 (hk) Z Z) (J (OC Z Z) (goMv Z Z (Iq 17 Z (Z) (Aj Z Z Z (J (BM Z Z ZY Z Z Z) (Aj Z Z Z (J (B2 (hs) Z Z) ?_))))))));refine Aj Z Z Z (J (OC Z Z) (J (Da Z Z Z Z) (AD (D9 Z (Z) (A3 (AC (AE (J (BM Z Z ZY Z Z Z) ?_))))))));refine J (B2 (c1) Z Z) (V (CF 3 Y1 Z Z Z Z) (V (Bi Z Z Z Z Z Z Z sz39) (AD (AC (AE (J (BM Z Z BW Z Z Z) (J (B2 (han) Z Z) (goMv Z Z ?_))))))));refine J (DD Z Z Z) (J (DD Z Z Z) (V (CF 4 Qo Z Z Z Z) (V (Bi Z Z Z Z Z Z Z Yt) (AB Z Z (AD (AC (AE (J (BM Z Z BW Z Z Z) ?_))))))));refine J (B2 (hwf) Z Z) (goMv Z Z (J (DD Z Z Z) (J (DD Z Z Z) (AB Z Z (AB Z Z (AD (AC (AC ?_))))))));refine AE (goMv Z Z (J (D6 Z Z Z) (goMv Z Z (G7 37 Z (ωi hE) (Aa Z Z Z Z (Aa Z Z Z Z (J (FO Z Z Z Z) (AD ?_))))))));refine DP Z Z (AC (AE (goMv Z Z (goMv Z Z (J (JL Z Z Z) (AB Z Z (AD (A8 ?_))))))));exact ⟨_,[],_,A6 Z,Z,Z,by simp,Z⟩
 ·rw [ωp hf] at hs;refine BB Tryz.func7 Z Z Tryz.ntmps7 Z Z Z fun F hF=>?_;refine AC (AE (V (Bz 1 Z Z Z Z Z Z Z) (AB Z Z (AD (AC (AC (AE (J (B2 (hk) Z Z) ?_))))))));refine J (OC Z Z) (goMv Z Z (Iq 17 Z (Z) (Aj Z Z Z (J (BM Z Z ZY Z Z Z) (Aj Z Z Z (J (B2 (hs) Z Z) (Aj Z Z Z (J (OC Z Z) ?_))))))));refine J (Da Z Z Z Z) (AD (DP Z (Z) (AC (AE (J (B2 (hk) Z Z) (AB Z Z (AD (A8 ?_))))))));exact ⟨_,[],_,A6 Z,Z,Z,Z,Z⟩
end Go.Proofs.YteifpcnphnhaoaaGreat
namespace Go.Proofs.YteifpcnphnhaoaaGreat
open Go.ChangeShapes Go.WideShapes Go.ChangeAt Go.RowKit
set_option maxRecDepth 100000 in
theorem gridlockCircles_lifted (os:Os) (started:os.Started) (H:Type) (enc:TypeId×Value ->H):
  ReturnsInHanded {} Tryz.checked os 7 .any (Rows.gridlockCirclesSpec.pre6 enc Tryz.prog Tryz.f7 Rows.gridlockCirclesRow.domain false) (Rows.gridlockCirclesSpec.post enc Tryz.prog Tryz.f7 false true false false):=by
 refine returnsInHanded_of_change_sized (C:=Tryz.checked) Tryz.own started (by kernel_rfl) Tryz.func7
  (ChangeSpec.witness6 (enc:=enc) (C:=Tryz.checked) false ⟨#[], #[.agg #[.slice none 0 0,.slice none 0 0]],[]⟩ 8 (by kernel_rfl) (by kernel_rfl) (by kernel_rfl) (by kernel_rfl)) ?_
 intro W base args ds gs before hval0 hW _ hwt _;have hW':=hW;obtain ⟨p,q,hA0,hV,rfl,_,_⟩:=hW;have hlt:∀x∈p++q,x.block<W.heap.size:=fun x hx=>hW'.lt x hx;have hA:DataW.TrodAll enc Tryz.prog W 0 (fun _=>true) true Tryz.f7.params.toList args.toList ds p:=hA0;rw [Tryz.params7] at hA;obtain ⟨v0,d0,rfl,rfl,h0⟩:=trodAll_one hA;obtain ⟨rfl,rfl⟩:=trodVars_none hV;have hwz:∀n∈DataW.weightsEach Tryz.prog ([25]:List TypeId) ([d0]),n≤reachBytes:=fun n hn=>ψk (χy.1 hwt n (by rw [Tryz.params7];exact hn));have hval:∀(j:Nat) t v,Tryz.f7.params[j]? =some t ->(#[v0]:Array Value)[j]? =some v ->Value.okWide Tryz.prog W .any base t v:=hval0;rw [Tryz.params7] at hval;obtain ⟨n0,g0⟩:=h0;obtain ⟨cs0,rfl,_⟩:=okWide_struct Tryz.underlying25 (hval 0 25 v0 Z Z);obtain ⟨a0,q0,_,r0⟩:=(oPrb) _ _ _ g0 (fun x hx=>hlt x (by simp [hx])) (fun n hn=>hwz n (DataW.weights_mem_each (j:=0) (t:=25) Z Z n hn));refine (Xb (lawG5_p a0) (vs:=[.agg cs0]) Z (fun i a v ha hv=>?_)).mono fun e W' ⟨he,hb⟩=>?_
 ·rcases i with _ | i
  ·simp at ha hv;subst ha hv;exact VD.argS Z r0
  ·simp at ha
 subst he;exact ⟨_,Z,ao (tb:=4) Tryz.laidOut (by kernel_rfl) Z Z Tryz.underlying4 hW' ⟨Z,Z,Z⟩ hb⟩
theorem cl1:(Rows.gridlockCirclesRow.inPlace==Tryz.prog.inPlace 7)=true:=by kernel_rfl
theorem cl2:(Rows.gridlockCirclesRow.unfollowed==Tryz.prog.unfollowed 7)=true:=by kernel_rfl
theorem cl3:(Rows.gridlockCirclesRow.recurses==Tryz.prog.recurses 7)=true:=by kernel_rfl
theorem cl4:(Rows.gridlockCirclesRow.named==Tryz.prog.varsNamed 7)=true:=by kernel_rfl
theorem cl5:joinedFacts Tryz.prog 7 Tryz.f7 Rows.gridlockCirclesSpec Rows.gridlockCirclesRow=true:=by
 unfold joinedFacts;rw [cl1,cl2,cl3,cl4]
 kernel_rfl
theorem gridlockCircles_holds:Rows.GridlockCirclesSaid:=
 OpenClaim.holds_of_wide 7 Tryz.f7 Z Z Z Z Z Z Z ⟨Z,Z,Z,Z,Z⟩ Z Z Z Z Z (by kernel_rfl) Tryz.func7 cl5
  (ψk (by kernel_rfl)) (by unfold Func.isWrapper;first | (rw [θ (by decide+kernel)];kernel_rfl) | (rw [ϑ (by decide+kernel)];exact ⟨Z,Z⟩))
  (fun os started H enc _=>gridlockCircles_lifted os started H enc)
#print axioms gridlockCircles_holds
end Go.Proofs.YteifpcnphnhaoaaGreat
