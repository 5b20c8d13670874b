import Derived.Test.YteifpcnphnhaoaaGreatMg26
namespace Go.Proofs.YteifpcnphnhaoaaGreat
open Go.RowKit Go.Shelf
set_option maxRecDepth 100000
theorem Zk (id n:Int) (a b:List UInt8) (h0:0≤n) (h1:n≤1000000000000000):AO Tryz.prog 40 [.d (AF id),.d (Ao a),.d (Ao b),.d (AF n)] (.agg [AF id,AF 0,AF id,.sl none ((OP id a b n).po.map Br),.sl (some true) [],.sl (some true) []]):=by
 refine BB Tryz.func40 Z Z Tryz.ntmps40 Z Z Z fun F hF=>(AC (AE (V (CO 1 EY Z Z Z Z) (AD (AC ?_)))));refine AE (goMv Z Z (goMv Z Z (goMv Z Z (J (Fe YW Zg Z Z Z) (goMv Z Z (J (Yy Z (Υ _ (by omega)) Z) (J (Fe O7 Zi Z Z Z) (goMv Z Z ?_))))))));refine J (Fe YW Zg Z Z Z) (goMv Z Z (J (Fe O7 Zi Z Z Z) (V (Dz 4 Wx Z Z Z Z Z Z Z Z) (Zcs (emb:=Br) 20 4 (OP id a b n).po Z Z Z Z Z Z Z (J (Fe EY pl55 Z Z Z) (V (Bi Z Z Z Z Z Z Z C8) (AD (A8 ?_))))))));exact ⟨_,[],[],A7 Z,Z,Z,Z,Z⟩
theorem MA (id n:Int) (a b:List UInt8) (h0:0≤n) (h1:n≤1000000000000000):AO Tryz.prog 40 [.d (AF id),.d (Ao a),.d (Ao b),.d (AF n)] (Al (OP id a b n)):=
 (Zk id n a b h0 h1).weak fun w O v h=>h.aggMono Z (by simp [D.one]) fun i c c' hc hc' v hv=>by
  match i,hc,hc' with
  | 0,hc,hc'=>injection hc with hc;injection hc' with hc';subst hc hc';exact hv
  | 1,hc,hc'=>injection hc with hc;injection hc' with hc';subst hc hc';exact hv
  | 2,hc,hc'=>injection hc with hc;injection hc' with hc';subst hc hc';exact hv
  | 3,hc,hc'=>injection hc with hc;injection hc' with hc';subst hc hc';exact hv
  | 4,hc,hc'=>injection hc with hc;injection hc' with hc';subst hc hc';exact hv.anyNil
  | 5,hc,hc'=>injection hc with hc;injection hc' with hc';subst hc hc';exact hv.anyNil
set_option maxHeartbeats 2000000 in
theorem Xf:AO Tryz.prog 10 [] (.raw (.bool true)):=by
 have han:=Ul kK kK_F UP;rw [kK_rep] at han;refine BB Tryz.func10 Z Z Tryz.ntmps10 Z Z Z fun F hF=>(AC ?_);refine AE (AB Z Z (AD (AC (AE (V (CO 1 YX Z Z Z Z) (AD (AC (AC ?_))))))));refine AE (V (Dz 2 sl86 Z Z Z Z Z Z Z Z) (Zcs (emb:=Ao) 7 2 nmK Z Z Z Z Z Z Z (J (Bz Z Tryz.underlying86 Z) (goMv Z Z (AD (A5 (EW 1 0 0 901 Ps Z Z Z Z Z Z Z (B6 (α:=Nat×List A2) (fun q=>⟨86,[(1,(.ptr 1 0 0)),(7,(.d (.sl none (nmK.map Ao)))),(8,(.d (AF 3))),(9,(.d (AF (q.1:Int))))],[(901,[.rowD 88 7 (q.2.map CZ)]),(1,[.blk 39 [.own 901 0 q.2.length,.d Lj]])]⟩) (fun q=>q.1≤3∧q.2=Pw.take q.1) (fun q=>3 - q.1) ((0,[])) (⟨by decide,Z⟩) (A1 hF [901,1] Z Z ⟨Z,Z,Z,Z,trivial⟩) ?_))))))));rintro ⟨k,ro⟩ ⟨hk0,hro⟩;dsimp only at hk0 hro⊢;refine AC (AE (J (BT Z Z Z) (AD (AC (Ah Z (fun h10=>?_) (fun h10=>?_))))))
 ·have hk1:k<nmK.length:=by have h:=Bf (b:=3) h10;exact h
  refine A3 (AC (A5 (AC ?_)));have hro1:ro++ [⟨⟨0,TQ nmK[k],[],[]⟩,0⟩]=Pw.take (k+1):=by subst hro;match k,hk1 with | 0,_=>rfl | 1,_=>rfl | 2,_=>rfl
  have hrl:ro.length≤3:=by rw [hro];simp [Pw];omega
  refine AE (J (Bb (k) Z Z (Z) (Ag hk1) Tryz.underlying86 Z sz9 Z) (J (Cm Z Z IP Z) ?_));refine AB Z Z (AD (AE (J (A4 Z Dr Z Z Z) (J (A9 Z Z Z Mt Z) (goMv Z Z (J (Fe YW Zg Z Z Z) (J (Fe KQ Rd Z Z Z) (J (Fe Qn pl88 Z Z Z) ?_))))))));refine V (Dz 50 Ps Z Z Z Z Z Z Z Z) (V (I8 (ro) ([⟨⟨0,TQ nmK[k],[],[]⟩,0⟩]) Z Z Z Z Z Z Z Z Ps (by simp only [Ψ];omega) Z Z Z Z) (J (A4 Z Dr Z Z Z) (V (Bi Z Z Z Z Z Z Z sz36) (AD (AE (J (Ay Z Z (AT (k+1) (by omega)) Z) (goMv Z Z (AD ?_))))))));exact ⟨(k+1,_),⟨by show k+1≤3;omega,hro1⟩,by show 3 - (k+1)<3 - k;omega,A1 hF [901,1] Z (Z) ⟨Z,Z,Z,Z,trivial⟩⟩
 ·refine BF (AC ?_);have hk3:k=3:=by have h:=h10;omega
  subst hk3;have hro3:ro=Pw:=hro;subst hro3;refine Dy (ys:=Pw.map CZ) 1 0 0 901 Z Z Z (by decide) Z Z Z Z Z Z Z (AE (J (BZ (MA 1 5 [65] [66] (by decide) (by decide)) Z Z) (J (BZ (MA 2 5 [66] [67] (by decide) (by decide)) Z Z) (J (BZ (MA 3 5 [67] [65] (by decide) (by decide)) Z Z) (J (BZ (MA 4 4 [65] [68] (by decide) (by decide)) Z Z) (V (Dz 52 OK Z Z Z Z Z Z Z Z) (Zcs (emb:=Al) 27 52 aw Z Z Z Z Z Z Z ?_)))))));refine J (A4 Z E6 Z Z Z) (V (Bi Z Z Z Z Z Z Z sz37) (AD (AC (AE (J (BO Z Z B8 Z Z Z) (J (BZ (han) Z Z) (goMv Z Z (J (D8 Z Z Z) ?_))))))));refine J (D8 Z Z Z) (V (CO 4 zl32 Z Z Z Z) (V (Bi Z Z Z Z Z Z Z sz32) (AB Z Z (AD (AC (AE (V (Dz 54 B4 Z Z Z Z Z Z Z Z) (Zcs (emb:=AF) 34 54 [1,2,3] Z Z Z Z Z Z Z ?_))))))));refine V (Dz 55 RT Z Z Z Z Z Z Z Z) (Zcs (emb:=MG) 35 55 [[1,2,3]] Z Z Z Z Z Z Z (AB Z Z (AD (AC (Cc [[],[0],[0,1],[0,1,2],[0,1,2,3],[0,1,2],[0,1,2,5],[0,1,2,5,6],[0,1,2,3,4,5,6,7],[0,1,2,3,4,5,6,7,8],[0,1,2,3,4,5,6,7,8,9],[0,1,2,3,4,5,6,7,8,9,10],[0,1,2,3,4,5,6,7,8,9,10,11],[0,1,2,3,4,5,6,7,8,9,10,11,12],[0,1,2,3,4,5,6,7,8,9,10,11,12,13],[0,1,2,3,4,5,6,7,8,9,10,11,12,13,14],[0,1,2,3,4,5,6,7,8,9,10,11,12,13,14,15],[0,1,2,3,4,5,6,7,8,9,10,11,12,13,14,15,16],[0,1,2,3,4,5,6,7,8,9,10,11,12,13,14,15,16,17],[0,1,2,3,4,5,6,7,8,9,10,11,12,13,14,15,16],[0,1,2,3,4,5,6,7,8,9,10,11,12,13,14,15,16,17,18,19],[0,1,2,3,4,5,6,7,8,9,10,11,12,13,14,15,16,17,18,19,20],[0,1,2,3,4,5,6,7,8,9,10,11,12,13,14,15,16,17,18,19,20,21],[0,1,2,3,4,5,6,7,8,9,10,11,12,13,14,15,16,17,18,19,20,21,22],[0,1,2,3,4,5,6,7,8,9,10,11,12,13,14,15,16,17,18,19,20,21,22,23],[0,1,2,3,4,5,6,7,8,9,10,11,12,13,14,15,16,17,18,19,20,21,22],[0,1,2,3,4,5,6,7,8,9,10,11,12,13,14,15,16,17,18,19,20,21,22,23,24,25],[0,1,2,3,4,5,6,7,8,9,10,11,12,13,14,15,16,17,18,19,20,21,22,23,24,25,26],[0,1,2,3,4,5,6,7,8,9,10,11,12,13,14,15,16,17,18,19,20,21,22,23,24,25,26,27],[0,1,2,3,4,5,6,7,8,9,10,11,12,13,14,15,16,17,18,19,20,21,22,23,24,25,26,27,28],[0,1,2,3,4,5,6,7,8,9,10,11,12,13,14,15,16,17,18,19,20,21,22,23,24,25,26,27,28,29],[0,1,2,3,4,5,6,7,8,9,10,11,12,13,14,15,16,17,18,19,20,21,22,23,24,25,26,27,28,29,30],[0,1,2,3,4,5,6,7,8,9,10,11,12,13,14,15,16,17,18,19,20,21,22,23,24,25,26,27,28,29,30,31],[0,1,2,3,4,5,6,7,8,9,10,11,12,13,14,15,16,17,18,19,20,21,22,23,24,25,26,27,28,29,30,31,32],[0,1,2,3,4,5,6,7,8,9,10,11,12,13,14,15,16,17,18,19,20,21,22,23,24,25,26,27,28,29,30,31,32,33],[0,1,2,3,4,5,6,7,8,9,10,11,12,13,14,15,16,17,18,19,20,21,22,23,24,25,26,27,28,29,30,31,32,33,34],[0,1,2,3,4,5,6,7,8,9,10,11,12,13,14,15,16,17,18,19,20,21,22,23,24,25,26,27,28,29,30,31,32,33,34,35],[0,1,2,3,4,5,6,7,8,9,10,11,12,13,14,15,16,17,18,19,20,21,22,23,24,25,26,27,28,29,30,31,32,33,34,35,36],[0,1,2,3,4,5,6,7,8,9,10,11,12,13,14,15,16,17,18,19,20,21,22,23,24,25,26,27,28,29,30,31,32,33,34,35,36,37],[0,1,2,3,4,5,6,7,8,9,10,11,12,13,14,15,16,17,18,19,20,21,22,23,24,25,26,27,28,29,30,31,32,33,34,35,36,37,38],[0,1,2,3,4,5,6,7,8,9,10,11,12,13,14,15,16,17,18,19,20,21,22,23,24,25,26,27,28,29,30,31,32,33,34,35,36,37,38,39],[0,1,2,3,4,5,6,7,8,9,10,11,12,13,14,15,16,17,18,19,20,21,22,23,24,25,26,27,28,29,30,31,32,33,34,35,36,37,38,39,40],[0,1,2,3,4,5,6,7,8,9,10,11,12,13,14,15,16,17,18,19,20,21,22,23,24,25,26,27,28,29,30,31,32,33,34,35,36,37,38,39,40,41],[0,1,2,3,4,5,6,7,8,9,10,11,12,13,14,15,16,17,18,19,20,21,22,23,24,25,26,27,28,29,30,31,32,33,34,35,36,37,38,39,40,41,42],[0,1,2,3,4,5,6,7,8,9,10,11,12,13,14,15,16,17,18,19,20,21,22,23,24,25,26,27,28,29,30,31,32,33,34,35,36,37,38,39,40,41,42,43],[0,1,2,3,4,5,6,7,8,9,10,11,12,13,14,15,16,17,18,19,20,21,22,23,24,25,26,27,28,29,30,31,32,33,34,35,36,37,38,39,40,41,42,43,44],[0,1,2,3,4,5,6,7,8,9,10,11,12,13,14,15,16,17,18,19,20,21,22,23,24,25,26,27,28,29,30,31,32,33,34,35,36,37,38,39,40,41,42,43,44,45],[0,1,2,3,4,5,6,7,8,9,10,11,12,13,14,15,16,17,18,19,20,21,22,23,24,25,26,27,28,29,30,31,32,33,34,35,36,37,38,39,40,41,42,43,44,45,46],[0,1,2,3,4,5,6,7,8,9,10,11,12,13,14,15,16,17,18,19,20,21,22,23,24,25,26,27,28,29,30,31,32,33,34,35,36,37,38,39,40,41,42,43,44,45,46,47],[0,1,2,3,4,5,6,7,8,9,10,11,12,13,14,15,16,17,18,19,20,21,22,23,24,25,26,27,28,29,30,31,32,33,34,35,36,37,38,39,40,41,42,43,44,45,46,47,48],[0,1,2,3,4,5,6,7,8,9,10,11,12,13,14,15,16,17,18,19,20,21,22,23,24,25,26,27,28,29,30,31,32,33,34,35,36,37,38,39,40,41,42,43,44,45,46,47,48,49]] mixed Z (Ae 1 Z Z (goMv Z Z (AD ⟨Z,?_⟩))))))));refine Ae 2 Z Z (J (KJ Z Z Z) (AD ⟨Z,?_⟩));refine Ae 3 Z Z (goMv Z Z (Ga 38 Z (Z) (AD ⟨Z,?_⟩)));refine Cj (AI [4,38] [] Z Z (fun _=>HI Z Z Z (A4 Z fi32_0 Z Z Z)) ?_);refine As [39,38] Z Z (fun _=>HI Z Z Z (A9 Z Z Z BC Z)) (AI [6,38] [] Z Z (fun _=>HI Z Z Z (Ai Z Z)) (AI [41,38] [] Z Z (fun _=>HI Z Z Z (Bb (0) Z Z (Z) (Z) Tryz.underlying29 Z CG Z)) (AI [42,38] [] Z Z (fun _=>HI Z Z Z (Cm Z Z BC Z)) (C1 8 Z Z Z (Ae 9 Z Z (Ad Z Z Z (J (BZ (ST [1,2,3] [1,2,3] (by decide) (by decide)) Z Z) (AD ⟨Z,?_⟩))))))));refine Ae 10 Z Z (J (fSq Z Z Z Z) (AD ⟨Z,?_⟩));refine Ae 11 Z Z (goMv Z Z (Ga 46 Z (Z) (AD ⟨Z,?_⟩)));refine Ae 12 Z Z (Ad Z Z Z (J (A4 Z fi32_1 Z Z Z) (AD ⟨Z,?_⟩)));refine Ae 13 Z Z (Ad Z Z Z (J (A9 Z Z Z BC Z) (AD ⟨Z,?_⟩)));refine Ae 14 Z Z (Ad Z Z Z (J (Bz Z Tryz.underlying28 Z) (AD ⟨Z,?_⟩)));refine Ae 15 Z Z (Ad Z Z Z (J (KJ Z Z Z) (AD ⟨Z,?_⟩)));refine Ae 16 Z Z (J (fSq Z Z Z Z) (AD ⟨Z,?_⟩));refine Ae 17 Z Z (goMv Z Z (Ga 52 Z (Z) (AD ⟨Z,?_⟩)));refine Cj (AI [4,52] [] Z Z (fun _=>HI Z Z Z (A4 Z bN Z Z Z)) (As [53,52] Z Z (fun _=>HI Z Z Z (A9 Z Z Z on29 Z)) (AI [6,52] [] Z Z (fun _=>HI Z Z Z (Ai Z Z)) (C1 20 Z Z Z (Ae 21 Z Z (Ad Z Z Z (J (BZ (PR [[1,2,3]] [[1,2,3]] (by decide) (by decide) (by decide) (by decide)) Z Z) (AD ⟨Z,?_⟩))))))));refine Ae 22 Z Z (J (fSq Z Z Z Z) (AD ⟨Z,?_⟩));refine Ae 23 Z Z (goMv Z Z (Ga 58 Z (Z) (AD ⟨Z,?_⟩)));refine Cj (AI [4,58] [] Z Z (fun _=>HI Z Z Z (A4 Z fi32_3 Z Z Z)) (As [59,58] Z Z (fun _=>HI Z Z Z (A9 Z Z Z on29 Z)) (AI [6,58] [] Z Z (fun _=>HI Z Z Z (Ai Z Z)) (C1 26 Z Z Z (Ae 27 Z Z (Ad Z Z Z (J (BZ (PR [[1,2,3]] [[1,2,3]] (by decide) (by decide) (by decide) (by decide)) Z Z) (AD ⟨Z,?_⟩))))))));refine Ae 28 Z Z (J (fSq Z Z Z Z) (AD ⟨Z,?_⟩));refine Ae 29 Z Z (goMv Z Z (Ga 64 Z (Z) (AD ⟨Z,?_⟩)));refine Ae 30 Z Z (Ad Z Z Z (J (A4 Z fi32_4 Z Z Z) (AD ⟨Z,?_⟩)));refine Ae 31 Z Z (Ad Z Z Z (J (A9 Z Z Z on30 Z) (AD ⟨Z,?_⟩)));refine Ae 32 Z Z (Ad Z Z Z (J (Bz Z Tryz.underlying30 Z) (AD ⟨Z,?_⟩)));refine Ae 33 Z Z (Ad Z Z Z (J (KJ Z Z Z) (AD ⟨Z,?_⟩)));refine Ae 34 Z Z (J (fSq Z Z Z Z) (AD ⟨Z,?_⟩));refine Ae 35 Z Z (goMv Z Z (Ga 70 Z (Z) (AD ⟨Z,?_⟩)));refine Ae 36 Z Z (Ad Z Z Z (J (A4 Z fi32_4 Z Z Z) (AD ⟨Z,?_⟩)));refine Ae 37 Z Z (Ad Z Z Z (J (A9 Z Z Z on30 Z) (AD ⟨Z,?_⟩)));refine Ae 38 Z Z (Ad Z Z Z (J (Bb (0) Z Z (Z) (Z) Tryz.underlying30 Z sz66 Z) (AD ⟨Z,?_⟩)));refine Ae 39 Z Z (Ad Z Z Z (J (Zcd Z fi66_0 Z Z Z) (AD ⟨Z,?_⟩)));refine Ae 40 Z Z (Ad Z Z Z (J (Cm Z Z Aq Z) (AD ⟨Z,?_⟩)));refine Ae 41 Z Z (Ad Z Z Z (J (KJ Z Z Z) (AD ⟨Z,?_⟩)));refine Ae 42 Z Z (J (fSq Z Z Z Z) (AD ⟨Z,?_⟩));refine Ae 43 Z Z (goMv Z Z (Ga 78 Z (Z) (AD ⟨Z,?_⟩)));refine Ae 44 Z Z (Ad Z Z Z (J (A4 Z fi32_4 Z Z Z) (AD ⟨Z,?_⟩)));refine Ae 45 Z Z (Ad Z Z Z (J (A9 Z Z Z on30 Z) (AD ⟨Z,?_⟩)));refine Ae 46 Z Z (Ad Z Z Z (J (Bb (0) Z Z (Z) (Z) Tryz.underlying30 Z sz66 Z) (AD ⟨Z,?_⟩)));refine Ae 47 Z Z (Ad Z Z Z (J (Zcd Z fi66_2 Z Z Z) (AD ⟨Z,?_⟩)));refine Ae 48 Z Z (Ad Z Z Z (J (Cm Z Z Kg Z) (AD ⟨Z,?_⟩)));refine Ae 49 Z Z (Ad Z Z Z (J (KJ Z Z Z) (AD ⟨Z,?_⟩)));refine Ae 50 Z Z (J (fSq Z Z Z Z) (AD ⟨Z,?_⟩));refine Ae 51 Z Z (AB Z Z (AD ⟨Z,?_⟩));refine C6 (A8 ?_);exact ⟨_,[],[],A7 Z,Z,Z,Z,Z⟩
end Go.Proofs.YteifpcnphnhaoaaGreat
namespace Go.Proofs.YteifpcnphnhaoaaGreat
open Go.RowKit
theorem cJ (p:Prb):blks p (Jh [])=[]:=by
 unfold blks;rw [List.flatMap_eq_nil_iff];intro i _;unfold JL;rw [ϑ (by simp [Jh])]
theorem Y4 {p:Prb} (hp:Az p=0):La p (BA [])=[]:=by
 unfold La;rw [List.flatMap_eq_nil_iff];intro x hx;have h:=aZ hp x hx;unfold Pk;rw [ϑ (by show ¬x.n+FT p x.r []<0;have:FT p x.r []=0:=rfl;omega)]
theorem Qt {p:Prb} {M:List (Int×Bool)}:La p M=[]↔∀x∈linL p,0≤x.n+FT p x.r M:=by
 unfold La;rw [List.flatMap_eq_nil_iff]
 constructor
 ·intro h x hx;have:=h x hx;unfold Pk at this
  split at this
  ·cases this
  ·omega
 ·intro h x hx;have:=h x hx;unfold Pk;rw [ϑ (by omega)]
theorem W9.mono {p:Prb} {S T:List Int} (h:∀x∈S,x∈T) {x:Int} (hx:W9 p S x):W9 p T x:=by
 induction hx with
 | base hx=>exact .base (h _ hx)
 | step _ hb ih=>exact .step ih hb
structure Chg (R:Int ->Int ->Prop) (l Y:List A2):Prop where
 len:Y.length=l.length
 at_:∀(j:Nat) x y,l[j]? =some x ->Y[j]? =some y ->y.r=x.r∧ -4*Mx≤y.n∧y.n≤4*Mx∧R x.n y.n
theorem Chg.set {R:Int ->Int ->Prop} {l Y:List A2} (h:Chg R l Y) {k:Nat} (hk:k<Y.length) {n:Int} (h1: -4*Mx≤n∧n≤4*Mx) (h2:∀x,R x Y[k].n ->R x n):Chg R l (Y.set k ⟨Y[k].r,n⟩):=
 ⟨by rw [ψd];exact h.len,fun j x y hx hy=>by
  rw [χq] at hy
  split at hy
  ·rename_i e;subst e
   first | (rw [κ hk] at hy;injection hy with hy;subst hy) | (injection hy with hy;subst hy)
   have:=h.at_ k x _ hx (ω hk);exact ⟨this.1,h1.1,h1.2,h2 _ this.2.2.2⟩
  ·exact h.at_ j x y hx hy⟩
theorem Chg.map {R:Int ->Int ->Prop} {l Y:List A2} (h:Chg R l Y):Y.map A2.r=l.map A2.r:=by
 refine χc (by rw [ψ,ψ,h.len]) fun j h1 h2=>?_;rw [ψ] at h1 h2;rw [ωd,ωd];exact (h.at_ j _ _ (ω h2) (ω h1)).1
theorem Chg.mem {R:Int ->Int ->Prop} {l Y:List A2} (h:Chg R l Y):∀y∈Y,∃x∈l,y.r=x.r∧ -4*Mx≤y.n∧y.n≤4*Mx∧R x.n y.n:=fun y hy=>by
 obtain ⟨j,hj,rfl⟩:=χb.1 hy;have hj':j<l.length:=by rw [←h.len];exact hj
 exact ⟨l[j],θ hj',h.at_ j _ _ (ω hj') (ω hj)⟩
def YQ (x:Nat) (P:List Nat):Nat:=P.foldl (fun a i=>a ||| 1<<<i) x
theorem bit_one (i j:Nat):(1<<<i).testBit j=decide (i=j):=by rw [Nat.one_shiftLeft,Nat.testBit_two_pow]
theorem orB_bit:∀(P:List Nat) (x j:Nat),(YQ x P).testBit j=true↔x.testBit j=true∨j∈P
 | [],x,j=>by simp [YQ]
 | i::P,x,j=>by
  show (YQ (x ||| 1<<<i) P).testBit j=true↔_;rw [orB_bit P,Nat.testBit_or,bit_one,Bool.or_eq_true,ψe,Φ]
  constructor
  ·rintro ((h | h) | h)
   ·exact .inl h
   ·exact .inr (.inl h.symm)
   ·exact .inr (.inr h)
  ·rintro (h | h | h)
   ·exact .inl (.inl h)
   ·exact .inl (.inr h.symm)
   ·exact .inr h
theorem PN {s:Sma} {x:Nat} {y:Int}:y∈listS s x↔∃i,i<s.ids.length∧x.testBit i=true∧s.ids.getD i 0=y:=by
 unfold listS;rw [ϖ]
 constructor
 ·rintro ⟨i,hi,e⟩;obtain ⟨h1,h2⟩:=ωa.1 hi;exact ⟨i,ς.1 h1,h2,e⟩
 ·rintro ⟨i,h1,h2,e⟩;exact ⟨i,ωa.2 ⟨ς.2 h1,h2⟩,e⟩
theorem QF {s:Sma} (hn:s.ids.Nodup) {x:Nat} {y:Int} (hy:y∈s.ids):y∈listS s x↔x.testBit (s.ids.idxOf y)=true:=by
 rw [PN];have hl:=ψq hy
 constructor
 ·rintro ⟨i,h1,h2,e⟩;rw [CI 0 h1] at e;have:s.ids.idxOf y=i:=by rw [←e];exact List.Nodup.idxOf_getElem hn i h1
  rw [this];exact h2
 ·intro h;exact ⟨_,hl,h,by rw [CI 0 hl,φg hl]⟩
def Ge:List Int ->List Int ->Bool
 | a::l,b::m=>if a=b then Ge l m else decide (a<b)
 | _,_=>false
def C5 (a b:List Int):Bool:=if a.length≠b.length then decide (a.length<b.length) else Ge a b
theorem NJ:∀a b:List Int,Ge a b=true ->Ge b a=false
 | a::l,b::m,h=>by
  unfold Ge at h⊢
  split at h
  ·rename_i e;subst e;rw [κ rfl];exact NJ l m h
  ·rename_i e
   rw [ϑ (fun h=>e h.symm)];have:=ψk h;exact ωp (by omega)
 | [],_,h=>by cases h
 | _::_,[],h=>by cases h
theorem NH:∀a b c:List Int,Ge a b=true ->Ge b c=true ->Ge a c=true
 | a::l,b::m,c::r,h1,h2=>by
  unfold Ge at h1 h2⊢
  split at h1
  ·rename_i e;subst e
   split at h2
   ·rename_i e;rw [κ e];exact NH l m r h1 h2
   ·rename_i e;rw [ϑ e];exact h2
  ·rename_i e
   have h3:=ψk h1
   split at h2
   ·rename_i e2;subst e2
    rw [ϑ e];exact h1
   ·have h4:=ψk h2;rw [ϑ (by omega)];exact ωi (by omega)
 | [],_,_,h,_=>by cases h
 | _::_,[],_,h,_=>by cases h
 | _::_,_::_,[],_,h=>by cases h
theorem NI:∀a b:List Int,a.length=b.length ->a≠b ->Ge a b=false ->Ge b a=true
 | a::l,b::m,hl,hn,h=>by
  unfold Ge at h⊢
  split at h
  ·rename_i e;subst e
   rw [κ rfl];exact NI l m (by simpa using hl) (fun h=>hn (by rw [h])) h
  ·rename_i e
   have:=of_decide_eq_false h;rw [ϑ (fun h=>e h.symm)];exact ωi (by omega)
 | [],[],_,hn,_=>absurd Z hn
 | [],_::_,hl,_,_=>by simp at hl
 | _::_,[],hl,_,_=>by simp at hl
theorem SH {a b:List Int} (h:C5 a b=true):¬C5 b a=true:=by
 unfold C5 at h⊢
 split at h
 ·rename_i e
  have:=ψk h;rw [κ (fun h=>e h.symm)]
  simp;omega
 ·rename_i e
  rw [ϑ (fun h2=>e fun h3=>h2 h3.symm),NJ _ _ h];simp
theorem SF {a b c:List Int} (h1:C5 a b=true) (h2:C5 b c=true):C5 a c=true:=by
 unfold C5 at h1 h2⊢
 split at h1
 ·have h3:=ψk h1
  split at h2
  ·have h4:=ψk h2;rw [κ (by omega)];exact ωi (by omega)
  ·rw [κ (by omega)];exact ωi (by omega)
 ·split at h2
  ·have h4:=ψk h2;rw [κ (by omega)];exact ωi (by omega)
  ·rw [ϑ (by omega)];exact NH _ _ _ h1 h2
theorem SG {a b:List Int} (hn:a≠b) (h:¬C5 a b=true):C5 b a=true:=by
 unfold C5 at h⊢
 split at h
 ·rename_i e
  have h3:¬a.length<b.length:=by simpa using h
  rw [κ (by omega)];exact ωi (by omega)
 ·rename_i e
  rw [ϑ (by omega)];exact NI a b (by omega) hn (by simpa using h)
theorem Ty {α:Type} {R:α ->α ->Prop} (ha:∀a b,R a b ->¬R b a) {l m:List α} (h1:l.Pairwise R) (h2:m.Pairwise R) (h:∀x,x∈l↔x∈m):l=m:=by
 have nd:∀{l:List α},l.Pairwise R ->l.Nodup:=fun h=>h.imp fun {a b} hr e=>by subst e;exact ha _ _ hr hr
 exact List.Perm.eq_of_pairwise (fun a b _ _ h3 h4=>absurd h4 (ha a b h3)) h1 h2 ((χz (nd h1) (nd h2)).2 h)
def HF (n:Nat):Nat ->Nat ->List (List Nat)
 | 0,_=> [[]]
 | l+1,frm=>((List.range (n+1 - (l+1) - frm)).map (frm+ ·)).flatMap fun i=>(HF n l (i+1)).map (i:: ·)
theorem GQ (n:Nat):∀(l frm x:Nat),enumX n l frm x=(HF n l frm).map (YQ x)
 | 0,_,_=>rfl
 | l+1,frm,x=>by
  unfold enumX HF;rw [List.map_flatMap]
  congr 1
  funext i
  rw [GQ n l (i+1),ωv]
  rfl
theorem Ra {n:Nat}:∀{l frm:Nat} {P:List Nat},P∈HF n l frm ->P.length=l
 | 0,_,P,h=>by simp [HF] at h;subst h;rfl
 | l+1,frm,P,h=>by
  unfold HF at h;obtain ⟨i,_,h⟩:=χu.1 h;obtain ⟨Q,hQ,rfl⟩:=ϖ.1 h;rw [ψo,Ra hQ]
theorem Lw {n:Nat}:∀{l frm:Nat} {P:List Nat},P∈HF n l frm ->P.Pairwise (· < ·)∧∀j∈P,frm≤j∧j<n
 | 0,_,P,h=>by simp [HF] at h;subst h;simp
 | l+1,frm,P,h=>by
  unfold HF at h;obtain ⟨i,hi,h⟩:=χu.1 h;obtain ⟨k,hk,rfl⟩:=ϖ.1 hi;have hk':=ς.1 hk;obtain ⟨Q,hQ,rfl⟩:=ϖ.1 h;obtain ⟨h1,h2⟩:=Lw hQ;refine ⟨ψz.2 ⟨fun j hj=>by have:=(h2 j hj).1;omega,h1⟩,fun j hj=>?_⟩;rcases Φ.1 hj with rfl | hj
  ·exact ⟨by omega,by omega⟩
  ·have:=h2 j hj;omega
theorem QK {n:Nat}:∀{P:List Nat} {frm:Nat},frm≤n ->P.Pairwise (· < ·) ->(∀j∈P,frm≤j∧j<n) ->P.length≤n - frm
 | [],_,_,_,_=>Γ _
 | i::P,frm,hf,hp,h=>by
  have h1:=h i ωo;obtain ⟨h2,h3⟩:=ψz.1 hp
  have:=QK (P:=P) (frm:=i+1) (by omega) h3 fun j hj=>⟨h2 j hj,(h j (ωn _ hj)).2⟩
  rw [ψo];omega
theorem Rb {n:Nat}:∀{P:List Nat} {frm:Nat},P.Pairwise (· < ·) ->(∀j∈P,frm≤j∧j<n) ->P∈HF n P.length frm
 | [],_,_,_=>by simp [HF]
 | i::P,frm,hp,h=>by
  have h1:=h i ωo;obtain ⟨h2,h3⟩:=ψz.1 hp
  have h4:∀j∈P,i+1≤j∧j<n:=fun j hj=>⟨h2 j hj,(h j (ωn _ hj)).2⟩
  have h5:=QK (P:=P) (frm:=i+1) (by omega) h3 h4;show i::P∈HF n (P.length+1) frm;unfold HF;refine χu.2 ⟨i,ϖ.2 ⟨i - frm,ς.2 (by omega),by omega⟩,ϖ.2 ⟨P,Rb h3 h4,Z⟩⟩
theorem X8 (a:Int) (l m:List Int):Ge (a::l) (a::m)=Ge l m:=by
 show (if a=a then Ge l m else _)=_;rw [κ rfl]
theorem R9 {n:Nat} {g:Nat ->Int} (hg:∀i j,i<j ->j<n ->g i<g j):∀l frm,((HF n l frm).map fun P=>P.map g).Pairwise fun a b=>Ge a b=true
 | 0,_=>by simp [HF]
 | l+1,frm=>by
  unfold HF;rw [List.map_flatMap,List.pairwise_flatMap]
  constructor
  ·intro i _;rw [ωv];have ih:=R9 hg l (i+1);rw [ωy] at ih⊢;refine ih.imp fun {P Q} h=>?_;show Ge (g i::P.map g) (g i::Q.map g)=true;rw [X8];exact h
  ·rw [ωy];refine χk (fun {a b} ha hb hab x hx y hy=>?_) (χt);obtain ⟨_,h1,rfl⟩:=ϖ.1 hx;obtain ⟨_,h2,rfl⟩:=ϖ.1 hy;obtain ⟨P,_,rfl⟩:=ϖ.1 h1;obtain ⟨Q,_,rfl⟩:=ϖ.1 h2;have hb':=ς.1 hb;have:=hg (frm+a) (frm+b) (by omega) (by omega);show (if g (frm+a)=g (frm+b) then _ else decide (g (frm+a)<g (frm+b)))=true;rw [ϑ (by omega)];exact ωi this
theorem PS {s:Sma} {P:List Nat} (h1:P.Pairwise (· < ·)) (h2:∀j∈P,j<s.ids.length):listS s (YQ 0 P)=P.map fun i=>s.ids.getD i 0:=by
 unfold listS
 congr 1
 refine Ty (R:=fun a b:Nat=>a<b) (fun a b h=>by omega) (List.Pairwise.sublist ψi χt) h1 fun x=>?_;rw [ωa,ς,orB_bit];simp only [Nat.zero_testBit,Bool.false_eq_true,false_or];exact ⟨fun h=>h.2,fun h=>⟨h2 x h,h⟩⟩
def cR (s:Sma):List (List Int):=(cQ s).map (listS s)
theorem YJ {s:Sma} (hs:s.ids.Pairwise (· < ·)):(cR s).Pairwise fun a b=>C5 a b=true:=by
 unfold cR cQ;rw [List.map_flatMap,List.pairwise_flatMap]
 have hx:∀k,∀L∈((enumX s.ids.length k 0 0).filter (admS s)).map (listS s),L.length=k:=fun k L hL=>by
  obtain ⟨y,hy,rfl⟩:=ϖ.1 hL;have hy:=(ωa.1 hy).1;rw [GQ] at hy;obtain ⟨P,hP,rfl⟩:=ϖ.1 hy;have h:=Lw hP;rw [PS h.1 fun j hj=>(h.2 j hj).2,ψ,Ra hP]
 constructor
 ·intro k _
  have h0:=R9 (n:=s.ids.length) (g:=fun i=>s.ids.getD i 0) (fun i j hij hj=>by
   show s.ids.getD i 0<s.ids.getD j 0;rw [CI 0 hj,CI 0 (Nat.lt_trans hij hj)]
   exact ωq.1 hs i j _ hj hij) k 0
  have h1:((enumX s.ids.length k 0 0).map (listS s)).Pairwise fun a b=>Ge a b=true:=by
   rw [GQ,ωv]
   have e:(HF s.ids.length k 0).map (listS s∘YQ 0)=(HF s.ids.length k 0).map fun P=>P.map fun i=>s.ids.getD i 0:=ωj fun P hP=>by
    have h:=Lw hP;exact PS h.1 fun j hj=>(h.2 j hj).2
   rw [e];exact h0
  have h2:(((enumX s.ids.length k 0 0).filter (admS s)).map (listS s)).Pairwise fun a b=>Ge a b=true:=List.Pairwise.sublist (List.filter_sublist.map _) h1;refine χk (fun {a b} ha hb hab=>?_) h2;unfold C5;rw [ϑ (by rw [hx k a ha,hx k b hb];exact fun h=>h Z)];exact hab
 ·refine χk (fun {a b} _ _ hab x hxa y hyb=>?_) (χt);have e1:=hx a x hxa;have e2:=hx b y hyb;unfold C5;rw [κ (by omega)];exact ωi (by omega)
theorem aV {s:Sma} (y:Nat):y∈cQ s↔(∃P:List Nat,P.Pairwise (· < ·)∧(∀j∈P,j<s.ids.length)∧YQ 0 P=y)∧admS s y=true:=by
 unfold cQ;rw [χu]
 constructor
 ·rintro ⟨k,_,h⟩;obtain ⟨h1,h2⟩:=ωa.1 h;rw [GQ] at h1;obtain ⟨P,hP,e⟩:=ϖ.1 h1;have h:=Lw hP;exact ⟨⟨P,h.1,fun j hj=>(h.2 j hj).2,e⟩,h2⟩
 ·rintro ⟨⟨P,h1,h2,e⟩,h3⟩
  have hP:=Rb (n:=s.ids.length) (frm:=0) h1 fun j hj=>⟨Γ _,h2 j hj⟩
  have hl:=QK (n:=s.ids.length) (P:=P) (frm:=0) (Γ _) h1 fun j hj=>⟨Γ _,h2 j hj⟩
  refine ⟨P.length,ς.2 (by omega),ωa.2 ⟨?_,h3⟩⟩;rw [GQ];exact ϖ.2 ⟨P,hP,e⟩
def J0 (n x:Nat):List Nat:=(List.range n).filter fun i=>x.testBit i
theorem Mp (n x:Nat):(J0 n x).Pairwise (· < ·):=List.Pairwise.sublist ψi χt
theorem Zb {n x j:Nat} (h:j∈J0 n x):j<n:=ς.1 (ωa.1 h).1
theorem Kd {n x:Nat} (hx:x<2^n):YQ 0 (J0 n x)=x:=by
 refine Nat.eq_of_testBit_eq fun j=>?_
 have h:(YQ 0 (J0 n x)).testBit j=true↔x.testBit j=true:=by
  rw [orB_bit];simp only [Nat.zero_testBit,Bool.false_eq_true,false_or];unfold J0;rw [ωa,ς];refine ⟨fun h=>h.2,fun h=>⟨Classical.byContradiction fun hn=>?_,h⟩⟩;have:=Nat.testBit_lt_two_pow (ψt hx (Nat.pow_le_pow_right (by omega) (by omega:n≤j)));rw [h] at this;cases this
 cases h1:(YQ 0 (J0 n x)).testBit j<;>cases h2:x.testBit j<;>simp_all
theorem orB_lt {n:Nat} {P:List Nat} (h:∀j∈P,j<n):YQ 0 P<2^n:=by
 refine Nat.lt_pow_two_of_testBit _ fun j hj=>?_
 cases hh:(YQ 0 P).testBit j with
 | false=>rfl
 | true=>
  rcases (orB_bit P 0 j).1 hh with h1 | h1
  ·simp at h1
  ·have:=h j h1;omega
theorem PO {s:Sma} (y:Nat):y∈cQ s↔y<2^s.ids.length∧admS s y=true:=by
 rw [aV]
 constructor
 ·rintro ⟨⟨P,_,h2,rfl⟩,h3⟩;exact ⟨orB_lt h2,h3⟩
 ·rintro ⟨h1,h2⟩;exact ⟨⟨J0 s.ids.length y,Mp _ _,fun j hj=>Zb hj,Kd h1⟩,h2⟩
theorem aW {s:Sma} (L:List Int):L∈cR s↔∃y,y<2^s.ids.length∧admS s y=true∧L=listS s y:=by
 unfold cR;rw [ϖ]
 constructor
 ·rintro ⟨y,hy,e⟩;have h:=(PO y).1 hy;exact ⟨y,h.1,h.2,e.symm⟩
 ·rintro ⟨y,h1,h2,e⟩;exact ⟨y,(PO y).2 ⟨h1,h2⟩,e.symm⟩
theorem ax {out:List (List Int)} {x:List Int} {k:Nat} (hk:k≤out.length) (h:out.Pairwise fun a b=>C5 a b=true) (h1:∀y∈out.drop k,C5 x y=true) (h2:k=0∨∃hk:k - 1<out.length,¬C5 x out[k - 1]=true) (hx:x∉out):(out.take k++ [x]++out.drop k).Pairwise fun a b=>C5 a b=true:=by
 have h3:∀y∈out.take k,C5 y x=true:=fun y hy=>by
  rcases h2 with h2 | ⟨hk1,h2⟩
  ·subst h2;simp at hy
  ·obtain ⟨j,hj,rfl⟩:=χe.1 hy;have h4:C5 out[k - 1] x=true:=SG (fun e=>hx (e▸θ hk1)) h2;rcases χn j (k - 1) with h5 | h5
   ·exact SF (ωq.1 h j (k - 1) (by omega) hk1 h5) h4
   ·have:j=k - 1:=by omega
    subst this;exact h4
 have h6:=h;rw [←χw k out,List.pairwise_append] at h6;rw [ψm,List.pairwise_append];refine ⟨h6.1,ψz.2 ⟨h1,h6.2.1⟩,fun a ha b hb=>?_⟩;rcases Φ.1 hb with rfl | hb
 ·exact h3 a ha
 ·exact h6.2.2 a ha b hb
theorem ins_mem {out:List (List Int)} {x:List Int} {k:Nat} (L:List Int):L∈out.take k++ [x]++out.drop k↔L∈out∨L=x:=by
 rw [ν,ν,ξ]
 constructor
 ·rintro ((h | h) | h)
  ·exact .inl (ψc h)
  ·exact .inr h
  ·exact .inl (List.mem_of_mem_drop h)
 ·rintro (h | h)
  ·rw [←χw k out] at h;rcases ν.1 h with h | h
   ·exact .inl (.inl h)
   ·exact .inr h
  ·exact .inl (.inr h)
theorem X7 {s:Sma} (hn:s.ids.Nodup) {x y:Nat} (hx:x<2^s.ids.length) (hy:y<2^s.ids.length) (h:listS s x=listS s y):x=y:=by
 rw [←Kd hx,←Kd hy]
 congr 1
 refine Ty (R:=fun a b:Nat=>a<b) (fun a b h=>by omega) (Mp _ _) (Mp _ _) fun j=>?_
 have key:∀z j,j∈J0 s.ids.length z↔∃hj:j<s.ids.length,s.ids[j]∈listS s z:=fun z j=>by
  unfold J0;rw [ωa,ς]
  constructor
  ·rintro ⟨h1,h2⟩;exact ⟨h1,PN.2 ⟨j,h1,h2,CI 0 h1⟩⟩
  ·rintro ⟨h1,h2⟩;have:=(QF hn (θ h1)).1 h2;rw [List.Nodup.idxOf_getElem hn j h1] at this;exact ⟨h1,this⟩
 rw [key,key,h]
section
variable {β:Type} (step:β ->List Int ->β×Bool)
end
section
variable {β:Type}
end
structure TZ (s:Sma) (m:Nat) (out:List (List Int)):Prop where
 o:out.Pairwise fun a b=>C5 a b=true
 m_:∀L,L∈out↔∃y,y<m∧admS s y=true∧L=listS s y
 l:out.length≤m
theorem TZ.skip {s:Sma} {m:Nat} {out:List (List Int)} (h:TZ s m out) (ha:admS s m=false):TZ s (m+1) out:=by
 refine ⟨h.o,fun L=>?_,Nat.le_succ_of_le h.l⟩;rw [h.m_]
 constructor
 ·rintro ⟨y,h1,h2,h3⟩;exact ⟨y,by omega,h2,h3⟩
 ·rintro ⟨y,h1,h2,h3⟩;refine ⟨y,?_,h2,h3⟩;rcases χn y m with h | h
  ·exact h
  ·have:y=m:=by omega
   subst this;rw [ha] at h2;cases h2
theorem TZ.add {s:Sma} {m k:Nat} {out:List (List Int)} (h:TZ s m out) (hn:s.ids.Nodup) (hm:m<2^s.ids.length) (ha:admS s m=true) (hk:k≤out.length) (h1:∀y∈out.drop k,C5 (listS s m) y=true) (h2:k=0∨∃hk:k - 1<out.length,¬C5 (listS s m) out[k - 1]=true):TZ s (m+1) (out.take k++ [listS s m]++out.drop k):=by
 refine ⟨ax hk h.o h1 h2 fun hx=>?_,fun L=>?_,?_⟩
 ·obtain ⟨y,g1,g2,g3⟩:=(h.m_ _).1 hx;have:=X7 hn hm (Nat.lt_trans g1 hm) g3;omega
 ·rw [ins_mem,h.m_]
  constructor
  ·rintro (⟨y,g1,g2,g3⟩ | rfl)
   ·exact ⟨y,by omega,g2,g3⟩
   ·exact ⟨m,by omega,ha,Z⟩
  ·rintro ⟨y,g1,g2,g3⟩;rcases χn y m with g | g
   ·exact .inl ⟨y,g,g2,g3⟩
   ·have:y=m:=by omega
    subst this;exact .inr g3
 ·have:=h.l;rw [Θ,Θ,Ω,φo,Ψ];omega
theorem TZ.done {s:Sma} {out:List (List Int)} (hs:s.ids.Pairwise (· < ·)) (h:TZ s (2^s.ids.length) out):out=cR s:=
 Ty (R:=fun a b=>C5 a b=true) (fun a b h=>SH h) h.o (YJ hs) fun L=>by rw [h.m_,aW]
section
variable {P:Program} {F:Fr} {s:AS} {d:Nat} {x y:Operand} {T T':TypeId} {ty:TypeId} {pos:String} {aft:Array Edge} {g:Option (Nat×Bool)} {k:IntKind} {a b:Int}
end
theorem inL_eq {l m:List Int} (h:∀x,x∈l↔x∈m):Jh l=Jh m:=funext fun x=>by
 unfold Jh;exact decide_eq_decide.2 (h x)
theorem We {p:Prb} {l m:List Int} (h:l.Perm m) (hv:La p (BA l)=[]):La p (BA m)=[]:=
 Qt.2 fun x hx=>by
  have:=Qt.1 hv x hx;have h2:(BA l).Perm (BA m):=h.map _;rw [KU h2] at this;exact this
structure Fea (p:Prb) (C:List Int):Prop where
 n:C.Nodup
 i:∀x∈C,x∈p.it.map AK.id
 a:blks p (Jh C)=[]
 v:La p (BA C)=[]
theorem Fea.perm {p:Prb} {C D:List Int} (h:Fea p C) (hp:C.Perm D):Fea p D:=
 ⟨hp.nodup_iff.1 h.n,fun x hx=>h.i x (hp.mem_iff.2 hx),by rw [←inL_eq fun x=>hp.mem_iff];exact h.a,We hp h.v⟩
theorem Fea.nil {p:Prb} (hp:Az p=0):Fea p []:=⟨List.nodup_nil,fun x hx=>(by cases hx),cJ p,Y4 hp⟩
end Go.Proofs.YteifpcnphnhaoaaGreat
namespace Go.Proofs.YteifpcnphnhaoaaGreat
open Go.RowKit Go.Shelf
set_option maxRecDepth 100000
theorem I3 (l:List Int) (x:Int) (hl:l.length≤100000):AO Tryz.prog 25 [.d (.sl none (l.map AF)),.d (AF x)] (AM (l.count x)):=by
 refine BB Tryz.func25 Z Z Tryz.ntmps25 Z Z Z fun F hF=>(AC (AE (AB Z Z (AD (AC (AE ?_))))));refine AB Z Z (AD (AC (AC (AE (AB Z Z (AD (A5 (Gx (α:=Nat×Nat) (fun q=>⟨22,[(0,.d (.sl none (l.map AF))),(1,.d (AF x)),(5,(.d (AM q.2))),(6,(.d (AF (q.1:Int))))],[]⟩) (fun q=>q.1≤l.length∧q.2=(l.take q.1).count x) (fun q=>l.length - q.1) ((0,0)) (⟨Γ _,Z⟩) (c8 ⟨Z,Z,Z,Z,trivial⟩) ?_))))))));rintro ⟨k,c⟩ ⟨hk0,hc⟩;dsimp only at hk0 hc⊢;refine AC (AC (AE (goMv Z Z (goMv Z Z (J (Bz Z Tryz.underlying28 Z) (J (BT Z Z Z) (AD (Ah Z (fun h10=>?_) (fun h10=>?_)))))))))
 ·have hk1:k<l.length:=Bf h10;refine A3 (AC (A5 (AC ?_)));have hct:c≤k:=by have h:=List.count_le_length (a:=x) (l:=l.take k);rw [Ω,←hc] at h;omega
  refine AE (goMv Z Z (goMv Z Z (J (Bb (k) Z Z (Z) (Ag hk1) Tryz.underlying28 Z BD Z) (J (Cm Z Z Aq Z) (goMv Z Z (J (KJ Z Z Z) (AD (Ah Z (fun h18=>?_) (fun h18=>?_)))))))))
  ·refine AE ?_;refine goMv Z Z (J (Ay Z Z (AT (c+1) (by omega)) Z) (AB Z Z (AD (AE (goMv Z Z (J (Ay Z Z (AT (k+1) (by omega)) Z) (AB Z Z (AD ?_))))))));exact ⟨(k+1,c+1),⟨hk1,by show c+1=(l.take (k+1)).count x;rw [φ hk1,List.count_append,List.count_singleton,←hc];simp [h18]⟩,by show l.length - (k+1)<l.length - k;omega,⟨Z,Z,fun _ _=>Ta.get (l:=[(0,_),(1,_),(5,_),(6,_)]) ⟨Z,Z,Z,Z,trivial⟩⟩⟩
  ·refine A3 (AE (goMv Z Z (J (Ay Z Z (AT (k+1) (by omega)) Z) (AB Z Z (AD ?_)))));exact ⟨(k+1,c),⟨hk1,by show c=(l.take (k+1)).count x;rw [φ hk1,List.count_append,List.count_singleton,←hc];simp [h18]⟩,by show l.length - (k+1)<l.length - k;omega,⟨Z,Z,fun _ _=>Ta.get (l:=[(0,_),(1,_),(5,_),(6,_)]) ⟨Z,Z,Z,Z,trivial⟩⟩⟩
 ·refine BF (AC (AE (goMv Z Z (AB Z Z (AD (A8 ?_))))));exact ⟨_,[],[],A7 Z,Z,Z,by rw [hc,Ξ (by have h:=h10;omega)],Z⟩
theorem few_sml {p:Prb} (h:Sml p):GV p:=⟨by have:=h.1;omega,by have:=h.2.1;omega,fun i hi=>by have:=h.2.2 i hi;omega⟩
def Uh (W:Int ->Int ->Bool) (c:Int) (l o:List Int):List Int:=l.foldl (fun o x=>if (!decide (x∈o) && W c x)=true then o++ [x] else o) o
theorem LH {W:Int ->Int ->Bool} {c a:Int} {l o:List Int}:Uh W c (a::l) o=Uh W c l (if (!decide (a∈o) && W c a)=true then o++ [a] else o):=rfl
theorem bfs1_mem {W:Int ->Int ->Bool} {c:Int}:∀(l o:List Int) (x:Int),x∈Uh W c l o↔x∈o∨(x∈l∧W c x=true)
 | [],o,x=>by unfold Uh;simp
 | a::l,o,x=>by
  have ih:=bfs1_mem (W:=W) (c:=c) l (if (!decide (a∈o) && W c a)=true then o++ [a] else o) x;rw [LH,ih,Φ]
  by_cases h:(!decide (a∈o) && W c a)=true
  ·rw [κ h,ν,ξ];simp only [ωb] at h
   constructor
   ·rintro ((h1 | rfl) | h1)
    ·exact .inl h1
    ·exact .inr ⟨.inl Z,h.2⟩
    ·exact .inr ⟨.inr h1.1,h1.2⟩
   ·rintro (h1 | ⟨rfl | h1,h2⟩)
    ·exact .inl (.inl h1)
    ·exact .inl (.inr Z)
    ·exact .inr ⟨h1,h2⟩
  ·rw [ϑ h]
   constructor
   ·rintro (h1 | h1)
    ·exact .inl h1
    ·exact .inr ⟨.inr h1.1,h1.2⟩
   ·rintro (h1 | ⟨rfl | h1,h2⟩)
    ·exact .inl h1
    ·refine .inl (Classical.byContradiction fun hn=>h ?_);rw [h2,ωp hn];rfl
    ·exact .inr ⟨h1,h2⟩
theorem TL {W:Int ->Int ->Bool} {c:Int}:∀(l o:List Int),o<+:Uh W c l o
 | [],o=>List.prefix_refl o
 | a::l,o=>by
  rw [LH];refine List.IsPrefix.trans ?_ (TL l _)
  split
  ·exact List.prefix_append _ _
  ·exact List.prefix_refl o
theorem Nq {W:Int ->Int ->Bool} {c:Int}:∀(l o:List Int),o.Nodup ->(Uh W c l o).Nodup
 | [],o,h=>h
 | a::l,o,h=>by
  rw [LH];refine Nq l _ ?_
  split
  ·rename_i h2
   rw [ωb] at h2;have hn:a∉o:=by simpa using h2.1
   rw [χp];exact ⟨h,by simp,fun x hx y hy e=>hn (by rw [ξ.1 hy] at e;exact e▸hx)⟩
  ·exact h
structure BI (l:List Int) (a:Int) (i:Nat) (o:List Int):Prop where
 le:i≤o.length
 nd:o.Nodup
 sb:∀x∈o,x∈a::l
theorem BI.len {l:List Int} {a:Int} {i:Nat} {o:List Int} (h:BI l a i o):o.length≤l.length+1:=by
 have:=Cr h.nd h.sb
 rwa [ψo] at this
theorem BI.step {W:Int ->Int ->Bool} {l:List Int} {a:Int} {i:Nat} {o:List Int} (h:BI l a i o) (hi:i<o.length) (c:Int):BI l a (i+1) (Uh W c l o):=
 ⟨ωe hi (TL l o).length_le,Nq l o h.nd,fun x hx=>by
  rcases (bfs1_mem l o x).1 hx with h1 | h1
  ·exact h.sb x h1
  ·exact ωn _ h1.1⟩
inductive RcI (W:Int ->Int ->Bool) (l:List Int) (a:Int):Int ->Prop
 | refl:RcI W l a a
 | step {y x:Int} (h:RcI W l a y) (hx:x∈l) (hw:W y x=true):RcI W l a x
theorem UY (n:Nat) (q:Nat ->Bool):((List.range n).filter q).length≤n:=by
 have:=ωh q (List.range n);rwa [ωf] at this
theorem br (rs:List AP) (E:List (AK×Nat)):(compL rs E).length≤E.length∧∀x∈compL rs E,x.length≤E.length:=by
 unfold compL clsN;refine ⟨by rw [ψ,ψ];exact UY _ _,fun x hx=>?_⟩;obtain ⟨y,hy,rfl⟩:=ϖ.1 hx;obtain ⟨k,_,rfl⟩:=ϖ.1 hy;rw [NP];exact UY _ _
theorem Se (p:Prb) (l:List Int):(DP p l).length≤p.it.length:=by
 unfold DP;rw [ψ];have:=ωh (fun i:AK=>decide (i.id∈l)) (BJ p.it)
 rwa [DH] at this
theorem SQ {p:Prb} (hE:Az p=0) {x:AK} (hx:x∈p.it):LV (ordP p) x.id=(x,true):=by
 have hO:ordP p=BJ p.it:=κ hE;have hx2:x∈ordP p:=by rw [hO];exact (W5 p.it).mem_iff.2 hx
 have hn:=Ee hE;obtain ⟨k,hk,e⟩:=χb.1 hx2
 have h:=NN (l:=ordP p) (id:=x.id) hk (fun hm=>by
  obtain ⟨y,hy,e2⟩:=ϖ.1 hm;obtain ⟨j,hj,e3⟩:=χe.1 hy;rw [List.Nodup,ωq] at hn;refine hn j k (by rw [ψ];omega) (by rw [ψ];omega) (by omega) ?_
  rw [ωd,ωd,e3,e,e2]) (by rw [e])
 rw [h,e]
set_option maxHeartbeats 2000000 in
theorem apart_p (p:Prb) (hE:Az p=0) (hf:GV p) (a:AK) (ha:a∈p.it) (l:List Int) (hl:l.length≤100000) (hm:∀y∈l,∃b,b∈p.it∧b.id=y∧¬Lp (rsP p) a b):AO Tryz.prog 26 [.d (CB p),.d (Al a),.d (MG l)] (Ak true):=by
 have hr100:=hf.r;have hxa:=hf.x a ha;have hrs:=ZU hE;have hca:=Ij (O3 hE).2.1 _ ha;refine BB Tryz.func26 Z Z Tryz.ntmps26 Z Z Z fun F hF=>(AC (AE (V (CE 1 Z Z Z Z Z Z Z) (V (CE 2 Z Z Z Z Z Z Z) ?_))));refine AB Z Z (AD (AC (AC (AE (AB Z Z (AD (A5 (B6 (α:=Nat) (fun k=>⟨71,[(3,(.ptr 1 0 0)),(4,(.ptr 2 0 0)),(2,(.d (MG l))),(7,(.d (AF (k:Int))))],[(1,[.blk 39 [.d (.sl none (p.ro.map CZ)),.d (.sl none (p.it.map Al))]]),(2,[.blk 55 [.d (AF a.id),.d (AF a.pr),.d (AF a.sq),.d (.sl none (a.po.map Br)),.d (.sl none (a.pa.map E3)),.d (.sl none (a.af.map AF))]])]⟩) (fun k=>k≤l.length) (fun k=>l.length - k) (0) (Γ _) (A1 hF [1,2] Z Z ⟨Z,Z,Z,Z,trivial⟩) ?_))))))));rintro k hk0;refine AC (AC (AE (goMv Z Z (goMv Z Z (J (Bz Z Tryz.underlying28 Z) (J (BT Z Z Z) (AD (Ah Z (fun h14=>?_) (fun h14=>?_)))))))))
 ·refine A3 (AC (A5 (AC ?_)));have hk1:k<l.length:=Bf h14;obtain ⟨b,hb1,hb2,hb3⟩:=hm _ (θ hk1);have hcb:=Ij (O3 hE).2.1 _ hb1;have hxb:=hf.x b hb1;have hit:=UU p b.id hf.b;rw [SQ hE hb1] at hit;have hni:=fun h=>hb3 ((int_iff hrs hca hcb).2 h);have hc1:=I3 a.af b.id (by omega);have hc2:=I3 b.af a.id (by omega);rw [List.count_eq_zero.2 fun h=>hni (.inl (.inl h))] at hc1;rw [List.count_eq_zero.2 fun h=>hni (.inl (.inr h))] at hc2;refine Cc [[],[],[],[1,2],[1,2,3],[0,1,2,3,4],[0,1,2,3,4,5],[0,1,2,3,4,5,6],[0,1,2,3,4,5,6],[],[0,1,2,3,4,5,6,7,9],[0,1,2,3,4,5,6,7,8,9,10]] mixed Z (Cj (As [3] Z Z (fun _=>AG (BO Z Z B8 Z Z Z)) (AI [2] [] Z Z (fun _=>AG (Ai Z Z)) (AI [7] [] Z Z (fun _=>AG (Ai Z Z)) (AI [19,20] [] Z Z (fun _=>AG (Bb (k) Z Z (Z) ((show (l.map AF)[k]? =some (AF b.id) from by rw [Ag hk1,hb2])) Tryz.underlying28 Z BD Z)) (AI [21] [] Z Z (fun _=>AG (Cm Z Z Aq Z)) (AI [18,22] [] Z Z (fun _=>AG (BZ (hit) Z Z)) ?_)))))));refine AI [23] [] Z Z (fun _=>AG (Ai Z Z)) (AI [17] [] Z Z (fun _=>AG (D8 Z Z Z)) (AI [17] [] Z Z (fun _=>AG (D8 Z Z Z)) (Fo [] [8] [(8,_)] Z Z (fun _=>Fq (CO 8 EY Z Z Z Z)) (.inr ⟨8,_,Z,Z,Z,Z,Z⟩) Z Z Z Z Z (Fo [8,24] [8] [] Z Z (fun _=>Fq (Bi Z Z Z Z Z Z Z C8)) (.inl ⟨Z,Z⟩) Z Z Z Z Z (C1 11 Z Z Z (Ae 12 Z Z (AB Z Z (AD ⟨Z,?_⟩))))))));refine C6 (AC (AC (AE (goMv Z Z (J (L7 Z Z) (goMv Z Z (E4 28 Z (Z) (Ad Z Z Z ?_))))))));refine J (A4 Z Dq Z Z Z) (Ad Z Z Z (J (A9 Z Z Z BC Z) (Ad Z Z Z (J (A4 Z MV Z Z Z) (Ad Z Z Z (J (A9 Z Z Z Aq Z) (Ad Z Z Z (J (BZ (hc1) Z Z) ?_))))))));refine Ad Z Z Z (J (KK Z Z Z) (J (DR Z Z Z Z) (goMv Z Z (E4 36 Z (Z) (Ad Z Z Z (J (A4 Z Dq Z Z Z) (Ad Z Z Z (J (A9 Z Z Z BC Z) ?_))))))));refine Ad Z Z Z (J (A4 Z MV Z Z Z) (Ad Z Z Z (J (A9 Z Z Z Aq Z) (Ad Z Z Z (J (BZ (hc2) Z Z) (Ad Z Z Z (J (KK Z Z Z) (J (DR Z Z Z Z) ?_))))))));refine AD (Db Z (Z) (A3 (AC (AE (AB Z Z (AD (A5 (B6 (α:=Nat) (fun m=>⟨71,[(3,(.ptr 1 0 0)),(4,(.ptr 2 0 0)),(2,(.d (MG l))),(7,(.d (AF (k:Int)))),(8,(.ptr 8 0 0)),(10,(.d (AF (m:Int))))],[(1,[.blk 39 [.d (.sl none (p.ro.map CZ)),.d (.sl none (p.it.map Al))]]),(2,[.blk 55 [.d (AF a.id),.d (AF a.pr),.d (AF a.sq),.d (.sl none (a.po.map Br)),.d (.sl none (a.pa.map E3)),.d (.sl none (a.af.map AF))]]),(8,[.blk 55 [.d (AF b.id),.d (AF b.pr),.d (AF b.sq),.d (.sl none (b.po.map Br)),.d (.sl none (b.pa.map E3)),.d (.sl none (b.af.map AF))]])]⟩) (fun m=>m≤p.ro.length) (fun m=>p.ro.length - m) (0) (Γ _) (A1 hF [1,2,8] Z Z ⟨Z,Z,Z,Z,Z,Z,trivial⟩) ?_))))))));rintro m hm0;refine AC ?_;refine AC (AE (goMv Z Z (J (A4 Z Dr Z Z Z) (J (A9 Z Z Z Mt Z) (J (JN Z (ψ ..) Tryz.underlying36 Z) (J (BT Z Z Z) (AD (Ah Z (fun h48=>?_) (fun h48=>?_)))))))))
  ·refine A3 (AC (A5 (AC ?_)));have hm1:m<p.ro.length:=Bf h48;have hrm:p.ro[m].r∈rsP p:=by unfold rsP;exact χl (θ hm1)
   have hdz:CR a p.ro[m].r≠0 ->CR b p.ro[m].r=0:=fun h=>Decidable.byContradiction fun h2=>hni (.inr ⟨_,hrm,h,h2⟩);refine Cc [[],[],[1],[],[1,2,3],[1,2,3,4],[1,2,3,4,5],[0,1,2,3,4,5,6],[0,1,2,3,4,5,6,7],[0,1,2,3,4,5,6,7,8],[0,1,2,3,4,5,6,7,8,9],[0,1,2,3,4,5,6,7,8,9],[0,1,2,3,4,5,6,7,8,9,11],[0,1,2,3,4,5,6,7,8,9],[0,1,2,3,4,5,6,7,8,9,11,12,13],[0,1,2,3,4,5,6,7,8,9,11,12,13,14],[0,1,2,3,4,5,6,7,8,9,11,12,13,14,15],[0,1,2,3,4,5,6,7,8,9,10,11,12,13,14,15,16],[0,1,2,3,4,5,6,7,8,9,10,11,12,13,14,15,16,17],[0,1,2,3,4,5,6,7,8,9,10,11,12,13,14,15,16,17,18]] mixed Z (Cj (As [4] Z Z (fun _=>AG (BO Z Z Bt Z Z Z)) (AI [3] [] Z Z (fun _=>AG (A4 Z Dr Z Z Z)) ?_)));refine As [52] Z Z (fun _=>AG (A9 Z Z Z Mt Z)) (AI [10] [] Z Z (fun _=>AG (Ai Z Z)) (AI [53,54] [] Z Z (fun _=>AG (Bb (m) Z Z (Z) (Ag hm1) Tryz.underlying36 Z Lc Z)) (AI [55] [] Z Z (fun _=>AG (Zcq Z Dp Z Z Z)) (AI [56] [] Z Z (fun _=>AG (GW Z Z CY Z)) (C1 7 Z Z Z (Ae 8 Z Z (J (BZ (MP a p.ro[m].r (by omega) (by omega) (by omega)) Z Z) (AD ⟨Z,?_⟩))))))));refine Ae 9 Z Z (J (EA Z Z Z) (AD ⟨Z,?_⟩));refine Ae 10 Z Z (goMv Z Z (Id 60 Z (fun h60=>?_) (fun h60=>?_)))
   ·refine AD ⟨Z,?_⟩;refine Cj (As [8,60] Z Z (fun _=>HI Z Z Z (BO Z Z Bt Z Z Z)) (AI [3,60] [] Z Z (fun _=>HI Z Z Z (A4 Z Dr Z Z Z)) (As [62,60] Z Z (fun _=>HI Z Z Z (A9 Z Z Z Mt Z)) ?_)));refine AI [10,60] [] Z Z (fun _=>HI Z Z Z (Ai Z Z)) (AI [63,64,60] [] Z Z (fun _=>HI Z Z Z (Bb (m) Z Z (Z) (Ag hm1) Tryz.underlying36 Z Lc Z)) (AI [65,60] [] Z Z (fun _=>HI Z Z Z (Zcq Z Dp Z Z Z)) (AI [66,60] [] Z Z (fun _=>HI Z Z Z (GW Z Z CY Z)) (C1 17 Z Z Z (Ae 18 Z Z (Ad Z Z Z (J (BZ (MP b p.ro[m].r (by omega) (by omega) (by omega)) Z Z) (AD ⟨Z,?_⟩))))))));refine Ae 19 Z Z (Ad Z Z Z (J (EA Z Z Z) (AD ⟨Z,?_⟩)));refine Ae 20 Z Z (J (fSq Z Z Z Z) (AD ⟨Z,?_⟩));refine C6 (Db Z (by first | rfl | simp [hdz h60]) (A3 (AE (goMv Z Z (J (Ay Z Z (AT (m+1) (by omega)) rfl) (AB Z Z (AD ?_)))))));exact ⟨m+1,(by show m+1≤_;omega),by show p.ro.length - (m+1)<p.ro.length - m;omega,A1 hF [1,2,8] Z (Z) ⟨Z,Z,Z,Z,Z,Z,trivial⟩⟩
   ·refine AD ⟨Z,?_⟩;refine Cj (AI [8,60] [] Z Z (fun _=>Gl Z Z Z Z) (AI [3,60] [] Z Z (fun _=>Gl Z Z Z Z) ?_));refine AI [62,60] [] Z Z (fun _=>Gl Z Z Z Z) (AI [10,60] [] Z Z (fun _=>Gl Z Z Z Z) (AI [63,64,60] [] Z Z (fun _=>Gl Z Z Z Z) (AI [65,60] [] Z Z (fun _=>Gl Z Z Z Z) (AI [66,60] [] Z Z (fun _=>Gl Z Z Z Z) (C1 17 Z Z Z (Ae 18 Z Z (Aa Z Z Z Z (AD ⟨Z,?_⟩))))))));refine Ae 19 Z Z (Aa Z Z Z Z (AD ⟨Z,?_⟩));refine Ae 20 Z Z (J (DR Z Z Z Z) (AD ⟨Z,?_⟩));refine C6 (Db Z Z (A3 (AE (goMv Z Z (J (Ay Z Z (AT (m+1) (by omega)) Z) (AB Z Z (AD ?_)))))));exact ⟨m+1,(by show m+1≤_;omega),by show p.ro.length - (m+1)<p.ro.length - m;omega,A1 hF [1,2,8] Z (Z) ⟨Z,Z,Z,Z,Z,Z,trivial⟩⟩
  ·refine BF (AE (goMv Z Z (J (Ay Z Z (AT (k+1) (by omega)) Z) (AB Z Z (AD ?_)))));exact ⟨k+1,(by show k+1≤_;omega),by show l.length - (k+1)<l.length - k;omega,A1 hF [1,2] Z (Z) ⟨Z,Z,Z,Z,trivial⟩⟩
 ·refine BF (AC (AE (AB Z Z (AD (A8 ?_)))));exact ⟨_,[],_,A7 Z,Z,Z,Z,Z⟩
theorem itn_in {E:List (AK×Nat)} {i:Nat} (hi:i<E.length):D7 E i∈E.map Prod.fst:=by rw [D5 hi];exact χl (θ _)
structure CirOk (p:Prb) (L:List Int) (W:List (List Int)) (c:List Int):Prop where
 two:2≤c.length
 len:c.length≤p.it.length
 nd:c.Nodup
 lg:∀x∈c,x∈largeS p∧x∉DA p
 wt:∀x∈c,∃(m:Nat) (h:m<L.length) (h2:m<W.length),L[m]=x∧∃y,y∈W[m]∧y∈c
theorem GS {n:Nat} {C:Nat ->Nat ->Prop} {c:List Nat}:c∈clsN n C↔∃k,k<n∧(∀j,j<k ->¬C k j)∧c=(List.range n).filter fun j=>dec (C k j):=by
 unfold clsN;rw [ϖ]
 constructor
 ·rintro ⟨k,hk,e⟩;rw [ωa,ς,Ca] at hk;exact ⟨k,hk.1,hk.2,e.symm⟩
 ·rintro ⟨k,h1,h2,e⟩;exact ⟨k,by rw [ωa,ς,Ca];exact ⟨h1,h2⟩,e.symm⟩
theorem Pb {n:Nat} {C:Nat ->Nat ->Prop} (hs:∀i j,C i j ->C j i) (ht:∀i j k,C i j ->C j k ->C i k):(clsN n C).Pairwise fun a b=>∀x∈a,∀y∈b,¬C x y:=by
 unfold clsN;rw [ωy];have h0:((List.range n).filter fun k=>dec (∀j,j<k ->¬C k j)).Pairwise (· < ·):=List.Pairwise.sublist ψi χt;refine χk (fun {a b} ha hb hab x hx y hy hc=>?_) h0;rw [ωa,Ca] at hb hx hy;exact hb.2 a hab (ht _ _ _ hy.2 (ht _ _ _ (hs _ _ hc) (hs _ _ hx.2)))
theorem repN_ex {n:Nat} {C:Nat ->Nat ->Prop} (hr:∀i,C i i) (ht:∀i j k,C i j ->C j k ->C i k) (i:Nat) (hi:i<n):∃k,k<n∧(∀j,j<k ->¬C k j)∧C i k:=by
 induction i using Nat.strongRecOn with
 | ind i ih=>
  by_cases h:∀j,j<i ->¬C i j
  ·exact ⟨i,hi,h,hr i⟩
  ·obtain ⟨j,hj⟩:=Classical.not_forall.1 h;obtain ⟨hji,hm⟩:=Classical.not_imp.1 hj;have hm:=χs.1 hm;obtain ⟨k,hk,h2,hm2⟩:=ih j hji (by omega);exact ⟨k,hk,h2,ht _ _ _ hm hm2⟩
theorem bw {n:Nat} {C:Nat ->Nat ->Prop} (hr:∀i,C i i) (hs:∀i j,C i j ->C j i) (ht:∀i j k,C i j ->C j k ->C i k):((clsN n C).map List.length).sum=n:=by
 have hn:(clsN n C).flatten.Nodup:=by
  rw [List.Nodup,List.pairwise_flatten];refine ⟨fun c hc=>?_,(Pb hs ht).imp fun {a b} h x hx y hy e=>h x hx y hy (by rw [e];exact hr y)⟩;obtain ⟨k,_,_,rfl⟩:=GS.1 hc;exact (List.Pairwise.sublist ψi χt).imp fun h e=>by omega
 have hm:∀x,x∈(clsN n C).flatten↔x∈List.range n:=fun x=>by
  rw [List.mem_flatten,ς]
  constructor
  ·rintro ⟨c,hc,hx⟩;obtain ⟨k,_,_,rfl⟩:=GS.1 hc;exact ς.1 (ωa.1 hx).1
  ·intro hx;obtain ⟨k,hk,h2,h3⟩:=repN_ex hr ht x hx;exact ⟨_,GS.2 ⟨k,hk,h2,Z⟩,by rw [ωa,ς,Ca];exact ⟨hx,hs _ _ h3⟩⟩
 rw [←List.length_flatten,((χz hn List.nodup_range).2 hm).length_eq,ωf]
structure PartOk (p:Prb) (S:List Int) (T:List (List Int)):Prop where
 sum:(T.map List.length).sum=S.length
 el:∀c∈T,c.Nodup∧c.length≤p.it.length∧∀x∈c,x∈S∧∃a,a∈p.it∧a.id=x
 ap:T.Pairwise fun c d=>∀x∈c,∀y∈d,∀a b,a∈p.it ->b∈p.it ->a.id=x ->b.id=y ->¬Lp (rsP p) a b
theorem part_ok {p:Prb} (hE:Az p=0) {S:List Int} (hn:S.Nodup) (hS:∀x∈S,x∈p.it.map AK.id):PartOk p S (compL (rsP p) (DP p S)):=by
 have hids:=DL (O3 hE).2.1;have hsids:((BJ p.it).map AK.id).Nodup:=by have:=Ee hE;rwa [show ordP p=BJ p.it from κ hE] at this
 have hI:IdI (DP p S):=SV hsids (Hs p S)
 have hmem:∀i,i<(DP p S).length ->D7 (DP p S) i∈p.it∧(D7 (DP p S) i).id∈S:=fun i hi=>by
  have:=itn_in hi;rw [Hs,ωa] at this;exact ⟨(W5 p.it).mem_iff.1 this.1,by simpa using this.2⟩
 have hlen:(DP p S).length=S.length:=by
  have h1:((DP p S).map fun e=>e.1.id).Nodup:=by
   have:((DP p S).map fun e=>e.1.id)=((BJ p.it).filter fun i=>decide (i.id∈S)).map AK.id:=by rw [←Hs,ωv];rfl
   rw [this];exact List.Nodup.sublist (List.filter_sublist.map _) hsids
  have h2:((DP p S).map fun e=>e.1.id).Perm S:=(χz h1 hn).2 fun x=>by
   have:((DP p S).map fun e=>e.1.id)=((BJ p.it).filter fun i=>decide (i.id∈S)).map AK.id:=by rw [←Hs,ωv];rfl
   rw [this,ϖ]
   constructor
   ·rintro ⟨i,hi,rfl⟩;simpa using (ωa.1 hi).2
   ·intro hx;obtain ⟨i,hi,rfl⟩:=ϖ.1 (hS x hx);exact ⟨i,ωa.2 ⟨(W5 p.it).mem_iff.2 hi,by simpa using hx⟩,Z⟩
  rw [←h2.length_eq,ψ]
 have hCr:∀i,Cn (rsP p) (DP p S) i i:=fun i=> .refl i;have hCs:∀i j,Cn (rsP p) (DP p S) i j ->Cn (rsP p) (DP p S) j i:=fun i j h=>h.symm;have hCt:∀i j k,Cn (rsP p) (DP p S) i j ->Cn (rsP p) (DP p S) j k ->Cn (rsP p) (DP p S) i k:=fun i j k h h2=>Rh.trans h h2;refine ⟨?_,fun c hc=>?_,?_⟩
 ·unfold compL;rw [ωv,show (List.length∘Dm (DP p S))=List.length from funext fun l=>NP _ _,bw hCr hCs hCt,hlen]
 ·obtain ⟨d,hd,rfl⟩:=ϖ.1 hc;obtain ⟨k,hk,_,rfl⟩:=GS.1 hd;refine ⟨?_,by rw [NP];have:=UY (DP p S).length fun j=>dec (Cn (rsP p) (DP p S) k j);have:=Se p S;omega,fun x hx=>?_⟩
  ·unfold Dm;rw [List.Nodup,ωy];refine χk (fun {a b} h1 h2 h3 e=>?_) (List.Pairwise.sublist ψi χt);have:=hI a b (ς.1 (ωa.1 h1).1) (ς.1 (ωa.1 h2).1) e;omega
  ·obtain ⟨i,hi,rfl⟩:=ϖ.1 hx;have hil:=ς.1 (ωa.1 hi).1;exact ⟨(hmem i hil).2,_,(hmem i hil).1,Z⟩
 ·unfold compL;rw [ωy];refine χk (fun {c d} hc hd h x hx y hy a b ha hb e1 e2 hi=>?_) (Pb hCs hCt);obtain ⟨i,hi1,rfl⟩:=ϖ.1 hx;obtain ⟨j,hj1,rfl⟩:=ϖ.1 hy;obtain ⟨_,_,_,rfl⟩:=GS.1 hc;obtain ⟨_,_,_,rfl⟩:=GS.1 hd;have hil:=ς.1 (ωa.1 hi1).1;have hjl:=ς.1 (ωa.1 hj1).1;have ea:=WE hids ha (hmem i hil).1 e1;have eb:=WE hids hb (hmem j hjl).1 e2;refine h i hi1 j hj1 (Rh.one (D2.2 ⟨hil,hjl,?_⟩));rw [←ea,←eb];exact hi
end Go.Proofs.YteifpcnphnhaoaaGreat
namespace Go.Proofs.YteifpcnphnhaoaaGreat
open Go.ChangeShapes Go.WideShapes Go.ChangeAt Go.RowKit
section
variable {H:Type} {enc:TypeId×Value ->H} {w:World}
abbrev tt {α:Type}:α ->Prop:=fun _=>True
theorem oI:CL enc Tryz.prog w 3 1 AF tt:=(V5 Tryz.underlying3).asQ id (fun _ _=>rfl) (fun _ _=>trivial)
theorem oJ:CL enc Tryz.prog w 2 1 AF tt:=(V5 Tryz.underlying2).asQ id (fun _ _=>rfl) (fun _ _=>trivial)
theorem oS:CL enc Tryz.prog w 9 1 Ao tt:=(Zq Tryz.underlying9).asQ id (fun _ _=>rfl) (fun _ _=>trivial)
theorem oIs:CL enc Tryz.prog w 28 1 (fun l:List Int=> .sl none (l.map AF)) tt:=(Ke Tryz.underlying28 (by kernel_rfl) (by omega) (b:=8) (by kernel_rfl) oI).asQ id (fun _ _=>rfl) (fun _ _=>trivial)
theorem oAcc:CL enc Tryz.prog w 96 3 accD tt:=
 (Is Tryz.underlying96 (by kernel_rfl) (Bn Z (by kernel_rfl) oS (Bn Z (by kernel_rfl) oI (Bn Z (by kernel_rfl) oS It)))).asQ (fun a=>(⟨a.1,a.2.1,a.2.2.1⟩:T0)) (fun _ _=>rfl) (fun _ _=>trivial)
theorem oPost:CL enc Tryz.prog w 192 4 Br tt:=
 (Is Tryz.underlying192 (by kernel_rfl) (Bn Z (by kernel_rfl) oAcc (Bn Z (by kernel_rfl) oJ It))).asQ (fun a=>(⟨a.1,a.2.1⟩:FR)) (fun _ _=>rfl) (fun _ _=>trivial)
theorem oPay:CL enc Tryz.prog w 193 3 E3 tt:=
 (Is Tryz.underlying193 (by kernel_rfl) (Bn Z (by kernel_rfl) oS (Bn Z (by kernel_rfl) oS (Bn Z (by kernel_rfl) oJ It)))).asQ (fun a=>(⟨a.1,a.2.1,a.2.2.1⟩:OJ)) (fun _ _=>rfl) (fun _ _=>trivial)
theorem oRsc:CL enc Tryz.prog w 98 6 C4 tt:=
 (Is Tryz.underlying98 (by kernel_rfl) (Bn Z (by kernel_rfl) oI (Bn Z (by kernel_rfl) oAcc (Bn Z (by kernel_rfl) oS (Bn Z (by kernel_rfl) oS It))))).asQ (fun a=>(⟨a.1,a.2.1,a.2.2.1,a.2.2.2.1⟩:AP)) (fun _ _=>rfl) (fun _ _=>trivial)
theorem oItm:CL enc Tryz.prog w 93 6 Al tt:=
 (Is Tryz.underlying93 (by kernel_rfl) (Bn Z (by kernel_rfl) oI (Bn Z (by kernel_rfl) oI (Bn Z (by kernel_rfl) oI
  (Bn Z (by kernel_rfl) (Ke Tryz.underlying90 (by kernel_rfl) (by omega) (b:=48) (by kernel_rfl) oPost)
  (Bn Z (by kernel_rfl) (Ke Tryz.underlying91 (by kernel_rfl) (by omega) (b:=40) (by kernel_rfl) oPay) (Bn Z (by kernel_rfl) oIs It))))))).asQ
  (fun a=>(⟨a.1,a.2.1,a.2.2.1,a.2.2.2.1,a.2.2.2.2.1,a.2.2.2.2.2.1⟩:AK)) (fun _ _=>rfl) (fun _ _=>trivial)
theorem oRoo:CL enc Tryz.prog w 100 7 CZ tt:=
 (Is Tryz.underlying100 (by kernel_rfl) (Bn Z (by kernel_rfl) oRsc (Bn Z (by kernel_rfl) oJ It))).asQ (fun a=>(⟨a.1,a.2.1⟩:A2)) (fun _ _=>rfl) (fun _ _=>trivial)
theorem oPrb:CL enc Tryz.prog w 25 2 CB tt:=
 (Is Tryz.underlying25 (by kernel_rfl) (Bn Z (by kernel_rfl) (Ke Tryz.underlying22 (by kernel_rfl) (by omega) (b:=88) (by kernel_rfl) oRoo) (Bn Z (by kernel_rfl) (Ke Tryz.underlying23 (by kernel_rfl) (by omega) (b:=96) (by kernel_rfl) oItm) It))).asQ
  (fun a=>(⟨a.1,a.2.1⟩:Prb)) (fun _ _=>rfl) (fun _ _=>trivial)
end
end Go.Proofs.YteifpcnphnhaoaaGreat
