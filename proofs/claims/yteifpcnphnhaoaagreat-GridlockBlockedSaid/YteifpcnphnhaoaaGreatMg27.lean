import Derived.Test.YteifpcnphnhaoaaGreatMg26
namespace Go.Proofs.YteifpcnphnhaoaaGreat
open Go.RowKit Go.Shelf
set_option maxRecDepth 100000
theorem S5 (l m:List Int) (hl:l.length≤100000) (hm:m.length≤100000):AO Tryz.prog 17 [.d (.sl none (l.map AF)),.d (.sl none (m.map AF))] (Ag (decide (l=m))):=by
 refine Az Tryz.func17 Z Z Tryz.ntmps17 Z Z Z fun F hF=>(AC (AE (AB Z Z (AD (AC ?_)))));refine AC (AE (goMv Z Z (J (CM Z Tryz.underlying28 Z) (goMv Z Z (J (CM Z Tryz.underlying28 Z) (J (DX Z Z Z) (AD (Ae Z (fun h10=>?_) (fun h10=>?_)))))))))
 ·refine AC (AE (AB Z Z (AD (A5 ?_))));exact ⟨_,[],[],A3 Z,Z,Z,K4 (fun h=>by have h1:=Γ List.length h;have h:=h10;omega),Z⟩
 ·refine A1 (AC (AC ?_));have hlen:l.length=m.length:=by have h:=h10;omega
  refine AE (AB Z Z (AD (A4 (B5 (α:=Nat) (fun k=>⟨26,[(0,.d (.sl none (l.map AF))),(1,.d (.sl none (m.map AF))),(5,(.d (AF (k:Int))))],[]⟩) (fun k=>k≤l.length∧l.take k=m.take k) (fun k=>l.length - k) (0) (⟨Δ _,by simp⟩) (A0 hF [] Z Z ⟨Z,Z,Z,trivial⟩) ?_))));rintro k ⟨hk0,hk⟩;refine AC (AC (AE (goMv Z Z (goMv Z Z (J (CM Z Tryz.underlying28 Z) (J (BV Z Z Z) (AD (Ae Z (fun h14=>?_) (fun h14=>?_)))))))))
  ·have hk1:k<l.length:=Bf h14;refine A1 (AC (A4 (AC ?_)));have hk2:k<m.length:=by omega
   refine Cb [[],[],[0,1],[0,1,2],[],[],[4,5],[4,5,6],[0,1,2,3,4,5,6,7]] mixed Z (Cr (AJ [0] [] Z Z (fun _=>AG (Aj Z Z)) (AJ [5] [] Z Z (fun _=>AG (Aj Z Z)) (AJ [17,18] [] Z Z (fun _=>AG (Bk (k) Z Z (Z) (Ah hk1) Tryz.underlying28 Z BA Z)) ?_))));refine AJ [19] [] Z Z (fun _=>AG (D0 Z Z Aq Z)) (AJ [1] [] Z Z (fun _=>AG (Aj Z Z)) (AJ [5] [] Z Z (fun _=>AG (Aj Z Z)) (AJ [21,22] [] Z Z (fun _=>AG (Bk (k) Z Z (Z) (Ah hk2) Tryz.underlying28 Z BA Z)) (AJ [23] [] Z Z (fun _=>AG (D0 Z Z Aq Z)) (C3 8 Z Z Z (Aa 9 Z Z (J (DX Z Z Z) (AD ⟨Z,?_⟩))))))));refine C9 (Ae Z (fun h25=>?_) (fun h25=>?_))
   ·refine AC (AE (AB Z Z (AD (A5 ?_))));exact ⟨_,[],[],A3 Z,Z,Z,K4 (fun h=>by subst h;exact h25 Z),Z⟩
   ·refine A1 (AE (goMv Z Z (J (Ay Z Z (AT (k+1) (by omega)) Z) (AB Z Z (AD ?_)))));exact ⟨k+1,⟨by show k+1≤_;omega,by rw [φ hk1,φ hk2,hk,χw.1 h25]⟩,by show l.length - (k+1)<l.length - k;omega,A0 hF [] Z (Z) ⟨Z,Z,Z,trivial⟩⟩
  ·refine BC (AC (AE (AB Z Z (AD (A5 ?_)))));exact ⟨_,[],[],A3 Z,Z,Z,retT (by have h1:=hk;rw [Ξ (by have h:=h14;omega),Ξ (by have h:=h14;omega)] at h1;exact h1),Z⟩
theorem PP (l m:List (List Int)) (hl:l.length≤100000) (hm:m.length≤100000) (hll:∀x∈l,x.length≤100000) (hmm:∀x∈m,x.length≤100000):AO Tryz.prog 18 [.d (Xj l),.d (Xj m)] (Ag (decide (l=m))):=by
 refine Az Tryz.func18 Z Z Tryz.ntmps18 Z Z Z fun F hF=>(AC (AE (AB Z Z (AD (AC ?_)))));refine AC (AE (goMv Z Z (J (CM Z Tryz.underlying29 Z) (goMv Z Z (J (CM Z Tryz.underlying29 Z) (J (DX Z Z Z) (AD (Ae Z (fun h10=>?_) (fun h10=>?_)))))))))
 ·refine AC (AE (AB Z Z (AD (A5 ?_))));exact ⟨_,[],[],A3 Z,Z,Z,K4 (fun h=>by have h1:=Γ List.length h;have h:=h10;omega),Z⟩
 ·refine A1 (AC (AC ?_));have hlen:l.length=m.length:=by have h:=h10;omega
  refine AE (AB Z Z (AD (A4 (B5 (α:=Nat) (fun k=>⟨27,[(0,.d (Xj l)),(1,.d (Xj m)),(5,(.d (AF (k:Int))))],[]⟩) (fun k=>k≤l.length∧l.take k=m.take k) (fun k=>l.length - k) (0) (⟨Δ _,by simp⟩) (A0 hF [] Z Z ⟨Z,Z,Z,trivial⟩) ?_))));rintro k ⟨hk0,hk⟩;refine AC (AC (AE (goMv Z Z (goMv Z Z (J (CM Z Tryz.underlying29 Z) (J (BV Z Z Z) (AD (Ae Z (fun h14=>?_) (fun h14=>?_)))))))))
  ·have hk1:k<l.length:=Bf h14;refine A1 (AC (A4 (AC ?_)));have hk2:k<m.length:=by omega
   refine Cb [[],[],[0,1],[0,1,2],[],[],[4,5],[4,5,6],[0,1,2,3,4,5,6,7],[0,1,2,3,4,5,6,7,8]] mixed Z (Cr (AJ [0] [] Z Z (fun _=>AG (Aj Z Z)) (AJ [5] [] Z Z (fun _=>AG (Aj Z Z)) (AJ [17,18] [] Z Z (fun _=>AG (Bk (k) Z Z (Z) (Ah hk1) Tryz.underlying29 Z Ce Z)) ?_))));refine AJ [19] [] Z Z (fun _=>AG (D0 Z Z BI Z)) (AJ [1] [] Z Z (fun _=>AG (Aj Z Z)) (AJ [5] [] Z Z (fun _=>AG (Aj Z Z)) (AJ [21,22] [] Z Z (fun _=>AG (Bk (k) Z Z (Z) (Ah hk2) Tryz.underlying29 Z Ce Z)) (AJ [23] [] Z Z (fun _=>AG (D0 Z Z BI Z)) (C3 8 Z Z Z (Aa 9 Z Z (J (B4 (S5 l[k] m[k] (hll _ (κ hk1)) (hmm _ (κ hk2))) Z Z) (AD ⟨Z,?_⟩))))))));refine Aa 10 Z Z (J (Nx Z Z) (AD ⟨Z,?_⟩));refine C9 (Ae Z (fun h26=>?_) (fun h26=>?_))
   ·refine AC (AE (AB Z Z (AD (A5 ?_))));exact ⟨_,[],[],A3 Z,Z,Z,K4 (fun h=>by subst h;exact h26 Z),Z⟩
   ·refine A1 (AE (goMv Z Z (J (Ay Z Z (AT (k+1) (by omega)) Z) (AB Z Z (AD ?_)))));exact ⟨k+1,⟨by show k+1≤_;omega,by rw [φ hk1,φ hk2,hk,χw.1 h26]⟩,by show l.length - (k+1)<l.length - k;omega,A0 hF [] Z (Z) ⟨Z,Z,Z,trivial⟩⟩
  ·refine BC (AC (AE (AB Z Z (AD (A5 ?_)))));exact ⟨_,[],[],A3 Z,Z,Z,retT (by have h1:=hk;rw [Ξ (by have h:=h14;omega),Ξ (by have h:=h14;omega)] at h1;exact h1),Z⟩
theorem aK (id n:Int) (a b:List UInt8) (h0:0≤n) (h1:n≤1000000000000000):AO Tryz.prog 40 [.d (AF id),.d (Am a),.d (Am b),.d (AF n)] (.agg [AF id,AF 0,AF id,.sl none ((OM id a b n).po.map CF),.sl (some true) [],.sl (some true) []]):=by
 refine Az Tryz.func40 Z Z Tryz.ntmps40 Z Z Z fun F hF=>(AC (AE (V (CD 1 El Z Z Z Z) (AD (AC ?_)))));refine AE (goMv Z Z (goMv Z Z (goMv Z Z (J (FV Yd aH Z Z Z) (goMv Z Z (J (ZT Z (ωa _ (by omega)) Z) (J (FV O6 aJ Z Z Z) (goMv Z Z ?_))))))));refine J (FV Yd aH Z Z Z) (goMv Z Z (J (FV O6 aJ Z Z Z) (V (D1 4 XN Z Z Z Z Z Z Z Z) (Zcn (emb:=CF) 20 4 (OM id a b n).po Z Z Z Z Z Z Z (J (FV El pl55 Z Z Z) (V (Be Z Z Z Z Z Z Z Cd) (AD (A5 ?_))))))));exact ⟨_,[],[],A3 Z,Z,Z,Z,Z⟩
theorem Lr (id n:Int) (a b:List UInt8) (h0:0≤n) (h1:n≤1000000000000000):AO Tryz.prog 40 [.d (AF id),.d (Am a),.d (Am b),.d (AF n)] (Ao (OM id a b n)):=
 (aK id n a b h0 h1).weak fun w O v h=>h.aggMono Z (by simp [D.one]) fun i c c' hc hc' v hv=>by
  match i,hc,hc' with
  | 0,hc,hc'=>injection hc with hc;injection hc' with hc';subst hc hc';exact hv
  | 1,hc,hc'=>injection hc with hc;injection hc' with hc';subst hc hc';exact hv
  | 2,hc,hc'=>injection hc with hc;injection hc' with hc';subst hc hc';exact hv
  | 3,hc,hc'=>injection hc with hc;injection hc' with hc';subst hc hc';exact hv
  | 4,hc,hc'=>injection hc with hc;injection hc' with hc';subst hc hc';exact hv.anyNil
  | 5,hc,hc'=>injection hc with hc;injection hc' with hc';subst hc hc';exact hv.anyNil
set_option maxHeartbeats 2000000 in
theorem Xt:AO Tryz.prog 10 [] (.raw (.bool true)):=by
 have han:=Nr kK kK_F U2;rw [kK_rep] at han;refine Az Tryz.func10 Z Z Tryz.ntmps10 Z Z Z fun F hF=>(AC ?_);refine AE (AB Z Z (AD (AC (AE (V (CD 1 Ye Z Z Z Z) (AD (AC (AC ?_))))))));refine AE (V (D1 2 sl86 Z Z Z Z Z Z Z Z) (Zcn (emb:=Am) 7 2 nmK Z Z Z Z Z Z Z (J (CM Z Tryz.underlying86 Z) (goMv Z Z (AD (A4 (EM 1 0 0 901 Pm Z Z Z Z Z Z Z (B5 (α:=Nat×List Roo) (fun q=>⟨86,[(1,(.ptr 1 0 0)),(7,(.d (.sl none (nmK.map Am)))),(8,(.d (AF 3))),(9,(.d (AF (q.1:Int))))],[(901,[.rowD 88 7 (q.2.map CX)]),(1,[.blk 39 [.own 901 0 q.2.length,.d CG]])]⟩) (fun q=>q.1≤3∧q.2=Ps.take q.1) (fun q=>3 - q.1) ((0,[])) (⟨by decide,Z⟩) (A0 hF [901,1] Z Z ⟨Z,Z,Z,Z,trivial⟩) ?_))))))));rintro ⟨k,ro⟩ ⟨hk0,hro⟩;dsimp only at hk0 hro⊢;refine AC (AE (J (BV Z Z Z) (AD (AC (Ae Z (fun h10=>?_) (fun h10=>?_))))))
 ·have hk1:k<nmK.length:=by have h:=Bf (b:=3) h10;exact h
  refine A1 (AC (A4 (AC ?_)));have hro1:ro++ [⟨⟨0,T4 nmK[k],[],[]⟩,0⟩]=Ps.take (k+1):=by subst hro;match k,hk1 with | 0,_=>rfl | 1,_=>rfl | 2,_=>rfl
  have hrl:ro.length≤3:=by rw [hro];simp [Ps];omega
  refine AE (J (Bk (k) Z Z (Z) (Ah hk1) Tryz.underlying86 Z sz9 Z) (J (D0 Z Z IG Z) ?_));refine AB Z Z (AD (AE (J (AZ Z Fk Z Z Z) (J (A6 Z Z Z Rq Z) (goMv Z Z (J (FV Yd aH Z Z Z) (J (FV KN Rg Z Z Z) (J (FV Qp pl88 Z Z Z) ?_))))))));refine V (D1 50 Pm Z Z Z Z Z Z Z Z) (V (I0 (ro) ([⟨⟨0,T4 nmK[k],[],[]⟩,0⟩]) Z Z Z Z Z Z Z Z Pm (by simp only [Ψ];omega) Z Z Z Z) (J (AZ Z Fk Z Z Z) (V (Be Z Z Z Z Z Z Z sz36) (AD (AE (J (Ay Z Z (AT (k+1) (by omega)) Z) (goMv Z Z (AD ?_))))))));exact ⟨(k+1,_),⟨by show k+1≤3;omega,hro1⟩,by show 3 - (k+1)<3 - k;omega,A0 hF [901,1] Z (Z) ⟨Z,Z,Z,Z,trivial⟩⟩
 ·refine BC (AC ?_);have hk3:k=3:=by have h:=h10;omega
  subst hk3;have hro3:ro=Ps:=hro;subst hro3;refine Dm (ys:=Ps.map CX) 1 0 0 901 Z Z Z (by decide) Z Z Z Z Z Z Z (AE (J (B4 (Lr 1 5 [65] [66] (by decide) (by decide)) Z Z) (J (B4 (Lr 2 5 [66] [67] (by decide) (by decide)) Z Z) (J (B4 (Lr 3 5 [67] [65] (by decide) (by decide)) Z Z) (J (B4 (Lr 4 4 [65] [68] (by decide) (by decide)) Z Z) (V (D1 52 OH Z Z Z Z Z Z Z Z) (Zcn (emb:=Ao) 27 52 bY Z Z Z Z Z Z Z ?_)))))));refine J (AZ Z ES Z Z Z) (V (Be Z Z Z Z Z Z Z sz37) (AD (AC (AE (J (BM Z Z B2 Z Z Z) (J (B4 (han) Z Z) (goMv Z Z (J (DD Z Z Z) ?_))))))));refine J (DD Z Z Z) (V (CD 4 Qq Z Z Z Z) (V (Be Z Z Z Z Z Z Z ZG) (AB Z Z (AD (AC (AE (V (D1 54 BW Z Z Z Z Z Z Z Z) (Zcn (emb:=AF) 34 54 [1,2,3] Z Z Z Z Z Z Z ?_))))))));refine V (D1 55 RX Z Z Z Z Z Z Z Z) (Zcn (emb:=QC) 35 55 [[1,2,3]] Z Z Z Z Z Z Z (AB Z Z (AD (AC (Cb [[],[0],[0,1],[0,1,2],[0,1,2,3],[0,1,2],[0,1,2,5],[0,1,2,5,6],[0,1,2,3,4,5,6,7],[0,1,2,3,4,5,6,7,8],[0,1,2,3,4,5,6,7,8,9],[0,1,2,3,4,5,6,7,8,9,10],[0,1,2,3,4,5,6,7,8,9,10,11],[0,1,2,3,4,5,6,7,8,9,10,11,12],[0,1,2,3,4,5,6,7,8,9,10,11,12,13],[0,1,2,3,4,5,6,7,8,9,10,11,12,13,14],[0,1,2,3,4,5,6,7,8,9,10,11,12,13,14,15],[0,1,2,3,4,5,6,7,8,9,10,11,12,13,14,15,16],[0,1,2,3,4,5,6,7,8,9,10,11,12,13,14,15,16,17],[0,1,2,3,4,5,6,7,8,9,10,11,12,13,14,15,16],[0,1,2,3,4,5,6,7,8,9,10,11,12,13,14,15,16,17,18,19],[0,1,2,3,4,5,6,7,8,9,10,11,12,13,14,15,16,17,18,19,20],[0,1,2,3,4,5,6,7,8,9,10,11,12,13,14,15,16,17,18,19,20,21],[0,1,2,3,4,5,6,7,8,9,10,11,12,13,14,15,16,17,18,19,20,21,22],[0,1,2,3,4,5,6,7,8,9,10,11,12,13,14,15,16,17,18,19,20,21,22,23],[0,1,2,3,4,5,6,7,8,9,10,11,12,13,14,15,16,17,18,19,20,21,22],[0,1,2,3,4,5,6,7,8,9,10,11,12,13,14,15,16,17,18,19,20,21,22,23,24,25],[0,1,2,3,4,5,6,7,8,9,10,11,12,13,14,15,16,17,18,19,20,21,22,23,24,25,26],[0,1,2,3,4,5,6,7,8,9,10,11,12,13,14,15,16,17,18,19,20,21,22,23,24,25,26,27],[0,1,2,3,4,5,6,7,8,9,10,11,12,13,14,15,16,17,18,19,20,21,22,23,24,25,26,27,28],[0,1,2,3,4,5,6,7,8,9,10,11,12,13,14,15,16,17,18,19,20,21,22,23,24,25,26,27,28,29],[0,1,2,3,4,5,6,7,8,9,10,11,12,13,14,15,16,17,18,19,20,21,22,23,24,25,26,27,28,29,30],[0,1,2,3,4,5,6,7,8,9,10,11,12,13,14,15,16,17,18,19,20,21,22,23,24,25,26,27,28,29,30,31],[0,1,2,3,4,5,6,7,8,9,10,11,12,13,14,15,16,17,18,19,20,21,22,23,24,25,26,27,28,29,30,31,32],[0,1,2,3,4,5,6,7,8,9,10,11,12,13,14,15,16,17,18,19,20,21,22,23,24,25,26,27,28,29,30,31,32,33],[0,1,2,3,4,5,6,7,8,9,10,11,12,13,14,15,16,17,18,19,20,21,22,23,24,25,26,27,28,29,30,31,32,33,34],[0,1,2,3,4,5,6,7,8,9,10,11,12,13,14,15,16,17,18,19,20,21,22,23,24,25,26,27,28,29,30,31,32,33,34,35],[0,1,2,3,4,5,6,7,8,9,10,11,12,13,14,15,16,17,18,19,20,21,22,23,24,25,26,27,28,29,30,31,32,33,34,35,36],[0,1,2,3,4,5,6,7,8,9,10,11,12,13,14,15,16,17,18,19,20,21,22,23,24,25,26,27,28,29,30,31,32,33,34,35,36,37],[0,1,2,3,4,5,6,7,8,9,10,11,12,13,14,15,16,17,18,19,20,21,22,23,24,25,26,27,28,29,30,31,32,33,34,35,36,37,38],[0,1,2,3,4,5,6,7,8,9,10,11,12,13,14,15,16,17,18,19,20,21,22,23,24,25,26,27,28,29,30,31,32,33,34,35,36,37,38,39],[0,1,2,3,4,5,6,7,8,9,10,11,12,13,14,15,16,17,18,19,20,21,22,23,24,25,26,27,28,29,30,31,32,33,34,35,36,37,38,39,40],[0,1,2,3,4,5,6,7,8,9,10,11,12,13,14,15,16,17,18,19,20,21,22,23,24,25,26,27,28,29,30,31,32,33,34,35,36,37,38,39,40,41],[0,1,2,3,4,5,6,7,8,9,10,11,12,13,14,15,16,17,18,19,20,21,22,23,24,25,26,27,28,29,30,31,32,33,34,35,36,37,38,39,40,41,42],[0,1,2,3,4,5,6,7,8,9,10,11,12,13,14,15,16,17,18,19,20,21,22,23,24,25,26,27,28,29,30,31,32,33,34,35,36,37,38,39,40,41,42,43],[0,1,2,3,4,5,6,7,8,9,10,11,12,13,14,15,16,17,18,19,20,21,22,23,24,25,26,27,28,29,30,31,32,33,34,35,36,37,38,39,40,41,42,43,44],[0,1,2,3,4,5,6,7,8,9,10,11,12,13,14,15,16,17,18,19,20,21,22,23,24,25,26,27,28,29,30,31,32,33,34,35,36,37,38,39,40,41,42,43,44,45],[0,1,2,3,4,5,6,7,8,9,10,11,12,13,14,15,16,17,18,19,20,21,22,23,24,25,26,27,28,29,30,31,32,33,34,35,36,37,38,39,40,41,42,43,44,45,46],[0,1,2,3,4,5,6,7,8,9,10,11,12,13,14,15,16,17,18,19,20,21,22,23,24,25,26,27,28,29,30,31,32,33,34,35,36,37,38,39,40,41,42,43,44,45,46,47],[0,1,2,3,4,5,6,7,8,9,10,11,12,13,14,15,16,17,18,19,20,21,22,23,24,25,26,27,28,29,30,31,32,33,34,35,36,37,38,39,40,41,42,43,44,45,46,47,48],[0,1,2,3,4,5,6,7,8,9,10,11,12,13,14,15,16,17,18,19,20,21,22,23,24,25,26,27,28,29,30,31,32,33,34,35,36,37,38,39,40,41,42,43,44,45,46,47,48,49]] mixed Z (Aa 1 Z Z (goMv Z Z (AD ⟨Z,?_⟩))))))));refine Aa 2 Z Z (J (KL Z Z Z) (AD ⟨Z,?_⟩));refine Aa 3 Z Z (goMv Z Z (HY 38 Z (Z) (AD ⟨Z,?_⟩)));refine Cr (AJ [4,38] [] Z Z (fun _=>LE Z Z Z (AZ Z fi32_0 Z Z Z)) ?_);refine At [39,38] Z Z (fun _=>LE Z Z Z (A6 Z Z Z BI Z)) (AJ [6,38] [] Z Z (fun _=>LE Z Z Z (Aj Z Z)) (AJ [41,38] [] Z Z (fun _=>LE Z Z Z (Bk (0) Z Z (Z) (Z) Tryz.underlying29 Z Ce Z)) (AJ [42,38] [] Z Z (fun _=>LE Z Z Z (D0 Z Z BI Z)) (C3 8 Z Z Z (Aa 9 Z Z (Af Z Z Z (J (B4 (S5 [1,2,3] [1,2,3] (by decide) (by decide)) Z Z) (AD ⟨Z,?_⟩))))))));refine Aa 10 Z Z (J (Fb Z Z Z Z) (AD ⟨Z,?_⟩));refine Aa 11 Z Z (goMv Z Z (HY 46 Z (Z) (AD ⟨Z,?_⟩)));refine Aa 12 Z Z (Af Z Z Z (J (AZ Z fi32_1 Z Z Z) (AD ⟨Z,?_⟩)));refine Aa 13 Z Z (Af Z Z Z (J (A6 Z Z Z BI Z) (AD ⟨Z,?_⟩)));refine Aa 14 Z Z (Af Z Z Z (J (CM Z Tryz.underlying28 Z) (AD ⟨Z,?_⟩)));refine Aa 15 Z Z (Af Z Z Z (J (KL Z Z Z) (AD ⟨Z,?_⟩)));refine Aa 16 Z Z (J (Fb Z Z Z Z) (AD ⟨Z,?_⟩));refine Aa 17 Z Z (goMv Z Z (HY 52 Z (Z) (AD ⟨Z,?_⟩)));refine Cr (AJ [4,52] [] Z Z (fun _=>LE Z Z Z (AZ Z bu Z Z Z)) (At [53,52] Z Z (fun _=>LE Z Z Z (A6 Z Z Z on29 Z)) (AJ [6,52] [] Z Z (fun _=>LE Z Z Z (Aj Z Z)) (C3 20 Z Z Z (Aa 21 Z Z (Af Z Z Z (J (B4 (PP [[1,2,3]] [[1,2,3]] (by decide) (by decide) (by decide) (by decide)) Z Z) (AD ⟨Z,?_⟩))))))));refine Aa 22 Z Z (J (Fb Z Z Z Z) (AD ⟨Z,?_⟩));refine Aa 23 Z Z (goMv Z Z (HY 58 Z (Z) (AD ⟨Z,?_⟩)));refine Cr (AJ [4,58] [] Z Z (fun _=>LE Z Z Z (AZ Z fi32_3 Z Z Z)) (At [59,58] Z Z (fun _=>LE Z Z Z (A6 Z Z Z on29 Z)) (AJ [6,58] [] Z Z (fun _=>LE Z Z Z (Aj Z Z)) (C3 26 Z Z Z (Aa 27 Z Z (Af Z Z Z (J (B4 (PP [[1,2,3]] [[1,2,3]] (by decide) (by decide) (by decide) (by decide)) Z Z) (AD ⟨Z,?_⟩))))))));refine Aa 28 Z Z (J (Fb Z Z Z Z) (AD ⟨Z,?_⟩));refine Aa 29 Z Z (goMv Z Z (HY 64 Z (Z) (AD ⟨Z,?_⟩)));refine Aa 30 Z Z (Af Z Z Z (J (AZ Z fi32_4 Z Z Z) (AD ⟨Z,?_⟩)));refine Aa 31 Z Z (Af Z Z Z (J (A6 Z Z Z X6 Z) (AD ⟨Z,?_⟩)));refine Aa 32 Z Z (Af Z Z Z (J (CM Z Tryz.underlying30 Z) (AD ⟨Z,?_⟩)));refine Aa 33 Z Z (Af Z Z Z (J (KL Z Z Z) (AD ⟨Z,?_⟩)));refine Aa 34 Z Z (J (Fb Z Z Z Z) (AD ⟨Z,?_⟩));refine Aa 35 Z Z (goMv Z Z (HY 70 Z (Z) (AD ⟨Z,?_⟩)));refine Aa 36 Z Z (Af Z Z Z (J (AZ Z fi32_4 Z Z Z) (AD ⟨Z,?_⟩)));refine Aa 37 Z Z (Af Z Z Z (J (A6 Z Z Z X6 Z) (AD ⟨Z,?_⟩)));refine Aa 38 Z Z (Af Z Z Z (J (Bk (0) Z Z (Z) (Z) Tryz.underlying30 Z sz66 Z) (AD ⟨Z,?_⟩)));refine Aa 39 Z Z (Af Z Z Z (J (Zca Z Ud Z Z Z) (AD ⟨Z,?_⟩)));refine Aa 40 Z Z (Af Z Z Z (J (D0 Z Z Aq Z) (AD ⟨Z,?_⟩)));refine Aa 41 Z Z (Af Z Z Z (J (KL Z Z Z) (AD ⟨Z,?_⟩)));refine Aa 42 Z Z (J (Fb Z Z Z Z) (AD ⟨Z,?_⟩));refine Aa 43 Z Z (goMv Z Z (HY 78 Z (Z) (AD ⟨Z,?_⟩)));refine Aa 44 Z Z (Af Z Z Z (J (AZ Z fi32_4 Z Z Z) (AD ⟨Z,?_⟩)));refine Aa 45 Z Z (Af Z Z Z (J (A6 Z Z Z X6 Z) (AD ⟨Z,?_⟩)));refine Aa 46 Z Z (Af Z Z Z (J (Bk (0) Z Z (Z) (Z) Tryz.underlying30 Z sz66 Z) (AD ⟨Z,?_⟩)));refine Aa 47 Z Z (Af Z Z Z (J (Zca Z Uc Z Z Z) (AD ⟨Z,?_⟩)));refine Aa 48 Z Z (Af Z Z Z (J (D0 Z Z JG Z) (AD ⟨Z,?_⟩)));refine Aa 49 Z Z (Af Z Z Z (J (KL Z Z Z) (AD ⟨Z,?_⟩)));refine Aa 50 Z Z (J (Fb Z Z Z Z) (AD ⟨Z,?_⟩));refine Aa 51 Z Z (AB Z Z (AD ⟨Z,?_⟩));refine C9 (A5 ?_);exact ⟨_,[],[],A3 Z,Z,Z,Z,Z⟩
end Go.Proofs.YteifpcnphnhaoaaGreat
namespace Go.Proofs.YteifpcnphnhaoaaGreat
open Go.RowKit
theorem cm (p:Prb):blks p (GM [])=[]:=by
 unfold blks;rw [List.flatMap_eq_nil_iff];intro i _;unfold HC;rw [ϑ (by simp [GM])]
theorem Yl {p:Prb} (hp:Ad p=0):Ig p (As [])=[]:=by
 unfold Ig;rw [List.flatMap_eq_nil_iff];intro x hx;have h:=bG hp x hx;unfold OF;rw [ϑ (by show ¬x.n+DY p x.r []<0;have:DY p x.r []=0:=rfl;omega)]
theorem MQ {p:Prb} {M:List (Int×Bool)}:Ig p M=[]↔∀x∈linL p,0≤x.n+DY p x.r M:=by
 unfold Ig;rw [List.flatMap_eq_nil_iff]
 constructor
 ·intro h x hx;have:=h x hx;unfold OF at this
  split at this
  ·cases this
  ·omega
 ·intro h x hx;have:=h x hx;unfold OF;rw [ϑ (by omega)]
theorem Tl.mono {p:Prb} {S T:List Int} (h:∀x∈S,x∈T) {x:Int} (hx:Tl p S x):Tl p T x:=by
 induction hx with
 | base hx=>exact .base (h _ hx)
 | step _ hb ih=>exact .step ih hb
theorem SH {p:Prb} {S:List Int} (hp:Ad p=0) (hS:∀x∈S,x∈p.it.map AK.id) {x:Int}:x∈cloS p S↔Tl p S x:=by
 unfold cloS;rw [(dM _).mem_iff,Ω];exact ⟨fun h=>by simpa using h.2,fun h=>⟨h.ids hp hS,by simpa using h⟩⟩
theorem adm_of {p:Prb} {C:List Int} (h:∀i∈C,∀b∈req p i,b.m∈C):blks p (GM C)=[]:=by
 cases hb:blks p (GM C) with
 | nil=>rfl
 | cons b r=>
  exfalso
  obtain ⟨i,_,h2,h3,h4⟩:=Nl (p:=p) (f:=GM C) (b:=b) (by rw [hb];exact ωk);have hi:i∈C:=by simpa [GM] using h2
  have hn:b.m∉C:=by simpa [GM] using h4
  exact hn (h i hi b h3)
theorem c9 {p:Prb} {S:List Int} (hp:Ad p=0) (hS:∀x∈S,x∈p.it.map AK.id):blks p (GM (cloS p S))=[]:=
 adm_of fun i hi b hb=>(SH hp hS).2 (.step ((SH hp hS).1 hi) hb)
structure Chg (R:Int ->Int ->Prop) (l Y:List Roo):Prop where
 len:Y.length=l.length
 at_:∀(j:Nat) x y,l[j]? =some x ->Y[j]? =some y ->y.r=x.r∧ -4*Mx≤y.n∧y.n≤4*Mx∧R x.n y.n
theorem Chg.set {R:Int ->Int ->Prop} {l Y:List Roo} (h:Chg R l Y) {k:Nat} (hk:k<Y.length) {n:Int} (h1: -4*Mx≤n∧n≤4*Mx) (h2:∀x,R x Y[k].n ->R x n):Chg R l (Y.set k ⟨Y[k].r,n⟩):=
 ⟨by rw [ψf];exact h.len,fun j x y hx hy=>by
  rw [χr] at hy
  split at hy
  ·rename_i e;subst e
   first | (rw [θ hk] at hy;injection hy with hy;subst hy) | (injection hy with hy;subst hy)
   have:=h.at_ k x _ hx (ω hk);exact ⟨this.1,h1.1,h1.2,h2 _ this.2.2.2⟩
  ·exact h.at_ j x y hx hy⟩
theorem Chg.map {R:Int ->Int ->Prop} {l Y:List Roo} (h:Chg R l Y):Y.map Roo.r=l.map Roo.r:=by
 refine χa (by rw [ψ,ψ,h.len]) fun j h1 h2=>?_;rw [ψ] at h1 h2;rw [ωb,ωb];exact (h.at_ j _ _ (ω h2) (ω h1)).1
theorem Chg.mem {R:Int ->Int ->Prop} {l Y:List Roo} (h:Chg R l Y):∀y∈Y,∃x∈l,y.r=x.r∧ -4*Mx≤y.n∧y.n≤4*Mx∧R x.n y.n:=fun y hy=>by
 obtain ⟨j,hj,rfl⟩:=χp.1 hy;have hj':j<l.length:=by rw [←h.len];exact hj
 exact ⟨l[j],κ hj',h.at_ j _ _ (ω hj') (ω hj)⟩
def Y7 (x:Nat) (P:List Nat):Nat:=P.foldl (fun a i=>a ||| 1<<<i) x
theorem bit_one (i j:Nat):(1<<<i).testBit j=decide (i=j):=by rw [Nat.one_shiftLeft,Nat.testBit_two_pow]
theorem orB_bit:∀(P:List Nat) (x j:Nat),(Y7 x P).testBit j=true↔x.testBit j=true∨j∈P
 | [],x,j=>by simp [Y7]
 | i::P,x,j=>by
  show (Y7 (x ||| 1<<<i) P).testBit j=true↔_;rw [orB_bit P,Nat.testBit_or,bit_one,Bool.or_eq_true,ωs,Φ]
  constructor
  ·rintro ((h | h) | h)
   ·exact .inl h
   ·exact .inr (.inl h.symm)
   ·exact .inr (.inr h)
  ·rintro (h | h | h)
   ·exact .inl (.inl h)
   ·exact .inl (.inr h.symm)
   ·exact .inr h
theorem PL {s:Sma} {x:Nat} {y:Int}:y∈listS s x↔∃i,i<s.ids.length∧x.testBit i=true∧s.ids.getD i 0=y:=by
 unfold listS;rw [ν]
 constructor
 ·rintro ⟨i,hi,e⟩;obtain ⟨h1,h2⟩:=Ω.1 hi;exact ⟨i,Θ.1 h1,h2,e⟩
 ·rintro ⟨i,h1,h2,e⟩;exact ⟨i,Ω.2 ⟨Θ.2 h1,h2⟩,e⟩
theorem QB {s:Sma} (hn:s.ids.Nodup) {x:Nat} {y:Int} (hy:y∈s.ids):y∈listS s x↔x.testBit (s.ids.idxOf y)=true:=by
 rw [PL];have hl:=ψo hy
 constructor
 ·rintro ⟨i,h1,h2,e⟩;rw [Bp 0 h1] at e;have:s.ids.idxOf y=i:=by rw [←e];exact List.Nodup.idxOf_getElem hn i h1
  rw [this];exact h2
 ·intro h;exact ⟨_,hl,h,by rw [Bp 0 hl,φa hl]⟩
def G4:List Int ->List Int ->Bool
 | a::l,b::m=>if a=b then G4 l m else decide (a<b)
 | _,_=>false
def CZ (a b:List Int):Bool:=if a.length≠b.length then decide (a.length<b.length) else G4 a b
theorem NG:∀a b:List Int,G4 a b=true ->G4 b a=false
 | a::l,b::m,h=>by
  unfold G4 at h⊢
  split at h
  ·rename_i e;subst e;rw [θ rfl];exact NG l m h
  ·rename_i e
   rw [ϑ (fun h=>e h.symm)];have:=ωy h;exact ωp (by omega)
 | [],_,h=>by cases h
 | _::_,[],h=>by cases h
theorem NE:∀a b c:List Int,G4 a b=true ->G4 b c=true ->G4 a c=true
 | a::l,b::m,c::r,h1,h2=>by
  unfold G4 at h1 h2⊢
  split at h1
  ·rename_i e;subst e
   split at h2
   ·rename_i e;rw [θ e];exact NE l m r h1 h2
   ·rename_i e;rw [ϑ e];exact h2
  ·rename_i e
   have h3:=ωy h1
   split at h2
   ·rename_i e2;subst e2
    rw [ϑ e];exact h1
   ·have h4:=ωy h2;rw [ϑ (by omega)];exact ωc (by omega)
 | [],_,_,h,_=>by cases h
 | _::_,[],_,h,_=>by cases h
 | _::_,_::_,[],_,h=>by cases h
theorem NF:∀a b:List Int,a.length=b.length ->a≠b ->G4 a b=false ->G4 b a=true
 | a::l,b::m,hl,hn,h=>by
  unfold G4 at h⊢
  split at h
  ·rename_i e;subst e
   rw [θ rfl];exact NF l m (by simpa using hl) (fun h=>hn (by rw [h])) h
  ·rename_i e
   have:=of_decide_eq_false h;rw [ϑ (fun h=>e h.symm)];exact ωc (by omega)
 | [],[],_,hn,_=>absurd Z hn
 | [],_::_,hl,_,_=>by simp at hl
 | _::_,[],hl,_,_=>by simp at hl
theorem SQ {a b:List Int} (h:CZ a b=true):¬CZ b a=true:=by
 unfold CZ at h⊢
 split at h
 ·rename_i e
  have:=ωy h;rw [θ (fun h=>e h.symm)]
  simp;omega
 ·rename_i e
  rw [ϑ (fun h2=>e fun h3=>h2 h3.symm),NG _ _ h];simp
theorem SO {a b c:List Int} (h1:CZ a b=true) (h2:CZ b c=true):CZ a c=true:=by
 unfold CZ at h1 h2⊢
 split at h1
 ·have h3:=ωy h1
  split at h2
  ·have h4:=ωy h2;rw [θ (by omega)];exact ωc (by omega)
  ·rw [θ (by omega)];exact ωc (by omega)
 ·split at h2
  ·have h4:=ωy h2;rw [θ (by omega)];exact ωc (by omega)
  ·rw [ϑ (by omega)];exact NE _ _ _ h1 h2
theorem SP {a b:List Int} (hn:a≠b) (h:¬CZ a b=true):CZ b a=true:=by
 unfold CZ at h⊢
 split at h
 ·rename_i e
  have h3:¬a.length<b.length:=by simpa using h
  rw [θ (by omega)];exact ωc (by omega)
 ·rename_i e
  rw [ϑ (by omega)];exact NF a b (by omega) hn (by simpa using h)
theorem UM {α:Type} {R:α ->α ->Prop} (ha:∀a b,R a b ->¬R b a) {l m:List α} (h1:l.Pairwise R) (h2:m.Pairwise R) (h:∀x,x∈l↔x∈m):l=m:=by
 have nd:∀{l:List α},l.Pairwise R ->l.Nodup:=fun h=>h.imp fun {a b} hr e=>by subst e;exact ha _ _ hr hr
 exact List.Perm.eq_of_pairwise (fun a b _ _ h3 h4=>absurd h4 (ha a b h3)) h1 h2 ((χz (nd h1) (nd h2)).2 h)
def Gz (n:Nat):Nat ->Nat ->List (List Nat)
 | 0,_=> [[]]
 | l+1,frm=>((List.range (n+1 - (l+1) - frm)).map (frm+ ·)).flatMap fun i=>(Gz n l (i+1)).map (i:: ·)
theorem GH (n:Nat):∀(l frm x:Nat),enumX n l frm x=(Gz n l frm).map (Y7 x)
 | 0,_,_=>rfl
 | l+1,frm,x=>by
  unfold enumX Gz;rw [List.map_flatMap]
  congr 1
  funext i
  rw [GH n l (i+1),ωr]
  rfl
theorem Re {n:Nat}:∀{l frm:Nat} {P:List Nat},P∈Gz n l frm ->P.length=l
 | 0,_,P,h=>by simp [Gz] at h;subst h;rfl
 | l+1,frm,P,h=>by
  unfold Gz at h;obtain ⟨i,_,h⟩:=χk.1 h;obtain ⟨Q,hQ,rfl⟩:=ν.1 h;rw [ψl,Re hQ]
theorem Ln {n:Nat}:∀{l frm:Nat} {P:List Nat},P∈Gz n l frm ->P.Pairwise (· < ·)∧∀j∈P,frm≤j∧j<n
 | 0,_,P,h=>by simp [Gz] at h;subst h;simp
 | l+1,frm,P,h=>by
  unfold Gz at h;obtain ⟨i,hi,h⟩:=χk.1 h;obtain ⟨k,hk,rfl⟩:=ν.1 hi;have hk':=Θ.1 hk;obtain ⟨Q,hQ,rfl⟩:=ν.1 h;obtain ⟨h1,h2⟩:=Ln hQ;refine ⟨ψz.2 ⟨fun j hj=>by have:=(h2 j hj).1;omega,h1⟩,fun j hj=>?_⟩;rcases Φ.1 hj with rfl | hj
  ·exact ⟨by omega,by omega⟩
  ·have:=h2 j hj;omega
theorem QH {n:Nat}:∀{P:List Nat} {frm:Nat},frm≤n ->P.Pairwise (· < ·) ->(∀j∈P,frm≤j∧j<n) ->P.length≤n - frm
 | [],_,_,_,_=>Δ _
 | i::P,frm,hf,hp,h=>by
  have h1:=h i ωk;obtain ⟨h2,h3⟩:=ψz.1 hp
  have:=QH (P:=P) (frm:=i+1) (by omega) h3 fun j hj=>⟨h2 j hj,(h j (ωn _ hj)).2⟩
  rw [ψl];omega
theorem Rf {n:Nat}:∀{P:List Nat} {frm:Nat},P.Pairwise (· < ·) ->(∀j∈P,frm≤j∧j<n) ->P∈Gz n P.length frm
 | [],_,_,_=>by simp [Gz]
 | i::P,frm,hp,h=>by
  have h1:=h i ωk;obtain ⟨h2,h3⟩:=ψz.1 hp
  have h4:∀j∈P,i+1≤j∧j<n:=fun j hj=>⟨h2 j hj,(h j (ωn _ hj)).2⟩
  have h5:=QH (P:=P) (frm:=i+1) (by omega) h3 h4;show i::P∈Gz n (P.length+1) frm;unfold Gz;refine χk.2 ⟨i,ν.2 ⟨i - frm,Θ.2 (by omega),by omega⟩,ν.2 ⟨P,Rf h3 h4,Z⟩⟩
theorem Xl (a:Int) (l m:List Int):G4 (a::l) (a::m)=G4 l m:=by
 show (if a=a then G4 l m else _)=_;rw [θ rfl]
theorem Rd {n:Nat} {g:Nat ->Int} (hg:∀i j,i<j ->j<n ->g i<g j):∀l frm,((Gz n l frm).map fun P=>P.map g).Pairwise fun a b=>G4 a b=true
 | 0,_=>by simp [Gz]
 | l+1,frm=>by
  unfold Gz;rw [List.map_flatMap,List.pairwise_flatMap]
  constructor
  ·intro i _;rw [ωr];have ih:=Rd hg l (i+1);rw [ψb] at ih⊢;refine ih.imp fun {P Q} h=>?_;show G4 (g i::P.map g) (g i::Q.map g)=true;rw [Xl];exact h
  ·rw [ψb];refine φh (fun {a b} ha hb hab x hx y hy=>?_) (List.pairwise_lt_range);obtain ⟨_,h1,rfl⟩:=ν.1 hx;obtain ⟨_,h2,rfl⟩:=ν.1 hy;obtain ⟨P,_,rfl⟩:=ν.1 h1;obtain ⟨Q,_,rfl⟩:=ν.1 h2;have hb':=Θ.1 hb;have:=hg (frm+a) (frm+b) (by omega) (by omega);show (if g (frm+a)=g (frm+b) then _ else decide (g (frm+a)<g (frm+b)))=true;rw [ϑ (by omega)];exact ωc this
theorem PQ {s:Sma} {P:List Nat} (h1:P.Pairwise (· < ·)) (h2:∀j∈P,j<s.ids.length):listS s (Y7 0 P)=P.map fun i=>s.ids.getD i 0:=by
 unfold listS
 congr 1
 refine UM (R:=fun a b:Nat=>a<b) (fun a b h=>by omega) (List.Pairwise.sublist ψq List.pairwise_lt_range) h1 fun x=>?_;rw [Ω,Θ,orB_bit];simp only [Nat.zero_testBit,Bool.false_eq_true,false_or];exact ⟨fun h=>h.2,fun h=>⟨h2 x h,h⟩⟩
def cx (s:Sma):List (List Int):=(cw s).map (listS s)
theorem Y0 {s:Sma} (hs:s.ids.Pairwise (· < ·)):(cx s).Pairwise fun a b=>CZ a b=true:=by
 unfold cx cw;rw [List.map_flatMap,List.pairwise_flatMap]
 have hx:∀k,∀L∈((enumX s.ids.length k 0 0).filter (admS s)).map (listS s),L.length=k:=fun k L hL=>by
  obtain ⟨y,hy,rfl⟩:=ν.1 hL;have hy:=(Ω.1 hy).1;rw [GH] at hy;obtain ⟨P,hP,rfl⟩:=ν.1 hy;have h:=Ln hP;rw [PQ h.1 fun j hj=>(h.2 j hj).2,ψ,Re hP]
 constructor
 ·intro k _
  have h0:=Rd (n:=s.ids.length) (g:=fun i=>s.ids.getD i 0) (fun i j hij hj=>by
   show s.ids.getD i 0<s.ids.getD j 0;rw [Bp 0 hj,Bp 0 (Nat.lt_trans hij hj)]
   exact ωz.1 hs i j _ hj hij) k 0
  have h1:((enumX s.ids.length k 0 0).map (listS s)).Pairwise fun a b=>G4 a b=true:=by
   rw [GH,ωr]
   have e:(Gz s.ids.length k 0).map (listS s∘Y7 0)=(Gz s.ids.length k 0).map fun P=>P.map fun i=>s.ids.getD i 0:=ωi fun P hP=>by
    have h:=Ln hP;exact PQ h.1 fun j hj=>(h.2 j hj).2
   rw [e];exact h0
  have h2:(((enumX s.ids.length k 0 0).filter (admS s)).map (listS s)).Pairwise fun a b=>G4 a b=true:=List.Pairwise.sublist (List.filter_sublist.map _) h1;refine φh (fun {a b} ha hb hab=>?_) h2;unfold CZ;rw [ϑ (by rw [hx k a ha,hx k b hb];exact fun h=>h Z)];exact hab
 ·refine φh (fun {a b} _ _ hab x hxa y hyb=>?_) (List.pairwise_lt_range);have e1:=hx a x hxa;have e2:=hx b y hyb;unfold CZ;rw [θ (by omega)];exact ωc (by omega)
theorem bC {s:Sma} (y:Nat):y∈cw s↔(∃P:List Nat,P.Pairwise (· < ·)∧(∀j∈P,j<s.ids.length)∧Y7 0 P=y)∧admS s y=true:=by
 unfold cw;rw [χk]
 constructor
 ·rintro ⟨k,_,h⟩;obtain ⟨h1,h2⟩:=Ω.1 h;rw [GH] at h1;obtain ⟨P,hP,e⟩:=ν.1 h1;have h:=Ln hP;exact ⟨⟨P,h.1,fun j hj=>(h.2 j hj).2,e⟩,h2⟩
 ·rintro ⟨⟨P,h1,h2,e⟩,h3⟩
  have hP:=Rf (n:=s.ids.length) (frm:=0) h1 fun j hj=>⟨Δ _,h2 j hj⟩
  have hl:=QH (n:=s.ids.length) (P:=P) (frm:=0) (Δ _) h1 fun j hj=>⟨Δ _,h2 j hj⟩
  refine ⟨P.length,Θ.2 (by omega),Ω.2 ⟨?_,h3⟩⟩;rw [GH];exact ν.2 ⟨P,hP,e⟩
def JT (n x:Nat):List Nat:=(List.range n).filter fun i=>x.testBit i
theorem Mk (n x:Nat):(JT n x).Pairwise (· < ·):=List.Pairwise.sublist ψq List.pairwise_lt_range
theorem Zz {n x j:Nat} (h:j∈JT n x):j<n:=Θ.1 (Ω.1 h).1
theorem Ka {n x:Nat} (hx:x<2^n):Y7 0 (JT n x)=x:=by
 refine Nat.eq_of_testBit_eq fun j=>?_
 have h:(Y7 0 (JT n x)).testBit j=true↔x.testBit j=true:=by
  rw [orB_bit];simp only [Nat.zero_testBit,Bool.false_eq_true,false_or];unfold JT;rw [Ω,Θ];refine ⟨fun h=>h.2,fun h=>⟨Classical.byContradiction fun hn=>?_,h⟩⟩;have:=Nat.testBit_lt_two_pow (ψt hx (Nat.pow_le_pow_right (by omega) (by omega:n≤j)));rw [h] at this;cases this
 cases h1:(Y7 0 (JT n x)).testBit j<;>cases h2:x.testBit j<;>simp_all
theorem orB_lt {n:Nat} {P:List Nat} (h:∀j∈P,j<n):Y7 0 P<2^n:=by
 refine Nat.lt_pow_two_of_testBit _ fun j hj=>?_
 cases hh:(Y7 0 P).testBit j with
 | false=>rfl
 | true=>
  rcases (orB_bit P 0 j).1 hh with h1 | h1
  ·simp at h1
  ·have:=h j h1;omega
theorem PM {s:Sma} (y:Nat):y∈cw s↔y<2^s.ids.length∧admS s y=true:=by
 rw [bC]
 constructor
 ·rintro ⟨⟨P,_,h2,rfl⟩,h3⟩;exact ⟨orB_lt h2,h3⟩
 ·rintro ⟨h1,h2⟩;exact ⟨⟨JT s.ids.length y,Mk _ _,fun j hj=>Zz hj,Ka h1⟩,h2⟩
theorem bD {s:Sma} (L:List Int):L∈cx s↔∃y,y<2^s.ids.length∧admS s y=true∧L=listS s y:=by
 unfold cx;rw [ν]
 constructor
 ·rintro ⟨y,hy,e⟩;have h:=(PM y).1 hy;exact ⟨y,h.1,h.2,e.symm⟩
 ·rintro ⟨y,h1,h2,e⟩;exact ⟨y,(PM y).2 ⟨h1,h2⟩,e.symm⟩
theorem bZ {out:List (List Int)} {x:List Int} {k:Nat} (hk:k≤out.length) (h:out.Pairwise fun a b=>CZ a b=true) (h1:∀y∈out.drop k,CZ x y=true) (h2:k=0∨∃hk:k - 1<out.length,¬CZ x out[k - 1]=true) (hx:x∉out):(out.take k++ [x]++out.drop k).Pairwise fun a b=>CZ a b=true:=by
 have h3:∀y∈out.take k,CZ y x=true:=fun y hy=>by
  rcases h2 with h2 | ⟨hk1,h2⟩
  ·subst h2;simp at hy
  ·obtain ⟨j,hj,rfl⟩:=χt.1 hy;have h4:CZ out[k - 1] x=true:=SP (fun e=>hx (e▸κ hk1)) h2;rcases χm j (k - 1) with h5 | h5
   ·exact SO (ωz.1 h j (k - 1) (by omega) hk1 h5) h4
   ·have:j=k - 1:=by omega
    subst this;exact h4
 have h6:=h;rw [←φf k out,List.pairwise_append] at h6;rw [ψk,List.pairwise_append];refine ⟨h6.1,ψz.2 ⟨h1,h6.2.1⟩,fun a ha b hb=>?_⟩;rcases Φ.1 hb with rfl | hb
 ·exact h3 a ha
 ·exact h6.2.2 a ha b hb
theorem ins_mem {out:List (List Int)} {x:List Int} {k:Nat} (L:List Int):L∈out.take k++ [x]++out.drop k↔L∈out∨L=x:=by
 rw [υ,υ,ξ]
 constructor
 ·rintro ((h | h) | h)
  ·exact .inl (ψe h)
  ·exact .inr h
  ·exact .inl (List.mem_of_mem_drop h)
 ·rintro (h | h)
  ·rw [←φf k out] at h;rcases υ.1 h with h | h
   ·exact .inl (.inl h)
   ·exact .inr h
  ·exact .inl (.inr h)
theorem Xk {s:Sma} (hn:s.ids.Nodup) {x y:Nat} (hx:x<2^s.ids.length) (hy:y<2^s.ids.length) (h:listS s x=listS s y):x=y:=by
 rw [←Ka hx,←Ka hy]
 congr 1
 refine UM (R:=fun a b:Nat=>a<b) (fun a b h=>by omega) (Mk _ _) (Mk _ _) fun j=>?_
 have key:∀z j,j∈JT s.ids.length z↔∃hj:j<s.ids.length,s.ids[j]∈listS s z:=fun z j=>by
  unfold JT;rw [Ω,Θ]
  constructor
  ·rintro ⟨h1,h2⟩;exact ⟨h1,PL.2 ⟨j,h1,h2,Bp 0 h1⟩⟩
  ·rintro ⟨h1,h2⟩;have:=(QB hn (κ h1)).1 h2;rw [List.Nodup.idxOf_getElem hn j h1] at this;exact ⟨h1,this⟩
 rw [key,key,h]
section
variable {β:Type} (step:β ->List Int ->β×Bool)
end
section
variable {β:Type}
end
structure Tc (s:Sma) (m:Nat) (out:List (List Int)):Prop where
 o:out.Pairwise fun a b=>CZ a b=true
 m_:∀L,L∈out↔∃y,y<m∧admS s y=true∧L=listS s y
 l:out.length≤m
theorem Tc.skip {s:Sma} {m:Nat} {out:List (List Int)} (h:Tc s m out) (ha:admS s m=false):Tc s (m+1) out:=by
 refine ⟨h.o,fun L=>?_,Nat.le_succ_of_le h.l⟩;rw [h.m_]
 constructor
 ·rintro ⟨y,h1,h2,h3⟩;exact ⟨y,by omega,h2,h3⟩
 ·rintro ⟨y,h1,h2,h3⟩;refine ⟨y,?_,h2,h3⟩;rcases χm y m with h | h
  ·exact h
  ·have:y=m:=by omega
   subst this;rw [ha] at h2;cases h2
theorem Tc.add {s:Sma} {m k:Nat} {out:List (List Int)} (h:Tc s m out) (hn:s.ids.Nodup) (hm:m<2^s.ids.length) (ha:admS s m=true) (hk:k≤out.length) (h1:∀y∈out.drop k,CZ (listS s m) y=true) (h2:k=0∨∃hk:k - 1<out.length,¬CZ (listS s m) out[k - 1]=true):Tc s (m+1) (out.take k++ [listS s m]++out.drop k):=by
 refine ⟨bZ hk h.o h1 h2 fun hx=>?_,fun L=>?_,?_⟩
 ·obtain ⟨y,g1,g2,g3⟩:=(h.m_ _).1 hx;have:=Xk hn hm (Nat.lt_trans g1 hm) g3;omega
 ·rw [ins_mem,h.m_]
  constructor
  ·rintro (⟨y,g1,g2,g3⟩ | rfl)
   ·exact ⟨y,by omega,g2,g3⟩
   ·exact ⟨m,by omega,ha,Z⟩
  ·rintro ⟨y,g1,g2,g3⟩;rcases χm y m with g | g
   ·exact .inl ⟨y,g,g2,g3⟩
   ·have:y=m:=by omega
    subst this;exact .inr g3
 ·have:=h.l;rw [ς,ς,Υ,φn,Ψ];omega
theorem Tc.done {s:Sma} {out:List (List Int)} (hs:s.ids.Pairwise (· < ·)) (h:Tc s (2^s.ids.length) out):out=cx s:=
 UM (R:=fun a b=>CZ a b=true) (fun a b h=>SQ h) h.o (Y0 hs) fun L=>by rw [h.m_,bD]
section
variable {P:Program} {F:Fr} {s:AS} {d:Nat} {x y:Operand} {T T':TypeId} {ty:TypeId} {pos:String} {aft:Array Edge} {g:Option (Nat×Bool)} {k:IntKind} {a b:Int}
end
theorem UN {i:Int} {A B:List Int} (h:i∉A):prefQ i (A++i::B)=A:=by
 have hi:i∈A++i::B:=by simp
 unfold prefQ;rw [Zw hi,List.idxOf_append,ϑ h,List.idxOf_cons_self]
 simp
theorem XY {i:Int} {q:List Int} (h:i∉q):prefQ i q=[]:=by
 unfold prefQ prefN bW;rw [ϑ h];rfl
theorem inL_eq {l m:List Int} (h:∀x,x∈l↔x∈m):GM l=GM m:=funext fun x=>by
 unfold GM;exact decide_eq_decide.2 (h x)
theorem Ww {p:Prb} {l m:List Int} (h:l.Perm m) (hv:Ig p (As l)=[]):Ig p (As m)=[]:=
 MQ.2 fun x hx=>by
  have:=MQ.1 hv x hx;have h2:(As l).Perm (As m):=h.map _;rw [KQ h2] at this;exact this
structure Fea (p:Prb) (C:List Int):Prop where
 n:C.Nodup
 i:∀x∈C,x∈p.it.map AK.id
 a:blks p (GM C)=[]
 v:Ig p (As C)=[]
theorem Fea.perm {p:Prb} {C D:List Int} (h:Fea p C) (hp:C.Perm D):Fea p D:=
 ⟨hp.nodup_iff.1 h.n,fun x hx=>h.i x (hp.mem_iff.2 hx),by rw [←inL_eq fun x=>hp.mem_iff];exact h.a,Ww hp h.v⟩
theorem Fea.nil {p:Prb} (hp:Ad p=0):Fea p []:=⟨List.nodup_nil,fun x hx=>(by cases hx),cm p,Yl hp⟩
theorem Ys {x:Int} {A B:List Int} (h:x∉A):(A++x::B).takeWhile (fun a=>decide (a≠x))=A:=by
 induction A with
 | nil=>simp
 | cons a A ih=>
  have ha:a≠x:=fun e=>h (by simp [e]);rw [φc,List.takeWhile_cons,θ (by simpa using ha),ih fun hm=>h (by simp [hm])]
theorem ZX {x:Int} {q:List Int} (h:x∈q):∃A B,q=A++x::B∧x∉A:=by
 induction q with
 | nil=>cases h
 | cons a q ih=>
  by_cases e:a=x
  ·subst e;exact ⟨[],q,Z,by simp⟩
  ·obtain ⟨A,B,h1,h2⟩:=ih ((Φ.1 h).resolve_left fun e2=>e e2.symm);exact ⟨a::A,B,by rw [h1];rfl,fun hm=>(Φ.1 hm).elim (fun e2=>e e2.symm) h2⟩
theorem tw_pref (x:Int) (q:List Int) (h:x∈q):q.takeWhile (fun a=>decide (a≠x))=prefQ x q:=by
 obtain ⟨A,B,rfl,hA⟩:=ZX h;rw [Ys hA,UN hA]
theorem WU {q S:List Int}:q.find? (fun a=>decide (a∉S))=none↔∀a∈q,a∈S:=by
 rw [List.find?_eq_none];exact ⟨fun h a ha=>Classical.byContradiction fun hn=>h a ha (ωc hn),fun h a ha hd=>ωy hd (h a ha)⟩
theorem Wb {its:List AK} {S:List Int} {id:Int} {x:Roo}:blkR its S id x=none↔∀a∈prefQ id (qIds its x.r),a∈S:=by
 unfold blkR
 by_cases h:id∈qIds its x.r
 ·rw [θ h,Option.map_eq_none_iff,WU,tw_pref id _ h]
 ·rw [ϑ h,XY h];exact ⟨fun _ a ha=>(by cases ha),fun _=>rfl⟩
theorem TV {p:Prb} (hE:Ad p=0) {S:List Int} {id:Int}:Ca p S id=none↔∀b∈req p id,b.m∈S:=by
 have hO:ordP p=sortO p.it:=θ hE
 have e1:Ca p S id=none↔(rosS p).findSome? (blkR (sortO p.it) S id)=none∧(BK p id).af.find? (fun a=>decide (a∉S))=none:=by
  unfold Ca
  cases (rosS p).findSome? (blkR (sortO p.it) S id) with
  | some e=>exact ⟨fun h=>(by cases h),fun h=>(by cases h.1)⟩
  | none=>exact ⟨fun h=>⟨Z,Option.map_eq_none_iff.1 h⟩,fun h=>Option.map_eq_none_iff.2 h.2⟩
 rw [e1,WU,List.findSome?_eq_none_iff];unfold req UK
 constructor
 ·rintro ⟨h1,h2⟩ b hb;rcases υ.1 hb with hb | hb
  ·obtain ⟨y,hy,rfl⟩:=ν.1 hb;exact h2 y ((dM _).mem_iff.1 hy)
  ·obtain ⟨L,hL,hb⟩:=χk.1 hb;obtain ⟨x,hx,rfl⟩:=ν.1 hL;obtain ⟨y,hy,rfl⟩:=ν.1 hb;have hxr:=(De p.ro).mem_iff.1 hx;have:=h1 x ((Fv p).mem_iff.2 hxr);rw [←hO] at this;exact Wb.1 this y hy
 ·intro h;refine ⟨fun x hx=>?_,fun a ha=>h ⟨id,a,Mc⟩ (ψr _ (ν.2 ⟨a,(dM _).mem_iff.2 ha,Z⟩))⟩;rw [←hO];refine Wb.2 fun a ha=>?_;have hxr:=(Fv p).mem_iff.1 hx;exact h ⟨id,a,x.r⟩ (ψi _ (χk.2 ⟨Dx p x,ν.2 ⟨x,(De p.ro).mem_iff.2 hxr,Z⟩,ν.2 ⟨a,ha,Z⟩⟩))
theorem blks_no {p:Prb} (hE:Ad p=0) {S:List Int} (hS:∀x∈S,x∈p.it.map AK.id):blks p (GM S)=[]↔∀id∈S,Ca p S id=none:=by
 have e1:blks p (GM S)=[]↔∀i∈Gx p,HC p (GM S) i=[]:=by unfold blks;rw [List.flatMap_eq_nil_iff]
 rw [e1]
 constructor
 ·intro h id hid;have:=h id ((IF hE).mem_iff.2 (hS id hid));unfold HC at this;rw [θ (show GM S id=true from ωc hid)] at this;refine (TV hE).2 fun b hb=>Classical.byContradiction fun hn=>?_;have h2:=List.filter_eq_nil_iff.1 this b hb;exact h2 (by show (!decide (b.m∈S))=true;rw [ωp hn];rfl)
 ·intro h i _;unfold HC
  split
  ·rename_i hi
   have hi:i∈S:=ωy hi;refine List.filter_eq_nil_iff.2 fun b hb=>?_;show ¬(!decide (b.m∈S))=true;rw [ωc ((TV hE).1 (h i hi) b hb)]
   decide
  ·rfl
theorem Rm {p:Prb} (hE:Ad p=0) {S:List Int} (hn:S.Nodup) (hS:∀x∈S,x∈p.it.map AK.id) (x:Roo):JY p.it x S=max x.n 0+DY p x.r (As S):=by
 unfold JY DY As
 congr 1
 rw [ωr]
 have e1:(S.map ((fun e:Int×Bool=>if e.2=true then Bg (BK p e.1) x.r else 0)∘fun a=>(a,true)))=S.map fun y=>Bg (BK p y) x.r:=ωi fun y _=>(by show (if true=true then Bg (BK p y) x.r else 0)=_;rw [θ rfl])
 rw [e1];have hid:=dI (Nv hE).2.1
 have e2:(p.it.filter fun i=>decide (i.id∈S)).map (fun i=>Bg i x.r)=((p.it.filter fun i=>decide (i.id∈S)).map AK.id).map fun y=>Bg (BK p y) x.r:=by
  rw [ωr];refine ωi fun i hi=>?_;have hi:=(Ω.1 hi).1;show Bg i x.r=Bg (BK p i.id) x.r;rw [U5 hE hi]
 rw [e2];refine Rk ?_ _;refine (χz (List.Nodup.sublist (List.filter_sublist.map _) hid) hn).2 fun y=>?_;rw [ν]
 constructor
 ·rintro ⟨i,hi,rfl⟩;exact ωy (Ω.1 hi).2
 ·intro hy;obtain ⟨i,hi,rfl⟩:=ν.1 (hS y hy);exact ⟨i,Ω.2 ⟨hi,ωc hy⟩,Z⟩
theorem fea_R {p:Prb} (hE:Ad p=0) {S:List Int}:Fea p S↔S.Nodup∧(∀x∈S,x∈p.it.map AK.id)∧LW p S:=by
 have key:S.Nodup ->(∀x∈S,x∈p.it.map AK.id) ->((blks p (GM S)=[]∧Ig p (As S)=[])↔LW p S):=fun hn hS=>by
  unfold LW;rw [blks_no hE hS,MQ];refine and_congr Iff.rfl ?_
  constructor
  ·intro h x hx;rw [Rm hE hn hS];have:=h (Dx p x) (ν.2 ⟨x,(De p.ro).mem_iff.2 hx,Z⟩);have e:(Dx p x).n+DY p (Dx p x).r (As S)=max x.n 0+DY p x.r (As S):=rfl;omega
  ·intro h L hL;obtain ⟨x,hx,rfl⟩:=ν.1 hL;have:=h x ((De p.ro).mem_iff.1 hx);rw [Rm hE hn hS] at this;have e:(Dx p x).n+DY p (Dx p x).r (As S)=max x.n 0+DY p x.r (As S):=rfl;omega
 exact ⟨fun h=>⟨h.n,h.i,(key h.n h.i).1 ⟨h.a,h.v⟩⟩,fun ⟨h1,h2,h3⟩=>⟨h1,h2,((key h1 h2).2 h3).1,((key h1 h2).2 h3).2⟩⟩
theorem Xp {p:Prb} (hE:Ad p=0) (hf:DW p) {S:List Int} (h:Fea p S):∀y∈S,y∈largeS p:=Xn hE hf ((fea_R hE).1 h).2.2 h.i
end Go.Proofs.YteifpcnphnhaoaaGreat
namespace Go.Proofs.YteifpcnphnhaoaaGreat
open Go.RowKit Go.Shelf
set_option maxRecDepth 100000 in
theorem YK (l:List Int) (x:Int) (hl:l.length≤100000):AO Tryz.prog 25 [.d (.sl none (l.map AF)),.d (AF x)] (AN (l.count x)):=by
 refine Az Tryz.func25 Z Z Tryz.ntmps25 Z Z Z fun F hF=>(AC (AE (AB Z Z (AD (AC (AE ?_))))));refine AB Z Z (AD (AC (AC (AE (AB Z Z (AD (A4 (Gm (α:=Nat×Nat) (fun q=>⟨22,[(0,.d (.sl none (l.map AF))),(1,.d (AF x)),(5,(.d (AN q.2))),(6,(.d (AF (q.1:Int))))],[]⟩) (fun q=>q.1≤l.length∧q.2=(l.take q.1).count x) (fun q=>l.length - q.1) ((0,0)) (⟨Δ _,Z⟩) (dJ ⟨Z,Z,Z,Z,trivial⟩) ?_))))))));rintro ⟨k,c⟩ ⟨hk0,hc⟩;dsimp only at hk0 hc⊢;refine AC (AC (AE (goMv Z Z (goMv Z Z (J (CM Z Tryz.underlying28 Z) (J (BV Z Z Z) (AD (Ae Z (fun h10=>?_) (fun h10=>?_)))))))))
 ·have hk1:k<l.length:=Bf h10;refine A1 (AC (A4 (AC ?_)));have hct:c≤k:=by have h:=List.count_le_length (a:=x) (l:=l.take k);rw [Υ,←hc] at h;omega
  refine AE (goMv Z Z (goMv Z Z (J (Bk (k) Z Z (Z) (Ah hk1) Tryz.underlying28 Z BA Z) (J (D0 Z Z Aq Z) (goMv Z Z (J (KL Z Z Z) (AD (Ae Z (fun h18=>?_) (fun h18=>?_)))))))))
  ·refine AE ?_;refine goMv Z Z (J (Ay Z Z (AT (c+1) (by omega)) Z) (AB Z Z (AD (AE (goMv Z Z (J (Ay Z Z (AT (k+1) (by omega)) Z) (AB Z Z (AD ?_))))))));exact ⟨(k+1,c+1),⟨hk1,by show c+1=(l.take (k+1)).count x;rw [φ hk1,List.count_append,List.count_singleton,←hc];simp [h18]⟩,by show l.length - (k+1)<l.length - k;omega,⟨Z,Z,fun _ _=>Tm.get (l:=[(0,_),(1,_),(5,_),(6,_)]) ⟨Z,Z,Z,Z,trivial⟩⟩⟩
  ·refine A1 (AE (goMv Z Z (J (Ay Z Z (AT (k+1) (by omega)) Z) (AB Z Z (AD ?_)))));exact ⟨(k+1,c),⟨hk1,by show c=(l.take (k+1)).count x;rw [φ hk1,List.count_append,List.count_singleton,←hc];simp [h18]⟩,by show l.length - (k+1)<l.length - k;omega,⟨Z,Z,fun _ _=>Tm.get (l:=[(0,_),(1,_),(5,_),(6,_)]) ⟨Z,Z,Z,Z,trivial⟩⟩⟩
 ·refine BC (AC (AE (goMv Z Z (AB Z Z (AD (A5 ?_))))));exact ⟨_,[],[],A3 Z,Z,Z,by rw [hc,Ξ (by have h:=h10;omega)],Z⟩
theorem few_sml {p:Prb} (h:Sml p):DW p:=⟨by have:=h.1;omega,by have:=h.2.1;omega,fun i hi=>by have:=h.2.2 i hi;omega⟩
theorem Yn {p:Prb} {M:List (Int×Bool)} {x:Roo} (h:x∈Ig p M):1≤x.n:=by
 unfold Ig at h;obtain ⟨y,_,h⟩:=χk.1 h;unfold OF at h
 split at h
 ·rw [ξ.1 h];show 1≤0 - _;omega
 ·cases h
theorem Ym {p:Prb} (hE:Ad p=0) (hf:DW p) {id:Int} (hid:id∈p.it.map AK.id) (hl:id∉largeS p):0<(vio1L p id).length:=by
 refine Decidable.byContradiction fun h=>hl ?_;have h0:vio1L p id=[]:=χx.1 (by omega);have hS:∀x∈ [id],x∈p.it.map AK.id:=fun x hx=>by rw [ξ.1 hx];exact hid
 have hF:Fea p (cloS p [id]):=⟨Q6 hE _,fun x hx=>Q7 x hx,c9 hE hS,h0⟩
 refine Xp hE hf hF id ?_;unfold cloS;rw [(dM _).mem_iff,Ω];exact ⟨hid,by simpa using Tl.base (ξ.2 Z)⟩
theorem cn {p:Prb} (hE:Ad p=0) (hf:DW p) {b:Int×Roo} (h:b∈bksL p):b.1∈p.it.map AK.id∧b.1∉largeS p∧1≤b.2.n∧∃h0:0<(vio1L p b.1).length,(vio1L p b.1)[0]=b.2:=by
 unfold bksL at h;obtain ⟨id,hid,hb⟩:=List.mem_filterMap.1 h;have hid2:id∈p.it.map AK.id:=((Qd p.it).map AK.id).mem_iff.1 hid
 by_cases hl:id∈largeS p
 ·rw [KE hl] at hb;cases hb
 ·have hv:=Ym hE hf hid2 hl;rw [Qa hl hv] at hb;injection hb with hb
  subst hb;exact ⟨hid2,hl,Yn (p:=p) (κ hv),hv,Z⟩
theorem bks_len {p:Prb} (hE:Ad p=0) (hf:DW p):(largeS p).length+(bksL p).length=p.it.length:=by
 have hO:ordP p=sortO p.it:=θ hE
 obtain ⟨L,hL⟩:∃L,(sortO p.it).map AK.id=L:=⟨_,Z⟩
 have hLl:L.length=p.it.length:=by rw [←hL,ψ,Cw]
 have hLn:L.Nodup:=by rw [←hL];have:=F1 hE;rwa [hO] at this
 have hLm:∀x,x∈L↔x∈p.it.map AK.id:=fun x=>by rw [←hL];exact ((Qd p.it).map AK.id).mem_iff
 have h1:(bksL p).length=(L.filter fun x=>!decide (x∈largeS p)).length:=by
  unfold bksL;rw [hL]
  have key:∀l:List Int,(∀x∈l,x∈p.it.map AK.id) ->(l.filterMap (bkOf p)).length=(l.filter fun x=>!decide (x∈largeS p)).length:=fun l=>by
   induction l with
   | nil=>intro _;rfl
   | cons a l ih=>
    intro h;have h2:=ih fun x hx=>h x (ωn _ hx)
    by_cases ha:a∈largeS p
    ·rw [List.filterMap_cons,KE ha,ψv,ϑ (by simp [ha])];exact h2
    ·rw [List.filterMap_cons,Qa ha (Ym hE hf (h a ωk) ha),ψv,θ (by simp [ha]),ψl,ψl,h2]
  exact key L fun x hx=>(hLm x).1 hx
 have h2:(largeS p).length=(L.filter fun x=>decide (x∈largeS p)).length:=by
  refine ((χz (F5 hE) (List.Nodup.sublist ψq hLn)).2 fun x=>?_).length_eq;rw [Ω,ωs,hLm];exact ⟨fun h=>⟨PR hE h,h⟩,fun h=>h.2⟩
 have h3:∀(q:Int ->Bool) (l:List Int),(l.filter q).length+(l.filter fun x=>!q x).length=l.length:=fun q l=>by
  induction l with
  | nil=>rfl
  | cons a l ih=>rw [ψv,ψv,ψl];cases q a<;>simp<;>omega
 rw [h1,h2,←hLl];exact h3 _ L
end Go.Proofs.YteifpcnphnhaoaaGreat
namespace Go.Proofs.YteifpcnphnhaoaaGreat
open Go.ChangeShapes Go.WideShapes Go.ChangeAt Go.RowKit
section
variable {H:Type} {enc:TypeId×Value ->H} {w:World}
abbrev tt {α:Type}:α ->Prop:=fun _=>True
theorem oI:CK enc Tryz.prog w 3 1 AF tt:=(Vj Tryz.underlying3).asQ id (fun _ _=>rfl) (fun _ _=>trivial)
theorem oJ:CK enc Tryz.prog w 2 1 AF tt:=(Vj Tryz.underlying2).asQ id (fun _ _=>rfl) (fun _ _=>trivial)
theorem oS:CK enc Tryz.prog w 9 1 Am tt:=(aR Tryz.underlying9).asQ id (fun _ _=>rfl) (fun _ _=>trivial)
theorem oIs:CK enc Tryz.prog w 28 1 (fun l:List Int=> .sl none (l.map AF)) tt:=(Mn Tryz.underlying28 (by kernel_rfl) (by omega) (b:=8) (by kernel_rfl) oI).asQ id (fun _ _=>rfl) (fun _ _=>trivial)
theorem oAcc:CK enc Tryz.prog w 96 3 accD tt:=
 (Im Tryz.underlying96 (by kernel_rfl) (Bl Z (by kernel_rfl) oS (Bl Z (by kernel_rfl) oI (Bl Z (by kernel_rfl) oS In)))).asQ (fun a=>(⟨a.1,a.2.1,a.2.2.1⟩:Td)) (fun _ _=>rfl) (fun _ _=>trivial)
theorem oPost:CK enc Tryz.prog w 192 4 CF tt:=
 (Im Tryz.underlying192 (by kernel_rfl) (Bl Z (by kernel_rfl) oAcc (Bl Z (by kernel_rfl) oJ In))).asQ (fun a=>(⟨a.1,a.2.1⟩:FO)) (fun _ _=>rfl) (fun _ _=>trivial)
theorem oPay:CK enc Tryz.prog w 193 3 Ff tt:=
 (Im Tryz.underlying193 (by kernel_rfl) (Bl Z (by kernel_rfl) oS (Bl Z (by kernel_rfl) oS (Bl Z (by kernel_rfl) oJ In)))).asQ (fun a=>(⟨a.1,a.2.1,a.2.2.1⟩:OE)) (fun _ _=>rfl) (fun _ _=>trivial)
theorem oRsc:CK enc Tryz.prog w 98 6 CV tt:=
 (Im Tryz.underlying98 (by kernel_rfl) (Bl Z (by kernel_rfl) oI (Bl Z (by kernel_rfl) oAcc (Bl Z (by kernel_rfl) oS (Bl Z (by kernel_rfl) oS In))))).asQ (fun a=>(⟨a.1,a.2.1,a.2.2.1,a.2.2.2.1⟩:AP)) (fun _ _=>rfl) (fun _ _=>trivial)
theorem oItm:CK enc Tryz.prog w 93 6 Ao tt:=
 (Im Tryz.underlying93 (by kernel_rfl) (Bl Z (by kernel_rfl) oI (Bl Z (by kernel_rfl) oI (Bl Z (by kernel_rfl) oI
  (Bl Z (by kernel_rfl) (Mn Tryz.underlying90 (by kernel_rfl) (by omega) (b:=48) (by kernel_rfl) oPost)
  (Bl Z (by kernel_rfl) (Mn Tryz.underlying91 (by kernel_rfl) (by omega) (b:=40) (by kernel_rfl) oPay) (Bl Z (by kernel_rfl) oIs In))))))).asQ
  (fun a=>(⟨a.1,a.2.1,a.2.2.1,a.2.2.2.1,a.2.2.2.2.1,a.2.2.2.2.2.1⟩:AK)) (fun _ _=>rfl) (fun _ _=>trivial)
theorem oRoo:CK enc Tryz.prog w 100 7 CX tt:=
 (Im Tryz.underlying100 (by kernel_rfl) (Bl Z (by kernel_rfl) oRsc (Bl Z (by kernel_rfl) oJ In))).asQ (fun a=>(⟨a.1,a.2.1⟩:Roo)) (fun _ _=>rfl) (fun _ _=>trivial)
theorem oPrb:CK enc Tryz.prog w 25 2 Bq tt:=
 (Im Tryz.underlying25 (by kernel_rfl) (Bl Z (by kernel_rfl) (Mn Tryz.underlying22 (by kernel_rfl) (by omega) (b:=88) (by kernel_rfl) oRoo) (Bl Z (by kernel_rfl) (Mn Tryz.underlying23 (by kernel_rfl) (by omega) (b:=96) (by kernel_rfl) oItm) In))).asQ
  (fun a=>(⟨a.1,a.2.1⟩:Prb)) (fun _ _=>rfl) (fun _ _=>trivial)
end
end Go.Proofs.YteifpcnphnhaoaaGreat
