import Derived.Test.YteifpcnphnhaoaaGreatMg26
namespace Go.Proofs.YteifpcnphnhaoaaGreat
open Go.RowKit
set_option maxRecDepth 100000
set_option maxHeartbeats 1000000 in
theorem TC (g:List (List Nat)) (hg:GT g):AM Tryz.prog 134 [.d (JK g)] [] fun r H'=>∃of cnt,SccOf g.length (sucs g) of cnt∧r= .tup [.own 10 0 cnt,.d (natsD ((List.range g.length).map fun v=>conM g of cnt (of v)))]∧H'=[(10,[.rowD 28 1 ((bT cnt (FA (fun v=>conM g of cnt (of v)) g.length)).map natsD)])]:=by
 have hn:=hg.gb.n;refine BB Tryz.func134 Z Z Tryz.ntmps134 Z Z Z fun F hF=>(AC (AE (AB Z Z (AB Z Z (AD (AC (AE (goMv Z Z ?_))))))));refine CP (Ux (TD g hg.gb) Z [2] ⟨Z,trivial⟩ Z Z Z Z (fun r H' ⟨of,cnt,h1,h2,h3⟩=>by subst h2 h3;exact ⟨Z,Z,Z⟩) Z) Z ?_;rintro _ ⟨r,H',⟨of,cnt,hso,rfl,rfl⟩,rfl⟩;refine goMv Z Z (J (Ct Z Z Z) (J (Ct Z Z Z) (AB Z Z (AB Z Z (AD (AC ?_))))));have hcn:=hso.le;refine AE (goMv Z Z (V (E3 6 B5 Z Z Z (by omega) zd3 Z Z Z Z) (V (CF 5 zl28 Z Z Z Z) (V (Bi Z Z Z Z Z Z Z CZ) (AD (AC (AC ?_)))))));rw [repN];refine AE (goMv Z Z (J (I5 Z (ψ ..) Tryz.underlying147 Z) (J (LH Z Z (Ω _ (by omega)) Z) (Ir 29 (.d (AF ((g.length:Int) - 1 - ((0:Nat):Int)))) Z (eqv (Γ AF (by omega))) (AB Z Z (AD (A5 (B7 (α:=Nat) (fun d=>⟨142,[(0,.d (JK g)),(4,(.own 2 0 g.length)),(5,(.d (AN cnt))),(6,(.ptr 5 0 0)),(7,(.d (AF ((g.length:Int) - 1 - (d:Int)))))],[(2,[.rowD 3 1 (rowN g.length of)]),(5,[.blk 28 [.own 6 0 cnt]]),(6,[.rowD 3 1 (rowN cnt (lfT of g.length d))])]⟩) (fun d=>d≤g.length) (fun d=>g.length - d) (0) (ς _) (A1 hF [2,5,6] Z Z ⟨Z,Z,Z,Z,Z,trivial⟩) ?_))))))));intro d hd;refine AC (AC (AE (goMv Z Z (J (ES Z Z Z) (AD (Ae Z (fun h31=>?_) (fun h31=>?_)))))))
 ·refine A3 (AC (A5 ?_));have hdl:g.length - 1 - d<g.length:=by omega
  refine Uv 7 (.d (AN (g.length - 1 - d))) Z (eqv (Γ AF (by omega))) ?_;have hoc:=hso.lt _ hdl;refine Ch [[],[],[],[1,2],[1,2,3],[],[0,1,2,3,4,5],[0,1,2,3,4,5,6]] mixed Z (Cq (Av [6] Z Z (fun _=>AG (A9 Z Z Z BH Z)) ?_));refine AJ [4] [] Z Z (fun _=>AG (Ak Z Z)) (AJ [7] [] Z Z (fun _=>AG (Ak Z Z)) (Av [35,36] Z Z (fun _=>AG (Bu (g.length - 1 - d) Z Z (Z) (hdl) Z Tryz.underlying28 BE Z)) (Av [37] Z Z (fun _=>AG (CA Z Z (IA hdl) Z Aq Z)) (AJ [7] [] Z Z (fun _=>AG (Ak Z Z)) (C5 6 Z Z Z (Af 7 Z Z (J (Bu (of (g.length - 1 - d)) Z Z (Z) (hoc) Z Tryz.underlying28 BE Z) (AD ⟨Z,?_⟩))))))));refine Af 8 Z Z (V (Qb Z Z Z Z Z (by rw [cc];exact hoc) cd Z BE) (AD ⟨Z,?_⟩));refine C9 (AE (goMv Z Z (J (LH Z Z (Ω _ (by omega)) Z) (Ir 33 (.d (AF ((g.length:Int) - 1 - ((d+1:Nat):Int)))) Z (eqv (Γ AF (by omega))) (AB Z Z (AD ?_))))));exact ⟨d+1,by omega,by omega,A1 hF [2,5,6] Z (Z) ⟨Z,Z,Z,Z,Z,trivial⟩⟩
 ·refine BF (AC ?_);have hdn:d=g.length:=by omega
  subst hdn;refine AE (goMv Z Z (V (E3 7 V3 Z Z Z (by omega) zd28 Z Z Z Z) (AB Z Z (AD (AC (AC ?_))))));refine P9 7 0 (rowH cnt (fun _=>none) (fun _=> [])) Z (by rw [Ex,List.length_replicate]) (Ry cnt) ⟨Ve _,J3 _ _ _⟩ Z (Fi 40 Z Z Z (AE (goMv Z Z (J (I5 Z (ψ ..) Tryz.underlying147 Z) (goMv Z Z (AD (A5 (B7 (α:=Nat×MF×(Nat ->Hd)) (fun q=>⟨142,[(0,.d (JK g)),(4,(.own 2 0 g.length)),(5,(.d (AN cnt))),(6,(.ptr 5 0 0)),(8,(.own 7 0 cnt)),(43,(.d (JK g))),(44,(.d (AN g.length))),(45,(.d (AN q.1)))],[(2,[.rowD 3 1 (rowN g.length of)]),(5,[.blk 28 [.own 6 0 cnt]]),(6,[.rowD 3 1 (rowN cnt (lfT of g.length g.length))]),(7,[.rowD 28 1 (rowH cnt q.2.2 (Lh g of q.1 0))]),(40,[.multi q.2.1])]⟩) (fun q=>q.1≤g.length∧Lk q.2.1 cnt q.2.2 (Lh g of q.1 0)) (fun q=>g.length - q.1) ((0,fun _=>none,fun _=>none)) (⟨ς _,by rw [bi];exact Lk.zero _⟩) (A1 hF [2,5,6,7,40] Z Z ⟨Z,Z,Z,Z,Z,Z,Z,Z,trivial⟩) ?_))))))));rintro ⟨i,M,hs⟩ ⟨hi,hr⟩;dsimp only at hi hr⊢;refine AC (AE (J (BR Z Z Z) (AD (AC (Ae Z (fun h46=>?_) (fun h46=>?_))))))
  ·refine A3 (AC (A5 (AC ?_)));have hil:i<g.length:=Bf h46;have hoi:=hso.lt i hil;refine AE (goMv Z Z (J (Be (i) Z Z (Z) (Sb hil) Tryz.underlying147 Z CZ Z) (J (Cr Z Z BH Z) (AB Z Z (AB Z Z ?_)))));refine AD (AC (AE (goMv Z Z (J (I5 Z (ψ ..) Tryz.underlying28 Z) (goMv Z Z (AD (A5 (B7 (α:=Nat×MF×(Nat ->Hd)) (fun q=>⟨142,[(0,.d (JK g)),(4,(.own 2 0 g.length)),(5,(.d (AN cnt))),(6,(.ptr 5 0 0)),(8,(.own 7 0 cnt)),(9,(.d (AN i))),(43,(.d (JK g))),(44,(.d (AN g.length))),(45,(.d (AN i))),(50,(.d (natsD (sucs g i)))),(51,(.d (AN (sucs g i).length))),(52,(.d (AN q.1)))],[(2,[.rowD 3 1 (rowN g.length of)]),(5,[.blk 28 [.own 6 0 cnt]]),(6,[.rowD 3 1 (rowN cnt (lfT of g.length g.length))]),(7,[.rowD 28 1 (rowH cnt q.2.2 (Lh g of i q.1))]),(40,[.multi q.2.1])]⟩) (fun q=>q.1≤(sucs g i).length∧Lk q.2.1 cnt q.2.2 (Lh g of i q.1)) (fun q=>(sucs g i).length - q.1) ((0,M,hs)) (⟨ς _,hr⟩) (A1 hF [2,5,6,7,40] Z Z ⟨Z,Z,Z,Z,Z,Z,Z,Z,Z,Z,Z,Z,trivial⟩) ?_))))))));rintro ⟨k,M,hs⟩ ⟨hk,hr⟩;dsimp only at hk hr⊢;refine AC (AE (J (BR Z Z Z) (AD (AC (Ae Z (fun h53=>?_) (fun h53=>?_))))))
   ·refine A3 (AC (A5 (AC ?_)));have hkl:k<(sucs g i).length:=Bf h53;have hgn:=Kp hkl;have hsl:=hg.gb.len hil;have hjl:nth (sucs g i) k<g.length:=hg.gb.suc hil (Cs hkl);have hst0:=bj (of:=of) hkl;have hsk0:=bk (of:=of) hkl
    obtain ⟨j,hje⟩:∃j,nth (sucs g i) k=j:=⟨_,Z⟩
    rw [hje] at hgn hjl hst0 hsk0;have hln:=WT g of i k (of i);have hlt:=ωe (O2 g (Nat.le_of_lt hil)) hg.tot;have hlt2:((sucs g i).take k).length≤1048576:=by rw [Υ];omega
    refine AE (J (Be (k) Z Z (Z) (hgn) Tryz.underlying28 Z BE Z) ?_);refine J (Cr Z Z Aq Z) (AB Z Z (AD (AC (Ch [[],[],[0,1],[0,1,2],[],[],[4,5],[4,5,6],[0,1,2,3,4,5,6,7]] mixed Z (Cq (AJ [4] [] Z Z (fun _=>AG (Ak Z Z)) (AJ [9] [] Z Z (fun _=>AG (Ak Z Z)) (Av [56,57] Z Z (fun _=>AG (Bu (i) Z Z (Z) (hil) Z Tryz.underlying28 BE Z)) ?_))))))));refine Av [58] Z Z (fun _=>AG (CA Z Z (IA hil) Z Aq Z)) (AJ [4] [] Z Z (fun _=>AG (Ak Z Z)) (AJ [12] [] Z Z (fun _=>AG (Ak Z Z)) (Av [60,61] Z Z (fun _=>AG (Bu (j) Z Z (Z) (hjl) Z Tryz.underlying28 BE Z)) (Av [62] Z Z (fun _=>AG (CA Z Z (IA hjl) Z Aq Z)) (C5 8 Z Z Z (Af 9 Z Z (J (D6 Z Z Z) (AD ⟨Z,?_⟩))))))));refine C9 (Ae Z (fun h64=>?_) (fun h64=>?_))
    ·have hst:=hst0 (fun e=>h64 (Γ Int.ofNat e));refine Ch [[],[],[],[1,2],[1,2,3],[],[],[],[6,7],[6,7,8],[5,6,7,8,9],[5,6,7,8,9,10],[],[],[12,13],[12,13,14],[12,13,14,15],[5,6,7,8,9,10,11,12,13,14,15,16],[0,1,2,3,4,5,6,7,8,9,10,11,12,13,14,15,16,17],[0,1,2,3,4,5,6,7,8,9,10,11,12,13,14,15,16,17,18]] mixed Z (Cq (AJ [8] [] Z Z (fun _=>AG (Ak Z Z)) (AJ [4] [] Z Z (fun _=>AG (Ak Z Z)) (AJ [9] [] Z Z (fun _=>AG (Ak Z Z)) (AJ [66,67] [2] Z Z (fun _=>AG (Bu (i) Z Z (Z) (hil) Z Tryz.underlying28 BE Z)) (AJ [68] [2] Z Z (fun _=>AG (CA Z Z (IA hil) Z Aq Z)) ?_))))));refine AJ [8] [] Z Z (fun _=>AG (Ak Z Z)) (AJ [4] [] Z Z (fun _=>AG (Ak Z Z)) (AJ [9] [] Z Z (fun _=>AG (Ak Z Z)) (AJ [71,72] [2] Z Z (fun _=>AG (Bu (i) Z Z (Z) (hil) Z Tryz.underlying28 BE Z)) (AJ [73] [2] Z Z (fun _=>AG (CA Z Z (IA hil) Z Aq Z)) (AJ [70,74] [7] Z Z (fun _=>AG (Bu (of i) Z Z (Z) (hoi) Z Tryz.underlying147 CZ Z)) (AJ [75] [7] Z Z (fun _=>AG (CA Z Z (JU hoi) Z BH Z)) (AJ [4] [] Z Z (fun _=>AG (Ak Z Z)) (AJ [12] [] Z Z (fun _=>AG (Ak Z Z)) ?_))))))));refine AJ [77,78] [2] Z Z (fun _=>AG (Bu (j) Z Z (Z) (hjl) Z Tryz.underlying28 BE Z)) (AJ [79] [2] Z Z (fun _=>AG (CA Z Z (IA hjl) Z Aq Z)) (Gv [80] [21] [(81,_)] Z Z (fun _=>Gw (D7 21 B5 Z Z Z Z Z Z Z Z)) (.inr ⟨81,_,Z,Z,Z,Z,Z⟩) Z Z Z Z Z (Gv [76,81] [60,40,21] [(82,_)] Z Z (fun _=>Gw (G0 76 60 40 (hr.at_ (of i) hoi) Z Z (by rw [ψ]) Z Z Z Z Z (Hz (emb:=AN) (Lh g of i k (of i)) [of j] Z Z Z Z Z Z Z Z B5 (by show ((Lh g of i k (of i)).length+1)*8≤_;omega) Z Z Z Z))) (.inr ⟨82,_,Z,Z,Z,Z,Z⟩) Z Z Z Z Z (C5 18 Z Z Z (Af 19 Z Z (Eh 82 60 40 hF Z Z Z (by rw [ψ]) (by simp) Z Z Z Z Z Z Z (fun _ _=>rfl) fun b c hb hc=>(J (Bu (of i) Z Z (Z) (hoi) Z Tryz.underlying147 CZ Z) (AD ⟨Z,?_⟩))))))));refine Af 20 Z Z (V (Qb Z Z Z Z Z (by rw [Ex];exact hoi) (R0 (h:=some (b,c))) Z CZ) (AD ⟨Z,?_⟩));refine C9 (AE (J (BA Z Z (Ω _ (by omega)) Z) (goMv Z Z (AD ?_))));exact ⟨(k+1,BQ (B6 M (hs (of i))) b (.row 3 1 c ((Lh g of i k (of i)++ [of j]).map AN)),At hs (of i) (some (b,c))),⟨hkl,by have:=hr.app hoi hb hc;rw [hst] at this;exact this⟩,by show (sucs g i).length - (k+1)<(sucs g i).length - k;omega,A1 hF [2,5,6,7,40] Z (by rw [hst];rfl) ⟨Z,Z,Z,Z,Z,Z,Z,Z,Z,Z,Z,Z,trivial⟩⟩
    ·have hsk:=hsk0 (fun h=>h64 (fun e=>h (Int.ofNat.inj e)));refine A3 (AE (J (BA Z Z (Ω _ (by omega)) Z) (goMv Z Z (AD ?_))));exact ⟨(k+1,M,hs),⟨hkl,by rw [←hsk];exact hr⟩,by show (sucs g i).length - (k+1)<(sucs g i).length - k;omega,A1 hF [2,5,6,7,40] Z (by rw [←hsk];rfl) ⟨Z,Z,Z,Z,Z,Z,Z,Z,Z,Z,Z,Z,trivial⟩⟩
   ·refine BF ?_;have hke:k=(sucs g i).length:=by have:=h53;omega
    subst hke;refine AE (J (BA Z Z (Ω _ (by omega)) Z) (goMv Z Z (AD ?_)));exact ⟨(i+1,M,hs),⟨hil,by rw [←WS];exact hr⟩,by show g.length - (i+1)<g.length - i;omega,A1 hF [2,5,6,7,40] Z (by rw [WS];rfl) ⟨Z,Z,Z,Z,Z,Z,Z,Z,trivial⟩⟩
  ·refine BF (AC ?_);have hin:i=g.length:=by have:=h46;omega
   subst hin;refine c7 7 0 40 ((KA g of cnt).map natsD) Z Z Z Z Z (by rw [ψ,KA,T7,Ex]) hr.melt ⟨J3 _ _ _,Zz _⟩ Z (L4 (emb:=natsD) 8 7 (KA g of cnt) Z Z Z (T7 _ _).symm Z Z Z ?_);rw [Z2 cnt];have hll:=lfL_len of g.length cnt;have hob:=Zw (Th of g.length cnt) (KA g of cnt) (edG_gb hg hso) (by rw [KA,T7];exact lf_inj hso) (by rw [KA,T7,hll]);rw [←Th,show (AV.own 6 0 cnt)= .own 6 0 (Th of g.length cnt).length by rw [hll]];refine AE (goMv Z Z ?_);refine J (Zcv Z Z) (V (E1 hob Z [5,6] ⟨Z,Z,trivial⟩ Z Z Z Z Z Z Z Z Z) (goMv Z Z (J (DD Z Z Z) (J (DD Z Z Z) (AB Z Z (AB Z Z (AD (AC ?_))))))));have hsq:ordG (KA g of cnt) (nth (Th of g.length cnt))=conS g of cnt:=rfl;have hsl0:=Zx (KA g of cnt) (nth (Th of g.length cnt));have hsk9:∀k,k<(conS g of cnt).length ->nth (conS g of cnt) k<cnt:=fun k hk=>by have:=ordG_lt (g:=KA g of cnt) (K:=nth (Th of g.length cnt)) hk;rwa [KA,T7] at this
   rw [KA,T7,←KA] at hsl0;rw [hsq] at hsl0⊢;refine AE (goMv Z Z (V (E3 9 B5 Z Z Z (by omega) zd3 Z Z Z Z) (AB Z Z (AD (AC (AC ?_))))));rw [repN]
   obtain ⟨seq,hseq⟩:∃seq,conS g of cnt=seq:=⟨_,Z⟩
   rw [hseq] at hsl0 hsk9⊢;refine AE (goMv Z Z (J (I5 Z (ψ ..) Tryz.underlying28 Z) (goMv Z Z (AD (A5 (B7 (α:=Nat) (fun k=>⟨142,[(0,.d (JK g)),(4,(.own 2 0 g.length)),(5,(.d (AN cnt))),(15,(.own 9 0 cnt)),(94,(.d (natsD seq))),(95,(.d (AN seq.length))),(96,(.d (AN k)))],[(2,[.rowD 3 1 (rowN g.length of)]),(9,[.rowD 3 1 (rowN cnt (DM seq k))])]⟩) (fun k=>k≤seq.length) (fun k=>seq.length - k) (0) (ς _) (A1 hF [2,9] Z Z ⟨Z,Z,Z,Z,Z,Z,Z,trivial⟩) ?_))))));intro k hk;refine AC (AE (J (BR Z Z Z) (AD (AC (Ae Z (fun h97=>?_) (fun h97=>?_))))))
   ·refine A3 (AC (A5 (AC ?_)));have hkl:k<seq.length:=Bf h97;refine AE (goMv Z Z (J (Be (k) Z Z (Z) (Kp hkl) Tryz.underlying28 Z BE Z) (J (Cr Z Z Aq Z) (AB Z Z (AB Z Z (AD (AE (goMv Z Z ?_))))))));refine goMv Z Z (goMv Z Z (J (Bu (nth seq k) Z Z (Z) (hsk9 k hkl) Z Tryz.underlying28 BE Z) (V (Qb Z Z Z Z Z (by rw [cc];exact hsk9 k hkl) cd Z BE) (AD (AE (J (BA Z Z (Ω _ (by omega)) Z) (goMv Z Z (AD ?_))))))));exact ⟨k+1,hkl,by omega,A1 hF [2,9] Z (Z) ⟨Z,Z,Z,Z,Z,Z,Z,trivial⟩⟩
   ·refine BF (AC ?_);have hks:k=seq.length:=by have:=h97;omega
    subst hks;refine AE (goMv Z Z (V (E3 10 M7 Z Z Z (by omega) zd28 Z Z Z Z) (AB Z Z (AD (AC (AC (P9 10 0 (rowH cnt (fun _=>none) (fun _=> [])) Z (by rw [Ex,List.length_replicate]) (Ry cnt) ⟨Ve _,J3 _ _ _⟩ Z (Fi 40 Z Z Z ?_))))))));have hno:∀v,v<g.length ->DM seq seq.length (of v)<cnt:=fun v hv=>Vs seq (Nat.lt_of_le_of_lt (ς _) (hso.lt v hv)) hsl0 _ (ν _) _;refine AE (goMv Z Z (J (I5 Z (ψ ..) Tryz.underlying147 Z) (goMv Z Z (AD (A5 (B7 (α:=Nat×MF×(Nat ->Hd)) (fun q=>⟨142,[(0,.d (JK g)),(4,(.own 2 0 g.length)),(15,(.own 9 0 cnt)),(18,(.own 10 0 cnt)),(109,(.d (AN g.length))),(110,(.d (AN q.1)))],[(2,[.rowD 3 1 (rowN g.length (ofT of (fun v=>DM seq seq.length (of v)) q.1))]),(9,[.rowD 3 1 (rowN cnt (DM seq seq.length))]),(10,[.rowD 28 1 (rowH cnt q.2.2 (FA (fun v=>DM seq seq.length (of v)) q.1))]),(40,[.multi q.2.1])]⟩) (fun q=>q.1≤g.length∧Lk q.2.1 cnt q.2.2 (FA (fun v=>DM seq seq.length (of v)) q.1)) (fun q=>g.length - q.1) ((0,fun _=>none,fun _=>none)) (⟨ς _,Lk.zero _⟩) (A1 hF [2,9,10,40] Z Z ⟨Z,Z,Z,Z,Z,Z,trivial⟩) ?_))))));rintro ⟨i,M,hs⟩ ⟨hi,hr⟩;dsimp only at hi hr⊢;refine AC (AE (J (BR Z Z Z) (AD (AC (Ae Z (fun h111=>?_) (fun h111=>?_))))))
    ·refine A3 (AC (A5 (AC ?_)));have hil:i<g.length:=Bf h111;have hoi:=hso.lt i hil;have hst:=XU (fun v=>DM seq seq.length (of v)) i;have hos:=aF of (fun v=>DM seq seq.length (of v)) i;have hxc:=hno i hil;have hofi:ofT of (fun v=>DM seq seq.length (of v)) i i=of i:=ϑ (χx _);have hofj:ofT of (fun v=>DM seq seq.length (of v)) (i+1) i=DM seq seq.length (of i):=θ (χk _);have hgo:=IA (f:=ofT of (fun v=>DM seq seq.length (of v)) i) hil;have hgj:=IA (f:=ofT of (fun v=>DM seq seq.length (of v)) (i+1)) hil;rw [hofi] at hgo;have hrg:=IA (f:=DM seq seq.length) hoi
     first | dsimp only at hst hos | skip
     obtain ⟨x,hxe⟩:∃x,DM seq seq.length (of i)=x:=⟨_,Z⟩
     rw [hofj,hxe] at hgj;rw [hxe] at hst hos hxc hrg;have hln:=Zv (fun v=>DM seq seq.length (of v)) i x;refine AE (goMv Z Z (AB Z Z (AD ?_)));refine AC (AE (goMv Z Z (goMv Z Z (goMv Z Z (goMv Z Z (goMv Z Z (J (Bu (i) Z Z (Z) (hil) Z Tryz.underlying28 BE Z) (J (CA Z Z (hgo) Z Aq Z) ?_))))))));refine J (Bu (of i) Z Z (Z) (hoi) Z Tryz.underlying28 BE Z) (J (CA Z Z (hrg) Z Aq Z) (J (Bu (i) Z Z (Z) (hil) Z Tryz.underlying28 BE Z) (V (Qb Z Z Z Z Z (by rw [cc];exact hil) (cd.trans (by rw [hos])) Z BE) (AD (Ch [[],[],[],[1,2],[1,2,3],[],[],[],[6,7],[6,7,8],[5,6,7,8,9],[5,6,7,8,9,10],[],[12],[5,6,7,8,9,10,11,12,13],[0,1,2,3,4,5,6,7,8,9,10,11,12,13,14],[0,1,2,3,4,5,6,7,8,9,10,11,12,13,14,15]] mixed Z (Cq (AJ [18] [] Z Z (fun _=>AG (Ak Z Z)) (AJ [4] [] Z Z (fun _=>AG (Ak Z Z)) ?_))))))));refine AJ [19] [] Z Z (fun _=>AG (Ak Z Z)) (AJ [124,125] [2] Z Z (fun _=>AG (Bu (i) Z Z (Z) (hil) Z Tryz.underlying28 BE Z)) (AJ [126] [2] Z Z (fun _=>AG (CA Z Z (hgj) Z Aq Z)) (AJ [18] [] Z Z (fun _=>AG (Ak Z Z)) (AJ [4] [] Z Z (fun _=>AG (Ak Z Z)) (AJ [19] [] Z Z (fun _=>AG (Ak Z Z)) (AJ [129,130] [2] Z Z (fun _=>AG (Bu (i) Z Z (Z) (hil) Z Tryz.underlying28 BE Z)) (AJ [131] [2] Z Z (fun _=>AG (CA Z Z (hgj) Z Aq Z)) (AJ [128,132] [10] Z Z (fun _=>AG (Bu (x) Z Z (Z) (hxc) Z Tryz.underlying29 CZ Z)) ?_))))))));refine AJ [133] [10] Z Z (fun _=>AG (CA Z Z (JU hxc) Z BH Z)) (AJ [19] [] Z Z (fun _=>AG (Ak Z Z)) (Gv [135] [21] [(136,_)] Z Z (fun _=>Gw (D7 21 B5 Z Z Z Z Z Z Z Z)) (.inr ⟨136,_,Z,Z,Z,Z,Z⟩) Z Z Z Z Z (Gv [134,136] [60,40,21] [(137,_)] Z Z (fun _=>Gw (G0 134 60 40 (hr.at_ x hxc) Z Z (by rw [ψ]) Z Z Z Z Z (Hz (emb:=AN) (FA (fun v=>DM seq seq.length (of v)) i x) [i] Z Z Z Z Z Z Z Z B5 (by show ((FA (fun v=>DM seq seq.length (of v)) i x).length+1)*8≤_;omega) Z Z Z Z))) (.inr ⟨137,_,Z,Z,Z,Z,Z⟩) Z Z Z Z Z (C5 15 Z Z Z (Af 16 Z Z (Eh 137 60 40 hF Z Z Z (by rw [ψ]) (by simp) Z Z Z Z Z Z Z (fun _ _=>rfl) fun b c hb hc=>(J (Bu (x) Z Z (Z) (hxc) Z Tryz.underlying29 CZ Z) (AD ⟨Z,?_⟩))))))));refine Af 17 Z Z (V (Qb Z Z Z Z Z (by rw [Ex];exact hxc) (R0 (h:=some (b,c))) Z CZ) (AD ⟨Z,?_⟩));refine C9 (AE (J (BA Z Z (Ω _ (by omega)) Z) (goMv Z Z (AD ?_))));exact ⟨(i+1,BQ (B6 M (hs x)) b (.row 3 1 c ((FA (fun v=>DM seq seq.length (of v)) i x++ [i]).map AN)),At hs x (some (b,c))),⟨hil,by have:=hr.app hxc hb hc;rw [hst] at this;exact this⟩,by show g.length - (i+1)<g.length - i;omega,A1 hF [2,9,10,40] Z (by rw [hst];rfl) ⟨Z,Z,Z,Z,Z,Z,trivial⟩⟩
    ·refine BF (AC ?_);have hin:i=g.length:=by have:=h111;omega
     subst hin;have hof:rowN g.length (ofT of (fun v=>DM seq seq.length (of v)) g.length)=((List.range g.length).map fun v=>DM seq seq.length (of v)).map AN:=by rw [ωu];exact ωj fun v hv=>Γ AN (θ (Ξ.1 hv))
     rw [hof];refine c7 10 0 40 ((bT cnt (FA (fun v=>DM seq seq.length (of v)) g.length)).map natsD) Z Z Z Z Z (by rw [ψ,T7,Ex]) hr.melt ⟨J3 _ _ _,Zz _⟩ Z (L4 (emb:=AN) 4 2 ((List.range g.length).map fun v=>DM seq seq.length (of v)) Z Z Z (by simp) Z Z Z (AE (goMv Z Z (goMv Z Z (AB Z Z (AB Z Z (AD (A8 ?_))))))));exact ⟨_,[10],_,A6 Z,Z,Z,of,cnt,hso,by unfold conM;rw [hseq],by unfold conM;rw [hseq]⟩
noncomputable def conC (g:List (List Nat)):(Nat ->Nat)×Nat:=Classical.epsilon fun p=>CN g.length (sucs g) p.1 p.2
noncomputable def noC (g:List (List Nat)):Nat ->Nat:=(conC g).1
noncomputable def cntC (g:List (List Nat)):Nat:=(conC g).2
theorem Q0 {g:List (List Nat)} (hg:GB g) {no:Nat ->Nat} {cnt:Nat} (h:CN g.length (sucs g) no cnt):CN g.length (sucs g) (noC g) (cntC g)∧cnt=cntC g∧∀v,v<g.length ->no v=noC g v:=by
 have h2:CN g.length (sucs g) (conC g).1 (conC g).2:=Classical.epsilon_spec (p:=fun p:(Nat ->Nat)×Nat=>CN g.length (sucs g) p.1 p.2) ⟨(no,cnt),h⟩;exact ⟨h2,cn_uniq h h2 fun v hv y hy=>hg.suc hv hy⟩
noncomputable def comC (g:List (List Nat)):List (List Nat):=bT (cntC g) (FA (noC g) g.length)
noncomputable def noL (g:List (List Nat)):List Nat:=(List.range g.length).map (noC g)
theorem US {no no':Nat ->Nat} {n:Nat} (h:∀v,v<n ->no v=no' v):FA no n=FA no' n:=by
 funext c
 unfold FA;exact χp fun v hv=>by rw [h v (Ξ.1 hv)]
theorem TA (g:List (List Nat)) (hg:GT g):AM Tryz.prog 134 [.d (JK g)] [] fun r H'=>r= .tup [.own 10 0 (cntC g),.d (natsD (noL g))]∧H'=[(10,[.rowD 28 1 ((comC g).map natsD)])]:=
 (TC g hg).mono fun r H' ⟨of,cnt,hso,hr,hH⟩=>by
  obtain ⟨_,e2,e3⟩:=Q0 hg.gb (Um hg hso);have ho:=US e3;have hl:(List.range g.length).map (fun v=>conM g of cnt (of v))=noL g:=ωj fun v hv=>e3 v (Ξ.1 hv);rw [hr,hH,ho,hl,e2];exact ⟨Z,Z⟩
def toI (g:List (List Nat)):List (List Int):=g.map (List.map Int.ofNat)
theorem toI_gr (g:List (List Nat)):grI (toI g)=JK g:=by
 unfold toI;show D.sl none ((g.map (List.map Int.ofNat)).map SX)=D.sl none (g.map natsD);rw [ωu]
 congr 1
 exact ωj fun l _=>by
  show D.sl none ((l.map Int.ofNat).map AF)=_;rw [ωu];rfl
theorem JM (g:List (List Nat)):(toI g).length=g.length:=by simp [toI]
theorem VK (g:List (List Nat)):∀i,i≤g.length ->KV (toI g) i=HT g i
 | 0,_=>rfl
 | i+1,hi=>by
  have ih:=VK g i (by omega);rw [KU (by rw [JM];omega),ih];unfold HT;rw [ψj,ωc,χa,φd,List.sum_singleton,DT (by omega)]
  simp [toI]
theorem chk_ok {g:List (List Nat)} (hg:GT g):TN (toI g)=0:=by
 have hn:=hg.gb.n;have ht:=hg.tot;refine (chk0 (by rw [JM];omega) (by rw [JM,VK g _ (ν _)];omega) ?_).symm;rintro ⟨l,hl,x,hx,hb⟩;obtain ⟨m,hm,rfl⟩:=ϱ.1 hl;obtain ⟨y,hy,rfl⟩:=ϱ.1 hx;have:=hg.gb.lt m hm y hy;rw [JM] at hb;exact hb ⟨Int.natCast_nonneg _,Int.ofNat_lt.2 this⟩
theorem row_tot {g:List (List Nat)} {l:List Nat} (h:l∈g):l.length≤HT g g.length:=by
 obtain ⟨i,hi,rfl⟩:=χb.1 h
 have h1:HT g (i+1)=HT g i+g[i].length:=by
  unfold HT;rw [ψj,ωc,χa,φd,List.sum_singleton,DT hi]
 have:=O2 g (i:=i+1) (j:=g.length) (by omega);omega
theorem check_n (g:List (List Nat)) (hg:GT g):AO Tryz.prog 133 [.d (JK g)] (AF 0):=by
 have hn:=hg.gb.n;have ht:=hg.tot
 have h:=cN (toI g) (by rw [JM];omega) fun l hl=>by
  obtain ⟨m,hm,rfl⟩:=ϱ.1 hl;rw [ψ];have:=row_tot hm;omega
 rw [toI_gr,chk_ok hg] at h;exact h
theorem Q1 (g:List (List Nat)) (hg:GT g):AM Tryz.prog 80 [.d (JK g)] [] fun r H'=>r= .tup [.own 10 0 (cntC g),.d (AF 0)]∧H'=[(10,[.rowD 28 1 ((comC g).map natsD)])]:=by
 refine BB Tryz.func80 Z Z Tryz.ntmps80 Z Z Z fun F hF=>?_;refine AC (AE (AB Z Z (AB Z Z (AD (AC (AC (AE (goMv Z Z ?_))))))));refine J (B2 (check_n g hg) Z Z) (AB Z Z (AD (AC (AE (goMv Z Z (J (D6 Z Z Z) (AD (D9 Z (ωp (by decide)) ?_))))))));refine A3 (AC (AE (goMv Z Z (V (E1 (TA g hg) Z [10] ⟨Z,trivial⟩ Z Z Z Z Z Z Z Z Z) (goMv Z Z (J (Ct Z Z Z) (J (Ct Z Z Z) (AB Z Z ?_))))))));refine AB Z Z (AD (AC (AE (goMv Z Z (AB Z Z (AB Z Z (AD (A8 ?_))))))));exact ⟨_,[10],_,A6 Z,Z,Z,Z,Z⟩
theorem Z9 (suc:Nat ->List Nat) (v:Nat):∃y,(Rh suc v y∧Rh suc y v)∧∀z,Rh suc v z∧Rh suc z v ->y≤z:=exmin (fun u=>Rh suc v u∧Rh suc u v) v v ⟨.refl v,.refl v⟩ (ν _)
noncomputable def repF (suc:Nat ->List Nat) (v:Nat):Nat:=Classical.choose (Z9 suc v)
theorem GD (suc:Nat ->List Nat) (v:Nat):(Rh suc v (repF suc v)∧Rh suc (repF suc v) v)∧∀z,Rh suc v z∧Rh suc z v ->repF suc v≤z:=Classical.choose_spec (Z9 suc v)
theorem V6 {suc:Nat ->List Nat} {i j:Nat}:repF suc i=repF suc j↔Rh suc i j∧Rh suc j i:=by
 obtain ⟨h1,h2⟩:=GD suc i;obtain ⟨h3,h4⟩:=GD suc j
 constructor
 ·intro e;rw [←e] at h3;exact ⟨h1.1.trans h3.2,h3.1.trans h1.2⟩
 ·intro h;exact Nat.le_antisymm (h2 _ ⟨h.1.trans h3.1,h3.2.trans h.2⟩) (h4 _ ⟨h.2.trans h1.1,h1.2.trans h.1⟩)
theorem ZV (n:Nat) (suc:Nat ->List Nat):∃of cnt,SccOf n suc of cnt:=by
 let reps:=(List.range n).filter fun v=>decide (repF suc v=v)
 have hnd:reps.Nodup:=List.nodup_range.filter _;have hle:∀v,repF suc v≤v:=fun v=>(GD suc v).2 v ⟨.refl v,.refl v⟩;have hid:∀v,repF suc (repF suc v)=repF suc v:=fun v=>V6.2 ⟨(GD suc v).1.2,(GD suc v).1.1⟩;have hm:∀v,v<n ->repF suc v∈reps:=fun v hv=>ωb.2 ⟨Ξ.2 (Nat.lt_of_le_of_lt (hle v) hv),ωi (hid v)⟩;refine ⟨fun v=>reps.idxOf (repF suc v),reps.length,⟨fun v hv=>ψp (hm v hv),fun i j hi hj=>?_,fun c hc=>?_,?_⟩⟩
 ·rw [←V6]
  constructor
  ·intro e;have e1:=φe (ψp (hm i hi));have e2:=φe (ψp (hm j hj));rw [←e1,←e2];simp only [e]
  ·intro e;show reps.idxOf (repF suc i)=reps.idxOf (repF suc j);rw [e]
 ·obtain ⟨h1,h2⟩:=ωb.1 (κ hc);refine ⟨reps[c],Ξ.1 h1,?_⟩;show reps.idxOf (repF suc reps[c])=c;rw [ψk h2];exact hnd.idxOf_getElem c hc
 ·have:=ωh (fun v=>decide (repF suc v=v)) (List.range n);rw [ωg] at this;exact this
theorem cD (g:List (List Nat)) (hg:GT g):CN g.length (sucs g) (noC g) (cntC g):=by
 obtain ⟨of,cnt,h⟩:=ZV g.length (sucs g);exact (Q0 hg.gb (Um hg h)).1
end Go.Proofs.YteifpcnphnhaoaaGreat
namespace Go.Proofs.YteifpcnphnhaoaaGreat
open Go.RowKit Go.Shelf
set_option maxRecDepth 100000
def H9 (g:List (List Nat)) (i j:Nat):Prop:=Rh (sucs g) i j∧Rh (sucs g) j i
theorem PB (g:List (List Nat)) (i:Nat):H9 g i i:=⟨.refl i,.refl i⟩
theorem PA {g:List (List Nat)} {i j:Nat} (h:H9 g i j):H9 g j i:=⟨h.2,h.1⟩
theorem FE {g:List (List Nat)} {i j k:Nat} (h:H9 g i j) (h':H9 g j k):H9 g i k:=⟨h.1.trans h'.1,h'.2.trans h.2⟩
noncomputable def clsM (g:List (List Nat)) (i:Nat):List Nat:=(List.range g.length).filter fun j=>dec (H9 g i j)
noncomputable def fstM (g:List (List Nat)):List Nat:=(List.range g.length).filter fun i=>dec (∀j,j<i ->¬H9 g i j)
noncomputable def cirG (g:List (List Nat)):List (List Nat):=lgs ((fstM g).map (clsM g))
theorem FK {g:List (List Nat)} {i j:Nat}:j∈clsM g i↔j<g.length∧H9 g i j:=by
 unfold clsM;rw [ωb,Ξ,E8]
theorem NQ {g:List (List Nat)} {i:Nat}:i∈fstM g↔i<g.length∧∀j,j<i ->¬H9 g i j:=by
 unfold fstM;rw [ωb,Ξ,E8]
theorem clsM_eq {g:List (List Nat)} {i j:Nat} (h:H9 g i j):clsM g i=clsM g j:=by
 unfold clsM;exact χp fun k _=>by rw [φp,E8,E8];exact ⟨fun x=>FE (PA h) x,fun x=>FE h x⟩
theorem Hs (g:List (List Nat)) (i:Nat):(clsM g i).Pairwise (· < ·):=List.Pairwise.sublist ψu List.pairwise_lt_range
theorem Sc (g:List (List Nat)):(fstM g).Pairwise (· < ·):=List.Pairwise.sublist ψu List.pairwise_lt_range
theorem MJ {g:List (List Nat)} {i:Nat} (h:i∈fstM g):hdi (clsM g i)=(i:Int):=by
 obtain ⟨h1,h2⟩:=NQ.1 h;have hi:i∈clsM g i:=FK.2 ⟨h1,PB g i⟩;have hs:=Hs g i;unfold hdi
 cases hc:clsM g i with
 | nil=>rw [hc] at hi;cases hi
 | cons a t=>
  rw [hc] at hi hs;show ((a:Nat):Int)=_;have ha:a∈clsM g i:=by rw [hc];exact ωo
  rcases Ψ.1 hi with e | e
  ·rw [e]
  ·have:=List.rel_of_pairwise_cons hs e;exact absurd (FK.1 ha).2 (h2 a this)
theorem fstM_ex {g:List (List Nat)} (i:Nat) (hi:i<g.length):∃k,k∈fstM g∧H9 g i k:=by
 induction i using Nat.strongRecOn with
 | ind i ih=>
  by_cases h:∀j,j<i ->¬H9 g i j
  ·exact ⟨i,NQ.2 ⟨hi,h⟩,PB g i⟩
  ·obtain ⟨j,hj⟩:=Classical.not_forall.1 h;obtain ⟨hji,hm⟩:=Classical.not_imp.1 hj;have hm:=χv.1 hm;obtain ⟨k,hk,hm2⟩:=ih j hji (by omega);exact ⟨k,hk,FE hm hm2⟩
theorem Rl {g:List (List Nat)} (hg:GT g) {v:Nat} (hv:v<g.length):FA (noC g) g.length (noC g v)=clsM g v:=by
 have hc:=cD g hg;unfold FA clsM
 exact χp fun w hw=>by
  rw [φp,decide_eq_true_iff,E8];rw [eq_comm];exact hc.scc v w hv (Ξ.1 hw)
theorem F9 {l:List (List Nat)} {x:List Nat}:x∈lgs l↔x∈l∧2≤x.length:=by
 unfold lgs Gp;rw [ωb];simp
theorem TE {g:List (List Nat)} (hg:GT g) {x:List Nat}:x∈comC g↔∃i,i∈fstM g∧x=clsM g i:=by
 have hc:=cD g hg;unfold comC bT;rw [ϱ]
 constructor
 ·rintro ⟨c,h1,rfl⟩;obtain ⟨v,hv,rfl⟩:=hc.use c (Ξ.1 h1);obtain ⟨k,hk,hm⟩:=fstM_ex v hv;exact ⟨k,hk,by rw [Rl hg hv,clsM_eq hm]⟩
 ·rintro ⟨i,hi,rfl⟩;have hil:=(NQ.1 hi).1;exact ⟨noC g i,Ξ.2 (hc.lt i hil),Rl hg hil⟩
theorem Nc {g:List (List Nat)} (hg:GT g):(comC g).Nodup:=by
 have hc:=cD g hg;unfold comC bT;rw [List.Nodup,ψe];refine χt (R:=fun a b=>a<b) (fun {a b} ha hb hab e=>?_) List.pairwise_lt_range;obtain ⟨v,hv,rfl⟩:=hc.use a (Ξ.1 ha);have h1:v∈FA (noC g) g.length (noC g v):=by unfold FA;rw [ωb];exact ⟨Ξ.2 hv,by simp⟩
 rw [e] at h1;unfold FA at h1;rw [ωb] at h1;have:=ψk h1.2;omega
theorem TJ {g:List (List Nat)} (hg:GT g) {x:List Nat}:x∈cirG g↔x∈lgs (comC g):=by
 unfold cirG;rw [F9,F9,TE hg,ϱ];exact ⟨fun ⟨⟨i,h1,h2⟩,h3⟩=>⟨⟨i,h1,h2.symm⟩,h3⟩,fun ⟨⟨i,h1,h2⟩,h3⟩=>⟨⟨i,h1,h2.symm⟩,h3⟩⟩
theorem LZ (g:List (List Nat)):(cirG g).Pairwise fun a b=>hdi a<hdi b:=by
 unfold cirG lgs;refine List.Pairwise.sublist ψu ?_;rw [ψe];refine χt (R:=fun a b=>a<b) (fun {a b} ha hb hab=>?_) (Sc g);rw [MJ ha,MJ hb];omega
theorem cL {g:List (List Nat)} {x y:List Nat} (hx:x∈cirG g) (hy:y∈cirG g) (h:hdi x=hdi y):x=y:=by
 unfold cirG at hx hy;obtain ⟨i,hi,rfl⟩:=ϱ.1 (F9.1 hx).1;obtain ⟨j,hj,rfl⟩:=ϱ.1 (F9.1 hy).1;rw [MJ hi,MJ hj] at h;rw [Int.ofNat_inj.1 h]
theorem TL {g:List (List Nat)} (hg:GT g) (ys:List (List Nat)) (h1:ys.Perm (lgs (comC g))) (h2:ys.Pairwise fun a b=>¬hdi b - hdi a<0):ys=cirG g:=by
 have hn:ys.Nodup:=h1.nodup_iff.2 (List.Nodup.sublist ψu (Nc hg));have hm:∀x,x∈ys↔x∈cirG g:=fun x=>by rw [h1.mem_iff,TJ hg]
 refine Cv (R:=fun a b=>hdi a<hdi b) (fun x h=>by omega) (fun x y z h h'=>by omega) ?_ (LZ g) hm;refine χt (fun {a b} ha hb hab=>?_) (List.Pairwise.and h2 hn);have h3:hdi a≠hdi b:=fun e=>hab.2 (cL ((hm a).1 ha) ((hm b).1 hb) e);have:=hab.1;omega
theorem cir_swo:Go.Sort.SWO (ltOf fun a b:List Nat=>hdi a - hdi b):=by
 refine ⟨fun x=>?_,fun x y z h h'=>?_,fun x y z h h'=>?_⟩
 ·simp [ltOf]
 ·simp only [ltOf,decide_eq_true_iff] at*;omega
 ·simp only [ltOf,decide_eq_false_iff_not] at*;omega
theorem AM.fnArgA {P:Program} {f g:FuncId} {x:AV} {H:Hp} {R:AV ->Hp ->Prop} (h:AM P f [x,.d (.fn g [] [])] H R):AM P f [x,.d (.raw (.func (.func g) #[] #[]))] H R:=
 ⟨h.1,fun F ρ vs h1 h2 h2' h3 h4 h5=>h.2 F ρ vs h1 h2 h2' h3 h4 fun i a v ha hv=>by
  rcases i with _ | _ | i
  ·exact h5 0 _ v ha hv
  ·have e:a= .d (.fn g [] []):=by simpa using ha.symm
   subst e;have:=h5 1 _ v Z hv
   cases this with
   | d hd=>
    cases hd with
    | raw _=>exact .d (.fn (us:=[]) (vs:=[]) Z Z (fun i c v hc=>by simp at hc) fun i c v hc=>by simp at hc)
  ·simp at ha⟩
theorem Ib.l {M N:MF} {b:Nat} {l:List Int} (h:Ib M b l):Ib (munion M N) b l:=by
 obtain ⟨m,h1,h2⟩:=h;exact ⟨m,Hb h1,Hb h2⟩
theorem Ib.r {M N:MF} {b:Nat} {l:List Int} (hd:∀i m m',M i=some m ->N i=some m' ->False) (h:Ib N b l):Ib (munion M N) b l:=by
 obtain ⟨m,h1,h2⟩:=h
 have hn:∀{i m'},N i=some m' ->M i=none:=fun {i m'} h=>by
  cases e:M i with
  | none=>rfl
  | some x=>exact (hd i _ _ e h).elim
 exact ⟨m,Ha (hn h1) h1,Ha (hn h2) h2⟩
theorem Ib.put {N:MF} {b b':Nat} {l:List Int} {o:Ad} (h:Ib N b l) (h0:N b'=none):Ib (BQ N b' o) b l:=by
 obtain ⟨m,h1,h2⟩:=h;exact ⟨m,by rw [FR (fun e=>by rw [e,h0] at h1;cases h1)];exact h1,by rw [FR (fun e=>by rw [e,h0] at h2;cases h2)];exact h2⟩
abbrev C1F:FuncId:=79
def inC (L G:List Int) (id:Int):Bool:=decide (id∈L) && !decide (id∈G)
theorem circ1_c {N:MF} {b7 b8 bl bg:Nat} {L G:List Int} (hc7:N b7=some (.cells 124 [Wj bl])) (hc8:N b8=some (.cells 124 [Wj bg])) (hL:Ib N bl L) (hG:Ib N bg G) (id:Int):
  AM Tryz.prog C1F [.d (AF id),.d (pD b7 0),.d (pD b8 0)] [(41,[.multi N])] fun r H'=>r= .d (Ai (inC L G id))∧H'=[(41,[.multi N])]:=by
 refine BB Tryz.func79 Z Z Tryz.ntmps79 Z Z Z fun F hF=>(AC (AE ?_));refine AB Z Z (AD (AC (AE (J (Dv (f:=41) Z Z hc7 Z on124 Z) (goMv Z Z (V (YZ (IF hL id) Z [41] ⟨Z,trivial⟩ Z Z Z Z Z Z Z Z Z) (goMv Z Z (Ia 8 Z (fun h8=>?_) (fun h8=>?_)))))))))
 ·refine Aj Z Z Z (J (Dv (f:=41) Z Z hc8 Z on124 Z) (Aj Z Z Z ?_));refine goMv Z Z (Aj Z Z Z (V (YZ (IF hG id) Z [41] ⟨Z,trivial⟩ Z Z Z Z Z Z Z Z Z) (Aj Z Z Z (J (Nu Z Z) (J (FO Z Z Z Z) (AB Z Z (AD (A8 ?_))))))));exact ⟨_,[41],_,A6 Z,Z,Z,by {unfold inC;simp [h8]},Z⟩
 ·refine Aa Z Z Z Z (Aa Z Z Z Z (Aa Z Z Z Z (Aa Z Z Z Z (J (Da Z Z Z Z) (AB Z Z (AD (A8 ?_)))))));exact ⟨_,[41],_,A6 Z,Z,Z,by {unfold inC;simp [h8]},Z⟩
theorem grW_gt {rs:List AP} {E:List (AK×Nat)} (h:E.length≤1000):GT (grW rs E):=by
 have hl:∀l∈grW rs E,l.length≤1000∧∀x∈l,x<E.length:=fun l hl=>by
  obtain ⟨e,_,rfl⟩:=ϱ.1 hl;exact ⟨ωe (Pf _ _ _ _) h,Yj⟩
 refine ⟨⟨by rw [Ns];omega,fun l h2=>by have:=(hl l h2).1;omega,fun l h2 x hx=>by rw [Ns];exact (hl l h2).2 x hx⟩,?_⟩
 have key:∀i,i≤(grW rs E).length ->HT (grW rs E) i≤i*1000:=fun i hi=>by
  induction i with
  | zero=>exact ς _
  | succ i ih=>
   have h1:=ih (by omega);have h2:(sucs (grW rs E) i).length≤1000:=by rw [DT (by omega)];exact (hl _ (κ (by omega))).1
   unfold HT at h1⊢;rw [ψj,ωc,χa,φd,List.sum_singleton];omega
 have h3:=key _ (ν _);have h4:(grW rs E).length≤1000:=by rw [Ns];exact h
 have:(grW rs E).length*1000≤1000*1000:=ψc _ h4;omega
noncomputable def entC (p:Prb):List (AK×Nat):=((Ay p.it).filter fun i=>inC (largeS p) (Bp p) i.id).map fun i=>(i,0)
theorem Sm (p:Prb):(entC p).map Prod.fst=(Ay p.it).filter fun i=>inC (largeS p) (Bp p) i.id:=by unfold entC;rw [ωu];exact List.map_id _
noncomputable def cirL (rs:List AP) (E:List (AK×Nat)):List (List Int):=(cirG (grW rs E)).map (idK2 E)
theorem Q5 {g:List (List Nat)} {x:List Nat} (h:x∈cirG g):2≤x.length∧x.length≤g.length∧∀k∈x,k<g.length:=by
 obtain ⟨h1,h2⟩:=F9.1 h;obtain ⟨i,_,rfl⟩:=ϱ.1 h1;exact ⟨h2,by unfold clsM;have:=ωh (fun j=>dec (H9 g i j)) (List.range g.length);rwa [ωg] at this,fun k hk=>(FK.1 hk).1⟩
theorem TK (g:List (List Nat)):(cirG g).length≤g.length:=by
 unfold cirG;refine ωe (ak _) ?_;rw [ψ];unfold fstM;have:=ωh (fun i=>dec (∀j,j<i ->¬H9 g i j)) (List.range g.length)
 rwa [ωg] at this
theorem WY {g:List (List Nat)} (hg:GT g) {x:List Nat} (h:x∈comC g):x.length≤g.length∧∀k∈x,k<g.length:=by
 obtain ⟨i,_,rfl⟩:=(TE hg).1 h;exact ⟨by unfold clsM;have:=ωh (fun j=>dec (H9 g i j)) (List.range g.length);rwa [ωg] at this,fun k hk=>(FK.1 hk).1⟩
theorem cntC_le {g:List (List Nat)} (hg:GT g):cntC g≤g.length:=by
 obtain ⟨of,cnt,h⟩:=ZV g.length (sucs g);have:=(Q0 hg.gb (Um hg h)).2.1;have:=h.le;omega
theorem TF {g:List (List Nat)}:(comC g).length=cntC g:=by unfold comC;rw [T7]
theorem getD0 {l:List Nat} {n:Nat} (h:0<l.length) (hm:∀k∈l,k<n):l.getD 0 0<n:=by
 rw [ϖ,ω h];exact hm _ (κ h)
theorem cK {g:List (List Nat)} (hg:GT g):(cirG g).length=(lgs (comC g)).length:=by
 have h1:(cirG g).Nodup:=by
  refine List.Pairwise.imp (fun {a b} (h:hdi a<hdi b) e=>by rw [e] at h;omega) (LZ g)
 have h2:(lgs (comC g)).Nodup:=List.Nodup.sublist ψu (Nc hg);exact ((List.perm_ext_iff_of_nodup h1 h2).2 fun x=>TJ hg).length_eq
theorem Oh {ros:List A2} {its:List AK}:∀(f:Nat) (on:Nat ->Bool) (x:Int),x∈Lb ros its f on ->∃i,i<its.length∧on i=true∧x=(its.getD i A0).id
 | 0,_,_,h=>by cases h
 | f+1,on,x,h=>by
  cases hn:H7 ros its on with
  | none=>rw [IL hn] at h;cases h
  | some i=>
   rw [IK hn] at h;obtain ⟨h1,h2,_⟩:=Mt hn;rcases Ψ.1 h with e | h
   ·exact ⟨i,h1,h2,e⟩
   ·obtain ⟨j,h3,h4,h5⟩:=Oh f _ x h;refine ⟨j,h3,?_,h5⟩;unfold Ac at h4
    by_cases e:j=i
    ·rw [e];exact h2
    ·simpa [e] using h4
theorem Mb {ros:List A2} {its:List AK} (hi:(its.map AK.id).Nodup):∀(f:Nat) (on:Nat ->Bool),(Lb ros its f on).Nodup
 | 0,_=>List.nodup_nil
 | f+1,on=>by
  cases hn:H7 ros its on with
  | none=>rw [IL hn];exact List.nodup_nil
  | some i=>
   rw [IK hn];obtain ⟨h1,h2,_⟩:=Mt hn;refine φc.2 ⟨fun h=>?_,Mb hi f _⟩;obtain ⟨j,h3,h4,h5⟩:=Oh f _ _ h;have hji:j≠i:=fun e=>by subst e;unfold Ac at h4;simp at h4
   rw [ϖ,ϖ,ω h1,ω h3] at h5;have e:(its.map AK.id)[i]'(by simpa using h1)=(its.map AK.id)[j]'(by simpa using h3):=by rw [ωd,ωd];exact h5
   rw [List.Nodup,ωv] at hi;rcases Nat.lt_trichotomy i j with h6 | h6 | h6
   ·exact hi i j _ _ h6 e
   ·exact hji h6.symm
   ·exact hi j i _ _ h6 e.symm
theorem S7 {p:Prb} (hE:Al p=0):(Bp p).Nodup:=Mb (F6 hE) _ _
theorem PW {p:Prb} (hf:Ed p):(Bp p).length≤30:=by
 have h:=RY (ros:=Co p) (its:=ordP p) (ordP p).length fun _=>true;have h2:=DZ p;have:=hf.i;unfold Bp;omega
set_option maxHeartbeats 4000000 in
theorem Xz (p:Prb) (hf:Ed p) (hE:Al p=0):AO Tryz.prog 30 [.d (Bs p)] (.tup [Lz (cirL (rsP p) (entC p)),AF 0]):=by
 have hi30:=hf.i;have hlk:=Iw p hf hE;have hgk:=S6 p hf hE;have hO:ordP p=Ay p.it:=θ hE;have hll:=IS hE;have hgn:(Bp p).Nodup:=S7 hE;have hgl:(Bp p).length≤30:=PW hf;refine BB Tryz.func30 Z Z Tryz.ntmps30 Z Z Z fun F hF=>?_;refine AC (AE (V (Bz 1 Z Z Z Z Z Z Z) (AB Z Z (AB Z Z (AD (AC (AE (J (BM Z Z BW Z Z Z) ?_))))))));refine J (B2 (hlk) Z Z) (goMv Z Z (J (DD Z Z Z) (J (DD Z Z Z) (AB Z Z (AB Z Z (AD (AC (AC ?_))))))));refine AE (goMv Z Z (J (D6 Z Z Z) (AD (D9 Z (ωp (by decide)) (A3 (AC (AE (J (BM Z Z BW Z Z Z) ?_))))))));refine J (B2 (hgk) Z Z) (goMv Z Z (J (DD Z Z Z) (J (DD Z Z Z) (AB Z Z (AB Z Z (AD (AC (AC ?_))))))));refine AE (goMv Z Z (J (D6 Z Z Z) (AD (D9 Z (ωp (by decide)) (A3 (AC (AE (goMv Z Z ?_))))))));refine CP (Ux (Fv (largeS p) (Fb hE) (by omega)) Z [41] ⟨Z,trivial⟩ Z Z Z Z (fun r H' ⟨b,N,e1,e2,_⟩=>by subst e1 e2;exact ⟨Z,Z,Z⟩) Z) Z ?_;rintro _ ⟨r,H',⟨bl,N1,e1,e2,hWl⟩,rfl⟩;subst e1 e2;refine goMv Z Z ?_;refine CP (Ux ((Fv (Bp p) hgn (by omega)).byX [(41,42)] Z) Z [42] ⟨Z,trivial⟩ Z Z Z Z (fun r H' ⟨r0,H0,⟨b,N,e1,e2,_⟩,e3,e4⟩=>by subst e3 e4 e1 e2;exact ⟨Z,Z,Z⟩) Z) Z ?_;rintro _ ⟨r,H',⟨r0,H0,⟨bg,N2,e1,e2,hWg⟩,e3,e4⟩,rfl⟩;subst e3 e4 e1 e2;refine V (CF 7 zl124 Z Z Z Z) (V (CF 8 zl124 Z Z Z Z) (V (Bi Z Z Z Z Z Z Z sz124) (V (Bi Z Z Z Z Z Z Z sz124) (AD (AC (a_merge 42 41 Z Z Z Z Z Z Z Z Z fun hdj=>?_))))));have hWl2:=hWl.l (N:=N2);have hWg2:=Ib.r hdj hWg;refine YT (ds:=[Wj bl]) 7 7 41 hF Z Z Z Z Z Z Z Z Z Z Z (fun _=>rfl) fun b7 hb7=>?_;have hWl3:=hWl2.put (o:= .cells 124 [Wj bl]) hb7;have hWg3:=hWg2.put (o:= .cells 124 [Wj bl]) hb7;refine YT (ds:=[Wj bg]) 8 8 41 hF Z Z Z Z Z Z Z Z Z Z Z (fun _=>rfl) fun b8 hb8=>?_;have hWl4:=hWl3.put (o:= .cells 124 [Wj bg]) hb8;have hWg4:=hWg3.put (o:= .cells 124 [Wj bg]) hb8;have hq7:=E2 (BQ (munion N1 N2) b7 (.cells 124 [Wj bl])) b8 (.cells 124 [Wj bg]);refine AE (J (BM Z Z BW Z Z Z) (J (T6 (ds:=[]) (es:=[pD b7 0,pD b8 0]) Z Z Z Z Z) ?_));refine CP (Ux (Kx p hE hf C1F [pD b7 0,pD b8 0] _ (inC (largeS p) (Bp p)) (circ1_c (by rw [FR (fun e=>by rw [←e,E2] at hb8;cases hb8)];exact E2 _ _ _) hq7 hWl4 hWg4)) Z [41,40] ⟨Z,Z,trivial⟩ Z Z Z Z (fun r H' ⟨E,M,e1,e2,_⟩=>by subst e1 e2;exact ⟨Z,Z,Z⟩) Z) Z ?_;rintro _ ⟨r,H',⟨E,M,e1,e2,hR,hEq⟩,rfl⟩;subst e1 e2;refine AB Z Z (AD (AC ?_));have hEq2:E.map Prod.fst=(entC p).map Prod.fst:=by rw [hEq,hO,Sm]
 have hcg:=PX (rs:=rsP p) (E:=E) (E':=entC p) hEq2;have hn30:E.length≤30:=by have h1:(E.map Prod.fst).length≤(Ay p.it).length:=(by rw [hEq,hO];exact ωh _ _);rw [ψ,YN] at h1;omega
 have haf:∀e∈E,e.1.af.length≤100000:=fun e he=>by have h1:e.1∈E.map Prod.fst:=χj he;rw [hEq,hO] at h1;have:=(hf.x _ ((YV p.it).mem_iff.1 (ωb.1 h1).1)).2.2;omega
 have hgt:GT (grW (rsP p) E):=grW_gt (by omega)
 obtain ⟨g,hgE⟩:∃g,grW (rsP p) E=g:=⟨_,Z⟩
 have hgl2:g.length=E.length:=by rw [←hgE,Ns]
 have hgc:=WM E hR (by omega) haf;rw [hgE] at hgt hgc;refine AE (goMv Z Z (V (E1 hgc Z [40] ⟨Z,trivial⟩ Z Z Z Z Z Z Z Z Z) ?_));refine CP (Ux (Q1 g hgt) Z [10] ⟨Z,trivial⟩ Z Z Z Z (fun r H' ⟨e1,e2⟩=>by subst e1 e2;exact ⟨Z,Z,Z⟩) Z) Z ?_;rintro _ ⟨r,H',⟨e1,e2⟩,rfl⟩;subst e1 e2;refine goMv Z Z (J (Ct Z Z Z) (J (Ct Z Z Z) (AB Z Z (AB Z Z (AD ?_)))));refine AC (AC (AE (goMv Z Z (J (D6 Z Z Z) (AD (D9 Z (ωp (by decide)) (A3 (AC ?_))))))));have hcl:cntC g=(comC g).length:=TF.symm;have hca:∀c∈comC g,c.length≤100000:=fun c hc=>by have:=(WY hgt hc).1;omega
 have hcn30:(comC g).length≤30:=by rw [TF];have:=cntC_le hgt;omega
 rw [hcl]
 obtain ⟨jk,hjk⟩:∃jk,(List.replicate ((comC g).length - (lgs (comC g)).length) none).map eO=jk:=⟨_,Z⟩
 have hdc:=(delC_c (comC g) (by omega) hca).fnArgA;rw [hjk] at hdc;have hcat:∀x∈lgs (comC g),0<x.length∧x.getD 0 0≤100000:=fun x hx=>by have h1:=F9.1 hx;have h2:=(WY hgt h1.1).2;have h3:=getD0 (by omega) h2;exact ⟨by omega,by omega⟩
 refine AE (goMv Z Z (V (E1 hdc Z [10] ⟨Z,trivial⟩ Z Z Z Z Z Z Z Z Z) (AB Z Z (AD (AC (AE ?_))))));refine goMv Z Z (V (ZD laysCi Tryz.func84 Z Z (fun _=>rfl) (fun a b=>hdi a - hdi b) cir_swo (lgs (comC g)) (cirG g) jk (by have:=ak (comC g);omega) (fun x hx y hy=>circ3_p x y (hcat x hx).1 (hcat y hy).1 (hcat x hx).2 (hcat y hy).2) (fun ys g1 g2=>TL hgt ys g1 g2) Z Z Z Kv Z Z Z Z Z) (AD (AC (AE (AB Z Z (AD (AC (AC ?_))))))));have hcl2:(lgs (comC g)).length=(cirG g).length:=(cK hgt).symm;rw [hcl2];have hc30:(cirG g).length≤30:=by have:=TK g;omega
 refine AE (goMv Z Z (J (KO Z Tryz.underlying29 Z) (goMv Z Z (AD (A5 (OD 11 11 M7 Z Z Z Z (B7 (α:=Nat×List (List Int)) (fun q=>⟨64,[(9,(.d (.sl none (E.map Cf)))),(11,(.own 11 0 q.2.length)),(50,(.own 10 0 (cirG g).length)),(51,(.d (AF ((cirG g).length:Int)))),(52,(.d (AF (q.1:Int))))],[(11,[.rowD 28 1 (q.2.map Hh)]),(10,[.rowD 28 1 ((cirG g).map natsD++jk)])]⟩) (fun q=>q.1≤(cirG g).length∧q.2=((cirG g).take q.1).map (idK2 E)) (fun q=>(cirG g).length - q.1) ((0,[])) (⟨ς _,Z⟩) (A1 hF [11,10] Z Z ⟨Z,Z,Z,Z,Z,trivial⟩) ?_)))))));rintro ⟨k,T⟩ ⟨hk,hT⟩;dsimp only at hk hT⊢;refine AC (AE (J (BR Z Z Z) (AD (AC (Ae Z (fun h53=>?_) (fun h53=>?_))))))
 ·refine A3 (AC (A5 (AC ?_)));have hkl:k<(cirG g).length:=Bf h53;obtain ⟨hx2,hxl,hxm⟩:=Q5 (κ hkl);have hTl:T.length≤30:=by rw [hT,ψ,Υ];omega
  refine AE (J (Bu (k) Z Z (Z) (hkl) Z Tryz.underlying29 CZ Z) (J (CA Z Z ((show ((cirG g).map natsD++jk)[k]? =some (natsD (cirG g)[k]) from by rw [ψb (by rw [ψ];exact hkl)];exact Ah hkl)) Z BH Z) ?_));refine AB Z Z (AD (AE (goMv Z Z (goMv Z Z (goMv Z Z ?_)))));refine J (B2 (ids_p E (cirG g)[k] (fun x hx=>by have:=hxm x hx;omega) (by omega)) Z Z) (V (D7 30 M7 Z Z Z Z Z Z Z Z) (V (Hz (T) ([idK2 E (cirG g)[k]]) Z Z Z Z Z Z Z Z M7 (by simp only [Φ];omega) Z Z Z Z) (AB Z Z (AD (AE (J (BA Z Z (AT (k+1) (by omega)) Z) (goMv Z Z (AD ?_))))))));exact ⟨(k+1,T++ [idK2 E (cirG g)[k]]),⟨hkl,by show _=((cirG g).take (k+1)).map _;rw [φ hkl,ωc,hT];rfl⟩,by show (cirG g).length - (k+1)<(cirG g).length - k;omega,A1 hF [11,10] Z (Z) ⟨Z,Z,Z,Z,Z,trivial⟩⟩
 ·refine BF (AC ?_);have hke:k=(cirG g).length:=by have:=h53;omega
  refine L4 (emb:=Hh) 11 11 T Z Z Z Z Z Z Z ?_;rw [show T=cirL (rsP p) (entC p) by rw [hT,hke,ωs,←hgE];unfold cirL;rw [hcg.1,hcg.2.1]];refine AE (goMv Z Z (AB Z Z (AB Z Z (AD (A8 ?_)))));exact ⟨_,[],[],A6 Z,Z,Z,Z,Z⟩
abbrev Mh (p:Prb):List D:=[.sl none (p.ro.map Cy),.sl none (p.it.map As)]
theorem cT {p:Prb} {M:MF} {b1 b4 b5:Nat} {cs:List D} {e x:Int} {v:D} (hc1:M b1=some (.cells 39 (Mh p))) (hc4:M b4=some (.cells 32 cs)) (hcl:cs.length=5) (hc5:M b5=some (.cells 33 [AF e])) (h45:b5≠b4) (hv:v.one=true) (hr:AO Tryz.prog 39 [.d (Bs p)] (.tup [v,AF x])):
  AM Tryz.prog 41 [.d (pD b1 0),.d (pD b4 0),.d (pD b5 0)] [(41,[.multi M])] fun r H'=>r= .tup []∧H'=[(41,[.multi (BQ (BQ M b4 (.cells 32 (cs.set 0 v))) b5 (.cells 33 [AF x]))])]:=by
 refine BB Tryz.func41 Z Z Tryz.ntmps41 Z Z Z fun F hF=>(AE ?_);refine J (DH (f:=41) (n:=2) Z Z hc1 BW Z Z (fun c hc=>by rcases Ψ.1 hc with rfl | hc;rfl;rcases Ψ.1 hc with rfl | hc;rfl;cases hc) Z) (J (B2 (hr) Z Z) (goMv Z Z (J (DD Z Z Z) (J (DD Z Z Z) (J (CS Z fi32_0 Z Z Z) (V (OX (f:=41) (off:=0) Z Z hv Z hc4 (by omega) Z CZ) (V (OX (f:=41) (off:=0) Z Z Z Z (by rw [FR h45];exact hc5) (by simp) Z Ys) (AD ?_))))))));exact ⟨_,[41],_,A6 Z,Z,Z,Z,Z⟩
theorem ana2_c {p:Prb} {M:MF} {b1 b4 b5:Nat} {cs:List D} {e x:Int} {v:D} (hc1:M b1=some (.cells 39 (Mh p))) (hc4:M b4=some (.cells 32 cs)) (hcl:cs.length=5) (hc5:M b5=some (.cells 33 [AF e])) (h45:b5≠b4) (hv:v.one=true) (hr:AO Tryz.prog 43 [.d (Bs p)] (.tup [v,AF x])):
  AM Tryz.prog 42 [.d (pD b1 0),.d (pD b4 0),.d (pD b5 0)] [(41,[.multi M])] fun r H'=>r= .tup []∧H'=[(41,[.multi (BQ (BQ M b4 (.cells 32 (cs.set 1 v))) b5 (.cells 33 [AF x]))])]:=by
 refine BB Tryz.func42 Z Z Tryz.ntmps42 Z Z Z fun F hF=>(AE ?_);refine J (DH (f:=41) (n:=2) Z Z hc1 BW Z Z (fun c hc=>by rcases Ψ.1 hc with rfl | hc;rfl;rcases Ψ.1 hc with rfl | hc;rfl;cases hc) Z) (J (B2 (hr) Z Z) (goMv Z Z (J (DD Z Z Z) (J (DD Z Z Z) (J (CS Z fi32_1 Z Z Z) (V (OX (f:=41) (off:=1) Z Z hv Z hc4 (by omega) Z CZ) (V (OX (f:=41) (off:=0) Z Z Z Z (by rw [FR h45];exact hc5) (by simp) Z Ys) (AD ?_))))))));exact ⟨_,[41],_,A6 Z,Z,Z,Z,Z⟩
theorem ana3_c {p:Prb} {M:MF} {b1 b4 b5:Nat} {cs:List D} {e x:Int} {v:D} {v0:D} (hc1:M b1=some (.cells 39 (Mh p))) (hc4:M b4=some (.cells 32 cs)) (hcl:cs.length=5) (hv0:cs[0]? =some v0) (hc5:M b5=some (.cells 33 [AF e])) (h45:b5≠b4) (hv:v.one=true) (hr:AO Tryz.prog 23 [.d (Bs p),.d v0] (.tup [v,AF x])):
  AM Tryz.prog 44 [.d (pD b1 0),.d (pD b4 0),.d (pD b5 0)] [(41,[.multi M])] fun r H'=>r= .tup []∧H'=[(41,[.multi (BQ (BQ M b4 (.cells 32 (cs.set 2 v))) b5 (.cells 33 [AF x]))])]:=by
 refine BB Tryz.func44 Z Z Tryz.ntmps44 Z Z Z fun F hF=>(AE (J (DH (f:=41) (n:=2) Z Z hc1 BW Z Z (fun c hc=>by rcases Ψ.1 hc with rfl | hc;rfl;rcases Ψ.1 hc with rfl | hc;rfl;cases hc) Z) (J (CS Z fi32_0 Z Z Z) ?_)));refine J (Dv (f:=41) Z Z hc4 hv0 BH Z) (J (B2 (hr) Z Z) (goMv Z Z (J (DD Z Z Z) (J (DD Z Z Z) (J (CS Z bW Z Z Z) (V (OX (f:=41) (off:=2) Z Z hv Z hc4 (by omega) Z sz29) (V (OX (f:=41) (off:=0) Z Z Z Z (by rw [FR h45];exact hc5) (by simp) Z Ys) (AD ?_))))))));exact ⟨_,[41],_,A6 Z,Z,Z,Z,Z⟩
theorem ana4_c {p:Prb} {M:MF} {b1 b4 b5:Nat} {cs:List D} {e x:Int} {v:D} (hc1:M b1=some (.cells 39 (Mh p))) (hc4:M b4=some (.cells 32 cs)) (hcl:cs.length=5) (hc5:M b5=some (.cells 33 [AF e])) (h45:b5≠b4) (hv:v.one=true) (hr:AO Tryz.prog 30 [.d (Bs p)] (.tup [v,AF x])):
  AM Tryz.prog 45 [.d (pD b1 0),.d (pD b4 0),.d (pD b5 0)] [(41,[.multi M])] fun r H'=>r= .tup []∧H'=[(41,[.multi (BQ (BQ M b4 (.cells 32 (cs.set 3 v))) b5 (.cells 33 [AF x]))])]:=by
 refine BB Tryz.func45 Z Z Tryz.ntmps45 Z Z Z fun F hF=>(AE ?_);refine J (DH (f:=41) (n:=2) Z Z hc1 BW Z Z (fun c hc=>by rcases Ψ.1 hc with rfl | hc;rfl;rcases Ψ.1 hc with rfl | hc;rfl;cases hc) Z) (J (B2 (hr) Z Z) (goMv Z Z (J (DD Z Z Z) (J (DD Z Z Z) (J (CS Z fi32_3 Z Z Z) (V (OX (f:=41) (off:=3) Z Z hv Z hc4 (by omega) Z sz29) (V (OX (f:=41) (off:=0) Z Z Z Z (by rw [FR h45];exact hc5) (by simp) Z Ys) (AD ?_))))))));exact ⟨_,[41],_,A6 Z,Z,Z,Z,Z⟩
theorem ana5_c {p:Prb} {M:MF} {b1 b4 b5:Nat} {cs:List D} {e x:Int} {v:D} (hc1:M b1=some (.cells 39 (Mh p))) (hc4:M b4=some (.cells 32 cs)) (hcl:cs.length=5) (hc5:M b5=some (.cells 33 [AF e])) (h45:b5≠b4) (hv:v.one=true) (hr:AO Tryz.prog 31 [.d (Bs p)] (.tup [v,AF x])):
  AM Tryz.prog 46 [.d (pD b1 0),.d (pD b4 0),.d (pD b5 0)] [(41,[.multi M])] fun r H'=>r= .tup []∧H'=[(41,[.multi (BQ (BQ M b4 (.cells 32 (cs.set 4 v))) b5 (.cells 33 [AF x]))])]:=by
 refine BB Tryz.func46 Z Z Tryz.ntmps46 Z Z Z fun F hF=>(AE ?_);refine J (DH (f:=41) (n:=2) Z Z hc1 BW Z Z (fun c hc=>by rcases Ψ.1 hc with rfl | hc;rfl;rcases Ψ.1 hc with rfl | hc;rfl;cases hc) Z) (J (B2 (hr) Z Z) (goMv Z Z (J (DD Z Z Z) (J (DD Z Z Z) (J (CS Z fi32_4 Z Z Z) (V (OX (f:=41) (off:=4) Z Z hv Z hc4 (by omega) Z sz30) (V (OX (f:=41) (off:=0) Z Z Z Z (by rw [FR h45];exact hc5) (by simp) Z Ys) (AD ?_))))))));exact ⟨_,[41],_,A6 Z,Z,Z,Z,Z⟩
abbrev CI:D:= .sl (some true) []
def anF:List FuncId:=[41,42,44,45,46]
def anD (b1 b4 b5:Nat) (g:FuncId):D:= .fn g [] [pD b1 0,pD b4 0,pD b5 0]
noncomputable def repV (p:Prb):List D:=[Hh (largeS p),Hh (Bp p),Lz (compL (rsP p) (Lg p (largeS p))),Lz (cirL (rsP p) (entC p)),.sl none ((bksL p).map bkD)]
noncomputable def repC (p:Prb) (k:Nat):List D:=(repV p).take k++List.replicate (5 - k) CI
theorem an_c {p:Prb} (hf:Ed p) (hE:Al p=0) {M:MF} {b1 b4 b5:Nat} {k:Nat} (hk:k<anF.length) (hc1:M b1=some (.cells 39 (Mh p))) (hc4:M b4=some (.cells 32 (repC p k))) (hc5:M b5=some (.cells 33 [AF 0])) (h45:b5≠b4):
  AM Tryz.prog anF[k] [.d (pD b1 0),.d (pD b4 0),.d (pD b5 0)] [(41,[.multi M])] fun r H'=>r= .tup []∧H'=[(41,[.multi (BQ (BQ M b4 (.cells 32 (repC p (k+1)))) b5 (.cells 33 [AF 0]))])]:=by
 have hlm:∀x∈largeS p,x∈p.it.map AK.id:=fun x hx=>Xc hE hx;have hln:=Fb hE;have hll:=IS hE;have hi:=hf.i
 match k,hk with
 | 0,_=>exact cT hc1 hc4 Z hc5 h45 Z (Iw p hf hE)
 | 1,_=>exact ana2_c hc1 hc4 Z hc5 h45 Z (S6 p hf hE)
 | 2,_=>exact ana3_c hc1 hc4 Z Z hc5 h45 Z (comp_p p (largeS p) hf (by omega) (Q6 hE hln hlm) hE hln)
 | 3,_=>exact ana4_c hc1 hc4 Z hc5 h45 Z (Xz p hf hE)
 | 4,_=>exact ana5_c hc1 hc4 Z hc5 h45 Z (YF p hf hE)
set_option maxHeartbeats 4000000 in
theorem Q9 (p:Prb) (hf:Ed p) (hE:Al p≠0):AO Tryz.prog 12 [.d (Bs p)] (.tup [.agg [CI,CI,CI,CI,CI],AF (Al p)]):=by
 refine BB Tryz.func12 Z Z Tryz.ntmps12 Z Z Z fun F hF=>(AC (AE ?_));refine V (Bz 1 Z Z Z Z Z Z Z) (V (CF 2 Qo Z Z Z Z) (AB Z Z (AD (AC (AE (V (CF 4 Qo Z Z Z Z) (AD (AC ?_))))))));refine AE (V (CF 5 zl33 Z Z Z Z) (AD (AC (AC (Fi 41 Z Z Z (YT (ds:=Mh p) 1 1 41 hF Z Z Z Z Z Z Z Z Z Z Z (fun _=>rfl) fun b1 hb1=>(YT (ds:=[CI,CI,CI,CI,CI]) 4 4 41 hF Z Z Z Z Z Z Z Z Z Z Z (fun _=>rfl) fun b4 hb4=>(YT (ds:=[AF 0]) 5 5 41 hF Z Z Z Z Z Z Z Z Z Z Z (fun _=>rfl) fun b5 hb5=>?_))))))));have h41:b4≠b1:=fun e=>by rw [e,E2] at hb4;cases hb4
 have h54:b5≠b4:=fun e=>by rw [e,E2] at hb5;cases hb5
 have h51:b5≠b1:=fun e=>by rw [e,FR (Ne.symm h41),E2] at hb5;cases hb5
 refine AE (J (T6 (ds:=[]) (es:=[pD b1 0,pD b4 0,pD b5 0]) Z Z Z Z Z) (J (T6 (ds:=[]) (es:=[pD b1 0,pD b4 0,pD b5 0]) Z Z Z Z Z) ?_));refine J (T6 (ds:=[]) (es:=[pD b1 0,pD b4 0,pD b5 0]) Z Z Z Z Z) (J (T6 (ds:=[]) (es:=[pD b1 0,pD b4 0,pD b5 0]) Z Z Z Z Z) (J (T6 (ds:=[]) (es:=[pD b1 0,pD b4 0,pD b5 0]) Z Z Z Z Z) (V (D7 20 sl94 Z Z Z Z Z Z Z Z) (J (KO Z Tryz.underlying94 Z) (goMv Z Z (AD (A5 (B7 (α:=Nat×MF) (fun q=>⟨27,[(2,(.ptr 2 0 0)),(4,(.d (pD b4 0))),(5,(.d (pD b5 0))),(13,(.own 20 0 5)),(14,(.d (AF 5))),(15,(.d (AF (q.1:Int))))],[(20,[.rowD 1 1 (anF.map (anD b1 b4 b5))]),(2,[.blk 32 [.d CI,.d CI,.d CI,.d CI,.d CI]]),(41,[.multi q.2])]⟩) (fun q=>q.1=0∧q.2 b1=some (.cells 39 (Mh p))∧q.2 b4=some (.cells 32 [CI,CI,CI,CI,CI])∧q.2 b5=some (.cells 33 [AF 0])) (fun q=>5 - q.1) ((0,_)) (⟨Z,by show BQ _ _ _ _=_;rw [FR (Ne.symm h51),FR (Ne.symm h41)];exact E2 _ _ _,by show BQ _ _ _ _=_;rw [FR (Ne.symm h54)];exact E2 _ _ _,E2 _ _ _⟩) (A1 hF [20,2,41] Z Z ⟨Z,Z,Z,Z,Z,Z,trivial⟩) ?_))))))));rintro ⟨k,M⟩ ⟨hk,hc1,hc4,hc5⟩;dsimp only at hk hc1 hc4 hc5⊢;subst hk;refine AC ?_;refine AE (J (BR Z Z Z) (AD (AC (DP Z (Z) (A3 (AC (A5 (AC ?_))))))));have hka:0<anF.length:=by decide
 have hM5:BQ (BQ M b4 (.cells 32 ([CI,CI,CI,CI,CI].set 0 CI))) b5 (.cells 33 [AF (Al p)]) b5=some (.cells 33 [AF (Al p)]):=E2 _ _ _;have hac:AM Tryz.prog anF[0] _ _ _:=cT hc1 hc4 Z hc5 h54 Z (SN p hf hE);refine AE (J (Bu (0) Z Z (Z) (by decide) Z Tryz.underlying94 sz1 Z) (J (CA Z Z (Ah hka) Z on1 Z) (AB Z Z (AD (AC (AE (goMv Z Z ?_)))))));refine CP (Oe hac Z [41] ⟨Z,trivial⟩ Z Z Z Z (fun r H' ⟨e1,e2⟩=>by subst e1 e2;exact ⟨Z,Z,Z⟩) Z) Z ?_;rintro _ ⟨r,H',⟨e1,e2⟩,rfl⟩;subst e1 e2;refine AD (AC (AE (J (Dv (f:=41) Z Z hM5 Z on33 Z) (J (D6 Z Z Z) (AD (DP Z (ωi hE) (AC ?_)))))));refine Ch [[],[],[0],[0,1,2]] mixed Z (Cq (AJ [] [] Z Z (fun _=>AG (FZ Qo pl32 Z Z Z)) (AJ [5] [41] Z Z (fun _=>AG (Dv (f:=41) Z Z hM5 Z on33 Z)) (Gv [2,23] [2] [] Z Z (fun _=>Gw (Bi Z Z Z Z Z Z Z Yt)) (.inl ⟨Z,Z⟩) Z Z Z Z Z (C5 3 Z Z Z (Af 4 Z Z (AB Z Z (AD ⟨Z,?_⟩))))))));refine C9 (A8 ?_);exact ⟨_,[],_,A6 Z,Z,Z,Z,Z⟩
set_option maxHeartbeats 4000000 in
theorem Nn (p:Prb) (hf:Ed p) (hE:Al p=0):AO Tryz.prog 12 [.d (Bs p)] (.tup [.agg (repV p),AF 0]):=by
 refine BB Tryz.func12 Z Z Tryz.ntmps12 Z Z Z fun F hF=>(AC (AE ?_));refine V (Bz 1 Z Z Z Z Z Z Z) (V (CF 2 Qo Z Z Z Z) (AB Z Z (AD (AC (AE (V (CF 4 Qo Z Z Z Z) (AD (AC ?_))))))));refine AE (V (CF 5 zl33 Z Z Z Z) (AD (AC (AC (Fi 41 Z Z Z (YT (ds:=Mh p) 1 1 41 hF Z Z Z Z Z Z Z Z Z Z Z (fun _=>rfl) fun b1 hb1=>(YT (ds:=[CI,CI,CI,CI,CI]) 4 4 41 hF Z Z Z Z Z Z Z Z Z Z Z (fun _=>rfl) fun b4 hb4=>(YT (ds:=[AF 0]) 5 5 41 hF Z Z Z Z Z Z Z Z Z Z Z (fun _=>rfl) fun b5 hb5=>?_))))))));have h41:b4≠b1:=fun e=>by rw [e,E2] at hb4;cases hb4
 have h54:b5≠b4:=fun e=>by rw [e,E2] at hb5;cases hb5
 have h51:b5≠b1:=fun e=>by rw [e,FR (Ne.symm h41),E2] at hb5;cases hb5
 refine AE (J (T6 (ds:=[]) (es:=[pD b1 0,pD b4 0,pD b5 0]) Z Z Z Z Z) (J (T6 (ds:=[]) (es:=[pD b1 0,pD b4 0,pD b5 0]) Z Z Z Z Z) ?_));refine J (T6 (ds:=[]) (es:=[pD b1 0,pD b4 0,pD b5 0]) Z Z Z Z Z) (J (T6 (ds:=[]) (es:=[pD b1 0,pD b4 0,pD b5 0]) Z Z Z Z Z) (J (T6 (ds:=[]) (es:=[pD b1 0,pD b4 0,pD b5 0]) Z Z Z Z Z) (V (D7 20 sl94 Z Z Z Z Z Z Z Z) (J (KO Z Tryz.underlying94 Z) (goMv Z Z (AD (A5 (B7 (α:=Nat×MF) (fun q=>⟨27,[(2,(.ptr 2 0 0)),(4,(.d (pD b4 0))),(5,(.d (pD b5 0))),(13,(.own 20 0 5)),(14,(.d (AF 5))),(15,(.d (AF (q.1:Int))))],[(20,[.rowD 1 1 (anF.map (anD b1 b4 b5))]),(2,[.blk 32 [.d CI,.d CI,.d CI,.d CI,.d CI]]),(41,[.multi q.2])]⟩) (fun q=>q.1≤5∧q.2 b1=some (.cells 39 (Mh p))∧q.2 b4=some (.cells 32 (repC p q.1))∧q.2 b5=some (.cells 33 [AF 0])) (fun q=>5 - q.1) ((0,_)) (⟨ς _,by show BQ _ _ _ _=_;rw [FR (Ne.symm h51),FR (Ne.symm h41)];exact E2 _ _ _,by show BQ _ _ _ _=_;rw [FR (Ne.symm h54)];exact E2 _ _ _,E2 _ _ _⟩) (A1 hF [20,2,41] Z Z ⟨Z,Z,Z,Z,Z,Z,trivial⟩) ?_))))))));rintro ⟨k,M⟩ ⟨hk,hc1,hc4,hc5⟩;dsimp only at hk hc1 hc4 hc5⊢;refine AC (AE (J (BR Z Z Z) (AD (AC (Ae Z (fun h16=>?_) (fun h16=>?_))))))
 ·refine A3 (AC (A5 (AC ?_)));have hkl:k<5:=Bf h16;have hka:k<anF.length:=hkl;have hM1:BQ (BQ M b4 (.cells 32 (repC p (k+1)))) b5 (.cells 33 [AF 0]) b1=some (.cells 39 (Mh p)):=by rw [FR (Ne.symm h51),FR (Ne.symm h41)];exact hc1
  have hM4:BQ (BQ M b4 (.cells 32 (repC p (k+1)))) b5 (.cells 33 [AF 0]) b4=some (.cells 32 (repC p (k+1))):=by rw [FR (Ne.symm h54)];exact E2 _ _ _
  have hM5:BQ (BQ M b4 (.cells 32 (repC p (k+1)))) b5 (.cells 33 [AF 0]) b5=some (.cells 33 [AF 0]):=E2 _ _ _;refine AE (J (Bu (k) Z Z (Z) (hkl) Z Tryz.underlying94 sz1 Z) (J (CA Z Z (Ah hka) Z on1 Z) (AB Z Z (AD (AC (AE (goMv Z Z ?_)))))));refine CP (Oe (an_c hf hE hka hc1 hc4 hc5 h54) Z [41] ⟨Z,trivial⟩ Z Z Z Z (fun r H' ⟨e1,e2⟩=>by subst e1 e2;exact ⟨Z,Z,Z⟩) Z) Z ?_;rintro _ ⟨r,H',⟨e1,e2⟩,rfl⟩;subst e1 e2;refine AD (AC (AE ?_));refine J (Dv (f:=41) Z Z hM5 Z on33 Z) (J (D6 Z Z Z) (AD (D9 Z (ωp (by decide)) (A3 (AE (J (BA Z Z (AT (k+1) (by omega)) Z) (goMv Z Z (AD ?_))))))));exact ⟨(k+1,_),⟨by show k+1≤5;omega,hM1,hM4,hM5⟩,by show 5 - (k+1)<5 - k;omega,A1 hF [20,2,41] Z (Z) ⟨Z,Z,Z,Z,Z,Z,trivial⟩⟩
 ·refine BF (AC ?_);have hke:k=5:=by have:=h16;omega
  subst hke;refine AE (J (DH (f:=41) (n:=5) Z Z hc4 rw32 Z Z (fun c hc=>by have h5:c∈repV p:=hc;unfold repV at h5;simp only [Ψ,List.not_mem_nil,or_false] at h5;rcases h5 with rfl | rfl | rfl | rfl | rfl<;>rfl) Z) (V (Bi Z Z Z Z Z Z Z Yt) (AB Z Z (AD (A8 ?_)))));exact ⟨_,[],_,A6 Z,Z,Z,Z,Z⟩
theorem TG {n:Nat} {C:Nat ->Nat ->Prop} (hn:0<n) (h:∀i j,i<n ->j<n ->C i j):clsN n C=[List.range n]:=by
 unfold clsN
 have h1:((List.range n).filter fun k=>dec (∀j,j<k ->¬C k j))=[0]:=by
  obtain ⟨m,rfl⟩:∃m,n=m+1:=⟨n - 1,by omega⟩
  rw [List.range_succ_eq_map,φh,θ (bv fun j hj=>absurd hj (Nat.not_lt_zero j)),List.filter_map]
  have h2:(List.range m).filter ((fun k=>dec (∀j,j<k ->¬C k j))∘Nat.succ)=[]:=List.filter_eq_nil_iff.2 fun k hk=>by
   have hkm:=Ξ.1 hk;show ¬dec (∀j,j<k+1 ->¬C (k+1) j)=true;rw [E8];exact fun hh=>hh 0 (Nat.succ_pos k) (h _ _ (by omega) (by omega))
  rw [h2];rfl
 rw [h1,φd,List.filter_eq_self.2 fun j hj=>bv (h 0 j hn (Ξ.1 hj))]
theorem cM (g:List (List Nat)):cirG g=lgs (clsN g.length (H9 g)):=rfl
theorem MC {rs:List AP} {E:List (AK×Nat)} {i j:Nat}:j∈sucs (grW rs E) i↔i<E.length∧j<E.length∧cm rs (DN E i) (DN E j):=by
 by_cases hi:i<E.length
 ·rw [DT (by rw [Ns];exact hi)];have e:(grW rs E)[i]'(by rw [Ns];exact hi)=toK rs E (E[i]).1 E.length:=by simp [grW]
  rw [e,←Cz hi];unfold toK;rw [ωb,Ξ,ωx];exact ⟨fun h=>⟨hi,h.1,h.2⟩,fun h=>⟨h.2.1,h.2.2⟩⟩
 ·refine ⟨fun h=>?_,fun h=>absurd h.1 hi⟩;unfold sucs at h;rw [ϖ,ωw (by rw [Ns];omega)] at h
  cases h
theorem R8 {n:Nat} {suc:Nat ->List Nat} {nx:Nat ->Nat} (h:∀i,i<n ->nx i∈suc i) {P:Nat ->Nat} (hP:∀i,i<n ->P i<n) (hs:∀m,m<n ->nx (P m)=P ((m+1) % n)) (hsur:∀i,i<n ->∃m,m<n∧P m=i):∀i j,i<n ->j<n ->Rh suc i j:=by
 have step:∀d m,m<n ->Rh suc (P m) (P ((m+d) % n)):=fun d m hm=>by
  induction d with
  | zero=>rw [χm,Nat.mod_eq_of_lt hm];exact .refl _
  | succ d ih=>
   have hlt:=Nat.mod_lt (m+d) (by omega:n>0);have h1:=h _ (hP _ hlt);rw [hs _ hlt,Nat.mod_add_mod] at h1;exact .step ih h1
 intro i j hi hj;obtain ⟨a,ha,rfl⟩:=hsur i hi;obtain ⟨b,hb,rfl⟩:=hsur j hj;have:=step (b+n - a) a ha
 rwa [show a+(b+n - a)=b+n by omega,Nat.add_mod_right,Nat.mod_eq_of_lt hb] at this
def bD:List AK:=[OL 1 [65] [66] 5,OL 2 [66] [67] 5,OL 3 [67] [65] 5,OL 4 [65] [68] 4]
def kK:Prb:=⟨Ps,bD⟩
theorem U0:Al kK=0:=by decide
theorem kK_F:Ed kK:=⟨by decide,by decide,by decide⟩
theorem kK_R:Co kK=Ps:=(Z4 U0 (List.Perm.refl _) (by decide)).symm
theorem ay:ordP kK=bD:=by decide
theorem kK_L:largeS kK=[1,2,3]:=by
 unfold largeS LX;rw [kK_R,ay];exact ψk (by kernel_rfl)
theorem kK_G:Bp kK=[]:=by
 unfold Bp;rw [kK_R,ay];exact ψk (by kernel_rfl)
def eK:List (AK×Nat):=[(OL 1 [65] [66] 5,0),(OL 2 [66] [67] 5,0),(OL 3 [67] [65] 5,0)]
theorem kK_e1:Lg kK [1,2,3]=eK:=by
 unfold Lg;rw [←show ordP kK=Ay kK.it from θ U0,ay]
 rfl
theorem kK_e2:entC kK=eK:=by
 unfold entC;rw [←show ordP kK=Ay kK.it from θ U0,ay,kK_L,kK_G]
 rfl
theorem kK_rs:∀r∈rsP kK,B4 r=0:=by decide
theorem kK_w {i j:Nat} (hi:i<3) (hj:j<3) (h:decide (∃r∈rsP kK,Cg (DN eK i) r<0∧0<Cg (DN eK j) r)=true):cm (rsP kK) (DN eK i) (DN eK j):=
 (wt_iff kK_rs (by match i,hi with | 0,_=>decide | 1,_=>decide | 2,_=>decide) (by match j,hj with | 0,_=>decide | 1,_=>decide | 2,_=>decide)).2 (.inr (ψk h))
theorem wt_int {rs:List AP} {a b:AK} (h:cm rs a b):Qg rs a b:=by
 rcases h with ⟨d,hd,h1,h2⟩ | h
 ·refine .inr (.inr ⟨d.1,χj hd,?_⟩);refine Decidable.byContradiction fun hn=>?_;rw [IQ hn] at h2;exact absurd h2 (by decide)
 ·exact .inl h
def nxK:Nat ->Nat
 | 0=>2
 | 1=>0
 | _=>1
theorem WH (i:Nat) (hi:i<3):nxK i<3∧cm (rsP kK) (DN eK i) (DN eK (nxK i)):=by
 match i,hi with
 | 0,_=>exact ⟨by decide,kK_w (by decide) (by decide) (by decide)⟩
 | 1,_=>exact ⟨by decide,kK_w (by decide) (by decide) (by decide)⟩
 | 2,_=>exact ⟨by decide,kK_w (by decide) (by decide) (by decide)⟩
def oK:Nat ->Nat
 | 0=>0
 | 1=>2
 | _=>1
theorem kK_cir:cirL (rsP kK) eK=[[1,2,3]]:=by
 have h:∀i j,i<3 ->j<3 ->Rh (sucs (grW (rsP kK) eK)) i j:=R8 (nx:=nxK) (P:=oK) (fun i hi=>MC.2 ⟨hi,(WH i hi).1,(WH i hi).2⟩) (by decide) (by decide) (by decide);unfold cirL;rw [cM,Ns,show eK.length=3 from rfl,TG (by decide) fun i j hi hj=>⟨h i j hi hj,h j i hj hi⟩]
 decide
theorem kK_com:compL (rsP kK) eK=[[1,2,3]]:=by
 have h:∀i j,i<3 ->j<3 ->Rh (nbI (rsP kK) eK) i j:=R8 (nx:=nxK) (P:=oK) (fun i hi=>EB.2 ⟨hi,(WH i hi).1,wt_int (WH i hi).2⟩) (by decide) (by decide) (by decide);unfold compL;rw [show eK.length=3 from rfl,TG (C:=Cn (rsP kK) eK) (by decide) h]
 decide
theorem ax:linL kK=Ps.map (HU kK):=(WC U0 (List.Perm.refl _) (by decide)).symm
theorem aw (i:Int) (h:(Bm kK i).af=[]):Ny kK i=(Ps.map (HU kK)).flatMap (E4 i):=by
 unfold Ny;rw [h,ax];unfold XM;rw [Wz];rfl
theorem kK_clo:cloS kK [4]=[1,4]:=by
 have h4:Ny kK 4=[⟨4,1,rcK 65⟩]:=by rw [aw 4 (by decide)];exact ψk (by kernel_rfl)
 have h1:Ny kK 1=[]:=by rw [aw 1 (by decide)];exact ψk (by kernel_rfl)
 rw [←W1 (C:=[4,1]) U0 (by decide) (by decide) fun x=>?_]
 ·exact (RQ (List.Perm.swap _ _ _) (by decide)).symm
 ·constructor
  ·intro h;rcases Ψ.1 h with rfl | h
   ·exact .base (by decide)
   ·rw [ξ.1 h];exact Wf.step (b:=⟨4,1,rcK 65⟩) (i:=4) (.base (by decide)) (by rw [h4];exact ξ.2 Z)
  ·intro h
   induction h with
   | base h=>rw [ξ.1 h];decide
   | step _ hb ih=>
    rcases Ψ.1 ih with rfl | ih
    ·rw [h4] at hb;rw [ξ.1 hb];decide
    ·rw [ξ.1 ih,h1] at hb;cases hb
theorem kK_v:vio1L kK 4=[⟨rcK 65,9⟩]:=by
 unfold vio1L L7;rw [kK_clo,ax];exact ψk (by kernel_rfl)
theorem kK_blk:bksL kK=[(4,⟨rcK 65,9⟩)]:=by
 unfold bksL;rw [←show ordP kK=Ay kK.it from θ U0,ay];have h1:∀id∈([1,2,3]:List Int),bkOf kK id=none:=fun id h=>TU (by rw [kK_L];exact h)
 have h4:bkOf kK 4=some (4,⟨rcK 65,9⟩):=by
  unfold bkOf;rw [kK_L,kK_v,ϑ (by decide)];rfl
 show ([1,2,3,4]:List Int).filterMap (bkOf kK)=_;rw [List.filterMap_cons,h1 1 (by decide),List.filterMap_cons,h1 2 (by decide),List.filterMap_cons,h1 3 (by decide),List.filterMap_cons,h4]
 rfl
theorem kK_rep:repV kK=[Hh [1,2,3],Hh [],Lz [[1,2,3]],Lz [[1,2,3]],.sl none (([(4,⟨rcK 65,9⟩)]:List (Int×A2)).map bkD)]:=by
 unfold repV;rw [kK_L,kK_G,kK_e1,kK_e2,kK_com,kK_cir,kK_blk]
theorem SY (l m:List Int) (hl:l.length≤100000) (hm:m.length≤100000):AO Tryz.prog 17 [.d (.sl none (l.map AF)),.d (.sl none (m.map AF))] (Ai (decide (l=m))):=by
 refine BB Tryz.func17 Z Z Tryz.ntmps17 Z Z Z fun F hF=>(AC (AE (AB Z Z (AD (AC ?_)))));refine AC (AE (goMv Z Z (J (CO Z Tryz.underlying28 Z) (goMv Z Z (J (CO Z Tryz.underlying28 Z) (J (D6 Z Z Z) (AD (Ae Z (fun h10=>?_) (fun h10=>?_)))))))))
 ·refine AC (AE (AB Z Z (AD (A8 ?_))));exact ⟨_,[],[],A6 Z,Z,Z,K5 (fun h=>by have h1:=Γ List.length h;have h:=h10;omega),Z⟩
 ·refine A3 (AC (AC ?_));have hlen:l.length=m.length:=by have h:=h10;omega
  refine AE (AB Z Z (AD (A5 (B7 (α:=Nat) (fun k=>⟨26,[(0,.d (.sl none (l.map AF))),(1,.d (.sl none (m.map AF))),(5,(.d (AF (k:Int))))],[]⟩) (fun k=>k≤l.length∧l.take k=m.take k) (fun k=>l.length - k) (0) (⟨ς _,by simp⟩) (A1 hF [] Z Z ⟨Z,Z,Z,trivial⟩) ?_))));rintro k ⟨hk0,hk⟩;refine AC (AC (AE (goMv Z Z (goMv Z Z (J (CO Z Tryz.underlying28 Z) (J (BR Z Z Z) (AD (Ae Z (fun h14=>?_) (fun h14=>?_)))))))))
  ·have hk1:k<l.length:=Bf h14;refine A3 (AC (A5 (AC ?_)));have hk2:k<m.length:=by omega
   refine Ch [[],[],[0,1],[0,1,2],[],[],[4,5],[4,5,6],[0,1,2,3,4,5,6,7]] mixed Z (Cq (AJ [0] [] Z Z (fun _=>AG (Ak Z Z)) (AJ [5] [] Z Z (fun _=>AG (Ak Z Z)) (AJ [17,18] [] Z Z (fun _=>AG (Be (k) Z Z (Z) (Ah hk1) Tryz.underlying28 Z BE Z)) ?_))));refine AJ [19] [] Z Z (fun _=>AG (Cr Z Z Aq Z)) (AJ [1] [] Z Z (fun _=>AG (Ak Z Z)) (AJ [5] [] Z Z (fun _=>AG (Ak Z Z)) (AJ [21,22] [] Z Z (fun _=>AG (Be (k) Z Z (Z) (Ah hk2) Tryz.underlying28 Z BE Z)) (AJ [23] [] Z Z (fun _=>AG (Cr Z Z Aq Z)) (C5 8 Z Z Z (Af 9 Z Z (J (D6 Z Z Z) (AD ⟨Z,?_⟩))))))));refine C9 (Ae Z (fun h25=>?_) (fun h25=>?_))
   ·refine AC (AE (AB Z Z (AD (A8 ?_))));exact ⟨_,[],[],A6 Z,Z,Z,K5 (fun h=>by subst h;exact h25 Z),Z⟩
   ·refine A3 (AE (goMv Z Z (J (BA Z Z (AT (k+1) (by omega)) Z) (AB Z Z (AD ?_)))));exact ⟨k+1,⟨by show k+1≤_;omega,by rw [φ hk1,φ hk2,hk,χv.1 h25]⟩,by show l.length - (k+1)<l.length - k;omega,A1 hF [] Z (Z) ⟨Z,Z,Z,trivial⟩⟩
  ·refine BF (AC (AE (AB Z Z (AD (A8 ?_)))));exact ⟨_,[],[],A6 Z,Z,Z,retT (by have h1:=hk;rw [Θ (by have h:=h14;omega),Θ (by have h:=h14;omega)] at h1;exact h1),Z⟩
theorem PM (l m:List (List Int)) (hl:l.length≤100000) (hm:m.length≤100000) (hll:∀x∈l,x.length≤100000) (hmm:∀x∈m,x.length≤100000):AO Tryz.prog 18 [.d (Lz l),.d (Lz m)] (Ai (decide (l=m))):=by
 refine BB Tryz.func18 Z Z Tryz.ntmps18 Z Z Z fun F hF=>(AC (AE (AB Z Z (AD (AC ?_)))));refine AC (AE (goMv Z Z (J (CO Z Tryz.underlying29 Z) (goMv Z Z (J (CO Z Tryz.underlying29 Z) (J (D6 Z Z Z) (AD (Ae Z (fun h10=>?_) (fun h10=>?_)))))))))
 ·refine AC (AE (AB Z Z (AD (A8 ?_))));exact ⟨_,[],[],A6 Z,Z,Z,K5 (fun h=>by have h1:=Γ List.length h;have h:=h10;omega),Z⟩
 ·refine A3 (AC (AC ?_));have hlen:l.length=m.length:=by have h:=h10;omega
  refine AE (AB Z Z (AD (A5 (B7 (α:=Nat) (fun k=>⟨27,[(0,.d (Lz l)),(1,.d (Lz m)),(5,(.d (AF (k:Int))))],[]⟩) (fun k=>k≤l.length∧l.take k=m.take k) (fun k=>l.length - k) (0) (⟨ς _,by simp⟩) (A1 hF [] Z Z ⟨Z,Z,Z,trivial⟩) ?_))));rintro k ⟨hk0,hk⟩;refine AC (AC (AE (goMv Z Z (goMv Z Z (J (CO Z Tryz.underlying29 Z) (J (BR Z Z Z) (AD (Ae Z (fun h14=>?_) (fun h14=>?_)))))))))
  ·have hk1:k<l.length:=Bf h14;refine A3 (AC (A5 (AC ?_)));have hk2:k<m.length:=by omega
   refine Ch [[],[],[0,1],[0,1,2],[],[],[4,5],[4,5,6],[0,1,2,3,4,5,6,7],[0,1,2,3,4,5,6,7,8]] mixed Z (Cq (AJ [0] [] Z Z (fun _=>AG (Ak Z Z)) (AJ [5] [] Z Z (fun _=>AG (Ak Z Z)) (AJ [17,18] [] Z Z (fun _=>AG (Be (k) Z Z (Z) (Ah hk1) Tryz.underlying29 Z CZ Z)) ?_))));refine AJ [19] [] Z Z (fun _=>AG (Cr Z Z BH Z)) (AJ [1] [] Z Z (fun _=>AG (Ak Z Z)) (AJ [5] [] Z Z (fun _=>AG (Ak Z Z)) (AJ [21,22] [] Z Z (fun _=>AG (Be (k) Z Z (Z) (Ah hk2) Tryz.underlying29 Z CZ Z)) (AJ [23] [] Z Z (fun _=>AG (Cr Z Z BH Z)) (C5 8 Z Z Z (Af 9 Z Z (J (B2 (SY l[k] m[k] (hll _ (κ hk1)) (hmm _ (κ hk2))) Z Z) (AD ⟨Z,?_⟩))))))));refine Af 10 Z Z (J (Nu Z Z) (AD ⟨Z,?_⟩));refine C9 (Ae Z (fun h26=>?_) (fun h26=>?_))
   ·refine AC (AE (AB Z Z (AD (A8 ?_))));exact ⟨_,[],[],A6 Z,Z,Z,K5 (fun h=>by subst h;exact h26 Z),Z⟩
   ·refine A3 (AE (goMv Z Z (J (BA Z Z (AT (k+1) (by omega)) Z) (AB Z Z (AD ?_)))));exact ⟨k+1,⟨by show k+1≤_;omega,by rw [φ hk1,φ hk2,hk,χv.1 h26]⟩,by show l.length - (k+1)<l.length - k;omega,A1 hF [] Z (Z) ⟨Z,Z,Z,trivial⟩⟩
  ·refine BF (AC (AE (AB Z Z (AD (A8 ?_)))));exact ⟨_,[],[],A6 Z,Z,Z,retT (by have h1:=hk;rw [Θ (by have h:=h14;omega),Θ (by have h:=h14;omega)] at h1;exact h1),Z⟩
theorem Zs (id n:Int) (a b:List UInt8) (h0:0≤n) (h1:n≤1000000000000000):AO Tryz.prog 40 [.d (AF id),.d (Ao a),.d (Ao b),.d (AF n)] (.agg [AF id,AF 0,AF id,.sl none ((OL id a b n).po.map CG),.sl (some true) [],.sl (some true) []]):=by
 refine BB Tryz.func40 Z Z Tryz.ntmps40 Z Z Z fun F hF=>(AC (AE (V (CF 1 Em Z Z Z Z) (AD (AC ?_)))));refine AE (goMv Z Z (goMv Z Z (goMv Z Z (J (FZ Y0 Zo Z Z Z) (goMv Z Z (J (ZF Z (Ω _ (by omega)) Z) (J (FZ O0 Zq Z Z Z) (goMv Z Z ?_))))))));refine J (FZ Y0 Zo Z Z Z) (goMv Z Z (J (FZ O0 Zq Z Z Z) (V (D7 4 XB Z Z Z Z Z Z Z Z) (Zcu (emb:=CG) 20 4 (OL id a b n).po Z Z Z Z Z Z Z (J (FZ Em pl55 Z Z Z) (V (Bi Z Z Z Z Z Z Z Ck) (AD (A8 ?_))))))));exact ⟨_,[],[],A6 Z,Z,Z,Z,Z⟩
theorem Lu (id n:Int) (a b:List UInt8) (h0:0≤n) (h1:n≤1000000000000000):AO Tryz.prog 40 [.d (AF id),.d (Ao a),.d (Ao b),.d (AF n)] (As (OL id a b n)):=
 (Zs id n a b h0 h1).weak fun w O v h=>h.aggMono Z (by simp [D.one]) fun i c c' hc hc' v hv=>by
  match i,hc,hc' with
  | 0,hc,hc'=>injection hc with hc;injection hc' with hc';subst hc hc';exact hv
  | 1,hc,hc'=>injection hc with hc;injection hc' with hc';subst hc hc';exact hv
  | 2,hc,hc'=>injection hc with hc;injection hc' with hc';subst hc hc';exact hv
  | 3,hc,hc'=>injection hc with hc;injection hc' with hc';subst hc hc';exact hv
  | 4,hc,hc'=>injection hc with hc;injection hc' with hc';subst hc hc';exact hv.anyNil
  | 5,hc,hc'=>injection hc with hc;injection hc' with hc';subst hc hc';exact hv.anyNil
set_option maxHeartbeats 2000000 in
theorem Xh:AO Tryz.prog 10 [] (.raw (.bool true)):=by
 have han:=Nn kK kK_F U0;rw [kK_rep] at han;refine BB Tryz.func10 Z Z Tryz.ntmps10 Z Z Z fun F hF=>(AC ?_);refine AE (AB Z Z (AD (AC (AE (V (CF 1 Y1 Z Z Z Z) (AD (AC (AC ?_))))))));refine AE (V (D7 2 sl86 Z Z Z Z Z Z Z Z) (Zcu (emb:=Ao) 7 2 nmK Z Z Z Z Z Z Z (J (CO Z Tryz.underlying86 Z) (goMv Z Z (AD (A5 (ER 1 0 0 901 Pm Z Z Z Z Z Z Z (B7 (α:=Nat×List A2) (fun q=>⟨86,[(1,(.ptr 1 0 0)),(7,(.d (.sl none (nmK.map Ao)))),(8,(.d (AF 3))),(9,(.d (AF (q.1:Int))))],[(901,[.rowD 88 7 (q.2.map Cy)]),(1,[.blk 39 [.own 901 0 q.2.length,.d CI]])]⟩) (fun q=>q.1≤3∧q.2=Ps.take q.1) (fun q=>3 - q.1) ((0,[])) (⟨by decide,Z⟩) (A1 hF [901,1] Z Z ⟨Z,Z,Z,Z,trivial⟩) ?_))))))));rintro ⟨k,ro⟩ ⟨hk0,hro⟩;dsimp only at hk0 hro⊢;refine AC (AE (J (BR Z Z Z) (AD (AC (Ae Z (fun h10=>?_) (fun h10=>?_))))))
 ·have hk1:k<nmK.length:=by have h:=Bf (b:=3) h10;exact h
  refine A3 (AC (A5 (AC ?_)));have hro1:ro++ [⟨⟨0,T0 nmK[k],[],[]⟩,0⟩]=Ps.take (k+1):=by subst hro;match k,hk1 with | 0,_=>rfl | 1,_=>rfl | 2,_=>rfl
  have hrl:ro.length≤3:=by rw [hro];simp [Ps];omega
  refine AE (J (Be (k) Z Z (Z) (Ah hk1) Tryz.underlying86 Z sz9 Z) (J (Cr Z Z iOq Z) ?_));refine AB Z Z (AD (AE (J (A4 Z Fp Z Z Z) (J (A9 Z Z Z Rm Z) (goMv Z Z (J (FZ Y0 Zo Z Z Z) (J (FZ KP Rg Z Z Z) (J (FZ Qn pl88 Z Z Z) ?_))))))));refine V (D7 50 Pm Z Z Z Z Z Z Z Z) (V (Hz (ro) ([⟨⟨0,T0 nmK[k],[],[]⟩,0⟩]) Z Z Z Z Z Z Z Z Pm (by simp only [Φ];omega) Z Z Z Z) (J (A4 Z Fp Z Z Z) (V (Bi Z Z Z Z Z Z Z sz36) (AD (AE (J (BA Z Z (AT (k+1) (by omega)) Z) (goMv Z Z (AD ?_))))))));exact ⟨(k+1,_),⟨by show k+1≤3;omega,hro1⟩,by show 3 - (k+1)<3 - k;omega,A1 hF [901,1] Z (Z) ⟨Z,Z,Z,Z,trivial⟩⟩
 ·refine BF (AC ?_);have hk3:k=3:=by have h:=h10;omega
  subst hk3;have hro3:ro=Ps:=hro;subst hro3;refine Du (ys:=Ps.map Cy) 1 0 0 901 Z Z Z (by decide) Z Z Z Z Z Z Z (AE (J (B2 (Lu 1 5 [65] [66] (by decide) (by decide)) Z Z) (J (B2 (Lu 2 5 [66] [67] (by decide) (by decide)) Z Z) (J (B2 (Lu 3 5 [67] [65] (by decide) (by decide)) Z Z) (J (B2 (Lu 4 4 [65] [68] (by decide) (by decide)) Z Z) (V (D7 52 OH Z Z Z Z Z Z Z Z) (Zcu (emb:=As) 27 52 bD Z Z Z Z Z Z Z ?_)))))));refine J (A4 Z EV Z Z Z) (V (Bi Z Z Z Z Z Z Z sz37) (AD (AC (AE (J (BM Z Z BW Z Z Z) (J (B2 (han) Z Z) (goMv Z Z (J (DD Z Z Z) ?_))))))));refine J (DD Z Z Z) (V (CF 4 Qo Z Z Z Z) (V (Bi Z Z Z Z Z Z Z Yt) (AB Z Z (AD (AC (AE (V (D7 54 B5 Z Z Z Z Z Z Z Z) (Zcu (emb:=AF) 34 54 [1,2,3] Z Z Z Z Z Z Z ?_))))))));refine V (D7 55 M7 Z Z Z Z Z Z Z Z) (Zcu (emb:=Hh) 35 55 [[1,2,3]] Z Z Z Z Z Z Z (AB Z Z (AD (AC (Ch [[],[0],[0,1],[0,1,2],[0,1,2,3],[0,1,2],[0,1,2,5],[0,1,2,5,6],[0,1,2,3,4,5,6,7],[0,1,2,3,4,5,6,7,8],[0,1,2,3,4,5,6,7,8,9],[0,1,2,3,4,5,6,7,8,9,10],[0,1,2,3,4,5,6,7,8,9,10,11],[0,1,2,3,4,5,6,7,8,9,10,11,12],[0,1,2,3,4,5,6,7,8,9,10,11,12,13],[0,1,2,3,4,5,6,7,8,9,10,11,12,13,14],[0,1,2,3,4,5,6,7,8,9,10,11,12,13,14,15],[0,1,2,3,4,5,6,7,8,9,10,11,12,13,14,15,16],[0,1,2,3,4,5,6,7,8,9,10,11,12,13,14,15,16,17],[0,1,2,3,4,5,6,7,8,9,10,11,12,13,14,15,16],[0,1,2,3,4,5,6,7,8,9,10,11,12,13,14,15,16,17,18,19],[0,1,2,3,4,5,6,7,8,9,10,11,12,13,14,15,16,17,18,19,20],[0,1,2,3,4,5,6,7,8,9,10,11,12,13,14,15,16,17,18,19,20,21],[0,1,2,3,4,5,6,7,8,9,10,11,12,13,14,15,16,17,18,19,20,21,22],[0,1,2,3,4,5,6,7,8,9,10,11,12,13,14,15,16,17,18,19,20,21,22,23],[0,1,2,3,4,5,6,7,8,9,10,11,12,13,14,15,16,17,18,19,20,21,22],[0,1,2,3,4,5,6,7,8,9,10,11,12,13,14,15,16,17,18,19,20,21,22,23,24,25],[0,1,2,3,4,5,6,7,8,9,10,11,12,13,14,15,16,17,18,19,20,21,22,23,24,25,26],[0,1,2,3,4,5,6,7,8,9,10,11,12,13,14,15,16,17,18,19,20,21,22,23,24,25,26,27],[0,1,2,3,4,5,6,7,8,9,10,11,12,13,14,15,16,17,18,19,20,21,22,23,24,25,26,27,28],[0,1,2,3,4,5,6,7,8,9,10,11,12,13,14,15,16,17,18,19,20,21,22,23,24,25,26,27,28,29],[0,1,2,3,4,5,6,7,8,9,10,11,12,13,14,15,16,17,18,19,20,21,22,23,24,25,26,27,28,29,30],[0,1,2,3,4,5,6,7,8,9,10,11,12,13,14,15,16,17,18,19,20,21,22,23,24,25,26,27,28,29,30,31],[0,1,2,3,4,5,6,7,8,9,10,11,12,13,14,15,16,17,18,19,20,21,22,23,24,25,26,27,28,29,30,31,32],[0,1,2,3,4,5,6,7,8,9,10,11,12,13,14,15,16,17,18,19,20,21,22,23,24,25,26,27,28,29,30,31,32,33],[0,1,2,3,4,5,6,7,8,9,10,11,12,13,14,15,16,17,18,19,20,21,22,23,24,25,26,27,28,29,30,31,32,33,34],[0,1,2,3,4,5,6,7,8,9,10,11,12,13,14,15,16,17,18,19,20,21,22,23,24,25,26,27,28,29,30,31,32,33,34,35],[0,1,2,3,4,5,6,7,8,9,10,11,12,13,14,15,16,17,18,19,20,21,22,23,24,25,26,27,28,29,30,31,32,33,34,35,36],[0,1,2,3,4,5,6,7,8,9,10,11,12,13,14,15,16,17,18,19,20,21,22,23,24,25,26,27,28,29,30,31,32,33,34,35,36,37],[0,1,2,3,4,5,6,7,8,9,10,11,12,13,14,15,16,17,18,19,20,21,22,23,24,25,26,27,28,29,30,31,32,33,34,35,36,37,38],[0,1,2,3,4,5,6,7,8,9,10,11,12,13,14,15,16,17,18,19,20,21,22,23,24,25,26,27,28,29,30,31,32,33,34,35,36,37,38,39],[0,1,2,3,4,5,6,7,8,9,10,11,12,13,14,15,16,17,18,19,20,21,22,23,24,25,26,27,28,29,30,31,32,33,34,35,36,37,38,39,40],[0,1,2,3,4,5,6,7,8,9,10,11,12,13,14,15,16,17,18,19,20,21,22,23,24,25,26,27,28,29,30,31,32,33,34,35,36,37,38,39,40,41],[0,1,2,3,4,5,6,7,8,9,10,11,12,13,14,15,16,17,18,19,20,21,22,23,24,25,26,27,28,29,30,31,32,33,34,35,36,37,38,39,40,41,42],[0,1,2,3,4,5,6,7,8,9,10,11,12,13,14,15,16,17,18,19,20,21,22,23,24,25,26,27,28,29,30,31,32,33,34,35,36,37,38,39,40,41,42,43],[0,1,2,3,4,5,6,7,8,9,10,11,12,13,14,15,16,17,18,19,20,21,22,23,24,25,26,27,28,29,30,31,32,33,34,35,36,37,38,39,40,41,42,43,44],[0,1,2,3,4,5,6,7,8,9,10,11,12,13,14,15,16,17,18,19,20,21,22,23,24,25,26,27,28,29,30,31,32,33,34,35,36,37,38,39,40,41,42,43,44,45],[0,1,2,3,4,5,6,7,8,9,10,11,12,13,14,15,16,17,18,19,20,21,22,23,24,25,26,27,28,29,30,31,32,33,34,35,36,37,38,39,40,41,42,43,44,45,46],[0,1,2,3,4,5,6,7,8,9,10,11,12,13,14,15,16,17,18,19,20,21,22,23,24,25,26,27,28,29,30,31,32,33,34,35,36,37,38,39,40,41,42,43,44,45,46,47],[0,1,2,3,4,5,6,7,8,9,10,11,12,13,14,15,16,17,18,19,20,21,22,23,24,25,26,27,28,29,30,31,32,33,34,35,36,37,38,39,40,41,42,43,44,45,46,47,48],[0,1,2,3,4,5,6,7,8,9,10,11,12,13,14,15,16,17,18,19,20,21,22,23,24,25,26,27,28,29,30,31,32,33,34,35,36,37,38,39,40,41,42,43,44,45,46,47,48,49]] mixed Z (Af 1 Z Z (goMv Z Z (AD ⟨Z,?_⟩))))))));refine Af 2 Z Z (J (JL Z Z Z) (AD ⟨Z,?_⟩));refine Af 3 Z Z (goMv Z Z (G7 38 Z (Z) (AD ⟨Z,?_⟩)));refine Cq (AJ [4,38] [] Z Z (fun _=>JI Z Z Z (A4 Z fi32_0 Z Z Z)) ?_);refine Av [39,38] Z Z (fun _=>JI Z Z Z (A9 Z Z Z BH Z)) (AJ [6,38] [] Z Z (fun _=>JI Z Z Z (Ak Z Z)) (AJ [41,38] [] Z Z (fun _=>JI Z Z Z (Be (0) Z Z (Z) (Z) Tryz.underlying29 Z CZ Z)) (AJ [42,38] [] Z Z (fun _=>JI Z Z Z (Cr Z Z BH Z)) (C5 8 Z Z Z (Af 9 Z Z (Aj Z Z Z (J (B2 (SY [1,2,3] [1,2,3] (by decide) (by decide)) Z Z) (AD ⟨Z,?_⟩))))))));refine Af 10 Z Z (J (FO Z Z Z Z) (AD ⟨Z,?_⟩));refine Af 11 Z Z (goMv Z Z (G7 46 Z (Z) (AD ⟨Z,?_⟩)));refine Af 12 Z Z (Aj Z Z Z (J (A4 Z fi32_1 Z Z Z) (AD ⟨Z,?_⟩)));refine Af 13 Z Z (Aj Z Z Z (J (A9 Z Z Z BH Z) (AD ⟨Z,?_⟩)));refine Af 14 Z Z (Aj Z Z Z (J (CO Z Tryz.underlying28 Z) (AD ⟨Z,?_⟩)));refine Af 15 Z Z (Aj Z Z Z (J (JL Z Z Z) (AD ⟨Z,?_⟩)));refine Af 16 Z Z (J (FO Z Z Z Z) (AD ⟨Z,?_⟩));refine Af 17 Z Z (goMv Z Z (G7 52 Z (Z) (AD ⟨Z,?_⟩)));refine Cq (AJ [4,52] [] Z Z (fun _=>JI Z Z Z (A4 Z bW Z Z Z)) (Av [53,52] Z Z (fun _=>JI Z Z Z (A9 Z Z Z on29 Z)) (AJ [6,52] [] Z Z (fun _=>JI Z Z Z (Ak Z Z)) (C5 20 Z Z Z (Af 21 Z Z (Aj Z Z Z (J (B2 (PM [[1,2,3]] [[1,2,3]] (by decide) (by decide) (by decide) (by decide)) Z Z) (AD ⟨Z,?_⟩))))))));refine Af 22 Z Z (J (FO Z Z Z Z) (AD ⟨Z,?_⟩));refine Af 23 Z Z (goMv Z Z (G7 58 Z (Z) (AD ⟨Z,?_⟩)));refine Cq (AJ [4,58] [] Z Z (fun _=>JI Z Z Z (A4 Z fi32_3 Z Z Z)) (Av [59,58] Z Z (fun _=>JI Z Z Z (A9 Z Z Z on29 Z)) (AJ [6,58] [] Z Z (fun _=>JI Z Z Z (Ak Z Z)) (C5 26 Z Z Z (Af 27 Z Z (Aj Z Z Z (J (B2 (PM [[1,2,3]] [[1,2,3]] (by decide) (by decide) (by decide) (by decide)) Z Z) (AD ⟨Z,?_⟩))))))));refine Af 28 Z Z (J (FO Z Z Z Z) (AD ⟨Z,?_⟩));refine Af 29 Z Z (goMv Z Z (G7 64 Z (Z) (AD ⟨Z,?_⟩)));refine Af 30 Z Z (Aj Z Z Z (J (A4 Z fi32_4 Z Z Z) (AD ⟨Z,?_⟩)));refine Af 31 Z Z (Aj Z Z Z (J (A9 Z Z Z on30 Z) (AD ⟨Z,?_⟩)));refine Af 32 Z Z (Aj Z Z Z (J (CO Z Tryz.underlying30 Z) (AD ⟨Z,?_⟩)));refine Af 33 Z Z (Aj Z Z Z (J (JL Z Z Z) (AD ⟨Z,?_⟩)));refine Af 34 Z Z (J (FO Z Z Z Z) (AD ⟨Z,?_⟩));refine Af 35 Z Z (goMv Z Z (G7 70 Z (Z) (AD ⟨Z,?_⟩)));refine Af 36 Z Z (Aj Z Z Z (J (A4 Z fi32_4 Z Z Z) (AD ⟨Z,?_⟩)));refine Af 37 Z Z (Aj Z Z Z (J (A9 Z Z Z on30 Z) (AD ⟨Z,?_⟩)));refine Af 38 Z Z (Aj Z Z Z (J (Be (0) Z Z (Z) (Z) Tryz.underlying30 Z sz66 Z) (AD ⟨Z,?_⟩)));refine Af 39 Z Z (Aj Z Z Z (J (Zcf Z fi66_0 Z Z Z) (AD ⟨Z,?_⟩)));refine Af 40 Z Z (Aj Z Z Z (J (Cr Z Z Aq Z) (AD ⟨Z,?_⟩)));refine Af 41 Z Z (Aj Z Z Z (J (JL Z Z Z) (AD ⟨Z,?_⟩)));refine Af 42 Z Z (J (FO Z Z Z Z) (AD ⟨Z,?_⟩));refine Af 43 Z Z (goMv Z Z (G7 78 Z (Z) (AD ⟨Z,?_⟩)));refine Af 44 Z Z (Aj Z Z Z (J (A4 Z fi32_4 Z Z Z) (AD ⟨Z,?_⟩)));refine Af 45 Z Z (Aj Z Z Z (J (A9 Z Z Z on30 Z) (AD ⟨Z,?_⟩)));refine Af 46 Z Z (Aj Z Z Z (J (Be (0) Z Z (Z) (Z) Tryz.underlying30 Z sz66 Z) (AD ⟨Z,?_⟩)));refine Af 47 Z Z (Aj Z Z Z (J (Zcf Z fi66_2 Z Z Z) (AD ⟨Z,?_⟩)));refine Af 48 Z Z (Aj Z Z Z (J (Cr Z Z Ke Z) (AD ⟨Z,?_⟩)));refine Af 49 Z Z (Aj Z Z Z (J (JL Z Z Z) (AD ⟨Z,?_⟩)));refine Af 50 Z Z (J (FO Z Z Z Z) (AD ⟨Z,?_⟩));refine Af 51 Z Z (AB Z Z (AD ⟨Z,?_⟩));refine C9 (A8 ?_);exact ⟨_,[],[],A6 Z,Z,Z,Z,Z⟩
end Go.Proofs.YteifpcnphnhaoaaGreat
namespace Go.Proofs.YteifpcnphnhaoaaGreat
open Go.RowKit
theorem cP (p:Prb):blks p (Jh [])=[]:=by
 unfold blks;rw [List.flatMap_eq_nil_iff];intro i _;unfold JH;rw [ϑ (by simp [Jh])]
theorem Ya {p:Prb} (hp:Al p=0):L7 p (BC [])=[]:=by
 unfold L7;rw [List.flatMap_eq_nil_iff];intro x hx;have h:=ai hp x hx;unfold Pe;rw [ϑ (by show ¬x.n+fSq p x.r []<0;have:fSq p x.r []=0:=rfl;omega)]
theorem Qu {p:Prb} {M:List (Int×Bool)}:L7 p M=[]↔∀x∈linL p,0≤x.n+fSq p x.r M:=by
 unfold L7;rw [List.flatMap_eq_nil_iff]
 constructor
 ·intro h x hx;have:=h x hx;unfold Pe at this
  split at this
  ·cases this
  ·omega
 ·intro h x hx;have:=h x hx;unfold Pe;rw [ϑ (by omega)]
theorem Wf.mono {p:Prb} {S T:List Int} (h:∀x∈S,x∈T) {x:Int} (hx:Wf p S x):Wf p T x:=by
 induction hx with
 | base hx=>exact .base (h _ hx)
 | step _ hb ih=>exact .step ih hb
structure Chg (R:Int ->Int ->Prop) (l Y:List A2):Prop where
 len:Y.length=l.length
 at_:∀(j:Nat) x y,l[j]? =some x ->Y[j]? =some y ->y.r=x.r∧ -4*Mx≤y.n∧y.n≤4*Mx∧R x.n y.n
theorem Chg.set {R:Int ->Int ->Prop} {l Y:List A2} (h:Chg R l Y) {k:Nat} (hk:k<Y.length) {n:Int} (h1: -4*Mx≤n∧n≤4*Mx) (h2:∀x,R x Y[k].n ->R x n):Chg R l (Y.set k ⟨Y[k].r,n⟩):=
 ⟨by rw [ψd];exact h.len,fun j x y hx hy=>by
  rw [χo] at hy
  split at hy
  ·rename_i e;subst e
   first | (rw [θ hk] at hy;injection hy with hy;subst hy) | (injection hy with hy;subst hy)
   have:=h.at_ k x _ hx (ω hk);exact ⟨this.1,h1.1,h1.2,h2 _ this.2.2.2⟩
  ·exact h.at_ j x y hx hy⟩
theorem Chg.map {R:Int ->Int ->Prop} {l Y:List A2} (h:Chg R l Y):Y.map A2.r=l.map A2.r:=by
 refine χc (by rw [ψ,ψ,h.len]) fun j h1 h2=>?_;rw [ψ] at h1 h2;rw [ωd,ωd];exact (h.at_ j _ _ (ω h2) (ω h1)).1
theorem Chg.mem {R:Int ->Int ->Prop} {l Y:List A2} (h:Chg R l Y):∀y∈Y,∃x∈l,y.r=x.r∧ -4*Mx≤y.n∧y.n≤4*Mx∧R x.n y.n:=fun y hy=>by
 obtain ⟨j,hj,rfl⟩:=χb.1 hy;have hj':j<l.length:=by rw [←h.len];exact hj
 exact ⟨l[j],κ hj',h.at_ j _ _ (ω hj') (ω hj)⟩
def YS (x:Nat) (P:List Nat):Nat:=P.foldl (fun a i=>a ||| 1<<<i) x
theorem bit_one (i j:Nat):(1<<<i).testBit j=decide (i=j):=by rw [Nat.one_shiftLeft,Nat.testBit_two_pow]
theorem orB_bit:∀(P:List Nat) (x j:Nat),(YS x P).testBit j=true↔x.testBit j=true∨j∈P
 | [],x,j=>by simp [YS]
 | i::P,x,j=>by
  show (YS (x ||| 1<<<i) P).testBit j=true↔_;rw [orB_bit P,Nat.testBit_or,bit_one,Bool.or_eq_true,ωx,Ψ]
  constructor
  ·rintro ((h | h) | h)
   ·exact .inl h
   ·exact .inr (.inl h.symm)
   ·exact .inr (.inr h)
  ·rintro (h | h | h)
   ·exact .inl (.inl h)
   ·exact .inl (.inr h.symm)
   ·exact .inr h
theorem PH {s:Sma} {x:Nat} {y:Int}:y∈listS s x↔∃i,i<s.ids.length∧x.testBit i=true∧s.ids.getD i 0=y:=by
 unfold listS;rw [ϱ]
 constructor
 ·rintro ⟨i,hi,e⟩;obtain ⟨h1,h2⟩:=ωb.1 hi;exact ⟨i,Ξ.1 h1,h2,e⟩
 ·rintro ⟨i,h1,h2,e⟩;exact ⟨i,ωb.2 ⟨Ξ.2 h1,h2⟩,e⟩
theorem QB {s:Sma} (hn:s.ids.Nodup) {x:Nat} {y:Int} (hy:y∈s.ids):y∈listS s x↔x.testBit (s.ids.idxOf y)=true:=by
 rw [PH];have hl:=ψp hy
 constructor
 ·rintro ⟨i,h1,h2,e⟩;rw [CY 0 h1] at e;have:s.ids.idxOf y=i:=by rw [←e];exact List.Nodup.idxOf_getElem hn i h1
  rw [this];exact h2
 ·intro h;exact ⟨_,hl,h,by rw [CY 0 hl,φe hl]⟩
def Gb:List Int ->List Int ->Bool
 | a::l,b::m=>if a=b then Gb l m else decide (a<b)
 | _,_=>false
def C4 (a b:List Int):Bool:=if a.length≠b.length then decide (a.length<b.length) else Gb a b
theorem NC:∀a b:List Int,Gb a b=true ->Gb b a=false
 | a::l,b::m,h=>by
  unfold Gb at h⊢
  split at h
  ·rename_i e;subst e;rw [θ rfl];exact NC l m h
  ·rename_i e
   rw [ϑ (fun h=>e h.symm)];have:=ψk h;exact ωp (by omega)
 | [],_,h=>by cases h
 | _::_,[],h=>by cases h
theorem NA:∀a b c:List Int,Gb a b=true ->Gb b c=true ->Gb a c=true
 | a::l,b::m,c::r,h1,h2=>by
  unfold Gb at h1 h2⊢
  split at h1
  ·rename_i e;subst e
   split at h2
   ·rename_i e;rw [θ e];exact NA l m r h1 h2
   ·rename_i e;rw [ϑ e];exact h2
  ·rename_i e
   have h3:=ψk h1
   split at h2
   ·rename_i e2;subst e2
    rw [ϑ e];exact h1
   ·have h4:=ψk h2;rw [ϑ (by omega)];exact ωi (by omega)
 | [],_,_,h,_=>by cases h
 | _::_,[],_,h,_=>by cases h
 | _::_,_::_,[],_,h=>by cases h
theorem NB:∀a b:List Int,a.length=b.length ->a≠b ->Gb a b=false ->Gb b a=true
 | a::l,b::m,hl,hn,h=>by
  unfold Gb at h⊢
  split at h
  ·rename_i e;subst e
   rw [θ rfl];exact NB l m (by simpa using hl) (fun h=>hn (by rw [h])) h
  ·rename_i e
   have:=of_decide_eq_false h;rw [ϑ (fun h=>e h.symm)];exact ωi (by omega)
 | [],[],_,hn,_=>absurd Z hn
 | [],_::_,hl,_,_=>by simp at hl
 | _::_,[],hl,_,_=>by simp at hl
theorem SL {a b:List Int} (h:C4 a b=true):¬C4 b a=true:=by
 unfold C4 at h⊢
 split at h
 ·rename_i e
  have:=ψk h;rw [θ (fun h=>e h.symm)]
  simp;omega
 ·rename_i e
  rw [ϑ (fun h2=>e fun h3=>h2 h3.symm),NC _ _ h];simp
theorem SJ {a b c:List Int} (h1:C4 a b=true) (h2:C4 b c=true):C4 a c=true:=by
 unfold C4 at h1 h2⊢
 split at h1
 ·have h3:=ψk h1
  split at h2
  ·have h4:=ψk h2;rw [θ (by omega)];exact ωi (by omega)
  ·rw [θ (by omega)];exact ωi (by omega)
 ·split at h2
  ·have h4:=ψk h2;rw [θ (by omega)];exact ωi (by omega)
  ·rw [ϑ (by omega)];exact NA _ _ _ h1 h2
theorem SK {a b:List Int} (hn:a≠b) (h:¬C4 a b=true):C4 b a=true:=by
 unfold C4 at h⊢
 split at h
 ·rename_i e
  have h3:¬a.length<b.length:=by simpa using h
  rw [θ (by omega)];exact ωi (by omega)
 ·rename_i e
  rw [ϑ (by omega)];exact NB a b (by omega) hn (by simpa using h)
theorem UK {α:Type} {R:α ->α ->Prop} (ha:∀a b,R a b ->¬R b a) {l m:List α} (h1:l.Pairwise R) (h2:m.Pairwise R) (h:∀x,x∈l↔x∈m):l=m:=by
 have nd:∀{l:List α},l.Pairwise R ->l.Nodup:=fun h=>h.imp fun {a b} hr e=>by subst e;exact ha _ _ hr hr
 exact List.Perm.eq_of_pairwise (fun a b _ _ h3 h4=>absurd h4 (ha a b h3)) h1 h2 ((List.perm_ext_iff_of_nodup (nd h1) (nd h2)).2 h)
def HH (n:Nat):Nat ->Nat ->List (List Nat)
 | 0,_=> [[]]
 | l+1,frm=>((List.range (n+1 - (l+1) - frm)).map (frm+ ·)).flatMap fun i=>(HH n l (i+1)).map (i:: ·)
theorem GP (n:Nat):∀(l frm x:Nat),enumX n l frm x=(HH n l frm).map (YS x)
 | 0,_,_=>rfl
 | l+1,frm,x=>by
  unfold enumX HH;rw [List.map_flatMap]
  congr 1
  funext i
  rw [GP n l (i+1),ωu]
  rfl
theorem Re {n:Nat}:∀{l frm:Nat} {P:List Nat},P∈HH n l frm ->P.length=l
 | 0,_,P,h=>by simp [HH] at h;subst h;rfl
 | l+1,frm,P,h=>by
  unfold HH at h;obtain ⟨i,_,h⟩:=χs.1 h;obtain ⟨Q,hQ,rfl⟩:=ϱ.1 h;rw [ψo,Re hQ]
theorem Lq {n:Nat}:∀{l frm:Nat} {P:List Nat},P∈HH n l frm ->P.Pairwise (· < ·)∧∀j∈P,frm≤j∧j<n
 | 0,_,P,h=>by simp [HH] at h;subst h;simp
 | l+1,frm,P,h=>by
  unfold HH at h;obtain ⟨i,hi,h⟩:=χs.1 h;obtain ⟨k,hk,rfl⟩:=ϱ.1 hi;have hk':=Ξ.1 hk;obtain ⟨Q,hQ,rfl⟩:=ϱ.1 h;obtain ⟨h1,h2⟩:=Lq hQ;refine ⟨ψy.2 ⟨fun j hj=>by have:=(h2 j hj).1;omega,h1⟩,fun j hj=>?_⟩;rcases Ψ.1 hj with rfl | hj
  ·exact ⟨by omega,by omega⟩
  ·have:=h2 j hj;omega
theorem QG {n:Nat}:∀{P:List Nat} {frm:Nat},frm≤n ->P.Pairwise (· < ·) ->(∀j∈P,frm≤j∧j<n) ->P.length≤n - frm
 | [],_,_,_,_=>ς _
 | i::P,frm,hf,hp,h=>by
  have h1:=h i ωo;obtain ⟨h2,h3⟩:=ψy.1 hp
  have:=QG (P:=P) (frm:=i+1) (by omega) h3 fun j hj=>⟨h2 j hj,(h j (ωn _ hj)).2⟩
  rw [ψo];omega
theorem Rf {n:Nat}:∀{P:List Nat} {frm:Nat},P.Pairwise (· < ·) ->(∀j∈P,frm≤j∧j<n) ->P∈HH n P.length frm
 | [],_,_,_=>by simp [HH]
 | i::P,frm,hp,h=>by
  have h1:=h i ωo;obtain ⟨h2,h3⟩:=ψy.1 hp
  have h4:∀j∈P,i+1≤j∧j<n:=fun j hj=>⟨h2 j hj,(h j (ωn _ hj)).2⟩
  have h5:=QG (P:=P) (frm:=i+1) (by omega) h3 h4;show i::P∈HH n (P.length+1) frm;unfold HH;refine χs.2 ⟨i,ϱ.2 ⟨i - frm,Ξ.2 (by omega),by omega⟩,ϱ.2 ⟨P,Rf h3 h4,Z⟩⟩
theorem Xa (a:Int) (l m:List Int):Gb (a::l) (a::m)=Gb l m:=by
 show (if a=a then Gb l m else _)=_;rw [θ rfl]
theorem Rd {n:Nat} {g:Nat ->Int} (hg:∀i j,i<j ->j<n ->g i<g j):∀l frm,((HH n l frm).map fun P=>P.map g).Pairwise fun a b=>Gb a b=true
 | 0,_=>by simp [HH]
 | l+1,frm=>by
  unfold HH;rw [List.map_flatMap,List.pairwise_flatMap]
  constructor
  ·intro i _;rw [ωu];have ih:=Rd hg l (i+1);rw [ψe] at ih⊢;refine ih.imp fun {P Q} h=>?_;show Gb (g i::P.map g) (g i::Q.map g)=true;rw [Xa];exact h
  ·rw [ψe];refine χt (fun {a b} ha hb hab x hx y hy=>?_) (List.pairwise_lt_range);obtain ⟨_,h1,rfl⟩:=ϱ.1 hx;obtain ⟨_,h2,rfl⟩:=ϱ.1 hy;obtain ⟨P,_,rfl⟩:=ϱ.1 h1;obtain ⟨Q,_,rfl⟩:=ϱ.1 h2;have hb':=Ξ.1 hb;have:=hg (frm+a) (frm+b) (by omega) (by omega);show (if g (frm+a)=g (frm+b) then _ else decide (g (frm+a)<g (frm+b)))=true;rw [ϑ (by omega)];exact ωi this
theorem PN {s:Sma} {P:List Nat} (h1:P.Pairwise (· < ·)) (h2:∀j∈P,j<s.ids.length):listS s (YS 0 P)=P.map fun i=>s.ids.getD i 0:=by
 unfold listS
 congr 1
 refine UK (R:=fun a b:Nat=>a<b) (fun a b h=>by omega) (List.Pairwise.sublist ψu List.pairwise_lt_range) h1 fun x=>?_;rw [ωb,Ξ,orB_bit];simp only [Nat.zero_testBit,Bool.false_eq_true,false_or];exact ⟨fun h=>h.2,fun h=>⟨h2 x h,h⟩⟩
def cY (s:Sma):List (List Int):=(cX s).map (listS s)
theorem YK {s:Sma} (hs:s.ids.Pairwise (· < ·)):(cY s).Pairwise fun a b=>C4 a b=true:=by
 unfold cY cX;rw [List.map_flatMap,List.pairwise_flatMap]
 have hx:∀k,∀L∈((enumX s.ids.length k 0 0).filter (admS s)).map (listS s),L.length=k:=fun k L hL=>by
  obtain ⟨y,hy,rfl⟩:=ϱ.1 hL;have hy:=(ωb.1 hy).1;rw [GP] at hy;obtain ⟨P,hP,rfl⟩:=ϱ.1 hy;have h:=Lq hP;rw [PN h.1 fun j hj=>(h.2 j hj).2,ψ,Re hP]
 constructor
 ·intro k _
  have h0:=Rd (n:=s.ids.length) (g:=fun i=>s.ids.getD i 0) (fun i j hij hj=>by
   show s.ids.getD i 0<s.ids.getD j 0;rw [CY 0 hj,CY 0 (Nat.lt_trans hij hj)]
   exact ωv.1 hs i j _ hj hij) k 0
  have h1:((enumX s.ids.length k 0 0).map (listS s)).Pairwise fun a b=>Gb a b=true:=by
   rw [GP,ωu]
   have e:(HH s.ids.length k 0).map (listS s∘YS 0)=(HH s.ids.length k 0).map fun P=>P.map fun i=>s.ids.getD i 0:=ωj fun P hP=>by
    have h:=Lq hP;exact PN h.1 fun j hj=>(h.2 j hj).2
   rw [e];exact h0
  have h2:(((enumX s.ids.length k 0 0).filter (admS s)).map (listS s)).Pairwise fun a b=>Gb a b=true:=List.Pairwise.sublist (List.filter_sublist.map _) h1;refine χt (fun {a b} ha hb hab=>?_) h2;unfold C4;rw [ϑ (by rw [hx k a ha,hx k b hb];exact fun h=>h Z)];exact hab
 ·refine χt (fun {a b} _ _ hab x hxa y hyb=>?_) (List.pairwise_lt_range);have e1:=hx a x hxa;have e2:=hx b y hyb;unfold C4;rw [θ (by omega)];exact ωi (by omega)
theorem ab {s:Sma} (y:Nat):y∈cX s↔(∃P:List Nat,P.Pairwise (· < ·)∧(∀j∈P,j<s.ids.length)∧YS 0 P=y)∧admS s y=true:=by
 unfold cX;rw [χs]
 constructor
 ·rintro ⟨k,_,h⟩;obtain ⟨h1,h2⟩:=ωb.1 h;rw [GP] at h1;obtain ⟨P,hP,e⟩:=ϱ.1 h1;have h:=Lq hP;exact ⟨⟨P,h.1,fun j hj=>(h.2 j hj).2,e⟩,h2⟩
 ·rintro ⟨⟨P,h1,h2,e⟩,h3⟩
  have hP:=Rf (n:=s.ids.length) (frm:=0) h1 fun j hj=>⟨ς _,h2 j hj⟩
  have hl:=QG (n:=s.ids.length) (P:=P) (frm:=0) (ς _) h1 fun j hj=>⟨ς _,h2 j hj⟩
  refine ⟨P.length,Ξ.2 (by omega),ωb.2 ⟨?_,h3⟩⟩;rw [GP];exact ϱ.2 ⟨P,hP,e⟩
def JY (n x:Nat):List Nat:=(List.range n).filter fun i=>x.testBit i
theorem Mj (n x:Nat):(JY n x).Pairwise (· < ·):=List.Pairwise.sublist ψu List.pairwise_lt_range
theorem Zj {n x j:Nat} (h:j∈JY n x):j<n:=Ξ.1 (ωb.1 h).1
theorem Kc {n x:Nat} (hx:x<2^n):YS 0 (JY n x)=x:=by
 refine Nat.eq_of_testBit_eq fun j=>?_
 have h:(YS 0 (JY n x)).testBit j=true↔x.testBit j=true:=by
  rw [orB_bit];simp only [Nat.zero_testBit,Bool.false_eq_true,false_or];unfold JY;rw [ωb,Ξ];refine ⟨fun h=>h.2,fun h=>⟨Classical.byContradiction fun hn=>?_,h⟩⟩;have:=Nat.testBit_lt_two_pow (ψr hx (Nat.pow_le_pow_right (by omega) (by omega:n≤j)));rw [h] at this;cases this
 cases h1:(YS 0 (JY n x)).testBit j<;>cases h2:x.testBit j<;>simp_all
theorem orB_lt {n:Nat} {P:List Nat} (h:∀j∈P,j<n):YS 0 P<2^n:=by
 refine Nat.lt_pow_two_of_testBit _ fun j hj=>?_
 cases hh:(YS 0 P).testBit j with
 | false=>rfl
 | true=>
  rcases (orB_bit P 0 j).1 hh with h1 | h1
  ·simp at h1
  ·have:=h j h1;omega
theorem PI {s:Sma} (y:Nat):y∈cX s↔y<2^s.ids.length∧admS s y=true:=by
 rw [ab]
 constructor
 ·rintro ⟨⟨P,_,h2,rfl⟩,h3⟩;exact ⟨orB_lt h2,h3⟩
 ·rintro ⟨h1,h2⟩;exact ⟨⟨JY s.ids.length y,Mj _ _,fun j hj=>Zj hj,Kc h1⟩,h2⟩
theorem ac {s:Sma} (L:List Int):L∈cY s↔∃y,y<2^s.ids.length∧admS s y=true∧L=listS s y:=by
 unfold cY;rw [ϱ]
 constructor
 ·rintro ⟨y,hy,e⟩;have h:=(PI y).1 hy;exact ⟨y,h.1,h.2,e.symm⟩
 ·rintro ⟨y,h1,h2,e⟩;exact ⟨y,(PI y).2 ⟨h1,h2⟩,e.symm⟩
theorem bF {out:List (List Int)} {x:List Int} {k:Nat} (hk:k≤out.length) (h:out.Pairwise fun a b=>C4 a b=true) (h1:∀y∈out.drop k,C4 x y=true) (h2:k=0∨∃hk:k - 1<out.length,¬C4 x out[k - 1]=true) (hx:x∉out):(out.take k++ [x]++out.drop k).Pairwise fun a b=>C4 a b=true:=by
 have h3:∀y∈out.take k,C4 y x=true:=fun y hy=>by
  rcases h2 with h2 | ⟨hk1,h2⟩
  ·subst h2;simp at hy
  ·obtain ⟨j,hj,rfl⟩:=χr.1 hy;have h4:C4 out[k - 1] x=true:=SK (fun e=>hx (e▸κ hk1)) h2;rcases χl j (k - 1) with h5 | h5
   ·exact SJ (ωv.1 h j (k - 1) (by omega) hk1 h5) h4
   ·have:j=k - 1:=by omega
    subst this;exact h4
 have h6:=h;rw [←φa k out,List.pairwise_append] at h6;rw [ψl,List.pairwise_append];refine ⟨h6.1,ψy.2 ⟨h1,h6.2.1⟩,fun a ha b hb=>?_⟩;rcases Ψ.1 hb with rfl | hb
 ·exact h3 a ha
 ·exact h6.2.2 a ha b hb
theorem ins_mem {out:List (List Int)} {x:List Int} {k:Nat} (L:List Int):L∈out.take k++ [x]++out.drop k↔L∈out∨L=x:=by
 rw [υ,υ,ξ]
 constructor
 ·rintro ((h | h) | h)
  ·exact .inl (ωy h)
  ·exact .inr h
  ·exact .inl (List.mem_of_mem_drop h)
 ·rintro (h | h)
  ·rw [←φa k out] at h;rcases υ.1 h with h | h
   ·exact .inl (.inl h)
   ·exact .inr h
  ·exact .inl (.inr h)
theorem X9 {s:Sma} (hn:s.ids.Nodup) {x y:Nat} (hx:x<2^s.ids.length) (hy:y<2^s.ids.length) (h:listS s x=listS s y):x=y:=by
 rw [←Kc hx,←Kc hy]
 congr 1
 refine UK (R:=fun a b:Nat=>a<b) (fun a b h=>by omega) (Mj _ _) (Mj _ _) fun j=>?_
 have key:∀z j,j∈JY s.ids.length z↔∃hj:j<s.ids.length,s.ids[j]∈listS s z:=fun z j=>by
  unfold JY;rw [ωb,Ξ]
  constructor
  ·rintro ⟨h1,h2⟩;exact ⟨h1,PH.2 ⟨j,h1,h2,CY 0 h1⟩⟩
  ·rintro ⟨h1,h2⟩;have:=(QB hn (κ h1)).1 h2;rw [List.Nodup.idxOf_getElem hn j h1] at this;exact ⟨h1,this⟩
 rw [key,key,h]
section
variable {β:Type} (step:β ->List Int ->β×Bool)
end
section
variable {β:Type}
end
structure Tb (s:Sma) (m:Nat) (out:List (List Int)):Prop where
 o:out.Pairwise fun a b=>C4 a b=true
 m_:∀L,L∈out↔∃y,y<m∧admS s y=true∧L=listS s y
 l:out.length≤m
theorem Tb.skip {s:Sma} {m:Nat} {out:List (List Int)} (h:Tb s m out) (ha:admS s m=false):Tb s (m+1) out:=by
 refine ⟨h.o,fun L=>?_,Nat.le_succ_of_le h.l⟩;rw [h.m_]
 constructor
 ·rintro ⟨y,h1,h2,h3⟩;exact ⟨y,by omega,h2,h3⟩
 ·rintro ⟨y,h1,h2,h3⟩;refine ⟨y,?_,h2,h3⟩;rcases χl y m with h | h
  ·exact h
  ·have:y=m:=by omega
   subst this;rw [ha] at h2;cases h2
theorem Tb.add {s:Sma} {m k:Nat} {out:List (List Int)} (h:Tb s m out) (hn:s.ids.Nodup) (hm:m<2^s.ids.length) (ha:admS s m=true) (hk:k≤out.length) (h1:∀y∈out.drop k,C4 (listS s m) y=true) (h2:k=0∨∃hk:k - 1<out.length,¬C4 (listS s m) out[k - 1]=true):Tb s (m+1) (out.take k++ [listS s m]++out.drop k):=by
 refine ⟨bF hk h.o h1 h2 fun hx=>?_,fun L=>?_,?_⟩
 ·obtain ⟨y,g1,g2,g3⟩:=(h.m_ _).1 hx;have:=X9 hn hm (Nat.lt_trans g1 hm) g3;omega
 ·rw [ins_mem,h.m_]
  constructor
  ·rintro (⟨y,g1,g2,g3⟩ | rfl)
   ·exact ⟨y,by omega,g2,g3⟩
   ·exact ⟨m,by omega,ha,Z⟩
  ·rintro ⟨y,g1,g2,g3⟩;rcases χl y m with g | g
   ·exact .inl ⟨y,g,g2,g3⟩
   ·have:y=m:=by omega
    subst this;exact .inr g3
 ·have:=h.l;rw [Δ,Δ,Υ,φm,Φ];omega
theorem Tb.done {s:Sma} {out:List (List Int)} (hs:s.ids.Pairwise (· < ·)) (h:Tb s (2^s.ids.length) out):out=cY s:=
 UK (R:=fun a b=>C4 a b=true) (fun a b h=>SL h) h.o (YK hs) fun L=>by rw [h.m_,ac]
section
variable {P:Program} {F:Fr} {s:AS} {d:Nat} {x y:Operand} {T T':TypeId} {ty:TypeId} {pos:String} {aft:Array Edge} {g:Option (Nat×Bool)} {k:IntKind} {a b:Int}
end
theorem inL_eq {l m:List Int} (h:∀x,x∈l↔x∈m):Jh l=Jh m:=funext fun x=>by
 unfold Jh;exact decide_eq_decide.2 (h x)
theorem Wk {p:Prb} {l m:List Int} (h:l.Perm m) (hv:L7 p (BC l)=[]):L7 p (BC m)=[]:=
 Qu.2 fun x hx=>by
  have:=Qu.1 hv x hx;have h2:(BC l).Perm (BC m):=h.map _;rw [KS h2] at this;exact this
structure Fea (p:Prb) (C:List Int):Prop where
 n:C.Nodup
 i:∀x∈C,x∈p.it.map AK.id
 a:blks p (Jh C)=[]
 v:L7 p (BC C)=[]
theorem Fea.perm {p:Prb} {C D:List Int} (h:Fea p C) (hp:C.Perm D):Fea p D:=
 ⟨hp.nodup_iff.1 h.n,fun x hx=>h.i x (hp.mem_iff.2 hx),by rw [←inL_eq fun x=>hp.mem_iff];exact h.a,Wk hp h.v⟩
theorem Fea.nil {p:Prb} (hp:Al p=0):Fea p []:=⟨List.nodup_nil,fun x hx=>(by cases hx),cP p,Ya hp⟩
end Go.Proofs.YteifpcnphnhaoaaGreat
namespace Go.Proofs.YteifpcnphnhaoaaGreat
open Go.RowKit Go.Shelf
set_option maxRecDepth 100000 in
theorem LB (l:List Int) (x:Int) (hl:l.length≤100000):AO Tryz.prog 25 [.d (.sl none (l.map AF)),.d (AF x)] (AN (l.count x)):=by
 refine BB Tryz.func25 Z Z Tryz.ntmps25 Z Z Z fun F hF=>(AC (AE (AB Z Z (AD (AC (AE ?_))))));refine AB Z Z (AD (AC (AC (AE (AB Z Z (AD (A5 (Gu (α:=Nat×Nat) (fun q=>⟨22,[(0,.d (.sl none (l.map AF))),(1,.d (AF x)),(5,(.d (AN q.2))),(6,(.d (AF (q.1:Int))))],[]⟩) (fun q=>q.1≤l.length∧q.2=(l.take q.1).count x) (fun q=>l.length - q.1) ((0,0)) (⟨ς _,Z⟩) (ci ⟨Z,Z,Z,Z,trivial⟩) ?_))))))));rintro ⟨k,c⟩ ⟨hk0,hc⟩;dsimp only at hk0 hc⊢;refine AC (AC (AE (goMv Z Z (goMv Z Z (J (CO Z Tryz.underlying28 Z) (J (BR Z Z Z) (AD (Ae Z (fun h10=>?_) (fun h10=>?_)))))))))
 ·have hk1:k<l.length:=Bf h10;refine A3 (AC (A5 (AC ?_)));have hct:c≤k:=by have h:=List.count_le_length (a:=x) (l:=l.take k);rw [Υ,←hc] at h;omega
  refine AE (goMv Z Z (goMv Z Z (J (Be (k) Z Z (Z) (Ah hk1) Tryz.underlying28 Z BE Z) (J (Cr Z Z Aq Z) (goMv Z Z (J (JL Z Z Z) (AD (Ae Z (fun h18=>?_) (fun h18=>?_)))))))))
  ·refine AE ?_;refine goMv Z Z (J (BA Z Z (AT (c+1) (by omega)) Z) (AB Z Z (AD (AE (goMv Z Z (J (BA Z Z (AT (k+1) (by omega)) Z) (AB Z Z (AD ?_))))))));exact ⟨(k+1,c+1),⟨hk1,by show c+1=(l.take (k+1)).count x;rw [φ hk1,List.count_append,List.count_singleton,←hc];simp [h18]⟩,by show l.length - (k+1)<l.length - k;omega,⟨Z,Z,fun _ _=>Tk.get (l:=[(0,_),(1,_),(5,_),(6,_)]) ⟨Z,Z,Z,Z,trivial⟩⟩⟩
  ·refine A3 (AE (goMv Z Z (J (BA Z Z (AT (k+1) (by omega)) Z) (AB Z Z (AD ?_)))));exact ⟨(k+1,c),⟨hk1,by show c=(l.take (k+1)).count x;rw [φ hk1,List.count_append,List.count_singleton,←hc];simp [h18]⟩,by show l.length - (k+1)<l.length - k;omega,⟨Z,Z,fun _ _=>Tk.get (l:=[(0,_),(1,_),(5,_),(6,_)]) ⟨Z,Z,Z,Z,trivial⟩⟩⟩
 ·refine BF (AC (AE (goMv Z Z (AB Z Z (AD (A8 ?_))))));exact ⟨_,[],[],A6 Z,Z,Z,by rw [hc,Θ (by have h:=h10;omega)],Z⟩
theorem few_sml {p:Prb} (h:Sml p):Ed p:=⟨by have:=h.1;omega,by have:=h.2.1;omega,fun i hi=>by have:=h.2.2 i hi;omega⟩
def Uq (W:Int ->Int ->Bool) (c:Int) (l o:List Int):List Int:=l.foldl (fun o x=>if (!decide (x∈o) && W c x)=true then o++ [x] else o) o
theorem LG {W:Int ->Int ->Bool} {c a:Int} {l o:List Int}:Uq W c (a::l) o=Uq W c l (if (!decide (a∈o) && W c a)=true then o++ [a] else o):=rfl
theorem bfs1_mem {W:Int ->Int ->Bool} {c:Int}:∀(l o:List Int) (x:Int),x∈Uq W c l o↔x∈o∨(x∈l∧W c x=true)
 | [],o,x=>by unfold Uq;simp
 | a::l,o,x=>by
  have ih:=bfs1_mem (W:=W) (c:=c) l (if (!decide (a∈o) && W c a)=true then o++ [a] else o) x;rw [LG,ih,Ψ]
  by_cases h:(!decide (a∈o) && W c a)=true
  ·rw [θ h,υ,ξ];simp only [ωa] at h
   constructor
   ·rintro ((h1 | rfl) | h1)
    ·exact .inl h1
    ·exact .inr ⟨.inl Z,h.2⟩
    ·exact .inr ⟨.inr h1.1,h1.2⟩
   ·rintro (h1 | ⟨rfl | h1,h2⟩)
    ·exact .inl (.inl h1)
    ·exact .inl (.inr Z)
    ·exact .inr ⟨h1,h2⟩
  ·rw [ϑ h]
   constructor
   ·rintro (h1 | h1)
    ·exact .inl h1
    ·exact .inr ⟨.inr h1.1,h1.2⟩
   ·rintro (h1 | ⟨rfl | h1,h2⟩)
    ·exact .inl h1
    ·refine .inl (Classical.byContradiction fun hn=>h ?_);rw [h2,ωp hn];rfl
    ·exact .inr ⟨h1,h2⟩
theorem TV {W:Int ->Int ->Bool} {c:Int}:∀(l o:List Int),o<+:Uq W c l o
 | [],o=>List.prefix_refl o
 | a::l,o=>by
  rw [LG];refine List.IsPrefix.trans ?_ (TV l _)
  split
  ·exact List.prefix_append _ _
  ·exact List.prefix_refl o
theorem Ni {W:Int ->Int ->Bool} {c:Int}:∀(l o:List Int),o.Nodup ->(Uq W c l o).Nodup
 | [],o,h=>h
 | a::l,o,h=>by
  rw [LG];refine Ni l _ ?_
  split
  ·rename_i h2
   rw [ωa] at h2;have hn:a∉o:=by simpa using h2.1
   rw [χn];exact ⟨h,by simp,fun x hx y hy e=>hn (by rw [ξ.1 hy] at e;exact e▸hx)⟩
  ·exact h
structure BI (l:List Int) (a:Int) (i:Nat) (o:List Int):Prop where
 le:i≤o.length
 nd:o.Nodup
 sb:∀x∈o,x∈a::l
theorem BI.len {l:List Int} {a:Int} {i:Nat} {o:List Int} (h:BI l a i o):o.length≤l.length+1:=by
 have:=cb h.nd h.sb
 rwa [ψo] at this
theorem BI.step {W:Int ->Int ->Bool} {l:List Int} {a:Int} {i:Nat} {o:List Int} (h:BI l a i o) (hi:i<o.length) (c:Int):BI l a (i+1) (Uq W c l o):=
 ⟨ωe hi (TV l o).length_le,Ni l o h.nd,fun x hx=>by
  rcases (bfs1_mem l o x).1 hx with h1 | h1
  ·exact h.sb x h1
  ·exact ωn _ h1.1⟩
inductive RcI (W:Int ->Int ->Bool) (l:List Int) (a:Int):Int ->Prop
 | refl:RcI W l a a
 | step {y x:Int} (h:RcI W l a y) (hx:x∈l) (hw:W y x=true):RcI W l a x
end Go.Proofs.YteifpcnphnhaoaaGreat
