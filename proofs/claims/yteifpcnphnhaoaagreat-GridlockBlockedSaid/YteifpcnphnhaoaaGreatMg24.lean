import Derived.Test.YteifpcnphnhaoaaGreatMg23
namespace Go.Proofs.YteifpcnphnhaoaaGreat
open Go.RowKit
set_option maxRecDepth 100000
abbrev QC (l:List Int):D:= .sl none (l.map AF)
abbrev Xj (l:List (List Int)):D:= .sl none (l.map QC)
def idT (k:Nat):Nat ->Nat:=fun j=>if j<k then j else 0
theorem bf (k:Nat):Ar (idT k) k k=idT (k+1):=by
 funext j
 by_cases e:j=k
 ·subst e;rw [KH];unfold idT;rw [θ (by omega)]
 ·rw [GL e];unfold idT
  by_cases hj:j<k
  ·rw [θ hj,θ (by omega)]
  ·rw [ϑ hj,ϑ (by omega)]
theorem be:(fun _:Nat=>0)=idT 0:=by funext j;unfold idT;rw [ϑ (by omega)]
def OR (f:Nat ->Nat) (k j:Nat):List Nat:=(List.range j).filter fun i=>decide (f i=k)
theorem bP {f:Nat ->Nat} {k j:Nat} (h:f j=k):OR f k (j+1)=OR f k j++ [j]:=by unfold OR;rw [ψm,ψc];simp [h]
theorem Xs {f:Nat ->Nat} {k j:Nat} (h:¬f j=k):OR f k (j+1)=OR f k j:=by unfold OR;rw [ψm,ψc];simp [h]
theorem bO (f:Nat ->Nat) (k j:Nat):(OR f k j).length≤j:=ωf (ωj _ _) (by rw [ωh];exact ϖ _)
theorem Cn.trans {rs:List AP} {E:List (AK×Nat)} {i j k:Nat} (h:Cn rs E i j) (h':Cn rs E j k):Cn rs E i k:=Rh.trans h h'
abbrev Wy (rs:List AP) (E:List (AK×Nat)) (i:Nat):List AP:=(dR rs (Dg E i)).map Prod.fst
theorem cn_rsc {rs:List AP} {E:List (AK×Nat)} {i j:Nat} {r:AP} (hi:i<E.length) (hj:j<E.length) (h1:r∈Wy rs E i) (h2:r∈Wy rs E j):Cn rs E i j:=Rh.one (Ds.2 ⟨hi,hj,.inr (.inr ⟨r,h1,h2⟩)⟩)
theorem cn_aft {rs:List AP} {E:List (AK×Nat)} {i j:Nat} (hi:i<E.length) (hj:j<E.length) (h:(Dg E i).id∈(Dg E j).af):Cn rs E i j:=Rh.one (Ds.2 ⟨hi,hj,.inr (.inl h)⟩)
structure AllJ (rs:List AP) (E:List (AK×Nat)) (f:Nat ->Nat):Prop where
 uf:UF E.length (Cn rs E) f
 us:∃U,O5 rs E (fun i r=>i<E.length∧r∈Wy rs E i) U f
 af:∀i,i<E.length ->∀j,j<E.length ->(Dg E j).id∈(Dg E i).af ->f j=f i
theorem AllJ.full {rs:List AP} {E:List (AK×Nat)} {f:Nat ->Nat} (h:AllJ rs E f):∀i j,i<E.length ->j<E.length ->Cn rs E i j ->f i=f j:=fun i j hi hj hC=>by
 obtain ⟨U,hU⟩:=h.us;refine (Rh.clos (p:=fun x=>f i=f x) (fun v hv y hy=>?_) hC Z);obtain ⟨h1,h2,h3⟩:=Ds.1 hy;rw [hv];rcases h3 with h3 | h3 | ⟨r,h3,h4⟩
 ·exact (h.af v h1 y h2 h3).symm
 ·exact h.af y h2 v h1 h3
 ·rw [←(hU.has v r ⟨h1,h3⟩).2,(hU.has y r ⟨h2,h4⟩).2]
theorem bd {E:List (AK×Nat)} {its:List AK} (h:(its.map AK.id).Nodup) {q:AK ->Bool} (hE:E.map Prod.fst=its.filter q):IdI E:=fun i j hi hj e=>by
 have h1:((E.map Prod.fst).map AK.id).Nodup:=by rw [hE];exact List.Nodup.sublist (List.Sublist.map _ ψq) h
 rw [Df hi,Df hj] at e;rw [List.Nodup,ωz] at h1
 have key:∀a b,a<b ->(hb:b<E.length) ->(ha:a<E.length) ->(E[a]).1.id≠(E[b]).1.id:=fun a b hab hb ha=>by
  have:=h1 a b (by simpa using ha) (by simpa using hb) hab
  simpa using this
 rcases Nat.lt_trichotomy i j with h2 | h2 | h2
 ·exact absurd e (key i j h2 hj hi)
 ·exact h2
 ·exact absurd e.symm (key j i h2 hi hj)
noncomputable def compL (rs:List AP) (E:List (AK×Nat)):List (List Int):=(clsN E.length (Cn rs E)).map (E2 E)
set_option maxHeartbeats 4000000 in
theorem comp_c (p:Prb) (l:List Int) (hf:DW p) (hl:l.length≤100000) (hC:DU p l=0) (hE:Ad p=0) (hn:l.Nodup):
  AM Tryz.prog 23 [.d (Bq p),.d (QC l)] [] fun r H'=>∃E:List (AK×Nat),E.map Prod.fst=(ordP p).filter (fun i=>decide (i.id∈l))∧r= .d (.tup [Xj (compL (rsP p) E),AF 0])∧H'=[]:=by
 have hi30:=hf.i;have hck:=YR p l hf.b hl (by omega);rw [hC] at hck;have hids:((ordP p).map AK.id).Nodup:=F1 hE;have hol:(ordP p).length≤30:=by rw [show ordP p=sortO p.it from θ hE,Cw];exact hi30
 have hxm:∀i∈ordP p,i∈p.it:=fun i hi=>by rw [show ordP p=sortO p.it from θ hE] at hi;exact (Qd p.it).mem_iff.1 hi
 refine Az Tryz.func23 Z Z Tryz.ntmps23 Z Z Z fun F hF=>(AC (AE (V (CC 1 Z Z Z Z Z Z Z) (AB Z Z (AB Z Z (AD ?_))))));refine AC (AC (AE (J (BM Z Z B2 Z Z Z) (goMv Z Z (J (B4 (hck) Z Z) (AB Z Z (AD (AC ?_))))))));refine AE (goMv Z Z (J (DX Z Z Z) (AD (EN Z (ωp (by decide)) (A1 (AC (Cb [[],[],[1],[0,1,2],[0,1,2,3]] mixed Z (dwx3 (γ:=Nat×MF) 3 (fun q=>⟨154,[(2,.ptr 1 0 0),(35,.d (Bq p)),(37,.d (Wv q.1))],[(41,[.multi q.2])]⟩) (fun q=>I6 q.2 q.1 l) Z Z Z ?_ ?_ (fun a hI=>?_)))))))))
 ·refine J (BM Z Z B2 Z Z Z) (AD ⟨Z,?_⟩);refine goMv Z Z (AD ⟨Z,?_⟩);refine CY (Wm (Fo l hn (by omega)) Z [41] ⟨Z,trivial⟩ Z Z Z Z (fun r H' ⟨b,N,e1,e2,_⟩=>by subst e1 e2;exact ⟨Z,Z,Z⟩) Z) Z ?_;rintro _ ⟨r,H',⟨b,N,e1,e2,hW⟩,rfl⟩;subst e1 e2;refine AD ⟨Z,?_⟩;exact ⟨(b,N),hW,A0 hF [41] Z Z ⟨Z,Z,Z,trivial⟩⟩
 ·refine goMv Z Z (AD ⟨Z,?_,?_⟩)
  ·refine J (BM Z Z B2 Z Z Z) (AD ⟨Z,?_⟩);refine CY (Wm (Fo l hn (by omega)) Z [41] ⟨Z,trivial⟩ Z Z Z Z (fun r H' ⟨b,N,e1,e2,_⟩=>by subst e1 e2;exact ⟨Z,Z,Z⟩) Z) Z ?_;rintro _ ⟨r,H',⟨b,N,e1,e2,hW⟩,rfl⟩;subst e1 e2;refine AD ⟨Z,?_⟩;exact ⟨(b,N),hW,A0 hF [41] Z Z ⟨Z,Z,Z,trivial⟩⟩
  ·refine CY (Wm (Fo l hn (by omega)) Z [41] ⟨Z,trivial⟩ Z Z Z Z (fun r H' ⟨b,N,e1,e2,_⟩=>by subst e1 e2;exact ⟨Z,Z,Z⟩) Z) Z ?_;rintro _ ⟨r,H',⟨b,N,e1,e2,hW⟩,rfl⟩;subst e1 e2;refine AD ⟨Z,?_⟩;refine J (BM Z Z B2 Z Z Z) (AD ⟨Z,?_⟩);exact ⟨(b,N),hW,A0 hF [41] Z Z ⟨Z,Z,Z,trivial⟩⟩
 ·obtain ⟨b,N⟩:=a;have hW:I6 N b l:=hI;refine Aa 4 Z Z ?_;refine CY (Wm (P3 p hE hf WF [pD b 0] N (fun id=>decide (id∈l)) (Hw hW)) Z [41,40] ⟨Z,Z,trivial⟩ Z Z Z Z (fun r H' ⟨E,M,e1,e2,_⟩=>by subst e1 e2;exact ⟨Z,Z,Z⟩) Z) Z ?_;rintro _ ⟨r,H',⟨E,M,e1,e2,hR,hEq⟩,rfl⟩;subst e1 e2;refine AD ⟨Z,?_⟩;refine Aa 5 Z Z (AB Z Z (AD ⟨Z,?_⟩));refine C9 (AC ?_)
  obtain ⟨n,hnE⟩:∃n,E.length=n:=⟨_,Z⟩
  have hn30:n≤30:=by have h1:(E.map Prod.fst).length≤(ordP p).length:=(by rw [hEq];exact ωj _ _);rw [ψ,hnE] at h1;omega
  have hIt:∀k,k<n ->Dg E k∈ordP p:=fun k hk=>by have h1:Dg E k∈E.map Prod.fst:=(by rw [Df (by omega)];exact χv (κ _));rw [hEq] at h1;exact (Ω.1 h1).1
  have hId:IdI E:=bd hids hEq;have hlE:(E.map Cg).length=n:=by rw [ψ,hnE]
  refine AE (goMv Z Z (J (JE Z hlE Tryz.underlying122 Z) (V (EY 2 BW Z Z Z (by omega) zd3 Z Z Z Z) ?_)));rw [repN,be];refine V (CD 3 zl28 Z Z Z Z) (V (Be Z Z Z Z Z Z Z Ce) (AD ?_));refine AC (AC (AE (J (A6 Z Z Z BI Z) (J (KM Z Tryz.underlying28 Z) (goMv Z Z (AD (A4 (B5 (α:=Nat) (fun k=>⟨154,[(7,(.d (.sl none (E.map Cg)))),(8,(.ptr 3 0 0)),(43,(.d (AN n))),(44,(.d (AN k)))],[(2,[.rowD 3 1 (rowN n (idT k))]),(3,[.blk 28 [.own 2 0 n]]),(40,[.multi M])]⟩) (fun k=>k≤n) (fun k=>n - k) (0) (Δ _) (A0 hF [2,3,40] Z Z ⟨Z,Z,Z,Z,trivial⟩) ?_))))))));rintro k hk;refine AC (AE (J (BV Z Z Z) (AD (AC (Ae Z (fun h45=>?_) (fun h45=>?_))))))
  ·refine A1 (AC (A4 (AC ?_)));have hkl:k<n:=Bf h45;refine AE ?_;refine goMv Z Z (AB Z Z (AD (AE (J (A6 Z Z Z BI Z) (goMv Z Z (goMv Z Z (J (Br (k) Z Z (Z) (hkl) Z Tryz.underlying28 BA Z) (V (Qe Z Z Z Z Z (by rw [dE];exact hkl) dF Z BA) ?_))))))));rw [bf];refine AD (AE (J (Ay Z Z (AT (k+1) (by omega)) Z) (goMv Z Z (AD ?_))));exact ⟨k+1,hkl,by omega,A0 hF [2,3,40] Z (Z) ⟨Z,Z,Z,Z,trivial⟩⟩
  ·refine BC (AC ?_);have hke:k=n:=by have:=h45;omega
   rw [Oo (f:=idT k) (h:=fun j=>j) fun j hj=>θ (by omega)];refine AE (J (Zcy Z Z) ?_);refine AB Z Z (AD (AC (AE (V (Pb 50 Z Z Z Z) (V (Pb 51 Z Z Z Z) (AB Z Z (AB Z Z (AD ?_))))))));refine AC (AC (AE (goMv Z Z (J (JE Z hlE Tryz.underlying122 Z) (goMv Z Z (AD (A4 (B5 (α:=Nat×List (AP×Nat)×(Nat ->Nat)) (fun q=>⟨154,[(7,(.d (.sl none (E.map Cg)))),(8,(.ptr 3 0 0)),(10,(.fn 67 [.ptr 3 0 0])),(11,(.map 50 0)),(12,(.map 51 0)),(55,(.d (.sl none (E.map Cg)))),(56,(.d (AN n))),(57,(.d (AN q.1)))],[(2,[.rowD 3 1 (rowN n q.2.2)]),(3,[.blk 28 [.own 2 0 n]]),(50,[BH CV AN q.2.1]),(51,[BH AF AN (La E q.1)]),(40,[.multi M])]⟩) (fun q=>q.1≤n∧UF n (Cn (rsP p) E) q.2.2∧O5 (rsP p) E (fun i r=>i<q.1∧r∈Wy (rsP p) E i) q.2.1 q.2.2) (fun q=>n - q.1) ((0,[],fun j=>j)) (⟨Δ _,UF.id n fun i=>Rh.refl i,(O5.zero _ _ _).mono fun i r h=>by have:=h.1;omega⟩) (A0 hF [2,3,50,51,40] Z Z ⟨Z,Z,Z,Z,Z,Z,Z,Z,trivial⟩) ?_))))))));rintro ⟨k,U,f⟩ ⟨hk,hU,hS⟩;dsimp only at hk hU hS⊢;refine AC (AE (J (BV Z Z Z) (AD (AC (Ae Z (fun h58=>?_) (fun h58=>?_))))))
   ·refine A1 (AC (A4 (AC ?_)));have hkl:k<n:=Bf h58;have hkE:k<E.length:=by omega
    have hek:=κ hkE;refine AE (goMv Z Z (J (Bk (k) Z Z (Z) (Ah hkE) Tryz.underlying122 Z Gr Z) (J (GN Z Z LK Z) (V (CD 4 MN Z Z Z Z) (AB Z Z (V (Be Z Z Z Z Z Z Z Gr) ?_))))));refine AD (AC (AE (goMv Z Z (J (AZ Z IT Z Z Z) (J (AZ Z OC Z Z Z) (J (A6 Z Z Z Aq Z) (goMv Z Z (V (Tk (La E k) ((E[k]).1.id) (k) Z Z Z mt128 HE Z Z) ?_))))))));rw [show Au (La E k) (E[k]).1.id k=La E (k+1) by rw [←Df hkE];exact plc_put hId hkE];refine AD (AC ?_)
    obtain ⟨L,hLe⟩:∃L,dR (rsP p) (E[k]).1=L:=⟨_,Z⟩
    have hRk:=hR _ hek;rw [hLe] at hRk;have hus:Wy (rsP p) E k=L.map Prod.fst:=by rw [←hLe,←Df hkE]
    refine Pa 40 (E[k]).2 Z hRk (fun _ _=>rfl) fun B c hB hBn=>?_
    obtain ⟨M1,hM1⟩:∃M1,BO M (E[k]).2 (.map (some (B,c)) (Lb L))=M1:=⟨_,Z⟩
    rw [hM1];have h1k:M1 (E[k]).2=some (.map (some (B,c)) (Lb L)):=by rw [←hM1,EX]
    refine AE (J (AZ Z MB Z Z Z) (J (A6 Z Z Z Vr Z) (V (Oe 5 (f:=40) Z Z h1k Z Bs Z Z Z Z) (AD (A4 (B5 (α:=List Nat×List (AP×Int)×List (AP×Nat)×(Nat ->Nat)) (fun q=>⟨154,[(7,(.d (.sl none (E.map Cg)))),(8,(.ptr 3 0 0)),(10,(.fn 67 [.ptr 3 0 0])),(11,(.map 50 0)),(12,(.map 51 0)),(13,(.d (AN k))),(55,(.d (.sl none (E.map Cg)))),(56,(.d (AN n))),(57,(.d (AN k))),(69,(.ptr 5 0 0))],[(5,[.iter 40 (E[k]).2 c q.1]),(2,[.rowD 3 1 (rowN n q.2.2.2)]),(3,[.blk 28 [.own 2 0 n]]),(50,[BH CV AN q.2.2.1]),(51,[BH AF AN (La E (k+1))]),(40,[.multi M1])]⟩) (fun q=>(q.2.1++Bo L B q.1).Perm L∧UF n (Cn (rsP p) E) q.2.2.2∧O5 (rsP p) E (fun i r=>(i<k∧r∈Wy (rsP p) E i)∨(i=k∧r∈q.2.1.map Prod.fst)) q.2.2.1 q.2.2.2) (fun q=>(Bo L B q.1).length) (([],[],U,f)) (⟨by show ([]++Bo L B []).Perm L;rw [Cy (by simpa [BN] using hB)];exact List.Perm.refl _,hU,hS.mono fun i r h=>h.elim id fun h=>by simp at h⟩) (A0 hF [5,2,3,50,51,40] Z Z ⟨Z,Z,Z,Z,Z,Z,Z,Z,Z,Z,trivial⟩) ?_))))));rintro ⟨seen,acc,U,f⟩ ⟨hP,hU,hS⟩;dsimp only at hP hU hS⊢;refine AC (AE (Vu (L) Z Z Z (h1k) Z (fun hl70=>?_) (fun j70 b70 k70 v70 hm70 hb70 hB70 hp70=>⟨_,Z,?_⟩)))
    ·rw [hl70] at hP;have hPm:∀r,r∈acc.map Prod.fst↔r∈Wy (rsP p) E k:=fun r=>by rw [hus];exact ((show acc.Perm L by simpa using hP).map Prod.fst).mem_iff
     refine Ls 40 (E[k]).2 Z h1k Z ?_;rw [show BO M1 (E[k]).2 (.map none (Lb L))=M by rw [←hM1,G2];exact PJ hRk];refine J (Cc Z Z Z) (AD (AC (EN Z Z (BC (AE (J (Ay Z Z (AT (k+1) (by omega)) Z) (goMv Z Z (AD ?_))))))));exact ⟨(k+1,U,f),⟨hkl,hU,hS.mono fun i r ⟨h1,h2⟩=>(Nat.decEq i k).byCases (fun e=>by subst e;exact .inr ⟨Z,(hPm r).2 h2⟩) fun e=> .inl ⟨by omega,h2⟩⟩,by show n - (k+1)<n - k;omega,A0 hF [2,3,50,51,40] Z (Z) ⟨Z,Z,Z,Z,Z,Z,Z,Z,trivial⟩⟩
    ·refine J (Cc Z Z Z) (AD (AC (DV Z Z (A1 (A4 (AC ?_))))));have hku:k70∈Wy (rsP p) E k:=by rw [hus];exact χv (f:=Prod.fst) (bJ hm70)
     have hstep:∀i s,((i<k∧s∈Wy (rsP p) E i)∨(i=k∧s∈(acc++ [(k70,v70)]).map Prod.fst)) ->((i<k∧s∈Wy (rsP p) E i)∨(i=k∧s∈acc.map Prod.fst))∨(i=k∧s=k70):=fun i s h=>h.elim (fun h=> .inl (.inl h)) fun ⟨e,h⟩=>by rw [ωe,υ] at h;exact h.elim (fun h=> .inl (.inr ⟨e,h⟩)) fun h=> .inr ⟨e,by simpa using h⟩
     refine AE (J (Oj (L) j70 b70 Z Z Z (h1k) hm70 hb70 Z) (J (Cc Z Z Z) (V (CD 6 KN Z Z Z Z) ?_)));refine V (Be Z Z Z Z Z Z Z ZE) (AD (AC (AE (goMv Z Z (J (BM Z Z CU Z Z Z) (J (Oh (U) (k70) (0) Z Z Z mt127 CI za3 Z) (goMv Z Z (J (Cc Z Z Z) ?_))))))));refine J (Cc Z Z Z) (AB Z Z (AB Z Z (AD (AC (AE (goMv Z Z (AD (KK Z (fun h80=>?_) (fun h80=>?_)))))))))
     ·have hkU:k70∈U.map Prod.fst:=FF.1 h80;obtain ⟨hu1,hu2⟩:=hS.ok _ (mget_ok hkU);rw [hnE] at hu1;have hCk:=cn_rsc (by omega) hkE hu2 hku;refine AE (goMv Z Z (goMv Z Z (goMv Z Z (V (Yc ((WO n f (A2 U k70 0) k hu1 hkl (by omega)).by [(930,3),(931,2)] Z) Z [3,2] ⟨Z,Z,trivial⟩ Z Z Z Z Z Z Z Z Z) (AD ?_)))));exact ⟨(seen++ [b70],acc++ [(k70,v70)],U,_),⟨IE hP hp70,hU.join (fun _ _ _=>Cn.trans) (fun _ _=>Cn.symm) hu1 hkl hCk,hS.join hkU hstep⟩,by show (Bo L B (seen++ [b70])).length<(Bo L B seen).length;rw [hp70.length_eq];exact χl _,A0 hF [5,2,3,50,51,40] Z (Z) ⟨Z,Z,Z,Z,Z,Z,Z,Z,Z,Z,trivial⟩⟩
     ·refine AE (goMv Z Z (J (BM Z Z CU Z Z Z) (goMv Z Z (V (Tk (U) (k70) (k) Z Z Z mt127 CI Z Z) (AD ?_)))));exact ⟨(seen++ [b70],acc++ [(k70,v70)],Au U k70 k,f),⟨IE hP hp70,hU,hS.new (fun hm=>by rw [FF.2 hm] at h80;cases h80) hkE hku hstep⟩,by show (Bo L B (seen++ [b70])).length<(Bo L B seen).length;rw [hp70.length_eq];exact χl _,A0 hF [5,2,3,50,51,40] Z (Z) ⟨Z,Z,Z,Z,Z,Z,Z,Z,Z,Z,trivial⟩⟩
   ·refine BC (AC (AC ?_));have hke:k=n:=by have:=h58;omega
    rw [hke]
    have hS':O5 (rsP p) E (fun i r=>i<E.length∧r∈Wy (rsP p) E i) U f:=hS.mono fun i r ⟨h1,h2⟩=>⟨by omega,h2⟩
    refine AE (goMv Z Z (J (JE Z hlE Tryz.underlying122 Z) (goMv Z Z (AD (A4 (B5 (α:=Nat×(Nat ->Nat)) (fun q=>⟨154,[(7,(.d (.sl none (E.map Cg)))),(8,(.ptr 3 0 0)),(10,(.fn 67 [.ptr 3 0 0])),(12,(.map 51 0)),(89,(.d (.sl none (E.map Cg)))),(90,(.d (AN n))),(91,(.d (AN q.1)))],[(2,[.rowD 3 1 (rowN n q.2)]),(3,[.blk 28 [.own 2 0 n]]),(51,[BH AF AN (La E n)])]⟩) (fun q=>q.1≤n∧UF n (Cn (rsP p) E) q.2∧O5 (rsP p) E (fun i r=>i<E.length∧r∈Wy (rsP p) E i) U q.2∧∀i,i<q.1 ->∀j,j<n ->(Dg E j).id∈(Dg E i).af ->q.2 j=q.2 i) (fun q=>n - q.1) ((0,f)) (⟨Δ _,hU,hS',fun i hi=>by omega⟩) (A0 hF [2,3,51] Z Z ⟨Z,Z,Z,Z,Z,Z,Z,trivial⟩) ?_))))));rintro ⟨k,f⟩ ⟨hk,hU,hS,hA⟩;dsimp only at hk hU hS hA⊢;refine AC (AE (J (BV Z Z Z) (AD (AC (Ae Z (fun h92=>?_) (fun h92=>?_))))))
    ·refine A1 (AC (A4 (AC ?_)));have hkl:k<n:=Bf h92;have hkE:k<E.length:=by omega
     have hek:=κ hkE;have hIk:=hIt k hkl;rw [Df hkE] at hIk;have haf:=(hf.x _ (hxm _ hIk)).2.2;refine AE (goMv Z Z (J (Bk (k) Z Z (Z) (Ah hkE) Tryz.underlying122 Z Gr Z) (J (GN Z Z LK Z) (V (CD 4 MN Z Z Z Z) (AB Z Z (V (Be Z Z Z Z Z Z Z Gr) (AD (AC ?_))))))));refine AE (J (AZ Z IT Z Z Z) (J (AZ Z FH Z Z Z) (J (A6 Z Z Z BI Z) (J (CM Z Tryz.underlying28 Z) (goMv Z Z (AD (A4 (B5 (α:=Nat×(Nat ->Nat)) (fun q=>⟨154,[(7,(.d (.sl none (E.map Cg)))),(8,(.ptr 3 0 0)),(10,(.fn 67 [.ptr 3 0 0])),(12,(.map 51 0)),(18,(.d (AN k))),(89,(.d (.sl none (E.map Cg)))),(90,(.d (AN n))),(91,(.d (AN k))),(98,(.d (QC (E[k]).1.af))),(99,(.d (AN (E[k]).1.af.length))),(100,(.d (AN q.1)))],[(2,[.rowD 3 1 (rowN n q.2)]),(3,[.blk 28 [.own 2 0 n]]),(51,[BH AF AN (La E n)])]⟩) (fun q=>q.1≤(E[k]).1.af.length∧UF n (Cn (rsP p) E) q.2∧O5 (rsP p) E (fun i r=>i<E.length∧r∈Wy (rsP p) E i) U q.2∧(∀i,i<k ->∀j,j<n ->(Dg E j).id∈(Dg E i).af ->q.2 j=q.2 i)∧∀j,j<n ->(Dg E j).id∈(E[k]).1.af.take q.1 ->q.2 j=q.2 k) (fun q=>(E[k]).1.af.length - q.1) ((0,f)) (⟨Δ _,hU,hS,hA,fun j hj hm=>by simp at hm⟩) (A0 hF [2,3,51] Z Z ⟨Z,Z,Z,Z,Z,Z,Z,Z,Z,Z,Z,trivial⟩) ?_))))))));rintro ⟨j8,f⟩ ⟨hj8,hU,hS,hA,hD⟩;dsimp only at hj8 hU hS hA hD⊢;refine AC (AE (J (BV Z Z Z) (AD (AC (Ae Z (fun h101=>?_) (fun h101=>?_))))))
     ·refine A1 (AC (A4 (AC ?_)));have hjl:j8<(E[k]).1.af.length:=Bf h101;refine AE (J (Bk (j8) Z Z (Z) (Ah hjl) Tryz.underlying28 Z BA Z) (J (D0 Z Z Aq Z) ?_));refine AB Z Z (AD (AC (AE (goMv Z Z (goMv Z Z (J (Oh (La E n) ((E[k]).1.af[j8]) (0) Z Z Z mt128 HE za3 Z) (goMv Z Z (J (Cc Z Z Z) ?_))))))));refine J (Cc Z Z Z) (AB Z Z (AB Z Z (AD (AC (AE (goMv Z Z (AD (KK Z (fun h110=>?_) (fun h110=>?_)))))))))
      ·have hkP:=FF.1 h110;have hpg:=Ve hId (x:=(E[k]).1.af[j8]) (by rw [hnE];exact hkP);rw [hnE] at hpg;obtain ⟨hu1,hu2⟩:=hpg;have hCk:=cn_aft (rs:=rsP p) (i:=A2 (La E n) (E[k]).1.af[j8] 0) (j:=k) (by omega) hkE (by rw [hu2,Df hkE];exact κ hjl);refine AE ?_;refine goMv Z Z (goMv Z Z (goMv Z Z (V (Yc ((WO n f (A2 (La E n) (E[k]).1.af[j8] 0) k hu1 hkl (by omega)).by [(930,3),(931,2)] Z) Z [3,2] ⟨Z,Z,trivial⟩ Z Z Z Z Z Z Z Z Z) (AD (AE (J (Ay Z Z (AT (j8+1) (by omega)) Z) (goMv Z Z (AD ?_))))))));exact ⟨(j8+1,_),⟨hjl,hU.join (fun _ _ _=>Cn.trans) (fun _ _=>Cn.symm) hu1 hkl hCk,hS.keep fun _ _ h=>G6 h,fun i hi j hj hm=>G6 (hA i hi j hj hm),fun j hj hm=>by rw [φ hjl,υ] at hm;exact hm.elim (fun h=>G6 (hD j hj h)) fun h=>by have h3:=(aF hId (show j<E.length by omega)).2;rw [ξ.1 h,hnE] at h3;rw [←h3];exact PS⟩,by show (E[k]).1.af.length - (j8+1)<(E[k]).1.af.length - j8;omega,A0 hF [2,3,51] Z (Z) ⟨Z,Z,Z,Z,Z,Z,Z,Z,Z,Z,Z,trivial⟩⟩
      ·refine A1 (AE (J (Ay Z Z (AT (j8+1) (by omega)) Z) (goMv Z Z (AD ?_))));exact ⟨(j8+1,f),⟨hjl,hU,hS,hA,fun j hj hm=>by rw [φ hjl,υ] at hm;exact hm.elim (hD j hj) fun h=>absurd (FF.2 (by have h3:=(aF hId (show j<E.length by omega)).1;rw [ξ.1 h,hnE] at h3;exact h3)) (by rw [h110];decide)⟩,by show (E[k]).1.af.length - (j8+1)<(E[k]).1.af.length - j8;omega,A0 hF [2,3,51] Z (Z) ⟨Z,Z,Z,Z,Z,Z,Z,Z,Z,Z,Z,trivial⟩⟩
     ·refine BC (AE (J (Ay Z Z (AT (k+1) (by omega)) Z) (goMv Z Z (AD ?_))));exact ⟨(k+1,f),⟨hkl,hU,hS,fun i hi j hj hm=>(Nat.decEq i k).byCases (fun e=>by subst e;exact hD j hj (by rw [Df hkE] at hm;have hje:j8=(E[i]).1.af.length:=(by have:=h101;omega);rw [hje,ωw];exact hm)) fun e=>hA i (by omega) j hj hm⟩,by show n - (k+1)<n - k;omega,A0 hF [2,3,51] Z (Z) ⟨Z,Z,Z,Z,Z,Z,Z,trivial⟩⟩
    ·refine BC (AC ?_);have hke:k=n:=by have:=h92;omega
     have hall:AllJ (rsP p) E f:=⟨by rw [hnE];exact hU,⟨U,hS⟩,fun i hi j hj hm=>hA i (by omega) j (by omega) hm⟩
     have hcls:(J8 n n f).map (E2 E)=compL (rsP p) E:=by unfold compL;rw [←lab_cls hall.uf hall.full,hnE]
     refine AE (AB Z Z (AD (AC ?_)));refine AC (AE (goMv Z Z (J (JE Z hlE Tryz.underlying122 Z) (goMv Z Z (AD (A4 (O4 24 10 RX Z Z Z Z (B5 (α:=Nat×List (List Int)) (fun q=>⟨154,[(7,(.d (.sl none (E.map Cg)))),(8,(.ptr 3 0 0)),(24,(.own 10 0 q.2.length)),(117,(.d (.sl none (E.map Cg)))),(118,(.d (AN n))),(119,(.d (AN q.1)))],[(10,[.rowD 28 1 (q.2.map QC)]),(2,[.rowD 3 1 (rowN n f)]),(3,[.blk 28 [.own 2 0 n]])]⟩) (fun q=>q.1≤n∧q.2=(J8 n q.1 f).map (E2 E)) (fun q=>n - q.1) ((0,[])) (⟨Δ _,Z⟩) (A0 hF [10,2,3] Z Z ⟨Z,Z,Z,Z,Z,Z,trivial⟩) ?_))))))));rintro ⟨k,T⟩ ⟨hk,hT⟩;dsimp only at hk hT⊢;refine AC (AE (J (BV Z Z Z) (AD (AC (Ae Z (fun h120=>?_) (fun h120=>?_))))))
     ·refine A1 (AC (A4 (AC ?_)));have hkl:k<n:=Bf h120;have hTl:T.length≤30:=by have:=bM n k f;rw [hT,ψ];omega
      refine AE (goMv Z Z (AB Z Z (AD (AC (AC ?_)))));refine AE (J (A6 Z Z Z BI Z) (goMv Z Z (J (Br (k) Z Z (Z) (hkl) Z Tryz.underlying28 BA Z) (J (Bw Z Z (Ht hkl) Z Aq Z) (goMv Z Z (J (DX Z Z Z) (AD (Ae Z (fun h127=>?_) (fun h127=>?_)))))))))
      ·refine BC (AE (J (Ay Z Z (AT (k+1) (by omega)) Z) (goMv Z Z (AD ?_))));exact ⟨(k+1,T),⟨hkl,by show _=(J8 n (k+1) f).map _;rw [Xq (by omega),hT]⟩,by show n - (k+1)<n - k;omega,A0 hF [10,2,3] Z (Z) ⟨Z,Z,Z,Z,Z,Z,trivial⟩⟩
      ·refine A1 (AC (AE (AB Z Z (AD (AC ?_)))));refine AC (AE (goMv Z Z (J (JE Z hlE Tryz.underlying122 Z) (goMv Z Z (AD (A4 (O4 26 11 BW Z Z Z Z (B5 (α:=Nat×List Int) (fun q=>⟨154,[(7,(.d (.sl none (E.map Cg)))),(8,(.ptr 3 0 0)),(24,(.own 10 0 T.length)),(25,(.d (AN k))),(26,(.own 11 0 q.2.length)),(117,(.d (.sl none (E.map Cg)))),(118,(.d (AN n))),(119,(.d (AN k))),(128,(.d (.sl none (E.map Cg)))),(129,(.d (AN n))),(130,(.d (AN q.1)))],[(11,[.rowD 3 1 (q.2.map AF)]),(10,[.rowD 28 1 (T.map QC)]),(2,[.rowD 3 1 (rowN n f)]),(3,[.blk 28 [.own 2 0 n]])]⟩) (fun q=>q.1≤n∧q.2=E2 E (OR f k q.1)) (fun q=>n - q.1) ((0,[])) (⟨Δ _,Z⟩) (A0 hF [11,10,2,3] Z Z ⟨Z,Z,Z,Z,Z,Z,Z,Z,Z,Z,Z,trivial⟩) ?_))))))));rintro ⟨j,S⟩ ⟨hj,hS2⟩;dsimp only at hj hS2⊢;refine AC (AE (J (BV Z Z Z) (AD (AC (Ae Z (fun h131=>?_) (fun h131=>?_))))))
       ·refine A1 (AC (A4 (AC ?_)));have hjl:j<n:=Bf h131;have hjE:j<E.length:=by omega
        have hSl:S.length≤30:=by have:=bO f k j;rw [hS2];unfold E2;rw [ψ];omega
        refine AE (goMv Z Z (J (Bk (j) Z Z (Z) (Ah hjE) Tryz.underlying122 Z Gr Z) (J (GN Z Z LK Z) (V (CD 4 MN Z Z Z Z) (AB Z Z (V (Be Z Z Z Z Z Z Z Gr) (AD (AC ?_))))))));refine AE (J (A6 Z Z Z BI Z) (goMv Z Z (J (Br (j) Z Z (Z) (hjl) Z Tryz.underlying28 BA Z) (J (Bw Z Z (Ht hjl) Z Aq Z) (goMv Z Z (J (KL Z Z Z) (AD (Ae Z (fun h140=>?_) (fun h140=>?_)))))))))
        ·refine AE (goMv Z Z (J (AZ Z IT Z Z Z) (J (AZ Z OC Z Z Z) ?_)));refine J (A6 Z Z Z Aq Z) (V (D1 30 BW Z Z Z Z Z Z Z Z) (V (I0 (S) ([(E[j]).1.id]) Z Z Z Z Z Z Z Z BW (by simp only [Ψ];omega) Z Z Z Z) (AB Z Z (AD (AE (J (Ay Z Z (AT (j+1) (by omega)) Z) (goMv Z Z (AD ?_))))))));exact ⟨(j+1,S++ [(E[j]).1.id]),⟨hjl,by show _=E2 E (OR f k (j+1));rw [bP (by omega),hS2];unfold E2;rw [ωe,φi,Df hjE]⟩,by show n - (j+1)<n - j;omega,A0 hF [11,10,2,3] Z (Z) ⟨Z,Z,Z,Z,Z,Z,Z,Z,Z,Z,Z,trivial⟩⟩
        ·refine A1 (AE (J (Ay Z Z (AT (j+1) (by omega)) Z) (goMv Z Z (AD ?_))));exact ⟨(j+1,S),⟨hjl,by show _=E2 E (OR f k (j+1));rw [Xs (by omega),hS2]⟩,by show n - (j+1)<n - j;omega,A0 hF [11,10,2,3] Z (Z) ⟨Z,Z,Z,Z,Z,Z,Z,Z,Z,Z,Z,trivial⟩⟩
       ·refine BC ?_;have hje:j=n:=by have:=h131;omega
        refine L3 (emb:=AF) 26 11 S Z Z Z Z Z Z Z ?_;rw [show S=E2 E (Xr n f k) by rw [hS2,hje];rfl];refine AE (goMv Z Z ?_);refine goMv Z Z (V (D1 31 RX Z Z Z Z Z Z Z Z) (V (I0 (T) ([E2 E (Xr n f k)]) Z Z Z Z Z Z Z Z RX (by simp only [Ψ];omega) Z Z Z Z) (AB Z Z (AD (AE (J (Ay Z Z (AT (k+1) (by omega)) Z) (goMv Z Z (AD ?_))))))));exact ⟨(k+1,T++ [E2 E (Xr n f k)]),⟨hkl,by show _=(J8 n (k+1) f).map _;rw [bN (by omega),ωe,hT];rfl⟩,by show n - (k+1)<n - k;omega,A0 hF [10,2,3] Z (Z) ⟨Z,Z,Z,Z,Z,Z,trivial⟩⟩
     ·refine BC (AC ?_);have hke:k=n:=by have:=h120;omega
      refine L3 (emb:=QC) 24 10 T Z Z Z Z Z Z Z ?_;rw [show T=compL (rsP p) E by rw [hT,hke,hcls]];refine AE (goMv Z Z (AB Z Z (AB Z Z (AD (A5 ?_)))));exact ⟨_,[],[],A3 Z,Z,Z,E,hEq,Z,Z⟩
theorem Nc {rs:List AP} {i:AK} (hi:BD i=0) {r:AP} (hr:r∈rs) (hv:BJ r=0) (v:Int):(r,v)∈dR rs i↔v=Bg i r∧v≠0:=by
 have e1:dltS i=YF i:=θ hi;have e2:Bg i r=Ai (ctr i) r:=θ ⟨hi,hv⟩;unfold dR;rw [Ω,e1,e2];unfold YF;rw [GJ,Et]
 constructor
 ·rintro ⟨⟨⟨_,h1⟩,h2⟩,_⟩;exact ⟨h1,h2⟩
 ·rintro ⟨h1,h2⟩;refine ⟨⟨⟨Classical.byContradiction fun hn=>h2 ?_,h1⟩,h2⟩,ωc hr⟩;show v=0;rw [h1];exact Sy fun x hx e=>hn (by rw [←e];exact χv hx)
theorem dR_key {rs:List AP} {i:AK} (hi:BD i=0) {r:AP} (hr:r∈rs) (hv:BJ r=0):r∈(dR rs i).map Prod.fst↔Bg i r≠0:=by
 rw [ν]
 constructor
 ·rintro ⟨⟨a,v⟩,h,e⟩;have e':a=r:=e;subst e';obtain ⟨h1,h2⟩:=(Nc hi hr hv v).1 h;rw [←h1];exact h2
 ·intro h;exact ⟨(r,Bg i r),(Nc hi hr hv _).2 ⟨Z,h⟩,Z⟩
theorem cU {rs:List AP} {i:AK} (hi:BD i=0) {r:AP} (hr:r∈rs) (hv:BJ r=0):A2 (dR rs i) r 0=Bg i r:=by
 by_cases h:Bg i r=0
 ·rw [h];exact II fun hm=>(dR_key hi hr hv).1 hm h
 ·exact Zcb (cT rs i) ((Nc hi hr hv _).2 ⟨Z,h⟩)
theorem dR_in {rs:List AP} {i:AK} {r:AP} (h:r∈(dR rs i).map Prod.fst):r∈rs:=by
 obtain ⟨d,hd,e⟩:=ν.1 h;rw [←e];exact ωy (Ω.1 hd).2
theorem wt_iff {rs:List AP} (hrs:∀r∈rs,BJ r=0) {x y:AK} (hx:BD x=0) (hy:BD y=0):dN rs x y↔y.id∈x.af∨∃r∈rs,Bg x r<0∧0<Bg y r:=by
 constructor
 ·rintro (⟨⟨r,v⟩,hd,h1,h2⟩ | h)
  ·have hr:r∈rs:=dR_in (χv (f:=Prod.fst) hd);obtain ⟨e,_⟩:=(Nc hx hr (hrs r hr) v).1 hd;refine .inr ⟨r,hr,by rw [←e];exact h1,by rw [←cU hy hr (hrs r hr)];exact h2⟩
  ·exact .inl h
 ·rintro (h | ⟨r,hr,h1,h2⟩)
  ·exact .inr h
  ·exact .inl ⟨(r,Bg x r),(Nc hx hr (hrs r hr) _).2 ⟨Z,by omega⟩,h1,by rw [cU hy hr (hrs r hr)];exact h2⟩
def Sp (p:Prb) (l:List Int):List (AK×Nat):=((sortO p.it).filter fun i=>decide (i.id∈l)).map fun i=>(i,0)
theorem cC (p:Prb) (l:List Int):(Sp p l).map Prod.fst=(sortO p.it).filter fun i=>decide (i.id∈l):=by unfold Sp;rw [ωr];exact List.map_id _
theorem Lx {E:List (AK×Nat)} (k:Nat):Dg E k=(E.map Prod.fst).getD k itm0:=by
 unfold Dg;rw [ϱ,ϱ,η]
 cases E[k]?<;>rfl
theorem Ur {rs:List AP} {E E':List (AK×Nat)} (h:E.map Prod.fst=E'.map Prod.fst):compL rs E=compL rs E':=by
 have hi:Dg E=Dg E':=funext fun k=>by rw [Lx,Lx,h]
 have hl:E.length=E'.length:=by rw [←ψ (f:=Prod.fst),h,ψ]
 have hn:nbI rs E=nbI rs E':=by unfold nbI;rw [hi,hl]
 unfold compL Cn;rw [hl,hn];unfold E2;rw [hi]
structure PG (rs:List AP) (E:List (AK×Nat)) (i:Nat) (S:List Nat):Prop where
 nd:S.Nodup
 ini:i∈S
 con:∀j∈S,j<E.length∧Cn rs E i j
theorem PG.zero {rs:List AP} {E:List (AK×Nat)} {i:Nat} (hi:i<E.length):PG rs E i [i]:=⟨by simp,by simp,fun j hj=>by rw [ξ.1 hj];exact ⟨hi,.refl i⟩⟩
theorem PG.add {rs:List AP} {E:List (AK×Nat)} {i:Nat} {S:List Nat} (h:PG rs E i S) {j k:Nat} (hj:j∈S) (hk:k<E.length) (hn:k∉S) (hi:Qj rs (Dg E j) (Dg E k)):PG rs E i (S++ [k]):=by
 refine ⟨χo.2 ⟨h.nd,by simp,fun a ha b hb e=>hn (by rw [ξ.1 hb] at e;rw [←e];exact ha)⟩,ψr _ h.ini,fun x hx=>?_⟩;rcases υ.1 hx with hx | hx
 ·exact h.con x hx
 ·rw [ξ.1 hx];exact ⟨hk,(h.con j hj).2.trans (Rh.one (Ds.2 ⟨(h.con j hj).1,hk,hi⟩))⟩
theorem PG.len {rs:List AP} {E:List (AK×Nat)} {i:Nat} {S:List Nat} (h:PG rs E i S):S.length≤E.length:=by
 have:=h.nd.length_le_of_subset (l₂:=List.range E.length) fun y hy=>Θ.2 (h.con y hy).1
 rwa [ωh] at this
def ClI (rs:List AP) (E:List (AK×Nat)) (S:List Nat) (k:Nat):Prop:=k∈S∨∀m∈S,¬Qj rs (Dg E m) (Dg E k)
structure PK (rs:List AP) (E:List (AK×Nat)) (i:Nat) (S0:List Nat) (k:Nat) (S:List Nat) (g:Bool):Prop where
 pg:PG rs E i S
 no:g=false ->S=S0∧∀k',k'<k ->ClI rs E S k'
 yes:g=true ->S0.length<S.length
theorem PK.zero {rs:List AP} {E:List (AK×Nat)} {i:Nat} {S:List Nat} (h:PG rs E i S):PK rs E i S 0 S false:=⟨h,fun _=>⟨Z,fun k' hk=>by omega⟩,fun e=>by cases e⟩
theorem PK.le {rs:List AP} {E:List (AK×Nat)} {i:Nat} {S0 S:List Nat} {k:Nat} {g:Bool} (h:PK rs E i S0 k S g):S0.length≤S.length:=by
 cases hg:g with
 | false=>rw [(h.no hg).1];exact ϖ _
 | true=>exact Nat.le_of_lt (h.yes hg)
theorem PK.pass {rs:List AP} {E:List (AK×Nat)} {i:Nat} {S0 S:List Nat} {k:Nat} {g:Bool} (h:PK rs E i S0 k S g) (hc:ClI rs E S k):PK rs E i S0 (k+1) S g:=
 ⟨h.pg,fun e=>⟨(h.no e).1,fun k' hk=>(Nat.decEq k' k).byCases (fun e2=>by rw [e2];exact hc) fun e2=>(h.no e).2 k' (by omega)⟩,h.yes⟩
theorem PK.hit {rs:List AP} {E:List (AK×Nat)} {i:Nat} {S0 S:List Nat} {k k2:Nat} {g:Bool} (h:PK rs E i S0 k S g) (hp:PG rs E i (S++ [k])):PK rs E i S0 k2 (S++ [k]) true:=
 ⟨hp,fun e=>(by cases e),fun _=>by rw [ς,Ψ];exact Nat.lt_succ_of_le h.le⟩
theorem PG.fin {rs:List AP} {E:List (AK×Nat)} {i:Nat} {S:List Nat} (h:PG rs E i S) (hc:∀k,k<E.length ->ClI rs E S k) {k:Nat} (hk:k<E.length):k∈S↔Cn rs E i k:=by
 refine ⟨fun hm=>(h.con k hm).2,fun hC=>?_⟩;refine Rh.clos (p:=fun x=>x∈S) (fun v hv y hy=>?_) hC h.ini;obtain ⟨_,h2,h3⟩:=Ds.1 hy;exact (hc y h2).resolve_right fun hn=>hn v hv h3
def hitS (S:List Nat) (k:Nat) (h:Bool):List Nat:=if h=true then S++ [k] else S
theorem PK.next {rs:List AP} {E:List (AK×Nat)} {i:Nat} {S0 S:List Nat} {k:Nat} {g hh:Bool} (h:PK rs E i S0 k S g) (hyes:hh=true ->PG rs E i (S++ [k])) (hno:hh=false ->ClI rs E S k):PK rs E i S0 (k+1) (hitS S k hh) (if hh=true then true else g):=by
 cases hh with
 | false=>exact h.pass (hno Z)
 | true=>exact h.hit (hyes Z)
theorem comp_p (p:Prb) (l:List Int) (hf:DW p) (hl:l.length≤100000) (hC:DU p l=0) (hE:Ad p=0) (hn:l.Nodup):AO Tryz.prog 23 [.d (Bq p),.d (QC l)] (.tup [Xj (compL (rsP p) (Sp p l)),AF 0]):=
 (comp_c p l hf hl hC hE hn).mono fun r H' ⟨E,hEq,e1,e2⟩=>⟨by rw [e1,Ur (E':=Sp p l) (by rw [hEq,cC,show ordP p=sortO p.it from θ hE])],e2⟩
theorem YC {rs:List AP} {E E':List (AK×Nat)} (h:E.map Prod.fst=E'.map Prod.fst):grW rs E=grW rs E'∧E2 E=E2 E'∧E.length=E'.length:=by
 have hi:Dg E=Dg E':=funext fun k=>by rw [Lx,Lx,h]
 have hl:E.length=E'.length:=by rw [←ψ (f:=Prod.fst),h,ψ]
 refine ⟨?_,by funext S;unfold E2;rw [hi],hl⟩;have e1:∀E:List (AK×Nat),grW rs E=(E.map Prod.fst).map fun a=>toK rs E a E.length:=fun E=>by unfold grW;rw [ωr];rfl
 rw [e1,e1,h];refine ωi fun a _=>?_;unfold toK;rw [hi,hl]
theorem toK_lt {rs:List AP} {E:List (AK×Nat)} {a:AK} {n:Nat}:∀k∈toK rs E a n,k<n:=fun k hk=>Θ.1 (Ω.1 hk).1
def sub30 (ids:List Int) (m k:Nat):List Int:=((List.range k).filter fun j=>decide (m / 2^j % 2=1)).map fun j=>ids.getD j 0
def InU (p:Prb) (ids:List Int) (M:Nat) (x:Int):Prop:=∃m,m<M∧LW p (sub30 ids m ids.length)∧x∈sub30 ids m ids.length
noncomputable instance (p:Prb) (ids:List Int) (M:Nat) (x:Int):Decidable (InU p ids M x):=Classical.propDecidable _
theorem Px {its:List AK} (hn:(its.map AK.id).Nodup) (on:Nat ->Bool):BX its on its.length=(its.map AK.id).filter fun x=>decide (x∈BX its on its.length):=by
 obtain ⟨l,hl⟩:∃l,BX its on its.length=l:=⟨_,Z⟩
 have h1:its.map AK.id=(List.range its.length).map fun i=>(its.getD i itm0).id:=by
  conv=>lhs;rw [Kj its]
  rw [ωr];rfl
 rw [h1,List.filter_map];show ((List.range its.length).filter on).map _=_
 congr 1
 refine χq fun i hi=>?_;have:=Mo hn on (Θ.1 hi);show on i=decide ((its.getD i itm0).id∈BX its on its.length)
 cases ho:on i with
 | true=>exact (ωc (this.2 ho)).symm
 | false=>exact (ωp fun h=>by rw [this.1 h] at ho;cases ho).symm
theorem cv {wb mv:Nat} {nb pb:Nat ->Nat} {N:Net} {M:MF} (h:Bx wb mv nb pb N M) {i:Nat} {x:Nd} (hx:N.nd[i]? =some x):AM Tryz.prog 146 [.d (pD (nb i) 0)] (HN M) fun r H'=>r= .d (Ag x.on)∧H'=HN M:=by
 have hxb:=h.n i x hx;refine Az Tryz.func146 Z Z Tryz.ntmps146 Z Z Z fun F hF=>(AC (AE (AB Z Z (AD ?_))));refine AC (AE (goMv Z Z (J (DE Z Z) (J (CQ Z E4 Z Z Z) (J (Dn (f:=40) Z Z (hxb) Z on4 Z) (AB Z Z (AD (A5 ?_))))))));exact ⟨_,[40],_,A3 Z,Z,Z,Z,Z⟩
theorem ct {wb mv:Nat} {nb pb:Nat ->Nat} {N:Net} {M:MF} (h:Bx wb mv nb pb N M) (e:Nat×Int) {y:Po} (hy:N.po[e.1]? =some y) (hr: -1000000000000000000≤y.room∧y.room≤1000000000000000000) (he: -2000000000000000000≤e.2∧e.2≤2000000000000000000):AM Tryz.prog 149 [.d (cG pb e)] (HN M) fun r H'=>r= .d (Ag (ON y e.2))∧H'=HN M:=by
 have hov:=LO h hy e.2 hr he;refine Az Tryz.func149 Z Z Tryz.ntmps149 Z Z Z fun F hF=>(AC (AE (V (CC 1 Z Z Z Z Z Z Z) (AB Z Z (AD (AC ?_))))));refine AE (J (AZ Z QV Z Z Z) (J (A6 Z Z Z ET Z) (J (AZ Z QU Z Z Z) (J (A6 Z Z Z JG Z) (V (EW hov Z [40] ⟨Z,trivial⟩ Z Z Z Z Z Z Z Z Z) (AB Z Z (AD (A5 ?_))))))));exact ⟨_,[40],_,A3 Z,Z,Z,Z,Z⟩
abbrev HAO (wb mv:Nat) (bs:Option (List Nat×Nat)) (L:List (Int×Value)) (M:MF):Hp:=(910,[.blk 171 [.d (pD wb 0)]])::HW mv bs L M
theorem cu {wb mv:Nat} {nb pb:Nat ->Nat} {N:Net} {M:MF} (bs:Option (List Nat×Nat)) (h:Bx wb mv nb pb N M) (hn:(BP N).Nodup) {id:Int} (hid:id∈BP N):AM Tryz.prog 147 [.d (AF id),.ptr 910 0 0] (HAO wb mv bs (Fa nb (BP N)) M) fun r H'=>r= .d (Ag (!offOf N id))∧H'=HAO wb mv bs (Fa nb (BP N)) M:=by
 have hwb:=h.w;have hil:=ψo hid;have hil2:(BP N).idxOf id<N.nd.length:=by unfold BP at hil⊢;rw [ψ] at hil;exact hil
 obtain ⟨z,hz⟩:∃z,N.nd[(BP N).idxOf id]? =some z:=⟨_,ω hil2⟩
 have hgz:N.nd.getD ((BP N).idxOf id) Bc=z:=by rw [ϱ,hz];rfl
 have hzb:=h.n _ z hz;have hby:=Q9 (nb:=nb) hn hil;rw [φa hil] at hby;have hof:(!offOf N id)=z.on:=by unfold offOf;rw [hgz,Bool.not_not]
 refine Az Tryz.func147 Z Z Tryz.ntmps147 Z Z Z fun F hF=>(AC ?_);refine AE (AB Z Z (AD (AC (AE (J (A6 Z Z Z Vq Z) (J (DE Z Z) (J (CQ Z MA Z Z Z) (J (Dn (f:=40) Z Z (hwb) Z Vo Z) ?_))))))));refine DM 7 51 0 Z Z (goMv Z Z (J (HF (Fa nb (BP N)) id (.pointer none) (pV (nb ((BP N).idxOf id)) 0) Z Z Z WC HE VJ hby Z) (J (DE Z Z) (J (CQ Z E4 Z Z Z) (J (Dn (f:=40) Z Z (hzb) Z on4 Z) (AB Z Z (AD (A5 ?_))))))));exact ⟨_,[910,40,50,51],_,A3 Z,Z,Z,by rw [hof],Z⟩
section
variable {P:Program} {F:Fr} {s:AS} {d:Nat} {x hi:Operand} {T E:TypeId} {ty:TypeId} {pos:String} {aft:Array Edge} {g:Option (Nat×Bool)}
theorem RK {b n cap kk:Nat} (h:Nat) {kh:IntKind} {ih:Int} (hx:s.ev x=some (.d (.raw (sV b n cap)))) (hhi:s.ev hi=some (.d (.raw (.int kh ih)))) (hh:ih=(h:Int)) (h2:h≤cap) (hT:P.underlying T=some (.slice E)) (hE:AX P E kk=true) (hd:Nat.blt d s.n=true):
  AA P F ⟨some d,.slice T x none (some hi) none,ty,pos,aft,g⟩ s d (.d (.raw (sV b h cap))):=
 C7 _ hd fun _ act w hs=>by
  have e:=hs.raw hx;subst hh;refine ⟨.slice (if cap=0 then some ⟨b,0,none⟩ else (some (⟨b,0,none⟩:Addr)).map (·.add (0*kk))) (h - 0) (cap - 0),by simp only [execOp,e,χb,φl,hs.raw hhi,Sem.run_bind,GX hT (Yb hE) h2,Result.andThen_ok,Sem.run_pure],?_⟩
  have:Value.slice (if cap=0 then some ⟨b,0,none⟩ else (some (⟨b,0,none⟩:Addr)).map (·.add (0*kk))) (h - 0) (cap - 0)=sV b h cap:=by
   split<;>simp [Addr.add]
  rw [this];exact .d (.raw Z)
end
def OA {α:Type} (p:α ->Bool) (l:List α):Int:=match l.findIdx? p with
 | some k=>k
 | none=> -1
theorem idx1_c {wb mv:Nat} {nb pb:Nat ->Nat} {N:Net} {M:MF} (h:Bx wb mv nb pb N M) {hd:Hd} {q:List Nat} (hq:BF M hd 176 1 (q.map fun i=>BG (nb i))) (hqn:∀i∈q,i<N.nd.length) (m:Nat) (hm:m≤q.length) (hql:q.length≤100000):
  AM Tryz.prog 97 [.d (hdr hd m),.d (.raw (.func (.func 146) #[] #[]))] (HN M) fun r H'=>r= .d (AF (OA (onN N) (q.take m)))∧H'=HN M:=by
 have hz:hd=none ->m=0:=fun e=>by have:=Ta hq e;omega
 have htl:(q.take m).length=m:=by rw [Υ];omega
 refine Az Tryz.func97 Z Z Tryz.ntmps97 Z Z Z fun F hF=>(AC (AE (AB Z Z (AD ?_))));refine AC (AC (AE (goMv Z Z (J (VF hz Z Tryz.underlying175 Z) (goMv Z Z (AD (A4 (B5 (α:=Nat) (fun k=>⟨19,[(0,.d (hdr hd m)),(1,.d (.raw (.func (.func 146) #[] #[]))),(7,(.d (AF (m:Int)))),(8,(.d (AF (k:Int))))],HN M⟩) (fun k=>k≤m∧∀x∈(q.take m).take k,onN N x=false) (fun k=>m - k) (0) (⟨Δ _,by simp⟩) (A0 hF [40] Z Z ⟨Z,Z,Z,Z,trivial⟩) ?_))))))));rintro k ⟨hk0,hk⟩;refine AC (AE (J (BV Z Z Z) (AD (AC (Ae Z (fun h9=>?_) (fun h9=>?_))))))
 ·have hk1:k<m:=Bf h9;refine A1 (AC (A4 (AC ?_)));have hkq:k<q.length:=by omega
  have hkt:k<(q.take m).length:=by omega
  obtain ⟨rb,rc,hre⟩:=Tj hq hkq;have hrow:=Qm hq hre;have hil:=hqn _ (κ hkq)
  obtain ⟨z,hz2⟩:∃z,N.nd[q[k]]? =some z:=⟨_,ω hil⟩
  have hal:=cv h hz2;have hon:onN N q[k]=z.on:=by unfold onN;rw [ϱ,hz2];rfl
  refine AE (goMv Z Z (AB Z Z (AD (AC ?_))));refine AE (goMv Z Z (goMv Z Z (goMv Z Z (J (VB hre (k) Z Z Z hk1 Tryz.underlying175 LI Z) (J (Zcx (f:=40) (e:=k) (off:=0) Z (by omega) Z (hrow) (Ah hkq) Z Mq Z) (V (Yc hal Z [40] ⟨Z,trivial⟩ Z Z Z Z Z Z Z Z Z) (AD (KK Z (fun h16=>?_) (fun h16=>?_)))))))))
  ·refine AC (AE (goMv Z Z (AB Z Z (AD (A5 ?_)))));exact ⟨_,[40],_,A3 Z,Z,Z,Ac (by unfold OA;rw [Ge hkt hk (by rw [List.getElem_take,hon];simpa using h16)]),Z⟩
  ·refine A1 (AE (J (Ay Z Z (AT (k+1) (by omega)) Z) (goMv Z Z (AD ?_))));exact ⟨k+1,⟨by show k+1≤_;omega,by rw [φ hkt];intro y hy;rcases υ.1 hy with hy | hy;exact hk y hy;rw [ξ.1 hy,List.getElem_take];rw [hon];simpa using h16⟩,by show m - (k+1)<m - k;omega,A0 hF [40] Z (Z) ⟨Z,Z,Z,Z,trivial⟩⟩
 ·refine BC (AC (AE (AB Z Z (AD (A5 ?_)))));exact ⟨_,[40],_,A3 Z,Z,Z,Ac (by unfold OA;rw [IR (fun x hx=>hk x (by rw [Ξ (by have h:=h9;omega)];exact hx))]),Z⟩
theorem U4 {α:Type} {p:α ->Bool} {l:List α}:(OA p l≥0)↔l.any p=true:=by
 unfold OA
 cases h:l.findIdx? p with
 | none=>
  rw [List.findIdx?_eq_none_iff] at h
  constructor
  ·intro h1;have h2:(-1:Int)≥0:=h1;omega
  ·intro h1;obtain ⟨x,hx,h2⟩:=List.any_eq_true.1 h1;rw [h x hx] at h2;cases h2
 | some k=>
  constructor
  ·intro _;obtain ⟨hk,h1,_⟩:=List.findIdx?_eq_some_iff_getElem.1 h;exact List.any_eq_true.2 ⟨l[k],κ hk,h1⟩
  ·intro _;show (k:Int)≥0;omega
theorem cont1_c {wb mv:Nat} {nb pb:Nat ->Nat} {N:Net} {M:MF} (h:Bx wb mv nb pb N M) {hd:Hd} {q:List Nat} (hq:BF M hd 176 1 (q.map fun i=>BG (nb i))) (hqn:∀i∈q,i<N.nd.length) (m:Nat) (hm:m≤q.length) (hql:q.length≤100000):
  AM Tryz.prog 145 [.d (hdr hd m),.d (.raw (.func (.func 146) #[] #[]))] (HN M) fun r H'=>r= .d (Ag ((q.take m).any (onN N)))∧H'=HN M:=by
 refine Az Tryz.func145 Z Z Tryz.ntmps145 Z Z Z fun F hF=>(AC (AE (AB Z Z (AD ?_))));refine AC (AE (goMv Z Z (goMv Z Z (V (EW (idx1_c h hq hqn m hm hql) Z [40] ⟨Z,trivial⟩ Z Z Z Z Z Z Z Z Z) (J (EO Z Z Z) (AB Z Z (AD (A5 ?_))))))));exact ⟨_,[40],_,A3 Z,Z,Z,Me (by rw [Bool.eq_iff_iff,ωs];exact U4),Z⟩
theorem idx3_c {wb mv:Nat} {nb pb:Nat ->Nat} {N:Net} {M:MF} (h:Bx wb mv nb pb N M) (hw:NetW N) {i:Nat} {x:Nd} (hx:N.nd[i]? =some x):
  AM Tryz.prog 197 [.d (hdr x.eh x.ef.length),.d (.raw (.func (.func 149) #[] #[]))] (HN M) fun r H'=>r= .d (AF (OA (fun e:Nat×Int=>ON (N.po.getD e.1 Bz) e.2) x.ef))∧H'=HN M:=by
 obtain ⟨hxb,hre,_⟩:=h.nn i x hx;have hxm:=ζ hx;have hel:=(hw.l x hxm).1;have hz:=Ta hre;refine Az Tryz.func197 Z Z Tryz.ntmps197 Z Z Z fun F hF=>(AC (AE (AB Z Z (AD ?_))));refine AC (AC (AE (goMv Z Z (J (VF hz Z Tryz.underlying181 Z) (goMv Z Z (AD (A4 (B5 (α:=Nat) (fun k=>⟨19,[(0,.d (hdr x.eh x.ef.length)),(1,.d (.raw (.func (.func 149) #[] #[]))),(7,(.d (AF (x.ef.length:Int)))),(8,(.d (AF (k:Int))))],HN M⟩) (fun k=>k≤x.ef.length∧∀e∈x.ef.take k,(fun e:Nat×Int=>ON (N.po.getD e.1 Bz) e.2) e=false) (fun k=>x.ef.length - k) (0) (⟨Δ _,by simp⟩) (A0 hF [40] Z Z ⟨Z,Z,Z,Z,trivial⟩) ?_))))))));rintro k ⟨hk0,hk⟩;refine AC (AE (J (BV Z Z Z) (AD (AC (Ae Z (fun h9=>?_) (fun h9=>?_))))))
 ·have hk1:k<x.ef.length:=Bf h9;refine A1 (AC (A4 (AC ?_)));obtain ⟨rb,rc,hree⟩:=Tj hre hk1;have hrow:=Qm hre hree;have hjl:=(h.e x hxm).1 _ (κ hk1)
  obtain ⟨y,hy⟩:∃y,N.po[x.ef[k].1]? =some y:=⟨_,ω hjl⟩
  have hgy:N.po.getD x.ef[k].1 Bz=y:=by rw [ϱ,hy];rfl
  have heb:=hw.e x hxm _ (κ hk1);have hal:=ct h x.ef[k] hy (hw.rm y (ζ hy)) ⟨by omega,by omega⟩;refine AE (goMv Z Z (AB Z Z (AD (AC ?_))));refine AE (goMv Z Z (goMv Z Z (goMv Z Z (J (VB hree (k) Z Z Z hk1 Tryz.underlying181 RE Z) (J (D3 (f:=40) (e:=k) Z (Z) Z (hrow) (Ah hk1) Z Zf Z) (V (Yc hal Z [40] ⟨Z,trivial⟩ Z Z Z Z Z Z Z Z Z) (AD (Ae Z (fun h16=>?_) (fun h16=>?_)))))))))
  ·refine AC (AE (goMv Z Z (AB Z Z (AD (A5 ?_)))));exact ⟨_,[40],_,A3 Z,Z,Z,Ac (by unfold OA;rw [Ge hk1 hk (by show ON (N.po.getD x.ef[k].1 Bz) x.ef[k].2=true;rw [hgy];unfold ON;exact ωc h16)]),Z⟩
  ·refine A1 (AE (J (Ay Z Z (AT (k+1) (by omega)) Z) (goMv Z Z (AD ?_))));exact ⟨k+1,⟨by show k+1≤_;omega,by rw [φ hk1];intro e he;rcases υ.1 he with he | he;exact hk e he;rw [ξ.1 he];show ON (N.po.getD x.ef[k].1 Bz) x.ef[k].2=false;rw [hgy];unfold ON;exact ωp h16⟩,by show x.ef.length - (k+1)<x.ef.length - k;omega,A0 hF [40] Z (Z) ⟨Z,Z,Z,Z,trivial⟩⟩
 ·refine BC (AC (AE (AB Z Z (AD (A5 ?_)))));exact ⟨_,[40],_,A3 Z,Z,Z,Ac (by unfold OA;rw [IR (fun e he=>hk e (by rw [Ξ (by have h:=h9;omega)];exact he))]),Z⟩
theorem cont3_c {wb mv:Nat} {nb pb:Nat ->Nat} {N:Net} {M:MF} (h:Bx wb mv nb pb N M) (hw:NetW N) {i:Nat} {x:Nd} (hx:N.nd[i]? =some x):
  AM Tryz.prog 148 [.d (hdr x.eh x.ef.length),.d (.raw (.func (.func 149) #[] #[]))] (HN M) fun r H'=>r= .d (Ag (x.ef.any fun e:Nat×Int=>ON (N.po.getD e.1 Bz) e.2))∧H'=HN M:=by
 refine Az Tryz.func148 Z Z Tryz.ntmps148 Z Z Z fun F hF=>(AC (AE (AB Z Z (AD ?_))));refine AC (AE (goMv Z Z (goMv Z Z (V (EW (idx3_c h hw hx) Z [40] ⟨Z,trivial⟩ Z Z Z Z Z Z Z Z Z) (J (EO Z Z Z) (AB Z Z (AD (A5 ?_))))))));exact ⟨_,[40],_,A3 Z,Z,Z,Me (by rw [Bool.eq_iff_iff,ωs];exact U4),Z⟩
theorem idx2_c {wb mv:Nat} {nb pb:Nat ->Nat} {N:Net} {M:MF} (bs:Option (List Nat×Nat)) (h:Bx wb mv nb pb N M) (hn:(BP N).Nodup) (l:List Int) (hl:l.length≤100000) (hid:∀id∈l,id∈BP N):
  AM Tryz.prog 138 [.d (.sl none (l.map AF)),.fn 147 [.ptr 910 0 0]] (HAO wb mv bs (Fa nb (BP N)) M) fun r H'=>r= .d (AF (OA (fun id=>!offOf N id) l))∧H'=HAO wb mv bs (Fa nb (BP N)) M:=by
 obtain ⟨L,hL⟩:∃L,Fa nb (BP N)=L:=⟨_,Z⟩
 have ha:=fun id hi=>cu (id:=id) bs h hn hi;rw [hL] at ha⊢;refine Az Tryz.func138 Z Z Tryz.ntmps138 Z Z Z fun F hF=>(AC (AE (AB Z Z (AD ?_))));refine AC (AC (AE (goMv Z Z (J (CM Z Tryz.underlying28 Z) (goMv Z Z (AD (A4 (B5 (α:=Nat) (fun k=>⟨19,[(0,.d (.sl none (l.map AF))),(1,.fn 147 [.ptr 910 0 0]),(7,(.d (AF (l.length:Int)))),(8,(.d (AF (k:Int))))],HAO wb mv bs L M⟩) (fun k=>k≤l.length∧∀x∈l.take k,(fun id=>!offOf N id) x=false) (fun k=>l.length - k) (0) (⟨Δ _,by simp⟩) (A0 hF [910,40,50,51] Z Z ⟨Z,Z,Z,Z,trivial⟩) ?_))))))));rintro k ⟨hk0,hk⟩;refine AC (AE (J (BV Z Z Z) (AD (AC (Ae Z (fun h9=>?_) (fun h9=>?_))))))
 ·have hk1:k<l.length:=Bf h9;refine A1 (AC (A4 (AC (AE (goMv Z Z (AB Z Z (AD (AC ?_))))))));refine AE (goMv Z Z (goMv Z Z (goMv Z Z (J (Bk (k) Z Z (Z) (Ah hk1) Tryz.underlying28 Z BA Z) (J (D0 Z Z Aq Z) (V (Yc (ha l[k] (hid _ (κ hk1))) Z [910,40,50,51] ⟨Z,Z,Z,Z,trivial⟩ Z Z Z Z Z Z Z Z Z) (AD (KK Z (fun h16=>?_) (fun h16=>?_)))))))))
  ·refine AC (AE (goMv Z Z (AB Z Z (AD (A5 ?_)))));exact ⟨_,[910,40,50,51],_,A3 Z,Z,Z,Ac (by unfold OA;rw [Ge hk1 hk (by simpa using h16)]),Z⟩
  ·refine A1 (AE (J (Ay Z Z (AT (k+1) (by omega)) Z) (goMv Z Z (AD ?_))));exact ⟨k+1,⟨by show k+1≤_;omega,by rw [φ hk1];intro x hx;rcases υ.1 hx with hx | hx;exact hk x hx;rw [ξ.1 hx];simpa using h16⟩,by show l.length - (k+1)<l.length - k;omega,A0 hF [910,40,50,51] Z (Z) ⟨Z,Z,Z,Z,trivial⟩⟩
 ·refine BC (AC (AE (AB Z Z (AD (A5 ?_)))));exact ⟨_,[910,40,50,51],_,A3 Z,Z,Z,Ac (by unfold OA;rw [IR (fun x hx=>hk x (by rw [Ξ (by have h:=h9;omega)];exact hx))]),Z⟩
theorem cont2_c {wb mv:Nat} {nb pb:Nat ->Nat} {N:Net} {M:MF} (bs:Option (List Nat×Nat)) (h:Bx wb mv nb pb N M) (hn:(BP N).Nodup) (l:List Int) (hl:l.length≤100000) (hid:∀id∈l,id∈BP N):
  AM Tryz.prog 130 [.d (.sl none (l.map AF)),.fn 147 [.ptr 910 0 0]] (HAO wb mv bs (Fa nb (BP N)) M) fun r H'=>r= .d (Ag (l.any fun id=>!offOf N id))∧H'=HAO wb mv bs (Fa nb (BP N)) M:=by
 refine Az Tryz.func130 Z Z Tryz.ntmps130 Z Z Z fun F hF=>(AC (AE (AB Z Z (AD ?_))));refine AC (AE (goMv Z Z (goMv Z Z (V (EW (idx2_c bs h hn l hl hid) Z [910,40,50,51] ⟨Z,Z,Z,Z,trivial⟩ Z Z Z Z Z Z Z Z Z) (J (EO Z Z Z) (AB Z Z (AD (A5 ?_))))))));exact ⟨_,[910,40,50,51],_,A3 Z,Z,Z,Me (by rw [Bool.eq_iff_iff,ωs];exact U4),Z⟩
section
variable {P:Program} {F:Fr} {s:AS} {d:Nat} {x hi:Operand} {T E:TypeId} {ty:TypeId} {pos:String} {aft:Array Edge} {g:Option (Nat×Bool)}
theorem RL {h:Hd} {b n cap kk:Nat} (he:h=some (b,cap)) (m:Nat) {kh:IntKind} {ih:Int} (hx:s.ev x=some (.d (hdr h n))) (hhi:s.ev hi=some (.d (.raw (.int kh ih)))) (hh:ih=(m:Int)) (h2:m≤cap) (hT:P.underlying T=some (.slice E)) (hE:AX P E kk=true) (hd:Nat.blt d s.n=true):
  AA P F ⟨some d,.slice T x none (some hi) none,ty,pos,aft,g⟩ s d (.d (hdr h m)):=by
 subst he;exact RK m hx hhi hh h2 hT hE hd
end
def Y6 (N:Net) (e:Nat×Nat):Bool:=((N.po.getD e.1 Bz).q.take e.2).any (onN N)
def Dl (N:Net) (x:Nd):Bool:=!(x.pl.any (Y6 N)) &&(!(x.it.af.any fun id=>!offOf N id) && !(x.ef.any fun e:Nat×Int=>ON (N.po.getD e.1 Bz) e.2))
theorem al_pl {N:Net} {x:Nd} (h:x.pl.any (Y6 N)=true):Dl N x=false:=by unfold Dl;rw [h];rfl
theorem al_af {N:Net} {x:Nd} (h0:x.pl.any (Y6 N)=false) (h:(x.it.af.any fun id=>!offOf N id)=true):Dl N x=false:=by unfold Dl;rw [h0,h];rfl
theorem al_ef {N:Net} {x:Nd} (h0:x.pl.any (Y6 N)=false) (h:(x.it.af.any fun id=>!offOf N id)=false):Dl N x=!(x.ef.any fun e:Nat×Int=>ON (N.po.getD e.1 Bz) e.2):=by unfold Dl;rw [h0,h];simp
set_option maxHeartbeats 1000000 in
theorem alone_c {wb mv:Nat} {nb pb:Nat ->Nat} {N:Net} {M:MF} (bs:Option (List Nat×Nat)) (h:Bx wb mv nb pb N M) (hw:NetW N) {i:Nat} {x:Nd} (hx:N.nd[i]? =some x):
  AM Tryz.prog 99 [.d (pD wb 0),.d (pD (nb i) 0)] (HW mv bs (Fa nb (BP N)) M) fun r H'=>r= .d (Ag (Dl N x))∧H'=HW mv bs (Fa nb (BP N)) M:=by
 have hxm:=ζ hx;obtain ⟨hxb,hre,hrp⟩:=h.nn i x hx;have hpz:=Ta hrp;obtain ⟨_,hpl,hafl⟩:=hw.l x hxm;have hxe:=h.e x hxm;have hxp:=hw.p x hxm;have hc2:=cont2_c bs h hw.i x.it.af (by omega) (hw.a x hxm);have hc3:=cont3_c h hw hx
 obtain ⟨L,hL⟩:∃L,Fa nb (BP N)=L:=⟨_,Z⟩
 rw [hL] at hc2⊢;refine Az Tryz.func99 Z Z Tryz.ntmps99 Z Z Z fun F hF=>(AC (AE (V (CC 910 Z Z Z Z Z Z Z) (AB Z Z (AD (AC (AC (AE ?_))))))));refine goMv Z Z (J (DE Z Z) (J (CQ Z Jl Z Z Z) (J (Dn (f:=40) Z Z (hxb) Z Vm Z) (J (VF hpz Z Tryz.underlying182 Z) (goMv Z Z (AD (A4 (B5 (α:=Nat) (fun k=>⟨39,[(1,.d (pD (nb i) 0)),(2,(.ptr 910 0 0)),(10,(.d (hdr x.ph x.pl.length))),(11,(.d (AF (x.pl.length:Int)))),(12,(.d (AF (k:Int))))],HAO wb mv bs L M⟩) (fun k=>k≤x.pl.length∧∀e∈x.pl.take k,Y6 N e=false) (fun k=>x.pl.length - k) (0) (⟨Δ _,by simp⟩) (A0 hF [910,40,50,51] Z Z ⟨Z,Z,Z,Z,Z,trivial⟩) ?_))))))));rintro k ⟨hk0,hkb⟩;refine AC (AE (J (BV Z Z Z) (AD (AC (Ae Z (fun h13=>?_) (fun h13=>?_))))))
 ·have hk1:k<x.pl.length:=Bf h13;refine A1 (AC (A4 (AC ?_)));obtain ⟨eb,ec,hee⟩:=Tj hrp hk1;have hrow:=Qm hrp hee;have hjl:x.pl[k].1<N.po.length:=hxe.2 _ (κ hk1)
  obtain ⟨y,hy⟩:∃y,N.po[x.pl[k].1]? =some y:=⟨_,ω hjl⟩
  have hgy:N.po.getD x.pl[k].1 Bz=y:=by rw [ϱ,hy];rfl
  have hym:=ζ hy;obtain ⟨hyb,hyq⟩:=h.pp _ y hy;have hpk:=hxp _ (κ hk1);rw [hgy] at hpk;obtain ⟨qb,qc,hqe⟩:=Tj hyq hpk.1;have hqc:y.q.length≤qc:=by have h1:=hyq;rw [hqe] at h1;have h2:=h1.1;rw [ψ] at h2;exact h2
  have hcn:=cont1_c h hyq (h.q y hym) x.pl[k].2 (by omega) (by have h1:=hw.ql y hym;omega);refine AE (J (VB hee (k) Z Z Z hk1 Tryz.underlying182 O9 Z) ?_);refine J (D3 (f:=40) (e:=k) Z (Z) Z (hrow) (Ah hk1) Z Zd Z) (V (CD 911 VI Z Z Z Z) (V (Be Z Z Z Z Z Z Z O9) (AD (AC (Cb [[],[0],[0,1],[0,1,2],[0,1,2,3],[],[5],[0,1,2,3,4,5,6],[0,1,2,3,4,5,6,7]] mixed Z (Cr (AJ [6] [] Z Z (fun _=>AG (AZ Z Gf Z Z Z)) (AJ [16] [911] Z Z (fun _=>AG (A6 Z Z Z ET Z)) ?_))))))));refine AJ [17] [] Z Z (fun _=>AG (DE Z Z)) (AJ [18] [] Z Z (fun _=>AG (CQ Z Gg Z Z Z)) (AJ [19] [40] Z Z (fun _=>AG (Dn (f:=40) Z Z (hyb) Z Fz Z)) (AJ [6] [] Z Z (fun _=>AG (AZ Z QS Z Z Z)) (AJ [21] [911] Z Z (fun _=>AG (A6 Z Z Z Aq Z)) (C3 7 Z Z Z (Aa 8 Z Z (J (RL hqe x.pl[k].2 Z Z Z (by omega) Tryz.underlying175 LI Z) (AD ⟨Z,?_⟩))))))));refine Aa 9 Z Z (V (EW hcn Z [40] ⟨Z,trivial⟩ Z Z Z Z Z Z Z Z Z) (AD ⟨Z,?_⟩));refine C9 (KK Z (fun h24=>?_) (fun h24=>?_))
  ·refine AC (AE (AB Z Z (AD (A5 ?_))));exact ⟨_,[40,50,51],_,A3 Z,Z,Z,by rw [al_pl (List.any_eq_true.2 ⟨_,κ hk1,by unfold Y6;rw [hgy];simpa using h24⟩)],Z⟩
  ·refine A1 (AE (J (Ay Z Z (AT (k+1) (by omega)) Z) (goMv Z Z (AD ?_))));exact ⟨k+1,⟨by show k+1≤_;omega,by rw [φ hk1];intro e he;rcases υ.1 he with he | he;exact hkb e he;rw [ξ.1 he];unfold Y6;rw [hgy];simpa using h24⟩,by show x.pl.length - (k+1)<x.pl.length - k;omega,A0 hF [910,40,50,51] Z (Z) ⟨Z,Z,Z,Z,Z,trivial⟩⟩
 ·refine BC (AC (AC ?_));have hp0:x.pl.any (Y6 N)=false:=by rw [List.any_eq_false];intro e he;have e1:k=x.pl.length:=(by have h:=h13;omega);rw [e1,ωw] at hkb;rw [hkb e he];simp
  refine AE ?_;refine goMv Z Z (J (DE Z Z) (J (CQ Z F8 Z Z Z) (J (CQ Z FH Z Z Z) (J (Dn (f:=40) Z Z (hxb) Z BI Z) (J (Zcy Z Z) (V (EW hc2 Z [910,40,50,51] ⟨Z,Z,Z,Z,trivial⟩ Z Z Z Z Z Z Z Z Z) (AD (KK Z (fun h32=>?_) (fun h32=>?_)))))))))
  ·refine AC (AE (AB Z Z (AD (A5 ?_))));exact ⟨_,[40,50,51],_,A3 Z,Z,Z,by rw [al_af hp0 (by simpa using h32)],Z⟩
  ·refine A1 (AC (AE ?_));refine goMv Z Z (J (DE Z Z) (J (CQ Z Jm Z Z Z) (J (Dn (f:=40) Z Z (hxb) Z Vn Z) (V (EW hc3 Z [40] ⟨Z,trivial⟩ Z Z Z Z Z Z Z Z Z) (J (O3 Z Z) (AB Z Z (AD (A5 ?_))))))));exact ⟨_,[40,50,51],_,A3 Z,Z,Z,by rw [al_ef hp0 (by simpa using h32)],Z⟩
abbrev HG (wb mv:Nat) (bs:Option (List Nat×Nat)) (L:List (Int×Value)) (M:MF):Hp:=(920,[.blk 171 [.d (pD wb 0)]])::HW mv bs L M
theorem bj {wb mv:Nat} {nb pb:Nat ->Nat} {N:Net} {M:MF} (bs:Option (List Nat×Nat)) (h:Bx wb mv nb pb N M) (hw:NetW N) {i:Nat} {x:Nd} (hx:N.nd[i]? =some x):
  AM Tryz.prog 98 [.d (pD (nb i) 0),.ptr 920 0 0] (HG wb mv bs (Fa nb (BP N)) M) fun r H'=>r= .d (Ag (x.on && Dl N x))∧H'=HG wb mv bs (Fa nb (BP N)) M:=by
 have hxb:=h.n i x hx;have hal:=alone_c bs h hw hx
 obtain ⟨L,hL⟩:∃L,Fa nb (BP N)=L:=⟨_,Z⟩
 rw [hL] at hal⊢;refine Az Tryz.func98 Z Z Tryz.ntmps98 Z Z Z fun F hF=>(AC (AE (AB Z Z ?_)));refine AD (AC (AE (goMv Z Z (J (DE Z Z) (J (CQ Z E4 Z Z Z) (J (Dn (f:=40) Z Z (hxb) Z on4 Z) (goMv Z Z (Mv 8 Z (fun h8=>?_) (fun h8=>?_)))))))))
 ·refine Af Z Z Z ?_;refine J (A6 Z Z Z Vq Z) (Af Z Z Z (goMv Z Z (Af Z Z Z (V (EW hal Z [40,50,51] ⟨Z,Z,Z,trivial⟩ Z Z Z Z Z Z Z Z Z) (J (Fb Z Z Z Z) (AB Z Z (AD (A5 ?_))))))));exact ⟨_,[920,40,50,51],_,A3 Z,Z,Z,by rcases Bool.eq_false_or_eq_true x.on with e | e<;>rw [e] at h8⊢<;>first | rfl | (simp at h8),rfl⟩
 ·refine A9 Z Z Z Z (A9 Z Z Z Z (A9 Z Z Z Z (J (DZ Z Z Z Z) (AB Z Z (AD (A5 ?_))))));exact ⟨_,[920,40,50,51],_,A3 Z,Z,Z,by rcases Bool.eq_false_or_eq_true x.on with e | e<;>rw [e] at h8⊢<;>first | rfl | (simp at h8),rfl⟩
def NT (N:Net) (i:Nat):Bool:=(N.nd.getD i Bc).on && Dl N (N.nd.getD i Bc)
theorem idxG_c {wb mv:Nat} {nb pb:Nat ->Nat} {N:Net} {M:MF} (bs:Option (List Nat×Nat)) (h:Bx wb mv nb pb N M) (hw:NetW N):
  AM Tryz.prog 97 [.d (hdr N.nh N.nd.length),.fn 98 [.ptr 920 0 0]] (HG wb mv bs (Fa nb (BP N)) M) fun r H'=>r= .d (AF (OA (NT N) (List.range N.nd.length)))∧H'=HG wb mv bs (Fa nb (BP N)) M:=by
 have hnr:BF M N.nh aC 1 ((List.range N.nd.length).map fun i=>BG (nb i)):=h.rs.1 .n;have hz:N.nh=none ->N.nd.length=0:=fun e=>by have h1:=Ta hnr e;rw [ωh] at h1;exact h1
 have hnl:=hw.n.1;have hgr:=fun i x hx=>bj (i:=i) (x:=x) bs h hw hx
 obtain ⟨L,hL⟩:∃L,Fa nb (BP N)=L:=⟨_,Z⟩
 rw [hL] at hgr⊢;refine Az Tryz.func97 Z Z Tryz.ntmps97 Z Z Z fun F hF=>(AC (AE (AB Z Z (AD ?_))));refine AC (AC (AE (goMv Z Z (J (VF hz Z Tryz.underlying175 Z) (goMv Z Z (AD (A4 (B5 (α:=Nat) (fun k=>⟨19,[(0,.d (hdr N.nh N.nd.length)),(1,.fn 98 [.ptr 920 0 0]),(7,(.d (AF (N.nd.length:Int)))),(8,(.d (AF (k:Int))))],HG wb mv bs L M⟩) (fun k=>k≤N.nd.length∧∀x∈(List.range N.nd.length).take k,NT N x=false) (fun k=>N.nd.length - k) (0) (⟨Δ _,by simp⟩) (A0 hF [920,40,50,51] Z Z ⟨Z,Z,Z,Z,trivial⟩) ?_))))))));rintro k ⟨hk0,hk⟩;refine AC (AE (J (BV Z Z Z) (AD (AC (Ae Z (fun h9=>?_) (fun h9=>?_))))))
 ·have hk1:k<N.nd.length:=Bf h9;refine A1 (AC (A4 (AC ?_)));have hkt:k<(List.range N.nd.length).length:=by rw [ωh];exact hk1
  obtain ⟨rb,rc,hre⟩:=Tj hnr hkt;have hrow:=Qm hnr hre
  obtain ⟨z,hz2⟩:∃z,N.nd[k]? =some z:=⟨_,ω hk1⟩
  have hal:=hgr k z hz2;have hon:NT N k=(z.on && Dl N z):=by unfold NT;rw [ϱ,hz2];rfl
  refine AE (goMv Z Z ?_);refine AB Z Z (AD (AC (AE (goMv Z Z (goMv Z Z (goMv Z Z (J (VB hre (k) Z Z Z hk1 Tryz.underlying175 LI Z) (J (Zcx (f:=40) (e:=k) (off:=0) Z (by omega) Z (hrow) ((by rw [η,ψu hk1];rfl)) Z Mq Z) ?_))))))));refine V (Yc hal Z [920,40,50,51] ⟨Z,Z,Z,Z,trivial⟩ Z Z Z Z Z Z Z Z Z) (AD (KK Z (fun h16=>?_) (fun h16=>?_)))
  ·refine AC (AE (goMv Z Z (AB Z Z (AD (A5 ?_)))));exact ⟨_,[920,40,50,51],_,A3 Z,Z,Z,Ac (by unfold OA;rw [Ge hkt hk (by rw [ψp,hon];simpa using h16)]),Z⟩
  ·refine A1 (AE (J (Ay Z Z (AT (k+1) (by omega)) Z) (goMv Z Z (AD ?_))));exact ⟨k+1,⟨by show k+1≤_;omega,by rw [φ hkt];intro y hy;rcases υ.1 hy with hy | hy;exact hk y hy;rw [ξ.1 hy,ψp,hon];simpa using h16⟩,by show N.nd.length - (k+1)<N.nd.length - k;omega,A0 hF [920,40,50,51] Z (Z) ⟨Z,Z,Z,Z,trivial⟩⟩
 ·refine BC (AC (AE (AB Z Z (AD (A5 ?_)))));exact ⟨_,[920,40,50,51],_,A3 Z,Z,Z,Ac (by unfold OA;rw [IR (fun x hx=>hk x (by rw [Ξ (by rw [ωh];have h:=h9;omega)];exact hx))]),Z⟩
theorem onN_ers (N:Net):onN (Ap N)=onN N:=funext fun i=>by unfold onN;rw [FJ];rfl
theorem X9 (N:Net):offOf (Ap N)=offOf N:=funext fun e=>by unfold offOf;rw [FJ,Gi];rfl
theorem YZ (N:Net) (x:Nd):Dl (Ap N) (Du x)=Dl N x:=by
 have h1:Y6 (Ap N)=Y6 N:=funext fun e=>by unfold Y6;rw [Hk,onN_ers];rfl
 have h2:(fun e:Nat×Int=>ON ((Ap N).po.getD e.1 Bz) e.2)=fun e=>ON (N.po.getD e.1 Bz) e.2:=funext fun e=>by rw [Hk];rfl
 unfold Dl;rw [h1,X9];show (!(x.pl.any (Y6 N)) &&(!(x.it.af.any fun id=>!offOf N id) && !(x.ef.any fun e:Nat×Int=>ON ((Ap N).po.getD e.1 Bz) e.2)))=_;rw [h2]
theorem bk (N:Net):NT (Ap N)=NT N:=funext fun i=>by unfold NT;rw [FJ,YZ];rfl
def O0 (po:List Po) (e:Nat×Int):List Po:=match po[e.1]? with
 | some y=>po.set e.1 {y with room:=y.room+e.2}
 | none=>po
theorem Wf {po:List Po} {e:Nat×Int} {y:Po} (h:po[e.1]? =some y):O0 po e=po.set e.1 {y with room:=y.room+e.2}:=by unfold O0;rw [h]
theorem T0:∀(l:List (Nat×Int)) (po:List Po),(l.foldl O0 po).map CP=l.foldl O0 (po.map CP)
 | [],_=>rfl
 | e::l,po=>by
  rw [List.foldl_cons,List.foldl_cons,T0 l]
  congr 1
  unfold O0;rw [η]
  cases po[e.1]? with
  | none=>rfl
  | some y=>show (po.set e.1 _).map CP=_;rw [List.map_set];rfl
theorem Y1 {ros:List Roo} (hn:(ros.map Roo.r).Nodup) (f:Roo ->Po):∀(D:List (AP×Int)),(D.map Prod.fst).Nodup ->(Uk (ros.map Roo.r) D).foldl O0 (ros.map f)=ros.map fun x=>{f x with room:=(f x).room+CB D x.r}:=by
 intro D
 induction D using Y9 with
 | h0=>
  intro _;show ros.map f=_;refine ωi fun x _=>?_;show f x={f x with room:=(f x).room+0}
  rw [Int.add_zero]
 | h1 D d ih=>
  intro hD;rw [ωe,χo] at hD;have hdn:d.1∉D.map Prod.fst:=fun h=>hD.2.2 _ h _ (List.mem_singleton_self _) rfl;have ih:=ih hD.1
  by_cases hm:d.1∈ros.map Roo.r
  ·rw [Uj hm,List.foldl_append,ih];obtain ⟨hj,hr⟩:=Ly hm;show O0 _ ((ros.map Roo.r).idxOf d.1,d.2)=_;rw [Wf (y:=(fun x=>{f x with room:=(f x).room+CB D x.r}) ros[(ros.map Roo.r).idxOf d.1]) (by rw [η,ω hj];rfl)];refine QX hj hn ?_ fun x hx hne=>?_
   ·dsimp only;have h1:CB (D++ [d]) ros[(ros.map Roo.r).idxOf d.1].r=d.2:=by rw [hr];exact DP hdn
    have h2:CB D ros[(ros.map Roo.r).idxOf d.1].r=0:=by rw [hr];exact EI hdn
    rw [h1,h2,Int.add_zero]
   ·rw [hr] at hne;have:CB (D++ [d]) x.r=CB D x.r:=Cx hne;rw [this]
  ·rw [QZ hm,ih];refine ωi fun x hx=>?_;have:CB (D++ [d]) x.r=CB D x.r:=Cx fun e=>hm (e▸ν.2 ⟨x,hx,Z⟩);rw [this]
def D2 (on:Nat ->Bool):Nat ->Bool:=fun i=>!on i
def poG (ds:List (List (AP×Int))) (on:Nat ->Bool) (x:Roo):Po:=⟨x.r,x.n+Ep ds (D2 on) x.r,Ep ds (fun _=>true) x.r,none,negQ ds x.r,(negQ ds x.r).length⟩
def netG (ros:List Roo) (its:List AK) (on:Nat ->Bool):Net:=⟨(List.range its.length).map (Ke (ros.map Roo.r) its on),ros.map (poG (its.map dltS) on),none,none⟩
theorem XD (ds:List (List (AP×Int))) (r:AP):Ep ds (D2 fun _=>true) r=0:=by
 unfold Ep D2
 generalize List.range ds.length=l
 induction l with
 | nil=>rfl
 | cons a l ih=>rw [ωm,χd,ih];rfl
theorem ao (ros:List Roo) (its:List AK):netG ros its (fun _=>true)=netS ros its fun _=>true:=by
 unfold netG netS
 congr 1
 refine ωi fun x _=>?_;unfold poG aB;rw [XD,Int.add_zero,WH]
theorem sumS_on {ds:List (List (AP×Int))} {i:Nat} (h:i<ds.length) {on:Nat ->Bool} (ho:on i=true) (r:AP):Ep ds (D2 (A7 on i)) r=Ep ds (D2 on) r+CB (ds.getD i []) r:=by
 obtain ⟨B,h1,h3⟩:=ID h;unfold Ep;rw [h1,ωe,ωe,ωm,ωm,χc,χc,χd,χd]
 have e1:(List.range i).map (fun j=>if D2 (A7 on i) j=true then CB (ds.getD j []) r else 0)=(List.range i).map fun j=>if D2 on j=true then CB (ds.getD j []) r else 0:=ωi fun j hj=>by
  unfold D2;rw [Zcm (by have:=Θ.1 hj;omega)]
 have e2:B.map (fun j=>if D2 (A7 on i) j=true then CB (ds.getD j []) r else 0)=B.map fun j=>if D2 on j=true then CB (ds.getD j []) r else 0:=ωi fun j hj=>by
  unfold D2;rw [Zcm (by have:=h3 j hj;omega)]
 have e3:(if D2 (A7 on i) i=true then CB (ds.getD i []) r else 0)=CB (ds.getD i []) r:=by unfold D2;rw [Ee];rfl
 have e4:(if D2 on i=true then CB (ds.getD i []) r else 0)=0:=by unfold D2;rw [ho];rfl
 rw [e1,e2,e3,e4];omega
def grN (N:Net) (i:Nat) (x:Nd):Net:={N with nd:=N.nd.set i (EF x),po:=x.ef.foldl O0 N.po}
theorem gr_S {ros:List Roo} {its:List AK} (hn:(ros.map Roo.r).Nodup) {on:Nat ->Bool} {N:Net} (h:Ap N=netG ros its on) {i:Nat} (hi:i<its.length) (ho:on i=true) {x:Nd} (hx:N.nd[i]? =some x):Ap (grN N i x)=netG ros its (A7 on i):=by
 have hnd:N.nd.map Du=(List.range its.length).map (Ke (ros.map Roo.r) its on):=Γ Net.nd h;have hpo:N.po.map CP=ros.map (poG (its.map dltS) on):=Γ Net.po h
 have hxe:Du x=Ke (ros.map Roo.r) its on i:=by
  have h1:(N.nd.map Du)[i]? =some (Du x):=by rw [η,hx];rfl
  rw [hnd,η,ψu hi] at h1;exact (Option.some.inj h1).symm
 have hef:x.ef=Uk (ros.map Roo.r) (dltS (its.getD i itm0)):=Γ Nd.ef hxe;have hdi:i<(its.map dltS).length:=by simpa using hi
 have hgi:(its.map dltS).getD i []=dltS (its.getD i itm0):=by rw [Bp [] hdi,Bp itm0 hi,ωb]
 unfold Ap grN netG;dsimp only
 congr 1
 ·rw [List.map_set,hnd]
  have:Du (EF x)=Ke (ros.map Roo.r) its (A7 on i) i:=by
   have h1:Du (EF x)=EF (Du x):=rfl;rw [h1,hxe];unfold Ke EF A7;rw [θ rfl]
  rw [this];refine χs fun j=>?_;rw [χr]
  by_cases e:i=j
  ·subst e;rw [θ Z,θ (by simpa using hi),η,ψu hi];rfl
  ·rw [ϑ e,η,η]
   cases hj:(List.range its.length)[j]? with
   | none=>rfl
   | some z=>
    have hz:=χ.1 hj;have:z=j:=by have:=hz.2;simp at this;exact this.symm
    subst this;show some _=some _;unfold Ke A7;rw [ϑ (fun h=>e h.symm)]
 ·rw [T0,hpo,hef,Y1 hn _ _ (Zcc _)];refine ωi fun z _=>?_;unfold poG;dsimp only;rw [sumS_on hdi ho,hgi,Int.add_assoc]
theorem G_q (ros:List Roo) (its:List AK) (on:Nat ->Bool) (j:Nat):((netG ros its on).po.getD j Bz).q=((netS ros its on).po.getD j Bz).q:=by
 show ((ros.map _).getD j Bz).q=((ros.map _).getD j Bz).q;rw [ϱ,ϱ,η,η]
 cases ros[j]?<;>rfl
theorem G_w {ros:List Roo} {its:List AK} (h:SmO ros its) (on:Nat ->Bool):NetW (netG ros its on):=by
 have hS:=S_w h on
 have hq:∀y∈(netG ros its on).po,y.q.length≤30∧y.mi≤30∧ -1000000000000000000≤y.room∧y.room≤1000000000000000000:=fun y hy=>by
  obtain ⟨x,hx,e⟩:=ν.1 hy;subst e;have h1:=J2 (its.map dltS) x.r;rw [ψ] at h1;have hl:=h.l;have h2:=S_sum h (D2 on) x.r;have h3:=h.n x hx;refine ⟨by show (negQ _ _).length≤_;omega,by show (negQ _ _).length≤_;omega,?_,?_⟩
  ·show _≤x.n+Ep (its.map dltS) (D2 on) x.r;omega
  ·show x.n+Ep (its.map dltS) (D2 on) x.r≤_;omega
 refine ⟨hS.i,hS.a,hS.l,hS.e,fun x hx e he=>?_,fun y hy=>?_,fun y hy=>(hq y hy).2.2,?_,fun y hy=>?_⟩
 ·rw [G_q];exact hS.p x hx e he
 ·have:=hq y hy;omega
 ·have h1:=hS.n;have h2:(netG ros its on).po.length=(netS ros its on).po.length:=by unfold netG netS;simp
  rw [h2];exact h1
 ·have:=hq y hy;omega
theorem G_nd_at {ros:List Roo} {its:List AK} {on:Nat ->Bool} {N:Net} (h:Ap N=netG ros its on) {i:Nat} {x:Nd} (hx:N.nd[i]? =some x):i<its.length∧x.on=on i∧x.it=its.getD i itm0:=by
 have h1:(N.nd.map Du)[i]? =some (Du x):=by rw [η,hx];rfl
 rw [show N.nd.map Du=(List.range its.length).map (Ke (ros.map Roo.r) its on) from Γ Net.nd h] at h1;have hi:i<its.length:=by have:=(χ.1 h1).1;simpa using this
 rw [η,ψu hi] at h1;have h2:Du x=Ke (ros.map Roo.r) its on i:=(Option.some.inj h1).symm;exact ⟨hi,Γ Nd.on h2,Γ Nd.it h2⟩
theorem G_len {ros:List Roo} {its:List AK} {on:Nat ->Bool} {N:Net} (h:Ap N=netG ros its on):N.nd.length=its.length:=by
 have h1:=Γ (fun N=>N.nd.length) h;have h2:(N.nd.map Du).length=((List.range its.length).map _).length:=h1
 rwa [ψ,ψ,ωh] at h2
theorem G_ids {ros:List Roo} {its:List AK} {on:Nat ->Bool} {N:Net} (h:Ap N=netG ros its on):BP N=its.map AK.id:=by
 rw [←Gi,h];exact Pd ros its on
def HZ (ros:List Roo) (its:List AK) (on:Nat ->Bool):Option Nat:=(List.range its.length).findIdx? (NT (netG ros its on))
def L9 (ros:List Roo) (its:List AK):Nat ->(Nat ->Bool) ->List Int
 | 0,_=> []
 | f+1,on=>match HZ ros its on with
  | none=> []
  | some i=>(its.getD i itm0).id::L9 ros its f (A7 on i)
def Cp (p:Prb):List Int:=L9 (rosS p) (ordP p) (ordP p).length fun _=>true
theorem Mw {ros:List Roo} {its:List AK} {on:Nat ->Bool} {i:Nat} (h:HZ ros its on=some i):i<its.length∧on i=true∧NT (netG ros its on) i=true:=by
 unfold HZ at h;rw [List.findIdx?_eq_some_iff_getElem] at h;obtain ⟨hi,h1,_⟩:=h;rw [ωh] at hi;rw [ψp] at h1;refine ⟨hi,?_,h1⟩;unfold NT at h1
 have h2:(netG ros its on).nd.getD i Bc=Ke (ros.map Roo.r) its on i:=by
  show ((List.range its.length).map _).getD i Bc=_;rw [Bp Bc (by simpa using hi),ωb,ψp]
 rw [h2] at h1;exact (Bool.and_eq_true_iff.1 h1).1
theorem IC {ros:List Roo} {its:List AK} {f:Nat} {on:Nat ->Bool} (h:HZ ros its on=none):L9 ros its f on=[]:=by
 cases f with
 | zero=>rfl
 | succ f=>unfold L9;rw [h]
theorem IB {ros:List Roo} {its:List AK} {f:Nat} {on:Nat ->Bool} {i:Nat} (h:HZ ros its on=some i):L9 ros its (f+1) on=(its.getD i itm0).id::L9 ros its f (A7 on i):=by
 show (match HZ ros its on with | none=>_ | some i=>_)=_;rw [h]
def Oq (po:List Po) (b:Int):Prop:=∀y∈po,-b≤y.room∧y.room≤b
theorem XT {po:List Po} {b c:Int} (h:Oq po b) (hbc:b≤c) {j:Nat} {y:Po} (hy: -c≤y.room∧y.room≤c):Oq (po.set j y) c:=fun z hz=>by
 rcases χf hz with hz | rfl
 ·have:=h z hz;omega
 ·exact hy
set_option maxHeartbeats 2000000 in
theorem Sa (p:Prb) (hf:DW p) (hE:Ad p=0):AO Tryz.prog 43 [.d (Bq p)] (.tup [.sl none ((Cp p).map AF),AF 0]):=by
 have hbu:=TT p hf hE;have hsm:=Z2 hf hE;unfold Cp;rw [al,←ao] at hbu
 obtain ⟨its,hits⟩:∃its,ordP p=its:=⟨_,Z⟩
 obtain ⟨ros,hros⟩:∃ros,rosS p=ros:=⟨_,Z⟩
 rw [hits,hros] at hbu hsm⊢;have hl:=hsm.l;refine Az Tryz.func43 Z Z Tryz.ntmps43 Z Z Z fun F hF=>?_;refine AC (AE (V (CC 1 Z Z Z Z Z Z Z) (AB Z Z (AB Z Z (AD (AC (AE (J (BM Z Z B2 Z Z Z) ?_))))))));refine CY (Wm hbu Z [40,50,51] ⟨Z,Z,Z,trivial⟩ Z Z Z Z (fun r H' ⟨_,_,_,_,_,_,_,e1,e2,_⟩=>by subst e1 e2;exact ⟨Z,Z,Z⟩) Z) Z ?_;rintro _ ⟨r,H',⟨wb,mv,nb,pb,N,M,bs,rfl,rfl,hR,hN⟩,rfl⟩;refine goMv Z Z (J (DD Z Z Z) (J (DD Z Z Z) (V (CD 920 zl171 Z Z Z Z) (V (Be Z Z Z Z Z Z Z sz171) (AB Z Z (AD ?_))))));refine AC (AC (AE (goMv Z Z (J (DX Z Z Z) (AD (EN Z (Z) (A1 (AC ?_))))))));rw [G_ids hN];refine AE (AB Z Z (AD (A4 (O4 6 900 BW Z Z Z Z (B5 (α:=(Nat ->Bool)×Net×MF×List Int×Nat) (fun q=>⟨66,[(4,(.ptr 920 0 0)),(6,(.own 900 0 q.2.2.2.1.length))],(900,[.rowD 3 1 (q.2.2.2.1.map AF)])::HG wb mv bs (Fa nb (its.map AK.id)) q.2.2.1⟩) (fun q=>Bx wb mv nb pb q.2.1 q.2.2.1∧Ap q.2.1=netG ros its q.1∧EL its.length q.1≤q.2.2.2.2∧q.2.2.2.1.length+q.2.2.2.2≤its.length∧q.2.2.2.1++L9 ros its q.2.2.2.2 q.1=L9 ros its its.length fun _=>true) (fun q=>q.2.2.2.2) ((fun _=>true,N,M,[],its.length)) (⟨hR,hN,cX _ _,by simp,Z⟩) (A0 hF [900,920,40,50,51] Z Z ⟨Z,Z,trivial⟩) ?_)))));rintro ⟨on,N,M,acc,f⟩ ⟨hR,hN,hc,hal,hr1⟩;dsimp only at hR hN hc hal hr1⊢;refine A4 (AC ?_);have hw:=W_ers (N:=N) (by rw [hN];exact G_w hsm on);have hwb:=hR.w;have hnr:BF M N.nh aC 1 ((List.range N.nd.length).map fun i=>BG (nb i)):=hR.rs.1 .n;have hix:=idxG_c bs hR hw;have hNl:=G_len hN;have hixv:OA (NT N) (List.range N.nd.length)=match HZ ros its on with | some k=>(k:Int) | none=> -1:=by rw [←bk,hN,G_len hN];rfl
 rw [G_ids hN,hixv] at hix;refine AE (J (A6 Z Z Z Vq Z) (J (DE Z Z) (J (CQ Z IS Z Z Z) (J (Dn (f:=40) Z Z (hwb) Z Fz Z) (J (Zcy Z Z) ?_)))))
 cases hne:HZ ros its on<;>rw [hne] at hix
 ·refine V (EW hix Z [920,40,50,51] ⟨Z,Z,Z,Z,trivial⟩ Z Z Z Z Z Z Z Z Z) (AB Z Z ?_);refine AD (AC (AC (AE (goMv Z Z (J (BV Z Z Z) (AD (DV Z (Z) (AC ?_))))))));rw [IC hne,ωl] at hr1;refine L3 (emb:=AF) 6 900 acc Z Z Z Z Z Z Z (AE (goMv Z Z (AB Z Z (AB Z Z (AD (A5 ?_))))));exact ⟨_,[],[],A3 Z,Z,Z,by rw [hr1],Z⟩
 ·refine V (EW hix Z [920,40,50,51] ⟨Z,Z,Z,Z,trivial⟩ Z Z Z Z Z Z Z Z Z) (AB Z Z (AD ?_));refine AC (AC (AE (goMv Z Z (J (BV Z Z Z) (AD (EN Z ((ωp (by show ¬((_:Nat):Int)<0;omega))) (A1 (AC ?_))))))))
  rename_i i
  obtain ⟨hiN,hoi,hgr⟩:=Mw hne;have hil2:i<N.nd.length:=by rw [hNl];exact hiN
  obtain ⟨x,hx⟩:∃x,N.nd[i]? =some x:=⟨_,ω hil2⟩
  obtain ⟨_,hon,hit⟩:=G_nd_at hN hx;obtain ⟨rb,rc,hre⟩:=Tj hnr (j:=i) (by rw [ωh];exact hil2);have hrow:=Qm hnr hre;have hcn:=LB hiN hoi
  obtain ⟨f2,rfl⟩:∃f2,f=f2+1:=⟨f - 1,by omega⟩
  have hrs:=IB (f:=f2) hne;have hxm:=ζ hx;have hxb:=(hR.nn i x hx).1;have hez:=Ta (hR.nn i x hx).2.1;have hrx:=(hR.nn i x hx).2.1;have hxe:=hR.e x hxm;have h1:=hR.setNd (x':=EF x) hx Z Z Z Z;have hx1:(N.nd.set i (EF x))[i]? =some (EF x):=by rw [List.getElem?_set_self hil2]
  have he:=hw.e x hxm;have hel:=(hw.l x hxm).1;have hrB:Oq N.po 1000000000000000000:=hw.rm;refine AE (J (A6 Z Z Z Vq Z) (J (DE Z Z) (J (CQ Z IS Z Z Z) (J (Dn (f:=40) Z Z (hwb) Z Fz Z) (goMv Z Z (J (VB hre (i) Z Z Z hil2 Tryz.underlying175 LI Z) (J (Zcx (f:=40) (e:=i) (off:=0) Z (by omega) Z (hrow) ((by rw [η,ψu hil2];rfl)) Z Mq Z) ?_)))))));refine AB Z Z (AD (AC ?_));refine AE (goMv Z Z (J (DE Z Z) (J (CQ Z E4 Z Z Z) (V (O2 (f:=40) Z Z Z Z (hxb) ((by show _<9;omega)) Z sz4) (AD (AC (AC (AE ?_))))))));refine goMv Z Z (J (DE Z Z) (J (CQ Z Jm Z Z Z) (J (Dn (f:=40) Z Z ((EX _ _ _)) Z Vn Z) (J (VF hez Z Tryz.underlying181 Z) (goMv Z Z (AD (A4 (B5 (α:=Nat×List Po×MF) (fun q=>⟨66,[(4,(.ptr 920 0 0)),(6,(.own 900 0 acc.length)),(8,(.d (pD (nb i) 0))),(41,(.d (hdr x.eh x.ef.length))),(42,(.d (AF (x.ef.length:Int)))),(43,(.d (AF (q.1:Int))))],(900,[.rowD 3 1 (acc.map AF)])::HG wb mv bs (Fa nb (its.map AK.id)) q.2.2⟩) (fun q=>q.1≤x.ef.length∧q.2.1=(x.ef.take q.1).foldl O0 N.po∧Bx wb mv nb pb {N with nd:=N.nd.set i (EF x),po:=q.2.1} q.2.2∧Oq q.2.1 (1000000000000000000+100000000000000000*(q.1:Int))∧q.2.1.length=N.po.length) (fun q=>x.ef.length - q.1) ((0,N.po,BO M (nb i) (Th (EF x)))) (⟨Δ _,Z,h1,by show Oq N.po (1000000000000000000+100000000000000000*((0:Nat):Int));simpa using hrB,Z⟩) (A0 hF [900,920,40,50,51] Z Z ⟨Z,Z,Z,Z,Z,Z,trivial⟩) ?_))))))));rintro ⟨k,po,M2⟩ ⟨hk0,hpo,hR2',hS,hpol⟩;dsimp only at hk0 hpo hR2' hS hpol⊢;refine AC (AE (J (BV Z Z Z) (AD (AC (Ae Z (fun h44=>?_) (fun h44=>?_))))))
  ·have hk1:k<x.ef.length:=Bf h44;refine A1 (AC (A4 (AC ?_)));obtain ⟨eb,ec,hee⟩:=Tj hrx hk1;have hrow2:=Qm (hR2'.nn i (EF x) hx1).2.1 hee;have hjl:x.ef[k].1<po.length:=by rw [hpol];exact hxe.1 _ (κ hk1)
   obtain ⟨y,hy⟩:∃y,po[x.ef[k].1]? =some y:=⟨_,ω hjl⟩
   have hyb:=hR2'.p _ y hy;have hys:=hS y (ζ hy);have heb:=he _ (κ hk1);refine AE ?_;refine J (VB hee (k) Z Z Z hk1 Tryz.underlying181 RE Z) (J (D3 (f:=40) (e:=k) Z (Z) Z (hrow2) (Ah hk1) Z Zf Z) (V (CD 2 Yi Z Z Z Z) (V (Be Z Z Z Z Z Z Z RE) (AD (Cb [[],[0],[0,1],[0,1,2],[0,1,2,3],[],[5],[0,1,2,3,4,5,6],[0,1,2,3,4,5,6,7],[0,1,2,3,4,5,6,7,8],[0,1,2,3,4,5,6,7,8,9]] mixed Z (Cr (AJ [10] [] Z Z (fun _=>AG (AZ Z QV Z Z Z)) (AJ [47] [2] Z Z (fun _=>AG (A6 Z Z Z ET Z)) ?_))))))));refine AJ [48] [] Z Z (fun _=>AG (DE Z Z)) (AJ [49] [] Z Z (fun _=>AG (CQ Z QT Z Z Z)) (AJ [50] [40] Z Z (fun _=>AG (Dn (f:=40) Z Z (hyb) Z JG Z)) (AJ [10] [] Z Z (fun _=>AG (AZ Z QU Z Z Z)) (AJ [52] [2] Z Z (fun _=>AG (A6 Z Z Z JG Z)) (C3 7 Z Z Z (Aa 8 Z Z (J (Ay Z Z (ωa _ (by omega)) Z) (AD ⟨Z,?_⟩))))))));refine Aa 9 Z Z (J (DE Z Z) (AD ⟨Z,?_⟩));refine Aa 10 Z Z (J (CQ Z QT Z Z Z) (AD ⟨Z,?_⟩));refine Aa 11 Z Z (V (O2 (f:=40) Z Z Z Z (hyb) ((by show _<10;omega)) Z sz2) (AD ⟨Z,?_⟩));refine C9 (AE (J (Ay Z Z (AT (k+1) (by omega)) Z) (goMv Z Z (AD ?_))));exact ⟨(k+1,po.set x.ef[k].1 {y with room:=y.room+x.ef[k].2},BO M2 (pb x.ef[k].1) (Tg {y with room:=y.room+x.ef[k].2})),⟨by show k+1≤_;omega,by show po.set _ _=_;rw [Kq hk1,←hpo,Wf hy],hR2'.setPo hy Z Z,by show Oq _ (1000000000000000000+100000000000000000*((k+1:Nat):Int));exact XT hS (by omega) (by show _≤y.room+x.ef[k].2∧y.room+x.ef[k].2≤_;omega),by show (po.set _ _).length=_;rw [ψf];exact hpol⟩,by show x.ef.length - (k+1)<x.ef.length - k;omega,A0 hF [900,920,40,50,51] Z (Z) ⟨Z,Z,Z,Z,Z,Z,trivial⟩⟩
  ·refine BC ?_;have hpo1:po=x.ef.foldl O0 N.po:=by rw [hpo,Ξ (by have h:=h44;omega)]
   have hR2:Bx wb mv nb pb (grN N i x) M2:=by unfold grN;rw [←hpo1];exact hR2'
   have hxb1:=(hR2'.nn i (EF x) hx1).1;refine AE (goMv Z Z ?_);refine goMv Z Z (J (DE Z Z) (J (CQ Z F8 Z Z Z) (J (CQ Z OC Z Z Z) (J (Dn (f:=40) Z Z (hxb1) Z Aq Z) (V (D1 3 BW Z Z Z Z Z Z Z Z) (V (I0 (acc) ([x.it.id]) Z Z Z Z Z Z Z Z BW (by simp only [Ψ];omega) Z Z Z Z) (AB Z Z (AD ?_))))))));exact ⟨(A7 on i,grN N i x,M2,acc++ [x.it.id],f2),⟨hR2,gr_S hsm.r hN hiN hoi hx,by show EL its.length (A7 on i)≤f2;omega,by show (acc++ [x.it.id]).length+f2≤_;rw [ς];simp;omega,by show (acc++ [x.it.id])++L9 ros its f2 (A7 on i)=_;rw [ψk,←hr1,hrs,hit];rfl⟩,by show f2<f2+1;omega,A0 hF [900,920,40,50,51] Z (Z) ⟨Z,Z,trivial⟩⟩
def T4 (a:List UInt8):Td:=⟨a,0,[67,65,83,72]⟩
def OM (id:Int) (a b:List UInt8) (n:Int):AK:=⟨id,0,id,[⟨T4 a,0 - n⟩,⟨T4 b,n⟩],[],[]⟩
deriving instance DecidableEq for JH
theorem JH.eq_iff {x y:JH}:x=y↔x.id=y.id∧x.re=y.re∧x.r=y.r∧x.by_=y.by_:=by cases x;cases y;simp
def rcK (a:UInt8):AP:=⟨0,T4 [a],[],[]⟩
def nmK:List (List UInt8):=[[65],[66],[67]]
def Ps:List Roo:=[⟨rcK 65,0⟩,⟨rcK 66,0⟩,⟨rcK 67,0⟩]
theorem ers_S (ros:List Roo) (its:List AK) (on:Nat ->Bool):Ap (netS ros its on)=netS ros its on:=by
 unfold Ap netS;dsimp only;rw [ωr,ωr]
 rfl
theorem YM (n:Nat):EL n (fun _=>true)=n:=by
 unfold EL;rw [List.filter_eq_self.2 fun _ _=>rfl,ωh]
theorem run_len {ros:List Roo} {its:List AK} (hi:(its.map AK.id).Nodup):∀(f:Nat) (on:Nat ->Bool),(Ex ros its f on).1.length+EL its.length (Ex ros its f on).2=EL its.length on:=by
 intro f
 induction f with
 | zero=>intro on;show 0+_=_;rw [ψs];rfl
 | succ f ih=>
  intro on
  cases hn:DO (netS ros its on) with
  | none=>rw [M9 hn];show 0+_=_;rw [ψs]
  | some e=>
   obtain ⟨i,x,hx,hon,hid⟩:=Pz hn;obtain ⟨hiN,hoi,hit⟩:=MM (ers_S ros its on) hx;rw [hon] at hoi;have hil:i<(its.map AK.id).length:=by rw [ψ];exact hiN
   have hei:(its.map AK.id)[i]=e.id:=by rw [hid,hit,ωb,Bp itm0 hiN]
   rw [M8 hn,←hei,IM hi hil];have h1:=ih (A7 on i);have h2:=LB hiN hoi.symm;show (Ex ros its f (A7 on i)).1.length+1+EL its.length (Ex ros its f (A7 on i)).2=EL its.length on;omega
theorem Xo (p:Prb):(largeS p).length=EL (ordP p).length (Js p).2:=by
 unfold largeS BX EL;rw [ψ]
theorem bx {p:Prb} (hE:Ad p=0):(Js p).1.length+(largeS p).length=p.it.length:=by
 have h1:ordP p=sortO p.it:=θ hE;have h:=run_len (ros:=rosS p) (F1 hE) (ordP p).length fun _=>true;rw [YM] at h;rw [Xo];unfold Js;rw [h,h1,Cw]
theorem J7 {p:Prb} (hE:Ad p=0):largeS p=((ordP p).map AK.id).filter fun x=>decide (x∈largeS p):=Px (F1 hE) _
theorem PR {p:Prb} (hE:Ad p=0) {y:Int} (hy:y∈largeS p):y∈p.it.map AK.id:=by
 have h1:ordP p=sortO p.it:=θ hE;rw [J7 hE,h1] at hy;exact ((Qd p.it).map AK.id).mem_iff.1 (Ω.1 hy).1
theorem F5 {p:Prb} (hE:Ad p=0):(largeS p).Nodup:=by
 rw [J7 hE];exact (F1 hE).sublist ψq
theorem IL {p:Prb} (hE:Ad p=0):(largeS p).length≤p.it.length:=by have:=bx hE;omega
structure Qk (R:Int ->Int ->Prop) (l Y:List Roo):Prop where
 len:Y.length=l.length
 at_:∀(j:Nat) x y,l[j]? =some x ->Y[j]? =some y ->y.r=x.r∧ -4*Mx≤y.n∧y.n≤4*Mx∧R x.n y.n
theorem Qk.set {R:Int ->Int ->Prop} {l Y:List Roo} (h:Qk R l Y) {k:Nat} (hk:k<Y.length) {n:Int} (h1: -4*Mx≤n∧n≤4*Mx) (h2:∀x,R x Y[k].n ->R x n):Qk R l (Y.set k ⟨Y[k].r,n⟩):=
 ⟨by rw [ψf];exact h.len,fun j x y hx hy=>by
  rw [χr] at hy
  split at hy
  ·rename_i e;subst e
   first | (rw [θ hk] at hy;injection hy with hy;subst hy) | (injection hy with hy;subst hy)
   have:=h.at_ k x _ hx (ω hk);exact ⟨this.1,h1.1,h1.2,h2 _ this.2.2.2⟩
  ·exact h.at_ j x y hx hy⟩
theorem Qk.map {R:Int ->Int ->Prop} {l Y:List Roo} (h:Qk R l Y):Y.map Roo.r=l.map Roo.r:=by
 refine χa (by rw [ψ,ψ,h.len]) fun j h1 h2=>?_;rw [ψ] at h1 h2;rw [ωb,ωb];exact (h.at_ j _ _ (ω h2) (ω h1)).1
theorem Qk.mem {R:Int ->Int ->Prop} {l Y:List Roo} (h:Qk R l Y):∀y∈Y,∃x∈l,y.r=x.r∧ -4*Mx≤y.n∧y.n≤4*Mx∧R x.n y.n:=fun y hy=>by
 obtain ⟨j,hj,rfl⟩:=χp.1 hy;have hj':j<l.length:=by rw [←h.len];exact hj
 exact ⟨l[j],κ hj',h.at_ j _ _ (ω hj') (ω hj)⟩
theorem mx_v:Mx=1000000000000000:=rfl
theorem Qk.b {R:Int ->Int ->Prop} {l Y:List Roo} (h:Qk R l Y) {k:Nat} (hk:k<Y.length): -4000000000000000≤Y[k].n∧Y[k].n≤4000000000000000:=by
 obtain ⟨x,_,_,h2,h3,_⟩:=h.mem _ (κ hk);rw [mx_v] at h2 h3;exact ⟨by omega,by omega⟩
section
variable {P:Program} {F:Fr} {s:AS} {d:Nat} {ty:TypeId} {pos:String} {aft:Array Edge} {g:Option (Nat×Bool)} {at_:Array TypeId}
end
def allL (p:Prb):List Int:=(sortO p.it).map AK.id
def wthI (id:Int) (y:AK):AK:=⟨y.id,y.pr,y.sq,y.po,y.pa,Li y.af id⟩
def V9 (id:Int) (its:List AK):List AK:=(its.filter fun y=>decide (y.id≠id)).map (wthI id)
def set1 (p:Prb) (id:Int):Prb:=⟨p.ro.map fun x=>⟨x.r,x.n+Bg (BK p id) x.r⟩,V9 id p.it⟩
theorem XP (id:Int) (its:List AK):(V9 id its).length≤its.length:=by
 unfold V9;rw [ψ];exact ωj _ _
structure Mid (p:Prb) (b:Int):Prop where
 f:DW p
 r:(p.ro.map Roo.r).Nodup
 n:∀x∈p.ro,-b≤x.n∧x.n≤b
theorem Mid.set {p:Prb} {b:Int} (h:Mid p b) (id:Int):Mid (set1 p id) (b+1000000000000000):=by
 refine ⟨⟨?_,?_,fun x hx=>?_⟩,?_,fun x hx=>?_⟩
 ·have:=XP id p.it;have h1:=h.f.i;show (V9 id p.it).length≤30;omega
 ·show (p.ro.map _).length≤100;rw [ψ];exact h.f.r
 ·obtain ⟨y,hy,rfl⟩:=ν.1 hx;have h1:=h.f.x y (Ω.1 hy).1;exact ⟨h1.1,h1.2.1,ωf (ωj _ _) h1.2.2⟩
 ·show ((p.ro.map _).map Roo.r).Nodup;rw [ωr];exact h.r
 ·obtain ⟨y,hy,rfl⟩:=ν.1 hx;have h1:=h.n y hy;have h2:=cO (BK p id) y.r;show -(b+1000000000000000)≤y.n+Bg (BK p id) y.r∧y.n+Bg (BK p id) y.r≤b+1000000000000000;omega
noncomputable def grossR:Nat ->Prb ->List Int
 | 0,_=> []
 | f+1,p=>match (allL p).find? fun id=>decide (LW p [id]) with
  | none=> []
  | some id=>id::grossR f (set1 p id)
structure GI (G:List Int) (p:Prb) (acc:List Int) (f:Nat) (ag:Bool):Prop where
 m:Mid p (34000000000000000 - 1000000000000000*(f:Int))
 l:(allL p).length≤f
 a:acc.length+f≤30
 v:(ag=true ->acc++grossR f p=G)∧(ag=false ->acc=G)
def dP (its:List AK) (on:Nat ->Bool) (u:List Int):Prop:=∀j,j<its.length ->(on j=true↔(its.getD j itm0).id∉u)
theorem dP.off {its:List AK} (hn:(its.map AK.id).Nodup) {on:Nat ->Bool} {u:List Int} (hu:dP its on u) {i:Nat} (hi:i<its.length):dP its (A7 on i) (u++ [(its.getD i itm0).id]):=fun j hj=>by
 rw [υ,ξ,not_or]
 by_cases e:j=i
 ·subst e;rw [Ee];simp
 ·rw [Zcm e];exact ⟨fun h=>⟨(hu j hj).1 h,fun e2=>e (QI hn hj hi e2)⟩,fun h=>(hu j hj).2 h.1⟩
theorem RZ {ros:List Roo} {its:List AK}:∀(f:Nat) (on:Nat ->Bool),(L9 ros its f on).length≤f
 | 0,_=>ϖ _
 | f+1,on=>by
  cases hn:HZ ros its on with
  | none=>rw [IC hn];exact Δ _
  | some i=>rw [IB hn];have:=RZ (ros:=ros) (its:=its) f (A7 on i);simp;exact this
abbrev bkD (x:Int×Roo):D:= .agg [AF x.1,AF x.2.r.k,Am x.2.r.acc.o,AF x.2.r.acc.k,Am x.2.r.acc.a,Am x.2.r.f,Am x.2.r.t,AF x.2.n]
noncomputable def vio1L (p:Prb) (id:Int):List Roo:=Ig p (As (cloS p [id]))
noncomputable def bkOf (p:Prb) (id:Int):Option (Int×Roo):=if id∈largeS p then none else (vio1L p id).head?.map fun x=>(id,x)
noncomputable def bksL (p:Prb):List (Int×Roo):=((sortO p.it).map AK.id).filterMap (bkOf p)
theorem KE {p:Prb} {id:Int} (h:id∈largeS p):bkOf p id=none:=θ h
theorem co {p:Prb} {id:Int} (h:¬0<(vio1L p id).length):bkOf p id=none:=by
 unfold bkOf
 split
 ·rfl
 ·rw [χx.1 (show (vio1L p id).length=0 by omega)];rfl
theorem Qa {p:Prb} {id:Int} (h1:id∉largeS p) (h:0<(vio1L p id).length):bkOf p id=some (id,(vio1L p id)[0]):=by
 unfold bkOf;rw [ϑ h1,List.head?_eq_getElem?,ω h]
 rfl
theorem QL {α β:Type} {f:α ->Option β} {l:List α} {k:Nat} (hk:k<l.length):(l.take (k+1)).filterMap f=(l.take k).filterMap f++(f l[k]).toList:=by
 rw [φ hk,List.filterMap_append]
 cases h:f l[k] with
 | none=>simp [h]
 | some b=>simp [h]
theorem KB {p:Prb} (hp:Ad p=0) {l:List Int} (hn:l.Nodup) (hS:∀x∈l,x∈p.it.map AK.id):DU p l=0:=by
 unfold DU;rw [ϑ (by omega)];unfold Pq;refine Wo.2 fun k hk=>?_;have hk':=Θ.1 hk;unfold Gw;rw [Bp 0 hk',ϑ (fun h=>h (hS _ (κ hk'))),ϑ (Lu hn hk')]
theorem Q7 {p:Prb} {S:List Int}:∀y∈cloS p S,y∈p.it.map AK.id:=fun y hy=>by
 unfold cloS at hy;exact (Ω.1 ((dM _).mem_iff.1 hy)).1
theorem Q6 {p:Prb} (hp:Ad p=0) (S:List Int):(cloS p S).Nodup:=by
 unfold cloS;exact (dM _).nodup_iff.2 (List.Nodup.sublist ψq (dI (Nv hp).2.1))
theorem getV {l:List Roo} (h:0<l.length):(l.map CX)[0]? =some (CX l[0]):=Ah h
set_option maxHeartbeats 2000000 in
theorem YU (p:Prb) (hf:DW p) (hE:Ad p=0):AO Tryz.prog 31 [.d (Bq p)] (.tup [.sl none ((bksL p).map bkD),AF 0]):=by
 have hlk:=Iu p hf hE;have hi30:=hf.i;have hr100:=hf.r;have hod:=HV p hf.b;rw [show ordP p=sortO p.it from θ hE] at hod;have hll:=IL hE;have hSl:=Cw p.it;have hclo:=fun {id:Int} (hid:id∈p.it.map AK.id)=>W8 p [id] hf.b (by simp) (by omega) (by omega) (KB hE (by simp) fun x hx=>by rw [ξ.1 hx];exact hid) (by simp) fun x hx=>by rw [ξ.1 hx];exact hid
 have hvio:∀id:Int,AO Tryz.prog 28 [.d (Bq p),.d (QC (cloS p [id]))] (.tup [.sl none ((vio1L p id).map CX),AF 0]):=fun id=>by
  have h:=VK p (cloS p [id]) hf.b (by have:=TN (p:=p) (l:=[id]);omega);rw [KB hE (Q6 hE _) Q7,θ rfl] at h;exact h
 obtain ⟨L,hL⟩:∃L,(sortO p.it).map AK.id=L:=⟨_,Z⟩
 have hLl:L.length≤30:=by rw [←hL,ψ,hSl];omega
 have hLm:∀x∈L,x∈p.it.map AK.id:=fun x hx=>by rw [←hL] at hx;exact ((Qd p.it).map AK.id).mem_iff.1 hx
 have hbe:bksL p=L.filterMap (bkOf p):=by unfold bksL;rw [hL]
 rw [hL] at hod;rw [hbe];refine Az Tryz.func31 Z Z Tryz.ntmps31 Z Z Z fun F hF=>?_;refine AC (AE (V (CC 1 Z Z Z Z Z Z Z) (AB Z Z (AB Z Z (AD (AC (AE (J (BM Z Z B2 Z Z Z) ?_))))))));refine J (B4 (hlk) Z Z) (goMv Z Z (J (DD Z Z Z) (J (DD Z Z Z) (AB Z Z (AB Z Z (AD (AC (AC ?_))))))));refine AE (goMv Z Z (J (DX Z Z Z) (AD (EN Z (ωp (by decide)) (A1 (AC (AE (goMv Z Z ?_))))))));refine CY (Wm (Fo (largeS p) (F5 hE) (by omega)) Z [41] ⟨Z,trivial⟩ Z Z Z Z (fun r H' ⟨b,N,e1,e2,_⟩=>by subst e1 e2;exact ⟨Z,Z,Z⟩) Z) Z ?_;rintro _ ⟨r,H',⟨b,N,e1,e2,hW⟩,rfl⟩;subst e1 e2;refine AB Z Z (AD (AC (AE (AB Z Z (AD (AC (AC ?_)))))));refine AE (J (BM Z Z B2 Z Z Z) (J (B4 (hod) Z Z) (J (CM Z Tryz.underlying28 Z) (goMv Z Z (AD (A4 (O4 7 10 sl30 Z Z Z Z (B5 (α:=Nat×List (Int×Roo)) (fun q=>⟨65,[(1,(.ptr 1 0 0)),(6,(.d (Wv b))),(7,(.own 10 0 q.2.length)),(25,(.d (QC L))),(26,(.d (AF (L.length:Int)))),(27,(.d (AF (q.1:Int))))],[(1,[.blk 39 [.d (.sl none (p.ro.map CX)),.d (.sl none (p.it.map Ao))]]),(41,[.multi N]),(10,[.rowD 66 8 (q.2.map bkD)])]⟩) (fun q=>q.1≤L.length∧q.2=(L.take q.1).filterMap (bkOf p)∧q.2.length≤q.1) (fun q=>L.length - q.1) ((0,[])) (⟨Δ _,Z,Δ _⟩) (A0 hF [1,41,10] Z Z ⟨Z,Z,Z,Z,Z,Z,trivial⟩) ?_))))))));rintro ⟨k,T⟩ ⟨hk,hT,hTl⟩;dsimp only at hk hT hTl⊢;refine AC (AE (J (BV Z Z Z) (AD (AC (Ae Z (fun h28=>?_) (fun h28=>?_))))))
 ·refine A1 (AC (A4 (AC ?_)));have hkl:k<L.length:=Bf h28;have hid:=hLm _ (κ hkl);refine AE (J (Bk (k) Z Z (Z) (Ah hkl) Tryz.underlying28 Z BA Z) (J (D0 Z Z Aq Z) (AB Z Z ?_)));refine AD (AC (AC (AE (goMv Z Z (goMv Z Z (V (Yc (Hw hW L[k]) Z [41] ⟨Z,trivial⟩ Z Z Z Z Z Z Z Z Z) (AD (Ae Z (fun h33=>?_) (fun h33=>?_)))))))))
  ·refine BC (AE (J (Ay Z Z (AT (k+1) (by omega)) Z) (goMv Z Z (AD ?_))));exact ⟨(k+1,T),⟨hkl,by show _=(L.take (k+1)).filterMap _;rw [QL hkl,KE h33,hT];simp,by show T.length≤k+1;omega⟩,by show L.length - (k+1)<L.length - k;omega,A0 hF [1,41,10] Z (Z) ⟨Z,Z,Z,Z,Z,Z,trivial⟩⟩
  ·refine A1 (AC (AE (J (BM Z Z B2 Z Z Z) (goMv Z Z (V (D1 20 BW Z Z Z Z Z Z Z Z) ?_)))));refine Zcn (emb:=AF) 37 20 [L[k]] Z Z Z Z Z Z Z (V (EW (hclo hid) Z [900] ⟨Z,trivial⟩ Z Z Z Z Z Z Z Z Z) (goMv Z Z (J (Cc Z Z Z) (J (Cc Z Z Z) (AB Z Z (AB Z Z (AD (AC ?_))))))));refine L3 (emb:=AF) 10 900 (cloS p [L[k]]) Z Z Z Z Z Z Z (AE (J (BM Z Z B2 Z Z Z) (goMv Z Z (J (B4 (hvio L[k]) Z Z) (goMv Z Z (J (DD Z Z Z) (J (DD Z Z Z) (AB Z Z ?_))))))));refine AB Z Z (AD (AC (AE (goMv Z Z (J (JE Z (ψ ..) Tryz.underlying69 Z) (J (ML Z Z Z) (AD (Ae Z (fun h49=>?_) (fun h49=>?_)))))))))
   ·have hv0:0<(vio1L p L[k]).length:=Bf h49;refine Cb [[],[],[],[2],[2,3],[2,3,4],[],[6],[6,7],[6,7,8],[1,2,3,4,5,6,7,8,9],[1,2,3,4,5,6,7,8,9,10],[0,1,2,3,4,5,6,7,8,9,10,11],[0,1,2,3,4,5,6,7,8,9,10,11,12]] mixed Z (Cr (AJ [7] [] Z Z (fun _=>AG (Aj Z Z)) (AJ [9] [] Z Z (fun _=>AG (Aj Z Z)) (AJ [12] [] Z Z (fun _=>AG (Aj Z Z)) (AJ [52] [] Z Z (fun _=>AG (Bk (0) Z Z (Z) (getV hv0) Tryz.underlying69 Z sz73 Z)) (AJ [53] [] Z Z (fun _=>AG (Ck Z bt Z Z Z)) (AJ [54] [] Z Z (fun _=>AG (GN Z Z CU Z)) (AJ [12] [] Z Z (fun _=>AG (Aj Z Z)) ?_))))))));refine AJ [56] [] Z Z (fun _=>AG (Bk (0) Z Z (Z) (getV hv0) Tryz.underlying69 Z sz73 Z)) (AJ [57] [] Z Z (fun _=>AG (Zca Z br Z Z Z)) (AJ [58] [] Z Z (fun _=>AG (D0 Z Z JG Z)) (AJ [51,55,59] [] Z Z (fun _=>AG (FV zl66 pl66 Z Z Z)) (Gn [60] [30] [(61,_)] Z Z (fun _=>Gp (D1 30 sl30 Z Z Z Z Z Z Z Z)) (.inr ⟨61,_,Z,Z,Z,Z,Z⟩) Z Z Z Z Z (C3 12 Z Z Z (Aa 13 Z Z (V (I0 (T) ([(L[k],(vio1L p L[k])[0])]) Z Z Z Z Z Z Z Z sl30 (by simp only [Ψ];omega) Z Z Z Z) (AD ⟨Z,?_⟩))))))));refine Aa 14 Z Z (AB Z Z (AD ⟨Z,?_⟩));refine C9 (AE (J (Ay Z Z (AT (k+1) (by omega)) Z) (goMv Z Z (AD ?_))));exact ⟨(k+1,T++ [(L[k],(vio1L p L[k])[0])]),⟨hkl,by show _=(L.take (k+1)).filterMap _;rw [QL hkl,Qa h33 hv0,hT];rfl,by show (T++ [_]).length≤k+1;rw [ς];simp only [Ψ];omega⟩,by show L.length - (k+1)<L.length - k;omega,A0 hF [1,41,10] Z (Z) ⟨Z,Z,Z,Z,Z,Z,trivial⟩⟩
   ·refine A1 (AE (J (Ay Z Z (AT (k+1) (by omega)) Z) (goMv Z Z (AD ?_))));exact ⟨(k+1,T),⟨hkl,by show _=(L.take (k+1)).filterMap _;rw [QL hkl,co (fun h=>h49 (by exact_mod_cast h)),hT];simp,by show T.length≤k+1;omega⟩,by show L.length - (k+1)<L.length - k;omega,A0 hF [1,41,10] Z (Z) ⟨Z,Z,Z,Z,Z,Z,trivial⟩⟩
 ·refine BC (AC ?_);have hke:k=L.length:=by have:=h28;omega
  refine L3 (emb:=bkD) 7 10 T Z Z Z Z Z Z Z ?_;rw [show T=L.filterMap (bkOf p) by rw [hT,hke,ωw]];refine AE (goMv Z Z (AB Z Z (AB Z Z (AD (A5 ?_)))));exact ⟨_,[],[],A3 Z,Z,Z,Z,Z⟩
end Go.Proofs.YteifpcnphnhaoaaGreat
namespace Go.Proofs.YteifpcnphnhaoaaGreat
open Go.RowKit Go.Shelf
open Go.Sort (putRow Holds PermIn SortedIn SWO mapBlock onCells putCells)
variable {P:Program}
section
variable {ρr:Ren} {τ:Type}
theorem ZQ (L:SlLaysF.n6 P ρr) {E:TypeId} {g g6:FuncId} {fn:Func} (hfn:P.funcs[g]? =some fn) (hnm:(fn.name== "runtime.NumGoroutine")=false) {c:Code} (hbody:fn.body=some c)
  {emb:τ ->D} (hag:∀x,(emb x).cells=[emb x]) (cf:τ ->τ ->Int) (hO:SWO (ltOf cf)) (xs ys0:List τ) (jk:List D) (hsz:xs.length<4611686018427387904) (hc:∀x∈xs,∀y∈xs,AO P g [.d (emb x),.d (emb y)] (.raw (.int .i64 (cf x y))))
  (hu:∀ys:List τ,ys.Perm xs ->ys.Pairwise (fun a b=>¬cf b a<0) ->ys=ys0)
  {F:Fr} {s:AS} {d:Nat} {x y:Operand} {ty:TypeId} {pos:String} {aft:Array Edge} {gd:Option (Nat×Bool)} {at_:Array TypeId} {f n:Nat} {fa:AV} {row:List D} {hp':Hp}
  (hg:ρr.f 6=g6) (hx:s.ev x=some (.own f 0 n)) (hy:s.ev y=some fa) (hfa:∀w O ρ v,AU w O ρ fa v ->v= .func (.func g) #[] #[]) (ho:hget s.hp f 0=some (.rowD E 1 row)) (hrow:row=xs.map emb++jk) (hn:n=xs.length) (hh:BL s.hp f 0 (.rowD E 1 (ys0.map emb++jk))=some hp') (hd:Nat.blt d s.n=true):
  AI P F ⟨some d,.call {callee:= .value (.func g6),args:= #[x,y],argTypes:=at_},ty,pos,aft,gd⟩ s ⟨s.n,(d,.d (.tup []))::s.env,hp'⟩ (fun _ _=>true):=by
 subst hg hrow hn;intro ρ act w hs
 obtain ⟨fn6,hf1,hf2,hf3⟩:∃fn,P.funcs[ρr.f 6]? =some fn∧(fn.name== "runtime.NumGoroutine")=false∧fn.body.isSome=true:=by
  obtain ⟨nm,hn,hf⟩:=L.f6;exact ⟨_,hf,hn,Z⟩
 unfold Oper.wp;rw [show (#[x,y]:Array Operand)=[x,y].toArray from rfl,DI hf1 hf2 hf3,Oper.upon_enter]
 suffices key:Calls P (ρr.f 6) ([x,y].map act.eval).toArray w fun e w'=>e= .returned (.tuple #[])∧SR F ⟨s.n,s.env,hp'⟩ ρ act w' by
  refine key.mono fun e w' ⟨e1,hsr⟩=>?_;subst e1;exact ⟨ρ,hsr.put (I1 hd) (.d (.tup Z fun i c v hc=>by cases hc)),fun _ _ _=>rfl⟩
 have r0:=hs.ev hx;have r1:=hfa _ _ _ _ (hs.ev hy);have hg0:=ho;have h3:=hs.heap;have hset:=Ak hh;obtain ⟨us,q1,q2,q3⟩:=h3.sim f 0 _ hg0;show Calls P (ρr.f 6) #[act.eval x,act.eval y] w _;rw [r1]
 generalize act.eval x=V0 at r0
 cases r0 with
 | own hρ hle=>
  rename_i N cap a
  by_cases hx:xs=[]
  ·subst hx;refine (AnyF.slices_SortFunc_none {L with} a cap _ w).mono fun e w' ⟨e1,e2⟩=>?_;subst e1 e2;refine ⟨Z,hs.writeG f 0 _ _ ho hset Z Z Z (ϖ _) (ϖ _) (fun _ _ _=>rfl) (fun _ _ e=>by cases e) fun hrep=>?_⟩;rw [←hu [] (List.Perm.refl _) List.Pairwise.nil]
   have hO2:∀b',F.O ρ hp' b' ->F.O ρ s.hp b':=fun b' h=>h.imp id fun ⟨g,i,o,h1,h2⟩=>by
    rw [hset] at h1
    split at h1
    ·rename_i e;obtain ⟨rfl,rfl⟩:=e;exact ⟨g,0,_,hg0,h2⟩
    ·exact ⟨g,i,o,h1,h2⟩
   exact ⟨us,q1,⟨q2.1,q2.2.1,fun i x hx j c hc=>by
    obtain ⟨u,h1,h2,h4⟩:=q2.2.2 i x hx j c hc
    exact ⟨u,h1,h2,h4.mono (ϖ _) (fun _ _ _=>rfl) fun b' _=>hO2 b'⟩⟩,q3⟩
  ·have hn:0<xs.length:=χh.2 hx;have hul:us.length=xs.length+jk.length:=by have:=q2.1;rwa [ς,ψ,χu] at this
   have hblkeq:∃b cur,a=some ⟨b,0,none⟩∧w.heap[b]? =some (.cells cur E (0,0))∧cur.size=cap∧xs.length+jk.length≤cap∧cap≤maxLen∧cur.toList.take (xs.length+jk.length)=us∧N=xs.length+jk.length:=by
    rcases q1.2 with ⟨_,h⟩ | ⟨b,cap',cur,e1,_,e2,e3,e4,e5,e6⟩
    ·rw [ς,ψ] at h;omega
    ·rw [hρ] at e1;injection e1 with e1 e7 e8
     subst e1 e8;rw [ς,ψ] at e3 e6 e7;exact ⟨b,cur,Z,e2,by omega,e3,e4,by rwa [χu] at e6,e7⟩
   obtain ⟨b,cur,rfl,p1,p2,p3,p3',p4,rfl⟩:=hblkeq;have hb:B7 (ρ f 0)=some b:=by rw [hρ];rfl
   have hOb:F.O ρ s.hp b:= .inr ⟨f,0,_,hg0,hb⟩;have hlt:b<w.heap.size:=(ωu.1 p1).1;have hOl:∀b',F.O ρ s.hp b' ->b'<w.heap.size:=fun b' h=>h3.ltO h
   have hus:∀i,i<xs.length+jk.length ->us[i]? =cur[i]?:=fun i hi=>by
    have h:=Γ (·[i]?) p4
    change (cur.toList.take (xs.length+jk.length))[i]? =us[i]? at h
    rw [ψg hi,ψn] at h;exact h.symm
   let x0:τ:=xs[0]
   let ix:Nat ->Nat:=fun i=>if i<xs.length then i else 0
   have hix:∀i,ix i<xs.length:=fun i=>by show (if _ then _ else _)<_;split<;>omega
   let el:Nat ->τ:=fun i=>(xs[ix i]?).getD x0
   have hel:∀i,el i∈xs:=fun i=>by
    show (xs[ix i]?).getD x0∈xs;rw [ω (hix i)];exact κ (hix i)
   have heli:∀i (hi:i<xs.length),el i=xs[i]:=fun i hi=>by
    show (xs[ix i]?).getD x0=_;rw [show ix i=i from θ hi,ω hi];rfl
   let enc:Nat ->Value:=fun i=>(us[ix i]?).getD undef
   have henc:∀i,us[ix i]? =some (enc i):=fun i=>by
    have h:ix i<us.length:=by have:=hix i;omega
    show us[ix i]? =some ((us[ix i]?).getD undef);rw [ω h];rfl
   let cf':Nat ->Nat ->Int:=fun i j=>cf (el i) (el j)
   have hO':SWO (ltOf cf'):=⟨fun x=>hO.irrefl (el x),fun x y z=>hO.trans (el x) (el y) (el z),fun x y z=>hO.ntrans (el x) (el y) (el z)⟩
   have hrow:∀i,((xs.map emb++jk)[ix i]?)=some (emb (el i)):=fun i=>by
    rw [ψa (by rw [ψ];exact hix i),η,ω (hix i)];show some (emb _)=some (emb ((xs[ix i]?).getD x0));rw [ω (hix i)];rfl
   have hrep0:∀i,(enc i).oneCell'=true∧AQ w (F.O ρ s.hp) (emb (el i)) (enc i):=fun i=>by
    obtain ⟨u,h1,h2,h4⟩:=q2.2.2 _ _ (hrow i) 0 (emb (el i)) (by rw [hag];rfl);rw [χu,χn,henc] at h1;injection h1 with h1;subst h1
    exact ⟨h2,h4⟩
   have henc1:OneCell enc:=fun i=>(hrep0 i).1;have hd0:∀i,i<xs.length ->(Array.range xs.length)[i]! =i:=fun i hi=>by rw [getElem!_pos _ i (by simpa using hi)];simp
   have hcu:∀i,i<xs.length ->cur[i]? =some (enc i):=fun i hi=>by
    rw [←hus i (by omega)];have:=henc i
    rwa [show ix i=i from θ hi] at this
   have hH:Holds enc w b 0 (Array.range xs.length):=by
    intro j hj;simp only [φe] at hj;rw [hd0 _ hj];refine ⟨?_,?_⟩
    ·simp only [World.cell?,p1,ψs];rw [hcu j hj];rfl
    ·simp only [World.frozen?,p1]
     simp
   have hcmp:CmpLays1 P g #[] enc cf' b 0 (Array.range xs.length).size w:=by
    intro m os dk _ x y;have hWs:w.heap.size≤(sortWorld enc w b 0 m dk os).heap.size:=GV;have hW:∀b',b'<w.heap.size ->¬F.O ρ s.hp b' ->(sortWorld enc w b 0 m dk os).heap[b']? =w.heap[b']?:=fun b' hl hno=>Zb4 (fun e=>hno (e▸hOb)) hl;have ra:=(hrep0 x).2.mono hWs hW (fun _ _ h=>h);have rb:=(hrep0 y).2.mono hWs hW (fun _ _ h=>h)
    refine (Pu (hc (el x) (hel x) (el y) (hel y)) (w:=sortWorld enc w b 0 m dk os) (fun b' h=>ψt (hOl b' h) hWs) (vs:=[enc x,enc y]) Z (fun i a v ha hv=>?_)).mono fun e w' ⟨v,e1,e2,e3,e4,e5⟩=>⟨?_,NS e3 e4 e5⟩
    ·match i,ha,hv with
     | 0,ha,hv=>injection ha with ha;injection hv with hv;subst ha hv;exact .d ra
     | 1,ha,hv=>injection ha with ha;injection hv with hv;subst ha hv;exact .d rb
    ·cases e2 with
     | raw _=>exact e1
   have eg:∀args w,(callFunc g args).run P w= .ok (.enter g args) w:=enters_of hfn hnm hbody;have key:=Any.slices_SortFunc L enc henc1 cf' hO' g #[] b 0 cap (Array.range xs.length) w eg hcmp hH hlt (by simpa using hsz);rw [φe] at key;refine key.mono fun e w' ⟨e1,d',n,os,hp,hsort,hw⟩=>?_;subst e1 hw;obtain ⟨s1,_,s3⟩:=hp;rw [φe] at s1
   have hperm:d'.toList.Perm (List.range xs.length):=by
    have e1:d'.extract 0 xs.length=d':=by rw [←s1];exact Array.extract_size
    have e2:(Array.range xs.length).extract 0 xs.length=Array.range xs.length:=by
     conv=>lhs;arg 3;rw [←φe (n:=xs.length)]
     exact Array.extract_size
    rw [e1,e2] at s3
    simpa using s3
   refine ⟨Z,?_⟩
   have hys:d'.toList.map el=ys0:=by
    apply hu
    ·refine (hperm.map el).trans (List.Perm.of_eq ?_)
     apply χa (by simp)
     intro i h5 h6;simp only [ωb,ψp];exact heli i h6
    ·rw [ωz];intro i j hi hj hij;simp only [ψ,χi] at hi hj;have:=hsort i j (Δ _) hij (by omega);rw [getElem!_pos _ j hj,getElem!_pos _ i hi] at this;simp only [ltOf,decide_eq_false_iff_not] at this
     simpa using this
   have hlen':ys0.length=xs.length:=by rw [←hys];simp [s1]
   have hWs:w.heap.size≤(sortWorld enc w b 0 n d' os).heap.size:=GV;have hW:∀b',b'<w.heap.size ->¬F.O ρ s.hp b' ->(sortWorld enc w b 0 n d' os).heap[b']? =w.heap[b']?:=fun b' hl hno=>Zb4 (fun e=>hno (e▸hOb)) hl
   have hheap:(sortWorld enc w b 0 n d' os).heap[b]? =some (.cells (putCells enc 0 d' cur) E (0,0)):=by
    unfold sortWorld;rw [Go.Sort.heap_grow_old _ _ (by rw [Go.Sort.size_putRow];exact hlt)];show (w.heap.modify b _)[b]? =_;rw [ψw,θ Z,p1];rfl
   have hcs:(putCells enc 0 d' cur).size=cap:=by simp only [putCells,Array.size_mapIdx];omega
   have hO2:∀b',F.O ρ hp' b' ->F.O ρ s.hp b':=fun b' h=>h.imp id fun ⟨g,i,o,h1,h2⟩=>by
    rw [hset] at h1
    split at h1
    ·rename_i e;obtain ⟨rfl,rfl⟩:=e;exact ⟨g,0,_,hg0,h2⟩
    ·exact ⟨g,i,o,h1,h2⟩
   have hget:∀i,i<xs.length+jk.length ->(putCells enc 0 d' cur).toList[i]? =if h:i<xs.length then some (enc (d'[i]'(by omega))) else us[i]?:=fun i hi=>by
    rw [ψn,ωo (by omega)];simp only [putCells,Array.getElem_mapIdx]
    by_cases h:i<xs.length
    ·rw [θ ⟨Δ _,by omega⟩,dif_pos h];simp only [Nat.sub_zero];rw [getElem!_pos _ i (by omega)]
    ·rw [ϑ (fun h2=>h (by omega)),dif_neg h,hus i hi,ωo (by omega)]
   refine hs.writeG f 0 _ _ ho hset Z Z Z hWs (Nat.le_add_right _ _) (fun b' hl hno=>Zb4 (fun e=>hno (by rw [e];exact hb)) hl) (fun _ _ e=>by cases e) fun hrep=>?_;have hlr:(ys0.map emb++jk).length=xs.length+jk.length:=by rw [ς,ψ,hlen']
   have hlu:((putCells enc 0 d' cur).toList.take (xs.length+jk.length)).length=(ys0.map emb++jk).length*1:=by
    have e2:(putCells enc 0 d' cur).toList.length=cap:=hcs;rw [hlr,χu,Υ,e2];exact Nat.min_eq_left p3
   refine ⟨(putCells enc 0 d' cur).toList.take (xs.length+jk.length),⟨hlu,.inr ⟨b,cap,_,by rw [hρ,hlr],Δ _,hheap,by rw [hlr];exact p3,p3',by omega,by rw [hlr,χu]⟩⟩,⟨hlu,fun x hx2=>?_,fun i x hx2 j c hc2=>?_⟩,fun x hx2 c hc2=>?_⟩
   ·rcases υ.1 hx2 with h | h
    ·obtain ⟨y,_,rfl⟩:=ν.1 h;rw [hag];rfl
    ·exact q2.2.1 _ (υ.2 (.inr h))
   ·have hi:i<xs.length+jk.length:=by rw [←hlr];exact (χ.1 hx2).1
    by_cases h:i<xs.length
    ·rw [ψa (by rw [ψ];omega),η,←hys,η,ψn,ωo (by omega)] at hx2;injection hx2 with hx2;subst hx2
     rw [hag] at hc2
     match j,hc2 with
     | 0,hc2=>
      injection hc2 with hc2;subst hc2
      exact ⟨_,by rw [χu,χn,ψg hi,hget i hi,dif_pos h],(hrep0 _).1,(hrep0 _).2.mono hWs hW fun b' _=>hO2 b'⟩
    ·rw [ωq (by rw [ψ];omega),ψ,hlen'] at hx2;obtain ⟨u,h1,h2,h4⟩:=q2.2.2 i x (by rw [ωq (by rw [ψ];omega),ψ];exact hx2) j c hc2
     have hj:j=0:=by
      have h1:x.cells.length=1:=q2.2.1 x (υ.2 (.inr (ζ hx2)));have:=(χ.1 hc2).1;omega
     subst hj;rw [χu,χn] at h1;exact ⟨u,by rw [χu,χn,ψg hi,hget i hi,dif_neg h];exact h1,h2,h4.mono hWs hW fun b' _=>hO2 b'⟩
   ·rcases υ.1 hx2 with h | h
    ·obtain ⟨y,_,rfl⟩:=ν.1 h;rw [hag] at hc2
     obtain ⟨k,hk⟩:∃k,el k=y∨y∉xs:=by
      by_cases hy:y∈xs
      ·obtain ⟨k,hk,e⟩:=χp.1 hy;exact ⟨k,.inl ((heli k hk).trans e)⟩
      ·exact ⟨0,.inr hy⟩
     have hyx:y∈xs:=by
      rename_i hy
      rw [←hys] at hy;obtain ⟨q,_,rfl⟩:=ν.1 hy;exact hel q
     exact q3 (emb y) (υ.2 (.inl (ν.2 ⟨y,hyx,Z⟩))) c (by rw [hag];exact hc2)
    ·exact q3 x (υ.2 (.inr h)) c hc2
end
end Go.Proofs.YteifpcnphnhaoaaGreat
