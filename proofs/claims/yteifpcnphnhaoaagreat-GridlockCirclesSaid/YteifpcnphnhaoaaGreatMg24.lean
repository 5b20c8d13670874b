import Derived.Test.YteifpcnphnhaoaaGreatMg23
namespace Go.Proofs.YteifpcnphnhaoaaGreat
open Go.RowKit
set_option maxRecDepth 100000
abbrev Hh (l:List Int):D:= .sl none (l.map AF)
abbrev Lz (l:List (List Int)):D:= .sl none (l.map Hh)
def idT (k:Nat):Nat ->Nat:=fun j=>if j<k then j else 0
theorem bM (k:Nat):At (idT k) k k=idT (k+1):=by
 funext j
 by_cases e:j=k
 ·subst e;rw [KK];unfold idT;rw [θ (by omega)]
 ·rw [GS e];unfold idT
  by_cases hj:j<k
  ·rw [θ hj,θ (by omega)]
  ·rw [ϑ hj,ϑ (by omega)]
theorem bL:(fun _:Nat=>0)=idT 0:=by funext j;unfold idT;rw [ϑ (by omega)]
def OO (f:Nat ->Nat) (k j:Nat):List Nat:=(List.range j).filter fun i=>decide (f i=k)
theorem au {f:Nat ->Nat} {k j:Nat} (h:f j=k):OO f k (j+1)=OO f k j++ [j]:=by unfold OO;rw [ψj,ψa];simp [h]
theorem Xg {f:Nat ->Nat} {k j:Nat} (h:¬f j=k):OO f k (j+1)=OO f k j:=by unfold OO;rw [ψj,ψa];simp [h]
theorem ar (f:Nat ->Nat) (k j:Nat):(OO f k j).length≤j:=ωe (ωh _ _) (by rw [ωg];exact ν _)
theorem Cn.trans {rs:List AP} {E:List (AK×Nat)} {i j k:Nat} (h:Cn rs E i j) (h':Cn rs E j k):Cn rs E i k:=Rh.trans h h'
abbrev Wm (rs:List AP) (E:List (AK×Nat)) (i:Nat):List AP:=(dR rs (DN E i)).map Prod.fst
theorem cn_rsc {rs:List AP} {E:List (AK×Nat)} {i j:Nat} {r:AP} (hi:i<E.length) (hj:j<E.length) (h1:r∈Wm rs E i) (h2:r∈Wm rs E j):Cn rs E i j:=Rh.one (EB.2 ⟨hi,hj,.inr (.inr ⟨r,h1,h2⟩)⟩)
theorem cn_aft {rs:List AP} {E:List (AK×Nat)} {i j:Nat} (hi:i<E.length) (hj:j<E.length) (h:(DN E i).id∈(DN E j).af):Cn rs E i j:=Rh.one (EB.2 ⟨hi,hj,.inr (.inl h)⟩)
structure AllJ (rs:List AP) (E:List (AK×Nat)) (f:Nat ->Nat):Prop where
 uf:UF E.length (Cn rs E) f
 us:∃U,OZ rs E (fun i r=>i<E.length∧r∈Wm rs E i) U f
 af:∀i,i<E.length ->∀j,j<E.length ->(DN E j).id∈(DN E i).af ->f j=f i
theorem AllJ.full {rs:List AP} {E:List (AK×Nat)} {f:Nat ->Nat} (h:AllJ rs E f):∀i j,i<E.length ->j<E.length ->Cn rs E i j ->f i=f j:=fun i j hi hj hC=>by
 obtain ⟨U,hU⟩:=h.us;refine (Rh.clos (p:=fun x=>f i=f x) (fun v hv y hy=>?_) hC Z);obtain ⟨h1,h2,h3⟩:=EB.1 hy;rw [hv];rcases h3 with h3 | h3 | ⟨r,h3,h4⟩
 ·exact (h.af v h1 y h2 h3).symm
 ·exact h.af y h2 v h1 h3
 ·rw [←(hU.has v r ⟨h1,h3⟩).2,(hU.has y r ⟨h2,h4⟩).2]
theorem S2 {E:List (AK×Nat)} {its:List AK} (h:(its.map AK.id).Nodup) {q:AK ->Bool} (hE:E.map Prod.fst=its.filter q):IdI E:=fun i j hi hj e=>by
 have h1:((E.map Prod.fst).map AK.id).Nodup:=by rw [hE];exact List.Nodup.sublist (List.Sublist.map _ ψu) h
 rw [Cz hi,Cz hj] at e;rw [List.Nodup,ωv] at h1
 have key:∀a b,a<b ->(hb:b<E.length) ->(ha:a<E.length) ->(E[a]).1.id≠(E[b]).1.id:=fun a b hab hb ha=>by
  have:=h1 a b (by simpa using ha) (by simpa using hb) hab
  simpa using this
 rcases Nat.lt_trichotomy i j with h2 | h2 | h2
 ·exact absurd e (key i j h2 hj hi)
 ·exact h2
 ·exact absurd e.symm (key j i h2 hi hj)
noncomputable def compL (rs:List AP) (E:List (AK×Nat)):List (List Int):=(clsN E.length (Cn rs E)).map (idK2 E)
set_option maxHeartbeats 4000000 in
theorem comp_c (p:Prb) (l:List Int) (hf:Ed p) (hl:l.length≤100000) (hC:D5 p l=0) (hE:Al p=0) (hn:l.Nodup):
  AM Tryz.prog 23 [.d (Bs p),.d (Hh l)] [] fun r H'=>∃E:List (AK×Nat),E.map Prod.fst=(ordP p).filter (fun i=>decide (i.id∈l))∧r= .d (.tup [Lz (compL (rsP p) E),AF 0])∧H'=[]:=by
 have hi30:=hf.i;have hck:=YC p l hf.b hl (by omega);rw [hC] at hck;have hids:((ordP p).map AK.id).Nodup:=F6 hE;have hol:(ordP p).length≤30:=by rw [show ordP p=Ay p.it from θ hE,YN];exact hi30
 have hxm:∀i∈ordP p,i∈p.it:=fun i hi=>by rw [show ordP p=Ay p.it from θ hE] at hi;exact (YV p.it).mem_iff.1 hi
 refine BB Tryz.func23 Z Z Tryz.ntmps23 Z Z Z fun F hF=>(AC (AE (V (Bz 1 Z Z Z Z Z Z Z) (AB Z Z (AB Z Z (AD ?_))))));refine AC (AC (AE (J (BM Z Z BW Z Z Z) (goMv Z Z (J (B2 (hck) Z Z) (AB Z Z (AD (AC ?_))))))));refine AE (goMv Z Z (J (D6 Z Z Z) (AD (D9 Z (ωp (by decide)) (A3 (AC (Ch [[],[],[1],[0,1,2],[0,1,2,3]] mixed Z (dwx3 (γ:=Nat×MF) 3 (fun q=>⟨154,[(2,.ptr 1 0 0),(35,.d (Bs p)),(37,.d (Wj q.1))],[(41,[.multi q.2])]⟩) (fun q=>Ib q.2 q.1 l) Z Z Z ?_ ?_ (fun a hI=>?_)))))))))
 ·refine J (BM Z Z BW Z Z Z) (AD ⟨Z,?_⟩);refine goMv Z Z (AD ⟨Z,?_⟩);refine CP (Ux (Fv l hn (by omega)) Z [41] ⟨Z,trivial⟩ Z Z Z Z (fun r H' ⟨b,N,e1,e2,_⟩=>by subst e1 e2;exact ⟨Z,Z,Z⟩) Z) Z ?_;rintro _ ⟨r,H',⟨b,N,e1,e2,hW⟩,rfl⟩;subst e1 e2;refine AD ⟨Z,?_⟩;exact ⟨(b,N),hW,A1 hF [41] Z Z ⟨Z,Z,Z,trivial⟩⟩
 ·refine goMv Z Z (AD ⟨Z,?_,?_⟩)
  ·refine J (BM Z Z BW Z Z Z) (AD ⟨Z,?_⟩);refine CP (Ux (Fv l hn (by omega)) Z [41] ⟨Z,trivial⟩ Z Z Z Z (fun r H' ⟨b,N,e1,e2,_⟩=>by subst e1 e2;exact ⟨Z,Z,Z⟩) Z) Z ?_;rintro _ ⟨r,H',⟨b,N,e1,e2,hW⟩,rfl⟩;subst e1 e2;refine AD ⟨Z,?_⟩;exact ⟨(b,N),hW,A1 hF [41] Z Z ⟨Z,Z,Z,trivial⟩⟩
  ·refine CP (Ux (Fv l hn (by omega)) Z [41] ⟨Z,trivial⟩ Z Z Z Z (fun r H' ⟨b,N,e1,e2,_⟩=>by subst e1 e2;exact ⟨Z,Z,Z⟩) Z) Z ?_;rintro _ ⟨r,H',⟨b,N,e1,e2,hW⟩,rfl⟩;subst e1 e2;refine AD ⟨Z,?_⟩;refine J (BM Z Z BW Z Z Z) (AD ⟨Z,?_⟩);exact ⟨(b,N),hW,A1 hF [41] Z Z ⟨Z,Z,Z,trivial⟩⟩
 ·obtain ⟨b,N⟩:=a;have hW:Ib N b l:=hI;refine Af 4 Z Z ?_;refine CP (Ux (Kx p hE hf WF [pD b 0] N (fun id=>decide (id∈l)) (IF hW)) Z [41,40] ⟨Z,Z,trivial⟩ Z Z Z Z (fun r H' ⟨E,M,e1,e2,_⟩=>by subst e1 e2;exact ⟨Z,Z,Z⟩) Z) Z ?_;rintro _ ⟨r,H',⟨E,M,e1,e2,hR,hEq⟩,rfl⟩;subst e1 e2;refine AD ⟨Z,?_⟩;refine Af 5 Z Z (AB Z Z (AD ⟨Z,?_⟩));refine C9 (AC ?_)
  obtain ⟨n,hnE⟩:∃n,E.length=n:=⟨_,Z⟩
  have hn30:n≤30:=by have h1:(E.map Prod.fst).length≤(ordP p).length:=(by rw [hEq];exact ωh _ _);rw [ψ,hnE] at h1;omega
  have hIt:∀k,k<n ->DN E k∈ordP p:=fun k hk=>by have h1:DN E k∈E.map Prod.fst:=(by rw [Cz (by omega)];exact χj (κ _));rw [hEq] at h1;exact (ωb.1 h1).1
  have hId:IdI E:=S2 hids hEq;have hlE:(E.map Cf).length=n:=by rw [ψ,hnE]
  refine AE (goMv Z Z (J (I5 Z hlE Tryz.underlying122 Z) (V (E3 2 B5 Z Z Z (by omega) zd3 Z Z Z Z) ?_)));rw [repN,bL];refine V (CF 3 zl28 Z Z Z Z) (V (Bi Z Z Z Z Z Z Z CZ) (AD ?_));refine AC (AC (AE (J (A9 Z Z Z BH Z) (J (KO Z Tryz.underlying28 Z) (goMv Z Z (AD (A5 (B7 (α:=Nat) (fun k=>⟨154,[(7,(.d (.sl none (E.map Cf)))),(8,(.ptr 3 0 0)),(43,(.d (AN n))),(44,(.d (AN k)))],[(2,[.rowD 3 1 (rowN n (idT k))]),(3,[.blk 28 [.own 2 0 n]]),(40,[.multi M])]⟩) (fun k=>k≤n) (fun k=>n - k) (0) (ς _) (A1 hF [2,3,40] Z Z ⟨Z,Z,Z,Z,trivial⟩) ?_))))))));rintro k hk;refine AC (AE (J (BR Z Z Z) (AD (AC (Ae Z (fun h45=>?_) (fun h45=>?_))))))
  ·refine A3 (AC (A5 (AC ?_)));have hkl:k<n:=Bf h45;refine AE ?_;refine goMv Z Z (AB Z Z (AD (AE (J (A9 Z Z Z BH Z) (goMv Z Z (goMv Z Z (J (Bu (k) Z Z (Z) (hkl) Z Tryz.underlying28 BE Z) (V (Qb Z Z Z Z Z (by rw [cc];exact hkl) cd Z BE) ?_))))))));rw [bM];refine AD (AE (J (BA Z Z (AT (k+1) (by omega)) Z) (goMv Z Z (AD ?_))));exact ⟨k+1,hkl,by omega,A1 hF [2,3,40] Z (Z) ⟨Z,Z,Z,Z,trivial⟩⟩
  ·refine BF (AC ?_);have hke:k=n:=by have:=h45;omega
   rw [Oi (f:=idT k) (h:=fun j=>j) fun j hj=>θ (by omega)];refine AE (J (Zcv Z Z) ?_);refine AB Z Z (AD (AC (AE (V (Pb 50 Z Z Z Z) (V (Pb 51 Z Z Z Z) (AB Z Z (AB Z Z (AD ?_))))))));refine AC (AC (AE (goMv Z Z (J (I5 Z hlE Tryz.underlying122 Z) (goMv Z Z (AD (A5 (B7 (α:=Nat×List (AP×Nat)×(Nat ->Nat)) (fun q=>⟨154,[(7,(.d (.sl none (E.map Cf)))),(8,(.ptr 3 0 0)),(10,(.fn 67 [.ptr 3 0 0])),(11,(.map 50 0)),(12,(.map 51 0)),(55,(.d (.sl none (E.map Cf)))),(56,(.d (AN n))),(57,(.d (AN q.1)))],[(2,[.rowD 3 1 (rowN n q.2.2)]),(3,[.blk 28 [.own 2 0 n]]),(50,[BL C1 AN q.2.1]),(51,[BL AF AN (Lc E q.1)]),(40,[.multi M])]⟩) (fun q=>q.1≤n∧UF n (Cn (rsP p) E) q.2.2∧OZ (rsP p) E (fun i r=>i<q.1∧r∈Wm (rsP p) E i) q.2.1 q.2.2) (fun q=>n - q.1) ((0,[],fun j=>j)) (⟨ς _,UF.id n fun i=>Rh.refl i,(OZ.zero _ _ _).mono fun i r h=>by have:=h.1;omega⟩) (A1 hF [2,3,50,51,40] Z Z ⟨Z,Z,Z,Z,Z,Z,Z,Z,trivial⟩) ?_))))))));rintro ⟨k,U,f⟩ ⟨hk,hU,hS⟩;dsimp only at hk hU hS⊢;refine AC (AE (J (BR Z Z Z) (AD (AC (Ae Z (fun h58=>?_) (fun h58=>?_))))))
   ·refine A3 (AC (A5 (AC ?_)));have hkl:k<n:=Bf h58;have hkE:k<E.length:=by omega
    have hek:=κ hkE;refine AE (goMv Z Z (J (Be (k) Z Z (Z) (Ah hkE) Tryz.underlying122 Z Gx Z) (J (HE Z Z LM Z) (V (CF 4 MP Z Z Z Z) (AB Z Z (V (Bi Z Z Z Z Z Z Z Gx) ?_))))));refine AD (AC (AE (goMv Z Z (J (A4 Z IY Z Z Z) (J (A4 Z OB Z Z Z) (J (A9 Z Z Z Aq Z) (goMv Z Z (V (Tj (Lc E k) ((E[k]).1.id) (k) Z Z Z mt128 HP Z Z) ?_))))))));rw [show Aw (Lc E k) (E[k]).1.id k=Lc E (k+1) by rw [←Cz hkE];exact plc_put hId hkE];refine AD (AC ?_)
    obtain ⟨L,hLe⟩:∃L,dR (rsP p) (E[k]).1=L:=⟨_,Z⟩
    have hRk:=hR _ hek;rw [hLe] at hRk;have hus:Wm (rsP p) E k=L.map Prod.fst:=by rw [←hLe,←Cz hkE]
    refine Pa 40 (E[k]).2 Z hRk (fun _ _=>rfl) fun B c hB hBn=>?_
    obtain ⟨M1,hM1⟩:∃M1,BQ M (E[k]).2 (.map (some (B,c)) (Ld L))=M1:=⟨_,Z⟩
    rw [hM1];have h1k:M1 (E[k]).2=some (.map (some (B,c)) (Ld L)):=by rw [←hM1,E2]
    refine AE (J (A4 Z MG Z Z Z) (J (A9 Z Z Z Vl Z) (V (O8 5 (f:=40) Z Z h1k Z Bv Z Z Z Z) (AD (A5 (B7 (α:=List Nat×List (AP×Int)×List (AP×Nat)×(Nat ->Nat)) (fun q=>⟨154,[(7,(.d (.sl none (E.map Cf)))),(8,(.ptr 3 0 0)),(10,(.fn 67 [.ptr 3 0 0])),(11,(.map 50 0)),(12,(.map 51 0)),(13,(.d (AN k))),(55,(.d (.sl none (E.map Cf)))),(56,(.d (AN n))),(57,(.d (AN k))),(69,(.ptr 5 0 0))],[(5,[.iter 40 (E[k]).2 c q.1]),(2,[.rowD 3 1 (rowN n q.2.2.2)]),(3,[.blk 28 [.own 2 0 n]]),(50,[BL C1 AN q.2.2.1]),(51,[BL AF AN (Lc E (k+1))]),(40,[.multi M1])]⟩) (fun q=>(q.2.1++Bt L B q.1).Perm L∧UF n (Cn (rsP p) E) q.2.2.2∧OZ (rsP p) E (fun i r=>(i<k∧r∈Wm (rsP p) E i)∨(i=k∧r∈q.2.1.map Prod.fst)) q.2.2.1 q.2.2.2) (fun q=>(Bt L B q.1).length) (([],[],U,f)) (⟨by show ([]++Bt L B []).Perm L;rw [DK (by simpa [BO] using hB)];exact List.Perm.refl _,hU,hS.mono fun i r h=>h.elim id fun h=>by simp at h⟩) (A1 hF [5,2,3,50,51,40] Z Z ⟨Z,Z,Z,Z,Z,Z,Z,Z,Z,Z,trivial⟩) ?_))))));rintro ⟨seen,acc,U,f⟩ ⟨hP,hU,hS⟩;dsimp only at hP hU hS⊢;refine AC (AE (Vo (L) Z Z Z (h1k) Z (fun hl70=>?_) (fun j70 b70 k70 v70 hm70 hb70 hB70 hp70=>⟨_,Z,?_⟩)))
    ·rw [hl70] at hP;have hPm:∀r,r∈acc.map Prod.fst↔r∈Wm (rsP p) E k:=fun r=>by rw [hus];exact ((show acc.Perm L by simpa using hP).map Prod.fst).mem_iff
     refine Lv 40 (E[k]).2 Z h1k Z ?_;rw [show BQ M1 (E[k]).2 (.map none (Ld L))=M by rw [←hM1,G9];exact PD hRk];refine J (Ct Z Z Z) (AD (AC (D9 Z Z (BF (AE (J (BA Z Z (AT (k+1) (by omega)) Z) (goMv Z Z (AD ?_))))))));exact ⟨(k+1,U,f),⟨hkl,hU,hS.mono fun i r ⟨h1,h2⟩=>(Nat.decEq i k).byCases (fun e=>by subst e;exact .inr ⟨Z,(hPm r).2 h2⟩) fun e=> .inl ⟨by omega,h2⟩⟩,by show n - (k+1)<n - k;omega,A1 hF [2,3,50,51,40] Z (Z) ⟨Z,Z,Z,Z,Z,Z,Z,Z,trivial⟩⟩
    ·refine J (Ct Z Z Z) (AD (AC (DP Z Z (A3 (A5 (AC ?_))))));have hku:k70∈Wm (rsP p) E k:=by rw [hus];exact χj (f:=Prod.fst) (al hm70)
     have hstep:∀i s,((i<k∧s∈Wm (rsP p) E i)∨(i=k∧s∈(acc++ [(k70,v70)]).map Prod.fst)) ->((i<k∧s∈Wm (rsP p) E i)∨(i=k∧s∈acc.map Prod.fst))∨(i=k∧s=k70):=fun i s h=>h.elim (fun h=> .inl (.inl h)) fun ⟨e,h⟩=>by rw [ωc,υ] at h;exact h.elim (fun h=> .inl (.inr ⟨e,h⟩)) fun h=> .inr ⟨e,by simpa using h⟩
     refine AE (J (Oc (L) j70 b70 Z Z Z (h1k) hm70 hb70 Z) (J (Ct Z Z Z) (V (CF 6 KP Z Z Z Z) ?_)));refine V (Bi Z Z Z Z Z Z Z Yr) (AD (AC (AE (goMv Z Z (J (BM Z Z C7 Z Z Z) (J (Oa (U) (k70) (0) Z Z Z mt127 CJ za3 Z) (goMv Z Z (J (Ct Z Z Z) ?_))))))));refine J (Ct Z Z Z) (AB Z Z (AB Z Z (AD (AC (AE (goMv Z Z (AD (KN Z (fun h80=>?_) (fun h80=>?_)))))))))
     ·have hkU:k70∈U.map Prod.fst:=FF.1 h80;obtain ⟨hu1,hu2⟩:=hS.ok _ (mget_ok hkU);rw [hnE] at hu1;have hCk:=cn_rsc (by omega) hkE hu2 hku;refine AE (goMv Z Z (goMv Z Z (goMv Z Z (V (YZ ((WI n f (A7 U k70 0) k hu1 hkl (by omega)).by [(930,3),(931,2)] Z) Z [3,2] ⟨Z,Z,trivial⟩ Z Z Z Z Z Z Z Z Z) (AD ?_)))));exact ⟨(seen++ [b70],acc++ [(k70,v70)],U,_),⟨IN hP hp70,hU.join (fun _ _ _=>Cn.trans) (fun _ _=>Cn.symm) hu1 hkl hCk,hS.join hkU hstep⟩,by show (Bt L B (seen++ [b70])).length<(Bt L B seen).length;rw [hp70.length_eq];exact χk _,A1 hF [5,2,3,50,51,40] Z (Z) ⟨Z,Z,Z,Z,Z,Z,Z,Z,Z,Z,trivial⟩⟩
     ·refine AE (goMv Z Z (J (BM Z Z C7 Z Z Z) (goMv Z Z (V (Tj (U) (k70) (k) Z Z Z mt127 CJ Z Z) (AD ?_)))));exact ⟨(seen++ [b70],acc++ [(k70,v70)],Aw U k70 k,f),⟨IN hP hp70,hU,hS.new (fun hm=>by rw [FF.2 hm] at h80;cases h80) hkE hku hstep⟩,by show (Bt L B (seen++ [b70])).length<(Bt L B seen).length;rw [hp70.length_eq];exact χk _,A1 hF [5,2,3,50,51,40] Z (Z) ⟨Z,Z,Z,Z,Z,Z,Z,Z,Z,Z,trivial⟩⟩
   ·refine BF (AC (AC ?_));have hke:k=n:=by have:=h58;omega
    rw [hke]
    have hS':OZ (rsP p) E (fun i r=>i<E.length∧r∈Wm (rsP p) E i) U f:=hS.mono fun i r ⟨h1,h2⟩=>⟨by omega,h2⟩
    refine AE (goMv Z Z (J (I5 Z hlE Tryz.underlying122 Z) (goMv Z Z (AD (A5 (B7 (α:=Nat×(Nat ->Nat)) (fun q=>⟨154,[(7,(.d (.sl none (E.map Cf)))),(8,(.ptr 3 0 0)),(10,(.fn 67 [.ptr 3 0 0])),(12,(.map 51 0)),(89,(.d (.sl none (E.map Cf)))),(90,(.d (AN n))),(91,(.d (AN q.1)))],[(2,[.rowD 3 1 (rowN n q.2)]),(3,[.blk 28 [.own 2 0 n]]),(51,[BL AF AN (Lc E n)])]⟩) (fun q=>q.1≤n∧UF n (Cn (rsP p) E) q.2∧OZ (rsP p) E (fun i r=>i<E.length∧r∈Wm (rsP p) E i) U q.2∧∀i,i<q.1 ->∀j,j<n ->(DN E j).id∈(DN E i).af ->q.2 j=q.2 i) (fun q=>n - q.1) ((0,f)) (⟨ς _,hU,hS',fun i hi=>by omega⟩) (A1 hF [2,3,51] Z Z ⟨Z,Z,Z,Z,Z,Z,Z,trivial⟩) ?_))))));rintro ⟨k,f⟩ ⟨hk,hU,hS,hA⟩;dsimp only at hk hU hS hA⊢;refine AC (AE (J (BR Z Z Z) (AD (AC (Ae Z (fun h92=>?_) (fun h92=>?_))))))
    ·refine A3 (AC (A5 (AC ?_)));have hkl:k<n:=Bf h92;have hkE:k<E.length:=by omega
     have hek:=κ hkE;have hIk:=hIt k hkl;rw [Cz hkE] at hIk;have haf:=(hf.x _ (hxm _ hIk)).2.2;refine AE (goMv Z Z (J (Be (k) Z Z (Z) (Ah hkE) Tryz.underlying122 Z Gx Z) (J (HE Z Z LM Z) (V (CF 4 MP Z Z Z Z) (AB Z Z (V (Bi Z Z Z Z Z Z Z Gx) (AD (AC ?_))))))));refine AE (J (A4 Z IY Z Z Z) (J (A4 Z FH Z Z Z) (J (A9 Z Z Z BH Z) (J (CO Z Tryz.underlying28 Z) (goMv Z Z (AD (A5 (B7 (α:=Nat×(Nat ->Nat)) (fun q=>⟨154,[(7,(.d (.sl none (E.map Cf)))),(8,(.ptr 3 0 0)),(10,(.fn 67 [.ptr 3 0 0])),(12,(.map 51 0)),(18,(.d (AN k))),(89,(.d (.sl none (E.map Cf)))),(90,(.d (AN n))),(91,(.d (AN k))),(98,(.d (Hh (E[k]).1.af))),(99,(.d (AN (E[k]).1.af.length))),(100,(.d (AN q.1)))],[(2,[.rowD 3 1 (rowN n q.2)]),(3,[.blk 28 [.own 2 0 n]]),(51,[BL AF AN (Lc E n)])]⟩) (fun q=>q.1≤(E[k]).1.af.length∧UF n (Cn (rsP p) E) q.2∧OZ (rsP p) E (fun i r=>i<E.length∧r∈Wm (rsP p) E i) U q.2∧(∀i,i<k ->∀j,j<n ->(DN E j).id∈(DN E i).af ->q.2 j=q.2 i)∧∀j,j<n ->(DN E j).id∈(E[k]).1.af.take q.1 ->q.2 j=q.2 k) (fun q=>(E[k]).1.af.length - q.1) ((0,f)) (⟨ς _,hU,hS,hA,fun j hj hm=>by simp at hm⟩) (A1 hF [2,3,51] Z Z ⟨Z,Z,Z,Z,Z,Z,Z,Z,Z,Z,Z,trivial⟩) ?_))))))));rintro ⟨j8,f⟩ ⟨hj8,hU,hS,hA,hD⟩;dsimp only at hj8 hU hS hA hD⊢;refine AC (AE (J (BR Z Z Z) (AD (AC (Ae Z (fun h101=>?_) (fun h101=>?_))))))
     ·refine A3 (AC (A5 (AC ?_)));have hjl:j8<(E[k]).1.af.length:=Bf h101;refine AE (J (Be (j8) Z Z (Z) (Ah hjl) Tryz.underlying28 Z BE Z) (J (Cr Z Z Aq Z) ?_));refine AB Z Z (AD (AC (AE (goMv Z Z (goMv Z Z (J (Oa (Lc E n) ((E[k]).1.af[j8]) (0) Z Z Z mt128 HP za3 Z) (goMv Z Z (J (Ct Z Z Z) ?_))))))));refine J (Ct Z Z Z) (AB Z Z (AB Z Z (AD (AC (AE (goMv Z Z (AD (KN Z (fun h110=>?_) (fun h110=>?_)))))))))
      ·have hkP:=FF.1 h110;have hpg:=V8 hId (x:=(E[k]).1.af[j8]) (by rw [hnE];exact hkP);rw [hnE] at hpg;obtain ⟨hu1,hu2⟩:=hpg;have hCk:=cn_aft (rs:=rsP p) (i:=A7 (Lc E n) (E[k]).1.af[j8] 0) (j:=k) (by omega) hkE (by rw [hu2,Cz hkE];exact κ hjl);refine AE ?_;refine goMv Z Z (goMv Z Z (goMv Z Z (V (YZ ((WI n f (A7 (Lc E n) (E[k]).1.af[j8] 0) k hu1 hkl (by omega)).by [(930,3),(931,2)] Z) Z [3,2] ⟨Z,Z,trivial⟩ Z Z Z Z Z Z Z Z Z) (AD (AE (J (BA Z Z (AT (j8+1) (by omega)) Z) (goMv Z Z (AD ?_))))))));exact ⟨(j8+1,_),⟨hjl,hU.join (fun _ _ _=>Cn.trans) (fun _ _=>Cn.symm) hu1 hkl hCk,hS.keep fun _ _ h=>Gd h,fun i hi j hj hm=>Gd (hA i hi j hj hm),fun j hj hm=>by rw [φ hjl,υ] at hm;exact hm.elim (fun h=>Gd (hD j hj h)) fun h=>by have h3:=(Zm hId (show j<E.length by omega)).2;rw [ξ.1 h,hnE] at h3;rw [←h3];exact PO⟩,by show (E[k]).1.af.length - (j8+1)<(E[k]).1.af.length - j8;omega,A1 hF [2,3,51] Z (Z) ⟨Z,Z,Z,Z,Z,Z,Z,Z,Z,Z,Z,trivial⟩⟩
      ·refine A3 (AE (J (BA Z Z (AT (j8+1) (by omega)) Z) (goMv Z Z (AD ?_))));exact ⟨(j8+1,f),⟨hjl,hU,hS,hA,fun j hj hm=>by rw [φ hjl,υ] at hm;exact hm.elim (hD j hj) fun h=>absurd (FF.2 (by have h3:=(Zm hId (show j<E.length by omega)).1;rw [ξ.1 h,hnE] at h3;exact h3)) (by rw [h110];decide)⟩,by show (E[k]).1.af.length - (j8+1)<(E[k]).1.af.length - j8;omega,A1 hF [2,3,51] Z (Z) ⟨Z,Z,Z,Z,Z,Z,Z,Z,Z,Z,Z,trivial⟩⟩
     ·refine BF (AE (J (BA Z Z (AT (k+1) (by omega)) Z) (goMv Z Z (AD ?_))));exact ⟨(k+1,f),⟨hkl,hU,hS,fun i hi j hj hm=>(Nat.decEq i k).byCases (fun e=>by subst e;exact hD j hj (by rw [Cz hkE] at hm;have hje:j8=(E[i]).1.af.length:=(by have:=h101;omega);rw [hje,ωs];exact hm)) fun e=>hA i (by omega) j hj hm⟩,by show n - (k+1)<n - k;omega,A1 hF [2,3,51] Z (Z) ⟨Z,Z,Z,Z,Z,Z,Z,trivial⟩⟩
    ·refine BF (AC ?_);have hke:k=n:=by have:=h92;omega
     have hall:AllJ (rsP p) E f:=⟨by rw [hnE];exact hU,⟨U,hS⟩,fun i hi j hj hm=>hA i (by omega) j (by omega) hm⟩
     have hcls:(Jd n n f).map (idK2 E)=compL (rsP p) E:=by unfold compL;rw [←lab_cls hall.uf hall.full,hnE]
     refine AE (AB Z Z (AD (AC ?_)));refine AC (AE (goMv Z Z (J (I5 Z hlE Tryz.underlying122 Z) (goMv Z Z (AD (A5 (OD 24 10 M7 Z Z Z Z (B7 (α:=Nat×List (List Int)) (fun q=>⟨154,[(7,(.d (.sl none (E.map Cf)))),(8,(.ptr 3 0 0)),(24,(.own 10 0 q.2.length)),(117,(.d (.sl none (E.map Cf)))),(118,(.d (AN n))),(119,(.d (AN q.1)))],[(10,[.rowD 28 1 (q.2.map Hh)]),(2,[.rowD 3 1 (rowN n f)]),(3,[.blk 28 [.own 2 0 n]])]⟩) (fun q=>q.1≤n∧q.2=(Jd n q.1 f).map (idK2 E)) (fun q=>n - q.1) ((0,[])) (⟨ς _,Z⟩) (A1 hF [10,2,3] Z Z ⟨Z,Z,Z,Z,Z,Z,trivial⟩) ?_))))))));rintro ⟨k,T⟩ ⟨hk,hT⟩;dsimp only at hk hT⊢;refine AC (AE (J (BR Z Z Z) (AD (AC (Ae Z (fun h120=>?_) (fun h120=>?_))))))
     ·refine A3 (AC (A5 (AC ?_)));have hkl:k<n:=Bf h120;have hTl:T.length≤30:=by have:=ap n k f;rw [hT,ψ];omega
      refine AE (goMv Z Z (AB Z Z (AD (AC (AC ?_)))));refine AE (J (A9 Z Z Z BH Z) (goMv Z Z (J (Bu (k) Z Z (Z) (hkl) Z Tryz.underlying28 BE Z) (J (CA Z Z (IA hkl) Z Aq Z) (goMv Z Z (J (D6 Z Z Z) (AD (Ae Z (fun h127=>?_) (fun h127=>?_)))))))))
      ·refine BF (AE (J (BA Z Z (AT (k+1) (by omega)) Z) (goMv Z Z (AD ?_))));exact ⟨(k+1,T),⟨hkl,by show _=(Jd n (k+1) f).map _;rw [Xe (by omega),hT]⟩,by show n - (k+1)<n - k;omega,A1 hF [10,2,3] Z (Z) ⟨Z,Z,Z,Z,Z,Z,trivial⟩⟩
      ·refine A3 (AC (AE (AB Z Z (AD (AC ?_)))));refine AC (AE (goMv Z Z (J (I5 Z hlE Tryz.underlying122 Z) (goMv Z Z (AD (A5 (OD 26 11 B5 Z Z Z Z (B7 (α:=Nat×List Int) (fun q=>⟨154,[(7,(.d (.sl none (E.map Cf)))),(8,(.ptr 3 0 0)),(24,(.own 10 0 T.length)),(25,(.d (AN k))),(26,(.own 11 0 q.2.length)),(117,(.d (.sl none (E.map Cf)))),(118,(.d (AN n))),(119,(.d (AN k))),(128,(.d (.sl none (E.map Cf)))),(129,(.d (AN n))),(130,(.d (AN q.1)))],[(11,[.rowD 3 1 (q.2.map AF)]),(10,[.rowD 28 1 (T.map Hh)]),(2,[.rowD 3 1 (rowN n f)]),(3,[.blk 28 [.own 2 0 n]])]⟩) (fun q=>q.1≤n∧q.2=idK2 E (OO f k q.1)) (fun q=>n - q.1) ((0,[])) (⟨ς _,Z⟩) (A1 hF [11,10,2,3] Z Z ⟨Z,Z,Z,Z,Z,Z,Z,Z,Z,Z,Z,trivial⟩) ?_))))))));rintro ⟨j,S⟩ ⟨hj,hS2⟩;dsimp only at hj hS2⊢;refine AC (AE (J (BR Z Z Z) (AD (AC (Ae Z (fun h131=>?_) (fun h131=>?_))))))
       ·refine A3 (AC (A5 (AC ?_)));have hjl:j<n:=Bf h131;have hjE:j<E.length:=by omega
        have hSl:S.length≤30:=by have:=ar f k j;rw [hS2];unfold idK2;rw [ψ];omega
        refine AE (goMv Z Z (J (Be (j) Z Z (Z) (Ah hjE) Tryz.underlying122 Z Gx Z) (J (HE Z Z LM Z) (V (CF 4 MP Z Z Z Z) (AB Z Z (V (Bi Z Z Z Z Z Z Z Gx) (AD (AC ?_))))))));refine AE (J (A9 Z Z Z BH Z) (goMv Z Z (J (Bu (j) Z Z (Z) (hjl) Z Tryz.underlying28 BE Z) (J (CA Z Z (IA hjl) Z Aq Z) (goMv Z Z (J (JL Z Z Z) (AD (Ae Z (fun h140=>?_) (fun h140=>?_)))))))))
        ·refine AE (goMv Z Z (J (A4 Z IY Z Z Z) (J (A4 Z OB Z Z Z) ?_)));refine J (A9 Z Z Z Aq Z) (V (D7 30 B5 Z Z Z Z Z Z Z Z) (V (Hz (S) ([(E[j]).1.id]) Z Z Z Z Z Z Z Z B5 (by simp only [Φ];omega) Z Z Z Z) (AB Z Z (AD (AE (J (BA Z Z (AT (j+1) (by omega)) Z) (goMv Z Z (AD ?_))))))));exact ⟨(j+1,S++ [(E[j]).1.id]),⟨hjl,by show _=idK2 E (OO f k (j+1));rw [au (by omega),hS2];unfold idK2;rw [ωc,φd,Cz hjE]⟩,by show n - (j+1)<n - j;omega,A1 hF [11,10,2,3] Z (Z) ⟨Z,Z,Z,Z,Z,Z,Z,Z,Z,Z,Z,trivial⟩⟩
        ·refine A3 (AE (J (BA Z Z (AT (j+1) (by omega)) Z) (goMv Z Z (AD ?_))));exact ⟨(j+1,S),⟨hjl,by show _=idK2 E (OO f k (j+1));rw [Xg (by omega),hS2]⟩,by show n - (j+1)<n - j;omega,A1 hF [11,10,2,3] Z (Z) ⟨Z,Z,Z,Z,Z,Z,Z,Z,Z,Z,Z,trivial⟩⟩
       ·refine BF ?_;have hje:j=n:=by have:=h131;omega
        refine L4 (emb:=AF) 26 11 S Z Z Z Z Z Z Z ?_;rw [show S=idK2 E (Xf n f k) by rw [hS2,hje];rfl];refine AE (goMv Z Z ?_);refine goMv Z Z (V (D7 31 M7 Z Z Z Z Z Z Z Z) (V (Hz (T) ([idK2 E (Xf n f k)]) Z Z Z Z Z Z Z Z M7 (by simp only [Φ];omega) Z Z Z Z) (AB Z Z (AD (AE (J (BA Z Z (AT (k+1) (by omega)) Z) (goMv Z Z (AD ?_))))))));exact ⟨(k+1,T++ [idK2 E (Xf n f k)]),⟨hkl,by show _=(Jd n (k+1) f).map _;rw [aq (by omega),ωc,hT];rfl⟩,by show n - (k+1)<n - k;omega,A1 hF [10,2,3] Z (Z) ⟨Z,Z,Z,Z,Z,Z,trivial⟩⟩
     ·refine BF (AC ?_);have hke:k=n:=by have:=h120;omega
      refine L4 (emb:=Hh) 24 10 T Z Z Z Z Z Z Z ?_;rw [show T=compL (rsP p) E by rw [hT,hke,hcls]];refine AE (goMv Z Z (AB Z Z (AB Z Z (AD (A8 ?_)))));exact ⟨_,[],[],A6 Z,Z,Z,E,hEq,Z,Z⟩
theorem N9 {rs:List AP} {i:AK} (hi:BP i=0) {r:AP} (hr:r∈rs) (hv:B4 r=0) (v:Int):(r,v)∈dR rs i↔v=Cg i r∧v≠0:=by
 have e1:AR i=Xr i:=θ hi;have e2:Cg i r=Ap (ctr i) r:=θ ⟨hi,hv⟩;unfold dR;rw [ωb,e1,e2];unfold Xr;rw [KE,HV]
 constructor
 ·rintro ⟨⟨⟨_,h1⟩,h2⟩,_⟩;exact ⟨h1,h2⟩
 ·rintro ⟨h1,h2⟩;refine ⟨⟨⟨Classical.byContradiction fun hn=>h2 ?_,h1⟩,h2⟩,ωi hr⟩;show v=0;rw [h1];exact Sv fun x hx e=>hn (by rw [←e];exact χj hx)
theorem dR_key {rs:List AP} {i:AK} (hi:BP i=0) {r:AP} (hr:r∈rs) (hv:B4 r=0):r∈(dR rs i).map Prod.fst↔Cg i r≠0:=by
 rw [ϱ]
 constructor
 ·rintro ⟨⟨a,v⟩,h,e⟩;have e':a=r:=e;subst e';obtain ⟨h1,h2⟩:=(N9 hi hr hv v).1 h;rw [←h1];exact h2
 ·intro h;exact ⟨(r,Cg i r),(N9 hi hr hv _).2 ⟨Z,h⟩,Z⟩
theorem bz {rs:List AP} {i:AK} (hi:BP i=0) {r:AP} (hr:r∈rs) (hv:B4 r=0):A7 (dR rs i) r 0=Cg i r:=by
 by_cases h:Cg i r=0
 ·rw [h];exact IQ fun hm=>(dR_key hi hr hv).1 hm h
 ·exact DJ (bx rs i) ((N9 hi hr hv _).2 ⟨Z,h⟩)
theorem dR_in {rs:List AP} {i:AK} {r:AP} (h:r∈(dR rs i).map Prod.fst):r∈rs:=by
 obtain ⟨d,hd,e⟩:=ϱ.1 h;rw [←e];exact ψk (ωb.1 hd).2
theorem wt_iff {rs:List AP} (hrs:∀r∈rs,B4 r=0) {x y:AK} (hx:BP x=0) (hy:BP y=0):cm rs x y↔y.id∈x.af∨∃r∈rs,Cg x r<0∧0<Cg y r:=by
 constructor
 ·rintro (⟨⟨r,v⟩,hd,h1,h2⟩ | h)
  ·have hr:r∈rs:=dR_in (χj (f:=Prod.fst) hd);obtain ⟨e,_⟩:=(N9 hx hr (hrs r hr) v).1 hd;refine .inr ⟨r,hr,by rw [←e];exact h1,by rw [←bz hy hr (hrs r hr)];exact h2⟩
  ·exact .inl h
 ·rintro (h | ⟨r,hr,h1,h2⟩)
  ·exact .inr h
  ·exact .inl ⟨(r,Cg x r),(N9 hx hr (hrs r hr) _).2 ⟨Z,by omega⟩,h1,by rw [bz hy hr (hrs r hr)];exact h2⟩
def Lg (p:Prb) (l:List Int):List (AK×Nat):=((Ay p.it).filter fun i=>decide (i.id∈l)).map fun i=>(i,0)
theorem Sk (p:Prb) (l:List Int):(Lg p l).map Prod.fst=(Ay p.it).filter fun i=>decide (i.id∈l):=by unfold Lg;rw [ωu];exact List.map_id _
theorem Jg {E:List (AK×Nat)} (k:Nat):DN E k=(E.map Prod.fst).getD k A0:=by
 unfold DN;rw [ϖ,ϖ,η]
 cases E[k]?<;>rfl
theorem Un {rs:List AP} {E E':List (AK×Nat)} (h:E.map Prod.fst=E'.map Prod.fst):compL rs E=compL rs E':=by
 have hi:DN E=DN E':=funext fun k=>by rw [Jg,Jg,h]
 have hl:E.length=E'.length:=by rw [←ψ (f:=Prod.fst),h,ψ]
 have hn:nbI rs E=nbI rs E':=by unfold nbI;rw [hi,hl]
 unfold compL Cn;rw [hl,hn];unfold idK2;rw [hi]
theorem Ji (E:List (AK×Nat)) (S:List Nat):(idK2 E S).length=S.length:=ψ _
structure PG (rs:List AP) (E:List (AK×Nat)) (i:Nat) (S:List Nat):Prop where
 nd:S.Nodup
 ini:i∈S
 con:∀j∈S,j<E.length∧Cn rs E i j
theorem PG.zero {rs:List AP} {E:List (AK×Nat)} {i:Nat} (hi:i<E.length):PG rs E i [i]:=⟨by simp,by simp,fun j hj=>by rw [ξ.1 hj];exact ⟨hi,.refl i⟩⟩
theorem PG.add {rs:List AP} {E:List (AK×Nat)} {i:Nat} {S:List Nat} (h:PG rs E i S) {j k:Nat} (hj:j∈S) (hk:k<E.length) (hn:k∉S) (hi:Qg rs (DN E j) (DN E k)):PG rs E i (S++ [k]):=by
 refine ⟨χn.2 ⟨h.nd,by simp,fun a ha b hb e=>hn (by rw [ξ.1 hb] at e;rw [←e];exact ha)⟩,ψn _ h.ini,fun x hx=>?_⟩;rcases υ.1 hx with hx | hx
 ·exact h.con x hx
 ·rw [ξ.1 hx];exact ⟨hk,(h.con j hj).2.trans (Rh.one (EB.2 ⟨(h.con j hj).1,hk,hi⟩))⟩
theorem PG.len {rs:List AP} {E:List (AK×Nat)} {i:Nat} {S:List Nat} (h:PG rs E i S):S.length≤E.length:=by
 have:=h.nd.length_le_of_subset (l₂:=List.range E.length) fun y hy=>Ξ.2 (h.con y hy).1
 rwa [ωg] at this
def ClI (rs:List AP) (E:List (AK×Nat)) (S:List Nat) (k:Nat):Prop:=k∈S∨∀m∈S,¬Qg rs (DN E m) (DN E k)
structure PK (rs:List AP) (E:List (AK×Nat)) (i:Nat) (S0:List Nat) (k:Nat) (S:List Nat) (g:Bool):Prop where
 pg:PG rs E i S
 no:g=false ->S=S0∧∀k',k'<k ->ClI rs E S k'
 yes:g=true ->S0.length<S.length
theorem PK.zero {rs:List AP} {E:List (AK×Nat)} {i:Nat} {S:List Nat} (h:PG rs E i S):PK rs E i S 0 S false:=⟨h,fun _=>⟨Z,fun k' hk=>by omega⟩,fun e=>by cases e⟩
theorem PK.le {rs:List AP} {E:List (AK×Nat)} {i:Nat} {S0 S:List Nat} {k:Nat} {g:Bool} (h:PK rs E i S0 k S g):S0.length≤S.length:=by
 cases hg:g with
 | false=>rw [(h.no hg).1];exact ν _
 | true=>exact Nat.le_of_lt (h.yes hg)
theorem PK.pass {rs:List AP} {E:List (AK×Nat)} {i:Nat} {S0 S:List Nat} {k:Nat} {g:Bool} (h:PK rs E i S0 k S g) (hc:ClI rs E S k):PK rs E i S0 (k+1) S g:=
 ⟨h.pg,fun e=>⟨(h.no e).1,fun k' hk=>(Nat.decEq k' k).byCases (fun e2=>by rw [e2];exact hc) fun e2=>(h.no e).2 k' (by omega)⟩,h.yes⟩
theorem PK.hit {rs:List AP} {E:List (AK×Nat)} {i:Nat} {S0 S:List Nat} {k k2:Nat} {g:Bool} (h:PK rs E i S0 k S g) (hp:PG rs E i (S++ [k])):PK rs E i S0 k2 (S++ [k]) true:=
 ⟨hp,fun e=>(by cases e),fun _=>by rw [Δ,Φ];exact Nat.lt_succ_of_le h.le⟩
theorem PG.fin {rs:List AP} {E:List (AK×Nat)} {i:Nat} {S:List Nat} (h:PG rs E i S) (hc:∀k,k<E.length ->ClI rs E S k) {k:Nat} (hk:k<E.length):k∈S↔Cn rs E i k:=by
 refine ⟨fun hm=>(h.con k hm).2,fun hC=>?_⟩;refine Rh.clos (p:=fun x=>x∈S) (fun v hv y hy=>?_) hC h.ini;obtain ⟨_,h2,h3⟩:=EB.1 hy;exact (hc y h2).resolve_right fun hn=>hn v hv h3
def hitS (S:List Nat) (k:Nat) (h:Bool):List Nat:=if h=true then S++ [k] else S
theorem PK.next {rs:List AP} {E:List (AK×Nat)} {i:Nat} {S0 S:List Nat} {k:Nat} {g hh:Bool} (h:PK rs E i S0 k S g) (hyes:hh=true ->PG rs E i (S++ [k])) (hno:hh=false ->ClI rs E S k):PK rs E i S0 (k+1) (hitS S k hh) (if hh=true then true else g):=by
 cases hh with
 | false=>exact h.pass (hno Z)
 | true=>exact h.hit (hyes Z)
theorem comp_p (p:Prb) (l:List Int) (hf:Ed p) (hl:l.length≤100000) (hC:D5 p l=0) (hE:Al p=0) (hn:l.Nodup):AO Tryz.prog 23 [.d (Bs p),.d (Hh l)] (.tup [Lz (compL (rsP p) (Lg p l)),AF 0]):=
 (comp_c p l hf hl hC hE hn).mono fun r H' ⟨E,hEq,e1,e2⟩=>⟨by rw [e1,Un (E':=Lg p l) (by rw [hEq,Sk,show ordP p=Ay p.it from θ hE])],e2⟩
theorem AM.fnArg {P:Program} {f g:FuncId} {x:D} {H:Hp} {R:AV ->Hp ->Prop} (h:AM P f [.d x,.d (.fn g [] [])] H R):AM P f [.d x,.d (.raw (.func (.func g) #[] #[]))] H R:=
 ⟨h.1,fun F ρ vs h1 h2 h2' h3 h4 h5=>h.2 F ρ vs h1 h2 h2' h3 h4 fun i a v ha hv=>by
  rcases i with _ | _ | i
  ·exact h5 0 _ v ha hv
  ·have e:a= .d (.fn g [] []):=by simpa using ha.symm
   subst e;have:=h5 1 _ v Z hv
   cases this with
   | d hd=>
    cases hd with
    | raw _=>exact .d (.fn (us:=[]) (vs:=[]) Z Z (fun i c v hc=>by simp at hc) fun i c v hc=>by simp at hc)
  ·simp at ha⟩
theorem true_c (N:MF) (id:Int):AM Tryz.prog 76 [.d (AF id)] [(41,[.multi N])] fun r H'=>r= .d (Ai true)∧H'=[(41,[.multi N])]:=by
 refine BB Tryz.func76 Z Z Tryz.ntmps76 Z Z Z fun F hF=>?_;refine AC (AE (AB Z Z (AD (AC (AE (AB Z Z (AD (A8 ?_))))))));exact ⟨_,[41],_,A6 Z,Z,Z,Z,Z⟩
def GQ (p:Prb):List (AK×Nat):=(Ay p.it).map fun i=>(i,0)
theorem N6 (p:Prb):(GQ p).map Prod.fst=Ay p.it:=by unfold GQ;rw [ωu];exact List.map_id _
theorem PX {rs:List AP} {E E':List (AK×Nat)} (h:E.map Prod.fst=E'.map Prod.fst):grW rs E=grW rs E'∧idK2 E=idK2 E'∧E.length=E'.length:=by
 have hi:DN E=DN E':=funext fun k=>by rw [Jg,Jg,h]
 have hl:E.length=E'.length:=by rw [←ψ (f:=Prod.fst),h,ψ]
 refine ⟨?_,by funext S;unfold idK2;rw [hi],hl⟩;have e1:∀E:List (AK×Nat),grW rs E=(E.map Prod.fst).map fun a=>toK rs E a E.length:=fun E=>by unfold grW;rw [ωu];rfl
 rw [e1,e1,h];refine ωj fun a _=>?_;unfold toK;rw [hi,hl]
noncomputable def wtsL (rs:List AP) (E:List (AK×Nat)):List (List Int):=(grW rs E).map (idK2 E)
theorem Yj {rs:List AP} {E:List (AK×Nat)} {a:AK} {n:Nat}:∀k∈toK rs E a n,k<n:=fun k hk=>Ξ.1 (ωb.1 hk).1
theorem bS {rs:List AP} {E:List (AK×Nat)} {k:Nat} (hk:k<(grW rs E).length):(∀j∈(grW rs E)[k],j<E.length)∧(grW rs E)[k].length≤E.length:=by
 have e:(grW rs E)[k]=toK rs E (E[k]'(by rw [Ns] at hk;exact hk)).1 E.length:=by simp [grW]
 rw [e];exact ⟨Yj,Pf _ _ _ _⟩
theorem Tn (p:Prb) (hb:EW p) (hE:Al p≠0):AO Tryz.prog 29 [.d (Bs p)] (.tup [.sl (some true) [],AF (Al p)]):=by
 have hck:=DY p hb;refine BB Tryz.func29 Z Z Tryz.ntmps29 Z Z Z fun F hF=>(AC (AE (V (Bz 1 Z Z Z Z Z Z Z) (AB Z Z (AB Z Z (AD (AC (AC ?_))))))));refine AE (J (BM Z Z BW Z Z Z) (J (B2 (hck) Z Z) (AB Z Z (AD (AC (AE (goMv Z Z (J (D6 Z Z Z) ?_))))))));refine AD (DP Z (ωi hE) (AC (AE (goMv Z Z (AB Z Z (AB Z Z (AD (A8 ?_))))))));exact ⟨_,[],[],A6 Z,Z,Z,Z,Z⟩
set_option maxHeartbeats 1000000 in
theorem Y9 (p:Prb) (hf:Ed p) (hE:Al p=0):AO Tryz.prog 29 [.d (Bs p)] (.tup [Lz (wtsL (rsP p) (GQ p)),AF 0]):=by
 have hck:=DY p hf.b;rw [hE] at hck;have hO:ordP p=Ay p.it:=θ hE;have hi30:=hf.i;have hent:=fun N:MF=>(Kx p hE hf 76 [] N (fun _=>true) (true_c N)).fnArg;refine BB Tryz.func29 Z Z Tryz.ntmps29 Z Z Z fun F hF=>(AC (AE (V (Bz 1 Z Z Z Z Z Z Z) (AB Z Z (AB Z Z (AD ?_))))));refine AC (AC (AE (J (BM Z Z BW Z Z Z) (J (B2 (hck) Z Z) (AB Z Z (AD (AC (AE ?_))))))));refine goMv Z Z (J (D6 Z Z Z) (AD (D9 Z (ωp (by decide)) (A3 (AC (Fi 41 Z Z Z (AE (J (BM Z Z BW Z Z Z) ?_))))))));refine CP (Ux (hent _) Z [41,40] ⟨Z,Z,trivial⟩ Z Z Z Z (fun r H' ⟨E,M,e1,e2,_⟩=>by subst e1 e2;exact ⟨Z,Z,Z⟩) Z) Z ?_;rintro _ ⟨r,H',⟨E,M,e1,e2,hR,hEq⟩,rfl⟩;subst e1 e2;refine AB Z Z (AD (AC ?_));have hEq2:E.map Prod.fst=Ay p.it:=by rw [hEq,hO];simp
 have hcg:=PX (rs:=rsP p) (E:=E) (E':=GQ p) (by rw [hEq2,N6]);have hn30:E.length≤30:=by have h1:(E.map Prod.fst).length=(Ay p.it).length:=(by rw [hEq2]);rw [ψ,YN] at h1;omega
 have haf:∀e∈E,e.1.af.length≤100000:=fun e he=>by have h1:e.1∈E.map Prod.fst:=χj he;rw [hEq2] at h1;have:=(hf.x _ ((YV p.it).mem_iff.1 h1)).2.2;omega
 refine AE (AB Z Z (AD (AC (AC ?_))));refine AE (goMv Z Z (V (E1 (WM E hR (by omega) haf) Z [40] ⟨Z,trivial⟩ Z Z Z Z Z Z Z Z Z) (J (I5 Z (by rw [ψ,Ns]) Tryz.underlying147 Z) (goMv Z Z (AD (A5 (OD 6 10 M7 Z Z Z Z (B7 (α:=Nat×List (List Int)) (fun q=>⟨31,[(5,(.d (.sl none (E.map Cf)))),(6,(.own 10 0 q.2.length)),(17,(.d (JK (grW (rsP p) E)))),(18,(.d (AF (E.length:Int)))),(19,(.d (AF (q.1:Int))))],[(10,[.rowD 28 1 (q.2.map Hh)])]⟩) (fun q=>q.1≤E.length∧q.2=((grW (rsP p) E).take q.1).map (idK2 E)) (fun q=>E.length - q.1) ((0,[])) (⟨ς _,Z⟩) (A1 hF [10] Z Z ⟨Z,Z,Z,Z,Z,trivial⟩) ?_))))))));rintro ⟨k,T⟩ ⟨hk,hT⟩;dsimp only at hk hT⊢;refine AC (AE (J (BR Z Z Z) (AD (AC (Ae Z (fun h20=>?_) (fun h20=>?_))))))
 ·refine A3 (AC (A5 (AC ?_)));have hkl:k<E.length:=Bf h20;have hkg:k<(grW (rsP p) E).length:=by rw [Ns];exact hkl
  obtain ⟨hg1,hg2⟩:=bS hkg;have hTl:T.length≤30:=by rw [hT,ψ,Υ];omega
  refine AE (J (Be (k) Z Z (Z) (Ah hkg) Tryz.underlying147 Z CZ Z) (J (Cr Z Z BH Z) (AB Z Z (AD (AE (goMv Z Z (goMv Z Z (goMv Z Z ?_))))))));refine J (B2 (ids_p E (grW (rsP p) E)[k] hg1 (by omega)) Z Z) (V (D7 30 M7 Z Z Z Z Z Z Z Z) (V (Hz (T) ([idK2 E (grW (rsP p) E)[k]]) Z Z Z Z Z Z Z Z M7 (by simp only [Φ];omega) Z Z Z Z) (AB Z Z (AD (AE (J (BA Z Z (AT (k+1) (by omega)) Z) (goMv Z Z (AD ?_))))))));exact ⟨(k+1,T++ [idK2 E (grW (rsP p) E)[k]]),⟨hkl,by show _=((grW (rsP p) E).take (k+1)).map _;rw [φ hkg,ωc,hT];rfl⟩,by show E.length - (k+1)<E.length - k;omega,A1 hF [10] Z (Z) ⟨Z,Z,Z,Z,Z,trivial⟩⟩
 ·refine BF (AC ?_);have hke:k=E.length:=by have:=h20;omega
  refine L4 (emb:=Hh) 6 10 T Z Z Z Z Z Z Z ?_;rw [show T=wtsL (rsP p) (GQ p) by rw [hT,hke,Θ (by rw [Ns];exact ν _)];unfold wtsL;rw [hcg.1,hcg.2.1]];refine AE (goMv Z Z (AB Z Z (AB Z Z (AD (A8 ?_)))));exact ⟨_,[],[],A6 Z,Z,Z,Z,Z⟩
def sub30 (ids:List Int) (m k:Nat):List Int:=((List.range k).filter fun j=>decide (m / 2^j % 2=1)).map fun j=>ids.getD j 0
def InU (p:Prb) (ids:List Int) (M:Nat) (x:Int):Prop:=∃m,m<M∧bY p (sub30 ids m ids.length)∧x∈sub30 ids m ids.length
noncomputable instance (p:Prb) (ids:List Int) (M:Nat) (x:Int):Decidable (InU p ids M x):=Classical.propDecidable _
theorem Pz {its:List AK} (hn:(its.map AK.id).Nodup) (on:Nat ->Bool):EL its on its.length=(its.map AK.id).filter fun x=>decide (x∈EL its on its.length):=by
 obtain ⟨l,hl⟩:∃l,EL its on its.length=l:=⟨_,Z⟩
 have h1:its.map AK.id=(List.range its.length).map fun i=>(its.getD i A0).id:=by
  conv=>lhs;rw [Xi its]
  rw [ωu];rfl
 rw [h1,List.filter_map];show ((List.range its.length).filter on).map _=_
 congr 1
 refine χp fun i hi=>?_;have:=on_mem hn on (Ξ.1 hi);show on i=decide ((its.getD i A0).id∈EL its on its.length)
 cases ho:on i with
 | true=>exact (ωi (this.2 ho)).symm
 | false=>exact (ωp fun h=>by rw [this.1 h] at ho;cases ho).symm
theorem cW {wb mv:Nat} {nb pb:Nat ->Nat} {N:Net} {M:MF} (h:CB wb mv nb pb N M) {i:Nat} {x:Nd} (hx:N.nd[i]? =some x):AM Tryz.prog 146 [.d (pD (nb i) 0)] (HN M) fun r H'=>r= .d (Ai x.on)∧H'=HN M:=by
 have hxb:=h.n i x hx;refine BB Tryz.func146 Z Z Tryz.ntmps146 Z Z Z fun F hF=>(AC (AE (AB Z Z (AD ?_))));refine AC (AE (goMv Z Z (J (DO Z Z) (J (CS Z E7 Z Z Z) (J (Dv (f:=40) Z Z (hxb) Z on4 Z) (AB Z Z (AD (A8 ?_))))))));exact ⟨_,[40],_,A6 Z,Z,Z,Z,Z⟩
theorem cU {wb mv:Nat} {nb pb:Nat ->Nat} {N:Net} {M:MF} (h:CB wb mv nb pb N M) (e:Nat×Int) {y:Po} (hy:N.po[e.1]? =some y) (hr: -1000000000000000000≤y.room∧y.room≤1000000000000000000) (he: -2000000000000000000≤e.2∧e.2≤2000000000000000000):AM Tryz.prog 149 [.d (bh pb e)] (HN M) fun r H'=>r= .d (Ai (Py y e.2))∧H'=HN M:=by
 have hov:=LP h hy e.2 hr he;refine BB Tryz.func149 Z Z Tryz.ntmps149 Z Z Z fun F hF=>(AC (AE (V (Bz 1 Z Z Z Z Z Z Z) (AB Z Z (AD (AC ?_))))));refine AE (J (A4 Z QU Z Z Z) (J (A9 Z Z Z EX Z) (J (A4 Z QT Z Z Z) (J (A9 Z Z Z Ke Z) (V (E1 hov Z [40] ⟨Z,trivial⟩ Z Z Z Z Z Z Z Z Z) (AB Z Z (AD (A8 ?_))))))));exact ⟨_,[40],_,A6 Z,Z,Z,Z,Z⟩
abbrev HAO (wb mv:Nat) (bs:Option (List Nat×Nat)) (L:List (Int×Value)) (M:MF):Hp:=(910,[.blk 171 [.d (pD wb 0)]])::HW mv bs L M
theorem cV {wb mv:Nat} {nb pb:Nat ->Nat} {N:Net} {M:MF} (bs:Option (List Nat×Nat)) (h:CB wb mv nb pb N M) (hn:(BT N).Nodup) {id:Int} (hid:id∈BT N):AM Tryz.prog 147 [.d (AF id),.ptr 910 0 0] (HAO wb mv bs (Fh nb (BT N)) M) fun r H'=>r= .d (Ai (!Cp N id))∧H'=HAO wb mv bs (Fh nb (BT N)) M:=by
 have hwb:=h.w;have hil:=ψp hid;have hil2:(BT N).idxOf id<N.nd.length:=by unfold BT at hil⊢;rw [ψ] at hil;exact hil
 obtain ⟨z,hz⟩:∃z,N.nd[(BT N).idxOf id]? =some z:=⟨_,ω hil2⟩
 have hgz:N.nd.getD ((BT N).idxOf id) Bl=z:=by rw [ϖ,hz];rfl
 have hzb:=h.n _ z hz;have hby:=Q8 (nb:=nb) hn hil;rw [φe hil] at hby;have hof:(!Cp N id)=z.on:=by unfold Cp;rw [hgz,Bool.not_not]
 refine BB Tryz.func147 Z Z Tryz.ntmps147 Z Z Z fun F hF=>(AC ?_);refine AE (AB Z Z (AD (AC (AE (J (A9 Z Z Z Vk Z) (J (DO Z Z) (J (CS Z ME Z Z Z) (J (Dv (f:=40) Z Z (hwb) Z Vi Z) ?_))))))));refine D1 7 51 0 Z Z (goMv Z Z (J (HQ (Fh nb (BT N)) id (.pointer none) (pV (nb ((BT N).idxOf id)) 0) Z Z Z Vw HP VG hby Z) (J (DO Z Z) (J (CS Z E7 Z Z Z) (J (Dv (f:=40) Z Z (hzb) Z on4 Z) (AB Z Z (AD (A8 ?_))))))));exact ⟨_,[910,40,50,51],_,A6 Z,Z,Z,by rw [hof],Z⟩
section
variable {P:Program} {F:Fr} {s:AS} {d:Nat} {x hi:Operand} {T E:TypeId} {ty:TypeId} {pos:String} {aft:Array Edge} {g:Option (Nat×Bool)}
theorem RH {b n cap kk:Nat} (h:Nat) {kh:IntKind} {ih:Int} (hx:s.ev x=some (.d (.raw (sV b n cap)))) (hhi:s.ev hi=some (.d (.raw (.int kh ih)))) (hh:ih=(h:Int)) (h2:h≤cap) (hT:P.underlying T=some (.slice E)) (hE:AY P E kk=true) (hd:Nat.blt d s.n=true):
  AA P F ⟨some d,.slice T x none (some hi) none,ty,pos,aft,g⟩ s d (.d (.raw (sV b h cap))):=
 Cj _ hd fun _ act w hs=>by
  have e:=hs.raw hx;subst hh;refine ⟨.slice (if cap=0 then some ⟨b,0,none⟩ else (some (⟨b,0,none⟩:Addr)).map (·.add (0*kk))) (h - 0) (cap - 0),by simp only [execOp,e,ψz,φk,hs.raw hhi,Sem.run_bind,G3 hT (YX hE) h2,Result.andThen_ok,Sem.run_pure],?_⟩
  have:Value.slice (if cap=0 then some ⟨b,0,none⟩ else (some (⟨b,0,none⟩:Addr)).map (·.add (0*kk))) (h - 0) (cap - 0)=sV b h cap:=by
   split<;>simp [Addr.add]
  rw [this];exact .d (.raw Z)
end
def Nz {α:Type} (p:α ->Bool) (l:List α):Int:=match l.findIdx? p with
 | some k=>k
 | none=> -1
theorem idx1_c {wb mv:Nat} {nb pb:Nat ->Nat} {N:Net} {M:MF} (h:CB wb mv nb pb N M) {hd:Hd} {q:List Nat} (hq:BJ M hd 176 1 (q.map fun i=>BK (nb i))) (hqn:∀i∈q,i<N.nd.length) (m:Nat) (hm:m≤q.length) (hql:q.length≤100000):
  AM Tryz.prog 97 [.d (hdr hd m),.d (.raw (.func (.func 146) #[] #[]))] (HN M) fun r H'=>r= .d (AF (Nz (onN N) (q.take m)))∧H'=HN M:=by
 have hz:hd=none ->m=0:=fun e=>by have:=T8 hq e;omega
 have htl:(q.take m).length=m:=by rw [Υ];omega
 refine BB Tryz.func97 Z Z Tryz.ntmps97 Z Z Z fun F hF=>(AC (AE (AB Z Z (AD ?_))));refine AC (AC (AE (goMv Z Z (J (VC hz Z Tryz.underlying175 Z) (goMv Z Z (AD (A5 (B7 (α:=Nat) (fun k=>⟨19,[(0,.d (hdr hd m)),(1,.d (.raw (.func (.func 146) #[] #[]))),(7,(.d (AF (m:Int)))),(8,(.d (AF (k:Int))))],HN M⟩) (fun k=>k≤m∧∀x∈(q.take m).take k,onN N x=false) (fun k=>m - k) (0) (⟨ς _,by simp⟩) (A1 hF [40] Z Z ⟨Z,Z,Z,Z,trivial⟩) ?_))))))));rintro k ⟨hk0,hk⟩;refine AC (AE (J (BR Z Z Z) (AD (AC (Ae Z (fun h9=>?_) (fun h9=>?_))))))
 ·have hk1:k<m:=Bf h9;refine A3 (AC (A5 (AC ?_)));have hkq:k<q.length:=by omega
  have hkt:k<(q.take m).length:=by omega
  obtain ⟨rb,rc,hre⟩:=Ti hq hkq;have hrow:=Qk hq hre;have hil:=hqn _ (κ hkq)
  obtain ⟨z,hz2⟩:∃z,N.nd[q[k]]? =some z:=⟨_,ω hil⟩
  have hal:=cW h hz2;have hon:onN N q[k]=z.on:=by unfold onN;rw [ϖ,hz2];rfl
  refine AE (goMv Z Z (AB Z Z (AD (AC ?_))));refine AE (goMv Z Z (goMv Z Z (goMv Z Z (J (Uy hre (k) Z Z Z hk1 Tryz.underlying175 LK Z) (J (Zcs (f:=40) (e:=k) (off:=0) Z (by omega) Z (hrow) (Ah hkq) Z Mo Z) (V (YZ hal Z [40] ⟨Z,trivial⟩ Z Z Z Z Z Z Z Z Z) (AD (KN Z (fun h16=>?_) (fun h16=>?_)))))))))
  ·refine AC (AE (goMv Z Z (AB Z Z (AD (A8 ?_)))));exact ⟨_,[40],_,A6 Z,Z,Z,Ag (by unfold Nz;rw [Gl hkt hk (by rw [List.getElem_take,hon];simpa using h16)]),Z⟩
  ·refine A3 (AE (J (BA Z Z (AT (k+1) (by omega)) Z) (goMv Z Z (AD ?_))));exact ⟨k+1,⟨by show k+1≤_;omega,by rw [φ hkt];intro y hy;rcases υ.1 hy with hy | hy;exact hk y hy;rw [ξ.1 hy,List.getElem_take];rw [hon];simpa using h16⟩,by show m - (k+1)<m - k;omega,A1 hF [40] Z (Z) ⟨Z,Z,Z,Z,trivial⟩⟩
 ·refine BF (AC (AE (AB Z Z (AD (A8 ?_)))));exact ⟨_,[40],_,A6 Z,Z,Z,Ag (by unfold Nz;rw [IW (fun x hx=>hk x (by rw [Θ (by have h:=h9;omega)];exact hx))]),Z⟩
theorem U2 {α:Type} {p:α ->Bool} {l:List α}:(Nz p l≥0)↔l.any p=true:=by
 unfold Nz
 cases h:l.findIdx? p with
 | none=>
  rw [List.findIdx?_eq_none_iff] at h
  constructor
  ·intro h1;have h2:(-1:Int)≥0:=h1;omega
  ·intro h1;obtain ⟨x,hx,h2⟩:=List.any_eq_true.1 h1;rw [h x hx] at h2;cases h2
 | some k=>
  constructor
  ·intro _;obtain ⟨hk,h1,_⟩:=List.findIdx?_eq_some_iff_getElem.1 h;exact List.any_eq_true.2 ⟨l[k],κ hk,h1⟩
  ·intro _;show (k:Int)≥0;omega
theorem cont1_c {wb mv:Nat} {nb pb:Nat ->Nat} {N:Net} {M:MF} (h:CB wb mv nb pb N M) {hd:Hd} {q:List Nat} (hq:BJ M hd 176 1 (q.map fun i=>BK (nb i))) (hqn:∀i∈q,i<N.nd.length) (m:Nat) (hm:m≤q.length) (hql:q.length≤100000):
  AM Tryz.prog 145 [.d (hdr hd m),.d (.raw (.func (.func 146) #[] #[]))] (HN M) fun r H'=>r= .d (Ai ((q.take m).any (onN N)))∧H'=HN M:=by
 refine BB Tryz.func145 Z Z Tryz.ntmps145 Z Z Z fun F hF=>(AC (AE (AB Z Z (AD ?_))));refine AC (AE (goMv Z Z (goMv Z Z (V (E1 (idx1_c h hq hqn m hm hql) Z [40] ⟨Z,trivial⟩ Z Z Z Z Z Z Z Z Z) (J (ES Z Z Z) (AB Z Z (AD (A8 ?_))))))));exact ⟨_,[40],_,A6 Z,Z,Z,Md (by rw [φp,ωx];exact U2),Z⟩
theorem idx3_c {wb mv:Nat} {nb pb:Nat ->Nat} {N:Net} {M:MF} (h:CB wb mv nb pb N M) (hw:NetW N) {i:Nat} {x:Nd} (hx:N.nd[i]? =some x):
  AM Tryz.prog 197 [.d (hdr x.eh x.ef.length),.d (.raw (.func (.func 149) #[] #[]))] (HN M) fun r H'=>r= .d (AF (Nz (fun e:Nat×Int=>Py (N.po.getD e.1 CV) e.2) x.ef))∧H'=HN M:=by
 obtain ⟨hxb,hre,_⟩:=h.nn i x hx;have hxm:=ζ hx;have hel:=(hw.l x hxm).1;have hz:=T8 hre;refine BB Tryz.func197 Z Z Tryz.ntmps197 Z Z Z fun F hF=>(AC (AE (AB Z Z (AD ?_))));refine AC (AC (AE (goMv Z Z (J (VC hz Z Tryz.underlying181 Z) (goMv Z Z (AD (A5 (B7 (α:=Nat) (fun k=>⟨19,[(0,.d (hdr x.eh x.ef.length)),(1,.d (.raw (.func (.func 149) #[] #[]))),(7,(.d (AF (x.ef.length:Int)))),(8,(.d (AF (k:Int))))],HN M⟩) (fun k=>k≤x.ef.length∧∀e∈x.ef.take k,(fun e:Nat×Int=>Py (N.po.getD e.1 CV) e.2) e=false) (fun k=>x.ef.length - k) (0) (⟨ς _,by simp⟩) (A1 hF [40] Z Z ⟨Z,Z,Z,Z,trivial⟩) ?_))))))));rintro k ⟨hk0,hk⟩;refine AC (AE (J (BR Z Z Z) (AD (AC (Ae Z (fun h9=>?_) (fun h9=>?_))))))
 ·have hk1:k<x.ef.length:=Bf h9;refine A3 (AC (A5 (AC ?_)));obtain ⟨rb,rc,hree⟩:=Ti hre hk1;have hrow:=Qk hre hree;have hjl:=(h.e x hxm).1 _ (κ hk1)
  obtain ⟨y,hy⟩:∃y,N.po[x.ef[k].1]? =some y:=⟨_,ω hjl⟩
  have hgy:N.po.getD x.ef[k].1 CV=y:=by rw [ϖ,hy];rfl
  have heb:=hw.e x hxm _ (κ hk1);have hal:=cU h x.ef[k] hy (hw.rm y (ζ hy)) ⟨by omega,by omega⟩;refine AE (goMv Z Z (AB Z Z (AD (AC ?_))));refine AE (goMv Z Z (goMv Z Z (goMv Z Z (J (Uy hree (k) Z Z Z hk1 Tryz.underlying181 RC Z) (J (Db (f:=40) (e:=k) Z (Z) Z (hrow) (Ah hk1) Z ZZ Z) (V (YZ hal Z [40] ⟨Z,trivial⟩ Z Z Z Z Z Z Z Z Z) (AD (Ae Z (fun h16=>?_) (fun h16=>?_)))))))))
  ·refine AC (AE (goMv Z Z (AB Z Z (AD (A8 ?_)))));exact ⟨_,[40],_,A6 Z,Z,Z,Ag (by unfold Nz;rw [Gl hk1 hk (by show Py (N.po.getD x.ef[k].1 CV) x.ef[k].2=true;rw [hgy];unfold Py;exact ωi h16)]),Z⟩
  ·refine A3 (AE (J (BA Z Z (AT (k+1) (by omega)) Z) (goMv Z Z (AD ?_))));exact ⟨k+1,⟨by show k+1≤_;omega,by rw [φ hk1];intro e he;rcases υ.1 he with he | he;exact hk e he;rw [ξ.1 he];show Py (N.po.getD x.ef[k].1 CV) x.ef[k].2=false;rw [hgy];unfold Py;exact ωp h16⟩,by show x.ef.length - (k+1)<x.ef.length - k;omega,A1 hF [40] Z (Z) ⟨Z,Z,Z,Z,trivial⟩⟩
 ·refine BF (AC (AE (AB Z Z (AD (A8 ?_)))));exact ⟨_,[40],_,A6 Z,Z,Z,Ag (by unfold Nz;rw [IW (fun e he=>hk e (by rw [Θ (by have h:=h9;omega)];exact he))]),Z⟩
theorem cont3_c {wb mv:Nat} {nb pb:Nat ->Nat} {N:Net} {M:MF} (h:CB wb mv nb pb N M) (hw:NetW N) {i:Nat} {x:Nd} (hx:N.nd[i]? =some x):
  AM Tryz.prog 148 [.d (hdr x.eh x.ef.length),.d (.raw (.func (.func 149) #[] #[]))] (HN M) fun r H'=>r= .d (Ai (x.ef.any fun e:Nat×Int=>Py (N.po.getD e.1 CV) e.2))∧H'=HN M:=by
 refine BB Tryz.func148 Z Z Tryz.ntmps148 Z Z Z fun F hF=>(AC (AE (AB Z Z (AD ?_))));refine AC (AE (goMv Z Z (goMv Z Z (V (E1 (idx3_c h hw hx) Z [40] ⟨Z,trivial⟩ Z Z Z Z Z Z Z Z Z) (J (ES Z Z Z) (AB Z Z (AD (A8 ?_))))))));exact ⟨_,[40],_,A6 Z,Z,Z,Md (by rw [φp,ωx];exact U2),Z⟩
theorem idx2_c {wb mv:Nat} {nb pb:Nat ->Nat} {N:Net} {M:MF} (bs:Option (List Nat×Nat)) (h:CB wb mv nb pb N M) (hn:(BT N).Nodup) (l:List Int) (hl:l.length≤100000) (hid:∀id∈l,id∈BT N):
  AM Tryz.prog 138 [.d (.sl none (l.map AF)),.fn 147 [.ptr 910 0 0]] (HAO wb mv bs (Fh nb (BT N)) M) fun r H'=>r= .d (AF (Nz (fun id=>!Cp N id) l))∧H'=HAO wb mv bs (Fh nb (BT N)) M:=by
 obtain ⟨L,hL⟩:∃L,Fh nb (BT N)=L:=⟨_,Z⟩
 have ha:=fun id hi=>cV (id:=id) bs h hn hi;rw [hL] at ha⊢;refine BB Tryz.func138 Z Z Tryz.ntmps138 Z Z Z fun F hF=>(AC (AE (AB Z Z (AD ?_))));refine AC (AC (AE (goMv Z Z (J (CO Z Tryz.underlying28 Z) (goMv Z Z (AD (A5 (B7 (α:=Nat) (fun k=>⟨19,[(0,.d (.sl none (l.map AF))),(1,.fn 147 [.ptr 910 0 0]),(7,(.d (AF (l.length:Int)))),(8,(.d (AF (k:Int))))],HAO wb mv bs L M⟩) (fun k=>k≤l.length∧∀x∈l.take k,(fun id=>!Cp N id) x=false) (fun k=>l.length - k) (0) (⟨ς _,by simp⟩) (A1 hF [910,40,50,51] Z Z ⟨Z,Z,Z,Z,trivial⟩) ?_))))))));rintro k ⟨hk0,hk⟩;refine AC (AE (J (BR Z Z Z) (AD (AC (Ae Z (fun h9=>?_) (fun h9=>?_))))))
 ·have hk1:k<l.length:=Bf h9;refine A3 (AC (A5 (AC (AE (goMv Z Z (AB Z Z (AD (AC ?_))))))));refine AE (goMv Z Z (goMv Z Z (goMv Z Z (J (Be (k) Z Z (Z) (Ah hk1) Tryz.underlying28 Z BE Z) (J (Cr Z Z Aq Z) (V (YZ (ha l[k] (hid _ (κ hk1))) Z [910,40,50,51] ⟨Z,Z,Z,Z,trivial⟩ Z Z Z Z Z Z Z Z Z) (AD (KN Z (fun h16=>?_) (fun h16=>?_)))))))))
  ·refine AC (AE (goMv Z Z (AB Z Z (AD (A8 ?_)))));exact ⟨_,[910,40,50,51],_,A6 Z,Z,Z,Ag (by unfold Nz;rw [Gl hk1 hk (by simpa using h16)]),Z⟩
  ·refine A3 (AE (J (BA Z Z (AT (k+1) (by omega)) Z) (goMv Z Z (AD ?_))));exact ⟨k+1,⟨by show k+1≤_;omega,by rw [φ hk1];intro x hx;rcases υ.1 hx with hx | hx;exact hk x hx;rw [ξ.1 hx];simpa using h16⟩,by show l.length - (k+1)<l.length - k;omega,A1 hF [910,40,50,51] Z (Z) ⟨Z,Z,Z,Z,trivial⟩⟩
 ·refine BF (AC (AE (AB Z Z (AD (A8 ?_)))));exact ⟨_,[910,40,50,51],_,A6 Z,Z,Z,Ag (by unfold Nz;rw [IW (fun x hx=>hk x (by rw [Θ (by have h:=h9;omega)];exact hx))]),Z⟩
theorem cont2_c {wb mv:Nat} {nb pb:Nat ->Nat} {N:Net} {M:MF} (bs:Option (List Nat×Nat)) (h:CB wb mv nb pb N M) (hn:(BT N).Nodup) (l:List Int) (hl:l.length≤100000) (hid:∀id∈l,id∈BT N):
  AM Tryz.prog 130 [.d (.sl none (l.map AF)),.fn 147 [.ptr 910 0 0]] (HAO wb mv bs (Fh nb (BT N)) M) fun r H'=>r= .d (Ai (l.any fun id=>!Cp N id))∧H'=HAO wb mv bs (Fh nb (BT N)) M:=by
 refine BB Tryz.func130 Z Z Tryz.ntmps130 Z Z Z fun F hF=>(AC (AE (AB Z Z (AD ?_))));refine AC (AE (goMv Z Z (goMv Z Z (V (E1 (idx2_c bs h hn l hl hid) Z [910,40,50,51] ⟨Z,Z,Z,Z,trivial⟩ Z Z Z Z Z Z Z Z Z) (J (ES Z Z Z) (AB Z Z (AD (A8 ?_))))))));exact ⟨_,[910,40,50,51],_,A6 Z,Z,Z,Md (by rw [φp,ωx];exact U2),Z⟩
section
variable {P:Program} {F:Fr} {s:AS} {d:Nat} {x hi:Operand} {T E:TypeId} {ty:TypeId} {pos:String} {aft:Array Edge} {g:Option (Nat×Bool)}
theorem RJ {h:Hd} {b n cap kk:Nat} (he:h=some (b,cap)) (m:Nat) {kh:IntKind} {ih:Int} (hx:s.ev x=some (.d (hdr h n))) (hhi:s.ev hi=some (.d (.raw (.int kh ih)))) (hh:ih=(m:Int)) (h2:m≤cap) (hT:P.underlying T=some (.slice E)) (hE:AY P E kk=true) (hd:Nat.blt d s.n=true):
  AA P F ⟨some d,.slice T x none (some hi) none,ty,pos,aft,g⟩ s d (.d (hdr h m)):=by
 subst he;exact RH m hx hhi hh h2 hT hE hd
end
def YR (N:Net) (e:Nat×Nat):Bool:=((N.po.getD e.1 CV).q.take e.2).any (onN N)
def Dt (N:Net) (x:Nd):Bool:=!(x.pl.any (YR N)) &&(!(x.it.af.any fun id=>!Cp N id) && !(x.ef.any fun e:Nat×Int=>Py (N.po.getD e.1 CV) e.2))
theorem al_pl {N:Net} {x:Nd} (h:x.pl.any (YR N)=true):Dt N x=false:=by unfold Dt;rw [h];rfl
theorem al_af {N:Net} {x:Nd} (h0:x.pl.any (YR N)=false) (h:(x.it.af.any fun id=>!Cp N id)=true):Dt N x=false:=by unfold Dt;rw [h0,h];rfl
theorem al_ef {N:Net} {x:Nd} (h0:x.pl.any (YR N)=false) (h:(x.it.af.any fun id=>!Cp N id)=false):Dt N x=!(x.ef.any fun e:Nat×Int=>Py (N.po.getD e.1 CV) e.2):=by unfold Dt;rw [h0,h];simp
set_option maxHeartbeats 1000000 in
theorem alone_c {wb mv:Nat} {nb pb:Nat ->Nat} {N:Net} {M:MF} (bs:Option (List Nat×Nat)) (h:CB wb mv nb pb N M) (hw:NetW N) {i:Nat} {x:Nd} (hx:N.nd[i]? =some x):
  AM Tryz.prog 99 [.d (pD wb 0),.d (pD (nb i) 0)] (HW mv bs (Fh nb (BT N)) M) fun r H'=>r= .d (Ai (Dt N x))∧H'=HW mv bs (Fh nb (BT N)) M:=by
 have hxm:=ζ hx;obtain ⟨hxb,hre,hrp⟩:=h.nn i x hx;have hpz:=T8 hrp;obtain ⟨_,hpl,hafl⟩:=hw.l x hxm;have hxe:=h.e x hxm;have hxp:=hw.p x hxm;have hc2:=cont2_c bs h hw.i x.it.af (by omega) (hw.a x hxm);have hc3:=cont3_c h hw hx
 obtain ⟨L,hL⟩:∃L,Fh nb (BT N)=L:=⟨_,Z⟩
 rw [hL] at hc2⊢;refine BB Tryz.func99 Z Z Tryz.ntmps99 Z Z Z fun F hF=>(AC (AE (V (Bz 910 Z Z Z Z Z Z Z) (AB Z Z (AD (AC (AC (AE ?_))))))));refine goMv Z Z (J (DO Z Z) (J (CS Z Js Z Z Z) (J (Dv (f:=40) Z Z (hxb) Z Vg Z) (J (VC hpz Z Tryz.underlying182 Z) (goMv Z Z (AD (A5 (B7 (α:=Nat) (fun k=>⟨39,[(1,.d (pD (nb i) 0)),(2,(.ptr 910 0 0)),(10,(.d (hdr x.ph x.pl.length))),(11,(.d (AF (x.pl.length:Int)))),(12,(.d (AF (k:Int))))],HAO wb mv bs L M⟩) (fun k=>k≤x.pl.length∧∀e∈x.pl.take k,YR N e=false) (fun k=>x.pl.length - k) (0) (⟨ς _,by simp⟩) (A1 hF [910,40,50,51] Z Z ⟨Z,Z,Z,Z,Z,trivial⟩) ?_))))))));rintro k ⟨hk0,hkb⟩;refine AC (AE (J (BR Z Z Z) (AD (AC (Ae Z (fun h13=>?_) (fun h13=>?_))))))
 ·have hk1:k<x.pl.length:=Bf h13;refine A3 (AC (A5 (AC ?_)));obtain ⟨eb,ec,hee⟩:=Ti hrp hk1;have hrow:=Qk hrp hee;have hjl:x.pl[k].1<N.po.length:=hxe.2 _ (κ hk1)
  obtain ⟨y,hy⟩:∃y,N.po[x.pl[k].1]? =some y:=⟨_,ω hjl⟩
  have hgy:N.po.getD x.pl[k].1 CV=y:=by rw [ϖ,hy];rfl
  have hym:=ζ hy;obtain ⟨hyb,hyq⟩:=h.pp _ y hy;have hpk:=hxp _ (κ hk1);rw [hgy] at hpk;obtain ⟨qb,qc,hqe⟩:=Ti hyq hpk.1;have hqc:y.q.length≤qc:=by have h1:=hyq;rw [hqe] at h1;have h2:=h1.1;rw [ψ] at h2;exact h2
  have hcn:=cont1_c h hyq (h.q y hym) x.pl[k].2 (by omega) (by have h1:=hw.ql y hym;omega);refine AE (J (Uy hee (k) Z Z Z hk1 Tryz.underlying182 O3 Z) ?_);refine J (Db (f:=40) (e:=k) Z (Z) Z (hrow) (Ah hk1) Z ZX Z) (V (CF 911 VF Z Z Z Z) (V (Bi Z Z Z Z Z Z Z O3) (AD (AC (Ch [[],[0],[0,1],[0,1,2],[0,1,2,3],[],[5],[0,1,2,3,4,5,6],[0,1,2,3,4,5,6,7]] mixed Z (Cq (AJ [6] [] Z Z (fun _=>AG (A4 Z Gm Z Z Z)) (AJ [16] [911] Z Z (fun _=>AG (A9 Z Z Z EX Z)) ?_))))))));refine AJ [17] [] Z Z (fun _=>AG (DO Z Z)) (AJ [18] [] Z Z (fun _=>AG (CS Z Gn Z Z Z)) (AJ [19] [40] Z Z (fun _=>AG (Dv (f:=40) Z Z (hyb) Z GG Z)) (AJ [6] [] Z Z (fun _=>AG (A4 Z QR Z Z Z)) (AJ [21] [911] Z Z (fun _=>AG (A9 Z Z Z Aq Z)) (C5 7 Z Z Z (Af 8 Z Z (J (RJ hqe x.pl[k].2 Z Z Z (by omega) Tryz.underlying175 LK Z) (AD ⟨Z,?_⟩))))))));refine Af 9 Z Z (V (E1 hcn Z [40] ⟨Z,trivial⟩ Z Z Z Z Z Z Z Z Z) (AD ⟨Z,?_⟩));refine C9 (KN Z (fun h24=>?_) (fun h24=>?_))
  ·refine AC (AE (AB Z Z (AD (A8 ?_))));exact ⟨_,[40,50,51],_,A6 Z,Z,Z,by rw [al_pl (List.any_eq_true.2 ⟨_,κ hk1,by unfold YR;rw [hgy];simpa using h24⟩)],Z⟩
  ·refine A3 (AE (J (BA Z Z (AT (k+1) (by omega)) Z) (goMv Z Z (AD ?_))));exact ⟨k+1,⟨by show k+1≤_;omega,by rw [φ hk1];intro e he;rcases υ.1 he with he | he;exact hkb e he;rw [ξ.1 he];unfold YR;rw [hgy];simpa using h24⟩,by show x.pl.length - (k+1)<x.pl.length - k;omega,A1 hF [910,40,50,51] Z (Z) ⟨Z,Z,Z,Z,Z,trivial⟩⟩
 ·refine BF (AC (AC ?_));have hp0:x.pl.any (YR N)=false:=by rw [List.any_eq_false];intro e he;have e1:k=x.pl.length:=(by have h:=h13;omega);rw [e1,ωs] at hkb;rw [hkb e he];simp
  refine AE ?_;refine goMv Z Z (J (DO Z Z) (J (CS Z Fe Z Z Z) (J (CS Z FH Z Z Z) (J (Dv (f:=40) Z Z (hxb) Z BH Z) (J (Zcv Z Z) (V (E1 hc2 Z [910,40,50,51] ⟨Z,Z,Z,Z,trivial⟩ Z Z Z Z Z Z Z Z Z) (AD (KN Z (fun h32=>?_) (fun h32=>?_)))))))))
  ·refine AC (AE (AB Z Z (AD (A8 ?_))));exact ⟨_,[40,50,51],_,A6 Z,Z,Z,by rw [al_af hp0 (by simpa using h32)],Z⟩
  ·refine A3 (AC (AE ?_));refine goMv Z Z (J (DO Z Z) (J (CS Z Jt Z Z Z) (J (Dv (f:=40) Z Z (hxb) Z Vh Z) (V (E1 hc3 Z [40] ⟨Z,trivial⟩ Z Z Z Z Z Z Z Z Z) (J (OC Z Z) (AB Z Z (AD (A8 ?_))))))));exact ⟨_,[40,50,51],_,A6 Z,Z,Z,by rw [al_ef hp0 (by simpa using h32)],Z⟩
abbrev HG (wb mv:Nat) (bs:Option (List Nat×Nat)) (L:List (Int×Value)) (M:MF):Hp:=(920,[.blk 171 [.d (pD wb 0)]])::HW mv bs L M
theorem bP {wb mv:Nat} {nb pb:Nat ->Nat} {N:Net} {M:MF} (bs:Option (List Nat×Nat)) (h:CB wb mv nb pb N M) (hw:NetW N) {i:Nat} {x:Nd} (hx:N.nd[i]? =some x):
  AM Tryz.prog 98 [.d (pD (nb i) 0),.ptr 920 0 0] (HG wb mv bs (Fh nb (BT N)) M) fun r H'=>r= .d (Ai (x.on && Dt N x))∧H'=HG wb mv bs (Fh nb (BT N)) M:=by
 have hxb:=h.n i x hx;have hal:=alone_c bs h hw hx
 obtain ⟨L,hL⟩:∃L,Fh nb (BT N)=L:=⟨_,Z⟩
 rw [hL] at hal⊢;refine BB Tryz.func98 Z Z Tryz.ntmps98 Z Z Z fun F hF=>(AC (AE (AB Z Z ?_)));refine AD (AC (AE (goMv Z Z (J (DO Z Z) (J (CS Z E7 Z Z Z) (J (Dv (f:=40) Z Z (hxb) Z on4 Z) (goMv Z Z (J4 8 Z (fun h8=>?_) (fun h8=>?_)))))))))
 ·refine Aj Z Z Z ?_;refine J (A9 Z Z Z Vk Z) (Aj Z Z Z (goMv Z Z (Aj Z Z Z (V (E1 hal Z [40,50,51] ⟨Z,Z,Z,trivial⟩ Z Z Z Z Z Z Z Z Z) (J (FO Z Z Z Z) (AB Z Z (AD (A8 ?_))))))));exact ⟨_,[920,40,50,51],_,A6 Z,Z,Z,by rcases Bool.eq_false_or_eq_true x.on with e | e<;>rw [e] at h8⊢<;>first | rfl | (simp at h8),rfl⟩
 ·refine Aa Z Z Z Z (Aa Z Z Z Z (Aa Z Z Z Z (J (Da Z Z Z Z) (AB Z Z (AD (A8 ?_))))));exact ⟨_,[920,40,50,51],_,A6 Z,Z,Z,by rcases Bool.eq_false_or_eq_true x.on with e | e<;>rw [e] at h8⊢<;>first | rfl | (simp at h8),rfl⟩
def NO (N:Net) (i:Nat):Bool:=(N.nd.getD i Bl).on && Dt N (N.nd.getD i Bl)
theorem idxG_c {wb mv:Nat} {nb pb:Nat ->Nat} {N:Net} {M:MF} (bs:Option (List Nat×Nat)) (h:CB wb mv nb pb N M) (hw:NetW N):
  AM Tryz.prog 97 [.d (hdr N.nh N.nd.length),.fn 98 [.ptr 920 0 0]] (HG wb mv bs (Fh nb (BT N)) M) fun r H'=>r= .d (AF (Nz (NO N) (List.range N.nd.length)))∧H'=HG wb mv bs (Fh nb (BT N)) M:=by
 have hnr:BJ M N.nh Zk 1 ((List.range N.nd.length).map fun i=>BK (nb i)):=h.rs.1 .n;have hz:N.nh=none ->N.nd.length=0:=fun e=>by have h1:=T8 hnr e;rw [ωg] at h1;exact h1
 have hnl:=hw.n.1;have hgr:=fun i x hx=>bP (i:=i) (x:=x) bs h hw hx
 obtain ⟨L,hL⟩:∃L,Fh nb (BT N)=L:=⟨_,Z⟩
 rw [hL] at hgr⊢;refine BB Tryz.func97 Z Z Tryz.ntmps97 Z Z Z fun F hF=>(AC (AE (AB Z Z (AD ?_))));refine AC (AC (AE (goMv Z Z (J (VC hz Z Tryz.underlying175 Z) (goMv Z Z (AD (A5 (B7 (α:=Nat) (fun k=>⟨19,[(0,.d (hdr N.nh N.nd.length)),(1,.fn 98 [.ptr 920 0 0]),(7,(.d (AF (N.nd.length:Int)))),(8,(.d (AF (k:Int))))],HG wb mv bs L M⟩) (fun k=>k≤N.nd.length∧∀x∈(List.range N.nd.length).take k,NO N x=false) (fun k=>N.nd.length - k) (0) (⟨ς _,by simp⟩) (A1 hF [920,40,50,51] Z Z ⟨Z,Z,Z,Z,trivial⟩) ?_))))))));rintro k ⟨hk0,hk⟩;refine AC (AE (J (BR Z Z Z) (AD (AC (Ae Z (fun h9=>?_) (fun h9=>?_))))))
 ·have hk1:k<N.nd.length:=Bf h9;refine A3 (AC (A5 (AC ?_)));have hkt:k<(List.range N.nd.length).length:=by rw [ωg];exact hk1
  obtain ⟨rb,rc,hre⟩:=Ti hnr hkt;have hrow:=Qk hnr hre
  obtain ⟨z,hz2⟩:∃z,N.nd[k]? =some z:=⟨_,ω hk1⟩
  have hal:=hgr k z hz2;have hon:NO N k=(z.on && Dt N z):=by unfold NO;rw [ϖ,hz2];rfl
  refine AE (goMv Z Z ?_);refine AB Z Z (AD (AC (AE (goMv Z Z (goMv Z Z (goMv Z Z (J (Uy hre (k) Z Z Z hk1 Tryz.underlying175 LK Z) (J (Zcs (f:=40) (e:=k) (off:=0) Z (by omega) Z (hrow) ((by rw [η,ψt hk1];rfl)) Z Mo Z) ?_))))))));refine V (YZ hal Z [920,40,50,51] ⟨Z,Z,Z,Z,trivial⟩ Z Z Z Z Z Z Z Z Z) (AD (KN Z (fun h16=>?_) (fun h16=>?_)))
  ·refine AC (AE (goMv Z Z (AB Z Z (AD (A8 ?_)))));exact ⟨_,[920,40,50,51],_,A6 Z,Z,Z,Ag (by unfold Nz;rw [Gl hkt hk (by rw [ψs,hon];simpa using h16)]),Z⟩
  ·refine A3 (AE (J (BA Z Z (AT (k+1) (by omega)) Z) (goMv Z Z (AD ?_))));exact ⟨k+1,⟨by show k+1≤_;omega,by rw [φ hkt];intro y hy;rcases υ.1 hy with hy | hy;exact hk y hy;rw [ξ.1 hy,ψs,hon];simpa using h16⟩,by show N.nd.length - (k+1)<N.nd.length - k;omega,A1 hF [920,40,50,51] Z (Z) ⟨Z,Z,Z,Z,trivial⟩⟩
 ·refine BF (AC (AE (AB Z Z (AD (A8 ?_)))));exact ⟨_,[920,40,50,51],_,A6 Z,Z,Z,Ag (by unfold Nz;rw [IW (fun x hx=>hk x (by rw [Θ (by rw [ωg];have h:=h9;omega)];exact hx))]),Z⟩
theorem onN_ers (N:Net):onN (Au N)=onN N:=funext fun i=>by unfold onN;rw [FJ];rfl
theorem X0 (N:Net):Cp (Au N)=Cp N:=funext fun e=>by unfold Cp;rw [FJ,Gq];rfl
theorem YJ (N:Net) (x:Nd):Dt (Au N) (EC x)=Dt N x:=by
 have h1:YR (Au N)=YR N:=funext fun e=>by unfold YR;rw [Hq,onN_ers];rfl
 have h2:(fun e:Nat×Int=>Py ((Au N).po.getD e.1 CV) e.2)=fun e=>Py (N.po.getD e.1 CV) e.2:=funext fun e=>by rw [Hq];rfl
 unfold Dt;rw [h1,X0];show (!(x.pl.any (YR N)) &&(!(x.it.af.any fun id=>!Cp N id) && !(x.ef.any fun e:Nat×Int=>Py ((Au N).po.getD e.1 CV) e.2)))=_;rw [h2]
theorem bQ (N:Net):NO (Au N)=NO N:=funext fun i=>by unfold NO;rw [FJ,YJ];rfl
def OV (po:List Po) (e:Nat×Int):List Po:=match po[e.1]? with
 | some y=>po.set e.1 {y with room:=y.room+e.2}
 | none=>po
theorem W4 {po:List Po} {e:Nat×Int} {y:Po} (h:po[e.1]? =some y):OV po e=po.set e.1 {y with room:=y.room+e.2}:=by unfold OV;rw [h]
theorem TY:∀(l:List (Nat×Int)) (po:List Po),(l.foldl OV po).map CR=l.foldl OV (po.map CR)
 | [],_=>rfl
 | e::l,po=>by
  rw [List.foldl_cons,List.foldl_cons,TY l]
  congr 1
  unfold OV;rw [η]
  cases po[e.1]? with
  | none=>rfl
  | some y=>show (po.set e.1 _).map CR=_;rw [List.map_set];rfl
theorem YL {ros:List A2} (hn:(ros.map A2.r).Nodup) (f:A2 ->Po):∀(D:List (AP×Int)),(D.map Prod.fst).Nodup ->(Ug (ros.map A2.r) D).foldl OV (ros.map f)=ros.map fun x=>{f x with room:=(f x).room+C6 D x.r}:=by
 intro D
 induction D using YU with
 | h0=>
  intro _;show ros.map f=_;refine ωj fun x _=>?_;show f x={f x with room:=(f x).room+0}
  rw [Int.add_zero]
 | h1 D d ih=>
  intro hD;rw [ωc,χn] at hD;have hdn:d.1∉D.map Prod.fst:=fun h=>hD.2.2 _ h _ (List.mem_singleton_self _) rfl;have ih:=ih hD.1
  by_cases hm:d.1∈ros.map A2.r
  ·rw [Uf hm,List.foldl_append,ih];obtain ⟨hj,hr⟩:=MB hm;show OV _ ((ros.map A2.r).idxOf d.1,d.2)=_;rw [W4 (y:=(fun x=>{f x with room:=(f x).room+C6 D x.r}) ros[(ros.map A2.r).idxOf d.1]) (by rw [η,ω hj];rfl)];refine QW hj hn ?_ fun x hx hne=>?_
   ·dsimp only;have h1:C6 (D++ [d]) ros[(ros.map A2.r).idxOf d.1].r=d.2:=by rw [hr];exact D2 hdn
    have h2:C6 D ros[(ros.map A2.r).idxOf d.1].r=0:=by rw [hr];exact GJ hdn
    rw [h1,h2,Int.add_zero]
   ·rw [hr] at hne;have:C6 (D++ [d]) x.r=C6 D x.r:=DI hne;rw [this]
  ·rw [QY hm,ih];refine ωj fun x hx=>?_;have:C6 (D++ [d]) x.r=C6 D x.r:=DI fun e=>hm (e▸ϱ.2 ⟨x,hx,Z⟩);rw [this]
def D8 (on:Nat ->Bool):Nat ->Bool:=fun i=>!on i
def poG (ds:List (List (AP×Int))) (on:Nat ->Bool) (x:A2):Po:=⟨x.r,x.n+GW ds (D8 on) x.r,GW ds (fun _=>true) x.r,none,negQ ds x.r,(negQ ds x.r).length⟩
def netG (ros:List A2) (its:List AK) (on:Nat ->Bool):Net:=⟨(List.range its.length).map (Qi (ros.map A2.r) its on),ros.map (poG (its.map AR) on),none,none⟩
theorem Wr (ds:List (List (AP×Int))) (r:AP):GW ds (D8 fun _=>true) r=0:=by
 unfold GW D8
 generalize List.range ds.length=l
 induction l with
 | nil=>rfl
 | cons a l ih=>rw [ωm,φb,ih];rfl
theorem aS (ros:List A2) (its:List AK):netG ros its (fun _=>true)=netS ros its fun _=>true:=by
 unfold netG netS
 congr 1
 refine ωj fun x _=>?_;unfold poG poS;rw [Wr,Int.add_zero,WA]
theorem sumS_on {ds:List (List (AP×Int))} {i:Nat} (h:i<ds.length) {on:Nat ->Bool} (ho:on i=true) (r:AP):GW ds (D8 (Ac on i)) r=GW ds (D8 on) r+C6 (ds.getD i []) r:=by
 obtain ⟨B,h1,h3⟩:=IM h;unfold GW;rw [h1,ωc,ωc,ωm,ωm,χa,χa,φb,φb]
 have e1:(List.range i).map (fun j=>if D8 (Ac on i) j=true then C6 (ds.getD j []) r else 0)=(List.range i).map fun j=>if D8 on j=true then C6 (ds.getD j []) r else 0:=ωj fun j hj=>by
  unfold D8;rw [Zct (by have:=Ξ.1 hj;omega)]
 have e2:B.map (fun j=>if D8 (Ac on i) j=true then C6 (ds.getD j []) r else 0)=B.map fun j=>if D8 on j=true then C6 (ds.getD j []) r else 0:=ωj fun j hj=>by
  unfold D8;rw [Zct (by have:=h3 j hj;omega)]
 have e3:(if D8 (Ac on i) i=true then C6 (ds.getD i []) r else 0)=C6 (ds.getD i []) r:=by unfold D8;rw [GC];rfl
 have e4:(if D8 on i=true then C6 (ds.getD i []) r else 0)=0:=by unfold D8;rw [ho];rfl
 rw [e1,e2,e3,e4];omega
def grN (N:Net) (i:Nat) (x:Nd):Net:={N with nd:=N.nd.set i (EM x),po:=x.ef.foldl OV N.po}
theorem gr_S {ros:List A2} {its:List AK} (hn:(ros.map A2.r).Nodup) {on:Nat ->Bool} {N:Net} (h:Au N=netG ros its on) {i:Nat} (hi:i<its.length) (ho:on i=true) {x:Nd} (hx:N.nd[i]? =some x):Au (grN N i x)=netG ros its (Ac on i):=by
 have hnd:N.nd.map EC=(List.range its.length).map (Qi (ros.map A2.r) its on):=Γ Net.nd h;have hpo:N.po.map CR=ros.map (poG (its.map AR) on):=Γ Net.po h
 have hxe:EC x=Qi (ros.map A2.r) its on i:=by
  have h1:(N.nd.map EC)[i]? =some (EC x):=by rw [η,hx];rfl
  rw [hnd,η,ψt hi] at h1;exact (Option.some.inj h1).symm
 have hef:x.ef=Ug (ros.map A2.r) (AR (its.getD i A0)):=Γ Nd.ef hxe;have hdi:i<(its.map AR).length:=by simpa using hi
 have hgi:(its.map AR).getD i []=AR (its.getD i A0):=by rw [CY [] hdi,CY A0 hi,ωd]
 unfold Au grN netG;dsimp only
 congr 1
 ·rw [List.map_set,hnd]
  have:EC (EM x)=Qi (ros.map A2.r) its (Ac on i) i:=by
   have h1:EC (EM x)=EM (EC x):=rfl;rw [h1,hxe];unfold Qi EM Ac;rw [θ rfl]
  rw [this];refine χq fun j=>?_;rw [χo]
  by_cases e:i=j
  ·subst e;rw [θ Z,θ (by simpa using hi),η,ψt hi];rfl
  ·rw [ϑ e,η,η]
   cases hj:(List.range its.length)[j]? with
   | none=>rfl
   | some z=>
    have hz:=χ.1 hj;have:z=j:=by have:=hz.2;simp at this;exact this.symm
    subst this;show some _=some _;unfold Qi Ac;rw [ϑ (fun h=>e h.symm)]
 ·rw [TY,hpo,hef,YL hn _ _ (DC _)];refine ωj fun z _=>?_;unfold poG;dsimp only;rw [sumS_on hdi ho,hgi,Int.add_assoc]
theorem G_q (ros:List A2) (its:List AK) (on:Nat ->Bool) (j:Nat):((netG ros its on).po.getD j CV).q=((netS ros its on).po.getD j CV).q:=by
 show ((ros.map _).getD j CV).q=((ros.map _).getD j CV).q;rw [ϖ,ϖ,η,η]
 cases ros[j]?<;>rfl
theorem G_w {ros:List A2} {its:List AK} (h:SmO ros its) (on:Nat ->Bool):NetW (netG ros its on):=by
 have hS:=S_w h on
 have hq:∀y∈(netG ros its on).po,y.q.length≤30∧y.mi≤30∧ -1000000000000000000≤y.room∧y.room≤1000000000000000000:=fun y hy=>by
  obtain ⟨x,hx,e⟩:=ϱ.1 hy;subst e;have h1:=J7 (its.map AR) x.r;rw [ψ] at h1;have hl:=h.l;have h2:=S_sum h (D8 on) x.r;have h3:=h.n x hx;refine ⟨by show (negQ _ _).length≤_;omega,by show (negQ _ _).length≤_;omega,?_,?_⟩
  ·show _≤x.n+GW (its.map AR) (D8 on) x.r;omega
  ·show x.n+GW (its.map AR) (D8 on) x.r≤_;omega
 refine ⟨hS.i,hS.a,hS.l,hS.e,fun x hx e he=>?_,fun y hy=>?_,fun y hy=>(hq y hy).2.2,?_,fun y hy=>?_⟩
 ·rw [G_q];exact hS.p x hx e he
 ·have:=hq y hy;omega
 ·have h1:=hS.n;have h2:(netG ros its on).po.length=(netS ros its on).po.length:=by unfold netG netS;simp
  rw [h2];exact h1
 ·have:=hq y hy;omega
theorem G_nd_at {ros:List A2} {its:List AK} {on:Nat ->Bool} {N:Net} (h:Au N=netG ros its on) {i:Nat} {x:Nd} (hx:N.nd[i]? =some x):i<its.length∧x.on=on i∧x.it=its.getD i A0:=by
 have h1:(N.nd.map EC)[i]? =some (EC x):=by rw [η,hx];rfl
 rw [show N.nd.map EC=(List.range its.length).map (Qi (ros.map A2.r) its on) from Γ Net.nd h] at h1;have hi:i<its.length:=by have:=(χ.1 h1).1;simpa using this
 rw [η,ψt hi] at h1;have h2:EC x=Qi (ros.map A2.r) its on i:=(Option.some.inj h1).symm;exact ⟨hi,Γ Nd.on h2,Γ Nd.it h2⟩
theorem G_len {ros:List A2} {its:List AK} {on:Nat ->Bool} {N:Net} (h:Au N=netG ros its on):N.nd.length=its.length:=by
 have h1:=Γ (fun N=>N.nd.length) h;have h2:(N.nd.map EC).length=((List.range its.length).map _).length:=h1
 rwa [ψ,ψ,ωg] at h2
theorem G_ids {ros:List A2} {its:List AK} {on:Nat ->Bool} {N:Net} (h:Au N=netG ros its on):BT N=its.map AK.id:=by
 rw [←Gq,h];exact T9 ros its on
def H7 (ros:List A2) (its:List AK) (on:Nat ->Bool):Option Nat:=(List.range its.length).findIdx? (NO (netG ros its on))
def Lb (ros:List A2) (its:List AK):Nat ->(Nat ->Bool) ->List Int
 | 0,_=> []
 | f+1,on=>match H7 ros its on with
  | none=> []
  | some i=>(its.getD i A0).id::Lb ros its f (Ac on i)
def Bp (p:Prb):List Int:=Lb (Co p) (ordP p) (ordP p).length fun _=>true
theorem Mt {ros:List A2} {its:List AK} {on:Nat ->Bool} {i:Nat} (h:H7 ros its on=some i):i<its.length∧on i=true∧NO (netG ros its on) i=true:=by
 unfold H7 at h;rw [List.findIdx?_eq_some_iff_getElem] at h;obtain ⟨hi,h1,_⟩:=h;rw [ωg] at hi;rw [ψs] at h1;refine ⟨hi,?_,h1⟩;unfold NO at h1
 have h2:(netG ros its on).nd.getD i Bl=Qi (ros.map A2.r) its on i:=by
  show ((List.range its.length).map _).getD i Bl=_;rw [CY Bl (by simpa using hi),ωd,ψs]
 rw [h2] at h1;exact (Bool.and_eq_true_iff.1 h1).1
theorem IL {ros:List A2} {its:List AK} {f:Nat} {on:Nat ->Bool} (h:H7 ros its on=none):Lb ros its f on=[]:=by
 cases f with
 | zero=>rfl
 | succ f=>unfold Lb;rw [h]
theorem IK {ros:List A2} {its:List AK} {f:Nat} {on:Nat ->Bool} {i:Nat} (h:H7 ros its on=some i):Lb ros its (f+1) on=(its.getD i A0).id::Lb ros its f (Ac on i):=by
 show (match H7 ros its on with | none=>_ | some i=>_)=_;rw [h]
def Oj (po:List Po) (b:Int):Prop:=∀y∈po,-b≤y.room∧y.room≤b
theorem XK {po:List Po} {b c:Int} (h:Oj po b) (hbc:b≤c) {j:Nat} {y:Po} (hy: -c≤y.room∧y.room≤c):Oj (po.set j y) c:=fun z hz=>by
 rcases χe hz with hz | rfl
 ·have:=h z hz;omega
 ·exact hy
set_option maxHeartbeats 2000000 in
theorem S6 (p:Prb) (hf:Ed p) (hE:Al p=0):AO Tryz.prog 43 [.d (Bs p)] (.tup [.sl none ((Bp p).map AF),AF 0]):=by
 have hbu:=TO p hf hE;have hsm:=sml_P hf hE;unfold Bp;rw [aQ,←aS] at hbu
 obtain ⟨its,hits⟩:∃its,ordP p=its:=⟨_,Z⟩
 obtain ⟨ros,hros⟩:∃ros,Co p=ros:=⟨_,Z⟩
 rw [hits,hros] at hbu hsm⊢;have hl:=hsm.l;refine BB Tryz.func43 Z Z Tryz.ntmps43 Z Z Z fun F hF=>?_;refine AC (AE (V (Bz 1 Z Z Z Z Z Z Z) (AB Z Z (AB Z Z (AD (AC (AE (J (BM Z Z BW Z Z Z) ?_))))))));refine CP (Ux hbu Z [40,50,51] ⟨Z,Z,Z,trivial⟩ Z Z Z Z (fun r H' ⟨_,_,_,_,_,_,_,e1,e2,_⟩=>by subst e1 e2;exact ⟨Z,Z,Z⟩) Z) Z ?_;rintro _ ⟨r,H',⟨wb,mv,nb,pb,N,M,bs,rfl,rfl,hR,hN⟩,rfl⟩;refine goMv Z Z (J (DD Z Z Z) (J (DD Z Z Z) (V (CF 920 zl171 Z Z Z Z) (V (Bi Z Z Z Z Z Z Z sz171) (AB Z Z (AD ?_))))));refine AC (AC (AE (goMv Z Z (J (D6 Z Z Z) (AD (D9 Z (Z) (A3 (AC ?_))))))));rw [G_ids hN];refine AE (AB Z Z (AD (A5 (OD 6 900 B5 Z Z Z Z (B7 (α:=(Nat ->Bool)×Net×MF×List Int×Nat) (fun q=>⟨66,[(4,(.ptr 920 0 0)),(6,(.own 900 0 q.2.2.2.1.length))],(900,[.rowD 3 1 (q.2.2.2.1.map AF)])::HG wb mv bs (Fh nb (its.map AK.id)) q.2.2.1⟩) (fun q=>CB wb mv nb pb q.2.1 q.2.2.1∧Au q.2.1=netG ros its q.1∧EQ its.length q.1≤q.2.2.2.2∧q.2.2.2.1.length+q.2.2.2.2≤its.length∧q.2.2.2.1++Lb ros its q.2.2.2.2 q.1=Lb ros its its.length fun _=>true) (fun q=>q.2.2.2.2) ((fun _=>true,N,M,[],its.length)) (⟨hR,hN,cC _ _,by simp,Z⟩) (A1 hF [900,920,40,50,51] Z Z ⟨Z,Z,trivial⟩) ?_)))));rintro ⟨on,N,M,acc,f⟩ ⟨hR,hN,hc,hal,hr1⟩;dsimp only at hR hN hc hal hr1⊢;refine A5 (AC ?_);have hw:=W_ers (N:=N) (by rw [hN];exact G_w hsm on);have hwb:=hR.w;have hnr:BJ M N.nh Zk 1 ((List.range N.nd.length).map fun i=>BK (nb i)):=hR.rs.1 .n;have hix:=idxG_c bs hR hw;have hNl:=G_len hN;have hixv:Nz (NO N) (List.range N.nd.length)=match H7 ros its on with | some k=>(k:Int) | none=> -1:=by rw [←bQ,hN,G_len hN];rfl
 rw [G_ids hN,hixv] at hix;refine AE (J (A9 Z Z Z Vk Z) (J (DO Z Z) (J (CS Z IX Z Z Z) (J (Dv (f:=40) Z Z (hwb) Z GG Z) (J (Zcv Z Z) ?_)))))
 cases hne:H7 ros its on<;>rw [hne] at hix
 ·refine V (E1 hix Z [920,40,50,51] ⟨Z,Z,Z,Z,trivial⟩ Z Z Z Z Z Z Z Z Z) (AB Z Z ?_);refine AD (AC (AC (AE (goMv Z Z (J (BR Z Z Z) (AD (DP Z (Z) (AC ?_))))))));rw [IL hne,ωk] at hr1;refine L4 (emb:=AF) 6 900 acc Z Z Z Z Z Z Z (AE (goMv Z Z (AB Z Z (AB Z Z (AD (A8 ?_))))));exact ⟨_,[],[],A6 Z,Z,Z,by rw [hr1],Z⟩
 ·refine V (E1 hix Z [920,40,50,51] ⟨Z,Z,Z,Z,trivial⟩ Z Z Z Z Z Z Z Z Z) (AB Z Z (AD ?_));refine AC (AC (AE (goMv Z Z (J (BR Z Z Z) (AD (D9 Z ((ωp (by show ¬((_:Nat):Int)<0;omega))) (A3 (AC ?_))))))))
  rename_i i
  obtain ⟨hiN,hoi,hgr⟩:=Mt hne;have hil2:i<N.nd.length:=by rw [hNl];exact hiN
  obtain ⟨x,hx⟩:∃x,N.nd[i]? =some x:=⟨_,ω hil2⟩
  obtain ⟨_,hon,hit⟩:=G_nd_at hN hx;obtain ⟨rb,rc,hre⟩:=Ti hnr (j:=i) (by rw [ωg];exact hil2);have hrow:=Qk hnr hre;have hcn:=LD hiN hoi
  obtain ⟨f2,rfl⟩:∃f2,f=f2+1:=⟨f - 1,by omega⟩
  have hrs:=IK (f:=f2) hne;have hxm:=ζ hx;have hxb:=(hR.nn i x hx).1;have hez:=T8 (hR.nn i x hx).2.1;have hrx:=(hR.nn i x hx).2.1;have hxe:=hR.e x hxm;have h1:=hR.setNd (x':=EM x) hx Z Z Z Z;have hx1:(N.nd.set i (EM x))[i]? =some (EM x):=by rw [List.getElem?_set_self hil2]
  have he:=hw.e x hxm;have hel:=(hw.l x hxm).1;have hrB:Oj N.po 1000000000000000000:=hw.rm;refine AE (J (A9 Z Z Z Vk Z) (J (DO Z Z) (J (CS Z IX Z Z Z) (J (Dv (f:=40) Z Z (hwb) Z GG Z) (goMv Z Z (J (Uy hre (i) Z Z Z hil2 Tryz.underlying175 LK Z) (J (Zcs (f:=40) (e:=i) (off:=0) Z (by omega) Z (hrow) ((by rw [η,ψt hil2];rfl)) Z Mo Z) ?_)))))));refine AB Z Z (AD (AC ?_));refine AE (goMv Z Z (J (DO Z Z) (J (CS Z E7 Z Z Z) (V (OX (f:=40) Z Z Z Z (hxb) ((by show _<9;omega)) Z sz4) (AD (AC (AC (AE ?_))))))));refine goMv Z Z (J (DO Z Z) (J (CS Z Jt Z Z Z) (J (Dv (f:=40) Z Z ((E2 _ _ _)) Z Vh Z) (J (VC hez Z Tryz.underlying181 Z) (goMv Z Z (AD (A5 (B7 (α:=Nat×List Po×MF) (fun q=>⟨66,[(4,(.ptr 920 0 0)),(6,(.own 900 0 acc.length)),(8,(.d (pD (nb i) 0))),(41,(.d (hdr x.eh x.ef.length))),(42,(.d (AF (x.ef.length:Int)))),(43,(.d (AF (q.1:Int))))],(900,[.rowD 3 1 (acc.map AF)])::HG wb mv bs (Fh nb (its.map AK.id)) q.2.2⟩) (fun q=>q.1≤x.ef.length∧q.2.1=(x.ef.take q.1).foldl OV N.po∧CB wb mv nb pb {N with nd:=N.nd.set i (EM x),po:=q.2.1} q.2.2∧Oj q.2.1 (1000000000000000000+100000000000000000*(q.1:Int))∧q.2.1.length=N.po.length) (fun q=>x.ef.length - q.1) ((0,N.po,BQ M (nb i) (Tg (EM x)))) (⟨ς _,Z,h1,by show Oj N.po (1000000000000000000+100000000000000000*((0:Nat):Int));simpa using hrB,Z⟩) (A1 hF [900,920,40,50,51] Z Z ⟨Z,Z,Z,Z,Z,Z,trivial⟩) ?_))))))));rintro ⟨k,po,M2⟩ ⟨hk0,hpo,hR2',hS,hpol⟩;dsimp only at hk0 hpo hR2' hS hpol⊢;refine AC (AE (J (BR Z Z Z) (AD (AC (Ae Z (fun h44=>?_) (fun h44=>?_))))))
  ·have hk1:k<x.ef.length:=Bf h44;refine A3 (AC (A5 (AC ?_)));obtain ⟨eb,ec,hee⟩:=Ti hrx hk1;have hrow2:=Qk (hR2'.nn i (EM x) hx1).2.1 hee;have hjl:x.ef[k].1<po.length:=by rw [hpol];exact hxe.1 _ (κ hk1)
   obtain ⟨y,hy⟩:∃y,po[x.ef[k].1]? =some y:=⟨_,ω hjl⟩
   have hyb:=hR2'.p _ y hy;have hys:=hS y (ζ hy);have heb:=he _ (κ hk1);refine AE ?_;refine J (Uy hee (k) Z Z Z hk1 Tryz.underlying181 RC Z) (J (Db (f:=40) (e:=k) Z (Z) Z (hrow2) (Ah hk1) Z ZZ Z) (V (CF 2 Y5 Z Z Z Z) (V (Bi Z Z Z Z Z Z Z RC) (AD (Ch [[],[0],[0,1],[0,1,2],[0,1,2,3],[],[5],[0,1,2,3,4,5,6],[0,1,2,3,4,5,6,7],[0,1,2,3,4,5,6,7,8],[0,1,2,3,4,5,6,7,8,9]] mixed Z (Cq (AJ [10] [] Z Z (fun _=>AG (A4 Z QU Z Z Z)) (AJ [47] [2] Z Z (fun _=>AG (A9 Z Z Z EX Z)) ?_))))))));refine AJ [48] [] Z Z (fun _=>AG (DO Z Z)) (AJ [49] [] Z Z (fun _=>AG (CS Z QS Z Z Z)) (AJ [50] [40] Z Z (fun _=>AG (Dv (f:=40) Z Z (hyb) Z Ke Z)) (AJ [10] [] Z Z (fun _=>AG (A4 Z QT Z Z Z)) (AJ [52] [2] Z Z (fun _=>AG (A9 Z Z Z Ke Z)) (C5 7 Z Z Z (Af 8 Z Z (J (BA Z Z (Ω _ (by omega)) Z) (AD ⟨Z,?_⟩))))))));refine Af 9 Z Z (J (DO Z Z) (AD ⟨Z,?_⟩));refine Af 10 Z Z (J (CS Z QS Z Z Z) (AD ⟨Z,?_⟩));refine Af 11 Z Z (V (OX (f:=40) Z Z Z Z (hyb) ((by show _<10;omega)) Z sz2) (AD ⟨Z,?_⟩));refine C9 (AE (J (BA Z Z (AT (k+1) (by omega)) Z) (goMv Z Z (AD ?_))));exact ⟨(k+1,po.set x.ef[k].1 {y with room:=y.room+x.ef[k].2},BQ M2 (pb x.ef[k].1) (Te {y with room:=y.room+x.ef[k].2})),⟨by show k+1≤_;omega,by show po.set _ _=_;rw [Kr hk1,←hpo,W4 hy],hR2'.setPo hy Z Z,by show Oj _ (1000000000000000000+100000000000000000*((k+1:Nat):Int));exact XK hS (by omega) (by show _≤y.room+x.ef[k].2∧y.room+x.ef[k].2≤_;omega),by show (po.set _ _).length=_;rw [ψd];exact hpol⟩,by show x.ef.length - (k+1)<x.ef.length - k;omega,A1 hF [900,920,40,50,51] Z (Z) ⟨Z,Z,Z,Z,Z,Z,trivial⟩⟩
  ·refine BF ?_;have hpo1:po=x.ef.foldl OV N.po:=by rw [hpo,Θ (by have h:=h44;omega)]
   have hR2:CB wb mv nb pb (grN N i x) M2:=by unfold grN;rw [←hpo1];exact hR2'
   have hxb1:=(hR2'.nn i (EM x) hx1).1;refine AE (goMv Z Z ?_);refine goMv Z Z (J (DO Z Z) (J (CS Z Fe Z Z Z) (J (CS Z OB Z Z Z) (J (Dv (f:=40) Z Z (hxb1) Z Aq Z) (V (D7 3 B5 Z Z Z Z Z Z Z Z) (V (Hz (acc) ([x.it.id]) Z Z Z Z Z Z Z Z B5 (by simp only [Φ];omega) Z Z Z Z) (AB Z Z (AD ?_))))))));exact ⟨(Ac on i,grN N i x,M2,acc++ [x.it.id],f2),⟨hR2,gr_S hsm.r hN hiN hoi hx,by show EQ its.length (Ac on i)≤f2;omega,by show (acc++ [x.it.id]).length+f2≤_;rw [Δ];simp;omega,by show (acc++ [x.it.id])++Lb ros its f2 (Ac on i)=_;rw [ψl,←hr1,hrs,hit];rfl⟩,by show f2<f2+1;omega,A1 hF [900,920,40,50,51] Z (Z) ⟨Z,Z,trivial⟩⟩
def T0 (a:List UInt8):Tc:=⟨a,0,[67,65,83,72]⟩
def OL (id:Int) (a b:List UInt8) (n:Int):AK:=⟨id,0,id,[⟨T0 a,0 - n⟩,⟨T0 b,n⟩],[],[]⟩
deriving instance DecidableEq for Nw
theorem Nw.eq_iff {x y:Nw}:x=y↔x.id=y.id∧x.re=y.re∧x.r=y.r∧x.by_=y.by_:=by cases x;cases y;simp
def rcK (a:UInt8):AP:=⟨0,T0 [a],[],[]⟩
def nmK:List (List UInt8):=[[65],[66],[67]]
def Ps:List A2:=[⟨rcK 65,0⟩,⟨rcK 66,0⟩,⟨rcK 67,0⟩]
theorem ers_S (ros:List A2) (its:List AK) (on:Nat ->Bool):Au (netS ros its on)=netS ros its on:=by
 unfold Au netS;dsimp only;rw [ωu,ωu]
 rfl
theorem Xx (n:Nat):EQ n (fun _=>true)=n:=by
 unfold EQ;rw [List.filter_eq_self.2 fun _ _=>rfl,ωg]
theorem run_len {ros:List A2} {its:List AK} (hi:(its.map AK.id).Nodup):∀(f:Nat) (on:Nat ->Bool),(FU ros its f on).1.length+EQ its.length (FU ros its f on).2=EQ its.length on:=by
 intro f
 induction f with
 | zero=>intro on;show 0+_=_;rw [ψq];rfl
 | succ f ih=>
  intro on
  cases hn:FD (netS ros its on) with
  | none=>rw [RX hn];show 0+_=_;rw [ψq]
  | some e=>
   obtain ⟨i,x,hx,hon,hid⟩:=Vu hn;obtain ⟨hiN,hoi,hit⟩:=Qe (ers_S ros its on) hx;rw [hon] at hoi;have hil:i<(its.map AK.id).length:=by rw [ψ];exact hiN
   have hei:(its.map AK.id)[i]=e.id:=by rw [hid,hit,ωd,CY A0 hiN]
   rw [RW hn,←hei,PQ hi hil];have h1:=ih (Ac on i);have h2:=LD hiN hoi.symm;show (FU ros its f (Ac on i)).1.length+1+EQ its.length (FU ros its f (Ac on i)).2=EQ its.length on;omega
theorem Xd (p:Prb):(largeS p).length=EQ (ordP p).length (LX p).2:=by
 unfold largeS EL EQ;rw [ψ]
theorem b6 {p:Prb} (hE:Al p=0):(LX p).1.length+(largeS p).length=p.it.length:=by
 have h1:ordP p=Ay p.it:=θ hE;have h:=run_len (ros:=Co p) (F6 hE) (ordP p).length fun _=>true;rw [Xx] at h;rw [Xd];unfold LX;rw [h,h1,YN]
theorem Jc {p:Prb} (hE:Al p=0):largeS p=((ordP p).map AK.id).filter fun x=>decide (x∈largeS p):=Pz (F6 hE) _
theorem Xc {p:Prb} (hE:Al p=0) {y:Int} (hy:y∈largeS p):y∈p.it.map AK.id:=by
 have h1:ordP p=Ay p.it:=θ hE;rw [Jc hE,h1] at hy;exact ((YV p.it).map AK.id).mem_iff.1 (ωb.1 hy).1
theorem Fb {p:Prb} (hE:Al p=0):(largeS p).Nodup:=by
 rw [Jc hE];exact (F6 hE).sublist ψu
theorem IS {p:Prb} (hE:Al p=0):(largeS p).length≤p.it.length:=by have:=b6 hE;omega
structure Qh (R:Int ->Int ->Prop) (l Y:List A2):Prop where
 len:Y.length=l.length
 at_:∀(j:Nat) x y,l[j]? =some x ->Y[j]? =some y ->y.r=x.r∧ -4*Mx≤y.n∧y.n≤4*Mx∧R x.n y.n
theorem Qh.set {R:Int ->Int ->Prop} {l Y:List A2} (h:Qh R l Y) {k:Nat} (hk:k<Y.length) {n:Int} (h1: -4*Mx≤n∧n≤4*Mx) (h2:∀x,R x Y[k].n ->R x n):Qh R l (Y.set k ⟨Y[k].r,n⟩):=
 ⟨by rw [ψd];exact h.len,fun j x y hx hy=>by
  rw [χo] at hy
  split at hy
  ·rename_i e;subst e
   first | (rw [θ hk] at hy;injection hy with hy;subst hy) | (injection hy with hy;subst hy)
   have:=h.at_ k x _ hx (ω hk);exact ⟨this.1,h1.1,h1.2,h2 _ this.2.2.2⟩
  ·exact h.at_ j x y hx hy⟩
theorem Qh.map {R:Int ->Int ->Prop} {l Y:List A2} (h:Qh R l Y):Y.map A2.r=l.map A2.r:=by
 refine χc (by rw [ψ,ψ,h.len]) fun j h1 h2=>?_;rw [ψ] at h1 h2;rw [ωd,ωd];exact (h.at_ j _ _ (ω h2) (ω h1)).1
theorem Qh.mem {R:Int ->Int ->Prop} {l Y:List A2} (h:Qh R l Y):∀y∈Y,∃x∈l,y.r=x.r∧ -4*Mx≤y.n∧y.n≤4*Mx∧R x.n y.n:=fun y hy=>by
 obtain ⟨j,hj,rfl⟩:=χb.1 hy;have hj':j<l.length:=by rw [←h.len];exact hj
 exact ⟨l[j],κ hj',h.at_ j _ _ (ω hj') (ω hj)⟩
theorem mx_v:Mx=1000000000000000:=rfl
theorem Qh.b {R:Int ->Int ->Prop} {l Y:List A2} (h:Qh R l Y) {k:Nat} (hk:k<Y.length): -4000000000000000≤Y[k].n∧Y[k].n≤4000000000000000:=by
 obtain ⟨x,_,_,h2,h3,_⟩:=h.mem _ (κ hk);rw [mx_v] at h2 h3;exact ⟨by omega,by omega⟩
section
variable {P:Program} {F:Fr} {s:AS} {d:Nat} {ty:TypeId} {pos:String} {aft:Array Edge} {g:Option (Nat×Bool)} {at_:Array TypeId}
end
def allL (p:Prb):List Int:=(Ay p.it).map AK.id
def wthI (id:Int) (y:AK):AK:=⟨y.id,y.pr,y.sq,y.po,y.pa,VH y.af id⟩
def V4 (id:Int) (its:List AK):List AK:=(its.filter fun y=>decide (y.id≠id)).map (wthI id)
def set1 (p:Prb) (id:Int):Prb:=⟨p.ro.map fun x=>⟨x.r,x.n+Cg (Bm p id) x.r⟩,V4 id p.it⟩
theorem XD (id:Int) (its:List AK):(V4 id its).length≤its.length:=by
 unfold V4;rw [ψ];exact ωh _ _
structure Mid (p:Prb) (b:Int):Prop where
 f:Ed p
 r:(p.ro.map A2.r).Nodup
 n:∀x∈p.ro,-b≤x.n∧x.n≤b
theorem Mid.set {p:Prb} {b:Int} (h:Mid p b) (id:Int):Mid (set1 p id) (b+1000000000000000):=by
 refine ⟨⟨?_,?_,fun x hx=>?_⟩,?_,fun x hx=>?_⟩
 ·have:=XD id p.it;have h1:=h.f.i;show (V4 id p.it).length≤30;omega
 ·show (p.ro.map _).length≤100;rw [ψ];exact h.f.r
 ·obtain ⟨y,hy,rfl⟩:=ϱ.1 hx;have h1:=h.f.x y (ωb.1 hy).1;exact ⟨h1.1,h1.2.1,ωe (ωh _ _) h1.2.2⟩
 ·show ((p.ro.map _).map A2.r).Nodup;rw [ωu];exact h.r
 ·obtain ⟨y,hy,rfl⟩:=ϱ.1 hx;have h1:=h.n y hy;have h2:=br (Bm p id) y.r;show -(b+1000000000000000)≤y.n+Cg (Bm p id) y.r∧y.n+Cg (Bm p id) y.r≤b+1000000000000000;omega
noncomputable def grossR:Nat ->Prb ->List Int
 | 0,_=> []
 | f+1,p=>match (allL p).find? fun id=>decide (bY p [id]) with
  | none=> []
  | some id=>id::grossR f (set1 p id)
structure GI (G:List Int) (p:Prb) (acc:List Int) (f:Nat) (ag:Bool):Prop where
 m:Mid p (34000000000000000 - 1000000000000000*(f:Int))
 l:(allL p).length≤f
 a:acc.length+f≤30
 v:(ag=true ->acc++grossR f p=G)∧(ag=false ->acc=G)
def co (its:List AK) (on:Nat ->Bool) (u:List Int):Prop:=∀j,j<its.length ->(on j=true↔(its.getD j A0).id∉u)
theorem co.off {its:List AK} (hn:(its.map AK.id).Nodup) {on:Nat ->Bool} {u:List Int} (hu:co its on u) {i:Nat} (hi:i<its.length):co its (Ac on i) (u++ [(its.getD i A0).id]):=fun j hj=>by
 rw [υ,ξ,not_or]
 by_cases e:j=i
 ·subst e;rw [GC];simp
 ·rw [Zct e];exact ⟨fun h=>⟨(hu j hj).1 h,fun e2=>e (id_inj hn hj hi e2)⟩,fun h=>(hu j hj).2 h.1⟩
theorem RY {ros:List A2} {its:List AK}:∀(f:Nat) (on:Nat ->Bool),(Lb ros its f on).length≤f
 | 0,_=>ν _
 | f+1,on=>by
  cases hn:H7 ros its on with
  | none=>rw [IL hn];exact ς _
  | some i=>rw [IK hn];have:=RY (ros:=ros) (its:=its) f (Ac on i);simp;exact this
abbrev bkD (x:Int×A2):D:= .agg [AF x.1,AF x.2.r.k,Ao x.2.r.acc.o,AF x.2.r.acc.k,Ao x.2.r.acc.a,Ao x.2.r.f,Ao x.2.r.t,AF x.2.n]
noncomputable def vio1L (p:Prb) (id:Int):List A2:=L7 p (BC (cloS p [id]))
noncomputable def bkOf (p:Prb) (id:Int):Option (Int×A2):=if id∈largeS p then none else (vio1L p id).head?.map fun x=>(id,x)
noncomputable def bksL (p:Prb):List (Int×A2):=((Ay p.it).map AK.id).filterMap (bkOf p)
theorem TU {p:Prb} {id:Int} (h:id∈largeS p):bkOf p id=none:=θ h
theorem cQ {p:Prb} {id:Int} (h:¬0<(vio1L p id).length):bkOf p id=none:=by
 unfold bkOf
 split
 ·rfl
 ·rw [φg.1 (show (vio1L p id).length=0 by omega)];rfl
theorem bk_some {p:Prb} {id:Int} (h1:id∉largeS p) (h:0<(vio1L p id).length):bkOf p id=some (id,(vio1L p id)[0]):=by
 unfold bkOf;rw [ϑ h1,List.head?_eq_getElem?,ω h]
 rfl
theorem QK {α β:Type} {f:α ->Option β} {l:List α} {k:Nat} (hk:k<l.length):(l.take (k+1)).filterMap f=(l.take k).filterMap f++(f l[k]).toList:=by
 rw [φ hk,List.filterMap_append]
 cases h:f l[k] with
 | none=>simp [h]
 | some b=>simp [h]
theorem Q6 {p:Prb} (hp:Al p=0) {l:List Int} (hn:l.Nodup) (hS:∀x∈l,x∈p.it.map AK.id):D5 p l=0:=by
 unfold D5;rw [ϑ (by omega)];unfold Pq;refine YY.2 fun k hk=>?_;have hk':=Ξ.1 hk;unfold HD;rw [CY 0 hk',ϑ (fun h=>h (hS _ (κ hk'))),ϑ (Lx hn hk')]
theorem cloG_in {p:Prb} {S:List Int}:∀y∈cloS p S,y∈p.it.map AK.id:=fun y hy=>by
 unfold cloS at hy;exact (ωb.1 ((Cw _).mem_iff.1 hy)).1
theorem cloG_nd {p:Prb} (hp:Al p=0) (S:List Int):(cloS p S).Nodup:=by
 unfold cloS;exact (Cw _).nodup_iff.2 (List.Nodup.sublist ψu (Dm (C3 hp).2.1))
theorem getV {l:List A2} (h:0<l.length):(l.map Cy)[0]? =some (Cy l[0]):=Ah h
set_option maxHeartbeats 2000000 in
theorem YF (p:Prb) (hf:Ed p) (hE:Al p=0):AO Tryz.prog 31 [.d (Bs p)] (.tup [.sl none ((bksL p).map bkD),AF 0]):=by
 have hlk:=Iw p hf hE;have hi30:=hf.i;have hr100:=hf.r;have hod:=F5 p hf.b;rw [show ordP p=Ay p.it from θ hE] at hod;have hll:=IS hE;have hSl:=YN p.it;have hclo:=fun {id:Int} (hid:id∈p.it.map AK.id)=>closF_c p [id] hf.b (by simp) (by omega) (by omega) (Q6 hE (by simp) fun x hx=>by rw [ξ.1 hx];exact hid) (by simp) fun x hx=>by rw [ξ.1 hx];exact hid
 have hvio:∀id:Int,AO Tryz.prog 28 [.d (Bs p),.d (Hh (cloS p [id]))] (.tup [.sl none ((vio1L p id).map Cy),AF 0]):=fun id=>by
  have h:=violF_p p (cloS p [id]) hf.b (by have:=cI (p:=p) (l:=[id]);omega);rw [Q6 hE (cloG_nd hE _) cloG_in,θ rfl] at h;exact h
 obtain ⟨L,hL⟩:∃L,(Ay p.it).map AK.id=L:=⟨_,Z⟩
 have hLl:L.length≤30:=by rw [←hL,ψ,hSl];omega
 have hLm:∀x∈L,x∈p.it.map AK.id:=fun x hx=>by rw [←hL] at hx;exact ((YV p.it).map AK.id).mem_iff.1 hx
 have hbe:bksL p=L.filterMap (bkOf p):=by unfold bksL;rw [hL]
 rw [hL] at hod;rw [hbe];refine BB Tryz.func31 Z Z Tryz.ntmps31 Z Z Z fun F hF=>?_;refine AC (AE (V (Bz 1 Z Z Z Z Z Z Z) (AB Z Z (AB Z Z (AD (AC (AE (J (BM Z Z BW Z Z Z) ?_))))))));refine J (B2 (hlk) Z Z) (goMv Z Z (J (DD Z Z Z) (J (DD Z Z Z) (AB Z Z (AB Z Z (AD (AC (AC ?_))))))));refine AE (goMv Z Z (J (D6 Z Z Z) (AD (D9 Z (ωp (by decide)) (A3 (AC (AE (goMv Z Z ?_))))))));refine CP (Ux (Fv (largeS p) (Fb hE) (by omega)) Z [41] ⟨Z,trivial⟩ Z Z Z Z (fun r H' ⟨b,N,e1,e2,_⟩=>by subst e1 e2;exact ⟨Z,Z,Z⟩) Z) Z ?_;rintro _ ⟨r,H',⟨b,N,e1,e2,hW⟩,rfl⟩;subst e1 e2;refine AB Z Z (AD (AC (AE (AB Z Z (AD (AC (AC ?_)))))));refine AE (J (BM Z Z BW Z Z Z) (J (B2 (hod) Z Z) (J (CO Z Tryz.underlying28 Z) (goMv Z Z (AD (A5 (OD 7 10 sl30 Z Z Z Z (B7 (α:=Nat×List (Int×A2)) (fun q=>⟨65,[(1,(.ptr 1 0 0)),(6,(.d (Wj b))),(7,(.own 10 0 q.2.length)),(25,(.d (Hh L))),(26,(.d (AF (L.length:Int)))),(27,(.d (AF (q.1:Int))))],[(1,[.blk 39 [.d (.sl none (p.ro.map Cy)),.d (.sl none (p.it.map As))]]),(41,[.multi N]),(10,[.rowD 66 8 (q.2.map bkD)])]⟩) (fun q=>q.1≤L.length∧q.2=(L.take q.1).filterMap (bkOf p)∧q.2.length≤q.1) (fun q=>L.length - q.1) ((0,[])) (⟨ς _,Z,ς _⟩) (A1 hF [1,41,10] Z Z ⟨Z,Z,Z,Z,Z,Z,trivial⟩) ?_))))))));rintro ⟨k,T⟩ ⟨hk,hT,hTl⟩;dsimp only at hk hT hTl⊢;refine AC (AE (J (BR Z Z Z) (AD (AC (Ae Z (fun h28=>?_) (fun h28=>?_))))))
 ·refine A3 (AC (A5 (AC ?_)));have hkl:k<L.length:=Bf h28;have hid:=hLm _ (κ hkl);refine AE (J (Be (k) Z Z (Z) (Ah hkl) Tryz.underlying28 Z BE Z) (J (Cr Z Z Aq Z) (AB Z Z ?_)));refine AD (AC (AC (AE (goMv Z Z (goMv Z Z (V (YZ (IF hW L[k]) Z [41] ⟨Z,trivial⟩ Z Z Z Z Z Z Z Z Z) (AD (Ae Z (fun h33=>?_) (fun h33=>?_)))))))))
  ·refine BF (AE (J (BA Z Z (AT (k+1) (by omega)) Z) (goMv Z Z (AD ?_))));exact ⟨(k+1,T),⟨hkl,by show _=(L.take (k+1)).filterMap _;rw [QK hkl,TU h33,hT];simp,by show T.length≤k+1;omega⟩,by show L.length - (k+1)<L.length - k;omega,A1 hF [1,41,10] Z (Z) ⟨Z,Z,Z,Z,Z,Z,trivial⟩⟩
  ·refine A3 (AC (AE (J (BM Z Z BW Z Z Z) (goMv Z Z (V (D7 20 B5 Z Z Z Z Z Z Z Z) ?_)))));refine Zcu (emb:=AF) 37 20 [L[k]] Z Z Z Z Z Z Z (V (E1 (hclo hid) Z [900] ⟨Z,trivial⟩ Z Z Z Z Z Z Z Z Z) (goMv Z Z (J (Ct Z Z Z) (J (Ct Z Z Z) (AB Z Z (AB Z Z (AD (AC ?_))))))));refine L4 (emb:=AF) 10 900 (cloS p [L[k]]) Z Z Z Z Z Z Z (AE (J (BM Z Z BW Z Z Z) (goMv Z Z (J (B2 (hvio L[k]) Z Z) (goMv Z Z (J (DD Z Z Z) (J (DD Z Z Z) (AB Z Z ?_))))))));refine AB Z Z (AD (AC (AE (goMv Z Z (J (I5 Z (ψ ..) Tryz.underlying69 Z) (J (MO Z Z Z) (AD (Ae Z (fun h49=>?_) (fun h49=>?_)))))))))
   ·have hv0:0<(vio1L p L[k]).length:=Bf h49;refine Ch [[],[],[],[2],[2,3],[2,3,4],[],[6],[6,7],[6,7,8],[1,2,3,4,5,6,7,8,9],[1,2,3,4,5,6,7,8,9,10],[0,1,2,3,4,5,6,7,8,9,10,11],[0,1,2,3,4,5,6,7,8,9,10,11,12]] mixed Z (Cq (AJ [7] [] Z Z (fun _=>AG (Ak Z Z)) (AJ [9] [] Z Z (fun _=>AG (Ak Z Z)) (AJ [12] [] Z Z (fun _=>AG (Ak Z Z)) (AJ [52] [] Z Z (fun _=>AG (Be (0) Z Z (Z) (getV hv0) Tryz.underlying69 Z sz73 Z)) (AJ [53] [] Z Z (fun _=>AG (Dc Z fi73_0 Z Z Z)) (AJ [54] [] Z Z (fun _=>AG (HE Z Z C7 Z)) (AJ [12] [] Z Z (fun _=>AG (Ak Z Z)) ?_))))))));refine AJ [56] [] Z Z (fun _=>AG (Be (0) Z Z (Z) (getV hv0) Tryz.underlying69 Z sz73 Z)) (AJ [57] [] Z Z (fun _=>AG (Zcf Z fi73_1 Z Z Z)) (AJ [58] [] Z Z (fun _=>AG (Cr Z Z Ke Z)) (AJ [51,55,59] [] Z Z (fun _=>AG (FZ zl66 pl66 Z Z Z)) (Gv [60] [30] [(61,_)] Z Z (fun _=>Gw (D7 30 sl30 Z Z Z Z Z Z Z Z)) (.inr ⟨61,_,Z,Z,Z,Z,Z⟩) Z Z Z Z Z (C5 12 Z Z Z (Af 13 Z Z (V (Hz (T) ([(L[k],(vio1L p L[k])[0])]) Z Z Z Z Z Z Z Z sl30 (by simp only [Φ];omega) Z Z Z Z) (AD ⟨Z,?_⟩))))))));refine Af 14 Z Z (AB Z Z (AD ⟨Z,?_⟩));refine C9 (AE (J (BA Z Z (AT (k+1) (by omega)) Z) (goMv Z Z (AD ?_))));exact ⟨(k+1,T++ [(L[k],(vio1L p L[k])[0])]),⟨hkl,by show _=(L.take (k+1)).filterMap _;rw [QK hkl,bk_some h33 hv0,hT];rfl,by show (T++ [_]).length≤k+1;rw [Δ];simp only [Φ];omega⟩,by show L.length - (k+1)<L.length - k;omega,A1 hF [1,41,10] Z (Z) ⟨Z,Z,Z,Z,Z,Z,trivial⟩⟩
   ·refine A3 (AE (J (BA Z Z (AT (k+1) (by omega)) Z) (goMv Z Z (AD ?_))));exact ⟨(k+1,T),⟨hkl,by show _=(L.take (k+1)).filterMap _;rw [QK hkl,cQ (fun h=>h49 (by exact_mod_cast h)),hT];simp,by show T.length≤k+1;omega⟩,by show L.length - (k+1)<L.length - k;omega,A1 hF [1,41,10] Z (Z) ⟨Z,Z,Z,Z,Z,Z,trivial⟩⟩
 ·refine BF (AC ?_);have hke:k=L.length:=by have:=h28;omega
  refine L4 (emb:=bkD) 7 10 T Z Z Z Z Z Z Z ?_;rw [show T=L.filterMap (bkOf p) by rw [hT,hke,ωs]];refine AE (goMv Z Z (AB Z Z (AB Z Z (AD (A8 ?_)))));exact ⟨_,[],[],A6 Z,Z,Z,Z,Z⟩
end Go.Proofs.YteifpcnphnhaoaaGreat
