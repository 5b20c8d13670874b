import Derived.Test.YteifpcnphnhaoaaGreatMg23
namespace Go.Proofs.YteifpcnphnhaoaaGreat
open Go.RowKit
set_option maxRecDepth 100000
abbrev MG (l:List Int):D:= .sl none (l.map AF)
abbrev Vu (l:List (List Int)):D:= .sl none (l.map MG)
def idT (k:Nat):Nat ->Nat:=fun j=>if j<k then j else 0
theorem bE (k:Nat):At (idT k) k k=idT (k+1):=by
 funext j
 by_cases e:j=k
 ·subst e;rw [KM];unfold idT;rw [κ (by omega)]
 ·rw [GU e];unfold idT
  by_cases hj:j<k
  ·rw [κ hj,κ (by omega)]
  ·rw [ϑ hj,ϑ (by omega)]
theorem bD:(fun _:Nat=>0)=idT 0:=by funext j;unfold idT;rw [ϑ (by omega)]
def OS (f:Nat ->Nat) (k j:Nat):List Nat:=(List.range j).filter fun i=>decide (f i=k)
theorem aj {f:Nat ->Nat} {k j:Nat} (h:f j=k):OS f k (j+1)=OS f k j++ [j]:=by unfold OS;rw [ψj,ωz];simp [h]
theorem Xe {f:Nat ->Nat} {k j:Nat} (h:¬f j=k):OS f k (j+1)=OS f k j:=by unfold OS;rw [ψj,ωz];simp [h]
theorem ai (f:Nat ->Nat) (k j:Nat):(OS f k j).length≤j:=ωe (ωh _ _) (by rw [ωf];exact υ _)
theorem Cn.trans {rs:List AP} {E:List (AK×Nat)} {i j k:Nat} (h:Cn rs E i j) (h':Cn rs E j k):Cn rs E i k:=Rh.trans h h'
abbrev Wg (rs:List AP) (E:List (AK×Nat)) (i:Nat):List AP:=(dR rs (D7 E i)).map Prod.fst
theorem cn_rsc {rs:List AP} {E:List (AK×Nat)} {i j:Nat} {r:AP} (hi:i<E.length) (hj:j<E.length) (h1:r∈Wg rs E i) (h2:r∈Wg rs E j):Cn rs E i j:=Rh.one (D2.2 ⟨hi,hj,.inr (.inr ⟨r,h1,h2⟩)⟩)
theorem cn_aft {rs:List AP} {E:List (AK×Nat)} {i j:Nat} (hi:i<E.length) (hj:j<E.length) (h:(D7 E i).id∈(D7 E j).af):Cn rs E i j:=Rh.one (D2.2 ⟨hi,hj,.inr (.inl h)⟩)
structure AllJ (rs:List AP) (E:List (AK×Nat)) (f:Nat ->Nat):Prop where
 uf:UF E.length (Cn rs E) f
 us:∃U,O6 rs E (fun i r=>i<E.length∧r∈Wg rs E i) U f
 af:∀i,i<E.length ->∀j,j<E.length ->(D7 E j).id∈(D7 E i).af ->f j=f i
theorem AllJ.full {rs:List AP} {E:List (AK×Nat)} {f:Nat ->Nat} (h:AllJ rs E f):∀i j,i<E.length ->j<E.length ->Cn rs E i j ->f i=f j:=fun i j hi hj hC=>by
 obtain ⟨U,hU⟩:=h.us;refine (Rh.clos (p:=fun x=>f i=f x) (fun v hv y hy=>?_) hC Z);obtain ⟨h1,h2,h3⟩:=D2.1 hy;rw [hv];rcases h3 with h3 | h3 | ⟨r,h3,h4⟩
 ·exact (h.af v h1 y h2 h3).symm
 ·exact h.af y h2 v h1 h3
 ·rw [←(hU.has v r ⟨h1,h3⟩).2,(hU.has y r ⟨h2,h4⟩).2]
theorem bq (p:Prb) (l:List Int) (hb:E7 p) (hl:l.length≤100000) (h1000:p.it.length≤1000) (hE:C3 p l≠0):AO Tryz.prog 23 [.d (CB p),.d (MG l)] (.tup [.sl (some true) [],AF (C3 p l)]):=by
 have hck:=Pc p l hb hl h1000;refine BB Tryz.func23 Z Z Tryz.ntmps23 Z Z Z fun F hF=>?_;refine AC (AE (V (CE 1 Z Z Z Z Z Z Z) (AB Z Z (AB Z Z (AD (AC (AC (AE ?_))))))));refine J (BO Z Z B8 Z Z Z) (goMv Z Z (J (BZ (hck) Z Z) (AB Z Z (AD (AC (AE (goMv Z Z (J (EA Z Z Z) ?_))))))));refine AD (D9 Z (ωi hE) (AC (AE (goMv Z Z (AB Z Z (AB Z Z (AD (A8 ?_))))))));exact ⟨_,[],[],A7 Z,Z,Z,Z,Z⟩
theorem SV {E:List (AK×Nat)} {its:List AK} (h:(its.map AK.id).Nodup) {q:AK ->Bool} (hE:E.map Prod.fst=its.filter q):IdI E:=fun i j hi hj e=>by
 have h1:((E.map Prod.fst).map AK.id).Nodup:=by rw [hE];exact List.Nodup.sublist (List.Sublist.map _ ψi) h
 rw [D5 hi,D5 hj] at e;rw [List.Nodup,ωq] at h1
 have key:∀a b,a<b ->(hb:b<E.length) ->(ha:a<E.length) ->(E[a]).1.id≠(E[b]).1.id:=fun a b hab hb ha=>by
  have:=h1 a b (by simpa using ha) (by simpa using hb) hab
  simpa using this
 rcases Nat.lt_trichotomy i j with h2 | h2 | h2
 ·exact absurd e (key i j h2 hj hi)
 ·exact h2
 ·exact absurd e.symm (key j i h2 hi hj)
noncomputable def compL (rs:List AP) (E:List (AK×Nat)):List (List Int):=(clsN E.length (Cn rs E)).map (Dm E)
set_option maxHeartbeats 4000000 in
theorem comp_c (p:Prb) (l:List Int) (hf:GV p) (hl:l.length≤100000) (hC:C3 p l=0) (hE:Az p=0) (hn:l.Nodup):
  AN Tryz.prog 23 [.d (CB p),.d (MG l)] [] fun r H'=>∃E:List (AK×Nat),E.map Prod.fst=(ordP p).filter (fun i=>decide (i.id∈l))∧r= .d (.tup [Vu (compL (rsP p) E),AF 0])∧H'=[]:=by
 have hi30:=hf.i;have hck:=Pc p l hf.b hl (by omega);rw [hC] at hck;have hids:((ordP p).map AK.id).Nodup:=Ee hE;have hol:(ordP p).length≤30:=by rw [show ordP p=BJ p.it from κ hE,DH];exact hi30
 have hxm:∀i∈ordP p,i∈p.it:=fun i hi=>by rw [show ordP p=BJ p.it from κ hE] at hi;exact (W5 p.it).mem_iff.1 hi
 refine BB Tryz.func23 Z Z Tryz.ntmps23 Z Z Z fun F hF=>(AC (AE (V (CE 1 Z Z Z Z Z Z Z) (AB Z Z (AB Z Z (AD ?_))))));refine AC (AC (AE (J (BO Z Z B8 Z Z Z) (goMv Z Z (J (BZ (hck) Z Z) (AB Z Z (AD (AC ?_))))))));refine AE (goMv Z Z (J (EA Z Z Z) (AD (Db Z (ωp (by decide)) (A3 (AC (Cc [[],[],[1],[0,1,2],[0,1,2,3]] mixed Z (dwx3 (γ:=Nat×MF) 3 (fun q=>⟨154,[(2,.ptr 1 0 0),(35,.d (CB p)),(37,.d (Wd q.1))],[(41,[.multi q.2])]⟩) (fun q=>Ie q.2 q.1 l) Z Z Z ?_ ?_ (fun a hI=>?_)))))))))
 ·refine J (BO Z Z B8 Z Z Z) (AD ⟨Z,?_⟩);refine goMv Z Z (AD ⟨Z,?_⟩);refine Ch (W2 (Fu l hn (by omega)) Z [41] ⟨Z,trivial⟩ Z Z Z Z (fun r H' ⟨b,N,e1,e2,_⟩=>by subst e1 e2;exact ⟨Z,Z,Z⟩) Z) Z ?_;rintro _ ⟨r,H',⟨b,N,e1,e2,hW⟩,rfl⟩;subst e1 e2;refine AD ⟨Z,?_⟩;exact ⟨(b,N),hW,A1 hF [41] Z Z ⟨Z,Z,Z,trivial⟩⟩
 ·refine goMv Z Z (AD ⟨Z,?_,?_⟩)
  ·refine J (BO Z Z B8 Z Z Z) (AD ⟨Z,?_⟩);refine Ch (W2 (Fu l hn (by omega)) Z [41] ⟨Z,trivial⟩ Z Z Z Z (fun r H' ⟨b,N,e1,e2,_⟩=>by subst e1 e2;exact ⟨Z,Z,Z⟩) Z) Z ?_;rintro _ ⟨r,H',⟨b,N,e1,e2,hW⟩,rfl⟩;subst e1 e2;refine AD ⟨Z,?_⟩;exact ⟨(b,N),hW,A1 hF [41] Z Z ⟨Z,Z,Z,trivial⟩⟩
  ·refine Ch (W2 (Fu l hn (by omega)) Z [41] ⟨Z,trivial⟩ Z Z Z Z (fun r H' ⟨b,N,e1,e2,_⟩=>by subst e1 e2;exact ⟨Z,Z,Z⟩) Z) Z ?_;rintro _ ⟨r,H',⟨b,N,e1,e2,hW⟩,rfl⟩;subst e1 e2;refine AD ⟨Z,?_⟩;refine J (BO Z Z B8 Z Z Z) (AD ⟨Z,?_⟩);exact ⟨(b,N),hW,A1 hF [41] Z Z ⟨Z,Z,Z,trivial⟩⟩
 ·obtain ⟨b,N⟩:=a;have hW:Ie N b l:=hI;refine Ae 4 Z Z ?_;refine Ch (W2 (P7 p hE hf WF [pD b 0] N (fun id=>decide (id∈l)) (IG hW)) Z [41,40] ⟨Z,Z,trivial⟩ Z Z Z Z (fun r H' ⟨E,M,e1,e2,_⟩=>by subst e1 e2;exact ⟨Z,Z,Z⟩) Z) Z ?_;rintro _ ⟨r,H',⟨E,M,e1,e2,hR,hEq⟩,rfl⟩;subst e1 e2;refine AD ⟨Z,?_⟩;refine Ae 5 Z Z (AB Z Z (AD ⟨Z,?_⟩));refine C6 (AC ?_)
  obtain ⟨n,hnE⟩:∃n,E.length=n:=⟨_,Z⟩
  have hn30:n≤30:=by have h1:(E.map Prod.fst).length≤(ordP p).length:=(by rw [hEq];exact ωh _ _);rw [ψ,hnE] at h1;omega
  have hIt:∀k,k<n ->D7 E k∈ordP p:=fun k hk=>by have h1:D7 E k∈E.map Prod.fst:=(by rw [D5 (by omega)];exact χl (θ _));rw [hEq] at h1;exact (ωa.1 h1).1
  have hId:IdI E:=SV hids hEq;have hlE:(E.map Cs).length=n:=by rw [ψ,hnE]
  refine AE (goMv Z Z (J (JN Z hlE Tryz.underlying122 Z) (V (Eb 2 B4 Z Z Z (by omega) zd3 Z Z Z Z) ?_)));rw [repN,bD];refine V (CO 3 zl28 Z Z Z Z) (V (Bi Z Z Z Z Z Z Z CG) (AD ?_));refine AC (AC (AE (J (A9 Z Z Z BC Z) (J (LJ Z Tryz.underlying28 Z) (goMv Z Z (AD (A5 (B6 (α:=Nat) (fun k=>⟨154,[(7,(.d (.sl none (E.map Cs)))),(8,(.ptr 3 0 0)),(43,(.d (AM n))),(44,(.d (AM k)))],[(2,[.rowD 3 1 (rowN n (idT k))]),(3,[.blk 28 [.own 2 0 n]]),(40,[.multi M])]⟩) (fun k=>k≤n) (fun k=>n - k) (0) (Γ _) (A1 hF [2,3,40] Z Z ⟨Z,Z,Z,Z,trivial⟩) ?_))))))));rintro k hk;refine AC (AE (J (BT Z Z Z) (AD (AC (Ah Z (fun h45=>?_) (fun h45=>?_))))))
  ·refine A3 (AC (A5 (AC ?_)));have hkl:k<n:=Bf h45;refine AE ?_;refine goMv Z Z (AB Z Z (AD (AE (J (A9 Z Z Z BC Z) (goMv Z Z (goMv Z Z (J (Bu (k) Z Z (Z) (hkl) Z Tryz.underlying28 BD Z) (V (Qc Z Z Z Z Z (by rw [cY];exact hkl) cZ Z BD) ?_))))))));rw [bE];refine AD (AE (J (Ay Z Z (AT (k+1) (by omega)) Z) (goMv Z Z (AD ?_))));exact ⟨k+1,hkl,by omega,A1 hF [2,3,40] Z (Z) ⟨Z,Z,Z,Z,trivial⟩⟩
  ·refine BF (AC ?_);have hke:k=n:=by have:=h45;omega
   rw [Oo (f:=idT k) (h:=fun j=>j) fun j hj=>κ (by omega)];refine AE (J (Zct Z Z) ?_);refine AB Z Z (AD (AC (AE (V (Ph 50 Z Z Z Z) (V (Ph 51 Z Z Z Z) (AB Z Z (AB Z Z (AD ?_))))))));refine AC (AC (AE (goMv Z Z (J (JN Z hlE Tryz.underlying122 Z) (goMv Z Z (AD (A5 (B6 (α:=Nat×List (AP×Nat)×(Nat ->Nat)) (fun q=>⟨154,[(7,(.d (.sl none (E.map Cs)))),(8,(.ptr 3 0 0)),(10,(.fn 67 [.ptr 3 0 0])),(11,(.map 50 0)),(12,(.map 51 0)),(55,(.d (.sl none (E.map Cs)))),(56,(.d (AM n))),(57,(.d (AM q.1)))],[(2,[.rowD 3 1 (rowN n q.2.2)]),(3,[.blk 28 [.own 2 0 n]]),(50,[BM C4 AM q.2.1]),(51,[BM AF AM (Li E q.1)]),(40,[.multi M])]⟩) (fun q=>q.1≤n∧UF n (Cn (rsP p) E) q.2.2∧O6 (rsP p) E (fun i r=>i<q.1∧r∈Wg (rsP p) E i) q.2.1 q.2.2) (fun q=>n - q.1) ((0,[],fun j=>j)) (⟨Γ _,UF.id n fun i=>Rh.refl i,(O6.zero _ _ _).mono fun i r h=>by have:=h.1;omega⟩) (A1 hF [2,3,50,51,40] Z Z ⟨Z,Z,Z,Z,Z,Z,Z,Z,trivial⟩) ?_))))))));rintro ⟨k,U,f⟩ ⟨hk,hU,hS⟩;dsimp only at hk hU hS⊢;refine AC (AE (J (BT Z Z Z) (AD (AC (Ah Z (fun h58=>?_) (fun h58=>?_))))))
   ·refine A3 (AC (A5 (AC ?_)));have hkl:k<n:=Bf h58;have hkE:k<E.length:=by omega
    have hek:=θ hkE;refine AE (goMv Z Z (J (Bb (k) Z Z (Z) (Ag hkE) Tryz.underlying122 Z Gy Z) (J (GW Z Z LO Z) (V (CO 4 MW Z Z Z Z) (AB Z Z (V (Bi Z Z Z Z Z Z Z Gy) ?_))))));refine AD (AC (AE (goMv Z Z (J (A4 Z IZ Z Z Z) (J (A4 Z MV Z Z Z) (J (A9 Z Z Z Aq Z) (goMv Z Z (V (T9 (Li E k) ((E[k]).1.id) (k) Z Z Z mt128 HP Z Z) ?_))))))));rw [show Av (Li E k) (E[k]).1.id k=Li E (k+1) by rw [←D5 hkE];exact plc_put hId hkE];refine AD (AC ?_)
    obtain ⟨L,hLe⟩:∃L,dR (rsP p) (E[k]).1=L:=⟨_,Z⟩
    have hRk:=hR _ hek;rw [hLe] at hRk;have hus:Wg (rsP p) E k=L.map Prod.fst:=by rw [←hLe,←D5 hkE]
    refine Pg 40 (E[k]).2 Z hRk (fun _ _=>rfl) fun B c hB hBn=>?_
    obtain ⟨M1,hM1⟩:∃M1,B1 M (E[k]).2 (.map (some (B,c)) (Lk L))=M1:=⟨_,Z⟩
    rw [hM1];have h1k:M1 (E[k]).2=some (.map (some (B,c)) (Lk L)):=by rw [←hM1,Fm]
    refine AE (J (A4 Z MM Z Z Z) (J (A9 Z Z Z Vd Z) (V (Og 5 (f:=40) Z Z h1k Z Bv Z Z Z Z) (AD (A5 (B6 (α:=List Nat×List (AP×Int)×List (AP×Nat)×(Nat ->Nat)) (fun q=>⟨154,[(7,(.d (.sl none (E.map Cs)))),(8,(.ptr 3 0 0)),(10,(.fn 67 [.ptr 3 0 0])),(11,(.map 50 0)),(12,(.map 51 0)),(13,(.d (AM k))),(55,(.d (.sl none (E.map Cs)))),(56,(.d (AM n))),(57,(.d (AM k))),(69,(.ptr 5 0 0))],[(5,[.iter 40 (E[k]).2 c q.1]),(2,[.rowD 3 1 (rowN n q.2.2.2)]),(3,[.blk 28 [.own 2 0 n]]),(50,[BM C4 AM q.2.2.1]),(51,[BM AF AM (Li E (k+1))]),(40,[.multi M1])]⟩) (fun q=>(q.2.1++Bs L B q.1).Perm L∧UF n (Cn (rsP p) E) q.2.2.2∧O6 (rsP p) E (fun i r=>(i<k∧r∈Wg (rsP p) E i)∨(i=k∧r∈q.2.1.map Prod.fst)) q.2.2.1 q.2.2.2) (fun q=>(Bs L B q.1).length) (([],[],U,f)) (⟨by show ([]++Bs L B []).Perm L;rw [DK (by simpa [BQ] using hB)];exact List.Perm.refl _,hU,hS.mono fun i r h=>h.elim id fun h=>by simp at h⟩) (A1 hF [5,2,3,50,51,40] Z Z ⟨Z,Z,Z,Z,Z,Z,Z,Z,Z,Z,trivial⟩) ?_))))));rintro ⟨seen,acc,U,f⟩ ⟨hP,hU,hS⟩;dsimp only at hP hU hS⊢;refine AC (AE (Vg (L) Z Z Z (h1k) Z (fun hl70=>?_) (fun j70 b70 k70 v70 hm70 hb70 hB70 hp70=>⟨_,Z,?_⟩)))
    ·rw [hl70] at hP;have hPm:∀r,r∈acc.map Prod.fst↔r∈Wg (rsP p) E k:=fun r=>by rw [hus];exact ((show acc.Perm L by simpa using hP).map Prod.fst).mem_iff
     refine MB 40 (E[k]).2 Z h1k Z ?_;rw [show B1 M1 (E[k]).2 (.map none (Lk L))=M by rw [←hM1,Gc];exact PL hRk];refine J (Cu Z Z Z) (AD (AC (Db Z Z (BF (AE (J (Ay Z Z (AT (k+1) (by omega)) Z) (goMv Z Z (AD ?_))))))));exact ⟨(k+1,U,f),⟨hkl,hU,hS.mono fun i r ⟨h1,h2⟩=>(Nat.decEq i k).byCases (fun e=>by subst e;exact .inr ⟨Z,(hPm r).2 h2⟩) fun e=> .inl ⟨by omega,h2⟩⟩,by show n - (k+1)<n - k;omega,A1 hF [2,3,50,51,40] Z (Z) ⟨Z,Z,Z,Z,Z,Z,Z,Z,trivial⟩⟩
    ·refine J (Cu Z Z Z) (AD (AC (D9 Z Z (A3 (A5 (AC ?_))))));have hku:k70∈Wg (rsP p) E k:=by rw [hus];exact χl (f:=Prod.fst) (aa hm70)
     have hstep:∀i s,((i<k∧s∈Wg (rsP p) E i)∨(i=k∧s∈(acc++ [(k70,v70)]).map Prod.fst)) ->((i<k∧s∈Wg (rsP p) E i)∨(i=k∧s∈acc.map Prod.fst))∨(i=k∧s=k70):=fun i s h=>h.elim (fun h=> .inl (.inl h)) fun ⟨e,h⟩=>by rw [ωc,ν] at h;exact h.elim (fun h=> .inl (.inr ⟨e,h⟩)) fun h=> .inr ⟨e,by simpa using h⟩
     refine AE (J (Ok (L) j70 b70 Z Z Z (h1k) hm70 hb70 Z) (J (Cu Z Z Z) (V (CO 6 KQ Z Z Z Z) ?_)));refine V (Bi Z Z Z Z Z Z Z Yk) (AD (AC (AE (goMv Z Z (J (BO Z Z CY Z Z Z) (J (Oi (U) (k70) (0) Z Z Z mt127 CJ za3 Z) (goMv Z Z (J (Cu Z Z Z) ?_))))))));refine J (Cu Z Z Z) (AB Z Z (AB Z Z (AD (AC (AE (goMv Z Z (AD (KP Z (fun h80=>?_) (fun h80=>?_)))))))))
     ·have hkU:k70∈U.map Prod.fst:=FL.1 h80;obtain ⟨hu1,hu2⟩:=hS.ok _ (mget_ok hkU);rw [hnE] at hu1;have hCk:=cn_rsc (by omega) hkE hu2 hku;refine AE (goMv Z Z (goMv Z Z (goMv Z Z (V (YV ((WA n f (A6 U k70 0) k hu1 hkl (by omega)).by [(930,3),(931,2)] Z) Z [3,2] ⟨Z,Z,trivial⟩ Z Z Z Z Z Z Z Z Z) (AD ?_)))));exact ⟨(seen++ [b70],acc++ [(k70,v70)],U,_),⟨iOq hP hp70,hU.join (fun _ _ _=>Cn.trans) (fun _ _=>Cn.symm) hu1 hkl hCk,hS.join hkU hstep⟩,by show (Bs L B (seen++ [b70])).length<(Bs L B seen).length;rw [hp70.length_eq];exact χm _,A1 hF [5,2,3,50,51,40] Z (Z) ⟨Z,Z,Z,Z,Z,Z,Z,Z,Z,Z,trivial⟩⟩
     ·refine AE (goMv Z Z (J (BO Z Z CY Z Z Z) (goMv Z Z (V (T9 (U) (k70) (k) Z Z Z mt127 CJ Z Z) (AD ?_)))));exact ⟨(seen++ [b70],acc++ [(k70,v70)],Av U k70 k,f),⟨iOq hP hp70,hU,hS.new (fun hm=>by rw [FL.2 hm] at h80;cases h80) hkE hku hstep⟩,by show (Bs L B (seen++ [b70])).length<(Bs L B seen).length;rw [hp70.length_eq];exact χm _,A1 hF [5,2,3,50,51,40] Z (Z) ⟨Z,Z,Z,Z,Z,Z,Z,Z,Z,Z,trivial⟩⟩
   ·refine BF (AC (AC ?_));have hke:k=n:=by have:=h58;omega
    rw [hke]
    have hS':O6 (rsP p) E (fun i r=>i<E.length∧r∈Wg (rsP p) E i) U f:=hS.mono fun i r ⟨h1,h2⟩=>⟨by omega,h2⟩
    refine AE (goMv Z Z (J (JN Z hlE Tryz.underlying122 Z) (goMv Z Z (AD (A5 (B6 (α:=Nat×(Nat ->Nat)) (fun q=>⟨154,[(7,(.d (.sl none (E.map Cs)))),(8,(.ptr 3 0 0)),(10,(.fn 67 [.ptr 3 0 0])),(12,(.map 51 0)),(89,(.d (.sl none (E.map Cs)))),(90,(.d (AM n))),(91,(.d (AM q.1)))],[(2,[.rowD 3 1 (rowN n q.2)]),(3,[.blk 28 [.own 2 0 n]]),(51,[BM AF AM (Li E n)])]⟩) (fun q=>q.1≤n∧UF n (Cn (rsP p) E) q.2∧O6 (rsP p) E (fun i r=>i<E.length∧r∈Wg (rsP p) E i) U q.2∧∀i,i<q.1 ->∀j,j<n ->(D7 E j).id∈(D7 E i).af ->q.2 j=q.2 i) (fun q=>n - q.1) ((0,f)) (⟨Γ _,hU,hS',fun i hi=>by omega⟩) (A1 hF [2,3,51] Z Z ⟨Z,Z,Z,Z,Z,Z,Z,trivial⟩) ?_))))));rintro ⟨k,f⟩ ⟨hk,hU,hS,hA⟩;dsimp only at hk hU hS hA⊢;refine AC (AE (J (BT Z Z Z) (AD (AC (Ah Z (fun h92=>?_) (fun h92=>?_))))))
    ·refine A3 (AC (A5 (AC ?_)));have hkl:k<n:=Bf h92;have hkE:k<E.length:=by omega
     have hek:=θ hkE;have hIk:=hIt k hkl;rw [D5 hkE] at hIk;have haf:=(hf.x _ (hxm _ hIk)).2.2;refine AE (goMv Z Z (J (Bb (k) Z Z (Z) (Ag hkE) Tryz.underlying122 Z Gy Z) (J (GW Z Z LO Z) (V (CO 4 MW Z Z Z Z) (AB Z Z (V (Bi Z Z Z Z Z Z Z Gy) (AD (AC ?_))))))));refine AE (J (A4 Z IZ Z Z Z) (J (A4 Z Dq Z Z Z) (J (A9 Z Z Z BC Z) (J (Bz Z Tryz.underlying28 Z) (goMv Z Z (AD (A5 (B6 (α:=Nat×(Nat ->Nat)) (fun q=>⟨154,[(7,(.d (.sl none (E.map Cs)))),(8,(.ptr 3 0 0)),(10,(.fn 67 [.ptr 3 0 0])),(12,(.map 51 0)),(18,(.d (AM k))),(89,(.d (.sl none (E.map Cs)))),(90,(.d (AM n))),(91,(.d (AM k))),(98,(.d (MG (E[k]).1.af))),(99,(.d (AM (E[k]).1.af.length))),(100,(.d (AM q.1)))],[(2,[.rowD 3 1 (rowN n q.2)]),(3,[.blk 28 [.own 2 0 n]]),(51,[BM AF AM (Li E n)])]⟩) (fun q=>q.1≤(E[k]).1.af.length∧UF n (Cn (rsP p) E) q.2∧O6 (rsP p) E (fun i r=>i<E.length∧r∈Wg (rsP p) E i) U q.2∧(∀i,i<k ->∀j,j<n ->(D7 E j).id∈(D7 E i).af ->q.2 j=q.2 i)∧∀j,j<n ->(D7 E j).id∈(E[k]).1.af.take q.1 ->q.2 j=q.2 k) (fun q=>(E[k]).1.af.length - q.1) ((0,f)) (⟨Γ _,hU,hS,hA,fun j hj hm=>by simp at hm⟩) (A1 hF [2,3,51] Z Z ⟨Z,Z,Z,Z,Z,Z,Z,Z,Z,Z,Z,trivial⟩) ?_))))))));rintro ⟨j8,f⟩ ⟨hj8,hU,hS,hA,hD⟩;dsimp only at hj8 hU hS hA hD⊢;refine AC (AE (J (BT Z Z Z) (AD (AC (Ah Z (fun h101=>?_) (fun h101=>?_))))))
     ·refine A3 (AC (A5 (AC ?_)));have hjl:j8<(E[k]).1.af.length:=Bf h101;refine AE (J (Bb (j8) Z Z (Z) (Ag hjl) Tryz.underlying28 Z BD Z) (J (Cm Z Z Aq Z) ?_));refine AB Z Z (AD (AC (AE (goMv Z Z (goMv Z Z (J (Oi (Li E n) ((E[k]).1.af[j8]) (0) Z Z Z mt128 HP za3 Z) (goMv Z Z (J (Cu Z Z Z) ?_))))))));refine J (Cu Z Z Z) (AB Z Z (AB Z Z (AD (AC (AE (goMv Z Z (AD (KP Z (fun h110=>?_) (fun h110=>?_)))))))))
      ·have hkP:=FL.1 h110;have hpg:=VY hId (x:=(E[k]).1.af[j8]) (by rw [hnE];exact hkP);rw [hnE] at hpg;obtain ⟨hu1,hu2⟩:=hpg;have hCk:=cn_aft (rs:=rsP p) (i:=A6 (Li E n) (E[k]).1.af[j8] 0) (j:=k) (by omega) hkE (by rw [hu2,D5 hkE];exact θ hjl);refine AE ?_;refine goMv Z Z (goMv Z Z (goMv Z Z (V (YV ((WA n f (A6 (Li E n) (E[k]).1.af[j8] 0) k hu1 hkl (by omega)).by [(930,3),(931,2)] Z) Z [3,2] ⟨Z,Z,trivial⟩ Z Z Z Z Z Z Z Z Z) (AD (AE (J (Ay Z Z (AT (j8+1) (by omega)) Z) (goMv Z Z (AD ?_))))))));exact ⟨(j8+1,_),⟨hjl,hU.join (fun _ _ _=>Cn.trans) (fun _ _=>Cn.symm) hu1 hkl hCk,hS.keep fun _ _ h=>Gg h,fun i hi j hj hm=>Gg (hA i hi j hj hm),fun j hj hm=>by rw [φ hjl,ν] at hm;exact hm.elim (fun h=>Gg (hD j hj h)) fun h=>by have h3:=(Ze hId (show j<E.length by omega)).2;rw [ξ.1 h,hnE] at h3;rw [←h3];exact PT⟩,by show (E[k]).1.af.length - (j8+1)<(E[k]).1.af.length - j8;omega,A1 hF [2,3,51] Z (Z) ⟨Z,Z,Z,Z,Z,Z,Z,Z,Z,Z,Z,trivial⟩⟩
      ·refine A3 (AE (J (Ay Z Z (AT (j8+1) (by omega)) Z) (goMv Z Z (AD ?_))));exact ⟨(j8+1,f),⟨hjl,hU,hS,hA,fun j hj hm=>by rw [φ hjl,ν] at hm;exact hm.elim (hD j hj) fun h=>absurd (FL.2 (by have h3:=(Ze hId (show j<E.length by omega)).1;rw [ξ.1 h,hnE] at h3;exact h3)) (by rw [h110];decide)⟩,by show (E[k]).1.af.length - (j8+1)<(E[k]).1.af.length - j8;omega,A1 hF [2,3,51] Z (Z) ⟨Z,Z,Z,Z,Z,Z,Z,Z,Z,Z,Z,trivial⟩⟩
     ·refine BF (AE (J (Ay Z Z (AT (k+1) (by omega)) Z) (goMv Z Z (AD ?_))));exact ⟨(k+1,f),⟨hkl,hU,hS,fun i hi j hj hm=>(Nat.decEq i k).byCases (fun e=>by subst e;exact hD j hj (by rw [D5 hkE] at hm;have hje:j8=(E[i]).1.af.length:=(by have:=h101;omega);rw [hje,ωt];exact hm)) fun e=>hA i (by omega) j hj hm⟩,by show n - (k+1)<n - k;omega,A1 hF [2,3,51] Z (Z) ⟨Z,Z,Z,Z,Z,Z,Z,trivial⟩⟩
    ·refine BF (AC ?_);have hke:k=n:=by have:=h92;omega
     have hall:AllJ (rsP p) E f:=⟨by rw [hnE];exact hU,⟨U,hS⟩,fun i hi j hj hm=>hA i (by omega) j (by omega) hm⟩
     have hcls:(Je n n f).map (Dm E)=compL (rsP p) E:=by unfold compL;rw [←lab_cls hall.uf hall.full,hnE]
     refine AE (AB Z Z (AD (AC ?_)));refine AC (AE (goMv Z Z (J (JN Z hlE Tryz.underlying122 Z) (goMv Z Z (AD (A5 (O4 24 10 RT Z Z Z Z (B6 (α:=Nat×List (List Int)) (fun q=>⟨154,[(7,(.d (.sl none (E.map Cs)))),(8,(.ptr 3 0 0)),(24,(.own 10 0 q.2.length)),(117,(.d (.sl none (E.map Cs)))),(118,(.d (AM n))),(119,(.d (AM q.1)))],[(10,[.rowD 28 1 (q.2.map MG)]),(2,[.rowD 3 1 (rowN n f)]),(3,[.blk 28 [.own 2 0 n]])]⟩) (fun q=>q.1≤n∧q.2=(Je n q.1 f).map (Dm E)) (fun q=>n - q.1) ((0,[])) (⟨Γ _,Z⟩) (A1 hF [10,2,3] Z Z ⟨Z,Z,Z,Z,Z,Z,trivial⟩) ?_))))))));rintro ⟨k,T⟩ ⟨hk,hT⟩;dsimp only at hk hT⊢;refine AC (AE (J (BT Z Z Z) (AD (AC (Ah Z (fun h120=>?_) (fun h120=>?_))))))
     ·refine A3 (AC (A5 (AC ?_)));have hkl:k<n:=Bf h120;have hTl:T.length≤30:=by have:=ae n k f;rw [hT,ψ];omega
      refine AE (goMv Z Z (AB Z Z (AD (AC (AC ?_)))));refine AE (J (A9 Z Z Z BC Z) (goMv Z Z (J (Bu (k) Z Z (Z) (hkl) Z Tryz.underlying28 BD Z) (J (CC Z Z (IB hkl) Z Aq Z) (goMv Z Z (J (EA Z Z Z) (AD (Ah Z (fun h127=>?_) (fun h127=>?_)))))))))
      ·refine BF (AE (J (Ay Z Z (AT (k+1) (by omega)) Z) (goMv Z Z (AD ?_))));exact ⟨(k+1,T),⟨hkl,by show _=(Je n (k+1) f).map _;rw [Xc (by omega),hT]⟩,by show n - (k+1)<n - k;omega,A1 hF [10,2,3] Z (Z) ⟨Z,Z,Z,Z,Z,Z,trivial⟩⟩
      ·refine A3 (AC (AE (AB Z Z (AD (AC ?_)))));refine AC (AE (goMv Z Z (J (JN Z hlE Tryz.underlying122 Z) (goMv Z Z (AD (A5 (O4 26 11 B4 Z Z Z Z (B6 (α:=Nat×List Int) (fun q=>⟨154,[(7,(.d (.sl none (E.map Cs)))),(8,(.ptr 3 0 0)),(24,(.own 10 0 T.length)),(25,(.d (AM k))),(26,(.own 11 0 q.2.length)),(117,(.d (.sl none (E.map Cs)))),(118,(.d (AM n))),(119,(.d (AM k))),(128,(.d (.sl none (E.map Cs)))),(129,(.d (AM n))),(130,(.d (AM q.1)))],[(11,[.rowD 3 1 (q.2.map AF)]),(10,[.rowD 28 1 (T.map MG)]),(2,[.rowD 3 1 (rowN n f)]),(3,[.blk 28 [.own 2 0 n]])]⟩) (fun q=>q.1≤n∧q.2=Dm E (OS f k q.1)) (fun q=>n - q.1) ((0,[])) (⟨Γ _,Z⟩) (A1 hF [11,10,2,3] Z Z ⟨Z,Z,Z,Z,Z,Z,Z,Z,Z,Z,Z,trivial⟩) ?_))))))));rintro ⟨j,S⟩ ⟨hj,hS2⟩;dsimp only at hj hS2⊢;refine AC (AE (J (BT Z Z Z) (AD (AC (Ah Z (fun h131=>?_) (fun h131=>?_))))))
       ·refine A3 (AC (A5 (AC ?_)));have hjl:j<n:=Bf h131;have hjE:j<E.length:=by omega
        have hSl:S.length≤30:=by have:=ai f k j;rw [hS2];unfold Dm;rw [ψ];omega
        refine AE (goMv Z Z (J (Bb (j) Z Z (Z) (Ag hjE) Tryz.underlying122 Z Gy Z) (J (GW Z Z LO Z) (V (CO 4 MW Z Z Z Z) (AB Z Z (V (Bi Z Z Z Z Z Z Z Gy) (AD (AC ?_))))))));refine AE (J (A9 Z Z Z BC Z) (goMv Z Z (J (Bu (j) Z Z (Z) (hjl) Z Tryz.underlying28 BD Z) (J (CC Z Z (IB hjl) Z Aq Z) (goMv Z Z (J (KJ Z Z Z) (AD (Ah Z (fun h140=>?_) (fun h140=>?_)))))))))
        ·refine AE (goMv Z Z (J (A4 Z IZ Z Z Z) (J (A4 Z MV Z Z Z) ?_)));refine J (A9 Z Z Z Aq Z) (V (Dz 30 B4 Z Z Z Z Z Z Z Z) (V (I8 (S) ([(E[j]).1.id]) Z Z Z Z Z Z Z Z B4 (by simp only [Ψ];omega) Z Z Z Z) (AB Z Z (AD (AE (J (Ay Z Z (AT (j+1) (by omega)) Z) (goMv Z Z (AD ?_))))))));exact ⟨(j+1,S++ [(E[j]).1.id]),⟨hjl,by show _=Dm E (OS f k (j+1));rw [aj (by omega),hS2];unfold Dm;rw [ωc,φf,D5 hjE]⟩,by show n - (j+1)<n - j;omega,A1 hF [11,10,2,3] Z (Z) ⟨Z,Z,Z,Z,Z,Z,Z,Z,Z,Z,Z,trivial⟩⟩
        ·refine A3 (AE (J (Ay Z Z (AT (j+1) (by omega)) Z) (goMv Z Z (AD ?_))));exact ⟨(j+1,S),⟨hjl,by show _=Dm E (OS f k (j+1));rw [Xe (by omega),hS2]⟩,by show n - (j+1)<n - j;omega,A1 hF [11,10,2,3] Z (Z) ⟨Z,Z,Z,Z,Z,Z,Z,Z,Z,Z,Z,trivial⟩⟩
       ·refine BF ?_;have hje:j=n:=by have:=h131;omega
        refine Lo (emb:=AF) 26 11 S Z Z Z Z Z Z Z ?_;rw [show S=Dm E (Xd n f k) by rw [hS2,hje];rfl];refine AE (goMv Z Z ?_);refine goMv Z Z (V (Dz 31 RT Z Z Z Z Z Z Z Z) (V (I8 (T) ([Dm E (Xd n f k)]) Z Z Z Z Z Z Z Z RT (by simp only [Ψ];omega) Z Z Z Z) (AB Z Z (AD (AE (J (Ay Z Z (AT (k+1) (by omega)) Z) (goMv Z Z (AD ?_))))))));exact ⟨(k+1,T++ [Dm E (Xd n f k)]),⟨hkl,by show _=(Je n (k+1) f).map _;rw [ah (by omega),ωc,hT];rfl⟩,by show n - (k+1)<n - k;omega,A1 hF [10,2,3] Z (Z) ⟨Z,Z,Z,Z,Z,Z,trivial⟩⟩
     ·refine BF (AC ?_);have hke:k=n:=by have:=h120;omega
      refine Lo (emb:=MG) 24 10 T Z Z Z Z Z Z Z ?_;rw [show T=compL (rsP p) E by rw [hT,hke,hcls]];refine AE (goMv Z Z (AB Z Z (AB Z Z (AD (A8 ?_)))));exact ⟨_,[],[],A7 Z,Z,Z,E,hEq,Z,Z⟩
theorem Nh {rs:List AP} {i:AK} (hi:BH i=0) {r:AP} (hr:r∈rs) (hv:BN r=0) (v:Int):(r,v)∈dR rs i↔v=CR i r∧v≠0:=by
 have e1:AR i=Xr i:=κ hi;have e2:CR i r=Ap (ctr i) r:=κ ⟨hi,hv⟩;unfold dR;rw [ωa,e1,e2];unfold Xr;rw [KD,HV]
 constructor
 ·rintro ⟨⟨⟨_,h1⟩,h2⟩,_⟩;exact ⟨h1,h2⟩
 ·rintro ⟨h1,h2⟩;refine ⟨⟨⟨Classical.byContradiction fun hn=>h2 ?_,h1⟩,h2⟩,ωi hr⟩;show v=0;rw [h1];exact Sn fun x hx e=>hn (by rw [←e];exact χl hx)
theorem Ni {rs:List AP} {i:AK} (hi:BH i=0) {r:AP} (hr:r∈rs) (hv:BN r=0):r∈(dR rs i).map Prod.fst↔CR i r≠0:=by
 rw [ϖ]
 constructor
 ·rintro ⟨⟨a,v⟩,h,e⟩;have e':a=r:=e;subst e';obtain ⟨h1,h2⟩:=(Nh hi hr hv v).1 h;rw [←h1];exact h2
 ·intro h;exact ⟨(r,CR i r),(Nh hi hr hv _).2 ⟨Z,h⟩,Z⟩
theorem bm {rs:List AP} {i:AK} (hi:BH i=0) {r:AP} (hr:r∈rs) (hv:BN r=0):A6 (dR rs i) r 0=CR i r:=by
 by_cases h:CR i r=0
 ·rw [h];exact IR fun hm=>(Ni hi hr hv).1 hm h
 ·exact DJ (bk rs i) ((Nh hi hr hv _).2 ⟨Z,h⟩)
theorem dR_in {rs:List AP} {i:AK} {r:AP} (h:r∈(dR rs i).map Prod.fst):r∈rs:=by
 obtain ⟨d,hd,e⟩:=ϖ.1 h;rw [←e];exact ψk (ωa.1 hd).2
theorem wt_iff {rs:List AP} (hrs:∀r∈rs,BN r=0) {x y:AK} (hx:BH x=0) (hy:BH y=0):c9 rs x y↔y.id∈x.af∨∃r∈rs,CR x r<0∧0<CR y r:=by
 constructor
 ·rintro (⟨⟨r,v⟩,hd,h1,h2⟩ | h)
  ·have hr:r∈rs:=dR_in (χl (f:=Prod.fst) hd);obtain ⟨e,_⟩:=(Nh hx hr (hrs r hr) v).1 hd;refine .inr ⟨r,hr,by rw [←e];exact h1,by rw [←bm hy hr (hrs r hr)];exact h2⟩
  ·exact .inl h
 ·rintro (h | ⟨r,hr,h1,h2⟩)
  ·exact .inr h
  ·exact .inl ⟨(r,CR x r),(Nh hx hr (hrs r hr) _).2 ⟨Z,by omega⟩,h1,by rw [bm hy hr (hrs r hr)];exact h2⟩
theorem int_iff {rs:List AP} (hrs:∀r∈rs,BN r=0) {x y:AK} (hx:BH x=0) (hy:BH y=0):Lp rs x y↔(y.id∈x.af∨x.id∈y.af)∨∃r∈rs,CR x r≠0∧CR y r≠0:=by
 constructor
 ·rintro (h | h | ⟨r,h1,h2⟩)
  ·exact .inl (.inl h)
  ·exact .inl (.inr h)
  ·have hr:=dR_in h1;exact .inr ⟨r,hr,(Ni hx hr (hrs r hr)).1 h1,(Ni hy hr (hrs r hr)).1 h2⟩
 ·rintro ((h | h) | ⟨r,hr,h1,h2⟩)
  ·exact .inl h
  ·exact .inr (.inl h)
  ·exact .inr (.inr ⟨r,(Ni hx hr (hrs r hr)).2 h1,(Ni hy hr (hrs r hr)).2 h2⟩)
theorem ZU {p:Prb} (hE:Az p=0):∀r∈rsP p,BN r=0:=fun r hr=>by
 obtain ⟨x,hx,rfl⟩:=ϖ.1 hr;exact ON (O3 hE).1 x hx
def DP (p:Prb) (l:List Int):List (AK×Nat):=((BJ p.it).filter fun i=>decide (i.id∈l)).map fun i=>(i,0)
theorem Hs (p:Prb) (l:List Int):(DP p l).map Prod.fst=(BJ p.it).filter fun i=>decide (i.id∈l):=by unfold DP;rw [ωv];exact List.map_id _
theorem MI {E:List (AK×Nat)} (k:Nat):D7 E k=(E.map Prod.fst).getD k AY:=by
 unfold D7;rw [ϱ,ϱ,η]
 cases E[k]?<;>rfl
theorem Ue {rs:List AP} {E E':List (AK×Nat)} (h:E.map Prod.fst=E'.map Prod.fst):compL rs E=compL rs E':=by
 have hi:D7 E=D7 E':=funext fun k=>by rw [MI,MI,h]
 have hl:E.length=E'.length:=by rw [←ψ (f:=Prod.fst),h,ψ]
 have hn:nbI rs E=nbI rs E':=by unfold nbI;rw [hi,hl]
 unfold compL Cn;rw [hl,hn];unfold Dm;rw [hi]
theorem NP (E:List (AK×Nat)) (S:List Nat):(Dm E S).length=S.length:=ψ _
structure PG (rs:List AP) (E:List (AK×Nat)) (i:Nat) (S:List Nat):Prop where
 nd:S.Nodup
 ini:i∈S
 con:∀j∈S,j<E.length∧Cn rs E i j
theorem PG.zero {rs:List AP} {E:List (AK×Nat)} {i:Nat} (hi:i<E.length):PG rs E i [i]:=⟨by simp,by simp,fun j hj=>by rw [ξ.1 hj];exact ⟨hi,.refl i⟩⟩
theorem PG.add {rs:List AP} {E:List (AK×Nat)} {i:Nat} {S:List Nat} (h:PG rs E i S) {j k:Nat} (hj:j∈S) (hk:k<E.length) (hn:k∉S) (hi:Lp rs (D7 E j) (D7 E k)):PG rs E i (S++ [k]):=by
 refine ⟨χp.2 ⟨h.nd,by simp,fun a ha b hb e=>hn (by rw [ξ.1 hb] at e;rw [←e];exact ha)⟩,ψp _ h.ini,fun x hx=>?_⟩;rcases ν.1 hx with hx | hx
 ·exact h.con x hx
 ·rw [ξ.1 hx];exact ⟨hk,(h.con j hj).2.trans (Rh.one (D2.2 ⟨(h.con j hj).1,hk,hi⟩))⟩
theorem PG.len {rs:List AP} {E:List (AK×Nat)} {i:Nat} {S:List Nat} (h:PG rs E i S):S.length≤E.length:=by
 have:=h.nd.length_le_of_subset (l₂:=List.range E.length) fun y hy=>ς.2 (h.con y hy).1
 rwa [ωf] at this
def ClI (rs:List AP) (E:List (AK×Nat)) (S:List Nat) (k:Nat):Prop:=k∈S∨∀m∈S,¬Lp rs (D7 E m) (D7 E k)
structure PK (rs:List AP) (E:List (AK×Nat)) (i:Nat) (S0:List Nat) (k:Nat) (S:List Nat) (g:Bool):Prop where
 pg:PG rs E i S
 no:g=false ->S=S0∧∀k',k'<k ->ClI rs E S k'
 yes:g=true ->S0.length<S.length
theorem PK.zero {rs:List AP} {E:List (AK×Nat)} {i:Nat} {S:List Nat} (h:PG rs E i S):PK rs E i S 0 S false:=⟨h,fun _=>⟨Z,fun k' hk=>by omega⟩,fun e=>by cases e⟩
theorem PK.le {rs:List AP} {E:List (AK×Nat)} {i:Nat} {S0 S:List Nat} {k:Nat} {g:Bool} (h:PK rs E i S0 k S g):S0.length≤S.length:=by
 cases hg:g with
 | false=>rw [(h.no hg).1];exact υ _
 | true=>exact Nat.le_of_lt (h.yes hg)
theorem PK.pass {rs:List AP} {E:List (AK×Nat)} {i:Nat} {S0 S:List Nat} {k:Nat} {g:Bool} (h:PK rs E i S0 k S g) (hc:ClI rs E S k):PK rs E i S0 (k+1) S g:=
 ⟨h.pg,fun e=>⟨(h.no e).1,fun k' hk=>(Nat.decEq k' k).byCases (fun e2=>by rw [e2];exact hc) fun e2=>(h.no e).2 k' (by omega)⟩,h.yes⟩
theorem PK.hit {rs:List AP} {E:List (AK×Nat)} {i:Nat} {S0 S:List Nat} {k k2:Nat} {g:Bool} (h:PK rs E i S0 k S g) (hp:PG rs E i (S++ [k])):PK rs E i S0 k2 (S++ [k]) true:=
 ⟨hp,fun e=>(by cases e),fun _=>by rw [Θ,Ψ];exact Nat.lt_succ_of_le h.le⟩
theorem PG.fin {rs:List AP} {E:List (AK×Nat)} {i:Nat} {S:List Nat} (h:PG rs E i S) (hc:∀k,k<E.length ->ClI rs E S k) {k:Nat} (hk:k<E.length):k∈S↔Cn rs E i k:=by
 refine ⟨fun hm=>(h.con k hm).2,fun hC=>?_⟩;refine Rh.clos (p:=fun x=>x∈S) (fun v hv y hy=>?_) hC h.ini;obtain ⟨_,h2,h3⟩:=D2.1 hy;exact (hc y h2).resolve_right fun hn=>hn v hv h3
def hitS (S:List Nat) (k:Nat) (h:Bool):List Nat:=if h=true then S++ [k] else S
theorem PK.next {rs:List AP} {E:List (AK×Nat)} {i:Nat} {S0 S:List Nat} {k:Nat} {g hh:Bool} (h:PK rs E i S0 k S g) (hyes:hh=true ->PG rs E i (S++ [k])) (hno:hh=false ->ClI rs E S k):PK rs E i S0 (k+1) (hitS S k hh) (if hh=true then true else g):=by
 cases hh with
 | false=>exact h.pass (hno Z)
 | true=>exact h.hit (hyes Z)
theorem bp (p:Prb) (l:List Int) (hf:GV p) (hl:l.length≤100000) (hC:C3 p l=0) (hE:Az p=0) (hn:l.Nodup):AO Tryz.prog 23 [.d (CB p),.d (MG l)] (.tup [Vu (compL (rsP p) (DP p l)),AF 0]):=
 (comp_c p l hf hl hC hE hn).mono fun r H' ⟨E,hEq,e1,e2⟩=>⟨by rw [e1,Ue (E':=DP p l) (by rw [hEq,Hs,show ordP p=BJ p.it from κ hE])],e2⟩
theorem Xo {rs:List AP} {E E':List (AK×Nat)} (h:E.map Prod.fst=E'.map Prod.fst):grW rs E=grW rs E'∧Dm E=Dm E'∧E.length=E'.length:=by
 have hi:D7 E=D7 E':=funext fun k=>by rw [MI,MI,h]
 have hl:E.length=E'.length:=by rw [←ψ (f:=Prod.fst),h,ψ]
 refine ⟨?_,by funext S;unfold Dm;rw [hi],hl⟩;have e1:∀E:List (AK×Nat),grW rs E=(E.map Prod.fst).map fun a=>toK rs E a E.length:=fun E=>by unfold grW;rw [ωv];rfl
 rw [e1,e1,h];refine ωj fun a _=>?_;unfold toK;rw [hi,hl]
theorem toK_lt {rs:List AP} {E:List (AK×Nat)} {a:AK} {n:Nat}:∀k∈toK rs E a n,k<n:=fun k hk=>ς.1 (ωa.1 hk).1
def sub30 (ids:List Int) (m k:Nat):List Int:=((List.range k).filter fun j=>decide (m / 2^j % 2=1)).map fun j=>ids.getD j 0
def InU (p:Prb) (ids:List Int) (M:Nat) (x:Int):Prop:=∃m,m<M∧bP p (sub30 ids m ids.length)∧x∈sub30 ids m ids.length
noncomputable instance (p:Prb) (ids:List Int) (M:Nat) (x:Int):Decidable (InU p ids M x):=Classical.propDecidable _
theorem QD {its:List AK} (hn:(its.map AK.id).Nodup) (on:Nat ->Bool):EQ its on its.length=(its.map AK.id).filter fun x=>decide (x∈EQ its on its.length):=by
 obtain ⟨l,hl⟩:∃l,EQ its on its.length=l:=⟨_,Z⟩
 have h1:its.map AK.id=(List.range its.length).map fun i=>(its.getD i AY).id:=by
  conv=>lhs;rw [Xg its]
  rw [ωv];rfl
 rw [h1,List.filter_map];show ((List.range its.length).filter on).map _=_
 congr 1
 refine χx fun i hi=>?_;have:=on_mem hn on (ς.1 hi);show on i=decide ((its.getD i AY).id∈EQ its on its.length)
 cases ho:on i with
 | true=>exact (ωi (this.2 ho)).symm
 | false=>exact (ωp fun h=>by rw [this.1 h] at ho;cases ho).symm
theorem cP {wb mv:Nat} {nb pb:Nat ->Nat} {N:Net} {M:MF} (h:CA wb mv nb pb N M) {i:Nat} {x:Nd} (hx:N.nd[i]? =some x):AN Tryz.prog 146 [.d (pD (nb i) 0)] (HN M) fun r H'=>r= .d (Ak x.on)∧H'=HN M:=by
 have hxb:=h.n i x hx;refine BB Tryz.func146 Z Z Tryz.ntmps146 Z Z Z fun F hF=>(AC (AE (AB Z Z (AD ?_))));refine AC (AE (goMv Z Z (J (DQ Z Z) (J (CS Z Eg Z Z Z) (J (EX (f:=40) Z Z (hxb) Z on4 Z) (AB Z Z (AD (A8 ?_))))))));exact ⟨_,[40],_,A7 Z,Z,Z,Z,Z⟩
theorem cN {wb mv:Nat} {nb pb:Nat ->Nat} {N:Net} {M:MF} (h:CA wb mv nb pb N M) (e:Nat×Int) {y:Po} (hy:N.po[e.1]? =some y) (hr: -1000000000000000000≤y.room∧y.room≤1000000000000000000) (he: -2000000000000000000≤e.2∧e.2≤2000000000000000000):AN Tryz.prog 149 [.d (bY pb e)] (HN M) fun r H'=>r= .d (Ak (QC y e.2))∧H'=HN M:=by
 have hov:=LR h hy e.2 hr he;refine BB Tryz.func149 Z Z Tryz.ntmps149 Z Z Z fun F hF=>(AC (AE (V (CE 1 Z Z Z Z Z Z Z) (AB Z Z (AD (AC ?_))))));refine AE (J (A4 Z QX Z Z Z) (J (A9 Z Z Z E8 Z) (J (A4 Z QW Z Z Z) (J (A9 Z Z Z Kg Z) (V (Eu hov Z [40] ⟨Z,trivial⟩ Z Z Z Z Z Z Z Z Z) (AB Z Z (AD (A8 ?_))))))));exact ⟨_,[40],_,A7 Z,Z,Z,Z,Z⟩
abbrev HAO (wb mv:Nat) (bs:Option (List Nat×Nat)) (L:List (Int×Value)) (M:MF):Hp:=(910,[.blk 171 [.d (pD wb 0)]])::HW mv bs L M
theorem cO {wb mv:Nat} {nb pb:Nat ->Nat} {N:Net} {M:MF} (bs:Option (List Nat×Nat)) (h:CA wb mv nb pb N M) (hn:(BS N).Nodup) {id:Int} (hid:id∈BS N):AN Tryz.prog 147 [.d (AF id),.ptr 910 0 0] (HAO wb mv bs (Fd nb (BS N)) M) fun r H'=>r= .d (Ak (!Cq N id))∧H'=HAO wb mv bs (Fd nb (BS N)) M:=by
 have hwb:=h.w;have hil:=ψq hid;have hil2:(BS N).idxOf id<N.nd.length:=by unfold BS at hil⊢;rw [ψ] at hil;exact hil
 obtain ⟨z,hz⟩:∃z,N.nd[(BS N).idxOf id]? =some z:=⟨_,ω hil2⟩
 have hgz:N.nd.getD ((BS N).idxOf id) Bl=z:=by rw [ϱ,hz];rfl
 have hzb:=h.n _ z hz;have hby:=Qa (nb:=nb) hn hil;rw [φg hil] at hby;have hof:(!Cq N id)=z.on:=by unfold Cq;rw [hgz,Bool.not_not]
 refine BB Tryz.func147 Z Z Tryz.ntmps147 Z Z Z fun F hF=>(AC ?_);refine AE (AB Z Z (AD (AC (AE (J (A9 Z Z Z Vc Z) (J (DQ Z Z) (J (CS Z ML Z Z Z) (J (EX (f:=40) Z Z (hwb) Z Va Z) ?_))))))));refine D0 7 51 0 Z Z (goMv Z Z (J (HQ (Fd nb (BS N)) id (.pointer none) (pV (nb ((BS N).idxOf id)) 0) Z Z Z Vo HP Uw hby Z) (J (DQ Z Z) (J (CS Z Eg Z Z Z) (J (EX (f:=40) Z Z (hzb) Z on4 Z) (AB Z Z (AD (A8 ?_))))))));exact ⟨_,[910,40,50,51],_,A7 Z,Z,Z,by rw [hof],Z⟩
section
variable {P:Program} {F:Fr} {s:AS} {d:Nat} {x hi:Operand} {T E:TypeId} {ty:TypeId} {pos:String} {aft:Array Edge} {g:Option (Nat×Bool)}
theorem RG {b n cap kk:Nat} (h:Nat) {kh:IntKind} {ih:Int} (hx:s.ev x=some (.d (.raw (sV b n cap)))) (hhi:s.ev hi=some (.d (.raw (.int kh ih)))) (hh:ih=(h:Int)) (h2:h≤cap) (hT:P.underlying T=some (.slice E)) (hE:AZ P E kk=true) (hd:Nat.blt d s.n=true):
  AA P F ⟨some d,.slice T x none (some hi) none,ty,pos,aft,g⟩ s d (.d (.raw (sV b h cap))):=
 Ck _ hd fun _ act w hs=>by
  have e:=hs.raw hx;subst hh;refine ⟨.slice (if cap=0 then some ⟨b,0,none⟩ else (some (⟨b,0,none⟩:Addr)).map (·.add (0*kk))) (h - 0) (cap - 0),by simp only [execOp,e,χa,φm,hs.raw hhi,Sem.run_bind,G6 hT (YT hE) h2,Result.andThen_ok,Sem.run_pure],?_⟩
  have:Value.slice (if cap=0 then some ⟨b,0,none⟩ else (some (⟨b,0,none⟩:Addr)).map (·.add (0*kk))) (h - 0) (cap - 0)=sV b h cap:=by
   split<;>simp [Addr.add]
  rw [this];exact .d (.raw Z)
end
def OF {α:Type} (p:α ->Bool) (l:List α):Int:=match l.findIdx? p with
 | some k=>k
 | none=> -1
theorem idx1_c {wb mv:Nat} {nb pb:Nat ->Nat} {N:Net} {M:MF} (h:CA wb mv nb pb N M) {hd:Hd} {q:List Nat} (hq:BK M hd 176 1 (q.map fun i=>BL (nb i))) (hqn:∀i∈q,i<N.nd.length) (m:Nat) (hm:m≤q.length) (hql:q.length≤100000):
  AN Tryz.prog 97 [.d (hdr hd m),.d (.raw (.func (.func 146) #[] #[]))] (HN M) fun r H'=>r= .d (AF (OF (onN N) (q.take m)))∧H'=HN M:=by
 have hz:hd=none ->m=0:=fun e=>by have:=TW hq e;omega
 have htl:(q.take m).length=m:=by rw [Ω];omega
 refine BB Tryz.func97 Z Z Tryz.ntmps97 Z Z Z fun F hF=>(AC (AE (AB Z Z (AD ?_))));refine AC (AC (AE (goMv Z Z (J (Ut hz Z Tryz.underlying175 Z) (goMv Z Z (AD (A5 (B6 (α:=Nat) (fun k=>⟨19,[(0,.d (hdr hd m)),(1,.d (.raw (.func (.func 146) #[] #[]))),(7,(.d (AF (m:Int)))),(8,(.d (AF (k:Int))))],HN M⟩) (fun k=>k≤m∧∀x∈(q.take m).take k,onN N x=false) (fun k=>m - k) (0) (⟨Γ _,by simp⟩) (A1 hF [40] Z Z ⟨Z,Z,Z,Z,trivial⟩) ?_))))))));rintro k ⟨hk0,hk⟩;refine AC (AE (J (BT Z Z Z) (AD (AC (Ah Z (fun h9=>?_) (fun h9=>?_))))))
 ·have hk1:k<m:=Bf h9;refine A3 (AC (A5 (AC ?_)));have hkq:k<q.length:=by omega
  have hkt:k<(q.take m).length:=by omega
  obtain ⟨rb,rc,hre⟩:=T8 hq hkq;have hrow:=Qk hq hre;have hil:=hqn _ (θ hkq)
  obtain ⟨z,hz2⟩:∃z,N.nd[q[k]]? =some z:=⟨_,ω hil⟩
  have hal:=cP h hz2;have hon:onN N q[k]=z.on:=by unfold onN;rw [ϱ,hz2];rfl
  refine AE (goMv Z Z (AB Z Z (AD (AC ?_))));refine AE (goMv Z Z (goMv Z Z (goMv Z Z (J (Up hre (k) Z Z Z hk1 Tryz.underlying175 LM Z) (J (Zcp (f:=40) (e:=k) (off:=0) Z (by omega) Z (hrow) (Ag hkq) Z Mu Z) (V (YV hal Z [40] ⟨Z,trivial⟩ Z Z Z Z Z Z Z Z Z) (AD (KP Z (fun h16=>?_) (fun h16=>?_)))))))))
  ·refine AC (AE (goMv Z Z (AB Z Z (AD (A8 ?_)))));exact ⟨_,[40],_,A7 Z,Z,Z,Aj (by unfold OF;rw [Gp hkt hk (by rw [List.getElem_take,hon];simpa using h16)]),Z⟩
  ·refine A3 (AE (J (Ay Z Z (AT (k+1) (by omega)) Z) (goMv Z Z (AD ?_))));exact ⟨k+1,⟨by show k+1≤_;omega,by rw [φ hkt];intro y hy;rcases ν.1 hy with hy | hy;exact hk y hy;rw [ξ.1 hy,List.getElem_take];rw [hon];simpa using h16⟩,by show m - (k+1)<m - k;omega,A1 hF [40] Z (Z) ⟨Z,Z,Z,Z,trivial⟩⟩
 ·refine BF (AC (AE (AB Z Z (AD (A8 ?_)))));exact ⟨_,[40],_,A7 Z,Z,Z,Aj (by unfold OF;rw [IX (fun x hx=>hk x (by rw [Ξ (by have h:=h9;omega)];exact hx))]),Z⟩
theorem UR {α:Type} {p:α ->Bool} {l:List α}:(OF p l≥0)↔l.any p=true:=by
 unfold OF
 cases h:l.findIdx? p with
 | none=>
  rw [List.findIdx?_eq_none_iff] at h
  constructor
  ·intro h1;have h2:(-1:Int)≥0:=h1;omega
  ·intro h1;obtain ⟨x,hx,h2⟩:=List.any_eq_true.1 h1;rw [h x hx] at h2;cases h2
 | some k=>
  constructor
  ·intro _;obtain ⟨hk,h1,_⟩:=List.findIdx?_eq_some_iff_getElem.1 h;exact List.any_eq_true.2 ⟨l[k],θ hk,h1⟩
  ·intro _;show (k:Int)≥0;omega
theorem cont1_c {wb mv:Nat} {nb pb:Nat ->Nat} {N:Net} {M:MF} (h:CA wb mv nb pb N M) {hd:Hd} {q:List Nat} (hq:BK M hd 176 1 (q.map fun i=>BL (nb i))) (hqn:∀i∈q,i<N.nd.length) (m:Nat) (hm:m≤q.length) (hql:q.length≤100000):
  AN Tryz.prog 145 [.d (hdr hd m),.d (.raw (.func (.func 146) #[] #[]))] (HN M) fun r H'=>r= .d (Ak ((q.take m).any (onN N)))∧H'=HN M:=by
 refine BB Tryz.func145 Z Z Tryz.ntmps145 Z Z Z fun F hF=>(AC (AE (AB Z Z (AD ?_))));refine AC (AE (goMv Z Z (goMv Z Z (V (Eu (idx1_c h hq hqn m hm hql) Z [40] ⟨Z,trivial⟩ Z Z Z Z Z Z Z Z Z) (J (EZ Z Z Z) (AB Z Z (AD (A8 ?_))))))));exact ⟨_,[40],_,A7 Z,Z,Z,Mk (by rw [Bool.eq_iff_iff,ψe];exact UR),Z⟩
theorem idx3_c {wb mv:Nat} {nb pb:Nat ->Nat} {N:Net} {M:MF} (h:CA wb mv nb pb N M) (hw:NetW N) {i:Nat} {x:Nd} (hx:N.nd[i]? =some x):
  AN Tryz.prog 197 [.d (hdr x.eh x.ef.length),.d (.raw (.func (.func 149) #[] #[]))] (HN M) fun r H'=>r= .d (AF (OF (fun e:Nat×Int=>QC (N.po.getD e.1 CV) e.2) x.ef))∧H'=HN M:=by
 obtain ⟨hxb,hre,_⟩:=h.nn i x hx;have hxm:=ζ hx;have hel:=(hw.l x hxm).1;have hz:=TW hre;refine BB Tryz.func197 Z Z Tryz.ntmps197 Z Z Z fun F hF=>(AC (AE (AB Z Z (AD ?_))));refine AC (AC (AE (goMv Z Z (J (Ut hz Z Tryz.underlying181 Z) (goMv Z Z (AD (A5 (B6 (α:=Nat) (fun k=>⟨19,[(0,.d (hdr x.eh x.ef.length)),(1,.d (.raw (.func (.func 149) #[] #[]))),(7,(.d (AF (x.ef.length:Int)))),(8,(.d (AF (k:Int))))],HN M⟩) (fun k=>k≤x.ef.length∧∀e∈x.ef.take k,(fun e:Nat×Int=>QC (N.po.getD e.1 CV) e.2) e=false) (fun k=>x.ef.length - k) (0) (⟨Γ _,by simp⟩) (A1 hF [40] Z Z ⟨Z,Z,Z,Z,trivial⟩) ?_))))))));rintro k ⟨hk0,hk⟩;refine AC (AE (J (BT Z Z Z) (AD (AC (Ah Z (fun h9=>?_) (fun h9=>?_))))))
 ·have hk1:k<x.ef.length:=Bf h9;refine A3 (AC (A5 (AC ?_)));obtain ⟨rb,rc,hree⟩:=T8 hre hk1;have hrow:=Qk hre hree;have hjl:=(h.e x hxm).1 _ (θ hk1)
  obtain ⟨y,hy⟩:∃y,N.po[x.ef[k].1]? =some y:=⟨_,ω hjl⟩
  have hgy:N.po.getD x.ef[k].1 CV=y:=by rw [ϱ,hy];rfl
  have heb:=hw.e x hxm _ (θ hk1);have hal:=cN h x.ef[k] hy (hw.rm y (ζ hy)) ⟨by omega,by omega⟩;refine AE (goMv Z Z (AB Z Z (AD (AC ?_))));refine AE (goMv Z Z (goMv Z Z (goMv Z Z (J (Up hree (k) Z Z Z hk1 Tryz.underlying181 RB Z) (J (Dc (f:=40) (e:=k) Z (Z) Z (hrow) (Ag hk1) Z ZR Z) (V (YV hal Z [40] ⟨Z,trivial⟩ Z Z Z Z Z Z Z Z Z) (AD (Ah Z (fun h16=>?_) (fun h16=>?_)))))))))
  ·refine AC (AE (goMv Z Z (AB Z Z (AD (A8 ?_)))));exact ⟨_,[40],_,A7 Z,Z,Z,Aj (by unfold OF;rw [Gp hk1 hk (by show QC (N.po.getD x.ef[k].1 CV) x.ef[k].2=true;rw [hgy];unfold QC;exact ωi h16)]),Z⟩
  ·refine A3 (AE (J (Ay Z Z (AT (k+1) (by omega)) Z) (goMv Z Z (AD ?_))));exact ⟨k+1,⟨by show k+1≤_;omega,by rw [φ hk1];intro e he;rcases ν.1 he with he | he;exact hk e he;rw [ξ.1 he];show QC (N.po.getD x.ef[k].1 CV) x.ef[k].2=false;rw [hgy];unfold QC;exact ωp h16⟩,by show x.ef.length - (k+1)<x.ef.length - k;omega,A1 hF [40] Z (Z) ⟨Z,Z,Z,Z,trivial⟩⟩
 ·refine BF (AC (AE (AB Z Z (AD (A8 ?_)))));exact ⟨_,[40],_,A7 Z,Z,Z,Aj (by unfold OF;rw [IX (fun e he=>hk e (by rw [Ξ (by have h:=h9;omega)];exact he))]),Z⟩
theorem cont3_c {wb mv:Nat} {nb pb:Nat ->Nat} {N:Net} {M:MF} (h:CA wb mv nb pb N M) (hw:NetW N) {i:Nat} {x:Nd} (hx:N.nd[i]? =some x):
  AN Tryz.prog 148 [.d (hdr x.eh x.ef.length),.d (.raw (.func (.func 149) #[] #[]))] (HN M) fun r H'=>r= .d (Ak (x.ef.any fun e:Nat×Int=>QC (N.po.getD e.1 CV) e.2))∧H'=HN M:=by
 refine BB Tryz.func148 Z Z Tryz.ntmps148 Z Z Z fun F hF=>(AC (AE (AB Z Z (AD ?_))));refine AC (AE (goMv Z Z (goMv Z Z (V (Eu (idx3_c h hw hx) Z [40] ⟨Z,trivial⟩ Z Z Z Z Z Z Z Z Z) (J (EZ Z Z Z) (AB Z Z (AD (A8 ?_))))))));exact ⟨_,[40],_,A7 Z,Z,Z,Mk (by rw [Bool.eq_iff_iff,ψe];exact UR),Z⟩
theorem idx2_c {wb mv:Nat} {nb pb:Nat ->Nat} {N:Net} {M:MF} (bs:Option (List Nat×Nat)) (h:CA wb mv nb pb N M) (hn:(BS N).Nodup) (l:List Int) (hl:l.length≤100000) (hid:∀id∈l,id∈BS N):
  AN Tryz.prog 138 [.d (.sl none (l.map AF)),.fn 147 [.ptr 910 0 0]] (HAO wb mv bs (Fd nb (BS N)) M) fun r H'=>r= .d (AF (OF (fun id=>!Cq N id) l))∧H'=HAO wb mv bs (Fd nb (BS N)) M:=by
 obtain ⟨L,hL⟩:∃L,Fd nb (BS N)=L:=⟨_,Z⟩
 have ha:=fun id hi=>cO (id:=id) bs h hn hi;rw [hL] at ha⊢;refine BB Tryz.func138 Z Z Tryz.ntmps138 Z Z Z fun F hF=>(AC (AE (AB Z Z (AD ?_))));refine AC (AC (AE (goMv Z Z (J (Bz Z Tryz.underlying28 Z) (goMv Z Z (AD (A5 (B6 (α:=Nat) (fun k=>⟨19,[(0,.d (.sl none (l.map AF))),(1,.fn 147 [.ptr 910 0 0]),(7,(.d (AF (l.length:Int)))),(8,(.d (AF (k:Int))))],HAO wb mv bs L M⟩) (fun k=>k≤l.length∧∀x∈l.take k,(fun id=>!Cq N id) x=false) (fun k=>l.length - k) (0) (⟨Γ _,by simp⟩) (A1 hF [910,40,50,51] Z Z ⟨Z,Z,Z,Z,trivial⟩) ?_))))))));rintro k ⟨hk0,hk⟩;refine AC (AE (J (BT Z Z Z) (AD (AC (Ah Z (fun h9=>?_) (fun h9=>?_))))))
 ·have hk1:k<l.length:=Bf h9;refine A3 (AC (A5 (AC (AE (goMv Z Z (AB Z Z (AD (AC ?_))))))));refine AE (goMv Z Z (goMv Z Z (goMv Z Z (J (Bb (k) Z Z (Z) (Ag hk1) Tryz.underlying28 Z BD Z) (J (Cm Z Z Aq Z) (V (YV (ha l[k] (hid _ (θ hk1))) Z [910,40,50,51] ⟨Z,Z,Z,Z,trivial⟩ Z Z Z Z Z Z Z Z Z) (AD (KP Z (fun h16=>?_) (fun h16=>?_)))))))))
  ·refine AC (AE (goMv Z Z (AB Z Z (AD (A8 ?_)))));exact ⟨_,[910,40,50,51],_,A7 Z,Z,Z,Aj (by unfold OF;rw [Gp hk1 hk (by simpa using h16)]),Z⟩
  ·refine A3 (AE (J (Ay Z Z (AT (k+1) (by omega)) Z) (goMv Z Z (AD ?_))));exact ⟨k+1,⟨by show k+1≤_;omega,by rw [φ hk1];intro x hx;rcases ν.1 hx with hx | hx;exact hk x hx;rw [ξ.1 hx];simpa using h16⟩,by show l.length - (k+1)<l.length - k;omega,A1 hF [910,40,50,51] Z (Z) ⟨Z,Z,Z,Z,trivial⟩⟩
 ·refine BF (AC (AE (AB Z Z (AD (A8 ?_)))));exact ⟨_,[910,40,50,51],_,A7 Z,Z,Z,Aj (by unfold OF;rw [IX (fun x hx=>hk x (by rw [Ξ (by have h:=h9;omega)];exact hx))]),Z⟩
theorem cont2_c {wb mv:Nat} {nb pb:Nat ->Nat} {N:Net} {M:MF} (bs:Option (List Nat×Nat)) (h:CA wb mv nb pb N M) (hn:(BS N).Nodup) (l:List Int) (hl:l.length≤100000) (hid:∀id∈l,id∈BS N):
  AN Tryz.prog 130 [.d (.sl none (l.map AF)),.fn 147 [.ptr 910 0 0]] (HAO wb mv bs (Fd nb (BS N)) M) fun r H'=>r= .d (Ak (l.any fun id=>!Cq N id))∧H'=HAO wb mv bs (Fd nb (BS N)) M:=by
 refine BB Tryz.func130 Z Z Tryz.ntmps130 Z Z Z fun F hF=>(AC (AE (AB Z Z (AD ?_))));refine AC (AE (goMv Z Z (goMv Z Z (V (Eu (idx2_c bs h hn l hl hid) Z [910,40,50,51] ⟨Z,Z,Z,Z,trivial⟩ Z Z Z Z Z Z Z Z Z) (J (EZ Z Z Z) (AB Z Z (AD (A8 ?_))))))));exact ⟨_,[910,40,50,51],_,A7 Z,Z,Z,Mk (by rw [Bool.eq_iff_iff,ψe];exact UR),Z⟩
section
variable {P:Program} {F:Fr} {s:AS} {d:Nat} {x hi:Operand} {T E:TypeId} {ty:TypeId} {pos:String} {aft:Array Edge} {g:Option (Nat×Bool)}
theorem RH {h:Hd} {b n cap kk:Nat} (he:h=some (b,cap)) (m:Nat) {kh:IntKind} {ih:Int} (hx:s.ev x=some (.d (hdr h n))) (hhi:s.ev hi=some (.d (.raw (.int kh ih)))) (hh:ih=(m:Int)) (h2:m≤cap) (hT:P.underlying T=some (.slice E)) (hE:AZ P E kk=true) (hd:Nat.blt d s.n=true):
  AA P F ⟨some d,.slice T x none (some hi) none,ty,pos,aft,g⟩ s d (.d (hdr h m)):=by
 subst he;exact RG m hx hhi hh h2 hT hE hd
end
def YP (N:Net) (e:Nat×Nat):Bool:=((N.po.getD e.1 CV).q.take e.2).any (onN N)
def Dx (N:Net) (x:Nd):Bool:=!(x.pl.any (YP N)) &&(!(x.it.af.any fun id=>!Cq N id) && !(x.ef.any fun e:Nat×Int=>QC (N.po.getD e.1 CV) e.2))
theorem al_pl {N:Net} {x:Nd} (h:x.pl.any (YP N)=true):Dx N x=false:=by unfold Dx;rw [h];rfl
theorem al_af {N:Net} {x:Nd} (h0:x.pl.any (YP N)=false) (h:(x.it.af.any fun id=>!Cq N id)=true):Dx N x=false:=by unfold Dx;rw [h0,h];rfl
theorem al_ef {N:Net} {x:Nd} (h0:x.pl.any (YP N)=false) (h:(x.it.af.any fun id=>!Cq N id)=false):Dx N x=!(x.ef.any fun e:Nat×Int=>QC (N.po.getD e.1 CV) e.2):=by unfold Dx;rw [h0,h];simp
set_option maxHeartbeats 1000000 in
theorem alone_c {wb mv:Nat} {nb pb:Nat ->Nat} {N:Net} {M:MF} (bs:Option (List Nat×Nat)) (h:CA wb mv nb pb N M) (hw:NetW N) {i:Nat} {x:Nd} (hx:N.nd[i]? =some x):
  AN Tryz.prog 99 [.d (pD wb 0),.d (pD (nb i) 0)] (HW mv bs (Fd nb (BS N)) M) fun r H'=>r= .d (Ak (Dx N x))∧H'=HW mv bs (Fd nb (BS N)) M:=by
 have hxm:=ζ hx;obtain ⟨hxb,hre,hrp⟩:=h.nn i x hx;have hpz:=TW hrp;obtain ⟨_,hpl,hafl⟩:=hw.l x hxm;have hxe:=h.e x hxm;have hxp:=hw.p x hxm;have hc2:=cont2_c bs h hw.i x.it.af (by omega) (hw.a x hxm);have hc3:=cont3_c h hw hx
 obtain ⟨L,hL⟩:∃L,Fd nb (BS N)=L:=⟨_,Z⟩
 rw [hL] at hc2⊢;refine BB Tryz.func99 Z Z Tryz.ntmps99 Z Z Z fun F hF=>(AC (AE (V (CE 910 Z Z Z Z Z Z Z) (AB Z Z (AD (AC (AC (AE ?_))))))));refine goMv Z Z (J (DQ Z Z) (J (CS Z Jr Z Z Z) (J (EX (f:=40) Z Z (hxb) Z V8 Z) (J (Ut hpz Z Tryz.underlying182 Z) (goMv Z Z (AD (A5 (B6 (α:=Nat) (fun k=>⟨39,[(1,.d (pD (nb i) 0)),(2,(.ptr 910 0 0)),(10,(.d (hdr x.ph x.pl.length))),(11,(.d (AF (x.pl.length:Int)))),(12,(.d (AF (k:Int))))],HAO wb mv bs L M⟩) (fun k=>k≤x.pl.length∧∀e∈x.pl.take k,YP N e=false) (fun k=>x.pl.length - k) (0) (⟨Γ _,by simp⟩) (A1 hF [910,40,50,51] Z Z ⟨Z,Z,Z,Z,Z,trivial⟩) ?_))))))));rintro k ⟨hk0,hkb⟩;refine AC (AE (J (BT Z Z Z) (AD (AC (Ah Z (fun h13=>?_) (fun h13=>?_))))))
 ·have hk1:k<x.pl.length:=Bf h13;refine A3 (AC (A5 (AC ?_)));obtain ⟨eb,ec,hee⟩:=T8 hrp hk1;have hrow:=Qk hrp hee;have hjl:x.pl[k].1<N.po.length:=hxe.2 _ (θ hk1)
  obtain ⟨y,hy⟩:∃y,N.po[x.pl[k].1]? =some y:=⟨_,ω hjl⟩
  have hgy:N.po.getD x.pl[k].1 CV=y:=by rw [ϱ,hy];rfl
  have hym:=ζ hy;obtain ⟨hyb,hyq⟩:=h.pp _ y hy;have hpk:=hxp _ (θ hk1);rw [hgy] at hpk;obtain ⟨qb,qc,hqe⟩:=T8 hyq hpk.1;have hqc:y.q.length≤qc:=by have h1:=hyq;rw [hqe] at h1;have h2:=h1.1;rw [ψ] at h2;exact h2
  have hcn:=cont1_c h hyq (h.q y hym) x.pl[k].2 (by omega) (by have h1:=hw.ql y hym;omega);refine AE (J (Up hee (k) Z Z Z hk1 Tryz.underlying182 Oa Z) ?_);refine J (Dc (f:=40) (e:=k) Z (Z) Z (hrow) (Ag hk1) Z ZQ Z) (V (CO 911 Uv Z Z Z Z) (V (Bi Z Z Z Z Z Z Z Oa) (AD (AC (Cc [[],[0],[0,1],[0,1,2],[0,1,2,3],[],[5],[0,1,2,3,4,5,6],[0,1,2,3,4,5,6,7]] mixed Z (Cj (AI [6] [] Z Z (fun _=>AG (A4 Z Gq Z Z Z)) (AI [16] [911] Z Z (fun _=>AG (A9 Z Z Z E8 Z)) ?_))))))));refine AI [17] [] Z Z (fun _=>AG (DQ Z Z)) (AI [18] [] Z Z (fun _=>AG (CS Z Gr Z Z Z)) (AI [19] [40] Z Z (fun _=>AG (EX (f:=40) Z Z (hyb) Z GG Z)) (AI [6] [] Z Z (fun _=>AG (A4 Z QU Z Z Z)) (AI [21] [911] Z Z (fun _=>AG (A9 Z Z Z Aq Z)) (C1 7 Z Z Z (Ae 8 Z Z (J (RH hqe x.pl[k].2 Z Z Z (by omega) Tryz.underlying175 LM Z) (AD ⟨Z,?_⟩))))))));refine Ae 9 Z Z (V (Eu hcn Z [40] ⟨Z,trivial⟩ Z Z Z Z Z Z Z Z Z) (AD ⟨Z,?_⟩));refine C6 (KP Z (fun h24=>?_) (fun h24=>?_))
  ·refine AC (AE (AB Z Z (AD (A8 ?_))));exact ⟨_,[40,50,51],_,A7 Z,Z,Z,by rw [al_pl (List.any_eq_true.2 ⟨_,θ hk1,by unfold YP;rw [hgy];simpa using h24⟩)],Z⟩
  ·refine A3 (AE (J (Ay Z Z (AT (k+1) (by omega)) Z) (goMv Z Z (AD ?_))));exact ⟨k+1,⟨by show k+1≤_;omega,by rw [φ hk1];intro e he;rcases ν.1 he with he | he;exact hkb e he;rw [ξ.1 he];unfold YP;rw [hgy];simpa using h24⟩,by show x.pl.length - (k+1)<x.pl.length - k;omega,A1 hF [910,40,50,51] Z (Z) ⟨Z,Z,Z,Z,Z,trivial⟩⟩
 ·refine BF (AC (AC ?_));have hp0:x.pl.any (YP N)=false:=by rw [List.any_eq_false];intro e he;have e1:k=x.pl.length:=(by have h:=h13;omega);rw [e1,ωt] at hkb;rw [hkb e he];simp
  refine AE ?_;refine goMv Z Z (J (DQ Z Z) (J (CS Z F9 Z Z Z) (J (CS Z Dq Z Z Z) (J (EX (f:=40) Z Z (hxb) Z BC Z) (J (Zct Z Z) (V (Eu hc2 Z [910,40,50,51] ⟨Z,Z,Z,Z,trivial⟩ Z Z Z Z Z Z Z Z Z) (AD (KP Z (fun h32=>?_) (fun h32=>?_)))))))))
  ·refine AC (AE (AB Z Z (AD (A8 ?_))));exact ⟨_,[40,50,51],_,A7 Z,Z,Z,by rw [al_af hp0 (by simpa using h32)],Z⟩
  ·refine A3 (AC (AE ?_));refine goMv Z Z (J (DQ Z Z) (J (CS Z Js Z Z Z) (J (EX (f:=40) Z Z (hxb) Z V9 Z) (V (Eu hc3 Z [40] ⟨Z,trivial⟩ Z Z Z Z Z Z Z Z Z) (J (L7 Z Z) (AB Z Z (AD (A8 ?_))))))));exact ⟨_,[40,50,51],_,A7 Z,Z,Z,by rw [al_ef hp0 (by simpa using h32)],Z⟩
abbrev HG (wb mv:Nat) (bs:Option (List Nat×Nat)) (L:List (Int×Value)) (M:MF):Hp:=(920,[.blk 171 [.d (pD wb 0)]])::HW mv bs L M
theorem bH {wb mv:Nat} {nb pb:Nat ->Nat} {N:Net} {M:MF} (bs:Option (List Nat×Nat)) (h:CA wb mv nb pb N M) (hw:NetW N) {i:Nat} {x:Nd} (hx:N.nd[i]? =some x):
  AN Tryz.prog 98 [.d (pD (nb i) 0),.ptr 920 0 0] (HG wb mv bs (Fd nb (BS N)) M) fun r H'=>r= .d (Ak (x.on && Dx N x))∧H'=HG wb mv bs (Fd nb (BS N)) M:=by
 have hxb:=h.n i x hx;have hal:=alone_c bs h hw hx
 obtain ⟨L,hL⟩:∃L,Fd nb (BS N)=L:=⟨_,Z⟩
 rw [hL] at hal⊢;refine BB Tryz.func98 Z Z Tryz.ntmps98 Z Z Z fun F hF=>(AC (AE (AB Z Z ?_)));refine AD (AC (AE (goMv Z Z (J (DQ Z Z) (J (CS Z Eg Z Z Z) (J (EX (f:=40) Z Z (hxb) Z on4 Z) (goMv Z Z (NA 8 Z (fun h8=>?_) (fun h8=>?_)))))))))
 ·refine Ad Z Z Z ?_;refine J (A9 Z Z Z Vc Z) (Ad Z Z Z (goMv Z Z (Ad Z Z Z (V (Eu hal Z [40,50,51] ⟨Z,Z,Z,trivial⟩ Z Z Z Z Z Z Z Z Z) (J (fSq Z Z Z Z) (AB Z Z (AD (A8 ?_))))))));exact ⟨_,[920,40,50,51],_,A7 Z,Z,Z,by rcases Bool.eq_false_or_eq_true x.on with e | e<;>rw [e] at h8⊢<;>first | rfl | (simp at h8),rfl⟩
 ·refine Aa Z Z Z Z (Aa Z Z Z Z (Aa Z Z Z Z (J (DR Z Z Z Z) (AB Z Z (AD (A8 ?_))))));exact ⟨_,[920,40,50,51],_,A7 Z,Z,Z,by rcases Bool.eq_false_or_eq_true x.on with e | e<;>rw [e] at h8⊢<;>first | rfl | (simp at h8),rfl⟩
def NW (N:Net) (i:Nat):Bool:=(N.nd.getD i Bl).on && Dx N (N.nd.getD i Bl)
theorem idxG_c {wb mv:Nat} {nb pb:Nat ->Nat} {N:Net} {M:MF} (bs:Option (List Nat×Nat)) (h:CA wb mv nb pb N M) (hw:NetW N):
  AN Tryz.prog 97 [.d (hdr N.nh N.nd.length),.fn 98 [.ptr 920 0 0]] (HG wb mv bs (Fd nb (BS N)) M) fun r H'=>r= .d (AF (OF (NW N) (List.range N.nd.length)))∧H'=HG wb mv bs (Fd nb (BS N)) M:=by
 have hnr:BK M N.nh Zc 1 ((List.range N.nd.length).map fun i=>BL (nb i)):=h.rs.1 .n;have hz:N.nh=none ->N.nd.length=0:=fun e=>by have h1:=TW hnr e;rw [ωf] at h1;exact h1
 have hnl:=hw.n.1;have hgr:=fun i x hx=>bH (i:=i) (x:=x) bs h hw hx
 obtain ⟨L,hL⟩:∃L,Fd nb (BS N)=L:=⟨_,Z⟩
 rw [hL] at hgr⊢;refine BB Tryz.func97 Z Z Tryz.ntmps97 Z Z Z fun F hF=>(AC (AE (AB Z Z (AD ?_))));refine AC (AC (AE (goMv Z Z (J (Ut hz Z Tryz.underlying175 Z) (goMv Z Z (AD (A5 (B6 (α:=Nat) (fun k=>⟨19,[(0,.d (hdr N.nh N.nd.length)),(1,.fn 98 [.ptr 920 0 0]),(7,(.d (AF (N.nd.length:Int)))),(8,(.d (AF (k:Int))))],HG wb mv bs L M⟩) (fun k=>k≤N.nd.length∧∀x∈(List.range N.nd.length).take k,NW N x=false) (fun k=>N.nd.length - k) (0) (⟨Γ _,by simp⟩) (A1 hF [920,40,50,51] Z Z ⟨Z,Z,Z,Z,trivial⟩) ?_))))))));rintro k ⟨hk0,hk⟩;refine AC (AE (J (BT Z Z Z) (AD (AC (Ah Z (fun h9=>?_) (fun h9=>?_))))))
 ·have hk1:k<N.nd.length:=Bf h9;refine A3 (AC (A5 (AC ?_)));have hkt:k<(List.range N.nd.length).length:=by rw [ωf];exact hk1
  obtain ⟨rb,rc,hre⟩:=T8 hnr hkt;have hrow:=Qk hnr hre
  obtain ⟨z,hz2⟩:∃z,N.nd[k]? =some z:=⟨_,ω hk1⟩
  have hal:=hgr k z hz2;have hon:NW N k=(z.on && Dx N z):=by unfold NW;rw [ϱ,hz2];rfl
  refine AE (goMv Z Z ?_);refine AB Z Z (AD (AC (AE (goMv Z Z (goMv Z Z (goMv Z Z (J (Up hre (k) Z Z Z hk1 Tryz.underlying175 LM Z) (J (Zcp (f:=40) (e:=k) (off:=0) Z (by omega) Z (hrow) ((by rw [η,ψv hk1];rfl)) Z Mu Z) ?_))))))));refine V (YV hal Z [920,40,50,51] ⟨Z,Z,Z,Z,trivial⟩ Z Z Z Z Z Z Z Z Z) (AD (KP Z (fun h16=>?_) (fun h16=>?_)))
  ·refine AC (AE (goMv Z Z (AB Z Z (AD (A8 ?_)))));exact ⟨_,[920,40,50,51],_,A7 Z,Z,Z,Aj (by unfold OF;rw [Gp hkt hk (by rw [ψu,hon];simpa using h16)]),Z⟩
  ·refine A3 (AE (J (Ay Z Z (AT (k+1) (by omega)) Z) (goMv Z Z (AD ?_))));exact ⟨k+1,⟨by show k+1≤_;omega,by rw [φ hkt];intro y hy;rcases ν.1 hy with hy | hy;exact hk y hy;rw [ξ.1 hy,ψu,hon];simpa using h16⟩,by show N.nd.length - (k+1)<N.nd.length - k;omega,A1 hF [920,40,50,51] Z (Z) ⟨Z,Z,Z,Z,trivial⟩⟩
 ·refine BF (AC (AE (AB Z Z (AD (A8 ?_)))));exact ⟨_,[920,40,50,51],_,A7 Z,Z,Z,Aj (by unfold OF;rw [IX (fun x hx=>hk x (by rw [Ξ (by rw [ωf];have h:=h9;omega)];exact hx))]),Z⟩
theorem onN_ers (N:Net):onN (Au N)=onN N:=funext fun i=>by unfold onN;rw [FM];rfl
theorem XX (N:Net):Cq (Au N)=Cq N:=funext fun e=>by unfold Cq;rw [FM,Gt];rfl
theorem YI (N:Net) (x:Nd):Dx (Au N) (EG x)=Dx N x:=by
 have h1:YP (Au N)=YP N:=funext fun e=>by unfold YP;rw [Hr,onN_ers];rfl
 have h2:(fun e:Nat×Int=>QC ((Au N).po.getD e.1 CV) e.2)=fun e=>QC (N.po.getD e.1 CV) e.2:=funext fun e=>by rw [Hr];rfl
 unfold Dx;rw [h1,XX];show (!(x.pl.any (YP N)) &&(!(x.it.af.any fun id=>!Cq N id) && !(x.ef.any fun e:Nat×Int=>QC ((Au N).po.getD e.1 CV) e.2)))=_;rw [h2]
theorem bI (N:Net):NW (Au N)=NW N:=funext fun i=>by unfold NW;rw [FM,YI];rfl
def O0 (po:List Po) (e:Nat×Int):List Po:=match po[e.1]? with
 | some y=>po.set e.1 {y with room:=y.room+e.2}
 | none=>po
theorem WW {po:List Po} {e:Nat×Int} {y:Po} (h:po[e.1]? =some y):O0 po e=po.set e.1 {y with room:=y.room+e.2}:=by unfold O0;rw [h]
theorem TO:∀(l:List (Nat×Int)) (po:List Po),(l.foldl O0 po).map CQ=l.foldl O0 (po.map CQ)
 | [],_=>rfl
 | e::l,po=>by
  rw [List.foldl_cons,List.foldl_cons,TO l]
  congr 1
  unfold O0;rw [η]
  cases po[e.1]? with
  | none=>rfl
  | some y=>show (po.set e.1 _).map CQ=_;rw [List.map_set];rfl
theorem YK {ros:List A2} (hn:(ros.map A2.r).Nodup) (f:A2 ->Po):∀(D:List (AP×Int)),(D.map Prod.fst).Nodup ->(U7 (ros.map A2.r) D).foldl O0 (ros.map f)=ros.map fun x=>{f x with room:=(f x).room+C7 D x.r}:=by
 intro D
 induction D using YR with
 | h0=>
  intro _;show ros.map f=_;refine ωj fun x _=>?_;show f x={f x with room:=(f x).room+0}
  rw [Int.add_zero]
 | h1 D d ih=>
  intro hD;rw [ωc,χp] at hD;have hdn:d.1∉D.map Prod.fst:=fun h=>hD.2.2 _ h _ (List.mem_singleton_self _) rfl;have ih:=ih hD.1
  by_cases hm:d.1∈ros.map A2.r
  ·rw [U6 hm,List.foldl_append,ih];obtain ⟨hj,hr⟩:=MJ hm;show O0 _ ((ros.map A2.r).idxOf d.1,d.2)=_;rw [WW (y:=(fun x=>{f x with room:=(f x).room+C7 D x.r}) ros[(ros.map A2.r).idxOf d.1]) (by rw [η,ω hj];rfl)];refine QZ hj hn ?_ fun x hx hne=>?_
   ·dsimp only;have h1:C7 (D++ [d]) ros[(ros.map A2.r).idxOf d.1].r=d.2:=by rw [hr];exact D1 hdn
    have h2:C7 D ros[(ros.map A2.r).idxOf d.1].r=0:=by rw [hr];exact GJ hdn
    rw [h1,h2,Int.add_zero]
   ·rw [hr] at hne;have:C7 (D++ [d]) x.r=C7 D x.r:=DI hne;rw [this]
  ·rw [Q1 hm,ih];refine ωj fun x hx=>?_;have:C7 (D++ [d]) x.r=C7 D x.r:=DI fun e=>hm (e▸ϖ.2 ⟨x,hx,Z⟩);rw [this]
def Da (on:Nat ->Bool):Nat ->Bool:=fun i=>!on i
def poG (ds:List (List (AP×Int))) (on:Nat ->Bool) (x:A2):Po:=⟨x.r,x.n+GZ ds (Da on) x.r,GZ ds (fun _=>true) x.r,none,negQ ds x.r,(negQ ds x.r).length⟩
def netG (ros:List A2) (its:List AK) (on:Nat ->Bool):Net:=⟨(List.range its.length).map (Qi (ros.map A2.r) its on),ros.map (poG (its.map AR) on),none,none⟩
theorem Wm (ds:List (List (AP×Int))) (r:AP):GZ ds (Da fun _=>true) r=0:=by
 unfold GZ Da
 generalize List.range ds.length=l
 induction l with
 | nil=>rfl
 | cons a l ih=>rw [ωm,φe,ih];rfl
theorem aK (ros:List A2) (its:List AK):netG ros its (fun _=>true)=netS ros its fun _=>true:=by
 unfold netG netS
 congr 1
 refine ωj fun x _=>?_;unfold poG poS;rw [Wm,Int.add_zero,Vs]
theorem sumS_on {ds:List (List (AP×Int))} {i:Nat} (h:i<ds.length) {on:Nat ->Bool} (ho:on i=true) (r:AP):GZ ds (Da (Ac on i)) r=GZ ds (Da on) r+C7 (ds.getD i []) r:=by
 obtain ⟨B,h1,h3⟩:=IN h;unfold GZ;rw [h1,ωc,ωc,ωm,ωm,ψr,ψr,φe,φe]
 have e1:(List.range i).map (fun j=>if Da (Ac on i) j=true then C7 (ds.getD j []) r else 0)=(List.range i).map fun j=>if Da on j=true then C7 (ds.getD j []) r else 0:=ωj fun j hj=>by
  unfold Da;rw [Zcr (by have:=ς.1 hj;omega)]
 have e2:B.map (fun j=>if Da (Ac on i) j=true then C7 (ds.getD j []) r else 0)=B.map fun j=>if Da on j=true then C7 (ds.getD j []) r else 0:=ωj fun j hj=>by
  unfold Da;rw [Zcr (by have:=h3 j hj;omega)]
 have e3:(if Da (Ac on i) i=true then C7 (ds.getD i []) r else 0)=C7 (ds.getD i []) r:=by unfold Da;rw [GA];rfl
 have e4:(if Da on i=true then C7 (ds.getD i []) r else 0)=0:=by unfold Da;rw [ho];rfl
 rw [e1,e2,e3,e4];omega
def grN (N:Net) (i:Nat) (x:Nd):Net:={N with nd:=N.nd.set i (ER x),po:=x.ef.foldl O0 N.po}
theorem gr_S {ros:List A2} {its:List AK} (hn:(ros.map A2.r).Nodup) {on:Nat ->Bool} {N:Net} (h:Au N=netG ros its on) {i:Nat} (hi:i<its.length) (ho:on i=true) {x:Nd} (hx:N.nd[i]? =some x):Au (grN N i x)=netG ros its (Ac on i):=by
 have hnd:N.nd.map EG=(List.range its.length).map (Qi (ros.map A2.r) its on):=Δ Net.nd h;have hpo:N.po.map CQ=ros.map (poG (its.map AR) on):=Δ Net.po h
 have hxe:EG x=Qi (ros.map A2.r) its on i:=by
  have h1:(N.nd.map EG)[i]? =some (EG x):=by rw [η,hx];rfl
  rw [hnd,η,ψv hi] at h1;exact (Option.some.inj h1).symm
 have hef:x.ef=U7 (ros.map A2.r) (AR (its.getD i AY)):=Δ Nd.ef hxe;have hdi:i<(its.map AR).length:=by simpa using hi
 have hgi:(its.map AR).getD i []=AR (its.getD i AY):=by rw [CI [] hdi,CI AY hi,ωd]
 unfold Au grN netG;dsimp only
 congr 1
 ·rw [List.map_set,hnd]
  have:EG (ER x)=Qi (ros.map A2.r) its (Ac on i) i:=by
   have h1:EG (ER x)=ER (EG x):=rfl;rw [h1,hxe];unfold Qi ER Ac;rw [κ rfl]
  rw [this];refine χr fun j=>?_;rw [χq]
  by_cases e:i=j
  ·subst e;rw [κ Z,κ (by simpa using hi),η,ψv hi];rfl
  ·rw [ϑ e,η,η]
   cases hj:(List.range its.length)[j]? with
   | none=>rfl
   | some z=>
    have hz:=χ.1 hj;have:z=j:=by have:=hz.2;simp at this;exact this.symm
    subst this;show some _=some _;unfold Qi Ac;rw [ϑ (fun h=>e h.symm)]
 ·rw [TO,hpo,hef,YK hn _ _ (DC _)];refine ωj fun z _=>?_;unfold poG;dsimp only;rw [sumS_on hdi ho,hgi,Int.add_assoc]
theorem G_q (ros:List A2) (its:List AK) (on:Nat ->Bool) (j:Nat):((netG ros its on).po.getD j CV).q=((netS ros its on).po.getD j CV).q:=by
 show ((ros.map _).getD j CV).q=((ros.map _).getD j CV).q;rw [ϱ,ϱ,η,η]
 cases ros[j]?<;>rfl
theorem G_w {ros:List A2} {its:List AK} (h:SmO ros its) (on:Nat ->Bool):NetW (netG ros its on):=by
 have hS:=S_w h on
 have hq:∀y∈(netG ros its on).po,y.q.length≤30∧y.mi≤30∧ -1000000000000000000≤y.room∧y.room≤1000000000000000000:=fun y hy=>by
  obtain ⟨x,hx,e⟩:=ϖ.1 hy;subst e;have h1:=J8 (its.map AR) x.r;rw [ψ] at h1;have hl:=h.l;have h2:=S_sum h (Da on) x.r;have h3:=h.n x hx;refine ⟨by show (negQ _ _).length≤_;omega,by show (negQ _ _).length≤_;omega,?_,?_⟩
  ·show _≤x.n+GZ (its.map AR) (Da on) x.r;omega
  ·show x.n+GZ (its.map AR) (Da on) x.r≤_;omega
 refine ⟨hS.i,hS.a,hS.l,hS.e,fun x hx e he=>?_,fun y hy=>?_,fun y hy=>(hq y hy).2.2,?_,fun y hy=>?_⟩
 ·rw [G_q];exact hS.p x hx e he
 ·have:=hq y hy;omega
 ·have h1:=hS.n;have h2:(netG ros its on).po.length=(netS ros its on).po.length:=by unfold netG netS;simp
  rw [h2];exact h1
 ·have:=hq y hy;omega
theorem G_nd_at {ros:List A2} {its:List AK} {on:Nat ->Bool} {N:Net} (h:Au N=netG ros its on) {i:Nat} {x:Nd} (hx:N.nd[i]? =some x):i<its.length∧x.on=on i∧x.it=its.getD i AY:=by
 have h1:(N.nd.map EG)[i]? =some (EG x):=by rw [η,hx];rfl
 rw [show N.nd.map EG=(List.range its.length).map (Qi (ros.map A2.r) its on) from Δ Net.nd h] at h1;have hi:i<its.length:=by have:=(χ.1 h1).1;simpa using this
 rw [η,ψv hi] at h1;have h2:EG x=Qi (ros.map A2.r) its on i:=(Option.some.inj h1).symm;exact ⟨hi,Δ Nd.on h2,Δ Nd.it h2⟩
theorem G_len {ros:List A2} {its:List AK} {on:Nat ->Bool} {N:Net} (h:Au N=netG ros its on):N.nd.length=its.length:=by
 have h1:=Δ (fun N=>N.nd.length) h;have h2:(N.nd.map EG).length=((List.range its.length).map _).length:=h1
 rwa [ψ,ψ,ωf] at h2
theorem G_ids {ros:List A2} {its:List AK} {on:Nat ->Bool} {N:Net} (h:Au N=netG ros its on):BS N=its.map AK.id:=by
 rw [←Gt,h];exact TX ros its on
def H8 (ros:List A2) (its:List AK) (on:Nat ->Bool):Option Nat:=(List.range its.length).findIdx? (NW (netG ros its on))
def Lh (ros:List A2) (its:List AK):Nat ->(Nat ->Bool) ->List Int
 | 0,_=> []
 | f+1,on=>match H8 ros its on with
  | none=> []
  | some i=>(its.getD i AY).id::Lh ros its f (Ac on i)
def DA (p:Prb):List Int:=Lh (Cp p) (ordP p) (ordP p).length fun _=>true
theorem NB {ros:List A2} {its:List AK} {on:Nat ->Bool} {i:Nat} (h:H8 ros its on=some i):i<its.length∧on i=true∧NW (netG ros its on) i=true:=by
 unfold H8 at h;rw [List.findIdx?_eq_some_iff_getElem] at h;obtain ⟨hi,h1,_⟩:=h;rw [ωf] at hi;rw [ψu] at h1;refine ⟨hi,?_,h1⟩;unfold NW at h1
 have h2:(netG ros its on).nd.getD i Bl=Qi (ros.map A2.r) its on i:=by
  show ((List.range its.length).map _).getD i Bl=_;rw [CI Bl (by simpa using hi),ωd,ψu]
 rw [h2] at h1;exact (Bool.and_eq_true_iff.1 h1).1
theorem IM {ros:List A2} {its:List AK} {f:Nat} {on:Nat ->Bool} (h:H8 ros its on=none):Lh ros its f on=[]:=by
 cases f with
 | zero=>rfl
 | succ f=>unfold Lh;rw [h]
theorem IL {ros:List A2} {its:List AK} {f:Nat} {on:Nat ->Bool} {i:Nat} (h:H8 ros its on=some i):Lh ros its (f+1) on=(its.getD i AY).id::Lh ros its f (Ac on i):=by
 show (match H8 ros its on with | none=>_ | some i=>_)=_;rw [h]
def Oq (po:List Po) (b:Int):Prop:=∀y∈po,-b≤y.room∧y.room≤b
theorem XH {po:List Po} {b c:Int} (h:Oq po b) (hbc:b≤c) {j:Nat} {y:Po} (hy: -c≤y.room∧y.room≤c):Oq (po.set j y) c:=fun z hz=>by
 rcases χf hz with hz | rfl
 ·have:=h z hz;omega
 ·exact hy
set_option maxHeartbeats 2000000 in
theorem SZ (p:Prb) (hf:GV p) (hE:Az p=0):AO Tryz.prog 43 [.d (CB p)] (.tup [.sl none ((DA p).map AF),AF 0]):=by
 have hbu:=TD p hf hE;have hsm:=sml_P hf hE;unfold DA;rw [aI,←aK] at hbu
 obtain ⟨its,hits⟩:∃its,ordP p=its:=⟨_,Z⟩
 obtain ⟨ros,hros⟩:∃ros,Cp p=ros:=⟨_,Z⟩
 rw [hits,hros] at hbu hsm⊢;have hl:=hsm.l;refine BB Tryz.func43 Z Z Tryz.ntmps43 Z Z Z fun F hF=>?_;refine AC (AE (V (CE 1 Z Z Z Z Z Z Z) (AB Z Z (AB Z Z (AD (AC (AE (J (BO Z Z B8 Z Z Z) ?_))))))));refine Ch (W2 hbu Z [40,50,51] ⟨Z,Z,Z,trivial⟩ Z Z Z Z (fun r H' ⟨_,_,_,_,_,_,_,e1,e2,_⟩=>by subst e1 e2;exact ⟨Z,Z,Z⟩) Z) Z ?_;rintro _ ⟨r,H',⟨wb,mv,nb,pb,N,M,bs,rfl,rfl,hR,hN⟩,rfl⟩;refine goMv Z Z (J (D8 Z Z Z) (J (D8 Z Z Z) (V (CO 920 zl171 Z Z Z Z) (V (Bi Z Z Z Z Z Z Z sz171) (AB Z Z (AD ?_))))));refine AC (AC (AE (goMv Z Z (J (EA Z Z Z) (AD (Db Z (Z) (A3 (AC ?_))))))));rw [G_ids hN];refine AE (AB Z Z (AD (A5 (O4 6 900 B4 Z Z Z Z (B6 (α:=(Nat ->Bool)×Net×MF×List Int×Nat) (fun q=>⟨66,[(4,(.ptr 920 0 0)),(6,(.own 900 0 q.2.2.2.1.length))],(900,[.rowD 3 1 (q.2.2.2.1.map AF)])::HG wb mv bs (Fd nb (its.map AK.id)) q.2.2.1⟩) (fun q=>CA wb mv nb pb q.2.1 q.2.2.1∧Au q.2.1=netG ros its q.1∧EV its.length q.1≤q.2.2.2.2∧q.2.2.2.1.length+q.2.2.2.2≤its.length∧q.2.2.2.1++Lh ros its q.2.2.2.2 q.1=Lh ros its its.length fun _=>true) (fun q=>q.2.2.2.2) ((fun _=>true,N,M,[],its.length)) (⟨hR,hN,bu _ _,by simp,Z⟩) (A1 hF [900,920,40,50,51] Z Z ⟨Z,Z,trivial⟩) ?_)))));rintro ⟨on,N,M,acc,f⟩ ⟨hR,hN,hc,hal,hr1⟩;dsimp only at hR hN hc hal hr1⊢;refine A5 (AC ?_);have hw:=W_ers (N:=N) (by rw [hN];exact G_w hsm on);have hwb:=hR.w;have hnr:BK M N.nh Zc 1 ((List.range N.nd.length).map fun i=>BL (nb i)):=hR.rs.1 .n;have hix:=idxG_c bs hR hw;have hNl:=G_len hN;have hixv:OF (NW N) (List.range N.nd.length)=match H8 ros its on with | some k=>(k:Int) | none=> -1:=by rw [←bI,hN,G_len hN];rfl
 rw [G_ids hN,hixv] at hix;refine AE (J (A9 Z Z Z Vc Z) (J (DQ Z Z) (J (CS Z IY Z Z Z) (J (EX (f:=40) Z Z (hwb) Z GG Z) (J (Zct Z Z) ?_)))))
 cases hne:H8 ros its on<;>rw [hne] at hix
 ·refine V (Eu hix Z [920,40,50,51] ⟨Z,Z,Z,Z,trivial⟩ Z Z Z Z Z Z Z Z Z) (AB Z Z ?_);refine AD (AC (AC (AE (goMv Z Z (J (BT Z Z Z) (AD (D9 Z (Z) (AC ?_))))))));rw [IM hne,ωk] at hr1;refine Lo (emb:=AF) 6 900 acc Z Z Z Z Z Z Z (AE (goMv Z Z (AB Z Z (AB Z Z (AD (A8 ?_))))));exact ⟨_,[],[],A7 Z,Z,Z,by rw [hr1],Z⟩
 ·refine V (Eu hix Z [920,40,50,51] ⟨Z,Z,Z,Z,trivial⟩ Z Z Z Z Z Z Z Z Z) (AB Z Z (AD ?_));refine AC (AC (AE (goMv Z Z (J (BT Z Z Z) (AD (Db Z ((ωp (by show ¬((_:Nat):Int)<0;omega))) (A3 (AC ?_))))))))
  rename_i i
  obtain ⟨hiN,hoi,hgr⟩:=NB hne;have hil2:i<N.nd.length:=by rw [hNl];exact hiN
  obtain ⟨x,hx⟩:∃x,N.nd[i]? =some x:=⟨_,ω hil2⟩
  obtain ⟨_,hon,hit⟩:=G_nd_at hN hx;obtain ⟨rb,rc,hre⟩:=T8 hnr (j:=i) (by rw [ωf];exact hil2);have hrow:=Qk hnr hre;have hcn:=LE hiN hoi
  obtain ⟨f2,rfl⟩:∃f2,f=f2+1:=⟨f - 1,by omega⟩
  have hrs:=IL (f:=f2) hne;have hxm:=ζ hx;have hxb:=(hR.nn i x hx).1;have hez:=TW (hR.nn i x hx).2.1;have hrx:=(hR.nn i x hx).2.1;have hxe:=hR.e x hxm;have h1:=hR.setNd (x':=ER x) hx Z Z Z Z;have hx1:(N.nd.set i (ER x))[i]? =some (ER x):=by rw [List.getElem?_set_self hil2]
  have he:=hw.e x hxm;have hel:=(hw.l x hxm).1;have hrB:Oq N.po 1000000000000000000:=hw.rm;refine AE (J (A9 Z Z Z Vc Z) (J (DQ Z Z) (J (CS Z IY Z Z Z) (J (EX (f:=40) Z Z (hwb) Z GG Z) (goMv Z Z (J (Up hre (i) Z Z Z hil2 Tryz.underlying175 LM Z) (J (Zcp (f:=40) (e:=i) (off:=0) Z (by omega) Z (hrow) ((by rw [η,ψv hil2];rfl)) Z Mu Z) ?_)))))));refine AB Z Z (AD (AC ?_));refine AE (goMv Z Z (J (DQ Z Z) (J (CS Z Eg Z Z Z) (V (O2 (f:=40) Z Z Z Z (hxb) ((by show _<9;omega)) Z sz4) (AD (AC (AC (AE ?_))))))));refine goMv Z Z (J (DQ Z Z) (J (CS Z Js Z Z Z) (J (EX (f:=40) Z Z ((Fm _ _ _)) Z V9 Z) (J (Ut hez Z Tryz.underlying181 Z) (goMv Z Z (AD (A5 (B6 (α:=Nat×List Po×MF) (fun q=>⟨66,[(4,(.ptr 920 0 0)),(6,(.own 900 0 acc.length)),(8,(.d (pD (nb i) 0))),(41,(.d (hdr x.eh x.ef.length))),(42,(.d (AF (x.ef.length:Int)))),(43,(.d (AF (q.1:Int))))],(900,[.rowD 3 1 (acc.map AF)])::HG wb mv bs (Fd nb (its.map AK.id)) q.2.2⟩) (fun q=>q.1≤x.ef.length∧q.2.1=(x.ef.take q.1).foldl O0 N.po∧CA wb mv nb pb {N with nd:=N.nd.set i (ER x),po:=q.2.1} q.2.2∧Oq q.2.1 (1000000000000000000+100000000000000000*(q.1:Int))∧q.2.1.length=N.po.length) (fun q=>x.ef.length - q.1) ((0,N.po,B1 M (nb i) (T6 (ER x)))) (⟨Γ _,Z,h1,by show Oq N.po (1000000000000000000+100000000000000000*((0:Nat):Int));simpa using hrB,Z⟩) (A1 hF [900,920,40,50,51] Z Z ⟨Z,Z,Z,Z,Z,Z,trivial⟩) ?_))))))));rintro ⟨k,po,M2⟩ ⟨hk0,hpo,hR2',hS,hpol⟩;dsimp only at hk0 hpo hR2' hS hpol⊢;refine AC (AE (J (BT Z Z Z) (AD (AC (Ah Z (fun h44=>?_) (fun h44=>?_))))))
  ·have hk1:k<x.ef.length:=Bf h44;refine A3 (AC (A5 (AC ?_)));obtain ⟨eb,ec,hee⟩:=T8 hrx hk1;have hrow2:=Qk (hR2'.nn i (ER x) hx1).2.1 hee;have hjl:x.ef[k].1<po.length:=by rw [hpol];exact hxe.1 _ (θ hk1)
   obtain ⟨y,hy⟩:∃y,po[x.ef[k].1]? =some y:=⟨_,ω hjl⟩
   have hyb:=hR2'.p _ y hy;have hys:=hS y (ζ hy);have heb:=he _ (θ hk1);refine AE ?_;refine J (Up hee (k) Z Z Z hk1 Tryz.underlying181 RB Z) (J (Dc (f:=40) (e:=k) Z (Z) Z (hrow2) (Ag hk1) Z ZR Z) (V (CO 2 Y1 Z Z Z Z) (V (Bi Z Z Z Z Z Z Z RB) (AD (Cc [[],[0],[0,1],[0,1,2],[0,1,2,3],[],[5],[0,1,2,3,4,5,6],[0,1,2,3,4,5,6,7],[0,1,2,3,4,5,6,7,8],[0,1,2,3,4,5,6,7,8,9]] mixed Z (Cj (AI [10] [] Z Z (fun _=>AG (A4 Z QX Z Z Z)) (AI [47] [2] Z Z (fun _=>AG (A9 Z Z Z E8 Z)) ?_))))))));refine AI [48] [] Z Z (fun _=>AG (DQ Z Z)) (AI [49] [] Z Z (fun _=>AG (CS Z QV Z Z Z)) (AI [50] [40] Z Z (fun _=>AG (EX (f:=40) Z Z (hyb) Z Kg Z)) (AI [10] [] Z Z (fun _=>AG (A4 Z QW Z Z Z)) (AI [52] [2] Z Z (fun _=>AG (A9 Z Z Z Kg Z)) (C1 7 Z Z Z (Ae 8 Z Z (J (Ay Z Z (Υ _ (by omega)) Z) (AD ⟨Z,?_⟩))))))));refine Ae 9 Z Z (J (DQ Z Z) (AD ⟨Z,?_⟩));refine Ae 10 Z Z (J (CS Z QV Z Z Z) (AD ⟨Z,?_⟩));refine Ae 11 Z Z (V (O2 (f:=40) Z Z Z Z (hyb) ((by show _<10;omega)) Z sz2) (AD ⟨Z,?_⟩));refine C6 (AE (J (Ay Z Z (AT (k+1) (by omega)) Z) (goMv Z Z (AD ?_))));exact ⟨(k+1,po.set x.ef[k].1 {y with room:=y.room+x.ef[k].2},B1 M2 (pb x.ef[k].1) (T4 {y with room:=y.room+x.ef[k].2})),⟨by show k+1≤_;omega,by show po.set _ _=_;rw [Ku hk1,←hpo,WW hy],hR2'.setPo hy Z Z,by show Oq _ (1000000000000000000+100000000000000000*((k+1:Nat):Int));exact XH hS (by omega) (by show _≤y.room+x.ef[k].2∧y.room+x.ef[k].2≤_;omega),by show (po.set _ _).length=_;rw [ψd];exact hpol⟩,by show x.ef.length - (k+1)<x.ef.length - k;omega,A1 hF [900,920,40,50,51] Z (Z) ⟨Z,Z,Z,Z,Z,Z,trivial⟩⟩
  ·refine BF ?_;have hpo1:po=x.ef.foldl O0 N.po:=by rw [hpo,Ξ (by have h:=h44;omega)]
   have hR2:CA wb mv nb pb (grN N i x) M2:=by unfold grN;rw [←hpo1];exact hR2'
   have hxb1:=(hR2'.nn i (ER x) hx1).1;refine AE (goMv Z Z ?_);refine goMv Z Z (J (DQ Z Z) (J (CS Z F9 Z Z Z) (J (CS Z MV Z Z Z) (J (EX (f:=40) Z Z (hxb1) Z Aq Z) (V (Dz 3 B4 Z Z Z Z Z Z Z Z) (V (I8 (acc) ([x.it.id]) Z Z Z Z Z Z Z Z B4 (by simp only [Ψ];omega) Z Z Z Z) (AB Z Z (AD ?_))))))));exact ⟨(Ac on i,grN N i x,M2,acc++ [x.it.id],f2),⟨hR2,gr_S hsm.r hN hiN hoi hx,by show EV its.length (Ac on i)≤f2;omega,by show (acc++ [x.it.id]).length+f2≤_;rw [Θ];simp;omega,by show (acc++ [x.it.id])++Lh ros its f2 (Ac on i)=_;rw [ψm,←hr1,hrs,hit];rfl⟩,by show f2<f2+1;omega,A1 hF [900,920,40,50,51] Z (Z) ⟨Z,Z,trivial⟩⟩
def TQ (a:List UInt8):T0:=⟨a,0,[67,65,83,72]⟩
def OP (id:Int) (a b:List UInt8) (n:Int):AK:=⟨id,0,id,[⟨TQ a,0 - n⟩,⟨TQ b,n⟩],[],[]⟩
deriving instance DecidableEq for OC
theorem OC.eq_iff {x y:OC}:x=y↔x.id=y.id∧x.re=y.re∧x.r=y.r∧x.by_=y.by_:=by cases x;cases y;simp
def rcK (a:UInt8):AP:=⟨0,TQ [a],[],[]⟩
def nmK:List (List UInt8):=[[65],[66],[67]]
def Pw:List A2:=[⟨rcK 65,0⟩,⟨rcK 66,0⟩,⟨rcK 67,0⟩]
theorem ers_S (ros:List A2) (its:List AK) (on:Nat ->Bool):Au (netS ros its on)=netS ros its on:=by
 unfold Au netS;dsimp only;rw [ωv,ωv]
 rfl
theorem Xx (n:Nat):EV n (fun _=>true)=n:=by
 unfold EV;rw [List.filter_eq_self.2 fun _ _=>rfl,ωf]
theorem run_len {ros:List A2} {its:List AK} (hi:(its.map AK.id).Nodup):∀(f:Nat) (on:Nat ->Bool),(FV ros its f on).1.length+EV its.length (FV ros its f on).2=EV its.length on:=by
 intro f
 induction f with
 | zero=>intro on;show 0+_=_;rw [ψs];rfl
 | succ f ih=>
  intro on
  cases hn:FK (netS ros its on) with
  | none=>rw [RX hn];show 0+_=_;rw [ψs]
  | some e=>
   obtain ⟨i,x,hx,hon,hid⟩:=Vm hn;obtain ⟨hiN,hoi,hit⟩:=Qf (ers_S ros its on) hx;rw [hon] at hoi;have hil:i<(its.map AK.id).length:=by rw [ψ];exact hiN
   have hei:(its.map AK.id)[i]=e.id:=by rw [hid,hit,ωd,CI AY hiN]
   rw [RW hn,←hei,PW hi hil];have h1:=ih (Ac on i);have h2:=LE hiN hoi.symm;show (FV ros its f (Ac on i)).1.length+1+EV its.length (FV ros its f (Ac on i)).2=EV its.length on;omega
theorem Xb (p:Prb):(largeS p).length=EV (ordP p).length (L0 p).2:=by
 unfold largeS EQ EV;rw [ψ]
theorem bR {p:Prb} (hE:Az p=0):(L0 p).1.length+(largeS p).length=p.it.length:=by
 have h1:ordP p=BJ p.it:=κ hE;have h:=run_len (ros:=Cp p) (Ee hE) (ordP p).length fun _=>true;rw [Xx] at h;rw [Xb];unfold L0;rw [h,h1,DH]
theorem Jd {p:Prb} (hE:Az p=0):largeS p=((ordP p).map AK.id).filter fun x=>decide (x∈largeS p):=QD (Ee hE) _
theorem Xa {p:Prb} (hE:Az p=0) {y:Int} (hy:y∈largeS p):y∈p.it.map AK.id:=by
 have h1:ordP p=BJ p.it:=κ hE;rw [Jd hE,h1] at hy;exact ((W5 p.it).map AK.id).mem_iff.1 (ωa.1 hy).1
theorem Hj {p:Prb} (hE:Az p=0):(largeS p).Nodup:=by
 rw [Jd hE];exact (Ee hE).sublist ψi
theorem Kp {p:Prb} (hE:Az p=0):(largeS p).length≤p.it.length:=by have:=bR hE;omega
structure Qh (R:Int ->Int ->Prop) (l Y:List A2):Prop where
 len:Y.length=l.length
 at_:∀(j:Nat) x y,l[j]? =some x ->Y[j]? =some y ->y.r=x.r∧ -4*Mx≤y.n∧y.n≤4*Mx∧R x.n y.n
theorem Qh.set {R:Int ->Int ->Prop} {l Y:List A2} (h:Qh R l Y) {k:Nat} (hk:k<Y.length) {n:Int} (h1: -4*Mx≤n∧n≤4*Mx) (h2:∀x,R x Y[k].n ->R x n):Qh R l (Y.set k ⟨Y[k].r,n⟩):=
 ⟨by rw [ψd];exact h.len,fun j x y hx hy=>by
  rw [χq] at hy
  split at hy
  ·rename_i e;subst e
   first | (rw [κ hk] at hy;injection hy with hy;subst hy) | (injection hy with hy;subst hy)
   have:=h.at_ k x _ hx (ω hk);exact ⟨this.1,h1.1,h1.2,h2 _ this.2.2.2⟩
  ·exact h.at_ j x y hx hy⟩
theorem Qh.map {R:Int ->Int ->Prop} {l Y:List A2} (h:Qh R l Y):Y.map A2.r=l.map A2.r:=by
 refine χc (by rw [ψ,ψ,h.len]) fun j h1 h2=>?_;rw [ψ] at h1 h2;rw [ωd,ωd];exact (h.at_ j _ _ (ω h2) (ω h1)).1
theorem Qh.mem {R:Int ->Int ->Prop} {l Y:List A2} (h:Qh R l Y):∀y∈Y,∃x∈l,y.r=x.r∧ -4*Mx≤y.n∧y.n≤4*Mx∧R x.n y.n:=fun y hy=>by
 obtain ⟨j,hj,rfl⟩:=χb.1 hy;have hj':j<l.length:=by rw [←h.len];exact hj
 exact ⟨l[j],θ hj',h.at_ j _ _ (ω hj') (ω hj)⟩
theorem mx_v:Mx=1000000000000000:=rfl
theorem Qh.b {R:Int ->Int ->Prop} {l Y:List A2} (h:Qh R l Y) {k:Nat} (hk:k<Y.length): -4000000000000000≤Y[k].n∧Y[k].n≤4000000000000000:=by
 obtain ⟨x,_,_,h2,h3,_⟩:=h.mem _ (θ hk);rw [mx_v] at h2 h3;exact ⟨by omega,by omega⟩
section
variable {P:Program} {F:Fr} {s:AS} {d:Nat} {ty:TypeId} {pos:String} {aft:Array Edge} {g:Option (Nat×Bool)} {at_:Array TypeId}
end
def allL (p:Prb):List Int:=(BJ p.it).map AK.id
def wthI (id:Int) (y:AK):AK:=⟨y.id,y.pr,y.sq,y.po,y.pa,Ux y.af id⟩
def VU (id:Int) (its:List AK):List AK:=(its.filter fun y=>decide (y.id≠id)).map (wthI id)
def set1 (p:Prb) (id:Int):Prb:=⟨p.ro.map fun x=>⟨x.r,x.n+CR (Bm p id) x.r⟩,VU id p.it⟩
theorem Wz (id:Int) (its:List AK):(VU id its).length≤its.length:=by
 unfold VU;rw [ψ];exact ωh _ _
structure Mid (p:Prb) (b:Int):Prop where
 f:GV p
 r:(p.ro.map A2.r).Nodup
 n:∀x∈p.ro,-b≤x.n∧x.n≤b
theorem Mid.set {p:Prb} {b:Int} (h:Mid p b) (id:Int):Mid (set1 p id) (b+1000000000000000):=by
 refine ⟨⟨?_,?_,fun x hx=>?_⟩,?_,fun x hx=>?_⟩
 ·have:=Wz id p.it;have h1:=h.f.i;show (VU id p.it).length≤30;omega
 ·show (p.ro.map _).length≤100;rw [ψ];exact h.f.r
 ·obtain ⟨y,hy,rfl⟩:=ϖ.1 hx;have h1:=h.f.x y (ωa.1 hy).1;exact ⟨h1.1,h1.2.1,ωe (ωh _ _) h1.2.2⟩
 ·show ((p.ro.map _).map A2.r).Nodup;rw [ωv];exact h.r
 ·obtain ⟨y,hy,rfl⟩:=ϖ.1 hx;have h1:=h.n y hy;have h2:=be (Bm p id) y.r;show -(b+1000000000000000)≤y.n+CR (Bm p id) y.r∧y.n+CR (Bm p id) y.r≤b+1000000000000000;omega
noncomputable def grossR:Nat ->Prb ->List Int
 | 0,_=> []
 | f+1,p=>match (allL p).find? fun id=>decide (bP p [id]) with
  | none=> []
  | some id=>id::grossR f (set1 p id)
structure GI (G:List Int) (p:Prb) (acc:List Int) (f:Nat) (ag:Bool):Prop where
 m:Mid p (34000000000000000 - 1000000000000000*(f:Int))
 l:(allL p).length≤f
 a:acc.length+f≤30
 v:(ag=true ->acc++grossR f p=G)∧(ag=false ->acc=G)
def cb (its:List AK) (on:Nat ->Bool) (u:List Int):Prop:=∀j,j<its.length ->(on j=true↔(its.getD j AY).id∉u)
theorem cb.off {its:List AK} (hn:(its.map AK.id).Nodup) {on:Nat ->Bool} {u:List Int} (hu:cb its on u) {i:Nat} (hi:i<its.length):cb its (Ac on i) (u++ [(its.getD i AY).id]):=fun j hj=>by
 rw [ν,ξ,not_or]
 by_cases e:j=i
 ·subst e;rw [GA];simp
 ·rw [Zcr e];exact ⟨fun h=>⟨(hu j hj).1 h,fun e2=>e (id_inj hn hj hi e2)⟩,fun h=>(hu j hj).2 h.1⟩
theorem RY {ros:List A2} {its:List AK}:∀(f:Nat) (on:Nat ->Bool),(Lh ros its f on).length≤f
 | 0,_=>υ _
 | f+1,on=>by
  cases hn:H8 ros its on with
  | none=>rw [IM hn];exact Γ _
  | some i=>rw [IL hn];have:=RY (ros:=ros) (its:=its) f (Ac on i);simp;exact this
abbrev bkD (x:Int×A2):D:= .agg [AF x.1,AF x.2.r.k,Ao x.2.r.acc.o,AF x.2.r.acc.k,Ao x.2.r.acc.a,Ao x.2.r.f,Ao x.2.r.t,AF x.2.n]
noncomputable def vio1L (p:Prb) (id:Int):List A2:=La p (BA (cloS p [id]))
noncomputable def bkOf (p:Prb) (id:Int):Option (Int×A2):=if id∈largeS p then none else (vio1L p id).head?.map fun x=>(id,x)
noncomputable def bksL (p:Prb):List (Int×A2):=((BJ p.it).map AK.id).filterMap (bkOf p)
theorem TK {p:Prb} {id:Int} (h:id∈largeS p):bkOf p id=none:=κ h
theorem cK {p:Prb} {id:Int} (h:¬0<(vio1L p id).length):bkOf p id=none:=by
 unfold bkOf
 split
 ·rfl
 ·rw [φi.1 (show (vio1L p id).length=0 by omega)];rfl
theorem bk_some {p:Prb} {id:Int} (h1:id∉largeS p) (h:0<(vio1L p id).length):bkOf p id=some (id,(vio1L p id)[0]):=by
 unfold bkOf;rw [ϑ h1,List.head?_eq_getElem?,ω h]
 rfl
theorem QN {α β:Type} {f:α ->Option β} {l:List α} {k:Nat} (hk:k<l.length):(l.take (k+1)).filterMap f=(l.take k).filterMap f++(f l[k]).toList:=by
 rw [φ hk,List.filterMap_append]
 cases h:f l[k] with
 | none=>simp [h]
 | some b=>simp [h]
theorem Q8 {p:Prb} (hp:Az p=0) {l:List Int} (hn:l.Nodup) (hS:∀x∈l,x∈p.it.map AK.id):C3 p l=0:=by
 unfold C3;rw [ϑ (by omega)];unfold Mf;refine W4.2 fun k hk=>?_;have hk':=ς.1 hk;unfold Fc;rw [CI 0 hk',ϑ (fun h=>h (hS _ (θ hk'))),ϑ (MD hn hk')]
theorem cloG_in {p:Prb} {S:List Int}:∀y∈cloS p S,y∈p.it.map AK.id:=fun y hy=>by
 unfold cloS at hy;exact (ωa.1 ((Cx _).mem_iff.1 hy)).1
theorem cloG_nd {p:Prb} (hp:Az p=0) (S:List Int):(cloS p S).Nodup:=by
 unfold cloS;exact (Cx _).nodup_iff.2 (List.Nodup.sublist ψi (DL (O3 hp).2.1))
theorem getV {l:List A2} (h:0<l.length):(l.map CZ)[0]? =some (CZ l[0]):=Ag h
set_option maxHeartbeats 2000000 in
theorem YE (p:Prb) (hf:GV p) (hE:Az p=0):AO Tryz.prog 31 [.d (CB p)] (.tup [.sl none ((bksL p).map bkD),AF 0]):=by
 have hlk:=JA p hf hE;have hi30:=hf.i;have hr100:=hf.r;have hod:=H6 p hf.b;rw [show ordP p=BJ p.it from κ hE] at hod;have hll:=Kp hE;have hSl:=DH p.it;have hclo:=fun {id:Int} (hid:id∈p.it.map AK.id)=>closF_c p [id] hf.b (by simp) (by omega) (by omega) (Q8 hE (by simp) fun x hx=>by rw [ξ.1 hx];exact hid) (by simp) fun x hx=>by rw [ξ.1 hx];exact hid
 have hvio:∀id:Int,AO Tryz.prog 28 [.d (CB p),.d (MG (cloS p [id]))] (.tup [.sl none ((vio1L p id).map CZ),AF 0]):=fun id=>by
  have h:=violF_p p (cloS p [id]) hf.b (by have:=cC (p:=p) (l:=[id]);omega);rw [Q8 hE (cloG_nd hE _) cloG_in,κ rfl] at h;exact h
 obtain ⟨L,hL⟩:∃L,(BJ p.it).map AK.id=L:=⟨_,Z⟩
 have hLl:L.length≤30:=by rw [←hL,ψ,hSl];omega
 have hLm:∀x∈L,x∈p.it.map AK.id:=fun x hx=>by rw [←hL] at hx;exact ((W5 p.it).map AK.id).mem_iff.1 hx
 have hbe:bksL p=L.filterMap (bkOf p):=by unfold bksL;rw [hL]
 rw [hL] at hod;rw [hbe];refine BB Tryz.func31 Z Z Tryz.ntmps31 Z Z Z fun F hF=>?_;refine AC (AE (V (CE 1 Z Z Z Z Z Z Z) (AB Z Z (AB Z Z (AD (AC (AE (J (BO Z Z B8 Z Z Z) ?_))))))));refine J (BZ (hlk) Z Z) (goMv Z Z (J (D8 Z Z Z) (J (D8 Z Z Z) (AB Z Z (AB Z Z (AD (AC (AC ?_))))))));refine AE (goMv Z Z (J (EA Z Z Z) (AD (Db Z (ωp (by decide)) (A3 (AC (AE (goMv Z Z ?_))))))));refine Ch (W2 (Fu (largeS p) (Hj hE) (by omega)) Z [41] ⟨Z,trivial⟩ Z Z Z Z (fun r H' ⟨b,N,e1,e2,_⟩=>by subst e1 e2;exact ⟨Z,Z,Z⟩) Z) Z ?_;rintro _ ⟨r,H',⟨b,N,e1,e2,hW⟩,rfl⟩;subst e1 e2;refine AB Z Z (AD (AC (AE (AB Z Z (AD (AC (AC ?_)))))));refine AE (J (BO Z Z B8 Z Z Z) (J (BZ (hod) Z Z) (J (Bz Z Tryz.underlying28 Z) (goMv Z Z (AD (A5 (O4 7 10 sl30 Z Z Z Z (B6 (α:=Nat×List (Int×A2)) (fun q=>⟨65,[(1,(.ptr 1 0 0)),(6,(.d (Wd b))),(7,(.own 10 0 q.2.length)),(25,(.d (MG L))),(26,(.d (AF (L.length:Int)))),(27,(.d (AF (q.1:Int))))],[(1,[.blk 39 [.d (.sl none (p.ro.map CZ)),.d (.sl none (p.it.map Al))]]),(41,[.multi N]),(10,[.rowD 66 8 (q.2.map bkD)])]⟩) (fun q=>q.1≤L.length∧q.2=(L.take q.1).filterMap (bkOf p)∧q.2.length≤q.1) (fun q=>L.length - q.1) ((0,[])) (⟨Γ _,Z,Γ _⟩) (A1 hF [1,41,10] Z Z ⟨Z,Z,Z,Z,Z,Z,trivial⟩) ?_))))))));rintro ⟨k,T⟩ ⟨hk,hT,hTl⟩;dsimp only at hk hT hTl⊢;refine AC (AE (J (BT Z Z Z) (AD (AC (Ah Z (fun h28=>?_) (fun h28=>?_))))))
 ·refine A3 (AC (A5 (AC ?_)));have hkl:k<L.length:=Bf h28;have hid:=hLm _ (θ hkl);refine AE (J (Bb (k) Z Z (Z) (Ag hkl) Tryz.underlying28 Z BD Z) (J (Cm Z Z Aq Z) (AB Z Z ?_)));refine AD (AC (AC (AE (goMv Z Z (goMv Z Z (V (YV (IG hW L[k]) Z [41] ⟨Z,trivial⟩ Z Z Z Z Z Z Z Z Z) (AD (Ah Z (fun h33=>?_) (fun h33=>?_)))))))))
  ·refine BF (AE (J (Ay Z Z (AT (k+1) (by omega)) Z) (goMv Z Z (AD ?_))));exact ⟨(k+1,T),⟨hkl,by show _=(L.take (k+1)).filterMap _;rw [QN hkl,TK h33,hT];simp,by show T.length≤k+1;omega⟩,by show L.length - (k+1)<L.length - k;omega,A1 hF [1,41,10] Z (Z) ⟨Z,Z,Z,Z,Z,Z,trivial⟩⟩
  ·refine A3 (AC (AE (J (BO Z Z B8 Z Z Z) (goMv Z Z (V (Dz 20 B4 Z Z Z Z Z Z Z Z) ?_)))));refine Zcs (emb:=AF) 37 20 [L[k]] Z Z Z Z Z Z Z (V (Eu (hclo hid) Z [900] ⟨Z,trivial⟩ Z Z Z Z Z Z Z Z Z) (goMv Z Z (J (Cu Z Z Z) (J (Cu Z Z Z) (AB Z Z (AB Z Z (AD (AC ?_))))))));refine Lo (emb:=AF) 10 900 (cloS p [L[k]]) Z Z Z Z Z Z Z (AE (J (BO Z Z B8 Z Z Z) (goMv Z Z (J (BZ (hvio L[k]) Z Z) (goMv Z Z (J (D8 Z Z Z) (J (D8 Z Z Z) (AB Z Z ?_))))))));refine AB Z Z (AD (AC (AE (goMv Z Z (J (JN Z (ψ ..) Tryz.underlying69 Z) (J (KK Z Z Z) (AD (Ah Z (fun h49=>?_) (fun h49=>?_)))))))))
   ·have hv0:0<(vio1L p L[k]).length:=Bf h49;refine Cc [[],[],[],[2],[2,3],[2,3,4],[],[6],[6,7],[6,7,8],[1,2,3,4,5,6,7,8,9],[1,2,3,4,5,6,7,8,9,10],[0,1,2,3,4,5,6,7,8,9,10,11],[0,1,2,3,4,5,6,7,8,9,10,11,12]] mixed Z (Cj (AI [7] [] Z Z (fun _=>AG (Ai Z Z)) (AI [9] [] Z Z (fun _=>AG (Ai Z Z)) (AI [12] [] Z Z (fun _=>AG (Ai Z Z)) (AI [52] [] Z Z (fun _=>AG (Bb (0) Z Z (Z) (getV hv0) Tryz.underlying69 Z sz73 Z)) (AI [53] [] Z Z (fun _=>AG (Zcq Z fi73_0 Z Z Z)) (AI [54] [] Z Z (fun _=>AG (GW Z Z CY Z)) (AI [12] [] Z Z (fun _=>AG (Ai Z Z)) ?_))))))));refine AI [56] [] Z Z (fun _=>AG (Bb (0) Z Z (Z) (getV hv0) Tryz.underlying69 Z sz73 Z)) (AI [57] [] Z Z (fun _=>AG (Zcd Z fi73_1 Z Z Z)) (AI [58] [] Z Z (fun _=>AG (Cm Z Z Kg Z)) (AI [51,55,59] [] Z Z (fun _=>AG (Fe zl66 pl66 Z Z Z)) (Fo [60] [30] [(61,_)] Z Z (fun _=>Fq (Dz 30 sl30 Z Z Z Z Z Z Z Z)) (.inr ⟨61,_,Z,Z,Z,Z,Z⟩) Z Z Z Z Z (C1 12 Z Z Z (Ae 13 Z Z (V (I8 (T) ([(L[k],(vio1L p L[k])[0])]) Z Z Z Z Z Z Z Z sl30 (by simp only [Ψ];omega) Z Z Z Z) (AD ⟨Z,?_⟩))))))));refine Ae 14 Z Z (AB Z Z (AD ⟨Z,?_⟩));refine C6 (AE (J (Ay Z Z (AT (k+1) (by omega)) Z) (goMv Z Z (AD ?_))));exact ⟨(k+1,T++ [(L[k],(vio1L p L[k])[0])]),⟨hkl,by show _=(L.take (k+1)).filterMap _;rw [QN hkl,bk_some h33 hv0,hT];rfl,by show (T++ [_]).length≤k+1;rw [Θ];simp only [Ψ];omega⟩,by show L.length - (k+1)<L.length - k;omega,A1 hF [1,41,10] Z (Z) ⟨Z,Z,Z,Z,Z,Z,trivial⟩⟩
   ·refine A3 (AE (J (Ay Z Z (AT (k+1) (by omega)) Z) (goMv Z Z (AD ?_))));exact ⟨(k+1,T),⟨hkl,by show _=(L.take (k+1)).filterMap _;rw [QN hkl,cK (fun h=>h49 (by exact_mod_cast h)),hT];simp,by show T.length≤k+1;omega⟩,by show L.length - (k+1)<L.length - k;omega,A1 hF [1,41,10] Z (Z) ⟨Z,Z,Z,Z,Z,Z,trivial⟩⟩
 ·refine BF (AC ?_);have hke:k=L.length:=by have:=h28;omega
  refine Lo (emb:=bkD) 7 10 T Z Z Z Z Z Z Z ?_;rw [show T=L.filterMap (bkOf p) by rw [hT,hke,ωt]];refine AE (goMv Z Z (AB Z Z (AB Z Z (AD (A8 ?_)))));exact ⟨_,[],[],A7 Z,Z,Z,Z,Z⟩
end Go.Proofs.YteifpcnphnhaoaaGreat
namespace Go.Proofs.YteifpcnphnhaoaaGreat
open Go.RowKit Go.Shelf
open Go.Sort (putRow Holds PermIn SortedIn SWO mapBlock onCells putCells)
variable {P:Program}
section
variable {ρr:Ren} {τ:Type}
theorem Yw (L:SlLaysF.n6 P ρr) {E:TypeId} {g g6:FuncId} {fn:Func} (hfn:P.funcs[g]? =some fn) (hnm:(fn.name== "runtime.NumGoroutine")=false) {c:Code} (hbody:fn.body=some c)
  {emb:τ ->D} (hag:∀x,(emb x).cells=[emb x]) (cf:τ ->τ ->Int) (hO:SWO (ltOf cf)) (xs ys0:List τ) (jk:List D) (hsz:xs.length<4611686018427387904) (hc:∀x∈xs,∀y∈xs,AO P g [.d (emb x),.d (emb y)] (.raw (.int .i64 (cf x y))))
  (hu:∀ys:List τ,ys.Perm xs ->ys.Pairwise (fun a b=>¬cf b a<0) ->ys=ys0)
  {F:Fr} {s:AS} {d:Nat} {x y:Operand} {ty:TypeId} {pos:String} {aft:Array Edge} {gd:Option (Nat×Bool)} {at_:Array TypeId} {f n:Nat} {fa:AV} {row:List D} {hp':Hp}
  (hg:ρr.f 6=g6) (hx:s.ev x=some (.own f 0 n)) (hy:s.ev y=some fa) (hfa:∀w O ρ v,AW w O ρ fa v ->v= .func (.func g) #[] #[]) (ho:hget s.hp f 0=some (.rowD E 1 row)) (hrow:row=xs.map emb++jk) (hn:n=xs.length) (hh:BP s.hp f 0 (.rowD E 1 (ys0.map emb++jk))=some hp') (hd:Nat.blt d s.n=true):
  AJ P F ⟨some d,.call {callee:= .value (.func g6),args:= #[x,y],argTypes:=at_},ty,pos,aft,gd⟩ s ⟨s.n,(d,.d (.tup []))::s.env,hp'⟩ (fun _ _=>true):=by
 subst hg hrow hn;intro ρ act w hs
 obtain ⟨fn6,hf1,hf2,hf3⟩:∃fn,P.funcs[ρr.f 6]? =some fn∧(fn.name== "runtime.NumGoroutine")=false∧fn.body.isSome=true:=by
  obtain ⟨nm,hn,hf⟩:=L.f6;exact ⟨_,hf,hn,Z⟩
 unfold Oper.wp;rw [show (#[x,y]:Array Operand)=[x,y].toArray from rfl,DW hf1 hf2 hf3,Oper.upon_enter]
 suffices key:Calls P (ρr.f 6) ([x,y].map act.eval).toArray w fun e w'=>e= .returned (.tuple #[])∧SR F ⟨s.n,s.env,hp'⟩ ρ act w' by
  refine key.mono fun e w' ⟨e1,hsr⟩=>?_;subst e1;exact ⟨ρ,hsr.put (IC hd) (.d (.tup Z fun i c v hc=>by cases hc)),fun _ _ _=>rfl⟩
 have r0:=hs.ev hx;have r1:=hfa _ _ _ _ (hs.ev hy);have hg0:=ho;have h3:=hs.heap;have hset:=Am hh;obtain ⟨us,q1,q2,q3⟩:=h3.sim f 0 _ hg0;show Calls P (ρr.f 6) #[act.eval x,act.eval y] w _;rw [r1]
 generalize act.eval x=V0 at r0
 cases r0 with
 | own hρ hle=>
  rename_i N cap a
  by_cases hx:xs=[]
  ·subst hx;refine (AnyF.slices_SortFunc_none {L with} a cap _ w).mono fun e w' ⟨e1,e2⟩=>?_;subst e1 e2;refine ⟨Z,hs.writeG f 0 _ _ ho hset Z Z Z (υ _) (υ _) (fun _ _ _=>rfl) (fun _ _ e=>by cases e) fun hrep=>?_⟩;rw [←hu [] (List.Perm.refl _) List.Pairwise.nil]
   have hO2:∀b',F.O ρ hp' b' ->F.O ρ s.hp b':=fun b' h=>h.imp id fun ⟨g,i,o,h1,h2⟩=>by
    rw [hset] at h1
    split at h1
    ·rename_i e;obtain ⟨rfl,rfl⟩:=e;exact ⟨g,0,_,hg0,h2⟩
    ·exact ⟨g,i,o,h1,h2⟩
   exact ⟨us,q1,⟨q2.1,q2.2.1,fun i x hx j c hc=>by
    obtain ⟨u,h1,h2,h4⟩:=q2.2.2 i x hx j c hc
    exact ⟨u,h1,h2,h4.mono (υ _) (fun _ _ _=>rfl) fun b' _=>hO2 b'⟩⟩,q3⟩
  ·have hn:0<xs.length:=χh.2 hx;have hul:us.length=xs.length+jk.length:=by have:=q2.1;rwa [Θ,ψ,χv] at this
   have hblkeq:∃b cur,a=some ⟨b,0,none⟩∧w.heap[b]? =some (.cells cur E (0,0))∧cur.size=cap∧xs.length+jk.length≤cap∧cap≤maxLen∧cur.toList.take (xs.length+jk.length)=us∧N=xs.length+jk.length:=by
    rcases q1.2 with ⟨_,h⟩ | ⟨b,cap',cur,e1,_,e2,e3,e4,e5,e6⟩
    ·rw [Θ,ψ] at h;omega
    ·rw [hρ] at e1;injection e1 with e1 e7 e8
     subst e1 e8;rw [Θ,ψ] at e3 e6 e7;exact ⟨b,cur,Z,e2,by omega,e3,e4,by rwa [χv] at e6,e7⟩
   obtain ⟨b,cur,rfl,p1,p2,p3,p3',p4,rfl⟩:=hblkeq;have hb:B9 (ρ f 0)=some b:=by rw [hρ];rfl
   have hOb:F.O ρ s.hp b:= .inr ⟨f,0,_,hg0,hb⟩;have hlt:b<w.heap.size:=(ωs.1 p1).1;have hOl:∀b',F.O ρ s.hp b' ->b'<w.heap.size:=fun b' h=>h3.ltO h
   have hus:∀i,i<xs.length+jk.length ->us[i]? =cur[i]?:=fun i hi=>by
    have h:=Δ (·[i]?) p4
    change (cur.toList.take (xs.length+jk.length))[i]? =us[i]? at h
    rw [ψf hi,ψn] at h;exact h.symm
   let x0:τ:=xs[0]
   let ix:Nat ->Nat:=fun i=>if i<xs.length then i else 0
   have hix:∀i,ix i<xs.length:=fun i=>by show (if _ then _ else _)<_;split<;>omega
   let el:Nat ->τ:=fun i=>(xs[ix i]?).getD x0
   have hel:∀i,el i∈xs:=fun i=>by
    show (xs[ix i]?).getD x0∈xs;rw [ω (hix i)];exact θ (hix i)
   have heli:∀i (hi:i<xs.length),el i=xs[i]:=fun i hi=>by
    show (xs[ix i]?).getD x0=_;rw [show ix i=i from κ hi,ω hi];rfl
   let enc:Nat ->Value:=fun i=>(us[ix i]?).getD undef
   have henc:∀i,us[ix i]? =some (enc i):=fun i=>by
    have h:ix i<us.length:=by have:=hix i;omega
    show us[ix i]? =some ((us[ix i]?).getD undef);rw [ω h];rfl
   let cf':Nat ->Nat ->Int:=fun i j=>cf (el i) (el j)
   have hO':SWO (ltOf cf'):=⟨fun x=>hO.irrefl (el x),fun x y z=>hO.trans (el x) (el y) (el z),fun x y z=>hO.ntrans (el x) (el y) (el z)⟩
   have hrow:∀i,((xs.map emb++jk)[ix i]?)=some (emb (el i)):=fun i=>by
    rw [ψa (by rw [ψ];exact hix i),η,ω (hix i)];show some (emb _)=some (emb ((xs[ix i]?).getD x0));rw [ω (hix i)];rfl
   have hrep0:∀i,(enc i).oneCell'=true∧AQ w (F.O ρ s.hp) (emb (el i)) (enc i):=fun i=>by
    obtain ⟨u,h1,h2,h4⟩:=q2.2.2 _ _ (hrow i) 0 (emb (el i)) (by rw [hag];rfl);rw [χv,χo,henc] at h1;injection h1 with h1;subst h1
    exact ⟨h2,h4⟩
   have henc1:OneCell enc:=fun i=>(hrep0 i).1;have hd0:∀i,i<xs.length ->(Array.range xs.length)[i]! =i:=fun i hi=>by rw [getElem!_pos _ i (by simpa using hi)];simp
   have hcu:∀i,i<xs.length ->cur[i]? =some (enc i):=fun i hi=>by
    rw [←hus i (by omega)];have:=henc i
    rwa [show ix i=i from κ hi] at this
   have hH:Holds enc w b 0 (Array.range xs.length):=by
    intro j hj;simp only [φc] at hj;rw [hd0 _ hj];refine ⟨?_,?_⟩
    ·simp only [World.cell?,p1,ψs];rw [hcu j hj];rfl
    ·simp only [World.frozen?,p1]
     simp
   have hcmp:CmpLays1 P g #[] enc cf' b 0 (Array.range xs.length).size w:=by
    intro m os dk _ x y;have hWs:w.heap.size≤(sortWorld enc w b 0 m dk os).heap.size:=G4;have hW:∀b',b'<w.heap.size ->¬F.O ρ s.hp b' ->(sortWorld enc w b 0 m dk os).heap[b']? =w.heap[b']?:=fun b' hl hno=>Zb3 (fun e=>hno (e▸hOb)) hl;have ra:=(hrep0 x).2.mono hWs hW (fun _ _ h=>h);have rb:=(hrep0 y).2.mono hWs hW (fun _ _ h=>h)
    refine (Py (hc (el x) (hel x) (el y) (hel y)) (w:=sortWorld enc w b 0 m dk os) (fun b' h=>ψt (hOl b' h) hWs) (vs:=[enc x,enc y]) Z (fun i a v ha hv=>?_)).mono fun e w' ⟨v,e1,e2,e3,e4,e5⟩=>⟨?_,NV e3 e4 e5⟩
    ·match i,ha,hv with
     | 0,ha,hv=>injection ha with ha;injection hv with hv;subst ha hv;exact .d ra
     | 1,ha,hv=>injection ha with ha;injection hv with hv;subst ha hv;exact .d rb
    ·cases e2 with
     | raw _=>exact e1
   have eg:∀args w,(callFunc g args).run P w= .ok (.enter g args) w:=enters_of hfn hnm hbody;have key:=Any.slices_SortFunc L enc henc1 cf' hO' g #[] b 0 cap (Array.range xs.length) w eg hcmp hH hlt (by simpa using hsz);rw [φc] at key;refine key.mono fun e w' ⟨e1,d',n,os,hp,hsort,hw⟩=>?_;subst e1 hw;obtain ⟨s1,_,s3⟩:=hp;rw [φc] at s1
   have hperm:d'.toList.Perm (List.range xs.length):=by
    have e1:d'.extract 0 xs.length=d':=by rw [←s1];exact Array.extract_size
    have e2:(Array.range xs.length).extract 0 xs.length=Array.range xs.length:=by
     conv=>lhs;arg 3;rw [←φc (n:=xs.length)]
     exact Array.extract_size
    rw [e1,e2] at s3
    simpa using s3
   refine ⟨Z,?_⟩
   have hys:d'.toList.map el=ys0:=by
    apply hu
    ·refine (hperm.map el).trans (List.Perm.of_eq ?_)
     apply χc (by simp)
     intro i h5 h6;simp only [ωd,ψu];exact heli i h6
    ·rw [ωq];intro i j hi hj hij;simp only [ψ,χi] at hi hj;have:=hsort i j (Γ _) hij (by omega);rw [getElem!_pos _ j hj,getElem!_pos _ i hi] at this;simp only [ltOf,decide_eq_false_iff_not] at this
     simpa using this
   have hlen':ys0.length=xs.length:=by rw [←hys];simp [s1]
   have hWs:w.heap.size≤(sortWorld enc w b 0 n d' os).heap.size:=G4;have hW:∀b',b'<w.heap.size ->¬F.O ρ s.hp b' ->(sortWorld enc w b 0 n d' os).heap[b']? =w.heap[b']?:=fun b' hl hno=>Zb3 (fun e=>hno (e▸hOb)) hl
   have hheap:(sortWorld enc w b 0 n d' os).heap[b]? =some (.cells (putCells enc 0 d' cur) E (0,0)):=by
    unfold sortWorld;rw [Go.Sort.heap_grow_old _ _ (by rw [Go.Sort.size_putRow];exact hlt)];show (w.heap.modify b _)[b]? =_;rw [ψw,κ Z,p1];rfl
   have hcs:(putCells enc 0 d' cur).size=cap:=by simp only [putCells,Array.size_mapIdx];omega
   have hO2:∀b',F.O ρ hp' b' ->F.O ρ s.hp b':=fun b' h=>h.imp id fun ⟨g,i,o,h1,h2⟩=>by
    rw [hset] at h1
    split at h1
    ·rename_i e;obtain ⟨rfl,rfl⟩:=e;exact ⟨g,0,_,hg0,h2⟩
    ·exact ⟨g,i,o,h1,h2⟩
   have hget:∀i,i<xs.length+jk.length ->(putCells enc 0 d' cur).toList[i]? =if h:i<xs.length then some (enc (d'[i]'(by omega))) else us[i]?:=fun i hi=>by
    rw [ψn,ωl (by omega)];simp only [putCells,Array.getElem_mapIdx]
    by_cases h:i<xs.length
    ·rw [κ ⟨Γ _,by omega⟩,dif_pos h];simp only [Nat.sub_zero];rw [getElem!_pos _ i (by omega)]
    ·rw [ϑ (fun h2=>h (by omega)),dif_neg h,hus i hi,ωl (by omega)]
   refine hs.writeG f 0 _ _ ho hset Z Z Z hWs (Nat.le_add_right _ _) (fun b' hl hno=>Zb3 (fun e=>hno (by rw [e];exact hb)) hl) (fun _ _ e=>by cases e) fun hrep=>?_;have hlr:(ys0.map emb++jk).length=xs.length+jk.length:=by rw [Θ,ψ,hlen']
   have hlu:((putCells enc 0 d' cur).toList.take (xs.length+jk.length)).length=(ys0.map emb++jk).length*1:=by
    have e2:(putCells enc 0 d' cur).toList.length=cap:=hcs;rw [hlr,χv,Ω,e2];exact Nat.min_eq_left p3
   refine ⟨(putCells enc 0 d' cur).toList.take (xs.length+jk.length),⟨hlu,.inr ⟨b,cap,_,by rw [hρ,hlr],Γ _,hheap,by rw [hlr];exact p3,p3',by omega,by rw [hlr,χv]⟩⟩,⟨hlu,fun x hx2=>?_,fun i x hx2 j c hc2=>?_⟩,fun x hx2 c hc2=>?_⟩
   ·rcases ν.1 hx2 with h | h
    ·obtain ⟨y,_,rfl⟩:=ϖ.1 h;rw [hag];rfl
    ·exact q2.2.1 _ (ν.2 (.inr h))
   ·have hi:i<xs.length+jk.length:=by rw [←hlr];exact (χ.1 hx2).1
    by_cases h:i<xs.length
    ·rw [ψa (by rw [ψ];omega),η,←hys,η,ψn,ωl (by omega)] at hx2;injection hx2 with hx2;subst hx2
     rw [hag] at hc2
     match j,hc2 with
     | 0,hc2=>
      injection hc2 with hc2;subst hc2
      exact ⟨_,by rw [χv,χo,ψf hi,hget i hi,dif_pos h],(hrep0 _).1,(hrep0 _).2.mono hWs hW fun b' _=>hO2 b'⟩
    ·rw [ωr (by rw [ψ];omega),ψ,hlen'] at hx2;obtain ⟨u,h1,h2,h4⟩:=q2.2.2 i x (by rw [ωr (by rw [ψ];omega),ψ];exact hx2) j c hc2
     have hj:j=0:=by
      have h1:x.cells.length=1:=q2.2.1 x (ν.2 (.inr (ζ hx2)));have:=(χ.1 hc2).1;omega
     subst hj;rw [χv,χo] at h1;exact ⟨u,by rw [χv,χo,ψf hi,hget i hi,dif_neg h];exact h1,h2,h4.mono hWs hW fun b' _=>hO2 b'⟩
   ·rcases ν.1 hx2 with h | h
    ·obtain ⟨y,_,rfl⟩:=ϖ.1 h;rw [hag] at hc2
     obtain ⟨k,hk⟩:∃k,el k=y∨y∉xs:=by
      by_cases hy:y∈xs
      ·obtain ⟨k,hk,e⟩:=χb.1 hy;exact ⟨k,.inl ((heli k hk).trans e)⟩
      ·exact ⟨0,.inr hy⟩
     have hyx:y∈xs:=by
      rename_i hy
      rw [←hys] at hy;obtain ⟨q,_,rfl⟩:=ϖ.1 hy;exact hel q
     exact q3 (emb y) (ν.2 (.inl (ϖ.2 ⟨y,hyx,Z⟩))) c (by rw [hag];exact hc2)
    ·exact q3 x (ν.2 (.inr h)) c hc2
end
end Go.Proofs.YteifpcnphnhaoaaGreat
