import Derived.Test.YteifpcnphnhaoaaGreatMg25
namespace Go.Proofs.YteifpcnphnhaoaaGreat
open Go.RowKit
set_option maxRecDepth 100000
abbrev HL (lst:List Nat):Hp:=[(5,[.blk 28 [.own 6 0 lst.length]]),(6,[.rowD 3 1 (lst.map AM)])]
theorem lessL_c (lst:List Nat) (a b:Nat) (ha:a<lst.length) (hb:b<lst.length):AN Tryz.prog 182 [.d (AM a),.d (AM b),.ptr 5 0 0] (HL lst) fun r H'=>r= .d (Ak (decide (nth lst a<nth lst b)))∧H'=HL lst:=by
 refine BB Tryz.func182 Z Z Tryz.ntmps182 Z Z Z fun F hF=>(AC ?_);refine AE (AB Z Z (AD (AC (Cc [[],[],[0,1],[0,1,2],[],[],[4,5],[4,5,6],[0,1,2,3,4,5,6,7],[0,1,2,3,4,5,6,7,8]] mixed Z (Cj (As [2] Z Z (fun _=>AG (A9 Z Z Z BC Z)) (AI [0] [] Z Z (fun _=>AG (Ai Z Z)) (As [6,7] Z Z (fun _=>AG (Bu (a) Z Z (Z) (ha) Z Tryz.underlying28 BD Z)) ?_))))))));refine As [8] Z Z (fun _=>AG (CC Z Z (Ks ha) Z Aq Z)) (As [2] Z Z (fun _=>AG (A9 Z Z Z BC Z)) (AI [1] [] Z Z (fun _=>AG (Ai Z Z)) (As [10,11] Z Z (fun _=>AG (Bu (b) Z Z (Z) (hb) Z Tryz.underlying28 BD Z)) (As [12] Z Z (fun _=>AG (CC Z Z (Ks hb) Z Aq Z)) (C1 8 Z Z Z (Ae 9 Z Z (J (BT Z Z Z) (AD ⟨Z,?_⟩))))))));refine Ae 10 Z Z (AB Z Z (AD ⟨Z,?_⟩));refine C6 (A8 ?_);exact ⟨_,[5,6],_,A7 Z,Z,Z,bdec Int.ofNat_lt,Z⟩
abbrev L8 (lst:List Nat) (l j:List Nat):Hp:=[(1,[.blk 323 [.own 2 0 l.length,.fn 182 [.ptr 5 0 0]]]),(2,[.rowD 3 1 ((l++j).map AM)]),(5,[.blk 28 [.own 6 0 lst.length]]),(6,[.rowD 3 1 (lst.map AM)])]
theorem S5 {l j:List Nat} {i:Nat} (h:i<l.length):((l++j).map AM)[i]? =some (AM (nth l i)):=by
 rw [Ks (by rw [Θ];omega),MC h]
theorem UN (lst:List Nat) (l j:List Nat):AN Tryz.prog 223 [.ptr 1 0 0] (L8 lst l j) fun r H'=>r= .d (AM l.length)∧H'=L8 lst l j:=by
 refine BB Tryz.func223 Z Z Tryz.ntmps223 Z Z Z fun F hF=>(AC (AE (AB Z Z (AD (AC ?_)))));refine AE (goMv Z Z (J (KN Z Z) (J (A4 Z W0 Z Z Z) (J (A9 Z Z Z BC Z) (J (LJ Z Tryz.underlying28 Z) (AB Z Z (AD (A8 ?_))))))));exact ⟨_,[1,2,5,6],_,A7 Z,Z,Z,Z,Z⟩
theorem Jc (lst:List Nat) (l j:List Nat) (hl:∀x∈l,x<lst.length) (a b:Nat) (ha:a<l.length) (hb:b<l.length):AN Tryz.prog 296 [.ptr 1 0 0,.d (AM a),.d (AM b)] (L8 lst l j) fun r H'=>r= .d (Ak (decide (nth lst (nth l a)<nth lst (nth l b))))∧H'=L8 lst l j:=by
 have hcl:=lessL_c lst (nth l a) (nth l b) (hl _ (Ct ha)) (hl _ (Ct hb));refine BB Tryz.func296 Z Z Tryz.ntmps296 Z Z Z fun F hF=>(AC (AE ?_));refine AB Z Z (AD (AC (Cc [[],[0],[0,1],[0,1,2],[],[4],[4,5],[4,5,6],[],[4,5,6,7,8],[4,5,6,7,8,9],[],[11],[11,12],[11,12,13],[],[11,12,13,14,15],[11,12,13,14,15,16],[0,1,2,3,4,5,6,7,8,9,10,11,12,13,14,15,16,17],[0,1,2,3,4,5,6,7,8,9,10,11,12,13,14,15,16,17,18]] mixed Z (Cj (AI [0] [] Z Z (fun _=>AG (Ai Z Z)) (AI [7] [] Z Z (fun _=>AG (KN Z Z)) (AI [8] [] Z Z (fun _=>AG (A4 Z fi323_1 Z Z Z)) (As [9] Z Z (fun _=>AG (A9 Z Z Z on283 Z)) ?_))))))));refine AI [0] [] Z Z (fun _=>AG (Ai Z Z)) (AI [11] [] Z Z (fun _=>AG (KN Z Z)) (AI [12] [] Z Z (fun _=>AG (A4 Z W0 Z Z Z)) (As [13] Z Z (fun _=>AG (A9 Z Z Z BC Z)) (AI [1] [] Z Z (fun _=>AG (Ai Z Z)) (As [14,15] Z Z (fun _=>AG (Bu (a) Z Z (Z) (ha) Z Tryz.underlying28 BD Z)) (As [16] Z Z (fun _=>AG (CC Z Z (S5 ha) Z Aq Z)) (AI [0] [] Z Z (fun _=>AG (Ai Z Z)) (AI [18] [] Z Z (fun _=>AG (KN Z Z)) ?_))))))));refine AI [19] [] Z Z (fun _=>AG (A4 Z W0 Z Z Z)) (As [20] Z Z (fun _=>AG (A9 Z Z Z BC Z)) (AI [2] [] Z Z (fun _=>AG (Ai Z Z)) (As [21,22] Z Z (fun _=>AG (Bu (b) Z Z (Z) (hb) Z Tryz.underlying28 BD Z)) (As [23] Z Z (fun _=>AG (CC Z Z (S5 hb) Z Aq Z)) (C1 18 Z Z Z (Ae 19 Z Z (V (YV hcl Z [5,6] ⟨Z,Z,trivial⟩ Z Z Z Z Z Z Z Z Z) (AD ⟨Z,?_⟩))))))));refine Ae 20 Z Z (AB Z Z (AD ⟨Z,?_⟩));refine C6 (A8 ?_);exact ⟨_,[1,2,5,6],_,A7 Z,Z,Z,Z,Z⟩
theorem JR (lst:List Nat) (l j:List Nat) (a b:Nat) (ha:a<l.length) (hb:b<l.length):AN Tryz.prog 299 [.ptr 1 0 0,.d (AM a),.d (AM b)] (L8 lst l j) fun r H'=>r= .tup []∧H'=L8 lst (IH l a b) j:=by
 have hl1:a<(l++j).length:=by rw [Θ];omega
 have hl2:b<((l++j).set a (nth l b)).length:=by rw [ψd,Θ];omega
 refine BB Tryz.func299 Z Z Tryz.ntmps299 Z Z Z fun F hF=>(Cc [[],[0],[0,1],[0,1,2],[],[],[5],[5,6],[5,6,7],[],[],[10],[10,11],[10,11,12],[],[10,11,12,13,14],[10,11,12,13,14,15],[],[17],[17,18],[17,18,19],[],[17,18,19,20,21],[17,18,19,20,21,22],[0,1,2,3,4,5,6,7,8,10,11,12,13,14,15,16,17,18,19,20,21,22,23],[0,1,2,3,4,5,6,7,8,10,11,12,13,14,15,16,17,18,19,20,21,22,23,24],[0,1,2,3,4,5,6,7,8,9,10,11,12,13,14,15,16,17,18,19,20,21,22,23,24,25],[0,1,2,3,4,5,6,7,8,9,10,11,12,13,14,15,16,17,18,19,20,21,22,23,24,25,26]] mixed Z (Cj (AI [0] [] Z Z (fun _=>AG (Ai Z Z)) (AI [6] [] Z Z (fun _=>AG (KN Z Z)) (AI [7] [] Z Z (fun _=>AG (A4 Z W0 Z Z Z)) ?_)))));refine As [8] Z Z (fun _=>AG (A9 Z Z Z BC Z)) (AI [1] [] Z Z (fun _=>AG (Ai Z Z)) (AI [0] [] Z Z (fun _=>AG (Ai Z Z)) (AI [11] [] Z Z (fun _=>AG (KN Z Z)) (AI [12] [] Z Z (fun _=>AG (A4 Z W0 Z Z Z)) (As [13] Z Z (fun _=>AG (A9 Z Z Z BC Z)) (AI [2] [] Z Z (fun _=>AG (Ai Z Z)) (AI [0] [] Z Z (fun _=>AG (Ai Z Z)) (AI [16] [] Z Z (fun _=>AG (KN Z Z)) ?_))))))));refine AI [17] [] Z Z (fun _=>AG (A4 Z W0 Z Z Z)) (As [18] Z Z (fun _=>AG (A9 Z Z Z BC Z)) (AI [2] [] Z Z (fun _=>AG (Ai Z Z)) (As [19,20] Z Z (fun _=>AG (Bu (b) Z Z (Z) (hb) Z Tryz.underlying28 BD Z)) (As [21] Z Z (fun _=>AG (CC Z Z (S5 hb) Z Aq Z)) (AI [0] [] Z Z (fun _=>AG (Ai Z Z)) (AI [23] [] Z Z (fun _=>AG (KN Z Z)) (AI [24] [] Z Z (fun _=>AG (A4 Z W0 Z Z Z)) (As [25] Z Z (fun _=>AG (A9 Z Z Z BC Z)) ?_))))))));refine AI [1] [] Z Z (fun _=>AG (Ai Z Z)) (As [26,27] Z Z (fun _=>AG (Bu (a) Z Z (Z) (ha) Z Tryz.underlying28 BD Z)) (As [28] Z Z (fun _=>AG (CC Z Z (S5 ha) Z Aq Z)) (As [9,10] Z Z (fun _=>AG (Bu (a) Z Z (Z) (ha) Z Tryz.underlying28 BD Z)) (Fo [30,22] [2] [] Z Z (fun _=>Fq (Fw (emb:=AM) (l++j) (nth l b) Z Z Z Z Z Z hl1 Z BD)) (.inl ⟨Z,Z⟩) Z Z Z Z Z (C1 26 Z Z Z (Ae 27 Z Z (J (Bu (b) Z Z (Z) (hb) Z Tryz.underlying28 BD Z) (AD ⟨Z,?_⟩))))))));refine Ae 28 Z Z (V (Fw (emb:=AM) ((l++j).set a (nth l b)) (nth l a) Z Z Z Z Z Z hl2 Z BD) (AD ⟨Z,?_⟩));refine C6 ?_;exact ⟨_,[1,2,5,6],_,A7 Z,Z,Z,Z,by rw [L8,Im,←swpJ ha hb]⟩
theorem aQ (lst:List Nat) (l j:List Nat) (x:Nat) (hl:l.length≤1000000):AN Tryz.prog 298 [.ptr 1 0 0,.d (.raw (.iface 3 (.int .i64 (x:Int))))] (L8 lst l j) fun r H'=>r= .tup []∧H'=L8 lst (l++ [x]) []:=by
 refine BB Tryz.func298 Z Z Tryz.ntmps298 Z Z Z fun F hF=>(Cc [[],[],[1],[1,2],[1,2,3],[],[5],[5,6],[1,2,3,4,5,6,7],[0,1,2,3,4,5,6,7,8],[0,1,2,3,4,5,6,7,8,9],[0,1,2,3,4,5,6,7,8,9,10]] mixed Z (Cj (AI [0] [] Z Z (fun _=>AG (Ai Z Z)) (AI [0] [] Z Z (fun _=>AG (Ai Z Z)) (AI [5] [] Z Z (fun _=>AG (KN Z Z)) (AI [6] [] Z Z (fun _=>AG (A4 Z W0 Z Z Z)) ?_))))));refine As [7] Z Z (fun _=>AG (A9 Z Z Z BC Z)) (AI [1] [] Z Z (fun _=>AG (Ai Z Z)) (AI [9] [] Z Z (fun _=>AG (Mc Z pt3 Z Z)) (Fo [10] [20] [(11,_)] Z Z (fun _=>Fq (Dz 20 B4 Z Z Z Z Z Z Z Z)) (.inr ⟨11,_,Z,Z,Z,Z,Z⟩) Z Z Z Z Z (Fo [8,11] [1,2,5,6,20] [(12,_)] Z Z (fun _=>Fq (FB Z Z Z (by simp) Z Z (by simp) B4 (by omega) Z Z (takeJ l j) Z Z)) (.inr ⟨12,_,Z,Z,Z,Z,Z⟩) Z Z Z Z Z (C1 9 Z Z Z (Ae 10 Z Z (J (KN Z Z) (AD ⟨Z,?_⟩))))))));refine Ae 11 Z Z (J (A4 Z W0 Z Z Z) (AD ⟨Z,?_⟩));refine Ae 12 Z Z (V (Bi Z Z Z Z Z Z Z CG) (AD ⟨Z,?_⟩));refine C6 ?_;exact ⟨_,[1,2,5,6],_,A7 Z,Z,Z,Z,by rw [L8];simp⟩
theorem mpopB_c (lst:List Nat) (l j:List Nat) (hl:l≠ []) (hlb:l.length≤1000000):AN Tryz.prog 297 [.ptr 1 0 0] (L8 lst l j) fun r H'=>r= .d (.raw (.iface 3 (.int .i64 (nth l (l.length - 1):Int))))∧H'=L8 lst (l.take (l.length - 1)) ([nth l (l.length - 1)]++j):=by
 have h0:0<l.length:=χh.2 hl;have hpe:((l.length:Int) - 1)=((l.length - 1:Nat):Int):=by omega
 have hpl:l.length - 1≤((l++j).map AM).length:=by rw [ψ,Θ];omega
 refine BB Tryz.func297 Z Z Tryz.ntmps297 Z Z Z fun F hF=>(AC (AE (AB Z Z ?_)));refine AD (AC (Cc [[],[0],[0,1],[0,1,2],[],[4],[4,5],[4,5,6],[4,5,6,7],[4,5,6,7,8],[0,1,2,3,4,5,6,7,8,9],[0,1,2,3,4,5,6,7,8,9,10],[0,1,2,3,4,5,6,7,8,9,10,11]] mixed Z (Cj (AI [0] [] Z Z (fun _=>AG (Ai Z Z)) (AI [4] [] Z Z (fun _=>AG (KN Z Z)) (AI [5] [] Z Z (fun _=>AG (A4 Z W0 Z Z Z)) (As [6] Z Z (fun _=>AG (A9 Z Z Z BC Z)) (AI [0] [] Z Z (fun _=>AG (Ai Z Z)) ?_))))))));refine AI [8] [] Z Z (fun _=>AG (KN Z Z)) (AI [9] [] Z Z (fun _=>AG (A4 Z W0 Z Z Z)) (As [10] Z Z (fun _=>AG (A9 Z Z Z BC Z)) (AI [11] [] Z Z (fun _=>AG (LJ Z Tryz.underlying28 Z)) (AI [12] [] Z Z (fun _=>AG (LI Z Z (Υ _ (by omega)) Z)) (C1 10 Z Z Z (Ae 11 Z Z (J (Bu (l.length - 1) Z Z (hpe) (by omega) Z Tryz.underlying28 BD Z) (AD ⟨Z,?_⟩))))))));refine Ae 12 Z Z (J (CC Z Z (S5 (by omega)) Z Aq Z) (AD ⟨Z,?_⟩));refine Ae 13 Z Z (AB Z Z (AD ⟨Z,?_⟩));refine C6 (AC ?_);refine Cc [[],[],[1],[1,2],[1,2,3],[],[5],[5,6],[5,6,7],[5,6,7,8],[5,6,7,8,9],[1,2,3,4,5,6,7,8,9,10],[0,1,2,3,4,5,6,7,8,9,10,11],[0,1,2,3,4,5,6,7,8,9,10,11,12],[0,1,2,3,4,5,6,7,8,9,10,11,12,13]] mixed Z (Cj (AI [0] [] Z Z (fun _=>AG (Ai Z Z)) (AI [0] [] Z Z (fun _=>AG (Ai Z Z)) (AI [17] [] Z Z (fun _=>AG (KN Z Z)) (AI [18] [] Z Z (fun _=>AG (A4 Z W0 Z Z Z)) (As [19] Z Z (fun _=>AG (A9 Z Z Z BC Z)) (AI [0] [] Z Z (fun _=>AG (Ai Z Z)) (AI [21] [] Z Z (fun _=>AG (KN Z Z)) ?_))))))));refine AI [22] [] Z Z (fun _=>AG (A4 Z W0 Z Z Z)) (As [23] Z Z (fun _=>AG (A9 Z Z Z BC Z)) (AI [24] [] Z Z (fun _=>AG (LJ Z Tryz.underlying28 Z)) (AI [25] [] Z Z (fun _=>AG (LI Z Z (Υ _ (by omega)) Z)) (As [20,26] Z Z (fun _=>AG (DF (l.length - 1) Z Z hpe hpl Z Tryz.underlying28 BD Z)) (C1 12 Z Z Z (Ae 13 Z Z (J (KN Z Z) (AD ⟨Z,?_⟩))))))));refine Ae 14 Z Z (J (A4 Z W0 Z Z Z) (AD ⟨Z,?_⟩));refine Ae 15 Z Z (V (Bi Z Z Z Z Z Z Z CG) (AD ⟨Z,?_⟩));refine C6 (AC (AE (goMv Z Z (J (Ff pt3 Z Z) (AB Z Z (AD (A8 ?_)))))));exact ⟨_,[1,2,5,6],_,A7 Z,Z,Z,Z,by rw [L8,popJ h0,Ω,Nat.min_eq_left (by omega)]⟩
theorem quoWB (i:Nat) (h:i≤1000000):IntKind.i64.wrap (Int.tdiv ((i:Int) - 1) 2)=(((i - 1) / 2:Nat):Int):=by
 rw [quo2];exact Υ _ (by omega)
theorem upB_c (lst:List Nat) (l j:List Nat) (k:Nat) (hk:k<l.length) (hlb:l.length≤1000000) (hl:∀x∈l,x<lst.length):AN Tryz.prog 262 [.ifc 321 none 1 0,.d (AM k)] (L8 lst l j) fun r H'=>r= .tup []∧H'=L8 lst (Qx (nth lst) k l k) j:=by
 refine BB Tryz.func262 Z Z Tryz.ntmps262 Z Z Z fun F hF=>(A5 (B6 (α:=Nat×List Nat×Nat) (fun q=>⟨23,[(0,.ifc 321 none 1 0),(1,(.d (AM q.2.2)))],L8 lst q.2.1 j⟩) (fun q=>q.2.2≤q.1∧q.2.2<q.2.1.length∧q.2.1.length≤1000000∧Qx (nth lst) q.1 q.2.1 q.2.2=Qx (nth lst) k l k∧∀x∈q.2.1,x<lst.length) (fun q=>q.2.2) ((k,l,k)) (⟨υ _,hk,hlb,Z,hl⟩) (A1 hF [1,2,5,6] Z Z ⟨Z,Z,trivial⟩) ?_));rintro ⟨f,m,i⟩ ⟨hq1,hq2,hq3,hq4,hq5⟩;dsimp only at hq1 hq2 hq3 hq4⊢;have hp2:(i - 1) / 2<m.length:=by omega
 refine A5 (AC (AE (goMv Z Z (J (LI Z Z (Υ _ (by omega)) Z) (J (st_quo Z Z (by omega) (quoWB i (by omega)) Z) (AB Z Z ?_))))));refine AD (AC (AC (AE (goMv Z Z (goMv Z Z (J (KJ Z Z Z) (goMv Z Z (Id 11 Z (fun h11=>?_) (fun h11=>?_)))))))))
 ·refine Aa Z Z Z Z (Aa Z Z Z Z (Aa Z Z Z Z (Aa Z Z Z Z (Aa Z Z Z Z (J (fSq Z Z Z Z) (AD (D9 Z Z (BF ?_))))))));have e0:i=0:=by omega
  exact ⟨_,[1,2,5,6],_,A7 Z,Z,Z,Z,by rw [←hq4,e0,Y7]⟩
 ·refine Ad Z Z Z (goMv Z Z (Ad Z Z Z (goMv Z Z ?_)));refine Ad Z Z Z (goMv Z Z (Ad Z Z Z (V (W1 SB (Jc lst m j hq5 i ((i - 1) / 2) hq2 hp2) Z [1,2,5,6] ⟨Z,Z,Z,Z,trivial⟩ Z Z Z Z Z Z Z Z Z) (Ad Z Z Z (J (Nz Z Z) (J (DR Z Z Z Z) (AD (Ah Z (fun h17=>?_) (fun h17=>?_)))))))))
  ·refine BF ?_;exact ⟨_,[1,2,5,6],_,A7 Z,Z,Z,Z,by rw [←hq4,Y8 (by simpa using h17)]⟩
  ·refine A3 (AC ?_);have hi0:i≠0:=fun e=>by subst e;exact h11 rfl
   have h17x:(nth lst) (nth m i)<(nth lst) (nth m ((i - 1) / 2)):=χs.1 h17;refine AE ?_;refine goMv Z Z (goMv Z Z (goMv Z Z (V (W1 SA (JR lst m j ((i - 1) / 2) i hp2 hq2) Z [1,2,5,6] ⟨Z,Z,Z,Z,trivial⟩ Z Z Z Z Z Z Z Z Z) (AD (AE (goMv Z Z (AB Z Z (AD ?_))))))));exact ⟨(f - 1,IH m ((i - 1) / 2) i,(i - 1) / 2),⟨by show (i - 1) / 2≤f - 1;omega,by show _<(IH _ _ _).length;rw [Im];exact hp2,by show (IH _ _ _).length≤_;rw [Im];exact hq3,by show Qx _ (f - 1) _ _=_;rw [←hq4,←upF_go hi0 h17x,show f - 1+1=f by omega],fun x hx=>hq5 x ((DU hp2 hq2).mem_iff.1 hx)⟩,by show (i - 1) / 2<i;omega,A1 hF [1,2,5,6] Z (Z) ⟨Z,Z,trivial⟩⟩
theorem U8 {K:Nat ->Nat} {n i:Nat} {l:List Nat} (h1:2*i+2<n) (h2:K (nth l (2*i+2))<K (nth l (2*i+1))):I0 K n l i=2*i+2:=κ ⟨h1,h2⟩
theorem LA {K:Nat ->Nat} {n i:Nat} {l:List Nat} (h:¬(2*i+2<n∧K (nth l (2*i+2))<K (nth l (2*i+1)))):I0 K n l i=2*i+1:=ϑ h
theorem downB_c (lst:List Nat) (l j:List Nat) (k n:Nat) (hk:k<l.length) (hn:n≤l.length) (hlb:l.length≤1000000) (hl:∀x∈l,x<lst.length):AN Tryz.prog 263 [.ifc 321 none 1 0,.d (AM k),.d (AM n)] (L8 lst l j) fun r H'=>(∃b:Bool,r= .d (Ak b))∧H'=L8 lst (Lm (nth lst) n (n - k) l k) j:=by
 refine BB Tryz.func263 Z Z Tryz.ntmps263 Z Z Z fun F hF=>(AC (AE (AB Z Z ?_)));refine AD (AC (AE (goMv Z Z (AB Z Z (AD (AC (A5 (B6 (α:=Nat×List Nat×Nat) (fun q=>⟨48,[(0,.ifc 321 none 1 0),(1,.d (AM k)),(2,.d (AM n)),(7,(.d (AM q.2.2)))],L8 lst q.2.1 j⟩) (fun q=>n≤q.1+q.2.2∧q.2.2<q.2.1.length∧q.2.1.length≤1000000∧n≤q.2.1.length∧Lm (nth lst) n q.1 q.2.1 q.2.2=Lm (nth lst) n (n - k) l k∧∀x∈q.2.1,x<lst.length) (fun q=>n - q.2.2) ((n - k,l,k)) (⟨by show n≤n - k+k;omega,hk,hlb,hn,Z,hl⟩) (A1 hF [1,2,5,6] Z Z ⟨Z,Z,Z,Z,trivial⟩) ?_))))))));rintro ⟨f,m,i⟩ ⟨hq1,hq2,hq3,hqn,hq4,hq5⟩;dsimp only at hq1 hq2 hq3 hqn hq4⊢;refine A5 (AC (AE (goMv Z Z (J (st_mul Z Z (Υ _ (by omega)) Z) (J (Ay Z Z (Υ _ (by omega)) Z) (AB Z Z (AD ?_)))))));refine AC (AC (Un 8 (.d (AM (2*i+1))) Z (eqv (Δ AF (by omega))) (AE (goMv Z Z (goMv Z Z (J (EZ Z Z Z) (goMv Z Z (Id 18 Z (fun h18=>?_) (fun h18=>?_)))))))))
 ·refine Aa Z Z Z Z (Aa Z Z Z Z (J (fSq Z Z Z Z) (AD (D9 Z Z ?_))));refine BF (AC (AE (goMv Z Z (goMv Z Z (J (KK Z Z Z) (AB Z Z (AD (A8 ?_))))))));exact ⟨_,[1,2,5,6],_,A7 Z,Z,Z,⟨_,Z⟩,by rw [←hq4,dnF_end (by omega)]⟩
 ·refine Ad Z Z Z (goMv Z Z (Ad Z Z Z (J (BT Z Z Z) (J (DR Z Z Z Z) (AD (Db Z (ωp (by omega)) (A3 (AC ?_))))))));have hge:¬n≤2*i+1:=by have:=h18;omega
  have hjd:=dnJ_lt (K:=(nth lst)) (l:=m) hge;have hjm:I0 (nth lst) n m i<m.length:=by omega
  refine AE ?_;refine goMv Z Z (AB Z Z (AD (AC (AC (AE (goMv Z Z (J (Ay Z Z (Υ _ (by omega)) Z) (AB Z Z ?_))))))));refine AD (AC (Un 10 (.d (AM (2*i+2))) Z (eqv (Δ AF (by omega))) (AE (goMv Z Z (goMv Z Z (J (BT Z Z Z) (goMv Z Z (Id 28 Z (fun h28=>?_) (fun h28=>?_)))))))))
  ·refine Ad Z Z Z (goMv Z Z ?_);refine Ad Z Z Z (goMv Z Z (Ad Z Z Z (goMv Z Z (Ad Z Z Z (V (W1 SB (Jc lst m j hq5 (2*i+2) (2*i+1) (by omega) (by omega)) Z [1,2,5,6] ⟨Z,Z,Z,Z,trivial⟩ Z Z Z Z Z Z Z Z Z) (J (fSq Z Z Z Z) (AD (Ah Z (fun h33=>?_) (fun h33=>?_)))))))))
   ·refine AE (goMv Z Z (AB Z Z (AD (AC (AC ?_)))));refine Un 9 (.d (AM (I0 (nth lst) n m i))) Z (eqv (Δ AM (by first | exact (U8 (by omega) (by assumption)).symm | exact (LA (fun h=>by omega)).symm | exact (LA (fun h=>absurd h.2 (by assumption))).symm))) (AE (goMv Z Z (goMv Z Z (goMv Z Z (V (W1 SB (Jc lst m j hq5 (I0 (nth lst) n m i) i hjm hq2) Z [1,2,5,6] ⟨Z,Z,Z,Z,trivial⟩ Z Z Z Z Z Z Z Z Z) (J (Nz Z Z) (AD (Ah Z (fun h39=>?_) (fun h39=>?_)))))))))
    ·refine BF (AC (AE (goMv Z Z (goMv Z Z (J (KK Z Z Z) (AB Z Z (AD (A8 ?_))))))));exact ⟨_,[1,2,5,6],_,A7 Z,Z,Z,⟨_,Z⟩,by rw [←hq4,Nf h39]⟩
    ·refine A3 (AC ?_);have h39x:(nth lst) (nth m (I0 (nth lst) n m i))<(nth lst) (nth m i):=χs.1 h39;refine AE ?_;refine goMv Z Z (goMv Z Z (goMv Z Z (V (W1 SA (JR lst m j i (I0 (nth lst) n m i) hq2 hjm) Z [1,2,5,6] ⟨Z,Z,Z,Z,trivial⟩ Z Z Z Z Z Z Z Z Z) (AD (AE (goMv Z Z (AB Z Z (AD ?_))))))));exact ⟨(f - 1,IH m i (I0 (nth lst) n m i),I0 (nth lst) n m i),⟨by show n≤f - 1+I0 _ n m i;omega,by show _<(IH _ _ _).length;rw [Im];exact hjm,by show (IH _ _ _).length≤_;rw [Im];exact hq3,by show _≤(IH _ _ _).length;rw [Im];exact hqn,by show Lm _ n (f - 1) _ _=_;rw [←hq4,←U9 hge h39x,show f - 1+1=f by omega],fun x hx=>hq5 x ((DU hq2 hjm).mem_iff.1 hx)⟩,by show n - I0 _ n m i<n - i;omega,A1 hF [1,2,5,6] Z (Z) ⟨Z,Z,Z,Z,trivial⟩⟩
   ·refine A3 (AC (AC ?_));refine Un 9 (.d (AM (I0 (nth lst) n m i))) Z (eqv (Δ AM (by first | exact (U8 (by omega) (by assumption)).symm | exact (LA (fun h=>by omega)).symm | exact (LA (fun h=>absurd h.2 (by assumption))).symm))) (AE (goMv Z Z (goMv Z Z (goMv Z Z (V (W1 SB (Jc lst m j hq5 (I0 (nth lst) n m i) i hjm hq2) Z [1,2,5,6] ⟨Z,Z,Z,Z,trivial⟩ Z Z Z Z Z Z Z Z Z) (J (Nz Z Z) (AD (Ah Z (fun h39=>?_) (fun h39=>?_)))))))))
    ·refine BF (AC (AE (goMv Z Z (goMv Z Z (J (KK Z Z Z) (AB Z Z (AD (A8 ?_))))))));exact ⟨_,[1,2,5,6],_,A7 Z,Z,Z,⟨_,Z⟩,by rw [←hq4,Nf h39]⟩
    ·refine A3 (AC ?_);have h39x:(nth lst) (nth m (I0 (nth lst) n m i))<(nth lst) (nth m i):=χs.1 h39;refine AE ?_;refine goMv Z Z (goMv Z Z (goMv Z Z (V (W1 SA (JR lst m j i (I0 (nth lst) n m i) hq2 hjm) Z [1,2,5,6] ⟨Z,Z,Z,Z,trivial⟩ Z Z Z Z Z Z Z Z Z) (AD (AE (goMv Z Z (AB Z Z (AD ?_))))))));exact ⟨(f - 1,IH m i (I0 (nth lst) n m i),I0 (nth lst) n m i),⟨by show n≤f - 1+I0 _ n m i;omega,by show _<(IH _ _ _).length;rw [Im];exact hjm,by show (IH _ _ _).length≤_;rw [Im];exact hq3,by show _≤(IH _ _ _).length;rw [Im];exact hqn,by show Lm _ n (f - 1) _ _=_;rw [←hq4,←U9 hge h39x,show f - 1+1=f by omega],fun x hx=>hq5 x ((DU hq2 hjm).mem_iff.1 hx)⟩,by show n - I0 _ n m i<n - i;omega,A1 hF [1,2,5,6] Z (Z) ⟨Z,Z,Z,Z,trivial⟩⟩
  ·refine Aa Z Z Z Z ?_;refine Aa Z Z Z Z (Aa Z Z Z Z (Aa Z Z Z Z (J (DR Z Z Z Z) (AD (Db Z Z (A3 (AC (AC ?_))))))));refine Un 9 (.d (AM (I0 (nth lst) n m i))) Z (eqv (Δ AM (by first | exact (U8 (by omega) (by assumption)).symm | exact (LA (fun h=>by omega)).symm | exact (LA (fun h=>absurd h.2 (by assumption))).symm))) (AE (goMv Z Z (goMv Z Z (goMv Z Z (V (W1 SB (Jc lst m j hq5 (I0 (nth lst) n m i) i hjm hq2) Z [1,2,5,6] ⟨Z,Z,Z,Z,trivial⟩ Z Z Z Z Z Z Z Z Z) (J (Nz Z Z) (AD (Ah Z (fun h39=>?_) (fun h39=>?_)))))))))
   ·refine BF (AC (AE (goMv Z Z (goMv Z Z (J (KK Z Z Z) (AB Z Z (AD (A8 ?_))))))));exact ⟨_,[1,2,5,6],_,A7 Z,Z,Z,⟨_,Z⟩,by rw [←hq4,Nf h39]⟩
   ·refine A3 (AC ?_);have h39x:(nth lst) (nth m (I0 (nth lst) n m i))<(nth lst) (nth m i):=χs.1 h39;refine AE ?_;refine goMv Z Z (goMv Z Z (goMv Z Z (V (W1 SA (JR lst m j i (I0 (nth lst) n m i) hq2 hjm) Z [1,2,5,6] ⟨Z,Z,Z,Z,trivial⟩ Z Z Z Z Z Z Z Z Z) (AD (AE (goMv Z Z (AB Z Z (AD ?_))))))));exact ⟨(f - 1,IH m i (I0 (nth lst) n m i),I0 (nth lst) n m i),⟨by show n≤f - 1+I0 _ n m i;omega,by show _<(IH _ _ _).length;rw [Im];exact hjm,by show (IH _ _ _).length≤_;rw [Im];exact hq3,by show _≤(IH _ _ _).length;rw [Im];exact hqn,by show Lm _ n (f - 1) _ _=_;rw [←hq4,←U9 hge h39x,show f - 1+1=f by omega],fun x hx=>hq5 x ((DU hq2 hjm).mem_iff.1 hx)⟩,by show n - I0 _ n m i<n - i;omega,A1 hF [1,2,5,6] Z (Z) ⟨Z,Z,Z,Z,trivial⟩⟩
theorem SW (lst:List Nat) (l j:List Nat) (x:Nat) (hlb:l.length≤999999) (hl:∀x∈l,x<lst.length)  (hx:x<lst.length):AN Tryz.prog 222 [.ifc 321 none 1 0,.d (.raw (.iface 3 (.int .i64 (x:Int))))] (L8 lst l j) fun r H'=>r= .tup []∧H'=L8 lst (LW (nth lst) l x) []:=by
 have hl1:(l++ [x]).length=l.length+1:=by simp
 have hl2:((l.length+1:Nat):Int) - 1=((l.length:Nat):Int):=by omega
 refine BB Tryz.func222 Z Z Tryz.ntmps222 Z Z Z fun F hF=>(AC (AE (goMv Z Z (goMv Z Z (V (W1 mPush (aQ lst l j x (by omega)) Z [1,2,5,6] ⟨Z,Z,Z,Z,trivial⟩ Z Z Z Z Z Z Z Z Z) ?_)))));refine AD (AE (goMv Z Z (goMv Z Z (V (W1 mLen (UN lst (l++ [x]) []) Z [1,2,5,6] ⟨Z,Z,Z,Z,trivial⟩ Z Z Z Z Z Z Z Z Z) (J (LI Z Z (Υ _ (by omega)) Z) (Iu 10 (.d (AM l.length)) Z (eqv (Δ AF (by rw [hl1];exact hl2))) (V (Eu (upB_c lst (l++ [x]) [] l.length (by omega) (by omega) (fun y hy=>(ν.1 hy).elim (hl y) fun e=>ξ.1 e▸hx)) Z [1,2,5,6] ⟨Z,Z,Z,Z,trivial⟩ Z Z Z Z Z Z Z Z Z) (AD ?_))))))));exact ⟨_,[1,2,5,6],_,A7 Z,Z,Z,Z,Z⟩
theorem hpopB_c (lst:List Nat) (l j:List Nat) (hne:l≠ []) (hlb:l.length≤999999) (hl:∀x∈l,x<lst.length):AN Tryz.prog 224 [.ifc 321 none 1 0] (L8 lst l j) fun r H'=>r= .d (.raw (.iface 3 (.int .i64 (nth l 0:Int))))∧H'=L8 lst (Kq (nth lst) l) ([nth l 0]++j):=by
 have h0:0<l.length:=χh.2 hne;have hsl:=Im l 0 (l.length - 1);have hp1:=Gi (nth lst) hne;have hne1:HC (nth lst) l≠ []:=fun e=>by rw [e] at hp1;simp at hp1;omega
 have hlast:nth (HC (nth lst) l) ((HC (nth lst) l).length - 1)=nth l 0:=by rw [hp1];exact NS (nth lst) hne
 have hwd:=(downB_c lst (IH l 0 (l.length - 1)) j 0 (l.length - 1) (by omega) (by omega) (by omega) (fun y hy=>hl y ((DU h0 (by omega)).mem_iff.1 hy))).top;refine BB Tryz.func224 Z Z Tryz.ntmps224 Z Z Z fun F hF=>(AC (AE (AB Z Z (AD ?_))));refine AC (AE (goMv Z Z (V (W1 mLen (UN lst l j) Z [1,2,5,6] ⟨Z,Z,Z,Z,trivial⟩ Z Z Z Z Z Z Z Z Z) (J (LI Z Z (Υ _ (by omega)) Z) (AB Z Z (AD (AC (Un 3 (.d (AM (l.length - 1))) Z (eqv (Δ AF (by omega))) ?_))))))));refine AE (goMv Z Z (goMv Z Z (V (W1 SA (JR lst l j 0 (l.length - 1) h0 (by omega)) Z [1,2,5,6] ⟨Z,Z,Z,Z,trivial⟩ Z Z Z Z Z Z Z Z Z) (AD (AC (AE (goMv Z Z (goMv Z Z ?_))))))));refine V (Eu hwd Z [1,2,5,6] ⟨Z,Z,Z,Z,trivial⟩ Z Z Z Z Z Z Z Z Z) (AD (AC (AE (goMv Z Z (V (W1 mPop (mpopB_c lst (HC (nth lst) l) j hne1 (by omega)) Z [1,2,5,6] ⟨Z,Z,Z,Z,trivial⟩ Z Z Z Z Z Z Z Z Z) (AB Z Z (AD (A8 ?_))))))));exact ⟨_,[1,2,5,6],_,A7 Z,Z,Z,by rw [hlast],by rw [hlast,hp1];rfl⟩
theorem Zo (lst:List Nat) (g:List (List Nat)) (hg:GB g) (hK:∀a b,a<g.length ->b<g.length ->(nth lst) a=(nth lst) b ->a=b) (hgl:g.length=lst.length):AN Tryz.prog 181 [.d (Ji g),.fn 182 [.ptr 5 0 0]] (HL lst) fun r H'=>r= .d (.tup [natsD (ordG g (nth lst)),Ak (decide ((ordG g (nth lst)).length=g.length))])∧H'=(HL lst):=by
 have hn:=hg.n;refine BB Tryz.func181 Z Z Tryz.ntmps181 Z Z Z fun F hF=>(AC (AE (AB Z Z (AB Z Z (AD ?_)))));refine AC (AE (goMv Z Z (J (JN Z (ψ ..) Tryz.underlying147 Z) (V (Eb 0 B4 Z Z Z (by omega) zd3 Z Z Z Z) (AB Z Z (AD (AC (AC ?_))))))));rw [rep0S];refine AE (goMv Z Z (J (JN Z (ψ ..) Tryz.underlying147 Z) (goMv Z Z (AD (A5 (B6 (α:=Nat×List Nat) (fun q=>⟨102,[(0,.d (Ji g)),(1,.fn 182 [.ptr 5 0 0]),(6,(.own 0 0 g.length)),(21,(.d (Ji g))),(22,(.d (AM g.length))),(23,(.d (AM q.1)))],[(0,[.rowD 3 1 (q.2.map AM)])]++HL lst⟩) (fun q=>q.1≤g.length∧CW g q.1 0 q.2) (fun q=>g.length - q.1) ((0,List.replicate g.length 0)) (⟨Γ _,cw_zero g⟩) (A1 hF [0,5,6] Z Z ⟨Z,Z,Z,Z,Z,Z,trivial⟩) ?_))))));rintro ⟨i,w⟩ ⟨hi,hw⟩;dsimp only at hi hw⊢;refine AC (AE (J (BT Z Z Z) (AD (AC (Ah Z (fun h24=>?_) (fun h24=>?_))))))
 ·refine A3 (AC (A5 (AC ?_)));have hil:i<g.length:=Bf h24;have hsl:=hg.len hil;refine AE (J (Bb (i) Z Z (Z) (S6 hil) Tryz.underlying147 Z CG Z) (J (Cm Z Z BC Z) (AB Z Z ?_)));refine AD (AC (AE (goMv Z Z (J (JN Z (ψ ..) Tryz.underlying28 Z) (goMv Z Z (AD (A5 (B6 (α:=Nat×List Nat) (fun q=>⟨102,[(0,.d (Ji g)),(1,.fn 182 [.ptr 5 0 0]),(6,(.own 0 0 g.length)),(21,(.d (Ji g))),(22,(.d (AM g.length))),(23,(.d (AM i))),(27,(.d (natsD (sucs g i)))),(28,(.d (AM (sucs g i).length))),(29,(.d (AM q.1)))],[(0,[.rowD 3 1 (q.2.map AM)])]++HL lst⟩) (fun q=>q.1≤(sucs g i).length∧CW g i q.1 q.2) (fun q=>(sucs g i).length - q.1) ((0,w)) (⟨Γ _,hw⟩) (A1 hF [0,5,6] Z Z ⟨Z,Z,Z,Z,Z,Z,Z,Z,Z,trivial⟩) ?_))))))));rintro ⟨k,w⟩ ⟨hk,hw⟩;dsimp only at hk hw⊢;refine AC (AE (J (BT Z Z Z) (AD (AC (Ah Z (fun h30=>?_) (fun h30=>?_))))))
  ·refine A3 (AC (A5 (AC ?_)));have hkl:k<(sucs g i).length:=Bf h30;have hst:=cw_step hg hw hil hkl;have hgl:nth (sucs g i) k<g.length:=by rw [←hw.len];exact hst.1
   refine AE ?_;refine J (Bb (k) Z Z (Z) (Ks hkl) Tryz.underlying28 Z BD Z) (J (Cm Z Z Aq Z) (AB Z Z (AD (AE (goMv Z Z (goMv Z Z (J (Bu (nth (sucs g i) k) Z Z (Z) (hgl) Z Tryz.underlying28 BD Z) (J (CC Z Z (Ks hst.1) Z Aq Z) ?_))))))));refine J (Ay Z Z (Υ _ (by omega)) Z) (Iu 37 (.d (AM (nth w (nth (sucs g i) k)+1))) Z (eqv (Δ AF (by omega))) (J (Bu (nth (sucs g i) k) Z Z (Z) (hgl) Z Tryz.underlying28 BD Z) (V (Fw (emb:=AM) w (nth w (nth (sucs g i) k)+1) Z Z Z Z Z Z hst.1 Z BD) (AD (AE (J (Ay Z Z (Υ _ (by omega)) Z) (goMv Z Z (AD ?_))))))));exact ⟨(k+1,w.set (nth (sucs g i) k) (nth w (nth (sucs g i) k)+1)),⟨hkl,hst.2.2⟩,by show (sucs g i).length - (k+1)<(sucs g i).length - k;omega,A1 hF [0,5,6] Z (Z) ⟨Z,Z,Z,Z,Z,Z,Z,Z,Z,trivial⟩⟩
  ·refine BF ?_;have hke:k=(sucs g i).length:=by have:=h30;omega
   subst hke;refine AE (J (Ay Z Z (Υ _ (by omega)) Z) (goMv Z Z (AD ?_)));exact ⟨(i+1,w),⟨hil,cw_row hw⟩,by show g.length - (i+1)<g.length - i;omega,A1 hF [0,5,6] Z (Z) ⟨Z,Z,Z,Z,Z,Z,trivial⟩⟩
 ·refine BF (AC ?_);have hin:i=g.length:=by have:=h24;omega
  subst hin;obtain ⟨hwl,hwd⟩:=cw_end hw;refine AE (goMv Z Z (J (Fe zl323 pl323 Z Z Z) (V (st_boxC 1 Z Z Z Z Z Z Z) (AB Z Z (AD (AC ?_))))));refine AC (EW 1 0 0 2 B4 Z Z Z Z Z Z Z (AE (goMv Z Z (J (LJ Z Tryz.underlying28 Z) (goMv Z Z (AD (A5 (B6 (α:=Nat×List Nat×List Nat) (fun q=>⟨102,[(0,.d (Ji g)),(1,.fn 182 [.ptr 5 0 0]),(6,(.own 0 0 g.length)),(11,(.ptr 1 0 0)),(44,(.own 0 0 g.length)),(45,(.d (AM g.length))),(46,(.d (AM q.1)))],L8 lst q.2.1 q.2.2++ [(0,[.rowD 3 1 (w.map AM)])]⟩) (fun q=>q.1≤g.length∧FI (nth lst) w q.1 q.2.1) (fun q=>g.length - q.1) ((0,[],[])) (⟨Γ _,fi_zero _ w⟩) (A1 hF [1,2,5,6,0] Z Z ⟨Z,Z,Z,Z,Z,Z,Z,trivial⟩) ?_))))))));rintro ⟨i,l,j⟩ ⟨hi,hf⟩;dsimp only at hi hf⊢;have hfl:=hf.le;refine AC (AE (J (BT Z Z Z) (AD (AC (Ah Z (fun h47=>?_) (fun h47=>?_))))))
  ·refine A3 (AC (A5 (AC ?_)));have hil:i<g.length:=Bf h47;refine AE (goMv Z Z (J (Bu (i) Z Z (Z) (hil) Z Tryz.underlying28 BD Z) (J (CC Z Z (Ks (by rw [hwl];exact hil)) Z Aq Z) ?_)));refine AB Z Z (AB Z Z (AD (AC (AE (goMv Z Z (J (KJ Z Z Z) (AD (Ah Z (fun h52=>?_) (fun h52=>?_)))))))))
   ·refine AE (goMv Z Z ?_);refine J (G1 Z7 Z Z) (goMv Z Z (J (Ff pt3 Z Z) (V (Eu (SW lst l j i (by omega) (fun x hx=>by rw [←hgl];have:=((hf.mem x).1 hx).1;omega) (by rw [←hgl];exact hil)) Z [1,2,5,6] ⟨Z,Z,Z,Z,trivial⟩ Z Z Z Z Z Z Z Z Z) (AD (AE (J (Ay Z Z (Υ _ (by omega)) Z) (goMv Z Z (AD ?_))))))));exact ⟨(i+1,LW (nth lst) l i,[]),⟨hil,fi_push hf (Int.ofNat.inj h52)⟩,by show g.length - (i+1)<g.length - i;omega,A1 hF [1,2,5,6,0] Z (Z) ⟨Z,Z,Z,Z,Z,Z,Z,trivial⟩⟩
   ·refine A3 (AE (J (Ay Z Z (Υ _ (by omega)) Z) (goMv Z Z (AD ?_))));exact ⟨(i+1,l,j),⟨hil,fi_skip hf (fun e=>h52 (Δ Int.ofNat e))⟩,by show g.length - (i+1)<g.length - i;omega,A1 hF [1,2,5,6,0] Z (Z) ⟨Z,Z,Z,Z,Z,Z,Z,trivial⟩⟩
  ·refine BF (AC ?_);have hin:i=g.length:=by have:=h47;omega
   subst hin;have hoi:=oi_fill hwl hwd hf.nd hf.mem hf.hp;refine AE (AB Z Z (AD (AC (A5 (O4 14 7 B4 Z Z Z Z (B6 (α:=List Nat×List Nat×List Nat×List Nat) (fun q=>⟨102,[(0,.d (Ji g)),(1,.fn 182 [.ptr 5 0 0]),(6,(.own 0 0 g.length)),(11,(.ptr 1 0 0)),(14,(.own 7 0 q.2.2.2.length))],L8 lst q.2.1 q.2.2.1++ [(0,[.rowD 3 1 (q.1.map AM)]),(7,[.rowD 3 1 (q.2.2.2.map AM)])]⟩) (fun q=>OI g (nth lst) q.1 q.2.1 q.2.2.2 []) (fun q=>g.length - q.2.2.2.length) ((w,l,j,[])) (hoi) (A1 hF [1,2,5,6,0,7] Z Z ⟨Z,Z,Z,Z,Z,trivial⟩) ?_))))));rintro ⟨w,l,j,out⟩ ho;dsimp only at ho⊢;have hol:=oi_le ho;refine AC (AC (AE (goMv Z Z (V (Eu (UN lst l j) Z [1,2,5,6] ⟨Z,Z,Z,Z,trivial⟩ Z Z Z Z Z Z Z Z Z) (J (KK Z Z Z) (AD (Ah Z (fun h61=>?_) (fun h61=>?_))))))))
   ·refine A3 (A5 (AC ?_));have hne:l≠ []:=fun e=>by subst e;exact absurd h61 (by decide)
    have ho1:=oi_pop ho hne;have hx:nth l 0<g.length:=ho.lt _ (ν.2 (.inr (Ct (χh.2 hne))));have hol1:out.length+1≤g.length:=by have:=χh.2 hne;omega
    refine AE (goMv Z Z (J (G1 Z7 Z Z) (V (Eu (hpopB_c lst l j hne (by omega) (fun z hz=>by rw [←hgl];exact ho.lt z (ν.2 (.inr hz)))) Z [1,2,5,6] ⟨Z,Z,Z,Z,trivial⟩ Z Z Z Z Z Z Z Z Z) (J (Mc Z pt3 Z Z) (AB Z Z (AD (AC ?_)))))))
    obtain ⟨x,hxe⟩:∃x,nth l 0=x:=⟨_,Z⟩
    rw [hxe] at ho1 hx⊢;refine AE (goMv Z Z (goMv Z Z (V (Dz 21 B4 Z Z Z Z Z Z Z Z) (V (I8 (emb:=AM) out [x] Z Z Z Z Z Z Z Z B4 (by show (out.length+1)*8≤_;omega) Z Z Z Z) (AB Z Z (AD (AC (AE ?_))))))));refine goMv Z Z (goMv Z Z (J (Bb (x) Z Z (Z) (S6 hx) Tryz.underlying147 Z CG Z) (J (Cm Z Z BC Z) (J (JN Z (ψ ..) Tryz.underlying28 Z) (goMv Z Z (AD (A5 (B6 (α:=Nat×List Nat×List Nat×List Nat) (fun q=>⟨102,[(0,.d (Ji g)),(1,.fn 182 [.ptr 5 0 0]),(6,(.own 0 0 g.length)),(11,(.ptr 1 0 0)),(14,(.own 7 0 (out++ [x]).length)),(73,(.d (natsD (sucs g x)))),(74,(.d (AM (sucs g x).length))),(75,(.d (AM q.1)))],L8 lst q.2.2.1 q.2.2.2++ [(0,[.rowD 3 1 (q.2.1.map AM)]),(7,[.rowD 3 1 ((out++ [x]).map AM)])]⟩) (fun q=>q.1≤(sucs g x).length∧OI g (nth lst) q.2.1 q.2.2.1 (out++ [x]) ((sucs g x).drop q.1)) (fun q=>(sucs g x).length - q.1) ((0,w,Kq (nth lst) l,[x]++j)) (⟨Γ _,ho1⟩) (A1 hF [1,2,5,6,0,7] Z Z ⟨Z,Z,Z,Z,Z,Z,Z,Z,trivial⟩) ?_))))))));rintro ⟨k,w,l,j⟩ ⟨hk,ho2⟩;dsimp only at hk ho2⊢;refine AC (AE (J (BT Z Z Z) (AD (AC (Ah Z (fun h76=>?_) (fun h76=>?_))))))
    ·refine A3 (AC (A5 (AC ?_)));have hkl:k<(sucs g x).length:=Bf h76;have hsl2:=hg.len hx;have hyg:nth (sucs g x) k<g.length:=hg.suc hx (Ct hkl);rw [bd hkl] at ho2;obtain ⟨hw1,hz1,hz2⟩:=oi_dec ho2 hyg;have hol2:=oi_le ho2;have hwl2:=ho2.len;have hgn:=Ks hkl
     obtain ⟨y,hye⟩:∃y,nth (sucs g x) k=y:=⟨_,Z⟩
     rw [hye] at hyg hw1 hz1 hz2 hgn ho2;have hyw:y<w.length:=by rw [hwl2];exact hyg
     have hwb:nth w y≤100000000000:=by have:=oi_wle hg ho2 hyg (by rw [φo];have:=hg.len hx;omega);omega
     refine AE (J (Bb (k) Z Z (Z) (hgn) Tryz.underlying28 Z BD Z) (J (Cm Z Z Aq Z) (AB Z Z (AD (AC (AE ?_))))));refine goMv Z Z (goMv Z Z (J (Bu (y) Z Z (Z) (hyg) Z Tryz.underlying28 BD Z) (J (CC Z Z (Ks hyw) Z Aq Z) (J (LI Z Z (Υ _ (by omega)) Z) (Iu 83 (.d (AM (nth w y - 1))) Z (eqv (Δ AF (by omega))) (J (Bu (y) Z Z (Z) (hyg) Z Tryz.underlying28 BD Z) (V (Fw (emb:=AM) w (nth w y - 1) Z Z Z Z Z Z hyw Z BD) (AD ?_))))))));refine AC (AE (goMv Z Z (goMv Z Z (J (Bu (y) Z Z (Z) (hyg) Z Tryz.underlying28 BD Z) (J (CC Z Z (getset hyw) Z Aq Z) (J (KJ Z Z Z) (AD (Ah Z (fun h89=>?_) (fun h89=>?_)))))))))
     ·have h89x:nth w y - 1=0:=Int.ofNat.inj h89;refine AE (goMv Z Z ?_);refine J (G1 Z7 Z Z) (goMv Z Z (J (Ff pt3 Z Z) (V (Eu (SW lst l j y (by rw [Θ,Ψ] at hol2;omega) (fun z hz=>by rw [←hgl];exact ho2.lt z (ν.2 (.inr hz))) (by rw [←hgl];exact hyg)) Z [1,2,5,6] ⟨Z,Z,Z,Z,trivial⟩ Z Z Z Z Z Z Z Z Z) (AD (AE (J (Ay Z Z (Υ _ (by omega)) Z) (goMv Z Z (AD ?_))))))));exact ⟨(k+1,w.set y (nth w y - 1),LW (nth lst) l y,[]),⟨hkl,hz1 h89x⟩,by show (sucs g x).length - (k+1)<(sucs g x).length - k;omega,A1 hF [1,2,5,6,0,7] Z (Z) ⟨Z,Z,Z,Z,Z,Z,Z,Z,trivial⟩⟩
     ·have h89x:nth w y - 1≠0:=fun e=>h89 (Δ Int.ofNat e);refine A3 (AE (J (Ay Z Z (Υ _ (by omega)) Z) (goMv Z Z (AD ?_))));exact ⟨(k+1,w.set y (nth w y - 1),l,j),⟨hkl,hz2 h89x⟩,by show (sucs g x).length - (k+1)<(sucs g x).length - k;omega,A1 hF [1,2,5,6,0,7] Z (Z) ⟨Z,Z,Z,Z,Z,Z,Z,Z,trivial⟩⟩
    ·refine BF ?_;exact ⟨(w,l,j,out++ [x]),oi_row ho2 (show k=(sucs g x).length by have:=h76;omega),by show g.length - (out++ [x]).length<g.length - out.length;rw [Θ,Ψ];omega,A1 hF [1,2,5,6,0,7] Z (Z) ⟨Z,Z,Z,Z,Z,trivial⟩⟩
   ·refine BF (AC ?_);have hl0:l=[]:=φi.1 (by have:=h61;omega);have hE:=oi_end (hl0▸ho);have hoe:=ordG_eq hK hE.1 hE.2;refine Lo (emb:=AM) 14 7 out Z Z Z Z Z Z Z (AE (goMv Z Z ?_));refine goMv Z Z (J (Bz Z Tryz.underlying28 Z) (goMv Z Z (J (Bz Z Tryz.underlying147 Z) (J (KJ Z Z Z) (AB Z Z (AB Z Z (AD (A8 ?_))))))));exact ⟨_,[5,6],_,A7 Z,Z,Z,by rw [hoe];exact Δ (fun b=>AV.d (.tup [natsD out,Ak b])) (decide_eq_decide.2 Int.ofNat_inj),Z⟩
set_option maxHeartbeats 1000000 in
theorem St (g:List (List Nat)) (hg:GT g):AN Tryz.prog 134 [.d (Ji g)] [] fun r H'=>∃of cnt,SccOf g.length (sucs g) of cnt∧r= .tup [.own 10 0 cnt,.d (natsD ((List.range g.length).map fun v=>conM g of cnt (of v)))]∧H'=[(10,[.rowD 28 1 ((bK cnt (FG (fun v=>conM g of cnt (of v)) g.length)).map natsD)])]:=by
 have hn:=hg.gb.n;refine BB Tryz.func134 Z Z Tryz.ntmps134 Z Z Z fun F hF=>(AC (AE (AB Z Z (AB Z Z (AD (AC (AE (goMv Z Z ?_))))))));refine Ch (W2 (Su g hg.gb) Z [2] ⟨Z,trivial⟩ Z Z Z Z (fun r H' ⟨of,cnt,h1,h2,h3⟩=>by subst h2 h3;exact ⟨Z,Z,Z⟩) Z) Z ?_;rintro _ ⟨r,H',⟨of,cnt,hso,rfl,rfl⟩,rfl⟩;refine goMv Z Z (J (Cu Z Z Z) (J (Cu Z Z Z) (AB Z Z (AB Z Z (AD (AC ?_))))));have hcn:=hso.le;refine AE (goMv Z Z (V (Eb 6 B4 Z Z Z (by omega) zd3 Z Z Z Z) (V (CO 5 zl28 Z Z Z Z) (V (Bi Z Z Z Z Z Z Z CG) (AD (AC (AC ?_)))))));rw [repN];refine AE (goMv Z Z (J (JN Z (ψ ..) Tryz.underlying147 Z) (J (LI Z Z (Υ _ (by omega)) Z) (Iu 29 (.d (AF ((g.length:Int) - 1 - ((0:Nat):Int)))) Z (eqv (Δ AF (by omega))) (AB Z Z (AD (A5 (B6 (α:=Nat) (fun d=>⟨142,[(0,.d (Ji g)),(4,(.own 2 0 g.length)),(5,(.d (AM cnt))),(6,(.ptr 5 0 0)),(7,(.d (AF ((g.length:Int) - 1 - (d:Int)))))],[(2,[.rowD 3 1 (rowN g.length of)]),(5,[.blk 28 [.own 6 0 cnt]]),(6,[.rowD 3 1 (rowN cnt (lfT of g.length d))])]⟩) (fun d=>d≤g.length) (fun d=>g.length - d) (0) (Γ _) (A1 hF [2,5,6] Z Z ⟨Z,Z,Z,Z,Z,trivial⟩) ?_))))))));intro d hd;refine AC (AC (AE (goMv Z Z (J (EZ Z Z Z) (AD (Ah Z (fun h31=>?_) (fun h31=>?_)))))))
 ·refine A3 (AC (A5 ?_));have hdl:g.length - 1 - d<g.length:=by omega
  refine Un 7 (.d (AM (g.length - 1 - d))) Z (eqv (Δ AF (by omega))) ?_;have hoc:=hso.lt _ hdl;refine Cc [[],[],[],[1,2],[1,2,3],[],[0,1,2,3,4,5],[0,1,2,3,4,5,6]] mixed Z (Cj (As [6] Z Z (fun _=>AG (A9 Z Z Z BC Z)) ?_));refine AI [4] [] Z Z (fun _=>AG (Ai Z Z)) (AI [7] [] Z Z (fun _=>AG (Ai Z Z)) (As [35,36] Z Z (fun _=>AG (Bu (g.length - 1 - d) Z Z (Z) (hdl) Z Tryz.underlying28 BD Z)) (As [37] Z Z (fun _=>AG (CC Z Z (IB hdl) Z Aq Z)) (AI [7] [] Z Z (fun _=>AG (Ai Z Z)) (C1 6 Z Z Z (Ae 7 Z Z (J (Bu (of (g.length - 1 - d)) Z Z (Z) (hoc) Z Tryz.underlying28 BD Z) (AD ⟨Z,?_⟩))))))));refine Ae 8 Z Z (V (Qc Z Z Z Z Z (by rw [cY];exact hoc) cZ Z BD) (AD ⟨Z,?_⟩));refine C6 (AE (goMv Z Z (J (LI Z Z (Υ _ (by omega)) Z) (Iu 33 (.d (AF ((g.length:Int) - 1 - ((d+1:Nat):Int)))) Z (eqv (Δ AF (by omega))) (AB Z Z (AD ?_))))));exact ⟨d+1,by omega,by omega,A1 hF [2,5,6] Z (Z) ⟨Z,Z,Z,Z,Z,trivial⟩⟩
 ·refine BF (AC ?_);have hdn:d=g.length:=by omega
  subst hdn;refine AE (goMv Z Z (V (Eb 7 VT Z Z Z (by omega) zd28 Z Z Z Z) (AB Z Z (AD (AC (AC ?_))))));refine Pf 7 0 (rowH cnt (fun _=>none) (fun _=> [])) Z (by rw [FE,List.length_replicate]) (Ru cnt) ⟨V6 _,J5 _ _ _⟩ Z (I7 40 Z Z Z (AE (goMv Z Z (J (JN Z (ψ ..) Tryz.underlying147 Z) (goMv Z Z (AD (A5 (B6 (α:=Nat×MF×(Nat ->Hd)) (fun q=>⟨142,[(0,.d (Ji g)),(4,(.own 2 0 g.length)),(5,(.d (AM cnt))),(6,(.ptr 5 0 0)),(8,(.own 7 0 cnt)),(43,(.d (Ji g))),(44,(.d (AM g.length))),(45,(.d (AM q.1)))],[(2,[.rowD 3 1 (rowN g.length of)]),(5,[.blk 28 [.own 6 0 cnt]]),(6,[.rowD 3 1 (rowN cnt (lfT of g.length g.length))]),(7,[.rowD 28 1 (rowH cnt q.2.2 (Ll g of q.1 0))]),(40,[.multi q.2.1])]⟩) (fun q=>q.1≤g.length∧Lq q.2.1 cnt q.2.2 (Ll g of q.1 0)) (fun q=>g.length - q.1) ((0,fun _=>none,fun _=>none)) (⟨Γ _,by rw [bZ];exact Lq.zero _⟩) (A1 hF [2,5,6,7,40] Z Z ⟨Z,Z,Z,Z,Z,Z,Z,Z,trivial⟩) ?_))))))));rintro ⟨i,M,hs⟩ ⟨hi,hr⟩;dsimp only at hi hr⊢;refine AC (AE (J (BT Z Z Z) (AD (AC (Ah Z (fun h46=>?_) (fun h46=>?_))))))
  ·refine A3 (AC (A5 (AC ?_)));have hil:i<g.length:=Bf h46;have hoi:=hso.lt i hil;refine AE (goMv Z Z (J (Bb (i) Z Z (Z) (S6 hil) Tryz.underlying147 Z CG Z) (J (Cm Z Z BC Z) (AB Z Z (AB Z Z ?_)))));refine AD (AC (AE (goMv Z Z (J (JN Z (ψ ..) Tryz.underlying28 Z) (goMv Z Z (AD (A5 (B6 (α:=Nat×MF×(Nat ->Hd)) (fun q=>⟨142,[(0,.d (Ji g)),(4,(.own 2 0 g.length)),(5,(.d (AM cnt))),(6,(.ptr 5 0 0)),(8,(.own 7 0 cnt)),(9,(.d (AM i))),(43,(.d (Ji g))),(44,(.d (AM g.length))),(45,(.d (AM i))),(50,(.d (natsD (sucs g i)))),(51,(.d (AM (sucs g i).length))),(52,(.d (AM q.1)))],[(2,[.rowD 3 1 (rowN g.length of)]),(5,[.blk 28 [.own 6 0 cnt]]),(6,[.rowD 3 1 (rowN cnt (lfT of g.length g.length))]),(7,[.rowD 28 1 (rowH cnt q.2.2 (Ll g of i q.1))]),(40,[.multi q.2.1])]⟩) (fun q=>q.1≤(sucs g i).length∧Lq q.2.1 cnt q.2.2 (Ll g of i q.1)) (fun q=>(sucs g i).length - q.1) ((0,M,hs)) (⟨Γ _,hr⟩) (A1 hF [2,5,6,7,40] Z Z ⟨Z,Z,Z,Z,Z,Z,Z,Z,Z,Z,Z,Z,trivial⟩) ?_))))))));rintro ⟨k,M,hs⟩ ⟨hk,hr⟩;dsimp only at hk hr⊢;refine AC (AE (J (BT Z Z Z) (AD (AC (Ah Z (fun h53=>?_) (fun h53=>?_))))))
   ·refine A3 (AC (A5 (AC ?_)));have hkl:k<(sucs g i).length:=Bf h53;have hgn:=Ks hkl;have hsl:=hg.gb.len hil;have hjl:nth (sucs g i) k<g.length:=hg.gb.suc hil (Ct hkl);have hst0:=b6 (of:=of) hkl;have hsk0:=b9 (of:=of) hkl
    obtain ⟨j,hje⟩:∃j,nth (sucs g i) k=j:=⟨_,Z⟩
    rw [hje] at hgn hjl hst0 hsk0;have hln:=WM g of i k (of i);have hlt:=ωe (O9 g (Nat.le_of_lt hil)) hg.tot;have hlt2:((sucs g i).take k).length≤1048576:=by rw [Ω];omega
    refine AE (J (Bb (k) Z Z (Z) (hgn) Tryz.underlying28 Z BD Z) ?_);refine J (Cm Z Z Aq Z) (AB Z Z (AD (AC (Cc [[],[],[0,1],[0,1,2],[],[],[4,5],[4,5,6],[0,1,2,3,4,5,6,7]] mixed Z (Cj (AI [4] [] Z Z (fun _=>AG (Ai Z Z)) (AI [9] [] Z Z (fun _=>AG (Ai Z Z)) (As [56,57] Z Z (fun _=>AG (Bu (i) Z Z (Z) (hil) Z Tryz.underlying28 BD Z)) ?_))))))));refine As [58] Z Z (fun _=>AG (CC Z Z (IB hil) Z Aq Z)) (AI [4] [] Z Z (fun _=>AG (Ai Z Z)) (AI [12] [] Z Z (fun _=>AG (Ai Z Z)) (As [60,61] Z Z (fun _=>AG (Bu (j) Z Z (Z) (hjl) Z Tryz.underlying28 BD Z)) (As [62] Z Z (fun _=>AG (CC Z Z (IB hjl) Z Aq Z)) (C1 8 Z Z Z (Ae 9 Z Z (J (EA Z Z Z) (AD ⟨Z,?_⟩))))))));refine C6 (Ah Z (fun h64=>?_) (fun h64=>?_))
    ·have hst:=hst0 (fun e=>h64 (Δ Int.ofNat e));refine Cc [[],[],[],[1,2],[1,2,3],[],[],[],[6,7],[6,7,8],[5,6,7,8,9],[5,6,7,8,9,10],[],[],[12,13],[12,13,14],[12,13,14,15],[5,6,7,8,9,10,11,12,13,14,15,16],[0,1,2,3,4,5,6,7,8,9,10,11,12,13,14,15,16,17],[0,1,2,3,4,5,6,7,8,9,10,11,12,13,14,15,16,17,18]] mixed Z (Cj (AI [8] [] Z Z (fun _=>AG (Ai Z Z)) (AI [4] [] Z Z (fun _=>AG (Ai Z Z)) (AI [9] [] Z Z (fun _=>AG (Ai Z Z)) (AI [66,67] [2] Z Z (fun _=>AG (Bu (i) Z Z (Z) (hil) Z Tryz.underlying28 BD Z)) (AI [68] [2] Z Z (fun _=>AG (CC Z Z (IB hil) Z Aq Z)) ?_))))));refine AI [8] [] Z Z (fun _=>AG (Ai Z Z)) (AI [4] [] Z Z (fun _=>AG (Ai Z Z)) (AI [9] [] Z Z (fun _=>AG (Ai Z Z)) (AI [71,72] [2] Z Z (fun _=>AG (Bu (i) Z Z (Z) (hil) Z Tryz.underlying28 BD Z)) (AI [73] [2] Z Z (fun _=>AG (CC Z Z (IB hil) Z Aq Z)) (AI [70,74] [7] Z Z (fun _=>AG (Bu (of i) Z Z (Z) (hoi) Z Tryz.underlying147 CG Z)) (AI [75] [7] Z Z (fun _=>AG (CC Z Z (JW hoi) Z BC Z)) (AI [4] [] Z Z (fun _=>AG (Ai Z Z)) (AI [12] [] Z Z (fun _=>AG (Ai Z Z)) ?_))))))));refine AI [77,78] [2] Z Z (fun _=>AG (Bu (j) Z Z (Z) (hjl) Z Tryz.underlying28 BD Z)) (AI [79] [2] Z Z (fun _=>AG (CC Z Z (IB hjl) Z Aq Z)) (Fo [80] [21] [(81,_)] Z Z (fun _=>Fq (Dz 21 B4 Z Z Z Z Z Z Z Z)) (.inr ⟨81,_,Z,Z,Z,Z,Z⟩) Z Z Z Z Z (Fo [76,81] [60,40,21] [(82,_)] Z Z (fun _=>Fq (G3 76 60 40 (hr.at_ (of i) hoi) Z Z (by rw [ψ]) Z Z Z Z Z (I8 (emb:=AM) (Ll g of i k (of i)) [of j] Z Z Z Z Z Z Z Z B4 (by show ((Ll g of i k (of i)).length+1)*8≤_;omega) Z Z Z Z))) (.inr ⟨82,_,Z,Z,Z,Z,Z⟩) Z Z Z Z Z (C1 18 Z Z Z (Ae 19 Z Z (Eo 82 60 40 hF Z Z Z (by rw [ψ]) (by simp) Z Z Z Z Z Z Z (fun _ _=>rfl) fun b c hb hc=>(J (Bu (of i) Z Z (Z) (hoi) Z Tryz.underlying147 CG Z) (AD ⟨Z,?_⟩))))))));refine Ae 20 Z Z (V (Qc Z Z Z Z Z (by rw [FE];exact hoi) (R0 (h:=some (b,c))) Z CG) (AD ⟨Z,?_⟩));refine C6 (AE (J (Ay Z Z (Υ _ (by omega)) Z) (goMv Z Z (AD ?_))));exact ⟨(k+1,B1 (B5 M (hs (of i))) b (.row 3 1 c ((Ll g of i k (of i)++ [of j]).map AM)),At hs (of i) (some (b,c))),⟨hkl,by have:=hr.app hoi hb hc;rw [hst] at this;exact this⟩,by show (sucs g i).length - (k+1)<(sucs g i).length - k;omega,A1 hF [2,5,6,7,40] Z (by rw [hst];rfl) ⟨Z,Z,Z,Z,Z,Z,Z,Z,Z,Z,Z,Z,trivial⟩⟩
    ·have hsk:=hsk0 (fun h=>h64 (fun e=>h (Int.ofNat.inj e)));refine A3 (AE (J (Ay Z Z (Υ _ (by omega)) Z) (goMv Z Z (AD ?_))));exact ⟨(k+1,M,hs),⟨hkl,by rw [←hsk];exact hr⟩,by show (sucs g i).length - (k+1)<(sucs g i).length - k;omega,A1 hF [2,5,6,7,40] Z (by rw [←hsk];rfl) ⟨Z,Z,Z,Z,Z,Z,Z,Z,Z,Z,Z,Z,trivial⟩⟩
   ·refine BF ?_;have hke:k=(sucs g i).length:=by have:=h53;omega
    subst hke;refine AE (J (Ay Z Z (Υ _ (by omega)) Z) (goMv Z Z (AD ?_)));exact ⟨(i+1,M,hs),⟨hil,by rw [←WL];exact hr⟩,by show g.length - (i+1)<g.length - i;omega,A1 hF [2,5,6,7,40] Z (by rw [WL];rfl) ⟨Z,Z,Z,Z,Z,Z,Z,Z,trivial⟩⟩
  ·refine BF (AC ?_);have hin:i=g.length:=by have:=h46;omega
   subst hin;refine cU 7 0 40 ((Jz g of cnt).map natsD) Z Z Z Z Z (by rw [ψ,Jz,TV,FE]) hr.melt ⟨J5 _ _ _,Zr _⟩ Z (Lo (emb:=natsD) 8 7 (Jz g of cnt) Z Z Z (TV _ _).symm Z Z Z ?_);rw [ZV cnt];have hll:=lfL_len of g.length cnt;have hob:=Zo (T7 of g.length cnt) (Jz g of cnt) (edG_gb hg hso) (by rw [Jz,TV];exact lf_inj hso) (by rw [Jz,TV,hll]);rw [←T7,show (AV.own 6 0 cnt)= .own 6 0 (T7 of g.length cnt).length by rw [hll]];refine AE (goMv Z Z ?_);refine J (Zct Z Z) (V (Eu hob Z [5,6] ⟨Z,Z,trivial⟩ Z Z Z Z Z Z Z Z Z) (goMv Z Z (J (D8 Z Z Z) (J (D8 Z Z Z) (AB Z Z (AB Z Z (AD (AC ?_))))))));have hsq:ordG (Jz g of cnt) (nth (T7 of g.length cnt))=conS g of cnt:=rfl;have hsl0:=Zp (Jz g of cnt) (nth (T7 of g.length cnt));have hsk9:∀k,k<(conS g of cnt).length ->nth (conS g of cnt) k<cnt:=fun k hk=>by have:=ordG_lt (g:=Jz g of cnt) (K:=nth (T7 of g.length cnt)) hk;rwa [Jz,TV] at this
   rw [Jz,TV,←Jz] at hsl0;rw [hsq] at hsl0⊢;refine AE (goMv Z Z (V (Eb 9 B4 Z Z Z (by omega) zd3 Z Z Z Z) (AB Z Z (AD (AC (AC ?_))))));rw [repN]
   obtain ⟨seq,hseq⟩:∃seq,conS g of cnt=seq:=⟨_,Z⟩
   rw [hseq] at hsl0 hsk9⊢;refine AE (goMv Z Z (J (JN Z (ψ ..) Tryz.underlying28 Z) (goMv Z Z (AD (A5 (B6 (α:=Nat) (fun k=>⟨142,[(0,.d (Ji g)),(4,(.own 2 0 g.length)),(5,(.d (AM cnt))),(15,(.own 9 0 cnt)),(94,(.d (natsD seq))),(95,(.d (AM seq.length))),(96,(.d (AM k)))],[(2,[.rowD 3 1 (rowN g.length of)]),(9,[.rowD 3 1 (rowN cnt (DO seq k))])]⟩) (fun k=>k≤seq.length) (fun k=>seq.length - k) (0) (Γ _) (A1 hF [2,9] Z Z ⟨Z,Z,Z,Z,Z,Z,Z,trivial⟩) ?_))))));intro k hk;refine AC (AE (J (BT Z Z Z) (AD (AC (Ah Z (fun h97=>?_) (fun h97=>?_))))))
   ·refine A3 (AC (A5 (AC ?_)));have hkl:k<seq.length:=Bf h97;refine AE (goMv Z Z (J (Bb (k) Z Z (Z) (Ks hkl) Tryz.underlying28 Z BD Z) (J (Cm Z Z Aq Z) (AB Z Z (AB Z Z (AD (AE (goMv Z Z ?_))))))));refine goMv Z Z (goMv Z Z (J (Bu (nth seq k) Z Z (Z) (hsk9 k hkl) Z Tryz.underlying28 BD Z) (V (Qc Z Z Z Z Z (by rw [cY];exact hsk9 k hkl) cZ Z BD) (AD (AE (J (Ay Z Z (Υ _ (by omega)) Z) (goMv Z Z (AD ?_))))))));exact ⟨k+1,hkl,by omega,A1 hF [2,9] Z (Z) ⟨Z,Z,Z,Z,Z,Z,Z,trivial⟩⟩
   ·refine BF (AC ?_);have hks:k=seq.length:=by have:=h97;omega
    subst hks;refine AE (goMv Z Z (V (Eb 10 RT Z Z Z (by omega) zd28 Z Z Z Z) (AB Z Z (AD (AC (AC (Pf 10 0 (rowH cnt (fun _=>none) (fun _=> [])) Z (by rw [FE,List.length_replicate]) (Ru cnt) ⟨V6 _,J5 _ _ _⟩ Z (I7 40 Z Z Z ?_))))))));have hno:∀v,v<g.length ->DO seq seq.length (of v)<cnt:=fun v hv=>Vk seq (Nat.lt_of_le_of_lt (Γ _) (hso.lt v hv)) hsl0 _ (υ _) _;refine AE (goMv Z Z (J (JN Z (ψ ..) Tryz.underlying147 Z) (goMv Z Z (AD (A5 (B6 (α:=Nat×MF×(Nat ->Hd)) (fun q=>⟨142,[(0,.d (Ji g)),(4,(.own 2 0 g.length)),(15,(.own 9 0 cnt)),(18,(.own 10 0 cnt)),(109,(.d (AM g.length))),(110,(.d (AM q.1)))],[(2,[.rowD 3 1 (rowN g.length (ofT of (fun v=>DO seq seq.length (of v)) q.1))]),(9,[.rowD 3 1 (rowN cnt (DO seq seq.length))]),(10,[.rowD 28 1 (rowH cnt q.2.2 (FG (fun v=>DO seq seq.length (of v)) q.1))]),(40,[.multi q.2.1])]⟩) (fun q=>q.1≤g.length∧Lq q.2.1 cnt q.2.2 (FG (fun v=>DO seq seq.length (of v)) q.1)) (fun q=>g.length - q.1) ((0,fun _=>none,fun _=>none)) (⟨Γ _,Lq.zero _⟩) (A1 hF [2,9,10,40] Z Z ⟨Z,Z,Z,Z,Z,Z,trivial⟩) ?_))))));rintro ⟨i,M,hs⟩ ⟨hi,hr⟩;dsimp only at hi hr⊢;refine AC (AE (J (BT Z Z Z) (AD (AC (Ah Z (fun h111=>?_) (fun h111=>?_))))))
    ·refine A3 (AC (A5 (AC ?_)));have hil:i<g.length:=Bf h111;have hoi:=hso.lt i hil;have hst:=XR (fun v=>DO seq seq.length (of v)) i;have hos:=Zw of (fun v=>DO seq seq.length (of v)) i;have hxc:=hno i hil;have hofi:ofT of (fun v=>DO seq seq.length (of v)) i i=of i:=ϑ (φd _);have hofj:ofT of (fun v=>DO seq seq.length (of v)) (i+1) i=DO seq seq.length (of i):=κ (χm _);have hgo:=IB (f:=ofT of (fun v=>DO seq seq.length (of v)) i) hil;have hgj:=IB (f:=ofT of (fun v=>DO seq seq.length (of v)) (i+1)) hil;rw [hofi] at hgo;have hrg:=IB (f:=DO seq seq.length) hoi
     first | dsimp only at hst hos | skip
     obtain ⟨x,hxe⟩:∃x,DO seq seq.length (of i)=x:=⟨_,Z⟩
     rw [hofj,hxe] at hgj;rw [hxe] at hst hos hxc hrg;have hln:=Zn (fun v=>DO seq seq.length (of v)) i x;refine AE (goMv Z Z (AB Z Z (AD ?_)));refine AC (AE (goMv Z Z (goMv Z Z (goMv Z Z (goMv Z Z (goMv Z Z (J (Bu (i) Z Z (Z) (hil) Z Tryz.underlying28 BD Z) (J (CC Z Z (hgo) Z Aq Z) ?_))))))));refine J (Bu (of i) Z Z (Z) (hoi) Z Tryz.underlying28 BD Z) (J (CC Z Z (hrg) Z Aq Z) (J (Bu (i) Z Z (Z) (hil) Z Tryz.underlying28 BD Z) (V (Qc Z Z Z Z Z (by rw [cY];exact hil) (cZ.trans (by rw [hos])) Z BD) (AD (Cc [[],[],[],[1,2],[1,2,3],[],[],[],[6,7],[6,7,8],[5,6,7,8,9],[5,6,7,8,9,10],[],[12],[5,6,7,8,9,10,11,12,13],[0,1,2,3,4,5,6,7,8,9,10,11,12,13,14],[0,1,2,3,4,5,6,7,8,9,10,11,12,13,14,15]] mixed Z (Cj (AI [18] [] Z Z (fun _=>AG (Ai Z Z)) (AI [4] [] Z Z (fun _=>AG (Ai Z Z)) ?_))))))));refine AI [19] [] Z Z (fun _=>AG (Ai Z Z)) (AI [124,125] [2] Z Z (fun _=>AG (Bu (i) Z Z (Z) (hil) Z Tryz.underlying28 BD Z)) (AI [126] [2] Z Z (fun _=>AG (CC Z Z (hgj) Z Aq Z)) (AI [18] [] Z Z (fun _=>AG (Ai Z Z)) (AI [4] [] Z Z (fun _=>AG (Ai Z Z)) (AI [19] [] Z Z (fun _=>AG (Ai Z Z)) (AI [129,130] [2] Z Z (fun _=>AG (Bu (i) Z Z (Z) (hil) Z Tryz.underlying28 BD Z)) (AI [131] [2] Z Z (fun _=>AG (CC Z Z (hgj) Z Aq Z)) (AI [128,132] [10] Z Z (fun _=>AG (Bu (x) Z Z (Z) (hxc) Z Tryz.underlying29 CG Z)) ?_))))))));refine AI [133] [10] Z Z (fun _=>AG (CC Z Z (JW hxc) Z BC Z)) (AI [19] [] Z Z (fun _=>AG (Ai Z Z)) (Fo [135] [21] [(136,_)] Z Z (fun _=>Fq (Dz 21 B4 Z Z Z Z Z Z Z Z)) (.inr ⟨136,_,Z,Z,Z,Z,Z⟩) Z Z Z Z Z (Fo [134,136] [60,40,21] [(137,_)] Z Z (fun _=>Fq (G3 134 60 40 (hr.at_ x hxc) Z Z (by rw [ψ]) Z Z Z Z Z (I8 (emb:=AM) (FG (fun v=>DO seq seq.length (of v)) i x) [i] Z Z Z Z Z Z Z Z B4 (by show ((FG (fun v=>DO seq seq.length (of v)) i x).length+1)*8≤_;omega) Z Z Z Z))) (.inr ⟨137,_,Z,Z,Z,Z,Z⟩) Z Z Z Z Z (C1 15 Z Z Z (Ae 16 Z Z (Eo 137 60 40 hF Z Z Z (by rw [ψ]) (by simp) Z Z Z Z Z Z Z (fun _ _=>rfl) fun b c hb hc=>(J (Bu (x) Z Z (Z) (hxc) Z Tryz.underlying29 CG Z) (AD ⟨Z,?_⟩))))))));refine Ae 17 Z Z (V (Qc Z Z Z Z Z (by rw [FE];exact hxc) (R0 (h:=some (b,c))) Z CG) (AD ⟨Z,?_⟩));refine C6 (AE (J (Ay Z Z (Υ _ (by omega)) Z) (goMv Z Z (AD ?_))));exact ⟨(i+1,B1 (B5 M (hs x)) b (.row 3 1 c ((FG (fun v=>DO seq seq.length (of v)) i x++ [i]).map AM)),At hs x (some (b,c))),⟨hil,by have:=hr.app hxc hb hc;rw [hst] at this;exact this⟩,by show g.length - (i+1)<g.length - i;omega,A1 hF [2,9,10,40] Z (by rw [hst];rfl) ⟨Z,Z,Z,Z,Z,Z,trivial⟩⟩
    ·refine BF (AC ?_);have hin:i=g.length:=by have:=h111;omega
     subst hin;have hof:rowN g.length (ofT of (fun v=>DO seq seq.length (of v)) g.length)=((List.range g.length).map fun v=>DO seq seq.length (of v)).map AM:=by rw [ωv];exact ωj fun v hv=>Δ AM (κ (ς.1 hv))
     rw [hof];refine cU 10 0 40 ((bK cnt (FG (fun v=>DO seq seq.length (of v)) g.length)).map natsD) Z Z Z Z Z (by rw [ψ,TV,FE]) hr.melt ⟨J5 _ _ _,Zr _⟩ Z (Lo (emb:=AM) 4 2 ((List.range g.length).map fun v=>DO seq seq.length (of v)) Z Z Z (by simp) Z Z Z (AE (goMv Z Z (goMv Z Z (AB Z Z (AB Z Z (AD (A8 ?_))))))));exact ⟨_,[10],_,A7 Z,Z,Z,of,cnt,hso,by unfold conM;rw [hseq],by unfold conM;rw [hseq]⟩
noncomputable def conC (g:List (List Nat)):(Nat ->Nat)×Nat:=Classical.epsilon fun p=>CN g.length (sucs g) p.1 p.2
noncomputable def noC (g:List (List Nat)):Nat ->Nat:=(conC g).1
noncomputable def cntC (g:List (List Nat)):Nat:=(conC g).2
theorem Q3 {g:List (List Nat)} (hg:GB g) {no:Nat ->Nat} {cnt:Nat} (h:CN g.length (sucs g) no cnt):CN g.length (sucs g) (noC g) (cntC g)∧cnt=cntC g∧∀v,v<g.length ->no v=noC g v:=by
 have h2:CN g.length (sucs g) (conC g).1 (conC g).2:=Classical.epsilon_spec (p:=fun p:(Nat ->Nat)×Nat=>CN g.length (sucs g) p.1 p.2) ⟨(no,cnt),h⟩;exact ⟨h2,cn_uniq h h2 fun v hv y hy=>hg.suc hv hy⟩
noncomputable def comC (g:List (List Nat)):List (List Nat):=bK (cntC g) (FG (noC g) g.length)
noncomputable def noL (g:List (List Nat)):List Nat:=(List.range g.length).map (noC g)
theorem UH {no no':Nat ->Nat} {n:Nat} (h:∀v,v<n ->no v=no' v):FG no n=FG no' n:=by
 funext c
 unfold FG;exact χx fun v hv=>by rw [h v (ς.1 hv)]
theorem Ss (g:List (List Nat)) (hg:GT g):AN Tryz.prog 134 [.d (Ji g)] [] fun r H'=>r= .tup [.own 10 0 (cntC g),.d (natsD (noL g))]∧H'=[(10,[.rowD 28 1 ((comC g).map natsD)])]:=
 (St g hg).mono fun r H' ⟨of,cnt,hso,hr,hH⟩=>by
  obtain ⟨_,e2,e3⟩:=Q3 hg.gb (Ud hg hso);have ho:=UH e3;have hl:(List.range g.length).map (fun v=>conM g of cnt (of v))=noL g:=ωj fun v hv=>e3 v (ς.1 hv);rw [hr,hH,ho,hl,e2];exact ⟨Z,Z⟩
def toI (g:List (List Nat)):List (List Int):=g.map (List.map Int.ofNat)
theorem toI_gr (g:List (List Nat)):grI (toI g)=Ji g:=by
 unfold toI;show D.sl none ((g.map (List.map Int.ofNat)).map SS)=D.sl none (g.map natsD);rw [ωv]
 congr 1
 exact ωj fun l _=>by
  show D.sl none ((l.map Int.ofNat).map AF)=_;rw [ωv];rfl
theorem JO (g:List (List Nat)):(toI g).length=g.length:=by simp [toI]
theorem VB (g:List (List Nat)):∀i,i≤g.length ->KW (toI g) i=HT g i
 | 0,_=>rfl
 | i+1,hi=>by
  have ih:=VB g i (by omega);rw [KV (by rw [JO];omega),ih];unfold HT;rw [ψj,ωc,ψr,φf,List.sum_singleton,EI (by omega)]
  simp [toI]
theorem chk_ok {g:List (List Nat)} (hg:GT g):TC (toI g)=0:=by
 have hn:=hg.gb.n;have ht:=hg.tot;refine (chk0 (by rw [JO];omega) (by rw [JO,VB g _ (υ _)];omega) ?_).symm;rintro ⟨l,hl,x,hx,hb⟩;obtain ⟨m,hm,rfl⟩:=ϖ.1 hl;obtain ⟨y,hy,rfl⟩:=ϖ.1 hx;have:=hg.gb.lt m hm y hy;rw [JO] at hb;exact hb ⟨Int.natCast_nonneg _,Int.ofNat_lt.2 this⟩
theorem row_tot {g:List (List Nat)} {l:List Nat} (h:l∈g):l.length≤HT g g.length:=by
 obtain ⟨i,hi,rfl⟩:=χb.1 h
 have h1:HT g (i+1)=HT g i+g[i].length:=by
  unfold HT;rw [ψj,ωc,ψr,φf,List.sum_singleton,EI hi]
 have:=O9 g (i:=i+1) (j:=g.length) (by omega);omega
theorem check_n (g:List (List Nat)) (hg:GT g):AO Tryz.prog 133 [.d (Ji g)] (AF 0):=by
 have hn:=hg.gb.n;have ht:=hg.tot
 have h:=cH (toI g) (by rw [JO];omega) fun l hl=>by
  obtain ⟨m,hm,rfl⟩:=ϖ.1 hl;rw [ψ];have:=row_tot hm;omega
 rw [toI_gr,chk_ok hg] at h;exact h
theorem Q4 (g:List (List Nat)) (hg:GT g):AN Tryz.prog 80 [.d (Ji g)] [] fun r H'=>r= .tup [.own 10 0 (cntC g),.d (AF 0)]∧H'=[(10,[.rowD 28 1 ((comC g).map natsD)])]:=by
 refine BB Tryz.func80 Z Z Tryz.ntmps80 Z Z Z fun F hF=>?_;refine AC (AE (AB Z Z (AB Z Z (AD (AC (AC (AE (goMv Z Z ?_))))))));refine J (BZ (check_n g hg) Z Z) (AB Z Z (AD (AC (AE (goMv Z Z (J (EA Z Z Z) (AD (Db Z (ωp (by decide)) ?_))))))));refine A3 (AC (AE (goMv Z Z (V (Eu (Ss g hg) Z [10] ⟨Z,trivial⟩ Z Z Z Z Z Z Z Z Z) (goMv Z Z (J (Cu Z Z Z) (J (Cu Z Z Z) (AB Z Z ?_))))))));refine AB Z Z (AD (AC (AE (goMv Z Z (AB Z Z (AB Z Z (AD (A8 ?_))))))));exact ⟨_,[10],_,A7 Z,Z,Z,Z,Z⟩
theorem Z1 (suc:Nat ->List Nat) (v:Nat):∃y,(Rh suc v y∧Rh suc y v)∧∀z,Rh suc v z∧Rh suc z v ->y≤z:=exmin (fun u=>Rh suc v u∧Rh suc u v) v v ⟨.refl v,.refl v⟩ (υ _)
noncomputable def repF (suc:Nat ->List Nat) (v:Nat):Nat:=Classical.choose (Z1 suc v)
theorem GC (suc:Nat ->List Nat) (v:Nat):(Rh suc v (repF suc v)∧Rh suc (repF suc v) v)∧∀z,Rh suc v z∧Rh suc z v ->repF suc v≤z:=Classical.choose_spec (Z1 suc v)
theorem VW {suc:Nat ->List Nat} {i j:Nat}:repF suc i=repF suc j↔Rh suc i j∧Rh suc j i:=by
 obtain ⟨h1,h2⟩:=GC suc i;obtain ⟨h3,h4⟩:=GC suc j
 constructor
 ·intro e;rw [←e] at h3;exact ⟨h1.1.trans h3.2,h3.1.trans h1.2⟩
 ·intro h;exact Nat.le_antisymm (h2 _ ⟨h.1.trans h3.1,h3.2.trans h.2⟩) (h4 _ ⟨h.2.trans h1.1,h1.2.trans h.1⟩)
theorem ZO (n:Nat) (suc:Nat ->List Nat):∃of cnt,SccOf n suc of cnt:=by
 let reps:=(List.range n).filter fun v=>decide (repF suc v=v)
 have hnd:reps.Nodup:=List.nodup_range.filter _;have hle:∀v,repF suc v≤v:=fun v=>(GC suc v).2 v ⟨.refl v,.refl v⟩;have hid:∀v,repF suc (repF suc v)=repF suc v:=fun v=>VW.2 ⟨(GC suc v).1.2,(GC suc v).1.1⟩;have hm:∀v,v<n ->repF suc v∈reps:=fun v hv=>ωa.2 ⟨ς.2 (Nat.lt_of_le_of_lt (hle v) hv),ωi (hid v)⟩;refine ⟨fun v=>reps.idxOf (repF suc v),reps.length,⟨fun v hv=>ψq (hm v hv),fun i j hi hj=>?_,fun c hc=>?_,?_⟩⟩
 ·rw [←VW]
  constructor
  ·intro e;have e1:=φg (ψq (hm i hi));have e2:=φg (ψq (hm j hj));rw [←e1,←e2];simp only [e]
  ·intro e;show reps.idxOf (repF suc i)=reps.idxOf (repF suc j);rw [e]
 ·obtain ⟨h1,h2⟩:=ωa.1 (θ hc);refine ⟨reps[c],ς.1 h1,?_⟩;show reps.idxOf (repF suc reps[c])=c;rw [ψk h2];exact hnd.idxOf_getElem c hc
 ·have:=ωh (fun v=>decide (repF suc v=v)) (List.range n);rw [ωf] at this;exact this
theorem bv (g:List (List Nat)) (hg:GT g):CN g.length (sucs g) (noC g) (cntC g):=by
 obtain ⟨of,cnt,h⟩:=ZO g.length (sucs g);exact (Q3 hg.gb (Ud hg h)).1
end Go.Proofs.YteifpcnphnhaoaaGreat
namespace Go.Proofs.YteifpcnphnhaoaaGreat
open Go.RowKit Go.Shelf
set_option maxRecDepth 100000
def Ha (g:List (List Nat)) (i j:Nat):Prop:=Rh (sucs g) i j∧Rh (sucs g) j i
theorem PJ (g:List (List Nat)) (i:Nat):Ha g i i:=⟨.refl i,.refl i⟩
theorem X6 {g:List (List Nat)} {i j:Nat} (h:Ha g i j):Ha g j i:=⟨h.2,h.1⟩
theorem Iv {g:List (List Nat)} {i j k:Nat} (h:Ha g i j) (h':Ha g j k):Ha g i k:=⟨h.1.trans h'.1,h'.2.trans h.2⟩
noncomputable def clsM (g:List (List Nat)) (i:Nat):List Nat:=(List.range g.length).filter fun j=>dec (Ha g i j)
noncomputable def fstM (g:List (List Nat)):List Nat:=(List.range g.length).filter fun i=>dec (∀j,j<i ->¬Ha g i j)
noncomputable def cirG (g:List (List Nat)):List (List Nat):=lgs ((fstM g).map (clsM g))
theorem KF {g:List (List Nat)} {i j:Nat}:j∈clsM g i↔j<g.length∧Ha g i j:=by
 unfold clsM;rw [ωa,ς,Ca]
theorem NY {g:List (List Nat)} {i:Nat}:i∈fstM g↔i<g.length∧∀j,j<i ->¬Ha g i j:=by
 unfold fstM;rw [ωa,ς,Ca]
theorem clsM_eq {g:List (List Nat)} {i j:Nat} (h:Ha g i j):clsM g i=clsM g j:=by
 unfold clsM;exact χx fun k _=>by rw [Bool.eq_iff_iff,Ca,Ca];exact ⟨fun x=>Iv (X6 h) x,fun x=>Iv h x⟩
theorem Sy (g:List (List Nat)) (i:Nat):(clsM g i).Pairwise (· < ·):=List.Pairwise.sublist ψi χt
theorem S7 (g:List (List Nat)):(fstM g).Pairwise (· < ·):=List.Pairwise.sublist ψi χt
theorem MQ {g:List (List Nat)} {i:Nat} (h:i∈fstM g):hdi (clsM g i)=(i:Int):=by
 obtain ⟨h1,h2⟩:=NY.1 h;have hi:i∈clsM g i:=KF.2 ⟨h1,PJ g i⟩;have hs:=Sy g i;unfold hdi
 cases hc:clsM g i with
 | nil=>rw [hc] at hi;cases hi
 | cons a t=>
  rw [hc] at hi hs;show ((a:Nat):Int)=_;have ha:a∈clsM g i:=by rw [hc];exact ωo
  rcases Φ.1 hi with e | e
  ·rw [e]
  ·have:=List.rel_of_pairwise_cons hs e;exact absurd (KF.1 ha).2 (h2 a this)
theorem fstM_ex {g:List (List Nat)} (i:Nat) (hi:i<g.length):∃k,k∈fstM g∧Ha g i k:=by
 induction i using Nat.strongRecOn with
 | ind i ih=>
  by_cases h:∀j,j<i ->¬Ha g i j
  ·exact ⟨i,NY.2 ⟨hi,h⟩,PJ g i⟩
  ·obtain ⟨j,hj⟩:=Classical.not_forall.1 h;obtain ⟨hji,hm⟩:=Classical.not_imp.1 hj;have hm:=χs.1 hm;obtain ⟨k,hk,hm2⟩:=ih j hji (by omega);exact ⟨k,hk,Iv hm hm2⟩
theorem Rg {g:List (List Nat)} (hg:GT g) {v:Nat} (hv:v<g.length):FG (noC g) g.length (noC g v)=clsM g v:=by
 have hc:=bv g hg;unfold FG clsM
 exact χx fun w hw=>by
  rw [Bool.eq_iff_iff,decide_eq_true_iff,Ca];rw [eq_comm];exact hc.scc v w hv (ς.1 hw)
theorem IS {l:List (List Nat)} {x:List Nat}:x∈lgs l↔x∈l∧2≤x.length:=by
 unfold lgs Gs;rw [ωa];simp
theorem Sv {g:List (List Nat)} (hg:GT g) {x:List Nat}:x∈comC g↔∃i,i∈fstM g∧x=clsM g i:=by
 have hc:=bv g hg;unfold comC bK;rw [ϖ]
 constructor
 ·rintro ⟨c,h1,rfl⟩;obtain ⟨v,hv,rfl⟩:=hc.use c (ς.1 h1);obtain ⟨k,hk,hm⟩:=fstM_ex v hv;exact ⟨k,hk,by rw [Rg hg hv,clsM_eq hm]⟩
 ·rintro ⟨i,hi,rfl⟩;have hil:=(NY.1 hi).1;exact ⟨noC g i,ς.2 (hc.lt i hil),Rg hg hil⟩
theorem Nl {g:List (List Nat)} (hg:GT g):(comC g).Nodup:=by
 have hc:=bv g hg;unfold comC bK;rw [List.Nodup,ωy];refine χk (R:=fun a b=>a<b) (fun {a b} ha hb hab e=>?_) χt;obtain ⟨v,hv,rfl⟩:=hc.use a (ς.1 ha);have h1:v∈FG (noC g) g.length (noC g v):=by unfold FG;rw [ωa];exact ⟨ς.2 hv,by simp⟩
 rw [e] at h1;unfold FG at h1;rw [ωa] at h1;have:=ψk h1.2;omega
theorem Sz {g:List (List Nat)} (hg:GT g) {x:List Nat}:x∈cirG g↔x∈lgs (comC g):=by
 unfold cirG;rw [IS,IS,Sv hg,ϖ];exact ⟨fun ⟨⟨i,h1,h2⟩,h3⟩=>⟨⟨i,h1,h2.symm⟩,h3⟩,fun ⟨⟨i,h1,h2⟩,h3⟩=>⟨⟨i,h1,h2.symm⟩,h3⟩⟩
theorem L3 (g:List (List Nat)):(cirG g).Pairwise fun a b=>hdi a<hdi b:=by
 unfold cirG lgs;refine List.Pairwise.sublist ψi ?_;rw [ωy];refine χk (R:=fun a b=>a<b) (fun {a b} ha hb hab=>?_) (S7 g);rw [MQ ha,MQ hb];omega
theorem cF {g:List (List Nat)} {x y:List Nat} (hx:x∈cirG g) (hy:y∈cirG g) (h:hdi x=hdi y):x=y:=by
 unfold cirG at hx hy;obtain ⟨i,hi,rfl⟩:=ϖ.1 (IS.1 hx).1;obtain ⟨j,hj,rfl⟩:=ϖ.1 (IS.1 hy).1;rw [MQ hi,MQ hj] at h;rw [Int.ofNat_inj.1 h]
theorem TA {g:List (List Nat)} (hg:GT g) (ys:List (List Nat)) (h1:ys.Perm (lgs (comC g))) (h2:ys.Pairwise fun a b=>¬hdi b - hdi a<0):ys=cirG g:=by
 have hn:ys.Nodup:=h1.nodup_iff.2 (List.Nodup.sublist ψi (Nl hg));have hm:∀x,x∈ys↔x∈cirG g:=fun x=>by rw [h1.mem_iff,Sz hg]
 refine Cw (R:=fun a b=>hdi a<hdi b) (fun x h=>by omega) (fun x y z h h'=>by omega) ?_ (L3 g) hm;refine χk (fun {a b} ha hb hab=>?_) (List.Pairwise.and h2 hn);have h3:hdi a≠hdi b:=fun e=>hab.2 (cF ((hm a).1 ha) ((hm b).1 hb) e);have:=hab.1;omega
theorem cir_swo:Go.Sort.SWO (ltOf fun a b:List Nat=>hdi a - hdi b):=by
 refine ⟨fun x=>?_,fun x y z h h'=>?_,fun x y z h h'=>?_⟩
 ·simp [ltOf]
 ·simp only [ltOf,decide_eq_true_iff] at*;omega
 ·simp only [ltOf,decide_eq_false_iff_not] at*;omega
theorem AN.fnArgA {P:Program} {f g:FuncId} {x:AV} {H:Hp} {R:AV ->Hp ->Prop} (h:AN P f [x,.d (.fn g [] [])] H R):AN P f [x,.d (.raw (.func (.func g) #[] #[]))] H R:=
 ⟨h.1,fun F ρ vs h1 h2 h2' h3 h4 h5=>h.2 F ρ vs h1 h2 h2' h3 h4 fun i a v ha hv=>by
  rcases i with _ | _ | i
  ·exact h5 0 _ v ha hv
  ·have e:a= .d (.fn g [] []):=by simpa using ha.symm
   subst e;have:=h5 1 _ v Z hv
   cases this with
   | d hd=>
    cases hd with
    | raw _=>exact .d (.fn (us:=[]) (vs:=[]) Z Z (fun i c v hc=>by simp at hc) fun i c v hc=>by simp at hc)
  ·simp at ha⟩
theorem Ie.l {M N:MF} {b:Nat} {l:List Int} (h:Ie M b l):Ie (munion M N) b l:=by
 obtain ⟨m,h1,h2⟩:=h;exact ⟨m,Hc h1,Hc h2⟩
theorem Ie.r {M N:MF} {b:Nat} {l:List Int} (hd:∀i m m',M i=some m ->N i=some m' ->False) (h:Ie N b l):Ie (munion M N) b l:=by
 obtain ⟨m,h1,h2⟩:=h
 have hn:∀{i m'},N i=some m' ->M i=none:=fun {i m'} h=>by
  cases e:M i with
  | none=>rfl
  | some x=>exact (hd i _ _ e h).elim
 exact ⟨m,Hb (hn h1) h1,Hb (hn h2) h2⟩
theorem Ie.put {N:MF} {b b':Nat} {l:List Int} {o:Af} (h:Ie N b l) (h0:N b'=none):Ie (B1 N b' o) b l:=by
 obtain ⟨m,h1,h2⟩:=h;exact ⟨m,by rw [Fs (fun e=>by rw [e,h0] at h1;cases h1)];exact h1,by rw [Fs (fun e=>by rw [e,h0] at h2;cases h2)];exact h2⟩
abbrev C1F:FuncId:=79
def inC (L G:List Int) (id:Int):Bool:=decide (id∈L) && !decide (id∈G)
theorem circ1_c {N:MF} {b7 b8 bl bg:Nat} {L G:List Int} (hc7:N b7=some (.cells 124 [Wd bl])) (hc8:N b8=some (.cells 124 [Wd bg])) (hL:Ie N bl L) (hG:Ie N bg G) (id:Int):
  AN Tryz.prog C1F [.d (AF id),.d (pD b7 0),.d (pD b8 0)] [(41,[.multi N])] fun r H'=>r= .d (Ak (inC L G id))∧H'=[(41,[.multi N])]:=by
 refine BB Tryz.func79 Z Z Tryz.ntmps79 Z Z Z fun F hF=>(AC (AE ?_));refine AB Z Z (AD (AC (AE (J (EX (f:=41) Z Z hc7 Z on124 Z) (goMv Z Z (V (YV (IG hL id) Z [41] ⟨Z,trivial⟩ Z Z Z Z Z Z Z Z Z) (goMv Z Z (Id 8 Z (fun h8=>?_) (fun h8=>?_)))))))))
 ·refine Ad Z Z Z (J (EX (f:=41) Z Z hc8 Z on124 Z) (Ad Z Z Z ?_));refine goMv Z Z (Ad Z Z Z (V (YV (IG hG id) Z [41] ⟨Z,trivial⟩ Z Z Z Z Z Z Z Z Z) (Ad Z Z Z (J (Nz Z Z) (J (fSq Z Z Z Z) (AB Z Z (AD (A8 ?_))))))));exact ⟨_,[41],_,A7 Z,Z,Z,by {unfold inC;simp [h8]},Z⟩
 ·refine Aa Z Z Z Z (Aa Z Z Z Z (Aa Z Z Z Z (Aa Z Z Z Z (J (DR Z Z Z Z) (AB Z Z (AD (A8 ?_)))))));exact ⟨_,[41],_,A7 Z,Z,Z,by {unfold inC;simp [h8]},Z⟩
theorem grW_gt {rs:List AP} {E:List (AK×Nat)} (h:E.length≤1000):GT (grW rs E):=by
 have hl:∀l∈grW rs E,l.length≤1000∧∀x∈l,x<E.length:=fun l hl=>by
  obtain ⟨e,_,rfl⟩:=ϖ.1 hl;exact ⟨ωe (VA _ _ _ _) h,toK_lt⟩
 refine ⟨⟨by rw [EF];omega,fun l h2=>by have:=(hl l h2).1;omega,fun l h2 x hx=>by rw [EF];exact (hl l h2).2 x hx⟩,?_⟩
 have key:∀i,i≤(grW rs E).length ->HT (grW rs E) i≤i*1000:=fun i hi=>by
  induction i with
  | zero=>exact Γ _
  | succ i ih=>
   have h1:=ih (by omega);have h2:(sucs (grW rs E) i).length≤1000:=by rw [EI (by omega)];exact (hl _ (θ (by omega))).1
   unfold HT at h1⊢;rw [ψj,ωc,ψr,φf,List.sum_singleton];omega
 have h3:=key _ (υ _);have h4:(grW rs E).length≤1000:=by rw [EF];exact h
 have:(grW rs E).length*1000≤1000*1000:=ψb _ h4;omega
noncomputable def entC (p:Prb):List (AK×Nat):=((BJ p.it).filter fun i=>inC (largeS p) (DA p) i.id).map fun i=>(i,0)
theorem bV (p:Prb):(entC p).map Prod.fst=(BJ p.it).filter fun i=>inC (largeS p) (DA p) i.id:=by unfold entC;rw [ωv];exact List.map_id _
noncomputable def cirL (rs:List AP) (E:List (AK×Nat)):List (List Int):=(cirG (grW rs E)).map (Dm E)
theorem cirG_at {g:List (List Nat)} {x:List Nat} (h:x∈cirG g):2≤x.length∧x.length≤g.length∧∀k∈x,k<g.length:=by
 obtain ⟨h1,h2⟩:=IS.1 h;obtain ⟨i,_,rfl⟩:=ϖ.1 h1;exact ⟨h2,by unfold clsM;have:=ωh (fun j=>dec (Ha g i j)) (List.range g.length);rwa [ωf] at this,fun k hk=>(KF.1 hk).1⟩
theorem cE (g:List (List Nat)):(cirG g).length≤g.length:=by
 unfold cirG;refine ωe (a8 _) ?_;rw [ψ];unfold fstM;have:=ωh (fun i=>dec (∀j,j<i ->¬Ha g i j)) (List.range g.length)
 rwa [ωf] at this
theorem WQ {g:List (List Nat)} (hg:GT g) {x:List Nat} (h:x∈comC g):x.length≤g.length∧∀k∈x,k<g.length:=by
 obtain ⟨i,_,rfl⟩:=(Sv hg).1 h;exact ⟨by unfold clsM;have:=ωh (fun j=>dec (Ha g i j)) (List.range g.length);rwa [ωf] at this,fun k hk=>(KF.1 hk).1⟩
theorem cntC_le {g:List (List Nat)} (hg:GT g):cntC g≤g.length:=by
 obtain ⟨of,cnt,h⟩:=ZO g.length (sucs g);have:=(Q3 hg.gb (Ud hg h)).2.1;have:=h.le;omega
theorem Sw {g:List (List Nat)}:(comC g).length=cntC g:=by unfold comC;rw [TV]
theorem getD0 {l:List Nat} {n:Nat} (h:0<l.length) (hm:∀k∈l,k<n):l.getD 0 0<n:=by
 rw [ϱ,ω h];exact hm _ (θ h)
theorem cD {g:List (List Nat)} (hg:GT g):(cirG g).length=(lgs (comC g)).length:=by
 have h1:(cirG g).Nodup:=by
  refine List.Pairwise.imp (fun {a b} (h:hdi a<hdi b) e=>by rw [e] at h;omega) (L3 g)
 have h2:(lgs (comC g)).Nodup:=List.Nodup.sublist ψi (Nl hg);exact ((χz h1 h2).2 fun x=>Sz hg).length_eq
theorem On {ros:List A2} {its:List AK}:∀(f:Nat) (on:Nat ->Bool) (x:Int),x∈Lh ros its f on ->∃i,i<its.length∧on i=true∧x=(its.getD i AY).id
 | 0,_,_,h=>by cases h
 | f+1,on,x,h=>by
  cases hn:H8 ros its on with
  | none=>rw [IM hn] at h;cases h
  | some i=>
   rw [IL hn] at h;obtain ⟨h1,h2,_⟩:=NB hn;rcases Φ.1 h with e | h
   ·exact ⟨i,h1,h2,e⟩
   ·obtain ⟨j,h3,h4,h5⟩:=On f _ x h;refine ⟨j,h3,?_,h5⟩;unfold Ac at h4
    by_cases e:j=i
    ·rw [e];exact h2
    ·simpa [e] using h4
theorem Mi {ros:List A2} {its:List AK} (hi:(its.map AK.id).Nodup):∀(f:Nat) (on:Nat ->Bool),(Lh ros its f on).Nodup
 | 0,_=>List.nodup_nil
 | f+1,on=>by
  cases hn:H8 ros its on with
  | none=>rw [IM hn];exact List.nodup_nil
  | some i=>
   rw [IL hn];obtain ⟨h1,h2,_⟩:=NB hn;refine φa.2 ⟨fun h=>?_,Mi hi f _⟩;obtain ⟨j,h3,h4,h5⟩:=On f _ _ h;have hji:j≠i:=fun e=>by subst e;unfold Ac at h4;simp at h4
   rw [ϱ,ϱ,ω h1,ω h3] at h5;have e:(its.map AK.id)[i]'(by simpa using h1)=(its.map AK.id)[j]'(by simpa using h3):=by rw [ωd,ωd];exact h5
   rw [List.Nodup,ωq] at hi;rcases Nat.lt_trichotomy i j with h6 | h6 | h6
   ·exact hi i j _ _ h6 e
   ·exact hji h6.symm
   ·exact hi j i _ _ h6 e.symm
theorem S2 {p:Prb} (hE:Az p=0):(DA p).Nodup:=Mi (Ee hE) _ _
theorem Xn {p:Prb} (hf:GV p):(DA p).length≤30:=by
 have h:=RY (ros:=Cp p) (its:=ordP p) (ordP p).length fun _=>true;have h2:=DY p;have:=hf.i;unfold DA;omega
set_option maxHeartbeats 4000000 in
theorem Xz (p:Prb) (hf:GV p) (hE:Az p=0):AO Tryz.prog 30 [.d (CB p)] (.tup [Vu (cirL (rsP p) (entC p)),AF 0]):=by
 have hi30:=hf.i;have hlk:=JA p hf hE;have hgk:=SZ p hf hE;have hO:ordP p=BJ p.it:=κ hE;have hll:=Kp hE;have hgn:(DA p).Nodup:=S2 hE;have hgl:(DA p).length≤30:=Xn hf;refine BB Tryz.func30 Z Z Tryz.ntmps30 Z Z Z fun F hF=>?_;refine AC (AE (V (CE 1 Z Z Z Z Z Z Z) (AB Z Z (AB Z Z (AD (AC (AE (J (BO Z Z B8 Z Z Z) ?_))))))));refine J (BZ (hlk) Z Z) (goMv Z Z (J (D8 Z Z Z) (J (D8 Z Z Z) (AB Z Z (AB Z Z (AD (AC (AC ?_))))))));refine AE (goMv Z Z (J (EA Z Z Z) (AD (Db Z (ωp (by decide)) (A3 (AC (AE (J (BO Z Z B8 Z Z Z) ?_))))))));refine J (BZ (hgk) Z Z) (goMv Z Z (J (D8 Z Z Z) (J (D8 Z Z Z) (AB Z Z (AB Z Z (AD (AC (AC ?_))))))));refine AE (goMv Z Z (J (EA Z Z Z) (AD (Db Z (ωp (by decide)) (A3 (AC (AE (goMv Z Z ?_))))))));refine Ch (W2 (Fu (largeS p) (Hj hE) (by omega)) Z [41] ⟨Z,trivial⟩ Z Z Z Z (fun r H' ⟨b,N,e1,e2,_⟩=>by subst e1 e2;exact ⟨Z,Z,Z⟩) Z) Z ?_;rintro _ ⟨r,H',⟨bl,N1,e1,e2,hWl⟩,rfl⟩;subst e1 e2;refine goMv Z Z ?_;refine Ch (W2 ((Fu (DA p) hgn (by omega)).byX [(41,42)] Z) Z [42] ⟨Z,trivial⟩ Z Z Z Z (fun r H' ⟨r0,H0,⟨b,N,e1,e2,_⟩,e3,e4⟩=>by subst e3 e4 e1 e2;exact ⟨Z,Z,Z⟩) Z) Z ?_;rintro _ ⟨r,H',⟨r0,H0,⟨bg,N2,e1,e2,hWg⟩,e3,e4⟩,rfl⟩;subst e3 e4 e1 e2;refine V (CO 7 zl124 Z Z Z Z) (V (CO 8 zl124 Z Z Z Z) (V (Bi Z Z Z Z Z Z Z sz124) (V (Bi Z Z Z Z Z Z Z sz124) (AD (AC (a_merge 42 41 Z Z Z Z Z Z Z Z Z fun hdj=>?_))))));have hWl2:=hWl.l (N:=N2);have hWg2:=Ie.r hdj hWg;refine D6 (ds:=[Wd bl]) 7 7 41 hF Z Z Z Z Z Z Z Z Z Z Z (fun _=>rfl) fun b7 hb7=>?_;have hWl3:=hWl2.put (o:= .cells 124 [Wd bl]) hb7;have hWg3:=hWg2.put (o:= .cells 124 [Wd bl]) hb7;refine D6 (ds:=[Wd bg]) 8 8 41 hF Z Z Z Z Z Z Z Z Z Z Z (fun _=>rfl) fun b8 hb8=>?_;have hWl4:=hWl3.put (o:= .cells 124 [Wd bg]) hb8;have hWg4:=hWg3.put (o:= .cells 124 [Wd bg]) hb8;have hq7:=Fm (B1 (munion N1 N2) b7 (.cells 124 [Wd bl])) b8 (.cells 124 [Wd bg]);refine AE (J (BO Z Z B8 Z Z Z) (J (YU (ds:=[]) (es:=[pD b7 0,pD b8 0]) Z Z Z Z Z) ?_));refine Ch (W2 (P7 p hE hf C1F [pD b7 0,pD b8 0] _ (inC (largeS p) (DA p)) (circ1_c (by rw [Fs (fun e=>by rw [←e,Fm] at hb8;cases hb8)];exact Fm _ _ _) hq7 hWl4 hWg4)) Z [41,40] ⟨Z,Z,trivial⟩ Z Z Z Z (fun r H' ⟨E,M,e1,e2,_⟩=>by subst e1 e2;exact ⟨Z,Z,Z⟩) Z) Z ?_;rintro _ ⟨r,H',⟨E,M,e1,e2,hR,hEq⟩,rfl⟩;subst e1 e2;refine AB Z Z (AD (AC ?_));have hEq2:E.map Prod.fst=(entC p).map Prod.fst:=by rw [hEq,hO,bV]
 have hcg:=Xo (rs:=rsP p) (E:=E) (E':=entC p) hEq2;have hn30:E.length≤30:=by have h1:(E.map Prod.fst).length≤(BJ p.it).length:=(by rw [hEq,hO];exact ωh _ _);rw [ψ,DH] at h1;omega
 have haf:∀e∈E,e.1.af.length≤100000:=fun e he=>by have h1:e.1∈E.map Prod.fst:=χl he;rw [hEq,hO] at h1;have:=(hf.x _ ((W5 p.it).mem_iff.1 (ωa.1 h1).1)).2.2;omega
 have hgt:GT (grW (rsP p) E):=grW_gt (by omega)
 obtain ⟨g,hgE⟩:∃g,grW (rsP p) E=g:=⟨_,Z⟩
 have hgl2:g.length=E.length:=by rw [←hgE,EF]
 have hgc:=graph_c E hR (by omega) haf;rw [hgE] at hgt hgc;refine AE (goMv Z Z (V (Eu hgc Z [40] ⟨Z,trivial⟩ Z Z Z Z Z Z Z Z Z) ?_));refine Ch (W2 (Q4 g hgt) Z [10] ⟨Z,trivial⟩ Z Z Z Z (fun r H' ⟨e1,e2⟩=>by subst e1 e2;exact ⟨Z,Z,Z⟩) Z) Z ?_;rintro _ ⟨r,H',⟨e1,e2⟩,rfl⟩;subst e1 e2;refine goMv Z Z (J (Cu Z Z Z) (J (Cu Z Z Z) (AB Z Z (AB Z Z (AD ?_)))));refine AC (AC (AE (goMv Z Z (J (EA Z Z Z) (AD (Db Z (ωp (by decide)) (A3 (AC ?_))))))));have hcl:cntC g=(comC g).length:=Sw.symm;have hca:∀c∈comC g,c.length≤100000:=fun c hc=>by have:=(WQ hgt hc).1;omega
 have hcn30:(comC g).length≤30:=by rw [Sw];have:=cntC_le hgt;omega
 rw [hcl]
 obtain ⟨jk,hjk⟩:∃jk,(List.replicate ((comC g).length - (lgs (comC g)).length) none).map eO=jk:=⟨_,Z⟩
 have hdc:=(delC_c (comC g) (by omega) hca).fnArgA;rw [hjk] at hdc;have hcat:∀x∈lgs (comC g),0<x.length∧x.getD 0 0≤100000:=fun x hx=>by have h1:=IS.1 hx;have h2:=(WQ hgt h1.1).2;have h3:=getD0 (by omega) h2;exact ⟨by omega,by omega⟩
 refine AE (goMv Z Z (V (Eu hdc Z [10] ⟨Z,trivial⟩ Z Z Z Z Z Z Z Z Z) (AB Z Z (AD (AC (AE ?_))))));refine goMv Z Z (V (Yw laysCi Tryz.func84 Z Z (fun _=>rfl) (fun a b=>hdi a - hdi b) cir_swo (lgs (comC g)) (cirG g) jk (by have:=a8 (comC g);omega) (fun x hx y hy=>circ3_p x y (hcat x hx).1 (hcat y hy).1 (hcat x hx).2 (hcat y hy).2) (fun ys g1 g2=>TA hgt ys g1 g2) Z Z Z Ky Z Z Z Z Z) (AD (AC (AE (AB Z Z (AD (AC (AC ?_))))))));have hcl2:(lgs (comC g)).length=(cirG g).length:=(cD hgt).symm;rw [hcl2];have hc30:(cirG g).length≤30:=by have:=cE g;omega
 refine AE (goMv Z Z (J (LJ Z Tryz.underlying29 Z) (goMv Z Z (AD (A5 (O4 11 11 RT Z Z Z Z (B6 (α:=Nat×List (List Int)) (fun q=>⟨64,[(9,(.d (.sl none (E.map Cs)))),(11,(.own 11 0 q.2.length)),(50,(.own 10 0 (cirG g).length)),(51,(.d (AF ((cirG g).length:Int)))),(52,(.d (AF (q.1:Int))))],[(11,[.rowD 28 1 (q.2.map MG)]),(10,[.rowD 28 1 ((cirG g).map natsD++jk)])]⟩) (fun q=>q.1≤(cirG g).length∧q.2=((cirG g).take q.1).map (Dm E)) (fun q=>(cirG g).length - q.1) ((0,[])) (⟨Γ _,Z⟩) (A1 hF [11,10] Z Z ⟨Z,Z,Z,Z,Z,trivial⟩) ?_)))))));rintro ⟨k,T⟩ ⟨hk,hT⟩;dsimp only at hk hT⊢;refine AC (AE (J (BT Z Z Z) (AD (AC (Ah Z (fun h53=>?_) (fun h53=>?_))))))
 ·refine A3 (AC (A5 (AC ?_)));have hkl:k<(cirG g).length:=Bf h53;obtain ⟨hx2,hxl,hxm⟩:=cirG_at (θ hkl);have hTl:T.length≤30:=by rw [hT,ψ,Ω];omega
  refine AE (J (Bu (k) Z Z (Z) (hkl) Z Tryz.underlying29 CG Z) (J (CC Z Z ((show ((cirG g).map natsD++jk)[k]? =some (natsD (cirG g)[k]) from by rw [ψa (by rw [ψ];exact hkl)];exact Ag hkl)) Z BC Z) ?_));refine AB Z Z (AD (AE (goMv Z Z (goMv Z Z (goMv Z Z ?_)))));refine J (BZ (ids_p E (cirG g)[k] (fun x hx=>by have:=hxm x hx;omega) (by omega)) Z Z) (V (Dz 30 RT Z Z Z Z Z Z Z Z) (V (I8 (T) ([Dm E (cirG g)[k]]) Z Z Z Z Z Z Z Z RT (by simp only [Ψ];omega) Z Z Z Z) (AB Z Z (AD (AE (J (Ay Z Z (AT (k+1) (by omega)) Z) (goMv Z Z (AD ?_))))))));exact ⟨(k+1,T++ [Dm E (cirG g)[k]]),⟨hkl,by show _=((cirG g).take (k+1)).map _;rw [φ hkl,ωc,hT];rfl⟩,by show (cirG g).length - (k+1)<(cirG g).length - k;omega,A1 hF [11,10] Z (Z) ⟨Z,Z,Z,Z,Z,trivial⟩⟩
 ·refine BF (AC ?_);have hke:k=(cirG g).length:=by have:=h53;omega
  refine Lo (emb:=MG) 11 11 T Z Z Z Z Z Z Z ?_;rw [show T=cirL (rsP p) (entC p) by rw [hT,hke,ωt,←hgE];unfold cirL;rw [hcg.1,hcg.2.1]];refine AE (goMv Z Z (AB Z Z (AB Z Z (AD (A8 ?_)))));exact ⟨_,[],[],A7 Z,Z,Z,Z,Z⟩
abbrev Pz (p:Prb):List D:=[.sl none (p.ro.map CZ),.sl none (p.it.map Al)]
theorem ana1_c {p:Prb} {M:MF} {b1 b4 b5:Nat} {cs:List D} {e x:Int} {v:D} (hc1:M b1=some (.cells 39 (Pz p))) (hc4:M b4=some (.cells 32 cs)) (hcl:cs.length=5) (hc5:M b5=some (.cells 33 [AF e])) (h45:b5≠b4) (hv:v.one=true) (hr:AO Tryz.prog 39 [.d (CB p)] (.tup [v,AF x])):
  AN Tryz.prog 41 [.d (pD b1 0),.d (pD b4 0),.d (pD b5 0)] [(41,[.multi M])] fun r H'=>r= .tup []∧H'=[(41,[.multi (B1 (B1 M b4 (.cells 32 (cs.set 0 v))) b5 (.cells 33 [AF x]))])]:=by
 refine BB Tryz.func41 Z Z Tryz.ntmps41 Z Z Z fun F hF=>(AE ?_);refine J (DG (f:=41) (n:=2) Z Z hc1 B8 Z Z (fun c hc=>by rcases Φ.1 hc with rfl | hc;rfl;rcases Φ.1 hc with rfl | hc;rfl;cases hc) Z) (J (BZ (hr) Z Z) (goMv Z Z (J (D8 Z Z Z) (J (D8 Z Z Z) (J (CS Z fi32_0 Z Z Z) (V (O2 (f:=41) (off:=0) Z Z hv Z hc4 (by omega) Z CG) (V (O2 (f:=41) (off:=0) Z Z Z Z (by rw [Fs h45];exact hc5) (by simp) Z Yl) (AD ?_))))))));exact ⟨_,[41],_,A7 Z,Z,Z,Z,Z⟩
theorem ana2_c {p:Prb} {M:MF} {b1 b4 b5:Nat} {cs:List D} {e x:Int} {v:D} (hc1:M b1=some (.cells 39 (Pz p))) (hc4:M b4=some (.cells 32 cs)) (hcl:cs.length=5) (hc5:M b5=some (.cells 33 [AF e])) (h45:b5≠b4) (hv:v.one=true) (hr:AO Tryz.prog 43 [.d (CB p)] (.tup [v,AF x])):
  AN Tryz.prog 42 [.d (pD b1 0),.d (pD b4 0),.d (pD b5 0)] [(41,[.multi M])] fun r H'=>r= .tup []∧H'=[(41,[.multi (B1 (B1 M b4 (.cells 32 (cs.set 1 v))) b5 (.cells 33 [AF x]))])]:=by
 refine BB Tryz.func42 Z Z Tryz.ntmps42 Z Z Z fun F hF=>(AE ?_);refine J (DG (f:=41) (n:=2) Z Z hc1 B8 Z Z (fun c hc=>by rcases Φ.1 hc with rfl | hc;rfl;rcases Φ.1 hc with rfl | hc;rfl;cases hc) Z) (J (BZ (hr) Z Z) (goMv Z Z (J (D8 Z Z Z) (J (D8 Z Z Z) (J (CS Z fi32_1 Z Z Z) (V (O2 (f:=41) (off:=1) Z Z hv Z hc4 (by omega) Z CG) (V (O2 (f:=41) (off:=0) Z Z Z Z (by rw [Fs h45];exact hc5) (by simp) Z Yl) (AD ?_))))))));exact ⟨_,[41],_,A7 Z,Z,Z,Z,Z⟩
theorem ana3_c {p:Prb} {M:MF} {b1 b4 b5:Nat} {cs:List D} {e x:Int} {v:D} {v0:D} (hc1:M b1=some (.cells 39 (Pz p))) (hc4:M b4=some (.cells 32 cs)) (hcl:cs.length=5) (hv0:cs[0]? =some v0) (hc5:M b5=some (.cells 33 [AF e])) (h45:b5≠b4) (hv:v.one=true) (hr:AO Tryz.prog 23 [.d (CB p),.d v0] (.tup [v,AF x])):
  AN Tryz.prog 44 [.d (pD b1 0),.d (pD b4 0),.d (pD b5 0)] [(41,[.multi M])] fun r H'=>r= .tup []∧H'=[(41,[.multi (B1 (B1 M b4 (.cells 32 (cs.set 2 v))) b5 (.cells 33 [AF x]))])]:=by
 refine BB Tryz.func44 Z Z Tryz.ntmps44 Z Z Z fun F hF=>(AE (J (DG (f:=41) (n:=2) Z Z hc1 B8 Z Z (fun c hc=>by rcases Φ.1 hc with rfl | hc;rfl;rcases Φ.1 hc with rfl | hc;rfl;cases hc) Z) (J (CS Z fi32_0 Z Z Z) ?_)));refine J (EX (f:=41) Z Z hc4 hv0 BC Z) (J (BZ (hr) Z Z) (goMv Z Z (J (D8 Z Z Z) (J (D8 Z Z Z) (J (CS Z bN Z Z Z) (V (O2 (f:=41) (off:=2) Z Z hv Z hc4 (by omega) Z sz29) (V (O2 (f:=41) (off:=0) Z Z Z Z (by rw [Fs h45];exact hc5) (by simp) Z Yl) (AD ?_))))))));exact ⟨_,[41],_,A7 Z,Z,Z,Z,Z⟩
theorem ana4_c {p:Prb} {M:MF} {b1 b4 b5:Nat} {cs:List D} {e x:Int} {v:D} (hc1:M b1=some (.cells 39 (Pz p))) (hc4:M b4=some (.cells 32 cs)) (hcl:cs.length=5) (hc5:M b5=some (.cells 33 [AF e])) (h45:b5≠b4) (hv:v.one=true) (hr:AO Tryz.prog 30 [.d (CB p)] (.tup [v,AF x])):
  AN Tryz.prog 45 [.d (pD b1 0),.d (pD b4 0),.d (pD b5 0)] [(41,[.multi M])] fun r H'=>r= .tup []∧H'=[(41,[.multi (B1 (B1 M b4 (.cells 32 (cs.set 3 v))) b5 (.cells 33 [AF x]))])]:=by
 refine BB Tryz.func45 Z Z Tryz.ntmps45 Z Z Z fun F hF=>(AE ?_);refine J (DG (f:=41) (n:=2) Z Z hc1 B8 Z Z (fun c hc=>by rcases Φ.1 hc with rfl | hc;rfl;rcases Φ.1 hc with rfl | hc;rfl;cases hc) Z) (J (BZ (hr) Z Z) (goMv Z Z (J (D8 Z Z Z) (J (D8 Z Z Z) (J (CS Z fi32_3 Z Z Z) (V (O2 (f:=41) (off:=3) Z Z hv Z hc4 (by omega) Z sz29) (V (O2 (f:=41) (off:=0) Z Z Z Z (by rw [Fs h45];exact hc5) (by simp) Z Yl) (AD ?_))))))));exact ⟨_,[41],_,A7 Z,Z,Z,Z,Z⟩
theorem ana5_c {p:Prb} {M:MF} {b1 b4 b5:Nat} {cs:List D} {e x:Int} {v:D} (hc1:M b1=some (.cells 39 (Pz p))) (hc4:M b4=some (.cells 32 cs)) (hcl:cs.length=5) (hc5:M b5=some (.cells 33 [AF e])) (h45:b5≠b4) (hv:v.one=true) (hr:AO Tryz.prog 31 [.d (CB p)] (.tup [v,AF x])):
  AN Tryz.prog 46 [.d (pD b1 0),.d (pD b4 0),.d (pD b5 0)] [(41,[.multi M])] fun r H'=>r= .tup []∧H'=[(41,[.multi (B1 (B1 M b4 (.cells 32 (cs.set 4 v))) b5 (.cells 33 [AF x]))])]:=by
 refine BB Tryz.func46 Z Z Tryz.ntmps46 Z Z Z fun F hF=>(AE ?_);refine J (DG (f:=41) (n:=2) Z Z hc1 B8 Z Z (fun c hc=>by rcases Φ.1 hc with rfl | hc;rfl;rcases Φ.1 hc with rfl | hc;rfl;cases hc) Z) (J (BZ (hr) Z Z) (goMv Z Z (J (D8 Z Z Z) (J (D8 Z Z Z) (J (CS Z fi32_4 Z Z Z) (V (O2 (f:=41) (off:=4) Z Z hv Z hc4 (by omega) Z sz30) (V (O2 (f:=41) (off:=0) Z Z Z Z (by rw [Fs h45];exact hc5) (by simp) Z Yl) (AD ?_))))))));exact ⟨_,[41],_,A7 Z,Z,Z,Z,Z⟩
abbrev Lj:D:= .sl (some true) []
def anF:List FuncId:=[41,42,44,45,46]
def anD (b1 b4 b5:Nat) (g:FuncId):D:= .fn g [] [pD b1 0,pD b4 0,pD b5 0]
noncomputable def repV (p:Prb):List D:=[MG (largeS p),MG (DA p),Vu (compL (rsP p) (DP p (largeS p))),Vu (cirL (rsP p) (entC p)),.sl none ((bksL p).map bkD)]
noncomputable def repC (p:Prb) (k:Nat):List D:=(repV p).take k++List.replicate (5 - k) Lj
theorem an_c {p:Prb} (hf:GV p) (hE:Az p=0) {M:MF} {b1 b4 b5:Nat} {k:Nat} (hk:k<anF.length) (hc1:M b1=some (.cells 39 (Pz p))) (hc4:M b4=some (.cells 32 (repC p k))) (hc5:M b5=some (.cells 33 [AF 0])) (h45:b5≠b4):
  AN Tryz.prog anF[k] [.d (pD b1 0),.d (pD b4 0),.d (pD b5 0)] [(41,[.multi M])] fun r H'=>r= .tup []∧H'=[(41,[.multi (B1 (B1 M b4 (.cells 32 (repC p (k+1)))) b5 (.cells 33 [AF 0]))])]:=by
 have hlm:∀x∈largeS p,x∈p.it.map AK.id:=fun x hx=>Xa hE hx;have hln:=Hj hE;have hll:=Kp hE;have hi:=hf.i
 match k,hk with
 | 0,_=>exact ana1_c hc1 hc4 Z hc5 h45 Z (JA p hf hE)
 | 1,_=>exact ana2_c hc1 hc4 Z hc5 h45 Z (SZ p hf hE)
 | 2,_=>exact ana3_c hc1 hc4 Z Z hc5 h45 Z (bp p (largeS p) hf (by omega) (Q8 hE hln hlm) hE hln)
 | 3,_=>exact ana4_c hc1 hc4 Z hc5 h45 Z (Xz p hf hE)
 | 4,_=>exact ana5_c hc1 hc4 Z hc5 h45 Z (YE p hf hE)
set_option maxHeartbeats 4000000 in
theorem Ul (p:Prb) (hf:GV p) (hE:Az p=0):AO Tryz.prog 12 [.d (CB p)] (.tup [.agg (repV p),AF 0]):=by
 refine BB Tryz.func12 Z Z Tryz.ntmps12 Z Z Z fun F hF=>(AC (AE ?_));refine V (CE 1 Z Z Z Z Z Z Z) (V (CO 2 zl32 Z Z Z Z) (AB Z Z (AD (AC (AE (V (CO 4 zl32 Z Z Z Z) (AD (AC ?_))))))));refine AE (V (CO 5 zl33 Z Z Z Z) (AD (AC (AC (I7 41 Z Z Z (D6 (ds:=Pz p) 1 1 41 hF Z Z Z Z Z Z Z Z Z Z Z (fun _=>rfl) fun b1 hb1=>(D6 (ds:=[Lj,Lj,Lj,Lj,Lj]) 4 4 41 hF Z Z Z Z Z Z Z Z Z Z Z (fun _=>rfl) fun b4 hb4=>(D6 (ds:=[AF 0]) 5 5 41 hF Z Z Z Z Z Z Z Z Z Z Z (fun _=>rfl) fun b5 hb5=>?_))))))));have h41:b4≠b1:=fun e=>by rw [e,Fm] at hb4;cases hb4
 have h54:b5≠b4:=fun e=>by rw [e,Fm] at hb5;cases hb5
 have h51:b5≠b1:=fun e=>by rw [e,Fs (Ne.symm h41),Fm] at hb5;cases hb5
 refine AE (J (YU (ds:=[]) (es:=[pD b1 0,pD b4 0,pD b5 0]) Z Z Z Z Z) (J (YU (ds:=[]) (es:=[pD b1 0,pD b4 0,pD b5 0]) Z Z Z Z Z) ?_));refine J (YU (ds:=[]) (es:=[pD b1 0,pD b4 0,pD b5 0]) Z Z Z Z Z) (J (YU (ds:=[]) (es:=[pD b1 0,pD b4 0,pD b5 0]) Z Z Z Z Z) (J (YU (ds:=[]) (es:=[pD b1 0,pD b4 0,pD b5 0]) Z Z Z Z Z) (V (Dz 20 sl94 Z Z Z Z Z Z Z Z) (J (LJ Z Tryz.underlying94 Z) (goMv Z Z (AD (A5 (B6 (α:=Nat×MF) (fun q=>⟨27,[(2,(.ptr 2 0 0)),(4,(.d (pD b4 0))),(5,(.d (pD b5 0))),(13,(.own 20 0 5)),(14,(.d (AF 5))),(15,(.d (AF (q.1:Int))))],[(20,[.rowD 1 1 (anF.map (anD b1 b4 b5))]),(2,[.blk 32 [.d Lj,.d Lj,.d Lj,.d Lj,.d Lj]]),(41,[.multi q.2])]⟩) (fun q=>q.1≤5∧q.2 b1=some (.cells 39 (Pz p))∧q.2 b4=some (.cells 32 (repC p q.1))∧q.2 b5=some (.cells 33 [AF 0])) (fun q=>5 - q.1) ((0,_)) (⟨Γ _,by show B1 _ _ _ _=_;rw [Fs (Ne.symm h51),Fs (Ne.symm h41)];exact Fm _ _ _,by show B1 _ _ _ _=_;rw [Fs (Ne.symm h54)];exact Fm _ _ _,Fm _ _ _⟩) (A1 hF [20,2,41] Z Z ⟨Z,Z,Z,Z,Z,Z,trivial⟩) ?_))))))));rintro ⟨k,M⟩ ⟨hk,hc1,hc4,hc5⟩;dsimp only at hk hc1 hc4 hc5⊢;refine AC (AE (J (BT Z Z Z) (AD (AC (Ah Z (fun h16=>?_) (fun h16=>?_))))))
 ·refine A3 (AC (A5 (AC ?_)));have hkl:k<5:=Bf h16;have hka:k<anF.length:=hkl;have hM1:B1 (B1 M b4 (.cells 32 (repC p (k+1)))) b5 (.cells 33 [AF 0]) b1=some (.cells 39 (Pz p)):=by rw [Fs (Ne.symm h51),Fs (Ne.symm h41)];exact hc1
  have hM4:B1 (B1 M b4 (.cells 32 (repC p (k+1)))) b5 (.cells 33 [AF 0]) b4=some (.cells 32 (repC p (k+1))):=by rw [Fs (Ne.symm h54)];exact Fm _ _ _
  have hM5:B1 (B1 M b4 (.cells 32 (repC p (k+1)))) b5 (.cells 33 [AF 0]) b5=some (.cells 33 [AF 0]):=Fm _ _ _;refine AE (J (Bu (k) Z Z (Z) (hkl) Z Tryz.underlying94 sz1 Z) (J (CC Z Z (Ag hka) Z on1 Z) (AB Z Z (AD (AC (AE (goMv Z Z ?_)))))));refine Ch (Ws (an_c hf hE hka hc1 hc4 hc5 h54) Z [41] ⟨Z,trivial⟩ Z Z Z Z (fun r H' ⟨e1,e2⟩=>by subst e1 e2;exact ⟨Z,Z,Z⟩) Z) Z ?_;rintro _ ⟨r,H',⟨e1,e2⟩,rfl⟩;subst e1 e2;refine AD (AC (AE ?_));refine J (EX (f:=41) Z Z hM5 Z on33 Z) (J (EA Z Z Z) (AD (Db Z (ωp (by decide)) (A3 (AE (J (Ay Z Z (AT (k+1) (by omega)) Z) (goMv Z Z (AD ?_))))))));exact ⟨(k+1,_),⟨by show k+1≤5;omega,hM1,hM4,hM5⟩,by show 5 - (k+1)<5 - k;omega,A1 hF [20,2,41] Z (Z) ⟨Z,Z,Z,Z,Z,Z,trivial⟩⟩
 ·refine BF (AC ?_);have hke:k=5:=by have:=h16;omega
  subst hke;refine AE (J (DG (f:=41) (n:=5) Z Z hc4 rw32 Z Z (fun c hc=>by have h5:c∈repV p:=hc;unfold repV at h5;simp only [Φ,List.not_mem_nil,or_false] at h5;rcases h5 with rfl | rfl | rfl | rfl | rfl<;>rfl) Z) (V (Bi Z Z Z Z Z Z Z sz32) (AB Z Z (AD (A8 ?_)))));exact ⟨_,[],_,A7 Z,Z,Z,Z,Z⟩
theorem Sx {n:Nat} {C:Nat ->Nat ->Prop} (hn:0<n) (h:∀i j,i<n ->j<n ->C i j):clsN n C=[List.range n]:=by
 unfold clsN
 have h1:((List.range n).filter fun k=>dec (∀j,j<k ->¬C k j))=[0]:=by
  obtain ⟨m,rfl⟩:∃m,n=m+1:=⟨n - 1,by omega⟩
  rw [List.range_succ_eq_map,φj,κ (bi fun j hj=>absurd hj (Nat.not_lt_zero j)),List.filter_map]
  have h2:(List.range m).filter ((fun k=>dec (∀j,j<k ->¬C k j))∘Nat.succ)=[]:=List.filter_eq_nil_iff.2 fun k hk=>by
   have hkm:=ς.1 hk;show ¬dec (∀j,j<k+1 ->¬C (k+1) j)=true;rw [Ca];exact fun hh=>hh 0 (Nat.succ_pos k) (h _ _ (by omega) (by omega))
  rw [h2];rfl
 rw [h1,φf,List.filter_eq_self.2 fun j hj=>bi (h 0 j hn (ς.1 hj))]
theorem cG (g:List (List Nat)):cirG g=lgs (clsN g.length (Ha g)):=rfl
theorem grW_suc {rs:List AP} {E:List (AK×Nat)} {i j:Nat}:j∈sucs (grW rs E) i↔i<E.length∧j<E.length∧c9 rs (D7 E i) (D7 E j):=by
 by_cases hi:i<E.length
 ·rw [EI (by rw [EF];exact hi)];have e:(grW rs E)[i]'(by rw [EF];exact hi)=toK rs E (E[i]).1 E.length:=by simp [grW]
  rw [e,←D5 hi];unfold toK;rw [ωa,ς,ψe];exact ⟨fun h=>⟨hi,h.1,h.2⟩,fun h=>⟨h.2.1,h.2.2⟩⟩
 ·refine ⟨fun h=>?_,fun h=>absurd h.1 hi⟩;unfold sucs at h;rw [ϱ,ωx (by rw [EF];omega)] at h
  cases h
theorem R5 {n:Nat} {suc:Nat ->List Nat} {nx:Nat ->Nat} (h:∀i,i<n ->nx i∈suc i) {P:Nat ->Nat} (hP:∀i,i<n ->P i<n) (hs:∀m,m<n ->nx (P m)=P ((m+1) % n)) (hsur:∀i,i<n ->∃m,m<n∧P m=i):∀i j,i<n ->j<n ->Rh suc i j:=by
 have step:∀d m,m<n ->Rh suc (P m) (P ((m+d) % n)):=fun d m hm=>by
  induction d with
  | zero=>rw [χo,Nat.mod_eq_of_lt hm];exact .refl _
  | succ d ih=>
   have hlt:=Nat.mod_lt (m+d) (by omega:n>0);have h1:=h _ (hP _ hlt);rw [hs _ hlt,Nat.mod_add_mod] at h1;exact .step ih h1
 intro i j hi hj;obtain ⟨a,ha,rfl⟩:=hsur i hi;obtain ⟨b,hb,rfl⟩:=hsur j hj;have:=step (b+n - a) a ha
 rwa [show a+(b+n - a)=b+n by omega,Nat.add_mod_right,Nat.mod_eq_of_lt hb] at this
def aw:List AK:=[OP 1 [65] [66] 5,OP 2 [66] [67] 5,OP 3 [67] [65] 5,OP 4 [65] [68] 4]
def kK:Prb:=⟨Pw,aw⟩
theorem UP:Az kK=0:=by decide
theorem kK_F:GV kK:=⟨by decide,by decide,by decide⟩
theorem kK_R:Cp kK=Pw:=(ZX UP (List.Perm.refl _) (by decide)).symm
theorem ao:ordP kK=aw:=by decide
theorem kK_L:largeS kK=[1,2,3]:=by
 unfold largeS L0;rw [kK_R,ao];exact ψk (by kernel_rfl)
theorem kK_G:DA kK=[]:=by
 unfold DA;rw [kK_R,ao];exact ψk (by kernel_rfl)
def eK:List (AK×Nat):=[(OP 1 [65] [66] 5,0),(OP 2 [66] [67] 5,0),(OP 3 [67] [65] 5,0)]
theorem kK_e1:DP kK [1,2,3]=eK:=by
 unfold DP;rw [←show ordP kK=BJ kK.it from κ UP,ao]
 rfl
theorem kK_e2:entC kK=eK:=by
 unfold entC;rw [←show ordP kK=BJ kK.it from κ UP,ao,kK_L,kK_G]
 rfl
theorem kK_rs:∀r∈rsP kK,BN r=0:=by decide
theorem kK_w {i j:Nat} (hi:i<3) (hj:j<3) (h:decide (∃r∈rsP kK,CR (D7 eK i) r<0∧0<CR (D7 eK j) r)=true):c9 (rsP kK) (D7 eK i) (D7 eK j):=
 (wt_iff kK_rs (by match i,hi with | 0,_=>decide | 1,_=>decide | 2,_=>decide) (by match j,hj with | 0,_=>decide | 1,_=>decide | 2,_=>decide)).2 (.inr (ψk h))
theorem wt_int {rs:List AP} {a b:AK} (h:c9 rs a b):Lp rs a b:=by
 rcases h with ⟨d,hd,h1,h2⟩ | h
 ·refine .inr (.inr ⟨d.1,χl hd,?_⟩);refine Decidable.byContradiction fun hn=>?_;rw [IR hn] at h2;exact absurd h2 (by decide)
 ·exact .inl h
def nxK:Nat ->Nat
 | 0=>2
 | 1=>0
 | _=>1
theorem Vz (i:Nat) (hi:i<3):nxK i<3∧c9 (rsP kK) (D7 eK i) (D7 eK (nxK i)):=by
 match i,hi with
 | 0,_=>exact ⟨by decide,kK_w (by decide) (by decide) (by decide)⟩
 | 1,_=>exact ⟨by decide,kK_w (by decide) (by decide) (by decide)⟩
 | 2,_=>exact ⟨by decide,kK_w (by decide) (by decide) (by decide)⟩
def oK:Nat ->Nat
 | 0=>0
 | 1=>2
 | _=>1
theorem kK_cir:cirL (rsP kK) eK=[[1,2,3]]:=by
 have h:∀i j,i<3 ->j<3 ->Rh (sucs (grW (rsP kK) eK)) i j:=R5 (nx:=nxK) (P:=oK) (fun i hi=>grW_suc.2 ⟨hi,(Vz i hi).1,(Vz i hi).2⟩) (by decide) (by decide) (by decide);unfold cirL;rw [cG,EF,show eK.length=3 from rfl,Sx (by decide) fun i j hi hj=>⟨h i j hi hj,h j i hj hi⟩]
 decide
theorem kK_com:compL (rsP kK) eK=[[1,2,3]]:=by
 have h:∀i j,i<3 ->j<3 ->Rh (nbI (rsP kK) eK) i j:=R5 (nx:=nxK) (P:=oK) (fun i hi=>D2.2 ⟨hi,(Vz i hi).1,wt_int (Vz i hi).2⟩) (by decide) (by decide) (by decide);unfold compL;rw [show eK.length=3 from rfl,Sx (C:=Cn (rsP kK) eK) (by decide) h]
 decide
theorem am:linL kK=Pw.map (HU kK):=(Vv UP (List.Perm.refl _) (by decide)).symm
theorem al (i:Int) (h:(Bm kK i).af=[]):OE kK i=(Pw.map (HU kK)).flatMap (Ec i):=by
 unfold OE;rw [h,am];unfold XJ;rw [Wv];rfl
theorem kK_clo:cloS kK [4]=[1,4]:=by
 have h4:OE kK 4=[⟨4,1,rcK 65⟩]:=by rw [al 4 (by decide)];exact ψk (by kernel_rfl)
 have h1:OE kK 1=[]:=by rw [al 1 (by decide)];exact ψk (by kernel_rfl)
 rw [←WT (C:=[4,1]) UP (by decide) (by decide) fun x=>?_]
 ·exact (RP (List.Perm.swap _ _ _) (by decide)).symm
 ·constructor
  ·intro h;rcases Φ.1 h with rfl | h
   ·exact .base (by decide)
   ·rw [ξ.1 h];exact W9.step (b:=⟨4,1,rcK 65⟩) (i:=4) (.base (by decide)) (by rw [h4];exact ξ.2 Z)
  ·intro h
   induction h with
   | base h=>rw [ξ.1 h];decide
   | step _ hb ih=>
    rcases Φ.1 ih with rfl | ih
    ·rw [h4] at hb;rw [ξ.1 hb];decide
    ·rw [ξ.1 ih,h1] at hb;cases hb
theorem kK_v:vio1L kK 4=[⟨rcK 65,9⟩]:=by
 unfold vio1L La;rw [kK_clo,am];exact ψk (by kernel_rfl)
theorem kK_blk:bksL kK=[(4,⟨rcK 65,9⟩)]:=by
 unfold bksL;rw [←show ordP kK=BJ kK.it from κ UP,ao];have h1:∀id∈([1,2,3]:List Int),bkOf kK id=none:=fun id h=>TK (by rw [kK_L];exact h)
 have h4:bkOf kK 4=some (4,⟨rcK 65,9⟩):=by
  unfold bkOf;rw [kK_L,kK_v,ϑ (by decide)];rfl
 show ([1,2,3,4]:List Int).filterMap (bkOf kK)=_;rw [List.filterMap_cons,h1 1 (by decide),List.filterMap_cons,h1 2 (by decide),List.filterMap_cons,h1 3 (by decide),List.filterMap_cons,h4]
 rfl
theorem kK_rep:repV kK=[MG [1,2,3],MG [],Vu [[1,2,3]],Vu [[1,2,3]],.sl none (([(4,⟨rcK 65,9⟩)]:List (Int×A2)).map bkD)]:=by
 unfold repV;rw [kK_L,kK_G,kK_e1,kK_e2,kK_com,kK_cir,kK_blk]
theorem ST (l m:List Int) (hl:l.length≤100000) (hm:m.length≤100000):AO Tryz.prog 17 [.d (.sl none (l.map AF)),.d (.sl none (m.map AF))] (Ak (decide (l=m))):=by
 refine BB Tryz.func17 Z Z Tryz.ntmps17 Z Z Z fun F hF=>(AC (AE (AB Z Z (AD (AC ?_)))));refine AC (AE (goMv Z Z (J (Bz Z Tryz.underlying28 Z) (goMv Z Z (J (Bz Z Tryz.underlying28 Z) (J (EA Z Z Z) (AD (Ah Z (fun h10=>?_) (fun h10=>?_)))))))))
 ·refine AC (AE (AB Z Z (AD (A8 ?_))));exact ⟨_,[],[],A7 Z,Z,Z,K6 (fun h=>by have h1:=Δ List.length h;have h:=h10;omega),Z⟩
 ·refine A3 (AC (AC ?_));have hlen:l.length=m.length:=by have h:=h10;omega
  refine AE (AB Z Z (AD (A5 (B6 (α:=Nat) (fun k=>⟨26,[(0,.d (.sl none (l.map AF))),(1,.d (.sl none (m.map AF))),(5,(.d (AF (k:Int))))],[]⟩) (fun k=>k≤l.length∧l.take k=m.take k) (fun k=>l.length - k) (0) (⟨Γ _,by simp⟩) (A1 hF [] Z Z ⟨Z,Z,Z,trivial⟩) ?_))));rintro k ⟨hk0,hk⟩;refine AC (AC (AE (goMv Z Z (goMv Z Z (J (Bz Z Tryz.underlying28 Z) (J (BT Z Z Z) (AD (Ah Z (fun h14=>?_) (fun h14=>?_)))))))))
  ·have hk1:k<l.length:=Bf h14;refine A3 (AC (A5 (AC ?_)));have hk2:k<m.length:=by omega
   refine Cc [[],[],[0,1],[0,1,2],[],[],[4,5],[4,5,6],[0,1,2,3,4,5,6,7]] mixed Z (Cj (AI [0] [] Z Z (fun _=>AG (Ai Z Z)) (AI [5] [] Z Z (fun _=>AG (Ai Z Z)) (AI [17,18] [] Z Z (fun _=>AG (Bb (k) Z Z (Z) (Ag hk1) Tryz.underlying28 Z BD Z)) ?_))));refine AI [19] [] Z Z (fun _=>AG (Cm Z Z Aq Z)) (AI [1] [] Z Z (fun _=>AG (Ai Z Z)) (AI [5] [] Z Z (fun _=>AG (Ai Z Z)) (AI [21,22] [] Z Z (fun _=>AG (Bb (k) Z Z (Z) (Ag hk2) Tryz.underlying28 Z BD Z)) (AI [23] [] Z Z (fun _=>AG (Cm Z Z Aq Z)) (C1 8 Z Z Z (Ae 9 Z Z (J (EA Z Z Z) (AD ⟨Z,?_⟩))))))));refine C6 (Ah Z (fun h25=>?_) (fun h25=>?_))
   ·refine AC (AE (AB Z Z (AD (A8 ?_))));exact ⟨_,[],[],A7 Z,Z,Z,K6 (fun h=>by subst h;exact h25 Z),Z⟩
   ·refine A3 (AE (goMv Z Z (J (Ay Z Z (AT (k+1) (by omega)) Z) (AB Z Z (AD ?_)))));exact ⟨k+1,⟨by show k+1≤_;omega,by rw [φ hk1,φ hk2,hk,χs.1 h25]⟩,by show l.length - (k+1)<l.length - k;omega,A1 hF [] Z (Z) ⟨Z,Z,Z,trivial⟩⟩
  ·refine BF (AC (AE (AB Z Z (AD (A8 ?_)))));exact ⟨_,[],[],A7 Z,Z,Z,retT (by have h1:=hk;rw [Ξ (by have h:=h14;omega),Ξ (by have h:=h14;omega)] at h1;exact h1),Z⟩
theorem PR (l m:List (List Int)) (hl:l.length≤100000) (hm:m.length≤100000) (hll:∀x∈l,x.length≤100000) (hmm:∀x∈m,x.length≤100000):AO Tryz.prog 18 [.d (Vu l),.d (Vu m)] (Ak (decide (l=m))):=by
 refine BB Tryz.func18 Z Z Tryz.ntmps18 Z Z Z fun F hF=>(AC (AE (AB Z Z (AD (AC ?_)))));refine AC (AE (goMv Z Z (J (Bz Z Tryz.underlying29 Z) (goMv Z Z (J (Bz Z Tryz.underlying29 Z) (J (EA Z Z Z) (AD (Ah Z (fun h10=>?_) (fun h10=>?_)))))))))
 ·refine AC (AE (AB Z Z (AD (A8 ?_))));exact ⟨_,[],[],A7 Z,Z,Z,K6 (fun h=>by have h1:=Δ List.length h;have h:=h10;omega),Z⟩
 ·refine A3 (AC (AC ?_));have hlen:l.length=m.length:=by have h:=h10;omega
  refine AE (AB Z Z (AD (A5 (B6 (α:=Nat) (fun k=>⟨27,[(0,.d (Vu l)),(1,.d (Vu m)),(5,(.d (AF (k:Int))))],[]⟩) (fun k=>k≤l.length∧l.take k=m.take k) (fun k=>l.length - k) (0) (⟨Γ _,by simp⟩) (A1 hF [] Z Z ⟨Z,Z,Z,trivial⟩) ?_))));rintro k ⟨hk0,hk⟩;refine AC (AC (AE (goMv Z Z (goMv Z Z (J (Bz Z Tryz.underlying29 Z) (J (BT Z Z Z) (AD (Ah Z (fun h14=>?_) (fun h14=>?_)))))))))
  ·have hk1:k<l.length:=Bf h14;refine A3 (AC (A5 (AC ?_)));have hk2:k<m.length:=by omega
   refine Cc [[],[],[0,1],[0,1,2],[],[],[4,5],[4,5,6],[0,1,2,3,4,5,6,7],[0,1,2,3,4,5,6,7,8]] mixed Z (Cj (AI [0] [] Z Z (fun _=>AG (Ai Z Z)) (AI [5] [] Z Z (fun _=>AG (Ai Z Z)) (AI [17,18] [] Z Z (fun _=>AG (Bb (k) Z Z (Z) (Ag hk1) Tryz.underlying29 Z CG Z)) ?_))));refine AI [19] [] Z Z (fun _=>AG (Cm Z Z BC Z)) (AI [1] [] Z Z (fun _=>AG (Ai Z Z)) (AI [5] [] Z Z (fun _=>AG (Ai Z Z)) (AI [21,22] [] Z Z (fun _=>AG (Bb (k) Z Z (Z) (Ag hk2) Tryz.underlying29 Z CG Z)) (AI [23] [] Z Z (fun _=>AG (Cm Z Z BC Z)) (C1 8 Z Z Z (Ae 9 Z Z (J (BZ (ST l[k] m[k] (hll _ (θ hk1)) (hmm _ (θ hk2))) Z Z) (AD ⟨Z,?_⟩))))))));refine Ae 10 Z Z (J (Nz Z Z) (AD ⟨Z,?_⟩));refine C6 (Ah Z (fun h26=>?_) (fun h26=>?_))
   ·refine AC (AE (AB Z Z (AD (A8 ?_))));exact ⟨_,[],[],A7 Z,Z,Z,K6 (fun h=>by subst h;exact h26 Z),Z⟩
   ·refine A3 (AE (goMv Z Z (J (Ay Z Z (AT (k+1) (by omega)) Z) (AB Z Z (AD ?_)))));exact ⟨k+1,⟨by show k+1≤_;omega,by rw [φ hk1,φ hk2,hk,χs.1 h26]⟩,by show l.length - (k+1)<l.length - k;omega,A1 hF [] Z (Z) ⟨Z,Z,Z,trivial⟩⟩
  ·refine BF (AC (AE (AB Z Z (AD (A8 ?_)))));exact ⟨_,[],[],A7 Z,Z,Z,retT (by have h1:=hk;rw [Ξ (by have h:=h14;omega),Ξ (by have h:=h14;omega)] at h1;exact h1),Z⟩
end Go.Proofs.YteifpcnphnhaoaaGreat
