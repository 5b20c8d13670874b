import Derived.Test.YteifpcnphnhaoaaGreatMg25
namespace Go.Proofs.YteifpcnphnhaoaaGreat
open Go.RowKit
set_option maxRecDepth 100000
abbrev HL (lst:List Nat):Hp:=[(5,[.blk 28 [.own 6 0 lst.length]]),(6,[.rowD 3 1 (lst.map AN)])]
theorem lessL_c (lst:List Nat) (a b:Nat) (ha:a<lst.length) (hb:b<lst.length):AM Tryz.prog 182 [.d (AN a),.d (AN b),.ptr 5 0 0] (HL lst) fun r H'=>r= .d (Ag (decide (nth lst a<nth lst b)))∧H'=HL lst:=by
 refine Az Tryz.func182 Z Z Tryz.ntmps182 Z Z Z fun F hF=>(AC ?_);refine AE (AB Z Z (AD (AC (Cb [[],[],[0,1],[0,1,2],[],[],[4,5],[4,5,6],[0,1,2,3,4,5,6,7],[0,1,2,3,4,5,6,7,8]] mixed Z (Cr (At [2] Z Z (fun _=>AG (A6 Z Z Z BI Z)) (AJ [0] [] Z Z (fun _=>AG (Aj Z Z)) (At [6,7] Z Z (fun _=>AG (Br (a) Z Z (Z) (ha) Z Tryz.underlying28 BA Z)) ?_))))))));refine At [8] Z Z (fun _=>AG (Bw Z Z (Kn ha) Z Aq Z)) (At [2] Z Z (fun _=>AG (A6 Z Z Z BI Z)) (AJ [1] [] Z Z (fun _=>AG (Aj Z Z)) (At [10,11] Z Z (fun _=>AG (Br (b) Z Z (Z) (hb) Z Tryz.underlying28 BA Z)) (At [12] Z Z (fun _=>AG (Bw Z Z (Kn hb) Z Aq Z)) (C3 8 Z Z Z (Aa 9 Z Z (J (BV Z Z Z) (AD ⟨Z,?_⟩))))))));refine Aa 10 Z Z (AB Z Z (AD ⟨Z,?_⟩));refine C9 (A5 ?_);exact ⟨_,[5,6],_,A3 Z,Z,Z,bdec Int.ofNat_lt,Z⟩
abbrev L4 (lst:List Nat) (l j:List Nat):Hp:=[(1,[.blk 323 [.own 2 0 l.length,.fn 182 [.ptr 5 0 0]]]),(2,[.rowD 3 1 ((l++j).map AN)]),(5,[.blk 28 [.own 6 0 lst.length]]),(6,[.rowD 3 1 (lst.map AN)])]
theorem Se {l j:List Nat} {i:Nat} (h:i<l.length):((l++j).map AN)[i]? =some (AN (nth l i)):=by
 rw [Kn (by rw [ς];omega),Lt h]
theorem U0 (lst:List Nat) (l j:List Nat):AM Tryz.prog 223 [.ptr 1 0 0] (L4 lst l j) fun r H'=>r= .d (AN l.length)∧H'=L4 lst l j:=by
 refine Az Tryz.func223 Z Z Tryz.ntmps223 Z Z Z fun F hF=>(AC (AE (AB Z Z (AD (AC ?_)))));refine AE (goMv Z Z (J (KI Z Z) (J (AZ Z Wk Z Z Z) (J (A6 Z Z Z BI Z) (J (KM Z Tryz.underlying28 Z) (AB Z Z (AD (A5 ?_))))))));exact ⟨_,[1,2,5,6],_,A3 Z,Z,Z,Z,Z⟩
theorem J6 (lst:List Nat) (l j:List Nat) (hl:∀x∈l,x<lst.length) (a b:Nat) (ha:a<l.length) (hb:b<l.length):AM Tryz.prog 296 [.ptr 1 0 0,.d (AN a),.d (AN b)] (L4 lst l j) fun r H'=>r= .d (Ag (decide (nth lst (nth l a)<nth lst (nth l b))))∧H'=L4 lst l j:=by
 have hcl:=lessL_c lst (nth l a) (nth l b) (hl _ (Ch ha)) (hl _ (Ch hb));refine Az Tryz.func296 Z Z Tryz.ntmps296 Z Z Z fun F hF=>(AC (AE ?_));refine AB Z Z (AD (AC (Cb [[],[0],[0,1],[0,1,2],[],[4],[4,5],[4,5,6],[],[4,5,6,7,8],[4,5,6,7,8,9],[],[11],[11,12],[11,12,13],[],[11,12,13,14,15],[11,12,13,14,15,16],[0,1,2,3,4,5,6,7,8,9,10,11,12,13,14,15,16,17],[0,1,2,3,4,5,6,7,8,9,10,11,12,13,14,15,16,17,18]] mixed Z (Cr (AJ [0] [] Z Z (fun _=>AG (Aj Z Z)) (AJ [7] [] Z Z (fun _=>AG (KI Z Z)) (AJ [8] [] Z Z (fun _=>AG (AZ Z fi323_1 Z Z Z)) (At [9] Z Z (fun _=>AG (A6 Z Z Z on283 Z)) ?_))))))));refine AJ [0] [] Z Z (fun _=>AG (Aj Z Z)) (AJ [11] [] Z Z (fun _=>AG (KI Z Z)) (AJ [12] [] Z Z (fun _=>AG (AZ Z Wk Z Z Z)) (At [13] Z Z (fun _=>AG (A6 Z Z Z BI Z)) (AJ [1] [] Z Z (fun _=>AG (Aj Z Z)) (At [14,15] Z Z (fun _=>AG (Br (a) Z Z (Z) (ha) Z Tryz.underlying28 BA Z)) (At [16] Z Z (fun _=>AG (Bw Z Z (Se ha) Z Aq Z)) (AJ [0] [] Z Z (fun _=>AG (Aj Z Z)) (AJ [18] [] Z Z (fun _=>AG (KI Z Z)) ?_))))))));refine AJ [19] [] Z Z (fun _=>AG (AZ Z Wk Z Z Z)) (At [20] Z Z (fun _=>AG (A6 Z Z Z BI Z)) (AJ [2] [] Z Z (fun _=>AG (Aj Z Z)) (At [21,22] Z Z (fun _=>AG (Br (b) Z Z (Z) (hb) Z Tryz.underlying28 BA Z)) (At [23] Z Z (fun _=>AG (Bw Z Z (Se hb) Z Aq Z)) (C3 18 Z Z Z (Aa 19 Z Z (V (Yc hcl Z [5,6] ⟨Z,Z,trivial⟩ Z Z Z Z Z Z Z Z Z) (AD ⟨Z,?_⟩))))))));refine Aa 20 Z Z (AB Z Z (AD ⟨Z,?_⟩));refine C9 (A5 ?_);exact ⟨_,[1,2,5,6],_,A3 Z,Z,Z,Z,Z⟩
theorem JL (lst:List Nat) (l j:List Nat) (a b:Nat) (ha:a<l.length) (hb:b<l.length):AM Tryz.prog 299 [.ptr 1 0 0,.d (AN a),.d (AN b)] (L4 lst l j) fun r H'=>r= .tup []∧H'=L4 lst (Hx l a b) j:=by
 have hl1:a<(l++j).length:=by rw [ς];omega
 have hl2:b<((l++j).set a (nth l b)).length:=by rw [ψf,ς];omega
 refine Az Tryz.func299 Z Z Tryz.ntmps299 Z Z Z fun F hF=>(Cb [[],[0],[0,1],[0,1,2],[],[],[5],[5,6],[5,6,7],[],[],[10],[10,11],[10,11,12],[],[10,11,12,13,14],[10,11,12,13,14,15],[],[17],[17,18],[17,18,19],[],[17,18,19,20,21],[17,18,19,20,21,22],[0,1,2,3,4,5,6,7,8,10,11,12,13,14,15,16,17,18,19,20,21,22,23],[0,1,2,3,4,5,6,7,8,10,11,12,13,14,15,16,17,18,19,20,21,22,23,24],[0,1,2,3,4,5,6,7,8,9,10,11,12,13,14,15,16,17,18,19,20,21,22,23,24,25],[0,1,2,3,4,5,6,7,8,9,10,11,12,13,14,15,16,17,18,19,20,21,22,23,24,25,26]] mixed Z (Cr (AJ [0] [] Z Z (fun _=>AG (Aj Z Z)) (AJ [6] [] Z Z (fun _=>AG (KI Z Z)) (AJ [7] [] Z Z (fun _=>AG (AZ Z Wk Z Z Z)) ?_)))));refine At [8] Z Z (fun _=>AG (A6 Z Z Z BI Z)) (AJ [1] [] Z Z (fun _=>AG (Aj Z Z)) (AJ [0] [] Z Z (fun _=>AG (Aj Z Z)) (AJ [11] [] Z Z (fun _=>AG (KI Z Z)) (AJ [12] [] Z Z (fun _=>AG (AZ Z Wk Z Z Z)) (At [13] Z Z (fun _=>AG (A6 Z Z Z BI Z)) (AJ [2] [] Z Z (fun _=>AG (Aj Z Z)) (AJ [0] [] Z Z (fun _=>AG (Aj Z Z)) (AJ [16] [] Z Z (fun _=>AG (KI Z Z)) ?_))))))));refine AJ [17] [] Z Z (fun _=>AG (AZ Z Wk Z Z Z)) (At [18] Z Z (fun _=>AG (A6 Z Z Z BI Z)) (AJ [2] [] Z Z (fun _=>AG (Aj Z Z)) (At [19,20] Z Z (fun _=>AG (Br (b) Z Z (Z) (hb) Z Tryz.underlying28 BA Z)) (At [21] Z Z (fun _=>AG (Bw Z Z (Se hb) Z Aq Z)) (AJ [0] [] Z Z (fun _=>AG (Aj Z Z)) (AJ [23] [] Z Z (fun _=>AG (KI Z Z)) (AJ [24] [] Z Z (fun _=>AG (AZ Z Wk Z Z Z)) (At [25] Z Z (fun _=>AG (A6 Z Z Z BI Z)) ?_))))))));refine AJ [1] [] Z Z (fun _=>AG (Aj Z Z)) (At [26,27] Z Z (fun _=>AG (Br (a) Z Z (Z) (ha) Z Tryz.underlying28 BA Z)) (At [28] Z Z (fun _=>AG (Bw Z Z (Se ha) Z Aq Z)) (At [9,10] Z Z (fun _=>AG (Br (a) Z Z (Z) (ha) Z Tryz.underlying28 BA Z)) (Gn [30,22] [2] [] Z Z (fun _=>Gp (Fq (emb:=AN) (l++j) (nth l b) Z Z Z Z Z Z hl1 Z BA)) (.inl ⟨Z,Z⟩) Z Z Z Z Z (C3 26 Z Z Z (Aa 27 Z Z (J (Br (b) Z Z (Z) (hb) Z Tryz.underlying28 BA Z) (AD ⟨Z,?_⟩))))))));refine Aa 28 Z Z (V (Fq (emb:=AN) ((l++j).set a (nth l b)) (nth l a) Z Z Z Z Z Z hl2 Z BA) (AD ⟨Z,?_⟩));refine C9 ?_;exact ⟨_,[1,2,5,6],_,A3 Z,Z,Z,Z,by rw [L4,Ie,←swpJ ha hb]⟩
theorem aw (lst:List Nat) (l j:List Nat) (x:Nat) (hl:l.length≤1000000):AM Tryz.prog 298 [.ptr 1 0 0,.d (.raw (.iface 3 (.int .i64 (x:Int))))] (L4 lst l j) fun r H'=>r= .tup []∧H'=L4 lst (l++ [x]) []:=by
 refine Az Tryz.func298 Z Z Tryz.ntmps298 Z Z Z fun F hF=>(Cb [[],[],[1],[1,2],[1,2,3],[],[5],[5,6],[1,2,3,4,5,6,7],[0,1,2,3,4,5,6,7,8],[0,1,2,3,4,5,6,7,8,9],[0,1,2,3,4,5,6,7,8,9,10]] mixed Z (Cr (AJ [0] [] Z Z (fun _=>AG (Aj Z Z)) (AJ [0] [] Z Z (fun _=>AG (Aj Z Z)) (AJ [5] [] Z Z (fun _=>AG (KI Z Z)) (AJ [6] [] Z Z (fun _=>AG (AZ Z Wk Z Z Z)) ?_))))));refine At [7] Z Z (fun _=>AG (A6 Z Z Z BI Z)) (AJ [1] [] Z Z (fun _=>AG (Aj Z Z)) (AJ [9] [] Z Z (fun _=>AG (MZ Z pt3 Z Z)) (Gn [10] [20] [(11,_)] Z Z (fun _=>Gp (D1 20 BW Z Z Z Z Z Z Z Z)) (.inr ⟨11,_,Z,Z,Z,Z,Z⟩) Z Z Z Z Z (Gn [8,11] [1,2,5,6,20] [(12,_)] Z Z (fun _=>Gp (Ev Z Z Z (by simp) Z Z (by simp) BW (by omega) Z Z (takeJ l j) Z Z)) (.inr ⟨12,_,Z,Z,Z,Z,Z⟩) Z Z Z Z Z (C3 9 Z Z Z (Aa 10 Z Z (J (KI Z Z) (AD ⟨Z,?_⟩))))))));refine Aa 11 Z Z (J (AZ Z Wk Z Z Z) (AD ⟨Z,?_⟩));refine Aa 12 Z Z (V (Be Z Z Z Z Z Z Z Ce) (AD ⟨Z,?_⟩));refine C9 ?_;exact ⟨_,[1,2,5,6],_,A3 Z,Z,Z,Z,by rw [L4];simp⟩
theorem mpopB_c (lst:List Nat) (l j:List Nat) (hl:l≠ []) (hlb:l.length≤1000000):AM Tryz.prog 297 [.ptr 1 0 0] (L4 lst l j) fun r H'=>r= .d (.raw (.iface 3 (.int .i64 (nth l (l.length - 1):Int))))∧H'=L4 lst (l.take (l.length - 1)) ([nth l (l.length - 1)]++j):=by
 have h0:0<l.length:=χh.2 hl;have hpe:((l.length:Int) - 1)=((l.length - 1:Nat):Int):=by omega
 have hpl:l.length - 1≤((l++j).map AN).length:=by rw [ψ,ς];omega
 refine Az Tryz.func297 Z Z Tryz.ntmps297 Z Z Z fun F hF=>(AC (AE (AB Z Z ?_)));refine AD (AC (Cb [[],[0],[0,1],[0,1,2],[],[4],[4,5],[4,5,6],[4,5,6,7],[4,5,6,7,8],[0,1,2,3,4,5,6,7,8,9],[0,1,2,3,4,5,6,7,8,9,10],[0,1,2,3,4,5,6,7,8,9,10,11]] mixed Z (Cr (AJ [0] [] Z Z (fun _=>AG (Aj Z Z)) (AJ [4] [] Z Z (fun _=>AG (KI Z Z)) (AJ [5] [] Z Z (fun _=>AG (AZ Z Wk Z Z Z)) (At [6] Z Z (fun _=>AG (A6 Z Z Z BI Z)) (AJ [0] [] Z Z (fun _=>AG (Aj Z Z)) ?_))))))));refine AJ [8] [] Z Z (fun _=>AG (KI Z Z)) (AJ [9] [] Z Z (fun _=>AG (AZ Z Wk Z Z Z)) (At [10] Z Z (fun _=>AG (A6 Z Z Z BI Z)) (AJ [11] [] Z Z (fun _=>AG (KM Z Tryz.underlying28 Z)) (AJ [12] [] Z Z (fun _=>AG (LF Z Z (ωa _ (by omega)) Z)) (C3 10 Z Z Z (Aa 11 Z Z (J (Br (l.length - 1) Z Z (hpe) (by omega) Z Tryz.underlying28 BA Z) (AD ⟨Z,?_⟩))))))));refine Aa 12 Z Z (J (Bw Z Z (Se (by omega)) Z Aq Z) (AD ⟨Z,?_⟩));refine Aa 13 Z Z (AB Z Z (AD ⟨Z,?_⟩));refine C9 (AC ?_);refine Cb [[],[],[1],[1,2],[1,2,3],[],[5],[5,6],[5,6,7],[5,6,7,8],[5,6,7,8,9],[1,2,3,4,5,6,7,8,9,10],[0,1,2,3,4,5,6,7,8,9,10,11],[0,1,2,3,4,5,6,7,8,9,10,11,12],[0,1,2,3,4,5,6,7,8,9,10,11,12,13]] mixed Z (Cr (AJ [0] [] Z Z (fun _=>AG (Aj Z Z)) (AJ [0] [] Z Z (fun _=>AG (Aj Z Z)) (AJ [17] [] Z Z (fun _=>AG (KI Z Z)) (AJ [18] [] Z Z (fun _=>AG (AZ Z Wk Z Z Z)) (At [19] Z Z (fun _=>AG (A6 Z Z Z BI Z)) (AJ [0] [] Z Z (fun _=>AG (Aj Z Z)) (AJ [21] [] Z Z (fun _=>AG (KI Z Z)) ?_))))))));refine AJ [22] [] Z Z (fun _=>AG (AZ Z Wk Z Z Z)) (At [23] Z Z (fun _=>AG (A6 Z Z Z BI Z)) (AJ [24] [] Z Z (fun _=>AG (KM Z Tryz.underlying28 Z)) (AJ [25] [] Z Z (fun _=>AG (LF Z Z (ωa _ (by omega)) Z)) (At [20,26] Z Z (fun _=>AG (Cu (l.length - 1) Z Z hpe hpl Z Tryz.underlying28 BA Z)) (C3 12 Z Z Z (Aa 13 Z Z (J (KI Z Z) (AD ⟨Z,?_⟩))))))));refine Aa 14 Z Z (J (AZ Z Wk Z Z Z) (AD ⟨Z,?_⟩));refine Aa 15 Z Z (V (Be Z Z Z Z Z Z Z Ce) (AD ⟨Z,?_⟩));refine C9 (AC (AE (goMv Z Z (J (Fc pt3 Z Z) (AB Z Z (AD (A5 ?_)))))));exact ⟨_,[1,2,5,6],_,A3 Z,Z,Z,Z,by rw [L4,popJ h0,Υ,Nat.min_eq_left (by omega)]⟩
theorem quoWB (i:Nat) (h:i≤1000000):IntKind.i64.wrap (Int.tdiv ((i:Int) - 1) 2)=(((i - 1) / 2:Nat):Int):=by
 rw [quo2];exact ωa _ (by omega)
theorem upB_c (lst:List Nat) (l j:List Nat) (k:Nat) (hk:k<l.length) (hlb:l.length≤1000000) (hl:∀x∈l,x<lst.length):AM Tryz.prog 262 [.ifc 321 none 1 0,.d (AN k)] (L4 lst l j) fun r H'=>r= .tup []∧H'=L4 lst (RA (nth lst) k l k) j:=by
 refine Az Tryz.func262 Z Z Tryz.ntmps262 Z Z Z fun F hF=>(A4 (B5 (α:=Nat×List Nat×Nat) (fun q=>⟨23,[(0,.ifc 321 none 1 0),(1,(.d (AN q.2.2)))],L4 lst q.2.1 j⟩) (fun q=>q.2.2≤q.1∧q.2.2<q.2.1.length∧q.2.1.length≤1000000∧RA (nth lst) q.1 q.2.1 q.2.2=RA (nth lst) k l k∧∀x∈q.2.1,x<lst.length) (fun q=>q.2.2) ((k,l,k)) (⟨ϖ _,hk,hlb,Z,hl⟩) (A0 hF [1,2,5,6] Z Z ⟨Z,Z,trivial⟩) ?_));rintro ⟨f,m,i⟩ ⟨hq1,hq2,hq3,hq4,hq5⟩;dsimp only at hq1 hq2 hq3 hq4⊢;have hp2:(i - 1) / 2<m.length:=by omega
 refine A4 (AC (AE (goMv Z Z (J (LF Z Z (ωa _ (by omega)) Z) (J (st_quo Z Z (by omega) (quoWB i (by omega)) Z) (AB Z Z ?_))))));refine AD (AC (AC (AE (goMv Z Z (goMv Z Z (J (KL Z Z Z) (goMv Z Z (Id 11 Z (fun h11=>?_) (fun h11=>?_)))))))))
 ·refine A9 Z Z Z Z (A9 Z Z Z Z (A9 Z Z Z Z (A9 Z Z Z Z (A9 Z Z Z Z (J (Fb Z Z Z Z) (AD (DV Z Z (BC ?_))))))));have e0:i=0:=by omega
  exact ⟨_,[1,2,5,6],_,A3 Z,Z,Z,Z,by rw [←hq4,e0,Yq]⟩
 ·refine Af Z Z Z (goMv Z Z (Af Z Z Z (goMv Z Z ?_)));refine Af Z Z Z (goMv Z Z (Af Z Z Z (V (Wl SK (J6 lst m j hq5 i ((i - 1) / 2) hq2 hp2) Z [1,2,5,6] ⟨Z,Z,Z,Z,trivial⟩ Z Z Z Z Z Z Z Z Z) (Af Z Z Z (J (Nx Z Z) (J (DZ Z Z Z Z) (AD (Ae Z (fun h17=>?_) (fun h17=>?_)))))))))
  ·refine BC ?_;exact ⟨_,[1,2,5,6],_,A3 Z,Z,Z,Z,by rw [←hq4,Yr (by simpa using h17)]⟩
  ·refine A1 (AC ?_);have hi0:i≠0:=fun e=>by subst e;exact h11 rfl
   have h17x:(nth lst) (nth m i)<(nth lst) (nth m ((i - 1) / 2)):=χw.1 h17;refine AE ?_;refine goMv Z Z (goMv Z Z (goMv Z Z (V (Wl SJ (JL lst m j ((i - 1) / 2) i hp2 hq2) Z [1,2,5,6] ⟨Z,Z,Z,Z,trivial⟩ Z Z Z Z Z Z Z Z Z) (AD (AE (goMv Z Z (AB Z Z (AD ?_))))))));exact ⟨(f - 1,Hx m ((i - 1) / 2) i,(i - 1) / 2),⟨by show (i - 1) / 2≤f - 1;omega,by show _<(Hx _ _ _).length;rw [Ie];exact hp2,by show (Hx _ _ _).length≤_;rw [Ie];exact hq3,by show RA _ (f - 1) _ _=_;rw [←hq4,←upF_go hi0 h17x,show f - 1+1=f by omega],fun x hx=>hq5 x ((DG hp2 hq2).mem_iff.1 hx)⟩,by show (i - 1) / 2<i;omega,A0 hF [1,2,5,6] Z (Z) ⟨Z,Z,trivial⟩⟩
theorem Ul {K:Nat ->Nat} {n i:Nat} {l:List Nat} (h1:2*i+2<n) (h2:K (nth l (2*i+2))<K (nth l (2*i+1))):IU K n l i=2*i+2:=θ ⟨h1,h2⟩
theorem Kw {K:Nat ->Nat} {n i:Nat} {l:List Nat} (h:¬(2*i+2<n∧K (nth l (2*i+2))<K (nth l (2*i+1)))):IU K n l i=2*i+1:=ϑ h
theorem downB_c (lst:List Nat) (l j:List Nat) (k n:Nat) (hk:k<l.length) (hn:n≤l.length) (hlb:l.length≤1000000) (hl:∀x∈l,x<lst.length):AM Tryz.prog 263 [.ifc 321 none 1 0,.d (AN k),.d (AN n)] (L4 lst l j) fun r H'=>(∃b:Bool,r= .d (Ag b))∧H'=L4 lst (Ld (nth lst) n (n - k) l k) j:=by
 refine Az Tryz.func263 Z Z Tryz.ntmps263 Z Z Z fun F hF=>(AC (AE (AB Z Z ?_)));refine AD (AC (AE (goMv Z Z (AB Z Z (AD (AC (A4 (B5 (α:=Nat×List Nat×Nat) (fun q=>⟨48,[(0,.ifc 321 none 1 0),(1,.d (AN k)),(2,.d (AN n)),(7,(.d (AN q.2.2)))],L4 lst q.2.1 j⟩) (fun q=>n≤q.1+q.2.2∧q.2.2<q.2.1.length∧q.2.1.length≤1000000∧n≤q.2.1.length∧Ld (nth lst) n q.1 q.2.1 q.2.2=Ld (nth lst) n (n - k) l k∧∀x∈q.2.1,x<lst.length) (fun q=>n - q.2.2) ((n - k,l,k)) (⟨by show n≤n - k+k;omega,hk,hlb,hn,Z,hl⟩) (A0 hF [1,2,5,6] Z Z ⟨Z,Z,Z,Z,trivial⟩) ?_))))))));rintro ⟨f,m,i⟩ ⟨hq1,hq2,hq3,hqn,hq4,hq5⟩;dsimp only at hq1 hq2 hq3 hqn hq4⊢;refine A4 (AC (AE (goMv Z Z (J (st_mul Z Z (ωa _ (by omega)) Z) (J (Ay Z Z (ωa _ (by omega)) Z) (AB Z Z (AD ?_)))))));refine AC (AC (Uz 8 (.d (AN (2*i+1))) Z (eqv (Γ AF (by omega))) (AE (goMv Z Z (goMv Z Z (J (EO Z Z Z) (goMv Z Z (Id 18 Z (fun h18=>?_) (fun h18=>?_)))))))))
 ·refine A9 Z Z Z Z (A9 Z Z Z Z (J (Fb Z Z Z Z) (AD (DV Z Z ?_))));refine BC (AC (AE (goMv Z Z (goMv Z Z (J (ML Z Z Z) (AB Z Z (AD (A5 ?_))))))));exact ⟨_,[1,2,5,6],_,A3 Z,Z,Z,⟨_,Z⟩,by rw [←hq4,dnF_end (by omega)]⟩
 ·refine Af Z Z Z (goMv Z Z (Af Z Z Z (J (BV Z Z Z) (J (DZ Z Z Z Z) (AD (EN Z (ωp (by omega)) (A1 (AC ?_))))))));have hge:¬n≤2*i+1:=by have:=h18;omega
  have hjd:=dnJ_lt (K:=(nth lst)) (l:=m) hge;have hjm:IU (nth lst) n m i<m.length:=by omega
  refine AE ?_;refine goMv Z Z (AB Z Z (AD (AC (AC (AE (goMv Z Z (J (Ay Z Z (ωa _ (by omega)) Z) (AB Z Z ?_))))))));refine AD (AC (Uz 10 (.d (AN (2*i+2))) Z (eqv (Γ AF (by omega))) (AE (goMv Z Z (goMv Z Z (J (BV Z Z Z) (goMv Z Z (Id 28 Z (fun h28=>?_) (fun h28=>?_)))))))))
  ·refine Af Z Z Z (goMv Z Z ?_);refine Af Z Z Z (goMv Z Z (Af Z Z Z (goMv Z Z (Af Z Z Z (V (Wl SK (J6 lst m j hq5 (2*i+2) (2*i+1) (by omega) (by omega)) Z [1,2,5,6] ⟨Z,Z,Z,Z,trivial⟩ Z Z Z Z Z Z Z Z Z) (J (Fb Z Z Z Z) (AD (Ae Z (fun h33=>?_) (fun h33=>?_)))))))))
   ·refine AE (goMv Z Z (AB Z Z (AD (AC (AC ?_)))));refine Uz 9 (.d (AN (IU (nth lst) n m i))) Z (eqv (Γ AN (by first | exact (Ul (by omega) (by assumption)).symm | exact (Kw (fun h=>by omega)).symm | exact (Kw (fun h=>absurd h.2 (by assumption))).symm))) (AE (goMv Z Z (goMv Z Z (goMv Z Z (V (Wl SK (J6 lst m j hq5 (IU (nth lst) n m i) i hjm hq2) Z [1,2,5,6] ⟨Z,Z,Z,Z,trivial⟩ Z Z Z Z Z Z Z Z Z) (J (Nx Z Z) (AD (Ae Z (fun h39=>?_) (fun h39=>?_)))))))))
    ·refine BC (AC (AE (goMv Z Z (goMv Z Z (J (ML Z Z Z) (AB Z Z (AD (A5 ?_))))))));exact ⟨_,[1,2,5,6],_,A3 Z,Z,Z,⟨_,Z⟩,by rw [←hq4,Nb h39]⟩
    ·refine A1 (AC ?_);have h39x:(nth lst) (nth m (IU (nth lst) n m i))<(nth lst) (nth m i):=χw.1 h39;refine AE ?_;refine goMv Z Z (goMv Z Z (goMv Z Z (V (Wl SJ (JL lst m j i (IU (nth lst) n m i) hq2 hjm) Z [1,2,5,6] ⟨Z,Z,Z,Z,trivial⟩ Z Z Z Z Z Z Z Z Z) (AD (AE (goMv Z Z (AB Z Z (AD ?_))))))));exact ⟨(f - 1,Hx m i (IU (nth lst) n m i),IU (nth lst) n m i),⟨by show n≤f - 1+IU _ n m i;omega,by show _<(Hx _ _ _).length;rw [Ie];exact hjm,by show (Hx _ _ _).length≤_;rw [Ie];exact hq3,by show _≤(Hx _ _ _).length;rw [Ie];exact hqn,by show Ld _ n (f - 1) _ _=_;rw [←hq4,←Um hge h39x,show f - 1+1=f by omega],fun x hx=>hq5 x ((DG hq2 hjm).mem_iff.1 hx)⟩,by show n - IU _ n m i<n - i;omega,A0 hF [1,2,5,6] Z (Z) ⟨Z,Z,Z,Z,trivial⟩⟩
   ·refine A1 (AC (AC ?_));refine Uz 9 (.d (AN (IU (nth lst) n m i))) Z (eqv (Γ AN (by first | exact (Ul (by omega) (by assumption)).symm | exact (Kw (fun h=>by omega)).symm | exact (Kw (fun h=>absurd h.2 (by assumption))).symm))) (AE (goMv Z Z (goMv Z Z (goMv Z Z (V (Wl SK (J6 lst m j hq5 (IU (nth lst) n m i) i hjm hq2) Z [1,2,5,6] ⟨Z,Z,Z,Z,trivial⟩ Z Z Z Z Z Z Z Z Z) (J (Nx Z Z) (AD (Ae Z (fun h39=>?_) (fun h39=>?_)))))))))
    ·refine BC (AC (AE (goMv Z Z (goMv Z Z (J (ML Z Z Z) (AB Z Z (AD (A5 ?_))))))));exact ⟨_,[1,2,5,6],_,A3 Z,Z,Z,⟨_,Z⟩,by rw [←hq4,Nb h39]⟩
    ·refine A1 (AC ?_);have h39x:(nth lst) (nth m (IU (nth lst) n m i))<(nth lst) (nth m i):=χw.1 h39;refine AE ?_;refine goMv Z Z (goMv Z Z (goMv Z Z (V (Wl SJ (JL lst m j i (IU (nth lst) n m i) hq2 hjm) Z [1,2,5,6] ⟨Z,Z,Z,Z,trivial⟩ Z Z Z Z Z Z Z Z Z) (AD (AE (goMv Z Z (AB Z Z (AD ?_))))))));exact ⟨(f - 1,Hx m i (IU (nth lst) n m i),IU (nth lst) n m i),⟨by show n≤f - 1+IU _ n m i;omega,by show _<(Hx _ _ _).length;rw [Ie];exact hjm,by show (Hx _ _ _).length≤_;rw [Ie];exact hq3,by show _≤(Hx _ _ _).length;rw [Ie];exact hqn,by show Ld _ n (f - 1) _ _=_;rw [←hq4,←Um hge h39x,show f - 1+1=f by omega],fun x hx=>hq5 x ((DG hq2 hjm).mem_iff.1 hx)⟩,by show n - IU _ n m i<n - i;omega,A0 hF [1,2,5,6] Z (Z) ⟨Z,Z,Z,Z,trivial⟩⟩
  ·refine A9 Z Z Z Z ?_;refine A9 Z Z Z Z (A9 Z Z Z Z (A9 Z Z Z Z (J (DZ Z Z Z Z) (AD (EN Z Z (A1 (AC (AC ?_))))))));refine Uz 9 (.d (AN (IU (nth lst) n m i))) Z (eqv (Γ AN (by first | exact (Ul (by omega) (by assumption)).symm | exact (Kw (fun h=>by omega)).symm | exact (Kw (fun h=>absurd h.2 (by assumption))).symm))) (AE (goMv Z Z (goMv Z Z (goMv Z Z (V (Wl SK (J6 lst m j hq5 (IU (nth lst) n m i) i hjm hq2) Z [1,2,5,6] ⟨Z,Z,Z,Z,trivial⟩ Z Z Z Z Z Z Z Z Z) (J (Nx Z Z) (AD (Ae Z (fun h39=>?_) (fun h39=>?_)))))))))
   ·refine BC (AC (AE (goMv Z Z (goMv Z Z (J (ML Z Z Z) (AB Z Z (AD (A5 ?_))))))));exact ⟨_,[1,2,5,6],_,A3 Z,Z,Z,⟨_,Z⟩,by rw [←hq4,Nb h39]⟩
   ·refine A1 (AC ?_);have h39x:(nth lst) (nth m (IU (nth lst) n m i))<(nth lst) (nth m i):=χw.1 h39;refine AE ?_;refine goMv Z Z (goMv Z Z (goMv Z Z (V (Wl SJ (JL lst m j i (IU (nth lst) n m i) hq2 hjm) Z [1,2,5,6] ⟨Z,Z,Z,Z,trivial⟩ Z Z Z Z Z Z Z Z Z) (AD (AE (goMv Z Z (AB Z Z (AD ?_))))))));exact ⟨(f - 1,Hx m i (IU (nth lst) n m i),IU (nth lst) n m i),⟨by show n≤f - 1+IU _ n m i;omega,by show _<(Hx _ _ _).length;rw [Ie];exact hjm,by show (Hx _ _ _).length≤_;rw [Ie];exact hq3,by show _≤(Hx _ _ _).length;rw [Ie];exact hqn,by show Ld _ n (f - 1) _ _=_;rw [←hq4,←Um hge h39x,show f - 1+1=f by omega],fun x hx=>hq5 x ((DG hq2 hjm).mem_iff.1 hx)⟩,by show n - IU _ n m i<n - i;omega,A0 hF [1,2,5,6] Z (Z) ⟨Z,Z,Z,Z,trivial⟩⟩
theorem S7 (lst:List Nat) (l j:List Nat) (x:Nat) (hlb:l.length≤999999) (hl:∀x∈l,x<lst.length)  (hx:x<lst.length):AM Tryz.prog 222 [.ifc 321 none 1 0,.d (.raw (.iface 3 (.int .i64 (x:Int))))] (L4 lst l j) fun r H'=>r= .tup []∧H'=L4 lst (LS (nth lst) l x) []:=by
 have hl1:(l++ [x]).length=l.length+1:=by simp
 have hl2:((l.length+1:Nat):Int) - 1=((l.length:Nat):Int):=by omega
 refine Az Tryz.func222 Z Z Tryz.ntmps222 Z Z Z fun F hF=>(AC (AE (goMv Z Z (goMv Z Z (V (Wl mPush (aw lst l j x (by omega)) Z [1,2,5,6] ⟨Z,Z,Z,Z,trivial⟩ Z Z Z Z Z Z Z Z Z) ?_)))));refine AD (AE (goMv Z Z (goMv Z Z (V (Wl mLen (U0 lst (l++ [x]) []) Z [1,2,5,6] ⟨Z,Z,Z,Z,trivial⟩ Z Z Z Z Z Z Z Z Z) (J (LF Z Z (ωa _ (by omega)) Z) (Io 10 (.d (AN l.length)) Z (eqv (Γ AF (by rw [hl1];exact hl2))) (V (EW (upB_c lst (l++ [x]) [] l.length (by omega) (by omega) (fun y hy=>(υ.1 hy).elim (hl y) fun e=>ξ.1 e▸hx)) Z [1,2,5,6] ⟨Z,Z,Z,Z,trivial⟩ Z Z Z Z Z Z Z Z Z) (AD ?_))))))));exact ⟨_,[1,2,5,6],_,A3 Z,Z,Z,Z,Z⟩
theorem hpopB_c (lst:List Nat) (l j:List Nat) (hne:l≠ []) (hlb:l.length≤999999) (hl:∀x∈l,x<lst.length):AM Tryz.prog 224 [.ifc 321 none 1 0] (L4 lst l j) fun r H'=>r= .d (.raw (.iface 3 (.int .i64 (nth l 0:Int))))∧H'=L4 lst (Kl (nth lst) l) ([nth l 0]++j):=by
 have h0:0<l.length:=χh.2 hne;have hsl:=Ie l 0 (l.length - 1);have hp1:=G8 (nth lst) hne;have hne1:Gu (nth lst) l≠ []:=fun e=>by rw [e] at hp1;simp at hp1;omega
 have hlast:nth (Gu (nth lst) l) ((Gu (nth lst) l).length - 1)=nth l 0:=by rw [hp1];exact NP (nth lst) hne
 have hwd:=(downB_c lst (Hx l 0 (l.length - 1)) j 0 (l.length - 1) (by omega) (by omega) (by omega) (fun y hy=>hl y ((DG h0 (by omega)).mem_iff.1 hy))).top;refine Az Tryz.func224 Z Z Tryz.ntmps224 Z Z Z fun F hF=>(AC (AE (AB Z Z (AD ?_))));refine AC (AE (goMv Z Z (V (Wl mLen (U0 lst l j) Z [1,2,5,6] ⟨Z,Z,Z,Z,trivial⟩ Z Z Z Z Z Z Z Z Z) (J (LF Z Z (ωa _ (by omega)) Z) (AB Z Z (AD (AC (Uz 3 (.d (AN (l.length - 1))) Z (eqv (Γ AF (by omega))) ?_))))))));refine AE (goMv Z Z (goMv Z Z (V (Wl SJ (JL lst l j 0 (l.length - 1) h0 (by omega)) Z [1,2,5,6] ⟨Z,Z,Z,Z,trivial⟩ Z Z Z Z Z Z Z Z Z) (AD (AC (AE (goMv Z Z (goMv Z Z ?_))))))));refine V (EW hwd Z [1,2,5,6] ⟨Z,Z,Z,Z,trivial⟩ Z Z Z Z Z Z Z Z Z) (AD (AC (AE (goMv Z Z (V (Wl mPop (mpopB_c lst (Gu (nth lst) l) j hne1 (by omega)) Z [1,2,5,6] ⟨Z,Z,Z,Z,trivial⟩ Z Z Z Z Z Z Z Z Z) (AB Z Z (AD (A5 ?_))))))));exact ⟨_,[1,2,5,6],_,A3 Z,Z,Z,by rw [hlast],by rw [hlast,hp1];rfl⟩
theorem aP (lst:List Nat) (g:List (List Nat)) (hg:GB g) (hK:∀a b,a<g.length ->b<g.length ->(nth lst) a=(nth lst) b ->a=b) (hgl:g.length=lst.length):AM Tryz.prog 181 [.d (Jb g),.fn 182 [.ptr 5 0 0]] (HL lst) fun r H'=>r= .d (.tup [natsD (ordG g (nth lst)),Ag (decide ((ordG g (nth lst)).length=g.length))])∧H'=(HL lst):=by
 have hn:=hg.n;refine Az Tryz.func181 Z Z Tryz.ntmps181 Z Z Z fun F hF=>(AC (AE (AB Z Z (AB Z Z (AD ?_)))));refine AC (AE (goMv Z Z (J (JE Z (ψ ..) Tryz.underlying147 Z) (V (EY 0 BW Z Z Z (by omega) zd3 Z Z Z Z) (AB Z Z (AD (AC (AC ?_))))))));rw [rep0S];refine AE (goMv Z Z (J (JE Z (ψ ..) Tryz.underlying147 Z) (goMv Z Z (AD (A4 (B5 (α:=Nat×List Nat) (fun q=>⟨102,[(0,.d (Jb g)),(1,.fn 182 [.ptr 5 0 0]),(6,(.own 0 0 g.length)),(21,(.d (Jb g))),(22,(.d (AN g.length))),(23,(.d (AN q.1)))],[(0,[.rowD 3 1 (q.2.map AN)])]++HL lst⟩) (fun q=>q.1≤g.length∧CW g q.1 0 q.2) (fun q=>g.length - q.1) ((0,List.replicate g.length 0)) (⟨Δ _,cw_zero g⟩) (A0 hF [0,5,6] Z Z ⟨Z,Z,Z,Z,Z,Z,trivial⟩) ?_))))));rintro ⟨i,w⟩ ⟨hi,hw⟩;dsimp only at hi hw⊢;refine AC (AE (J (BV Z Z Z) (AD (AC (Ae Z (fun h24=>?_) (fun h24=>?_))))))
 ·refine A1 (AC (A4 (AC ?_)));have hil:i<g.length:=Bf h24;have hsl:=hg.len hil;refine AE (J (Bk (i) Z Z (Z) (Sf hil) Tryz.underlying147 Z Ce Z) (J (D0 Z Z BI Z) (AB Z Z ?_)));refine AD (AC (AE (goMv Z Z (J (JE Z (ψ ..) Tryz.underlying28 Z) (goMv Z Z (AD (A4 (B5 (α:=Nat×List Nat) (fun q=>⟨102,[(0,.d (Jb g)),(1,.fn 182 [.ptr 5 0 0]),(6,(.own 0 0 g.length)),(21,(.d (Jb g))),(22,(.d (AN g.length))),(23,(.d (AN i))),(27,(.d (natsD (sucs g i)))),(28,(.d (AN (sucs g i).length))),(29,(.d (AN q.1)))],[(0,[.rowD 3 1 (q.2.map AN)])]++HL lst⟩) (fun q=>q.1≤(sucs g i).length∧CW g i q.1 q.2) (fun q=>(sucs g i).length - q.1) ((0,w)) (⟨Δ _,hw⟩) (A0 hF [0,5,6] Z Z ⟨Z,Z,Z,Z,Z,Z,Z,Z,Z,trivial⟩) ?_))))))));rintro ⟨k,w⟩ ⟨hk,hw⟩;dsimp only at hk hw⊢;refine AC (AE (J (BV Z Z Z) (AD (AC (Ae Z (fun h30=>?_) (fun h30=>?_))))))
  ·refine A1 (AC (A4 (AC ?_)));have hkl:k<(sucs g i).length:=Bf h30;have hst:=cw_step hg hw hil hkl;have hgl:nth (sucs g i) k<g.length:=by rw [←hw.len];exact hst.1
   refine AE ?_;refine J (Bk (k) Z Z (Z) (Kn hkl) Tryz.underlying28 Z BA Z) (J (D0 Z Z Aq Z) (AB Z Z (AD (AE (goMv Z Z (goMv Z Z (J (Br (nth (sucs g i) k) Z Z (Z) (hgl) Z Tryz.underlying28 BA Z) (J (Bw Z Z (Kn hst.1) Z Aq Z) ?_))))))));refine J (Ay Z Z (ωa _ (by omega)) Z) (Io 37 (.d (AN (nth w (nth (sucs g i) k)+1))) Z (eqv (Γ AF (by omega))) (J (Br (nth (sucs g i) k) Z Z (Z) (hgl) Z Tryz.underlying28 BA Z) (V (Fq (emb:=AN) w (nth w (nth (sucs g i) k)+1) Z Z Z Z Z Z hst.1 Z BA) (AD (AE (J (Ay Z Z (ωa _ (by omega)) Z) (goMv Z Z (AD ?_))))))));exact ⟨(k+1,w.set (nth (sucs g i) k) (nth w (nth (sucs g i) k)+1)),⟨hkl,hst.2.2⟩,by show (sucs g i).length - (k+1)<(sucs g i).length - k;omega,A0 hF [0,5,6] Z (Z) ⟨Z,Z,Z,Z,Z,Z,Z,Z,Z,trivial⟩⟩
  ·refine BC ?_;have hke:k=(sucs g i).length:=by have:=h30;omega
   subst hke;refine AE (J (Ay Z Z (ωa _ (by omega)) Z) (goMv Z Z (AD ?_)));exact ⟨(i+1,w),⟨hil,cw_row hw⟩,by show g.length - (i+1)<g.length - i;omega,A0 hF [0,5,6] Z (Z) ⟨Z,Z,Z,Z,Z,Z,trivial⟩⟩
 ·refine BC (AC ?_);have hin:i=g.length:=by have:=h24;omega
  subst hin;obtain ⟨hwl,hwd⟩:=cw_end hw;refine AE (goMv Z Z (J (FV zl323 pl323 Z Z Z) (V (st_boxC 1 Z Z Z Z Z Z Z) (AB Z Z (AD (AC ?_))))));refine AC (EM 1 0 0 2 BW Z Z Z Z Z Z Z (AE (goMv Z Z (J (KM Z Tryz.underlying28 Z) (goMv Z Z (AD (A4 (B5 (α:=Nat×List Nat×List Nat) (fun q=>⟨102,[(0,.d (Jb g)),(1,.fn 182 [.ptr 5 0 0]),(6,(.own 0 0 g.length)),(11,(.ptr 1 0 0)),(44,(.own 0 0 g.length)),(45,(.d (AN g.length))),(46,(.d (AN q.1)))],L4 lst q.2.1 q.2.2++ [(0,[.rowD 3 1 (w.map AN)])]⟩) (fun q=>q.1≤g.length∧FI (nth lst) w q.1 q.2.1) (fun q=>g.length - q.1) ((0,[],[])) (⟨Δ _,fi_zero _ w⟩) (A0 hF [1,2,5,6,0] Z Z ⟨Z,Z,Z,Z,Z,Z,Z,trivial⟩) ?_))))))));rintro ⟨i,l,j⟩ ⟨hi,hf⟩;dsimp only at hi hf⊢;have hfl:=hf.le;refine AC (AE (J (BV Z Z Z) (AD (AC (Ae Z (fun h47=>?_) (fun h47=>?_))))))
  ·refine A1 (AC (A4 (AC ?_)));have hil:i<g.length:=Bf h47;refine AE (goMv Z Z (J (Br (i) Z Z (Z) (hil) Z Tryz.underlying28 BA Z) (J (Bw Z Z (Kn (by rw [hwl];exact hil)) Z Aq Z) ?_)));refine AB Z Z (AB Z Z (AD (AC (AE (goMv Z Z (J (KL Z Z Z) (AD (Ae Z (fun h52=>?_) (fun h52=>?_)))))))))
   ·refine AE (goMv Z Z ?_);refine J (GR Zu Z Z) (goMv Z Z (J (Fc pt3 Z Z) (V (EW (S7 lst l j i (by omega) (fun x hx=>by rw [←hgl];have:=((hf.mem x).1 hx).1;omega) (by rw [←hgl];exact hil)) Z [1,2,5,6] ⟨Z,Z,Z,Z,trivial⟩ Z Z Z Z Z Z Z Z Z) (AD (AE (J (Ay Z Z (ωa _ (by omega)) Z) (goMv Z Z (AD ?_))))))));exact ⟨(i+1,LS (nth lst) l i,[]),⟨hil,fi_push hf (Int.ofNat.inj h52)⟩,by show g.length - (i+1)<g.length - i;omega,A0 hF [1,2,5,6,0] Z (Z) ⟨Z,Z,Z,Z,Z,Z,Z,trivial⟩⟩
   ·refine A1 (AE (J (Ay Z Z (ωa _ (by omega)) Z) (goMv Z Z (AD ?_))));exact ⟨(i+1,l,j),⟨hil,fi_skip hf (fun e=>h52 (Γ Int.ofNat e))⟩,by show g.length - (i+1)<g.length - i;omega,A0 hF [1,2,5,6,0] Z (Z) ⟨Z,Z,Z,Z,Z,Z,Z,trivial⟩⟩
  ·refine BC (AC ?_);have hin:i=g.length:=by have:=h47;omega
   subst hin;have hoi:=oi_fill hwl hwd hf.nd hf.mem hf.hp;refine AE (AB Z Z (AD (AC (A4 (O4 14 7 BW Z Z Z Z (B5 (α:=List Nat×List Nat×List Nat×List Nat) (fun q=>⟨102,[(0,.d (Jb g)),(1,.fn 182 [.ptr 5 0 0]),(6,(.own 0 0 g.length)),(11,(.ptr 1 0 0)),(14,(.own 7 0 q.2.2.2.length))],L4 lst q.2.1 q.2.2.1++ [(0,[.rowD 3 1 (q.1.map AN)]),(7,[.rowD 3 1 (q.2.2.2.map AN)])]⟩) (fun q=>OI g (nth lst) q.1 q.2.1 q.2.2.2 []) (fun q=>g.length - q.2.2.2.length) ((w,l,j,[])) (hoi) (A0 hF [1,2,5,6,0,7] Z Z ⟨Z,Z,Z,Z,Z,trivial⟩) ?_))))));rintro ⟨w,l,j,out⟩ ho;dsimp only at ho⊢;have hol:=oi_le ho;refine AC (AC (AE (goMv Z Z (V (EW (U0 lst l j) Z [1,2,5,6] ⟨Z,Z,Z,Z,trivial⟩ Z Z Z Z Z Z Z Z Z) (J (ML Z Z Z) (AD (Ae Z (fun h61=>?_) (fun h61=>?_))))))))
   ·refine A1 (A4 (AC ?_));have hne:l≠ []:=fun e=>by subst e;exact absurd h61 (by decide)
    have ho1:=oi_pop ho hne;have hx:nth l 0<g.length:=ho.lt _ (υ.2 (.inr (Ch (χh.2 hne))));have hol1:out.length+1≤g.length:=by have:=χh.2 hne;omega
    refine AE (goMv Z Z (J (GR Zu Z Z) (V (EW (hpopB_c lst l j hne (by omega) (fun z hz=>by rw [←hgl];exact ho.lt z (υ.2 (.inr hz)))) Z [1,2,5,6] ⟨Z,Z,Z,Z,trivial⟩ Z Z Z Z Z Z Z Z Z) (J (MZ Z pt3 Z Z) (AB Z Z (AD (AC ?_)))))))
    obtain ⟨x,hxe⟩:∃x,nth l 0=x:=⟨_,Z⟩
    rw [hxe] at ho1 hx⊢;refine AE (goMv Z Z (goMv Z Z (V (D1 21 BW Z Z Z Z Z Z Z Z) (V (I0 (emb:=AN) out [x] Z Z Z Z Z Z Z Z BW (by show (out.length+1)*8≤_;omega) Z Z Z Z) (AB Z Z (AD (AC (AE ?_))))))));refine goMv Z Z (goMv Z Z (J (Bk (x) Z Z (Z) (Sf hx) Tryz.underlying147 Z Ce Z) (J (D0 Z Z BI Z) (J (JE Z (ψ ..) Tryz.underlying28 Z) (goMv Z Z (AD (A4 (B5 (α:=Nat×List Nat×List Nat×List Nat) (fun q=>⟨102,[(0,.d (Jb g)),(1,.fn 182 [.ptr 5 0 0]),(6,(.own 0 0 g.length)),(11,(.ptr 1 0 0)),(14,(.own 7 0 (out++ [x]).length)),(73,(.d (natsD (sucs g x)))),(74,(.d (AN (sucs g x).length))),(75,(.d (AN q.1)))],L4 lst q.2.2.1 q.2.2.2++ [(0,[.rowD 3 1 (q.2.1.map AN)]),(7,[.rowD 3 1 ((out++ [x]).map AN)])]⟩) (fun q=>q.1≤(sucs g x).length∧OI g (nth lst) q.2.1 q.2.2.1 (out++ [x]) ((sucs g x).drop q.1)) (fun q=>(sucs g x).length - q.1) ((0,w,Kl (nth lst) l,[x]++j)) (⟨Δ _,ho1⟩) (A0 hF [1,2,5,6,0,7] Z Z ⟨Z,Z,Z,Z,Z,Z,Z,Z,trivial⟩) ?_))))))));rintro ⟨k,w,l,j⟩ ⟨hk,ho2⟩;dsimp only at hk ho2⊢;refine AC (AE (J (BV Z Z Z) (AD (AC (Ae Z (fun h76=>?_) (fun h76=>?_))))))
    ·refine A1 (AC (A4 (AC ?_)));have hkl:k<(sucs g x).length:=Bf h76;have hsl2:=hg.len hx;have hyg:nth (sucs g x) k<g.length:=hg.suc hx (Ch hkl);rw [cN hkl] at ho2;obtain ⟨hw1,hz1,hz2⟩:=oi_dec ho2 hyg;have hol2:=oi_le ho2;have hwl2:=ho2.len;have hgn:=Kn hkl
     obtain ⟨y,hye⟩:∃y,nth (sucs g x) k=y:=⟨_,Z⟩
     rw [hye] at hyg hw1 hz1 hz2 hgn ho2;have hyw:y<w.length:=by rw [hwl2];exact hyg
     have hwb:nth w y≤100000000000:=by have:=oi_wle hg ho2 hyg (by rw [φn];have:=hg.len hx;omega);omega
     refine AE (J (Bk (k) Z Z (Z) (hgn) Tryz.underlying28 Z BA Z) (J (D0 Z Z Aq Z) (AB Z Z (AD (AC (AE ?_))))));refine goMv Z Z (goMv Z Z (J (Br (y) Z Z (Z) (hyg) Z Tryz.underlying28 BA Z) (J (Bw Z Z (Kn hyw) Z Aq Z) (J (LF Z Z (ωa _ (by omega)) Z) (Io 83 (.d (AN (nth w y - 1))) Z (eqv (Γ AF (by omega))) (J (Br (y) Z Z (Z) (hyg) Z Tryz.underlying28 BA Z) (V (Fq (emb:=AN) w (nth w y - 1) Z Z Z Z Z Z hyw Z BA) (AD ?_))))))));refine AC (AE (goMv Z Z (goMv Z Z (J (Br (y) Z Z (Z) (hyg) Z Tryz.underlying28 BA Z) (J (Bw Z Z (getset hyw) Z Aq Z) (J (KL Z Z Z) (AD (Ae Z (fun h89=>?_) (fun h89=>?_)))))))))
     ·have h89x:nth w y - 1=0:=Int.ofNat.inj h89;refine AE (goMv Z Z ?_);refine J (GR Zu Z Z) (goMv Z Z (J (Fc pt3 Z Z) (V (EW (S7 lst l j y (by rw [ς,Ψ] at hol2;omega) (fun z hz=>by rw [←hgl];exact ho2.lt z (υ.2 (.inr hz))) (by rw [←hgl];exact hyg)) Z [1,2,5,6] ⟨Z,Z,Z,Z,trivial⟩ Z Z Z Z Z Z Z Z Z) (AD (AE (J (Ay Z Z (ωa _ (by omega)) Z) (goMv Z Z (AD ?_))))))));exact ⟨(k+1,w.set y (nth w y - 1),LS (nth lst) l y,[]),⟨hkl,hz1 h89x⟩,by show (sucs g x).length - (k+1)<(sucs g x).length - k;omega,A0 hF [1,2,5,6,0,7] Z (Z) ⟨Z,Z,Z,Z,Z,Z,Z,Z,trivial⟩⟩
     ·have h89x:nth w y - 1≠0:=fun e=>h89 (Γ Int.ofNat e);refine A1 (AE (J (Ay Z Z (ωa _ (by omega)) Z) (goMv Z Z (AD ?_))));exact ⟨(k+1,w.set y (nth w y - 1),l,j),⟨hkl,hz2 h89x⟩,by show (sucs g x).length - (k+1)<(sucs g x).length - k;omega,A0 hF [1,2,5,6,0,7] Z (Z) ⟨Z,Z,Z,Z,Z,Z,Z,Z,trivial⟩⟩
    ·refine BC ?_;exact ⟨(w,l,j,out++ [x]),oi_row ho2 (show k=(sucs g x).length by have:=h76;omega),by show g.length - (out++ [x]).length<g.length - out.length;rw [ς,Ψ];omega,A0 hF [1,2,5,6,0,7] Z (Z) ⟨Z,Z,Z,Z,Z,trivial⟩⟩
   ·refine BC (AC ?_);have hl0:l=[]:=χx.1 (by have:=h61;omega);have hE:=oi_end (hl0▸ho);have hoe:=ordG_eq hK hE.1 hE.2;refine L3 (emb:=AN) 14 7 out Z Z Z Z Z Z Z (AE (goMv Z Z ?_));refine goMv Z Z (J (CM Z Tryz.underlying28 Z) (goMv Z Z (J (CM Z Tryz.underlying147 Z) (J (KL Z Z Z) (AB Z Z (AB Z Z (AD (A5 ?_))))))));exact ⟨_,[5,6],_,A3 Z,Z,Z,by rw [hoe];exact Γ (fun b=>AV.d (.tup [natsD out,Ag b])) (decide_eq_decide.2 Int.ofNat_inj),Z⟩
set_option maxHeartbeats 1000000 in
theorem TF (g:List (List Nat)) (hg:GT g):AM Tryz.prog 134 [.d (Jb g)] [] fun r H'=>∃of cnt,SccOf g.length (sucs g) of cnt∧r= .tup [.own 10 0 cnt,.d (natsD ((List.range g.length).map fun v=>conM g of cnt (of v)))]∧H'=[(10,[.rowD 28 1 ((bo cnt (FC (fun v=>conM g of cnt (of v)) g.length)).map natsD)])]:=by
 have hn:=hg.gb.n;refine Az Tryz.func134 Z Z Tryz.ntmps134 Z Z Z fun F hF=>(AC (AE (AB Z Z (AB Z Z (AD (AC (AE (goMv Z Z ?_))))))));refine CY (Wm (TG g hg.gb) Z [2] ⟨Z,trivial⟩ Z Z Z Z (fun r H' ⟨of,cnt,h1,h2,h3⟩=>by subst h2 h3;exact ⟨Z,Z,Z⟩) Z) Z ?_;rintro _ ⟨r,H',⟨of,cnt,hso,rfl,rfl⟩,rfl⟩;refine goMv Z Z (J (Cc Z Z Z) (J (Cc Z Z Z) (AB Z Z (AB Z Z (AD (AC ?_))))));have hcn:=hso.le;refine AE (goMv Z Z (V (EY 6 BW Z Z Z (by omega) zd3 Z Z Z Z) (V (CD 5 zl28 Z Z Z Z) (V (Be Z Z Z Z Z Z Z Ce) (AD (AC (AC ?_)))))));rw [repN];refine AE (goMv Z Z (J (JE Z (ψ ..) Tryz.underlying147 Z) (J (LF Z Z (ωa _ (by omega)) Z) (Io 29 (.d (AF ((g.length:Int) - 1 - ((0:Nat):Int)))) Z (eqv (Γ AF (by omega))) (AB Z Z (AD (A4 (B5 (α:=Nat) (fun d=>⟨142,[(0,.d (Jb g)),(4,(.own 2 0 g.length)),(5,(.d (AN cnt))),(6,(.ptr 5 0 0)),(7,(.d (AF ((g.length:Int) - 1 - (d:Int)))))],[(2,[.rowD 3 1 (rowN g.length of)]),(5,[.blk 28 [.own 6 0 cnt]]),(6,[.rowD 3 1 (rowN cnt (lfT of g.length d))])]⟩) (fun d=>d≤g.length) (fun d=>g.length - d) (0) (Δ _) (A0 hF [2,5,6] Z Z ⟨Z,Z,Z,Z,Z,trivial⟩) ?_))))))));intro d hd;refine AC (AC (AE (goMv Z Z (J (EO Z Z Z) (AD (Ae Z (fun h31=>?_) (fun h31=>?_)))))))
 ·refine A1 (AC (A4 ?_));have hdl:g.length - 1 - d<g.length:=by omega
  refine Uz 7 (.d (AN (g.length - 1 - d))) Z (eqv (Γ AF (by omega))) ?_;have hoc:=hso.lt _ hdl;refine Cb [[],[],[],[1,2],[1,2,3],[],[0,1,2,3,4,5],[0,1,2,3,4,5,6]] mixed Z (Cr (At [6] Z Z (fun _=>AG (A6 Z Z Z BI Z)) ?_));refine AJ [4] [] Z Z (fun _=>AG (Aj Z Z)) (AJ [7] [] Z Z (fun _=>AG (Aj Z Z)) (At [35,36] Z Z (fun _=>AG (Br (g.length - 1 - d) Z Z (Z) (hdl) Z Tryz.underlying28 BA Z)) (At [37] Z Z (fun _=>AG (Bw Z Z (Ht hdl) Z Aq Z)) (AJ [7] [] Z Z (fun _=>AG (Aj Z Z)) (C3 6 Z Z Z (Aa 7 Z Z (J (Br (of (g.length - 1 - d)) Z Z (Z) (hoc) Z Tryz.underlying28 BA Z) (AD ⟨Z,?_⟩))))))));refine Aa 8 Z Z (V (Qe Z Z Z Z Z (by rw [dE];exact hoc) dF Z BA) (AD ⟨Z,?_⟩));refine C9 (AE (goMv Z Z (J (LF Z Z (ωa _ (by omega)) Z) (Io 33 (.d (AF ((g.length:Int) - 1 - ((d+1:Nat):Int)))) Z (eqv (Γ AF (by omega))) (AB Z Z (AD ?_))))));exact ⟨d+1,by omega,by omega,A0 hF [2,5,6] Z (Z) ⟨Z,Z,Z,Z,Z,trivial⟩⟩
 ·refine BC (AC ?_);have hdn:d=g.length:=by omega
  subst hdn;refine AE (goMv Z Z (V (EY 7 V8 Z Z Z (by omega) zd28 Z Z Z Z) (AB Z Z (AD (AC (AC ?_))))));refine P9 7 0 (rowH cnt (fun _=>none) (fun _=> [])) Z (by rw [Ez,List.length_replicate]) (SD cnt) ⟨Vk _,JZ _ _ _⟩ Z (Gl 40 Z Z Z (AE (goMv Z Z (J (JE Z (ψ ..) Tryz.underlying147 Z) (goMv Z Z (AD (A4 (B5 (α:=Nat×MF×(Nat ->Hd)) (fun q=>⟨142,[(0,.d (Jb g)),(4,(.own 2 0 g.length)),(5,(.d (AN cnt))),(6,(.ptr 5 0 0)),(8,(.own 7 0 cnt)),(43,(.d (Jb g))),(44,(.d (AN g.length))),(45,(.d (AN q.1)))],[(2,[.rowD 3 1 (rowN g.length of)]),(5,[.blk 28 [.own 6 0 cnt]]),(6,[.rowD 3 1 (rowN cnt (lfT of g.length g.length))]),(7,[.rowD 28 1 (rowH cnt q.2.2 (Lc g of q.1 0))]),(40,[.multi q.2.1])]⟩) (fun q=>q.1≤g.length∧Lg q.2.1 cnt q.2.2 (Lc g of q.1 0)) (fun q=>g.length - q.1) ((0,fun _=>none,fun _=>none)) (⟨Δ _,by rw [cH];exact Lg.zero _⟩) (A0 hF [2,5,6,7,40] Z Z ⟨Z,Z,Z,Z,Z,Z,Z,Z,trivial⟩) ?_))))))));rintro ⟨i,M,hs⟩ ⟨hi,hr⟩;dsimp only at hi hr⊢;refine AC (AE (J (BV Z Z Z) (AD (AC (Ae Z (fun h46=>?_) (fun h46=>?_))))))
  ·refine A1 (AC (A4 (AC ?_)));have hil:i<g.length:=Bf h46;have hoi:=hso.lt i hil;refine AE (goMv Z Z (J (Bk (i) Z Z (Z) (Sf hil) Tryz.underlying147 Z Ce Z) (J (D0 Z Z BI Z) (AB Z Z (AB Z Z ?_)))));refine AD (AC (AE (goMv Z Z (J (JE Z (ψ ..) Tryz.underlying28 Z) (goMv Z Z (AD (A4 (B5 (α:=Nat×MF×(Nat ->Hd)) (fun q=>⟨142,[(0,.d (Jb g)),(4,(.own 2 0 g.length)),(5,(.d (AN cnt))),(6,(.ptr 5 0 0)),(8,(.own 7 0 cnt)),(9,(.d (AN i))),(43,(.d (Jb g))),(44,(.d (AN g.length))),(45,(.d (AN i))),(50,(.d (natsD (sucs g i)))),(51,(.d (AN (sucs g i).length))),(52,(.d (AN q.1)))],[(2,[.rowD 3 1 (rowN g.length of)]),(5,[.blk 28 [.own 6 0 cnt]]),(6,[.rowD 3 1 (rowN cnt (lfT of g.length g.length))]),(7,[.rowD 28 1 (rowH cnt q.2.2 (Lc g of i q.1))]),(40,[.multi q.2.1])]⟩) (fun q=>q.1≤(sucs g i).length∧Lg q.2.1 cnt q.2.2 (Lc g of i q.1)) (fun q=>(sucs g i).length - q.1) ((0,M,hs)) (⟨Δ _,hr⟩) (A0 hF [2,5,6,7,40] Z Z ⟨Z,Z,Z,Z,Z,Z,Z,Z,Z,Z,Z,Z,trivial⟩) ?_))))))));rintro ⟨k,M,hs⟩ ⟨hk,hr⟩;dsimp only at hk hr⊢;refine AC (AE (J (BV Z Z Z) (AD (AC (Ae Z (fun h53=>?_) (fun h53=>?_))))))
   ·refine A1 (AC (A4 (AC ?_)));have hkl:k<(sucs g i).length:=Bf h53;have hgn:=Kn hkl;have hsl:=hg.gb.len hil;have hjl:nth (sucs g i) k<g.length:=hg.gb.suc hil (Ch hkl);have hst0:=cI (of:=of) hkl;have hsk0:=cJ (of:=of) hkl
    obtain ⟨j,hje⟩:∃j,nth (sucs g i) k=j:=⟨_,Z⟩
    rw [hje] at hgn hjl hst0 hsk0;have hln:=W0 g of i k (of i);have hlt:=ωf (O8 g (Nat.le_of_lt hil)) hg.tot;have hlt2:((sucs g i).take k).length≤1048576:=by rw [Υ];omega
    refine AE (J (Bk (k) Z Z (Z) (hgn) Tryz.underlying28 Z BA Z) ?_);refine J (D0 Z Z Aq Z) (AB Z Z (AD (AC (Cb [[],[],[0,1],[0,1,2],[],[],[4,5],[4,5,6],[0,1,2,3,4,5,6,7]] mixed Z (Cr (AJ [4] [] Z Z (fun _=>AG (Aj Z Z)) (AJ [9] [] Z Z (fun _=>AG (Aj Z Z)) (At [56,57] Z Z (fun _=>AG (Br (i) Z Z (Z) (hil) Z Tryz.underlying28 BA Z)) ?_))))))));refine At [58] Z Z (fun _=>AG (Bw Z Z (Ht hil) Z Aq Z)) (AJ [4] [] Z Z (fun _=>AG (Aj Z Z)) (AJ [12] [] Z Z (fun _=>AG (Aj Z Z)) (At [60,61] Z Z (fun _=>AG (Br (j) Z Z (Z) (hjl) Z Tryz.underlying28 BA Z)) (At [62] Z Z (fun _=>AG (Bw Z Z (Ht hjl) Z Aq Z)) (C3 8 Z Z Z (Aa 9 Z Z (J (DX Z Z Z) (AD ⟨Z,?_⟩))))))));refine C9 (Ae Z (fun h64=>?_) (fun h64=>?_))
    ·have hst:=hst0 (fun e=>h64 (Γ Int.ofNat e));refine Cb [[],[],[],[1,2],[1,2,3],[],[],[],[6,7],[6,7,8],[5,6,7,8,9],[5,6,7,8,9,10],[],[],[12,13],[12,13,14],[12,13,14,15],[5,6,7,8,9,10,11,12,13,14,15,16],[0,1,2,3,4,5,6,7,8,9,10,11,12,13,14,15,16,17],[0,1,2,3,4,5,6,7,8,9,10,11,12,13,14,15,16,17,18]] mixed Z (Cr (AJ [8] [] Z Z (fun _=>AG (Aj Z Z)) (AJ [4] [] Z Z (fun _=>AG (Aj Z Z)) (AJ [9] [] Z Z (fun _=>AG (Aj Z Z)) (AJ [66,67] [2] Z Z (fun _=>AG (Br (i) Z Z (Z) (hil) Z Tryz.underlying28 BA Z)) (AJ [68] [2] Z Z (fun _=>AG (Bw Z Z (Ht hil) Z Aq Z)) ?_))))));refine AJ [8] [] Z Z (fun _=>AG (Aj Z Z)) (AJ [4] [] Z Z (fun _=>AG (Aj Z Z)) (AJ [9] [] Z Z (fun _=>AG (Aj Z Z)) (AJ [71,72] [2] Z Z (fun _=>AG (Br (i) Z Z (Z) (hil) Z Tryz.underlying28 BA Z)) (AJ [73] [2] Z Z (fun _=>AG (Bw Z Z (Ht hil) Z Aq Z)) (AJ [70,74] [7] Z Z (fun _=>AG (Br (of i) Z Z (Z) (hoi) Z Tryz.underlying147 Ce Z)) (AJ [75] [7] Z Z (fun _=>AG (Bw Z Z (JQ hoi) Z BI Z)) (AJ [4] [] Z Z (fun _=>AG (Aj Z Z)) (AJ [12] [] Z Z (fun _=>AG (Aj Z Z)) ?_))))))));refine AJ [77,78] [2] Z Z (fun _=>AG (Br (j) Z Z (Z) (hjl) Z Tryz.underlying28 BA Z)) (AJ [79] [2] Z Z (fun _=>AG (Bw Z Z (Ht hjl) Z Aq Z)) (Gn [80] [21] [(81,_)] Z Z (fun _=>Gp (D1 21 BW Z Z Z Z Z Z Z Z)) (.inr ⟨81,_,Z,Z,Z,Z,Z⟩) Z Z Z Z Z (Gn [76,81] [60,40,21] [(82,_)] Z Z (fun _=>Gp (GU 76 60 40 (hr.at_ (of i) hoi) Z Z (by rw [ψ]) Z Z Z Z Z (I0 (emb:=AN) (Lc g of i k (of i)) [of j] Z Z Z Z Z Z Z Z BW (by show ((Lc g of i k (of i)).length+1)*8≤_;omega) Z Z Z Z))) (.inr ⟨82,_,Z,Z,Z,Z,Z⟩) Z Z Z Z Z (C3 18 Z Z Z (Aa 19 Z Z (Eg 82 60 40 hF Z Z Z (by rw [ψ]) (by simp) Z Z Z Z Z Z Z (fun _ _=>rfl) fun b c hb hc=>(J (Br (of i) Z Z (Z) (hoi) Z Tryz.underlying147 Ce Z) (AD ⟨Z,?_⟩))))))));refine Aa 20 Z Z (V (Qe Z Z Z Z Z (by rw [Ez];exact hoi) (R2 (h:=some (b,c))) Z Ce) (AD ⟨Z,?_⟩));refine C9 (AE (J (Ay Z Z (ωa _ (by omega)) Z) (goMv Z Z (AD ?_))));exact ⟨(k+1,BO (B1 M (hs (of i))) b (.row 3 1 c ((Lc g of i k (of i)++ [of j]).map AN)),Ar hs (of i) (some (b,c))),⟨hkl,by have:=hr.app hoi hb hc;rw [hst] at this;exact this⟩,by show (sucs g i).length - (k+1)<(sucs g i).length - k;omega,A0 hF [2,5,6,7,40] Z (by rw [hst];rfl) ⟨Z,Z,Z,Z,Z,Z,Z,Z,Z,Z,Z,Z,trivial⟩⟩
    ·have hsk:=hsk0 (fun h=>h64 (fun e=>h (Int.ofNat.inj e)));refine A1 (AE (J (Ay Z Z (ωa _ (by omega)) Z) (goMv Z Z (AD ?_))));exact ⟨(k+1,M,hs),⟨hkl,by rw [←hsk];exact hr⟩,by show (sucs g i).length - (k+1)<(sucs g i).length - k;omega,A0 hF [2,5,6,7,40] Z (by rw [←hsk];rfl) ⟨Z,Z,Z,Z,Z,Z,Z,Z,Z,Z,Z,Z,trivial⟩⟩
   ·refine BC ?_;have hke:k=(sucs g i).length:=by have:=h53;omega
    subst hke;refine AE (J (Ay Z Z (ωa _ (by omega)) Z) (goMv Z Z (AD ?_)));exact ⟨(i+1,M,hs),⟨hil,by rw [←WZ];exact hr⟩,by show g.length - (i+1)<g.length - i;omega,A0 hF [2,5,6,7,40] Z (by rw [WZ];rfl) ⟨Z,Z,Z,Z,Z,Z,Z,Z,trivial⟩⟩
  ·refine BC (AC ?_);have hin:i=g.length:=by have:=h46;omega
   subst hin;refine dA 7 0 40 ((Ju g of cnt).map natsD) Z Z Z Z Z (by rw [ψ,Ju,T9,Ez]) hr.melt ⟨JZ _ _ _,aS _⟩ Z (L3 (emb:=natsD) 8 7 (Ju g of cnt) Z Z Z (T9 _ _).symm Z Z Z ?_);rw [Zi cnt];have hll:=lfL_len of g.length cnt;have hob:=aP (Ti of g.length cnt) (Ju g of cnt) (edG_gb hg hso) (by rw [Ju,T9];exact lf_inj hso) (by rw [Ju,T9,hll]);rw [←Ti,show (AV.own 6 0 cnt)= .own 6 0 (Ti of g.length cnt).length by rw [hll]];refine AE (goMv Z Z ?_);refine J (Zcy Z Z) (V (EW hob Z [5,6] ⟨Z,Z,trivial⟩ Z Z Z Z Z Z Z Z Z) (goMv Z Z (J (DD Z Z Z) (J (DD Z Z Z) (AB Z Z (AB Z Z (AD (AC ?_))))))));have hsq:ordG (Ju g of cnt) (nth (Ti of g.length cnt))=conS g of cnt:=rfl;have hsl0:=aQ (Ju g of cnt) (nth (Ti of g.length cnt));have hsk9:∀k,k<(conS g of cnt).length ->nth (conS g of cnt) k<cnt:=fun k hk=>by have:=ordG_lt (g:=Ju g of cnt) (K:=nth (Ti of g.length cnt)) hk;rwa [Ju,T9] at this
   rw [Ju,T9,←Ju] at hsl0;rw [hsq] at hsl0⊢;refine AE (goMv Z Z (V (EY 9 BW Z Z Z (by omega) zd3 Z Z Z Z) (AB Z Z (AD (AC (AC ?_))))));rw [repN]
   obtain ⟨seq,hseq⟩:∃seq,conS g of cnt=seq:=⟨_,Z⟩
   rw [hseq] at hsl0 hsk9⊢;refine AE (goMv Z Z (J (JE Z (ψ ..) Tryz.underlying28 Z) (goMv Z Z (AD (A4 (B5 (α:=Nat) (fun k=>⟨142,[(0,.d (Jb g)),(4,(.own 2 0 g.length)),(5,(.d (AN cnt))),(15,(.own 9 0 cnt)),(94,(.d (natsD seq))),(95,(.d (AN seq.length))),(96,(.d (AN k)))],[(2,[.rowD 3 1 (rowN g.length of)]),(9,[.rowD 3 1 (rowN cnt (DC seq k))])]⟩) (fun k=>k≤seq.length) (fun k=>seq.length - k) (0) (Δ _) (A0 hF [2,9] Z Z ⟨Z,Z,Z,Z,Z,Z,Z,trivial⟩) ?_))))));intro k hk;refine AC (AE (J (BV Z Z Z) (AD (AC (Ae Z (fun h97=>?_) (fun h97=>?_))))))
   ·refine A1 (AC (A4 (AC ?_)));have hkl:k<seq.length:=Bf h97;refine AE (goMv Z Z (J (Bk (k) Z Z (Z) (Kn hkl) Tryz.underlying28 Z BA Z) (J (D0 Z Z Aq Z) (AB Z Z (AB Z Z (AD (AE (goMv Z Z ?_))))))));refine goMv Z Z (goMv Z Z (J (Br (nth seq k) Z Z (Z) (hsk9 k hkl) Z Tryz.underlying28 BA Z) (V (Qe Z Z Z Z Z (by rw [dE];exact hsk9 k hkl) dF Z BA) (AD (AE (J (Ay Z Z (ωa _ (by omega)) Z) (goMv Z Z (AD ?_))))))));exact ⟨k+1,hkl,by omega,A0 hF [2,9] Z (Z) ⟨Z,Z,Z,Z,Z,Z,Z,trivial⟩⟩
   ·refine BC (AC ?_);have hks:k=seq.length:=by have:=h97;omega
    subst hks;refine AE (goMv Z Z (V (EY 10 RX Z Z Z (by omega) zd28 Z Z Z Z) (AB Z Z (AD (AC (AC (P9 10 0 (rowH cnt (fun _=>none) (fun _=> [])) Z (by rw [Ez,List.length_replicate]) (SD cnt) ⟨Vk _,JZ _ _ _⟩ Z (Gl 40 Z Z Z ?_))))))));have hno:∀v,v<g.length ->DC seq seq.length (of v)<cnt:=fun v hv=>Vy seq (Nat.lt_of_le_of_lt (Δ _) (hso.lt v hv)) hsl0 _ (ϖ _) _;refine AE (goMv Z Z (J (JE Z (ψ ..) Tryz.underlying147 Z) (goMv Z Z (AD (A4 (B5 (α:=Nat×MF×(Nat ->Hd)) (fun q=>⟨142,[(0,.d (Jb g)),(4,(.own 2 0 g.length)),(15,(.own 9 0 cnt)),(18,(.own 10 0 cnt)),(109,(.d (AN g.length))),(110,(.d (AN q.1)))],[(2,[.rowD 3 1 (rowN g.length (ofT of (fun v=>DC seq seq.length (of v)) q.1))]),(9,[.rowD 3 1 (rowN cnt (DC seq seq.length))]),(10,[.rowD 28 1 (rowH cnt q.2.2 (FC (fun v=>DC seq seq.length (of v)) q.1))]),(40,[.multi q.2.1])]⟩) (fun q=>q.1≤g.length∧Lg q.2.1 cnt q.2.2 (FC (fun v=>DC seq seq.length (of v)) q.1)) (fun q=>g.length - q.1) ((0,fun _=>none,fun _=>none)) (⟨Δ _,Lg.zero _⟩) (A0 hF [2,9,10,40] Z Z ⟨Z,Z,Z,Z,Z,Z,trivial⟩) ?_))))));rintro ⟨i,M,hs⟩ ⟨hi,hr⟩;dsimp only at hi hr⊢;refine AC (AE (J (BV Z Z Z) (AD (AC (Ae Z (fun h111=>?_) (fun h111=>?_))))))
    ·refine A1 (AC (A4 (AC ?_)));have hil:i<g.length:=Bf h111;have hoi:=hso.lt i hil;have hst:=X2 (fun v=>DC seq seq.length (of v)) i;have hos:=aX of (fun v=>DC seq seq.length (of v)) i;have hxc:=hno i hil;have hofi:ofT of (fun v=>DC seq seq.length (of v)) i i=of i:=ϑ (φg _);have hofj:ofT of (fun v=>DC seq seq.length (of v)) (i+1) i=DC seq seq.length (of i):=θ (χl _);have hgo:=Ht (f:=ofT of (fun v=>DC seq seq.length (of v)) i) hil;have hgj:=Ht (f:=ofT of (fun v=>DC seq seq.length (of v)) (i+1)) hil;rw [hofi] at hgo;have hrg:=Ht (f:=DC seq seq.length) hoi
     first | dsimp only at hst hos | skip
     obtain ⟨x,hxe⟩:∃x,DC seq seq.length (of i)=x:=⟨_,Z⟩
     rw [hofj,hxe] at hgj;rw [hxe] at hst hos hxc hrg;have hln:=aO (fun v=>DC seq seq.length (of v)) i x;refine AE (goMv Z Z (AB Z Z (AD ?_)));refine AC (AE (goMv Z Z (goMv Z Z (goMv Z Z (goMv Z Z (goMv Z Z (J (Br (i) Z Z (Z) (hil) Z Tryz.underlying28 BA Z) (J (Bw Z Z (hgo) Z Aq Z) ?_))))))));refine J (Br (of i) Z Z (Z) (hoi) Z Tryz.underlying28 BA Z) (J (Bw Z Z (hrg) Z Aq Z) (J (Br (i) Z Z (Z) (hil) Z Tryz.underlying28 BA Z) (V (Qe Z Z Z Z Z (by rw [dE];exact hil) (dF.trans (by rw [hos])) Z BA) (AD (Cb [[],[],[],[1,2],[1,2,3],[],[],[],[6,7],[6,7,8],[5,6,7,8,9],[5,6,7,8,9,10],[],[12],[5,6,7,8,9,10,11,12,13],[0,1,2,3,4,5,6,7,8,9,10,11,12,13,14],[0,1,2,3,4,5,6,7,8,9,10,11,12,13,14,15]] mixed Z (Cr (AJ [18] [] Z Z (fun _=>AG (Aj Z Z)) (AJ [4] [] Z Z (fun _=>AG (Aj Z Z)) ?_))))))));refine AJ [19] [] Z Z (fun _=>AG (Aj Z Z)) (AJ [124,125] [2] Z Z (fun _=>AG (Br (i) Z Z (Z) (hil) Z Tryz.underlying28 BA Z)) (AJ [126] [2] Z Z (fun _=>AG (Bw Z Z (hgj) Z Aq Z)) (AJ [18] [] Z Z (fun _=>AG (Aj Z Z)) (AJ [4] [] Z Z (fun _=>AG (Aj Z Z)) (AJ [19] [] Z Z (fun _=>AG (Aj Z Z)) (AJ [129,130] [2] Z Z (fun _=>AG (Br (i) Z Z (Z) (hil) Z Tryz.underlying28 BA Z)) (AJ [131] [2] Z Z (fun _=>AG (Bw Z Z (hgj) Z Aq Z)) (AJ [128,132] [10] Z Z (fun _=>AG (Br (x) Z Z (Z) (hxc) Z Tryz.underlying29 Ce Z)) ?_))))))));refine AJ [133] [10] Z Z (fun _=>AG (Bw Z Z (JQ hxc) Z BI Z)) (AJ [19] [] Z Z (fun _=>AG (Aj Z Z)) (Gn [135] [21] [(136,_)] Z Z (fun _=>Gp (D1 21 BW Z Z Z Z Z Z Z Z)) (.inr ⟨136,_,Z,Z,Z,Z,Z⟩) Z Z Z Z Z (Gn [134,136] [60,40,21] [(137,_)] Z Z (fun _=>Gp (GU 134 60 40 (hr.at_ x hxc) Z Z (by rw [ψ]) Z Z Z Z Z (I0 (emb:=AN) (FC (fun v=>DC seq seq.length (of v)) i x) [i] Z Z Z Z Z Z Z Z BW (by show ((FC (fun v=>DC seq seq.length (of v)) i x).length+1)*8≤_;omega) Z Z Z Z))) (.inr ⟨137,_,Z,Z,Z,Z,Z⟩) Z Z Z Z Z (C3 15 Z Z Z (Aa 16 Z Z (Eg 137 60 40 hF Z Z Z (by rw [ψ]) (by simp) Z Z Z Z Z Z Z (fun _ _=>rfl) fun b c hb hc=>(J (Br (x) Z Z (Z) (hxc) Z Tryz.underlying29 Ce Z) (AD ⟨Z,?_⟩))))))));refine Aa 17 Z Z (V (Qe Z Z Z Z Z (by rw [Ez];exact hxc) (R2 (h:=some (b,c))) Z Ce) (AD ⟨Z,?_⟩));refine C9 (AE (J (Ay Z Z (ωa _ (by omega)) Z) (goMv Z Z (AD ?_))));exact ⟨(i+1,BO (B1 M (hs x)) b (.row 3 1 c ((FC (fun v=>DC seq seq.length (of v)) i x++ [i]).map AN)),Ar hs x (some (b,c))),⟨hil,by have:=hr.app hxc hb hc;rw [hst] at this;exact this⟩,by show g.length - (i+1)<g.length - i;omega,A0 hF [2,9,10,40] Z (by rw [hst];rfl) ⟨Z,Z,Z,Z,Z,Z,trivial⟩⟩
    ·refine BC (AC ?_);have hin:i=g.length:=by have:=h111;omega
     subst hin;have hof:rowN g.length (ofT of (fun v=>DC seq seq.length (of v)) g.length)=((List.range g.length).map fun v=>DC seq seq.length (of v)).map AN:=by rw [ωr];exact ωi fun v hv=>Γ AN (θ (Θ.1 hv))
     rw [hof];refine dA 10 0 40 ((bo cnt (FC (fun v=>DC seq seq.length (of v)) g.length)).map natsD) Z Z Z Z Z (by rw [ψ,T9,Ez]) hr.melt ⟨JZ _ _ _,aS _⟩ Z (L3 (emb:=AN) 4 2 ((List.range g.length).map fun v=>DC seq seq.length (of v)) Z Z Z (by simp) Z Z Z (AE (goMv Z Z (goMv Z Z (AB Z Z (AB Z Z (AD (A5 ?_))))))));exact ⟨_,[10],_,A3 Z,Z,Z,of,cnt,hso,by unfold conM;rw [hseq],by unfold conM;rw [hseq]⟩
noncomputable def conC (g:List (List Nat)):(Nat ->Nat)×Nat:=Classical.epsilon fun p=>CN g.length (sucs g) p.1 p.2
noncomputable def noC (g:List (List Nat)):Nat ->Nat:=(conC g).1
noncomputable def cntC (g:List (List Nat)):Nat:=(conC g).2
theorem Q1 {g:List (List Nat)} (hg:GB g) {no:Nat ->Nat} {cnt:Nat} (h:CN g.length (sucs g) no cnt):CN g.length (sucs g) (noC g) (cntC g)∧cnt=cntC g∧∀v,v<g.length ->no v=noC g v:=by
 have h2:CN g.length (sucs g) (conC g).1 (conC g).2:=Classical.epsilon_spec (p:=fun p:(Nat ->Nat)×Nat=>CN g.length (sucs g) p.1 p.2) ⟨(no,cnt),h⟩;exact ⟨h2,cn_uniq h h2 fun v hv y hy=>hg.suc hv hy⟩
noncomputable def comC (g:List (List Nat)):List (List Nat):=bo (cntC g) (FC (noC g) g.length)
noncomputable def noL (g:List (List Nat)):List Nat:=(List.range g.length).map (noC g)
theorem UV {no no':Nat ->Nat} {n:Nat} (h:∀v,v<n ->no v=no' v):FC no n=FC no' n:=by
 funext c
 unfold FC;exact χq fun v hv=>by rw [h v (Θ.1 hv)]
theorem TE (g:List (List Nat)) (hg:GT g):AM Tryz.prog 134 [.d (Jb g)] [] fun r H'=>r= .tup [.own 10 0 (cntC g),.d (natsD (noL g))]∧H'=[(10,[.rowD 28 1 ((comC g).map natsD)])]:=
 (TF g hg).mono fun r H' ⟨of,cnt,hso,hr,hH⟩=>by
  obtain ⟨_,e2,e3⟩:=Q1 hg.gb (Uq hg hso);have ho:=UV e3;have hl:(List.range g.length).map (fun v=>conM g of cnt (of v))=noL g:=ωi fun v hv=>e3 v (Θ.1 hv);rw [hr,hH,ho,hl,e2];exact ⟨Z,Z⟩
def toI (g:List (List Nat)):List (List Int):=g.map (List.map Int.ofNat)
theorem toI_gr (g:List (List Nat)):grI (toI g)=Jb g:=by
 unfold toI;show D.sl none ((g.map (List.map Int.ofNat)).map S4)=D.sl none (g.map natsD);rw [ωr]
 congr 1
 exact ωi fun l _=>by
  show D.sl none ((l.map Int.ofNat).map AF)=_;rw [ωr];rfl
theorem JI (g:List (List Nat)):(toI g).length=g.length:=by simp [toI]
theorem VO (g:List (List Nat)):∀i,i≤g.length ->KS (toI g) i=HK g i
 | 0,_=>rfl
 | i+1,hi=>by
  have ih:=VO g i (by omega);rw [KR (by rw [JI];omega),ih];unfold HK;rw [ψm,ωe,χc,φi,List.sum_singleton,Dy (by omega)]
  simp [toI]
theorem chk_ok {g:List (List Nat)} (hg:GT g):TR (toI g)=0:=by
 have hn:=hg.gb.n;have ht:=hg.tot;refine (chk0 (by rw [JI];omega) (by rw [JI,VO g _ (ϖ _)];omega) ?_).symm;rintro ⟨l,hl,x,hx,hb⟩;obtain ⟨m,hm,rfl⟩:=ν.1 hl;obtain ⟨y,hy,rfl⟩:=ν.1 hx;have:=hg.gb.lt m hm y hy;rw [JI] at hb;exact hb ⟨Int.natCast_nonneg _,Int.ofNat_lt.2 this⟩
theorem row_tot {g:List (List Nat)} {l:List Nat} (h:l∈g):l.length≤HK g g.length:=by
 obtain ⟨i,hi,rfl⟩:=χp.1 h
 have h1:HK g (i+1)=HK g i+g[i].length:=by
  unfold HK;rw [ψm,ωe,χc,φi,List.sum_singleton,Dy hi]
 have:=O8 g (i:=i+1) (j:=g.length) (by omega);omega
theorem check_n (g:List (List Nat)) (hg:GT g):AO Tryz.prog 133 [.d (Jb g)] (AF 0):=by
 have hn:=hg.gb.n;have ht:=hg.tot
 have h:=ce (toI g) (by rw [JI];omega) fun l hl=>by
  obtain ⟨m,hm,rfl⟩:=ν.1 hl;rw [ψ];have:=row_tot hm;omega
 rw [toI_gr,chk_ok hg] at h;exact h
theorem Q2 (g:List (List Nat)) (hg:GT g):AM Tryz.prog 80 [.d (Jb g)] [] fun r H'=>r= .tup [.own 10 0 (cntC g),.d (AF 0)]∧H'=[(10,[.rowD 28 1 ((comC g).map natsD)])]:=by
 refine Az Tryz.func80 Z Z Tryz.ntmps80 Z Z Z fun F hF=>?_;refine AC (AE (AB Z Z (AB Z Z (AD (AC (AC (AE (goMv Z Z ?_))))))));refine J (B4 (check_n g hg) Z Z) (AB Z Z (AD (AC (AE (goMv Z Z (J (DX Z Z Z) (AD (EN Z (ωp (by decide)) ?_))))))));refine A1 (AC (AE (goMv Z Z (V (EW (TE g hg) Z [10] ⟨Z,trivial⟩ Z Z Z Z Z Z Z Z Z) (goMv Z Z (J (Cc Z Z Z) (J (Cc Z Z Z) (AB Z Z ?_))))))));refine AB Z Z (AD (AC (AE (goMv Z Z (AB Z Z (AB Z Z (AD (A5 ?_))))))));exact ⟨_,[10],_,A3 Z,Z,Z,Z,Z⟩
theorem Zo (suc:Nat ->List Nat) (v:Nat):∃y,(Rh suc v y∧Rh suc y v)∧∀z,Rh suc v z∧Rh suc z v ->y≤z:=exmin (fun u=>Rh suc v u∧Rh suc u v) v v ⟨.refl v,.refl v⟩ (ϖ _)
noncomputable def repF (suc:Nat ->List Nat) (v:Nat):Nat:=Classical.choose (Zo suc v)
theorem Fw (suc:Nat ->List Nat) (v:Nat):(Rh suc v (repF suc v)∧Rh suc (repF suc v) v)∧∀z,Rh suc v z∧Rh suc z v ->repF suc v≤z:=Classical.choose_spec (Zo suc v)
theorem Vc {suc:Nat ->List Nat} {i j:Nat}:repF suc i=repF suc j↔Rh suc i j∧Rh suc j i:=by
 obtain ⟨h1,h2⟩:=Fw suc i;obtain ⟨h3,h4⟩:=Fw suc j
 constructor
 ·intro e;rw [←e] at h3;exact ⟨h1.1.trans h3.2,h3.1.trans h1.2⟩
 ·intro h;exact Nat.le_antisymm (h2 _ ⟨h.1.trans h3.1,h3.2.trans h.2⟩) (h4 _ ⟨h.2.trans h1.1,h1.2.trans h.1⟩)
theorem Zb (n:Nat) (suc:Nat ->List Nat):∃of cnt,SccOf n suc of cnt:=by
 let reps:=(List.range n).filter fun v=>decide (repF suc v=v)
 have hnd:reps.Nodup:=List.nodup_range.filter _;have hle:∀v,repF suc v≤v:=fun v=>(Fw suc v).2 v ⟨.refl v,.refl v⟩;have hid:∀v,repF suc (repF suc v)=repF suc v:=fun v=>Vc.2 ⟨(Fw suc v).1.2,(Fw suc v).1.1⟩;have hm:∀v,v<n ->repF suc v∈reps:=fun v hv=>Ω.2 ⟨Θ.2 (Nat.lt_of_le_of_lt (hle v) hv),ωc (hid v)⟩;refine ⟨fun v=>reps.idxOf (repF suc v),reps.length,⟨fun v hv=>ψo (hm v hv),fun i j hi hj=>?_,fun c hc=>?_,?_⟩⟩
 ·rw [←Vc]
  constructor
  ·intro e;have e1:=φa (ψo (hm i hi));have e2:=φa (ψo (hm j hj));rw [←e1,←e2];simp only [e]
  ·intro e;show reps.idxOf (repF suc i)=reps.idxOf (repF suc j);rw [e]
 ·obtain ⟨h1,h2⟩:=Ω.1 (κ hc);refine ⟨reps[c],Θ.1 h1,?_⟩;show reps.idxOf (repF suc reps[c])=c;rw [ωy h2];exact hnd.idxOf_getElem c hc
 ·have:=ωj (fun v=>decide (repF suc v=v)) (List.range n);rw [ωh] at this;exact this
theorem cY (g:List (List Nat)) (hg:GT g):CN g.length (sucs g) (noC g) (cntC g):=by
 obtain ⟨of,cnt,h⟩:=Zb g.length (sucs g);exact (Q1 hg.gb (Uq hg h)).1
end Go.Proofs.YteifpcnphnhaoaaGreat
namespace Go.Proofs.YteifpcnphnhaoaaGreat
open Go.RowKit Go.Shelf
set_option maxRecDepth 100000
def H3 (g:List (List Nat)) (i j:Nat):Prop:=Rh (sucs g) i j∧Rh (sucs g) j i
theorem PI (g:List (List Nat)) (i:Nat):H3 g i i:=⟨.refl i,.refl i⟩
theorem Xi {g:List (List Nat)} {i j:Nat} (h:H3 g i j):H3 g j i:=⟨h.2,h.1⟩
theorem Ip {g:List (List Nat)} {i j k:Nat} (h:H3 g i j) (h':H3 g j k):H3 g i k:=⟨h.1.trans h'.1,h'.2.trans h.2⟩
noncomputable def clsM (g:List (List Nat)) (i:Nat):List Nat:=(List.range g.length).filter fun j=>dec (H3 g i j)
noncomputable def fstM (g:List (List Nat)):List Nat:=(List.range g.length).filter fun i=>dec (∀j,j<i ->¬H3 g i j)
noncomputable def cirG (g:List (List Nat)):List (List Nat):=lgs ((fstM g).map (clsM g))
theorem KA {g:List (List Nat)} {i j:Nat}:j∈clsM g i↔j<g.length∧H3 g i j:=by
 unfold clsM;rw [Ω,Θ,E6]
theorem NV {g:List (List Nat)} {i:Nat}:i∈fstM g↔i<g.length∧∀j,j<i ->¬H3 g i j:=by
 unfold fstM;rw [Ω,Θ,E6]
theorem clsM_eq {g:List (List Nat)} {i j:Nat} (h:H3 g i j):clsM g i=clsM g j:=by
 unfold clsM;exact χq fun k _=>by rw [Bool.eq_iff_iff,E6,E6];exact ⟨fun x=>Ip (Xi h) x,fun x=>Ip h x⟩
theorem TM (g:List (List Nat)) (i:Nat):(clsM g i).Pairwise (· < ·):=List.Pairwise.sublist ψq List.pairwise_lt_range
theorem Sg (g:List (List Nat)):(fstM g).Pairwise (· < ·):=List.Pairwise.sublist ψq List.pairwise_lt_range
theorem ME {g:List (List Nat)} {i:Nat} (h:i∈fstM g):hdi (clsM g i)=(i:Int):=by
 obtain ⟨h1,h2⟩:=NV.1 h;have hi:i∈clsM g i:=KA.2 ⟨h1,PI g i⟩;have hs:=TM g i;unfold hdi
 cases hc:clsM g i with
 | nil=>rw [hc] at hi;cases hi
 | cons a t=>
  rw [hc] at hi hs;show ((a:Nat):Int)=_;have ha:a∈clsM g i:=by rw [hc];exact ωk
  rcases Φ.1 hi with e | e
  ·rw [e]
  ·have:=List.rel_of_pairwise_cons hs e;exact absurd (KA.1 ha).2 (h2 a this)
theorem fstM_ex {g:List (List Nat)} (i:Nat) (hi:i<g.length):∃k,k∈fstM g∧H3 g i k:=by
 induction i using Nat.strongRecOn with
 | ind i ih=>
  by_cases h:∀j,j<i ->¬H3 g i j
  ·exact ⟨i,NV.2 ⟨hi,h⟩,PI g i⟩
  ·obtain ⟨j,hj⟩:=Classical.not_forall.1 h;obtain ⟨hji,hm⟩:=Classical.not_imp.1 hj;have hm:=χw.1 hm;obtain ⟨k,hk,hm2⟩:=ih j hji (by omega);exact ⟨k,hk,Ip hm hm2⟩
theorem Rp {g:List (List Nat)} (hg:GT g) {v:Nat} (hv:v<g.length):FC (noC g) g.length (noC g v)=clsM g v:=by
 have hc:=cY g hg;unfold FC clsM
 exact χq fun w hw=>by
  rw [Bool.eq_iff_iff,decide_eq_true_iff,E6];rw [eq_comm];exact hc.scc v w hv (Θ.1 hw)
theorem IJ {l:List (List Nat)} {x:List Nat}:x∈lgs l↔x∈l∧2≤x.length:=by
 unfold lgs Gh;rw [Ω];simp
theorem TJ {g:List (List Nat)} (hg:GT g) {x:List Nat}:x∈comC g↔∃i,i∈fstM g∧x=clsM g i:=by
 have hc:=cY g hg;unfold comC bo;rw [ν]
 constructor
 ·rintro ⟨c,h1,rfl⟩;obtain ⟨v,hv,rfl⟩:=hc.use c (Θ.1 h1);obtain ⟨k,hk,hm⟩:=fstM_ex v hv;exact ⟨k,hk,by rw [Rp hg hv,clsM_eq hm]⟩
 ·rintro ⟨i,hi,rfl⟩;have hil:=(NV.1 hi).1;exact ⟨noC g i,Θ.2 (hc.lt i hil),Rp hg hil⟩
theorem Nh {g:List (List Nat)} (hg:GT g):(comC g).Nodup:=by
 have hc:=cY g hg;unfold comC bo;rw [List.Nodup,ψb];refine φh (R:=fun a b=>a<b) (fun {a b} ha hb hab e=>?_) List.pairwise_lt_range;obtain ⟨v,hv,rfl⟩:=hc.use a (Θ.1 ha);have h1:v∈FC (noC g) g.length (noC g v):=by unfold FC;rw [Ω];exact ⟨Θ.2 hv,by simp⟩
 rw [e] at h1;unfold FC at h1;rw [Ω] at h1;have:=ωy h1.2;omega
theorem TO {g:List (List Nat)} (hg:GT g) {x:List Nat}:x∈cirG g↔x∈lgs (comC g):=by
 unfold cirG;rw [IJ,IJ,TJ hg,ν];exact ⟨fun ⟨⟨i,h1,h2⟩,h3⟩=>⟨⟨i,h1,h2.symm⟩,h3⟩,fun ⟨⟨i,h1,h2⟩,h3⟩=>⟨⟨i,h1,h2.symm⟩,h3⟩⟩
theorem LY (g:List (List Nat)):(cirG g).Pairwise fun a b=>hdi a<hdi b:=by
 unfold cirG lgs;refine List.Pairwise.sublist ψq ?_;rw [ψb];refine φh (R:=fun a b=>a<b) (fun {a b} ha hb hab=>?_) (Sg g);rw [ME ha,ME hb];omega
theorem cc {g:List (List Nat)} {x y:List Nat} (hx:x∈cirG g) (hy:y∈cirG g) (h:hdi x=hdi y):x=y:=by
 unfold cirG at hx hy;obtain ⟨i,hi,rfl⟩:=ν.1 (IJ.1 hx).1;obtain ⟨j,hj,rfl⟩:=ν.1 (IJ.1 hy).1;rw [ME hi,ME hj] at h;rw [Int.ofNat_inj.1 h]
theorem TP {g:List (List Nat)} (hg:GT g) (ys:List (List Nat)) (h1:ys.Perm (lgs (comC g))) (h2:ys.Pairwise fun a b=>¬hdi b - hdi a<0):ys=cirG g:=by
 have hn:ys.Nodup:=h1.nodup_iff.2 (List.Nodup.sublist ψq (Nh hg));have hm:∀x,x∈ys↔x∈cirG g:=fun x=>by rw [h1.mem_iff,TO hg]
 refine Zcw (R:=fun a b=>hdi a<hdi b) (fun x h=>by omega) (fun x y z h h'=>by omega) ?_ (LY g) hm;refine φh (fun {a b} ha hb hab=>?_) (List.Pairwise.and h2 hn);have h3:hdi a≠hdi b:=fun e=>hab.2 (cc ((hm a).1 ha) ((hm b).1 hb) e);have:=hab.1;omega
theorem cir_swo:Go.Sort.SWO (ltOf fun a b:List Nat=>hdi a - hdi b):=by
 refine ⟨fun x=>?_,fun x y z h h'=>?_,fun x y z h h'=>?_⟩
 ·simp [ltOf]
 ·simp only [ltOf,decide_eq_true_iff] at*;omega
 ·simp only [ltOf,decide_eq_false_iff_not] at*;omega
theorem AM.fnArgA {P:Program} {f g:FuncId} {x:AV} {H:Hp} {R:AV ->Hp ->Prop} (h:AM P f [x,.d (.fn g [] [])] H R):AM P f [x,.d (.raw (.func (.func g) #[] #[]))] H R:=
 ⟨h.1,fun F ρ vs h1 h2 h2' h3 h4 h5=>h.2 F ρ vs h1 h2 h2' h3 h4 fun i a v ha hv=>by
  rcases i with _ | _ | i
  ·exact h5 0 _ v ha hv
  ·have e:a= .d (.fn g [] []):=by simpa using ha.symm
   subst e;have:=h5 1 _ v Z hv
   cases this with
   | d hd=>
    cases hd with
    | raw _=>exact .d (.fn (us:=[]) (vs:=[]) Z Z (fun i c v hc=>by simp at hc) fun i c v hc=>by simp at hc)
  ·simp at ha⟩
theorem I6.l {M N:MF} {b:Nat} {l:List Int} (h:I6 M b l):I6 (munion M N) b l:=by
 obtain ⟨m,h1,h2⟩:=h;exact ⟨m,H5 h1,H5 h2⟩
theorem I6.r {M N:MF} {b:Nat} {l:List Int} (hd:∀i m m',M i=some m ->N i=some m' ->False) (h:I6 N b l):I6 (munion M N) b l:=by
 obtain ⟨m,h1,h2⟩:=h
 have hn:∀{i m'},N i=some m' ->M i=none:=fun {i m'} h=>by
  cases e:M i with
  | none=>rfl
  | some x=>exact (hd i _ _ e h).elim
 exact ⟨m,H4 (hn h1) h1,H4 (hn h2) h2⟩
theorem I6.put {N:MF} {b b':Nat} {l:List Int} {o:Ab} (h:I6 N b l) (h0:N b'=none):I6 (BO N b' o) b l:=by
 obtain ⟨m,h1,h2⟩:=h;exact ⟨m,by rw [FP (fun e=>by rw [e,h0] at h1;cases h1)];exact h1,by rw [FP (fun e=>by rw [e,h0] at h2;cases h2)];exact h2⟩
abbrev C1F:FuncId:=79
def inC (L G:List Int) (id:Int):Bool:=decide (id∈L) && !decide (id∈G)
theorem circ1_c {N:MF} {b7 b8 bl bg:Nat} {L G:List Int} (hc7:N b7=some (.cells 124 [Wv bl])) (hc8:N b8=some (.cells 124 [Wv bg])) (hL:I6 N bl L) (hG:I6 N bg G) (id:Int):
  AM Tryz.prog C1F [.d (AF id),.d (pD b7 0),.d (pD b8 0)] [(41,[.multi N])] fun r H'=>r= .d (Ag (inC L G id))∧H'=[(41,[.multi N])]:=by
 refine Az Tryz.func79 Z Z Tryz.ntmps79 Z Z Z fun F hF=>(AC (AE ?_));refine AB Z Z (AD (AC (AE (J (Dn (f:=41) Z Z hc7 Z on124 Z) (goMv Z Z (V (Yc (Hw hL id) Z [41] ⟨Z,trivial⟩ Z Z Z Z Z Z Z Z Z) (goMv Z Z (Id 8 Z (fun h8=>?_) (fun h8=>?_)))))))))
 ·refine Af Z Z Z (J (Dn (f:=41) Z Z hc8 Z on124 Z) (Af Z Z Z ?_));refine goMv Z Z (Af Z Z Z (V (Yc (Hw hG id) Z [41] ⟨Z,trivial⟩ Z Z Z Z Z Z Z Z Z) (Af Z Z Z (J (Nx Z Z) (J (Fb Z Z Z Z) (AB Z Z (AD (A5 ?_))))))));exact ⟨_,[41],_,A3 Z,Z,Z,by {unfold inC;simp [h8]},Z⟩
 ·refine A9 Z Z Z Z (A9 Z Z Z Z (A9 Z Z Z Z (A9 Z Z Z Z (J (DZ Z Z Z Z) (AB Z Z (AD (A5 ?_)))))));exact ⟨_,[41],_,A3 Z,Z,Z,by {unfold inC;simp [h8]},Z⟩
theorem grW_gt {rs:List AP} {E:List (AK×Nat)} (h:E.length≤1000):GT (grW rs E):=by
 have hl:∀l∈grW rs E,l.length≤1000∧∀x∈l,x<E.length:=fun l hl=>by
  obtain ⟨e,_,rfl⟩:=ν.1 hl;exact ⟨ωf (VN _ _ _ _) h,toK_lt⟩
 refine ⟨⟨by rw [Dt];omega,fun l h2=>by have:=(hl l h2).1;omega,fun l h2 x hx=>by rw [Dt];exact (hl l h2).2 x hx⟩,?_⟩
 have key:∀i,i≤(grW rs E).length ->HK (grW rs E) i≤i*1000:=fun i hi=>by
  induction i with
  | zero=>exact Δ _
  | succ i ih=>
   have h1:=ih (by omega);have h2:(sucs (grW rs E) i).length≤1000:=by rw [Dy (by omega)];exact (hl _ (κ (by omega))).1
   unfold HK at h1⊢;rw [ψm,ωe,χc,φi,List.sum_singleton];omega
 have h3:=key _ (ϖ _);have h4:(grW rs E).length≤1000:=by rw [Dt];exact h
 have:(grW rs E).length*1000≤1000*1000:=ψd _ h4;omega
noncomputable def entC (p:Prb):List (AK×Nat):=((sortO p.it).filter fun i=>inC (largeS p) (Cp p) i.id).map fun i=>(i,0)
theorem cD (p:Prb):(entC p).map Prod.fst=(sortO p.it).filter fun i=>inC (largeS p) (Cp p) i.id:=by unfold entC;rw [ωr];exact List.map_id _
noncomputable def cirL (rs:List AP) (E:List (AK×Nat)):List (List Int):=(cirG (grW rs E)).map (E2 E)
theorem cirG_at {g:List (List Nat)} {x:List Nat} (h:x∈cirG g):2≤x.length∧x.length≤g.length∧∀k∈x,k<g.length:=by
 obtain ⟨h1,h2⟩:=IJ.1 h;obtain ⟨i,_,rfl⟩:=ν.1 h1;exact ⟨h2,by unfold clsM;have:=ωj (fun j=>dec (H3 g i j)) (List.range g.length);rwa [ωh] at this,fun k hk=>(KA.1 hk).1⟩
theorem cb (g:List (List Nat)):(cirG g).length≤g.length:=by
 unfold cirG;refine ωf (bI _) ?_;rw [ψ];unfold fstM;have:=ωj (fun i=>dec (∀j,j<i ->¬H3 g i j)) (List.range g.length)
 rwa [ωh] at this
theorem W5 {g:List (List Nat)} (hg:GT g) {x:List Nat} (h:x∈comC g):x.length≤g.length∧∀k∈x,k<g.length:=by
 obtain ⟨i,_,rfl⟩:=(TJ hg).1 h;exact ⟨by unfold clsM;have:=ωj (fun j=>dec (H3 g i j)) (List.range g.length);rwa [ωh] at this,fun k hk=>(KA.1 hk).1⟩
theorem cntC_le {g:List (List Nat)} (hg:GT g):cntC g≤g.length:=by
 obtain ⟨of,cnt,h⟩:=Zb g.length (sucs g);have:=(Q1 hg.gb (Uq hg h)).2.1;have:=h.le;omega
theorem TK {g:List (List Nat)}:(comC g).length=cntC g:=by unfold comC;rw [T9]
theorem getD0 {l:List Nat} {n:Nat} (h:0<l.length) (hm:∀k∈l,k<n):l.getD 0 0<n:=by
 rw [ϱ,ω h];exact hm _ (κ h)
theorem ca {g:List (List Nat)} (hg:GT g):(cirG g).length=(lgs (comC g)).length:=by
 have h1:(cirG g).Nodup:=by
  refine List.Pairwise.imp (fun {a b} (h:hdi a<hdi b) e=>by rw [e] at h;omega) (LY g)
 have h2:(lgs (comC g)).Nodup:=List.Nodup.sublist ψq (Nh hg);exact ((χz h1 h2).2 fun x=>TO hg).length_eq
theorem On {ros:List Roo} {its:List AK}:∀(f:Nat) (on:Nat ->Bool) (x:Int),x∈L9 ros its f on ->∃i,i<its.length∧on i=true∧x=(its.getD i itm0).id
 | 0,_,_,h=>by cases h
 | f+1,on,x,h=>by
  cases hn:HZ ros its on with
  | none=>rw [IC hn] at h;cases h
  | some i=>
   rw [IB hn] at h;obtain ⟨h1,h2,_⟩:=Mw hn;rcases Φ.1 h with e | h
   ·exact ⟨i,h1,h2,e⟩
   ·obtain ⟨j,h3,h4,h5⟩:=On f _ x h;refine ⟨j,h3,?_,h5⟩;unfold A7 at h4
    by_cases e:j=i
    ·rw [e];exact h2
    ·simpa [e] using h4
theorem Mb {ros:List Roo} {its:List AK} (hi:(its.map AK.id).Nodup):∀(f:Nat) (on:Nat ->Bool),(L9 ros its f on).Nodup
 | 0,_=>List.nodup_nil
 | f+1,on=>by
  cases hn:HZ ros its on with
  | none=>rw [IC hn];exact List.nodup_nil
  | some i=>
   rw [IB hn];obtain ⟨h1,h2,_⟩:=Mw hn;refine φb.2 ⟨fun h=>?_,Mb hi f _⟩;obtain ⟨j,h3,h4,h5⟩:=On f _ _ h;have hji:j≠i:=fun e=>by subst e;unfold A7 at h4;simp at h4
   rw [ϱ,ϱ,ω h1,ω h3] at h5;have e:(its.map AK.id)[i]'(by simpa using h1)=(its.map AK.id)[j]'(by simpa using h3):=by rw [ωb,ωb];exact h5
   rw [List.Nodup,ωz] at hi;rcases Nat.lt_trichotomy i j with h6 | h6 | h6
   ·exact hi i j _ _ h6 e
   ·exact hji h6.symm
   ·exact hi j i _ _ h6 e.symm
theorem Sb {p:Prb} (hE:Ad p=0):(Cp p).Nodup:=Mb (F1 hE) _ _
theorem YB {p:Prb} (hf:DW p):(Cp p).length≤30:=by
 have h:=RZ (ros:=rosS p) (its:=ordP p) (ordP p).length fun _=>true;have h2:=DK p;have:=hf.i;unfold Cp;omega
set_option maxHeartbeats 4000000 in
theorem YO (p:Prb) (hf:DW p) (hE:Ad p=0):AO Tryz.prog 30 [.d (Bq p)] (.tup [Xj (cirL (rsP p) (entC p)),AF 0]):=by
 have hi30:=hf.i;have hlk:=Iu p hf hE;have hgk:=Sa p hf hE;have hO:ordP p=sortO p.it:=θ hE;have hll:=IL hE;have hgn:(Cp p).Nodup:=Sb hE;have hgl:(Cp p).length≤30:=YB hf;refine Az Tryz.func30 Z Z Tryz.ntmps30 Z Z Z fun F hF=>?_;refine AC (AE (V (CC 1 Z Z Z Z Z Z Z) (AB Z Z (AB Z Z (AD (AC (AE (J (BM Z Z B2 Z Z Z) ?_))))))));refine J (B4 (hlk) Z Z) (goMv Z Z (J (DD Z Z Z) (J (DD Z Z Z) (AB Z Z (AB Z Z (AD (AC (AC ?_))))))));refine AE (goMv Z Z (J (DX Z Z Z) (AD (EN Z (ωp (by decide)) (A1 (AC (AE (J (BM Z Z B2 Z Z Z) ?_))))))));refine J (B4 (hgk) Z Z) (goMv Z Z (J (DD Z Z Z) (J (DD Z Z Z) (AB Z Z (AB Z Z (AD (AC (AC ?_))))))));refine AE (goMv Z Z (J (DX Z Z Z) (AD (EN Z (ωp (by decide)) (A1 (AC (AE (goMv Z Z ?_))))))));refine CY (Wm (Fo (largeS p) (F5 hE) (by omega)) Z [41] ⟨Z,trivial⟩ Z Z Z Z (fun r H' ⟨b,N,e1,e2,_⟩=>by subst e1 e2;exact ⟨Z,Z,Z⟩) Z) Z ?_;rintro _ ⟨r,H',⟨bl,N1,e1,e2,hWl⟩,rfl⟩;subst e1 e2;refine goMv Z Z ?_;refine CY (Wm ((Fo (Cp p) hgn (by omega)).byX [(41,42)] Z) Z [42] ⟨Z,trivial⟩ Z Z Z Z (fun r H' ⟨r0,H0,⟨b,N,e1,e2,_⟩,e3,e4⟩=>by subst e3 e4 e1 e2;exact ⟨Z,Z,Z⟩) Z) Z ?_;rintro _ ⟨r,H',⟨r0,H0,⟨bg,N2,e1,e2,hWg⟩,e3,e4⟩,rfl⟩;subst e3 e4 e1 e2;refine V (CD 7 zl124 Z Z Z Z) (V (CD 8 zl124 Z Z Z Z) (V (Be Z Z Z Z Z Z Z sz124) (V (Be Z Z Z Z Z Z Z sz124) (AD (AC (a_merge 42 41 Z Z Z Z Z Z Z Z Z fun hdj=>?_))))));have hWl2:=hWl.l (N:=N2);have hWg2:=I6.r hdj hWg;refine Y8 (ds:=[Wv bl]) 7 7 41 hF Z Z Z Z Z Z Z Z Z Z Z (fun _=>rfl) fun b7 hb7=>?_;have hWl3:=hWl2.put (o:= .cells 124 [Wv bl]) hb7;have hWg3:=hWg2.put (o:= .cells 124 [Wv bl]) hb7;refine Y8 (ds:=[Wv bg]) 8 8 41 hF Z Z Z Z Z Z Z Z Z Z Z (fun _=>rfl) fun b8 hb8=>?_;have hWl4:=hWl3.put (o:= .cells 124 [Wv bg]) hb8;have hWg4:=hWg3.put (o:= .cells 124 [Wv bg]) hb8;have hq7:=EX (BO (munion N1 N2) b7 (.cells 124 [Wv bl])) b8 (.cells 124 [Wv bg]);refine AE (J (BM Z Z B2 Z Z Z) (J (T8 (ds:=[]) (es:=[pD b7 0,pD b8 0]) Z Z Z Z Z) ?_));refine CY (Wm (P3 p hE hf C1F [pD b7 0,pD b8 0] _ (inC (largeS p) (Cp p)) (circ1_c (by rw [FP (fun e=>by rw [←e,EX] at hb8;cases hb8)];exact EX _ _ _) hq7 hWl4 hWg4)) Z [41,40] ⟨Z,Z,trivial⟩ Z Z Z Z (fun r H' ⟨E,M,e1,e2,_⟩=>by subst e1 e2;exact ⟨Z,Z,Z⟩) Z) Z ?_;rintro _ ⟨r,H',⟨E,M,e1,e2,hR,hEq⟩,rfl⟩;subst e1 e2;refine AB Z Z (AD (AC ?_));have hEq2:E.map Prod.fst=(entC p).map Prod.fst:=by rw [hEq,hO,cD]
 have hcg:=YC (rs:=rsP p) (E:=E) (E':=entC p) hEq2;have hn30:E.length≤30:=by have h1:(E.map Prod.fst).length≤(sortO p.it).length:=(by rw [hEq,hO];exact ωj _ _);rw [ψ,Cw] at h1;omega
 have haf:∀e∈E,e.1.af.length≤100000:=fun e he=>by have h1:e.1∈E.map Prod.fst:=χv he;rw [hEq,hO] at h1;have:=(hf.x _ ((Qd p.it).mem_iff.1 (Ω.1 h1).1)).2.2;omega
 have hgt:GT (grW (rsP p) E):=grW_gt (by omega)
 obtain ⟨g,hgE⟩:∃g,grW (rsP p) E=g:=⟨_,Z⟩
 have hgl2:g.length=E.length:=by rw [←hgE,Dt]
 have hgc:=graph_c E hR (by omega) haf;rw [hgE] at hgt hgc;refine AE (goMv Z Z (V (EW hgc Z [40] ⟨Z,trivial⟩ Z Z Z Z Z Z Z Z Z) ?_));refine CY (Wm (Q2 g hgt) Z [10] ⟨Z,trivial⟩ Z Z Z Z (fun r H' ⟨e1,e2⟩=>by subst e1 e2;exact ⟨Z,Z,Z⟩) Z) Z ?_;rintro _ ⟨r,H',⟨e1,e2⟩,rfl⟩;subst e1 e2;refine goMv Z Z (J (Cc Z Z Z) (J (Cc Z Z Z) (AB Z Z (AB Z Z (AD ?_)))));refine AC (AC (AE (goMv Z Z (J (DX Z Z Z) (AD (EN Z (ωp (by decide)) (A1 (AC ?_))))))));have hcl:cntC g=(comC g).length:=TK.symm;have hca:∀c∈comC g,c.length≤100000:=fun c hc=>by have:=(W5 hgt hc).1;omega
 have hcn30:(comC g).length≤30:=by rw [TK];have:=cntC_le hgt;omega
 rw [hcl]
 obtain ⟨jk,hjk⟩:∃jk,(List.replicate ((comC g).length - (lgs (comC g)).length) none).map eO=jk:=⟨_,Z⟩
 have hdc:=(delC_c (comC g) (by omega) hca).fnArgA;rw [hjk] at hdc;have hcat:∀x∈lgs (comC g),0<x.length∧x.getD 0 0≤100000:=fun x hx=>by have h1:=IJ.1 hx;have h2:=(W5 hgt h1.1).2;have h3:=getD0 (by omega) h2;exact ⟨by omega,by omega⟩
 refine AE (goMv Z Z (V (EW hdc Z [10] ⟨Z,trivial⟩ Z Z Z Z Z Z Z Z Z) (AB Z Z (AD (AC (AE ?_))))));refine goMv Z Z (V (ZQ laysCi Tryz.func84 Z Z (fun _=>rfl) (fun a b=>hdi a - hdi b) cir_swo (lgs (comC g)) (cirG g) jk (by have:=bI (comC g);omega) (fun x hx y hy=>circ3_p x y (hcat x hx).1 (hcat y hy).1 (hcat x hx).2 (hcat y hy).2) (fun ys g1 g2=>TP hgt ys g1 g2) Z Z Z Ku Z Z Z Z Z) (AD (AC (AE (AB Z Z (AD (AC (AC ?_))))))));have hcl2:(lgs (comC g)).length=(cirG g).length:=(ca hgt).symm;rw [hcl2];have hc30:(cirG g).length≤30:=by have:=cb g;omega
 refine AE (goMv Z Z (J (KM Z Tryz.underlying29 Z) (goMv Z Z (AD (A4 (O4 11 11 RX Z Z Z Z (B5 (α:=Nat×List (List Int)) (fun q=>⟨64,[(9,(.d (.sl none (E.map Cg)))),(11,(.own 11 0 q.2.length)),(50,(.own 10 0 (cirG g).length)),(51,(.d (AF ((cirG g).length:Int)))),(52,(.d (AF (q.1:Int))))],[(11,[.rowD 28 1 (q.2.map QC)]),(10,[.rowD 28 1 ((cirG g).map natsD++jk)])]⟩) (fun q=>q.1≤(cirG g).length∧q.2=((cirG g).take q.1).map (E2 E)) (fun q=>(cirG g).length - q.1) ((0,[])) (⟨Δ _,Z⟩) (A0 hF [11,10] Z Z ⟨Z,Z,Z,Z,Z,trivial⟩) ?_)))))));rintro ⟨k,T⟩ ⟨hk,hT⟩;dsimp only at hk hT⊢;refine AC (AE (J (BV Z Z Z) (AD (AC (Ae Z (fun h53=>?_) (fun h53=>?_))))))
 ·refine A1 (AC (A4 (AC ?_)));have hkl:k<(cirG g).length:=Bf h53;obtain ⟨hx2,hxl,hxm⟩:=cirG_at (κ hkl);have hTl:T.length≤30:=by rw [hT,ψ,Υ];omega
  refine AE (J (Br (k) Z Z (Z) (hkl) Z Tryz.underlying29 Ce Z) (J (Bw Z Z ((show ((cirG g).map natsD++jk)[k]? =some (natsD (cirG g)[k]) from by rw [ψa (by rw [ψ];exact hkl)];exact Ah hkl)) Z BI Z) ?_));refine AB Z Z (AD (AE (goMv Z Z (goMv Z Z (goMv Z Z ?_)))));refine J (B4 (ids_p E (cirG g)[k] (fun x hx=>by have:=hxm x hx;omega) (by omega)) Z Z) (V (D1 30 RX Z Z Z Z Z Z Z Z) (V (I0 (T) ([E2 E (cirG g)[k]]) Z Z Z Z Z Z Z Z RX (by simp only [Ψ];omega) Z Z Z Z) (AB Z Z (AD (AE (J (Ay Z Z (AT (k+1) (by omega)) Z) (goMv Z Z (AD ?_))))))));exact ⟨(k+1,T++ [E2 E (cirG g)[k]]),⟨hkl,by show _=((cirG g).take (k+1)).map _;rw [φ hkl,ωe,hT];rfl⟩,by show (cirG g).length - (k+1)<(cirG g).length - k;omega,A0 hF [11,10] Z (Z) ⟨Z,Z,Z,Z,Z,trivial⟩⟩
 ·refine BC (AC ?_);have hke:k=(cirG g).length:=by have:=h53;omega
  refine L3 (emb:=QC) 11 11 T Z Z Z Z Z Z Z ?_;rw [show T=cirL (rsP p) (entC p) by rw [hT,hke,ωw,←hgE];unfold cirL;rw [hcg.1,hcg.2.1]];refine AE (goMv Z Z (AB Z Z (AB Z Z (AD (A5 ?_)))));exact ⟨_,[],[],A3 Z,Z,Z,Z,Z⟩
abbrev Mi (p:Prb):List D:=[.sl none (p.ro.map CX),.sl none (p.it.map Ao)]
theorem cr {p:Prb} {M:MF} {b1 b4 b5:Nat} {cs:List D} {e x:Int} {v:D} (hc1:M b1=some (.cells 39 (Mi p))) (hc4:M b4=some (.cells 32 cs)) (hcl:cs.length=5) (hc5:M b5=some (.cells 33 [AF e])) (h45:b5≠b4) (hv:v.one=true) (hr:AO Tryz.prog 39 [.d (Bq p)] (.tup [v,AF x])):
  AM Tryz.prog 41 [.d (pD b1 0),.d (pD b4 0),.d (pD b5 0)] [(41,[.multi M])] fun r H'=>r= .tup []∧H'=[(41,[.multi (BO (BO M b4 (.cells 32 (cs.set 0 v))) b5 (.cells 33 [AF x]))])]:=by
 refine Az Tryz.func41 Z Z Tryz.ntmps41 Z Z Z fun F hF=>(AE ?_);refine J (Cv (f:=41) (n:=2) Z Z hc1 B2 Z Z (fun c hc=>by rcases Φ.1 hc with rfl | hc;rfl;rcases Φ.1 hc with rfl | hc;rfl;cases hc) Z) (J (B4 (hr) Z Z) (goMv Z Z (J (DD Z Z Z) (J (DD Z Z Z) (J (CQ Z fi32_0 Z Z Z) (V (O2 (f:=41) (off:=0) Z Z hv Z hc4 (by omega) Z Ce) (V (O2 (f:=41) (off:=0) Z Z Z Z (by rw [FP h45];exact hc5) (by simp) Z ZF) (AD ?_))))))));exact ⟨_,[41],_,A3 Z,Z,Z,Z,Z⟩
theorem ana2_c {p:Prb} {M:MF} {b1 b4 b5:Nat} {cs:List D} {e x:Int} {v:D} (hc1:M b1=some (.cells 39 (Mi p))) (hc4:M b4=some (.cells 32 cs)) (hcl:cs.length=5) (hc5:M b5=some (.cells 33 [AF e])) (h45:b5≠b4) (hv:v.one=true) (hr:AO Tryz.prog 43 [.d (Bq p)] (.tup [v,AF x])):
  AM Tryz.prog 42 [.d (pD b1 0),.d (pD b4 0),.d (pD b5 0)] [(41,[.multi M])] fun r H'=>r= .tup []∧H'=[(41,[.multi (BO (BO M b4 (.cells 32 (cs.set 1 v))) b5 (.cells 33 [AF x]))])]:=by
 refine Az Tryz.func42 Z Z Tryz.ntmps42 Z Z Z fun F hF=>(AE ?_);refine J (Cv (f:=41) (n:=2) Z Z hc1 B2 Z Z (fun c hc=>by rcases Φ.1 hc with rfl | hc;rfl;rcases Φ.1 hc with rfl | hc;rfl;cases hc) Z) (J (B4 (hr) Z Z) (goMv Z Z (J (DD Z Z Z) (J (DD Z Z Z) (J (CQ Z fi32_1 Z Z Z) (V (O2 (f:=41) (off:=1) Z Z hv Z hc4 (by omega) Z Ce) (V (O2 (f:=41) (off:=0) Z Z Z Z (by rw [FP h45];exact hc5) (by simp) Z ZF) (AD ?_))))))));exact ⟨_,[41],_,A3 Z,Z,Z,Z,Z⟩
theorem ana3_c {p:Prb} {M:MF} {b1 b4 b5:Nat} {cs:List D} {e x:Int} {v:D} {v0:D} (hc1:M b1=some (.cells 39 (Mi p))) (hc4:M b4=some (.cells 32 cs)) (hcl:cs.length=5) (hv0:cs[0]? =some v0) (hc5:M b5=some (.cells 33 [AF e])) (h45:b5≠b4) (hv:v.one=true) (hr:AO Tryz.prog 23 [.d (Bq p),.d v0] (.tup [v,AF x])):
  AM Tryz.prog 44 [.d (pD b1 0),.d (pD b4 0),.d (pD b5 0)] [(41,[.multi M])] fun r H'=>r= .tup []∧H'=[(41,[.multi (BO (BO M b4 (.cells 32 (cs.set 2 v))) b5 (.cells 33 [AF x]))])]:=by
 refine Az Tryz.func44 Z Z Tryz.ntmps44 Z Z Z fun F hF=>(AE (J (Cv (f:=41) (n:=2) Z Z hc1 B2 Z Z (fun c hc=>by rcases Φ.1 hc with rfl | hc;rfl;rcases Φ.1 hc with rfl | hc;rfl;cases hc) Z) (J (CQ Z fi32_0 Z Z Z) ?_)));refine J (Dn (f:=41) Z Z hc4 hv0 BI Z) (J (B4 (hr) Z Z) (goMv Z Z (J (DD Z Z Z) (J (DD Z Z Z) (J (CQ Z bu Z Z Z) (V (O2 (f:=41) (off:=2) Z Z hv Z hc4 (by omega) Z sz29) (V (O2 (f:=41) (off:=0) Z Z Z Z (by rw [FP h45];exact hc5) (by simp) Z ZF) (AD ?_))))))));exact ⟨_,[41],_,A3 Z,Z,Z,Z,Z⟩
theorem ana4_c {p:Prb} {M:MF} {b1 b4 b5:Nat} {cs:List D} {e x:Int} {v:D} (hc1:M b1=some (.cells 39 (Mi p))) (hc4:M b4=some (.cells 32 cs)) (hcl:cs.length=5) (hc5:M b5=some (.cells 33 [AF e])) (h45:b5≠b4) (hv:v.one=true) (hr:AO Tryz.prog 30 [.d (Bq p)] (.tup [v,AF x])):
  AM Tryz.prog 45 [.d (pD b1 0),.d (pD b4 0),.d (pD b5 0)] [(41,[.multi M])] fun r H'=>r= .tup []∧H'=[(41,[.multi (BO (BO M b4 (.cells 32 (cs.set 3 v))) b5 (.cells 33 [AF x]))])]:=by
 refine Az Tryz.func45 Z Z Tryz.ntmps45 Z Z Z fun F hF=>(AE ?_);refine J (Cv (f:=41) (n:=2) Z Z hc1 B2 Z Z (fun c hc=>by rcases Φ.1 hc with rfl | hc;rfl;rcases Φ.1 hc with rfl | hc;rfl;cases hc) Z) (J (B4 (hr) Z Z) (goMv Z Z (J (DD Z Z Z) (J (DD Z Z Z) (J (CQ Z fi32_3 Z Z Z) (V (O2 (f:=41) (off:=3) Z Z hv Z hc4 (by omega) Z sz29) (V (O2 (f:=41) (off:=0) Z Z Z Z (by rw [FP h45];exact hc5) (by simp) Z ZF) (AD ?_))))))));exact ⟨_,[41],_,A3 Z,Z,Z,Z,Z⟩
theorem ana5_c {p:Prb} {M:MF} {b1 b4 b5:Nat} {cs:List D} {e x:Int} {v:D} (hc1:M b1=some (.cells 39 (Mi p))) (hc4:M b4=some (.cells 32 cs)) (hcl:cs.length=5) (hc5:M b5=some (.cells 33 [AF e])) (h45:b5≠b4) (hv:v.one=true) (hr:AO Tryz.prog 31 [.d (Bq p)] (.tup [v,AF x])):
  AM Tryz.prog 46 [.d (pD b1 0),.d (pD b4 0),.d (pD b5 0)] [(41,[.multi M])] fun r H'=>r= .tup []∧H'=[(41,[.multi (BO (BO M b4 (.cells 32 (cs.set 4 v))) b5 (.cells 33 [AF x]))])]:=by
 refine Az Tryz.func46 Z Z Tryz.ntmps46 Z Z Z fun F hF=>(AE ?_);refine J (Cv (f:=41) (n:=2) Z Z hc1 B2 Z Z (fun c hc=>by rcases Φ.1 hc with rfl | hc;rfl;rcases Φ.1 hc with rfl | hc;rfl;cases hc) Z) (J (B4 (hr) Z Z) (goMv Z Z (J (DD Z Z Z) (J (DD Z Z Z) (J (CQ Z fi32_4 Z Z Z) (V (O2 (f:=41) (off:=4) Z Z hv Z hc4 (by omega) Z sz30) (V (O2 (f:=41) (off:=0) Z Z Z Z (by rw [FP h45];exact hc5) (by simp) Z ZF) (AD ?_))))))));exact ⟨_,[41],_,A3 Z,Z,Z,Z,Z⟩
abbrev CG:D:= .sl (some true) []
def anF:List FuncId:=[41,42,44,45,46]
def anD (b1 b4 b5:Nat) (g:FuncId):D:= .fn g [] [pD b1 0,pD b4 0,pD b5 0]
noncomputable def repV (p:Prb):List D:=[QC (largeS p),QC (Cp p),Xj (compL (rsP p) (Sp p (largeS p))),Xj (cirL (rsP p) (entC p)),.sl none ((bksL p).map bkD)]
noncomputable def repC (p:Prb) (k:Nat):List D:=(repV p).take k++List.replicate (5 - k) CG
theorem an_c {p:Prb} (hf:DW p) (hE:Ad p=0) {M:MF} {b1 b4 b5:Nat} {k:Nat} (hk:k<anF.length) (hc1:M b1=some (.cells 39 (Mi p))) (hc4:M b4=some (.cells 32 (repC p k))) (hc5:M b5=some (.cells 33 [AF 0])) (h45:b5≠b4):
  AM Tryz.prog anF[k] [.d (pD b1 0),.d (pD b4 0),.d (pD b5 0)] [(41,[.multi M])] fun r H'=>r= .tup []∧H'=[(41,[.multi (BO (BO M b4 (.cells 32 (repC p (k+1)))) b5 (.cells 33 [AF 0]))])]:=by
 have hlm:∀x∈largeS p,x∈p.it.map AK.id:=fun x hx=>PR hE hx;have hln:=F5 hE;have hll:=IL hE;have hi:=hf.i
 match k,hk with
 | 0,_=>exact cr hc1 hc4 Z hc5 h45 Z (Iu p hf hE)
 | 1,_=>exact ana2_c hc1 hc4 Z hc5 h45 Z (Sa p hf hE)
 | 2,_=>exact ana3_c hc1 hc4 Z Z hc5 h45 Z (comp_p p (largeS p) hf (by omega) (KB hE hln hlm) hE hln)
 | 3,_=>exact ana4_c hc1 hc4 Z hc5 h45 Z (YO p hf hE)
 | 4,_=>exact ana5_c hc1 hc4 Z hc5 h45 Z (YU p hf hE)
set_option maxHeartbeats 4000000 in
theorem Qb (p:Prb) (hf:DW p) (hE:Ad p≠0):AO Tryz.prog 12 [.d (Bq p)] (.tup [.agg [CG,CG,CG,CG,CG],AF (Ad p)]):=by
 refine Az Tryz.func12 Z Z Tryz.ntmps12 Z Z Z fun F hF=>(AC (AE ?_));refine V (CC 1 Z Z Z Z Z Z Z) (V (CD 2 Qq Z Z Z Z) (AB Z Z (AD (AC (AE (V (CD 4 Qq Z Z Z Z) (AD (AC ?_))))))));refine AE (V (CD 5 zl33 Z Z Z Z) (AD (AC (AC (Gl 41 Z Z Z (Y8 (ds:=Mi p) 1 1 41 hF Z Z Z Z Z Z Z Z Z Z Z (fun _=>rfl) fun b1 hb1=>(Y8 (ds:=[CG,CG,CG,CG,CG]) 4 4 41 hF Z Z Z Z Z Z Z Z Z Z Z (fun _=>rfl) fun b4 hb4=>(Y8 (ds:=[AF 0]) 5 5 41 hF Z Z Z Z Z Z Z Z Z Z Z (fun _=>rfl) fun b5 hb5=>?_))))))));have h41:b4≠b1:=fun e=>by rw [e,EX] at hb4;cases hb4
 have h54:b5≠b4:=fun e=>by rw [e,EX] at hb5;cases hb5
 have h51:b5≠b1:=fun e=>by rw [e,FP (Ne.symm h41),EX] at hb5;cases hb5
 refine AE (J (T8 (ds:=[]) (es:=[pD b1 0,pD b4 0,pD b5 0]) Z Z Z Z Z) (J (T8 (ds:=[]) (es:=[pD b1 0,pD b4 0,pD b5 0]) Z Z Z Z Z) ?_));refine J (T8 (ds:=[]) (es:=[pD b1 0,pD b4 0,pD b5 0]) Z Z Z Z Z) (J (T8 (ds:=[]) (es:=[pD b1 0,pD b4 0,pD b5 0]) Z Z Z Z Z) (J (T8 (ds:=[]) (es:=[pD b1 0,pD b4 0,pD b5 0]) Z Z Z Z Z) (V (D1 20 sl94 Z Z Z Z Z Z Z Z) (J (KM Z Tryz.underlying94 Z) (goMv Z Z (AD (A4 (B5 (α:=Nat×MF) (fun q=>⟨27,[(2,(.ptr 2 0 0)),(4,(.d (pD b4 0))),(5,(.d (pD b5 0))),(13,(.own 20 0 5)),(14,(.d (AF 5))),(15,(.d (AF (q.1:Int))))],[(20,[.rowD 1 1 (anF.map (anD b1 b4 b5))]),(2,[.blk 32 [.d CG,.d CG,.d CG,.d CG,.d CG]]),(41,[.multi q.2])]⟩) (fun q=>q.1=0∧q.2 b1=some (.cells 39 (Mi p))∧q.2 b4=some (.cells 32 [CG,CG,CG,CG,CG])∧q.2 b5=some (.cells 33 [AF 0])) (fun q=>5 - q.1) ((0,_)) (⟨Z,by show BO _ _ _ _=_;rw [FP (Ne.symm h51),FP (Ne.symm h41)];exact EX _ _ _,by show BO _ _ _ _=_;rw [FP (Ne.symm h54)];exact EX _ _ _,EX _ _ _⟩) (A0 hF [20,2,41] Z Z ⟨Z,Z,Z,Z,Z,Z,trivial⟩) ?_))))))));rintro ⟨k,M⟩ ⟨hk,hc1,hc4,hc5⟩;dsimp only at hk hc1 hc4 hc5⊢;subst hk;refine AC ?_;refine AE (J (BV Z Z Z) (AD (AC (DV Z (Z) (A1 (AC (A4 (AC ?_))))))));have hka:0<anF.length:=by decide
 have hM5:BO (BO M b4 (.cells 32 ([CG,CG,CG,CG,CG].set 0 CG))) b5 (.cells 33 [AF (Ad p)]) b5=some (.cells 33 [AF (Ad p)]):=EX _ _ _;have hac:AM Tryz.prog anF[0] _ _ _:=cr hc1 hc4 Z hc5 h54 Z (ST p hf hE);refine AE (J (Br (0) Z Z (Z) (by decide) Z Tryz.underlying94 sz1 Z) (J (Bw Z Z (Ah hka) Z on1 Z) (AB Z Z (AD (AC (AE (goMv Z Z ?_)))))));refine CY (Ol hac Z [41] ⟨Z,trivial⟩ Z Z Z Z (fun r H' ⟨e1,e2⟩=>by subst e1 e2;exact ⟨Z,Z,Z⟩) Z) Z ?_;rintro _ ⟨r,H',⟨e1,e2⟩,rfl⟩;subst e1 e2;refine AD (AC (AE (J (Dn (f:=41) Z Z hM5 Z on33 Z) (J (DX Z Z Z) (AD (DV Z (ωc hE) (AC ?_)))))));refine Cb [[],[],[0],[0,1,2]] mixed Z (Cr (AJ [] [] Z Z (fun _=>AG (FV Qq pl32 Z Z Z)) (AJ [5] [41] Z Z (fun _=>AG (Dn (f:=41) Z Z hM5 Z on33 Z)) (Gn [2,23] [2] [] Z Z (fun _=>Gp (Be Z Z Z Z Z Z Z ZG)) (.inl ⟨Z,Z⟩) Z Z Z Z Z (C3 3 Z Z Z (Aa 4 Z Z (AB Z Z (AD ⟨Z,?_⟩))))))));refine C9 (A5 ?_);exact ⟨_,[],_,A3 Z,Z,Z,Z,Z⟩
set_option maxHeartbeats 4000000 in
theorem Nr (p:Prb) (hf:DW p) (hE:Ad p=0):AO Tryz.prog 12 [.d (Bq p)] (.tup [.agg (repV p),AF 0]):=by
 refine Az Tryz.func12 Z Z Tryz.ntmps12 Z Z Z fun F hF=>(AC (AE ?_));refine V (CC 1 Z Z Z Z Z Z Z) (V (CD 2 Qq Z Z Z Z) (AB Z Z (AD (AC (AE (V (CD 4 Qq Z Z Z Z) (AD (AC ?_))))))));refine AE (V (CD 5 zl33 Z Z Z Z) (AD (AC (AC (Gl 41 Z Z Z (Y8 (ds:=Mi p) 1 1 41 hF Z Z Z Z Z Z Z Z Z Z Z (fun _=>rfl) fun b1 hb1=>(Y8 (ds:=[CG,CG,CG,CG,CG]) 4 4 41 hF Z Z Z Z Z Z Z Z Z Z Z (fun _=>rfl) fun b4 hb4=>(Y8 (ds:=[AF 0]) 5 5 41 hF Z Z Z Z Z Z Z Z Z Z Z (fun _=>rfl) fun b5 hb5=>?_))))))));have h41:b4≠b1:=fun e=>by rw [e,EX] at hb4;cases hb4
 have h54:b5≠b4:=fun e=>by rw [e,EX] at hb5;cases hb5
 have h51:b5≠b1:=fun e=>by rw [e,FP (Ne.symm h41),EX] at hb5;cases hb5
 refine AE (J (T8 (ds:=[]) (es:=[pD b1 0,pD b4 0,pD b5 0]) Z Z Z Z Z) (J (T8 (ds:=[]) (es:=[pD b1 0,pD b4 0,pD b5 0]) Z Z Z Z Z) ?_));refine J (T8 (ds:=[]) (es:=[pD b1 0,pD b4 0,pD b5 0]) Z Z Z Z Z) (J (T8 (ds:=[]) (es:=[pD b1 0,pD b4 0,pD b5 0]) Z Z Z Z Z) (J (T8 (ds:=[]) (es:=[pD b1 0,pD b4 0,pD b5 0]) Z Z Z Z Z) (V (D1 20 sl94 Z Z Z Z Z Z Z Z) (J (KM Z Tryz.underlying94 Z) (goMv Z Z (AD (A4 (B5 (α:=Nat×MF) (fun q=>⟨27,[(2,(.ptr 2 0 0)),(4,(.d (pD b4 0))),(5,(.d (pD b5 0))),(13,(.own 20 0 5)),(14,(.d (AF 5))),(15,(.d (AF (q.1:Int))))],[(20,[.rowD 1 1 (anF.map (anD b1 b4 b5))]),(2,[.blk 32 [.d CG,.d CG,.d CG,.d CG,.d CG]]),(41,[.multi q.2])]⟩) (fun q=>q.1≤5∧q.2 b1=some (.cells 39 (Mi p))∧q.2 b4=some (.cells 32 (repC p q.1))∧q.2 b5=some (.cells 33 [AF 0])) (fun q=>5 - q.1) ((0,_)) (⟨Δ _,by show BO _ _ _ _=_;rw [FP (Ne.symm h51),FP (Ne.symm h41)];exact EX _ _ _,by show BO _ _ _ _=_;rw [FP (Ne.symm h54)];exact EX _ _ _,EX _ _ _⟩) (A0 hF [20,2,41] Z Z ⟨Z,Z,Z,Z,Z,Z,trivial⟩) ?_))))))));rintro ⟨k,M⟩ ⟨hk,hc1,hc4,hc5⟩;dsimp only at hk hc1 hc4 hc5⊢;refine AC (AE (J (BV Z Z Z) (AD (AC (Ae Z (fun h16=>?_) (fun h16=>?_))))))
 ·refine A1 (AC (A4 (AC ?_)));have hkl:k<5:=Bf h16;have hka:k<anF.length:=hkl;have hM1:BO (BO M b4 (.cells 32 (repC p (k+1)))) b5 (.cells 33 [AF 0]) b1=some (.cells 39 (Mi p)):=by rw [FP (Ne.symm h51),FP (Ne.symm h41)];exact hc1
  have hM4:BO (BO M b4 (.cells 32 (repC p (k+1)))) b5 (.cells 33 [AF 0]) b4=some (.cells 32 (repC p (k+1))):=by rw [FP (Ne.symm h54)];exact EX _ _ _
  have hM5:BO (BO M b4 (.cells 32 (repC p (k+1)))) b5 (.cells 33 [AF 0]) b5=some (.cells 33 [AF 0]):=EX _ _ _;refine AE (J (Br (k) Z Z (Z) (hkl) Z Tryz.underlying94 sz1 Z) (J (Bw Z Z (Ah hka) Z on1 Z) (AB Z Z (AD (AC (AE (goMv Z Z ?_)))))));refine CY (Ol (an_c hf hE hka hc1 hc4 hc5 h54) Z [41] ⟨Z,trivial⟩ Z Z Z Z (fun r H' ⟨e1,e2⟩=>by subst e1 e2;exact ⟨Z,Z,Z⟩) Z) Z ?_;rintro _ ⟨r,H',⟨e1,e2⟩,rfl⟩;subst e1 e2;refine AD (AC (AE ?_));refine J (Dn (f:=41) Z Z hM5 Z on33 Z) (J (DX Z Z Z) (AD (EN Z (ωp (by decide)) (A1 (AE (J (Ay Z Z (AT (k+1) (by omega)) Z) (goMv Z Z (AD ?_))))))));exact ⟨(k+1,_),⟨by show k+1≤5;omega,hM1,hM4,hM5⟩,by show 5 - (k+1)<5 - k;omega,A0 hF [20,2,41] Z (Z) ⟨Z,Z,Z,Z,Z,Z,trivial⟩⟩
 ·refine BC (AC ?_);have hke:k=5:=by have:=h16;omega
  subst hke;refine AE (J (Cv (f:=41) (n:=5) Z Z hc4 rw32 Z Z (fun c hc=>by have h5:c∈repV p:=hc;unfold repV at h5;simp only [Φ,List.not_mem_nil,or_false] at h5;rcases h5 with rfl | rfl | rfl | rfl | rfl<;>rfl) Z) (V (Be Z Z Z Z Z Z Z ZG) (AB Z Z (AD (A5 ?_)))));exact ⟨_,[],_,A3 Z,Z,Z,Z,Z⟩
theorem TL {n:Nat} {C:Nat ->Nat ->Prop} (hn:0<n) (h:∀i j,i<n ->j<n ->C i j):clsN n C=[List.range n]:=by
 unfold clsN
 have h1:((List.range n).filter fun k=>dec (∀j,j<k ->¬C k j))=[0]:=by
  obtain ⟨m,rfl⟩:∃m,n=m+1:=⟨n - 1,by omega⟩
  rw [List.range_succ_eq_map,ψv,θ (cR fun j hj=>absurd hj (Nat.not_lt_zero j)),List.filter_map]
  have h2:(List.range m).filter ((fun k=>dec (∀j,j<k ->¬C k j))∘Nat.succ)=[]:=List.filter_eq_nil_iff.2 fun k hk=>by
   have hkm:=Θ.1 hk;show ¬dec (∀j,j<k+1 ->¬C (k+1) j)=true;rw [E6];exact fun hh=>hh 0 (Nat.succ_pos k) (h _ _ (by omega) (by omega))
  rw [h2];rfl
 rw [h1,φi,List.filter_eq_self.2 fun j hj=>cR (h 0 j hn (Θ.1 hj))]
theorem cd (g:List (List Nat)):cirG g=lgs (clsN g.length (H3 g)):=rfl
theorem grW_suc {rs:List AP} {E:List (AK×Nat)} {i j:Nat}:j∈sucs (grW rs E) i↔i<E.length∧j<E.length∧dN rs (Dg E i) (Dg E j):=by
 by_cases hi:i<E.length
 ·rw [Dy (by rw [Dt];exact hi)];have e:(grW rs E)[i]'(by rw [Dt];exact hi)=toK rs E (E[i]).1 E.length:=by simp [grW]
  rw [e,←Df hi];unfold toK;rw [Ω,Θ,ωs];exact ⟨fun h=>⟨hi,h.1,h.2⟩,fun h=>⟨h.2.1,h.2.2⟩⟩
 ·refine ⟨fun h=>?_,fun h=>absurd h.1 hi⟩;unfold sucs at h;rw [ϱ,ωv (by rw [Dt];omega)] at h
  cases h
theorem R8 {n:Nat} {suc:Nat ->List Nat} {nx:Nat ->Nat} (h:∀i,i<n ->nx i∈suc i) {P:Nat ->Nat} (hP:∀i,i<n ->P i<n) (hs:∀m,m<n ->nx (P m)=P ((m+1) % n)) (hsur:∀i,i<n ->∃m,m<n∧P m=i):∀i j,i<n ->j<n ->Rh suc i j:=by
 have step:∀d m,m<n ->Rh suc (P m) (P ((m+d) % n)):=fun d m hm=>by
  induction d with
  | zero=>rw [χn,Nat.mod_eq_of_lt hm];exact .refl _
  | succ d ih=>
   have hlt:=Nat.mod_lt (m+d) (by omega:n>0);have h1:=h _ (hP _ hlt);rw [hs _ hlt,Nat.mod_add_mod] at h1;exact .step ih h1
 intro i j hi hj;obtain ⟨a,ha,rfl⟩:=hsur i hi;obtain ⟨b,hb,rfl⟩:=hsur j hj;have:=step (b+n - a) a ha
 rwa [show a+(b+n - a)=b+n by omega,Nat.add_mod_right,Nat.mod_eq_of_lt hb] at this
def bY:List AK:=[OM 1 [65] [66] 5,OM 2 [66] [67] 5,OM 3 [67] [65] 5,OM 4 [65] [68] 4]
def kK:Prb:=⟨Ps,bY⟩
theorem U2:Ad kK=0:=by decide
theorem kK_F:DW kK:=⟨by decide,by decide,by decide⟩
theorem kK_R:rosS kK=Ps:=(Zk U2 (List.Perm.refl _) (by decide)).symm
theorem bT:ordP kK=bY:=by decide
theorem kK_L:largeS kK=[1,2,3]:=by
 unfold largeS Js;rw [kK_R,bT];exact ωy (by kernel_rfl)
theorem kK_G:Cp kK=[]:=by
 unfold Cp;rw [kK_R,bT];exact ωy (by kernel_rfl)
def eK:List (AK×Nat):=[(OM 1 [65] [66] 5,0),(OM 2 [66] [67] 5,0),(OM 3 [67] [65] 5,0)]
theorem kK_e1:Sp kK [1,2,3]=eK:=by
 unfold Sp;rw [←show ordP kK=sortO kK.it from θ U2,bT]
 rfl
theorem kK_e2:entC kK=eK:=by
 unfold entC;rw [←show ordP kK=sortO kK.it from θ U2,bT,kK_L,kK_G]
 rfl
theorem kK_rs:∀r∈rsP kK,BJ r=0:=by decide
theorem kK_w {i j:Nat} (hi:i<3) (hj:j<3) (h:decide (∃r∈rsP kK,Bg (Dg eK i) r<0∧0<Bg (Dg eK j) r)=true):dN (rsP kK) (Dg eK i) (Dg eK j):=
 (wt_iff kK_rs (by match i,hi with | 0,_=>decide | 1,_=>decide | 2,_=>decide) (by match j,hj with | 0,_=>decide | 1,_=>decide | 2,_=>decide)).2 (.inr (ωy h))
theorem wt_int {rs:List AP} {a b:AK} (h:dN rs a b):Qj rs a b:=by
 rcases h with ⟨d,hd,h1,h2⟩ | h
 ·refine .inr (.inr ⟨d.1,χv hd,?_⟩);refine Decidable.byContradiction fun hn=>?_;rw [II hn] at h2;exact absurd h2 (by decide)
 ·exact .inl h
def nxK:Nat ->Nat
 | 0=>2
 | 1=>0
 | _=>1
theorem WN (i:Nat) (hi:i<3):nxK i<3∧dN (rsP kK) (Dg eK i) (Dg eK (nxK i)):=by
 match i,hi with
 | 0,_=>exact ⟨by decide,kK_w (by decide) (by decide) (by decide)⟩
 | 1,_=>exact ⟨by decide,kK_w (by decide) (by decide) (by decide)⟩
 | 2,_=>exact ⟨by decide,kK_w (by decide) (by decide) (by decide)⟩
def oK:Nat ->Nat
 | 0=>0
 | 1=>2
 | _=>1
theorem kK_cir:cirL (rsP kK) eK=[[1,2,3]]:=by
 have h:∀i j,i<3 ->j<3 ->Rh (sucs (grW (rsP kK) eK)) i j:=R8 (nx:=nxK) (P:=oK) (fun i hi=>grW_suc.2 ⟨hi,(WN i hi).1,(WN i hi).2⟩) (by decide) (by decide) (by decide);unfold cirL;rw [cd,Dt,show eK.length=3 from rfl,TL (by decide) fun i j hi hj=>⟨h i j hi hj,h j i hj hi⟩]
 decide
theorem kK_com:compL (rsP kK) eK=[[1,2,3]]:=by
 have h:∀i j,i<3 ->j<3 ->Rh (nbI (rsP kK) eK) i j:=R8 (nx:=nxK) (P:=oK) (fun i hi=>Ds.2 ⟨hi,(WN i hi).1,wt_int (WN i hi).2⟩) (by decide) (by decide) (by decide);unfold compL;rw [show eK.length=3 from rfl,TL (C:=Cn (rsP kK) eK) (by decide) h]
 decide
theorem bS:linL kK=Ps.map (Dx kK):=(WJ U2 (List.Perm.refl _) (by decide)).symm
theorem bR (i:Int) (h:(BK kK i).af=[]):req kK i=(Ps.map (Dx kK)).flatMap (EZ i):=by
 unfold req;rw [h,bS];unfold UK;rw [XL];rfl
theorem kK_clo:cloS kK [4]=[1,4]:=by
 have h4:req kK 4=[⟨4,1,rcK 65⟩]:=by rw [bR 4 (by decide)];exact ωy (by kernel_rfl)
 have h1:req kK 1=[]:=by rw [bR 1 (by decide)];exact ωy (by kernel_rfl)
 rw [←W9 (C:=[4,1]) U2 (by decide) (by decide) fun x=>?_]
 ·exact (RU (List.Perm.swap _ _ _) (by decide)).symm
 ·constructor
  ·intro h;rcases Φ.1 h with rfl | h
   ·exact .base (by decide)
   ·rw [ξ.1 h];exact Tl.step (b:=⟨4,1,rcK 65⟩) (i:=4) (.base (by decide)) (by rw [h4];exact ξ.2 Z)
  ·intro h
   induction h with
   | base h=>rw [ξ.1 h];decide
   | step _ hb ih=>
    rcases Φ.1 ih with rfl | ih
    ·rw [h4] at hb;rw [ξ.1 hb];decide
    ·rw [ξ.1 ih,h1] at hb;cases hb
theorem kK_v:vio1L kK 4=[⟨rcK 65,9⟩]:=by
 unfold vio1L Ig;rw [kK_clo,bS];exact ωy (by kernel_rfl)
theorem kK_blk:bksL kK=[(4,⟨rcK 65,9⟩)]:=by
 unfold bksL;rw [←show ordP kK=sortO kK.it from θ U2,bT];have h1:∀id∈([1,2,3]:List Int),bkOf kK id=none:=fun id h=>KE (by rw [kK_L];exact h)
 have h4:bkOf kK 4=some (4,⟨rcK 65,9⟩):=by
  unfold bkOf;rw [kK_L,kK_v,ϑ (by decide)];rfl
 show ([1,2,3,4]:List Int).filterMap (bkOf kK)=_;rw [List.filterMap_cons,h1 1 (by decide),List.filterMap_cons,h1 2 (by decide),List.filterMap_cons,h1 3 (by decide),List.filterMap_cons,h4]
 rfl
theorem kK_rep:repV kK=[QC [1,2,3],QC [],Xj [[1,2,3]],Xj [[1,2,3]],.sl none (([(4,⟨rcK 65,9⟩)]:List (Int×Roo)).map bkD)]:=by
 unfold repV;rw [kK_L,kK_G,kK_e1,kK_e2,kK_com,kK_cir,kK_blk]
end Go.Proofs.YteifpcnphnhaoaaGreat
