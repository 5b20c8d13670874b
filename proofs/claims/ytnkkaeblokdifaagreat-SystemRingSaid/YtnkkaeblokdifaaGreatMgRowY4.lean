/- Proved here: systemRing_holds, the given statement Rows.SystemRingSaid: the law girotop.SystemRing returns true and does not panic, at every input that the statement speaks of; no condition beyond the statement. -/
/- 'girotop.SystemRing': for every input the law returns true, and each argument reads behind the call as it read before. No condition. -/
import Derived.Test.YtnkkaeblokdifaaGreatMg25
open Go.Proofs.Tryz
namespace Go.Proofs.YtnkkaeblokdifaaGreat
open Go.RowKit Go.Shelf
theorem Xb:AM prog 17 [] (.raw (.bool true)):=by
 have a:=Xa
 have b:AM prog 46 [] (.raw (.bool true)):=by
  refine Av func46 Z Z ntmps46 Z Z Z λF c=>(AC ?_);refine AE (AB Z Z (AD (AC (AE (J (B5 (a) Z Z) (AB Z Z (AD (A6 ?_))))))));exact ⟨_,[],[],A4 Z,Z,Z,Z,Z⟩
 refine Av func17 Z Z ntmps17 Z Z Z λF c=>(AC ?_);refine AE (AB Z Z (AD (AC (AE (J (B5 (b) Z Z) (AB Z Z (AD (A6 ?_))))))));exact ⟨_,[],[],A4 Z,Z,Z,Z,Z⟩
set_option maxRecDepth 100000 in
set_option maxHeartbeats 4000000 in
theorem j1 (m:Nat) (a r:Int) (s:List UInt8) (M:m<256) (K:s.length<=140737488355328):AM prog 6 [.d (.raw (.int .u8 (m:Int))),.d (AF a),.d (AF r),.d (Qh s)] (.raw (.bool true)):=by
 have f:=Xb;have O:=fj m (by omega:8>0)
 obtain ⟨k,N⟩:∃k,2+m % 8=k:=⟨_,Z⟩
 have b:2<=k/\k<=9:=by omega
 by_cases t:1<=a/\a<=1000000000000/\0<=r/\s.length<=20
 .obtain ⟨l,j,G,P⟩:=t;have h:=Int.emod_nonneg r (by omega:a≠0);have g:=Int.emod_lt_of_pos r (by omega:0<a);have E:=Ij (s:=s) b (κ k) ⟨l,j⟩ ⟨h,g⟩;have w:=Ij (s:=s) b (Nat.sub_le k 1) ⟨l,j⟩ ⟨h,g⟩;have v:=M0 (a:=a) (r:=r % a) (s:=s) b (κ k);have u:=M0 (a:=a) (r:=r % a) (s:=s) b (Nat.sub_le k 1);have I:=Z1 k 0 k a (r % a) s b (by omega) ⟨l,j⟩ (by omega);have H:=Z1 k 1 (k - 1) a (r % a) s b (by omega) ⟨l,j⟩ (by omega);have B:=Nk _ v E;obtain ⟨L,R,c,o,D,C⟩:=Z0 (s:=s) b ⟨l,j⟩ ⟨h,g⟩;rw [o] at B;have A:=G9 _ u w;rw [XC b ⟨l,j⟩ ⟨h,g⟩] at A;have i:r.tmod a=r % a:=Int.tmod_eq_emod_of_nonneg G;refine Av func6 Z Z ntmps6 Z Z Z λF v=>(AC (AE (AB Z Z (AD (AC ?_)))));refine AC (AE (J (B5 (f) Z Z) (J (CF Z Z) (cl Z Z (Ex 17 Z (Z) (Aa Z Z Z (cl Z Z (Aa Z Z Z ?_))))))));refine J (BW Z Z Z) (J (DT Z Z Z Z) (cl Z Z (Ex 21 Z (dw (by omega)) (Aa Z Z Z (cl Z Z (Aa Z Z Z (J (Pf Z Z Z) (J (DT Z Z Z Z) ?_))))))));refine cl Z Z (Ex 25 Z (dw (by omega)) (Aa Z Z Z (cl Z Z (Aa Z Z Z (J (BW Z Z Z) (J (DT Z Z Z Z) (cl Z Z (Ex 29 Z (dw (by omega)) ?_))))))));refine Aa Z Z Z (cl Z Z (Aa Z Z Z (J (JB Z (ψ ..) underlying60 Z) (Aa Z Z Z (J (Pf Z Z Z) (J (DT Z Z Z Z) (AD (EV Z (dw (by omega)) ?_))))))));refine AZ (AC (AE (cl Z Z (J (MP Z Z (by omega) (Tj m 8) Z) (J (VP Z underlying5 underlying3 (Ξ _ (by omega)) Z) (J (Aw Z Z ((by rw [show (2:Int)+((m % 8:Nat):Int)=(k:Int) by omega];exact AQ k (by omega):IntKind.i64.wrap (2+((m % 8:Nat):Int))=(k:Int))) Z) (AB Z Z (AD ?_))))))));refine AC (AE (cl Z Z (cl Z Z (cl Z Z (cl Z Z (J (MP Z Z (by omega) (i) Z) (cl Z Z (J (B5 (I) Z Z) ?_))))))));refine V (CE 10 iD Z Z Z Z) (V (Bk Z Z Z Z Z Z Z pQ) (AD (AC (AE (J (B1 Z Z Bc Z Z Z) (J (B5 (B) Z Z) (cl Z Z (J (Ds Z Z Z) ?_))))))));refine J (Ds Z Z Z) (V (CE 11 iC Z Z Z Z) (V (Bk Z Z Z Z Z Z Z mX) (AB Z Z (AD (AC (AC (AE (cl Z Z ?_))))))));refine J (EO Z Z Z) (cl Z Z (Ex 53 Z (Z) (Aa Z Z Z (J (A1 Z fU Z Z Z) (Aa Z Z Z (J (A5 Z Z Z BI Z) (Aa Z Z Z (J (JB Z (ψ ..) E0 Z) ?_))))))));refine Aa Z Z Z (cl Z Z (Aa Z Z Z (J (EO Z Z Z) (J (DT Z Z Z Z) (cl Z Z (Ex 60 Z (by rw [D];simp) (Aa Z Z Z (J (A1 Z gE Z Z Z) ?_))))))));refine Aa Z Z Z (J (A5 Z Z Z BI Z) (Aa Z Z Z (J (CV Z E0 Z) (Aa Z Z Z (J (EO Z Z Z) (J (DT Z Z Z Z) (cl Z Z (Ex 66 Z (Z) ?_))))))));refine Aa Z Z Z (J (A1 Z fT Z Z Z) (Aa Z Z Z (J (A5 Z Z Z jJ Z) (Aa Z Z Z (J (CV Z Ri Z) (Aa Z Z Z (J (EO Z Z Z) (J (DT Z Z Z Z) ?_))))))));refine cl Z Z (Ex 72 Z (Z) (Aa Z Z Z (J (A1 Z fT Z Z Z) (Aa Z Z Z (J (A5 Z Z Z jJ Z) (Aa Z Z Z (J (Bq (0) Z Z (Z) (Z) Ri Z Ca Z) (Aa Z Z Z ?_))))))));refine J (EJ Z Z BI Z) (Aa Z Z Z (J (JB Z (ψ ..) E0 Z) (Aa Z Z Z (cl Z Z (Aa Z Z Z (J (EO Z Z Z) (J (DT Z Z Z Z) (cl Z Z ?_))))))));refine Ex 81 Z (by rw [C];simp) (Aa Z Z Z (J (A1 Z fB Z Z Z) (Aa Z Z Z (J (A5 Z Z Z jI Z) (Aa Z Z Z (J (CV Z underlying63 Z) (Aa Z Z Z (J (EO Z Z Z) ?_))))))));refine J (DT Z Z Z Z) (AD (EV Z (Z) (AZ (AC (AE (cl Z Z (cl Z Z (cl Z Z ?_))))))));refine cl Z Z (J (MP Z Z (by omega) (i) Z) (cl Z Z (J (B5 (H) Z Z) (J (B5 (A) Z Z) (cl Z Z (J (Ds Z Z Z) (J (Ds Z Z Z) (AB Z Z ?_))))))));refine AB Z Z (AD (AC (AE (cl Z Z (J (MB Z Z Z) (cl Z Z (G6 100 Z (Z) (Aa Z Z Z ?_))))))));refine cl Z Z (Aa Z Z Z (J (CV Z E0 Z) (Aa Z Z Z (J (MB Z Z Z) (J (FL Z Z Z Z) (AB Z Z (AD (A6 ?_))))))));exact ⟨_,[],[],A4 Z,Z,Z,Z,Z⟩
 .have Q:=t;refine Av func6 Z Z ntmps6 Z Z Z λF v=>?_;refine AC (AE (AB Z Z (AD (AC (AC (AE (J (B5 (f) Z Z) (J (CF Z Z) ?_))))))));refine cl Z Z (Ex 17 Z (Z) (Aa Z Z Z (cl Z Z (Aa Z Z Z (J (BW Z Z Z) (J (DT Z Z Z Z) (cl Z Z (Id 21 Z (λz=>?_) (λz=>?_)))))))));refine A8 Z Z Z Z (A8 Z Z Z Z (J (FL Z Z Z Z) (cl Z Z (A8 Z Z Z Z ?_))));refine A8 Z Z Z Z (J (FL Z Z Z Z) (cl Z Z (A8 Z Z Z Z (A8 Z Z Z Z (A8 Z Z Z Z (J (FL Z Z Z Z) (AD (Dt Z Z ?_))))))))
  rotate_left
  refine Aa Z Z Z (cl Z Z (Aa Z Z Z (J (Pf Z Z Z) (J (DT Z Z Z Z) (cl Z Z (Id 25 Z (λy=>?_) (λy=>?_)))))));refine A8 Z Z Z Z ?_;refine A8 Z Z Z Z (J (FL Z Z Z Z) (cl Z Z (A8 Z Z Z Z (A8 Z Z Z Z (A8 Z Z Z Z (J (FL Z Z Z Z) (AD (Dt Z Z ?_))))))))
  rotate_left
  refine Aa Z Z Z (cl Z Z (Aa Z Z Z (J (BW Z Z Z) (J (DT Z Z Z Z) (cl Z Z (Id 29 Z (λx=>?_) (λx=>?_)))))));refine A8 Z Z Z Z (A8 Z Z Z Z (A8 Z Z Z Z (J (FL Z Z Z Z) (AD (Dt Z Z ?_)))))
  rotate_left
  refine Aa Z Z Z (cl Z Z (Aa Z Z Z (J (JB Z (ψ ..) underlying60 Z) (Aa Z Z Z (J (Pf Z Z Z) (J (DT Z Z Z Z) (AD (Dt Z (dm (by omega)) ?_))))))))
  all_goals
   refine AC (AE (J (B5 (f) Z Z) (AB Z Z (AD (A6 ?_)))));exact ⟨_,[],[],A4 Z,Z,Z,Z,Z⟩
end Go.Proofs.YtnkkaeblokdifaaGreat
namespace Go.Proofs.YtnkkaeblokdifaaGreat
open Go.ChangeShapes Go.WideShapes Go.ChangeAt Go.RowKit
set_option maxRecDepth 100000 in
theorem systemRing_lifted (M:Os) (f:M.Started) (H:Type) (enc:TypeId×Value ->H):
  ReturnsInHanded {} Tryz.checked M 6 .any (Rows.systemRingSpec.pre6 enc prog Tryz.f6 Rows.systemRingRow.domain false) (Rows.systemRingSpec.post enc prog Tryz.f6 false true false false):=by
 refine returnsInHanded_of_change_sized (C:=Tryz.checked) Tryz.own f (by kernel_rfl) func6
  (ChangeSpec.witness6 (enc:=enc) (C:=Tryz.checked) false ⟨#[], #[.int .u8 0,.int .i64 0,.int .i64 0,.slice none 0 0],[]⟩ 8 (by kernel_rfl) (by kernel_rfl) (by kernel_rfl) (by kernel_rfl)) ?_
 intro W w y ds gs E s N _ F _;have u:=N;obtain ⟨p,q,L,hV,rfl,_,_⟩:=N;have l:∀x∈p++q,x.block<W.heap.size:=λx g=>u.lt x g;have O:DataW.TrodAll enc prog W 0 (λ_=>true) true Tryz.f6.params.toList y.toList ds p:=L;rw [Tryz.params6] at O;obtain ⟨D,B,A,z,d0,d1,d2,d3,p0,p1,p2,p3,rfl,rfl,rfl,h0,h1,h2,Y⟩:=trodAll_four O;obtain ⟨rfl,rfl⟩:=trodVars_none hV;have h:∀n∈DataW.weightsEach prog ([5,2,2,60]:List TypeId) ([d0,d1,d2,d3]),n<=reachBytes:=λn k=>fb (gX.1 F n (by rw [Tryz.params6];exact k));have c:∀(j:Nat) t v,Tryz.f6.params[j]? =some t ->(#[D,B,A,z]:Array Value)[j]? =some v ->Value.okWide prog W .any w t v:=s;rw [Tryz.params6] at c;obtain ⟨n0,g0⟩:=h0;have K:D.oneCell'=true:=by obtain ⟨_,e⟩:=okWide_int underlying5 (c 0 5 D Z Z);rw [e];rfl
 obtain ⟨P,q0,_,T⟩:=(Rn underlying5) _ _ _ g0 (λx g=>l x (by simp [g])) (λn k=>h n (DataW.weights_mem_each (j:=0) (t:=5) Z Z n k));obtain ⟨n1,g1⟩:=h1;have J:B.oneCell'=true:=by obtain ⟨_,e⟩:=okWide_int underlying2 (c 1 2 B Z Z);rw [e];rfl
 obtain ⟨a1,q1,_,S⟩:=(V4 underlying2) _ _ _ g1 (λx g=>l x (by simp [g])) (λn k=>h n (DataW.weights_mem_each (j:=1) (t:=2) Z Z n k));obtain ⟨n2,g2⟩:=h2;have I:A.oneCell'=true:=by obtain ⟨_,e⟩:=okWide_int underlying2 (c 2 2 A Z Z);rw [e];rfl
 obtain ⟨a2,q2,_,R⟩:=(V4 underlying2) _ _ _ g2 (λx g=>l x (by simp [g])) (λn k=>h n (DataW.weights_mem_each (j:=2) (t:=2) Z Z n k));obtain ⟨n3,g3⟩:=Y;have G:z.oneCell'=true:=by obtain ⟨_,_,_,e⟩:=okWide_slice underlying60 (c 3 60 z Z Z);rw [e];rfl
 obtain ⟨a3,U,_,Q⟩:=(mr underlying60 (by kernel_rfl) (by omega) (b:=1) (by kernel_rfl) (Rn underlying5)) _ _ _ g3 (λx g=>l x (by simp [g])) (λn k=>h n (DataW.weights_mem_each (j:=3) (t:=60) Z Z n k));refine (X4 (j1 P.toNat a1 a2 a3 (UInt8.toNat_lt P) (by have:=U.2;omega)) (vs:=[D,B,A,z]) Z (λi a v o r=>?_)).mono λe W' ⟨V,X⟩=>?_
 .rcases i with _ | _ | _ | _ | i
  .simp at o r;subst o r;exact Nr.arg1 Z Z K T
  .simp at o r;subst o r;exact Nr.arg1 Z Z J S
  .simp at o r;subst o r;exact Nr.arg1 Z Z I R
  .simp at o r;subst o r;exact Nr.arg1 Z Z G Q
  .simp at o
 subst V;exact ⟨_,Z,ao (tb:=4) Tryz.laidOut (by kernel_rfl) Z Z underlying4 u ⟨Z,Z,Z⟩ X⟩
theorem si:(Rows.systemRingRow.inPlace==prog.inPlace 6)=true:=by kernel_rfl
theorem sh:(Rows.systemRingRow.unfollowed==prog.unfollowed 6)=true:=by kernel_rfl
theorem sg:(Rows.systemRingRow.recurses==prog.recurses 6)=true:=by kernel_rfl
theorem sf:(Rows.systemRingRow.named==prog.varsNamed 6)=true:=by kernel_rfl
theorem se:joinedFacts prog 6 Tryz.f6 Rows.systemRingSpec Rows.systemRingRow=true:=by
 unfold joinedFacts;rw [si,sh,sg,sf]
 kernel_rfl
theorem systemRing_holds:Rows.SystemRingSaid:=
 OpenClaim.holds_of_wide 6 Tryz.f6 Z Z Z Z Z Z Z ⟨Z,Z,Z,Z,Z⟩ Z Z Z Z Z (by kernel_rfl) func6 se
  (fb (by kernel_rfl)) (by unfold Func.isWrapper;first | (rw [ϖ (by decide+kernel)];kernel_rfl) | (rw [η (by decide+kernel)];exact ⟨Z,Z⟩))
  (λc a H b _=>systemRing_lifted c a H b)
#print axioms systemRing_holds
end Go.Proofs.YtnkkaeblokdifaaGreat
