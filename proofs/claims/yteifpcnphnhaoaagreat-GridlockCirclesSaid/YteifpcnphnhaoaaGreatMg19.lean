import Derived.Test.YteifpcnphnhaoaaGreatMg18
namespace Go.Proofs.YteifpcnphnhaoaaGreat
open Go.RowKit
set_option maxRecDepth 100000
abbrev Ai (b:Bool):D:= .raw (.bool b)
def BC {α:Type} (l:List α):List (α×Bool):=l.map fun a=>(a,true)
theorem Wd {α:Type} [DecidableEq α] (l:List α) (a:α):A7 (BC l) a false=decide (a∈l):=by
 induction l with
 | nil=>rfl
 | cons b l ih=>
  simp only [BC,ωm,A7]
  by_cases h:a=b
  ·rw [θ h];simp [h]
  ·rw [ϑ h];simp only [BC] at ih;rw [ih];simp [h]
theorem cg {α:Type} [DecidableEq α] {l:List α} {a:α} (h:a∉l):Aw (BC l) a true=BC (l++ [a]):=by
 induction l with
 | nil=>rfl
 | cons b l ih=>
  simp only [Ψ,not_or] at h;simp only [BC,ωm,φi,Aw];rw [ϑ h.1];have:=ih h.2;simp only [BC] at this;rw [this]
def DX:A2:=⟨⟨0,TZ,[],[]⟩,0⟩
def Pu (l:List A2) (k:Nat):Int:=if B4 (l.getD k DX).r≠0 then B4 (l.getD k DX).r else if ¬(-4*Mx≤(l.getD k DX).n∧(l.getD k DX).n≤4*Mx) then 12 else if (l.getD k DX).r∈(l.take k).map A2.r then 7 else 0
def Ey (l:List A2):Int:=Bg ((List.range l.length).map (Pu l))
theorem CY {α:Type} {l:List α} {k:Nat} (d:α) (h:k<l.length):l.getD k d=l[k]:=by rw [ϖ,ω h];rfl
theorem DQ {α β:Type} {l:List α} {f:α ->β} {k:Nat} (hk:k<l.length):(l.take (k+1)).map f=(l.take k).map f++ [f l[k]]:=by rw [φ hk,ωc];rfl
theorem rooms_p (p:Prb) (hl:p.ro.length≤100000):AO Tryz.prog 129 [.d (Bs p)] (AF (Ey p.ro)):=by
 refine BB Tryz.func129 Z Z Tryz.ntmps129 Z Z Z fun F hF=>(AC (AE ?_));refine V (Bz 1 Z Z Z Z Z Z Z) (AB Z Z (AD (AC (AE (V (Pb 2 Z Z Z Z) (AB Z Z (AD (AC ?_))))))));refine AC (AE (J (A4 Z Fp Z Z Z) (J (A9 Z Z Z Rm Z) (J (CO Z Tryz.underlying36 Z) (goMv Z Z (AD (A5 (B7 (α:=Nat) (fun k=>⟨35,[(3,(.map 2 0)),(9,(.d (.sl none (p.ro.map Cy)))),(10,(.d (AF (p.ro.length:Int)))),(11,(.d (AF (k:Int))))],[(2,[BL C1 Ai (BC ((p.ro.take k).map A2.r))])]⟩) (fun k=>k≤p.ro.length∧Ey p.ro=Bg (((List.range p.ro.length).drop k).map (Pu p.ro))) (fun k=>p.ro.length - k) (0) (⟨ς _,Z⟩) (A1 hF [2] Z Z ⟨Z,Z,Z,Z,trivial⟩) ?_))))))));rintro k ⟨hk0,hk⟩;refine AC (AE (J (BR Z Z Z) (AD (AC (Ae Z (fun h12=>?_) (fun h12=>?_))))))
 ·have hk1:k<p.ro.length:=Bf h12;refine A3 (AC (A5 (AC (AE ?_))));have hE:=EJ hk1 hk;have hgd:=CY DX hk1;refine J (Be (k) Z Z (Z) (Ah hk1) Tryz.underlying36 Z OG Z) ?_;refine J (HE Z Z ZW Z) (V (CF 3 Qn Z Z Z Z) (V (Bi Z Z Z Z Z Z Z OG) (AD (AC (AC (AE (J (A4 Z FG Z Z Z) (J (BM Z Z C7 Z Z Z) ?_))))))));refine J (B2 (VI p.ro[k].r) Z Z) (AB Z Z (AD (AC (AE (goMv Z Z (J (D6 Z Z Z) (AD (Ae Z (fun h19=>?_) (fun h19=>?_)))))))))
  ·refine AC (AE (goMv Z Z (AB Z Z (AD (A8 ?_)))));exact ⟨_,[],[],A6 Z,Z,Z,Ag (hE.2 _ (by unfold Pu;rw [hgd,θ h19]) h19),Z⟩
  ·refine A3 (AC (A5 ?_));refine AC (AE (J (A4 Z QO Z Z Z) (J (A9 Z Z Z Ke Z) (J (B2 (GV _ _ _) Z Z) (J (Nu Z Z) (AB Z Z (AD (Ae Z (fun h21=>?_) (fun h21=>?_)))))))))
   ·refine AC (AE (AB Z Z (AD (A8 ?_))));exact ⟨_,[],[],A6 Z,Z,Z,Ag (hE.2 12 (by unfold Pu;rw [hgd,ϑ h19,θ (by simp only [Mx];omega)]) (by decide)),Z⟩
   ·refine AC (AE (goMv Z Z (J (A4 Z FG Z Z Z) (J (BM Z Z C7 Z Z Z) (J (HQ (BC ((p.ro.take k).map A2.r)) (p.ro[k].r) (false) _ Z Z Z Vx CJ Td Z Z) ?_)))));rw [Wd];refine AB Z Z (AD (Ae Z (fun h26=>?_) (fun h26=>?_)))
    ·refine AC (AE (AB Z Z (AD (A8 ?_))));exact ⟨_,[],[],A6 Z,Z,Z,Ag (hE.2 7 (by unfold Pu;rw [hgd,ϑ h19,ϑ (by simp only [Mx];omega),θ h26]) (by decide)),Z⟩
    ·have hnot:p.ro[k].r∉(p.ro.take k).map A2.r:=h26;refine A3 (AE ?_);refine goMv Z Z (J (A4 Z FG Z Z Z) (J (BM Z Z C7 Z Z Z) (V (Tj (BC ((p.ro.take k).map A2.r)) (p.ro[k].r) (true) Z Z Z Vx CJ Z Z) (AD (AE (J (BA Z Z (AT (k+1) (by omega)) Z) (goMv Z Z (AD ?_))))))));exact ⟨k+1,⟨by show k+1≤_;omega,hE.1 (by unfold Pu;rw [hgd,ϑ h19,ϑ (by simp only [Mx];omega),ϑ hnot])⟩,by show p.ro.length - (k+1)<p.ro.length - k;omega,A1 hF [2] Z (by rw [DQ hk1,←cg hnot];rfl) ⟨Z,Z,Z,Z,trivial⟩⟩
 ·refine BF (AC (AE (AB Z Z (AD (A8 ?_)))));exact ⟨_,[],[],A6 Z,Z,Z,Ag (by rw [hk,List.drop_of_length_le (by have h:=h12;simp only [ωg];omega)];rfl),Z⟩
theorem Md {a b:Bool} (h:a=b):AV.d (.raw (.bool a))= .d (.raw (.bool b)):=by rw [h]
theorem Gl {α:Type} {p:α ->Bool}:∀{l:List α} {k:Nat} (hk:k<l.length),(∀x∈l.take k,p x=false) ->p l[k]=true ->l.findIdx? p=some k
 | a::l,0,_,_,h=>by simp at h;simp [List.findIdx?_cons,h]
 | a::l,k+1,hk,h0,h=>by
  have h1:p a=false:=h0 a (by simp);have:=Gl (l:=l) (k:=k) (by simpa using hk) (fun x hx=>h0 x (by simp [hx])) (by simpa using h)
  simp [List.findIdx?_cons,h1,this]
theorem IW {α:Type} {p:α ->Bool} {l:List α} (h:∀x∈l,p x=false):l.findIdx? p=none:=by
 rw [List.findIdx?_eq_none_iff];exact h
def ixF (p:Int ->Bool) (l:List Int):Int:=match l.findIdx? p with
 | some k=>k
 | none=> -1
theorem ixF_nn {p:Int ->Bool} {l:List Int}:0≤ixF p l↔l.any p=true:=by
 unfold ixF
 cases h:l.findIdx? p with
 | none=>
  rw [List.findIdx?_eq_none_iff] at h;simp only [List.any_eq_true]
  constructor
  ·intro h';omega
  ·rintro ⟨x,hx,hp⟩;rw [h x hx] at hp;cases hp
 | some k=>
  have:=List.findIdx?_isSome (xs:=l) (p:=p);rw [h] at this;simp only [Option.isSome_some] at this
  simp [←this]
abbrev HM (S:List Int):Hp:=[(910,[.blk 137 [.map 911 0]]),(911,[BL AF Ai (BC S)])]
def J6 (S:List Int) (x:Int):Bool:=!decide (x∈S)
theorem chk1_c (S:List Int) (x:Int):AM Tryz.prog 131 [.d (AF x),.ptr 910 0 0] (HM S) fun r H'=>r= .d (Ai (J6 S x))∧H'=HM S:=by
 refine BB Tryz.func131 Z Z Tryz.ntmps131 Z Z Z fun F hF=>?_;refine AC (AE (AB Z Z (AD (AC (AE (J (A9 Z Z Z Ro Z) (goMv Z Z (J (HQ (BC S) (x) (false) _ Z Z Z EY HP Td Z Z) ?_))))))));rw [Wd];refine J (Nu Z Z) (AB Z Z (AD (A8 ?_)));exact ⟨_,[910,911],_,A6 Z,Z,Z,by first | exact Md (by unfold J6;simp) | rfl,rfl⟩
theorem bI (S l:List Int) (hl:l.length≤100000000):AM Tryz.prog 138 [.d (.sl none (l.map AF)),.fn 131 [.ptr 910 0 0]] (HM S) fun r H'=>r= .d (AF (ixF (J6 S) l))∧H'=HM S:=by
 refine BB Tryz.func138 Z Z Tryz.ntmps138 Z Z Z fun F hF=>(AC (AE (AB Z Z (AD ?_))));refine AC (AC (AE (goMv Z Z (J (CO Z Tryz.underlying28 Z) (goMv Z Z (AD (A5 (B7 (α:=Nat) (fun k=>⟨19,[(0,.d (.sl none (l.map AF))),(1,.fn 131 [.ptr 910 0 0]),(7,(.d (AF (l.length:Int)))),(8,(.d (AF (k:Int))))],HM S⟩) (fun k=>k≤l.length∧∀x∈l.take k,J6 S x=false) (fun k=>l.length - k) (0) (⟨ς _,by simp⟩) (A1 hF [910,911] Z Z ⟨Z,Z,Z,Z,trivial⟩) ?_))))))));rintro k ⟨hk0,hk⟩;refine AC (AE (J (BR Z Z Z) (AD (AC (Ae Z (fun h9=>?_) (fun h9=>?_))))))
 ·have hk1:k<l.length:=Bf h9;refine A3 (AC (A5 (AC (AE (goMv Z Z (AB Z Z (AD (AC ?_))))))));refine AE (goMv Z Z (goMv Z Z (goMv Z Z (J (Be (k) Z Z (Z) (Ah hk1) Tryz.underlying28 Z BE Z) (J (Cr Z Z Aq Z) (V (YZ (chk1_c S l[k]) Z [910,911] ⟨Z,Z,trivial⟩ Z Z Z Z Z Z Z Z Z) (AD (KN Z (fun h16=>?_) (fun h16=>?_)))))))))
  ·refine AC (AE (goMv Z Z (AB Z Z (AD (A8 ?_)))));exact ⟨_,[910,911],_,A6 Z,Z,Z,Ag (by unfold ixF;rw [Gl hk1 hk (by simpa using h16)]),Z⟩
  ·refine A3 (AE (J (BA Z Z (AT (k+1) (by omega)) Z) (goMv Z Z (AD ?_))));exact ⟨k+1,⟨by show k+1≤_;omega,by rw [φ hk1];intro x hx;rcases υ.1 hx with hx | hx;exact hk x hx;rw [ξ.1 hx];simpa using h16⟩,by show l.length - (k+1)<l.length - k;omega,A1 hF [910,911] Z (Z) ⟨Z,Z,Z,Z,trivial⟩⟩
 ·refine BF (AC (AE (AB Z Z (AD (A8 ?_)))));exact ⟨_,[910,911],_,A6 Z,Z,Z,Ag (by unfold ixF;rw [IW (fun x hx=>hk x (by rw [Θ (by have h:=h9;omega)];exact hx))]),Z⟩
theorem Sz (S l:List Int) (hl:l.length≤100000000):AM Tryz.prog 130 [.d (.sl none (l.map AF)),.fn 131 [.ptr 910 0 0]] (HM S) fun r H'=>r= .d (Ai (l.any (J6 S)))∧H'=HM S:=by
 refine BB Tryz.func130 Z Z Tryz.ntmps130 Z Z Z fun F hF=>(AC (AE (AB Z Z (AD ?_))));refine AC (AE (goMv Z Z (goMv Z Z (V (E1 (bI S l hl) Z [910,911] ⟨Z,Z,trivial⟩ Z Z Z Z Z Z Z Z Z) (J (ES Z Z Z) (AB Z Z (AD (A8 ?_))))))));exact ⟨_,[910,911],_,A6 Z,Z,Z,Md (by rw [φp,ωx];exact ixF_nn),Z⟩
def A0:AK:=⟨0,0,0,[],[],[]⟩
def QH (l:List AK) (k:Nat):Int:=if BP (l.getD k A0)≠0 then BP (l.getD k A0) else if (l.getD k A0).id∈(l.take k).map AK.id∨(l.getD k A0).sq∈(l.take k).map AK.sq then 7 else 0
def Gf (l:List AK):Int:=Bg ((List.range l.length).map (QH l))
def Ub (S:List Int) (i:AK):Int:=if i.af.any (J6 S)=true then 9 else 0
def Qa (l:List AK):Int:=Bg (l.map (Ub (l.map AK.id)))
def Al (p:Prb):Int:=if 4096<p.it.length∨16384<p.ro.length then 8 else Bg [Ey p.ro,Gf p.it,Qa p.it]
theorem prbE_r {p:Prb} (h:¬(4096<p.it.length∨16384<p.ro.length)) (h2:Ey p.ro≠0):Ey p.ro=Al p:=by unfold Al;rw [ϑ h];simp only [Bg];rw [ϑ h2]
theorem UM {p:Prb} (h:¬(4096<p.it.length∨16384<p.ro.length)) (h1:Ey p.ro=0) {e:Int} (h2:e=Gf p.it) (h3:e≠0):e=Al p:=by unfold Al;rw [ϑ h];simp only [Bg];rw [θ h1,ϑ (by rw [←h2];exact h3),h2]
theorem Zi {p:Prb} (h:¬(4096<p.it.length∨16384<p.ro.length)) (h1:Ey p.ro=0) (h2:Gf p.it=0) {e:Int} (h3:e=Qa p.it):e=Al p:=by unfold Al;rw [ϑ h];simp only [Bg];rw [θ h1,θ h2,h3];split<;>simp_all
def EW (p:Prb):Prop:=p.ro.length≤100000∧p.it.length≤100000∧∀i∈p.it,i.po.length≤100000∧i.pa.length≤100000∧i.af.length≤100000
theorem DY (p:Prb) (hb:EW p):AO Tryz.prog 75 [.d (Bs p)] (AF (Al p)):=by
 obtain ⟨g1,g2,g3⟩:=hb;refine BB Tryz.func75 Z Z Tryz.ntmps75 Z Z Z fun F hF=>(AC (AE (V (Bz 1 Z Z Z Z Z Z Z) (AB Z Z (AD ?_)))));refine AC (AC (AE (J (A4 Z EV Z Z Z) (J (A9 Z Z Z Kd Z) (J (CO Z Tryz.underlying37 Z) (J (MO Z Z Z) (goMv Z Z (Ia 15 Z (fun h15=>?_) (fun h15=>?_)))))))))
 ·refine Aa Z Z Z Z (Aa Z Z Z Z (Aa Z Z Z Z ?_));refine Aa Z Z Z Z (J (FO Z Z Z Z) (AD (DP Z Z (AC (AE (AB Z Z (AD (A8 ?_))))))));exact ⟨_,[],[],A6 Z,Z,Z,Ag (by unfold Al;rw [θ (by omega)]),Z⟩
 ·refine Aj Z Z Z (J (A4 Z Fp Z Z Z) ?_);refine Aj Z Z Z (J (A9 Z Z Z Rm Z) (Aj Z Z Z (J (CO Z Tryz.underlying36 Z) (Aj Z Z Z (J (MO Z Z Z) (J (Da Z Z Z Z) (AD (Ae Z (fun h20=>?_) (fun h20=>?_)))))))))
  ·refine AC (AE (AB Z Z (AD (A8 ?_))));exact ⟨_,[],[],A6 Z,Z,Z,Ag (by unfold Al;rw [θ (by omega)]),Z⟩
  ·refine A3 (AC (AC ?_));have hsz:¬(4096<p.it.length∨16384<p.ro.length):=by omega
   refine AE (J (BM Z Z BW Z Z Z) ?_);refine J (B2 (rooms_p p g1) Z Z) (AB Z Z (AD (AC (AE (goMv Z Z (J (D6 Z Z Z) (AD (Ae Z (fun h24=>?_) (fun h24=>?_)))))))))
   ·refine AC (AE (goMv Z Z (AB Z Z (AD (A8 ?_)))));exact ⟨_,[],[],A6 Z,Z,Z,Ag (prbE_r hsz h24),Z⟩
   ·refine A3 (AC ?_);have hr0:Ey p.ro=0:=by simpa using h24
    refine AE (V (Pb 2 Z Z Z Z) (V (Pb 3 Z Z Z Z) (V (CF 4 zl137 Z Z Z Z) (V (Bi Z Z Z Z Z Z Z sz137) (AB Z Z (AD (AC ?_)))))));refine AC (AE (J (A4 Z EV Z Z Z) (J (A9 Z Z Z Kd Z) (J (CO Z Tryz.underlying37 Z) (goMv Z Z (AD (A5 (B7 (α:=Nat) (fun k=>⟨69,[(1,(.ptr 1 0 0)),(4,(.ptr 4 0 0)),(5,(.map 3 0)),(29,(.d (.sl none (p.it.map As)))),(30,(.d (AF (p.it.length:Int)))),(31,(.d (AF (k:Int))))],[(1,[.blk 39 [.d (.sl none (p.ro.map Cy)),.d (.sl none (p.it.map As))]]),(4,[.blk 137 [.map 2 0]]),(2,[BL AF Ai (BC ((p.it.take k).map AK.id))]),(3,[BL AF Ai (BC ((p.it.take k).map AK.sq))])]⟩) (fun k=>k≤p.it.length∧Gf p.it=Bg (((List.range p.it.length).drop k).map (QH p.it))) (fun k=>p.it.length - k) (0) (⟨ς _,Z⟩) (A1 hF [1,4,2,3] Z Z ⟨Z,Z,Z,Z,Z,Z,trivial⟩) ?_))))))));rintro k ⟨hk0,hk⟩;refine AC (AE (J (BR Z Z Z) (AD (AC (Ae Z (fun h32=>?_) (fun h32=>?_))))))
    ·have hk1:k<p.it.length:=Bf h32;refine A3 (AC (A5 (AC (AE ?_))));have hE:=EJ hk1 hk;have hgd:=CY A0 hk1;have hgi:=g3 _ (κ hk1);refine J (Be (k) Z Z (Z) (Ah hk1) Tryz.underlying37 Z Ck Z) (J (HE Z Z CC Z) (V (CF 5 Em Z Z Z Z) (V (Bi Z Z Z Z Z Z Z Ck) (AD (AC (AC (AE (J (BM Z Z CC Z Z Z) ?_))))))));refine J (B2 (KG p.it[k] (by omega) (by omega) (by omega)) Z Z) (AB Z Z (AD (AC (AE (goMv Z Z (J (D6 Z Z Z) (AD (Ae Z (fun h38=>?_) (fun h38=>?_)))))))))
     ·refine AC (AE (goMv Z Z (AB Z Z (AD (A8 ?_)))));exact ⟨_,[],[],A6 Z,Z,Z,Ag (UM hsz hr0 (hE.2 _ (by unfold QH;rw [hgd,θ h38]) h38) h38),Z⟩
     ·refine A3 (AC (AC (AE (J (A9 Z Z Z Ro Z) (J (A4 Z OB Z Z Z) (J (A9 Z Z Z Aq Z) (J (HQ (BC ((p.it.take k).map AK.id)) (p.it[k].id) (false) _ Z Z Z EY HP Td Z Z) ?_)))))));rw [Wd];refine goMv Z Z (Ia 44 Z (fun h44=>?_) (fun h44=>?_))
      ·refine Aa Z Z Z Z (Aa Z Z Z Z (Aa Z Z Z Z ?_));refine Aa Z Z Z Z (J (FO Z Z Z Z) (AD (DP Z Z (AC (AE (AB Z Z (AD (A8 ?_))))))));exact ⟨_,[],[],A6 Z,Z,Z,Ag (UM hsz hr0 (hE.2 7 (by unfold QH;rw [hgd,ϑ h38,θ (by simp_all)]) (by decide)) (by decide)),Z⟩
      ·refine Aj Z Z Z (goMv Z Z (Aj Z Z Z (J (A4 Z NU Z Z Z) (Aj Z Z Z (J (A9 Z Z Z Aq Z) (Aj Z Z Z (J (HQ (BC ((p.it.take k).map AK.sq)) (p.it[k].sq) (false) _ Z Z Z EY HP Td Z Z) ?_)))))));rw [Wd];refine J (Da Z Z Z Z) (AD (Ae Z (fun h49=>?_) (fun h49=>?_)))
       ·refine AC (AE (AB Z Z (AD (A8 ?_))));exact ⟨_,[],[],A6 Z,Z,Z,Ag (UM hsz hr0 (hE.2 7 (by unfold QH;rw [hgd,ϑ h38,θ (by simp_all)]) (by decide)) (by decide)),Z⟩
       ·refine A3 ?_;have n1:p.it[k].id∉(p.it.take k).map AK.id:=by simp_all
        have n2:p.it[k].sq∉(p.it.take k).map AK.sq:=by simp_all
        refine Ch [[],[],[1],[],[],[4],[0,1,2],[0,1,2,3,4,5,6]] mixed Z (Cq (AJ [4] [4,2] Z Z (fun _=>AG (A9 Z Z Z Ro Z)) (AJ [7] [] Z Z (fun _=>AG (A4 Z OB Z Z Z)) ?_)));refine AJ [51] [5] Z Z (fun _=>AG (A9 Z Z Z Aq Z)) (AJ [5] [] Z Z (fun _=>AG (Ak Z Z)) (AJ [7] [] Z Z (fun _=>AG (A4 Z NU Z Z Z)) (AJ [54] [5] Z Z (fun _=>AG (A9 Z Z Z Aq Z)) (Gv [50,52] [2] [] Z Z (fun _=>Gw (Tj (BC ((p.it.take k).map AK.id)) (p.it[k].id) (true) Z Z Z EY HP Z Z)) (.inl ⟨Z,Z⟩) Z Z Z Z Z (C5 7 Z Z Z (Af 8 Z Z (V (Tj (BC ((p.it.take k).map AK.sq)) (p.it[k].sq) (true) Z Z Z EY HP Z Z) (AD ⟨Z,?_⟩))))))));refine C9 (AE (J (BA Z Z (AT (k+1) (by omega)) Z) (goMv Z Z (AD ?_))));exact ⟨k+1,⟨by show k+1≤_;omega,hE.1 (by unfold QH;rw [hgd,ϑ h38,ϑ (by rintro (h | h);exact n1 h;exact n2 h)])⟩,by show p.it.length - (k+1)<p.it.length - k;omega,A1 hF [1,4,2,3] Z (by rw [DQ hk1,DQ hk1,←cg n1,←cg n2];rfl) ⟨Z,Z,Z,Z,Z,Z,trivial⟩⟩
    ·refine BF (AC (AC ?_));have hi0:Gf p.it=0:=by rw [hk,List.drop_of_length_le (by have h:=h32;simp only [ωg];omega)];rfl
     have hfull:p.it.take k=p.it:=Θ (by have h:=h32;omega);rw [hfull];refine AE (J (A4 Z EV Z Z Z) (J (A9 Z Z Z Kd Z) (J (CO Z Tryz.underlying37 Z) (goMv Z Z (AD (A5 (B7 (α:=Nat) (fun k=>⟨69,[(4,(.ptr 4 0 0)),(58,(.d (.sl none (p.it.map As)))),(59,(.d (AF (p.it.length:Int)))),(60,(.d (AF (k:Int))))],[(4,[.blk 137 [.map 2 0]]),(2,[BL AF Ai (BC (p.it.map AK.id))])]⟩) (fun k=>k≤p.it.length∧Qa p.it=Bg ((p.it.drop k).map (Ub (p.it.map AK.id)))) (fun k=>p.it.length - k) (0) (⟨ς _,Z⟩) (A1 hF [4,2] Z Z ⟨Z,Z,Z,Z,trivial⟩) ?_)))))));rintro k ⟨hk0,hk⟩;refine AC (AE (J (BR Z Z Z) (AD (AC (Ae Z (fun h61=>?_) (fun h61=>?_))))))
     ·have hk1:k<p.it.length:=Bf h61;refine A3 (AC (A5 (AC (AE ?_))));have hE:=Dn hk1 hk;have hgi:=g3 _ (κ hk1);refine J (Be (k) Z Z (Z) (Ah hk1) Tryz.underlying37 Z Ck Z) (J (HE Z Z CC Z) (V (CF 6 Em Z Z Z Z) (V (Bi Z Z Z Z Z Z Z Ck) ?_)));refine AD (AC (AE (J (A4 Z FH Z Z Z) (J (A9 Z Z Z BH Z) (J (Zcv Z Z) (V (E1 ((Sz (p.it.map AK.id) p.it[k].af (by omega)).by [(910,4),(911,2)] Z) Z [4,2] ⟨Z,Z,trivial⟩ Z Z Z Z Z Z Z Z Z) (AD (KN Z (fun h67=>?_) (fun h67=>?_)))))))))
      ·refine AC (AE (AB Z Z (AD (A8 ?_))));exact ⟨_,[],[],A6 Z,Z,Z,Ag (Zi hsz hr0 hi0 (hE.2 9 (by unfold Ub;rw [θ (by simpa using h67)]) (by decide))),Z⟩
      ·refine A3 (AE (J (BA Z Z (AT (k+1) (by omega)) Z) (goMv Z Z (AD ?_))));exact ⟨k+1,⟨by show k+1≤_;omega,hE.1 (by unfold Ub;rw [ϑ (by simpa using h67)])⟩,by show p.it.length - (k+1)<p.it.length - k;omega,A1 hF [4,2] Z (Z) ⟨Z,Z,Z,Z,trivial⟩⟩
     ·refine BF (AC (AE (AB Z Z (AD (A8 ?_)))));exact ⟨_,[],[],A6 Z,Z,Z,Ag (Zi hsz hr0 hi0 (by rw [hk,GM (by have h:=h61;omega)])),Z⟩
abbrev Mi (T:TypeId) (p:Prb):AL:= .blk T [.d (.sl none (p.ro.map Cy)),.d (.sl none (p.it.map As))]
theorem Mw {α β:Type} {l:List α} {f:α ->β} {m k:Nat} (hk:k<l.length) (hm:m<k) {b:β} (h:f l[m]=b):b∈(l.take k).map f:=by
 refine ϱ.2 ⟨l[m],?_,h⟩;rw [χr];exact ⟨m,by omega,Z⟩
theorem X2 {α β:Type} {l:List α} {f:α ->β} {m:Nat} (hm:m<l.length) {b:β} (h:b∉(l.take m).map f) (h2:f l[m]≠b):b∉(l.take (m+1)).map f:=by
 rw [DQ hm,υ,ξ];rintro (h3 | h3)
 ·exact h h3
 ·exact h2 h3.symm
def Sml (p:Prb):Prop:=p.it.length≤12∧p.ro.length≤24∧∀i∈p.it,i.po.length≤12∧i.pa.length≤12∧i.af.length≤12
instance (p:Prb):Decidable (Sml p):=inferInstanceAs (Decidable (_∧_∧∀i∈p.it,_))
theorem small_p (p:Prb):AO Tryz.prog 11 [.d (Bs p)] (Ai (decide (Sml p))):=by
 refine BB Tryz.func11 Z Z Tryz.ntmps11 Z Z Z fun F hF=>(AC (AE (V (Bz 1 Z Z Z Z Z Z Z) (AB Z Z (AD ?_)))));refine AC (AC (AE (J (A4 Z JD Z Z Z) (J (A9 Z Z Z UT Z) (J (CO Z Tryz.underlying23 Z) (J (MO Z Z Z) (goMv Z Z (Ia 8 Z (fun h8=>?_) (fun h8=>?_)))))))))
 ·refine Aa Z Z Z Z (Aa Z Z Z Z (Aa Z Z Z Z ?_));refine Aa Z Z Z Z (J (FO Z Z Z Z) (AD (DP Z Z (AC (AE (AB Z Z (AD (A8 ?_))))))));exact ⟨_,[],[],A6 Z,Z,Z,K5 (fun h=>by have h1:=h.1;have h2:=h.2.1;omega),Z⟩
 ·refine Aj Z Z Z (J (A4 Z QQ Z Z Z) ?_);refine Aj Z Z Z (J (A9 Z Z Z on22 Z) (Aj Z Z Z (J (CO Z Tryz.underlying22 Z) (Aj Z Z Z (J (MO Z Z Z) (J (Da Z Z Z Z) (AD (Ae Z (fun h13=>?_) (fun h13=>?_)))))))))
  ·refine AC (AE (AB Z Z (AD (A8 ?_))));exact ⟨_,[],[],A6 Z,Z,Z,K5 (fun h=>by have h1:=h.1;have h2:=h.2.1;omega),Z⟩
  ·refine A3 (AC (AC (AE (AB Z Z (AD (A5 (B7 (α:=Nat) (fun k=>⟨49,[(1,(.ptr 1 0 0)),(3,(.d (AF (k:Int))))],[(1,[Mi 25 p])]⟩) (fun k=>k≤p.it.length∧∀i∈p.it.take k,i.po.length≤12∧i.pa.length≤12∧i.af.length≤12) (fun k=>p.it.length - k) (0) (⟨ς _,by simp⟩) (A1 hF [1] Z Z ⟨Z,Z,trivial⟩) ?_)))))));rintro k ⟨hk0,hk⟩;refine AC ?_;refine AC (AE (goMv Z Z (J (A4 Z JD Z Z Z) (J (A9 Z Z Z UT Z) (J (CO Z Tryz.underlying23 Z) (J (BR Z Z Z) (AD (Ae Z (fun h18=>?_) (fun h18=>?_)))))))))
   ·have hk1:k<p.it.length:=Bf h18;refine A3 (AC (A5 (AC (AE (J (A4 Z JD Z Z Z) ?_)))));refine J (A9 Z Z Z UT Z) (goMv Z Z (J (Be (k) Z Z (Z) (Ah hk1) Tryz.underlying23 Z sz93 Z) (J (Zcf Z QN Z Z Z) (J (Cr Z Z on90 Z) (J (CO Z Tryz.underlying90 Z) (J (MO Z Z Z) (goMv Z Z (Ia 29 Z (fun h29=>?_) (fun h29=>?_)))))))))
    ·refine Aa Z Z Z Z (Aa Z Z Z Z (Aa Z Z Z Z (Aa Z Z Z Z (Aa Z Z Z Z (Aa Z Z Z Z (Aa Z Z Z Z (Aa Z Z Z Z ?_)))))));refine J (FO Z Z Z Z) (goMv Z Z (Aa Z Z Z Z (Aa Z Z Z Z (Aa Z Z Z Z (Aa Z Z Z Z (Aa Z Z Z Z (Aa Z Z Z Z (Aa Z Z Z Z ?_))))))));refine Aa Z Z Z Z (J (FO Z Z Z Z) (AD (DP Z Z (AC (AE (AB Z Z (AD (A8 ?_))))))));exact ⟨_,[],[],A6 Z,Z,Z,K5 (fun h=>by have h1:=h.2.2 _ (κ hk1);omega),Z⟩
    ·refine Aj Z Z Z ?_;refine J (A4 Z JD Z Z Z) (Aj Z Z Z (J (A9 Z Z Z UT Z) (Aj Z Z Z (goMv Z Z (Aj Z Z Z (J (Be (k) Z Z (Z) (Ah hk1) Tryz.underlying23 Z sz93 Z) (Aj Z Z Z (J (Zcf Z U8 Z Z Z) ?_))))))));refine Aj Z Z Z (J (Cr Z Z on91 Z) (Aj Z Z Z (J (CO Z Tryz.underlying91 Z) (Aj Z Z Z (J (MO Z Z Z) (J (Da Z Z Z Z) (goMv Z Z (Ia 39 Z (fun h39=>?_) (fun h39=>?_)))))))))
     ·refine Aa Z Z Z Z (Aa Z Z Z Z (Aa Z Z Z Z (Aa Z Z Z Z (Aa Z Z Z Z (Aa Z Z Z Z (Aa Z Z Z Z ?_))))));refine Aa Z Z Z Z (J (FO Z Z Z Z) (AD (DP Z Z (AC (AE (AB Z Z (AD (A8 ?_))))))));exact ⟨_,[],[],A6 Z,Z,Z,K5 (fun h=>by have h1:=h.2.2 _ (κ hk1);omega),Z⟩
     ·refine Aj Z Z Z ?_;refine J (A4 Z JD Z Z Z) (Aj Z Z Z (J (A9 Z Z Z UT Z) (Aj Z Z Z (goMv Z Z (Aj Z Z Z (J (Be (k) Z Z (Z) (Ah hk1) Tryz.underlying23 Z sz93 Z) (Aj Z Z Z (J (Zcf Z bV Z Z Z) ?_))))))));refine Aj Z Z Z (J (Cr Z Z BH Z) (Aj Z Z Z (J (CO Z Tryz.underlying28 Z) (Aj Z Z Z (J (MO Z Z Z) (J (Da Z Z Z Z) (AD (Ae Z (fun h48=>?_) (fun h48=>?_)))))))))
      ·refine AC (AE (AB Z Z (AD (A8 ?_))));exact ⟨_,[],[],A6 Z,Z,Z,K5 (fun h=>by have h1:=h.2.2 _ (κ hk1);omega),Z⟩
      ·refine A3 (AE (goMv Z Z (J (BA Z Z (AT (k+1) (by omega)) Z) (AB Z Z (AD ?_)))));exact ⟨k+1,⟨by show k+1≤_;omega,by rw [φ hk1];intro i hi;rcases υ.1 hi with hi | hi;exact hk i hi;rw [ξ.1 hi];omega⟩,by show p.it.length - (k+1)<p.it.length - k;omega,A1 hF [1] Z (Z) ⟨Z,Z,trivial⟩⟩
   ·refine BF (AC (AE (AB Z Z (AD (A8 ?_)))));exact ⟨_,[],[],A6 Z,Z,Z,retT ⟨by omega,by omega,fun i hi=>hk i (by rw [Θ (by have h:=h18;omega)];exact hi)⟩,Z⟩
def OP:List AK ->AK ->List AK
 | [],x=> [x]
 | a::l,x=>if ∀y∈a::l,GF x y<0 then x::a::l else a::OP l x
def Ay (l:List AK):List AK:=l.foldl OP []
theorem bH (l:List AK) (x:AK):(OP l x).length=l.length+1:=by
 induction l with
 | nil=>rfl
 | cons a l ih=>
  simp only [OP];split
  ·rfl
  ·simp only [ψo,ih]
theorem Ik (l:List AK) (x:AK):Ay (l++ [x])=OP (Ay l) x:=by simp [Ay]
theorem YN (l:List AK):(Ay l).length=l.length:=by
 induction l using YU with
 | h0=>rfl
 | h1 l x ih=>rw [Ik,bH,ih];simp
def JX (l:List AK) (r:AP):List Int:=(l.filter fun i=>decide (Cg i r<0)).map AK.id
theorem cF (l:List FQ) (hl:l.length≤1000000):AO Tryz.prog 86 [.d (.sl none (l.map CG))] (.sl none (l.map CG)):=by
 refine BB Tryz.func86 Z Z Tryz.ntmps86 Z Z Z fun F hF=>(AC ?_);refine AE (AB Z Z (Wc 2 Z (AD (AC (AC (AE (goMv Z Z (FC 3 Z (fun h0=>?_) ?_))))))))
 ·refine J (EA Tryz.underlying52 Z Z) (AD (DP Z (Z) (AC (AE (AB Z Z (Wc 2 Z (AD (A8 ?_))))))));exact ⟨_,[],[],A6 Z,Z,Z,by first | (rw [h0];done) | (rw [h0]),rfl⟩
 ·refine J (EA Tryz.underlying52 Z Z) (AD ?_);refine D9 Z (Z) (A3 (AC (AE (V (D7 20 XB Z Z Z Z Z Z Z Z) (goMv Z Z (V (Ev (([]:List FQ)) (l) Z Z Z Z Z Z (fun _=>rfl) XB (by simp only [φo];omega) Z Z Z Z) (Zcu (emb:=CG) 7 20 ([]++l) Z Z Z Z Z Z Z (AB Z Z ?_))))))));skip;refine AD (A8 ?_);exact ⟨_,[],[],A6 Z,Z,Z,Z,Z⟩
theorem cE (l:List OF) (hl:l.length≤1000000):AO Tryz.prog 87 [.d (.sl none (l.map Fm))] (.sl none (l.map Fm)):=by
 refine BB Tryz.func87 Z Z Tryz.ntmps87 Z Z Z fun F hF=>(AC ?_);refine AE (AB Z Z (Wc 2 Z (AD (AC (AC (AE (goMv Z Z (FC 3 Z (fun h0=>?_) ?_))))))))
 ·refine J (EA Tryz.underlying53 Z Z) (AD (DP Z (Z) (AC (AE (AB Z Z (Wc 2 Z (AD (A8 ?_))))))));exact ⟨_,[],[],A6 Z,Z,Z,by first | (rw [h0];done) | (rw [h0]),rfl⟩
 ·refine J (EA Tryz.underlying53 Z Z) (AD ?_);refine D9 Z (Z) (A3 (AC (AE (V (D7 20 ZO Z Z Z Z Z Z Z Z) (goMv Z Z (V (Ev (([]:List OF)) (l) Z Z Z Z Z Z (fun _=>rfl) ZO (by simp only [φo];omega) Z Z Z Z) (Zcu (emb:=Fm) 7 20 ([]++l) Z Z Z Z Z Z Z (AB Z Z ?_))))))));skip;refine AD (A8 ?_);exact ⟨_,[],[],A6 Z,Z,Z,Z,Z⟩
theorem cG (l:List Int) (hl:l.length≤1000000):AO Tryz.prog 89 [.d (.sl none (l.map AF))] (.sl none (l.map AF)):=by
 refine BB Tryz.func89 Z Z Tryz.ntmps89 Z Z Z fun F hF=>(AC ?_);refine AE (AB Z Z (Wc 2 Z (AD (AC (AC (AE (goMv Z Z (FC 3 Z (fun h0=>?_) ?_))))))))
 ·refine J (EA Tryz.underlying28 Z Z) (AD (DP Z (Z) (AC (AE (AB Z Z (Wc 2 Z (AD (A8 ?_))))))));exact ⟨_,[],[],A6 Z,Z,Z,by first | (rw [h0];done) | (rw [h0]),rfl⟩
 ·refine J (EA Tryz.underlying28 Z Z) (AD ?_);refine D9 Z (Z) (A3 (AC (AE (V (D7 20 B5 Z Z Z Z Z Z Z Z) (goMv Z Z (V (Ev (([]:List Int)) (l) Z Z Z Z Z Z (fun _=>rfl) B5 (by simp only [φo];omega) Z Z Z Z) (Zcu (emb:=AF) 7 20 ([]++l) Z Z Z Z Z Z Z (AB Z Z ?_))))))));skip;refine AD (A8 ?_);exact ⟨_,[],[],A6 Z,Z,Z,Z,Z⟩
theorem clone_p (i:AK) (g1:i.po.length≤1000000) (g2:i.pa.length≤1000000) (g3:i.af.length≤1000000):AO Tryz.prog 69 [.d (As i)] (As i):=by
 refine BB Tryz.func69 Z Z Tryz.ntmps69 Z Z Z fun F hF=>(AC (AE (V (Bz 1 Z Z Z Z Z Z Z) (V (CF 2 Em Z Z Z Z) ?_))));refine AD (AC (Ch [[],[0],[0,1],[],[3],[0,1,2,3,4],[],[6],[0,1,2,3,4,5,6,7],[0,1,2,3,4,6,7],[0,1,2,3,4,5,6,7,8,9],[0,1,2,3,4,5,6,7,8,9,10],[0,1,2,3,4,5,6,7,8,9,10,11],[0,1,2,3,4,5,6,7,8,9,10,11,12],[0,1,2,3,4,5,6,7,8,9,10,11,12,13]] mixed Z (Cq (AJ [1] [] Z Z (fun _=>AG (A4 Z Ho Z Z Z)) (AJ [3] [1] Z Z (fun _=>AG (A9 Z Z Z XX Z)) (AJ [4] [] Z Z (fun _=>AG (B2 (cF i.po g1) Z Z)) (AJ [1] [] Z Z (fun _=>AG (A4 Z JC Z Z Z)) (AJ [6] [1] Z Z (fun _=>AG (A9 Z Z Z aA Z)) ?_))))))));refine AJ [7] [] Z Z (fun _=>AG (B2 (cE i.pa g2) Z Z)) (AJ [1] [] Z Z (fun _=>AG (A4 Z FH Z Z Z)) (AJ [9] [1] Z Z (fun _=>AG (A9 Z Z Z BH Z)) (AJ [10] [] Z Z (fun _=>AG (B2 (cG i.af g3) Z Z)) (AJ [1] [] Z Z (fun _=>AG (A4 Z Ho Z Z Z)) (C5 10 Z Z Z (Af 11 Z Z (V (Bi Z Z Z Z Z Z Z sz52) (AD ⟨Z,?_⟩))))))));refine Af 12 Z Z (J (A4 Z JC Z Z Z) (AD ⟨Z,?_⟩));refine Af 13 Z Z (V (Bi Z Z Z Z Z Z Z sz53) (AD ⟨Z,?_⟩));refine Af 14 Z Z (J (A4 Z FH Z Z Z) (AD ⟨Z,?_⟩));refine Af 15 Z Z (V (Bi Z Z Z Z Z Z Z CZ) (AD ⟨Z,?_⟩));refine C9 (AC (AE (J (BM Z Z CC Z Z Z) (V (Bi Z Z Z Z Z Z Z Ck) (AD (A8 ?_))))));exact ⟨_,[],[],A6 Z,Z,Z,Z,Z⟩
theorem hnewN {hp:Hp} {f:Nat} {o:AL} (h:hfam hp f=none) (hm:Rw o=true:=by rfl):CX hp f o=some ((f,[o])::hp):=by simp only [CX,h,hm]
theorem partN {hp:Hp} {f:Nat} {x:List AL}:∀{nm:List Nat},memB f nm=false ->BU ((f,x)::hp) nm=BU hp nm
 | [],_=>rfl
 | g::r,h=>by
  have h1:Nat.beq f g=false:=by
   cases hb:Nat.beq f g with
   | false=>rfl
   | true=>
    have e:=ωf hb;subst e
    simp [memB] at h
  have h2:memB f r=false:=by
   cases hb:memB f r with
   | false=>rfl
   | true=>simp [memB,hb] at h
  simp only [BU];rw [partN h2];simp only [hfam,h1]
theorem Wt (l:List Nat):JR l l=true:=by
 have key:∀(l m:List Nat),(∀x∈l,x∈m) ->JR l m=true:=fun l=>by
  induction l with
  | nil=>intro m _;rfl
  | cons a r ih=>intro m h;simp only [JR,ωa];exact ⟨FY.2 (h a (by simp)),ih m fun x hx=>h x (by simp [hx])⟩
 exact key l l fun x hx=>hx
theorem Dp {α β:Type} {step:β ->α ->β×Bool} {b:β} {x:α} {r:List α}:HI step b (x::r)=if (step b x).2=true then HI step (step b x).1 r else (step b x).1:=by
 simp only [HI]
 generalize step b x=y
 obtain ⟨y1,y2⟩:=y
 cases y2<;>rfl
def encI (x:AK):List AV:=[.d (As x)]
section
variable {β:Type}
theorem seqV_c (its:List AK) (hits:its.length≤1000000) (l:Nat) (H:β ->Hp) (N:List Nat) (step:β ->AK ->β×Bool) (st0:β) (hN:∀st,hpN (H st)=N) (hI:∀st,FW N (H st)=true) (hP:∀st,BU (H st) N=some (H st))
  (hk:∀st,AX 990 (H st)=some (H st)) (hz:∀st,hfam (H st) 990=none) (hm:memB 990 N=false)
  (hfe:L6 Tryz.prog l encI H step st0 its):
  AM Tryz.prog 164 [.d (.raw (Cu l)),.d (.ptr (.sl none (its.map As)))] (H st0) fun r H'=>r= .tup []∧H'=H (HI step st0 its):=by
 refine BB Tryz.func164 Z Z Tryz.ntmps164 Z Z Z fun F hF=>(AC (AE (J (Cr Z Z Kd Z) (J (CO Z Tryz.underlying37 Z) (goMv Z Z (AD (A5 (Gu (α:=Nat×β) (fun p=>⟨16,[(0,.d (.raw (Cu l))),(5,(.d (.sl none (its.map As)))),(6,(.d (AF (its.length:Int)))),(7,(.d (AF (p.1:Int))))],H p.2⟩) (fun p=>p.1≤its.length∧L6 Tryz.prog l encI H step p.2 (its.drop p.1)∧HI step p.2 (its.drop p.1)=HI step st0 its) (fun p=>its.length - p.1) ((0,st0)) (⟨ς _,hfe,Z⟩) (ci ⟨Z,Z,Z,Z,trivial⟩) ?_))))))));rintro ⟨k,st⟩ ⟨hk0,hfd,hfin⟩;dsimp only at hk0 hfd hfin⊢;refine AC (AE (J (BR Z Z Z) (AD (AC (Ae Z (fun h8=>?_) (fun h8=>?_))))))
 ·have hk1:k<its.length:=Bf h8;refine A3 (AC (A5 (AC (AE ?_))));have hA:its.drop k=its[k]::its.drop (k+1):=χf hk1;rw [hA] at hfd;refine J (Be (k) Z Z (Z) (Ah hk1) Tryz.underlying37 Z Ck Z) (J (HE Z Z CC Z) (V (CF 990 Em Z (hk _) (hnewN (hz _)) Z) (V (Bi Z Z Z Z Z Z Z Ck) (AD (AC ?_)))));refine AE (goMv Z Z (J (BM Z Z CC Z Z Z) (o_keep [0,5,6,7,11,12] Z (o_only N (hF.trans (hN st0)) (Wt N) ((partN hm).trans (hP _)) (aG hfd.1 Z Z (by rw [hN,hN]) (by rw [hN];exact hI _) Z Z (J (OC Z Z) (AD (KN Z (fun h14=>?_) (fun h14=>?_)))))))))
  ·have hgo:(step st its[k]).2=false:=by simpa using h14
   refine A8 ?_;exact ⟨_,N,_,A6 Z,hP _,by rw [←hN st0];exact EO _,Z,by rw [←hfin,hA,Dp,ϑ (by rw [hgo];decide)]⟩
  ·have hgo:(step st its[k]).2=true:=by simpa using h14
   refine A3 (AE (J (BA Z Z (AT (k+1) (by omega)) Z) (goMv Z Z (AD ?_))));exact ⟨(k+1,(step st its[k]).1),⟨by show k+1≤_;omega,hfd.2 hgo,by rw [←hfin,hA,Dp,θ hgo]⟩,by show its.length - (k+1)<its.length - k;omega,⟨Z,Z,fun _ _=>Tk.get (l:=[(0,_),(5,_),(6,_),(7,_)]) ⟨Z,Z,Z,Z,trivial⟩⟩⟩
 ·refine BF ?_;exact ⟨_,N,_,A6 Z,hP _,by rw [←hN st0];exact EO _,Z,by rw [←hfin,List.drop_of_length_le (by have h:=h8;omega)];rfl⟩
end
theorem SR.freezeB {F:Fr} {s:AS} {ρ:Nat ->Nat ->Value} {act:Act} {w:World} (h:SR F s ρ act w) (t f:Nat) (x:D) {T:TypeId} {cs:List AV} {hp':Hp} (nm:List Nat) {pn:List Nat} (hF:F.pn=pn) (ht:get s.env t=some (.ptr f 0 0)) (hone:hfam s.hp f=some [.blk T cs]) (hcs:cs=x.cells.map .d) (hx1:∀c∈x.cells,c.one=true) (hf:memB f nm=false) (hsub:JR pn nm=true) (hpt:BU s.hp nm=some hp'):SR F ⟨s.n,(t,.d (.ptr x))::s.env,hp'⟩ ρ act w:=by
 have h1:=h.only nm hF hsub hpt;refine ⟨h1.size,h1.defs,fun t' a ha=>?_,h1.heap⟩;rcases KJ ha with ⟨rfl,rfl⟩ | ⟨_,ha⟩
 ·have hr:=h.env t _ ht;have ho:hget s.hp f 0=some (.blk T cs):=by simp [hget,hone,gl,isM]
  obtain ⟨b,us,e1,e2,e3,e4,e5⟩:=h.heap.sim f 0 _ ho;show AW _ _ _ _ (act.tmps.getD t undef)
  generalize act.tmps.getD t undef=v at hr
  cases hr with
  | @ptr _ _ _ b' hb=>
   rw [e1] at hb;injection hb with hb;injection hb with hb;injection hb with hb;subst hb
   have hO:∀b',F.O ρ hp' b' ->F.O ρ s.hp b':=fun b' hb'=>hb'.imp id fun ⟨f',i',o',q1,q2⟩=>by
    obtain ⟨m1,_⟩:=Di hpt;refine ⟨f',i',o',?_,q2⟩;simp only [hget] at q1⊢
    cases hh:hfam hp' f' with
    | none=>rw [hh] at q1;cases q1
    | some l=>rw [(m1 f' l hh).2];rw [hh] at q1;exact q1
   have hnO:¬F.O ρ hp' b:=fun hb'=>by
    rcases hb' with hb' | ⟨f',i',o',q1,q2⟩
    ·exact h.heap.notOf ⟨f,0,_,ho,by rw [e1];rfl⟩ hb'
    ·obtain ⟨m1,_⟩:=Di hpt;simp only [hget] at q1
     cases hh:hfam hp' f' with
     | none=>rw [hh] at q1;cases q1
     | some l=>
      have q3:hget s.hp f' i'=some o':=by simp only [hget];rw [(m1 f' l hh).2];rw [hh] at q1;exact q1
      obtain ⟨e1',_⟩:=h.heap.inj f' i' f 0 _ _ b q3 ho q2 (by rw [e1];rfl);have:=FY.2 (m1 f' l hh).1;rw [e1',hf] at this;cases this
   have hlen:us.length=x.cells.length:=by rw [e3,hcs,ψ]
   refine .d (.ptr (fun j=>us.getD j undef) (h.heap.ltO (.inr ⟨f,0,_,ho,by rw [e1];rfl⟩)) hnO hx1 (fun j c hj=>?_) (fun j c hj=>?_))
   ·have hj':j<us.length:=by rw [hlen];exact (χ.1 hj).1
    rw [ψq,cell_of_row w b j us.toArray T (0,0) e2]
    simp [hj']
   ·have hj':j<us.length:=by rw [hlen];exact (χ.1 hj).1
    have hc:=e4 j (.d c) us[j] (by rw [hcs,η,hj];rfl) (ω hj');have hg:us.getD j undef=us[j]:=by simp [hj']
    rw [hg]
    cases hc with
    | d hc=>exact hc.mono (ν _) (fun _ _ _=>rfl) fun b' _=>hO b'
 ·exact h1.env t' a ha
theorem Ox {P:Program} {F:Fr} {Q:Exit ->AS ->Prop} {ops:Array Oper} {l':List Oper} {sn:Nat} {env:List (Nat×AV)} {hp hp':Hp} (t f:Nat) (x:D) {T:TypeId} {cs:List AV} (nm:List Nat) {pn:List Nat} (hF:F.pn=pn) (ht:get env t=some (.ptr f 0 0)) (hone:hfam hp f=some [.blk T cs]) (hcs:cs=x.cells.map .d) (hx1:∀c∈x.cells,c.one=true) (hf:memB f nm=false) (hsub:JR pn nm=true) (hpt:BU hp nm=some hp')
  (h:Ab P F ops l' Q ⟨sn,(t,.d (.ptr x))::env,hp'⟩):Ab P F ops l' Q ⟨sn,env,hp⟩:=fun ρ act w hs=>h ρ act w (hs.freezeB t f x nm hF ht hone hcs hx1 hf hsub hpt)
theorem Yb (its:List AK):AM Tryz.prog 121 [.d (.sl none (its.map As))] [] fun r H'=>r= .fn 164 [.d (.ptr (.sl none (its.map As)))]∧H'=[]:=by
 refine BB Tryz.func121 Z Z Tryz.ntmps121 Z Z Z fun F hF=>(AC (AE (V (Bz 1 Z Z Z Z Z Z Z) ?_)));refine AB Z Z (AD (AC (AE (Ox 1 1 (.sl none (its.map As)) [] hF Z Z Z (by intro c hc;simp [D.cells] at hc;subst hc;rfl) Z Z Z (J (Zcv Z Z) (AB Z Z (AD (A8 ?_))))))));exact ⟨_,[],[],A6 Z,Z,Z,Z,Z⟩
abbrev hV (q:List AK):Hp:=[(920,[.rowD 55 6 (q.map As)]),(1,[.blk 37 [.own 920 0 q.length]])]
def VY (q:List AK) (x:AK):List AK×Bool:=(q++ [x],true)
theorem Sg:∀(l q:List AK),HI VY q l=q++l
 | [],q=>by simp [HI]
 | x::l,q=>by rw [Dp];show (if true=true then HI VY (q++ [x]) l else _)=_;rw [θ Z,Sg l];simp
theorem P3 {P:Program} {l:Nat} {H:List AK ->Hp} {n:Nat} (hY:∀q x,q.length<n ->Fs P l (encI x) (H q) fun v H'=>v= .d (.raw (.bool true))∧H'=H (q++ [x])):∀(xs q:List AK),q.length+xs.length≤n ->L6 P l encI H VY q xs
 | [],_,_=>trivial
 | x::xs,q,h=>⟨hY q x (by simp at h;omega),fun _=>P3 hY xs (q++ [x]) (by simp at h⊢;omega)⟩
theorem cS (its:List AK) (hits:its.length≤1000000):AM Tryz.prog 210 [.d (.sl (some true) []),.fn 164 [.d (.ptr (.sl none (its.map As)))]] [] fun r H'=>r= .own 920 0 its.length∧H'=[(920,[.rowD 55 6 (its.map As)])]:=by
 refine Nr Tryz.func210 Z Z Tryz.ntmps210 Z Z Z fun F hF hFl=>(AC (AE (V (Bz 1 Z Z Z Z Z Z Z) ?_)));refine AB Z Z (AD (AC (AC (ER 1 0 0 920 OH Z Z Z Z Z Z Z (AE (goMv Z Z (AD (A5 ?_))))))));refine c8 [2,6] Z ?_;refine W8 (γ:=Unit) hFl 900 Z Z Z Z Z [1,920] (CHr:=hV []) (fun _=>True) (fun _=>hV its) (fun _=> .ready) (fun _=>none) ⟨Z,Z,trivial⟩ Z Z Z (fun _=>rfl) (fun _=>rfl) Z (fun _ _=>by simp) (fun _ _=>⟨Z,Z⟩) [920,1] hF Z Z (fun _ _=>rfl) (fun l A B hA hB=>?_) (fun _ _=>?_)
 ·refine (seqV_c its hits l (fun q:List AK=>(900,[.loop ⟨l,13,[(2,.ptr 1 0 0),(6,.fn 164 [.d (.ptr (.sl none (its.map As)))])],.ready,none, #[7],A,B⟩])::hV q) [900,920,1] VY [] (fun _=>rfl) (fun _=>rfl) (fun _=>rfl) (fun _=>rfl) (fun _=>rfl) Z ?_).mono (fun r H' ⟨e1,e2⟩=>⟨e1,(),trivial,by rw [e2,Sg];rfl⟩);refine P3 (n:=its.length) (fun q x hq=>?_) its [] (by simp);refine Qq (lf:=900) Z Z Z Z fun F hF hr=>?_;show Bq _ _ A _ _;rw [hA];refine AE (V (CF 2 Em Z Z Z Z) (V (Bi Z Z Z Z Z Z Z Ck) (AD (⟨Z,_,_,Z,Z,Z,Z,?_⟩))));show Bq _ _ B _ _;rw [hB];refine A5 (AE (J (A9 Z Z Z Kd Z) (J (BM Z Z CC Z Z Z) (V (D7 30 OH Z Z Z Z Z Z Z Z) (V (Hz (q) ([x]) Z Z Z Z Z Z Z Z OH (by simp only [Φ];omega) Z Z Z Z) (V (Bi Z Z Z Z Z Z Z sz37) (AD ?_)))))));exact ⟨none,_,_,[900,920,1],_,Z,Z,Z,Z,Z,Z,Z,Z⟩
 ·refine AC (AE (J (A9 Z Z Z Kd Z) (AB Z Z (AD (A8 ?_)))));exact ⟨_,[920],_,A6 Z,Z,Z,Z,Z⟩
theorem insO_perm (l:List AK) (x:AK):(OP l x).Perm (x::l):=by
 induction l with
 | nil=>exact List.Perm.refl _
 | cons a l ih=>
  simp only [OP];split
  ·exact List.Perm.refl _
  ·exact (List.Perm.cons a ih).trans (List.Perm.swap x a l)
theorem SZ {l:List AK} (h:l.Pairwise fun a b=>¬GF b a<0) (x:AK):(OP l x).Pairwise fun a b=>¬GF b a<0:=by
 induction l with
 | nil=>simp [OP]
 | cons a l ih=>
  rw [ψy] at h;simp only [OP]
  split
  ·rename_i hall
   exact ψy.2 ⟨fun y hy=>by have h1:=hall y hy;have h2:=D0.anti x y;omega,ψy.2 h⟩
  ·rename_i hn
   refine ψy.2 ⟨fun y hy=>?_,ih h.2⟩;rcases Ψ.1 ((insO_perm l x).mem_iff.1 hy) with rfl | hy
   ·intro hlt;refine hn fun z hz=>?_;rcases Ψ.1 hz with rfl | hz
    ·exact hlt
    ·have h1:=h.1 z hz;have h2:=D0.anti a z
     by_cases e:GF a z=0
     ·have h3:=D0.eqv a z y e;have h4:=D0.anti a y;have h5:=D0.anti z y;omega
     ·exact D0.trans _ _ _ hlt (by omega)
   ·exact h.1 y hy
theorem YV (l:List AK):(Ay l).Perm l:=by
 induction l using YU with
 | h0=>exact List.Perm.refl _
 | h1 l x ih=>
  rw [Ik];exact (insO_perm _ x).trans ((List.Perm.cons x ih).trans (List.perm_append_comm (l₁:=[x]) (l₂:=l)))
theorem Pk (l:List AK):(Ay l).Pairwise fun a b=>¬GF b a<0:=by
 induction l using YU with
 | h0=>exact List.Pairwise.nil
 | h1 l x ih=>rw [Ik];exact SZ ih x
theorem XV {a b:AK} (h:GF a b=0):a.sq=b.sq:=by
 unfold GF at h;simp only [Bg] at h
 split at h
 ·split at h
  ·rename_i h2;exact I2.1 h2
  ·contradiction
 ·contradiction
theorem O7 {l:List AK} (hn:(l.map AK.sq).Nodup) (h:l.Pairwise fun a b=>¬GF b a<0):l.Pairwise fun a b=>GF a b<0:=by
 rw [List.Nodup,ψe] at hn;refine (h.and hn).imp fun {a b} ⟨g1,g2⟩=>?_;have h1:=D0.anti a b;have h2:GF a b≠0:=fun e=>g2 (XV e);omega
theorem Vc {its ys:List AK} (hn:(its.map AK.sq).Nodup) (h1:ys.Perm its) (h2:ys.Pairwise fun a b=>¬GF b a<0):ys=Ay its:=
 Cv (R:=fun a b=>GF a b<0) (fun x=>by rw [D0.refl];omega) (fun x y z=>D0.trans x y z) (O7 ((h1.map _).nodup_iff.2 hn) h2) (O7 (((YV its).map _).nodup_iff.2 hn) (Pk its)) fun x=>by rw [h1.mem_iff,(YV its).mem_iff]
theorem SU (x:AK):∃cs,As x= .agg cs:=⟨_,Z⟩
abbrev seqA (its:List AK):AV:= .fn 164 [.d (.ptr (.sl none (its.map As)))]
theorem Xw (its:List AK) (hits:its.length≤1000000):AM Tryz.prog 163 [seqA its] [] fun r H'=>r= .own 920 0 its.length∧H'=[(920,[.rowD 55 6 (its.map As)])]:=by
 refine BB Tryz.func163 Z Z Tryz.ntmps163 Z Z Z fun F hF=>(AC (AE ?_));refine AB Z Z (AD (AC (AE (goMv Z Z (V (E1 (cS its hits) Z [920] ⟨Z,trivial⟩ Z Z Z Z Z Z Z Z Z) (AB Z Z (AD (A8 ?_))))))));exact ⟨_,[920],_,A6 Z,Z,Z,Z,Z⟩
theorem Wx (its:List AK) (hits:its.length≤1000000) (hn:(its.map AK.sq).Nodup):AO Tryz.prog 120 [seqA its,.d (.raw (.func (.func 122) #[] #[]))] (.sl none ((Ay its).map As)):=by
 refine BB Tryz.func120 Z Z Tryz.ntmps120 Z Z Z fun F hF=>(AC (AE (AB Z Z (AD (AC ?_)))));refine AE (goMv Z Z (V (E1 (Xw its hits) Z [920] ⟨Z,trivial⟩ Z Z Z Z Z Z Z Z Z) (AB Z Z (AD (AC (AE (goMv Z Z (goMv Z Z ?_))))))));refine V (Ln laysI (k:=6) (by decide) Tryz.isAgg55 Tryz.sizeOf55 Tryz.func122 Z Z SU GF D0.swo its (Ay its) (by omega) (fun x _ y _=>Vb x y) (fun ys g1 g2=>Vc hn g1 g2) Z Z Z Kv Z Z Z Z Z) (AD (AC (L4 (emb:=As) 5 920 (Ay its) Z Z Z (YN its).symm Z Z Z (AE (goMv Z Z (AB Z Z (AD (A8 ?_))))))));exact ⟨_,[],[],A6 Z,Z,Z,Z,Z⟩
theorem LS {l:List AK} (h:Gf l=0):(l.map AK.sq).Nodup:=by
 have h0:=YY.1 h;rw [List.Nodup,ψe,ωv];intro i j hi hj hij e;have:=h0 j (Ξ.2 hj);unfold QH at this;rw [CY A0 hj] at this
 split at this
 ·contradiction
 ·split at this
  ·cases this
  ·rename_i hn
   exact hn (.inr (Mw hj hij e))
theorem C3 {p:Prb} (h:Al p=0):Ey p.ro=0∧Gf p.it=0∧Qa p.it=0:=by
 unfold Al at h
 split at h; · cases h
 have h3:=Jj h;exact ⟨h3 _ (by simp),h3 _ (by simp),h3 _ (by simp)⟩
def ordP (p:Prb):List AK:=if Al p=0 then Ay p.it else []
theorem K9 (p:Prb) (hb:EW p):AO Tryz.prog 68 [.d (Bs p)] (.sl none ((ordP p).map As)):=by
 have hck:=DY p hb;obtain ⟨_,g2,_⟩:=hb
 by_cases hE:Al p=0
 ·rw [hE] at hck;have hR:ordP p=Ay p.it:=θ hE;rw [hR];refine BB Tryz.func68 Z Z Tryz.ntmps68 Z Z Z fun F hF=>(AC (AE (V (Bz 1 Z Z Z Z Z Z Z) (AB Z Z (AD ?_)))));refine AC (AC (AE (J (BM Z Z BW Z Z Z) (J (B2 (hck) Z Z) (J (D6 Z Z Z) (AD (D9 Z ((by decide)) (A3 ?_))))))));refine AC (AE (J (A4 Z EV Z Z Z) (J (A9 Z Z Z Kd Z) (V (E1 (Yb p.it) Z [] trivial Z Z Z Z Z Z Z Z Z) (J (B2 (Wx p.it (by omega) (LS (C3 hE).2.1)) Z Z) (AB Z Z (AD (A8 ?_))))))));exact ⟨_,[],[],A6 Z,Z,Z,Z,Z⟩
 ·have hR:ordP p=[]:=ϑ hE;rw [hR];refine BB Tryz.func68 Z Z Tryz.ntmps68 Z Z Z fun F hF=>(AC (AE ?_));refine V (Bz 1 Z Z Z Z Z Z Z) (AB Z Z (Wc 2 Z (AD (AC (AC (AE (J (BM Z Z BW Z Z Z) (J (B2 (hck) Z Z) ?_))))))));refine J (D6 Z Z Z) (AD (DP Z ((by simpa using hE)) (AC (AE (AB Z Z (Wc 2 Z (AD (A8 ?_))))))));exact ⟨_,[],[],A6 Z,Z,Z,Z,Z⟩
theorem DZ (p:Prb):(ordP p).length≤p.it.length:=by unfold ordP;split<;>simp [YN]
theorem H6 {p:Prb} {i:AK} (h:i∈ordP p):i∈p.it:=by
 unfold ordP at h;split at h
 ·exact (YV _).mem_iff.1 h
 ·cases h
theorem F5 (p:Prb) (hb:EW p):AO Tryz.prog 33 [.d (Bs p)] (.sl none (((ordP p).map AK.id).map AF)):=by
 have hso:=K9 p hb;have hlen:=DZ p;have hb2:=hb.2.1
 obtain ⟨S,hS⟩:∃S,ordP p=S:=⟨_,Z⟩
 rw [hS] at hso hlen⊢;refine BB Tryz.func33 Z Z Tryz.ntmps33 Z Z Z fun F hF=>(AC (AE ?_));refine V (Bz 1 Z Z Z Z Z Z Z) (AB Z Z (AD (AC (AE (AB Z Z (AD (AC (AC ?_))))))));refine OD 3 900 B5 Z Z Z Z (AE (J (BM Z Z BW Z Z Z) (J (B2 (hso) Z Z) (J (CO Z Tryz.underlying37 Z) (goMv Z Z (AD (A5 (B7 (α:=Nat×List Int) (fun q=>⟨20,[(3,(.own 900 0 q.2.length)),(7,(.d (.sl none (S.map As)))),(8,(.d (AF (S.length:Int)))),(9,(.d (AF (q.1:Int))))],[(900,[.rowD 3 1 (q.2.map AF)])]⟩) (fun q=>q.1≤S.length∧q.2=(S.take q.1).map AK.id) (fun q=>S.length - q.1) ((0,[])) (⟨ς _,Z⟩) (A1 hF [900] Z Z ⟨Z,Z,Z,Z,trivial⟩) ?_))))))));rintro ⟨k,acc⟩ ⟨hk0,hA⟩;dsimp only at hk0 hA⊢;refine AC (AE (J (BR Z Z Z) (AD (AC (Ae Z (fun h10=>?_) (fun h10=>?_))))))
 ·have hk1:k<S.length:=Bf h10;refine A3 (AC (A5 (AC (AE ?_))));have hal:acc.length≤100000:=by rw [hA,ψ,Υ];omega
  refine J (Be (k) Z Z (Z) (Ah hk1) Tryz.underlying37 Z Ck Z) (J (HE Z Z CC Z) (V (CF 2 Em Z Z Z Z) (V (Bi Z Z Z Z Z Z Z Ck) (AD (AE (goMv Z Z (J (A4 Z OB Z Z Z) ?_)))))));refine J (A9 Z Z Z Aq Z) (V (D7 3 B5 Z Z Z Z Z Z Z Z) (V (Hz (acc) ([S[k].id]) Z Z Z Z Z Z Z Z B5 (by simp only [Φ];omega) Z Z Z Z) (AB Z Z (AD (AE (J (BA Z Z (AT (k+1) (by omega)) Z) (goMv Z Z (AD ?_))))))));exact ⟨(k+1,_),⟨by show k+1≤_;omega,by show _=(S.take (k+1)).map AK.id;rw [DQ hk1,←hA]⟩,by show S.length - (k+1)<S.length - k;omega,A1 hF [900] Z (Z) ⟨Z,Z,Z,Z,trivial⟩⟩
 ·refine BF (AC (L4 (emb:=AF) 3 900 acc Z Z Z Z Z Z Z (AE (goMv Z Z (AB Z Z (AD (A8 ?_)))))));exact ⟨_,[],[],A6 Z,Z,Z,by rw [hA,Θ (by have h:=h10;omega)],Z⟩
theorem queue_p (p:Prb) (r:AP) (hb:EW p):AO Tryz.prog 173 [.d (Bs p),.d (C1 r)] (.sl none ((JX (ordP p) r).map AF)):=by
 have hso:=K9 p hb;have hlen:=DZ p;have hb2:=hb.2.1;have hmem:∀i∈ordP p,i.po.length≤100000∧i.pa.length≤100000∧i.af.length≤100000:=fun i hi=>hb.2.2 i (H6 hi)
 obtain ⟨S,hS⟩:∃S,ordP p=S:=⟨_,Z⟩
 rw [hS] at hso hlen hmem⊢;refine BB Tryz.func173 Z Z Tryz.ntmps173 Z Z Z fun F hF=>(AC (AE (V (Bz 1 Z Z Z Z Z Z Z) ?_)));refine V (Bz 2 Z Z Z Z Z Z Z) (AB Z Z (AD (AC (AE (AB Z Z (AD (AC (AC ?_))))))));refine OD 5 900 B5 Z Z Z Z (AE (J (BM Z Z BW Z Z Z) (J (B2 (hso) Z Z) (J (CO Z Tryz.underlying37 Z) (goMv Z Z (AD (A5 (B7 (α:=Nat×List Int) (fun q=>⟨26,[(3,(.ptr 2 0 0)),(5,(.own 900 0 q.2.length)),(9,(.d (.sl none (S.map As)))),(10,(.d (AF (S.length:Int)))),(11,(.d (AF (q.1:Int))))],[(2,[.blk 64 [.d (AF r.k),.d (Ao r.acc.o),.d (AF r.acc.k),.d (Ao r.acc.a),.d (Ao r.f),.d (Ao r.t)]]),(900,[.rowD 3 1 (q.2.map AF)])]⟩) (fun q=>q.1≤S.length∧q.2=JX (S.take q.1) r) (fun q=>S.length - q.1) ((0,[])) (⟨ς _,Z⟩) (A1 hF [2,900] Z Z ⟨Z,Z,Z,Z,Z,trivial⟩) ?_))))))));rintro ⟨k,acc⟩ ⟨hk0,hA⟩;dsimp only at hk0 hA⊢;refine AC (AE (J (BR Z Z Z) (AD (AC (Ae Z (fun h12=>?_) (fun h12=>?_))))))
 ·have hk1:k<S.length:=Bf h12;refine A3 (AC (A5 (AC (AE ?_))));have hgi:=hmem _ (κ hk1);have hal:acc.length≤100000:=by rw [hA];unfold JX;rw [ψ];have:=ωh (fun i=>decide (Cg i r<0)) (S.take k);rw [Υ] at this;omega
  refine J (Be (k) Z Z (Z) (Ah hk1) Tryz.underlying37 Z Ck Z) (J (HE Z Z CC Z) (V (CF 3 Em Z Z Z Z) (V (Bi Z Z Z Z Z Z Z Ck) ?_)));refine AD (AC (AE (J (BM Z Z CC Z Z Z) (J (BM Z Z C7 Z Z Z) (J (B2 (WX S[k] r (by omega) (by omega) (by omega)) Z Z) (J (BR Z Z Z) (AD (Ae Z (fun h18=>?_) (fun h18=>?_)))))))))
  ·refine AE (goMv Z Z (J (A4 Z OB Z Z Z) ?_));refine J (A9 Z Z Z Aq Z) (V (D7 4 B5 Z Z Z Z Z Z Z Z) (V (Hz (acc) ([S[k].id]) Z Z Z Z Z Z Z Z B5 (by simp only [Φ];omega) Z Z Z Z) (AB Z Z (AD (AE (J (BA Z Z (AT (k+1) (by omega)) Z) (goMv Z Z (AD ?_))))))));exact ⟨(k+1,_),⟨by show k+1≤_;omega,by show _=JX (S.take (k+1)) r;unfold JX;rw [GN hk1,θ (by simpa using h18),ωc,hA];rfl⟩,by show S.length - (k+1)<S.length - k;omega,A1 hF [2,900] Z (Z) ⟨Z,Z,Z,Z,Z,trivial⟩⟩
  ·refine A3 (AE (J (BA Z Z (AT (k+1) (by omega)) Z) (goMv Z Z (AD ?_))));exact ⟨(k+1,_),⟨by show k+1≤_;omega,by show _=JX (S.take (k+1)) r;unfold JX;rw [GN hk1,ϑ (by simpa using h18),ωk,hA];rfl⟩,by show S.length - (k+1)<S.length - k;omega,A1 hF [2,900] Z (Z) ⟨Z,Z,Z,Z,Z,trivial⟩⟩
 ·refine BF (AC (L4 (emb:=AF) 5 900 acc Z Z Z Z Z Z Z (AE (goMv Z Z (AB Z Z (AD (A8 ?_)))))));exact ⟨_,[],[],A6 Z,Z,Z,by rw [hA,Θ (by have h:=h12;omega)],Z⟩
def NG (l:List AK) (id:Int):AK×Bool:=match l.find? fun x=>decide (x.id=id) with
 | some x=>(x,true)
 | none=>(A0,false)
theorem SW {l:List AK} {id:Int} {k:Nat} (hk:k<l.length) (h0:id∉(l.take k).map AK.id) (h:l[k].id=id):NG l id=(l[k],true):=by
 have:l.find? (fun x=>decide (x.id=id))=some l[k]:=by
  rw [List.find?_eq_some_iff_getElem];refine ⟨by simp [h],k,hk,Z,fun j hj=>?_⟩;simp only [Bool.not_eq_true',decide_eq_false_iff_not];intro e;exact h0 (Mw hk hj e)
 unfold NG;rw [this]
theorem bC {l:List AK} {id:Int} (h:id∉l.map AK.id):NG l id=(A0,false):=by
 have:l.find? (fun x=>decide (x.id=id))=none:=by
  rw [List.find?_eq_none];intro x hx e;exact h (ϱ.2 ⟨x,hx,by simpa using e⟩)
 unfold NG;rw [this]
theorem Xj:∀w O v,AQ w O (.agg [AF 0,AF 0,AF 0,.sl (some true) [],.sl (some true) [],.sl (some true) []]) v ->AQ w O (As A0) v:=fun w O v h=>h.aggMono Z (by simp [D.one]) fun i c c' hc hc' v hv=>by
 match i,hc,hc' with
 | 0,hc,hc'=>injection hc with hc;injection hc' with hc';subst hc hc';exact hv
 | 1,hc,hc'=>injection hc with hc;injection hc' with hc';subst hc hc';exact hv
 | 2,hc,hc'=>injection hc with hc;injection hc' with hc';subst hc hc';exact hv
 | 3,hc,hc'=>injection hc with hc;injection hc' with hc';subst hc hc';exact hv.anyNil
 | 4,hc,hc'=>injection hc with hc;injection hc' with hc';subst hc hc';exact hv.anyNil
 | 5,hc,hc'=>injection hc with hc;injection hc' with hc';subst hc hc';exact hv.anyNil
theorem item_p (p:Prb) (id:Int) (hb:EW p):AO Tryz.prog 24 [.d (Bs p),.d (AF id)] (.tup [As (NG (ordP p) id).1,Ai (NG (ordP p) id).2]):=by
 have hso:=K9 p hb;have hlen:=DZ p;have hb2:=hb.2.1;have hmem:∀i∈ordP p,i.po.length≤100000∧i.pa.length≤100000∧i.af.length≤100000:=fun i hi=>hb.2.2 i (H6 hi)
 obtain ⟨S,hS⟩:∃S,ordP p=S:=⟨_,Z⟩
 rw [hS] at hso hlen hmem⊢;refine BB Tryz.func24 Z Z Tryz.ntmps24 Z Z Z fun F hF=>(AC (AE (V (Bz 1 Z Z Z Z Z Z Z) (V (CF 2 Em Z Z Z Z) (AB Z Z (AD (AC ?_)))))));refine AC (AE (J (BM Z Z BW Z Z Z) (J (B2 (hso) Z Z) (J (CO Z Tryz.underlying37 Z) (goMv Z Z (AD (A5 (B7 (α:=Nat) (fun k=>⟨23,[(1,.d (AF id)),(4,(.ptr 2 0 0)),(9,(.d (.sl none (S.map As)))),(10,(.d (AF (S.length:Int)))),(11,(.d (AF (k:Int))))],[(2,[.blk 55 [.d (AF 0),.d (AF 0),.d (AF 0),I8,I8,I8]])]⟩) (fun k=>k≤S.length∧id∉(S.take k).map AK.id) (fun k=>S.length - k) (0) (⟨ς _,by simp⟩) (A1 hF [2] Z Z ⟨Z,Z,Z,Z,Z,trivial⟩) ?_))))))));rintro k ⟨hk0,hk⟩;refine AC (AE (J (BR Z Z Z) (AD (AC (Ae Z (fun h12=>?_) (fun h12=>?_))))))
 ·have hk1:k<S.length:=Bf h12;refine A3 (AC (A5 (AC (AE ?_))));have hgi:=hmem _ (κ hk1);refine J (Be (k) Z Z (Z) (Ah hk1) Tryz.underlying37 Z Ck Z) (J (HE Z Z CC Z) (V (CF 3 Em Z Z Z Z) (V (Bi Z Z Z Z Z Z Z Ck) ?_)));refine AD (AC (AE (J (A4 Z OB Z Z Z) (J (A9 Z Z Z Aq Z) (goMv Z Z (J (JL Z Z Z) (AD (Ae Z (fun h18=>?_) (fun h18=>?_)))))))))
  ·refine AC (AE (J (BM Z Z CC Z Z Z) (J (B2 (clone_p S[k] (by omega) (by omega) (by omega)) Z Z) (V (Bi Z Z Z Z Z Z Z Ck) (AB Z Z (AD (A8 ?_)))))));exact ⟨_,[],[],A6 Z,Z,Z,by rw [SW hk1 hk h18],Z⟩
  ·refine A3 (AE (J (BA Z Z (AT (k+1) (by omega)) Z) (goMv Z Z (AD ?_))));exact ⟨k+1,⟨by show k+1≤_;omega,X2 hk1 hk h18⟩,by show S.length - (k+1)<S.length - k;omega,A1 hF [2] Z (Z) ⟨Z,Z,Z,Z,Z,trivial⟩⟩
 ·refine BF (AC (AE (J (FZ Em pl55 Z Z Z) (Vn 22 (As A0) Z Xj (V (Bi Z Z Z Z Z Z Z Ck) (AB Z Z (AD (A8 ?_))))))));exact ⟨_,[],[],A6 Z,Z,Z,by rw [bC (by rw [Θ (by have h:=h12;omega)] at hk;exact hk)],Z⟩
theorem Dm {l:List AK} (h:Gf l=0):(l.map AK.id).Nodup:=by
 have h0:=YY.1 h;rw [List.Nodup,ψe,ωv];intro i j hi hj hij e;have:=h0 j (Ξ.2 hj);unfold QH at this;rw [CY A0 hj] at this
 split at this
 ·contradiction
 ·split at this
  ·cases this
  ·rename_i hn
   exact hn (.inl (Mw hj hij e))
theorem own_p (p:Prb) (h:Sml p):AO Tryz.prog 13 [.d (Bs p)] (Bs p):=by
 obtain ⟨g1,g2,g3⟩:=h;refine BB Tryz.func13 Z Z Tryz.ntmps13 Z Z Z fun F hF=>(AC (AE (V (Bz 1 Z Z Z Z Z Z Z) (V (CF 2 Y1 Z Z Z Z) (AD (AC (AE (V (CF 3 Y1 Z Z Z Z) ?_))))))));refine AD (AC (AC (ER 3 0 0 901 Pm Z Z Z Z Z Z Z (AE (AB Z Z (AD (A5 (B7 (α:=List A2) (fun acc=>⟨51,[(1,(.ptr 1 0 0)),(2,(.ptr 2 0 0)),(3,(.ptr 3 0 0)),(4,(.d (AF (acc.length:Int))))],[(901,[.rowD 88 7 (acc.map Cy)]),(1,[Mi 25 p]),(2,[.blk 39 [I8,I8]]),(3,[.blk 39 [.own 901 0 acc.length,I8]])]⟩) (fun acc=>acc=p.ro.take acc.length∧acc.length≤p.ro.length) (fun acc=>p.ro.length - acc.length) ([]) (⟨by simp,ς _⟩) (A1 hF [901,1,2,3] Z Z ⟨Z,Z,Z,Z,trivial⟩) ?_))))))));rintro acc ⟨hI,hk0⟩;refine AC ?_;refine AC (AE (goMv Z Z (J (A4 Z QQ Z Z Z) (J (A9 Z Z Z on22 Z) (J (CO Z Tryz.underlying22 Z) (J (BR Z Z Z) (AD (Ae Z (fun h10=>?_) (fun h10=>?_)))))))))
 ·have hk1:acc.length<p.ro.length:=Bf h10;refine A3 (AC (A5 (Ch [[],[0],[],[2],[],[2,3,4],[2,3,4,5],[2,3,4,5,6],[2,3,4,5,6,7],[],[9],[],[9,10,11],[9,10,11,12],[9,10,11,12,13],[2,3,4,5,6,7,8,9,10,11,12,13,14],[2,3,4,5,6,7,8,9,10,11,12,13,14,15],[0,1,2,3,4,5,6,7,8,9,10,11,12,13,14,15,16],[0,1,2,3,4,5,6,7,8,9,10,11,12,13,14,15,16,17],[0,1,2,3,4,5,6,7,8,9,10,11,12,13,14,15,16,17,18]] mixed Z (Cq (AJ [3] [] Z Z (fun _=>AG (A4 Z Fp Z Z Z)) (Av [13] Z Z (fun _=>AG (A9 Z Z Z Rm Z)) (AJ [1] [] Z Z (fun _=>AG (A4 Z QQ Z Z Z)) ?_)))))));refine Av [15] Z Z (fun _=>AG (A9 Z Z Z on22 Z)) (AJ [4] [] Z Z (fun _=>AG (Ak Z Z)) (AJ [16,17] [] Z Z (fun _=>AG (Be (acc.length) Z Z (Z) (Ah hk1) Tryz.underlying22 Z sz100 Z)) (AJ [18] [] Z Z (fun _=>AG (Dc Z fi100_0 Z Z Z)) (AJ [19] [] Z Z (fun _=>AG (HE Z Z rw98 Z)) (AJ [20] [] Z Z (fun _=>AG (B2 (Zt p.ro[acc.length].r) Z Z)) (AJ [1] [] Z Z (fun _=>AG (A4 Z QQ Z Z Z)) (Av [22] Z Z (fun _=>AG (A9 Z Z Z on22 Z)) (AJ [4] [] Z Z (fun _=>AG (Ak Z Z)) ?_))))))));refine AJ [23,24] [] Z Z (fun _=>AG (Be (acc.length) Z Z (Z) (Ah hk1) Tryz.underlying22 Z sz100 Z)) (AJ [25] [] Z Z (fun _=>AG (Zcf Z fi100_1 Z Z Z)) (AJ [26] [] Z Z (fun _=>AG (Cr Z Z Ke Z)) (AJ [21,27] [] Z Z (fun _=>AG (FZ Qn pl88 Z Z Z)) (Gv [28] [50] [(29,_)] Z Z (fun _=>Gw (D7 50 Pm Z Z Z Z Z Z Z Z)) (.inr ⟨29,_,Z,Z,Z,Z,Z⟩) Z Z Z Z Z (C5 17 Z Z Z (Af 18 Z Z (V (Hz (acc) ([p.ro[acc.length]]) Z Z Z Z Z Z Z Z Pm (by simp only [Φ];omega) Z Z Z Z) (AD ⟨Z,?_⟩))))))));refine Af 19 Z Z (J (A4 Z Fp Z Z Z) (AD ⟨Z,?_⟩));refine Af 20 Z Z (V (Bi Z Z Z Z Z Z Z sz36) (AD ⟨Z,?_⟩));refine C9 (AE (goMv Z Z (J (BA Z Z (Qt acc p.ro[acc.length] (by omega)) Z) (AB Z Z (AD ?_)))));exact ⟨acc++ [p.ro[acc.length]],⟨Lm hI hk1,by rw [Δ];show acc.length+1≤_;omega⟩,by rw [Δ];show p.ro.length - (acc.length+1)<p.ro.length - acc.length;omega,A1 hF [901,1,2,3] Z (Z) ⟨Z,Z,Z,Z,trivial⟩⟩
 ·refine BF (AC (AC ?_));have hacc:=Pg hI (fun h=>h10 (by omega));refine Du (ys:=p.ro.map Cy) 3 0 0 901 Z Z Z (by simp) (by rw [hacc];exact Θ (by simp)) Z Z Z Z Z Z (ER 3 0 1 902 OH Z Z Z Z Z Z Z (AE (AB Z Z (AD (A5 (B7 (α:=List AK) (fun acc2=>⟨51,[(1,(.ptr 1 0 0)),(2,(.ptr 2 0 0)),(3,(.ptr 3 0 0)),(5,(.d (AF (acc2.length:Int))))],[(902,[.rowD 55 6 (acc2.map As)]),(1,[Mi 25 p]),(2,[.blk 39 [I8,I8]]),(3,[.blk 39 [.d (.sl none (p.ro.map Cy)),.own 902 0 acc2.length]])]⟩) (fun acc2=>acc2=p.it.take acc2.length∧acc2.length≤p.it.length) (fun acc2=>p.it.length - acc2.length) ([]) (⟨by simp,ς _⟩) (A1 hF [902,1,2,3] Z Z ⟨Z,Z,Z,Z,trivial⟩) ?_))))));rintro acc2 ⟨hJ,hk2⟩;refine AC ?_;refine AC (AE (goMv Z Z (J (A4 Z JD Z Z Z) (J (A9 Z Z Z UT Z) (J (CO Z Tryz.underlying23 Z) (J (BR Z Z Z) (AD (Ae Z (fun h36=>?_) (fun h36=>?_)))))))))
  ·have hk3:acc2.length<p.it.length:=Bf h36;refine A3 ?_;refine AC (A5 (Ch [[],[0],[],[2],[],[2,3,4],[2,3,4,5],[2,3,4,5,6],[2,3,4,5,6,7],[0,1,2,3,4,5,6,7,8],[0,1,2,3,4,5,6,7,8,9],[0,1,2,3,4,5,6,7,8,9,10]] mixed Z (Cq (AJ [3] [] Z Z (fun _=>AG (A4 Z EV Z Z Z)) (Av [39] Z Z (fun _=>AG (A9 Z Z Z Kd Z)) (AJ [1] [] Z Z (fun _=>AG (A4 Z JD Z Z Z)) (Av [41] Z Z (fun _=>AG (A9 Z Z Z UT Z)) (AJ [5] [] Z Z (fun _=>AG (Ak Z Z)) ?_))))))));have hgi:=g3 _ (κ hk3);refine AJ [42,43] [] Z Z (fun _=>AG (Be (acc2.length) Z Z (Z) (Ah hk3) Tryz.underlying23 Z sz93 Z)) (AJ [44] [] Z Z (fun _=>AG (HE Z Z rw93 Z)) (AJ [45] [] Z Z (fun _=>AG (B2 (XS p.it[acc2.length] (by omega) (by omega) (by omega)) Z Z)) (Gv [46] [51] [(47,_)] Z Z (fun _=>Gw (D7 51 OH Z Z Z Z Z Z Z Z)) (.inr ⟨47,_,Z,Z,Z,Z,Z⟩) Z Z Z Z Z (C5 9 Z Z Z (Af 10 Z Z (V (Hz (acc2) ([p.it[acc2.length]]) Z Z Z Z Z Z Z Z OH (by simp only [Φ];omega) Z Z Z Z) (AD ⟨Z,?_⟩)))))));refine Af 11 Z Z (J (A4 Z EV Z Z Z) (AD ⟨Z,?_⟩));refine Af 12 Z Z (V (Bi Z Z Z Z Z Z Z sz37) (AD ⟨Z,?_⟩));refine C9 (AE (goMv Z Z (J (BA Z Z (Qt acc2 p.it[acc2.length] (by omega)) Z) (AB Z Z (AD ?_)))));exact ⟨acc2++ [p.it[acc2.length]],⟨Lm hJ hk3,by rw [Δ];show acc2.length+1≤_;omega⟩,by rw [Δ];show p.it.length - (acc2.length+1)<p.it.length - acc2.length;omega,A1 hF [902,1,2,3] Z (Z) ⟨Z,Z,Z,Z,trivial⟩⟩
  ·refine BF (AC ?_);have hacc2:=Pg hJ (fun h=>h36 (by omega));refine Du (ys:=p.it.map As) 3 0 1 902 Z Z Z (by simp) (by rw [hacc2];exact Θ (by simp)) Z Z Z Z Z Z (AE (J (BM Z Z BW Z Z Z) (V (Bi Z Z Z Z Z Z Z sz39) (AD (A8 ?_)))));exact ⟨_,[],[],A6 Z,Z,Z,Z,Z⟩
def HD (ids l:List Int) (k:Nat):Int:=if l.getD k 0∉ids then 9 else if l.getD k 0∈l.take k then 7 else 0
def Pq (ids l:List Int):Int:=Bg ((List.range l.length).map (HD ids l))
def D5 (p:Prb) (l:List Int):Int:=if Al p≠0 then Al p else Pq (p.it.map AK.id) l
theorem Pp {ids l:List Int} (h:Pq ids l=0):l.Nodup∧∀x∈l,x∈ids:=by
 have h0:=YY.1 h;refine ⟨ωv.2 fun i j hi hj hij e=>?_,fun x hx=>?_⟩
 ·have:=h0 j (Ξ.2 hj);unfold HD at this;rw [CY 0 hj] at this
  split at this
  ·cases this
  ·split at this
   ·cases this
   ·rename_i hn;exact hn (by rw [←e,χr];exact ⟨i,by omega,Z⟩)
 ·obtain ⟨j,hj,rfl⟩:=ωz hx;have:=h0 j (Ξ.2 hj);unfold HD at this;rw [CY 0 hj] at this
  split at this
  ·cases this
  ·rename_i hn;exact Decidable.not_not.1 hn
theorem Uo (p:Prb) (l:List Int) (hb:EW p) (hl:l.length≤100000) (hE:D5 p l≠0):AO Tryz.prog 159 [.d (Bs p),.d (.sl none (l.map AF))] (.tup [.raw (.map none),AF (D5 p l)]):=by
 have hck:=DY p hb;have hb2:=hb.2.1
 by_cases h0:Al p=0
 ·have hnd:=Dm (C3 h0).2.1;rw [h0] at hck;have hC:D5 p l=Pq (p.it.map AK.id) l:=ϑ (fun h=>h h0);rw [hC] at hE⊢
  obtain ⟨E0,hE0⟩:∃e,Pq (p.it.map AK.id) l=e:=⟨_,Z⟩
  rw [hE0] at hE⊢;refine BB Tryz.func159 Z Z Tryz.ntmps159 Z Z Z fun F hF=>(AC (AE (V (Bz 1 Z Z Z Z Z Z Z) (AB Z Z (AB Z Z (AD (AC (AC ?_))))))));refine AE (J (BM Z Z BW Z Z Z) (J (B2 (hck) Z Z) (AB Z Z (AD (AC (AE (goMv Z Z (J (D6 Z Z Z) ?_))))))));refine AD (D9 Z ((by decide)) (A3 (AC (AE (V (Pb 2 Z Z Z Z) (AB Z Z (AD (AC ?_))))))));refine AC (AE (J (A4 Z EV Z Z Z) (J (A9 Z Z Z Kd Z) (J (CO Z Tryz.underlying37 Z) (goMv Z Z (AD (A5 (B7 (α:=Nat) (fun k=>⟨50,[(1,.d (.sl none (l.map AF))),(7,(.map 2 0)),(20,(.d (.sl none (p.it.map As)))),(21,(.d (AF (p.it.length:Int)))),(22,(.d (AF (k:Int))))],[(2,[BL AF Ai (BC ((p.it.take k).map AK.id))])]⟩) (fun k=>k≤p.it.length) (fun k=>p.it.length - k) (0) (ς _) (A1 hF [2] Z Z ⟨Z,Z,Z,Z,Z,trivial⟩) ?_))))))));rintro k hk0;refine AC (AE (J (BR Z Z Z) (AD (AC (Ae Z (fun h23=>?_) (fun h23=>?_))))))
  ·have hk1:k<p.it.length:=Bf h23;refine A3 (AC (A5 (AC (AE ?_))));have hnk:p.it[k].id∉(p.it.take k).map AK.id:=fun h=>by rw [List.Nodup,ψe,ωv] at hnd;obtain ⟨x,hx,e⟩:=ϱ.1 h;obtain ⟨j,hj,rfl⟩:=χr.1 hx;exact hnd j k (by omega) hk1 (by omega) e
   refine J (Be (k) Z Z (Z) (Ah hk1) Tryz.underlying37 Z Ck Z) (J (HE Z Z CC Z) (V (CF 3 Em Z Z Z Z) (V (Bi Z Z Z Z Z Z Z Ck) (AD (AE ?_)))));refine goMv Z Z (J (A4 Z OB Z Z Z) (J (A9 Z Z Z Aq Z) (V (Tj (BC ((p.it.take k).map AK.id)) (p.it[k].id) (true) Z Z Z EY HP Z Z) (AD (AE (J (BA Z Z (AT (k+1) (by omega)) Z) (goMv Z Z (AD ?_))))))));exact ⟨k+1,by show k+1≤_;omega,by show p.it.length - (k+1)<p.it.length - k;omega,A1 hF [2] Z (by rw [DQ hk1,←cg hnk];rfl) ⟨Z,Z,Z,Z,Z,trivial⟩⟩
  ·refine BF (AC ?_);rw [Θ (show p.it.length≤k by have h:=h23;omega)];refine AE (V (Pb 4 Z Z Z Z) (AB Z Z (AD ?_)));refine AC (AC (AE (goMv Z Z (J (CO Z Tryz.underlying28 Z) (goMv Z Z (AD (A5 (B7 (α:=Nat) (fun k=>⟨50,[(7,(.map 2 0)),(10,(.map 4 0)),(31,(.d (.sl none (l.map AF)))),(32,(.d (AF (l.length:Int)))),(33,(.d (AF (k:Int))))],[(2,[BL AF Ai (BC (p.it.map AK.id))]),(4,[BL AF Ai (BC (l.take k))])]⟩) (fun k=>k≤l.length∧E0=Bg (((List.range l.length).drop k).map (HD (p.it.map AK.id) l))) (fun k=>l.length - k) (0) (⟨ς _,hE0.symm⟩) (A1 hF [2,4] Z Z ⟨Z,Z,Z,Z,Z,trivial⟩) ?_))))))));rintro k ⟨hk0,hk⟩;refine AC (AE (J (BR Z Z Z) (AD (AC (Ae Z (fun h34=>?_) (fun h34=>?_))))))
   ·have hk1:k<l.length:=Bf h34;refine A3 (AC (A5 (AC (AE ?_))));have hEc:=EJ hk1 hk;have hgd:=CY 0 hk1;refine J (Be (k) Z Z (Z) (Ah hk1) Tryz.underlying28 Z BE Z) (J (Cr Z Z Aq Z) ?_);refine AB Z Z (AD (AC (A5 (AC (AE (goMv Z Z (goMv Z Z (J (HQ (BC (p.it.map AK.id)) (l[k]) (false) _ Z Z Z EY HP Td Z Z) ?_))))))));rw [Wd];refine J (Nu Z Z) (AB Z Z (AD (Ae Z (fun h37=>?_) (fun h37=>?_))))
    ·refine AC (AE (AB Z Z (AB Z Z (AD (A8 ?_)))));exact ⟨_,[],[],A6 Z,Z,Z,by rw [hEc.2 9 (by unfold HD;rw [hgd,θ (by simp_all)]) (by decide)],Z⟩
    ·refine AC (AE (goMv Z Z (goMv Z Z (J (HQ (BC (l.take k)) (l[k]) (false) _ Z Z Z EY HP Td Z Z) ?_))));rw [Wd];refine AB Z Z (AD (Ae Z (fun h42=>?_) (fun h42=>?_)))
     ·refine AC (AE (AB Z Z (AB Z Z (AD (A8 ?_)))));exact ⟨_,[],[],A6 Z,Z,Z,by rw [hEc.2 7 (by unfold HD;rw [hgd,ϑ (by simp_all),θ (by simp_all)]) (by decide)],Z⟩
     ·refine A3 ?_;refine AE (goMv Z Z (goMv Z Z (V (Tj (BC (l.take k)) (l[k]) (true) Z Z Z EY HP Z Z) (AD (AE (J (BA Z Z (AT (k+1) (by omega)) Z) (goMv Z Z (AD ?_))))))));exact ⟨k+1,⟨by show k+1≤_;omega,hEc.1 (by unfold HD;rw [hgd,ϑ (by simp_all),ϑ (by simp_all)])⟩,by show l.length - (k+1)<l.length - k;omega,A1 hF [2,4] Z (by rw [φ hk1,←cg (by simp_all)];rfl) ⟨Z,Z,Z,Z,Z,trivial⟩⟩
   ·refine BF (AC (AE (goMv Z Z (AB Z Z (AB Z Z (AD (A8 ?_)))))));exact absurd (by rw [hk,List.drop_of_length_le (by have h:=h34;simp only [ωg];omega)];rfl) hE
 ·have hC:D5 p l=Al p:=θ h0;rw [hC];refine BB Tryz.func159 Z Z Tryz.ntmps159 Z Z Z fun F hF=>(AC (AE (V (Bz 1 Z Z Z Z Z Z Z) (AB Z Z (AB Z Z (AD (AC (AC ?_))))))));refine AE (J (BM Z Z BW Z Z Z) (J (B2 (hck) Z Z) (AB Z Z (AD (AC (AE (goMv Z Z (J (D6 Z Z Z) ?_))))))));refine AD (DP Z ((ωi h0)) (AC (AE (goMv Z Z (AB Z Z (AB Z Z (AD (A8 ?_))))))));exact ⟨_,[],[],A6 Z,Z,Z,Z,Z⟩
theorem YB (p:Prb) (l:List Int) (hb:EW p) (hl:l.length≤100000) (hE:D5 p l=0):AM Tryz.prog 159 [.d (Bs p),.d (.sl none (l.map AF))] [] fun r H'=>r= .tup [.map 4 0,.d (AF 0)]∧H'=[(4,[BL AF Ai (BC l)])]:=by
 have hck:=DY p hb;have hb2:=hb.2.1
 have h0:Al p=0:=by
  unfold D5 at hE;split at hE
  ·exact hE
  ·rename_i h;simpa using h
 have hnd:=Dm (C3 h0).2.1;rw [h0] at hck;have hC:D5 p l=Pq (p.it.map AK.id) l:=ϑ (fun h=>h h0);rw [hC] at hE;refine BB Tryz.func159 Z Z Tryz.ntmps159 Z Z Z fun F hF=>(AC (AE (V (Bz 1 Z Z Z Z Z Z Z) (AB Z Z (AB Z Z (AD (AC (AC ?_))))))));refine AE (J (BM Z Z BW Z Z Z) (J (B2 (hck) Z Z) (AB Z Z (AD (AC (AE (goMv Z Z (J (D6 Z Z Z) ?_))))))));refine AD (D9 Z ((by decide)) (A3 (AC (AE (V (Pb 2 Z Z Z Z) (AB Z Z (AD (AC ?_))))))));refine AC (AE (J (A4 Z EV Z Z Z) (J (A9 Z Z Z Kd Z) (J (CO Z Tryz.underlying37 Z) (goMv Z Z (AD (A5 (B7 (α:=Nat) (fun k=>⟨50,[(1,.d (.sl none (l.map AF))),(7,(.map 2 0)),(20,(.d (.sl none (p.it.map As)))),(21,(.d (AF (p.it.length:Int)))),(22,(.d (AF (k:Int))))],[(2,[BL AF Ai (BC ((p.it.take k).map AK.id))])]⟩) (fun k=>k≤p.it.length) (fun k=>p.it.length - k) (0) (ς _) (A1 hF [2] Z Z ⟨Z,Z,Z,Z,Z,trivial⟩) ?_))))))));rintro k hk0;refine AC (AE (J (BR Z Z Z) (AD (AC (Ae Z (fun h23=>?_) (fun h23=>?_))))))
 ·have hk1:k<p.it.length:=Bf h23;refine A3 (AC (A5 (AC (AE ?_))));have hnk:p.it[k].id∉(p.it.take k).map AK.id:=fun h=>by rw [List.Nodup,ψe,ωv] at hnd;obtain ⟨x,hx,e⟩:=ϱ.1 h;obtain ⟨j,hj,rfl⟩:=χr.1 hx;exact hnd j k (by omega) hk1 (by omega) e
  refine J (Be (k) Z Z (Z) (Ah hk1) Tryz.underlying37 Z Ck Z) (J (HE Z Z CC Z) (V (CF 3 Em Z Z Z Z) (V (Bi Z Z Z Z Z Z Z Ck) (AD (AE ?_)))));refine goMv Z Z (J (A4 Z OB Z Z Z) (J (A9 Z Z Z Aq Z) (V (Tj (BC ((p.it.take k).map AK.id)) (p.it[k].id) (true) Z Z Z EY HP Z Z) (AD (AE (J (BA Z Z (AT (k+1) (by omega)) Z) (goMv Z Z (AD ?_))))))));exact ⟨k+1,by show k+1≤_;omega,by show p.it.length - (k+1)<p.it.length - k;omega,A1 hF [2] Z (by rw [DQ hk1,←cg hnk];rfl) ⟨Z,Z,Z,Z,Z,trivial⟩⟩
 ·refine BF (AC ?_);rw [Θ (show p.it.length≤k by have h:=h23;omega)];refine AE (V (Pb 4 Z Z Z Z) (AB Z Z (AD ?_)));refine AC (AC (AE (goMv Z Z (J (CO Z Tryz.underlying28 Z) (goMv Z Z (AD (A5 (B7 (α:=Nat) (fun k=>⟨50,[(7,(.map 2 0)),(10,(.map 4 0)),(31,(.d (.sl none (l.map AF)))),(32,(.d (AF (l.length:Int)))),(33,(.d (AF (k:Int))))],[(2,[BL AF Ai (BC (p.it.map AK.id))]),(4,[BL AF Ai (BC (l.take k))])]⟩) (fun k=>k≤l.length) (fun k=>l.length - k) (0) (ς _) (A1 hF [2,4] Z Z ⟨Z,Z,Z,Z,Z,trivial⟩) ?_))))))));rintro k hk0;refine AC (AE (J (BR Z Z Z) (AD (AC (Ae Z (fun h34=>?_) (fun h34=>?_))))))
  ·have hk1:k<l.length:=Bf h34;refine A3 (AC (A5 (AC (AE ?_))));have hz:=YY.1 hE k (Ξ.2 hk1);have hgd:=CY 0 hk1;have hin:l[k]∈p.it.map AK.id:=(Pp hE).2 _ (κ hk1);have hnk:l[k]∉l.take k:=fun h=>by have hn2:=(Pp hE).1;rw [List.Nodup,ωv] at hn2;obtain ⟨j,hj,e⟩:=χr.1 h;exact hn2 j k (by omega) hk1 (by omega) e
   refine J (Be (k) Z Z (Z) (Ah hk1) Tryz.underlying28 Z BE Z) (J (Cr Z Z Aq Z) ?_);refine AB Z Z (AD (AC (A5 (AC (AE (goMv Z Z (goMv Z Z (J (HQ (BC (p.it.map AK.id)) (l[k]) (false) _ Z Z Z EY HP Td Z Z) ?_))))))));rw [Wd];refine J (Nu Z Z) (AB Z Z (AD (Ae Z (fun h37=>?_) (fun h37=>?_))))
   ·refine AC (AE (AB Z Z (AB Z Z (AD (A8 ?_)))));exact absurd hin (by simp_all)
   ·refine AC (AE (goMv Z Z (goMv Z Z (J (HQ (BC (l.take k)) (l[k]) (false) _ Z Z Z EY HP Td Z Z) ?_))));rw [Wd];refine AB Z Z (AD (Ae Z (fun h42=>?_) (fun h42=>?_)))
    ·refine AC (AE (AB Z Z (AB Z Z (AD (A8 ?_)))));exact absurd hnk (by simp_all)
    ·refine A3 ?_;refine AE (goMv Z Z (goMv Z Z (V (Tj (BC (l.take k)) (l[k]) (true) Z Z Z EY HP Z Z) (AD (AE (J (BA Z Z (AT (k+1) (by omega)) Z) (goMv Z Z (AD ?_))))))));exact ⟨k+1,by show k+1≤_;omega,by show l.length - (k+1)<l.length - k;omega,A1 hF [2,4] Z (by rw [φ hk1,←cg hnk];rfl) ⟨Z,Z,Z,Z,Z,trivial⟩⟩
  ·refine BF (AC (AE (goMv Z Z (AB Z Z (AB Z Z (AD (A8 ?_)))))));exact ⟨_,[4],_,A6 Z,Z,Z,Z,by rw [Θ (show l.length≤k by have h:=h34;omega)]<;>rfl⟩
theorem DL (x:AP×Int) (l:List (AP×Int)) (r:AP):Ap (x::l) r=(if x.1=r then x.2 else 0)+Ap l r:=by simp [Ap]
theorem Sx {l m:List (AP×Int)} (h:l.Perm m) (r:AP):Ap l r=Ap m r:=by
 induction h with
 | nil=>rfl
 | cons x _ ih=>rw [DL,DL,ih]
 | swap x y l=>simp only [DL];omega
 | trans _ _ ih1 ih2=>rw [ih1,ih2]
theorem Ff {l:List (AP×Int)} {r:AP} (h:r∉l.map Prod.fst):Ap l r=0:=by
 induction l with
 | nil=>rfl
 | cons x l ih=>
  rw [ωm,Ψ] at h;rw [DL,ϑ (fun e=>h (.inl e.symm)),ih (fun h'=>h (.inr h'))];rfl
theorem Ul {l:List (AP×Int)} (hn:(l.map Prod.fst).Nodup) {r:AP} {v:Int} (h:(r,v)∈l):Ap l r=v:=by
 induction l with
 | nil=>cases h
 | cons x l ih=>
  rw [ωm,φc] at hn;rw [DL];rcases Ψ.1 h with h | h
  ·subst h;rw [θ Z,Ff hn.1];show v+0=v;omega
  ·rw [ϑ (fun e=>hn.1 (by rw [e];exact ϱ.2 ⟨_,h,Z⟩)),ih hn.2 h];omega
theorem Sw (c:List (AP×Int)) (r:AP):Ap (sumL c) r=Ap c r:=by
 by_cases h:r∈(sumL c).map Prod.fst
 ·obtain ⟨⟨r',v⟩,hx,e⟩:=ϱ.1 h;have e:r'=r:=e;subst e;rw [Ul (Es c) hx,((HV c r' v).1 hx).2]
 ·rw [Ff h,Ff fun h'=>h ((IH c r).2 h')]
theorem lft_sub {α β:Type} {m:List (α×β)} {B seen:List Nat} {x:α×β} (h:x∈Bt m B seen):x∈m:=by
 unfold Bt at h;obtain ⟨y,hy,rfl⟩:=ϱ.1 h;exact (List.of_mem_zip (a:=y.1) (b:=y.2) (ωb.1 hy).1).1
theorem WG {α β:Type} {m:List (α×β)} {B seen:List Nat}:(Bt m B seen).length≤m.length:=by
 unfold Bt;rw [ψ];refine ωe (ωh _ _) ?_;rw [List.length_zip];omega
def L8 (l:List AK) (r:AP):Int:=(l.map fun i=>Ap (ctr i) r).sum
theorem Wp (l:List AK) (i:AK) (r:AP):L8 (l++ [i]) r=L8 l r+Ap (ctr i) r:=by simp [L8]
def inB (l:List Int) (i:AK):Bool:=decide (i.id∈l)
theorem SV {l:List AK} (h:Gf l=0):∀i∈l,BP i=0:=fun i hi=>by
 have h0:=YY.1 h;obtain ⟨j,hj,rfl⟩:=ωz hi;have:=h0 j (Ξ.2 hj);unfold QH at this;rw [CY A0 hj] at this
 split at this
 ·contradiction
 ·rename_i hn;simpa using hn
theorem ML {i:AK} (h:BP i=0) (r:AP): -Mx≤Ap (ctr i) r∧Ap (ctr i) r≤Mx:=by
 have hb:=(Hu h).2.2.2.2.2.2.2.2;unfold TP at hb
 split at hb
 ·cases hb
 ·rename_i hn
  by_cases hr:r∈(sumL (ctr i)).map Prod.fst
  ·obtain ⟨⟨r',v⟩,hx,e⟩:=ϱ.1 hr;have e:r'=r:=e;subst e;have hv:=((HV _ _ _).1 hx).2;rw [←hv];exact Decidable.not_not.1 fun hh=>hn ⟨_,hx,hh⟩
  ·rw [Ff fun h'=>hr ((IH _ r).2 h')];simp only [Mx];omega
theorem bnd_E {i:AK} (h:BP i=0):Qm (sumL (ctr i)):=fun x hx=>by
 have hv:=((HV (ctr i) x.1 x.2).1 hx).2;rw [hv];simpa [Mx] using ML h x.1
theorem len_E {i:AK} (h:BP i=0):(sumL (ctr i)).length≤1280:=by
 have hb:=(Hu h).1;have h1:=hb.po;have h2:=hb.pa;have:=HX (ctr i);rw [JF] at this;omega
theorem MV {l:List AK} (h:∀i∈l,BP i=0) (hl:l.length≤1000) (r:AP): -1000000000000000000≤L8 l r∧L8 l r≤1000000000000000000:=by
 have:=O6 (l:=l) (f:=fun i=>Ap (ctr i) r) (B:=1000000000000000) (fun i hi=>by simpa [Mx] using ML (h i hi) r) 1000 hl (by omega);unfold L8;omega
def Tq (p:Prb) (l:List Int):List A2:=p.ro.map fun x=>⟨x.r,x.n+L8 (p.it.filter (inB l)) x.r⟩
theorem K3 {l:List A2} (h:Ey l=0):∀x∈l,-4000000000000000≤x.n∧x.n≤4000000000000000:=fun x hx=>by
 have h0:=YY.1 h;obtain ⟨j,hj,rfl⟩:=ωz hx;have:=h0 j (Ξ.2 hj);unfold Pu at this;rw [CY DX hj] at this
 split at this
 ·contradiction
 ·split at this
  ·cases this
  ·rename_i hn;simp only [Mx] at hn;omega
theorem Sf {α:Type} {p:α ->Bool} {l:List α} {k:Nat} (hk:k<l.length):(l.take (k+1)).filter p=(l.take k).filter p++(if p l[k] then [l[k]] else []):=GN hk
theorem Yh (p:Prb) (l:List Int) (hb:EW p) (hl:l.length≤100000) (h1000:p.it.length≤1000):AO Tryz.prog 113 [.d (Bs p),.d (.sl none (l.map AF))] (.tup [.sl none ((if D5 p l=0 then Tq p l else []).map Cy),AF (D5 p l)]):=by
 by_cases hE:D5 p l=0
 ·have hc:=(YB p l hb hl hE).by [(4,40)] rfl
  have h0:Al p=0:=by
   unfold D5 at hE;split at hE
   ·exact hE
   ·rename_i h;simpa using h
  have hck:=SV (C3 h0).2.1;have hram:=K3 (C3 h0).1;have hb1:=hb.1;rw [θ hE,hE];refine BB Tryz.func113 Z Z Tryz.ntmps113 Z Z Z fun F hF=>(AC (AE (V (Bz 1 Z Z Z Z Z Z Z) (AB Z Z ?_))));refine AB Z Z (AD (AC (AE (J (BM Z Z BW Z Z Z) (goMv Z Z (V (E1 hc Z [40] ⟨Z,trivial⟩ Z Z Z Z Z Z Z Z Z) (goMv Z Z (J (Ct Z Z Z) ?_))))))));refine J (Ct Z Z Z) (AB Z Z (AB Z Z (AD (AC (AC (AE (goMv Z Z (J (D6 Z Z Z) ?_))))))));refine AD (D9 Z ((by decide)) (A3 (AC (AE (V (Pb 2 Z Z Z Z) (AB Z Z (AD (AC ?_))))))));refine AC (AE (J (A4 Z EV Z Z Z) (J (A9 Z Z Z Kd Z) (J (CO Z Tryz.underlying37 Z) (goMv Z Z (AD (A5 (B7 (α:=Nat×List (AP×Int)) (fun q=>⟨76,[(2,(.ptr 1 0 0)),(6,(.map 40 0)),(8,(.map 2 0)),(27,(.d (.sl none (p.it.map As)))),(28,(.d (AF (p.it.length:Int)))),(29,(.d (AF (q.1:Int))))],[(1,[Mi 39 p]),(40,[BL AF Ai (BC l)]),(2,[BL C1 AF q.2])]⟩) (fun q=>q.1≤p.it.length∧∀r,A7 q.2 r 0=L8 ((p.it.take q.1).filter (inB l)) r) (fun q=>p.it.length - q.1) ((0,[])) (⟨ς _,fun _=>rfl⟩) (A1 hF [1,40,2] Z Z ⟨Z,Z,Z,Z,Z,Z,trivial⟩) ?_))))))));rintro ⟨k,M⟩ ⟨hk0,hM⟩;dsimp only at hk0 hM⊢;refine AC (AE (J (BR Z Z Z) (AD (AC (Ae Z (fun h30=>?_) (fun h30=>?_))))))
  ·have hk1:k<p.it.length:=Bf h30;refine A3 (AC (A5 (AC (AE ?_))));have hci:=hck _ (κ hk1);have hs:=(Ph p.it[k] (Hu hci).1).by [(2,41)] rfl;have hEb:=bnd_E hci;have hEl:=len_E hci;have hEs:=fun r=>Sw (ctr p.it[k]) r;have hEn:=Es (ctr p.it[k]);have hT:=MV (l:=(p.it.take k).filter (inB l)) (fun i hi=>hck i (ωy (ωb.1 hi).1)) (ωe (ωh _ _) (by rw [Υ];omega))
   obtain ⟨E,hEE⟩:∃E,sumL (ctr p.it[k])=E:=⟨_,Z⟩
   rw [hEE] at hs hEb hEl hEs hEn;refine J (Be (k) Z Z (Z) (Ah hk1) Tryz.underlying37 Z Ck Z) (J (HE Z Z CC Z) (V (CF 3 Em Z Z Z Z) ?_));refine V (Bi Z Z Z Z Z Z Z Ck) (AD (AC (AC (AE (goMv Z Z (J (A4 Z OB Z Z Z) (J (A9 Z Z Z Aq Z) (J (HQ (BC l) (p.it[k].id) (false) _ Z Z Z EY HP Td Z Z) ?_))))))));rw [Wd];refine J (Nu Z Z) (AD (Ae Z (fun h37=>?_) (fun h37=>?_)))
   ·refine BF (AE (J (BA Z Z (AT (k+1) (by omega)) Z) (goMv Z Z (AD ?_))));exact ⟨(k+1,M),⟨by show k+1≤_;omega,fun r=>by show A7 M r 0=L8 ((p.it.take (k+1)).filter (inB l)) r;rw [Sf hk1,ϑ (by unfold inB;simpa using h37),ωk];exact hM r⟩,by show p.it.length - (k+1)<p.it.length - k;omega,A1 hF [1,40,2] Z (Z) ⟨Z,Z,Z,Z,Z,Z,trivial⟩⟩
   ·refine A3 (AC (AE (J (BM Z Z CC Z Z Z) (V (E1 hs Z [41] ⟨Z,trivial⟩ Z Z Z Z Z Z Z Z Z) (V (Fy 4 Z Z Z Bv Z Z Z Z) (AD (A5 (B7 (α:=List Nat×List (AP×Int)) (fun q=>⟨76,[(2,(.ptr 1 0 0)),(6,(.map 40 0)),(8,(.map 2 0)),(27,(.d (.sl none (p.it.map As)))),(28,(.d (AF (p.it.length:Int)))),(29,(.d (AF (k:Int)))),(40,(.ptr 4 0 0))],[(4,[.iter 41 0 E.length q.1]),(41,[BL C1 AF E]),(1,[Mi 39 p]),(40,[BL AF Ai (BC l)]),(2,[BL C1 AF q.2])]⟩) (fun q=>∀r,A7 q.2 r 0+Ap (Bt E (List.range E.length) q.1) r=L8 ((p.it.take k).filter (inB l)) r+Ap E r) (fun q=>(Bt E (List.range E.length) q.1).length) (([],M)) (fun r=>by show A7 M r 0+Ap (Bt E (List.range E.length) []) r=_;rw [DK (by simp),hM r]) (A1 hF [4,41,1,40,2] Z Z ⟨Z,Z,Z,Z,Z,Z,Z,trivial⟩) ?_))))))));rintro ⟨seen,N⟩ hI;dsimp only at hI⊢;refine AC (AE (Kf (E) Z Z Z Z (fun hl41=>?_) (fun j41 b41 k41 v41 hm41 hb41 hB41 hp41=>⟨_,Z,?_⟩)))
    ·have hfin:∀r,A7 N r 0=L8 ((p.it.take k).filter (inB l)) r+Ap (ctr p.it[k]) r:=fun r=>by have h1:=hI r;rw [hl41] at h1;rw [←hEs r];have h2:Ap ([]:List (AP×Int)) r=0:=rfl;omega
     refine J (Ct Z Z Z) (AD (AC (D9 Z Z (BF (AE (J (BA Z Z (AT (k+1) (by omega)) Z) (goMv Z Z (AD ?_))))))));exact ⟨(k+1,N),⟨by show k+1≤_;omega,fun r=>by show A7 N r 0=L8 ((p.it.take (k+1)).filter (inB l)) r;rw [Sf hk1,θ (by unfold inB;simpa using h37),Wp];exact hfin r⟩,by show p.it.length - (k+1)<p.it.length - k;omega,A1 hF [1,40,2] Z (Z) ⟨Z,Z,Z,Z,Z,Z,trivial⟩⟩
    ·refine J (Ct Z Z Z) (AD (AC ?_));refine DP Z Z (A3 (A5 (AC (AE (J (Fz (E) j41 b41 Z Z Z hm41 hb41 Z) (J (Ct Z Z Z) (J (Ct Z Z Z) (V (CF 5 KP Z Z Z Z) ?_))))))));refine V (Bi Z Z Z Z Z Z Z Yr) (AB Z Z (AD (Ch [[],[],[0,1],[],[0,1,2,3],[0,1,3],[0,1,3,5],[0,1,2,3,4,5,6]] mixed Z (Xq 2 ([BL C1 AF (BY N k41 0)]) Z (AJ [8] [] Z Z (fun _=>AG (Ak Z Z)) (Av [11] Z Z (fun _=>AG (BM Z Z C7 Z Z Z)) (I0 [46,47] [] Z Z Z (fun _=>AG (HQ (N) (k41) (0) _ Z Z Z Bv CJ Nx Z Z)) (fun _=>AG (HQ (BY (N) (k41) (0)) (k41) (0) _ Z Z Z Bv CJ Nx (Dl _ _ _ _) Z)) (AJ [12] [] Z Z (fun _=>AG (Ak Z Z)) ?_))))))))
     have hNb: -6000000000000000000≤A7 N k41 0+v41∧A7 N k41 0+v41≤6000000000000000000:=by {have h1:=hI k41;have h2:=Gs (l:=Bt E (List.range E.length) seen) (fun x hx=>hEb x (lft_sub hx)) k41;have h3:=Gs hEb k41;have h4:=WG (m:=E) (B:=List.range E.length) (seen:=seen);have h5:=hT k41;have h6:=hEb (k41,v41) (ζ hm41);simp only at h6;omega}
     refine AJ [48,49] [] Z Z (fun _=>AG (BA Z Z (Ω _ (by omega)) Z)) (Gv [46,47] [2] [(51,_)] Z Z (fun _=>Gw (GX (N) (k41) (0) Z Z Z Bv CJ Nx Z Z)) (.inr ⟨51,_,Z,Z,Z,Z,Z⟩) Z Z Z Z Z ?_ (hCn:=P7 Z));refine AJ [51] [] Z Z (fun _=>AG (Ct Z Z Z)) (C5 7 Z Z Z (Af 8 Z Z (V (GZ (N) (k41) (0) (A7 N k41 0+v41) Z Z Z CJ Z Z) (AD ⟨Z,?_⟩))));refine C9 ?_;exact ⟨(seen++ [b41],_),(fun r=>by show A7 (Aw N k41 (A7 N k41 0+v41)) r 0+Ap (Bt E (List.range E.length) (seen++ [b41])) r=_;have h1:=hI r;rw [Sx hp41,DL] at h1;rw [He];by_cases e:r=k41; · {rw [θ e];rw [θ e.symm] at h1;rw [e] at h1⊢;omega}; · {rw [ϑ e];rw [ϑ (fun h=>e h.symm)] at h1;omega}),by show (Bt E (List.range E.length) (seen++ [b41])).length<(Bt E (List.range E.length) seen).length;rw [hp41.length_eq];exact χk _,A1 hF [4,41,1,40,2] Z (Z) ⟨Z,Z,Z,Z,Z,Z,Z,trivial⟩⟩
  ·refine BF (AC ?_);have hfull:p.it.take k=p.it:=Θ (by have h:=h30;omega);rw [hfull] at hM;have hTb:=MV (l:=p.it.filter (inB l)) (fun i hi=>hck i (ωb.1 hi).1) (ωe (ωh _ _) h1000);refine AE (AB Z Z (AD (AC (AC ?_))));refine OD 13 900 Pm Z Z Z Z (AE (J (A4 Z Fp Z Z Z) (J (A9 Z Z Z Rm Z) (J (CO Z Tryz.underlying36 Z) (goMv Z Z (AD (A5 (B7 (α:=List A2) (fun acc=>⟨76,[(8,(.map 2 0)),(13,(.own 900 0 acc.length)),(55,(.d (.sl none (p.ro.map Cy)))),(56,(.d (AF (p.ro.length:Int)))),(57,(.d (AF (acc.length:Int))))],[(900,[.rowD 88 7 (acc.map Cy)]),(2,[BL C1 AF M])]⟩) (fun acc=>acc.length≤p.ro.length∧acc=(Tq p l).take acc.length) (fun acc=>p.ro.length - acc.length) ([]) (⟨ς _,by simp⟩) (A1 hF [900,2] Z Z ⟨Z,Z,Z,Z,Z,trivial⟩) ?_))))))));rintro acc ⟨ha0,hA⟩;refine AC (AE (J (BR Z Z Z) (AD (AC (Ae Z (fun h58=>?_) (fun h58=>?_))))))
   ·have ha1:acc.length<p.ro.length:=Bf h58;refine A3 (AC (A5 ?_));refine AC (AE (J (Be (acc.length) Z Z (Z) (Ah ha1) Tryz.underlying36 Z OG Z) (J (HE Z Z ZW Z) (V (CF 6 Qn Z Z Z Z) (V (Bi Z Z Z Z Z Z Z OG) (AD (Ch [[],[],[1],[],[3],[],[],[6],[5,6,7],[3,4,5,6,7,8],[1,2,3,4,5,6,7,8,9],[1,2,3,4,5,6,7,8,9,10],[0,1,2,3,4,5,6,7,8,9,10,11],[0,1,2,3,4,5,6,7,8,9,10,11,12]] mixed Z (Cq ?_))))))));refine AJ [13] [] Z Z (fun _=>AG (Ak Z Z)) (AJ [15] [] Z Z (fun _=>AG (A4 Z FG Z Z Z)) (Av [62] Z Z (fun _=>AG (BM Z Z C7 Z Z Z)) (AJ [15] [] Z Z (fun _=>AG (A4 Z QO Z Z Z)) (Av [64] Z Z (fun _=>AG (A9 Z Z Z Ke Z)) (AJ [8] [] Z Z (fun _=>AG (Ak Z Z)) (AJ [15] [] Z Z (fun _=>AG (A4 Z FG Z Z Z)) (Av [67] Z Z (fun _=>AG (BM Z Z C7 Z Z Z)) (Av [66,68] Z Z (fun _=>AG (HQ (M) (p.ro[acc.length].r) (0) _ Z Z Z Bv CJ Nx Z Z)) ?_))))))));have hr1:=hram _ (κ ha1);have hr2:=hTb p.ro[acc.length].r;have hr3:=hM p.ro[acc.length].r;refine AJ [65,69] [] Z Z (fun _=>AG (BA Z Z (Ω _ (by omega)) Z)) (AJ [63,70] [] Z Z (fun _=>AG (FZ Qn pl88 Z Z Z)) (Gv [71] [50] [(72,_)] Z Z (fun _=>Gw (D7 50 Pm Z Z Z Z Z Z Z Z)) (.inr ⟨72,_,Z,Z,Z,Z,Z⟩) Z Z Z Z Z (C5 12 Z Z Z (Af 13 Z Z (V (Hz (acc) ([⟨p.ro[acc.length].r,p.ro[acc.length].n+A7 M p.ro[acc.length].r 0⟩]) Z Z Z Z Z Z Z Z Pm (by simp only [Φ];omega) Z Z Z Z) (AD ⟨Z,?_⟩))))));refine Af 14 Z Z (AB Z Z (AD ⟨Z,?_⟩));refine C9 (AE (J (BA Z Z (Qt acc (⟨p.ro[acc.length].r,p.ro[acc.length].n+A7 M p.ro[acc.length].r 0⟩:A2) (by omega)) Z) (goMv Z Z (AD ?_))));exact ⟨acc++ [⟨p.ro[acc.length].r,p.ro[acc.length].n+A7 M p.ro[acc.length].r 0⟩],⟨by rw [Δ];show acc.length+1≤_;omega,by rw [Δ];show _=(Tq p l).take (acc.length+1);rw [φ (by unfold Tq;simpa using ha1),←hA];congr 1;unfold Tq;simp [hM]⟩,by rw [Δ];show p.ro.length - (acc.length+1)<p.ro.length - acc.length;omega,A1 hF [900,2] Z (Z) ⟨Z,Z,Z,Z,Z,trivial⟩⟩
   ·refine BF (AC ?_);have hfa:acc=Tq p l:=by rw [hA];exact Θ (by unfold Tq;rw [ψ];have h:=h58;omega)
    refine L4 (emb:=Cy) 13 900 acc Z Z Z Z Z Z Z (AE (goMv Z Z (AB Z Z (AB Z Z (AD (A8 ?_))))));exact ⟨_,[],[],A6 Z,Z,Z,by rw [hfa],Z⟩
 ·have hc:=Uo p l hb hl hE;rw [ϑ hE];refine BB Tryz.func113 Z Z Tryz.ntmps113 Z Z Z fun F hF=>(AC (AE (V (Bz 1 Z Z Z Z Z Z Z) (AB Z Z (Wc 4 Z (AB Z Z ?_))))));refine AD (AC (AE (J (BM Z Z BW Z Z Z) (goMv Z Z (J (B2 (hc) Z Z) (goMv Z Z (J (DD Z Z Z) (J (DD Z Z Z) ?_))))))));refine AB Z Z (AB Z Z (AD (AC (AC (AE (goMv Z Z (J (D6 Z Z Z) (AD ?_))))))));refine DP Z ((ωi hE)) (AC (AE (goMv Z Z (AB Z Z (Wc 4 Z (AB Z Z (AD (A8 ?_))))))));exact ⟨_,[],[],A6 Z,Z,Z,Z,Z⟩
theorem cH (l:List Int) (hl:l.length≤1000000):AM Tryz.prog 89 [.d (.sl none (l.map AF))] [] fun r H'=>r= .own 20 0 l.length∧H'=[(20,[.rowD 3 1 (l.map AF)])]:=by
 refine BB Tryz.func89 Z Z Tryz.ntmps89 Z Z Z fun F hF=>(AC (AE (AB Z Z ?_)));skip;refine AD (AC (AC (AE (goMv Z Z (FC 3 Z (fun h0=>?_) ?_)))))
 ·refine J (EA Tryz.underlying28 Z Z) (AD (DP Z (Z) (AC (AE (AB Z Z (Vq 2 20 B5 Z Z Z Z (AD (A8 ?_))))))));exact ⟨_,[20],_,A6 Z,Z,Z,by rw [←ψ (f:=AF),h0];rfl,by rw [h0]⟩
 ·refine J (EA Tryz.underlying28 Z Z) ?_;refine AD (D9 Z (Z) (A3 (AC (AE (V (D7 20 B5 Z Z Z Z Z Z Z Z) (goMv Z Z (V (Ev (([]:List Int)) (l) Z Z Z Z Z Z (fun _=>rfl) B5 (by simp only [φo];omega) Z Z Z Z) (AB Z Z ?_))))))));skip;refine AD (A8 ?_);exact ⟨_,[20],_,A6 Z,Z,Z,by simp,by simp⟩
def Bm (p:Prb) (id:Int):AK:=p.it.getD ((p.it.map AK.id).idxOf id) A0
theorem bB {p:Prb} {id:Int} (h:id∈p.it.map AK.id):∃hk:(p.it.map AK.id).idxOf id<p.it.length,ixI id (p.it.map AK.id)=(((p.it.map AK.id).idxOf id:Nat):Int)∧Bm p id=p.it[(p.it.map AK.id).idxOf id]∧(Bm p id).id=id:=by
 have hk:(p.it.map AK.id).idxOf id<(p.it.map AK.id).length:=List.idxOf_lt_length_iff.2 h;have hk':(p.it.map AK.id).idxOf id<p.it.length:=by simpa using hk
 have he:Bm p id=p.it[(p.it.map AK.id).idxOf id]:=CY A0 hk';refine ⟨hk',θ h,he,?_⟩;have h1:=φe hk;rw [ωd] at h1;rw [he];exact h1
theorem Zr {α:Type} {l m:List α} (h:l.Perm m) (f:α ->Int):(l.map f).sum=(m.map f).sum:=by
 induction h with
 | nil=>rfl
 | cons x _ ih=>simp [ih]
 | swap x y l=>simp;omega
 | trans _ _ ih1 ih2=>rw [ih1,ih2]
end Go.Proofs.YteifpcnphnhaoaaGreat
