import Derived.Test.YteifpcnphnhaoaaGreatMg18
namespace Go.Proofs.YteifpcnphnhaoaaGreat
open Go.RowKit
set_option maxRecDepth 100000
abbrev Ag (b:Bool):D:= .raw (.bool b)
def As {α:Type} (l:List α):List (α×Bool):=l.map fun a=>(a,true)
theorem Wq {α:Type} [DecidableEq α] (l:List α) (a:α):A2 (As l) a false=decide (a∈l):=by
 induction l with
 | nil=>rfl
 | cons b l ih=>
  simp only [As,ωm,A2]
  by_cases h:a=b
  ·rw [θ h];simp [h]
  ·rw [ϑ h];simp only [As] at ih;rw [ih];simp [h]
theorem dH {α:Type} [DecidableEq α] {l:List α} {a:α} (h:a∉l):Au (As l) a true=As (l++ [a]):=by
 induction l with
 | nil=>rfl
 | cons b l ih=>
  simp only [Φ,not_or] at h;simp only [As,ωm,φc,Au];rw [ϑ h.1];have:=ih h.2;simp only [As] at this;rw [this]
def DB:Roo:=⟨⟨0,T3,[],[]⟩,0⟩
def OL (l:List Roo) (k:Nat):Int:=if BJ (l.getD k DB).r≠0 then BJ (l.getD k DB).r else if ¬(-4*Mx≤(l.getD k DB).n∧(l.getD k DB).n≤4*Mx) then 12 else if (l.getD k DB).r∈(l.take k).map Roo.r then 7 else 0
def EP (l:List Roo):Int:=Bd ((List.range l.length).map (OL l))
theorem Bp {α:Type} {l:List α} {k:Nat} (d:α) (h:k<l.length):l.getD k d=l[k]:=by rw [ϱ,ω h];rfl
theorem DF {α β:Type} {l:List α} {f:α ->β} {k:Nat} (hk:k<l.length):(l.take (k+1)).map f=(l.take k).map f++ [f l[k]]:=by rw [φ hk,ωe];rfl
theorem rooms_p (p:Prb) (hl:p.ro.length≤100000):AO Tryz.prog 129 [.d (Bq p)] (AF (EP p.ro)):=by
 refine Az Tryz.func129 Z Z Tryz.ntmps129 Z Z Z fun F hF=>(AC (AE ?_));refine V (CC 1 Z Z Z Z Z Z Z) (AB Z Z (AD (AC (AE (V (Pb 2 Z Z Z Z) (AB Z Z (AD (AC ?_))))))));refine AC (AE (J (AZ Z Fk Z Z Z) (J (A6 Z Z Z Rq Z) (J (CM Z Tryz.underlying36 Z) (goMv Z Z (AD (A4 (B5 (α:=Nat) (fun k=>⟨35,[(3,(.map 2 0)),(9,(.d (.sl none (p.ro.map CX)))),(10,(.d (AF (p.ro.length:Int)))),(11,(.d (AF (k:Int))))],[(2,[BH CV Ag (As ((p.ro.take k).map Roo.r))])]⟩) (fun k=>k≤p.ro.length∧EP p.ro=Bd (((List.range p.ro.length).drop k).map (OL p.ro))) (fun k=>p.ro.length - k) (0) (⟨Δ _,Z⟩) (A0 hF [2] Z Z ⟨Z,Z,Z,Z,trivial⟩) ?_))))))));rintro k ⟨hk0,hk⟩;refine AC (AE (J (BV Z Z Z) (AD (AC (Ae Z (fun h12=>?_) (fun h12=>?_))))))
 ·have hk1:k<p.ro.length:=Bf h12;refine A1 (AC (A4 (AC (AE ?_))));have hE:=ED hk1 hk;have hgd:=Bp DB hk1;refine J (Bk (k) Z Z (Z) (Ah hk1) Tryz.underlying36 Z OG Z) ?_;refine J (GN Z Z Zc Z) (V (CD 3 Qp Z Z Z Z) (V (Be Z Z Z Z Z Z Z OG) (AD (AC (AC (AE (J (AZ Z FG Z Z Z) (J (BM Z Z CU Z Z Z) ?_))))))));refine J (B4 (VL p.ro[k].r) Z Z) (AB Z Z (AD (AC (AE (goMv Z Z (J (DX Z Z Z) (AD (Ae Z (fun h19=>?_) (fun h19=>?_)))))))))
  ·refine AC (AE (goMv Z Z (AB Z Z (AD (A5 ?_)))));exact ⟨_,[],[],A3 Z,Z,Z,Ac (hE.2 _ (by unfold OL;rw [hgd,θ h19]) h19),Z⟩
  ·refine A1 (AC (A4 ?_));refine AC (AE (J (AZ Z QP Z Z Z) (J (A6 Z Z Z JG Z) (J (B4 (GP _ _ _) Z Z) (J (Nx Z Z) (AB Z Z (AD (Ae Z (fun h21=>?_) (fun h21=>?_)))))))))
   ·refine AC (AE (AB Z Z (AD (A5 ?_))));exact ⟨_,[],[],A3 Z,Z,Z,Ac (hE.2 12 (by unfold OL;rw [hgd,ϑ h19,θ (by simp only [Mx];omega)]) (by decide)),Z⟩
   ·refine AC (AE (goMv Z Z (J (AZ Z FG Z Z Z) (J (BM Z Z CU Z Z Z) (J (HF (As ((p.ro.take k).map Roo.r)) (p.ro[k].r) (false) _ Z Z Z WD CI Te Z Z) ?_)))));rw [Wq];refine AB Z Z (AD (Ae Z (fun h26=>?_) (fun h26=>?_)))
    ·refine AC (AE (AB Z Z (AD (A5 ?_))));exact ⟨_,[],[],A3 Z,Z,Z,Ac (hE.2 7 (by unfold OL;rw [hgd,ϑ h19,ϑ (by simp only [Mx];omega),θ h26]) (by decide)),Z⟩
    ·have hnot:p.ro[k].r∉(p.ro.take k).map Roo.r:=h26;refine A1 (AE ?_);refine goMv Z Z (J (AZ Z FG Z Z Z) (J (BM Z Z CU Z Z Z) (V (Tk (As ((p.ro.take k).map Roo.r)) (p.ro[k].r) (true) Z Z Z WD CI Z Z) (AD (AE (J (Ay Z Z (AT (k+1) (by omega)) Z) (goMv Z Z (AD ?_))))))));exact ⟨k+1,⟨by show k+1≤_;omega,hE.1 (by unfold OL;rw [hgd,ϑ h19,ϑ (by simp only [Mx];omega),ϑ hnot])⟩,by show p.ro.length - (k+1)<p.ro.length - k;omega,A0 hF [2] Z (by rw [DF hk1,←dH hnot];rfl) ⟨Z,Z,Z,Z,trivial⟩⟩
 ·refine BC (AC (AE (AB Z Z (AD (A5 ?_)))));exact ⟨_,[],[],A3 Z,Z,Z,Ac (by rw [hk,List.drop_of_length_le (by have h:=h12;simp only [ωh];omega)];rfl),Z⟩
theorem Me {a b:Bool} (h:a=b):AV.d (.raw (.bool a))= .d (.raw (.bool b)):=by rw [h]
theorem Ge {α:Type} {p:α ->Bool}:∀{l:List α} {k:Nat} (hk:k<l.length),(∀x∈l.take k,p x=false) ->p l[k]=true ->l.findIdx? p=some k
 | a::l,0,_,_,h=>by simp at h;simp [List.findIdx?_cons,h]
 | a::l,k+1,hk,h0,h=>by
  have h1:p a=false:=h0 a (by simp);have:=Ge (l:=l) (k:=k) (by simpa using hk) (fun x hx=>h0 x (by simp [hx])) (by simpa using h)
  simp [List.findIdx?_cons,h1,this]
theorem IR {α:Type} {p:α ->Bool} {l:List α} (h:∀x∈l,p x=false):l.findIdx? p=none:=by
 rw [List.findIdx?_eq_none_iff];exact h
def ixF (p:Int ->Bool) (l:List Int):Int:=match l.findIdx? p with
 | some k=>k
 | none=> -1
theorem ixF_nn {p:Int ->Bool} {l:List Int}:0≤ixF p l↔l.any p=true:=by
 unfold ixF
 cases h:l.findIdx? p with
 | none=>
  rw [List.findIdx?_eq_none_iff] at h;simp only [List.any_eq_true]
  constructor
  ·intro h';omega
  ·rintro ⟨x,hx,hp⟩;rw [h x hx] at hp;cases hp
 | some k=>
  have:=List.findIdx?_isSome (xs:=l) (p:=p);rw [h] at this;simp only [Option.isSome_some] at this
  simp [←this]
abbrev HM (S:List Int):Hp:=[(910,[.blk 137 [.map 911 0]]),(911,[BH AF Ag (As S)])]
def J1 (S:List Int) (x:Int):Bool:=!decide (x∈S)
theorem chk1_c (S:List Int) (x:Int):AM Tryz.prog 131 [.d (AF x),.ptr 910 0 0] (HM S) fun r H'=>r= .d (Ag (J1 S x))∧H'=HM S:=by
 refine Az Tryz.func131 Z Z Tryz.ntmps131 Z Z Z fun F hF=>?_;refine AC (AE (AB Z Z (AD (AC (AE (J (A6 Z Z Z Rt Z) (goMv Z Z (J (HF (As S) (x) (false) _ Z Z Z EU HE Te Z Z) ?_))))))));rw [Wq];refine J (Nx Z Z) (AB Z Z (AD (A5 ?_)));exact ⟨_,[910,911],_,A3 Z,Z,Z,by first | exact Me (by unfold J1;simp) | rfl,rfl⟩
theorem ba (S l:List Int) (hl:l.length≤100000000):AM Tryz.prog 138 [.d (.sl none (l.map AF)),.fn 131 [.ptr 910 0 0]] (HM S) fun r H'=>r= .d (AF (ixF (J1 S) l))∧H'=HM S:=by
 refine Az Tryz.func138 Z Z Tryz.ntmps138 Z Z Z fun F hF=>(AC (AE (AB Z Z (AD ?_))));refine AC (AC (AE (goMv Z Z (J (CM Z Tryz.underlying28 Z) (goMv Z Z (AD (A4 (B5 (α:=Nat) (fun k=>⟨19,[(0,.d (.sl none (l.map AF))),(1,.fn 131 [.ptr 910 0 0]),(7,(.d (AF (l.length:Int)))),(8,(.d (AF (k:Int))))],HM S⟩) (fun k=>k≤l.length∧∀x∈l.take k,J1 S x=false) (fun k=>l.length - k) (0) (⟨Δ _,by simp⟩) (A0 hF [910,911] Z Z ⟨Z,Z,Z,Z,trivial⟩) ?_))))))));rintro k ⟨hk0,hk⟩;refine AC (AE (J (BV Z Z Z) (AD (AC (Ae Z (fun h9=>?_) (fun h9=>?_))))))
 ·have hk1:k<l.length:=Bf h9;refine A1 (AC (A4 (AC (AE (goMv Z Z (AB Z Z (AD (AC ?_))))))));refine AE (goMv Z Z (goMv Z Z (goMv Z Z (J (Bk (k) Z Z (Z) (Ah hk1) Tryz.underlying28 Z BA Z) (J (D0 Z Z Aq Z) (V (Yc (chk1_c S l[k]) Z [910,911] ⟨Z,Z,trivial⟩ Z Z Z Z Z Z Z Z Z) (AD (KK Z (fun h16=>?_) (fun h16=>?_)))))))))
  ·refine AC (AE (goMv Z Z (AB Z Z (AD (A5 ?_)))));exact ⟨_,[910,911],_,A3 Z,Z,Z,Ac (by unfold ixF;rw [Ge hk1 hk (by simpa using h16)]),Z⟩
  ·refine A1 (AE (J (Ay Z Z (AT (k+1) (by omega)) Z) (goMv Z Z (AD ?_))));exact ⟨k+1,⟨by show k+1≤_;omega,by rw [φ hk1];intro x hx;rcases υ.1 hx with hx | hx;exact hk x hx;rw [ξ.1 hx];simpa using h16⟩,by show l.length - (k+1)<l.length - k;omega,A0 hF [910,911] Z (Z) ⟨Z,Z,Z,Z,trivial⟩⟩
 ·refine BC (AC (AE (AB Z Z (AD (A5 ?_)))));exact ⟨_,[910,911],_,A3 Z,Z,Z,Ac (by unfold ixF;rw [IR (fun x hx=>hk x (by rw [Ξ (by have h:=h9;omega)];exact hx))]),Z⟩
theorem TD (S l:List Int) (hl:l.length≤100000000):AM Tryz.prog 130 [.d (.sl none (l.map AF)),.fn 131 [.ptr 910 0 0]] (HM S) fun r H'=>r= .d (Ag (l.any (J1 S)))∧H'=HM S:=by
 refine Az Tryz.func130 Z Z Tryz.ntmps130 Z Z Z fun F hF=>(AC (AE (AB Z Z (AD ?_))));refine AC (AE (goMv Z Z (goMv Z Z (V (EW (ba S l hl) Z [910,911] ⟨Z,Z,trivial⟩ Z Z Z Z Z Z Z Z Z) (J (EO Z Z Z) (AB Z Z (AD (A5 ?_))))))));exact ⟨_,[910,911],_,A3 Z,Z,Z,Me (by rw [Bool.eq_iff_iff,ωs];exact ixF_nn),Z⟩
def itm0:AK:=⟨0,0,0,[],[],[]⟩
def OU (l:List AK) (k:Nat):Int:=if BD (l.getD k itm0)≠0 then BD (l.getD k itm0) else if (l.getD k itm0).id∈(l.take k).map AK.id∨(l.getD k itm0).sq∈(l.take k).map AK.sq then 7 else 0
def Fj (l:List AK):Int:=Bd ((List.range l.length).map (OU l))
def Ug (S:List Int) (i:AK):Int:=if i.af.any (J1 S)=true then 9 else 0
def Qc (l:List AK):Int:=Bd (l.map (Ug (l.map AK.id)))
def Ad (p:Prb):Int:=if 4096<p.it.length∨16384<p.ro.length then 8 else Bd [EP p.ro,Fj p.it,Qc p.it]
theorem prbE_r {p:Prb} (h:¬(4096<p.it.length∨16384<p.ro.length)) (h2:EP p.ro≠0):EP p.ro=Ad p:=by unfold Ad;rw [ϑ h];simp only [Bd];rw [ϑ h2]
theorem UP {p:Prb} (h:¬(4096<p.it.length∨16384<p.ro.length)) (h1:EP p.ro=0) {e:Int} (h2:e=Fj p.it) (h3:e≠0):e=Ad p:=by unfold Ad;rw [ϑ h];simp only [Bd];rw [θ h1,ϑ (by rw [←h2];exact h3),h2]
theorem Zy {p:Prb} (h:¬(4096<p.it.length∨16384<p.ro.length)) (h1:EP p.ro=0) (h2:Fj p.it=0) {e:Int} (h3:e=Qc p.it):e=Ad p:=by unfold Ad;rw [ϑ h];simp only [Bd];rw [θ h1,θ h2,h3];split<;>simp_all
def Eb (p:Prb):Prop:=p.ro.length≤100000∧p.it.length≤100000∧∀i∈p.it,i.po.length≤100000∧i.pa.length≤100000∧i.af.length≤100000
theorem FB (p:Prb) (hb:Eb p):AO Tryz.prog 75 [.d (Bq p)] (AF (Ad p)):=by
 obtain ⟨g1,g2,g3⟩:=hb;refine Az Tryz.func75 Z Z Tryz.ntmps75 Z Z Z fun F hF=>(AC (AE (V (CC 1 Z Z Z Z Z Z Z) (AB Z Z (AD ?_)))));refine AC (AC (AE (J (AZ Z ES Z Z Z) (J (A6 Z Z Z Kb Z) (J (CM Z Tryz.underlying37 Z) (J (ML Z Z Z) (goMv Z Z (Id 15 Z (fun h15=>?_) (fun h15=>?_)))))))))
 ·refine A9 Z Z Z Z (A9 Z Z Z Z (A9 Z Z Z Z ?_));refine A9 Z Z Z Z (J (Fb Z Z Z Z) (AD (DV Z Z (AC (AE (AB Z Z (AD (A5 ?_))))))));exact ⟨_,[],[],A3 Z,Z,Z,Ac (by unfold Ad;rw [θ (by omega)]),Z⟩
 ·refine Af Z Z Z (J (AZ Z Fk Z Z Z) ?_);refine Af Z Z Z (J (A6 Z Z Z Rq Z) (Af Z Z Z (J (CM Z Tryz.underlying36 Z) (Af Z Z Z (J (ML Z Z Z) (J (DZ Z Z Z Z) (AD (Ae Z (fun h20=>?_) (fun h20=>?_)))))))))
  ·refine AC (AE (AB Z Z (AD (A5 ?_))));exact ⟨_,[],[],A3 Z,Z,Z,Ac (by unfold Ad;rw [θ (by omega)]),Z⟩
  ·refine A1 (AC (AC ?_));have hsz:¬(4096<p.it.length∨16384<p.ro.length):=by omega
   refine AE (J (BM Z Z B2 Z Z Z) ?_);refine J (B4 (rooms_p p g1) Z Z) (AB Z Z (AD (AC (AE (goMv Z Z (J (DX Z Z Z) (AD (Ae Z (fun h24=>?_) (fun h24=>?_)))))))))
   ·refine AC (AE (goMv Z Z (AB Z Z (AD (A5 ?_)))));exact ⟨_,[],[],A3 Z,Z,Z,Ac (prbE_r hsz h24),Z⟩
   ·refine A1 (AC ?_);have hr0:EP p.ro=0:=by simpa using h24
    refine AE (V (Pb 2 Z Z Z Z) (V (Pb 3 Z Z Z Z) (V (CD 4 zl137 Z Z Z Z) (V (Be Z Z Z Z Z Z Z sz137) (AB Z Z (AD (AC ?_)))))));refine AC (AE (J (AZ Z ES Z Z Z) (J (A6 Z Z Z Kb Z) (J (CM Z Tryz.underlying37 Z) (goMv Z Z (AD (A4 (B5 (α:=Nat) (fun k=>⟨69,[(1,(.ptr 1 0 0)),(4,(.ptr 4 0 0)),(5,(.map 3 0)),(29,(.d (.sl none (p.it.map Ao)))),(30,(.d (AF (p.it.length:Int)))),(31,(.d (AF (k:Int))))],[(1,[.blk 39 [.d (.sl none (p.ro.map CX)),.d (.sl none (p.it.map Ao))]]),(4,[.blk 137 [.map 2 0]]),(2,[BH AF Ag (As ((p.it.take k).map AK.id))]),(3,[BH AF Ag (As ((p.it.take k).map AK.sq))])]⟩) (fun k=>k≤p.it.length∧Fj p.it=Bd (((List.range p.it.length).drop k).map (OU p.it))) (fun k=>p.it.length - k) (0) (⟨Δ _,Z⟩) (A0 hF [1,4,2,3] Z Z ⟨Z,Z,Z,Z,Z,Z,trivial⟩) ?_))))))));rintro k ⟨hk0,hk⟩;refine AC (AE (J (BV Z Z Z) (AD (AC (Ae Z (fun h32=>?_) (fun h32=>?_))))))
    ·have hk1:k<p.it.length:=Bf h32;refine A1 (AC (A4 (AC (AE ?_))));have hE:=ED hk1 hk;have hgd:=Bp itm0 hk1;have hgi:=g3 _ (κ hk1);refine J (Bk (k) Z Z (Z) (Ah hk1) Tryz.underlying37 Z Cd Z) (J (GN Z Z By Z) (V (CD 5 El Z Z Z Z) (V (Be Z Z Z Z Z Z Z Cd) (AD (AC (AC (AE (J (BM Z Z By Z Z Z) ?_))))))));refine J (B4 (KC p.it[k] (by omega) (by omega) (by omega)) Z Z) (AB Z Z (AD (AC (AE (goMv Z Z (J (DX Z Z Z) (AD (Ae Z (fun h38=>?_) (fun h38=>?_)))))))))
     ·refine AC (AE (goMv Z Z (AB Z Z (AD (A5 ?_)))));exact ⟨_,[],[],A3 Z,Z,Z,Ac (UP hsz hr0 (hE.2 _ (by unfold OU;rw [hgd,θ h38]) h38) h38),Z⟩
     ·refine A1 (AC (AC (AE (J (A6 Z Z Z Rt Z) (J (AZ Z OC Z Z Z) (J (A6 Z Z Z Aq Z) (J (HF (As ((p.it.take k).map AK.id)) (p.it[k].id) (false) _ Z Z Z EU HE Te Z Z) ?_)))))));rw [Wq];refine goMv Z Z (Id 44 Z (fun h44=>?_) (fun h44=>?_))
      ·refine A9 Z Z Z Z (A9 Z Z Z Z (A9 Z Z Z Z ?_));refine A9 Z Z Z Z (J (Fb Z Z Z Z) (AD (DV Z Z (AC (AE (AB Z Z (AD (A5 ?_))))))));exact ⟨_,[],[],A3 Z,Z,Z,Ac (UP hsz hr0 (hE.2 7 (by unfold OU;rw [hgd,ϑ h38,θ (by simp_all)]) (by decide)) (by decide)),Z⟩
      ·refine Af Z Z Z (goMv Z Z (Af Z Z Z (J (AZ Z NZ Z Z Z) (Af Z Z Z (J (A6 Z Z Z Aq Z) (Af Z Z Z (J (HF (As ((p.it.take k).map AK.sq)) (p.it[k].sq) (false) _ Z Z Z EU HE Te Z Z) ?_)))))));rw [Wq];refine J (DZ Z Z Z Z) (AD (Ae Z (fun h49=>?_) (fun h49=>?_)))
       ·refine AC (AE (AB Z Z (AD (A5 ?_))));exact ⟨_,[],[],A3 Z,Z,Z,Ac (UP hsz hr0 (hE.2 7 (by unfold OU;rw [hgd,ϑ h38,θ (by simp_all)]) (by decide)) (by decide)),Z⟩
       ·refine A1 ?_;have n1:p.it[k].id∉(p.it.take k).map AK.id:=by simp_all
        have n2:p.it[k].sq∉(p.it.take k).map AK.sq:=by simp_all
        refine Cb [[],[],[1],[],[],[4],[0,1,2],[0,1,2,3,4,5,6]] mixed Z (Cr (AJ [4] [4,2] Z Z (fun _=>AG (A6 Z Z Z Rt Z)) (AJ [7] [] Z Z (fun _=>AG (AZ Z OC Z Z Z)) ?_)));refine AJ [51] [5] Z Z (fun _=>AG (A6 Z Z Z Aq Z)) (AJ [5] [] Z Z (fun _=>AG (Aj Z Z)) (AJ [7] [] Z Z (fun _=>AG (AZ Z NZ Z Z Z)) (AJ [54] [5] Z Z (fun _=>AG (A6 Z Z Z Aq Z)) (Gn [50,52] [2] [] Z Z (fun _=>Gp (Tk (As ((p.it.take k).map AK.id)) (p.it[k].id) (true) Z Z Z EU HE Z Z)) (.inl ⟨Z,Z⟩) Z Z Z Z Z (C3 7 Z Z Z (Aa 8 Z Z (V (Tk (As ((p.it.take k).map AK.sq)) (p.it[k].sq) (true) Z Z Z EU HE Z Z) (AD ⟨Z,?_⟩))))))));refine C9 (AE (J (Ay Z Z (AT (k+1) (by omega)) Z) (goMv Z Z (AD ?_))));exact ⟨k+1,⟨by show k+1≤_;omega,hE.1 (by unfold OU;rw [hgd,ϑ h38,ϑ (by rintro (h | h);exact n1 h;exact n2 h)])⟩,by show p.it.length - (k+1)<p.it.length - k;omega,A0 hF [1,4,2,3] Z (by rw [DF hk1,DF hk1,←dH n1,←dH n2];rfl) ⟨Z,Z,Z,Z,Z,Z,trivial⟩⟩
    ·refine BC (AC (AC ?_));have hi0:Fj p.it=0:=by rw [hk,List.drop_of_length_le (by have h:=h32;simp only [ωh];omega)];rfl
     have hfull:p.it.take k=p.it:=Ξ (by have h:=h32;omega);rw [hfull];refine AE (J (AZ Z ES Z Z Z) (J (A6 Z Z Z Kb Z) (J (CM Z Tryz.underlying37 Z) (goMv Z Z (AD (A4 (B5 (α:=Nat) (fun k=>⟨69,[(4,(.ptr 4 0 0)),(58,(.d (.sl none (p.it.map Ao)))),(59,(.d (AF (p.it.length:Int)))),(60,(.d (AF (k:Int))))],[(4,[.blk 137 [.map 2 0]]),(2,[BH AF Ag (As (p.it.map AK.id))])]⟩) (fun k=>k≤p.it.length∧Qc p.it=Bd ((p.it.drop k).map (Ug (p.it.map AK.id)))) (fun k=>p.it.length - k) (0) (⟨Δ _,Z⟩) (A0 hF [4,2] Z Z ⟨Z,Z,Z,Z,trivial⟩) ?_)))))));rintro k ⟨hk0,hk⟩;refine AC (AE (J (BV Z Z Z) (AD (AC (Ae Z (fun h61=>?_) (fun h61=>?_))))))
     ·have hk1:k<p.it.length:=Bf h61;refine A1 (AC (A4 (AC (AE ?_))));have hE:=Dh hk1 hk;have hgi:=g3 _ (κ hk1);refine J (Bk (k) Z Z (Z) (Ah hk1) Tryz.underlying37 Z Cd Z) (J (GN Z Z By Z) (V (CD 6 El Z Z Z Z) (V (Be Z Z Z Z Z Z Z Cd) ?_)));refine AD (AC (AE (J (AZ Z FH Z Z Z) (J (A6 Z Z Z BI Z) (J (Zcy Z Z) (V (EW ((TD (p.it.map AK.id) p.it[k].af (by omega)).by [(910,4),(911,2)] Z) Z [4,2] ⟨Z,Z,trivial⟩ Z Z Z Z Z Z Z Z Z) (AD (KK Z (fun h67=>?_) (fun h67=>?_)))))))))
      ·refine AC (AE (AB Z Z (AD (A5 ?_))));exact ⟨_,[],[],A3 Z,Z,Z,Ac (Zy hsz hr0 hi0 (hE.2 9 (by unfold Ug;rw [θ (by simpa using h67)]) (by decide))),Z⟩
      ·refine A1 (AE (J (Ay Z Z (AT (k+1) (by omega)) Z) (goMv Z Z (AD ?_))));exact ⟨k+1,⟨by show k+1≤_;omega,hE.1 (by unfold Ug;rw [ϑ (by simpa using h67)])⟩,by show p.it.length - (k+1)<p.it.length - k;omega,A0 hF [4,2] Z (Z) ⟨Z,Z,Z,Z,trivial⟩⟩
     ·refine BC (AC (AE (AB Z Z (AD (A5 ?_)))));exact ⟨_,[],[],A3 Z,Z,Z,Ac (Zy hsz hr0 hi0 (by rw [hk,GE (by have h:=h61;omega)])),Z⟩
abbrev Mj (T:TypeId) (p:Prb):AL:= .blk T [.d (.sl none (p.ro.map CX)),.d (.sl none (p.it.map Ao))]
theorem NB {α β:Type} {l:List α} {f:α ->β} {m k:Nat} (hk:k<l.length) (hm:m<k) {b:β} (h:f l[m]=b):b∈(l.take k).map f:=by
 refine ν.2 ⟨l[m],?_,h⟩;rw [χt];exact ⟨m,by omega,Z⟩
theorem Xb {α β:Type} {l:List α} {f:α ->β} {m:Nat} (hm:m<l.length) {b:β} (h:b∉(l.take m).map f) (h2:f l[m]≠b):b∉(l.take (m+1)).map f:=by
 rw [DF hm,υ,ξ];rintro (h3 | h3)
 ·exact h h3
 ·exact h2 h3.symm
def Sml (p:Prb):Prop:=p.it.length≤12∧p.ro.length≤24∧∀i∈p.it,i.po.length≤12∧i.pa.length≤12∧i.af.length≤12
instance (p:Prb):Decidable (Sml p):=inferInstanceAs (Decidable (_∧_∧∀i∈p.it,_))
theorem small_p (p:Prb):AO Tryz.prog 11 [.d (Bq p)] (Ag (decide (Sml p))):=by
 refine Az Tryz.func11 Z Z Tryz.ntmps11 Z Z Z fun F hF=>(AC (AE (V (CC 1 Z Z Z Z Z Z Z) (AB Z Z (AD ?_)))));refine AC (AC (AE (J (AZ Z Hj Z Z Z) (J (A6 Z Z Z Rr Z) (J (CM Z Tryz.underlying23 Z) (J (ML Z Z Z) (goMv Z Z (Id 8 Z (fun h8=>?_) (fun h8=>?_)))))))))
 ·refine A9 Z Z Z Z (A9 Z Z Z Z (A9 Z Z Z Z ?_));refine A9 Z Z Z Z (J (Fb Z Z Z Z) (AD (DV Z Z (AC (AE (AB Z Z (AD (A5 ?_))))))));exact ⟨_,[],[],A3 Z,Z,Z,K4 (fun h=>by have h1:=h.1;have h2:=h.2.1;omega),Z⟩
 ·refine Af Z Z Z (J (AZ Z QR Z Z Z) ?_);refine Af Z Z Z (J (A6 Z Z Z on22 Z) (Af Z Z Z (J (CM Z Tryz.underlying22 Z) (Af Z Z Z (J (ML Z Z Z) (J (DZ Z Z Z Z) (AD (Ae Z (fun h13=>?_) (fun h13=>?_)))))))))
  ·refine AC (AE (AB Z Z (AD (A5 ?_))));exact ⟨_,[],[],A3 Z,Z,Z,K4 (fun h=>by have h1:=h.1;have h2:=h.2.1;omega),Z⟩
  ·refine A1 (AC (AC (AE (AB Z Z (AD (A4 (B5 (α:=Nat) (fun k=>⟨49,[(1,(.ptr 1 0 0)),(3,(.d (AF (k:Int))))],[(1,[Mj 25 p])]⟩) (fun k=>k≤p.it.length∧∀i∈p.it.take k,i.po.length≤12∧i.pa.length≤12∧i.af.length≤12) (fun k=>p.it.length - k) (0) (⟨Δ _,by simp⟩) (A0 hF [1] Z Z ⟨Z,Z,trivial⟩) ?_)))))));rintro k ⟨hk0,hk⟩;refine AC ?_;refine AC (AE (goMv Z Z (J (AZ Z Hj Z Z Z) (J (A6 Z Z Z Rr Z) (J (CM Z Tryz.underlying23 Z) (J (BV Z Z Z) (AD (Ae Z (fun h18=>?_) (fun h18=>?_)))))))))
   ·have hk1:k<p.it.length:=Bf h18;refine A1 (AC (A4 (AC (AE (J (AZ Z Hj Z Z Z) ?_)))));refine J (A6 Z Z Z Rr Z) (goMv Z Z (J (Bk (k) Z Z (Z) (Ah hk1) Tryz.underlying23 Z sz93 Z) (J (Zca Z QO Z Z Z) (J (D0 Z Z on90 Z) (J (CM Z Tryz.underlying90 Z) (J (ML Z Z Z) (goMv Z Z (Id 29 Z (fun h29=>?_) (fun h29=>?_)))))))))
    ·refine A9 Z Z Z Z (A9 Z Z Z Z (A9 Z Z Z Z (A9 Z Z Z Z (A9 Z Z Z Z (A9 Z Z Z Z (A9 Z Z Z Z (A9 Z Z Z Z ?_)))))));refine J (Fb Z Z Z Z) (goMv Z Z (A9 Z Z Z Z (A9 Z Z Z Z (A9 Z Z Z Z (A9 Z Z Z Z (A9 Z Z Z Z (A9 Z Z Z Z (A9 Z Z Z Z ?_))))))));refine A9 Z Z Z Z (J (Fb Z Z Z Z) (AD (DV Z Z (AC (AE (AB Z Z (AD (A5 ?_))))))));exact ⟨_,[],[],A3 Z,Z,Z,K4 (fun h=>by have h1:=h.2.2 _ (κ hk1);omega),Z⟩
    ·refine Af Z Z Z ?_;refine J (AZ Z Hj Z Z Z) (Af Z Z Z (J (A6 Z Z Z Rr Z) (Af Z Z Z (goMv Z Z (Af Z Z Z (J (Bk (k) Z Z (Z) (Ah hk1) Tryz.underlying23 Z sz93 Z) (Af Z Z Z (J (Zca Z Ub Z Z Z) ?_))))))));refine Af Z Z Z (J (D0 Z Z on91 Z) (Af Z Z Z (J (CM Z Tryz.underlying91 Z) (Af Z Z Z (J (ML Z Z Z) (J (DZ Z Z Z Z) (goMv Z Z (Id 39 Z (fun h39=>?_) (fun h39=>?_)))))))))
     ·refine A9 Z Z Z Z (A9 Z Z Z Z (A9 Z Z Z Z (A9 Z Z Z Z (A9 Z Z Z Z (A9 Z Z Z Z (A9 Z Z Z Z ?_))))));refine A9 Z Z Z Z (J (Fb Z Z Z Z) (AD (DV Z Z (AC (AE (AB Z Z (AD (A5 ?_))))))));exact ⟨_,[],[],A3 Z,Z,Z,K4 (fun h=>by have h1:=h.2.2 _ (κ hk1);omega),Z⟩
     ·refine Af Z Z Z ?_;refine J (AZ Z Hj Z Z Z) (Af Z Z Z (J (A6 Z Z Z Rr Z) (Af Z Z Z (goMv Z Z (Af Z Z Z (J (Bk (k) Z Z (Z) (Ah hk1) Tryz.underlying23 Z sz93 Z) (Af Z Z Z (J (Zca Z bq Z Z Z) ?_))))))));refine Af Z Z Z (J (D0 Z Z BI Z) (Af Z Z Z (J (CM Z Tryz.underlying28 Z) (Af Z Z Z (J (ML Z Z Z) (J (DZ Z Z Z Z) (AD (Ae Z (fun h48=>?_) (fun h48=>?_)))))))))
      ·refine AC (AE (AB Z Z (AD (A5 ?_))));exact ⟨_,[],[],A3 Z,Z,Z,K4 (fun h=>by have h1:=h.2.2 _ (κ hk1);omega),Z⟩
      ·refine A1 (AE (goMv Z Z (J (Ay Z Z (AT (k+1) (by omega)) Z) (AB Z Z (AD ?_)))));exact ⟨k+1,⟨by show k+1≤_;omega,by rw [φ hk1];intro i hi;rcases υ.1 hi with hi | hi;exact hk i hi;rw [ξ.1 hi];omega⟩,by show p.it.length - (k+1)<p.it.length - k;omega,A0 hF [1] Z (Z) ⟨Z,Z,trivial⟩⟩
   ·refine BC (AC (AE (AB Z Z (AD (A5 ?_)))));exact ⟨_,[],[],A3 Z,Z,Z,retT ⟨by omega,by omega,fun i hi=>hk i (by rw [Ξ (by have h:=h18;omega)];exact hi)⟩,Z⟩
def OT:List AK ->AK ->List AK
 | [],x=> [x]
 | a::l,x=>if ∀y∈a::l,Fy x y<0 then x::a::l else a::OT l x
def sortO (l:List AK):List AK:=l.foldl OT []
theorem b9 (l:List AK) (x:AK):(OT l x).length=l.length+1:=by
 induction l with
 | nil=>rfl
 | cons a l ih=>
  simp only [OT];split
  ·rfl
  ·simp only [ψl,ih]
theorem Ii (l:List AK) (x:AK):sortO (l++ [x])=OT (sortO l) x:=by simp [sortO]
theorem Cw (l:List AK):(sortO l).length=l.length:=by
 induction l using Y9 with
 | h0=>rfl
 | h1 l x ih=>rw [Ii,b9,ih];simp
def qIds (l:List AK) (r:AP):List Int:=(l.filter fun i=>decide (Bg i r<0)).map AK.id
theorem c6 (l:List FO) (hl:l.length≤1000000):AO Tryz.prog 86 [.d (.sl none (l.map CF))] (.sl none (l.map CF)):=by
 refine Az Tryz.func86 Z Z Tryz.ntmps86 Z Z Z fun F hF=>(AC ?_);refine AE (AB Z Z (Wp 2 Z (AD (AC (AC (AE (goMv Z Z (FE 3 Z (fun h0=>?_) ?_))))))))
 ·refine J (Dr Tryz.underlying52 Z Z) (AD (DV Z (Z) (AC (AE (AB Z Z (Wp 2 Z (AD (A5 ?_))))))));exact ⟨_,[],[],A3 Z,Z,Z,by first | (rw [h0];done) | (rw [h0]),rfl⟩
 ·refine J (Dr Tryz.underlying52 Z Z) (AD ?_);refine EN Z (Z) (A1 (AC (AE (V (D1 20 XN Z Z Z Z Z Z Z Z) (goMv Z Z (V (Ew (([]:List FO)) (l) Z Z Z Z Z Z (fun _=>rfl) XN (by simp only [φp];omega) Z Z Z Z) (Zcn (emb:=CF) 7 20 ([]++l) Z Z Z Z Z Z Z (AB Z Z ?_))))))));skip;refine AD (A5 ?_);exact ⟨_,[],[],A3 Z,Z,Z,Z,Z⟩
theorem cZ (l:List OE) (hl:l.length≤1000000):AO Tryz.prog 87 [.d (.sl none (l.map Ff))] (.sl none (l.map Ff)):=by
 refine Az Tryz.func87 Z Z Tryz.ntmps87 Z Z Z fun F hF=>(AC ?_);refine AE (AB Z Z (Wp 2 Z (AD (AC (AC (AE (goMv Z Z (FE 3 Z (fun h0=>?_) ?_))))))))
 ·refine J (Dr Tryz.underlying53 Z Z) (AD (DV Z (Z) (AC (AE (AB Z Z (Wp 2 Z (AD (A5 ?_))))))));exact ⟨_,[],[],A3 Z,Z,Z,by first | (rw [h0];done) | (rw [h0]),rfl⟩
 ·refine J (Dr Tryz.underlying53 Z Z) (AD ?_);refine EN Z (Z) (A1 (AC (AE (V (D1 20 Z4 Z Z Z Z Z Z Z Z) (goMv Z Z (V (Ew (([]:List OE)) (l) Z Z Z Z Z Z (fun _=>rfl) Z4 (by simp only [φp];omega) Z Z Z Z) (Zcn (emb:=Ff) 7 20 ([]++l) Z Z Z Z Z Z Z (AB Z Z ?_))))))));skip;refine AD (A5 ?_);exact ⟨_,[],[],A3 Z,Z,Z,Z,Z⟩
theorem c7 (l:List Int) (hl:l.length≤1000000):AO Tryz.prog 89 [.d (.sl none (l.map AF))] (.sl none (l.map AF)):=by
 refine Az Tryz.func89 Z Z Tryz.ntmps89 Z Z Z fun F hF=>(AC ?_);refine AE (AB Z Z (Wp 2 Z (AD (AC (AC (AE (goMv Z Z (FE 3 Z (fun h0=>?_) ?_))))))))
 ·refine J (Dr Tryz.underlying28 Z Z) (AD (DV Z (Z) (AC (AE (AB Z Z (Wp 2 Z (AD (A5 ?_))))))));exact ⟨_,[],[],A3 Z,Z,Z,by first | (rw [h0];done) | (rw [h0]),rfl⟩
 ·refine J (Dr Tryz.underlying28 Z Z) (AD ?_);refine EN Z (Z) (A1 (AC (AE (V (D1 20 BW Z Z Z Z Z Z Z Z) (goMv Z Z (V (Ew (([]:List Int)) (l) Z Z Z Z Z Z (fun _=>rfl) BW (by simp only [φp];omega) Z Z Z Z) (Zcn (emb:=AF) 7 20 ([]++l) Z Z Z Z Z Z Z (AB Z Z ?_))))))));skip;refine AD (A5 ?_);exact ⟨_,[],[],A3 Z,Z,Z,Z,Z⟩
theorem clone_p (i:AK) (g1:i.po.length≤1000000) (g2:i.pa.length≤1000000) (g3:i.af.length≤1000000):AO Tryz.prog 69 [.d (Ao i)] (Ao i):=by
 refine Az Tryz.func69 Z Z Tryz.ntmps69 Z Z Z fun F hF=>(AC (AE (V (CC 1 Z Z Z Z Z Z Z) (V (CD 2 El Z Z Z Z) ?_))));refine AD (AC (Cb [[],[0],[0,1],[],[3],[0,1,2,3,4],[],[6],[0,1,2,3,4,5,6,7],[0,1,2,3,4,6,7],[0,1,2,3,4,5,6,7,8,9],[0,1,2,3,4,5,6,7,8,9,10],[0,1,2,3,4,5,6,7,8,9,10,11],[0,1,2,3,4,5,6,7,8,9,10,11,12],[0,1,2,3,4,5,6,7,8,9,10,11,12,13]] mixed Z (Cr (AJ [1] [] Z Z (fun _=>AG (AZ Z Hi Z Z Z)) (AJ [3] [1] Z Z (fun _=>AG (A6 Z Z Z X5 Z)) (AJ [4] [] Z Z (fun _=>AG (B4 (c6 i.po g1) Z Z)) (AJ [1] [] Z Z (fun _=>AG (AZ Z JA Z Z Z)) (AJ [6] [1] Z Z (fun _=>AG (A6 Z Z Z aT Z)) ?_))))))));refine AJ [7] [] Z Z (fun _=>AG (B4 (cZ i.pa g2) Z Z)) (AJ [1] [] Z Z (fun _=>AG (AZ Z FH Z Z Z)) (AJ [9] [1] Z Z (fun _=>AG (A6 Z Z Z BI Z)) (AJ [10] [] Z Z (fun _=>AG (B4 (c7 i.af g3) Z Z)) (AJ [1] [] Z Z (fun _=>AG (AZ Z Hi Z Z Z)) (C3 10 Z Z Z (Aa 11 Z Z (V (Be Z Z Z Z Z Z Z sz52) (AD ⟨Z,?_⟩))))))));refine Aa 12 Z Z (J (AZ Z JA Z Z Z) (AD ⟨Z,?_⟩));refine Aa 13 Z Z (V (Be Z Z Z Z Z Z Z sz53) (AD ⟨Z,?_⟩));refine Aa 14 Z Z (J (AZ Z FH Z Z Z) (AD ⟨Z,?_⟩));refine Aa 15 Z Z (V (Be Z Z Z Z Z Z Z Ce) (AD ⟨Z,?_⟩));refine C9 (AC (AE (J (BM Z Z By Z Z Z) (V (Be Z Z Z Z Z Z Z Cd) (AD (A5 ?_))))));exact ⟨_,[],[],A3 Z,Z,Z,Z,Z⟩
theorem hnewN {hp:Hp} {f:Nat} {o:AL} (h:hfam hp f=none) (hm:SB o=true:=by rfl):CT hp f o=some ((f,[o])::hp):=by simp only [CT,h,hm]
theorem partN {hp:Hp} {f:Nat} {x:List AL}:∀{nm:List Nat},memB f nm=false ->BQ ((f,x)::hp) nm=BQ hp nm
 | [],_=>rfl
 | g::r,h=>by
  have h1:Nat.beq f g=false:=by
   cases hb:Nat.beq f g with
   | false=>rfl
   | true=>
    have e:=ωg hb;subst e
    simp [memB] at h
  have h2:memB f r=false:=by
   cases hb:memB f r with
   | false=>rfl
   | true=>simp [memB,hb] at h
  simp only [BQ];rw [partN h2];simp only [hfam,h1]
theorem XF (l:List Nat):JN l l=true:=by
 have key:∀(l m:List Nat),(∀x∈l,x∈m) ->JN l m=true:=fun l=>by
  induction l with
  | nil=>intro m _;rfl
  | cons a r ih=>intro m h;simp only [JN,ωd];exact ⟨FU.2 (h a (by simp)),ih m fun x hx=>h x (by simp [hx])⟩
 exact key l l fun x hx=>hx
theorem Di {α β:Type} {step:β ->α ->β×Bool} {b:β} {x:α} {r:List α}:HB step b (x::r)=if (step b x).2=true then HB step (step b x).1 r else (step b x).1:=by
 simp only [HB]
 generalize step b x=y
 obtain ⟨y1,y2⟩:=y
 cases y2<;>rfl
def encI (x:AK):List AV:=[.d (Ao x)]
section
variable {β:Type}
theorem seqV_c (its:List AK) (hits:its.length≤1000000) (l:Nat) (H:β ->Hp) (N:List Nat) (step:β ->AK ->β×Bool) (st0:β) (hN:∀st,hpN (H st)=N) (hI:∀st,fSq N (H st)=true) (hP:∀st,BQ (H st) N=some (H st))
  (hk:∀st,AW 990 (H st)=some (H st)) (hz:∀st,hfam (H st) 990=none) (hm:memB 990 N=false)
  (hfe:L5 Tryz.prog l encI H step st0 its):
  AM Tryz.prog 164 [.d (.raw (Cj l)),.d (.ptr (.sl none (its.map Ao)))] (H st0) fun r H'=>r= .tup []∧H'=H (HB step st0 its):=by
 refine Az Tryz.func164 Z Z Tryz.ntmps164 Z Z Z fun F hF=>(AC (AE (J (D0 Z Z Kb Z) (J (CM Z Tryz.underlying37 Z) (goMv Z Z (AD (A4 (Gm (α:=Nat×β) (fun p=>⟨16,[(0,.d (.raw (Cj l))),(5,(.d (.sl none (its.map Ao)))),(6,(.d (AF (its.length:Int)))),(7,(.d (AF (p.1:Int))))],H p.2⟩) (fun p=>p.1≤its.length∧L5 Tryz.prog l encI H step p.2 (its.drop p.1)∧HB step p.2 (its.drop p.1)=HB step st0 its) (fun p=>its.length - p.1) ((0,st0)) (⟨Δ _,hfe,Z⟩) (dJ ⟨Z,Z,Z,Z,trivial⟩) ?_))))))));rintro ⟨k,st⟩ ⟨hk0,hfd,hfin⟩;dsimp only at hk0 hfd hfin⊢;refine AC (AE (J (BV Z Z Z) (AD (AC (Ae Z (fun h8=>?_) (fun h8=>?_))))))
 ·have hk1:k<its.length:=Bf h8;refine A1 (AC (A4 (AC (AE ?_))));have hA:its.drop k=its[k]::its.drop (k+1):=χg hk1;rw [hA] at hfd;refine J (Bk (k) Z Z (Z) (Ah hk1) Tryz.underlying37 Z Cd Z) (J (GN Z Z By Z) (V (CD 990 El Z (hk _) (hnewN (hz _)) Z) (V (Be Z Z Z Z Z Z Z Cd) (AD (AC ?_)))));refine AE (goMv Z Z (J (BM Z Z By Z Z Z) (o_keep [0,5,6,7,11,12] Z (o_only N (hF.trans (hN st0)) (XF N) ((partN hm).trans (hP _)) (aY hfd.1 Z Z (by rw [hN,hN]) (by rw [hN];exact hI _) Z Z (J (O3 Z Z) (AD (KK Z (fun h14=>?_) (fun h14=>?_)))))))))
  ·have hgo:(step st its[k]).2=false:=by simpa using h14
   refine A5 ?_;exact ⟨_,N,_,A3 Z,hP _,by rw [←hN st0];exact EH _,Z,by rw [←hfin,hA,Di,ϑ (by rw [hgo];decide)]⟩
  ·have hgo:(step st its[k]).2=true:=by simpa using h14
   refine A1 (AE (J (Ay Z Z (AT (k+1) (by omega)) Z) (goMv Z Z (AD ?_))));exact ⟨(k+1,(step st its[k]).1),⟨by show k+1≤_;omega,hfd.2 hgo,by rw [←hfin,hA,Di,θ hgo]⟩,by show its.length - (k+1)<its.length - k;omega,⟨Z,Z,fun _ _=>Tm.get (l:=[(0,_),(5,_),(6,_),(7,_)]) ⟨Z,Z,Z,Z,trivial⟩⟩⟩
 ·refine BC ?_;exact ⟨_,N,_,A3 Z,hP _,by rw [←hN st0];exact EH _,Z,by rw [←hfin,List.drop_of_length_le (by have h:=h8;omega)];rfl⟩
end
theorem SR.freezeB {F:Fr} {s:AS} {ρ:Nat ->Nat ->Value} {act:Act} {w:World} (h:SR F s ρ act w) (t f:Nat) (x:D) {T:TypeId} {cs:List AV} {hp':Hp} (nm:List Nat) {pn:List Nat} (hF:F.pn=pn) (ht:get s.env t=some (.ptr f 0 0)) (hone:hfam s.hp f=some [.blk T cs]) (hcs:cs=x.cells.map .d) (hx1:∀c∈x.cells,c.one=true) (hf:memB f nm=false) (hsub:JN pn nm=true) (hpt:BQ s.hp nm=some hp'):SR F ⟨s.n,(t,.d (.ptr x))::s.env,hp'⟩ ρ act w:=by
 have h1:=h.only nm hF hsub hpt;refine ⟨h1.size,h1.defs,fun t' a ha=>?_,h1.heap⟩;rcases KG ha with ⟨rfl,rfl⟩ | ⟨_,ha⟩
 ·have hr:=h.env t _ ht;have ho:hget s.hp f 0=some (.blk T cs):=by simp [hget,hone,gl,isM]
  obtain ⟨b,us,e1,e2,e3,e4,e5⟩:=h.heap.sim f 0 _ ho;show AU _ _ _ _ (act.tmps.getD t undef)
  generalize act.tmps.getD t undef=v at hr
  cases hr with
  | @ptr _ _ _ b' hb=>
   rw [e1] at hb;injection hb with hb;injection hb with hb;injection hb with hb;subst hb
   have hO:∀b',F.O ρ hp' b' ->F.O ρ s.hp b':=fun b' hb'=>hb'.imp id fun ⟨f',i',o',q1,q2⟩=>by
    obtain ⟨m1,_⟩:=D9 hpt;refine ⟨f',i',o',?_,q2⟩;simp only [hget] at q1⊢
    cases hh:hfam hp' f' with
    | none=>rw [hh] at q1;cases q1
    | some l=>rw [(m1 f' l hh).2];rw [hh] at q1;exact q1
   have hnO:¬F.O ρ hp' b:=fun hb'=>by
    rcases hb' with hb' | ⟨f',i',o',q1,q2⟩
    ·exact h.heap.notOf ⟨f,0,_,ho,by rw [e1];rfl⟩ hb'
    ·obtain ⟨m1,_⟩:=D9 hpt;simp only [hget] at q1
     cases hh:hfam hp' f' with
     | none=>rw [hh] at q1;cases q1
     | some l=>
      have q3:hget s.hp f' i'=some o':=by simp only [hget];rw [(m1 f' l hh).2];rw [hh] at q1;exact q1
      obtain ⟨e1',_⟩:=h.heap.inj f' i' f 0 _ _ b q3 ho q2 (by rw [e1];rfl);have:=FU.2 (m1 f' l hh).1;rw [e1',hf] at this;cases this
   have hlen:us.length=x.cells.length:=by rw [e3,hcs,ψ]
   refine .d (.ptr (fun j=>us.getD j undef) (h.heap.ltO (.inr ⟨f,0,_,ho,by rw [e1];rfl⟩)) hnO hx1 (fun j c hj=>?_) (fun j c hj=>?_))
   ·have hj':j<us.length:=by rw [hlen];exact (χ.1 hj).1
    rw [ψs,cell_of_row w b j us.toArray T (0,0) e2]
    simp [hj']
   ·have hj':j<us.length:=by rw [hlen];exact (χ.1 hj).1
    have hc:=e4 j (.d c) us[j] (by rw [hcs,η,hj];rfl) (ω hj');have hg:us.getD j undef=us[j]:=by simp [hj']
    rw [hg]
    cases hc with
    | d hc=>exact hc.mono (ϖ _) (fun _ _ _=>rfl) fun b' _=>hO b'
 ·exact h1.env t' a ha
theorem PD {P:Program} {F:Fr} {Q:Exit ->AS ->Prop} {ops:Array Oper} {l':List Oper} {sn:Nat} {env:List (Nat×AV)} {hp hp':Hp} (t f:Nat) (x:D) {T:TypeId} {cs:List AV} (nm:List Nat) {pn:List Nat} (hF:F.pn=pn) (ht:get env t=some (.ptr f 0 0)) (hone:hfam hp f=some [.blk T cs]) (hcs:cs=x.cells.map .d) (hx1:∀c∈x.cells,c.one=true) (hf:memB f nm=false) (hsub:JN pn nm=true) (hpt:BQ hp nm=some hp')
  (h:A8 P F ops l' Q ⟨sn,(t,.d (.ptr x))::env,hp'⟩):A8 P F ops l' Q ⟨sn,env,hp⟩:=fun ρ act w hs=>h ρ act w (hs.freezeB t f x nm hF ht hone hcs hx1 hf hsub hpt)
theorem Yo (its:List AK):AM Tryz.prog 121 [.d (.sl none (its.map Ao))] [] fun r H'=>r= .fn 164 [.d (.ptr (.sl none (its.map Ao)))]∧H'=[]:=by
 refine Az Tryz.func121 Z Z Tryz.ntmps121 Z Z Z fun F hF=>(AC (AE (V (CC 1 Z Z Z Z Z Z Z) ?_)));refine AB Z Z (AD (AC (AE (PD 1 1 (.sl none (its.map Ao)) [] hF Z Z Z (by intro c hc;simp [D.cells] at hc;subst hc;rfl) Z Z Z (J (Zcy Z Z) (AB Z Z (AD (A5 ?_))))))));exact ⟨_,[],[],A3 Z,Z,Z,Z,Z⟩
abbrev hV (q:List AK):Hp:=[(920,[.rowD 55 6 (q.map Ao)]),(1,[.blk 37 [.own 920 0 q.length]])]
def V4 (q:List AK) (x:AK):List AK×Bool:=(q++ [x],true)
theorem Sl:∀(l q:List AK),HB V4 q l=q++l
 | [],q=>by simp [HB]
 | x::l,q=>by rw [Di];show (if true=true then HB V4 (q++ [x]) l else _)=_;rw [θ Z,Sl l];simp
theorem P2 {P:Program} {l:Nat} {H:List AK ->Hp} {n:Nat} (hY:∀q x,q.length<n ->Fm P l (encI x) (H q) fun v H'=>v= .d (.raw (.bool true))∧H'=H (q++ [x])):∀(xs q:List AK),q.length+xs.length≤n ->L5 P l encI H V4 q xs
 | [],_,_=>trivial
 | x::xs,q,h=>⟨hY q x (by simp at h;omega),fun _=>P2 hY xs (q++ [x]) (by simp at h⊢;omega)⟩
theorem cq (its:List AK) (hits:its.length≤1000000):AM Tryz.prog 210 [.d (.sl (some true) []),.fn 164 [.d (.ptr (.sl none (its.map Ao)))]] [] fun r H'=>r= .own 920 0 its.length∧H'=[(920,[.rowD 55 6 (its.map Ao)])]:=by
 refine Nu Tryz.func210 Z Z Tryz.ntmps210 Z Z Z fun F hF hFl=>(AC (AE (V (CC 1 Z Z Z Z Z Z Z) ?_)));refine AB Z Z (AD (AC (AC (EM 1 0 0 920 OH Z Z Z Z Z Z Z (AE (goMv Z Z (AD (A4 ?_))))))));refine dB [2,6] Z ?_;refine Wj (γ:=Unit) hFl 900 Z Z Z Z Z [1,920] (CHr:=hV []) (fun _=>True) (fun _=>hV its) (fun _=> .ready) (fun _=>none) ⟨Z,Z,trivial⟩ Z Z Z (fun _=>rfl) (fun _=>rfl) Z (fun _ _=>by simp) (fun _ _=>⟨Z,Z⟩) [920,1] hF Z Z (fun _ _=>rfl) (fun l A B hA hB=>?_) (fun _ _=>?_)
 ·refine (seqV_c its hits l (fun q:List AK=>(900,[.loop ⟨l,13,[(2,.ptr 1 0 0),(6,.fn 164 [.d (.ptr (.sl none (its.map Ao)))])],.ready,none, #[7],A,B⟩])::hV q) [900,920,1] V4 [] (fun _=>rfl) (fun _=>rfl) (fun _=>rfl) (fun _=>rfl) (fun _=>rfl) Z ?_).mono (fun r H' ⟨e1,e2⟩=>⟨e1,(),trivial,by rw [e2,Sl];rfl⟩);refine P2 (n:=its.length) (fun q x hq=>?_) its [] (by simp);refine Qt (lf:=900) Z Z Z Z fun F hF hr=>?_;show Bn _ _ A _ _;rw [hA];refine AE (V (CD 2 El Z Z Z Z) (V (Be Z Z Z Z Z Z Z Cd) (AD (⟨Z,_,_,Z,Z,Z,Z,?_⟩))));show Bn _ _ B _ _;rw [hB];refine A4 (AE (J (A6 Z Z Z Kb Z) (J (BM Z Z By Z Z Z) (V (D1 30 OH Z Z Z Z Z Z Z Z) (V (I0 (q) ([x]) Z Z Z Z Z Z Z Z OH (by simp only [Ψ];omega) Z Z Z Z) (V (Be Z Z Z Z Z Z Z sz37) (AD ?_)))))));exact ⟨none,_,_,[900,920,1],_,Z,Z,Z,Z,Z,Z,Z,Z⟩
 ·refine AC (AE (J (A6 Z Z Z Kb Z) (AB Z Z (AD (A5 ?_)))));exact ⟨_,[920],_,A3 Z,Z,Z,Z,Z⟩
theorem insO_perm (l:List AK) (x:AK):(OT l x).Perm (x::l):=by
 induction l with
 | nil=>exact List.Perm.refl _
 | cons a l ih=>
  simp only [OT];split
  ·exact List.Perm.refl _
  ·exact (List.Perm.cons a ih).trans (List.Perm.swap x a l)
theorem S6 {l:List AK} (h:l.Pairwise fun a b=>¬Fy b a<0) (x:AK):(OT l x).Pairwise fun a b=>¬Fy b a<0:=by
 induction l with
 | nil=>simp [OT]
 | cons a l ih=>
  rw [ψz] at h;simp only [OT]
  split
  ·rename_i hall
   exact ψz.2 ⟨fun y hy=>by have h1:=hall y hy;have h2:=DL.anti x y;omega,ψz.2 h⟩
  ·rename_i hn
   refine ψz.2 ⟨fun y hy=>?_,ih h.2⟩;rcases Φ.1 ((insO_perm l x).mem_iff.1 hy) with rfl | hy
   ·intro hlt;refine hn fun z hz=>?_;rcases Φ.1 hz with rfl | hz
    ·exact hlt
    ·have h1:=h.1 z hz;have h2:=DL.anti a z
     by_cases e:Fy a z=0
     ·have h3:=DL.eqv a z y e;have h4:=DL.anti a y;have h5:=DL.anti z y;omega
     ·exact DL.trans _ _ _ hlt (by omega)
   ·exact h.1 y hy
theorem Qd (l:List AK):(sortO l).Perm l:=by
 induction l using Y9 with
 | h0=>exact List.Perm.refl _
 | h1 l x ih=>
  rw [Ii];exact (insO_perm _ x).trans ((List.Perm.cons x ih).trans (List.perm_append_comm (l₁:=[x]) (l₂:=l)))
theorem Pk (l:List AK):(sortO l).Pairwise fun a b=>¬Fy b a<0:=by
 induction l using Y9 with
 | h0=>exact List.Pairwise.nil
 | h1 l x ih=>rw [Ii];exact S6 ih x
theorem X3 {a b:AK} (h:Fy a b=0):a.sq=b.sq:=by
 unfold Fy at h;simp only [Bd] at h
 split at h
 ·split at h
  ·rename_i h2;exact IX.1 h2
  ·contradiction
 ·contradiction
theorem Od {l:List AK} (hn:(l.map AK.sq).Nodup) (h:l.Pairwise fun a b=>¬Fy b a<0):l.Pairwise fun a b=>Fy a b<0:=by
 rw [List.Nodup,ψb] at hn;refine (h.and hn).imp fun {a b} ⟨g1,g2⟩=>?_;have h1:=DL.anti a b;have h2:Fy a b≠0:=fun e=>g2 (X3 e);omega
theorem Vi {its ys:List AK} (hn:(its.map AK.sq).Nodup) (h1:ys.Perm its) (h2:ys.Pairwise fun a b=>¬Fy b a<0):ys=sortO its:=
 Zcw (R:=fun a b=>Fy a b<0) (fun x=>by rw [DL.refl];omega) (fun x y z=>DL.trans x y z) (Od ((h1.map _).nodup_iff.2 hn) h2) (Od (((Qd its).map _).nodup_iff.2 hn) (Pk its)) fun x=>by rw [h1.mem_iff,(Qd its).mem_iff]
theorem SZ (x:AK):∃cs,Ao x= .agg cs:=⟨_,Z⟩
abbrev seqA (its:List AK):AV:= .fn 164 [.d (.ptr (.sl none (its.map Ao)))]
theorem YL (its:List AK) (hits:its.length≤1000000):AM Tryz.prog 163 [seqA its] [] fun r H'=>r= .own 920 0 its.length∧H'=[(920,[.rowD 55 6 (its.map Ao)])]:=by
 refine Az Tryz.func163 Z Z Tryz.ntmps163 Z Z Z fun F hF=>(AC (AE ?_));refine AB Z Z (AD (AC (AE (goMv Z Z (V (EW (cq its hits) Z [920] ⟨Z,trivial⟩ Z Z Z Z Z Z Z Z Z) (AB Z Z (AD (A5 ?_))))))));exact ⟨_,[920],_,A3 Z,Z,Z,Z,Z⟩
theorem XJ (its:List AK) (hits:its.length≤1000000) (hn:(its.map AK.sq).Nodup):AO Tryz.prog 120 [seqA its,.d (.raw (.func (.func 122) #[] #[]))] (.sl none ((sortO its).map Ao)):=by
 refine Az Tryz.func120 Z Z Tryz.ntmps120 Z Z Z fun F hF=>(AC (AE (AB Z Z (AD (AC ?_)))));refine AE (goMv Z Z (V (EW (YL its hits) Z [920] ⟨Z,trivial⟩ Z Z Z Z Z Z Z Z Z) (AB Z Z (AD (AC (AE (goMv Z Z (goMv Z Z ?_))))))));refine V (Lk laysI (k:=6) (by decide) Tryz.isAgg55 Tryz.sizeOf55 Tryz.func122 Z Z SZ Fy DL.swo its (sortO its) (by omega) (fun x _ y _=>Vh x y) (fun ys g1 g2=>Vi hn g1 g2) Z Z Z Ku Z Z Z Z Z) (AD (AC (L3 (emb:=Ao) 5 920 (sortO its) Z Z Z (Cw its).symm Z Z Z (AE (goMv Z Z (AB Z Z (AD (A5 ?_))))))));exact ⟨_,[],[],A3 Z,Z,Z,Z,Z⟩
theorem LR {l:List AK} (h:Fj l=0):(l.map AK.sq).Nodup:=by
 have h0:=Wo.1 h;rw [List.Nodup,ψb,ωz];intro i j hi hj hij e;have:=h0 j (Θ.2 hj);unfold OU at this;rw [Bp itm0 hj] at this
 split at this
 ·contradiction
 ·split at this
  ·cases this
  ·rename_i hn
   exact hn (.inr (NB hj hij e))
theorem Nv {p:Prb} (h:Ad p=0):EP p.ro=0∧Fj p.it=0∧Qc p.it=0:=by
 unfold Ad at h
 split at h; · cases h
 have h3:=Jc h;exact ⟨h3 _ (by simp),h3 _ (by simp),h3 _ (by simp)⟩
def ordP (p:Prb):List AK:=if Ad p=0 then sortO p.it else []
theorem K8 (p:Prb) (hb:Eb p):AO Tryz.prog 68 [.d (Bq p)] (.sl none ((ordP p).map Ao)):=by
 have hck:=FB p hb;obtain ⟨_,g2,_⟩:=hb
 by_cases hE:Ad p=0
 ·rw [hE] at hck;have hR:ordP p=sortO p.it:=θ hE;rw [hR];refine Az Tryz.func68 Z Z Tryz.ntmps68 Z Z Z fun F hF=>(AC (AE (V (CC 1 Z Z Z Z Z Z Z) (AB Z Z (AD ?_)))));refine AC (AC (AE (J (BM Z Z B2 Z Z Z) (J (B4 (hck) Z Z) (J (DX Z Z Z) (AD (EN Z ((by decide)) (A1 ?_))))))));refine AC (AE (J (AZ Z ES Z Z Z) (J (A6 Z Z Z Kb Z) (V (EW (Yo p.it) Z [] trivial Z Z Z Z Z Z Z Z Z) (J (B4 (XJ p.it (by omega) (LR (Nv hE).2.1)) Z Z) (AB Z Z (AD (A5 ?_))))))));exact ⟨_,[],[],A3 Z,Z,Z,Z,Z⟩
 ·have hR:ordP p=[]:=ϑ hE;rw [hR];refine Az Tryz.func68 Z Z Tryz.ntmps68 Z Z Z fun F hF=>(AC (AE ?_));refine V (CC 1 Z Z Z Z Z Z Z) (AB Z Z (Wp 2 Z (AD (AC (AC (AE (J (BM Z Z B2 Z Z Z) (J (B4 (hck) Z Z) ?_))))))));refine J (DX Z Z Z) (AD (DV Z ((by simpa using hE)) (AC (AE (AB Z Z (Wp 2 Z (AD (A5 ?_))))))));exact ⟨_,[],[],A3 Z,Z,Z,Z,Z⟩
theorem DK (p:Prb):(ordP p).length≤p.it.length:=by unfold ordP;split<;>simp [Cw]
theorem HX {p:Prb} {i:AK} (h:i∈ordP p):i∈p.it:=by
 unfold ordP at h;split at h
 ·exact (Qd _).mem_iff.1 h
 ·cases h
theorem HV (p:Prb) (hb:Eb p):AO Tryz.prog 33 [.d (Bq p)] (.sl none (((ordP p).map AK.id).map AF)):=by
 have hso:=K8 p hb;have hlen:=DK p;have hb2:=hb.2.1
 obtain ⟨S,hS⟩:∃S,ordP p=S:=⟨_,Z⟩
 rw [hS] at hso hlen⊢;refine Az Tryz.func33 Z Z Tryz.ntmps33 Z Z Z fun F hF=>(AC (AE ?_));refine V (CC 1 Z Z Z Z Z Z Z) (AB Z Z (AD (AC (AE (AB Z Z (AD (AC (AC ?_))))))));refine O4 3 900 BW Z Z Z Z (AE (J (BM Z Z B2 Z Z Z) (J (B4 (hso) Z Z) (J (CM Z Tryz.underlying37 Z) (goMv Z Z (AD (A4 (B5 (α:=Nat×List Int) (fun q=>⟨20,[(3,(.own 900 0 q.2.length)),(7,(.d (.sl none (S.map Ao)))),(8,(.d (AF (S.length:Int)))),(9,(.d (AF (q.1:Int))))],[(900,[.rowD 3 1 (q.2.map AF)])]⟩) (fun q=>q.1≤S.length∧q.2=(S.take q.1).map AK.id) (fun q=>S.length - q.1) ((0,[])) (⟨Δ _,Z⟩) (A0 hF [900] Z Z ⟨Z,Z,Z,Z,trivial⟩) ?_))))))));rintro ⟨k,acc⟩ ⟨hk0,hA⟩;dsimp only at hk0 hA⊢;refine AC (AE (J (BV Z Z Z) (AD (AC (Ae Z (fun h10=>?_) (fun h10=>?_))))))
 ·have hk1:k<S.length:=Bf h10;refine A1 (AC (A4 (AC (AE ?_))));have hal:acc.length≤100000:=by rw [hA,ψ,Υ];omega
  refine J (Bk (k) Z Z (Z) (Ah hk1) Tryz.underlying37 Z Cd Z) (J (GN Z Z By Z) (V (CD 2 El Z Z Z Z) (V (Be Z Z Z Z Z Z Z Cd) (AD (AE (goMv Z Z (J (AZ Z OC Z Z Z) ?_)))))));refine J (A6 Z Z Z Aq Z) (V (D1 3 BW Z Z Z Z Z Z Z Z) (V (I0 (acc) ([S[k].id]) Z Z Z Z Z Z Z Z BW (by simp only [Ψ];omega) Z Z Z Z) (AB Z Z (AD (AE (J (Ay Z Z (AT (k+1) (by omega)) Z) (goMv Z Z (AD ?_))))))));exact ⟨(k+1,_),⟨by show k+1≤_;omega,by show _=(S.take (k+1)).map AK.id;rw [DF hk1,←hA]⟩,by show S.length - (k+1)<S.length - k;omega,A0 hF [900] Z (Z) ⟨Z,Z,Z,Z,trivial⟩⟩
 ·refine BC (AC (L3 (emb:=AF) 3 900 acc Z Z Z Z Z Z Z (AE (goMv Z Z (AB Z Z (AD (A5 ?_)))))));exact ⟨_,[],[],A3 Z,Z,Z,by rw [hA,Ξ (by have h:=h10;omega)],Z⟩
theorem queue_p (p:Prb) (r:AP) (hb:Eb p):AO Tryz.prog 173 [.d (Bq p),.d (CV r)] (.sl none ((qIds (ordP p) r).map AF)):=by
 have hso:=K8 p hb;have hlen:=DK p;have hb2:=hb.2.1;have hmem:∀i∈ordP p,i.po.length≤100000∧i.pa.length≤100000∧i.af.length≤100000:=fun i hi=>hb.2.2 i (HX hi)
 obtain ⟨S,hS⟩:∃S,ordP p=S:=⟨_,Z⟩
 rw [hS] at hso hlen hmem⊢;refine Az Tryz.func173 Z Z Tryz.ntmps173 Z Z Z fun F hF=>(AC (AE (V (CC 1 Z Z Z Z Z Z Z) ?_)));refine V (CC 2 Z Z Z Z Z Z Z) (AB Z Z (AD (AC (AE (AB Z Z (AD (AC (AC ?_))))))));refine O4 5 900 BW Z Z Z Z (AE (J (BM Z Z B2 Z Z Z) (J (B4 (hso) Z Z) (J (CM Z Tryz.underlying37 Z) (goMv Z Z (AD (A4 (B5 (α:=Nat×List Int) (fun q=>⟨26,[(3,(.ptr 2 0 0)),(5,(.own 900 0 q.2.length)),(9,(.d (.sl none (S.map Ao)))),(10,(.d (AF (S.length:Int)))),(11,(.d (AF (q.1:Int))))],[(2,[.blk 64 [.d (AF r.k),.d (Am r.acc.o),.d (AF r.acc.k),.d (Am r.acc.a),.d (Am r.f),.d (Am r.t)]]),(900,[.rowD 3 1 (q.2.map AF)])]⟩) (fun q=>q.1≤S.length∧q.2=qIds (S.take q.1) r) (fun q=>S.length - q.1) ((0,[])) (⟨Δ _,Z⟩) (A0 hF [2,900] Z Z ⟨Z,Z,Z,Z,Z,trivial⟩) ?_))))))));rintro ⟨k,acc⟩ ⟨hk0,hA⟩;dsimp only at hk0 hA⊢;refine AC (AE (J (BV Z Z Z) (AD (AC (Ae Z (fun h12=>?_) (fun h12=>?_))))))
 ·have hk1:k<S.length:=Bf h12;refine A1 (AC (A4 (AC (AE ?_))));have hgi:=hmem _ (κ hk1);have hal:acc.length≤100000:=by rw [hA];unfold qIds;rw [ψ];have:=ωj (fun i=>decide (Bg i r<0)) (S.take k);rw [Υ] at this;omega
  refine J (Bk (k) Z Z (Z) (Ah hk1) Tryz.underlying37 Z Cd Z) (J (GN Z Z By Z) (V (CD 3 El Z Z Z Z) (V (Be Z Z Z Z Z Z Z Cd) ?_)));refine AD (AC (AE (J (BM Z Z By Z Z Z) (J (BM Z Z CU Z Z Z) (J (B4 (W4 S[k] r (by omega) (by omega) (by omega)) Z Z) (J (BV Z Z Z) (AD (Ae Z (fun h18=>?_) (fun h18=>?_)))))))))
  ·refine AE (goMv Z Z (J (AZ Z OC Z Z Z) ?_));refine J (A6 Z Z Z Aq Z) (V (D1 4 BW Z Z Z Z Z Z Z Z) (V (I0 (acc) ([S[k].id]) Z Z Z Z Z Z Z Z BW (by simp only [Ψ];omega) Z Z Z Z) (AB Z Z (AD (AE (J (Ay Z Z (AT (k+1) (by omega)) Z) (goMv Z Z (AD ?_))))))));exact ⟨(k+1,_),⟨by show k+1≤_;omega,by show _=qIds (S.take (k+1)) r;unfold qIds;rw [GF hk1,θ (by simpa using h18),ωe,hA];rfl⟩,by show S.length - (k+1)<S.length - k;omega,A0 hF [2,900] Z (Z) ⟨Z,Z,Z,Z,Z,trivial⟩⟩
  ·refine A1 (AE (J (Ay Z Z (AT (k+1) (by omega)) Z) (goMv Z Z (AD ?_))));exact ⟨(k+1,_),⟨by show k+1≤_;omega,by show _=qIds (S.take (k+1)) r;unfold qIds;rw [GF hk1,ϑ (by simpa using h18),ωl,hA];rfl⟩,by show S.length - (k+1)<S.length - k;omega,A0 hF [2,900] Z (Z) ⟨Z,Z,Z,Z,Z,trivial⟩⟩
 ·refine BC (AC (L3 (emb:=AF) 5 900 acc Z Z Z Z Z Z Z (AE (goMv Z Z (AB Z Z (AD (A5 ?_)))))));exact ⟨_,[],[],A3 Z,Z,Z,by rw [hA,Ξ (by have h:=h12;omega)],Z⟩
def NL (l:List AK) (id:Int):AK×Bool:=match l.find? fun x=>decide (x.id=id) with
 | some x=>(x,true)
 | none=>(itm0,false)
theorem S3 {l:List AK} {id:Int} {k:Nat} (hk:k<l.length) (h0:id∉(l.take k).map AK.id) (h:l[k].id=id):NL l id=(l[k],true):=by
 have:l.find? (fun x=>decide (x.id=id))=some l[k]:=by
  rw [List.find?_eq_some_iff_getElem];refine ⟨by simp [h],k,hk,Z,fun j hj=>?_⟩;simp only [Bool.not_eq_true',decide_eq_false_iff_not];intro e;exact h0 (NB hk hj e)
 unfold NL;rw [this]
theorem bX {l:List AK} {id:Int} (h:id∉l.map AK.id):NL l id=(itm0,false):=by
 have:l.find? (fun x=>decide (x.id=id))=none:=by
  rw [List.find?_eq_none];intro x hx e;exact h (ν.2 ⟨x,hx,by simpa using e⟩)
 unfold NL;rw [this]
theorem Xu:∀w O v,AQ w O (.agg [AF 0,AF 0,AF 0,.sl (some true) [],.sl (some true) [],.sl (some true) []]) v ->AQ w O (Ao itm0) v:=fun w O v h=>h.aggMono Z (by simp [D.one]) fun i c c' hc hc' v hv=>by
 match i,hc,hc' with
 | 0,hc,hc'=>injection hc with hc;injection hc' with hc';subst hc hc';exact hv
 | 1,hc,hc'=>injection hc with hc;injection hc' with hc';subst hc hc';exact hv
 | 2,hc,hc'=>injection hc with hc;injection hc' with hc';subst hc hc';exact hv
 | 3,hc,hc'=>injection hc with hc;injection hc' with hc';subst hc hc';exact hv.anyNil
 | 4,hc,hc'=>injection hc with hc;injection hc' with hc';subst hc hc';exact hv.anyNil
 | 5,hc,hc'=>injection hc with hc;injection hc' with hc';subst hc hc';exact hv.anyNil
theorem item_p (p:Prb) (id:Int) (hb:Eb p):AO Tryz.prog 24 [.d (Bq p),.d (AF id)] (.tup [Ao (NL (ordP p) id).1,Ag (NL (ordP p) id).2]):=by
 have hso:=K8 p hb;have hlen:=DK p;have hb2:=hb.2.1;have hmem:∀i∈ordP p,i.po.length≤100000∧i.pa.length≤100000∧i.af.length≤100000:=fun i hi=>hb.2.2 i (HX hi)
 obtain ⟨S,hS⟩:∃S,ordP p=S:=⟨_,Z⟩
 rw [hS] at hso hlen hmem⊢;refine Az Tryz.func24 Z Z Tryz.ntmps24 Z Z Z fun F hF=>(AC (AE (V (CC 1 Z Z Z Z Z Z Z) (V (CD 2 El Z Z Z Z) (AB Z Z (AD (AC ?_)))))));refine AC (AE (J (BM Z Z B2 Z Z Z) (J (B4 (hso) Z Z) (J (CM Z Tryz.underlying37 Z) (goMv Z Z (AD (A4 (B5 (α:=Nat) (fun k=>⟨23,[(1,.d (AF id)),(4,(.ptr 2 0 0)),(9,(.d (.sl none (S.map Ao)))),(10,(.d (AF (S.length:Int)))),(11,(.d (AF (k:Int))))],[(2,[.blk 55 [.d (AF 0),.d (AF 0),.d (AF 0),I4,I4,I4]])]⟩) (fun k=>k≤S.length∧id∉(S.take k).map AK.id) (fun k=>S.length - k) (0) (⟨Δ _,by simp⟩) (A0 hF [2] Z Z ⟨Z,Z,Z,Z,Z,trivial⟩) ?_))))))));rintro k ⟨hk0,hk⟩;refine AC (AE (J (BV Z Z Z) (AD (AC (Ae Z (fun h12=>?_) (fun h12=>?_))))))
 ·have hk1:k<S.length:=Bf h12;refine A1 (AC (A4 (AC (AE ?_))));have hgi:=hmem _ (κ hk1);refine J (Bk (k) Z Z (Z) (Ah hk1) Tryz.underlying37 Z Cd Z) (J (GN Z Z By Z) (V (CD 3 El Z Z Z Z) (V (Be Z Z Z Z Z Z Z Cd) ?_)));refine AD (AC (AE (J (AZ Z OC Z Z Z) (J (A6 Z Z Z Aq Z) (goMv Z Z (J (KL Z Z Z) (AD (Ae Z (fun h18=>?_) (fun h18=>?_)))))))))
  ·refine AC (AE (J (BM Z Z By Z Z Z) (J (B4 (clone_p S[k] (by omega) (by omega) (by omega)) Z Z) (V (Be Z Z Z Z Z Z Z Cd) (AB Z Z (AD (A5 ?_)))))));exact ⟨_,[],[],A3 Z,Z,Z,by rw [S3 hk1 hk h18],Z⟩
  ·refine A1 (AE (J (Ay Z Z (AT (k+1) (by omega)) Z) (goMv Z Z (AD ?_))));exact ⟨k+1,⟨by show k+1≤_;omega,Xb hk1 hk h18⟩,by show S.length - (k+1)<S.length - k;omega,A0 hF [2] Z (Z) ⟨Z,Z,Z,Z,Z,trivial⟩⟩
 ·refine BC (AC (AE (J (FV El pl55 Z Z Z) (Vt 22 (Ao itm0) Z Xu (V (Be Z Z Z Z Z Z Z Cd) (AB Z Z (AD (A5 ?_))))))));exact ⟨_,[],[],A3 Z,Z,Z,by rw [bX (by rw [Ξ (by have h:=h12;omega)] at hk;exact hk)],Z⟩
theorem WS {l:List AK} (hn:(l.map AK.id).Nodup) {x y:AK} (hx:x∈l) (hy:y∈l) (h:x.id=y.id):x=y:=by
 induction l with
 | nil=>cases hx
 | cons a l ih=>
  rw [ωm,φb] at hn;rcases Φ.1 hx with e1 | hx'<;>rcases Φ.1 hy with e2 | hy'
  ·rw [e1,e2]
  ·exact absurd (ν.2 ⟨y,hy',by rw [←h,e1]⟩) hn.1
  ·exact absurd (ν.2 ⟨x,hx',by rw [h,e2]⟩) hn.1
  ·exact ih hn.2 hx' hy'
theorem dI {l:List AK} (h:Fj l=0):(l.map AK.id).Nodup:=by
 have h0:=Wo.1 h;rw [List.Nodup,ψb,ωz];intro i j hi hj hij e;have:=h0 j (Θ.2 hj);unfold OU at this;rw [Bp itm0 hj] at this
 split at this
 ·contradiction
 ·split at this
  ·cases this
  ·rename_i hn
   exact hn (.inl (NB hj hij e))
theorem own_p (p:Prb) (h:Sml p):AO Tryz.prog 13 [.d (Bq p)] (Bq p):=by
 obtain ⟨g1,g2,g3⟩:=h;refine Az Tryz.func13 Z Z Tryz.ntmps13 Z Z Z fun F hF=>(AC (AE (V (CC 1 Z Z Z Z Z Z Z) (V (CD 2 Ye Z Z Z Z) (AD (AC (AE (V (CD 3 Ye Z Z Z Z) ?_))))))));refine AD (AC (AC (EM 3 0 0 901 Pm Z Z Z Z Z Z Z (AE (AB Z Z (AD (A4 (B5 (α:=List Roo) (fun acc=>⟨51,[(1,(.ptr 1 0 0)),(2,(.ptr 2 0 0)),(3,(.ptr 3 0 0)),(4,(.d (AF (acc.length:Int))))],[(901,[.rowD 88 7 (acc.map CX)]),(1,[Mj 25 p]),(2,[.blk 39 [I4,I4]]),(3,[.blk 39 [.own 901 0 acc.length,I4]])]⟩) (fun acc=>acc=p.ro.take acc.length∧acc.length≤p.ro.length) (fun acc=>p.ro.length - acc.length) ([]) (⟨by simp,Δ _⟩) (A0 hF [901,1,2,3] Z Z ⟨Z,Z,Z,Z,trivial⟩) ?_))))))));rintro acc ⟨hI,hk0⟩;refine AC ?_;refine AC (AE (goMv Z Z (J (AZ Z QR Z Z Z) (J (A6 Z Z Z on22 Z) (J (CM Z Tryz.underlying22 Z) (J (BV Z Z Z) (AD (Ae Z (fun h10=>?_) (fun h10=>?_)))))))))
 ·have hk1:acc.length<p.ro.length:=Bf h10;refine A1 (AC (A4 (Cb [[],[0],[],[2],[],[2,3,4],[2,3,4,5],[2,3,4,5,6],[2,3,4,5,6,7],[],[9],[],[9,10,11],[9,10,11,12],[9,10,11,12,13],[2,3,4,5,6,7,8,9,10,11,12,13,14],[2,3,4,5,6,7,8,9,10,11,12,13,14,15],[0,1,2,3,4,5,6,7,8,9,10,11,12,13,14,15,16],[0,1,2,3,4,5,6,7,8,9,10,11,12,13,14,15,16,17],[0,1,2,3,4,5,6,7,8,9,10,11,12,13,14,15,16,17,18]] mixed Z (Cr (AJ [3] [] Z Z (fun _=>AG (AZ Z Fk Z Z Z)) (At [13] Z Z (fun _=>AG (A6 Z Z Z Rq Z)) (AJ [1] [] Z Z (fun _=>AG (AZ Z QR Z Z Z)) ?_)))))));refine At [15] Z Z (fun _=>AG (A6 Z Z Z on22 Z)) (AJ [4] [] Z Z (fun _=>AG (Aj Z Z)) (AJ [16,17] [] Z Z (fun _=>AG (Bk (acc.length) Z Z (Z) (Ah hk1) Tryz.underlying22 Z sz100 Z)) (AJ [18] [] Z Z (fun _=>AG (Ck Z fi100_0 Z Z Z)) (AJ [19] [] Z Z (fun _=>AG (GN Z Z rw98 Z)) (AJ [20] [] Z Z (fun _=>AG (B4 (aL p.ro[acc.length].r) Z Z)) (AJ [1] [] Z Z (fun _=>AG (AZ Z QR Z Z Z)) (At [22] Z Z (fun _=>AG (A6 Z Z Z on22 Z)) (AJ [4] [] Z Z (fun _=>AG (Aj Z Z)) ?_))))))));refine AJ [23,24] [] Z Z (fun _=>AG (Bk (acc.length) Z Z (Z) (Ah hk1) Tryz.underlying22 Z sz100 Z)) (AJ [25] [] Z Z (fun _=>AG (Zca Z fi100_1 Z Z Z)) (AJ [26] [] Z Z (fun _=>AG (D0 Z Z JG Z)) (AJ [21,27] [] Z Z (fun _=>AG (FV Qp pl88 Z Z Z)) (Gn [28] [50] [(29,_)] Z Z (fun _=>Gp (D1 50 Pm Z Z Z Z Z Z Z Z)) (.inr ⟨29,_,Z,Z,Z,Z,Z⟩) Z Z Z Z Z (C3 17 Z Z Z (Aa 18 Z Z (V (I0 (acc) ([p.ro[acc.length]]) Z Z Z Z Z Z Z Z Pm (by simp only [Ψ];omega) Z Z Z Z) (AD ⟨Z,?_⟩))))))));refine Aa 19 Z Z (J (AZ Z Fk Z Z Z) (AD ⟨Z,?_⟩));refine Aa 20 Z Z (V (Be Z Z Z Z Z Z Z sz36) (AD ⟨Z,?_⟩));refine C9 (AE (goMv Z Z (J (Ay Z Z (Qv acc p.ro[acc.length] (by omega)) Z) (AB Z Z (AD ?_)))));exact ⟨acc++ [p.ro[acc.length]],⟨Lj hI hk1,by rw [ς];show acc.length+1≤_;omega⟩,by rw [ς];show p.ro.length - (acc.length+1)<p.ro.length - acc.length;omega,A0 hF [901,1,2,3] Z (Z) ⟨Z,Z,Z,Z,trivial⟩⟩
 ·refine BC (AC (AC ?_));have hacc:=Pg hI (fun h=>h10 (by omega));refine Dm (ys:=p.ro.map CX) 3 0 0 901 Z Z Z (by simp) (by rw [hacc];exact Ξ (by simp)) Z Z Z Z Z Z (EM 3 0 1 902 OH Z Z Z Z Z Z Z (AE (AB Z Z (AD (A4 (B5 (α:=List AK) (fun acc2=>⟨51,[(1,(.ptr 1 0 0)),(2,(.ptr 2 0 0)),(3,(.ptr 3 0 0)),(5,(.d (AF (acc2.length:Int))))],[(902,[.rowD 55 6 (acc2.map Ao)]),(1,[Mj 25 p]),(2,[.blk 39 [I4,I4]]),(3,[.blk 39 [.d (.sl none (p.ro.map CX)),.own 902 0 acc2.length]])]⟩) (fun acc2=>acc2=p.it.take acc2.length∧acc2.length≤p.it.length) (fun acc2=>p.it.length - acc2.length) ([]) (⟨by simp,Δ _⟩) (A0 hF [902,1,2,3] Z Z ⟨Z,Z,Z,Z,trivial⟩) ?_))))));rintro acc2 ⟨hJ,hk2⟩;refine AC ?_;refine AC (AE (goMv Z Z (J (AZ Z Hj Z Z Z) (J (A6 Z Z Z Rr Z) (J (CM Z Tryz.underlying23 Z) (J (BV Z Z Z) (AD (Ae Z (fun h36=>?_) (fun h36=>?_)))))))))
  ·have hk3:acc2.length<p.it.length:=Bf h36;refine A1 ?_;refine AC (A4 (Cb [[],[0],[],[2],[],[2,3,4],[2,3,4,5],[2,3,4,5,6],[2,3,4,5,6,7],[0,1,2,3,4,5,6,7,8],[0,1,2,3,4,5,6,7,8,9],[0,1,2,3,4,5,6,7,8,9,10]] mixed Z (Cr (AJ [3] [] Z Z (fun _=>AG (AZ Z ES Z Z Z)) (At [39] Z Z (fun _=>AG (A6 Z Z Z Kb Z)) (AJ [1] [] Z Z (fun _=>AG (AZ Z Hj Z Z Z)) (At [41] Z Z (fun _=>AG (A6 Z Z Z Rr Z)) (AJ [5] [] Z Z (fun _=>AG (Aj Z Z)) ?_))))))));have hgi:=g3 _ (κ hk3);refine AJ [42,43] [] Z Z (fun _=>AG (Bk (acc2.length) Z Z (Z) (Ah hk3) Tryz.underlying23 Z sz93 Z)) (AJ [44] [] Z Z (fun _=>AG (GN Z Z rw93 Z)) (AJ [45] [] Z Z (fun _=>AG (B4 (X0 p.it[acc2.length] (by omega) (by omega) (by omega)) Z Z)) (Gn [46] [51] [(47,_)] Z Z (fun _=>Gp (D1 51 OH Z Z Z Z Z Z Z Z)) (.inr ⟨47,_,Z,Z,Z,Z,Z⟩) Z Z Z Z Z (C3 9 Z Z Z (Aa 10 Z Z (V (I0 (acc2) ([p.it[acc2.length]]) Z Z Z Z Z Z Z Z OH (by simp only [Ψ];omega) Z Z Z Z) (AD ⟨Z,?_⟩)))))));refine Aa 11 Z Z (J (AZ Z ES Z Z Z) (AD ⟨Z,?_⟩));refine Aa 12 Z Z (V (Be Z Z Z Z Z Z Z sz37) (AD ⟨Z,?_⟩));refine C9 (AE (goMv Z Z (J (Ay Z Z (Qv acc2 p.it[acc2.length] (by omega)) Z) (AB Z Z (AD ?_)))));exact ⟨acc2++ [p.it[acc2.length]],⟨Lj hJ hk3,by rw [ς];show acc2.length+1≤_;omega⟩,by rw [ς];show p.it.length - (acc2.length+1)<p.it.length - acc2.length;omega,A0 hF [902,1,2,3] Z (Z) ⟨Z,Z,Z,Z,trivial⟩⟩
  ·refine BC (AC ?_);have hacc2:=Pg hJ (fun h=>h36 (by omega));refine Dm (ys:=p.it.map Ao) 3 0 1 902 Z Z Z (by simp) (by rw [hacc2];exact Ξ (by simp)) Z Z Z Z Z Z (AE (J (BM Z Z B2 Z Z Z) (V (Be Z Z Z Z Z Z Z sz39) (AD (A5 ?_)))));exact ⟨_,[],[],A3 Z,Z,Z,Z,Z⟩
def Gw (ids l:List Int) (k:Nat):Int:=if l.getD k 0∉ids then 9 else if l.getD k 0∈l.take k then 7 else 0
def Pq (ids l:List Int):Int:=Bd ((List.range l.length).map (Gw ids l))
def DU (p:Prb) (l:List Int):Int:=if Ad p≠0 then Ad p else Pq (p.it.map AK.id) l
theorem Pp {ids l:List Int} (h:Pq ids l=0):l.Nodup∧∀x∈l,x∈ids:=by
 have h0:=Wo.1 h;refine ⟨ωz.2 fun i j hi hj hij e=>?_,fun x hx=>?_⟩
 ·have:=h0 j (Θ.2 hj);unfold Gw at this;rw [Bp 0 hj] at this
  split at this
  ·cases this
  ·split at this
   ·cases this
   ·rename_i hn;exact hn (by rw [←e,χt];exact ⟨i,by omega,Z⟩)
 ·obtain ⟨j,hj,rfl⟩:=ωt hx;have:=h0 j (Θ.2 hj);unfold Gw at this;rw [Bp 0 hj] at this
  split at this
  ·cases this
  ·rename_i hn;exact Decidable.not_not.1 hn
theorem Us (p:Prb) (l:List Int) (hb:Eb p) (hl:l.length≤100000) (hE:DU p l≠0):AO Tryz.prog 159 [.d (Bq p),.d (.sl none (l.map AF))] (.tup [.raw (.map none),AF (DU p l)]):=by
 have hck:=FB p hb;have hb2:=hb.2.1
 by_cases h0:Ad p=0
 ·have hnd:=dI (Nv h0).2.1;rw [h0] at hck;have hC:DU p l=Pq (p.it.map AK.id) l:=ϑ (fun h=>h h0);rw [hC] at hE⊢
  obtain ⟨E0,hE0⟩:∃e,Pq (p.it.map AK.id) l=e:=⟨_,Z⟩
  rw [hE0] at hE⊢;refine Az Tryz.func159 Z Z Tryz.ntmps159 Z Z Z fun F hF=>(AC (AE (V (CC 1 Z Z Z Z Z Z Z) (AB Z Z (AB Z Z (AD (AC (AC ?_))))))));refine AE (J (BM Z Z B2 Z Z Z) (J (B4 (hck) Z Z) (AB Z Z (AD (AC (AE (goMv Z Z (J (DX Z Z Z) ?_))))))));refine AD (EN Z ((by decide)) (A1 (AC (AE (V (Pb 2 Z Z Z Z) (AB Z Z (AD (AC ?_))))))));refine AC (AE (J (AZ Z ES Z Z Z) (J (A6 Z Z Z Kb Z) (J (CM Z Tryz.underlying37 Z) (goMv Z Z (AD (A4 (B5 (α:=Nat) (fun k=>⟨50,[(1,.d (.sl none (l.map AF))),(7,(.map 2 0)),(20,(.d (.sl none (p.it.map Ao)))),(21,(.d (AF (p.it.length:Int)))),(22,(.d (AF (k:Int))))],[(2,[BH AF Ag (As ((p.it.take k).map AK.id))])]⟩) (fun k=>k≤p.it.length) (fun k=>p.it.length - k) (0) (Δ _) (A0 hF [2] Z Z ⟨Z,Z,Z,Z,Z,trivial⟩) ?_))))))));rintro k hk0;refine AC (AE (J (BV Z Z Z) (AD (AC (Ae Z (fun h23=>?_) (fun h23=>?_))))))
  ·have hk1:k<p.it.length:=Bf h23;refine A1 (AC (A4 (AC (AE ?_))));have hnk:p.it[k].id∉(p.it.take k).map AK.id:=fun h=>by rw [List.Nodup,ψb,ωz] at hnd;obtain ⟨x,hx,e⟩:=ν.1 h;obtain ⟨j,hj,rfl⟩:=χt.1 hx;exact hnd j k (by omega) hk1 (by omega) e
   refine J (Bk (k) Z Z (Z) (Ah hk1) Tryz.underlying37 Z Cd Z) (J (GN Z Z By Z) (V (CD 3 El Z Z Z Z) (V (Be Z Z Z Z Z Z Z Cd) (AD (AE ?_)))));refine goMv Z Z (J (AZ Z OC Z Z Z) (J (A6 Z Z Z Aq Z) (V (Tk (As ((p.it.take k).map AK.id)) (p.it[k].id) (true) Z Z Z EU HE Z Z) (AD (AE (J (Ay Z Z (AT (k+1) (by omega)) Z) (goMv Z Z (AD ?_))))))));exact ⟨k+1,by show k+1≤_;omega,by show p.it.length - (k+1)<p.it.length - k;omega,A0 hF [2] Z (by rw [DF hk1,←dH hnk];rfl) ⟨Z,Z,Z,Z,Z,trivial⟩⟩
  ·refine BC (AC ?_);rw [Ξ (show p.it.length≤k by have h:=h23;omega)];refine AE (V (Pb 4 Z Z Z Z) (AB Z Z (AD ?_)));refine AC (AC (AE (goMv Z Z (J (CM Z Tryz.underlying28 Z) (goMv Z Z (AD (A4 (B5 (α:=Nat) (fun k=>⟨50,[(7,(.map 2 0)),(10,(.map 4 0)),(31,(.d (.sl none (l.map AF)))),(32,(.d (AF (l.length:Int)))),(33,(.d (AF (k:Int))))],[(2,[BH AF Ag (As (p.it.map AK.id))]),(4,[BH AF Ag (As (l.take k))])]⟩) (fun k=>k≤l.length∧E0=Bd (((List.range l.length).drop k).map (Gw (p.it.map AK.id) l))) (fun k=>l.length - k) (0) (⟨Δ _,hE0.symm⟩) (A0 hF [2,4] Z Z ⟨Z,Z,Z,Z,Z,trivial⟩) ?_))))))));rintro k ⟨hk0,hk⟩;refine AC (AE (J (BV Z Z Z) (AD (AC (Ae Z (fun h34=>?_) (fun h34=>?_))))))
   ·have hk1:k<l.length:=Bf h34;refine A1 (AC (A4 (AC (AE ?_))));have hEc:=ED hk1 hk;have hgd:=Bp 0 hk1;refine J (Bk (k) Z Z (Z) (Ah hk1) Tryz.underlying28 Z BA Z) (J (D0 Z Z Aq Z) ?_);refine AB Z Z (AD (AC (A4 (AC (AE (goMv Z Z (goMv Z Z (J (HF (As (p.it.map AK.id)) (l[k]) (false) _ Z Z Z EU HE Te Z Z) ?_))))))));rw [Wq];refine J (Nx Z Z) (AB Z Z (AD (Ae Z (fun h37=>?_) (fun h37=>?_))))
    ·refine AC (AE (AB Z Z (AB Z Z (AD (A5 ?_)))));exact ⟨_,[],[],A3 Z,Z,Z,by rw [hEc.2 9 (by unfold Gw;rw [hgd,θ (by simp_all)]) (by decide)],Z⟩
    ·refine AC (AE (goMv Z Z (goMv Z Z (J (HF (As (l.take k)) (l[k]) (false) _ Z Z Z EU HE Te Z Z) ?_))));rw [Wq];refine AB Z Z (AD (Ae Z (fun h42=>?_) (fun h42=>?_)))
     ·refine AC (AE (AB Z Z (AB Z Z (AD (A5 ?_)))));exact ⟨_,[],[],A3 Z,Z,Z,by rw [hEc.2 7 (by unfold Gw;rw [hgd,ϑ (by simp_all),θ (by simp_all)]) (by decide)],Z⟩
     ·refine A1 ?_;refine AE (goMv Z Z (goMv Z Z (V (Tk (As (l.take k)) (l[k]) (true) Z Z Z EU HE Z Z) (AD (AE (J (Ay Z Z (AT (k+1) (by omega)) Z) (goMv Z Z (AD ?_))))))));exact ⟨k+1,⟨by show k+1≤_;omega,hEc.1 (by unfold Gw;rw [hgd,ϑ (by simp_all),ϑ (by simp_all)])⟩,by show l.length - (k+1)<l.length - k;omega,A0 hF [2,4] Z (by rw [φ hk1,←dH (by simp_all)];rfl) ⟨Z,Z,Z,Z,Z,trivial⟩⟩
   ·refine BC (AC (AE (goMv Z Z (AB Z Z (AB Z Z (AD (A5 ?_)))))));exact absurd (by rw [hk,List.drop_of_length_le (by have h:=h34;simp only [ωh];omega)];rfl) hE
 ·have hC:DU p l=Ad p:=θ h0;rw [hC];refine Az Tryz.func159 Z Z Tryz.ntmps159 Z Z Z fun F hF=>(AC (AE (V (CC 1 Z Z Z Z Z Z Z) (AB Z Z (AB Z Z (AD (AC (AC ?_))))))));refine AE (J (BM Z Z B2 Z Z Z) (J (B4 (hck) Z Z) (AB Z Z (AD (AC (AE (goMv Z Z (J (DX Z Z Z) ?_))))))));refine AD (DV Z ((ωc h0)) (AC (AE (goMv Z Z (AB Z Z (AB Z Z (AD (A5 ?_))))))));exact ⟨_,[],[],A3 Z,Z,Z,Z,Z⟩
theorem YQ (p:Prb) (l:List Int) (hb:Eb p) (hl:l.length≤100000) (hE:DU p l=0):AM Tryz.prog 159 [.d (Bq p),.d (.sl none (l.map AF))] [] fun r H'=>r= .tup [.map 4 0,.d (AF 0)]∧H'=[(4,[BH AF Ag (As l)])]:=by
 have hck:=FB p hb;have hb2:=hb.2.1
 have h0:Ad p=0:=by
  unfold DU at hE;split at hE
  ·exact hE
  ·rename_i h;simpa using h
 have hnd:=dI (Nv h0).2.1;rw [h0] at hck;have hC:DU p l=Pq (p.it.map AK.id) l:=ϑ (fun h=>h h0);rw [hC] at hE;refine Az Tryz.func159 Z Z Tryz.ntmps159 Z Z Z fun F hF=>(AC (AE (V (CC 1 Z Z Z Z Z Z Z) (AB Z Z (AB Z Z (AD (AC (AC ?_))))))));refine AE (J (BM Z Z B2 Z Z Z) (J (B4 (hck) Z Z) (AB Z Z (AD (AC (AE (goMv Z Z (J (DX Z Z Z) ?_))))))));refine AD (EN Z ((by decide)) (A1 (AC (AE (V (Pb 2 Z Z Z Z) (AB Z Z (AD (AC ?_))))))));refine AC (AE (J (AZ Z ES Z Z Z) (J (A6 Z Z Z Kb Z) (J (CM Z Tryz.underlying37 Z) (goMv Z Z (AD (A4 (B5 (α:=Nat) (fun k=>⟨50,[(1,.d (.sl none (l.map AF))),(7,(.map 2 0)),(20,(.d (.sl none (p.it.map Ao)))),(21,(.d (AF (p.it.length:Int)))),(22,(.d (AF (k:Int))))],[(2,[BH AF Ag (As ((p.it.take k).map AK.id))])]⟩) (fun k=>k≤p.it.length) (fun k=>p.it.length - k) (0) (Δ _) (A0 hF [2] Z Z ⟨Z,Z,Z,Z,Z,trivial⟩) ?_))))))));rintro k hk0;refine AC (AE (J (BV Z Z Z) (AD (AC (Ae Z (fun h23=>?_) (fun h23=>?_))))))
 ·have hk1:k<p.it.length:=Bf h23;refine A1 (AC (A4 (AC (AE ?_))));have hnk:p.it[k].id∉(p.it.take k).map AK.id:=fun h=>by rw [List.Nodup,ψb,ωz] at hnd;obtain ⟨x,hx,e⟩:=ν.1 h;obtain ⟨j,hj,rfl⟩:=χt.1 hx;exact hnd j k (by omega) hk1 (by omega) e
  refine J (Bk (k) Z Z (Z) (Ah hk1) Tryz.underlying37 Z Cd Z) (J (GN Z Z By Z) (V (CD 3 El Z Z Z Z) (V (Be Z Z Z Z Z Z Z Cd) (AD (AE ?_)))));refine goMv Z Z (J (AZ Z OC Z Z Z) (J (A6 Z Z Z Aq Z) (V (Tk (As ((p.it.take k).map AK.id)) (p.it[k].id) (true) Z Z Z EU HE Z Z) (AD (AE (J (Ay Z Z (AT (k+1) (by omega)) Z) (goMv Z Z (AD ?_))))))));exact ⟨k+1,by show k+1≤_;omega,by show p.it.length - (k+1)<p.it.length - k;omega,A0 hF [2] Z (by rw [DF hk1,←dH hnk];rfl) ⟨Z,Z,Z,Z,Z,trivial⟩⟩
 ·refine BC (AC ?_);rw [Ξ (show p.it.length≤k by have h:=h23;omega)];refine AE (V (Pb 4 Z Z Z Z) (AB Z Z (AD ?_)));refine AC (AC (AE (goMv Z Z (J (CM Z Tryz.underlying28 Z) (goMv Z Z (AD (A4 (B5 (α:=Nat) (fun k=>⟨50,[(7,(.map 2 0)),(10,(.map 4 0)),(31,(.d (.sl none (l.map AF)))),(32,(.d (AF (l.length:Int)))),(33,(.d (AF (k:Int))))],[(2,[BH AF Ag (As (p.it.map AK.id))]),(4,[BH AF Ag (As (l.take k))])]⟩) (fun k=>k≤l.length) (fun k=>l.length - k) (0) (Δ _) (A0 hF [2,4] Z Z ⟨Z,Z,Z,Z,Z,trivial⟩) ?_))))))));rintro k hk0;refine AC (AE (J (BV Z Z Z) (AD (AC (Ae Z (fun h34=>?_) (fun h34=>?_))))))
  ·have hk1:k<l.length:=Bf h34;refine A1 (AC (A4 (AC (AE ?_))));have hz:=Wo.1 hE k (Θ.2 hk1);have hgd:=Bp 0 hk1;have hin:l[k]∈p.it.map AK.id:=(Pp hE).2 _ (κ hk1);have hnk:l[k]∉l.take k:=fun h=>by have hn2:=(Pp hE).1;rw [List.Nodup,ωz] at hn2;obtain ⟨j,hj,e⟩:=χt.1 h;exact hn2 j k (by omega) hk1 (by omega) e
   refine J (Bk (k) Z Z (Z) (Ah hk1) Tryz.underlying28 Z BA Z) (J (D0 Z Z Aq Z) ?_);refine AB Z Z (AD (AC (A4 (AC (AE (goMv Z Z (goMv Z Z (J (HF (As (p.it.map AK.id)) (l[k]) (false) _ Z Z Z EU HE Te Z Z) ?_))))))));rw [Wq];refine J (Nx Z Z) (AB Z Z (AD (Ae Z (fun h37=>?_) (fun h37=>?_))))
   ·refine AC (AE (AB Z Z (AB Z Z (AD (A5 ?_)))));exact absurd hin (by simp_all)
   ·refine AC (AE (goMv Z Z (goMv Z Z (J (HF (As (l.take k)) (l[k]) (false) _ Z Z Z EU HE Te Z Z) ?_))));rw [Wq];refine AB Z Z (AD (Ae Z (fun h42=>?_) (fun h42=>?_)))
    ·refine AC (AE (AB Z Z (AB Z Z (AD (A5 ?_)))));exact absurd hnk (by simp_all)
    ·refine A1 ?_;refine AE (goMv Z Z (goMv Z Z (V (Tk (As (l.take k)) (l[k]) (true) Z Z Z EU HE Z Z) (AD (AE (J (Ay Z Z (AT (k+1) (by omega)) Z) (goMv Z Z (AD ?_))))))));exact ⟨k+1,by show k+1≤_;omega,by show l.length - (k+1)<l.length - k;omega,A0 hF [2,4] Z (by rw [φ hk1,←dH hnk];rfl) ⟨Z,Z,Z,Z,Z,trivial⟩⟩
  ·refine BC (AC (AE (goMv Z Z (AB Z Z (AB Z Z (AD (A5 ?_)))))));exact ⟨_,[4],_,A3 Z,Z,Z,Z,by rw [Ξ (show l.length≤k by have h:=h34;omega)]<;>rfl⟩
theorem Cz (x:AP×Int) (l:List (AP×Int)) (r:AP):Ai (x::l) r=(if x.1=r then x.2 else 0)+Ai l r:=by simp [Ai]
theorem TA {l m:List (AP×Int)} (h:l.Perm m) (r:AP):Ai l r=Ai m r:=by
 induction h with
 | nil=>rfl
 | cons x _ ih=>rw [Cz,Cz,ih]
 | swap x y l=>simp only [Cz];omega
 | trans _ _ ih1 ih2=>rw [ih1,ih2]
theorem EK {l:List (AP×Int)} {r:AP} (h:r∉l.map Prod.fst):Ai l r=0:=by
 induction l with
 | nil=>rfl
 | cons x l ih=>
  rw [ωm,Φ] at h;rw [Cz,ϑ (fun e=>h (.inl e.symm)),ih (fun h'=>h (.inr h'))];rfl
theorem Up {l:List (AP×Int)} (hn:(l.map Prod.fst).Nodup) {r:AP} {v:Int} (h:(r,v)∈l):Ai l r=v:=by
 induction l with
 | nil=>cases h
 | cons x l ih=>
  rw [ωm,φb] at hn;rw [Cz];rcases Φ.1 h with h | h
  ·subst h;rw [θ Z,EK hn.1];show v+0=v;omega
  ·rw [ϑ (fun e=>hn.1 (by rw [e];exact ν.2 ⟨_,h,Z⟩)),ih hn.2 h];omega
theorem Sz (c:List (AP×Int)) (r:AP):Ai (sumL c) r=Ai c r:=by
 by_cases h:r∈(sumL c).map Prod.fst
 ·obtain ⟨⟨r',v⟩,hx,e⟩:=ν.1 h;have e:r'=r:=e;subst e;rw [Up (Es c) hx,((Et c r' v).1 hx).2]
 ·rw [EK h,EK fun h'=>h ((Hy c r).2 h')]
theorem lft_sub {α β:Type} {m:List (α×β)} {B seen:List Nat} {x:α×β} (h:x∈Bo m B seen):x∈m:=by
 unfold Bo at h;obtain ⟨y,hy,rfl⟩:=ν.1 h;exact (List.of_mem_zip (a:=y.1) (b:=y.2) (Ω.1 hy).1).1
theorem WM {α β:Type} {m:List (α×β)} {B seen:List Nat}:(Bo m B seen).length≤m.length:=by
 unfold Bo;rw [ψ];refine ωf (ωj _ _) ?_;rw [List.length_zip];omega
def L6 (l:List AK) (r:AP):Int:=(l.map fun i=>Ai (ctr i) r).sum
theorem XB (l:List AK) (i:AK) (r:AP):L6 (l++ [i]) r=L6 l r+Ai (ctr i) r:=by simp [L6]
def inB (l:List Int) (i:AK):Bool:=decide (i.id∈l)
theorem S2 {l:List AK} (h:Fj l=0):∀i∈l,BD i=0:=fun i hi=>by
 have h0:=Wo.1 h;obtain ⟨j,hj,rfl⟩:=ωt hi;have:=h0 j (Θ.2 hj);unfold OU at this;rw [Bp itm0 hj] at this
 split at this
 ·contradiction
 ·rename_i hn;simpa using hn
theorem MH {i:AK} (h:BD i=0) (r:AP): -Mx≤Ai (ctr i) r∧Ai (ctr i) r≤Mx:=by
 have hb:=(Hn h).2.2.2.2.2.2.2.2;unfold TU at hb
 split at hb
 ·cases hb
 ·rename_i hn
  by_cases hr:r∈(sumL (ctr i)).map Prod.fst
  ·obtain ⟨⟨r',v⟩,hx,e⟩:=ν.1 hr;have e:r'=r:=e;subst e;have hv:=((Et _ _ _).1 hx).2;rw [←hv];exact Decidable.not_not.1 fun hh=>hn ⟨_,hx,hh⟩
  ·rw [EK fun h'=>hr ((Hy _ r).2 h')];simp only [Mx];omega
theorem bnd_E {i:AK} (h:BD i=0):Qo (sumL (ctr i)):=fun x hx=>by
 have hv:=((Et (ctr i) x.1 x.2).1 hx).2;rw [hv];simpa [Mx] using MH h x.1
theorem len_E {i:AK} (h:BD i=0):(sumL (ctr i)).length≤1280:=by
 have hb:=(Hn h).1;have h1:=hb.po;have h2:=hb.pa;have:=HO (ctr i);rw [JC] at this;omega
theorem MU {l:List AK} (h:∀i∈l,BD i=0) (hl:l.length≤1000) (r:AP): -1000000000000000000≤L6 l r∧L6 l r≤1000000000000000000:=by
 have:=Oc (l:=l) (f:=fun i=>Ai (ctr i) r) (B:=1000000000000000) (fun i hi=>by simpa [Mx] using MH (h i hi) r) 1000 hl (by omega);unfold L6;omega
def Tr (p:Prb) (l:List Int):List Roo:=p.ro.map fun x=>⟨x.r,x.n+L6 (p.it.filter (inB l)) x.r⟩
theorem K0 {l:List Roo} (h:EP l=0):∀x∈l,-4000000000000000≤x.n∧x.n≤4000000000000000:=fun x hx=>by
 have h0:=Wo.1 h;obtain ⟨j,hj,rfl⟩:=ωt hx;have:=h0 j (Θ.2 hj);unfold OL at this;rw [Bp DB hj] at this
 split at this
 ·contradiction
 ·split at this
  ·cases this
  ·rename_i hn;simp only [Mx] at hn;omega
theorem Sk {α:Type} {p:α ->Bool} {l:List α} {k:Nat} (hk:k<l.length):(l.take (k+1)).filter p=(l.take k).filter p++(if p l[k] then [l[k]] else []):=GF hk
theorem Yv (p:Prb) (l:List Int) (hb:Eb p) (hl:l.length≤100000) (h1000:p.it.length≤1000):AO Tryz.prog 113 [.d (Bq p),.d (.sl none (l.map AF))] (.tup [.sl none ((if DU p l=0 then Tr p l else []).map CX),AF (DU p l)]):=by
 by_cases hE:DU p l=0
 ·have hc:=(YQ p l hb hl hE).by [(4,40)] rfl
  have h0:Ad p=0:=by
   unfold DU at hE;split at hE
   ·exact hE
   ·rename_i h;simpa using h
  have hck:=S2 (Nv h0).2.1;have hram:=K0 (Nv h0).1;have hb1:=hb.1;rw [θ hE,hE];refine Az Tryz.func113 Z Z Tryz.ntmps113 Z Z Z fun F hF=>(AC (AE (V (CC 1 Z Z Z Z Z Z Z) (AB Z Z ?_))));refine AB Z Z (AD (AC (AE (J (BM Z Z B2 Z Z Z) (goMv Z Z (V (EW hc Z [40] ⟨Z,trivial⟩ Z Z Z Z Z Z Z Z Z) (goMv Z Z (J (Cc Z Z Z) ?_))))))));refine J (Cc Z Z Z) (AB Z Z (AB Z Z (AD (AC (AC (AE (goMv Z Z (J (DX Z Z Z) ?_))))))));refine AD (EN Z ((by decide)) (A1 (AC (AE (V (Pb 2 Z Z Z Z) (AB Z Z (AD (AC ?_))))))));refine AC (AE (J (AZ Z ES Z Z Z) (J (A6 Z Z Z Kb Z) (J (CM Z Tryz.underlying37 Z) (goMv Z Z (AD (A4 (B5 (α:=Nat×List (AP×Int)) (fun q=>⟨76,[(2,(.ptr 1 0 0)),(6,(.map 40 0)),(8,(.map 2 0)),(27,(.d (.sl none (p.it.map Ao)))),(28,(.d (AF (p.it.length:Int)))),(29,(.d (AF (q.1:Int))))],[(1,[Mj 39 p]),(40,[BH AF Ag (As l)]),(2,[BH CV AF q.2])]⟩) (fun q=>q.1≤p.it.length∧∀r,A2 q.2 r 0=L6 ((p.it.take q.1).filter (inB l)) r) (fun q=>p.it.length - q.1) ((0,[])) (⟨Δ _,fun _=>rfl⟩) (A0 hF [1,40,2] Z Z ⟨Z,Z,Z,Z,Z,Z,trivial⟩) ?_))))))));rintro ⟨k,M⟩ ⟨hk0,hM⟩;dsimp only at hk0 hM⊢;refine AC (AE (J (BV Z Z Z) (AD (AC (Ae Z (fun h30=>?_) (fun h30=>?_))))))
  ·have hk1:k<p.it.length:=Bf h30;refine A1 (AC (A4 (AC (AE ?_))));have hci:=hck _ (κ hk1);have hs:=(Ph p.it[k] (Hn hci).1).by [(2,41)] rfl;have hEb:=bnd_E hci;have hEl:=len_E hci;have hEs:=fun r=>Sz (ctr p.it[k]) r;have hEn:=Es (ctr p.it[k]);have hT:=MU (l:=(p.it.take k).filter (inB l)) (fun i hi=>hck i (ψe (Ω.1 hi).1)) (ωf (ωj _ _) (by rw [Υ];omega))
   obtain ⟨E,hEE⟩:∃E,sumL (ctr p.it[k])=E:=⟨_,Z⟩
   rw [hEE] at hs hEb hEl hEs hEn;refine J (Bk (k) Z Z (Z) (Ah hk1) Tryz.underlying37 Z Cd Z) (J (GN Z Z By Z) (V (CD 3 El Z Z Z Z) ?_));refine V (Be Z Z Z Z Z Z Z Cd) (AD (AC (AC (AE (goMv Z Z (J (AZ Z OC Z Z Z) (J (A6 Z Z Z Aq Z) (J (HF (As l) (p.it[k].id) (false) _ Z Z Z EU HE Te Z Z) ?_))))))));rw [Wq];refine J (Nx Z Z) (AD (Ae Z (fun h37=>?_) (fun h37=>?_)))
   ·refine BC (AE (J (Ay Z Z (AT (k+1) (by omega)) Z) (goMv Z Z (AD ?_))));exact ⟨(k+1,M),⟨by show k+1≤_;omega,fun r=>by show A2 M r 0=L6 ((p.it.take (k+1)).filter (inB l)) r;rw [Sk hk1,ϑ (by unfold inB;simpa using h37),ωl];exact hM r⟩,by show p.it.length - (k+1)<p.it.length - k;omega,A0 hF [1,40,2] Z (Z) ⟨Z,Z,Z,Z,Z,Z,trivial⟩⟩
   ·refine A1 (AC (AE (J (BM Z Z By Z Z Z) (V (EW hs Z [41] ⟨Z,trivial⟩ Z Z Z Z Z Z Z Z Z) (V (Fs 4 Z Z Z Bs Z Z Z Z) (AD (A4 (B5 (α:=List Nat×List (AP×Int)) (fun q=>⟨76,[(2,(.ptr 1 0 0)),(6,(.map 40 0)),(8,(.map 2 0)),(27,(.d (.sl none (p.it.map Ao)))),(28,(.d (AF (p.it.length:Int)))),(29,(.d (AF (k:Int)))),(40,(.ptr 4 0 0))],[(4,[.iter 41 0 E.length q.1]),(41,[BH CV AF E]),(1,[Mj 39 p]),(40,[BH AF Ag (As l)]),(2,[BH CV AF q.2])]⟩) (fun q=>∀r,A2 q.2 r 0+Ai (Bo E (List.range E.length) q.1) r=L6 ((p.it.take k).filter (inB l)) r+Ai E r) (fun q=>(Bo E (List.range E.length) q.1).length) (([],M)) (fun r=>by show A2 M r 0+Ai (Bo E (List.range E.length) []) r=_;rw [Cy (by simp),hM r]) (A0 hF [4,41,1,40,2] Z Z ⟨Z,Z,Z,Z,Z,Z,Z,trivial⟩) ?_))))))));rintro ⟨seen,N⟩ hI;dsimp only at hI⊢;refine AC (AE (Kc (E) Z Z Z Z (fun hl41=>?_) (fun j41 b41 k41 v41 hm41 hb41 hB41 hp41=>⟨_,Z,?_⟩)))
    ·have hfin:∀r,A2 N r 0=L6 ((p.it.take k).filter (inB l)) r+Ai (ctr p.it[k]) r:=fun r=>by have h1:=hI r;rw [hl41] at h1;rw [←hEs r];have h2:Ai ([]:List (AP×Int)) r=0:=rfl;omega
     refine J (Cc Z Z Z) (AD (AC (EN Z Z (BC (AE (J (Ay Z Z (AT (k+1) (by omega)) Z) (goMv Z Z (AD ?_))))))));exact ⟨(k+1,N),⟨by show k+1≤_;omega,fun r=>by show A2 N r 0=L6 ((p.it.take (k+1)).filter (inB l)) r;rw [Sk hk1,θ (by unfold inB;simpa using h37),XB];exact hfin r⟩,by show p.it.length - (k+1)<p.it.length - k;omega,A0 hF [1,40,2] Z (Z) ⟨Z,Z,Z,Z,Z,Z,trivial⟩⟩
    ·refine J (Cc Z Z Z) (AD (AC ?_));refine DV Z Z (A1 (A4 (AC (AE (J (Ft (E) j41 b41 Z Z Z hm41 hb41 Z) (J (Cc Z Z Z) (J (Cc Z Z Z) (V (CD 5 KN Z Z Z Z) ?_))))))));refine V (Be Z Z Z Z Z Z Z ZE) (AB Z Z (AD (Cb [[],[],[0,1],[],[0,1,2,3],[0,1,3],[0,1,3,5],[0,1,2,3,4,5,6]] mixed Z (YE 2 ([BH CV AF (BT N k41 0)]) Z (AJ [8] [] Z Z (fun _=>AG (Aj Z Z)) (At [11] Z Z (fun _=>AG (BM Z Z CU Z Z Z)) (IV [46,47] [] Z Z Z (fun _=>AG (HF (N) (k41) (0) _ Z Z Z Bs CI Nz Z Z)) (fun _=>AG (HF (BT (N) (k41) (0)) (k41) (0) _ Z Z Z Bs CI Nz (Dc _ _ _ _) Z)) (AJ [12] [] Z Z (fun _=>AG (Aj Z Z)) ?_))))))))
     have hNb: -6000000000000000000≤A2 N k41 0+v41∧A2 N k41 0+v41≤6000000000000000000:=by {have h1:=hI k41;have h2:=Gj (l:=Bo E (List.range E.length) seen) (fun x hx=>hEb x (lft_sub hx)) k41;have h3:=Gj hEb k41;have h4:=WM (m:=E) (B:=List.range E.length) (seen:=seen);have h5:=hT k41;have h6:=hEb (k41,v41) (ζ hm41);simp only at h6;omega}
     refine AJ [48,49] [] Z Z (fun _=>AG (Ay Z Z (ωa _ (by omega)) Z)) (Gn [46,47] [2] [(51,_)] Z Z (fun _=>Gp (GQ (N) (k41) (0) Z Z Z Bs CI Nz Z Z)) (.inr ⟨51,_,Z,Z,Z,Z,Z⟩) Z Z Z Z Z ?_ (hCn:=P7 Z));refine AJ [51] [] Z Z (fun _=>AG (Cc Z Z Z)) (C3 7 Z Z Z (Aa 8 Z Z (V (GS (N) (k41) (0) (A2 N k41 0+v41) Z Z Z CI Z Z) (AD ⟨Z,?_⟩))));refine C9 ?_;exact ⟨(seen++ [b41],_),(fun r=>by show A2 (Au N k41 (A2 N k41 0+v41)) r 0+Ai (Bo E (List.range E.length) (seen++ [b41])) r=_;have h1:=hI r;rw [TA hp41,Cz] at h1;rw [H7];by_cases e:r=k41; · {rw [θ e];rw [θ e.symm] at h1;rw [e] at h1⊢;omega}; · {rw [ϑ e];rw [ϑ (fun h=>e h.symm)] at h1;omega}),by show (Bo E (List.range E.length) (seen++ [b41])).length<(Bo E (List.range E.length) seen).length;rw [hp41.length_eq];exact χl _,A0 hF [4,41,1,40,2] Z (Z) ⟨Z,Z,Z,Z,Z,Z,Z,trivial⟩⟩
  ·refine BC (AC ?_);have hfull:p.it.take k=p.it:=Ξ (by have h:=h30;omega);rw [hfull] at hM;have hTb:=MU (l:=p.it.filter (inB l)) (fun i hi=>hck i (Ω.1 hi).1) (ωf (ωj _ _) h1000);refine AE (AB Z Z (AD (AC (AC ?_))));refine O4 13 900 Pm Z Z Z Z (AE (J (AZ Z Fk Z Z Z) (J (A6 Z Z Z Rq Z) (J (CM Z Tryz.underlying36 Z) (goMv Z Z (AD (A4 (B5 (α:=List Roo) (fun acc=>⟨76,[(8,(.map 2 0)),(13,(.own 900 0 acc.length)),(55,(.d (.sl none (p.ro.map CX)))),(56,(.d (AF (p.ro.length:Int)))),(57,(.d (AF (acc.length:Int))))],[(900,[.rowD 88 7 (acc.map CX)]),(2,[BH CV AF M])]⟩) (fun acc=>acc.length≤p.ro.length∧acc=(Tr p l).take acc.length) (fun acc=>p.ro.length - acc.length) ([]) (⟨Δ _,by simp⟩) (A0 hF [900,2] Z Z ⟨Z,Z,Z,Z,Z,trivial⟩) ?_))))))));rintro acc ⟨ha0,hA⟩;refine AC (AE (J (BV Z Z Z) (AD (AC (Ae Z (fun h58=>?_) (fun h58=>?_))))))
   ·have ha1:acc.length<p.ro.length:=Bf h58;refine A1 (AC (A4 ?_));refine AC (AE (J (Bk (acc.length) Z Z (Z) (Ah ha1) Tryz.underlying36 Z OG Z) (J (GN Z Z Zc Z) (V (CD 6 Qp Z Z Z Z) (V (Be Z Z Z Z Z Z Z OG) (AD (Cb [[],[],[1],[],[3],[],[],[6],[5,6,7],[3,4,5,6,7,8],[1,2,3,4,5,6,7,8,9],[1,2,3,4,5,6,7,8,9,10],[0,1,2,3,4,5,6,7,8,9,10,11],[0,1,2,3,4,5,6,7,8,9,10,11,12]] mixed Z (Cr ?_))))))));refine AJ [13] [] Z Z (fun _=>AG (Aj Z Z)) (AJ [15] [] Z Z (fun _=>AG (AZ Z FG Z Z Z)) (At [62] Z Z (fun _=>AG (BM Z Z CU Z Z Z)) (AJ [15] [] Z Z (fun _=>AG (AZ Z QP Z Z Z)) (At [64] Z Z (fun _=>AG (A6 Z Z Z JG Z)) (AJ [8] [] Z Z (fun _=>AG (Aj Z Z)) (AJ [15] [] Z Z (fun _=>AG (AZ Z FG Z Z Z)) (At [67] Z Z (fun _=>AG (BM Z Z CU Z Z Z)) (At [66,68] Z Z (fun _=>AG (HF (M) (p.ro[acc.length].r) (0) _ Z Z Z Bs CI Nz Z Z)) ?_))))))));have hr1:=hram _ (κ ha1);have hr2:=hTb p.ro[acc.length].r;have hr3:=hM p.ro[acc.length].r;refine AJ [65,69] [] Z Z (fun _=>AG (Ay Z Z (ωa _ (by omega)) Z)) (AJ [63,70] [] Z Z (fun _=>AG (FV Qp pl88 Z Z Z)) (Gn [71] [50] [(72,_)] Z Z (fun _=>Gp (D1 50 Pm Z Z Z Z Z Z Z Z)) (.inr ⟨72,_,Z,Z,Z,Z,Z⟩) Z Z Z Z Z (C3 12 Z Z Z (Aa 13 Z Z (V (I0 (acc) ([⟨p.ro[acc.length].r,p.ro[acc.length].n+A2 M p.ro[acc.length].r 0⟩]) Z Z Z Z Z Z Z Z Pm (by simp only [Ψ];omega) Z Z Z Z) (AD ⟨Z,?_⟩))))));refine Aa 14 Z Z (AB Z Z (AD ⟨Z,?_⟩));refine C9 (AE (J (Ay Z Z (Qv acc (⟨p.ro[acc.length].r,p.ro[acc.length].n+A2 M p.ro[acc.length].r 0⟩:Roo) (by omega)) Z) (goMv Z Z (AD ?_))));exact ⟨acc++ [⟨p.ro[acc.length].r,p.ro[acc.length].n+A2 M p.ro[acc.length].r 0⟩],⟨by rw [ς];show acc.length+1≤_;omega,by rw [ς];show _=(Tr p l).take (acc.length+1);rw [φ (by unfold Tr;simpa using ha1),←hA];congr 1;unfold Tr;simp [hM]⟩,by rw [ς];show p.ro.length - (acc.length+1)<p.ro.length - acc.length;omega,A0 hF [900,2] Z (Z) ⟨Z,Z,Z,Z,Z,trivial⟩⟩
   ·refine BC (AC ?_);have hfa:acc=Tr p l:=by rw [hA];exact Ξ (by unfold Tr;rw [ψ];have h:=h58;omega)
    refine L3 (emb:=CX) 13 900 acc Z Z Z Z Z Z Z (AE (goMv Z Z (AB Z Z (AB Z Z (AD (A5 ?_))))));exact ⟨_,[],[],A3 Z,Z,Z,by rw [hfa],Z⟩
 ·have hc:=Us p l hb hl hE;rw [ϑ hE];refine Az Tryz.func113 Z Z Tryz.ntmps113 Z Z Z fun F hF=>(AC (AE (V (CC 1 Z Z Z Z Z Z Z) (AB Z Z (Wp 4 Z (AB Z Z ?_))))));refine AD (AC (AE (J (BM Z Z B2 Z Z Z) (goMv Z Z (J (B4 (hc) Z Z) (goMv Z Z (J (DD Z Z Z) (J (DD Z Z Z) ?_))))))));refine AB Z Z (AB Z Z (AD (AC (AC (AE (goMv Z Z (J (DX Z Z Z) (AD ?_))))))));refine DV Z ((ωc hE)) (AC (AE (goMv Z Z (AB Z Z (Wp 4 Z (AB Z Z (AD (A5 ?_))))))));exact ⟨_,[],[],A3 Z,Z,Z,Z,Z⟩
theorem c8 (l:List Int) (hl:l.length≤1000000):AM Tryz.prog 89 [.d (.sl none (l.map AF))] [] fun r H'=>r= .own 20 0 l.length∧H'=[(20,[.rowD 3 1 (l.map AF)])]:=by
 refine Az Tryz.func89 Z Z Tryz.ntmps89 Z Z Z fun F hF=>(AC (AE (AB Z Z ?_)));skip;refine AD (AC (AC (AE (goMv Z Z (FE 3 Z (fun h0=>?_) ?_)))))
 ·refine J (Dr Tryz.underlying28 Z Z) (AD (DV Z (Z) (AC (AE (AB Z Z (Vw 2 20 BW Z Z Z Z (AD (A5 ?_))))))));exact ⟨_,[20],_,A3 Z,Z,Z,by rw [←ψ (f:=AF),h0];rfl,by rw [h0]⟩
 ·refine J (Dr Tryz.underlying28 Z Z) ?_;refine AD (EN Z (Z) (A1 (AC (AE (V (D1 20 BW Z Z Z Z Z Z Z Z) (goMv Z Z (V (Ew (([]:List Int)) (l) Z Z Z Z Z Z (fun _=>rfl) BW (by simp only [φp];omega) Z Z Z Z) (AB Z Z ?_))))))));skip;refine AD (A5 ?_);exact ⟨_,[20],_,A3 Z,Z,Z,by simp,by simp⟩
def BK (p:Prb) (id:Int):AK:=p.it.getD ((p.it.map AK.id).idxOf id) itm0
theorem NK {p:Prb} {id:Int} (h:id∈p.it.map AK.id):∃hk:(p.it.map AK.id).idxOf id<p.it.length,bW id (p.it.map AK.id)=(((p.it.map AK.id).idxOf id:Nat):Int)∧BK p id=p.it[(p.it.map AK.id).idxOf id]∧(BK p id).id=id:=by
 have hk:(p.it.map AK.id).idxOf id<(p.it.map AK.id).length:=List.idxOf_lt_length_iff.2 h;have hk':(p.it.map AK.id).idxOf id<p.it.length:=by simpa using hk
 have he:BK p id=p.it[(p.it.map AK.id).idxOf id]:=Bp itm0 hk';refine ⟨hk',θ h,he,?_⟩;have h1:=φa hk;rw [ωb] at h1;rw [he];exact h1
theorem Rk {α:Type} {l m:List α} (h:l.Perm m) (f:α ->Int):(l.map f).sum=(m.map f).sum:=by
 induction h with
 | nil=>rfl
 | cons x _ ih=>simp [ih]
 | swap x y l=>simp;omega
 | trans _ _ ih1 ih2=>rw [ih1,ih2]
end Go.Proofs.YteifpcnphnhaoaaGreat
