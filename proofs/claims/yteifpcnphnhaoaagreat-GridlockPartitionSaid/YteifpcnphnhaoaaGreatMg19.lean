import Derived.Test.YteifpcnphnhaoaaGreatMg18
namespace Go.Proofs.YteifpcnphnhaoaaGreat
open Go.RowKit
set_option maxRecDepth 100000
abbrev Ak (b:Bool):D:= .raw (.bool b)
def BA {α:Type} (l:List α):List (α×Bool):=l.map fun a=>(a,true)
theorem W7 {α:Type} [DecidableEq α] (l:List α) (a:α):A6 (BA l) a false=decide (a∈l):=by
 induction l with
 | nil=>rfl
 | cons b l ih=>
  simp only [BA,ωm,A6]
  by_cases h:a=b
  ·rw [κ h];simp [h]
  ·rw [ϑ h];simp only [BA] at ih;rw [ih];simp [h]
theorem c7 {α:Type} [DecidableEq α] {l:List α} {a:α} (h:a∉l):Av (BA l) a true=BA (l++ [a]):=by
 induction l with
 | nil=>rfl
 | cons b l ih=>
  simp only [Φ,not_or] at h;simp only [BA,ωm,φk,Av];rw [ϑ h.1];have:=ih h.2;simp only [BA] at this;rw [this]
def DN:A2:=⟨⟨0,TP,[],[]⟩,0⟩
def OO (l:List A2) (k:Nat):Int:=if BN (l.getD k DN).r≠0 then BN (l.getD k DN).r else if ¬(-4*Mx≤(l.getD k DN).n∧(l.getD k DN).n≤4*Mx) then 12 else if (l.getD k DN).r∈(l.take k).map A2.r then 7 else 0
def E1 (l:List A2):Int:=Bg ((List.range l.length).map (OO l))
theorem CI {α:Type} {l:List α} {k:Nat} (d:α) (h:k<l.length):l.getD k d=l[k]:=by rw [ϱ,ω h];rfl
theorem DT {α β:Type} {l:List α} {f:α ->β} {k:Nat} (hk:k<l.length):(l.take (k+1)).map f=(l.take k).map f++ [f l[k]]:=by rw [φ hk,ωc];rfl
theorem rooms_p (p:Prb) (hl:p.ro.length≤100000):AO Tryz.prog 129 [.d (CB p)] (AF (E1 p.ro)):=by
 refine BB Tryz.func129 Z Z Tryz.ntmps129 Z Z Z fun F hF=>(AC (AE ?_));refine V (CE 1 Z Z Z Z Z Z Z) (AB Z Z (AD (AC (AE (V (Ph 2 Z Z Z Z) (AB Z Z (AD (AC ?_))))))));refine AC (AE (J (A4 Z Dr Z Z Z) (J (A9 Z Z Z Mt Z) (J (Bz Z Tryz.underlying36 Z) (goMv Z Z (AD (A5 (B6 (α:=Nat) (fun k=>⟨35,[(3,(.map 2 0)),(9,(.d (.sl none (p.ro.map CZ)))),(10,(.d (AF (p.ro.length:Int)))),(11,(.d (AF (k:Int))))],[(2,[BM C4 Ak (BA ((p.ro.take k).map A2.r))])]⟩) (fun k=>k≤p.ro.length∧E1 p.ro=Bg (((List.range p.ro.length).drop k).map (OO p.ro))) (fun k=>p.ro.length - k) (0) (⟨Γ _,Z⟩) (A1 hF [2] Z Z ⟨Z,Z,Z,Z,trivial⟩) ?_))))))));rintro k ⟨hk0,hk⟩;refine AC (AE (J (BT Z Z Z) (AD (AC (Ah Z (fun h12=>?_) (fun h12=>?_))))))
 ·have hk1:k<p.ro.length:=Bf h12;refine A3 (AC (A5 (AC (AE ?_))));have hE:=EO hk1 hk;have hgd:=CI DN hk1;refine J (Bb (k) Z Z (Z) (Ag hk1) Tryz.underlying36 Z Lc Z) ?_;refine J (GW Z Z ZP Z) (V (CO 3 Qn Z Z Z Z) (V (Bi Z Z Z Z Z Z Z Lc) (AD (AC (AC (AE (J (A4 Z Dp Z Z Z) (J (BO Z Z CY Z Z Z) ?_))))))));refine J (BZ (Uy p.ro[k].r) Z Z) (AB Z Z (AD (AC (AE (goMv Z Z (J (EA Z Z Z) (AD (Ah Z (fun h19=>?_) (fun h19=>?_)))))))))
  ·refine AC (AE (goMv Z Z (AB Z Z (AD (A8 ?_)))));exact ⟨_,[],[],A7 Z,Z,Z,Aj (hE.2 _ (by unfold OO;rw [hgd,κ h19]) h19),Z⟩
  ·refine A3 (AC (A5 ?_));refine AC (AE (J (A4 Z QR Z Z Z) (J (A9 Z Z Z Kg Z) (J (BZ (GY _ _ _) Z Z) (J (Nz Z Z) (AB Z Z (AD (Ah Z (fun h21=>?_) (fun h21=>?_)))))))))
   ·refine AC (AE (AB Z Z (AD (A8 ?_))));exact ⟨_,[],[],A7 Z,Z,Z,Aj (hE.2 12 (by unfold OO;rw [hgd,ϑ h19,κ (by simp only [Mx];omega)]) (by decide)),Z⟩
   ·refine AC (AE (goMv Z Z (J (A4 Z Dp Z Z Z) (J (BO Z Z CY Z Z Z) (J (HQ (BA ((p.ro.take k).map A2.r)) (p.ro[k].r) (false) _ Z Z Z Vp CJ T3 Z Z) ?_)))));rw [W7];refine AB Z Z (AD (Ah Z (fun h26=>?_) (fun h26=>?_)))
    ·refine AC (AE (AB Z Z (AD (A8 ?_))));exact ⟨_,[],[],A7 Z,Z,Z,Aj (hE.2 7 (by unfold OO;rw [hgd,ϑ h19,ϑ (by simp only [Mx];omega),κ h26]) (by decide)),Z⟩
    ·have hnot:p.ro[k].r∉(p.ro.take k).map A2.r:=h26;refine A3 (AE ?_);refine goMv Z Z (J (A4 Z Dp Z Z Z) (J (BO Z Z CY Z Z Z) (V (T9 (BA ((p.ro.take k).map A2.r)) (p.ro[k].r) (true) Z Z Z Vp CJ Z Z) (AD (AE (J (Ay Z Z (AT (k+1) (by omega)) Z) (goMv Z Z (AD ?_))))))));exact ⟨k+1,⟨by show k+1≤_;omega,hE.1 (by unfold OO;rw [hgd,ϑ h19,ϑ (by simp only [Mx];omega),ϑ hnot])⟩,by show p.ro.length - (k+1)<p.ro.length - k;omega,A1 hF [2] Z (by rw [DT hk1,←c7 hnot];rfl) ⟨Z,Z,Z,Z,trivial⟩⟩
 ·refine BF (AC (AE (AB Z Z (AD (A8 ?_)))));exact ⟨_,[],[],A7 Z,Z,Z,Aj (by rw [hk,List.drop_of_length_le (by have h:=h12;simp only [ωf];omega)];rfl),Z⟩
theorem Mk {a b:Bool} (h:a=b):AV.d (.raw (.bool a))= .d (.raw (.bool b)):=by rw [h]
theorem Gp {α:Type} {p:α ->Bool}:∀{l:List α} {k:Nat} (hk:k<l.length),(∀x∈l.take k,p x=false) ->p l[k]=true ->l.findIdx? p=some k
 | a::l,0,_,_,h=>by simp at h;simp [List.findIdx?_cons,h]
 | a::l,k+1,hk,h0,h=>by
  have h1:p a=false:=h0 a (by simp);have:=Gp (l:=l) (k:=k) (by simpa using hk) (fun x hx=>h0 x (by simp [hx])) (by simpa using h)
  simp [List.findIdx?_cons,h1,this]
theorem IX {α:Type} {p:α ->Bool} {l:List α} (h:∀x∈l,p x=false):l.findIdx? p=none:=by
 rw [List.findIdx?_eq_none_iff];exact h
def ixF (p:Int ->Bool) (l:List Int):Int:=match l.findIdx? p with
 | some k=>k
 | none=> -1
theorem ixF_nn {p:Int ->Bool} {l:List Int}:0≤ixF p l↔l.any p=true:=by
 unfold ixF
 cases h:l.findIdx? p with
 | none=>
  rw [List.findIdx?_eq_none_iff] at h;simp only [List.any_eq_true]
  constructor
  ·intro h';omega
  ·rintro ⟨x,hx,hp⟩;rw [h x hx] at hp;cases hp
 | some k=>
  have:=List.findIdx?_isSome (xs:=l) (p:=p);rw [h] at this;simp only [Option.isSome_some] at this
  simp [←this]
abbrev HM (S:List Int):Hp:=[(910,[.blk 137 [.map 911 0]]),(911,[BM AF Ak (BA S)])]
def J7 (S:List Int) (x:Int):Bool:=!decide (x∈S)
theorem chk1_c (S:List Int) (x:Int):AN Tryz.prog 131 [.d (AF x),.ptr 910 0 0] (HM S) fun r H'=>r= .d (Ak (J7 S x))∧H'=HM S:=by
 refine BB Tryz.func131 Z Z Tryz.ntmps131 Z Z Z fun F hF=>?_;refine AC (AE (AB Z Z (AD (AC (AE (J (A9 Z Z Z Rk Z) (goMv Z Z (J (HQ (BA S) (x) (false) _ Z Z Z E9 HP T3 Z Z) ?_))))))));rw [W7];refine J (Nz Z Z) (AB Z Z (AD (A8 ?_)));exact ⟨_,[910,911],_,A7 Z,Z,Z,by first | exact Mk (by unfold J7;simp) | rfl,rfl⟩
theorem bA (S l:List Int) (hl:l.length≤100000000):AN Tryz.prog 138 [.d (.sl none (l.map AF)),.fn 131 [.ptr 910 0 0]] (HM S) fun r H'=>r= .d (AF (ixF (J7 S) l))∧H'=HM S:=by
 refine BB Tryz.func138 Z Z Tryz.ntmps138 Z Z Z fun F hF=>(AC (AE (AB Z Z (AD ?_))));refine AC (AC (AE (goMv Z Z (J (Bz Z Tryz.underlying28 Z) (goMv Z Z (AD (A5 (B6 (α:=Nat) (fun k=>⟨19,[(0,.d (.sl none (l.map AF))),(1,.fn 131 [.ptr 910 0 0]),(7,(.d (AF (l.length:Int)))),(8,(.d (AF (k:Int))))],HM S⟩) (fun k=>k≤l.length∧∀x∈l.take k,J7 S x=false) (fun k=>l.length - k) (0) (⟨Γ _,by simp⟩) (A1 hF [910,911] Z Z ⟨Z,Z,Z,Z,trivial⟩) ?_))))))));rintro k ⟨hk0,hk⟩;refine AC (AE (J (BT Z Z Z) (AD (AC (Ah Z (fun h9=>?_) (fun h9=>?_))))))
 ·have hk1:k<l.length:=Bf h9;refine A3 (AC (A5 (AC (AE (goMv Z Z (AB Z Z (AD (AC ?_))))))));refine AE (goMv Z Z (goMv Z Z (goMv Z Z (J (Bb (k) Z Z (Z) (Ag hk1) Tryz.underlying28 Z BD Z) (J (Cm Z Z Aq Z) (V (YV (chk1_c S l[k]) Z [910,911] ⟨Z,Z,trivial⟩ Z Z Z Z Z Z Z Z Z) (AD (KP Z (fun h16=>?_) (fun h16=>?_)))))))))
  ·refine AC (AE (goMv Z Z (AB Z Z (AD (A8 ?_)))));exact ⟨_,[910,911],_,A7 Z,Z,Z,Aj (by unfold ixF;rw [Gp hk1 hk (by simpa using h16)]),Z⟩
  ·refine A3 (AE (J (Ay Z Z (AT (k+1) (by omega)) Z) (goMv Z Z (AD ?_))));exact ⟨k+1,⟨by show k+1≤_;omega,by rw [φ hk1];intro x hx;rcases ν.1 hx with hx | hx;exact hk x hx;rw [ξ.1 hx];simpa using h16⟩,by show l.length - (k+1)<l.length - k;omega,A1 hF [910,911] Z (Z) ⟨Z,Z,Z,Z,trivial⟩⟩
 ·refine BF (AC (AE (AB Z Z (AD (A8 ?_)))));exact ⟨_,[910,911],_,A7 Z,Z,Z,Aj (by unfold ixF;rw [IX (fun x hx=>hk x (by rw [Ξ (by have h:=h9;omega)];exact hx))]),Z⟩
theorem Sr (S l:List Int) (hl:l.length≤100000000):AN Tryz.prog 130 [.d (.sl none (l.map AF)),.fn 131 [.ptr 910 0 0]] (HM S) fun r H'=>r= .d (Ak (l.any (J7 S)))∧H'=HM S:=by
 refine BB Tryz.func130 Z Z Tryz.ntmps130 Z Z Z fun F hF=>(AC (AE (AB Z Z (AD ?_))));refine AC (AE (goMv Z Z (goMv Z Z (V (Eu (bA S l hl) Z [910,911] ⟨Z,Z,trivial⟩ Z Z Z Z Z Z Z Z Z) (J (EZ Z Z Z) (AB Z Z (AD (A8 ?_))))))));exact ⟨_,[910,911],_,A7 Z,Z,Z,Mk (by rw [Bool.eq_iff_iff,ψe];exact ixF_nn),Z⟩
def AY:AK:=⟨0,0,0,[],[],[]⟩
def OU (l:List AK) (k:Nat):Int:=if BH (l.getD k AY)≠0 then BH (l.getD k AY) else if (l.getD k AY).id∈(l.take k).map AK.id∨(l.getD k AY).sq∈(l.take k).map AK.sq then 7 else 0
def Fk (l:List AK):Int:=Bg ((List.range l.length).map (OU l))
def U2 (S:List Int) (i:AK):Int:=if i.af.any (J7 S)=true then 9 else 0
def Qb (l:List AK):Int:=Bg (l.map (U2 (l.map AK.id)))
def Az (p:Prb):Int:=if 4096<p.it.length∨16384<p.ro.length then 8 else Bg [E1 p.ro,Fk p.it,Qb p.it]
theorem prbE_r {p:Prb} (h:¬(4096<p.it.length∨16384<p.ro.length)) (h2:E1 p.ro≠0):E1 p.ro=Az p:=by unfold Az;rw [ϑ h];simp only [Bg];rw [ϑ h2]
theorem UA {p:Prb} (h:¬(4096<p.it.length∨16384<p.ro.length)) (h1:E1 p.ro=0) {e:Int} (h2:e=Fk p.it) (h3:e≠0):e=Az p:=by unfold Az;rw [ϑ h];simp only [Bg];rw [κ h1,ϑ (by rw [←h2];exact h3),h2]
theorem Za {p:Prb} (h:¬(4096<p.it.length∨16384<p.ro.length)) (h1:E1 p.ro=0) (h2:Fk p.it=0) {e:Int} (h3:e=Qb p.it):e=Az p:=by unfold Az;rw [ϑ h];simp only [Bg];rw [κ h1,κ h2,h3];split<;>simp_all
def E7 (p:Prb):Prop:=p.ro.length≤100000∧p.it.length≤100000∧∀i∈p.it,i.po.length≤100000∧i.pa.length≤100000∧i.af.length≤100000
theorem GE (p:Prb) (hb:E7 p):AO Tryz.prog 75 [.d (CB p)] (AF (Az p)):=by
 obtain ⟨g1,g2,g3⟩:=hb;refine BB Tryz.func75 Z Z Tryz.ntmps75 Z Z Z fun F hF=>(AC (AE (V (CE 1 Z Z Z Z Z Z Z) (AB Z Z (AD ?_)))));refine AC (AC (AE (J (A4 Z E6 Z Z Z) (J (A9 Z Z Z Kf Z) (J (Bz Z Tryz.underlying37 Z) (J (KK Z Z Z) (goMv Z Z (Id 15 Z (fun h15=>?_) (fun h15=>?_)))))))))
 ·refine Aa Z Z Z Z (Aa Z Z Z Z (Aa Z Z Z Z ?_));refine Aa Z Z Z Z (J (fSq Z Z Z Z) (AD (D9 Z Z (AC (AE (AB Z Z (AD (A8 ?_))))))));exact ⟨_,[],[],A7 Z,Z,Z,Aj (by unfold Az;rw [κ (by omega)]),Z⟩
 ·refine Ad Z Z Z (J (A4 Z Dr Z Z Z) ?_);refine Ad Z Z Z (J (A9 Z Z Z Mt Z) (Ad Z Z Z (J (Bz Z Tryz.underlying36 Z) (Ad Z Z Z (J (KK Z Z Z) (J (DR Z Z Z Z) (AD (Ah Z (fun h20=>?_) (fun h20=>?_)))))))))
  ·refine AC (AE (AB Z Z (AD (A8 ?_))));exact ⟨_,[],[],A7 Z,Z,Z,Aj (by unfold Az;rw [κ (by omega)]),Z⟩
  ·refine A3 (AC (AC ?_));have hsz:¬(4096<p.it.length∨16384<p.ro.length):=by omega
   refine AE (J (BO Z Z B8 Z Z Z) ?_);refine J (BZ (rooms_p p g1) Z Z) (AB Z Z (AD (AC (AE (goMv Z Z (J (EA Z Z Z) (AD (Ah Z (fun h24=>?_) (fun h24=>?_)))))))))
   ·refine AC (AE (goMv Z Z (AB Z Z (AD (A8 ?_)))));exact ⟨_,[],[],A7 Z,Z,Z,Aj (prbE_r hsz h24),Z⟩
   ·refine A3 (AC ?_);have hr0:E1 p.ro=0:=by simpa using h24
    refine AE (V (Ph 2 Z Z Z Z) (V (Ph 3 Z Z Z Z) (V (CO 4 zl137 Z Z Z Z) (V (Bi Z Z Z Z Z Z Z sz137) (AB Z Z (AD (AC ?_)))))));refine AC (AE (J (A4 Z E6 Z Z Z) (J (A9 Z Z Z Kf Z) (J (Bz Z Tryz.underlying37 Z) (goMv Z Z (AD (A5 (B6 (α:=Nat) (fun k=>⟨69,[(1,(.ptr 1 0 0)),(4,(.ptr 4 0 0)),(5,(.map 3 0)),(29,(.d (.sl none (p.it.map Al)))),(30,(.d (AF (p.it.length:Int)))),(31,(.d (AF (k:Int))))],[(1,[.blk 39 [.d (.sl none (p.ro.map CZ)),.d (.sl none (p.it.map Al))]]),(4,[.blk 137 [.map 2 0]]),(2,[BM AF Ak (BA ((p.it.take k).map AK.id))]),(3,[BM AF Ak (BA ((p.it.take k).map AK.sq))])]⟩) (fun k=>k≤p.it.length∧Fk p.it=Bg (((List.range p.it.length).drop k).map (OU p.it))) (fun k=>p.it.length - k) (0) (⟨Γ _,Z⟩) (A1 hF [1,4,2,3] Z Z ⟨Z,Z,Z,Z,Z,Z,trivial⟩) ?_))))))));rintro k ⟨hk0,hk⟩;refine AC (AE (J (BT Z Z Z) (AD (AC (Ah Z (fun h32=>?_) (fun h32=>?_))))))
    ·have hk1:k<p.it.length:=Bf h32;refine A3 (AC (A5 (AC (AE ?_))));have hE:=EO hk1 hk;have hgd:=CI AY hk1;have hgi:=g3 _ (θ hk1);refine J (Bb (k) Z Z (Z) (Ag hk1) Tryz.underlying37 Z C8 Z) (J (GW Z Z Bt Z) (V (CO 5 EY Z Z Z Z) (V (Bi Z Z Z Z Z Z Z C8) (AD (AC (AC (AE (J (BO Z Z Bt Z Z Z) ?_))))))));refine J (BZ (KG p.it[k] (by omega) (by omega) (by omega)) Z Z) (AB Z Z (AD (AC (AE (goMv Z Z (J (EA Z Z Z) (AD (Ah Z (fun h38=>?_) (fun h38=>?_)))))))))
     ·refine AC (AE (goMv Z Z (AB Z Z (AD (A8 ?_)))));exact ⟨_,[],[],A7 Z,Z,Z,Aj (UA hsz hr0 (hE.2 _ (by unfold OU;rw [hgd,κ h38]) h38) h38),Z⟩
     ·refine A3 (AC (AC (AE (J (A9 Z Z Z Rk Z) (J (A4 Z MV Z Z Z) (J (A9 Z Z Z Aq Z) (J (HQ (BA ((p.it.take k).map AK.id)) (p.it[k].id) (false) _ Z Z Z E9 HP T3 Z Z) ?_)))))));rw [W7];refine goMv Z Z (Id 44 Z (fun h44=>?_) (fun h44=>?_))
      ·refine Aa Z Z Z Z (Aa Z Z Z Z (Aa Z Z Z Z ?_));refine Aa Z Z Z Z (J (fSq Z Z Z Z) (AD (D9 Z Z (AC (AE (AB Z Z (AD (A8 ?_))))))));exact ⟨_,[],[],A7 Z,Z,Z,Aj (UA hsz hr0 (hE.2 7 (by unfold OU;rw [hgd,ϑ h38,κ (by simp_all)]) (by decide)) (by decide)),Z⟩
      ·refine Ad Z Z Z (goMv Z Z (Ad Z Z Z (J (A4 Z N7 Z Z Z) (Ad Z Z Z (J (A9 Z Z Z Aq Z) (Ad Z Z Z (J (HQ (BA ((p.it.take k).map AK.sq)) (p.it[k].sq) (false) _ Z Z Z E9 HP T3 Z Z) ?_)))))));rw [W7];refine J (DR Z Z Z Z) (AD (Ah Z (fun h49=>?_) (fun h49=>?_)))
       ·refine AC (AE (AB Z Z (AD (A8 ?_))));exact ⟨_,[],[],A7 Z,Z,Z,Aj (UA hsz hr0 (hE.2 7 (by unfold OU;rw [hgd,ϑ h38,κ (by simp_all)]) (by decide)) (by decide)),Z⟩
       ·refine A3 ?_;have n1:p.it[k].id∉(p.it.take k).map AK.id:=by simp_all
        have n2:p.it[k].sq∉(p.it.take k).map AK.sq:=by simp_all
        refine Cc [[],[],[1],[],[],[4],[0,1,2],[0,1,2,3,4,5,6]] mixed Z (Cj (AI [4] [4,2] Z Z (fun _=>AG (A9 Z Z Z Rk Z)) (AI [7] [] Z Z (fun _=>AG (A4 Z MV Z Z Z)) ?_)));refine AI [51] [5] Z Z (fun _=>AG (A9 Z Z Z Aq Z)) (AI [5] [] Z Z (fun _=>AG (Ai Z Z)) (AI [7] [] Z Z (fun _=>AG (A4 Z N7 Z Z Z)) (AI [54] [5] Z Z (fun _=>AG (A9 Z Z Z Aq Z)) (Fo [50,52] [2] [] Z Z (fun _=>Fq (T9 (BA ((p.it.take k).map AK.id)) (p.it[k].id) (true) Z Z Z E9 HP Z Z)) (.inl ⟨Z,Z⟩) Z Z Z Z Z (C1 7 Z Z Z (Ae 8 Z Z (V (T9 (BA ((p.it.take k).map AK.sq)) (p.it[k].sq) (true) Z Z Z E9 HP Z Z) (AD ⟨Z,?_⟩))))))));refine C6 (AE (J (Ay Z Z (AT (k+1) (by omega)) Z) (goMv Z Z (AD ?_))));exact ⟨k+1,⟨by show k+1≤_;omega,hE.1 (by unfold OU;rw [hgd,ϑ h38,ϑ (by rintro (h | h);exact n1 h;exact n2 h)])⟩,by show p.it.length - (k+1)<p.it.length - k;omega,A1 hF [1,4,2,3] Z (by rw [DT hk1,DT hk1,←c7 n1,←c7 n2];rfl) ⟨Z,Z,Z,Z,Z,Z,trivial⟩⟩
    ·refine BF (AC (AC ?_));have hi0:Fk p.it=0:=by rw [hk,List.drop_of_length_le (by have h:=h32;simp only [ωf];omega)];rfl
     have hfull:p.it.take k=p.it:=Ξ (by have h:=h32;omega);rw [hfull];refine AE (J (A4 Z E6 Z Z Z) (J (A9 Z Z Z Kf Z) (J (Bz Z Tryz.underlying37 Z) (goMv Z Z (AD (A5 (B6 (α:=Nat) (fun k=>⟨69,[(4,(.ptr 4 0 0)),(58,(.d (.sl none (p.it.map Al)))),(59,(.d (AF (p.it.length:Int)))),(60,(.d (AF (k:Int))))],[(4,[.blk 137 [.map 2 0]]),(2,[BM AF Ak (BA (p.it.map AK.id))])]⟩) (fun k=>k≤p.it.length∧Qb p.it=Bg ((p.it.drop k).map (U2 (p.it.map AK.id)))) (fun k=>p.it.length - k) (0) (⟨Γ _,Z⟩) (A1 hF [4,2] Z Z ⟨Z,Z,Z,Z,trivial⟩) ?_)))))));rintro k ⟨hk0,hk⟩;refine AC (AE (J (BT Z Z Z) (AD (AC (Ah Z (fun h61=>?_) (fun h61=>?_))))))
     ·have hk1:k<p.it.length:=Bf h61;refine A3 (AC (A5 (AC (AE ?_))));have hE:=Dn hk1 hk;have hgi:=g3 _ (θ hk1);refine J (Bb (k) Z Z (Z) (Ag hk1) Tryz.underlying37 Z C8 Z) (J (GW Z Z Bt Z) (V (CO 6 EY Z Z Z Z) (V (Bi Z Z Z Z Z Z Z C8) ?_)));refine AD (AC (AE (J (A4 Z Dq Z Z Z) (J (A9 Z Z Z BC Z) (J (Zct Z Z) (V (Eu ((Sr (p.it.map AK.id) p.it[k].af (by omega)).by [(910,4),(911,2)] Z) Z [4,2] ⟨Z,Z,trivial⟩ Z Z Z Z Z Z Z Z Z) (AD (KP Z (fun h67=>?_) (fun h67=>?_)))))))))
      ·refine AC (AE (AB Z Z (AD (A8 ?_))));exact ⟨_,[],[],A7 Z,Z,Z,Aj (Za hsz hr0 hi0 (hE.2 9 (by unfold U2;rw [κ (by simpa using h67)]) (by decide))),Z⟩
      ·refine A3 (AE (J (Ay Z Z (AT (k+1) (by omega)) Z) (goMv Z Z (AD ?_))));exact ⟨k+1,⟨by show k+1≤_;omega,hE.1 (by unfold U2;rw [ϑ (by simpa using h67)])⟩,by show p.it.length - (k+1)<p.it.length - k;omega,A1 hF [4,2] Z (Z) ⟨Z,Z,Z,Z,trivial⟩⟩
     ·refine BF (AC (AE (AB Z Z (AD (A8 ?_)))));exact ⟨_,[],[],A7 Z,Z,Z,Aj (Za hsz hr0 hi0 (by rw [hk,GM (by have h:=h61;omega)])),Z⟩
abbrev Mo (T:TypeId) (p:Prb):AL:= .blk T [.d (.sl none (p.ro.map CZ)),.d (.sl none (p.it.map Al))]
theorem NE {α β:Type} {l:List α} {f:α ->β} {m k:Nat} (hk:k<l.length) (hm:m<k) {b:β} (h:f l[m]=b):b∈(l.take k).map f:=by
 refine ϖ.2 ⟨l[m],?_,h⟩;rw [χe];exact ⟨m,by omega,Z⟩
theorem XZ {α β:Type} {l:List α} {f:α ->β} {m:Nat} (hm:m<l.length) {b:β} (h:b∉(l.take m).map f) (h2:f l[m]≠b):b∉(l.take (m+1)).map f:=by
 rw [DT hm,ν,ξ];rintro (h3 | h3)
 ·exact h h3
 ·exact h2 h3.symm
def Sml (p:Prb):Prop:=p.it.length≤12∧p.ro.length≤24∧∀i∈p.it,i.po.length≤12∧i.pa.length≤12∧i.af.length≤12
instance (p:Prb):Decidable (Sml p):=inferInstanceAs (Decidable (_∧_∧∀i∈p.it,_))
theorem small_p (p:Prb):AO Tryz.prog 11 [.d (CB p)] (Ak (decide (Sml p))):=by
 refine BB Tryz.func11 Z Z Tryz.ntmps11 Z Z Z fun F hF=>(AC (AE (V (CE 1 Z Z Z Z Z Z Z) (AB Z Z (AD ?_)))));refine AC (AC (AE (J (A4 Z JH Z Z Z) (J (A9 Z Z Z UI Z) (J (Bz Z Tryz.underlying23 Z) (J (KK Z Z Z) (goMv Z Z (Id 8 Z (fun h8=>?_) (fun h8=>?_)))))))))
 ·refine Aa Z Z Z Z (Aa Z Z Z Z (Aa Z Z Z Z ?_));refine Aa Z Z Z Z (J (fSq Z Z Z Z) (AD (D9 Z Z (AC (AE (AB Z Z (AD (A8 ?_))))))));exact ⟨_,[],[],A7 Z,Z,Z,K6 (fun h=>by have h1:=h.1;have h2:=h.2.1;omega),Z⟩
 ·refine Ad Z Z Z (J (A4 Z QT Z Z Z) ?_);refine Ad Z Z Z (J (A9 Z Z Z on22 Z) (Ad Z Z Z (J (Bz Z Tryz.underlying22 Z) (Ad Z Z Z (J (KK Z Z Z) (J (DR Z Z Z Z) (AD (Ah Z (fun h13=>?_) (fun h13=>?_)))))))))
  ·refine AC (AE (AB Z Z (AD (A8 ?_))));exact ⟨_,[],[],A7 Z,Z,Z,K6 (fun h=>by have h1:=h.1;have h2:=h.2.1;omega),Z⟩
  ·refine A3 (AC (AC (AE (AB Z Z (AD (A5 (B6 (α:=Nat) (fun k=>⟨49,[(1,(.ptr 1 0 0)),(3,(.d (AF (k:Int))))],[(1,[Mo 25 p])]⟩) (fun k=>k≤p.it.length∧∀i∈p.it.take k,i.po.length≤12∧i.pa.length≤12∧i.af.length≤12) (fun k=>p.it.length - k) (0) (⟨Γ _,by simp⟩) (A1 hF [1] Z Z ⟨Z,Z,trivial⟩) ?_)))))));rintro k ⟨hk0,hk⟩;refine AC ?_;refine AC (AE (goMv Z Z (J (A4 Z JH Z Z Z) (J (A9 Z Z Z UI Z) (J (Bz Z Tryz.underlying23 Z) (J (BT Z Z Z) (AD (Ah Z (fun h18=>?_) (fun h18=>?_)))))))))
   ·have hk1:k<p.it.length:=Bf h18;refine A3 (AC (A5 (AC (AE (J (A4 Z JH Z Z Z) ?_)))));refine J (A9 Z Z Z UI Z) (goMv Z Z (J (Bb (k) Z Z (Z) (Ag hk1) Tryz.underlying23 Z sz93 Z) (J (Zcd Z QQ Z Z Z) (J (Cm Z Z on90 Z) (J (Bz Z Tryz.underlying90 Z) (J (KK Z Z Z) (goMv Z Z (Id 29 Z (fun h29=>?_) (fun h29=>?_)))))))))
    ·refine Aa Z Z Z Z (Aa Z Z Z Z (Aa Z Z Z Z (Aa Z Z Z Z (Aa Z Z Z Z (Aa Z Z Z Z (Aa Z Z Z Z (Aa Z Z Z Z ?_)))))));refine J (fSq Z Z Z Z) (goMv Z Z (Aa Z Z Z Z (Aa Z Z Z Z (Aa Z Z Z Z (Aa Z Z Z Z (Aa Z Z Z Z (Aa Z Z Z Z (Aa Z Z Z Z ?_))))))));refine Aa Z Z Z Z (J (fSq Z Z Z Z) (AD (D9 Z Z (AC (AE (AB Z Z (AD (A8 ?_))))))));exact ⟨_,[],[],A7 Z,Z,Z,K6 (fun h=>by have h1:=h.2.2 _ (θ hk1);omega),Z⟩
    ·refine Ad Z Z Z ?_;refine J (A4 Z JH Z Z Z) (Ad Z Z Z (J (A9 Z Z Z UI Z) (Ad Z Z Z (goMv Z Z (Ad Z Z Z (J (Bb (k) Z Z (Z) (Ag hk1) Tryz.underlying23 Z sz93 Z) (Ad Z Z Z (J (Zcd Z UZ Z Z Z) ?_))))))));refine Ad Z Z Z (J (Cm Z Z on91 Z) (Ad Z Z Z (J (Bz Z Tryz.underlying91 Z) (Ad Z Z Z (J (KK Z Z Z) (J (DR Z Z Z Z) (goMv Z Z (Id 39 Z (fun h39=>?_) (fun h39=>?_)))))))))
     ·refine Aa Z Z Z Z (Aa Z Z Z Z (Aa Z Z Z Z (Aa Z Z Z Z (Aa Z Z Z Z (Aa Z Z Z Z (Aa Z Z Z Z ?_))))));refine Aa Z Z Z Z (J (fSq Z Z Z Z) (AD (D9 Z Z (AC (AE (AB Z Z (AD (A8 ?_))))))));exact ⟨_,[],[],A7 Z,Z,Z,K6 (fun h=>by have h1:=h.2.2 _ (θ hk1);omega),Z⟩
     ·refine Ad Z Z Z ?_;refine J (A4 Z JH Z Z Z) (Ad Z Z Z (J (A9 Z Z Z UI Z) (Ad Z Z Z (goMv Z Z (Ad Z Z Z (J (Bb (k) Z Z (Z) (Ag hk1) Tryz.underlying23 Z sz93 Z) (Ad Z Z Z (J (Zcd Z bM Z Z Z) ?_))))))));refine Ad Z Z Z (J (Cm Z Z BC Z) (Ad Z Z Z (J (Bz Z Tryz.underlying28 Z) (Ad Z Z Z (J (KK Z Z Z) (J (DR Z Z Z Z) (AD (Ah Z (fun h48=>?_) (fun h48=>?_)))))))))
      ·refine AC (AE (AB Z Z (AD (A8 ?_))));exact ⟨_,[],[],A7 Z,Z,Z,K6 (fun h=>by have h1:=h.2.2 _ (θ hk1);omega),Z⟩
      ·refine A3 (AE (goMv Z Z (J (Ay Z Z (AT (k+1) (by omega)) Z) (AB Z Z (AD ?_)))));exact ⟨k+1,⟨by show k+1≤_;omega,by rw [φ hk1];intro i hi;rcases ν.1 hi with hi | hi;exact hk i hi;rw [ξ.1 hi];omega⟩,by show p.it.length - (k+1)<p.it.length - k;omega,A1 hF [1] Z (Z) ⟨Z,Z,trivial⟩⟩
   ·refine BF (AC (AE (AB Z Z (AD (A8 ?_)))));exact ⟨_,[],[],A7 Z,Z,Z,retT ⟨by omega,by omega,fun i hi=>hk i (by rw [Ξ (by have h:=h18;omega)];exact hi)⟩,Z⟩
def OT:List AK ->AK ->List AK
 | [],x=> [x]
 | a::l,x=>if ∀y∈a::l,GF x y<0 then x::a::l else a::OT l x
def BJ (l:List AK):List AK:=l.foldl OT []
theorem az (l:List AK) (x:AK):(OT l x).length=l.length+1:=by
 induction l with
 | nil=>rfl
 | cons a l ih=>
  simp only [OT];split
  ·rfl
  ·simp only [ψo,ih]
theorem Io (l:List AK) (x:AK):BJ (l++ [x])=OT (BJ l) x:=by simp [BJ]
theorem DH (l:List AK):(BJ l).length=l.length:=by
 induction l using YR with
 | h0=>rfl
 | h1 l x ih=>rw [Io,az,ih];simp
def JZ (l:List AK) (r:AP):List Int:=(l.filter fun i=>decide (CR i r<0)).map AK.id
theorem bz (l:List FR) (hl:l.length≤1000000):AO Tryz.prog 86 [.d (.sl none (l.map Br))] (.sl none (l.map Br)):=by
 refine BB Tryz.func86 Z Z Tryz.ntmps86 Z Z Z fun F hF=>(AC ?_);refine AE (AB Z Z (W6 2 Z (AD (AC (AC (AE (goMv Z Z (FJ 3 Z (fun h0=>?_) ?_))))))))
 ·refine J (EE Tryz.underlying52 Z Z) (AD (D9 Z (Z) (AC (AE (AB Z Z (W6 2 Z (AD (A8 ?_))))))));exact ⟨_,[],[],A7 Z,Z,Z,by first | (rw [h0];done) | (rw [h0]),rfl⟩
 ·refine J (EE Tryz.underlying52 Z Z) (AD ?_);refine Db Z (Z) (A3 (AC (AE (V (Dz 20 Wx Z Z Z Z Z Z Z Z) (goMv Z Z (V (FC (([]:List FR)) (l) Z Z Z Z Z Z (fun _=>rfl) Wx (by simp only [φq];omega) Z Z Z Z) (Zcs (emb:=Br) 7 20 ([]++l) Z Z Z Z Z Z Z (AB Z Z ?_))))))));skip;refine AD (A8 ?_);exact ⟨_,[],[],A7 Z,Z,Z,Z,Z⟩
theorem bx (l:List OJ) (hl:l.length≤1000000):AO Tryz.prog 87 [.d (.sl none (l.map E3))] (.sl none (l.map E3)):=by
 refine BB Tryz.func87 Z Z Tryz.ntmps87 Z Z Z fun F hF=>(AC ?_);refine AE (AB Z Z (W6 2 Z (AD (AC (AC (AE (goMv Z Z (FJ 3 Z (fun h0=>?_) ?_))))))))
 ·refine J (EE Tryz.underlying53 Z Z) (AD (D9 Z (Z) (AC (AE (AB Z Z (W6 2 Z (AD (A8 ?_))))))));exact ⟨_,[],[],A7 Z,Z,Z,by first | (rw [h0];done) | (rw [h0]),rfl⟩
 ·refine J (EE Tryz.underlying53 Z Z) (AD ?_);refine Db Z (Z) (A3 (AC (AE (V (Dz 20 ZH Z Z Z Z Z Z Z Z) (goMv Z Z (V (FC (([]:List OJ)) (l) Z Z Z Z Z Z (fun _=>rfl) ZH (by simp only [φq];omega) Z Z Z Z) (Zcs (emb:=E3) 7 20 ([]++l) Z Z Z Z Z Z Z (AB Z Z ?_))))))));skip;refine AD (A8 ?_);exact ⟨_,[],[],A7 Z,Z,Z,Z,Z⟩
theorem cA (l:List Int) (hl:l.length≤1000000):AO Tryz.prog 89 [.d (.sl none (l.map AF))] (.sl none (l.map AF)):=by
 refine BB Tryz.func89 Z Z Tryz.ntmps89 Z Z Z fun F hF=>(AC ?_);refine AE (AB Z Z (W6 2 Z (AD (AC (AC (AE (goMv Z Z (FJ 3 Z (fun h0=>?_) ?_))))))))
 ·refine J (EE Tryz.underlying28 Z Z) (AD (D9 Z (Z) (AC (AE (AB Z Z (W6 2 Z (AD (A8 ?_))))))));exact ⟨_,[],[],A7 Z,Z,Z,by first | (rw [h0];done) | (rw [h0]),rfl⟩
 ·refine J (EE Tryz.underlying28 Z Z) (AD ?_);refine Db Z (Z) (A3 (AC (AE (V (Dz 20 B4 Z Z Z Z Z Z Z Z) (goMv Z Z (V (FC (([]:List Int)) (l) Z Z Z Z Z Z (fun _=>rfl) B4 (by simp only [φq];omega) Z Z Z Z) (Zcs (emb:=AF) 7 20 ([]++l) Z Z Z Z Z Z Z (AB Z Z ?_))))))));skip;refine AD (A8 ?_);exact ⟨_,[],[],A7 Z,Z,Z,Z,Z⟩
theorem clone_p (i:AK) (g1:i.po.length≤1000000) (g2:i.pa.length≤1000000) (g3:i.af.length≤1000000):AO Tryz.prog 69 [.d (Al i)] (Al i):=by
 refine BB Tryz.func69 Z Z Tryz.ntmps69 Z Z Z fun F hF=>(AC (AE (V (CE 1 Z Z Z Z Z Z Z) (V (CO 2 EY Z Z Z Z) ?_))));refine AD (AC (Cc [[],[0],[0,1],[],[3],[0,1,2,3,4],[],[6],[0,1,2,3,4,5,6,7],[0,1,2,3,4,6,7],[0,1,2,3,4,5,6,7,8,9],[0,1,2,3,4,5,6,7,8,9,10],[0,1,2,3,4,5,6,7,8,9,10,11],[0,1,2,3,4,5,6,7,8,9,10,11,12],[0,1,2,3,4,5,6,7,8,9,10,11,12,13]] mixed Z (Cj (AI [1] [] Z Z (fun _=>AG (A4 Z Hq Z Z Z)) (AI [3] [1] Z Z (fun _=>AG (A9 Z Z Z XU Z)) (AI [4] [] Z Z (fun _=>AG (BZ (bz i.po g1) Z Z)) (AI [1] [] Z Z (fun _=>AG (A4 Z JG Z Z Z)) (AI [6] [1] Z Z (fun _=>AG (A9 Z Z Z Zs Z)) ?_))))))));refine AI [7] [] Z Z (fun _=>AG (BZ (bx i.pa g2) Z Z)) (AI [1] [] Z Z (fun _=>AG (A4 Z Dq Z Z Z)) (AI [9] [1] Z Z (fun _=>AG (A9 Z Z Z BC Z)) (AI [10] [] Z Z (fun _=>AG (BZ (cA i.af g3) Z Z)) (AI [1] [] Z Z (fun _=>AG (A4 Z Hq Z Z Z)) (C1 10 Z Z Z (Ae 11 Z Z (V (Bi Z Z Z Z Z Z Z sz52) (AD ⟨Z,?_⟩))))))));refine Ae 12 Z Z (J (A4 Z JG Z Z Z) (AD ⟨Z,?_⟩));refine Ae 13 Z Z (V (Bi Z Z Z Z Z Z Z sz53) (AD ⟨Z,?_⟩));refine Ae 14 Z Z (J (A4 Z Dq Z Z Z) (AD ⟨Z,?_⟩));refine Ae 15 Z Z (V (Bi Z Z Z Z Z Z Z CG) (AD ⟨Z,?_⟩));refine C6 (AC (AE (J (BO Z Z Bt Z Z Z) (V (Bi Z Z Z Z Z Z Z C8) (AD (A8 ?_))))));exact ⟨_,[],[],A7 Z,Z,Z,Z,Z⟩
theorem hnewN {hp:Hp} {f:Nat} {o:AL} (h:hfam hp f=none) (hm:Rs o=true:=by rfl):CX hp f o=some ((f,[o])::hp):=by simp only [CX,h,hm]
theorem partN {hp:Hp} {f:Nat} {x:List AL}:∀{nm:List Nat},memB f nm=false ->BU ((f,x)::hp) nm=BU hp nm
 | [],_=>rfl
 | g::r,h=>by
  have h1:Nat.beq f g=false:=by
   cases hb:Nat.beq f g with
   | false=>rfl
   | true=>
    have e:=ωg hb;subst e
    simp [memB] at h
  have h2:memB f r=false:=by
   cases hb:memB f r with
   | false=>rfl
   | true=>simp [memB,hb] at h
  simp only [BU];rw [partN h2];simp only [hfam,h1]
theorem Wo (l:List Nat):JT l l=true:=by
 have key:∀(l m:List Nat),(∀x∈l,x∈m) ->JT l m=true:=fun l=>by
  induction l with
  | nil=>intro m _;rfl
  | cons a r ih=>intro m h;simp only [JT,ωb];exact ⟨FZ.2 (h a (by simp)),ih m fun x hx=>h x (by simp [hx])⟩
 exact key l l fun x hx=>hx
theorem Ds {α β:Type} {step:β ->α ->β×Bool} {b:β} {x:α} {r:List α}:HH step b (x::r)=if (step b x).2=true then HH step (step b x).1 r else (step b x).1:=by
 simp only [HH]
 generalize step b x=y
 obtain ⟨y1,y2⟩:=y
 cases y2<;>rfl
def encI (x:AK):List AV:=[.d (Al x)]
section
variable {β:Type}
theorem seqV_c (its:List AK) (hits:its.length≤1000000) (l:Nat) (H:β ->Hp) (N:List Nat) (step:β ->AK ->β×Bool) (st0:β) (hN:∀st,hpN (H st)=N) (hI:∀st,FX N (H st)=true) (hP:∀st,BU (H st) N=some (H st))
  (hk:∀st,AX 990 (H st)=some (H st)) (hz:∀st,hfam (H st) 990=none) (hm:memB 990 N=false)
  (hfe:L9 Tryz.prog l encI H step st0 its):
  AN Tryz.prog 164 [.d (.raw (Cv l)),.d (.ptr (.sl none (its.map Al)))] (H st0) fun r H'=>r= .tup []∧H'=H (HH step st0 its):=by
 refine BB Tryz.func164 Z Z Tryz.ntmps164 Z Z Z fun F hF=>(AC (AE (J (Cm Z Z Kf Z) (J (Bz Z Tryz.underlying37 Z) (goMv Z Z (AD (A5 (Gx (α:=Nat×β) (fun p=>⟨16,[(0,.d (.raw (Cv l))),(5,(.d (.sl none (its.map Al)))),(6,(.d (AF (its.length:Int)))),(7,(.d (AF (p.1:Int))))],H p.2⟩) (fun p=>p.1≤its.length∧L9 Tryz.prog l encI H step p.2 (its.drop p.1)∧HH step p.2 (its.drop p.1)=HH step st0 its) (fun p=>its.length - p.1) ((0,st0)) (⟨Γ _,hfe,Z⟩) (c8 ⟨Z,Z,Z,Z,trivial⟩) ?_))))))));rintro ⟨k,st⟩ ⟨hk0,hfd,hfin⟩;dsimp only at hk0 hfd hfin⊢;refine AC (AE (J (BT Z Z Z) (AD (AC (Ah Z (fun h8=>?_) (fun h8=>?_))))))
 ·have hk1:k<its.length:=Bf h8;refine A3 (AC (A5 (AC (AE ?_))));have hA:its.drop k=its[k]::its.drop (k+1):=χg hk1;rw [hA] at hfd;refine J (Bb (k) Z Z (Z) (Ag hk1) Tryz.underlying37 Z C8 Z) (J (GW Z Z Bt Z) (V (CO 990 EY Z (hk _) (hnewN (hz _)) Z) (V (Bi Z Z Z Z Z Z Z C8) (AD (AC ?_)))));refine AE (goMv Z Z (J (BO Z Z Bt Z Z Z) (o_keep [0,5,6,7,11,12] Z (o_only N (hF.trans (hN st0)) (Wo N) ((partN hm).trans (hP _)) (Zx hfd.1 Z Z (by rw [hN,hN]) (by rw [hN];exact hI _) Z Z (J (L7 Z Z) (AD (KP Z (fun h14=>?_) (fun h14=>?_)))))))))
  ·have hgo:(step st its[k]).2=false:=by simpa using h14
   refine A8 ?_;exact ⟨_,N,_,A7 Z,hP _,by rw [←hN st0];exact ET _,Z,by rw [←hfin,hA,Ds,ϑ (by rw [hgo];decide)]⟩
  ·have hgo:(step st its[k]).2=true:=by simpa using h14
   refine A3 (AE (J (Ay Z Z (AT (k+1) (by omega)) Z) (goMv Z Z (AD ?_))));exact ⟨(k+1,(step st its[k]).1),⟨by show k+1≤_;omega,hfd.2 hgo,by rw [←hfin,hA,Ds,κ hgo]⟩,by show its.length - (k+1)<its.length - k;omega,⟨Z,Z,fun _ _=>Ta.get (l:=[(0,_),(5,_),(6,_),(7,_)]) ⟨Z,Z,Z,Z,trivial⟩⟩⟩
 ·refine BF ?_;exact ⟨_,N,_,A7 Z,hP _,by rw [←hN st0];exact ET _,Z,by rw [←hfin,List.drop_of_length_le (by have h:=h8;omega)];rfl⟩
end
theorem SR.freezeB {F:Fr} {s:AS} {ρ:Nat ->Nat ->Value} {act:Act} {w:World} (h:SR F s ρ act w) (t f:Nat) (x:D) {T:TypeId} {cs:List AV} {hp':Hp} (nm:List Nat) {pn:List Nat} (hF:F.pn=pn) (ht:get s.env t=some (.ptr f 0 0)) (hone:hfam s.hp f=some [.blk T cs]) (hcs:cs=x.cells.map .d) (hx1:∀c∈x.cells,c.one=true) (hf:memB f nm=false) (hsub:JT pn nm=true) (hpt:BU s.hp nm=some hp'):SR F ⟨s.n,(t,.d (.ptr x))::s.env,hp'⟩ ρ act w:=by
 have h1:=h.only nm hF hsub hpt;refine ⟨h1.size,h1.defs,fun t' a ha=>?_,h1.heap⟩;rcases KL ha with ⟨rfl,rfl⟩ | ⟨_,ha⟩
 ·have hr:=h.env t _ ht;have ho:hget s.hp f 0=some (.blk T cs):=by simp [hget,hone,gl,isM]
  obtain ⟨b,us,e1,e2,e3,e4,e5⟩:=h.heap.sim f 0 _ ho;show AW _ _ _ _ (act.tmps.getD t undef)
  generalize act.tmps.getD t undef=v at hr
  cases hr with
  | @ptr _ _ _ b' hb=>
   rw [e1] at hb;injection hb with hb;injection hb with hb;injection hb with hb;subst hb
   have hO:∀b',F.O ρ hp' b' ->F.O ρ s.hp b':=fun b' hb'=>hb'.imp id fun ⟨f',i',o',q1,q2⟩=>by
    obtain ⟨m1,_⟩:=Di hpt;refine ⟨f',i',o',?_,q2⟩;simp only [hget] at q1⊢
    cases hh:hfam hp' f' with
    | none=>rw [hh] at q1;cases q1
    | some l=>rw [(m1 f' l hh).2];rw [hh] at q1;exact q1
   have hnO:¬F.O ρ hp' b:=fun hb'=>by
    rcases hb' with hb' | ⟨f',i',o',q1,q2⟩
    ·exact h.heap.notOf ⟨f,0,_,ho,by rw [e1];rfl⟩ hb'
    ·obtain ⟨m1,_⟩:=Di hpt;simp only [hget] at q1
     cases hh:hfam hp' f' with
     | none=>rw [hh] at q1;cases q1
     | some l=>
      have q3:hget s.hp f' i'=some o':=by simp only [hget];rw [(m1 f' l hh).2];rw [hh] at q1;exact q1
      obtain ⟨e1',_⟩:=h.heap.inj f' i' f 0 _ _ b q3 ho q2 (by rw [e1];rfl);have:=FZ.2 (m1 f' l hh).1;rw [e1',hf] at this;cases this
   have hlen:us.length=x.cells.length:=by rw [e3,hcs,ψ]
   refine .d (.ptr (fun j=>us.getD j undef) (h.heap.ltO (.inr ⟨f,0,_,ho,by rw [e1];rfl⟩)) hnO hx1 (fun j c hj=>?_) (fun j c hj=>?_))
   ·have hj':j<us.length:=by rw [hlen];exact (χ.1 hj).1
    rw [ψs,cell_of_row w b j us.toArray T (0,0) e2]
    simp [hj']
   ·have hj':j<us.length:=by rw [hlen];exact (χ.1 hj).1
    have hc:=e4 j (.d c) us[j] (by rw [hcs,η,hj];rfl) (ω hj');have hg:us.getD j undef=us[j]:=by simp [hj']
    rw [hg]
    cases hc with
    | d hc=>exact hc.mono (υ _) (fun _ _ _=>rfl) fun b' _=>hO b'
 ·exact h1.env t' a ha
theorem PE {P:Program} {F:Fr} {Q:Exit ->AS ->Prop} {ops:Array Oper} {l':List Oper} {sn:Nat} {env:List (Nat×AV)} {hp hp':Hp} (t f:Nat) (x:D) {T:TypeId} {cs:List AV} (nm:List Nat) {pn:List Nat} (hF:F.pn=pn) (ht:get env t=some (.ptr f 0 0)) (hone:hfam hp f=some [.blk T cs]) (hcs:cs=x.cells.map .d) (hx1:∀c∈x.cells,c.one=true) (hf:memB f nm=false) (hsub:JT pn nm=true) (hpt:BU hp nm=some hp')
  (h:Ab P F ops l' Q ⟨sn,(t,.d (.ptr x))::env,hp'⟩):Ab P F ops l' Q ⟨sn,env,hp⟩:=fun ρ act w hs=>h ρ act w (hs.freezeB t f x nm hF ht hone hcs hx1 hf hsub hpt)
theorem Y5 (its:List AK):AN Tryz.prog 121 [.d (.sl none (its.map Al))] [] fun r H'=>r= .fn 164 [.d (.ptr (.sl none (its.map Al)))]∧H'=[]:=by
 refine BB Tryz.func121 Z Z Tryz.ntmps121 Z Z Z fun F hF=>(AC (AE (V (CE 1 Z Z Z Z Z Z Z) ?_)));refine AB Z Z (AD (AC (AE (PE 1 1 (.sl none (its.map Al)) [] hF Z Z Z (by intro c hc;simp [D.cells] at hc;subst hc;rfl) Z Z Z (J (Zct Z Z) (AB Z Z (AD (A8 ?_))))))));exact ⟨_,[],[],A7 Z,Z,Z,Z,Z⟩
abbrev hV (q:List AK):Hp:=[(920,[.rowD 55 6 (q.map Al)]),(1,[.blk 37 [.own 920 0 q.length]])]
def VP (q:List AK) (x:AK):List AK×Bool:=(q++ [x],true)
theorem Sb:∀(l q:List AK),HH VP q l=q++l
 | [],q=>by simp [HH]
 | x::l,q=>by rw [Ds];show (if true=true then HH VP (q++ [x]) l else _)=_;rw [κ Z,Sb l];simp
theorem P6 {P:Program} {l:Nat} {H:List AK ->Hp} {n:Nat} (hY:∀q x,q.length<n ->Fn P l (encI x) (H q) fun v H'=>v= .d (.raw (.bool true))∧H'=H (q++ [x])):∀(xs q:List AK),q.length+xs.length≤n ->L9 P l encI H VP q xs
 | [],_,_=>trivial
 | x::xs,q,h=>⟨hY q x (by simp at h;omega),fun _=>P6 hY xs (q++ [x]) (by simp at h⊢;omega)⟩
theorem cM (its:List AK) (hits:its.length≤1000000):AN Tryz.prog 210 [.d (.sl (some true) []),.fn 164 [.d (.ptr (.sl none (its.map Al)))]] [] fun r H'=>r= .own 920 0 its.length∧H'=[(920,[.rowD 55 6 (its.map Al)])]:=by
 refine Nx Tryz.func210 Z Z Tryz.ntmps210 Z Z Z fun F hF hFl=>(AC (AE (V (CE 1 Z Z Z Z Z Z Z) ?_)));refine AB Z Z (AD (AC (AC (EW 1 0 0 920 OK Z Z Z Z Z Z Z (AE (goMv Z Z (AD (A5 ?_))))))));refine cV [2,6] Z ?_;refine WZ (γ:=Unit) hFl 900 Z Z Z Z Z [1,920] (CHr:=hV []) (fun _=>True) (fun _=>hV its) (fun _=> .ready) (fun _=>none) ⟨Z,Z,trivial⟩ Z Z Z (fun _=>rfl) (fun _=>rfl) Z (fun _ _=>by simp) (fun _ _=>⟨Z,Z⟩) [920,1] hF Z Z (fun _ _=>rfl) (fun l A B hA hB=>?_) (fun _ _=>?_)
 ·refine (seqV_c its hits l (fun q:List AK=>(900,[.loop ⟨l,13,[(2,.ptr 1 0 0),(6,.fn 164 [.d (.ptr (.sl none (its.map Al)))])],.ready,none, #[7],A,B⟩])::hV q) [900,920,1] VP [] (fun _=>rfl) (fun _=>rfl) (fun _=>rfl) (fun _=>rfl) (fun _=>rfl) Z ?_).mono (fun r H' ⟨e1,e2⟩=>⟨e1,(),trivial,by rw [e2,Sb];rfl⟩);refine P6 (n:=its.length) (fun q x hq=>?_) its [] (by simp);refine Qp (lf:=900) Z Z Z Z fun F hF hr=>?_;show Bp _ _ A _ _;rw [hA];refine AE (V (CO 2 EY Z Z Z Z) (V (Bi Z Z Z Z Z Z Z C8) (AD (⟨Z,_,_,Z,Z,Z,Z,?_⟩))));show Bp _ _ B _ _;rw [hB];refine A5 (AE (J (A9 Z Z Z Kf Z) (J (BO Z Z Bt Z Z Z) (V (Dz 30 OK Z Z Z Z Z Z Z Z) (V (I8 (q) ([x]) Z Z Z Z Z Z Z Z OK (by simp only [Ψ];omega) Z Z Z Z) (V (Bi Z Z Z Z Z Z Z sz37) (AD ?_)))))));exact ⟨none,_,_,[900,920,1],_,Z,Z,Z,Z,Z,Z,Z,Z⟩
 ·refine AC (AE (J (A9 Z Z Z Kf Z) (AB Z Z (AD (A8 ?_)))));exact ⟨_,[920],_,A7 Z,Z,Z,Z,Z⟩
theorem insO_perm (l:List AK) (x:AK):(OT l x).Perm (x::l):=by
 induction l with
 | nil=>exact List.Perm.refl _
 | cons a l ih=>
  simp only [OT];split
  ·exact List.Perm.refl _
  ·exact (List.Perm.cons a ih).trans (List.Perm.swap x a l)
theorem SU {l:List AK} (h:l.Pairwise fun a b=>¬GF b a<0) (x:AK):(OT l x).Pairwise fun a b=>¬GF b a<0:=by
 induction l with
 | nil=>simp [OT]
 | cons a l ih=>
  rw [ψz] at h;simp only [OT]
  split
  ·rename_i hall
   exact ψz.2 ⟨fun y hy=>by have h1:=hall y hy;have h2:=DZ.anti x y;omega,ψz.2 h⟩
  ·rename_i hn
   refine ψz.2 ⟨fun y hy=>?_,ih h.2⟩;rcases Φ.1 ((insO_perm l x).mem_iff.1 hy) with rfl | hy
   ·intro hlt;refine hn fun z hz=>?_;rcases Φ.1 hz with rfl | hz
    ·exact hlt
    ·have h1:=h.1 z hz;have h2:=DZ.anti a z
     by_cases e:GF a z=0
     ·have h3:=DZ.eqv a z y e;have h4:=DZ.anti a y;have h5:=DZ.anti z y;omega
     ·exact DZ.trans _ _ _ hlt (by omega)
   ·exact h.1 y hy
theorem W5 (l:List AK):(BJ l).Perm l:=by
 induction l using YR with
 | h0=>exact List.Perm.refl _
 | h1 l x ih=>
  rw [Io];exact (insO_perm _ x).trans ((List.Perm.cons x ih).trans (List.perm_append_comm (l₁:=[x]) (l₂:=l)))
theorem Pr (l:List AK):(BJ l).Pairwise fun a b=>¬GF b a<0:=by
 induction l using YR with
 | h0=>exact List.Pairwise.nil
 | h1 l x ih=>rw [Io];exact SU ih x
theorem XS {a b:AK} (h:GF a b=0):a.sq=b.sq:=by
 unfold GF at h;simp only [Bg] at h
 split at h
 ·split at h
  ·rename_i h2;exact I4.1 h2
  ·contradiction
 ·contradiction
theorem Oe {l:List AK} (hn:(l.map AK.sq).Nodup) (h:l.Pairwise fun a b=>¬GF b a<0):l.Pairwise fun a b=>GF a b<0:=by
 rw [List.Nodup,ωy] at hn;refine (h.and hn).imp fun {a b} ⟨g1,g2⟩=>?_;have h1:=DZ.anti a b;have h2:GF a b≠0:=fun e=>g2 (XS e);omega
theorem V3 {its ys:List AK} (hn:(its.map AK.sq).Nodup) (h1:ys.Perm its) (h2:ys.Pairwise fun a b=>¬GF b a<0):ys=BJ its:=
 Cw (R:=fun a b=>GF a b<0) (fun x=>by rw [DZ.refl];omega) (fun x y z=>DZ.trans x y z) (Oe ((h1.map _).nodup_iff.2 hn) h2) (Oe (((W5 its).map _).nodup_iff.2 hn) (Pr its)) fun x=>by rw [h1.mem_iff,(W5 its).mem_iff]
theorem SO (x:AK):∃cs,Al x= .agg cs:=⟨_,Z⟩
abbrev seqA (its:List AK):AV:= .fn 164 [.d (.ptr (.sl none (its.map Al)))]
theorem Xw (its:List AK) (hits:its.length≤1000000):AN Tryz.prog 163 [seqA its] [] fun r H'=>r= .own 920 0 its.length∧H'=[(920,[.rowD 55 6 (its.map Al)])]:=by
 refine BB Tryz.func163 Z Z Tryz.ntmps163 Z Z Z fun F hF=>(AC (AE ?_));refine AB Z Z (AD (AC (AE (goMv Z Z (V (Eu (cM its hits) Z [920] ⟨Z,trivial⟩ Z Z Z Z Z Z Z Z Z) (AB Z Z (AD (A8 ?_))))))));exact ⟨_,[920],_,A7 Z,Z,Z,Z,Z⟩
theorem Wt (its:List AK) (hits:its.length≤1000000) (hn:(its.map AK.sq).Nodup):AO Tryz.prog 120 [seqA its,.d (.raw (.func (.func 122) #[] #[]))] (.sl none ((BJ its).map Al)):=by
 refine BB Tryz.func120 Z Z Tryz.ntmps120 Z Z Z fun F hF=>(AC (AE (AB Z Z (AD (AC ?_)))));refine AE (goMv Z Z (V (Eu (Xw its hits) Z [920] ⟨Z,trivial⟩ Z Z Z Z Z Z Z Z Z) (AB Z Z (AD (AC (AE (goMv Z Z (goMv Z Z ?_))))))));refine V (Lt laysI (k:=6) (by decide) Tryz.isAgg55 Tryz.sizeOf55 Tryz.func122 Z Z SO GF DZ.swo its (BJ its) (by omega) (fun x _ y _=>V2 x y) (fun ys g1 g2=>V3 hn g1 g2) Z Z Z Ky Z Z Z Z Z) (AD (AC (Lo (emb:=Al) 5 920 (BJ its) Z Z Z (DH its).symm Z Z Z (AE (goMv Z Z (AB Z Z (AD (A8 ?_))))))));exact ⟨_,[],[],A7 Z,Z,Z,Z,Z⟩
theorem LU {l:List AK} (h:Fk l=0):(l.map AK.sq).Nodup:=by
 have h0:=W4.1 h;rw [List.Nodup,ωy,ωq];intro i j hi hj hij e;have:=h0 j (ς.2 hj);unfold OU at this;rw [CI AY hj] at this
 split at this
 ·contradiction
 ·split at this
  ·cases this
  ·rename_i hn
   exact hn (.inr (NE hj hij e))
theorem O3 {p:Prb} (h:Az p=0):E1 p.ro=0∧Fk p.it=0∧Qb p.it=0:=by
 unfold Az at h
 split at h; · cases h
 have h3:=GN h;exact ⟨h3 _ (by simp),h3 _ (by simp),h3 _ (by simp)⟩
def ordP (p:Prb):List AK:=if Az p=0 then BJ p.it else []
theorem Ka (p:Prb) (hb:E7 p):AO Tryz.prog 68 [.d (CB p)] (.sl none ((ordP p).map Al)):=by
 have hck:=GE p hb;obtain ⟨_,g2,_⟩:=hb
 by_cases hE:Az p=0
 ·rw [hE] at hck;have hR:ordP p=BJ p.it:=κ hE;rw [hR];refine BB Tryz.func68 Z Z Tryz.ntmps68 Z Z Z fun F hF=>(AC (AE (V (CE 1 Z Z Z Z Z Z Z) (AB Z Z (AD ?_)))));refine AC (AC (AE (J (BO Z Z B8 Z Z Z) (J (BZ (hck) Z Z) (J (EA Z Z Z) (AD (Db Z ((by decide)) (A3 ?_))))))));refine AC (AE (J (A4 Z E6 Z Z Z) (J (A9 Z Z Z Kf Z) (V (Eu (Y5 p.it) Z [] trivial Z Z Z Z Z Z Z Z Z) (J (BZ (Wt p.it (by omega) (LU (O3 hE).2.1)) Z Z) (AB Z Z (AD (A8 ?_))))))));exact ⟨_,[],[],A7 Z,Z,Z,Z,Z⟩
 ·have hR:ordP p=[]:=ϑ hE;rw [hR];refine BB Tryz.func68 Z Z Tryz.ntmps68 Z Z Z fun F hF=>(AC (AE ?_));refine V (CE 1 Z Z Z Z Z Z Z) (AB Z Z (W6 2 Z (AD (AC (AC (AE (J (BO Z Z B8 Z Z Z) (J (BZ (hck) Z Z) ?_))))))));refine J (EA Z Z Z) (AD (D9 Z ((by simpa using hE)) (AC (AE (AB Z Z (W6 2 Z (AD (A8 ?_))))))));exact ⟨_,[],[],A7 Z,Z,Z,Z,Z⟩
theorem DY (p:Prb):(ordP p).length≤p.it.length:=by unfold ordP;split<;>simp [DH]
theorem H7 {p:Prb} {i:AK} (h:i∈ordP p):i∈p.it:=by
 unfold ordP at h;split at h
 ·exact (W5 _).mem_iff.1 h
 ·cases h
theorem H6 (p:Prb) (hb:E7 p):AO Tryz.prog 33 [.d (CB p)] (.sl none (((ordP p).map AK.id).map AF)):=by
 have hso:=Ka p hb;have hlen:=DY p;have hb2:=hb.2.1
 obtain ⟨S,hS⟩:∃S,ordP p=S:=⟨_,Z⟩
 rw [hS] at hso hlen⊢;refine BB Tryz.func33 Z Z Tryz.ntmps33 Z Z Z fun F hF=>(AC (AE ?_));refine V (CE 1 Z Z Z Z Z Z Z) (AB Z Z (AD (AC (AE (AB Z Z (AD (AC (AC ?_))))))));refine O4 3 900 B4 Z Z Z Z (AE (J (BO Z Z B8 Z Z Z) (J (BZ (hso) Z Z) (J (Bz Z Tryz.underlying37 Z) (goMv Z Z (AD (A5 (B6 (α:=Nat×List Int) (fun q=>⟨20,[(3,(.own 900 0 q.2.length)),(7,(.d (.sl none (S.map Al)))),(8,(.d (AF (S.length:Int)))),(9,(.d (AF (q.1:Int))))],[(900,[.rowD 3 1 (q.2.map AF)])]⟩) (fun q=>q.1≤S.length∧q.2=(S.take q.1).map AK.id) (fun q=>S.length - q.1) ((0,[])) (⟨Γ _,Z⟩) (A1 hF [900] Z Z ⟨Z,Z,Z,Z,trivial⟩) ?_))))))));rintro ⟨k,acc⟩ ⟨hk0,hA⟩;dsimp only at hk0 hA⊢;refine AC (AE (J (BT Z Z Z) (AD (AC (Ah Z (fun h10=>?_) (fun h10=>?_))))))
 ·have hk1:k<S.length:=Bf h10;refine A3 (AC (A5 (AC (AE ?_))));have hal:acc.length≤100000:=by rw [hA,ψ,Ω];omega
  refine J (Bb (k) Z Z (Z) (Ag hk1) Tryz.underlying37 Z C8 Z) (J (GW Z Z Bt Z) (V (CO 2 EY Z Z Z Z) (V (Bi Z Z Z Z Z Z Z C8) (AD (AE (goMv Z Z (J (A4 Z MV Z Z Z) ?_)))))));refine J (A9 Z Z Z Aq Z) (V (Dz 3 B4 Z Z Z Z Z Z Z Z) (V (I8 (acc) ([S[k].id]) Z Z Z Z Z Z Z Z B4 (by simp only [Ψ];omega) Z Z Z Z) (AB Z Z (AD (AE (J (Ay Z Z (AT (k+1) (by omega)) Z) (goMv Z Z (AD ?_))))))));exact ⟨(k+1,_),⟨by show k+1≤_;omega,by show _=(S.take (k+1)).map AK.id;rw [DT hk1,←hA]⟩,by show S.length - (k+1)<S.length - k;omega,A1 hF [900] Z (Z) ⟨Z,Z,Z,Z,trivial⟩⟩
 ·refine BF (AC (Lo (emb:=AF) 3 900 acc Z Z Z Z Z Z Z (AE (goMv Z Z (AB Z Z (AD (A8 ?_)))))));exact ⟨_,[],[],A7 Z,Z,Z,by rw [hA,Ξ (by have h:=h10;omega)],Z⟩
theorem queue_p (p:Prb) (r:AP) (hb:E7 p):AO Tryz.prog 173 [.d (CB p),.d (C4 r)] (.sl none ((JZ (ordP p) r).map AF)):=by
 have hso:=Ka p hb;have hlen:=DY p;have hb2:=hb.2.1;have hmem:∀i∈ordP p,i.po.length≤100000∧i.pa.length≤100000∧i.af.length≤100000:=fun i hi=>hb.2.2 i (H7 hi)
 obtain ⟨S,hS⟩:∃S,ordP p=S:=⟨_,Z⟩
 rw [hS] at hso hlen hmem⊢;refine BB Tryz.func173 Z Z Tryz.ntmps173 Z Z Z fun F hF=>(AC (AE (V (CE 1 Z Z Z Z Z Z Z) ?_)));refine V (CE 2 Z Z Z Z Z Z Z) (AB Z Z (AD (AC (AE (AB Z Z (AD (AC (AC ?_))))))));refine O4 5 900 B4 Z Z Z Z (AE (J (BO Z Z B8 Z Z Z) (J (BZ (hso) Z Z) (J (Bz Z Tryz.underlying37 Z) (goMv Z Z (AD (A5 (B6 (α:=Nat×List Int) (fun q=>⟨26,[(3,(.ptr 2 0 0)),(5,(.own 900 0 q.2.length)),(9,(.d (.sl none (S.map Al)))),(10,(.d (AF (S.length:Int)))),(11,(.d (AF (q.1:Int))))],[(2,[.blk 64 [.d (AF r.k),.d (Ao r.acc.o),.d (AF r.acc.k),.d (Ao r.acc.a),.d (Ao r.f),.d (Ao r.t)]]),(900,[.rowD 3 1 (q.2.map AF)])]⟩) (fun q=>q.1≤S.length∧q.2=JZ (S.take q.1) r) (fun q=>S.length - q.1) ((0,[])) (⟨Γ _,Z⟩) (A1 hF [2,900] Z Z ⟨Z,Z,Z,Z,Z,trivial⟩) ?_))))))));rintro ⟨k,acc⟩ ⟨hk0,hA⟩;dsimp only at hk0 hA⊢;refine AC (AE (J (BT Z Z Z) (AD (AC (Ah Z (fun h12=>?_) (fun h12=>?_))))))
 ·have hk1:k<S.length:=Bf h12;refine A3 (AC (A5 (AC (AE ?_))));have hgi:=hmem _ (θ hk1);have hal:acc.length≤100000:=by rw [hA];unfold JZ;rw [ψ];have:=ωh (fun i=>decide (CR i r<0)) (S.take k);rw [Ω] at this;omega
  refine J (Bb (k) Z Z (Z) (Ag hk1) Tryz.underlying37 Z C8 Z) (J (GW Z Z Bt Z) (V (CO 3 EY Z Z Z Z) (V (Bi Z Z Z Z Z Z Z C8) ?_)));refine AD (AC (AE (J (BO Z Z Bt Z Z Z) (J (BO Z Z CY Z Z Z) (J (BZ (MP S[k] r (by omega) (by omega) (by omega)) Z Z) (J (BT Z Z Z) (AD (Ah Z (fun h18=>?_) (fun h18=>?_)))))))))
  ·refine AE (goMv Z Z (J (A4 Z MV Z Z Z) ?_));refine J (A9 Z Z Z Aq Z) (V (Dz 4 B4 Z Z Z Z Z Z Z Z) (V (I8 (acc) ([S[k].id]) Z Z Z Z Z Z Z Z B4 (by simp only [Ψ];omega) Z Z Z Z) (AB Z Z (AD (AE (J (Ay Z Z (AT (k+1) (by omega)) Z) (goMv Z Z (AD ?_))))))));exact ⟨(k+1,_),⟨by show k+1≤_;omega,by show _=JZ (S.take (k+1)) r;unfold JZ;rw [GO hk1,κ (by simpa using h18),ωc,hA];rfl⟩,by show S.length - (k+1)<S.length - k;omega,A1 hF [2,900] Z (Z) ⟨Z,Z,Z,Z,Z,trivial⟩⟩
  ·refine A3 (AE (J (Ay Z Z (AT (k+1) (by omega)) Z) (goMv Z Z (AD ?_))));exact ⟨(k+1,_),⟨by show k+1≤_;omega,by show _=JZ (S.take (k+1)) r;unfold JZ;rw [GO hk1,ϑ (by simpa using h18),ωk,hA];rfl⟩,by show S.length - (k+1)<S.length - k;omega,A1 hF [2,900] Z (Z) ⟨Z,Z,Z,Z,Z,trivial⟩⟩
 ·refine BF (AC (Lo (emb:=AF) 5 900 acc Z Z Z Z Z Z Z (AE (goMv Z Z (AB Z Z (AD (A8 ?_)))))));exact ⟨_,[],[],A7 Z,Z,Z,by rw [hA,Ξ (by have h:=h12;omega)],Z⟩
def LV (l:List AK) (id:Int):AK×Bool:=match l.find? fun x=>decide (x.id=id) with
 | some x=>(x,true)
 | none=>(AY,false)
theorem NN {l:List AK} {id:Int} {k:Nat} (hk:k<l.length) (h0:id∉(l.take k).map AK.id) (h:l[k].id=id):LV l id=(l[k],true):=by
 have:l.find? (fun x=>decide (x.id=id))=some l[k]:=by
  rw [List.find?_eq_some_iff_getElem];refine ⟨by simp [h],k,hk,Z,fun j hj=>?_⟩;simp only [Bool.not_eq_true',decide_eq_false_iff_not];intro e;exact h0 (NE hk hj e)
 unfold LV;rw [this]
theorem av {l:List AK} {id:Int} (h:id∉l.map AK.id):LV l id=(AY,false):=by
 have:l.find? (fun x=>decide (x.id=id))=none:=by
  rw [List.find?_eq_none];intro x hx e;exact h (ϖ.2 ⟨x,hx,by simpa using e⟩)
 unfold LV;rw [this]
theorem Xh:∀w O v,AQ w O (.agg [AF 0,AF 0,AF 0,.sl (some true) [],.sl (some true) [],.sl (some true) []]) v ->AQ w O (Al AY) v:=fun w O v h=>h.aggMono Z (by simp [D.one]) fun i c c' hc hc' v hv=>by
 match i,hc,hc' with
 | 0,hc,hc'=>injection hc with hc;injection hc' with hc';subst hc hc';exact hv
 | 1,hc,hc'=>injection hc with hc;injection hc' with hc';subst hc hc';exact hv
 | 2,hc,hc'=>injection hc with hc;injection hc' with hc';subst hc hc';exact hv
 | 3,hc,hc'=>injection hc with hc;injection hc' with hc';subst hc hc';exact hv.anyNil
 | 4,hc,hc'=>injection hc with hc;injection hc' with hc';subst hc hc';exact hv.anyNil
 | 5,hc,hc'=>injection hc with hc;injection hc' with hc';subst hc hc';exact hv.anyNil
theorem UU (p:Prb) (id:Int) (hb:E7 p):AO Tryz.prog 24 [.d (CB p),.d (AF id)] (.tup [Al (LV (ordP p) id).1,Ak (LV (ordP p) id).2]):=by
 have hso:=Ka p hb;have hlen:=DY p;have hb2:=hb.2.1;have hmem:∀i∈ordP p,i.po.length≤100000∧i.pa.length≤100000∧i.af.length≤100000:=fun i hi=>hb.2.2 i (H7 hi)
 obtain ⟨S,hS⟩:∃S,ordP p=S:=⟨_,Z⟩
 rw [hS] at hso hlen hmem⊢;refine BB Tryz.func24 Z Z Tryz.ntmps24 Z Z Z fun F hF=>(AC (AE (V (CE 1 Z Z Z Z Z Z Z) (V (CO 2 EY Z Z Z Z) (AB Z Z (AD (AC ?_)))))));refine AC (AE (J (BO Z Z B8 Z Z Z) (J (BZ (hso) Z Z) (J (Bz Z Tryz.underlying37 Z) (goMv Z Z (AD (A5 (B6 (α:=Nat) (fun k=>⟨23,[(1,.d (AF id)),(4,(.ptr 2 0 0)),(9,(.d (.sl none (S.map Al)))),(10,(.d (AF (S.length:Int)))),(11,(.d (AF (k:Int))))],[(2,[.blk 55 [.d (AF 0),.d (AF 0),.d (AF 0),Ib,Ib,Ib]])]⟩) (fun k=>k≤S.length∧id∉(S.take k).map AK.id) (fun k=>S.length - k) (0) (⟨Γ _,by simp⟩) (A1 hF [2] Z Z ⟨Z,Z,Z,Z,Z,trivial⟩) ?_))))))));rintro k ⟨hk0,hk⟩;refine AC (AE (J (BT Z Z Z) (AD (AC (Ah Z (fun h12=>?_) (fun h12=>?_))))))
 ·have hk1:k<S.length:=Bf h12;refine A3 (AC (A5 (AC (AE ?_))));have hgi:=hmem _ (θ hk1);refine J (Bb (k) Z Z (Z) (Ag hk1) Tryz.underlying37 Z C8 Z) (J (GW Z Z Bt Z) (V (CO 3 EY Z Z Z Z) (V (Bi Z Z Z Z Z Z Z C8) ?_)));refine AD (AC (AE (J (A4 Z MV Z Z Z) (J (A9 Z Z Z Aq Z) (goMv Z Z (J (KJ Z Z Z) (AD (Ah Z (fun h18=>?_) (fun h18=>?_)))))))))
  ·refine AC (AE (J (BO Z Z Bt Z Z Z) (J (BZ (clone_p S[k] (by omega) (by omega) (by omega)) Z Z) (V (Bi Z Z Z Z Z Z Z C8) (AB Z Z (AD (A8 ?_)))))));exact ⟨_,[],[],A7 Z,Z,Z,by rw [NN hk1 hk h18],Z⟩
  ·refine A3 (AE (J (Ay Z Z (AT (k+1) (by omega)) Z) (goMv Z Z (AD ?_))));exact ⟨k+1,⟨by show k+1≤_;omega,XZ hk1 hk h18⟩,by show S.length - (k+1)<S.length - k;omega,A1 hF [2] Z (Z) ⟨Z,Z,Z,Z,Z,trivial⟩⟩
 ·refine BF (AC (AE (J (Fe EY pl55 Z Z Z) (Vf 22 (Al AY) Z Xh (V (Bi Z Z Z Z Z Z Z C8) (AB Z Z (AD (A8 ?_))))))));exact ⟨_,[],[],A7 Z,Z,Z,by rw [av (by rw [Ξ (by have h:=h12;omega)] at hk;exact hk)],Z⟩
theorem WE {l:List AK} (hn:(l.map AK.id).Nodup) {x y:AK} (hx:x∈l) (hy:y∈l) (h:x.id=y.id):x=y:=by
 induction l with
 | nil=>cases hx
 | cons a l ih=>
  rw [ωm,φa] at hn;rcases Φ.1 hx with e1 | hx'<;>rcases Φ.1 hy with e2 | hy'
  ·rw [e1,e2]
  ·exact absurd (ϖ.2 ⟨y,hy',by rw [←h,e1]⟩) hn.1
  ·exact absurd (ϖ.2 ⟨x,hx',by rw [h,e2]⟩) hn.1
  ·exact ih hn.2 hx' hy'
theorem DL {l:List AK} (h:Fk l=0):(l.map AK.id).Nodup:=by
 have h0:=W4.1 h;rw [List.Nodup,ωy,ωq];intro i j hi hj hij e;have:=h0 j (ς.2 hj);unfold OU at this;rw [CI AY hj] at this
 split at this
 ·contradiction
 ·split at this
  ·cases this
  ·rename_i hn
   exact hn (.inl (NE hj hij e))
theorem own_p (p:Prb) (h:Sml p):AO Tryz.prog 13 [.d (CB p)] (CB p):=by
 obtain ⟨g1,g2,g3⟩:=h;refine BB Tryz.func13 Z Z Tryz.ntmps13 Z Z Z fun F hF=>(AC (AE (V (CE 1 Z Z Z Z Z Z Z) (V (CO 2 YX Z Z Z Z) (AD (AC (AE (V (CO 3 YX Z Z Z Z) ?_))))))));refine AD (AC (AC (EW 3 0 0 901 Ps Z Z Z Z Z Z Z (AE (AB Z Z (AD (A5 (B6 (α:=List A2) (fun acc=>⟨51,[(1,(.ptr 1 0 0)),(2,(.ptr 2 0 0)),(3,(.ptr 3 0 0)),(4,(.d (AF (acc.length:Int))))],[(901,[.rowD 88 7 (acc.map CZ)]),(1,[Mo 25 p]),(2,[.blk 39 [Ib,Ib]]),(3,[.blk 39 [.own 901 0 acc.length,Ib]])]⟩) (fun acc=>acc=p.ro.take acc.length∧acc.length≤p.ro.length) (fun acc=>p.ro.length - acc.length) ([]) (⟨by simp,Γ _⟩) (A1 hF [901,1,2,3] Z Z ⟨Z,Z,Z,Z,trivial⟩) ?_))))))));rintro acc ⟨hI,hk0⟩;refine AC ?_;refine AC (AE (goMv Z Z (J (A4 Z QT Z Z Z) (J (A9 Z Z Z on22 Z) (J (Bz Z Tryz.underlying22 Z) (J (BT Z Z Z) (AD (Ah Z (fun h10=>?_) (fun h10=>?_)))))))))
 ·have hk1:acc.length<p.ro.length:=Bf h10;refine A3 (AC (A5 (Cc [[],[0],[],[2],[],[2,3,4],[2,3,4,5],[2,3,4,5,6],[2,3,4,5,6,7],[],[9],[],[9,10,11],[9,10,11,12],[9,10,11,12,13],[2,3,4,5,6,7,8,9,10,11,12,13,14],[2,3,4,5,6,7,8,9,10,11,12,13,14,15],[0,1,2,3,4,5,6,7,8,9,10,11,12,13,14,15,16],[0,1,2,3,4,5,6,7,8,9,10,11,12,13,14,15,16,17],[0,1,2,3,4,5,6,7,8,9,10,11,12,13,14,15,16,17,18]] mixed Z (Cj (AI [3] [] Z Z (fun _=>AG (A4 Z Dr Z Z Z)) (As [13] Z Z (fun _=>AG (A9 Z Z Z Mt Z)) (AI [1] [] Z Z (fun _=>AG (A4 Z QT Z Z Z)) ?_)))))));refine As [15] Z Z (fun _=>AG (A9 Z Z Z on22 Z)) (AI [4] [] Z Z (fun _=>AG (Ai Z Z)) (AI [16,17] [] Z Z (fun _=>AG (Bb (acc.length) Z Z (Z) (Ag hk1) Tryz.underlying22 Z sz100 Z)) (AI [18] [] Z Z (fun _=>AG (Zcq Z fi100_0 Z Z Z)) (AI [19] [] Z Z (fun _=>AG (GW Z Z rw98 Z)) (AI [20] [] Z Z (fun _=>AG (BZ (Zl p.ro[acc.length].r) Z Z)) (AI [1] [] Z Z (fun _=>AG (A4 Z QT Z Z Z)) (As [22] Z Z (fun _=>AG (A9 Z Z Z on22 Z)) (AI [4] [] Z Z (fun _=>AG (Ai Z Z)) ?_))))))));refine AI [23,24] [] Z Z (fun _=>AG (Bb (acc.length) Z Z (Z) (Ag hk1) Tryz.underlying22 Z sz100 Z)) (AI [25] [] Z Z (fun _=>AG (Zcd Z fi100_1 Z Z Z)) (AI [26] [] Z Z (fun _=>AG (Cm Z Z Kg Z)) (AI [21,27] [] Z Z (fun _=>AG (Fe Qn pl88 Z Z Z)) (Fo [28] [50] [(29,_)] Z Z (fun _=>Fq (Dz 50 Ps Z Z Z Z Z Z Z Z)) (.inr ⟨29,_,Z,Z,Z,Z,Z⟩) Z Z Z Z Z (C1 17 Z Z Z (Ae 18 Z Z (V (I8 (acc) ([p.ro[acc.length]]) Z Z Z Z Z Z Z Z Ps (by simp only [Ψ];omega) Z Z Z Z) (AD ⟨Z,?_⟩))))))));refine Ae 19 Z Z (J (A4 Z Dr Z Z Z) (AD ⟨Z,?_⟩));refine Ae 20 Z Z (V (Bi Z Z Z Z Z Z Z sz36) (AD ⟨Z,?_⟩));refine C6 (AE (goMv Z Z (J (Ay Z Z (Qr acc p.ro[acc.length] (by omega)) Z) (AB Z Z (AD ?_)))));exact ⟨acc++ [p.ro[acc.length]],⟨Ls hI hk1,by rw [Θ];show acc.length+1≤_;omega⟩,by rw [Θ];show p.ro.length - (acc.length+1)<p.ro.length - acc.length;omega,A1 hF [901,1,2,3] Z (Z) ⟨Z,Z,Z,Z,trivial⟩⟩
 ·refine BF (AC (AC ?_));have hacc:=Pm hI (fun h=>h10 (by omega));refine Dy (ys:=p.ro.map CZ) 3 0 0 901 Z Z Z (by simp) (by rw [hacc];exact Ξ (by simp)) Z Z Z Z Z Z (EW 3 0 1 902 OK Z Z Z Z Z Z Z (AE (AB Z Z (AD (A5 (B6 (α:=List AK) (fun acc2=>⟨51,[(1,(.ptr 1 0 0)),(2,(.ptr 2 0 0)),(3,(.ptr 3 0 0)),(5,(.d (AF (acc2.length:Int))))],[(902,[.rowD 55 6 (acc2.map Al)]),(1,[Mo 25 p]),(2,[.blk 39 [Ib,Ib]]),(3,[.blk 39 [.d (.sl none (p.ro.map CZ)),.own 902 0 acc2.length]])]⟩) (fun acc2=>acc2=p.it.take acc2.length∧acc2.length≤p.it.length) (fun acc2=>p.it.length - acc2.length) ([]) (⟨by simp,Γ _⟩) (A1 hF [902,1,2,3] Z Z ⟨Z,Z,Z,Z,trivial⟩) ?_))))));rintro acc2 ⟨hJ,hk2⟩;refine AC ?_;refine AC (AE (goMv Z Z (J (A4 Z JH Z Z Z) (J (A9 Z Z Z UI Z) (J (Bz Z Tryz.underlying23 Z) (J (BT Z Z Z) (AD (Ah Z (fun h36=>?_) (fun h36=>?_)))))))))
  ·have hk3:acc2.length<p.it.length:=Bf h36;refine A3 ?_;refine AC (A5 (Cc [[],[0],[],[2],[],[2,3,4],[2,3,4,5],[2,3,4,5,6],[2,3,4,5,6,7],[0,1,2,3,4,5,6,7,8],[0,1,2,3,4,5,6,7,8,9],[0,1,2,3,4,5,6,7,8,9,10]] mixed Z (Cj (AI [3] [] Z Z (fun _=>AG (A4 Z E6 Z Z Z)) (As [39] Z Z (fun _=>AG (A9 Z Z Z Kf Z)) (AI [1] [] Z Z (fun _=>AG (A4 Z JH Z Z Z)) (As [41] Z Z (fun _=>AG (A9 Z Z Z UI Z)) (AI [5] [] Z Z (fun _=>AG (Ai Z Z)) ?_))))))));have hgi:=g3 _ (θ hk3);refine AI [42,43] [] Z Z (fun _=>AG (Bb (acc2.length) Z Z (Z) (Ag hk3) Tryz.underlying23 Z sz93 Z)) (AI [44] [] Z Z (fun _=>AG (GW Z Z rw93 Z)) (AI [45] [] Z Z (fun _=>AG (BZ (XP p.it[acc2.length] (by omega) (by omega) (by omega)) Z Z)) (Fo [46] [51] [(47,_)] Z Z (fun _=>Fq (Dz 51 OK Z Z Z Z Z Z Z Z)) (.inr ⟨47,_,Z,Z,Z,Z,Z⟩) Z Z Z Z Z (C1 9 Z Z Z (Ae 10 Z Z (V (I8 (acc2) ([p.it[acc2.length]]) Z Z Z Z Z Z Z Z OK (by simp only [Ψ];omega) Z Z Z Z) (AD ⟨Z,?_⟩)))))));refine Ae 11 Z Z (J (A4 Z E6 Z Z Z) (AD ⟨Z,?_⟩));refine Ae 12 Z Z (V (Bi Z Z Z Z Z Z Z sz37) (AD ⟨Z,?_⟩));refine C6 (AE (goMv Z Z (J (Ay Z Z (Qr acc2 p.it[acc2.length] (by omega)) Z) (AB Z Z (AD ?_)))));exact ⟨acc2++ [p.it[acc2.length]],⟨Ls hJ hk3,by rw [Θ];show acc2.length+1≤_;omega⟩,by rw [Θ];show p.it.length - (acc2.length+1)<p.it.length - acc2.length;omega,A1 hF [902,1,2,3] Z (Z) ⟨Z,Z,Z,Z,trivial⟩⟩
  ·refine BF (AC ?_);have hacc2:=Pm hJ (fun h=>h36 (by omega));refine Dy (ys:=p.it.map Al) 3 0 1 902 Z Z Z (by simp) (by rw [hacc2];exact Ξ (by simp)) Z Z Z Z Z Z (AE (J (BO Z Z B8 Z Z Z) (V (Bi Z Z Z Z Z Z Z sz39) (AD (A8 ?_)))));exact ⟨_,[],[],A7 Z,Z,Z,Z,Z⟩
def Fc (ids l:List Int) (k:Nat):Int:=if l.getD k 0∉ids then 9 else if l.getD k 0∈l.take k then 7 else 0
def Mf (ids l:List Int):Int:=Bg ((List.range l.length).map (Fc ids l))
def C3 (p:Prb) (l:List Int):Int:=if Az p≠0 then Az p else Mf (p.it.map AK.id) l
theorem Pu {ids l:List Int} (h:Mf ids l=0):l.Nodup∧∀x∈l,x∈ids:=by
 have h0:=W4.1 h;refine ⟨ωq.2 fun i j hi hj hij e=>?_,fun x hx=>?_⟩
 ·have:=h0 j (ς.2 hj);unfold Fc at this;rw [CI 0 hj] at this
  split at this
  ·cases this
  ·split at this
   ·cases this
   ·rename_i hn;exact hn (by rw [←e,χe];exact ⟨i,by omega,Z⟩)
 ·obtain ⟨j,hj,rfl⟩:=ωu hx;have:=h0 j (ς.2 hj);unfold Fc at this;rw [CI 0 hj] at this
  split at this
  ·cases this
  ·rename_i hn;exact Decidable.not_not.1 hn
theorem Uf (p:Prb) (l:List Int) (hb:E7 p) (hl:l.length≤100000) (hE:C3 p l≠0):AO Tryz.prog 159 [.d (CB p),.d (.sl none (l.map AF))] (.tup [.raw (.map none),AF (C3 p l)]):=by
 have hck:=GE p hb;have hb2:=hb.2.1
 by_cases h0:Az p=0
 ·have hnd:=DL (O3 h0).2.1;rw [h0] at hck;have hC:C3 p l=Mf (p.it.map AK.id) l:=ϑ (fun h=>h h0);rw [hC] at hE⊢
  obtain ⟨E0,hE0⟩:∃e,Mf (p.it.map AK.id) l=e:=⟨_,Z⟩
  rw [hE0] at hE⊢;refine BB Tryz.func159 Z Z Tryz.ntmps159 Z Z Z fun F hF=>(AC (AE (V (CE 1 Z Z Z Z Z Z Z) (AB Z Z (AB Z Z (AD (AC (AC ?_))))))));refine AE (J (BO Z Z B8 Z Z Z) (J (BZ (hck) Z Z) (AB Z Z (AD (AC (AE (goMv Z Z (J (EA Z Z Z) ?_))))))));refine AD (Db Z ((by decide)) (A3 (AC (AE (V (Ph 2 Z Z Z Z) (AB Z Z (AD (AC ?_))))))));refine AC (AE (J (A4 Z E6 Z Z Z) (J (A9 Z Z Z Kf Z) (J (Bz Z Tryz.underlying37 Z) (goMv Z Z (AD (A5 (B6 (α:=Nat) (fun k=>⟨50,[(1,.d (.sl none (l.map AF))),(7,(.map 2 0)),(20,(.d (.sl none (p.it.map Al)))),(21,(.d (AF (p.it.length:Int)))),(22,(.d (AF (k:Int))))],[(2,[BM AF Ak (BA ((p.it.take k).map AK.id))])]⟩) (fun k=>k≤p.it.length) (fun k=>p.it.length - k) (0) (Γ _) (A1 hF [2] Z Z ⟨Z,Z,Z,Z,Z,trivial⟩) ?_))))))));rintro k hk0;refine AC (AE (J (BT Z Z Z) (AD (AC (Ah Z (fun h23=>?_) (fun h23=>?_))))))
  ·have hk1:k<p.it.length:=Bf h23;refine A3 (AC (A5 (AC (AE ?_))));have hnk:p.it[k].id∉(p.it.take k).map AK.id:=fun h=>by rw [List.Nodup,ωy,ωq] at hnd;obtain ⟨x,hx,e⟩:=ϖ.1 h;obtain ⟨j,hj,rfl⟩:=χe.1 hx;exact hnd j k (by omega) hk1 (by omega) e
   refine J (Bb (k) Z Z (Z) (Ag hk1) Tryz.underlying37 Z C8 Z) (J (GW Z Z Bt Z) (V (CO 3 EY Z Z Z Z) (V (Bi Z Z Z Z Z Z Z C8) (AD (AE ?_)))));refine goMv Z Z (J (A4 Z MV Z Z Z) (J (A9 Z Z Z Aq Z) (V (T9 (BA ((p.it.take k).map AK.id)) (p.it[k].id) (true) Z Z Z E9 HP Z Z) (AD (AE (J (Ay Z Z (AT (k+1) (by omega)) Z) (goMv Z Z (AD ?_))))))));exact ⟨k+1,by show k+1≤_;omega,by show p.it.length - (k+1)<p.it.length - k;omega,A1 hF [2] Z (by rw [DT hk1,←c7 hnk];rfl) ⟨Z,Z,Z,Z,Z,trivial⟩⟩
  ·refine BF (AC ?_);rw [Ξ (show p.it.length≤k by have h:=h23;omega)];refine AE (V (Ph 4 Z Z Z Z) (AB Z Z (AD ?_)));refine AC (AC (AE (goMv Z Z (J (Bz Z Tryz.underlying28 Z) (goMv Z Z (AD (A5 (B6 (α:=Nat) (fun k=>⟨50,[(7,(.map 2 0)),(10,(.map 4 0)),(31,(.d (.sl none (l.map AF)))),(32,(.d (AF (l.length:Int)))),(33,(.d (AF (k:Int))))],[(2,[BM AF Ak (BA (p.it.map AK.id))]),(4,[BM AF Ak (BA (l.take k))])]⟩) (fun k=>k≤l.length∧E0=Bg (((List.range l.length).drop k).map (Fc (p.it.map AK.id) l))) (fun k=>l.length - k) (0) (⟨Γ _,hE0.symm⟩) (A1 hF [2,4] Z Z ⟨Z,Z,Z,Z,Z,trivial⟩) ?_))))))));rintro k ⟨hk0,hk⟩;refine AC (AE (J (BT Z Z Z) (AD (AC (Ah Z (fun h34=>?_) (fun h34=>?_))))))
   ·have hk1:k<l.length:=Bf h34;refine A3 (AC (A5 (AC (AE ?_))));have hEc:=EO hk1 hk;have hgd:=CI 0 hk1;refine J (Bb (k) Z Z (Z) (Ag hk1) Tryz.underlying28 Z BD Z) (J (Cm Z Z Aq Z) ?_);refine AB Z Z (AD (AC (A5 (AC (AE (goMv Z Z (goMv Z Z (J (HQ (BA (p.it.map AK.id)) (l[k]) (false) _ Z Z Z E9 HP T3 Z Z) ?_))))))));rw [W7];refine J (Nz Z Z) (AB Z Z (AD (Ah Z (fun h37=>?_) (fun h37=>?_))))
    ·refine AC (AE (AB Z Z (AB Z Z (AD (A8 ?_)))));exact ⟨_,[],[],A7 Z,Z,Z,by rw [hEc.2 9 (by unfold Fc;rw [hgd,κ (by simp_all)]) (by decide)],Z⟩
    ·refine AC (AE (goMv Z Z (goMv Z Z (J (HQ (BA (l.take k)) (l[k]) (false) _ Z Z Z E9 HP T3 Z Z) ?_))));rw [W7];refine AB Z Z (AD (Ah Z (fun h42=>?_) (fun h42=>?_)))
     ·refine AC (AE (AB Z Z (AB Z Z (AD (A8 ?_)))));exact ⟨_,[],[],A7 Z,Z,Z,by rw [hEc.2 7 (by unfold Fc;rw [hgd,ϑ (by simp_all),κ (by simp_all)]) (by decide)],Z⟩
     ·refine A3 ?_;refine AE (goMv Z Z (goMv Z Z (V (T9 (BA (l.take k)) (l[k]) (true) Z Z Z E9 HP Z Z) (AD (AE (J (Ay Z Z (AT (k+1) (by omega)) Z) (goMv Z Z (AD ?_))))))));exact ⟨k+1,⟨by show k+1≤_;omega,hEc.1 (by unfold Fc;rw [hgd,ϑ (by simp_all),ϑ (by simp_all)])⟩,by show l.length - (k+1)<l.length - k;omega,A1 hF [2,4] Z (by rw [φ hk1,←c7 (by simp_all)];rfl) ⟨Z,Z,Z,Z,Z,trivial⟩⟩
   ·refine BF (AC (AE (goMv Z Z (AB Z Z (AB Z Z (AD (A8 ?_)))))));exact absurd (by rw [hk,List.drop_of_length_le (by have h:=h34;simp only [ωf];omega)];rfl) hE
 ·have hC:C3 p l=Az p:=κ h0;rw [hC];refine BB Tryz.func159 Z Z Tryz.ntmps159 Z Z Z fun F hF=>(AC (AE (V (CE 1 Z Z Z Z Z Z Z) (AB Z Z (AB Z Z (AD (AC (AC ?_))))))));refine AE (J (BO Z Z B8 Z Z Z) (J (BZ (hck) Z Z) (AB Z Z (AD (AC (AE (goMv Z Z (J (EA Z Z Z) ?_))))))));refine AD (D9 Z ((ωi h0)) (AC (AE (goMv Z Z (AB Z Z (AB Z Z (AD (A8 ?_))))))));exact ⟨_,[],[],A7 Z,Z,Z,Z,Z⟩
theorem YB (p:Prb) (l:List Int) (hb:E7 p) (hl:l.length≤100000) (hE:C3 p l=0):AN Tryz.prog 159 [.d (CB p),.d (.sl none (l.map AF))] [] fun r H'=>r= .tup [.map 4 0,.d (AF 0)]∧H'=[(4,[BM AF Ak (BA l)])]:=by
 have hck:=GE p hb;have hb2:=hb.2.1
 have h0:Az p=0:=by
  unfold C3 at hE;split at hE
  ·exact hE
  ·rename_i h;simpa using h
 have hnd:=DL (O3 h0).2.1;rw [h0] at hck;have hC:C3 p l=Mf (p.it.map AK.id) l:=ϑ (fun h=>h h0);rw [hC] at hE;refine BB Tryz.func159 Z Z Tryz.ntmps159 Z Z Z fun F hF=>(AC (AE (V (CE 1 Z Z Z Z Z Z Z) (AB Z Z (AB Z Z (AD (AC (AC ?_))))))));refine AE (J (BO Z Z B8 Z Z Z) (J (BZ (hck) Z Z) (AB Z Z (AD (AC (AE (goMv Z Z (J (EA Z Z Z) ?_))))))));refine AD (Db Z ((by decide)) (A3 (AC (AE (V (Ph 2 Z Z Z Z) (AB Z Z (AD (AC ?_))))))));refine AC (AE (J (A4 Z E6 Z Z Z) (J (A9 Z Z Z Kf Z) (J (Bz Z Tryz.underlying37 Z) (goMv Z Z (AD (A5 (B6 (α:=Nat) (fun k=>⟨50,[(1,.d (.sl none (l.map AF))),(7,(.map 2 0)),(20,(.d (.sl none (p.it.map Al)))),(21,(.d (AF (p.it.length:Int)))),(22,(.d (AF (k:Int))))],[(2,[BM AF Ak (BA ((p.it.take k).map AK.id))])]⟩) (fun k=>k≤p.it.length) (fun k=>p.it.length - k) (0) (Γ _) (A1 hF [2] Z Z ⟨Z,Z,Z,Z,Z,trivial⟩) ?_))))))));rintro k hk0;refine AC (AE (J (BT Z Z Z) (AD (AC (Ah Z (fun h23=>?_) (fun h23=>?_))))))
 ·have hk1:k<p.it.length:=Bf h23;refine A3 (AC (A5 (AC (AE ?_))));have hnk:p.it[k].id∉(p.it.take k).map AK.id:=fun h=>by rw [List.Nodup,ωy,ωq] at hnd;obtain ⟨x,hx,e⟩:=ϖ.1 h;obtain ⟨j,hj,rfl⟩:=χe.1 hx;exact hnd j k (by omega) hk1 (by omega) e
  refine J (Bb (k) Z Z (Z) (Ag hk1) Tryz.underlying37 Z C8 Z) (J (GW Z Z Bt Z) (V (CO 3 EY Z Z Z Z) (V (Bi Z Z Z Z Z Z Z C8) (AD (AE ?_)))));refine goMv Z Z (J (A4 Z MV Z Z Z) (J (A9 Z Z Z Aq Z) (V (T9 (BA ((p.it.take k).map AK.id)) (p.it[k].id) (true) Z Z Z E9 HP Z Z) (AD (AE (J (Ay Z Z (AT (k+1) (by omega)) Z) (goMv Z Z (AD ?_))))))));exact ⟨k+1,by show k+1≤_;omega,by show p.it.length - (k+1)<p.it.length - k;omega,A1 hF [2] Z (by rw [DT hk1,←c7 hnk];rfl) ⟨Z,Z,Z,Z,Z,trivial⟩⟩
 ·refine BF (AC ?_);rw [Ξ (show p.it.length≤k by have h:=h23;omega)];refine AE (V (Ph 4 Z Z Z Z) (AB Z Z (AD ?_)));refine AC (AC (AE (goMv Z Z (J (Bz Z Tryz.underlying28 Z) (goMv Z Z (AD (A5 (B6 (α:=Nat) (fun k=>⟨50,[(7,(.map 2 0)),(10,(.map 4 0)),(31,(.d (.sl none (l.map AF)))),(32,(.d (AF (l.length:Int)))),(33,(.d (AF (k:Int))))],[(2,[BM AF Ak (BA (p.it.map AK.id))]),(4,[BM AF Ak (BA (l.take k))])]⟩) (fun k=>k≤l.length) (fun k=>l.length - k) (0) (Γ _) (A1 hF [2,4] Z Z ⟨Z,Z,Z,Z,Z,trivial⟩) ?_))))))));rintro k hk0;refine AC (AE (J (BT Z Z Z) (AD (AC (Ah Z (fun h34=>?_) (fun h34=>?_))))))
  ·have hk1:k<l.length:=Bf h34;refine A3 (AC (A5 (AC (AE ?_))));have hz:=W4.1 hE k (ς.2 hk1);have hgd:=CI 0 hk1;have hin:l[k]∈p.it.map AK.id:=(Pu hE).2 _ (θ hk1);have hnk:l[k]∉l.take k:=fun h=>by have hn2:=(Pu hE).1;rw [List.Nodup,ωq] at hn2;obtain ⟨j,hj,e⟩:=χe.1 h;exact hn2 j k (by omega) hk1 (by omega) e
   refine J (Bb (k) Z Z (Z) (Ag hk1) Tryz.underlying28 Z BD Z) (J (Cm Z Z Aq Z) ?_);refine AB Z Z (AD (AC (A5 (AC (AE (goMv Z Z (goMv Z Z (J (HQ (BA (p.it.map AK.id)) (l[k]) (false) _ Z Z Z E9 HP T3 Z Z) ?_))))))));rw [W7];refine J (Nz Z Z) (AB Z Z (AD (Ah Z (fun h37=>?_) (fun h37=>?_))))
   ·refine AC (AE (AB Z Z (AB Z Z (AD (A8 ?_)))));exact absurd hin (by simp_all)
   ·refine AC (AE (goMv Z Z (goMv Z Z (J (HQ (BA (l.take k)) (l[k]) (false) _ Z Z Z E9 HP T3 Z Z) ?_))));rw [W7];refine AB Z Z (AD (Ah Z (fun h42=>?_) (fun h42=>?_)))
    ·refine AC (AE (AB Z Z (AB Z Z (AD (A8 ?_)))));exact absurd hnk (by simp_all)
    ·refine A3 ?_;refine AE (goMv Z Z (goMv Z Z (V (T9 (BA (l.take k)) (l[k]) (true) Z Z Z E9 HP Z Z) (AD (AE (J (Ay Z Z (AT (k+1) (by omega)) Z) (goMv Z Z (AD ?_))))))));exact ⟨k+1,by show k+1≤_;omega,by show l.length - (k+1)<l.length - k;omega,A1 hF [2,4] Z (by rw [φ hk1,←c7 hnk];rfl) ⟨Z,Z,Z,Z,Z,trivial⟩⟩
  ·refine BF (AC (AE (goMv Z Z (AB Z Z (AB Z Z (AD (A8 ?_)))))));exact ⟨_,[4],_,A7 Z,Z,Z,Z,by rw [Ξ (show l.length≤k by have h:=h34;omega)]<;>rfl⟩
theorem DM (x:AP×Int) (l:List (AP×Int)) (r:AP):Ap (x::l) r=(if x.1=r then x.2 else 0)+Ap l r:=by simp [Ap]
theorem Sp {l m:List (AP×Int)} (h:l.Perm m) (r:AP):Ap l r=Ap m r:=by
 induction h with
 | nil=>rfl
 | cons x _ ih=>rw [DM,DM,ih]
 | swap x y l=>simp only [DM];omega
 | trans _ _ ih1 ih2=>rw [ih1,ih2]
theorem Fa {l:List (AP×Int)} {r:AP} (h:r∉l.map Prod.fst):Ap l r=0:=by
 induction l with
 | nil=>rfl
 | cons x l ih=>
  rw [ωm,Φ] at h;rw [DM,ϑ (fun e=>h (.inl e.symm)),ih (fun h'=>h (.inr h'))];rfl
theorem Uc {l:List (AP×Int)} (hn:(l.map Prod.fst).Nodup) {r:AP} {v:Int} (h:(r,v)∈l):Ap l r=v:=by
 induction l with
 | nil=>cases h
 | cons x l ih=>
  rw [ωm,φa] at hn;rw [DM];rcases Φ.1 h with h | h
  ·subst h;rw [κ Z,Fa hn.1];show v+0=v;omega
  ·rw [ϑ (fun e=>hn.1 (by rw [e];exact ϖ.2 ⟨_,h,Z⟩)),ih hn.2 h];omega
theorem So (c:List (AP×Int)) (r:AP):Ap (sumL c) r=Ap c r:=by
 by_cases h:r∈(sumL c).map Prod.fst
 ·obtain ⟨⟨r',v⟩,hx,e⟩:=ϖ.1 h;have e:r'=r:=e;subst e;rw [Uc (Ez c) hx,((HV c r' v).1 hx).2]
 ·rw [Fa h,Fa fun h'=>h ((II c r).2 h')]
theorem lft_sub {α β:Type} {m:List (α×β)} {B seen:List Nat} {x:α×β} (h:x∈Bs m B seen):x∈m:=by
 unfold Bs at h;obtain ⟨y,hy,rfl⟩:=ϖ.1 h;exact (List.of_mem_zip (a:=y.1) (b:=y.2) (ωa.1 hy).1).1
theorem Vy {α β:Type} {m:List (α×β)} {B seen:List Nat}:(Bs m B seen).length≤m.length:=by
 unfold Bs;rw [ψ];refine ωe (ωh _ _) ?_;rw [List.length_zip];omega
def Lb (l:List AK) (r:AP):Int:=(l.map fun i=>Ap (ctr i) r).sum
theorem Wj (l:List AK) (i:AK) (r:AP):Lb (l++ [i]) r=Lb l r+Ap (ctr i) r:=by simp [Lb]
def inB (l:List Int) (i:AK):Bool:=decide (i.id∈l)
theorem SP {l:List AK} (h:Fk l=0):∀i∈l,BH i=0:=fun i hi=>by
 have h0:=W4.1 h;obtain ⟨j,hj,rfl⟩:=ωu hi;have:=h0 j (ς.2 hj);unfold OU at this;rw [CI AY hj] at this
 split at this
 ·contradiction
 ·rename_i hn;simpa using hn
theorem MS {i:AK} (h:BH i=0) (r:AP): -Mx≤Ap (ctr i) r∧Ap (ctr i) r≤Mx:=by
 have hb:=(Hw h).2.2.2.2.2.2.2.2;unfold TE at hb
 split at hb
 ·cases hb
 ·rename_i hn
  by_cases hr:r∈(sumL (ctr i)).map Prod.fst
  ·obtain ⟨⟨r',v⟩,hx,e⟩:=ϖ.1 hr;have e:r'=r:=e;subst e;have hv:=((HV _ _ _).1 hx).2;rw [←hv];exact Decidable.not_not.1 fun hh=>hn ⟨_,hx,hh⟩
  ·rw [Fa fun h'=>hr ((II _ r).2 h')];simp only [Mx];omega
theorem bnd_E {i:AK} (h:BH i=0):Qm (sumL (ctr i)):=fun x hx=>by
 have hv:=((HV (ctr i) x.1 x.2).1 hx).2;rw [hv];simpa [Mx] using MS h x.1
theorem len_E {i:AK} (h:BH i=0):(sumL (ctr i)).length≤1280:=by
 have hb:=(Hw h).1;have h1:=hb.po;have h2:=hb.pa;have:=HX (ctr i);rw [JJ] at this;omega
theorem M7 {l:List AK} (h:∀i∈l,BH i=0) (hl:l.length≤1000) (r:AP): -1000000000000000000≤Lb l r∧Lb l r≤1000000000000000000:=by
 have:=Od (l:=l) (f:=fun i=>Ap (ctr i) r) (B:=1000000000000000) (fun i hi=>by simpa [Mx] using MS (h i hi) r) 1000 hl (by omega);unfold Lb;omega
def Tf (p:Prb) (l:List Int):List A2:=p.ro.map fun x=>⟨x.r,x.n+Lb (p.it.filter (inB l)) x.r⟩
theorem K4 {l:List A2} (h:E1 l=0):∀x∈l,-4000000000000000≤x.n∧x.n≤4000000000000000:=fun x hx=>by
 have h0:=W4.1 h;obtain ⟨j,hj,rfl⟩:=ωu hx;have:=h0 j (ς.2 hj);unfold OO at this;rw [CI DN hj] at this
 split at this
 ·contradiction
 ·split at this
  ·cases this
  ·rename_i hn;simp only [Mx] at hn;omega
theorem Sa {α:Type} {p:α ->Bool} {l:List α} {k:Nat} (hk:k<l.length):(l.take (k+1)).filter p=(l.take k).filter p++(if p l[k] then [l[k]] else []):=GO hk
theorem Yb (p:Prb) (l:List Int) (hb:E7 p) (hl:l.length≤100000) (h1000:p.it.length≤1000):AO Tryz.prog 113 [.d (CB p),.d (.sl none (l.map AF))] (.tup [.sl none ((if C3 p l=0 then Tf p l else []).map CZ),AF (C3 p l)]):=by
 by_cases hE:C3 p l=0
 ·have hc:=(YB p l hb hl hE).by [(4,40)] rfl
  have h0:Az p=0:=by
   unfold C3 at hE;split at hE
   ·exact hE
   ·rename_i h;simpa using h
  have hck:=SP (O3 h0).2.1;have hram:=K4 (O3 h0).1;have hb1:=hb.1;rw [κ hE,hE];refine BB Tryz.func113 Z Z Tryz.ntmps113 Z Z Z fun F hF=>(AC (AE (V (CE 1 Z Z Z Z Z Z Z) (AB Z Z ?_))));refine AB Z Z (AD (AC (AE (J (BO Z Z B8 Z Z Z) (goMv Z Z (V (Eu hc Z [40] ⟨Z,trivial⟩ Z Z Z Z Z Z Z Z Z) (goMv Z Z (J (Cu Z Z Z) ?_))))))));refine J (Cu Z Z Z) (AB Z Z (AB Z Z (AD (AC (AC (AE (goMv Z Z (J (EA Z Z Z) ?_))))))));refine AD (Db Z ((by decide)) (A3 (AC (AE (V (Ph 2 Z Z Z Z) (AB Z Z (AD (AC ?_))))))));refine AC (AE (J (A4 Z E6 Z Z Z) (J (A9 Z Z Z Kf Z) (J (Bz Z Tryz.underlying37 Z) (goMv Z Z (AD (A5 (B6 (α:=Nat×List (AP×Int)) (fun q=>⟨76,[(2,(.ptr 1 0 0)),(6,(.map 40 0)),(8,(.map 2 0)),(27,(.d (.sl none (p.it.map Al)))),(28,(.d (AF (p.it.length:Int)))),(29,(.d (AF (q.1:Int))))],[(1,[Mo 39 p]),(40,[BM AF Ak (BA l)]),(2,[BM C4 AF q.2])]⟩) (fun q=>q.1≤p.it.length∧∀r,A6 q.2 r 0=Lb ((p.it.take q.1).filter (inB l)) r) (fun q=>p.it.length - q.1) ((0,[])) (⟨Γ _,fun _=>rfl⟩) (A1 hF [1,40,2] Z Z ⟨Z,Z,Z,Z,Z,Z,trivial⟩) ?_))))))));rintro ⟨k,M⟩ ⟨hk0,hM⟩;dsimp only at hk0 hM⊢;refine AC (AE (J (BT Z Z Z) (AD (AC (Ah Z (fun h30=>?_) (fun h30=>?_))))))
  ·have hk1:k<p.it.length:=Bf h30;refine A3 (AC (A5 (AC (AE ?_))));have hci:=hck _ (θ hk1);have hs:=(Pn p.it[k] (Hw hci).1).by [(2,41)] rfl;have hEb:=bnd_E hci;have hEl:=len_E hci;have hEs:=fun r=>So (ctr p.it[k]) r;have hEn:=Ez (ctr p.it[k]);have hT:=M7 (l:=(p.it.take k).filter (inB l)) (fun i hi=>hck i (ψc (ωa.1 hi).1)) (ωe (ωh _ _) (by rw [Ω];omega))
   obtain ⟨E,hEE⟩:∃E,sumL (ctr p.it[k])=E:=⟨_,Z⟩
   rw [hEE] at hs hEb hEl hEs hEn;refine J (Bb (k) Z Z (Z) (Ag hk1) Tryz.underlying37 Z C8 Z) (J (GW Z Z Bt Z) (V (CO 3 EY Z Z Z Z) ?_));refine V (Bi Z Z Z Z Z Z Z C8) (AD (AC (AC (AE (goMv Z Z (J (A4 Z MV Z Z Z) (J (A9 Z Z Z Aq Z) (J (HQ (BA l) (p.it[k].id) (false) _ Z Z Z E9 HP T3 Z Z) ?_))))))));rw [W7];refine J (Nz Z Z) (AD (Ah Z (fun h37=>?_) (fun h37=>?_)))
   ·refine BF (AE (J (Ay Z Z (AT (k+1) (by omega)) Z) (goMv Z Z (AD ?_))));exact ⟨(k+1,M),⟨by show k+1≤_;omega,fun r=>by show A6 M r 0=Lb ((p.it.take (k+1)).filter (inB l)) r;rw [Sa hk1,ϑ (by unfold inB;simpa using h37),ωk];exact hM r⟩,by show p.it.length - (k+1)<p.it.length - k;omega,A1 hF [1,40,2] Z (Z) ⟨Z,Z,Z,Z,Z,Z,trivial⟩⟩
   ·refine A3 (AC (AE (J (BO Z Z Bt Z Z Z) (V (Eu hs Z [41] ⟨Z,trivial⟩ Z Z Z Z Z Z Z Z Z) (V (Fx 4 Z Z Z Bv Z Z Z Z) (AD (A5 (B6 (α:=List Nat×List (AP×Int)) (fun q=>⟨76,[(2,(.ptr 1 0 0)),(6,(.map 40 0)),(8,(.map 2 0)),(27,(.d (.sl none (p.it.map Al)))),(28,(.d (AF (p.it.length:Int)))),(29,(.d (AF (k:Int)))),(40,(.ptr 4 0 0))],[(4,[.iter 41 0 E.length q.1]),(41,[BM C4 AF E]),(1,[Mo 39 p]),(40,[BM AF Ak (BA l)]),(2,[BM C4 AF q.2])]⟩) (fun q=>∀r,A6 q.2 r 0+Ap (Bs E (List.range E.length) q.1) r=Lb ((p.it.take k).filter (inB l)) r+Ap E r) (fun q=>(Bs E (List.range E.length) q.1).length) (([],M)) (fun r=>by show A6 M r 0+Ap (Bs E (List.range E.length) []) r=_;rw [DK (by simp),hM r]) (A1 hF [4,41,1,40,2] Z Z ⟨Z,Z,Z,Z,Z,Z,Z,trivial⟩) ?_))))))));rintro ⟨seen,N⟩ hI;dsimp only at hI⊢;refine AC (AE (Kh (E) Z Z Z Z (fun hl41=>?_) (fun j41 b41 k41 v41 hm41 hb41 hB41 hp41=>⟨_,Z,?_⟩)))
    ·have hfin:∀r,A6 N r 0=Lb ((p.it.take k).filter (inB l)) r+Ap (ctr p.it[k]) r:=fun r=>by have h1:=hI r;rw [hl41] at h1;rw [←hEs r];have h2:Ap ([]:List (AP×Int)) r=0:=rfl;omega
     refine J (Cu Z Z Z) (AD (AC (Db Z Z (BF (AE (J (Ay Z Z (AT (k+1) (by omega)) Z) (goMv Z Z (AD ?_))))))));exact ⟨(k+1,N),⟨by show k+1≤_;omega,fun r=>by show A6 N r 0=Lb ((p.it.take (k+1)).filter (inB l)) r;rw [Sa hk1,κ (by unfold inB;simpa using h37),Wj];exact hfin r⟩,by show p.it.length - (k+1)<p.it.length - k;omega,A1 hF [1,40,2] Z (Z) ⟨Z,Z,Z,Z,Z,Z,trivial⟩⟩
    ·refine J (Cu Z Z Z) (AD (AC ?_));refine D9 Z Z (A3 (A5 (AC (AE (J (Fy (E) j41 b41 Z Z Z hm41 hb41 Z) (J (Cu Z Z Z) (J (Cu Z Z Z) (V (CO 5 KQ Z Z Z Z) ?_))))))));refine V (Bi Z Z Z Z Z Z Z Yk) (AB Z Z (AD (Cc [[],[],[0,1],[],[0,1,2,3],[0,1,3],[0,1,3,5],[0,1,2,3,4,5,6]] mixed Z (Xq 2 ([BM C4 AF (BX N k41 0)]) Z (AI [8] [] Z Z (fun _=>AG (Ai Z Z)) (As [11] Z Z (fun _=>AG (BO Z Z CY Z Z Z)) (I1 [46,47] [] Z Z Z (fun _=>AG (HQ (N) (k41) (0) _ Z Z Z Bv CJ OD Z Z)) (fun _=>AG (HQ (BX (N) (k41) (0)) (k41) (0) _ Z Z Z Bv CJ OD (Dl _ _ _ _) Z)) (AI [12] [] Z Z (fun _=>AG (Ai Z Z)) ?_))))))))
     have hNb: -6000000000000000000≤A6 N k41 0+v41∧A6 N k41 0+v41≤6000000000000000000:=by {have h1:=hI k41;have h2:=Gv (l:=Bs E (List.range E.length) seen) (fun x hx=>hEb x (lft_sub hx)) k41;have h3:=Gv hEb k41;have h4:=Vy (m:=E) (B:=List.range E.length) (seen:=seen);have h5:=hT k41;have h6:=hEb (k41,v41) (ζ hm41);simp only at h6;omega}
     refine AI [48,49] [] Z Z (fun _=>AG (Ay Z Z (Υ _ (by omega)) Z)) (Fo [46,47] [2] [(51,_)] Z Z (fun _=>Fq (G0 (N) (k41) (0) Z Z Z Bv CJ OD Z Z)) (.inr ⟨51,_,Z,Z,Z,Z,Z⟩) Z Z Z Z Z ?_ (hCn:=Pd Z));refine AI [51] [] Z Z (fun _=>AG (Cu Z Z Z)) (C1 7 Z Z Z (Ae 8 Z Z (V (G2 (N) (k41) (0) (A6 N k41 0+v41) Z Z Z CJ Z Z) (AD ⟨Z,?_⟩))));refine C6 ?_;exact ⟨(seen++ [b41],_),(fun r=>by show A6 (Av N k41 (A6 N k41 0+v41)) r 0+Ap (Bs E (List.range E.length) (seen++ [b41])) r=_;have h1:=hI r;rw [Sp hp41,DM] at h1;rw [Hf];by_cases e:r=k41; · {rw [κ e];rw [κ e.symm] at h1;rw [e] at h1⊢;omega}; · {rw [ϑ e];rw [ϑ (fun h=>e h.symm)] at h1;omega}),by show (Bs E (List.range E.length) (seen++ [b41])).length<(Bs E (List.range E.length) seen).length;rw [hp41.length_eq];exact χm _,A1 hF [4,41,1,40,2] Z (Z) ⟨Z,Z,Z,Z,Z,Z,Z,trivial⟩⟩
  ·refine BF (AC ?_);have hfull:p.it.take k=p.it:=Ξ (by have h:=h30;omega);rw [hfull] at hM;have hTb:=M7 (l:=p.it.filter (inB l)) (fun i hi=>hck i (ωa.1 hi).1) (ωe (ωh _ _) h1000);refine AE (AB Z Z (AD (AC (AC ?_))));refine O4 13 900 Ps Z Z Z Z (AE (J (A4 Z Dr Z Z Z) (J (A9 Z Z Z Mt Z) (J (Bz Z Tryz.underlying36 Z) (goMv Z Z (AD (A5 (B6 (α:=List A2) (fun acc=>⟨76,[(8,(.map 2 0)),(13,(.own 900 0 acc.length)),(55,(.d (.sl none (p.ro.map CZ)))),(56,(.d (AF (p.ro.length:Int)))),(57,(.d (AF (acc.length:Int))))],[(900,[.rowD 88 7 (acc.map CZ)]),(2,[BM C4 AF M])]⟩) (fun acc=>acc.length≤p.ro.length∧acc=(Tf p l).take acc.length) (fun acc=>p.ro.length - acc.length) ([]) (⟨Γ _,by simp⟩) (A1 hF [900,2] Z Z ⟨Z,Z,Z,Z,Z,trivial⟩) ?_))))))));rintro acc ⟨ha0,hA⟩;refine AC (AE (J (BT Z Z Z) (AD (AC (Ah Z (fun h58=>?_) (fun h58=>?_))))))
   ·have ha1:acc.length<p.ro.length:=Bf h58;refine A3 (AC (A5 ?_));refine AC (AE (J (Bb (acc.length) Z Z (Z) (Ag ha1) Tryz.underlying36 Z Lc Z) (J (GW Z Z ZP Z) (V (CO 6 Qn Z Z Z Z) (V (Bi Z Z Z Z Z Z Z Lc) (AD (Cc [[],[],[1],[],[3],[],[],[6],[5,6,7],[3,4,5,6,7,8],[1,2,3,4,5,6,7,8,9],[1,2,3,4,5,6,7,8,9,10],[0,1,2,3,4,5,6,7,8,9,10,11],[0,1,2,3,4,5,6,7,8,9,10,11,12]] mixed Z (Cj ?_))))))));refine AI [13] [] Z Z (fun _=>AG (Ai Z Z)) (AI [15] [] Z Z (fun _=>AG (A4 Z Dp Z Z Z)) (As [62] Z Z (fun _=>AG (BO Z Z CY Z Z Z)) (AI [15] [] Z Z (fun _=>AG (A4 Z QR Z Z Z)) (As [64] Z Z (fun _=>AG (A9 Z Z Z Kg Z)) (AI [8] [] Z Z (fun _=>AG (Ai Z Z)) (AI [15] [] Z Z (fun _=>AG (A4 Z Dp Z Z Z)) (As [67] Z Z (fun _=>AG (BO Z Z CY Z Z Z)) (As [66,68] Z Z (fun _=>AG (HQ (M) (p.ro[acc.length].r) (0) _ Z Z Z Bv CJ OD Z Z)) ?_))))))));have hr1:=hram _ (θ ha1);have hr2:=hTb p.ro[acc.length].r;have hr3:=hM p.ro[acc.length].r;refine AI [65,69] [] Z Z (fun _=>AG (Ay Z Z (Υ _ (by omega)) Z)) (AI [63,70] [] Z Z (fun _=>AG (Fe Qn pl88 Z Z Z)) (Fo [71] [50] [(72,_)] Z Z (fun _=>Fq (Dz 50 Ps Z Z Z Z Z Z Z Z)) (.inr ⟨72,_,Z,Z,Z,Z,Z⟩) Z Z Z Z Z (C1 12 Z Z Z (Ae 13 Z Z (V (I8 (acc) ([⟨p.ro[acc.length].r,p.ro[acc.length].n+A6 M p.ro[acc.length].r 0⟩]) Z Z Z Z Z Z Z Z Ps (by simp only [Ψ];omega) Z Z Z Z) (AD ⟨Z,?_⟩))))));refine Ae 14 Z Z (AB Z Z (AD ⟨Z,?_⟩));refine C6 (AE (J (Ay Z Z (Qr acc (⟨p.ro[acc.length].r,p.ro[acc.length].n+A6 M p.ro[acc.length].r 0⟩:A2) (by omega)) Z) (goMv Z Z (AD ?_))));exact ⟨acc++ [⟨p.ro[acc.length].r,p.ro[acc.length].n+A6 M p.ro[acc.length].r 0⟩],⟨by rw [Θ];show acc.length+1≤_;omega,by rw [Θ];show _=(Tf p l).take (acc.length+1);rw [φ (by unfold Tf;simpa using ha1),←hA];congr 1;unfold Tf;simp [hM]⟩,by rw [Θ];show p.ro.length - (acc.length+1)<p.ro.length - acc.length;omega,A1 hF [900,2] Z (Z) ⟨Z,Z,Z,Z,Z,trivial⟩⟩
   ·refine BF (AC ?_);have hfa:acc=Tf p l:=by rw [hA];exact Ξ (by unfold Tf;rw [ψ];have h:=h58;omega)
    refine Lo (emb:=CZ) 13 900 acc Z Z Z Z Z Z Z (AE (goMv Z Z (AB Z Z (AB Z Z (AD (A8 ?_))))));exact ⟨_,[],[],A7 Z,Z,Z,by rw [hfa],Z⟩
 ·have hc:=Uf p l hb hl hE;rw [ϑ hE];refine BB Tryz.func113 Z Z Tryz.ntmps113 Z Z Z fun F hF=>(AC (AE (V (CE 1 Z Z Z Z Z Z Z) (AB Z Z (W6 4 Z (AB Z Z ?_))))));refine AD (AC (AE (J (BO Z Z B8 Z Z Z) (goMv Z Z (J (BZ (hc) Z Z) (goMv Z Z (J (D8 Z Z Z) (J (D8 Z Z Z) ?_))))))));refine AB Z Z (AB Z Z (AD (AC (AC (AE (goMv Z Z (J (EA Z Z Z) (AD ?_))))))));refine D9 Z ((ωi hE)) (AC (AE (goMv Z Z (AB Z Z (W6 4 Z (AB Z Z (AD (A8 ?_))))))));exact ⟨_,[],[],A7 Z,Z,Z,Z,Z⟩
theorem cB (l:List Int) (hl:l.length≤1000000):AN Tryz.prog 89 [.d (.sl none (l.map AF))] [] fun r H'=>r= .own 20 0 l.length∧H'=[(20,[.rowD 3 1 (l.map AF)])]:=by
 refine BB Tryz.func89 Z Z Tryz.ntmps89 Z Z Z fun F hF=>(AC (AE (AB Z Z ?_)));skip;refine AD (AC (AC (AE (goMv Z Z (FJ 3 Z (fun h0=>?_) ?_)))))
 ·refine J (EE Tryz.underlying28 Z Z) (AD (D9 Z (Z) (AC (AE (AB Z Z (Vi 2 20 B4 Z Z Z Z (AD (A8 ?_))))))));exact ⟨_,[20],_,A7 Z,Z,Z,by rw [←ψ (f:=AF),h0];rfl,by rw [h0]⟩
 ·refine J (EE Tryz.underlying28 Z Z) ?_;refine AD (Db Z (Z) (A3 (AC (AE (V (Dz 20 B4 Z Z Z Z Z Z Z Z) (goMv Z Z (V (FC (([]:List Int)) (l) Z Z Z Z Z Z (fun _=>rfl) B4 (by simp only [φq];omega) Z Z Z Z) (AB Z Z ?_))))))));skip;refine AD (A8 ?_);exact ⟨_,[20],_,A7 Z,Z,Z,by simp,by simp⟩
def Bm (p:Prb) (id:Int):AK:=p.it.getD ((p.it.map AK.id).idxOf id) AY
theorem au {p:Prb} {id:Int} (h:id∈p.it.map AK.id):∃hk:(p.it.map AK.id).idxOf id<p.it.length,ixI id (p.it.map AK.id)=(((p.it.map AK.id).idxOf id:Nat):Int)∧Bm p id=p.it[(p.it.map AK.id).idxOf id]∧(Bm p id).id=id:=by
 have hk:(p.it.map AK.id).idxOf id<(p.it.map AK.id).length:=List.idxOf_lt_length_iff.2 h;have hk':(p.it.map AK.id).idxOf id<p.it.length:=by simpa using hk
 have he:Bm p id=p.it[(p.it.map AK.id).idxOf id]:=CI AY hk';refine ⟨hk',κ h,he,?_⟩;have h1:=φg hk;rw [ωd] at h1;rw [he];exact h1
theorem Zj {α:Type} {l m:List α} (h:l.Perm m) (f:α ->Int):(l.map f).sum=(m.map f).sum:=by
 induction h with
 | nil=>rfl
 | cons x _ ih=>simp [ih]
 | swap x y l=>simp;omega
 | trans _ _ ih1 ih2=>rw [ih1,ih2]
end Go.Proofs.YteifpcnphnhaoaaGreat
