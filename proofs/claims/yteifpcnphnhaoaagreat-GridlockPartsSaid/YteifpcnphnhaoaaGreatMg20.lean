import Derived.Test.YteifpcnphnhaoaaGreatMg19
open Go.Proofs.Tryz
namespace Go.Proofs.YteifpcnphnhaoaaGreat
open Go.RowKit
variable {a:Type} {c:List a} {f:List Int} {g:Type} {h:a ->g} {i:fj} {j:g} {k:Nat} {o x:Int} {s:Nat}
set_option maxRecDepth 100000
abbrev Ah (b:Bool):D:= .raw (.bool b)
def BN {α:Type} (l:List α):List (α×Bool):=l.map λa=>(a,true)
theorem Xw [DecidableEq a] (l:List a) (c:a):Aa (BN l) c false=decide (c∈l):=by
 induction l with
 | nil=>rfl
 | cons b l f=>
  grind [BN,Aa]
theorem Zx [DecidableEq a] {f:a} (h:f∉c):BS (BN c) f true=BN (c++ [f]):=by
 induction c with
 | nil=>rfl
 | cons b c g=>
  grind [BN,BS]
def IR:Ac:=⟨⟨0,SI,[],[]⟩,0⟩
def JU (l:List Ac) (k:Nat):Int:=if CF (l.getD k IR).r≠0 then CF (l.getD k IR).r else if ¬(-4*Mx<=(l.getD k IR).n/\(l.getD k IR).n<=4*Mx) then 12 else if (l.getD k IR).r∈(l.take k).map Ac.r then 7 else 0
def Dn (l:List Ac):Int:=BM ((List.range l.length).map (JU l))
theorem FC (d:a) (h:k<c.length):c.getD k d=c[k]:=by rw [Φ,ω h];rfl
theorem EH (b:k<c.length):(c.take (k+1)).map h=(c.take k).map h++ [h c[k]]:=by rw [ψ b,Ω];rfl
theorem km (p:fj) (u:p.ro.length<=100000):AK prog 129 [.d (Bq p)] (AF (Dn p.ro)):=by
 refine At func129 Z Z ntmps129 Z Z Z λF s=>(AC (AE ?_));refine V (Bo 1 Z Z Z Z Z Z Z) (AB Z Z (AD (AC (AE (V (PY 2 Z Z Z Z) (AB Z Z (AD (AC ?_))))))));refine AC (AE (J (AN Z Dx Z Z Z) (J (AP Z Z Z ON Z) (J (Ba Z fU Z) (fZ Z Z (AD (AZ (BO (α:=Nat) (λk=>⟨35,[(3,(.map 2 0)),(9,(.d (.sl none (p.ro.map Bv)))),(10,(.d (AF (p.ro.length:Int)))),(11,(.d (AF (k:Int))))],[(2,[BT Bc Ah (BN ((p.ro.take k).map Ac.r))])]⟩) (λk=>k<=p.ro.length/\Dn p.ro=BM (((List.range p.ro.length).drop k).map (JU p.ro))) (λk=>p.ro.length - k) (0) (⟨ζ _,Z⟩) (AY s [2] Z Z E0) ?_))))))));rintro k ⟨t,o⟩;refine AC (AE (J (BB Z Z Z) (AD (AC (A9 Z (λi=>?_) (λi=>?_))))))
 .have b:k<p.ro.length:=BR i;refine AX (AC (AZ (AC (AE ?_))));have j:=nF b o;have c:=FC IR b;refine J (BJ (k) Z Z (Z) (A5 b) fU Z Mu Z) ?_;refine J (DM Z Z VU Z) (V (By 3 Qw Z Z Z Z) (V (B3 Z Z Z Z Z Z Z Mu) (AD (AC (AC (AE (J (AN Z Ex Z Z Z) (J (Ay Z Z Cc Z Z Z) ?_))))))));refine J (As (W2 p.ro[k].r) Z Z) (AB Z Z (AD (AC (AE (fZ Z Z (J (Cw Z Z Z) (AD (A9 Z (λa=>?_) (λa=>?_)))))))))
  .refine AC (AE (fZ Z Z (AB Z Z (AD (A4 ?_)))));exact ⟨_,[],[],A2 Z,Z,Z,Ab (j.2 _ (by unfold JU;rw [c,ϱ a]) a),Z⟩
  .refine AX (AC (AZ ?_));refine AC (AE (J (AN Z Rk Z Z Z) (J (AP Z Z Z GE Z) (J (As (HK _ _ _) Z Z) (J (Jw Z Z) (AB Z Z (AD (A9 Z (λl=>?_) (λl=>?_)))))))))
   .refine AC (AE (AB Z Z (AD (A4 ?_))));exact ⟨_,[],[],A2 Z,Z,Z,Ab (j.2 12 (by unfold JU;rw [c,θ a,ϱ (by simp only [Mx];omega)]) (by decide)),Z⟩
   .refine AC (AE (fZ Z Z (J (AN Z Ex Z Z Z) (J (Ay Z Z Cc Z Z Z) (J (II (BN ((p.ro.take k).map Ac.r)) (p.ro[k].r) (false) _ Z Z Z QV CV SX Z Z) ?_)))));rw [Xw];refine AB Z Z (AD (A9 Z (λg=>?_) (λg=>?_)))
    .refine AC (AE (AB Z Z (AD (A4 ?_))));exact ⟨_,[],[],A2 Z,Z,Z,Ab (j.2 7 (by unfold JU;rw [c,θ a,θ (by simp only [Mx];omega),ϱ g]) (by decide)),Z⟩
    .have f:p.ro[k].r∉(p.ro.take k).map Ac.r:=g;refine AX (AE ?_);refine fZ Z Z (J (AN Z Ex Z Z Z) (J (Ay Z Z Cc Z Z Z) (V (Uo (BN ((p.ro.take k).map Ac.r)) (p.ro[k].r) (true) Z Z Z QV CV Z Z) (AD (AE (J (Al Z Z (AM (k+1) (by omega)) Z) (fZ Z Z (AD ?_))))))));exact ⟨k+1,⟨by show k+1<=_;omega,j.1 (by unfold JU;rw [c,θ a,θ (by simp only [Mx];omega),θ f])⟩,by show p.ro.length - (k+1)<p.ro.length - k;omega,AY s [2] Z (by rw [EH b,<-Zx f];rfl) E0⟩
 .refine Aw (AC (AE (AB Z Z (AD (A4 ?_)))));exact ⟨_,[],[],A2 Z,Z,Z,Ab (by rw [o,jt (by have h:=i;simp only [gw];omega)];rfl),Z⟩
theorem QE {a b:Bool} (h:a=b):AV.d (.raw (.bool a))= .d (.raw (.bool b)):=by rw [h]
theorem GO {b:Type} {p:b ->Bool}:∀{l:List b} {k:Nat} (c:k<l.length),(∀x∈l.take k,p x=false) ->p l[k]=true ->l.findIdx? p=some k
 | a::l,0,_,_,h=>by simp at h;simp [List.findIdx?_cons,h]
 | a::l,k+1,c,f,h=>by
  have i:p a=false:=f a (by simp);have:=GO (l:=l) (k:=k) (by simpa using c) (λx g=>f x (by simp [g])) (by simpa using h)
  simp [List.findIdx?_cons,i,this]
theorem Hh {p:a ->Bool} (h:∀x∈c,p x=false):c.findIdx? p=none:=by
 rw [List.findIdx?_eq_none_iff];exact h
def tA (p:Int ->Bool) (l:List Int):Int:=match l.findIdx? p with
 | some k=>k
 | none=> -1
theorem py {p:Int ->Bool}:0<=tA p f↔f.any p=true:=by grind [tA]
abbrev HM (S:List Int):Hp:=[(910,[.blk 137 [.map 911 0]]),(911,[BT AF Ah (BN S)])]
def IZ (S:List Int) (x:Int):Bool:=!decide (x∈S)
theorem qj (S:List Int) (x:Int):AO prog 131 [.d (AF x),.ptr 910 0 0] (HM S) λr a=>r= .d (Ah (IZ S x))/\a=HM S:=by
 refine At func131 Z Z ntmps131 Z Z Z λF b=>?_;refine AC (AE (AB Z Z (AD (AC (AE (J (AP Z Z Z QP Z) (fZ Z Z (J (II (BN S) (x) (false) _ Z Z Z Ek IF SX Z Z) ?_))))))));rw [Xw];refine J (Jw Z Z) (AB Z Z (AD (A4 ?_)));exact ⟨_,[910,911],_,A2 Z,Z,Z,by first | exact QE (by unfold IZ;simp) | rfl,rfl⟩
theorem dN (S l:List Int) (s:l.length<=100000000):AO prog 138 [.d (.sl none (l.map AF)),.fn 131 [.ptr 910 0 0]] (HM S) λr o=>r= .d (AF (tA (IZ S) l))/\o=HM S:=by
 refine At func138 Z Z ntmps138 Z Z Z λF i=>(AC (AE (AB Z Z (AD ?_))));refine AC (AC (AE (fZ Z Z (J (Ba Z ch Z) (fZ Z Z (AD (AZ (BO (α:=Nat) (λk=>⟨19,[(0,.d (.sl none (l.map AF))),(1,.fn 131 [.ptr 910 0 0]),(7,(.d (AF (l.length:Int)))),(8,(.d (AF (k:Int))))],HM S⟩) (λk=>k<=l.length/\∀x∈l.take k,IZ S x=false) (λk=>l.length - k) (0) (⟨ζ _,by simp⟩) (AY i [910,911] Z Z E0) ?_))))))));rintro k ⟨j,f⟩;refine AC (AE (J (BB Z Z Z) (AD (AC (A9 Z (λg=>?_) (λg=>?_))))))
 .have b:k<l.length:=BR g;refine AX (AC (AZ (AC (AE (fZ Z Z (AB Z Z (AD (AC ?_))))))));refine AE (fZ Z Z (fZ Z Z (fZ Z Z (J (BJ (k) Z Z (Z) (A5 b) ch Z BU Z) (J (CI Z Z An Z) (V (Uy (qj S l[k]) Z [910,911] ⟨Z,Z,trivial⟩ Z Z Z Z Z Z Z Z Z) (AD (Iq Z (λc=>?_) (λc=>?_)))))))))
  .refine AC (AE (fZ Z Z (AB Z Z (AD (A4 ?_)))));exact ⟨_,[910,911],_,A2 Z,Z,Z,Ab (by unfold tA;rw [GO b f (by simpa using c)]),Z⟩
  .refine AX (AE (J (Al Z Z (AM (k+1) (by omega)) Z) (fZ Z Z (AD ?_))));exact ⟨k+1,⟨by show k+1<=_;omega,by rw [ψ b];intro x a;rcases υ.1 a with a | a;exact f x a;rw [η.1 a];simpa using c⟩,by show l.length - (k+1)<l.length - k;omega,AY i [910,911] Z (Z) E0⟩
 .refine Aw (AC (AE (AB Z Z (AD (A4 ?_)))));exact ⟨_,[910,911],_,A2 Z,Z,Z,Ab (by unfold tA;rw [Hh (λx a=>f x (by rw [κ (by have h:=g;omega)];exact a))]),Z⟩
theorem UR (S l:List Int) (a:l.length<=100000000):AO prog 130 [.d (.sl none (l.map AF)),.fn 131 [.ptr 910 0 0]] (HM S) λr b=>r= .d (Ah (l.any (IZ S)))/\b=HM S:=by
 refine At func130 Z Z ntmps130 Z Z Z λF c=>(AC (AE (AB Z Z (AD ?_))));refine AC (AE (fZ Z Z (fZ Z Z (V (FE (dN S l a) Z [910,911] ⟨Z,Z,trivial⟩ Z Z Z Z Z Z Z Z Z) (J (EJ Z Z Z) (AB Z Z (AD (A4 ?_))))))));exact ⟨_,[910,911],_,A2 Z,Z,Z,QE (by rw [ju,iz];exact py),Z⟩
def Af:AI:=⟨0,0,0,[],[],[]⟩
def Jm (l:List AI) (k:Nat):Int:=if Ar (l.getD k Af)≠0 then Ar (l.getD k Af) else if (l.getD k Af).id∈(l.take k).map AI.id\/(l.getD k Af).sq∈(l.take k).map AI.sq then 7 else 0
def Eu (l:List AI):Int:=BM ((List.range l.length).map (Jm l))
def Pf (S:List Int) (i:AI):Int:=if i.af.any (IZ S)=true then 9 else 0
def PO (l:List AI):Int:=BM (l.map (Pf (l.map AI.id)))
def Az (p:fj):Int:=if 4096<p.it.length\/16384<p.ro.length then 8 else BM [Dn p.ro,Eu p.it,PO p.it]
theorem OG (h:¬(4096<i.it.length\/16384<i.ro.length)) (a:Dn i.ro≠0):Dn i.ro=Az i:=by grind [Az,BM]
theorem Ld (h:¬(4096<i.it.length\/16384<i.ro.length)) (c:Dn i.ro=0) (b:o=Eu i.it) (a:o≠0):o=Az i:=by grind [Az,BM]
theorem RQ (h:¬(4096<i.it.length\/16384<i.ro.length)) (c:Dn i.ro=0) (b:Eu i.it=0) (a:o=PO i.it):o=Az i:=by grind [Az,BM]
def E1 (p:fj):Prop:=p.ro.length<=100000/\p.it.length<=100000/\∀i∈p.it,i.po.length<=100000/\i.pa.length<=100000/\i.af.length<=100000
theorem Gn (p:fj) (G:E1 p):AK prog 75 [.d (Bq p)] (AF (Az p)):=by
 obtain ⟨H,I,E⟩:=G;refine At func75 Z Z ntmps75 Z Z Z λF v=>(AC (AE (V (Bo 1 Z Z Z Z Z Z Z) (AB Z Z (AD ?_)))));refine AC (AC (AE (J (AN Z DA Z Z Z) (J (AP Z Z Z JV Z) (J (Ba Z cl Z) (J (HF Z Z Z) (fZ Z Z (C3 15 Z (λB=>?_) (λB=>?_)))))))))
 .refine AL Z Z Z Z (AL Z Z Z Z (AL Z Z Z Z ?_));refine AL Z Z Z Z (J (B5 Z Z Z Z) (AD (Bx Z Z (AC (AE (AB Z Z (AD (A4 ?_))))))));exact ⟨_,[],[],A2 Z,Z,Z,Ab (by unfold Az;rw [ϱ (by omega)]),Z⟩
 .refine AQ Z Z Z (J (AN Z Dx Z Z Z) ?_);refine AQ Z Z Z (J (AP Z Z Z ON Z) (AQ Z Z Z (J (Ba Z fU Z) (AQ Z Z Z (J (HF Z Z Z) (J (Bk Z Z Z Z) (AD (A9 Z (λA=>?_) (λA=>?_)))))))))
  .refine AC (AE (AB Z Z (AD (A4 ?_))));exact ⟨_,[],[],A2 Z,Z,Z,Ab (by unfold Az;rw [ϱ (by omega)]),Z⟩
  .refine AX (AC (AC ?_));have c:¬(4096<p.it.length\/16384<p.ro.length):=by omega
   refine AE (J (Ay Z Z Bl Z Z Z) ?_);refine J (As (km p H) Z Z) (AB Z Z (AD (AC (AE (fZ Z Z (J (Cw Z Z Z) (AD (A9 Z (λs=>?_) (λs=>?_)))))))))
   .refine AC (AE (fZ Z Z (AB Z Z (AD (A4 ?_)))));exact ⟨_,[],[],A2 Z,Z,Z,Ab (OG c s),Z⟩
   .refine AX (AC ?_);have f:Dn p.ro=0:=by simpa using s
    refine AE (V (PY 2 Z Z Z Z) (V (PY 3 Z Z Z Z) (V (By 4 aJ Z Z Z Z) (V (B3 Z Z Z Z Z Z Z ab) (AB Z Z (AD (AC ?_)))))));refine AC (AE (J (AN Z DA Z Z Z) (J (AP Z Z Z JV Z) (J (Ba Z cl Z) (fZ Z Z (AD (AZ (BO (α:=Nat) (λk=>⟨69,[(1,(.ptr 1 0 0)),(4,(.ptr 4 0 0)),(5,(.map 3 0)),(29,(.d (.sl none (p.it.map Ag)))),(30,(.d (AF (p.it.length:Int)))),(31,(.d (AF (k:Int))))],[(1,[.blk 39 [.d (.sl none (p.ro.map Bv)),.d (.sl none (p.it.map Ag))]]),(4,[.blk 137 [.map 2 0]]),(2,[BT AF Ah (BN ((p.it.take k).map AI.id))]),(3,[BT AF Ah (BN ((p.it.take k).map AI.sq))])]⟩) (λk=>k<=p.it.length/\Eu p.it=BM (((List.range p.it.length).drop k).map (Jm p.it))) (λk=>p.it.length - k) (0) (⟨ζ _,Z⟩) (AY v [1,4,2,3] Z Z No) ?_))))))));rintro k ⟨w,t⟩;refine AC (AE (J (BB Z Z Z) (AD (AC (A9 Z (λi=>?_) (λi=>?_))))))
    .have a:k<p.it.length:=BR i;refine AX (AC (AZ (AC (AE ?_))));have l:=nF a t;have g:=FC Af a;have x:=E _ (ξ a);refine J (BJ (k) Z Z (Z) (A5 a) cl Z Co Z) (J (DM Z Z CP Z) (V (By 5 FG Z Z Z Z) (V (B3 Z Z Z Z Z Z Z Co) (AD (AC (AC (AE (J (Ay Z Z CP Z Z Z) ?_))))))));refine J (As (LG p.it[k] (by omega) (by omega) (by omega)) Z Z) (AB Z Z (AD (AC (AE (fZ Z Z (J (Cw Z Z Z) (AD (A9 Z (λb=>?_) (λb=>?_)))))))))
     .refine AC (AE (fZ Z Z (AB Z Z (AD (A4 ?_)))));exact ⟨_,[],[],A2 Z,Z,Z,Ab (Ld c f (l.2 _ (by unfold Jm;rw [g,ϱ b]) b) b),Z⟩
     .refine AX (AC (AC (AE (J (AP Z Z Z QP Z) (J (AN Z PQ Z Z Z) (J (AP Z Z Z An Z) (J (II (BN ((p.it.take k).map AI.id)) (p.it[k].id) (false) _ Z Z Z Ek IF SX Z Z) ?_)))))));rw [Xw];refine fZ Z Z (C3 44 Z (λz=>?_) (λz=>?_))
      .refine AL Z Z Z Z (AL Z Z Z Z (AL Z Z Z Z ?_));refine AL Z Z Z Z (J (B5 Z Z Z Z) (AD (Bx Z Z (AC (AE (AB Z Z (AD (A4 ?_))))))));exact ⟨_,[],[],A2 Z,Z,Z,Ab (Ld c f (l.2 7 (by unfold Jm;rw [g,θ b,ϱ (by simp_all)]) (by decide)) (by decide)),Z⟩
      .refine AQ Z Z Z (fZ Z Z (AQ Z Z Z (J (AN Z On Z Z Z) (AQ Z Z Z (J (AP Z Z Z An Z) (AQ Z Z Z (J (II (BN ((p.it.take k).map AI.sq)) (p.it[k].sq) (false) _ Z Z Z Ek IF SX Z Z) ?_)))))));rw [Xw];refine J (Bk Z Z Z Z) (AD (A9 Z (λy=>?_) (λy=>?_)))
       .refine AC (AE (AB Z Z (AD (A4 ?_))));exact ⟨_,[],[],A2 Z,Z,Z,Ab (Ld c f (l.2 7 (by unfold Jm;rw [g,θ b,ϱ (by simp_all)]) (by decide)) (by decide)),Z⟩
       .refine AX ?_;have D:p.it[k].id∉(p.it.take k).map AI.id:=by simp_all
        have C:p.it[k].sq∉(p.it.take k).map AI.sq:=by simp_all
        refine CZ [[],[],[1],[],[],[4],[0,1,2],rg 7] mixed Z (CG (Ao [4] [4,2] Z Z (λ_=>Ae (AP Z Z Z QP Z)) (AU [7] Z (AN Z PQ Z Z Z) ?_)));refine Ao [51] [5] Z Z (λ_=>Ae (AP Z Z Z An Z)) (Av 5 Z Z (AU [7] Z (AN Z On Z Z Z) (Ao [54] [5] Z Z (λ_=>Ae (AP Z Z Z An Z)) (HC [50,52] [2] [] Z Z (λ_=>HD (Uo (BN ((p.it.take k).map AI.id)) (p.it[k].id) (true) Z Z Z Ek IF Z Z)) (.inl ⟨Z,Z⟩) Z Z Z Z Z (CB 7 Z Z Z (Ad 8 Z Z (V (Uo (BN ((p.it.take k).map AI.sq)) (p.it[k].sq) (true) Z Z Z Ek IF Z Z) (AD ⟨Z,?_⟩))))))));refine CM (AE (J (Al Z Z (AM (k+1) (by omega)) Z) (fZ Z Z (AD ?_))));exact ⟨k+1,⟨by show k+1<=_;omega,l.1 (by unfold Jm;rw [g,θ b,θ (by rintro (h | h);exact D h;exact C h)])⟩,by show p.it.length - (k+1)<p.it.length - k;omega,AY v [1,4,2,3] Z (by rw [EH a,EH a,<-Zx D,<-Zx C];rfl) No⟩
    .refine Aw (AC (AC ?_));have u:Eu p.it=0:=by rw [t,jt (by have h:=i;simp only [gw];omega)];rfl
     have j:p.it.take k=p.it:=κ (by have h:=i;omega);rw [j];refine AE (J (AN Z DA Z Z Z) (J (AP Z Z Z JV Z) (J (Ba Z cl Z) (fZ Z Z (AD (AZ (BO (α:=Nat) (λk=>⟨69,[(4,(.ptr 4 0 0)),(58,(.d (.sl none (p.it.map Ag)))),(59,(.d (AF (p.it.length:Int)))),(60,(.d (AF (k:Int))))],[(4,[.blk 137 [.map 2 0]]),(2,[BT AF Ah (BN (p.it.map AI.id))])]⟩) (λk=>k<=p.it.length/\PO p.it=BM ((p.it.drop k).map (Pf (p.it.map AI.id)))) (λk=>p.it.length - k) (0) (⟨ζ _,Z⟩) (AY v [4,2] Z Z E0) ?_)))))));rintro k ⟨w,t⟩;refine AC (AE (J (BB Z Z Z) (AD (AC (A9 Z (λr=>?_) (λr=>?_))))))
     .have a:k<p.it.length:=BR r;refine AX (AC (AZ (AC (AE ?_))));have l:=kB a t;have x:=E _ (ξ a);refine J (BJ (k) Z Z (Z) (A5 a) cl Z Co Z) (J (DM Z Z CP Z) (V (By 6 FG Z Z Z Z) (V (B3 Z Z Z Z Z Z Z Co) ?_)));refine AD (AC (AE (J (AN Z EV Z Z Z) (J (AP Z Z Z BL Z) (J (qw Z Z) (V (FE ((UR (p.it.map AI.id) p.it[k].af (by omega)).by [(910,4),(911,2)] Z) Z [4,2] ⟨Z,Z,trivial⟩ Z Z Z Z Z Z Z Z Z) (AD (Iq Z (λo=>?_) (λo=>?_)))))))))
      .refine AC (AE (AB Z Z (AD (A4 ?_))));exact ⟨_,[],[],A2 Z,Z,Z,Ab (RQ c f u (l.2 9 (by unfold Pf;rw [ϱ (by simpa using o)]) (by decide))),Z⟩
      .refine AX (AE (J (Al Z Z (AM (k+1) (by omega)) Z) (fZ Z Z (AD ?_))));exact ⟨k+1,⟨by show k+1<=_;omega,l.1 (by unfold Pf;rw [θ (by simpa using o)])⟩,by show p.it.length - (k+1)<p.it.length - k;omega,AY v [4,2] Z (Z) E0⟩
     .refine Aw (AC (AE (AB Z Z (AD (A4 ?_)))));exact ⟨_,[],[],A2 Z,Z,Z,Ab (RQ c f u (by rw [t,DK (by have h:=r;omega)])),Z⟩
abbrev EC (T:TypeId) (p:fj):AJ:= .blk T [.d (.sl none (p.ro.map Bv)),.d (.sl none (p.it.map Ag))]
theorem GZ (r:k<c.length) (o:s<k) (i:h c[s]=j):j∈(c.take k).map h:=by grind [jX]
theorem Gq (k:s<c.length) (i:j∉(c.take s).map h) (o:h c[s]≠j):j∉(c.take (s+1)).map h:=by grind [EH]
theorem Vp (h:0<=Vq x f):x∈f:=by grind [Vq]
theorem X3 (h:Vq x f<0):x∉f:=by grind [Vq]
theorem Vz (p:fj) (id:Int) (j:p.it.length<=100000):AK prog 51 [.d (Bq p),.d (AF id)] (AF (Vq id (p.it.map AI.id))):=by
 refine At func51 Z Z ntmps51 Z Z Z λF g=>(AC (AE (V (Bo 1 Z Z Z Z Z Z Z) ?_)));refine AB Z Z (AD (AC (AC (AE (AB Z Z (AD (AZ (BO (α:=Nat) (λk=>⟨22,[(1,.d (AF id)),(2,(.ptr 1 0 0)),(5,(.d (AF (k:Int))))],[(1,[EC 25 p])]⟩) (λk=>k<=p.it.length/\id∉(p.it.take k).map AI.id) (λk=>p.it.length - k) (0) (⟨ζ _,by simp⟩) (AY g [1] Z Z Qs) ?_))))))));rintro k ⟨i,f⟩;refine AC ?_;refine AC (AE (fZ Z Z (J (AN Z MV Z Z Z) (J (AP Z Z Z Eh Z) (J (Ba Z cj Z) (J (BB Z Z Z) (AD (A9 Z (λc=>?_) (λc=>?_)))))))))
 .have a:k<p.it.length:=BR c;refine AX (AC (AZ (AC (AE (J (AN Z MV Z Z Z) ?_)))));refine J (AP Z Z Z Eh Z) (fZ Z Z (J (BJ (k) Z Z (Z) (A5 a) cj Z Dh Z) (J (Nc Z Hi Z Z Z) (J (CI Z Z An Z) (fZ Z Z (J (GF Z Z Z) (AD (A9 Z (λb=>?_) (λb=>?_)))))))))
  .refine AC (AE (fZ Z Z (AB Z Z (AD (A4 ?_)))));exact ⟨_,[],[],A2 Z,Z,Z,Ab (Tq (l:=p.it.map AI.id) (by simpa using a) (by rw [<-List.map_take];exact f) (by rw [gq];exact b.symm)).symm,Z⟩
  .refine AX (AE (fZ Z Z (J (Al Z Z (AM (k+1) (by omega)) Z) (AB Z Z (AD ?_)))));exact ⟨k+1,⟨by show k+1<=_;omega,Gq a f b⟩,by show p.it.length - (k+1)<p.it.length - k;omega,AY g [1] Z (Z) Qs⟩
 .refine Aw (AC (AE (AB Z Z (AD (A4 ?_)))));exact ⟨_,[],[],A2 Z,Z,Z,Ab (by unfold Vq;rw [θ (by rw [κ (by have h:=c;omega)] at f;exact f)]),Z⟩
def rO (p:fj):Prop:=p.it.length<=12/\p.ro.length<=24/\∀i∈p.it,i.po.length<=12/\i.pa.length<=12/\i.af.length<=12
instance (p:fj):Decidable (rO p):=inferInstanceAs (Decidable (_/\_/\∀i∈p.it,_))
theorem ke (p:fj):AK prog 11 [.d (Bq p)] (Ah (decide (rO p))):=by
 refine At func11 Z Z ntmps11 Z Z Z λF s=>(AC (AE (V (Bo 1 Z Z Z Z Z Z Z) (AB Z Z (AD ?_)))));refine AC (AC (AE (J (AN Z MV Z Z Z) (J (AP Z Z Z Eh Z) (J (Ba Z cj Z) (J (HF Z Z Z) (fZ Z Z (C3 8 Z (λu=>?_) (λu=>?_)))))))))
 .refine AL Z Z Z Z (AL Z Z Z Z (AL Z Z Z Z ?_));refine AL Z Z Z Z (J (B5 Z Z Z Z) (AD (Bx Z Z (AC (AE (AB Z Z (AD (A4 ?_))))))));exact ⟨_,[],[],A2 Z,Z,Z,J9 (λh=>by have f:=h.1;have v:=h.2.1;omega),Z⟩
 .refine AQ Z Z Z (J (AN Z C8 Z Z Z) ?_);refine AQ Z Z Z (J (AP Z Z Z IY Z) (AQ Z Z Z (J (Ba Z ek Z) (AQ Z Z Z (J (HF Z Z Z) (J (Bk Z Z Z Z) (AD (A9 Z (λo=>?_) (λo=>?_)))))))))
  .refine AC (AE (AB Z Z (AD (A4 ?_))));exact ⟨_,[],[],A2 Z,Z,Z,J9 (λh=>by have f:=h.1;have v:=h.2.1;omega),Z⟩
  .refine AX (AC (AC (AE (AB Z Z (AD (AZ (BO (α:=Nat) (λk=>⟨49,[(1,(.ptr 1 0 0)),(3,(.d (AF (k:Int))))],[(1,[EC 25 p])]⟩) (λk=>k<=p.it.length/\∀i∈p.it.take k,i.po.length<=12/\i.pa.length<=12/\i.af.length<=12) (λk=>p.it.length - k) (0) (⟨ζ _,by simp⟩) (AY s [1] Z Z ⟨Z,Z,trivial⟩) ?_)))))));rintro k ⟨t,r⟩;refine AC ?_;refine AC (AE (fZ Z Z (J (AN Z MV Z Z Z) (J (AP Z Z Z Eh Z) (J (Ba Z cj Z) (J (BB Z Z Z) (AD (A9 Z (λc=>?_) (λc=>?_)))))))))
   .have a:k<p.it.length:=BR c;refine AX (AC (AZ (AC (AE (J (AN Z MV Z Z Z) ?_)))));refine J (AP Z Z Z Eh Z) (fZ Z Z (J (BJ (k) Z Z (Z) (A5 a) cj Z Dh Z) (J (Nc Z Cj Z Z Z) (J (CI Z Z IX Z) (J (Ba Z dr Z) (J (HF Z Z Z) (fZ Z Z (C3 29 Z (λl=>?_) (λl=>?_)))))))))
    .refine AL Z Z Z Z (AL Z Z Z Z (AL Z Z Z Z (AL Z Z Z Z (AL Z Z Z Z (AL Z Z Z Z (AL Z Z Z Z (AL Z Z Z Z ?_)))))));refine J (B5 Z Z Z Z) (fZ Z Z (AL Z Z Z Z (AL Z Z Z Z (AL Z Z Z Z (AL Z Z Z Z (AL Z Z Z Z (AL Z Z Z Z (AL Z Z Z Z ?_))))))));refine AL Z Z Z Z (J (B5 Z Z Z Z) (AD (Bx Z Z (AC (AE (AB Z Z (AD (A4 ?_))))))));exact ⟨_,[],[],A2 Z,Z,Z,J9 (λh=>by have f:=h.2.2 _ (ξ a);omega),Z⟩
    .refine AQ Z Z Z ?_;refine J (AN Z MV Z Z Z) (AQ Z Z Z (J (AP Z Z Z Eh Z) (AQ Z Z Z (fZ Z Z (AQ Z Z Z (J (BJ (k) Z Z (Z) (A5 a) cj Z Dh Z) (AQ Z Z Z (J (Nc Z G2 Z Z Z) ?_))))))));refine AQ Z Z Z (J (CI Z Z P9 Z) (AQ Z Z Z (J (Ba Z fV Z) (AQ Z Z Z (J (HF Z Z Z) (J (Bk Z Z Z Z) (fZ Z Z (C3 39 Z (λj=>?_) (λj=>?_)))))))))
     .refine AL Z Z Z Z (AL Z Z Z Z (AL Z Z Z Z (AL Z Z Z Z (AL Z Z Z Z (AL Z Z Z Z (AL Z Z Z Z ?_))))));refine AL Z Z Z Z (J (B5 Z Z Z Z) (AD (Bx Z Z (AC (AE (AB Z Z (AD (A4 ?_))))))));exact ⟨_,[],[],A2 Z,Z,Z,J9 (λh=>by have f:=h.2.2 _ (ξ a);omega),Z⟩
     .refine AQ Z Z Z ?_;refine J (AN Z MV Z Z Z) (AQ Z Z Z (J (AP Z Z Z Eh Z) (AQ Z Z Z (fZ Z Z (AQ Z Z Z (J (BJ (k) Z Z (Z) (A5 a) cj Z Dh Z) (AQ Z Z Z (J (Nc Z Cz Z Z Z) ?_))))))));refine AQ Z Z Z (J (CI Z Z BL Z) (AQ Z Z Z (J (Ba Z ch Z) (AQ Z Z Z (J (HF Z Z Z) (J (Bk Z Z Z Z) (AD (A9 Z (λg=>?_) (λg=>?_)))))))))
      .refine AC (AE (AB Z Z (AD (A4 ?_))));exact ⟨_,[],[],A2 Z,Z,Z,J9 (λh=>by have f:=h.2.2 _ (ξ a);omega),Z⟩
      .refine AX (AE (fZ Z Z (J (Al Z Z (AM (k+1) (by omega)) Z) (AB Z Z (AD ?_)))));exact ⟨k+1,⟨by show k+1<=_;omega,by rw [ψ a];intro i b;rcases υ.1 b with b | b;exact r i b;rw [η.1 b];omega⟩,by show p.it.length - (k+1)<p.it.length - k;omega,AY s [1] Z (Z) ⟨Z,Z,trivial⟩⟩
   .refine Aw (AC (AE (AB Z Z (AD (A4 ?_)))));exact ⟨_,[],[],A2 Z,Z,Z,Yg ⟨by omega,by omega,λi b=>r i (by rw [κ (by have h:=c;omega)];exact b)⟩,Z⟩
theorem Sz (p:fj) (g1:p.ro.length<=1000) (g2:p.it.length<=1000) (g3:∀i∈p.it,i.po.length<=1000/\i.pa.length<=1000/\i.af.length<=1000):AK prog 14 [.d (Bq p)] (AF (Az p)):=by
 refine At func14 Z Z ntmps14 Z Z Z λF t=>(AC (AE (V (Bo 1 Z Z Z Z Z Z Z) (AB Z Z (AD ?_)))));refine AC (AC (AE (J (AN Z MV Z Z Z) (J (AP Z Z Z Eh Z) (J (Ba Z cj Z) (J (HF Z Z Z) (fZ Z Z (C3 15 Z (λY=>?_) (λY=>?_)))))))))
 .refine AL Z Z Z Z (AL Z Z Z Z (AL Z Z Z Z ?_));refine AL Z Z Z Z (J (B5 Z Z Z Z) (AD (Bx Z Z (AC (AE (AB Z Z (AD (A4 ?_))))))));exact ⟨_,[],[],A2 Z,Z,Z,Ab (by unfold Az;rw [ϱ (by omega)]),Z⟩
 .refine AQ Z Z Z (J (AN Z C8 Z Z Z) ?_);refine AQ Z Z Z (J (AP Z Z Z IY Z) (AQ Z Z Z (J (Ba Z ek Z) (AQ Z Z Z (J (HF Z Z Z) (J (Bk Z Z Z Z) (AD (A9 Z (λX=>?_) (λX=>?_)))))))))
  .refine AC (AE (AB Z Z (AD (A4 ?_))));exact ⟨_,[],[],A2 Z,Z,Z,Ab (by unfold Az;rw [ϱ (by omega)]),Z⟩
  .refine AX (AC (AC ?_));have c:¬(4096<p.it.length\/16384<p.ro.length):=by omega
   refine AE (AB Z Z (AD (AZ (BO (α:=Nat) (λk=>⟨151,[(1,(.ptr 1 0 0)),(3,(.d (AF (k:Int))))],[(1,[EC 25 p])]⟩) (λk=>k<=p.ro.length/\Dn p.ro=BM (((List.range p.ro.length).drop k).map (JU p.ro))) (λk=>p.ro.length - k) (0) (⟨ζ _,Z⟩) (AY t [1] Z Z ⟨Z,Z,trivial⟩) ?_))));rintro k ⟨O,C⟩;refine AC ?_;refine AC (AE (fZ Z Z (J (AN Z C8 Z Z Z) (J (AP Z Z Z IY Z) (J (Ba Z ek Z) (J (BB Z Z Z) (AD (A9 Z (λL=>?_) (λL=>?_)))))))))
   .have a:k<p.ro.length:=BR L;refine AX (AC (AZ (AC (AC (AE ?_)))));have s:=nF a C;have b:=FC IR a;refine J (AN Z C8 Z Z Z) (J (AP Z Z Z IY Z) (fZ Z Z (J (BJ (k) Z Z (Z) (A5 a) ek Z J4 Z) (J (WX Z JN Z Z Z) (J (DM Z Z GV Z) ?_)))));refine J (As (OD p.ro[k].r) Z Z) (AB Z Z (AD (AC (AE (fZ Z Z (J (Cw Z Z Z) (AD (A9 Z (λf=>?_) (λf=>?_)))))))))
    .refine AC (AE (fZ Z Z (AB Z Z (AD (A4 ?_)))));exact ⟨_,[],[],A2 Z,Z,Z,Ab (by have h:=s.2 _ (by unfold JU;rw [b,ϱ f]) f;rw [h];exact OG c (by rw [<-h];exact f)),Z⟩
    .refine AX (AC (AC (AE ?_)));refine J (AN Z C8 Z Z Z) (J (AP Z Z Z IY Z) (fZ Z Z (J (BJ (k) Z Z (Z) (A5 a) ek Z J4 Z) (J (Nc Z Rr Z Z Z) (J (CI Z Z GE Z) (J (BB Z Z Z) (fZ Z Z (C3 45 Z (λW=>?_) (λW=>?_)))))))))
     .refine AL Z Z Z Z (AL Z Z Z Z (AL Z Z Z Z (AL Z Z Z Z (AL Z Z Z Z (AL Z Z Z Z ?_)))));refine AL Z Z Z Z (J (B5 Z Z Z Z) (AD (Bx Z Z (AC (AE (AB Z Z (AD (A4 ?_))))))));exact ⟨_,[],[],A2 Z,Z,Z,Ab (by have h:=s.2 12 (by unfold JU;rw [b,θ f,ϱ (by simp only [Mx];omega)]) (by decide);rw [h];exact OG c (by rw [<-h];decide)),Z⟩
     .refine AQ Z Z Z (J (AN Z C8 Z Z Z) (AQ Z Z Z (J (AP Z Z Z IY Z) (AQ Z Z Z (fZ Z Z (AQ Z Z Z (J (BJ (k) Z Z (Z) (A5 a) ek Z J4 Z) ?_)))))));refine AQ Z Z Z (J (Nc Z Rr Z Z Z) (AQ Z Z Z (J (CI Z Z GE Z) (AQ Z Z Z (J (HF Z Z Z) (J (Bk Z Z Z Z) (AD (A9 Z (λU=>?_) (λU=>?_)))))))))
      .refine AC (AE (AB Z Z (AD (A4 ?_))));exact ⟨_,[],[],A2 Z,Z,Z,Ab (by have h:=s.2 12 (by unfold JU;rw [b,θ f,ϱ (by simp only [Mx];omega)]) (by decide);rw [h];exact OG c (by rw [<-h];decide)),Z⟩
      .refine AX (AC (AE (AB Z Z (AD (AZ (BO (α:=Nat) (λm=>⟨151,[(1,(.ptr 1 0 0)),(3,(.d (AF (k:Int)))),(5,(.d (AF (m:Int))))],[(1,[EC 25 p])]⟩) (λm=>m<=k/\p.ro[k].r∉(p.ro.take m).map Ac.r) (λm=>k - m) (0) (⟨ζ _,by simp⟩) (AY t [1] Z Z Qs) ?_))))));rintro m ⟨T,hm⟩;refine AC (AC (AE (fZ Z Z (fZ Z Z (J (BB Z Z Z) (AD (A9 Z (λK=>?_) (λK=>?_))))))))
       .have o:m<k:=BR K;refine AX (AC (AZ (AC (CZ [[],[0],[],[0,1,2],[0,1,2,3],rg 5,[],[6],[],[6,7,8],[6,7,8,9],[6,7,8,9,10],rg 12] mixed Z (CG ?_)))));have g:m<p.ro.length:=by omega
        refine AU [1] Z (AN Z C8 Z Z Z) (Au [59] Z Z (λ_=>Ae (AP Z Z Z IY Z)) (Av 5 Z Z (AU [60,61] Z (BJ (m) Z Z (Z) (A5 g) ek Z J4 Z) (AU [62] Z (WX Z JN Z Z Z) (AU [63] Z (DM Z Z GV Z) (AU [1] Z (AN Z C8 Z Z Z) ?_))))));refine Au [65] Z Z (λ_=>Ae (AP Z Z Z IY Z)) (Av 3 Z Z (AU [66,67] Z (BJ (k) Z Z (Z) (A5 a) ek Z J4 Z) (AU [68] Z (WX Z JN Z Z Z) (AU [69] Z (DM Z Z GV Z) (CB 12 Z Z Z (Ad 13 Z Z (J (Fb (la:=NA p.ro[m].r) (lb:=NA p.ro[k].r) (ds:=bQ) (by kernel_rfl) (by kernel_rfl) (by kernel_rfl) Z Z Z Z (EN _) (EN _) (NL _ _) Z) (AD ⟨Z,?_⟩))))))));refine CM (A9 Z (λI=>?_) (λI=>?_))
        .refine AC (AE (AB Z Z (AD (A4 ?_))));exact ⟨_,[],[],A2 Z,Z,Z,Ab (by have h:=s.2 7 (by unfold JU;rw [b,θ f,θ (by simp only [Mx];omega),ϱ (GZ a o I)]) (by decide);rw [h];exact OG c (by rw [<-h];decide)),Z⟩
        .refine AX (AE (fZ Z Z (J (Al Z Z (AM (m+1) (by omega)) Z) (AB Z Z (AD ?_)))));exact ⟨m+1,⟨by show m+1<=_;omega,Gq g hm I⟩,by show k - (m+1)<k - m;omega,AY t [1] Z (Z) Qs⟩
       .have v:p.ro[k].r∉(p.ro.take k).map Ac.r:=by have e:m=k:=by {have h:=K;omega};subst e;exact hm
        refine Aw (AE (fZ Z Z (J (Al Z Z (AM (k+1) (by omega)) Z) (AB Z Z (AD ?_)))));exact ⟨k+1,⟨by show k+1<=_;omega,s.1 (by unfold JU;rw [b,θ f,θ (by simp only [Mx];omega),θ v])⟩,by show p.ro.length - (k+1)<p.ro.length - k;omega,AY t [1] Z (Z) ⟨Z,Z,trivial⟩⟩
   .refine Aw (AC (AC ?_));have u:Dn p.ro=0:=by rw [C,jt (by have h:=L;simp only [gw];omega)];rfl
    refine AE (AB Z Z (AD (AZ (BO (α:=Nat) (λk=>⟨151,[(1,(.ptr 1 0 0)),(6,(.d (AF (k:Int))))],[(1,[EC 25 p])]⟩) (λk=>k<=p.it.length/\Eu p.it=BM (((List.range p.it.length).drop k).map (Jm p.it))) (λk=>p.it.length - k) (0) (⟨ζ _,Z⟩) (AY t [1] Z Z ⟨Z,Z,trivial⟩) ?_))));rintro k ⟨O,C⟩;refine AC ?_;refine AC (AE (fZ Z Z (J (AN Z MV Z Z Z) (J (AP Z Z Z Eh Z) (J (Ba Z cj Z) (J (BB Z Z Z) (AD (A9 Z (λH=>?_) (λH=>?_)))))))))
    .have a:k<p.it.length:=BR H;refine AX (AC (AZ (AC (AC (AE ?_)))));have s:=nF a C;have b:=FC Af a;have B:=g3 _ (ξ a);refine J (AN Z MV Z Z Z) (J (AP Z Z Z Eh Z) (fZ Z Z (J (BJ (k) Z Z (Z) (A5 a) cj Z Dh Z) (J (DM Z Z IC Z) ?_))));refine J (As (Jb p.it[k] B.1 B.2.1 B.2.2) Z Z) (AB Z Z (AD (AC (AE (fZ Z Z (J (Cw Z Z Z) (AD (A9 Z (λl=>?_) (λl=>?_)))))))))
     .refine AC (AE (fZ Z Z (AB Z Z (AD (A4 ?_)))));exact ⟨_,[],[],A2 Z,Z,Z,Ab (Ld c u (s.2 _ (by unfold Jm;rw [b,ϱ l]) l) l),Z⟩
     .refine AX (AC (AE (AB Z Z (AD (AZ (BO (α:=Nat) (λm=>⟨151,[(1,(.ptr 1 0 0)),(6,(.d (AF (k:Int)))),(8,(.d (AF (m:Int))))],[(1,[EC 25 p])]⟩) (λm=>m<=k/\p.it[k].id∉(p.it.take m).map AI.id/\p.it[k].sq∉(p.it.take m).map AI.sq) (λm=>k - m) (0) (⟨ζ _,by simp,by simp⟩) (AY t [1] Z Z Qs) ?_))))));rintro m ⟨T,N,M⟩;refine AC (AC (AE (fZ Z Z (fZ Z Z (J (BB Z Z Z) (AD (A9 Z (λG=>?_) (λG=>?_))))))))
      .have o:m<k:=BR G;refine AX (AC (AZ (AC (CZ [[],[0],[],[0,1,2],[0,1,2,3],rg 5,[],[6],[],[6,7,8],[6,7,8,9],[6,7,8,9,10],rg 12,rg 13,rg 14,rg 15,rg 14,rg 17,rg 18,rg 19,rg 14,[0,1,2,3,4,5,6,7,8,9,10,11,12,13,20],rg 14,[0,1,2,3,4,5,6,7,8,9,10,11,12,13,20,21,22],[0,1,2,3,4,5,6,7,8,9,10,11,12,13,20,21,22,23],[0,1,2,3,4,5,6,7,8,9,10,11,12,13,20,21,22,23,24],rg 26,rg 27] mixed Z (CG ?_)))));have g:m<p.it.length:=by omega
       refine AU [1] Z (AN Z MV Z Z Z) (Au [93] Z Z (λ_=>Ae (AP Z Z Z Eh Z)) (Av 8 Z Z (AU [94,95] Z (BJ (m) Z Z (Z) (A5 g) cj Z Dh Z) (AU [96] Z (Nc Z Hi Z Z Z) (AU [97] Z (CI Z Z An Z) (AU [1] Z (AN Z MV Z Z Z) ?_))))));refine Au [99] Z Z (λ_=>Ae (AP Z Z Z Eh Z)) (Av 6 Z Z (AU [100,101] Z (BJ (k) Z Z (Z) (A5 a) cj Z Dh Z) (AU [102] Z (Nc Z Hi Z Z Z) (AU [103] Z (CI Z Z An Z) (CB 12 Z Z Z (Ad 13 Z Z (J (GF Z Z Z) (AD ⟨Z,?_⟩))))))));refine Ad 14 Z Z (fZ Z Z (C3 106 Z (λA=>?_) (λA=>?_)))
       .refine AD ⟨Z,?_⟩;refine CG (Ao [1,106] [] Z Z (λ_=>EF Z Z Z Z) (Ao [107,106] [] Z Z (λ_=>EF Z Z Z Z) (Ao [8,106] [] Z Z (λ_=>EF Z Z Z Z) (Ao [108,109,106] [] Z Z (λ_=>EF Z Z Z Z) (Ao [110,106] [] Z Z (λ_=>EF Z Z Z Z) (Ao [111,106] [] Z Z (λ_=>EF Z Z Z Z) (Ao [1,106] [] Z Z (λ_=>EF Z Z Z Z) ?_)))))));refine Ao [113,106] [] Z Z (λ_=>EF Z Z Z Z) (Ao [6,106] [] Z Z (λ_=>EF Z Z Z Z) (Ao [114,115,106] [] Z Z (λ_=>EF Z Z Z Z) (Ao [116,106] [] Z Z (λ_=>EF Z Z Z Z) (Ao [117,106] [] Z Z (λ_=>EF Z Z Z Z) (CB 26 Z Z Z (Ad 27 Z Z (AL Z Z Z Z (AD ⟨Z,?_⟩))))))));refine Ad 28 Z Z (J (B5 Z Z Z Z) (AD ⟨Z,?_⟩));refine CM (Bx Z Z (AC (AE (AB Z Z (AD (A4 ?_))))));exact ⟨_,[],[],A2 Z,Z,Z,Ab (Ld c u (s.2 7 (by unfold Jm;rw [b,θ l,ϱ (by first | (exact .inl (GZ a o A)) | (exact .inr (GZ a o (by assumption))))]) (by decide)) (by decide)),rfl⟩
       .refine AD ⟨Z,?_⟩;refine CG (Ao [1,106] [] Z Z (λ_=>Ck Z Z Z (AN Z MV Z Z Z)) (Au [107,106] Z Z (λ_=>Ck Z Z Z (AP Z Z Z Eh Z)) (Ao [8,106] [] Z Z (λ_=>Ck Z Z Z (P0 Z Z)) (Ao [108,109,106] [] Z Z (λ_=>Ck Z Z Z (BJ (m) Z Z (Z) (A5 g) cj Z Dh Z)) (Ao [110,106] [] Z Z (λ_=>Ck Z Z Z (Nc Z MC Z Z Z)) (Ao [111,106] [] Z Z (λ_=>Ck Z Z Z (CI Z Z An Z)) (Ao [1,106] [] Z Z (λ_=>Ck Z Z Z (AN Z MV Z Z Z)) (Au [113,106] Z Z (λ_=>Ck Z Z Z (AP Z Z Z Eh Z)) ?_))))))));refine Ao [6,106] [] Z Z (λ_=>Ck Z Z Z (P0 Z Z)) (Ao [114,115,106] [] Z Z (λ_=>Ck Z Z Z (BJ (k) Z Z (Z) (A5 a) cj Z Dh Z)) (Ao [116,106] [] Z Z (λ_=>Ck Z Z Z (Nc Z MC Z Z Z)) (Ao [117,106] [] Z Z (λ_=>Ck Z Z Z (CI Z Z An Z)) (CB 26 Z Z Z (Ad 27 Z Z (AQ Z Z Z (J (GF Z Z Z) (AD ⟨Z,?_⟩))))))));refine Ad 28 Z Z (J (Bk Z Z Z Z) (AD ⟨Z,?_⟩));refine CM (A9 Z (λR=>?_) (λR=>?_))
        .refine AC (AE (AB Z Z (AD (A4 ?_))));exact ⟨_,[],[],A2 Z,Z,Z,Ab (Ld c u (s.2 7 (by unfold Jm;rw [b,θ l,ϱ (by first | (exact .inl (GZ a o A)) | (exact .inr (GZ a o (by assumption))))]) (by decide)) (by decide)),rfl⟩
        .refine AX (AE (fZ Z Z (J (Al Z Z (AM (m+1) (by omega)) Z) (AB Z Z (AD ?_)))));exact ⟨m+1,⟨by show m+1<=_;omega,Gq g N (by simp_all),Gq g M (by simp_all)⟩,by show k - (m+1)<k - m;omega,AY t [1] Z (Z) Qs⟩
      .have v:¬(p.it[k].id∈(p.it.take k).map AI.id\/p.it[k].sq∈(p.it.take k).map AI.sq):=by have e:m=k:=by {have h:=G;omega};subst e;rintro (h | h);exact N h;exact M h
       refine Aw (AE (fZ Z Z (J (Al Z Z (AM (k+1) (by omega)) Z) (AB Z Z (AD ?_)))));exact ⟨k+1,⟨by show k+1<=_;omega,s.1 (by unfold Jm;rw [b,θ l,θ v])⟩,by show p.it.length - (k+1)<p.it.length - k;omega,AY t [1] Z (Z) ⟨Z,Z,trivial⟩⟩
    .refine Aw (AC (AC ?_));have P:Eu p.it=0:=by rw [C,jt (by have h:=H;simp only [gw];omega)];rfl
     refine AE (AB Z Z (AD (AZ (BO (α:=Nat) (λk=>⟨151,[(1,(.ptr 1 0 0)),(9,(.d (AF (k:Int))))],[(1,[EC 25 p])]⟩) (λk=>k<=p.it.length/\PO p.it=BM ((p.it.drop k).map (Pf (p.it.map AI.id)))) (λk=>p.it.length - k) (0) (⟨ζ _,Z⟩) (AY t [1] Z Z ⟨Z,Z,trivial⟩) ?_))));rintro k ⟨O,C⟩;refine AC ?_;refine AC (AE (fZ Z Z (J (AN Z MV Z Z Z) (J (AP Z Z Z Eh Z) (J (Ba Z cj Z) (J (BB Z Z Z) (AD (A9 Z (λz=>?_) (λz=>?_)))))))))
     .have a:k<p.it.length:=BR z;refine AX (AC (AZ (AC ?_)));have s:=kB a C;have B:=g3 _ (ξ a);refine AE (AB Z Z (AD (AZ (BO (α:=Nat) (λj=>⟨151,[(1,(.ptr 1 0 0)),(9,(.d (AF (k:Int)))),(10,(.d (AF (j:Int))))],[(1,[EC 25 p])]⟩) (λj=>j<=p.it[k].af.length/\∀x∈p.it[k].af.take j,x∈p.it.map AI.id) (λj=>p.it[k].af.length - j) (0) (⟨ζ _,by simp⟩) (AY t [1] Z Z Qs) ?_))));rintro j ⟨hj0,hj⟩;refine AC (AC (AE (fZ Z Z (J (AN Z MV Z Z Z) ?_))));refine J (AP Z Z Z Eh Z) (fZ Z Z (J (BJ (k) Z Z (Z) (A5 a) cj Z Dh Z) (J (Nc Z Cz Z Z Z) (J (CI Z Z BL Z) (J (Ba Z ch Z) (J (BB Z Z Z) (AD (A9 Z (λy=>?_) (λy=>?_)))))))))
      .have E:j<p.it[k].af.length:=BR y;refine AX (AC ?_);refine AZ (AC (CZ [[],[],[1],[],[1,2,3],[1,2,3,4],[1,2,3,4,5],[],[1,2,3,4,5,6,7],[1,2,3,4,5,6,7,8],rg 10,rg 11] mixed Z (CG (Au [1] Z Z (λ_=>Ae (Ay Z Z EM Z Z Z)) (AU [1] Z (AN Z MV Z Z Z) (Au [140] Z Z (λ_=>Ae (AP Z Z Z Eh Z)) (Av 9 Z Z (AU [141,142] Z (BJ (k) Z Z (Z) (A5 a) cj Z Dh Z) ?_))))))));refine AU [143] Z (Nc Z Cz Z Z Z) (AU [144] Z (CI Z Z BL Z) (Av 10 Z Z (AU [145,146] Z (BJ (j) Z Z (Z) (A5 E) ch Z BU Z) (AU [147] Z (CI Z Z An Z) (CB 10 Z Z Z (Ad 11 Z Z (J (As (Vz p p.it[k].af[j] (by omega)) Z Z) (AD ⟨Z,?_⟩))))))));refine Ad 12 Z Z (J (BB Z Z Z) (AD ⟨Z,?_⟩));refine CM (A9 Z (λw=>?_) (λw=>?_))
       .refine AC (AE (AB Z Z (AD (A4 ?_))));exact ⟨_,[],[],A2 Z,Z,Z,Ab (RQ c u P (s.2 9 (by unfold Pf;rw [ϱ (List.any_eq_true.2 ⟨_,ξ E,by unfold IZ;rw [gV (X3 w)];rfl⟩)]) (by decide))),Z⟩
       .refine AX (AE (fZ Z Z (J (Al Z Z (AM (j+1) (by omega)) Z) (AB Z Z (AD ?_)))));exact ⟨j+1,⟨by show j+1<=_;omega,by rw [ψ E];intro x D;rcases υ.1 D with D | D;exact hj x D;rw [η.1 D];exact Vp (by simpa using w)⟩,by show p.it[k].af.length - (j+1)<p.it[k].af.length - j;omega,AY t [1] Z (Z) Qs⟩
      .have Q:¬p.it[k].af.any (IZ (p.it.map AI.id))=true:=by rw [List.any_eq_true];rintro ⟨x,D,hn⟩;have S:=hj x (by rw [κ (by have h:=y;omega)];exact D);simp [IZ,S] at hn
       refine Aw (AE (fZ Z Z (J (Al Z Z (AM (k+1) (by omega)) Z) (AB Z Z (AD ?_)))));exact ⟨k+1,⟨by show k+1<=_;omega,s.1 (by unfold Pf;rw [θ Q])⟩,by show p.it.length - (k+1)<p.it.length - k;omega,AY t [1] Z (Z) ⟨Z,Z,trivial⟩⟩
     .refine Aw (AC (AE (AB Z Z (AD (A4 ?_)))));exact ⟨_,[],[],A2 Z,Z,Z,Ab (RQ c u P (by rw [C,DK (by have h:=z;omega)])),Z⟩
def Lv:List AI ->AI ->List AI
 | [],x=> [x]
 | a::l,x=>if ∀y∈a::l,EP x y<0 then x::a::l else a::Lv l x
theorem R8:∀{l:List AI} {x:AI} {k:Nat},k<=l.length ->(∀y∈l.drop k,EP x y<0) ->(∀(_:0<k) y,l[k - 1]? =some y ->¬EP x y<0) ->Lv l x=(l.take k++ [x])++l.drop k
 | [],x,0,_,_,_=>rfl
 | [],x,k+1,h,_,_=>by simp at h
 | a::l,x,0,_,h,_=>by simp only [Lv];rw [ϱ (by simpa using h)];rfl
 | a::l,x,k+1,o,h,g=>by
  have b:k<=l.length:=by simpa using o
  have f:k<(a::l).length:=Nat.lt_succ_of_le b;have j:¬∀y∈a::l,EP x y<0:=λc=>g (by omega) _ (ω f) (c _ (ξ f));simp only [Lv]
  rw [θ j,R8 (k:=k) b (by simpa using h) λr y i=>g (by omega) y (by
   obtain ⟨m,rfl⟩:∃m,k=m+1:=⟨k - 1,by omega⟩
   simpa using i)]
  simp
def BK (l:List AI):List AI:=l.foldl Lv []
theorem dM (l:List AI) (x:AI):(Lv l x).length=l.length+1:=by
 induction l with
 | nil=>rfl
 | cons a l b=>
  grind [Lv]
theorem Fc (l:List AI) (x:AI):BK (l++ [x])=Lv (BK l) x:=by simp [BK]
theorem aA (l:List AI):(BK l).length=l.length:=by
 induction l using Zp with
 | h0=>rfl
 | h1 l x a=>rw [Fc,dM,a];simp
theorem Sy (l:List AI) (x:l.length<=1000):AK prog 61 [.d (.sl none (l.map Ag))] (.sl none ((BK l).map Ag)):=by
 refine At func61 Z Z ntmps61 Z Z Z λF t=>(AC ?_);refine AE (AB Z Z (AD (AC (AE (AB Z Z (AD (AC (AC ?_))))))));refine Uk 3 Z ?_;refine AE (AB Z Z (AD (AZ (BO (α:=Nat×List AI) (λq=>⟨49,[(0,.d (.sl none (l.map Ag))),(3,(.d (.sl none (q.2.map Ag)))),(4,(.d (AF (q.1:Int))))],[]⟩) (λq=>q.1<=l.length/\q.2=BK (l.take q.1)) (λq=>l.length - q.1) ((0,[])) (⟨ζ _,Z⟩) (AY t [] Z Z Qs) ?_))));rintro ⟨k,a⟩ ⟨v,s⟩;dsimp only at v s⊢;refine AC (AC (AE (fZ Z Z (fZ Z Z (J (Ba Z cj Z) (J (BB Z Z Z) (AD (A9 Z (λo=>?_) (λo=>?_)))))))))
 .have g:k<l.length:=BR o;refine AX (AC (AZ (AC ?_)));have w:a.length<=1000:=by rw [s,aA,ϖ];omega
  refine AE (fZ Z Z (J (Ba Z cj Z) (AB Z Z (AD (AC (AZ (BO (α:=Nat) (λm=>⟨49,[(0,.d (.sl none (l.map Ag))),(3,(.d (.sl none (a.map Ag)))),(4,(.d (AF (k:Int)))),(5,(.d (AF (m:Int))))],[]⟩) (λm=>m<=a.length/\∀y∈a.drop m,EP l[k] y<0) (λm=>m) (a.length) (⟨Γ _,by simp⟩) (AY t [] Z Z E0) ?_)))))));rintro m ⟨r,u⟩;refine AC (AC (CZ [[],[0],[0,1],[0,1,2],[0,1,2],rg 5,rg 6,[0,1,2],[0,1,2],[0,1,2,8],[0,1,2,7,8,9],[0,1,2,7,8,9,10],rg 12,rg 13] mixed Z (Ad 1 Z Z (fZ Z Z (AD ⟨Z,?_⟩)))));refine Ad 2 Z Z (J (HF Z Z Z) (AD ⟨Z,?_⟩));refine Ad 3 Z Z (fZ Z Z (C3 17 Z (λj=>?_) (λj=>?_)))
  .refine AD ⟨Z,?_⟩;refine CG ?_
   try have f:m - 1<a.length:=by have h:=j;omega
   refine Ao [0,17] [] Z Z (λ_=>Ck Z Z Z (P0 Z Z)) (Ao [4,17] [] Z Z (λ_=>Ck Z Z Z (P0 Z Z)) (Ao [18,19,17] [] Z Z (λ_=>Ck Z Z Z (BJ (k) Z Z (Z) (A5 g) cj Z Dh Z)) (Ao [20,17] [] Z Z (λ_=>Ck Z Z Z (DM Z Z IC Z)) (Ao [3,17] [] Z Z (λ_=>Ck Z Z Z (P0 Z Z)) ?_))));refine Ao [5,17] [] Z Z (λ_=>Ck Z Z Z (P0 Z Z)) (Ao [23,17] [] Z Z (λ_=>Ck Z Z Z (PS Z Z (show IntKind.i64.wrap ((m:Int) - 1)=((m - 1:Nat):Int) from by rw [show ((m - 1:Nat):Int)=(m:Int) - 1 by omega];exact Ξ _ (by omega)) Z)) (Ao [22,24,17] [] Z Z (λ_=>Ck Z Z Z (BJ (m - 1) Z Z (Z) (A5 f) cj Z Dh Z)) (Ao [25,17] [] Z Z (λ_=>Ck Z Z Z (DM Z Z IC Z)) (CB 12 Z Z Z (Ad 13 Z Z (AQ Z Z Z (J (As (TA l[k] a[m - 1]) Z Z) (AD ⟨Z,?_⟩))))))));refine Ad 14 Z Z (J (B5 Z Z Z Z) (AD ⟨Z,?_⟩));refine CM (A9 Z (λi=>?_) (λi=>?_))
   .refine AX (AZ (AE (fZ Z Z (J (PS Z Z (show IntKind.i64.wrap ((m:Int) - 1)=((m - 1:Nat):Int) from by rw [show ((m - 1:Nat):Int)=(m:Int) - 1 by omega];exact Ξ _ (by omega)) Z) (AB Z Z (AD ?_))))));exact ⟨m - 1,⟨by show m - 1<=_;omega,by rw [kI f];intro y b;rcases Υ.1 b with b | b;rw [b];exact i;exact u y (by rw [show m - 1+1=m by omega] at b;exact b)⟩,by show m - 1<m;omega,AY t [] Z (Z) E0⟩
   .refine Aw (AC ?_);have c:∀(h:0<m) y,a[m - 1]? =some y ->¬EP l[k] y<0:=by first | (intro h y b;exact absurd h (by omega)) | (intro h y b;rw [ω f] at b;injection b with b;rw [<-b];exact i)
    refine AE (V (C5 20 LZ Z Z Z Z Z Z Z Z) (fZ Z Z (fZ Z Z (J (kC (a) (m) Z Z Z (Z) (by omega) cj Dh (λ_=>rfl) Z) (V (Qq (([]:List AI)) (a.take m) Z Z Z Z Z Z (λ_=>rfl) LZ (by simp only [jB,ϖ];omega) Z Z Z Z) (AB Z Z ?_))))));refine AD (AC (AE (fZ Z Z (fZ Z Z (fZ Z Z (J (BJ (k) Z Z (Z) (A5 g) cj Z Dh Z) (J (DM Z Z IC Z) (V (C5 21 LZ Z Z Z Z Z Z Z Z) ?_))))))));refine V (F2 (([]++a.take m)) ([l[k]]) Z Z Z Z Z Z Z Z LZ (by simp only [jC,ς,ϖ];omega) Z Z Z Z) ?_;refine AB Z Z (AD (AE (fZ Z Z (fZ Z Z (fZ Z Z (J (D1 (a) (m) Z Z Z (Z) (by omega) cj Dh (λ_=>rfl) Z) ?_))))));refine V (Qq ((([]++a.take m)++ [l[k]])) (a.drop m) Z Z Z Z Z Z (λ_=>rfl) LZ (by simp only [jC,Δ,ς,ϖ,jE];omega) Z Z Z Z) ?_;refine Ux (emb:=Ag) 47 20 ((([]++a.take m)++ [l[k]])++a.drop m) Z Z Z Z Z Z Z (AB Z Z (AD (AE (fZ Z Z (J (Al Z Z (AM (k+1) (by omega)) Z) (AB Z Z (AD ?_)))))));exact ⟨(k+1,_),⟨by show k+1<=_;omega,by show _=BK (l.take (k+1));rw [ψ g,Fc,<-s,R8 r u c];rfl⟩,by show l.length - (k+1)<l.length - k;omega,AY t [] Z (Z) Qs⟩
  .refine AD ⟨Z,?_⟩;refine CG ?_
   try have f:m - 1<a.length:=by have h:=j;omega
   refine Ao [0,17] [] Z Z (λ_=>EF Z Z Z Z) (Ao [4,17] [] Z Z (λ_=>EF Z Z Z Z) (Ao [18,19,17] [] Z Z (λ_=>EF Z Z Z Z) (Ao [20,17] [] Z Z (λ_=>EF Z Z Z Z) ?_)));refine Ao [3,17] [] Z Z (λ_=>EF Z Z Z Z) (Ao [5,17] [] Z Z (λ_=>EF Z Z Z Z) (Ao [23,17] [] Z Z (λ_=>EF Z Z Z Z) (Ao [22,24,17] [] Z Z (λ_=>EF Z Z Z Z) (Ao [25,17] [] Z Z (λ_=>EF Z Z Z Z) (CB 12 Z Z Z (Ad 13 Z Z (AL Z Z Z Z (AD ⟨Z,?_⟩))))))));refine Ad 14 Z Z (J (Bk Z Z Z Z) (AD ⟨Z,?_⟩));refine CM (Cm Z Z (Aw (AC ?_)));have c:∀(h:0<m) y,a[m - 1]? =some y ->¬EP l[k] y<0:=by first | (intro h y b;exact absurd h (by omega)) | (intro h y b;rw [ω f] at b;injection b with b;rw [<-b];exact i)
   refine AE (V (C5 20 LZ Z Z Z Z Z Z Z Z) (fZ Z Z (fZ Z Z (J (kC (a) (m) Z Z Z (Z) (by omega) cj Dh (λ_=>rfl) Z) (V (Qq (([]:List AI)) (a.take m) Z Z Z Z Z Z (λ_=>rfl) LZ (by simp only [jB,ϖ];omega) Z Z Z Z) (AB Z Z ?_))))));refine AD (AC (AE (fZ Z Z (fZ Z Z (fZ Z Z (J (BJ (k) Z Z (Z) (A5 g) cj Z Dh Z) (J (DM Z Z IC Z) (V (C5 21 LZ Z Z Z Z Z Z Z Z) ?_))))))));refine V (F2 (([]++a.take m)) ([l[k]]) Z Z Z Z Z Z Z Z LZ (by simp only [jC,ς,ϖ];omega) Z Z Z Z) ?_;refine AB Z Z (AD (AE (fZ Z Z (fZ Z Z (fZ Z Z (J (D1 (a) (m) Z Z Z (Z) (by omega) cj Dh (λ_=>rfl) Z) ?_))))));refine V (Qq ((([]++a.take m)++ [l[k]])) (a.drop m) Z Z Z Z Z Z (λ_=>rfl) LZ (by simp only [jC,Δ,ς,ϖ,jE];omega) Z Z Z Z) ?_;refine Ux (emb:=Ag) 47 20 ((([]++a.take m)++ [l[k]])++a.drop m) Z Z Z Z Z Z Z (AB Z Z (AD (AE (fZ Z Z (J (Al Z Z (AM (k+1) (by omega)) Z) (AB Z Z (AD ?_)))))));exact ⟨(k+1,_),⟨by show k+1<=_;omega,by show _=BK (l.take (k+1));rw [ψ g,Fc,<-s,R8 r u c];rfl⟩,by show l.length - (k+1)<l.length - k;omega,AY t [] Z (Z) Qs⟩
 .refine Aw (AC (AE (fZ Z Z (AB Z Z (AD (A4 ?_))))));exact ⟨_,[],[],A2 Z,Z,Z,by rw [s,κ (by have h:=o;omega)],Z⟩
def KM (l:List AI) (r:AT):List Int:=(l.filter λi=>decide (Bw i r<0)).map AI.id
theorem U1 (l:List FT) (b:l.length<=1000000):AK prog 86 [.d (.sl none (l.map B7))] (.sl none (l.map B7)):=by
 refine At func86 Z Z ntmps86 Z Z Z λF c=>(AC ?_);refine AE (AB Z Z (Xv 2 Z (AD (AC (AC (AE (fZ Z Z (Fj 3 Z (λa=>?_) ?_))))))))
 .refine J (E6 fW Z Z) (AD (Bx Z (Z) (AC (AE (AB Z Z (Xv 2 Z (AD (A4 ?_))))))));exact ⟨_,[],[],A2 Z,Z,Z,by first | (rw [a];done) | (rw [a]),rfl⟩
 .refine J (E6 fW Z Z) (AD ?_);refine Cm Z (Z) (AX (AC (AE (V (C5 20 Y7 Z Z Z Z Z Z Z Z) (fZ Z Z (V (Qq (([]:List FT)) (l) Z Z Z Z Z Z (λ_=>rfl) Y7 (by simp only [jB];omega) Z Z Z Z) (Ux (emb:=B7) 7 20 ([]++l) Z Z Z Z Z Z Z (AB Z Z ?_))))))));skip;refine AD (A4 ?_);exact ⟨_,[],[],A2 Z,Z,Z,Z,Z⟩
theorem U0 (l:List MW) (b:l.length<=1000000):AK prog 87 [.d (.sl none (l.map Cp))] (.sl none (l.map Cp)):=by
 refine At func87 Z Z ntmps87 Z Z Z λF c=>(AC ?_);refine AE (AB Z Z (Xv 2 Z (AD (AC (AC (AE (fZ Z Z (Fj 3 Z (λa=>?_) ?_))))))))
 .refine J (E6 fY Z Z) (AD (Bx Z (Z) (AC (AE (AB Z Z (Xv 2 Z (AD (A4 ?_))))))));exact ⟨_,[],[],A2 Z,Z,Z,by first | (rw [a];done) | (rw [a]),rfl⟩
 .refine J (E6 fY Z Z) (AD ?_);refine Cm Z (Z) (AX (AC (AE (V (C5 20 bD Z Z Z Z Z Z Z Z) (fZ Z Z (V (Qq (([]:List MW)) (l) Z Z Z Z Z Z (λ_=>rfl) bD (by simp only [jB];omega) Z Z Z Z) (Ux (emb:=Cp) 7 20 ([]++l) Z Z Z Z Z Z Z (AB Z Z ?_))))))));skip;refine AD (A4 ?_);exact ⟨_,[],[],A2 Z,Z,Z,Z,Z⟩
theorem eU (l:List Int) (b:l.length<=1000000):AK prog 89 [.d (.sl none (l.map AF))] (.sl none (l.map AF)):=by
 refine At func89 Z Z ntmps89 Z Z Z λF c=>(AC ?_);refine AE (AB Z Z (Xv 2 Z (AD (AC (AC (AE (fZ Z Z (Fj 3 Z (λa=>?_) ?_))))))))
 .refine J (E6 ch Z Z) (AD (Bx Z (Z) (AC (AE (AB Z Z (Xv 2 Z (AD (A4 ?_))))))));exact ⟨_,[],[],A2 Z,Z,Z,by first | (rw [a];done) | (rw [a]),rfl⟩
 .refine J (E6 ch Z Z) (AD ?_);refine Cm Z (Z) (AX (AC (AE (V (C5 20 BP Z Z Z Z Z Z Z Z) (fZ Z Z (V (Qq (([]:List Int)) (l) Z Z Z Z Z Z (λ_=>rfl) BP (by simp only [jB];omega) Z Z Z Z) (Ux (emb:=AF) 7 20 ([]++l) Z Z Z Z Z Z Z (AB Z Z ?_))))))));skip;refine AD (A4 ?_);exact ⟨_,[],[],A2 Z,Z,Z,Z,Z⟩
theorem mZ (i:AI) (c:i.po.length<=1000000) (b:i.pa.length<=1000000) (a:i.af.length<=1000000):AK prog 69 [.d (Ag i)] (Ag i):=by
 refine At func69 Z Z ntmps69 Z Z Z λF f=>(AC (AE (V (Bo 1 Z Z Z Z Z Z Z) (V (By 2 FG Z Z Z Z) ?_))));refine AD (AC (CZ [[],[0],[0,1],[],[3],rg 5,[],[6],rg 8,[0,1,2,3,4,6,7],rg 10,rg 11,rg 12,rg 13,rg 14] mixed Z (CG (AU [1] Z (AN Z G3 Z Z Z) (Ao [3] [1] Z Z (λ_=>Ae (AP Z Z Z Vd Z)) (AU [4] Z (As (U1 i.po c) Z Z) (AU [1] Z (AN Z Hj Z Z Z) (Ao [6] [1] Z Z (λ_=>Ae (AP Z Z Z Yu Z)) ?_))))))));refine AU [7] Z (As (U0 i.pa b) Z Z) (AU [1] Z (AN Z EV Z Z Z) (Ao [9] [1] Z Z (λ_=>Ae (AP Z Z Z BL Z)) (AU [10] Z (As (eU i.af a) Z Z) (AU [1] Z (AN Z G3 Z Z Z) (CB 10 Z Z Z (Ad 11 Z Z (V (B3 Z Z Z Z Z Z Z og) (AD ⟨Z,?_⟩))))))));refine Ad 12 Z Z (J (AN Z Hj Z Z Z) (AD ⟨Z,?_⟩));refine Ad 13 Z Z (V (B3 Z Z Z Z Z Z Z oe) (AD ⟨Z,?_⟩));refine Ad 14 Z Z (J (AN Z EV Z Z Z) (AD ⟨Z,?_⟩));refine Ad 15 Z Z (V (B3 Z Z Z Z Z Z Z DD) (AD ⟨Z,?_⟩));refine CM (AC (AE (J (Ay Z Z CP Z Z Z) (V (B3 Z Z Z Z Z Z Z Co) (AD (A4 ?_))))));exact ⟨_,[],[],A2 Z,Z,Z,Z,Z⟩
theorem tF {a:Hp} {f:Nat} {o:AJ} (h:fc a f=none) (b:TY o=true:=by rfl):Cb a f o=some ((f,[o])::a):=by simp only [Cb,h,b]
theorem nk {b:Hp} {f:Nat} {x:List AJ}:∀{a:List Nat},fi f a=false ->B8 ((f,x)::b) a=B8 b a
 | [],_=>rfl
 | g::r,h=>by
  have i:Nat.beq f g=false:=by
   cases hb:Nat.beq f g with
   | false=>rfl
   | true=>
    have e:=gx hb;subst e
    simp [fi] at h
  have c:fi f r=false:=by
   cases hb:fi f r with
   | false=>rfl
   | true=>simp [fi,hb] at h
  simp only [B8];rw [nk c];simp only [fc,i]
theorem YY (l:List Nat):KD l l=true:=by
 have b:∀(l m:List Nat),(∀x∈l,x∈m) ->KD l m=true:=λl=>by
  induction l with
  | nil=>intro m _;rfl
  | cons a r c=>intro m h;simp only [KD,gW];exact ⟨GS.2 (h a (by simp)),c m λx f=>h x (by simp [f])⟩
 grind
theorem EW {step:g ->a ->g×Bool} {x:a} {r:List a}:IG step j (x::r)=if (step j x).2=true then IG step (step j x).1 r else (step j x).1:=by grind [IG]
def encI (x:AI):List AV:=[.d (Ag x)]
section
variable {β:Type}
theorem ot (a:List AI) (y:a.length<=1000000) (l:Nat) (H:β ->Hp) (N:List Nat) (step:β ->AI ->β×Bool) (b:β) (o:∀c,iK (H c)=N) (C:∀c,Fn N (H c)=true) (v:∀c,B8 (H c) N=some (H c))
  (B:∀c,A7 990 (H c)=some (H c)) (z:∀c,fc (H c) 990=none) (A:fi 990 N=false)
  (u:Mr prog l encI H step b a):
  AO prog 164 [.d (.raw (DO l)),.d (.ptr (.sl none (a.map Ag)))] (H b) λr E=>r= .tup []/\E=H (IG step b a):=by
 refine At func164 Z Z ntmps164 Z Z Z λF D=>(AC (AE (J (CI Z Z JV Z) (J (Ba Z cl Z) (fZ Z Z (AD (AZ (G7 (α:=Nat×β) (λp=>⟨16,[(0,.d (.raw (DO l))),(5,(.d (.sl none (a.map Ag)))),(6,(.d (AF (a.length:Int)))),(7,(.d (AF (p.1:Int))))],H p.2⟩) (λp=>p.1<=a.length/\Mr prog l encI H step p.2 (a.drop p.1)/\IG step p.2 (a.drop p.1)=IG step b a) (λp=>a.length - p.1) ((0,b)) (⟨ζ _,u,Z⟩) (Zz E0) ?_))))))));rintro ⟨k,c⟩ ⟨t,i,f⟩;dsimp only at t i f⊢;refine AC (AE (J (BB Z Z Z) (AD (AC (A9 Z (λx=>?_) (λx=>?_))))))
 .have s:k<a.length:=BR x;refine AX (AC (AZ (AC (AE ?_))));have w:a.drop k=a[k]::a.drop (k+1):=kI s;rw [w] at i;refine J (BJ (k) Z Z (Z) (A5 s) cl Z Co Z) (J (DM Z Z CP Z) (V (By 990 FG Z (B _) (tF (z _)) Z) (V (B3 Z Z Z Z Z Z Z Co) (AD (AC ?_)))));refine AE (fZ Z Z (J (Ay Z Z CP Z Z Z) (pO [0,5,6,7,11,12] Z (pN N (D.trans (o b)) (YY N) ((nk A).trans (v _)) (cK i.1 Z Z (by rw [o,o]) (by rw [o];exact C _) Z Z (J (Mp Z Z) (AD (Iq Z (λj=>?_) (λj=>?_)))))))))
  .have g:(step c a[k]).2=false:=by simpa using j
   refine A4 ?_;exact ⟨_,N,_,A2 Z,v _,by rw [<-o b];exact Ej _,Z,by rw [<-f,w,EW,θ (by rw [g];decide)]⟩
  .have g:(step c a[k]).2=true:=by simpa using j
   refine AX (AE (J (Al Z Z (AM (k+1) (by omega)) Z) (fZ Z Z (AD ?_))));exact ⟨(k+1,(step c a[k]).1),⟨by show k+1<=_;omega,i.2 g,by rw [<-f,w,EW,ϱ g]⟩,by show a.length - (k+1)<a.length - k;omega,⟨Z,Z,λ_ _=>SU.get (l:=[(0,_),(5,_),(6,_),(7,_)]) E0⟩⟩
 .refine Aw ?_;exact ⟨_,N,_,A2 Z,v _,by rw [<-o b];exact Ej _,Z,by rw [<-f,jt (by have h:=x;omega)];rfl⟩
end
variable {a:List AI} {c:List Nat} {f:List AV} {T:TypeId} {g:Hp} {F:Fr}
theorem SR.freezeB {s:AS} {H:Nat ->Nat ->Value} {z:Act} {w:World} (h:SR F s H z w) (t i:Nat) (x:D) (L:List Nat) (hF:F.pn=c) (ht:get s.env t=some (.ptr i 0 0)) (J:fc s.hp i=some [.blk T f]) (K:f=x.cells.map .d) (V:∀k∈x.cells,k.one=true) (hf:fi i L=false) (I:KD c L=true) (E:B8 s.hp L=some g):SR F ⟨s.n,(t,.d (.ptr x))::s.env,g⟩ H z w:=by
 have Q:=h.only L hF I E;refine ⟨Q.size,Q.defs,λt' a Y=>?_,Q.heap⟩;rcases MU Y with ⟨rfl,rfl⟩ | ⟨_,Y⟩
 .have Z:=h.env t _ ht;have O:fb s.hp i 0=some (.blk T f):=by simp [fb,J,gl,iJ]
  obtain ⟨b,A,R,e2,e3,e4,e5⟩:=h.heap.sim i 0 _ O;show A6 _ _ _ _ (z.tmps.getD t undef)
  generalize z.tmps.getD t undef=v at Z
  cases Z with
  | @ptr _ _ _ G C=>
   rw [R] at C;injection C with C;injection C with C;injection C with C;subst C
   have hO:∀G,F.O H g G ->F.O H s.hp G:=λG r=>r.imp id λ⟨y,N,U,o,S⟩=>by
    obtain ⟨M,_⟩:=EO E;refine ⟨y,N,U,?_,S⟩;simp only [fb] at o⊢
    cases hh:fc g y with
    | none=>rw [hh] at o;cases o
    | some l=>rw [(M y l hh).2];rw [hh] at o;exact o
   have W:¬F.O H g b:=λr=>by
    rcases r with r | ⟨y,N,U,o,S⟩
    .exact h.heap.notOf ⟨i,0,_,O,by rw [R];rfl⟩ r
    .obtain ⟨M,_⟩:=EO E;simp only [fb] at o
     cases hh:fc g y with
     | none=>rw [hh] at o;cases o
     | some l=>
      have q3:fb s.hp y N=some U:=by simp only [fb];rw [(M y l hh).2];rw [hh] at o;exact o
      obtain ⟨e1',_⟩:=h.heap.inj y N i 0 _ _ b q3 O S (by rw [R];rfl);have:=GS.2 (M y l hh).1
      grind
   have B:A.length=x.cells.length:=by rw [e3,K,χ]
   refine .d (.ptr (λj=>A.getD j undef) (h.heap.ltO (.inr ⟨i,0,_,O,by rw [R];rfl⟩)) W V (λj k P=>?_) (λj k P=>?_))
   .have u:j<A.length:=by rw [B];exact (φ.1 P).1
    rw [iR,cell_of_row w b j A.toArray T (0,0) e2]
    simp [u]
   .have u:j<A.length:=by rw [B];exact (φ.1 P).1
    have X:=e4 j (.d k) A[j] (by rw [K,ν,P];rfl) (ω u);have hg:A.getD j undef=A[j]:=by simp [u]
    rw [hg]
    cases X with
    | d X=>exact X.mono (Γ _) (λ_ _ _=>rfl) λG _=>hO G
 .exact Q.env t' a Y
theorem QS {P:Program} {Q:Exit ->AS ->Prop} {j:Array Oper} {A:List Oper} {z:Nat} {i:List (Nat×AV)} {u:Hp} (t a:Nat) (x:D) (o:List Nat) (H:F.pn=c) (C:get i t=some (.ptr a 0 0)) (l:fc u a=some [.blk T f]) (v:f=x.cells.map .d) (r:∀b∈x.cells,b.one=true) (G:fi a o=false) (k:KD c o=true) (s:B8 u o=some g)
  (h:Aj P F j A Q ⟨z,(t,.d (.ptr x))::i,g⟩):Aj P F j A Q ⟨z,i,u⟩:=λB y w E=>h B y w (E.freezeB t a x o H C l v r G k s)
theorem aN (a:List AI):AO prog 121 [.d (.sl none (a.map Ag))] [] λr g=>r= .fn 164 [.d (.ptr (.sl none (a.map Ag)))]/\g=[]:=by
 refine At func121 Z Z ntmps121 Z Z Z λF f=>(AC (AE (V (Bo 1 Z Z Z Z Z Z Z) ?_)));refine AB Z Z (AD (AC (AE (QS 1 1 (.sl none (a.map Ag)) [] f Z Z Z (by intro c b;simp [D.cells] at b;subst b;rfl) Z Z Z (J (qw Z Z) (AB Z Z (AD (A4 ?_))))))));exact ⟨_,[],[],A2 Z,Z,Z,Z,Z⟩
abbrev hV (q:List AI):Hp:=[(920,[.rowD 55 6 (q.map Ag)]),(1,[.blk 37 [.own 920 0 q.length]])]
def Wg (q:List AI) (x:AI):List AI×Bool:=(q++ [x],true)
theorem UC:∀(l q:List AI),IG Wg q l=q++l
 | [],q=>by simp [IG]
 | x::l,q=>by rw [EW];show (if true=true then IG Wg (q++ [x]) l else _)=_;rw [ϱ Z,UC l];simp
theorem Qc {P:Program} {l:Nat} {H:List AI ->Hp} {n:Nat} (b:∀q x,q.length<n ->G9 P l (encI x) (H q) λv c=>v= .d (.raw (.bool true))/\c=H (q++ [x])):∀(a q:List AI),q.length+a.length<=n ->Mr P l encI H Wg q a
 | [],_,_=>trivial
 | x::a,q,h=>⟨b q x (by simp at h;omega),λ_=>Qc b a (q++ [x]) (by simp at h⊢;omega)⟩
theorem et (a:List AI) (b:a.length<=1000000):AO prog 210 [.d (.sl (some true) []),.fn 164 [.d (.ptr (.sl none (a.map Ag)))]] [] λr g=>r= .own 920 0 a.length/\g=[(920,[.rowD 55 6 (a.map Ag)])]:=by
 refine PP func210 Z Z ntmps210 Z Z Z λF f c=>(AC (AE (V (Bo 1 Z Z Z Z Z Z Z) ?_)));refine AB Z Z (AD (AC (AC (Zw 1 0 0 920 LY Z Z Z Z Z Z Z (AE (fZ Z Z (AD (AZ ?_))))))));refine fG [2,6] Z ?_;refine Xt (γ:=Unit) c 900 Z Z Z Z Z [1,920] (CHr:=hV []) (λ_=>True) (λ_=>hV a) (λ_=> .ready) (λ_=>none) ⟨Z,Z,trivial⟩ Z Z Z (λ_=>rfl) (λ_=>rfl) Z (λ_ _=>by simp) (λ_ _=>⟨Z,Z⟩) [920,1] f Z Z (λ_ _=>rfl) (λl A B i h=>?_) (λ_ _=>?_)
 .refine (ot a b l (λq:List AI=>(900,[.loop ⟨l,13,[(2,.ptr 1 0 0),(6,.fn 164 [.d (.ptr (.sl none (a.map Ag)))])],.ready,none, #[7],A,B⟩])::hV q) [900,920,1] Wg [] (λ_=>rfl) (λ_=>rfl) (λ_=>rfl) (λ_=>rfl) (λ_=>rfl) Z ?_).mono (λr g ⟨k,j⟩=>⟨k,(),trivial,by rw [j,UC];rfl⟩);refine Qc (n:=a.length) (λq x s=>?_) a [] (by simp);refine SY (lf:=900) Z Z Z Z λF f o=>?_;show CA _ _ A _ _;rw [i];refine AE (V (By 2 FG Z Z Z Z) (V (B3 Z Z Z Z Z Z Z Co) (AD (⟨Z,_,_,Z,Z,Z,Z,?_⟩))));show CA _ _ B _ _;rw [h];refine AZ (AE (J (AP Z Z Z JV Z) (J (Ay Z Z CP Z Z Z) (V (C5 30 LY Z Z Z Z Z Z Z Z) (V (F2 (q) ([x]) Z Z Z Z Z Z Z Z LY (by simp only [ς];omega) Z Z Z Z) (V (B3 Z Z Z Z Z Z Z k7) (AD ?_)))))));exact ⟨none,_,_,[900,920,1],_,Z,Z,Z,Z,Z,Z,Z,Z⟩
 .refine AC (AE (J (AP Z Z Z JV Z) (AB Z Z (AD (A4 ?_)))));exact ⟨_,[920],_,A2 Z,Z,Z,Z,Z⟩
theorem i4 (l:List AI) (x:AI):(Lv l x).Perm (x::l):=by
 induction l with
 | nil=>exact List.Perm.refl _
 | cons a l b=>
  grind [Lv]
theorem Tp (h:a.Pairwise λc b=>¬EP b c<0) (x:AI):(Lv a x).Pairwise λc b=>¬EP b c<0:=by
 induction a with
 | nil=>simp [Lv]
 | cons c a k=>
  rw [jA] at h;simp only [Lv]
  split
  .rename_i g
   exact jA.2 ⟨λy i=>by have s:=g y i;have r:=Dp.anti x y;omega,jA.2 h⟩
  .rename_i o
   refine jA.2 ⟨λy i=>?_,k h.2⟩;rcases Υ.1 ((i4 a x).mem_iff.1 i) with rfl | i
   .intro f;refine o λz j=>?_;rcases Υ.1 j with rfl | j
    .exact f
    .have s:=h.1 z j;have r:=Dp.anti c z
     by_cases e:EP c z=0
     .have v:=Dp.eqv c z y e;have u:=Dp.anti c y;have t:=Dp.anti z y;omega
     .exact Dp.trans _ _ _ f (by omega)
   grind
theorem Zs (l:List AI):(BK l).Perm l:=by
 induction l using Zp with
 | h0=>exact List.Perm.refl _
 | h1 l x a=>
  grind [Fc,i4]
theorem RG (l:List AI):(BK l).Pairwise λa b=>¬EP b a<0:=by
 induction l using Zp with
 | h0=>exact List.Pairwise.nil
 | h1 l x c=>rw [Fc];exact Tp c x
theorem Ys {a b:AI} (h:EP a b=0):a.sq=b.sq:=by
 unfold EP at h;simp only [BM] at h
 split at h
 .split at h
  .rename_i c;exact Qk.1 c
  omega
 omega
theorem Pu (f:(a.map AI.sq).Nodup) (h:a.Pairwise λc b=>¬EP b c<0):a.Pairwise λc b=>EP c b<0:=by
 rw [List.Nodup,iW] at f;refine (h.and f).imp λ{c b} ⟨j,i⟩=>?_;have g:=Dp.anti c b
 grind [Ys]
theorem Ww {c f:List AI} (g:(c.map AI.sq).Nodup) (h:f.Perm c) (i:f.Pairwise λa b=>¬EP b a<0):f=BK c:=
 DP (R:=λa b=>EP a b<0) (λx=>by rw [Dp.refl];omega) (λx y z=>Dp.trans x y z) (Pu ((h.map _).nodup_iff.2 g) i) (Pu (((Zs c).map _).nodup_iff.2 g) (RG c)) λx=>by rw [h.mem_iff,(Zs c).mem_iff]
theorem Tk (x:AI):∃a,Ag x= .agg a:=⟨_,Z⟩
abbrev sG (its:List AI):AV:= .fn 164 [.d (.ptr (.sl none (its.map Ag)))]
theorem Z8 (a:List AI) (b:a.length<=1000000):AO prog 163 [sG a] [] λr c=>r= .own 920 0 a.length/\c=[(920,[.rowD 55 6 (a.map Ag)])]:=by
 refine At func163 Z Z ntmps163 Z Z Z λF f=>(AC (AE ?_));refine AB Z Z (AD (AC (AE (fZ Z Z (V (FE (et a b) Z [920] ⟨Z,trivial⟩ Z Z Z Z Z Z Z Z Z) (AB Z Z (AD (A4 ?_))))))));exact ⟨_,[920],_,A2 Z,Z,Z,Z,Z⟩
theorem Y3 (a:List AI) (b:a.length<=1000000) (c:(a.map AI.sq).Nodup):AK prog 120 [sG a,.d (.raw (.func (.func 122) #[] #[]))] (.sl none ((BK a).map Ag)):=by
 refine At func120 Z Z ntmps120 Z Z Z λF i=>(AC (AE (AB Z Z (AD (AC ?_)))));refine AE (fZ Z Z (V (FE (Z8 a b) Z [920] ⟨Z,trivial⟩ Z Z Z Z Z Z Z Z Z) (AB Z Z (AD (AC (AE (fZ Z Z (fZ Z Z ?_))))))));refine V (NK nw (k:=6) (by decide) isAgg55 sizeOf55 func122 Z Z Tk EP Dp.swo a (BK a) (by omega) (λx _ y _=>Wv x y) (λh g f=>Ww c g f) Z Z Z MG Z Z Z Z Z) (AD (AC (LL (emb:=Ag) 5 920 (BK a) Z Z Z (aA a).symm Z Z Z (AE (fZ Z Z (AB Z Z (AD (A4 ?_))))))));exact ⟨_,[],[],A2 Z,Z,Z,Z,Z⟩
theorem Md (h:Eu a=0):(a.map AI.sq).Nodup:=by
 have f:=Ul.1 h;rw [List.Nodup,iW,iS];intro i j g b c e;have:=f j (Ψ.2 b)
 grind [Jm,GZ]
theorem PR {p:fj} (h:Az p=0):Dn p.ro=0/\Eu p.it=0/\PO p.it=0:=by
 unfold Az at h
 split at h; · cases h
 have a:=Gu h
 simp_all
def fk (p:fj):List AI:=if Az p=0 then BK p.it else []
theorem Lc (p:fj) (f:E1 p):AK prog 68 [.d (Bq p)] (.sl none ((fk p).map Ag)):=by
 have a:=Gn p f;obtain ⟨_,h,_⟩:=f
 by_cases b:Az p=0
 rw [b] at a;have c:fk p=BK p.it:=ϱ b;rw [c];refine At func68 Z Z ntmps68 Z Z Z λF g=>(AC (AE (V (Bo 1 Z Z Z Z Z Z Z) ?_)));refine AB Z Z (AD (AC (AC (AE (J (Ay Z Z Bl Z Z Z) (J (As (a) Z Z) (J (Cw Z Z Z) (AD ?_))))))));refine Cm Z ((by decide)) (AX (AC (AE (J (AN Z DA Z Z Z) (J (AP Z Z Z JV Z) (V (FE (aN p.it) Z [] trivial Z Z Z Z Z Z Z Z Z) (J (As (Y3 p.it (by omega) (Md (PR b).2.1)) Z Z) (AB Z Z ?_))))))))
 rotate_left
 have c:fk p=[]:=θ b;rw [c];refine At func68 Z Z ntmps68 Z Z Z λF g=>?_;refine AC (AE (V (Bo 1 Z Z Z Z Z Z Z) (AB Z Z (Xv 2 Z (AD (AC (AC (AE ?_))))))));refine J (Ay Z Z Bl Z Z Z) (J (As (a) Z Z) (J (Cw Z Z Z) (AD (Bx Z ((by simpa using b)) (AC (AE (AB Z Z (Xv 2 Z ?_))))))))
 all_goals
  refine AD (A4 ?_);exact ⟨_,[],[],A2 Z,Z,Z,Z,Z⟩
theorem Do (p:fj):(fk p).length<=p.it.length:=by unfold fk;split<;>simp [aA]
theorem IW {p:fj} {i:AI} (h:i∈fk p):i∈p.it:=by grind [fk,Zs]
theorem IV (p:fj) (l:E1 p):AK prog 33 [.d (Bq p)] (.sl none (((fk p).map AI.id).map AF)):=by
 have c:=Lc p l;have f:=Do p;have r:=l.2.1
 obtain ⟨S,t⟩:∃S,fk p=S:=⟨_,Z⟩
 rw [t] at c f⊢;refine At func33 Z Z ntmps33 Z Z Z λF o=>(AC (AE ?_));refine V (Bo 1 Z Z Z Z Z Z Z) (AB Z Z (AD (AC (AE (AB Z Z (AD (AC (AC ?_))))))));refine NG 3 900 BP Z Z Z Z (AE (J (Ay Z Z Bl Z Z Z) (J (As (c) Z Z) (J (Ba Z cl Z) (fZ Z Z (AD (AZ (BO (α:=Nat×List Int) (λq=>⟨20,[(3,(.own 900 0 q.2.length)),(7,(.d (.sl none (S.map Ag)))),(8,(.d (AF (S.length:Int)))),(9,(.d (AF (q.1:Int))))],[(900,[.rowD 3 1 (q.2.map AF)])]⟩) (λq=>q.1<=S.length/\q.2=(S.take q.1).map AI.id) (λq=>S.length - q.1) ((0,[])) (⟨ζ _,Z⟩) (AY o [900] Z Z E0) ?_))))))));rintro ⟨k,b⟩ ⟨j,i⟩;dsimp only at j i⊢;refine AC (AE (J (BB Z Z Z) (AD (AC (A9 Z (λa=>?_) (λa=>?_))))))
 .have g:k<S.length:=BR a;refine AX (AC (AZ (AC (AE ?_))));have s:b.length<=100000:=by rw [i,χ,ϖ];omega
  refine J (BJ (k) Z Z (Z) (A5 g) cl Z Co Z) (J (DM Z Z CP Z) (V (By 2 FG Z Z Z Z) (V (B3 Z Z Z Z Z Z Z Co) (AD (AE (fZ Z Z (J (AN Z PQ Z Z Z) ?_)))))));refine J (AP Z Z Z An Z) (V (C5 3 BP Z Z Z Z Z Z Z Z) (V (F2 (b) ([S[k].id]) Z Z Z Z Z Z Z Z BP (by simp only [ς];omega) Z Z Z Z) (AB Z Z (AD (AE (J (Al Z Z (AM (k+1) (by omega)) Z) (fZ Z Z (AD ?_))))))));exact ⟨(k+1,_),⟨by show k+1<=_;omega,by show _=(S.take (k+1)).map AI.id;rw [EH g,<-i]⟩,by show S.length - (k+1)<S.length - k;omega,AY o [900] Z (Z) E0⟩
 .refine Aw (AC (LL (emb:=AF) 3 900 b Z Z Z Z Z Z Z (AE (fZ Z Z (AB Z Z (AD (A4 ?_)))))));exact ⟨_,[],[],A2 Z,Z,Z,by rw [i,κ (by have h:=a;omega)],Z⟩
theorem kq (p:fj) (r:AT) (t:E1 p):AK prog 173 [.d (Bq p),.d (Bc r)] (.sl none ((KM (fk p) r).map AF)):=by
 have j:=Lc p t;have l:=Do p;have x:=t.2.1;have b:∀i∈fk p,i.po.length<=100000/\i.pa.length<=100000/\i.af.length<=100000:=λi v=>t.2.2 i (IW v)
 obtain ⟨S,z⟩:∃S,fk p=S:=⟨_,Z⟩
 rw [z] at j l b⊢;refine At func173 Z Z ntmps173 Z Z Z λF u=>(AC (AE (V (Bo 1 Z Z Z Z Z Z Z) ?_)));refine V (Bo 2 Z Z Z Z Z Z Z) (AB Z Z (AD (AC (AE (AB Z Z (AD (AC (AC ?_))))))));refine NG 5 900 BP Z Z Z Z (AE (J (Ay Z Z Bl Z Z Z) (J (As (j) Z Z) (J (Ba Z cl Z) (fZ Z Z (AD (AZ (BO (α:=Nat×List Int) (λq=>⟨26,[(3,(.ptr 2 0 0)),(5,(.own 900 0 q.2.length)),(9,(.d (.sl none (S.map Ag)))),(10,(.d (AF (S.length:Int)))),(11,(.d (AF (q.1:Int))))],[(2,[.blk 64 [.d (AF r.k),.d (Am r.acc.o),.d (AF r.acc.k),.d (Am r.acc.a),.d (Am r.f),.d (Am r.t)]]),(900,[.rowD 3 1 (q.2.map AF)])]⟩) (λq=>q.1<=S.length/\q.2=KM (S.take q.1) r) (λq=>S.length - q.1) ((0,[])) (⟨ζ _,Z⟩) (AY u [2,900] Z Z F0) ?_))))))));rintro ⟨k,g⟩ ⟨s,o⟩;dsimp only at s o⊢;refine AC (AE (J (BB Z Z Z) (AD (AC (A9 Z (λf=>?_) (λf=>?_))))))
 .have a:k<S.length:=BR f;refine AX (AC (AZ (AC (AE ?_))));have w:=b _ (ξ a);have y:g.length<=100000:=by rw [o];unfold KM;rw [χ];have:=gz (λi=>decide (Bw i r<0)) (S.take k);rw [ϖ] at this;omega
  refine J (BJ (k) Z Z (Z) (A5 a) cl Z Co Z) (J (DM Z Z CP Z) (V (By 3 FG Z Z Z Z) (V (B3 Z Z Z Z Z Z Z Co) ?_)));refine AD (AC (AE (J (Ay Z Z CP Z Z Z) (J (Ay Z Z Cc Z Z Z) (J (As (Xk S[k] r (by omega) (by omega) (by omega)) Z Z) (J (BB Z Z Z) (AD (A9 Z (λc=>?_) (λc=>?_)))))))))
  .refine AE (fZ Z Z (J (AN Z PQ Z Z Z) ?_));refine J (AP Z Z Z An Z) (V (C5 4 BP Z Z Z Z Z Z Z Z) (V (F2 (g) ([S[k].id]) Z Z Z Z Z Z Z Z BP (by simp only [ς];omega) Z Z Z Z) (AB Z Z (AD (AE (J (Al Z Z (AM (k+1) (by omega)) Z) (fZ Z Z (AD ?_))))))));exact ⟨(k+1,_),⟨by show k+1<=_;omega,by show _=KM (S.take (k+1)) r;unfold KM;rw [En a,ϱ (by simpa using c),Ω,o];rfl⟩,by show S.length - (k+1)<S.length - k;omega,AY u [2,900] Z (Z) F0⟩
  .refine AX (AE (J (Al Z Z (AM (k+1) (by omega)) Z) (fZ Z Z (AD ?_))));exact ⟨(k+1,_),⟨by show k+1<=_;omega,by show _=KM (S.take (k+1)) r;unfold KM;rw [En a,θ (by simpa using c),iC,o];rfl⟩,by show S.length - (k+1)<S.length - k;omega,AY u [2,900] Z (Z) F0⟩
 .refine Aw (AC (LL (emb:=AF) 5 900 g Z Z Z Z Z Z Z (AE (fZ Z Z (AB Z Z (AD (A4 ?_)))))));exact ⟨_,[],[],A2 Z,Z,Z,by rw [o,κ (by have h:=f;omega)],Z⟩
def O6 (l:List AI) (id:Int):AI×Bool:=match l.find? λx=>decide (x.id=id) with
 | some x=>(x,true)
 | none=>(Af,false)
theorem Tm {id:Int} {k:Nat} (b:k<a.length) (c:id∉(a.take k).map AI.id) (h:a[k].id=id):O6 a id=(a[k],true):=by
 have:a.find? (λx=>decide (x.id=id))=some a[k]:=by
  grind [List.find?_eq_some_iff_getElem,GZ]
 unfold O6;rw [this]
theorem dG {id:Int} (h:id∉a.map AI.id):O6 a id=(Af,false):=by grind [O6]
theorem ZU:∀w O v,AW w O (.agg [AF 0,AF 0,AF 0,.sl (some true) [],.sl (some true) [],.sl (some true) []]) v ->AW w O (Ag Af) v:=λw O v h=>h.aggMono Z (by simp [D.one]) λi c g b a v f=>by
 match i,b,a with
 | 0,b,a=>injection b with b;injection a with a;subst b a;exact f
 | 1,b,a=>injection b with b;injection a with a;subst b a;exact f
 | 2,b,a=>injection b with b;injection a with a;subst b a;exact f
 | 3,b,a=>injection b with b;injection a with a;subst b a;exact f.anyNil
 | 4,b,a=>injection b with b;injection a with a;subst b a;exact f.anyNil
 | 5,b,a=>injection b with b;injection a with a;subst b a;exact f.anyNil
theorem qA (p:fj) (id:Int) (o:E1 p):AK prog 24 [.d (Bq p),.d (AF id)] (.tup [Ag (O6 (fk p) id).1,Ah (O6 (fk p) id).2]):=by
 have g:=Lc p o;have j:=Do p;have v:=o.2.1;have b:∀i∈fk p,i.po.length<=100000/\i.pa.length<=100000/\i.af.length<=100000:=λi t=>o.2.2 i (IW t)
 obtain ⟨S,w⟩:∃S,fk p=S:=⟨_,Z⟩
 rw [w] at g j b⊢;refine At func24 Z Z ntmps24 Z Z Z λF r=>(AC (AE (V (Bo 1 Z Z Z Z Z Z Z) (V (By 2 FG Z Z Z Z) (AB Z Z (AD (AC ?_)))))));refine AC (AE (J (Ay Z Z Bl Z Z Z) (J (As (g) Z Z) (J (Ba Z cl Z) (fZ Z Z (AD (AZ (BO (α:=Nat) (λk=>⟨23,[(1,.d (AF id)),(4,(.ptr 2 0 0)),(9,(.d (.sl none (S.map Ag)))),(10,(.d (AF (S.length:Int)))),(11,(.d (AF (k:Int))))],[(2,[.blk 55 [.d (AF 0),.d (AF 0),.d (AF 0),JW,JW,JW]])]⟩) (λk=>k<=S.length/\id∉(S.take k).map AI.id) (λk=>S.length - k) (0) (⟨ζ _,by simp⟩) (AY r [2] Z Z F0) ?_))))))));rintro k ⟨s,l⟩;refine AC (AE (J (BB Z Z Z) (AD (AC (A9 Z (λf=>?_) (λf=>?_))))))
 .have a:k<S.length:=BR f;refine AX (AC (AZ (AC (AE ?_))));have u:=b _ (ξ a);refine J (BJ (k) Z Z (Z) (A5 a) cl Z Co Z) (J (DM Z Z CP Z) (V (By 3 FG Z Z Z Z) (V (B3 Z Z Z Z Z Z Z Co) ?_)));refine AD (AC (AE (J (AN Z PQ Z Z Z) (J (AP Z Z Z An Z) (fZ Z Z (J (GF Z Z Z) (AD (A9 Z (λc=>?_) (λc=>?_)))))))))
  .refine AC (AE (J (Ay Z Z CP Z Z Z) (J (As (mZ S[k] (by omega) (by omega) (by omega)) Z Z) (V (B3 Z Z Z Z Z Z Z Co) (AB Z Z (AD (A4 ?_)))))));exact ⟨_,[],[],A2 Z,Z,Z,by rw [Tm a l c],Z⟩
  .refine AX (AE (J (Al Z Z (AM (k+1) (by omega)) Z) (fZ Z Z (AD ?_))));exact ⟨k+1,⟨by show k+1<=_;omega,Gq a l c⟩,by show S.length - (k+1)<S.length - k;omega,AY r [2] Z (Z) F0⟩
 .refine Aw (AC (AE (J (FD FG pC Z Z Z) (XG 22 (Ag Af) Z ZU (V (B3 Z Z Z Z Z Z Z Co) (AB Z Z (AD (A4 ?_))))))));exact ⟨_,[],[],A2 Z,Z,Z,by rw [dG (by rw [κ (by have h:=f;omega)] at l;exact l)],Z⟩
theorem lc (i:(a.map AI.id).Nodup) {x y:AI} (c:x∈a) (g:y∈a) (h:x.id=y.id):x=y:=by
 induction a with
 | nil=>cases c
 | cons b a f=>
  grind
theorem D9 (h:Eu a=0):(a.map AI.id).Nodup:=by
 have f:=Ul.1 h;rw [List.Nodup,iW,iS];intro i j g b c e;have:=f j (Ψ.2 b)
 grind [Jm,GZ]
theorem s8 (p:fj) (h:rO p):AK prog 13 [.d (Bq p)] (Bq p):=by
 obtain ⟨y,x,w⟩:=h;refine At func13 Z Z ntmps13 Z Z Z λF l=>(AC (AE (V (Bo 1 Z Z Z Z Z Z Z) (V (By 2 P3 Z Z Z Z) (AD (AC (AE (V (By 3 P3 Z Z Z Z) ?_))))))));refine AD (AC (AC (Zw 3 0 0 901 My Z Z Z Z Z Z Z (AE (AB Z Z (AD (AZ (BO (α:=List Ac) (λb=>⟨51,[(1,(.ptr 1 0 0)),(2,(.ptr 2 0 0)),(3,(.ptr 3 0 0)),(4,(.d (AF (b.length:Int))))],[(901,[.rowD 88 7 (b.map Bv)]),(1,[EC 25 p]),(2,[.blk 39 [JW,JW]]),(3,[.blk 39 [.own 901 0 b.length,JW]])]⟩) (λb=>b=p.ro.take b.length/\b.length<=p.ro.length) (λb=>p.ro.length - b.length) ([]) (⟨by simp,ζ _⟩) (AY l [901,1,2,3] Z Z E0) ?_))))))));rintro b ⟨s,u⟩;refine AC ?_;refine AC (AE (fZ Z Z (J (AN Z C8 Z Z Z) (J (AP Z Z Z IY Z) (J (Ba Z ek Z) (J (BB Z Z Z) (AD (A9 Z (λj=>?_) (λj=>?_)))))))))
 .have f:b.length<p.ro.length:=BR j;refine AX (AC (AZ (CZ [[],[0],[],[2],[],[2,3,4],[2,3,4,5],[2,3,4,5,6],[2,3,4,5,6,7],[],[9],[],[9,10,11],[9,10,11,12],[9,10,11,12,13],[2,3,4,5,6,7,8,9,10,11,12,13,14],[2,3,4,5,6,7,8,9,10,11,12,13,14,15],rg 17,rg 18,rg 19] mixed Z (CG (AU [3] Z (AN Z Dx Z Z Z) (Au [13] Z Z (λ_=>Ae (AP Z Z Z ON Z)) (AU [1] Z (AN Z C8 Z Z Z) ?_)))))));refine Au [15] Z Z (λ_=>Ae (AP Z Z Z IY Z)) (Av 4 Z Z (AU [16,17] Z (BJ (b.length) Z Z (Z) (A5 f) ek Z J4 Z) (AU [18] Z (WX Z JN Z Z Z) (AU [19] Z (DM Z Z GV Z) (AU [20] Z (As (bx p.ro[b.length].r) Z Z) (AU [1] Z (AN Z C8 Z Z Z) (Au [22] Z Z (λ_=>Ae (AP Z Z Z IY Z)) (Av 4 Z Z ?_))))))));refine AU [23,24] Z (BJ (b.length) Z Z (Z) (A5 f) ek Z J4 Z) (AU [25] Z (Nc Z Rr Z Z Z) (AU [26] Z (CI Z Z GE Z) (AU [21,27] Z (FD Qw pB Z Z Z) (HC [28] [50] [(29,_)] Z Z (λ_=>HD (C5 50 My Z Z Z Z Z Z Z Z)) (.inr ⟨29,_,Z,Z,Z,Z,Z⟩) Z Z Z Z Z (CB 17 Z Z Z (Ad 18 Z Z (V (F2 (b) ([p.ro[b.length]]) Z Z Z Z Z Z Z Z My (by simp only [ς];omega) Z Z Z Z) (AD ⟨Z,?_⟩))))))));refine Ad 19 Z Z (J (AN Z Dx Z Z Z) (AD ⟨Z,?_⟩));refine Ad 20 Z Z (V (B3 Z Z Z Z Z Z Z oh) (AD ⟨Z,?_⟩));refine CM (AE (fZ Z Z (J (Al Z Z (SZ b p.ro[b.length] (by omega)) Z) (AB Z Z (AD ?_)))));exact ⟨b++ [p.ro[b.length]],⟨NJ s f,by rw [Δ];show b.length+1<=_;omega⟩,by rw [Δ];show p.ro.length - (b.length+1)<p.ro.length - b.length;omega,AY l [901,1,2,3] Z (Z) E0⟩
 .refine Aw (AC (AC ?_));have k:=Qy s (λh=>j (by omega));refine Zy (ys:=p.ro.map Bv) 3 0 0 901 Z Z Z (by simp) (by rw [k];exact κ (by simp)) Z Z Z Z Z Z (Zw 3 0 1 902 LY Z Z Z Z Z Z Z (AE (AB Z Z (AD (AZ (BO (α:=List AI) (λa=>⟨51,[(1,(.ptr 1 0 0)),(2,(.ptr 2 0 0)),(3,(.ptr 3 0 0)),(5,(.d (AF (a.length:Int))))],[(902,[.rowD 55 6 (a.map Ag)]),(1,[EC 25 p]),(2,[.blk 39 [JW,JW]]),(3,[.blk 39 [.d (.sl none (p.ro.map Bv)),.own 902 0 a.length]])]⟩) (λa=>a=p.it.take a.length/\a.length<=p.it.length) (λa=>p.it.length - a.length) ([]) (⟨by simp,ζ _⟩) (AY l [902,1,2,3] Z Z E0) ?_))))));rintro a ⟨o,t⟩;refine AC ?_;refine AC (AE (fZ Z Z (J (AN Z MV Z Z Z) (J (AP Z Z Z Eh Z) (J (Ba Z cj Z) (J (BB Z Z Z) (AD (A9 Z (λi=>?_) (λi=>?_)))))))))
  .have c:a.length<p.it.length:=BR i;refine AX ?_;refine AC (AZ (CZ [[],[0],[],[2],[],[2,3,4],[2,3,4,5],[2,3,4,5,6],[2,3,4,5,6,7],rg 9,rg 10,rg 11] mixed Z (CG (AU [3] Z (AN Z DA Z Z Z) (Au [39] Z Z (λ_=>Ae (AP Z Z Z JV Z)) (AU [1] Z (AN Z MV Z Z Z) (Au [41] Z Z (λ_=>Ae (AP Z Z Z Eh Z)) (Av 5 Z Z ?_))))))));have v:=w _ (ξ c);refine AU [42,43] Z (BJ (a.length) Z Z (Z) (A5 c) cj Z Dh Z) (AU [44] Z (DM Z Z IC Z) (AU [45] Z (As (Yn p.it[a.length] (by omega) (by omega) (by omega)) Z Z) (HC [46] [51] [(47,_)] Z Z (λ_=>HD (C5 51 LY Z Z Z Z Z Z Z Z)) (.inr ⟨47,_,Z,Z,Z,Z,Z⟩) Z Z Z Z Z (CB 9 Z Z Z (Ad 10 Z Z (V (F2 (a) ([p.it[a.length]]) Z Z Z Z Z Z Z Z LY (by simp only [ς];omega) Z Z Z Z) (AD ⟨Z,?_⟩)))))));refine Ad 11 Z Z (J (AN Z DA Z Z Z) (AD ⟨Z,?_⟩));refine Ad 12 Z Z (V (B3 Z Z Z Z Z Z Z k7) (AD ⟨Z,?_⟩));refine CM (AE (fZ Z Z (J (Al Z Z (SZ a p.it[a.length] (by omega)) Z) (AB Z Z (AD ?_)))));exact ⟨a++ [p.it[a.length]],⟨NJ o c,by rw [Δ];show a.length+1<=_;omega⟩,by rw [Δ];show p.it.length - (a.length+1)<p.it.length - a.length;omega,AY l [902,1,2,3] Z (Z) E0⟩
  .refine Aw (AC ?_);have g:=Qy o (λh=>i (by omega));refine Zy (ys:=p.it.map Ag) 3 0 1 902 Z Z Z (by simp) (by rw [g];exact κ (by simp)) Z Z Z Z Z Z (AE (J (Ay Z Z Bl Z Z Z) (V (B3 Z Z Z Z Z Z Z YT) (AD (A4 ?_)))));exact ⟨_,[],[],A2 Z,Z,Z,Z,Z⟩
def Ep (ids l:List Int) (k:Nat):Int:=if l.getD k 0∉ids then 9 else if l.getD k 0∈l.take k then 7 else 0
def KG (ids l:List Int):Int:=BM ((List.range l.length).map (Ep ids l))
def CX (p:fj) (l:List Int):Int:=if Az p≠0 then Az p else KG (p.it.map AI.id) l
theorem RJ {a l:List Int} (h:KG a l=0):l.Nodup/\∀x∈l,x∈a:=by
 have c:=Ul.1 h;refine ⟨iS.2 λi j k b g e=>?_,λx f=>?_⟩
 .have:=c j (Ψ.2 b)
  grind [Ep,jX]
 .obtain ⟨j,b,rfl⟩:=hY f;have:=c j (Ψ.2 b)
  grind [Ep]
theorem WN (p:fj) (l:List Int) (C:E1 p) (H:l.length<=100000) (w:CX p l≠0):AK prog 159 [.d (Bq p),.d (.sl none (l.map AF))] (.tup [.raw (.map none),AF (CX p l)]):=by
 have c:=Gn p C;have E:=C.2.1
 by_cases t:Az p=0
 .have o:=D9 (PR t).2.1;rw [t] at c;have y:CX p l=KG (p.it.map AI.id) l:=θ (λh=>h t);rw [y] at w⊢
  obtain ⟨G,s⟩:∃e,KG (p.it.map AI.id) l=e:=⟨_,Z⟩
  rw [s] at w⊢;refine At func159 Z Z ntmps159 Z Z Z λF r=>(AC (AE (V (Bo 1 Z Z Z Z Z Z Z) (AB Z Z (AB Z Z (AD (AC (AC ?_))))))));refine AE (J (Ay Z Z Bl Z Z Z) (J (As (c) Z Z) (AB Z Z (AD (AC (AE (fZ Z Z (J (Cw Z Z Z) ?_))))))));refine AD (Cm Z ((by decide)) (AX (AC (AE (V (PY 2 Z Z Z Z) (AB Z Z (AD (AC ?_))))))));refine AC (AE (J (AN Z DA Z Z Z) (J (AP Z Z Z JV Z) (J (Ba Z cl Z) (fZ Z Z (AD (AZ (BO (α:=Nat) (λk=>⟨50,[(1,.d (.sl none (l.map AF))),(7,(.map 2 0)),(20,(.d (.sl none (p.it.map Ag)))),(21,(.d (AF (p.it.length:Int)))),(22,(.d (AF (k:Int))))],[(2,[BT AF Ah (BN ((p.it.take k).map AI.id))])]⟩) (λk=>k<=p.it.length) (λk=>p.it.length - k) (0) (ζ _) (AY r [2] Z Z F0) ?_))))))));rintro k v;refine AC (AE (J (BB Z Z Z) (AD (AC (A9 Z (λi=>?_) (λi=>?_))))))
  .have a:k<p.it.length:=BR i;refine AX (AC (AZ (AC (AE ?_))));have u:p.it[k].id∉(p.it.take k).map AI.id:=λh=>by rw [List.Nodup,iW,iS] at o;obtain ⟨x,D,e⟩:=Θ.1 h;obtain ⟨j,I,rfl⟩:=jX.1 D;exact o j k (by omega) a (by omega) e
   refine J (BJ (k) Z Z (Z) (A5 a) cl Z Co Z) (J (DM Z Z CP Z) (V (By 3 FG Z Z Z Z) (V (B3 Z Z Z Z Z Z Z Co) (AD (AE ?_)))));refine fZ Z Z (J (AN Z PQ Z Z Z) (J (AP Z Z Z An Z) (V (Uo (BN ((p.it.take k).map AI.id)) (p.it[k].id) (true) Z Z Z Ek IF Z Z) (AD (AE (J (Al Z Z (AM (k+1) (by omega)) Z) (fZ Z Z (AD ?_))))))));exact ⟨k+1,by show k+1<=_;omega,by show p.it.length - (k+1)<p.it.length - k;omega,AY r [2] Z (by rw [EH a,<-Zx u];rfl) F0⟩
  .refine Aw (AC ?_);rw [κ (show p.it.length<=k by have h:=i;omega)];refine AE (V (PY 4 Z Z Z Z) (AB Z Z (AD ?_)));refine AC (AC (AE (fZ Z Z (J (Ba Z ch Z) (fZ Z Z (AD (AZ (BO (α:=Nat) (λk=>⟨50,[(7,(.map 2 0)),(10,(.map 4 0)),(31,(.d (.sl none (l.map AF)))),(32,(.d (AF (l.length:Int)))),(33,(.d (AF (k:Int))))],[(2,[BT AF Ah (BN (p.it.map AI.id))]),(4,[BT AF Ah (BN (l.take k))])]⟩) (λk=>k<=l.length/\G=BM (((List.range l.length).drop k).map (Ep (p.it.map AI.id) l))) (λk=>l.length - k) (0) (⟨ζ _,s.symm⟩) (AY r [2,4] Z Z F0) ?_))))))));rintro k ⟨v,B⟩;refine AC (AE (J (BB Z Z Z) (AD (AC (A9 Z (λg=>?_) (λg=>?_))))))
   .have a:k<l.length:=BR g;refine AX (AC (AZ (AC (AE ?_))));have f:=nF a B;have b:=FC 0 a;refine J (BJ (k) Z Z (Z) (A5 a) ch Z BU Z) (J (CI Z Z An Z) ?_);refine AB Z Z (AD (AC (AZ (AC (AE (fZ Z Z (fZ Z Z (J (II (BN (p.it.map AI.id)) (l[k]) (false) _ Z Z Z Ek IF SX Z Z) ?_))))))));rw [Xw];refine J (Jw Z Z) (AB Z Z (AD (A9 Z (λA=>?_) (λA=>?_))))
    .refine AC (AE (AB Z Z (AB Z Z (AD (A4 ?_)))));exact ⟨_,[],[],A2 Z,Z,Z,by rw [f.2 9 (by unfold Ep;rw [b,ϱ (by simp_all)]) (by decide)],Z⟩
    .refine AC (AE (fZ Z Z (fZ Z Z (J (II (BN (l.take k)) (l[k]) (false) _ Z Z Z Ek IF SX Z Z) ?_))));rw [Xw];refine AB Z Z (AD (A9 Z (λz=>?_) (λz=>?_)))
     .refine AC (AE (AB Z Z (AB Z Z (AD (A4 ?_)))));exact ⟨_,[],[],A2 Z,Z,Z,by rw [f.2 7 (by unfold Ep;rw [b,θ (by simp_all),ϱ (by simp_all)]) (by decide)],Z⟩
     .refine AX ?_;refine AE (fZ Z Z (fZ Z Z (V (Uo (BN (l.take k)) (l[k]) (true) Z Z Z Ek IF Z Z) (AD (AE (J (Al Z Z (AM (k+1) (by omega)) Z) (fZ Z Z (AD ?_))))))));exact ⟨k+1,⟨by show k+1<=_;omega,f.1 (by unfold Ep;rw [b,θ (by simp_all),θ (by simp_all)])⟩,by show l.length - (k+1)<l.length - k;omega,AY r [2,4] Z (by rw [ψ a,<-Zx (by simp_all)];rfl) F0⟩
   .refine Aw (AC (AE (fZ Z Z (AB Z Z (AB Z Z (AD (A4 ?_)))))));exact absurd (by rw [B,jt (by have h:=g;simp only [gw];omega)];rfl) w
 .have y:CX p l=Az p:=ϱ t;rw [y];refine At func159 Z Z ntmps159 Z Z Z λF r=>(AC (AE (V (Bo 1 Z Z Z Z Z Z Z) (AB Z Z (AB Z Z (AD (AC (AC ?_))))))));refine AE (J (Ay Z Z Bl Z Z Z) (J (As (c) Z Z) (AB Z Z (AD (AC (AE (fZ Z Z (J (Cw Z Z Z) ?_))))))));refine AD (Bx Z ((gQ t)) (AC (AE (fZ Z Z (AB Z Z (AB Z Z (AD (A4 ?_))))))));exact ⟨_,[],[],A2 Z,Z,Z,Z,Z⟩
theorem Ze (p:fj) (l:List Int) (A:E1 p) (K:l.length<=100000) (c:CX p l=0):AO prog 159 [.d (Bq p),.d (.sl none (l.map AF))] [] λr H=>r= .tup [.map 4 0,.d (AF 0)]/\H=[(4,[BT AF Ah (BN l)])]:=by
 have s:=Gn p A;have E:=A.2.1
 have z:Az p=0:=by
  unfold CX at c;split at c
  .exact c
  .rename_i h;simpa using h
 have i:=D9 (PR z).2.1;rw [z] at s;have G:CX p l=KG (p.it.map AI.id) l:=θ (λh=>h z);rw [G] at c;refine At func159 Z Z ntmps159 Z Z Z λF t=>(AC (AE (V (Bo 1 Z Z Z Z Z Z Z) (AB Z Z (AB Z Z (AD (AC (AC ?_))))))));refine AE (J (Ay Z Z Bl Z Z Z) (J (As (s) Z Z) (AB Z Z (AD (AC (AE (fZ Z Z (J (Cw Z Z Z) ?_))))))));refine AD (Cm Z ((by decide)) (AX (AC (AE (V (PY 2 Z Z Z Z) (AB Z Z (AD (AC ?_))))))));refine AC (AE (J (AN Z DA Z Z Z) (J (AP Z Z Z JV Z) (J (Ba Z cl Z) (fZ Z Z (AD (AZ (BO (α:=Nat) (λk=>⟨50,[(1,.d (.sl none (l.map AF))),(7,(.map 2 0)),(20,(.d (.sl none (p.it.map Ag)))),(21,(.d (AF (p.it.length:Int)))),(22,(.d (AF (k:Int))))],[(2,[BT AF Ah (BN ((p.it.take k).map AI.id))])]⟩) (λk=>k<=p.it.length) (λk=>p.it.length - k) (0) (ζ _) (AY t [2] Z Z F0) ?_))))))));rintro k u;refine AC (AE (J (BB Z Z Z) (AD (AC (A9 Z (λg=>?_) (λg=>?_))))))
 .have a:k<p.it.length:=BR g;refine AX (AC (AZ (AC (AE ?_))));have b:p.it[k].id∉(p.it.take k).map AI.id:=λh=>by rw [List.Nodup,iW,iS] at i;obtain ⟨x,B,e⟩:=Θ.1 h;obtain ⟨j,C,rfl⟩:=jX.1 B;exact i j k (by omega) a (by omega) e
  refine J (BJ (k) Z Z (Z) (A5 a) cl Z Co Z) (J (DM Z Z CP Z) (V (By 3 FG Z Z Z Z) (V (B3 Z Z Z Z Z Z Z Co) (AD (AE ?_)))));refine fZ Z Z (J (AN Z PQ Z Z Z) (J (AP Z Z Z An Z) (V (Uo (BN ((p.it.take k).map AI.id)) (p.it[k].id) (true) Z Z Z Ek IF Z Z) (AD (AE (J (Al Z Z (AM (k+1) (by omega)) Z) (fZ Z Z (AD ?_))))))));exact ⟨k+1,by show k+1<=_;omega,by show p.it.length - (k+1)<p.it.length - k;omega,AY t [2] Z (by rw [EH a,<-Zx b];rfl) F0⟩
 .refine Aw (AC ?_);rw [κ (show p.it.length<=k by have h:=g;omega)];refine AE (V (PY 4 Z Z Z Z) (AB Z Z (AD ?_)));refine AC (AC (AE (fZ Z Z (J (Ba Z ch Z) (fZ Z Z (AD (AZ (BO (α:=Nat) (λk=>⟨50,[(7,(.map 2 0)),(10,(.map 4 0)),(31,(.d (.sl none (l.map AF)))),(32,(.d (AF (l.length:Int)))),(33,(.d (AF (k:Int))))],[(2,[BT AF Ah (BN (p.it.map AI.id))]),(4,[BT AF Ah (BN (l.take k))])]⟩) (λk=>k<=l.length) (λk=>l.length - k) (0) (ζ _) (AY t [2,4] Z Z F0) ?_))))))));rintro k u;refine AC (AE (J (BB Z Z Z) (AD (AC (A9 Z (λf=>?_) (λf=>?_))))))
  .have a:k<l.length:=BR f;refine AX (AC (AZ (AC (AE ?_))));have I:=Ul.1 c k (Ψ.2 a);have D:=FC 0 a;have v:l[k]∈p.it.map AI.id:=(RJ c).2 _ (ξ a);have b:l[k]∉l.take k:=λh=>by have o:=(RJ c).1;rw [List.Nodup,iS] at o;obtain ⟨j,C,e⟩:=jX.1 h;exact o j k (by omega) a (by omega) e
   refine J (BJ (k) Z Z (Z) (A5 a) ch Z BU Z) (J (CI Z Z An Z) ?_);refine AB Z Z (AD (AC (AZ (AC (AE (fZ Z Z (fZ Z Z (J (II (BN (p.it.map AI.id)) (l[k]) (false) _ Z Z Z Ek IF SX Z Z) ?_))))))));rw [Xw];refine J (Jw Z Z) (AB Z Z (AD (A9 Z (λy=>?_) (λy=>?_))))
   .refine AC (AE (AB Z Z (AB Z Z (AD (A4 ?_)))));exact absurd v (by simp_all)
   .refine AC (AE (fZ Z Z (fZ Z Z (J (II (BN (l.take k)) (l[k]) (false) _ Z Z Z Ek IF SX Z Z) ?_))));rw [Xw];refine AB Z Z (AD (A9 Z (λw=>?_) (λw=>?_)))
    .refine AC (AE (AB Z Z (AB Z Z (AD (A4 ?_)))));exact absurd b (by simp_all)
    .refine AX ?_;refine AE (fZ Z Z (fZ Z Z (V (Uo (BN (l.take k)) (l[k]) (true) Z Z Z Ek IF Z Z) (AD (AE (J (Al Z Z (AM (k+1) (by omega)) Z) (fZ Z Z (AD ?_))))))));exact ⟨k+1,by show k+1<=_;omega,by show l.length - (k+1)<l.length - k;omega,AY t [2,4] Z (by rw [ψ a,<-Zx b];rfl) F0⟩
  .refine Aw (AC (AE (fZ Z Z (AB Z Z (AB Z Z (AD (A4 ?_)))))));exact ⟨_,[4],_,A2 Z,Z,Z,Z,by rw [κ (show l.length<=k by have h:=f;omega)]<;>rfl⟩
end Go.Proofs.YteifpcnphnhaoaaGreat
