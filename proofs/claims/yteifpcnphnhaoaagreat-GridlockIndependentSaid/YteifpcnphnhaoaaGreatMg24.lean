import Derived.Test.YteifpcnphnhaoaaGreatMg23
open Go.Proofs.Tryz
set_option maxHeartbeats 2000000
namespace Go.Proofs.YteifpcnphnhaoaaGreat
open Go.RowKit
variable {E:List (eR×Nat)} {a:List AM} {S:List Nat} {i k:Nat} {c:List Nat} {g:Bool} {f h:Nat ->Nat} {N:fC} {M:MF} {j o:Nat}
set_option maxRecDepth 100000
def ek (p:ee) (l:List Int):List (eR×Nat):=((eX p.it).filter λi=>decide (i.id∈l)).map λi=>(i,0)
theorem EP (p:ee) (l:List Int):(ek p l).map Prod.fst=(eX p.it).filter λi=>decide (i.id∈l):=by unfold ek;rw [fS];exact List.map_id _
theorem ML (k:Nat):Cw E k=(E.map Prod.fst).getD k eT:=by grind [Cw]
theorem Va {E':List (eR×Nat)} (h:E.map Prod.fst=E'.map Prod.fst):ey a E=ey a E':=by
 have c:Cw E=Cw E':=funext λk=>by rw [ML,ML,h]
 have b:E.length=E'.length:=by rw [<-ψ (f:=Prod.fst),h,ψ]
 have g:ob a E=ob a E':=by unfold ob;rw [c,b]
 simp [*,ey,Cn,Cc]
theorem Nf (E:List (eR×Nat)) (S:List Nat):(Cc E S).length=S.length:=ψ _
structure PG (rs:List AM) (E:List (eR×Nat)) (i:Nat) (S:List Nat):Prop where
 nd:S.Nodup
 ini:i∈S
 con:∀j∈S,j<E.length/\Cn rs E i j
theorem PG.zero (c:i<E.length):PG a E i [i]:=⟨by simp,by simp,λj b=>by rw [ζ.1 b];exact ⟨c,.refl i⟩⟩
theorem PG.add (h:PG a E i S) {j:Nat} (l:j∈S) (g:k<E.length) (o:k∉S) (r:HZ a (Cw E j) (Cw E k)):PG a E i (S++ [k]):=by
 refine ⟨ip.2 ⟨h.nd,by simp,λc t b s e=>o (by rw [ζ.1 s] at e;rw [<-e];exact t)⟩,iX _ h.ini,λx f=>?_⟩;rcases ν.1 f with f | f
 .exact h.con x f
 .rw [ζ.1 f];exact ⟨g,(h.con j l).2.trans (Rh.one (Cq.2 ⟨(h.con j l).1,g,r⟩))⟩
theorem PG.len {i:Nat} (h:PG a E i S):S.length<=E.length:=by
 have:=h.nd.length_le_of_subset (l₂:=List.range E.length) λy b=>Θ.2 (h.con y b).1
 grind
def tN (rs:List AM) (E:List (eR×Nat)) (S:List Nat) (k:Nat):Prop:=k∈S\/∀m∈S,¬HZ rs (Cw E m) (Cw E k)
structure PK (rs:List AM) (E:List (eR×Nat)) (i:Nat) (S0:List Nat) (k:Nat) (S:List Nat) (g:Bool):Prop where
 pg:PG rs E i S
 no:g=false ->S=S0/\∀k',k'<k ->tN rs E S k'
 yes:g=true ->S0.length<S.length
theorem PK.zero (h:PG a E i S):PK a E i S 0 S false:=⟨h,λ_=>⟨Z,λb c=>by omega⟩,λe=>by cases e⟩
theorem PK.le (h:PK a E i c k S g):c.length<=S.length:=by
 cases hg:g with
 | false=>rw [(h.no hg).1];exact ϖ _
 | true=>exact Nat.le_of_lt (h.yes hg)
theorem PK.pass (h:PK a E i c k S g) (j:tN a E S k):PK a E i c (k+1) S g:=
 ⟨h.pg,λe=>⟨(h.no e).1,λb l=>(Nat.decEq b k).byCases (λf=>by rw [f];exact j) λf=>(h.no e).2 b (by omega)⟩,h.yes⟩
theorem PK.hit {b:Nat} (h:PK a E i c k S g) (f:PG a E i (S++ [k])):PK a E i c b (S++ [k]) true:=
 ⟨f,λe=>(by cases e),λ_=>by rw [Δ,Φ];exact Nat.lt_succ_of_le h.le⟩
theorem PG.fin (h:PG a E i S) (j:∀k,k<E.length ->tN a E S k) (s:k<E.length):k∈S↔Cn a E i k:=by
 refine ⟨λg=>(h.con k g).2,λl=>?_⟩;refine Rh.clos (p:=λx=>x∈S) (λv c y b=>?_) l h.ini;obtain ⟨_,r,o⟩:=Cq.1 b;exact (j y r).resolve_right λf=>f v c o
def uE (S:List Nat) (k:Nat) (h:Bool):List Nat:=if h=true then S++ [k] else S
theorem PK.next {f:Bool} (h:PK a E i c k S g) (b:f=true ->PG a E i (S++ [k])) (j:f=false ->tN a E S k):PK a E i c (k+1) (uE S k f) (if f=true then true else g):=by
 cases f with
 | false=>exact h.pass (j Z)
 | true=>exact h.hit (b Z)
theorem dY (p:ee) (l:List Int) (g:CG p) (f:l.length<=100000) (h:DM p l=0) (b:A6 p=0) (c:l.Nodup):AK prog 23 [.d (Bf p),.d (JL l)] (.tup [Qc (ey (er p) (ek p l)),AF 0]):=
 (qF p l g f h b c).mono λr k ⟨E,a,j,i⟩=>⟨by rw [j,Va (E':=ek p l) (by rw [a,EP,show ea p=eX p.it from ϱ b])],i⟩
theorem Yl {rs:List AM} {E E':List (eR×Nat)} (h:E.map Prod.fst=E'.map Prod.fst):gv rs E=gv rs E'/\Cc E=Cc E'/\E.length=E'.length:=by
 have c:Cw E=Cw E':=funext λk=>by rw [ML,ML,h]
 have b:E.length=E'.length:=by rw [<-ψ (f:=Prod.fst),h,ψ]
 refine ⟨?_,by funext S;unfold Cc;rw [c],b⟩;have g:∀E:List (eR×Nat),gv rs E=(E.map Prod.fst).map λa=>iA rs E a E.length:=λE=>by unfold gv;rw [fS];rfl
 simp [*,iA]
theorem nc {b:eR} {n:Nat}:∀k∈iA a E b n,k<n:=λk c=>Θ.1 (Γ.1 c).1
def mj (ids:List Int) (m k:Nat):List Int:=((List.range k).filter λj=>decide (m / 2^j % 2=1)).map λj=>ids.getD j 0
def uq (p:ee) (ids:List Int) (M:Nat) (x:Int):Prop:=∃m,m<M/\F8 p (mj ids m ids.length)/\x∈mj ids m ids.length
noncomputable instance (p:ee) (ids:List Int) (M:Nat) (x:Int):Decidable (uq p ids M x):=Classical.propDecidable _
theorem Q4 {a:List eR} (c:(a.map eR.id).Nodup) (b:Nat ->Bool):BY a b a.length=(a.map eR.id).filter λx=>decide (x∈BY a b a.length):=by
 obtain ⟨l,f⟩:∃l,BY a b a.length=l:=⟨_,Z⟩
 have g:a.map eR.id=(List.range a.length).map λi=>(a.getD i eT).id:=by
  conv=>lhs;rw [Kx a]
  rw [fS];rfl
 grind [iD,NE,BY]
theorem du {c j:Nat} {b g:Nat ->Nat} {N:fC} {M:MF} (h:Bx c j b g N M) {i:Nat} {x:Nd} (k:N.nd[i]? =some x):AJ prog 146 [.d (pD (b i) 0)] (HN M) λr l=>r= .d (Aa x.on)/\l=HN M:=by
 have a:=h.n i x k;refine As func146 Z Z ntmps146 Z Z Z λF o=>(AC (AE (AB Z Z (AD ?_))));refine AC (AE (dd Z Z (J (DN Z Z) (J (CM Z Ec Z Z Z) (J (D4 (f:=40) Z Z (a) Z oV Z) (AB Z Z (AD (A4 ?_))))))));exact ⟨_,[40],_,A3 Z,Z,Z,Z,Z⟩
theorem dq (a:Bx j o h f N M) (e:Nat×Int) {y:Po} (c:N.po[e.1]? =some y) (g: -1000000000000000000<=y.room/\y.room<=1000000000000000000) (i: -2000000000000000000<=e.2/\e.2<=2000000000000000000):AJ prog 149 [.d (dC f e)] (HN M) λr k=>r= .d (Aa (Q2 y e.2))/\k=HN M:=by
 have b:=L3 a c e.2 g i;refine As func149 Z Z ntmps149 Z Z Z λF l=>(AC (AE (V (Bz 1 Z Z Z Z Z Z Z) (AB Z Z (AD (AC ?_))))));refine AE (J (AU Z Qw Z Z Z) (J (A2 Z Z Z E1 Z) (J (AU Z Qv Z Z Z) (J (A2 Z Z Z Km Z) (V (EX b Z [40] ⟨Z,trivial⟩ Z Z Z Z Z Z Z Z Z) (AB Z Z (AD (A4 ?_))))))));exact ⟨_,[40],_,A3 Z,Z,Z,Z,Z⟩
abbrev nZ (wb mv:Nat) (bs:Option (List Nat×Nat)) (L:List (Int×Value)) (M:MF):Hp:=(910,[.blk 171 [.d (pD wb 0)]])::HW mv bs L M
theorem dt {g i:Nat} {nb v:Nat ->Nat} {N:fC} {M:MF} (u:Option (List Nat×Nat)) (h:Bx g i nb v N M) (w:(BO N).Nodup) {id:Int} (o:id∈BO N):AJ prog 147 [.d (AF id),.ptr 910 0 0] (nZ g i u (Fb nb (BO N)) M) λr x=>r= .d (Aa (!fA N id))/\x=nZ g i u (Fb nb (BO N)) M:=by
 have k:=h.w;have a:=jG o;have b:(BO N).idxOf id<N.nd.length:=by unfold BO at a⊢;rw [ψ] at a;exact a
 obtain ⟨z,t⟩:∃z,N.nd[(BO N).idxOf id]? =some z:=⟨_,ω b⟩
 have s:N.nd.getD ((BO N).idxOf id) Bo=z:=by rw [Ψ,t];rfl
 have j:=h.n _ z t;have c:=RO (nb:=nb) w a;rw [List.getElem_idxOf a] at c;have l:(!fA N id)=z.on:=by unfold fA;rw [s,Bool.not_not]
 refine As func147 Z Z ntmps147 Z Z Z λF y=>(AC ?_);refine AE (AB Z Z (AD (AC (AE (J (A2 Z Z Z W2 Z) (J (DN Z Z) (J (CM Z MO Z Z Z) (J (D4 (f:=40) Z Z (k) Z W0 Z) ?_))))))));refine DY 7 51 0 Z Z (dd Z Z (J (HY (Fb nb (BO N)) id (.pointer none) (pV (nb ((BO N).idxOf id)) 0) Z Z Z Wc HS Vo c Z) (J (DN Z Z) (J (CM Z Ec Z Z Z) (J (D4 (f:=40) Z Z (j) Z oV Z) (AB Z Z (AD (A4 ?_))))))));exact ⟨_,[910,40,50,51],_,A3 Z,Z,Z,by rw [l],Z⟩
section
variable {P:Program} {F:Fr} {s:AS} {d:Nat} {x hi:Operand} {T E:TypeId} {ty:TypeId} {pos:String} {aft:Array Edge} {g:Option (Nat×Bool)}
theorem Rw {b n a c:Nat} (h:Nat) {k:IntKind} {i:Int} (l:s.ev x=some (.d (.raw (sV b n a)))) (f:s.ev hi=some (.d (.raw (.int k i)))) (o:i=(h:Int)) (v:h<=a) (t:P.underlying T=some (.slice E)) (u:AW P E c=true) (r:Nat.blt d s.n=true):
  AA P F ⟨some d,.slice T x none (some hi) none,ty,pos,aft,g⟩ s d (.d (.raw (sV b h a))):=
 Cd _ r λ_ y w j=>by
  have e:=j.raw l;subst o;refine ⟨.slice (if a=0 then some ⟨b,0,none⟩ else (some (⟨b,0,none⟩:Addr)).map (·.add (0*c))) (h - 0) (a - 0),by simp only [execOp,e,gs,jA,j.raw f,Sem.run_bind,G8 t (ZW u) v,Result.andThen_ok,Sem.run_pure],?_⟩
  have:Value.slice (if a=0 then some ⟨b,0,none⟩ else (some (⟨b,0,none⟩:Addr)).map (·.add (0*c))) (h - 0) (a - 0)=sV b h a:=by
   split<;>simp [Addr.add]
  rw [this];exact .d (.raw Z)
end
variable {a c:Nat ->Nat} {N:fC} {M:MF} {f g:Nat} {h:List Nat} {i:Hd} {j:Nat} {x:Nd}
def Jm {α:Type} (p:α ->Bool) (l:List α):Int:=match l.findIdx? p with
 | some k=>k
 | none=> -1
theorem pM {H K:Nat} {E I:Nat ->Nat} {N:fC} {M:MF} (h:Bx H K E I N M) {t:Hd} {q:List Nat} (v:BD M t 176 1 (q.map λi=>BH (E i))) (u:∀i∈q,i<N.nd.length) (m:Nat) (W:m<=q.length) (Q:q.length<=100000):
  AJ prog 97 [.d (fE t m),.d (.raw (.func (.func 146) #[] #[]))] (HN M) λr S=>r= .d (AF (Jm (fe N) (q.take m)))/\S=HN M:=by
 have L:t=none ->m=0:=λe=>by have:=UP v e;omega
 have P:(q.take m).length=m:=by rw [Ξ];omega
 refine As func97 Z Z ntmps97 Z Z Z λF G=>(AC (AE (AB Z Z (AD ?_))));refine AC (AC (AE (dd Z Z (J (Vk L Z R3 Z) (dd Z Z (AD (A0 (BX (α:=Nat) (λk=>⟨19,[(0,.d (fE t m)),(1,.d (.raw (.func (.func 146) #[] #[]))),(7,(.d (AF (m:Int)))),(8,(.d (AF (k:Int))))],HN M⟩) (λk=>k<=m/\∀x∈(q.take m).take k,fe N x=false) (λk=>m - k) (0) (⟨υ _,by simp⟩) (AY G [40] Z Z ⟨Z,Z,Z,Z,trivial⟩) ?_))))))));rintro k ⟨R,A⟩;refine AC (AE (J (BN Z Z Z) (AD (AC (Ac Z (λD=>?_) (λD=>?_))))))
 .have w:k<m:=Ba D;refine AZ (AC (A0 (AC ?_)));have a:k<q.length:=by omega
  have s:k<(q.take m).length:=by omega
  obtain ⟨U,T,l⟩:=UX v a;have j:=R7 v l;have B:=u _ (ξ a)
  obtain ⟨z,c⟩:∃z,N.nd[q[k]]? =some z:=⟨_,ω B⟩
  have C:=du h c;have o:fe N q[k]=z.on:=by unfold fe;rw [Ψ,c];rfl
  refine AE (dd Z Z (AB Z Z (AD (AC ?_))));refine AE (dd Z Z (dd Z Z (dd Z Z (J (Vi l (k) Z Z Z w R3 LU Z) (J (mJ (f:=40) (e:=k) (off:=0) Z (by omega) Z (j) (Ab a) Z NG Z) (V (UZ C Z [40] ⟨Z,trivial⟩ Z Z Z Z Z Z Z Z Z) (AD (JJ Z (λb=>?_) (λb=>?_)))))))))
  .refine AC (AE (dd Z Z (AB Z Z (AD (A4 ?_)))));exact ⟨_,[40],_,A3 Z,Z,Z,Ax (by unfold Jm;rw [F6 s A (by rw [List.getElem_take,o];simpa using b)]),Z⟩
  .refine AZ (AE (J (Ar Z Z (AO (k+1) (by omega)) Z) (dd Z Z (AD ?_))));exact ⟨k+1,⟨by show k+1<=_;omega,by rw [χ s];intro y g;rcases ν.1 g with g | g;exact A y g;rw [ζ.1 g,List.getElem_take];rw [o];simpa using b⟩,by show m - (k+1)<m - k;omega,AY G [40] Z (Z) ⟨Z,Z,Z,Z,trivial⟩⟩
 .refine BC (AC (AE (AB Z Z (AD (A4 ?_)))));exact ⟨_,[40],_,A3 Z,Z,Z,Ax (by unfold Jm;rw [Gt (λx O=>A x (by rw [ς (by have h:=D;omega)];exact O))]),Z⟩
theorem VQ {a:Type} {p:a ->Bool} {l:List a}:(Jm p l>=0)↔l.any p=true:=by grind [Jm]
theorem lU (j:Bx f g c a N M) (o:BD M i 176 1 (h.map λb=>BH (c b))) (k:∀b∈h,b<N.nd.length) (m:Nat) (s:m<=h.length) (l:h.length<=100000):
  AJ prog 145 [.d (fE i m),.d (.raw (.func (.func 146) #[] #[]))] (HN M) λr t=>r= .d (Aa ((h.take m).any (fe N)))/\t=HN M:=by
 refine As func145 Z Z ntmps145 Z Z Z λF u=>(AC (AE (AB Z Z (AD ?_))));refine AC (AE (dd Z Z (dd Z Z (V (EX (pM j o k m s l) Z [40] ⟨Z,trivial⟩ Z Z Z Z Z Z Z Z Z) (J (ES Z Z Z) (AB Z Z (AD (A4 ?_))))))));exact ⟨_,[40],_,A3 Z,Z,Z,PR (by rw [Bool.eq_iff_iff,gR];exact VQ),Z⟩
theorem pK {D H:Nat} {G E:Nat ->Nat} {N:fC} {M:MF} (h:Bx D H G E N M) (u:ga N) {i:Nat} {x:Nd} (B:N.nd[i]? =some x):
  AJ prog 197 [.d (fE x.eh x.ef.length),.d (.raw (.func (.func 149) #[] #[]))] (HN M) λr Q=>r= .d (AF (Jm (λe:Nat×Int=>Q2 (N.po.getD e.1 CI) e.2) x.ef))/\Q=HN M:=by
 obtain ⟨K,g,_⟩:=h.nn i x B;have c:=ϑ B;have O:=(u.l x c).1;have I:=UP g;refine As func197 Z Z ntmps197 Z Z Z λF C=>(AC (AE (AB Z Z (AD ?_))));refine AC (AC (AE (dd Z Z (J (Vk I Z underlying181 Z) (dd Z Z (AD (A0 (BX (α:=Nat) (λk=>⟨19,[(0,.d (fE x.eh x.ef.length)),(1,.d (.raw (.func (.func 149) #[] #[]))),(7,(.d (AF (x.ef.length:Int)))),(8,(.d (AF (k:Int))))],HN M⟩) (λk=>k<=x.ef.length/\∀e∈x.ef.take k,(λe:Nat×Int=>Q2 (N.po.getD e.1 CI) e.2) e=false) (λk=>x.ef.length - k) (0) (⟨υ _,by simp⟩) (AY C [40] Z Z ⟨Z,Z,Z,Z,trivial⟩) ?_))))))));rintro k ⟨L,v⟩;refine AC (AE (J (BN Z Z Z) (AD (AC (Ac Z (λA=>?_) (λA=>?_))))))
 .have a:k<x.ef.length:=Ba A;refine AZ (AC (A0 (AC ?_)));obtain ⟨S,R,b⟩:=UX g a;have o:=R7 g b;have w:=(h.e x c).1 _ (ξ a)
  obtain ⟨y,t⟩:∃y,N.po[x.ef[k].1]? =some y:=⟨_,ω w⟩
  have s:N.po.getD x.ef[k].1 CI=y:=by rw [Ψ,t];rfl
  have P:=u.e x c _ (ξ a);have z:=dq h x.ef[k] t (u.rm y (ϑ t)) ⟨by omega,by omega⟩;refine AE (dd Z Z (AB Z Z (AD (AC ?_))));refine AE (dd Z Z (dd Z Z (dd Z Z (J (Vi b (k) Z Z Z a underlying181 Rs Z) (J (Dc (f:=40) (e:=k) Z (Z) Z (o) (Ab a) Z aY Z) (V (UZ z Z [40] ⟨Z,trivial⟩ Z Z Z Z Z Z Z Z Z) (AD (Ac Z (λl=>?_) (λl=>?_)))))))))
  .refine AC (AE (dd Z Z (AB Z Z (AD (A4 ?_)))));exact ⟨_,[40],_,A3 Z,Z,Z,Ax (by unfold Jm;rw [F6 a v (by show Q2 (N.po.getD x.ef[k].1 CI) x.ef[k].2=true;rw [s];unfold Q2;exact Υ l)]),Z⟩
  .refine AZ (AE (J (Ar Z Z (AO (k+1) (by omega)) Z) (dd Z Z (AD ?_))));exact ⟨k+1,⟨by show k+1<=_;omega,by rw [χ a];intro e j;rcases ν.1 j with j | j;exact v e j;rw [ζ.1 j];show Q2 (N.po.getD x.ef[k].1 CI) x.ef[k].2=false;rw [s];unfold Q2;exact fb l⟩,by show x.ef.length - (k+1)<x.ef.length - k;omega,AY C [40] Z (Z) ⟨Z,Z,Z,Z,trivial⟩⟩
 .refine BC (AC (AE (AB Z Z (AD (A4 ?_)))));exact ⟨_,[40],_,A3 Z,Z,Z,Ax (by unfold Jm;rw [Gt (λe j=>v e (by rw [ς (by have h:=A;omega)];exact j))]),Z⟩
theorem lS (h:Bx f g c a N M) (k:ga N) (b:N.nd[j]? =some x):
  AJ prog 148 [.d (fE x.eh x.ef.length),.d (.raw (.func (.func 149) #[] #[]))] (HN M) λr l=>r= .d (Aa (x.ef.any λe:Nat×Int=>Q2 (N.po.getD e.1 CI) e.2))/\l=HN M:=by
 refine As func148 Z Z ntmps148 Z Z Z λF o=>(AC (AE (AB Z Z (AD ?_))));refine AC (AE (dd Z Z (dd Z Z (V (EX (pK h k b) Z [40] ⟨Z,trivial⟩ Z Z Z Z Z Z Z Z Z) (J (ES Z Z Z) (AB Z Z (AD (A4 ?_))))))));exact ⟨_,[40],_,A3 Z,Z,Z,PR (by rw [Bool.eq_iff_iff,gR];exact VQ),Z⟩
theorem pL (o:Option (List Nat×Nat)) (h:Bx f g c a N M) (y:(BO N).Nodup) (l:List Int) (D:l.length<=100000) (t:∀id∈l,id∈BO N):
  AJ prog 138 [.d (.sl none (l.map AF)),.fn 147 [.ptr 910 0 0]] (nZ f g o (Fb c (BO N)) M) λr C=>r= .d (AF (Jm (λid=>!fA N id) l))/\C=nZ f g o (Fb c (BO N)) M:=by
 obtain ⟨L,B⟩:∃L,Fb c (BO N)=L:=⟨_,Z⟩
 have v:=λid A=>dt (id:=id) o h y A;rw [B] at v⊢;refine As func138 Z Z ntmps138 Z Z Z λF w=>(AC (AE (AB Z Z (AD ?_))));refine AC (AC (AE (dd Z Z (J (CB Z E0 Z) (dd Z Z (AD (A0 (BX (α:=Nat) (λk=>⟨19,[(0,.d (.sl none (l.map AF))),(1,.fn 147 [.ptr 910 0 0]),(7,(.d (AF (l.length:Int)))),(8,(.d (AF (k:Int))))],nZ f g o L M⟩) (λk=>k<=l.length/\∀x∈l.take k,(λid=>!fA N id) x=false) (λk=>l.length - k) (0) (⟨υ _,by simp⟩) (AY w [910,40,50,51] Z Z ⟨Z,Z,Z,Z,trivial⟩) ?_))))))));rintro k ⟨z,s⟩;refine AC (AE (J (BN Z Z Z) (AD (AC (Ac Z (λu=>?_) (λu=>?_))))))
 .have b:k<l.length:=Ba u;refine AZ (AC (A0 (AC (AE (dd Z Z (AB Z Z (AD (AC ?_))))))));refine AE (dd Z Z (dd Z Z (dd Z Z (J (Bh (k) Z Z (Z) (Ab b) E0 Z BU Z) (J (D2 Z Z Aw Z) (V (UZ (v l[k] (t _ (ξ b))) Z [910,40,50,51] ⟨Z,Z,Z,Z,trivial⟩ Z Z Z Z Z Z Z Z Z) (AD (JJ Z (λj=>?_) (λj=>?_)))))))))
  .refine AC (AE (dd Z Z (AB Z Z (AD (A4 ?_)))));exact ⟨_,[910,40,50,51],_,A3 Z,Z,Z,Ax (by unfold Jm;rw [F6 b s (by simpa using j)]),Z⟩
  .refine AZ (AE (J (Ar Z Z (AO (k+1) (by omega)) Z) (dd Z Z (AD ?_))));exact ⟨k+1,⟨by show k+1<=_;omega,by rw [χ b];intro x i;rcases ν.1 i with i | i;exact s x i;rw [ζ.1 i];simpa using j⟩,by show l.length - (k+1)<l.length - k;omega,AY w [910,40,50,51] Z (Z) ⟨Z,Z,Z,Z,trivial⟩⟩
 .refine BC (AC (AE (AB Z Z (AD (A4 ?_)))));exact ⟨_,[910,40,50,51],_,A3 Z,Z,Z,Ax (by unfold Jm;rw [Gt (λx i=>s x (by rw [ς (by have h:=u;omega)];exact i))]),Z⟩
theorem lT (i:Option (List Nat×Nat)) (h:Bx f g c a N M) (j:(BO N).Nodup) (l:List Int) (k:l.length<=100000) (b:∀id∈l,id∈BO N):
  AJ prog 130 [.d (.sl none (l.map AF)),.fn 147 [.ptr 910 0 0]] (nZ f g i (Fb c (BO N)) M) λr o=>r= .d (Aa (l.any λid=>!fA N id))/\o=nZ f g i (Fb c (BO N)) M:=by
 refine As func130 Z Z ntmps130 Z Z Z λF s=>(AC (AE (AB Z Z (AD ?_))));refine AC (AE (dd Z Z (dd Z Z (V (EX (pL i h j l k b) Z [910,40,50,51] ⟨Z,Z,Z,Z,trivial⟩ Z Z Z Z Z Z Z Z Z) (J (ES Z Z Z) (AB Z Z (AD (A4 ?_))))))));exact ⟨_,[910,40,50,51],_,A3 Z,Z,Z,PR (by rw [Bool.eq_iff_iff,gR];exact VQ),Z⟩
section
variable {P:Program} {F:Fr} {s:AS} {d:Nat} {x hi:Operand} {T E:TypeId} {ty:TypeId} {pos:String} {aft:Array Edge} {g:Option (Nat×Bool)}
theorem Rx {h:Hd} {b n a i:Nat} (o:h=some (b,a)) (m:Nat) {j:IntKind} {f:Int} (k:s.ev x=some (.d (fE h n))) (c:s.ev hi=some (.d (.raw (.int j f)))) (l:f=(m:Int)) (v:m<=a) (t:P.underlying T=some (.slice E)) (u:AW P E i=true) (r:Nat.blt d s.n=true):
  AA P F ⟨some d,.slice T x none (some hi) none,ty,pos,aft,g⟩ s d (.d (fE h m)):=by
 subst o;exact Rw m k c l v t u r
end
variable {a:List eY} {c:List eR} {f:Nat ->Bool} {N:fC} {R:Int ->Int ->Prop} {g:ee} {i:Nat} {x:Nd} {h:List eY} {j:List Int} {k:List eR} {Y:List eY} {o s:Nat ->Nat} {t:List Po} {M:MF} {u w y z:Nat} {A:Po}
def bF (N:fC) (e:Nat×Nat):Bool:=((N.po.getD e.1 CI).q.take e.2).any (fe N)
def Ds (N:fC) (x:Nd):Bool:=!(x.pl.any (bF N)) &&(!(x.it.af.any λid=>!fA N id) && !(x.ef.any λe:Nat×Int=>Q2 (N.po.getD e.1 CI) e.2))
theorem sy (h:x.pl.any (bF N)=true):Ds N x=false:=by unfold Ds;rw [h];rfl
theorem tA (a:x.pl.any (bF N)=false) (h:(x.it.af.any λid=>!fA N id)=true):Ds N x=false:=by unfold Ds;rw [a,h];rfl
theorem sz (a:x.pl.any (bF N)=false) (h:(x.it.af.any λid=>!fA N id)=false):Ds N x=!(x.ef.any λe:Nat×Int=>Q2 (N.po.getD e.1 CI) e.2):=by unfold Ds;rw [a,h];simp
theorem lx (P:Option (List Nat×Nat)) (h:Bx u w s o N M) (C:ga N) (U:N.nd[i]? =some x):
  AJ prog 99 [.d (pD u 0),.d (pD (s i) 0)] (HW w P (Fb s (BO N)) M) λr H'=>r= .d (Aa (Ds N x))/\H'=HW w P (Fb s (BO N)) M:=by
 have b:=ϑ U;obtain ⟨g,hre,j⟩:=h.nn i x U;have W:=UP j;obtain ⟨_,hpl,hafl⟩:=C.l x b;have T:=h.e x b;have S:=C.p x b;have O:=lT P h C.i x.it.af (by omega) (C.a x b);have hc3:=lS h C U
 obtain ⟨L,hL⟩:∃L,Fb s (BO N)=L:=⟨_,Z⟩
 rw [hL] at O⊢;refine As func99 Z Z ntmps99 Z Z Z λF hF=>(AC (AE (V (Bz 910 Z Z Z Z Z Z Z) (AB Z Z (AD (AC (AC (AE ?_))))))));refine dd Z Z (J (DN Z Z) (J (CM Z Jz Z Z Z) (J (D4 (f:=40) Z Z (g) Z WY Z) (J (Vk W Z underlying182 Z) (dd Z Z (AD (A0 (BX (α:=Nat) (λk=>⟨39,[(1,.d (pD (s i) 0)),(2,(.ptr 910 0 0)),(10,(.d (fE x.ph x.pl.length))),(11,(.d (AF (x.pl.length:Int)))),(12,(.d (AF (k:Int))))],nZ u w P L M⟩) (λk=>k<=x.pl.length/\∀e∈x.pl.take k,bF N e=false) (λk=>x.pl.length - k) (0) (⟨υ _,by simp⟩) (AY hF [910,40,50,51] Z Z ⟨Z,Z,Z,Z,Z,trivial⟩) ?_))))))));rintro k ⟨hk0,l⟩;refine AC (AE (J (BN Z Z Z) (AD (AC (Ac Z (λB=>?_) (λB=>?_))))))
 .have a:k<x.pl.length:=Ba B;refine AZ (AC (A0 (AC ?_)));obtain ⟨eb,ec,K⟩:=UX j a;have E:=R7 j K;have X:x.pl[k].1<N.po.length:=T.2 _ (ξ a)
  obtain ⟨y,R⟩:∃y,N.po[x.pl[k].1]? =some y:=⟨_,ω X⟩
  have t:N.po.getD x.pl[k].1 CI=y:=by rw [Ψ,R];rfl
  have D:=ϑ R;obtain ⟨Q,c⟩:=h.pp _ y R;have H:=S _ (ξ a);rw [t] at H;obtain ⟨qb,qc,G⟩:=UX c H.1;have hqc:y.q.length<=qc:=by have h1:=c;rw [G] at h1;have h2:=h1.1;rw [ψ] at h2;exact h2
  have Y:=lU h c (h.q y D) x.pl[k].2 (by omega) (by have h1:=C.ql y D;omega);refine AE (J (Vi K (k) Z Z Z a underlying182 PA Z) ?_);refine J (Dc (f:=40) (e:=k) Z (Z) Z (E) (Ab a) Z aW Z) (V (Bn 911 Vn Z Z Z Z) (V (B1 Z Z Z Z Z Z Z PA) (AD (AC (DB [[],[0],[0,1],[0,1,2],[0,1,2,3],[],[5],rg 7,rg 8] mixed Z (DP (AQ [6] Z (AU Z Gv Z Z Z) (CK [16] [911] Z Z (λ_=>A5 (A2 Z Z Z E1 Z)) ?_))))))));refine AQ [17] Z (DN Z Z) (AQ [18] Z (CM Z Gw Z Z Z) (CK [19] [40] Z Z (λ_=>A5 (D4 (f:=40) Z Z (Q) Z GH Z)) (AQ [6] Z (AU Z Qt Z Z Z) (CK [21] [911] Z Z (λ_=>A5 (A2 Z Z Z Aw Z)) (Cg 7 Z Z Z (Ag 8 Z Z (J (Rx G x.pl[k].2 Z Z Z (by omega) R3 LU Z) (AD ⟨Z,?_⟩))))))));refine Ag 9 Z Z (V (EX Y Z [40] ⟨Z,trivial⟩ Z Z Z Z Z Z Z Z Z) (AD ⟨Z,?_⟩));refine Cr (JJ Z (λA=>?_) (λA=>?_))
  .refine AC (AE (AB Z Z (AD (A4 ?_))));exact ⟨_,[40,50,51],_,A3 Z,Z,Z,by rw [sy (List.any_eq_true.2 ⟨_,ξ a,by unfold bF;rw [t];simpa using A⟩)],Z⟩
  .refine AZ (AE (J (Ar Z Z (AO (k+1) (by omega)) Z) (dd Z Z (AD ?_))));exact ⟨k+1,⟨by show k+1<=_;omega,by rw [χ a];intro e v;rcases ν.1 v with v | v;exact l e v;rw [ζ.1 v];unfold bF;rw [t];simpa using A⟩,by show x.pl.length - (k+1)<x.pl.length - k;omega,AY hF [910,40,50,51] Z (Z) ⟨Z,Z,Z,Z,Z,trivial⟩⟩
 .refine BC (AC (AC ?_));have I:x.pl.any (bF N)=false:=by rw [List.any_eq_false];intro e v;have e1:k=x.pl.length:=(by have h:=B;omega);rw [e1,fw] at l;rw [l e v];simp
  refine AE ?_;refine dd Z Z (J (DN Z Z) (J (CM Z F7 Z Z Z) (J (CM Z Do Z Z Z) (J (D4 (f:=40) Z Z (g) Z BG Z) (J (qX Z Z) (V (EX O Z [910,40,50,51] ⟨Z,Z,Z,Z,trivial⟩ Z Z Z Z Z Z Z Z Z) (AD (JJ Z (λz=>?_) (λz=>?_)))))))))
  .refine AC (AE (AB Z Z (AD (A4 ?_))));exact ⟨_,[40,50,51],_,A3 Z,Z,Z,by rw [tA I (by simpa using z)],Z⟩
  .refine AZ (AC (AE ?_));refine dd Z Z (J (DN Z Z) (J (CM Z KA Z Z Z) (J (D4 (f:=40) Z Z (g) Z WZ Z) (V (EX hc3 Z [40] ⟨Z,trivial⟩ Z Z Z Z Z Z Z Z Z) (J (OZ Z Z) (AB Z Z (AD (A4 ?_))))))));exact ⟨_,[40,50,51],_,A3 Z,Z,Z,by rw [sz I (by simpa using z)],Z⟩
abbrev HG (wb mv:Nat) (bs:Option (List Nat×Nat)) (L:List (Int×Value)) (M:MF):Hp:=(920,[.blk 171 [.d (pD wb 0)]])::HW mv bs L M
theorem cg (g:Option (List Nat×Nat)) (h:Bx u w s o N M) (k:ga N) {i:Nat} {x:Nd} (j:N.nd[i]? =some x):
  AJ prog 98 [.d (pD (s i) 0),.ptr 920 0 0] (HG u w g (Fb s (BO N)) M) λr t=>r= .d (Aa (x.on && Ds N x))/\t=HG u w g (Fb s (BO N)) M:=by
 have b:=h.n i x j;have a:=lx g h k j
 obtain ⟨L,l⟩:∃L,Fb s (BO N)=L:=⟨_,Z⟩
 rw [l] at a⊢;refine As func98 Z Z ntmps98 Z Z Z λF v=>(AC (AE (AB Z Z ?_)));refine AD (AC (AE (dd Z Z (J (DN Z Z) (J (CM Z Ec Z Z Z) (J (D4 (f:=40) Z Z (b) Z oV Z) (dd Z Z (NL 8 Z (λc=>?_) (λc=>?_)))))))));refine Ad Z Z Z (J (A2 Z Z Z W2 Z) (Ad Z Z Z (dd Z Z (Ad Z Z Z (V (EX a Z [40,50,51] ⟨Z,Z,Z,trivial⟩ Z Z Z Z Z Z Z Z Z) (J (Ff Z Z Z Z) ?_))))))
 rotate_left
 refine A9 Z Z Z Z (A9 Z Z Z Z (A9 Z Z Z Z (J (EA Z Z Z Z) ?_)))
 all_goals
  refine AB Z Z (AD (A4 ?_));exact ⟨_,[920,40,50,51],_,A3 Z,Z,Z,by rcases Bool.eq_false_or_eq_true x.on with e | e<;>rw [e] at c⊢<;>first | rfl | (simp at c),rfl⟩
def Nm (N:fC) (i:Nat):Bool:=(N.nd.getD i Bo).on && Ds N (N.nd.getD i Bo)
theorem pI (C:Option (List Nat×Nat)) (h:Bx u w s o N M) (I:ga N):
  AJ prog 97 [.d (fE N.nh N.nd.length),.fn 98 [.ptr 920 0 0]] (HG u w C (Fb s (BO N)) M) λr T=>r= .d (AF (Jm (Nm N) (List.range N.nd.length)))/\T=HG u w C (Fb s (BO N)) M:=by
 have b:BD M N.nh bC 1 ((List.range N.nd.length).map λi=>BH (s i)):=h.rs.1 .n;have P:N.nh=none ->N.nd.length=0:=λe=>by have O:=UP b e;rw [gI] at O;exact O
 have Q:=I.n.1;have B:=λi x D=>cg (i:=i) (x:=x) C h I D
 obtain ⟨L,S⟩:∃L,Fb s (BO N)=L:=⟨_,Z⟩
 rw [S] at B⊢;refine As func97 Z Z ntmps97 Z Z Z λF K=>(AC (AE (AB Z Z (AD ?_))));refine AC (AC (AE (dd Z Z (J (Vk P Z R3 Z) (dd Z Z (AD (A0 (BX (α:=Nat) (λk=>⟨19,[(0,.d (fE N.nh N.nd.length)),(1,.fn 98 [.ptr 920 0 0]),(7,(.d (AF (N.nd.length:Int)))),(8,(.d (AF (k:Int))))],HG u w C L M⟩) (λk=>k<=N.nd.length/\∀x∈(List.range N.nd.length).take k,Nm N x=false) (λk=>N.nd.length - k) (0) (⟨υ _,by simp⟩) (AY K [920,40,50,51] Z Z ⟨Z,Z,Z,Z,trivial⟩) ?_))))))));rintro k ⟨R,E⟩;refine AC (AE (J (BN Z Z Z) (AD (AC (Ac Z (λH=>?_) (λH=>?_))))))
 .have a:k<N.nd.length:=Ba H;refine AZ (AC (A0 (AC ?_)));have c:k<(List.range N.nd.length).length:=by rw [gI];exact a
  obtain ⟨W,U,v⟩:=UX b c;have t:=R7 b v
  obtain ⟨z,j⟩:∃z,N.nd[k]? =some z:=⟨_,ω a⟩
  have G:=B k z j;have A:Nm N k=(z.on && Ds N z):=by unfold Nm;rw [Ψ,j];rfl
  refine AE (dd Z Z ?_);refine AB Z Z (AD (AC (AE (dd Z Z (dd Z Z (dd Z Z (J (Vi v (k) Z Z Z a R3 LU Z) (J (mJ (f:=40) (e:=k) (off:=0) Z (by omega) Z (t) ((by rw [η,iW a];rfl)) Z NG Z) ?_))))))));refine V (UZ G Z [920,40,50,51] ⟨Z,Z,Z,Z,trivial⟩ Z Z Z Z Z Z Z Z Z) (AD (JJ Z (λg=>?_) (λg=>?_)))
  .refine AC (AE (dd Z Z (AB Z Z (AD (A4 ?_)))));exact ⟨_,[920,40,50,51],_,A3 Z,Z,Z,Ax (by unfold Jm;rw [F6 c E (by rw [List.getElem_range,A];simpa using g)]),Z⟩
  .refine AZ (AE (J (Ar Z Z (AO (k+1) (by omega)) Z) (dd Z Z (AD ?_))));exact ⟨k+1,⟨by show k+1<=_;omega,by rw [χ c];intro y l;rcases ν.1 l with l | l;exact E y l;rw [ζ.1 l,List.getElem_range,A];simpa using g⟩,by show N.nd.length - (k+1)<N.nd.length - k;omega,AY K [920,40,50,51] Z (Z) ⟨Z,Z,Z,Z,trivial⟩⟩
 .refine BC (AC (AE (AB Z Z (AD (A4 ?_)))));exact ⟨_,[920,40,50,51],_,A3 Z,Z,Z,Ax (by unfold Jm;rw [Gt (λx D=>E x (by rw [ς (by rw [gI];have h:=H;omega)];exact D))]),Z⟩
theorem kP (N:fC):fe (Ao N)=fe N:=funext λi=>by unfold fe;rw [FL];rfl
theorem YQ (N:fC):fA (Ao N)=fA N:=funext λe=>by unfold fA;rw [FL,Gy];rfl
theorem ZL (N:fC) (x:Nd):Ds (Ao N) (EW x)=Ds N x:=by
 have a:bF (Ao N)=bF N:=funext λe=>by unfold bF;rw [Hs,kP];rfl
 have b:(λe:Nat×Int=>Q2 ((Ao N).po.getD e.1 CI) e.2)=λe=>Q2 (N.po.getD e.1 CI) e.2:=funext λe=>by rw [Hs];rfl
 unfold Ds;rw [a,YQ]
 grind [EW]
theorem ci (N:fC):Nm (Ao N)=Nm N:=funext λi=>by unfold Nm;rw [FL,ZL];rfl
def Oo (po:List Po) (e:Nat×Int):List Po:=match po[e.1]? with
 | some y=>po.set e.1 {y with room:=y.room+e.2}
 | none=>po
theorem mA {e:Nat×Int} (h:t[e.1]? =some A):Oo t e=t.set e.1 {A with room:=A.room+e.2}:=by unfold Oo;rw [h]
theorem UG:∀(l:List (Nat×Int)) (a:List Po),(l.foldl Oo a).map CR=l.foldl Oo (a.map CR)
 | [],_=>rfl
 | e::l,a=>by
  rw [List.foldl_cons,List.foldl_cons,UG l]
  congr 1
  unfold Oo;rw [η]
  cases a[e.1]? with
  | none=>rfl
  | some y=>show (a.set e.1 _).map CR=_;rw [List.map_set];rfl
theorem ZO (l:(a.map eY.r).Nodup) (f:eY ->Po):∀(D:List (AM×Int)),(D.map Prod.fst).Nodup ->(V5 (a.map eY.r) D).foldl Oo (a.map f)=a.map λx=>{f x with room:=(f x).room+ER D x.r}:=by
 intro D
 induction D using ZU with
 | h0=>
  intro _;show a.map f=_;refine fi λx _=>?_;show f x={f x with room:=(f x).room+0}
  rw [Int.add_zero]
 | h1 D d b=>
  intro g;rw [fU,ip] at g;have j:d.1∉D.map Prod.fst:=λh=>g.2.2 _ h _ (List.mem_singleton_self _) rfl;have b:=b g.1
  by_cases c:d.1∈a.map eY.r
  .rw [V4 c,List.foldl_append,b];obtain ⟨o,k⟩:=MM c
   grind [Oo,Qz,D0,EM,DG]
  .rw [RC c,b];refine fi λx i=>?_;have:ER (D++ [d]) x.r=ER D x.r:=DG λe=>c (e▸κ.2 ⟨x,i,Z⟩);rw [this]
def J9 (on:Nat ->Bool):Nat ->Bool:=λi=>!on i
def tI (ds:List (List (AM×Int))) (on:Nat ->Bool) (x:eY):Po:=⟨x.r,x.n+Er ds (J9 on) x.r,Er ds (λ_=>true) x.r,none,et ds x.r,(et ds x.r).length⟩
def fc (ros:List eY) (its:List eR) (on:Nat ->Bool):fC:=⟨(List.range its.length).map (Kq (ros.map eY.r) its on),ros.map (tI (its.map eS) on),none,none⟩
theorem Xh (b:List (List (AM×Int))) (r:AM):Er b (J9 λ_=>true) r=0:=by
 unfold Er J9
 generalize List.range b.length=l
 induction l with
 | nil=>rfl
 | cons a l c=>rw [gA,hZ,c];rfl
theorem bo (a:List eY) (b:List eR):fc a b (λ_=>true)=ej a b λ_=>true:=by grind [fc,ej,fi,tI,bB,Xh,Wf]
theorem je {a:List (List (AM×Int))} (h:i<a.length) (c:f i=true) (r:AM):Er a (J9 (Ah f i)) r=Er a (J9 f) r+ER (a.getD i []) r:=by
 obtain ⟨B,b,g⟩:=IM h;unfold Er;rw [b,fU,fU,gA,gA,i6,i6,hZ,hZ]
 grind [J9,fi,GC,IH]
def se (N:fC) (i:Nat) (x:Nd):fC:={N with nd:=N.nd.set i (EJ x),po:=x.ef.foldl Oo N.po}
theorem uH (w:(a.map eY.r).Nodup) (h:Ao N=fc a c f) (g:i<c.length) (v:f i=true) (u:N.nd[i]? =some x):Ao (se N i x)=fc a c (Ah f i):=by
 have l:N.nd.map EW=(List.range c.length).map (Kq (a.map eY.r) c f):=fL fC.nd h;have k:N.po.map CR=a.map (tI (c.map eS) f):=fL fC.po h
 have b:EW x=Kq (a.map eY.r) c f i:=by
  have s:(N.nd.map EW)[i]? =some (EW x):=by rw [η,u];rfl
  grind
 have r:x.ef=V5 (a.map eY.r) (eS (c.getD i eT)):=fL Nd.ef b;have fW:i<(c.map eS).length:=by simpa using g
 have o:(c.map eS).getD i []=eS (c.getD i eT):=by rw [EQ [] fW,EQ eT g,ft]
 unfold Ao se fc;dsimp only
 congr 1
 .rw [List.map_set,l]
  have:EW (EJ x)=Kq (a.map eY.r) c (Ah f i) i:=by
   have s:EW (EJ x)=EJ (EW x):=rfl;rw [s,b];unfold Kq EJ Ah;rw [ϱ rfl]
  rw [this];refine i8 λj=>?_;rw [jB]
  by_cases e:i=j
  .subst e;rw [ϱ Z,ϱ (by simpa using g),η,iW g];rfl
  .rw [θ e,η,η]
   cases hj:(List.range c.length)[j]? with
   | none=>rfl
   | some z=>
    have t:=φ.1 hj;have:z=j:=by have:=t.2;simp at this;exact this.symm
    subst this;show some _=some _;unfold Kq Ah;rw [θ (λh=>e h.symm)]
 .rw [UG,k,r,ZO w _ _ (jP _)];refine fi λz _=>?_;unfold tI;dsimp only;rw [je fW v,o,Int.add_assoc]
theorem ut (a:List eY) (b:List eR) (c:Nat ->Bool) (j:Nat):((fc a b c).po.getD j CI).q=((ej a b c).po.getD j CI).q:=by
 show ((a.map _).getD j CI).q=((a.map _).getD j CI).q;rw [Ψ,Ψ,η,η]
 cases a[j]?<;>rfl
theorem ur (h:qs a c) (b:Nat ->Bool):ga (fc a c b):=by
 have f:=u7 h b
 have k:∀y∈(fc a c b).po,y.q.length<=30/\y.mi<=30/\ -1000000000000000000<=y.room/\y.room<=1000000000000000000:=λy g=>by
  obtain ⟨x,i,e⟩:=κ.1 g;subst e;have j:=Ja (c.map eS) x.r;rw [ψ] at j;have o:=h.l;have s:=nW h (J9 b) x.r;have r:=h.n x i;refine ⟨by show (et _ _).length<=_;omega,by show (et _ _).length<=_;omega,?_,?_⟩
  .show _<=x.n+Er (c.map eS) (J9 b) x.r;omega
  .show x.n+Er (c.map eS) (J9 b) x.r<=_;omega
 refine ⟨f.i,f.a,f.l,f.e,λx i e l=>?_,λy g=>?_,λy g=>(k y g).2.2,?_,λy g=>?_⟩
 .rw [ut];exact f.p x i e l
 .grind
 .have j:=f.n
  grind [fc,ej]
 grind
theorem mZ (h:Ao N=fc a c f) (k:N.nd[i]? =some x):i<c.length/\x.on=f i/\x.it=c.getD i eT:=by
 have b:(N.nd.map EW)[i]? =some (EW x):=by rw [η,k];rfl
 rw [show N.nd.map EW=(List.range c.length).map (Kq (a.map eY.r) c f) from fL fC.nd h] at b;have g:i<c.length:=by have:=(φ.1 b).1;simpa using this
 rw [η,iW g] at b;have j:EW x=Kq (a.map eY.r) c f i:=(Option.some.inj b).symm;exact ⟨g,fL Nd.on j,fL Nd.it j⟩
theorem n0 (h:Ao N=fc a c f):N.nd.length=c.length:=by grind [ψ,Ao,fc]
theorem n3 (h:Ao N=fc a c f):BO N=c.map eR.id:=by
 rw [<-Gy,h];exact QE a c f
def Hf (ros:List eY) (its:List eR) (on:Nat ->Bool):Option Nat:=(List.range its.length).findIdx? (Nm (fc ros its on))
def Lr (ros:List eY) (its:List eR):Nat ->(Nat ->Bool) ->List Int
 | 0,_=> []
 | f+1,on=>match Hf ros its on with
  | none=> []
  | some i=>(its.getD i eT).id::Lr ros its f (Ah on i)
def CL (p:ee):List Int:=Lr (CD p) (ea p) (ea p).length λ_=>true
theorem NN (h:Hf a c f=some i):i<c.length/\f i=true/\Nm (fc a c f) i=true:=by grind [Hf,List.findIdx?_eq_some_iff_getElem,Nm,fc,Kq]
theorem IJ {b:Nat} (h:Hf a c f=none):Lr a c b f=[]:=by
 cases b with
 | zero=>rfl
 | succ b=>unfold Lr;rw [h]
theorem II {b:List eY} {a:List eR} {f:Nat} {c:Nat ->Bool} {i:Nat} (h:Hf b a c=some i):Lr b a (f+1) c=(a.getD i eT).id::Lr b a f (Ah c i):=by
 show (match Hf b a c with | none=>_ | some i=>_)=_;rw [h]
def PQ (po:List Po) (b:Int):Prop:=∀y∈po,-b<=y.room/\y.room<=b
theorem YB {b c:Int} (h:PQ t b) (i:b<=c) (g: -c<=A.room/\A.room<=c):PQ (t.set z A) c:=λa f=>by
 rcases iw f with f | rfl
 .have:=h a f;omega
 .exact g
theorem TF (p:ee) (hf:CG p) (hE:A6 p=0):AK prog 43 [.d (Bf p)] (.tup [.sl none ((CL p).map AF),AF 0]):=by
 have H:=Tt p hf hE;have v:=aL hf hE;unfold CL;rw [bk,<-bo] at H
 obtain ⟨a,hits⟩:∃a,ea p=a:=⟨_,Z⟩
 obtain ⟨c,U⟩:∃c,CD p=c:=⟨_,Z⟩
 rw [hits,U] at H v⊢;have hl:=v.l;refine As func43 Z Z ntmps43 Z Z Z λF hF=>?_;refine AC (AE (V (Bz 1 Z Z Z Z Z Z Z) (AB Z Z (AB Z Z (AD (AC (AE (J (BE Z Z BM Z Z Z) ?_))))))));refine RX (UY H Z [40,50,51] ⟨Z,Z,Z,trivial⟩ Z Z Z Z (λr H' ⟨_,_,_,_,_,_,_,e1,e2,_⟩=>by subst e1 e2;exact ⟨Z,Z,Z⟩) Z) Z ?_;rintro _ ⟨r,H',⟨L,O,A,pb,N,M,bs,rfl,rfl,t,u⟩,rfl⟩;refine dd Z Z (J (C6 Z Z Z) (J (C6 Z Z Z) (V (Bn 920 rB Z Z Z Z) (V (B1 Z Z Z Z Z Z Z rQ) (AB Z Z (AD ?_))))));refine AC (AC (AE (dd Z Z (J (D7 Z Z Z) (AD (D3 Z (Z) (AZ (AC ?_))))))));rw [n3 u];refine AE (AB Z Z (AD (A0 (Ou 6 900 BV Z Z Z Z (BX (α:=(Nat ->Bool)×fC×MF×List Int×Nat) (λq=>⟨66,[(4,(.ptr 920 0 0)),(6,(.own 900 0 q.2.2.2.1.length))],(900,[.rowD 3 1 (q.2.2.2.1.map AF)])::HG L O bs (Fb A (a.map eR.id)) q.2.2.1⟩) (λq=>Bx L O A pb q.2.1 q.2.2.1/\Ao q.2.1=fc c a q.1/\D9 a.length q.1<=q.2.2.2.2/\q.2.2.2.1.length+q.2.2.2.2<=a.length/\q.2.2.2.1++Lr c a q.2.2.2.2 q.1=Lr c a a.length λ_=>true) (λq=>q.2.2.2.2) ((λ_=>true,N,M,[],a.length)) (⟨t,u,Ti _ _,by simp,Z⟩) (AY hF [900,920,40,50,51] Z Z ⟨Z,Z,trivial⟩) ?_)))));rintro ⟨K,N,M,l,f⟩ ⟨t,u,hc,hal,w⟩;dsimp only at t u hc hal w⊢;refine A0 (AC ?_);have hw:=nV (N:=N) (by rw [u];exact ur v K);have S:=t.w;have hnr:BD M N.nh bC 1 ((List.range N.nd.length).map λi=>BH (A i)):=t.rs.1 .n;have z:=pI bs t hw;have hNl:=n0 u;have hixv:Jm (Nm N) (List.range N.nd.length)=match Hf c a K with | some k=>(k:Int) | none=> -1:=by rw [<-ci,u,n0 u];rfl
 rw [n3 u,hixv] at z;refine AE (J (A2 Z Z Z W2 Z) (J (DN Z Z) (J (CM Z IY Z Z Z) (J (D4 (f:=40) Z Z (S) Z GH Z) (J (qX Z Z) ?_)))))
 cases hne:Hf c a K<;>rw [hne] at z
 .refine V (EX z Z [920,40,50,51] ⟨Z,Z,Z,Z,trivial⟩ Z Z Z Z Z Z Z Z Z) (AB Z Z ?_);refine AD (AC (AC (AE (dd Z Z (J (BN Z Z Z) (AD (DO Z (Z) (AC ?_))))))));rw [IJ hne,gN] at w;refine Ls (emb:=AF) 6 900 l Z Z Z Z Z Z Z (AE (dd Z Z (AB Z Z (AB Z Z (AD (A4 ?_))))));exact ⟨_,[],[],A3 Z,Z,Z,by rw [w],Z⟩
 .refine V (EX z Z [920,40,50,51] ⟨Z,Z,Z,Z,trivial⟩ Z Z Z Z Z Z Z Z Z) (AB Z Z (AD ?_));refine AC (AC (AE (dd Z Z (J (BN Z Z Z) (AD (D3 Z ((fb (by show ¬((_:Nat):Int)<0;omega))) (AZ (AC ?_))))))))
  rename_i i
  obtain ⟨G,Y,hgr⟩:=NN hne;have g:i<N.nd.length:=by rw [hNl];exact G
  obtain ⟨x,C⟩:∃x,N.nd[i]? =some x:=⟨_,ω g⟩
  obtain ⟨_,hon,hit⟩:=mZ u C;obtain ⟨rb,rc,W⟩:=UX hnr (j:=i) (by rw [gI];exact g);have T:=R7 hnr W;have hcn:=GU G Y
  obtain ⟨f2,rfl⟩:∃f2,f=f2+1:=⟨f - 1,by omega⟩
  have hrs:=II (f:=f2) hne;have B:=ϑ C;have hxb:=(t.nn i x C).1;have hez:=UP (t.nn i x C).2.1;have hrx:=(t.nn i x C).2.1;have hxe:=t.e x B;have h1:=t.setNd (x':=EJ x) C Z Z Z Z;have R:(N.nd.set i (EJ x))[i]? =some (EJ x):=by rw [List.getElem?_set_self g]
  have he:=hw.e x B;have hel:=(hw.l x B).1;have hrB:PQ N.po 1000000000000000000:=hw.rm;refine AE (J (A2 Z Z Z W2 Z) (J (DN Z Z) (J (CM Z IY Z Z Z) (J (D4 (f:=40) Z Z (S) Z GH Z) (dd Z Z (J (Vi W (i) Z Z Z g R3 LU Z) (J (mJ (f:=40) (e:=i) (off:=0) Z (by omega) Z (T) ((by rw [η,iW g];rfl)) Z NG Z) ?_)))))));refine AB Z Z (AD (AC ?_));refine AE (dd Z Z (J (DN Z Z) (J (CM Z Ec Z Z Z) (V (Or (f:=40) Z Z Z Z (hxb) ((by show _<9;omega)) Z rJ) (AD (AC (AC (AE ?_))))))));refine dd Z Z (J (DN Z Z) (J (CM Z KA Z Z Z) (J (D4 (f:=40) Z Z ((EB _ _ _)) Z WZ Z) (J (Vk hez Z underlying181 Z) (dd Z Z (AD (A0 (BX (α:=Nat×List Po×MF) (λq=>⟨66,[(4,(.ptr 920 0 0)),(6,(.own 900 0 l.length)),(8,(.d (pD (A i) 0))),(41,(.d (fE x.eh x.ef.length))),(42,(.d (AF (x.ef.length:Int)))),(43,(.d (AF (q.1:Int))))],(900,[.rowD 3 1 (l.map AF)])::HG L O bs (Fb A (a.map eR.id)) q.2.2⟩) (λq=>q.1<=x.ef.length/\q.2.1=(x.ef.take q.1).foldl Oo N.po/\Bx L O A pb {N with nd:=N.nd.set i (EJ x),po:=q.2.1} q.2.2/\PQ q.2.1 (1000000000000000000+100000000000000000*(q.1:Int))/\q.2.1.length=N.po.length) (λq=>x.ef.length - q.1) ((0,N.po,BJ M (A i) (UV (EJ x)))) (⟨υ _,Z,h1,by show PQ N.po (1000000000000000000+100000000000000000*((0:Nat):Int));simpa using hrB,Z⟩) (AY hF [900,920,40,50,51] Z Z ⟨Z,Z,Z,Z,Z,Z,trivial⟩) ?_))))))));rintro ⟨k,po,M2⟩ ⟨hk0,E,b,hS,s⟩;dsimp only at hk0 E b hS s⊢;refine AC (AE (J (BN Z Z Z) (AD (AC (Ac Z (λI=>?_) (λI=>?_))))))
  .have o:k<x.ef.length:=Ba I;refine AZ (AC (A0 (AC ?_)));obtain ⟨eb,ec,hee⟩:=UX hrx o;have D:=R7 (b.nn i (EJ x) R).2.1 hee;have hjl:x.ef[k].1<po.length:=by rw [s];exact hxe.1 _ (ξ o)
   obtain ⟨y,hy⟩:∃y,po[x.ef[k].1]? =some y:=⟨_,ω hjl⟩
   have P:=b.p _ y hy;have hys:=hS y (ϑ hy);have heb:=he _ (ξ o);refine AE ?_;refine J (Vi hee (k) Z Z Z o underlying181 Rs Z) (J (Dc (f:=40) (e:=k) Z (Z) Z (D) (Ab o) Z aY Z) (V (Bn 2 Z0 Z Z Z Z) (V (B1 Z Z Z Z Z Z Z Rs) (AD (DB [[],[0],[0,1],[0,1,2],[0,1,2,3],[],[5],rg 7,rg 8,rg 9,rg 10] mixed Z (DP (AQ [10] Z (AU Z Qw Z Z Z) (CK [47] [2] Z Z (λ_=>A5 (A2 Z Z Z E1 Z)) ?_))))))));refine AQ [48] Z (DN Z Z) (AQ [49] Z (CM Z Qu Z Z Z) (CK [50] [40] Z Z (λ_=>A5 (D4 (f:=40) Z Z (P) Z Km Z)) (AQ [10] Z (AU Z Qv Z Z Z) (CK [52] [2] Z Z (λ_=>A5 (A2 Z Z Z Km Z)) (Cg 7 Z Z Z (Ag 8 Z Z (J (Ar Z Z (Ω _ (by omega)) Z) (AD ⟨Z,?_⟩))))))));refine Ag 9 Z Z (J (DN Z Z) (AD ⟨Z,?_⟩));refine Ag 10 Z Z (J (CM Z Qu Z Z Z) (AD ⟨Z,?_⟩));refine Ag 11 Z Z (V (Or (f:=40) Z Z Z Z (P) ((by show _<10;omega)) Z tS) (AD ⟨Z,?_⟩));refine Cr (AE (J (Ar Z Z (AO (k+1) (by omega)) Z) (dd Z Z (AD ?_))));exact ⟨(k+1,po.set x.ef[k].1 {y with room:=y.room+x.ef[k].2},BJ M2 (pb x.ef[k].1) (UU {y with room:=y.room+x.ef[k].2})),⟨by show k+1<=_;omega,by show po.set _ _=_;rw [LC o,<-E,mA hy],b.setPo hy Z Z,by show PQ _ (1000000000000000000+100000000000000000*((k+1:Nat):Int));exact YB hS (by omega) (by show _<=y.room+x.ef[k].2/\y.room+x.ef[k].2<=_;omega),by show (po.set _ _).length=_;rw [fq];exact s⟩,by show x.ef.length - (k+1)<x.ef.length - k;omega,AY hF [900,920,40,50,51] Z (Z) ⟨Z,Z,Z,Z,Z,Z,trivial⟩⟩
  .refine BC ?_;have X:po=x.ef.foldl Oo N.po:=by rw [E,ς (by have h:=I;omega)]
   have hR2:Bx L O A pb (se N i x) M2:=by unfold se;rw [<-X];exact b
   have Q:=(b.nn i (EJ x) R).1;refine AE (dd Z Z ?_);refine dd Z Z (J (DN Z Z) (J (CM Z F7 Z Z Z) (J (CM Z OY Z Z Z) (J (D4 (f:=40) Z Z (Q) Z Aw Z) (V (D6 3 BV Z Z Z Z Z Z Z Z) (V (H1 (l) ([x.it.id]) Z Z Z Z Z Z Z Z BV (by simp only [Φ];omega) Z Z Z Z) (AB Z Z (AD ?_))))))));exact ⟨(Ah K i,se N i x,M2,l++ [x.it.id],f2),⟨hR2,uH v.r u G Y C,by show D9 a.length (Ah K i)<=f2;omega,by show (l++ [x.it.id]).length+f2<=_;rw [Δ];simp;omega,by show (l++ [x.it.id])++Lr c a f2 (Ah K i)=_;rw [io,<-w,hrs,hit];rfl⟩,by show f2<f2+1;omega,AY hF [900,920,40,50,51] Z (Z) ⟨Z,Z,trivial⟩⟩
def UI (a:List UInt8):US:=⟨a,0,[67,65,83,72]⟩
def Oa (id:Int) (a b:List UInt8) (n:Int):eR:=⟨id,0,id,[⟨UI a,0 - n⟩,⟨UI b,n⟩],[],[]⟩
deriving instance DecidableEq for KV
theorem KV.eq_iff {x y:KV}:x=y↔x.id=y.id/\x.re=y.re/\x.r=y.r/\x.by_=y.by_:=by cases x;cases y;simp
def jw (a:UInt8):AM:=⟨0,UI [a],[],[]⟩
def sQ:List (List UInt8):=[[65],[66],[67]]
def QW:List eY:=[⟨jw 65,0⟩,⟨jw 66,0⟩,⟨jw 67,0⟩]
theorem so (a:List eY) (b:List eR) (c:Nat ->Bool):Ao (ej a b c)=ej a b c:=by
 unfold Ao ej;dsimp only;rw [fS,fS]
 rfl
theorem Yy (n:Nat):D9 n (λ_=>true)=n:=by
 unfold D9;rw [List.filter_eq_self.2 λ_ _=>rfl,gI]
theorem jn (u:(c.map eR.id).Nodup):∀(f:Nat) (b:Nat ->Bool),(E7 a c f b).1.length+D9 c.length (E7 a c f b).2=D9 c.length b:=by
 intro f
 induction f with
 | zero=>intro b;show 0+_=_;rw [gf];rfl
 | succ f s=>
  intro b
  cases hn:CT (ej a c b) with
  | none=>rw [JX hn];show 0+_=_;rw [gf]
  | some e=>
   obtain ⟨i,x,t,j,o⟩:=Q7 hn;obtain ⟨g,h,k⟩:=MY (so a c b) t;rw [j] at h;have l:i<(c.map eR.id).length:=by rw [ψ];exact g
   have r:(c.map eR.id)[i]=e.id:=by rw [o,k,ft,EQ eT g]
   rw [JW hn,<-r,IT u l];have w:=s (Ah b i);have v:=GU g h.symm;show (E7 a c f (Ah b i)).1.length+1+D9 c.length (E7 a c f (Ah b i)).2=D9 c.length b;omega
theorem Y6 (p:ee):(eU p).length=D9 (ea p).length (Ig p).2:=by
 unfold eU BY D9;rw [ψ]
theorem cv (a:A6 g=0):(Ig g).1.length+(eU g).length=g.it.length:=by grind [ea,jn,DW,Yy,Y6,Ig,jO]
theorem Gg (a:A6 g=0):eU g=((ea g).map eR.id).filter λx=>decide (x∈eU g):=Q4 (DW a) _
theorem mG (b:A6 g=0) {y:Int} (a:y∈eU g):y∈g.it.map eR.id:=by grind [ea,Gg,I9]
theorem qW (a:A6 g=0):(eU g).Nodup:=by
 rw [Gg a];exact (DW a).sublist gE
theorem IS (a:A6 g=0):(eU g).length<=g.it.length:=by have:=cv a;omega
theorem Uo (a:∀o∈h,Cb o.r=0/\ -4*Mx<=o.n/\o.n<=4*Mx) (i:(h.map eY.r).Nodup):Cv h=0:=by
 unfold Cv;refine RT.2 λk g=>?_;have b:=Θ.1 g;have f:=a _ (ξ b);unfold Ms;rw [EQ Ha b,θ (λa=>a f.1),θ (λa=>a f.2),θ];intro c;rw [List.map_take] at c;obtain ⟨j,r,e⟩:=iY.1 c
 grind [gc]
structure R2 (R:Int ->Int ->Prop) (l Y:List eY):Prop where
 len:Y.length=l.length
 at_:∀(j:Nat) x y,l[j]? =some x ->Y[j]? =some y ->y.r=x.r/\ -4*Mx<=y.n/\y.n<=4*Mx/\R x.n y.n
theorem R2.set (b:R2 R h Y) (g:y<Y.length) {n:Int} (i: -4*Mx<=n/\n<=4*Mx) (o:∀x,R x Y[y].n ->R x n):R2 R h (Y.set y ⟨Y[y].r,n⟩):=
 ⟨by rw [fq];exact b.len,λj x a f c=>by
  rw [jB] at c
  split at c
  .rename_i e;subst e
   first | (rw [ϱ g] at c;injection c with c;subst c) | (injection c with c;subst c)
   have:=b.at_ y x _ f (ω g);exact ⟨this.1,i.1,i.2,o _ this.2.2.2⟩
  .exact b.at_ j x a f c⟩
theorem R2.map (a:R2 R h Y):Y.map eY.r=h.map eY.r:=by
 refine gu (by rw [ψ,ψ,a.len]) λj c b=>?_;rw [ψ] at c b;rw [ft,ft];exact (a.at_ j _ _ (ω b) (ω c)).1
theorem R2.mem (a:R2 R h Y):∀y∈Y,∃x∈h,y.r=x.r/\ -4*Mx<=y.n/\y.n<=4*Mx/\R x.n y.n:=λy f=>by
 obtain ⟨j,c,rfl⟩:=iL.1 f;have b:j<h.length:=by rw [<-a.len];exact c
 exact ⟨h[j],ξ b,a.at_ j _ _ (ω b) (ω c)⟩
theorem R2.b (a:R2 R h Y) (b:y<Y.length): -4000000000000000<=Y[y].n/\Y[y].n<=4000000000000000:=by
 obtain ⟨x,_,_,f,c,_⟩:=a.mem _ (ξ b)
 grind
theorem Sb (a:j.Nodup) (b:z<j.length):j[z]∉j.take z:=λh=>by
 obtain ⟨i,c,e⟩:=iY.1 h;rw [List.Nodup,gc] at a;exact a i z (by omega) b (by omega) e
theorem Ye (g:∀i∈k,Aq i=0) (f:(k.map eR.id).Nodup) (c:(k.map eR.sq).Nodup):Dl k=0:=by
 unfold Dl;refine RT.2 λa b=>?_
 grind [Ng,List.map_take,Sb]
theorem ZN (h:∀i∈k,∀x∈i.af,x∈k.map eR.id):Hy k=0:=by
 unfold Hy;refine RT.2 λi a=>?_
 grind [Qy,Id]
theorem I3 (h:Hy k=0):∀i∈k,∀x∈i.af,x∈k.map eR.id:=λi c x a=>by
 have:=RT.1 h i c;unfold Qy at this
 split at this
 .cases this
 .rename_i b
  refine Classical.byContradiction λf=>b (List.any_eq_true.2 ⟨x,a,?_⟩);unfold Id;rw [fb f];rfl
def iU (i:Int) (q:List Int):List Int:=if i∈q then q.takeWhile λa=>decide (a≠i) else []
theorem XI {id:Int}:DA g j id=none↔(∀x∈g.ro,∀a∈iU id (ez (eX g.it) x.r),a∈j)/\∀a∈(eo g id).af,a∈j:=by grind [ON,iU,GD,DA,Option.map_eq_none_iff]
theorem GP:F8 g j↔(∀id∈j,(∀x∈g.ro,∀a∈iU id (ez (eX g.it) x.r),a∈j)/\∀a∈(eo g id).af,a∈j)/\∀x∈g.ro,0<=C9 g.it x j:=by
 unfold F8;exact ⟨λh=>⟨λid b=>XI.1 (h.1 id b),λx c=>by have:=h.2 x c;omega⟩,λh=>⟨λid b=>XI.2 (h.1 id b),λx c=>by have:=h.2 x c;omega⟩⟩
theorem qL {i m:Int} {q:List Int}:m∈iU i q ->i∈q:=by grind [iU]
theorem NC (a:A6 g=0):ea g=eX g.it:=ϱ a
section
variable {P:Program} {F:Fr} {s:AS} {d:Nat} {ty:TypeId} {pos:String} {aft:Array Edge} {g:Option (Nat×Bool)} {at_:Array TypeId}
end
variable {a:ee}
def sx (p:ee):List Int:=(eX p.it).map eR.id
def tQ (id:Int) (y:eR):eR:=⟨y.id,y.pr,y.sq,y.po,y.pa,Lx y.af id⟩
def WM (id:Int) (its:List eR):List eR:=(its.filter λy=>decide (y.id≠id)).map (tQ id)
def rV (p:ee) (id:Int):ee:=⟨p.ro.map λx=>⟨x.r,x.n+Be (eo p id) x.r⟩,WM id p.it⟩
theorem Xv (id:Int) (a:List eR):(WM id a).length<=a.length:=by
 unfold WM
 grind
structure tL (p:ee) (b:Int):Prop where
 f:CG p
 r:(p.ro.map eY.r).Nodup
 n:∀x∈p.ro,-b<=x.n/\x.n<=b
theorem tL.set {b:Int} (h:tL a b) (id:Int):tL (rV a id) (b+1000000000000000):=by
 refine ⟨⟨?_,?_,λx g=>?_⟩,?_,λx g=>?_⟩
 .have:=Xv id a.it;have c:=h.f.i;show (WM id a.it).length<=30;omega
 .show (a.ro.map _).length<=100;rw [ψ];exact h.f.r
 .obtain ⟨y,f,rfl⟩:=κ.1 g;have c:=h.f.x y (Γ.1 f).1;exact ⟨c.1,c.2.1,fO (gM _ _) c.2.2⟩
 .show ((a.ro.map _).map eY.r).Nodup;rw [fS];exact h.r
 .obtain ⟨y,f,rfl⟩:=κ.1 g;have c:=h.n y f;have i:=dP (eo a id) y.r
  grind
noncomputable def jD:Nat ->ee ->List Int
 | 0,_=> []
 | f+1,p=>match (sx p).find? λid=>decide (F8 p [id]) with
  | none=> []
  | some id=>id::jD f (rV p id)
structure GI (G:List Int) (p:ee) (acc:List Int) (f:Nat) (ag:Bool):Prop where
 m:tL p (34000000000000000 - 1000000000000000*(f:Int))
 l:(sx p).length<=f
 a:acc.length+f<=30
 v:(ag=true ->acc++jD f p=G)/\(ag=false ->acc=G)
def X1 (its:List eR) (on:Nat ->Bool) (u:List Int):Prop:=∀j,j<its.length ->(on j=true↔(its.getD j eT).id∉u)
theorem X1.off {a:List eR} (f:(a.map eR.id).Nodup) {b:Nat ->Bool} {u:List Int} (c:X1 a b u) {i:Nat} (g:i<a.length):X1 a (Ah b i) (u++ [(a.getD i eT).id]):=by grind [Qi,X1,Ah]
theorem SG {ros:List eY} {its:List eR}:∀(f:Nat) (a:Nat ->Bool),(Lr ros its f a).length<=f
 | 0,_=>ϖ _
 | f+1,a=>by
  cases hn:Hf ros its a with
  | none=>rw [IJ hn];exact υ _
  | some i=>rw [II hn];have:=SG (ros:=ros) (its:=its) f (Ah a i);simp;exact this
abbrev nT (x:Int×eY):D:= .agg [AF x.1,AF x.2.r.k,Aj x.2.r.acc.o,AF x.2.r.acc.k,Aj x.2.r.acc.a,Aj x.2.r.f,Aj x.2.r.t,AF x.2.n]
noncomputable def fj (p:ee) (id:Int):List eY:=Ll p (At (fZ p [id]))
noncomputable def gC (p:ee) (id:Int):Option (Int×eY):=if id∈eU p then none else (fj p id).head?.map λx=>(id,x)
noncomputable def iT (p:ee):List (Int×eY):=((eX p.it).map eR.id).filterMap (gC p)
theorem Tx {id:Int} (h:id∈eU a):gC a id=none:=ϱ h
theorem dj {id:Int} (h:¬0<(fj a id).length):gC a id=none:=by grind [gC]
theorem lp {id:Int} (b:id∉eU a) (h:0<(fj a id).length):gC a id=some (id,(fj a id)[0]):=by
 unfold gC;rw [θ b,List.head?_eq_getElem?,ω h]
 rfl
theorem Ql {a b:Type} {f:a ->Option b} {l:List a} {k:Nat} (c:k<l.length):(l.take (k+1)).filterMap f=(l.take k).filterMap f++(f l[k]).toList:=by grind [χ]
theorem KN (b:A6 a=0) {l:List Int} (c:l.Nodup) (g:∀x∈l,x∈a.it.map eR.id):DM a l=0:=by
 unfold DM;rw [θ (by omega)];unfold QU;refine RT.2 λk f=>?_
 grind [HO,Jc]
theorem lh {S:List Int}:∀y∈fZ a S,y∈a.it.map eR.id:=by grind [fZ,Ct]
theorem ld (b:A6 a=0) (S:List Int):(fZ a S).Nodup:=by
 unfold fZ;exact (Ct _).nodup_iff.2 (List.Nodup.sublist gE (XT (HX b).2.1))
theorem sf {l:List eY} (h:0<l.length):(l.map Bt)[0]? =some (Bt l[0]):=Ab h
theorem ZG (p:ee) (u:CG p) (i:A6 p=0):AK prog 31 [.d (Bf p)] (.tup [.sl none ((iT p).map nT),AF 0]):=by
 have C:=Gf p u i;have O:=u.i;have B:=u.r;have g:=F1 p u.b;rw [show ea p=eX p.it from ϱ i] at g;have P:=IS i;have H:=jO p.it;have w:=λ{id:Int} (c:id∈p.it.map eR.id)=>l9 p [id] u.b (by simp) (by omega) (by omega) (KN i (by simp) λx t=>by rw [ζ.1 t];exact c) (by simp) λx t=>by rw [ζ.1 t];exact c
 have v:∀id:Int,AK prog 28 [.d (Bf p),.d (JL (fZ p [id]))] (.tup [.sl none ((fj p id).map Bt),AF 0]):=λid=>by
  have h:=jW p (fZ p [id]) u.b (by have:=d8 (p:=p) (l:=[id]);omega);rw [KN i (ld i _) lh,ϱ rfl] at h;exact h
 obtain ⟨L,z⟩:∃L,(eX p.it).map eR.id=L:=⟨_,Z⟩
 have S:L.length<=30:=by rw [<-z,ψ,H];omega
 have I:∀x∈L,x∈p.it.map eR.id:=λx t=>by rw [<-z] at t;exact ((I9 p.it).map eR.id).mem_iff.1 t
 have E:iT p=L.filterMap (gC p):=by unfold iT;rw [z]
 rw [z] at g;rw [E];refine As func31 Z Z ntmps31 Z Z Z λF A=>?_;refine AC (AE (V (Bz 1 Z Z Z Z Z Z Z) (AB Z Z (AB Z Z (AD (AC (AE (J (BE Z Z BM Z Z Z) ?_))))))));refine J (BT (C) Z Z) (dd Z Z (J (C6 Z Z Z) (J (C6 Z Z Z) (AB Z Z (AB Z Z (AD (AC (AC ?_))))))));refine AE (dd Z Z (J (D7 Z Z Z) (AD (D3 Z (fb (by decide)) (AZ (AC (AE (dd Z Z ?_))))))));refine RX (UY (Fv (eU p) (qW i) (by omega)) Z [41] ⟨Z,trivial⟩ Z Z Z Z (λr U ⟨b,N,M,K,_⟩=>by subst M K;exact ⟨Z,Z,Z⟩) Z) Z ?_;rintro _ ⟨r,U,⟨b,N,M,K,R⟩,rfl⟩;subst M K;refine AB Z Z (AD (AC (AE (AB Z Z (AD (AC (AC ?_)))))));refine AE (J (BE Z Z BM Z Z Z) (J (BT (g) Z Z) (J (CB Z E0 Z) (dd Z Z (AD (A0 (Ou 7 10 nz Z Z Z Z (BX (α:=Nat×List (Int×eY)) (λq=>⟨65,[(1,(.ptr 1 0 0)),(6,(.d (O2 b))),(7,(.own 10 0 q.2.length)),(25,(.d (JL L))),(26,(.d (AF (L.length:Int)))),(27,(.d (AF (q.1:Int))))],[(1,[.blk 39 [.d (.sl none (p.ro.map Bt)),.d (.sl none (p.it.map Af))]]),(41,[.multi N]),(10,[.rowD 66 8 (q.2.map nT)])]⟩) (λq=>q.1<=L.length/\q.2=(L.take q.1).filterMap (gC p)/\q.2.length<=q.1) (λq=>L.length - q.1) ((0,[])) (⟨υ _,Z,υ _⟩) (AY A [1,41,10] Z Z ⟨Z,Z,Z,Z,Z,Z,trivial⟩) ?_))))))));rintro ⟨k,T⟩ ⟨Q,y,G⟩;dsimp only at Q y G⊢;refine AC (AE (J (BN Z Z Z) (AD (AC (Ac Z (λs=>?_) (λs=>?_))))))
 .refine AZ (AC (A0 (AC ?_)));have a:k<L.length:=Ba s;have c:=I _ (ξ a);refine AE (J (Bh (k) Z Z (Z) (Ab a) E0 Z BU Z) (J (D2 Z Z Aw Z) (AB Z Z ?_)));refine AD (AC (AC (AE (dd Z Z (dd Z Z (V (UZ (Da R L[k]) Z [41] ⟨Z,trivial⟩ Z Z Z Z Z Z Z Z Z) (AD (Ac Z (λo=>?_) (λo=>?_)))))))))
  .refine BC (AE (J (Ar Z Z (AO (k+1) (by omega)) Z) (dd Z Z (AD ?_))));exact ⟨(k+1,T),⟨a,by show _=(L.take (k+1)).filterMap _;rw [Ql a,Tx o,y];simp,by show T.length<=k+1;omega⟩,by show L.length - (k+1)<L.length - k;omega,AY A [1,41,10] Z (Z) ⟨Z,Z,Z,Z,Z,Z,trivial⟩⟩
  .refine AZ (AC (AE (J (BE Z Z BM Z Z Z) (dd Z Z (V (D6 20 BV Z Z Z Z Z Z Z Z) ?_)))));refine mI (emb:=AF) 37 20 [L[k]] Z Z Z Z Z Z Z (V (EX (w c) Z [900] ⟨Z,trivial⟩ Z Z Z Z Z Z Z Z Z) (dd Z Z (J (Cf Z Z Z) (J (Cf Z Z Z) (AB Z Z (AB Z Z (AD (AC ?_))))))));refine Ls (emb:=AF) 10 900 (fZ p [L[k]]) Z Z Z Z Z Z Z (AE (J (BE Z Z BM Z Z Z) (dd Z Z (J (BT (v L[k]) Z Z) (dd Z Z (J (C6 Z Z Z) (J (C6 Z Z Z) (AB Z Z ?_))))))));refine AB Z Z (AD (AC (AE (dd Z Z (J (Ii Z (ψ ..) underlying69 Z) (J (Ot Z Z Z) (AD (Ac Z (λj=>?_) (λj=>?_)))))))))
   .have f:0<(fj p L[k]).length:=Ba j;refine DB [[],[],[],[2],[2,3],[2,3,4],[],[6],[6,7],[6,7,8],[1,2,3,4,5,6,7,8,9],[1,2,3,4,5,6,7,8,9,10],rg 12,rg 13] mixed Z (DP (Av 7 Z Z (Av 9 Z Z (Av 12 Z Z (AQ [52] Z (Bh (0) Z Z (Z) (sf f) underlying69 Z rH Z) (AQ [53] Z (De Z p9 Z Z Z) (AQ [54] Z (GW Z Z CQ Z) (Av 12 Z Z ?_))))))));refine AQ [56] Z (Bh (0) Z Z (Z) (sf f) underlying69 Z rH Z) (AQ [57] Z (mO Z p8 Z Z Z) (AQ [58] Z (D2 Z Z Km Z) (AQ [51,55,59] Z (Fe tP tn Z Z Z) (Fp [60] [30] [(61,_)] Z Z (λ_=>Fs (D6 30 nz Z Z Z Z Z Z Z Z)) (.inr ⟨61,_,Z,Z,Z,Z,Z⟩) Z Z Z Z Z (Cg 12 Z Z Z (Ag 13 Z Z (V (H1 (T) ([(L[k],(fj p L[k])[0])]) Z Z Z Z Z Z Z Z nz (by simp only [Φ];omega) Z Z Z Z) (AD ⟨Z,?_⟩))))))));refine Ag 14 Z Z (AB Z Z (AD ⟨Z,?_⟩));refine Cr (AE (J (Ar Z Z (AO (k+1) (by omega)) Z) (dd Z Z (AD ?_))));exact ⟨(k+1,T++ [(L[k],(fj p L[k])[0])]),⟨a,by show _=(L.take (k+1)).filterMap _;rw [Ql a,lp o f,y];rfl,by show (T++ [_]).length<=k+1;rw [Δ];simp only [Φ];omega⟩,by show L.length - (k+1)<L.length - k;omega,AY A [1,41,10] Z (Z) ⟨Z,Z,Z,Z,Z,Z,trivial⟩⟩
   .refine AZ (AE (J (Ar Z Z (AO (k+1) (by omega)) Z) (dd Z Z (AD ?_))));exact ⟨(k+1,T),⟨a,by show _=(L.take (k+1)).filterMap _;rw [Ql a,dj (λh=>j (by exact_mod_cast h)),y];simp,by show T.length<=k+1;omega⟩,by show L.length - (k+1)<L.length - k;omega,AY A [1,41,10] Z (Z) ⟨Z,Z,Z,Z,Z,Z,trivial⟩⟩
 .refine BC (AC ?_);have D:k=L.length:=by have:=s;omega
  refine Ls (emb:=nT) 7 10 T Z Z Z Z Z Z Z ?_;rw [show T=L.filterMap (gC p) by rw [y,D,fw]];refine AE (dd Z Z (AB Z Z (AB Z Z (AD (A4 ?_)))));exact ⟨_,[],[],A3 Z,Z,Z,Z,Z⟩
end Go.Proofs.YteifpcnphnhaoaaGreat
namespace Go.Proofs.YteifpcnphnhaoaaGreat
open Go.RowKit Go.Shelf
open Go.Sort (putRow Holds PermIn SortedIn SWO mapBlock onCells putCells)
variable {P:Program}
section
variable {ρr:Ren} {τ:Type}
theorem Zz (L:SlLaysF.n6 P ρr) {E:TypeId} {g g6:FuncId} {fn:Func} (hfn:P.funcs[g]? =some fn) (hnm:(fn.name== "runtime.NumGoroutine")=false) {c:Code} (hbody:fn.body=some c)
  {A:τ ->D} (hag:∀x,(A x).cells=[A x]) (cf:τ ->τ ->Int) (hO:SWO (ltOf cf)) (l V:List τ) (M:List D) (hsz:l.length<4611686018427387904) (hc:∀x∈l,∀y∈l,AK P g [.d (A x),.d (A y)] (.raw (.int .i64 (cf x y))))
  (hu:∀ys:List τ,ys.Perm l ->ys.Pairwise (λa b=>¬cf b a<0) ->ys=V)
  {F:Fr} {s:AS} {d:Nat} {x y:Operand} {ty:TypeId} {pos:String} {aft:Array Edge} {gd:Option (Nat×Bool)} {at_:Array TypeId} {f n:Nat} {fa:AV} {row:List D} {hp':Hp}
  (hg:ρr.f 6=g6) (hx:s.ev x=some (.own f 0 n)) (hy:s.ev y=some fa) (hfa:∀w O R v,AR w O R fa v ->v= .func (.func g) #[] #[]) (ho:dr s.hp f 0=some (.rowD E 1 row)) (hrow:row=l.map A++M) (hn:n=l.length) (hh:BL s.hp f 0 (.rowD E 1 (V.map A++M))=some hp') (hd:Nat.blt d s.n=true):
  AH P F ⟨some d,.call {callee:= .value (.func g6),args:= #[x,y],argTypes:=at_},ty,pos,aft,gd⟩ s ⟨s.n,(d,.d (.tup []))::s.env,hp'⟩ (λ_ _=>true):=by
 subst hg hrow hn;intro R act w hs
 obtain ⟨fn6,hf1,hf2,hf3⟩:∃fn,P.funcs[ρr.f 6]? =some fn/\(fn.name== "runtime.NumGoroutine")=false/\fn.body.isSome=true:=by
  obtain ⟨nm,hn,hf⟩:=L.f6;exact ⟨_,hf,hn,Z⟩
 unfold Oper.wp;rw [show (#[x,y]:Array Operand)=[x,y].toArray from rfl,Cj hf1 hf2 hf3,Oper.upon_enter]
 suffices key:Calls P (ρr.f 6) ([x,y].map act.eval).toArray w λe w'=>e= .returned (.tuple #[])/\SR F ⟨s.n,s.env,hp'⟩ R act w' by
  refine key.mono λe w' ⟨T,hsr⟩=>?_;subst T;exact ⟨R,hsr.put (IB hd) (.d (.tup Z λi c v hc=>by cases hc)),λ_ _ _=>rfl⟩
 have r0:=hs.ev hx;have r1:=hfa _ _ _ _ (hs.ev hy);have hg0:=ho;have h3:=hs.heap;have S:=Ai hh;obtain ⟨us,q1,q2,q3⟩:=h3.sim f 0 _ hg0;show Calls P (ρr.f 6) #[act.eval x,act.eval y] w _;rw [r1]
 generalize act.eval x=V0 at r0
 cases r0 with
 | own hρ hle=>
  rename_i N K a
  by_cases hx:l=[]
  .subst hx;refine (AnyF.slices_SortFunc_none {L with} a K _ w).mono λe w' ⟨T,e2⟩=>?_;subst T e2;refine ⟨Z,hs.writeG f 0 _ _ ho S Z Z Z (ϖ _) (ϖ _) (λ_ _ _=>rfl) (λ_ _ e=>by cases e) λhrep=>?_⟩;rw [<-hu [] (List.Perm.refl _) List.Pairwise.nil]
   have hO2:∀t,F.O R hp' t ->F.O R s.hp t:=λt h=>h.imp id λ⟨g,i,o,J,Y⟩=>by
    rw [S] at J
    split at J
    .rename_i e;obtain ⟨rfl,rfl⟩:=e;exact ⟨g,0,_,hg0,Y⟩
    .exact ⟨g,i,o,J,Y⟩
   exact ⟨us,q1,⟨q2.1,q2.2.1,λi x hx j c hc=>by
    obtain ⟨u,J,Y,h4⟩:=q2.2.2 i x hx j c hc
    exact ⟨u,J,Y,h4.mono (ϖ _) (λ_ _ _=>rfl) λt _=>hO2 t⟩⟩,q3⟩
  .have hn:0<l.length:=ic.2 hx;have hul:us.length=l.length+M.length:=by have:=q2.1;rwa [Δ,ψ,hY] at this
   have hblkeq:∃b B,a=some ⟨b,0,none⟩/\w.heap[b]? =some (.cells B E (0,0))/\B.size=K/\l.length+M.length<=K/\K<=maxLen/\B.toList.take (l.length+M.length)=us/\N=l.length+M.length:=by
    rcases q1.2 with ⟨_,h⟩ | ⟨b,cap',B,T,_,e2,e3,e4,e5,e6⟩
    .rw [Δ,ψ] at h;omega
    .rw [hρ] at T;injection T with T e7 e8
     subst T e8;rw [Δ,ψ] at e3 e6 e7;exact ⟨b,B,Z,e2,by omega,e3,e4,by rwa [hY] at e6,e7⟩
   obtain ⟨b,B,rfl,p1,p2,p3,p3',p4,rfl⟩:=hblkeq;have hb:B6 (R f 0)=some b:=by rw [hρ];rfl
   have hOb:F.O R s.hp b:= .inr ⟨f,0,_,hg0,hb⟩;have hlt:b<w.heap.size:=(gr.1 p1).1;have hOl:∀t,F.O R s.hp t ->t<w.heap.size:=λt h=>h3.ltO h
   have hus:∀i,i<l.length+M.length ->us[i]? =B[i]?:=λi I=>by
    have h:=fL (·[i]?) p4
    change (B.toList.take (l.length+M.length))[i]? =us[i]? at h
    rw [ii I,iE] at h;exact h.symm
   let x0:τ:=l[0]
   let W:Nat ->Nat:=λi=>if i<l.length then i else 0
   have X:∀i,W i<l.length:=λi=>by show (if _ then _ else _)<_;split<;>omega
   let el:Nat ->τ:=λi=>(l[W i]?).getD x0
   have hel:∀i,el i∈l:=λi=>by
    show (l[W i]?).getD x0∈l;rw [ω (X i)];exact ξ (X i)
   have heli:∀i (I:i<l.length),el i=l[i]:=λi I=>by
    show (l[W i]?).getD x0=_;rw [show W i=i from ϱ I,ω I];rfl
   let r:Nat ->Value:=λi=>(us[W i]?).getD undef
   have henc:∀i,us[W i]? =some (r i):=λi=>by
    have h:W i<us.length:=by have:=X i;omega
    show us[W i]? =some ((us[W i]?).getD undef);rw [ω h];rfl
   let cf':Nat ->Nat ->Int:=λi j=>cf (el i) (el j)
   have hO':SWO (ltOf cf'):=⟨λx=>hO.irrefl (el x),λx y z=>hO.trans (el x) (el y) (el z),λx y z=>hO.ntrans (el x) (el y) (el z)⟩
   have hrow:∀i,((l.map A++M)[W i]?)=some (A (el i)):=λi=>by
    rw [m5 (by rw [ψ];exact X i),η,ω (X i)];show some (A _)=some (A ((l[W i]?).getD x0));rw [ω (X i)];rfl
   have H:∀i,(r i).oneCell'=true/\AN w (F.O R s.hp) (A (el i)) (r i):=λi=>by
    obtain ⟨u,J,Y,h4⟩:=q2.2.2 _ _ (hrow i) 0 (A (el i)) (by rw [hag];rfl);rw [hY,gg,henc] at J;injection J with J;subst J
    exact ⟨Y,h4⟩
   have henc1:OneCell r:=λi=>(H i).1;have hd0:∀i,i<l.length ->(Array.range l.length)[i]! =i:=λi I=>by rw [getElem!_pos _ i (by simpa using I)];simp
   have hcu:∀i,i<l.length ->B[i]? =some (r i):=λi I=>by
    rw [<-hus i (by omega)];have:=henc i
    rwa [show W i=i from ϱ I] at this
   have hH:Holds r w b 0 (Array.range l.length):=by
    intro j hj;simp only [ik] at hj;rw [hd0 _ hj];refine ⟨?_,?_⟩
    .simp only [World.cell?,p1,gf];rw [hcu j hj];rfl
    .simp only [World.frozen?,p1]
     simp
   have hcmp:CmpLays1 P g #[] r cf' b 0 (Array.range l.length).size w:=by
    intro m os dk _ x y;have Q:w.heap.size<=(sortWorld r w b 0 m dk os).heap.size:=G6;have hW:∀t,t<w.heap.size ->¬F.O R s.hp t ->(sortWorld r w b 0 m dk os).heap[t]? =w.heap[t]?:=λt hl hno=>qr (λe=>hno (e▸hOb)) hl;have ra:=(H x).2.mono Q hW (λ_ _ h=>h);have rb:=(H y).2.mono Q hW (λ_ _ h=>h)
    refine (QZ (hc (el x) (hel x) (el y) (hel y)) (w:=sortWorld r w b 0 m dk os) (λt h=>hU (hOl t h) Q) (vs:=[r x,r y]) Z (λi a v ha hv=>?_)).mono λe w' ⟨v,T,e2,e3,e4,e5⟩=>⟨?_,Nl e3 e4 e5⟩
    .match i,ha,hv with
     | 0,ha,hv=>injection ha with ha;injection hv with hv;subst ha hv;exact .d ra
     | 1,ha,hv=>injection ha with ha;injection hv with hv;subst ha hv;exact .d rb
    .cases e2 with
     | raw _=>exact T
   have eg:∀args w,(callFunc g args).run P w= .ok (.enter g args) w:=enters_of hfn hnm hbody;have key:=Any.slices_SortFunc L r henc1 cf' hO' g #[] b 0 K (Array.range l.length) w eg hcmp hH hlt (by simpa using hsz);rw [ik] at key;refine key.mono λe w' ⟨T,U,n,os,hp,hsort,hw⟩=>?_;subst T hw;obtain ⟨s1,_,s3⟩:=hp;rw [ik] at s1
   have hperm:U.toList.Perm (List.range l.length):=by
    have T:U.extract 0 l.length=U:=by rw [<-s1];exact Array.extract_size
    have e2:(Array.range l.length).extract 0 l.length=Array.range l.length:=by
     conv=>lhs;arg 3;rw [<-ik (n:=l.length)]
     exact Array.extract_size
    rw [T,e2] at s3
    simpa using s3
   refine ⟨Z,?_⟩
   have hys:U.toList.map el=V:=by
    apply hu
    .refine (hperm.map el).trans (List.Perm.of_eq ?_)
     apply gu (by simp)
     intro i h5 h6;simp only [ft,List.getElem_range];exact heli i h6
    .rw [gc];intro i j I hj hij;simp only [ψ,ib] at I hj;have:=hsort i j (υ _) hij (by omega);rw [getElem!_pos _ j hj,getElem!_pos _ i I] at this;simp only [ltOf,decide_eq_false_iff_not] at this
     simpa using this
   have hlen':V.length=l.length:=by rw [<-hys];simp [s1]
   have Q:w.heap.size<=(sortWorld r w b 0 n U os).heap.size:=G6;have hW:∀t,t<w.heap.size ->¬F.O R s.hp t ->(sortWorld r w b 0 n U os).heap[t]? =w.heap[t]?:=λt hl hno=>qr (λe=>hno (e▸hOb)) hl
   have hheap:(sortWorld r w b 0 n U os).heap[b]? =some (.cells (putCells r 0 U B) E (0,0)):=by
    unfold sortWorld;rw [Go.Sort.heap_grow_old _ _ (by rw [Go.Sort.size_putRow];exact hlt)];show (w.heap.modify b _)[b]? =_;rw [iq,ϱ Z,p1];rfl
   have hcs:(putCells r 0 U B).size=K:=by simp only [putCells,Array.size_mapIdx];omega
   have hO2:∀t,F.O R hp' t ->F.O R s.hp t:=λt h=>h.imp id λ⟨g,i,o,J,Y⟩=>by
    rw [S] at J
    split at J
    .rename_i e;obtain ⟨rfl,rfl⟩:=e;exact ⟨g,0,_,hg0,Y⟩
    .exact ⟨g,i,o,J,Y⟩
   have dr:∀i,i<l.length+M.length ->(putCells r 0 U B).toList[i]? =if h:i<l.length then some (r (U[i]'(by omega))) else us[i]?:=λi I=>by
    rw [iE,gS (by omega)];simp only [putCells,Array.getElem_mapIdx]
    by_cases h:i<l.length
    .rw [ϱ ⟨υ _,by omega⟩,dif_pos h];simp only [Nat.sub_zero];rw [getElem!_pos _ i (by omega)]
    .rw [θ (λY=>h (by omega)),dif_neg h,hus i I,gS (by omega)]
   refine hs.writeG f 0 _ _ ho S Z Z Z Q (Nat.le_add_right _ _) (λt hl hno=>qr (λe=>hno (by rw [e];exact hb)) hl) (λ_ _ e=>by cases e) λhrep=>?_;have hlr:(V.map A++M).length=l.length+M.length:=by rw [Δ,ψ,hlen']
   have hlu:((putCells r 0 U B).toList.take (l.length+M.length)).length=(V.map A++M).length*1:=by
    have e2:(putCells r 0 U B).toList.length=K:=hcs;rw [hlr,hY,Ξ,e2];exact Nat.min_eq_left p3
   refine ⟨(putCells r 0 U B).toList.take (l.length+M.length),⟨hlu,.inr ⟨b,K,_,by rw [hρ,hlr],υ _,hheap,by rw [hlr];exact p3,p3',by omega,by rw [hlr,hY]⟩⟩,⟨hlu,λx C=>?_,λi x C j c G=>?_⟩,λx C c G=>?_⟩
   .rcases ν.1 C with h | h
    .obtain ⟨y,_,rfl⟩:=κ.1 h;rw [hag];rfl
    .exact q2.2.1 _ (ν.2 (.inr h))
   .have I:i<l.length+M.length:=by rw [<-hlr];exact (φ.1 C).1
    by_cases h:i<l.length
    .rw [m5 (by rw [ψ];omega),η,<-hys,η,iE,gS (by omega)] at C;injection C with C;subst C
     rw [hag] at G
     match j,G with
     | 0,G=>
      injection G with G;subst G
      exact ⟨_,by rw [hY,gg,ii I,dr i I,dif_pos h],(H _).1,(H _).2.mono Q hW λt _=>hO2 t⟩
    .rw [m6 (by rw [ψ];omega),ψ,hlen'] at C;obtain ⟨u,J,Y,h4⟩:=q2.2.2 i x (by rw [m6 (by rw [ψ];omega),ψ];exact C) j c G
     have hj:j=0:=by
      have J:x.cells.length=1:=q2.2.1 x (ν.2 (.inr (ϑ C)));have:=(φ.1 G).1;omega
     subst hj;rw [hY,gg] at J;exact ⟨u,by rw [hY,gg,ii I,dr i I,dif_neg h];exact J,Y,h4.mono Q hW λt _=>hO2 t⟩
   .rcases ν.1 C with h | h
    .obtain ⟨y,_,rfl⟩:=κ.1 h;rw [hag] at G
     obtain ⟨k,hk⟩:∃k,el k=y\/y∉l:=by
      by_cases hy:y∈l
      .obtain ⟨k,hk,e⟩:=iL.1 hy;exact ⟨k,.inl ((heli k hk).trans e)⟩
      .exact ⟨0,.inr hy⟩
     have hyx:y∈l:=by
      rename_i hy
      rw [<-hys] at hy;obtain ⟨q,_,rfl⟩:=κ.1 hy;exact hel q
     exact q3 (A y) (ν.2 (.inl (κ.2 ⟨y,hyx,Z⟩))) c (by rw [hag];exact G)
    .exact q3 x (ν.2 (.inr h)) c G
end
end Go.Proofs.YteifpcnphnhaoaaGreat
namespace Go.Proofs.YteifpcnphnhaoaaGreat
open Go.RowKit
variable {a:List (List Nat)} {k:Nat}
set_option maxRecDepth 100000
def Gx (l:List Nat):Bool:=decide (l.length<2)
theorem XH (l:List Nat) (a:l.length<=100000):AK prog 82 [.d (en l)] (Aa (Gx l)):=by
 refine As func82 Z Z ntmps82 Z Z Z λF b=>(AC (AE (AB Z Z ?_)));refine AD (AC (AE (dd Z Z (J (CB Z E0 Z) (J (BN Z Z Z) (AB Z Z (AD (A4 ?_))))))));exact ⟨_,[],_,A3 Z,Z,Z,jt (by omega),Z⟩
def fW (l:List Nat):Int:=((l.getD 0 0:Nat):Int)
theorem li (a b:List Nat) (h:0<a.length) (g:0<b.length) (f:a.getD 0 0<=100000) (c:b.getD 0 0<=100000):AK prog 84 [.d (en a),.d (en b)] (AF (fW a - fW b)):=by
 have j:a.getD 0 0=a[0]:=by rw [Ψ,ω h];rfl
 have i:b.getD 0 0=b[0]:=by rw [Ψ,ω g];rfl
 unfold fW;rw [j] at f⊢;rw [i] at c⊢;refine As func84 Z Z ntmps84 Z Z Z λF k=>(AC (AE (AB Z Z (AD (AC (DB [[],[0],[0,1],[],[3],[3,4],rg 6,rg 7] mixed Z (DP (Av 0 Z Z ?_))))))));refine AQ [5] Z (Bh (0) Z Z (Z) (Ab h) E0 Z BU Z) (AQ [6] Z (D2 Z Z Aw Z) (Av 1 Z Z (AQ [8] Z (Bh (0) Z Z (Z) (Ab g) E0 Z BU Z) (AQ [9] Z (D2 Z Z Aw Z) (Cg 6 Z Z Z (Ag 7 Z Z (J (RY Z Z (Ω _ (by omega)) Z) (AD ⟨Z,?_⟩))))))));refine Ag 8 Z Z (AB Z Z (AD ⟨Z,?_⟩));refine Cr (A4 ?_);exact ⟨_,[],[],A3 Z,Z,Z,Z,Z⟩
theorem pJ (l:List (List Nat)) (r:l.length<=100000) (g:∀c∈l,c.length<=100000):AK prog 135 [.d (.sl none (l.map en)),.d (.fn 82 [] [])] (AF (Jm Gx l)):=by
 refine As func135 Z Z ntmps135 Z Z Z λF s=>(AC (AE (AB Z Z (AD ?_))));refine AC (AC (AE (dd Z Z (J (CB Z No Z) (dd Z Z (AD (A0 (HD (α:=Nat) (λk=>⟨19,[(0,.d (.sl none (l.map en))),(1,.d (.fn 82 [] [])),(7,(.d (AF (l.length:Int)))),(8,(.d (AF (k:Int))))],[]⟩) (λk=>k<=l.length/\∀x∈l.take k,Gx x=false) (λk=>l.length - k) (0) (⟨υ _,by simp⟩) (eF ⟨Z,Z,Z,Z,trivial⟩) ?_))))))));rintro k ⟨o,i⟩;refine AC (AE (J (BN Z Z Z) (AD (AC (Ac Z (λj=>?_) (λj=>?_))))))
 .have a:k<l.length:=Ba j;refine AZ (AC (A0 (AC (AE (dd Z Z (AB Z Z (AD (AC ?_))))))));refine AE (dd Z Z (dd Z Z (dd Z Z (J (Bh (k) Z Z (Z) (Ab a) No Z CZ Z) (J (D2 Z Z BG Z) (J (K6 (XH l[k] (g _ (ξ a))) Z Z) (AD (Ac Z (λf=>?_) (λf=>?_)))))))))
  .refine AC (AE (dd Z Z (AB Z Z (AD (A4 ?_)))));exact ⟨_,[],[],A3 Z,Z,Z,Ax (by unfold Jm;rw [F6 a i (by unfold Gx;simpa using f)]),Z⟩
  .refine AZ (AE (J (Ar Z Z (AO (k+1) (by omega)) Z) (dd Z Z (AD ?_))));exact ⟨k+1,⟨by show k+1<=_;omega,by rw [χ a];intro x b;rcases ν.1 b with b | b;exact i x b;rw [ζ.1 b];unfold Gx;simpa using f⟩,by show l.length - (k+1)<l.length - k;omega,⟨Z,Z,λ_ _=>R8.get (l:=[(0,_),(1,_),(7,_),(8,_)]) ⟨Z,Z,Z,Z,trivial⟩⟩⟩
 .refine BC (AC (AE (AB Z Z (AD (A4 ?_)))));exact ⟨_,[],[],A3 Z,Z,Z,Ax (by unfold Jm;rw [Gt (λx b=>i x (by rw [ς (by have h:=j;omega)];exact b))]),Z⟩
def fv (l:List (List Nat)):List (List Nat):=l.filter λx=>!Gx x
theorem Wj (h:∀x∈a,Gx x=false):fv a=a:=List.filter_eq_self.2 λx b=>by rw [h x b];rfl
theorem oe (b:k<a.length) (h:Gx a[k]=false):fv (a.take (k+1))=fv (a.take k)++ [a[k]]:=by
 unfold fv;rw [EO b,ϱ (by rw [h];rfl)]
theorem Wi (b:k<a.length) (h:Gx a[k]=true):fv (a.take (k+1))=fv (a.take k):=by grind [fv,EO]
theorem cJ (l:List (List Nat)):(fv l).length<=l.length:=gM _ _
def eO:Option (List Nat) ->D
 | some l=>en l
 | none=> .raw (.slice none 0 0)
theorem dG (l:List (List Nat)):l.map en=(l.map some).map eO:=by rw [fS];rfl
theorem pz (l:List (List Nat)) (S:l.length<=100000) (z:∀c∈l,c.length<=100000):AJ prog 81 [.own 10 0 l.length,.d (.fn 82 [] [])] [(10,[.rowD 28 1 (l.map en)])] λr T=>r= .own 10 0 (fv l).length/\T=[(10,[.rowD 28 1 ((fv l).map en++(List.replicate (l.length - (fv l).length) none).map eO)])]:=by
 have f:=pJ l S z
 cases hfi:l.findIdx? Gx with
 | none=>
  have G:∀x∈l,Gx x=false:=λx I=>by have:=List.findIdx?_eq_none_iff.1 hfi x I;simpa using this
  have b:Jm Gx l= -1:=by unfold Jm;rw [hfi]
  rw [b] at f;have A:=Wj G;refine As func81 Z Z ntmps81 Z Z Z λF H=>(AC (AE (AB Z Z (AD (AC (AE ?_))))));refine dd Z Z (dd Z Z (J (IG [10] f (by exact ⟨.inr ⟨_,_,Z,.own Z Z (by simp) (ς (by simp)),Z⟩,.inl Z,trivial⟩) Z Z) (AB Z Z (AD (AC (AC (AE (dd Z Z ?_))))))));refine J (Li Z Z Z) (AD (DO Z (Z) (AC (AE (dd Z Z (AB Z Z (AD (A4 ?_))))))));exact ⟨_,[10],_,A3 Z,Z,Z,by rw [A],by rw [A];simp⟩
 | some k=>
  obtain ⟨L,B,C⟩:=List.findIdx?_eq_some_iff_getElem.1 hfi;have b:Jm Gx l=(k:Int):=by unfold Jm;rw [hfi]
  rw [b] at f
  have y:∀x∈l.take k,Gx x=false:=λx I=>by
   obtain ⟨j,U,rfl⟩:=iY.1 I;have:=C j (by omega)
   simpa using this
  rw [dG l] at f⊢;have K:fv (l.take (k+1))=l.take k:=by rw [Wi L B,Wj y]
  refine As func81 Z Z ntmps81 Z Z Z λF H=>(AC ?_);refine AE (AB Z Z (AD (AC (AE (dd Z Z (dd Z Z (J (IG [10] f (by exact ⟨.inr ⟨_,_,Z,.own Z Z (by simp) (ς (by simp)),Z⟩,.inl Z,trivial⟩) Z Z) (AB Z Z ?_))))))));refine AD (AC (AC (AE (dd Z Z (J (Li Z Z Z) (AD (D3 Z ((fb (by omega))) (AZ ?_))))))));refine AC (AC (AE (dd Z Z (J (Ar Z Z (AO (k+1) (by omega)) Z) (AB Z Z (AD (A0 (BX (α:=Nat×Nat×List (Option (List Nat))) (λq=>⟨42,[(0,(.own 10 0 l.length)),(1,(.d (.fn 82 [] []))),(5,(.d (AF (q.1:Int)))),(6,(.d (AF (q.2.1:Int))))],[(10,[.rowD 28 1 (q.2.2.map eO)])]⟩) (λq=>q.2.1<=l.length/\q.1<q.2.1/\q.2.2.length=l.length/\q.2.2.take q.1=(fv (l.take q.2.1)).map some/\q.2.2.drop q.2.1=(l.drop q.2.1).map some) (λq=>l.length - q.2.1) ((k,k+1,l.map some)) (⟨by show k+1<=_;omega,iC _,by show (l.map some).length=_;simp,by show (l.map some).take k=_;rw [K,List.map_take],by show (l.map some).drop (k+1)=_;rw [List.map_drop]⟩) (AY H [10] Z Z ⟨Z,Z,Z,Z,trivial⟩) ?_))))))));rintro ⟨i,j,c⟩ ⟨N,O,g,o,s⟩;dsimp only at N O g o s⊢;refine AC (AC (AE (dd Z Z (dd Z Z (J (QD Z No Z) (J (BN Z Z Z) (AD (Ac Z (λw=>?_) (λw=>?_)))))))))
  .have a:j<l.length:=Ba w;refine AZ (AC (A0 (AC (AE ?_))));have D:j<c.length:=by omega
   have Q:c[j]=some l[j]:=by have R:(c.drop j)[0]? =((l.drop j).map some)[0]?:=by {rw [s]};rw [i9,η,i9,gg,ω D,ω a] at R;injection R
   refine dd Z Z (dd Z Z (J (Ce (j) Z Z (Z) (a) Z No CZ Z) (J (D1 Z Z ((show (c.map eO)[j]? =some (en l[j]) from by rw [η,ω D,Q];rfl)) Z BG Z) ?_)));refine AB Z Z ?_;refine AD (AC (AE (dd Z Z (dd Z Z (J (K6 (XH l[j] (z _ (ξ a))) Z Z) (J (OX Z Z) (AD (Ac Z (λv=>?_) (λv=>?_)))))))))
   .have u:Gx l[j]=false:=by unfold Gx;simpa using v
    refine AC (AE (dd Z Z (dd Z Z (dd Z Z (J (Ce (i) Z Z (Z) ((by omega)) Z No CZ Z) (V (Ef (c) (some l[j]) Z Z Z Z Z Z (by omega) Z CZ) (AD (AE ?_))))))));refine dd Z Z (J (Ar Z Z (AO (i+1) (by omega)) Z) (AB Z Z (AD (AE (dd Z Z (J (Ar Z Z (AO (j+1) (by omega)) Z) (AB Z Z (AD ?_))))))));exact ⟨(i+1,j+1,_),⟨by show j+1<=_;omega,by show i+1<j+1;omega,by show (c.set i (some l[j])).length=_;rw [fq];exact g,by show (c.set i (some l[j])).take (i+1)=(fv (l.take (j+1))).map some;rw [oe a u,fU,<-o,χ (by rw [fq];omega),List.getElem_set_self,List.take_set_of_le (ϖ i)];rfl,by show (c.set i (some l[j])).drop (j+1)=(l.drop (j+1)).map some;rw [List.drop_set_of_lt (by omega),<-List.tail_drop,<-List.tail_drop,s,List.map_tail]⟩,by show l.length - (j+1)<l.length - j;omega,AY H [10] Z (Z) ⟨Z,Z,Z,Z,trivial⟩⟩
   .have u:Gx l[j]=true:=by unfold Gx;simpa using v
    refine AZ (AE (dd Z Z (J (Ar Z Z (AO (j+1) (by omega)) Z) (AB Z Z (AD ?_)))));exact ⟨(i,j+1,c),⟨by show j+1<=_;omega,by show i<j+1;omega,g,by show c.take i=(fv (l.take (j+1))).map some;rw [Wi a u,o],by show c.drop (j+1)=(l.drop (j+1)).map some;rw [<-List.tail_drop,<-List.tail_drop,s,List.map_tail]⟩,by show l.length - (j+1)<l.length - j;omega,AY H [10] Z (Z) ⟨Z,Z,Z,Z,trivial⟩⟩
  .refine BC (AC ?_);have M:j=l.length:=by have h:=w;omega
   have t:c.take i=(fv l).map some:=by rw [o,M,fw]
   have E:i=(fv l).length:=by have h:=fL List.length t;rw [Ξ,ψ] at h;omega
   refine AE (dd Z Z (dd Z Z (L5 (emb:=eO) (zd:=none) c i Z Z Z Z g.symm Z (by omega) No CZ zeroValue28 Z Z Z Z Z Z ?_)));refine AD (AC (AE (dd Z Z (dd Z Z (J (Fx (i) Z Z Z (by simp only [ψ,Δ,Ξ,List.length_replicate];omega) Z No CZ Z) (AB Z Z (AD (A4 ?_))))))));exact ⟨_,[10],_,A3 Z,Z,Z,by rw [<-E],by rw [t,g,E,fU,<-dG]⟩
end Go.Proofs.YteifpcnphnhaoaaGreat
namespace Go.Proofs.YteifpcnphnhaoaaGreat
end Go.Proofs.YteifpcnphnhaoaaGreat
namespace Go.Proofs.YteifpcnphnhaoaaGreat
open Go.RowKit
variable {a:Nat ->Nat ->Value} {c:Act} {w:World} {F:Fr} {f:Hp} {s:AS} {M:MF}
def mX (M:MF) (x y:D):Prop:=x=y\/∃h T zs,x=fE h zs.length/\BD M h T 1 zs/\(∀z∈zs,z.one=true)/\y= .sl none zs
theorem AN.melt (hs:SR F s a c w) {g:Nat} (S:eQ s.hp g=some [.multi M]) (O:∀b,F.O a f b ->F.O a s.hp b)
  (N:∀i o b,dr s.hp g i=some o ->B6 (a g i)=some b ->¬F.O a f b) {x y:D} {v:Value} (hm:mX M x y) (H:AN w (F.O a f) x v):AN w (F.O a f) y v:=by
 rcases hm with rfl | ⟨h,T,C,rfl,l,G,rfl⟩
 .exact H
 .match h,l with
  | none,l=>
   have l:C=[]:=l;subst l
   cases H with
   | raw _=>exact .sl 0 (λb r=>by cases r) (λ_=>rfl) Z (ϖ _) (υ _) (λx hx=>by cases hx) (λh=>absurd Z h) (λb o r=>by cases r)
  | some (b,j),l=>
   obtain ⟨hle,r⟩:=l
   cases H with
   | raw _=>
    obtain ⟨E,us,g1,U,g3⟩:=hs.rowN S r;obtain ⟨k,cap,e,Y,X,q3,W⟩:=Gb g1;injection e with e1 e2 e3
    subst e1 e3
    have K:∀z∈C,z.cells=[z]:=λz B=>by
     have h1:=G z B;have h2:=U.2.1 z B
     cases z with
     | agg cs=>simp [D.one] at h1
     | _=>rfl
    refine .sl 1 (λb r=>by cases r) (λh=>by cases h) Z Y X (λz B=>by rw [K z B];rfl) (λ_=>⟨b,0,Z⟩) (λb' o t i z J=>?_);injection t with t
    injection t with hb1 hb2
    subst hb1 hb2;have hil:i<C.length:=(φ.1 J).1;obtain ⟨b2,cur,A,R,r3,V⟩:=W (by omega);injection A with A
    injection A with A
    subst A;have I:b<w.heap.size:=(gr.1 R).1
    have hex:∀(q:Nat) j,z.cells[q]? =some j ->∃u,w.cell? ⟨b,0+i*1+q,none⟩=some u/\AN w (F.O a f) j u:=λq Q L=>by
     obtain ⟨u,d1,d2,d3⟩:=U.2.2 i z J q Q L;exact ⟨u,by rw [gf];exact DT R V d1,d3.mono (ϖ _) (λ_ _ _=>rfl) λb _=>O b⟩
    refine .ptr (λq=>(w.cell? ⟨b,0+i*1+q,none⟩).getD undef) I (N b _ b (by rw [Fq S,r];rfl) (by rw [E];rfl)) (g3 z (ϑ J)) (λq Q L=>?_) (λq Q L=>?_)
    .grind
    grind
theorem SR.melt (U:SR F s a c w) (g i b:Nat) {T:TypeId} {o B:List D} {v:List (Nat×AV)} {G A:Hp} (W:eQ s.hp b=some [.multi M])
  (hE:AX b s.env=some v) (hH:AT b s.hp=some G) (hh:CA b G=some A) (V:dr A g i=some (.rowD T 1 o)) (l:B.length=o.length)
  (K:∀(j:Nat) x y,o[j]? =some x ->B[j]? =some y ->mX M x y) (I:(∀x∈o,x.one=true)/\∀y∈B,y.one=true) (C:BL A g i (.rowD T 1 B)=some f):SR F ⟨s.n,v,f⟩ a c w:=by
 obtain ⟨X,O,N⟩:=U.forget b hE hH hh (λj t cs e=>by
  rw [Fq W] at e
  cases hm:M j with
  | none=>rw [hm] at e;cases e
  | some m=>rw [hm] at e;injection e with e;exact A7.notBlk e)
 have k:∀z:D,z.one=true ->z.cells=[z]:=λz hz=>by
  cases z with
  | agg cs=>simp [D.one] at hz
  | _=>rfl
 refine X.write g i (.rowD T 1 o) (.rowD T 1 B) V (Ai C) Z Z Z Z (λ_ _=>rfl) (λ_ _ e=>by cases e) λE=>?_;obtain ⟨Y,k1,R,k3⟩:=X.heap.sim g i _ V;refine ⟨Y,by rw [l];exact k1,⟨by rw [l];exact R.1,λy J=>by rw [k y (I.2 y J)];rfl,λj y L q h r=>?_⟩,λy J h r=>by rw [k y (I.2 y J),ζ] at r;rw [r];exact I.2 y J⟩;have H:j<o.length:=by rw [<-l];exact (φ.1 L).1
 have S:o[j]? =some o[j]:=ω H;rw [k y (I.2 y (ϑ L))] at r
 cases q with
 | succ q=>cases r
 | zero=>
  injection r with r
  subst r;obtain ⟨u,d1,d2,d3⟩:=R.2.2 j _ S 0 _ (by rw [k _ (I.1 _ (ξ H))];rfl);refine ⟨u,d1,d2,?_⟩;have h3:=AN.melt U W O N (K j _ _ S L) d3;have Q:=E (.d y) u (.d h3)
  cases Q with | d Q=>exact Q
section
variable {P:Program} {F:Fr} {Q:Exit ->AS ->Prop} {c:Code} {n:Nat} {env env':List (Nat×AV)} {hp hp1 hp2 hp':Hp}
theorem eA (g i f:Nat) {M:MF} {T:TypeId} {l:List D} (k:List D) (z:eQ hp f=some [.multi M])
  (B:AX f env=some env') (A:AT f hp=some hp1) (v:CA f hp1=some hp2) (u:dr hp2 g i=some (.rowD T 1 l)) (b:k.length=l.length)
  (o:∀(j:Nat) x y,l[j]? =some x ->k[j]? =some y ->mX M x y) (C:(∀x∈l,x.one=true)/\∀y∈k,y.one=true) (a:BL hp2 g i (.rowD T 1 k)=some hp') (h:Bl P F c Q ⟨n,env',hp'⟩):Bl P F c Q ⟨n,env,hp⟩:=
 λs r w t=>h s r w (t.melt g i f z B A v u b o C a)
end
theorem SR.weakRow {F:Fr} {s:AS} {I:Nat ->Nat ->Value} {B:Act} {w:World} (L:SR F s I B w) (g i:Nat) {T:TypeId} {f k:List D} {r:Hp} (M:dr s.hp g i=some (.rowD T 1 f)) (b:k.length=f.length)
  (E:∀(j:Nat) x y,f[j]? =some x ->k[j]? =some y ->∀w O v,AN w O x v ->AN w O y v) (A:(∀x∈f,x.one=true)/\∀y∈k,y.one=true) (l:BL s.hp g i (.rowD T 1 k)=some r):SR F ⟨s.n,s.env,r⟩ I B w:=by
 have a:∀z:D,z.one=true ->z.cells=[z]:=λz R=>by
  cases z with
  | agg U=>simp [D.one] at R
  | _=>rfl
 refine L.write g i (.rowD T 1 f) (.rowD T 1 k) M (Ai l) Z Z Z Z (λ_ _=>rfl) (λ_ _ e=>by cases e) λo=>?_;obtain ⟨N,Q,J,S⟩:=L.heap.sim g i _ M;refine ⟨N,by rw [b];exact Q,⟨by rw [b];exact J.1,λy C=>by rw [a y (A.2 y C)];rfl,λj y G q c h=>?_⟩,λy C c h=>by rw [a y (A.2 y C),ζ] at h;rw [h];exact A.2 y C⟩;have t:j<f.length:=by rw [<-b];exact (φ.1 G).1
 have K:f[j]? =some f[j]:=ω t;rw [a y (A.2 y (ϑ G))] at h
 cases q with
 | succ q=>cases h
 | zero=>
  injection h with h
  subst h;obtain ⟨u,d1,d2,d3⟩:=J.2.2 j _ K 0 _ (by rw [a _ (A.1 _ (ξ t))];rfl);refine ⟨u,d1,d2,?_⟩;have H:=o (.d y) u (.d (E j _ _ K G _ _ _ d3))
  cases H with | d H=>exact H
section
variable {P:Program} {F:Fr} {Q:Exit ->AS ->Prop} {c:Code} {n:Nat} {env:List (Nat×AV)} {hp hp':Hp}
theorem QB (g i:Nat) {T:TypeId} {k:List D} (f:List D) (t:dr hp g i=some (.rowD T 1 k)) (b:f.length=k.length)
  (l:∀(j:Nat) x y,k[j]? =some x ->f[j]? =some y ->∀w O v,AN w O x v ->AN w O y v) (u:(∀x∈k,x.one=true)/\∀y∈f,y.one=true) (a:BL hp g i (.rowD T 1 f)=some hp') (h:Bl P F c Q ⟨n,env,hp'⟩):Bl P F c Q ⟨n,env,hp⟩:=
 λr o w s=>h r o w (s.weakRow g i t b l u a)
end
variable {a:Nat ->List Nat} {c:Nat ->Nat} {g:List (List Nat)} {f:Nat ->Hd} {h:Nat} {i:List Nat} {k j o:Nat} {M:MF}
structure Lv (M:MF) (n:Nat) (hs:Nat ->Hd) (ls:Nat ->List Nat):Prop where
 at_:∀j,j<n ->BD M (hs j) 3 1 ((ls j).map AL)
 inj:∀j k b c c',j<n ->k<n ->hs j=some (b,c) ->hs k=some (b,c') ->j=k
abbrev gJ (n:Nat) (hs:Nat ->Hd) (ls:Nat ->List Nat):List D:=(List.range n).map λj=>fE (hs j) (ls j).length
theorem JY (b:o<h):(gJ h f a)[o]? =some (fE (f o) (a o).length):=by simp [b]
theorem FA (n:Nat) (b:Nat ->Hd) (a:Nat ->List Nat):(gJ n b a).length=n:=by simp
theorem SI {n j:Nat} {b:Nat ->Hd} {a:Nat ->List Nat} {h:Hd} {l:List Nat}:(gJ n b a).set j (fE h l.length)=gJ n (An b j h) (An a j l):=by grind [MA,GY,KW]
theorem Lv.zero (n:Nat):Lv (λ_=>none) n (λ_=>none) (λ_=> []):=⟨λ_ _=>rfl,λ_ _ _ _ _ _ _ h=>by cases h⟩
theorem Lv.app (g:Lv M h f a) (F:o<h) {b c:Nat} (H:BZ M (f o) b=none) (G:(i.map AL).length<=c):
  Lv (BJ (BZ M (f o)) b (.row 3 1 c (i.map AL))) h (An f o (some (b,c))) (An a o i):=by
 have y:∀k,k<h ->k≠o ->∀s w,f k=some (s,w) ->s≠b/\BJ (BZ M (f o)) b (.row 3 1 c (i.map AL)) s=M s:=by
  intro k t z s w e;have r:=g.at_ k t;rw [e] at r;have C:∀u,f o≠some (s,u):=λu x=>z (g.inj k o s w u t F e x);refine ⟨λI=>?_,?_⟩
  .subst I;have:=Iv r.2 C
   grind
  .rw [gp H r.2 C,r.2]
 refine ⟨λk t=>?_,λk B L K J t A E x=>?_⟩
 .by_cases e:k=o
  .subst e;rw [KW,KW];exact ⟨G,EB _ _ _⟩
  .rw [GY e,GY e];have r:=g.at_ k t
   match hh:f k,r with
   | none,r=>exact r
   | some (s,w),r=>exact ⟨r.1,by rw [(y k t e s w hh).2];exact r.2⟩
 .by_cases D:k=o<;>by_cases v:B=o
  .rw [D,v]
  .grind [KW,GY]
  .grind [KW,GY]
  .rw [GY D] at E;rw [GY v] at x;exact g.inj k B L K J t A E x
def co (n:Nat) (ls:Nat ->List Nat):List (List Nat):=(List.range n).map ls
theorem UN (n:Nat) (a:Nat ->List Nat):(co n a).length=n:=by simp [co]
theorem TK (b:j<h):eW (co h a) j=a j:=by
 rw [Ev (by rw [UN];exact b)];simp [co]
theorem Lv.melt (b:Lv M h f a):∀(j:Nat) x y,(gJ h f a)[j]? =some x ->((co h a).map en)[j]? =some y ->mX M x y:=by
 intro j x y g i;have k:j<h:=by have:=(φ.1 g).1;rwa [FA] at this
 rw [JY k] at g;injection g with g
 rw [Ym (by rw [UN];exact k),TK k] at i;injection i with i
 subst g i;exact .inr ⟨f j,3,(a j).map AL,by rw [ψ],b.at_ j k,λz l=>by obtain ⟨c,_,rfl⟩:=κ.1 l;rfl,Z⟩
theorem J6 (n:Nat) (f:Nat ->Hd) (b:Nat ->List Nat):∀x∈gJ n f b,x.one=true:=λx c=>by
 obtain ⟨a,_,rfl⟩:=κ.1 c;rfl
theorem bS (g:List (List Nat)):∀x∈g.map en,x.one=true:=λx b=>by
 obtain ⟨a,_,rfl⟩:=κ.1 b;rfl
theorem Sd (n:Nat):∀(j:Nat) x y,(List.replicate n (D.sl (some true) []))[j]? =some x ->(gJ n (λ_=>none) (λ_=> []))[j]? =some y ->∀w O v,AN w O x v ->AN w O y v:=by
 intro j x y a b w O v g;have f:j<n:=by have:=(φ.1 a).1;rwa [List.length_replicate] at this
 rw [JY f] at b;injection b with b
 have c:x=D.sl (some true) []:=by rw [List.getElem?_replicate,ϱ f] at a;injection a with a;exact a.symm
 subst c b;exact g.nrm1
theorem WW (n:Nat):∀x∈List.replicate n (D.sl (some true) []),x.one=true:=λx a=>by rw [(List.mem_replicate.1 a).2];rfl
theorem pP (g:List (List Nat)) (K:Nat ->Nat):∃a,QF g K a/\∀y,¬Cm g a y:=by
 have j:∀(m:Nat) (l:List Nat),QF g K l ->g.length - l.length<=m ->∃a,QF g K a/\∀y,¬Cm g a y:=by
  intro m
  induction m with
  | zero=>
   intro l h t;refine ⟨l,h,λy c=>?_⟩;obtain ⟨A,w⟩:=IV h;have:=Ck (i5.2 ⟨c.2.1,A⟩) (m:=List.range g.length) λx o=>Θ.2 ((fP.1 o).elim (λe=>e▸c.1) (w x))
   grind
  | succ m s=>
   intro l h t
   by_cases v:∃y,Cm g l y
   .have f:∀(b:Nat) y,Cm g l y ->K y<=b ->∃x,Cm g l x/\∀z,Cm g l z ->K x<=K z:=by
     intro b
     induction b with
     | zero=>intro y c B;exact ⟨y,c,λz _=>by omega⟩
     | succ b r=>
      grind
    obtain ⟨y,c⟩:=v;obtain ⟨x,o,k⟩:=f (K y) y c (ϖ _);refine s (l++ [x]) (TJ h o k) ?_
    grind
   grind
 exact j _ [] (λi u=>by simp at u) (ϖ _)
theorem Kj (g:List (List Nat)) (K:Nat ->Nat):QF g K (gB g K)/\∀y,¬Cm g (gB g K) y:=Classical.epsilon_spec (p:=λa=>QF g K a/\∀y,¬Cm g a y) (pP g K)
theorem kJ {g:List (List Nat)} {K:Nat ->Nat} (h:k<(gB g K).length):e9 (gB g K) k<g.length:=(IV (Kj g K).1).2 _ (DZ h)
theorem bQ (g:List (List Nat)) (K:Nat ->Nat):(gB g K).length<=g.length:=by
 obtain ⟨c,b⟩:=IV (Kj g K).1;have:=Ck c (m:=List.range g.length) λx a=>Θ.2 (b x a)
 grind
def jL (of:Nat ->Nat) (n:Nat):Nat ->Nat ->Nat
 | 0=>λ_=>0
 | d+1=>An (jL of n d) (of (n - 1 - d)) (n - 1 - d)
theorem Hj (a:Nat ->Nat) (n:Nat):∀d,d<=n ->∀c,(∃v,n - d<=v/\v<n/\a v=c) ->a (jL a n d c)=c/\jL a n d c<n/\∀v,n - d<=v ->v<n ->a v=c ->jL a n d c<=v
 | 0,_,c,⟨v,r,i,_⟩=>by omega
 | d+1,t,c,⟨v,r,i,h⟩=>by
  unfold jL
  by_cases e:c=a (n - 1 - d)
  .subst e;rw [KW];exact ⟨Z,by omega,λv o _ _=>by omega⟩
  .rw [GY e];have o:v≠n - 1 - d:=λf=>e (by rw [<-h,f]);obtain ⟨l,k,j⟩:=Hj a n d (by omega) c ⟨v,by omega,i,h⟩;refine ⟨l,k,λu s b g=>j u ?_ b g⟩;have:u≠n - 1 - d:=λf=>e (by rw [<-g,f]);omega
def UW (of:Nat ->Nat) (n cnt:Nat):List Nat:=(List.range cnt).map (jL of n n)
theorem MJ {cnt b:Nat} (a:b<cnt):e9 (UW c h cnt) b=jL c h h b:=by grind [UW,Ov]
theorem ka (a:Nat ->Nat) (n cnt:Nat):(UW a n cnt).length=cnt:=by simp [UW]
theorem a8 (n:Nat) (f:Nat ->Nat):rowN n f=((List.range n).map f).map AL:=by rw [fS];rfl
theorem og {cnt:Nat} {g:Nat ->List Nat} (f:gH h g c cnt):∀a b,a<cnt ->b<cnt ->e9 (UW c h cnt) a=e9 (UW c h cnt) b ->a=b:=by
 intro a b k j e;rw [MJ k,MJ j] at e;obtain ⟨v,l,i⟩:=f.use a k;obtain ⟨u,r,o⟩:=f.use b j;have s:=(Hj c h h (ϖ _) a ⟨v,by omega,l,i⟩).1
 grind [Hj]
def XB (of:Nat ->Nat) (a:Nat) (l:List Nat):List Nat:=(l.filter λx=>decide (of a≠of x)).map of
def MQ (g:List (List Nat)) (of:Nat ->Nat) (i k c:Nat):List Nat:=((List.range i).flatMap λa=>if of a=c then XB of a (eW g a) else [])++if of i=c then XB of i ((eW g i).take k) else []
theorem dD (g:List (List Nat)) (a:Nat ->Nat):MQ g a 0 0=λ_=> []:=by funext c;simp [MQ,XB]
theorem Wy (g:List (List Nat)) (a:Nat ->Nat) (i:Nat):MQ g a i (eW g i).length=MQ g a (i+1) 0:=by grind [MQ,gT,XB]
theorem TZ {a:Nat} (b:k<i.length):XB c a (i.take (k+1))=XB c a (i.take k)++if c a≠c (e9 i k) then [c (e9 i k)] else []:=by grind [XB,χ,Ov]
theorem dE {of:Nat ->Nat} (a:k<(eW g j).length) (h:of j≠of (e9 (eW g j) k)):An (MQ g of j k) (of j) (MQ g of j k (of j)++ [of (e9 (eW g j) k)])=MQ g of j (k+1):=by grind [KW,MQ,TZ,GY]
theorem dF {of:Nat ->Nat} (a:k<(eW g j).length) (h:¬of j≠of (e9 (eW g j) k)):MQ g of j k=MQ g of j (k+1):=by
 funext c
 unfold MQ;rw [TZ a,θ h,gN]
def Il (g:List (List Nat)) (i:Nat):Nat:=((List.range i).map λa=>(eW g a).length).sum
theorem XA (b:Nat ->Nat) (a:Nat) (l:List Nat):(XB b a l).length<=l.length:=by unfold XB;rw [ψ];exact gM _ _
theorem Wz (g:List (List Nat)) (b:Nat ->Nat) (i k c:Nat):(MQ g b i k c).length<=Il g i+((eW g i).take k).length:=by
 have f:∀m,((List.range m).flatMap λa=>if b a=c then XB b a (eW g a) else []).length<=Il g m:=by
  intro m
  induction m with
  | zero=>exact υ _
  | succ m h=>
   unfold Il at h⊢;rw [gT,List.flatMap_append,Δ,fU,i6,List.flatMap_singleton,List.map_singleton,List.sum_singleton]
   grind [XA]
 grind [MQ,XA]
theorem Oz (g:List (List Nat)) {i j:Nat} (h:i<=j):Il g i<=Il g j:=by
 induction j with
 | zero=>
  have:i=0:=by omega
  subst this;exact ϖ _
 | succ j a=>
  grind [Il,gT]
structure GT (g:List (List Nat)):Prop where
 gb:GB g
 tot:Il g g.length<=1048576
def KI (g:List (List Nat)) (of:Nat ->Nat) (cnt:Nat):List (List Nat):=co cnt (MQ g of g.length 0)
theorem pq {cnt:Nat} (o:GT g) (h:gH g.length (eW g) c cnt):GB (KI g c cnt):=by
 have t:=o.gb.n;have s:=h.le;refine ⟨by rw [KI,UN];omega,λl i=>?_,λl i x f=>?_⟩
 .obtain ⟨b,_,rfl⟩:=κ.1 i;have:=Wz g c g.length 0 b;have:=o.tot
  simp at*;omega
 .obtain ⟨b,_,rfl⟩:=κ.1 i;rw [KI,UN]
  have j:∀a l,a<g.length ->(∀x∈l,x<g.length) ->x∈XB c a l ->x<cnt:=λa l _ i f=>by
   unfold XB at f;obtain ⟨y,k,rfl⟩:=κ.1 f;exact h.lt y (i y (Γ.1 k).1)
  unfold MQ at f;rcases ν.1 f with f | f
  .obtain ⟨a,r,f⟩:=im.1 f
   split at f
   .exact j a _ (Θ.1 r) (λy k=>o.gb.suc (Θ.1 r) k) f
   .cases f
  grind [XB]
def DL (seq:List Nat):Nat ->Nat ->Nat
 | 0=>λ_=>0
 | k+1=>An (DL seq k) (e9 seq k) k
theorem W7 (a:List Nat) {cnt:Nat} (b:0<cnt) (f:a.length<=cnt):∀k,k<=a.length ->∀c,DL a k c<cnt
 | 0,_,c=>b
 | k+1,g,c=>by
  unfold DL
  by_cases e:c=e9 a k
  .subst e;rw [KW];omega
  .rw [GY e];exact W7 a b f k (by omega) c
noncomputable def gj (g:List (List Nat)) (of:Nat ->Nat) (cnt:Nat):List Nat:=gB (KI g of cnt) (e9 (UW of g.length cnt))
noncomputable def fT (g:List (List Nat)) (of:Nat ->Nat) (cnt:Nat):Nat ->Nat:=DL (gj g of cnt) (gj g of cnt).length
def FU (no:Nat ->Nat) (i c:Nat):List Nat:=(List.range i).filter λv=>decide (no v=c)
def kT (of no:Nat ->Nat) (i v:Nat):Nat:=if v<i then no v else of v
theorem YK (a:Nat ->Nat) (i:Nat):An (FU a i) (a i) (FU a i (a i)++ [i])=FU a (i+1):=by grind [KW,FU,gT,GY]
theorem bO (a:Nat ->Nat) (i c:Nat):(FU a i c).length<=i:=by grind [FU]
theorem bX (b a:Nat ->Nat) (i:Nat):An (kT b a i) i (a i)=kT b a (i+1):=by grind [KW,kT,GY]
end Go.Proofs.YteifpcnphnhaoaaGreat
