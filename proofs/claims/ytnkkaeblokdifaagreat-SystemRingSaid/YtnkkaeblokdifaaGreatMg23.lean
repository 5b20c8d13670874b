import Derived.Test.YtnkkaeblokdifaaGreatMg22
open Go.Proofs.Tryz
set_option maxHeartbeats 2000000
namespace Go.Proofs.YtnkkaeblokdifaaGreat
open Go.RowKit
variable {E:List (AG×Nat)} {a:List AO} {S:List Nat} {i k:Nat} {c:List Nat} {g:Bool} {f h:Nat ->Nat} {N:dS} {M:MF} {j o:Nat}
set_option maxRecDepth 100000
def Sf (p:dG) (l:List Int):List (AG×Nat):=((dA p.it).filter λi=>decide (i.id∈l)).map λi=>(i,0)
theorem b9 (p:dG) (l:List Int):(Sf p l).map Prod.fst=(dA p.it).filter λi=>decide (i.id∈l):=by unfold Sf;rw [dl];exact List.map_id _
theorem Ll (k:Nat):Cx E k=(E.map Prod.fst).getD k cv:=by grind [Cx]
theorem Uj {E':List (AG×Nat)} (h:E.map Prod.fst=E'.map Prod.fst):eC a E=eC a E':=by
 have c:Cx E=Cx E':=funext λk=>by rw [Ll,Ll,h]
 have b:E.length=E'.length:=by rw [<-ψ (f:=Prod.fst),h,ψ]
 have g:nG a E=nG a E':=by unfold nG;rw [c,b]
 simp [*,eC,Cn,EF]
structure PG (rs:List AO) (E:List (AG×Nat)) (i:Nat) (S:List Nat):Prop where
 nd:S.Nodup
 ini:i∈S
 con:∀j∈S,j<E.length/\Cn rs E i j
theorem PG.zero (c:i<E.length):PG a E i [i]:=⟨by simp,by simp,λj b=>by rw [ξ.1 b];exact ⟨c,.refl i⟩⟩
theorem PG.add (h:PG a E i S) {j:Nat} (l:j∈S) (g:k<E.length) (o:k∉S) (r:Nt a (Cx E j) (Cx E k)):PG a E i (S++ [k]):=by
 refine ⟨gY.2 ⟨h.nd,by simp,λc t b s e=>o (by rw [ξ.1 s] at e;rw [<-e];exact t)⟩,gH _ h.ini,λx f=>?_⟩;rcases ν.1 f with f | f
 .exact h.con x f
 .rw [ξ.1 f];exact ⟨g,(h.con j l).2.trans (Rh.one (Dp.2 ⟨(h.con j l).1,g,r⟩))⟩
theorem PG.len {i:Nat} (h:PG a E i S):S.length<=E.length:=by
 have:=h.nd.length_le_of_subset (l₂:=List.range E.length) λy b=>Γ.2 (h.con y b).1
 grind
def rN (rs:List AO) (E:List (AG×Nat)) (S:List Nat) (k:Nat):Prop:=k∈S\/∀m∈S,¬Nt rs (Cx E m) (Cx E k)
structure PK (rs:List AO) (E:List (AG×Nat)) (i:Nat) (S0:List Nat) (k:Nat) (S:List Nat) (g:Bool):Prop where
 pg:PG rs E i S
 no:g=false ->S=S0/\∀k',k'<k ->rN rs E S k'
 yes:g=true ->S0.length<S.length
theorem PK.zero (h:PG a E i S):PK a E i S 0 S false:=⟨h,λ_=>⟨Z,λb c=>by omega⟩,λe=>by cases e⟩
theorem PK.le (h:PK a E i c k S g):c.length<=S.length:=by
 cases hg:g with
 | false=>rw [(h.no hg).1];exact κ _
 | true=>exact Nat.le_of_lt (h.yes hg)
theorem PK.pass (h:PK a E i c k S g) (j:rN a E S k):PK a E i c (k+1) S g:=
 ⟨h.pg,λe=>⟨(h.no e).1,λb l=>(Nat.decEq b k).byCases (λf=>by rw [f];exact j) λf=>(h.no e).2 b (by omega)⟩,h.yes⟩
theorem PK.hit {b:Nat} (h:PK a E i c k S g) (f:PG a E i (S++ [k])):PK a E i c b (S++ [k]) true:=
 ⟨f,λe=>(by cases e),λ_=>by rw [Ω,Φ];exact Nat.lt_succ_of_le h.le⟩
theorem PG.fin (h:PG a E i S) (j:∀k,k<E.length ->rN a E S k) (s:k<E.length):k∈S↔Cn a E i k:=by
 refine ⟨λg=>(h.con k g).2,λl=>?_⟩;refine Rh.clos (p:=λx=>x∈S) (λv c y b=>?_) l h.ini;obtain ⟨_,r,o⟩:=Dp.1 b;exact (j y r).resolve_right λf=>f v c o
def sF (S:List Nat) (k:Nat) (h:Bool):List Nat:=if h=true then S++ [k] else S
theorem PK.next {f:Bool} (h:PK a E i c k S g) (b:f=true ->PG a E i (S++ [k])) (j:f=false ->rN a E S k):PK a E i c (k+1) (sF S k f) (if f=true then true else g):=by
 cases f with
 | false=>exact h.pass (j Z)
 | true=>exact h.hit (b Z)
theorem oJ (p:dG) (l:List Int) (g:E9 p) (f:l.length<=100000) (h:DQ p l=0) (b:Ai p=0) (c:l.Nodup):AM prog 51 [.d (CM p),.d (Qp l)] (.tup [X3 (eC (dX p) (Sf p l)),AF 0]):=
 (oL p l g f h b c).mono λr k ⟨E,a,j,i⟩=>⟨by rw [j,Uj (E':=Sf p l) (by rw [a,b9,show dC p=dA p.it from ϖ b])],i⟩
theorem Xq {rs:List AO} {E E':List (AG×Nat)} (h:E.map Prod.fst=E'.map Prod.fst):fF rs E=fF rs E'/\EF E=EF E'/\E.length=E'.length:=by
 have c:Cx E=Cx E':=funext λk=>by rw [Ll,Ll,h]
 have b:E.length=E'.length:=by rw [<-ψ (f:=Prod.fst),h,ψ]
 refine ⟨?_,by funext S;unfold EF;rw [c],b⟩;have g:∀E:List (AG×Nat),fF rs E=(E.map Prod.fst).map λa=>fe rs E a E.length:=λE=>by unfold fF;rw [dl];rfl
 simp [*,fe]
theorem mP {b:AG} {n:Nat}:∀k∈fe a E b n,k<n:=λk c=>Γ.1 (Ψ.1 c).1
def lP (ids:List Int) (m k:Nat):List Int:=((List.range k).filter λj=>decide (m / 2^j % 2=1)).map λj=>ids.getD j 0
def sp (p:dG) (ids:List Int) (M:Nat) (x:Int):Prop:=∃m,m<M/\DZ p (lP ids m ids.length)/\x∈lP ids m ids.length
noncomputable instance (p:dG) (ids:List Int) (M:Nat) (x:Int):Decidable (sp p ids M x):=Classical.propDecidable _
theorem QG {a:List AG} (c:(a.map AG.id).Nodup) (b:Nat ->Bool):BG a b a.length=(a.map AG.id).filter λx=>decide (x∈BG a b a.length):=by
 obtain ⟨l,f⟩:∃l,BG a b a.length=l:=⟨_,Z⟩
 have g:a.map AG.id=(List.range a.length).map λi=>(a.getD i cv).id:=by
  conv=>lhs;rw [IH a]
  rw [dl];rfl
 grind [fZ,K4,BG]
theorem cX {c j:Nat} {b g:Nat ->Nat} {N:dS} {M:MF} (h:Bp c j b g N M) {i:Nat} {x:Nd} (k:N.nd[i]? =some x):AK prog 83 [.d (pD (b i) 0)] (HN M) λr l=>r= .d (Ac x.on)/\l=HN M:=by
 have a:=h.n i x k;refine Av func83 Z Z ntmps83 Z Z Z λF o=>(AC (AE (AB Z Z (AD ?_))));refine AC (AE (cl Z Z (J (Cy Z Z) (J (Bz Z E5 Z Z Z) (J (EI (f:=40) Z Z (a) Z ms Z) (AB Z Z (AD (A6 ?_))))))));exact ⟨_,[40],_,A4 Z,Z,Z,Z,Z⟩
theorem cV (a:Bp j o h f N M) (e:Nat×Int) {y:Po} (c:N.po[e.1]? =some y) (g: -1000000000000000000<=y.room/\y.room<=1000000000000000000) (i: -2000000000000000000<=e.2/\e.2<=2000000000000000000):AK prog 87 [.d (bc f e)] (HN M) λr k=>r= .d (Ac (OH y e.2))/\k=HN M:=by
 have b:=LH a c e.2 g i;refine Av func87 Z Z ntmps87 Z Z Z λF l=>(AC (AE (V (CQ 1 Z Z Z Z Z Z Z) (AB Z Z (AD (AC ?_))))));refine AE (J (A1 Z Q2 Z Z Z) (J (A5 Z Z Z ER Z) (J (A1 Z Q1 Z Z Z) (J (A5 Z Z Z L3 Z) (V (Eh b Z [40] ⟨Z,trivial⟩ Z Z Z Z Z Z Z Z Z) (AB Z Z (AD (A6 ?_))))))));exact ⟨_,[40],_,A4 Z,Z,Z,Z,Z⟩
abbrev mC (wb mv:Nat) (bs:Option (List Nat×Nat)) (L:List (Int×Value)) (M:MF):Hp:=(910,[.blk 94 [.d (pD wb 0)]])::HW mv bs L M
theorem cW {g i:Nat} {nb v:Nat ->Nat} {N:dS} {M:MF} (u:Option (List Nat×Nat)) (h:Bp g i nb v N M) (w:(BJ N).Nodup) {id:Int} (o:id∈BJ N):AK prog 85 [.d (AF id),.ptr 910 0 0] (mC g i u (Fb nb (BJ N)) M) λr x=>r= .d (Ac (!dP N id))/\x=mC g i u (Fb nb (BJ N)) M:=by
 have k:=h.w;have a:=gi o;have b:(BJ N).idxOf id<N.nd.length:=by unfold BJ at a⊢;rw [ψ] at a;exact a
 obtain ⟨z,t⟩:∃z,N.nd[(BJ N).idxOf id]? =some z:=⟨_,ω b⟩
 have s:N.nd.getD ((BJ N).idxOf id) Bg=z:=by rw [Δ,t];rfl
 have j:=h.n _ z t;have c:=Qi (nb:=nb) w a;rw [iA a] at c;have l:(!dP N id)=z.on:=by unfold dP;rw [s,Bool.not_not]
 refine Av func85 Z Z ntmps85 Z Z Z λF y=>(AC ?_);refine AE (AB Z Z (AD (AC (AE (J (A5 Z Z Z jG Z) (J (Cy Z Z) (J (Bz Z Lq Z Z Z) (J (EI (f:=40) Z Z (k) Z V9 Z) ?_))))))));refine DJ 7 51 0 Z Z (cl Z Z (J (HO (Fb nb (BJ N)) id (.pointer none) (pV (nb ((BJ N).idxOf id)) 0) Z Z Z Vm HI iE c Z) (J (Cy Z Z) (J (Bz Z E5 Z Z Z) (J (EI (f:=40) Z Z (j) Z ms Z) (AB Z Z (AD (A6 ?_))))))));exact ⟨_,[910,40,50,51],_,A4 Z,Z,Z,by rw [l],Z⟩
section
variable {P:Program} {F:Fr} {s:AS} {d:Nat} {x hi:Operand} {T E:TypeId} {ty:TypeId} {pos:String} {aft:Array Edge} {g:Option (Nat×Bool)}
theorem RP {b n a c:Nat} (h:Nat) {k:IntKind} {i:Int} (l:s.ev x=some (.d (.raw (sV b n a)))) (f:s.ev hi=some (.d (.raw (.int k i)))) (o:i=(h:Int)) (v:h<=a) (t:P.underlying T=some (.slice E)) (u:AW P E c=true) (r:Nat.blt d s.n=true):
  AA P F ⟨some d,.slice T x none (some hi) none,ty,pos,aft,g⟩ s d (.d (.raw (sV b h a))):=
 CR _ r λ_ y w j=>by
  have e:=j.raw l;subst o;refine ⟨.slice (if a=0 then some ⟨b,0,none⟩ else (some (⟨b,0,none⟩:Addr)).map (·.add (0*c))) (h - 0) (a - 0),by simp only [execOp,e,fS,gk,j.raw f,Sem.run_bind,G2 t (YY u) v,Result.andThen_ok,Sem.run_pure],?_⟩
  have:Value.slice (if a=0 then some ⟨b,0,none⟩ else (some (⟨b,0,none⟩:Addr)).map (·.add (0*c))) (h - 0) (a - 0)=sV b h a:=by
   split<;>simp [Addr.add]
  rw [this];exact .d (.raw Z)
end
variable {a c:Nat ->Nat} {N:dS} {M:MF} {f g:Nat} {h:List Nat} {i:Hd} {j:Nat} {x:Nd}
def Nw {α:Type} (p:α ->Bool) (l:List α):Int:=match l.findIdx? p with
 | some k=>k
 | none=> -1
theorem nc {H K:Nat} {E I:Nat ->Nat} {N:dS} {M:MF} (h:Bp H K E I N M) {t:Hd} {q:List Nat} (v:Ax M t 99 1 (q.map λi=>BC (E i))) (u:∀i∈q,i<N.nd.length) (m:Nat) (W:m<=q.length) (Q:q.length<=100000):
  AK prog 35 [.d (dU t m),.d (.raw (.func (.func 83) #[] #[]))] (HN M) λr S=>r= .d (AF (Nw (eB N) (q.take m)))/\S=HN M:=by
 have L:t=none ->m=0:=λe=>by have:=TZ v e;omega
 have P:(q.take m).length=m:=by rw [Θ];omega
 refine Av func35 Z Z ntmps35 Z Z Z λF G=>(AC (AE (AB Z Z (AD ?_))));refine AC (AC (AE (cl Z Z (J (Ut L Z S1 Z) (cl Z Z (AD (A2 (Bb (α:=Nat) (λk=>⟨19,[(0,.d (dU t m)),(1,.d (.raw (.func (.func 83) #[] #[]))),(7,(.d (AF (m:Int)))),(8,(.d (AF (k:Int))))],HN M⟩) (λk=>k<=m/\∀x∈(q.take m).take k,eB N x=false) (λk=>m - k) (0) (⟨ϱ _,by simp⟩) (A0 G [40] Z Z ⟨Z,Z,Z,Z,trivial⟩) ?_))))))));rintro k ⟨R,A⟩;refine AC (AE (J (BW Z Z Z) (AD (AC (Ah Z (λD=>?_) (λD=>?_))))))
 .have w:k<m:=Bi D;refine AZ (AC (A2 (AC ?_)));have a:k<q.length:=by omega
  have s:k<(q.take m).length:=by omega
  obtain ⟨U,T,l⟩:=Tb v a;have j:=Qt v l;have B:=u _ (θ a)
  obtain ⟨z,c⟩:∃z,N.nd[q[k]]? =some z:=⟨_,ω B⟩
  have C:=cX h c;have o:eB N q[k]=z.on:=by unfold eB;rw [Δ,c];rfl
  refine AE (cl Z Z (AB Z Z (AD (AC ?_))));refine AE (cl Z Z (cl Z Z (cl Z Z (J (Ur l (k) Z Z Z w S1 RH Z) (J (km (f:=40) (e:=k) (off:=0) Z (by omega) Z (j) (Aq a) Z UR Z) (V (Y0 C Z [40] ⟨Z,trivial⟩ Z Z Z Z Z Z Z Z Z) (AD (KH Z (λb=>?_) (λb=>?_)))))))))
  .refine AC (AE (cl Z Z (AB Z Z (AD (A6 ?_)))));exact ⟨_,[40],_,A4 Z,Z,Z,Ay (by unfold Nw;rw [Gj s A (by rw [List.getElem_take,o];simpa using b)]),Z⟩
  .refine AZ (AE (J (Aw Z Z (AQ (k+1) (by omega)) Z) (cl Z Z (AD ?_))));exact ⟨k+1,⟨by show k+1<=_;omega,by rw [φ s];intro y g;rcases ν.1 g with g | g;exact A y g;rw [ξ.1 g,List.getElem_take];rw [o];simpa using b⟩,by show m - (k+1)<m - k;omega,A0 G [40] Z (Z) ⟨Z,Z,Z,Z,trivial⟩⟩
 .refine BL (AC (AE (AB Z Z (AD (A6 ?_)))));exact ⟨_,[40],_,A4 Z,Z,Z,Ay (by unfold Nw;rw [IL (λx O=>A x (by rw [ς (by have h:=D;omega)];exact O))]),Z⟩
theorem U4 {a:Type} {p:a ->Bool} {l:List a}:(Nw p l>=0)↔l.any p=true:=by grind [Nw]
theorem kE (j:Bp f g c a N M) (o:Ax M i 99 1 (h.map λb=>BC (c b))) (k:∀b∈h,b<N.nd.length) (m:Nat) (s:m<=h.length) (l:h.length<=100000):
  AK prog 82 [.d (dU i m),.d (.raw (.func (.func 83) #[] #[]))] (HN M) λr t=>r= .d (Ac ((h.take m).any (eB N)))/\t=HN M:=by
 refine Av func82 Z Z ntmps82 Z Z Z λF u=>(AC (AE (AB Z Z (AD ?_))));refine AC (AE (cl Z Z (cl Z Z (V (Eh (nc j o k m s l) Z [40] ⟨Z,trivial⟩ Z Z Z Z Z Z Z Z Z) (J (D2 Z Z Z) (AB Z Z (AD (A6 ?_))))))));exact ⟨_,[40],_,A4 Z,Z,Z,On (by rw [gv,fI];exact U4),Z⟩
theorem n9 {D H:Nat} {G E:Nat ->Nat} {N:dS} {M:MF} (h:Bp D H G E N M) (u:fD N) {i:Nat} {x:Nd} (B:N.nd[i]? =some x):
  AK prog 141 [.d (dU x.eh x.ef.length),.d (.raw (.func (.func 87) #[] #[]))] (HN M) λr Q=>r= .d (AF (Nw (λe:Nat×Int=>OH (N.po.getD e.1 Br) e.2) x.ef))/\Q=HN M:=by
 obtain ⟨K,g,_⟩:=h.nn i x B;have c:=ϑ B;have O:=(u.l x c).1;have I:=TZ g;refine Av func141 Z Z ntmps141 Z Z Z λF C=>(AC (AE (AB Z Z (AD ?_))));refine AC (AC (AE (cl Z Z (J (Ut I Z underlying104 Z) (cl Z Z (AD (A2 (Bb (α:=Nat) (λk=>⟨19,[(0,.d (dU x.eh x.ef.length)),(1,.d (.raw (.func (.func 87) #[] #[]))),(7,(.d (AF (x.ef.length:Int)))),(8,(.d (AF (k:Int))))],HN M⟩) (λk=>k<=x.ef.length/\∀e∈x.ef.take k,(λe:Nat×Int=>OH (N.po.getD e.1 Br) e.2) e=false) (λk=>x.ef.length - k) (0) (⟨ϱ _,by simp⟩) (A0 C [40] Z Z ⟨Z,Z,Z,Z,trivial⟩) ?_))))))));rintro k ⟨L,v⟩;refine AC (AE (J (BW Z Z Z) (AD (AC (Ah Z (λA=>?_) (λA=>?_))))))
 .have a:k<x.ef.length:=Bi A;refine AZ (AC (A2 (AC ?_)));obtain ⟨S,R,b⟩:=Tb g a;have o:=Qt g b;have w:=(h.e x c).1 _ (θ a)
  obtain ⟨y,t⟩:∃y,N.po[x.ef[k].1]? =some y:=⟨_,ω w⟩
  have s:N.po.getD x.ef[k].1 Br=y:=by rw [Δ,t];rfl
  have P:=u.e x c _ (θ a);have z:=cV h x.ef[k] t (u.rm y (ϑ t)) ⟨by omega,by omega⟩;refine AE (cl Z Z (AB Z Z (AD (AC ?_))));refine AE (cl Z Z (cl Z Z (cl Z Z (J (Ur b (k) Z Z Z a underlying104 RJ Z) (J (D1 (f:=40) (e:=k) Z (Z) Z (o) (Aq a) Z ZU Z) (V (Y0 z Z [40] ⟨Z,trivial⟩ Z Z Z Z Z Z Z Z Z) (AD (Ah Z (λl=>?_) (λl=>?_)))))))))
  .refine AC (AE (cl Z Z (AB Z Z (AD (A6 ?_)))));exact ⟨_,[40],_,A4 Z,Z,Z,Ay (by unfold Nw;rw [Gj a v (by show OH (N.po.getD x.ef[k].1 Br) x.ef[k].2=true;rw [s];unfold OH;exact dm l)]),Z⟩
  .refine AZ (AE (J (Aw Z Z (AQ (k+1) (by omega)) Z) (cl Z Z (AD ?_))));exact ⟨k+1,⟨by show k+1<=_;omega,by rw [φ a];intro e j;rcases ν.1 j with j | j;exact v e j;rw [ξ.1 j];show OH (N.po.getD x.ef[k].1 Br) x.ef[k].2=false;rw [s];unfold OH;exact dw l⟩,by show x.ef.length - (k+1)<x.ef.length - k;omega,A0 C [40] Z (Z) ⟨Z,Z,Z,Z,trivial⟩⟩
 .refine BL (AC (AE (AB Z Z (AD (A6 ?_)))));exact ⟨_,[40],_,A4 Z,Z,Z,Ay (by unfold Nw;rw [IL (λe j=>v e (by rw [ς (by have h:=A;omega)];exact j))]),Z⟩
theorem kC (h:Bp f g c a N M) (k:fD N) (b:N.nd[j]? =some x):
  AK prog 86 [.d (dU x.eh x.ef.length),.d (.raw (.func (.func 87) #[] #[]))] (HN M) λr l=>r= .d (Ac (x.ef.any λe:Nat×Int=>OH (N.po.getD e.1 Br) e.2))/\l=HN M:=by
 refine Av func86 Z Z ntmps86 Z Z Z λF o=>(AC (AE (AB Z Z (AD ?_))));refine AC (AE (cl Z Z (cl Z Z (V (Eh (n9 h k b) Z [40] ⟨Z,trivial⟩ Z Z Z Z Z Z Z Z Z) (J (D2 Z Z Z) (AB Z Z (AD (A6 ?_))))))));exact ⟨_,[40],_,A4 Z,Z,Z,On (by rw [gv,fI];exact U4),Z⟩
theorem na (o:Option (List Nat×Nat)) (h:Bp f g c a N M) (y:(BJ N).Nodup) (l:List Int) (D:l.length<=100000) (t:∀id∈l,id∈BJ N):
  AK prog 95 [.d (.sl none (l.map AF)),.fn 85 [.ptr 910 0 0]] (mC f g o (Fb c (BJ N)) M) λr C=>r= .d (AF (Nw (λid=>!dP N id) l))/\C=mC f g o (Fb c (BJ N)) M:=by
 obtain ⟨L,B⟩:∃L,Fb c (BJ N)=L:=⟨_,Z⟩
 have v:=λid A=>cW (id:=id) o h y A;rw [B] at v⊢;refine Av func95 Z Z ntmps95 Z Z Z λF w=>(AC (AE (AB Z Z (AD ?_))));refine AC (AC (AE (cl Z Z (J (CV Z E0 Z) (cl Z Z (AD (A2 (Bb (α:=Nat) (λk=>⟨19,[(0,.d (.sl none (l.map AF))),(1,.fn 85 [.ptr 910 0 0]),(7,(.d (AF (l.length:Int)))),(8,(.d (AF (k:Int))))],mC f g o L M⟩) (λk=>k<=l.length/\∀x∈l.take k,(λid=>!dP N id) x=false) (λk=>l.length - k) (0) (⟨ϱ _,by simp⟩) (A0 w [910,40,50,51] Z Z ⟨Z,Z,Z,Z,trivial⟩) ?_))))))));rintro k ⟨z,s⟩;refine AC (AE (J (BW Z Z Z) (AD (AC (Ah Z (λu=>?_) (λu=>?_))))))
 .have b:k<l.length:=Bi u;refine AZ (AC (A2 (AC (AE (cl Z Z (AB Z Z (AD (AC ?_))))))));refine AE (cl Z Z (cl Z Z (cl Z Z (J (Bq (k) Z Z (Z) (Aq b) E0 Z B4 Z) (J (EJ Z Z BE Z) (V (Y0 (v l[k] (t _ (θ b))) Z [910,40,50,51] ⟨Z,Z,Z,Z,trivial⟩ Z Z Z Z Z Z Z Z Z) (AD (KH Z (λj=>?_) (λj=>?_)))))))))
  .refine AC (AE (cl Z Z (AB Z Z (AD (A6 ?_)))));exact ⟨_,[910,40,50,51],_,A4 Z,Z,Z,Ay (by unfold Nw;rw [Gj b s (by simpa using j)]),Z⟩
  .refine AZ (AE (J (Aw Z Z (AQ (k+1) (by omega)) Z) (cl Z Z (AD ?_))));exact ⟨k+1,⟨by show k+1<=_;omega,by rw [φ b];intro x i;rcases ν.1 i with i | i;exact s x i;rw [ξ.1 i];simpa using j⟩,by show l.length - (k+1)<l.length - k;omega,A0 w [910,40,50,51] Z (Z) ⟨Z,Z,Z,Z,trivial⟩⟩
 .refine BL (AC (AE (AB Z Z (AD (A6 ?_)))));exact ⟨_,[910,40,50,51],_,A4 Z,Z,Z,Ay (by unfold Nw;rw [IL (λx i=>s x (by rw [ς (by have h:=u;omega)];exact i))]),Z⟩
theorem kD (i:Option (List Nat×Nat)) (h:Bp f g c a N M) (j:(BJ N).Nodup) (l:List Int) (k:l.length<=100000) (b:∀id∈l,id∈BJ N):
  AK prog 84 [.d (.sl none (l.map AF)),.fn 85 [.ptr 910 0 0]] (mC f g i (Fb c (BJ N)) M) λr o=>r= .d (Ac (l.any λid=>!dP N id))/\o=mC f g i (Fb c (BJ N)) M:=by
 refine Av func84 Z Z ntmps84 Z Z Z λF s=>(AC (AE (AB Z Z (AD ?_))));refine AC (AE (cl Z Z (cl Z Z (V (Eh (na i h j l k b) Z [910,40,50,51] ⟨Z,Z,Z,Z,trivial⟩ Z Z Z Z Z Z Z Z Z) (J (D2 Z Z Z) (AB Z Z (AD (A6 ?_))))))));exact ⟨_,[910,40,50,51],_,A4 Z,Z,Z,On (by rw [gv,fI];exact U4),Z⟩
section
variable {P:Program} {F:Fr} {s:AS} {d:Nat} {x hi:Operand} {T E:TypeId} {ty:TypeId} {pos:String} {aft:Array Edge} {g:Option (Nat×Bool)}
theorem RQ {h:Hd} {b n a i:Nat} (o:h=some (b,a)) (m:Nat) {j:IntKind} {f:Int} (k:s.ev x=some (.d (dU h n))) (c:s.ev hi=some (.d (.raw (.int j f)))) (l:f=(m:Int)) (v:m<=a) (t:P.underlying T=some (.slice E)) (u:AW P E i=true) (r:Nat.blt d s.n=true):
  AA P F ⟨some d,.slice T x none (some hi) none,ty,pos,aft,g⟩ s d (.d (dU h m)):=by
 subst o;exact RP m k c l v t u r
end
variable {a:List AG} {c:List cw} {f:Nat ->Bool} {g:dG} {N:dS} {R:Int ->Int ->Prop} {h:List Int} {i:Nat} {x:Nd} {j:List cw} {k:AG} {Y:List cw} {o s:Nat ->Nat} {t:List Po} {u:List AG} {M:MF} {w y z:Nat} {A:Int} {B:Nat} {C:Po}
def T8 (N:dS) (e:Nat×Nat):Bool:=((N.po.getD e.1 Br).q.take e.2).any (eB N)
def C1 (N:dS) (x:Nd):Bool:=!(x.pl.any (T8 N)) &&(!(x.it.af.any λid=>!dP N id) && !(x.ef.any λe:Nat×Int=>OH (N.po.getD e.1 Br) e.2))
theorem qy (h:x.pl.any (T8 N)=true):C1 N x=false:=by unfold C1;rw [h];rfl
theorem rA (a:x.pl.any (T8 N)=false) (h:(x.it.af.any λid=>!dP N id)=true):C1 N x=false:=by unfold C1;rw [a,h];rfl
theorem qz (a:x.pl.any (T8 N)=false) (h:(x.it.af.any λid=>!dP N id)=false):C1 N x=!(x.ef.any λe:Nat×Int=>OH (N.po.getD e.1 Br) e.2):=by unfold C1;rw [a,h];simp
theorem ka (P:Option (List Nat×Nat)) (h:Bp w y s o N M) (C:fD N) (U:N.nd[i]? =some x):
  AK prog 37 [.d (pD w 0),.d (pD (s i) 0)] (HW y P (Fb s (BJ N)) M) λr H'=>r= .d (Ac (C1 N x))/\H'=HW y P (Fb s (BJ N)) M:=by
 have c:=ϑ U;obtain ⟨j,hre,l⟩:=h.nn i x U;have W:=TZ l;obtain ⟨_,hpl,hafl⟩:=C.l x c;have T:=h.e x c;have S:=C.p x c;have O:=kD P h C.i x.it.af (by omega) (C.a x c);have hc3:=kC h C U
 obtain ⟨L,hL⟩:∃L,Fb s (BJ N)=L:=⟨_,Z⟩
 rw [hL] at O⊢;refine Av func37 Z Z ntmps37 Z Z Z λF hF=>(AC (AE (V (CQ 910 Z Z Z Z Z Z Z) (AB Z Z (AD (AC (AC (AE ?_))))))));refine cl Z Z (J (Cy Z Z) (J (Bz Z Jq Z Z Z) (J (EI (f:=40) Z Z (j) Z V7 Z) (J (Ut W Z underlying105 Z) (cl Z Z (AD (A2 (Bb (α:=Nat) (λk=>⟨39,[(1,.d (pD (s i) 0)),(2,(.ptr 910 0 0)),(10,(.d (dU x.ph x.pl.length))),(11,(.d (AF (x.pl.length:Int)))),(12,(.d (AF (k:Int))))],mC w y P L M⟩) (λk=>k<=x.pl.length/\∀e∈x.pl.take k,T8 N e=false) (λk=>x.pl.length - k) (0) (⟨ϱ _,by simp⟩) (A0 hF [910,40,50,51] Z Z ⟨Z,Z,Z,Z,Z,trivial⟩) ?_))))))));rintro k ⟨hk0,t⟩;refine AC (AE (J (BW Z Z Z) (AD (AC (Ah Z (λB=>?_) (λB=>?_))))))
 .have b:k<x.pl.length:=Bi B;refine AZ (AC (A2 (AC ?_)));obtain ⟨eb,ec,K⟩:=Tb l b;have E:=Qt l K;have X:x.pl[k].1<N.po.length:=T.2 _ (θ b)
  obtain ⟨a,R⟩:∃a,N.po[x.pl[k].1]? =some a:=⟨_,ω X⟩
  have u:N.po.getD x.pl[k].1 Br=a:=by rw [Δ,R];rfl
  have D:=ϑ R;obtain ⟨Q,g⟩:=h.pp _ a R;have H:=S _ (θ b);rw [u] at H;obtain ⟨qb,qc,G⟩:=Tb g H.1;have hqc:a.q.length<=qc:=by have h1:=g;rw [G] at h1;have h2:=h1.1;rw [ψ] at h2;exact h2
  have Y:=kE h g (h.q a D) x.pl[k].2 (by omega) (by have h1:=C.ql a D;omega);refine AE (J (Ur K (k) Z Z Z b underlying105 O7 Z) ?_);refine J (D1 (f:=40) (e:=k) Z (Z) Z (E) (Aq b) Z ZS Z) (V (CE 911 Uw Z Z Z Z) (V (Bk Z Z Z Z Z Z Z O7) (AD (AC (Dr [[],[0],[0,1],[0,1,2],[0,1,2,3],[],[5],rg 7,rg 8] mixed Z (E6 (AX [6] Z (A1 Z Gk Z Z Z) (By [16] [911] Z Z (λ_=>A9 (A5 Z Z Z ER Z)) ?_))))))));refine AX [17] Z (Cy Z Z) (AX [18] Z (Bz Z Gl Z Z Z) (By [19] [40] Z Z (λ_=>A9 (EI (f:=40) Z Z (Q) Z K5 Z)) (AX [6] Z (A1 Z QY Z Z Z) (By [21] [911] Z Z (λ_=>A9 (A5 Z Z Z BE Z)) (Dh 7 Z Z Z (An 8 Z Z (J (RQ G x.pl[k].2 Z Z Z (by omega) S1 RH Z) (AD ⟨Z,?_⟩))))))));refine An 9 Z Z (V (Eh Y Z [40] ⟨Z,trivial⟩ Z Z Z Z Z Z Z Z Z) (AD ⟨Z,?_⟩));refine Dg (KH Z (λA=>?_) (λA=>?_))
  .refine AC (AE (AB Z Z (AD (A6 ?_))));exact ⟨_,[40,50,51],_,A4 Z,Z,Z,by rw [qy (List.any_eq_true.2 ⟨_,θ b,by unfold T8;rw [u];simpa using A⟩)],Z⟩
  .refine AZ (AE (J (Aw Z Z (AQ (k+1) (by omega)) Z) (cl Z Z (AD ?_))));exact ⟨k+1,⟨by show k+1<=_;omega,by rw [φ b];intro e v;rcases ν.1 v with v | v;exact t e v;rw [ξ.1 v];unfold T8;rw [u];simpa using A⟩,by show x.pl.length - (k+1)<x.pl.length - k;omega,A0 hF [910,40,50,51] Z (Z) ⟨Z,Z,Z,Z,Z,trivial⟩⟩
 .refine BL (AC (AC ?_));have I:x.pl.any (T8 N)=false:=by rw [List.any_eq_false];intro e v;have e1:k=x.pl.length:=(by have h:=B;omega);rw [e1,eo] at t;rw [t e v];simp
  refine AE ?_;refine cl Z Z (J (Cy Z Z) (J (Bz Z F8 Z Z Z) (J (Bz Z FE Z Z Z) (J (EI (f:=40) Z Z (j) Z BI Z) (J (oZ Z Z) (V (Eh O Z [910,40,50,51] ⟨Z,Z,Z,Z,trivial⟩ Z Z Z Z Z Z Z Z Z) (AD (KH Z (λz=>?_) (λz=>?_)))))))))
  .refine AC (AE (AB Z Z (AD (A6 ?_))));exact ⟨_,[40,50,51],_,A4 Z,Z,Z,by rw [rA I (by simpa using z)],Z⟩
  .refine AZ (AC (AE ?_));refine cl Z Z (J (Cy Z Z) (J (Bz Z Jr Z Z Z) (J (EI (f:=40) Z Z (j) Z V8 Z) (V (Eh hc3 Z [40] ⟨Z,trivial⟩ Z Z Z Z Z Z Z Z Z) (J (CF Z Z) (AB Z Z (AD (A6 ?_))))))));exact ⟨_,[40,50,51],_,A4 Z,Z,Z,by rw [qz I (by simpa using z)],Z⟩
abbrev HG (wb mv:Nat) (bs:Option (List Nat×Nat)) (L:List (Int×Value)) (M:MF):Hp:=(920,[.blk 94 [.d (pD wb 0)]])::HW mv bs L M
theorem bN (g:Option (List Nat×Nat)) (h:Bp w y s o N M) (k:fD N) {i:Nat} {x:Nd} (j:N.nd[i]? =some x):
  AK prog 36 [.d (pD (s i) 0),.ptr 920 0 0] (HG w y g (Fb s (BJ N)) M) λr t=>r= .d (Ac (x.on && C1 N x))/\t=HG w y g (Fb s (BJ N)) M:=by
 have b:=h.n i x j;have a:=ka g h k j
 obtain ⟨L,l⟩:∃L,Fb s (BJ N)=L:=⟨_,Z⟩
 rw [l] at a⊢;refine Av func36 Z Z ntmps36 Z Z Z λF u=>(AC (AE (AB Z Z ?_)));refine AD (AC (AE (cl Z Z (J (Cy Z Z) (J (Bz Z E5 Z Z Z) (J (EI (f:=40) Z Z (b) Z ms Z) (cl Z Z (Mg 8 Z (λc=>?_) (λc=>?_)))))))));refine Aa Z Z Z (J (A5 Z Z Z jG Z) (Aa Z Z Z (cl Z Z (Aa Z Z Z (V (Eh a Z [40,50,51] ⟨Z,Z,Z,trivial⟩ Z Z Z Z Z Z Z Z Z) (J (FL Z Z Z Z) ?_))))))
 rotate_left
 refine A8 Z Z Z Z (A8 Z Z Z Z (A8 Z Z Z Z (J (DT Z Z Z Z) ?_)))
 all_goals
  refine AB Z Z (AD (A6 ?_));exact ⟨_,[920,40,50,51],_,A4 Z,Z,Z,by rcases Bool.eq_false_or_eq_true x.on with e | e<;>rw [e] at c⊢<;>first | rfl | (simp at c),rfl⟩
def It (N:dS) (i:Nat):Bool:=(N.nd.getD i Bg).on && C1 N (N.nd.getD i Bg)
theorem n7 (C:Option (List Nat×Nat)) (h:Bp w y s o N M) (I:fD N):
  AK prog 35 [.d (dU N.nh N.nd.length),.fn 36 [.ptr 920 0 0]] (HG w y C (Fb s (BJ N)) M) λr T=>r= .d (AF (Nw (It N) (List.range N.nd.length)))/\T=HG w y C (Fb s (BJ N)) M:=by
 have c:Ax M N.nh Zm 1 ((List.range N.nd.length).map λi=>BC (s i)):=h.rs.1 .n;have P:N.nh=none ->N.nd.length=0:=λe=>by have O:=TZ c e;rw [eT] at O;exact O
 have Q:=I.n.1;have B:=λi x D=>bN (i:=i) (x:=x) C h I D
 obtain ⟨L,S⟩:∃L,Fb s (BJ N)=L:=⟨_,Z⟩
 rw [S] at B⊢;refine Av func35 Z Z ntmps35 Z Z Z λF K=>(AC (AE (AB Z Z (AD ?_))));refine AC (AC (AE (cl Z Z (J (Ut P Z S1 Z) (cl Z Z (AD (A2 (Bb (α:=Nat) (λk=>⟨19,[(0,.d (dU N.nh N.nd.length)),(1,.fn 36 [.ptr 920 0 0]),(7,(.d (AF (N.nd.length:Int)))),(8,(.d (AF (k:Int))))],HG w y C L M⟩) (λk=>k<=N.nd.length/\∀x∈(List.range N.nd.length).take k,It N x=false) (λk=>N.nd.length - k) (0) (⟨ϱ _,by simp⟩) (A0 K [920,40,50,51] Z Z ⟨Z,Z,Z,Z,trivial⟩) ?_))))))));rintro k ⟨R,E⟩;refine AC (AE (J (BW Z Z Z) (AD (AC (Ah Z (λH=>?_) (λH=>?_))))))
 .have b:k<N.nd.length:=Bi H;refine AZ (AC (A2 (AC ?_)));have g:k<(List.range N.nd.length).length:=by rw [eT];exact b
  obtain ⟨W,U,v⟩:=Tb c g;have u:=Qt c v
  obtain ⟨z,l⟩:∃z,N.nd[k]? =some z:=⟨_,ω b⟩
  have G:=B k z l;have A:It N k=(z.on && C1 N z):=by unfold It;rw [Δ,l];rfl
  refine AE (cl Z Z ?_);refine AB Z Z (AD (AC (AE (cl Z Z (cl Z Z (cl Z Z (J (Ur v (k) Z Z Z b S1 RH Z) (J (km (f:=40) (e:=k) (off:=0) Z (by omega) Z (u) ((by rw [ζ,gG b];rfl)) Z UR Z) ?_))))))));refine V (Y0 G Z [920,40,50,51] ⟨Z,Z,Z,Z,trivial⟩ Z Z Z Z Z Z Z Z Z) (AD (KH Z (λj=>?_) (λj=>?_)))
  .refine AC (AE (cl Z Z (AB Z Z (AD (A6 ?_)))));exact ⟨_,[920,40,50,51],_,A4 Z,Z,Z,Ay (by unfold Nw;rw [Gj g E (by rw [List.getElem_range,A];simpa using j)]),Z⟩
  .refine AZ (AE (J (Aw Z Z (AQ (k+1) (by omega)) Z) (cl Z Z (AD ?_))));exact ⟨k+1,⟨by show k+1<=_;omega,by rw [φ g];intro a t;rcases ν.1 t with t | t;exact E a t;rw [ξ.1 t,List.getElem_range,A];simpa using j⟩,by show N.nd.length - (k+1)<N.nd.length - k;omega,A0 K [920,40,50,51] Z (Z) ⟨Z,Z,Z,Z,trivial⟩⟩
 .refine BL (AC (AE (AB Z Z (AD (A6 ?_)))));exact ⟨_,[920,40,50,51],_,A4 Z,Z,Z,Ay (by unfold Nw;rw [IL (λx D=>E x (by rw [ς (by rw [eT];have h:=H;omega)];exact D))]),Z⟩
theorem jF (N:dS):eB (Am N)=eB N:=funext λi=>by unfold eB;rw [FF];rfl
theorem XS (N:dS):dP (Am N)=dP N:=funext λe=>by unfold dP;rw [FF,Gm];rfl
theorem YO (N:dS) (x:Nd):C1 (Am N) (EN x)=C1 N x:=by
 have a:T8 (Am N)=T8 N:=funext λe=>by unfold T8;rw [Hi,jF];rfl
 have b:(λe:Nat×Int=>OH ((Am N).po.getD e.1 Br) e.2)=λe=>OH (N.po.getD e.1 Br) e.2:=funext λe=>by rw [Hi];rfl
 unfold C1;rw [a,XS]
 grind [EN]
theorem bO (N:dS):It (Am N)=It N:=funext λi=>by unfold It;rw [FF,YO];rfl
def OX (po:List Po) (e:Nat×Int):List Po:=match po[e.1]? with
 | some y=>po.set e.1 {y with room:=y.room+e.2}
 | none=>po
theorem kd {e:Nat×Int} (h:t[e.1]? =some C):OX t e=t.set e.1 {C with room:=C.room+e.2}:=by unfold OX;rw [h]
theorem TT:∀(l:List (Nat×Int)) (a:List Po),(l.foldl OX a).map CD=l.foldl OX (a.map CD)
 | [],_=>rfl
 | e::l,a=>by
  rw [List.foldl_cons,List.foldl_cons,TT l]
  congr 1
  unfold OX;rw [ζ]
  cases a[e.1]? with
  | none=>rfl
  | some y=>show (a.set e.1 _).map CD=_;rw [List.map_set];rfl
theorem YQ (l:(c.map cw.r).Nodup) (f:cw ->Po):∀(D:List (AO×Int)),(D.map Prod.fst).Nodup ->(fp (c.map cw.r) D).foldl OX (c.map f)=c.map λx=>{f x with room:=(f x).room+Cs D x.r}:=by
 intro D
 induction D using YV with
 | h0=>
  intro _;show c.map f=_;refine eE λx _=>?_;show f x={f x with room:=(f x).room+0}
  rw [Int.add_zero]
 | h1 D d a=>
  intro g;rw [du,gY] at g;have j:d.1∉D.map Prod.fst:=λh=>g.2.2 _ h _ (List.mem_singleton_self _) rfl;have a:=a g.1
  by_cases b:d.1∈c.map cw.r
  .rw [Ue b,List.foldl_append,a];obtain ⟨o,k⟩:=Lm b
   grind [OX,Q3,DN,DO,Cm]
  .rw [Q5 b,a];refine eE λx i=>?_;have:Cs (D++ [d]) x.r=Cs D x.r:=Cm λe=>b (e▸υ.2 ⟨x,i,Z⟩);rw [this]
def DL (on:Nat ->Bool):Nat ->Bool:=λi=>!on i
def pz (ds:List (List (AO×Int))) (on:Nat ->Bool) (x:cw):Po:=⟨x.r,x.n+DU ds (DL on) x.r,DU ds (λ_=>true) x.r,none,dH ds x.r,(dH ds x.r).length⟩
def dV (ros:List cw) (its:List AG) (on:Nat ->Bool):dS:=⟨(List.range its.length).map (ID (ros.map cw.r) its on),ros.map (pz (its.map ct) on),none,none⟩
theorem Wh (b:List (List (AO×Int))) (r:AO):DU b (DL λ_=>true) r=0:=by
 unfold DU DL
 generalize List.range b.length=l
 induction l with
 | nil=>rfl
 | cons a l c=>rw [dz,eW,c];rfl
theorem aU (a:List cw) (b:List AG):dV a b (λ_=>true)=dD a b λ_=>true:=by grind [dV,dD,eE,pz,Zl,Wh,Vp]
theorem iU {a:List (List (AO×Int))} (h:i<a.length) (c:f i=true) (r:AO):DU a (DL (Af f i)) r=DU a (DL f) r+Cs (a.getD i []) r:=by
 obtain ⟨B,b,g⟩:=IA h;unfold DU;rw [b,du,du,dz,dz,gV,gV,eW,eW]
 grind [DL,eE,Fv,Hz]
def qi (N:dS) (i:Nat) (x:Nd):dS:={N with nd:=N.nd.set i (EC x),po:=x.ef.foldl OX N.po}
theorem sH (w:(c.map cw.r).Nodup) (h:Am N=dV c a f) (g:i<a.length) (v:f i=true) (u:N.nd[i]? =some x):Am (qi N i x)=dV c a (Af f i):=by
 have l:N.nd.map EN=(List.range a.length).map (ID (c.map cw.r) a f):=dc dS.nd h;have k:N.po.map CD=c.map (pz (a.map ct) f):=dc dS.po h
 have b:EN x=ID (c.map cw.r) a f i:=by
  have s:(N.nd.map EN)[i]? =some (EN x):=by rw [ζ,u];rfl
  grind
 have r:x.ef=fp (c.map cw.r) (ct (a.getD i cv)):=dc Nd.ef b;have dr:i<(a.map ct).length:=by simpa using g
 have o:(a.map ct).getD i []=ct (a.getD i cv):=by rw [DW [] dr,DW cv g,eP]
 unfold Am qi dV;dsimp only
 congr 1
 .rw [List.map_set,l]
  have:EN (EC x)=ID (c.map cw.r) a (Af f i) i:=by
   have s:EN (EC x)=EC (EN x):=rfl;rw [s,b];unfold ID EC Af;rw [ϖ rfl]
  rw [this];refine gM λj=>?_;rw [gr]
  by_cases e:i=j
  .subst e;rw [ϖ Z,ϖ (by simpa using g),ζ,gG g];rfl
  .rw [η e,ζ,ζ]
   cases hj:(List.range a.length)[j]? with
   | none=>rfl
   | some z=>
    have t:=χ.1 hj;have:z=j:=by have:=t.2;simp at this;exact this.symm
    subst this;show some _=some _;unfold ID Af;rw [η (λh=>e h.symm)]
 .rw [TT,k,r,YQ w _ _ (YW _)];refine eE λz _=>?_;unfold pz;dsimp only;rw [iU dr v,o,Int.add_assoc]
theorem ss (a:List cw) (b:List AG) (c:Nat ->Bool) (j:Nat):((dV a b c).po.getD j Br).q=((dD a b c).po.getD j Br).q:=by
 show ((a.map _).getD j Br).q=((a.map _).getD j Br).q;rw [Δ,Δ,ζ,ζ]
 cases a[j]?<;>rfl
theorem sr (h:ow c a) (b:Nat ->Bool):fD (dV c a b):=by
 have f:=s4 h b
 have k:∀y∈(dV c a b).po,y.q.length<=30/\y.mi<=30/\ -1000000000000000000<=y.room/\y.room<=1000000000000000000:=λy g=>by
  obtain ⟨x,i,e⟩:=υ.1 g;subst e;have j:=JZ (a.map ct) x.r;rw [ψ] at j;have o:=h.l;have s:=mA h (DL b) x.r;have r:=h.n x i;refine ⟨by show (dH _ _).length<=_;omega,by show (dH _ _).length<=_;omega,?_,?_⟩
  .show _<=x.n+DU (a.map ct) (DL b) x.r;omega
  .show x.n+DU (a.map ct) (DL b) x.r<=_;omega
 refine ⟨f.i,f.a,f.l,f.e,λx i e l=>?_,λy g=>?_,λy g=>(k y g).2.2,?_,λy g=>?_⟩
 .rw [ss];exact f.p x i e l
 .grind
 .have j:=f.n
  grind [dV,dD]
 grind
theorem lB (h:Am N=dV c a f) (k:N.nd[i]? =some x):i<a.length/\x.on=f i/\x.it=a.getD i cv:=by
 have b:(N.nd.map EN)[i]? =some (EN x):=by rw [ζ,k];rfl
 rw [show N.nd.map EN=(List.range a.length).map (ID (c.map cw.r) a f) from dc dS.nd h] at b;have g:i<a.length:=by have:=(χ.1 b).1;simpa using this
 rw [ζ,gG g] at b;have j:EN x=ID (c.map cw.r) a f i:=(Option.some.inj b).symm;exact ⟨g,dc Nd.on j,dc Nd.it j⟩
theorem mE (h:Am N=dV c a f):N.nd.length=a.length:=by grind [ψ,Am,dV]
theorem mF (h:Am N=dV c a f):BJ N=a.map AG.id:=by
 rw [<-Gm,h];exact Nq c a f
def ES (ros:List cw) (its:List AG) (on:Nat ->Bool):Option Nat:=(List.range its.length).findIdx? (It (dV ros its on))
def KQ (ros:List cw) (its:List AG):Nat ->(Nat ->Bool) ->List Int
 | 0,_=> []
 | f+1,on=>match ES ros its on with
  | none=> []
  | some i=>(its.getD i cv).id::KQ ros its f (Af on i)
def CJ (p:dG):List Int:=KQ (Bu p) (dC p) (dC p).length λ_=>true
theorem H3 (h:ES c a f=some i):i<a.length/\f i=true/\It (dV c a f) i=true:=by grind [ES,List.findIdx?_eq_some_iff_getElem,It,dV,ID]
theorem Eb {b:Nat} (h:ES c a f=none):KQ c a b f=[]:=by
 cases b with
 | zero=>rfl
 | succ b=>unfold KQ;rw [h]
theorem Fw {b:List cw} {a:List AG} {f:Nat} {c:Nat ->Bool} {i:Nat} (h:ES b a c=some i):KQ b a (f+1) c=(a.getD i cv).id::KQ b a f (Af c i):=by
 show (match ES b a c with | none=>_ | some i=>_)=_;rw [h]
def Ol (po:List Po) (b:Int):Prop:=∀y∈po,-b<=y.room/\y.room<=b
theorem XA {b c:Int} (h:Ol t b) (g:b<=c) (f: -c<=C.room/\C.room<=c):Ol (t.set B C) c:=λz a=>by
 rcases gf a with a | rfl
 .have:=h z a;omega
 .exact f
theorem SX (p:dG) (hf:E9 p) (hE:Ai p=0):AM prog 14 [.d (CM p)] (.tup [.sl none ((CJ p).map AF),AF 0]):=by
 have H:=TL p hf hE;have v:=ZH hf hE;unfold CJ;rw [aS,<-aU] at H
 obtain ⟨a,hits⟩:∃a,dC p=a:=⟨_,Z⟩
 obtain ⟨c,U⟩:∃c,Bu p=c:=⟨_,Z⟩
 rw [hits,U] at H v⊢;have hl:=v.l;refine Av func14 Z Z ntmps14 Z Z Z λF hF=>?_;refine AC (AE (V (CQ 1 Z Z Z Z Z Z Z) (AB Z Z (AB Z Z (AD (AC (AE (J (B1 Z Z Bc Z Z Z) ?_))))))));refine CZ (WW H Z [40,50,51] ⟨Z,Z,Z,trivial⟩ Z Z Z Z (λr H' ⟨_,_,_,_,_,_,_,e1,e2,_⟩=>by subst e1 e2;exact ⟨Z,Z,Z⟩) Z) Z ?_;rintro _ ⟨r,H',⟨L,O,A,pb,N,M,bs,rfl,rfl,t,u⟩,rfl⟩;refine cl Z Z (J (Ds Z Z Z) (J (Ds Z Z Z) (V (CE 920 rO Z Z Z Z) (V (Bk Z Z Z Z Z Z Z rR) (AB Z Z (AD ?_))))));refine AC (AC (AE (cl Z Z (J (EO Z Z Z) (AD (EV Z (Z) (AZ (AC ?_))))))));rw [mF u];refine AE (AB Z Z (AD (A2 (O0 6 900 BX Z Z Z Z (Bb (α:=(Nat ->Bool)×dS×MF×List Int×Nat) (λq=>⟨66,[(4,(.ptr 920 0 0)),(6,(.own 900 0 q.2.2.2.1.length))],(900,[.rowD 3 1 (q.2.2.2.1.map AF)])::HG L O bs (Fb A (a.map AG.id)) q.2.2.1⟩) (λq=>Bp L O A pb q.2.1 q.2.2.1/\Am q.2.1=dV c a q.1/\Cq a.length q.1<=q.2.2.2.2/\q.2.2.2.1.length+q.2.2.2.2<=a.length/\q.2.2.2.1++KQ c a q.2.2.2.2 q.1=KQ c a a.length λ_=>true) (λq=>q.2.2.2.2) ((λ_=>true,N,M,[],a.length)) (⟨t,u,TA _ _,by simp,Z⟩) (A0 hF [900,920,40,50,51] Z Z ⟨Z,Z,trivial⟩) ?_)))));rintro ⟨K,N,M,l,f⟩ ⟨t,u,hc,hal,w⟩;dsimp only at t u hc hal w⊢;refine A2 (AC ?_);have hw:=lz (N:=N) (by rw [u];exact sr v K);have S:=t.w;have hnr:Ax M N.nh Zm 1 ((List.range N.nd.length).map λi=>BC (A i)):=t.rs.1 .n;have z:=n7 bs t hw;have hNl:=mE u;have hixv:Nw (It N) (List.range N.nd.length)=match ES c a K with | some k=>(k:Int) | none=> -1:=by rw [<-bO,u,mE u];rfl
 rw [mF u,hixv] at z;refine AE (J (A5 Z Z Z jG Z) (J (Cy Z Z) (J (Bz Z IN Z Z Z) (J (EI (f:=40) Z Z (S) Z K5 Z) (J (oZ Z Z) ?_)))))
 cases hne:ES c a K<;>rw [hne] at z
 .refine V (Eh z Z [920,40,50,51] ⟨Z,Z,Z,Z,trivial⟩ Z Z Z Z Z Z Z Z Z) (AB Z Z ?_);refine AD (AC (AC (AE (cl Z Z (J (BW Z Z Z) (AD (Dt Z (Z) (AC ?_))))))));rw [Eb hne,en] at w;refine L6 (emb:=AF) 6 900 l Z Z Z Z Z Z Z (AE (cl Z Z (AB Z Z (AB Z Z (AD (A6 ?_))))));exact ⟨_,[],[],A4 Z,Z,Z,by rw [w],Z⟩
 .refine V (Eh z Z [920,40,50,51] ⟨Z,Z,Z,Z,trivial⟩ Z Z Z Z Z Z Z Z Z) (AB Z Z (AD ?_));refine AC (AC (AE (cl Z Z (J (BW Z Z Z) (AD (EV Z ((dw (by show ¬((_:Nat):Int)<0;omega))) (AZ (AC ?_))))))))
  rename_i i
  obtain ⟨G,Y,hgr⟩:=H3 hne;have g:i<N.nd.length:=by rw [hNl];exact G
  obtain ⟨x,C⟩:∃x,N.nd[i]? =some x:=⟨_,ω g⟩
  obtain ⟨_,hon,hit⟩:=lB u C;obtain ⟨rb,rc,W⟩:=Tb hnr (j:=i) (by rw [eT];exact g);have T:=Qt hnr W;have hcn:=Dj G Y
  obtain ⟨f2,rfl⟩:∃f2,f=f2+1:=⟨f - 1,by omega⟩
  have hrs:=Fw (f:=f2) hne;have B:=ϑ C;have hxb:=(t.nn i x C).1;have hez:=TZ (t.nn i x C).2.1;have hrx:=(t.nn i x C).2.1;have hxe:=t.e x B;have h1:=t.setNd (x':=EC x) C Z Z Z Z;have R:(N.nd.set i (EC x))[i]? =some (EC x):=by rw [List.getElem?_set_self g]
  have he:=hw.e x B;have hel:=(hw.l x B).1;have hrB:Ol N.po 1000000000000000000:=hw.rm;refine AE (J (A5 Z Z Z jG Z) (J (Cy Z Z) (J (Bz Z IN Z Z Z) (J (EI (f:=40) Z Z (S) Z K5 Z) (cl Z Z (J (Ur W (i) Z Z Z g S1 RH Z) (J (km (f:=40) (e:=i) (off:=0) Z (by omega) Z (T) ((by rw [ζ,gG g];rfl)) Z UR Z) ?_)))))));refine AB Z Z (AD (AC ?_));refine AE (cl Z Z (J (Cy Z Z) (J (Bz Z E5 Z Z Z) (V (OZ (f:=40) Z Z Z Z (hxb) ((by show _<9;omega)) Z pP) (AD (AC (AC (AE ?_))))))));refine cl Z Z (J (Cy Z Z) (J (Bz Z Jr Z Z Z) (J (EI (f:=40) Z Z ((GM _ _ _)) Z V8 Z) (J (Ut hez Z underlying104 Z) (cl Z Z (AD (A2 (Bb (α:=Nat×List Po×MF) (λq=>⟨66,[(4,(.ptr 920 0 0)),(6,(.own 900 0 l.length)),(8,(.d (pD (A i) 0))),(41,(.d (dU x.eh x.ef.length))),(42,(.d (AF (x.ef.length:Int)))),(43,(.d (AF (q.1:Int))))],(900,[.rowD 3 1 (l.map AF)])::HG L O bs (Fb A (a.map AG.id)) q.2.2⟩) (λq=>q.1<=x.ef.length/\q.2.1=(x.ef.take q.1).foldl OX N.po/\Bp L O A pb {N with nd:=N.nd.set i (EC x),po:=q.2.1} q.2.2/\Ol q.2.1 (1000000000000000000+100000000000000000*(q.1:Int))/\q.2.1.length=N.po.length) (λq=>x.ef.length - q.1) ((0,N.po,BM M (A i) (T9 (EC x)))) (⟨ϱ _,Z,h1,by show Ol N.po (1000000000000000000+100000000000000000*((0:Nat):Int));simpa using hrB,Z⟩) (A0 hF [900,920,40,50,51] Z Z ⟨Z,Z,Z,Z,Z,Z,trivial⟩) ?_))))))));rintro ⟨k,po,M2⟩ ⟨hk0,E,b,hS,s⟩;dsimp only at hk0 E b hS s⊢;refine AC (AE (J (BW Z Z Z) (AD (AC (Ah Z (λI=>?_) (λI=>?_))))))
  .have o:k<x.ef.length:=Bi I;refine AZ (AC (A2 (AC ?_)));obtain ⟨eb,ec,hee⟩:=Tb hrx o;have D:=Qt (b.nn i (EC x) R).2.1 hee;have hjl:x.ef[k].1<po.length:=by rw [s];exact hxe.1 _ (θ o)
   obtain ⟨y,hy⟩:∃y,po[x.ef[k].1]? =some y:=⟨_,ω hjl⟩
   have P:=b.p _ y hy;have hys:=hS y (ϑ hy);have heb:=he _ (θ o);refine AE ?_;refine J (Ur hee (k) Z Z Z o underlying104 RJ Z) (J (D1 (f:=40) (e:=k) Z (Z) Z (D) (Aq o) Z ZU Z) (V (CE 2 Y3 Z Z Z Z) (V (Bk Z Z Z Z Z Z Z RJ) (AD (Dr [[],[0],[0,1],[0,1,2],[0,1,2,3],[],[5],rg 7,rg 8,rg 9,rg 10] mixed Z (E6 (AX [10] Z (A1 Z Q2 Z Z Z) (By [47] [2] Z Z (λ_=>A9 (A5 Z Z Z ER Z)) ?_))))))));refine AX [48] Z (Cy Z Z) (AX [49] Z (Bz Z Q0 Z Z Z) (By [50] [40] Z Z (λ_=>A9 (EI (f:=40) Z Z (P) Z L3 Z)) (AX [10] Z (A1 Z Q1 Z Z Z) (By [52] [2] Z Z (λ_=>A9 (A5 Z Z Z L3 Z)) (Dh 7 Z Z Z (An 8 Z Z (J (Aw Z Z (Ξ _ (by omega)) Z) (AD ⟨Z,?_⟩))))))));refine An 9 Z Z (J (Cy Z Z) (AD ⟨Z,?_⟩));refine An 10 Z Z (J (Bz Z Q0 Z Z Z) (AD ⟨Z,?_⟩));refine An 11 Z Z (V (OZ (f:=40) Z Z Z Z (P) ((by show _<10;omega)) Z rX) (AD ⟨Z,?_⟩));refine Dg (AE (J (Aw Z Z (AQ (k+1) (by omega)) Z) (cl Z Z (AD ?_))));exact ⟨(k+1,po.set x.ef[k].1 {y with room:=y.room+x.ef[k].2},BM M2 (pb x.ef[k].1) (T7 {y with room:=y.room+x.ef[k].2})),⟨by show k+1<=_;omega,by show po.set _ _=_;rw [Km o,<-E,kd hy],b.setPo hy Z Z,by show Ol _ (1000000000000000000+100000000000000000*((k+1:Nat):Int));exact XA hS (by omega) (by show _<=y.room+x.ef[k].2/\y.room+x.ef[k].2<=_;omega),by show (po.set _ _).length=_;rw [eU];exact s⟩,by show x.ef.length - (k+1)<x.ef.length - k;omega,A0 hF [900,920,40,50,51] Z (Z) ⟨Z,Z,Z,Z,Z,Z,trivial⟩⟩
  .refine BL ?_;have X:po=x.ef.foldl OX N.po:=by rw [E,ς (by have h:=I;omega)]
   have hR2:Bp L O A pb (qi N i x) M2:=by unfold qi;rw [<-X];exact b
   have Q:=(b.nn i (EC x) R).1;refine AE (cl Z Z ?_);refine cl Z Z (J (Cy Z Z) (J (Bz Z F8 Z Z Z) (J (Bz Z Ny Z Z Z) (J (EI (f:=40) Z Z (Q) Z BE Z) (V (EH 3 BX Z Z Z Z Z Z Z Z) (V (Ic (l) ([x.it.id]) Z Z Z Z Z Z Z Z BX (by simp only [Φ];omega) Z Z Z Z) (AB Z Z (AD ?_))))))));exact ⟨(Af K i,qi N i x,M2,l++ [x.it.id],f2),⟨hR2,sH v.r u G Y C,by show Cq a.length (Af K i)<=f2;omega,by show (l++ [x.it.id]).length+f2<=_;rw [Ω];simp;omega,by show (l++ [x.it.id])++KQ c a f2 (Af K i)=_;rw [gn,<-w,hrs,hit];rfl⟩,by show f2<f2+1;omega,A0 hF [900,920,40,50,51] Z (Z) ⟨Z,Z,trivial⟩⟩
def Ct (a:List UInt8):Uv:=⟨a,0,[67,65,83,72]⟩
def OF (id:Int) (a b:List UInt8) (n:Int):AG:=⟨id,0,id,[⟨Ct a,0 - n⟩,⟨Ct b,n⟩],[],[]⟩
deriving instance DecidableEq for KG
theorem KG.eq_iff {x y:KG}:x=y↔x.id=y.id/\x.re=y.re/\x.r=y.r/\x.by_=y.by_:=by cases x;cases y;simp
def io (a:UInt8):AO:=⟨0,Ct [a],[],[]⟩
def qS:List (List UInt8):=[[65],[66],[67]]
def Px:List cw:=[⟨io 65,0⟩,⟨io 66,0⟩,⟨io 67,0⟩]
theorem qr (a:List cw) (b:List AG) (c:Nat ->Bool):Am (dD a b c)=dD a b c:=by
 unfold Am dD;dsimp only;rw [dl,dl]
 rfl
theorem P5 (n:Nat):Cq n (λ_=>true)=n:=by
 unfold Cq;rw [iB.2 λ_ _=>rfl,eT]
theorem i9 (u:(a.map AG.id).Nodup):∀(f:Nat) (b:Nat ->Bool),(EY c a f b).1.length+Cq a.length (EY c a f b).2=Cq a.length b:=by
 intro f
 induction f with
 | zero=>intro b;show 0+_=_;rw [fN];rfl
 | succ f s=>
  intro b
  cases hn:CG (dD c a b) with
  | none=>rw [JN hn];show 0+_=_;rw [fN]
  | some e=>
   obtain ⟨i,x,t,j,o⟩:=QJ hn;obtain ⟨g,h,k⟩:=MC (qr c a b) t;rw [j] at h;have l:i<(a.map AG.id).length:=by rw [ψ];exact g
   have r:(a.map AG.id)[i]=e.id:=by rw [o,k,eP,DW cv g]
   rw [JM hn,<-r,GC u l];have w:=s (Af b i);have v:=Dj g h.symm;show (EY c a f (Af b i)).1.length+1+Cq a.length (EY c a f (Af b i)).2=Cq a.length b;omega
theorem X6 (p:dG):(dE p).length=Cq (dC p).length (Ia p).2:=by
 unfold dE BG Cq;rw [ψ]
theorem bX (a:Ai g=0):(Ia g).1.length+(dE g).length=g.it.length:=by grind [dC,i9,FZ,P5,X6,Ia,kj]
theorem J8 (a:Ai g=0):dE g=((dC g).map AG.id).filter λx=>decide (x∈dE g):=QG (FZ a) _
theorem Ke (b:Ai g=0) (a:A∈dE g):A∈g.it.map AG.id:=by grind [dC,J8,KD]
theorem F4 (a:Ai g=0):(dE g).Nodup:=by
 rw [J8 a];exact (FZ a).sublist fv
theorem Kd (a:Ai g=0):(dE g).length<=g.it.length:=by have:=bX a;omega
theorem oo {c b:Type} (f:c ->b) (q:b ->Bool):∀l:List c,(l.map f).filter q=(l.filter λa=>q (f a)).map f
 | []=>rfl
 | a::l=>by
  rw [dz,fY,fY,oo f q l]
  split<;>rfl
theorem H7 {b:Type} {f g:b ->Int}:∀{l:List b},(∀x∈l,f x=g x) ->(l.map f).sum=(l.map g).sum
 | [],_=>rfl
 | a::l,h=>by
  rw [dz,dz,eW,eW,h a eI,H7 λx c=>h x (er _ c)]
theorem UD (h:∀o∈j,Bj o.r=0/\ -4*Mx<=o.n/\o.n<=4*Mx) (i:(j.map cw.r).Nodup):CY j=0:=by
 unfold CY;refine Pc.2 λk g=>?_;have b:=Γ.1 g;have f:=h _ (θ b);unfold L1;rw [DW HD b,η (λh=>h f.1),η (λh=>h f.2),η];intro c;rw [List.map_take] at c;obtain ⟨a,r,e⟩:=gg.1 c
 grind [fR]
structure Qo (R:Int ->Int ->Prop) (l Y:List cw):Prop where
 len:Y.length=l.length
 at_:∀(j:Nat) x y,l[j]? =some x ->Y[j]? =some y ->y.r=x.r/\ -4*Mx<=y.n/\y.n<=4*Mx/\R x.n y.n
theorem Qo.set (h:Qo R j Y) (f:z<Y.length) {n:Int} (g: -4*Mx<=n/\n<=4*Mx) (i:∀x,R x Y[z].n ->R x n):Qo R j (Y.set z ⟨Y[z].r,n⟩):=
 ⟨by rw [eU];exact h.len,λa x y c b=>by
  rw [gr] at b
  split at b
  .rename_i e;subst e
   first | (rw [ϖ f] at b;injection b with b;subst b) | (injection b with b;subst b)
   have:=h.at_ z x _ c (ω f);exact ⟨this.1,g.1,g.2,i _ this.2.2.2⟩
  .exact h.at_ a x y c b⟩
theorem Qo.map (h:Qo R j Y):Y.map cw.r=j.map cw.r:=by
 refine fh (by rw [ψ,ψ,h.len]) λa c b=>?_;rw [ψ] at c b;rw [eP,eP];exact (h.at_ a _ _ (ω b) (ω c)).1
theorem Qo.mem (h:Qo R j Y):∀y∈Y,∃x∈j,y.r=x.r/\ -4*Mx<=y.n/\y.n<=4*Mx/\R x.n y.n:=λy f=>by
 obtain ⟨a,c,rfl⟩:=gK.1 f;have b:a<j.length:=by rw [<-h.len];exact c
 exact ⟨j[a],θ b,h.at_ a _ _ (ω b) (ω c)⟩
theorem Qo.b (h:Qo R j Y) (a:z<Y.length): -4000000000000000<=Y[z].n/\Y[z].n<=4000000000000000:=by
 obtain ⟨x,_,_,c,b,_⟩:=h.mem _ (θ a)
 grind
theorem LJ (b:h.Nodup) (c:B<h.length):h[B]∉h.take B:=λa=>by
 obtain ⟨i,f,e⟩:=gg.1 a;rw [List.Nodup,fR] at b;exact b i B (by omega) c (by omega) e
theorem Nn:Qk k=0↔(∀x∈k.af,(0<=x/\x<=1000000000)/\x≠k.id)/\k.af.Nodup:=by
 unfold Qk;rw [Pc]
 constructor
 .intro h
  have f:∀c (g:c<k.af.length),(0<=k.af[c]/\k.af[c]<=1000000000)/\k.af[c]≠k.id/\k.af[c]∉k.af.take c:=λc g=>by
   have:=h c (Γ.2 g)
   grind [TY]
  refine ⟨λx j=>?_,?_⟩
  .obtain ⟨c,g,rfl⟩:=gK.1 j
   grind
  .rw [List.Nodup,fR];intro a b r l o e;exact (f b l).2.2 (gg.2 ⟨a,by omega,e⟩)
 grind [θ,TY,LJ]
theorem Qg (l:List Int) (h:Ak k=0):Ak (FX l k)=0:=by
 obtain ⟨a,y,w,v,r,o,j,g,f⟩:=FG h
 have c:Qk (FX l k)=0:=by
  obtain ⟨t,s⟩:=Nn.1 j;exact Nn.2 ⟨λx b=>t x (Ψ.1 b).1,List.Nodup.sublist fv s⟩
 have u:(ON l k.af).length<=k.af.length:=fx _ _;have B:=a.po;have A:=a.pa;have z:=a.af;unfold Ak;rw [η (by show ¬(¬(0<=k.id/\k.id<=1000000000)\/¬(0<=k.sq/\k.sq<=1000000000)\/¬(0<=k.pr/\k.pr<=2));omega),η (by show ¬(256<k.po.length\/256<k.pa.length\/256<(ON l k.af).length);omega)];show B7 [I7 k,Rj k,Qk (FX l k),Nf k,Na k]=0;rw [r,o,c,g,f];rfl
theorem Xg (f:∀i∈u,Ak i=0) (c:(u.map AG.id).Nodup) (b:(u.map AG.sq).Nodup):Db u=0:=by
 unfold Db;refine Pc.2 λk a=>?_
 grind [Mw,List.map_take,LJ]
theorem YP (h:∀i∈u,∀x∈i.af,x∈u.map AG.id):Iz u=0:=by
 unfold Iz;refine Pc.2 λi a=>?_
 grind [Sc,JY]
theorem UW {j:AG}:j∈DA h a↔∃i∈a,i.id∉h/\FX h i=j:=by grind [DA,I1]
theorem Tw (l:List Int) (a:List AG):(DA l a).map AG.id=(a.map AG.id).filter λx=>!decide (x∈l):=by
 unfold DA;rw [dl,oo];rfl
theorem Tv (l:List Int) (a:List AG):(DA l a).map AG.sq=(a.filter λi=>!I1 l i).map AG.sq:=by
 unfold DA;rw [dl];rfl
theorem Fh {x:Int}:x∈(DA h a).map AG.id↔x∈a.map AG.id/\x∉h:=by
 rw [Tw,Ψ];simp
def sP (p:dG) (l:List Int):dG:=⟨IY p l,DA l p.it⟩
theorem SN (c:Ai g=0) (b:A∈(sP g h).it.map AG.id):dF (sP g h) A=FX h (dF g A):=by
 have f:=WY (JA c).2.1;obtain ⟨o,_,r,w⟩:=FA b
 have j:dF (sP g h) A∈DA h g.it:=by
  rw [r];exact θ o
 obtain ⟨i,s,_,v⟩:=UW.1 j;have a:A∈g.it.map AG.id:=(Fh.1 b).1;obtain ⟨k,_,u,t⟩:=FA a
 grind [QR,θ,FX]
theorem Iw (l:List Int) (h:Ak k=0) (r:AO):BU (FX l k) r=BU k r:=by
 unfold BU;rw [Qg l h,h];rfl
theorem VQ (l:List Int) (a:Ai g=0):dA (sP g l).it=((dA g.it).filter λi=>!I1 l i).map (FX l):=by
 have b:=(JA a).2.1;refine (QF ?_ ?_ ?_).symm
 .show ((DA l g.it).map AG.sq).Nodup;rw [Tv];exact List.Nodup.sublist (List.filter_sublist.map _) (Hb b)
 .exact ((KD g.it).filter _).map _
 .rw [ep];exact (List.Pairwise.sublist fv (JK g.it)).imp λh=>h
theorem iq (l:List Int) (b:Ai g=0) (r:AO):dO (dA (sP g l).it) r=(dO (dA g.it) r).filter λx=>!decide (x∈l):=by
 rw [VQ l b];unfold dO;rw [oo,dl,oo,List.filter_filter,List.filter_filter];have a:(AG.id∘FX l)=AG.id:=rfl;rw [a]
 congr 1
 refine fZ λi f=>?_;have c:i∈g.it:=(KD g.it).mem_iff.1 f;rw [Iw l (F5 (JA b).2.1 i c)];exact Bool.and_comm _ _
def fL (i:Int) (q:List Int):List Int:=if i∈q then q.takeWhile λa=>decide (a≠i) else []
theorem WQ {id:Int}:Cf g h id=none↔(∀x∈g.ro,∀a∈fL id (dO (dA g.it) x.r),a∈h)/\∀a∈(dF g id).af,a∈h:=by grind [Nb,fL,Ec,Cf,Option.map_eq_none_iff]
theorem NP:DZ g h↔(∀id∈h,(∀x∈g.ro,∀a∈fL id (dO (dA g.it) x.r),a∈h)/\∀a∈(dF g id).af,a∈h)/\∀x∈g.ro,0<=EQ g.it x h:=by
 unfold DZ;exact ⟨λb=>⟨λid c=>WQ.1 (b.1 id c),λx f=>by have:=b.2 x f;omega⟩,λb=>⟨λid c=>WQ.2 (b.1 id c),λx f=>by have:=b.2 x f;omega⟩⟩
theorem RL (u S:List Int) (k:∀x∈S,x∉u) (f:AG ->Int):∀b:List AG,((b.filter λi=>decide (i.id∈u++S)).map f).sum=((b.filter λi=>decide (i.id∈u)).map f).sum+((b.filter λi=>!decide (i.id∈u) && decide (i.id∈S)).map f).sum
 | []=>rfl
 | a::l=>by
  have j:=RL u S k f l;rw [fY,fY,fY]
  by_cases c:a.id∈u
  .rw [dm (show a.id∈u++S from ν.2 (.inl c)),dm c];simp only [if_true,Bool.not_true,Bool.false_and,Bool.false_eq_true,if_false,dz,eW];omega
  .by_cases g:a.id∈S
   .rw [dm (show a.id∈u++S from ν.2 (.inr g)),dw c,dm g];simp only [if_true,Bool.not_false,Bool.true_and,Bool.false_eq_true,if_false,dz,eW];omega
   .rw [dw (show ¬a.id∈u++S from λh=>(ν.1 h).elim c g),dw c,dw g];simp only [Bool.not_false,Bool.and_false,Bool.false_eq_true,if_false];exact j
theorem Sn (b:Ai g=0) (c:k∈g.it) {r:AO} (a:Bj r=0):BU k r=Ab (dq k) r:=by
 unfold BU;rw [ϖ ⟨F5 (JA b).2.1 k c,a⟩]
theorem Zv (a:Ai g=0):dC g=dA g.it:=ϖ a
section
variable {P:Program} {F:Fr} {s:AS} {d:Nat} {ty:TypeId} {pos:String} {aft:Array Edge} {g:Option (Nat×Bool)} {at_:Array TypeId}
end
variable {a:dG} {c:List AG} {f:List cw} {g:Nat ->Bool} {u:List Int} {h i:Nat} {x:cw} {j:Int}
def OW (p:dG):List Int:=(dA p.it).map AG.id
def rQ (id:Int) (y:AG):AG:=⟨y.id,y.pr,y.sq,y.po,y.pa,GP y.af id⟩
def LB (id:Int) (its:List AG):List AG:=(its.filter λy=>decide (y.id≠id)).map (rQ id)
def ZP (p:dG) (id:Int):dG:=⟨p.ro.map λx=>⟨x.r,x.n+BU (dF p id) x.r⟩,LB id p.it⟩
theorem Wu (id:Int) (a:List AG):(LB id a).length<=a.length:=by
 unfold LB
 grind
structure rL (p:dG) (b:Int):Prop where
 f:E9 p
 r:(p.ro.map cw.r).Nodup
 n:∀x∈p.ro,-b<=x.n/\x.n<=b
theorem rL.set {b:Int} (h:rL a b) (id:Int):rL (ZP a id) (b+1000000000000000):=by
 refine ⟨⟨?_,?_,λx g=>?_⟩,?_,λx g=>?_⟩
 .have:=Wu id a.it;have c:=h.f.i;show (LB id a.it).length<=30;omega
 .show (a.ro.map _).length<=100;rw [ψ];exact h.f.r
 .obtain ⟨y,f,rfl⟩:=υ.1 g;have c:=h.f.x y (Ψ.1 f).1;exact ⟨c.1,c.2.1,dh (fx _ _) c.2.2⟩
 .show ((a.ro.map _).map cw.r).Nodup;rw [dl];exact h.r
 .obtain ⟨y,f,rfl⟩:=υ.1 g;have c:=h.n y f;have i:=bq (dF a id) y.r
  grind
noncomputable def dy:Nat ->dG ->List Int
 | 0,_=> []
 | f+1,p=>match (OW p).find? λid=>decide (DZ p [id]) with
  | none=> []
  | some id=>id::dy f (ZP p id)
structure GI (G:List Int) (p:dG) (acc:List Int) (f:Nat) (ag:Bool):Prop where
 m:rL p (34000000000000000 - 1000000000000000*(f:Int))
 l:(OW p).length<=f
 a:acc.length+f<=30
 v:(ag=true ->acc++dy f p=G)/\(ag=false ->acc=G)
theorem S2 (b:(OW a).find? (λid=>decide (DZ a [id]))=none):dy h a=[]:=by
 cases h with
 | zero=>rfl
 | succ h=>unfold dy;rw [b]
theorem SZ {id:Int} (b:(OW a).find? (λid=>decide (DZ a [id]))=some id):dy (h+1) a=id::dy h (ZP a id):=by
 show (match (OW a).find? (λid=>decide (DZ a [id])) with | none=>_ | some id=>_)=_;rw [b]
theorem YN {N:dS} {x:Nd}:C1 N x=true↔(∀e∈x.pl,T8 N e=false)/\(∀a∈x.it.af,dP N a=true)/\∀e∈x.ef,OH (N.po.getD e.1 Br) e.2=false:=by
 unfold C1
 simp
theorem YK {B:List Int}:∀{A:List Int},j∉A ->fL j (A++j::B)=A:=by
 intro A h;unfold fL;rw [ϖ (by simp)]
 induction A with
 | nil=>rw [List.nil_append,List.takeWhile_cons,η (by simp)]
 | cons a A b=>
  grind [List.takeWhile_cons]
theorem cT {q:List Int} (h:j∉q):fL j q=[]:=η h
theorem NH (b:(c.map AG.id).Nodup) {X:AG} (g:X∈c):c.filter (λy=>decide (y.id=X.id))=[X]:=by
 obtain ⟨A,B,rfl⟩:=List.append_of_mem g;rw [du,gY,dz] at b;obtain ⟨_,f,h⟩:=b;rw [gj] at f;rw [fy,fY,ϖ (by simp)];have j:A.filter (λy=>decide (y.id=X.id))=[]:=List.filter_eq_nil_iff.2 λy a e=>h _ (υ.2 ⟨y,a,Z⟩) _ eI (fb e);have i:B.filter (λy=>decide (y.id=X.id))=[]:=List.filter_eq_nil_iff.2 λy a e=>f.1 (υ.2 ⟨y,a,fb e⟩)
 grind
theorem UN (h:gJ a f c) (g:Nat ->Bool) (i:x∈f):(dV f c g).po.getD ((f.map cw.r).idxOf x.r) Br=pz (c.map ct) g x:=by
 obtain ⟨j,k,rfl⟩:=eQ i;have b:j<(f.map cw.r).length:=by simpa using k
 have e:(f.map cw.r).idxOf f[j].r=j:=by
  have:=GC h.s.r b
  grind
 rw [e];show (f.map _).getD j Br=_
 grind
def Ie (its:List AG) (on:Nat ->Bool) (u:List Int):Prop:=∀j,j<its.length ->(on j=true↔(its.getD j cv).id∉u)
theorem mO (h:gJ a f c) (v:Ie c g u) (o:x∈f):FP (a.it.filter (I1 u)) x.r=DU (c.map ct) (DL g) x.r:=by
 have t:=Rk h (DL g) o;unfold EQ at t;have s:((a.it.filter λi=>decide (i.id∈BG c (DL g) c.length)).map λi=>BU i x.r).sum=DU (c.map ct) (DL g) x.r:=by omega
 rw [<-s]
 have e:a.it.filter (I1 u)=a.it.filter λi=>decide (i.id∈BG c (DL g) c.length):=fZ λy l=>by
  have k:y∈c:=by rw [<-h.hi];exact (KD a.it).mem_iff.2 l
  obtain ⟨j,r,rfl⟩:=eQ k;have w:=K4 h.s.i (DL g) r
  grind [I1,DL,Ie]
 rw [e];unfold FP;refine H7 λy l=>?_;have b:=(Ψ.1 l).1;exact (Sn h.e b (h.w x o)).symm
theorem nj {p:dG} {c:List cw} {b:List AG} (h:gJ p c b) {f:Nat ->Bool} {u:List Int} (S:Ie b f u) {i:Nat} (L:i<b.length) (ho:f i=true):It (dV c b f) i=true↔DZ (sP p u) [(b.getD i cv).id]:=by
 obtain ⟨X,E⟩:∃X,b.getD i cv=X:=⟨_,Z⟩
 have A:X∈b:=by rw [<-E,DW cv L];exact θ L
 have F:X∈p.it:=by rw [<-h.hi] at A;exact (KD p.it).mem_iff.1 A
 have N:X.id∉u:=by have:=(S i L).1 ho;rwa [E] at this
 have hXq:X.id∈(sP p u).it.map AG.id:=Fh.2 ⟨υ.2 ⟨X,F,Z⟩,N⟩
 have hiX:dF p X.id=X:=by
  obtain ⟨hk,_,g,v⟩:=FA (p:=p) (id:=X.id) (υ.2 ⟨_,F,Z⟩);exact QR (WY (JA h.e).2.1) (by rw [g];exact θ hk) F v
 have hiq:dF (sP p u) X.id=FX u X:=by rw [SN h.e hXq,hiX]
 have dr:i<(b.map ct).length:=by simpa using L
 have W:(b.map ct).getD i []=ct X:=by rw [DW [] dr,eP,<-E,DW cv L]
 have hnd:(dV c b f).nd.getD i Bg=ID (c.map cw.r) b f i:=by
  show ((List.range b.length).map _).getD i Bg=_
  grind
 have D:∀j,j<b.length ->eB (dV c b f) j=f j:=λj s=>by
  grind [eB,dV,ID]
 have V:∀{r:AO},Bj r=0 ->dO b r=(dH (b.map ct) r).map λj=>(b.getD j cv).id:=λhr=>Zd h.v hr;have hpl:fJ (c.map cw.r) ((b.map ct).take i) (ct X)=(c.filter λx=>decide (Cs (ct X) x.r<0)).map λx=>((c.map cw.r).idxOf x.r,(dH ((b.map ct).take i) x.r).length):=lZ h _ X
 have hgr:It (dV c b f) i=true↔C1 (dV c b f) (ID (c.map cw.r) b f i)=true:=by
  unfold It;rw [hnd];show ((f i) && _)=true↔_;rw [ho,Bool.true_and]
 rw [hgr,YN,NP];have P:(ID (c.map cw.r) b f i).it=X:=E
 have O:(ID (c.map cw.r) b f i).pl=(c.filter λx=>decide (Cs (ct X) x.r<0)).map λx=>((c.map cw.r).idxOf x.r,(dH ((b.map ct).take i) x.r).length):=by
  rw [<-hpl,<-E];rfl
 have Q:(ID (c.map cw.r) b f i).ef=fp (c.map cw.r) (ct X):=by rw [<-E];rfl
 rw [P,O,Q,E]
 have t:∀y,y∈(sP p u).ro↔∃x∈c,y=⟨x.r,x.n+FP (p.it.filter (I1 u)) x.r⟩:=λy=>by
  show y∈IY p u↔_;unfold IY;rw [υ];have I:∀x,x∈p.ro↔x∈c:=λx=>by rw [<-h.hr];exact (Ec p).mem_iff.symm
  grind
 -- what stands before the item
 have hA:(∀e∈(c.filter λx=>decide (Cs (ct X) x.r<0)).map (λx=>((c.map cw.r).idxOf x.r,(dH ((b.map ct).take i) x.r).length)),T8 (dV c b f) e=false)↔∀y∈(sP p u).ro,∀a∈fL X.id (dO (dA (sP p u).it) y.r),a∈ [X.id]:=by
  have C:∀x∈c,(Cs (ct X) x.r<0 ->T8 (dV c b f) ((c.map cw.r).idxOf x.r,(dH ((b.map ct).take i) x.r).length)=false)↔∀a∈fL X.id (dO (dA (sP p u).it) x.r),a∈ [X.id]:=λx o=>by
   rw [iq u h.e,h.hi,V (h.w x o)];obtain ⟨B,c1,c2,c3⟩:=J0 dr x.r;rw [W] at c1
   by_cases k:Cs (ct X) x.r<0
   .rw [ϖ k] at c1
    have hp1:T8 (dV c b f) ((c.map cw.r).idxOf x.r,(dH ((b.map ct).take i) x.r).length)=(dH ((b.map ct).take i) x.r).any (eB (dV c b f)):=by
     unfold T8;dsimp only;rw [UN h f o];show ((dH (b.map ct) x.r).take _).any _=_;rw [c1,List.take_left']
     rfl
    have hA1:∀a∈((dH ((b.map ct).take i) x.r).map λj=>(b.getD j cv).id).filter (λz=>!decide (z∈u)),a≠X.id:=λa w e=>by
     obtain ⟨j,s,e2⟩:=υ.1 (Ψ.1 w).1;have U:=c2 j s;have:=Kg h.s.i (i:=j) (j:=i) (by omega) L (by rw [e2,e,E]);omega
    have hb:fL X.id (((dH (b.map ct) x.r).map λj=>(b.getD j cv).id).filter λz=>!decide (z∈u))=((dH ((b.map ct).take i) x.r).map λj=>(b.getD j cv).id).filter λz=>!decide (z∈u):=by
     rw [c1,du,du,fy,fy,List.map_singleton,E,fY,ϖ (by simpa using N),List.filter_nil,List.singleton_append];exact YK λI=>hA1 _ I rfl
    rw [hb,hp1,List.any_eq_false]
    constructor
    .intro l a w;obtain ⟨ha1,ha2⟩:=Ψ.1 w;obtain ⟨j,s,rfl⟩:=υ.1 ha1;have U:=c2 j s;have g:=l k j s;rw [D j (by omega)] at g;exact absurd ((S j (by omega)).2 (by simpa using ha2)) g
    .intro l _ j s;have U:=c2 j s;rw [D j (by omega)];intro hon;have H:(b.getD j cv).id∈((dH ((b.map ct).take i) x.r).map λj=>(b.getD j cv).id).filter (λz=>!decide (z∈u)):=Ψ.2 ⟨υ.2 ⟨j,s,Z⟩,by simpa using (S j (by omega)).1 hon⟩;exact hA1 _ H (ξ.1 (l _ H))
   .have hn:X.id∉((dH (b.map ct) x.r).map λj=>(b.getD j cv).id).filter λz=>!decide (z∈u):=λI=>by
     obtain ⟨j,s,e⟩:=υ.1 (Ψ.1 I).1;have T:=Lh s;rw [ψ] at T;have:=Kg h.s.i (i:=j) (j:=i) T L (by rw [e,E]);subst this;have g:=fb (Ψ.1 s).2;rw [W] at g;exact k g
    rw [cT hn];exact ⟨λ_ a w=>(by cases w),λ_ Y=>absurd Y k⟩
  constructor
  .intro l y hy;obtain ⟨x,o,rfl⟩:=(t y).1 hy;exact (C x o).1 λk=>l _ (υ.2 ⟨x,Ψ.2 ⟨o,dm k⟩,Z⟩)
  .intro l e he;obtain ⟨x,o,rfl⟩:=υ.1 he;obtain ⟨R,hx2⟩:=Ψ.1 o;exact (C x R).2 (l ⟨x.r,x.n+FP (p.it.filter (I1 u)) x.r⟩ ((t _).2 ⟨x,R,Z⟩)) (fb hx2)
 -- what must settle before it
 have hB:(∀a∈X.af,dP (dV c b f) a=true)↔∀a∈(dF (sP p u) X.id).af,a∈ [X.id]:=by
  rw [hiq]
  have G:∀a∈X.af,(dP (dV c b f) a=true↔a∈u):=λa w=>by
   have I:=h.s.a _ A a w;have s:=gi I;have J:=iA s;unfold dP;rw [show BJ (dV c b f)=b.map AG.id from Nq c b f]
   generalize (b.map AG.id).idxOf a=j at s J⊢
   have K:j<b.length:=by simpa using s
   rw [eP] at J;have g:=S j K;rw [DW cv K,J] at g;have v:=D j K;unfold eB at v;rw [v]
   cases hoj:f j with
   | true=>simp [g.1 hoj]
   | false=>
    have:¬¬a∈u:=λY=>by rw [g.2 Y] at hoj;cases hoj
    simp [Classical.not_not.1 this]
  constructor
  .intro l a w;obtain ⟨v,h4⟩:=Ψ.1 w;have:=(G a v).1 (l a v)
   simp [oi,this] at h4
  .intro l a w;refine (G a w).2 (Classical.byContradiction λY=>?_);have g:=l a (Ψ.2 ⟨w,by simp [oi,Y]⟩);have v:=(Nn.1 (FG (h.v X A)).2.2.2.2.2.2.1).1 a w;exact v.2 (ξ.1 g)
 -- what it overdraws
 have hC:(∀e∈fp (c.map cw.r) (ct X),OH ((dV c b f).po.getD e.1 Br) e.2=false)↔∀y∈(sP p u).ro,0<=EQ (sP p u).it y [X.id]:=by
  have C:∀x∈c,EQ (sP p u).it ⟨x.r,x.n+FP (p.it.filter (I1 u)) x.r⟩ [X.id]=max (x.n+DU (b.map ct) (DL f) x.r) 0+Cs (ct X) x.r:=λx o=>by
   rw [mO h S o];unfold EQ
   congr 1
   show (((DA u p.it).filter _).map _).sum=_;unfold DA;rw [oo,List.filter_filter,dl]
   have e3:p.it.filter (λa=>decide ((FX u a).id∈ [X.id]) && !I1 u a)=[X]:=by
    rw [<-NH (WY (JA h.e).2.1) F];refine fZ λy hy=>?_
    by_cases e:y.id=X.id
    .unfold I1;show (decide (y.id∈ [X.id]) && !decide (y.id∈u))=_;rw [e,dw N];simp
    .show (decide (y.id∈ [X.id]) && _)=_;rw [dw (λI=>e (ξ.1 I)),dw e];rfl
   rw [e3];show BU (FX u X) x.r+0=_;rw [Int.add_zero,Iw u (h.v X A),Qj (h.v X A) (h.w x o)]
  constructor
  .intro l y hy;obtain ⟨x,o,rfl⟩:=(t y).1 hy;rw [C x o]
   by_cases k:Cs (ct X) x.r<0
   .have hk:x.r∈(ct X).map Prod.fst:=Classical.byContradiction λhn=>by
     have:Cs (ct X) x.r=0:=DO hn;omega
    obtain ⟨d,hd,e⟩:=υ.1 hk;have M:Cs (ct X) d.1=d.2:=cc (YW X) hd;have g:=l ((c.map cw.r).idxOf d.1,d.2) (υ.2 ⟨d,Ψ.2 ⟨hd,dm (by rw [e];exact υ.2 ⟨x,o,Z⟩)⟩,Z⟩);dsimp only at g;rw [e] at g M;rw [UN h f o] at g;have v:=of_decide_eq_false g;unfold cZ at v;have h4:¬(d.2<0/\max (x.n+DU (b.map ct) (DL f) x.r) 0+d.2<0):=v;omega
   .omega
  .intro l e he;obtain ⟨d,hd,rfl⟩:=υ.1 he;obtain ⟨hd1,hd2⟩:=Ψ.1 hd;obtain ⟨x,o,e⟩:=υ.1 (fb hd2);have M:Cs (ct X) d.1=d.2:=cc (YW X) hd1;have g:=l _ ((t _).2 ⟨x,o,Z⟩);rw [C x o] at g;dsimp only;rw [<-e] at M⊢;rw [UN h f o];refine dw ?_;unfold cZ;show ¬(d.2<0/\max (x.n+DU (b.map ct) (DL f) x.r) 0+d.2<0);omega
 rw [hA,hB,hC]
 constructor
 .rintro ⟨l,g,v⟩;exact ⟨λid hid=>by rw [ξ.1 hid];exact ⟨l,g⟩,v⟩
 .rintro ⟨l,g⟩;have:=l X.id (List.mem_singleton_self _);exact ⟨this.1,this.2,g⟩
theorem ma (p:dG):sP p []=p:=by
 have b:IY p []=p.ro:=by
  unfold IY;have e:p.it.filter (I1 [])=[]:=List.filter_eq_nil_iff.2 λy _ h=>by unfold I1 at h;simp at h
  rw [e]
  conv=>rhs;rw [<-List.map_id p.ro]
  refine eE λx _=>?_;show (⟨x.r,x.n+0⟩:cw)=x;rw [Int.add_zero]
 have a:DA [] p.it=p.it:=by
  unfold DA;rw [iB.2 λy _=>by unfold I1;simp]
  conv=>rhs;rw [<-List.map_id p.it]
  refine eE λy _=>?_;show (⟨y.id,y.pr,y.sq,y.po,y.pa,ON [] y.af⟩:AG)=y;rw [aw λx _=>by simp [oi]]
 unfold sP;rw [b,a]
theorem i8 {id:Int} (f:Ai a=0) (g:id∈(sP a u).it.map AG.id):ZP (sP a u) id=sP a (u++ [id]):=by
 obtain ⟨o,h⟩:=Fh.1 g;obtain ⟨z,_,A,j⟩:=FA o;have c:dF a id∈a.it:=by rw [A];exact θ z
 have B:((sP a u).ro.map λx=>(⟨x.r,x.n+BU (dF (sP a u) id) x.r⟩:cw))=IY a (u++ [id]):=by
  show ((IY a u).map _)=_;unfold IY;rw [dl];refine eE λx t=>?_;have v:=R8 (JA f).1 x t;show (⟨x.r,x.n+FP (a.it.filter (I1 u)) x.r+BU (dF (sP a u) id) x.r⟩:cw)=⟨x.r,x.n+FP (a.it.filter (I1 (u++ [id]))) x.r⟩
  rw [SN f g,Iw u (F5 (JA f).2.1 _ c),Sn f c v]
  have s:FP (a.it.filter (I1 (u++ [id]))) x.r=FP (a.it.filter (I1 u)) x.r+Ab (dq (dF a id)) x.r:=by
   unfold FP;have k:=RL u [id] (λy l=>by rw [ξ.1 l];exact h) (λi=>Ab (dq i) x.r) a.it
   have r:(a.it.filter λi=>!decide (i.id∈u) && decide (i.id∈ [id]))=[dF a id]:=by
    rw [<-NH (WY (JA f).2.1) c];refine fZ λy l=>?_;rw [j]
    by_cases e:y.id=id
    .rw [e,dw h];simp
    .rw [dw (λw=>e (ξ.1 w)),dw e,Bool.and_false]
   rw [r] at k;show ((a.it.filter λi=>decide (i.id∈u++ [id])).map _).sum=((a.it.filter λi=>decide (i.id∈u)).map _).sum+_;rw [k,List.map_singleton,eW,List.sum_nil,Int.add_zero]
  rw [s,Int.add_assoc]
 have k:LB id (DA u a.it)=DA (u++ [id]) a.it:=by
  unfold LB DA;rw [oo,List.filter_filter,dl]
  have s:a.it.filter (λb=>decide ((FX u b).id≠id) && !I1 u b)=a.it.filter λi=>!I1 (u++ [id]) i:=fZ λy l=>by
   unfold I1;show (decide (y.id≠id) && !decide (y.id∈u))=!decide (y.id∈u++ [id]);rw [gv]
   simp [and_comm]
  rw [s];refine eE λy _=>?_;show (⟨y.id,y.pr,y.sq,y.po,y.pa,GP (ON u y.af) id⟩:AG)=⟨y.id,y.pr,y.sq,y.po,y.pa,ON (u++ [id]) y.af⟩
  have r:GP (ON u y.af) id=ON (u++ [id]) y.af:=by
   unfold GP ON;rw [List.filter_filter];refine fZ λx _=>?_;unfold oi;rw [gv]
   simp [and_comm]
  rw [r]
 show (⟨(sP a u).ro.map _,LB id (sP a u).it⟩:dG)=⟨IY a (u++ [id]),DA (u++ [id]) a.it⟩
 rw [B];show (⟨_,LB id (DA u a.it)⟩:dG)=_;rw [k]
theorem UI (n:Nat) (g:Nat ->Bool):(List.range n).findIdx? g=(List.range n).find? g:=by
 cases h:(List.range n).findIdx? g with
 | none=>
  grind
 | some i=>
  grind [List.findIdx?_eq_some_iff_getElem,Ln]
theorem mc (h:gJ a f c) (k:Ie c g u):OW (sP a u)=BG c g c.length:=by
 unfold OW BG;rw [VQ u h.e,h.hi,dl]
 have e:c.filter (λi=>!I1 u i)=((List.range c.length).filter g).map λi=>c.getD i cv:=by
  conv=>lhs;rw [IH c]
  rw [List.filter_map]
  congr 1
  refine fZ λj l=>?_;have b:=Γ.1 l;have:=k j b;show (!decide ((c.getD j cv).id∈u))=g j
  grind
 rw [e,dl];rfl
theorem aP (h:gJ a f c) (b:Ie c g u):((OW (sP a u)).find? λid=>decide (DZ (sP a u) [id]))=(ES f c g).map λi=>(c.getD i cv).id:=by
 unfold ES;rw [mc h b,UI];unfold BG
 grind [FC,It,dV,ID,DW,nj]
theorem Ie.off (b:(c.map AG.id).Nodup) (a:Ie c g u) (f:i<c.length):Ie c (Af g i) (u++ [(c.getD i cv).id]):=by grind [Kg,Ie,Af]
theorem Xn (h:gJ a f c):∀(b k:Nat) (u:List Int) (j:Nat ->Bool),Ie c j u ->Cq c.length j<=b ->Cq c.length j<=k ->dy b (sP a u)=KQ f c k j:=by
 intro b
 induction b with
 | zero=>
  intro k u j r w _
  have:ES f c j=none:=by
   cases hn:ES f c j with
   | none=>rfl
   | some i=>
    obtain ⟨o,s,_⟩:=H3 hn;have:=Dj o s;omega
  rw [Eb this];rfl
 | succ b v=>
  intro k u j r w y;have l:=aP h r
  cases hn:ES f c j with
  | none=>
   rw [hn] at l;rw [Eb hn,S2 l]
  | some i=>
   rw [hn] at l;obtain ⟨o,s,_⟩:=H3 hn;have x:=Dj o s
   obtain ⟨g,rfl⟩:∃g,k=g+1:=⟨k - 1,by omega⟩
   have t:(c.getD i cv).id∈(sP a u).it.map AG.id:=((KD (sP a u).it).map AG.id).mem_iff.1 (List.mem_of_find?_eq_some l);rw [Fw hn,SZ l,i8 h.e t,v g _ _ (r.off h.s.i o) (by omega) (by omega)]
theorem Xp (c:Ai a=0) (b:E9 a):CJ a=dy 30 a:=by
 have h:=Ze c b;have g:dC a=dA a.it:=ϖ c;have i:=b.i;unfold CJ;rw [g];have k:=P5 (dA a.it).length;have f:=kj a.it;have:=Xn h 30 (dA a.it).length [] (λ_=>true) (λj _=>by simp) (by omega) (by omega);rw [ma] at this;exact this.symm
theorem R3 {ros:List cw} {its:List AG}:∀(f:Nat) (a:Nat ->Bool),(KQ ros its f a).length<=f
 | 0,_=>κ _
 | f+1,a=>by
  cases hn:ES ros its a with
  | none=>rw [Eb hn];exact ϱ _
  | some i=>rw [Fw hn];have:=R3 (ros:=ros) (its:=its) f (Af a i);simp;exact this
abbrev om (x:Int×cw):D:= .agg [AF x.1,AF x.2.r.k,Ae x.2.r.acc.o,AF x.2.r.acc.k,Ae x.2.r.acc.a,Ae x.2.r.f,Ae x.2.r.t,AF x.2.n]
noncomputable def eG (p:dG) (id:Int):List cw:=Y6 p (BB (eD p [id]))
noncomputable def eY (p:dG) (id:Int):Option (Int×cw):=if id∈dE p then none else (eG p id).head?.map λx=>(id,x)
noncomputable def ft (p:dG):List (Int×cw):=((dA p.it).map AG.id).filterMap (eY p)
theorem Nc {id:Int} (h:id∈dE a):eY a id=none:=ϖ h
theorem cR {id:Int} (h:¬0<(eG a id).length):eY a id=none:=by grind [eY]
theorem k6 {id:Int} (b:id∉dE a) (h:0<(eG a id).length):eY a id=some (id,(eG a id)[0]):=by
 unfold eY;rw [η b,List.head?_eq_getElem?,ω h]
 rfl
theorem QU {a b:Type} {f:a ->Option b} {l:List a} {k:Nat} (c:k<l.length):(l.take (k+1)).filterMap f=(l.take k).filterMap f++(f l[k]).toList:=by grind [φ]
theorem Qe (b:Ai a=0) {l:List Int} (c:l.Nodup) (g:∀x∈l,x∈a.it.map AG.id):DQ a l=0:=by
 unfold DQ;rw [η (by omega)];unfold Pv;refine Pc.2 λk f=>?_
 grind [Gy,Li]
theorem kT {S:List Int}:∀y∈eD a S,y∈a.it.map AG.id:=by grind [eD,Cb]
theorem kS (b:Ai a=0) (S:List Int):(eD a S).Nodup:=by
 unfold eD;exact (Cb _).nodup_iff.2 (List.Nodup.sublist fv (WY (JA b).2.1))
theorem qj {l:List cw} (h:0<l.length):(l.map Cv)[0]? =some (Cv l[0]):=Aq h
theorem YH (p:dG) (u:E9 p) (i:Ai p=0):AM prog 55 [.d (CM p)] (.tup [.sl none ((ft p).map om),AF 0]):=by
 have C:=G9 p u i;have O:=u.i;have B:=u.r;have g:=HY p u.b;rw [show dC p=dA p.it from ϖ i] at g;have P:=Kd i;have H:=kj p.it;have w:=λ{id:Int} (c:id∈p.it.map AG.id)=>kQ p [id] u.b (by simp) (by omega) (by omega) (Qe i (by simp) λx t=>by rw [ξ.1 t];exact c) (by simp) λx t=>by rw [ξ.1 t];exact c
 have v:∀id:Int,AM prog 110 [.d (CM p),.d (Qp (eD p [id]))] (.tup [.sl none ((eG p id).map Cv),AF 0]):=λid=>by
  have h:=iH p (eD p [id]) u.b (by have:=cI (p:=p) (l:=[id]);omega);rw [Qe i (kS i _) kT,ϖ rfl] at h;exact h
 obtain ⟨L,z⟩:∃L,(dA p.it).map AG.id=L:=⟨_,Z⟩
 have S:L.length<=30:=by rw [<-z,ψ,H];omega
 have I:∀x∈L,x∈p.it.map AG.id:=λx t=>by rw [<-z] at t;exact ((KD p.it).map AG.id).mem_iff.1 t
 have E:ft p=L.filterMap (eY p):=by unfold ft;rw [z]
 rw [z] at g;rw [E];refine Av func55 Z Z ntmps55 Z Z Z λF A=>?_;refine AC (AE (V (CQ 1 Z Z Z Z Z Z Z) (AB Z Z (AB Z Z (AD (AC (AE (J (B1 Z Z Bc Z Z Z) ?_))))))));refine J (B5 (C) Z Z) (cl Z Z (J (Ds Z Z Z) (J (Ds Z Z Z) (AB Z Z (AB Z Z (AD (AC (AC ?_))))))));refine AE (cl Z Z (J (EO Z Z Z) (AD (EV Z (dw (by decide)) (AZ (AC (AE (cl Z Z ?_))))))));refine CZ (WW (Fo (dE p) (F4 i) (by omega)) Z [41] ⟨Z,trivial⟩ Z Z Z Z (λr U ⟨b,N,M,K,_⟩=>by subst M K;exact ⟨Z,Z,Z⟩) Z) Z ?_;rintro _ ⟨r,U,⟨b,N,M,K,R⟩,rfl⟩;subst M K;refine AB Z Z (AD (AC (AE (AB Z Z (AD (AC (AC ?_)))))));refine AE (J (B1 Z Z Bc Z Z Z) (J (B5 (g) Z Z) (J (CV Z E0 Z) (cl Z Z (AD (A2 (O0 7 10 m7 Z Z Z Z (Bb (α:=Nat×List (Int×cw)) (λq=>⟨65,[(1,(.ptr 1 0 0)),(6,(.d (W8 b))),(7,(.own 10 0 q.2.length)),(25,(.d (Qp L))),(26,(.d (AF (L.length:Int)))),(27,(.d (AF (q.1:Int))))],[(1,[.blk 31 [.d (.sl none (p.ro.map Cv)),.d (.sl none (p.it.map Ap))]]),(41,[.multi N]),(10,[.rowD 207 8 (q.2.map om)])]⟩) (λq=>q.1<=L.length/\q.2=(L.take q.1).filterMap (eY p)/\q.2.length<=q.1) (λq=>L.length - q.1) ((0,[])) (⟨ϱ _,Z,ϱ _⟩) (A0 A [1,41,10] Z Z ⟨Z,Z,Z,Z,Z,Z,trivial⟩) ?_))))))));rintro ⟨k,T⟩ ⟨Q,y,G⟩;dsimp only at Q y G⊢;refine AC (AE (J (BW Z Z Z) (AD (AC (Ah Z (λs=>?_) (λs=>?_))))))
 .refine AZ (AC (A2 (AC ?_)));have a:k<L.length:=Bi s;have c:=I _ (θ a);refine AE (J (Bq (k) Z Z (Z) (Aq a) E0 Z B4 Z) (J (EJ Z Z BE Z) (AB Z Z ?_)));refine AD (AC (AC (AE (cl Z Z (cl Z Z (V (Y0 (Hu R L[k]) Z [41] ⟨Z,trivial⟩ Z Z Z Z Z Z Z Z Z) (AD (Ah Z (λo=>?_) (λo=>?_)))))))))
  .refine BL (AE (J (Aw Z Z (AQ (k+1) (by omega)) Z) (cl Z Z (AD ?_))));exact ⟨(k+1,T),⟨a,by show _=(L.take (k+1)).filterMap _;rw [QU a,Nc o,y];simp,by show T.length<=k+1;omega⟩,by show L.length - (k+1)<L.length - k;omega,A0 A [1,41,10] Z (Z) ⟨Z,Z,Z,Z,Z,Z,trivial⟩⟩
  .refine AZ (AC (AE (J (B1 Z Z Bc Z Z Z) (cl Z Z (V (EH 20 BX Z Z Z Z Z Z Z Z) ?_)))));refine hJ (emb:=AF) 37 20 [L[k]] Z Z Z Z Z Z Z (V (Eh (w c) Z [900] ⟨Z,trivial⟩ Z Z Z Z Z Z Z Z Z) (cl Z Z (J (C8 Z Z Z) (J (C8 Z Z Z) (AB Z Z (AB Z Z (AD (AC ?_))))))));refine L6 (emb:=AF) 10 900 (eD p [L[k]]) Z Z Z Z Z Z Z (AE (J (B1 Z Z Bc Z Z Z) (cl Z Z (J (B5 (v L[k]) Z Z) (cl Z Z (J (Ds Z Z Z) (J (Ds Z Z Z) (AB Z Z ?_))))))));refine AB Z Z (AD (AC (AE (cl Z Z (J (JB Z (ψ ..) underlying201 Z) (J (Pf Z Z Z) (AD (Ah Z (λj=>?_) (λj=>?_)))))))))
   .have f:0<(eG p L[k]).length:=Bi j;refine Dr [[],[],[],[2],[2,3],[2,3,4],[],[6],[6,7],[6,7,8],[1,2,3,4,5,6,7,8,9],[1,2,3,4,5,6,7,8,9,10],rg 12,rg 13] mixed Z (E6 (At 7 Z Z (At 9 Z Z (At 12 Z Z (AX [52] Z (Bq (0) Z Z (Z) (qj f) underlying201 Z lM Z) (AX [53] Z (GV Z jr Z Z Z) (AX [54] Z (IX Z Z CL Z) (At 12 Z Z ?_))))))));refine AX [56] Z (Bq (0) Z Z (Z) (qj f) underlying201 Z lM Z) (AX [57] Z (GW Z jq Z Z Z) (AX [58] Z (EJ Z Z L3 Z) (AX [51,55,59] Z (FU pB qE Z Z Z) (IU [60] [30] [(61,_)] Z Z (λ_=>IV (EH 30 m7 Z Z Z Z Z Z Z Z)) (.inr ⟨61,_,Z,Z,Z,Z,Z⟩) Z Z Z Z Z (Dh 12 Z Z Z (An 13 Z Z (V (Ic (T) ([(L[k],(eG p L[k])[0])]) Z Z Z Z Z Z Z Z m7 (by simp only [Φ];omega) Z Z Z Z) (AD ⟨Z,?_⟩))))))));refine An 14 Z Z (AB Z Z (AD ⟨Z,?_⟩));refine Dg (AE (J (Aw Z Z (AQ (k+1) (by omega)) Z) (cl Z Z (AD ?_))));exact ⟨(k+1,T++ [(L[k],(eG p L[k])[0])]),⟨a,by show _=(L.take (k+1)).filterMap _;rw [QU a,k6 o f,y];rfl,by show (T++ [_]).length<=k+1;rw [Ω];simp only [Φ];omega⟩,by show L.length - (k+1)<L.length - k;omega,A0 A [1,41,10] Z (Z) ⟨Z,Z,Z,Z,Z,Z,trivial⟩⟩
   .refine AZ (AE (J (Aw Z Z (AQ (k+1) (by omega)) Z) (cl Z Z (AD ?_))));exact ⟨(k+1,T),⟨a,by show _=(L.take (k+1)).filterMap _;rw [QU a,cR (λh=>j (by exact_mod_cast h)),y];simp,by show T.length<=k+1;omega⟩,by show L.length - (k+1)<L.length - k;omega,A0 A [1,41,10] Z (Z) ⟨Z,Z,Z,Z,Z,Z,trivial⟩⟩
 .refine BL (AC ?_);have D:k=L.length:=by have:=s;omega
  refine L6 (emb:=om) 7 10 T Z Z Z Z Z Z Z ?_;rw [show T=L.filterMap (eY p) by rw [y,D,eo]];refine AE (cl Z Z (AB Z Z (AB Z Z (AD (A6 ?_)))));exact ⟨_,[],[],A4 Z,Z,Z,Z,Z⟩
end Go.Proofs.YtnkkaeblokdifaaGreat
namespace Go.Proofs.YtnkkaeblokdifaaGreat
open Go.RowKit Go.Shelf
open Go.Sort (putRow Holds PermIn SortedIn SWO mapBlock onCells putCells)
variable {P:Program}
section
variable {ρr:Ren} {τ:Type}
theorem Yw (L:SlLaysF.n6 P ρr) {E:TypeId} {g g6:FuncId} {fn:Func} (hfn:P.funcs[g]? =some fn) (hnm:(fn.name== "runtime.NumGoroutine")=false) {c:Code} (hbody:fn.body=some c)
  {A:τ ->D} (hag:∀x,(A x).cells=[A x]) (cf:τ ->τ ->Int) (hO:SWO (ltOf cf)) (l V:List τ) (M:List D) (hsz:l.length<4611686018427387904) (hc:∀x∈l,∀y∈l,AM P g [.d (A x),.d (A y)] (.raw (.int .i64 (cf x y))))
  (hu:∀ys:List τ,ys.Perm l ->ys.Pairwise (λa b=>¬cf b a<0) ->ys=V)
  {F:Fr} {s:AS} {d:Nat} {x y:Operand} {ty:TypeId} {pos:String} {aft:Array Edge} {gd:Option (Nat×Bool)} {at_:Array TypeId} {f n:Nat} {fa:AV} {row:List D} {hp':Hp}
  (hg:ρr.f 6=g6) (hx:s.ev x=some (.own f 0 n)) (hy:s.ev y=some fa) (hfa:∀w O R v,AU w O R fa v ->v= .func (.func g) #[] #[]) (ho:cr s.hp f 0=some (.rowD E 1 row)) (hrow:row=l.map A++M) (hn:n=l.length) (hh:BH s.hp f 0 (.rowD E 1 (V.map A++M))=some hp') (hd:Nat.blt d s.n=true):
  AH P F ⟨some d,.call {callee:= .value (.func g6),args:= #[x,y],argTypes:=at_},ty,pos,aft,gd⟩ s ⟨s.n,(d,.d (.tup []))::s.env,hp'⟩ (λ_ _=>true):=by
 subst hg hrow hn;intro R act w hs
 obtain ⟨fn6,hf1,hf2,hf3⟩:∃fn,P.funcs[ρr.f 6]? =some fn/\(fn.name== "runtime.NumGoroutine")=false/\fn.body.isSome=true:=by
  obtain ⟨nm,hn,hf⟩:=L.f6;exact ⟨_,hf,hn,Z⟩
 unfold Oper.wp;rw [show (#[x,y]:Array Operand)=[x,y].toArray from rfl,DC hf1 hf2 hf3,Oper.upon_enter]
 suffices key:Calls P (ρr.f 6) ([x,y].map act.eval).toArray w λe w'=>e= .returned (.tuple #[])/\SR F ⟨s.n,s.env,hp'⟩ R act w' by
  refine key.mono λe w' ⟨T,hsr⟩=>?_;subst T;exact ⟨R,hsr.put (IW hd) (.d (.tup Z λi c v hc=>by cases hc)),λ_ _ _=>rfl⟩
 have r0:=hs.ev hx;have r1:=hfa _ _ _ _ (hs.ev hy);have hg0:=ho;have h3:=hs.heap;have S:=Ag hh;obtain ⟨us,q1,q2,q3⟩:=h3.sim f 0 _ hg0;show Calls P (ρr.f 6) #[act.eval x,act.eval y] w _;rw [r1]
 generalize act.eval x=V0 at r0
 cases r0 with
 | own hρ hle=>
  rename_i N K a
  by_cases hx:l=[]
  .subst hx;refine (AnyF.slices_SortFunc_none {L with} a K _ w).mono λe w' ⟨T,e2⟩=>?_;subst T e2;refine ⟨Z,hs.writeG f 0 _ _ ho S Z Z Z (κ _) (κ _) (λ_ _ _=>rfl) (λ_ _ e=>by cases e) λhrep=>?_⟩;rw [<-hu [] (List.Perm.refl _) List.Pairwise.nil]
   have hO2:∀t,F.O R hp' t ->F.O R s.hp t:=λt h=>h.imp id λ⟨g,i,o,J,Y⟩=>by
    rw [S] at J
    split at J
    .rename_i e;obtain ⟨rfl,rfl⟩:=e;exact ⟨g,0,_,hg0,Y⟩
    .exact ⟨g,i,o,J,Y⟩
   exact ⟨us,q1,⟨q2.1,q2.2.1,λi x hx j c hc=>by
    obtain ⟨u,J,Y,h4⟩:=q2.2.2 i x hx j c hc
    exact ⟨u,J,Y,h4.mono (κ _) (λ_ _ _=>rfl) λt _=>hO2 t⟩⟩,q3⟩
  .have hn:0<l.length:=gO.2 hx;have hul:us.length=l.length+M.length:=by have:=q2.1;rwa [Ω,ψ,fc] at this
   have hblkeq:∃b B,a=some ⟨b,0,none⟩/\w.heap[b]? =some (.cells B E (0,0))/\B.size=K/\l.length+M.length<=K/\K<=maxLen/\B.toList.take (l.length+M.length)=us/\N=l.length+M.length:=by
    rcases q1.2 with ⟨_,h⟩ | ⟨b,cap',B,T,_,e2,e3,e4,e5,e6⟩
    .rw [Ω,ψ] at h;omega
    .rw [hρ] at T;injection T with T e7 e8
     subst T e8;rw [Ω,ψ] at e3 e6 e7;exact ⟨b,B,Z,e2,by omega,e3,e4,by rwa [fc] at e6,e7⟩
   obtain ⟨b,B,rfl,p1,p2,p3,p3',p4,rfl⟩:=hblkeq;have hb:B2 (R f 0)=some b:=by rw [hρ];rfl
   have hOb:F.O R s.hp b:= .inr ⟨f,0,_,hg0,hb⟩;have hlt:b<w.heap.size:=(fX.1 p1).1;have hOl:∀t,F.O R s.hp t ->t<w.heap.size:=λt h=>h3.ltO h
   have hus:∀i,i<l.length+M.length ->us[i]? =B[i]?:=λi I=>by
    have h:=dc (·[i]?) p4
    change (B.toList.take (l.length+M.length))[i]? =us[i]? at h
    rw [gT I,fi] at h;exact h.symm
   let x0:τ:=l[0]
   let W:Nat ->Nat:=λi=>if i<l.length then i else 0
   have X:∀i,W i<l.length:=λi=>by show (if _ then _ else _)<_;split<;>omega
   let el:Nat ->τ:=λi=>(l[W i]?).getD x0
   have hel:∀i,el i∈l:=λi=>by
    show (l[W i]?).getD x0∈l;rw [ω (X i)];exact θ (X i)
   have heli:∀i (I:i<l.length),el i=l[i]:=λi I=>by
    show (l[W i]?).getD x0=_;rw [show W i=i from ϖ I,ω I];rfl
   let r:Nat ->Value:=λi=>(us[W i]?).getD undef
   have henc:∀i,us[W i]? =some (r i):=λi=>by
    have h:W i<us.length:=by have:=X i;omega
    show us[W i]? =some ((us[W i]?).getD undef);rw [ω h];rfl
   let cf':Nat ->Nat ->Int:=λi j=>cf (el i) (el j)
   have hO':SWO (ltOf cf'):=⟨λx=>hO.irrefl (el x),λx y z=>hO.trans (el x) (el y) (el z),λx y z=>hO.ntrans (el x) (el y) (el z)⟩
   have hrow:∀i,((l.map A++M)[W i]?)=some (A (el i)):=λi=>by
    rw [mG (by rw [ψ];exact X i),ζ,ω (X i)];show some (A _)=some (A ((l[W i]?).getD x0));rw [ω (X i)];rfl
   have H:∀i,(r i).oneCell'=true/\AN w (F.O R s.hp) (A (el i)) (r i):=λi=>by
    obtain ⟨u,J,Y,h4⟩:=q2.2.2 _ _ (hrow i) 0 (A (el i)) (by rw [hag];rfl);rw [fc,fG,henc] at J;injection J with J;subst J
    exact ⟨Y,h4⟩
   have henc1:OneCell r:=λi=>(H i).1;have hd0:∀i,i<l.length ->(Array.range l.length)[i]! =i:=λi I=>by rw [getElem!_pos _ i (by simpa using I)];simp
   have hcu:∀i,i<l.length ->B[i]? =some (r i):=λi I=>by
    rw [<-hus i (by omega)];have:=henc i
    rwa [show W i=i from ϖ I] at this
   have hH:Holds r w b 0 (Array.range l.length):=by
    intro j hj;simp only [gW] at hj;rw [hd0 _ hj];refine ⟨?_,?_⟩
    .simp only [World.cell?,p1,fN];rw [hcu j hj];rfl
    .simp only [World.frozen?,p1]
     simp
   have hcmp:CmpLays1 P g #[] r cf' b 0 (Array.range l.length).size w:=by
    intro m os dk _ x y;have Q:w.heap.size<=(sortWorld r w b 0 m dk os).heap.size:=G0;have hW:∀t,t<w.heap.size ->¬F.O R s.hp t ->(sortWorld r w b 0 m dk os).heap[t]? =w.heap[t]?:=λt hl hno=>ov (λe=>hno (e▸hOb)) hl;have ra:=(H x).2.mono Q hW (λ_ _ h=>h);have rb:=(H y).2.mono Q hW (λ_ _ h=>h)
    refine (QA (hc (el x) (hel x) (el y) (hel y)) (w:=sortWorld r w b 0 m dk os) (λt h=>fu (hOl t h) Q) (vs:=[r x,r y]) Z (λi a v ha hv=>?_)).mono λe w' ⟨v,T,e2,e3,e4,e5⟩=>⟨?_,ND e3 e4 e5⟩
    .match i,ha,hv with
     | 0,ha,hv=>injection ha with ha;injection hv with hv;subst ha hv;exact .d ra
     | 1,ha,hv=>injection ha with ha;injection hv with hv;subst ha hv;exact .d rb
    .cases e2 with
     | raw _=>exact T
   have eg:∀args w,(callFunc g args).run P w= .ok (.enter g args) w:=enters_of hfn hnm hbody;have key:=Any.slices_SortFunc L r henc1 cf' hO' g #[] b 0 K (Array.range l.length) w eg hcmp hH hlt (by simpa using hsz);rw [gW] at key;refine key.mono λe w' ⟨T,U,n,os,hp,hsort,hw⟩=>?_;subst T hw;obtain ⟨s1,_,s3⟩:=hp;rw [gW] at s1
   have hperm:U.toList.Perm (List.range l.length):=by
    have T:U.extract 0 l.length=U:=by rw [<-s1];exact Array.extract_size
    have e2:(Array.range l.length).extract 0 l.length=Array.range l.length:=by
     conv=>lhs;arg 3;rw [<-gW (n:=l.length)]
     exact Array.extract_size
    rw [T,e2] at s3
    simpa using s3
   refine ⟨Z,?_⟩
   have hys:U.toList.map el=V:=by
    apply hu
    .refine (hperm.map el).trans (List.Perm.of_eq ?_)
     apply fh (by simp)
     intro i h5 h6;simp only [eP,List.getElem_range];exact heli i h6
    .rw [fR];intro i j I hj hij;simp only [ψ,gN] at I hj;have:=hsort i j (ϱ _) hij (by omega);rw [getElem!_pos _ j hj,getElem!_pos _ i I] at this;simp only [ltOf,decide_eq_false_iff_not] at this
     simpa using this
   have hlen':V.length=l.length:=by rw [<-hys];simp [s1]
   have Q:w.heap.size<=(sortWorld r w b 0 n U os).heap.size:=G0;have hW:∀t,t<w.heap.size ->¬F.O R s.hp t ->(sortWorld r w b 0 n U os).heap[t]? =w.heap[t]?:=λt hl hno=>ov (λe=>hno (e▸hOb)) hl
   have hheap:(sortWorld r w b 0 n U os).heap[b]? =some (.cells (putCells r 0 U B) E (0,0)):=by
    unfold sortWorld;rw [Go.Sort.heap_grow_old _ _ (by rw [Go.Sort.size_putRow];exact hlt)];show (w.heap.modify b _)[b]? =_;rw [gS,ϖ Z,p1];rfl
   have hcs:(putCells r 0 U B).size=K:=by simp only [putCells,Array.size_mapIdx];omega
   have hO2:∀t,F.O R hp' t ->F.O R s.hp t:=λt h=>h.imp id λ⟨g,i,o,J,Y⟩=>by
    rw [S] at J
    split at J
    .rename_i e;obtain ⟨rfl,rfl⟩:=e;exact ⟨g,0,_,hg0,Y⟩
    .exact ⟨g,i,o,J,Y⟩
   have cr:∀i,i<l.length+M.length ->(putCells r 0 U B).toList[i]? =if h:i<l.length then some (r (U[i]'(by omega))) else us[i]?:=λi I=>by
    rw [fi,ez (by omega)];simp only [putCells,Array.getElem_mapIdx]
    by_cases h:i<l.length
    .rw [ϖ ⟨ϱ _,by omega⟩,dif_pos h];simp only [Nat.sub_zero];rw [getElem!_pos _ i (by omega)]
    .rw [η (λY=>h (by omega)),dif_neg h,hus i I,ez (by omega)]
   refine hs.writeG f 0 _ _ ho S Z Z Z Q (Nat.le_add_right _ _) (λt hl hno=>ov (λe=>hno (by rw [e];exact hb)) hl) (λ_ _ e=>by cases e) λhrep=>?_;have hlr:(V.map A++M).length=l.length+M.length:=by rw [Ω,ψ,hlen']
   have hlu:((putCells r 0 U B).toList.take (l.length+M.length)).length=(V.map A++M).length*1:=by
    have e2:(putCells r 0 U B).toList.length=K:=hcs;rw [hlr,fc,Θ,e2];exact Nat.min_eq_left p3
   refine ⟨(putCells r 0 U B).toList.take (l.length+M.length),⟨hlu,.inr ⟨b,K,_,by rw [hρ,hlr],ϱ _,hheap,by rw [hlr];exact p3,p3',by omega,by rw [hlr,fc]⟩⟩,⟨hlu,λx C=>?_,λi x C j c G=>?_⟩,λx C c G=>?_⟩
   .rcases ν.1 C with h | h
    .obtain ⟨y,_,rfl⟩:=υ.1 h;rw [hag];rfl
    .exact q2.2.1 _ (ν.2 (.inr h))
   .have I:i<l.length+M.length:=by rw [<-hlr];exact (χ.1 C).1
    by_cases h:i<l.length
    .rw [mG (by rw [ψ];omega),ζ,<-hys,ζ,fi,ez (by omega)] at C;injection C with C;subst C
     rw [hag] at G
     match j,G with
     | 0,G=>
      injection G with G;subst G
      exact ⟨_,by rw [fc,fG,gT I,cr i I,dif_pos h],(H _).1,(H _).2.mono Q hW λt _=>hO2 t⟩
    .rw [mH (by rw [ψ];omega),ψ,hlen'] at C;obtain ⟨u,J,Y,h4⟩:=q2.2.2 i x (by rw [mH (by rw [ψ];omega),ψ];exact C) j c G
     have hj:j=0:=by
      have J:x.cells.length=1:=q2.2.1 x (ν.2 (.inr (ϑ C)));have:=(χ.1 G).1;omega
     subst hj;rw [fc,fG] at J;exact ⟨u,by rw [fc,fG,gT I,cr i I,dif_neg h];exact J,Y,h4.mono Q hW λt _=>hO2 t⟩
   .rcases ν.1 C with h | h
    .obtain ⟨y,_,rfl⟩:=υ.1 h;rw [hag] at G
     obtain ⟨k,hk⟩:∃k,el k=y\/y∉l:=by
      by_cases hy:y∈l
      .obtain ⟨k,hk,e⟩:=gK.1 hy;exact ⟨k,.inl ((heli k hk).trans e)⟩
      .exact ⟨0,.inr hy⟩
     have hyx:y∈l:=by
      rename_i hy
      rw [<-hys] at hy;obtain ⟨q,_,rfl⟩:=υ.1 hy;exact hel q
     exact q3 (A y) (ν.2 (.inl (υ.2 ⟨y,hyx,Z⟩))) c (by rw [hag];exact G)
    .exact q3 x (ν.2 (.inr h)) c G
end
end Go.Proofs.YtnkkaeblokdifaaGreat
namespace Go.Proofs.YtnkkaeblokdifaaGreat
open Go.RowKit
variable {a:List (List Nat)} {k:Nat}
set_option maxRecDepth 100000
def GH (l:List Nat):Bool:=decide (l.length<2)
theorem WP (l:List Nat) (a:l.length<=100000):AM prog 105 [.d (dI l)] (Ac (GH l)):=by
 refine Av func105 Z Z ntmps105 Z Z Z λF b=>(AC (AE (AB Z Z ?_)));refine AD (AC (AE (cl Z Z (J (CV Z E0 Z) (J (BW Z Z Z) (AB Z Z (AD (A6 ?_))))))));exact ⟨_,[],_,A4 Z,Z,Z,ij (by omega),Z⟩
def dr (l:List Nat):Int:=((l.getD 0 0:Nat):Int)
theorem kU (a b:List Nat) (h:0<a.length) (g:0<b.length) (f:a.getD 0 0<=100000) (c:b.getD 0 0<=100000):AM prog 107 [.d (dI a),.d (dI b)] (AF (dr a - dr b)):=by
 have j:a.getD 0 0=a[0]:=by rw [Δ,ω h];rfl
 have i:b.getD 0 0=b[0]:=by rw [Δ,ω g];rfl
 unfold dr;rw [j] at f⊢;rw [i] at c⊢;refine Av func107 Z Z ntmps107 Z Z Z λF k=>(AC (AE (AB Z Z (AD (AC (Dr [[],[0],[0,1],[],[3],[3,4],rg 6,rg 7] mixed Z (E6 (At 0 Z Z ?_))))))));refine AX [5] Z (Bq (0) Z Z (Z) (Aq h) E0 Z B4 Z) (AX [6] Z (EJ Z Z BE Z) (At 1 Z Z (AX [8] Z (Bq (0) Z Z (Z) (Aq g) E0 Z B4 Z) (AX [9] Z (EJ Z Z BE Z) (Dh 6 Z Z Z (An 7 Z Z (J (Pg Z Z (Ξ _ (by omega)) Z) (AD ⟨Z,?_⟩))))))));refine An 8 Z Z (AB Z Z (AD ⟨Z,?_⟩));refine Dg (A6 ?_);exact ⟨_,[],[],A4 Z,Z,Z,Z,Z⟩
theorem n8 (l:List (List Nat)) (r:l.length<=100000) (g:∀c∈l,c.length<=100000):AM prog 154 [.d (.sl none (l.map dI)),.d (.fn 105 [] [])] (AF (Nw GH l)):=by
 refine Av func154 Z Z ntmps154 Z Z Z λF s=>(AC (AE (AB Z Z (AD ?_))));refine AC (AC (AE (cl Z Z (J (CV Z Ri Z) (cl Z Z (AD (A2 (Hq (α:=Nat) (λk=>⟨19,[(0,.d (.sl none (l.map dI))),(1,.d (.fn 105 [] [])),(7,(.d (AF (l.length:Int)))),(8,(.d (AF (k:Int))))],[]⟩) (λk=>k<=l.length/\∀x∈l.take k,GH x=false) (λk=>l.length - k) (0) (⟨ϱ _,by simp⟩) (hG ⟨Z,Z,Z,Z,trivial⟩) ?_))))))));rintro k ⟨o,i⟩;refine AC (AE (J (BW Z Z Z) (AD (AC (Ah Z (λj=>?_) (λj=>?_))))))
 .have a:k<l.length:=Bi j;refine AZ (AC (A2 (AC (AE (cl Z Z (AB Z Z (AD (AC ?_))))))));refine AE (cl Z Z (cl Z Z (cl Z Z (J (Bq (k) Z Z (Z) (Aq a) Ri Z Ca Z) (J (EJ Z Z BI Z) (J (KN (WP l[k] (g _ (θ a))) Z Z) (AD (Ah Z (λf=>?_) (λf=>?_)))))))))
  .refine AC (AE (cl Z Z (AB Z Z (AD (A6 ?_)))));exact ⟨_,[],[],A4 Z,Z,Z,Ay (by unfold Nw;rw [Gj a i (by unfold GH;simpa using f)]),Z⟩
  .refine AZ (AE (J (Aw Z Z (AQ (k+1) (by omega)) Z) (cl Z Z (AD ?_))));exact ⟨k+1,⟨by show k+1<=_;omega,by rw [φ a];intro x b;rcases ν.1 b with b | b;exact i x b;rw [ξ.1 b];unfold GH;simpa using f⟩,by show l.length - (k+1)<l.length - k;omega,⟨Z,Z,λ_ _=>Td.get (l:=[(0,_),(1,_),(7,_),(8,_)]) ⟨Z,Z,Z,Z,trivial⟩⟩⟩
 .refine BL (AC (AE (AB Z Z (AD (A6 ?_)))));exact ⟨_,[],[],A4 Z,Z,Z,Ay (by unfold Nw;rw [IL (λx b=>i x (by rw [ς (by have h:=j;omega)];exact b))]),Z⟩
def eR (l:List (List Nat)):List (List Nat):=l.filter λx=>!GH x
theorem QM (h:∀x∈a,GH x=false):eR a=a:=iB.2 λx b=>by rw [h x b];rfl
theorem nK (b:k<a.length) (h:GH a[k]=false):eR (a.take (k+1))=eR (a.take k)++ [a[k]]:=by
 unfold eR;rw [GF b,ϖ (by rw [h];rfl)]
theorem Vs (b:k<a.length) (h:GH a[k]=true):eR (a.take (k+1))=eR (a.take k):=by grind [eR,GF]
theorem ak (l:List (List Nat)):(eR l).length<=l.length:=fx _ _
def eO:Option (List Nat) ->D
 | some l=>dI l
 | none=> .raw (.slice none 0 0)
theorem bh (l:List (List Nat)):l.map dI=(l.map some).map eO:=by rw [dl];rfl
theorem nz (l:List (List Nat)) (S:l.length<=100000) (z:∀c∈l,c.length<=100000):AK prog 104 [.own 10 0 l.length,.d (.fn 105 [] [])] [(10,[.rowD 33 1 (l.map dI)])] λr T=>r= .own 10 0 (eR l).length/\T=[(10,[.rowD 33 1 ((eR l).map dI++(List.replicate (l.length - (eR l).length) none).map eO)])]:=by
 have f:=n8 l S z
 cases hfi:l.findIdx? GH with
 | none=>
  have G:∀x∈l,GH x=false:=λx I=>by have:=List.findIdx?_eq_none_iff.1 hfi x I;simpa using this
  have b:Nw GH l= -1:=by unfold Nw;rw [hfi]
  rw [b] at f;have A:=QM G;refine Av func104 Z Z ntmps104 Z Z Z λF H=>(AC (AE (AB Z Z (AD (AC (AE ?_))))));refine cl Z Z (cl Z Z (J (Hx [10] f (by exact ⟨.inr ⟨_,_,Z,.own Z Z (by simp) (ς (by simp)),Z⟩,.inl Z,trivial⟩) Z Z) (AB Z Z (AD (AC (AC (AE (cl Z Z ?_))))))));refine J (MB Z Z Z) (AD (Dt Z (Z) (AC (AE (cl Z Z (AB Z Z (AD (A6 ?_))))))));exact ⟨_,[10],_,A4 Z,Z,Z,by rw [A],by rw [A];simp⟩
 | some k=>
  obtain ⟨L,B,C⟩:=List.findIdx?_eq_some_iff_getElem.1 hfi;have b:Nw GH l=(k:Int):=by unfold Nw;rw [hfi]
  rw [b] at f
  have y:∀x∈l.take k,GH x=false:=λx I=>by
   obtain ⟨j,U,rfl⟩:=gg.1 I;have:=C j (by omega)
   simpa using this
  rw [bh l] at f⊢;have K:eR (l.take (k+1))=l.take k:=by rw [Vs L B,QM y]
  refine Av func104 Z Z ntmps104 Z Z Z λF H=>(AC ?_);refine AE (AB Z Z (AD (AC (AE (cl Z Z (cl Z Z (J (Hx [10] f (by exact ⟨.inr ⟨_,_,Z,.own Z Z (by simp) (ς (by simp)),Z⟩,.inl Z,trivial⟩) Z Z) (AB Z Z ?_))))))));refine AD (AC (AC (AE (cl Z Z (J (MB Z Z Z) (AD (EV Z ((dw (by omega))) (AZ ?_))))))));refine AC (AC (AE (cl Z Z (J (Aw Z Z (AQ (k+1) (by omega)) Z) (AB Z Z (AD (A2 (Bb (α:=Nat×Nat×List (Option (List Nat))) (λq=>⟨42,[(0,(.own 10 0 l.length)),(1,(.d (.fn 105 [] []))),(5,(.d (AF (q.1:Int)))),(6,(.d (AF (q.2.1:Int))))],[(10,[.rowD 33 1 (q.2.2.map eO)])]⟩) (λq=>q.2.1<=l.length/\q.1<q.2.1/\q.2.2.length=l.length/\q.2.2.take q.1=(eR (l.take q.2.1)).map some/\q.2.2.drop q.2.1=(l.drop q.2.1).map some) (λq=>l.length - q.2.1) ((k,k+1,l.map some)) (⟨by show k+1<=_;omega,gA _,by show (l.map some).length=_;simp,by show (l.map some).take k=_;rw [K,List.map_take],by show (l.map some).drop (k+1)=_;rw [List.map_drop]⟩) (A0 H [10] Z Z ⟨Z,Z,Z,Z,trivial⟩) ?_))))))));rintro ⟨i,j,c⟩ ⟨N,O,g,o,s⟩;dsimp only at N O g o s⊢;refine AC (AC (AE (cl Z Z (cl Z Z (J (Qs Z Ri Z) (J (BW Z Z Z) (AD (Ah Z (λw=>?_) (λw=>?_)))))))))
  .have a:j<l.length:=Bi w;refine AZ (AC (A2 (AC (AE ?_))));have D:j<c.length:=by omega
   have Q:c[j]=some l[j]:=by have R:(c.drop j)[0]? =((l.drop j).map some)[0]?:=by {rw [s]};rw [gu,ζ,gu,fG,ω D,ω a] at R;injection R
   refine cl Z Z (cl Z Z (J (C7 (j) Z Z (Z) (a) Z Ri Ca Z) (J (DX Z Z ((show (c.map eO)[j]? =some (dI l[j]) from by rw [ζ,ω D,Q];rfl)) Z BI Z) ?_)));refine AB Z Z ?_;refine AD (AC (AE (cl Z Z (cl Z Z (J (KN (WP l[j] (z _ (θ a))) Z Z) (J (O2 Z Z) (AD (Ah Z (λv=>?_) (λv=>?_)))))))))
   .have u:GH l[j]=false:=by unfold GH;simpa using v
    refine AC (AE (cl Z Z (cl Z Z (cl Z Z (J (C7 (i) Z Z (Z) ((by omega)) Z Ri Ca Z) (V (Fq (c) (some l[j]) Z Z Z Z Z Z (by omega) Z Ca) (AD (AE ?_))))))));refine cl Z Z (J (Aw Z Z (AQ (i+1) (by omega)) Z) (AB Z Z (AD (AE (cl Z Z (J (Aw Z Z (AQ (j+1) (by omega)) Z) (AB Z Z (AD ?_))))))));exact ⟨(i+1,j+1,_),⟨by show j+1<=_;omega,by show i+1<j+1;omega,by show (c.set i (some l[j])).length=_;rw [eU];exact g,by show (c.set i (some l[j])).take (i+1)=(eR (l.take (j+1))).map some;rw [nK a u,du,<-o,φ (by rw [eU];omega),List.getElem_set_self,List.take_set_of_le (κ i)];rfl,by show (c.set i (some l[j])).drop (j+1)=(l.drop (j+1)).map some;rw [List.drop_set_of_lt (by omega),<-List.tail_drop,<-List.tail_drop,s,List.map_tail]⟩,by show l.length - (j+1)<l.length - j;omega,A0 H [10] Z (Z) ⟨Z,Z,Z,Z,trivial⟩⟩
   .have u:GH l[j]=true:=by unfold GH;simpa using v
    refine AZ (AE (cl Z Z (J (Aw Z Z (AQ (j+1) (by omega)) Z) (AB Z Z (AD ?_)))));exact ⟨(i,j+1,c),⟨by show j+1<=_;omega,by show i<j+1;omega,g,by show c.take i=(eR (l.take (j+1))).map some;rw [Vs a u,o],by show c.drop (j+1)=(l.drop (j+1)).map some;rw [<-List.tail_drop,<-List.tail_drop,s,List.map_tail]⟩,by show l.length - (j+1)<l.length - j;omega,A0 H [10] Z (Z) ⟨Z,Z,Z,Z,trivial⟩⟩
  .refine BL (AC ?_);have M:j=l.length:=by have h:=w;omega
   have t:c.take i=(eR l).map some:=by rw [o,M,eo]
   have E:i=(eR l).length:=by have h:=dc List.length t;rw [Θ,ψ] at h;omega
   refine AE (cl Z Z (cl Z Z (Rv (emb:=eO) (zd:=none) c i Z Z Z Z g.symm Z (by omega) Ri Ca zeroValue33 Z Z Z Z Z Z ?_)));refine AD (AC (AE (cl Z Z (cl Z Z (J (Hw (i) Z Z Z (by simp only [ψ,Ω,Θ,List.length_replicate];omega) Z Ri Ca Z) (AB Z Z (AD (A6 ?_))))))));exact ⟨_,[10],_,A4 Z,Z,Z,by rw [<-E],by rw [t,g,E,du,<-bh]⟩
end Go.Proofs.YtnkkaeblokdifaaGreat
namespace Go.Proofs.YtnkkaeblokdifaaGreat
end Go.Proofs.YtnkkaeblokdifaaGreat
