import Derived.Test.YteifpcnphnhaoaaGreatMg26
open Go.Proofs.Tryz
namespace Go.Proofs.YteifpcnphnhaoaaGreat
open Go.RowKit Go.Shelf
variable {i:eR} {a:ee}
theorem KP (l:List Int) (h:Aq i=0):Aq (EZ l i)=0:=by
 obtain ⟨a,w,v,u,o,k,j,g,f⟩:=GV h
 have c:UE (EZ l i)=0:=by
  obtain ⟨s,r⟩:=XM.1 j;exact XM.2 ⟨λx b=>s x (Γ.1 b).1,List.Nodup.sublist gE r⟩
 have t:(MK l i.af).length<=i.af.length:=gM _ _;have A:=a.po;have z:=a.pa;have y:=a.af;unfold Aq;rw [θ (by show ¬(¬(0<=i.id/\i.id<=1000000000)\/¬(0<=i.sq/\i.sq<=1000000000)\/¬(0<=i.pr/\i.pr<=2));omega),θ (by show ¬(256<i.po.length\/256<i.pa.length\/256<(MK l i.af).length);omega)];show Bd [Mw i,Uz i,UE (EZ l i),UA i,RP i]=0;rw [o,k,c,g,f];rfl
theorem JF (l:List Int) (h:Aq i=0) (r:AM):Be (EZ l i) r=Be i r:=by
 unfold Be;rw [h,KP l h];rfl
theorem Z8 (h:A6 a=0) {S:List Int} {x:eY} (j:x∈a.ro):JN a S x.r↔∃i,i∈(ei a S).it/\Be i x.r≠0:=by
 have c:x.r∈er a:=ie j;have k:=Mn h _ c
 constructor
 .rintro ⟨i,f,b,l⟩;have g:=qn (HX h).2.1 _ f;exact ⟨EZ S i,ie (Γ.2 ⟨f,by simpa using b⟩),by rw [JF S g];exact (OE g c k).1 l⟩
 grind [qn,HX,JF,OE,JN,ei]
theorem Kd (p:ee) (S:List Int):(ei p S).it.map eR.id=(p.it.map eR.id).filter λx=>decide (x∈S):=by
 unfold ei;show List.map eR.id (List.map (EZ S) _)=_;rw [fS,List.filter_map];rfl
theorem IL (t:A6 a=0) (S:List Int):A6 (ei a S)=0:=by
 obtain ⟨k,g,w⟩:=HX t
 have D:¬(4096<a.it.length\/16384<a.ro.length):=λh=>by
  grind [A6]
 have s:(ei a S).ro.length<=a.ro.length:=gM _ _;have v:(ei a S).it.length<=a.it.length:=by unfold ei;show (List.map _ _).length<=_;rw [ψ];exact gM _ _
 unfold A6;rw [θ (by omega)];have y:Mx=1000000000000000:=rfl
 have C:Cv (ei a S).ro=0:=by
  refine Uo (λo u=>?_) ?_
  .have c:o∈a.ro:=(Γ.1 u).1;have:=IK k o c
   grind [Fj]
  .exact List.Nodup.sublist (List.filter_sublist.map _) (LZ k)
 have B:Dl (ei a S).it=0:=by
  refine Ye (λj f=>?_) ?_ ?_
  .obtain ⟨i,b,rfl⟩:=κ.1 f;exact KP S (qn g i (Γ.1 b).1)
  .rw [Kd];exact List.Nodup.sublist gE (XT g)
  .unfold ei;show (List.map eR.sq (List.map (EZ S) _)).Nodup;rw [fS];exact List.Nodup.sublist (List.filter_sublist.map _) (DI g)
 have A:Hy (ei a S).it=0:=by
  refine ZN λj f x r=>?_;obtain ⟨i,b,rfl⟩:=κ.1 f;obtain ⟨z,l⟩:=Γ.1 r;rw [Kd,Γ];exact ⟨I3 w i (Γ.1 b).1 x z,by unfold Sc at l;simpa using l⟩
 rw [C,B,A];rfl
end Go.Proofs.YteifpcnphnhaoaaGreat
namespace Go.Proofs.YteifpcnphnhaoaaGreat
open Go.RowKit
variable {a:List eR} {s c:ee} {x:eY}
structure Lu (p s:ee):Prop where
 hp:A6 p=0
 hs:A6 s=0
 ro:∀x∈s.ro,x∈p.ro
 it:∀i∈s.it,i∈p.it
 z:∀i∈p.it,i∉s.it ->∀x∈s.ro,Be i x.r=0
theorem Lu.sort (h:Lu c s):(eX c.it).filter (λi=>decide (i∈s.it))=eX s.it:=by
 have g:=DI (HX h.hp).2.1;have f:=DI (HX h.hs).2.1;refine mP (R:=λa b=>Gc a b<0) (λx=>by rw [C1.refl];omega) (λx y z=>C1.trans x y z) ?_ (IF (((I9 s.it).map _).nodup_iff.2 f) (E6 s.it)) λx=>?_
 all_goals (grind [IF,I9,E6,it])
theorem Lu.q (h:Lu c s) (f:x∈s.ro):ez (eX c.it) x.r=ez (eX s.it) x.r:=by
 rw [<-h.sort];unfold ez;rw [List.filter_filter]
 congr 1
 refine iD λi g=>?_;have a:=(I9 c.it).mem_iff.1 g
 by_cases b:i∈s.it
 .grind
 .rw [h.z i a b x f];simp [b]
theorem Md {b:Type} (f:b ->Int) (q:b ->Bool):∀l:List b,(∀x∈l,q x=false ->f x=0) ->(l.map f).sum=((l.filter q).map f).sum
 | [],_=>rfl
 | a::l,h=>by
  have c:=Md f q l λx g=>h x (gG _ g);rw [gA,hZ,hG,c]
  cases hq:q a with
  | true=>rw [ϱ Z,gA,hZ]
  | false=>rw [θ (by simp),h a fu hq,Int.zero_add]
theorem P0 (a:List eR) (x:eY) (l:List Int):C9 a x l=C9 (eX a) x l:=by grind [C9,rq,I9]
theorem Lu.over (h:Lu c s) (a:x∈s.ro) (l:List Int):C9 c.it x l=C9 s.it x l:=by
 rw [P0 c.it,P0 s.it,<-h.sort];unfold C9
 congr 1
 rw [List.filter_filter,Md (λi=>Be i x.r) (λi=>decide (i∈s.it)) ((eX c.it).filter _) λi f b=>?_,List.filter_filter]
 .refine fL (λz:List eR=>(z.map λi=>Be i x.r).sum) (iD λi _=>Bool.and_comm _ _)
 .exact h.z i ((I9 c.it).mem_iff.1 (Γ.1 f).1) (of_decide_eq_false b) x a
theorem Lu.itm (h:Lu c s) {id:Int} (b:id∈s.it.map eR.id):eo c id=eo s id:=by
 obtain ⟨i,_,l,g⟩:=GL b;have f:eo s id∈c.it:=h.it _ (by rw [l];exact ξ i);obtain ⟨a,_,k,j⟩:=GL (p:=c) (id:=id) (κ.2 ⟨_,f,g⟩);exact IU (XT (HX h.hp).2.1) (by rw [k];exact ξ a) f (by rw [j,g])
theorem Tz {i m:Int} {q:List Int} (h:m∈iU i q):m∈q:=by grind [iU,List.takeWhile_sublist]
theorem ar {r:AM} {y:Int} (h:y∈ez (eX a) r):y∈a.map eR.id:=by grind [ez,I9]
theorem kH {l m:List Int} (h:∀i∈a,i.id∈l↔i.id∈m):C9 a x l=C9 a x m:=by grind [C9,iD]
theorem Lu.down (h:Lu c s) {l m:List Int} (f:∀y,y∈m↔y∈l/\y∈s.it.map eR.id) (o:F8 c l):F8 s m:=by
 obtain ⟨f1,f2⟩:=GP.1 o;refine GP.2 ⟨λid g=>?_,λx b=>?_⟩
 .obtain ⟨j,i⟩:=(f id).1 g;refine ⟨λx b y a=>(f y).2 ⟨(f1 id j).1 x (h.ro x b) y (by rw [h.q b];exact a),ar (Tz a)⟩,λy a=>(f y).2 ⟨(f1 id j).2 y (by rw [h.itm i];exact a),?_⟩⟩;obtain ⟨k,_,r,_⟩:=GL i;exact I3 (HX h.hs).2.2 _ (by rw [r];exact ξ k) y a
 .have:=f2 x (h.ro x b);rw [h.over b] at this
  grind [kH]
theorem Me:∀{l U:List Int},l.Nodup ->(∀x∈l,x∈U) ->l.length<=U.length
 | [],U,_,_=>υ _
 | a::l,U,b,f=>by
  rw [i5] at b;have g:=f a fu;have k:(U.erase a).length=U.length - 1:=List.length_erase_of_mem g;have j:=List.length_pos_of_mem g;have i:=Me (U:=U.erase a) b.2 λx c=>(List.mem_erase_of_ne (λh=>b.1 (by rw [<-h];exact c))).2 (f x (gG _ c));rw [i3];omega
theorem Sp {l m:List Int} (c:l.Nodup) (b:m.Nodup) (h:∀y,y∈l↔y∈m):l.length=m.length:=
 Nat.le_antisymm (Me c λy a=>(h y).1 a) (Me b λy a=>(h y).2 a)
end Go.Proofs.YteifpcnphnhaoaaGreat
namespace Go.Proofs.YteifpcnphnhaoaaGreat
open Go.RowKit Go.Shelf
variable {a:ee} {C c S f:List Int} {g:eR}
theorem pj (k:g∈a.it) (h:g.id∈S):∃j,j<(ek a S).length/\Cw (ek a S) j=g:=by
 have f:g∈(ek a S).map Prod.fst:=by
  grind [EP,I9]
 obtain ⟨e,i,rfl⟩:=κ.1 f;obtain ⟨j,c,rfl⟩:=iL.1 i;exact ⟨j,c,CX c⟩
theorem OH (B:A6 a=0) (y:f∈ey (er a) (ek a S)) {h:eR} (A:h∈a.it) (z:g∈a.it) (F:h.id∈f) (E:g.id∈S) (D:HZ (er a) h g):g.id∈f:=by
 obtain ⟨d,x,rfl⟩:=κ.1 y;obtain ⟨k,G,_,rfl⟩:=eE.1 x;obtain ⟨i,w,e⟩:=κ.1 F;obtain ⟨u,t⟩:=Γ.1 w;have r:=Θ.1 u;have o:=VR r;rw [EP,Γ] at o;have s:=IU (XT (HX B).2.1) ((I9 a.it).mem_iff.1 o.1) A e;obtain ⟨j,v,l⟩:=pj z E;have C:Cn (er a) (ek a S) i j:=Rh.one (Cq.2 ⟨r,v,by rw [s,l];exact D⟩);exact κ.2 ⟨j,Γ.2 ⟨Θ.2 v,T5 ((U0.1 t).trans C)⟩,by rw [l]⟩
theorem YC (h:A6 a=0) (r:∀c∈a.it,∀b∈a.it,c.id∈C ->HZ (er a) c b ->b.id∈C):Lu a (ei a C):=by
 have w:=qn (HX h).2.1
 have z:∀j∈a.it,j.id∈C ->EZ C j=j:=λj g u=>by
  have:MK C j.af=j.af:=by
   rw [oo];refine List.filter_eq_self.2 λx f=>?_;obtain ⟨b,v,rfl⟩:=κ.1 (I3 (HX h).2.2 j g x f);exact Υ (r j g b v u (.inl f))
  unfold EZ;rw [this]
 refine ⟨h,IL h C,λx f=>(Γ.1 f).1,λi l=>?_,λi l y x f=>?_⟩
 .obtain ⟨j,g,rfl⟩:=κ.1 l
  grind
 .obtain ⟨o,k⟩:=Γ.1 f;obtain ⟨j,g,t,s⟩:=U0.1 k
  grind [er,OE,Mn,HZ,ei]
theorem kF {s:ee} (h:Lu a s) (z:∀x∈a.ro,∀i∈s.it,Be i x.r≠0 ->x∈s.ro) (w:∀y∈c,y∈s.it.map eR.id) (f:F8 s c):F8 a c:=by
 obtain ⟨f1,f2⟩:=GP.1 f
 have t:∀i∈a.it,i.id∈c ->i∈s.it:=λi r k=>by
  obtain ⟨j,A,e⟩:=κ.1 (w _ k)
  rwa [<-IU (XT (HX h.hp).2.1) (h.it j A) r e]
 refine GP.2 ⟨λid g=>⟨λx v y o=>?_,λy o=>(f1 id g).2 y (by rw [<-h.itm (w id g)];exact o)⟩,λx v=>?_⟩
 .obtain ⟨i,r,e⟩:=κ.1 (qL o);obtain ⟨C,B⟩:=Γ.1 r;have u:=t i ((I9 a.it).mem_iff.1 C) (by rw [e];exact g);have b:=z x v i u (by have:=hJ B;omega);rw [h.q b] at o
  grind
 .by_cases b:x∈s.ro
  .rw [h.over b];exact f2 x b
  .exact J5 λi r k=>by
    grind
theorem ac (f:A6 a=0) (C:List Int):∀x∈a.ro,∀i∈(ei a C).it,Be i x.r≠0 ->x∈(ei a C).ro:=λx b i c h=>Γ.2 ⟨b,T5 ((Z8 f b).2 ⟨i,c,h⟩)⟩
theorem EG {y:Int}:y∈(ei a C).it.map eR.id↔y∈a.it.map eR.id/\y∈C:=by
 rw [Kd,Γ,gR]
theorem NY (g:A6 a=0) (o:CG a) (k:CG (ei a C)) (s:∀c∈a.it,∀b∈a.it,c.id∈C ->HZ (er a) c b ->b.id∈C) (y:Int):y∈eU (ei a C)↔y∈eU a/\y∈C:=by
 have h:=YC g s
 constructor
 .intro j;have i:=λz (f:z∈eU (ei a C))=>mG h.hs f;exact ⟨Kw g o (kF h (ac g C) i (Ix h.hs k)) (λz f=>(EG.1 (i z f)).1) y j,(EG.1 (i y j)).2⟩
 .rintro ⟨r,t⟩;have d:=h.down (l:=eU a) (m:=(eU a).filter λy=>decide (y∈(ei a C).it.map eR.id)) (λy=>by rw [Γ,gR]) (Ix g o);exact Kw h.hs k d (λz f=>hJ (Γ.1 f).2) y (Γ.2 ⟨r,Υ (EG.2 ⟨mG g r,t⟩)⟩)
theorem Y5 (k:A6 a=0) (K:CG a) (J:CG (ei a C)) (A:∀y∈C,y∈eU a) (G:∀c∈a.it,∀b∈a.it,c.id∈C ->b.id∈eU a ->HZ (er a) c b ->b.id∈C):∀y,y∈eU (ei a C)↔y∈C:=by
 have g:=IL k C;have E:=qn (HX k).2.1;obtain ⟨f1,f2⟩:=GP.1 (Ix k K)
 have t:F8 (ei a C) C:=by
  refine GP.2 ⟨λid o=>⟨λx D y f=>(EG.1 (ar (Tz f))).2,λy f=>?_⟩,λx D=>?_⟩
  .obtain ⟨s,_⟩:=Yc (EG.2 ⟨mG k (A id o),o⟩);exact (EG.1 (I3 (HX g).2.2 _ s y f)).2
  .obtain ⟨l,u⟩:=Γ.1 D;obtain ⟨j,I,w,v⟩:=U0.1 u;have F:x.r∈er a:=ie l;have N:=f2 x l
   have e:C9 (ei a C).it x C=C9 a.it x (eU a):=by
    unfold C9
    congr 1
    rw [Md (λi=>Be i x.r) (λi=>decide (i.id∈C)) (a.it.filter _) λi r H=>?_,List.filter_filter]
    .unfold ei;show ((List.filter _ (List.map _ _)).map _).sum=_;rw [List.filter_map,fS,List.filter_filter]
     have O:a.it.filter (λc=>((λi:eR=>decide (i.id∈C))∘EZ C) c && decide (c.id∈C))=a.it.filter λc=>decide (c.id∈C) && decide (c.id∈eU a):=iD λi r=>by
      show (decide (i.id∈C) && decide (i.id∈C))=_
      by_cases h:i.id∈C
      .rw [Υ h,Υ (A _ h)]
      .rw [fb h];rfl
     rw [O]
     congr 1
     exact fi λi r=>JF C (E i (Γ.1 r).1) x.r
    .obtain ⟨s,M⟩:=Γ.1 r;refine Classical.byContradiction λL=>of_decide_eq_false H (G j I i s w (hJ M) (.inr (.inr ⟨_,v,(OE (E i s) F (Mn k _ F)).2 L⟩)))
   rw [e];exact N
 exact λy=>⟨λf=>(EG.1 (mG g f)).2,λf=>Kw g J t (λz B=>EG.2 ⟨mG k (A z B),B⟩) y f⟩
theorem Yz {n:Nat} {C:Nat ->Nat ->Prop} (r:∀i,C i i) (o:∀i j,C i j ->C j i) (l:∀i j k,C i j ->C j k ->C i k):(fg n C).flatten.Perm (List.range n):=by
 refine (jT ?_ List.nodup_range).2 λx=>?_
 .rw [List.Nodup,List.pairwise_flatten];refine ⟨λc g=>?_,(LM o l).imp λ{a b} h x f y s e=>h x f y s (by rw [e];exact r y)⟩;obtain ⟨k,_,_,rfl⟩:=eE.1 g;exact (List.Pairwise.sublist gE iz).imp λh e=>by omega
 .rw [List.mem_flatten,Θ]
  constructor
  .rintro ⟨c,g,f⟩;obtain ⟨k,_,_,rfl⟩:=eE.1 g
   grind
  .intro f;obtain ⟨k,t,v,u⟩:=WO r l x f;exact ⟨_,eE.2 ⟨k,t,v,Z⟩,by rw [Γ,Θ,U0];exact ⟨f,o _ _ u⟩⟩
theorem Nc (E:List (eR×Nat)):Cc E (List.range E.length)=(E.map Prod.fst).map eR.id:=by
 unfold Cc;refine gu (by simp) λi b a=>?_
 grind [CX]
theorem Yw (p:ee) (S:List Int):(ey (er p) (ek p S)).flatten.Perm (((eX p.it).map eR.id).filter λx=>decide (x∈S)):=by
 have b:(ey (er p) (ek p S)).flatten=Cc (ek p S) (fg (ek p S).length (Cn (er p) (ek p S))).flatten:=by
  unfold ey Cc;rw [List.map_flatten]
 have a:=(Yz (n:=(ek p S).length) (C:=Cn (er p) (ek p S)) (λi=> .refl i) (λi j h=>h.symm) (λi j k h a=>Rh.trans h a)).map λk=>(Cw (ek p S) k).id;rw [b];refine a.trans ?_;rw [show List.map (λk=>(Cw (ek p S) k).id) (List.range (ek p S).length)=Cc (ek p S) (List.range (ek p S).length) from rfl,Nc,EP,List.filter_map];exact List.Perm.refl _
theorem dX (g:A6 a=0) (v:CG a) {S:List Int} (t:∀y∈a.it.map eR.id,y∈S) (u:∀c∈ey (er a) (ek a S),CG (ei a c)) (o:S.Nodup) (i:∀y∈S,y∈a.it.map eR.id):
  ((ey (er a) (ek a S)).map λc=>(eU (ei a c)).length).sum=(eU a).length:=by
 have r:∀c∈ey (er a) (ek a S),(eU (ei a c)).length=(c.filter λy=>decide (y∈eU a)).length:=λc h=>by
  have l:∀f∈a.it,∀b∈a.it,f.id∈c ->HZ (er a) f b ->b.id∈c:=λf s b k w j=>OH g h s k w (t _ (ie k)) j;refine Sp (qW (IL g c)) (List.Nodup.sublist gE ((MG g o i).el c h).1) λy=>?_;rw [NY g v (u c h) l,Γ,gR,and_comm]
 rw [fi r]
 have j:((ey (er a) (ek a S)).map λc=>(c.filter λy=>decide (y∈eU a)).length).sum=((ey (er a) (ek a S)).flatten.filter λy=>decide (y∈eU a)).length:=by
  rw [List.filter_flatten,List.length_flatten,fS];rfl
 rw [j,((Yw a S).filter _).length_eq];refine Sp (List.Nodup.sublist gE (List.Nodup.sublist gE (by have:=DW g;rwa [NC g] at this))) (qW g) λy=>?_
 grind [I9,mG]
theorem K7:∀{l m:List Int},m.Nodup ->l.Sublist m ->l=m.filter λx=>decide (x∈l)
 | _,_,_,.slnil=>rfl
 | l,b::m,c,.cons _ h=>by
  rw [i5] at c;rw [hG,θ (by simpa using λi=>c.1 (h.mem i))];exact K7 c.2 h
 | a::l,_::m,c,.cons_cons _ h=>by
  rw [i5] at c;rw [hG,ϱ (by simp)]
  congr 1
  conv=>lhs;rw [K7 c.2 h]
  refine iD λx g=>decide_eq_decide.2 ⟨λh=>gG _ h,λf=>?_⟩;rcases fP.1 f with rfl | f
  .exact absurd g c.1
  .exact f
theorem Xp (b:A6 a=0) (S:List Int):(eX (ei a S).it).map eR.id=((eX a.it).map eR.id).filter λx=>decide (x∈S):=by
 have c:((eX a.it).filter λi=>decide (i.id∈S)).map (EZ S)=eX (ei a S).it:=by
  refine Q3 (DI (HX (IL b S)).2.1) (((I9 a.it).filter _).map _) ?_;rw [fz];exact (List.Pairwise.sublist gE (E6 a.it)).imp λh=>h
 rw [<-c,fS,List.filter_map];rfl
theorem VN (i:A6 a=0) (B:CG a) (o:f∈ey (er a) (ek a (eU a))) (A:CG (ei a f)):eU (ei a f)=f:=by
 have j:=IL i f;have s:=MG i (qW i) λy l=>mG i l;have t:=Y5 i B A (λy l=>((s.el f o).2.2 y l).1) λg w b v r D C=>OH i o w v r D C;have z:((eX a.it).map eR.id).Nodup:=by have:=DW i;rwa [NC i] at this
 have r:f=((eX a.it).map eR.id).filter λx=>decide (x∈f):=by
  refine K7 z ?_;obtain ⟨d,u,rfl⟩:=κ.1 o;obtain ⟨k,E,_,rfl⟩:=eE.1 u;refine List.Sublist.trans (List.filter_sublist.map _) ?_;have:=Nc (ek a (eU a));unfold Cc at this;rw [this,EP];exact List.filter_sublist.map _
 rw [Gg j,NC j,Xp i f,List.filter_filter]
 conv=>rhs;rw [r]
 exact iD λx _=>by
  by_cases h:x∈f
  .rw [Υ h,Υ ((t x).2 h)];rfl
  .rw [fb h,Bool.and_false]
theorem uM {a:Int} (b:c.Nodup) (h:a∈c):c.count a=1:=by grind
end Go.Proofs.YteifpcnphnhaoaaGreat
namespace Go.Proofs.YteifpcnphnhaoaaGreat
open Go.ChangeShapes Go.WideShapes Go.ChangeAt Go.RowKit
section
variable {H:Type} {enc:TypeId×Value ->H} {w:World}
abbrev tt {α:Type}:α ->Prop:=λ_=>True
theorem oI:Bw enc prog w 3 1 AF tt:=(WV underlying3).asQ id (λ_ _=>rfl) (λ_ _=>trivial)
theorem oJ:Bw enc prog w 2 1 AF tt:=(WV underlying2).asQ id (λ_ _=>rfl) (λ_ _=>trivial)
theorem oS:Bw enc prog w 9 1 Aj tt:=(bR underlying9).asQ id (λ_ _=>rfl) (λ_ _=>trivial)
theorem ug:Bw enc prog w 28 1 (λl:List Int=> .sl none (l.map AF)) tt:=(ND E0 (by kernel_rfl) (by omega) (b:=8) (by kernel_rfl) oI).asQ id (λ_ _=>rfl) (λ_ _=>trivial)
theorem sP:Bw enc prog w 96 3 uQ tt:=
 (Iq underlying96 (by kernel_rfl) (Bj Z (by kernel_rfl) oS (Bj Z (by kernel_rfl) oI (Bj Z (by kernel_rfl) oS Ir)))).asQ (λa=>(⟨a.1,a.2.1,a.2.2.1⟩:US)) (λ_ _=>rfl) (λ_ _=>trivial)
theorem sO:Bw enc prog w 192 4 CF tt:=
 (Iq underlying192 (by kernel_rfl) (Bj Z (by kernel_rfl) sP (Bj Z (by kernel_rfl) oJ Ir))).asQ (λa=>(⟨a.1,a.2.1⟩:FP)) (λ_ _=>rfl) (λ_ _=>trivial)
theorem tv:Bw enc prog w 193 3 Fk tt:=
 (Iq underlying193 (by kernel_rfl) (Bj Z (by kernel_rfl) oS (Bj Z (by kernel_rfl) oS (Bj Z (by kernel_rfl) oJ Ir)))).asQ (λa=>(⟨a.1,a.2.1,a.2.2.1⟩:O6)) (λ_ _=>rfl) (λ_ _=>trivial)
theorem tq:Bw enc prog w 98 6 CC tt:=
 (Iq underlying98 (by kernel_rfl) (Bj Z (by kernel_rfl) oI (Bj Z (by kernel_rfl) sP (Bj Z (by kernel_rfl) oS (Bj Z (by kernel_rfl) oS Ir))))).asQ (λa=>(⟨a.1,a.2.1,a.2.2.1,a.2.2.2.1⟩:AM)) (λ_ _=>rfl) (λ_ _=>trivial)
theorem tw:Bw enc prog w 93 6 Af tt:=
 (Iq underlying93 (by kernel_rfl) (Bj Z (by kernel_rfl) oI (Bj Z (by kernel_rfl) oI (Bj Z (by kernel_rfl) oI
  (Bj Z (by kernel_rfl) (ND underlying90 (by kernel_rfl) (by omega) (b:=48) (by kernel_rfl) sO)
  (Bj Z (by kernel_rfl) (ND underlying91 (by kernel_rfl) (by omega) (b:=40) (by kernel_rfl) tv) (Bj Z (by kernel_rfl) ug Ir))))))).asQ
  (λa=>(⟨a.1,a.2.1,a.2.2.1,a.2.2.2.1,a.2.2.2.2.1,a.2.2.2.2.2.1⟩:eR)) (λ_ _=>rfl) (λ_ _=>trivial)
theorem tr:Bw enc prog w 100 7 Bt tt:=
 (Iq underlying100 (by kernel_rfl) (Bj Z (by kernel_rfl) tq (Bj Z (by kernel_rfl) oJ Ir))).asQ (λa=>(⟨a.1,a.2.1⟩:eY)) (λ_ _=>rfl) (λ_ _=>trivial)
theorem tu:Bw enc prog w 25 2 Bf tt:=
 (Iq underlying25 (by kernel_rfl) (Bj Z (by kernel_rfl) (ND underlying22 (by kernel_rfl) (by omega) (b:=88) (by kernel_rfl) tr) (Bj Z (by kernel_rfl) (ND an (by kernel_rfl) (by omega) (b:=96) (by kernel_rfl) tw) Ir))).asQ
  (λa=>(⟨a.1,a.2.1⟩:ee)) (λ_ _=>rfl) (λ_ _=>trivial)
end
end Go.Proofs.YteifpcnphnhaoaaGreat
