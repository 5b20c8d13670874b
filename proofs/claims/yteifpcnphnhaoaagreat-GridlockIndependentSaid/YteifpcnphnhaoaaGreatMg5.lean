import Derived.Test.YteifpcnphnhaoaaGreatMg4
import Derived.Deep.AppendSrc
namespace Go.Proofs.YteifpcnphnhaoaaGreat
open Go.RowKit
theorem Ml {P:Program} (w:World) (t J Q e:TypeId) (o bytes:Nat) (T:fB P t e o bytes) (v:Value) (n:Nat) (xs:List Value) (c:w.ownsRow 0 e o v n xs)
  (x:Value) (m:Nat) (a:List Value) (E:Src P o J x m a w) (s:(n+m)*bytes<=140737488355328):
  ∃O X,(Builtin.append_ #[t,J] Q #[v,x]).run P w= .ok O X/\X.ownsRow 0 e o O (n+m) (xs++a)/\w.grownBy X v.ownBlock/\(O.ownBlock=v.ownBlock\/O.ownBlock=some w.heap.size):=by
 obtain ⟨i,z,V,hz,D,hby,Y⟩:=T.info;have R:=T.ht;have hsz:=T.pos;have hbp:=T.pos';subst D hby
 have N:n+m<=maxLen:=by
  have:(n+m)*1<=(n+m)*i.bytes:=Nat.mul_le_mul_left _ hbp;unfold maxLen;omega
 have S:n+m<=9223372036854775807:=by simp only [maxLen] at N;omega
 have U:=E.newsLen;have r:(xs++a).length=(n+m)*i.size:=by rw [Δ,c.1,U,i4]
 have B:∀(f:Nat),f<n+m ->∀(K:Option Nat),
   (w.drew.alloc (.cells ((xs++a).toArray++Builtin.zeroCells z.cells (grownCap w (n+m) f e - (n+m))) e)).ownsRow 0 e i.size
    (.slice (some ⟨w.heap.size,0,none⟩) (n+m) (grownCap w (n+m) f e)) (n+m) (xs++a)/\
   w.grownBy (w.drew.alloc (.cells ((xs++a).toArray++Builtin.zeroCells z.cells (grownCap w (n+m) f e - (n+m))) e)) K:=by
  intro f ho K;have hge:=grownCap_ge w (n+m) f e;have H:grownCap w (n+m) f e<=maxLen:=grownCap_le_maxLen w (n+m) f e N;refine ⟨⟨r,.inr ⟨w.heap.size,_,_,Z,υ _,heap_alloc_new w.drew _,hge,H,?_,?_⟩⟩,⟨Z,Z,Z,by simp,λk I _=>Below.heap_alloc w.drew _ k I⟩⟩
  .simp only [Array.size_append,List.size_toArray,size_zeroCells,Y,r,<-i4]
   congr 1
   omega
  .simp only [Array.toList_append];rw [<-r];exact List.take_left
 rcases c.2 with ⟨rfl,rfl⟩ | ⟨g,l,A,rfl,hbg,hg,hnc,H,M,C⟩
 .have hx:xs=[]:=ij (by simpa using c.1);subst hx
  by_cases hm:m=0
  .subst hm;have hn:a=[]:=ij (by simpa using U);subst hn;refine ⟨.slice none 0 0,w,?_,World.ownsRow_nil w 0 e i.size,⟨Z,Z,Z,ϖ _,λ_ _ _=>rfl⟩,.inl Z⟩;have hc:=E.cells;rcases E.kind with ⟨e',I⟩ | I<;>simp [Builtin.append_,run_underlying R,run_underlying I,sizeOf,typeInfo,V,E.len,hc]
  .have F:=run_append_grow_src (P:=P) w t J Q e i z R V hz none 0 0 [] (run_firstCells_none w.drew i.size 0 0 0) x m a E (by omega) (by omega) (growslice_fits (by omega) s);have y:=B 0 (by omega) (Value.ownBlock (.slice none 0 0));simp only [gf,List.nil_append] at F y⊢;exact ⟨_,_,F,y.1,y.2,.inr Z⟩
 .by_cases h:n+m<=l
  .have L:n*i.size+a.length<=A.size:=by rw [U,M,<-i4];exact gz _ h
   have hg':w.heap[g]? =some (.cells A.toList.toArray e (0,0)):=by simpa using hg
   have F:=run_append_room_src (P:=P) w t J Q e i R V g 0 n l x m a E h (λj hj=>by
    rw [cell_of_row w g _ A e (0,0) hg];simp;omega) (λj hj=>by simp [World.frozen?,hg])
   rw [gf] at F;obtain ⟨g1,g2,g3,g4⟩:=qo (b:=g) a (n*i.size) w;refine ⟨_,_,F,⟨r,.inr ⟨g,l,_,Z,hbg,qp _ _ _ _ hg',h,H,by simp [ZV,M],?_⟩⟩,⟨g1,g2,g3,Nat.le_of_eq g4.symm,λk _ I=>qq _ _ _ _ λe=>I (by simp [Value.ownBlock,e])⟩,.inl Z⟩;show (FT A.toList (n*i.size) a).take ((n+m)*i.size)=xs++a;rw [i4,<-U,K9 _ _ _ _ (ϖ _) (by simpa using L)]
   apply i8
   intro j;rw [Ch a (A.toList.take (n*i.size+a.length)) (n*i.size) (by have:=ib (xs:=A);rw [Ξ];omega) j,List.getElem?_append,ia,c.1]
   by_cases W:j<n*i.size
   .rw [θ (by omega),ϱ (by omega),ϱ W,<-C,ia,ϱ W]
   .by_cases h2:j<n*i.size+a.length
    .rw [ϱ ⟨by omega,h2⟩,θ W]
    .have h3:a.length<=j - n*i.size:=by omega
     rw [θ (λhh=>h2 hh.2),θ h2,θ W,iM h3]
  .have G:∀j u,xs[j]? =some u ->w.cell? ((⟨g,0,none⟩:Addr).add j)=some u:=c.cells (g:=g) rfl;have F:=run_append_grow_src (P:=P) w t J Q e i z R V hz (some ⟨g,0,none⟩) n l xs (run_firstCells_some w.drew i.size n ⟨g,0,none⟩ n l xs c.1 (by simpa using G)) x m a E (by omega) (by omega) (growslice_fits (by omega) s);have y:=B l (by omega) (Value.ownBlock (.slice (some ⟨g,0,none⟩) n l));exact ⟨_,_,F,y.1,y.2,.inr Z⟩
theorem Hw {a:Option Addr} {n c:Nat}:B6 (.slice a n c)=(Value.slice a n c).ownBlock:=by cases a<;>rfl
section
variable {P:Program} {F:Fr} {s:AS} {d:Nat} {ty T T2 E:TypeId} {pos:String} {aft:Array Edge} {g:Option (Nat×Bool)} {x y:Operand} {k:IntKind} {i:Int}
variable {a:List (Nat×AV)} {c f:List (Nat×List AI)} {h j:List D} {o t u w z:Nat}
theorem Lh {N:Nat ->Nat ->Value} {H:Act} {r:World} (hs:SR F s N H r) {zs:List D} (hx:s.ev x=some (.own u w z)) (ho:dr s.hp u w=some (.rowD E o h)) (hn:z<=h.length)
  (S:fB P T E o t) {I:List Value} (X:Src P o T2 (H.eval y) j.length I r) (M:FQ D.cells o (AN r (F.O N s.hp)) j I) (Z:∀l∈j,∀C∈l.cells,C.one=true) (K:(z+j.length)*t<=140737488355328)
  (hE:AX u s.env=some a) (hH:AT u s.hp=some f) (hz:h.take z++j=zs) (hh:BL f u w (.rowD E o zs)=some c):
  ∃U R,(Builtin.append_ #[T,T2] ty #[H.eval x,H.eval y]).run P r= .ok U R/\SR F ⟨s.n,a,c⟩ (upd N u w U) H R/\∀r O,AR r O (upd N u w U) (.own u w (z+j.length)) U:=by
 have B:=hs.ev hx
 generalize hv:H.eval x=v at B
 obtain ⟨us,G,cap,e1,h1,h2,h3,h4,h5⟩:=hs.rowD ho
 cases B with
 | own W hn'=>
  rw [e1] at W;injection W with e2 e3 e4
  subst e2 e3 e4;obtain ⟨U,R,r1,r2,V,Q⟩:=Ml (P:=P) r T T2 ty E o t S _ z _ (Q1 h1 hn) (H.eval y) j.length I X K;obtain ⟨a',cap',e5,q1,q2,q3,q4⟩:=Gb r2;subst e5;have hzl:zs.length=z+j.length:=by rw [<-hz,Δ,Ξ];omega
  refine ⟨_,R,r1,?_,λr O=> .own Oq (ϖ _)⟩;refine hs.set u w (.rowD E o zs) _ hE hH (Ai hh) (λA cs e=>by rw [ho] at e;cases e) (λb K=>?_) V.os V.tape V.output V.size (λb hlt hne=>V.block b hlt λe=>hne ⟨⟨_,ho⟩,?_⟩) (λY=>?_) (Xx r1)
  .rw [Hw] at K;rcases Q with Q | Q
   .left
    refine ⟨⟨_,ho⟩,?_⟩;rw [e1,Hw,<-K,Q]
    cases G<;>rfl
   .right
    rw [Q] at K;injection K with K
    subst K;have:=(World.ownsRow.lt r2 r.heap.size Q).2;omega
  .rw [e1,Hw]
   cases G with
   | none=>simp [Value.ownBlock] at e
   | some G=>exact e.symm
  .have L:∀C v,AN r (F.O N s.hp) C v ->AN R (F.O (upd N u w (.slice a' (z+j.length) cap')) c) C v:=λC v hr=>by
    have:=Y (.d C) v (λi B=>by cases B) (.d hr)
    cases this with | d B=>exact B
   refine ⟨us.take (z*o)++I,by rw [hzl];exact r2,?_,λl J C hc=>?_⟩
   .rw [<-hz];exact ((h2.take z hn).append M).mono λx _ C _ v hu=>L C v hu
   .rw [<-hz] at J;rcases ν.1 J with J | J
    .exact h3 l (gk J) C hc
    .exact Z l J C hc
theorem Ug {m:Nat} {V:Option Bool} {zs:List D} (U:s.ev x=some (.own u w z)) (hy:s.ev y=some (.d (.sl V j))) (ho:dr s.hp u w=some (.rowD E o h)) (hn:z<=h.length)
  (S:fB P T E o t) (hk:∀b∈j,b.cells.length=o) (hm:j.length=m) (hb:(z+m)*t<=140737488355328) (hE:AX u s.env=some a) (hH:AT u s.hp=some f) (hz:h.take z++j=zs) (hh:BL f u w (.rowD E o zs)=some c) (hd:Nat.blt d s.n=true):
  AH P F ⟨some d,.call {callee:= .builtin .append,args:= #[x,y],argTypes:= #[T,T]},ty,pos,aft,g⟩ s ⟨s.n,(d,.own u w (z+m))::a,c⟩ (B2 u):=λρ R r hs=>by
 subst hm;have W:=hs.repD hy;obtain ⟨C,Q,e,_⟩:=W.sl_len;rw [e] at W;obtain ⟨G,O,g2,g3,_⟩:=W.lies hk
 have M:∀v∈G,v.oneCell'=true:=λv K=>by
  obtain ⟨q,hq,rfl⟩:=gF K;have X:q<j.length*o:=by rw [<-g2.1];exact hq
  have N:0<o:=S.pos;have hi:q / o<j.length:=(Nat.div_lt_iff_lt_mul N).2 X;obtain ⟨x,U⟩:=List.getElem?_some_of_lt hi;obtain ⟨B,hc⟩:=List.getElem?_some_of_lt (l:=x.cells) (i:=q % o) (by rw [hk x (ϑ U)];exact Nat.mod_lt _ N);obtain ⟨v,I,Z,_⟩:=g2.2.2 _ x U _ B hc;rw [show q / o*o+q % o=q by rw [ig];exact Nat.div_add_mod q o,ω hq] at I;injection I with I;rw [I];exact Z
 have L:Src P o T (R.eval y) j.length G r:=by
  rw [e]
  cases C with
  | none=>
   have H:j.length=0:=by
    rcases Nat.eq_zero_or_pos j.length with H | H
    .exact H
    .obtain ⟨_,I,_⟩:=O.2 H;cases I
   have J:G=[]:=ij (by rw [O.1,H,Nat.zero_mul]);rw [H,J];exact Src.ofNil r S.ht Q
  | some ad=>
   refine Src.ofSlice r S.ht ad j.length Q G O.1 (λw v K=>?_) M
   have H:0<j.length:=by
    rcases Nat.eq_zero_or_pos j.length with H | H
    .have J:G=[]:=ij (by rw [O.1,H,Nat.zero_mul]);rw [J] at K;simp at K
    .exact H
   obtain ⟨ad',I,_,Z⟩:=O.2 H;injection I with I;subst I
   exact Z w v K
 obtain ⟨v',w',r1,r2,r3⟩:=Lh (ty:=ty) hs U ho hn S L g2 g3 hb hE hH hz hh
 have Y:(execOp R.eval ⟨some d,.call {callee:= .builtin .append,args:= #[x,y],argTypes:= #[T,T]},ty,pos,aft,g⟩).run P r= .ok (.value v') w':=by
  simp [execOp,resolve,invoke,builtin,r1]
 unfold Oper.wp;rw [Y];exact ⟨_,r2.put (IB hd) (r3 _ _),λu i A=>MX λe=>RU A e.1⟩
theorem G4 {f2 j2 m:Nat} {H zs:List D} (Y:s.ev x=some (.own u w z)) (hy:s.ev y=some (.own f2 j2 m)) (ho:dr s.hp u w=some (.rowD E o h)) (hn:z<=h.length)
  (ho2:dr s.hp f2 j2=some (.rowD E o H)) (K:H.take m=j) (hm:m<=H.length)
  (S:fB P T E o t) (hb:(z+m)*t<=140737488355328) (hE:AX u s.env=some a) (hH:AT u s.hp=some f) (hz:h.take z++j=zs) (hh:BL f u w (.rowD E o zs)=some c) (hd:Nat.blt d s.n=true):
  AH P F ⟨some d,.call {callee:= .builtin .append,args:= #[x,y],argTypes:= #[T,T]},ty,pos,aft,g⟩ s ⟨s.n,(d,.own u w (z+m))::a,c⟩ (B2 u):=λρ M v Z=>by
 have B:=Z.ev hy
 generalize hv:M.eval y=A at B
 obtain ⟨X,G,L,e1,W,h2,h3,h4,h5⟩:=Z.rowD ho2;have I:j.length=m:=by rw [<-K,Ξ];omega
 have N:=h2.take m hm;rw [K] at N
 have U:∀A∈X.take (m*o),A.oneCell'=true:=λA J=>by
  obtain ⟨q,hq,rfl⟩:=gF J;have hq':q<j.length*o:=by rw [<-N.1];exact hq
  have V:0<o:=S.pos;have hi:q / o<j.length:=(Nat.div_lt_iff_lt_mul V).2 hq';obtain ⟨x,Y⟩:=List.getElem?_some_of_lt hi;obtain ⟨C,hc⟩:=List.getElem?_some_of_lt (l:=x.cells) (i:=q % o) (by rw [N.2.1 x (ϑ Y)];exact Nat.mod_lt _ V);obtain ⟨A,W,h2,_⟩:=N.2.2 _ x Y _ C hc;rw [show q / o*o+q % o=q by rw [ig];exact Nat.div_add_mod q o,ω hq] at W;injection W with W;rw [W];exact h2
 have R:Src P o T (M.eval y) j.length (X.take (m*o)) v:=by
  rw [hv,I]
  cases B with
  | own O hn'=>
   rw [e1] at O;injection O with e2 e3 e4
   subst e2 e3 e4;have hl:(X.take (m*o)).length=m*o:=by rw [N.1,I]
   rcases Nat.eq_zero_or_pos H.length with h0 | h0
   .have hm0:m=0:=by omega
    subst hm0;have hn0:X.take (0*o)=[]:=by simp
    rw [hn0]
    cases G with
    | none=>exact Src.ofNil v S.ht L
    | some ad=>exact Src.ofSlice v S.ht ad 0 L [] (by simp) (λw A J=>by simp at J) (by simp)
   .obtain ⟨b,rfl,cur,h6,h7,h8⟩:=h5 h0;refine Src.ofSlice v S.ht ⟨b,0,none⟩ m L _ hl (λw A J=>?_) U;rw [ia] at J
    split at J
    .rw [Addr.add_mid,gf];exact DT h6 h8 J
    .cases J
 rw [<-I] at hb;obtain ⟨v',w',r1,r2,r3⟩:=Lh (ty:=ty) Z Y ho hn S R N (λr Q C hc=>h3 r (by rw [<-K] at Q;exact gk Q) C hc) hb hE hH hz hh
 have hex:(execOp M.eval ⟨some d,.call {callee:= .builtin .append,args:= #[x,y],argTypes:= #[T,T]},ty,pos,aft,g⟩).run P v= .ok (.value v') w':=by
  simp [execOp,resolve,invoke,builtin,r1]
 unfold Oper.wp;rw [hex,<-I];exact ⟨_,r2.put (IB hd) (r3 _ _),λu i B=>MX λe=>RU B e.1⟩
theorem Fx {t:TypeId} {I:Operand} {K:IntKind} {G:Int} (l:Nat) (L:s.ev x=some (.own u w z)) (C:s.ev I=some (.d (.raw (.int K G)))) (Q:G=(l:Int)) (A:l<=h.length) (N:dr s.hp u w=some (.rowD t o h))
  (S:P.underlying T=some (.slice E)) (U:AW P E o=true) (R:Nat.blt d s.n=true):
  AA P F ⟨some d,.slice T x none (some I) none,ty,pos,aft,g⟩ s d (.own u w l):=
 Cd _ R λW D b B=>by
  have H:=B.ev L
  generalize M:D.eval x=c at H
  obtain ⟨X,a,r,J,h1,h2,Z,V,Y⟩:=B.rowD N
  cases H with
  | own v O=>
   rw [J] at v;injection v with e2 e3 e4
   subst e2 e3 e4;subst Q;refine ⟨.slice (if r=0 then a else a.map (·.add (0*o))) (l - 0) (r - 0),by simp only [execOp,M,gs,jA,B.raw C,Sem.run_bind,G8 S (ZW U) (fO A V.1),Result.andThen_ok,Sem.run_pure],?_⟩
   have:(if r=0 then a else a.map (·.add (0*o)))=a:=by
    split
    .rfl
    .cases a<;>simp [Addr.add]
   rw [this];exact .own J A
end
def J3 (s:AS):Nat ->List (Nat×Operand) ->Option (List D)
 | _,[]=>some []
 | i,(j,x)::r=>match Nat.beq i j with
  | false=>none
  | true=>match s.ev x with
   | some (.d v)=>match J3 s (i+1) r with
    | none=>none
    | some l=>some (v::l)
   | _=>none
def RB (k:Nat):List D ->Bool
 | []=>true
 | x::r=>(match x with | .tup _=>false | _=>true) && Nat.beq x.cells.length k && RB k r
theorem TY {k:Nat} {a:List D} (h:RB k a=true):∀x∈a,x.cells.length=k/\(∀b,x≠ .tup b):=by
 induction a with
 | nil=>simp
 | cons x r c=>
  simp only [RB,fV] at h
  grind [fx]
theorem AN.cellsOf {w:World} {O:Nat ->Prop} {x:D} {v:Value} (h:AN w O x v) (l:∀b,x≠ .tup b):
  v.cells.toList.length=x.cells.length/\(∀c∈x.cells,c.one=true)/\∀(q:Nat) c,x.cells[q]? =some c ->∃u,v.cells.toList[q]? =some u/\u.oneCell'=true/\AN w O c u:=by
 have one:∀{x:D} {v:Value},x.one=true ->AN w O x v ->v.cells.toList.length=x.cells.length/\(∀c∈x.cells,c.one=true)/\∀(q:Nat) c,x.cells[q]? =some c ->∃u,v.cells.toList[q]? =some u/\u.oneCell'=true/\AN w O c u:=λ{x v} r h=>by
  have o:=h.oneCell r;have a:v.cells.toList=[v]:=by cases v<;>first | rfl | cases o
  grind [D.cells_one]
 cases x with
 | agg b=>
  cases h with
  | @agg _ f k j s=>
   refine ⟨by simpa [Value.cells,D.cells] using k,j,λq c a=>?_⟩;have i:q<f.length:=by rw [k];exact (φ.1 a).1
   have g:=s q c f[q] a (ω i);exact ⟨f[q],by simp [Value.cells,i],g.oneCell (j c (ϑ a)),g⟩
 | tup b=>exact absurd Z (l b)
 | raw _=>exact one Z h
 | sl _ _=>exact one Z h
 | ptr _=>exact one Z h
 | fn _ _ _=>exact one Z h
theorem SJ {w:World} {O:Nat ->Prop} {ρ:Nat ->Nat ->Value} {E:TypeId} {k:Nat} {xs:List D} {r:Array Value} (l:xs.length<=maxLen) (a:r.size=xs.length*k)
  (h:∀(i:Nat) x,xs[i]? =some x ->x.cells.length=k/\(∀c∈x.cells,c.one=true)/\∀(q:Nat) c,x.cells[q]? =some c ->∃u,r[i*k+q]? =some u/\u.oneCell'=true/\AN (w.alloc (.cells r E)) O c u):
  Ae (w.alloc (.cells r E)) O ρ (.rowD E k xs) (.slice (some ⟨w.heap.size,0,none⟩) xs.length xs.length):=by
 refine ⟨r.toList,⟨by simpa using a,.inr ⟨w.heap.size,xs.length,r,Z,υ _,heap_alloc_new w _,ϖ _,l,a,by rw [<-a,<-ib,fw]⟩⟩,⟨by simpa using a,λx b=>?_,λi x b j c g=>?_⟩,λx b c g=>?_⟩
 .obtain ⟨i,f,rfl⟩:=gF b;exact (h i _ (ω f)).1
 .grind
 .obtain ⟨i,f,rfl⟩:=gF b;exact (h i _ (ω f)).2.1 c g
section
variable {P:Program} {F:Fr} {s:AS} {d:Nat} {ty T T2 E:TypeId} {pos:String} {aft:Array Edge} {g:Option (Nat×Bool)} {x y:Operand} {k:IntKind} {i:Int}
variable {a:List (Nat×AV)} {c f:List (Nat×List AI)}
theorem J2 {f:Nat ->Nat ->Value} {a:Act} {w:World} (o:SR F s f a w):∀(l:List (Nat×Operand)) (i:Nat) (b:List D),J3 s i l=some b→
  (l.map λp=>(p.1,a.eval p.2))=(((l.map λp=>a.eval p.2).zipIdx i).map λx=>(x.2,x.1))/\l.length=b.length/\∀(q:Nat) x,b[q]? =some x ->∃v,(l.map λp=>a.eval p.2)[q]? =some v/\AN w (F.O f s.hp) x v
 | [],_,b,h=>by simp only [J3,Option.some.injEq] at h;subst h;simp
 | (j,x)::r,i,b,h=>by
  simp only [J3] at h
  split at h
  .cases h
  .rename_i A
   have:=fx A;subst this
   split at h
   .rename_i v u
    split at h
    .cases h
    .rename_i t B
     injection h with h;subst h
     obtain ⟨H,G,C⟩:=J2 o r (i+1) t B;refine ⟨by simp [H],by simp [G],λq z c=>?_⟩
     cases q with
     | zero=>simp at c;subst c;exact ⟨_,by simp,o.repD u⟩
     | succ q=>exact C q z (by simpa using c)
   .cases h
theorem D6 (b:Nat) {l:List (Nat×Operand)} {n o by_:Nat} {xs:List D} (S:fB P T E o by_) (hp:J3 s 0 l=some xs) (hn:Nat.beq l.length n=true) (hk:RB o xs=true) (hb:Nat.ble (n*o) 16777216=true)
  (hE:AX b s.env=some a) (hH:AT b s.hp=some f) (hh:CP f b (.rowD E o xs)=some c) (hd:Nat.blt d s.n=true):
  AH P F ⟨some d,.buildSlice T n l.toArray,ty,pos,aft,g⟩ s ⟨s.n,(d,.own b 0 n)::a,c⟩ (B2 b):=λρ t w hs=>by
 have:=fx hn;subst this;obtain ⟨ti,z,h1,h2,h3,h4,h5⟩:=S.info;have hT:=S.ht;obtain ⟨a1,W,a3⟩:=J2 hs l 0 xs hp;have hbn:=Nat.le_of_ble_eq_true hb;have B:=TY hk
 have hcs:∀v∈l.map (λp=>t.eval p.2),v.cells.size=o:=λv hv=>by
  obtain ⟨q,hq,rfl⟩:=gF hv;rw [ψ] at hq;obtain ⟨x,I⟩:=List.getElem?_some_of_lt (l:=xs) (i:=q) (by omega);obtain ⟨v,A,G⟩:=a3 q x I;rw [ω (by simpa using hq)] at A;injection A with A
  rw [A];obtain ⟨V,b2⟩:=B x (ϑ I);rw [<-V,<-(G.cellsOf b2).1,ib]
 obtain ⟨r,R,r2,r3⟩:=Great.fill_dense S.pos (l.map λp=>t.eval p.2) 0 ((Array.range (l.length*o)).map ((if l.length*o=0 then #[] else z.cells)[· % (if l.length*o=0 then #[] else z.cells).size]!)) hcs (by simp)
 have K:(Instr.buildSlice T l.length (l.toArray.map λp=>(p.1,t.eval p.2))).run P w= .ok (.slice (some ⟨w.heap.size,0,none⟩) l.length l.length) (w.alloc (.cells r E)):=by
  have hl:(l.toArray.map λp=>(p.1,t.eval p.2)).toList=((l.map λp=>t.eval p.2).zipIdx 0).map λx=>(x.2,x.1):=by simpa using a1
  have C:¬(16777216<l.length*o):=by omega
  have J:=mN (P:=P) (T:=E) (n:=o) (by rw [h1];simp [h3]) w
  by_cases U:l.length*o=0
  .simp only [ϱ U] at R;simp only [Instr.buildSlice,Sem.run_bind,run_underlying hT w,Result.andThen_ok,J,θ C,ϱ U,Sem.run_pure,hl,R,newRow,newObj,Sem.run,World.alloc_eq]
  .simp only [θ U] at R;have X:(zeroValue E).run P w= .ok z w:=by simp [zeroValue,typeInfo,h1,h2]
   simp only [Instr.buildSlice,Sem.run_bind,run_underlying hT w,Result.andThen_ok,J,θ C,θ U,Sem.run_pure,hl,R,newRow,newObj,Sem.run,World.alloc_eq,X]
 have hex:(execOp t.eval ⟨some d,.buildSlice T l.length l.toArray,ty,pos,aft,g⟩).run P w= .ok (.value (.slice (some ⟨w.heap.size,0,none⟩) l.length l.length)) (w.alloc (.cells r E)):=by
  simp only [execOp,Sem.run_bind];have:(l.toArray.map λ(x:Nat×Operand)=>match x with | (i,x)=>(i,t.eval x))=(l.toArray.map λp=>(p.1,t.eval p.2)):=rfl;rw [this,K];rfl
 unfold Oper.wp;rw [hex];have H:r.size=xs.length*o:=by rw [r2,<-W];simp
 have Q:xs.length<=maxLen:=by
  have:xs.length*1<=xs.length*o:=Nat.mul_le_mul_left _ S.pos;unfold maxLen;rw [<-W] at this⊢;omega
 have Y:=hs.new b (.rowD E o xs) (.slice (some ⟨w.heap.size,0,none⟩) l.length l.length) (.cells r E) hE hH hh Z (λL=>by
  have M:=SJ (w:=w) (O:=F.O (upd ρ b 0 (.slice (some ⟨w.heap.size,0,none⟩) l.length l.length)) c) (ρ:=upd ρ b 0 (.slice (some ⟨w.heap.size,0,none⟩) l.length l.length)) (E:=E) (k:=o) (xs:=xs) (r:=r) Q H;rw [<-W] at M;refine M λi x I=>?_;obtain ⟨v,A,G⟩:=a3 i x I;obtain ⟨V,b2⟩:=B x (ϑ I);obtain ⟨c1,c2,c3⟩:=G.cellsOf b2;refine ⟨V,c2,λq j hc=>?_⟩;obtain ⟨u,d1,d2,d3⟩:=c3 q j hc;have N:q<o:=by rw [<-V];exact (φ.1 hc).1
  have hil:i<xs.length:=(φ.1 I).1;refine ⟨u,?_,d2,?_⟩
  .rw [r3,ϱ]
   .have e1:(i*o+q) / o=i:=by rw [ig,Nat.mul_add_div S.pos,Nat.div_eq_of_lt N];rfl
    have e2:(i*o+q) % o=q:=by rw [ig,Nat.mul_add_mod,Nat.mod_eq_of_lt N]
    rw [e1,e2,Nat.sub_zero,A,i7]
    simpa using d1
   .refine ⟨by omega,?_⟩;have:(i+1)*o<=xs.length*o:=gz _ hil;rw [i4] at this;rw [ψ,W,gf];omega
  .have:=L (.d j) u (λi h=>by cases h) (.d d3)
   cases this with | d h=>exact h)
 exact ⟨_,Y.put (IB hd) (.own Oq (ϖ _)),λb i h=>MX λe=>RU h e.1⟩
def MZ (P:Program) (E:TypeId):Option D:=match Ap P E with
 | none=>none
 | some l=>match OV l with
  | none=>none
  | some ds=>match P.underlying E with
   | some (.struct _)=>some (.agg ds)
   | some (.array _ _)=>some (.agg ds)
   | some _=>match ds with
    | [x]=>some x
    | _=>none
   | none=>none
theorem Rb {E:TypeId} {x:D} (h:MZ P E=some x):∃l,Ap P E=some l/\l=x.cells.map .d/\∀c∈x.cells,c.one=true:=by
 unfold MZ at h
 split at h
 .cases h
 .rename_i l b
  split at h
  .cases h
  .rename_i r a
   obtain ⟨j,f⟩:=OU a
   have o:some (D.agg r)=some x ->∃l,Ap P E=some l/\l=x.cells.map .d/\∀c∈x.cells,c.one=true:=λh=>by
    injection h with h;subst h;exact ⟨l,b,j,f⟩
   grind [D.cells_one]
theorem E5 (b:Nat) {n t A:Nat} {z:D} {Y:IntKind} (S:fB P T E t A) (J:s.ev x=some (.d (.raw (.int k i)))) (hy:s.ev y=some (.d (.raw (.int Y i)))) (hi:i=(n:Int)) (hb:n*A<=140737488355328) (hz:MZ P E=some z)
  (hE:AX b s.env=some a) (hH:AT b s.hp=some f) (hh:CP f b (.rowD E t (List.replicate n z))=some c) (hd:Nat.blt d s.n=true):
  AH P F ⟨some d,.makeSlice T x y,ty,pos,aft,g⟩ s ⟨s.n,(d,.own b 0 n)::a,c⟩ (B2 b):=λρ V w M=>by
 obtain ⟨ti,v,h1,h2,h3,h4,U⟩:=S.info;have hT:=S.ht;subst hi;have R:=S.pos';have hn1:n*1<=n*A:=Nat.mul_le_mul_left _ R
 have B:=run_make (P:=P) w T E ti v hT h1 h2 k Y (n:Int) (n:Int) (by omega) (Int.le_refl _) (by
  rw [h4];have:((A*n:Nat):Int)<=281474976710656:=by rw [ig];omega
  rwa [Int.natCast_mul] at this) (by omega)
 simp only [Int.toNat_natCast,h3] at B
 have Q:(execOp V.eval ⟨some d,.makeSlice T x y,ty,pos,aft,g⟩).run P w= .ok (.value (.slice (some ⟨w.heap.size,0,none⟩) n n)) (w.alloc (.cells (madeCells v.cells (n*t)) E)):=by
  simp [execOp,M.raw J,M.raw hy,B]
 unfold Oper.wp;rw [Q];obtain ⟨l,l1,X,l3⟩:=Rb hz;obtain ⟨ti',zv',I,H,W⟩:=H3 l1;rw [h1] at I;injection I with I;subst I
 rw [h2] at H;injection H with H;subst H
 have C:=(C5 W w (F.O ρ s.hp) ρ).1;rw [X,ψ,ib,U] at C
 have L:=M.new b (.rowD E t (List.replicate n z)) (.slice (some ⟨w.heap.size,0,none⟩) n n) (.cells (madeCells v.cells (n*t)) E) hE hH hh Z (λhrep=>by
  have u:(List.replicate n z).length=n:=List.length_replicate
  have:=SJ (w:=w) (O:=F.O (upd ρ b 0 (.slice (some ⟨w.heap.size,0,none⟩) n n)) c) (ρ:=upd ρ b 0 (.slice (some ⟨w.heap.size,0,none⟩) n n)) (E:=E) (k:=t) (xs:=List.replicate n z) (r:=madeCells v.cells (n*t))
   (by rw [u];unfold maxLen;omega) (by rw [u,size_madeCells]) (λq x J=>by
    have hq:q<n:=by rw [<-u];exact (φ.1 J).1
    have K:x=z:=by
     have:=ϑ J;exact List.eq_of_mem_replicate this
    subst K;refine ⟨C.symm,l3,λj o hc=>?_⟩;have hj:j<t:=by rw [C];exact (φ.1 hc).1
    have G:j<v.cells.size:=by rw [U];exact hj
    obtain ⟨a1,a2⟩:=(C5 W (w.alloc (.cells (madeCells v.cells (n*t)) E)) (F.O (upd ρ b 0 (.slice (some ⟨w.heap.size,0,none⟩) n n)) c) ρ).2 j (.d o) v.cells[j] (by rw [X,η,hc];rfl) (by simp [G])
    have N:q*t+j<n*t:=by
     have:(q+1)*t<=n*t:=gz _ hq;rw [i4] at this;omega
    refine ⟨v.cells[j],?_,a2,?_⟩
    .have e2:(q*t+j) % t=j:=by rw [ig,Nat.mul_add_mod,Nat.mod_eq_of_lt hj]
     simp only [madeCells];rw [Array.getElem?_map,Array.getElem?_range,ϱ N];simp only [gs,U,e2];rw [getElem!_pos v.cells j G]
    .cases a1 with | d h=>exact h)
  rwa [u] at this)
 exact ⟨_,L.put (IB hd) (.own Oq (ϖ _)),λb i h=>MX λe=>RU h e.1⟩
end
variable {a:Nat ->Nat ->Value} {c:List (Nat×List AI)} {f:List (Nat×AV)} {g:Act} {w:World} {h:List (Nat×List AI)} {F:Fr} {s:AS}
theorem SR.adopt {P:Program} (j:SR F s a g w) (t l:Nat) {T E:TypeId} {y B:Nat} (_S:fB P T E y B) (J:get s.env t=some (.d (.sl (some true) [])))
  (N:AX l s.env=some f) (D:AT l s.hp=some h) (L:CP h l (.rowD E y [])=some c):SR F ⟨s.n,(t,.own l 0 0)::f,c⟩ (upd a l 0 (.slice none 0 0)) g w:=by
 have z:=j.env t _ J
 have I:g.tmps.getD t undef= .slice none 0 0:=by
  generalize g.tmps.getD t undef=v at z
  cases z with
  | d z=>
   cases z with
   | @sl _ _ r n R k V S K Y W X A U=>
    simp_all
 obtain ⟨Q,O⟩:=Gl L;have u:=j.set l 0 (.rowD E y []) (.slice none 0 0) N D Q (λt cs e=>by obtain ⟨o,C,_⟩:=(Ak D).2 _ _ _ e;rw [O] at C;cases C) (λb M=>by cases M) Z Z Z (ϖ _) (λ_ _ _=>rfl) (λ_=>⟨[],World.ownsRow_nil w 0 E y,⟨by simp,by simp,λi x H=>by simp at H⟩,by simp⟩);refine ⟨u.size,u.defs,λG r A=>?_,u.heap⟩;rcases LR A with ⟨rfl,rfl⟩ | ⟨_,A⟩
 .rw [I];exact .own Oq (ϖ _)
 .exact u.env G r A
def CA (f:Nat):List (Nat×List AI) ->Option (List (Nat×List AI))
 | []=>some []
 | (k,l)::r=>match CA f r with
  | none=>none
  | some r'=>match Nat.beq k f with
   | true=>some r'
   | false=>some ((k,l)::r')
theorem Gm {f:Nat} {a:List (Nat×List AI)} (h:CA f a=some c):∀g i,dr c g i=if g=f then none else dr a g i:=by
 induction a generalizing c with
 | nil=>simp only [CA,Option.some.injEq] at h;subst h;simp [dr,eQ]
 | cons p r b=>
  obtain ⟨k,l⟩:=p;simp only [CA] at h
  split at h
  .cases h
  .rename_i t j
   split at h
   .grind [dr,eQ,HV]
   .rename_i s
    have o:=iB s;injection h with h;subst h
    intro g i
    by_cases e:k=g
    .grind [dr,eQ,gh]
    .have:=b j g i
     grind [dr,eQ]
theorem SR.forget (j:SR F s a g w) (l:Nat) (T:AX l s.env=some f) (S:AT l s.hp=some h) (E:CA l h=some c) (Q:∀i t L,dr s.hp l i≠some (.blk t L)):
  SR F ⟨s.n,f,c⟩ a g w/\(∀b,F.O a c b ->F.O a s.hp b)/\∀i o b,dr s.hp l i=some o ->B6 (a l i)=some b ->¬F.O a c b:=by
 obtain ⟨Y,N⟩:=Ak S;have Z:=Gm E
 have u:∀k i x,dr c k i=some x ->∃o,dr s.hp k i=some o/\o.Less (B2 l) x/\k≠l:=λk i x y=>by
  grind
 have G:∀b,F.O a c b ->F.O a s.hp b:=λb z=>z.imp id (Am.same λk i x y=>let ⟨o,r,_⟩:=u k i x y;⟨o,r⟩);have D:∀A v,AR w (F.O a s.hp) a A v ->AR w (F.O a c) a A v:=λA v O=>O.mono (ϖ _) (λ_ _ _=>rfl) (λb _=>G b) λ_ _ _=>rfl;refine ⟨⟨j.size,j.defs.mono (ϖ _) (λ_ _ _=>rfl) (λb _=>G b),λt r R=>?_,⟨λk i x y=>?_,λk i W I o x b y J z K=>?_,λb z=>?_,j.heap.os,j.heap.tape,j.heap.output,j.heap.size0,j.heap.keep,λk i b P=>?_,j.heap.drawn⟩⟩,G,λi o b y z E=>?_⟩
 .rcases BR T R with rfl | ⟨B,C⟩
  .exact .top
  .exact D _ _ (j.env t r B)
 .obtain ⟨o,B,C,_⟩:=u k i x y;exact (C.1 _ _ _ _ (j.heap.sim k i o B)).mono (ϖ _) (λ_ _ _=>rfl) (λb _=>G b) (λ_ _=>rfl) λ_ _ _=>rfl
 .obtain ⟨M,B,_⟩:=u _ _ _ y;obtain ⟨H,C,_⟩:=u _ _ _ J;exact j.heap.inj k i W I M H b B C z K
 .exact j.heap.mine b (Am.same (λk i x y=>let ⟨o,r,_⟩:=u k i x y;⟨o,r⟩) z)
 .obtain ⟨a1,t,L,X⟩:=j.heap.pins k i b P;obtain ⟨x,a3,_,_,a4,_⟩:=N _ _ _ X
  grind
 .rcases E with E | ⟨k,I,x,B,C⟩
  .exact j.heap.notOf ⟨l,i,o,y,z⟩ E
  .obtain ⟨H,V,_,U⟩:=u _ _ _ B;exact U (j.heap.inj k I l i H o b V y C z).1
theorem SR.freeze (h:SR F s a g w) (t f:Nat) {j n kk:Nat} {E:TypeId} {xs ys:List D} {env':List (Nat×AV)} {hp1 hp':List (Nat×List AI)} (S:get s.env t=some (.own f j n)) (M:dr s.hp f j=some (.rowD E kk xs))
  (hn:n<=xs.length) (x:xs.take n=ys) (Z:AX f s.env=some env') (Y:AT f s.hp=some hp1) (W:CA f hp1=some hp') (z:eQ s.hp f=some [.rowD E kk xs]):SR F ⟨s.n,(t,.d (.sl none ys))::env',hp'⟩ a g w:=by
 obtain ⟨C,h2,h3⟩:=h.forget f Z Y W (λi t cs e=>by
  simp only [dr,z,i7,Ky (o:= .rowD E kk xs) rfl] at e
  cases i<;>simp at e)
 refine ⟨C.size,C.defs,λR k K=>?_,C.heap⟩;rcases LR K with ⟨rfl,rfl⟩ | ⟨_,K⟩
 .have L:=h.env t _ S
  generalize g.tmps.getD t undef=v at L
  obtain ⟨us,k,cap,P,g1,O,g3,N,g5⟩:=h.rowD M
  cases L with
  | own r U=>
   rw [P] at r;injection r with e2 e3 e4
   subst e2 e3 e4;refine .d (.sl kk (λ_ h=>by cases h) N.2.2 (by rw [<-x,Ξ];omega) (by omega) N.2.1 (λy H=>O.2.1 y (by rw [<-x] at H;exact gk H)) (λT=>?_) (λb o B i y H=>?_))
   .grind [Nat.eq_zero_or_pos]
   .have l:xs[i]? =some y:=by
     grind
    have V:i<xs.length:=(φ.1 l).1;obtain ⟨G,A,cur,Q,c2,c3⟩:=g5 (by omega);rw [A] at B;injection B with B;injection B with hb1 hb2;subst hb1 hb2
    subst A;have I:G<w.heap.size:=(gr.1 Q).1
    have X:∀(q:Nat) c,y.cells[q]? =some c ->∃u,w.cell? ⟨G,0+i*kk+q,none⟩=some u/\AN w (F.O a hp') c u:=λq c J=>by
     obtain ⟨u,d1,d2,d3⟩:=O.2.2 i y l q c J;exact ⟨u,by rw [gf];exact DT Q c3 d1,d3.mono (ϖ _) (λ_ _ _=>rfl) λb _=>h2 b⟩
    refine .ptr (λq=>(w.cell? ⟨G,0+i*kk+q,none⟩).getD undef) I (h3 j _ G M (by rw [P];rfl)) (g3 y (ϑ l)) (λq c J=>?_) (λq c J=>?_)
    .grind
    grind
 .exact C.env R k K
section
variable {P:Program} {F:Fr} {Q:Exit ->AS ->Prop} {s:AS} {c:Code} {ops:Array Oper} {l:List Oper}
variable {a:List (Nat×List AI)} {f g:List (Nat×AV)} {h i:List (Nat×List AI)} {j:Nat} {E:TypeId} {k:Nat} {o t:List D} {u:Nat}
theorem Ou (t o:Nat) {T:TypeId} (S:fB P T E k u) (r:get g t=some (.d (.sl (some true) []))) (y:AX o g=some f) (x:AT o a=some i) (w:CP i o (.rowD E k [])=some h)
  (b:Bl P F c Q ⟨j,(t,.own o 0 0)::f,h⟩):Bl P F c Q ⟨j,g,a⟩:=λ_ _ _ v=>b _ _ _ (v.adopt t o S r y x w)
theorem W5 (t o:Nat) {T:TypeId} (S:fB P T E k u) (r:get g t=some (.d (.sl (some true) []))) (y:AX o g=some f) (x:AT o a=some i) (w:CP i o (.rowD E k [])=some h)
  (b:A8 P F ops l Q ⟨j,(t,.own o 0 0)::f,h⟩):A8 P F ops l Q ⟨j,g,a⟩:=λ_ _ _ v=>b _ _ _ (v.adopt t o S r y x w)
theorem eC (b v:Nat) {r n:Nat} (y:get g b=some (.own v r n)) (A:dr a v r=some (.rowD E k t)) (B:n<=t.length) (x:t.take n=o) (G:AX v g=some f) (D:AT v a=some i) (C:CA v i=some h) (w:eQ a v=some [.rowD E k t])
  (u:Bl P F c Q ⟨j,(b,.d (.sl none o))::f,h⟩):Bl P F c Q ⟨j,g,a⟩:=λ_ _ _ z=>u _ _ _ (z.freeze b v y A B x G D C w)
theorem b9 (b v:Nat) {r n:Nat} (y:get g b=some (.own v r n)) (A:dr a v r=some (.rowD E k t)) (B:n<=t.length) (x:t.take n=o) (G:AX v g=some f) (D:AT v a=some i) (C:CA v i=some h) (w:eQ a v=some [.rowD E k t])
  (u:A8 P F ops l Q ⟨j,(b,.d (.sl none o))::f,h⟩):A8 P F ops l Q ⟨j,g,a⟩:=λ_ _ _ z=>u _ _ _ (z.freeze b v y A B x G D C w)
end
variable {a:Nat ->Nat ->Value} {c:List Nat} {P:Program} {f:List ResultVar} {w:World} {g:List (Nat×AV)} {h:Nat ->Prop} {s:AS} {i:Act} {j:Value} {k:List AV} {o:AV} {t:Nat} {u:FuncId} {x:List Nat} {y:Nat} {z:Func} {A:Nat} {B:AI} {C:World} {E:ResultVar} {G:Nat} {I:List AI} {L:Code}
abbrev Hp:=List (Nat×List AI)
def CS (ρ:Nat ->Nat ->Value) (H:Hp) (f i:Nat):Option Nat:=match dr H f i,ρ f i with
 | some (.blk _ _),.pointer (some ⟨b,0,none⟩)=>some b
 | _,_=>none
variable {H:Hp}
theorem mL {b:Nat} (h:CS a H G y=some b):a G y= .pointer (some ⟨b,0,none⟩)/\∃t c,dr H G y=some (.blk t c):=by grind [CS]
def Fr.top (F:Fr) (H:Hp):Prop:=F.pn=gW H/\F.rnd=none/\F.lo= .marks F.w0.heap.size
def Fr.flat (F:Fr):Prop:=F.rnd=none/\F.lo.le F.w0.heap.size
def AJ (P:Program) (f:FuncId) (args:List AV) (H:Hp) (R:AV ->Hp ->Prop):Prop:=
 (∃fn,P.funcs[f]? =some fn/\(fn.name== "runtime.NumGoroutine")=false/\fn.body.isSome=true)/\
 ∀(F:Fr) (ρ:Nat ->Nat ->Value) (vs:List Value),F.own0=Am ρ H ->F.pin=CS ρ H ->F.top H ->BP F H ρ F.w0 ->vs.length=args.length ->(∀(i:Nat) a v,args[i]? =some a ->vs[i]? =some v ->AR F.w0 (F.O ρ H) ρ a v)→
  Calls P f vs.toArray F.w0 λe w'=>∃v r H' ρ',e= .returned v/\R r H'/\AR w' (F.O ρ' H') ρ' r v/\BP F H' ρ' w'
def AK (P:Program) (f:FuncId) (args:List AV) (x:D):Prop:=AJ P f args [] λr H'=>r= .d x/\H'=[]
theorem DF {b:Nat} (h:CS a H G y=some b):G∈gW H:=by
 obtain ⟨_,t,g,c⟩:=mL h;simp only [dr] at c
 cases hf:eQ H G with
 | none=>rw [hf] at c;cases c
 | some l=>exact kn hf
variable {R:AV ->Hp ->Prop}
theorem AJ.mono {l:AV ->Hp ->Prop} (h:AJ P u k H R) (t:∀r g,R r g ->l r g):AJ P u k H l:=
 ⟨h.1,λF o s A z j y x w=>(h.2 F o s A z j y x w).mono λ_ _ ⟨v,r,g,i,a,b,c⟩=>⟨v,r,g,i,a,t _ _ b,c⟩⟩
def LG:Nat ->List AV ->Option (List (Nat×AV))
 | _,[]=>some []
 | i,a::r=>match LG (i+1) r with
  | none=>none
  | some l=>some ((i,a)::l)
theorem TV {c:List AV} (h:LG y c=some g) {t:Nat} (b:get g t=some o):∃j:Nat,t=y+j/\c[j]? =some o:=by
 induction c generalizing y g with
 | nil=>simp only [LG,Option.some.injEq] at h;subst h;simp [get] at b
 | cons x r f=>
  simp only [LG] at h
  split at h
  .cases h
  .rename_i l k
   injection h with h;subst h
   rcases LR b with ⟨rfl,rfl⟩ | ⟨_,b⟩
   .simp
   .obtain ⟨j,u,s⟩:=f k b;exact ⟨j+1,by omega,by simpa using s⟩
def ah (P:Program) (s:AS):ResultVar ->Option AV
 | .tmp t=>get s.env t
 | .cell a T=>match get s.env a with
  | some (.ptr f i off)=>match dr s.hp f i with
   | some (.blk _ cs)=>match Ay P T with
    | true=>cs[off]?
    | false=>match P.info? T with
     | none=>none
     | some inf=>match Bm P T inf.size with
      | false=>none
      | true=>match Eo cs off inf.size with
       | none=>none
       | some l=>Iu l
   | _=>none
  | _=>none
def PU (P:Program) (s:AS):List ResultVar ->Option (List AV)
 | []=>some []
 | r::rs=>match PU P s rs with
  | none=>none
  | some l=>match ah P s r with
   | none=>none
   | some a=>some (a::l)
def ai (P:Program) (s:AS) (rs:List ResultVar):Option AV:=match PU P s rs with
 | none=>none
 | some [a]=>some a
 | some [.d x,.d y]=>some (.d (.tup [x,y]))
 | some [.d x,.d y,.d z]=>some (.d (.tup [x,y,z]))
 | some l=>some (.tup l)
inductive RV (P:Program) (s:AS):ResultVar ->AV ->Prop
 | tmp {t:Nat} {a:AV} (h:get s.env t=some a):RV P s (.tmp t) a
 | cell1 {c f i off:Nat} {T t:TypeId} {cs:List AV} {a:AV} (hg:get s.env c=some (.ptr f i off)) (ho:dr s.hp f i=some (.blk t cs)) (hT:Ay P T=true) (ha:cs[off]? =some a):RV P s (.cell c T) a
 | cellS {c f i off n:Nat} {T t:TypeId} {cs l:List AV} {a:AV} (hg:get s.env c=some (.ptr f i off)) (ho:dr s.hp f i=some (.blk t cs)) (hT:Bm P T n=true) (hl:Eo cs off n=some l) (ha:Iu l=some a):RV P s (.cell c T) a
inductive q8 (P:Program) (s:AS):List ResultVar ->List AV ->Prop
 | nil:q8 P s [] []
 | cons {r:ResultVar} {rs:List ResultVar} {a:AV} {l:List AV} (h:RV P s r a) (hs:q8 P s rs l):q8 P s (r::rs) (a::l)
def Zb:List AV ->AV
 | [a]=>a
 | [.d x,.d y]=> .d (.tup [x,y])
 | [.d x,.d y,.d z]=> .d (.tup [x,y,z])
 | l=> .tup l
def q7 (P:Program) (s:AS) (rs:List ResultVar) (r:AV):Prop:=∃l,q8 P s rs l/\Zb l=r
theorem ae (h:ah P s E=some o):RV P s E o:=by
 cases E with
 | tmp t=>exact .tmp h
 | cell c T=>
  simp only [ah] at h
  split at h
  .rename_i f i u k
   split at h
   .rename_i t x g
    split at h
    .rename_i b;exact .cell1 k g b h
    .split at h
     .cases h
     .rename_i v j
      split at h
      .cases h
      .rename_i b
       split at h
       .cases h
       .rename_i l w;exact .cellS k g b w h
   .cases h
  .cases h
theorem PT {P:Program} {s:AS}:∀{b:List ResultVar} {l:List AV},PU P s b=some l ->q8 P s b l
 | [],l,h=>by simp only [PU,Option.some.injEq] at h;subst h;exact .nil
 | r::b,l,h=>by
  simp only [PU] at h
  split at h
  .cases h
  .rename_i g f
   split at h
   .cases h
   .rename_i a c
    injection h with h;subst h
    exact .cons (ae c) (PT f)
theorem A3 {r:AV} (h:ai P s f=some r):q7 P s f r:=by
 unfold ai at h
 cases hl:PU P s f with
 | none=>rw [hl] at h;cases h
 | some l=>
  rw [hl] at h;refine ⟨l,PT hl,?_⟩
  grind [Zb]
def BQ (hp:Hp):List Nat ->Option Hp
 | []=>some []
 | g::r=>match BQ hp r with
  | none=>none
  | some l=>match eQ hp g with
   | none=>some l
   | some x=>some ((g,x)::l)
def ed (g:Nat):List Nat ->Bool
 | []=>false
 | a::r=>Nat.beq a g || ed g r
theorem Fd:ed t c=true↔t∈c:=by
 induction c with
 | nil=>simp [ed]
 | cons a r b=>
  grind [ed,fx,gh]
def AP (nm:List Nat):Hp ->Bool
 | []=>true
 | (g,_)::r=>ed g nm && AP nm r
theorem F2 (h:AP c H=true) (a:eQ H t=some I):t∈c:=by
 induction H with
 | nil=>simp [eQ] at a
 | cons p r f=>
  obtain ⟨k,b⟩:=p;simp only [AP,fV] at h
  by_cases e:k=t
  .subst e;exact Fd.1 h.1
  grind [eQ,HV]
theorem Dh {k:Hp}:∀{j:List Nat} {c:Hp},BQ k j=some c ->(∀g x,eQ c g=some x ->g∈j/\eQ k g=some x)/\∀g,g∈j ->eQ c g=eQ k g
 | [],c,h=>by
  simp only [BQ,Option.some.injEq] at h;subst h;exact ⟨(λg x h=>by cases h),(λg h=>by cases h)⟩
 | a::r,c,h=>by
  simp only [BQ] at h
  split at h
  .cases h
  .rename_i l u
   obtain ⟨i,t⟩:=Dh u
   split at h
   .rename_i o
    injection h with h;subst h
    refine ⟨λg x b=>⟨gG _ (i g x b).1,(i g x b).2⟩,λg b=>?_⟩;rcases fP.1 b with rfl | b
    .rw [o]
     cases hh:eQ l g with
     | none=>rfl
     | some x=>rw [(i g x hh).2] at o;cases o
    .exact t g b
   .rename_i x s
    injection h with h;subst h
    refine ⟨λg y b=>?_,λg b=>?_⟩
    .simp only [eQ] at b
     split at b
     .rename_i f
      rw [<-fx f];injection b with b;subst b
      exact ⟨fu,s⟩
     .exact ⟨gG _ (i g y b).1,(i g y b).2⟩
    .simp only [eQ]
     split
     .rename_i f;rw [<-fx f];exact s.symm
     .rename_i f
      rcases fP.1 b with rfl | b
      .exact absurd Z (iB f)
      .exact t g b
def JR:List Nat ->List Nat ->Bool
 | [],_=>true
 | a::r,nm=>ed a nm && JR r nm
theorem Xj (h:JR x c=true) (b:G∈x):G∈c:=by
 induction x with
 | nil=>cases b
 | cons a r g=>
  simp only [JR,fV] at h;rcases fP.1 b with rfl | b
  .exact Fd.1 h.1
  grind
variable {F:Fr} {K:Hp}
theorem SR.only (k:SR F s a i w) (z:List Nat) (N:F.pn=x) (y:JR x z=true) (J:BQ s.hp z=some K):SR F ⟨s.n,s.env,K⟩ a i w:=by
 obtain ⟨I,P⟩:=Dh J
 have j:∀f g o,dr K f g=some o ->dr s.hp f g=some o:=λf g o r=>by
  simp only [dr] at r⊢
  cases hf:eQ K f with
  | none=>rw [hf] at r;cases r
  | some c=>rw [(I f c hf).2];rw [hf] at r;exact r
 have u:∀b,Am a K b ->Am a s.hp b:=λb ⟨f,g,o,C,H⟩=>⟨f,g,o,j f g o C,H⟩
 have B:∀b,b<w.heap.size ->F.O a K b ->F.O a s.hp b:=λb _ v=>v.imp id (u b);refine ⟨k.size,k.defs.mono (ϖ _) (λ_ _ _=>rfl) B,λt h M=>(k.env t h M).mono (ϖ _) (λ_ _ _=>rfl) B (λ_ _ _=>rfl),?_⟩;refine ⟨λf g o r=>(k.heap.sim f g o (j f g o r)).mono (ϖ _) (λ_ _ _=>rfl) B (λ_ _=>rfl) (λ_ _ _=>rfl),λf g G E o D b r A=>k.heap.inj f g G E o D b (j f g o r) (j G E D A),λb v=>k.heap.mine b (u b v),k.heap.os,k.heap.tape,k.heap.output,k.heap.size0,k.heap.keep,λf g b v=>?_,k.heap.drawn⟩;obtain ⟨C,t,O,H⟩:=k.heap.pins f g b v;refine ⟨C,t,O,?_⟩;have L:f∈z:=Xj y (by rw [<-N];exact F.hpn f g b v)
 grind [dr]
variable {M:Hp}
theorem o6 {Q:Exit ->AS ->Prop} {a:Array Oper} {c:List Oper} (f:List Nat) (r:F.pn=x) (b:JR x f=true) (i:BQ M f=some K) (h:A8 P F a c Q ⟨A,g,K⟩):A8 P F a c Q ⟨A,g,M⟩:=λk j w o=>h k j w (o.only f r b i)
def u8 (P:Program) (rs:List ResultVar) (H:Hp) (R:AV ->Hp ->Prop):Exit ->AS ->Prop
 | .normal,s=>∃r nm H',q7 P s rs r/\BQ s.hp nm=some H'/\AP nm H=true/\R r H'
 | .ret,s=>∃r nm H',q7 P s rs r/\BQ s.hp nm=some H'/\AP nm H=true/\R r H'
 | _,_=>False
def gU (tmps:Array Value):ResultVar ->Sem Value
 | .tmp t=>pure (tmps.getD t undef)
 | .cell a t=>do loadVar t (<-asAddr (tmps.getD a undef))
theorem Up (c:Func) (a:Array Value):results c a=(do
  let b <-c.results.mapM (gU a)
  pure (if h:b.size=1 then b[0] else .tuple b)):=rfl
theorem rF {w:World} {O:Nat ->Prop} {f:Nat ->Nat ->Value} {l:List D} {b:List Value} (j:b.length=l.length) (h:∀(i:Nat) a v,(l.map AV.d)[i]? =some a ->b[i]? =some v ->AR w O f a v):AR w O f (.d (.tup l)) (.tuple b.toArray):=
 .d (.tup j λi c v k g=>by
  have:=h i (.d c) v (by rw [η,k];rfl) g
  cases this with | d h=>exact h)
theorem RV.spec {P:Program} {F:Fr} {s:AS} {E:Nat ->Nat ->Value} {o:Act} {w:World} (B:SR F s E o w) {r:ResultVar} {a:AV} (h:RV P s r a):
  ∃v,(gU o.tmps r).run P w= .ok v w/\AR w (F.O E s.hp) E a v:=by
 cases h with
 | @tmp t _ h=>exact ⟨_,Z,B.env t _ h⟩
 | @cell1 c f i g T t Y a H G K J=>
  have y:=B.env c _ H
  generalize z:o.tmps.getD c undef=O at y
  cases y with
  | @ptr _ _ _ b I=>
   obtain ⟨b',u,k,L,N,M,V⟩:=B.heap.sim f i _ G;rw [I] at k;injection k with k;injection k with k;injection k with k;subst k
   have C:g<u.length:=by rw [N];exact (φ.1 J).1
   have x:w.cell? ⟨b,g,none⟩=some u[g]:=by
    rw [cell_of_row w b g u.toArray t (0,0) L];simp [C]
   exact ⟨u[g],by simp only [gU,z,asAddr,loadVar,Sem.run_bind,Sem.run_pure,Result.andThen_ok,Di K];simp [x],M g a _ J (ω C)⟩
 | @cellS c f i g n T t Y l a H G K Q J=>
  have y:=B.env c _ H
  generalize z:o.tmps.getD c undef=O at y
  cases y with
  | @ptr _ _ _ b I=>
   obtain ⟨b',u,k,L,N,M,V⟩:=B.heap.sim f i _ G;rw [I] at k;injection k with k;injection k with k;injection k with k;subst k
   obtain ⟨⟨X,U,S⟩,R⟩:=Ez K;obtain ⟨h8,h9,W⟩:=FW _ _ _ _ Q;have D:((u.drop g).take n).length=n:=by rw [Ξ,List.length_drop];omega
   have y:=run_loadVar_mid (P:=P) w b g T ((u.drop g).take n) X (λj v A=>by
    rw [cell_of_row w b (g+j) u.toArray t (0,0) L];rw [ia] at A
    split at A
    .rw [i9] at A;simpa using A
    .cases A) U S (by rw [D];exact R)
   grind [gU,asAddr,F3]
theorem q8.spec {P:Program} {F:Fr} {s:AS} {f:Nat ->Nat ->Value} {c:Act} {w:World} (k:SR F s f c w) {g:List ResultVar} {l:List AV} (h:q8 P s g l):
  ∃b:List Value,(g.mapM (gU c.tmps)).run P w= .ok b w/\b.length=l.length/\∀(i:Nat) a v,l[i]? =some a ->b[i]? =some v ->AR w (F.O f s.hp) f a v:=by
 induction h with
 | nil=>exact ⟨[],Z,Z,by simp⟩
 | cons h _ j=>
  obtain ⟨b,y,o,x⟩:=j;obtain ⟨v,f1,f2⟩:=h.spec k;refine ⟨v::b,?_,by simp [o],λi z r u t=>?_⟩
  .simp_all
  grind
theorem q7.spec (t:SR F s a i w) (j:z.results=f.toArray) (h:q7 P s f o):
  ∃v,(results z i.tmps).run P w= .ok v w/\AR w (F.O a s.hp) a o v:=by
 obtain ⟨l,x,c⟩:=h;obtain ⟨g,B,k,r⟩:=x.spec t
 have b:(results z i.tmps).run P w= .ok (if A:g.toArray.size=1 then g.toArray[0] else .tuple g.toArray) w:=by
  rw [Up,j,List.mapM_toArray]
  simp_all
 refine ⟨_,b,?_⟩;unfold Zb at c
 split at c
 .subst c;obtain ⟨v,rfl⟩:=List.length_eq_one_iff.1 k;exact r 0 _ v Z Z
 .grind [rF]
 .grind [rF]
 .rename_i u _ _
  subst c;rw [dif_neg]
  .exact .tup k r
  .intro y;have:l.length=1:=by rw [<-k];simpa using y
   obtain ⟨C,e⟩:=List.length_eq_one_iff.1 this
   grind
theorem Ol {a:Addr} (h:w.cell? a=some j):∃c t x,w.heap[a.block]? =some (Obj.cells c t x):=by grind [World.cell?]
theorem AN.other (H:C.heap.size=w.heap.size) (J:∀(b:Nat) c t x,w.heap[b]? =some (Obj.cells c t x) ->C.heap[b]? =w.heap[b]?) {x:D} (f:AN w h x j):AN C h x j:=by
 induction f with
 | raw f=>exact .raw f
 | agg i r _ g=>exact .agg i r g
 | tup i _ g=>exact .tup i g
 | ptr s L r G K _ g=>
  refine .ptr s (by omega) r G (λa c I=>?_) g
  grind [Ol,World.cell?_of_block]
 | sl k y u o E z A F _ g=>exact .sl k y u o E z A F g
 | fn B i _ _ l g=>exact .fn B i l g
theorem AR.other (k:C.heap.size=w.heap.size) (r:∀(b:Nat) c t x,w.heap[b]? =some (Obj.cells c t x) ->C.heap[b]? =w.heap[b]?) (f:AR w h a o j):AR C h a o j:=by
 induction f with
 | d f=>exact .d (f.other k r)
 | top=>exact .top
 | tup i _ g=>exact .tup i g
 | agg i s _ g=>exact .agg i s g
 | ptr f=>exact .ptr f
 | own f l=>exact .own f l
 | rptr f=>exact .rptr f
 | map f=>exact .map f
 | ifc f=>exact .ifc f
 | fn i _ g=>exact .fn i g
theorem Fl (r:∀(b:Nat) c t x,w.heap[b]? =some (Obj.cells c t x) ->C.heap[b]? =w.heap[b]?) {f:Nat} {e:TypeId} {a:Nat} {l:List Value} (h:w.ownsRow f e a j A l):C.ownsRow f e a j A l:=by
 refine ⟨h.1,?_⟩;rcases h.2 with z | ⟨g,k,i,y,u,o,s⟩
 .exact .inl z
 .exact .inr ⟨g,k,i,y,u,by rw [r g _ _ _ o];exact o,s⟩
theorem Ae.other (E:C.heap.size=w.heap.size) (D:∀(b:Nat) c t x,w.heap[b]? =some (Obj.cells c t x) ->C.heap[b]? =w.heap[b]?) (l:Ae w h a B j) (N:∀b,B6 j=some b ->C.heap[b]? =w.heap[b]?):Ae C h a B j:=by
 cases B with
 | blk t W=>
  obtain ⟨b,F,rfl,y,A,z,H⟩:=l;exact ⟨b,F,Z,by rw [D _ _ _ _ y];exact y,A,λg c u K G=>(z g c u K G).other E D,H⟩
 | row t k S=>
  obtain ⟨F,y,A⟩:=l;exact ⟨F,Fl D y,A.mono λx I c K u G=>G.other E D⟩
 | rowD t k S=>
  obtain ⟨F,y,A,z⟩:=l;exact ⟨F,Fl D y,A.mono λx I c K u G=>G.other E D,z⟩
 | loop L=>
  obtain ⟨r,y,A,z,H,Q⟩:=l;exact ⟨r,y,by rw [N L.id (by rw [y];rfl)];exact A,z,H,λt s U=>(Q t s U).other E D⟩
 | map Y V=>
  obtain ⟨m,J,c,rfl,y,A,z,H,Q,R⟩:=l;exact ⟨m,J,c,Z,by rw [N _ rfl];exact y,A,λi e x P I=>⟨(z i e x P I).1.other E D,(z i e x P I).2.other E D⟩,H,Q,R⟩
 | iter f i c seen=>
  obtain ⟨r,m,T,rfl,y,A,z⟩:=l;exact ⟨r,m,T,Z,y,by rw [N _ rfl];exact A,z⟩
 | addr f i u=>exact l
 | any=>trivial
 | nb b t W=>
  obtain ⟨rfl,F,y,A,z,H⟩:=l;exact ⟨Z,F,by rw [D _ _ _ _ y];exact y,A,λg c u K G=>(z g c u K G).other E D,H⟩
 | nr b t k X S=>
  obtain ⟨rfl,F,y,A,z⟩:=l;exact ⟨Z,F,Fl D y,A.mono λx I c K u G=>G.other E D,z⟩
 | nm b Y V=>
  obtain ⟨rfl,J,c,y,A,z,H,Q,R⟩:=l;exact ⟨Z,J,c,by rw [N _ rfl];exact y,A,λi e x P I=>⟨(z i e x P I).1.other E D,(z i e x P I).2.other E D⟩,H,Q,R⟩
 | itz=>obtain ⟨r,rfl,y⟩:=l;exact ⟨r,Z,by rw [N _ rfl];exact y⟩
 | multi M=>trivial
theorem SR.putObj (k:SR F s a i w) {b:Nat} {o o':Obj} {ds:List Deferred} (C:F.w0.heap.size<=b) (y:w.heap[b]? =some o) (H:∀c t x,o≠Obj.cells c t x) (E:¬F.O a s.hp b) (z:HE F.lo (w.putObj b o') (F.O a s.hp) ds):SR F s a {i with defers:=ds} (w.putObj b o'):=by
 have l:(w.putObj b o').heap.size=w.heap.size:=World.putObj_size
 have v:∀(r:Nat) c t x,w.heap[r]? =some (Obj.cells c t x) ->(w.putObj b o').heap[r]? =w.heap[r]?:=λr c t x h=>World.putObj_heap_other λe=>by
  grind
 exact ⟨k.size,z,λt j D=>(k.env t j D).other l v,⟨λf g o y=>(k.heap.sim f g o y).other l v λr A=>World.putObj_heap_other λG=>E (.inr ⟨f,g,_,y,by rw [<-G];exact A⟩),k.heap.inj,λb v=>by rw [l];exact k.heap.mine b v,k.heap.os,k.heap.tape,k.heap.output,by rw [l];exact k.heap.size0,λr u B=>by
  rw [World.putObj_heap_other (by omega)];exact k.heap.keep r u B,k.heap.pins,k.heap.drawn⟩⟩
theorem OW (J:P.funcs[u]? =some z) (Q:(z.name== "runtime.NumGoroutine")=false) (E:z.body=some L) (hn:z.ntmps=A)
  (hrs:z.results=f.toArray) (X:LG 0 k=some g) (V:Nat.ble k.length A=true) (h:∀F:Fr,F.pn=gW H ->F.flat ->Bl P F L (u8 P f H R) ⟨A,g,H⟩):AJ P u k H R:=by
 refine ⟨⟨z,J,Q,by rw [E];rfl⟩,λF ρ K h1 h2 C h3 h4 h5=>callsIn_wide.1 (callsIn_of_wp_marks (n:=0) J E trivial ?_)⟩;have W:Pq F.rnd=Fence.wide:=by rw [C.2.1];rfl
 have hle:=Nat.le_of_ble_eq_true V
 have hsr:SR F ⟨A,g,H⟩ ρ {tmps:=K.toArray++Array.replicate (z.ntmps - K.toArray.size) undef,defers:=[]} F.w0:=by
  refine ⟨?_,by rw [C.2.2];exact .nil,λt a ha=>?_,h3⟩
  .grind
  .obtain ⟨j,hj,ha'⟩:=TV X ha;rw [gf] at hj;subst hj;have S:t<K.length:=by rw [h4];exact (φ.1 ha').1
   have:(K.toArray++Array.replicate (z.ntmps - K.toArray.size) undef).getD t undef=K[t]:=by
    rw [iy,Array.getElem?_append_left (by simpa using S)];simp [S]
   show AR _ _ _ _ ((K.toArray++Array.replicate (z.ntmps - K.toArray.size) undef).getD t undef);rw [this];exact h5 t a _ ha' (ω S)
 refine Go.wpIn_mono (W▸h F C.1 ⟨C.2.1,by rw [C.2.2];exact ϖ _⟩ ρ _ _ hsr) λe act w ⟨s,l,M,B⟩=>?_
 have fin:∀{act:Act} {w:World},SR F s l act w ->(∃r O y,q7 P s f r/\BQ s.hp O=some y/\AP O H=true/\R r y) ->∃v,(results z act.tmps).run P w= .ok v w/\(∃v' r y l,Ending.returned v= .returned v'/\R r y/\AR w (F.O l y) l r v'/\BP F y l w):=λ{act w} B ⟨r,O,y,hr,hpt,hnm,hR⟩=>by
  obtain ⟨v,h6,h7⟩:=hr.spec B hrs;obtain ⟨p1,p2⟩:=Dh hpt
  have D:∀u i o,dr y u i=some o ->dr s.hp u i=some o:=λu i o I=>by
   simp only [dr] at I⊢
   cases J:eQ y u with
   | none=>rw [J] at I;cases I
   | some x=>rw [(p1 u x J).2];rw [J] at I;exact I
  have N:∀b,Am l y b ->Am l s.hp b:=λb ⟨u,i,o,a1,a2⟩=>⟨u,i,o,D u i o a1,a2⟩
  have hO:∀b,b<w.heap.size ->F.O l y b ->F.O l s.hp b:=λb _ E=>E.imp id (N b);refine ⟨v,h6,v,r,y,l,Z,hR,h7.mono (ϖ _) (λ_ _ _=>rfl) hO (λ_ _ _=>rfl),?_⟩;refine ⟨λu i o I=>(B.heap.sim u i o (D u i o I)).mono (ϖ _) (λ_ _ _=>rfl) hO (λ_ _=>rfl) (λ_ _ _=>rfl),λu i f' i' o o' b I ho'=>B.heap.inj u i f' i' o o' b (D u i o I) (D f' i' o' ho'),λb E=>B.heap.mine b (N b E),B.heap.os,B.heap.tape,B.heap.output,B.heap.size0,B.heap.keep,λu i b E=>?_,B.heap.drawn⟩;obtain ⟨a1,t,cs,a2⟩:=B.heap.pins u i b E;refine ⟨a1,t,cs,?_⟩;rw [h2] at E;obtain ⟨_,t',cs',a3⟩:=mL E
  have hfn:u∈O:=by
   simp only [dr] at a3
   cases J:eQ H u with
   | none=>rw [J] at a3;cases a3
   | some x=>exact F2 hnm J
  grind [dr]
 have G:∀{act:Act} {w:World},SR F s l act w ->(∃r O y,q7 P s f r/\BQ s.hp O=some y/\AP O H=true/\R r y) ->LeavesInM Fence.wide 0 P z act.tmps (λe w'=>∃v r y l,e= .returned v/\R r y/\AR w' (F.O l y) l r v/\BP F y l w') act.defers .returning w:=λ{act w} B M=>by
  have Y:=B.defs;rw [C.2.2] at Y;obtain ⟨U,hd,hnd,E⟩:=Y;rw [hd]
  clear hd
  induction U generalizing act w with
  | nil=>exact fin B M
  | cons b U ih=>
   obtain ⟨d1,d2,d3,d4⟩:=E b fu;obtain ⟨n1,n2⟩:=i5.1 hnd
   have hb':∀T∈U,F.w0.heap.size<=T/\T<(w.putObj b (.deferred none)).heap.size/\¬F.O l s.hp T/\(w.putObj b (.deferred none)).heap[T]? =some (.deferred (some [])):=λT hm=>by
    obtain ⟨e1,e2,e3,e4⟩:=E T (gG _ hm)
    exact ⟨e1,by rw [World.putObj_size];exact e2,e3,by
     have hne:T≠b:=λe=>by subst e;exact n1 hm
     rw [World.putObj_heap_other hne];exact e4⟩
   have hs':=B.putObj (o':= .deferred none) (ds:=U.map Iw) d1 d4 (λL t x e=>by cases e) d3 (by rw [C.2.2];exact ⟨U,Z,n2,hb'⟩);exact ⟨by simp,.inl ⟨b,_,Z,run_takeDeferred d4,ih (act:={act with defers:=U.map Iw}) hs' n2 hb'⟩⟩
 cases e with
 | normal=>exact G B M
 | ret=>exact G B M
 | exit _=>exact M.elim
 | goto _=>exact M.elim
 | panic _=>exact M.elim
 | outgrown=>exact M.elim
theorem As (o:P.funcs[u]? =some z) (a:(z.name== "runtime.NumGoroutine")=false) (r:z.body=some L) (l:z.ntmps=A)
  (j:z.results=f.toArray) (i:LG 0 k=some g) (b:Nat.ble k.length A=true) (h:∀F:Fr,F.pn=gW H ->Bl P F L (u8 P f H R) ⟨A,g,H⟩):AJ P u k H R:=
 OW o a r l j i b λF s _=>h F s
def KH (s:AS):List Operand ->Option (List AV)
 | []=>some []
 | x::r=>match KH s r with
  | none=>none
  | some l=>match s.ev x with
   | none=>none
   | some a=>some (a::l)
theorem CJ {F:Fr} {s:AS} {f:Nat ->Nat ->Value} {b:Act} {w:World} (o:SR F s f b w):∀{g:List Operand} {c:List AV},KH s g=some c ->(g.map b.eval).length=c.length/\∀(i:Nat) a v,c[i]? =some a ->(g.map b.eval)[i]? =some v ->AR w (F.O f s.hp) f a v
 | [],c,h=>by simp only [KH,Option.some.injEq] at h;subst h;simp
 | x::r,c,h=>by
  simp only [KH] at h
  split at h
  .cases h
  .rename_i l t
   split at h
   .cases h
   .rename_i a u
    injection h with h;subst h
    obtain ⟨z,y⟩:=CJ o t;refine ⟨by simpa using z,λi A v k j=>?_⟩
    cases i with
    | zero=>simp at k j;subst k j;exact o.ev u
    | succ i=>exact y i A v (by simpa using k) (by simpa using j)
def Bp (hp CH:Hp):List Nat ->Prop
 | []=>True
 | g::r=>eQ hp g=eQ CH g/\Bp hp CH r
theorem Bp.hget {f:Hp} (h:Bp M f c) (b:t∈c) (i:Nat):dr M t i=dr f t i:=by
 induction c with
 | nil=>cases b
 | cons a r j=>
  rcases fP.1 b with rfl | b
  .simp only [Go.Proofs.YteifpcnphnhaoaaGreat.dr,h.1]
  .exact j h.2 b
theorem Jd (h:AP c H=true) (a:dr H t y=some B):t∈c:=by
 induction H with
 | nil=>simp [dr,eQ] at a
 | cons p r b=>
  obtain ⟨k,l⟩:=p;simp only [AP,fV] at h
  by_cases e:k=t
  .subst e;exact Fd.1 h.1
  grind [dr,eQ,HV]
def nM:Option AI ->Bool
 | some (.blk _ _)=>true
 | _=>false
def B9 (CH:Hp) (nm:List Nat) (f i:Nat):Bool:=!(ed f nm) || nM (dr CH f i)
def CE (nm:List Nat):Hp ->Option Hp
 | []=>some []
 | (g,l)::r=>match CE nm r with
  | none=>none
  | some r'=>match ed g nm with
   | true=>some r'
   | false=>some ((g,l)::r')
theorem Ur (h:CE c M=some K):∀g i,dr K g i=if g∈c then none else dr M g i:=by
 induction M generalizing K with
 | nil=>simp only [CE,Option.some.injEq] at h;subst h;simp [dr,eQ]
 | cons p r b=>
  obtain ⟨k,l⟩:=p;simp only [CE] at h
  split at h
  .cases h
  .rename_i o f
   split at h
   .rename_i a
    injection h with h;subst h
    intro g i;rw [b f g i]
    by_cases e:k=g
    .subst e;rw [ϱ (Fd.1 a),ϱ (Fd.1 a)]
    .simp only [dr,eQ,HV e]
   .rename_i a
    injection h with h;subst h
    intro g i
    by_cases e:k=g
    .subst e;rw [θ (λj=>by rw [Fd.2 j] at a;cases a)];simp only [dr,eQ,gh]
    .have:=b f g i
     grind [dr,eQ,HV]
theorem cd {rest:Hp} (j:AP c H=true) (f:∀g i,g∈c ->dr rest g i=none) (g i:Nat):dr (H++rest) g i=if g∈c then dr H g i else dr rest g i:=by
 have b:∀H:Hp,eQ (H++rest) g=match eQ H g with | some l=>some l | none=>eQ rest g:=by
  intro H
  induction H with
  | nil=>rfl
  | cons p r h=>
   grind [eQ]
 by_cases a:g∈c
 .rw [ϱ a];have k:=f g i a
  grind [dr]
 grind [dr,F2]
def I7 (nm:List Nat) (f _i:Nat):Bool:=ed f nm
def Bk (nm:List Nat):List AI ->Bool
 | []=>true
 | .blk _ cs::r=>qk (I7 nm) cs && Bk nm r
 | .row _ _ xs::r=>xs.all (λx=>YP (I7 nm) x.cells) && Bk nm r
 | .rowD _ _ _::r=>Bk nm r
 | .loop L::r=>L4 (I7 nm) L.env && Bk nm r
 | .map _ _::r=>Bk nm r
 | .iter f _ _ _::r=>ed f nm && Bk nm r
 | .addr f _ _::r=>ed f nm && Bk nm r
 | .any::r=>Bk nm r
 | .nb _ _ _::r=>Bk nm r
 | .nr _ _ _ _ _::r=>Bk nm r
 | .nm _ _ _::r=>Bk nm r
 | .itz::r=>Bk nm r
 | .multi _::r=>Bk nm r
def FJ (nm:List Nat):Hp ->Bool
 | []=>true
 | (_,l)::r=>Bk nm l && FJ nm r
theorem S6 (h:Bk c I=true) (s:B∈I) (j:B.Refs G y):G∈c:=by
 induction I with
 | nil=>cases s
 | cons a r A=>
  rcases fP.1 s with rfl | s
  .cases B with
   | blk t K=>
    simp only [Bk,fV] at h;obtain ⟨g,v,j⟩:=j;exact Fd.1 (NK h.1 v j)
   | row t k z=>
    simp only [Bk,fV] at h;obtain ⟨x,D,g,v,j⟩:=j;exact Fd.1 (FE (iZ.1 h.1 x D) v j)
   | rowD t k z=>exact j.elim
   | loop L=>
    simp only [Bk,fV] at h;obtain ⟨t,a,E,j⟩:=j;exact Fd.1 (NJ h.1 E j)
   | map O H=>exact j.elim
   | iter F C g seen=>
    simp only [Bk,fV] at h;obtain ⟨w,J⟩:=j;subst w;exact Fd.1 h.1
   | addr F C u=>
    simp only [Bk,fV] at h;obtain ⟨w,J⟩:=j;subst w;exact Fd.1 h.1
   | any=>exact j.elim
   | nb b t K=>exact j.elim
   | nr b t k N z=>exact j.elim
   | nm b O H=>exact j.elim
   | itz=>exact j.elim
   | multi M=>exact j.elim
  .refine A ?_ s
   cases a<;>simp only [Bk,fV] at h<;>first | exact h.2 | exact h
theorem Yi (h:FJ c H=true) {j:Nat} (a:dr H t j=some B) (s:B.Refs G y):G∈c:=by
 induction H with
 | nil=>simp [dr,eQ] at a
 | cons p r b=>
  obtain ⟨k,l⟩:=p;simp only [FJ,fV] at h
  by_cases e:k=t
  .subst e;simp only [dr,eQ,gh,i7] at a;rcases iR a with a | ⟨_,m,_,_,rfl⟩
   all_goals (grind [S6,A7.norefs])
  grind [dr,eQ,HV]
section
variable {P:Program} {F:Fr} {s:AS} {d:Nat} {ty:TypeId} {pos:String} {aft:Array Edge} {g:Option (Nat×Bool)} {at_:Array TypeId}
variable {a:List Operand} {c:Nat ->Nat ->Value} {f:List (Nat×AV)} {h:List AV} {i:FuncId} {w:World} {j k o:Hp} {R:AV ->Hp ->Prop} {t:Nat ->Nat ->Value} {u:Act} {x:DS} {y:Hp} {z:World}
def B5 (F:Fr) (lo:DS) (hp CH:Hp) (ρ:Nat ->Nat ->Value) (w:World) (hOf:∀b,(F.Of b\/(Am ρ hp b/\¬Am ρ CH b)) ->b<w.heap.size/\¬Am ρ CH b):Fr:=
 Fr.mk none lo w (λb=>F.Of b\/(Am ρ hp b/\¬Am ρ CH b)) (Am ρ CH) (CS ρ CH) hOf (gW CH) (λ_ _ _ h=>DF h)
def nY (w w':World) (O O':Nat ->Prop):Prop:=w.heap.size<=w'.heap.size/\(∀b,b<w.heap.size ->¬O b ->w'.heap[b]? =w.heap[b]?)/\∀b,b<w.heap.size ->O' b ->O b
theorem Ej (z:DS) (t:BP F y c w) (x:List Nat) (B:Bp y k x) (C:AP x k=true):
  ∃j,BP (B5 F z y k c w j) k c w/\(B5 F z y k c w j).O c k=F.O c y:=by
 have l:∀g i o,dr k g i=some o ->dr y g i=some o/\g∈x:=λg i o u=>by
  have G:=Jd C u;exact ⟨by rw [B.hget G];exact u,G⟩
 have r:∀b,Am c k b ->Am c y b:=λb ⟨f,i,o,K,J⟩=>⟨f,i,o,(l f i o K).1,J⟩
 have j:∀b,(F.Of b\/(Am c y b/\¬Am c k b)) ->b<w.heap.size/\¬Am c k b:=λb a=>by
  rcases a with a | a
  .exact ⟨hU (F.hOf b a).1 t.size0,λv=>t.notOf (r b v) a⟩
  .exact ⟨(t.mine b a.1).1,a.2⟩
 have H:(B5 F z y k c w j).O c k=F.O c y:=funext λb=>propext ⟨λh=>by
  rcases h with (h | h) | h
  .exact .inl h
  .exact .inr h.1
  .exact .inr (r b h),λh=>by
  rcases h with h | h
  .exact .inl (.inl h)
  .by_cases v:Am c k b
   .exact .inr v
   .exact .inl (.inr ⟨h,v⟩)⟩
 refine ⟨j,⟨λf i o u=>?_,λf i I E o D b u A=>?_,λb a=>⟨(t.mine b (r b a)).1,.inl a⟩,Z,Z,Z,ϖ _,λ_ _ _=>rfl,λf i b a=>mL a,ϖ _⟩,H⟩
 .rw [H];exact t.sim f i o (l f i o u).1
 .exact t.inj f i I E o D b (l f i o u).1 (l I E D A).1
theorem Pi {ok:Nat ->Nat ->Bool} {T:Hp} (Q:BP F y c w) (M:List Nat) (hfe:Bp y k M) (hcn:AP M k=true) (hr0s:∀g i,dr j g i=if g∈M then none else dr y g i)
  (k1:∀g i U,dr o g i=some U ->∃h,dr j g i=some h/\h.Less ok U) (k2:∀g i h,dr j g i=some h ->∃U,dr o g i=some U/\h.Less ok U)
  (hOf:∀b,(F.Of b\/(Am c y b/\¬Am c k b)) ->b<w.heap.size/\¬Am c k b) (_:BP (B5 F x y k c w hOf) k c w) (D:BP (B5 F x y k c w hOf) T t z) (n1:AP M T=true) (n2:FJ M T=true) (hok:∀f i,f∈M ->ok f i=true ->t f i=c f i):
  ∃l,BP F (T++o) l z/\(∀A v,(∀f i,A.Refs f i ->f∈M) ->AR z ((B5 F x y k c w hOf).O t T) t A v ->AR z (F.O l (T++o)) l A v)/\
   (∀A v,(∀f i,A.Refs f i ->ok f i=true) ->AR w (F.O c y) c A v ->AR z (F.O l (T++o)) l A v)/\(∀f i,f∈M ->l f i=t f i)/\(∀f i,f∉M ->l f i=c f i)/\nY w z (F.O c y) (F.O l (T++o))/\∀b,F.O l (T++o) b ->(B5 F x y k c w hOf).O t T b:=by
 have hCH:∀g i h,dr k g i=some h ->dr y g i=some h/\g∈M:=λg i h H=>by
  have hg:=Jd hcn H;exact ⟨by rw [hfe.hget hg];exact H,hg⟩
 have I:∀g i h,dr o g i=some h ->∃o1,dr y g i=some o1/\o1.Less (ok) h/\g∉M:=λg i h H=>by
  grind
 have hOC:∀b,Am c k b ->Am c y b:=λb ⟨f,i,h,G,E⟩=>⟨f,i,h,(hCH f i h G).1,E⟩
 have hOR:∀b,Am c o b ->Am c y b/\¬Am c k b:=λb ⟨f,i,h,G,E⟩=>by
  obtain ⟨o1,h3,_,h4⟩:=I f i h G;refine ⟨⟨f,i,o1,h3,E⟩,λ⟨N,S,U,h5,h6⟩=>?_⟩;obtain ⟨h7,h8⟩:=hCH N S U h5;obtain ⟨rfl,rfl⟩:=Q.inj f i N S _ _ b h3 h7 E h6;exact h4 h8
 let l:Nat ->Nat ->Value:=λf i=>if f∈M then t f i else c f i
 have u:∀f i,f∈M ->l f i=t f i:=λf i C=>ϱ C;have r:∀f i,f∉M ->l f i=c f i:=λf i C=>θ C
 have X:∀f i,ok f i=true ->l f i=c f i:=λf i hf0=>by
  grind
 have hnone:∀g i,g∈M ->dr o g i=none:=λg i hg=>by
  cases H:dr o g i with
  | none=>rfl
  | some h=>exact absurd hg (I g i h H).choose_spec.2.2
 have R:=λg i=>cd (rest:=o) n1 hnone g i
 have Z:∀b,Am l (T++o) b ->Am t T b\/Am c o b:=λb ⟨f,i,h,G,E⟩=>by
  rw [R] at G
  split at G
  .rename_i C;rw [u f i C] at E;exact .inl ⟨f,i,h,G,E⟩
  .rename_i C;rw [r f i C] at E;exact .inr ⟨f,i,h,G,E⟩
 have hOin:∀b,F.O l (T++o) b ->(B5 F x y k c w hOf).O t T b:=λb B=>by
  rcases B with B | B
  .exact .inl (.inl B)
  .rcases Z b B with B | B
   .exact .inr B
   .exact .inl (.inr (hOR b B))
 have V:∀b,b<w.heap.size ->F.O l (T++o) b ->F.O c y b:=λb W B=>by
  rcases B with B | B
  .exact .inl B
  .rcases Z b B with B | B
   .rcases (D.mine b B).2 with G | G
    .exact .inr (hOC b G)
    .exact absurd W (Nat.not_lt.2 G)
   .exact .inr (hOR b B).1
 have hbb:∀b,b<w.heap.size ->¬F.O c y b ->z.heap[b]? =w.heap[b]?:=λb W hn=>D.keep b W λhh=>hn (.inr (hOC b hh));have Y:w.heap.size<=z.heap.size:=D.size0;refine ⟨l,?_,λA v hA hr=>hr.mono (ϖ _) (λ_ _ _=>rfl) (λb _=>hOin b) λf i C=>u f i (hA f i C),λA v hA hr=>hr.mono Y hbb V λf i C=>X f i (hA f i C),u,r,⟨Y,hbb,V⟩,hOin⟩;refine ⟨λf i h H=>?_,λf i N S h U b H J B L=>?_,λb B=>?_,D.os.trans Q.os,D.tape.trans Q.tape,D.output.trans Q.output,fO Q.size0 Y,λb W hn=>?_,λf i b y=>?_,fO Q.drawn D.drawn⟩
 .rw [R] at H
  split at H
  .rename_i C
   rw [u f i C];refine (D.sim f i h H).mono (ϖ _) (λ_ _ _=>rfl) (λb _=>hOin b) (λ_ _=>rfl) λN S hr=>u N S (Yi n2 H hr)
  .rename_i C
   rw [r f i C];obtain ⟨o1,G,E,_⟩:=I f i h H;refine (E.1 _ _ _ _ (Q.sim f i o1 G)).mono Y hbb V (λb hv=>D.keep b (Q.mine b ⟨f,i,o1,G,hv⟩).1 (hOR b ⟨f,i,h,H,hv⟩).2) λN S hr=>X N S (E.2.1 N S hr)
 .rw [R] at H J
  have cross:∀{f i N S:Nat} {h U:AI} {b:Nat},f∈M ->N∉M ->dr T f i=some h ->dr o N S=some U ->B6 (t f i)=some b ->B6 (c N S)=some b ->False:=λ{f i N S h U b} C K H J B L=>by
   have G:=hOR b ⟨N,S,U,J,L⟩;rcases (D.mine b ⟨f,i,h,H,B⟩).2 with E | E
   .exact G.2 E
   .exact absurd (Q.mine b G.1).1 (Nat.not_lt.2 E)
  by_cases C:f∈M<;>by_cases K:N∈M
  .rw [ϱ C] at H;rw [ϱ K] at J;rw [u _ _ C] at B;rw [u _ _ K] at L;exact D.inj f i N S h U b H J B L
  .rw [ϱ C] at H;rw [θ K] at J;rw [u _ _ C] at B;rw [r _ _ K] at L;exact (cross C K H J B L).elim
  .rw [θ C] at H;rw [ϱ K] at J;rw [r _ _ C] at B;rw [u _ _ K] at L;exact (cross K C J H L B).elim
  .rw [θ C] at H;rw [θ K] at J;rw [r _ _ C] at B;rw [r _ _ K] at L;obtain ⟨o1,G,_⟩:=I f i h H;obtain ⟨o2,E,_⟩:=I N S U J;exact Q.inj f i N S o1 o2 b G E B L
 .rcases Z b B with B | B
  .obtain ⟨G,E⟩:=D.mine b B;refine ⟨G,?_⟩;rcases E with E | E
   .exact (Q.mine b (hOC b E)).2
   .exact .inr (fO Q.size0 E)
  .obtain ⟨G,E⟩:=Q.mine b (hOR b B).1;exact ⟨hU G Y,E⟩
 .have G:b<w.heap.size:=hU W Q.size0;rw [D.keep b G (λhh=>?_)]
  .exact Q.keep b W hn
  .rcases (Q.mine b (hOC b hh)).2 with E | E
   .exact hn E
   .omega
 .obtain ⟨a1,a,cs,a2⟩:=Q.pins f i b y
  by_cases C:f∈M
  .have h3:dr k f i=some (.blk a cs):=by rw [<-hfe.hget C];exact a2
   have hp':CS c k f i=some b:=by simp only [CS,h3,a1]
   obtain ⟨b1,t',cs',b2⟩:=D.pins f i b hp';exact ⟨by rw [u f i C];exact b1,t',cs',by rw [R,ϱ C];exact b2⟩
  .have h3:dr j f i=some (.blk a cs):=by rw [hr0s,θ C];exact a2
   obtain ⟨U,h4,_,_,h5,_⟩:=k2 f i _ h3;obtain ⟨cs',rfl⟩:=h5 a cs rfl;exact ⟨by rw [r f i C];exact a1,a,cs',by rw [R,θ C];exact h4⟩
theorem JA {H:Hp} (V:BP F y c w) (C:List Nat) (M:Bp y k C) (N:AP C k=true) (K:CE C y=some j) (R:Bv (B9 k C) j=some o)
  (G:∀b,(F.Of b\/(Am c y b/\¬Am c k b)) ->b<w.heap.size/\¬Am c k b) (E:BP (B5 F x y k c w G) k c w) (I:BP (B5 F x y k c w G) H t z) (U:AP C H=true) (T:FJ C H=true):
  ∃u,BP F (H++o) u z/\(∀A v,(∀f i,A.Refs f i ->f∈C) ->AR z ((B5 F x y k c w G).O t H) t A v ->AR z (F.O u (H++o)) u A v)/\
   (∀A v,(∀f i,A.Refs f i ->B9 k C f i=true) ->AR w (F.O c y) c A v ->AR z (F.O u (H++o)) u A v)/\(∀f i,B9 k C f i=true ->u f i=c f i)/\nY w z (F.O c y) (F.O u (H++o)):=by
 have D:∀f i,f∈C ->B9 k C f i=true ->t f i=c f i:=λf i J D=>by
  have B:nM (dr k f i)=true:=by
   simp only [B9,Fd.2 J,Bool.not_true,Bool.false_or] at D;exact D
  cases ho:dr k f i with
  | none=>rw [ho] at B;cases B
  | some l=>
   rw [ho] at B
   cases l with
   | blk a cs=>
    obtain ⟨b,us,Q,_⟩:=E.sim f i _ ho;have y:CS c k f i=some b:=by simp only [CS,ho,Q]
    rw [(I.pins f i b y).1,Q]
   | row a r S=>cases B
   | rowD a r S=>cases B
   | loop L=>cases B
   | map _ _=>cases B
   | iter _ _ _ _=>cases B
   | addr _ _ _=>cases B
   | any=>cases B
   | nb _ _ _=>cases B
   | nr _ _ _ _ _=>cases B
   | nm _ _ _=>cases B
   | itz=>cases B
   | multi _=>cases B
 obtain ⟨u,a1,a2,Z,Y,X,W,_⟩:=Pi V C M N (Ur K) (Hl R).1 (Hl R).2 G E I U T D;refine ⟨u,a1,a2,Z,λf i h=>?_,W⟩
 by_cases J:f∈C
 .rw [Y f i J];exact D f i J h
 .exact X f i J
theorem El (A:SR F s c u w) (V:AJ P i h k R) {vs:List Value} (C:vs.length=h.length) (J:∀(b:Nat) a v,h[b]? =some a ->vs[b]? =some v ->AR w (F.O c s.hp) c a v)
  (x:List Nat) (D:Bp s.hp k x) (E:AP x k=true) (K:CE x s.hp=some j) (hE:B8 (B9 k x) s.env=some f) (Y:Bv (B9 k x) j=some o)
  (W:∀r z,R r z ->AP x z=true/\FJ x z=true/\r.ok (I7 x)=true):
  Calls P i vs.toArray w λe I=>∃v r z l,e= .returned v/\R r z/\AR I (F.O l (z++o)) l r v/\SR F ⟨s.n,f,z++o⟩ l u I/\∀i b,B9 k x i b=true ->l i b=c i b:=by
 obtain ⟨H,y,X⟩:=Ej (.marks w.heap.size) A.heap x D E;refine (V.2 (B5 F (.marks w.heap.size) s.hp k c w H) c vs Z Z ⟨Z,Z,Z⟩ y C (λb a v M T=>by rw [X];exact J b a v M T)).mono λe I ⟨v,r,z,N,e1,G,B,L⟩=>?_;obtain ⟨S,Q,O⟩:=W r z G;obtain ⟨l,g1,g2,g3,g4,g5,g6,g7⟩:=JA A.heap x D E K Y H y L S Q;refine ⟨v,r,z,l,e1,G,g2 r v (λi b U=>Fd.1 (AV.ok_spec O U)) B,⟨A.size,A.defs.mono g5 g6 g7,λt a M=>?_,g1⟩,g4⟩;rcases DH hE M with rfl | ⟨h1,h2⟩
 .exact .top
 .exact g3 _ _ h2 (A.env t a h1)
theorem Cj {c:Func} (r:P.funcs[i]? =some c) (b:(c.name== "runtime.NumGoroutine")=false) (k:c.body.isSome=true) {j:Option Nat}:
  (execOp u.eval ⟨j,.call {callee:= .value (.func i),args:=a.toArray,argTypes:=at_},ty,pos,aft,g⟩).run P w= .ok (.enter i (a.map u.eval).toArray) w:=by
 have o:¬c.body=none:=by intro h;rw [h] at k;cases k
 have l:¬c.name= "runtime.NumGoroutine" :=by simpa using b
 simp [*,execOp,resolve,Act.eval,Deferred.ofValue,invoke,callFunc]
theorem UY (D:AJ P i h k R) (l:KH s a=some h)
  (b:List Nat) (z:Bp s.hp k b) (A:AP b k=true) (y:CE b s.hp=some j) (J:B8 (B9 k b) s.env=some f) (I:Bv (B9 k b) j=some o)
  (H:∀r c,R r c ->AP b c=true/\FJ b c=true/\r.ok (I7 b)=true) (G:Nat.blt d s.n=true):
  O0 P F ⟨some d,.call {callee:= .value (.func i),args:=a.toArray,argTypes:=at_},ty,pos,aft,g⟩ s (λE=>∃r c,R r c/\E=⟨s.n,(d,r)::f,c++o⟩):=λT S w C=>by
 obtain ⟨V,O,N,M⟩:=D.1;obtain ⟨L,K⟩:=CJ C l;unfold Oper.wp;rw [Cj O N M,Oper.upon_enter];refine (El C D L K b z A y J I H).mono λe U ⟨v,r,c,t,Q,B,u,x,_⟩=>?_;subst Q;exact ⟨_,t,⟨Z,r,c,B,Z⟩,x.put (IB G) u⟩
theorem EX {y:Hp} {z:AV} (M:AJ P i h k λr K=>r=z/\K=y) (l:KH s a=some h)
  (b:List Nat) (C:Bp s.hp k b) (D:AP b k=true) (B:CE b s.hp=some j) (R:B8 (B9 k b) s.env=some f) (Q:Bv (B9 k b) j=some o)
  (H:AP b y=true) (G:FJ b y=true) (E:z.ok (I7 b)=true) (O:Nat.blt d s.n=true) {x:Hp} (c:some (y++o)=some x):
  AH P F ⟨some d,.call {callee:= .value (.func i),args:=a.toArray,argTypes:=at_},ty,pos,aft,g⟩ s ⟨s.n,(d,z)::f,x⟩ (B9 k b):=by
 injection c with c
 subst c;intro Z Y w L;obtain ⟨fn,W,V,U⟩:=M.1;obtain ⟨T,S⟩:=CJ L l;unfold Oper.wp;rw [Cj W V U,Oper.upon_enter];refine (El L M T S b C D B R Q (λr K ⟨J,I⟩=>by subst J I;exact ⟨H,G,E⟩)).mono λe w' ⟨v,r,K,t,J,⟨I,X⟩,u,A,N⟩=>?_;subst J I X;exact ⟨t,A.put (IB O) u,N⟩
theorem BT {x:D} (N:AK P i h x) (I:KH s a=some h) (R:Nat.blt d s.n=true):
  AA P F ⟨some d,.call {callee:= .value (.func i),args:=a.toArray,argTypes:=at_},ty,pos,aft,g⟩ s d (.d x):=by
 refine ⟨R,Z,λz act w l=>?_⟩;obtain ⟨fn,X,W,V⟩:=N.1;obtain ⟨U,T⟩:=CJ l I;unfold Oper.wp;rw [Cj X W V,Oper.upon_enter];have E:∀z b,¬Am z [] b:=λz b ⟨_,_,_,j,_⟩=>by cases j
 let L:Fr:=Fr.mk none (.marks w.heap.size) w (F.O z s.hp) (Am z []) (CS z []) (λb A=>⟨by
  rcases A with A | A
  .exact hU (F.hOf b A).1 l.heap.size0
  .exact (l.heap.mine b A).1,E z b⟩) [] (λ_ _ _ j=>DF j)
 have O:∀B,L.O B []=F.O z s.hp:=λB=>funext λb=>propext ⟨λj=>j.elim id λj=>(E B b j).elim,.inl⟩
 have H:BP L [] z w:=⟨(λi c o J=>by cases J),(λi c f' i' o o' b J=>by cases J),λb A=>(E z b A).elim,Z,Z,Z,ϖ _,λ_ _ _=>rfl,λi c b A=>mL A,ϖ _⟩
 refine (N.2 L z _ Z Z ⟨Z,Z,Z⟩ H U (λc k v S K=>by rw [O];exact T c k v S K)).mono λe M ⟨v,r,H',B,e1,⟨e2,Y⟩,t,y⟩=>?_;subst e1 e2 Y;have G:∀b,b<w.heap.size ->M.heap[b]? =w.heap[b]?:=λb u=>y.keep b u (E z b);have C:w.heap.size<=M.heap.size:=y.size0;refine ⟨v,Z,?_,?_,C,G⟩
 rotate_left
 .refine ⟨λi c o J=>?_,l.heap.inj,λb A=>⟨hU (l.heap.mine b A).1 C,(l.heap.mine b A).2⟩,y.os.trans l.heap.os,y.tape.trans l.heap.tape,y.output.trans l.heap.output,fO l.heap.size0 C,λb u Q=>?_,l.heap.pins,fO l.heap.drawn y.drawn⟩
  .exact (l.heap.sim i c o J).mono C (λb u _=>G b u) (λ_ _ j=>j) (λb K=>G b (l.heap.mine b ⟨i,c,o,J,K⟩).1) λ_ _ _=>rfl
  .rw [G b (hU u l.heap.size0)];exact l.heap.keep b u Q
 .cases t with
  | d t=>rw [O] at t;exact .d t
end
end Go.Proofs.YteifpcnphnhaoaaGreat
