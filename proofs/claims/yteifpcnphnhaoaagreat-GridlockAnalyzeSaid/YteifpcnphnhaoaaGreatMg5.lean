import Derived.Test.YteifpcnphnhaoaaGreatMg4
import Derived.Deep.AppendSrc
namespace Go.Proofs.YteifpcnphnhaoaaGreat
open Go.RowKit
theorem Ot{P:Program}(w:World)(t J Q e:TypeId)(o bytes:Nat)(T:jd P t e o bytes)(v:Value)(n:Nat)(xs:List Value)(c:w.ownsRow 0 e o v n xs)(x:Value)(m:Nat)(a:List Value)(E:Src P o J x m a w)(s:(n+m)*bytes<=140737488355328):
  ∃O X,(Builtin.append_ #[t,J] Q #[v,x]).run P w= .ok O X/\X.ownsRow 0 e o O (n+m) (xs++a)/\w.grownBy X v.ownBlock/\(O.ownBlock=v.ownBlock\/O.ownBlock=some w.heap.size):=by
 obtain ⟨i,z,V,hz,D,hby,Y⟩:=T.info;have R:=T.ht;have hsz:=T.pos;have hbp:=T.pos';subst D hby
 have N:n+m<=maxLen:=by
  have:(n+m)*1<=(n+m)*i.bytes:=Nat.mul_le_mul_left _ hbp;unfold maxLen;omega
 have S:n+m<=9223372036854775807:=by simp only[maxLen] at N;omega
 have U:=E.newsLen;have r:(xs++a).length=(n+m)*i.size:=by rw[Δ,c.1,U,m8]
 have B:∀(f:Nat),f<n+m->∀(K:Option Nat),
   (w.drew.alloc (.cells ((xs++a).toArray++Builtin.zeroCells z.cells (grownCap w (n+m) f e-(n+m))) e)).ownsRow 0 e i.size
    (.slice (some ⟨w.heap.size,0,none⟩) (n+m) (grownCap w (n+m) f e)) (n+m) (xs++a)/\
   w.grownBy (w.drew.alloc (.cells ((xs++a).toArray++Builtin.zeroCells z.cells (grownCap w (n+m) f e-(n+m))) e)) K:=by
  intro f ho K;have hge:=grownCap_ge w (n+m) f e;have H:grownCap w (n+m) f e<=maxLen:=grownCap_le_maxLen w (n+m) f e N;refine ⟨⟨r,.inr ⟨w.heap.size,_,_,Z,κ _,heap_alloc_new w.drew _,hge,H,?_,?_⟩⟩,⟨Z,Z,Z,by simp,λk I _=>Below.heap_alloc w.drew _ k I⟩⟩
  .simp only[Array.size_append,List.size_toArray,size_zeroCells,Y,r,<-m8]
   congr 1
   omega
  .simp only[Array.toList_append];rw[<-r];exact List.take_left
 rcases c.2 with ⟨rfl,rfl⟩ | ⟨g,l,A,rfl,hbg,hg,hnc,H,M,C⟩
 .have hx:xs=[]:=m5 (by simpa using c.1);subst hx
  by_cases hm:m=0
  .subst hm;have hn:a=[]:=m5 (by simpa using U);subst hn;refine ⟨.slice none 0 0,w,?_,World.ownsRow_nil w 0 e i.size,⟨Z,Z,Z,Θ _,λ_ _ _=>rfl⟩,.inl Z⟩;have hc:=E.cells;rcases E.kind with ⟨e',I⟩ | I<;>simp[Builtin.append_,run_underlying R,run_underlying I,sizeOf,typeInfo,V,E.len,hc]
  .have F:=run_append_grow_src (P:=P) w t J Q e i z R V hz none 0 0 [] (run_firstCells_none w.drew i.size 0 0 0) x m a E (by omega) (by omega) (growslice_fits (by omega) s);have y:=B 0 (by omega) (Value.ownBlock (.slice none 0 0));simp only[lY,kP] at F y⊢;exact ⟨_,_,F,y.1,y.2,.inr Z⟩
 .by_cases h:n+m<=l
  .have L:n*i.size+a.length<=A.size:=by rw[U,M,<-m8];exact lq _ h
   have hg':w.heap[g]? =some (.cells A.toList.toArray e (0,0)):=by simpa using hg
   have F:=run_append_room_src (P:=P) w t J Q e i R V g 0 n l x m a E h (λj hj=>by
    rw[cell_of_row w g _ A e (0,0) hg];simp;omega) (λj hj=>by simp[World.frozen?,hg])
   rw[lY] at F;obtain ⟨g1,g2,g3,g4⟩:=vM (b:=g) a (n*i.size) w;refine ⟨_,_,F,⟨r,.inr ⟨g,l,_,Z,hbg,vJ _ _ _ _ hg',h,H,by simp[cV,M],?_⟩⟩,⟨g1,g2,g3,Nat.le_of_eq g4.symm,λk _ I=>vK _ _ _ _ λe=>I (by simp[Value.ownBlock,e])⟩,.inl Z⟩;show (GU A.toList (n*i.size) a).take ((n+m)*i.size)=xs++a;rw[m8,<-U,MS _ _ _ _ (Θ _) (by simpa using L)]
   apply ma
   intro j;rw[DV a (A.toList.take (n*i.size+a.length)) (n*i.size) (by have:=me (xs:=A);rw[θ];omega) j,List.getElem?_append,md,c.1]
   by_cases W:j<n*i.size
   .rw[υ (by omega),ϱ (by omega),ϱ W,<-C,md,ϱ W]
   .by_cases h2:j<n*i.size+a.length
    .rw[ϱ ⟨by omega,h2⟩,υ W]
    .have h3:a.length<=j-n*i.size:=by omega
     rw[υ (λhh=>h2 hh.2),υ h2,υ W,mQ h3]
  .have G:∀j u,xs[j]? =some u->w.cell? ((⟨g,0,none⟩:Addr).add j)=some u:=c.cells (g:=g) rfl;have F:=run_append_grow_src (P:=P) w t J Q e i z R V hz (some ⟨g,0,none⟩) n l xs (run_firstCells_some w.drew i.size n ⟨g,0,none⟩ n l xs c.1 (by simpa using G)) x m a E (by omega) (by omega) (growslice_fits (by omega) s);have y:=B l (by omega) (Value.ownBlock (.slice (some ⟨g,0,none⟩) n l));exact ⟨_,_,F,y.1,y.2,.inr Z⟩
theorem JK{a:Option Addr}{n c:Nat}:CA (.slice a n c)=(Value.slice a n c).ownBlock:=by cases a<;>rfl
section
variable{P:Program}{F:Fr}{s:AS}{d:Nat}{ty T T2 E:TypeId}{pos:String}{aft:Array Edge}{g:Option (Nat×Bool)}{x y:Operand}{k:IntKind}{i:Int}
variable{a:List (Nat×AV)}{c f:List (Nat×List AM)}{h j:List D}{o t u w z:Nat}
theorem Nl{N:Nat->Nat->Value}{H:Act}{r:World}(hs:SR F s N H r){zs:List D}(hx:s.ev x=some (.own u w z))(ho:dd s.hp u w=some (.rowD E o h))(hn:z<=h.length)(S:jd P T E o t){I:List Value}(X:Src P o T2 (H.eval y) j.length I r)(M:GQ D.cells o (A0 r (F.O N s.hp)) j I)(Z:∀l∈j,∀C∈l.cells,C.one=true)(K:(z+j.length)*t<=140737488355328)(hE:Ab u s.env=some a)(hH:Aa u s.hp=some c)(hz:h.take z++j=zs)(hh:Be c u w (.rowD E o zs)=some f):
  ∃U R,(Builtin.append_ #[T,T2] ty #[H.eval x,H.eval y]).run P r= .ok U R/\SR F ⟨s.n,a,f⟩ (upd N u w U) H R/\∀r O,A8 r O (upd N u w U) (.own u w (z+j.length)) U:=by
 have B:=hs.ev hx
 generalize hv:H.eval x=v at B
 obtain ⟨us,G,cap,e1,h1,h2,h3,h4,h5⟩:=hs.rowD ho
 cases B with
 | own W hn'=>
  rw[e1] at W;injection W with e2 e3 e4
  subst e2 e3 e4;obtain ⟨U,R,r1,r2,V,Q⟩:=Ot (P:=P) r T T2 ty E o t S _ z _ (Sk h1 hn) (H.eval y) j.length I X K;obtain ⟨a',cap',e5,q1,q2,q3,q4⟩:=Hj r2;subst e5;have hzl:zs.length=z+j.length:=by rw[<-hz,Δ,θ];omega
  refine ⟨_,R,r1,?_,λr O=> .own Qg (Θ _)⟩;refine hs.set u w (.rowD E o zs) _ hE hH (BB hh) (λA cs e=>by rw[ho] at e;cases e) (λb K=>?_) V.os V.tape V.output V.size (λb hlt hne=>V.block b hlt λe=>hne ⟨⟨_,ho⟩,?_⟩) (λY=>?_) (aW r1)
  .rw[JK] at K;rcases Q with Q | Q
   .left
    refine ⟨⟨_,ho⟩,?_⟩;rw[e1,JK,<-K,Q]
    cases G<;>rfl
   .right
    rw[Q] at K;injection K with K
    subst K;have:=(World.ownsRow.lt r2 r.heap.size Q).2;omega
  .rw[e1,JK]
   cases G with
   | none=>simp[Value.ownBlock] at e
   | some G=>exact e.symm
  .have L:∀C v,A0 r (F.O N s.hp) C v->A0 R (F.O (upd N u w (.slice a' (z+j.length) cap')) f) C v:=λC v hr=>by
    have:=Y (.d C) v (λi B=>by cases B) (.d hr)
    cases this with | d B=>exact B
   refine ⟨us.take (z*o)++I,by rw[hzl];exact r2,?_,λl J C hc=>?_⟩
   .rw[<-hz];exact ((h2.take z hn).append M).mono λx _ C _ v hu=>L C v hu
   .rw[<-hz] at J;rcases ν.1 J with J | J
    .exact h3 l (lL J) C hc
    .exact Z l J C hc
theorem Wt{m:Nat}{V:Option Bool}{zs:List D}(U:s.ev x=some (.own u w z))(hy:s.ev y=some (.d (.sl V j)))(ho:dd s.hp u w=some (.rowD E o h))(hn:z<=h.length)(S:jd P T E o t)(hk:∀b∈j,b.cells.length=o)(hm:j.length=m)(hb:(z+m)*t<=140737488355328)(hE:Ab u s.env=some a)(hH:Aa u s.hp=some c)(hz:h.take z++j=zs)(hh:Be c u w (.rowD E o zs)=some f)(hd:Nat.blt d s.n=true):
  AH P F ⟨some d,.call {callee:= .builtin .append,args:= #[x,y],argTypes:= #[T,T]},ty,pos,aft,g⟩ s ⟨s.n,(d,.own u w (z+m))::a,f⟩ (Bt u):=λρ R r hs=>by
 subst hm;have W:=hs.repD hy;obtain ⟨C,Q,e,_⟩:=W.sl_len;rw[e] at W;obtain ⟨G,O,g2,g3,_⟩:=W.lies hk
 have M:∀v∈G,v.oneCell'=true:=λv K=>by
  obtain ⟨q,hq,rfl⟩:=km K;have X:q<j.length*o:=by rw[<-g2.1];exact hq
  have N:0<o:=S.pos;have hi:q / o<j.length:=(Nat.div_lt_iff_lt_mul N).2 X;obtain ⟨x,U⟩:=List.getElem?_some_of_lt hi;obtain ⟨B,hc⟩:=List.getElem?_some_of_lt (l:=x.cells) (i:=q % o) (by rw[hk x (ϖ U)];exact Nat.mod_lt _ N);obtain ⟨v,I,Z,_⟩:=g2.2.2 _ x U _ B hc;rw[show q / o*o+q % o=q by rw[mg];exact Nat.div_add_mod q o,ω hq] at I;injection I with I;rw[I];exact Z
 have L:Src P o T (R.eval y) j.length G r:=by
  rw[e]
  cases C with
  | none=>
   have H:j.length=0:=by
    rcases Nat.eq_zero_or_pos j.length with H | H
    .exact H
    .obtain ⟨_,I,_⟩:=O.2 H;cases I
   have J:G=[]:=m5 (by rw[O.1,H,Nat.zero_mul]);rw[H,J];exact Src.ofNil r S.ht Q
  | some ad=>
   refine Src.ofSlice r S.ht ad j.length Q G O.1 (λw v K=>?_) M
   have H:0<j.length:=by
    rcases Nat.eq_zero_or_pos j.length with H | H
    .have J:G=[]:=m5 (by rw[O.1,H,Nat.zero_mul]);rw[J] at K;simp at K
    .exact H
   obtain ⟨ad',I,_,Z⟩:=O.2 H;injection I with I;subst I
   exact Z w v K
 obtain ⟨v',w',r1,r2,r3⟩:=Nl (ty:=ty) hs U ho hn S L g2 g3 hb hE hH hz hh
 have Y:(execOp R.eval ⟨some d,.call {callee:= .builtin .append,args:= #[x,y],argTypes:= #[T,T]},ty,pos,aft,g⟩).run P r= .ok (.value v') w':=by
  simp[execOp,resolve,invoke,builtin,r1]
 unfold Oper.wp;rw[Y];exact ⟨_,r2.put (I0 hd) (r3 _ _),λu i A=>O3 λe=>Tl A e.1⟩
theorem H9{f2 j2 m:Nat}{H zs:List D}(Y:s.ev x=some (.own u w z))(hy:s.ev y=some (.own f2 j2 m))(ho:dd s.hp u w=some (.rowD E o h))(hn:z<=h.length)(ho2:dd s.hp f2 j2=some (.rowD E o H))(K:H.take m=j)(hm:m<=H.length)(S:jd P T E o t)(hb:(z+m)*t<=140737488355328)(hE:Ab u s.env=some a)(hH:Aa u s.hp=some c)(hz:h.take z++j=zs)(hh:Be c u w (.rowD E o zs)=some f)(hd:Nat.blt d s.n=true):
  AH P F ⟨some d,.call {callee:= .builtin .append,args:= #[x,y],argTypes:= #[T,T]},ty,pos,aft,g⟩ s ⟨s.n,(d,.own u w (z+m))::a,f⟩ (Bt u):=λρ M v Z=>by
 have B:=Z.ev hy
 generalize hv:M.eval y=A at B
 obtain ⟨X,G,L,e1,W,h2,h3,h4,h5⟩:=Z.rowD ho2;have I:j.length=m:=by rw[<-K,θ];omega
 have N:=h2.take m hm;rw[K] at N
 have U:∀A∈X.take (m*o),A.oneCell'=true:=λA J=>by
  obtain ⟨q,hq,rfl⟩:=km J;have hq':q<j.length*o:=by rw[<-N.1];exact hq
  have V:0<o:=S.pos;have hi:q / o<j.length:=(Nat.div_lt_iff_lt_mul V).2 hq';obtain ⟨x,Y⟩:=List.getElem?_some_of_lt hi;obtain ⟨C,hc⟩:=List.getElem?_some_of_lt (l:=x.cells) (i:=q % o) (by rw[N.2.1 x (ϖ Y)];exact Nat.mod_lt _ V);obtain ⟨A,W,h2,_⟩:=N.2.2 _ x Y _ C hc;rw[show q / o*o+q % o=q by rw[mg];exact Nat.div_add_mod q o,ω hq] at W;injection W with W;rw[W];exact h2
 have R:Src P o T (M.eval y) j.length (X.take (m*o)) v:=by
  rw[hv,I]
  cases B with
  | own O hn'=>
   rw[e1] at O;injection O with e2 e3 e4
   subst e2 e3 e4;have hl:(X.take (m*o)).length=m*o:=by rw[N.1,I]
   rcases Nat.eq_zero_or_pos H.length with h0 | h0
   .have hm0:m=0:=by omega
    subst hm0;have hn0:X.take (0*o)=[]:=by simp
    rw[hn0]
    cases G with
    | none=>exact Src.ofNil v S.ht L
    | some ad=>exact Src.ofSlice v S.ht ad 0 L [] (by simp) (λw A J=>by simp at J) (by simp)
   .obtain ⟨b,rfl,cur,h6,h7,h8⟩:=h5 h0;refine Src.ofSlice v S.ht ⟨b,0,none⟩ m L _ hl (λw A J=>?_) U;rw[md] at J
    split at J
    .rw[Addr.add_mid,lY];exact EL h6 h8 J
    .cases J
 rw[<-I] at hb;obtain ⟨v',w',r1,r2,r3⟩:=Nl (ty:=ty) Z Y ho hn S R N (λr Q C hc=>h3 r (by rw[<-K] at Q;exact lL Q) C hc) hb hE hH hz hh
 have hex:(execOp M.eval ⟨some d,.call {callee:= .builtin .append,args:= #[x,y],argTypes:= #[T,T]},ty,pos,aft,g⟩).run P v= .ok (.value v') w':=by
  simp[execOp,resolve,invoke,builtin,r1]
 unfold Oper.wp;rw[hex,<-I];exact ⟨_,r2.put (I0 hd) (r3 _ _),λu i B=>O3 λe=>Tl B e.1⟩
theorem J0{t:TypeId}{I:Operand}{K:IntKind}{G:Int}(l:Nat)(L:s.ev x=some (.own u w z))(C:s.ev I=some (.d (.raw (.int K G))))(Q:G=(l:Int))(A:l<=h.length)(N:dd s.hp u w=some (.rowD t o h))(S:P.underlying T=some (.slice E))(U:A3 P E o=true)(R:Nat.blt d s.n=true):
  AA P F ⟨some d,.slice T x none (some I) none,ty,pos,aft,g⟩ s d (.own u w l):=
 DD _ R λW D b B=>by
  have H:=B.ev L
  generalize M:D.eval x=c at H
  obtain ⟨X,a,r,J,h1,h2,Z,V,Y⟩:=B.rowD N
  cases H with
  | own v O=>
   rw[J] at v;injection v with e2 e3 e4
   subst e2 e3 e4;subst Q;refine ⟨.slice (if r=0 then a else a.map (·.add (0*o))) (l-0) (r-0),by simp only[execOp,M,l0,m9,B.raw C,Sem.run_bind,He S (Zl U) (jq A V.1),Result.andThen_ok,Sem.run_pure],?_⟩
   have:(if r=0 then a else a.map (·.add (0*o)))=a:=by
    split
    .rfl
    .cases a<;>simp[Addr.add]
   rw[this];exact .own J A
end
def LI(s:AS):Nat->List (Nat×Operand)->Option (List D)
 | _,[]=>some []
 | i,(j,x)::r=>match Nat.beq i j with
  | false=>none
  | true=>match s.ev x with
   | some (.d v)=>match LI s (i+1) r with
    | none=>none
    | some l=>some (v::l)
   | _=>none
def TX(k:Nat):List D->Bool
 | []=>true
 | x::r=>(match x with | .tup _=>false | _=>true) && Nat.beq x.cells.length k && TX k r
theorem Vm{k:Nat}{a:List D}(h:TX k a=true):∀x∈a,x.cells.length=k/\(∀b,x≠ .tup b):=by
 induction a with
 | nil=>simp
 | cons x r c=>
  simp only[TX,kQ] at h
  grind[kn]
theorem A0.cellsOf{w:World}{O:Nat->Prop}{x:D}{v:Value}(h:A0 w O x v)(l:∀b,x≠ .tup b):
  v.cells.toList.length=x.cells.length/\(∀c∈x.cells,c.one=true)/\∀(q:Nat) c,x.cells[q]? =some c->∃u,v.cells.toList[q]? =some u/\u.oneCell'=true/\A0 w O c u:=by
 have one:∀{x:D} {v:Value},x.one=true->A0 w O x v->v.cells.toList.length=x.cells.length/\(∀c∈x.cells,c.one=true)/\∀(q:Nat) c,x.cells[q]? =some c->∃u,v.cells.toList[q]? =some u/\u.oneCell'=true/\A0 w O c u:=λ{x v} r h=>by
  have o:=h.oneCell r;have a:v.cells.toList=[v]:=by cases v<;>first | rfl | cases o
  grind[D.cells_one]
 cases x with
 | agg b=>
  cases h with
  | @agg _ f k j s=>
   refine ⟨by simpa [Value.cells,D.cells] using k,j,λq c a=>?_⟩;have i:q<f.length:=by rw[k];exact (φ.1 a).1
   have g:=s q c f[q] a (ω i);exact ⟨f[q],by simp[Value.cells,i],g.oneCell (j c (ϖ a)),g⟩
 | tup b=>exact absurd Z (l b)
 | raw _=>exact one Z h
 | sl _ _=>exact one Z h
 | ptr _=>exact one Z h
 | fn _ _ _=>exact one Z h
theorem UZ{w:World}{O:Nat->Prop}{ρ:Nat->Nat->Value}{E:TypeId}{k:Nat}{xs:List D}{r:Array Value}(l:xs.length<=maxLen)(a:r.size=xs.length*k)(h:∀(i:Nat) x,xs[i]? =some x->x.cells.length=k/\(∀c∈x.cells,c.one=true)/\∀(q:Nat) c,x.cells[q]? =some c->∃u,r[i*k+q]? =some u/\u.oneCell'=true/\A0 (w.alloc (.cells r E)) O c u):
  BA (w.alloc (.cells r E)) O ρ (.rowD E k xs) (.slice (some ⟨w.heap.size,0,none⟩) xs.length xs.length):=by
 refine ⟨r.toList,⟨by simpa using a,.inr ⟨w.heap.size,xs.length,r,Z,κ _,heap_alloc_new w _,Θ _,l,a,by rw[<-a,<-me,kW]⟩⟩,⟨by simpa using a,λx b=>?_,λi x b j c g=>?_⟩,λx b c g=>?_⟩
 .obtain ⟨i,f,rfl⟩:=km b;exact (h i _ (ω f)).1
 .grind
 .obtain ⟨i,f,rfl⟩:=km b;exact (h i _ (ω f)).2.1 c g
section
variable{P:Program}{F:Fr}{s:AS}{d:Nat}{ty T T2 E:TypeId}{pos:String}{aft:Array Edge}{g:Option (Nat×Bool)}{x y:Operand}{k:IntKind}{i:Int}
variable{a:List (Nat×AV)}{c f:List (Nat×List AM)}
theorem LH{f:Nat->Nat->Value}{a:Act}{w:World}(o:SR F s f a w):∀(l:List (Nat×Operand)) (i:Nat) (b:List D),LI s i l=some b→
  (l.map λp=>(p.1,a.eval p.2))=(((l.map λp=>a.eval p.2).zipIdx i).map λx=>(x.2,x.1))/\l.length=b.length/\∀(q:Nat) x,b[q]? =some x->∃v,(l.map λp=>a.eval p.2)[q]? =some v/\A0 w (F.O f s.hp) x v
 | [],_,b,h=>by simp only[LI,Option.some.injEq] at h;subst h;simp
 | (j,x)::r,i,b,h=>by
  simp only[LI] at h
  split at h
  .cases h
  .rename_i A
   have:=kn A;subst this
   split at h
   .rename_i v u
    split at h
    .cases h
    .rename_i t B
     injection h with h;subst h
     obtain ⟨H,G,C⟩:=LH o r (i+1) t B;refine ⟨by simp[H],by simp[G],λq z c=>?_⟩
     cases q with
     | zero=>simp at c;subst c;exact ⟨_,by simp,o.repD u⟩
     | succ q=>exact C q z (by simpa using c)
   .cases h
theorem CB(b:Nat){l:List (Nat×Operand)}{n o by_:Nat}{xs:List D}(S:jd P T E o by_)(hp:LI s 0 l=some xs)(hn:Nat.beq l.length n=true)(hk:TX o xs=true)(hb:Nat.ble (n*o) 16777216=true)(hE:Ab b s.env=some a)(hH:Aa b s.hp=some c)(hh:Cu c b (.rowD E o xs)=some f)(hd:Nat.blt d s.n=true):
  AH P F ⟨some d,.buildSlice T n l.toArray,ty,pos,aft,g⟩ s ⟨s.n,(d,.own b 0 n)::a,f⟩ (Bt b):=λρ t w hs=>by
 have:=kn hn;subst this;obtain ⟨ti,z,h1,h2,h3,h4,h5⟩:=S.info;have hT:=S.ht;obtain ⟨a1,W,a3⟩:=LH hs l 0 xs hp;have hbn:=Nat.le_of_ble_eq_true hb;have B:=Vm hk
 have hcs:∀v∈l.map (λp=>t.eval p.2),v.cells.size=o:=λv hv=>by
  obtain ⟨q,hq,rfl⟩:=km hv;rw[χ] at hq;obtain ⟨x,I⟩:=List.getElem?_some_of_lt (l:=xs) (i:=q) (by omega);obtain ⟨v,A,G⟩:=a3 q x I;rw[ω (by simpa using hq)] at A;injection A with A
  rw[A];obtain ⟨V,b2⟩:=B x (ϖ I);rw[<-V,<-(G.cellsOf b2).1,me]
 obtain ⟨r,R,r2,r3⟩:=Great.fill_dense S.pos (l.map λp=>t.eval p.2) 0 ((Array.range (l.length*o)).map ((if l.length*o=0 then #[] else z.cells)[· % (if l.length*o=0 then #[] else z.cells).size]!)) hcs (by simp)
 have K:(Instr.buildSlice T l.length (l.toArray.map λp=>(p.1,t.eval p.2))).run P w= .ok (.slice (some ⟨w.heap.size,0,none⟩) l.length l.length) (w.alloc (.cells r E)):=by
  have hl:(l.toArray.map λp=>(p.1,t.eval p.2)).toList=((l.map λp=>t.eval p.2).zipIdx 0).map λx=>(x.2,x.1):=by simpa using a1
  have C:¬(16777216<l.length*o):=by omega
  have J:=nQ (P:=P) (T:=E) (n:=o) (by rw[h1];simp[h3]) w
  by_cases U:l.length*o=0
  .simp only[ϱ U] at R;simp only[Instr.buildSlice,Sem.run_bind,run_underlying hT w,Result.andThen_ok,J,υ C,ϱ U,Sem.run_pure,hl,R,newRow,newObj,Sem.run,World.alloc_eq]
  .simp only[υ U] at R;have X:(zeroValue E).run P w= .ok z w:=by simp[zeroValue,typeInfo,h1,h2]
   simp only[Instr.buildSlice,Sem.run_bind,run_underlying hT w,Result.andThen_ok,J,υ C,υ U,Sem.run_pure,hl,R,newRow,newObj,Sem.run,World.alloc_eq,X]
 have hex:(execOp t.eval ⟨some d,.buildSlice T l.length l.toArray,ty,pos,aft,g⟩).run P w= .ok (.value (.slice (some ⟨w.heap.size,0,none⟩) l.length l.length)) (w.alloc (.cells r E)):=by
  simp only[execOp,Sem.run_bind];have:(l.toArray.map λ(x:Nat×Operand)=>match x with | (i,x)=>(i,t.eval x))=(l.toArray.map λp=>(p.1,t.eval p.2)):=rfl;rw[this,K];rfl
 unfold Oper.wp;rw[hex];have H:r.size=xs.length*o:=by rw[r2,<-W];simp
 have Q:xs.length<=maxLen:=by
  have:xs.length*1<=xs.length*o:=Nat.mul_le_mul_left _ S.pos;unfold maxLen;rw[<-W] at this⊢;omega
 have Y:=hs.new b (.rowD E o xs) (.slice (some ⟨w.heap.size,0,none⟩) l.length l.length) (.cells r E) hE hH hh Z (λL=>by
  have M:=UZ (w:=w) (O:=F.O (upd ρ b 0 (.slice (some ⟨w.heap.size,0,none⟩) l.length l.length)) f) (ρ:=upd ρ b 0 (.slice (some ⟨w.heap.size,0,none⟩) l.length l.length)) (E:=E) (k:=o) (xs:=xs) (r:=r) Q H;rw[<-W] at M;refine M λi x I=>?_;obtain ⟨v,A,G⟩:=a3 i x I;obtain ⟨V,b2⟩:=B x (ϖ I);obtain ⟨c1,c2,c3⟩:=G.cellsOf b2;refine ⟨V,c2,λq j hc=>?_⟩;obtain ⟨u,d1,d2,d3⟩:=c3 q j hc;have N:q<o:=by rw[<-V];exact (φ.1 hc).1
  have hil:i<xs.length:=(φ.1 I).1;refine ⟨u,?_,d2,?_⟩
  .rw[r3,ϱ]
   .have e1:(i*o+q) / o=i:=by rw[mg,Nat.mul_add_div S.pos,Nat.div_eq_of_lt N];rfl
    have e2:(i*o+q) % o=q:=by rw[mg,Nat.mul_add_mod,Nat.mod_eq_of_lt N]
    rw[e1,e2,Nat.sub_zero,A,m6]
    simpa using d1
   .refine ⟨by omega,?_⟩;have:(i+1)*o<=xs.length*o:=lq _ hil;rw[m8] at this;rw[χ,W,lY];omega
  .have:=L (.d j) u (λi h=>by cases h) (.d d3)
   cases this with | d h=>exact h)
 exact ⟨_,Y.put (I0 hd) (.own Qg (Θ _)),λb i h=>O3 λe=>Tl h e.1⟩
def O6(P:Program)(E:TypeId):Option D:=match As P E with
 | none=>none
 | some l=>match QJ l with
  | none=>none
  | some ds=>match P.underlying E with
   | some (.struct _)=>some (.agg ds)
   | some (.array _ _)=>some (.agg ds)
   | some _=>match ds with
    | [x]=>some x
    | _=>none
   | none=>none
theorem Tw{E:TypeId}{x:D}(h:O6 P E=some x):∃l,As P E=some l/\l=x.cells.map .d/\∀c∈x.cells,c.one=true:=by
 unfold O6 at h
 split at h
 .cases h
 .rename_i l b
  split at h
  .cases h
  .rename_i r a
   obtain ⟨j,f⟩:=QI a
   have o:some (D.agg r)=some x->∃l,As P E=some l/\l=x.cells.map .d/\∀c∈x.cells,c.one=true:=λh=>by
    injection h with h;subst h;exact ⟨l,b,j,f⟩
   grind[D.cells_one]
theorem FY(b:Nat){n t A:Nat}{z:D}{Y:IntKind}(S:jd P T E t A)(J:s.ev x=some (.d (.raw (.int k i))))(hy:s.ev y=some (.d (.raw (.int Y i))))(hi:i=(n:Int))(hb:n*A<=140737488355328)(hz:O6 P E=some z)(hE:Ab b s.env=some a)(hH:Aa b s.hp=some c)(hh:Cu c b (.rowD E t (List.replicate n z))=some f)(hd:Nat.blt d s.n=true):
  AH P F ⟨some d,.makeSlice T x y,ty,pos,aft,g⟩ s ⟨s.n,(d,.own b 0 n)::a,f⟩ (Bt b):=λρ V w M=>by
 obtain ⟨ti,v,h1,h2,h3,h4,U⟩:=S.info;have hT:=S.ht;subst hi;have R:=S.pos';have hn1:n*1<=n*A:=Nat.mul_le_mul_left _ R
 have B:=run_make (P:=P) w T E ti v hT h1 h2 k Y (n:Int) (n:Int) (by omega) (Int.le_refl _) (by
  rw[h4];have:((A*n:Nat):Int)<=281474976710656:=by rw[mg];omega
  rwa [Int.natCast_mul] at this) (by omega)
 simp only[Int.toNat_natCast,h3] at B
 have Q:(execOp V.eval ⟨some d,.makeSlice T x y,ty,pos,aft,g⟩).run P w= .ok (.value (.slice (some ⟨w.heap.size,0,none⟩) n n)) (w.alloc (.cells (madeCells v.cells (n*t)) E)):=by
  simp[execOp,M.raw J,M.raw hy,B]
 unfold Oper.wp;rw[Q];obtain ⟨l,l1,X,l3⟩:=Tw hz;obtain ⟨ti',zv',I,H,W⟩:=I6 l1;rw[h1] at I;injection I with I;subst I
 rw[h2] at H;injection H with H;subst H
 have C:=(DH W w (F.O ρ s.hp) ρ).1;rw[X,χ,me,U] at C
 have L:=M.new b (.rowD E t (List.replicate n z)) (.slice (some ⟨w.heap.size,0,none⟩) n n) (.cells (madeCells v.cells (n*t)) E) hE hH hh Z (λhrep=>by
  have u:(List.replicate n z).length=n:=List.length_replicate
  have:=UZ (w:=w) (O:=F.O (upd ρ b 0 (.slice (some ⟨w.heap.size,0,none⟩) n n)) f) (ρ:=upd ρ b 0 (.slice (some ⟨w.heap.size,0,none⟩) n n)) (E:=E) (k:=t) (xs:=List.replicate n z) (r:=madeCells v.cells (n*t))
   (by rw[u];unfold maxLen;omega) (by rw[u,size_madeCells]) (λq x J=>by
    have hq:q<n:=by rw[<-u];exact (φ.1 J).1
    have K:x=z:=by
     have:=ϖ J;exact List.eq_of_mem_replicate this
    subst K;refine ⟨C.symm,l3,λj o hc=>?_⟩;have hj:j<t:=by rw[C];exact (φ.1 hc).1
    have G:j<v.cells.size:=by rw[U];exact hj
    obtain ⟨a1,a2⟩:=(DH W (w.alloc (.cells (madeCells v.cells (n*t)) E)) (F.O (upd ρ b 0 (.slice (some ⟨w.heap.size,0,none⟩) n n)) f) ρ).2 j (.d o) v.cells[j] (by rw[X,ς,hc];rfl) (by simp[G])
    have N:q*t+j<n*t:=by
     have:(q+1)*t<=n*t:=lq _ hq;rw[m8] at this;omega
    refine ⟨v.cells[j],?_,a2,?_⟩
    .have e2:(q*t+j) % t=j:=by rw[mg,Nat.mul_add_mod,Nat.mod_eq_of_lt hj]
     simp only[madeCells];rw[Array.getElem?_map,Array.getElem?_range,ϱ N];simp only[l0,U,e2];rw[getElem!_pos v.cells j G]
    .cases a1 with | d h=>exact h)
  rwa [u] at this)
 exact ⟨_,L.put (I0 hd) (.own Qg (Θ _)),λb i h=>O3 λe=>Tl h e.1⟩
end
variable{a:Nat->Nat->Value}{c:List (Nat×List AM)}{f:List (Nat×AV)}{g:Act}{w:World}{h:List (Nat×List AM)}{F:Fr}{s:AS}
theorem SR.adopt{P:Program}(j:SR F s a g w)(t l:Nat){T E:TypeId}{y B:Nat}(_S:jd P T E y B)(J:get s.env t=some (.d (.sl (some true) [])))(N:Ab l s.env=some f)(D:Aa l s.hp=some h)(L:Cu h l (.rowD E y [])=some c):SR F ⟨s.n,(t,.own l 0 0)::f,c⟩ (upd a l 0 (.slice none 0 0)) g w:=by
 have z:=j.env t _ J
 have I:g.tmps.getD t undef= .slice none 0 0:=by
  generalize g.tmps.getD t undef=v at z
  cases z with
  | d z=>
   cases z with
   | @sl _ _ r n R k V S K Y W X A U=>
    simp_all
 obtain ⟨Q,O⟩:=Hu L;have u:=j.set l 0 (.rowD E y []) (.slice none 0 0) N D Q (λt cs e=>by obtain ⟨o,C,_⟩:=(BF D).2 _ _ _ e;rw[O] at C;cases C) (λb M=>by cases M) Z Z Z (Θ _) (λ_ _ _=>rfl) (λ_=>⟨[],World.ownsRow_nil w 0 E y,⟨by simp,by simp,λi x H=>by simp at H⟩,by simp⟩);refine ⟨u.size,u.defs,λG r A=>?_,u.heap⟩;rcases NL A with ⟨rfl,rfl⟩ | ⟨_,A⟩
 .rw[I];exact .own Qg (Θ _)
 .exact u.env G r A
def Cf(f:Nat):List (Nat×List AM)->Option (List (Nat×List AM))
 | []=>some []
 | (k,l)::r=>match Cf f r with
  | none=>none
  | some r'=>match Nat.beq k f with
   | true=>some r'
   | false=>some ((k,l)::r')
theorem Hv{f:Nat}{a:List (Nat×List AM)}(h:Cf f a=some c):∀g i,dd c g i=if g=f then none else dd a g i:=by
 induction a generalizing c with
 | nil=>simp only[Cf,Option.some.injEq] at h;subst h;simp[dd,ek]
 | cons p r b=>
  obtain ⟨k,l⟩:=p;simp only[Cf] at h
  split at h
  .cases h
  .rename_i t j
   split at h
   .grind[dd,ek,I3]
   .rename_i s
    have o:=mH s;injection h with h;subst h
    intro g i
    by_cases e:k=g
    .grind[dd,ek,l6]
    .have:=b j g i
     grind[dd,ek]
theorem SR.forget(j:SR F s a g w)(l:Nat)(T:Ab l s.env=some f)(S:Aa l s.hp=some h)(E:Cf l h=some c)(Q:∀i t L,dd s.hp l i≠some (.blk t L)):
  SR F ⟨s.n,f,c⟩ a g w/\(∀b,F.O a c b->F.O a s.hp b)/\∀i o b,dd s.hp l i=some o->CA (a l i)=some b->¬F.O a c b:=by
 obtain ⟨Y,N⟩:=BF S;have Z:=Hv E
 have u:∀k i x,dd c k i=some x->∃o,dd s.hp k i=some o/\o.Less (Bt l) x/\k≠l:=λk i x y=>by
  grind
 have G:∀b,F.O a c b->F.O a s.hp b:=λb z=>z.imp id (BL.same λk i x y=>let ⟨o,r,_⟩:=u k i x y;⟨o,r⟩);have D:∀A v,A8 w (F.O a s.hp) a A v->A8 w (F.O a c) a A v:=λA v O=>O.mono (Θ _) (λ_ _ _=>rfl) (λb _=>G b) λ_ _ _=>rfl;refine ⟨⟨j.size,j.defs.mono (Θ _) (λ_ _ _=>rfl) (λb _=>G b),λt r R=>?_,⟨λk i x y=>?_,λk i W I o x b y J z K=>?_,λb z=>?_,j.heap.os,j.heap.tape,j.heap.output,j.heap.size0,j.heap.keep,λk i b P=>?_,j.heap.drawn⟩⟩,G,λi o b y z E=>?_⟩
 .rcases Bk T R with rfl | ⟨B,C⟩
  .exact .top
  .exact D _ _ (j.env t r B)
 .obtain ⟨o,B,C,_⟩:=u k i x y;exact (C.1 _ _ _ _ (j.heap.sim k i o B)).mono (Θ _) (λ_ _ _=>rfl) (λb _=>G b) (λ_ _=>rfl) λ_ _ _=>rfl
 .obtain ⟨M,B,_⟩:=u _ _ _ y;obtain ⟨H,C,_⟩:=u _ _ _ J;exact j.heap.inj k i W I M H b B C z K
 .exact j.heap.mine b (BL.same (λk i x y=>let ⟨o,r,_⟩:=u k i x y;⟨o,r⟩) z)
 .obtain ⟨a1,t,L,X⟩:=j.heap.pins k i b P;obtain ⟨x,a3,_,_,a4,_⟩:=N _ _ _ X
  grind
 .rcases E with E | ⟨k,I,x,B,C⟩
  .exact j.heap.notOf ⟨l,i,o,y,z⟩ E
  .obtain ⟨H,V,_,U⟩:=u _ _ _ B;exact U (j.heap.inj k I l i H o b V y C z).1
theorem SR.freeze(h:SR F s a g w)(t f:Nat){j n kk:Nat}{E:TypeId}{xs ys:List D}{env':List (Nat×AV)}{hp1 hp':List (Nat×List AM)}(S:get s.env t=some (.own f j n))(M:dd s.hp f j=some (.rowD E kk xs))(hn:n<=xs.length)(x:xs.take n=ys)(Z:Ab f s.env=some env')(Y:Aa f s.hp=some hp1)(W:Cf f hp1=some hp')(z:ek s.hp f=some [.rowD E kk xs]):SR F ⟨s.n,(t,.d (.sl none ys))::env',hp'⟩ a g w:=by
 obtain ⟨C,h2,h3⟩:=h.forget f Z Y W (λi t cs e=>by
  simp only[dd,z,m6,Mp (o:= .rowD E kk xs) rfl] at e
  cases i<;>simp at e)
 refine ⟨C.size,C.defs,λR k K=>?_,C.heap⟩;rcases NL K with ⟨rfl,rfl⟩ | ⟨_,K⟩
 .have L:=h.env t _ S
  generalize g.tmps.getD t undef=v at L
  obtain ⟨us,k,cap,P,g1,O,g3,N,g5⟩:=h.rowD M
  cases L with
  | own r U=>
   rw[P] at r;injection r with e2 e3 e4
   subst e2 e3 e4;refine .d (.sl kk (λ_ h=>by cases h) N.2.2 (by rw[<-x,θ];omega) (by omega) N.2.1 (λy H=>O.2.1 y (by rw[<-x] at H;exact lL H)) (λT=>?_) (λb o B i y H=>?_))
   .grind[Nat.eq_zero_or_pos]
   .have l:xs[i]? =some y:=by
     grind
    have V:i<xs.length:=(φ.1 l).1;obtain ⟨G,A,cur,Q,c2,c3⟩:=g5 (by omega);rw[A] at B;injection B with B;injection B with hb1 hb2;subst hb1 hb2
    subst A;have I:G<w.heap.size:=(ll.1 Q).1
    have X:∀(q:Nat) c,y.cells[q]? =some c->∃u,w.cell? ⟨G,0+i*kk+q,none⟩=some u/\A0 w (F.O a hp') c u:=λq c J=>by
     obtain ⟨u,d1,d2,d3⟩:=O.2.2 i y l q c J;exact ⟨u,by rw[lY];exact EL Q c3 d1,d3.mono (Θ _) (λ_ _ _=>rfl) λb _=>h2 b⟩
    refine .ptr (λq=>(w.cell? ⟨G,0+i*kk+q,none⟩).getD undef) I (h3 j _ G M (by rw[P];rfl)) (g3 y (ϖ l)) (λq c J=>?_) (λq c J=>?_)
    .grind
    grind
 .exact C.env R k K
section
variable{P:Program}{F:Fr}{Q:Exit->AS->Prop}{s:AS}{c:Code}{ops:Array Oper}{l:List Oper}
variable{a:List (Nat×List AM)}{f g:List (Nat×AV)}{h i:List (Nat×List AM)}{j:Nat}{E:TypeId}{k:Nat}{o t:List D}{u:Nat}
theorem IY(t o:Nat){T:TypeId}(S:jd P T E k u)(r:get g t=some (.d (.sl (some true) [])))(y:Ab o g=some f)(x:Aa o a=some h)(w:Cu h o (.rowD E k [])=some i)(b:CK P F c Q ⟨j,(t,.own o 0 0)::f,i⟩):CK P F c Q ⟨j,g,a⟩:=λ_ _ _ v=>b _ _ _ (v.adopt t o S r y x w)
theorem Yq(t o:Nat){T:TypeId}(S:jd P T E k u)(r:get g t=some (.d (.sl (some true) [])))(y:Ab o g=some f)(x:Aa o a=some h)(w:Cu h o (.rowD E k [])=some i)(b:Ao P F ops l Q ⟨j,(t,.own o 0 0)::f,i⟩):Ao P F ops l Q ⟨j,g,a⟩:=λ_ _ _ v=>b _ _ _ (v.adopt t o S r y x w)
theorem jQ(b v:Nat){r n:Nat}(y:get g b=some (.own v r n))(A:dd a v r=some (.rowD E k t))(B:n<=t.length)(x:t.take n=o)(G:Ab v g=some f)(D:Aa v a=some h)(C:Cf v h=some i)(w:ek a v=some [.rowD E k t])(u:CK P F c Q ⟨j,(b,.d (.sl none o))::f,i⟩):CK P F c Q ⟨j,g,a⟩:=λ_ _ _ z=>u _ _ _ (z.freeze b v y A B x G D C w)
theorem fR(b v:Nat){r n:Nat}(y:get g b=some (.own v r n))(A:dd a v r=some (.rowD E k t))(B:n<=t.length)(x:t.take n=o)(G:Ab v g=some f)(D:Aa v a=some h)(C:Cf v h=some i)(w:ek a v=some [.rowD E k t])(u:Ao P F ops l Q ⟨j,(b,.d (.sl none o))::f,i⟩):Ao P F ops l Q ⟨j,g,a⟩:=λ_ _ _ z=>u _ _ _ (z.freeze b v y A B x G D C w)
end
variable{a:Nat->Nat->Value}{P:Program}{c:List Nat}{f:List (Nat×AV)}{g:List ResultVar}{w:World}{h:Nat->Prop}{s:AS}{i:Act}{j:Value}{k:List Nat}{o:List AV}{Q:Exit->AS->Prop}{t:Nat}{u:AV}{x:Nat}{y:FuncId}{z:Nat}{A:Func}{B:AM}{E:World}{G:Code}{I:ResultVar}{K:Nat}{L:List AM}
abbrev Hp:=List (Nat×List AM)
def Cx(ρ:Nat->Nat->Value)(H:Hp)(f i:Nat):Option Nat:=match dd H f i,ρ f i with
 | some (.blk _ _),.pointer (some ⟨b,0,none⟩)=>some b
 | _,_=>none
variable{H:Hp}
theorem nP{b:Nat}(h:Cx a H K z=some b):a K z= .pointer (some ⟨b,0,none⟩)/\∃t c,dd H K z=some (.blk t c):=by grind[Cx]
def Fr.top(F:Fr)(H:Hp):Prop:=F.pn=lZ H/\F.rnd=none/\F.lo= .marks F.w0.heap.size
def Fr.flat(F:Fr):Prop:=F.rnd=none/\F.lo.le F.w0.heap.size
def AO(P:Program)(f:FuncId)(args:List AV)(H:Hp)(R:AV->Hp->Prop):Prop:=
 (∃fn,P.funcs[f]? =some fn/\(fn.name== "runtime.NumGoroutine")=false/\fn.body.isSome=true)/\
 ∀(F:Fr) (ρ:Nat->Nat->Value) (vs:List Value),F.own0=BL ρ H->F.pin=Cx ρ H->F.top H->Bj F H ρ F.w0->vs.length=args.length->(∀(i:Nat) a v,args[i]? =some a->vs[i]? =some v->A8 F.w0 (F.O ρ H) ρ a v)→
  Calls P f vs.toArray F.w0 λe w'=>∃v r H' ρ',e= .returned v/\R r H'/\A8 w' (F.O ρ' H') ρ' r v/\Bj F H' ρ' w'
def AI(P:Program)(f:FuncId)(args:List AV)(x:D):Prop:=AO P f args [] λr H'=>r= .d x/\H'=[]
theorem Dj{b:Nat}(h:Cx a H K z=some b):K∈lZ H:=by
 obtain ⟨_,t,g,c⟩:=nP h;simp only[dd] at c
 cases hf:ek H K with
 | none=>rw[hf] at c;cases c
 | some l=>exact pG hf
variable{R:AV->Hp->Prop}
theorem AO.mono{k:AV->Hp->Prop}(h:AO P y o H R)(t:∀r g,R r g->k r g):AO P y o H k:=
 ⟨h.1,λF l s A z j x w u=>(h.2 F l s A z j x w u).mono λ_ _ ⟨v,r,g,i,a,b,c⟩=>⟨v,r,g,i,a,t _ _ b,c⟩⟩
def Mz:Nat->List AV->Option (List (Nat×AV))
 | _,[]=>some []
 | i,a::r=>match Mz (i+1) r with
  | none=>none
  | some l=>some ((i,a)::l)
theorem Vi{c:List AV}(h:Mz z c=some f){t:Nat}(b:get f t=some u):∃j:Nat,t=z+j/\c[j]? =some u:=by
 induction c generalizing z f with
 | nil=>simp only[Mz,Option.some.injEq] at h;subst h;simp[get] at b
 | cons x r g=>
  simp only[Mz] at h
  split at h
  .cases h
  .rename_i l k
   injection h with h;subst h
   rcases NL b with ⟨rfl,rfl⟩ | ⟨_,b⟩
   .simp
   .obtain ⟨j,s,o⟩:=g k b;exact ⟨j+1,by omega,by simpa using o⟩
def eE(P:Program)(s:AS):ResultVar->Option AV
 | .tmp t=>get s.env t
 | .cell a T=>match get s.env a with
  | some (.ptr f i off)=>match dd s.hp f i with
   | some (.blk _ cs)=>match BX P T with
    | true=>cs[off]?
    | false=>match P.info? T with
     | none=>none
     | some inf=>match CI P T inf.size with
      | false=>none
      | true=>match Fn cs off inf.size with
       | none=>none
       | some l=>KZ l
   | _=>none
  | _=>none
def RN(P:Program)(s:AS):List ResultVar->Option (List AV)
 | []=>some []
 | r::rs=>match RN P s rs with
  | none=>none
  | some l=>match eE P s r with
   | none=>none
   | some a=>some (a::l)
def eF(P:Program)(s:AS)(rs:List ResultVar):Option AV:=match RN P s rs with
 | none=>none
 | some [a]=>some a
 | some [.d x,.d y]=>some (.d (.tup [x,y]))
 | some [.d x,.d y,.d z]=>some (.d (.tup [x,y,z]))
 | some l=>some (.tup l)
inductive RV (P:Program) (s:AS):ResultVar->AV->Prop
 | tmp {t:Nat} {a:AV} (h:get s.env t=some a):RV P s (.tmp t) a
 | cell1 {c f i off:Nat} {T t:TypeId} {cs:List AV} {a:AV} (hg:get s.env c=some (.ptr f i off)) (ho:dd s.hp f i=some (.blk t cs)) (hT:BX P T=true) (ha:cs[off]? =some a):RV P s (.cell c T) a
 | cellS {c f i off n:Nat} {T t:TypeId} {cs l:List AV} {a:AV} (hg:get s.env c=some (.ptr f i off)) (ho:dd s.hp f i=some (.blk t cs)) (hT:CI P T n=true) (hl:Fn cs off n=some l) (ha:KZ l=some a):RV P s (.cell c T) a
inductive uz (P:Program) (s:AS):List ResultVar->List AV->Prop
 | nil:uz P s [] []
 | cons {r:ResultVar} {rs:List ResultVar} {a:AV} {l:List AV} (h:RV P s r a) (hs:uz P s rs l):uz P s (r::rs) (a::l)
def cp:List AV->AV
 | [a]=>a
 | [.d x,.d y]=> .d (.tup [x,y])
 | [.d x,.d y,.d z]=> .d (.tup [x,y,z])
 | l=> .tup l
def uy(P:Program)(s:AS)(rs:List ResultVar)(r:AV):Prop:=∃l,uz P s rs l/\cp l=r
theorem eD(h:eE P s I=some u):RV P s I u:=by
 cases I with
 | tmp t=>exact .tmp h
 | cell c T=>
  simp only[eE] at h
  split at h
  .rename_i f i o k
   split at h
   .rename_i t x g
    split at h
    .rename_i b;exact .cell1 k g b h
    .split at h
     .cases h
     .rename_i v j
      split at h
      .cases h
      .rename_i b
       split at h
       .cases h
       .rename_i l w;exact .cellS k g b w h
   .cases h
  .cases h
theorem RM{P:Program}{s:AS}:∀{b:List ResultVar} {l:List AV},RN P s b=some l->uz P s b l
 | [],l,h=>by simp only[RN,Option.some.injEq] at h;subst h;exact .nil
 | r::b,l,h=>by
  simp only[RN] at h
  split at h
  .cases h
  .rename_i g f
   split at h
   .cases h
   .rename_i a c
    injection h with h;subst h
    exact .cons (eD c) (RM f)
theorem A2{r:AV}(h:eF P s g=some r):uy P s g r:=by
 unfold eF at h
 cases hl:RN P s g with
 | none=>rw[hl] at h;cases h
 | some l=>
  rw[hl] at h;refine ⟨l,RM hl,?_⟩
  grind[cp]
def Bg(hp:Hp):List Nat->Option Hp
 | []=>some []
 | g::r=>match Bg hp r with
  | none=>none
  | some l=>match ek hp g with
   | none=>some l
   | some x=>some ((g,x)::l)
def iG(g:Nat):List Nat->Bool
 | []=>false
 | a::r=>Nat.beq a g || iG g r
theorem Gb:iG x c=true↔x∈c:=by
 induction c with
 | nil=>simp[iG]
 | cons a r b=>
  grind[iG,kn,l6]
def A6(nm:List Nat):Hp->Bool
 | []=>true
 | (g,_)::r=>iG g nm && A6 nm r
theorem G1(h:A6 c H=true)(a:ek H x=some L):x∈c:=by
 induction H with
 | nil=>simp[ek] at a
 | cons p r f=>
  obtain ⟨k,b⟩:=p;simp only[A6,kQ] at h
  by_cases e:k=x
  .subst e;exact Gb.1 h.1
  grind[ek,I3]
theorem E7{k:Hp}:∀{j:List Nat} {c:Hp},Bg k j=some c->(∀g x,ek c g=some x->g∈j/\ek k g=some x)/\∀g,g∈j->ek c g=ek k g
 | [],c,h=>by
  simp only[Bg,Option.some.injEq] at h;subst h;exact ⟨(λg x h=>by cases h),(λg h=>by cases h)⟩
 | a::r,c,h=>by
  simp only[Bg] at h
  split at h
  .cases h
  .rename_i l u
   obtain ⟨i,t⟩:=E7 u
   split at h
   .rename_i o
    injection h with h;subst h
    refine ⟨λg x b=>⟨kx _ (i g x b).1,(i g x b).2⟩,λg b=>?_⟩;rcases ju.1 b with rfl | b
    .rw[o]
     cases hh:ek l g with
     | none=>rfl
     | some x=>rw[(i g x hh).2] at o;cases o
    .exact t g b
   .rename_i x s
    injection h with h;subst h
    refine ⟨λg y b=>?_,λg b=>?_⟩
    .simp only[ek] at b
     split at b
     .rename_i f
      rw[<-kn f];injection b with b;subst b
      exact ⟨k8,s⟩
     .exact ⟨kx _ (i g y b).1,(i g y b).2⟩
    .simp only[ek]
     split
     .rename_i f;rw[<-kn f];exact s.symm
     .rename_i f
      rcases ju.1 b with rfl | b
      .exact absurd Z (mH f)
      .exact t g b
def KO:List Nat->List Nat->Bool
 | [],_=>true
 | a::r,nm=>iG a nm && KO r nm
theorem aH(h:KO k c=true)(b:K∈k):K∈c:=by
 induction k with
 | nil=>cases b
 | cons a r g=>
  simp only[KO,kQ] at h;rcases ju.1 b with rfl | b
  .exact Gb.1 h.1
  grind
variable{F:Fr}{C:Hp}
theorem SR.only(j:SR F s a i w)(z:List Nat)(N:F.pn=k)(y:KO k z=true)(K:Bg s.hp z=some C):SR F ⟨s.n,s.env,C⟩ a i w:=by
 obtain ⟨J,P⟩:=E7 K
 have h:∀f c o,dd C f c=some o->dd s.hp f c=some o:=λf c o r=>by
  simp only[dd] at r⊢
  cases hf:ek C f with
  | none=>rw[hf] at r;cases r
  | some x=>rw[(J f x hf).2];rw[hf] at r;exact r
 have u:∀b,BL a C b->BL a s.hp b:=λb ⟨f,c,o,D,I⟩=>⟨f,c,o,h f c o D,I⟩
 have B:∀b,b<w.heap.size->F.O a C b->F.O a s.hp b:=λb _ v=>v.imp id (u b);refine ⟨j.size,j.defs.mono (Θ _) (λ_ _ _=>rfl) B,λt g M=>(j.env t g M).mono (Θ _) (λ_ _ _=>rfl) B (λ_ _ _=>rfl),?_⟩;refine ⟨λf c o r=>(j.heap.sim f c o (h f c o r)).mono (Θ _) (λ_ _ _=>rfl) B (λ_ _=>rfl) (λ_ _ _=>rfl),λf c H G o E b r A=>j.heap.inj f c H G o E b (h f c o r) (h H G E A),λb v=>j.heap.mine b (u b v),j.heap.os,j.heap.tape,j.heap.output,j.heap.size0,j.heap.keep,λf c b v=>?_,j.heap.drawn⟩;obtain ⟨D,t,O,I⟩:=j.heap.pins f c b v;refine ⟨D,t,O,?_⟩;have L:f∈z:=aH y (by rw[<-N];exact F.hpn f c b v)
 grind[dd]
variable{M:Hp}
theorem uo(b:List Nat)(r:F.pn=k)(a:KO k b=true)(g:Bg M b=some C)(h:CK P F G Q ⟨t,f,C⟩):CK P F G Q ⟨t,f,M⟩:=λj i w o=>h j i w (o.only b r a g)
theorem tV{a:Array Oper}{c:List Oper}(g:List Nat)(s:F.pn=k)(b:KO k g=true)(i:Bg M g=some C)(h:Ao P F a c Q ⟨t,f,C⟩):Ao P F a c Q ⟨t,f,M⟩:=λo j w r=>h o j w (r.only g s b i)
def y3(P:Program)(rs:List ResultVar)(H:Hp)(R:AV->Hp->Prop):Exit->AS->Prop
 | .normal,s=>∃r nm H',uy P s rs r/\Bg s.hp nm=some H'/\A6 nm H=true/\R r H'
 | .ret,s=>∃r nm H',uy P s rs r/\Bg s.hp nm=some H'/\A6 nm H=true/\R r H'
 | _,_=>False
def lN(tmps:Array Value):ResultVar->Sem Value
 | .tmp t=>pure (tmps.getD t undef)
 | .cell a t=>do loadVar t (<-asAddr (tmps.getD a undef))
theorem XE(c:Func)(a:Array Value):results c a=(do
  let b <-c.results.mapM (lN a)
  pure (if h:b.size=1 then b[0] else .tuple b)):=rfl
theorem v4{w:World}{O:Nat->Prop}{f:Nat->Nat->Value}{l:List D}{b:List Value}(j:b.length=l.length)(h:∀(i:Nat) a v,(l.map AV.d)[i]? =some a->b[i]? =some v->A8 w O f a v):A8 w O f (.d (.tup l)) (.tuple b.toArray):=
 .d (.tup j λi c v k g=>by
  have:=h i (.d c) v (by rw[ς,k];rfl) g
  cases this with | d h=>exact h)
theorem RV.spec{P:Program}{F:Fr}{s:AS}{E:Nat->Nat->Value}{o:Act}{w:World}(B:SR F s E o w){r:ResultVar}{a:AV}(h:RV P s r a):
  ∃v,(lN o.tmps r).run P w= .ok v w/\A8 w (F.O E s.hp) E a v:=by
 cases h with
 | @tmp t _ h=>exact ⟨_,Z,B.env t _ h⟩
 | @cell1 c f i g T t Y a H G K J=>
  have y:=B.env c _ H
  generalize z:o.tmps.getD c undef=O at y
  cases y with
  | @ptr _ _ _ b I=>
   obtain ⟨b',u,k,L,N,M,V⟩:=B.heap.sim f i _ G;rw[I] at k;injection k with k;injection k with k;injection k with k;subst k
   have C:g<u.length:=by rw[N];exact (φ.1 J).1
   have x:w.cell? ⟨b,g,none⟩=some u[g]:=by
    rw[cell_of_row w b g u.toArray t (0,0) L];simp[C]
   exact ⟨u[g],by simp only[lN,z,asAddr,loadVar,Sem.run_bind,Sem.run_pure,Result.andThen_ok,E9 K];simp[x],M g a _ J (ω C)⟩
 | @cellS c f i g n T t Y l a H G K Q J=>
  have y:=B.env c _ H
  generalize z:o.tmps.getD c undef=O at y
  cases y with
  | @ptr _ _ _ b I=>
   obtain ⟨b',u,k,L,N,M,V⟩:=B.heap.sim f i _ G;rw[I] at k;injection k with k;injection k with k;injection k with k;subst k
   obtain ⟨⟨X,U,S⟩,R⟩:=Fw K;obtain ⟨h8,h9,W⟩:=GX _ _ _ _ Q;have D:((u.drop g).take n).length=n:=by rw[θ,l4];omega
   have y:=run_loadVar_mid (P:=P) w b g T ((u.drop g).take n) X (λj v A=>by
    rw[cell_of_row w b (g+j) u.toArray t (0,0) L];rw[md] at A
    split at A
    .rw[mz] at A;simpa using A
    .cases A) U S (by rw[D];exact R)
   grind[lN,asAddr,G2]
theorem uz.spec{P:Program}{F:Fr}{s:AS}{f:Nat->Nat->Value}{c:Act}{w:World}(k:SR F s f c w){g:List ResultVar}{l:List AV}(h:uz P s g l):
  ∃b:List Value,(g.mapM (lN c.tmps)).run P w= .ok b w/\b.length=l.length/\∀(i:Nat) a v,l[i]? =some a->b[i]? =some v->A8 w (F.O f s.hp) f a v:=by
 induction h with
 | nil=>exact ⟨[],Z,Z,by simp⟩
 | cons h _ j=>
  obtain ⟨b,y,o,x⟩:=j;obtain ⟨v,f1,f2⟩:=h.spec k;refine ⟨v::b,?_,by simp[o],λi z r u t=>?_⟩
  .simp_all
  grind
theorem uy.spec(r:SR F s a i w)(j:A.results=g.toArray)(h:uy P s g u):
  ∃v,(results A i.tmps).run P w= .ok v w/\A8 w (F.O a s.hp) a u v:=by
 obtain ⟨l,x,c⟩:=h;obtain ⟨f,B,k,o⟩:=x.spec r
 have b:(results A i.tmps).run P w= .ok (if z:f.toArray.size=1 then f.toArray[0] else .tuple f.toArray) w:=by
  rw[XE,j,List.mapM_toArray]
  simp_all
 refine ⟨_,b,?_⟩;unfold cp at c
 split at c
 .subst c;obtain ⟨v,rfl⟩:=List.length_eq_one_iff.1 k;exact o 0 _ v Z Z
 .grind[v4]
 .grind[v4]
 .rename_i t _ _
  subst c;rw[dif_neg]
  .exact .tup k o
  .intro y;have:l.length=1:=by rw[<-k];simpa using y
   obtain ⟨C,e⟩:=List.length_eq_one_iff.1 this
   grind
theorem Qd{a:Addr}(h:w.cell? a=some j):∃c t x,w.heap[a.block]? =some (Obj.cells c t x):=by grind[World.cell?]
theorem A0.other(H:E.heap.size=w.heap.size)(J:∀(b:Nat) c t x,w.heap[b]? =some (Obj.cells c t x)->E.heap[b]? =w.heap[b]?){x:D}(f:A0 w h x j):A0 E h x j:=by
 induction f with
 | raw f=>exact .raw f
 | agg i r _ g=>exact .agg i r g
 | tup i _ g=>exact .tup i g
 | ptr s L r G K _ g=>
  refine .ptr s (by omega) r G (λa c I=>?_) g
  grind[Qd,World.cell?_of_block]
 | sl k y u o C z A F _ g=>exact .sl k y u o C z A F g
 | fn B i _ _ l g=>exact .fn B i l g
theorem A8.other(k:E.heap.size=w.heap.size)(o:∀(b:Nat) c t x,w.heap[b]? =some (Obj.cells c t x)->E.heap[b]? =w.heap[b]?)(f:A8 w h a u j):A8 E h a u j:=by
 induction f with
 | d f=>exact .d (f.other k o)
 | top=>exact .top
 | tup i _ g=>exact .tup i g
 | agg i r _ g=>exact .agg i r g
 | ptr f=>exact .ptr f
 | own f l=>exact .own f l
 | rptr f=>exact .rptr f
 | map f=>exact .map f
 | ifc f=>exact .ifc f
 | fn i _ g=>exact .fn i g
theorem Gf{w l:World}(r:∀(b:Nat) c t x,w.heap[b]? =some (Obj.cells c t x)->l.heap[b]? =w.heap[b]?){f:Nat}{e:TypeId}{a n:Nat}{v:Value}{k:List Value}(h:w.ownsRow f e a v n k):l.ownsRow f e a v n k:=by
 refine ⟨h.1,?_⟩;rcases h.2 with z | ⟨g,j,i,y,u,o,s⟩
 .exact .inl z
 .exact .inr ⟨g,j,i,y,u,by rw[r g _ _ _ o];exact o,s⟩
theorem BA.other(D:E.heap.size=w.heap.size)(C:∀(b:Nat) c t x,w.heap[b]? =some (Obj.cells c t x)->E.heap[b]? =w.heap[b]?)(l:BA w h a B j)(N:∀b,CA j=some b->E.heap[b]? =w.heap[b]?):BA E h a B j:=by
 cases B with
 | blk t W=>
  obtain ⟨b,F,rfl,y,A,z,H⟩:=l;exact ⟨b,F,Z,by rw[C _ _ _ _ y];exact y,A,λg c u K G=>(z g c u K G).other D C,H⟩
 | row t k S=>
  obtain ⟨F,y,A⟩:=l;exact ⟨F,Gf C y,A.mono λx I c K u G=>G.other D C⟩
 | rowD t k S=>
  obtain ⟨F,y,A,z⟩:=l;exact ⟨F,Gf C y,A.mono λx I c K u G=>G.other D C,z⟩
 | loop L=>
  obtain ⟨r,y,A,z,H,Q⟩:=l;exact ⟨r,y,by rw[N L.id (by rw[y];rfl)];exact A,z,H,λt s U=>(Q t s U).other D C⟩
 | map Y V=>
  obtain ⟨m,J,c,rfl,y,A,z,H,Q,R⟩:=l;exact ⟨m,J,c,Z,by rw[N _ rfl];exact y,A,λi e x P I=>⟨(z i e x P I).1.other D C,(z i e x P I).2.other D C⟩,H,Q,R⟩
 | iter f i c seen=>
  obtain ⟨r,m,T,rfl,y,A,z⟩:=l;exact ⟨r,m,T,Z,y,by rw[N _ rfl];exact A,z⟩
 | addr f i u=>exact l
 | any=>trivial
 | nb b t W=>
  obtain ⟨rfl,F,y,A,z,H⟩:=l;exact ⟨Z,F,by rw[C _ _ _ _ y];exact y,A,λg c u K G=>(z g c u K G).other D C,H⟩
 | nr b t k X S=>
  obtain ⟨rfl,F,y,A,z⟩:=l;exact ⟨Z,F,Gf C y,A.mono λx I c K u G=>G.other D C,z⟩
 | nm b Y V=>
  obtain ⟨rfl,J,c,y,A,z,H,Q,R⟩:=l;exact ⟨Z,J,c,by rw[N _ rfl];exact y,A,λi e x P I=>⟨(z i e x P I).1.other D C,(z i e x P I).2.other D C⟩,H,Q,R⟩
 | itz=>obtain ⟨r,rfl,y⟩:=l;exact ⟨r,Z,by rw[N _ rfl];exact y⟩
 | multi M=>trivial
theorem SR.putObj(k:SR F s a i w){b:Nat}{o o':Obj}{ds:List Deferred}(C:F.w0.heap.size<=b)(y:w.heap[b]? =some o)(H:∀c t x,o≠Obj.cells c t x)(E:¬F.O a s.hp b)(z:IK F.lo (w.putObj b o') (F.O a s.hp) ds):SR F s a {i with defers:=ds} (w.putObj b o'):=by
 have l:(w.putObj b o').heap.size=w.heap.size:=World.putObj_size
 have v:∀(r:Nat) c t x,w.heap[r]? =some (Obj.cells c t x)->(w.putObj b o').heap[r]? =w.heap[r]?:=λr c t x h=>World.putObj_heap_other λe=>by
  grind
 exact ⟨k.size,z,λt j D=>(k.env t j D).other l v,⟨λf g o y=>(k.heap.sim f g o y).other l v λr A=>World.putObj_heap_other λG=>E (.inr ⟨f,g,_,y,by rw[<-G];exact A⟩),k.heap.inj,λb v=>by rw[l];exact k.heap.mine b v,k.heap.os,k.heap.tape,k.heap.output,by rw[l];exact k.heap.size0,λr u B=>by
  rw[World.putObj_heap_other (by omega)];exact k.heap.keep r u B,k.heap.pins,k.heap.drawn⟩⟩
theorem QM(K:P.funcs[y]? =some A)(Q:(A.name== "runtime.NumGoroutine")=false)(E:A.body=some G)(hn:A.ntmps=t)(hrs:A.results=g.toArray)(X:Mz 0 o=some f)(V:Nat.ble o.length t=true)(h:∀F:Fr,F.pn=lZ H->F.flat->CK P F G (y3 P g H R) ⟨t,f,H⟩):AO P y o H R:=by
 refine ⟨⟨A,K,Q,by rw[E];rfl⟩,λF ρ L h1 h2 C h3 h4 h5=>callsIn_wide.1 (callsIn_of_wp_marks (n:=0) K E trivial ?_)⟩;have W:Rv F.rnd=Fence.wide:=by rw[C.2.1];rfl
 have hle:=Nat.le_of_ble_eq_true V
 have hsr:SR F ⟨t,f,H⟩ ρ {tmps:=L.toArray++Array.replicate (A.ntmps-L.toArray.size) undef,defers:=[]} F.w0:=by
  refine ⟨?_,by rw[C.2.2];exact .nil,λk a ha=>?_,h3⟩
  .grind
  .obtain ⟨j,hj,ha'⟩:=Vi X ha;rw[lY] at hj;subst hj;have S:k<L.length:=by rw[h4];exact (φ.1 ha').1
   have:(L.toArray++Array.replicate (A.ntmps-L.toArray.size) undef).getD k undef=L[k]:=by
    rw[mm,Array.getElem?_append_left (by simpa using S)];simp[S]
   show A8 _ _ _ _ ((L.toArray++Array.replicate (A.ntmps-L.toArray.size) undef).getD k undef);rw[this];exact h5 k a _ ha' (ω S)
 refine Go.wpIn_mono (W▸h F C.1 ⟨C.2.1,by rw[C.2.2];exact Θ _⟩ ρ _ _ hsr) λe act w ⟨s,u,M,B⟩=>?_
 have fin:∀{act:Act} {w:World},SR F s u act w->(∃r O z,uy P s g r/\Bg s.hp O=some z/\A6 O H=true/\R r z)->∃v,(results A act.tmps).run P w= .ok v w/\(∃v' r z u,Ending.returned v= .returned v'/\R r z/\A8 w (F.O u z) u r v'/\Bj F z u w):=λ{act w} B ⟨r,O,z,hr,hpt,hnm,hR⟩=>by
  obtain ⟨v,h6,h7⟩:=hr.spec B hrs;obtain ⟨p1,p2⟩:=E7 hpt
  have D:∀y i l,dd z y i=some l->dd s.hp y i=some l:=λy i l J=>by
   simp only[dd] at J⊢
   cases K:ek z y with
   | none=>rw[K] at J;cases J
   | some x=>rw[(p1 y x K).2];rw[K] at J;exact J
  have N:∀b,BL u z b->BL u s.hp b:=λb ⟨y,i,l,a1,a2⟩=>⟨y,i,l,D y i l a1,a2⟩
  have hO:∀b,b<w.heap.size->F.O u z b->F.O u s.hp b:=λb _ E=>E.imp id (N b);refine ⟨v,h6,v,r,z,u,Z,hR,h7.mono (Θ _) (λ_ _ _=>rfl) hO (λ_ _ _=>rfl),?_⟩;refine ⟨λy i l J=>(B.heap.sim y i l (D y i l J)).mono (Θ _) (λ_ _ _=>rfl) hO (λ_ _=>rfl) (λ_ _ _=>rfl),λy i f' i' l o' b J ho'=>B.heap.inj y i f' i' l o' b (D y i l J) (D f' i' o' ho'),λb E=>B.heap.mine b (N b E),B.heap.os,B.heap.tape,B.heap.output,B.heap.size0,B.heap.keep,λy i b E=>?_,B.heap.drawn⟩;obtain ⟨a1,k,cs,a2⟩:=B.heap.pins y i b E;refine ⟨a1,k,cs,?_⟩;rw[h2] at E;obtain ⟨_,t',cs',a3⟩:=nP E
  have hfn:y∈O:=by
   simp only[dd] at a3
   cases K:ek H y with
   | none=>rw[K] at a3;cases a3
   | some x=>exact G1 hnm K
  grind[dd]
 have I:∀{act:Act} {w:World},SR F s u act w->(∃r O z,uy P s g r/\Bg s.hp O=some z/\A6 O H=true/\R r z)->LeavesInM Fence.wide 0 P A act.tmps (λe w'=>∃v r z u,e= .returned v/\R r z/\A8 w' (F.O u z) u r v/\Bj F z u w') act.defers .returning w:=λ{act w} B M=>by
  have Y:=B.defs;rw[C.2.2] at Y;obtain ⟨U,hd,hnd,E⟩:=Y;rw[hd]
  clear hd
  induction U generalizing act w with
  | nil=>exact fin B M
  | cons b U ih=>
   obtain ⟨d1,d2,d3,d4⟩:=E b k8;obtain ⟨n1,n2⟩:=nE.1 hnd
   have hb':∀T∈U,F.w0.heap.size<=T/\T<(w.putObj b (.deferred none)).heap.size/\¬F.O u s.hp T/\(w.putObj b (.deferred none)).heap[T]? =some (.deferred (some [])):=λT hm=>by
    obtain ⟨e1,e2,e3,e4⟩:=E T (kx _ hm)
    exact ⟨e1,by rw[World.putObj_size];exact e2,e3,by
     have hne:T≠b:=λe=>by subst e;exact n1 hm
     rw[World.putObj_heap_other hne];exact e4⟩
   have hs':=B.putObj (o':= .deferred none) (ds:=U.map K3) d1 d4 (λG k x e=>by cases e) d3 (by rw[C.2.2];exact ⟨U,Z,n2,hb'⟩);exact ⟨by simp,.inl ⟨b,_,Z,run_takeDeferred d4,ih (act:={act with defers:=U.map K3}) hs' n2 hb'⟩⟩
 cases e with
 | normal=>exact I B M
 | ret=>exact I B M
 | exit _=>exact M.elim
 | goto _=>exact M.elim
 | panic _=>exact M.elim
 | outgrown=>exact M.elim
theorem Av(l:P.funcs[y]? =some A)(a:(A.name== "runtime.NumGoroutine")=false)(r:A.body=some G)(k:A.ntmps=t)(j:A.results=g.toArray)(i:Mz 0 o=some f)(b:Nat.ble o.length t=true)(h:∀F:Fr,F.pn=lZ H->CK P F G (y3 P g H R) ⟨t,f,H⟩):AO P y o H R:=
 QM l a r k j i b λF s _=>h F s
def Lm(s:AS):List Operand->Option (List AV)
 | []=>some []
 | x::r=>match Lm s r with
  | none=>none
  | some l=>match s.ev x with
   | none=>none
   | some a=>some (a::l)
theorem Cm{F:Fr}{s:AS}{f:Nat->Nat->Value}{b:Act}{w:World}(o:SR F s f b w):∀{g:List Operand} {c:List AV},Lm s g=some c->(g.map b.eval).length=c.length/\∀(i:Nat) a v,c[i]? =some a->(g.map b.eval)[i]? =some v->A8 w (F.O f s.hp) f a v
 | [],c,h=>by simp only[Lm,Option.some.injEq] at h;subst h;simp
 | x::r,c,h=>by
  simp only[Lm] at h
  split at h
  .cases h
  .rename_i l t
   split at h
   .cases h
   .rename_i a u
    injection h with h;subst h
    obtain ⟨z,y⟩:=Cm o t;refine ⟨by simpa using z,λi A v k j=>?_⟩
    cases i with
    | zero=>simp at k j;subst k j;exact o.ev u
    | succ i=>exact y i A v (by simpa using k) (by simpa using j)
def C1(hp CH:Hp):List Nat->Prop
 | []=>True
 | g::r=>ek hp g=ek CH g/\C1 hp CH r
theorem C1.hget{f:Hp}(h:C1 M f c)(b:x∈c)(i:Nat):dd M x i=dd f x i:=by
 induction c with
 | nil=>cases b
 | cons a r j=>
  rcases ju.1 b with rfl | b
  .simp only[Go.Proofs.YteifpcnphnhaoaaGreat.dd,h.1]
  .exact j h.2 b
theorem LP(h:A6 c H=true)(a:dd H x z=some B):x∈c:=by
 induction H with
 | nil=>simp[dd,ek] at a
 | cons p r b=>
  obtain ⟨k,l⟩:=p;simp only[A6,kQ] at h
  by_cases e:k=x
  .subst e;exact Gb.1 h.1
  grind[dd,ek,I3]
def sF:Option AM->Bool
 | some (.blk _ _)=>true
 | _=>false
def CE(CH:Hp)(nm:List Nat)(f i:Nat):Bool:=!(iG f nm) || sF (dd CH f i)
def Ch(nm:List Nat):Hp->Option Hp
 | []=>some []
 | (g,l)::r=>match Ch nm r with
  | none=>none
  | some r'=>match iG g nm with
   | true=>some r'
   | false=>some ((g,l)::r')
theorem XF(h:Ch c M=some C):∀g i,dd C g i=if g∈c then none else dd M g i:=by
 induction M generalizing C with
 | nil=>simp only[Ch,Option.some.injEq] at h;subst h;simp[dd,ek]
 | cons p r b=>
  obtain ⟨k,l⟩:=p;simp only[Ch] at h
  split at h
  .cases h
  .rename_i o f
   split at h
   .rename_i a
    injection h with h;subst h
    intro g i;rw[b f g i]
    by_cases e:k=g
    .subst e;rw[ϱ (Gb.1 a),ϱ (Gb.1 a)]
    .simp only[dd,ek,I3 e]
   .rename_i a
    injection h with h;subst h
    intro g i
    by_cases e:k=g
    .subst e;rw[υ (λj=>by rw[Gb.2 j] at a;cases a)];simp only[dd,ek,l6]
    .have:=b f g i
     grind[dd,ek,I3]
theorem gc{rest:Hp}(j:A6 c H=true)(f:∀g i,g∈c->dd rest g i=none)(g i:Nat):dd (H++rest) g i=if g∈c then dd H g i else dd rest g i:=by
 have b:∀H:Hp,ek (H++rest) g=match ek H g with | some l=>some l | none=>ek rest g:=by
  intro H
  induction H with
  | nil=>rfl
  | cons p r h=>
   grind[ek]
 by_cases a:g∈c
 .rw[ϱ a];have k:=f g i a
  grind[dd]
 grind[dd,G1]
def Ju(nm:List Nat)(f _i:Nat):Bool:=iG f nm
def CR(nm:List Nat):List AM->Bool
 | []=>true
 | .blk _ cs::r=>vE (Ju nm) cs && CR nm r
 | .row _ _ xs::r=>xs.all (λx=>av (Ju nm) x.cells) && CR nm r
 | .rowD _ _ _::r=>CR nm r
 | .loop L::r=>NZ (Ju nm) L.env && CR nm r
 | .map _ _::r=>CR nm r
 | .iter f _ _ _::r=>iG f nm && CR nm r
 | .addr f _ _::r=>iG f nm && CR nm r
 | .any::r=>CR nm r
 | .nb _ _ _::r=>CR nm r
 | .nr _ _ _ _ _::r=>CR nm r
 | .nm _ _ _::r=>CR nm r
 | .itz::r=>CR nm r
 | .multi _::r=>CR nm r
def GG(nm:List Nat):Hp->Bool
 | []=>true
 | (_,l)::r=>CR nm l && GG nm r
theorem Ut(h:CR c L=true)(v:B∈L)(s:B.Refs K z):K∈c:=by
 induction L with
 | nil=>cases v
 | cons a r C=>
  rcases ju.1 v with rfl | v
  .cases B with
   | blk t J=>
    simp only[CR,kQ] at h;obtain ⟨g,w,s⟩:=s;exact Gb.1 (PR h.1 w s)
   | row t k A=>
    simp only[CR,kQ] at h;obtain ⟨x,E,g,w,s⟩:=s;exact Gb.1 (GD (ms.1 h.1 x E) w s)
   | rowD t k A=>exact s.elim
   | loop j=>
    simp only[CR,kQ] at h;obtain ⟨t,a,F,s⟩:=s;exact Gb.1 (PQ h.1 F s)
   | map O H=>exact s.elim
   | iter G D g seen=>
    simp only[CR,kQ] at h;obtain ⟨y,I⟩:=s;subst y;exact Gb.1 h.1
   | addr G D u=>
    simp only[CR,kQ] at h;obtain ⟨y,I⟩:=s;subst y;exact Gb.1 h.1
   | any=>exact s.elim
   | nb b t J=>exact s.elim
   | nr b t k N A=>exact s.elim
   | nm b O H=>exact s.elim
   | itz=>exact s.elim
   | multi M=>exact s.elim
  .refine C ?_ v
   cases a<;>simp only[CR,kQ] at h<;>first | exact h.2 | exact h
theorem bW(h:GG c H=true){j:Nat}(a:dd H x j=some B)(s:B.Refs K z):K∈c:=by
 induction H with
 | nil=>simp[dd,ek] at a
 | cons p r b=>
  obtain ⟨k,l⟩:=p;simp only[GG,kQ] at h
  by_cases e:k=x
  .subst e;simp only[dd,ek,l6,m6] at a;rcases mX a with a | ⟨_,m,_,_,rfl⟩
   all_goals (grind[Ut,Au.norefs])
  grind[dd,ek,I3]
section
variable{P:Program}{F:Fr}{s:AS}{d:Nat}{ty:TypeId}{pos:String}{aft:Array Edge}{g:Option (Nat×Bool)}{at_:Array TypeId}
variable{a:List Operand}{c:Nat->Nat->Value}{f:List (Nat×AV)}{h:List AV}{i:FuncId}{w:World}{j k:Hp}{R:AV->Hp->Prop}{o:Hp}{t:Nat->Nat->Value}{u:Act}{x:DS}{y:Hp}{z:World}
def By(F:Fr)(lo:DS)(hp CH:Hp)(ρ:Nat->Nat->Value)(w:World)(hOf:∀b,(F.Of b\/(BL ρ hp b/\¬BL ρ CH b))->b<w.heap.size/\¬BL ρ CH b):Fr:=
 Fr.mk none lo w (λb=>F.Of b\/(BL ρ hp b/\¬BL ρ CH b)) (BL ρ CH) (Cx ρ CH) hOf (lZ CH) (λ_ _ _ h=>Dj h)
def sY(w w':World)(O O':Nat->Prop):Prop:=w.heap.size<=w'.heap.size/\(∀b,b<w.heap.size->¬O b->w'.heap[b]? =w.heap[b]?)/\∀b,b<w.heap.size->O' b->O b
theorem Ff(x:DS){CH:Hp}(r:Bj F y c w)(v:List Nat)(A:C1 y CH v)(B:A6 v CH=true):
  ∃j,Bj (By F x y CH c w j) CH c w/\(By F x y CH c w j).O c CH=F.O c y:=by
 have k:∀g i o,dd CH g i=some o->dd y g i=some o/\g∈v:=λg i o t=>by
  have E:=LP B t;exact ⟨by rw[A.hget E];exact t,E⟩
 have l:∀b,BL c CH b->BL c y b:=λb ⟨f,i,o,J,I⟩=>⟨f,i,o,(k f i o J).1,I⟩
 have j:∀b,(F.Of b\/(BL c y b/\¬BL c CH b))->b<w.heap.size/\¬BL c CH b:=λb a=>by
  rcases a with a | a
  .exact ⟨ln (F.hOf b a).1 r.size0,λu=>r.notOf (l b u) a⟩
  .exact ⟨(r.mine b a.1).1,a.2⟩
 have G:(By F x y CH c w j).O c CH=F.O c y:=funext λb=>propext ⟨λh=>by
  rcases h with (h | h) | h
  .exact .inl h
  .exact .inr h.1
  .exact .inr (l b h),λh=>by
  rcases h with h | h
  .exact .inl (.inl h)
  .by_cases u:BL c CH b
   .exact .inr u
   .exact .inl (.inr ⟨h,u⟩)⟩
 refine ⟨j,⟨λf i o t=>?_,λf i H D o C b t z=>?_,λb a=>⟨(r.mine b (l b a)).1,.inl a⟩,Z,Z,Z,Θ _,λ_ _ _=>rfl,λf i b a=>nP a,Θ _⟩,G⟩
 .rw[G];exact r.sim f i o (k f i o t).1
 .exact r.inj f i H D o C b (k f i o t).1 (k H D C z).1
theorem Rq{ok:Nat->Nat->Bool}{T:Hp}(Q:Bj F y c w)(M:List Nat)(hfe:C1 y o M)(hcn:A6 M o=true)(hr0s:∀g i,dd j g i=if g∈M then none else dd y g i)(k1:∀g i U,dd k g i=some U->∃h,dd j g i=some h/\h.Less ok U)(k2:∀g i h,dd j g i=some h->∃U,dd k g i=some U/\h.Less ok U)(hOf:∀b,(F.Of b\/(BL c y b/\¬BL c o b))->b<w.heap.size/\¬BL c o b)(_:Bj (By F x y o c w hOf) o c w)(D:Bj (By F x y o c w hOf) T t z)(n1:A6 M T=true)(n2:GG M T=true)(hok:∀f i,f∈M->ok f i=true->t f i=c f i):
  ∃l,Bj F (T++k) l z/\(∀A v,(∀f i,A.Refs f i->f∈M)->A8 z ((By F x y o c w hOf).O t T) t A v->A8 z (F.O l (T++k)) l A v)/\
   (∀A v,(∀f i,A.Refs f i->ok f i=true)->A8 w (F.O c y) c A v->A8 z (F.O l (T++k)) l A v)/\(∀f i,f∈M->l f i=t f i)/\(∀f i,f∉M->l f i=c f i)/\sY w z (F.O c y) (F.O l (T++k))/\∀b,F.O l (T++k) b->(By F x y o c w hOf).O t T b:=by
 have hCH:∀g i h,dd o g i=some h->dd y g i=some h/\g∈M:=λg i h H=>by
  have hg:=LP hcn H;exact ⟨by rw[hfe.hget hg];exact H,hg⟩
 have I:∀g i h,dd k g i=some h->∃o1,dd y g i=some o1/\o1.Less (ok) h/\g∉M:=λg i h H=>by
  grind
 have hOC:∀b,BL c o b->BL c y b:=λb ⟨f,i,h,G,E⟩=>⟨f,i,h,(hCH f i h G).1,E⟩
 have hOR:∀b,BL c k b->BL c y b/\¬BL c o b:=λb ⟨f,i,h,G,E⟩=>by
  obtain ⟨o1,h3,_,h4⟩:=I f i h G;refine ⟨⟨f,i,o1,h3,E⟩,λ⟨N,S,U,h5,h6⟩=>?_⟩;obtain ⟨h7,h8⟩:=hCH N S U h5;obtain ⟨rfl,rfl⟩:=Q.inj f i N S _ _ b h3 h7 E h6;exact h4 h8
 let l:Nat->Nat->Value:=λf i=>if f∈M then t f i else c f i
 have u:∀f i,f∈M->l f i=t f i:=λf i C=>ϱ C;have r:∀f i,f∉M->l f i=c f i:=λf i C=>υ C
 have X:∀f i,ok f i=true->l f i=c f i:=λf i hf0=>by
  grind
 have hnone:∀g i,g∈M->dd k g i=none:=λg i hg=>by
  cases H:dd k g i with
  | none=>rfl
  | some h=>exact absurd hg (I g i h H).choose_spec.2.2
 have R:=λg i=>gc (rest:=k) n1 hnone g i
 have Z:∀b,BL l (T++k) b->BL t T b\/BL c k b:=λb ⟨f,i,h,G,E⟩=>by
  rw[R] at G
  split at G
  .rename_i C;rw[u f i C] at E;exact .inl ⟨f,i,h,G,E⟩
  .rename_i C;rw[r f i C] at E;exact .inr ⟨f,i,h,G,E⟩
 have hOin:∀b,F.O l (T++k) b->(By F x y o c w hOf).O t T b:=λb B=>by
  rcases B with B | B
  .exact .inl (.inl B)
  .rcases Z b B with B | B
   .exact .inr B
   .exact .inl (.inr (hOR b B))
 have V:∀b,b<w.heap.size->F.O l (T++k) b->F.O c y b:=λb W B=>by
  rcases B with B | B
  .exact .inl B
  .rcases Z b B with B | B
   .rcases (D.mine b B).2 with G | G
    .exact .inr (hOC b G)
    .exact absurd W (Nat.not_lt.2 G)
   .exact .inr (hOR b B).1
 have hbb:∀b,b<w.heap.size->¬F.O c y b->z.heap[b]? =w.heap[b]?:=λb W hn=>D.keep b W λhh=>hn (.inr (hOC b hh));have Y:w.heap.size<=z.heap.size:=D.size0;refine ⟨l,?_,λA v hA hr=>hr.mono (Θ _) (λ_ _ _=>rfl) (λb _=>hOin b) λf i C=>u f i (hA f i C),λA v hA hr=>hr.mono Y hbb V λf i C=>X f i (hA f i C),u,r,⟨Y,hbb,V⟩,hOin⟩;refine ⟨λf i h H=>?_,λf i N S h U b H J B L=>?_,λb B=>?_,D.os.trans Q.os,D.tape.trans Q.tape,D.output.trans Q.output,jq Q.size0 Y,λb W hn=>?_,λf i b y=>?_,jq Q.drawn D.drawn⟩
 .rw[R] at H
  split at H
  .rename_i C
   rw[u f i C];refine (D.sim f i h H).mono (Θ _) (λ_ _ _=>rfl) (λb _=>hOin b) (λ_ _=>rfl) λN S hr=>u N S (bW n2 H hr)
  .rename_i C
   rw[r f i C];obtain ⟨o1,G,E,_⟩:=I f i h H;refine (E.1 _ _ _ _ (Q.sim f i o1 G)).mono Y hbb V (λb hv=>D.keep b (Q.mine b ⟨f,i,o1,G,hv⟩).1 (hOR b ⟨f,i,h,H,hv⟩).2) λN S hr=>X N S (E.2.1 N S hr)
 .rw[R] at H J
  have cross:∀{f i N S:Nat} {h U:AM} {b:Nat},f∈M->N∉M->dd T f i=some h->dd k N S=some U->CA (t f i)=some b->CA (c N S)=some b->False:=λ{f i N S h U b} C K H J B L=>by
   have G:=hOR b ⟨N,S,U,J,L⟩;rcases (D.mine b ⟨f,i,h,H,B⟩).2 with E | E
   .exact G.2 E
   .exact absurd (Q.mine b G.1).1 (Nat.not_lt.2 E)
  by_cases C:f∈M<;>by_cases K:N∈M
  .rw[ϱ C] at H;rw[ϱ K] at J;rw[u _ _ C] at B;rw[u _ _ K] at L;exact D.inj f i N S h U b H J B L
  .rw[ϱ C] at H;rw[υ K] at J;rw[u _ _ C] at B;rw[r _ _ K] at L;exact (cross C K H J B L).elim
  .rw[υ C] at H;rw[ϱ K] at J;rw[r _ _ C] at B;rw[u _ _ K] at L;exact (cross K C J H L B).elim
  .rw[υ C] at H;rw[υ K] at J;rw[r _ _ C] at B;rw[r _ _ K] at L;obtain ⟨o1,G,_⟩:=I f i h H;obtain ⟨o2,E,_⟩:=I N S U J;exact Q.inj f i N S o1 o2 b G E B L
 .rcases Z b B with B | B
  .obtain ⟨G,E⟩:=D.mine b B;refine ⟨G,?_⟩;rcases E with E | E
   .exact (Q.mine b (hOC b E)).2
   .exact .inr (jq Q.size0 E)
  .obtain ⟨G,E⟩:=Q.mine b (hOR b B).1;exact ⟨ln G Y,E⟩
 .have G:b<w.heap.size:=ln W Q.size0;rw[D.keep b G (λhh=>?_)]
  .exact Q.keep b W hn
  .rcases (Q.mine b (hOC b hh)).2 with E | E
   .exact hn E
   .omega
 .obtain ⟨a1,a,cs,a2⟩:=Q.pins f i b y
  by_cases C:f∈M
  .have h3:dd o f i=some (.blk a cs):=by rw[<-hfe.hget C];exact a2
   have hp':Cx c o f i=some b:=by simp only[Cx,h3,a1]
   obtain ⟨b1,t',cs',b2⟩:=D.pins f i b hp';exact ⟨by rw[u f i C];exact b1,t',cs',by rw[R,ϱ C];exact b2⟩
  .have h3:dd j f i=some (.blk a cs):=by rw[hr0s,υ C];exact a2
   obtain ⟨U,h4,_,_,h5,_⟩:=k2 f i _ h3;obtain ⟨cs',rfl⟩:=h5 a cs rfl;exact ⟨by rw[r f i C];exact a1,a,cs',by rw[R,υ C];exact h4⟩
theorem K8{CH G:Hp}(U:Bj F y c w)(B:List Nat)(K:C1 y CH B)(M:A6 B CH=true)(J:Ch B y=some j)(Q:C8 (CE CH B) j=some k)(E:∀b,(F.Of b\/(BL c y b/\¬BL c CH b))->b<w.heap.size/\¬BL c CH b)(D:Bj (By F x y CH c w E) CH c w)(H:Bj (By F x y CH c w E) G t z)(T:A6 B G=true)(S:GG B G=true):
  ∃r,Bj F (G++k) r z/\(∀A v,(∀f i,A.Refs f i->f∈B)->A8 z ((By F x y CH c w E).O t G) t A v->A8 z (F.O r (G++k)) r A v)/\
   (∀A v,(∀f i,A.Refs f i->CE CH B f i=true)->A8 w (F.O c y) c A v->A8 z (F.O r (G++k)) r A v)/\(∀f i,CE CH B f i=true->r f i=c f i)/\sY w z (F.O c y) (F.O r (G++k)):=by
 have C:∀f i,f∈B->CE CH B f i=true->t f i=c f i:=λf i I C=>by
  have u:sF (dd CH f i)=true:=by
   simp only[CE,Gb.2 I,Bool.not_true,Bool.false_or] at C;exact C
  cases ho:dd CH f i with
  | none=>rw[ho] at u;cases u
  | some o=>
   rw[ho] at u
   cases o with
   | blk a cs=>
    obtain ⟨b,us,N,_⟩:=D.sim f i _ ho;have y:Cx c CH f i=some b:=by simp only[Cx,ho,N]
    rw[(H.pins f i b y).1,N]
   | row a l R=>cases u
   | rowD a l R=>cases u
   | loop L=>cases u
   | map _ _=>cases u
   | iter _ _ _ _=>cases u
   | addr _ _ _=>cases u
   | any=>cases u
   | nb _ _ _=>cases u
   | nr _ _ _ _ _=>cases u
   | nm _ _ _=>cases u
   | itz=>cases u
   | multi _=>cases u
 obtain ⟨r,a1,Z,Y,X,W,V,_⟩:=Rq U B K M (XF J) (Iu Q).1 (Iu Q).2 E D H T S C;refine ⟨r,a1,Z,Y,λf i h=>?_,V⟩
 by_cases I:f∈B
 .rw[X f i I];exact C f i I h
 .exact W f i I
theorem Fh(A:SR F s c u w)(V:AO P i h o R){vs:List Value}(C:vs.length=h.length)(J:∀(b:Nat) a v,h[b]? =some a->vs[b]? =some v->A8 w (F.O c s.hp) c a v)(x:List Nat)(D:C1 s.hp o x)(E:A6 x o=true)(K:Ch x s.hp=some j)(hE:CD (CE o x) s.env=some f)(Y:C8 (CE o x) j=some k)(W:∀r z,R r z->A6 x z=true/\GG x z=true/\r.ok (Ju x)=true):
  Calls P i vs.toArray w λe I=>∃v r z l,e= .returned v/\R r z/\A8 I (F.O l (z++k)) l r v/\SR F ⟨s.n,f,z++k⟩ l u I/\∀i b,CE o x i b=true->l i b=c i b:=by
 obtain ⟨H,y,X⟩:=Ff (.marks w.heap.size) A.heap x D E;refine (V.2 (By F (.marks w.heap.size) s.hp o c w H) c vs Z Z ⟨Z,Z,Z⟩ y C (λb a v M T=>by rw[X];exact J b a v M T)).mono λe I ⟨v,r,z,N,e1,G,B,L⟩=>?_;obtain ⟨S,Q,O⟩:=W r z G;obtain ⟨l,g1,g2,g3,g4,g5,g6,g7⟩:=K8 A.heap x D E K Y H y L S Q;refine ⟨v,r,z,l,e1,G,g2 r v (λi b U=>Gb.1 (AV.ok_spec O U)) B,⟨A.size,A.defs.mono g5 g6 g7,λt a M=>?_,g1⟩,g4⟩;rcases Do hE M with rfl | ⟨h1,h2⟩
 .exact .top
 .exact g3 _ _ h2 (A.env t a h1)
theorem DW{c:Func}(r:P.funcs[i]? =some c)(b:(c.name== "runtime.NumGoroutine")=false)(k:c.body.isSome=true){j:Option Nat}:
  (execOp u.eval ⟨j,.call {callee:= .value (.func i),args:=a.toArray,argTypes:=at_},ty,pos,aft,g⟩).run P w= .ok (.enter i (a.map u.eval).toArray) w:=by
 have o:¬c.body=none:=by intro h;rw[h] at k;cases k
 have l:¬c.name= "runtime.NumGoroutine" :=by simpa using b
 simp[*,execOp,resolve,Act.eval,Deferred.ofValue,invoke,callFunc]
theorem Zi(D:AO P i h o R)(l:Lm s a=some h)(b:List Nat)(z:C1 s.hp o b)(A:A6 b o=true)(y:Ch b s.hp=some j)(J:CD (CE o b) s.env=some f)(I:C8 (CE o b) j=some k)(H:∀r c,R r c->A6 b c=true/\GG b c=true/\r.ok (Ju b)=true)(G:Nat.blt d s.n=true):
  QO P F ⟨some d,.call {callee:= .value (.func i),args:=a.toArray,argTypes:=at_},ty,pos,aft,g⟩ s (λE=>∃r c,R r c/\E=⟨s.n,(d,r)::f,c++k⟩):=λT S w C=>by
 obtain ⟨V,O,N,M⟩:=D.1;obtain ⟨L,K⟩:=Cm C l;unfold Oper.wp;rw[DW O N M,Oper.upon_enter];refine (Fh C D L K b z A y J I H).mono λe U ⟨v,r,c,t,Q,B,u,x,_⟩=>?_;subst Q;exact ⟨_,t,⟨Z,r,c,B,Z⟩,x.put (I0 G) u⟩
theorem F8{y:Hp}{z:AV}(M:AO P i h o λr K=>r=z/\K=y)(l:Lm s a=some h)(b:List Nat)(C:C1 s.hp o b)(D:A6 b o=true)(B:Ch b s.hp=some j)(R:CD (CE o b) s.env=some f)(Q:C8 (CE o b) j=some k)(H:A6 b y=true)(G:GG b y=true)(E:z.ok (Ju b)=true)(O:Nat.blt d s.n=true){x:Hp}(c:some (y++k)=some x):
  AH P F ⟨some d,.call {callee:= .value (.func i),args:=a.toArray,argTypes:=at_},ty,pos,aft,g⟩ s ⟨s.n,(d,z)::f,x⟩ (CE o b):=by
 injection c with c
 subst c;intro Z Y w L;obtain ⟨fn,W,V,U⟩:=M.1;obtain ⟨T,S⟩:=Cm L l;unfold Oper.wp;rw[DW W V U,Oper.upon_enter];refine (Fh L M T S b C D B R Q (λr K ⟨J,I⟩=>by subst J I;exact ⟨H,G,E⟩)).mono λe w' ⟨v,r,K,t,J,⟨I,X⟩,u,A,N⟩=>?_;subst J I X;exact ⟨t,A.put (I0 O) u,N⟩
theorem Ak{x:D}(N:AI P i h x)(I:Lm s a=some h)(R:Nat.blt d s.n=true):
  AA P F ⟨some d,.call {callee:= .value (.func i),args:=a.toArray,argTypes:=at_},ty,pos,aft,g⟩ s d (.d x):=by
 refine ⟨R,Z,λz act w l=>?_⟩;obtain ⟨fn,X,W,V⟩:=N.1;obtain ⟨U,T⟩:=Cm l I;unfold Oper.wp;rw[DW X W V,Oper.upon_enter];have E:∀z b,¬BL z [] b:=λz b ⟨_,_,_,j,_⟩=>by cases j
 let L:Fr:=Fr.mk none (.marks w.heap.size) w (F.O z s.hp) (BL z []) (Cx z []) (λb A=>⟨by
  rcases A with A | A
  .exact ln (F.hOf b A).1 l.heap.size0
  .exact (l.heap.mine b A).1,E z b⟩) [] (λ_ _ _ j=>Dj j)
 have O:∀B,L.O B []=F.O z s.hp:=λB=>funext λb=>propext ⟨λj=>j.elim id λj=>(E B b j).elim,.inl⟩
 have H:Bj L [] z w:=⟨(λi c o J=>by cases J),(λi c f' i' o o' b J=>by cases J),λb A=>(E z b A).elim,Z,Z,Z,Θ _,λ_ _ _=>rfl,λi c b A=>nP A,Θ _⟩
 refine (N.2 L z _ Z Z ⟨Z,Z,Z⟩ H U (λc k v S K=>by rw[O];exact T c k v S K)).mono λe M ⟨v,r,H',B,e1,⟨e2,Y⟩,t,y⟩=>?_;subst e1 e2 Y;have G:∀b,b<w.heap.size->M.heap[b]? =w.heap[b]?:=λb u=>y.keep b u (E z b);have C:w.heap.size<=M.heap.size:=y.size0;refine ⟨v,Z,?_,?_,C,G⟩
 rotate_left
 .refine ⟨λi c o J=>?_,l.heap.inj,λb A=>⟨ln (l.heap.mine b A).1 C,(l.heap.mine b A).2⟩,y.os.trans l.heap.os,y.tape.trans l.heap.tape,y.output.trans l.heap.output,jq l.heap.size0 C,λb u Q=>?_,l.heap.pins,jq l.heap.drawn y.drawn⟩
  .exact (l.heap.sim i c o J).mono C (λb u _=>G b u) (λ_ _ j=>j) (λb K=>G b (l.heap.mine b ⟨i,c,o,J,K⟩).1) λ_ _ _=>rfl
  .rw[G b (ln u l.heap.size0)];exact l.heap.keep b u Q
 .cases t with
  | d t=>rw[O] at t;exact .d t
end
end Go.Proofs.YteifpcnphnhaoaaGreat
