import Derived.Test.YteifpcnphnhaoaaGreatMg4
import Derived.Deep.AppendSrc
namespace Go.Proofs.YteifpcnphnhaoaaGreat
open Go.RowKit
theorem O2 {P:Program} (w:World) (t G M e:TypeId) (l bytes:Nat) (T:SlTy P t e l bytes) (v:Value) (n:Nat) (xs:List Value) (c:w.ownsRow 0 e l v n xs)
  (x:Value) (m:Nat) (a:List Value) (B:Src P l G x m a w) (p:(n+m)*bytes<=140737488355328):
  ∃L U,(Builtin.append_ #[t,G] M #[v,x]).run P w= .ok L U/\U.ownsRow 0 e l L (n+m) (xs++a)/\w.grownBy U v.ownBlock/\(L.ownBlock=v.ownBlock\/L.ownBlock=some w.heap.size):=by
 obtain ⟨i,z,R,hz,A,hby,V⟩:=T.info;have N:=T.ht;have hsz:=T.pos;have hbp:=T.pos';subst A hby
 have K:n+m<=maxLen:=by
  have:(n+m)*1<=(n+m)*i.bytes:=Nat.mul_le_mul_left _ hbp;unfold maxLen;omega
 have O:n+m<=9223372036854775807:=by simp only [maxLen] at K;omega
 have Q:=B.newsLen;have o:(xs++a).length=(n+m)*i.size:=by rw [Δ,c.1,Q,φf]
 have s:∀(d:Nat),d<n+m ->∀(H:Option Nat),
   (w.drew.alloc (.cells ((xs++a).toArray++Builtin.zeroCells z.cells (grownCap w (n+m) d e - (n+m))) e)).ownsRow 0 e i.size
    (.slice (some ⟨w.heap.size,0,none⟩) (n+m) (grownCap w (n+m) d e)) (n+m) (xs++a)/\
   w.grownBy (w.drew.alloc (.cells ((xs++a).toArray++Builtin.zeroCells z.cells (grownCap w (n+m) d e - (n+m))) e)) H:=by
  intro d ho H;have W:=grownCap_ge w (n+m) d e;have E:grownCap w (n+m) d e<=maxLen:=grownCap_le_maxLen w (n+m) d e K;refine ⟨⟨o,.inr ⟨w.heap.size,_,_,Z,ζ _,heap_alloc_new w.drew _,W,E,?_,?_⟩⟩,⟨Z,Z,Z,by simp,λk F _=>Below.heap_alloc w.drew _ k F⟩⟩
  .simp only [Array.size_append,List.size_toArray,size_zeroCells,V,o,<-φf]
   congr 1
   omega
  .simp only [Array.toList_append];rw [<-o];exact List.take_left
 rcases c.2 with ⟨rfl,rfl⟩ | ⟨g,h,r,rfl,hbg,Y,hnc,E,J,y⟩
 .have hx:xs=[]:=ωz (by simpa using c.1);subst hx
  by_cases hm:m=0
  .subst hm;have hn:a=[]:=ωz (by simpa using Q);subst hn;refine ⟨.slice none 0 0,w,?_,World.ownsRow_nil w 0 e i.size,⟨Z,Z,Z,Γ _,λ_ _ _=>rfl⟩,.inl Z⟩;have hc:=B.cells;rcases B.kind with ⟨e',F⟩ | F<;>simp [Builtin.append_,run_underlying N,run_underlying F,sizeOf,typeInfo,R,B.len,hc]
  .have C:=run_append_grow_src (P:=P) w t G M e i z N R hz none 0 0 [] (run_firstCells_none w.drew i.size 0 0 0) x m a B (by omega) (by omega) (growslice_fits (by omega) p);have q:=s 0 (by omega) (Value.ownBlock (.slice none 0 0));simp only [ψu,χj] at C q⊢;exact ⟨_,_,C,q.1,q.2,.inr Z⟩
 .by_cases f:n+m<=h
  .have I:n*i.size+a.length<=r.size:=by rw [Q,J,<-φf];exact ψa _ f
   have X:w.heap[g]? =some (.cells r.toList.toArray e (0,0)):=by simpa using Y
   have C:=run_append_room_src (P:=P) w t G M e i N R g 0 n h x m a B f (λj hj=>by
    rw [cell_of_row w g _ r e (0,0) Y];simp;omega) (λj hj=>by simp [World.frozen?,Y])
   rw [ψu] at C;obtain ⟨g1,g2,g3,g4⟩:=ZcI (b:=g) a (n*i.size) w;refine ⟨_,_,C,⟨o,.inr ⟨g,h,_,Z,hbg,Zcb _ _ _ _ X,f,E,by simp [aq,J],?_⟩⟩,⟨g1,g2,g3,Nat.le_of_eq g4.symm,λk _ F=>Zca _ _ _ _ λe=>F (by simp [Value.ownBlock,e])⟩,.inl Z⟩;show (GL r.toList (n*i.size) a).take ((n+m)*i.size)=xs++a;rw [φf,<-Q,Lu _ _ _ _ (Γ _) (by simpa using I)]
   apply χn
   intro j;rw [DI a (r.toList.take (n*i.size+a.length)) (n*i.size) (by have:=χb (xs:=r);rw [ϱ];omega) j,List.getElem?_append,χg,c.1]
   by_cases S:j<n*i.size
   .rw [η (by omega),ς (by omega),ς S,<-y,χg,ς S]
   .by_cases h2:j<n*i.size+a.length
    .rw [ς ⟨by omega,h2⟩,η S]
    .have h3:a.length<=j - n*i.size:=by omega
     rw [η (λhh=>h2 hh.2),η h2,η S,ψm h3]
  .have D:∀j u,xs[j]? =some u ->w.cell? ((⟨g,0,none⟩:Addr).add j)=some u:=c.cells (g:=g) rfl;have C:=run_append_grow_src (P:=P) w t G M e i z N R hz (some ⟨g,0,none⟩) n h xs (run_firstCells_some w.drew i.size n ⟨g,0,none⟩ n h xs c.1 (by simpa using D)) x m a B (by omega) (by omega) (growslice_fits (by omega) p);have q:=s h (by omega) (Value.ownBlock (.slice (some ⟨g,0,none⟩) n h));exact ⟨_,_,C,q.1,q.2,.inr Z⟩
theorem Iw {a:Option Addr} {n c:Nat}:Bu (.slice a n c)=(Value.slice a n c).ownBlock:=by cases a<;>rfl
section
variable {P:Program} {F:Fr} {s:AS} {d:Nat} {ty T T2 E:TypeId} {pos:String} {aft:Array Edge} {g:Option (Nat×Bool)} {x y:Operand} {k:IntKind} {i:Int}
variable {a:List (Nat×AV)} {c e:List (Nat×List AN)} {f h:List D} {j m n o p:Nat}
theorem NO {J:Nat ->Nat ->Value} {A:Act} {w:World} (hs:SR F s J A w) {X:List D} (hx:s.ev x=some (.own p o n)) (Y:hget s.hp p o=some (.rowD E j f)) (hn:n<=f.length)
  (S:SlTy P T E j m) {B:List Value} (R:Src P j T2 (A.eval y) h.length B w) (I:GG D.cells j (A1 w (F.O J s.hp)) h B) (V:∀z∈h,∀r∈z.cells,r.one=true) (G:(n+h.length)*m<=140737488355328)
  (hE:Ac p s.env=some a) (hH:Aa p s.hp=some c) (hz:f.take n++h=X) (hh:B7 c p o (.rowD E j X)=some e):
  ∃M L,(Builtin.append_ #[T,T2] ty #[A.eval x,A.eval y]).run P w= .ok M L/\SR F ⟨s.n,a,e⟩ (upd J p o M) A L/\∀w O,A9 w O (upd J p o M) (.own p o (n+h.length)) M:=by
 have l:=hs.ev hx
 generalize hv:A.eval x=u at l
 obtain ⟨us,v,cap,e1,h1,h2,h3,h4,h5⟩:=hs.rowD Y
 cases l with
 | own Q hn'=>
  rw [e1] at Q;injection Q with e2 e3 e4
  subst e2 e3 e4;obtain ⟨M,L,r1,Z,N,K⟩:=O2 (P:=P) w T T2 ty E j m S _ n _ (Rs h1 hn) (A.eval y) h.length B R G;obtain ⟨a',W,e5,q1,q2,q3,q4⟩:=Hb Z;subst e5;have hzl:X.length=n+h.length:=by rw [<-hz,Δ,ϱ];omega
  refine ⟨_,L,r1,?_,λw O=> .own QS (Γ _)⟩;refine hs.set p o (.rowD E j X) _ hE hH (BB hh) (λt cs q=>by rw [Y] at q;cases q) (λb G=>?_) N.os N.tape N.output N.size (λb hlt hne=>N.block b hlt λq=>hne ⟨⟨_,Y⟩,?_⟩) (λU=>?_) (ZQ r1)
  .rw [Iw] at G;rcases K with K | K
   .left
    refine ⟨⟨_,Y⟩,?_⟩;rw [e1,Iw,<-G,K]
    cases v<;>rfl
   .right
    rw [K] at G;injection G with G
    subst G;have:=(World.ownsRow.lt Z w.heap.size K).2;omega
  .rw [e1,Iw]
   cases v with
   | none=>simp [Value.ownBlock] at q
   | some v=>exact q.symm
  .have H:∀r u,A1 w (F.O J s.hp) r u ->A1 L (F.O (upd J p o (.slice a' (n+h.length) W)) e) r u:=λr u hr=>by
    have:=U (.d r) u (λi l=>nomatch l) (.d hr)
    cases this with | d l=>exact l
   refine ⟨us.take (n*j)++B,by rw [hzl];exact Z,?_,λz C r hc=>?_⟩
   .rw [<-hz];exact ((h2.take n hn).append I).mono λx _ r _ u hu=>H r u hu
   .rw [<-hz] at C;rcases ϖ.1 C with C | C
    .exact h3 z (ωs C) r hc
    .exact V z C r hc
theorem Vw {b:Nat} {R:Option Bool} {Z:List D} (Q:s.ev x=some (.own p o n)) (hy:s.ev y=some (.d (.sl R h))) (ho:hget s.hp p o=some (.rowD E j f)) (hn:n<=f.length)
  (S:SlTy P T E j m) (hk:∀z∈h,z.cells.length=j) (hm:h.length=b) (hb:(n+b)*m<=140737488355328) (hE:Ac p s.env=some a) (hH:Aa p s.hp=some c) (hz:f.take n++h=Z) (hh:B7 c p o (.rowD E j Z)=some e) (hd:Nat.blt d s.n=true):
  AG P F ⟨some d,.call {callee:= .builtin .append,args:= #[x,y],argTypes:= #[T,T]},ty,pos,aft,g⟩ s ⟨s.n,(d,.own p o (n+b))::a,e⟩ (Bn p):=λρ O w hs=>by
 subst hm;have U:=hs.repD hy;obtain ⟨A,N,t,_⟩:=U.sl_len;rw [t] at U;obtain ⟨B,M,Y,g3,_⟩:=U.lies hk
 have K:∀u∈B,u.oneCell'=true:=λu I=>by
  obtain ⟨q,hq,rfl⟩:=ωq I;have V:q<h.length*j:=by rw [<-Y.1];exact hq
  have L:0<j:=S.pos;have hi:q / j<h.length:=(Nat.div_lt_iff_lt_mul L).2 V;obtain ⟨x,Q⟩:=List.getElem?_some_of_lt hi;obtain ⟨v,hc⟩:=List.getElem?_some_of_lt (l:=x.cells) (i:=q % j) (by rw [hk x (ξ Q)];exact Nat.mod_lt _ L);obtain ⟨u,G,X,_⟩:=Y.2.2 _ x Q _ v hc;rw [show q / j*j+q % j=q by rw [φd];exact Nat.div_add_mod q j,ω hq] at G;injection G with G;rw [G];exact X
 have J:Src P j T (O.eval y) h.length B w:=by
  rw [t]
  cases A with
  | none=>
   have C:h.length=0:=by
    rcases Nat.eq_zero_or_pos h.length with C | C
    .exact C
    .obtain ⟨_,G,_⟩:=M.2 C;cases G
   have H:B=[]:=ωz (by rw [M.1,C,Nat.zero_mul]);rw [C,H];exact Src.ofNil w S.ht N
  | some ad=>
   refine Src.ofSlice w S.ht ad h.length N B M.1 (λo u I=>?_) K
   have C:0<h.length:=by
    rcases Nat.eq_zero_or_pos h.length with C | C
    .have H:B=[]:=ωz (by rw [M.1,C,Nat.zero_mul]);rw [H] at I;simp at I
    .exact C
   obtain ⟨ad',G,_,X⟩:=M.2 C;injection G with G;subst G
   exact X o u I
 obtain ⟨v',w',r1,r2,r3⟩:=NO (ty:=ty) hs Q ho hn S J Y g3 hb hE hH hz hh
 have W:(execOp O.eval ⟨some d,.call {callee:= .builtin .append,args:= #[x,y],argTypes:= #[T,T]},ty,pos,aft,g⟩).run P w= .ok (.value v') w':=by
  simp [execOp,resolve,invoke,builtin,r1]
 unfold Oper.wp;rw [W];exact ⟨_,r2.put (IS hd) (r3 _ _),λp i r=>OF λt=>Sf r t.1⟩
theorem Ff {f2 j2 r:Nat} {C zs:List D} (W:s.ev x=some (.own p o n)) (hy:s.ev y=some (.own f2 j2 r)) (ho:hget s.hp p o=some (.rowD E j f)) (hn:n<=f.length)
  (Z:hget s.hp f2 j2=some (.rowD E j C)) (I:C.take r=h) (hm:r<=C.length)
  (S:SlTy P T E j m) (hb:(n+r)*m<=140737488355328) (hE:Ac p s.env=some a) (hH:Aa p s.hp=some c) (hz:f.take n++h=zs) (hh:B7 c p o (.rowD E j zs)=some e) (hd:Nat.blt d s.n=true):
  AG P F ⟨some d,.call {callee:= .builtin .append,args:= #[x,y],argTypes:= #[T,T]},ty,pos,aft,g⟩ s ⟨s.n,(d,.own p o (n+r))::a,e⟩ (Bn p):=λρ K w X=>by
 have t:=X.ev hy
 generalize hv:K.eval y=u at t
 obtain ⟨V,B,J,e1,U,h2,h3,h4,h5⟩:=X.rowD Z;have G:h.length=r:=by rw [<-I,ϱ];omega
 have L:=h2.take r hm;rw [I] at L
 have Q:∀u∈V.take (r*j),u.oneCell'=true:=λu H=>by
  obtain ⟨q,hq,rfl⟩:=ωq H;have Y:q<h.length*j:=by rw [<-L.1];exact hq
  have R:0<j:=S.pos;have hi:q / j<h.length:=(Nat.div_lt_iff_lt_mul R).2 Y;obtain ⟨x,W⟩:=List.getElem?_some_of_lt hi;obtain ⟨A,hc⟩:=List.getElem?_some_of_lt (l:=x.cells) (i:=q % j) (by rw [L.2.1 x (ξ W)];exact Nat.mod_lt _ R);obtain ⟨u,U,h2,_⟩:=L.2.2 _ x W _ A hc;rw [show q / j*j+q % j=q by rw [φd];exact Nat.div_add_mod q j,ω hq] at U;injection U with U;rw [U];exact h2
 have O:Src P j T (K.eval y) h.length (V.take (r*j)) w:=by
  rw [hv,G]
  cases t with
  | own M hn'=>
   rw [e1] at M;injection M with e2 e3 e4
   subst e2 e3 e4;have hl:(V.take (r*j)).length=r*j:=by rw [L.1,G]
   rcases Nat.eq_zero_or_pos C.length with h0 | h0
   .have hm0:r=0:=by omega
    subst hm0;have hn0:V.take (0*j)=[]:=by simp
    rw [hn0]
    cases B with
    | none=>exact Src.ofNil w S.ht J
    | some ad=>exact Src.ofSlice w S.ht ad 0 J [] (by simp) (λo u H=>by simp at H) (by simp)
   .obtain ⟨b,rfl,cur,h6,h7,h8⟩:=h5 h0;refine Src.ofSlice w S.ht ⟨b,0,none⟩ r J _ hl (λo u H=>?_) Q;rw [χg] at H
    split at H
    .rw [Addr.add_mid,ψu];exact Do h6 h8 H
    .cases H
 rw [<-G] at hb;obtain ⟨v',w',r1,r2,r3⟩:=NO (ty:=ty) X W ho hn S O L (λz N A hc=>h3 z (by rw [<-I] at N;exact ωs N) A hc) hb hE hH hz hh
 have hex:(execOp K.eval ⟨some d,.call {callee:= .builtin .append,args:= #[x,y],argTypes:= #[T,T]},ty,pos,aft,g⟩).run P w= .ok (.value v') w':=by
  simp [execOp,resolve,invoke,builtin,r1]
 unfold Oper.wp;rw [hex,<-G];exact ⟨_,r2.put (IS hd) (r3 _ _),λp i t=>OF λv=>Sf t v.1⟩
theorem ZcK {t:TypeId} {z:Operand} {B:IntKind} {r:Int} (h:Nat) (C:s.ev x=some (.own p o n)) (m:s.ev z=some (.d (.raw (.int B r)))) (I:r=(h:Int)) (e:h<=f.length) (G:hget s.hp p o=some (.rowD t j f))
  (K:P.underlying T=some (.slice E)) (L:A5 P E j=true) (J:Nat.blt d s.n=true):
  AA P F ⟨some d,.slice T x none (some z) none,ty,pos,aft,g⟩ s d (.own p o h):=
 Cz _ J λN q w l=>by
  have v:=l.ev C
  generalize D:q.eval x=u at v
  obtain ⟨O,a,b,A,U,S,R,M,Q⟩:=l.rowD G
  cases v with
  | own c H=>
   rw [A] at c;injection c with e2 e3 e4
   subst e2 e3 e4;subst I;refine ⟨.slice (if b=0 then a else a.map (·.add (0*j))) (h - 0) (b - 0),by simp only [execOp,D,ψl,φa,l.raw m,Sem.run_bind,H7 K (ae L) (ωa e M.1),Result.andThen_ok,Sem.run_pure],?_⟩
   have:(if b=0 then a else a.map (·.add (0*j)))=a:=by
    split
    .rfl
    .cases a<;>simp [Addr.add]
   rw [this];exact .own A e
end
def Kj (s:AS):Nat ->List (Nat×Operand) ->Option (List D)
 | _,[]=>some []
 | i,(j,x)::r=>match Nat.beq i j with
  | false=>none
  | true=>match s.ev x with
   | some (.d v)=>match Kj s (i+1) r with
    | none=>none
    | some l=>some (v::l)
   | _=>none
def SV (k:Nat):List D ->Bool
 | []=>true
 | x::r=>(match x with | .tup _=>false | _=>true) && Nat.beq x.cells.length k && SV k r
theorem Ul {k:Nat} {a:List D} (h:SV k a=true):∀x∈a,x.cells.length=k/\(∀b,x≠ .tup b):=by
 induction a with
 | nil=>simp
 | cons x r c=>
  simp only [SV,ωd] at h
  grind [ωb]
theorem A1.cellsOf {w:World} {O:Nat ->Prop} {x:D} {v:Value} (h:A1 w O x v) (j:∀b,x≠ .tup b):
  v.cells.toList.length=x.cells.length/\(∀c∈x.cells,c.one=true)/\∀(q:Nat) c,x.cells[q]? =some c ->∃u,v.cells.toList[q]? =some u/\u.oneCell'=true/\A1 w O c u:=by
 have one:∀{x:D} {v:Value},x.one=true ->A1 w O x v ->v.cells.toList.length=x.cells.length/\(∀c∈x.cells,c.one=true)/\∀(q:Nat) c,x.cells[q]? =some c ->∃u,v.cells.toList[q]? =some u/\u.oneCell'=true/\A1 w O c u:=λ{x v} l h=>by
  have k:=h.oneCell l;have a:v.cells.toList=[v]:=by cases v<;>first | rfl | cases k
  grind [D.cells_one]
 cases x with
 | agg b=>
  cases h with
  | @agg _ d i g m=>
   refine ⟨by simpa [Value.cells,D.cells] using i,g,λq c a=>?_⟩;have f:q<d.length:=by rw [i];exact (φ.1 a).1
   have e:=m q c d[q] a (ω f);exact ⟨d[q],by simp [Value.cells,f],e.oneCell (g c (ξ a)),e⟩
 | tup b=>exact absurd Z (j b)
 | raw _=>exact one Z h
 | sl _ _=>exact one Z h
 | ptr _=>exact one Z h
 | fn _ _ _=>exact one Z h
theorem T4 {w:World} {O:Nat ->Prop} {ρ:Nat ->Nat ->Value} {E:TypeId} {k:Nat} {xs:List D} {r:Array Value} (f:xs.length<=maxLen) (a:r.size=xs.length*k)
  (h:∀(i:Nat) x,xs[i]? =some x ->x.cells.length=k/\(∀c∈x.cells,c.one=true)/\∀(q:Nat) c,x.cells[q]? =some c ->∃u,r[i*k+q]? =some u/\u.oneCell'=true/\A1 (w.alloc (.cells r E)) O c u):
  Av (w.alloc (.cells r E)) O ρ (.rowD E k xs) (.slice (some ⟨w.heap.size,0,none⟩) xs.length xs.length):=by
 refine ⟨r.toList,⟨by simpa using a,.inr ⟨w.heap.size,xs.length,r,Z,ζ _,heap_alloc_new w _,Γ _,f,a,by rw [<-a,<-χb,ωl]⟩⟩,⟨by simpa using a,λx b=>?_,λi x b j c e=>?_⟩,λx b c e=>?_⟩
 .obtain ⟨i,d,rfl⟩:=ωq b;exact (h i _ (ω d)).1
 .grind
 .obtain ⟨i,d,rfl⟩:=ωq b;exact (h i _ (ω d)).2.1 c e
section
variable {P:Program} {F:Fr} {s:AS} {d:Nat} {ty T T2 E:TypeId} {pos:String} {aft:Array Edge} {g:Option (Nat×Bool)} {x y:Operand} {k:IntKind} {i:Int}
variable {a:List (Nat×AV)} {c e:List (Nat×List AN)}
theorem Ki {e:Nat ->Nat ->Value} {a:Act} {w:World} (f:SR F s e a w):∀(l:List (Nat×Operand)) (i:Nat) (b:List D),Kj s i l=some b→
  (l.map λp=>(p.1,a.eval p.2))=(((l.map λp=>a.eval p.2).zipIdx i).map λx=>(x.2,x.1))/\l.length=b.length/\∀(q:Nat) x,b[q]? =some x ->∃v,(l.map λp=>a.eval p.2)[q]? =some v/\A1 w (F.O e s.hp) x v
 | [],_,b,h=>by simp only [Kj,Option.some.injEq] at h;subst h;simp
 | (j,x)::r,i,b,h=>by
  simp only [Kj] at h
  split at h
  .cases h
  .rename_i o
   have:=ωb o;subst this
   split at h
   .rename_i v n
    split at h
    .cases h
    .rename_i m t
     injection h with h;subst h
     obtain ⟨B,A,u⟩:=Ki f r (i+1) m t;refine ⟨by simp [B],by simp [A],λq z c=>?_⟩
     cases q with
     | zero=>simp at c;subst c;exact ⟨_,by simp,f.repD n⟩
     | succ q=>exact u q z (by simpa using c)
   .cases h
theorem C1 (f:Nat) {l:List (Nat×Operand)} {n m by_:Nat} {xs:List D} (S:SlTy P T E m by_) (hp:Kj s 0 l=some xs) (hn:Nat.beq l.length n=true) (hk:SV m xs=true) (hb:Nat.ble (n*m) 16777216=true)
  (hE:Ac f s.env=some a) (hH:Aa f s.hp=some e) (hh:Cj e f (.rowD E m xs)=some c) (hd:Nat.blt d s.n=true):
  AG P F ⟨some d,.buildSlice T n l.toArray,ty,pos,aft,g⟩ s ⟨s.n,(d,.own f 0 n)::a,c⟩ (Bn f):=λρ o w hs=>by
 have:=ωb hn;subst this;obtain ⟨ti,z,h1,h2,h3,h4,h5⟩:=S.info;have hT:=S.ht;obtain ⟨a1,V,a3⟩:=Ki hs l 0 xs hp;have hbn:=Nat.le_of_ble_eq_true hb;have A:=Ul hk
 have hcs:∀v∈l.map (λp=>o.eval p.2),v.cells.size=m:=λv hv=>by
  obtain ⟨q,hq,rfl⟩:=ωq hv;rw [χ] at hq;obtain ⟨x,H⟩:=List.getElem?_some_of_lt (l:=xs) (i:=q) (by omega);obtain ⟨v,t,C⟩:=a3 q x H;rw [ω (by simpa using hq)] at t;injection t with t
  rw [t];obtain ⟨U,b2⟩:=A x (ξ H);rw [<-U,<-(C.cellsOf b2).1,χb]
 obtain ⟨r,Q,r2,r3⟩:=Great.fill_dense S.pos (l.map λp=>o.eval p.2) 0 ((Array.range (l.length*m)).map ((if l.length*m=0 then #[] else z.cells)[· % (if l.length*m=0 then #[] else z.cells).size]!)) hcs (by simp)
 have J:(Instr.buildSlice T l.length (l.toArray.map λp=>(p.1,o.eval p.2))).run P w= .ok (.slice (some ⟨w.heap.size,0,none⟩) l.length l.length) (w.alloc (.cells r E)):=by
  have hl:(l.toArray.map λp=>(p.1,o.eval p.2)).toList=((l.map λp=>o.eval p.2).zipIdx 0).map λx=>(x.2,x.1):=by simpa using a1
  have B:¬(16777216<l.length*m):=by omega
  have I:=ZcB (P:=P) (T:=E) (n:=m) (by rw [h1];simp [h3]) w
  by_cases R:l.length*m=0
  .simp only [ς R] at Q;simp only [Instr.buildSlice,Sem.run_bind,run_underlying hT w,Result.andThen_ok,I,η B,ς R,Sem.run_pure,hl,Q,newRow,newObj,Sem.run,World.alloc_eq]
  .simp only [η R] at Q;have W:(zeroValue E).run P w= .ok z w:=by simp [zeroValue,typeInfo,h1,h2]
   simp only [Instr.buildSlice,Sem.run_bind,run_underlying hT w,Result.andThen_ok,I,η B,η R,Sem.run_pure,hl,Q,newRow,newObj,Sem.run,World.alloc_eq,W]
 have hex:(execOp o.eval ⟨some d,.buildSlice T l.length l.toArray,ty,pos,aft,g⟩).run P w= .ok (.value (.slice (some ⟨w.heap.size,0,none⟩) l.length l.length)) (w.alloc (.cells r E)):=by
  simp only [execOp,Sem.run_bind];have:(l.toArray.map λ(x:Nat×Operand)=>match x with | (i,x)=>(i,o.eval x))=(l.toArray.map λp=>(p.1,o.eval p.2)):=rfl;rw [this,J];rfl
 unfold Oper.wp;rw [hex];have G:r.size=xs.length*m:=by rw [r2,<-V];simp
 have N:xs.length<=maxLen:=by
  have:xs.length*1<=xs.length*m:=Nat.mul_le_mul_left _ S.pos;unfold maxLen;rw [<-V] at this⊢;omega
 have X:=hs.new f (.rowD E m xs) (.slice (some ⟨w.heap.size,0,none⟩) l.length l.length) (.cells r E) hE hH hh Z (λK=>by
  have L:=T4 (w:=w) (O:=F.O (upd ρ f 0 (.slice (some ⟨w.heap.size,0,none⟩) l.length l.length)) c) (ρ:=upd ρ f 0 (.slice (some ⟨w.heap.size,0,none⟩) l.length l.length)) (E:=E) (k:=m) (xs:=xs) (r:=r) N G;rw [<-V] at L;refine L λi x H=>?_;obtain ⟨v,t,C⟩:=a3 i x H;obtain ⟨U,b2⟩:=A x (ξ H);obtain ⟨c1,c2,c3⟩:=C.cellsOf b2;refine ⟨U,c2,λq j hc=>?_⟩;obtain ⟨u,d1,d2,d3⟩:=c3 q j hc;have M:q<m:=by rw [<-U];exact (φ.1 hc).1
  have Y:i<xs.length:=(φ.1 H).1;refine ⟨u,?_,d2,?_⟩
  .rw [r3,ς]
   .have e1:(i*m+q) / m=i:=by rw [φd,Nat.mul_add_div S.pos,Nat.div_eq_of_lt M];rfl
    have e2:(i*m+q) % m=q:=by rw [φd,Nat.mul_add_mod,Nat.mod_eq_of_lt M]
    rw [e1,e2,Nat.sub_zero,t,χk]
    simpa using d1
   .refine ⟨by omega,?_⟩;have:(i+1)*m<=xs.length*m:=ψa _ Y;rw [φf] at this;rw [χ,V,ψu];omega
  .have:=K (.d j) u (λi h=>nomatch h) (.d d3)
   cases this with | d h=>exact h)
 exact ⟨_,X.put (IS hd) (.own QS (Γ _)),λf i h=>OF λb=>Sf h b.1⟩
def OJ (P:Program) (E:TypeId):Option D:=match At P E with
 | none=>none
 | some l=>match Pf l with
  | none=>none
  | some ds=>match P.underlying E with
   | some (.struct _)=>some (.agg ds)
   | some (.array _ _)=>some (.agg ds)
   | some _=>match ds with
    | [x]=>some x
    | _=>none
   | none=>none
theorem Su {E:TypeId} {x:D} (h:OJ P E=some x):∃l,At P E=some l/\l=x.cells.map .d/\∀c∈x.cells,c.one=true:=by
 unfold OJ at h
 split at h
 .cases h
 .rename_i l b
  split at h
  .cases h
  .rename_i m a
   obtain ⟨f,e⟩:=Pe a
   have j:some (D.agg m)=some x ->∃l,At P E=some l/\l=x.cells.map .d/\∀c∈x.cells,c.one=true:=λh=>by
    injection h with h;subst h;exact ⟨l,b,f,e⟩
   grind [D.cells_one]
theorem FK (f:Nat) {n o u:Nat} {z:D} {W:IntKind} (S:SlTy P T E o u) (H:s.ev x=some (.d (.raw (.int k i)))) (hy:s.ev y=some (.d (.raw (.int W i)))) (hi:i=(n:Int)) (hb:n*u<=140737488355328) (hz:OJ P E=some z)
  (hE:Ac f s.env=some a) (hH:Aa f s.hp=some e) (hh:Cj e f (.rowD E o (List.replicate n z))=some c) (hd:Nat.blt d s.n=true):
  AG P F ⟨some d,.makeSlice T x y,ty,pos,aft,g⟩ s ⟨s.n,(d,.own f 0 n)::a,c⟩ (Bn f):=λρ R w K=>by
 obtain ⟨ti,t,h1,h2,h3,h4,Q⟩:=S.info;have hT:=S.ht;subst hi;have N:=S.pos';have hn1:n*1<=n*u:=Nat.mul_le_mul_left _ N
 have v:=run_make (P:=P) w T E ti t hT h1 h2 k W (n:Int) (n:Int) (by omega) (Int.le_refl _) (by
  rw [h4];have:((u*n:Nat):Int)<=281474976710656:=by rw [φd];omega
  rwa [Int.natCast_mul] at this) (by omega)
 simp only [Int.toNat_natCast,h3] at v
 have M:(execOp R.eval ⟨some d,.makeSlice T x y,ty,pos,aft,g⟩).run P w= .ok (.value (.slice (some ⟨w.heap.size,0,none⟩) n n)) (w.alloc (.cells (madeCells t.cells (n*o)) E)):=by
  simp [execOp,K.raw H,K.raw hy,v]
 unfold Oper.wp;rw [M];obtain ⟨l,l1,V,l3⟩:=Su hz;obtain ⟨ti',zv',G,C,U⟩:=IT l1;rw [h1] at G;injection G with G;subst G
 rw [h2] at C;injection C with C;subst C
 have A:=(Cy U w (F.O ρ s.hp) ρ).1;rw [V,χ,χb,Q] at A
 have J:=K.new f (.rowD E o (List.replicate n z)) (.slice (some ⟨w.heap.size,0,none⟩) n n) (.cells (madeCells t.cells (n*o)) E) hE hH hh Z (λX=>by
  have p:(List.replicate n z).length=n:=List.length_replicate
  have:=T4 (w:=w) (O:=F.O (upd ρ f 0 (.slice (some ⟨w.heap.size,0,none⟩) n n)) c) (ρ:=upd ρ f 0 (.slice (some ⟨w.heap.size,0,none⟩) n n)) (E:=E) (k:=o) (xs:=List.replicate n z) (r:=madeCells t.cells (n*o))
   (by rw [p];unfold maxLen;omega) (by rw [p,size_madeCells]) (λq x H=>by
    have hq:q<n:=by rw [<-p];exact (φ.1 H).1
    have I:x=z:=by
     have:=ξ H;exact List.eq_of_mem_replicate this
    subst I;refine ⟨A.symm,l3,λj m hc=>?_⟩;have Y:j<o:=by rw [A];exact (φ.1 hc).1
    have B:j<t.cells.size:=by rw [Q];exact Y
    obtain ⟨a1,a2⟩:=(Cy U (w.alloc (.cells (madeCells t.cells (n*o)) E)) (F.O (upd ρ f 0 (.slice (some ⟨w.heap.size,0,none⟩) n n)) c) ρ).2 j (.d m) t.cells[j] (by rw [V,ν,hc];rfl) (by simp [B])
    have L:q*o+j<n*o:=by
     have:(q+1)*o<=n*o:=ψa _ hq;rw [φf] at this;omega
    refine ⟨t.cells[j],?_,a2,?_⟩
    .have e2:(q*o+j) % o=j:=by rw [φd,Nat.mul_add_mod,Nat.mod_eq_of_lt Y]
     simp only [madeCells];rw [Array.getElem?_map,Array.getElem?_range,ς L];simp only [ψl,Q,e2];rw [getElem!_pos t.cells j B]
    .cases a1 with | d h=>exact h)
  rwa [p] at this)
 exact ⟨_,J.put (IS hd) (.own QS (Γ _)),λf i h=>OF λb=>Sf h b.1⟩
end
variable {a:Nat ->Nat ->Value} {c:List (Nat×List AN)} {d:List (Nat×AV)} {e:Act} {w:World} {f:List (Nat×List AN)} {s:AS} {F:Fr}
theorem SR.adopt {P:Program} {F:Fr} {s:AS} {y:Nat ->Nat ->Value} {g:Act} {w:World} (h:SR F s y g w) (t f:Nat) {T E:TypeId} {p u:Nat} (X:SlTy P T E p u) {j:List (Nat×AV)} {l m:List (Nat×List AN)} (G:get s.env t=some (.d (.sl (some true) [])))
  (K:Ac f s.env=some j) (A:Aa f s.hp=some l) (I:Cj l f (.rowD E p [])=some m):SR F ⟨s.n,(t,.own f 0 0)::j,m⟩ (upd y f 0 (.slice none 0 0)) g w:=by
 have q:=h.env t _ G
 have D:g.tmps.getD t undef= .slice none 0 0:=by
  generalize g.tmps.getD t undef=v at q
  cases q with
  | d q=>
   cases q with
   | @sl _ _ a n N k R O H V S U r Q=>
    simp_all
 obtain ⟨M,L⟩:=Hk I;have c:=h.set f 0 (.rowD E p []) (.slice none 0 0) K A M (λt W e=>by obtain ⟨o,z,_⟩:=(BG A).2 _ _ _ e;rw [L] at z;cases z) (λb J=>nomatch J) Z Z Z (Γ _) (λ_ _ _=>rfl) (λ_=>⟨[],World.ownsRow_nil w 0 E p,⟨by simp,by simp,λi x C=>by simp at C⟩,by simp⟩);refine ⟨c.size,c.defs,λB a r=>?_,c.heap⟩;rcases Mp r with ⟨rfl,rfl⟩ | ⟨_,r⟩
 .rw [D];exact .own QS (Γ _)
 .exact c.env B a r
def C6 (f:Nat):List (Nat×List AN) ->Option (List (Nat×List AN))
 | []=>some []
 | (k,l)::r=>match C6 f r with
  | none=>none
  | some r'=>match Nat.beq k f with
   | true=>some r'
   | false=>some ((k,l)::r')
theorem Hl {f:Nat} {a:List (Nat×List AN)} (h:C6 f a=some c):∀g i,hget c g i=if g=f then none else hget a g i:=by
 induction a generalizing c with
 | nil=>simp only [C6,Option.some.injEq] at h;subst h;simp [hget,hfam]
 | cons p r b=>
  obtain ⟨k,l⟩:=p;simp only [C6] at h
  split at h
  .cases h
  .rename_i n d
   split at h
   .grind [hget,hfam,IP]
   .rename_i m
    have j:=ωx m;injection h with h;subst h
    intro g i
    by_cases e:k=g
    .grind [hget,hfam,ψw]
    .have:=b d g i
     grind [hget,hfam]
theorem SR.forget (h:SR F s a e w) (j:Nat) (N:Ac j s.env=some d) (M:Aa j s.hp=some f) (x:C6 j f=some c) (K:∀i t E,hget s.hp j i≠some (.blk t E)):
  SR F ⟨s.n,d,c⟩ a e w/\(∀b,F.O a c b ->F.O a s.hp b)/\∀i o b,hget s.hp j i=some o ->Bu (a j i)=some b ->¬F.O a c b:=by
 obtain ⟨S,H⟩:=BG M;have T:=Hl x
 have l:∀g i m,hget c g i=some m ->∃o,hget s.hp g i=some o/\o.Less (Bn j) m/\g≠j:=λg i m n=>by
  grind
 have y:∀b,F.O a c b ->F.O a s.hp b:=λb p=>p.imp id (BK.same λg i m n=>let ⟨o,k,_⟩:=l g i m n;⟨o,k⟩);have u:∀A v,A9 w (F.O a s.hp) a A v ->A9 w (F.O a c) a A v:=λA v I=>I.mono (Γ _) (λ_ _ _=>rfl) (λb _=>y b) λ_ _ _=>rfl;refine ⟨⟨h.size,h.defs.mono (Γ _) (λ_ _ _=>rfl) (λb _=>y b),λt k L=>?_,⟨λg i m n=>?_,λg i Q B o m b n C p D=>?_,λb p=>?_,h.heap.os,h.heap.tape,h.heap.output,h.heap.size0,h.heap.keep,λg i b J=>?_,h.heap.drawn⟩⟩,y,λi o b n p x=>?_⟩
 .rcases Bc N L with rfl | ⟨q,r⟩
  .exact .top
  .exact u _ _ (h.env t k q)
 .obtain ⟨o,q,r,_⟩:=l g i m n;exact (r.1 _ _ _ _ (h.heap.sim g i o q)).mono (Γ _) (λ_ _ _=>rfl) (λb _=>y b) (λ_ _=>rfl) λ_ _ _=>rfl
 .obtain ⟨G,q,_⟩:=l _ _ _ n;obtain ⟨z,r,_⟩:=l _ _ _ C;exact h.heap.inj g i Q B G z b q r p D
 .exact h.heap.mine b (BK.same (λg i m n=>let ⟨o,k,_⟩:=l g i m n;⟨o,k⟩) p)
 .obtain ⟨W,t,E,R⟩:=h.heap.pins g i b J;obtain ⟨m,V,_,_,U,_⟩:=H _ _ _ R
  grind
 .rcases x with x | ⟨g,B,m,q,r⟩
  .exact h.heap.notOf ⟨j,i,o,n,p⟩ x
  .obtain ⟨z,P,_,O⟩:=l _ _ _ q;exact O (h.heap.inj g B j i z o b P n r p).1
theorem SR.freeze (h:SR F s a e w) (t f:Nat) {j n kk:Nat} {E:TypeId} {xs ys:List D} {env':List (Nat×AV)} {hp1 hp':List (Nat×List AN)} (Q:get s.env t=some (.own f j n)) (K:hget s.hp f j=some (.rowD E kk xs))
  (hn:n<=xs.length) (p:xs.take n=ys) (X:Ac f s.env=some env') (W:Aa f s.hp=some hp1) (U:C6 f hp1=some hp') (r:hfam s.hp f=some [.rowD E kk xs]):SR F ⟨s.n,(t,.d (.sl none ys))::env',hp'⟩ a e w:=by
 obtain ⟨A,Z,Y⟩:=h.forget f X W U (λi t cs g=>by
  simp only [hget,r,χk,MZ (o:= .rowD E kk xs) rfl] at g
  cases i<;>simp at g)
 refine ⟨A.size,A.defs,λP k I=>?_,A.heap⟩;rcases Mp I with ⟨rfl,rfl⟩ | ⟨_,I⟩
 .have J:=h.env t _ Q
  generalize e.tmps.getD t undef=v at J
  obtain ⟨us,k,cap,N,g1,M,g3,L,g5⟩:=h.rowD K
  cases J with
  | own m S=>
   rw [N] at m;injection m with e2 e3 e4
   subst e2 e3 e4;refine .d (.sl kk (λ_ h=>nomatch h) L.2.2 (by rw [<-p,ϱ];omega) (by omega) L.2.1 (λy C=>M.2.1 y (by rw [<-p] at C;exact ωs C)) (λR=>?_) (λb o z i y C=>?_))
   .grind [Nat.eq_zero_or_pos]
   .have l:xs[i]? =some y:=by
     grind
    have T:i<xs.length:=(φ.1 l).1;obtain ⟨B,x,cur,O,c2,c3⟩:=g5 (by omega);rw [x] at z;injection z with z;injection z with hb1 hb2;subst hb1 hb2
    subst x;have G:B<w.heap.size:=(ωn.1 O).1
    have V:∀(q:Nat) c,y.cells[q]? =some c ->∃u,w.cell? ⟨B,0+i*kk+q,none⟩=some u/\A1 w (F.O a hp') c u:=λq c H=>by
     obtain ⟨u,d1,d2,d3⟩:=M.2.2 i y l q c H;exact ⟨u,by rw [ψu];exact Do O c3 d1,d3.mono (Γ _) (λ_ _ _=>rfl) λb _=>Z b⟩
    refine .ptr (λq=>(w.cell? ⟨B,0+i*kk+q,none⟩).getD undef) G (Y j _ B K (by rw [N];rfl)) (g3 y (ξ l)) (λq c H=>?_) (λq c H=>?_)
    .grind
    grind
 .exact A.env P k I
section
variable {P:Program} {F:Fr} {Q:Exit ->AS ->Prop} {s:AS} {c:Code} {ops:Array Oper} {l:List Oper}
variable {a:List (Nat×List AN)} {d e:List (Nat×AV)} {f g:List (Nat×List AN)} {h:Nat} {E:TypeId} {i:Nat} {j k:List D} {m:Nat}
theorem NR (t j:Nat) {T:TypeId} (S:SlTy P T E i m) (k:get e t=some (.d (.sl (some true) []))) (q:Ac j e=some d) (p:Aa j a=some f) (o:Cj f j (.rowD E i [])=some g)
  (b:CG P F c Q ⟨h,(t,.own j 0 0)::d,g⟩):CG P F c Q ⟨h,e,a⟩:=λ_ _ _ n=>b _ _ _ (n.adopt t j S k q p o)
theorem Xn (t j:Nat) {T:TypeId} (S:SlTy P T E i m) (k:get e t=some (.d (.sl (some true) []))) (q:Ac j e=some d) (p:Aa j a=some f) (o:Cj f j (.rowD E i [])=some g)
  (b:Ao P F ops l Q ⟨h,(t,.own j 0 0)::d,g⟩):Ao P F ops l Q ⟨h,e,a⟩:=λ_ _ _ n=>b _ _ _ (n.adopt t j S k q p o)
theorem fy (t o:Nat) {b n:Nat} (r:get e t=some (.own o b n)) (v:hget a o b=some (.rowD E i j)) (w:n<=j.length) (q:j.take n=k) (z:Ac o e=some d) (y:Aa o a=some f) (x:C6 o f=some g) (p:hfam a o=some [.rowD E i j])
  (m:CG P F c Q ⟨h,(t,.d (.sl none k))::d,g⟩):CG P F c Q ⟨h,e,a⟩:=λ_ _ _ u=>m _ _ _ (u.freeze t o r v w q z y x p)
theorem dF (t o:Nat) {b n:Nat} (r:get e t=some (.own o b n)) (v:hget a o b=some (.rowD E i j)) (w:n<=j.length) (q:j.take n=k) (z:Ac o e=some d) (y:Aa o a=some f) (x:C6 o f=some g) (p:hfam a o=some [.rowD E i j])
  (m:Ao P F ops l Q ⟨h,(t,.d (.sl none k))::d,g⟩):Ao P F ops l Q ⟨h,e,a⟩:=λ_ _ _ u=>m _ _ _ (u.freeze t o r v w q z y x p)
end
variable {a:Nat ->Nat ->Value} {c:List Nat} {P:Program} {d:List ResultVar} {w:World} {e:List (Nat×AV)} {f:Nat ->Prop} {s:AS} {g:Act} {h:Value} {i:List AV} {j:AV} {k:Nat} {m:FuncId} {n:List Nat} {o:Nat} {p:Func} {q:Nat} {t:AN} {u:World} {x:ResultVar} {y:Nat} {z:List AN} {B:Code}
abbrev Hp:=List (Nat×List AN)
def Cp (ρ:Nat ->Nat ->Value) (H:Hp) (f i:Nat):Option Nat:=match hget H f i,ρ f i with
 | some (.blk _ _),.pointer (some ⟨b,0,none⟩)=>some b
 | _,_=>none
variable {H:Hp}
theorem ZcC {b:Nat} (h:Cp a H y o=some b):a y o= .pointer (some ⟨b,0,none⟩)/\∃t c,hget H y o=some (.blk t c):=by grind [Cp]
def Fr.top (F:Fr) (H:Hp):Prop:=F.pn=hpN H/\F.rnd=none/\F.lo= .marks F.w0.heap.size
def Fr.flat (F:Fr):Prop:=F.rnd=none/\F.lo.le F.w0.heap.size
def AT (P:Program) (f:FuncId) (args:List AV) (H:Hp) (R:AV ->Hp ->Prop):Prop:=
 (∃fn,P.funcs[f]? =some fn/\(fn.name== "runtime.NumGoroutine")=false/\fn.body.isSome=true)/\
 ∀(F:Fr) (ρ:Nat ->Nat ->Value) (vs:List Value),F.own0=BK ρ H ->F.pin=Cp ρ H ->F.top H ->Ba F H ρ F.w0 ->vs.length=args.length ->(∀(i:Nat) a v,args[i]? =some a ->vs[i]? =some v ->A9 F.w0 (F.O ρ H) ρ a v)→
  Calls P f vs.toArray F.w0 λe w'=>∃v r H' ρ',e= .returned v/\R r H'/\A9 w' (F.O ρ' H') ρ' r v/\Ba F H' ρ' w'
def AM (P:Program) (f:FuncId) (args:List AV) (x:D):Prop:=AT P f args [] λr H'=>r= .d x/\H'=[]
theorem D9 {b:Nat} (h:Cp a H y o=some b):y∈hpN H:=by
 obtain ⟨_,t,d,c⟩:=ZcC h;simp only [hget] at c
 cases hf:hfam H y with
 | none=>rw [hf] at c;cases c
 | some l=>exact hpN_mem hf
variable {R:AV ->Hp ->Prop}
theorem AT.mono {j:AV ->Hp ->Prop} (h:AT P m i H R) (n:∀r d,R r d ->j r d):AT P m i H j:=
 ⟨h.1,λF k l t s g q p o=>(h.2 F k l t s g q p o).mono λ_ _ ⟨v,r,d,e,a,b,c⟩=>⟨v,r,d,e,a,n _ _ b,c⟩⟩
def Mb:Nat ->List AV ->Option (List (Nat×AV))
 | _,[]=>some []
 | i,a::r=>match Mb (i+1) r with
  | none=>none
  | some l=>some ((i,a)::l)
theorem Ui {d:List AV} (h:Mb o d=some e) {t:Nat} (c:get e t=some j):∃b:Nat,t=o+b/\d[b]? =some j:=by
 induction d generalizing o e with
 | nil=>simp only [Mb,Option.some.injEq] at h;subst h;simp [get] at c
 | cons x r f=>
  simp only [Mb] at h
  split at h
  .cases h
  .rename_i l g
   injection h with h;subst h
   rcases Mp c with ⟨rfl,rfl⟩ | ⟨_,c⟩
   .simp
   .obtain ⟨b,m,k⟩:=f g c;exact ⟨b+1,by omega,by simpa using k⟩
def cQ (P:Program) (s:AS):ResultVar ->Option AV
 | .tmp t=>get s.env t
 | .cell a T=>match get s.env a with
  | some (.ptr f i off)=>match hget s.hp f i with
   | some (.blk _ cs)=>match BW P T with
    | true=>cs[off]?
    | false=>match P.info? T with
     | none=>none
     | some inf=>match CB P T inf.size with
      | false=>none
      | true=>match F9 cs off inf.size with
       | none=>none
       | some l=>Jw l
   | _=>none
  | _=>none
def Qc (P:Program) (s:AS):List ResultVar ->Option (List AV)
 | []=>some []
 | r::rs=>match Qc P s rs with
  | none=>none
  | some l=>match cQ P s r with
   | none=>none
   | some a=>some (a::l)
def cR (P:Program) (s:AS) (rs:List ResultVar):Option AV:=match Qc P s rs with
 | none=>none
 | some [a]=>some a
 | some [.d x,.d y]=>some (.d (.tup [x,y]))
 | some [.d x,.d y,.d z]=>some (.d (.tup [x,y,z]))
 | some l=>some (.tup l)
inductive RV (P:Program) (s:AS):ResultVar ->AV ->Prop
 | tmp {t:Nat} {a:AV} (h:get s.env t=some a):RV P s (.tmp t) a
 | cell1 {c f i off:Nat} {T t:TypeId} {cs:List AV} {a:AV} (hg:get s.env c=some (.ptr f i off)) (ho:hget s.hp f i=some (.blk t cs)) (hT:BW P T=true) (ha:cs[off]? =some a):RV P s (.cell c T) a
 | cellS {c f i off n:Nat} {T t:TypeId} {cs l:List AV} {a:AV} (hg:get s.env c=some (.ptr f i off)) (ho:hget s.hp f i=some (.blk t cs)) (hT:CB P T n=true) (hl:F9 cs off n=some l) (ha:Jw l=some a):RV P s (.cell c T) a
inductive RVs (P:Program) (s:AS):List ResultVar ->List AV ->Prop
 | nil:RVs P s [] []
 | cons {r:ResultVar} {rs:List ResultVar} {a:AV} {l:List AV} (h:RV P s r a) (hs:RVs P s rs l):RVs P s (r::rs) (a::l)
def bK:List AV ->AV
 | [a]=>a
 | [.d x,.d y]=> .d (.tup [x,y])
 | [.d x,.d y,.d z]=> .d (.tup [x,y,z])
 | l=> .tup l
def Res (P:Program) (s:AS) (rs:List ResultVar) (r:AV):Prop:=∃l,RVs P s rs l/\bK l=r
theorem cP (h:cQ P s x=some j):RV P s x j:=by
 cases x with
 | tmp t=>exact .tmp h
 | cell c T=>
  simp only [cQ] at h
  split at h
  .rename_i f i k g
   split at h
   .rename_i t o d
    split at h
    .rename_i b;exact .cell1 g d b h
    .split at h
     .cases h
     .rename_i m e
      split at h
      .cases h
      .rename_i b
       split at h
       .cases h
       .rename_i l n;exact .cellS g d b n h
   .cases h
  .cases h
theorem Qb {P:Program} {s:AS}:∀{b:List ResultVar} {l:List AV},Qc P s b=some l ->RVs P s b l
 | [],l,h=>by simp only [Qc,Option.some.injEq] at h;subst h;exact .nil
 | r::b,l,h=>by
  simp only [Qc] at h
  split at h
  .cases h
  .rename_i e d
   split at h
   .cases h
   .rename_i a c
    injection h with h;subst h
    exact .cons (cP c) (Qb d)
theorem AY {r:AV} (h:cR P s d=some r):Res P s d r:=by
 unfold cR at h
 cases hl:Qc P s d with
 | none=>rw [hl] at h;cases h
 | some l=>
  rw [hl] at h;refine ⟨l,Qb hl,?_⟩
  grind [bK]
def Bb (hp:Hp):List Nat ->Option Hp
 | []=>some []
 | g::r=>match Bb hp r with
  | none=>none
  | some l=>match hfam hp g with
   | none=>some l
   | some x=>some ((g,x)::l)
def memB (g:Nat):List Nat ->Bool
 | []=>false
 | a::r=>Nat.beq a g || memB g r
theorem G4:memB k c=true↔k∈c:=by
 induction c with
 | nil=>simp [memB]
 | cons a r b=>
  grind [memB,ωb,ψw]
def A6 (nm:List Nat):Hp ->Bool
 | []=>true
 | (g,_)::r=>memB g nm && A6 nm r
theorem GY (h:A6 c H=true) (b:hfam H k=some z):k∈c:=by
 induction H with
 | nil=>simp [hfam] at b
 | cons p r f=>
  obtain ⟨a,d⟩:=p;simp only [A6,ωd] at h
  by_cases e:a=k
  .subst e;exact G4.1 h.1
  grind [hfam,IP]
theorem ER {i:Hp}:∀{f:List Nat} {c:Hp},Bb i f=some c ->(∀g x,hfam c g=some x ->g∈f/\hfam i g=some x)/\∀g,g∈f ->hfam c g=hfam i g
 | [],c,h=>by
  simp only [Bb,Option.some.injEq] at h;subst h;exact ⟨(λg x h=>nomatch h),(λg h=>nomatch h)⟩
 | a::r,c,h=>by
  simp only [Bb] at h
  split at h
  .cases h
  .rename_i l n
   obtain ⟨e,m⟩:=ER n
   split at h
   .rename_i j
    injection h with h;subst h
    refine ⟨λg x b=>⟨ωw _ (e g x b).1,(e g x b).2⟩,λg b=>?_⟩;rcases Υ.1 b with rfl | b
    .rw [j]
     cases hh:hfam l g with
     | none=>rfl
     | some x=>rw [(e g x hh).2] at j;cases j
    .exact m g b
   .rename_i x k
    injection h with h;subst h
    refine ⟨λg y b=>?_,λg b=>?_⟩
    .simp only [hfam] at b
     split at b
     .rename_i d
      rw [<-ωb d];injection b with b;subst b
      exact ⟨ωu,k⟩
     .exact ⟨ωw _ (e g y b).1,(e g y b).2⟩
    .simp only [hfam]
     split
     .rename_i d;rw [<-ωb d];exact k.symm
     .rename_i d
      rcases Υ.1 b with rfl | b
      .exact absurd Z (ωx d)
      .exact m g b
def K5:List Nat ->List Nat ->Bool
 | [],_=>true
 | a::r,nm=>memB a nm && K5 r nm
theorem ZA (h:K5 n c=true) (b:y∈n):y∈c:=by
 induction n with
 | nil=>cases b
 | cons a r d=>
  simp only [K5,ωd] at h;rcases Υ.1 b with rfl | b
  .exact G4.1 h.1
  grind
variable {F:Fr} {A:Hp}
theorem SR.only (e:SR F s a g w) (p:List Nat) (H:F.pn=n) (m:K5 n p=true) (D:Bb s.hp p=some A):SR F ⟨s.n,s.env,A⟩ a g w:=by
 obtain ⟨C,J⟩:=ER D
 have d:∀f i o,hget A f i=some o ->hget s.hp f i=some o:=λf i o h=>by
  simp only [hget] at h⊢
  cases hf:hfam A f with
  | none=>rw [hf] at h;cases h
  | some x=>rw [(C f x hf).2];rw [hf] at h;exact h
 have j:∀b,BK a A b ->BK a s.hp b:=λb ⟨f,i,o,u,B⟩=>⟨f,i,o,d f i o u,B⟩
 have r:∀b,b<w.heap.size ->F.O a A b ->F.O a s.hp b:=λb _ k=>k.imp id (j b);refine ⟨e.size,e.defs.mono (Γ _) (λ_ _ _=>rfl) r,λt c G=>(e.env t c G).mono (Γ _) (λ_ _ _=>rfl) r (λ_ _ _=>rfl),?_⟩;refine ⟨λf i o h=>(e.heap.sim f i o (d f i o h)).mono (Γ _) (λ_ _ _=>rfl) r (λ_ _=>rfl) (λ_ _ _=>rfl),λf i z y o v b h q=>e.heap.inj f i z y o v b (d f i o h) (d z y v q),λb k=>e.heap.mine b (j b k),e.heap.os,e.heap.tape,e.heap.output,e.heap.size0,e.heap.keep,λf i b k=>?_,e.heap.drawn⟩;obtain ⟨u,t,I,B⟩:=e.heap.pins f i b k;refine ⟨u,t,I,?_⟩;have E:f∈p:=ZA m (by rw [<-H];exact F.hpn f i b k)
 grind [hget]
variable {C:Hp}
theorem o_only {Q:Exit ->AS ->Prop} {a:Array Oper} {c:List Oper} (d:List Nat) (k:F.pn=n) (b:K5 n d=true) (f:Bb C d=some A) (h:Ao P F a c Q ⟨q,e,A⟩):Ao P F a c Q ⟨q,e,C⟩:=λi g w j=>h i g w (j.only d k b f)
def Ret (P:Program) (rs:List ResultVar) (H:Hp) (R:AV ->Hp ->Prop):Exit ->AS ->Prop
 | .normal,s=>∃r nm H',Res P s rs r/\Bb s.hp nm=some H'/\A6 nm H=true/\R r H'
 | .ret,s=>∃r nm H',Res P s rs r/\Bb s.hp nm=some H'/\A6 nm H=true/\R r H'
 | _,_=>False
def resRun (tmps:Array Value):ResultVar ->Sem Value
 | .tmp t=>pure (tmps.getD t undef)
 | .cell a t=>do loadVar t (<-asAddr (tmps.getD a undef))
theorem WG (c:Func) (a:Array Value):results c a=(do
  let b <-c.results.mapM (resRun a)
  pure (if h:b.size=1 then b[0] else .tuple b)):=rfl
theorem tupD {w:World} {O:Nat ->Prop} {e:Nat ->Nat ->Value} {l:List D} {b:List Value} (g:b.length=l.length) (h:∀(i:Nat) a v,(l.map AV.d)[i]? =some a ->b[i]? =some v ->A9 w O e a v):A9 w O e (.d (.tup l)) (.tuple b.toArray):=
 .d (.tup g λi c v j f=>by
  have:=h i (.d c) v (by rw [ν,j];rfl) f
  cases this with | d h=>exact h)
theorem RV.spec {P:Program} {F:Fr} {s:AS} {z:Nat ->Nat ->Value} {g:Act} {w:World} (u:SR F s z g w) {r:ResultVar} {a:AV} (h:RV P s r a):
  ∃v,(resRun g.tmps r).run P w= .ok v w/\A9 w (F.O z s.hp) z a v:=by
 cases h with
 | @tmp t _ h=>exact ⟨_,Z,u.env t _ h⟩
 | @cell1 c f i d T t S a B A E D=>
  have o:=u.env c _ B
  generalize p:g.tmps.getD c undef=J at o
  cases o with
  | @ptr _ _ _ b C=>
   obtain ⟨U,k,e,G,I,H,O⟩:=u.heap.sim f i _ A;rw [C] at e;injection e with e;injection e with e;injection e with e;subst e
   have x:d<k.length:=by rw [I];exact (φ.1 D).1
   have m:w.cell? ⟨b,d,none⟩=some k[d]:=by
    rw [cell_of_row w b d k.toArray t (0,0) G];simp [x]
   exact ⟨k[d],by simp only [resRun,p,asAddr,loadVar,Sem.run_bind,Sem.run_pure,Result.andThen_ok,ET E];simp [m],H d a _ D (ω x)⟩
 | @cellS c f i d n T t S l a B A E K D=>
  have o:=u.env c _ B
  generalize p:g.tmps.getD c undef=J at o
  cases o with
  | @ptr _ _ _ b C=>
   obtain ⟨U,k,e,G,I,H,O⟩:=u.heap.sim f i _ A;rw [C] at e;injection e with e;injection e with e;injection e with e;subst e
   obtain ⟨⟨R,N,M⟩,L⟩:=Fh E;obtain ⟨W,V,Q⟩:=GS _ _ _ _ K;have y:((k.drop d).take n).length=n:=by rw [ϱ,χd];omega
   have o:=run_loadVar_mid (P:=P) w b d T ((k.drop d).take n) R (λj v q=>by
    rw [cell_of_row w b (d+j) k.toArray t (0,0) G];rw [χg] at q
    split at q
    .rw [χh] at q;simpa using q
    .cases q) N M (by rw [y];exact L)
   grind [resRun,asAddr,GZ]
theorem RVs.spec {P:Program} {F:Fr} {s:AS} {d:Nat ->Nat ->Value} {c:Act} {w:World} (g:SR F s d c w) {e:List ResultVar} {l:List AV} (h:RVs P s e l):
  ∃b:List Value,(e.mapM (resRun c.tmps)).run P w= .ok b w/\b.length=l.length/\∀(i:Nat) a v,l[i]? =some a ->b[i]? =some v ->A9 w (F.O d s.hp) d a v:=by
 induction h with
 | nil=>exact ⟨[],Z,Z,by simp⟩
 | cons h _ f=>
  obtain ⟨b,p,j,o⟩:=f;obtain ⟨v,f1,f2⟩:=h.spec g;refine ⟨v::b,?_,by simp [j],λi q k n m=>?_⟩
  .simp_all
  grind
theorem Res.spec (n:SR F s a g w) (i:p.results=d.toArray) (h:Res P s d j):
  ∃v,(results p g.tmps).run P w= .ok v w/\A9 w (F.O a s.hp) a j v:=by
 obtain ⟨l,q,c⟩:=h;obtain ⟨f,u,k,m⟩:=q.spec n
 have b:(results p g.tmps).run P w= .ok (if t:f.toArray.size=1 then f.toArray[0] else .tuple f.toArray) w:=by
  rw [WG,i,List.mapM_toArray]
  simp_all
 refine ⟨_,b,?_⟩;unfold bK at c
 split at c
 .subst c;obtain ⟨v,rfl⟩:=List.length_eq_one_iff.1 k;exact m 0 _ v Z Z
 .grind [tupD]
 .grind [tupD]
 .rename_i o _ _
  subst c;rw [dif_neg]
  .exact .tup k m
  .intro r;have:l.length=1:=by rw [<-k];simpa using r
   obtain ⟨x,e⟩:=List.length_eq_one_iff.1 this
   grind
theorem QM {a:Addr} (b:w.cell? a=some h):∃c t x,w.heap[a.block]? =some (Obj.cells c t x):=by grind [World.cell?]
theorem A1.other (A:u.heap.size=w.heap.size) (C:∀(b:Nat) c t x,w.heap[b]? =some (Obj.cells c t x) ->u.heap[b]? =w.heap[b]?) {x:D} (a:A1 w f x h):A1 u f x h:=by
 induction a with
 | raw a=>exact .raw a
 | agg e l _ d=>exact .agg e l d
 | tup e _ d=>exact .tup e d
 | ptr m F l z E _ d=>
  refine .ptr m (by omega) l z (λj c B=>?_) d
  grind [QM,World.cell?_of_block]
 | sl k o n i s p q y _ d=>exact .sl k o n i s p q y d
 | fn r e _ _ g d=>exact .fn r e g d
theorem A9.other (k:u.heap.size=w.heap.size) (m:∀(b:Nat) c t x,w.heap[b]? =some (Obj.cells c t x) ->u.heap[b]? =w.heap[b]?) (e:A9 w f a j h):A9 u f a j h:=by
 induction e with
 | d e=>exact .d (e.other k m)
 | top=>exact .top
 | tup i _ g=>exact .tup i g
 | agg i n _ g=>exact .agg i n g
 | ptr e=>exact .ptr e
 | own e l=>exact .own e l
 | rptr e=>exact .rptr e
 | map e=>exact .map e
 | ifc e=>exact .ifc e
 | fn i _ g=>exact .fn i g
theorem Ga (m:∀(b:Nat) c t x,w.heap[b]? =some (Obj.cells c t x) ->u.heap[b]? =w.heap[b]?) {f:Nat} {e:TypeId} {d:Nat} {k:List Value} (a:w.ownsRow f e d h q k):u.ownsRow f e d h q k:=by
 refine ⟨a.1,?_⟩;rcases a.2 with s | ⟨g,j,i,r,p,l,o⟩
 .exact .inl s
 .exact .inr ⟨g,j,i,r,p,by rw [m g _ _ _ l];exact l,o⟩
theorem Av.other (A:u.heap.size=w.heap.size) (z:∀(b:Nat) c g x,w.heap[b]? =some (Obj.cells c g x) ->u.heap[b]? =w.heap[b]?) (l:Av w f a t h) (H:∀b,Bu h=some b ->u.heap[b]? =w.heap[b]?):Av u f a t h:=by
 cases t with
 | blk g S=>
  obtain ⟨b,B,rfl,q,y,s,D⟩:=l;exact ⟨b,B,Z,by rw [z _ _ _ _ q];exact q,y,λj c d G C=>(s j c d G C).other A z,D⟩
 | row g k N=>
  obtain ⟨B,q,y⟩:=l;exact ⟨B,Ga z q,y.mono λx E c G d C=>C.other A z⟩
 | rowD g k N=>
  obtain ⟨B,q,y,s⟩:=l;exact ⟨B,Ga z q,y.mono λx E c G d C=>C.other A z,s⟩
 | loop L=>
  obtain ⟨r,q,y,s,D,J⟩:=l;exact ⟨r,q,by rw [H L.id (by rw [q];rfl)];exact y,s,D,λg p Q=>(J g p Q).other A z⟩
 | map U R=>
  obtain ⟨m,F,c,rfl,q,y,s,D,J,K⟩:=l;exact ⟨m,F,c,Z,by rw [H _ rfl];exact q,y,λi e x I E=>⟨(s i e x I E).1.other A z,(s i e x I E).2.other A z⟩,D,J,K⟩
 | iter n i c seen=>
  obtain ⟨r,m,P,rfl,q,y,s⟩:=l;exact ⟨r,m,P,Z,q,by rw [H _ rfl];exact y,s⟩
 | addr n i d=>exact l
 | any=>trivial
 | nb b g S=>
  obtain ⟨rfl,B,q,y,s,D⟩:=l;exact ⟨Z,B,by rw [z _ _ _ _ q];exact q,y,λj c d G C=>(s j c d G C).other A z,D⟩
 | nr b g k T N=>
  obtain ⟨rfl,B,q,y,s⟩:=l;exact ⟨Z,B,Ga z q,y.mono λx E c G d C=>C.other A z,s⟩
 | nm b U R=>
  obtain ⟨rfl,F,c,q,y,s,D,J,K⟩:=l;exact ⟨Z,F,c,by rw [H _ rfl];exact q,y,λi e x I E=>⟨(s i e x I E).1.other A z,(s i e x I E).2.other A z⟩,D,J,K⟩
 | itz=>obtain ⟨r,rfl,q⟩:=l;exact ⟨r,Z,by rw [H _ rfl];exact q⟩
 | multi M=>trivial
theorem SR.putObj (j:SR F s a g w) {b:Nat} {o o':Obj} {ds:List Deferred} (v:F.w0.heap.size<=b) (p:w.heap[b]? =some o) (B:∀c t x,o≠Obj.cells c t x) (z:¬F.O a s.hp b) (q:IC F.lo (w.putObj b o') (F.O a s.hp) ds):SR F s a {g with defers:=ds} (w.putObj b o'):=by
 have k:(w.putObj b o').heap.size=w.heap.size:=World.putObj_size
 have n:∀(l:Nat) c t x,w.heap[l]? =some (Obj.cells c t x) ->(w.putObj b o').heap[l]? =w.heap[l]?:=λl c t x h=>World.putObj_heap_other λe=>by
  grind
 exact ⟨j.size,q,λt d y=>(j.env t d y).other k n,⟨λf i o p=>(j.heap.sim f i o p).other k n λl r=>World.putObj_heap_other λA=>z (.inr ⟨f,i,_,p,by rw [<-A];exact r⟩),j.heap.inj,λb n=>by rw [k];exact j.heap.mine b n,j.heap.os,j.heap.tape,j.heap.output,by rw [k];exact j.heap.size0,λl m u=>by
  rw [World.putObj_heap_other (by omega)];exact j.heap.keep l m u,j.heap.pins,j.heap.drawn⟩⟩
theorem Ph (G:P.funcs[m]? =some p) (M:(p.name== "runtime.NumGoroutine")=false) (C:p.body=some B) (hn:p.ntmps=q)
  (hrs:p.results=d.toArray) (U:Mb 0 i=some e) (S:Nat.ble i.length q=true) (h:∀F:Fr,F.pn=hpN H ->F.flat ->CG P F B (Ret P d H R) ⟨q,e,H⟩):AT P m i H R:=by
 refine ⟨⟨p,G,M,by rw [C];rfl⟩,λF ρ I h1 h2 z h3 h4 h5=>callsIn_wide.1 (callsIn_of_wp_marks (n:=0) G C trivial ?_)⟩;have T:RJ F.rnd=Fence.wide:=by rw [z.2.1];rfl
 have hle:=Nat.le_of_ble_eq_true S
 have Y:SR F ⟨q,e,H⟩ ρ {tmps:=I.toArray++Array.replicate (p.ntmps - I.toArray.size) undef,defers:=[]} F.w0:=by
  refine ⟨?_,by rw [z.2.2];exact .nil,λt a ha=>?_,h3⟩
  .grind
  .obtain ⟨j,hj,X⟩:=Ui U ha;rw [ψu] at hj;subst hj;have N:t<I.length:=by rw [h4];exact (φ.1 X).1
   have:(I.toArray++Array.replicate (p.ntmps - I.toArray.size) undef).getD t undef=I[t]:=by
    rw [ψh,Array.getElem?_append_left (by simpa using N)];simp [N]
   show A9 _ _ _ _ ((I.toArray++Array.replicate (p.ntmps - I.toArray.size) undef).getD t undef);rw [this];exact h5 t a _ X (ω N)
 refine Go.wpIn_mono (T▸h F z.1 ⟨z.2.1,by rw [z.2.2];exact Γ _⟩ ρ _ _ Y) λk act w ⟨s,l,J,y⟩=>?_
 have fin:∀{act:Act} {w:World},SR F s l act w ->(∃r L u,Res P s d r/\Bb s.hp L=some u/\A6 L H=true/\R r u) ->∃v,(results p act.tmps).run P w= .ok v w/\(∃v' r u l,Ending.returned v= .returned v'/\R r u/\A9 w (F.O l u) l r v'/\Ba F u l w):=λ{act w} y ⟨r,L,u,hr,hpt,hnm,hR⟩=>by
  obtain ⟨v,h6,h7⟩:=hr.spec y hrs;obtain ⟨p1,p2⟩:=ER hpt
  have A:∀m g o,hget u m g=some o ->hget s.hp m g=some o:=λm g o E=>by
   simp only [hget] at E⊢
   cases G:hfam u m with
   | none=>rw [G] at E;cases E
   | some x=>rw [(p1 m x G).2];rw [G] at E;exact E
  have K:∀b,BK l u b ->BK l s.hp b:=λb ⟨m,g,o,a1,a2⟩=>⟨m,g,o,A m g o a1,a2⟩
  have hO:∀b,b<w.heap.size ->F.O l u b ->F.O l s.hp b:=λb _ C=>C.imp id (K b);refine ⟨v,h6,v,r,u,l,Z,hR,h7.mono (Γ _) (λ_ _ _=>rfl) hO (λ_ _ _=>rfl),?_⟩;refine ⟨λm g o E=>(y.heap.sim m g o (A m g o E)).mono (Γ _) (λ_ _ _=>rfl) hO (λ_ _=>rfl) (λ_ _ _=>rfl),λm g f' i' o o' b E ho'=>y.heap.inj m g f' i' o o' b (A m g o E) (A f' i' o' ho'),λb C=>y.heap.mine b (K b C),y.heap.os,y.heap.tape,y.heap.output,y.heap.size0,y.heap.keep,λm g b C=>?_,y.heap.drawn⟩;obtain ⟨a1,t,cs,a2⟩:=y.heap.pins m g b C;refine ⟨a1,t,cs,?_⟩;rw [h2] at C;obtain ⟨_,t',cs',a3⟩:=ZcC C
  have hfn:m∈L:=by
   simp only [hget] at a3
   cases G:hfam H m with
   | none=>rw [G] at a3;cases a3
   | some x=>exact GY hnm G
  grind [hget]
 have D:∀{act:Act} {w:World},SR F s l act w ->(∃r L u,Res P s d r/\Bb s.hp L=some u/\A6 L H=true/\R r u) ->LeavesInM Fence.wide 0 P p act.tmps (λk w'=>∃v r u l,k= .returned v/\R r u/\A9 w' (F.O l u) l r v/\Ba F u l w') act.defers .returning w:=λ{act w} y J=>by
  have V:=y.defs;rw [z.2.2] at V;obtain ⟨Q,hd,hnd,C⟩:=V;rw [hd]
  clear hd
  induction Q generalizing act w with
  | nil=>exact fin y J
  | cons b Q ih=>
   obtain ⟨d1,d2,d3,d4⟩:=C b ωu;obtain ⟨n1,n2⟩:=φh.1 hnd
   have W:∀O∈Q,F.w0.heap.size<=O/\O<(w.putObj b (.deferred none)).heap.size/\¬F.O l s.hp O/\(w.putObj b (.deferred none)).heap[O]? =some (.deferred (some [])):=λO hm=>by
    obtain ⟨e1,e2,e3,e4⟩:=C O (ωw _ hm)
    exact ⟨e1,by rw [World.putObj_size];exact e2,e3,by
     have hne:O≠b:=λk=>by subst k;exact n1 hm
     rw [World.putObj_heap_other hne];exact e4⟩
   have hs':=y.putObj (o':= .deferred none) (ds:=Q.map Jy) d1 d4 (λB t x k=>by cases k) d3 (by rw [z.2.2];exact ⟨Q,Z,n2,W⟩);exact ⟨by simp,.inl ⟨b,_,Z,run_takeDeferred d4,ih (act:={act with defers:=Q.map Jy}) hs' n2 W⟩⟩
 cases k with
 | normal=>exact D y J
 | ret=>exact D y J
 | exit _=>exact J.elim
 | goto _=>exact J.elim
 | panic _=>exact J.elim
 | outgrown=>exact J.elim
theorem Ax (l:P.funcs[m]? =some p) (a:(p.name== "runtime.NumGoroutine")=false) (o:p.body=some B) (k:p.ntmps=q)
  (j:p.results=d.toArray) (g:Mb 0 i=some e) (b:Nat.ble i.length q=true) (h:∀F:Fr,F.pn=hpN H ->CG P F B (Ret P d H R) ⟨q,e,H⟩):AT P m i H R:=
 Ph l a o k j g b λF r _=>h F r
def LZ (s:AS):List Operand ->Option (List AV)
 | []=>some []
 | x::r=>match LZ s r with
  | none=>none
  | some l=>match s.ev x with
   | none=>none
   | some a=>some (a::l)
theorem Cb {F:Fr} {s:AS} {d:Nat ->Nat ->Value} {b:Act} {w:World} (j:SR F s d b w):∀{e:List Operand} {c:List AV},LZ s e=some c ->(e.map b.eval).length=c.length/\∀(i:Nat) a v,c[i]? =some a ->(e.map b.eval)[i]? =some v ->A9 w (F.O d s.hp) d a v
 | [],c,h=>by simp only [LZ,Option.some.injEq] at h;subst h;simp
 | x::r,c,h=>by
  simp only [LZ] at h
  split at h
  .cases h
  .rename_i l k
   split at h
   .cases h
   .rename_i a m
    injection h with h;subst h
    obtain ⟨o,n⟩:=Cb j k;refine ⟨by simpa using o,λi p v g f=>?_⟩
    cases i with
    | zero=>simp at g f;subst g f;exact j.ev m
    | succ i=>exact n i p v (by simpa using g) (by simpa using f)
def CP (hp CH:Hp):List Nat ->Prop
 | []=>True
 | g::r=>hfam hp g=hfam CH g/\CP hp CH r
theorem CP.hget {d:Hp} (h:CP C d c) (b:k∈c) (i:Nat):hget C k i=hget d k i:=by
 induction c with
 | nil=>cases b
 | cons a r e=>
  rcases Υ.1 b with rfl | b
  .simp only [Go.Proofs.YteifpcnphnhaoaaGreat.hget,h.1]
  .exact e h.2 b
theorem Kt (h:A6 c H=true) (b:hget H k o=some t):k∈c:=by
 induction H with
 | nil=>simp [hget,hfam] at b
 | cons p r d=>
  obtain ⟨a,l⟩:=p;simp only [A6,ωd] at h
  by_cases e:a=k
  .subst e;exact G4.1 h.1
  grind [hget,hfam,IP]
def isBlk:Option AN ->Bool
 | some (.blk _ _)=>true
 | _=>false
def By (CH:Hp) (nm:List Nat) (f i:Nat):Bool:=!(memB f nm) || isBlk (hget CH f i)
def C9 (nm:List Nat):Hp ->Option Hp
 | []=>some []
 | (g,l)::r=>match C9 nm r with
  | none=>none
  | some r'=>match memB g nm with
   | true=>some r'
   | false=>some ((g,l)::r')
theorem WI (h:C9 c C=some A):∀g i,hget A g i=if g∈c then none else hget C g i:=by
 induction C generalizing A with
 | nil=>simp only [C9,Option.some.injEq] at h;subst h;simp [hget,hfam]
 | cons p r b=>
  obtain ⟨k,l⟩:=p;simp only [C9] at h
  split at h
  .cases h
  .rename_i j d
   split at h
   .rename_i a
    injection h with h;subst h
    intro g i;rw [b d g i]
    by_cases e:k=g
    .subst e;rw [ς (G4.1 a),ς (G4.1 a)]
    .simp only [hget,hfam,IP e]
   .rename_i a
    injection h with h;subst h
    intro g i
    by_cases e:k=g
    .subst e;rw [η (λf=>by rw [G4.2 f] at a;cases a)];simp only [hget,hfam,ψw]
    .have:=b d g i
     grind [hget,hfam,IP]
theorem eJ {rest:Hp} (f:A6 c H=true) (d:∀g i,g∈c ->hget rest g i=none) (g i:Nat):hget (H++rest) g i=if g∈c then hget H g i else hget rest g i:=by
 have b:∀H:Hp,hfam (H++rest) g=match hfam H g with | some l=>some l | none=>hfam rest g:=by
  intro H
  induction H with
  | nil=>rfl
  | cons p r e=>
   grind [hfam]
 by_cases a:g∈c
 .rw [ς a];have h:=d g i a
  grind [hget]
 grind [hget,GY]
def Jc (nm:List Nat) (f _i:Nat):Bool:=memB f nm
def CJ (nm:List Nat):List AN ->Bool
 | []=>true
 | .blk _ cs::r=>okC (Jc nm) cs && CJ nm r
 | .row _ _ xs::r=>xs.all (λx=>Zb (Jc nm) x.cells) && CJ nm r
 | .rowD _ _ _::r=>CJ nm r
 | .loop L::r=>NB (Jc nm) L.env && CJ nm r
 | .map _ _::r=>CJ nm r
 | .iter f _ _ _::r=>memB f nm && CJ nm r
 | .addr f _ _::r=>memB f nm && CJ nm r
 | .any::r=>CJ nm r
 | .nb _ _ _::r=>CJ nm r
 | .nr _ _ _ _ _::r=>CJ nm r
 | .nm _ _ _::r=>CJ nm r
 | .itz::r=>CJ nm r
 | .multi _::r=>CJ nm r
def Fu (nm:List Nat):Hp ->Bool
 | []=>true
 | (_,l)::r=>CJ nm l && Fu nm r
theorem Tu (h:CJ c z=true) (j:t∈z) (g:t.Refs y o):y∈c:=by
 induction z with
 | nil=>cases j
 | cons a r q=>
  rcases Υ.1 j with rfl | j
  .cases t with
   | blk d D=>
    simp only [CJ,ωd] at h;obtain ⟨e,m,g⟩:=g;exact G4.1 (On h.1 m g)
   | row d k p=>
    simp only [CJ,ωd] at h;obtain ⟨x,v,e,m,g⟩:=g;exact G4.1 (Fo (χm.1 h.1 x v) m g)
   | rowD d k p=>exact g.elim
   | loop L=>
    simp only [CJ,ωd] at h;obtain ⟨d,a,w,g⟩:=g;exact G4.1 (Om h.1 w g)
   | map F B=>exact g.elim
   | iter A s e seen=>
    simp only [CJ,ωd] at h;obtain ⟨n,C⟩:=g;subst n;exact G4.1 h.1
   | addr A s u=>
    simp only [CJ,ωd] at h;obtain ⟨n,C⟩:=g;subst n;exact G4.1 h.1
   | any=>exact g.elim
   | nb b d D=>exact g.elim
   | nr b d k E p=>exact g.elim
   | nm b F B=>exact g.elim
   | itz=>exact g.elim
   | multi M=>exact g.elim
  .refine q ?_ j
   cases a<;>simp only [CJ,ωd] at h<;>first | exact h.2 | exact h
theorem aF (h:Fu c H=true) {j:Nat} (b:hget H k j=some t) (n:t.Refs y o):y∈c:=by
 induction H with
 | nil=>simp [hget,hfam] at b
 | cons p r d=>
  obtain ⟨a,l⟩:=p;simp only [Fu,ωd] at h
  by_cases e:a=k
  .subst e;simp only [hget,hfam,ψw,χk] at b;rcases gl_mem b with b | ⟨_,m,_,_,rfl⟩
   all_goals (grind [Tu,Ap.norefs])
  grind [hget,hfam,IP]
section
variable {P:Program} {F:Fr} {s:AS} {d:Nat} {ty:TypeId} {pos:String} {aft:Array Edge} {g:Option (Nat×Bool)} {at_:Array TypeId}
variable {a:List Operand} {c:Nat ->Nat ->Value} {e:List (Nat×AV)} {f:List AV} {h:FuncId} {w:World} {i j k:Hp} {R:AV ->Hp ->Prop} {m:Nat ->Nat ->Value} {n:Act} {o:DS} {p:Hp} {q:World}
def Bs (F:Fr) (lo:DS) (hp CH:Hp) (ρ:Nat ->Nat ->Value) (w:World) (hOf:∀b,(F.Of b\/(BK ρ hp b/\¬BK ρ CH b)) ->b<w.heap.size/\¬BK ρ CH b):Fr:=
 Fr.mk none lo w (λb=>F.Of b\/(BK ρ hp b/\¬BK ρ CH b)) (BK ρ CH) (Cp ρ CH) hOf (hpN CH) (λ_ _ _ h=>D9 h)
def Keeps (w w':World) (O O':Nat ->Prop):Prop:=w.heap.size<=w'.heap.size/\(∀b,b<w.heap.size ->¬O b ->w'.heap[b]? =w.heap[b]?)/\∀b,b<w.heap.size ->O' b ->O b
theorem F1 (t:DS) (m:Ba F p c w) (r:List Nat) (v:CP p j r) (x:A6 r j=true):
  ∃e,Ba (Bs F t p j c w e) j c w/\(Bs F t p j c w e).O c j=F.O c p:=by
 have k:∀g i o,hget j g i=some o ->hget p g i=some o/\g∈r:=λg i o n=>by
  have A:=Kt x n;exact ⟨by rw [v.hget A];exact n,A⟩
 have l:∀b,BK c j b ->BK c p b:=λb ⟨f,i,o,E,D⟩=>⟨f,i,o,(k f i o E).1,D⟩
 have e:∀b,(F.Of b\/(BK c p b/\¬BK c j b)) ->b<w.heap.size/\¬BK c j b:=λb a=>by
  rcases a with a | a
  .exact ⟨ψf (F.hOf b a).1 m.size0,λq=>m.notOf (l b q) a⟩
  .exact ⟨(m.mine b a.1).1,a.2⟩
 have B:(Bs F t p j c w e).O c j=F.O c p:=funext λb=>propext ⟨λh=>by
  rcases h with (h | h) | h
  .exact .inl h
  .exact .inr h.1
  .exact .inr (l b h),λh=>by
  rcases h with h | h
  .exact .inl (.inl h)
  .by_cases q:BK c j b
   .exact .inr q
   .exact .inl (.inr ⟨h,q⟩)⟩
 refine ⟨e,⟨λf i o n=>?_,λf i C z o y b n u=>?_,λb a=>⟨(m.mine b (l b a)).1,.inl a⟩,Z,Z,Z,Γ _,λ_ _ _=>rfl,λf i b a=>ZcC a,Γ _⟩,B⟩
 .rw [B];exact m.sim f i o (k f i o n).1
 .exact m.inj f i C z o y b (k f i o n).1 (k C z y u).1
theorem RB {ok:Nat ->Nat ->Bool} {M:Hp} (J:Ba F p c w) (H:List Nat) (hfe:CP p j H) (hcn:A6 H j=true) (hr0s:∀g e,hget i g e=if g∈H then none else hget p g e)
  (k1:∀g e N,hget k g e=some N ->∃a,hget i g e=some a/\a.Less ok N) (k2:∀g e a,hget i g e=some a ->∃N,hget k g e=some N/\a.Less ok N)
  (W:∀b,(F.Of b\/(BK c p b/\¬BK c j b)) ->b<w.heap.size/\¬BK c j b) (_:Ba (Bs F o p j c w W) j c w) (x:Ba (Bs F o p j c w W) M m q) (n1:A6 H M=true) (n2:Fu H M=true) (hok:∀f e,f∈H ->ok f e=true ->m f e=c f e):
  ∃h,Ba F (M++k) h q/\(∀A v,(∀f e,A.Refs f e ->f∈H) ->A9 q ((Bs F o p j c w W).O m M) m A v ->A9 q (F.O h (M++k)) h A v)/\
   (∀A v,(∀f e,A.Refs f e ->ok f e=true) ->A9 w (F.O c p) c A v ->A9 q (F.O h (M++k)) h A v)/\(∀f e,f∈H ->h f e=m f e)/\(∀f e,f∉H ->h f e=c f e)/\Keeps w q (F.O c p) (F.O h (M++k))/\∀b,F.O h (M++k) b ->(Bs F o p j c w W).O m M b:=by
 have hCH:∀g e a,hget j g e=some a ->hget p g e=some a/\g∈H:=λg e a B=>by
  have hg:=Kt hcn B;exact ⟨by rw [hfe.hget hg];exact B,hg⟩
 have C:∀g e a,hget k g e=some a ->∃Z,hget p g e=some Z/\Z.Less (ok) a/\g∉H:=λg e a B=>by
  grind
 have hOC:∀b,BK c j b ->BK c p b:=λb ⟨f,e,a,z,y⟩=>⟨f,e,a,(hCH f e a z).1,y⟩
 have X:∀b,BK c k b ->BK c p b/\¬BK c j b:=λb ⟨f,e,a,z,y⟩=>by
  obtain ⟨Z,h3,_,h4⟩:=C f e a z;refine ⟨⟨f,e,Z,h3,y⟩,λ⟨I,L,N,h5,h6⟩=>?_⟩;obtain ⟨h7,h8⟩:=hCH I L N h5;obtain ⟨rfl,rfl⟩:=J.inj f e I L _ _ b h3 h7 y h6;exact h4 h8
 let h:Nat ->Nat ->Value:=λf e=>if f∈H then m f e else c f e
 have n:∀f e,f∈H ->h f e=m f e:=λf e u=>ς u;have l:∀f e,f∉H ->h f e=c f e:=λf e u=>η u
 have S:∀f e,ok f e=true ->h f e=c f e:=λf e hf0=>by
  grind
 have hnone:∀g e,g∈H ->hget k g e=none:=λg e hg=>by
  cases B:hget k g e with
  | none=>rfl
  | some a=>exact absurd hg (C g e a B).choose_spec.2.2
 have K:=λg e=>eJ (rest:=k) n1 hnone g e
 have U:∀b,BK h (M++k) b ->BK m M b\/BK c k b:=λb ⟨f,e,a,z,y⟩=>by
  rw [K] at z
  split at z
  .rename_i u;rw [n f e u] at y;exact .inl ⟨f,e,a,z,y⟩
  .rename_i u;rw [l f e u] at y;exact .inr ⟨f,e,a,z,y⟩
 have V:∀b,F.O h (M++k) b ->(Bs F o p j c w W).O m M b:=λb r=>by
  rcases r with r | r
  .exact .inl (.inl r)
  .rcases U b r with r | r
   .exact .inr r
   .exact .inl (.inr (X b r))
 have Q:∀b,b<w.heap.size ->F.O h (M++k) b ->F.O c p b:=λb R r=>by
  rcases r with r | r
  .exact .inl r
  .rcases U b r with r | r
   .rcases (x.mine b r).2 with z | z
    .exact .inr (hOC b z)
    .exact absurd R (Nat.not_lt.2 z)
   .exact .inr (X b r).1
 have hbb:∀b,b<w.heap.size ->¬F.O c p b ->q.heap[b]? =w.heap[b]?:=λb R hn=>x.keep b R λhh=>hn (.inr (hOC b hh));have T:w.heap.size<=q.heap.size:=x.size0;refine ⟨h,?_,λA v hA hr=>hr.mono (Γ _) (λ_ _ _=>rfl) (λb _=>V b) λf e u=>n f e (hA f e u),λA v hA hr=>hr.mono T hbb Q λf e u=>S f e (hA f e u),n,l,⟨T,hbb,Q⟩,V⟩;refine ⟨λf e a B=>?_,λf e I L a N b B D r G=>?_,λb r=>?_,x.os.trans J.os,x.tape.trans J.tape,x.output.trans J.output,ωa J.size0 T,λb R hn=>?_,λf e b p=>?_,ωa J.drawn x.drawn⟩
 .rw [K] at B
  split at B
  .rename_i u
   rw [n f e u];refine (x.sim f e a B).mono (Γ _) (λ_ _ _=>rfl) (λb _=>V b) (λ_ _=>rfl) λI L hr=>n I L (aF n2 B hr)
  .rename_i u
   rw [l f e u];obtain ⟨Z,z,y,_⟩:=C f e a B;refine (y.1 _ _ _ _ (J.sim f e Z z)).mono T hbb Q (λb hv=>x.keep b (J.mine b ⟨f,e,Z,z,hv⟩).1 (X b ⟨f,e,a,B,hv⟩).2) λI L hr=>S I L (y.2.1 I L hr)
 .rw [K] at B D
  have Y:∀{f e I L:Nat} {a N:AN} {b:Nat},f∈H ->I∉H ->hget M f e=some a ->hget k I L=some N ->Bu (m f e)=some b ->Bu (c I L)=some b ->False:=λ{f e I L a N b} u E B D r G=>by
   have z:=X b ⟨I,L,N,D,G⟩;rcases (x.mine b ⟨f,e,a,B,r⟩).2 with y | y
   .exact z.2 y
   .exact absurd (J.mine b z.1).1 (Nat.not_lt.2 y)
  by_cases u:f∈H<;>by_cases E:I∈H
  .rw [ς u] at B;rw [ς E] at D;rw [n _ _ u] at r;rw [n _ _ E] at G;exact x.inj f e I L a N b B D r G
  .rw [ς u] at B;rw [η E] at D;rw [n _ _ u] at r;rw [l _ _ E] at G;exact (Y u E B D r G).elim
  .rw [η u] at B;rw [ς E] at D;rw [l _ _ u] at r;rw [n _ _ E] at G;exact (Y E u D B G r).elim
  .rw [η u] at B;rw [η E] at D;rw [l _ _ u] at r;rw [l _ _ E] at G;obtain ⟨Z,z,_⟩:=C f e a B;obtain ⟨o2,y,_⟩:=C I L N D;exact J.inj f e I L Z o2 b z y r G
 .rcases U b r with r | r
  .obtain ⟨z,y⟩:=x.mine b r;refine ⟨z,?_⟩;rcases y with y | y
   .exact (J.mine b (hOC b y)).2
   .exact .inr (ωa J.size0 y)
  .obtain ⟨z,y⟩:=J.mine b (X b r).1;exact ⟨ψf z T,y⟩
 .have z:b<w.heap.size:=ψf R J.size0;rw [x.keep b z (λhh=>?_)]
  .exact J.keep b R hn
  .rcases (J.mine b (hOC b hh)).2 with y | y
   .exact hn y
   .omega
 .obtain ⟨a1,t,cs,a2⟩:=J.pins f e b p
  by_cases u:f∈H
  .have h3:hget j f e=some (.blk t cs):=by rw [<-hfe.hget u];exact a2
   have hp':Cp c j f e=some b:=by simp only [Cp,h3,a1]
   obtain ⟨b1,t',cs',b2⟩:=x.pins f e b hp';exact ⟨by rw [n f e u];exact b1,t',cs',by rw [K,ς u];exact b2⟩
  .have h3:hget i f e=some (.blk t cs):=by rw [hr0s,η u];exact a2
   obtain ⟨N,h4,_,_,h5,_⟩:=k2 f e _ h3;obtain ⟨cs',rfl⟩:=h5 t cs rfl;exact ⟨by rw [l f e u];exact a1,t,cs',by rw [K,η u];exact h4⟩
theorem KD {B:Hp} (Q:Ba F p c w) (u:List Nat) (G:CP p j u) (H:A6 u j=true) (E:C9 u p=some i) (J:CV (By j u) i=some k)
  (z:∀b,(F.Of b\/(BK c p b/\¬BK c j b)) ->b<w.heap.size/\¬BK c j b) (y:Ba (Bs F o p j c w z) j c w) (C:Ba (Bs F o p j c w z) B m q) (N:A6 u B=true) (M:Fu u B=true):
  ∃n,Ba F (B++k) n q/\(∀A v,(∀f l,A.Refs f l ->f∈u) ->A9 q ((Bs F o p j c w z).O m B) m A v ->A9 q (F.O n (B++k)) n A v)/\
   (∀A v,(∀f l,A.Refs f l ->By j u f l=true) ->A9 w (F.O c p) c A v ->A9 q (F.O n (B++k)) n A v)/\(∀f l,By j u f l=true ->n f l=c f l)/\Keeps w q (F.O c p) (F.O n (B++k)):=by
 have x:∀f l,f∈u ->By j u f l=true ->m f l=c f l:=λf l D x=>by
  have r:isBlk (hget j f l)=true:=by
   simp only [By,G4.2 D,Bool.not_true,Bool.false_or] at x;exact x
  cases ho:hget j f l with
  | none=>rw [ho] at r;cases r
  | some a=>
   rw [ho] at r
   cases a with
   | blk t Y=>
    obtain ⟨b,X,I,_⟩:=y.sim f l _ ho;have p:Cp c j f l=some b:=by simp only [Cp,ho,I]
    rw [(C.pins f l b p).1,I]
   | row t e K=>cases r
   | rowD t e K=>cases r
   | loop L=>cases r
   | map _ _=>cases r
   | iter _ _ _ _=>cases r
   | addr _ _ _=>cases r
   | any=>cases r
   | nb _ _ _=>cases r
   | nr _ _ _ _ _=>cases r
   | nm _ _ _=>cases r
   | itz=>cases r
   | multi _=>cases r
 obtain ⟨n,W,V,U,T,S,R,_⟩:=RB Q u G H (WI E) (Ii J).1 (Ii J).2 z y C N M x;refine ⟨n,W,V,U,λf l h=>?_,R⟩
 by_cases D:f∈u
 .rw [T f l D];exact x f l D h
 .exact S f l D
theorem F4 (u:SR F s c n w) (Q:AT P h f j R) {vs:List Value} (y:vs.length=f.length) (E:∀(b:Nat) a v,f[b]? =some a ->vs[b]? =some v ->A9 w (F.O c s.hp) c a v)
  (o:List Nat) (z:CP s.hp j o) (A:A6 o j=true) (G:C9 o s.hp=some i) (V:Bw (By j o) s.env=some e) (U:CV (By j o) i=some k)
  (S:∀r q,R r q ->A6 o q=true/\Fu o q=true/\r.ok (Jc o)=true):
  Calls P h vs.toArray w λl D=>∃v r q m,l= .returned v/\R r q/\A9 D (F.O m (q++k)) m r v/\SR F ⟨s.n,e,q++k⟩ m n D/\∀h b,By j o h b=true ->m h b=c h b:=by
 obtain ⟨C,p,T⟩:=F1 (.marks w.heap.size) u.heap o z A;refine (Q.2 (Bs F (.marks w.heap.size) s.hp j c w C) c vs Z Z ⟨Z,Z,Z⟩ p y (λb a v I N=>by rw [T];exact E b a v I N)).mono λl D ⟨v,r,q,J,e1,B,x,H⟩=>?_;obtain ⟨M,L,K⟩:=S r q B;obtain ⟨m,g1,g2,g3,g4,g5,g6,Y⟩:=KD u.heap o z A G U C p H M L;refine ⟨v,r,q,m,e1,B,g2 r v (λh b O=>G4.1 (AV.ok_spec K O)) x,⟨u.size,u.defs.mono g5 g6 Y,λt a I=>?_,g1⟩,g4⟩;rcases De V I with rfl | ⟨X,W⟩
 .exact .top
 .exact g3 _ _ W (u.env t a X)
theorem DJ {e:Func} (m:P.funcs[h]? =some e) (c:(e.name== "runtime.NumGoroutine")=false) (j:e.body.isSome=true) {i:Option Nat}:
  (execOp n.eval ⟨i,.call {callee:= .value (.func h),args:=a.toArray,argTypes:=at_},ty,pos,aft,g⟩).run P w= .ok (.enter h (a.map n.eval).toArray) w:=by
 have l:¬e.body=none:=by intro b;rw [b] at j;cases j
 have k:¬e.name= "runtime.NumGoroutine" :=by simpa using c
 simp [*,execOp,resolve,Act.eval,Deferred.ofValue,invoke,callFunc]
theorem Ve (z:AT P h f j R) (m:LZ s a=some f)
  (c:List Nat) (t:CP s.hp j c) (u:A6 c j=true) (q:C9 c s.hp=some i) (E:Bw (By j c) s.env=some e) (D:CV (By j c) i=some k)
  (C:∀r l,R r l ->A6 c l=true/\Fu c l=true/\r.ok (Jc c)=true) (B:Nat.blt d s.n=true):
  Pn P F ⟨some d,.call {callee:= .value (.func h),args:=a.toArray,argTypes:=at_},ty,pos,aft,g⟩ s (λA=>∃r l,R r l/\A=⟨s.n,(d,r)::e,l++k⟩):=λN M w y=>by
 obtain ⟨Q,K,J,I⟩:=z.1;obtain ⟨H,G⟩:=Cb y m;unfold Oper.wp;rw [DJ K J I,Oper.upon_enter];refine (F4 y z H G c t u q E D C).mono λb O ⟨v,r,l,n,L,x,o,p,_⟩=>?_;subst L;exact ⟨_,n,⟨Z,r,l,x,Z⟩,p.put (IS B) o⟩
theorem FG {q:Hp} {t:AV} (I:AT P h f j λr G=>r=t/\G=q) (m:LZ s a=some f)
  (c:List Nat) (y:CP s.hp j c) (z:A6 c j=true) (x:C9 c s.hp=some i) (M:Bw (By j c) s.env=some e) (L:CV (By j c) i=some k)
  (C:A6 c q=true) (B:Fu c q=true) (A:t.ok (Jc c)=true) (K:Nat.blt d s.n=true) {p:Hp} (l:some (q++k)=some p):
  AG P F ⟨some d,.call {callee:= .value (.func h),args:=a.toArray,argTypes:=at_},ty,pos,aft,g⟩ s ⟨s.n,(d,t)::e,p⟩ (By j c):=by
 injection l with l
 subst l;intro V U w H;obtain ⟨X,S,R,Q⟩:=I.1;obtain ⟨O,N⟩:=Cb H m;unfold Oper.wp;rw [DJ S R Q,Oper.upon_enter];refine (F4 H I O N c y z x M L (λr G ⟨E,D⟩=>by subst E D;exact ⟨C,B,A⟩)).mono λb W ⟨v,r,G,n,E,⟨D,T⟩,o,u,J⟩=>?_;subst E D T;exact ⟨n,u.put (IS K) o,J⟩
theorem Aw {x:D} (I:AM P h f x) (B:LZ s a=some f) (L:Nat.blt d s.n=true):
  AA P F ⟨some d,.call {callee:= .value (.func h),args:=a.toArray,argTypes:=at_},ty,pos,aft,g⟩ s d (.d x):=by
 refine ⟨L,Z,λp W w k=>?_⟩;obtain ⟨fn,S,R,Q⟩:=I.1;obtain ⟨O,N⟩:=Cb k B;unfold Oper.wp;rw [DJ S R Q,Oper.upon_enter];have y:∀p b,¬BK p [] b:=λp b ⟨_,_,_,c,_⟩=>nomatch c
 let G:Fr:=Fr.mk none (.marks w.heap.size) w (F.O p s.hp) (BK p []) (Cp p []) (λb q=>⟨by
  rcases q with q | q
  .exact ψf (F.hOf b q).1 k.heap.size0
  .exact (k.heap.mine b q).1,y p b⟩) [] (λ_ _ _ c=>D9 c)
 have J:∀t,G.O t []=F.O p s.hp:=λt=>funext λb=>propext ⟨λc=>c.elim id λc=>(y t b c).elim,.inl⟩
 have A:Ba G [] p w:=⟨(λh i o C=>nomatch C),(λh i f' Y o X b C=>nomatch C),λb q=>(y p b q).elim,Z,Z,Z,Γ _,λ_ _ _=>rfl,λh i b q=>ZcC q,Γ _⟩
 refine (I.2 G p _ Z Z ⟨Z,Z,Z⟩ A O (λi j v M E=>by rw [J];exact N i j v M E)).mono λe H ⟨v,r,H',t,V,⟨U,T⟩,l,n⟩=>?_;subst V U T;have z:∀b,b<w.heap.size ->H.heap[b]? =w.heap[b]?:=λb m=>n.keep b m (y p b);have u:w.heap.size<=H.heap.size:=n.size0;refine ⟨v,Z,?_,?_,u,z⟩
 rotate_left
 .refine ⟨λh i o C=>?_,k.heap.inj,λb q=>⟨ψf (k.heap.mine b q).1 u,(k.heap.mine b q).2⟩,n.os.trans k.heap.os,n.tape.trans k.heap.tape,n.output.trans k.heap.output,ωa k.heap.size0 u,λb m K=>?_,k.heap.pins,ωa k.heap.drawn n.drawn⟩
  .exact (k.heap.sim h i o C).mono u (λb m _=>z b m) (λ_ _ c=>c) (λb E=>z b (k.heap.mine b ⟨h,i,o,C,E⟩).1) λ_ _ _=>rfl
  .rw [z b (ψf m k.heap.size0)];exact k.heap.keep b m K
 .cases l with
  | d l=>rw [J] at l;exact .d l
end
end Go.Proofs.YteifpcnphnhaoaaGreat
