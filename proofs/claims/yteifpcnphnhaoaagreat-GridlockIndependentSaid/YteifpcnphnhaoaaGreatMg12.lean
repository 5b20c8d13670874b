import Derived.Test.YteifpcnphnhaoaaGreatMg11
namespace Go.Proofs.YteifpcnphnhaoaaGreat
open Go.RowKit
section
variable {P:Program} {F:Fr} {ops:Array Oper} {pre:List (List Nat)} {Q:Exit ->AS ->Prop} {lo:Nat} {rest:List Oper} {s:AS} {A B C:Oper}
variable {a:Exit ->Act ->World ->Prop} {w:World} {o:Oper}
theorem FN {R:AS ->Prop} (h:A8 P F ops [o] (λe g=>e= .normal/\R g) s) {k:Nat ->Nat ->Value} {i:Act} (t:SR F s k i w):Du P F.rnd ops o a (λb w=>∃g f,R g/\SR F g f b w) i w:=by
 have c:=h k i w t;unfold wpListIn at c;unfold Du
 split
 .rename_i j
  rw [ϱ j] at c;refine En ?_ ?_ c
  .rintro b w ⟨g,f,⟨_,r⟩,l⟩
   grind
  .rintro e b w u ⟨g,f,⟨v,r⟩,l⟩
   grind
 .rename_i j
  rw [θ j] at c;obtain ⟨_,g,f,⟨_,r⟩,l⟩:=c
  grind
theorem qY {r:Option Nat} {K c:Act ->World ->Prop} {b:Act} (f:∀b w,K b w ->c b w) (h:Du P r ops o a K b w):Du P r ops o a c b w:=by grind [Du,En]
abbrev mY {γ:Type} (F:Fr) (σ:γ ->AS) (I:γ ->Prop) (s':AS):Prop:=∃a,I a/\s'.LeP F (σ a)
theorem uK {γ:Type} (hi:Nat) (H:γ ->AS) (I:γ ->Prop) (hhi:Nat.beq (lo+3) hi=true) (hc:T6 pre (hi+rest.length) lo hi=true) (hpB:ed (lo+1) (eu pre (lo+2))=true)
  (h1:A8 P F ops [A] (λe s1=>e= .normal/\A8 P F ops [B] (λe z=>e= .normal/\A8 P F ops [C] (λe u=>e= .normal/\mY F H I u) z) s1) s)
  (h2:A8 P F ops [B] (λe s1=>e= .normal/\A8 P F ops [A] (λe z=>e= .normal/\A8 P F ops [C] (λe u=>e= .normal/\mY F H I u) z) s1/\A8 P F ops [C] (λe z=>e= .normal/\A8 P F ops [A] (λe u=>e= .normal/\mY F H I u) z) s1) s)
  (h:∀a,I a ->Dw P F ops pre hi rest Q (H a)):Dw P F ops pre lo (A::B::C::rest) Q s:=λN T ρ act w y hs hsz hL=>by
 have X:=fx hhi;subst X;have oA:ops[lo]? =some A:=by have:=T 0;simpa using this.symm
 have oB:ops[lo+1]? =some B:=by have:=T 1;simpa using this.symm
 have oC:ops[lo+2]? =some C:=by have:=T 2;simpa using this.symm
 have hsz2:ops.size=lo+3+rest.length:=by
  have G:=T (rest.length+3);have E:=T (rest.length+2);have e3:(A::B::C::rest)[rest.length+2]?≠none:=by simp
  rw [E] at e3;have e4:lo+(rest.length+2)<ops.size:=Nat.lt_of_not_le λv=>e3 (Array.getElem?_eq_none v);have e5:ops[lo+(rest.length+3)]? =none:=by rw [<-G];simp
  have:=Array.getElem?_eq_none_iff.1 e5;omega
 obtain ⟨_,c2,c3⟩:=LK hc;have W:lo+1∈eu pre (lo+2):=Fd.1 hpB;have R:∀k,lo<=k ->Lf y k=false:=λk hk=>by rw [hL];exact fb (by omega)
 refine KY N lo (lo+3) (by omega) (λj hj hjs x h1 h2=>c3 j hj (by omega) x h1 h2) (λL c J=>
  (L lo=false/\L (lo+1)=false/\L (lo+2)=false/\c=act/\J=w)\/
  (L lo=true/\L (lo+1)=false/\L (lo+2)=false/\∃o b,A8 P F ops [B] (λe z=>e= .normal/\A8 P F ops [C] (λe u=>e= .normal/\mY F H I u) z) o/\SR F o b c J)\/
  (L lo=false/\L (lo+1)=true/\L (lo+2)=false/\∃o b,(A8 P F ops [A] (λe z=>e= .normal/\A8 P F ops [C] (λe u=>e= .normal/\mY F H I u) z) o/\A8 P F ops [C] (λe z=>e= .normal/\A8 P F ops [A] (λe u=>e= .normal/\mY F H I u) z) o)/\SR F o b c J)\/
  (L lo=true/\L (lo+1)=true/\L (lo+2)=false/\∃o b,A8 P F ops [C] (λe u=>e= .normal/\mY F H I u) o/\SR F o b c J)\/
  (L lo=false/\L (lo+1)=true/\L (lo+2)=true/\∃o b,A8 P F ops [A] (λe u=>e= .normal/\mY F H I u) o/\SR F o b c J)\/
  (L lo=true/\L (lo+1)=true/\L (lo+2)=true/\∃o b,mY F H I o/\SR F o b c J)) ?_ ?_ _ y act w hsz Z (Fm N hL) (λk hk=>by rw [hL];exact Υ hk) (λk hk=>by rw [hL];exact fb (by omega)) (.inl ⟨R _ (by omega),R _ (by omega),R _ (by omega),Z,Z⟩)
 .intro L c J i hi1 hi2 D V _ Y;have O:i=lo\/i=lo+1\/i=lo+2:=by omega
  rcases O with rfl | rfl | rfl
  .refine ⟨A,oA,?_⟩;have M:(if i=i then true else L i)=true:=ϱ rfl;have G:(if i+1=i then true else L (i+1))=L (i+1):=θ (by omega);have E:(if i+2=i then true else L (i+2))=L (i+2):=θ (by omega);rcases Y with ⟨_,r,t,rfl,rfl⟩ | ⟨f,_⟩ | ⟨_,r,t,o,b,⟨K,_⟩,l⟩ | ⟨f,_⟩ | ⟨_,r,t,o,b,K,l⟩ | ⟨f,_⟩
   .refine qY (λa w v=> .inr (.inl ⟨M,G.trans r,E.trans t,v⟩)) (FN h1 hs)
   .rw [D] at f;cases f
   .refine qY (λa w v=> .inr (.inr (.inr (.inl ⟨M,G.trans r,E.trans t,v⟩)))) (FN K l)
   .rw [D] at f;cases f
   .refine qY (λa w v=> .inr (.inr (.inr (.inr (.inr ⟨M,G.trans r,E.trans t,v⟩))))) (FN K l)
   .rw [D] at f;cases f
  .refine ⟨B,oB,?_⟩;have M:(if lo=lo+1 then true else L lo)=L lo:=θ (by omega);have G:(if lo+1=lo+1 then true else L (lo+1))=true:=ϱ rfl;have E:(if lo+2=lo+1 then true else L (lo+2))=L (lo+2):=θ (by omega);rcases Y with ⟨f,_,t,rfl,rfl⟩ | ⟨f,_,t,o,b,K,l⟩ | ⟨_,r,_⟩ | ⟨_,r,_⟩ | ⟨_,r,_⟩ | ⟨_,r,_⟩
   .refine qY (λa w v=> .inr (.inr (.inl ⟨M.trans f,G,E.trans t,v⟩))) (FN h2 hs)
   .refine qY (λa w v=> .inr (.inr (.inr (.inl ⟨M.trans f,G,E.trans t,v⟩)))) (FN K l)
   all_goals (rw [D] at r;cases r)
  .refine ⟨C,oC,?_⟩;have hB:=V _ W;have M:(if lo=lo+2 then true else L lo)=L lo:=θ (by omega);have G:(if lo+1=lo+2 then true else L (lo+1))=L (lo+1):=θ (by omega);have E:(if lo+2=lo+2 then true else L (lo+2))=true:=ϱ rfl;rcases Y with ⟨_,r,_⟩ | ⟨_,r,_⟩ | ⟨f,r,_,o,b,⟨_,K⟩,l⟩ | ⟨f,r,_,o,b,K,l⟩ | ⟨_,_,t,_⟩ | ⟨_,_,t,_⟩
   .rw [hB] at r;cases r
   .rw [hB] at r;cases r
   .refine qY (λa w v=> .inr (.inr (.inr (.inr (.inl ⟨M.trans f,G.trans r,E,v⟩))))) (FN K l)
   .refine qY (λa w v=> .inr (.inr (.inr (.inr (.inr ⟨M.trans f,G.trans r,E,v⟩))))) (FN K l)
   all_goals (rw [D] at t;cases t)
 .intro g c J U S Y;have t0:Lf g lo=true:=by rw [S];exact Υ (by omega)
  have t2:Lf g (lo+2)=true:=by rw [S];exact Υ (by omega)
  rcases Y with ⟨f,_⟩ | ⟨_,_,t,_⟩ | ⟨f,_⟩ | ⟨_,_,t,_⟩ | ⟨f,_⟩ | ⟨_,_,_,o,b,⟨a,ha,hle⟩,l⟩
  .rw [t0] at f;cases f
  .rw [t2] at t;cases t
  .rw [t0] at f;cases f
  .rw [t2] at t;cases t
  .rw [t0] at f;cases f
  .exact h a ha N (λk=>by have:=T (k+3);rw [List.getElem?_cons_succ,List.getElem?_cons_succ,List.getElem?_cons_succ] at this;rw [this];congr 1;omega) b c J g (l.leP hle) U S
end
end Go.Proofs.YteifpcnphnhaoaaGreat
namespace Go.Proofs.YteifpcnphnhaoaaGreat
def un (a b:Nat):Nat:=(BitVec.ofNat 32 a &&& ~~~(BitVec.ofNat 32 b)).toNat
end Go.Proofs.YteifpcnphnhaoaaGreat
namespace Go.Proofs.YteifpcnphnhaoaaGreat
open Go.RowKit
theorem jk {P:Program} {F:Fr} {s:AS} {d:Nat} {C T:TypeId} {k:String} {v:Array Edge} {g:Option (Nat×Bool)} {x:Operand} (f:Nat) {A:AV} {b:List (Nat×AV)} {r t:Hp} {z:List AV} (E:s.ev x=some A) (y:A.cells? =some z) (M:qk (B2 f) z=true) (L:AX f s.env=some b) (K:AT f s.hp=some r) (I:CP r f (.blk T z)=some t) (J:Nat.blt d s.n=true):
  AH P F ⟨some d,.box T x,C,k,v,g⟩ s ⟨s.n,(d,.ptr f 0 0)::b,t⟩ (B2 f):=λS a w D=>by
 have l:(execOp a.eval ⟨some d,.box T x,C,k,v,g⟩).run P w= .ok (.value (.pointer (some ⟨w.heap.size,0,none⟩))) (w.alloc (.cells (a.eval x).cells T)):=by
  simp [execOp,Instr.box,newVar,newRow]
 unfold Oper.wp;rw [l];obtain ⟨R,Q⟩:=(D.ev E).cells y
 have B:=D.new f (.blk T z) (.pointer (some ⟨w.heap.size,0,none⟩)) (.cells (a.eval x).cells T) L K I Z (λo=>by
  refine QS (us:=(a.eval x).cells.toList) (by simpa using heap_alloc_new w (.cells (a.eval x).cells T)) R λj c u y G=>?_;obtain ⟨O,N⟩:=Q j c u y G
  exact ⟨o c u (λi H=>RU (NK M (ϑ y) H) Z) O,N⟩)
 exact ⟨_,B.put (IB J) (.ptr Oq),λf i h=>MX λe=>RU h e.1⟩
end Go.Proofs.YteifpcnphnhaoaaGreat
