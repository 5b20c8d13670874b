import Derived.Test.YteifpcnphnhaoaaGreatMg11
namespace Go.Proofs.YteifpcnphnhaoaaGreat
open Go.RowKit
section
variable {P:Program} {F:Fr} {ops:Array Oper} {pre:List (List Nat)} {Q:Exit ->AS ->Prop} {lo:Nat} {rest:List Oper} {s:AS} {A B C:Oper}
variable {a:Exit ->Act ->World ->Prop} {w:World} {o:Oper}
theorem GD {R:AS ->Prop} (h:Ao P F ops [o] (λe f=>e= .normal/\R f) s) {j:Nat ->Nat ->Value} {g:Act} (m:SR F s j g w):E8 P F.rnd ops o a (λb w=>∃f d,R f/\SR F f d b w) g w:=by
 have c:=h j g w m;unfold wpListIn at c;unfold E8
 split
 .rename_i i
  rw [ς i] at c;refine F8 ?_ ?_ c
  .rintro b w ⟨f,d,⟨_,l⟩,k⟩
   grind
  .rintro e b w n ⟨f,d,⟨p,l⟩,k⟩
   grind
 .rename_i i
  rw [η i] at c;obtain ⟨_,f,d,⟨_,l⟩,k⟩:=c
  grind
theorem ZcE {r:Option Nat} {K c:Act ->World ->Prop} {b:Act} (d:∀b w,K b w ->c b w) (h:E8 P r ops o a K b w):E8 P r ops o a c b w:=by grind [E8,F8]
abbrev KeP {γ:Type} (F:Fr) (σ:γ ->AS) (I:γ ->Prop) (s':AS):Prop:=∃a,I a/\s'.LeP F (σ a)
theorem dwx3 {γ:Type} (W:Nat) (y:γ ->AS) (I:γ ->Prop) (hhi:Nat.beq (lo+3) W=true) (hc:Uq pre (W+rest.length) lo W=true) (hpB:memB (lo+1) (preAt pre (lo+2))=true)
  (h1:Ao P F ops [A] (λe V=>e= .normal/\Ao P F ops [B] (λe r=>e= .normal/\Ao P F ops [C] (λe o=>e= .normal/\KeP F y I o) r) V) s)
  (h2:Ao P F ops [B] (λe V=>e= .normal/\Ao P F ops [A] (λe r=>e= .normal/\Ao P F ops [C] (λe o=>e= .normal/\KeP F y I o) r) V/\Ao P F ops [C] (λe r=>e= .normal/\Ao P F ops [A] (λe o=>e= .normal/\KeP F y I o) r) V) s)
  (h:∀a,I a ->Dw P F ops pre W rest Q (y a)):Dw P F ops pre lo (A::B::C::rest) Q s:=λG M ρ U w q hs Y X=>by
 have S:=ωb hhi;subst S;have oA:ops[lo]? =some A:=by have:=M 0;simpa using this.symm
 have oB:ops[lo+1]? =some B:=by have:=M 1;simpa using this.symm
 have oC:ops[lo+2]? =some C:=by have:=M 2;simpa using this.symm
 have hsz2:ops.size=lo+3+rest.length:=by
  have v:=M (rest.length+3);have u:=M (rest.length+2);have e3:(A::B::C::rest)[rest.length+2]?≠none:=by simp
  rw [u] at e3;have e4:lo+(rest.length+2)<ops.size:=Nat.lt_of_not_le λp=>e3 (Array.getElem?_eq_none p);have e5:ops[lo+(rest.length+3)]? =none:=by rw [<-v];simp
  have:=Array.getElem?_eq_none_iff.1 e5;omega
 obtain ⟨_,c2,c3⟩:=Mf hc;have R:lo+1∈preAt pre (lo+2):=G4.1 hpB;have J:∀k,lo<=k ->Lf q k=false:=λk hk=>by rw [X];exact ωh (by omega)
 refine Lj G lo (lo+3) (by omega) (λj hj hjs x h1 h2=>c3 j hj (by omega) x h1 h2) (λL c z=>
  (L lo=false/\L (lo+1)=false/\L (lo+2)=false/\c=U/\z=w)\/
  (L lo=true/\L (lo+1)=false/\L (lo+2)=false/\∃l b,Ao P F ops [B] (λe r=>e= .normal/\Ao P F ops [C] (λe o=>e= .normal/\KeP F y I o) r) l/\SR F l b c z)\/
  (L lo=false/\L (lo+1)=true/\L (lo+2)=false/\∃l b,(Ao P F ops [A] (λe r=>e= .normal/\Ao P F ops [C] (λe o=>e= .normal/\KeP F y I o) r) l/\Ao P F ops [C] (λe r=>e= .normal/\Ao P F ops [A] (λe o=>e= .normal/\KeP F y I o) r) l)/\SR F l b c z)\/
  (L lo=true/\L (lo+1)=true/\L (lo+2)=false/\∃l b,Ao P F ops [C] (λe o=>e= .normal/\KeP F y I o) l/\SR F l b c z)\/
  (L lo=false/\L (lo+1)=true/\L (lo+2)=true/\∃l b,Ao P F ops [A] (λe o=>e= .normal/\KeP F y I o) l/\SR F l b c z)\/
  (L lo=true/\L (lo+1)=true/\L (lo+2)=true/\∃l b,KeP F y I l/\SR F l b c z)) ?_ ?_ _ q U w Y Z (Gc G X) (λk hk=>by rw [X];exact ωf hk) (λk hk=>by rw [X];exact ωh (by omega)) (.inl ⟨J _ (by omega),J _ (by omega),J _ (by omega),Z,Z⟩)
 .intro L c z i hi1 hi2 t O _ T;have H:i=lo\/i=lo+1\/i=lo+2:=by omega
  rcases H with rfl | rfl | rfl
  .refine ⟨A,oA,?_⟩;have E:(if i=i then true else L i)=true:=ς rfl;have v:(if i+1=i then true else L (i+1))=L (i+1):=η (by omega);have u:(if i+2=i then true else L (i+2))=L (i+2):=η (by omega);rcases T with ⟨_,m,n,rfl,rfl⟩ | ⟨d,_⟩ | ⟨_,m,n,l,b,⟨D,_⟩,g⟩ | ⟨d,_⟩ | ⟨_,m,n,l,b,D,g⟩ | ⟨d,_⟩
   .refine ZcE (λa w p=> .inr (.inl ⟨E,v.trans m,u.trans n,p⟩)) (GD h1 hs)
   .rw [t] at d;cases d
   .refine ZcE (λa w p=> .inr (.inr (.inr (.inl ⟨E,v.trans m,u.trans n,p⟩)))) (GD D g)
   .rw [t] at d;cases d
   .refine ZcE (λa w p=> .inr (.inr (.inr (.inr (.inr ⟨E,v.trans m,u.trans n,p⟩))))) (GD D g)
   .rw [t] at d;cases d
  .refine ⟨B,oB,?_⟩;have E:(if lo=lo+1 then true else L lo)=L lo:=η (by omega);have v:(if lo+1=lo+1 then true else L (lo+1))=true:=ς rfl;have u:(if lo+2=lo+1 then true else L (lo+2))=L (lo+2):=η (by omega);rcases T with ⟨d,_,n,rfl,rfl⟩ | ⟨d,_,n,l,b,D,g⟩ | ⟨_,m,_⟩ | ⟨_,m,_⟩ | ⟨_,m,_⟩ | ⟨_,m,_⟩
   .refine ZcE (λa w p=> .inr (.inr (.inl ⟨E.trans d,v,u.trans n,p⟩))) (GD h2 hs)
   .refine ZcE (λa w p=> .inr (.inr (.inr (.inl ⟨E.trans d,v,u.trans n,p⟩)))) (GD D g)
   all_goals (rw [t] at m;cases m)
  .refine ⟨C,oC,?_⟩;have hB:=O _ R;have E:(if lo=lo+2 then true else L lo)=L lo:=η (by omega);have v:(if lo+1=lo+2 then true else L (lo+1))=L (lo+1):=η (by omega);have u:(if lo+2=lo+2 then true else L (lo+2))=true:=ς rfl;rcases T with ⟨_,m,_⟩ | ⟨_,m,_⟩ | ⟨d,m,_,l,b,⟨_,D⟩,g⟩ | ⟨d,m,_,l,b,D,g⟩ | ⟨_,_,n,_⟩ | ⟨_,_,n,_⟩
   .rw [hB] at m;cases m
   .rw [hB] at m;cases m
   .refine ZcE (λa w p=> .inr (.inr (.inr (.inr (.inl ⟨E.trans d,v.trans m,u,p⟩))))) (GD D g)
   .refine ZcE (λa w p=> .inr (.inr (.inr (.inr (.inr ⟨E.trans d,v.trans m,u,p⟩))))) (GD D g)
   all_goals (rw [t] at n;cases n)
 .intro f c z N K T;have t0:Lf f lo=true:=by rw [K];exact ωf (by omega)
  have t2:Lf f (lo+2)=true:=by rw [K];exact ωf (by omega)
  rcases T with ⟨d,_⟩ | ⟨_,_,n,_⟩ | ⟨d,_⟩ | ⟨_,_,n,_⟩ | ⟨d,_⟩ | ⟨_,_,_,l,b,⟨a,ha,hle⟩,g⟩
  .rw [t0] at d;cases d
  .rw [t2] at n;cases n
  .rw [t0] at d;cases d
  .rw [t2] at n;cases n
  .rw [t0] at d;cases d
  .exact h a ha G (λk=>by have:=M (k+3);rw [List.getElem?_cons_succ,List.getElem?_cons_succ,List.getElem?_cons_succ] at this;rw [this];congr 1;omega) b c z f (g.leP hle) N K
end
end Go.Proofs.YteifpcnphnhaoaaGreat
namespace Go.Proofs.YteifpcnphnhaoaaGreat
def anU (a b:Nat):Nat:=(BitVec.ofNat 32 a &&& ~~~(BitVec.ofNat 32 b)).toNat
end Go.Proofs.YteifpcnphnhaoaaGreat
namespace Go.Proofs.YteifpcnphnhaoaaGreat
open Go.RowKit
theorem st_boxC {P:Program} {F:Fr} {s:AS} {d:Nat} {v T:TypeId} {k:String} {p:Array Edge} {g:Option (Nat×Bool)} {x:Operand} (f:Nat) {A:AV} {b:List (Nat×AV)} {n o:List (Nat×List AN)} {r:List AV} (z:s.ev x=some A) (q:A.cells? =some r) (I:okC (Bn f) r=true) (H:Ac f s.env=some b) (G:Aa f s.hp=some n) (D:Cj n f (.blk T r)=some o) (E:Nat.blt d s.n=true):
  AG P F ⟨some d,.box T x,v,k,p,g⟩ s ⟨s.n,(d,.ptr f 0 0)::b,o⟩ (Bn f):=λN a w y=>by
 have l:(execOp a.eval ⟨some d,.box T x,v,k,p,g⟩).run P w= .ok (.value (.pointer (some ⟨w.heap.size,0,none⟩))) (w.alloc (.cells (a.eval x).cells T)):=by
  simp [execOp,Instr.box,newVar,newRow]
 unfold Oper.wp;rw [l];obtain ⟨M,L⟩:=(y.ev z).cells q
 have t:=y.new f (.blk T r) (.pointer (some ⟨w.heap.size,0,none⟩)) (.cells (a.eval x).cells T) H G D Z (λm=>by
  refine Rd (us:=(a.eval x).cells.toList) (by simpa using heap_alloc_new w (.cells (a.eval x).cells T)) M λj c u q B=>?_;obtain ⟨K,J⟩:=L j c u q B
  exact ⟨m c u (λi C=>Sf (On I (ξ q) C) Z) K,J⟩)
 exact ⟨_,t.put (IS E) (.ptr QS),λf i h=>OF λe=>Sf h e.1⟩
end Go.Proofs.YteifpcnphnhaoaaGreat
