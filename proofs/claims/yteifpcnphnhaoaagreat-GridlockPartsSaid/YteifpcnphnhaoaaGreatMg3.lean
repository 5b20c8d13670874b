import Derived.Test.YteifpcnphnhaoaaGreatMg2
import Derived.IntWalk
import Derived.Laws.Pointers
import Derived.Laws.IdiomStrings
import Derived.WalkSpells
namespace Go.Proofs.YteifpcnphnhaoaaGreat
open Go.RowKit
variable {P:Program} {a:Nat ->Nat ->Value} {T:TypeId} {x:Operand} {c:Act} {w:World} {n:Nat} {s:AS} {F:Fr}
theorem SR.raw (h:SR F s a c w) {v:Value} (e:s.ev x=some (.d (.raw v))):c.eval x=v:=by
 have b:=h.ev e
 cases b with
 | d b=>
  generalize f:c.eval x=u at b
  cases b with
  | raw _=>rfl
theorem SR.repD (h:SR F s a c w) {d:D} (e:s.ev x=some (.d d)):A1 w (F.O a s.hp) d (c.eval x):=by
 have b:=h.ev e
 generalize c.eval x=u at b
 cases b with
 | d b=>exact b
def BW (P:Program) (T:TypeId):Bool:=match P.underlying T with
 | some (.struct _)=>false
 | some (.array _ _)=>false
 | none=>false
 | some _=>true
def CB (P:Program) (T:TypeId) (n:Nat):Bool:=(match P.underlying T with
 | some (.struct _)=>true
 | some (.array _ _)=>true
 | _=>false) &&(match P.info? T with
 | some i=>Nat.beq i.size n
 | none=>false)
def A5 (P:Program) (T:TypeId) (n:Nat):Bool:=match P.info? T with
 | some i=>Nat.beq i.size n
 | none=>false
theorem ae (h:A5 P T n=true):(P.info? T).map (·.size)=some n:=by grind [A5,ωb]
theorem ZcB {P:Program} {T:TypeId} {n:Nat} (h:(P.info? T).map (·.size)=some n) (w:World):(sizeOf T).run P w= .ok n w:=by
 unfold sizeOf typeInfo
 cases hi:P.info? T with
 | none=>rw [hi] at h;cases h
 | some i=>rw [hi] at h;simp at h;simp [hi,h]
def slTyB (P:Program) (t e size bytes:Nat):Bool:=(match P.underlying t with
 | some (.slice e')=>Nat.beq e' e
 | _=>false) &&(match P.info? e with
 | some i=>match i.zero with
  | some z=>Nat.beq i.size size && Nat.beq i.bytes bytes && Nat.beq z.cells.size size
  | none=>false
 | none=>false) && Nat.blt 0 size && Nat.blt 0 bytes
theorem Mq {t e a bytes:Nat} (h:slTyB P t e a bytes=true):SlTy P t e a bytes:=by
 simp only [slTyB,ωd] at h;obtain ⟨⟨⟨f,d⟩,c⟩,b⟩:=h;refine ⟨?_,?_,IS c,IS b⟩
 all_goals (grind [ωb])
theorem ET (h:BW P T=true) (w:World):(isAgg T).run P w= .ok false w:=by
 unfold BW at h;unfold isAgg
 cases hu:P.underlying T with
 | none=>rw [hu] at h;cases h
 | some d=>
  rw [Sem.run_bind,run_underlying hu w]
  cases d<;>simp_all
theorem Fh (h:CB P T n=true):(∃d,P.underlying T=some d/\d.isRow=true)/\(P.info? T).map (·.size)=some n:=by
 unfold CB at h;simp only [ωd] at h;refine ⟨?_,ae h.2⟩
 grind
section
variable {P:Program} {F:Fr} {s:AS} {d:Nat} {ty T T':TypeId} {pos:String} {aft:Array Edge} {g:Option (Nat×Bool)} {x y c:Operand} {k k':IntKind} {a b v:Int}
variable {A:AV} {t:Bool} {i:Nat}
theorem Pv (f:s.ev x=some A) (i:Nat.blt d s.n=true):AA P F ⟨some d,.move x,ty,pos,aft,g⟩ s d A:=
 Cz A i λ_ e _ h=>⟨e.eval x,by simp [execOp],h.ev f⟩
theorem JK (f:s.ev x=some A) (i:Nat.blt d s.n=true):AA P F ⟨some d,.assign x,ty,pos,aft,g⟩ s d A:=
 Cz A i λ_ e _ h=>⟨e.eval x,by simp [execOp],h.ev f⟩
theorem BY (l:s.ev c=some (.d (.raw (.bool t)))) (i:t=true) (h:s.ev x=some A) (j:Nat.blt d s.n=true):AA P F ⟨some d,.pick c x y,ty,pos,aft,g⟩ s d A:=
 Cz _ j λ_ e _ f=>⟨e.eval x,by simp [execOp,f.raw l,asBool,i],f.ev h⟩
theorem Bf (l:s.ev c=some (.d (.raw (.bool t)))) (i:t=false) (h:s.ev y=some A) (j:Nat.blt d s.n=true):AA P F ⟨some d,.pick c x y,ty,pos,aft,g⟩ s d A:=
 Cz _ j λ_ e _ f=>⟨e.eval y,by simp [execOp,f.raw l,asBool,i],f.ev h⟩
theorem Az (h:s.ev x=some (.d (.raw (.int k a)))) (f:s.ev y=some (.d (.raw (.int k b)))) (i:Nat.blt d s.n=true):AA P F ⟨some d,.binOp .lss T x y T',ty,pos,aft,g⟩ s d (.d (.raw (.bool (decide (a<b))))):=
 Cz _ i λ_ j _ e=>⟨_,by simp [execOp,eqGuard,binOp,Op.intCmp,e.raw h,e.raw f],.d (.raw Z)⟩
theorem Vu (h:s.ev x=some (.d (.raw (.int k a)))) (f:s.ev y=some (.d (.raw (.int k b)))) (i:Nat.blt d s.n=true):AA P F ⟨some d,.binOp .leq T x y T',ty,pos,aft,g⟩ s d (.d (.raw (.bool (decide (a<=b))))):=
 Cz _ i λ_ j _ e=>⟨_,by simp [execOp,eqGuard,binOp,Op.intCmp,e.raw h,e.raw f],.d (.raw Z)⟩
theorem Gi (h:s.ev x=some (.d (.raw (.int k a)))) (f:s.ev y=some (.d (.raw (.int k b)))) (i:Nat.blt d s.n=true):AA P F ⟨some d,.binOp .gtr T x y T',ty,pos,aft,g⟩ s d (.d (.raw (.bool (decide (b<a))))):=
 Cz _ i λ_ j _ e=>⟨_,by simp [execOp,eqGuard,binOp,Op.intCmp,e.raw h,e.raw f],.d (.raw Z)⟩
theorem EM (h:s.ev x=some (.d (.raw (.int k a)))) (f:s.ev y=some (.d (.raw (.int k b)))) (i:Nat.blt d s.n=true):AA P F ⟨some d,.binOp .geq T x y T',ty,pos,aft,g⟩ s d (.d (.raw (.bool (decide (b<=a))))):=
 Cz _ i λ_ j _ e=>⟨_,by simp [execOp,eqGuard,binOp,Op.intCmp,e.raw h,e.raw f],.d (.raw Z)⟩
theorem FC (h:s.ev x=some (.d (.raw (.int k a)))) (f:s.ev y=some (.d (.raw (.int k b)))) (i:Nat.blt d s.n=true):AA P F ⟨some d,.binOp .eql T x y T',ty,pos,aft,g⟩ s d (.d (.raw (.bool (decide (a=b))))):=
 Cz _ i λ_ j _ e=>⟨.bool (a==b),by simp [execOp,eqGuard,binOp,Op.intCmp,e.raw h,e.raw f],.d (.raw Z)⟩
theorem C7 (h:s.ev x=some (.d (.raw (.int k a)))) (f:s.ev y=some (.d (.raw (.int k b)))) (i:Nat.blt d s.n=true):AA P F ⟨some d,.binOp .neq T x y T',ty,pos,aft,g⟩ s d (.d (.raw (.bool (decide (¬a=b))))):=
 Cz _ i λ_ j _ e=>⟨.bool (a !=b),by simp [execOp,eqGuard,binOp,Op.intCmp,e.raw h,e.raw f],by
  rw [show (a !=b)=decide (¬a=b) by simp [bne];rfl];exact .d (.raw Z)⟩
theorem Ah (h:s.ev x=some (.d (.raw (.int k a)))) (f:s.ev y=some (.d (.raw (.int k b)))) (i:k.wrap (a+b)=v) (j:Nat.blt d s.n=true):AA P F ⟨some d,.binOp .add T x y T',ty,pos,aft,g⟩ s d (.d (.raw (.int k v))):=
 Cz _ j λ_ l _ e=>⟨_,by simp [execOp,eqGuard,binOp,Op.intArith,e.raw h,e.raw f,i],.d (.raw Z)⟩
theorem KL (h:s.ev x=some (.d (.raw (.int k a)))) (f:s.ev y=some (.d (.raw (.int k b)))) (i:k.wrap (a - b)=v) (j:Nat.blt d s.n=true):AA P F ⟨some d,.binOp .sub T x y T',ty,pos,aft,g⟩ s d (.d (.raw (.int k v))):=
 Cz _ j λ_ l _ e=>⟨_,by simp [execOp,eqGuard,binOp,Op.intArith,e.raw h,e.raw f,i],.d (.raw Z)⟩
theorem st_mul (h:s.ev x=some (.d (.raw (.int k a)))) (f:s.ev y=some (.d (.raw (.int k b)))) (i:k.wrap (a*b)=v) (j:Nat.blt d s.n=true):AA P F ⟨some d,.binOp .mul T x y T',ty,pos,aft,g⟩ s d (.d (.raw (.int k v))):=
 Cz _ j λ_ l _ e=>⟨_,by simp [execOp,eqGuard,binOp,Op.intArith,e.raw h,e.raw f,i],.d (.raw Z)⟩
theorem st_quo (h:s.ev x=some (.d (.raw (.int k a)))) (f:s.ev y=some (.d (.raw (.int k b)))) (l:¬b=0) (i:k.wrap (a.tdiv b)=v) (j:Nat.blt d s.n=true):AA P F ⟨some d,.binOp .quo T x y T',ty,pos,aft,g⟩ s d (.d (.raw (.int k v))):=
 Cz _ j λ_ m _ e=>⟨_,by simp [execOp,eqGuard,binOp,Op.intDiv,e.raw h,e.raw f,i,l],.d (.raw Z)⟩
theorem NQ (e:s.ev x=some (.d (.raw (.bool t)))) (h:Nat.blt d s.n=true):AA P F ⟨some d,.unOp .not T x,ty,pos,aft,g⟩ s d (.d (.raw (.bool (!t)))):=
 Cz _ h λ_ i _ f=>⟨_,by simp [execOp,Op.unary,f.raw e],.d (.raw Z)⟩
theorem st_eqlS {a b:ByteArray} (h:s.ev x=some (.d (.raw (.string a)))) (f:s.ev y=some (.d (.raw (.string b)))) (i:Nat.blt d s.n=true):AA P F ⟨some d,.binOp .eql T x y T',ty,pos,aft,g⟩ s d (.d (.raw (.bool (decide (a.toList=b.toList))))):=
 Cz _ i λ_ j _ e=>⟨.bool (a.toList==b.toList),by simp [execOp,eqGuard,binOp,Op.stringOp,e.raw h,e.raw f],by
  rw [show (a.toList==b.toList)=decide (a.toList=b.toList) by rw [φi];simp];exact .d (.raw Z)⟩
theorem st_neqS {a b:ByteArray} (h:s.ev x=some (.d (.raw (.string a)))) (f:s.ev y=some (.d (.raw (.string b)))) (i:Nat.blt d s.n=true):AA P F ⟨some d,.binOp .neq T x y T',ty,pos,aft,g⟩ s d (.d (.raw (.bool (decide (¬a.toList=b.toList))))):=
 Cz _ i λ_ j _ e=>⟨.bool !(a.toList==b.toList),by simp [execOp,eqGuard,binOp,Op.stringOp,e.raw h,e.raw f],by
  rw [show (!(a.toList==b.toList))=decide (¬a.toList=b.toList) by rw [φi];simp];exact .d (.raw Z)⟩
theorem XW {a b:ByteArray} (h:s.ev x=some (.d (.raw (.string a)))) (f:s.ev y=some (.d (.raw (.string b)))) (i:Nat.blt d s.n=true):AA P F ⟨some d,.binOp .lss T x y T',ty,pos,aft,g⟩ s d (.d (.raw (.bool (Op.bytesLess a.toList b.toList)))):=
 Cz _ i λ_ j _ e=>⟨_,by simp [execOp,eqGuard,binOp,Op.stringOp,e.raw h,e.raw f],.d (.raw Z)⟩
theorem Je {p:Prop} [Decidable p] (e:s.ev x=some (.d (.raw (.bool (decide p))))) (h:Nat.blt d s.n=true):AA P F ⟨some d,.unOp .not T x,ty,pos,aft,g⟩ s d (.d (.raw (.bool (decide (¬p))))):=
 Cz _ h λ_ i _ f=>⟨.bool (!decide p),by simp [execOp,Op.unary,f.raw e],by rw [show (!decide p)=decide (¬p) by simp];exact .d (.raw Z)⟩
theorem E9 (e:s.ev x=some (.d (.raw (.bool false)))) (f:Nat.blt d s.n=true):AA P F ⟨some d,.unOp .not T x,ty,pos,aft,g⟩ s d (.d (.raw (.bool true))):=NQ e f
theorem bi (e:s.ev x=some (.d (.raw (.int k a)))) (f:k.wrap (0 - a)=v) (i:Nat.blt d s.n=true):AA P F ⟨some d,.unOp .neg T x,ty,pos,aft,g⟩ s d (.d (.raw (.int k v))):=
 Cz _ i λ_ j _ h=>⟨.int k (k.wrap (0 - a)),by simp [execOp,Op.unary,Op.intArith,h.raw e],by rw [f];exact .d (.raw Z)⟩
theorem DG {l:List AV} (n:s.ev x=some (.tup l)) (m:l[i]? =some A) (r:Nat.blt d s.n=true):AA P F ⟨some d,.extract x i,ty,pos,aft,g⟩ s d A:=
 Cz _ r λ_ f w p=>by
  have h:=p.ev n
  generalize o:f.eval x=u at h
  cases h with
  | @tup _ j q h=>
   have e:i<j.length:=by rw [q];exact (φ.1 m).1
   exact ⟨j[i],by simp [execOp,Instr.extract,o,e],h i A _ m (ω e)⟩
theorem Di {l:List D} {A:D} (n:s.ev x=some (.d (.tup l))) (m:l[i]? =some A) (r:Nat.blt d s.n=true):AA P F ⟨some d,.extract x i,ty,pos,aft,g⟩ s d (.d A):=
 Cz _ r λ_ f w p=>by
  have h:=p.repD n
  generalize o:f.eval x=u at h
  cases h with
  | @tup _ j q h=>
   have e:i<j.length:=by rw [q];exact (φ.1 m).1
   exact ⟨j[i],by simp [execOp,Instr.extract,o,e],.d (h i A _ m (ω e))⟩
end
variable {a:Nat ->Prop} {c:Value} {w:World}
theorem A1.sl_len {f:Option Bool} {g:List D} (h:A1 w a (.sl f g) c):∃d e,c= .slice d g.length e/\g.length<=e/\e<=maxLen/\∀b,f=some b ->d.isNone=b:=by
 cases h with
 | sl k j n i m l p q o=>subst i;exact ⟨_,_,Z,m,l,j⟩
theorem D.cells_one {x:D} (h:x.one=true):x.cells=[x]:=by cases x<;>first | rfl | cases h
def SI (P:Program) (T:TypeId):D ->Bool
 | .agg cs=>CB P T cs.length
 | .tup _=>false
 | _=>BW P T
theorem Ou {n:Nat} (f:Nat ->Value):∃l:List Value,l.length=n/\∀j,j<n ->l[j]? =some (f j):=⟨(List.range n).map f,by simp,λj a=>by simp [a]⟩
theorem IH {P:Program} {T:TypeId} {x:D} (f:SI P T x=true) (h:A1 w a (.ptr x) c):∃u,(Instr.loadAt T c).run P w= .ok u w/\A1 w a x u:=by
 cases h with
 | @ptr _ b o z G H E s y=>
  have one:∀t:x.one=true,BW P T=true ->∃u,(Instr.loadAt T (.pointer (some ⟨b,o,none⟩))).run P w= .ok u w/\A1 w a x u:=λt f=>by
   rw [D.cells_one t] at s y;have F:=s 0 x rfl;simp only [ψx] at F
   simp [*,Instr.loadAt,Instr.sureAddr,loadVar,ET]
  cases x with
  | agg q=>
   simp only [SI] at f;obtain ⟨⟨d,C,B⟩,A⟩:=Fh f;obtain ⟨l,r,g⟩:=Ou (n:=q.length) z;refine ⟨.agg l.toArray,run_loadAt_mid w b o T l d (λj c m=>?_) C B (by rw [r];exact A),.agg r E λi e c k m=>?_⟩
   .have p:j<q.length:=by rw [<-r];exact (φ.1 m).1
    rw [s j q[j] (ω p),<-g j p,m]
   .have p:i<q.length:=(φ.1 k).1;have:=g i p;rw [m] at this;injection this with this
    subst this;exact y i e k
  | tup _=>simp [SI] at f
  | raw _=>exact one Z f
  | sl _ _=>exact one Z f
  | ptr _=>exact one Z f
  | fn _ _ _=>exact one Z f
section
variable {P:Program} {F:Fr} {s:AS} {d:Nat} {ty T E:TypeId} {pos:String} {aft:Array Edge} {g:Option (Nat×Bool)} {x y:Operand} {k:IntKind} {i:Int}
variable {a:Option Bool} {c:List D} {e:Option Addr} {f n:Nat} {t:Array TypeId} {w:World} {h j:IntKind} {m:List D} {o:D}
theorem IQ (e:s.ev x=some (.d (.sl a c))) (h:c.length=n) (l:P.underlying T=some (.slice E)) (j:Nat.blt d s.n=true):
  AA P F ⟨some d,.call {callee:= .builtin .len,args:= #[x],argTypes:= #[T]},ty,pos,aft,g⟩ s d (.d (.raw (.int .i64 (n:Int)))):=
 Cz _ j λ_ p w f=>by
  obtain ⟨b,o,m,_⟩:=(f.repD e).sl_len;subst h;exact ⟨_,by simp [execOp,resolve,invoke,builtin,Builtin.len_,run_underlying l,m,goInt],.d (.raw Z)⟩
theorem BU {b:Type} {f:b ->D} {l:List b} (c:s.ev x=some (.d (.sl a (List.map f l)))) (h:P.underlying T=some (.slice E)) (e:Nat.blt d s.n=true):
  AA P F ⟨some d,.call {callee:= .builtin .len,args:= #[x],argTypes:= #[T]},ty,pos,aft,g⟩ s d (.d (.raw (.int .i64 (l.length:Int)))):=
 IQ c (χ _) h e
theorem Lc {f j:Nat} (b:s.ev x=some (.own f j n)) (m:P.underlying T=some (.slice E)) (l:Nat.blt d s.n=true):
  AA P F ⟨some d,.call {callee:= .builtin .len,args:= #[x],argTypes:= #[T]},ty,pos,aft,g⟩ s d (.d (.raw (.int .i64 (n:Int)))):=
 Cz _ l λ_ a w e=>by
  have h:=e.ev b
  generalize c:a.eval x=u at h
  cases h with
  | own p o=>exact ⟨_,by simp [execOp,resolve,invoke,builtin,Builtin.len_,run_underlying m,c,goInt],.d (.raw Z)⟩
theorem Lp {a b v:Int} (f:s.ev x=some (.d (.raw (.int k a)))) (e:s.ev y=some (.d (.raw (.int k b)))) (h:(if b<a then b else a)=v) (j:Nat.blt d s.n=true):
  AA P F ⟨some d,.call {callee:= .builtin .min,args:= #[x,y],argTypes:=t},ty,pos,aft,g⟩ s d (.d (.raw (.int k v))):=
 Cz _ j λ_ l w c=>⟨_,by simp [execOp,resolve,invoke,builtin,Builtin.min_,Builtin.min2,c.raw f,c.raw e,h,List.foldlM],.d (.raw Z)⟩
theorem R9 {a b v:Int} (f:s.ev x=some (.d (.raw (.int k a)))) (e:s.ev y=some (.d (.raw (.int k b)))) (h:(if b>a then b else a)=v) (j:Nat.blt d s.n=true):
  AA P F ⟨some d,.call {callee:= .builtin .max,args:= #[x,y],argTypes:=t},ty,pos,aft,g⟩ s d (.d (.raw (.int k v))):=
 Cz _ j λ_ l w c=>⟨_,by simp [execOp,resolve,invoke,builtin,Builtin.max_,Builtin.max2,c.raw f,c.raw e,h,List.foldlM],.d (.raw Z)⟩
theorem BC (j:Nat) (D:s.ev x=some (.d (.sl a c))) (C:s.ev y=some (.d (.raw (.int k i)))) (J:i=(j:Int)) (t:c[j]? =some o) (M:P.underlying T=some (.slice E)) {z:Nat} (q:o.cells.length=z) (N:A5 P E z=true) (K:Nat.blt d s.n=true):
  AA P F ⟨some d,.indexAddr T x y,ty,pos,aft,g⟩ s d (.d (.ptr o)):=
 Cz _ K λ_ v w B=>by
  have h:=B.repD D
  generalize G:v.eval x=u at h
  subst J q;have m:j<c.length:=(φ.1 t).1
  cases h with
  | @sl _ _ l n O A R Q p U S I L H=>
   obtain ⟨b,f,rfl⟩:=L (by intro h;subst h;simp at m);have r:o.cells.length=A:=I o (ξ t);subst p;refine ⟨.pointer (some ⟨b,f+j*A,none⟩),?_,.d (H b f Z j o t)⟩
   simp [execOp,Instr.indexAt,asIntOf,B.raw C,G,run_underlying M,m,ZcB (ae N),r,Addr.add_mid]
theorem CF (b:s.ev x=some (.d (.ptr o))) (a:o.one=true) (j:BW P T=true) (h:Nat.blt d s.n=true):
  AA P F ⟨some d,.load T x,ty,pos,aft,g⟩ s d (.d o):=
 Cz _ h λ_ m w c=>by
  have f:SI P T o=true:=by cases o<;>first | exact j | cases a
  obtain ⟨u,a,l⟩:=IH f (c.repD b);exact ⟨u,by simp [execOp,a],.d l⟩
theorem Ca {a:List D} (b:s.ev x=some (.d (.ptr (.agg a)))) (e:a.length=n) (h:CB P T n=true) (f:Nat.blt d s.n=true):
  AA P F ⟨some d,.load T x,ty,pos,aft,g⟩ s d (.d (.agg a)):=
 Cz _ f λ_ m w c=>by
  subst e;obtain ⟨u,l,j⟩:=IH (T:=T) (x:= .agg a) h (c.repD b);exact ⟨u,by simp [execOp,l],.d j⟩
theorem A1.part {O:Nat ->Prop} {p:Nat} (h:A1 w O (.sl a c) (.slice e n p)) {l q:Nat} (L:l<=q) (N:q<=c.length) (B:∀x∈c,x.cells.length=f):
  A1 w O (.sl a ((c.drop l).take (q - l))) (.slice (if p=l then e else e.map (·.add (l*f))) (q - l) (p - l)):=by
 cases h with
 | sl k K J u Q G z H D=>
  subst u;refine .sl f ?_ (λj=>?_) (by rw [ϱ,χd];omega) (by omega) (by unfold maxLen at G⊢;omega) (λx m=>B x (List.mem_of_mem_drop (ωs m))) (λr=>?_) (λb o A i x m=>?_)
  .grind
  .have:e=none:=by
    split at j
    all_goals (simp_all)
   grind
  .have R:c≠ []:=by intro j;subst j;simp at r
   grind [Addr.add_mid]
  .rw [χg] at m
   split at m
   .rename_i M
    rw [χh] at m;have t:l+i<c.length:=(φ.1 m).1;obtain ⟨I,C,rfl⟩:=H (by intro j;subst j;simp at t);have v:k=f:=by rw [<-z x (ξ m),B x (ξ m)]
    subst v;rw [η (by omega)] at A;simp only [ψl,Addr.add_mid,Option.some.injEq,Addr.mk.injEq] at A;obtain ⟨rfl,rfl,_⟩:=A;have:=D I C Z (l+i) x m;rw [φf,<-Nat.add_assoc] at this;exact this
   .cases m
theorem Ka {t b:TypeId} (h:P.underlying t=some (.slice b)) (m:(P.info? b).map (·.size)=some f) {c l:Nat} (o:l<=n):
  (Instr.sliceAt t (.slice e n c) (some (.int j l)) none none).run P w= .ok (.slice (if c=l then e else e.map (·.add (l*f))) (n - l) (c - l)) w:=by simp [*,Instr.sliceAt,Instr.slice,run_underlying,Instr.sliceBounds,Instr.sliceBound,asIntOf,ZcB]
theorem H7 {t j:TypeId} (l:P.underlying t=some (.slice j)) (m:(P.info? j).map (·.size)=some f) {c b:Nat} (o:b<=c):
  (Instr.sliceAt t (.slice e n c) none (some (.int h b)) none).run P w= .ok (.slice (if c=0 then e else e.map (·.add (0*f))) (b - 0) (c - 0)) w:=by simp [*,Instr.sliceAt,Instr.slice,run_underlying,Instr.sliceBounds,Instr.sliceBound,asIntOf,ZcB]
theorem Vr {q:Operand} {r:Int} (l:Nat) (v:s.ev x=some (.d (.sl a c))) (p:s.ev q=some (.d (.raw (.int j r))))
  (z:r=(l:Int)) (u:l<=c.length) (C:P.underlying T=some (.slice E)) (D:A5 P E f=true) (A:∀e∈c,e.cells.length=f) (n:c.drop l=m) (B:Nat.blt d s.n=true):
  AA P F ⟨some d,.slice T x (some q) none none,ty,pos,aft,g⟩ s d (.d (.sl a m)):=
 Cz _ B λ_ G w t=>by
  have o:=t.repD v;obtain ⟨b,h,e,H,_,_⟩:=o.sl_len;rw [e] at o;subst z n;refine ⟨.slice (if h=l then b else b.map (·.add (l*f))) (c.length - l) (h - l),by simp only [execOp,e,ψl,φa,t.raw p,Sem.run_bind,Ka C (ae D) u,Result.andThen_ok,Sem.run_pure],.d ?_⟩;have:=o.part u (Γ _) A
  rwa [θ (by rw [χd];exact Γ _)] at this
theorem Vs {t:Operand} {q:Int} (b:Nat) (v:s.ev x=some (.d (.sl a c))) (p:s.ev t=some (.d (.raw (.int h q))))
  (A:q=(b:Int)) (u:b<=c.length) (D:P.underlying T=some (.slice E)) (G:A5 P E f=true) (z:∀e∈c,e.cells.length=f) (n:c.take b=m) (B:Nat.blt d s.n=true):
  AA P F ⟨some d,.slice T x none (some t) none,ty,pos,aft,g⟩ s d (.d (.sl a m)):=
 Cz _ B λ_ H w r=>by
  have o:=r.repD v;obtain ⟨j,l,e,C,_,_⟩:=o.sl_len;rw [e] at o;subst A n;refine ⟨.slice (if l=0 then j else j.map (·.add (0*f))) (b - 0) (l - 0),by simp only [execOp,e,ψl,φa,r.raw p,Sem.run_bind,H7 D (ae G) (ωa u C),Result.andThen_ok,Sem.run_pure],.d ?_⟩;have:=o.part (ζ b) u z
  simpa using this
end
section
variable {P:Program} {F:Fr} {s:AS} {d:Nat} {ty T T' E:TypeId} {pos:String} {aft:Array Edge} {g:Option (Nat×Bool)} {x y:Operand}
theorem Uh {a:BinOp} {t:TypeId} {x y:Operand} {p q:Option Addr} {w:World}:(eqGuard a t x y (.pointer p) (.pointer q)).run P w= .ok () w:=by
 cases a<;>simp [eqGuard]
end
variable {a:List (Nat×List AN)} {c:List (Nat×AV)} {Q:Exit ->AS ->Prop} {d:List Oper} {e:Array Edge} {f:Array Oper} {g:String} {h:TypeId} {P:Program} {x:Operand} {i n:Nat} {j:AV} {F:Fr}
theorem goMv (b:AS.ev ⟨n,c,a⟩ x=some j) (k:Nat.blt i n=true) (l:Ao P F f d Q ⟨n,(i,j)::c,a⟩):Ao P F f (⟨some i,.move x,h,g,e,none⟩::d) Q ⟨n,c,a⟩:=J (Pv b k) l
theorem AB (b:AS.ev ⟨n,c,a⟩ x=some j) (k:Nat.blt i n=true) (l:Ao P F f d Q ⟨n,(i,j)::c,a⟩):Ao P F f (⟨some i,.assign x,h,g,e,none⟩::d) Q ⟨n,c,a⟩:=J (JK b k) l
end Go.Proofs.YteifpcnphnhaoaaGreat
