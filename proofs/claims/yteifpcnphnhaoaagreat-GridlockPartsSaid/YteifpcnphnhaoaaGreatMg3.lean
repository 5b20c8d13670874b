import Derived.Test.YteifpcnphnhaoaaGreatMg2
import Derived.IntWalk
import Derived.Laws.Pointers
import Derived.Laws.IdiomStrings
import Derived.WalkSpells
namespace Go.Proofs.YteifpcnphnhaoaaGreat
open Go.RowKit
variable {P:Program} {a:Nat ->Nat ->Value} {T:TypeId} {x:Operand} {c:Act} {w:World} {f:Nat} {F:Fr} {s:AS}
theorem SR.raw (h:SR F s a c w) {v:Value} (f:s.ev x=some (.d (.raw v))):c.eval x=v:=by
 have b:=h.ev f
 cases b with
 | d b=>
  generalize g:c.eval x=u at b
  cases b with
  | raw _=>rfl
theorem SR.repD (h:SR F s a c w) {d:D} (f:s.ev x=some (.d d)):AW w (F.O a s.hp) d (c.eval x):=by
 have b:=h.ev f
 generalize c.eval x=u at b
 cases b with
 | d b=>exact b
def BQ (P:Program) (T:TypeId):Bool:=match P.underlying T with
 | some (.struct _)=>false
 | some (.array _ _)=>false
 | none=>false
 | some _=>true
def Bu (P:Program) (T:TypeId) (n:Nat):Bool:=(match P.underlying T with
 | some (.struct _)=>true
 | some (.array _ _)=>true
 | _=>false) &&(match P.info? T with
 | some i=>Nat.beq i.size n
 | none=>false)
def A3 (P:Program) (T:TypeId) (n:Nat):Bool:=match P.info? T with
 | some i=>Nat.beq i.size n
 | none=>false
theorem Zq (h:A3 P T f=true):(P.info? T).map (·.size)=some f:=by grind [A3,gx]
theorem nE {P:Program} {T:TypeId} {n:Nat} (h:(P.info? T).map (·.size)=some n) (w:World):(sizeOf T).run P w= .ok n w:=by
 unfold sizeOf typeInfo
 cases hi:P.info? T with
 | none=>rw [hi] at h;cases h
 | some i=>rw [hi] at h;simp at h;simp [hi,h]
def n4 (P:Program) (t e size bytes:Nat):Bool:=(match P.underlying t with
 | some (.slice e')=>Nat.beq e' e
 | _=>false) &&(match P.info? e with
 | some i=>match i.zero with
  | some z=>Nat.beq i.size size && Nat.beq i.bytes bytes && Nat.beq z.cells.size size
  | none=>false
 | none=>false) && Nat.blt 0 size && Nat.blt 0 bytes
theorem NE {t e a bytes:Nat} (h:n4 P t e a bytes=true):fu P t e a bytes:=by
 simp only [n4,gW] at h;obtain ⟨⟨⟨g,f⟩,c⟩,b⟩:=h;refine ⟨?_,?_,IJ c,IJ b⟩
 all_goals (grind [gx])
theorem EQ (h:BQ P T=true) (w:World):(isAgg T).run P w= .ok false w:=by
 unfold BQ at h;unfold isAgg
 cases hu:P.underlying T with
 | none=>rw [hu] at h;cases h
 | some d=>
  rw [Sem.run_bind,run_underlying hu w]
  cases d<;>simp_all
theorem Fd (h:Bu P T f=true):(∃d,P.underlying T=some d/\d.isRow=true)/\(P.info? T).map (·.size)=some f:=by
 unfold Bu at h;simp only [gW] at h;refine ⟨?_,Zq h.2⟩
 grind
section
variable {P:Program} {F:Fr} {s:AS} {d:Nat} {ty T T':TypeId} {pos:String} {aft:Array Edge} {g:Option (Nat×Bool)} {x y c:Operand} {k k':IntKind} {a b v:Int}
variable {A:AV} {t:Bool} {i:Nat}
theorem P0 (h:s.ev x=some A) (j:Nat.blt d s.n=true):AA P F ⟨some d,.move x,ty,pos,aft,g⟩ s d A:=
 Cv A j λ_ f _ i=>⟨f.eval x,by simp [execOp],i.ev h⟩
theorem Iy (h:s.ev x=some A) (j:Nat.blt d s.n=true):AA P F ⟨some d,.assign x,ty,pos,aft,g⟩ s d A:=
 Cv A j λ_ f _ i=>⟨f.eval x,by simp [execOp],i.ev h⟩
theorem B5 (o:s.ev c=some (.d (.raw (.bool t)))) (j:t=true) (i:s.ev x=some A) (l:Nat.blt d s.n=true):AA P F ⟨some d,.pick c x y,ty,pos,aft,g⟩ s d A:=
 Cv _ l λ_ f _ h=>⟨f.eval x,by simp [execOp,h.raw o,asBool,j],h.ev i⟩
theorem Bk (o:s.ev c=some (.d (.raw (.bool t)))) (j:t=false) (i:s.ev y=some A) (l:Nat.blt d s.n=true):AA P F ⟨some d,.pick c x y,ty,pos,aft,g⟩ s d A:=
 Cv _ l λ_ f _ h=>⟨f.eval y,by simp [execOp,h.raw o,asBool,j],h.ev i⟩
theorem BB (i:s.ev x=some (.d (.raw (.int k a)))) (h:s.ev y=some (.d (.raw (.int k b)))) (j:Nat.blt d s.n=true):AA P F ⟨some d,.binOp .lss T x y T',ty,pos,aft,g⟩ s d (.d (.raw (.bool (decide (a<b))))):=
 Cv _ j λ_ l _ f=>⟨_,by simp [execOp,eqGuard,binOp,Op.intCmp,f.raw i,f.raw h],.d (.raw Z)⟩
theorem VQ (i:s.ev x=some (.d (.raw (.int k a)))) (h:s.ev y=some (.d (.raw (.int k b)))) (j:Nat.blt d s.n=true):AA P F ⟨some d,.binOp .leq T x y T',ty,pos,aft,g⟩ s d (.d (.raw (.bool (decide (a<=b))))):=
 Cv _ j λ_ l _ f=>⟨_,by simp [execOp,eqGuard,binOp,Op.intCmp,f.raw i,f.raw h],.d (.raw Z)⟩
theorem HF (i:s.ev x=some (.d (.raw (.int k a)))) (h:s.ev y=some (.d (.raw (.int k b)))) (j:Nat.blt d s.n=true):AA P F ⟨some d,.binOp .gtr T x y T',ty,pos,aft,g⟩ s d (.d (.raw (.bool (decide (b<a))))):=
 Cv _ j λ_ l _ f=>⟨_,by simp [execOp,eqGuard,binOp,Op.intCmp,f.raw i,f.raw h],.d (.raw Z)⟩
theorem EJ (i:s.ev x=some (.d (.raw (.int k a)))) (h:s.ev y=some (.d (.raw (.int k b)))) (j:Nat.blt d s.n=true):AA P F ⟨some d,.binOp .geq T x y T',ty,pos,aft,g⟩ s d (.d (.raw (.bool (decide (b<=a))))):=
 Cv _ j λ_ l _ f=>⟨_,by simp [execOp,eqGuard,binOp,Op.intCmp,f.raw i,f.raw h],.d (.raw Z)⟩
theorem GF (i:s.ev x=some (.d (.raw (.int k a)))) (h:s.ev y=some (.d (.raw (.int k b)))) (j:Nat.blt d s.n=true):AA P F ⟨some d,.binOp .eql T x y T',ty,pos,aft,g⟩ s d (.d (.raw (.bool (decide (a=b))))):=
 Cv _ j λ_ l _ f=>⟨.bool (a==b),by simp [execOp,eqGuard,binOp,Op.intCmp,f.raw i,f.raw h],.d (.raw Z)⟩
theorem Cw (i:s.ev x=some (.d (.raw (.int k a)))) (h:s.ev y=some (.d (.raw (.int k b)))) (j:Nat.blt d s.n=true):AA P F ⟨some d,.binOp .neq T x y T',ty,pos,aft,g⟩ s d (.d (.raw (.bool (decide (¬a=b))))):=
 Cv _ j λ_ l _ f=>⟨.bool (a !=b),by simp [execOp,eqGuard,binOp,Op.intCmp,f.raw i,f.raw h],by
  rw [show (a !=b)=decide (¬a=b) by simp [bne];rfl];exact .d (.raw Z)⟩
theorem Al (i:s.ev x=some (.d (.raw (.int k a)))) (h:s.ev y=some (.d (.raw (.int k b)))) (j:k.wrap (a+b)=v) (l:Nat.blt d s.n=true):AA P F ⟨some d,.binOp .add T x y T',ty,pos,aft,g⟩ s d (.d (.raw (.int k v))):=
 Cv _ l λ_ o _ f=>⟨_,by simp [execOp,eqGuard,binOp,Op.intArith,f.raw i,f.raw h,j],.d (.raw Z)⟩
theorem PS (i:s.ev x=some (.d (.raw (.int k a)))) (h:s.ev y=some (.d (.raw (.int k b)))) (j:k.wrap (a - b)=v) (l:Nat.blt d s.n=true):AA P F ⟨some d,.binOp .sub T x y T',ty,pos,aft,g⟩ s d (.d (.raw (.int k v))):=
 Cv _ l λ_ o _ f=>⟨_,by simp [execOp,eqGuard,binOp,Op.intArith,f.raw i,f.raw h,j],.d (.raw Z)⟩
theorem oj (i:s.ev x=some (.d (.raw (.int k a)))) (h:s.ev y=some (.d (.raw (.int k b)))) (j:k.wrap (a*b)=v) (l:Nat.blt d s.n=true):AA P F ⟨some d,.binOp .mul T x y T',ty,pos,aft,g⟩ s d (.d (.raw (.int k v))):=
 Cv _ l λ_ o _ f=>⟨_,by simp [execOp,eqGuard,binOp,Op.intArith,f.raw i,f.raw h,j],.d (.raw Z)⟩
theorem oi (i:s.ev x=some (.d (.raw (.int k a)))) (h:s.ev y=some (.d (.raw (.int k b)))) (o:¬b=0) (j:k.wrap (a.tdiv b)=v) (l:Nat.blt d s.n=true):AA P F ⟨some d,.binOp .quo T x y T',ty,pos,aft,g⟩ s d (.d (.raw (.int k v))):=
 Cv _ l λ_ r _ f=>⟨_,by simp [execOp,eqGuard,binOp,Op.intDiv,f.raw i,f.raw h,j,o],.d (.raw Z)⟩
theorem Mp (f:s.ev x=some (.d (.raw (.bool t)))) (i:Nat.blt d s.n=true):AA P F ⟨some d,.unOp .not T x,ty,pos,aft,g⟩ s d (.d (.raw (.bool (!t)))):=
 Cv _ i λ_ j _ h=>⟨_,by simp [execOp,Op.unary,h.raw f],.d (.raw Z)⟩
theorem kb {a b:ByteArray} (i:s.ev x=some (.d (.raw (.string a)))) (h:s.ev y=some (.d (.raw (.string b)))) (j:Nat.blt d s.n=true):AA P F ⟨some d,.binOp .eql T x y T',ty,pos,aft,g⟩ s d (.d (.raw (.bool (decide (a.toList=b.toList))))):=
 Cv _ j λ_ l _ f=>⟨.bool (a.toList==b.toList),by simp [execOp,eqGuard,binOp,Op.stringOp,f.raw i,f.raw h],by
  rw [show (a.toList==b.toList)=decide (a.toList=b.toList) by rw [ju];simp];exact .d (.raw Z)⟩
theorem ka {a b:ByteArray} (i:s.ev x=some (.d (.raw (.string a)))) (h:s.ev y=some (.d (.raw (.string b)))) (j:Nat.blt d s.n=true):AA P F ⟨some d,.binOp .neq T x y T',ty,pos,aft,g⟩ s d (.d (.raw (.bool (decide (¬a.toList=b.toList))))):=
 Cv _ j λ_ l _ f=>⟨.bool !(a.toList==b.toList),by simp [execOp,eqGuard,binOp,Op.stringOp,f.raw i,f.raw h],by
  rw [show (!(a.toList==b.toList))=decide (¬a.toList=b.toList) by rw [ju];simp];exact .d (.raw Z)⟩
theorem Wh {a b:ByteArray} (i:s.ev x=some (.d (.raw (.string a)))) (h:s.ev y=some (.d (.raw (.string b)))) (j:Nat.blt d s.n=true):AA P F ⟨some d,.binOp .lss T x y T',ty,pos,aft,g⟩ s d (.d (.raw (.bool (Op.bytesLess a.toList b.toList)))):=
 Cv _ j λ_ l _ f=>⟨_,by simp [execOp,eqGuard,binOp,Op.stringOp,f.raw i,f.raw h],.d (.raw Z)⟩
theorem Jw {p:Prop} [Decidable p] (f:s.ev x=some (.d (.raw (.bool (decide p))))) (i:Nat.blt d s.n=true):AA P F ⟨some d,.unOp .not T x,ty,pos,aft,g⟩ s d (.d (.raw (.bool (decide (¬p))))):=
 Cv _ i λ_ j _ h=>⟨.bool (!decide p),by simp [execOp,Op.unary,h.raw f],by rw [show (!decide p)=decide (¬p) by simp];exact .d (.raw Z)⟩
theorem E4 (f:s.ev x=some (.d (.raw (.bool false)))) (h:Nat.blt d s.n=true):AA P F ⟨some d,.unOp .not T x,ty,pos,aft,g⟩ s d (.d (.raw (.bool true))):=Mp f h
theorem au (f:s.ev x=some (.d (.raw (.int k a)))) (h:k.wrap (0 - a)=v) (j:Nat.blt d s.n=true):AA P F ⟨some d,.unOp .neg T x,ty,pos,aft,g⟩ s d (.d (.raw (.int k v))):=
 Cv _ j λ_ l _ i=>⟨.int k (k.wrap (0 - a)),by simp [execOp,Op.unary,Op.intArith,i.raw f],by rw [h];exact .d (.raw Z)⟩
theorem DC {l:List AV} (t:s.ev x=some (.tup l)) (r:l[i]? =some A) (D:Nat.blt d s.n=true):AA P F ⟨some d,.extract x i,ty,pos,aft,g⟩ s d A:=
 Cv _ D λ_ j w B=>by
  have h:=B.ev t
  generalize z:j.eval x=u at h
  cases h with
  | @tup _ o C h=>
   have f:i<o.length:=by rw [C];exact (φ.1 r).1
   exact ⟨o[i],by simp [execOp,Instr.extract,z,f],h i A _ r (ω f)⟩
theorem Dc {l:List D} {A:D} (t:s.ev x=some (.d (.tup l))) (r:l[i]? =some A) (E:Nat.blt d s.n=true):AA P F ⟨some d,.extract x i,ty,pos,aft,g⟩ s d (.d A):=
 Cv _ E λ_ j w B=>by
  have h:=B.repD t
  generalize z:j.eval x=u at h
  cases h with
  | @tup _ o C h=>
   have f:i<o.length:=by rw [C];exact (φ.1 r).1
   exact ⟨o[i],by simp [execOp,Instr.extract,z,f],.d (h i A _ r (ω f))⟩
end
variable {a:Nat ->Prop} {c:Value} {w:World}
theorem AW.sl_len {i:Option Bool} {j:List D} (h:AW w a (.sl i j) c):∃f g,c= .slice f j.length g/\j.length<=g/\g<=maxLen/\∀b,i=some b ->f.isNone=b:=by
 cases h with
 | sl k o t l s r x y u=>subst l;exact ⟨_,_,Z,s,r,o⟩
theorem D.cells_one {x:D} (h:x.one=true):x.cells=[x]:=by cases x<;>first | rfl | cases h
def Rf (P:Program) (T:TypeId):D ->Bool
 | .agg cs=>Bu P T cs.length
 | .tup _=>false
 | _=>BQ P T
theorem OX {n:Nat} (f:Nat ->Value):∃l:List Value,l.length=n/\∀j,j<n ->l[j]? =some (f j):=⟨(List.range n).map f,by simp,λj a=>by simp [a]⟩
theorem Hy {P:Program} {T:TypeId} {x:D} (g:Rf P T x=true) (h:AW w a (.ptr x) c):∃u,(Instr.loadAt T c).run P w= .ok u w/\AW w a x u:=by
 cases h with
 | @ptr _ b o E K L I A C=>
  have one:∀B:x.one=true,BQ P T=true ->∃u,(Instr.loadAt T (.pointer (some ⟨b,o,none⟩))).run P w= .ok u w/\AW w a x u:=λB g=>by
   rw [D.cells_one B] at A C;have J:=A 0 x rfl;simp only [iT] at J
   simp [*,Instr.loadAt,Instr.sureAddr,loadVar,EQ]
  cases x with
  | agg y=>
   simp only [Rf] at g;obtain ⟨⟨d,H,G⟩,F⟩:=Fd g;obtain ⟨l,z,k⟩:=OX (n:=y.length) E;refine ⟨.agg l.toArray,run_loadAt_mid w b o T l d (λj c s=>?_) H G (by rw [z];exact F),.agg z I λi f c r s=>?_⟩
   .have t:j<y.length:=by rw [<-z];exact (φ.1 s).1
    rw [A j y[j] (ω t),<-k j t,s]
   .have t:i<y.length:=(φ.1 r).1;have:=k i t;rw [s] at this;injection this with this
    subst this;exact C i f r
  | tup _=>simp [Rf] at g
  | raw _=>exact one Z g
  | sl _ _=>exact one Z g
  | ptr _=>exact one Z g
  | fn _ _ _=>exact one Z g
section
variable {P:Program} {F:Fr} {s:AS} {d:Nat} {ty T E:TypeId} {pos:String} {aft:Array Edge} {g:Option (Nat×Bool)} {x y:Operand} {k:IntKind} {i:Int}
variable {a:Option Bool} {c:List D} {f:Option Addr} {h j:Nat} {t:Array TypeId} {w:World} {o u:IntKind} {z:List D} {A:D}
theorem JZ (f:s.ev x=some (.d (.sl a c))) (l:c.length=j) (r:P.underlying T=some (.slice E)) (o:Nat.blt d s.n=true):
  AA P F ⟨some d,.call {callee:= .builtin .len,args:= #[x],argTypes:= #[T]},ty,pos,aft,g⟩ s d (.d (.raw (.int .i64 (j:Int)))):=
 Cv _ o λ_ v w h=>by
  obtain ⟨b,u,t,_⟩:=(h.repD f).sl_len;subst l;exact ⟨_,by simp [execOp,resolve,invoke,builtin,Builtin.len_,run_underlying r,t,goInt],.d (.raw Z)⟩
theorem Ba {b:Type} {f:b ->D} {l:List b} (c:s.ev x=some (.d (.sl a (List.map f l)))) (j:P.underlying T=some (.slice E)) (h:Nat.blt d s.n=true):
  AA P F ⟨some d,.call {callee:= .builtin .len,args:= #[x],argTypes:= #[T]},ty,pos,aft,g⟩ s d (.d (.raw (.int .i64 (l.length:Int)))):=
 JZ c (χ _) j h
theorem Qp {f a:Nat} (c:s.ev x=some (.own f a j)) (t:P.underlying T=some (.slice E)) (r:Nat.blt d s.n=true):
  AA P F ⟨some d,.call {callee:= .builtin .len,args:= #[x],argTypes:= #[T]},ty,pos,aft,g⟩ s d (.d (.raw (.int .i64 (j:Int)))):=
 Cv _ r λ_ b w o=>by
  have h:=o.ev c
  generalize l:b.eval x=u at h
  cases h with
  | own z v=>exact ⟨_,by simp [execOp,resolve,invoke,builtin,Builtin.len_,run_underlying t,l,goInt],.d (.raw Z)⟩
theorem RC {a b v:Int} (h:s.ev x=some (.d (.raw (.int k a)))) (f:s.ev y=some (.d (.raw (.int k b)))) (j:(if b<a then b else a)=v) (l:Nat.blt d s.n=true):
  AA P F ⟨some d,.call {callee:= .builtin .min,args:= #[x,y],argTypes:=t},ty,pos,aft,g⟩ s d (.d (.raw (.int k v))):=
 Cv _ l λ_ o w c=>⟨_,by simp [execOp,resolve,invoke,builtin,Builtin.min_,Builtin.min2,c.raw h,c.raw f,j,List.foldlM],.d (.raw Z)⟩
theorem RD {a b v:Int} (h:s.ev x=some (.d (.raw (.int k a)))) (f:s.ev y=some (.d (.raw (.int k b)))) (j:(if b>a then b else a)=v) (l:Nat.blt d s.n=true):
  AA P F ⟨some d,.call {callee:= .builtin .max,args:= #[x,y],argTypes:=t},ty,pos,aft,g⟩ s d (.d (.raw (.int k v))):=
 Cv _ l λ_ o w c=>⟨_,by simp [execOp,resolve,invoke,builtin,Builtin.max_,Builtin.max2,c.raw h,c.raw f,j,List.foldlM],.d (.raw Z)⟩
theorem BJ (j:Nat) (I:s.ev x=some (.d (.sl a c))) (H:s.ev y=some (.d (.raw (.int k i)))) (M:i=(j:Int)) (z:c[j]? =some A) (Q:P.underlying T=some (.slice E)) {C:Nat} (t:A.cells.length=C) (R:A3 P E C=true) (N:Nat.blt d s.n=true):
  AA P F ⟨some d,.indexAddr T x y,ty,pos,aft,g⟩ s d (.d (.ptr A)):=
 Cv _ N λ_ B w G=>by
  have h:=G.repD I
  generalize J:B.eval x=u at h
  subst M t;have l:j<c.length:=(φ.1 z).1
  cases h with
  | @sl _ _ f n S D V U r X W L O K=>
   obtain ⟨b,o,rfl⟩:=O (by intro h;subst h;simp at l);have v:A.cells.length=D:=L A (ϑ z);subst r;refine ⟨.pointer (some ⟨b,o+j*D,none⟩),?_,.d (K b o Z j A z)⟩
   simp [execOp,Instr.indexAt,asIntOf,G.raw H,J,run_underlying Q,l,nE (Zq R),v,Addr.add_mid]
theorem CI (b:s.ev x=some (.d (.ptr A))) (a:A.one=true) (j:BQ P T=true) (h:Nat.blt d s.n=true):
  AA P F ⟨some d,.load T x,ty,pos,aft,g⟩ s d (.d A):=
 Cv _ h λ_ o w c=>by
  have f:Rf P T A=true:=by cases A<;>first | exact j | cases a
  obtain ⟨u,a,l⟩:=Hy f (c.repD b);exact ⟨u,by simp [execOp,a],.d l⟩
theorem DM {a:List D} (b:s.ev x=some (.d (.ptr (.agg a)))) (f:a.length=j) (l:Bu P T j=true) (h:Nat.blt d s.n=true):
  AA P F ⟨some d,.load T x,ty,pos,aft,g⟩ s d (.d (.agg a)):=
 Cv _ h λ_ t w c=>by
  subst f;obtain ⟨u,r,o⟩:=Hy (T:=T) (x:= .agg a) l (c.repD b);exact ⟨u,by simp [execOp,r],.d o⟩
theorem AW.part {O:Nat ->Prop} {u:Nat} (r:AW w O (.sl a c) (.slice f j u)) {l v:Nat} (R:l<=v) (U:v<=c.length) (H:∀x∈c,x.cells.length=h):
  AW w O (.sl a ((c.drop l).take (v - l))) (.slice (if u=l then f else f.map (·.add (l*h))) (v - l) (u - l)):=by
 cases r with
 | sl k Q N B V K D L J=>
  subst B;refine .sl h ?_ (λe=>?_) (by rw [ϖ,jE];omega) (by omega) (by unfold maxLen at K⊢;omega) (λx t=>H x (List.mem_of_mem_drop (iQ t))) (λz=>?_) (λb o G i x t=>?_)
  .grind
  .have:f=none:=by
    split at e
    all_goals (simp_all)
   grind
  .have W:c≠ []:=by intro e;subst e;simp at z
   grind [Addr.add_mid]
  .rw [j7] at t
   split at t
   .rename_i S
    rw [j1] at t;have A:l+i<c.length:=(φ.1 t).1;obtain ⟨M,I,rfl⟩:=L (by intro e;subst e;simp at A);have C:k=h:=by rw [<-D x (ϑ t),H x (ϑ t)]
    subst C;rw [θ (by omega)] at G;simp only [iY,Addr.add_mid,Option.some.injEq,Addr.mk.injEq] at G;obtain ⟨rfl,rfl,_⟩:=G;have:=J M I Z (l+i) x t;rw [jT,<-Nat.add_assoc] at this;exact this
   .cases t
theorem KI {t e:TypeId} (b:P.underlying t=some (.slice e)) (r:(P.info? e).map (·.size)=some h) {c l:Nat} (u:l<=j):
  (Instr.sliceAt t (.slice f j c) (some (.int o l)) none none).run P w= .ok (.slice (if c=l then f else f.map (·.add (l*h))) (j - l) (c - l)) w:=by simp [*,Instr.sliceAt,Instr.slice,run_underlying,Instr.sliceBounds,Instr.sliceBound,asIntOf,nE]
theorem HX {t e:TypeId} (l:P.underlying t=some (.slice e)) (o:(P.info? e).map (·.size)=some h) {c b:Nat} (r:b<=c):
  (Instr.sliceAt t (.slice f j c) none (some (.int u b)) none).run P w= .ok (.slice (if c=0 then f else f.map (·.add (0*h))) (b - 0) (c - 0)) w:=by simp [*,Instr.sliceAt,Instr.slice,run_underlying,Instr.sliceBounds,Instr.sliceBound,asIntOf,nE]
theorem VN {u:Operand} {v:Int} (l:Nat) (C:s.ev x=some (.d (.sl a c))) (t:s.ev u=some (.d (.raw (.int o v))))
  (D:v=(l:Int)) (B:l<=c.length) (I:P.underlying T=some (.slice E)) (J:A3 P E h=true) (G:∀e∈c,e.cells.length=h) (j:c.drop l=z) (H:Nat.blt d s.n=true):
  AA P F ⟨some d,.slice T x (some u) none none,ty,pos,aft,g⟩ s d (.d (.sl a z)):=
 Cv _ H λ_ K w A=>by
  have r:=A.repD C;obtain ⟨b,f,e,L,_,_⟩:=r.sl_len;rw [e] at r;subst D j;refine ⟨.slice (if f=l then b else b.map (·.add (l*h))) (c.length - l) (f - l),by simp only [execOp,e,iY,jg,A.raw t,Sem.run_bind,KI I (Zq J) B,Result.andThen_ok,Sem.run_pure],.d ?_⟩;have:=r.part B (Γ _) G
  rwa [κ (by rw [jE];exact Γ _)] at this
theorem VO {A:Operand} {t:Int} (b:Nat) (C:s.ev x=some (.d (.sl a c))) (r:s.ev A=some (.d (.raw (.int u t))))
  (G:t=(b:Int)) (B:b<=c.length) (J:P.underlying T=some (.slice E)) (K:A3 P E h=true) (D:∀e∈c,e.cells.length=h) (l:c.take b=z) (H:Nat.blt d s.n=true):
  AA P F ⟨some d,.slice T x none (some A) none,ty,pos,aft,g⟩ s d (.d (.sl a z)):=
 Cv _ H λ_ L w v=>by
  have o:=v.repD C;obtain ⟨f,j,e,I,_,_⟩:=o.sl_len;rw [e] at o;subst G l;refine ⟨.slice (if j=0 then f else f.map (·.add (0*h))) (b - 0) (j - 0),by simp only [execOp,e,iY,jg,v.raw r,Sem.run_bind,HX J (Zq K) (gJ B I),Result.andThen_ok,Sem.run_pure],.d ?_⟩;have:=o.part (ζ b) B D
  simpa using this
end
section
variable {P:Program} {F:Fr} {s:AS} {d:Nat} {ty T T' E:TypeId} {pos:String} {aft:Array Edge} {g:Option (Nat×Bool)} {x y:Operand}
theorem UD {a:BinOp} {t:TypeId} {x y:Operand} {p q:Option Addr} {w:World}:(eqGuard a t x y (.pointer p) (.pointer q)).run P w= .ok () w:=by
 cases a<;>simp [eqGuard]
end
variable {a:List (Nat×List AJ)} {Q:Exit ->AS ->Prop} {c:List (Nat×AV)} {f:Array Edge} {g:Array Oper} {h:List Oper} {i:String} {P:Program} {j:TypeId} {x:Operand} {k o:Nat} {s:AV} {F:Fr}
theorem fZ (b:AS.ev ⟨o,c,a⟩ x=some s) (l:Nat.blt k o=true) (r:Aj P F g h Q ⟨o,(k,s)::c,a⟩):Aj P F g (⟨some k,.move x,j,i,f,none⟩::h) Q ⟨o,c,a⟩:=J (P0 b l) r
theorem AB (b:AS.ev ⟨o,c,a⟩ x=some s) (l:Nat.blt k o=true) (r:Aj P F g h Q ⟨o,(k,s)::c,a⟩):Aj P F g (⟨some k,.assign x,j,i,f,none⟩::h) Q ⟨o,c,a⟩:=J (Iy b l) r
end Go.Proofs.YteifpcnphnhaoaaGreat
