import Derived.Test.YteifpcnphnhaoaaGreatMg2
import Derived.IntWalk
import Derived.Laws.Pointers
import Derived.Laws.IdiomStrings
import Derived.WalkSpells
namespace Go.Proofs.YteifpcnphnhaoaaGreat
open Go.RowKit
variable {P:Program} {a:Nat ->Nat ->Value} {T:TypeId} {x:Operand} {c:Act} {w:World} {f:Nat} {F:Fr} {s:AS}
theorem SR.raw (h:SR F s a c w) {v:Value} (f:s.ev x=some (.d (.raw v))):c.eval x=v:=by
 have b:=h.ev f
 cases b with
 | d b=>
  generalize g:c.eval x=u at b
  cases b with
  | raw _=>rfl
theorem SR.repD (h:SR F s a c w) {d:D} (f:s.ev x=some (.d d)):AN w (F.O a s.hp) d (c.eval x):=by
 have b:=h.ev f
 generalize c.eval x=u at b
 cases b with
 | d b=>exact b
def Ay (P:Program) (T:TypeId):Bool:=match P.underlying T with
 | some (.struct _)=>false
 | some (.array _ _)=>false
 | none=>false
 | some _=>true
def Bm (P:Program) (T:TypeId) (n:Nat):Bool:=(match P.underlying T with
 | some (.struct _)=>true
 | some (.array _ _)=>true
 | _=>false) &&(match P.info? T with
 | some i=>Nat.beq i.size n
 | none=>false)
def AW (P:Program) (T:TypeId) (n:Nat):Bool:=match P.info? T with
 | some i=>Nat.beq i.size n
 | none=>false
theorem ZW (h:AW P T f=true):(P.info? T).map (·.size)=some f:=by grind [AW,fx]
theorem mN {P:Program} {T:TypeId} {n:Nat} (h:(P.info? T).map (·.size)=some n) (w:World):(sizeOf T).run P w= .ok n w:=by
 unfold sizeOf typeInfo
 cases hi:P.info? T with
 | none=>rw [hi] at h;cases h
 | some i=>rw [hi] at h;simp at h;simp [hi,h]
def mm (P:Program) (t e size bytes:Nat):Bool:=(match P.underlying t with
 | some (.slice e')=>Nat.beq e' e
 | _=>false) &&(match P.info? e with
 | some i=>match i.zero with
  | some z=>Nat.beq i.size size && Nat.beq i.bytes bytes && Nat.beq z.cells.size size
  | none=>false
 | none=>false) && Nat.blt 0 size && Nat.blt 0 bytes
theorem O5 {t e a bytes:Nat} (h:mm P t e a bytes=true):fB P t e a bytes:=by
 simp only [mm,fV] at h;obtain ⟨⟨⟨g,f⟩,c⟩,b⟩:=h;refine ⟨?_,?_,IB c,IB b⟩
 all_goals (grind [fx])
theorem Di (h:Ay P T=true) (w:World):(isAgg T).run P w= .ok false w:=by
 unfold Ay at h;unfold isAgg
 cases hu:P.underlying T with
 | none=>rw [hu] at h;cases h
 | some d=>
  rw [Sem.run_bind,run_underlying hu w]
  cases d<;>simp_all
theorem Ez (h:Bm P T f=true):(∃d,P.underlying T=some d/\d.isRow=true)/\(P.info? T).map (·.size)=some f:=by
 unfold Bm at h;simp only [fV] at h;refine ⟨?_,ZW h.2⟩
 grind
section
variable {P:Program} {F:Fr} {s:AS} {d:Nat} {ty T T':TypeId} {pos:String} {aft:Array Edge} {g:Option (Nat×Bool)} {x y c:Operand} {k k':IntKind} {a b v:Int}
variable {A:AV} {t:Bool} {i:Nat}
theorem JT (h:s.ev x=some A) (j:Nat.blt d s.n=true):AA P F ⟨some d,.move x,ty,pos,aft,g⟩ s d A:=
 Cd A j λ_ f _ i=>⟨f.eval x,by simp [execOp],i.ev h⟩
theorem GA (h:s.ev x=some A) (j:Nat.blt d s.n=true):AA P F ⟨some d,.assign x,ty,pos,aft,g⟩ s d A:=
 Cd A j λ_ f _ i=>⟨f.eval x,by simp [execOp],i.ev h⟩
theorem Ff (o:s.ev c=some (.d (.raw (.bool t)))) (j:t=true) (i:s.ev x=some A) (l:Nat.blt d s.n=true):AA P F ⟨some d,.pick c x y,ty,pos,aft,g⟩ s d A:=
 Cd _ l λ_ f _ h=>⟨f.eval x,by simp [execOp,h.raw o,asBool,j],h.ev i⟩
theorem EA (o:s.ev c=some (.d (.raw (.bool t)))) (j:t=false) (i:s.ev y=some A) (l:Nat.blt d s.n=true):AA P F ⟨some d,.pick c x y,ty,pos,aft,g⟩ s d A:=
 Cd _ l λ_ f _ h=>⟨f.eval y,by simp [execOp,h.raw o,asBool,j],h.ev i⟩
theorem BN (i:s.ev x=some (.d (.raw (.int k a)))) (h:s.ev y=some (.d (.raw (.int k b)))) (j:Nat.blt d s.n=true):AA P F ⟨some d,.binOp .lss T x y T',ty,pos,aft,g⟩ s d (.d (.raw (.bool (decide (a<b))))):=
 Cd _ j λ_ l _ f=>⟨_,by simp [execOp,eqGuard,binOp,Op.intCmp,f.raw i,f.raw h],.d (.raw Z)⟩
theorem aD (i:s.ev x=some (.d (.raw (.int k a)))) (h:s.ev y=some (.d (.raw (.int k b)))) (j:Nat.blt d s.n=true):AA P F ⟨some d,.binOp .leq T x y T',ty,pos,aft,g⟩ s d (.d (.raw (.bool (decide (a<=b))))):=
 Cd _ j λ_ l _ f=>⟨_,by simp [execOp,eqGuard,binOp,Op.intCmp,f.raw i,f.raw h],.d (.raw Z)⟩
theorem Ot (i:s.ev x=some (.d (.raw (.int k a)))) (h:s.ev y=some (.d (.raw (.int k b)))) (j:Nat.blt d s.n=true):AA P F ⟨some d,.binOp .gtr T x y T',ty,pos,aft,g⟩ s d (.d (.raw (.bool (decide (b<a))))):=
 Cd _ j λ_ l _ f=>⟨_,by simp [execOp,eqGuard,binOp,Op.intCmp,f.raw i,f.raw h],.d (.raw Z)⟩
theorem ES (i:s.ev x=some (.d (.raw (.int k a)))) (h:s.ev y=some (.d (.raw (.int k b)))) (j:Nat.blt d s.n=true):AA P F ⟨some d,.binOp .geq T x y T',ty,pos,aft,g⟩ s d (.d (.raw (.bool (decide (b<=a))))):=
 Cd _ j λ_ l _ f=>⟨_,by simp [execOp,eqGuard,binOp,Op.intCmp,f.raw i,f.raw h],.d (.raw Z)⟩
theorem Li (i:s.ev x=some (.d (.raw (.int k a)))) (h:s.ev y=some (.d (.raw (.int k b)))) (j:Nat.blt d s.n=true):AA P F ⟨some d,.binOp .eql T x y T',ty,pos,aft,g⟩ s d (.d (.raw (.bool (decide (a=b))))):=
 Cd _ j λ_ l _ f=>⟨.bool (a==b),by simp [execOp,eqGuard,binOp,Op.intCmp,f.raw i,f.raw h],.d (.raw Z)⟩
theorem D7 (i:s.ev x=some (.d (.raw (.int k a)))) (h:s.ev y=some (.d (.raw (.int k b)))) (j:Nat.blt d s.n=true):AA P F ⟨some d,.binOp .neq T x y T',ty,pos,aft,g⟩ s d (.d (.raw (.bool (decide (¬a=b))))):=
 Cd _ j λ_ l _ f=>⟨.bool (a !=b),by simp [execOp,eqGuard,binOp,Op.intCmp,f.raw i,f.raw h],by
  rw [show (a !=b)=decide (¬a=b) by simp [bne];rfl];exact .d (.raw Z)⟩
theorem Ar (i:s.ev x=some (.d (.raw (.int k a)))) (h:s.ev y=some (.d (.raw (.int k b)))) (j:k.wrap (a+b)=v) (l:Nat.blt d s.n=true):AA P F ⟨some d,.binOp .add T x y T',ty,pos,aft,g⟩ s d (.d (.raw (.int k v))):=
 Cd _ l λ_ o _ f=>⟨_,by simp [execOp,eqGuard,binOp,Op.intArith,f.raw i,f.raw h,j],.d (.raw Z)⟩
theorem RY (i:s.ev x=some (.d (.raw (.int k a)))) (h:s.ev y=some (.d (.raw (.int k b)))) (j:k.wrap (a - b)=v) (l:Nat.blt d s.n=true):AA P F ⟨some d,.binOp .sub T x y T',ty,pos,aft,g⟩ s d (.d (.raw (.int k v))):=
 Cd _ l λ_ o _ f=>⟨_,by simp [execOp,eqGuard,binOp,Op.intArith,f.raw i,f.raw h,j],.d (.raw Z)⟩
theorem nv (i:s.ev x=some (.d (.raw (.int k a)))) (h:s.ev y=some (.d (.raw (.int k b)))) (j:k.wrap (a*b)=v) (l:Nat.blt d s.n=true):AA P F ⟨some d,.binOp .mul T x y T',ty,pos,aft,g⟩ s d (.d (.raw (.int k v))):=
 Cd _ l λ_ o _ f=>⟨_,by simp [execOp,eqGuard,binOp,Op.intArith,f.raw i,f.raw h,j],.d (.raw Z)⟩
theorem nu (i:s.ev x=some (.d (.raw (.int k a)))) (h:s.ev y=some (.d (.raw (.int k b)))) (o:¬b=0) (j:k.wrap (a.tdiv b)=v) (l:Nat.blt d s.n=true):AA P F ⟨some d,.binOp .quo T x y T',ty,pos,aft,g⟩ s d (.d (.raw (.int k v))):=
 Cd _ l λ_ r _ f=>⟨_,by simp [execOp,eqGuard,binOp,Op.intDiv,f.raw i,f.raw h,j,o],.d (.raw Z)⟩
theorem OZ (f:s.ev x=some (.d (.raw (.bool t)))) (i:Nat.blt d s.n=true):AA P F ⟨some d,.unOp .not T x,ty,pos,aft,g⟩ s d (.d (.raw (.bool (!t)))):=
 Cd _ i λ_ j _ h=>⟨_,by simp [execOp,Op.unary,h.raw f],.d (.raw Z)⟩
theorem jj {a b:ByteArray} (i:s.ev x=some (.d (.raw (.string a)))) (h:s.ev y=some (.d (.raw (.string b)))) (j:Nat.blt d s.n=true):AA P F ⟨some d,.binOp .eql T x y T',ty,pos,aft,g⟩ s d (.d (.raw (.bool (decide (a.toList=b.toList))))):=
 Cd _ j λ_ l _ f=>⟨.bool (a.toList==b.toList),by simp [execOp,eqGuard,binOp,Op.stringOp,f.raw i,f.raw h],by
  rw [show (a.toList==b.toList)=decide (a.toList=b.toList) by rw [Bool.eq_iff_iff];simp];exact .d (.raw Z)⟩
theorem jg {a b:ByteArray} (i:s.ev x=some (.d (.raw (.string a)))) (h:s.ev y=some (.d (.raw (.string b)))) (j:Nat.blt d s.n=true):AA P F ⟨some d,.binOp .neq T x y T',ty,pos,aft,g⟩ s d (.d (.raw (.bool (decide (¬a.toList=b.toList))))):=
 Cd _ j λ_ l _ f=>⟨.bool !(a.toList==b.toList),by simp [execOp,eqGuard,binOp,Op.stringOp,f.raw i,f.raw h],by
  rw [show (!(a.toList==b.toList))=decide (¬a.toList=b.toList) by rw [Bool.eq_iff_iff];simp];exact .d (.raw Z)⟩
theorem jh {a b:ByteArray} (i:s.ev x=some (.d (.raw (.string a)))) (h:s.ev y=some (.d (.raw (.string b)))) (j:Nat.blt d s.n=true):AA P F ⟨some d,.binOp .lss T x y T',ty,pos,aft,g⟩ s d (.d (.raw (.bool (Op.bytesLess a.toList b.toList)))):=
 Cd _ j λ_ l _ f=>⟨_,by simp [execOp,eqGuard,binOp,Op.stringOp,f.raw i,f.raw h],.d (.raw Z)⟩
theorem OX {p:Prop} [Decidable p] (f:s.ev x=some (.d (.raw (.bool (decide p))))) (i:Nat.blt d s.n=true):AA P F ⟨some d,.unOp .not T x,ty,pos,aft,g⟩ s d (.d (.raw (.bool (decide (¬p))))):=
 Cd _ i λ_ j _ h=>⟨.bool (!decide p),by simp [execOp,Op.unary,h.raw f],by rw [show (!decide p)=decide (¬p) by simp];exact .d (.raw Z)⟩
theorem Dv (f:s.ev x=some (.d (.raw (.bool false)))) (h:Nat.blt d s.n=true):AA P F ⟨some d,.unOp .not T x,ty,pos,aft,g⟩ s d (.d (.raw (.bool true))):=OZ f h
theorem aB (f:s.ev x=some (.d (.raw (.int k a)))) (h:k.wrap (0 - a)=v) (j:Nat.blt d s.n=true):AA P F ⟨some d,.unOp .neg T x,ty,pos,aft,g⟩ s d (.d (.raw (.int k v))):=
 Cd _ j λ_ l _ i=>⟨.int k (k.wrap (0 - a)),by simp [execOp,Op.unary,Op.intArith,i.raw f],by rw [h];exact .d (.raw Z)⟩
theorem Cf {l:List AV} (t:s.ev x=some (.tup l)) (r:l[i]? =some A) (D:Nat.blt d s.n=true):AA P F ⟨some d,.extract x i,ty,pos,aft,g⟩ s d A:=
 Cd _ D λ_ j w B=>by
  have h:=B.ev t
  generalize z:j.eval x=u at h
  cases h with
  | @tup _ o C h=>
   have f:i<o.length:=by rw [C];exact (φ.1 r).1
   exact ⟨o[i],by simp [execOp,Instr.extract,z,f],h i A _ r (ω f)⟩
theorem C6 {l:List D} {A:D} (t:s.ev x=some (.d (.tup l))) (r:l[i]? =some A) (E:Nat.blt d s.n=true):AA P F ⟨some d,.extract x i,ty,pos,aft,g⟩ s d (.d A):=
 Cd _ E λ_ j w B=>by
  have h:=B.repD t
  generalize z:j.eval x=u at h
  cases h with
  | @tup _ o C h=>
   have f:i<o.length:=by rw [C];exact (φ.1 r).1
   exact ⟨o[i],by simp [execOp,Instr.extract,z,f],.d (h i A _ r (ω f))⟩
end
variable {a:Nat ->Prop} {c:Value} {w:World}
theorem AN.sl_len {i:Option Bool} {j:List D} (h:AN w a (.sl i j) c):∃f g,c= .slice f j.length g/\j.length<=g/\g<=maxLen/\∀b,i=some b ->f.isNone=b:=by
 cases h with
 | sl k o t l s r x y u=>subst l;exact ⟨_,_,Z,s,r,o⟩
theorem D.cells_one {x:D} (h:x.one=true):x.cells=[x]:=by cases x<;>first | rfl | cases h
def Qm (P:Program) (T:TypeId):D ->Bool
 | .agg cs=>Bm P T cs.length
 | .tup _=>false
 | _=>Ay P T
theorem NT {n:Nat} (f:Nat ->Value):∃l:List Value,l.length=n/\∀j,j<n ->l[j]? =some (f j):=⟨(List.range n).map f,by simp,λj a=>by simp [a]⟩
theorem HI {P:Program} {T:TypeId} {x:D} (g:Qm P T x=true) (h:AN w a (.ptr x) c):∃u,(Instr.loadAt T c).run P w= .ok u w/\AN w a x u:=by
 cases h with
 | @ptr _ b o E K L I A C=>
  have one:∀B:x.one=true,Ay P T=true ->∃u,(Instr.loadAt T (.pointer (some ⟨b,o,none⟩))).run P w= .ok u w/\AN w a x u:=λB g=>by
   rw [D.cells_one B] at A C;have J:=A 0 x rfl;simp only [gg] at J
   simp [*,Instr.loadAt,Instr.sureAddr,loadVar,Di]
  cases x with
  | agg y=>
   simp only [Qm] at g;obtain ⟨⟨d,H,G⟩,F⟩:=Ez g;obtain ⟨l,z,k⟩:=NT (n:=y.length) E;refine ⟨.agg l.toArray,run_loadAt_mid w b o T l d (λj c s=>?_) H G (by rw [z];exact F),.agg z I λi f c r s=>?_⟩
   .have t:j<y.length:=by rw [<-z];exact (φ.1 s).1
    rw [A j y[j] (ω t),<-k j t,s]
   .have t:i<y.length:=(φ.1 r).1;have:=k i t;rw [s] at this;injection this with this
    subst this;exact C i f r
  | tup _=>simp [Qm] at g
  | raw _=>exact one Z g
  | sl _ _=>exact one Z g
  | ptr _=>exact one Z g
  | fn _ _ _=>exact one Z g
section
variable {P:Program} {F:Fr} {s:AS} {d:Nat} {ty T E:TypeId} {pos:String} {aft:Array Edge} {g:Option (Nat×Bool)} {x y:Operand} {k:IntKind} {i:Int}
variable {a:Option Bool} {c:List D} {f:Option Addr} {h:Nat} {t:Array TypeId} {j:Nat} {w:World} {o:IntKind} {u:D}
theorem Ii (f:s.ev x=some (.d (.sl a c))) (l:c.length=h) (r:P.underlying T=some (.slice E)) (o:Nat.blt d s.n=true):
  AA P F ⟨some d,.call {callee:= .builtin .len,args:= #[x],argTypes:= #[T]},ty,pos,aft,g⟩ s d (.d (.raw (.int .i64 (h:Int)))):=
 Cd _ o λ_ v w j=>by
  obtain ⟨b,u,t,_⟩:=(j.repD f).sl_len;subst l;exact ⟨_,by simp [execOp,resolve,invoke,builtin,Builtin.len_,run_underlying r,t,goInt],.d (.raw Z)⟩
theorem CB {b:Type} {f:b ->D} {l:List b} (c:s.ev x=some (.d (.sl a (List.map f l)))) (j:P.underlying T=some (.slice E)) (h:Nat.blt d s.n=true):
  AA P F ⟨some d,.call {callee:= .builtin .len,args:= #[x],argTypes:= #[T]},ty,pos,aft,g⟩ s d (.d (.raw (.int .i64 (l.length:Int)))):=
 Ii c (ψ _) j h
theorem QD {f j:Nat} (c:s.ev x=some (.own f j h)) (t:P.underlying T=some (.slice E)) (r:Nat.blt d s.n=true):
  AA P F ⟨some d,.call {callee:= .builtin .len,args:= #[x],argTypes:= #[T]},ty,pos,aft,g⟩ s d (.d (.raw (.int .i64 (h:Int)))):=
 Cd _ r λ_ b w o=>by
  have a:=o.ev c
  generalize l:b.eval x=u at a
  cases a with
  | own z v=>exact ⟨_,by simp [execOp,resolve,invoke,builtin,Builtin.len_,run_underlying t,l,goInt],.d (.raw Z)⟩
theorem QP {a b v:Int} (h:s.ev x=some (.d (.raw (.int k a)))) (f:s.ev y=some (.d (.raw (.int k b)))) (j:(if b<a then b else a)=v) (l:Nat.blt d s.n=true):
  AA P F ⟨some d,.call {callee:= .builtin .min,args:= #[x,y],argTypes:=t},ty,pos,aft,g⟩ s d (.d (.raw (.int k v))):=
 Cd _ l λ_ o w c=>⟨_,by simp [execOp,resolve,invoke,builtin,Builtin.min_,Builtin.min2,c.raw h,c.raw f,j,List.foldlM],.d (.raw Z)⟩
theorem QQ {a b v:Int} (h:s.ev x=some (.d (.raw (.int k a)))) (f:s.ev y=some (.d (.raw (.int k b)))) (j:(if b>a then b else a)=v) (l:Nat.blt d s.n=true):
  AA P F ⟨some d,.call {callee:= .builtin .max,args:= #[x,y],argTypes:=t},ty,pos,aft,g⟩ s d (.d (.raw (.int k v))):=
 Cd _ l λ_ o w c=>⟨_,by simp [execOp,resolve,invoke,builtin,Builtin.max_,Builtin.max2,c.raw h,c.raw f,j,List.foldlM],.d (.raw Z)⟩
theorem Bh (j:Nat) (I:s.ev x=some (.d (.sl a c))) (H:s.ev y=some (.d (.raw (.int k i)))) (M:i=(j:Int)) (A:c[j]? =some u) (Q:P.underlying T=some (.slice E)) {C:Nat} (v:u.cells.length=C) (R:AW P E C=true) (N:Nat.blt d s.n=true):
  AA P F ⟨some d,.indexAddr T x y,ty,pos,aft,g⟩ s d (.d (.ptr u)):=
 Cd _ N λ_ B w G=>by
  have h:=G.repD I
  generalize J:B.eval x=f at h
  subst M v;have r:j<c.length:=(φ.1 A).1
  cases h with
  | @sl _ _ l n S D V U t X W L O K=>
   obtain ⟨b,o,rfl⟩:=O (by intro h;subst h;simp at r);have z:u.cells.length=D:=L u (ϑ A);subst t;refine ⟨.pointer (some ⟨b,o+j*D,none⟩),?_,.d (K b o Z j u A)⟩
   simp [execOp,Instr.indexAt,asIntOf,G.raw H,J,run_underlying Q,r,mN (ZW R),z,Addr.add_mid]
theorem D2 (c:s.ev x=some (.d (.ptr u))) (b:u.one=true) (l:Ay P T=true) (j:Nat.blt d s.n=true):
  AA P F ⟨some d,.load T x,ty,pos,aft,g⟩ s d (.d u):=
 Cd _ j λ_ r w f=>by
  have h:Qm P T u=true:=by cases u<;>first | exact l | cases b
  obtain ⟨a,b,o⟩:=HI h (f.repD c);exact ⟨a,by simp [execOp,b],.d o⟩
theorem GW {a:List D} (b:s.ev x=some (.d (.ptr (.agg a)))) (f:a.length=h) (l:Bm P T h=true) (j:Nat.blt d s.n=true):
  AA P F ⟨some d,.load T x,ty,pos,aft,g⟩ s d (.d (.agg a)):=
 Cd _ j λ_ t w c=>by
  subst f;obtain ⟨u,r,o⟩:=HI (T:=T) (x:= .agg a) l (c.repD b);exact ⟨u,by simp [execOp,r],.d o⟩
theorem AN.part {O:Nat ->Prop} {u:Nat} (r:AN w O (.sl a c) (.slice f h u)) {l v:Nat} (R:l<=v) (U:v<=c.length) (H:∀x∈c,x.cells.length=j):
  AN w O (.sl a ((c.drop l).take (v - l))) (.slice (if u=l then f else f.map (·.add (l*j))) (v - l) (u - l)):=by
 cases r with
 | sl k Q N B V K D L J=>
  subst B;refine .sl j ?_ (λe=>?_) (by rw [Ξ,List.length_drop];omega) (by omega) (by unfold maxLen at K⊢;omega) (λx t=>H x (List.mem_of_mem_drop (gk t))) (λz=>?_) (λb o G i x t=>?_)
  .grind
  .have:f=none:=by
    split at e
    all_goals (simp_all)
   grind
  .have W:c≠ []:=by intro e;subst e;simp at z
   grind [Addr.add_mid]
  .rw [ia] at t
   split at t
   .rename_i S
    rw [i9] at t;have A:l+i<c.length:=(φ.1 t).1;obtain ⟨M,I,rfl⟩:=L (by intro e;subst e;simp at A);have C:k=j:=by rw [<-D x (ϑ t),H x (ϑ t)]
    subst C;rw [θ (by omega)] at G;simp only [gs,Addr.add_mid,Option.some.injEq,Addr.mk.injEq] at G;obtain ⟨rfl,rfl,_⟩:=G;have:=J M I Z (l+i) x t;rw [i4,<-Nat.add_assoc] at this;exact this
   .cases t
theorem QV {t e:TypeId} (o:P.underlying t=some (.slice e)) (r:(P.info? e).map (·.size)=some j) {c l:Nat} (u:l<=h) {b:IntKind}:
  (Instr.sliceAt t (.slice f h c) (some (.int b l)) none none).run P w= .ok (.slice (if c=l then f else f.map (·.add (l*j))) (h - l) (c - l)) w:=by simp [*,Instr.sliceAt,Instr.slice,run_underlying,Instr.sliceBounds,Instr.sliceBound,asIntOf,mN]
theorem G8 {t e:TypeId} (l:P.underlying t=some (.slice e)) (r:(P.info? e).map (·.size)=some j) {c b:Nat} (u:b<=c):
  (Instr.sliceAt t (.slice f h c) none (some (.int o b)) none).run P w= .ok (.slice (if c=0 then f else f.map (·.add (0*j))) (b - 0) (c - 0)) w:=by simp [*,Instr.sliceAt,Instr.slice,run_underlying,Instr.sliceBounds,Instr.sliceBound,asIntOf,mN]
theorem Ud {A:Operand} {v:Int} (h:Nat) (C:s.ev x=some (.d (.sl a c))) (t:s.ev A=some (.d (.raw (.int o v))))
  (H:v=(h:Int)) (B:h<=c.length) (K:P.underlying T=some (.slice E)) (L:AW P E j=true) (G:∀e∈c,e.cells.length=j) {u:List D} (l:c.take h=u) (I:Nat.blt d s.n=true):
  AA P F ⟨some d,.slice T x none (some A) none,ty,pos,aft,g⟩ s d (.d (.sl a u)):=
 Cd _ I λ_ M w z=>by
  have r:=z.repD C;obtain ⟨b,f,e,J,_,_⟩:=r.sl_len;rw [e] at r;subst H l;refine ⟨.slice (if f=0 then b else b.map (·.add (0*j))) (h - 0) (f - 0),by simp only [execOp,e,gs,jA,z.raw t,Sem.run_bind,G8 K (ZW L) (fO B J),Result.andThen_ok,Sem.run_pure],.d ?_⟩;have:=r.part (υ h) B G
  simpa using this
end
section
variable {P:Program} {F:Fr} {s:AS} {d:Nat} {ty T T' E:TypeId} {pos:String} {aft:Array Edge} {g:Option (Nat×Bool)} {x y:Operand}
theorem TU {a:BinOp} {t:TypeId} {x y:Operand} {p q:Option Addr} {w:World}:(eqGuard a t x y (.pointer p) (.pointer q)).run P w= .ok () w:=by
 cases a<;>simp [eqGuard]
end
variable {a:List (Nat×List AI)} {Q:Exit ->AS ->Prop} {c:List (Nat×AV)} {f:Array Edge} {g:Array Oper} {h:List Oper} {i:String} {P:Program} {j:TypeId} {x:Operand} {k o:Nat} {s:AV} {F:Fr}
theorem dd (b:AS.ev ⟨o,c,a⟩ x=some s) (l:Nat.blt k o=true) (r:A8 P F g h Q ⟨o,(k,s)::c,a⟩):A8 P F g (⟨some k,.move x,j,i,f,none⟩::h) Q ⟨o,c,a⟩:=J (JT b l) r
theorem AB (b:AS.ev ⟨o,c,a⟩ x=some s) (l:Nat.blt k o=true) (r:A8 P F g h Q ⟨o,(k,s)::c,a⟩):A8 P F g (⟨some k,.assign x,j,i,f,none⟩::h) Q ⟨o,c,a⟩:=J (GA b l) r
end Go.Proofs.YteifpcnphnhaoaaGreat
