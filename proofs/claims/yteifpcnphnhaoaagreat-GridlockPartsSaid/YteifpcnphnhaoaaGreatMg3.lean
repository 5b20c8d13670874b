import Derived.Test.YteifpcnphnhaoaaGreatMg2
import Derived.IntWalk
import Derived.Laws.Pointers
import Derived.Laws.IdiomStrings
import Derived.WalkSpells
namespace Go.Proofs.YteifpcnphnhaoaaGreat
open Go.RowKit
variable{P:Program}{a:Nat->Nat->Value}{T:TypeId}{x:Operand}{c:Act}{w:World}{f:Nat}{F:Fr}{s:AS}
theorem SR.raw(h:SR F s a c w){v:Value}(f:s.ev x=some (.d (.raw v))):c.eval x=v:=by
 have b:=h.ev f
 cases b with
 | d b=>
  generalize g:c.eval x=u at b
  cases b with
  | raw _=>rfl
theorem SR.repD(h:SR F s a c w){d:D}(f:s.ev x=some (.d d)):AY w (F.O a s.hp) d (c.eval x):=by
 have b:=h.ev f
 generalize c.eval x=u at b
 cases b with
 | d b=>exact b
def BU(P:Program)(T:TypeId):Bool:=match P.underlying T with
 | some (.struct _)=>false
 | some (.array _ _)=>false
 | none=>false
 | some _=>true
def CA(P:Program)(T:TypeId)(n:Nat):Bool:=(match P.underlying T with
 | some (.struct _)=>true
 | some (.array _ _)=>true
 | _=>false) &&(match P.info? T with
 | some i=>Nat.beq i.size n
 | none=>false)
def A4(P:Program)(T:TypeId)(n:Nat):Bool:=match P.info? T with
 | some i=>Nat.beq i.size n
 | none=>false
theorem aO(h:A4 P T f=true):(P.info? T).map (·.size)=some f:=by grind[A4,iG]
theorem nV{P:Program}{T:TypeId}{n:Nat}(h:(P.info? T).map (·.size)=some n)(w:World):(sizeOf T).run P w= .ok n w:=by
 unfold sizeOf typeInfo
 cases hi:P.info? T with
 | none=>rw[hi] at h;cases h
 | some i=>rw[hi] at h;simp at h;simp[hi,h]
def nw(P:Program)(t e size bytes:Nat):Bool:=(match P.underlying t with
 | some (.slice e')=>Nat.beq e' e
 | _=>false) &&(match P.info? e with
 | some i=>match i.zero with
  | some z=>Nat.beq i.size size && Nat.beq i.bytes bytes && Nat.beq z.cells.size size
  | none=>false
 | none=>false) && Nat.blt 0 size && Nat.blt 0 bytes
theorem Md{t e a bytes:Nat}(h:nw P t e a bytes=true):gI P t e a bytes:=by
 simp only[nw,gq] at h;obtain ⟨⟨⟨g,f⟩,c⟩,b⟩:=h;refine ⟨?_,?_,IW c,IW b⟩
 all_goals (grind[iG])
theorem ET(h:BU P T=true)(w:World):(isAgg T).run P w= .ok false w:=by
 unfold BU at h;unfold isAgg
 cases hu:P.underlying T with
 | none=>rw[hu] at h;cases h
 | some d=>
  rw[Sem.run_bind,run_underlying hu w]
  cases d<;>simp_all
theorem Fi(h:CA P T f=true):(∃d,P.underlying T=some d/\d.isRow=true)/\(P.info? T).map (·.size)=some f:=by
 unfold CA at h;simp only[gq] at h;refine ⟨?_,aO h.2⟩
 grind
section
variable{P:Program}{F:Fr}{s:AS}{d:Nat}{ty T T':TypeId}{pos:String}{aft:Array Edge}{g:Option (Nat×Bool)}{x y c:Operand}{k k':IntKind}{a b v:Int}
variable{A:AV}{t:Bool}{i:Nat}
theorem Pe(h:s.ev x=some A)(j:Nat.blt d s.n=true):AA P F ⟨some d,.move x,ty,pos,aft,g⟩ s d A:=
 Cv A j λ_ f _ i=>⟨f.eval x,by simp[execOp],i.ev h⟩
theorem JK(h:s.ev x=some A)(j:Nat.blt d s.n=true):AA P F ⟨some d,.assign x,ty,pos,aft,g⟩ s d A:=
 Cv A j λ_ f _ i=>⟨f.eval x,by simp[execOp],i.ev h⟩
theorem BZ(o:s.ev c=some (.d (.raw (.bool t))))(j:t=true)(i:s.ev x=some A)(l:Nat.blt d s.n=true):AA P F ⟨some d,.pick c x y,ty,pos,aft,g⟩ s d A:=
 Cv _ l λ_ f _ h=>⟨f.eval x,by simp[execOp,h.raw o,asBool,j],h.ev i⟩
theorem Be(o:s.ev c=some (.d (.raw (.bool t))))(j:t=false)(i:s.ev y=some A)(l:Nat.blt d s.n=true):AA P F ⟨some d,.pick c x y,ty,pos,aft,g⟩ s d A:=
 Cv _ l λ_ f _ h=>⟨f.eval y,by simp[execOp,h.raw o,asBool,j],h.ev i⟩
theorem Az(i:s.ev x=some (.d (.raw (.int k a))))(h:s.ev y=some (.d (.raw (.int k b))))(j:Nat.blt d s.n=true):AA P F ⟨some d,.binOp .lss T x y T',ty,pos,aft,g⟩ s d (.d (.raw (.bool (decide (a<b))))):=
 Cv _ j λ_ l _ f=>⟨_,by simp[execOp,eqGuard,binOp,Op.intCmp,f.raw i,f.raw h],.d (.raw Z)⟩
theorem Vd(i:s.ev x=some (.d (.raw (.int k a))))(h:s.ev y=some (.d (.raw (.int k b))))(j:Nat.blt d s.n=true):AA P F ⟨some d,.binOp .leq T x y T',ty,pos,aft,g⟩ s d (.d (.raw (.bool (decide (a<=b))))):=
 Cv _ j λ_ l _ f=>⟨_,by simp[execOp,eqGuard,binOp,Op.intCmp,f.raw i,f.raw h],.d (.raw Z)⟩
theorem HV(i:s.ev x=some (.d (.raw (.int k a))))(h:s.ev y=some (.d (.raw (.int k b))))(j:Nat.blt d s.n=true):AA P F ⟨some d,.binOp .gtr T x y T',ty,pos,aft,g⟩ s d (.d (.raw (.bool (decide (b<a))))):=
 Cv _ j λ_ l _ f=>⟨_,by simp[execOp,eqGuard,binOp,Op.intCmp,f.raw i,f.raw h],.d (.raw Z)⟩
theorem EN(i:s.ev x=some (.d (.raw (.int k a))))(h:s.ev y=some (.d (.raw (.int k b))))(j:Nat.blt d s.n=true):AA P F ⟨some d,.binOp .geq T x y T',ty,pos,aft,g⟩ s d (.d (.raw (.bool (decide (b<=a))))):=
 Cv _ j λ_ l _ f=>⟨_,by simp[execOp,eqGuard,binOp,Op.intCmp,f.raw i,f.raw h],.d (.raw Z)⟩
theorem GR(i:s.ev x=some (.d (.raw (.int k a))))(h:s.ev y=some (.d (.raw (.int k b))))(j:Nat.blt d s.n=true):AA P F ⟨some d,.binOp .eql T x y T',ty,pos,aft,g⟩ s d (.d (.raw (.bool (decide (a=b))))):=
 Cv _ j λ_ l _ f=>⟨.bool (a==b),by simp[execOp,eqGuard,binOp,Op.intCmp,f.raw i,f.raw h],.d (.raw Z)⟩
theorem C6(i:s.ev x=some (.d (.raw (.int k a))))(h:s.ev y=some (.d (.raw (.int k b))))(j:Nat.blt d s.n=true):AA P F ⟨some d,.binOp .neq T x y T',ty,pos,aft,g⟩ s d (.d (.raw (.bool (decide (¬a=b))))):=
 Cv _ j λ_ l _ f=>⟨.bool (a !=b),by simp[execOp,eqGuard,binOp,Op.intCmp,f.raw i,f.raw h],by
  rw[show (a !=b)=decide (¬a=b) by simp[bne];rfl];exact .d (.raw Z)⟩
theorem Aj(i:s.ev x=some (.d (.raw (.int k a))))(h:s.ev y=some (.d (.raw (.int k b))))(j:k.wrap (a+b)=v)(l:Nat.blt d s.n=true):AA P F ⟨some d,.binOp .add T x y T',ty,pos,aft,g⟩ s d (.d (.raw (.int k v))):=
 Cv _ l λ_ o _ f=>⟨_,by simp[execOp,eqGuard,binOp,Op.intArith,f.raw i,f.raw h,j],.d (.raw Z)⟩
theorem P4(i:s.ev x=some (.d (.raw (.int k a))))(h:s.ev y=some (.d (.raw (.int k b))))(j:k.wrap (a-b)=v)(l:Nat.blt d s.n=true):AA P F ⟨some d,.binOp .sub T x y T',ty,pos,aft,g⟩ s d (.d (.raw (.int k v))):=
 Cv _ l λ_ o _ f=>⟨_,by simp[execOp,eqGuard,binOp,Op.intArith,f.raw i,f.raw h,j],.d (.raw Z)⟩
theorem pH(i:s.ev x=some (.d (.raw (.int k a))))(h:s.ev y=some (.d (.raw (.int k b))))(j:k.wrap (a*b)=v)(l:Nat.blt d s.n=true):AA P F ⟨some d,.binOp .mul T x y T',ty,pos,aft,g⟩ s d (.d (.raw (.int k v))):=
 Cv _ l λ_ o _ f=>⟨_,by simp[execOp,eqGuard,binOp,Op.intArith,f.raw i,f.raw h,j],.d (.raw Z)⟩
theorem pG(i:s.ev x=some (.d (.raw (.int k a))))(h:s.ev y=some (.d (.raw (.int k b))))(o:¬b=0)(j:k.wrap (a.tdiv b)=v)(l:Nat.blt d s.n=true):AA P F ⟨some d,.binOp .quo T x y T',ty,pos,aft,g⟩ s d (.d (.raw (.int k v))):=
 Cv _ l λ_ r _ f=>⟨_,by simp[execOp,eqGuard,binOp,Op.intDiv,f.raw i,f.raw h,j,o],.d (.raw Z)⟩
theorem NE(f:s.ev x=some (.d (.raw (.bool t))))(i:Nat.blt d s.n=true):AA P F ⟨some d,.unOp .not T x,ty,pos,aft,g⟩ s d (.d (.raw (.bool (!t)))):=
 Cv _ i λ_ j _ h=>⟨_,by simp[execOp,Op.unary,h.raw f],.d (.raw Z)⟩
theorem kr{a b:ByteArray}(i:s.ev x=some (.d (.raw (.string a))))(h:s.ev y=some (.d (.raw (.string b))))(j:Nat.blt d s.n=true):AA P F ⟨some d,.binOp .eql T x y T',ty,pos,aft,g⟩ s d (.d (.raw (.bool (decide (a.toList=b.toList))))):=
 Cv _ j λ_ l _ f=>⟨.bool (a.toList==b.toList),by simp[execOp,eqGuard,binOp,Op.stringOp,f.raw i,f.raw h],by
  rw[show (a.toList==b.toList)=decide (a.toList=b.toList) by rw[kJ];simp];exact .d (.raw Z)⟩
theorem kq{a b:ByteArray}(i:s.ev x=some (.d (.raw (.string a))))(h:s.ev y=some (.d (.raw (.string b))))(j:Nat.blt d s.n=true):AA P F ⟨some d,.binOp .neq T x y T',ty,pos,aft,g⟩ s d (.d (.raw (.bool (decide (¬a.toList=b.toList))))):=
 Cv _ j λ_ l _ f=>⟨.bool !(a.toList==b.toList),by simp[execOp,eqGuard,binOp,Op.stringOp,f.raw i,f.raw h],by
  rw[show (!(a.toList==b.toList))=decide (¬a.toList=b.toList) by rw[kJ];simp];exact .d (.raw Z)⟩
theorem XC{a b:ByteArray}(i:s.ev x=some (.d (.raw (.string a))))(h:s.ev y=some (.d (.raw (.string b))))(j:Nat.blt d s.n=true):AA P F ⟨some d,.binOp .lss T x y T',ty,pos,aft,g⟩ s d (.d (.raw (.bool (Op.bytesLess a.toList b.toList)))):=
 Cv _ j λ_ l _ f=>⟨_,by simp[execOp,eqGuard,binOp,Op.stringOp,f.raw i,f.raw h],.d (.raw Z)⟩
theorem KH{p:Prop}[Decidable p](f:s.ev x=some (.d (.raw (.bool (decide p)))))(i:Nat.blt d s.n=true):AA P F ⟨some d,.unOp .not T x,ty,pos,aft,g⟩ s d (.d (.raw (.bool (decide (¬p))))):=
 Cv _ i λ_ j _ h=>⟨.bool (!decide p),by simp[execOp,Op.unary,h.raw f],by rw[show (!decide p)=decide (¬p) by simp];exact .d (.raw Z)⟩
theorem E9(f:s.ev x=some (.d (.raw (.bool false))))(h:Nat.blt d s.n=true):AA P F ⟨some d,.unOp .not T x,ty,pos,aft,g⟩ s d (.d (.raw (.bool true))):=NE f h
theorem bQ(f:s.ev x=some (.d (.raw (.int k a))))(h:k.wrap (0-a)=v)(j:Nat.blt d s.n=true):AA P F ⟨some d,.unOp .neg T x,ty,pos,aft,g⟩ s d (.d (.raw (.int k v))):=
 Cv _ j λ_ l _ i=>⟨.int k (k.wrap (0-a)),by simp[execOp,Op.unary,Op.intArith,i.raw f],by rw[h];exact .d (.raw Z)⟩
theorem DC{l:List AV}(t:s.ev x=some (.tup l))(r:l[i]? =some A)(D:Nat.blt d s.n=true):AA P F ⟨some d,.extract x i,ty,pos,aft,g⟩ s d A:=
 Cv _ D λ_ j w B=>by
  have h:=B.ev t
  generalize z:j.eval x=u at h
  cases h with
  | @tup _ o C h=>
   have f:i<o.length:=by rw[C];exact (φ.1 r).1
   exact ⟨o[i],by simp[execOp,Instr.extract,z,f],h i A _ r (ω f)⟩
theorem De{l:List D}{A:D}(t:s.ev x=some (.d (.tup l)))(r:l[i]? =some A)(E:Nat.blt d s.n=true):AA P F ⟨some d,.extract x i,ty,pos,aft,g⟩ s d (.d A):=
 Cv _ E λ_ j w B=>by
  have h:=B.repD t
  generalize z:j.eval x=u at h
  cases h with
  | @tup _ o C h=>
   have f:i<o.length:=by rw[C];exact (φ.1 r).1
   exact ⟨o[i],by simp[execOp,Instr.extract,z,f],.d (h i A _ r (ω f))⟩
end
variable{a:Nat->Prop}{c:Value}{w:World}
theorem AY.sl_len{i:Option Bool}{j:List D}(h:AY w a (.sl i j) c):∃f g,c= .slice f j.length g/\j.length<=g/\g<=maxLen/\∀b,i=some b->f.isNone=b:=by
 cases h with
 | sl k o t l s r x y u=>subst l;exact ⟨_,_,Z,s,r,o⟩
theorem D.cells_one{x:D}(h:x.one=true):x.cells=[x]:=by cases x<;>first | rfl | cases h
def Rx(P:Program)(T:TypeId):D->Bool
 | .agg cs=>CA P T cs.length
 | .tup _=>false
 | _=>BU P T
theorem Ob{n:Nat}(f:Nat->Value):∃l:List Value,l.length=n/\∀j,j<n->l[j]? =some (f j):=⟨(List.range n).map f,by simp,λj a=>by simp[a]⟩
theorem IJ{P:Program}{T:TypeId}{x:D}(g:Rx P T x=true)(h:AY w a (.ptr x) c):∃u,(Instr.loadAt T c).run P w= .ok u w/\AY w a x u:=by
 cases h with
 | @ptr _ b o E K L I A C=>
  have one:∀B:x.one=true,BU P T=true->∃u,(Instr.loadAt T (.pointer (some ⟨b,o,none⟩))).run P w= .ok u w/\AY w a x u:=λB g=>by
   rw[D.cells_one B] at A C;have J:=A 0 x rfl;simp only[ib] at J
   simp[*,Instr.loadAt,Instr.sureAddr,loadVar,ET]
  cases x with
  | agg y=>
   simp only[Rx] at g;obtain ⟨⟨d,H,G⟩,F⟩:=Fi g;obtain ⟨l,z,k⟩:=Ob (n:=y.length) E;refine ⟨.agg l.toArray,run_loadAt_mid w b o T l d (λj c s=>?_) H G (by rw[z];exact F),.agg z I λi f c r s=>?_⟩
   .have t:j<y.length:=by rw[<-z];exact (φ.1 s).1
    rw[A j y[j] (ω t),<-k j t,s]
   .have t:i<y.length:=(φ.1 r).1;have:=k i t;rw[s] at this;injection this with this
    subst this;exact C i f r
  | tup _=>simp[Rx] at g
  | raw _=>exact one Z g
  | sl _ _=>exact one Z g
  | ptr _=>exact one Z g
  | fn _ _ _=>exact one Z g
section
variable{P:Program}{F:Fr}{s:AS}{d:Nat}{ty T E:TypeId}{pos:String}{aft:Array Edge}{g:Option (Nat×Bool)}{x y:Operand}{k:IntKind}{i:Int}
variable{a:Option Bool}{c:List D}{f:Option Addr}{h j:Nat}{t:Array TypeId}{w:World}{o u:IntKind}{z:List D}{A:D}
theorem Jd(f:s.ev x=some (.d (.sl a c)))(l:c.length=j)(r:P.underlying T=some (.slice E))(o:Nat.blt d s.n=true):
  AA P F ⟨some d,.call {callee:= .builtin .len,args:= #[x],argTypes:= #[T]},ty,pos,aft,g⟩ s d (.d (.raw (.int .i64 (j:Int)))):=
 Cv _ o λ_ v w h=>by
  obtain ⟨b,u,t,_⟩:=(h.repD f).sl_len;subst l;exact ⟨_,by simp[execOp,resolve,invoke,builtin,Builtin.len_,run_underlying r,t,goInt],.d (.raw Z)⟩
theorem BS{b:Type}{f:b->D}{l:List b}(c:s.ev x=some (.d (.sl a (List.map f l))))(j:P.underlying T=some (.slice E))(h:Nat.blt d s.n=true):
  AA P F ⟨some d,.call {callee:= .builtin .len,args:= #[x],argTypes:= #[T]},ty,pos,aft,g⟩ s d (.d (.raw (.int .i64 (l.length:Int)))):=
 Jd c (χ _) j h
theorem RL{f a:Nat}(c:s.ev x=some (.own f a j))(t:P.underlying T=some (.slice E))(r:Nat.blt d s.n=true):
  AA P F ⟨some d,.call {callee:= .builtin .len,args:= #[x],argTypes:= #[T]},ty,pos,aft,g⟩ s d (.d (.raw (.int .i64 (j:Int)))):=
 Cv _ r λ_ b w o=>by
  have h:=o.ev c
  generalize l:b.eval x=u at h
  cases h with
  | own z v=>exact ⟨_,by simp[execOp,resolve,invoke,builtin,Builtin.len_,run_underlying t,l,goInt],.d (.raw Z)⟩
theorem RX{a b v:Int}(h:s.ev x=some (.d (.raw (.int k a))))(f:s.ev y=some (.d (.raw (.int k b))))(j:(if b<a then b else a)=v)(l:Nat.blt d s.n=true):
  AA P F ⟨some d,.call {callee:= .builtin .min,args:= #[x,y],argTypes:=t},ty,pos,aft,g⟩ s d (.d (.raw (.int k v))):=
 Cv _ l λ_ o w c=>⟨_,by simp[execOp,resolve,invoke,builtin,Builtin.min_,Builtin.min2,c.raw h,c.raw f,j,List.foldlM],.d (.raw Z)⟩
theorem RY{a b v:Int}(h:s.ev x=some (.d (.raw (.int k a))))(f:s.ev y=some (.d (.raw (.int k b))))(j:(if b>a then b else a)=v)(l:Nat.blt d s.n=true):
  AA P F ⟨some d,.call {callee:= .builtin .max,args:= #[x,y],argTypes:=t},ty,pos,aft,g⟩ s d (.d (.raw (.int k v))):=
 Cv _ l λ_ o w c=>⟨_,by simp[execOp,resolve,invoke,builtin,Builtin.max_,Builtin.max2,c.raw h,c.raw f,j,List.foldlM],.d (.raw Z)⟩
theorem BC(j:Nat)(I:s.ev x=some (.d (.sl a c)))(H:s.ev y=some (.d (.raw (.int k i))))(M:i=(j:Int))(z:c[j]? =some A)(Q:P.underlying T=some (.slice E)){C:Nat}(t:A.cells.length=C)(R:A4 P E C=true)(N:Nat.blt d s.n=true):
  AA P F ⟨some d,.indexAddr T x y,ty,pos,aft,g⟩ s d (.d (.ptr A)):=
 Cv _ N λ_ B w G=>by
  have h:=G.repD I
  generalize J:B.eval x=u at h
  subst M t;have l:j<c.length:=(φ.1 z).1
  cases h with
  | @sl _ _ f n S D V U r X W L O K=>
   obtain ⟨b,o,rfl⟩:=O (by intro h;subst h;simp at l);have v:A.cells.length=D:=L A (ξ z);subst r;refine ⟨.pointer (some ⟨b,o+j*D,none⟩),?_,.d (K b o Z j A z)⟩
   simp[execOp,Instr.indexAt,asIntOf,G.raw H,J,run_underlying Q,l,nV (aO R),v,Addr.add_mid]
theorem CG(b:s.ev x=some (.d (.ptr A)))(a:A.one=true)(j:BU P T=true)(h:Nat.blt d s.n=true):
  AA P F ⟨some d,.load T x,ty,pos,aft,g⟩ s d (.d A):=
 Cv _ h λ_ o w c=>by
  have f:Rx P T A=true:=by cases A<;>first | exact j | cases a
  obtain ⟨u,a,l⟩:=IJ f (c.repD b);exact ⟨u,by simp[execOp,a],.d l⟩
theorem C7{a:List D}(b:s.ev x=some (.d (.ptr (.agg a))))(f:a.length=j)(l:CA P T j=true)(h:Nat.blt d s.n=true):
  AA P F ⟨some d,.load T x,ty,pos,aft,g⟩ s d (.d (.agg a)):=
 Cv _ h λ_ t w c=>by
  subst f;obtain ⟨u,r,o⟩:=IJ (T:=T) (x:= .agg a) l (c.repD b);exact ⟨u,by simp[execOp,r],.d o⟩
theorem AY.part{O:Nat->Prop}{u:Nat}(r:AY w O (.sl a c) (.slice f j u)){l v:Nat}(R:l<=v)(U:v<=c.length)(H:∀x∈c,x.cells.length=h):
  AY w O (.sl a ((c.drop l).take (v-l))) (.slice (if u=l then f else f.map (·.add (l*h))) (v-l) (u-l)):=by
 cases r with
 | sl k Q N B V K D L J=>
  subst B;refine .sl h ?_ (λe=>?_) (by rw[ϱ,jT];omega) (by omega) (by unfold maxLen at K⊢;omega) (λx t=>H x (List.mem_of_mem_drop (i8 t))) (λz=>?_) (λb o G i x t=>?_)
  .grind
  .have:f=none:=by
    split at e
    all_goals (simp_all)
   grind
  .have W:c≠ []:=by intro e;subst e;simp at z
   grind[Addr.add_mid]
  .rw[jm] at t
   split at t
   .rename_i S
    rw[jl] at t;have A:l+i<c.length:=(φ.1 t).1;obtain ⟨M,I,rfl⟩:=L (by intro e;subst e;simp at A);have C:k=h:=by rw[<-D x (ξ t),H x (ξ t)]
    subst C;rw[κ (by omega)] at G;simp only[ij,Addr.add_mid,Option.some.injEq,Addr.mk.injEq] at G;obtain ⟨rfl,rfl,_⟩:=G;have:=J M I Z (l+i) x t;rw[jd,<-Nat.add_assoc] at this;exact this
   .cases t
theorem K4{t e:TypeId}(b:P.underlying t=some (.slice e))(r:(P.info? e).map (·.size)=some h){c l:Nat}(u:l<=j):
  (Instr.sliceAt t (.slice f j c) (some (.int o l)) none none).run P w= .ok (.slice (if c=l then f else f.map (·.add (l*h))) (j-l) (c-l)) w:=by simp[*,Instr.sliceAt,Instr.slice,run_underlying,Instr.sliceBounds,Instr.sliceBound,asIntOf,nV]
theorem Ha{t e:TypeId}(l:P.underlying t=some (.slice e))(o:(P.info? e).map (·.size)=some h){c b:Nat}(r:b<=c):
  (Instr.sliceAt t (.slice f j c) none (some (.int u b)) none).run P w= .ok (.slice (if c=0 then f else f.map (·.add (0*h))) (b-0) (c-0)) w:=by simp[*,Instr.sliceAt,Instr.slice,run_underlying,Instr.sliceBounds,Instr.sliceBound,asIntOf,nV]
theorem Va{u:Operand}{v:Int}(l:Nat)(C:s.ev x=some (.d (.sl a c)))(t:s.ev u=some (.d (.raw (.int o v))))(D:v=(l:Int))(B:l<=c.length)(I:P.underlying T=some (.slice E))(J:A4 P E h=true)(G:∀e∈c,e.cells.length=h)(j:c.drop l=z)(H:Nat.blt d s.n=true):
  AA P F ⟨some d,.slice T x (some u) none none,ty,pos,aft,g⟩ s d (.d (.sl a z)):=
 Cv _ H λ_ K w A=>by
  have r:=A.repD C;obtain ⟨b,f,e,L,_,_⟩:=r.sl_len;rw[e] at r;subst D j;refine ⟨.slice (if f=l then b else b.map (·.add (l*h))) (c.length-l) (f-l),by simp only[execOp,e,ij,jv,A.raw t,Sem.run_bind,K4 I (aO J) B,Result.andThen_ok,Sem.run_pure],.d ?_⟩;have:=r.part B (Γ _) G
  rwa [η (by rw[jT];exact Γ _)] at this
theorem Vb{A:Operand}{t:Int}(b:Nat)(C:s.ev x=some (.d (.sl a c)))(r:s.ev A=some (.d (.raw (.int u t))))(G:t=(b:Int))(B:b<=c.length)(J:P.underlying T=some (.slice E))(K:A4 P E h=true)(D:∀e∈c,e.cells.length=h)(l:c.take b=z)(H:Nat.blt d s.n=true):
  AA P F ⟨some d,.slice T x none (some A) none,ty,pos,aft,g⟩ s d (.d (.sl a z)):=
 Cv _ H λ_ L w v=>by
  have o:=v.repD C;obtain ⟨f,j,e,I,_,_⟩:=o.sl_len;rw[e] at o;subst G l;refine ⟨.slice (if j=0 then f else f.map (·.add (0*h))) (b-0) (j-0),by simp only[execOp,e,ij,jv,v.raw r,Sem.run_bind,Ha J (aO K) (gY B I),Result.andThen_ok,Sem.run_pure],.d ?_⟩;have:=o.part (ζ b) B D
  simpa using this
end
section
variable{P:Program}{F:Fr}{s:AS}{d:Nat}{ty T T' E:TypeId}{pos:String}{aft:Array Edge}{g:Option (Nat×Bool)}{x y:Operand}
theorem UZ{a:BinOp}{t:TypeId}{x y:Operand}{p q:Option Addr}{w:World}:(eqGuard a t x y (.pointer p) (.pointer q)).run P w= .ok () w:=by
 cases a<;>simp[eqGuard]
end
variable{a:List (Nat×List AM)}{Q:Exit->AS->Prop}{c:List (Nat×AV)}{f:Array Edge}{g:Array Oper}{h:List Oper}{i:String}{P:Program}{j:TypeId}{x:Operand}{k o:Nat}{s:AV}{F:Fr}
theorem ek(b:AS.ev ⟨o,c,a⟩ x=some s)(l:Nat.blt k o=true)(r:Ak P F g h Q ⟨o,(k,s)::c,a⟩):Ak P F g (⟨some k,.move x,j,i,f,none⟩::h) Q ⟨o,c,a⟩:=J (Pe b l) r
theorem AB(b:AS.ev ⟨o,c,a⟩ x=some s)(l:Nat.blt k o=true)(r:Ak P F g h Q ⟨o,(k,s)::c,a⟩):Ak P F g (⟨some k,.assign x,j,i,f,none⟩::h) Q ⟨o,c,a⟩:=J (JK b l) r
end Go.Proofs.YteifpcnphnhaoaaGreat
