import Derived.Test.YteifpcnphnhaoaaGreatMg2
import Derived.IntWalk
import Derived.Laws.Pointers
import Derived.Laws.IdiomStrings
import Derived.WalkSpells
namespace Go.Proofs.YteifpcnphnhaoaaGreat
open Go.RowKit
variable{P:Program}{a:Nat->Nat->Value}{T:TypeId}{x:Operand}{c:Act}{w:World}{f:Nat}{F:Fr}{s:AS}
theorem SR.raw(h:SR F s a c w){v:Value}(f:s.ev x=some (.d (.raw v))):c.eval x=v:=by
 have b:=h.ev f
 cases b with
 | d b=>
  generalize g:c.eval x=u at b
  cases b with
  | raw _=>rfl
theorem SR.repD(h:SR F s a c w){d:D}(f:s.ev x=some (.d d)):AZ w (F.O a s.hp) d (c.eval x):=by
 have b:=h.ev f
 generalize c.eval x=u at b
 cases b with
 | d b=>exact b
def BW(P:Program)(T:TypeId):Bool:=match P.underlying T with
 | some (.struct _)=>false
 | some (.array _ _)=>false
 | none=>false
 | some _=>true
def CI(P:Program)(T:TypeId)(n:Nat):Bool:=(match P.underlying T with
 | some (.struct _)=>true
 | some (.array _ _)=>true
 | _=>false) &&(match P.info? T with
 | some i=>Nat.beq i.size n
 | none=>false)
def A3(P:Program)(T:TypeId)(n:Nat):Bool:=match P.info? T with
 | some i=>Nat.beq i.size n
 | none=>false
theorem Zq(h:A3 P T f=true):(P.info? T).map (·.size)=some f:=by grind[A3,ki]
theorem nP{P:Program}{T:TypeId}{n:Nat}(h:(P.info? T).map (·.size)=some n)(w:World):(sizeOf T).run P w= .ok n w:=by
 unfold sizeOf typeInfo
 cases hi:P.info? T with
 | none=>rw[hi] at h;cases h
 | some i=>rw[hi] at h;simp at h;simp[hi,h]
def rS(P:Program)(t e size bytes:Nat):Bool:=(match P.underlying t with
 | some (.slice e')=>Nat.beq e' e
 | _=>false) &&(match P.info? e with
 | some i=>match i.zero with
  | some z=>Nat.beq i.size size && Nat.beq i.bytes bytes && Nat.beq z.cells.size size
  | none=>false
 | none=>false) && Nat.blt 0 size && Nat.blt 0 bytes
theorem MG{t e a bytes:Nat}(h:rS P t e a bytes=true):jd P t e a bytes:=by
 simp only[rS,kO] at h;obtain ⟨⟨⟨g,f⟩,c⟩,b⟩:=h;refine ⟨?_,?_,I4 c,I4 b⟩
 all_goals (grind[ki])
theorem Ec(h:BW P T=true)(w:World):(isAgg T).run P w= .ok false w:=by
 unfold BW at h;unfold isAgg
 cases hu:P.underlying T with
 | none=>rw[hu] at h;cases h
 | some d=>
  rw[Sem.run_bind,run_underlying hu w]
  cases d<;>simp_all
theorem Fy(h:CI P T f=true):(∃d,P.underlying T=some d/\d.isRow=true)/\(P.info? T).map (·.size)=some f:=by
 unfold CI at h;simp only[kO] at h;refine ⟨?_,Zq h.2⟩
 grind
section
variable{P:Program}{F:Fr}{s:AS}{d:Nat}{ty T T':TypeId}{pos:String}{aft:Array Edge}{g:Option (Nat×Bool)}{x y c:Operand}{k k':IntKind}{a b v:Int}
variable{A:AV}{t:Bool}{i:Nat}
theorem FW(h:s.ev x=some A)(j:Nat.blt d s.n=true):AA P F ⟨some d,.move x,ty,pos,aft,g⟩ s d A:=
 DG A j λ_ f _ i=>⟨f.eval x,by simp[execOp],i.ev h⟩
theorem J5(h:s.ev x=some A)(j:Nat.blt d s.n=true):AA P F ⟨some d,.assign x,ty,pos,aft,g⟩ s d A:=
 DG A j λ_ f _ i=>⟨f.eval x,by simp[execOp],i.ev h⟩
theorem B8(o:s.ev c=some (.d (.raw (.bool t))))(j:t=true)(i:s.ev x=some A)(l:Nat.blt d s.n=true):AA P F ⟨some d,.pick c x y,ty,pos,aft,g⟩ s d A:=
 DG _ l λ_ f _ h=>⟨f.eval x,by simp[execOp,h.raw o,asBool,j],h.ev i⟩
theorem Bx(o:s.ev c=some (.d (.raw (.bool t))))(j:t=false)(i:s.ev y=some A)(l:Nat.blt d s.n=true):AA P F ⟨some d,.pick c x y,ty,pos,aft,g⟩ s d A:=
 DG _ l λ_ f _ h=>⟨f.eval y,by simp[execOp,h.raw o,asBool,j],h.ev i⟩
theorem At(i:s.ev x=some (.d (.raw (.int k a))))(h:s.ev y=some (.d (.raw (.int k b))))(j:Nat.blt d s.n=true):AA P F ⟨some d,.binOp .lss T x y T',ty,pos,aft,g⟩ s d (.d (.raw (.bool (decide (a<b))))):=
 DG _ j λ_ l _ f=>⟨_,by simp[execOp,eqGuard,binOp,Op.intCmp,f.raw i,f.raw h],.d (.raw Z)⟩
theorem Wx(i:s.ev x=some (.d (.raw (.int k a))))(h:s.ev y=some (.d (.raw (.int k b))))(j:Nat.blt d s.n=true):AA P F ⟨some d,.binOp .leq T x y T',ty,pos,aft,g⟩ s d (.d (.raw (.bool (decide (a<=b))))):=
 DG _ j λ_ l _ f=>⟨_,by simp[execOp,eqGuard,binOp,Op.intCmp,f.raw i,f.raw h],.d (.raw Z)⟩
theorem H4(i:s.ev x=some (.d (.raw (.int k a))))(h:s.ev y=some (.d (.raw (.int k b))))(j:Nat.blt d s.n=true):AA P F ⟨some d,.binOp .gtr T x y T',ty,pos,aft,g⟩ s d (.d (.raw (.bool (decide (b<a))))):=
 DG _ j λ_ l _ f=>⟨_,by simp[execOp,eqGuard,binOp,Op.intCmp,f.raw i,f.raw h],.d (.raw Z)⟩
theorem EE(i:s.ev x=some (.d (.raw (.int k a))))(h:s.ev y=some (.d (.raw (.int k b))))(j:Nat.blt d s.n=true):AA P F ⟨some d,.binOp .geq T x y T',ty,pos,aft,g⟩ s d (.d (.raw (.bool (decide (b<=a))))):=
 DG _ j λ_ l _ f=>⟨_,by simp[execOp,eqGuard,binOp,Op.intCmp,f.raw i,f.raw h],.d (.raw Z)⟩
theorem Fa(i:s.ev x=some (.d (.raw (.int k a))))(h:s.ev y=some (.d (.raw (.int k b))))(j:Nat.blt d s.n=true):AA P F ⟨some d,.binOp .eql T x y T',ty,pos,aft,g⟩ s d (.d (.raw (.bool (decide (a=b))))):=
 DG _ j λ_ l _ f=>⟨.bool (a==b),by simp[execOp,eqGuard,binOp,Op.intCmp,f.raw i,f.raw h],.d (.raw Z)⟩
theorem DJ(i:s.ev x=some (.d (.raw (.int k a))))(h:s.ev y=some (.d (.raw (.int k b))))(j:Nat.blt d s.n=true):AA P F ⟨some d,.binOp .neq T x y T',ty,pos,aft,g⟩ s d (.d (.raw (.bool (decide (¬a=b))))):=
 DG _ j λ_ l _ f=>⟨.bool (a !=b),by simp[execOp,eqGuard,binOp,Op.intCmp,f.raw i,f.raw h],by
  rw[show (a !=b)=decide (¬a=b) by simp[bne];rfl];exact .d (.raw Z)⟩
theorem Ad(i:s.ev x=some (.d (.raw (.int k a))))(h:s.ev y=some (.d (.raw (.int k b))))(j:k.wrap (a+b)=v)(l:Nat.blt d s.n=true):AA P F ⟨some d,.binOp .add T x y T',ty,pos,aft,g⟩ s d (.d (.raw (.int k v))):=
 DG _ l λ_ o _ f=>⟨_,by simp[execOp,eqGuard,binOp,Op.intArith,f.raw i,f.raw h,j],.d (.raw Z)⟩
theorem ME(i:s.ev x=some (.d (.raw (.int k a))))(h:s.ev y=some (.d (.raw (.int k b))))(j:k.wrap (a-b)=v)(l:Nat.blt d s.n=true):AA P F ⟨some d,.binOp .sub T x y T',ty,pos,aft,g⟩ s d (.d (.raw (.int k v))):=
 DG _ l λ_ o _ f=>⟨_,by simp[execOp,eqGuard,binOp,Op.intArith,f.raw i,f.raw h,j],.d (.raw Z)⟩
theorem si(i:s.ev x=some (.d (.raw (.int k a))))(h:s.ev y=some (.d (.raw (.int k b))))(j:k.wrap (a*b)=v)(l:Nat.blt d s.n=true):AA P F ⟨some d,.binOp .mul T x y T',ty,pos,aft,g⟩ s d (.d (.raw (.int k v))):=
 DG _ l λ_ o _ f=>⟨_,by simp[execOp,eqGuard,binOp,Op.intArith,f.raw i,f.raw h,j],.d (.raw Z)⟩
theorem sh(i:s.ev x=some (.d (.raw (.int k a))))(h:s.ev y=some (.d (.raw (.int k b))))(o:¬b=0)(j:k.wrap (a.tdiv b)=v)(l:Nat.blt d s.n=true):AA P F ⟨some d,.binOp .quo T x y T',ty,pos,aft,g⟩ s d (.d (.raw (.int k v))):=
 DG _ l λ_ r _ f=>⟨_,by simp[execOp,eqGuard,binOp,Op.intDiv,f.raw i,f.raw h,j,o],.d (.raw Z)⟩
theorem QX(f:s.ev x=some (.d (.raw (.bool t))))(i:Nat.blt d s.n=true):AA P F ⟨some d,.unOp .not T x,ty,pos,aft,g⟩ s d (.d (.raw (.bool (!t)))):=
 DG _ i λ_ j _ h=>⟨_,by simp[execOp,Op.unary,h.raw f],.d (.raw Z)⟩
theorem nq{a b:ByteArray}(i:s.ev x=some (.d (.raw (.string a))))(h:s.ev y=some (.d (.raw (.string b))))(j:Nat.blt d s.n=true):AA P F ⟨some d,.binOp .eql T x y T',ty,pos,aft,g⟩ s d (.d (.raw (.bool (decide (a.toList=b.toList))))):=
 DG _ j λ_ l _ f=>⟨.bool (a.toList==b.toList),by simp[execOp,eqGuard,binOp,Op.stringOp,f.raw i,f.raw h],by
  rw[show (a.toList==b.toList)=decide (a.toList=b.toList) by rw[nG];simp];exact .d (.raw Z)⟩
theorem np{a b:ByteArray}(i:s.ev x=some (.d (.raw (.string a))))(h:s.ev y=some (.d (.raw (.string b))))(j:Nat.blt d s.n=true):AA P F ⟨some d,.binOp .neq T x y T',ty,pos,aft,g⟩ s d (.d (.raw (.bool (decide (¬a.toList=b.toList))))):=
 DG _ j λ_ l _ f=>⟨.bool !(a.toList==b.toList),by simp[execOp,eqGuard,binOp,Op.stringOp,f.raw i,f.raw h],by
  rw[show (!(a.toList==b.toList))=decide (¬a.toList=b.toList) by rw[nG];simp];exact .d (.raw Z)⟩
theorem Y2{a b:ByteArray}(i:s.ev x=some (.d (.raw (.string a))))(h:s.ev y=some (.d (.raw (.string b))))(j:Nat.blt d s.n=true):AA P F ⟨some d,.binOp .lss T x y T',ty,pos,aft,g⟩ s d (.d (.raw (.bool (Op.bytesLess a.toList b.toList)))):=
 DG _ j λ_ l _ f=>⟨_,by simp[execOp,eqGuard,binOp,Op.stringOp,f.raw i,f.raw h],.d (.raw Z)⟩
theorem Jq{p:Prop}[Decidable p](f:s.ev x=some (.d (.raw (.bool (decide p)))))(i:Nat.blt d s.n=true):AA P F ⟨some d,.unOp .not T x,ty,pos,aft,g⟩ s d (.d (.raw (.bool (decide (¬p))))):=
 DG _ i λ_ j _ h=>⟨.bool (!decide p),by simp[execOp,Op.unary,h.raw f],by rw[show (!decide p)=decide (¬p) by simp];exact .d (.raw Z)⟩
theorem En(f:s.ev x=some (.d (.raw (.bool false))))(h:Nat.blt d s.n=true):AA P F ⟨some d,.unOp .not T x,ty,pos,aft,g⟩ s d (.d (.raw (.bool true))):=QX f h
theorem Wv(f:s.ev x=some (.d (.raw (.int k a))))(h:k.wrap (0-a)=v)(j:Nat.blt d s.n=true):AA P F ⟨some d,.unOp .neg T x,ty,pos,aft,g⟩ s d (.d (.raw (.int k v))):=
 DG _ j λ_ l _ i=>⟨.int k (k.wrap (0-a)),by simp[execOp,Op.unary,Op.intArith,i.raw f],by rw[h];exact .d (.raw Z)⟩
theorem D3{l:List AV}(t:s.ev x=some (.tup l))(r:l[i]? =some A)(D:Nat.blt d s.n=true):AA P F ⟨some d,.extract x i,ty,pos,aft,g⟩ s d A:=
 DG _ D λ_ j w B=>by
  have h:=B.ev t
  generalize z:j.eval x=u at h
  cases h with
  | @tup _ o C h=>
   have f:i<o.length:=by rw[C];exact (φ.1 r).1
   exact ⟨o[i],by simp[execOp,Instr.extract,z,f],h i A _ r (ω f)⟩
theorem Cc{l:List D}{A:D}(t:s.ev x=some (.d (.tup l)))(r:l[i]? =some A)(E:Nat.blt d s.n=true):AA P F ⟨some d,.extract x i,ty,pos,aft,g⟩ s d (.d A):=
 DG _ E λ_ j w B=>by
  have h:=B.repD t
  generalize z:j.eval x=u at h
  cases h with
  | @tup _ o C h=>
   have f:i<o.length:=by rw[C];exact (φ.1 r).1
   exact ⟨o[i],by simp[execOp,Instr.extract,z,f],.d (h i A _ r (ω f))⟩
end
variable{a:Nat->Prop}{c:Value}{w:World}
theorem AZ.sl_len{i:Option Bool}{j:List D}(h:AZ w a (.sl i j) c):∃f g,c= .slice f j.length g/\j.length<=g/\g<=maxLen/\∀b,i=some b->f.isNone=b:=by
 cases h with
 | sl k o t l s r x y u=>subst l;exact ⟨_,_,Z,s,r,o⟩
theorem D.cells_one{x:D}(h:x.one=true):x.cells=[x]:=by cases x<;>first | rfl | cases h
def TL(P:Program)(T:TypeId):D->Bool
 | .agg cs=>CI P T cs.length
 | .tup _=>false
 | _=>BW P T
theorem P1{n:Nat}(f:Nat->Value):∃l:List Value,l.length=n/\∀j,j<n->l[j]? =some (f j):=⟨(List.range n).map f,by simp,λj a=>by simp[a]⟩
theorem IQ{P:Program}{T:TypeId}{x:D}(g:TL P T x=true)(h:AZ w a (.ptr x) c):∃u,(Instr.loadAt T c).run P w= .ok u w/\AZ w a x u:=by
 cases h with
 | @ptr _ b o E K L I A C=>
  have one:∀B:x.one=true,BW P T=true->∃u,(Instr.loadAt T (.pointer (some ⟨b,o,none⟩))).run P w= .ok u w/\AZ w a x u:=λB g=>by
   rw[D.cells_one B] at A C;have J:=A 0 x rfl;simp only[l7] at J
   simp[*,Instr.loadAt,Instr.sureAddr,loadVar,Ec]
  cases x with
  | agg y=>
   simp only[TL] at g;obtain ⟨⟨d,H,G⟩,F⟩:=Fy g;obtain ⟨l,z,k⟩:=P1 (n:=y.length) E;refine ⟨.agg l.toArray,run_loadAt_mid w b o T l d (λj c s=>?_) H G (by rw[z];exact F),.agg z I λi f c r s=>?_⟩
   .have t:j<y.length:=by rw[<-z];exact (φ.1 s).1
    rw[A j y[j] (ω t),<-k j t,s]
   .have t:i<y.length:=(φ.1 r).1;have:=k i t;rw[s] at this;injection this with this
    subst this;exact C i f r
  | tup _=>simp[TL] at g
  | raw _=>exact one Z g
  | sl _ _=>exact one Z g
  | ptr _=>exact one Z g
  | fn _ _ _=>exact one Z g
section
variable{P:Program}{F:Fr}{s:AS}{d:Nat}{ty T E:TypeId}{pos:String}{aft:Array Edge}{g:Option (Nat×Bool)}{x y:Operand}{k:IntKind}{i:Int}
variable{a:Option Bool}{c:List D}{f:Option Addr}{h:Nat}{j o:IntKind}{w:World}{t:Nat}{u:List D}{z:Array TypeId}{A B:Operand}{C G:TypeId}{H I:Int}{K:D}{L M:Nat}
theorem I2(f:s.ev x=some (.d (.sl a c)))(j:c.length=t)(o:P.underlying T=some (.slice E))(l:Nat.blt d s.n=true):
  AA P F ⟨some d,.call {callee:= .builtin .len,args:= #[x],argTypes:= #[T]},ty,pos,aft,g⟩ s d (.d (.raw (.int .i64 (t:Int)))):=
 DG _ l λ_ v w h=>by
  obtain ⟨b,u,r,_⟩:=(h.repD f).sl_len;subst j;exact ⟨_,by simp[execOp,resolve,invoke,builtin,Builtin.len_,run_underlying o,r,goInt],.d (.raw Z)⟩
theorem BU{b:Type}{f:b->D}{l:List b}(c:s.ev x=some (.d (.sl a (List.map f l))))(j:P.underlying T=some (.slice E))(h:Nat.blt d s.n=true):
  AA P F ⟨some d,.call {callee:= .builtin .len,args:= #[x],argTypes:= #[T]},ty,pos,aft,g⟩ s d (.d (.raw (.int .i64 (l.length:Int)))):=
 I2 c (χ _) j h
theorem SZ{f j:Nat}(b:s.ev x=some (.own f j t))(r:P.underlying T=some (.slice E))(o:Nat.blt d s.n=true):
  AA P F ⟨some d,.call {callee:= .builtin .len,args:= #[x],argTypes:= #[T]},ty,pos,aft,g⟩ s d (.d (.raw (.int .i64 (t:Int)))):=
 DG _ o λ_ a w l=>by
  have h:=l.ev b
  generalize c:a.eval x=u at h
  cases h with
  | own z v=>exact ⟨_,by simp[execOp,resolve,invoke,builtin,Builtin.len_,run_underlying r,c,goInt],.d (.raw Z)⟩
theorem Sc{a b v:Int}(h:s.ev x=some (.d (.raw (.int k a))))(f:s.ev y=some (.d (.raw (.int k b))))(j:(if b<a then b else a)=v)(l:Nat.blt d s.n=true):
  AA P F ⟨some d,.call {callee:= .builtin .min,args:= #[x,y],argTypes:=z},ty,pos,aft,g⟩ s d (.d (.raw (.int k v))):=
 DG _ l λ_ o w c=>⟨_,by simp[execOp,resolve,invoke,builtin,Builtin.min_,Builtin.min2,c.raw h,c.raw f,j,List.foldlM],.d (.raw Z)⟩
theorem MR{a b v:Int}(h:s.ev x=some (.d (.raw (.int k a))))(f:s.ev y=some (.d (.raw (.int k b))))(j:(if b>a then b else a)=v)(l:Nat.blt d s.n=true):
  AA P F ⟨some d,.call {callee:= .builtin .max,args:= #[x,y],argTypes:=z},ty,pos,aft,g⟩ s d (.d (.raw (.int k v))):=
 DG _ l λ_ o w c=>⟨_,by simp[execOp,resolve,invoke,builtin,Builtin.max_,Builtin.max2,c.raw h,c.raw f,j,List.foldlM],.d (.raw Z)⟩
theorem Al(j:Nat)(H:s.ev x=some (.d (.sl a c)))(G:s.ev y=some (.d (.raw (.int k i))))(M:i=(j:Int))(z:c[j]? =some K)(Q:P.underlying T=some (.slice E)){B:Nat}(t:K.cells.length=B)(R:A3 P E B=true)(N:Nat.blt d s.n=true):
  AA P F ⟨some d,.indexAddr T x y,ty,pos,aft,g⟩ s d (.d (.ptr K)):=
 DG _ N λ_ A w D=>by
  have h:=D.repD H
  generalize I:A.eval x=u at h
  subst M t;have l:j<c.length:=(φ.1 z).1
  cases h with
  | @sl _ _ f n S C V U r X W L O J=>
   obtain ⟨b,o,rfl⟩:=O (by intro h;subst h;simp at l);have v:K.cells.length=C:=L K (ϖ z);subst r;refine ⟨.pointer (some ⟨b,o+j*C,none⟩),?_,.d (J b o Z j K z)⟩
   simp[execOp,Instr.indexAt,asIntOf,D.raw G,I,run_underlying Q,l,nP (Zq R),v,Addr.add_mid]
theorem BZ(b:s.ev x=some (.d (.ptr K)))(a:K.one=true)(j:BW P T=true)(h:Nat.blt d s.n=true):
  AA P F ⟨some d,.load T x,ty,pos,aft,g⟩ s d (.d K):=
 DG _ h λ_ o w c=>by
  have f:TL P T K=true:=by cases K<;>first | exact j | cases a
  obtain ⟨u,a,l⟩:=IQ f (c.repD b);exact ⟨u,by simp[execOp,a],.d l⟩
theorem CY{a:List D}(b:s.ev x=some (.d (.ptr (.agg a))))(f:a.length=t)(j:CI P T t=true)(h:Nat.blt d s.n=true):
  AA P F ⟨some d,.load T x,ty,pos,aft,g⟩ s d (.d (.agg a)):=
 DG _ h λ_ r w c=>by
  subst f;obtain ⟨u,o,l⟩:=IQ (T:=T) (x:= .agg a) j (c.repD b);exact ⟨u,by simp[execOp,o],.d l⟩
theorem AZ.part{O:Nat->Prop}{u:Nat}(j:AZ w O (.sl a c) (.slice f t u)){v:Nat}(S:L<=v)(V:v<=c.length)(H:∀x∈c,x.cells.length=h):
  AZ w O (.sl a ((c.drop L).take (v-L))) (.slice (if u=L then f else f.map (·.add (L*h))) (v-L) (u-L)):=by
 cases j with
 | sl k R Q B W K D M J=>
  subst B;refine .sl h ?_ (λe=>?_) (by rw[η,lX];omega) (by omega) (by unfold maxLen at K⊢;omega) (λx r=>H x (List.mem_of_mem_drop (lI r))) (λz=>?_) (λb o G i x r=>?_)
  .grind
  .have:f=none:=by
    split at e
    all_goals (simp_all)
   grind
  .have X:c≠ []:=by intro e;subst e;simp at z
   grind[Addr.add_mid]
  .rw[m6] at r
   split at r
   .rename_i U
    rw[ms] at r;have A:L+i<c.length:=(φ.1 r).1;obtain ⟨N,I,rfl⟩:=M (by intro e;subst e;simp at A);have C:k=h:=by rw[<-D x (ϖ r),H x (ϖ r)]
    subst C;rw[ν (by omega)] at G;simp only[lW,Addr.add_mid,Option.some.injEq,Addr.mk.injEq] at G;obtain ⟨rfl,rfl,_⟩:=G;have:=J N I Z (L+i) x r;rw[mY,<-Nat.add_assoc] at this;exact this
   .cases r
theorem XE(r:P.underlying G=some (.slice C))(u:(P.info? C).map (·.size)=some h){b:Nat}(z:L<=b)(v:b<=M):
  (Instr.sliceAt G (.slice f t M) (some (.int j L)) (some (.int o b)) none).run P w= .ok (.slice (if M=L then f else f.map (·.add (L*h))) (b-L) (M-L)) w:=by simp[*,Instr.sliceAt,Instr.slice,run_underlying,Instr.sliceBounds,Instr.sliceBound,asIntOf,nP]
theorem Kx(b:P.underlying G=some (.slice C))(o:(P.info? C).map (·.size)=some h)(r:L<=t):
  (Instr.sliceAt G (.slice f t M) (some (.int j L)) none none).run P w= .ok (.slice (if M=L then f else f.map (·.add (L*h))) (t-L) (M-L)) w:=by simp[*,Instr.sliceAt,Instr.slice,run_underlying,Instr.sliceBounds,Instr.sliceBound,asIntOf,nP]
theorem Hg(j:P.underlying G=some (.slice C))(l:(P.info? C).map (·.size)=some h){b:Nat}(r:b<=M):
  (Instr.sliceAt G (.slice f t M) none (some (.int o b)) none).run P w= .ok (.slice (if M=0 then f else f.map (·.add (0*h))) (b-0) (M-0)) w:=by simp[*,Instr.sliceAt,Instr.slice,run_underlying,Instr.sliceBounds,Instr.sliceBound,asIntOf,nP]
theorem aN(l b:Nat)(K:s.ev x=some (.d (.sl a c)))(C:s.ev B=some (.d (.raw (.int j H))))(D:s.ev A=some (.d (.raw (.int o I))))(L:H=(l:Int))(N:I=(b:Int))(J:l<=b)(G:b<=c.length)(R:P.underlying T=some (.slice E))(S:A3 P E h=true)(M:∀e∈c,e.cells.length=h)(t:(c.drop l).take (b-l)=u)(O:Nat.blt d s.n=true):
  AA P F ⟨some d,.slice T x (some B) (some A) none,ty,pos,aft,g⟩ s d (.d (.sl a u)):=
 DG _ O λ_ U w v=>by
  have z:=v.repD K;obtain ⟨f,r,e,Q,_,_⟩:=z.sl_len;rw[e] at z;subst L N t;exact ⟨.slice (if r=l then f else f.map (·.add (l*h))) (b-l) (r-l),by simp only[execOp,e,lW,mZ,v.raw C,v.raw D,Sem.run_bind,XE R (Zq S) J (jp G Q),Result.andThen_ok,Sem.run_pure],.d (z.part J G M)⟩
theorem Ws(l:Nat)(A:s.ev x=some (.d (.sl a c)))(t:s.ev B=some (.d (.raw (.int j H))))(C:H=(l:Int))(z:l<=c.length)(I:P.underlying T=some (.slice E))(J:A3 P E h=true)(D:∀e∈c,e.cells.length=h)(o:c.drop l=u)(G:Nat.blt d s.n=true):
  AA P F ⟨some d,.slice T x (some B) none none,ty,pos,aft,g⟩ s d (.d (.sl a u)):=
 DG _ G λ_ K w v=>by
  have r:=v.repD A;obtain ⟨b,f,e,L,_,_⟩:=r.sl_len;rw[e] at r;subst C o;refine ⟨.slice (if f=l then b else b.map (·.add (l*h))) (c.length-l) (f-l),by simp only[execOp,e,lW,mZ,v.raw t,Sem.run_bind,Kx I (Zq J) z,Result.andThen_ok,Sem.run_pure],.d ?_⟩;have:=r.part z (Θ _) D
  rwa [θ (by rw[lX];exact Θ _)] at this
theorem Wt(b:Nat)(B:s.ev x=some (.d (.sl a c)))(t:s.ev A=some (.d (.raw (.int o I))))(D:I=(b:Int))(z:b<=c.length)(J:P.underlying T=some (.slice E))(K:A3 P E h=true)(C:∀e∈c,e.cells.length=h)(l:c.take b=u)(G:Nat.blt d s.n=true):
  AA P F ⟨some d,.slice T x none (some A) none,ty,pos,aft,g⟩ s d (.d (.sl a u)):=
 DG _ G λ_ L w v=>by
  have r:=v.repD B;obtain ⟨f,j,e,H,_,_⟩:=r.sl_len;rw[e] at r;subst D l;refine ⟨.slice (if j=0 then f else f.map (·.add (0*h))) (b-0) (j-0),by simp only[execOp,e,lW,mZ,v.raw t,Sem.run_bind,Hg J (Zq K) (jp z H),Result.andThen_ok,Sem.run_pure],.d ?_⟩;have:=r.part (κ b) z C
  simpa using this
end
section
variable{P:Program}{F:Fr}{s:AS}{d:Nat}{ty T T' E:TypeId}{pos:String}{aft:Array Edge}{g:Option (Nat×Bool)}{x y:Operand}
theorem Vj{a:BinOp}{t:TypeId}{x y:Operand}{p q:Option Addr}{w:World}:(eqGuard a t x y (.pointer p) (.pointer q)).run P w= .ok () w:=by
 cases a<;>simp[eqGuard]
end
variable{a:List (Nat×List AL)}{Q:Exit->AS->Prop}{c:List (Nat×AV)}{f:Array Edge}{g:Array Oper}{h:List Oper}{i:String}{P:Program}{j:TypeId}{x:Operand}{k o:Nat}{s:AV}{F:Fr}
theorem ch(b:AS.ev ⟨o,c,a⟩ x=some s)(l:Nat.blt k o=true)(r:An P F g h Q ⟨o,(k,s)::c,a⟩):An P F g (⟨some k,.move x,j,i,f,none⟩::h) Q ⟨o,c,a⟩:=J (FW b l) r
theorem AB(b:AS.ev ⟨o,c,a⟩ x=some s)(l:Nat.blt k o=true)(r:An P F g h Q ⟨o,(k,s)::c,a⟩):An P F g (⟨some k,.assign x,j,i,f,none⟩::h) Q ⟨o,c,a⟩:=J (J5 b l) r
end Go.Proofs.YteifpcnphnhaoaaGreat
