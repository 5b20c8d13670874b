/- The rules of single operations over abstract states: values, reads. No program in sight. -/
import Derived.Test.YtlmedakidpaeeaaMg2
import Derived.IntWalk
import Derived.Laws.Pointers
import Derived.Laws.IdiomStrings
import Derived.WalkSpells
namespace Go.Proofs.Ytlmedakidpaeeaa
open Go.RowKit
theorem SR.raw {F:Fr} {s:AS} {ρ:Nat ->Nat ->Value} {act:Act} {w:World} (h:SR F s ρ act w) {x:Operand} {v:Value} (hx:s.ev x=some (.d (.raw v))):act.eval x=v:=by
 have h1:=h.ev hx
 cases h1 with
 | d h1=>
  generalize hv:act.eval x=u at h1
  cases h1 with
  | raw _=>rfl
theorem SR.repD {F:Fr} {s:AS} {ρ:Nat ->Nat ->Value} {act:Act} {w:World} (h:SR F s ρ act w) {x:Operand} {d:D} (hx:s.ev x=some (.d d)):AP w (F.O ρ s.hp) d (act.eval x):=by
 have h1:=h.ev hx
 generalize act.eval x=u at h1
 cases h1 with
 | d h1=>exact h1
def Bh (P:Program) (T:TypeId):Bool:=match P.underlying T with
 | some (.struct _)=>false
 | some (.array _ _)=>false
 | none=>false
 | some _=>true
def Dk (P:Program) (T:TypeId) (n:Nat):Bool:=(match P.underlying T with
 | some (.struct _)=>true
 | some (.array _ _)=>true
 | _=>false) &&(match P.info? T with
 | some i=>Nat.beq i.size n
 | none=>false)
def Ad (P:Program) (T:TypeId) (n:Nat):Bool:=match P.info? T with
 | some i=>Nat.beq i.size n
 | none=>false
theorem OO {P:Program} {T:TypeId} {n:Nat} (h:Ad P T n=true):(P.info? T).map (·.size)=some n:=by
 unfold Ad at h
 split at h
 ·rename_i i hi;rw [hi];simp [Nat.eq_of_beq_eq_true h]
 ·cases h
theorem Zck {P:Program} {T:TypeId} {n:Nat} (h:(P.info? T).map (·.size)=some n) (w:World):(sizeOf T).run P w= .ok n w:=by
 unfold sizeOf typeInfo
 cases hi:P.info? T with
 | none=>rw [hi] at h;cases h
 | some i=>rw [hi] at h;simp at h;simp [hi,h]
def slTyB (P:Program) (t e size bytes:Nat):Bool:=(match P.underlying t with
 | some (.slice e')=>Nat.beq e' e
 | _=>false) &&(match P.info? e with
 | some i=>match i.zero with
  | some z=>Nat.beq i.size size && Nat.beq i.bytes bytes && Nat.beq z.cells.size size
  | none=>false
 | none=>false) && Nat.blt 0 size && Nat.blt 0 bytes
theorem Di {P:Program} {t e size bytes:Nat} (h:slTyB P t e size bytes=true):SlTy P t e size bytes:=by
 simp only [slTyB,Bool.and_eq_true] at h;obtain ⟨⟨⟨h1,h2⟩,h3⟩,h4⟩:=h;refine ⟨?_,?_,GL h3,GL h4⟩
 ·split at h1
  ·rename_i e' he;rw [he,Nat.eq_of_beq_eq_true h1]
  ·cases h1
 ·split at h2
  ·rename_i i hi
   split at h2
   ·rename_i z hz
    simp only [Bool.and_eq_true] at h2;exact ⟨i,z,hi,hz,Nat.eq_of_beq_eq_true h2.1.1,Nat.eq_of_beq_eq_true h2.1.2,Nat.eq_of_beq_eq_true h2.2⟩
   ·cases h2
  ·cases h2
theorem Cj {P:Program} {T:TypeId} (h:Bh P T=true) (w:World):(isAgg T).run P w= .ok false w:=by
 unfold Bh at h;unfold isAgg
 cases hu:P.underlying T with
 | none=>rw [hu] at h;cases h
 | some d=>
  rw [Sem.run_bind,run_underlying hu w]
  cases d<;>simp_all
theorem Ed {P:Program} {T:TypeId} {n:Nat} (h:Dk P T n=true):(∃d,P.underlying T=some d∧d.isRow=true)∧(P.info? T).map (·.size)=some n:=by
 unfold Dk at h;simp only [Bool.and_eq_true] at h;refine ⟨?_,OO h.2⟩
 cases hu:P.underlying T with
 | none=>rw [hu] at h;exact absurd h.1 (by simp)
 | some d=>rw [hu] at h;exact ⟨d,rfl,by cases d<;>first | rfl | (simp at h)⟩
section
variable {P:Program} {F:Fr} {s:AS} {d:Nat} {ty T T':TypeId} {pos:String} {aft:Array Edge} {g:Option (Nat×Bool)} {x y c:Operand} {k k':IntKind} {a b v:Int}
theorem Ah {A:AV} (hx:s.ev x=some A) (hd:Nat.blt d s.n=true):AA P F ⟨some d,.move x,ty,pos,aft,g⟩ s d A:=
 Bo A hd fun _ act _ hs=>⟨act.eval x,by simp [execOp],hs.ev hx⟩
theorem Cf {A:AV} (hx:s.ev x=some A) (hd:Nat.blt d s.n=true):AA P F ⟨some d,.assign x,ty,pos,aft,g⟩ s d A:=
 Bo A hd fun _ act _ hs=>⟨act.eval x,by simp [execOp],hs.ev hx⟩
theorem Hz {A:AV} {t:Bool} (hc:s.ev c=some (.d (.raw (.bool t)))) (ht:t=true) (hx:s.ev x=some A) (hd:Nat.blt d s.n=true):AA P F ⟨some d,.pick c x y,ty,pos,aft,g⟩ s d A:=
 Bo _ hd fun _ act _ hs=>⟨act.eval x,by simp [execOp,hs.raw hc,asBool,ht],hs.ev hx⟩
theorem HO {A:AV} {t:Bool} (hc:s.ev c=some (.d (.raw (.bool t)))) (ht:t=false) (hy:s.ev y=some A) (hd:Nat.blt d s.n=true):AA P F ⟨some d,.pick c x y,ty,pos,aft,g⟩ s d A:=
 Bo _ hd fun _ act _ hs=>⟨act.eval y,by simp [execOp,hs.raw hc,asBool,ht],hs.ev hy⟩
theorem EG (hx:s.ev x=some (.d (.raw (.int k a)))) (hy:s.ev y=some (.d (.raw (.int k b)))) (hd:Nat.blt d s.n=true):AA P F ⟨some d,.binOp .lss T x y T',ty,pos,aft,g⟩ s d (.d (.raw (.bool (decide (a<b))))):=
 Bo _ hd fun _ act _ hs=>⟨_,by simp [execOp,eqGuard,binOp,Op.intCmp,hs.raw hx,hs.raw hy],.d (.raw rfl)⟩
theorem Ke (hx:s.ev x=some (.d (.raw (.int k a)))) (hy:s.ev y=some (.d (.raw (.int k b)))) (hd:Nat.blt d s.n=true):AA P F ⟨some d,.binOp .gtr T x y T',ty,pos,aft,g⟩ s d (.d (.raw (.bool (decide (b<a))))):=
 Bo _ hd fun _ act _ hs=>⟨_,by simp [execOp,eqGuard,binOp,Op.intCmp,hs.raw hx,hs.raw hy],.d (.raw rfl)⟩
theorem Ic (hx:s.ev x=some (.d (.raw (.int k a)))) (hy:s.ev y=some (.d (.raw (.int k b)))) (hd:Nat.blt d s.n=true):AA P F ⟨some d,.binOp .geq T x y T',ty,pos,aft,g⟩ s d (.d (.raw (.bool (decide (b≤a))))):=
 Bo _ hd fun _ act _ hs=>⟨_,by simp [execOp,eqGuard,binOp,Op.intCmp,hs.raw hx,hs.raw hy],.d (.raw rfl)⟩
theorem GC (hx:s.ev x=some (.d (.raw (.int k a)))) (hy:s.ev y=some (.d (.raw (.int k b)))) (hd:Nat.blt d s.n=true):AA P F ⟨some d,.binOp .eql T x y T',ty,pos,aft,g⟩ s d (.d (.raw (.bool (decide (a=b))))):=
 Bo _ hd fun _ act _ hs=>⟨.bool (a==b),by simp [execOp,eqGuard,binOp,Op.intCmp,hs.raw hx,hs.raw hy],.d (.raw rfl)⟩
theorem Jh (hx:s.ev x=some (.d (.raw (.int k a)))) (hy:s.ev y=some (.d (.raw (.int k b)))) (hd:Nat.blt d s.n=true):AA P F ⟨some d,.binOp .neq T x y T',ty,pos,aft,g⟩ s d (.d (.raw (.bool (decide (¬a=b))))):=
 Bo _ hd fun _ act _ hs=>⟨.bool (a !=b),by simp [execOp,eqGuard,binOp,Op.intCmp,hs.raw hx,hs.raw hy],by
  rw [show (a !=b)=decide (¬a=b) by simp [bne];rfl];exact .d (.raw rfl)⟩
theorem C8 (hx:s.ev x=some (.d (.raw (.int k a)))) (hy:s.ev y=some (.d (.raw (.int k b)))) (hv:k.wrap (a+b)=v) (hd:Nat.blt d s.n=true):AA P F ⟨some d,.binOp .add T x y T',ty,pos,aft,g⟩ s d (.d (.raw (.int k v))):=
 Bo _ hd fun _ act _ hs=>⟨_,by simp [execOp,eqGuard,binOp,Op.intArith,hs.raw hx,hs.raw hy,hv],.d (.raw rfl)⟩
theorem Cc (hx:s.ev x=some (.d (.raw (.int k a)))) (hy:s.ev y=some (.d (.raw (.int k b)))) (hv:k.wrap (a - b)=v) (hd:Nat.blt d s.n=true):AA P F ⟨some d,.binOp .sub T x y T',ty,pos,aft,g⟩ s d (.d (.raw (.int k v))):=
 Bo _ hd fun _ act _ hs=>⟨_,by simp [execOp,eqGuard,binOp,Op.intArith,hs.raw hx,hs.raw hy,hv],.d (.raw rfl)⟩
theorem FA {t:Bool} (hx:s.ev x=some (.d (.raw (.bool t)))) (hd:Nat.blt d s.n=true):AA P F ⟨some d,.unOp .not T x,ty,pos,aft,g⟩ s d (.d (.raw (.bool (!t)))):=
 Bo _ hd fun _ act _ hs=>⟨_,by simp [execOp,Op.unary,hs.raw hx],.d (.raw rfl)⟩
theorem F5 {a b:ByteArray} (hx:s.ev x=some (.d (.raw (.string a)))) (hy:s.ev y=some (.d (.raw (.string b)))) (hd:Nat.blt d s.n=true):AA P F ⟨some d,.binOp .eql T x y T',ty,pos,aft,g⟩ s d (.d (.raw (.bool (decide (a.toList=b.toList))))):=
 Bo _ hd fun _ act _ hs=>⟨.bool (a.toList==b.toList),by simp [execOp,eqGuard,binOp,Op.stringOp,hs.raw hx,hs.raw hy],by
  rw [show (a.toList==b.toList)=decide (a.toList=b.toList) by rw [Bool.eq_iff_iff];simp];exact .d (.raw rfl)⟩
theorem JZ {a b:ByteArray} (hx:s.ev x=some (.d (.raw (.string a)))) (hy:s.ev y=some (.d (.raw (.string b)))) (hd:Nat.blt d s.n=true):AA P F ⟨some d,.binOp .neq T x y T',ty,pos,aft,g⟩ s d (.d (.raw (.bool (decide (¬a.toList=b.toList))))):=
 Bo _ hd fun _ act _ hs=>⟨.bool !(a.toList==b.toList),by simp [execOp,eqGuard,binOp,Op.stringOp,hs.raw hx,hs.raw hy],by
  rw [show (!(a.toList==b.toList))=decide (¬a.toList=b.toList) by rw [Bool.eq_iff_iff];simp];exact .d (.raw rfl)⟩
theorem EK {a b:ByteArray} (hx:s.ev x=some (.d (.raw (.string a)))) (hy:s.ev y=some (.d (.raw (.string b)))) (hd:Nat.blt d s.n=true):AA P F ⟨some d,.binOp .lss T x y T',ty,pos,aft,g⟩ s d (.d (.raw (.bool (Op.bytesLess a.toList b.toList)))):=
 Bo _ hd fun _ act _ hs=>⟨_,by simp [execOp,eqGuard,binOp,Op.stringOp,hs.raw hx,hs.raw hy],.d (.raw rfl)⟩
theorem Ft {a b:Bool} (hT:P.underlying T=some .bool) (hx:s.ev x=some (.d (.raw (.bool a)))) (hy:s.ev y=some (.d (.raw (.bool b)))) (hd:Nat.blt d s.n=true):AA P F ⟨some d,.binOp .eql T x y T',ty,pos,aft,g⟩ s d (.d (.raw (.bool (decide (a=b))))):=
 Bo _ hd fun _ act _ hs=>⟨.bool (a==b),by simp [execOp,eqGuard,binOp,run_equal_bool _ T a b hT,hs.raw hx,hs.raw hy],by
  rw [show (a==b)=decide (a=b) by cases a<;>cases b<;>rfl];exact .d (.raw rfl)⟩
theorem Ji {a b:Bool} (hT:P.underlying T=some .bool) (hx:s.ev x=some (.d (.raw (.bool a)))) (hy:s.ev y=some (.d (.raw (.bool b)))) (hd:Nat.blt d s.n=true):AA P F ⟨some d,.binOp .neq T x y T',ty,pos,aft,g⟩ s d (.d (.raw (.bool (decide (¬a=b))))):=
 Bo _ hd fun _ act _ hs=>⟨.bool !(a==b),by simp [execOp,eqGuard,binOp,run_equal_bool _ T a b hT,hs.raw hx,hs.raw hy],by
  rw [show (!(a==b))=decide (¬a=b) by cases a<;>cases b<;>rfl];exact .d (.raw rfl)⟩
theorem FB {p:Prop} [Decidable p] (hx:s.ev x=some (.d (.raw (.bool (decide p))))) (hd:Nat.blt d s.n=true):AA P F ⟨some d,.unOp .not T x,ty,pos,aft,g⟩ s d (.d (.raw (.bool (decide (¬p))))):=
 Bo _ hd fun _ act _ hs=>⟨.bool (!decide p),by simp [execOp,Op.unary,hs.raw hx],by rw [show (!decide p)=decide (¬p) by simp];exact .d (.raw rfl)⟩
theorem Bj {l:List AV} {i:Nat} {A:AV} (hx:s.ev x=some (.tup l)) (hi:l[i]?=some A) (hd:Nat.blt d s.n=true):AA P F ⟨some d,.extract x i,ty,pos,aft,g⟩ s d A:=
 Bo _ hd fun _ act w hs=>by
  have h:=hs.ev hx
  generalize hv:act.eval x=u at h
  cases h with
  | @tup _ vs hl h=>
   have hlt:i<vs.length:=by rw [hl];exact (List.getElem?_eq_some_iff.1 hi).1
   exact ⟨vs[i],by simp [execOp,Instr.extract,hv,hlt],h i A _ hi (List.getElem?_eq_getElem hlt)⟩
theorem Bi {l:List D} {i:Nat} {A:D} (hx:s.ev x=some (.d (.tup l))) (hi:l[i]?=some A) (hd:Nat.blt d s.n=true):AA P F ⟨some d,.extract x i,ty,pos,aft,g⟩ s d (.d A):=
 Bo _ hd fun _ act w hs=>by
  have h:=hs.repD hx
  generalize hv:act.eval x=u at h
  cases h with
  | @tup _ vs hl h=>
   have hlt:i<vs.length:=by rw [hl];exact (List.getElem?_eq_some_iff.1 hi).1
   exact ⟨vs[i],by simp [execOp,Instr.extract,hv,hlt],.d (h i A _ hi (List.getElem?_eq_getElem hlt))⟩
end
theorem AP.sl_len {w:World} {O:Nat ->Prop} {nil:Option Bool} {xs:List D} {v:Value} (h:AP w O (.sl nil xs) v):∃a cap,v= .slice a xs.length cap∧xs.length≤cap∧cap≤maxLen∧∀b,nil=some b ->a.isNone=b:=by
 cases h with
 | sl k hn hz hln hc hm hk ha hp=>subst hln;exact ⟨_,_,rfl,hc,hm,hn⟩
theorem D.cells_one {x:D} (h:x.one=true):x.cells=[x]:=by cases x<;>first | rfl | cases h
def LH (P:Program) (T:TypeId):D ->Bool
 | .agg cs=>Dk P T cs.length
 | .tup _=>false
 | _=>Bh P T
theorem Iw {n:Nat} (f:Nat ->Value):∃l:List Value,l.length=n∧∀j,j<n ->l[j]?=some (f j):=⟨(List.range n).map f,by simp,fun j hj=>by simp [hj]⟩
theorem Ex {P:Program} {T:TypeId} {w:World} {O:Nat ->Prop} {x:D} {v:Value} (hT:LH P T x=true) (h:AP w O (.ptr x) v):∃u,(Instr.loadAt T v).run P w= .ok u w∧AP w O x u:=by
 cases h with
 | @ptr _ b o us hb hO h1 hc hu=>
  have one:∀hx:x.one=true,Bh P T=true ->∃u,(Instr.loadAt T (.pointer (some ⟨b,o,none⟩))).run P w= .ok u w∧AP w O x u:=fun hx hT=>by
   rw [D.cells_one hx] at hc hu;have h0:=hc 0 x rfl;simp only [Nat.add_zero] at h0;refine ⟨us 0,?_,hu 0 x rfl⟩
   simp [Instr.loadAt,Instr.sureAddr,loadVar,Cj hT,h0]
  cases x with
  | agg cs=>
   simp only [LH] at hT;obtain ⟨⟨d,h3,h4⟩,h5⟩:=Ed hT;obtain ⟨l,hl,hlj⟩:=Iw (n:=cs.length) us;refine ⟨.agg l.toArray,run_loadAt_mid w b o T l d (fun j v hv=>?_) h3 h4 (by rw [hl];exact h5),.agg hl h1 fun i c v hcs hv=>?_⟩
   ·have hj:j<cs.length:=by rw [←hl];exact (List.getElem?_eq_some_iff.1 hv).1
    rw [hc j cs[j] (List.getElem?_eq_getElem hj),←hlj j hj,hv]
   ·have hj:i<cs.length:=(List.getElem?_eq_some_iff.1 hcs).1;have:=hlj i hj;rw [hv] at this;injection this with this
    subst this;exact hu i c hcs
  | tup _=>simp [LH] at hT
  | raw _=>exact one rfl hT
  | sl _ _=>exact one rfl hT
  | ptr _=>exact one rfl hT
  | fn _ _ _=>exact one rfl hT
section
variable {P:Program} {F:Fr} {s:AS} {d:Nat} {ty T E:TypeId} {pos:String} {aft:Array Edge} {g:Option (Nat×Bool)} {x y:Operand} {k:IntKind} {i:Int}
theorem CI {nil:Option Bool} {xs:List D} {n:Nat} (hx:s.ev x=some (.d (.sl nil xs))) (hn:xs.length=n) (hT:P.underlying T=some (.slice E)) (hd:Nat.blt d s.n=true):
  AA P F ⟨some d,.call {callee:= .builtin .len,args:= #[x],argTypes:= #[T]},ty,pos,aft,g⟩ s d (.d (.raw (.int .i64 (n:Int)))):=
 Bo _ hd fun _ act w hs=>by
  obtain ⟨a,cap,h1,_⟩:=(hs.repD hx).sl_len;subst hn;exact ⟨_,by simp [execOp,resolve,invoke,builtin,Builtin.len_,run_underlying hT,h1,goInt],.d (.raw rfl)⟩
theorem IJ {α:Type} {f:α ->D} {nil:Option Bool} {l:List α} (hx:s.ev x=some (.d (.sl nil (List.map f l)))) (hT:P.underlying T=some (.slice E)) (hd:Nat.blt d s.n=true):
  AA P F ⟨some d,.call {callee:= .builtin .len,args:= #[x],argTypes:= #[T]},ty,pos,aft,g⟩ s d (.d (.raw (.int .i64 (l.length:Int)))):=
 CI hx (List.length_map _) hT hd
theorem iOq {f j n:Nat} (hx:s.ev x=some (.own f j n)) (hT:P.underlying T=some (.slice E)) (hd:Nat.blt d s.n=true):
  AA P F ⟨some d,.call {callee:= .builtin .len,args:= #[x],argTypes:= #[T]},ty,pos,aft,g⟩ s d (.d (.raw (.int .i64 (n:Int)))):=
 Bo _ hd fun _ act w hs=>by
  have h:=hs.ev hx
  generalize hv:act.eval x=u at h
  cases h with
  | own h1 h2=>exact ⟨_,by simp [execOp,resolve,invoke,builtin,Builtin.len_,run_underlying hT,hv,goInt],.d (.raw rfl)⟩
theorem IB {b:ByteArray} (hx:s.ev x=some (.d (.raw (.string b)))) (hT:P.underlying T=some .string) (hd:Nat.blt d s.n=true):
  AA P F ⟨some d,.call {callee:= .builtin .len,args:= #[x],argTypes:= #[T]},ty,pos,aft,g⟩ s d (.d (.raw (.int .i64 (b.size:Int)))):=
 Bo _ hd fun _ act w hs=>⟨_,by simp [execOp,resolve,invoke,builtin,Builtin.len_,run_underlying hT,hs.raw hx,goInt],.d (.raw rfl)⟩
theorem st_min {a b v:Int} {t:Array TypeId} (hx:s.ev x=some (.d (.raw (.int k a)))) (hy:s.ev y=some (.d (.raw (.int k b)))) (hv:(if b<a then b else a)=v) (hd:Nat.blt d s.n=true):
  AA P F ⟨some d,.call {callee:= .builtin .min,args:= #[x,y],argTypes:=t},ty,pos,aft,g⟩ s d (.d (.raw (.int k v))):=
 Bo _ hd fun _ act w hs=>⟨_,by simp [execOp,resolve,invoke,builtin,Builtin.min_,Builtin.min2,hs.raw hx,hs.raw hy,hv,List.foldlM],.d (.raw rfl)⟩
theorem BC {nil:Option Bool} {xs:List D} {e:D} (j:Nat) (hx:s.ev x=some (.d (.sl nil xs))) (hy:s.ev y=some (.d (.raw (.int k i)))) (hj:i=(j:Int)) (he:xs[j]?=some e) (hT:P.underlying T=some (.slice E)) {kz:Nat} (hkz:e.cells.length=kz) (hE:Ad P E kz=true) (hd:Nat.blt d s.n=true):
  AA P F ⟨some d,.indexAddr T x y,ty,pos,aft,g⟩ s d (.d (.ptr e)):=
 Bo _ hd fun _ act w hs=>by
  have h:=hs.repD hx
  generalize hv:act.eval x=u at h
  subst hj hkz;have hlt:j<xs.length:=(List.getElem?_eq_some_iff.1 he).1
  cases h with
  | @sl _ _ a n cap kk hn hz hln hc hm hk ha hp=>
   obtain ⟨b,o,rfl⟩:=ha (by intro h;subst h;simp at hlt);have hke:e.cells.length=kk:=hk e (List.mem_of_getElem? he);subst hln;refine ⟨.pointer (some ⟨b,o+j*kk,none⟩),?_,.d (hp b o rfl j e he)⟩
   simp [execOp,Instr.indexAt,asIntOf,hs.raw hy,hv,run_underlying hT,hlt,Zck (OO hE),hke,Addr.add_mid]
theorem AZ {e:D} (hx:s.ev x=some (.d (.ptr e))) (h1:e.one=true) (hT:Bh P T=true) (hd:Nat.blt d s.n=true):
  AA P F ⟨some d,.load T x,ty,pos,aft,g⟩ s d (.d e):=
 Bo _ hd fun _ act w hs=>by
  have hf:LH P T e=true:=by cases e<;>first | exact hT | cases h1
  obtain ⟨u,h1,h2⟩:=Ex hf (hs.repD hx);exact ⟨u,by simp [execOp,h1],.d h2⟩
theorem B3 {cs:List D} {n:Nat} (hx:s.ev x=some (.d (.ptr (.agg cs)))) (hn:cs.length=n) (hT:Dk P T n=true) (hd:Nat.blt d s.n=true):
  AA P F ⟨some d,.load T x,ty,pos,aft,g⟩ s d (.d (.agg cs)):=
 Bo _ hd fun _ act w hs=>by
  subst hn;obtain ⟨u,h1,h2⟩:=Ex (T:=T) (x:= .agg cs) hT (hs.repD hx);exact ⟨u,by simp [execOp,h1],.d h2⟩
theorem AP.part {w:World} {O:Nat ->Prop} {nil:Option Bool} {xs:List D} {a:Option Addr} {n cap:Nat} (h:AP w O (.sl nil xs) (.slice a n cap)) {l h' kk:Nat} (hl:l≤h') (hh:h'≤xs.length) (hk:∀x∈xs,x.cells.length=kk):
  AP w O (.sl nil ((xs.drop l).take (h' - l))) (.slice (if cap=l then a else a.map (·.add (l*kk))) (h' - l) (cap - l)):=by
 cases h with
 | sl k hn hz hln hc hm hk' ha hp=>
  subst hln;refine .sl kk ?_ (fun e=>?_) (by rw [List.length_take,List.length_drop];omega) (by omega) (by unfold maxLen at hm⊢;omega) (fun x hx=>hk x (List.mem_of_mem_drop (List.mem_of_mem_take hx))) (fun hne=>?_) (fun b o hb i x hx=>?_)
  ·intro b hb
   split
   ·exact hn b hb
   ·rw [Option.isNone_map];exact hn b hb
  ·have:a=none:=by
    split at e
    ·exact e
    ·simpa using e
   have:=hz this;omega
  ·have h1:xs≠ []:=by intro e;subst e;simp at hne
   have h2:l<xs.length:=by
    rcases Nat.lt_or_ge l xs.length with h2 | h2
    ·exact h2
    ·exfalso;apply hne;rw [List.drop_eq_nil_of_le h2];simp
   obtain ⟨b,o,rfl⟩:=ha h1;rw [if_neg (by omega)];exact ⟨b,o+l*kk,by simp [Addr.add_mid]⟩
  ·rw [List.getElem?_take] at hx
   split at hx
   ·rename_i hi
    rw [List.getElem?_drop] at hx;have hlt:l+i<xs.length:=(List.getElem?_eq_some_iff.1 hx).1;obtain ⟨b0,o0,rfl⟩:=ha (by intro e;subst e;simp at hlt);have hkk:k=kk:=by rw [←hk' x (List.mem_of_getElem? hx),hk x (List.mem_of_getElem? hx)]
    subst hkk;rw [if_neg (by omega)] at hb;simp only [Option.map_some,Addr.add_mid,Option.some.injEq,Addr.mk.injEq] at hb;obtain ⟨rfl,rfl,_⟩:=hb;have:=hp b0 o0 rfl (l+i) x hx;rw [Nat.add_mul,←Nat.add_assoc] at this;exact this
   ·cases hx
theorem Kj {t e:TypeId} {kk:Nat} (hT:P.underlying t=some (.slice e)) (hE:(P.info? e).map (·.size)=some kk) {a:Option Addr} {n c l:Nat} (h1:l≤n) {w:World} {kl:IntKind}:
  (Instr.sliceAt t (.slice a n c) (some (.int kl l)) none none).run P w= .ok (.slice (if c=l then a else a.map (·.add (l*kk))) (n - l) (c - l)) w:=by
 simp [Instr.sliceAt,Instr.slice,run_underlying hT,Instr.sliceBounds,Instr.sliceBound,asIntOf,Zck hE,h1]
theorem Ec {t e:TypeId} {kk:Nat} (hT:P.underlying t=some (.slice e)) (hE:(P.info? e).map (·.size)=some kk) {a:Option Addr} {n c h:Nat} (h2:h≤c) {w:World} {kh:IntKind}:
  (Instr.sliceAt t (.slice a n c) none (some (.int kh h)) none).run P w= .ok (.slice (if c=0 then a else a.map (·.add (0*kk))) (h - 0) (c - 0)) w:=by
 simp [Instr.sliceAt,Instr.slice,run_underlying hT,Instr.sliceBounds,Instr.sliceBound,asIntOf,Zck hE,h2]
theorem NA {nil:Option Bool} {xs:List D} {hi:Operand} {kh:IntKind} {ih:Int} {kk:Nat} (h:Nat) (hx:s.ev x=some (.d (.sl nil xs))) (hhi:s.ev hi=some (.d (.raw (.int kh ih))))
  (hh:ih=(h:Int)) (h2:h≤xs.length) (hT:P.underlying T=some (.slice E)) (hE:Ad P E kk=true) (hk:∀e∈xs,e.cells.length=kk) {ys:List D} (hys:xs.take h=ys) (hd:Nat.blt d s.n=true):
  AA P F ⟨some d,.slice T x none (some hi) none,ty,pos,aft,g⟩ s d (.d (.sl nil ys)):=
 Bo _ hd fun _ act w hs=>by
  have hr:=hs.repD hx;obtain ⟨a,cap,e,hc,_,_⟩:=hr.sl_len;rw [e] at hr;subst hh hys;refine ⟨.slice (if cap=0 then a else a.map (·.add (0*kk))) (h - 0) (cap - 0),by simp only [execOp,e,Option.map_some,Option.map_none,hs.raw hhi,Sem.run_bind,Ec hT (OO hE) (Nat.le_trans h2 hc),Result.andThen_ok,Sem.run_pure],.d ?_⟩;have:=hr.part (Nat.zero_le h) h2 hk
  simpa using this
end
section
variable {P:Program} {F:Fr} {s:AS} {d:Nat} {ty T T' E:TypeId} {pos:String} {aft:Array Edge} {g:Option (Nat×Bool)} {x y:Operand}
def IW:AV ->Option Bool
 | .d (.raw (.pointer none))=>some true
 | .d (.ptr _)=>some false
 | .ptr _ _ _=>some false
 | .rptr _ _ _ _ _=>some false
 | _=>none
theorem Gv {w:World} {O:Nat ->Prop} {ρ:Nat ->Nat ->Value} {a:AV} {v:Value} {b:Bool} (h:AQ w O ρ a v) (hb:IW a=some b):∃p:Option Addr,v= .pointer p∧p.isNone=b:=by
 unfold IW at hb
 split at hb
 ·injection hb with hb;subst hb
  cases h with | d h=>cases h with | raw _=>exact ⟨none,rfl,rfl⟩
 ·injection hb with hb;subst hb
  cases h with | d h=>cases h with | ptr _ _ _ _ _ _=>exact ⟨_,rfl,rfl⟩
 ·injection hb with hb;subst hb
  cases h with | ptr _=>exact ⟨_,rfl,rfl⟩
 ·injection hb with hb;subst hb
  cases h with | rptr _=>exact ⟨_,rfl,rfl⟩
 ·cases hb
theorem FW {op:BinOp} {t:TypeId} {x y:Operand} {p q:Option Addr} {w:World}:(eqGuard op t x y (.pointer p) (.pointer q)).run P w= .ok () w:=by
 cases op<;>simp [eqGuard]
theorem Fw {a:AV} {b:Bool} (hT:P.underlying T=some (.pointer E)) (hx:s.ev x=some a) (hb:IW a=some b) (hd:Nat.blt d s.n=true):AA P F ⟨some d,.binOp .eql T x (.const (.pointer none)) T',ty,pos,aft,g⟩ s d (.d (.raw (.bool b))):=
 Bo _ hd fun ρ act w hs=>by
  have hr:=hs.ev hx
  generalize hv:act.eval x=v at hr
  obtain ⟨p,rfl,hp⟩:=Gv hr hb;subst hp;have hp:P.pointee T=E:=by unfold Program.pointee;rw [hT]
  have hc:act.eval (.const (.pointer none))= .pointer none:=rfl;exact ⟨.bool p.isNone,by simp [execOp,hv,hc,FW,binOp,run_equal_pointer_nil w T p (by rw [hp];exact hT)],.d (.raw rfl)⟩
theorem Je {a:AV} {b:Bool} (hT:P.underlying T=some (.pointer E)) (hx:s.ev x=some a) (hb:IW a=some b) (hd:Nat.blt d s.n=true):AA P F ⟨some d,.binOp .neq T x (.const (.pointer none)) T',ty,pos,aft,g⟩ s d (.d (.raw (.bool (!b)))):=
 Bo _ hd fun ρ act w hs=>by
  have hr:=hs.ev hx
  generalize hv:act.eval x=v at hr
  obtain ⟨p,rfl,hp⟩:=Gv hr hb;subst hp;have hp:P.pointee T=E:=by unfold Program.pointee;rw [hT]
  have hc:act.eval (.const (.pointer none))= .pointer none:=rfl;exact ⟨.bool (!p.isNone),by simp [execOp,hv,hc,FW,binOp,run_equal_pointer_nil w T p (by rw [hp];exact hT)],.d (.raw rfl)⟩
end
theorem AC {P:Program} {F:Fr} {Q:Exit ->AS ->Prop} {n:Nat} {env:List (Nat×AV)} {hp:List (Nat×List AJ)} {ops:Array Oper} {d:Nat} {x:Operand} {ty:TypeId} {pos:String} {aft:Array Edge} {rest:List Oper} {a:AV} (hx:AS.ev ⟨n,env,hp⟩ x=some a) (hd:Nat.blt d n=true) (hK:An P F ops rest Q ⟨n,(d,a)::env,hp⟩):An P F ops (⟨some d,.move x,ty,pos,aft,none⟩::rest) Q ⟨n,env,hp⟩:=J (Ah hx hd) hK
theorem AD {P:Program} {F:Fr} {Q:Exit ->AS ->Prop} {n:Nat} {env:List (Nat×AV)} {hp:List (Nat×List AJ)} {ops:Array Oper} {d:Nat} {x:Operand} {ty:TypeId} {pos:String} {aft:Array Edge} {rest:List Oper} {a:AV} (hx:AS.ev ⟨n,env,hp⟩ x=some a) (hd:Nat.blt d n=true) (hK:An P F ops rest Q ⟨n,(d,a)::env,hp⟩):An P F ops (⟨some d,.assign x,ty,pos,aft,none⟩::rest) Q ⟨n,env,hp⟩:=J (Cf hx hd) hK
end Go.Proofs.Ytlmedakidpaeeaa
