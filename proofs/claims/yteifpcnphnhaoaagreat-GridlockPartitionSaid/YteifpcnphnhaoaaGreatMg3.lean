import Derived.Test.YteifpcnphnhaoaaGreatMg2
import Derived.IntWalk
import Derived.Laws.Pointers
import Derived.Laws.IdiomStrings
import Derived.WalkSpells
namespace Go.Proofs.YteifpcnphnhaoaaGreat
open Go.RowKit
theorem SR.raw {F:Fr} {s:AS} {ρ:Nat ->Nat ->Value} {act:Act} {w:World} (h:SR F s ρ act w) {x:Operand} {v:Value} (hx:s.ev x=some (.d (.raw v))):act.eval x=v:=by
 have h1:=h.ev hx
 cases h1 with
 | d h1=>
  generalize hv:act.eval x=u at h1
  cases h1 with
  | raw _=>rfl
theorem SR.repD {F:Fr} {s:AS} {ρ:Nat ->Nat ->Value} {act:Act} {w:World} (h:SR F s ρ act w) {x:Operand} {d:D} (hx:s.ev x=some (.d d)):AQ w (F.O ρ s.hp) d (act.eval x):=by
 have h1:=h.ev hx
 generalize act.eval x=u at h1
 cases h1 with
 | d h1=>exact h1
def BG (P:Program) (T:TypeId):Bool:=match P.underlying T with
 | some (.struct _)=>false
 | some (.array _ _)=>false
 | none=>false
 | some _=>true
def Bq (P:Program) (T:TypeId) (n:Nat):Bool:=(match P.underlying T with
 | some (.struct _)=>true
 | some (.array _ _)=>true
 | _=>false) &&(match P.info? T with
 | some i=>Nat.beq i.size n
 | none=>false)
def AZ (P:Program) (T:TypeId) (n:Nat):Bool:=match P.info? T with
 | some i=>Nat.beq i.size n
 | none=>false
theorem YT {P:Program} {T:TypeId} {n:Nat} (h:AZ P T n=true):(P.info? T).map (·.size)=some n:=by
 unfold AZ at h
 split at h
 ·rename_i i hi;rw [hi];simp [ωg h]
 ·cases h
theorem Zce {P:Program} {T:TypeId} {n:Nat} (h:(P.info? T).map (·.size)=some n) (w:World):(sizeOf T).run P w= .ok n w:=by
 unfold sizeOf typeInfo
 cases hi:P.info? T with
 | none=>rw [hi] at h;cases h
 | some i=>rw [hi] at h;simp at h;simp [hi,h]
def slTyB (P:Program) (t e size bytes:Nat):Bool:=(match P.underlying t with
 | some (.slice e')=>Nat.beq e' e
 | _=>false) &&(match P.info? e with
 | some i=>match i.zero with
  | some z=>Nat.beq i.size size && Nat.beq i.bytes bytes && Nat.beq z.cells.size size
  | none=>false
 | none=>false) && Nat.blt 0 size && Nat.blt 0 bytes
theorem OH {P:Program} {t e size bytes:Nat} (h:slTyB P t e size bytes=true):SlTy P t e size bytes:=by
 simp only [slTyB,ωb] at h;obtain ⟨⟨⟨h1,h2⟩,h3⟩,h4⟩:=h;refine ⟨?_,?_,IC h3,IC h4⟩
 ·split at h1
  ·rename_i e' he;rw [he,ωg h1]
  ·cases h1
 ·split at h2
  ·rename_i i hi
   split at h2
   ·rename_i z hz
    simp only [ωb] at h2;exact ⟨i,z,hi,hz,ωg h2.1.1,ωg h2.1.2,ωg h2.2⟩
   ·cases h2
  ·cases h2
theorem Dj {P:Program} {T:TypeId} (h:BG P T=true) (w:World):(isAgg T).run P w= .ok false w:=by
 unfold BG at h;unfold isAgg
 cases hu:P.underlying T with
 | none=>rw [hu] at h;cases h
 | some d=>
  rw [Sem.run_bind,run_underlying hu w]
  cases d<;>simp_all
theorem FD {P:Program} {T:TypeId} {n:Nat} (h:Bq P T n=true):(∃d,P.underlying T=some d∧d.isRow=true)∧(P.info? T).map (·.size)=some n:=by
 unfold Bq at h;simp only [ωb] at h;refine ⟨?_,YT h.2⟩
 cases hu:P.underlying T with
 | none=>rw [hu] at h;exact absurd h.1 (by simp)
 | some d=>rw [hu] at h;exact ⟨d,Z,by cases d<;>first | rfl | (simp at h)⟩
section
variable {P:Program} {F:Fr} {s:AS} {d:Nat} {ty T T':TypeId} {pos:String} {aft:Array Edge} {g:Option (Nat×Bool)} {x y c:Operand} {k k':IntKind} {a b v:Int}
theorem Ai {A:AV} (hx:s.ev x=some A) (hd:Nat.blt d s.n=true):AA P F ⟨some d,.move x,ty,pos,aft,g⟩ s d A:=
 Ck A hd fun _ act _ hs=>⟨act.eval x,by simp [execOp],hs.ev hx⟩
theorem IK {A:AV} (hx:s.ev x=some A) (hd:Nat.blt d s.n=true):AA P F ⟨some d,.assign x,ty,pos,aft,g⟩ s d A:=
 Ck A hd fun _ act _ hs=>⟨act.eval x,by simp [execOp],hs.ev hx⟩
theorem fSq {A:AV} {t:Bool} (hc:s.ev c=some (.d (.raw (.bool t)))) (ht:t=true) (hx:s.ev x=some A) (hd:Nat.blt d s.n=true):AA P F ⟨some d,.pick c x y,ty,pos,aft,g⟩ s d A:=
 Ck _ hd fun _ act _ hs=>⟨act.eval x,by simp [execOp,hs.raw hc,asBool,ht],hs.ev hx⟩
theorem DR {A:AV} {t:Bool} (hc:s.ev c=some (.d (.raw (.bool t)))) (ht:t=false) (hy:s.ev y=some A) (hd:Nat.blt d s.n=true):AA P F ⟨some d,.pick c x y,ty,pos,aft,g⟩ s d A:=
 Ck _ hd fun _ act _ hs=>⟨act.eval y,by simp [execOp,hs.raw hc,asBool,ht],hs.ev hy⟩
theorem BT (hx:s.ev x=some (.d (.raw (.int k a)))) (hy:s.ev y=some (.d (.raw (.int k b)))) (hd:Nat.blt d s.n=true):AA P F ⟨some d,.binOp .lss T x y T',ty,pos,aft,g⟩ s d (.d (.raw (.bool (decide (a<b))))):=
 Ck _ hd fun _ act _ hs=>⟨_,by simp [execOp,eqGuard,binOp,Op.intCmp,hs.raw hx,hs.raw hy],.d (.raw Z)⟩
theorem ZA (hx:s.ev x=some (.d (.raw (.int k a)))) (hy:s.ev y=some (.d (.raw (.int k b)))) (hd:Nat.blt d s.n=true):AA P F ⟨some d,.binOp .leq T x y T',ty,pos,aft,g⟩ s d (.d (.raw (.bool (decide (a≤b))))):=
 Ck _ hd fun _ act _ hs=>⟨_,by simp [execOp,eqGuard,binOp,Op.intCmp,hs.raw hx,hs.raw hy],.d (.raw Z)⟩
theorem KK (hx:s.ev x=some (.d (.raw (.int k a)))) (hy:s.ev y=some (.d (.raw (.int k b)))) (hd:Nat.blt d s.n=true):AA P F ⟨some d,.binOp .gtr T x y T',ty,pos,aft,g⟩ s d (.d (.raw (.bool (decide (b<a))))):=
 Ck _ hd fun _ act _ hs=>⟨_,by simp [execOp,eqGuard,binOp,Op.intCmp,hs.raw hx,hs.raw hy],.d (.raw Z)⟩
theorem EZ (hx:s.ev x=some (.d (.raw (.int k a)))) (hy:s.ev y=some (.d (.raw (.int k b)))) (hd:Nat.blt d s.n=true):AA P F ⟨some d,.binOp .geq T x y T',ty,pos,aft,g⟩ s d (.d (.raw (.bool (decide (b≤a))))):=
 Ck _ hd fun _ act _ hs=>⟨_,by simp [execOp,eqGuard,binOp,Op.intCmp,hs.raw hx,hs.raw hy],.d (.raw Z)⟩
theorem KJ (hx:s.ev x=some (.d (.raw (.int k a)))) (hy:s.ev y=some (.d (.raw (.int k b)))) (hd:Nat.blt d s.n=true):AA P F ⟨some d,.binOp .eql T x y T',ty,pos,aft,g⟩ s d (.d (.raw (.bool (decide (a=b))))):=
 Ck _ hd fun _ act _ hs=>⟨.bool (a==b),by simp [execOp,eqGuard,binOp,Op.intCmp,hs.raw hx,hs.raw hy],.d (.raw Z)⟩
theorem EA (hx:s.ev x=some (.d (.raw (.int k a)))) (hy:s.ev y=some (.d (.raw (.int k b)))) (hd:Nat.blt d s.n=true):AA P F ⟨some d,.binOp .neq T x y T',ty,pos,aft,g⟩ s d (.d (.raw (.bool (decide (¬a=b))))):=
 Ck _ hd fun _ act _ hs=>⟨.bool (a !=b),by simp [execOp,eqGuard,binOp,Op.intCmp,hs.raw hx,hs.raw hy],by
  rw [show (a !=b)=decide (¬a=b) by simp [bne];rfl];exact .d (.raw Z)⟩
theorem Ay (hx:s.ev x=some (.d (.raw (.int k a)))) (hy:s.ev y=some (.d (.raw (.int k b)))) (hv:k.wrap (a+b)=v) (hd:Nat.blt d s.n=true):AA P F ⟨some d,.binOp .add T x y T',ty,pos,aft,g⟩ s d (.d (.raw (.int k v))):=
 Ck _ hd fun _ act _ hs=>⟨_,by simp [execOp,eqGuard,binOp,Op.intArith,hs.raw hx,hs.raw hy,hv],.d (.raw Z)⟩
theorem LI (hx:s.ev x=some (.d (.raw (.int k a)))) (hy:s.ev y=some (.d (.raw (.int k b)))) (hv:k.wrap (a - b)=v) (hd:Nat.blt d s.n=true):AA P F ⟨some d,.binOp .sub T x y T',ty,pos,aft,g⟩ s d (.d (.raw (.int k v))):=
 Ck _ hd fun _ act _ hs=>⟨_,by simp [execOp,eqGuard,binOp,Op.intArith,hs.raw hx,hs.raw hy,hv],.d (.raw Z)⟩
theorem st_mul (hx:s.ev x=some (.d (.raw (.int k a)))) (hy:s.ev y=some (.d (.raw (.int k b)))) (hv:k.wrap (a*b)=v) (hd:Nat.blt d s.n=true):AA P F ⟨some d,.binOp .mul T x y T',ty,pos,aft,g⟩ s d (.d (.raw (.int k v))):=
 Ck _ hd fun _ act _ hs=>⟨_,by simp [execOp,eqGuard,binOp,Op.intArith,hs.raw hx,hs.raw hy,hv],.d (.raw Z)⟩
theorem st_quo (hx:s.ev x=some (.d (.raw (.int k a)))) (hy:s.ev y=some (.d (.raw (.int k b)))) (h0:¬b=0) (hv:k.wrap (a.tdiv b)=v) (hd:Nat.blt d s.n=true):AA P F ⟨some d,.binOp .quo T x y T',ty,pos,aft,g⟩ s d (.d (.raw (.int k v))):=
 Ck _ hd fun _ act _ hs=>⟨_,by simp [execOp,eqGuard,binOp,Op.intDiv,hs.raw hx,hs.raw hy,hv,h0],.d (.raw Z)⟩
theorem L7 {t:Bool} (hx:s.ev x=some (.d (.raw (.bool t)))) (hd:Nat.blt d s.n=true):AA P F ⟨some d,.unOp .not T x,ty,pos,aft,g⟩ s d (.d (.raw (.bool (!t)))):=
 Ck _ hd fun _ act _ hs=>⟨_,by simp [execOp,Op.unary,hs.raw hx],.d (.raw Z)⟩
theorem st_eqlS {a b:ByteArray} (hx:s.ev x=some (.d (.raw (.string a)))) (hy:s.ev y=some (.d (.raw (.string b)))) (hd:Nat.blt d s.n=true):AA P F ⟨some d,.binOp .eql T x y T',ty,pos,aft,g⟩ s d (.d (.raw (.bool (decide (a.toList=b.toList))))):=
 Ck _ hd fun _ act _ hs=>⟨.bool (a.toList==b.toList),by simp [execOp,eqGuard,binOp,Op.stringOp,hs.raw hx,hs.raw hy],by
  rw [show (a.toList==b.toList)=decide (a.toList=b.toList) by rw [Bool.eq_iff_iff];simp];exact .d (.raw Z)⟩
theorem st_neqS {a b:ByteArray} (hx:s.ev x=some (.d (.raw (.string a)))) (hy:s.ev y=some (.d (.raw (.string b)))) (hd:Nat.blt d s.n=true):AA P F ⟨some d,.binOp .neq T x y T',ty,pos,aft,g⟩ s d (.d (.raw (.bool (decide (¬a.toList=b.toList))))):=
 Ck _ hd fun _ act _ hs=>⟨.bool !(a.toList==b.toList),by simp [execOp,eqGuard,binOp,Op.stringOp,hs.raw hx,hs.raw hy],by
  rw [show (!(a.toList==b.toList))=decide (¬a.toList=b.toList) by rw [Bool.eq_iff_iff];simp];exact .d (.raw Z)⟩
theorem st_lssS {a b:ByteArray} (hx:s.ev x=some (.d (.raw (.string a)))) (hy:s.ev y=some (.d (.raw (.string b)))) (hd:Nat.blt d s.n=true):AA P F ⟨some d,.binOp .lss T x y T',ty,pos,aft,g⟩ s d (.d (.raw (.bool (Op.bytesLess a.toList b.toList)))):=
 Ck _ hd fun _ act _ hs=>⟨_,by simp [execOp,eqGuard,binOp,Op.stringOp,hs.raw hx,hs.raw hy],.d (.raw Z)⟩
theorem Nz {p:Prop} [Decidable p] (hx:s.ev x=some (.d (.raw (.bool (decide p))))) (hd:Nat.blt d s.n=true):AA P F ⟨some d,.unOp .not T x,ty,pos,aft,g⟩ s d (.d (.raw (.bool (decide (¬p))))):=
 Ck _ hd fun _ act _ hs=>⟨.bool (!decide p),by simp [execOp,Op.unary,hs.raw hx],by rw [show (!decide p)=decide (¬p) by simp];exact .d (.raw Z)⟩
theorem ED (hx:s.ev x=some (.d (.raw (.bool false)))) (hd:Nat.blt d s.n=true):AA P F ⟨some d,.unOp .not T x,ty,pos,aft,g⟩ s d (.d (.raw (.bool true))):=L7 hx hd
theorem Yy (hx:s.ev x=some (.d (.raw (.int k a)))) (hv:k.wrap (0 - a)=v) (hd:Nat.blt d s.n=true):AA P F ⟨some d,.unOp .neg T x,ty,pos,aft,g⟩ s d (.d (.raw (.int k v))):=
 Ck _ hd fun _ act _ hs=>⟨.int k (k.wrap (0 - a)),by simp [execOp,Op.unary,Op.intArith,hs.raw hx],by rw [hv];exact .d (.raw Z)⟩
theorem Cu {l:List AV} {i:Nat} {A:AV} (hx:s.ev x=some (.tup l)) (hi:l[i]? =some A) (hd:Nat.blt d s.n=true):AA P F ⟨some d,.extract x i,ty,pos,aft,g⟩ s d A:=
 Ck _ hd fun _ act w hs=>by
  have h:=hs.ev hx
  generalize hv:act.eval x=u at h
  cases h with
  | @tup _ vs hl h=>
   have hlt:i<vs.length:=by rw [hl];exact (χ.1 hi).1
   exact ⟨vs[i],by simp [execOp,Instr.extract,hv,hlt],h i A _ hi (ω hlt)⟩
theorem D8 {l:List D} {i:Nat} {A:D} (hx:s.ev x=some (.d (.tup l))) (hi:l[i]? =some A) (hd:Nat.blt d s.n=true):AA P F ⟨some d,.extract x i,ty,pos,aft,g⟩ s d (.d A):=
 Ck _ hd fun _ act w hs=>by
  have h:=hs.repD hx
  generalize hv:act.eval x=u at h
  cases h with
  | @tup _ vs hl h=>
   have hlt:i<vs.length:=by rw [hl];exact (χ.1 hi).1
   exact ⟨vs[i],by simp [execOp,Instr.extract,hv,hlt],.d (h i A _ hi (ω hlt))⟩
end
theorem AQ.sl_len {w:World} {O:Nat ->Prop} {nil:Option Bool} {xs:List D} {v:Value} (h:AQ w O (.sl nil xs) v):∃a cap,v= .slice a xs.length cap∧xs.length≤cap∧cap≤maxLen∧∀b,nil=some b ->a.isNone=b:=by
 cases h with
 | sl k hn hz hln hc hm hk ha hp=>subst hln;exact ⟨_,_,Z,hc,hm,hn⟩
theorem D.cells_one {x:D} (h:x.one=true):x.cells=[x]:=by cases x<;>first | rfl | cases h
def QO (P:Program) (T:TypeId):D ->Bool
 | .agg cs=>Bq P T cs.length
 | .tup _=>false
 | _=>BG P T
theorem NF {n:Nat} (f:Nat ->Value):∃l:List Value,l.length=n∧∀j,j<n ->l[j]? =some (f j):=⟨(List.range n).map f,by simp,fun j hj=>by simp [hj]⟩
theorem Gz {P:Program} {T:TypeId} {w:World} {O:Nat ->Prop} {x:D} {v:Value} (hT:QO P T x=true) (h:AQ w O (.ptr x) v):∃u,(Instr.loadAt T v).run P w= .ok u w∧AQ w O x u:=by
 cases h with
 | @ptr _ b o us hb hO h1 hc hu=>
  have one:∀hx:x.one=true,BG P T=true ->∃u,(Instr.loadAt T (.pointer (some ⟨b,o,none⟩))).run P w= .ok u w∧AQ w O x u:=fun hx hT=>by
   rw [D.cells_one hx] at hc hu;have h0:=hc 0 x rfl;simp only [χo] at h0;refine ⟨us 0,?_,hu 0 x Z⟩
   simp [Instr.loadAt,Instr.sureAddr,loadVar,Dj hT,h0]
  cases x with
  | agg cs=>
   simp only [QO] at hT;obtain ⟨⟨d,h3,h4⟩,h5⟩:=FD hT;obtain ⟨l,hl,hlj⟩:=NF (n:=cs.length) us;refine ⟨.agg l.toArray,run_loadAt_mid w b o T l d (fun j v hv=>?_) h3 h4 (by rw [hl];exact h5),.agg hl h1 fun i c v hcs hv=>?_⟩
   ·have hj:j<cs.length:=by rw [←hl];exact (χ.1 hv).1
    rw [hc j cs[j] (ω hj),←hlj j hj,hv]
   ·have hj:i<cs.length:=(χ.1 hcs).1;have:=hlj i hj;rw [hv] at this;injection this with this
    subst this;exact hu i c hcs
  | tup _=>simp [QO] at hT
  | raw _=>exact one Z hT
  | sl _ _=>exact one Z hT
  | ptr _=>exact one Z hT
  | fn _ _ _=>exact one Z hT
section
variable {P:Program} {F:Fr} {s:AS} {d:Nat} {ty T E:TypeId} {pos:String} {aft:Array Edge} {g:Option (Nat×Bool)} {x y:Operand} {k:IntKind} {i:Int}
theorem JN {nil:Option Bool} {xs:List D} {n:Nat} (hx:s.ev x=some (.d (.sl nil xs))) (hn:xs.length=n) (hT:P.underlying T=some (.slice E)) (hd:Nat.blt d s.n=true):
  AA P F ⟨some d,.call {callee:= .builtin .len,args:= #[x],argTypes:= #[T]},ty,pos,aft,g⟩ s d (.d (.raw (.int .i64 (n:Int)))):=
 Ck _ hd fun _ act w hs=>by
  obtain ⟨a,cap,h1,_⟩:=(hs.repD hx).sl_len;subst hn;exact ⟨_,by simp [execOp,resolve,invoke,builtin,Builtin.len_,run_underlying hT,h1,goInt],.d (.raw Z)⟩
theorem Bz {α:Type} {f:α ->D} {nil:Option Bool} {l:List α} (hx:s.ev x=some (.d (.sl nil (List.map f l)))) (hT:P.underlying T=some (.slice E)) (hd:Nat.blt d s.n=true):
  AA P F ⟨some d,.call {callee:= .builtin .len,args:= #[x],argTypes:= #[T]},ty,pos,aft,g⟩ s d (.d (.raw (.int .i64 (l.length:Int)))):=
 JN hx (ψ _) hT hd
theorem LJ {f j n:Nat} (hx:s.ev x=some (.own f j n)) (hT:P.underlying T=some (.slice E)) (hd:Nat.blt d s.n=true):
  AA P F ⟨some d,.call {callee:= .builtin .len,args:= #[x],argTypes:= #[T]},ty,pos,aft,g⟩ s d (.d (.raw (.int .i64 (n:Int)))):=
 Ck _ hd fun _ act w hs=>by
  have h:=hs.ev hx
  generalize hv:act.eval x=u at h
  cases h with
  | own h1 h2=>exact ⟨_,by simp [execOp,resolve,invoke,builtin,Builtin.len_,run_underlying hT,hv,goInt],.d (.raw Z)⟩
theorem KY {a b v:Int} {t:Array TypeId} (hx:s.ev x=some (.d (.raw (.int k a)))) (hy:s.ev y=some (.d (.raw (.int k b)))) (hv:(if b<a then b else a)=v) (hd:Nat.blt d s.n=true):
  AA P F ⟨some d,.call {callee:= .builtin .min,args:= #[x,y],argTypes:=t},ty,pos,aft,g⟩ s d (.d (.raw (.int k v))):=
 Ck _ hd fun _ act w hs=>⟨_,by simp [execOp,resolve,invoke,builtin,Builtin.min_,Builtin.min2,hs.raw hx,hs.raw hy,hv,List.foldlM],.d (.raw Z)⟩
theorem Pp {a b v:Int} {t:Array TypeId} (hx:s.ev x=some (.d (.raw (.int k a)))) (hy:s.ev y=some (.d (.raw (.int k b)))) (hv:(if b>a then b else a)=v) (hd:Nat.blt d s.n=true):
  AA P F ⟨some d,.call {callee:= .builtin .max,args:= #[x,y],argTypes:=t},ty,pos,aft,g⟩ s d (.d (.raw (.int k v))):=
 Ck _ hd fun _ act w hs=>⟨_,by simp [execOp,resolve,invoke,builtin,Builtin.max_,Builtin.max2,hs.raw hx,hs.raw hy,hv,List.foldlM],.d (.raw Z)⟩
theorem Bb {nil:Option Bool} {xs:List D} {e:D} (j:Nat) (hx:s.ev x=some (.d (.sl nil xs))) (hy:s.ev y=some (.d (.raw (.int k i)))) (hj:i=(j:Int)) (he:xs[j]? =some e) (hT:P.underlying T=some (.slice E)) {kz:Nat} (hkz:e.cells.length=kz) (hE:AZ P E kz=true) (hd:Nat.blt d s.n=true):
  AA P F ⟨some d,.indexAddr T x y,ty,pos,aft,g⟩ s d (.d (.ptr e)):=
 Ck _ hd fun _ act w hs=>by
  have h:=hs.repD hx
  generalize hv:act.eval x=u at h
  subst hj hkz;have hlt:j<xs.length:=(χ.1 he).1
  cases h with
  | @sl _ _ a n cap kk hn hz hln hc hm hk ha hp=>
   obtain ⟨b,o,rfl⟩:=ha (by intro h;subst h;simp at hlt);have hke:e.cells.length=kk:=hk e (ζ he);subst hln;refine ⟨.pointer (some ⟨b,o+j*kk,none⟩),?_,.d (hp b o Z j e he)⟩
   simp [execOp,Instr.indexAt,asIntOf,hs.raw hy,hv,run_underlying hT,hlt,Zce (YT hE),hke,Addr.add_mid]
theorem Cm {e:D} (hx:s.ev x=some (.d (.ptr e))) (h1:e.one=true) (hT:BG P T=true) (hd:Nat.blt d s.n=true):
  AA P F ⟨some d,.load T x,ty,pos,aft,g⟩ s d (.d e):=
 Ck _ hd fun _ act w hs=>by
  have hf:QO P T e=true:=by cases e<;>first | exact hT | cases h1
  obtain ⟨u,h1,h2⟩:=Gz hf (hs.repD hx);exact ⟨u,by simp [execOp,h1],.d h2⟩
theorem GW {cs:List D} {n:Nat} (hx:s.ev x=some (.d (.ptr (.agg cs)))) (hn:cs.length=n) (hT:Bq P T n=true) (hd:Nat.blt d s.n=true):
  AA P F ⟨some d,.load T x,ty,pos,aft,g⟩ s d (.d (.agg cs)):=
 Ck _ hd fun _ act w hs=>by
  subst hn;obtain ⟨u,h1,h2⟩:=Gz (T:=T) (x:= .agg cs) hT (hs.repD hx);exact ⟨u,by simp [execOp,h1],.d h2⟩
theorem AQ.part {w:World} {O:Nat ->Prop} {nil:Option Bool} {xs:List D} {a:Option Addr} {n cap:Nat} (h:AQ w O (.sl nil xs) (.slice a n cap)) {l h' kk:Nat} (hl:l≤h') (hh:h'≤xs.length) (hk:∀x∈xs,x.cells.length=kk):
  AQ w O (.sl nil ((xs.drop l).take (h' - l))) (.slice (if cap=l then a else a.map (·.add (l*kk))) (h' - l) (cap - l)):=by
 cases h with
 | sl k hn hz hln hc hm hk' ha hp=>
  subst hln;refine .sl kk ?_ (fun e=>?_) (by rw [Ω,φo];omega) (by omega) (by unfold maxLen at hm⊢;omega) (fun x hx=>hk x (List.mem_of_mem_drop (ψc hx))) (fun hne=>?_) (fun b o hb i x hx=>?_)
  ·intro b hb
   split
   ·exact hn b hb
   ·rw [Option.isNone_map];exact hn b hb
  ·have:a=none:=by
    split at e
    ·exact e
    ·simpa using e
   have:=hz this;omega
  ·have h1:xs≠ []:=by intro e;subst e;simp at hne
   have h2:l<xs.length:=by
    rcases χn l xs.length with h2 | h2
    ·exact h2
    ·exfalso;apply hne;rw [List.drop_eq_nil_of_le h2];simp
   obtain ⟨b,o,rfl⟩:=ha h1;rw [ϑ (by omega)];exact ⟨b,o+l*kk,by simp [Addr.add_mid]⟩
  ·rw [ψh] at hx
   split at hx
   ·rename_i hi
    rw [χd] at hx;have hlt:l+i<xs.length:=(χ.1 hx).1;obtain ⟨b0,o0,rfl⟩:=ha (by intro e;subst e;simp at hlt);have hkk:k=kk:=by rw [←hk' x (ζ hx),hk x (ζ hx)]
    subst hkk;rw [ϑ (by omega)] at hb;simp only [χa,Addr.add_mid,Option.some.injEq,Addr.mk.injEq] at hb;obtain ⟨rfl,rfl,_⟩:=hb;have:=hp b0 o0 Z (l+i) x hx;rw [φh,←Nat.add_assoc] at this;exact this
   ·cases hx
theorem Pv {t e:TypeId} {kk:Nat} (hT:P.underlying t=some (.slice e)) (hE:(P.info? e).map (·.size)=some kk) {a:Option Addr} {n c l:Nat} (h1:l≤n) {w:World} {kl:IntKind}:
  (Instr.sliceAt t (.slice a n c) (some (.int kl l)) none none).run P w= .ok (.slice (if c=l then a else a.map (·.add (l*kk))) (n - l) (c - l)) w:=by
 simp [Instr.sliceAt,Instr.slice,run_underlying hT,Instr.sliceBounds,Instr.sliceBound,asIntOf,Zce hE,h1]
theorem G6 {t e:TypeId} {kk:Nat} (hT:P.underlying t=some (.slice e)) (hE:(P.info? e).map (·.size)=some kk) {a:Option Addr} {n c h:Nat} (h2:h≤c) {w:World} {kh:IntKind}:
  (Instr.sliceAt t (.slice a n c) none (some (.int kh h)) none).run P w= .ok (.slice (if c=0 then a else a.map (·.add (0*kk))) (h - 0) (c - 0)) w:=by
 simp [Instr.sliceAt,Instr.slice,run_underlying hT,Instr.sliceBounds,Instr.sliceBound,asIntOf,Zce hE,h2]
theorem Tl {nil:Option Bool} {xs:List D} {hi:Operand} {kh:IntKind} {ih:Int} {kk:Nat} (h:Nat) (hx:s.ev x=some (.d (.sl nil xs))) (hhi:s.ev hi=some (.d (.raw (.int kh ih))))
  (hh:ih=(h:Int)) (h2:h≤xs.length) (hT:P.underlying T=some (.slice E)) (hE:AZ P E kk=true) (hk:∀e∈xs,e.cells.length=kk) {ys:List D} (hys:xs.take h=ys) (hd:Nat.blt d s.n=true):
  AA P F ⟨some d,.slice T x none (some hi) none,ty,pos,aft,g⟩ s d (.d (.sl nil ys)):=
 Ck _ hd fun _ act w hs=>by
  have hr:=hs.repD hx;obtain ⟨a,cap,e,hc,_,_⟩:=hr.sl_len;rw [e] at hr;subst hh hys;refine ⟨.slice (if cap=0 then a else a.map (·.add (0*kk))) (h - 0) (cap - 0),by simp only [execOp,e,χa,φm,hs.raw hhi,Sem.run_bind,G6 hT (YT hE) (ωe h2 hc),Result.andThen_ok,Sem.run_pure],.d ?_⟩;have:=hr.part (Γ h) h2 hk
  simpa using this
end
section
variable {P:Program} {F:Fr} {s:AS} {d:Nat} {ty T T' E:TypeId} {pos:String} {aft:Array Edge} {g:Option (Nat×Bool)} {x y:Operand}
theorem Sc {op:BinOp} {t:TypeId} {x y:Operand} {p q:Option Addr} {w:World}:(eqGuard op t x y (.pointer p) (.pointer q)).run P w= .ok () w:=by
 cases op<;>simp [eqGuard]
end
theorem goMv {P:Program} {F:Fr} {Q:Exit ->AS ->Prop} {n:Nat} {env:List (Nat×AV)} {hp:List (Nat×List AL)} {ops:Array Oper} {d:Nat} {x:Operand} {ty:TypeId} {pos:String} {aft:Array Edge} {rest:List Oper} {a:AV} (hx:AS.ev ⟨n,env,hp⟩ x=some a) (hd:Nat.blt d n=true) (hK:Ab P F ops rest Q ⟨n,(d,a)::env,hp⟩):Ab P F ops (⟨some d,.move x,ty,pos,aft,none⟩::rest) Q ⟨n,env,hp⟩:=J (Ai hx hd) hK
theorem AB {P:Program} {F:Fr} {Q:Exit ->AS ->Prop} {n:Nat} {env:List (Nat×AV)} {hp:List (Nat×List AL)} {ops:Array Oper} {d:Nat} {x:Operand} {ty:TypeId} {pos:String} {aft:Array Edge} {rest:List Oper} {a:AV} (hx:AS.ev ⟨n,env,hp⟩ x=some a) (hd:Nat.blt d n=true) (hK:Ab P F ops rest Q ⟨n,(d,a)::env,hp⟩):Ab P F ops (⟨some d,.assign x,ty,pos,aft,none⟩::rest) Q ⟨n,env,hp⟩:=J (IK hx hd) hK
end Go.Proofs.YteifpcnphnhaoaaGreat
