/- The tail of an owned row is cleared: 'clear(s[k:])'. No program in sight. -/
import Derived.Test.YtnkkaeblokdifaaGreatMg10
import Derived.Lib.SliceRun
namespace Go.Proofs.YtnkkaeblokdifaaGreat
open Go.RowKit
end Go.Proofs.YtnkkaeblokdifaaGreat
/- Bits of 32-bit numbers. No program in sight. -/
namespace Go.Proofs.YtnkkaeblokdifaaGreat
theorem QT:IntKind.u32.bits=32:=rfl
theorem GB (n:Nat):BitVec.ofInt 32 (n:Int)=BitVec.ofNat 32 n:=by simp
theorem J5 {n:Nat} (h:n<4294967296):IntKind.u32.wrap (n:Int)=(n:Int):=IntWalk.u32_in _ (by omega)
theorem Y8 (x:BitVec 32):x.toNat<4294967296:=x.isLt
theorem orU {a b:Nat} (ha:a<4294967296) (hb:b<4294967296):LB .or .u32 (a:Int) (b:Int)=((a ||| b:Nat):Int):=by
 show IntKind.u32.wrap ((BitVec.ofInt 32 (a:Int) ||| BitVec.ofInt 32 (b:Int)).toNat:Int)=_;rw [GB,GB,J5 (Y8 _),BitVec.toNat_or,BitVec.toNat_ofNat,BitVec.toNat_ofNat,Nat.mod_eq_of_lt ha,Nat.mod_eq_of_lt hb]
def anU (a b:Nat):Nat:=(BitVec.ofNat 32 a &&& ~~~(BitVec.ofNat 32 b)).toNat
theorem andNotU (a b:Nat):LB .andNot .u32 (a:Int) (b:Int)=((anU a b:Nat):Int):=by
 show IntKind.u32.wrap ((BitVec.ofInt 32 (a:Int) &&& ~~~(BitVec.ofInt 32 (b:Int))).toNat:Int)=_;rw [GB,GB,J5 (Y8 _)];rfl
theorem shrU (a i:Nat) (hi:i≤32):((a:Int)).fdiv (2^(min ((i:Int)).toNat IntKind.u32.bits))=((a>>>i:Nat):Int):=by
 rw [QT,Int.toNat_natCast,Nat.min_eq_left hi,Int.fdiv_eq_ediv_of_nonneg _ (by exact_mod_cast Nat.zero_le _),Nat.shiftRight_eq_div_pow]
 norm_cast
theorem and1U {a:Nat} (ha:a<4294967296):LB .and .u32 (a:Int) 1=((a % 2:Nat):Int):=by
 show IntKind.u32.wrap ((BitVec.ofInt 32 (a:Int) &&& BitVec.ofInt 32 1).toNat:Int)=_;rw [GB,J5 (Y8 _),BitVec.toNat_and,BitVec.toNat_ofNat,Nat.mod_eq_of_lt ha];have:(BitVec.ofInt 32 1).toNat=1:=by decide
 rw [this,Nat.and_one_is_mod]
theorem Wk {a:Nat} (ha:a<4294967296) (i:Nat):a>>>i<4294967296:=Nat.lt_of_le_of_lt (Nat.shiftRight_le _ _) ha
theorem MD (a i:Nat):((((a>>>i) % 2:Nat):Int)=1)↔a.testBit i=true:=by
 rw [Nat.testBit_eq_decide_div_mod_eq,decide_eq_true_eq,Nat.shiftRight_eq_div_pow];omega
theorem Wl {i:Nat} (hi:i<32):IntKind.u32.wrap (1*2^(min ((i:Int)).toNat IntKind.u32.bits))=((1<<<i:Nat):Int):=by
 rw [QT,Int.toNat_natCast,Nat.min_eq_left (by omega),Int.one_mul,Nat.shiftLeft_eq,Nat.one_mul];have h1:(2:Nat)^i<4294967296:=Nat.lt_of_lt_of_le (Nat.pow_lt_pow_right (by omega) hi) (Nat.le_refl _);have h2:=J5 h1;rw [←h2];norm_cast
theorem K4 {i:Nat} (hi:i<32):1<<<i<4294967296:=by
 rw [Nat.shiftLeft_eq,Nat.one_mul];exact Nat.lt_of_lt_of_le (Nat.pow_lt_pow_right (by omega) hi) (Nat.le_refl _)
theorem XZ {a b:Nat} (ha:a<4294967296) (hb:b<4294967296):a ||| b<4294967296:=Nat.or_lt_two_pow (n:=32) ha hb
end Go.Proofs.YtnkkaeblokdifaaGreat
/- Names of owned objects: an object's own value, known by name, so that references survive calls as plain values. No program in sight. -/
namespace Go.Proofs.YtnkkaeblokdifaaGreat
open Go.RowKit
theorem SR.ghost {F:Fr} {s:AS} {ρ:Nat ->Nat ->Value} {act:Act} {w:World} (h:SR F s ρ act w) (g f i:Nat) (hne:Nat.beq f g=false) {env':List (Nat×AV)} {hp1 hp':Hp} (hE:Ad g s.env=some env') (hH:A7 g s.hp=some hp1) (hn:Ct hp1 g (.addr f i (ρ f i))=some hp'):
  SR F ⟨s.n,env',hp'⟩ (upd ρ g 0 .nilFunc) act w:=by
 obtain ⟨h1,h2⟩:=Gg hn
 refine h.set g 0 (.addr f i (ρ f i)) .nilFunc hE hH h1 (fun t cs hh=>?_) (fun b hb=>by cases hb) Z Z Z (Nat.le_refl _) (fun _ _ _=>rfl) fun _=>⟨rfl,N6 fun e=>(Nat.ne_of_beq_eq_false hne) e.1⟩
 obtain ⟨_,k2⟩:=Au hH;obtain ⟨o,ho,_⟩:=k2 _ _ _ hh;rw [h2] at ho;cases ho
section
variable {P:Program} {F:Fr} {Q:Exit ->AS ->Prop} {c:Code} {ops:Array Oper} {l:List Oper} {n:Nat} {env env':List (Nat×AV)} {hp hp1:Hp}
theorem NX (g f i:Nat) {bs:Option (List Nat×Nat)} {es:List (D×D)} (ho:hget hp f i=some (.map bs es)) (hne:Nat.beq f g=false) (hE:Ad g env=some env') (hH:A7 g hp=some hp1) (hz:hfam hp1 g=none)
  (h:∀m:Nat,Bt P F c Q ⟨n,env',(g,[.addr f i (.map (some m))])::hp1⟩):Bt P F c Q ⟨n,env,hp⟩:=fun ρ act w hs=>by
 obtain ⟨m,_,_,e,_⟩:=hs.heap.sim f i _ ho;exact h m _ act w (hs.ghost g f i hne hE hH (by rw [e];unfold Ct;rw [hz];rfl))
theorem Qy (g f i:Nat) {bs:Option (List Nat×Nat)} {es:List (D×D)} (ho:hget hp f i=some (.map bs es)) (hne:Nat.beq f g=false) (hE:Ad g env=some env') (hH:A7 g hp=some hp1) (hz:hfam hp1 g=none)
  (h:∀m:Nat,Aq P F ops l Q ⟨n,env',(g,[.addr f i (.map (some m))])::hp1⟩):Aq P F ops l Q ⟨n,env,hp⟩:=fun ρ act w hs=>by
 obtain ⟨m,_,_,e,_⟩:=hs.heap.sim f i _ ho;exact h m _ act w (hs.ghost g f i hne hE hH (by rw [e];unfold Ct;rw [hz];rfl))
theorem SR.toRaw {s:AS} {ρ:Nat ->Nat ->Value} {act:Act} {w:World} (hs:SR F s ρ act w) (t g j:Nat) {f i:Nat} {v:Value} (ht:get s.env t=some (.map f i)∨get s.env t=some (.ptr f i 0)) (hg:hget s.hp g j=some (.addr f i v)):SR F ⟨s.n,(t,.d (.raw v))::s.env,s.hp⟩ ρ act w:=by
 obtain ⟨_,hv⟩:=hs.heap.sim g j _ hg;refine ⟨hs.size,hs.defs,fun t' a ha=>?_,hs.heap⟩;rcases KX ha with ⟨rfl,rfl⟩ | ⟨_,ha⟩
 ·rcases ht with ht | ht
  ·have hr:=hs.env t _ ht
   generalize act.tmps.getD t undef=x at hr
   cases hr with
   | map h=>rw [h] at hv;subst hv;exact .d (.raw rfl)
  ·have hr:=hs.env t _ ht
   generalize act.tmps.getD t undef=x at hr
   cases hr with
   | ptr h=>rw [h] at hv;subst hv;exact .d (.raw rfl)
 ·exact hs.env t' a ha
theorem SR.rawMap {s:AS} {ρ:Nat ->Nat ->Value} {act:Act} {w:World} (hs:SR F s ρ act w) (t g j:Nat) {f i m:Nat} (ht:get s.env t=some (.d (.raw (.map (some m))))) (hg:hget s.hp g j=some (.addr f i (.map (some m)))):SR F ⟨s.n,(t,.map f i)::s.env,s.hp⟩ ρ act w:=by
 obtain ⟨_,hv⟩:=hs.heap.sim g j _ hg;refine ⟨hs.size,hs.defs,fun t' a ha=>?_,hs.heap⟩;rcases KX ha with ⟨rfl,rfl⟩ | ⟨_,ha⟩
 ·have hr:=hs.env t _ ht
  generalize act.tmps.getD t undef=x at hr
  cases hr with
  | d h=>cases h with | raw _=>exact .map hv
 ·exact hs.env t' a ha
theorem Pz (t g j:Nat) {f i:Nat} {v:Value} (ht:get env t=some (.map f i)∨get env t=some (.ptr f i 0)) (hg:hget hp g j=some (.addr f i v)) (h:Bt P F c Q ⟨n,(t,.d (.raw v))::env,hp⟩):Bt P F c Q ⟨n,env,hp⟩:=fun _ _ _ hs=>h _ _ _ (hs.toRaw t g j ht hg)
theorem UP (t g j:Nat) {f i:Nat} {v:Value} (ht:get env t=some (.map f i)∨get env t=some (.ptr f i 0)) (hg:hget hp g j=some (.addr f i v)) (h:Aq P F ops l Q ⟨n,(t,.d (.raw v))::env,hp⟩):Aq P F ops l Q ⟨n,env,hp⟩:=fun _ _ _ hs=>h _ _ _ (hs.toRaw t g j ht hg)
theorem Ex (t g j:Nat) {f i m:Nat} (ht:get env t=some (.d (.raw (.map (some m))))) (hg:hget hp g j=some (.addr f i (.map (some m)))) (h:Aq P F ops l Q ⟨n,(t,.map f i)::env,hp⟩):Aq P F ops l Q ⟨n,env,hp⟩:=fun _ _ _ hs=>h _ _ _ (hs.rawMap t g j ht hg)
end
theorem SR.rawC {F:Fr} {s:AS} {ρ:Nat ->Nat ->Value} {act:Act} {w:World} (h:SR F s ρ act w) (g i off:Nat) {f j n N cap:Nat} {a:Option Addr} {t:TypeId} {cs cs':List AV} {hp':Hp} (ho:hget s.hp g i=some (.blk t cs)) (hc:cs[off]?=some (.own f j n)) (hv:ρ f j= .slice a N cap)
  (hs':D2 cs off [.d (.raw (.slice a n cap))]=some cs') (hset:Bn s.hp g i (.blk t cs')=some hp'):SR F ⟨s.n,s.env,hp'⟩ ρ act w:=by
 refine h.write g i (.blk t cs) (.blk t cs') ho (BN hset) Z Z Z Z (fun _ _=>rfl) (fun _ _ _=>⟨_,_,rfl⟩) fun hrep=>?_;obtain ⟨b,us,e1,e2,e3,e4,e5⟩:=h.heap.sim g i _ ho;obtain ⟨s1,s2,s3⟩:=DC _ _ _ _ hs';refine ⟨b,us,e1,e2,by rw [e3,s2],fun j' c u hcj hu=>?_,e5⟩;rw [s3] at hcj
 split at hcj
 ·rename_i hj
  have hjo:j'=off:=by simp at hj;omega
  subst hjo
  simp at hcj;subst hcj
  have hr:=e4 j' _ u hc hu
  cases hr with
  | own h _=>
   rw [hv] at h;injection h with h1 h2 h3;subst h1 h3
   exact hrep _ _ (.d (.raw rfl))
 ·exact hrep _ _ (e4 j' c u hcj hu)
theorem row_val {w:World} {O:Nat ->Prop} {ρ:Nat ->Nat ->Value} {t:TypeId} {k:Nat} {xs:List D} {v:Value} (h:BD w O ρ (.rowD t k xs) v):∃a cap,v= .slice a xs.length cap:=by
 obtain ⟨us,h1,_⟩:=h;rcases h1.2 with ⟨e1,e2⟩ | ⟨g,cap,cur,e1,_⟩
 ·exact ⟨none,0,by rw [e1,e2]⟩
 ·exact ⟨_,cap,e1⟩
section
variable {P:Program} {F:Fr} {Q:Exit ->AS ->Prop} {c:Code} {ops:Array Oper} {l:List Oper} {n:Nat} {env env':List (Nat×AV)} {hp hp1:Hp}
theorem Ry (g f i:Nat) {t:TypeId} {k:Nat} {xs:List D} (ho:hget hp f i=some (.rowD t k xs)) (hne:Nat.beq f g=false) (hE:Ad g env=some env') (hH:A7 g hp=some hp1) (hz:hfam hp1 g=none)
  (h:∀(a:Option Addr) (cap:Nat),Bt P F c Q ⟨n,env',(g,[.addr f i (.slice a xs.length cap)])::hp1⟩):Bt P F c Q ⟨n,env,hp⟩:=fun ρ act w hs=>by
 obtain ⟨a,cap,e⟩:=row_val (hs.heap.sim f i _ ho);exact h a cap _ act w (hs.ghost g f i hne hE hH (by rw [e];unfold Ct;rw [hz];rfl))
theorem Yo (gg jg g i off:Nat) {f j m N cap:Nat} {a:Option Addr} {t:TypeId} {cs cs':List AV} {hp':Hp} (hg:hget hp gg jg=some (.addr f j (.slice a N cap))) (ho:hget hp g i=some (.blk t cs)) (hc:cs[off]?=some (.own f j m))
  (hs':D2 cs off [.d (.raw (.slice a m cap))]=some cs') (hset:Bn hp g i (.blk t cs')=some hp') (h:Bt P F c Q ⟨n,env,hp'⟩):Bt P F c Q ⟨n,env,hp⟩:=fun ρ act w hs=>by
 obtain ⟨_,hv⟩:=hs.heap.sim gg jg _ hg;exact h _ _ _ (hs.rawC g i off ho hc hv hs' hset)
end
section
variable {P:Program} {F:Fr} {s:AS} {d:Nat} {ty T:TypeId} {pos:String} {aft:Array Edge} {g:Option (Nat×Bool)} {x:Operand}
theorem Q3 (gg jg:Nat) {f j off f2 j2 m N cap:Nat} {a:Option Addr} {t:TypeId} {cs:List AV} (hx:s.ev x=some (.ptr f j off)) (ho:hget s.hp f j=some (.blk t cs)) (hc:cs[off]?=some (.d (.raw (.slice a m cap)))) (hg:hget s.hp gg jg=some (.addr f2 j2 (.slice a N cap))) (hm:m≤N) (hT:Az P T=true) (hd:Nat.blt d s.n=true):
  AA P F ⟨some d,.load T x,ty,pos,aft,g⟩ s d (.own f2 j2 m):=by
 have h:=AW (F:=F) (ty:=ty) (pos:=pos) (aft:=aft) (g:=g) hx ho hc hT hd;refine ⟨h.1,h.2.1,fun ρ act w hs=>?_⟩;refine Zda ?_ (h.2.2 ρ act w hs);rintro act' w' ⟨v,h1,h2,h3,h4,h5⟩;obtain ⟨_,hv⟩:=h3.sim gg jg _ hg
 cases h2 with
 | d h2=>
  cases h2 with
  | raw _=>exact ⟨_,h1,.own hv hm,h3,h4,h5⟩
end
end Go.Proofs.YtnkkaeblokdifaaGreat
/- Deletion from a map. No program in sight. -/
namespace Go.Proofs.YtnkkaeblokdifaaGreat
open Go.RowKit Go.ChangeMaps
def mdel {α β:Type} [DecidableEq α] (m:List (α×β)) (a:α):List (α×β):=m.eraseIdx (mix m a)
theorem UY {α β:Type} (f:α ->β):∀(l:List α) (i:Nat),(l.eraseIdx i).map f=(l.map f).eraseIdx i
 | [],i=>by simp
 | a::l,0=>rfl
 | a::l,i+1=>by simp [UY f l i]
section
variable {α β:Type} [DecidableEq α]
variable {P:Program} {F:Fr} {s:AS} {K:TypeId} {eK:α ->D} {kv:α ->Value} {eV:β ->D}
variable {ty T T2 E:TypeId} {pos:String} {aft:Array Edge} {g:Option (Nat×Bool)} {x y:Operand} {bs:Option (List Nat×Nat)}
omit [DecidableEq α] in
end
end Go.Proofs.YtnkkaeblokdifaaGreat
/- A heap of many blocks as one owned object: a finite map from block numbers to cells and rows; references are plain pointers. No program in sight. -/
namespace Go.Proofs.YtnkkaeblokdifaaGreat
open Go.RowKit
abbrev pV (b off:Nat):Value:= .pointer (some ⟨b,off,none⟩)
abbrev pD (b off:Nat):D:= .raw (pV b off)
abbrev sV (b n cap:Nat):Value:= .slice (some ⟨b,0,none⟩) n cap
abbrev MF:=Nat ->Option BW
def Cj (M:MF) (b:Nat) (m:BW):MF:=fun i=>if i=b then some m else M i
def ET (M:MF) (b:Nat):MF:=fun i=>if i=b then none else M i
theorem QC (M:MF) (b:Nat) (m:BW):Cj M b m b=some m:=by unfold Cj;rw [if_pos rfl]
theorem PF {M:MF} {b i:Nat} {m:BW} (h:i≠b):Cj M b m i=M i:=by unfold Cj;rw [if_neg h]
theorem O5 (M:MF) (b:Nat):ET M b b=none:=by unfold ET;rw [if_pos rfl]
theorem Gd {M:MF} {b i:Nat} (h:i≠b):ET M b i=M i:=by unfold ET;rw [if_neg h]
def CN:Hp ->Nat ->MF ->Option Hp
 | [],_,_=>none
 | (k,l)::r,f,M=>match Nat.beq k f with
  | true=>match isM l with
   | some _=>some ((k,[.multi M])::r)
   | none=>none
  | false=>match CN r f M with
   | none=>none
   | some r'=>some ((k,l)::r')
theorem Ie {hp:Hp} {f:Nat} {M:MF} (h:hfam hp f=some [.multi M]) (b:Nat):hget hp f b=(M b).map (BW.at_ b):=by unfold hget;rw [h];rfl
theorem Df {hp hp':Hp} {f:Nat} {M':MF} (h:CN hp f M'=some hp'):∀g i,hget hp' g i=if g=f then (M' i).map (BW.at_ i) else hget hp g i:=by
 induction hp generalizing hp' with
 | nil=>simp [CN] at h
 | cons p r ih=>
  obtain ⟨k,l⟩:=p;simp only [CN] at h
  split at h
  ·rename_i hk
   have hk':=Nat.eq_of_beq_eq_true hk;subst hk'
   split at h
   ·injection h with h;subst h
    intro g i
    by_cases e:k=g
    ·subst e;rw [if_pos rfl];simp only [hget,hfam,Nat.beq_refl,Option.bind_some,gl,isM]
    ·rw [if_neg (fun h=>e h.symm)];simp only [hget,hfam,ER e]
   ·cases h
  ·rename_i hk
   have hk':=Nat.ne_of_beq_eq_false hk
   split at h
   ·cases h
   ·rename_i r' hr
    injection h with h;subst h
    intro g i
    by_cases e:k=g
    ·subst e;rw [if_neg hk'];simp only [hget,hfam,Nat.beq_refl]
    ·have:=ih hr g i;simp only [hget,hfam,ER e] at this⊢;exact this
theorem SR.writeN {F:Fr} {s:AS} {ρ:Nat ->Nat ->Value} {act:Act} {w w':World} (h:SR F s ρ act w) (f b:Nat) {M:MF} {m m':BW} {hp':Hp} (hM:hfam s.hp f=some [.multi M]) (hb:M b=some m) (hh:CN s.hp f (Cj M b m')=some hp') (hos:w'.os=w.os) (htape:w'.tape=w.tape) (hout:w'.output=w.output) (hs:w'.heap.size=w.heap.size)
  (hk:∀b',b'≠b ->w'.heap[b']?=w.heap[b']?) (hv:ρ f b=pV b 0) (hsim:(∀A v,A3 w (F.O ρ s.hp) ρ A v ->A3 w' (F.O ρ hp') ρ A v) ->BD w' (F.O ρ hp') ρ (m'.at_ b) (ρ f b)) (hdr:w.drawn≤w'.drawn:=by exact Nat.le_refl _):SR F ⟨s.n,s.env,hp'⟩ ρ act w':=by
 refine h.write f b (m.at_ b) (m'.at_ b) (by rw [Ie hM,hb];rfl) (fun g i=>?_) hos htape hout hs (fun b' hb'=>hk b' fun e=>hb' (by rw [hv,e];rfl)) (fun t cs e=>absurd e BW.notBlk) hsim hdr;rw [Df hh]
 by_cases e:g=f
 ·subst e;rw [if_pos rfl,Ie hM]
  by_cases e2:i=b
  ·subst e2;rw [if_pos ⟨rfl,rfl⟩,QC];rfl
  ·rw [if_neg (fun h=>e2 h.2),PF e2]
 ·rw [if_neg e,if_neg (fun h=>e h.1)]
theorem SR.cellsN {F:Fr} {s:AS} {ρ:Nat ->Nat ->Value} {act:Act} {w:World} (h:SR F s ρ act w) {f b:Nat} {M:MF} {t:TypeId} {cs:List D} (hM:hfam s.hp f=some [.multi M]) (hb:M b=some (.cells t cs)):ρ f b=pV b 0∧∃us:List Value,w.heap[b]?=some (.cells us.toArray t (0,0))∧us.length=cs.length∧(∀(j:Nat) c u,cs[j]?=some c ->us[j]?=some u ->A1 w (F.O ρ s.hp) c u)∧∀u∈us,u.oneCell'=true:=
 h.heap.sim f b (.nb b t cs) (by rw [Ie hM,hb];rfl)
theorem SR.rowN {F:Fr} {s:AS} {ρ:Nat ->Nat ->Value} {act:Act} {w:World} (h:SR F s ρ act w) {f b:Nat} {M:MF} {t:TypeId} {k cap:Nat} {xs:List D} (hM:hfam s.hp f=some [.multi M]) (hb:M b=some (.row t k cap xs)):ρ f b=pV b 0∧∃us:List Value,w.ownsRow 0 t k (sV b xs.length cap) xs.length us∧HI D.cells k (A1 w (F.O ρ s.hp)) xs us∧∀x∈xs,∀c∈x.cells,c.one=true:=
 h.heap.sim f b (.nr b t k cap xs) (by rw [Ie hM,hb];rfl)
section
variable {P:Program} {F:Fr} {s:AS} {d:Nat} {x y:Operand} {T E:TypeId} {ty:TypeId} {pos:String} {aft:Array Edge} {g:Option (Nat×Bool)} {k:IntKind} {i:Int}
theorem BR {b off:Nat} (hx:s.ev x=some (.d (pD b off))) (hd:Nat.blt d s.n=true):AA P F ⟨some d,.nilCheck x,ty,pos,aft,g⟩ s d (.d (pD b off)):=
 C1 _ hd fun _ act w hs=>⟨pV b off,by simp [execOp,hs.raw hx],.d (.raw rfl)⟩
theorem AL {b off off' o n i:Nat} {r:Bool} (hx:s.ev x=some (.d (pD b off))) (hf:AK P T i=some (o,n,r)) (hn:Nat.blt 0 n=true) (ho:off+o=off') (hd:Nat.blt d s.n=true):
  AA P F ⟨some d,.fieldAddr T x i,ty,pos,aft,g⟩ s d (.d (pD b off')):=
 C1 _ hd fun ρ act w hs=>by
  have h:=hs.raw hx;subst ho;exact ⟨pV b (off+o),by simp [execOp,h,EF hf hn],.d (.raw rfl)⟩
theorem Ej {f b off:Nat} {M:MF} {t:TypeId} {cs:List D} {c:D} (hx:s.ev x=some (.d (pD b off))) (hM:hfam s.hp f=some [.multi M]) (hb:M b=some (.cells t cs)) (hc:cs[off]?=some c) (hT:Az P T=true) (hd:Nat.blt d s.n=true):
  AA P F ⟨some d,.load T x,ty,pos,aft,g⟩ s d (.d c):=
 C1 _ hd fun ρ act w hs=>by
  have hrx:=hs.raw hx;obtain ⟨_,us,h1,h2,h3,h4⟩:=hs.cellsN hM hb;have hlt:off<us.length:=by rw [h2];exact (List.getElem?_eq_some_iff.1 hc).1
  have hcell:w.cell? ⟨b,off,none⟩=some us[off]:=by
   rw [cell_of_row w b off us.toArray t (0,0) h1];simp [hlt]
  exact ⟨us[off],by simp [execOp,hrx,Instr.loadAt,Instr.sureAddr,loadVar,Dc hT,hcell],.d (h3 off c _ hc (List.getElem?_eq_getElem hlt))⟩
theorem OE {f b off n:Nat} {M:MF} {t:TypeId} {cs l:List D} (hx:s.ev x=some (.d (pD b off))) (hM:hfam s.hp f=some [.multi M]) (hb:M b=some (.cells t cs)) (hT:Bu P T n=true) (hl:(cs.drop off).take n=l) (hn:l.length=n) (h1:∀c∈l,c.one=true) (hd:Nat.blt d s.n=true):
  AA P F ⟨some d,.load T x,ty,pos,aft,g⟩ s d (.d (.agg l)):=
 C1 _ hd fun ρ act w hs=>by
  have hrx:=hs.raw hx;obtain ⟨_,us,h1',h2,h3,h4⟩:=hs.cellsN hM hb;obtain ⟨⟨ds,h5,h6⟩,h7⟩:=D8 hT
  have hle:off+n≤cs.length∨n=0:=by
   rw [←hl,List.length_take,List.length_drop] at hn;omega
  have hlen:((us.drop off).take n).length=n:=by rw [List.length_take,List.length_drop];omega
  have hr:=run_loadAt_mid (P:=P) w b off T ((us.drop off).take n) ds (fun j v hv=>by
   rw [cell_of_row w b (off+j) us.toArray t (0,0) h1'];rw [List.getElem?_take] at hv
   split at hv
   ·rw [List.getElem?_drop] at hv;simpa using hv
   ·cases hv) h5 h6 (by rw [hlen];exact h7)
  refine ⟨.agg ((us.drop off).take n).toArray,by simp [execOp,hrx,hr],.d (.agg (by rw [hlen,hn]) h1 fun m c u hc hu=>?_)⟩;have hm:m<n:=by rw [←hn];exact (List.getElem?_eq_some_iff.1 hc).1
  rw [←hl,List.getElem?_take,if_pos hm,List.getElem?_drop] at hc;rw [List.getElem?_take,if_pos hm,List.getElem?_drop] at hu;exact h3 _ c u hc hu
theorem Cr {a:Option Addr} {n cap:Nat} (hx:s.ev x=some (.d (.raw (.slice a n cap)))) (hT:P.underlying T=some (.slice E)) (hd:Nat.blt d s.n=true):
  AA P F ⟨some d,.call {callee:= .builtin .len,args:= #[x],argTypes:= #[T]},ty,pos,aft,g⟩ s d (.d (.raw (.int .i64 (n:Int)))):=
 C1 _ hd fun _ act w hs=>⟨_,by simp [execOp,resolve,invoke,builtin,Builtin.len_,run_underlying hT,hs.raw hx,goInt],.d (.raw rfl)⟩
theorem Ux {b n cap kk:Nat} (m:Nat) (hx:s.ev x=some (.d (.raw (sV b n cap)))) (hy:s.ev y=some (.d (.raw (.int k i)))) (hi:i=(m:Int)) (hm:m<n) (hT:P.underlying T=some (.slice E)) (hE:A6 P E kk=true) (hd:Nat.blt d s.n=true):
  AA P F ⟨some d,.indexAddr T x y,ty,pos,aft,g⟩ s d (.d (pD b (m*kk))):=
 C1 _ hd fun ρ act w hs=>by
  have hrx:=hs.raw hx;subst hi;exact ⟨pV b (m*kk),by simp [execOp,Instr.indexAt,asIntOf,hs.raw hy,hrx,run_underlying hT,hm,Zdl (Zc3 hE),Addr.add_mid],.d (.raw rfl)⟩
theorem Zdk {f b off kk e cap:Nat} {M:MF} {t:TypeId} {xs:List D} {z c:D} {p:Nat} (hx:s.ev x=some (.d (pD b p))) (hp:p=e*kk+off) (hM:hfam s.hp f=some [.multi M]) (hb:M b=some (.row t kk cap xs)) (hz:xs[e]?=some z) (hc:z.cells[off]?=some c) (hT:Az P T=true) (hd:Nat.blt d s.n=true):
  AA P F ⟨some d,.load T x,ty,pos,aft,g⟩ s d (.d c):=
 C1 _ hd fun ρ act w hs=>by
  subst hp;have hrx:=hs.raw hx;obtain ⟨_,us,h1,h2,h3⟩:=hs.rowN hM hb;obtain ⟨g1,g2⟩:=h1;have hlt:e<xs.length:=(List.getElem?_eq_some_iff.1 hz).1;rcases g2 with ⟨e1,_⟩ | ⟨b',cap',cur,e1,_,h6,h7,h8,h9,h10⟩
  ·cases e1
  ·injection e1 with e2 e3 e4;injection e2 with e2;injection e2 with e2;subst e2
   obtain ⟨u,h11,h12,h13⟩:=h2.2.2 e z hz off c hc;have hcell:=EH h6 h10 h11;exact ⟨u,by simp [execOp,hrx,Instr.loadAt,Instr.sureAddr,loadVar,Dc hT,hcell],.d h13⟩
theorem D5 {f b kk e cap:Nat} {M:MF} {t:TypeId} {xs:List D} {cs:List D} {p:Nat} (hx:s.ev x=some (.d (pD b p))) (hp:p=e*kk) (hM:hfam s.hp f=some [.multi M]) (hb:M b=some (.row t kk cap xs)) (hz:xs[e]?=some (.agg cs)) {kz:Nat} (hkz:cs.length=kz) (hT:Bu P T kz=true) (hd:Nat.blt d s.n=true):
  AA P F ⟨some d,.load T x,ty,pos,aft,g⟩ s d (.d (.agg cs)):=
 C1 _ hd fun ρ act w hs=>by
  subst hp hkz;have hrx:=hs.raw hx;obtain ⟨_,us,h1,h2,h3⟩:=hs.rowN hM hb;obtain ⟨g1',g2'⟩:=h1;rcases g2' with ⟨e1,_⟩ | ⟨b',cap',cur,e1,_,h6,h7,h8',h9,h8⟩
  ·cases e1
  ·injection e1 with e2 e3 e4;injection e2 with e2;injection e2 with e2;subst e2
   obtain ⟨⟨ds,g1,g2⟩,g3⟩:=D8 hT;obtain ⟨l,hl,hlj⟩:=Iz (n:=cs.length) fun q=>(us[e*kk+q]?).getD undef
   have hq:∀q,q<cs.length ->∃u,us[e*kk+q]?=some u∧l[q]?=some u∧A1 w (F.O ρ s.hp) (cs[q]?.getD (.raw undef)) u:=fun q hq=>by
    obtain ⟨u,a1,a2,a3⟩:=h2.2.2 e _ hz q cs[q] (List.getElem?_eq_getElem hq);refine ⟨u,a1,by rw [hlj q hq,a1];rfl,?_⟩;rw [List.getElem?_eq_getElem hq];exact a3
   have hr:=run_loadAt_mid (P:=P) w b (e*kk) T l ds (fun q v hv=>by
    have hqlt:q<cs.length:=by rw [←hl];exact (List.getElem?_eq_some_iff.1 hv).1
    obtain ⟨u,a1,a2,_⟩:=hq q hqlt;rw [a2] at hv;injection hv with hv;subst hv
    exact EH h6 h8 a1) g1 g2 (by rw [hl];exact g3)
   refine ⟨.agg l.toArray,by simp [execOp,hrx,hr],.d (.agg hl (h3 _ (List.mem_of_getElem? hz)) fun q c u hc hu=>?_)⟩;have hqlt:q<cs.length:=(List.getElem?_eq_some_iff.1 hc).1;obtain ⟨u',a1,a2,a3⟩:=hq q hqlt;rw [a2] at hu;injection hu with hu;subst hu
   rw [hc] at a3;exact a3
theorem Yv {n:Nat} {env:List (Nat×AV)} {hp hp':Hp} {f b off:Nat} {M:MF} {t:TypeId} {cs:List D} {v:D} (hx:AS.ev ⟨n,env,hp⟩ x=some (.d (pD b off))) (hy:AS.ev ⟨n,env,hp⟩ y=some (.d v)) (hv:v.one=true) (hM:hfam hp f=some [.multi M]) (hb:M b=some (.cells t cs)) (hoff:off<cs.length)
  (hh:CN hp f (Cj M b (.cells t (cs.set off v)))=some hp') (hT:A6 P T 1=true):AR P F ⟨none,.store T x y,ty,pos,aft,g⟩ ⟨n,env,hp⟩ ⟨n,env,hp'⟩ (fun _ _=>true):=fun ρ act w hs=>by
 have hrx:=hs.raw hx;have hry:=hs.repD hy;obtain ⟨hρ,us,h1,h2,h3,h4⟩:=hs.cellsN hM hb
 generalize hvy:act.eval y=vy at hry
 have hone:=hry.oneCell hv;have hcl:vy.cells.toList=[vy]:=by cases vy<;>first | rfl | cases hone
 have hrun:=Ia (P:=P) (T:=T) (o:=off) (v:=vy) h1 (by rw [hcl];exact Zc3 hT) (by rw [hcl];simp only [List.length_singleton];omega) (by rw [hcl];intro u hu;rw [List.mem_singleton.1 hu];exact hone)
 have hex:(execOp act.eval ⟨none,.store T x y,ty,pos,aft,g⟩).run P w= .ok .skip (w.setCells b off vy.cells.toList):=by
  simp [execOp,hrx,hvy,hrun]
 unfold Oper.wp;rw [hex];obtain ⟨g1,g2,g3,g4⟩:=Dp (b:=b) vy.cells.toList off w;refine ⟨ρ,hs.writeN f b hM hb hh g1 g2 g3 g4 (fun b' hb'=>Zdi _ _ _ _ hb') hρ (fun hrep=>?_) (Nat.le_of_eq (HR _ _ _ _).symm),fun _ _ _=>rfl⟩;rw [hρ]
 have hrepD:∀(c:D) u,A1 w (F.O ρ hp) c u ->A1 (w.setCells b off vy.cells.toList) (F.O ρ hp') c u:=fun c u h=>by
  have:=hrep (.d c) u (.d h)
  cases this with | d h=>exact h
 refine ⟨rfl,Lh us off vy.cells.toList,Zdj _ _ _ _ h1,by rw [fSq,List.length_set];exact h2,fun j c u hc hu=>?_,fun u hu=>?_⟩
 ·rw [Et _ _ _ (by rw [hcl];simp only [List.length_singleton];omega),hcl] at hu;rw [List.getElem?_set] at hc
  by_cases e:off=j
  ·subst e;rw [if_pos rfl,if_pos hoff] at hc;rw [if_pos (by simp only [List.length_singleton];omega),Nat.sub_self] at hu;injection hc with hc;subst hc
   simp at hu;subst hu
   exact hrepD _ _ hry
  ·rw [if_neg e] at hc;rw [if_neg (by simp only [List.length_singleton];omega)] at hu;exact hrepD _ _ (h3 j c u hc hu)
 ·obtain ⟨j,hj,rfl⟩:=List.getElem_of_mem hu;have hj2:=List.getElem?_eq_getElem hj;rw [Et _ _ _ (by rw [hcl];simp only [List.length_singleton];omega)] at hj2
  split at hj2
  ·have h6:∀q∈vy.cells.toList,q.oneCell'=true:=by rw [hcl];intro q hq;rw [List.mem_singleton.1 hq];exact hone
   exact h6 _ (List.mem_of_getElem? hj2)
  ·exact h4 _ (List.mem_of_getElem? hj2)
end
theorem SR.move {F:Fr} {s:AS} {ρ:Nat ->Nat ->Value} {act:Act} {w:World} (hs:SR F s ρ act w) (f1 i1 f2 i2:Nat) {o1 o2:AQ} {v2:Value} {env':List (Nat×AV)} {hp':Hp}
  (h1:hget s.hp f1 i1=some o1) (hn2:hget s.hp f2 i2=none) (hv:CO v2=CO (ρ f1 i1)) (hp1:F.pin f1 i1=none)
  (ha:∀f i o',hget hp' f i=some o' ->(f=f2∧i=i2∧o'=o2)∨(¬(f=f2∧i=i2)∧¬(f=f1∧i=i1)∧∃o,hget s.hp f i=some o∧(∀w O ρ v,BD w O ρ o v ->BD w O ρ o' v)∧¬o'.Refs f2 i2))
  (hb:hget hp' f2 i2=some o2) (hc:∀f i t cs,hget s.hp f i=some (.blk t cs) ->¬(f=f1∧i=i1) ->∃cs',hget hp' f i=some (.blk t cs'))
  (hcc:∀f i o,hget s.hp f i=some o ->¬(f=f1∧i=i1) ->∃o',hget hp' f i=some o')
  (hE:∀t a,get env' t=some a ->A3 w (F.O ρ s.hp) ρ a (act.tmps.getD t undef)∧¬a.Refs f2 i2)
  (hsim:BD w (F.O ρ s.hp) (upd ρ f2 i2 v2) o2 v2):SR F ⟨s.n,env',hp'⟩ (upd ρ f2 i2 v2) act w:=by
 have hown:∀b,Ar (upd ρ f2 i2 v2) hp' b↔Ar ρ s.hp b:=fun b=>by
  constructor
  ·rintro ⟨f,i,o',ho,hbk⟩;rcases ha f i o' ho with ⟨rfl,rfl,rfl⟩ | ⟨e2,_,o,h3,_⟩
   ·rw [QB,hv] at hbk;exact ⟨f1,i1,o1,h1,hbk⟩
   ·rw [N6 e2] at hbk;exact ⟨f,i,o,h3,hbk⟩
  ·rintro ⟨f,i,o,ho,hbk⟩
   by_cases e:f=f1∧i=i1
   ·obtain ⟨rfl,rfl⟩:=e;exact ⟨f2,i2,o2,hb,by rw [QB,hv];exact hbk⟩
   ·have e2:¬(f=f2∧i=i2):=fun e2=>by rw [e2.1,e2.2,hn2] at ho;cases ho
    obtain ⟨o',h3⟩:=hcc f i o ho e;exact ⟨f,i,o',h3,by rw [N6 e2];exact hbk⟩
 have hO:F.O (upd ρ f2 i2 v2) hp'=F.O ρ s.hp:=funext fun b=>propext ⟨fun h=>h.imp id (hown b).1,fun h=>h.imp id (hown b).2⟩;have href:∀(f i:Nat),¬(f=f2∧i=i2) ->upd ρ f2 i2 v2 f i=ρ f i:=fun f i e=>N6 e;refine ⟨hs.size,hO▸hs.defs,fun t a hta=>?_,?_⟩
 ·obtain ⟨h3,h4⟩:=hE t a hta;show A3 w (F.O (upd ρ f2 i2 v2) hp') _ _ _;rw [hO];exact h3.mono (Nat.le_refl _) (fun _ _ _=>rfl) (fun _ _ h=>h) fun f i hr=>href f i fun e=>h4 (by rw [←e.1,←e.2];exact hr)
 ·refine ⟨fun f i o' ho=>?_,fun f i f' i' o o' b ho ho' hbk hbk'=>?_,fun b hbk=>hs.heap.mine b ((hown b).1 hbk),hs.heap.os,hs.heap.tape,hs.heap.output,hs.heap.size0,hs.heap.keep,fun f i b hpin=>?_,hs.heap.drawn⟩
  ·show BD w (F.O (upd ρ f2 i2 v2) hp') _ _ _;rw [hO];rcases ha f i o' ho with ⟨rfl,rfl,rfl⟩ | ⟨e2,_,o,h3,h4,h5⟩
   ·rw [QB];exact hsim
   ·rw [N6 e2];exact (h4 _ _ _ _ (hs.heap.sim f i o h3)).mono (Nat.le_refl _) (fun _ _ _=>rfl) (fun _ _ h=>h) (fun _ _=>rfl) fun f' i' hr=>href f' i' fun e=>h5 (by rw [←e.1,←e.2];exact hr)
  ·rcases ha f i o ho with ⟨rfl,rfl,_⟩ | ⟨e2,e3,q,h3,_⟩<;>rcases ha f' i' o' ho' with ⟨rfl,rfl,_⟩ | ⟨e2',e3',q',h3',_⟩
   ·exact ⟨rfl,rfl⟩
   ·rw [QB,hv] at hbk;rw [N6 e2'] at hbk';exact absurd (hs.heap.inj f' i' f1 i1 q' o1 b h3' h1 hbk' hbk) e3'
   ·rw [QB,hv] at hbk';rw [N6 e2] at hbk;exact absurd (hs.heap.inj f i f1 i1 q o1 b h3 h1 hbk hbk') e3
   ·rw [N6 e2] at hbk;rw [N6 e2'] at hbk';exact hs.heap.inj f i f' i' q q' b h3 h3' hbk hbk'
  ·obtain ⟨a1,t,cs,a2⟩:=hs.heap.pins f i b hpin;have e1:¬(f=f1∧i=i1):=fun e=>by rw [e.1,e.2,hp1] at hpin;cases hpin
   have e2:¬(f=f2∧i=i2):=fun e=>by rw [e.1,e.2,hn2] at a2;cases a2
   obtain ⟨cs',h3⟩:=hc f i t cs a2 e1;exact ⟨by rw [N6 e2];exact a1,t,cs',h3⟩
theorem M6 {F:Fr} {pn:List Nat} {g i:Nat} (hF:F.pn=pn) (h:memB g pn=false):F.pin g i=none:=by
 cases hh:F.pin g i with
 | none=>rfl
 | some b=>
  have:=Ek.2 (hF▸F.hpn g i b hh);rw [h] at this;cases this
theorem SR.absorb {F:Fr} {s:AS} {ρ:Nat ->Nat ->Value} {act:Act} {w:World} (hs:SR F s ρ act w) (t g f:Nat) {M:MF} {T:TypeId} {cs:List AV} {ds:List D} {pn:List Nat} {env1 env':List (Nat×AV)} {hp1 hp2 hp3:Hp} {hp':Nat ->Hp} (hF:F.pn=pn) (hpn:memB g pn=false) (hne:Nat.beq g f=false)
  (ht:get s.env t=some (.ptr g 0 0)) (hone:hfam s.hp g=some [.blk T cs]) (hcs:cs=ds.map .d) (hM:hfam s.hp f=some [.multi M]) (hE:Ad g s.env=some env1) (hE2:Ad f env1=some env') (hH:A7 g s.hp=some hp1) (hH2:A7 f hp1=some hp2) (hh:DJ g hp2=some hp3) (hm:∀b,CN hp3 f (Cj M b (.cells T ds))=some (hp' b)):
  ∃b,M b=none∧SR F ⟨s.n,(t,.d (pD b 0))::env',hp' b⟩ (upd ρ f b (pV b 0)) act w:=by
 subst hcs;have hgf:g≠f:=Nat.ne_of_beq_eq_false hne;have ho:hget s.hp g 0=some (.blk T (ds.map .d)):=by unfold hget;rw [hone];rfl
 obtain ⟨b,us,hρ,k1,k2,k3,k4⟩:=hs.heap.sim g 0 _ ho
 have hMb:M b=none:=by
  cases hmb:M b with
  | none=>rfl
  | some m=>
   have h2:hget s.hp f b=some (m.at_ b):=by rw [Ie hM,hmb];rfl
   have hv:ρ f b=pV b 0:=by
    have:=hs.heap.sim f b _ h2
    cases m with
    | cells _ _=>exact this.1
    | row _ _ _ _=>exact this.1
   exact absurd (hs.heap.inj g 0 f b _ _ b ho h2 (by rw [hρ];rfl) (by rw [hv];rfl)).1 hgf
 refine ⟨b,hMb,?_⟩;obtain ⟨a1,a2⟩:=Au hH;obtain ⟨c1,c2⟩:=Au hH2;have hd:=JC hh;have hg':=Df (hm b);have hfam3:∀i,hget hp3 f i=hget hp2 f i:=fun i=>by rw [hd,if_neg (fun e=>hgf e.symm)]
 refine hs.move g 0 f b ho (by simp only [Ie hM,hMb,Option.map_none]) (by rw [hρ]) (M6 hF hpn) (fun f' i o' hq=>?_) (by rw [hg',if_pos rfl,QC];rfl) (fun f' i t' cs' hq hne'=>?_) (fun f' i o hq hne'=>?_) (fun t' a ha=>?_) ?_
 ·rw [hg'] at hq
  by_cases e:f'=f
  ·subst e;rw [if_pos rfl] at hq
   by_cases e2:i=b
   ·subst e2;rw [QC] at hq;injection hq with hq
    exact .inl ⟨rfl,rfl,hq.symm⟩
   ·rw [PF e2] at hq;refine .inr ⟨fun h=>e2 h.2,fun h=>hgf h.1.symm,o',by rw [Ie hM];exact hq,fun _ _ _ _ h=>h,?_⟩
    cases hmi:M i with
    | none=>rw [hmi] at hq;cases hq
    | some m=>rw [hmi] at hq;injection hq with hq;subst hq;exact BW.norefs
  ·rw [if_neg e,hd] at hq
   split at hq
   ·cases hq
   ·rename_i e3
    obtain ⟨o2,q1,q2⟩:=c1 _ _ _ hq;obtain ⟨o3,q3,q4⟩:=a1 _ _ _ q1;exact .inr ⟨fun h=>e h.1,fun h=>e3 h.1,o3,q3,fun w O ρ v h=>q2.1 _ _ _ _ (q4.1 _ _ _ _ h),fun hr=>T3 (q2.2.1 _ _ hr) rfl⟩
 ·have e1:f'≠f:=fun e=>by
   subst e;rw [Ie hM] at hq
   cases hmi:M i with
   | none=>rw [hmi] at hq;cases hq
   | some m=>rw [hmi] at hq;injection hq with hq;exact BW.notBlk hq
  obtain ⟨o2,q1,q2⟩:=a2 _ _ _ hq;obtain ⟨cs2,rfl⟩:=q2.2.2.1 _ _ rfl;obtain ⟨o3,q3,q4⟩:=c2 _ _ _ q1;obtain ⟨cs3,rfl⟩:=q4.2.2.1 _ _ rfl;refine ⟨cs3,?_⟩;rw [hg',if_neg e1,hd,if_neg]
  ·exact q3
  ·rintro rfl
   have:i=0:=by
    unfold hget at hq;rw [hone] at hq
    match i,hq with
    | 0,_=>rfl
    | i+1,hq=>cases hq
   exact hne' ⟨rfl,this⟩
 ·by_cases e:f'=f
  ·subst e
   by_cases e2:i=b
   ·subst e2;rw [Ie hM,hMb] at hq;cases hq
   ·exact ⟨o,by rw [hg',if_pos rfl,PF e2,←Ie hM];exact hq⟩
  ·obtain ⟨o2,q1,q2⟩:=a2 _ _ _ hq;obtain ⟨o3,q3,q4⟩:=c2 _ _ _ q1;refine ⟨o3,?_⟩;rw [hg',if_neg e,hd,if_neg]
   ·exact q3
   ·rintro rfl
    have:i=0:=by
     unfold hget at hq;rw [hone] at hq
     match i,hq with
     | 0,_=>rfl
     | i+1,hq=>cases hq
    exact hne' ⟨rfl,this⟩
 ·rcases KX ha with ⟨rfl,rfl⟩ | ⟨_,ha⟩
  ·have hr:=hs.env t _ ht
   generalize act.tmps.getD t undef=x at hr
   cases hr with
   | @ptr _ _ _ b' hb'=>
    rw [hρ] at hb';injection hb' with hb';injection hb' with hb';injection hb' with hb';subst hb'
    exact ⟨.d (.raw rfl),fun h=>by cases h⟩
  ·rcases Bg hE2 ha with rfl | ⟨h3,h4⟩
   ·exact ⟨.top,fun h=>by cases h⟩
   ·rcases Bg hE h3 with rfl | ⟨h5,_⟩
    ·exact ⟨.top,fun h=>by cases h⟩
    ·exact ⟨hs.env t' _ h5,h4 b⟩
 ·refine ⟨rfl,us,k1,by rw [k2,List.length_map],fun j c u hc hu=>?_,k4⟩;have:=k3 j (.d c) u (by rw [List.getElem?_map,hc];rfl) hu
  cases this with | d h=>exact h
theorem BW.val {F:Fr} {s:AS} {ρ:Nat ->Nat ->Value} {act:Act} {w:World} (hs:SR F s ρ act w) {f b:Nat} {M:MF} {m:BW} (hM:hfam s.hp f=some [.multi M]) (hb:M b=some m):ρ f b=pV b 0:=by
 have h2:hget s.hp f b=some (m.at_ b):=by rw [Ie hM,hb];rfl
 have:=hs.heap.sim f b _ h2
 cases m with
 | cells _ _=>exact this.1
 | row _ _ _ _=>exact this.1
theorem idx0 {hp:Hp} {g i:Nat} {o q:AQ} (hone:hfam hp g=some [o]) (hm:Qz o=true) (h:hget hp g i=some q):i=0:=by
 unfold hget at h;rw [hone] at h;have h2:[o][i]?=some q:=by rw [←Kp hm];exact h
 match i,h2 with
 | 0,_=>rfl
 | i+1,h2=>cases h2
theorem moved {hp hp1 hp2 hp3 hp':Hp} {g f b:Nat} {M:MF} {m:BW} {o:AQ} (hgf:g≠f) (hone:hfam hp g=some [o]) (hnm:Qz o=true) (hM:hfam hp f=some [.multi M]) (hMb:M b=none) (hH:A7 g hp=some hp1) (hH2:A7 f hp1=some hp2) (hh:DJ g hp2=some hp3) (hm:CN hp3 f (Cj M b m)=some hp'):
  (∀f' i o',hget hp' f' i=some o' ->(f'=f∧i=b∧o'=m.at_ b)∨(¬(f'=f∧i=b)∧¬(f'=g∧i=0)∧∃o,hget hp f' i=some o∧(∀w O ρ v,BD w O ρ o v ->BD w O ρ o' v)∧¬o'.Refs f b))∧hget hp' f b=some (m.at_ b)∧
  (∀f' i t cs,hget hp f' i=some (.blk t cs) ->¬(f'=g∧i=0) ->∃cs',hget hp' f' i=some (.blk t cs'))∧(∀f' i o,hget hp f' i=some o ->¬(f'=g∧i=0) ->∃o',hget hp' f' i=some o'):=by
 obtain ⟨a1,a2⟩:=Au hH;obtain ⟨c1,c2⟩:=Au hH2;have hd:=JC hh;have hg':=Df hm;refine ⟨fun f' i o' hq=>?_,by rw [hg',if_pos rfl,QC];rfl,fun f' i t' cs' hq hne'=>?_,fun f' i o hq hne'=>?_⟩
 ·rw [hg'] at hq
  by_cases e:f'=f
  ·subst e;rw [if_pos rfl] at hq
   by_cases e2:i=b
   ·subst e2;rw [QC] at hq;injection hq with hq
    exact .inl ⟨rfl,rfl,hq.symm⟩
   ·rw [PF e2] at hq;refine .inr ⟨fun h=>e2 h.2,fun h=>hgf h.1.symm,o',by rw [Ie hM];exact hq,fun _ _ _ _ h=>h,?_⟩
    cases hmi:M i with
    | none=>rw [hmi] at hq;cases hq
    | some m=>rw [hmi] at hq;injection hq with hq;subst hq;exact BW.norefs
  ·rw [if_neg e,hd] at hq
   split at hq
   ·cases hq
   ·rename_i e3
    obtain ⟨o2,q1,q2⟩:=c1 _ _ _ hq;obtain ⟨o3,q3,q4⟩:=a1 _ _ _ q1;exact .inr ⟨fun h=>e h.1,fun h=>e3 h.1,o3,q3,fun w O ρ v h=>q2.1 _ _ _ _ (q4.1 _ _ _ _ h),fun hr=>T3 (q2.2.1 _ _ hr) rfl⟩
 ·have e1:f'≠f:=fun e=>by
   subst e;rw [Ie hM] at hq
   cases hmi:M i with
   | none=>rw [hmi] at hq;cases hq
   | some m=>rw [hmi] at hq;injection hq with hq;exact BW.notBlk hq
  obtain ⟨o2,q1,q2⟩:=a2 _ _ _ hq;obtain ⟨cs2,rfl⟩:=q2.2.2.1 _ _ rfl;obtain ⟨o3,q3,q4⟩:=c2 _ _ _ q1;obtain ⟨cs3,rfl⟩:=q4.2.2.1 _ _ rfl;refine ⟨cs3,?_⟩;rw [hg',if_neg e1,hd,if_neg]
  ·exact q3
  ·rintro rfl;exact hne' ⟨rfl,idx0 hone hnm hq⟩
 ·by_cases e:f'=f
  ·subst e
   by_cases e2:i=b
   ·subst e2;rw [Ie hM,hMb] at hq;cases hq
   ·exact ⟨o,by rw [hg',if_pos rfl,PF e2,←Ie hM];exact hq⟩
  ·obtain ⟨o2,q1,q2⟩:=a2 _ _ _ hq;obtain ⟨o3,q3,q4⟩:=c2 _ _ _ q1;refine ⟨o3,?_⟩;rw [hg',if_neg e,hd,if_neg]
   ·exact q3
   ·rintro rfl;exact hne' ⟨rfl,idx0 hone hnm hq⟩
theorem LJ {F:Fr} {s:AS} {ρ:Nat ->Nat ->Value} {act:Act} {w:World} (hs:SR F s ρ act w) {g f b t:Nat} {v:Value} {env1 env':List (Nat×AV)} (hE:Ad g s.env=some env1) (hE2:Ad f env1=some env') (hv:act.tmps.getD t undef=v) (h1:v.oneCell'=true):
  ∀t' a,get ((t,.d (.raw v))::env') t'=some a ->A3 w (F.O ρ s.hp) ρ a (act.tmps.getD t' undef)∧¬a.Refs f b:=fun t' a ha=>by
 rcases KX ha with ⟨rfl,rfl⟩ | ⟨_,ha⟩
 ·rw [hv];exact ⟨.d (.raw h1),fun h=>by cases h⟩
 ·rcases Bg hE2 ha with rfl | ⟨h3,h4⟩
  ·exact ⟨.top,fun h=>by cases h⟩
  ·rcases Bg hE h3 with rfl | ⟨h5,_⟩
   ·exact ⟨.top,fun h=>by cases h⟩
   ·exact ⟨hs.env t' _ h5,h4 b⟩
theorem SR.absorbR {F:Fr} {s:AS} {ρ:Nat ->Nat ->Value} {act:Act} {w:World} (hs:SR F s ρ act w) (t g f:Nat) {M:MF} {T:TypeId} {kk n:Nat} {xs:List D} {pn:List Nat} {env1 env':List (Nat×AV)} {hp1 hp2 hp3:Hp} {hp':Nat ->Nat ->Hp} (hF:F.pn=pn) (hpn:memB g pn=false) (hne:Nat.beq g f=false)
  (ht:get s.env t=some (.own g 0 n)) (hn:n=xs.length) (hxs:xs≠ []) (hone:hfam s.hp g=some [.rowD T kk xs]) (hM:hfam s.hp f=some [.multi M]) (hE:Ad g s.env=some env1) (hE2:Ad f env1=some env') (hH:A7 g s.hp=some hp1) (hH2:A7 f hp1=some hp2) (hh:DJ g hp2=some hp3) (hm:∀b cap,CN hp3 f (Cj M b (.row T kk cap xs))=some (hp' b cap)):
  ∃b cap,M b=none∧xs.length≤cap∧SR F ⟨s.n,(t,.d (.raw (sV b n cap)))::env',hp' b cap⟩ (upd ρ f b (pV b 0)) act w:=by
 subst hn;have hgf:g≠f:=Nat.ne_of_beq_eq_false hne;have ho:hget s.hp g 0=some (.rowD T kk xs):=by unfold hget;rw [hone];rfl
 obtain ⟨us,a,cap,hρ,k1,k2,k3,k4,k5⟩:=hs.rowD ho
 have hpos:0<xs.length:=by
  cases xs with
  | nil=>exact absurd rfl hxs
  | cons _ _=>simp
 obtain ⟨b,rfl,_⟩:=k5 hpos
 have hMb:M b=none:=by
  cases hmb:M b with
  | none=>rfl
  | some m=>
   have h2:hget s.hp f b=some (m.at_ b):=by rw [Ie hM,hmb];rfl
   exact absurd (hs.heap.inj g 0 f b _ _ b ho h2 (by rw [hρ];rfl) (by rw [BW.val hs hM hmb];rfl)).1 hgf
 obtain ⟨m1,m2,m3,m4⟩:=moved hgf hone rfl hM hMb hH hH2 hh (hm b cap);refine ⟨b,cap,hMb,k4.1,hs.move g 0 f b ho (by simp only [Ie hM,hMb,Option.map_none]) (by rw [hρ];rfl) (M6 hF hpn) m1 m2 m3 m4 (LJ hs hE hE2 ?_ rfl) ⟨rfl,us,k1,k2,k3⟩⟩;have hr:=hs.env t _ ht
 generalize act.tmps.getD t undef=x at hr⊢
 cases hr with
 | own h1 h2=>
  rw [hρ] at h1;injection h1 with h1 h3 h4;subst h1 h4;rfl
theorem SR.splitR {F:Fr} {s:AS} {ρ:Nat ->Nat ->Value} {act:Act} {w:World} (hs:SR F s ρ act w) (t g f:Nat) {M:MF} {T:TypeId} {kk n cap b:Nat} {xs:List D} {env':List (Nat×AV)} {hp1 hp':Hp} (hne:Nat.beq g f=false)
  (ht:get s.env t=some (.d (.raw (sV b n cap)))) (hn:n=xs.length) (hM:hfam s.hp f=some [.multi M]) (hb:M b=some (.row T kk cap xs)) (hE:Ad g s.env=some env') (hH:A7 g s.hp=some hp1) (hz:hfam hp1 g=none) (hm:CN hp1 f (ET M b)=some hp'):
  SR F ⟨s.n,(t,.own g 0 n)::env',(g,[.rowD T kk xs])::hp'⟩ (upd ρ g 0 (sV b n cap)) act w:=by
 subst hn;have hgf:g≠f:=Nat.ne_of_beq_eq_false hne;obtain ⟨hρ,us,k1,k2,k3⟩:=hs.rowN hM hb;obtain ⟨a1,a2⟩:=Au hH;have hg':=Df hm
 have hz':∀i,hget s.hp g i=none:=fun i=>by
  cases hq:hget s.hp g i with
  | none=>rfl
  | some o=>
   obtain ⟨o2,q1,_⟩:=a2 _ _ _ hq;unfold hget at q1;rw [hz] at q1;cases q1
 have hcons:∀f' i,hget ((g,[.rowD T kk xs])::hp') f' i=if f'=g then [AQ.rowD T kk xs][i]? else hget hp' f' i:=fun f' i=>by
  by_cases e:f'=g
  ·subst e;rw [if_pos rfl];simp only [hget,hfam,Nat.beq_refl,Option.bind_some,Kp (o:= .rowD T kk xs) rfl]
  ·rw [if_neg e];simp only [hget,hfam,ER (fun h=>e h.symm)]
 have hmv:=hs.move f b g 0 (o1:= .nr b T kk cap xs) (o2:= .rowD T kk xs) (v2:=sV b xs.length cap) (env':=env') (hp':=(g,[.rowD T kk xs])::hp') (by rw [Ie hM,hb];rfl) (hz' 0) (by rw [hρ];rfl) (by
  cases hpin:F.pin f b with
  | none=>rfl
  | some b'=>
   obtain ⟨_,t',cs',h⟩:=hs.heap.pins f b b' hpin
   rw [Ie hM,hb] at h;injection h with h;cases h)
  (fun f' i o' hq=>by
   rw [hcons] at hq
   split at hq
   ·rename_i e
    subst e
    match i,hq with
    | 0,hq=>injection hq with hq;exact .inl ⟨rfl,rfl,hq.symm⟩
    | i+1,hq=>cases hq
   ·rename_i e
    rw [hg'] at hq
    split at hq
    ·rename_i e2
     subst e2
     by_cases e3:i=b
     ·subst e3;rw [O5] at hq;cases hq
     ·rw [Gd e3] at hq;refine .inr ⟨fun h=>e h.1,fun h=>e3 h.2,o',by rw [Ie hM];exact hq,fun _ _ _ _ h=>h,?_⟩
      cases hmi:M i with
      | none=>rw [hmi] at hq;cases hq
      | some m=>rw [hmi] at hq;injection hq with hq;subst hq;exact BW.norefs
    ·rename_i e2
     obtain ⟨o3,q3,q4⟩:=a1 _ _ _ hq
     exact .inr ⟨fun h=>e h.1,fun h=>e2 h.1,o3,q3,fun w O ρ v h=>q4.1 _ _ _ _ h,fun hr=>T3 (q4.2.1 _ _ hr) rfl⟩)
  (by rw [hcons,if_pos rfl];rfl)
  (fun f' i t' cs' hq hne'=>by
   have e1:f'≠f:=fun e=>by
    subst e;rw [Ie hM] at hq
    cases hmi:M i with
    | none=>rw [hmi] at hq;cases hq
    | some m=>rw [hmi] at hq;injection hq with hq;exact BW.notBlk hq
   have e2:f'≠g:=fun e=>by subst e;rw [hz'] at hq;cases hq
   obtain ⟨o2,q1,q2⟩:=a2 _ _ _ hq;obtain ⟨cs2,rfl⟩:=q2.2.2.1 _ _ rfl
   exact ⟨cs2,by rw [hcons,if_neg e2,hg',if_neg e1];exact q1⟩)
  (fun f' i o hq hne'=>by
   have e2:f'≠g:=fun e=>by subst e;rw [hz'] at hq;cases hq
   by_cases e1:f'=f
   ·subst e1;have e3:i≠b:=fun e=>hne' ⟨rfl,e⟩;exact ⟨o,by rw [hcons,if_neg e2,hg',if_pos rfl,Gd e3,←Ie hM];exact hq⟩
   ·obtain ⟨o2,q1,q2⟩:=a2 _ _ _ hq
    exact ⟨o2,by rw [hcons,if_neg e2,hg',if_neg e1];exact q1⟩)
  (fun t' a ha=>by
   rcases Bg hE ha with rfl | ⟨h3,h4⟩
   ·exact ⟨.top,fun h=>by cases h⟩
   ·exact ⟨hs.env t' _ h3,h4 0⟩)
  ⟨us,k1,k2,k3⟩
 refine ⟨hmv.size,hmv.defs,fun t' a ha=>?_,hmv.heap⟩;rcases KX ha with ⟨rfl,rfl⟩ | ⟨_,ha⟩
 ·have hr:=hs.env t _ ht
  generalize act.tmps.getD t undef=x at hr⊢
  cases hr with
  | d h=>cases h with | raw _=>exact .own QB (Nat.le_refl _)
 ·exact hmv.env t' a ha
section
variable {P:Program} {F:Fr} {Q:Exit ->AS ->Prop} {c:Code} {ops:Array Oper} {l:List Oper} {n:Nat} {env env1 env':List (Nat×AV)} {hp hp1 hp2 hp3:Hp}
theorem NY (t g f:Nat) {M:MF} {T:TypeId} {cs:List AV} {ds:List D} {pn:List Nat} {hp':Nat ->Hp} (hF:F.pn=pn) (hpn:memB g pn=false) (hne:Nat.beq g f=false) (ht:get env t=some (.ptr g 0 0)) (hone:hfam hp g=some [.blk T cs]) (hcs:cs=ds.map .d) (hM:hfam hp f=some [.multi M]) (hE:Ad g env=some env1) (hE2:Ad f env1=some env') (hH:A7 g hp=some hp1) (hH2:A7 f hp1=some hp2) (hh:DJ g hp2=some hp3) (hm:∀b,CN hp3 f (Cj M b (.cells T ds))=some (hp' b))
  (h:∀b,M b=none ->Bt P F c Q ⟨n,(t,.d (pD b 0))::env',hp' b⟩):Bt P F c Q ⟨n,env,hp⟩:=fun ρ act w hs=>by
 obtain ⟨b,hb,hs'⟩:=hs.absorb t g f hF hpn hne ht hone hcs hM hE hE2 hH hH2 hh hm;exact h b hb _ act w hs'
theorem X7 (t g f:Nat) {M:MF} {T:TypeId} {cs:List AV} {ds:List D} {pn:List Nat} {hp':Nat ->Hp} (hF:F.pn=pn) (hpn:memB g pn=false) (hne:Nat.beq g f=false) (ht:get env t=some (.ptr g 0 0)) (hone:hfam hp g=some [.blk T cs]) (hcs:cs=ds.map .d) (hM:hfam hp f=some [.multi M]) (hE:Ad g env=some env1) (hE2:Ad f env1=some env') (hH:A7 g hp=some hp1) (hH2:A7 f hp1=some hp2) (hh:DJ g hp2=some hp3) (hm:∀b,CN hp3 f (Cj M b (.cells T ds))=some (hp' b))
  (h:∀b,M b=none ->Aq P F ops l Q ⟨n,(t,.d (pD b 0))::env',hp' b⟩):Aq P F ops l Q ⟨n,env,hp⟩:=fun ρ act w hs=>by
 obtain ⟨b,hb,hs'⟩:=hs.absorb t g f hF hpn hne ht hone hcs hM hE hE2 hH hH2 hh hm;exact h b hb _ act w hs'
theorem IG (t g f:Nat) {M:MF} {T:TypeId} {kk m:Nat} {xs:List D} {pn:List Nat} {hp':Nat ->Nat ->Hp} (hF:F.pn=pn) (hpn:memB g pn=false) (hne:Nat.beq g f=false) (ht:get env t=some (.own g 0 m)) (hn:m=xs.length) (hxs:xs≠ []) (hone:hfam hp g=some [.rowD T kk xs]) (hM:hfam hp f=some [.multi M]) (hE:Ad g env=some env1) (hE2:Ad f env1=some env') (hH:A7 g hp=some hp1) (hH2:A7 f hp1=some hp2) (hh:DJ g hp2=some hp3) (hm:∀b cap,CN hp3 f (Cj M b (.row T kk cap xs))=some (hp' b cap))
  (h:∀b cap,M b=none ->xs.length≤cap ->Aq P F ops l Q ⟨n,(t,.d (.raw (sV b m cap)))::env',hp' b cap⟩):Aq P F ops l Q ⟨n,env,hp⟩:=fun ρ act w hs=>by
 obtain ⟨b,cap,hb,hc,hs'⟩:=hs.absorbR t g f hF hpn hne ht hn hxs hone hM hE hE2 hH hH2 hh hm;exact h b cap hb hc _ act w hs'
theorem a_multi (f:Nat) (hE:Ad f env=some env') (hH:A7 f hp=some hp1) (hz:hfam hp1 f=none) (h:Bt P F c Q ⟨n,env',(f,[.multi fun _=>none])::hp1⟩):Bt P F c Q ⟨n,env,hp⟩:=fun ρ act w hs=>by
 refine h ρ act w ?_;obtain ⟨a1,a2⟩:=Au hH
 have hcons:∀f' i,hget ((f,[.multi fun _=>none])::hp1) f' i=if f'=f then none else hget hp1 f' i:=fun f' i=>by
  by_cases e:f'=f
  ·subst e;rw [if_pos rfl];simp only [hget,hfam,Nat.beq_refl,Option.bind_some,gl,isM,Option.map_none]
  ·rw [if_neg e];simp only [hget,hfam,ER (fun h=>e h.symm)]
 have hh:B8 F ((f,[.multi fun _=>none])::hp1) ρ w:=hs.heap.less (fun g i o' ho=>by
  rw [hcons] at ho
  split at ho
  ·cases ho
  ·obtain ⟨o,h1,h2⟩:=a1 _ _ _ ho
   exact ⟨o,h1,fun w O v h=>h2.1 _ _ _ _ h⟩) fun g i o ho=>by
  obtain ⟨o',h1,h2⟩:=a2 _ _ _ ho
  have e:g≠f:=fun e=>by
   subst e;unfold hget at h1;rw [hz] at h1;cases h1
  exact ⟨o',by rw [hcons,if_neg e];exact h1,fun t cs e=>by subst e;exact h2.2.2.1 _ _ rfl⟩
 have hO:F.O ρ ((f,[.multi fun _=>none])::hp1)=F.O ρ hp:=funext fun b=>propext ⟨fun h=>h.imp id fun ⟨g,i,o,h1,h2⟩=>by
  rw [hcons] at h1
  split at h1
  ·cases h1
  ·obtain ⟨o',h3,_⟩:=a1 _ _ _ h1
   exact ⟨g,i,o',h3,h2⟩,fun h=>h.imp id fun ⟨g,i,o,h1,h2⟩=>by
  obtain ⟨o',h3,_⟩:=a2 _ _ _ h1
  have e:g≠f:=fun e=>by
   subst e;unfold hget at h3;rw [hz] at h3;cases h3
  exact ⟨g,i,o',by rw [hcons,if_neg e];exact h3,h2⟩⟩
 refine ⟨hs.size,hO▸hs.defs,fun t a ha=>?_,hh⟩;show A3 w (F.O ρ ((f,[.multi fun _=>none])::hp1)) ρ a _;rw [hO];rcases Bg hE ha with rfl | ⟨h3,_⟩
 ·exact .top
 ·exact hs.env t a h3
end
theorem SR.split {F:Fr} {s:AS} {ρ:Nat ->Nat ->Value} {act:Act} {w:World} (hs:SR F s ρ act w) (t g f:Nat) {M:MF} {T:TypeId} {b:Nat} {cs:List D} {env':List (Nat×AV)} {hp1 hp':Hp} (hne:Nat.beq g f=false)
  (ht:get s.env t=some (.d (pD b 0))) (hM:hfam s.hp f=some [.multi M]) (hb:M b=some (.cells T cs)) (hE:Ad g s.env=some env') (hH:A7 g s.hp=some hp1) (hz:hfam hp1 g=none) (hm:CN hp1 f (ET M b)=some hp'):
  SR F ⟨s.n,(t,.ptr g 0 0)::env',(g,[.blk T (cs.map .d)])::hp'⟩ (upd ρ g 0 (pV b 0)) act w:=by
 have hgf:g≠f:=Nat.ne_of_beq_eq_false hne;obtain ⟨hρ,us,k1,k2,k3,k4⟩:=hs.cellsN hM hb;obtain ⟨a1,a2⟩:=Au hH;have hg':=Df hm
 have hz':∀i,hget s.hp g i=none:=fun i=>by
  cases hq:hget s.hp g i with
  | none=>rfl
  | some o=>
   obtain ⟨o2,q1,_⟩:=a2 _ _ _ hq;unfold hget at q1;rw [hz] at q1;cases q1
 have hcons:∀f' i,hget ((g,[.blk T (cs.map .d)])::hp') f' i=if f'=g then [AQ.blk T (cs.map .d)][i]? else hget hp' f' i:=fun f' i=>by
  by_cases e:f'=g
  ·subst e;rw [if_pos rfl];simp only [hget,hfam,Nat.beq_refl,Option.bind_some,Kp (o:= .blk T (cs.map .d)) rfl]
  ·rw [if_neg e];simp only [hget,hfam,ER (fun h=>e h.symm)]
 have hmv:=hs.move f b g 0 (o1:= .nb b T cs) (o2:= .blk T (cs.map .d)) (v2:=pV b 0) (env':=env') (hp':=(g,[.blk T (cs.map .d)])::hp') (by rw [Ie hM,hb];rfl) (hz' 0) (by rw [hρ]) (by
  cases hpin:F.pin f b with
  | none=>rfl
  | some b'=>
   obtain ⟨_,t',cs',h⟩:=hs.heap.pins f b b' hpin
   rw [Ie hM,hb] at h;injection h with h;cases h)
  (fun f' i o' hq=>by
   rw [hcons] at hq
   split at hq
   ·rename_i e
    subst e
    match i,hq with
    | 0,hq=>injection hq with hq;exact .inl ⟨rfl,rfl,hq.symm⟩
    | i+1,hq=>cases hq
   ·rename_i e
    rw [hg'] at hq
    split at hq
    ·rename_i e2
     subst e2
     by_cases e3:i=b
     ·subst e3;rw [O5] at hq;cases hq
     ·rw [Gd e3] at hq;refine .inr ⟨fun h=>e h.1,fun h=>e3 h.2,o',by rw [Ie hM];exact hq,fun _ _ _ _ h=>h,?_⟩
      cases hmi:M i with
      | none=>rw [hmi] at hq;cases hq
      | some m=>rw [hmi] at hq;injection hq with hq;subst hq;exact BW.norefs
    ·rename_i e2
     obtain ⟨o3,q3,q4⟩:=a1 _ _ _ hq
     exact .inr ⟨fun h=>e h.1,fun h=>e2 h.1,o3,q3,fun w O ρ v h=>q4.1 _ _ _ _ h,fun hr=>T3 (q4.2.1 _ _ hr) rfl⟩)
  (by rw [hcons,if_pos rfl];rfl)
  (fun f' i t' cs' hq hne'=>by
   have e1:f'≠f:=fun e=>by
    subst e;rw [Ie hM] at hq
    cases hmi:M i with
    | none=>rw [hmi] at hq;cases hq
    | some m=>rw [hmi] at hq;injection hq with hq;exact BW.notBlk hq
   have e2:f'≠g:=fun e=>by subst e;rw [hz'] at hq;cases hq
   obtain ⟨o2,q1,q2⟩:=a2 _ _ _ hq;obtain ⟨cs2,rfl⟩:=q2.2.2.1 _ _ rfl
   exact ⟨cs2,by rw [hcons,if_neg e2,hg',if_neg e1];exact q1⟩)
  (fun f' i o hq hne'=>by
   have e2:f'≠g:=fun e=>by subst e;rw [hz'] at hq;cases hq
   by_cases e1:f'=f
   ·subst e1;have e3:i≠b:=fun e=>hne' ⟨rfl,e⟩;exact ⟨o,by rw [hcons,if_neg e2,hg',if_pos rfl,Gd e3,←Ie hM];exact hq⟩
   ·obtain ⟨o2,q1,q2⟩:=a2 _ _ _ hq
    exact ⟨o2,by rw [hcons,if_neg e2,hg',if_neg e1];exact q1⟩)
  (fun t' a ha=>by
   rcases Bg hE ha with rfl | ⟨h3,h4⟩
   ·exact ⟨.top,fun h=>by cases h⟩
   ·exact ⟨hs.env t' _ h3,h4 0⟩)
  ⟨b,us,rfl,k1,by rw [List.length_map];exact k2,fun j c u hc hu=>by
   rw [List.getElem?_map] at hc
   cases hj:cs[j]? with
   | none=>rw [hj] at hc;cases hc
   | some d=>
    rw [hj] at hc;injection hc with hc;subst hc
    exact .d (k3 j d u hj hu),k4⟩
 refine ⟨hmv.size,hmv.defs,fun t' a ha=>?_,hmv.heap⟩;rcases KX ha with ⟨rfl,rfl⟩ | ⟨_,ha⟩
 ·have hr:=hs.env t _ ht
  generalize act.tmps.getD t undef=x at hr⊢
  cases hr with
  | d h=>cases h with | raw _=>exact .ptr QB
 ·exact hmv.env t' a ha
section
variable {P:Program} {F:Fr} {Q:Exit ->AS ->Prop} {c:Code} {n:Nat} {env env1 env':List (Nat×AV)} {hp hp1:Hp}
theorem a_split (t g f:Nat) {M:MF} {T:TypeId} {b:Nat} {cs:List D} {hp':Hp} (hne:Nat.beq g f=false) (ht:get env t=some (.d (pD b 0))) (hM:hfam hp f=some [.multi M]) (hb:M b=some (.cells T cs)) (hE:Ad g env=some env') (hH:A7 g hp=some hp1) (hz:hfam hp1 g=none) (hm:CN hp1 f (ET M b)=some hp')
  (h:Bt P F c Q ⟨n,(t,.ptr g 0 0)::env',(g,[.blk T (cs.map .d)])::hp'⟩):Bt P F c Q ⟨n,env,hp⟩:=fun ρ act w hs=>h _ act w (hs.split t g f hne ht hM hb hE hH hz hm)
theorem T0 (t g f g0 off:Nat) {M:MF} {T t0:TypeId} {kk m:Nat} {xs:List D} {cs:List AV} {pn:List Nat} {cs':Nat ->Nat ->List AV} {hpc hp1 hp2 hp3 hp':Nat ->Nat ->Hp} (hF:F.pn=pn) (hpn:memB g pn=false) (hne:Nat.beq g f=false) (ht:get env t=some (.own g 0 m)) (hn:m=xs.length) (hxs:xs≠ [])
  (ho:hget hp g0 0=some (.blk t0 cs)) (hc:cs[off]?=some (.own g 0 m)) (hs':∀b cap,D2 cs off [.d (.raw (sV b m cap))]=some (cs' b cap)) (hset:∀b cap,Bn hp g0 0 (.blk t0 (cs' b cap))=some (hpc b cap))
  (hone:hget hp g 0=some (.rowD T kk xs)) (hone2:∀b cap,hfam (hpc b cap) g=some [.rowD T kk xs]) (hM:∀b cap,hfam (hpc b cap) f=some [.multi M]) (hE:Ad g env=some env1) (hE2:Ad f env1=some env') (hH:∀b cap,A7 g (hpc b cap)=some (hp1 b cap)) (hH2:∀b cap,A7 f (hp1 b cap)=some (hp2 b cap)) (hh:∀b cap,DJ g (hp2 b cap)=some (hp3 b cap)) (hm:∀b cap,CN (hp3 b cap) f (Cj M b (.row T kk cap xs))=some (hp' b cap))
  (h:∀b cap,M b=none ->xs.length≤cap ->Bt P F c Q ⟨n,(t,.d (.raw (sV b m cap)))::env',hp' b cap⟩):Bt P F c Q ⟨n,env,hp⟩:=fun ρ act w hs=>by
 subst hn;obtain ⟨us,a,cap0,hρ,k1,k2,k3,k4,k5⟩:=hs.rowD hone
 have hpos:0<xs.length:=by
  cases xs with
  | nil=>exact absurd rfl hxs
  | cons _ _=>simp
 obtain ⟨b0,rfl,_⟩:=k5 hpos;have hs1:=hs.rawC g0 0 off ho hc hρ (hs' b0 cap0) (hset b0 cap0)
 -- the row's new place is told for every place; here it is b0
 have hgf:g≠f:=Nat.ne_of_beq_eq_false hne
 have hMb:M b0=none:=by
  cases hmb:M b0 with
  | none=>rfl
  | some m=>
   have h2:hget (hpc b0 cap0) f b0=some (m.at_ b0):=by rw [Ie (hM b0 cap0),hmb];rfl
   have ho':hget (hpc b0 cap0) g 0=some (.rowD T kk xs):=by unfold hget;rw [hone2];rfl
   exact absurd (hs1.heap.inj g 0 f b0 _ _ b0 ho' h2 (by rw [hρ];rfl) (by rw [BW.val hs1 (hM b0 cap0) hmb];rfl)).1 hgf
 have ho':hget (hpc b0 cap0) g 0=some (.rowD T kk xs):=by unfold hget;rw [hone2];rfl
 obtain ⟨m1,m2,m3,m4⟩:=moved hgf (hone2 b0 cap0) rfl (hM b0 cap0) hMb (hH b0 cap0) (hH2 b0 cap0) (hh b0 cap0) (hm b0 cap0);refine h b0 cap0 hMb k4.1 _ act w (hs1.move g 0 f b0 ho' (by simp only [Ie (hM b0 cap0),hMb,Option.map_none]) (by rw [hρ];rfl) (M6 hF hpn) m1 m2 m3 m4 (LJ hs1 hE hE2 ?_ rfl) ⟨rfl,us,k1,⟨k2.1,k2.2.1,fun i x hx j c hc=>?_⟩,k3⟩)
 ·have hr:=hs.env t _ ht
  generalize act.tmps.getD t undef=x at hr⊢
  cases hr with
  | own h1 h2=>
   rw [hρ] at h1;injection h1 with h1 h3 h4;subst h1 h4;rfl
 ·obtain ⟨u,hu,hu1,hr⟩:=k2.2.2 i x hx j c hc;refine ⟨u,hu,hu1,?_⟩
  have hO:∀b,F.O ρ (hpc b0 cap0) b ->F.O ρ hp b:=fun b hb=>by
   rcases hb with hb | ⟨f',i',o,h1,h2⟩
   ·exact .inl hb
   ·refine .inr ?_;rw [BN (hset b0 cap0)] at h1
    split at h1
    ·rename_i e;obtain ⟨rfl,rfl⟩:=e;exact ⟨_,_,_,ho,h2⟩
    ·exact ⟨_,_,_,h1,h2⟩
  exact hr.mono (Nat.le_refl _) (fun _ _ _=>rfl) fun b _=>hO b
end
end Go.Proofs.YtnkkaeblokdifaaGreat
