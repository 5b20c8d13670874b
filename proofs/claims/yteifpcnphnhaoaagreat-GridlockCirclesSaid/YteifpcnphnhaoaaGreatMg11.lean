import Derived.Test.YteifpcnphnhaoaaGreatMg10
import Derived.Lib.SliceRun
namespace Go.Proofs.YteifpcnphnhaoaaGreat
open Go.RowKit
theorem Rt {P:Program} {F:Fr} {Q:Exit ->AS ->Prop} {n:Nat} {env:List (Nat×AV)} {hp hp':List (Nat×List AL)} {ops:Array Oper} {rest:List Oper} {d d':Nat} {T E ty ty2:TypeId} {pos pos2:String} {aft aft2:Array Edge} {x lo:Operand} {α:Type} {emb:α ->D}
  (l:List α) (k:Nat) {z:Value} {zd:α} {f j m:Nat} {t:TypeId} {xs:List D} {kl:IntKind} {il:Int}
  (hx:AS.ev ⟨n,env,hp⟩ x=some (.own f j m)) (hlo:AS.ev ⟨n,env,hp⟩ lo=some (.d (.raw (.int kl il)))) (ho:hget hp f j=some (.rowD t 1 xs)) (hl:xs=l.map emb) (hm:m=l.length) (hk:il=(k:Int)) (hkl:k<l.length)
  (hT:P.underlying T=some (.slice E)) (hE:AY P E 1=true) (hz:∀w,(zeroValue E).run P w= .ok z w) (hz1:z.oneCell'=true) (hzc:z.cells= #[z]) (hzd:emb zd= .raw z)
  (hh:BN hp f j (.rowD t 1 ((l.take k++List.replicate (l.length - k) zd).map emb))=some hp') (hd:Nat.blt d n=true) (hd':d'=d)
  (hK:Ab P F ops rest Q ⟨n,(d,.top)::env,hp'⟩):
  Ab P F ops (⟨some d,.slice T x (some lo) none none,ty,pos,aft,none⟩::⟨none,.call {callee:= .builtin .clear,args:= #[.tmp d'],argTypes:= #[T]},ty2,pos2,aft2,none⟩::rest) Q ⟨n,env,hp⟩:=fun ρ act w hs=>by
 subst hl hm hk hd';have hr:=hs.ev hx
 generalize hv:act.eval x=u at hr
 obtain ⟨us,a,cap,e1,h1,h2,h3,h4,h5⟩:=hs.rowD ho
 cases hr with
 | own hρ hn'=>
  rw [e1] at hρ;injection hρ with e2 e3 e4
  subst e2 e3 e4;have hlen:(l.map emb).length=l.length:=ψ _;obtain ⟨b,e5,cur,h6,h7,h8⟩:=h5 (by omega);have e5:a=some ⟨b,0,none⟩:=e5;subst e5;have hcap:=h4.1;have hne:¬cap=k:=by omega
  have hus:us.length=l.length*1:=by rw [←hlen];exact h2.1
  have hcl:us.length≤cur.toList.length:=by rw [←h8,Υ];omega
  have h6':w.heap[b]? =some (.cells cur.toList.toArray t (0,0)):=by simpa using h6
  refine wpListIn_plain Z fun K1 hk1=>En Z ?_;unfold Oper.wp
  have hex:(execOp act.eval ⟨some d',.slice T x (some lo) none none,ty,pos,aft,none⟩).run P w= .ok (.value (.slice (some ⟨b,k*1,none⟩) (l.length - k) (cap - k))) w:=by
   simp only [execOp,hv,ψz,φk,hs.raw hlo,Sem.run_bind,Pr hT (YX hE) (Nat.le_of_lt hkl),Result.andThen_ok,Sem.run_pure,ϑ hne,Addr.add,ψq]
   by_cases h0:k*1=0
   ·rw [θ h0,h0]
   ·rw [ϑ h0]
  rw [hex];refine hk1 _ _ ?_;have hs1:SR F ⟨n,(d',.top)::env,hp⟩ ρ (act.put (some d') (.slice (some ⟨b,k*1,none⟩) (l.length - k) (cap - k))) w:=hs.put (IB hd) .top;have hev:(act.put (some d') (.slice (some ⟨b,k*1,none⟩) (l.length - k) (cap - k))).eval (.tmp d')= .slice (some ⟨b,k*1,none⟩) (l.length - k) (cap - k):=Ig (by rw [hs.size];exact IB hd);refine wpListIn_plain Z fun K2 hk2=>En Z ?_;unfold Oper.wp
  have hcell:∀j,j<l.length - k ->(w.cell? ⟨b,k*1+j,none⟩).isSome=true:=fun j hj=>by
   have hjl:k*1+j<us.length:=by omega
   rw [DW h6 h8 (ω hjl)];rfl
  have hfr:∀j,j<l.length - k ->w.frozen? ⟨b,k*1+j,none⟩=false:=fun j hj=>by
   simp only [World.frozen?,h6];simp
  have hrun:=Lib.run_clear_slice (P:=P) w T E ty2 z hT hz hzc hz1 b (k*1) (l.length - k) (cap - k) (by omega) hcell hfr
  have hex2:(execOp (act.put (some d') (.slice (some ⟨b,k*1,none⟩) (l.length - k) (cap - k))).eval ⟨none,.call {callee:= .builtin .clear,args:= #[.tmp d'],argTypes:= #[T]},ty2,pos2,aft2,none⟩).run P w= .ok (.value (.tuple #[])) (w.setCells b (k*1) (List.replicate (l.length - k) z)):=by
   have hev':=hev
   generalize hV:(Value.slice (some ⟨b,k*1,none⟩) (l.length - k) (cap - k))=Qqq at hev' hrun
   simp [execOp,resolve,invoke,builtin,hV,hev',hrun]
  rw [hex2];refine hk2 _ _ ?_;obtain ⟨g1,g2,g3,g4⟩:=Zcq (b:=b) (List.replicate (l.length - k) z) (k*1) w;refine hK ρ _ _ ?_;have hlz:(List.replicate (l.length - k) z).length=l.length - k:=List.length_replicate;refine hs1.write f j _ _ ho (Am hh) g1 g2 g3 g4 (fun b' hb'=>ZbT _ _ _ _ (fun e=>hb' (by rw [e1,e];rfl))) (fun _ _ e=>by cases e) (fun hrep=>?_) (Nat.le_of_eq (DU _ _ _ _).symm)
  have hrepD:∀c u,AQ w (F.O ρ hp) c u ->AQ (w.setCells b (k*1) (List.replicate (l.length - k) z)) (F.O ρ hp') c u:=fun c u hr=>by
   have:=hrep (.d c) u (.d hr)
   cases this with | d h=>exact h
  have hnl:((l.take k++List.replicate (l.length - k) zd).map emb).length=l.length:=by simp;omega
  have hset:FT us (k*1) (List.replicate (l.length - k) z)=us.take k++List.replicate (l.length - k) z:=by
   apply χq
   intro i;rw [ce _ _ _ (by omega),hlz,List.getElem?_append,Υ]
   by_cases hi:i<k
   ·rw [ϑ (by omega),θ (by omega),ψf hi]
   ·rw [ϑ (c:=i<min k us.length) (by omega)]
    by_cases hi2:i<l.length
    ·rw [θ (by omega)];congr 1;omega
    ·rw [ϑ (by omega),ωw (by omega),ωw (by rw [hlz];omega)]
  rw [e1];refine ⟨FT us (k*1) (List.replicate (l.length - k) z),?_,⟨?_,fun x' hx'=>?_,fun i' x' hx' q c hc=>?_⟩,fun x' hx' c hc=>?_⟩
  ·refine ⟨by rw [YW,hnl,hus],.inr ⟨b,cap,(FT cur.toList (k*1) (List.replicate (l.length - k) z)).toArray,by rw [hnl,hlen],by omega,?_,by rw [hnl];omega,h4.2.1,by simp [YW,h7],?_⟩⟩
   ·simpa using ZbU (fr:=(0,0)) (List.replicate (l.length - k) z) cur.toList (k*1) w h6'
   ·rw [hnl];show (FT cur.toList (k*1) (List.replicate (l.length - k) z)).take (l.length*1)=_;rw [←hus,KZ _ _ _ _ (by omega) hcl];have:cur.toList.take us.length=us:=by rw [hus,←hlen];exact h8
    rw [this]
  ·rw [YW,hnl,hus]
  ·obtain ⟨y,hy,rfl⟩:=ϱ.1 hx';rcases υ.1 hy with hy | hy
   ·exact h2.2.1 _ (ϱ.2 ⟨y,ωy hy,Z⟩)
   ·rw [List.eq_of_mem_replicate hy,hzd];rfl
  ·have hc1:x'.cells.length=1:=by
    obtain ⟨y,hy,rfl⟩:=ϱ.1 (ζ hx');rcases υ.1 hy with hy | hy
    ·exact h2.2.1 _ (ϱ.2 ⟨y,ωy hy,Z⟩)
    ·rw [List.eq_of_mem_replicate hy,hzd];rfl
   have hq0:q=0:=by have:=(χ.1 hc).1;omega
   subst hq0;rw [hset];rw [η] at hx'
   by_cases hi:i'<k
   ·rw [ψb (by rw [Υ];omega),ψf hi] at hx';have hx2:(l.map emb)[i']? =some x':=by rw [η];exact hx'
    obtain ⟨u,a1,a2,a3⟩:=h2.2.2 i' x' hx2 0 c hc;refine ⟨u,?_,a2,hrepD _ _ a3⟩;rw [ψb (by rw [Υ];omega),ψf (by omega)];exact a1
   ·rw [ωq (by rw [Υ];omega),Υ,Nat.min_eq_left (by omega)] at hx'
    have hir:i' - k<l.length - k:=by
     have:((List.replicate (l.length - k) zd)[i' - k]?).isSome:=by
      cases hq:(List.replicate (l.length - k) zd)[i' - k]? with
      | none=>rw [hq] at hx';cases hx'
      | some _=>rfl
     simpa using this
    rw [List.getElem?_replicate,θ hir] at hx';injection hx' with hx'
    rw [hzd] at hx';subst hx';simp only [D.cells,List.getElem?_cons_zero,Option.some.injEq] at hc;subst hc;refine ⟨z,?_,hz1,.raw hz1⟩;rw [ωq (by rw [Υ];omega),Υ,List.getElem?_replicate,θ (by omega)]
  ·obtain ⟨y,hy,rfl⟩:=ϱ.1 hx';rcases υ.1 hy with hy | hy
   ·exact h3 _ (ϱ.2 ⟨y,ωy hy,Z⟩) c hc
   ·rw [List.eq_of_mem_replicate hy,hzd] at hc;simp only [D.cells,ξ] at hc;subst hc;rfl
theorem SR.ghost {F:Fr} {s:AS} {ρ:Nat ->Nat ->Value} {act:Act} {w:World} (h:SR F s ρ act w) (g f i:Nat) (hne:Nat.beq f g=false) {env':List (Nat×AV)} {hp1 hp':Hp} (hE:AZ g s.env=some env') (hH:AX g s.hp=some hp1) (hn:CX hp1 g (.addr f i (ρ f i))=some hp'):
  SR F ⟨s.n,env',hp'⟩ (upd ρ g 0 .nilFunc) act w:=by
 obtain ⟨h1,h2⟩:=Gh hn
 refine h.set g 0 (.addr f i (ρ f i)) .nilFunc hE hH h1 (fun t cs hh=>?_) (fun b hb=>by cases hb) Z Z Z (ν _) (fun _ _ _=>rfl) fun _=>⟨Z,MN fun e=>(ψg hne) e.1⟩
 obtain ⟨_,k2⟩:=Ar hH;obtain ⟨o,ho,_⟩:=k2 _ _ _ hh;rw [h2] at ho;cases ho
section
variable {P:Program} {F:Fr} {Q:Exit ->AS ->Prop} {c:Code} {ops:Array Oper} {l:List Oper} {n:Nat} {env env':List (Nat×AV)} {hp hp1:Hp}
theorem T5 (g f i:Nat) {bs:Option (List Nat×Nat)} {es:List (D×D)} (ho:hget hp f i=some (.map bs es)) (hne:Nat.beq f g=false) (hE:AZ g env=some env') (hH:AX g hp=some hp1) (hz:hfam hp1 g=none)
  (h:∀m:Nat,Bq P F c Q ⟨n,env',(g,[.addr f i (.map (some m))])::hp1⟩):Bq P F c Q ⟨n,env,hp⟩:=fun ρ act w hs=>by
 obtain ⟨m,_,_,e,_⟩:=hs.heap.sim f i _ ho;exact h m _ act w (hs.ghost g f i hne hE hH (by rw [e];unfold CX;rw [hz];rfl))
theorem aI (g f i:Nat) {bs:Option (List Nat×Nat)} {es:List (D×D)} (ho:hget hp f i=some (.map bs es)) (hne:Nat.beq f g=false) (hE:AZ g env=some env') (hH:AX g hp=some hp1) (hz:hfam hp1 g=none)
  (h:∀m:Nat,Ab P F ops l Q ⟨n,env',(g,[.addr f i (.map (some m))])::hp1⟩):Ab P F ops l Q ⟨n,env,hp⟩:=fun ρ act w hs=>by
 obtain ⟨m,_,_,e,_⟩:=hs.heap.sim f i _ ho;exact h m _ act w (hs.ghost g f i hne hE hH (by rw [e];unfold CX;rw [hz];rfl))
theorem SR.toRaw {s:AS} {ρ:Nat ->Nat ->Value} {act:Act} {w:World} (hs:SR F s ρ act w) (t g j:Nat) {f i:Nat} {v:Value} (ht:get s.env t=some (.map f i)∨get s.env t=some (.ptr f i 0)) (hg:hget s.hp g j=some (.addr f i v)):SR F ⟨s.n,(t,.d (.raw v))::s.env,s.hp⟩ ρ act w:=by
 obtain ⟨_,hv⟩:=hs.heap.sim g j _ hg;refine ⟨hs.size,hs.defs,fun t' a ha=>?_,hs.heap⟩;rcases KJ ha with ⟨rfl,rfl⟩ | ⟨_,ha⟩
 ·rcases ht with ht | ht
  ·have hr:=hs.env t _ ht
   generalize act.tmps.getD t undef=x at hr
   cases hr with
   | map h=>rw [h] at hv;subst hv;exact .d (.raw Z)
  ·have hr:=hs.env t _ ht
   generalize act.tmps.getD t undef=x at hr
   cases hr with
   | ptr h=>rw [h] at hv;subst hv;exact .d (.raw Z)
 ·exact hs.env t' a ha
theorem SR.rawMap {s:AS} {ρ:Nat ->Nat ->Value} {act:Act} {w:World} (hs:SR F s ρ act w) (t g j:Nat) {f i m:Nat} (ht:get s.env t=some (.d (.raw (.map (some m))))) (hg:hget s.hp g j=some (.addr f i (.map (some m)))):SR F ⟨s.n,(t,.map f i)::s.env,s.hp⟩ ρ act w:=by
 obtain ⟨_,hv⟩:=hs.heap.sim g j _ hg;refine ⟨hs.size,hs.defs,fun t' a ha=>?_,hs.heap⟩;rcases KJ ha with ⟨rfl,rfl⟩ | ⟨_,ha⟩
 ·have hr:=hs.env t _ ht
  generalize act.tmps.getD t undef=x at hr
  cases hr with
  | d h=>cases h with | raw _=>exact .map hv
 ·exact hs.env t' a ha
theorem W6 (t g j:Nat) {f i:Nat} {v:Value} (ht:get env t=some (.map f i)∨get env t=some (.ptr f i 0)) (hg:hget hp g j=some (.addr f i v)) (h:Bq P F c Q ⟨n,(t,.d (.raw v))::env,hp⟩):Bq P F c Q ⟨n,env,hp⟩:=fun _ _ _ hs=>h _ _ _ (hs.toRaw t g j ht hg)
theorem o_toRaw (t g j:Nat) {f i:Nat} {v:Value} (ht:get env t=some (.map f i)∨get env t=some (.ptr f i 0)) (hg:hget hp g j=some (.addr f i v)) (h:Ab P F ops l Q ⟨n,(t,.d (.raw v))::env,hp⟩):Ab P F ops l Q ⟨n,env,hp⟩:=fun _ _ _ hs=>h _ _ _ (hs.toRaw t g j ht hg)
theorem D1 (t g j:Nat) {f i m:Nat} (ht:get env t=some (.d (.raw (.map (some m))))) (hg:hget hp g j=some (.addr f i (.map (some m)))) (h:Ab P F ops l Q ⟨n,(t,.map f i)::env,hp⟩):Ab P F ops l Q ⟨n,env,hp⟩:=fun _ _ _ hs=>h _ _ _ (hs.rawMap t g j ht hg)
end
abbrev pV (b off:Nat):Value:= .pointer (some ⟨b,off,none⟩)
abbrev pD (b off:Nat):D:= .raw (pV b off)
abbrev sV (b n cap:Nat):Value:= .slice (some ⟨b,0,none⟩) n cap
abbrev MF:=Nat ->Option Ad
def BQ (M:MF) (b:Nat) (m:Ad):MF:=fun i=>if i=b then some m else M i
def EZ (M:MF) (b:Nat):MF:=fun i=>if i=b then none else M i
theorem E2 (M:MF) (b:Nat) (m:Ad):BQ M b m b=some m:=by unfold BQ;rw [θ rfl]
theorem FR {M:MF} {b i:Nat} {m:Ad} (h:i≠b):BQ M b m i=M i:=by unfold BQ;rw [ϑ h]
theorem PJ (M:MF) (b:Nat):EZ M b b=none:=by unfold EZ;rw [θ rfl]
theorem Ga {M:MF} {b i:Nat} (h:i≠b):EZ M b i=M i:=by unfold EZ;rw [ϑ h]
def B1:Hp ->Nat ->MF ->Option Hp
 | [],_,_=>none
 | (k,l)::r,f,M=>match Nat.beq k f with
  | true=>match isM l with
   | some _=>some ((k,[.multi M])::r)
   | none=>none
  | false=>match B1 r f M with
   | none=>none
   | some r'=>some ((k,l)::r')
theorem Ft {hp:Hp} {f:Nat} {M:MF} (h:hfam hp f=some [.multi M]) (b:Nat):hget hp f b=(M b).map (Ad.at_ b):=by unfold hget;rw [h];rfl
theorem DA {hp hp':Hp} {f:Nat} {M':MF} (h:B1 hp f M'=some hp'):∀g i,hget hp' g i=if g=f then (M' i).map (Ad.at_ i) else hget hp g i:=by
 induction hp generalizing hp' with
 | nil=>simp [B1] at h
 | cons p r ih=>
  obtain ⟨k,l⟩:=p;simp only [B1] at h
  split at h
  ·rename_i hk
   have hk':=ωf hk;subst hk'
   split at h
   ·injection h with h;subst h
    intro g i
    by_cases e:k=g
    ·subst e;rw [θ rfl];simp only [hget,hfam,χi,ψx,gl,isM]
    ·rw [ϑ (fun h=>e h.symm)];simp only [hget,hfam,Eb e]
   ·cases h
  ·rename_i hk
   have hk':=ψg hk
   split at h
   ·cases h
   ·rename_i r' hr
    injection h with h;subst h
    intro g i
    by_cases e:k=g
    ·subst e;rw [ϑ hk'];simp only [hget,hfam,χi]
    ·have:=ih hr g i;simp only [hget,hfam,Eb e] at this⊢;exact this
theorem SR.writeM {F:Fr} {s:AS} {ρ:Nat ->Nat ->Value} {act:Act} {w w':World} (h:SR F s ρ act w) (f b:Nat) {M:MF} {m m':Ad} {hp':Hp} (hM:hfam s.hp f=some [.multi M]) (hb:M b=some m) (hh:B1 s.hp f (BQ M b m')=some hp') (hos:w'.os=w.os) (htape:w'.tape=w.tape) (hout:w'.output=w.output) (hs:w'.heap.size=w.heap.size)
  (hk:∀b',b'≠b ->w'.heap[b']? =w.heap[b']?) (hv:B9 (ρ f b)=some b) (hsim:(∀A v,AW w (F.O ρ s.hp) ρ A v ->AW w' (F.O ρ hp') ρ A v) ->An w' (F.O ρ hp') ρ (m'.at_ b) (ρ f b)) (hdr:w.drawn≤w'.drawn:=by exact ν _):SR F ⟨s.n,s.env,hp'⟩ ρ act w':=by
 refine h.write f b (m.at_ b) (m'.at_ b) (by rw [Ft hM,hb];rfl) (fun g i=>?_) hos htape hout hs (fun b' hb'=>hk b' fun e=>hb' (by rw [hv,e])) (fun t cs e=>absurd e Ad.notBlk) hsim hdr;rw [DA hh]
 by_cases e:g=f
 ·subst e;rw [θ Z,Ft hM]
  by_cases e2:i=b
  ·subst e2;rw [θ ⟨Z,Z⟩,E2];rfl
  ·rw [ϑ (fun h=>e2 h.2),FR e2]
 ·rw [ϑ e,ϑ (fun h=>e h.1)]
theorem SR.writeN {F:Fr} {s:AS} {ρ:Nat ->Nat ->Value} {act:Act} {w w':World} (h:SR F s ρ act w) (f b:Nat) {M:MF} {m m':Ad} {hp':Hp} (hM:hfam s.hp f=some [.multi M]) (hb:M b=some m) (hh:B1 s.hp f (BQ M b m')=some hp') (hos:w'.os=w.os) (htape:w'.tape=w.tape) (hout:w'.output=w.output) (hs:w'.heap.size=w.heap.size)
  (hk:∀b',b'≠b ->w'.heap[b']? =w.heap[b']?) (hv:ρ f b=pV b 0) (hsim:(∀A v,AW w (F.O ρ s.hp) ρ A v ->AW w' (F.O ρ hp') ρ A v) ->An w' (F.O ρ hp') ρ (m'.at_ b) (ρ f b)) (hdr:w.drawn≤w'.drawn:=by exact ν _):SR F ⟨s.n,s.env,hp'⟩ ρ act w':=
 h.writeM f b hM hb hh hos htape hout hs hk (by rw [hv];rfl) hsim hdr
theorem SR.cellsN {F:Fr} {s:AS} {ρ:Nat ->Nat ->Value} {act:Act} {w:World} (h:SR F s ρ act w) {f b:Nat} {M:MF} {t:TypeId} {cs:List D} (hM:hfam s.hp f=some [.multi M]) (hb:M b=some (.cells t cs)):ρ f b=pV b 0∧∃us:List Value,w.heap[b]? =some (.cells us.toArray t (0,0))∧us.length=cs.length∧(∀(j:Nat) c u,cs[j]? =some c ->us[j]? =some u ->AQ w (F.O ρ s.hp) c u)∧∀u∈us,u.oneCell'=true:=
 h.heap.sim f b (.nb b t cs) (by rw [Ft hM,hb];rfl)
theorem SR.rowN {F:Fr} {s:AS} {ρ:Nat ->Nat ->Value} {act:Act} {w:World} (h:SR F s ρ act w) {f b:Nat} {M:MF} {t:TypeId} {k cap:Nat} {xs:List D} (hM:hfam s.hp f=some [.multi M]) (hb:M b=some (.row t k cap xs)):ρ f b=pV b 0∧∃us:List Value,w.ownsRow 0 t k (sV b xs.length cap) xs.length us∧HO D.cells k (AQ w (F.O ρ s.hp)) xs us∧∀x∈xs,∀c∈x.cells,c.one=true:=
 h.heap.sim f b (.nr b t k cap xs) (by rw [Ft hM,hb];rfl)
section
variable {P:Program} {F:Fr} {s:AS} {d:Nat} {x y:Operand} {T E:TypeId} {ty:TypeId} {pos:String} {aft:Array Edge} {g:Option (Nat×Bool)} {k:IntKind} {i:Int}
theorem DO {b off:Nat} (hx:s.ev x=some (.d (pD b off))) (hd:Nat.blt d s.n=true):AA P F ⟨some d,.nilCheck x,ty,pos,aft,g⟩ s d (.d (pD b off)):=
 Cj _ hd fun _ act w hs=>⟨pV b off,by simp [execOp,hs.raw hx],.d (.raw Z)⟩
theorem CS {b off off' o n i:Nat} {r:Bool} (hx:s.ev x=some (.d (pD b off))) (hf:AH P T i=some (o,n,r)) (hn:Nat.blt 0 n=true) (ho:off+o=off') (hd:Nat.blt d s.n=true):
  AA P F ⟨some d,.fieldAddr T x i,ty,pos,aft,g⟩ s d (.d (pD b off')):=
 Cj _ hd fun ρ act w hs=>by
  have h:=hs.raw hx;subst ho;exact ⟨pV b (off+o),by simp [execOp,h,EG hf hn],.d (.raw Z)⟩
theorem Dv {f b off:Nat} {M:MF} {t:TypeId} {cs:List D} {c:D} (hx:s.ev x=some (.d (pD b off))) (hM:hfam s.hp f=some [.multi M]) (hb:M b=some (.cells t cs)) (hc:cs[off]? =some c) (hT:BG P T=true) (hd:Nat.blt d s.n=true):
  AA P F ⟨some d,.load T x,ty,pos,aft,g⟩ s d (.d c):=
 Cj _ hd fun ρ act w hs=>by
  have hrx:=hs.raw hx;obtain ⟨_,us,h1,h2,h3,h4⟩:=hs.cellsN hM hb;have hlt:off<us.length:=by rw [h2];exact (χ.1 hc).1
  have hcell:w.cell? ⟨b,off,none⟩=some us[off]:=by
   rw [cell_of_row w b off us.toArray t (0,0) h1];simp [hlt]
  exact ⟨us[off],by simp [execOp,hrx,Instr.loadAt,Instr.sureAddr,loadVar,Dj hT,hcell],.d (h3 off c _ hc (ω hlt))⟩
theorem DH {f b off n:Nat} {M:MF} {t:TypeId} {cs l:List D} (hx:s.ev x=some (.d (pD b off))) (hM:hfam s.hp f=some [.multi M]) (hb:M b=some (.cells t cs)) (hT:Br P T n=true) (hl:(cs.drop off).take n=l) (hn:l.length=n) (h1:∀c∈l,c.one=true) (hd:Nat.blt d s.n=true):
  AA P F ⟨some d,.load T x,ty,pos,aft,g⟩ s d (.d (.agg l)):=
 Cj _ hd fun ρ act w hs=>by
  have hrx:=hs.raw hx;obtain ⟨_,us,h1',h2,h3,h4⟩:=hs.cellsN hM hb;obtain ⟨⟨ds,h5,h6⟩,h7⟩:=Ew hT
  have hle:off+n≤cs.length∨n=0:=by
   rw [←hl,Υ,φm] at hn;omega
  have hlen:((us.drop off).take n).length=n:=by rw [Υ,φm];omega
  have hr:=run_loadAt_mid (P:=P) w b off T ((us.drop off).take n) ds (fun j v hv=>by
   rw [cell_of_row w b (off+j) us.toArray t (0,0) h1'];rw [ψi] at hv
   split at hv
   ·rw [χd] at hv;simpa using hv
   ·cases hv) h5 h6 (by rw [hlen];exact h7)
  refine ⟨.agg ((us.drop off).take n).toArray,by simp [execOp,hrx,hr],.d (.agg (by rw [hlen,hn]) h1 fun m c u hc hu=>?_)⟩;have hm:m<n:=by rw [←hn];exact (χ.1 hc).1
  rw [←hl,ψi,θ hm,χd] at hc;rw [ψi,θ hm,χd] at hu;exact h3 _ c u hc hu
theorem VZ {a:Option Addr} {n cap:Nat} (hx:s.ev x=some (.d (.raw (.slice a n cap)))) (hT:P.underlying T=some (.slice E)) (hd:Nat.blt d s.n=true):
  AA P F ⟨some d,.call {callee:= .builtin .len,args:= #[x],argTypes:= #[T]},ty,pos,aft,g⟩ s d (.d (.raw (.int .i64 (n:Int)))):=
 Cj _ hd fun _ act w hs=>⟨_,by simp [execOp,resolve,invoke,builtin,Builtin.len_,run_underlying hT,hs.raw hx,goInt],.d (.raw Z)⟩
theorem Ww {b n cap kk:Nat} (m:Nat) (hx:s.ev x=some (.d (.raw (sV b n cap)))) (hy:s.ev y=some (.d (.raw (.int k i)))) (hi:i=(m:Int)) (hm:m<n) (hT:P.underlying T=some (.slice E)) (hE:AY P E kk=true) (hd:Nat.blt d s.n=true):
  AA P F ⟨some d,.indexAddr T x y,ty,pos,aft,g⟩ s d (.d (pD b (m*kk))):=
 Cj _ hd fun ρ act w hs=>by
  have hrx:=hs.raw hx;subst hi;exact ⟨pV b (m*kk),by simp [execOp,Instr.indexAt,asIntOf,hs.raw hy,hrx,run_underlying hT,hm,Zcg (YX hE),Addr.add_mid],.d (.raw Z)⟩
theorem Zcs {f b off kk e cap:Nat} {M:MF} {t:TypeId} {xs:List D} {z c:D} {p:Nat} (hx:s.ev x=some (.d (pD b p))) (hp:p=e*kk+off) (hM:hfam s.hp f=some [.multi M]) (hb:M b=some (.row t kk cap xs)) (hz:xs[e]? =some z) (hc:z.cells[off]? =some c) (hT:BG P T=true) (hd:Nat.blt d s.n=true):
  AA P F ⟨some d,.load T x,ty,pos,aft,g⟩ s d (.d c):=
 Cj _ hd fun ρ act w hs=>by
  subst hp;have hrx:=hs.raw hx;obtain ⟨_,us,h1,h2,h3⟩:=hs.rowN hM hb;obtain ⟨g1,g2⟩:=h1;have hlt:e<xs.length:=(χ.1 hz).1;rcases g2 with ⟨e1,_⟩ | ⟨b',cap',cur,e1,_,h6,h7,h8,h9,h10⟩
  ·cases e1
  ·injection e1 with e2 e3 e4;injection e2 with e2;injection e2 with e2;subst e2
   obtain ⟨u,h11,h12,h13⟩:=h2.2.2 e z hz off c hc;have hcell:=DW h6 h10 h11;exact ⟨u,by simp [execOp,hrx,Instr.loadAt,Instr.sureAddr,loadVar,Dj hT,hcell],.d h13⟩
theorem Db {f b kk e cap:Nat} {M:MF} {t:TypeId} {xs:List D} {cs:List D} {p:Nat} (hx:s.ev x=some (.d (pD b p))) (hp:p=e*kk) (hM:hfam s.hp f=some [.multi M]) (hb:M b=some (.row t kk cap xs)) (hz:xs[e]? =some (.agg cs)) {kz:Nat} (hkz:cs.length=kz) (hT:Br P T kz=true) (hd:Nat.blt d s.n=true):
  AA P F ⟨some d,.load T x,ty,pos,aft,g⟩ s d (.d (.agg cs)):=
 Cj _ hd fun ρ act w hs=>by
  subst hp hkz;have hrx:=hs.raw hx;obtain ⟨_,us,h1,h2,h3⟩:=hs.rowN hM hb;obtain ⟨g1',g2'⟩:=h1;rcases g2' with ⟨e1,_⟩ | ⟨b',cap',cur,e1,_,h6,h7,h8',h9,h8⟩
  ·cases e1
  ·injection e1 with e2 e3 e4;injection e2 with e2;injection e2 with e2;subst e2
   obtain ⟨⟨ds,g1,g2⟩,g3⟩:=Ew hT;obtain ⟨l,hl,hlj⟩:=My (n:=cs.length) fun q=>(us[e*kk+q]?).getD undef
   have hq:∀q,q<cs.length ->∃u,us[e*kk+q]? =some u∧l[q]? =some u∧AQ w (F.O ρ s.hp) (cs[q]?.getD (.raw undef)) u:=fun q hq=>by
    obtain ⟨u,a1,a2,a3⟩:=h2.2.2 e _ hz q cs[q] (ω hq);refine ⟨u,a1,by rw [hlj q hq,a1];rfl,?_⟩;rw [ω hq];exact a3
   have hr:=run_loadAt_mid (P:=P) w b (e*kk) T l ds (fun q v hv=>by
    have hqlt:q<cs.length:=by rw [←hl];exact (χ.1 hv).1
    obtain ⟨u,a1,a2,_⟩:=hq q hqlt;rw [a2] at hv;injection hv with hv;subst hv
    exact DW h6 h8 a1) g1 g2 (by rw [hl];exact g3)
   refine ⟨.agg l.toArray,by simp [execOp,hrx,hr],.d (.agg hl (h3 _ (ζ hz)) fun q c u hc hu=>?_)⟩;have hqlt:q<cs.length:=(χ.1 hc).1;obtain ⟨u',a1,a2,a3⟩:=hq q hqlt;rw [a2] at hu;injection hu with hu;subst hu
   rw [hc] at a3;exact a3
theorem OX {n:Nat} {env:List (Nat×AV)} {hp hp':Hp} {f b off:Nat} {M:MF} {t:TypeId} {cs:List D} {v:D} (hx:AS.ev ⟨n,env,hp⟩ x=some (.d (pD b off))) (hy:AS.ev ⟨n,env,hp⟩ y=some (.d v)) (hv:v.one=true) (hM:hfam hp f=some [.multi M]) (hb:M b=some (.cells t cs)) (hoff:off<cs.length)
  (hh:B1 hp f (BQ M b (.cells t (cs.set off v)))=some hp') (hT:AY P T 1=true):AI P F ⟨none,.store T x y,ty,pos,aft,g⟩ ⟨n,env,hp⟩ ⟨n,env,hp'⟩ (fun _ _=>true):=fun ρ act w hs=>by
 have hrx:=hs.raw hx;have hry:=hs.repD hy;obtain ⟨hρ,us,h1,h2,h3,h4⟩:=hs.cellsN hM hb
 generalize hvy:act.eval y=vy at hry
 have hone:=hry.oneCell hv;have hcl:vy.cells.toList=[vy]:=by cases vy<;>first | rfl | cases hone
 have hrun:=Fk (P:=P) (T:=T) (o:=off) (v:=vy) h1 (by rw [hcl];exact YX hT) (by rw [hcl];simp only [Φ];omega) (by rw [hcl];intro u hu;rw [ξ.1 hu];exact hone)
 have hex:(execOp act.eval ⟨none,.store T x y,ty,pos,aft,g⟩).run P w= .ok .skip (w.setCells b off vy.cells.toList):=by
  simp [execOp,hrx,hvy,hrun]
 unfold Oper.wp;rw [hex];obtain ⟨g1,g2,g3,g4⟩:=Zcq (b:=b) vy.cells.toList off w;refine ⟨ρ,hs.writeN f b hM hb hh g1 g2 g3 g4 (fun b' hb'=>ZbT _ _ _ _ hb') hρ (fun hrep=>?_) (Nat.le_of_eq (DU _ _ _ _).symm),fun _ _ _=>rfl⟩;rw [hρ]
 have hrepD:∀(c:D) u,AQ w (F.O ρ hp) c u ->AQ (w.setCells b off vy.cells.toList) (F.O ρ hp') c u:=fun c u h=>by
  have:=hrep (.d c) u (.d h)
  cases this with | d h=>exact h
 refine ⟨Z,FT us off vy.cells.toList,ZbU _ _ _ _ h1,by rw [YW,ψd];exact h2,fun j c u hc hu=>?_,fun u hu=>?_⟩
 ·rw [ce _ _ _ (by rw [hcl];simp only [Φ];omega),hcl] at hu;rw [χo] at hc
  by_cases e:off=j
  ·subst e;rw [θ Z,θ hoff] at hc;rw [θ (by simp only [Φ];omega),Nat.sub_self] at hu;injection hc with hc;subst hc
   simp at hu;subst hu
   exact hrepD _ _ hry
  ·rw [ϑ e] at hc;rw [ϑ (by simp only [Φ];omega)] at hu;exact hrepD _ _ (h3 j c u hc hu)
 ·obtain ⟨j,hj,rfl⟩:=ωz hu;have hj2:=ω hj;rw [ce _ _ _ (by rw [hcl];simp only [Φ];omega)] at hj2
  split at hj2
  ·have h6:∀q∈vy.cells.toList,q.oneCell'=true:=by rw [hcl];intro q hq;rw [ξ.1 hq];exact hone
   exact h6 _ (ζ hj2)
  ·exact h4 _ (ζ hj2)
end
theorem SR.move {F:Fr} {s:AS} {ρ:Nat ->Nat ->Value} {act:Act} {w:World} (hs:SR F s ρ act w) (f1 i1 f2 i2:Nat) {o1 o2:AL} {v2:Value} {env':List (Nat×AV)} {hp':Hp}
  (h1:hget s.hp f1 i1=some o1) (hn2:hget s.hp f2 i2=none) (hv:B9 v2=B9 (ρ f1 i1)) (hp1:F.pin f1 i1=none)
  (ha:∀f i o',hget hp' f i=some o' ->(f=f2∧i=i2∧o'=o2)∨(¬(f=f2∧i=i2)∧¬(f=f1∧i=i1)∧∃o,hget s.hp f i=some o∧(∀w O ρ v,An w O ρ o v ->An w O ρ o' v)∧¬o'.Refs f2 i2))
  (hb:hget hp' f2 i2=some o2) (hc:∀f i t cs,hget s.hp f i=some (.blk t cs) ->¬(f=f1∧i=i1) ->∃cs',hget hp' f i=some (.blk t cs'))
  (hcc:∀f i o,hget s.hp f i=some o ->¬(f=f1∧i=i1) ->∃o',hget hp' f i=some o')
  (hE:∀t a,get env' t=some a ->AW w (F.O ρ s.hp) ρ a (act.tmps.getD t undef)∧¬a.Refs f2 i2)
  (hsim:An w (F.O ρ s.hp) (upd ρ f2 i2 v2) o2 v2):SR F ⟨s.n,env',hp'⟩ (upd ρ f2 i2 v2) act w:=by
 have hown:∀b,Az (upd ρ f2 i2 v2) hp' b↔Az ρ s.hp b:=fun b=>by
  constructor
  ·rintro ⟨f,i,o',ho,hbk⟩;rcases ha f i o' ho with ⟨rfl,rfl,rfl⟩ | ⟨e2,_,o,h3,_⟩
   ·rw [OW,hv] at hbk;exact ⟨f1,i1,o1,h1,hbk⟩
   ·rw [MN e2] at hbk;exact ⟨f,i,o,h3,hbk⟩
  ·rintro ⟨f,i,o,ho,hbk⟩
   by_cases e:f=f1∧i=i1
   ·obtain ⟨rfl,rfl⟩:=e;exact ⟨f2,i2,o2,hb,by rw [OW,hv];exact hbk⟩
   ·have e2:¬(f=f2∧i=i2):=fun e2=>by rw [e2.1,e2.2,hn2] at ho;cases ho
    obtain ⟨o',h3⟩:=hcc f i o ho e;exact ⟨f,i,o',h3,by rw [MN e2];exact hbk⟩
 have hO:F.O (upd ρ f2 i2 v2) hp'=F.O ρ s.hp:=funext fun b=>propext ⟨fun h=>h.imp id (hown b).1,fun h=>h.imp id (hown b).2⟩;have href:∀(f i:Nat),¬(f=f2∧i=i2) ->upd ρ f2 i2 v2 f i=ρ f i:=fun f i e=>MN e;refine ⟨hs.size,hO▸hs.defs,fun t a hta=>?_,?_⟩
 ·obtain ⟨h3,h4⟩:=hE t a hta;show AW w (F.O (upd ρ f2 i2 v2) hp') _ _ _;rw [hO];exact h3.mono (ν _) (fun _ _ _=>rfl) (fun _ _ h=>h) fun f i hr=>href f i fun e=>h4 (by rw [←e.1,←e.2];exact hr)
 ·refine ⟨fun f i o' ho=>?_,fun f i f' i' o o' b ho ho' hbk hbk'=>?_,fun b hbk=>hs.heap.mine b ((hown b).1 hbk),hs.heap.os,hs.heap.tape,hs.heap.output,hs.heap.size0,hs.heap.keep,fun f i b hpin=>?_,hs.heap.drawn⟩
  ·show An w (F.O (upd ρ f2 i2 v2) hp') _ _ _;rw [hO];rcases ha f i o' ho with ⟨rfl,rfl,rfl⟩ | ⟨e2,_,o,h3,h4,h5⟩
   ·rw [OW];exact hsim
   ·rw [MN e2];exact (h4 _ _ _ _ (hs.heap.sim f i o h3)).mono (ν _) (fun _ _ _=>rfl) (fun _ _ h=>h) (fun _ _=>rfl) fun f' i' hr=>href f' i' fun e=>h5 (by rw [←e.1,←e.2];exact hr)
  ·rcases ha f i o ho with ⟨rfl,rfl,_⟩ | ⟨e2,e3,q,h3,_⟩<;>rcases ha f' i' o' ho' with ⟨rfl,rfl,_⟩ | ⟨e2',e3',q',h3',_⟩
   ·exact ⟨Z,Z⟩
   ·rw [OW,hv] at hbk;rw [MN e2'] at hbk';exact absurd (hs.heap.inj f' i' f1 i1 q' o1 b h3' h1 hbk' hbk) e3'
   ·rw [OW,hv] at hbk';rw [MN e2] at hbk;exact absurd (hs.heap.inj f i f1 i1 q o1 b h3 h1 hbk hbk') e3
   ·rw [MN e2] at hbk;rw [MN e2'] at hbk';exact hs.heap.inj f i f' i' q q' b h3 h3' hbk hbk'
  ·obtain ⟨a1,t,cs,a2⟩:=hs.heap.pins f i b hpin;have e1:¬(f=f1∧i=i1):=fun e=>by rw [e.1,e.2,hp1] at hpin;cases hpin
   have e2:¬(f=f2∧i=i2):=fun e=>by rw [e.1,e.2,hn2] at a2;cases a2
   obtain ⟨cs',h3⟩:=hc f i t cs a2 e1;exact ⟨by rw [MN e2];exact a1,t,cs',h3⟩
theorem J0 {F:Fr} {pn:List Nat} {g i:Nat} (hF:F.pn=pn) (h:memB g pn=false):F.pin g i=none:=by
 cases hh:F.pin g i with
 | none=>rfl
 | some b=>
  have:=FY.2 (hF▸F.hpn g i b hh);rw [h] at this;cases this
theorem SR.absorb {F:Fr} {s:AS} {ρ:Nat ->Nat ->Value} {act:Act} {w:World} (hs:SR F s ρ act w) (t g f:Nat) {M:MF} {T:TypeId} {cs:List AV} {ds:List D} {pn:List Nat} {env1 env':List (Nat×AV)} {hp1 hp2 hp3:Hp} {hp':Nat ->Hp} (hF:F.pn=pn) (hpn:memB g pn=false) (hne:Nat.beq g f=false)
  (ht:get s.env t=some (.ptr g 0 0)) (hone:hfam s.hp g=some [.blk T cs]) (hcs:cs=ds.map .d) (hM:hfam s.hp f=some [.multi M]) (hE:AZ g s.env=some env1) (hE2:AZ f env1=some env') (hH:AX g s.hp=some hp1) (hH2:AX f hp1=some hp2) (hh:CD g hp2=some hp3) (hm:∀b,B1 hp3 f (BQ M b (.cells T ds))=some (hp' b)):
  ∃b,M b=none∧SR F ⟨s.n,(t,.d (pD b 0))::env',hp' b⟩ (upd ρ f b (pV b 0)) act w:=by
 subst hcs;have hgf:g≠f:=ψg hne;have ho:hget s.hp g 0=some (.blk T (ds.map .d)):=by unfold hget;rw [hone];rfl
 obtain ⟨b,us,hρ,k1,k2,k3,k4⟩:=hs.heap.sim g 0 _ ho
 have hMb:M b=none:=by
  cases hmb:M b with
  | none=>rfl
  | some m=>
   have h2:hget s.hp f b=some (m.at_ b):=by rw [Ft hM,hmb];rfl
   have hv:B9 (ρ f b)=some b:=by
    have:=hs.heap.sim f b _ h2
    cases m with
    | cells _ _=>rw [this.1];rfl
    | row _ _ _ _=>rw [this.1];rfl
    | map _ _=>rw [this.1];rfl
   exact absurd (hs.heap.inj g 0 f b _ _ b ho h2 (by rw [hρ];rfl) hv).1 hgf
 refine ⟨b,hMb,?_⟩;obtain ⟨a1,a2⟩:=Ar hH;obtain ⟨c1,c2⟩:=Ar hH2;have hd:=Gi hh;have hg':=DA (hm b);have hfam3:∀i,hget hp3 f i=hget hp2 f i:=fun i=>by rw [hd,ϑ (fun e=>hgf e.symm)]
 refine hs.move g 0 f b ho (by simp only [Ft hM,hMb,φk]) (by rw [hρ]) (J0 hF hpn) (fun f' i o' hq=>?_) (by rw [hg',θ Z,E2];rfl) (fun f' i t' cs' hq hne'=>?_) (fun f' i o hq hne'=>?_) (fun t' a ha=>?_) ?_
 ·rw [hg'] at hq
  by_cases e:f'=f
  ·subst e;rw [θ rfl] at hq
   by_cases e2:i=b
   ·subst e2;rw [E2] at hq;injection hq with hq
    exact .inl ⟨Z,Z,hq.symm⟩
   ·rw [FR e2] at hq;refine .inr ⟨fun h=>e2 h.2,fun h=>hgf h.1.symm,o',by rw [Ft hM];exact hq,fun _ _ _ _ h=>h,?_⟩
    cases hmi:M i with
    | none=>rw [hmi] at hq;cases hq
    | some m=>rw [hmi] at hq;injection hq with hq;subst hq;exact Ad.norefs
  ·rw [ϑ e,hd] at hq
   split at hq
   ·cases hq
   ·rename_i e3
    obtain ⟨o2,q1,q2⟩:=c1 _ _ _ hq;obtain ⟨o3,q3,q4⟩:=a1 _ _ _ q1;exact .inr ⟨fun h=>e h.1,fun h=>e3 h.1,o3,q3,fun w O ρ v h=>q2.1 _ _ _ _ (q4.1 _ _ _ _ h),fun hr=>Qc (q2.2.1 _ _ hr) Z⟩
 ·have e1:f'≠f:=fun e=>by
   subst e;rw [Ft hM] at hq
   cases hmi:M i with
   | none=>rw [hmi] at hq;cases hq
   | some m=>rw [hmi] at hq;injection hq with hq;exact Ad.notBlk hq
  obtain ⟨o2,q1,q2⟩:=a2 _ _ _ hq;obtain ⟨cs2,rfl⟩:=q2.2.2.1 _ _ rfl;obtain ⟨o3,q3,q4⟩:=c2 _ _ _ q1;obtain ⟨cs3,rfl⟩:=q4.2.2.1 _ _ rfl;refine ⟨cs3,?_⟩;rw [hg',ϑ e1,hd,ϑ]
  ·exact q3
  ·rintro rfl
   have:i=0:=by
    unfold hget at hq;rw [hone] at hq
    match i,hq with
    | 0,_=>rfl
    | i+1,hq=>cases hq
   exact hne' ⟨Z,this⟩
 ·by_cases e:f'=f
  ·subst e
   by_cases e2:i=b
   ·subst e2;rw [Ft hM,hMb] at hq;cases hq
   ·exact ⟨o,by rw [hg',θ Z,FR e2,←Ft hM];exact hq⟩
  ·obtain ⟨o2,q1,q2⟩:=a2 _ _ _ hq;obtain ⟨o3,q3,q4⟩:=c2 _ _ _ q1;refine ⟨o3,?_⟩;rw [hg',ϑ e,hd,ϑ]
   ·exact q3
   ·rintro rfl
    have:i=0:=by
     unfold hget at hq;rw [hone] at hq
     match i,hq with
     | 0,_=>rfl
     | i+1,hq=>cases hq
    exact hne' ⟨Z,this⟩
 ·rcases KJ ha with ⟨rfl,rfl⟩ | ⟨_,ha⟩
  ·have hr:=hs.env t _ ht
   generalize act.tmps.getD t undef=x at hr
   cases hr with
   | @ptr _ _ _ b' hb'=>
    rw [hρ] at hb';injection hb' with hb';injection hb' with hb';injection hb' with hb';subst hb'
    exact ⟨.d (.raw Z),fun h=>by cases h⟩
  ·rcases BV hE2 ha with rfl | ⟨h3,h4⟩
   ·exact ⟨.top,fun h=>by cases h⟩
   ·rcases BV hE h3 with rfl | ⟨h5,_⟩
    ·exact ⟨.top,fun h=>by cases h⟩
    ·exact ⟨hs.env t' _ h5,h4 b⟩
 ·refine ⟨Z,us,k1,by rw [k2,ψ],fun j c u hc hu=>?_,k4⟩;have:=k3 j (.d c) u (by rw [η,hc];rfl) hu
  cases this with | d h=>exact h
theorem Ad.val {F:Fr} {s:AS} {ρ:Nat ->Nat ->Value} {act:Act} {w:World} (hs:SR F s ρ act w) {f b:Nat} {M:MF} {m:Ad} (hM:hfam s.hp f=some [.multi M]) (hb:M b=some m):B9 (ρ f b)=some b:=by
 have h2:hget s.hp f b=some (m.at_ b):=by rw [Ft hM,hb];rfl
 have:=hs.heap.sim f b _ h2
 cases m with
 | cells _ _=>rw [this.1];rfl
 | row _ _ _ _=>rw [this.1];rfl
 | map _ _=>rw [this.1];rfl
def Ad.v (i:Nat):Ad ->Value
 | .map _ _=> .map (some i)
 | _=>pV i 0
theorem Ad.v_blk {i:Nat} {m:Ad}:B9 (m.v i)=some i:=by cases m<;>rfl
theorem Ad.valE {F:Fr} {s:AS} {ρ:Nat ->Nat ->Value} {act:Act} {w:World} (hs:SR F s ρ act w) {f b:Nat} {M:MF} {m:Ad} (hM:hfam s.hp f=some [.multi M]) (hb:M b=some m):ρ f b=m.v b:=by
 have h2:hget s.hp f b=some (m.at_ b):=by rw [Ft hM,hb];rfl
 have:=hs.heap.sim f b _ h2
 cases m with
 | cells _ _=>exact this.1
 | row _ _ _ _=>exact this.1
 | map _ _=>exact this.1
theorem idx0 {hp:Hp} {g i:Nat} {o q:AL} (hone:hfam hp g=some [o]) (hm:Rw o=true) (h:hget hp g i=some q):i=0:=by
 unfold hget at h;rw [hone] at h;have h2:[o][i]? =some q:=by rw [←Ko hm];exact h
 match i,h2 with
 | 0,_=>rfl
 | i+1,h2=>cases h2
theorem aZ {hp hp1 hp2 hp3 hp':Hp} {g f b:Nat} {M:MF} {m:Ad} {o:AL} (hgf:g≠f) (hone:hfam hp g=some [o]) (hnm:Rw o=true) (hM:hfam hp f=some [.multi M]) (hMb:M b=none) (hH:AX g hp=some hp1) (hH2:AX f hp1=some hp2) (hh:CD g hp2=some hp3) (hm:B1 hp3 f (BQ M b m)=some hp'):
  (∀f' i o',hget hp' f' i=some o' ->(f'=f∧i=b∧o'=m.at_ b)∨(¬(f'=f∧i=b)∧¬(f'=g∧i=0)∧∃o,hget hp f' i=some o∧(∀w O ρ v,An w O ρ o v ->An w O ρ o' v)∧¬o'.Refs f b))∧hget hp' f b=some (m.at_ b)∧
  (∀f' i t cs,hget hp f' i=some (.blk t cs) ->¬(f'=g∧i=0) ->∃cs',hget hp' f' i=some (.blk t cs'))∧(∀f' i o,hget hp f' i=some o ->¬(f'=g∧i=0) ->∃o',hget hp' f' i=some o'):=by
 obtain ⟨a1,a2⟩:=Ar hH;obtain ⟨c1,c2⟩:=Ar hH2;have hd:=Gi hh;have hg':=DA hm;refine ⟨fun f' i o' hq=>?_,by rw [hg',θ Z,E2];rfl,fun f' i t' cs' hq hne'=>?_,fun f' i o hq hne'=>?_⟩
 ·rw [hg'] at hq
  by_cases e:f'=f
  ·subst e;rw [θ rfl] at hq
   by_cases e2:i=b
   ·subst e2;rw [E2] at hq;injection hq with hq
    exact .inl ⟨Z,Z,hq.symm⟩
   ·rw [FR e2] at hq;refine .inr ⟨fun h=>e2 h.2,fun h=>hgf h.1.symm,o',by rw [Ft hM];exact hq,fun _ _ _ _ h=>h,?_⟩
    cases hmi:M i with
    | none=>rw [hmi] at hq;cases hq
    | some m=>rw [hmi] at hq;injection hq with hq;subst hq;exact Ad.norefs
  ·rw [ϑ e,hd] at hq
   split at hq
   ·cases hq
   ·rename_i e3
    obtain ⟨o2,q1,q2⟩:=c1 _ _ _ hq;obtain ⟨o3,q3,q4⟩:=a1 _ _ _ q1;exact .inr ⟨fun h=>e h.1,fun h=>e3 h.1,o3,q3,fun w O ρ v h=>q2.1 _ _ _ _ (q4.1 _ _ _ _ h),fun hr=>Qc (q2.2.1 _ _ hr) Z⟩
 ·have e1:f'≠f:=fun e=>by
   subst e;rw [Ft hM] at hq
   cases hmi:M i with
   | none=>rw [hmi] at hq;cases hq
   | some m=>rw [hmi] at hq;injection hq with hq;exact Ad.notBlk hq
  obtain ⟨o2,q1,q2⟩:=a2 _ _ _ hq;obtain ⟨cs2,rfl⟩:=q2.2.2.1 _ _ rfl;obtain ⟨o3,q3,q4⟩:=c2 _ _ _ q1;obtain ⟨cs3,rfl⟩:=q4.2.2.1 _ _ rfl;refine ⟨cs3,?_⟩;rw [hg',ϑ e1,hd,ϑ]
  ·exact q3
  ·rintro rfl;exact hne' ⟨Z,idx0 hone hnm hq⟩
 ·by_cases e:f'=f
  ·subst e
   by_cases e2:i=b
   ·subst e2;rw [Ft hM,hMb] at hq;cases hq
   ·exact ⟨o,by rw [hg',θ Z,FR e2,←Ft hM];exact hq⟩
  ·obtain ⟨o2,q1,q2⟩:=a2 _ _ _ hq;obtain ⟨o3,q3,q4⟩:=c2 _ _ _ q1;refine ⟨o3,?_⟩;rw [hg',ϑ e,hd,ϑ]
   ·exact q3
   ·rintro rfl;exact hne' ⟨Z,idx0 hone hnm hq⟩
theorem HZ {F:Fr} {s:AS} {ρ:Nat ->Nat ->Value} {act:Act} {w:World} (hs:SR F s ρ act w) {g f b t:Nat} {v:Value} {env1 env':List (Nat×AV)} (hE:AZ g s.env=some env1) (hE2:AZ f env1=some env') (hv:act.tmps.getD t undef=v) (h1:v.oneCell'=true):
  ∀t' a,get ((t,.d (.raw v))::env') t'=some a ->AW w (F.O ρ s.hp) ρ a (act.tmps.getD t' undef)∧¬a.Refs f b:=fun t' a ha=>by
 rcases KJ ha with ⟨rfl,rfl⟩ | ⟨_,ha⟩
 ·rw [hv];exact ⟨.d (.raw h1),fun h=>by cases h⟩
 ·rcases BV hE2 ha with rfl | ⟨h3,h4⟩
  ·exact ⟨.top,fun h=>by cases h⟩
  ·rcases BV hE h3 with rfl | ⟨h5,_⟩
   ·exact ⟨.top,fun h=>by cases h⟩
   ·exact ⟨hs.env t' _ h5,h4 b⟩
theorem SR.absorbR {F:Fr} {s:AS} {ρ:Nat ->Nat ->Value} {act:Act} {w:World} (hs:SR F s ρ act w) (t g f:Nat) {M:MF} {T:TypeId} {kk n:Nat} {xs:List D} {pn:List Nat} {env1 env':List (Nat×AV)} {hp1 hp2 hp3:Hp} {hp':Nat ->Nat ->Hp} (hF:F.pn=pn) (hpn:memB g pn=false) (hne:Nat.beq g f=false)
  (ht:get s.env t=some (.own g 0 n)) (hn:n=xs.length) (hxs:xs≠ []) (hone:hfam s.hp g=some [.rowD T kk xs]) (hM:hfam s.hp f=some [.multi M]) (hE:AZ g s.env=some env1) (hE2:AZ f env1=some env') (hH:AX g s.hp=some hp1) (hH2:AX f hp1=some hp2) (hh:CD g hp2=some hp3) (hm:∀b cap,B1 hp3 f (BQ M b (.row T kk cap xs))=some (hp' b cap)):
  ∃b cap,M b=none∧xs.length≤cap∧SR F ⟨s.n,(t,.d (.raw (sV b n cap)))::env',hp' b cap⟩ (upd ρ f b (pV b 0)) act w:=by
 subst hn;have hgf:g≠f:=ψg hne;have ho:hget s.hp g 0=some (.rowD T kk xs):=by unfold hget;rw [hone];rfl
 obtain ⟨us,a,cap,hρ,k1,k2,k3,k4,k5⟩:=hs.rowD ho
 have hpos:0<xs.length:=by
  cases xs with
  | nil=>exact absurd Z hxs
  | cons _ _=>simp
 obtain ⟨b,rfl,_⟩:=k5 hpos
 have hMb:M b=none:=by
  cases hmb:M b with
  | none=>rfl
  | some m=>
   have h2:hget s.hp f b=some (m.at_ b):=by rw [Ft hM,hmb];rfl
   exact absurd (hs.heap.inj g 0 f b _ _ b ho h2 (by rw [hρ];rfl) (Ad.val hs hM hmb)).1 hgf
 obtain ⟨m1,m2,m3,m4⟩:=aZ hgf hone Z hM hMb hH hH2 hh (hm b cap);refine ⟨b,cap,hMb,k4.1,hs.move g 0 f b ho (by simp only [Ft hM,hMb,φk]) (by rw [hρ];rfl) (J0 hF hpn) m1 m2 m3 m4 (HZ hs hE hE2 ?_ Z) ⟨Z,us,k1,k2,k3⟩⟩;have hr:=hs.env t _ ht
 generalize act.tmps.getD t undef=x at hr⊢
 cases hr with
 | own h1 h2=>
  rw [hρ] at h1;injection h1 with h1 h3 h4;subst h1 h4;rfl
theorem SR.splitR {F:Fr} {s:AS} {ρ:Nat ->Nat ->Value} {act:Act} {w:World} (hs:SR F s ρ act w) (t g f:Nat) {M:MF} {T:TypeId} {kk n cap b:Nat} {xs:List D} {env':List (Nat×AV)} {hp1 hp':Hp} (hne:Nat.beq g f=false)
  (ht:get s.env t=some (.d (.raw (sV b n cap)))) (hn:n=xs.length) (hM:hfam s.hp f=some [.multi M]) (hb:M b=some (.row T kk cap xs)) (hE:AZ g s.env=some env') (hH:AX g s.hp=some hp1) (hz:hfam hp1 g=none) (hm:B1 hp1 f (EZ M b)=some hp'):
  SR F ⟨s.n,(t,.own g 0 n)::env',(g,[.rowD T kk xs])::hp'⟩ (upd ρ g 0 (sV b n cap)) act w:=by
 subst hn;have hgf:g≠f:=ψg hne;obtain ⟨hρ,us,k1,k2,k3⟩:=hs.rowN hM hb;obtain ⟨a1,a2⟩:=Ar hH;have hg':=DA hm
 have hz':∀i,hget s.hp g i=none:=fun i=>by
  cases hq:hget s.hp g i with
  | none=>rfl
  | some o=>
   obtain ⟨o2,q1,_⟩:=a2 _ _ _ hq;unfold hget at q1;rw [hz] at q1;cases q1
 have hcons:∀f' i,hget ((g,[.rowD T kk xs])::hp') f' i=if f'=g then [AL.rowD T kk xs][i]? else hget hp' f' i:=fun f' i=>by
  by_cases e:f'=g
  ·subst e;rw [θ rfl];simp only [hget,hfam,χi,ψx,Ko (o:= .rowD T kk xs) rfl]
  ·rw [ϑ e];simp only [hget,hfam,Eb (fun h=>e h.symm)]
 have hmv:=hs.move f b g 0 (o1:= .nr b T kk cap xs) (o2:= .rowD T kk xs) (v2:=sV b xs.length cap) (env':=env') (hp':=(g,[.rowD T kk xs])::hp') (by rw [Ft hM,hb];rfl) (hz' 0) (by rw [hρ];rfl) (by
  cases hpin:F.pin f b with
  | none=>rfl
  | some b'=>
   obtain ⟨_,t',cs',h⟩:=hs.heap.pins f b b' hpin
   rw [Ft hM,hb] at h;injection h with h;cases h)
  (fun f' i o' hq=>by
   rw [hcons] at hq
   split at hq
   ·rename_i e
    subst e
    match i,hq with
    | 0,hq=>injection hq with hq;exact .inl ⟨Z,Z,hq.symm⟩
    | i+1,hq=>cases hq
   ·rename_i e
    rw [hg'] at hq
    split at hq
    ·rename_i e2
     subst e2
     by_cases e3:i=b
     ·subst e3;rw [PJ] at hq;cases hq
     ·rw [Ga e3] at hq;refine .inr ⟨fun h=>e h.1,fun h=>e3 h.2,o',by rw [Ft hM];exact hq,fun _ _ _ _ h=>h,?_⟩
      cases hmi:M i with
      | none=>rw [hmi] at hq;cases hq
      | some m=>rw [hmi] at hq;injection hq with hq;subst hq;exact Ad.norefs
    ·rename_i e2
     obtain ⟨o3,q3,q4⟩:=a1 _ _ _ hq
     exact .inr ⟨fun h=>e h.1,fun h=>e2 h.1,o3,q3,fun w O ρ v h=>q4.1 _ _ _ _ h,fun hr=>Qc (q4.2.1 _ _ hr) Z⟩)
  (by rw [hcons,θ rfl];rfl)
  (fun f' i t' cs' hq hne'=>by
   have e1:f'≠f:=fun e=>by
    subst e;rw [Ft hM] at hq
    cases hmi:M i with
    | none=>rw [hmi] at hq;cases hq
    | some m=>rw [hmi] at hq;injection hq with hq;exact Ad.notBlk hq
   have e2:f'≠g:=fun e=>by subst e;rw [hz'] at hq;cases hq
   obtain ⟨o2,q1,q2⟩:=a2 _ _ _ hq;obtain ⟨cs2,rfl⟩:=q2.2.2.1 _ _ rfl
   exact ⟨cs2,by rw [hcons,ϑ e2,hg',ϑ e1];exact q1⟩)
  (fun f' i o hq hne'=>by
   have e2:f'≠g:=fun e=>by subst e;rw [hz'] at hq;cases hq
   by_cases e1:f'=f
   ·subst e1;have e3:i≠b:=fun e=>hne' ⟨Z,e⟩;exact ⟨o,by rw [hcons,ϑ e2,hg',θ Z,Ga e3,←Ft hM];exact hq⟩
   ·obtain ⟨o2,q1,q2⟩:=a2 _ _ _ hq
    exact ⟨o2,by rw [hcons,ϑ e2,hg',ϑ e1];exact q1⟩)
  (fun t' a ha=>by
   rcases BV hE ha with rfl | ⟨h3,h4⟩
   ·exact ⟨.top,fun h=>by cases h⟩
   ·exact ⟨hs.env t' _ h3,h4 0⟩)
  ⟨us,k1,k2,k3⟩
 refine ⟨hmv.size,hmv.defs,fun t' a ha=>?_,hmv.heap⟩;rcases KJ ha with ⟨rfl,rfl⟩ | ⟨_,ha⟩
 ·have hr:=hs.env t _ ht
  generalize act.tmps.getD t undef=x at hr⊢
  cases hr with
  | d h=>cases h with | raw _=>exact .own OW (ν _)
 ·exact hmv.env t' a ha
section
variable {P:Program} {F:Fr} {Q:Exit ->AS ->Prop} {c:Code} {ops:Array Oper} {l:List Oper} {n:Nat} {env env1 env':List (Nat×AV)} {hp hp1 hp2 hp3:Hp}
theorem YT (t g f:Nat) {M:MF} {T:TypeId} {cs:List AV} {ds:List D} {pn:List Nat} {hp':Nat ->Hp} (hF:F.pn=pn) (hpn:memB g pn=false) (hne:Nat.beq g f=false) (ht:get env t=some (.ptr g 0 0)) (hone:hfam hp g=some [.blk T cs]) (hcs:cs=ds.map .d) (hM:hfam hp f=some [.multi M]) (hE:AZ g env=some env1) (hE2:AZ f env1=some env') (hH:AX g hp=some hp1) (hH2:AX f hp1=some hp2) (hh:CD g hp2=some hp3) (hm:∀b,B1 hp3 f (BQ M b (.cells T ds))=some (hp' b))
  (h:∀b,M b=none ->Bq P F c Q ⟨n,(t,.d (pD b 0))::env',hp' b⟩):Bq P F c Q ⟨n,env,hp⟩:=fun ρ act w hs=>by
 obtain ⟨b,hb,hs'⟩:=hs.absorb t g f hF hpn hne ht hone hcs hM hE hE2 hH hH2 hh hm;exact h b hb _ act w hs'
theorem aK (t g f:Nat) {M:MF} {T:TypeId} {cs:List AV} {ds:List D} {pn:List Nat} {hp':Nat ->Hp} (hF:F.pn=pn) (hpn:memB g pn=false) (hne:Nat.beq g f=false) (ht:get env t=some (.ptr g 0 0)) (hone:hfam hp g=some [.blk T cs]) (hcs:cs=ds.map .d) (hM:hfam hp f=some [.multi M]) (hE:AZ g env=some env1) (hE2:AZ f env1=some env') (hH:AX g hp=some hp1) (hH2:AX f hp1=some hp2) (hh:CD g hp2=some hp3) (hm:∀b,B1 hp3 f (BQ M b (.cells T ds))=some (hp' b))
  (h:∀b,M b=none ->Ab P F ops l Q ⟨n,(t,.d (pD b 0))::env',hp' b⟩):Ab P F ops l Q ⟨n,env,hp⟩:=fun ρ act w hs=>by
 obtain ⟨b,hb,hs'⟩:=hs.absorb t g f hF hpn hne ht hone hcs hM hE hE2 hH hH2 hh hm;exact h b hb _ act w hs'
theorem Eh (t g f:Nat) {M:MF} {T:TypeId} {kk m:Nat} {xs:List D} {pn:List Nat} {hp':Nat ->Nat ->Hp} (hF:F.pn=pn) (hpn:memB g pn=false) (hne:Nat.beq g f=false) (ht:get env t=some (.own g 0 m)) (hn:m=xs.length) (hxs:xs≠ []) (hone:hfam hp g=some [.rowD T kk xs]) (hM:hfam hp f=some [.multi M]) (hE:AZ g env=some env1) (hE2:AZ f env1=some env') (hH:AX g hp=some hp1) (hH2:AX f hp1=some hp2) (hh:CD g hp2=some hp3) (hm:∀b cap,B1 hp3 f (BQ M b (.row T kk cap xs))=some (hp' b cap))
  (h:∀b cap,M b=none ->xs.length≤cap ->Ab P F ops l Q ⟨n,(t,.d (.raw (sV b m cap)))::env',hp' b cap⟩):Ab P F ops l Q ⟨n,env,hp⟩:=fun ρ act w hs=>by
 obtain ⟨b,cap,hb,hc,hs'⟩:=hs.absorbR t g f hF hpn hne ht hn hxs hone hM hE hE2 hH hH2 hh hm;exact h b cap hb hc _ act w hs'
theorem Fi (f:Nat) (hE:AZ f env=some env') (hH:AX f hp=some hp1) (hz:hfam hp1 f=none) (h:Bq P F c Q ⟨n,env',(f,[.multi fun _=>none])::hp1⟩):Bq P F c Q ⟨n,env,hp⟩:=fun ρ act w hs=>by
 refine h ρ act w ?_;obtain ⟨a1,a2⟩:=Ar hH
 have hcons:∀f' i,hget ((f,[.multi fun _=>none])::hp1) f' i=if f'=f then none else hget hp1 f' i:=fun f' i=>by
  by_cases e:f'=f
  ·subst e;rw [θ rfl];simp only [hget,hfam,χi,ψx,gl,isM,φk]
  ·rw [ϑ e];simp only [hget,hfam,Eb (fun h=>e h.symm)]
 have hh:B3 F ((f,[.multi fun _=>none])::hp1) ρ w:=hs.heap.less (fun g i o' ho=>by
  rw [hcons] at ho
  split at ho
  ·cases ho
  ·obtain ⟨o,h1,h2⟩:=a1 _ _ _ ho
   exact ⟨o,h1,fun w O v h=>h2.1 _ _ _ _ h⟩) fun g i o ho=>by
  obtain ⟨o',h1,h2⟩:=a2 _ _ _ ho
  have e:g≠f:=fun e=>by
   subst e;unfold hget at h1;rw [hz] at h1;cases h1
  exact ⟨o',by rw [hcons,ϑ e];exact h1,fun t cs e=>by subst e;exact h2.2.2.1 _ _ Z⟩
 have hO:F.O ρ ((f,[.multi fun _=>none])::hp1)=F.O ρ hp:=funext fun b=>propext ⟨fun h=>h.imp id fun ⟨g,i,o,h1,h2⟩=>by
  rw [hcons] at h1
  split at h1
  ·cases h1
  ·obtain ⟨o',h3,_⟩:=a1 _ _ _ h1
   exact ⟨g,i,o',h3,h2⟩,fun h=>h.imp id fun ⟨g,i,o,h1,h2⟩=>by
  obtain ⟨o',h3,_⟩:=a2 _ _ _ h1
  have e:g≠f:=fun e=>by
   subst e;unfold hget at h3;rw [hz] at h3;cases h3
  exact ⟨g,i,o',by rw [hcons,ϑ e];exact h3,h2⟩⟩
 refine ⟨hs.size,hO▸hs.defs,fun t a ha=>?_,hh⟩;show AW w (F.O ρ ((f,[.multi fun _=>none])::hp1)) ρ a _;rw [hO];rcases BV hE ha with rfl | ⟨h3,_⟩
 ·exact .top
 ·exact hs.env t a h3
end
theorem SR.rawC {F:Fr} {s:AS} {ρ:Nat ->Nat ->Value} {act:Act} {w:World} (h:SR F s ρ act w) (g i off:Nat) {f j n N cap:Nat} {a:Option Addr} {t:TypeId} {cs cs':List AV} {hp':Hp} (ho:hget s.hp g i=some (.blk t cs)) (hc:cs[off]? =some (.own f j n)) (hv:ρ f j= .slice a N cap)
  (hs':EF cs off [.d (.raw (.slice a n cap))]=some cs') (hset:BN s.hp g i (.blk t cs')=some hp'):SR F ⟨s.n,s.env,hp'⟩ ρ act w:=by
 refine h.write g i (.blk t cs) (.blk t cs') ho (Am hset) Z Z Z Z (fun _ _=>rfl) (fun _ _ _=>⟨_,_,Z⟩) fun hrep=>?_;obtain ⟨b,us,e1,e2,e3,e4,e5⟩:=h.heap.sim g i _ ho;obtain ⟨s1,s2,s3⟩:=Cx _ _ _ _ hs';refine ⟨b,us,e1,e2,by rw [e3,s2],fun j' c u hcj hu=>?_,e5⟩;rw [s3] at hcj
 split at hcj
 ·rename_i hj
  have hjo:j'=off:=by simp at hj;omega
  subst hjo
  simp at hcj;subst hcj
  have hr:=e4 j' _ u hc hu
  cases hr with
  | own h _=>
   rw [hv] at h;injection h with h1 h2 h3;subst h1 h3
   exact hrep _ _ (.d (.raw Z))
 ·exact hrep _ _ (e4 j' c u hcj hu)
section
variable {P:Program} {F:Fr} {Q:Exit ->AS ->Prop} {c:Code} {ops:Array Oper} {l:List Oper} {n:Nat} {env env':List (Nat×AV)} {hp hp1:Hp}
end
section
variable {P:Program} {F:Fr} {s:AS} {d:Nat} {ty T:TypeId} {pos:String} {aft:Array Edge} {g:Option (Nat×Bool)} {x:Operand}
end
theorem SR.split {F:Fr} {s:AS} {ρ:Nat ->Nat ->Value} {act:Act} {w:World} (hs:SR F s ρ act w) (t g f:Nat) {M:MF} {T:TypeId} {b:Nat} {cs:List D} {env':List (Nat×AV)} {hp1 hp':Hp} (hne:Nat.beq g f=false)
  (ht:get s.env t=some (.d (pD b 0))) (hM:hfam s.hp f=some [.multi M]) (hb:M b=some (.cells T cs)) (hE:AZ g s.env=some env') (hH:AX g s.hp=some hp1) (hz:hfam hp1 g=none) (hm:B1 hp1 f (EZ M b)=some hp'):
  SR F ⟨s.n,(t,.ptr g 0 0)::env',(g,[.blk T (cs.map .d)])::hp'⟩ (upd ρ g 0 (pV b 0)) act w:=by
 have hgf:g≠f:=ψg hne;obtain ⟨hρ,us,k1,k2,k3,k4⟩:=hs.cellsN hM hb;obtain ⟨a1,a2⟩:=Ar hH;have hg':=DA hm
 have hz':∀i,hget s.hp g i=none:=fun i=>by
  cases hq:hget s.hp g i with
  | none=>rfl
  | some o=>
   obtain ⟨o2,q1,_⟩:=a2 _ _ _ hq;unfold hget at q1;rw [hz] at q1;cases q1
 have hcons:∀f' i,hget ((g,[.blk T (cs.map .d)])::hp') f' i=if f'=g then [AL.blk T (cs.map .d)][i]? else hget hp' f' i:=fun f' i=>by
  by_cases e:f'=g
  ·subst e;rw [θ rfl];simp only [hget,hfam,χi,ψx,Ko (o:= .blk T (cs.map .d)) rfl]
  ·rw [ϑ e];simp only [hget,hfam,Eb (fun h=>e h.symm)]
 have hmv:=hs.move f b g 0 (o1:= .nb b T cs) (o2:= .blk T (cs.map .d)) (v2:=pV b 0) (env':=env') (hp':=(g,[.blk T (cs.map .d)])::hp') (by rw [Ft hM,hb];rfl) (hz' 0) (by rw [hρ]) (by
  cases hpin:F.pin f b with
  | none=>rfl
  | some b'=>
   obtain ⟨_,t',cs',h⟩:=hs.heap.pins f b b' hpin
   rw [Ft hM,hb] at h;injection h with h;cases h)
  (fun f' i o' hq=>by
   rw [hcons] at hq
   split at hq
   ·rename_i e
    subst e
    match i,hq with
    | 0,hq=>injection hq with hq;exact .inl ⟨Z,Z,hq.symm⟩
    | i+1,hq=>cases hq
   ·rename_i e
    rw [hg'] at hq
    split at hq
    ·rename_i e2
     subst e2
     by_cases e3:i=b
     ·subst e3;rw [PJ] at hq;cases hq
     ·rw [Ga e3] at hq;refine .inr ⟨fun h=>e h.1,fun h=>e3 h.2,o',by rw [Ft hM];exact hq,fun _ _ _ _ h=>h,?_⟩
      cases hmi:M i with
      | none=>rw [hmi] at hq;cases hq
      | some m=>rw [hmi] at hq;injection hq with hq;subst hq;exact Ad.norefs
    ·rename_i e2
     obtain ⟨o3,q3,q4⟩:=a1 _ _ _ hq
     exact .inr ⟨fun h=>e h.1,fun h=>e2 h.1,o3,q3,fun w O ρ v h=>q4.1 _ _ _ _ h,fun hr=>Qc (q4.2.1 _ _ hr) Z⟩)
  (by rw [hcons,θ rfl];rfl)
  (fun f' i t' cs' hq hne'=>by
   have e1:f'≠f:=fun e=>by
    subst e;rw [Ft hM] at hq
    cases hmi:M i with
    | none=>rw [hmi] at hq;cases hq
    | some m=>rw [hmi] at hq;injection hq with hq;exact Ad.notBlk hq
   have e2:f'≠g:=fun e=>by subst e;rw [hz'] at hq;cases hq
   obtain ⟨o2,q1,q2⟩:=a2 _ _ _ hq;obtain ⟨cs2,rfl⟩:=q2.2.2.1 _ _ rfl
   exact ⟨cs2,by rw [hcons,ϑ e2,hg',ϑ e1];exact q1⟩)
  (fun f' i o hq hne'=>by
   have e2:f'≠g:=fun e=>by subst e;rw [hz'] at hq;cases hq
   by_cases e1:f'=f
   ·subst e1;have e3:i≠b:=fun e=>hne' ⟨Z,e⟩;exact ⟨o,by rw [hcons,ϑ e2,hg',θ Z,Ga e3,←Ft hM];exact hq⟩
   ·obtain ⟨o2,q1,q2⟩:=a2 _ _ _ hq
    exact ⟨o2,by rw [hcons,ϑ e2,hg',ϑ e1];exact q1⟩)
  (fun t' a ha=>by
   rcases BV hE ha with rfl | ⟨h3,h4⟩
   ·exact ⟨.top,fun h=>by cases h⟩
   ·exact ⟨hs.env t' _ h3,h4 0⟩)
  ⟨b,us,Z,k1,by rw [ψ];exact k2,fun j c u hc hu=>by
   rw [η] at hc
   cases hj:cs[j]? with
   | none=>rw [hj] at hc;cases hc
   | some d=>
    rw [hj] at hc;injection hc with hc;subst hc
    exact .d (k3 j d u hj hu),k4⟩
 refine ⟨hmv.size,hmv.defs,fun t' a ha=>?_,hmv.heap⟩;rcases KJ ha with ⟨rfl,rfl⟩ | ⟨_,ha⟩
 ·have hr:=hs.env t _ ht
  generalize act.tmps.getD t undef=x at hr⊢
  cases hr with
  | d h=>cases h with | raw _=>exact .ptr OW
 ·exact hmv.env t' a ha
section
variable {P:Program} {F:Fr} {Q:Exit ->AS ->Prop} {c:Code} {n:Nat} {env env1 env':List (Nat×AV)} {hp hp1:Hp}
theorem a_split (t g f:Nat) {M:MF} {T:TypeId} {b:Nat} {cs:List D} {hp':Hp} (hne:Nat.beq g f=false) (ht:get env t=some (.d (pD b 0))) (hM:hfam hp f=some [.multi M]) (hb:M b=some (.cells T cs)) (hE:AZ g env=some env') (hH:AX g hp=some hp1) (hz:hfam hp1 g=none) (hm:B1 hp1 f (EZ M b)=some hp')
  (h:Bq P F c Q ⟨n,(t,.ptr g 0 0)::env',(g,[.blk T (cs.map .d)])::hp'⟩):Bq P F c Q ⟨n,env,hp⟩:=fun ρ act w hs=>h _ act w (hs.split t g f hne ht hM hb hE hH hz hm)
theorem Uw (t g f g0 off:Nat) {M:MF} {T t0:TypeId} {kk m:Nat} {xs:List D} {cs:List AV} {pn:List Nat} {cs':Nat ->Nat ->List AV} {hpc hp1 hp2 hp3 hp':Nat ->Nat ->Hp} (hF:F.pn=pn) (hpn:memB g pn=false) (hne:Nat.beq g f=false) (ht:get env t=some (.own g 0 m)) (hn:m=xs.length) (hxs:xs≠ [])
  (ho:hget hp g0 0=some (.blk t0 cs)) (hc:cs[off]? =some (.own g 0 m)) (hs':∀b cap,EF cs off [.d (.raw (sV b m cap))]=some (cs' b cap)) (hset:∀b cap,BN hp g0 0 (.blk t0 (cs' b cap))=some (hpc b cap))
  (hone:hget hp g 0=some (.rowD T kk xs)) (hone2:∀b cap,hfam (hpc b cap) g=some [.rowD T kk xs]) (hM:∀b cap,hfam (hpc b cap) f=some [.multi M]) (hE:AZ g env=some env1) (hE2:AZ f env1=some env') (hH:∀b cap,AX g (hpc b cap)=some (hp1 b cap)) (hH2:∀b cap,AX f (hp1 b cap)=some (hp2 b cap)) (hh:∀b cap,CD g (hp2 b cap)=some (hp3 b cap)) (hm:∀b cap,B1 (hp3 b cap) f (BQ M b (.row T kk cap xs))=some (hp' b cap))
  (h:∀b cap,M b=none ->xs.length≤cap ->Bq P F c Q ⟨n,(t,.d (.raw (sV b m cap)))::env',hp' b cap⟩):Bq P F c Q ⟨n,env,hp⟩:=fun ρ act w hs=>by
 subst hn;obtain ⟨us,a,cap0,hρ,k1,k2,k3,k4,k5⟩:=hs.rowD hone
 have hpos:0<xs.length:=by
  cases xs with
  | nil=>exact absurd Z hxs
  | cons _ _=>simp
 obtain ⟨b0,rfl,_⟩:=k5 hpos;have hs1:=hs.rawC g0 0 off ho hc hρ (hs' b0 cap0) (hset b0 cap0)
 -- the row's new place is told for every place; here it is b0
 have hgf:g≠f:=ψg hne
 have hMb:M b0=none:=by
  cases hmb:M b0 with
  | none=>rfl
  | some m=>
   have h2:hget (hpc b0 cap0) f b0=some (m.at_ b0):=by rw [Ft (hM b0 cap0),hmb];rfl
   have ho':hget (hpc b0 cap0) g 0=some (.rowD T kk xs):=by unfold hget;rw [hone2];rfl
   exact absurd (hs1.heap.inj g 0 f b0 _ _ b0 ho' h2 (by rw [hρ];rfl) (Ad.val hs1 (hM b0 cap0) hmb)).1 hgf
 have ho':hget (hpc b0 cap0) g 0=some (.rowD T kk xs):=by unfold hget;rw [hone2];rfl
 obtain ⟨m1,m2,m3,m4⟩:=aZ hgf (hone2 b0 cap0) Z (hM b0 cap0) hMb (hH b0 cap0) (hH2 b0 cap0) (hh b0 cap0) (hm b0 cap0);refine h b0 cap0 hMb k4.1 _ act w (hs1.move g 0 f b0 ho' (by simp only [Ft (hM b0 cap0),hMb,φk]) (by rw [hρ];rfl) (J0 hF hpn) m1 m2 m3 m4 (HZ hs1 hE hE2 ?_ Z) ⟨Z,us,k1,⟨k2.1,k2.2.1,fun i x hx j c hc=>?_⟩,k3⟩)
 ·have hr:=hs.env t _ ht
  generalize act.tmps.getD t undef=x at hr⊢
  cases hr with
  | own h1 h2=>
   rw [hρ] at h1;injection h1 with h1 h3 h4;subst h1 h4;rfl
 ·obtain ⟨u,hu,hu1,hr⟩:=k2.2.2 i x hx j c hc;refine ⟨u,hu,hu1,?_⟩
  have hO:∀b,F.O ρ (hpc b0 cap0) b ->F.O ρ hp b:=fun b hb=>by
   rcases hb with hb | ⟨f',i',o,h1,h2⟩
   ·exact .inl hb
   ·refine .inr ?_;rw [Am (hset b0 cap0)] at h1
    split at h1
    ·rename_i e;obtain ⟨rfl,rfl⟩:=e;exact ⟨_,_,_,ho,h2⟩
    ·exact ⟨_,_,_,h1,h2⟩
  exact hr.mono (ν _) (fun _ _ _=>rfl) fun b _=>hO b
end
end Go.Proofs.YteifpcnphnhaoaaGreat
namespace Go.Proofs.YteifpcnphnhaoaaGreat
open Go.RowKit Go.ChangeMaps
def mdel {α β:Type} [DecidableEq α] (m:List (α×β)) (a:α):List (α×β):=m.eraseIdx (mix m a)
theorem WB {α β:Type} (f:α ->β):∀(l:List α) (i:Nat),(l.eraseIdx i).map f=(l.map f).eraseIdx i
 | [],i=>by simp
 | a::l,0=>rfl
 | a::l,i+1=>by simp [WB f l i]
section
variable {α β:Type} [DecidableEq α]
variable {P:Program} {F:Fr} {s:AS} {K:TypeId} {eK:α ->D} {kv:α ->Value} {eV:β ->D}
variable {ty T T2 E:TypeId} {pos:String} {aft:Array Edge} {g:Option (Nat×Bool)} {x y:Operand} {bs:Option (List Nat×Nat)}
omit [DecidableEq α] in
end
abbrev mV (b:Nat):Value:= .map (some b)
abbrev mD (b:Nat):D:= .raw (mV b)
theorem NL {hp:Hp} {f b:Nat} {M:MF} {bs:Option (List Nat×Nat)} {es:List (D×D)} (hM:hfam hp f=some [.multi M]) (hb:M b=some (.map bs es)):hget hp f b=some (.nm b bs es):=by rw [Ft hM,hb];rfl
theorem simM {w:World} {O:Nat ->Prop} {ρ:Nat ->Nat ->Value} {b:Nat} {bs:Option (List Nat×Nat)} {es:List (D×D)}:An w O ρ (.map bs es) (mV b)↔An w O ρ (.nm b bs es) (mV b):=by
 constructor
 ·rintro ⟨m,arr,c,e,h⟩;injection e with e;injection e with e;subst e
  exact ⟨Z,arr,c,h⟩
 ·rintro ⟨_,arr,c,h⟩;exact ⟨b,arr,c,Z,h⟩
section
variable {α β:Type} [DecidableEq α]
variable {P:Program} {F:Fr} {s:AS} {K:TypeId} {eK:α ->D} {kv:α ->Value} {eV:β ->D}
variable {d:Nat} {ty T T2 E:TypeId} {pos:String} {aft:Array Edge} {g:Option (Nat×Bool)} {x y z:Operand} {bs:Option (List Nat×Nat)}
theorem SR.mapVN {ρ:Nat ->Nat ->Value} {act:Act} {w:World} (hs:SR F s ρ act w) {f b:Nat} {M:MF} {es:List (D×D)} (hx:s.ev x=some (.d (mD b))) (hM:hfam s.hp f=some [.multi M]) (hb:M b=some (.map bs es)):act.eval x=ρ f b:=
 (hs.raw hx).trans (Ad.valE hs hM hb).symm
theorem RN (m:List (α×β)) (a:α) (b0 v:β) {f b:Nat} {M:MF} (hx:s.ev x=some (.d (mD b))) (hM:hfam s.hp f=some [.multi M]) (hb:M b=some (.map bs (BO eK eV m))) (hy:s.ev y=some (.d (eK a))) (hT:B8 P T K E=true) (KT:Ba P K eK kv) (hz:Ce P E=some (.d (eV b0))) (hv:A7 m a b0=v) (hd:Nat.blt d s.n=true):
  AA P F ⟨some d,.lookup T x y false,ty,pos,aft,g⟩ s d (.d (eV v)):=
 RO m a b0 v (fun _ _ _ hs=>hs.mapVN hx hM hb) (NL hM hb) Z hy hT KT hz hv hd
theorem O8 (gf:Nat) {f b c:Nat} {B:List Nat} {M:MF} {es:List (D×D)} {env':List (Nat×AV)} {hp1 hp':List (Nat×List AL)} (hx:s.ev x=some (.d (mD b))) (hM:hfam s.hp f=some [.multi M]) (hb:M b=some (.map (some (B,c)) es)) (hne:Nat.beq f gf=false) (hT:B8 P T K E=true)
  (hE:AZ gf s.env=some env') (hH:AX gf s.hp=some hp1) (hn:CX hp1 gf (.iter f b c [])=some hp') (hd:Nat.blt d s.n=true):
  AI P F ⟨some d,.range T x,ty,pos,aft,g⟩ s ⟨s.n,(d,.ptr gf 0 0)::env',hp'⟩ (BX gf):=
 O9 gf (fun _ _ _ hs=>hs.mapVN hx hM hb) (NL hM hb) Z hne hT hE hH hn hd
omit [DecidableEq α] in
theorem Vo {Q:Exit ->AS ->Prop} {ops:Array Oper} {rest:List Oper} {n:Nat} {env:List (Nat×AV)} {hp:List (Nat×List AL)} (m:List (α×β)) {gf f b c:Nat} {M:MF} {B seen:List Nat} (hx:AS.ev ⟨n,env,hp⟩ x=some (.ptr gf 0 0)) (hi:hget hp gf 0=some (.iter f b c seen)) (hM:hfam hp f=some [.multi M]) (hb:M b=some (.map (some (B,c)) (BO eK eV m))) (hd:Nat.blt d n=true)
  (h0:Bt m B seen=[] ->Ab P F ops rest Q ⟨n,(d,.tup [.d (.raw (.bool false))])::env,hp⟩)
  (h1:∀(j b':Nat) (k:α) (v:β),m[j]? =some (k,v) ->B[j]? =some b' ->B.Nodup ->(Bt m B seen).Perm ((k,v)::Bt m B (seen++ [b'])) ->∃hp',BN hp gf 0 (.iter f b c (seen++ [b']))=some hp'∧Ab P F ops rest Q ⟨n,(d,.tup [.d (.raw (.bool true)),.d (eK k),.d (eV v)])::env,hp'⟩):
  Ab P F ops (⟨some d,.next x false,ty,pos,aft,none⟩::rest) Q ⟨n,env,hp⟩:=
 Vp m hx hi (NL hM hb) Z hd h0 h1
omit [DecidableEq α] in
theorem Oc (m:List (α×β)) (j b':Nat) {k:α} {v:β} {gf f b c:Nat} {M:MF} {B seen:List Nat} (hx:s.ev x=some (.ptr gf 0 0)) (hi:hget s.hp gf 0=some (.iter f b c (seen++ [b']))) (hM:hfam s.hp f=some [.multi M]) (hb:M b=some (.map (some (B,c)) (BO eK eV m))) (hm:m[j]? =some (k,v)) (hB:B[j]? =some b') (hd:Nat.blt d s.n=true):
  AA P F ⟨some d,.entry x,ty,pos,aft,g⟩ s d (.tup [.d (eK k),.d (eV v)]):=
 Od m j b' hx hi (NL hM hb) Z hm hB hd
theorem SR.birthsN {ρ:Nat ->Nat ->Value} {act:Act} {w:World} (hs:SR F s ρ act w) {f b:Nat} {M:MF} {es:List (D×D)} (hM:hfam s.hp f=some [.multi M]) (hb:M b=some (.map bs es)):∃B c,B.length=es.length∧B.Nodup∧∀hp',B1 s.hp f (BQ M b (.map (some (B,c)) es))=some hp' ->SR F ⟨s.n,s.env,hp'⟩ ρ act w:=by
 obtain ⟨mb,arr,c,h1,h2,h3,h4,h5,h6,_⟩:=(hs.heap.sim f b _ (NL hM hb)).mapO rfl;have hv:ρ f b=mV b:=Ad.valE hs hM hb;rw [hv] at h1;injection h1 with h1;injection h1 with h1;subst h1
 refine ⟨arr.toList.map (·.born),c,by simpa using h3,h5,fun hp' hh=>?_⟩;refine hs.writeM f b hM hb hh Z Z Z Z (fun _ _=>rfl) (by rw [hv];rfl) fun hrep=>(⟨hv,arr,c,h2,h3,fun i e x he hx=>?_,h5,h6,fun B c' e=>by injection e with e;injection e with e1 e2;exact ⟨e1.symm,e2.symm⟩⟩);obtain ⟨g1,g2⟩:=h4 i e x he hx;have q1:=hrep (.d x.1) _ (.d g1);have q2:=hrep (.d x.2) _ (.d g2);exact ⟨by cases q1 with | d h=>exact h,by cases q2 with | d h=>exact h⟩
theorem Pa {Q:Exit ->AS ->Prop} {code:Code} {n:Nat} {env:List (Nat×AV)} {hp:Hp} (f b:Nat) {M:MF} {es:List (D×D)} {hp':List Nat ->Nat ->Hp} (hM:hfam hp f=some [.multi M]) (hb:M b=some (.map bs es)) (hh:∀B c,B1 hp f (BQ M b (.map (some (B,c)) es))=some (hp' B c)) (h:∀B c,B.length=es.length ->B.Nodup ->Bq P F code Q ⟨n,env,hp' B c⟩):Bq P F code Q ⟨n,env,hp⟩:=fun ρ act w hs=>by
 obtain ⟨B,c,h1,h2,h3⟩:=hs.birthsN hM hb;exact h B c h1 h2 ρ act w (h3 _ (hh B c))
theorem SR.hideN {ρ:Nat ->Nat ->Value} {act:Act} {w:World} (hs:SR F s ρ act w) {f b:Nat} {M:MF} {es:List (D×D)} {hp':Hp} (hM:hfam s.hp f=some [.multi M]) (hb:M b=some (.map bs es)) (hh:B1 s.hp f (BQ M b (.map none es))=some hp'):SR F ⟨s.n,s.env,hp'⟩ ρ act w:=by
 obtain ⟨mb,arr,c,h1,h2,h3,h4,h5,h6,_⟩:=(hs.heap.sim f b _ (NL hM hb)).mapO rfl;have hv:ρ f b=mV b:=Ad.valE hs hM hb;rw [hv] at h1;injection h1 with h1;injection h1 with h1;subst h1
 refine hs.writeM f b hM hb hh Z Z Z Z (fun _ _=>rfl) (by rw [hv];rfl) fun hrep=>(⟨hv,arr,c,h2,h3,fun i e x he hx=>?_,h5,h6,fun B c' e=>by cases e⟩);obtain ⟨g1,g2⟩:=h4 i e x he hx;have q1:=hrep (.d x.1) _ (.d g1);have q2:=hrep (.d x.2) _ (.d g2);exact ⟨by cases q1 with | d h=>exact h,by cases q2 with | d h=>exact h⟩
theorem a_hideN {Q:Exit ->AS ->Prop} {code:Code} {n:Nat} {env:List (Nat×AV)} {hp hp':Hp} (f b:Nat) {M:MF} {es:List (D×D)} (hM:hfam hp f=some [.multi M]) (hb:M b=some (.map bs es)) (hh:B1 hp f (BQ M b (.map none es))=some hp') (h:Bq P F code Q ⟨n,env,hp'⟩):Bq P F code Q ⟨n,env,hp⟩:=fun ρ act w hs=>h ρ act w (hs.hideN hM hb hh)
theorem Lv {Q:Exit ->AS ->Prop} {ops:Array Oper} {l:List Oper} {n:Nat} {env:List (Nat×AV)} {hp hp':Hp} (f b:Nat) {M:MF} {es:List (D×D)} (hM:hfam hp f=some [.multi M]) (hb:M b=some (.map bs es)) (hh:B1 hp f (BQ M b (.map none es))=some hp') (h:Ab P F ops l Q ⟨n,env,hp'⟩):Ab P F ops l Q ⟨n,env,hp⟩:=fun ρ act w hs=>h ρ act w (hs.hideN hM hb hh)
theorem RL {n:Nat} {env:List (Nat×AV)} {hp hp':Hp} (m:List (α×β)) (a:α) (b:β) {f r:Nat} {M:MF} (hx:AS.ev ⟨n,env,hp⟩ x=some (.d (mD r))) (hM:hfam hp f=some [.multi M]) (hb:M r=some (.map bs (BO eK eV m))) (hy:AS.ev ⟨n,env,hp⟩ y=some (.d (eK a))) (hT:B8 P T K E=true) (KT:Ba P K eK kv) (hz:AS.ev ⟨n,env,hp⟩ z=some (.d (eV b)))
  (hh:B1 hp f (BQ M r (.map none (BO eK eV (Aw m a b))))=some hp'):AI P F ⟨none,.mapUpdate T x y z,ty,pos,aft,g⟩ ⟨n,env,hp⟩ ⟨n,env,hp'⟩ (fun _ _=>true):=fun ρ act w hs=>by
 obtain ⟨mb,arr,c,e1,e2,h1,h2,h3,h4,h5,h6⟩:=hs.mapAt0 (hs.mapVN hx hM hb) (NL hM hb) rfl;have hv:ρ f r=mV r:=Ad.valE hs hM hb;have em:mb=r:=by rw [hv] at e2;injection e2 with e2;injection e2 with e2;exact e2.symm
 subst em;have hk:act.eval y=kv a:=(hs.repD hy).val (KT.val a);have hkr:AQ w (F.O ρ hp) (eK a) (kv a):=hk▸hs.repD hy;have hvr:=hs.ev hz
 have fin:∀arr' c',(execOp act.eval ⟨none,.mapUpdate T x y z,ty,pos,aft,g⟩).run P w= .ok .skip (setBlock w mb (.map arr' c')) ->((mix m a=m.length∧arr'=arr.push {key:=kv a,val:=act.eval z,born:=c}∧c'=c+1)∨∃e,arr[mix m a]? =some e∧mix m a<m.length∧arr'=(arr.modify (mix m a) fun e=>{e with key:=kv a,val:=act.eval z})∧c'=c)→
   (⟨none,.mapUpdate T x y z,ty,pos,aft,g⟩:Oper).wp P act w (fun act' w'=>∃ρ',SR F ⟨n,env,hp'⟩ ρ' act' w'∧∀f i,(fun _ _=>true) f i=true ->ρ' f i=ρ f i) (fun _ _ _=>False):=fun arr' c' hrun hcase=>by
  unfold Oper.wp;rw [hrun];refine ⟨ρ,hs.writeM f mb hM hb hh Z Z Z Zb5 (fun b' hb'=>Zb8 hb') (by rw [hv];rfl) fun hrep=>?_,fun _ _ _=>rfl⟩;rw [e2]
  have hkr':AQ (setBlock w mb (.map arr' c')) (F.O ρ hp') (eK a) (kv a):=by
   have:=hrep (.d (eK a)) _ (.d hkr)
   cases this with | d h=>exact h
  exact simM.1 (G2 (bs:=none) KT h2 h3 h4 h5 (fun _ _ e=>by cases e) hrep (by have:=hrep _ _ hvr;cases this with | d h=>exact h) hkr' hcase (Zcw h1))
 rcases hit_get KT h2 h3 a b with ⟨g1,_,_,g4⟩ | ⟨j,e,g1,g2,g3,_,g5,g6,_⟩
 ·refine fin _ _ ?_ (.inl ⟨g4,Z,Z⟩)
  simp [execOp,Instr.mapUpdate,run_underlying (VA hT),e1,hk,MapKept.run_getObj_map h1,KT.check,KT.find w a _ _ (Wb KT h2 h3),g1,Result.andThen,MapKept.run_setObj_map _ h1,setBlock]
 ·refine fin _ _ ?_ (.inr ⟨e,by rw [g5];exact g2,by rw [g5];exact g6,Z,Z⟩)
  simp [execOp,Instr.mapUpdate,run_underlying (VA hT),e1,hk,MapKept.run_getObj_map h1,KT.check,KT.find w a _ _ (Wb KT h2 h3),g1,g2,g3,g5,Result.andThen,MapKept.run_setObj_map _ h1,setBlock,KT.stays]
end
theorem SR.absorbM {F:Fr} {s:AS} {ρ:Nat ->Nat ->Value} {act:Act} {w:World} (hs:SR F s ρ act w) (t g f:Nat) {M:MF} {bs:Option (List Nat×Nat)} {es:List (D×D)} {pn:List Nat} {env1 env':List (Nat×AV)} {hp1 hp2 hp3:Hp} {hp':Nat ->Hp} (hF:F.pn=pn) (hpn:memB g pn=false) (hne:Nat.beq g f=false)
  (ht:get s.env t=some (.map g 0)) (hone:hfam s.hp g=some [.map bs es]) (hM:hfam s.hp f=some [.multi M]) (hE:AZ g s.env=some env1) (hE2:AZ f env1=some env') (hH:AX g s.hp=some hp1) (hH2:AX f hp1=some hp2) (hh:CD g hp2=some hp3) (hm:∀b,B1 hp3 f (BQ M b (.map bs es))=some (hp' b)):
  ∃b,M b=none∧SR F ⟨s.n,(t,.d (mD b))::env',hp' b⟩ (upd ρ f b (mV b)) act w:=by
 have hgf:g≠f:=ψg hne;have ho:hget s.hp g 0=some (.map bs es):=by unfold hget;rw [hone];rfl
 have hso:=hs.heap.sim g 0 _ ho;obtain ⟨b,arr,c,hρ,k1⟩:=hso
 have hMb:M b=none:=by
  cases hmb:M b with
  | none=>rfl
  | some m=>
   have h2:hget s.hp f b=some (m.at_ b):=by rw [Ft hM,hmb];rfl
   exact absurd (hs.heap.inj g 0 f b _ _ b ho h2 (by rw [hρ];rfl) (Ad.val hs hM hmb)).1 hgf
 obtain ⟨m1,m2,m3,m4⟩:=aZ hgf hone Z hM hMb hH hH2 hh (hm b);refine ⟨b,hMb,hs.move g 0 f b ho (by simp only [Ft hM,hMb,φk]) (by rw [hρ]) (J0 hF hpn) m1 m2 m3 m4 (HZ hs hE hE2 ?_ Z) ⟨Z,arr,c,k1⟩⟩;have hr:=hs.env t _ ht
 generalize act.tmps.getD t undef=x at hr⊢
 cases hr with
 | map h1=>rw [hρ] at h1;injection h1 with h1;injection h1 with h1;subst h1;rfl
section
variable {P:Program} {F:Fr} {Q:Exit ->AS ->Prop} {c:Code} {ops:Array Oper} {l:List Oper} {n:Nat} {env env1 env':List (Nat×AV)} {hp hp1 hp2 hp3:Hp}
theorem Oy (t g f:Nat) {M:MF} {bs:Option (List Nat×Nat)} {es:List (D×D)} {pn:List Nat} {hp':Nat ->Hp} (hF:F.pn=pn) (hpn:memB g pn=false) (hne:Nat.beq g f=false) (ht:get env t=some (.map g 0)) (hone:hfam hp g=some [.map bs es]) (hM:hfam hp f=some [.multi M]) (hE:AZ g env=some env1) (hE2:AZ f env1=some env') (hH:AX g hp=some hp1) (hH2:AX f hp1=some hp2) (hh:CD g hp2=some hp3) (hm:∀b,B1 hp3 f (BQ M b (.map bs es))=some (hp' b))
  (h:∀b,M b=none ->Ab P F ops l Q ⟨n,(t,.d (mD b))::env',hp' b⟩):Ab P F ops l Q ⟨n,env,hp⟩:=fun ρ act w hs=>by
 obtain ⟨b,hb,hs'⟩:=hs.absorbM t g f hF hpn hne ht hone hM hE hE2 hH hH2 hh hm;exact h b hb _ act w hs'
end
end Go.Proofs.YteifpcnphnhaoaaGreat
namespace Go.Proofs.YteifpcnphnhaoaaGreat
open Go.RowKit
def munion (M N:MF):MF:=fun i=>match M i with
 | some m=>some m
 | none=>N i
theorem Hb {M N:MF} {b:Nat} {m:Ad} (h:M b=some m):munion M N b=some m:=by unfold munion;rw [h]
theorem Ha {M N:MF} {b:Nat} {m:Ad} (h0:M b=none) (h:N b=some m):munion M N b=some m:=by unfold munion;rw [h0];exact h
theorem SR.merge {F:Fr} {s:AS} {ρ:Nat ->Nat ->Value} {act:Act} {w:World} (hs:SR F s ρ act w) (g f:Nat) {M N:MF} {env1 env':List (Nat×AV)} {hp1 hp2 hp3 hp':Hp} (hne:Nat.beq g f=false)
  (hM:hfam s.hp f=some [.multi M]) (hN:hfam s.hp g=some [.multi N]) (hE:AZ g s.env=some env1) (hE2:AZ f env1=some env') (hH:AX g s.hp=some hp1) (hH2:AX f hp1=some hp2) (hh:CD g hp2=some hp3) (hm:B1 hp3 f (munion M N)=some hp'):
  (∀i m m',M i=some m ->N i=some m' ->False)∧∃ρ',SR F ⟨s.n,env',hp'⟩ ρ' act w:=by
 have hgf:g≠f:=ψg hne
 have hgM:∀i m,M i=some m ->hget s.hp f i=some (m.at_ i)∧ρ f i=m.v i:=fun i m h=>⟨by rw [Ft hM,h];rfl,Ad.valE hs hM h⟩
 have hgN:∀i m,N i=some m ->hget s.hp g i=some (m.at_ i)∧ρ g i=m.v i:=fun i m h=>⟨by rw [Ft hN,h];rfl,Ad.valE hs hN h⟩
 have hdis:∀i m m',M i=some m ->N i=some m' ->False:=fun i m m' h1 h2=>by
  obtain ⟨e1,e2⟩:=hgM i m h1;obtain ⟨e3,e4⟩:=hgN i m' h2;exact hgf (hs.heap.inj g i f i _ _ i e3 e1 (by rw [e4];exact Ad.v_blk) (by rw [e2];exact Ad.v_blk)).1
 have hMi:∀i o,hget s.hp f i=some o ->∃m,M i=some m∧o=m.at_ i:=fun i o h=>by
  rw [Ft hM] at h
  cases hm:M i with
  | none=>rw [hm] at h;cases h
  | some m=>rw [hm] at h;injection h with h;exact ⟨m,Z,h.symm⟩
 have hNi:∀i o,hget s.hp g i=some o ->∃m,N i=some m∧o=m.at_ i:=fun i o h=>by
  rw [Ft hN] at h
  cases hm:N i with
  | none=>rw [hm] at h;cases h
  | some m=>rw [hm] at h;injection h with h;exact ⟨m,Z,h.symm⟩
 obtain ⟨a1,a2⟩:=Ar hH;obtain ⟨c1,c2⟩:=Ar hH2;have hd:=Gi hh;have hg':=DA hm
 obtain ⟨vl,hvl⟩:∃vl:Nat ->Value,vl=fun i=>((munion M N i).map (Ad.v i)).getD (pV i 0):=⟨_,Z⟩
 have hvb:∀i,B9 (vl i)=some i:=fun i=>by
  rw [hvl];show B9 (((munion M N i).map (Ad.v i)).getD (pV i 0))=some i
  cases munion M N i with
  | none=>rfl
  | some m=>exact Ad.v_blk
 have hvM:∀i m,M i=some m ->vl i=m.v i:=fun i m h=>by rw [hvl];show ((munion M N i).map (Ad.v i)).getD (pV i 0)=_;rw [Hb h];rfl
 have hvN:∀i m,N i=some m ->vl i=m.v i:=fun i m h=>by
  rw [hvl];show ((munion M N i).map (Ad.v i)).getD (pV i 0)=_
  cases hmi:M i with
  | some m'=>exact (hdis i _ _ hmi h).elim
  | none=>rw [Ha hmi h];rfl
 refine ⟨hdis,fun f' i=>if f'=f then vl i else ρ f' i,?_⟩
 obtain ⟨ρ',hρ'⟩:∃ρ':Nat ->Nat ->Value,ρ'=fun f' i=>if f'=f then vl i else ρ f' i:=⟨_,Z⟩
 rw [←hρ'];have hf:∀i,ρ' f i=vl i:=fun i=>by rw [hρ'];exact θ rfl
 have ho:∀f' i,f'≠f ->ρ' f' i=ρ f' i:=fun f' i e=>by rw [hρ'];exact ϑ e
 -- what lies in the new heap
 have hnew:∀f' i o',hget hp' f' i=some o' ->(f'=f∧∃m,o'=m.at_ i∧((M i=some m)∨(N i=some m)))∨(f'≠f∧f'≠g∧∃o,hget s.hp f' i=some o∧(∀w O ρ v,An w O ρ o v ->An w O ρ o' v)∧∀j,¬o'.Refs f j):=by
  intro f' i o' hq;rw [hg'] at hq
  by_cases e:f'=f
  ·subst e;rw [θ rfl] at hq
   cases hmi:M i with
   | some m=>
    rw [Hb hmi] at hq;injection hq with hq
    exact .inl ⟨Z,m,hq.symm,.inl Z⟩
   | none=>
    cases hni:N i with
    | none=>
     have:munion M N i=none:=by unfold munion;rw [hmi];exact hni
     rw [this] at hq;cases hq
    | some m=>
     rw [Ha hmi hni] at hq;injection hq with hq
     exact .inl ⟨Z,m,hq.symm,.inr Z⟩
  ·rw [ϑ e,hd] at hq
   split at hq
   ·cases hq
   ·rename_i e3
    obtain ⟨o2,q1,q2⟩:=c1 _ _ _ hq;obtain ⟨o3,q3,q4⟩:=a1 _ _ _ q1;exact .inr ⟨e,e3,o3,q3,fun w O ρ v h=>q2.1 _ _ _ _ (q4.1 _ _ _ _ h),fun j hr=>Qc (q2.2.1 _ _ hr) Z⟩
 have hold:∀f' i o,hget s.hp f' i=some o ->f'≠f ->f'≠g ->∃o',hget hp' f' i=some o':=fun f' i o hq e1 e2=>by
  obtain ⟨o2,q1,_⟩:=a2 _ _ _ hq;obtain ⟨o3,q3,_⟩:=c2 _ _ _ q1;exact ⟨o3,by rw [hg',ϑ e1,hd,ϑ e2];exact q3⟩
 have holdM:∀i m,M i=some m∨N i=some m ->hget hp' f i=some (m.at_ i):=fun i m h=>by
  rw [hg',θ rfl];rcases h with h | h
  ·rw [Hb h];rfl
  ·cases hmi:M i with
   | some m'=>exact (hdis i _ _ hmi h).elim
   | none=>rw [Ha hmi h];rfl
 have hown:∀b,Az ρ' hp' b↔Az ρ s.hp b:=fun b=>by
  constructor
  ·rintro ⟨f',i,o',hq,hbk⟩;rcases hnew f' i o' hq with ⟨rfl,m,rfl,h | h⟩ | ⟨e1,e2,o,h1,_⟩
   ·rw [hf,hvM i m h] at hbk;obtain ⟨q1,q2⟩:=hgM i m h;exact ⟨f',i,_,q1,by rw [q2];exact hbk⟩
   ·rw [hf,hvN i m h] at hbk;obtain ⟨q1,q2⟩:=hgN i m h;exact ⟨g,i,_,q1,by rw [q2];exact hbk⟩
   ·rw [ho _ _ e1] at hbk;exact ⟨f',i,o,h1,hbk⟩
  ·rintro ⟨f',i,o,hq,hbk⟩
   by_cases e1:f'=f
   ·subst e1;obtain ⟨m,h1,rfl⟩:=hMi i o hq;exact ⟨f',i,_,holdM i m (.inl h1),by rw [hf,hvM i m h1];rw [(hgM i m h1).2] at hbk;exact hbk⟩
   ·by_cases e2:f'=g
    ·subst e2;obtain ⟨m,h1,rfl⟩:=hNi i o hq;exact ⟨f,i,_,holdM i m (.inr h1),by rw [hf,hvN i m h1];rw [(hgN i m h1).2] at hbk;exact hbk⟩
    ·obtain ⟨o',h3⟩:=hold f' i o hq e1 e2;exact ⟨f',i,o',h3,by rw [ho _ _ e1];exact hbk⟩
 have hO:F.O ρ' hp'=F.O ρ s.hp:=funext fun b=>propext ⟨fun h=>h.imp id (hown b).1,fun h=>h.imp id (hown b).2⟩
 have hblk:∀f' i t cs,hget hp' f' i=some (.blk t cs) ->f'≠f:=fun f' i t cs hq e=>by
  rcases hnew f' i _ hq with ⟨_,m,e1,_⟩ | ⟨e1,_⟩
  ·exact Ad.notBlk e1.symm
  ·exact e1 e
 refine ⟨hs.size,hO▸hs.defs,fun t a hta=>?_,?_⟩
 ·show AW w (F.O ρ' hp') _ _ _;rw [hO];rcases BV hE2 hta with rfl | ⟨h3,h4⟩
  ·exact .top
  ·rcases BV hE h3 with rfl | ⟨h5,_⟩
   ·exact .top
   ·exact (hs.env t _ h5).mono (ν _) (fun _ _ _=>rfl) (fun _ _ h=>h) fun f' i hr=>ho f' i fun e=>h4 i (by rw [←e];exact hr)
 ·refine ⟨fun f' i o' hq=>?_,fun f1 i1 f2 i2 o1 o2 b h1 h2 hb1 hb2=>?_,fun b hbk=>hs.heap.mine b ((hown b).1 hbk),hs.heap.os,hs.heap.tape,hs.heap.output,hs.heap.size0,hs.heap.keep,fun f' i b hpin=>?_,hs.heap.drawn⟩
  ·show An w (F.O ρ' hp') _ _ _;rw [hO];rcases hnew f' i o' hq with ⟨rfl,m,rfl,h⟩ | ⟨e1,e2,o,h1,h2,h3⟩
   ·rw [hf]
    have hsm:An w (F.O ρ s.hp) ρ (m.at_ i) (vl i):=by
     rcases h with h | h
     ·obtain ⟨q1,q2⟩:=hgM i m h;rw [hvM i m h,←q2];exact hs.heap.sim _ _ _ q1
     ·obtain ⟨q1,q2⟩:=hgN i m h;rw [hvN i m h,←q2];exact hs.heap.sim _ _ _ q1
    exact hsm.mono (ν _) (fun _ _ _=>rfl) (fun _ _ h=>h) (fun _ _=>rfl) fun f'' i' hr=>(Ad.norefs hr).elim
   ·rw [ho _ _ e1];exact (h2 _ _ _ _ (hs.heap.sim f' i o h1)).mono (ν _) (fun _ _ _=>rfl) (fun _ _ h=>h) (fun _ _=>rfl) fun f'' i' hr=>ho f'' i' fun e=>h3 i' (by rw [←e];exact hr)
  ·rcases hnew f1 i1 o1 h1 with ⟨rfl,m1,rfl,k1⟩ | ⟨e1,e1',q1,k1,_⟩<;>rcases hnew f2 i2 o2 h2 with ⟨rfl,m2,rfl,k2⟩ | ⟨e2,e2',q2,k2,_⟩
   ·rw [hf,hvb] at hb1 hb2;injection hb1 with hb1;injection hb2 with hb2
    exact ⟨Z,Eq.trans hb1 hb2.symm⟩
   ·rw [hf,hvb] at hb1;rw [ho _ _ e2] at hb2
    exfalso
    rcases k1 with k1 | k1
    ·obtain ⟨r1,r2⟩:=hgM i1 m1 k1;exact e2 (hs.heap.inj _ _ _ _ _ _ b k2 r1 hb2 (by rw [r2,Ad.v_blk];exact hb1)).1
    ·obtain ⟨r1,r2⟩:=hgN i1 m1 k1;exact e2' (hs.heap.inj _ _ _ _ _ _ b k2 r1 hb2 (by rw [r2,Ad.v_blk];exact hb1)).1
   ·rw [hf,hvb] at hb2;rw [ho _ _ e1] at hb1
    exfalso
    rcases k2 with k2 | k2
    ·obtain ⟨r1,r2⟩:=hgM i2 m2 k2;exact e1 (hs.heap.inj _ _ _ _ _ _ b k1 r1 hb1 (by rw [r2,Ad.v_blk];exact hb2)).1
    ·obtain ⟨r1,r2⟩:=hgN i2 m2 k2;exact e1' (hs.heap.inj _ _ _ _ _ _ b k1 r1 hb1 (by rw [r2,Ad.v_blk];exact hb2)).1
   ·rw [ho _ _ e1] at hb1;rw [ho _ _ e2] at hb2;exact hs.heap.inj _ _ _ _ _ _ b k1 k2 hb1 hb2
  ·obtain ⟨r1,t,cs,r2⟩:=hs.heap.pins f' i b hpin;have e1:f'≠f:=fun e=>by subst e;obtain ⟨m,_,h2⟩:=hMi i _ r2;exact Ad.notBlk h2.symm
   have e2:f'≠g:=fun e=>by subst e;obtain ⟨m,_,h2⟩:=hNi i _ r2;exact Ad.notBlk h2.symm
   obtain ⟨o2,q1,q2⟩:=a2 _ _ _ r2;obtain ⟨cs2,rfl⟩:=q2.2.2.1 _ _ rfl;obtain ⟨o3,q3,q4⟩:=c2 _ _ _ q1;obtain ⟨cs3,rfl⟩:=q4.2.2.1 _ _ rfl;exact ⟨by rw [ho _ _ e1];exact r1,t,cs3,by rw [hg',ϑ e1,hd,ϑ e2];exact q3⟩
section
variable {P:Program} {F:Fr} {Q:Exit ->AS ->Prop} {c:Code} {ops:Array Oper} {l:List Oper} {n:Nat} {env env1 env':List (Nat×AV)} {hp hp1 hp2 hp3 hp':Hp}
theorem a_merge (g f:Nat) {M N:MF} (hne:Nat.beq g f=false) (hM:hfam hp f=some [.multi M]) (hN:hfam hp g=some [.multi N]) (hE:AZ g env=some env1) (hE2:AZ f env1=some env') (hH:AX g hp=some hp1) (hH2:AX f hp1=some hp2) (hh:CD g hp2=some hp3) (hm:B1 hp3 f (munion M N)=some hp')
  (h:(∀i m m',M i=some m ->N i=some m' ->False) ->Bq P F c Q ⟨n,env',hp'⟩):Bq P F c Q ⟨n,env,hp⟩:=fun ρ act w hs=>by
 obtain ⟨hd,ρ',hs'⟩:=hs.merge g f hne hM hN hE hE2 hH hH2 hh hm;exact h hd ρ' act w hs'
end
section
variable {P:Program} {F:Fr} {s:AS} {d:Nat} {ty T T' E:TypeId} {pos:String} {aft:Array Edge} {g:Option (Nat×Bool)} {at_:Array TypeId} {x:Operand}
def E5 (P:Program) (T:TypeId):Bool:=match P.underlying T with
 | some (.interface _)=>false
 | some _=>true
 | none=>false
theorem F2 {w:World} {v:Value} (h:E5 P T=true):(Instr.makeInterface T v).run P w= .ok (.iface T v) w:=by
 unfold E5 at h
 split at h
 ·cases h
 ·rename_i u hne hu
  unfold Instr.makeInterface;simp only [Sem.run_bind,run_underlying hu,Result.andThen_ok]
  cases u<;>first | rfl | exact absurd rfl (hne _)
 ·cases h
theorem GY {f i:Nat} (hT:E5 P T=true) (hx:s.ev x=some (.ptr f i 0)) (hd:Nat.blt d s.n=true):
  AA P F ⟨some d,.makeInterface T x,ty,pos,aft,g⟩ s d (.ifc T none f i):=
 Cj _ hd fun ρ act w hs=>by
  have hr:=hs.ev hx
  generalize hv:act.eval x=v at hr
  cases hr with
  | @ptr _ _ _ b h=>exact ⟨.iface T (.pointer (some ⟨b,0,none⟩)),by simp [execOp,hv,F2 hT],.ifc (nm:=none) h⟩
theorem Fj {v:Value} (hT:E5 P T=true) (hx:s.ev x=some (.d (.raw v))) (hd:Nat.blt d s.n=true):
  AA P F ⟨some d,.makeInterface T x,ty,pos,aft,g⟩ s d (.d (.raw (.iface T v))):=
 Cj _ hd fun ρ act w hs=>by
  have hr:=hs.raw hx;exact ⟨.iface T v,by simp [execOp,hr,F2 hT],.d (.raw Z)⟩
theorem M9 {w:World} {v:Value} (h:E5 P T=true):(Instr.typeAssert (.iface T v) T' T false).run P w= .ok v w:=by
 unfold E5 at h
 split at h
 ·cases h
 ·rename_i u hne hu
  unfold Instr.typeAssert;simp only [Sem.run_bind,run_underlying hu,Result.andThen_ok]
  cases u<;>first | exact absurd rfl (hne _) | simp
 ·cases h
theorem M0 {v:Value} (hv1:v.oneCell'=true) (hT:E5 P T=true) (hx:s.ev x=some (.d (.raw (.iface T v)))) (hd:Nat.blt d s.n=true):
  AA P F ⟨some d,.typeAssert x T' T false,ty,pos,aft,g⟩ s d (.d (.raw v)):=
 Cj _ hd fun ρ act w hs=>by
  have hr:=hs.raw hx;exact ⟨v,by simp [execOp,hr,M9 hT],.d (.raw hv1)⟩
def JJ (P:Program) (T:TypeId) (name:String) (f:FuncId):Prop:=∀(b:Nat) (w:World),(method (P.types.size+Made.depth) T (.pointer (some ⟨b,0,none⟩)) name).run P w= .ok (f,.pointer (some ⟨b,0,none⟩)) w
theorem UC {f:FuncId} {name:String} (hm:JJ P T name f) {fn:Func} (hf:P.funcs[f]? =some fn) (hname:(fn.name== "runtime.NumGoroutine")=false) (hb:fn.body.isSome=true) {act:Act} {w:World} {xs:List Operand} {b:Nat} {dst:Option Nat} (hv:act.eval x= .iface T (.pointer (some ⟨b,0,none⟩))):
  (execOp act.eval ⟨dst,.call {callee:= .invoke x name,args:=xs.toArray,argTypes:=at_},ty,pos,aft,g⟩).run P w= .ok (.enter f (.pointer (some ⟨b,0,none⟩)::xs.map act.eval).toArray) w:=by
 have hb':¬fn.body=none:=by intro h;rw [h] at hb;cases hb
 have hn':¬fn.name= "runtime.NumGoroutine" :=by simpa using hname
 have hm':=hm b w;have e:(List.map act.eval xs).take xs.length=List.map act.eval xs:=Θ (by simp)
 simp [execOp,resolve,hv,invoke,callMethod,hm',callFunc,hf,hn',hb',e]
def Ut (s:AS) (x:Operand) (T:TypeId) (xs:List Operand):Option (List AV):=match s.ev x with
 | some (.ifc T' none f i)=>if Nat.beq T' T then (match Jz s xs with
  | some l=>some (.ptr f i 0::l)
  | none=>none) else none
 | _=>none
theorem TW {ρ:Nat ->Nat ->Value} {act:Act} {w:World} (hs:SR F s ρ act w) {xs:List Operand} {args:List AV} (h:Ut s x T xs=some args):
  ∃b:Nat,act.eval x= .iface T (.pointer (some ⟨b,0,none⟩))∧(Value.pointer (some ⟨b,0,none⟩)::xs.map act.eval).length=args.length∧∀(i:Nat) a v,args[i]? =some a ->(Value.pointer (some ⟨b,0,none⟩)::xs.map act.eval)[i]? =some v ->AW w (F.O ρ s.hp) ρ a v:=by
 unfold Ut at h
 split at h
 ·rename_i T1 f i hx
  split at h
  ·rename_i hT
   have hT:=ωf hT;subst hT
   split at h
   ·rename_i l hl
    injection h with h;subst h
    obtain ⟨g1,g2⟩:=CM hs hl;have hr:=hs.ev hx
    generalize act.eval x=v at hr⊢
    cases hr with
    | @ifc _ _ _ _ b hb=>
     refine ⟨b,Z,by simp [g1],fun k a v ha hv=>?_⟩
     cases k with
     | zero=>
      rw [List.getElem?_cons_zero] at ha hv;injection ha with ha;injection hv with hv;subst ha hv
      exact .ptr hb
     | succ k=>
      rw [χw] at ha hv;exact g2 k a v ha hv
   ·cases h
  ·cases h
 ·cases h
theorem Wa {f:FuncId} {name:String} {xs:List Operand} {args:List AV} {CH H0:Hp} {r0:AV} (hm:JJ P T name f) (hc:AM P f args CH fun r H'=>r=r0∧H'=H0) (hargs:Ut s x T xs=some args)
  (nm:List Nat) (hfe:By s.hp CH nm) (hcn:AU nm CH=true) {rest0 rest:Hp} {env':List (Nat×AV)} (hr0:CU nm s.hp=some rest0) (hE:Bb (Bk CH nm) s.env=some env') (hH:Bx (Bk CH nm) rest0=some rest)
  (hR1:AU nm H0=true) (hR2:FW nm H0=true) (hR3:r0.ok (Iy nm)=true) (hd:Nat.blt d s.n=true) {hp':Hp} (hhp:some (H0++rest)=some hp'):
  AI P F ⟨some d,.call {callee:= .invoke x name,args:=xs.toArray,argTypes:=at_},ty,pos,aft,g⟩ s ⟨s.n,(d,r0)::env',hp'⟩ (Bk CH nm):=by
 injection hhp with hhp
 subst hhp;intro ρ act w hs;obtain ⟨fn,h1,h2,h3⟩:=hc.1;obtain ⟨b,hv,h4,h5⟩:=TW hs hargs;unfold Oper.wp;rw [UC hm h1 h2 h3 hv,Oper.upon_enter];refine (El hs hc h4 h5 nm hfe hcn hr0 hE hH (fun r H' ⟨e1,e2⟩=>by subst e1 e2;exact ⟨hR1,hR2,hR3⟩)).mono fun e w' ⟨v,r,H',ρ'',e1,⟨e2,e3⟩,hrep,hsr,hk⟩=>?_;subst e1 e2 e3;exact ⟨ρ'',hsr.put (IB hd) hrep,hk⟩
end
end Go.Proofs.YteifpcnphnhaoaaGreat
namespace Go.Proofs.YteifpcnphnhaoaaGreat
def nth (l:List Nat) (i:Nat):Nat:=l.getD i 0
theorem Nt {l:List Nat} {i:Nat} (h:i<l.length):nth l i=l[i]:=by simp [nth,h]
theorem Rv {l:List Nat} {i:Nat} (h:i<l.length):l[i]? =some (nth l i):=by rw [Nt h,ω h]
theorem Cs {l:List Nat} {i:Nat} (h:i<l.length):nth l i∈l:=by rw [Nt h];exact κ h
def IG (l:List Nat) (i j:Nat):List Nat:=(l.set i (nth l j)).set j (nth l i)
theorem Ii (l:List Nat) (i j:Nat):(IG l i j).length=l.length:=by simp [IG]
theorem G8 {l:List Nat} {i k x:Nat} (hi:i<l.length):nth (l.set i x) k=if k=i then x else nth l k:=by
 unfold nth;rw [ϖ,ϖ,χo]
 by_cases e:i=k
 ·subst e;simp [hi]
 ·rw [ϑ e,ϑ fun h=>e h.symm]
theorem C8 {l:List Nat} {i j k:Nat} (hi:i<l.length) (hj:j<l.length):nth (IG l i j) k=if k=j then nth l i else if k=i then nth l j else nth l k:=by
 unfold IG;rw [G8 (by simpa using hj),G8 hi]
theorem DR {l:List Nat} {i j:Nat} (hi:i<l.length) (hj:j<l.length):(IG l i j).Perm l:=by
 refine List.perm_iff_count.2 fun a=>?_;unfold IG;rw [List.count_set (by simpa using hj),List.count_set hi];rw [Nt hi,Nt hj,List.getElem_set];have h1:0<l.count l[i]:=List.count_pos_iff.2 (κ hi);have h2:0<l.count l[j]:=List.count_pos_iff.2 (κ hj)
 by_cases e:i=j
 ·subst e
  by_cases e2:l[i]=a
  ·subst e2;simp<;>omega
  ·simp [e2]
 ·simp only [ϑ e,beq_iff_eq]
  by_cases e2:l[i]=a<;>by_cases e3:l[j]=a
  ·subst e2;simp [e3]<;>omega
  ·subst e2;simp [e3]<;>omega
  ·subst e3;simp [e2]<;>omega
  ·simp [e2,e3]
def KM (K:Nat ->Nat) (l:List Nat):Prop:=∀i,0<i ->i<l.length ->K (nth l ((i - 1) / 2))≤K (nth l i)
theorem bO {K:Nat ->Nat} {l:List Nat} (h:KM K l):∀i,i<l.length ->K (nth l 0)≤K (nth l i):=by
 intro i
 induction i using Nat.strongRecOn with
 | ind i ih=>
  intro hi
  by_cases h0:i=0
  ·subst h0;exact ν _
  ·exact ωe (ih ((i - 1) / 2) (by omega) (by omega)) (h i (by omega) hi)
def Qy (K:Nat ->Nat):Nat ->List Nat ->Nat ->List Nat
 | 0,l,_=>l
 | f+1,l,j=>if j=0 then l else if K (nth l j)<K (nth l ((j - 1) / 2)) then Qy K f (IG l ((j - 1) / 2) j) ((j - 1) / 2) else l
def Li (K:Nat ->Nat) (n:Nat):Nat ->List Nat ->Nat ->List Nat
 | 0,l,_=>l
 | f+1,l,i=>if n≤2*i+1 then l else
  let j:=if 2*i+2<n∧K (nth l (2*i+2))<K (nth l (2*i+1)) then 2*i+2 else 2*i+1
  if K (nth l j)<K (nth l i) then Li K n f (IG l i j) j else l
theorem Qw (K:Nat ->Nat):∀(f:Nat) (l:List Nat) (j:Nat),j<l.length ->(Qy K f l j).Perm l
 | 0,l,_,_=> .refl _
 | f+1,l,j,hj=>by
  unfold Qy
  split
  ·exact .refl _
  ·split
   ·exact (Qw K f _ _ (by rw [Ii];omega)).trans (DR (by omega) hj)
   ·exact .refl _
theorem KC (K:Nat ->Nat) (n:Nat):∀(f:Nat) (l:List Nat) (i:Nat),i<l.length ->n≤l.length ->(Li K n f l i).Perm l
 | 0,l,_,_,_=> .refl _
 | f+1,l,i,hi,hn=>by
  unfold Li
  split
  ·exact .refl _
  ·dsimp only
   split
   ·split
    ·rename_i h1 h2 h3;exact (KC K n f _ _ (by rw [Ii];omega) (by rw [Ii];exact hn)).trans (DR hi (by omega))
    ·exact .refl _
   ·split
    ·exact (KC K n f _ _ (by rw [Ii];omega) (by rw [Ii];exact hn)).trans (DR hi (by omega))
    ·exact .refl _
def HeapU (K:Nat ->Nat) (l:List Nat) (j:Nat):Prop:=
 (∀i,0<i ->i<l.length ->i≠j ->K (nth l ((i - 1) / 2))≤K (nth l i))∧(0<j ->∀i,0<i ->i<l.length ->(i - 1) / 2=j ->K (nth l ((j - 1) / 2))≤K (nth l i))
theorem Qx (K:Nat ->Nat):∀(f:Nat) (l:List Nat) (j:Nat),j≤f ->j<l.length ->HeapU K l j ->KM K (Qy K f l j)
 | 0,l,j,hf,hj,h=>fun i h0 hi=>h.1 i h0 hi (by omega)
 | f+1,l,j,hf,hj,h=>by
  unfold Qy
  split
  ·rename_i e;subst e;exact fun i h0 hi=>h.1 i h0 hi (by omega)
  ·rename_i hj0
   split
   ·rename_i hlt
    refine Qx K f _ _ (by omega) (by rw [Ii];omega) ⟨fun i h0 hi hne=>?_,fun hp i h0 hi hpi=>?_⟩
    ·rw [Ii] at hi;rw [C8 (by omega) hj,C8 (by omega) hj,ϑ (show ¬i=(j - 1) / 2 from hne)]
     by_cases e1:i=j
     ·subst e1;rw [ϑ (by omega),θ Z,θ rfl];exact Nat.le_of_lt hlt
     ·rw [ϑ e1]
      by_cases e2:(i - 1) / 2=j
      ·rw [θ e2];exact h.2 (by omega) i h0 hi e2
      ·rw [ϑ e2]
       by_cases e3:(i - 1) / 2=(j - 1) / 2
       ·rw [θ e3];have:=h.1 i h0 hi e1;rw [e3] at this;omega
       ·rw [ϑ e3];exact h.1 i h0 hi e1
    ·rw [Ii] at hi;rw [C8 (by omega) hj,C8 (by omega) hj,ϑ (by omega),ϑ (by omega)];have hq:=h.1 ((j - 1) / 2) hp (by omega) (by omega)
     by_cases e1:i=j
     ·subst e1;rw [θ rfl];exact hq
     ·rw [ϑ e1,ϑ (by omega)];have:=h.1 i h0 hi e1;rw [hpi] at this;omega
   ·rename_i hge
    intro i h0 hi
    by_cases e:i=j
    ·subst e;omega
    ·exact h.1 i h0 hi e
def HeapD (K:Nat ->Nat) (n:Nat) (l:List Nat) (i:Nat):Prop:=
 (∀k,0<k ->k<n ->(k - 1) / 2≠i ->K (nth l ((k - 1) / 2))≤K (nth l k))∧(0<i ->∀k,0<k ->k<n ->(k - 1) / 2=i ->K (nth l ((i - 1) / 2))≤K (nth l k))
theorem Ss (K:Nat ->Nat) (n:Nat):∀(f:Nat) (l:List Nat) (i:Nat),n≤f+i ->i<l.length ->n≤l.length ->HeapD K n l i→
  ∀k,0<k ->k<n ->K (nth (Li K n f l i) ((k - 1) / 2))≤K (nth (Li K n f l i) k)
 | 0,l,i,hf,hi,hn,h=>fun k h0 hk=>h.1 k h0 hk (by omega)
 | f+1,l,i,hf,hi,hn,h=>by
  unfold Li
  split
  ·exact fun k h0 hk=>h.1 k h0 hk (by omega)
  ·rename_i hlt
   dsimp only
   have key:∀j,(j=2*i+1∨j=2*i+2) ->j<n ->(∀k,0<k ->k<n ->(k - 1) / 2=i ->K (nth l j)≤K (nth l k))→
     ∀k,0<k ->k<n ->K (nth (if K (nth l j)<K (nth l i) then Li K n f (IG l i j) j else l) ((k - 1) / 2))≤K (nth (if K (nth l j)<K (nth l i) then Li K n f (IG l i j) j else l) k):=by
    intro j hj hjn hmin;have hjl:j<l.length:=by omega
    have hpj:(j - 1) / 2=i:=by omega
    split
    ·rename_i hlt2
     refine Ss K n f _ _ (by omega) (by rw [Ii];exact hjl) (by rw [Ii];exact hn) ⟨fun k h0 hk hne=>?_,fun hj0 k h0 hk hpk=>?_⟩
     ·rw [C8 hi hjl,C8 hi hjl,ϑ hne]
      by_cases e1:k=j
      ·subst e1;rw [θ Z,θ hpj];exact Nat.le_of_lt hlt2
      ·rw [ϑ e1]
       by_cases e2:(k - 1) / 2=i
       ·rw [θ e2,ϑ (by omega)];exact hmin k h0 hk e2
       ·rw [ϑ e2]
        by_cases e3:k=i
        ·subst e3;rw [θ rfl];exact h.2 h0 j (by omega) hjn hpj
        ·rw [ϑ e3];exact h.1 k h0 hk e2
     ·rw [C8 hi hjl,C8 hi hjl,ϑ (by omega),θ hpj,ϑ (by omega),ϑ (by omega)];have:=h.1 k h0 hk (by omega);rw [hpk] at this;exact this
    ·rename_i hge
     intro k h0 hk
     by_cases e:(k - 1) / 2=i
     ·rw [e];have:=hmin k h0 hk e;omega
     ·exact h.1 k h0 hk e
   split
   ·rename_i h2
    refine key (2*i+2) (.inr Z) h2.1 fun k h0 hk hp=>?_;rcases (show k=2*i+1∨k=2*i+2 by omega) with rfl | rfl
    ·exact Nat.le_of_lt h2.2
    ·exact ν _
   ·rename_i h2
    refine key (2*i+1) (.inl Z) (by omega) fun k h0 hk hp=>?_;rcases (show k=2*i+1∨k=2*i+2 by omega) with rfl | rfl
    ·exact ν _
    ·exact Nat.le_of_not_lt fun h3=>h2 ⟨hk,h3⟩
theorem Yd (K:Nat ->Nat) (f:Nat) (l:List Nat):Qy K f l 0=l:=by cases f<;>simp [Qy]
theorem Ye {K:Nat ->Nat} {f j:Nat} {l:List Nat} (h:¬K (nth l j)<K (nth l ((j - 1) / 2))):Qy K f l j=l:=by
 cases f with
 | zero=>rfl
 | succ f=>unfold Qy;split<;>first | rfl | exact ϑ h
theorem upF_go {K:Nat ->Nat} {f j:Nat} {l:List Nat} (h0:j≠0) (h:K (nth l j)<K (nth l ((j - 1) / 2))):Qy K (f+1) l j=Qy K f (IG l ((j - 1) / 2) j) ((j - 1) / 2):=by
 rw [Qy,ϑ h0,θ h]
def IZ (K:Nat ->Nat) (n:Nat) (l:List Nat) (i:Nat):Nat:=if 2*i+2<n∧K (nth l (2*i+2))<K (nth l (2*i+1)) then 2*i+2 else 2*i+1
theorem dnJ_lt {K:Nat ->Nat} {n i:Nat} {l:List Nat} (h:¬n≤2*i+1):IZ K n l i<n∧i<IZ K n l i:=by unfold IZ;split<;>omega
theorem dnF_end {K:Nat ->Nat} {n f i:Nat} {l:List Nat} (h:n≤2*i+1):Li K n f l i=l:=by
 cases f with
 | zero=>rfl
 | succ f=>rw [Li,θ h]
theorem N7 {K:Nat ->Nat} {n f i:Nat} {l:List Nat} (h:¬K (nth l (IZ K n l i))<K (nth l i)):Li K n f l i=l:=by
 cases f with
 | zero=>rfl
 | succ f=>
  unfold Li;split<;>first | rfl | exact ϑ h
theorem Ui {K:Nat ->Nat} {n f i:Nat} {l:List Nat} (h0:¬n≤2*i+1) (h:K (nth l (IZ K n l i))<K (nth l i)):Li K n (f+1) l i=Li K n f (IG l i (IZ K n l i)) (IZ K n l i):=by
 rw [Li,ϑ h0];exact θ h
def LT (K:Nat ->Nat) (l:List Nat) (x:Nat):List Nat:=Qy K l.length (l++ [x]) l.length
def HB (K:Nat ->Nat) (l:List Nat):List Nat:=Li K (l.length - 1) (l.length - 1) (IG l 0 (l.length - 1)) 0
def Kn (K:Nat ->Nat) (l:List Nat):List Nat:=(HB K l).take (l.length - 1)
theorem Lw {l m:List Nat} {i:Nat} (h:i<l.length):nth (l++m) i=nth l i:=by
 unfold nth;rw [ϖ,ϖ,ψb h]
theorem Ru {l:List Nat} {n i:Nat} (h:i<n):nth (l.take n) i=nth l i:=by
 unfold nth;rw [ϖ,ϖ,ψf h]
theorem NI (K:Nat ->Nat) (l:List Nat) (x:Nat):(LT K l x).Perm (x::l):=
 (Qw K _ _ _ (by simp)).trans (by simp)
theorem NJ {K:Nat ->Nat} {l:List Nat} (h:KM K l) (x:Nat):KM K (LT K l x):=by
 refine Qx K _ _ _ (ν _) (by simp) ⟨fun i h0 hi hne=>?_,fun h0 i hi0 hi hp=>?_⟩
 ·rw [Δ,Φ] at hi;rw [Lw (by omega),Lw (by omega)];exact h i h0 (by omega)
 ·rw [Δ,Φ] at hi;omega
theorem Gg (K:Nat ->Nat) {l:List Nat} (h:l≠ []):(HB K l).length=l.length:=by
 have h0:0<l.length:=χg.2 h;have:=(KC K (l.length - 1) (l.length - 1) (IG l 0 (l.length - 1)) 0 (by rw [Ii];exact h0) (by rw [Ii];omega)).length_eq;rw [Ii] at this;exact this
theorem Sr (K:Nat ->Nat) (n:Nat):∀(f:Nat) (l:List Nat) (i k:Nat),n≤k ->i<n ->n≤l.length ->nth (Li K n f l i) k=nth l k
 | 0,l,_,_,_,_,_=>rfl
 | f+1,l,i,k,hk,hi,hn=>by
  unfold Li
  split
  ·rfl
  ·dsimp only
   have key:∀j,j<n ->nth (if K (nth l j)<K (nth l i) then Li K n f (IG l i j) j else l) k=nth l k:=by
    intro j hj
    split
    ·rw [Sr K n f _ _ k hk hj (by rw [Ii];exact hn),C8 (by omega) (by omega),ϑ (by omega),ϑ (by omega)]
    ·rfl
   split
   ·rename_i h2;exact key _ h2.1
   ·exact key _ (by omega)
theorem NK (K:Nat ->Nat) {l:List Nat} (h:l≠ []):nth (HB K l) (l.length - 1)=nth l 0:=by
 have h0:0<l.length:=χg.2 h;unfold HB
 by_cases e:l.length - 1=0
 ·rw [e];show nth (IG l 0 0) 0=_;rw [C8 h0 h0,θ rfl]
 ·rw [Sr K _ _ _ _ _ (ν _) (by omega) (by rw [Ii];omega),C8 h0 (by omega),θ rfl]
theorem Xl (K:Nat ->Nat) {l:List Nat} (h:l≠ []):(nth l 0::Kn K l).Perm l:=by
 have h0:0<l.length:=χg.2 h;have h1:(HB K l).Perm l:=(KC K _ _ _ _ (by rw [Ii];exact h0) (by rw [Ii];omega)).trans (DR h0 (by omega));have hl:=Gg K h
 have h2:HB K l=Kn K l++ [nth l 0]:=by
  rw [←NK K h,Nt (by omega)];have:=φa (l.length - 1) (HB K l);rw [χf (by omega),show l.length - 1+1=(HB K l).length by omega,List.drop_length] at this;exact this.symm
 rw [h2] at h1;have h3:(nth l 0::Kn K l).Perm (Kn K l++ [nth l 0]):=by simpa using List.perm_append_comm (l₁:=[nth l 0]) (l₂:=Kn K l)
 exact h3.trans h1
theorem Xm {K:Nat ->Nat} {l:List Nat} (h:KM K l) (hne:l≠ []):KM K (Kn K l):=by
 have h0:0<l.length:=χg.2 hne;intro i hi0 hi;have hl:=Gg K hne;have hn:(Kn K l).length=l.length - 1:=by unfold Kn;rw [Υ,hl];omega
 rw [hn] at hi;unfold Kn;rw [Ru (by omega),Ru hi];refine Ss K (l.length - 1) (l.length - 1) _ _ (by omega) (by rw [Ii];exact h0) (by rw [Ii];omega) ⟨fun k hk0 hk hp=>?_,fun h=>by omega⟩ i hi0 hi;rw [C8 h0 (by omega),C8 h0 (by omega),ϑ (by omega),ϑ hp,ϑ (by omega),ϑ (by omega)];exact h k hk0 (by omega)
inductive Rh (suc:Nat ->List Nat):Nat ->Nat ->Prop
 | refl (a:Nat):Rh suc a a
 | step {a b c:Nat} (h:Rh suc a b) (e:c∈suc b):Rh suc a c
theorem Rh.trans {suc:Nat ->List Nat} {a b c:Nat} (h:Rh suc a b) (h':Rh suc b c):Rh suc a c:=by
 induction h' with
 | refl=>exact h
 | step _ e ih=>exact .step ih e
theorem Rh.one {suc:Nat ->List Nat} {a b:Nat} (e:b∈suc a):Rh suc a b:= .step (.refl a) e
theorem Rh.clos {suc:Nat ->List Nat} {p:Nat ->Prop} (hp:∀v,p v ->∀y∈suc v,p y) {a b:Nat} (h:Rh suc a b) (ha:p a):p b:=by
 induction h with
 | refl=>exact ha
 | step _ e ih=>exact hp _ ih _ e
def At {α:Type} (f:Nat ->α) (i:Nat) (x:α):Nat ->α:=fun j=>if j=i then x else f j
theorem KK {α:Type} (f:Nat ->α) (i:Nat) (x:α):At f i x i=x:=θ rfl
theorem GS {α:Type} {f:Nat ->α} {i j:Nat} {x:α} (h:j≠i):At f i x j=f j:=ϑ h
structure TS where
 idx:Nat ->Nat
 low:Nat ->Nat
 of:Nat ->Int
 st:List Nat
 cs:List (Nat×Nat)
 cnt:Nat
 clk:Nat
structure TI (n:Nat) (suc:Nat ->List Nat) (S:TS) (p:Option Nat):Prop where
 lt:∀v,S.idx v≠0 ->v<n
 ck:∀v,S.idx v≤S.clk
 inj:∀v w,S.idx v≠0 ->S.idx v=S.idx w ->v=w
 st:∀v,v∈S.st↔S.idx v≠0∧S.of v<0
 srt:S.st.Pairwise fun a b=>S.idx a<S.idx b
 ofi:∀v,0≤S.of v ->S.idx v≠0∧S.of v<S.cnt
 csm:∀f∈S.cs,f.1∈S.st
 css:S.cs.Pairwise fun a b=>S.idx a.1<S.idx b.1
 r5:∀f∈S.cs,∀w∈S.st,S.idx f.1≤S.idx w ->Rh suc f.1 w
 r4:∀w∈S.st,∃f∈S.cs,S.idx f.1≤S.idx w∧Rh suc w f.1
 clo:∀v,0≤S.of v ->∀y∈suc v,0≤S.of y
 blk:∀w∈S.st,(∀f∈S.cs,f.1≠w) ->∀y∈suc w,S.idx y≠0
 gry:∀f∈S.cs,f.2≤(suc f.1).length∧∀(i:Nat) y,i<f.2 ->(suc f.1)[i]? =some y ->S.idx y≠0∨p=some y
 lw:∀v∈S.st,S.low v≤S.idx v∧∃y∈S.st,S.low v=S.idx y∧Rh suc v y
 l8:∀f∈S.cs,∀x∈S.st,x≠f.1 ->S.idx f.1≤S.idx x ->(∀f'∈S.cs,S.idx f.1<S.idx f'.1 ->S.idx x<S.idx f'.1) ->∀y∈suc x,y∈S.st ->S.low f.1≤S.idx y
 l8g:∀f∈S.cs,∀(i:Nat) y,i<f.2 ->(suc f.1)[i]? =some y ->y∈S.st ->S.low f.1≤S.idx y
 scc:∀i j,0≤S.of i ->0≤S.of j ->(S.of i=S.of j↔Rh suc i j∧Rh suc j i)
 use:∀c,c<S.cnt ->∃v,S.of v=((c:Nat):Int)
 pnd:∀v,p=some v ->v<n∧S.idx v=0∧∀f∈S.cs,Rh suc f.1 v
 num:S.cnt+S.st.length≤S.clk
 cap:∃vs:List Nat,vs.Nodup∧vs.length=S.clk∧∀v,v∈vs↔S.idx v≠0
theorem Yk {n:Nat} {suc:Nat ->List Nat} {S:TS} {v:Nat} (h:TI n suc S (some v)):
  TI n suc ⟨At S.idx v (S.clk+1),At S.low v (S.clk+1),S.of,S.st++ [v],S.cs++ [(v,0)],S.cnt,S.clk+1⟩ none:=by
 obtain ⟨hvn,hv0,hvr⟩:=h.pnd v rfl;have hne:∀w,S.idx w≠0 ->w≠v:=fun w hw e=>hw (e▸hv0);have hi:∀w,S.idx w≠0 ->At S.idx v (S.clk+1) w=S.idx w:=fun w hw=>GS (hne w hw);have hst:∀w∈S.st,S.idx w≠0:=fun w hw=>((h.st w).1 hw).1;have hsi:∀w∈S.st,At S.idx v (S.clk+1) w=S.idx w:=fun w hw=>hi w (hst w hw);have hci:∀f∈S.cs,At S.idx v (S.clk+1) f.1=S.idx f.1:=fun f hf=>hsi _ (h.csm f hf);have hcv:∀f∈S.cs,f.1≠v:=fun f hf=>hne _ (hst _ (h.csm f hf));have hvs:At S.idx v (S.clk+1) v=S.clk+1:=KK _ _ _
 have hof:S.of v<0:=by
  rcases Int.lt_or_le (S.of v) 0 with h1 | h1
  ·exact h1
  ·exact absurd hv0 (h.ofi v h1).1
 have hlow:∀w,w≠v ->At S.low v (S.clk+1) w=S.low w:=fun w hw=>GS hw;refine ⟨?_,?_,?_,?_,?_,?_,?_,?_,?_,?_,h.clo,?_,?_,?_,?_,?_,h.scc,h.use,(fun _ e=>by cases e),?_,?_⟩<;>(try dsimp only)
 ·intro w hw
  by_cases e:w=v
  ·exact e▸hvn
  ·exact h.lt w (by simpa [GS e] using hw)
 ·intro w;show At S.idx v (S.clk+1) w≤S.clk+1
  by_cases e:w=v
  ·rw [e,hvs];exact ν _
  ·rw [GS e];exact Nat.le_succ_of_le (h.ck w)
 ·intro a b ha hb;have ha':At S.idx v (S.clk+1) a≠0:=ha;have hb':At S.idx v (S.clk+1) a=At S.idx v (S.clk+1) b:=hb
  by_cases e:a=v<;>by_cases e':b=v
  ·rw [e,e']
  ·rw [e,hvs,GS e'] at hb';have:=h.ck b;omega
  ·rw [e',hvs,GS e] at hb';have:=h.ck a;omega
  ·rw [GS e,GS e'] at hb';rw [GS e] at ha';exact h.inj a b ha' hb'
 ·intro w;show w∈S.st++ [v]↔At S.idx v (S.clk+1) w≠0∧S.of w<0
  by_cases e:w=v
  ·rw [e,hvs];simp [hof]
  ·rw [GS e,υ,ξ,←h.st w];simp [e]
 ·show (S.st++ [v]).Pairwise _;rw [List.pairwise_append];refine ⟨h.srt.imp_of_mem fun ha hb hab=>?_,List.pairwise_singleton _ _,fun a ha b hb=>?_⟩
  ·rw [hsi _ ha,hsi _ hb];exact hab
  ·rw [ξ.1 hb,hvs,hsi a ha];exact Nat.lt_succ_of_le (h.ck a)
 ·intro w hw;have h1:=h.ofi w hw;exact ⟨by show At S.idx v (S.clk+1) w≠0;rw [hi w h1.1];exact h1.1,h1.2⟩
 ·intro f hf;rcases υ.1 hf with hf | hf
  ·exact ψn _ (h.csm f hf)
  ·rw [ξ.1 hf];exact ψh _ (ξ.2 Z)
 ·show (S.cs++ [(v,0)]).Pairwise _;rw [List.pairwise_append];refine ⟨h.css.imp_of_mem fun ha hb hab=>?_,List.pairwise_singleton _ _,fun a ha b hb=>?_⟩
  ·rw [hci _ ha,hci _ hb];exact hab
  ·rw [ξ.1 hb];show At S.idx v (S.clk+1) a.1<At S.idx v (S.clk+1) v;rw [hvs,hci a ha];exact Nat.lt_succ_of_le (h.ck _)
 ·intro f hf w hw hfw;have hfw':At S.idx v (S.clk+1) f.1≤At S.idx v (S.clk+1) w:=hfw;rcases υ.1 hf with hf | hf
  ·rcases υ.1 hw with hw | hw
   ·rw [hci f hf,hsi w hw] at hfw';exact h.r5 f hf w hw hfw'
   ·rw [ξ.1 hw];exact hvr f hf
  ·rw [ξ.1 hf] at hfw'⊢;rcases υ.1 hw with hw | hw
   ·have e1:At S.idx v (S.clk+1) ((v,0):Nat×Nat).1=S.clk+1:=hvs;rw [e1,hsi w hw] at hfw';have:=h.ck w;omega
   ·rw [ξ.1 hw];exact .refl v
 ·intro w hw;rcases υ.1 hw with hw | hw
  ·obtain ⟨f,hf,h1,h2⟩:=h.r4 w hw;exact ⟨f,ψn _ hf,by show At S.idx v (S.clk+1) f.1≤At S.idx v (S.clk+1) w;rw [hci f hf,hsi w hw];exact h1,h2⟩
  ·rw [ξ.1 hw];exact ⟨(v,0),ψh _ (ξ.2 Z),ν _,.refl v⟩
 ·intro w hw hnf y hy;show At S.idx v (S.clk+1) y≠0;have hwv:w≠v:=fun e=>hnf (v,0) (ψh _ (ξ.2 Z)) e.symm
  have hw':w∈S.st:=by
   rcases υ.1 hw with hw | hw
   ·exact hw
   ·exact absurd (ξ.1 hw) hwv
  have h1:=h.blk w hw' (fun f hf=>hnf f (ψn _ hf)) y hy;rw [hi y h1];exact h1
 ·intro f hf;rcases υ.1 hf with hf | hf
  ·refine ⟨(h.gry f hf).1,fun i y hik hy=> .inl ?_⟩;show At S.idx v (S.clk+1) y≠0;rcases (h.gry f hf).2 i y hik hy with h1 | h1
   ·rw [hi y h1];exact h1
   ·injection h1 with h1;rw [←h1,hvs];exact Nat.succ_ne_zero _
  ·rw [ξ.1 hf];exact ⟨ς _,fun i y hik=>absurd hik (Nat.not_lt_zero _)⟩
 ·intro w hw;show At S.low v (S.clk+1) w≤At S.idx v (S.clk+1) w∧∃y∈S.st++ [v],At S.low v (S.clk+1) w=At S.idx v (S.clk+1) y∧Rh suc w y
  by_cases e:w=v
  ·rw [e,hvs,KK];exact ⟨ν _,v,ψh _ (ξ.2 Z),hvs.symm,.refl v⟩
  ·have hw':w∈S.st:=by
    rcases υ.1 hw with hw | hw
    ·exact hw
    ·exact absurd (ξ.1 hw) e
   obtain ⟨h1,y,hy,h2,h3⟩:=h.lw w hw';rw [hlow w e,hsi w hw'];exact ⟨h1,y,ψn _ hy,by rw [hsi y hy];exact h2,h3⟩
 ·intro f hf x hx hxf hfx hseg y hy hys;have hfx':At S.idx v (S.clk+1) f.1≤At S.idx v (S.clk+1) x:=hfx;show At S.low v (S.clk+1) f.1≤At S.idx v (S.clk+1) y;rcases υ.1 hf with hf | hf
  ·have hxv:x≠v:=fun e=>by
    have h1:=hseg (v,0) (ψh _ (ξ.2 Z)) (by show At S.idx v (S.clk+1) f.1<At S.idx v (S.clk+1) v;rw [hvs,hci f hf];exact Nat.lt_succ_of_le (h.ck _));rw [e] at h1;exact χx _ h1
   have hx':x∈S.st:=by
    rcases υ.1 hx with hx | hx
    ·exact hx
    ·exact absurd (ξ.1 hx) hxv
   rw [hlow f.1 (hcv f hf)];rcases υ.1 hys with hys | hys
   ·rw [hsi y hys];rw [hci f hf,hsi x hx'] at hfx';refine h.l8 f hf x hx' hxf hfx' (fun f' hf' hlt=>?_) y hy hys;have h1:=hseg f' (ψn _ hf') (by show At S.idx v (S.clk+1) f.1<At S.idx v (S.clk+1) f'.1;rw [hci f hf,hci f' hf'];exact hlt);have h1':At S.idx v (S.clk+1) x<At S.idx v (S.clk+1) f'.1:=h1;rw [hsi x hx',hci f' hf'] at h1';exact h1'
   ·rw [ξ.1 hys,hvs];have:=(h.lw f.1 (h.csm f hf)).1;have:=h.ck f.1;omega
  ·rw [ξ.1 hf] at hfx' hxf
   exfalso
   have e1:At S.idx v (S.clk+1) ((v,0):Nat×Nat).1=S.clk+1:=hvs;rw [e1] at hfx';rcases υ.1 hx with hx | hx
   ·rw [hsi x hx] at hfx';have:=h.ck x;omega
   ·exact hxf (ξ.1 hx)
 ·intro f hf i y hik hy hys;show At S.low v (S.clk+1) f.1≤At S.idx v (S.clk+1) y;rcases υ.1 hf with hf | hf
  ·rw [hlow f.1 (hcv f hf)];rcases υ.1 hys with hys | hys
   ·rw [hsi y hys];exact h.l8g f hf i y hik hy hys
   ·rw [ξ.1 hys,hvs];have:=(h.lw f.1 (h.csm f hf)).1;have:=h.ck f.1;omega
  ·rw [ξ.1 hf] at hik;exact absurd hik (Nat.not_lt_zero _)
 ·have:=h.num;show S.cnt+(S.st++ [v]).length≤S.clk+1;rw [Δ];simp only [Φ];omega
 ·obtain ⟨vs,h1,h2,h3⟩:=h.cap;refine ⟨v::vs,φc.2 ⟨fun hm=>(h3 v).1 hm hv0,h1⟩,by rw [ψo,h2],fun w=>?_⟩;show w∈v::vs↔At S.idx v (S.clk+1) w≠0
  by_cases e:w=v
  ·rw [e,hvs];simp
  ·rw [GS e,Ψ,←h3 w];simp [e]
theorem H5 {α:Type} {R:α ->α ->Prop} {l:List α} {a:α} (h:(l++ [a]).Pairwise R):l.Pairwise R∧∀b∈l,R b a:=by
 rw [List.pairwise_append] at h;exact ⟨h.1,fun b hb=>h.2.2 b hb a (ξ.2 Z)⟩
theorem Tr {n:Nat} {suc:Nat ->List Nat} {S:TS} {cs0:List (Nat×Nat)} {v k j:Nat} (h:TI n suc S none) (hcs:S.cs=cs0++ [(v,k)]) (hj:(suc v)[k]? =some j) (hjn:j<n) {low':Nat ->Nat} {p:Option Nat}
  (hlo:∀w,low' w≤S.low w) (hlw:∀w∈S.st,∃y∈S.st,low' w=S.idx y∧Rh suc w y) (hp:S.idx j≠0∨p=some j) (hp2:∀x,p=some x ->x=j∧S.idx j=0) (hl:j∈S.st ->low' v≤S.idx j):
  TI n suc {S with low:=low',cs:=cs0++ [(v,k+1)]} p:=by
 have hvm:(v,k)∈S.cs:=by rw [hcs];exact ψh _ (ξ.2 Z)
 have hcs0:∀f∈cs0,f∈S.cs:=fun f hf=>by rw [hcs];exact ψn _ hf
 have hc:∀f∈cs0++ [(v,k+1)],∃g∈S.cs,g.1=f.1:=fun f hf=>by
  rcases υ.1 hf with hf | hf
  ·exact ⟨f,hcs0 f hf,Z⟩
  ·rw [ξ.1 hf];exact ⟨_,hvm,Z⟩
 have hc':∀g∈S.cs,∃f∈cs0++ [(v,k+1)],f.1=g.1:=fun g hg=>by
  rw [hcs] at hg;rcases υ.1 hg with hg | hg
  ·exact ⟨g,ψn _ hg,Z⟩
  ·rw [ξ.1 hg];exact ⟨_,ψh _ (ξ.2 Z),Z⟩
 have hmap:(cs0++ [(v,k+1)]).map (·.1)=S.cs.map (·.1):=by rw [hcs];simp
 refine ⟨h.lt,h.ck,h.inj,h.st,h.srt,h.ofi,?_,?_,?_,?_,h.clo,?_,?_,?_,?_,?_,h.scc,h.use,?_,h.num,h.cap⟩<;>(try dsimp only)
 ·intro f hf;obtain ⟨g,hg,e⟩:=hc f hf;rw [←e];exact h.csm g hg
 ·have h1:(S.cs.map (·.1)).Pairwise fun a b=>S.idx a<S.idx b:=ψe.2 h.css;rw [←hmap] at h1;exact (ψe (f:=fun f:Nat×Nat=>f.1) (R:=fun a b=>S.idx a<S.idx b)).1 h1
 ·intro f hf;obtain ⟨g,hg,e⟩:=hc f hf;rw [←e];exact h.r5 g hg
 ·intro w hw;obtain ⟨g,hg,h1,h2⟩:=h.r4 w hw;obtain ⟨f,hf,e⟩:=hc' g hg;exact ⟨f,hf,by rw [e];exact h1,by rw [e];exact h2⟩
 ·intro w hw hnf;refine h.blk w hw fun g hg e=>?_;obtain ⟨f,hf,e'⟩:=hc' g hg;exact hnf f hf (e'.trans e)
 ·intro f hf;rcases υ.1 hf with hf | hf
  ·refine ⟨(h.gry f (hcs0 f hf)).1,fun i y hi hy=>?_⟩;rcases (h.gry f (hcs0 f hf)).2 i y hi hy with h1 | h1
   ·exact .inl h1
   ·cases h1
  ·rw [ξ.1 hf];refine ⟨(χ.1 hj).1,fun i y hi hy=>?_⟩;rcases Nat.lt_or_eq_of_le (Nat.le_of_lt_succ hi) with hi | hi
   ·rcases (h.gry (v,k) hvm).2 i y hi hy with h1 | h1
    ·exact .inl h1
    ·cases h1
   ·subst hi;have hy':(suc v)[i]? =some y:=hy;rw [hj] at hy';injection hy' with e;rw [←e];exact hp
 ·intro w hw;exact ⟨ωe (hlo w) (h.lw w hw).1,hlw w hw⟩
 ·intro f hf x hx hxf hfx hseg y hy hys;obtain ⟨g,hg,e⟩:=hc f hf;rw [←e] at hxf hfx⊢;refine ωe (hlo _) (h.l8 g hg x hx hxf hfx (fun g' hg' hlt=>?_) y hy hys);obtain ⟨f',hf',e'⟩:=hc' g' hg';have:=hseg f' hf' (by rw [e',←e];exact hlt);rw [e'] at this;exact this
 ·intro f hf i y hi hy hys;rcases υ.1 hf with hf | hf
  ·exact ωe (hlo _) (h.l8g f (hcs0 f hf) i y hi hy hys)
  ·rw [ξ.1 hf] at hi hy⊢;rcases Nat.lt_or_eq_of_le (Nat.le_of_lt_succ hi) with hi | hi
   ·exact ωe (hlo _) (h.l8g (v,k) hvm i y hi hy hys)
   ·subst hi;have hy':(suc v)[i]? =some y:=hy;rw [hj] at hy';injection hy' with e;rw [←e] at hys⊢;exact hl hys
 ·intro x hx;obtain ⟨rfl,h0⟩:=hp2 x hx;refine ⟨hjn,h0,fun f hf=>?_⟩;obtain ⟨g,hg,e⟩:=hc f hf;rw [←e];refine .step (h.r5 g hg v (h.csm _ hvm) ?_) (ζ hj);have h2:=h.css;rw [hcs] at hg h2;rcases υ.1 hg with hg | hg
  ·exact Nat.le_of_lt ((H5 h2).2 g hg)
  ·rw [ξ.1 hg];exact ν _
theorem ti_pop1 {n:Nat} {suc:Nat ->List Nat} {S:TS} {cs0:List (Nat×Nat)} {v:Nat} (h:TI n suc S none) (hcs:S.cs=cs0++ [(v,(suc v).length)]) (hlt:S.low v<S.idx v):
  ∃cs1 u k,cs0=cs1++ [(u,k)]∧TI n suc {S with low:=At S.low u (min (S.low u) (S.low v)),cs:=cs0} none:=by
 have hvm:(v,(suc v).length)∈S.cs:=by rw [hcs];exact ψh _ (ξ.2 Z)
 have hvs:=h.csm _ hvm;have hcs0:∀f∈cs0,f∈S.cs:=fun f hf=>by rw [hcs];exact ψn _ hf
 have hcsv:∀f∈S.cs,f∈cs0∨f.1=v:=fun f hf=>by
  rw [hcs] at hf;rcases υ.1 hf with hf | hf
  ·exact .inl hf
  ·rw [ξ.1 hf];exact .inr rfl
 have hcss:=h.css;rw [hcs] at hcss;obtain ⟨hcss0,hcssv⟩:=H5 hcss;obtain ⟨_,y0,hy0,hly0,hry0⟩:=h.lw v hvs
 -- a node that is on its way and lies below v
 have hlow:∃f∈cs0,S.idx f.1≤S.low v∧Rh suc v f.1:=by
  obtain ⟨f,hf,h1,h2⟩:=h.r4 y0 hy0;rcases hcsv f hf with hf' | hf'
  ·exact ⟨f,hf',by omega,hry0.trans h2⟩
  ·rw [hf'] at h1;omega
 have hne:cs0≠ []:=fun e=>by obtain ⟨f,hf,_⟩:=hlow;rw [e] at hf;cases hf
 obtain ⟨cs1,⟨u,k⟩,hcs1⟩:∃cs1 f,cs0=cs1++ [f]:=⟨cs0.dropLast,cs0.getLast hne,(List.dropLast_concat_getLast hne).symm⟩
 have hum:(u,k)∈cs0:=by rw [hcs1];exact ψh _ (ξ.2 Z)
 have huv:S.idx u<S.idx v:=hcssv _ hum;have hus:=h.csm _ (hcs0 _ hum);have hvu:v≠u:=fun e=>by rw [e] at huv;omega
 have hlast:∀f∈cs0,S.idx f.1≤S.idx u:=fun f hf=>by
  rw [hcs1] at hf hcss0;rcases υ.1 hf with hf | hf
  ·exact Nat.le_of_lt ((H5 hcss0).2 f hf)
  ·rw [ξ.1 hf];exact ν _
 have hlo:∀w,At S.low u (min (S.low u) (S.low v)) w≤S.low w:=fun w=>by
  by_cases e:w=u
  ·rw [e,KK];exact Nat.min_le_left _ _
  ·rw [GS e];exact ν _
 have hinju:∀f∈cs0,f.1≠u ->S.idx f.1<S.idx u:=fun f hf e=>by
  have:=hlast f hf;rcases Nat.lt_or_eq_of_le this with h1 | h1
  ·exact h1
  ·exact absurd (h.inj f.1 u ((h.st _).1 (h.csm _ (hcs0 _ hf))).1 h1) e
 refine ⟨cs1,u,k,hcs1,h.lt,h.ck,h.inj,h.st,h.srt,h.ofi,fun f hf=>h.csm f (hcs0 f hf),hcss0,fun f hf=>h.r5 f (hcs0 f hf),?_,h.clo,?_,fun f hf=>h.gry f (hcs0 f hf),?_,?_,?_,h.scc,h.use,(fun _ e=>by cases e),h.num,h.cap⟩<;>(try dsimp only)
 ·intro w hw;obtain ⟨f,hf,h1,h2⟩:=h.r4 w hw;rcases hcsv f hf with hf' | hf'
  ·exact ⟨f,hf',h1,h2⟩
  ·obtain ⟨f',hf'',h3,h4⟩:=hlow;rw [hf'] at h1 h2;exact ⟨f',hf'',by omega,h2.trans h4⟩
 ·intro w hw hnf y hy
  by_cases e:w=v
  ·subst e;obtain ⟨i,hi⟩:=List.getElem?_of_mem hy;rcases (h.gry _ hvm).2 i y (χ.1 hi).1 hi with h1 | h1
   ·exact h1
   ·cases h1
  ·refine h.blk w hw (fun f hf e'=>?_) y hy;rcases hcsv f hf with hf' | hf'
   ·exact hnf f hf' e'
   ·exact e (e'.symm.trans hf')
 ·intro w hw;refine ⟨ωe (hlo w) (h.lw w hw).1,?_⟩
  by_cases e:w=u
  ·rw [e,KK];obtain ⟨_,y,hy,h1,h2⟩:=h.lw u hus;rcases Nat.le_total (S.low u) (S.low v) with hle | hle
   ·rw [Nat.min_eq_left hle];exact ⟨y,hy,h1,h2⟩
   ·rw [Nat.min_eq_right hle];exact ⟨y0,hy0,hly0,(h.r5 _ (hcs0 _ hum) v hvs (Nat.le_of_lt huv)).trans hry0⟩
  ·rw [GS e];exact (h.lw w hw).2
 ·intro f hf x hx hxf hfx hseg y hy hys
  -- x lies in the segment of f, or of v
  by_cases hxv:S.idx v≤S.idx x
  ·have hfu:f.1=u:=by
    rcases Nat.lt_or_eq_of_le (hlast f hf) with h1 | h1
    ·have:=hseg (u,k) hum h1;have:S.idx x<S.idx u:=this;omega
    ·exact h.inj f.1 u ((h.st _).1 (h.csm _ (hcs0 _ hf))).1 h1
   rw [hfu,KK];refine ωe (Nat.min_le_right _ _) ?_
   by_cases e:x=v
   ·subst e;obtain ⟨i,hi⟩:=List.getElem?_of_mem hy;exact h.l8g _ hvm i y (χ.1 hi).1 hi hys
   ·refine h.l8 _ hvm x hx e hxv (fun f' hf' hlt'=>?_) y hy hys
    exfalso
    rcases hcsv f' hf' with h1 | h1
    ·have:=hcssv f' h1;have h2:S.idx v<S.idx f'.1:=hlt';have h3:S.idx f'.1<S.idx v:=this;omega
    ·rw [h1] at hlt';exact χx _ hlt'
  ·refine ωe (hlo _) (h.l8 f (hcs0 f hf) x hx hxf hfx (fun f' hf' hlt'=>?_) y hy hys);rcases hcsv f' hf' with h1 | h1
   ·exact hseg f' h1 hlt'
   ·rw [h1];omega
 ·intro f hf i y hi hy hys;exact ωe (hlo _) (h.l8g f (hcs0 f hf) i y hi hy hys)
theorem Rh.leave {suc:Nat ->List Nat} {p:Nat ->Prop} {a b:Nat} (h:Rh suc a b) (ha:p a) (hb:¬p b):∃x y,p x∧y∈suc x∧¬p y∧Rh suc y b:=by
 induction h with
 | refl=>exact absurd ha hb
 | @step b c h' e ih=>
  by_cases hp:p b
  ·exact ⟨b,c,hp,e,hb,.refl c⟩
  ·obtain ⟨x,y,h1,h2,h3,h4⟩:=ih hp;exact ⟨x,y,h1,h2,h3,h4.step e⟩
theorem ti_pop2 {n:Nat} {suc:Nat ->List Nat} {S:TS} {cs0:List (Nat×Nat)} {v:Nat} {st1 st2:List Nat} (h:TI n suc S none) (hcs:S.cs=cs0++ [(v,(suc v).length)]) (hlt:S.low v=S.idx v) (hst:S.st=st1++v::st2):
  (∀f∈cs0,S.low f.1≤S.low v)∧TI n suc {S with of:=fun x=>if x∈v::st2 then (S.cnt:Int) else S.of x,st:=st1,cs:=cs0,cnt:=S.cnt+1} none:=by
 have hvm:(v,(suc v).length)∈S.cs:=by rw [hcs];exact ψh _ (ξ.2 Z)
 have hvs:=h.csm _ hvm;have hcs0:∀f∈cs0,f∈S.cs:=fun f hf=>by rw [hcs];exact ψn _ hf
 have hcsv:∀f∈S.cs,f∈cs0∨f.1=v:=fun f hf=>by
  rw [hcs] at hf;rcases υ.1 hf with hf | hf
  ·exact .inl hf
  ·rw [ξ.1 hf];exact .inr rfl
 have hcss:=h.css;rw [hcs] at hcss;obtain ⟨hcss0,hcssv⟩:=H5 hcss;have hsrt:=h.srt;rw [hst,List.pairwise_append] at hsrt;obtain ⟨hs1,hs2,hs12⟩:=hsrt
 have hP:∀w,w∈v::st2 ->w∈S.st∧S.idx v≤S.idx w:=fun w hw=>by
  refine ⟨by rw [hst];exact ψh _ hw,?_⟩;rcases Ψ.1 hw with rfl | hw
  ·exact ν _
  ·exact Nat.le_of_lt ((ψy.1 hs2).1 w hw)
 have hQ:∀w,w∈st1 ->w∈S.st∧S.idx w<S.idx v:=fun w hw=>⟨by rw [hst];exact ψn _ hw,hs12 w hw v (ωo ..)⟩
 have hPQ:∀w∈S.st,w∈st1∨w∈v::st2:=fun w hw=>by rw [hst] at hw;exact υ.1 hw
 have hdis:∀w,w∈st1 ->w∉v::st2:=fun w h1 h2=>by have:=(hQ w h1).2;have:=(hP w h2).2;omega
 have hofn:∀w∈S.st,S.of w<0:=fun w hw=>((h.st w).1 hw).2
 have hcs1:∀f∈cs0,f.1∈st1:=fun f hf=>by
  rcases hPQ _ (h.csm f (hcs0 f hf)) with h1 | h1
  ·exact h1
  ·have:=(hP _ h1).2;have h2:S.idx f.1<S.idx v:=hcssv f hf;omega
 -- all nodes of the component reach v
 have hto:∀w∈v::st2,Rh suc w v:=fun w hw=>by
  obtain ⟨f,hf,h1,h2⟩:=h.r4 w (hP w hw).1;rcases hcsv f hf with h3 | h3
  ·exact h2.trans (h.r5 f hf v hvs (Nat.le_of_lt (hcssv f h3)))
  ·rw [h3] at h2;exact h2
 have hfrom:∀w∈v::st2,Rh suc v w:=fun w hw=>h.r5 _ hvm w (hP w hw).1 (hP w hw).2
 -- its successors lie in it, or in components that are known
 have hsucc:∀x∈v::st2,∀y∈suc x,y∈v::st2∨0≤S.of y:=fun x hx y hy=>by
  have hy0:S.idx y≠0:=by
   by_cases e:x=v
   ·subst e;obtain ⟨i,hi⟩:=List.getElem?_of_mem hy;rcases (h.gry _ hvm).2 i y (χ.1 hi).1 hi with h1 | h1
    ·exact h1
    ·cases h1
   ·refine h.blk x (hP x hx).1 (fun f hf e'=>?_) y hy;rcases hcsv f hf with h1 | h1
    ·have h2:S.idx f.1<S.idx v:=hcssv f h1;have:=(hP x hx).2;rw [e'] at h2;omega
    ·exact e (e'.symm.trans h1)
  rcases Int.lt_or_le (S.of y) 0 with h1 | h1
  ·have hys:y∈S.st:=(h.st y).2 ⟨hy0,h1⟩;rcases hPQ y hys with h2 | h2
   ·exfalso
    have h3:=(hQ y h2).2
    have h4:S.low v≤S.idx y:=by
     by_cases e:x=v
     ·subst e;obtain ⟨i,hi⟩:=List.getElem?_of_mem hy;exact h.l8g _ hvm i y (χ.1 hi).1 hi hys
     ·refine h.l8 _ hvm x (hP x hx).1 e (hP x hx).2 (fun f' hf' hlt'=>?_) y hy hys
      exfalso
      rcases hcsv f' hf' with h5 | h5
      ·have h6:S.idx f'.1<S.idx v:=hcssv f' h5;have h7:S.idx v<S.idx f'.1:=hlt';omega
      ·rw [h5] at hlt';exact χx _ hlt'
    omega
   ·exact .inl h2
  ·exact .inr h1
 have hkn:∀a b,0≤S.of a ->Rh suc a b ->0≤S.of b:=fun a b ha hab=>hab.clos h.clo ha;have hnk:∀w∈v::st2,¬0≤S.of w:=fun w hw=>by have:=hofn w (hP w hw).1;omega
 have hcnt:∀w,S.of w≠(S.cnt:Int):=fun w e=>by
  have:=(h.ofi w (by rw [e];exact Int.natCast_nonneg _)).2;omega
 refine ⟨fun f hf=>?_,h.lt,h.ck,h.inj,?_,hs1,?_,hcs1,hcss0,?_,?_,?_,?_,fun f hf=>h.gry f (hcs0 f hf),?_,?_,?_,?_,?_,(fun _ e=>by cases e),?_,h.cap⟩<;>(try dsimp only)
 ·have h1:=(h.lw f.1 (h.csm f (hcs0 f hf))).1;have h2:S.idx f.1<S.idx v:=hcssv f hf;omega
 ·intro w
  constructor
  ·intro hw;rw [ϑ (hdis w hw)];exact (h.st w).1 (hQ w hw).1
  ·rintro ⟨h1,h2⟩
   by_cases hw:w∈v::st2
   ·rw [θ hw] at h2;omega
   ·rw [ϑ hw] at h2;rcases hPQ w ((h.st w).2 ⟨h1,h2⟩) with h3 | h3
    ·exact h3
    ·exact absurd h3 hw
 ·intro w hw
  by_cases hm:w∈v::st2
  ·rw [θ hm];exact ⟨((h.st w).1 (hP w hm).1).1,by omega⟩
  ·rw [ϑ hm] at hw⊢;have:=h.ofi w hw;exact ⟨this.1,by omega⟩
 ·exact fun f hf w hw=>h.r5 f (hcs0 f hf) w (hQ w hw).1
 ·intro w hw;obtain ⟨f,hf,h1,h2⟩:=h.r4 w (hQ w hw).1;rcases hcsv f hf with h3 | h3
  ·exact ⟨f,h3,h1,h2⟩
  ·rw [h3] at h1;have:=(hQ w hw).2;omega
 ·intro w hw y hy
  by_cases hm:w∈v::st2
  ·rcases hsucc w hm y hy with h1 | h1
   ·rw [θ h1];exact Int.natCast_nonneg _
   ·split
    ·exact Int.natCast_nonneg _
    ·exact h1
  ·rw [ϑ hm] at hw
   split
   ·exact Int.natCast_nonneg _
   ·exact h.clo w hw y hy
 ·intro w hw hnf;refine h.blk w (hQ w hw).1 fun f hf e=>?_;rcases hcsv f hf with h1 | h1
  ·exact hnf f h1 e
  ·have:=(hQ w hw).2;rw [←e,h1] at this;omega
 ·intro w hw;obtain ⟨h1,y,hy,h2,h3⟩:=h.lw w (hQ w hw).1;refine ⟨h1,y,?_,h2,h3⟩;rcases hPQ y hy with h4 | h4
  ·exact h4
  ·have:=(hP y h4).2;have:=(hQ w hw).2;omega
 ·intro f hf x hx hxf hfx hseg y hy hys;refine h.l8 f (hcs0 f hf) x (hQ x hx).1 hxf hfx (fun f' hf' hlt'=>?_) y hy (hQ y hys).1;rcases hcsv f' hf' with h1 | h1
  ·exact hseg f' h1 hlt'
  ·rw [h1];exact (hQ x hx).2
 ·intro f hf i y hi hy hys;exact h.l8g f (hcs0 f hf) i y hi hy (hQ y hys).1
 ·intro i j hi hj
  by_cases h1:i∈v::st2<;>by_cases h2:j∈v::st2
  ·rw [θ h1,θ h2];exact ⟨fun _=>⟨(hto i h1).trans (hfrom j h2),(hto j h2).trans (hfrom i h1)⟩,fun _=>rfl⟩
  ·rw [ϑ h2] at hj;rw [θ h1,ϑ h2];exact ⟨fun e=>absurd e.symm (hcnt j),fun e=>absurd (hkn j i hj e.2) (hnk i h1)⟩
  ·rw [ϑ h1] at hi;rw [ϑ h1,θ h2];exact ⟨fun e=>absurd e (hcnt i),fun e=>absurd (hkn i j hi e.1) (hnk j h2)⟩
  ·rw [ϑ h1] at hi;rw [ϑ h2] at hj;rw [ϑ h1,ϑ h2];exact h.scc i j hi hj
 ·intro c hc;rcases Nat.lt_or_eq_of_le (Nat.le_of_lt_succ hc) with h1 | h1
  ·obtain ⟨w,hw⟩:=h.use c h1;refine ⟨w,?_⟩;rw [ϑ (fun hm=>by have:=hofn w (hP w hm).1;omega)];exact hw
  ·exact ⟨v,by rw [θ (ωo ..),h1]⟩
 ·have:=h.num;rw [hst,Δ,ψo] at this;omega
theorem cb {α:Type} [BEq α] [LawfulBEq α] {l m:List α} (h:l.Nodup) (hs:∀x∈l,x∈m):l.length≤m.length:=by
 induction l generalizing m with
 | nil=>exact ς _
 | cons a l ih=>
  obtain ⟨h1,h2⟩:=φc.1 h;have ha:=hs a (ωo ..);have h3:=ih (m:=m.erase a) h2 fun x hx=>(List.mem_erase_of_ne (fun e=>by rw [e] at hx;exact h1 hx:x≠a)).2 (hs x (ωn _ hx));have h4:=List.length_erase_of_mem ha;have h5:0<m.length:=List.length_pos_of_mem ha;rw [ψo];omega
theorem ti_zero (n:Nat) (suc:Nat ->List Nat):TI n suc ⟨fun _=>0,fun _=>0,fun _=> -1,[],[],0,0⟩ none where
 lt:=fun _ h=>absurd Z h
 ck:=fun _=>ν _
 inj:=fun _ _ h=>absurd Z h
 st:=fun v=>by simp
 srt:= .nil
 ofi:=fun _ h=>absurd h (by dsimp only;decide)
 csm:=fun _ h=>by cases h
 css:= .nil
 r5:=fun _ h=>by cases h
 r4:=fun _ h=>by cases h
 clo:=fun _ h=>absurd h (by dsimp only;decide)
 blk:=fun _ h=>by cases h
 gry:=fun _ h=>by cases h
 lw:=fun _ h=>by cases h
 l8:=fun _ h=>by cases h
 l8g:=fun _ h=>by cases h
 scc:=fun _ _ h=>absurd h (by dsimp only;decide)
 use:=fun _ h=>absurd h (Nat.not_lt_zero _)
 pnd:=fun _ e=>by cases e
 num:=ν _
 cap:=⟨[],.nil,Z,fun v=>by simp⟩
theorem ti_root {n:Nat} {suc:Nat ->List Nat} {S:TS} {v:Nat} (h:TI n suc S none) (hcs:S.cs=[]) (hv:v<n) (h0:S.idx v=0):TI n suc S (some v):=
 {h with
  gry:=fun f hf=>by rw [hcs] at hf;cases hf
  pnd:=fun w e=>by injection e with e;subst e;exact ⟨hv,h0,fun f hf=>by rw [hcs] at hf;cases hf⟩}
theorem ti_done {n:Nat} {suc:Nat ->List Nat} {S:TS} {p:Option Nat} (h:TI n suc S p) (hcs:S.cs=[]):S.st=[]:=by
 cases e:S.st with
 | nil=>rfl
 | cons w l=>
  obtain ⟨f,hf,_⟩:=h.r4 w (by rw [e];exact ωo ..);rw [hcs] at hf;cases hf
theorem LJ {n:Nat} {suc:Nat ->List Nat} {S:TS} {p:Option Nat} (h:TI n suc S p):S.clk≤n∧S.cs.length≤S.st.length:=by
 obtain ⟨vs,h1,h2,h3⟩:=h.cap
 constructor
 ·have:=cb (m:=List.range n) h1 fun x hx=>Ξ.2 (h.lt x ((h3 x).1 hx));rw [ωg,h2] at this;exact this
 ·have h4:(S.cs.map (·.1)).Nodup:=by
   refine ψe.2 (h.css.imp fun {a b} hab e=>?_);rw [e] at hab;exact χx _ hab
  have:=cb (m:=S.st) h4 fun x hx=>by
   obtain ⟨f,hf,rfl⟩:=ϱ.1 hx;exact h.csm f hf
  rw [ψ] at this;exact this
structure SccOf (n:Nat) (suc:Nat ->List Nat) (of:Nat ->Nat) (cnt:Nat):Prop where
 lt:∀v,v<n ->of v<cnt
 scc:∀i j,i<n ->j<n ->(of i=of j↔Rh suc i j∧Rh suc j i)
 use:∀c,c<cnt ->∃v,v<n∧of v=c
 le:cnt≤n
theorem Yl {n:Nat} {suc:Nat ->List Nat} {S:TS} {p:Option Nat} (h:TI n suc S p) (hcs:S.cs=[]) (hall:∀v,v<n ->S.idx v≠0):
  SccOf n suc (fun v=>(S.of v).toNat) S.cnt∧∀v,v<n ->S.of v=(((S.of v).toNat:Nat):Int):=by
 have hst:=ti_done h hcs
 have h0:∀v,v<n ->0≤S.of v:=fun v hv=>by
  rcases Int.lt_or_le (S.of v) 0 with h1 | h1
  ·have:=(h.st v).2 ⟨hall v hv,h1⟩;rw [hst] at this;cases this
  ·exact h1
 refine ⟨⟨fun v hv=>?_,fun i j hi hj=>?_,fun c hc=>?_,?_⟩,fun v hv=>(Int.toNat_of_nonneg (h0 v hv)).symm⟩
 ·have:=(h.ofi v (h0 v hv)).2;have:=h0 v hv;omega
 ·rw [←h.scc i j (h0 i hi) (h0 j hj)];have:=h0 i hi;have:=h0 j hj;omega
 ·obtain ⟨v,hv⟩:=h.use c hc;refine ⟨v,h.lt v (h.ofi v (by omega)).1,by omega⟩
 ·have:=h.num;have:=(LJ h).1;omega
end Go.Proofs.YteifpcnphnhaoaaGreat
