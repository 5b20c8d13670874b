/- maps.clone, for which the model stands in. No program in sight. -/
import Derived.Test.YtlmedakidpaeeaaGreatMg11
import Derived.MapKept
namespace Go.Proofs.YtlmedakidpaeeaaGreat
open Go.RowKit
section
variable {P:Program} {F:Fr} {Q:Exit ->AS ->Prop} {ops:Array Oper} {rest:List Oper} {n:Nat} {env env1:List (Nat×AV)} {hp hp1 hp':Hp}
theorem KB {fx:FuncId} {fn:Func} {T:TypeId} {r:Nat} {arr:Array MapEntry} {c:Nat} {act:Act} {w:World} {x:Operand} {dst:Option Nat} {at_:Array TypeId} {ty:TypeId} {pos:String} {aft:Array Edge} {g:Option (Nat×Bool)} (hf:P.funcs[fx]? =some fn) (hname:(fn.name== "runtime.NumGoroutine")=false) (hb:fn.body=none) (hnx:Extern.findNext fn=none) (hfd:Extern.find fn=some Extern.MapsClone.clone)
  (hx:act.eval x= .iface T (.map (some r))) (hr:w.heap[r]? =some (.map arr c)):
  (execOp act.eval (⟨dst,.call {callee:= .value (.func fx),args:= #[x],argTypes:=at_},ty,pos,aft,g⟩:Oper)).run P w= .ok (.value (.iface T (.map (some w.heap.size)))) (w.alloc (.map arr c)):=by
 have hn':¬fn.name= "runtime.NumGoroutine" :=by simpa using hname
 obtain ⟨e1,e⟩:∃ e1,Extern.MapsClone.clone #[.iface T (.map (some r))]=(getObj r>>=fun o=>match o with
   | .map entries clock=>(newObj (.map entries clock)>>=fun n=>pure (.iface T (.map (some n))))
   | _=>stuck e1):=⟨_,rfl⟩
 have e2:(Extern.MapsClone.clone #[.iface T (.map (some r))]).run P w= .ok (.iface T (.map (some w.heap.size))) (w.alloc (.map arr c)):=by
  rw [e]
  simp [MapKept.run_getObj_map hr,Result.andThen]
 have hfv:act.eval (.func fx)= .func (.func fx) #[] #[]:=rfl
 simp [execOp,resolve,hfv,hx,Deferred.ofValue,invoke,callFunc,hf,hn',hb,hnx,hfd,e2]
theorem o_clone (g:Nat) {f r fx d7 d8:Nat} {fn:Func} {M:MF} {T T':TypeId} {bs:Option (List Nat×Nat)} {es:List (D×D)} {x:Operand} {at_:Array TypeId} {ty ty2:TypeId} {pos pos2:String} {aft aft2:Array Edge} (hf:P.funcs[fx]? =some fn) (hname:(fn.name== "runtime.NumGoroutine")=false) (hb:fn.body=none) (hnx:Extern.findNext fn=none) (hfd:Extern.find fn=some Extern.MapsClone.clone)
  (hx:AS.ev ⟨n,env,hp⟩ x=some (.d (.raw (.iface T (mV r))))) (hM:hfam hp f=some [.multi M]) (hr:M r=some (.map bs es)) (hE:AO g env=some env1) (hH:AN g hp=some hp1) (hn:CE hp1 g (.map none es)=some hp') (hT:Dt P T=true) (h7:Nat.blt d7 n=true) (h8:Nat.blt d8 n=true)
  (h:As P F ops rest Q ⟨n,(d8,.map g 0)::(d7,.top)::env1,hp'⟩):
  As P F ops (⟨some d7,.call {callee:= .value (.func fx),args:= #[x],argTypes:=at_},ty,pos,aft,none⟩::⟨some d8,.typeAssert (.tmp d7) T' T false,ty2,pos2,aft2,none⟩::rest) Q ⟨n,env,hp⟩:=fun ρ act w hs=>by
 have hxv:=hs.raw hx;have ho:hget hp f r=some ((A7.map bs es).at_ r):=by rw [ES hM,hr];rfl
 obtain ⟨mb,arr,c,e2,k1,k2,k3,k4,k5,_⟩:=(hs.heap.sim f r _ ho).mapO rfl
 have em:mb=r:=by
  have hv:ρ f r=mV r:=A7.valE hs hM hr;rw [hv] at e2;injection e2 with e2;injection e2 with e2;exact e2.symm
 subst em;have hlt7:=Fs h7
 have hsr:=hs.new g (.map none es) (.map (some w.heap.size)) (.map arr c) hE hH hn rfl (fun hrep=>⟨w.heap.size,arr,c,rfl,heap_alloc_new w _,k2,fun i e x he hx=>by
  obtain ⟨g1,g2⟩:=k3 i e x he hx;have q1:=hrep (.d _) _ (fun i hh=>by cases hh) (.d g1);have q2:=hrep (.d _) _ (fun i hh=>by cases hh) (.d g2)
  exact ⟨by cases q1 with | d h=>exact h,by cases q2 with | d h=>exact h⟩,k4,k5,fun B c' e=>by cases e⟩)
 have hsr2:=(hsr.put hlt7 (a:= .top) (v:= .iface T (.map (some w.heap.size))) .top).put (Fs h8) (a:= .map g 0) (v:= .map (some w.heap.size)) (.map Jp);refine wpListIn_plain rfl fun K1 hK1=>Ch rfl ?_;unfold Oper.wp;rw [KB hf hname hb hnx hfd hxv k1];refine hK1 _ _ (wpListIn_plain rfl fun K2 hK2=>Ch rfl ?_);unfold Oper.wp
 have hk:(act.put (some d7) (.iface T (.map (some w.heap.size)))).eval (.tmp d7)= .iface T (.map (some w.heap.size)):=by
  have hsz:d7<act.tmps.size:=by rw [hs.size];exact hlt7
  show (act.tmps.setIfInBounds d7 _).getD d7 undef=_
  simp [Array.getD,hsz]
 rw [show (execOp (act.put (some d7) (.iface T (.map (some w.heap.size)))).eval (⟨some d8,.typeAssert (.tmp d7) T' T false,ty2,pos2,aft2,none⟩:Oper)).run P (w.alloc (.map arr c))= .ok (.value (.map (some w.heap.size))) (w.alloc (.map arr c)) by simp [execOp,hk,JJ hT]];exact hK2 _ _ (h _ _ _ hsr2)
end
theorem SR.free {F:Fr} {s:AS} {ρ:Nat ->Nat ->Value} {act:Act} {w:World} (h:SR F s ρ act w) (f:Nat) (v:Value) {env':List (Nat×AV)} {hp1:Hp} (hE:AO f s.env=some env') (hH:AN f s.hp=some hp1) (hz:hfam hp1 f=none):SR F ⟨s.n,env',hp1⟩ (Da ρ f 0 v) act w:=by
 obtain ⟨k1,k2⟩:=A9 hH;have hne:∀g i o',hget hp1 g i=some o' ->g≠f:=fun g i o' ho e=>by subst e;simp [hget,hz] at ho
 have hne2:∀g i o,hget s.hp g i=some o ->g≠f:=fun g i o ho=>let ⟨o',h1,_⟩:=k2 g i o ho;hne g i o' h1;have hu:∀g i,g≠f ->Da ρ f 0 v g i=ρ g i:=fun g i e=>I0 fun e2=>e e2.1
 have hO:∀b,F.O (Da ρ f 0 v) hp1 b ->F.O ρ s.hp b:=fun b hb=>hb.imp id fun ⟨g,i,o',h1,h2⟩=>by
  obtain ⟨o,h3,_⟩:=k1 g i o' h1;exact ⟨g,i,o,h3,by rw [←hu g i (hne g i o' h1)];exact h2⟩
 refine ⟨h.size,h.defs.mono (Nat.le_refl _) (fun _ _ _=>rfl) (fun b _=>hO b),fun t a ha=>?_,⟨fun g i o' ho=>?_,fun g i g' i' o o' b ho ho' hb hb'=>?_,fun b ⟨g,i,o',h1,h2⟩=>?_,h.heap.os,h.heap.tape,h.heap.output,h.heap.size0,h.heap.keep,fun g i b hp=>?_,h.heap.drawn⟩⟩
 ·rcases Ax hE ha with rfl | ⟨h1,h2⟩
  ·exact .top
  ·exact (h.env t a h1).mono (Nat.le_refl _) (fun _ _ _=>rfl) (fun b _=>hO b) fun g i hr=>hu g i fun e=>by subst e;exact h2 i hr
 ·obtain ⟨o,h1,h2⟩:=k1 g i o' ho;rw [hu g i (hne g i o' ho)];exact (h2.1 _ _ _ _ (h.heap.sim g i o h1)).mono (Nat.le_refl _) (fun _ _ _=>rfl) (fun b _=>hO b) (fun _ _=>rfl) fun g' i' hr=>hu g' i' (Lt (h2.2.1 g' i' hr))
 ·rw [hu _ _ (hne _ _ _ ho)] at hb;rw [hu _ _ (hne _ _ _ ho')] at hb';obtain ⟨o1,h1,_⟩:=k1 _ _ _ ho;obtain ⟨o2,h2,_⟩:=k1 _ _ _ ho';exact h.heap.inj g i g' i' o1 o2 b h1 h2 hb hb'
 ·obtain ⟨o,h3,_⟩:=k1 g i o' h1;exact h.heap.mine b ⟨g,i,o,h3,by rw [←hu g i (hne g i o' h1)];exact h2⟩
 ·obtain ⟨a1,t,cs,a2⟩:=h.heap.pins g i b hp;obtain ⟨o',a3,_,_,a4,_⟩:=k2 _ _ _ a2;obtain ⟨cs',rfl⟩:=a4 t cs rfl;exact ⟨by rw [hu g i (hne2 g i _ a2)];exact a1,t,cs',a3⟩
theorem SR.alias {F:Fr} {s:AS} {ρ:Nat ->Nat ->Value} {act:Act} {w:World} (h:SR F s ρ act w) (k f g g2:Nat) {M:MF} {m c:Nat} {bs:Option (List Nat×Nat)} {es:List (D×D)} {seen:List Nat} {env1 env':List (Nat×AV)} {hp1 hp2 hp3 hp':Hp} (hM:hfam s.hp f=some [.multi M]) (hm:M m=some (.map bs es))
  (hE:AO g s.env=some env1) (hH:AN g s.hp=some hp1) (hz:hfam hp1 g=none) (hi:hget hp1 k 0=some (.iter f m c seen)) (hfg:Nat.beq f g=false) (hs2:Ay hp1 k 0 (.iter g 0 c seen)=some hp2) (hne:Nat.beq g g2=false) (hE2:AO g2 env1=some env') (hH2:AN g2 hp2=some hp3) (hn:CE hp3 g2 (.addr g 0 (mV m))=some hp'):
  ∃ρ',SR F ⟨s.n,env',hp'⟩ ρ' act w:=by
 have hv:ρ f m=mV m:=A7.valE h hM hm;have h1:=h.free g (mV m) hE hH hz;have hg:Da ρ g 0 (mV m) g 0=mV m:=Jp
 have h2:=h1.write k 0 _ (.iter g 0 c seen) hi (Ah hs2) Z Z Z Z (fun _ _=>rfl) (fun _ _ e=>by cases e) fun _=>by
  obtain ⟨r,m',sn,e1,e2,e3,e4⟩:=h1.heap.sim k 0 _ hi;rw [I0 (fun e=>Nat.ne_of_beq_eq_false hfg e.1),hv] at e2;injection e2 with e2;injection e2 with e2;subst e2
  exact ⟨r,m,sn,e1,hg,e3,e4⟩
 exact ⟨_,h2.ghost g2 g 0 hne hE2 hH2 (by rw [hg];exact hn)⟩
theorem SR.unalias {F:Fr} {s:AS} {ρ:Nat ->Nat ->Value} {act:Act} {w:World} (h:SR F s ρ act w) (k f g g2:Nat) {M:MF} {m c:Nat} {bs:Option (List Nat×Nat)} {es:List (D×D)} {seen:List Nat} {env':List (Nat×AV)} {hp1 hp2 hp':Hp} (hM:hfam s.hp f=some [.multi M]) (hm:M m=some (.map bs es))
  (hi:hget s.hp k 0=some (.iter g 0 c seen)) (ha:hfam s.hp g2=some [.addr g 0 (mV m)]) (hs2:Ay s.hp k 0 (.iter f m c seen)=some hp1) (hk:Nat.beq k g2=false) (hE:AO g2 s.env=some env') (hH:AN g2 hp1=some hp2) (hh:B8 g2 hp2=some hp'):∃ρ',SR F ⟨s.n,env',hp'⟩ ρ' act w:=by
 have hv:ρ f m=mV m:=A7.valE h hM hm;have ha0:hget s.hp g2 0=some (.addr g 0 (mV m)):=by unfold hget;rw [ha];rfl
 have hg:ρ g 0=mV m:=(h.heap.sim g2 0 _ ha0).2
 have h2:=h.write k 0 _ (.iter f m c seen) hi (Ah hs2) Z Z Z Z (fun _ _=>rfl) (fun _ _ e=>by cases e) fun _=>by
  obtain ⟨r,m',sn,e1,e2,e3,e4⟩:=h.heap.sim k 0 _ hi;rw [hg] at e2;injection e2 with e2;injection e2 with e2;subst e2
  exact ⟨r,m,sn,e1,hv,e3,e4⟩
 refine ⟨ρ,(h2.forget g2 hE hH hh fun i t cs e=>?_).1⟩;rw [Ah hs2,if_neg (fun e=>Nat.ne_of_beq_eq_false hk e.1.symm)] at e;unfold hget at e;rw [ha] at e
 cases i with
 | zero=>cases e
 | succ i=>simp [gl,isM] at e
section
variable {P:Program} {F:Fr} {Q:Exit ->AS ->Prop} {c:Code} {ops:Array Oper} {l:List Oper} {n:Nat} {env env1 env':List (Nat×AV)} {hp hp1 hp2 hp3 hp':Hp} {M:MF} {m cc:Nat} {bs:Option (List Nat×Nat)} {es:List (D×D)} {seen:List Nat}
theorem a_alias (k f g g2:Nat) (hM:hfam hp f=some [.multi M]) (hm:M m=some (.map bs es)) (hE:AO g env=some env1) (hH:AN g hp=some hp1) (hz:hfam hp1 g=none) (hi:hget hp1 k 0=some (.iter f m cc seen)) (hfg:Nat.beq f g=false) (hs2:Ay hp1 k 0 (.iter g 0 cc seen)=some hp2) (hne:Nat.beq g g2=false) (hE2:AO g2 env1=some env') (hH2:AN g2 hp2=some hp3) (hn:CE hp3 g2 (.addr g 0 (mV m))=some hp')
  (h:B9 P F c Q ⟨n,env',hp'⟩):B9 P F c Q ⟨n,env,hp⟩:=fun ρ act w hs=>by
 obtain ⟨ρ',h1⟩:=hs.alias k f g g2 hM hm hE hH hz hi hfg hs2 hne hE2 hH2 hn;exact h ρ' act w h1
theorem Pj (k f g g2:Nat) (hM:hfam hp f=some [.multi M]) (hm:M m=some (.map bs es)) (hi:hget hp k 0=some (.iter g 0 cc seen)) (ha:hfam hp g2=some [.addr g 0 (mV m)]) (hs2:Ay hp k 0 (.iter f m cc seen)=some hp1) (hk:Nat.beq k g2=false) (hE:AO g2 env=some env') (hH:AN g2 hp1=some hp2) (hh:B8 g2 hp2=some hp')
  (h:As P F ops l Q ⟨n,env',hp'⟩):As P F ops l Q ⟨n,env,hp⟩:=fun ρ act w hs=>by
 obtain ⟨ρ',h1⟩:=hs.unalias k f g g2 hM hm hi ha hs2 hk hE hH hh;exact h ρ' act w h1
end
end Go.Proofs.YtlmedakidpaeeaaGreat
