/- A nil slice in a variable's cell is an empty row of one's own. No program in sight. -/
import Derived.Test.YtgdppeobgefogaaMg7
import Derived.Laws.Cover3
namespace Go.Proofs.Ytgdppeobgefogaa
open Go.RowKit

theorem SR.adoptC {P : Program} {F : Fr} {s : AS} {ρ : Nat → Nat → Value} {act : Act} {w : World} (h : SR F s ρ act w) (g i off f : Nat) {T E t : TypeId} {kk by_ : Nat} (_S : SlTy P T E kk by_) {cs cs' : List AV} {env' : List (Nat × AV)} {hp1 hp2 hp' : List (Nat × List AObj)}
    (hE : killE? f s.env = some env') (hH : killH? f s.hp = some hp1) (hh : hnew? hp1 f (.rowD E kk []) = some hp2) (ho : hget hp2 g i = some (.blk t cs)) (hc : cs[off]? = some (.d (.sl (some true) []))) (hs' : setL? cs off [.own f 0 0] = some cs') (hset : hset? hp2 g i (.blk t cs') = some hp') :
    SR F ⟨s.n, env', hp'⟩ (upd ρ f 0 (.slice none 0 0)) act w := by
  obtain ⟨h1, h2⟩ := hnew?_spec hh;have hsr := h.set f 0 (.rowD E kk []) (.slice none 0 0) hE hH h1 (fun t cs e => by obtain ⟨o, ho, _⟩ := (killH?_spec hH).2 _ _ _ e; rw [h2] at ho; cases ho) (fun b hb => by cases hb) rfl rfl rfl (Nat.le_refl _) (fun _ _ _ => rfl) (fun _ => ⟨[], World.ownsRow_nil w 0 E kk, ⟨by simp, by simp, fun i x hx => by simp at hx⟩, by simp⟩);refine hsr.write g i _ (.blk t cs') ho (hset?_spec hset) rfl rfl rfl rfl (fun _ _ => rfl) (fun _ _ _ => ⟨_, _, rfl⟩) (fun hrep => ?_);obtain ⟨b, us, e1, e2, e3, e4, e5⟩ := hsr.heap.sim g i _ ho;obtain ⟨s1, s2, s3⟩ := setL?_spec _ _ _ _ hs';refine ⟨b, us, e1, e2, by rw [e3, s2], fun j c u hcj hu => ?_, e5⟩;rw [s3] at hcj
  split at hcj
  · rename_i hj
    have hjo : j = off := by simp at hj; omega
    subst hjo
    simp at hcj; subst hcj
    have hr := e4 j _ u hc hu
    cases hr with
    | d hr =>
      cases hr with
      | @sl _ _ a n cap k hn hz hln hcc hm hk ha hp =>
        have ha' : a = none := by simpa using hn true rfl
        subst ha';have hcap := hz rfl
        simp at hln
        subst hcap hln;exact .own Zbv (Nat.le_refl _)
  · exact hrep _ _ (e4 j c u hcj hu)
section
variable {P : Program} {F : Fr} {Q : Exit → AS → Prop} {s : AS} {c : Code} {ops : Array Oper} {l : List Oper}
theorem a_adoptC {sn : Nat} {env : List (Nat × AV)} {hp : List (Nat × List AObj)} (g i off f : Nat) {T E t : TypeId} {kk by_ : Nat} (S : SlTy P T E kk by_) {cs cs' : List AV} {env' : List (Nat × AV)} {hp1 hp2 hp' : List (Nat × List AObj)}
    (hE : killE? f env = some env') (hH : killH? f hp = some hp1) (hh : hnew? hp1 f (.rowD E kk []) = some hp2) (ho : hget hp2 g i = some (.blk t cs)) (hc : cs[off]? = some (.d (.sl (some true) []))) (hs' : setL? cs off [.own f 0 0] = some cs') (hset : hset? hp2 g i (.blk t cs') = some hp') (h : Awp P F c Q ⟨sn, env', hp'⟩) : Awp P F c Q ⟨sn, env, hp⟩ := fun _ _ _ hs => h _ _ _ (hs.adoptC g i off f S hE hH hh ho hc hs' hset)
end

section
variable {P : Program} {F : Fr} {Q : Exit → AS → Prop} {n : Nat} {env : List (Nat × AV)} {hp : Hp} {c : Code}
end
section
variable {P : Program} {F : Fr} {s : AS} {d : Nat} {ty T T' E : TypeId} {pos : String} {aft : Array Edge} {g : Option (Nat × Bool)} {x : Operand}
theorem Zbp {b : Bool} {xs : List D} (hT : P.underlying T = some (.slice E)) (hx : s.ev x = some (.d (.sl (some b) xs))) (hd : Nat.blt d s.n = true) : Zab P F ⟨some d, .binOp .eql T x (.const (.slice none 0 0)) T', ty, pos, aft, g⟩ s d (.d (.raw (.bool b))) :=
  ZaE _ hd fun ρ act w hs => by
    have hr := hs.ev hx
    generalize hv : act.eval x = v at hr
    cases hr with
    | d hr =>
      cases hr with
      | @sl _ _ a m cap k hn hz hln hc hm hk ha hp =>
        have h := hn b rfl;have hc : act.eval (.const (.slice none 0 0)) = .slice none 0 0 := rfl;subst h;exact ⟨.bool a.isNone, by simp [execOp, hv, hc, eqGuard, binOp, run_equal_slice_nil w T E a m cap hT], .d (.raw rfl)⟩
end
end Go.Proofs.Ytgdppeobgefogaa
/- Calls through function values, closures, frozen answers. No program in sight. -/
namespace Go.Proofs.Ytgdppeobgefogaa
open Go.RowKit

def fnOf? : AV → Option (FuncId × List AV)
  | .fn g caps => some (g, caps)
  | .d (.raw (.func (.func g) ⟨[]⟩ ⟨[]⟩)) => some (g, [])
  | _ => none
theorem fnOf?_spec {w : World} {O : Nat → Prop} {ρ : Nat → Nat → Value} {a : AV} {v : Value} {f : FuncId} {caps : List AV} (h : RepA w O ρ a v) (hf : fnOf? a = some (f, caps)) :
    ∃ vs : List Value, v = .func (.func f) #[] vs.toArray ∧ vs.length = caps.length ∧ ∀ (i : Nat) a v, caps[i]? = some a → vs[i]? = some v → RepA w O ρ a v := by
  unfold fnOf? at hf
  split at hf
  · injection hf with hf; injection hf with h1 h2; subst h1 h2
    cases h with
    | @fn _ _ vs hl h => exact ⟨vs, rfl, hl, h⟩
  · injection hf with hf; injection hf with h1 h2; subst h1 h2
    cases h with
    | d h => cases h with | raw h => exact ⟨[], rfl, rfl, by simp⟩
  · cases hf

def dL : List D → List AV
  | [] => []
  | d :: r => .d d :: dL r
theorem dL_get {l : List D} {i : Nat} {a : AV} (h : (dL l)[i]? = some a) : ∃ d, l[i]? = some d ∧ a = .d d := by
  induction l generalizing i with
  | nil => simp [dL] at h
  | cons x r ih =>
    cases i with
    | zero => simp [dL] at h; exact ⟨x, by simp, h.symm⟩
    | succ i => simpa [dL] using ih (by simpa [dL] using h)
theorem dL_length (l : List D) : (dL l).length = l.length := by induction l with | nil => rfl | cons x r ih => simp [dL, ih]
def fnFull? : AV → Option (FuncId × List AV × List AV)
  | .fn g caps => some (g, [], caps)
  | .d (.fn g fs caps) => some (g, dL fs, dL caps)
  | .d (.raw (.func (.func g) ⟨[]⟩ ⟨[]⟩)) => some (g, [], [])
  | _ => none
theorem fnFull?_spec {w : World} {O : Nat → Prop} {ρ : Nat → Nat → Value} {a : AV} {v : Value} {f : FuncId} {fs caps : List AV} (h : RepA w O ρ a v) (hf : fnFull? a = some (f, fs, caps)) :
    ∃ us vs : List Value, v = .func (.func f) us.toArray vs.toArray ∧ us.length = fs.length ∧ vs.length = caps.length ∧ (∀ (i : Nat) a v, fs[i]? = some a → us[i]? = some v → RepA w O ρ a v) ∧ ∀ (i : Nat) a v, caps[i]? = some a → vs[i]? = some v → RepA w O ρ a v := by
  unfold fnFull? at hf
  split at hf
  · injection hf with hf; injection hf with h1 h2; injection h2 with h2 h3; subst h1 h2 h3
    cases h with
    | @fn _ _ vs hl h => exact ⟨[], vs, rfl, rfl, hl, by simp, h⟩
  · injection hf with hf; injection hf with h1 h2; injection h2 with h2 h3; subst h1 h2 h3
    cases h with
    | d h =>
      cases h with
      | @fn _ _ _ us vs hl1 hl2 g1 g2 =>
        refine ⟨us, vs, rfl, by rw [dL_length]; exact hl1, by rw [dL_length]; exact hl2, fun i a v ha hv => ?_, fun i a v ha hv => ?_⟩
        · obtain ⟨d, e1, rfl⟩ := dL_get ha; exact .d (g1 i d v e1 hv)
        · obtain ⟨d, e1, rfl⟩ := dL_get ha; exact .d (g2 i d v e1 hv)
  · injection hf with hf; injection hf with h1 h2; injection h2 with h2 h3; subst h1 h2 h3
    cases h with
    | d h => cases h with | raw h => exact ⟨[], [], rfl, rfl, rfl, by simp, by simp⟩
  · cases hf

section
variable {P : Program} {F : Fr} {s : AS} {d : Nat} {ty T T' : TypeId} {pos : String} {aft : Array Edge} {g : Option (Nat × Bool)} {at_ : Array TypeId} {x : Operand}

theorem run_callV {f : FuncId} {fn : Func} (hf : P.funcs[f]? = some fn) (hname : (fn.name == "runtime.NumGoroutine") = false) (hb : fn.body.isSome = true) {act : Act} {w : World} {xs : List Operand} {us vs : List Value} {dst : Option Nat} (hv : act.eval x = .func (.func f) us.toArray vs.toArray) :
    (execOp act.eval ⟨dst, .call { callee := .value x, args := xs.toArray, argTypes := at_ }, ty, pos, aft, g⟩).run P w = .ok (.enter f (us ++ (xs.map act.eval ++ vs)).toArray) w := by
  have hb' : ¬ fn.body = none := by intro h; rw [h] at hb; cases hb
  have hn' : ¬ fn.name = "runtime.NumGoroutine" := by simpa using hname
  simp [execOp, resolve, hv, Deferred.ofValue, invoke, callFunc, hf, hn', hb']

def argsV? (s : AS) (x : Operand) (xs : List Operand) : Option (FuncId × List AV) := match s.ev x with
  | none => none
  | some a => match fnFull? a with
    | none => none
    | some (f, fs, caps) => match evs? s xs with
      | none => none
      | some l => some (f, fs ++ (l ++ caps))
theorem argsV?_spec {ρ : Nat → Nat → Value} {act : Act} {w : World} (hs : SR F s ρ act w) {xs : List Operand} {f : FuncId} {args : List AV} (h : argsV? s x xs = some (f, args)) :
    ∃ us vs : List Value, act.eval x = .func (.func f) us.toArray vs.toArray ∧ (us ++ (xs.map act.eval ++ vs)).length = args.length ∧ ∀ (i : Nat) a v, args[i]? = some a → (us ++ (xs.map act.eval ++ vs))[i]? = some v → RepA w (F.O ρ s.hp) ρ a v := by
  unfold argsV? at h
  split at h
  · cases h
  · rename_i a ha
    split at h
    · cases h
    · rename_i f' fs caps hf
      split at h
      · cases h
      · rename_i l hl
        injection h with h; injection h with h1 h2; subst h1 h2
        obtain ⟨us, vs, e1, e0, e2, e4, e3⟩ := fnFull?_spec (hs.ev ha) hf;obtain ⟨g1, g2⟩ := evs?_spec hs hl;refine ⟨us, vs, e1, by simp only [List.length_append, g1, e2, e0], fun i a v hi hv => ?_⟩
        by_cases hlt0 : i < fs.length
        · rw [List.getElem?_append_left hlt0] at hi;rw [List.getElem?_append_left (by rw [e0]; exact hlt0)] at hv;exact e4 i a v hi hv
        · rw [List.getElem?_append_right (by omega)] at hi;rw [List.getElem?_append_right (by omega), e0] at hv
          by_cases hlt : i - fs.length < l.length
          · rw [List.getElem?_append_left hlt] at hi;rw [List.getElem?_append_left (by rw [g1]; exact hlt)] at hv;exact g2 _ a v hi hv
          · rw [List.getElem?_append_right (by omega)] at hi;rw [List.getElem?_append_right (by rw [g1]; omega), g1] at hv;exact e3 _ a v hi hv

theorem st_callVD {f : FuncId} {xs : List Operand} {args : List AV} {CH H0 : Hp} {r0 : AV} (hc : ACalls P f args CH fun r H' => r = r0 ∧ H' = H0) (hargs : argsV? s x xs = some (f, args))
    (nm : List Nat) (hfe : FamsEq s.hp CH nm) (hcn : namesIn nm CH = true) {rest0 rest : Hp} {env' : List (Nat × AV)} (hr0 : rest? nm s.hp = some rest0) (hE : keepE? (okRef CH nm) s.env = some env') (hH : keepH? (okRef CH nm) rest0 = some rest)
    (hR1 : namesIn nm H0 = true) (hR2 : hpIn nm H0 = true) (hR3 : r0.ok (inNm nm) = true) (hd : Nat.blt d s.n = true) {hp' : Hp} (hhp : some (H0 ++ rest) = some hp') :
    Zaw P F ⟨some d, .call { callee := .value x, args := xs.toArray, argTypes := at_ }, ty, pos, aft, g⟩ s ⟨s.n, (d, r0) :: env', hp'⟩ (okRef CH nm) := by
  injection hhp with hhp
  subst hhp;intro ρ act w hs;obtain ⟨fn, h1, h2, h3⟩ := hc.1;obtain ⟨us, vs, hv, h4, h5⟩ := argsV?_spec hs hargs;unfold Oper.wp;rw [run_callV h1 h2 h3 hv, Oper.upon_enter];refine (call_core hs hc h4 h5 nm hfe hcn hr0 hE hH (fun r H' ⟨e1, e2⟩ => by subst e1 e2; exact ⟨hR1, hR2, hR3⟩)).mono fun e w' ⟨v, r, H', ρ'', e1, ⟨e2, e3⟩, hrep, hsr, hk⟩ => ?_;subst e1 e2 e3;exact ⟨ρ'', hsr.put (Za3 hd) hrep, hk⟩
theorem st_makeFunc {f : FuncId} {caps : List Operand} {as : List AV} (hc : evs? s caps = some as) (hd : Nat.blt d s.n = true) :
    Zab P F ⟨some d, .makeFunc (.func f) #[] caps.toArray, ty, pos, aft, g⟩ s d (.fn f as) :=
  ZaE _ hd fun ρ act w hs => by
    obtain ⟨h1, h2⟩ := evs?_spec hs hc;exact ⟨.func (.func f) #[] (caps.map act.eval).toArray, by simp [execOp, Instr.makeFunc], .fn h1 h2⟩

theorem run_equal_funcN {w : World} {t : TypeId} {ps rs : Array TypeId} {vd : Bool} (h : P.underlying t = some (.func ps rs vd)) (f : FuncId) (a b : Array Value) : (Op.equal t (.func (.func f) a b) .nilFunc).run P w = .ok false w := by
  unfold Op.equal Op.maxDepth Op.equalIn
  simp [run_underlying h]
theorem Zbq {ps rs : Array TypeId} {vd : Bool} {a : AV} {f : FuncId} {caps : List AV} (hT : P.underlying T = some (.func ps rs vd)) (hx : s.ev x = some a) (hf : fnOf? a = some (f, caps)) (hd : Nat.blt d s.n = true) : Zab P F ⟨some d, .binOp .eql T x (.const .nilFunc) T', ty, pos, aft, g⟩ s d (.d (.raw (.bool false))) :=
  ZaE _ hd fun ρ act w hs => by
    obtain ⟨vs, hv, _⟩ := fnOf?_spec (hs.ev hx) hf;have hc : act.eval (.const .nilFunc) = .nilFunc := rfl;exact ⟨.bool false, by simp [execOp, hv, hc, eqGuard, binOp, run_equal_funcN hT], .d (.raw rfl)⟩
theorem ZbD {ps rs : Array TypeId} {vd : Bool} {a : AV} {f : FuncId} {caps : List AV} (hT : P.underlying T = some (.func ps rs vd)) (hx : s.ev x = some a) (hf : fnOf? a = some (f, caps)) (hd : Nat.blt d s.n = true) : Zab P F ⟨some d, .binOp .neq T x (.const .nilFunc) T', ty, pos, aft, g⟩ s d (.d (.raw (.bool true))) :=
  ZaE _ hd fun ρ act w hs => by
    obtain ⟨vs, hv, _⟩ := fnOf?_spec (hs.ev hx) hf;have hc : act.eval (.const .nilFunc) = .nilFunc := rfl;exact ⟨.bool true, by simp [execOp, hv, hc, eqGuard, binOp, run_equal_funcN hT], .d (.raw rfl)⟩
theorem run_equal_funcNN {w : World} {t : TypeId} {ps rs : Array TypeId} {vd : Bool} (h : P.underlying t = some (.func ps rs vd)) : (Op.equal t .nilFunc .nilFunc).run P w = .ok true w := by
  unfold Op.equal Op.maxDepth Op.equalIn
  simp [run_underlying h]
theorem Zbc {ps rs : Array TypeId} {vd : Bool} (hT : P.underlying T = some (.func ps rs vd)) (hx : s.ev x = some (.d (.raw .nilFunc))) (hd : Nat.blt d s.n = true) : Zab P F ⟨some d, .binOp .eql T x (.const .nilFunc) T', ty, pos, aft, g⟩ s d (.d (.raw (.bool true))) :=
  ZaE _ hd fun ρ act w hs => by
    have hr := hs.ev hx
    generalize hv : act.eval x = v at hr
    cases hr with
    | d hr =>
      cases hr with
      | raw _ =>
        have hc : act.eval (.const .nilFunc) = .nilFunc := rfl;exact ⟨.bool true, by simp [execOp, hv, hc, eqGuard, binOp, run_equal_funcNN hT], .d (.raw rfl)⟩
end

theorem ACalls.frozen {P : Program} {f : FuncId} {args : List AV} {fam n k : Nat} {E : TypeId} {xs : List D} (h : ACalls P f args [] fun r H' => r = .own fam 0 n ∧ H' = [(fam, [.rowD E k xs])]) (hn : n ≤ xs.length) : PCalls P f args (.sl none (xs.take n)) := by
  refine ⟨h.1, fun F ρ vs h1 h2 h2' h3 h4 h5 => (h.2 F ρ vs h1 h2 h2' h3 h4 h5).mono fun e w' ⟨v, r, H', ρ', e1, ⟨e2, e3⟩, hrep, hh⟩ => ?_⟩;subst e2 e3
  have hsr : SR F ⟨1, [(0, .own fam 0 n)], [(fam, [.rowD E k xs])]⟩ ρ' { tmps := #[v], defers := [] } w' := by
    refine ⟨rfl, .nil, fun t a ha => ?_, hh⟩;rcases Zbn ha with ⟨rfl, rfl⟩ | ⟨_, ha⟩
    · exact hrep
    · cases ha
  have e0 : Nat.beq fam fam = true := Nat.beq_refl fam;have hfr := hsr.freeze (E := E) (kk := k) (xs := xs) (ys := xs.take n) (env' := [(0, .top)]) (hp1 := [(fam, [.rowD E k xs])]) (hp' := []) 0 fam rfl (by simp [hget, hfam, gl, isM]) hn rfl (by simp [killE?, keepE?, AV.ok, AV.okS, notFam]) (by simp [killH?, keepH?, keepOs?, keepO?]) (by simp [hdel?]) (by simp [hfam]);exact ⟨v, _, [], ρ', e1, ⟨rfl, rfl⟩, hfr.env 0 _ rfl, hfr.heap⟩
end Go.Proofs.Ytgdppeobgefogaa
