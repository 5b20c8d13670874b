/- Calls through function values, closures, frozen answers. No program in sight. -/
import Derived.Test.YtjbghmlofjkcfaaCellA
import Derived.Test.YtjbghmlofjkcfaaBuild
namespace Go.Proofs.Ytjbghmlofjkcfaa
open Go.RowKit

/-- Which function a value is, and what it has caught. -/
def fnOf? : AV → Option (FuncId × List AV)
  | .fn g caps => some (g, caps)
  | .d (.raw (.func (.func g) ⟨[]⟩ ⟨[]⟩)) => some (g, [])
  | _ => none
theorem fnOf?_spec {w : World} {O : Nat → Prop} {ρ : Nat → Nat → Value} {a : AV} {v : Value} {f : FuncId} {caps : List AV} (h : RepA w O ρ a v) (hf : fnOf? a = some (f, caps)) :
    ∃ vs : List Value, v = .func (.func f) #[] vs.toArray ∧ vs.length = caps.length ∧ ∀ (i : Nat) a v, caps[i]? = some a → vs[i]? = some v → RepA w O ρ a v := by
  unfold fnOf? at hf
  split at hf
  · injection hf with hf; injection hf with h1 h2; subst h1 h2
    cases h with
    | @fn _ _ vs hl h => exact ⟨vs, rfl, hl, h⟩
  · injection hf with hf; injection hf with h1 h2; subst h1 h2
    cases h with
    | d h => cases h with | raw h => exact ⟨[], rfl, rfl, by simp⟩
  · cases hf

section
variable {P : Program} {F : Fr} {s : AS} {d : Nat} {ty T T' : TypeId} {pos : String} {aft : Array Edge} {g : Option (Nat × Bool)} {at_ : Array TypeId} {x : Operand}

theorem run_callV {f : FuncId} {fn : Func} (hf : P.funcs[f]? = some fn) (hname : (fn.name == "runtime.NumGoroutine") = false) (hb : fn.body.isSome = true) {act : Act} {w : World} {xs : List Operand} {vs : List Value} {dst : Option Nat} (hv : act.eval x = .func (.func f) #[] vs.toArray) :
    (execOp act.eval ⟨dst, .call { callee := .value x, args := xs.toArray, argTypes := at_ }, ty, pos, aft, g⟩).run P w = .ok (.enter f (xs.map act.eval ++ vs).toArray) w := by
  have hb' : ¬ fn.body = none := by intro h; rw [h] at hb; cases hb
  have hn' : ¬ fn.name = "runtime.NumGoroutine" := by simpa using hname
  simp [execOp, resolve, hv, Deferred.ofValue, invoke, callFunc, hf, hn', hb']

def argsV? (s : AS) (x : Operand) (xs : List Operand) : Option (FuncId × List AV) := match s.ev x with
  | none => none
  | some a => match fnOf? a with
    | none => none
    | some (f, caps) => match evs? s xs with
      | none => none
      | some l => some (f, l ++ caps)
theorem argsV?_spec {ρ : Nat → Nat → Value} {act : Act} {w : World} (hs : SR F s ρ act w) {xs : List Operand} {f : FuncId} {args : List AV} (h : argsV? s x xs = some (f, args)) :
    ∃ vs : List Value, act.eval x = .func (.func f) #[] vs.toArray ∧ (xs.map act.eval ++ vs).length = args.length ∧ ∀ (i : Nat) a v, args[i]? = some a → (xs.map act.eval ++ vs)[i]? = some v → RepA w (F.O ρ s.hp) ρ a v := by
  unfold argsV? at h
  split at h
  · cases h
  · rename_i a ha
    split at h
    · cases h
    · rename_i f' caps hf
      split at h
      · cases h
      · rename_i l hl
        injection h with h; injection h with h1 h2; subst h1 h2
        obtain ⟨vs, e1, e2, e3⟩ := fnOf?_spec (hs.ev ha) hf
        obtain ⟨g1, g2⟩ := evs?_spec hs hl
        refine ⟨vs, e1, by rw [List.length_append, List.length_append, g1, e2], fun i a v hi hv => ?_⟩
        by_cases hlt : i < l.length
        · rw [List.getElem?_append_left hlt] at hi
          rw [List.getElem?_append_left (by rw [g1]; exact hlt)] at hv
          exact g2 i a v hi hv
        · rw [List.getElem?_append_right (by omega)] at hi
          rw [List.getElem?_append_right (by rw [g1]; omega), g1] at hv
          exact e3 _ a v hi hv

theorem st_callVX {f : FuncId} {xs : List Operand} {args : List AV} {CH : Hp} {R : AV → Hp → Prop} (hc : ACalls P f args CH R) (hargs : argsV? s x xs = some (f, args))
    (nm : List Nat) (hfe : FamsEq s.hp CH nm) (hcn : namesIn nm CH = true) {rest0 rest : Hp} {env' : List (Nat × AV)} (hr0 : rest? nm s.hp = some rest0) (hE : keepE? (okRef CH nm) s.env = some env') (hH : keepH? (okRef CH nm) rest0 = some rest)
    (hR : ∀ r H', R r H' → namesIn nm H' = true ∧ hpIn nm H' = true ∧ r.ok (inNm nm) = true) (hd : Nat.blt d s.n = true) :
    Ostep P F ⟨some d, .call { callee := .value x, args := xs.toArray, argTypes := at_ }, ty, pos, aft, g⟩ s (fun s' => ∃ r H', R r H' ∧ s' = ⟨s.n, (d, r) :: env', H' ++ rest⟩) := fun ρ act w hs => by
  obtain ⟨fn, h1, h2, h3⟩ := hc.1
  obtain ⟨vs, hv, h4, h5⟩ := argsV?_spec hs hargs
  unfold Oper.wp
  rw [run_callV h1 h2 h3 hv, Oper.upon_enter]
  refine (call_core hs hc h4 h5 nm hfe hcn hr0 hE hH hR).mono fun e w' ⟨v, r, H', ρ'', e1, hRr, hrep, hsr, _⟩ => ?_
  subst e1
  exact ⟨_, ρ'', ⟨rfl, r, H', hRr, rfl⟩, hsr.put (lt_of_blt hd) hrep⟩
theorem st_callVD {f : FuncId} {xs : List Operand} {args : List AV} {CH H0 : Hp} {r0 : AV} (hc : ACalls P f args CH fun r H' => r = r0 ∧ H' = H0) (hargs : argsV? s x xs = some (f, args))
    (nm : List Nat) (hfe : FamsEq s.hp CH nm) (hcn : namesIn nm CH = true) {rest0 rest : Hp} {env' : List (Nat × AV)} (hr0 : rest? nm s.hp = some rest0) (hE : keepE? (okRef CH nm) s.env = some env') (hH : keepH? (okRef CH nm) rest0 = some rest)
    (hR1 : namesIn nm H0 = true) (hR2 : hpIn nm H0 = true) (hR3 : r0.ok (inNm nm) = true) (hd : Nat.blt d s.n = true) {hp' : Hp} (hhp : some (H0 ++ rest) = some hp') :
    Estep P F ⟨some d, .call { callee := .value x, args := xs.toArray, argTypes := at_ }, ty, pos, aft, g⟩ s ⟨s.n, (d, r0) :: env', hp'⟩ (okRef CH nm) := by
  injection hhp with hhp
  subst hhp
  intro ρ act w hs
  obtain ⟨fn, h1, h2, h3⟩ := hc.1
  obtain ⟨vs, hv, h4, h5⟩ := argsV?_spec hs hargs
  unfold Oper.wp
  rw [run_callV h1 h2 h3 hv, Oper.upon_enter]
  refine (call_core hs hc h4 h5 nm hfe hcn hr0 hE hH (fun r H' ⟨e1, e2⟩ => by subst e1 e2; exact ⟨hR1, hR2, hR3⟩)).mono fun e w' ⟨v, r, H', ρ'', e1, ⟨e2, e3⟩, hrep, hsr, hk⟩ => ?_
  subst e1 e2 e3
  exact ⟨ρ'', hsr.put (lt_of_blt hd) hrep, hk⟩
theorem st_callVP {f : FuncId} {xs : List Operand} {args : List AV} {y : D} (hc : PCalls P f args y) (hargs : argsV? s x xs = some (f, args)) (hd : Nat.blt d s.n = true) :
    Pstep P F ⟨some d, .call { callee := .value x, args := xs.toArray, argTypes := at_ }, ty, pos, aft, g⟩ s d (.d y) := by
  refine ⟨hd, rfl, fun ρ act w hs => ?_⟩
  obtain ⟨fn, h1, h2, h3⟩ := hc.1
  obtain ⟨vs, hv, h4, h5⟩ := argsV?_spec hs hargs
  unfold Oper.wp
  rw [run_callV h1 h2 h3 hv, Oper.upon_enter]
  have hno : ∀ ρ b, ¬ OwnB ρ [] b := fun ρ b ⟨_, _, _, h, _⟩ => by cases h
  let F' : Fr := Fr.mk w (F.O ρ s.hp) (OwnB ρ []) (pinOf ρ []) (fun b hb => ⟨by
    rcases hb with hb | hb
    · exact Nat.lt_of_lt_of_le (F.hOf b hb).1 hs.heap.size0
    · exact (hs.heap.mine b hb).1, hno ρ b⟩) [] (fun _ _ _ h => pinOf_mem h)
  have hO : ∀ ρ', F'.O ρ' [] = F.O ρ s.hp := fun ρ' => funext fun b => propext ⟨fun h => h.elim id fun h => (hno ρ' b h).elim, .inl⟩
  have hheap : Heap F' [] ρ w := ⟨(fun f i o ho => by cases ho), (fun f i f' i' o o' b ho => by cases ho), fun b hb => (hno ρ b hb).elim, rfl, rfl, rfl, Nat.le_refl _, fun _ _ _ => rfl, fun f i b hb => pinOf_spec hb⟩
  refine (hc.2 F' ρ _ rfl rfl rfl hheap h4 (fun i a v ha hv => by rw [hO]; exact h5 i a v ha hv)).mono fun e w' ⟨v, r, H', ρ', e1, ⟨e2, e3⟩, hrep, hh'⟩ => ?_
  subst e1 e2 e3
  have hbb : ∀ b, b < w.heap.size → w'.heap[b]? = w.heap[b]? := fun b hlt => hh'.keep b hlt (hno ρ b)
  have hsz : w.heap.size ≤ w'.heap.size := hh'.size0
  refine ⟨v, rfl, ?_, hs.heap.stay ⟨hh'.os, hh'.tape, hh'.output⟩ hsz hbb, hsz, hbb⟩
  cases hrep with
  | d hrep => rw [hO] at hrep; exact .d hrep

/-- A function literal. -/
theorem st_makeFunc {f : FuncId} {caps : List Operand} {as : List AV} (hc : evs? s caps = some as) (hd : Nat.blt d s.n = true) :
    Pstep P F ⟨some d, .makeFunc (.func f) #[] caps.toArray, ty, pos, aft, g⟩ s d (.fn f as) :=
  step_val _ hd fun ρ act w hs => by
    obtain ⟨h1, h2⟩ := evs?_spec hs hc
    exact ⟨.func (.func f) #[] (caps.map act.eval).toArray, by simp [execOp, Instr.makeFunc], .fn h1 h2⟩

theorem run_equal_funcN {w : World} {t : TypeId} {ps rs : Array TypeId} {vd : Bool} (h : P.underlying t = some (.func ps rs vd)) (f : FuncId) (a b : Array Value) : (Op.equal t (.func (.func f) a b) .nilFunc).run P w = .ok false w := by
  unfold Op.equal Op.maxDepth Op.equalIn
  simp [run_underlying h]
/-- A function value that is none of the nil ones, against nil. -/
theorem st_eqlF {ps rs : Array TypeId} {vd : Bool} {a : AV} {f : FuncId} {caps : List AV} (hT : P.underlying T = some (.func ps rs vd)) (hx : s.ev x = some a) (hf : fnOf? a = some (f, caps)) (hd : Nat.blt d s.n = true) : Pstep P F ⟨some d, .binOp .eql T x (.const .nilFunc) T', ty, pos, aft, g⟩ s d (.d (.raw (.bool false))) :=
  step_val _ hd fun ρ act w hs => by
    obtain ⟨vs, hv, _⟩ := fnOf?_spec (hs.ev hx) hf
    have hc : act.eval (.const .nilFunc) = .nilFunc := rfl
    exact ⟨.bool false, by simp [execOp, hv, hc, eqGuard, binOp, run_equal_funcN hT], .d (.raw rfl)⟩
theorem st_neqF {ps rs : Array TypeId} {vd : Bool} {a : AV} {f : FuncId} {caps : List AV} (hT : P.underlying T = some (.func ps rs vd)) (hx : s.ev x = some a) (hf : fnOf? a = some (f, caps)) (hd : Nat.blt d s.n = true) : Pstep P F ⟨some d, .binOp .neq T x (.const .nilFunc) T', ty, pos, aft, g⟩ s d (.d (.raw (.bool true))) :=
  step_val _ hd fun ρ act w hs => by
    obtain ⟨vs, hv, _⟩ := fnOf?_spec (hs.ev hx) hf
    have hc : act.eval (.const .nilFunc) = .nilFunc := rfl
    exact ⟨.bool true, by simp [execOp, hv, hc, eqGuard, binOp, run_equal_funcN hT], .d (.raw rfl)⟩
theorem run_equal_funcNN {w : World} {t : TypeId} {ps rs : Array TypeId} {vd : Bool} (h : P.underlying t = some (.func ps rs vd)) : (Op.equal t .nilFunc .nilFunc).run P w = .ok true w := by
  unfold Op.equal Op.maxDepth Op.equalIn
  simp [run_underlying h]
theorem st_eqlFN {ps rs : Array TypeId} {vd : Bool} (hT : P.underlying T = some (.func ps rs vd)) (hx : s.ev x = some (.d (.raw .nilFunc))) (hd : Nat.blt d s.n = true) : Pstep P F ⟨some d, .binOp .eql T x (.const .nilFunc) T', ty, pos, aft, g⟩ s d (.d (.raw (.bool true))) :=
  step_val _ hd fun ρ act w hs => by
    have hr := hs.ev hx
    generalize hv : act.eval x = v at hr
    cases hr with
    | d hr =>
      cases hr with
      | raw _ =>
        have hc : act.eval (.const .nilFunc) = .nilFunc := rfl
        exact ⟨.bool true, by simp [execOp, hv, hc, eqGuard, binOp, run_equal_funcNN hT], .d (.raw rfl)⟩
end

/-- An answer of one's own, seen frozen. -/
theorem ACalls.frozen {P : Program} {f : FuncId} {args : List AV} {fam n k : Nat} {E : TypeId} {xs : List D} (h : ACalls P f args [] fun r H' => r = .own fam 0 n ∧ H' = [(fam, [.rowD E k xs])]) (hn : n ≤ xs.length) : PCalls P f args (.sl none (xs.take n)) := by
  refine ⟨h.1, fun F ρ vs h1 h2 h2' h3 h4 h5 => (h.2 F ρ vs h1 h2 h2' h3 h4 h5).mono fun e w' ⟨v, r, H', ρ', e1, ⟨e2, e3⟩, hrep, hh⟩ => ?_⟩
  subst e2 e3
  have hsr : SR F ⟨1, [(0, .own fam 0 n)], [(fam, [.rowD E k xs])]⟩ ρ' { tmps := #[v], defers := [] } w' := by
    refine ⟨rfl, rfl, fun t a ha => ?_, hh⟩
    rcases get_cons ha with ⟨rfl, rfl⟩ | ⟨_, ha⟩
    · exact hrep
    · cases ha
  have e0 : Nat.beq fam fam = true := Nat.beq_refl fam
  have hfr := hsr.freeze (E := E) (kk := k) (xs := xs) (ys := xs.take n) (env' := [(0, .top)]) (hp1 := [(fam, [.rowD E k xs])]) (hp' := []) 0 fam rfl (by simp [hget, hfam]) hn rfl (by simp [killE?, keepE?, AV.ok, AV.okS, notFam]) (by simp [killH?, keepH?, keepOs?, keepO?]) (by simp [hdel?]) (by simp [hfam])
  exact ⟨v, _, [], ρ', e1, ⟨rfl, rfl⟩, hfr.env 0 _ rfl, hfr.heap⟩
end Go.Proofs.Ytjbghmlofjkcfaa
