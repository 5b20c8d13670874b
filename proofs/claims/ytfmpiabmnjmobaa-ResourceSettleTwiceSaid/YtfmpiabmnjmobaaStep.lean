/- The abstract walk: judgements on code and on operations over abstract states, and their rules for control flow. No program in sight. -/
import Derived.Test.YtfmpiabmnjmobaaAbs
namespace Go.Proofs.Ytfmpiabmnjmobaa
open Go.RowKit

def lift (F : Fr) (Q : Exit → AS → Prop) (e : Exit) (act : Act) (w : World) : Prop := ∃ s ρ, Q e s ∧ SR F s ρ act w
/-- The wide fence, of a function's frame or of a round's. -/
def fen (r : Option Nat) : Fence := { Fence.wide with round := r }
def Op.isDefer : Op → Bool
  | .defer _ => true
  | _ => false
theorem semAt_fen (r : Option Nat) (ρ : Operand → Value) (o : Oper) (h : Op.isDefer o.op = false) : o.semAt (fen r).round ρ = execOp ρ o := by
  cases r with
  | none => exact Oper.semAt_none ρ o
  | some l => exact Oper.semAt_some l ρ o fun c hc => by rw [hc] at h; cases h
theorem rowsIn_fen {P : Program} {r : Option Nat} {n : Nat} {row : String} {args : Array Value} {w : World} {R : Value → World → Prop} (h : Go.Rows P row args w R) : RowsIn (fen r) n P row args w R := by
  have h1 : RowsIn Fence.wide n P row args w R := fun c cs _ => let ⟨v, w', a, b⟩ := h c cs; ⟨v, w', a, stepsIn_wide.2 b⟩
  cases r with
  | none => exact h1
  | some l => exact h1
theorem callsIn_fen {P : Program} {r : Option Nat} {n : Nat} {f : FuncId} {args : Array Value} {w : World} {R : Ending → World → Prop} (h : Calls P f args w R) : CallsIn (fen r) n P f args w R := by
  cases r with
  | none => exact callsIn_wide.2 h
  | some l => exact CallsIn.inRound l (callsIn_wide.2 h)
/-- What holds of an operation holds of it within a fence, too. -/
theorem wpIn_of_wp {P : Program} {r : Option Nat} {o : Oper} {a : Act} {w : World} {K : Act → World → Prop} {Q : Exit → Act → World → Prop} (hd : Op.isDefer o.op = false) (h : o.wp P a w K (fun _ _ _ => False)) : o.wpIn (fen r) 0 P a w K Q := by
  refine ⟨fun _ _ => trivial, ?_⟩
  rw [semAt_fen r _ o hd]
  unfold Oper.wp at h
  generalize (execOp a.eval o).run P w = res at h
  cases res with
  | ok x w =>
    cases x with
    | value v => exact h
    | skip => exact h
    | defer d => exact h
    | enter f args =>
      rw [Oper.upon_enter] at h
      refine ⟨(fun h => by cases h), callsIn_fen (h.mono fun e w' he => ?_)⟩
      cases e with
      | returned v => exact he
      | panicked _ => exact he.elim
      | outgrown => obtain ⟨_, _, hf⟩ := he; exact hf.elim
    | row r args =>
      rw [Oper.upon_row] at h
      exact ⟨(fun h => by cases h), rowsIn_fen h⟩
    | _ => exact h.elim
  | halt x w =>
    cases x <;> exact h.elim
def Awp (P : Program) (F : Fr) (c : Code) (Q : Exit → AS → Prop) (s : AS) : Prop := ∀ ρ act w, SR F s ρ act w → c.wpIn (fen F.rnd) 0 P (lift F Q) act w
def Aops (P : Program) (F : Fr) (ops : Array Oper) (l : List Oper) (Q : Exit → AS → Prop) (s : AS) : Prop := ∀ ρ act w, SR F s ρ act w → wpListIn (fen F.rnd) 0 P ops (lift F Q) l act w
/-- One operation, from s to some state of T; it neither panics nor leaves. -/
def Ostep (P : Program) (F : Fr) (o : Oper) (s : AS) (T : AS → Prop) : Prop := ∀ ρ act w, SR F s ρ act w → o.wp P act w (lift F (fun e s' => e = .normal ∧ T s') .normal) (fun _ _ _ => False)

theorem lt_of_blt {d n : Nat} (h : Nat.blt d n = true) : d < n := Nat.lt_of_succ_le (by simpa [Nat.blt] using h)
/-- What follows on the normal end. -/
def Then (K : AS → Prop) (Q : Exit → AS → Prop) : Exit → AS → Prop
  | .normal, s => K s
  | e, s => Q e s
def InBlock (id : Nat) (Q : Exit → AS → Prop) : Exit → AS → Prop
  | .exit id', s => match Nat.beq id' id with
    | true => Q .normal s
    | false => Q (.exit id') s
  | e, s => Q e s

section
variable {P : Program} {F : Fr} {Q Q' : Exit → AS → Prop} {s : AS}

theorem Awp.mono {c : Code} (h : Awp P F c Q s) (hq : ∀ e s, Q e s → Q' e s) : Awp P F c Q' s := fun ρ act w hs =>
  Go.wpIn_mono (h ρ act w hs) fun e a w ⟨s, ρ, h1, h2⟩ => ⟨s, ρ, hq e s h1, h2⟩
theorem a_skip (h : Q .normal s) : Awp P F .skip Q s := fun ρ act w hs => wpIn_skip ⟨s, ρ, h, hs⟩
theorem a_exit {id : Nat} (h : Q (.exit id) s) : Awp P F (.exit id) Q s := fun ρ act w hs => wpIn_exit ⟨s, ρ, h, hs⟩
theorem a_ret (h : Q .ret s) : Awp P F .ret Q s := fun ρ act w hs => wpIn_ret ⟨s, ρ, h, hs⟩
theorem a_seq {x y : Code} (h : Awp P F x (Then (Awp P F y Q) Q) s) : Awp P F (.seq x y) Q s := fun ρ act w hs =>
  wpIn_seq (Go.wpIn_mono (h ρ act w hs) fun e a w ⟨s', ρ', h1, h2⟩ => by
    cases e with
    | normal => exact h1 ρ' a w h2
    | _ => exact ⟨s', ρ', h1, h2⟩)
theorem a_block {id : Nat} {x : Code} (h : Awp P F x (InBlock id Q) s) : Awp P F (.block id x) Q s := fun ρ act w hs =>
  wpIn_block (Go.wpIn_mono (h ρ act w hs) fun e a w ⟨s', ρ', h1, h2⟩ => by
    cases e with
    | exit id' =>
      simp only [InBlock] at h1
      simp only [Exit.inBlock]
      split at h1
      · rename_i hh; rw [if_pos (Nat.eq_of_beq_eq_true hh)]; exact ⟨s', ρ', h1, h2⟩
      · rename_i hh; rw [if_neg (Nat.ne_of_beq_eq_false hh)]; exact ⟨s', ρ', h1, h2⟩
    | _ => exact ⟨s', ρ', h1, h2⟩)

/-- Operands. -/
def constAV? (v : Value) : Option AV := match v.oneCell' with
  | false => none
  | true => match v with
    | .slice none 0 0 => some (.d (.sl (some true) []))
    | v => some (.d (.raw v))
def AS.ev (s : AS) : Operand → Option AV
  | .tmp t => get s.env t
  | .const v => constAV? v
  | .func f => some (.d (.raw (.func (.func f) #[] #[])))
  | .global _ => none

theorem rep_const {w : World} {O : Nat → Prop} {ρ : Nat → Nat → Value} {v : Value} {a : AV} (h : constAV? v = some a) : RepA w O ρ a v ∧ v.oneCell' = true := by
  unfold constAV? at h
  split at h
  · cases h
  · rename_i h1
    refine ⟨?_, h1⟩
    split at h
    · injection h with h; subst h
      exact .d (.sl 1 (fun b hb => by injection hb) (fun _ => rfl) rfl (Nat.le_refl _) (by unfold maxLen; omega) (by simp) (by simp) (fun b o h => by cases h))
    · injection h with h; subst h
      exact .d (.raw h1)

theorem SR.ev {ρ : Nat → Nat → Value} {act : Act} {w : World} (h : SR F s ρ act w) {x : Operand} {a : AV} (hx : s.ev x = some a) : RepA w (F.O ρ s.hp) ρ a (act.eval x) := by
  cases x with
  | tmp t => exact h.env t a hx
  | const v =>
    exact (rep_const hx).1
  | func f => simp only [AS.ev, Option.some.injEq] at hx; subst hx; exact .d (.raw rfl)
  | global g => simp [AS.ev] at hx

theorem a_cond {c : Operand} {x y : Code} {b : Bool} (hc : s.ev c = some (.d (.raw (.bool b)))) (ht : b = true → Awp P F x Q s) (hf : b = false → Awp P F y Q s) : Awp P F (.cond c x y) Q s := fun ρ act w hs => by
  have h := hs.ev hc
  cases h with
  | d h =>
    generalize hv : act.eval c = v at h
    cases h with
    | raw h =>
      exact wpIn_cond_split hv (fun e => ht e ρ act w hs) (fun e => hf e ρ act w hs)
theorem a_true {c : Operand} {x y : Code} {b : Bool} (hc : s.ev c = some (.d (.raw (.bool b)))) (hb : b = true) (ht : Awp P F x Q s) : Awp P F (.cond c x y) Q s := a_cond hc (fun _ => ht) (fun e => by rw [hb] at e; cases e)
theorem a_false {c : Operand} {x y : Code} {b : Bool} (hc : s.ev c = some (.d (.raw (.bool b)))) (hb : b = false) (hf : Awp P F y Q s) : Awp P F (.cond c x y) Q s := a_cond hc (fun e => by rw [hb] at e; cases e) (fun _ => hf)
/-- A test on a proposition. -/
theorem a_if {c : Operand} {x y : Code} {p : Prop} [Decidable p] (hc : s.ev c = some (.d (.raw (.bool (decide p))))) (ht : p → Awp P F x Q s) (hf : ¬ p → Awp P F y Q s) : Awp P F (.cond c x y) Q s :=
  a_cond hc (fun e => ht (of_decide_eq_true e)) (fun e => hf (of_decide_eq_false e))

/-- Less is known. -/
def AS.Le (s s' : AS) : Prop := s'.n = s.n ∧ s'.hp = s.hp ∧ ∀ t a, get s'.env t = some a → get s.env t = some a
theorem SR.le {ρ : Nat → Nat → Value} {act : Act} {w : World} {s' : AS} (h : SR F s ρ act w) (hl : s.Le s') : SR F s' ρ act w := by
  obtain ⟨h1, h2, h3⟩ := hl
  refine ⟨h1 ▸ h.size, h2 ▸ h.defs, fun t a ha => ?_, h2 ▸ h.heap⟩
  rw [h2]
  exact h.env t a (h3 t a ha)
theorem Awp.le {c : Code} {s' : AS} (h : Awp P F c Q s') (hl : s.Le s') : Awp P F c Q s := fun ρ act w hs => h ρ act w (hs.le hl)
theorem Aops.le {ops : Array Oper} {l : List Oper} {s' : AS} (h : Aops P F ops l Q s') (hl : s.Le s') : Aops P F ops l Q s := fun ρ act w hs => h ρ act w (hs.le hl)
/-- Every slot of the list reads so. -/
def Has (env : List (Nat × AV)) : List (Nat × AV) → Prop
  | [] => True
  | (t, a) :: r => get env t = some a ∧ Has env r
theorem Has.get {env l : List (Nat × AV)} (h : Has env l) {t : Nat} {a : AV} (ha : get l t = some a) : Go.Proofs.Ytfmpiabmnjmobaa.get env t = some a := by
  induction l with
  | nil => cases ha
  | cons p r ih =>
    obtain ⟨k, v⟩ := p
    rcases get_cons ha with ⟨rfl, rfl⟩ | ⟨_, ha⟩
    · exact h.1
    · exact ih h.2 ha
theorem le_of_has {n : Nat} {env l : List (Nat × AV)} {hp : List (Nat × List AObj)} (h : Has env l) : AS.Le ⟨n, env, hp⟩ ⟨n, l, hp⟩ := ⟨rfl, rfl, fun _ _ => h.get⟩
/-- Only the named slots are kept. -/
def pick (env : List (Nat × AV)) : List Nat → Option (List (Nat × AV))
  | [] => some []
  | t :: r => match pick env r with
    | none => none
    | some l => match get env t with
      | none => some l
      | some a => some ((t, a) :: l)
/-- A loop: the states at its head are the σ a with I a; a measure falls. -/
theorem a_loop {α : Type} {c : Code} (σ : α → AS) (I : α → Prop) (μ : α → Nat) (a0 : α) (h0 : I a0) (hs : s.Le (σ a0))
    (round : ∀ a, I a → Awp P F c (Then (fun s' => ∃ a', I a' ∧ μ a' < μ a ∧ s'.Le (σ a')) Q) (σ a)) : Awp P F (.loop c) Q s := fun ρ act w hsr => by
  have key : ∀ n a, μ a = n → I a → ∀ ρ act w, SR F (σ a) ρ act w → (Code.loop c).wpIn (fen F.rnd) 0 P (lift F Q) act w := by
    intro n a _ hI ρ act w hsr
    refine wpIn_loop (fun act w => ∃ a ρ, I a ∧ SR F (σ a) ρ act w) (fun act w => Classical.epsilon fun m => ∃ a ρ, I a ∧ SR F (σ a) ρ act w ∧ μ a = m ∧ ∀ a' ρ', I a' → SR F (σ a') ρ' act w → m ≤ μ a') ⟨a, ρ, hI, hsr⟩ ?_
    intro act w hI
    have hmin : ∀ act w, (∃ a ρ, I a ∧ SR F (σ a) ρ act w) → ∃ m, ∃ a ρ, I a ∧ SR F (σ a) ρ act w ∧ μ a = m ∧ ∀ a' ρ', I a' → SR F (σ a') ρ' act w → m ≤ μ a' := fun act w ⟨a, ρ, h1, h2⟩ => by
      have hw : ∀ n a ρ, μ a = n → I a → SR F (σ a) ρ act w → ∃ m, ∃ a ρ, I a ∧ SR F (σ a) ρ act w ∧ μ a = m ∧ ∀ a' ρ', I a' → SR F (σ a') ρ' act w → m ≤ μ a' := by
        intro n
        induction n using Nat.strongRecOn with
        | _ n ih =>
          intro a ρ hn h1 h2
          by_cases hex : ∃ a' ρ', I a' ∧ SR F (σ a') ρ' act w ∧ μ a' < n
          · obtain ⟨a', ρ', h3, h4, h5⟩ := hex
            exact ih _ h5 a' ρ' rfl h3 h4
          · refine ⟨n, a, ρ, h1, h2, hn, fun a' ρ' h3 h4 => ?_⟩
            rcases Nat.lt_or_ge (μ a') n with h5 | h5
            · exact absurd ⟨a', ρ', h3, h4, h5⟩ hex
            · exact h5
      exact hw _ a ρ rfl h1 h2
    obtain ⟨a, ρ, h1, h2, h3, h4⟩ := Classical.epsilon_spec (hmin act w hI)
    refine Go.wpIn_mono (round a h1 ρ act w h2) fun e act' w' ⟨s', ρ', h5, h6⟩ => ?_
    cases e with
    | normal =>
      obtain ⟨a', h7, h8, h9⟩ := h5
      have hex : ∃ a ρ, I a ∧ SR F (σ a) ρ act' w' := ⟨a', ρ', h7, h6.le h9⟩
      refine ⟨hex, ?_⟩
      obtain ⟨_, _, _, _, _, h13⟩ := Classical.epsilon_spec (hmin act' w' hex)
      have h14 := h13 a' ρ' h7 (h6.le h9)
      exact Nat.lt_of_le_of_lt h14 (by rw [← h3]; exact h8)
    | _ => exact ⟨s', ρ', h5, h6⟩
  exact key _ a0 rfl h0 ρ act w (hsr.le hs)

/-- A region in the order of the text. -/
theorem a_region {id : Nat} {l : List Oper} (h : Aops P F l.toArray l Q s) : Awp P F (.region id l.toArray false) Q s := fun ρ act w hs => wpIn_region_lit (h ρ act w hs)
theorem o_nil {ops : Array Oper} (h : Q .normal s) : Aops P F ops [] Q s := fun ρ act w hs => wpListIn_nil ⟨s, ρ, h, hs⟩

theorem upon_weaken {P : Program} {o : Oper} {a : Act} {K K' : Act → World → Prop} {Q : Exit → Act → World → Prop} {r : Result Next} (hk : ∀ a w, K a w → K' a w) (h : o.upon P a K (fun _ _ _ => False) r) : o.upon P a K' Q r := by
  cases r with
  | ok x w =>
    cases x with
    | value v => exact hk _ _ h
    | skip => exact hk _ _ h
    | defer d => exact hk _ _ h
    | enter f args =>
      rw [Oper.upon_enter] at h ⊢
      refine h.mono fun e w' he => ?_
      cases e with
      | returned v => exact hk _ _ he
      | panicked _ => exact he.elim
      | outgrown => obtain ⟨_, _, hf⟩ := he; exact hf.elim
    | row r args =>
      rw [Oper.upon_row] at h ⊢
      exact Go.Rows.mono h fun v w' hv => hk _ _ hv
    | _ => exact h.elim
  | halt x w =>
    cases x <;> exact h.elim
theorem wp_weaken {P : Program} {o : Oper} {a : Act} {w : World} {K K' : Act → World → Prop} {Q : Exit → Act → World → Prop} (hk : ∀ a w, K a w → K' a w) (h : o.wp P a w K (fun _ _ _ => False)) : o.wp P a w K' Q := upon_weaken hk h

theorem o_step {ops : Array Oper} {o : Oper} {rest : List Oper} {T : AS → Prop} (h : Ostep P F o s T) (hg : o.guard = none) (hK : ∀ s', T s' → Aops P F ops rest Q s') (hdf : Op.isDefer o.op = false := by rfl) : Aops P F ops (o :: rest) Q s := fun ρ act w hs =>
  wpListIn_plain hg fun K hk => wpIn_of_wp hdf (wp_weaken (fun a w ⟨s', ρ', ⟨_, h1⟩, h2⟩ => hk a w (hK s' h1 ρ' a w h2)) (h ρ act w hs))
/-- One operation to one state. -/
theorem Ostep.go {ops : Array Oper} {d : Option Tmp} {op : Op} {ty : TypeId} {pos : String} {aft : Array Edge} {rest : List Oper} {s' : AS} (h : Ostep P F ⟨d, op, ty, pos, aft, none⟩ s (· = s')) (hK : Aops P F ops rest Q s') (hdf : Op.isDefer op = false := by rfl) : Aops P F ops (⟨d, op, ty, pos, aft, none⟩ :: rest) Q s :=
  o_step h rfl (fun _ e => e ▸ hK) hdf

/-- One operation to one state; what p lets pass stays where it was. -/
def Estep (P : Program) (F : Fr) (o : Oper) (s s' : AS) (p : Nat → Nat → Bool) : Prop := ∀ ρ act w, SR F s ρ act w → o.wp P act w (fun act' w' => ∃ ρ', SR F s' ρ' act' w' ∧ ∀ f i, p f i = true → ρ' f i = ρ f i) (fun _ _ _ => False)
theorem Estep.ostep {o : Oper} {s' : AS} {p : Nat → Nat → Bool} (h : Estep P F o s s' p) : Ostep P F o s (· = s') := fun ρ act w hs =>
  wp_weaken (fun _ _ ⟨ρ', h1, _⟩ => ⟨s', ρ', ⟨rfl, rfl⟩, h1⟩) (h ρ act w hs)
theorem Estep.go {ops : Array Oper} {d : Option Tmp} {op : Op} {ty : TypeId} {pos : String} {aft : Array Edge} {rest : List Oper} {n : Nat} {env env' : List (Nat × AV)} {hp hp' : List (Nat × List AObj)} {p : Nat → Nat → Bool} (h : Estep P F ⟨d, op, ty, pos, aft, none⟩ ⟨n, env, hp⟩ ⟨n, env', hp'⟩ p) (hK : Aops P F ops rest Q ⟨n, env', hp'⟩) (hdf : Op.isDefer op = false := by rfl) : Aops P F ops (⟨d, op, ty, pos, aft, none⟩ :: rest) Q ⟨n, env, hp⟩ :=
  h.ostep.go hK hdf

/-- A guard that lets by. -/
theorem o_run {ops : Array Oper} {d : Option Tmp} {op : Op} {ty : TypeId} {pos : String} {aft : Array Edge} {rest : List Oper} {j : Nat} {b b' : Bool} {t : Nat} (hj : (ops[j]?).bind (·.dst) = some t) (hv : get s.env t = some (.d (.raw (.bool b')))) (hb : b' = b)
    (h : Aops P F ops (⟨d, op, ty, pos, aft, none⟩ :: rest) Q s) : Aops P F ops (⟨d, op, ty, pos, aft, some (j, b)⟩ :: rest) Q s := fun ρ act w hs => by
  have hr := hs.env t _ hv
  have hy : yielded ops act.tmps j = some b := by
    unfold yielded
    rw [hj]
    cases hr with
    | d hr =>
      generalize hg : act.tmps.getD t undef = v at hr
      cases hr with
      | raw _ =>
        simp only [Option.bind_some]
        rw [Array.getD_eq_getD_getElem?] at hg
        cases hh : act.tmps[t]? with
        | none => rw [hh] at hg; simp [undef] at hg
        | some x => rw [hh] at hg; simp at hg; subst hg; simp [hb]
  have h' := h ρ act w hs
  unfold wpListIn at h' ⊢
  rw [if_pos (by simp [Region.wanted])] at h'
  rw [if_pos (by simp [Region.wanted, hy])]
  exact h'
theorem rep_undef {w : World} {O : Nat → Prop} {ρ : Nat → Nat → Value} : RepA w O ρ (.d (.tup [])) undef := .d (.tup (vs := []) rfl (by simp))
theorem tup_nil {w : World} {O : Nat → Prop} {ρ : Nat → Nat → Value} {v : Value} (h : RepA w O ρ (.d (.tup [])) v) : v = undef := by
  cases h with
  | d h =>
    cases h with
    | @tup _ vs hl _ =>
      have : vs = [] := List.eq_nil_of_length_eq_zero hl
      subst this; rfl
theorem yielded_undef {ops : Array Oper} {tmps : Array Value} {j t : Nat} (hj : (ops[j]?).bind (·.dst) = some t) (hv : tmps.getD t undef = undef) : yielded ops tmps j = none := by
  unfold yielded
  rw [hj]
  simp only [Option.bind_some]
  rw [Array.getD_eq_getD_getElem?] at hv
  cases hh : tmps[t]? with
  | none => rfl
  | some x => rw [hh] at hv; simp at hv; subst hv; rfl
/-- A guard whose own operation has been passed by. -/
theorem o_passU {n : Nat} {env : List (Nat × AV)} {hp : List (Nat × List AObj)} {ops : Array Oper} {d : Nat} {op : Op} {ty : TypeId} {pos : String} {aft : Array Edge} {rest : List Oper} {j : Nat} {b : Bool} {t : Nat} (hj : (ops[j]?).bind (·.dst) = some t) (hv : get env t = some (.d (.tup []))) (hd : Nat.blt d n = true)
    (h : Aops P F ops rest Q (⟨n, (d, .d (.tup [])) :: env, hp⟩)) : Aops P F ops (⟨some d, op, ty, pos, aft, some (j, b)⟩ :: rest) Q ⟨n, env, hp⟩ := fun ρ act w hs => by
  have hy := yielded_undef hj (tup_nil (hs.env t _ hv))
  unfold wpListIn
  rw [if_neg (by simp [Region.wanted, hy])]
  refine ⟨fun _ _ => trivial, ?_⟩
  exact h ρ _ w (hs.put (lt_of_blt hd) rep_undef)
/-- A guard that does not. -/
theorem o_pass {n : Nat} {env : List (Nat × AV)} {hp : List (Nat × List AObj)} {ops : Array Oper} {d : Nat} {op : Op} {ty : TypeId} {pos : String} {aft : Array Edge} {rest : List Oper} {j : Nat} {b b' : Bool} {t : Nat} (hj : (ops[j]?).bind (·.dst) = some t) (hv : get env t = some (.d (.raw (.bool b')))) (hb : b' = !b) (hd : Nat.blt d n = true)
    (h : Aops P F ops rest Q (⟨n, (d, .d (.tup [])) :: env, hp⟩)) : Aops P F ops (⟨some d, op, ty, pos, aft, some (j, b)⟩ :: rest) Q ⟨n, env, hp⟩ := fun ρ act w hs => by
  have hr := hs.env t _ hv
  have hy : yielded ops act.tmps j = some (!b) := by
    unfold yielded
    rw [hj]
    cases hr with
    | d hr =>
      generalize hg : act.tmps.getD t undef = v at hr
      cases hr with
      | raw _ =>
        simp only [Option.bind_some]
        rw [Array.getD_eq_getD_getElem?] at hg
        cases hh : act.tmps[t]? with
        | none => rw [hh] at hg; simp [undef] at hg
        | some x => rw [hh] at hg; simp at hg; subst hg; simp [hb]
  unfold wpListIn
  rw [if_neg (by cases b <;> simp [Region.wanted, hy])]
  refine ⟨fun _ _ => trivial, ?_⟩
  exact h ρ _ w (hs.put (lt_of_blt hd) rep_undef)
end

section
variable {P : Program} {F : Fr} {Q : Exit → AS → Prop} {n : Nat} {env : List (Nat × AV)} {hp : List (Nat × List AObj)} {ops : Array Oper} {l : List Oper} {c : Code}
theorem get_set {env : List (Nat × AV)} {t : Nat} {a : AV} (h : get env t = some a) {t' : Nat} {a' : AV} (ha : get ((t, a) :: env) t' = some a') : get env t' = some a' := by
  rcases get_cons ha with ⟨rfl, rfl⟩ | ⟨_, ha⟩
  · exact h
  · exact ha
/-- A truth value is taken apart. -/
theorem o_splitP (t : Nat) {p : Prop} [Decidable p] (hv : get env t = some (.d (.raw (.bool (decide p))))) (ht : p → Aops P F ops l Q ⟨n, (t, .d (.raw (.bool true))) :: env, hp⟩) (hf : ¬ p → Aops P F ops l Q ⟨n, (t, .d (.raw (.bool false))) :: env, hp⟩) : Aops P F ops l Q ⟨n, env, hp⟩ := by
  by_cases h : p
  · exact (ht h).le ⟨rfl, rfl, fun _ _ => get_set (by rw [decide_eq_true h] at hv; exact hv)⟩
  · exact (hf h).le ⟨rfl, rfl, fun _ _ => get_set (by rw [decide_eq_false h] at hv; exact hv)⟩
theorem o_splitB (t : Nat) {b : Bool} (hv : get env t = some (.d (.raw (.bool b)))) (ht : b = true → Aops P F ops l Q ⟨n, (t, .d (.raw (.bool true))) :: env, hp⟩) (hf : b = false → Aops P F ops l Q ⟨n, (t, .d (.raw (.bool false))) :: env, hp⟩) : Aops P F ops l Q ⟨n, env, hp⟩ := by
  cases b with
  | true => exact (ht rfl).le ⟨rfl, rfl, fun _ _ => get_set hv⟩
  | false => exact (hf rfl).le ⟨rfl, rfl, fun _ _ => get_set hv⟩
theorem o_setT (t : Nat) {b : Bool} (hv : get env t = some (.d (.raw (.bool b)))) (hb : b = true) (h : Aops P F ops l Q ⟨n, (t, .d (.raw (.bool true))) :: env, hp⟩) : Aops P F ops l Q ⟨n, env, hp⟩ := o_splitB t hv (fun _ => h) fun e => by rw [hb] at e; cases e
theorem o_setF (t : Nat) {b : Bool} (hv : get env t = some (.d (.raw (.bool b)))) (hb : b = false) (h : Aops P F ops l Q ⟨n, (t, .d (.raw (.bool false))) :: env, hp⟩) : Aops P F ops l Q ⟨n, env, hp⟩ := o_splitB t hv (fun e => by rw [hb] at e; cases e) fun _ => h
end

/-- One operation that only reckons: a value into a slot; of memory nothing turns, though new blocks may lie there. -/
def Pstep (P : Program) (F : Fr) (o : Oper) (s : AS) (d : Nat) (a : AV) : Prop := Nat.blt d s.n = true ∧ o.dst = some d ∧ ∀ ρ act w, SR F s ρ act w →
  o.wp P act w (fun act' w' => ∃ v, act' = act.put (some d) v ∧ RepA w' (F.O ρ s.hp) ρ a v ∧ Heap F s.hp ρ w' ∧ w.heap.size ≤ w'.heap.size ∧ ∀ b, b < w.heap.size → w'.heap[b]? = w.heap[b]?) (fun _ _ _ => False)
theorem Pstep.ostep {P : Program} {F : Fr} {o : Oper} {s : AS} {d : Nat} {a : AV} (h : Pstep P F o s d a) : Ostep P F o s (· = s.put d a) := fun ρ act w hs => by
  refine wp_weaken ?_ (h.2.2 ρ act w hs)
  rintro act' w' ⟨v, rfl, h1, h2, h3, h4⟩
  exact ⟨_, ρ, ⟨rfl, rfl⟩, SR.put ⟨hs.size, hs.defs.mono h3 (fun b hlt _ => h4 b hlt) (fun _ _ h => h), fun t x hx => (hs.env t x hx).mono h3 (fun b hlt _ => h4 b hlt) (fun _ _ h => h) (fun _ _ _ => rfl), h2⟩ (lt_of_blt h.1) h1⟩
theorem Pstep.go {P : Program} {F : Fr} {Q : Exit → AS → Prop} {n : Nat} {env : List (Nat × AV)} {hp : List (Nat × List AObj)} {ops : Array Oper} {d : Nat} {dst : Option Tmp} {op : Op} {ty : TypeId} {pos : String} {aft : Array Edge} {rest : List Oper} {a : AV} (h : Pstep P F ⟨dst, op, ty, pos, aft, none⟩ ⟨n, env, hp⟩ d a) (hK : Aops P F ops rest Q ⟨n, (d, a) :: env, hp⟩) (hdf : Op.isDefer op = false := by rfl) : Aops P F ops (⟨dst, op, ty, pos, aft, none⟩ :: rest) Q ⟨n, env, hp⟩ :=
  h.ostep.go hK hdf

/-- The usual end of a step: a value into a slot, memory stands. -/
theorem step_val {P : Program} {F : Fr} {s : AS} {d : Nat} {op : Op} {ty : TypeId} {pos : String} {aft : Array Edge} {g : Option (Nat × Bool)} (a : AV) (hd : Nat.blt d s.n = true)
    (h : ∀ ρ act w, SR F s ρ act w → ∃ v, (execOp act.eval ⟨some d, op, ty, pos, aft, g⟩).run P w = .ok (.value v) w ∧ RepA w (F.O ρ s.hp) ρ a v) : Pstep P F ⟨some d, op, ty, pos, aft, g⟩ s d a := by
  refine ⟨hd, rfl, fun ρ act w hs => ?_⟩
  obtain ⟨v, h1, h2⟩ := h ρ act w hs
  unfold Oper.wp
  rw [h1]
  exact ⟨v, rfl, h2, hs.heap, Nat.le_refl _, fun _ _ => rfl⟩

end Go.Proofs.Ytfmpiabmnjmobaa

