/- Regions whose order is drawn: the rules that the walk uses. No program in sight. -/
import Derived.Test.YtnflcmpdaoobcaaDraw4
namespace Go.Proofs.Ytnflcmpdaoobcaa
open Go.RowKit

section
variable {P : Program} {F : Fr} {ops : Array Oper} {Q : Exit → AS → Prop}

def Dw (P : Program) (F : Fr) (ops : Array Oper) (pre : List (List Nat)) (lo : Nat) (rest : List Oper) (Q : Exit → AS → Prop) (s : AS) : Prop := PreSpec ops pre → (∀ k : Nat, rest[k]? = ops[lo + k]?) → Dwp P F ops lo Q s
def Dsg (P : Program) (F : Fr) (ops : Array Oper) (pre : List (List Nat)) (lo : Nat) (rest : List Oper) (Q : Exit → AS → Prop) (base : AS) (R : List Rc) (env : List (Nat × AV)) (hp : Hp) : Prop := PreSpec ops pre → (∀ k : Nat, rest[k]? = ops[lo + R.length + k]?) → Dseg P F ops lo Q base R env hp

theorem a_drawn {id : Nat} {l : List Oper} {s : AS} (pre : List (List Nat)) (hm : P.follows .mixedOrders = true) (hpre : preOK l pre pre l 0 = true) (h : Dw P F l.toArray pre 0 l Q s) (hnd : l.all (fun o => !Op.isDefer o.op) = true := by rfl) : Awp P F (.region id l.toArray true) Q s :=
  a_draw hm (h (preOK_spec (by simpa using hpre) (by simpa using hnd)) fun k => by simp)

variable {pre : List (List Nat)} {lo : Nat} {rest : List Oper} {s : AS} {o : Oper}

theorem dwe (h : Q .normal s) : Dw P F ops pre lo [] Q s := fun hps hr ρ act w listed hs hsz hL => by
  have h0 := hr 0
  have hle : ops.size ≤ lo := by
    simp at h0
    exact h0
  have hr : Region.ready .any ops listed = [] := by
    refine List.eq_nil_iff_forall_not_mem.2 fun j hj => ?_
    obtain ⟨h1, o, h2, _⟩ := mem_ready.1 hj
    have hlt : j < ops.size := (Array.getElem?_eq_some_iff.1 h2).1
    have := hL j
    rw [decide_eq_true (by omega)] at this
    unfold Lf at this
    rw [Array.getD_eq_getD_getElem?, Array.getElem?_eq_getElem (by omega)] at h1 this
    simp at h1 this
    rw [this] at h1; cases h1
  cases cnt (Lf listed) ops.size with
  | zero => exact ⟨hr, s, ρ, h, hs⟩
  | succ n => exact ⟨fun _ => ⟨s, ρ, h, hs⟩, fun i hi => by rw [hr] at hi; cases hi⟩

theorem dw1 (hi : Nat) (hhi : Nat.beq (lo + 1) hi = true) (hc : cutB pre (lo + (rest.length + 1)) lo hi = true) (h : Aops P F ops [o] (fun e s' => e = .normal ∧ Dw P F ops pre hi rest Q s') s) : Dw P F ops pre lo (o :: rest) Q s := fun hps hr => by
  have hhi' := Nat.eq_of_beq_eq_true hhi
  subst hhi'
  have ho : ops[lo]? = some o := by have := hr 0; simpa using this.symm
  have hsz : ops.size = lo + (rest.length + 1) := by
    have h1 := hr (rest.length + 1)
    have h2 := hr rest.length
    have h3 : (o :: rest)[rest.length]? ≠ none := by simp
    rw [h2] at h3
    have h4 : lo + rest.length < ops.size := Nat.lt_of_not_le fun hh => h3 (Array.getElem?_eq_none hh)
    have h5 : ops[lo + (rest.length + 1)]? = none := by rw [← h1]; simp
    have := Array.getElem?_eq_none_iff.1 h5
    omega
  refine dw_one hps ho (by rw [hsz]; exact hc) (fun ρ act w hs => ?_)
  have key : ∀ (e : Exit) s', (e = .normal ∧ Dw P F ops pre (lo + 1) rest Q s') → (e = .normal ∧ Dwp P F ops (lo + 1) Q s') := fun e s' ⟨h1, h2⟩ => ⟨h1, h2 hps fun k => by
    have := hr (k + 1)
    rw [List.getElem?_cons_succ] at this
    rw [this]; congr 1; omega⟩
  have hh := h ρ act w hs
  unfold wpListIn at hh ⊢
  have hQ : ∀ e a w, lift F (fun e s' => e = .normal ∧ Dw P F ops pre (lo + 1) rest Q s') e a w → lift F (fun e s' => e = .normal ∧ Dwp P F ops (lo + 1) Q s') e a w := fun e a w ⟨s', ρ', h1, h2⟩ => ⟨s', ρ', key e s' h1, h2⟩
  split
  · rename_i hw
    rw [if_pos hw] at hh
    exact wpIn_mono2 (fun a w h => hQ _ _ _ h) (fun e a w _ h => hQ e a w h) hh
  · rename_i hw
    rw [if_neg hw] at hh
    exact ⟨hh.1, hQ _ _ _ hh.2⟩

theorem dws {n : Nat} {env : List (Nat × AV)} {hp : Hp} (h : Dsg P F ops pre lo rest Q ⟨n, env, hp⟩ [] env hp) : Dw P F ops pre lo rest Q ⟨n, env, hp⟩ := fun hps hr => dw_seg (h hps hr)

variable {base : AS} {R : List Rc} {env : List (Nat × AV)} {hp : Hp}

theorem dwc0 (hi : Nat) {rc : Rc} (hhi : Nat.beq (lo + (rc :: R).length) hi = true) (hc : cutB pre (hi + rest.length) lo hi = true) (hchk : chkAll pre lo base.env base.hp (rc :: R) = true) (h : Dw P F ops pre hi rest Q ⟨base.n, env, hp⟩) : Dsg P F ops pre lo rest Q base (rc :: R) env hp := fun hps hr => by
  have hhi' := Nat.eq_of_beq_eq_true hhi
  subst hhi'
  have hle : ops.size ≤ lo + (rc :: R).length + rest.length := by
    have h1 := hr rest.length
    have h5 : ops[lo + (rc :: R).length + rest.length]? = none := by rw [← h1]; simp
    exact Array.getElem?_eq_none_iff.1 h5
  intro hV hE hH
  have hge : lo + (rc :: R).length ≤ ops.size := by
    obtain ⟨o, ho, _⟩ := hV.2.1
    have := (Array.getElem?_eq_some_iff.1 ho).1
    simp only [List.length_cons]; omega
  have hsz : ops.size = lo + (rc :: R).length + rest.length := by
    rcases hrl : rest with _ | ⟨o, r⟩
    · rw [hrl] at hle; simp only [List.length_nil, Nat.add_zero] at hle ⊢; omega
    · have h2 := hr r.length
      rw [hrl] at h2 hle
      have h3 : (o :: r)[r.length]? ≠ none := by simp
      rw [h2] at h3
      have h4 : lo + (rc :: R).length + r.length < ops.size := Nat.lt_of_not_le fun hh => h3 (Array.getElem?_eq_none hh)
      simp only [List.length_cons] at hle h4 ⊢; omega
  exact dw_close hps (Nat.beq_refl _) (by rw [hsz]; exact hc) hchk (h hps hr) hV hE hH

/-! Guards. -/
theorem gp_none {d : Option Tmp} {op : Op} {ty : TypeId} {pos : String} {aft : Array Edge} {dd : Nat} {a : AV} (h : Pstep P F ⟨d, op, ty, pos, aft, none⟩ s dd a) : Gpure P F ops ⟨d, op, ty, pos, aft, none⟩ s dd a := by
  refine ⟨lt_of_blt h.1, fun ρ act w hs => ?_⟩
  unfold wpRun
  rw [if_pos (by simp [Region.wanted])]
  refine wp_weaken ?_ (h.2.2 ρ act w hs)
  rintro act' w' ⟨v, h1, h2, h3, h4, h5⟩
  exact ⟨v, h1, h2, ⟨h3.os.trans hs.heap.os.symm, h3.tape.trans hs.heap.tape.symm, h3.output.trans hs.heap.output.symm⟩, h4, h5⟩
theorem guard_val {ρ : Nat → Nat → Value} {act : Act} {w : World} (hs : SR F s ρ act w) {j t : Nat} {b' : Bool} (hj : (ops[j]?).bind (·.dst) = some t) (hv : get s.env t = some (.d (.raw (.bool b')))) : yielded ops act.tmps j = some b' := by
  have hr := hs.env t _ hv
  unfold yielded
  rw [hj]
  cases hr with
  | d hr =>
    generalize hg : act.tmps.getD t undef = v at hr
    cases hr with
    | raw _ =>
      simp only [Option.bind_some]
      rw [Array.getD_eq_getD_getElem?] at hg
      cases hh : act.tmps[t]? with
      | none => rw [hh] at hg; simp [undef] at hg
      | some x => rw [hh] at hg; simp at hg; subst hg; rfl
theorem gp_run {d : Option Tmp} {op : Op} {ty : TypeId} {pos : String} {aft : Array Edge} {dd j t : Nat} {b b' : Bool} {a : AV} (hj : (ops[j]?).bind (·.dst) = some t) (hv : get s.env t = some (.d (.raw (.bool b')))) (hb : b' = b) (h : Pstep P F ⟨d, op, ty, pos, aft, some (j, b)⟩ s dd a) : Gpure P F ops ⟨d, op, ty, pos, aft, some (j, b)⟩ s dd a := by
  refine ⟨lt_of_blt h.1, fun ρ act w hs => ?_⟩
  unfold wpRun
  rw [if_pos (by simp [Region.wanted, guard_val hs hj hv, hb])]
  refine wp_weaken ?_ (h.2.2 ρ act w hs)
  rintro act' w' ⟨v, h1, h2, h3, h4, h5⟩
  exact ⟨v, h1, h2, ⟨h3.os.trans hs.heap.os.symm, h3.tape.trans hs.heap.tape.symm, h3.output.trans hs.heap.output.symm⟩, h4, h5⟩
theorem gp_pass {d : Nat} {op : Op} {ty : TypeId} {pos : String} {aft : Array Edge} {j t : Nat} {b b' : Bool} (hj : (ops[j]?).bind (·.dst) = some t) (hv : get s.env t = some (.d (.raw (.bool b')))) (hb : b' = !b) (hd : Nat.blt d s.n = true) : Gpure P F ops ⟨some d, op, ty, pos, aft, some (j, b)⟩ s d (.d (.tup [])) := by
  refine ⟨lt_of_blt hd, fun ρ act w hs => ?_⟩
  unfold wpRun
  rw [if_neg (by cases b <;> simp [Region.wanted, guard_val hs hj hv, hb])]
  exact ⟨_, rfl, rep_undef, ⟨rfl, rfl, rfl⟩, Nat.le_refl _, fun _ _ => rfl⟩
theorem gp_passU {d : Nat} {op : Op} {ty : TypeId} {pos : String} {aft : Array Edge} {j t : Nat} {b : Bool} (hj : (ops[j]?).bind (·.dst) = some t) (hv : get s.env t = some (.d (.tup []))) (hd : Nat.blt d s.n = true) : Gpure P F ops ⟨some d, op, ty, pos, aft, some (j, b)⟩ s d (.d (.tup [])) := by
  refine ⟨lt_of_blt hd, fun ρ act w hs => ?_⟩
  have hy := yielded_undef hj (tup_nil (hs.env t _ hv))
  unfold wpRun
  rw [if_neg (by simp [Region.wanted, hy])]
  exact ⟨_, rfl, rep_undef, ⟨rfl, rfl, rfl⟩, Nat.le_refl _, fun _ _ => rfl⟩
theorem ge_none {d : Option Tmp} {op : Op} {ty : TypeId} {pos : String} {aft : Array Edge} {s' : AS} {p : Nat → Nat → Bool} (h : Estep P F ⟨d, op, ty, pos, aft, none⟩ s s' p) : Geff P F ops ⟨d, op, ty, pos, aft, none⟩ s s' p := fun ρ act w hs => by
  unfold wpRun
  rw [if_pos (by simp [Region.wanted])]
  refine wp_weaken ?_ (wp_put (h ρ act w hs))
  rintro act' w' ⟨⟨ρ', h1, h2⟩, h3⟩
  exact ⟨ρ', h1, h3, h2⟩
theorem ge_run {d : Option Tmp} {op : Op} {ty : TypeId} {pos : String} {aft : Array Edge} {s' : AS} {p : Nat → Nat → Bool} {j t : Nat} {b b' : Bool} (hj : (ops[j]?).bind (·.dst) = some t) (hv : get s.env t = some (.d (.raw (.bool b')))) (hb : b' = b) (h : Estep P F ⟨d, op, ty, pos, aft, some (j, b)⟩ s s' p) : Geff P F ops ⟨d, op, ty, pos, aft, some (j, b)⟩ s s' p := fun ρ act w hs => by
  unfold wpRun
  rw [if_pos (by simp [Region.wanted, guard_val hs hj hv, hb])]
  refine wp_weaken ?_ (wp_put (h ρ act w hs))
  rintro act' w' ⟨⟨ρ', h1, h2⟩, h3⟩
  exact ⟨ρ', h1, h3, h2⟩

/-! The steps. -/
theorem next_rest {lo : Nat} {R : List Rc} {rc : Rc} (hr : ∀ k : Nat, (o :: rest)[k]? = ops[lo + R.length + k]?) : ops[lo + R.length]? = some o ∧ ∀ k : Nat, rest[k]? = ops[lo + (rc :: R).length + k]? := by
  refine ⟨by have := hr 0; simpa using this.symm, fun k => ?_⟩
  have := hr (k + 1)
  rw [List.getElem?_cons_succ] at this
  rw [this]; congr 1; simp only [List.length_cons]; omega

def recP (rd nm : List Nat) (d : Nat) (a : AV) : Rc := ⟨rd, [(d, some a)], nm, [], false, fun _ _ => true⟩
theorem d_pure (rd nm : List Nat) {l : List (Nat × AV)} {hs : Hp} {d : Nat} {a : AV} (hl : pick env rd = some l) (hh : part? hp nm = some hs) (h : ∀ F, Gpure P F ops o ⟨base.n, l, hs⟩ d a) (hK : Dsg P F ops pre lo rest Q base (recP rd nm d a :: R) ((d, a) :: env) hp) : Dsg P F ops pre lo (o :: rest) Q base R env hp := fun hps hr hV hE hH => by
  obtain ⟨ho, hr'⟩ := next_rest (rc := recP rd nm d a) hr
  refine hK hps hr' ⟨hV, ⟨o, ho, Sound.pure hl hh hE hH h⟩, fun f hf => absurd rfl hf⟩ (fun t x hx => ?_) fun f => ?_
  · show tgt _ _ (RS (recP rd nm d a :: R)) t = _
    simp only [RS, List.map_cons, tgt, recP, look]
    rcases get_cons hx with ⟨rfl, rfl⟩ | ⟨hne, hx⟩
    · simp
    · rw [beq_ne hne]; exact hE t x hx
  · show _ = tgt _ _ (RF (recP rd nm d a :: R)) f
    simp only [RF, List.map_cons, tgt, recP, look]
    exact hH f
theorem d_pureA (rd : List Nat) {l : List (Nat × AV)} {hs : Hp} {d : Nat} {a : AV} (hl : pick env rd = some l) (hh : part? hp (hpN base.hp) = some hs) (h : ∀ F, Gpure P F ops o ⟨base.n, l, hs⟩ d a) (hK : Dsg P F ops pre lo rest Q base (recP rd (hpN base.hp) d a :: R) ((d, a) :: env) hp) : Dsg P F ops pre lo (o :: rest) Q base R env hp := d_pure rd _ hl hh h hK
theorem d_pureP (rd nm : List Nat) {l : List (Nat × AV)} {hs : Hp} {d : Nat} {p : Prop} [Decidable p] (hl : pick env rd = some l) (hh : part? hp nm = some hs) (h : ∀ F, Gpure P F ops o ⟨base.n, l, hs⟩ d (.d (.raw (.bool (decide p)))))
    (ht : p → Dsg P F ops pre lo rest Q base (recP rd nm d (.d (.raw (.bool true))) :: R) ((d, .d (.raw (.bool true))) :: env) hp) (hf : ¬ p → Dsg P F ops pre lo rest Q base (recP rd nm d (.d (.raw (.bool false))) :: R) ((d, .d (.raw (.bool false))) :: env) hp) : Dsg P F ops pre lo (o :: rest) Q base R env hp := by
  by_cases hp : p
  · rw [decide_eq_true hp] at h; exact d_pure rd nm hl hh h (ht hp)
  · rw [decide_eq_false hp] at h; exact d_pure rd nm hl hh h (hf hp)
theorem d_pureB (rd nm : List Nat) {l : List (Nat × AV)} {hs : Hp} {d : Nat} {b : Bool} (hl : pick env rd = some l) (hh : part? hp nm = some hs) (h : ∀ F, Gpure P F ops o ⟨base.n, l, hs⟩ d (.d (.raw (.bool b))))
    (ht : b = true → Dsg P F ops pre lo rest Q base (recP rd nm d (.d (.raw (.bool true))) :: R) ((d, .d (.raw (.bool true))) :: env) hp) (hf : b = false → Dsg P F ops pre lo rest Q base (recP rd nm d (.d (.raw (.bool false))) :: R) ((d, .d (.raw (.bool false))) :: env) hp) : Dsg P F ops pre lo (o :: rest) Q base R env hp := by
  cases b with
  | true => exact d_pure rd nm hl hh h (ht rfl)
  | false => exact d_pure rd nm hl hh h (hf rfl)
theorem d_pureT (rd nm : List Nat) {l : List (Nat × AV)} {hs : Hp} {d : Nat} {b : Bool} (hl : pick env rd = some l) (hh : part? hp nm = some hs) (h : ∀ F, Gpure P F ops o ⟨base.n, l, hs⟩ d (.d (.raw (.bool b)))) (hb : b = true)
    (ht : Dsg P F ops pre lo rest Q base (recP rd nm d (.d (.raw (.bool true))) :: R) ((d, .d (.raw (.bool true))) :: env) hp) : Dsg P F ops pre lo (o :: rest) Q base R env hp := by
  subst hb; exact d_pure rd nm hl hh h ht
theorem d_pureF (rd nm : List Nat) {l : List (Nat × AV)} {hs : Hp} {d : Nat} {b : Bool} (hl : pick env rd = some l) (hh : part? hp nm = some hs) (h : ∀ F, Gpure P F ops o ⟨base.n, l, hs⟩ d (.d (.raw (.bool b)))) (hb : b = false)
    (ht : Dsg P F ops pre lo rest Q base (recP rd nm d (.d (.raw (.bool false))) :: R) ((d, .d (.raw (.bool false))) :: env) hp) : Dsg P F ops pre lo (o :: rest) Q base R env hp := by
  subst hb; exact d_pure rd nm hl hh h ht

def recE (rd nm : List Nat) (dv : List (Nat × AV)) (p : Nat → Nat → Bool) (env : List (Nat × AV)) (hs' : Hp) : Rc := ⟨rd, wsOf (effWs dv nm p env), nm, mkFs hs' nm, true, okNm nm p⟩
theorem d_eff (rd nm : List Nat) (dv : List (Nat × AV)) {l l' env' : List (Nat × AV)} {hs hs' hp1 hp' : Hp} {p : Nat → Nat → Bool} (hl : pick env rd = some l) (hh : part? hp nm = some hs) (h : ∀ F, Geff P F ops o ⟨base.n, l, hs⟩ ⟨base.n, l', hs'⟩ p)
    (hdv : (dv = [] ∧ o.dst = none) ∨ ∃ d a, dv = [(d, a)] ∧ o.dst = some d ∧ Nat.blt d base.n = true ∧ get l' d = some a ∧ a.ok (inNm nm) = true) (n1 : namesIn nm hs' = true) (n2 : hpIn nm hs' = true)
    (hE' : keepE? (okNm nm p) env = some env') (hr1 : rest? nm hp = some hp1) (hhp : some (hs' ++ hp1) = some hp') (hK : Dsg P F ops pre lo rest Q base (recE rd nm dv p env hs' :: R) (dv ++ env') hp') : Dsg P F ops pre lo (o :: rest) Q base R env hp := fun hps hr hV hE hH => by
  injection hhp with hhp
  subst hhp
  obtain ⟨ho, hr'⟩ := next_rest (rc := recE rd nm dv p env hs') hr
  have hfam1 : ∀ f, hfam hp1 f = if f ∈ nm then none else hfam hp f := by
    clear hK hH hE hr hr' hh
    intro f
    induction hp generalizing hp1 with
    | nil => simp only [rest?, Option.some.injEq] at hr1; subst hr1; simp [hfam]
    | cons q r ih =>
      obtain ⟨k, x⟩ := q
      simp only [rest?] at hr1
      split at hr1
      · cases hr1
      · rename_i r' hr'
        have ih' := ih hr'
        split at hr1 <;> (injection hr1 with hr1; subst hr1)
        · rename_i hm
          by_cases e : k = f
          · subst e; rw [ih', if_pos (memB_spec.1 hm), if_pos (memB_spec.1 hm)]
          · simp only [hfam, beq_ne e]; exact ih'
        · rename_i hm
          by_cases e : k = f
          · subst e
            have : k ∉ nm := fun h => by rw [memB_spec.2 h] at hm; cases hm
            simp [hfam, this]
          · simp only [hfam, beq_ne e]; exact ih'
  refine hK hps hr' ⟨hV, ⟨o, ho, Sound.eff hl hh hE hH h hdv n1 n2⟩, fun f hf => ?_⟩ (fun t x hx => ?_) fun f => ?_
  · have hf' : look (mkFs hs' nm) f ≠ none := hf
    rw [mkFs_spec] at hf'
    by_cases hm : f ∈ nm
    · exact hm
    · rw [if_neg hm] at hf'; exact absurd rfl hf'
  · show tgt _ _ (RS (recE rd nm dv p env hs' :: R)) t = _
    simp only [RS, List.map_cons, tgt, recE]
    rw [wsOf_spec, effWs, get_app]
    rw [get_app] at hx
    cases hd : get dv t with
    | some y => rw [hd] at hx; simp at hx; subst hx; simp
    | none =>
      rw [hd] at hx
      simp only [Option.none_or] at hx ⊢
      rw [keepE?_get hE'] at hx
      rw [killsOf_spec]
      have hm : memB t [] = false := rfl
      rw [hm]
      cases hg : get env t with
      | none => rw [hg] at hx; cases hx
      | some b =>
        rw [hg] at hx
        simp only [Option.map_some, Option.some.injEq] at hx
        cases hb : b.ok (okNm nm p) with
        | true =>
          rw [hb] at hx; simp only at hx; subst hx
          simp only [hb, Option.map_none, Option.getD_none]
          exact hE t b hg
        | false =>
          rw [hb] at hx; simp only at hx; subst hx
          simp only [hb, Option.map_some, Option.getD_some]
  · show _ = tgt _ _ (RF (recE rd nm dv p env hs' :: R)) f
    simp only [RF, List.map_cons, tgt, recE]
    rw [hfam_app n1 f (fun hf => by rw [hfam1, if_pos hf]), mkFs_spec, hfam1]
    split
    · simp
    · simp only [Option.getD_none]; exact hH f
theorem dwc (hi : Nat) {n : Nat} {env0 : List (Nat × AV)} {hp0 : Hp} {rc : Rc} (hhi : Nat.beq (lo + (rc :: R).length) hi = true) (hc : cutB pre (hi + rest.length) lo hi = true) (hchk : chkAll pre lo env0 hp0 (rc :: R) = true) (h : Dw P F ops pre hi rest Q ⟨n, env, hp⟩) : Dsg P F ops pre lo rest Q ⟨n, env0, hp0⟩ (rc :: R) env hp := dwc0 hi hhi hc hchk h
end

end Go.Proofs.Ytnflcmpdaoobcaa
