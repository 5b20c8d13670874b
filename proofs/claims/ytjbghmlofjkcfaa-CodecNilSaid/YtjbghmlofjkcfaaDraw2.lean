/- Regions whose order is drawn: the steps and the orders. No program in sight. -/
import Derived.Test.YtjbghmlofjkcfaaDraw
namespace Go.Proofs.Ytjbghmlofjkcfaa
open Go.RowKit

theorem look_fam (hp : Hp) (f : Nat) : look hp f = hfam hp f := by
  induction hp with
  | nil => rfl
  | cons p r ih => obtain ⟨k, a⟩ := p; simp only [look, hfam, ih]; cases Nat.beq k f <;> rfl

/-- An operation runs, or its guard passes it by. -/
def wpRun (P : Program) (ops : Array Oper) (o : Oper) (K : Act → World → Prop) (a : Act) (w : World) : Prop :=
  if Region.wanted o (yielded ops a.tmps) then o.wp P a w K (fun _ _ _ => False) else K (a.put o.dst undef) w
theorem wpRun_mono {P : Program} {ops : Array Oper} {o : Oper} {K K' : Act → World → Prop} {a : Act} {w : World} (hk : ∀ a w, K a w → K' a w) (h : wpRun P ops o K a w) : wpRun P ops o K' a w := by
  unfold wpRun at h ⊢
  split
  · rename_i hw; rw [if_pos hw] at h; exact wp_weaken hk h
  · rename_i hw; rw [if_neg hw] at h; exact hk _ _ h

theorem wp_put {P : Program} {o : Oper} {a : Act} {w : World} {K : Act → World → Prop} (h : o.wp P a w K (fun _ _ _ => False)) : o.wp P a w (fun a' w' => K a' w' ∧ (a'.defers = [] → ∃ v, a' = a.put o.dst v)) (fun _ _ _ => False) := by
  unfold Oper.wp at h ⊢
  generalize (execOp a.eval o).run P w = r at h
  cases r with
  | ok x w =>
    cases x with
    | value v => exact ⟨h, fun _ => ⟨v, rfl⟩⟩
    | skip => exact ⟨h, fun _ => ⟨_, rfl⟩⟩
    | defer d =>
      refine ⟨h, fun hd => ?_⟩
      cases hh : o.dst with
      | none => rw [hh] at hd; simp [Act.put] at hd
      | some d' => rw [hh] at hd; simp [Act.put] at hd
    | enter f args =>
      rw [Oper.upon_enter] at h ⊢
      refine h.mono fun e w' he => ?_
      cases e with
      | returned v => exact ⟨he, fun _ => ⟨v, rfl⟩⟩
      | panicked _ => exact he.elim
      | outgrown => obtain ⟨_, _, hf⟩ := he; exact hf.elim
    | row r args =>
      rw [Oper.upon_row] at h ⊢
      exact Go.Rows.mono h fun v w' hv => ⟨hv, fun _ => ⟨v, rfl⟩⟩
    | _ => exact h.elim
  | halt x w =>
    cases x <;> exact h.elim

/-- What a record says of its operation, wherever it comes. -/
def Sound (P : Program) (ops : Array Oper) (n : Nat) (o : Oper) (rc : Rc) (txtS : Nat → Option AV) (txtF : Nat → Option (List AObj)) : Prop :=
  ∀ F ρ act w env hp, SR F ⟨n, env, hp⟩ ρ act w → (∀ t ∈ rc.rd, get env t = txtS t) → (∀ f ∈ rc.nm, hfam hp f = txtF f) →
    (rc.eff = true → ∀ t a, get env t = some a → look rc.ws t = none → a.ok rc.ok = true) → (rc.eff = true → ∀ f l, hfam hp f = some l → look rc.fs f = none → okOs rc.ok l = true) →
    wpRun P ops o (fun act' w' => ∃ ρ' env' hp', SR F ⟨n, env', hp'⟩ ρ' act' w' ∧ (∀ t, get env' t = (look rc.ws t).getD (get env t)) ∧ ∀ f, hfam hp' f = (look rc.fs f).getD (hfam hp f)) act w

/-- A guard and an operation that only reckons. -/
def Gpure (P : Program) (F : Fr) (ops : Array Oper) (o : Oper) (s : AS) (d : Nat) (a : AV) : Prop := d < s.n ∧ ∀ ρ act w, SR F s ρ act w →
  wpRun P ops o (fun act' w' => ∃ v, act' = act.put (some d) v ∧ RepA w' (F.O ρ s.hp) ρ a v ∧ (w'.os = w.os ∧ w'.tape = w.tape ∧ w'.output = w.output) ∧ w.heap.size ≤ w'.heap.size ∧ ∀ b, b < w.heap.size → w'.heap[b]? = w.heap[b]?) act w
def Geff (P : Program) (F : Fr) (ops : Array Oper) (o : Oper) (s s' : AS) (p : Nat → Nat → Bool) : Prop := ∀ ρ act w, SR F s ρ act w →
  wpRun P ops o (fun act' w' => ∃ ρ', SR F s' ρ' act' w' ∧ (∃ v, act' = act.put o.dst v) ∧ ∀ f i, p f i = true → ρ' f i = ρ f i) act w

theorem Heap.stay {F : Fr} {hp : Hp} {ρ : Nat → Nat → Value} {w w' : World} (h : Heap F hp ρ w) (ho : w'.os = w.os ∧ w'.tape = w.tape ∧ w'.output = w.output) (hs : w.heap.size ≤ w'.heap.size) (hb : ∀ b, b < w.heap.size → w'.heap[b]? = w.heap[b]?) : Heap F hp ρ w' := by
  refine ⟨fun f i o ho => ?_, h.inj, fun b hb => ⟨Nat.lt_of_lt_of_le (h.mine b hb).1 hs, (h.mine b hb).2⟩, ho.1.trans h.os, ho.2.1.trans h.tape, ho.2.2.trans h.output, Nat.le_trans h.size0 hs, fun b hlt hn => ?_, h.pins⟩
  · exact (h.sim f i o ho).mono hs (fun b hlt _ => hb b hlt) (fun _ _ h => h) (fun b hv => hb b (h.mine b ⟨f, i, o, ho, hv⟩).1) fun _ _ _ => rfl
  · rw [hb b (Nat.lt_of_lt_of_le hlt h.size0)]; exact h.keep b hlt hn

theorem part?_spec {hp hs : Hp} {nm : List Nat} (h : part? hp nm = some hs) : namesIn nm hs = true ∧ ∀ g, g ∈ nm → hfam hs g = hfam hp g := by
  have key : ∀ (nm : List Nat) (hs : Hp), part? hp nm = some hs → (∀ g l, (g, l) ∈ hs → g ∈ nm) ∧ ∀ g, g ∈ nm → hfam hs g = hfam hp g := by
    intro nm
    induction nm with
    | nil => intro hs h; simp only [part?, Option.some.injEq] at h; subst h; exact ⟨(fun g l h => by cases h), (fun g h => by cases h)⟩
    | cons a r ih =>
      intro hs h
      simp only [part?] at h
      split at h
      · cases h
      · rename_i l hl
        obtain ⟨h1, h2⟩ := ih l hl
        split at h
        · rename_i hn
          injection h with h; subst h
          refine ⟨fun g x hg => List.mem_cons_of_mem _ (h1 g x hg), fun g hg => ?_⟩
          rcases List.mem_cons.1 hg with rfl | hg
          · by_cases hm : g ∈ r
            · exact h2 g hm
            · rw [hn]
              cases hh : hfam l g with
              | none => rfl
              | some x =>
                have : ∀ (l : Hp) x, hfam l g = some x → ∃ y, (g, y) ∈ l := by
                  intro l
                  induction l with
                  | nil => intro x h; cases h
                  | cons p q ih =>
                    intro x h
                    obtain ⟨k, z⟩ := p
                    simp only [hfam] at h
                    split at h
                    · rename_i hk; rw [← Nat.eq_of_beq_eq_true hk]; exact ⟨z, List.mem_cons_self⟩
                    · obtain ⟨y, hy⟩ := ih x h; exact ⟨y, List.mem_cons_of_mem _ hy⟩
                obtain ⟨y, hy⟩ := this l x hh
                exact absurd (h1 g y hy) hm
          · exact h2 g hg
        · rename_i x hx
          injection h with h; subst h
          refine ⟨fun g y hg => ?_, fun g hg => ?_⟩
          · rcases List.mem_cons.1 hg with e | hg
            · injection e with e1; subst e1; exact List.mem_cons_self
            · exact List.mem_cons_of_mem _ (h1 g y hg)
          · simp only [hfam]
            split
            · rename_i hk; rw [← Nat.eq_of_beq_eq_true hk]; exact hx.symm
            · rename_i hk
              rcases List.mem_cons.1 hg with rfl | hg
              · exact absurd rfl (Nat.ne_of_beq_eq_false hk)
              · exact h2 g hg
  obtain ⟨h1, h2⟩ := key nm hs h
  refine ⟨?_, h2⟩
  clear h h2 key
  induction hs with
  | nil => rfl
  | cons p r ih =>
    obtain ⟨k, l⟩ := p
    simp only [namesIn, Bool.and_eq_true]
    exact ⟨memB_spec.2 (h1 k l List.mem_cons_self), ih fun g l hg => h1 g l (List.mem_cons_of_mem _ hg)⟩
theorem famsEq_of {hp CH : Hp} {nm : List Nat} (h : ∀ g, g ∈ nm → hfam hp g = hfam CH g) : FamsEq hp CH nm := by
  induction nm with
  | nil => trivial
  | cons a r ih => exact ⟨h a List.mem_cons_self, ih fun g hg => h g (List.mem_cons_of_mem _ hg)⟩

theorem pick_mem {env0 : List (Nat × AV)} {rd : List Nat} {l : List (Nat × AV)} (hl : pick env0 rd = some l) : ∀ t a, get l t = some a → t ∈ rd ∧ get env0 t = some a := by
  induction rd generalizing l with
  | nil => intro t a ha; simp only [pick, Option.some.injEq] at hl; subst hl; cases ha
  | cons x r ih =>
    intro t a ha
    simp only [pick] at hl
    split at hl
    · cases hl
    · rename_i l' hl'
      split at hl
      · injection hl with hl; subst hl
        obtain ⟨e1, e2⟩ := ih hl' t a ha
        exact ⟨List.mem_cons_of_mem _ e1, e2⟩
      · rename_i y hy
        injection hl with hl; subst hl
        rcases get_cons ha with ⟨rfl, rfl⟩ | ⟨_, ha⟩
        · exact ⟨List.mem_cons_self, hy⟩
        · obtain ⟨e1, e2⟩ := ih hl' t a ha
          exact ⟨List.mem_cons_of_mem _ e1, e2⟩

section
variable {P : Program} {ops : Array Oper} {n : Nat} {o : Oper}

theorem Sound.pure {rd nm : List Nat} {l env0 : List (Nat × AV)} {hs hp0 : Hp} {d : Nat} {a : AV} {txtS : Nat → Option AV} {txtF : Nat → Option (List AObj)} (hl : pick env0 rd = some l) (hh : part? hp0 nm = some hs)
    (hS : ∀ t a, get env0 t = some a → txtS t = some a) (hF : ∀ f, hfam hp0 f = txtF f) (h : ∀ F, Gpure P F ops o ⟨n, l, hs⟩ d a) : Sound P ops n o ⟨rd, [(d, some a)], nm, [], false, fun _ _ => true⟩ txtS txtF := by
  intro F ρ act w env hp hsr h1 h2 _ _
  obtain ⟨p1, p2⟩ := part?_spec hh
  obtain ⟨hOf, q1, q2⟩ := heap_part hsr.heap nm (famsEq_of fun g hg => by rw [h2 g hg, ← hF, p2 g hg]) p1
  have hmem := pick_mem hl
  have hsm : SR (frameOf F hp hs ρ w hOf) ⟨n, l, hs⟩ ρ act w := by
    refine ⟨hsr.size, hsr.defs, fun t x hx => ?_, q1⟩
    obtain ⟨e1, e2⟩ := hmem t x hx
    rw [q2]
    exact hsr.env t x (by show get env t = some x; rw [h1 t e1]; exact hS t x e2)
  obtain ⟨g0, g1⟩ := h (frameOf F hp hs ρ w hOf)
  refine wpRun_mono ?_ (g1 ρ act w hsm)
  rintro act' w' ⟨v, rfl, r1, r2, r3, r4⟩
  refine ⟨ρ, (d, a) :: env, hp, SR.put (s := ⟨n, env, hp⟩) ⟨hsr.size, hsr.defs, fun t x hx => (hsr.env t x hx).mono r3 (fun b hlt _ => r4 b hlt) (fun _ _ h => h) (fun _ _ _ => rfl), hsr.heap.stay r2 r3 r4⟩ g0 (by rw [q2] at r1; exact r1), fun t => ?_, fun f => rfl⟩
  simp only [look, get]
  cases Nat.beq d t <;> rfl

/-! Effects. -/
def killsOf (ok : Nat → Nat → Bool) : List Nat → List (Nat × AV) → List (Nat × AV)
  | _, [] => []
  | ks, (t, a) :: r => match memB t ks, a.ok ok with
    | false, false => (t, .top) :: killsOf ok (t :: ks) r
    | _, _ => killsOf ok (t :: ks) r
theorem killsOf_spec {ok : Nat → Nat → Bool} {ks : List Nat} {env : List (Nat × AV)} {t : Nat} : get (killsOf ok ks env) t = match memB t ks, get env t with
    | false, some a => match a.ok ok with
      | true => none
      | false => some .top
    | _, _ => none := by
  induction env generalizing ks with
  | nil => simp only [killsOf, get]; cases memB t ks <;> rfl
  | cons q r ih =>
    obtain ⟨k, b⟩ := q
    have ih' := ih (ks := k :: ks)
    simp only [killsOf]
    by_cases e : k = t
    · subst e
      have hm : memB k (k :: ks) = true := memB_spec.2 List.mem_cons_self
      rw [hm] at ih'
      have hg : get ((k, b) :: r) k = some b := by simp only [get, Nat.beq_refl]
      rw [hg]
      cases h1 : memB k ks with
      | true => exact ih'
      | false =>
        cases h2 : b.ok ok with
        | true => simp only [h2]; exact ih'
        | false => simp only [h2, get, Nat.beq_refl]
    · have hm : memB t (k :: ks) = memB t ks := by simp only [memB, beq_ne e, Bool.false_or]
      rw [hm] at ih'
      have hg : get ((k, b) :: r) t = get r t := by simp only [get, beq_ne e]
      rw [hg]
      split
      · simp only [get, beq_ne e]; exact ih'
      · exact ih'
theorem keepE?_get {p : Nat → Nat → Bool} {env env' : List (Nat × AV)} (h : keepE? p env = some env') (t : Nat) : get env' t = (get env t).map fun a => match a.ok p with
    | true => a
    | false => .top := by
  induction env generalizing env' with
  | nil => simp only [keepE?, Option.some.injEq] at h; subst h; rfl
  | cons q r ih =>
    obtain ⟨k, x⟩ := q
    simp only [keepE?] at h
    split at h
    · cases h
    · rename_i r' hr
      have ih' := ih hr
      split at h <;> (injection h with h; subst h)
      · rename_i hx
        by_cases e : k = t
        · subst e; simp only [get, Nat.beq_refl, Option.map_some, hx]
        · simp only [get, beq_ne e]; exact ih'
      · rename_i hx
        by_cases e : k = t
        · subst e; simp only [get, Nat.beq_refl, Option.map_some, hx]
        · simp only [get, beq_ne e]; exact ih'
def wsOf : List (Nat × AV) → List (Nat × Option AV)
  | [] => []
  | (t, a) :: r => (t, some a) :: wsOf r
theorem wsOf_spec (l : List (Nat × AV)) (t : Nat) : look (wsOf l) t = (get l t).map some := by
  induction l with
  | nil => rfl
  | cons q r ih =>
    obtain ⟨k, a⟩ := q
    simp only [wsOf, look, get]
    cases Nat.beq k t <;> simp [ih]
theorem get_app (l env : List (Nat × AV)) (t : Nat) : get (l ++ env) t = (get l t).or (get env t) := by
  induction l with
  | nil => rfl
  | cons q r ih =>
    obtain ⟨k, a⟩ := q
    simp only [List.cons_append, get]
    cases Nat.beq k t <;> simp [ih]
def mkFs (hs' : Hp) : List Nat → List (Nat × Option (List AObj))
  | [] => []
  | f :: r => (f, hfam hs' f) :: mkFs hs' r
theorem mkFs_spec {hs' : Hp} {nm : List Nat} {f : Nat} : look (mkFs hs' nm) f = if f ∈ nm then some (hfam hs' f) else none := by
  induction nm with
  | nil => simp [mkFs, look]
  | cons a r ih =>
    simp only [mkFs, look]
    by_cases e : a = f
    · subst e; simp
    · rw [beq_ne e]
      simp only [ih, List.mem_cons]
      by_cases hm : f ∈ r
      · simp [hm]
      · have e' : ¬ f = a := fun h => e h.symm
        simp [hm, e']
def dropF (nm : List Nat) : Hp → Hp
  | [] => []
  | (g, l) :: r => match memB g nm with
    | true => dropF nm r
    | false => (g, l) :: dropF nm r
theorem dropF_spec {nm : List Nat} {hp : Hp} (f : Nat) : hfam (dropF nm hp) f = if f ∈ nm then none else hfam hp f := by
  induction hp with
  | nil => simp [dropF, hfam]
  | cons q r ih =>
    obtain ⟨k, l⟩ := q
    simp only [dropF]
    by_cases e : k = f
    · subst e
      cases hm : memB k nm with
      | true => simp only [ih, if_pos (memB_spec.1 hm)]
      | false =>
        have hm' : k ∉ nm := fun h => by rw [memB_spec.2 h] at hm; cases hm
        simp [hfam, hm']
    · cases hm : memB k nm with
      | true => simp only [ih, hfam, beq_ne e]
      | false => simp only [hfam, beq_ne e, ih]
theorem hfam_app {nm : List Nat} {H rest : Hp} (hH : namesIn nm H = true) (f : Nat) (hr : f ∈ nm → hfam rest f = none) : hfam (H ++ rest) f = if f ∈ nm then hfam H f else hfam rest f := by
  have key : ∀ H : Hp, hfam (H ++ rest) f = (hfam H f).or (hfam rest f) := by
    intro H
    induction H with
    | nil => rfl
    | cons p r ih =>
      obtain ⟨k, l⟩ := p
      simp only [List.cons_append, hfam]
      cases Nat.beq k f <;> simp [ih]
  rw [key]
  split
  · rename_i hf; rw [hr hf]; simp
  · rename_i hf
    cases hh : hfam H f with
    | none => rfl
    | some l => exact absurd (namesIn_fam hH hh) hf
def okNm (nm : List Nat) (p : Nat → Nat → Bool) (f i : Nat) : Bool := !(memB f nm) || p f i

/-- What an effect writes: its own slot, if it has one, and nothing more is known of the slots that refer to what has moved. -/
def effWs (dv : List (Nat × AV)) (nm : List Nat) (p : Nat → Nat → Bool) (env0 : List (Nat × AV)) : List (Nat × AV) := dv ++ killsOf (okNm nm p) [] env0

theorem Sound.eff {rd nm : List Nat} {l l' env0 dv : List (Nat × AV)} {hs hs' hp0 : Hp} {p : Nat → Nat → Bool} {txtS : Nat → Option AV} {txtF : Nat → Option (List AObj)} (hl : pick env0 rd = some l) (hh : part? hp0 nm = some hs)
    (hS : ∀ t a, get env0 t = some a → txtS t = some a) (hF : ∀ f, hfam hp0 f = txtF f) (h : ∀ F, Geff P F ops o ⟨n, l, hs⟩ ⟨n, l', hs'⟩ p)
    (hdv : (dv = [] ∧ o.dst = none) ∨ ∃ d a, dv = [(d, a)] ∧ o.dst = some d ∧ Nat.blt d n = true ∧ get l' d = some a ∧ a.ok (inNm nm) = true) (n1 : namesIn nm hs' = true) (n2 : hpIn nm hs' = true) :
    Sound P ops n o ⟨rd, wsOf (effWs dv nm p env0), nm, mkFs hs' nm, true, okNm nm p⟩ txtS txtF := by
  intro F ρ act w env hp hsr h1 h2 h3 h4
  obtain ⟨p1, p2⟩ := part?_spec hh
  have hfe := famsEq_of (hp := hp) (CH := hs) (nm := nm) fun g hg => by rw [h2 g hg, ← hF, p2 g hg]
  obtain ⟨hOf, q1, q2⟩ := heap_part hsr.heap nm hfe p1
  have hmem := pick_mem hl
  have hsm : SR (frameOf F hp hs ρ w hOf) ⟨n, l, hs⟩ ρ act w := by
    refine ⟨hsr.size, hsr.defs, fun t x hx => ?_, q1⟩
    obtain ⟨e1, e2⟩ := hmem t x hx
    rw [q2]
    exact hsr.env t x (by show get env t = some x; rw [h1 t e1]; exact hS t x e2)
  refine wpRun_mono ?_ (h (frameOf F hp hs ρ w hOf) ρ act w hsm)
  rintro act' w' ⟨ρ', hs2, ⟨v, hv⟩, hp'⟩
  have hdrop : ∀ g i, hget (dropF nm hp) g i = if g ∈ nm then none else hget hp g i := fun g i => by
    simp only [hget, dropF_spec]
    split <;> rfl
  have hLess : ∀ g i ob, hget (dropF nm hp) g i = some ob → ob.Less (okNm nm p) ob := fun g i ob ho => by
    rw [hdrop] at ho
    split at ho
    · cases ho
    · rename_i hg
      simp only [hget] at ho
      cases hfa : hfam hp g with
      | none => rw [hfa] at ho; cases ho
      | some lo =>
        rw [hfa] at ho
        have hok := h4 rfl g lo hfa (by rw [mkFs_spec, if_neg hg])
        exact ⟨fun _ _ _ _ h => h, fun f i hr => okOs_spec hok (List.mem_of_getElem? ho) hr, fun t cs e => ⟨cs, e⟩, fun t cs e => ⟨cs, e⟩⟩
  obtain ⟨ρ'', a1, a2, a3, a4, a5⟩ := heap_join (ok := okNm nm p) hsr.heap nm hfe p1 hdrop (fun g i ob ho => ⟨ob, ho, hLess g i ob ho⟩) (fun g i ob ho => ⟨ob, ho, hLess g i ob ho⟩) hOf q1 hs2.heap n1 n2
    (fun f i hf hok => hp' f i (by simpa only [okNm, memB_spec.2 hf, Bool.not_true, Bool.false_or] using hok))
  have htmps : act'.defers = [] ∧ act'.tmps.size = n ∧ ∀ t, get dv t = none → act'.tmps.getD t undef = act.tmps.getD t undef := by
    refine ⟨hs2.defs, hs2.size, fun t ht => ?_⟩
    rcases hdv with ⟨e1, e2⟩ | ⟨d, a, e1, e2, e3, _⟩
    · rw [hv, e2]; rfl
    · rw [hv, e2]
      refine getD_put_ne fun e => ?_
      subst e
      rw [e1] at ht; simp [get] at ht
  refine ⟨ρ'', effWs dv nm p env0 ++ env, hs' ++ dropF nm hp, ⟨htmps.2.1, htmps.1, fun t x hx => ?_, a1⟩, fun t => ?_, fun f => ?_⟩
  · have hx' : get (effWs dv nm p env0 ++ env) t = some x := hx
    rw [get_app, effWs, get_app] at hx'
    cases hd : get dv t with
    | some y =>
      rw [hd] at hx'
      simp at hx'
      subst hx'
      rcases hdv with ⟨e1, e2⟩ | ⟨d, a, e1, e2, e3, e4, e5⟩
      · rw [e1] at hd; cases hd
      · rw [e1] at hd
        rcases get_cons hd with ⟨rfl, rfl⟩ | ⟨_, hd⟩
        · exact a2 _ _ (fun f i hf => memB_spec.1 (AV.ok_spec e5 hf)) (hs2.env d a e4)
        · cases hd
    | none =>
      rw [hd] at hx'
      simp only [Option.none_or] at hx'
      cases hk : get (killsOf (okNm nm p) [] env0) t with
      | some y =>
        rw [hk] at hx'
        simp at hx'
        subst hx'
        rw [killsOf_spec] at hk
        have : y = AV.top := by
          split at hk
          · split at hk
            · cases hk
            · injection hk with hk; exact hk.symm
          · cases hk
        rw [this]; exact .top
      | none =>
        rw [hk] at hx'
        simp only [Option.none_or] at hx'
        have hok := h3 rfl t x hx' (by rw [wsOf_spec, effWs, get_app, hd, hk]; rfl)
        rw [htmps.2.2 t hd]
        exact a3 _ _ (fun f i hf => AV.ok_spec hok hf) (hsr.env t x hx')
  · show get (effWs dv nm p env0 ++ env) t = (look (wsOf (effWs dv nm p env0)) t).getD (get env t)
    rw [wsOf_spec, get_app]
    cases get (effWs dv nm p env0) t <;> rfl
  · show hfam (hs' ++ dropF nm hp) f = (look (mkFs hs' nm) f).getD (hfam hp f)
    rw [hfam_app n1 f (fun hf => by rw [dropF_spec, if_pos hf]), mkFs_spec, dropF_spec]
    split <;> simp
end

end Go.Proofs.Ytjbghmlofjkcfaa
