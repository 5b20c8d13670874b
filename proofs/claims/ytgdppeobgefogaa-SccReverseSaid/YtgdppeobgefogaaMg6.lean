/- Regions whose order is drawn, the plain part: what a set of done operations leaves. No program in sight. -/
import Derived.Test.YtgdppeobgefogaaMg5
import Derived.Orders
namespace Go.Proofs.Ytgdppeobgefogaa
open Go.RowKit

def look {α : Type} : List (Nat × α) → Nat → Option α
  | [], _ => none
  | (k, a) :: r, t => match Nat.beq k t with
    | true => some a
    | false => look r t
def tgt {α : Type} (base : Nat → α) (L : Nat → Bool) : List (List (Nat × α)) → Nat → α
  | [], t => base t
  | ws :: r, t => match L r.length with
    | true => (look ws t).getD (tgt base L r t)
    | false => tgt base L r t

theorem rev_cons_lt {β : Type} {x : β} {r : List β} {k : Nat} {y : β} (h : r.reverse[k]? = some y) : (x :: r).reverse[k]? = some y := by
  have hk : k < r.reverse.length := (List.getElem?_eq_some_iff.1 h).1;rw [List.reverse_cons, List.getElem?_append_left hk]; exact h
theorem rev_cons_eq {β : Type} {x : β} {r : List β} : (x :: r).reverse[r.length]? = some x := by
  rw [List.reverse_cons, List.getElem?_append_right (by simp)]; simp
theorem Zbz {β : Type} {x : β} {r : List β} {k : Nat} {y : β} (h : (x :: r).reverse[k]? = some y) : r.reverse[k]? = some y ∨ (k = r.length ∧ y = x) := by
  rw [List.reverse_cons] at h;rcases Nat.lt_or_ge k r.reverse.length with hk | hk
  · rw [List.getElem?_append_left hk] at h; exact .inl h
  · rw [List.getElem?_append_right hk] at h
    have hk' : k - r.reverse.length = 0 := by
      have := (List.getElem?_eq_some_iff.1 h).1
      simp at this; simp; omega
    rw [hk'] at h
    simp at h hk
    refine .inr ⟨?_, h.symm⟩
    simp at hk'; omega
theorem rev_lt {β : Type} {r : List β} {k : Nat} {y : β} (h : r.reverse[k]? = some y) : k < r.length := by
  have := (List.getElem?_eq_some_iff.1 h).1; simpa using this

theorem tgt_congr {α : Type} {base : Nat → α} {L L' : Nat → Bool} {R : List (List (Nat × α))} {t : Nat} (h : ∀ k ws, R.reverse[k]? = some ws → look ws t ≠ none → L k = L' k) : tgt base L R t = tgt base L' R t := by
  induction R with
  | nil => rfl
  | cons ws r ih =>
    have ih' := ih fun k ws hk hl => h k ws (rev_cons_lt hk) hl;simp only [tgt]
    cases hw : look ws t with
    | none => cases L r.length <;> cases L' r.length <;> simp [ih']
    | some a => rw [h r.length ws rev_cons_eq (by rw [hw]; simp), ih']
theorem tgt_prefix {α : Type} {base : Nat → α} {A Ri : List (List (Nat × α))} {t : Nat} : tgt base (fun k => decide (k < Ri.length)) (A ++ Ri) t = tgt base (fun _ => true) Ri t := by
  induction A with
  | nil => exact tgt_congr fun k ws hk _ => by have := rev_lt (r := Ri) hk; simp [this]
  | cons x r ih =>
    rw [List.cons_append, tgt];have : decide ((r ++ Ri).length < Ri.length) = false := by simp
    rw [this]; exact ih
theorem tgt_origin {α : Type} {base : Nat → α} {L : Nat → Bool} {R : List (List (Nat × α))} {t : Nat} : (tgt base L R t = base t ∧ ∀ k ws, R.reverse[k]? = some ws → look ws t ≠ none → L k = false) ∨ ∃ k ws, R.reverse[k]? = some ws ∧ L k = true ∧ look ws t = some (tgt base L R t) := by
  induction R with
  | nil => exact .inl ⟨rfl, fun k ws h => by simp at h⟩
  | cons ws r ih =>
    cases hL : L r.length with
    | false =>
      have e : tgt base L (ws :: r) t = tgt base L r t := by simp only [tgt, hL]
      rw [e];rcases ih with ⟨h1, h2⟩ | ⟨k, ws', h1, h2, h3⟩
      · refine .inl ⟨h1, fun k ws' hk hl => ?_⟩;rcases Zbz hk with hk | ⟨rfl, rfl⟩
        · exact h2 k ws' hk hl
        · exact hL
      · exact .inr ⟨k, ws', rev_cons_lt h1, h2, h3⟩
    | true =>
      cases hw : look ws t with
      | some a =>
        have e : tgt base L (ws :: r) t = a := by simp only [tgt, hL, hw, Option.getD_some]
        exact .inr ⟨r.length, ws, rev_cons_eq, hL, by rw [e]; exact hw⟩
      | none =>
        have e : tgt base L (ws :: r) t = tgt base L r t := by simp only [tgt, hL, hw, Option.getD_none]
        rw [e];rcases ih with ⟨h1, h2⟩ | ⟨k, ws', h1, h2, h3⟩
        · refine .inl ⟨h1, fun k ws' hk hl => ?_⟩;rcases Zbz hk with hk | ⟨rfl, rfl⟩
          · exact h2 k ws' hk hl
          · exact absurd hw hl
        · exact .inr ⟨k, ws', rev_cons_lt h1, h2, h3⟩
theorem tgt_update {α : Type} {base : Nat → α} {L L' : Nat → Bool} {R : List (List (Nat × α))} {t i : Nat} {ws : List (Nat × α)} (hi : R.reverse[i]? = some ws) (hL : L i = false) (hL' : ∀ k, L' k = if k = i then true else L k)
    (hlate : look ws t ≠ none → ∀ k ws', R.reverse[k]? = some ws' → i < k → L k = true → look ws' t = none) : tgt base L' R t = (look ws t).getD (tgt base L R t) := by
  induction R with
  | nil => simp at hi
  | cons x r ih =>
    rcases Zbz hi with hi' | ⟨rfl, rfl⟩
    · have hne : r.length ≠ i := by have := rev_lt hi'; omega
      have ih' := ih hi' fun hw k ws' hk => hlate hw k ws' (rev_cons_lt hk);simp only [tgt, hL', if_neg hne]
      cases hLr : L r.length with
      | false => exact ih'
      | true =>
        cases hw : look ws t with
        | none => rw [hw] at ih'; simp only [Option.getD_none] at ih' ⊢; rw [ih']
        | some a =>
          rw [hlate (by rw [hw]; simp) r.length x rev_cons_eq (rev_lt hi') hLr];rw [hw] at ih'
          simpa using ih'
    · simp only [tgt, hL', if_true, hL]
      congr 1
      refine tgt_congr fun k ws' hk _ => ?_;rw [hL', if_neg (by have := rev_lt hk; omega)]

structure Rc where
  rd : List Nat
  ws : List (Nat × Option AV)
  nm : List Nat
  fs : List (Nat × Option (List AObj))
  eff : Bool
  ok : Nat → Nat → Bool

def disjK {α : Type} (ws : List (Nat × α)) : List Nat → Bool
  | [] => true
  | t :: r => (match look ws t with
    | none => true
    | some _ => false) && disjK ws r
theorem disjK_spec {α : Type} {ws : List (Nat × α)} {l : List Nat} (h : disjK ws l = true) {t : Nat} (ht : t ∈ l) : look ws t = none := by
  induction l with
  | nil => cases ht
  | cons a r ih =>
    simp only [disjK, Bool.and_eq_true] at h;rcases List.mem_cons.1 ht with rfl | ht
    · cases hh : look ws t with
      | none => rfl
      | some x => rw [hh] at h; simp at h
    · exact ih h.2 ht
def keysOf {α : Type} : List (Nat × α) → List Nat
  | [] => []
  | (k, _) :: r => k :: keysOf r
theorem keysOf_spec {α : Type} {ws : List (Nat × α)} {t : Nat} (h : look ws t ≠ none) : t ∈ keysOf ws := by
  induction ws with
  | nil => exact absurd rfl h
  | cons p r ih =>
    obtain ⟨k, a⟩ := p;simp only [look] at h
    split at h
    · rename_i hk; exact List.mem_cons.2 (.inl (Nat.eq_of_beq_eq_true hk).symm)
    · exact List.mem_cons.2 (.inr (ih h))

def okO (p : Nat → Nat → Bool) : AObj → Bool
  | .blk _ cs => okC p cs
  | .row _ _ xs => xs.all fun x => okL p x.cells
  | .rowD _ _ _ => true
  | .loop L => okEnv p L.env
  | .map _ _ => true
  | .iter f i _ _ => p f i
  | .addr f i _ => p f i
  | .any => true
  | .nb _ _ _ => true
  | .nr _ _ _ _ _ => true
  | .multi _ => true
def okOs (p : Nat → Nat → Bool) : List AObj → Bool
  | [] => true
  | o :: r => okO p o && okOs p r
theorem okO_spec {p : Nat → Nat → Bool} {o : AObj} (h : okO p o = true) {f i : Nat} (hr : o.Refs f i) : p f i = true := by
  cases o with
  | blk t cs => obtain ⟨c, hc, hr⟩ := hr; exact okC_spec h hc hr
  | row t k xs => obtain ⟨x, hx, c, hc, hr⟩ := hr; exact okL_spec (List.all_eq_true.1 h x hx) hc hr
  | rowD t k xs => exact hr.elim
  | loop L => obtain ⟨t, a, ha, hr⟩ := hr; exact okEnv_spec h ha hr
  | map _ es => exact hr.elim
  | iter f' i' _ _ => obtain ⟨e1, e2⟩ := hr; subst e1 e2; exact h
  | addr f' i' _ => obtain ⟨e1, e2⟩ := hr; subst e1 e2; exact h
  | any => exact hr.elim
  | nb _ _ _ => exact hr.elim
  | nr _ _ _ _ _ => exact hr.elim
  | multi _ => exact hr.elim
theorem okOs_spec {p : Nat → Nat → Bool} {l : List AObj} (h : okOs p l = true) {o : AObj} (ho : o ∈ l) {f i : Nat} (hr : o.Refs f i) : p f i = true := by
  induction l with
  | nil => cases ho
  | cons a r ih =>
    simp only [okOs, Bool.and_eq_true] at h;rcases List.mem_cons.1 ho with rfl | ho
    · exact okO_spec h.1 hr
    · exact ih h.2 ho
def okWs (p : Nat → Nat → Bool) (ex : List (Nat × Option AV)) : List (Nat × Option AV) → Bool
  | [] => true
  | (t, a) :: r => (match look ex t with
    | some _ => true
    | none => match a with
      | none => true
      | some a => a.ok p) && okWs p ex r
theorem okWs_spec {p : Nat → Nat → Bool} {ex ws : List (Nat × Option AV)} (h : okWs p ex ws = true) {t : Nat} {a : AV} (ha : look ws t = some (some a)) (hx : look ex t = none) : a.ok p = true := by
  induction ws with
  | nil => cases ha
  | cons q r ih =>
    obtain ⟨k, b⟩ := q;simp only [okWs, Bool.and_eq_true] at h;simp only [look] at ha
    split at ha
    · rename_i hk
      have hk' := Nat.eq_of_beq_eq_true hk;subst hk';injection ha with ha; subst ha
      rw [hx] at h;exact h.1
    · exact ih h.2 ha
def okFs (p : Nat → Nat → Bool) (ex : List (Nat × Option (List AObj))) : List (Nat × Option (List AObj)) → Bool
  | [] => true
  | (t, a) :: r => (match look ex t with
    | some _ => true
    | none => match a with
      | none => true
      | some l => okOs p l) && okFs p ex r
theorem okFs_spec {p : Nat → Nat → Bool} {ex ws : List (Nat × Option (List AObj))} (h : okFs p ex ws = true) {t : Nat} {l : List AObj} (ha : look ws t = some (some l)) (hx : look ex t = none) : okOs p l = true := by
  induction ws with
  | nil => cases ha
  | cons q r ih =>
    obtain ⟨k, b⟩ := q;simp only [okFs, Bool.and_eq_true] at h;simp only [look] at ha
    split at ha
    · rename_i hk
      have hk' := Nat.eq_of_beq_eq_true hk;subst hk';injection ha with ha; subst ha
      rw [hx] at h;exact h.1
    · exact ih h.2 ha
def okE (p : Nat → Nat → Bool) (ex : List (Nat × Option AV)) : List Nat → List (Nat × AV) → Bool
  | _, [] => true
  | ks, (t, a) :: r => (match memB t ks with
    | true => true
    | false => match look ex t with
      | some _ => true
      | none => a.ok p) && okE p ex (t :: ks) r
theorem okE_spec {p : Nat → Nat → Bool} {ex : List (Nat × Option AV)} {ks : List Nat} {env : List (Nat × AV)} (h : okE p ex ks env = true) {t : Nat} {a : AV} (ha : get env t = some a) (hk : t ∉ ks) (hx : look ex t = none) : a.ok p = true := by
  induction env generalizing ks with
  | nil => cases ha
  | cons q r ih =>
    obtain ⟨k, b⟩ := q;simp only [okE, Bool.and_eq_true] at h;rcases Zbn ha with ⟨rfl, rfl⟩ | ⟨hne, ha⟩
    · have : memB k ks = false := by
        cases hm : memB k ks with
        | false => rfl
        | true => exact absurd (ZaX.1 hm) hk
      rw [this, hx] at h;exact h.1
    · exact ih h.2 ha (fun hm => (List.mem_cons.1 hm).elim (fun e => hne e.symm) hk)
def okH (p : Nat → Nat → Bool) (ex : List (Nat × Option (List AObj))) : Hp → Bool
  | [] => true
  | (f, l) :: r => (match look ex f with
    | some _ => true
    | none => okOs p l) && okH p ex r
theorem okH_spec {p : Nat → Nat → Bool} {ex : List (Nat × Option (List AObj))} {hp : Hp} (h : okH p ex hp = true) {f : Nat} {l : List AObj} (ha : hfam hp f = some l) (hx : look ex f = none) : okOs p l = true := by
  induction hp with
  | nil => cases ha
  | cons q r ih =>
    obtain ⟨k, b⟩ := q;simp only [okH, Bool.and_eq_true] at h;simp only [hfam] at ha
    split at ha
    · rename_i hk
      have hk' := Nat.eq_of_beq_eq_true hk;subst hk';injection ha with ha; subst ha
      rw [hx] at h;exact h.1
    · exact ih h.2 ha

def pairOK (ord : Bool) (rj ri : Rc) : Bool :=
  (ord || (disjK rj.ws ri.rd && (disjK rj.ws (keysOf ri.ws) && (disjK ri.ws rj.rd && (disjK rj.fs ri.nm && disjK ri.fs rj.nm))))) &&
  ((!ri.eff || (okWs ri.ok ri.ws rj.ws && okFs ri.ok ri.fs rj.fs)) && (ord || (!rj.eff || (okWs rj.ok rj.ws ri.ws && okFs rj.ok rj.fs ri.fs))))
def preAt : List (List Nat) → Nat → List Nat
  | [], _ => []
  | l :: _, 0 => l
  | _ :: r, i + 1 => preAt r i
def chkHead (pr : List Nat) (lo : Nat) (ri : Rc) : List Rc → Bool
  | [] => true
  | rj :: r => pairOK (memB (lo + r.length) pr) rj ri && chkHead pr lo ri r
def chkAll (pre : List (List Nat)) (lo : Nat) (env : List (Nat × AV)) (hp : Hp) : List Rc → Bool
  | [] => true
  | ri :: r => chkHead (preAt pre (lo + r.length)) lo ri r && ((!ri.eff || (okE ri.ok ri.ws [] env && okH ri.ok ri.fs hp)) && chkAll pre lo env hp r)
theorem chkHead_spec {pr : List Nat} {lo : Nat} {ri : Rc} {r : List Rc} (h : chkHead pr lo ri r = true) {j : Nat} {rj : Rc} (hj : r.reverse[j]? = some rj) : pairOK (memB (lo + j) pr) rj ri = true := by
  induction r with
  | nil => simp at hj
  | cons x r ih =>
    simp only [chkHead, Bool.and_eq_true] at h;rcases Zbz hj with hj | ⟨rfl, rfl⟩
    · exact ih h.2 hj
    · exact h.1
theorem chkAll_pair {pre : List (List Nat)} {lo : Nat} {env : List (Nat × AV)} {hp : Hp} {R : List Rc} (h : chkAll pre lo env hp R = true) {i j : Nat} {ri rj : Rc} (hi : R.reverse[i]? = some ri) (hj : R.reverse[j]? = some rj) (hlt : j < i) : pairOK (memB (lo + j) (preAt pre (lo + i))) rj ri = true := by
  induction R with
  | nil => simp at hi
  | cons x r ih =>
    simp only [chkAll, Bool.and_eq_true] at h;rcases Zbz hi with hi' | ⟨rfl, rfl⟩
    · rcases Zbz hj with hj' | ⟨rfl, rfl⟩
      · exact ih h.2.2 hi' hj'
      · have := rev_lt hi'; omega
    · rcases Zbz hj with hj' | ⟨rfl, rfl⟩
      · exact chkHead_spec h.1 hj'
      · omega
theorem chkAll_base {pre : List (List Nat)} {lo : Nat} {env : List (Nat × AV)} {hp : Hp} {R : List Rc} (h : chkAll pre lo env hp R = true) {i : Nat} {ri : Rc} (hi : R.reverse[i]? = some ri) (he : ri.eff = true) : okE ri.ok ri.ws [] env = true ∧ okH ri.ok ri.fs hp = true := by
  induction R with
  | nil => simp at hi
  | cons x r ih =>
    simp only [chkAll, Bool.and_eq_true] at h;rcases Zbz hi with hi' | ⟨rfl, rfl⟩
    · exact ih h.2.2 hi'
    · have := h.2.1;rw [he] at this
      simpa using this

def preOK (ops : List Oper) (pre : List (List Nat)) : List (List Nat) → List Oper → Nat → Bool
  | [], [], _ => true
  | l :: ls, o :: os, i => (l.all fun x => o.after.toList.any fun e => Region.binds .any e && (Nat.beq e.on x || memB x (preAt pre e.on))) && ((o.after.toList.all fun e => !Region.binds .any e || Nat.blt e.on i) && preOK ops pre ls os (i + 1))
  | _, _, _ => false
end Go.Proofs.Ytgdppeobgefogaa

/- Regions whose order is drawn: the steps and the orders. No program in sight. -/
namespace Go.Proofs.Ytgdppeobgefogaa
open Go.RowKit

def wpRun (P : Program) (ops : Array Oper) (o : Oper) (K : Act → World → Prop) (a : Act) (w : World) : Prop :=
  if Region.wanted o (yielded ops a.tmps) then o.wp P a w K (fun _ _ _ => False) else K (a.put o.dst undef) w
theorem wpRun_mono {P : Program} {ops : Array Oper} {o : Oper} {K K' : Act → World → Prop} {a : Act} {w : World} (hk : ∀ a w, K a w → K' a w) (h : wpRun P ops o K a w) : wpRun P ops o K' a w := by
  unfold wpRun at h ⊢
  split
  · rename_i hw; rw [if_pos hw] at h; exact wp_weaken hk h
  · rename_i hw; rw [if_neg hw] at h; exact hk _ _ h

theorem wp_put {P : Program} {o : Oper} {a : Act} {w : World} {K : Act → World → Prop} (h : o.wp P a w K (fun _ _ _ => False)) : o.wp P a w (fun a' w' => K a' w' ∧ ∃ v, a'.tmps = (a.put o.dst v).tmps) (fun _ _ _ => False) := by
  unfold Oper.wp at h ⊢
  generalize (execOp a.eval o).run P w = r at h
  cases r with
  | ok x w =>
    cases x with
    | value v => exact ⟨h, v, rfl⟩
    | skip => exact ⟨h, _, rfl⟩
    | defer d =>
      refine ⟨h, undef, ?_⟩
      cases o.dst <;> rfl
    | enter f args =>
      rw [Oper.upon_enter] at h ⊢;refine h.mono fun e w' he => ?_
      cases e with
      | returned v => exact ⟨he, v, rfl⟩
      | panicked _ => exact he.elim
      | outgrown => obtain ⟨_, _, hf⟩ := he; exact hf.elim
    | row r args =>
      rw [Oper.upon_row] at h ⊢
      exact Go.Rows.mono h fun v w' hv => ⟨hv, v, rfl⟩
    | _ => exact h.elim
  | halt x w =>
    cases x <;> exact h.elim

abbrev FamC := Nat → Option (List AObj) → Prop
abbrev C0 : FamC := fun _ _ => True
def Sound (P : Program) (ops : Array Oper) (n : Nat) (o : Oper) (rc : Rc) (C : FamC) (txtS : Nat → Option AV) (txtF : Nat → Option (List AObj)) : Prop :=
  ∀ F ρ act w env hp, SR F ⟨n, env, hp⟩ ρ act w → (∀ f, C f (hfam hp f)) → (∀ t ∈ rc.rd, get env t = txtS t) → (∀ f ∈ rc.nm, hfam hp f = txtF f) →
    (rc.eff = true → ∀ t a, get env t = some a → look rc.ws t = none → a.ok rc.ok = true) → (rc.eff = true → ∀ f l, hfam hp f = some l → look rc.fs f = none → okOs rc.ok l = true) →
    wpRun P ops o (fun act' w' => ∃ ρ' env' hp', SR F ⟨n, env', hp'⟩ ρ' act' w' ∧ (∀ t, get env' t = (look rc.ws t).getD (get env t)) ∧ ∀ f, hfam hp' f = (look rc.fs f).getD (hfam hp f)) act w

def Gpure (P : Program) (F : Fr) (ops : Array Oper) (o : Oper) (s : AS) (d : Nat) (a : AV) : Prop := d < s.n ∧ ∀ ρ act w, SR F s ρ act w →
  wpRun P ops o (fun act' w' => ∃ v, act' = act.put (some d) v ∧ RepA w' (F.O ρ s.hp) ρ a v ∧ (w'.os = w.os ∧ w'.tape = w.tape ∧ w'.output = w.output ∧ F.w0.drawn ≤ w'.drawn) ∧ w.heap.size ≤ w'.heap.size ∧ ∀ b, b < w.heap.size → w'.heap[b]? = w.heap[b]?) act w
def Geff (P : Program) (F : Fr) (ops : Array Oper) (o : Oper) (s s' : AS) (p : Nat → Nat → Bool) : Prop := ∀ ρ act w, SR F s ρ act w →
  wpRun P ops o (fun act' w' => ∃ ρ', SR F s' ρ' act' w' ∧ (∃ v, act'.tmps = (act.put o.dst v).tmps) ∧ ∀ f i, p f i = true → ρ' f i = ρ f i) act w

theorem Heap.stay {F : Fr} {hp : Hp} {ρ : Nat → Nat → Value} {w w' : World} (h : Heap F hp ρ w) (ho : w'.os = w.os ∧ w'.tape = w.tape ∧ w'.output = w.output ∧ F.w0.drawn ≤ w'.drawn) (hs : w.heap.size ≤ w'.heap.size) (hb : ∀ b, b < w.heap.size → w'.heap[b]? = w.heap[b]?) : Heap F hp ρ w' := by
  refine ⟨fun f i o ho => ?_, h.inj, fun b hb => ⟨Nat.lt_of_lt_of_le (h.mine b hb).1 hs, (h.mine b hb).2⟩, ho.1.trans h.os, ho.2.1.trans h.tape, ho.2.2.1.trans h.output, Nat.le_trans h.size0 hs, fun b hlt hn => ?_, h.pins, ho.2.2.2⟩
  · exact (h.sim f i o ho).mono hs (fun b hlt _ => hb b hlt) (fun _ _ h => h) (fun b hv => hb b (h.mine b ⟨f, i, o, ho, hv⟩).1) fun _ _ _ => rfl
  · rw [hb b (Nat.lt_of_lt_of_le hlt h.size0)]; exact h.keep b hlt hn

theorem part?_spec {hp hs : Hp} {nm : List Nat} (h : part? hp nm = some hs) : namesIn nm hs = true ∧ ∀ g, g ∈ nm → hfam hs g = hfam hp g := by
  have key : ∀ (nm : List Nat) (hs : Hp), part? hp nm = some hs → (∀ g l, (g, l) ∈ hs → g ∈ nm) ∧ ∀ g, g ∈ nm → hfam hs g = hfam hp g := by
    intro nm
    induction nm with
    | nil => intro hs h; simp only [part?, Option.some.injEq] at h; subst h; exact ⟨(fun g l h => by cases h), (fun g h => by cases h)⟩
    | cons a r ih =>
      intro hs h;simp only [part?] at h
      split at h
      · cases h
      · rename_i l hl
        obtain ⟨h1, h2⟩ := ih l hl
        split at h
        · rename_i hn
          injection h with h; subst h
          refine ⟨fun g x hg => List.mem_cons_of_mem _ (h1 g x hg), fun g hg => ?_⟩;rcases List.mem_cons.1 hg with rfl | hg
          · by_cases hm : g ∈ r
            · exact h2 g hm
            · rw [hn]
              cases hh : hfam l g with
              | none => rfl
              | some x =>
                have : ∀ (l : Hp) x, hfam l g = some x → ∃ y, (g, y) ∈ l := by
                  intro l
                  induction l with
                  | nil => intro x h; cases h
                  | cons p q ih =>
                    intro x h;obtain ⟨k, z⟩ := p;simp only [hfam] at h
                    split at h
                    · rename_i hk; rw [← Nat.eq_of_beq_eq_true hk]; exact ⟨z, List.mem_cons_self⟩
                    · obtain ⟨y, hy⟩ := ih x h; exact ⟨y, List.mem_cons_of_mem _ hy⟩
                obtain ⟨y, hy⟩ := this l x hh;exact absurd (h1 g y hy) hm
          · exact h2 g hg
        · rename_i x hx
          injection h with h; subst h
          refine ⟨fun g y hg => ?_, fun g hg => ?_⟩
          · rcases List.mem_cons.1 hg with e | hg
            · injection e with e1; subst e1; exact List.mem_cons_self
            · exact List.mem_cons_of_mem _ (h1 g y hg)
          · simp only [hfam]
            split
            · rename_i hk; rw [← Nat.eq_of_beq_eq_true hk]; exact hx.symm
            · rename_i hk
              rcases List.mem_cons.1 hg with rfl | hg
              · exact absurd rfl (Nat.ne_of_beq_eq_false hk)
              · exact h2 g hg
  obtain ⟨h1, h2⟩ := key nm hs h;refine ⟨?_, h2⟩
  clear h h2 key
  induction hs with
  | nil => rfl
  | cons p r ih =>
    obtain ⟨k, l⟩ := p;simp only [namesIn, Bool.and_eq_true];exact ⟨ZaX.2 (h1 k l List.mem_cons_self), ih fun g l hg => h1 g l (List.mem_cons_of_mem _ hg)⟩
theorem famsEq_of {hp CH : Hp} {nm : List Nat} (h : ∀ g, g ∈ nm → hfam hp g = hfam CH g) : FamsEq hp CH nm := by
  induction nm with
  | nil => trivial
  | cons a r ih => exact ⟨h a List.mem_cons_self, ih fun g hg => h g (List.mem_cons_of_mem _ hg)⟩

theorem pick_mem {env0 : List (Nat × AV)} {rd : List Nat} {l : List (Nat × AV)} (hl : pick env0 rd = some l) : ∀ t a, get l t = some a → t ∈ rd ∧ get env0 t = some a := by
  induction rd generalizing l with
  | nil => intro t a ha; simp only [pick, Option.some.injEq] at hl; subst hl; cases ha
  | cons x r ih =>
    intro t a ha;simp only [pick] at hl
    split at hl
    · cases hl
    · rename_i l' hl'
      split at hl
      · injection hl with hl; subst hl
        obtain ⟨e1, e2⟩ := ih hl' t a ha;exact ⟨List.mem_cons_of_mem _ e1, e2⟩
      · rename_i y hy
        injection hl with hl; subst hl
        rcases Zbn ha with ⟨rfl, rfl⟩ | ⟨_, ha⟩
        · exact ⟨List.mem_cons_self, hy⟩
        · obtain ⟨e1, e2⟩ := ih hl' t a ha;exact ⟨List.mem_cons_of_mem _ e1, e2⟩

section
variable {P : Program} {ops : Array Oper} {n : Nat} {o : Oper}

theorem Sound.pure {rd nm : List Nat} {l env0 : List (Nat × AV)} {hs hp0 : Hp} {d : Nat} {a : AV} {txtS : Nat → Option AV} {txtF : Nat → Option (List AObj)} (hl : pick env0 rd = some l) (hh : part? hp0 nm = some hs)
    (hS : ∀ t a, get env0 t = some a → txtS t = some a) (hF : ∀ f, hfam hp0 f = txtF f) {C : FamC} (h : ∀ F, Gpure P F ops o ⟨n, l, hs⟩ d a) : Sound P ops n o ⟨rd, [(d, some a)], nm, [], false, fun _ _ => true⟩ C txtS txtF := by
  intro F ρ act w env hp hsr _ h1 h2 _ _;obtain ⟨p1, p2⟩ := part?_spec hh;obtain ⟨hOf, q1, q2⟩ := heap_part F.lo hsr.heap nm (famsEq_of fun g hg => by rw [h2 g hg, ← hF, p2 g hg]) p1;have hmem := pick_mem hl
  have hsm : SR (frameOf F F.lo hp hs ρ w hOf) ⟨n, l, hs⟩ ρ act w := by
    refine ⟨hsr.size, q2 ▸ hsr.defs, fun t x hx => ?_, q1⟩;obtain ⟨e1, e2⟩ := hmem t x hx;rw [q2];exact hsr.env t x (by show get env t = some x; rw [h1 t e1]; exact hS t x e2)
  obtain ⟨g0, g1⟩ := h (frameOf F F.lo hp hs ρ w hOf);refine wpRun_mono ?_ (g1 ρ act w hsm);rintro act' w' ⟨v, rfl, r1, r2, r3, r4⟩;refine ⟨ρ, (d, a) :: env, hp, SR.put (s := ⟨n, env, hp⟩) ⟨hsr.size, hsr.defs.mono r3 (fun b hlt _ => r4 b hlt) (fun _ _ h => h), fun t x hx => (hsr.env t x hx).mono r3 (fun b hlt _ => r4 b hlt) (fun _ _ h => h) (fun _ _ _ => rfl), hsr.heap.stay ⟨r2.1, r2.2.1, r2.2.2.1, Nat.le_trans hsr.heap.drawn r2.2.2.2⟩ r3 r4⟩ g0 (by rw [q2] at r1; exact r1), fun t => ?_, fun f => rfl⟩;simp only [look, get]
  cases Nat.beq d t <;> rfl

def AV.okK (ok : Nat → Nat → Bool) (b : Bool) : AV → Bool
  | .top => !b
  | a => a.ok ok
theorem AV.okK_eq {ok : Nat → Nat → Bool} {b : Bool} {a : AV} (h : a ≠ .top) : a.okK ok b = a.ok ok := by
  cases a <;> first | rfl | exact absurd rfl h
def killsOf (ok : Nat → Nat → Bool) (xs : List Nat) : List Nat → List (Nat × AV) → List (Nat × AV)
  | _, [] => []
  | ks, (t, a) :: r => match memB t ks, a.okK ok (memB t xs) with
    | false, false => (t, .top) :: killsOf ok xs (t :: ks) r
    | _, _ => killsOf ok xs (t :: ks) r
theorem killsOf_spec {ok : Nat → Nat → Bool} {xs ks : List Nat} {env : List (Nat × AV)} {t : Nat} : get (killsOf ok xs ks env) t = match memB t ks, get env t with
    | false, some a => match a.okK ok (memB t xs) with
      | true => none
      | false => some .top
    | _, _ => none := by
  induction env generalizing ks with
  | nil => simp only [killsOf, get]; cases memB t ks <;> rfl
  | cons q r ih =>
    obtain ⟨k, b⟩ := q;have ih' := ih (ks := k :: ks);simp only [killsOf]
    by_cases e : k = t
    · subst e;have hm : memB k (k :: ks) = true := ZaX.2 List.mem_cons_self;rw [hm] at ih';have hg : get ((k, b) :: r) k = some b := by simp only [get, Nat.beq_refl]
      rw [hg]
      cases h1 : memB k ks with
      | true => exact ih'
      | false =>
        cases h2 : b.okK ok (memB k xs) with
        | true => simp only [h2]; exact ih'
        | false => simp only [h2, get, Nat.beq_refl]
    · have hm : memB t (k :: ks) = memB t ks := by simp only [memB, ZaV e, Bool.false_or]
      rw [hm] at ih';have hg : get ((k, b) :: r) t = get r t := by simp only [get, ZaV e]
      rw [hg]
      split
      · simp only [get, ZaV e]; exact ih'
      · exact ih'
theorem keepE?_get {p : Nat → Nat → Bool} {env env' : List (Nat × AV)} (h : keepE? p env = some env') (t : Nat) : get env' t = (get env t).map fun a => match a.ok p with
    | true => a
    | false => .top := by
  induction env generalizing env' with
  | nil => simp only [keepE?, Option.some.injEq] at h; subst h; rfl
  | cons q r ih =>
    obtain ⟨k, x⟩ := q;simp only [keepE?] at h
    split at h
    · cases h
    · rename_i r' hr
      have ih' := ih hr
      split at h <;> (injection h with h; subst h)
      · rename_i hx
        by_cases e : k = t
        · subst e; simp only [get, Nat.beq_refl, Option.map_some, hx]
        · simp only [get, ZaV e]; exact ih'
      · rename_i hx
        by_cases e : k = t
        · subst e; simp only [get, Nat.beq_refl, Option.map_some, hx]
        · simp only [get, ZaV e]; exact ih'
def wsOf : List (Nat × AV) → List (Nat × Option AV)
  | [] => []
  | (t, a) :: r => (t, some a) :: wsOf r
theorem wsOf_spec (l : List (Nat × AV)) (t : Nat) : look (wsOf l) t = (get l t).map some := by
  induction l with
  | nil => rfl
  | cons q r ih =>
    obtain ⟨k, a⟩ := q;simp only [wsOf, look, get]
    cases Nat.beq k t <;> simp [ih]
theorem get_app (l env : List (Nat × AV)) (t : Nat) : get (l ++ env) t = (get l t).or (get env t) := by
  induction l with
  | nil => rfl
  | cons q r ih =>
    obtain ⟨k, a⟩ := q;simp only [List.cons_append, get]
    cases Nat.beq k t <;> simp [ih]
def mkFs (hs' : Hp) : List Nat → List (Nat × Option (List AObj))
  | [] => []
  | f :: r => (f, hfam hs' f) :: mkFs hs' r
theorem mkFs_spec {hs' : Hp} {nm : List Nat} {f : Nat} : look (mkFs hs' nm) f = if f ∈ nm then some (hfam hs' f) else none := by
  induction nm with
  | nil => simp [mkFs, look]
  | cons a r ih =>
    simp only [mkFs, look]
    by_cases e : a = f
    · subst e; simp
    · rw [ZaV e];simp only [ih, List.mem_cons]
      by_cases hm : f ∈ r
      · simp [hm]
      · have e' : ¬ f = a := fun h => e h.symm
        simp [hm, e']
def dropF (nm : List Nat) : Hp → Hp
  | [] => []
  | (g, l) :: r => match memB g nm with
    | true => dropF nm r
    | false => (g, l) :: dropF nm r
theorem dropF_spec {nm : List Nat} {hp : Hp} (f : Nat) : hfam (dropF nm hp) f = if f ∈ nm then none else hfam hp f := by
  induction hp with
  | nil => simp [dropF, hfam]
  | cons q r ih =>
    obtain ⟨k, l⟩ := q;simp only [dropF]
    by_cases e : k = f
    · subst e
      cases hm : memB k nm with
      | true => simp only [ih, if_pos (ZaX.1 hm)]
      | false =>
        have hm' : k ∉ nm := fun h => by rw [ZaX.2 h] at hm; cases hm
        simp [hfam, hm']
    · cases hm : memB k nm with
      | true => simp only [ih, hfam, ZaV e]
      | false => simp only [hfam, ZaV e, ih]
theorem hfam_app {nm : List Nat} {H rest : Hp} (hH : namesIn nm H = true) (f : Nat) (hr : f ∈ nm → hfam rest f = none) : hfam (H ++ rest) f = if f ∈ nm then hfam H f else hfam rest f := by
  have key : ∀ H : Hp, hfam (H ++ rest) f = (hfam H f).or (hfam rest f) := by
    intro H
    induction H with
    | nil => rfl
    | cons p r ih =>
      obtain ⟨k, l⟩ := p;simp only [List.cons_append, hfam]
      cases Nat.beq k f <;> simp [ih]
  rw [key]
  split
  · rename_i hf; rw [hr hf]; simp
  · rename_i hf
    cases hh : hfam H f with
    | none => rfl
    | some l => exact absurd (namesIn_fam hH hh) hf
def okNm (nm : List Nat) (p : Nat → Nat → Bool) (f i : Nat) : Bool := !(memB f nm) || p f i

def effWs (dv : List (Nat × AV)) (nm : List Nat) (p : Nat → Nat → Bool) (env0 : List (Nat × AV)) (xs : List Nat) : List (Nat × AV) := dv ++ killsOf (okNm nm p) xs [] env0

theorem Sound.eff {rd nm xs : List Nat} {l l' env0 dv : List (Nat × AV)} {hs hs' hp0 : Hp} {p : Nat → Nat → Bool} {txtS : Nat → Option AV} {txtF : Nat → Option (List AObj)} (hl : pick env0 rd = some l) (hh : part? hp0 nm = some hs)
    (hS : ∀ t a, get env0 t = some a → txtS t = some a) (hF : ∀ f, hfam hp0 f = txtF f) (h : ∀ F, Geff P F ops o ⟨n, l, hs⟩ ⟨n, l', hs'⟩ p)
    (hdv : (dv = [] ∧ o.dst = none) ∨ ∃ d a, dv = [(d, a)] ∧ o.dst = some d ∧ Nat.blt d n = true ∧ get l' d = some a ∧ a.ok (inNm nm) = true) (n1 : namesIn nm hs' = true) (n2 : hpIn nm hs' = true) {C : FamC} :
    Sound P ops n o ⟨rd, wsOf (effWs dv nm p env0 xs), nm, mkFs hs' nm, true, okNm nm p⟩ C txtS txtF := by
  intro F ρ act w env hp hsr _ h1 h2 h3 h4;obtain ⟨p1, p2⟩ := part?_spec hh;have hfe := famsEq_of (hp := hp) (CH := hs) (nm := nm) fun g hg => by rw [h2 g hg, ← hF, p2 g hg]
  obtain ⟨hOf, q1, q2⟩ := heap_part F.lo hsr.heap nm hfe p1;have hmem := pick_mem hl
  have hsm : SR (frameOf F F.lo hp hs ρ w hOf) ⟨n, l, hs⟩ ρ act w := by
    refine ⟨hsr.size, q2 ▸ hsr.defs, fun t x hx => ?_, q1⟩;obtain ⟨e1, e2⟩ := hmem t x hx;rw [q2];exact hsr.env t x (by show get env t = some x; rw [h1 t e1]; exact hS t x e2)
  refine wpRun_mono ?_ (h (frameOf F F.lo hp hs ρ w hOf) ρ act w hsm);rintro act' w' ⟨ρ', hs2, ⟨v, hv⟩, hp'⟩
  have hdrop : ∀ g i, hget (dropF nm hp) g i = if g ∈ nm then none else hget hp g i := fun g i => by
    simp only [hget, dropF_spec]
    split <;> rfl
  have hLess : ∀ g i ob, hget (dropF nm hp) g i = some ob → ob.Less (okNm nm p) ob := fun g i ob ho => by
    rw [hdrop] at ho
    split at ho
    · cases ho
    · rename_i hg
      simp only [hget] at ho
      cases hfa : hfam hp g with
      | none => rw [hfa] at ho; cases ho
      | some lo =>
        rw [hfa] at ho;have hok := h4 rfl g lo hfa (by rw [mkFs_spec, if_neg hg]);exact ⟨fun _ _ _ _ h => h, fun f i hr => (gl_mem ho).elim (fun hm => okOs_spec hok hm hr) (fun ⟨_, m, _, _, e⟩ => absurd (e ▸ hr) MObj.norefs), fun t cs e => ⟨cs, e⟩, fun t cs e => ⟨cs, e⟩⟩
  obtain ⟨ρ'', a1, a2, a3, a4, a5, _, a6⟩ := heap_join (ok := okNm nm p) hsr.heap nm hfe p1 hdrop (fun g i ob ho => ⟨ob, ho, hLess g i ob ho⟩) (fun g i ob ho => ⟨ob, ho, hLess g i ob ho⟩) hOf q1 hs2.heap n1 n2
    (fun f i hf hok => hp' f i (by simpa only [okNm, ZaX.2 hf, Bool.not_true, Bool.false_or] using hok))
  have htmps : act'.tmps.size = n ∧ ∀ t, get dv t = none → act'.tmps.getD t undef = act.tmps.getD t undef := by
    refine ⟨hs2.size, fun t ht => ?_⟩;rcases hdv with ⟨e1, e2⟩ | ⟨d, a, e1, e2, e3, _⟩
    · rw [hv, e2]; rfl
    · rw [hv, e2];refine getD_put_ne fun e => ?_;subst e;rw [e1] at ht; simp [get] at ht
  refine ⟨ρ'', effWs dv nm p env0 xs ++ env, hs' ++ dropF nm hp, ⟨htmps.1, hs2.defs.mono (Nat.le_refl _) (fun _ _ _ => rfl) (fun b _ => a6 b), fun t x hx => ?_, a1⟩, fun t => ?_, fun f => ?_⟩
  · have hx' : get (effWs dv nm p env0 xs ++ env) t = some x := hx;rw [get_app, effWs, get_app] at hx'
    cases hd : get dv t with
    | some y =>
      rw [hd] at hx'
      simp at hx'
      subst hx';rcases hdv with ⟨e1, e2⟩ | ⟨d, a, e1, e2, e3, e4, e5⟩
      · rw [e1] at hd; cases hd
      · rw [e1] at hd;rcases Zbn hd with ⟨rfl, rfl⟩ | ⟨_, hd⟩
        · exact a2 _ _ (fun f i hf => ZaX.1 (AV.ok_spec e5 hf)) (hs2.env d a e4)
        · cases hd
    | none =>
      rw [hd] at hx';simp only [Option.none_or] at hx'
      cases hk : get (killsOf (okNm nm p) xs [] env0) t with
      | some y =>
        rw [hk] at hx'
        simp at hx'
        subst hx';rw [killsOf_spec] at hk
        have : y = AV.top := by
          split at hk
          · split at hk
            · cases hk
            · injection hk with hk; exact hk.symm
          · cases hk
        rw [this]; exact .top
      | none =>
        rw [hk] at hx';simp only [Option.none_or] at hx';have hok := h3 rfl t x hx' (by rw [wsOf_spec, effWs, get_app, hd, hk]; rfl);rw [htmps.2 t hd];exact a3 _ _ (fun f i hf => AV.ok_spec hok hf) (hsr.env t x hx')
  · show get (effWs dv nm p env0 xs ++ env) t = (look (wsOf (effWs dv nm p env0 xs)) t).getD (get env t);rw [wsOf_spec, get_app]
    cases get (effWs dv nm p env0 xs) t <;> rfl
  · show hfam (hs' ++ dropF nm hp) f = (look (mkFs hs' nm) f).getD (hfam hp f);rw [hfam_app n1 f (fun hf => by rw [dropF_spec, if_pos hf]), mkFs_spec, dropF_spec]
    split <;> simp
end

end Go.Proofs.Ytgdppeobgefogaa

/- Regions whose order is drawn: all orders at once. No program in sight. -/
namespace Go.Proofs.Ytgdppeobgefogaa
open Go.RowKit

def Lf (listed : Array Bool) (k : Nat) : Bool := listed.getD k false
def cnt (L : Nat → Bool) : Nat → Nat
  | 0 => 0
  | n + 1 => cnt L n + (match L n with
    | true => 0
    | false => 1)
theorem cnt_set {L L' : Nat → Bool} {i n : Nat} (hi : L i = false) (hL : ∀ k, L' k = if k = i then true else L k) (hn : i < n) : cnt L' n + 1 = cnt L n := by
  induction n with
  | zero => omega
  | succ n ih =>
    have key : ∀ m, m ≤ i → cnt L' m = cnt L m := by
      intro m
      induction m with
      | zero => intro _; rfl
      | succ m ih => intro hm; simp only [cnt, ih (by omega), hL, if_neg (show ¬ m = i by omega)]
    by_cases e : n = i
    · subst e;simp only [cnt, key n (Nat.le_refl _), hL, if_true, hi]
    · have := ih (by omega);simp only [cnt, hL, if_neg e];omega
theorem cnt_pos {L : Nat → Bool} {i n : Nat} (hi : L i = false) (hn : i < n) : 0 < cnt L n := by
  induction n with
  | zero => omega
  | succ n ih =>
    by_cases e : n = i
    · subst e; simp only [cnt, hi]; omega
    · have := ih (by omega); simp only [cnt]; omega
theorem Lf_set {listed : Array Bool} {i : Nat} (hi : i < listed.size) (k : Nat) : Lf (listed.setIfInBounds i true) k = if k = i then true else Lf listed k := by
  unfold Lf
  by_cases e : k = i
  · subst e; simp [hi]
  · rw [if_neg e]; simp [Array.getElem?_setIfInBounds_ne (fun h => e h.symm)]

structure PreSpec (ops : Array Oper) (pre : List (List Nat)) : Prop where
  preds : ∀ (j : Nat) o, ops[j]? = some o → ∀ x ∈ preAt pre j, ∃ e ∈ o.after, Region.binds .any e = true ∧ (e.on = x ∨ x ∈ preAt pre e.on)
  back : ∀ (j : Nat) o, ops[j]? = some o → ∀ e ∈ o.after, Region.binds .any e = true → e.on < j
  nod : ∀ (j : Nat) o, ops[j]? = some o → Op.isDefer o.op = false
theorem preOK_spec {ops : Array Oper} {pre : List (List Nat)} (h : preOK ops.toList pre pre ops.toList 0 = true) (hnd : ops.toList.all (fun o => !Op.isDefer o.op) = true) : PreSpec ops pre := by
  have key : ∀ (ls : List (List Nat)) (os : List Oper) (i : Nat), preOK ops.toList pre ls os i = true → (∀ j, preAt ls j = preAt pre (i + j)) → ∀ (j : Nat) o, os[j]? = some o →
      (∀ x ∈ preAt pre (i + j), ∃ e ∈ o.after, Region.binds .any e = true ∧ (e.on = x ∨ x ∈ preAt pre e.on)) ∧ ∀ e ∈ o.after, Region.binds .any e = true → e.on < i + j := by
    intro ls
    induction ls with
    | nil => intro os i h _ j o hj; cases os with
      | nil => simp at hj
      | cons _ _ => simp [preOK] at h
    | cons l ls ih =>
      intro os i h hp j o hj
      cases os with
      | nil => simp at hj
      | cons o' os =>
        simp only [preOK, Bool.and_eq_true] at h;obtain ⟨h1, h2, h3⟩ := h
        cases j with
        | zero =>
          simp at hj; subst hj
          have h0 := hp 0;simp only [preAt, Nat.add_zero] at h0;refine ⟨fun x hx => ?_, fun e he hb => ?_⟩
          · rw [Nat.add_zero, ← h0] at hx;have := List.all_eq_true.1 h1 x hx;obtain ⟨e, he, hb⟩ := List.any_eq_true.1 this;simp only [Bool.and_eq_true, Bool.or_eq_true] at hb;exact ⟨e, Array.mem_toList_iff.1 he, hb.1, hb.2.imp Nat.eq_of_beq_eq_true ZaX.1⟩
          · have := List.all_eq_true.1 h2 e (Array.mem_toList_iff.2 he);rw [hb] at this
            simpa using Za3 (by simpa using this)
        | succ j =>
          have := ih os (i + 1) h3 (fun j => by have := hp (j + 1); simp only [preAt] at this; rw [this]; congr 1; omega) j o (by simpa using hj);rw [show i + 1 + j = i + (j + 1) by omega] at this;exact this
  have h' := key pre ops.toList 0 h (fun j => by rw [Nat.zero_add]);refine ⟨fun j o hj => ?_, fun j o hj => ?_, fun j o hj => by simpa using List.all_eq_true.1 hnd o (Array.mem_toList_iff.2 (Array.mem_of_getElem? hj))⟩
  · have := (h' j o (by simpa using hj)).1; rwa [Nat.zero_add] at this
  · have := (h' j o (by simpa using hj)).2; rwa [Nat.zero_add] at this
theorem PreSpec.lt {ops : Array Oper} {pre : List (List Nat)} (h : PreSpec ops pre) : ∀ j, j < ops.size → ∀ x ∈ preAt pre j, x < j := by
  intro j
  induction j using Nat.strongRecOn with
  | _ j ih =>
    intro hj x hx;obtain ⟨e, he, hb, hx'⟩ := h.preds j _ (Array.getElem?_eq_getElem hj) x hx;have := h.back j _ (Array.getElem?_eq_getElem hj) e he hb;rcases hx' with rfl | hx'
    · exact this
    · have := ih e.on this (by omega) x hx'; omega

section
variable {P : Program} {ops : Array Oper} {pre : List (List Nat)} {r : Option Nat} {Q : Exit → Act → World → Prop}

theorem wpIn_mono2 {o : Oper} {a : Act} {w : World} {K K' : Act → World → Prop} {Q Q' : Exit → Act → World → Prop} (hk : ∀ a w, K a w → K' a w) (hq : ∀ e a w, e ≠ .normal → Q e a w → Q' e a w) (hh : o.wpIn (fen r) 0 P a w K Q) : o.wpIn (fen r) 0 P a w K' Q' := by
  unfold Oper.wpIn at *;refine ⟨hh.1, ?_⟩;have hh := hh.2
  generalize (o.semAt (fen r).round a.eval).run P w = res at *
  have hl : LetsOut Q → LetsOut Q' := fun ⟨a, w, h⟩ => ⟨a, w, hq _ _ _ (by simp) h⟩
  cases res with
  | ok x w' =>
    cases x <;> simp only [Oper.uponIn] at hh ⊢ <;>
      first
        | exact hk _ _ hh
        | exact ⟨hh.1, CallsIn.mono hh.2 (fun e w'' he => by cases e <;> first | exact hk _ _ he | exact hq _ _ _ (by simp) he | exact hl he)⟩
        | exact ⟨hh.1, RowsIn.mono hh.2 (fun _ _ he => hk _ _ he)⟩
        | exact ⟨hh.1, RoundIn.mono hh.2 (fun e w'' he => by cases e <;> first | exact hk _ _ he | exact hq _ _ _ (by simp) he | exact hl he)⟩
  | halt x w' => cases x <;> simp only [Oper.uponIn] at hh ⊢ <;> first | exact hq _ _ _ (by simp) hh | exact hh
def wpRunIn (P : Program) (r : Option Nat) (ops : Array Oper) (o : Oper) (Q : Exit → Act → World → Prop) (K : Act → World → Prop) (a : Act) (w : World) : Prop :=
  if Region.wanted o (yielded ops a.tmps) then o.wpIn (fen r) 0 P a w K Q else K (a.put o.dst undef) w
theorem wpRunIn_of {o : Oper} {K : Act → World → Prop} {a : Act} {w : World} (hd : Op.isDefer o.op = false) (h : wpRun P ops o K a w) : wpRunIn P r ops o Q K a w := by
  unfold wpRun at h;unfold wpRunIn
  split
  · rename_i hw; rw [if_pos hw] at h; exact wpIn_of_wp hd h
  · rename_i hw; rw [if_neg hw] at h; exact h

theorem wpAny_seg (hp : PreSpec ops pre) (lo hi : Nat) (hhi : hi ≤ ops.size) (hcut : ∀ j, hi ≤ j → j < ops.size → ∀ x, lo ≤ x → x < hi → x ∈ preAt pre j) (Inv : (Nat → Bool) → Act → World → Prop)
    (step : ∀ (L : Nat → Bool) act w i, lo ≤ i → i < hi → L i = false → (∀ x ∈ preAt pre i, L x = true) → (∀ j, j < ops.size → L j = true → ∀ x ∈ preAt pre j, L x = true) → Inv L act w → ∃ o, ops[i]? = some o ∧ wpRunIn P r ops o Q (Inv fun k => if k = i then true else L k) act w)
    (fin : ∀ listed act w, listed.size = ops.size → (∀ k, Lf listed k = decide (k < hi)) → Inv (Lf listed) act w → wpAnyIn (fen r) 0 P .any ops Q (cnt (Lf listed) ops.size) listed act w) :
    ∀ fuel (listed : Array Bool) act w, listed.size = ops.size → fuel = cnt (Lf listed) ops.size → (∀ j, j < ops.size → Lf listed j = true → ∀ x ∈ preAt pre j, Lf listed x = true) → (∀ k, k < lo → Lf listed k = true) → (∀ k, hi ≤ k → Lf listed k = false) → Inv (Lf listed) act w → wpAnyIn (fen r) 0 P .any ops Q fuel listed act w := by
  intro fuel
  induction fuel with
  | zero =>
    intro listed act w hsz hf hcl hlo hhi2 hI
    have hfull : ∀ k, Lf listed k = decide (k < hi) := fun k => by
      by_cases hk : k < hi
      · rw [decide_eq_true hk]
        cases hL : Lf listed k with
        | true => rfl
        | false => have := cnt_pos hL (show k < ops.size by omega); omega
      · rw [decide_eq_false hk]; exact hhi2 k (by omega)
    have := fin listed act w hsz hfull hI
    rwa [← hf] at this
  | succ fuel ih =>
    intro listed act w hsz hf hcl hlo hhi2 hI
    by_cases hfull : ∀ k, lo ≤ k → k < hi → Lf listed k = true
    · have := fin listed act w hsz (fun k => by
        by_cases hk : k < hi
        · rw [decide_eq_true hk]
          by_cases hkl : k < lo
          · exact hlo k hkl
          · exact hfull k (by omega) hk
        · rw [decide_eq_false hk]; exact hhi2 k (by omega)) hI
      rwa [← hf] at this
    · have hmr : ∀ {j}, j ∈ Region.ready .any ops listed → j < ops.size ∧ Lf listed j = false ∧ ∀ x ∈ preAt pre j, Lf listed x = true := fun {j} hj => by
        obtain ⟨h1, o, h2, h3⟩ := mem_ready.1 hj;have hlt : j < ops.size := (Array.getElem?_eq_some_iff.1 h2).1;refine ⟨hlt, ?_, fun x hx => ?_⟩
        · unfold Lf;rw [Array.getD_eq_getD_getElem?, Array.getElem?_eq_getElem (by omega)] at h1 ⊢;exact h1
        · obtain ⟨e, he, hb, hx'⟩ := hp.preds j o h2 x hx;have he' := h3 e he hb;rcases hx' with rfl | hx'
          · exact he'
          · exact hcl e.on (by have := hp.back j o h2 e he hb; omega) he' x hx'
      have hne : Region.ready .any ops listed ≠ [] := by
        have hex : ∃ k, k < ops.size ∧ Lf listed k = false := by
          refine Classical.byContradiction fun hh => hfull fun k hk1 hk2 => ?_
          cases hL : Lf listed k with
          | true => rfl
          | false => exact absurd ⟨k, by omega, hL⟩ hh
        obtain ⟨k, hk⟩ := hex
        have hmin : ∃ k, (k < ops.size ∧ Lf listed k = false) ∧ ∀ j, j < k → ¬ (j < ops.size ∧ Lf listed j = false) := by
          revert hk
          induction k using Nat.strongRecOn with
          | _ k ihk =>
            intro hk
            by_cases hj : ∃ j, j < k ∧ (j < ops.size ∧ Lf listed j = false)
            · obtain ⟨j, h1, h2⟩ := hj; exact ihk j h1 h2
            · exact ⟨k, hk, fun j h1 h2 => hj ⟨j, h1, h2⟩⟩
        obtain ⟨k, hk, hkm⟩ := hmin
        have hr : k ∈ Region.ready .any ops listed := by
          refine mem_ready.2 ⟨?_, ops[k], Array.getElem?_eq_getElem hk.1, fun e he hb => ?_⟩
          · have := hk.2;unfold Lf at this;rw [Array.getD_eq_getD_getElem?, Array.getElem?_eq_getElem (by omega)] at this ⊢;exact this
          · have hlt := hp.back k _ (Array.getElem?_eq_getElem hk.1) e he hb
            cases hL : Lf listed e.on with
            | true => exact hL
            | false => exact absurd ⟨by omega, hL⟩ (hkm e.on hlt)
        intro h0;rw [h0] at hr; cases hr
      refine ⟨fun h0 => absurd h0 hne, fun i hi' => ?_⟩;obtain ⟨h1, h2, h3⟩ := hmr hi';have hlo' : lo ≤ i := Nat.le_of_not_lt fun hh => by rw [hlo i hh] at h2; cases h2
      have hhi' : i < hi := Nat.lt_of_not_le fun hh => hfull fun k hk1 hk2 => h3 k (hcut i hh h1 k hk1 hk2);obtain ⟨o, ho, hrun⟩ := step (Lf listed) act w i hlo' hhi' h2 h3 hcl hI;have hset := Lf_set (listed := listed) (i := i) (by omega)
      have next : ∀ act' w', Inv (fun k => if k = i then true else Lf listed k) act' w' → wpAnyIn (fen r) 0 P .any ops Q fuel (listed.setIfInBounds i true) act' w' := fun act' w' hI' => by
        refine ih _ act' w' (by simpa using hsz) ?_ (fun j hj hL x hx => ?_) (fun k hk => ?_) (fun k hk => ?_) ?_
        · have := cnt_set h2 hset h1; omega
        · rw [hset] at hL ⊢
          by_cases e : x = i
          · rw [if_pos e]
          · rw [if_neg e]
            by_cases e2 : j = i
            · subst e2; exact h3 x hx
            · rw [if_neg e2] at hL; exact hcl j hj hL x hx
        · rw [hset]; split
          · rfl
          · exact hlo k hk
        · rw [hset, if_neg (by omega)]; exact hhi2 k hk
        · have : Lf (listed.setIfInBounds i true) = fun k => if k = i then true else Lf listed k := funext hset
          rw [this]; exact hI'
      unfold wpOpIn;rw [ho];simp only [];unfold wpRunIn at hrun
      split
      · rename_i hw
        rw [if_pos hw] at hrun;exact wpIn_mono2 next (fun _ _ _ _ h => h) hrun
      · rename_i hw
        rw [if_neg hw] at hrun;exact ⟨fun _ _ => trivial, next _ _ hrun⟩
end

end Go.Proofs.Ytgdppeobgefogaa

/- Regions whose order is drawn: the rules of the walk. No program in sight. -/
namespace Go.Proofs.Ytgdppeobgefogaa
open Go.RowKit

section
variable {P : Program} {F : Fr} {ops : Array Oper} {pre : List (List Nat)} {Q : Exit → AS → Prop}

def Dwp (P : Program) (F : Fr) (ops : Array Oper) (lo : Nat) (Q : Exit → AS → Prop) (s : AS) : Prop := ∀ ρ act w listed, SR F s ρ act w → listed.size = ops.size → (∀ k, Lf listed k = decide (k < lo)) → wpAnyIn (fen F.rnd) 0 P .any ops (lift F Q) (cnt (Lf listed) ops.size) listed act w

theorem SR.drew {s : AS} {ρ : Nat → Nat → Value} {act : Act} {w w' : World} (h : SR F s ρ act w) (hh : w'.heap = w.heap) (ho : w'.os = w.os) (ht : w'.tape = w.tape) (hu : w'.output = w.output) (hd : w.drawn ≤ w'.drawn := by first | exact Nat.le_succ _ | exact Nat.le_refl _) : SR F s ρ act w' := by
  have hs : w.heap.size ≤ w'.heap.size := by rw [hh]; exact Nat.le_refl _
  have hb : ∀ b, b < w.heap.size → w'.heap[b]? = w.heap[b]? := fun b _ => by rw [hh]
  exact ⟨h.size, h.defs.mono hs (fun b hlt _ => hb b hlt) (fun _ _ h => h), fun t x hx => (h.env t x hx).mono hs (fun b hlt _ => hb b hlt) (fun _ _ h => h) (fun _ _ _ => rfl), h.heap.stay ⟨ho, ht, hu, Nat.le_trans h.heap.drawn hd⟩ hs hb⟩

theorem a_draw {id : Nat} {l : List Oper} {s : AS} (hm : P.follows .mixedOrders = true) (h : Dwp P F l.toArray 0 Q s) : Awp P F (.region id l.toArray true) Q s := fun ρ act w hs => by
  refine wpIn_region_any hm ?_
  have h0 : ∀ k, Lf (Array.replicate l.toArray.size false) k = false := fun k => by
    unfold Lf;rw [Array.getD_eq_getD_getElem?, Array.getElem?_replicate]
    split <;> rfl
  have hc : ∀ n, cnt (Lf (Array.replicate l.toArray.size false)) n = n := by
    intro n
    induction n with
    | zero => rfl
    | succ n ih => simp only [cnt, ih, h0]
  have := h ρ act { w with drawn := w.drawn + 1 } (Array.replicate l.toArray.size false) (hs.drew rfl rfl rfl rfl) (by simp) (fun k => by rw [h0]; simp)
  rwa [hc] at this

def cutOK (pre : List (List Nat)) (lo hi : Nat) : Nat → Nat → Bool
  | _, 0 => true
  | j, m + 1 => inAll lo (hi - lo) (preAt pre j) && cutOK pre lo hi (j + 1) m
where inAll (x : Nat) : Nat → List Nat → Bool
  | 0, _ => true
  | m + 1, l => memB x l && inAll (x + 1) m l
theorem inAll_spec {x m : Nat} {l : List Nat} (h : cutOK.inAll x m l = true) : ∀ y, x ≤ y → y < x + m → y ∈ l := by
  induction m generalizing x with
  | zero => intro y h1 h2; omega
  | succ m ih =>
    simp only [cutOK.inAll, Bool.and_eq_true] at h;intro y h1 h2
    by_cases e : x = y
    · subst e; exact ZaX.1 h.1
    · exact ih h.2 y (by omega) (by omega)
theorem cutOK_spec {lo hi j0 m : Nat} (hle : lo ≤ hi) (h : cutOK pre lo hi j0 m = true) : ∀ j, j0 ≤ j → j < j0 + m → ∀ x, lo ≤ x → x < hi → x ∈ preAt pre j := by
  induction m generalizing j0 with
  | zero => intro j h1 h2; omega
  | succ m ih =>
    simp only [cutOK, Bool.and_eq_true] at h;intro j h1 h2 x h3 h4
    by_cases e : j0 = j
    · subst e; exact inAll_spec h.1 x h3 (by omega)
    · exact ih h.2 j (by omega) (by omega) x h3 h4
def cutB (pre : List (List Nat)) (n lo hi : Nat) : Bool := Nat.ble lo hi && (Nat.ble hi n && cutOK pre lo hi hi (n - hi))
theorem cutB_spec {n lo hi : Nat} (h : cutB pre n lo hi = true) : lo ≤ hi ∧ hi ≤ n ∧ ∀ j, hi ≤ j → j < n → ∀ x, lo ≤ x → x < hi → x ∈ preAt pre j := by
  simp only [cutB, Bool.and_eq_true] at h;have h1 := Nat.le_of_ble_eq_true h.1;have h2 := Nat.le_of_ble_eq_true h.2.1;exact ⟨h1, h2, fun j hj hn => cutOK_spec h1 h.2.2 j hj (by omega)⟩

theorem listed_closed (hp : PreSpec ops pre) {listed : Array Bool} {lo : Nat} (hL : ∀ k, Lf listed k = decide (k < lo)) : ∀ j, j < ops.size → Lf listed j = true → ∀ x ∈ preAt pre j, Lf listed x = true := fun j hj hl x hx => by
  rw [hL] at hl ⊢;have := of_decide_eq_true hl;have := hp.lt j hj x hx;exact decide_eq_true (by omega)

theorem dw_one {lo : Nat} {s : AS} {o : Oper} (hp : PreSpec ops pre) (ho : ops[lo]? = some o) (hc : cutB pre ops.size lo (lo + 1) = true) (h : Aops P F ops [o] (fun e s' => e = .normal ∧ Dwp P F ops (lo + 1) Q s') s) : Dwp P F ops lo Q s := fun ρ act w listed hs hsz hL => by
  obtain ⟨_, c2, c3⟩ := cutB_spec hc;have hrun := h ρ act w hs;refine wpAny_seg hp lo (lo + 1) c2 c3 (fun L act' w' => ((L lo = false ∧ act' = act ∧ w' = w) ∨ (L lo = true ∧ ∃ s' ρ', Dwp P F ops (lo + 1) Q s' ∧ SR F s' ρ' act' w'))) ?_ ?_ _ listed act w hsz rfl (listed_closed hp hL) (fun k hk => by rw [hL]; exact decide_eq_true hk) (fun k hk => by rw [hL]; exact decide_eq_false (by omega)) (.inl ⟨by rw [hL]; simp, rfl, rfl⟩)
  · intro L act' w' i hi1 hi2 hLi _ _ hI;have : i = lo := by omega
    subst this;rcases hI with ⟨_, rfl, rfl⟩ | ⟨hh, _⟩
    · refine ⟨o, ho, ?_⟩;unfold wpListIn at hrun;unfold wpRunIn
      split
      · rename_i hw
        rw [if_pos hw] at hrun;refine wpIn_mono2 ?_ ?_ hrun
        · rintro a w ⟨s', ρ', ⟨_, h1⟩, h2⟩;exact .inr ⟨by simp, s', ρ', h1, h2⟩
        · rintro e a w hne ⟨s', ρ', ⟨he, h1⟩, h2⟩;exact absurd he hne
      · rename_i hw
        rw [if_neg hw] at hrun;obtain ⟨_, s', ρ', ⟨_, h1⟩, h2⟩ := hrun;exact .inr ⟨by simp, s', ρ', h1, h2⟩
    · rw [hLi] at hh; cases hh
  · intro listed' act' w' hsz' hL' hI;rcases hI with ⟨hh, _⟩ | ⟨_, s', ρ', h1, h2⟩
    · rw [hL'] at hh; simp at hh
    · exact h1 ρ' act' w' listed' h2 hsz' hL'

abbrev RS (R : List Rc) := R.map Rc.ws
abbrev RF (R : List Rc) := R.map Rc.fs
def txtS (base : AS) (R : List Rc) : Nat → Option AV := tgt (get base.env) (fun _ => true) (RS R)
def txtF (base : AS) (R : List Rc) : Nat → Option (List AObj) := tgt (hfam base.hp) (fun _ => true) (RF R)
def Valid (P : Program) (ops : Array Oper) (lo : Nat) (base : AS) (C : FamC) : List Rc → Prop
  | [] => True
  | rc :: r => Valid P ops lo base C r ∧ (∃ o, ops[lo + r.length]? = some o ∧ Sound P ops base.n o rc C (txtS base r) (txtF base r)) ∧ (∀ f, look rc.fs f ≠ none → f ∈ rc.nm) ∧ ∀ f c, look rc.fs f = some c → C f c
theorem Valid.at {lo : Nat} {base : AS} {C : FamC} {R : List Rc} (h : Valid P ops lo base C R) {k : Nat} {rc : Rc} (hk : R.reverse[k]? = some rc) : ∃ A r, R = A ++ rc :: r ∧ r.length = k ∧ (∃ o, ops[lo + k]? = some o ∧ Sound P ops base.n o rc C (txtS base r) (txtF base r)) ∧ (∀ f, look rc.fs f ≠ none → f ∈ rc.nm) ∧ ∀ f c, look rc.fs f = some c → C f c := by
  induction R with
  | nil => simp at hk
  | cons x r ih =>
    rcases Zbz hk with hk | ⟨rfl, rfl⟩
    · obtain ⟨A, r', h1, h2⟩ := ih h.1 hk;exact ⟨x :: A, r', by rw [h1]; rfl, h2⟩
    · exact ⟨[], r, rfl, rfl, h.2.1, h.2.2⟩

def Dseg (P : Program) (F : Fr) (ops : Array Oper) (lo : Nat) (Q : Exit → AS → Prop) (C : FamC) (base : AS) (R : List Rc) (env : List (Nat × AV)) (hp : Hp) : Prop :=
  (∀ f, C f (hfam base.hp f)) → Valid P ops lo base C R → (∀ t a, get env t = some a → txtS base R t = some a) → (∀ f, hfam hp f = txtF base R f) → Dwp P F ops lo Q base

theorem dw_seg {lo : Nat} {C : FamC} {s : AS} (hC : ∀ f, C f (hfam s.hp f)) (h : Dseg P F ops lo Q C s [] s.env s.hp) : Dwp P F ops lo Q s := h hC trivial (fun _ _ h => h) fun _ => rfl

structure PairSpec (pre : List (List Nat)) (lo i j : Nat) (ri rj : Rc) : Prop where
  race : (lo + j) ∉ preAt pre (lo + i) → disjK rj.ws ri.rd = true ∧ disjK rj.ws (keysOf ri.ws) = true ∧ disjK ri.ws rj.rd = true ∧ disjK rj.fs ri.nm = true ∧ disjK ri.fs rj.nm = true
  late : ri.eff = true → okWs ri.ok ri.ws rj.ws = true ∧ okFs ri.ok ri.fs rj.fs = true
  early : (lo + j) ∉ preAt pre (lo + i) → rj.eff = true → okWs rj.ok rj.ws ri.ws = true ∧ okFs rj.ok rj.fs ri.fs = true
theorem pairOK_spec {lo i j : Nat} {ri rj : Rc} (h : pairOK (memB (lo + j) (preAt pre (lo + i))) rj ri = true) : PairSpec pre lo i j ri rj := by
  have hm : (lo + j) ∉ preAt pre (lo + i) → memB (lo + j) (preAt pre (lo + i)) = false := fun hn => by
    cases hh : memB (lo + j) (preAt pre (lo + i)) with
    | false => rfl
    | true => exact absurd (ZaX.1 hh) hn
  simp only [pairOK, Bool.and_eq_true, Bool.or_eq_true, Bool.not_eq_true'] at h;refine ⟨fun hn => ?_, fun he => ?_, fun hn he => ?_⟩
  · have := h.1;rw [hm hn] at this
    simpa using this
  · have := h.2.1;rw [he] at this
    simpa using this
  · have := h.2.2;rw [hm hn, he] at this
    simpa using this

theorem dw_close {lo hi : Nat} {C : FamC} {s : AS} {R : List Rc} {env : List (Nat × AV)} {hp : Hp} (hps : PreSpec ops pre) (hhi : Nat.beq (lo + R.length) hi = true) (hc : cutB pre ops.size lo hi = true) (hchk : chkAll pre lo s.env s.hp R = true) (h : Dwp P F ops hi Q ⟨s.n, env, hp⟩) : Dseg P F ops lo Q C s R env hp := fun hC hV hE hH => by
  intro ρ act w listed hs hsz hL;have hhi' := Nat.eq_of_beq_eq_true hhi;subst hhi';obtain ⟨_, c2, c3⟩ := cutB_spec hc
  let Inv : (Nat → Bool) → Act → World → Prop := fun L act w => ∃ ρ env hp, SR F ⟨s.n, env, hp⟩ ρ act w ∧ (∀ t, get env t = tgt (get s.env) (fun k => L (lo + k)) (RS R) t) ∧ ∀ f, hfam hp f = tgt (hfam s.hp) (fun k => L (lo + k)) (RF R) f
  have hnone : ∀ {α : Type} (base : Nat → α) (R : List (List (Nat × α))) t, tgt base (fun k => Lf listed (lo + k)) R t = base t := by
    intro α base R t
    induction R with
    | nil => rfl
    | cons ws r ih =>
      have h0 : Lf listed (lo + r.length) = false := by rw [hL]; exact decide_eq_false (by omega)
      simp only [tgt, h0]; exact ih
  refine wpAny_seg hps lo (lo + R.length) c2 c3 Inv ?_ ?_ _ listed act w hsz rfl (listed_closed hps hL) (fun k hk => by rw [hL]; exact decide_eq_true hk) (fun k hk => by rw [hL]; exact decide_eq_false (by omega)) ⟨ρ, s.env, s.hp, hs, fun t => (hnone _ _ t).symm, fun f => (hnone _ _ f).symm⟩
  · intro L act w i' hi1 hi2 hLi hpre hcl ⟨ρ, env1, hp1, hsr, hE1, hH1⟩
    obtain ⟨i, rfl⟩ : ∃ i, i' = lo + i := ⟨i' - lo, by omega⟩
    have hiR : i < R.length := by omega
    have hri : R.reverse[i]? = some (R.reverse[i]'(by simpa using hiR)) := List.getElem?_eq_getElem (by simpa using hiR)
    generalize R.reverse[i]'(by simpa using hiR) = rc at hri
    obtain ⟨A, r, e1, e2, ⟨o, ho, hsound⟩, hfk, _⟩ := hV.at hri
    -- the order against others
    have hmapS : ∀ {k ws}, (RS R).reverse[k]? = some ws → ∃ rk : Rc, R.reverse[k]? = some rk ∧ rk.ws = ws := fun {k ws} hk => by
      rw [← List.map_reverse, List.getElem?_map] at hk
      cases hh : R.reverse[k]? with
      | none => rw [hh] at hk; cases hk
      | some rk => rw [hh] at hk; injection hk with hk; exact ⟨rk, hh, hk⟩
    have hmapF : ∀ {k ws}, (RF R).reverse[k]? = some ws → ∃ rk : Rc, R.reverse[k]? = some rk ∧ rk.fs = ws := fun {k ws} hk => by
      rw [← List.map_reverse, List.getElem?_map] at hk
      cases hh : R.reverse[k]? with
      | none => rw [hh] at hk; cases hk
      | some rk => rw [hh] at hk; injection hk with hk; exact ⟨rk, hh, hk⟩
    have hearly : ∀ {k rk}, R.reverse[k]? = some rk → k < i → L (lo + k) = false → PairSpec pre lo i k rc rk ∧ (lo + k) ∉ preAt pre (lo + i) := fun {k rk} hk hlt hLk =>
      ⟨pairOK_spec (chkAll_pair hchk hri hk hlt), fun hm => by rw [hpre _ hm] at hLk; cases hLk⟩
    have hlate : ∀ {k rk}, R.reverse[k]? = some rk → i < k → L (lo + k) = true → PairSpec pre lo k i rk rc ∧ (lo + i) ∉ preAt pre (lo + k) := fun {k rk} hk hlt hLk =>
      ⟨pairOK_spec (chkAll_pair hchk hk hri hlt), fun hm => by
        have hkR := rev_lt hk
        rw [hcl (lo + k) (by omega) hLk _ hm] at hLi; cases hLi⟩
    have hR : RS R = (RS (A ++ [rc])) ++ RS r ∧ RF R = (RF (A ++ [rc])) ++ RF r := by
      rw [e1]; simp [RS, RF]
    have hsame : ∀ t ∈ rc.rd, tgt (get s.env) (fun k => L (lo + k)) (RS R) t = txtS s r t := fun t ht => by
      have h1 : tgt (get s.env) (fun k => L (lo + k)) (RS R) t = tgt (get s.env) (fun k => decide (k < (RS r).length)) (RS R) t := by
        refine tgt_congr fun k ws hk hw => ?_;obtain ⟨rk, hk', rfl⟩ := hmapS hk;have hlen : (RS r).length = i := by simp [RS, e2]
        rw [hlen];rcases Nat.lt_trichotomy k i with hlt | heq | hgt
        · rw [decide_eq_true hlt]
          cases hLk : L (lo + k) with
          | true => rfl
          | false =>
            obtain ⟨p1, p2⟩ := hearly hk' hlt hLk;exact absurd (disjK_spec (p1.race p2).1 ht) hw
        · subst heq; rw [decide_eq_false (Nat.lt_irrefl _)]; exact hLi
        · rw [decide_eq_false (by omega)]
          cases hLk : L (lo + k) with
          | false => rfl
          | true =>
            obtain ⟨p1, p2⟩ := hlate hk' hgt hLk;exact absurd (disjK_spec (p1.race p2).2.2.1 ht) hw
      rw [h1, hR.1, tgt_prefix]; rfl
    have hsameF : ∀ f ∈ rc.nm, tgt (hfam s.hp) (fun k => L (lo + k)) (RF R) f = txtF s r f := fun f hf => by
      have h1 : tgt (hfam s.hp) (fun k => L (lo + k)) (RF R) f = tgt (hfam s.hp) (fun k => decide (k < (RF r).length)) (RF R) f := by
        refine tgt_congr fun k ws hk hw => ?_;obtain ⟨rk, hk', rfl⟩ := hmapF hk;have hlen : (RF r).length = i := by simp [RF, e2]
        rw [hlen];rcases Nat.lt_trichotomy k i with hlt | heq | hgt
        · rw [decide_eq_true hlt]
          cases hLk : L (lo + k) with
          | true => rfl
          | false =>
            obtain ⟨p1, p2⟩ := hearly hk' hlt hLk;exact absurd (disjK_spec (p1.race p2).2.2.2.1 hf) hw
        · subst heq; rw [decide_eq_false (Nat.lt_irrefl _)]; exact hLi
        · rw [decide_eq_false (by omega)]
          cases hLk : L (lo + k) with
          | false => rfl
          | true =>
            obtain ⟨p1, p2⟩ := hlate hk' hgt hLk;exact absurd (disjK_spec (p1.race p2).2.2.2.2 hf) hw
      rw [h1, hR.2, tgt_prefix]; rfl
    refine ⟨o, ho, wpRunIn_of (hps.nod _ _ ho) <| wpRun_mono ?_ (hsound F ρ act w env1 hp1 hsr (fun f => by
      rw [hH1];rcases tgt_origin (base := hfam s.hp) (L := fun k => L (lo + k)) (R := RF R) (t := f) with ⟨h1, _⟩ | ⟨k, ws, hk, hLk, hw⟩
      · rw [h1]; exact hC f
      · obtain ⟨rk, hk', rfl⟩ := hmapF hk;obtain ⟨_, _, _, _, _, _, hc⟩ := hV.at hk'
        exact hc f _ hw) (fun t ht => by rw [hE1, hsame t ht]) (fun f hf => by rw [hH1, hsameF f hf]) (fun he t a ha hl => ?_) (fun he f l hf hl => ?_))⟩
    · rintro act' w' ⟨ρ', env', hp', hsr', hE', hH'⟩
      have hset : ∀ k, (fun k => if lo + k = lo + i then true else L (lo + k)) k = if k = i then true else L (lo + k) := fun k => by
        by_cases e : k = i
        · subst e; simp
        · have : ¬ (lo + k = lo + i) := by omega
          simp [e]
      refine ⟨ρ', env', hp', hsr', fun t => ?_, fun f => ?_⟩
      · rw [hE', hE1];refine (tgt_update (i := i) (ws := rc.ws) (by rw [← List.map_reverse, List.getElem?_map, hri]; rfl) hLi hset fun hw k ws' hk hlt hLk => ?_).symm;obtain ⟨rk, hk', rfl⟩ := hmapS hk;obtain ⟨p1, p2⟩ := hlate hk' hlt hLk;have := disjK_spec (t := t) (p1.race p2).2.1
        cases hh : look rk.ws t with
        | none => rfl
        | some x => exact absurd (this (keysOf_spec (by rw [hh]; simp))) hw
      · rw [hH', hH1];refine (tgt_update (i := i) (ws := rc.fs) (by rw [← List.map_reverse, List.getElem?_map, hri]; rfl) hLi hset fun hw k ws' hk hlt hLk => ?_).symm;obtain ⟨rk, hk', rfl⟩ := hmapF hk;obtain ⟨p1, p2⟩ := hlate hk' hlt hLk;exact disjK_spec (p1.race p2).2.2.2.2 (hfk f hw)
    · rw [hE1] at ha;rcases tgt_origin (base := get s.env) (L := fun k => L (lo + k)) (R := RS R) (t := t) with ⟨h1, _⟩ | ⟨k, ws, hk, hLk, hw⟩
      · rw [h1] at ha;exact okE_spec (chkAll_base hchk hri he).1 ha (fun h => by cases h) hl
      · rw [ha] at hw;obtain ⟨rk, hk', rfl⟩ := hmapS hk;rcases Nat.lt_trichotomy k i with hlt | heq | hgt
        · exact okWs_spec ((pairOK_spec (chkAll_pair hchk hri hk' hlt)).late he).1 hw hl
        · subst heq; rw [hLi] at hLk; cases hLk
        · obtain ⟨p1, p2⟩ := hlate hk' hgt hLk;exact okWs_spec (p1.early p2 he).1 hw hl
    · rw [hH1] at hf;rcases tgt_origin (base := hfam s.hp) (L := fun k => L (lo + k)) (R := RF R) (t := f) with ⟨h1, _⟩ | ⟨k, ws, hk, hLk, hw⟩
      · rw [h1] at hf;exact okH_spec (chkAll_base hchk hri he).2 hf hl
      · rw [hf] at hw;obtain ⟨rk, hk', rfl⟩ := hmapF hk;rcases Nat.lt_trichotomy k i with hlt | heq | hgt
        · exact okFs_spec ((pairOK_spec (chkAll_pair hchk hri hk' hlt)).late he).2 hw hl
        · subst heq; rw [hLi] at hLk; cases hLk
        · obtain ⟨p1, p2⟩ := hlate hk' hgt hLk;exact okFs_spec (p1.early p2 he).2 hw hl
  · intro listed' act' w' hsz' hL' ⟨ρ', env', hp', hsr', hE', hH'⟩
    have hall : ∀ {α : Type} (base : Nat → α) (R' : List (List (Nat × α))) t, R'.length = R.length → tgt base (fun k => Lf listed' (lo + k)) R' t = tgt base (fun _ => true) R' t := fun base R' t hlen =>
      tgt_congr fun k ws hk _ => by rw [hL', decide_eq_true]; have := rev_lt hk; omega
    have hHh : ∀ f i, hget hp' f i = hget hp f i := fun f i => by
      simp only [hget, hH', hH, hall _ (RF R) f (by simp [RF])]; rfl
    have hheap : Heap F hp ρ' w' := hsr'.heap.less (fun g i o' ho => ⟨o', by show hget hp' g i = some o'; rw [hHh]; exact ho, fun _ _ _ h => h⟩) fun g i o ho => ⟨o, by rw [← hHh]; exact ho, fun t cs e => ⟨cs, e⟩⟩
    have hO : F.O ρ' hp' = F.O ρ' hp := funext fun b => propext ⟨fun h => h.imp id fun ⟨f, i, o, h1, h2⟩ => ⟨f, i, o, by rw [← hHh]; exact h1, h2⟩, fun h => h.imp id fun ⟨f, i, o, h1, h2⟩ => ⟨f, i, o, by rw [hHh]; exact h1, h2⟩⟩;refine h ρ' act' w' listed' ⟨hsr'.size, hO ▸ hsr'.defs, fun t a ha => ?_, hheap⟩ hsz' hL';have h1 := hE t a ha;have h2 := hsr'.env t a (by show get env' t = some a; rw [hE', hall _ (RS R) t (by simp [RS])]; exact h1);rw [← hO]; exact h2
end

end Go.Proofs.Ytgdppeobgefogaa

/- Regions whose order is drawn: the rules that the walk uses. No program in sight. -/
namespace Go.Proofs.Ytgdppeobgefogaa
open Go.RowKit

section
variable {P : Program} {F : Fr} {ops : Array Oper} {Q : Exit → AS → Prop}

def Dw (P : Program) (F : Fr) (ops : Array Oper) (pre : List (List Nat)) (lo : Nat) (rest : List Oper) (Q : Exit → AS → Prop) (s : AS) : Prop := PreSpec ops pre → (∀ k : Nat, rest[k]? = ops[lo + k]?) → Dwp P F ops lo Q s
def Dsg (P : Program) (F : Fr) (ops : Array Oper) (pre : List (List Nat)) (lo : Nat) (rest : List Oper) (Q : Exit → AS → Prop) (C : FamC) (base : AS) (R : List Rc) (env : List (Nat × AV)) (hp : Hp) : Prop := PreSpec ops pre → (∀ k : Nat, rest[k]? = ops[lo + R.length + k]?) → Dseg P F ops lo Q C base R env hp

theorem Za4 {id : Nat} {l : List Oper} {s : AS} (pre : List (List Nat)) (hm : P.follows .mixedOrders = true) (hpre : preOK l pre pre l 0 = true) (h : Dw P F l.toArray pre 0 l Q s) (hnd : l.all (fun o => !Op.isDefer o.op) = true := by rfl) : Awp P F (.region id l.toArray true) Q s :=
  a_draw hm (h (preOK_spec (by simpa using hpre) (by simpa using hnd)) fun k => by simp)

variable {pre : List (List Nat)} {lo : Nat} {rest : List Oper} {s : AS} {o : Oper}

theorem dwe (h : Q .normal s) : Dw P F ops pre lo [] Q s := fun hps hr ρ act w listed hs hsz hL => by
  have h0 := hr 0
  have hle : ops.size ≤ lo := by
    simp at h0
    exact h0
  have hr : Region.ready .any ops listed = [] := by
    refine List.eq_nil_iff_forall_not_mem.2 fun j hj => ?_;obtain ⟨h1, o, h2, _⟩ := mem_ready.1 hj;have hlt : j < ops.size := (Array.getElem?_eq_some_iff.1 h2).1;have := hL j;rw [decide_eq_true (by omega)] at this;unfold Lf at this;rw [Array.getD_eq_getD_getElem?, Array.getElem?_eq_getElem (by omega)] at h1 this
    simp at h1 this
    rw [this] at h1; cases h1
  cases cnt (Lf listed) ops.size with
  | zero => exact ⟨hr, s, ρ, h, hs⟩
  | succ n => exact ⟨fun _ => ⟨s, ρ, h, hs⟩, fun i hi => by rw [hr] at hi; cases hi⟩

theorem dw1 (hi : Nat) (hhi : Nat.beq (lo + 1) hi = true) (hc : cutB pre (lo + (rest.length + 1)) lo hi = true) (h : Aops P F ops [o] (fun e s' => e = .normal ∧ Dw P F ops pre hi rest Q s') s) : Dw P F ops pre lo (o :: rest) Q s := fun hps hr => by
  have hhi' := Nat.eq_of_beq_eq_true hhi;subst hhi';have ho : ops[lo]? = some o := by have := hr 0; simpa using this.symm
  have hsz : ops.size = lo + (rest.length + 1) := by
    have h1 := hr (rest.length + 1);have h2 := hr rest.length;have h3 : (o :: rest)[rest.length]? ≠ none := by simp
    rw [h2] at h3;have h4 : lo + rest.length < ops.size := Nat.lt_of_not_le fun hh => h3 (Array.getElem?_eq_none hh);have h5 : ops[lo + (rest.length + 1)]? = none := by rw [← h1]; simp
    have := Array.getElem?_eq_none_iff.1 h5;omega
  refine dw_one hps ho (by rw [hsz]; exact hc) (fun ρ act w hs => ?_)
  have key : ∀ (e : Exit) s', (e = .normal ∧ Dw P F ops pre (lo + 1) rest Q s') → (e = .normal ∧ Dwp P F ops (lo + 1) Q s') := fun e s' ⟨h1, h2⟩ => ⟨h1, h2 hps fun k => by
    have := hr (k + 1);rw [List.getElem?_cons_succ] at this
    rw [this]; congr 1; omega⟩
  have hh := h ρ act w hs;unfold wpListIn at hh ⊢
  have hQ : ∀ e a w, lift F (fun e s' => e = .normal ∧ Dw P F ops pre (lo + 1) rest Q s') e a w → lift F (fun e s' => e = .normal ∧ Dwp P F ops (lo + 1) Q s') e a w := fun e a w ⟨s', ρ', h1, h2⟩ => ⟨s', ρ', key e s' h1, h2⟩
  split
  · rename_i hw
    rw [if_pos hw] at hh;exact wpIn_mono2 (fun a w h => hQ _ _ _ h) (fun e a w _ h => hQ e a w h) hh
  · rename_i hw
    rw [if_neg hw] at hh;exact ⟨hh.1, hQ _ _ _ hh.2⟩

theorem dws {n : Nat} {env : List (Nat × AV)} {hp : Hp} (h : Dsg P F ops pre lo rest Q C0 ⟨n, env, hp⟩ [] env hp) : Dw P F ops pre lo rest Q ⟨n, env, hp⟩ := fun hps hr => dw_seg (fun _ => trivial) (h hps hr)
variable {C : FamC} {base : AS} {R : List Rc} {env : List (Nat × AV)} {hp : Hp}

theorem dwc0 (hi : Nat) {rc : Rc} (hhi : Nat.beq (lo + (rc :: R).length) hi = true) (hc : cutB pre (hi + rest.length) lo hi = true) (hchk : chkAll pre lo base.env base.hp (rc :: R) = true) (h : Dw P F ops pre hi rest Q ⟨base.n, env, hp⟩) : Dsg P F ops pre lo rest Q C base (rc :: R) env hp := fun hps hr => by
  have hhi' := Nat.eq_of_beq_eq_true hhi;subst hhi'
  have hle : ops.size ≤ lo + (rc :: R).length + rest.length := by
    have h1 := hr rest.length;have h5 : ops[lo + (rc :: R).length + rest.length]? = none := by rw [← h1]; simp
    exact Array.getElem?_eq_none_iff.1 h5
  intro hC hV hE hH
  have hge : lo + (rc :: R).length ≤ ops.size := by
    obtain ⟨o, ho, _⟩ := hV.2.1;have := (Array.getElem?_eq_some_iff.1 ho).1;simp only [List.length_cons]; omega
  have hsz : ops.size = lo + (rc :: R).length + rest.length := by
    rcases hrl : rest with _ | ⟨o, r⟩
    · rw [hrl] at hle; simp only [List.length_nil, Nat.add_zero] at hle ⊢; omega
    · have h2 := hr r.length;rw [hrl] at h2 hle;have h3 : (o :: r)[r.length]? ≠ none := by simp
      rw [h2] at h3;have h4 : lo + (rc :: R).length + r.length < ops.size := Nat.lt_of_not_le fun hh => h3 (Array.getElem?_eq_none hh);simp only [List.length_cons] at hle h4 ⊢; omega
  exact dw_close hps (Nat.beq_refl _) (by rw [hsz]; exact hc) hchk (h hps hr) hC hV hE hH

theorem Zaa {d : Option Tmp} {op : Op} {ty : TypeId} {pos : String} {aft : Array Edge} {dd : Nat} {a : AV} (h : Zab P F ⟨d, op, ty, pos, aft, none⟩ s dd a) : Gpure P F ops ⟨d, op, ty, pos, aft, none⟩ s dd a := by
  refine ⟨Za3 h.1, fun ρ act w hs => ?_⟩;unfold wpRun;rw [if_pos (by simp [Region.wanted])];refine wp_weaken ?_ (h.2.2 ρ act w hs);rintro act' w' ⟨v, h1, h2, h3, h4, h5⟩;exact ⟨v, h1, h2, ⟨h3.os.trans hs.heap.os.symm, h3.tape.trans hs.heap.tape.symm, h3.output.trans hs.heap.output.symm, h3.drawn⟩, h4, h5⟩
theorem guard_val {ρ : Nat → Nat → Value} {act : Act} {w : World} (hs : SR F s ρ act w) {j t : Nat} {b' : Bool} (hj : (ops[j]?).bind (·.dst) = some t) (hv : get s.env t = some (.d (.raw (.bool b')))) : yielded ops act.tmps j = some b' := by
  have hr := hs.env t _ hv;unfold yielded;rw [hj]
  cases hr with
  | d hr =>
    generalize hg : act.tmps.getD t undef = v at hr
    cases hr with
    | raw _ =>
      simp only [Option.bind_some];rw [Array.getD_eq_getD_getElem?] at hg
      cases hh : act.tmps[t]? with
      | none => rw [hh] at hg; simp [undef] at hg
      | some x => rw [hh] at hg; simp at hg; subst hg; rfl
theorem Zan {d : Option Tmp} {op : Op} {ty : TypeId} {pos : String} {aft : Array Edge} {dd j t : Nat} {b b' : Bool} {a : AV} (hj : (ops[j]?).bind (·.dst) = some t) (hv : get s.env t = some (.d (.raw (.bool b')))) (hb : b' = b) (h : Zab P F ⟨d, op, ty, pos, aft, some (j, b)⟩ s dd a) : Gpure P F ops ⟨d, op, ty, pos, aft, some (j, b)⟩ s dd a := by
  refine ⟨Za3 h.1, fun ρ act w hs => ?_⟩;unfold wpRun;rw [if_pos (by simp [Region.wanted, guard_val hs hj hv, hb])];refine wp_weaken ?_ (h.2.2 ρ act w hs);rintro act' w' ⟨v, h1, h2, h3, h4, h5⟩;exact ⟨v, h1, h2, ⟨h3.os.trans hs.heap.os.symm, h3.tape.trans hs.heap.tape.symm, h3.output.trans hs.heap.output.symm, h3.drawn⟩, h4, h5⟩
theorem ZaI {d : Nat} {op : Op} {ty : TypeId} {pos : String} {aft : Array Edge} {j t : Nat} {b b' : Bool} (hj : (ops[j]?).bind (·.dst) = some t) (hv : get s.env t = some (.d (.raw (.bool b')))) (hb : b' = !b) (hd : Nat.blt d s.n = true) : Gpure P F ops ⟨some d, op, ty, pos, aft, some (j, b)⟩ s d (.d (.tup [])) := by
  refine ⟨Za3 hd, fun ρ act w hs => ?_⟩;unfold wpRun;rw [if_neg (by cases b <;> simp [Region.wanted, guard_val hs hj hv, hb])];exact ⟨_, rfl, rep_undef, ⟨rfl, rfl, rfl, hs.heap.drawn⟩, Nat.le_refl _, fun _ _ => rfl⟩
theorem ZbK {d : Nat} {op : Op} {ty : TypeId} {pos : String} {aft : Array Edge} {j t : Nat} {b : Bool} (hj : (ops[j]?).bind (·.dst) = some t) (hv : get s.env t = some (.d (.tup []))) (hd : Nat.blt d s.n = true) : Gpure P F ops ⟨some d, op, ty, pos, aft, some (j, b)⟩ s d (.d (.tup [])) := by
  refine ⟨Za3 hd, fun ρ act w hs => ?_⟩;have hy := yielded_undef hj (tup_nil (hs.env t _ hv));unfold wpRun;rw [if_neg (by simp [Region.wanted, hy])];exact ⟨_, rfl, rep_undef, ⟨rfl, rfl, rfl, hs.heap.drawn⟩, Nat.le_refl _, fun _ _ => rfl⟩
theorem ge_none {d : Option Tmp} {op : Op} {ty : TypeId} {pos : String} {aft : Array Edge} {s' : AS} {p : Nat → Nat → Bool} (h : Zaw P F ⟨d, op, ty, pos, aft, none⟩ s s' p) : Geff P F ops ⟨d, op, ty, pos, aft, none⟩ s s' p := fun ρ act w hs => by
  unfold wpRun;rw [if_pos (by simp [Region.wanted])];refine wp_weaken ?_ (wp_put (h ρ act w hs));rintro act' w' ⟨⟨ρ', h1, h2⟩, h3⟩;exact ⟨ρ', h1, h3, h2⟩
theorem next_rest {lo : Nat} {R : List Rc} {rc : Rc} (hr : ∀ k : Nat, (o :: rest)[k]? = ops[lo + R.length + k]?) : ops[lo + R.length]? = some o ∧ ∀ k : Nat, rest[k]? = ops[lo + (rc :: R).length + k]? := by
  refine ⟨by have := hr 0; simpa using this.symm, fun k => ?_⟩;have := hr (k + 1);rw [List.getElem?_cons_succ] at this;rw [this]; congr 1; simp only [List.length_cons]; omega

def recP (rd nm : List Nat) (d : Nat) (a : AV) : Rc := ⟨rd, [(d, some a)], nm, [], false, fun _ _ => true⟩
theorem Zad (rd nm : List Nat) {l : List (Nat × AV)} {hs : Hp} {d : Nat} {a : AV} (hl : pick env rd = some l) (hh : part? hp nm = some hs) (h : ∀ F, Gpure P F ops o ⟨base.n, l, hs⟩ d a) (hK : Dsg P F ops pre lo rest Q C base (recP rd nm d a :: R) ((d, a) :: env) hp) : Dsg P F ops pre lo (o :: rest) Q C base R env hp := fun hps hr hC hV hE hH => by
  obtain ⟨ho, hr'⟩ := next_rest (rc := recP rd nm d a) hr;refine hK hps hr' hC ⟨hV, ⟨o, ho, Sound.pure hl hh hE hH h⟩, fun f hf => absurd rfl hf, fun f c hc => by cases hc⟩ (fun t x hx => ?_) fun f => ?_
  · show tgt _ _ (RS (recP rd nm d a :: R)) t = _;simp only [RS, List.map_cons, tgt, recP, look];rcases Zbn hx with ⟨rfl, rfl⟩ | ⟨hne, hx⟩
    · simp
    · rw [ZaV hne]; exact hE t x hx
  · show _ = tgt _ _ (RF (recP rd nm d a :: R)) f;simp only [RF, List.map_cons, tgt, recP, look];exact hH f
theorem Zac (rd : List Nat) {l : List (Nat × AV)} {hs : Hp} {d : Nat} {a : AV} (hl : pick env rd = some l) (hh : part? hp (hpN base.hp) = some hs) (h : ∀ F, Gpure P F ops o ⟨base.n, l, hs⟩ d a) (hK : Dsg P F ops pre lo rest Q C base (recP rd (hpN base.hp) d a :: R) ((d, a) :: env) hp) : Dsg P F ops pre lo (o :: rest) Q C base R env hp := Zad rd _ hl hh h hK
def recE (rd nm : List Nat) (dv : List (Nat × AV)) (p : Nat → Nat → Bool) (env : List (Nat × AV)) (hs' : Hp) (xs : List Nat) : Rc := ⟨rd, wsOf (effWs dv nm p env xs), nm, mkFs hs' nm, true, okNm nm p⟩
theorem d_effX (xs : List Nat) (rd nm : List Nat) (dv : List (Nat × AV)) {l l' env' : List (Nat × AV)} {hs hs' hp1 hp' : Hp} {p : Nat → Nat → Bool} (hl : pick env rd = some l) (hh : part? hp nm = some hs) (h : ∀ F, Geff P F ops o ⟨base.n, l, hs⟩ ⟨base.n, l', hs'⟩ p)
    (hdv : (dv = [] ∧ o.dst = none) ∨ ∃ d a, dv = [(d, a)] ∧ o.dst = some d ∧ Nat.blt d base.n = true ∧ get l' d = some a ∧ a.ok (inNm nm) = true) (n1 : namesIn nm hs' = true) (n2 : hpIn nm hs' = true)
    (hE' : keepE? (okNm nm p) env = some env') (hr1 : rest? nm hp = some hp1) (hhp : some (hs' ++ hp1) = some hp') (hK : Dsg P F ops pre lo rest Q C base (recE rd nm dv p env hs' xs :: R) (dv ++ env') hp') (hCn : ∀ f c, look (mkFs hs' nm) f = some c → C f c := by intro _ _ _; trivial) : Dsg P F ops pre lo (o :: rest) Q C base R env hp := fun hps hr hC hV hE hH => by
  injection hhp with hhp
  subst hhp;obtain ⟨ho, hr'⟩ := next_rest (rc := recE rd nm dv p env hs' xs) hr
  have hfam1 : ∀ f, hfam hp1 f = if f ∈ nm then none else hfam hp f := by
    clear hK hH hE hr hr' hh
    intro f
    induction hp generalizing hp1 with
    | nil => simp only [rest?, Option.some.injEq] at hr1; subst hr1; simp [hfam]
    | cons q r ih =>
      obtain ⟨k, x⟩ := q;simp only [rest?] at hr1
      split at hr1
      · cases hr1
      · rename_i r' hr'
        have ih' := ih hr'
        split at hr1 <;> (injection hr1 with hr1; subst hr1)
        · rename_i hm
          by_cases e : k = f
          · subst e; rw [ih', if_pos (ZaX.1 hm), if_pos (ZaX.1 hm)]
          · simp only [hfam, ZaV e]; exact ih'
        · rename_i hm
          by_cases e : k = f
          · subst e;have : k ∉ nm := fun h => by rw [ZaX.2 h] at hm; cases hm
            simp [hfam, this]
          · simp only [hfam, ZaV e]; exact ih'
  refine hK hps hr' hC ⟨hV, ⟨o, ho, Sound.eff hl hh hE hH h hdv n1 n2⟩, fun f hf => ?_, hCn⟩ (fun t x hx => ?_) fun f => ?_
  · have hf' : look (mkFs hs' nm) f ≠ none := hf;rw [mkFs_spec] at hf'
    by_cases hm : f ∈ nm
    · exact hm
    · rw [if_neg hm] at hf'; exact absurd rfl hf'
  · show tgt _ _ (RS (recE rd nm dv p env hs' xs :: R)) t = _;simp only [RS, List.map_cons, tgt, recE];rw [wsOf_spec, effWs, get_app];rw [get_app] at hx
    cases hd : get dv t with
    | some y => rw [hd] at hx; simp at hx; subst hx; simp
    | none =>
      rw [hd] at hx;simp only [Option.none_or] at hx ⊢;rw [keepE?_get hE'] at hx;rw [killsOf_spec];have hm : memB t [] = false := rfl;rw [hm]
      cases hg : get env t with
      | none => rw [hg] at hx; cases hx
      | some b =>
        rw [hg] at hx;simp only [Option.map_some, Option.some.injEq] at hx
        by_cases htop : b = .top
        · subst htop
          have hxt : x = .top := by
            cases hq : AV.top.ok (okNm nm p) <;> (rw [hq] at hx; exact hx.symm)
          subst hxt
          cases hm2 : memB t xs with
          | true =>
            simp only [AV.okK, Bool.not_true, Option.map_some, Option.getD_some]
          | false =>
            simp only [AV.okK, Bool.not_false, Option.map_none, Option.getD_none];exact hE t _ hg
        simp only [AV.okK_eq htop]
        cases hb : b.ok (okNm nm p) with
        | true =>
          rw [hb] at hx; simp only at hx; subst hx;simp only [Option.map_none, Option.getD_none];exact hE t b hg
        | false =>
          rw [hb] at hx; simp only at hx; subst hx;simp only [Option.map_some, Option.getD_some]
  · show _ = tgt _ _ (RF (recE rd nm dv p env hs' xs :: R)) f;simp only [RF, List.map_cons, tgt, recE];rw [hfam_app n1 f (fun hf => by rw [hfam1, if_pos hf]), mkFs_spec, hfam1]
    split
    · simp
    · simp only [Option.getD_none]; exact hH f
theorem d_eff (rd nm : List Nat) (dv : List (Nat × AV)) {l l' env' : List (Nat × AV)} {hs hs' hp1 hp' : Hp} {p : Nat → Nat → Bool} (hl : pick env rd = some l) (hh : part? hp nm = some hs) (h : ∀ F, Geff P F ops o ⟨base.n, l, hs⟩ ⟨base.n, l', hs'⟩ p)
    (hdv : (dv = [] ∧ o.dst = none) ∨ ∃ d a, dv = [(d, a)] ∧ o.dst = some d ∧ Nat.blt d base.n = true ∧ get l' d = some a ∧ a.ok (inNm nm) = true) (n1 : namesIn nm hs' = true) (n2 : hpIn nm hs' = true)
    (hE' : keepE? (okNm nm p) env = some env') (hr1 : rest? nm hp = some hp1) (hhp : some (hs' ++ hp1) = some hp') (hK : Dsg P F ops pre lo rest Q C base (recE rd nm dv p env hs' [] :: R) (dv ++ env') hp') (hCn : ∀ f c, look (mkFs hs' nm) f = some c → C f c := by intro _ _ _; trivial) : Dsg P F ops pre lo (o :: rest) Q C base R env hp := d_effX [] rd nm dv hl hh h hdv n1 n2 hE' hr1 hhp hK hCn
theorem dwc (hi : Nat) {n : Nat} {env0 : List (Nat × AV)} {hp0 : Hp} {rc : Rc} (hhi : Nat.beq (lo + (rc :: R).length) hi = true) (hc : cutB pre (hi + rest.length) lo hi = true) (hchk : chkAll pre lo env0 hp0 (rc :: R) = true) (h : Dw P F ops pre hi rest Q ⟨n, env, hp⟩) : Dsg P F ops pre lo rest Q C ⟨n, env0, hp0⟩ (rc :: R) env hp := dwc0 hi hhi hc hchk h
end

end Go.Proofs.Ytgdppeobgefogaa
