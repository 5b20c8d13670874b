/- Regions whose order is drawn, the plain part: what a set of done operations leaves. No program in sight. -/
import Derived.Test.YtnflcmpdaoobcaaCall2
import Derived.Orders
namespace Go.Proofs.Ytnflcmpdaoobcaa
open Go.RowKit

def look {α : Type} : List (Nat × α) → Nat → Option α
  | [], _ => none
  | (k, a) :: r, t => match Nat.beq k t with
    | true => some a
    | false => look r t
theorem look_get (env : List (Nat × AV)) (t : Nat) : look env t = get env t := by
  induction env with
  | nil => rfl
  | cons p r ih => obtain ⟨k, a⟩ := p; simp only [look, get, ih]; cases Nat.beq k t <;> rfl

/-- What stands at a place when the operations of L are done; R holds what each writes, the last one first. -/
def tgt {α : Type} (base : Nat → α) (L : Nat → Bool) : List (List (Nat × α)) → Nat → α
  | [], t => base t
  | ws :: r, t => match L r.length with
    | true => (look ws t).getD (tgt base L r t)
    | false => tgt base L r t

theorem rev_cons_lt {β : Type} {x : β} {r : List β} {k : Nat} {y : β} (h : r.reverse[k]? = some y) : (x :: r).reverse[k]? = some y := by
  have hk : k < r.reverse.length := (List.getElem?_eq_some_iff.1 h).1
  rw [List.reverse_cons, List.getElem?_append_left hk]; exact h
theorem rev_cons_eq {β : Type} {x : β} {r : List β} : (x :: r).reverse[r.length]? = some x := by
  rw [List.reverse_cons, List.getElem?_append_right (by simp)]; simp
theorem rev_cons_cases {β : Type} {x : β} {r : List β} {k : Nat} {y : β} (h : (x :: r).reverse[k]? = some y) : r.reverse[k]? = some y ∨ (k = r.length ∧ y = x) := by
  rw [List.reverse_cons] at h
  rcases Nat.lt_or_ge k r.reverse.length with hk | hk
  · rw [List.getElem?_append_left hk] at h; exact .inl h
  · rw [List.getElem?_append_right hk] at h
    have hk' : k - r.reverse.length = 0 := by
      have := (List.getElem?_eq_some_iff.1 h).1
      simp at this; simp; omega
    rw [hk'] at h
    simp at h hk
    refine .inr ⟨?_, h.symm⟩
    simp at hk'; omega
theorem rev_lt {β : Type} {r : List β} {k : Nat} {y : β} (h : r.reverse[k]? = some y) : k < r.length := by
  have := (List.getElem?_eq_some_iff.1 h).1; simpa using this

theorem tgt_congr {α : Type} {base : Nat → α} {L L' : Nat → Bool} {R : List (List (Nat × α))} {t : Nat} (h : ∀ k ws, R.reverse[k]? = some ws → look ws t ≠ none → L k = L' k) : tgt base L R t = tgt base L' R t := by
  induction R with
  | nil => rfl
  | cons ws r ih =>
    have ih' := ih fun k ws hk hl => h k ws (rev_cons_lt hk) hl
    simp only [tgt]
    cases hw : look ws t with
    | none => cases L r.length <;> cases L' r.length <;> simp [ih']
    | some a => rw [h r.length ws rev_cons_eq (by rw [hw]; simp), ih']
theorem tgt_prefix {α : Type} {base : Nat → α} {A Ri : List (List (Nat × α))} {t : Nat} : tgt base (fun k => decide (k < Ri.length)) (A ++ Ri) t = tgt base (fun _ => true) Ri t := by
  induction A with
  | nil => exact tgt_congr fun k ws hk _ => by have := rev_lt (r := Ri) hk; simp [this]
  | cons x r ih =>
    rw [List.cons_append, tgt]
    have : decide ((r ++ Ri).length < Ri.length) = false := by simp
    rw [this]; exact ih
theorem tgt_origin {α : Type} {base : Nat → α} {L : Nat → Bool} {R : List (List (Nat × α))} {t : Nat} : (tgt base L R t = base t ∧ ∀ k ws, R.reverse[k]? = some ws → look ws t ≠ none → L k = false) ∨ ∃ k ws, R.reverse[k]? = some ws ∧ L k = true ∧ look ws t = some (tgt base L R t) := by
  induction R with
  | nil => exact .inl ⟨rfl, fun k ws h => by simp at h⟩
  | cons ws r ih =>
    cases hL : L r.length with
    | false =>
      have e : tgt base L (ws :: r) t = tgt base L r t := by simp only [tgt, hL]
      rw [e]
      rcases ih with ⟨h1, h2⟩ | ⟨k, ws', h1, h2, h3⟩
      · refine .inl ⟨h1, fun k ws' hk hl => ?_⟩
        rcases rev_cons_cases hk with hk | ⟨rfl, rfl⟩
        · exact h2 k ws' hk hl
        · exact hL
      · exact .inr ⟨k, ws', rev_cons_lt h1, h2, h3⟩
    | true =>
      cases hw : look ws t with
      | some a =>
        have e : tgt base L (ws :: r) t = a := by simp only [tgt, hL, hw, Option.getD_some]
        exact .inr ⟨r.length, ws, rev_cons_eq, hL, by rw [e]; exact hw⟩
      | none =>
        have e : tgt base L (ws :: r) t = tgt base L r t := by simp only [tgt, hL, hw, Option.getD_none]
        rw [e]
        rcases ih with ⟨h1, h2⟩ | ⟨k, ws', h1, h2, h3⟩
        · refine .inl ⟨h1, fun k ws' hk hl => ?_⟩
          rcases rev_cons_cases hk with hk | ⟨rfl, rfl⟩
          · exact h2 k ws' hk hl
          · exact absurd hw hl
        · exact .inr ⟨k, ws', rev_cons_lt h1, h2, h3⟩
theorem tgt_update {α : Type} {base : Nat → α} {L L' : Nat → Bool} {R : List (List (Nat × α))} {t i : Nat} {ws : List (Nat × α)} (hi : R.reverse[i]? = some ws) (hL : L i = false) (hL' : ∀ k, L' k = if k = i then true else L k)
    (hlate : look ws t ≠ none → ∀ k ws', R.reverse[k]? = some ws' → i < k → L k = true → look ws' t = none) : tgt base L' R t = (look ws t).getD (tgt base L R t) := by
  induction R with
  | nil => simp at hi
  | cons x r ih =>
    rcases rev_cons_cases hi with hi' | ⟨rfl, rfl⟩
    · have hne : r.length ≠ i := by have := rev_lt hi'; omega
      have ih' := ih hi' fun hw k ws' hk => hlate hw k ws' (rev_cons_lt hk)
      simp only [tgt, hL', if_neg hne]
      cases hLr : L r.length with
      | false => exact ih'
      | true =>
        cases hw : look ws t with
        | none => rw [hw] at ih'; simp only [Option.getD_none] at ih' ⊢; rw [ih']
        | some a =>
          rw [hlate (by rw [hw]; simp) r.length x rev_cons_eq (rev_lt hi') hLr]
          rw [hw] at ih'
          simpa using ih'
    · simp only [tgt, hL', if_true, hL]
      congr 1
      refine tgt_congr fun k ws' hk _ => ?_
      rw [hL', if_neg (by have := rev_lt hk; omega)]

/-! Records of operations. -/
structure Rc where
  rd : List Nat
  ws : List (Nat × Option AV)
  nm : List Nat
  fs : List (Nat × Option (List AObj))
  eff : Bool
  ok : Nat → Nat → Bool

def disjK {α : Type} (ws : List (Nat × α)) : List Nat → Bool
  | [] => true
  | t :: r => (match look ws t with
    | none => true
    | some _ => false) && disjK ws r
theorem disjK_spec {α : Type} {ws : List (Nat × α)} {l : List Nat} (h : disjK ws l = true) {t : Nat} (ht : t ∈ l) : look ws t = none := by
  induction l with
  | nil => cases ht
  | cons a r ih =>
    simp only [disjK, Bool.and_eq_true] at h
    rcases List.mem_cons.1 ht with rfl | ht
    · cases hh : look ws t with
      | none => rfl
      | some x => rw [hh] at h; simp at h
    · exact ih h.2 ht
def keysOf {α : Type} : List (Nat × α) → List Nat
  | [] => []
  | (k, _) :: r => k :: keysOf r
theorem keysOf_spec {α : Type} {ws : List (Nat × α)} {t : Nat} (h : look ws t ≠ none) : t ∈ keysOf ws := by
  induction ws with
  | nil => exact absurd rfl h
  | cons p r ih =>
    obtain ⟨k, a⟩ := p
    simp only [look] at h
    split at h
    · rename_i hk; exact List.mem_cons.2 (.inl (Nat.eq_of_beq_eq_true hk).symm)
    · exact List.mem_cons.2 (.inr (ih h))

def okO (p : Nat → Nat → Bool) : AObj → Bool
  | .blk _ cs => okL p cs
  | .row _ _ xs => xs.all fun x => okL p x.cells
  | .rowD _ _ _ => true
  | .loop L => okEnv p L.env
def okOs (p : Nat → Nat → Bool) : List AObj → Bool
  | [] => true
  | o :: r => okO p o && okOs p r
theorem okO_spec {p : Nat → Nat → Bool} {o : AObj} (h : okO p o = true) {f i : Nat} (hr : o.Refs f i) : p f i = true := by
  cases o with
  | blk t cs => obtain ⟨c, hc, hr⟩ := hr; exact okL_spec h hc hr
  | row t k xs => obtain ⟨x, hx, c, hc, hr⟩ := hr; exact okL_spec (List.all_eq_true.1 h x hx) hc hr
  | rowD t k xs => exact hr.elim
  | loop L => obtain ⟨t, a, ha, hr⟩ := hr; exact okEnv_spec h ha hr
theorem okOs_spec {p : Nat → Nat → Bool} {l : List AObj} (h : okOs p l = true) {o : AObj} (ho : o ∈ l) {f i : Nat} (hr : o.Refs f i) : p f i = true := by
  induction l with
  | nil => cases ho
  | cons a r ih =>
    simp only [okOs, Bool.and_eq_true] at h
    rcases List.mem_cons.1 ho with rfl | ho
    · exact okO_spec h.1 hr
    · exact ih h.2 ho
/-- Values that stay good, but for the named places. -/
def okWs (p : Nat → Nat → Bool) (ex : List (Nat × Option AV)) : List (Nat × Option AV) → Bool
  | [] => true
  | (t, a) :: r => (match look ex t with
    | some _ => true
    | none => match a with
      | none => true
      | some a => a.ok p) && okWs p ex r
theorem okWs_spec {p : Nat → Nat → Bool} {ex ws : List (Nat × Option AV)} (h : okWs p ex ws = true) {t : Nat} {a : AV} (ha : look ws t = some (some a)) (hx : look ex t = none) : a.ok p = true := by
  induction ws with
  | nil => cases ha
  | cons q r ih =>
    obtain ⟨k, b⟩ := q
    simp only [okWs, Bool.and_eq_true] at h
    simp only [look] at ha
    split at ha
    · rename_i hk
      have hk' := Nat.eq_of_beq_eq_true hk
      subst hk'
      injection ha with ha; subst ha
      rw [hx] at h
      exact h.1
    · exact ih h.2 ha
def okFs (p : Nat → Nat → Bool) (ex : List (Nat × Option (List AObj))) : List (Nat × Option (List AObj)) → Bool
  | [] => true
  | (t, a) :: r => (match look ex t with
    | some _ => true
    | none => match a with
      | none => true
      | some l => okOs p l) && okFs p ex r
theorem okFs_spec {p : Nat → Nat → Bool} {ex ws : List (Nat × Option (List AObj))} (h : okFs p ex ws = true) {t : Nat} {l : List AObj} (ha : look ws t = some (some l)) (hx : look ex t = none) : okOs p l = true := by
  induction ws with
  | nil => cases ha
  | cons q r ih =>
    obtain ⟨k, b⟩ := q
    simp only [okFs, Bool.and_eq_true] at h
    simp only [look] at ha
    split at ha
    · rename_i hk
      have hk' := Nat.eq_of_beq_eq_true hk
      subst hk'
      injection ha with ha; subst ha
      rw [hx] at h
      exact h.1
    · exact ih h.2 ha
/-- The same of the state at the region's head; what is behind another entry of the same place doesn't count. -/
def okE (p : Nat → Nat → Bool) (ex : List (Nat × Option AV)) : List Nat → List (Nat × AV) → Bool
  | _, [] => true
  | ks, (t, a) :: r => (match memB t ks with
    | true => true
    | false => match look ex t with
      | some _ => true
      | none => a.ok p) && okE p ex (t :: ks) r
theorem okE_spec {p : Nat → Nat → Bool} {ex : List (Nat × Option AV)} {ks : List Nat} {env : List (Nat × AV)} (h : okE p ex ks env = true) {t : Nat} {a : AV} (ha : get env t = some a) (hk : t ∉ ks) (hx : look ex t = none) : a.ok p = true := by
  induction env generalizing ks with
  | nil => cases ha
  | cons q r ih =>
    obtain ⟨k, b⟩ := q
    simp only [okE, Bool.and_eq_true] at h
    rcases get_cons ha with ⟨rfl, rfl⟩ | ⟨hne, ha⟩
    · have : memB k ks = false := by
        cases hm : memB k ks with
        | false => rfl
        | true => exact absurd (memB_spec.1 hm) hk
      rw [this, hx] at h
      exact h.1
    · exact ih h.2 ha (fun hm => (List.mem_cons.1 hm).elim (fun e => hne e.symm) hk)
def okH (p : Nat → Nat → Bool) (ex : List (Nat × Option (List AObj))) : Hp → Bool
  | [] => true
  | (f, l) :: r => (match look ex f with
    | some _ => true
    | none => okOs p l) && okH p ex r
theorem okH_spec {p : Nat → Nat → Bool} {ex : List (Nat × Option (List AObj))} {hp : Hp} (h : okH p ex hp = true) {f : Nat} {l : List AObj} (ha : hfam hp f = some l) (hx : look ex f = none) : okOs p l = true := by
  induction hp with
  | nil => cases ha
  | cons q r ih =>
    obtain ⟨k, b⟩ := q
    simp only [okH, Bool.and_eq_true] at h
    simp only [hfam] at ha
    split at ha
    · rename_i hk
      have hk' := Nat.eq_of_beq_eq_true hk
      subst hk'
      injection ha with ha; subst ha
      rw [hx] at h
      exact h.1
    · exact ih h.2 ha

/-- Two records, j before i in the text. -/
def pairOK (ord : Bool) (rj ri : Rc) : Bool :=
  (ord || (disjK rj.ws ri.rd && (disjK rj.ws (keysOf ri.ws) && (disjK ri.ws rj.rd && (disjK rj.fs ri.nm && disjK ri.fs rj.nm))))) &&
  ((!ri.eff || (okWs ri.ok ri.ws rj.ws && okFs ri.ok ri.fs rj.fs)) && (ord || (!rj.eff || (okWs rj.ok rj.ws ri.ws && okFs rj.ok rj.fs ri.fs))))
def preAt : List (List Nat) → Nat → List Nat
  | [], _ => []
  | l :: _, 0 => l
  | _ :: r, i + 1 => preAt r i
/-- The record at lo + (number behind it) against those behind it. -/
def chkHead (pr : List Nat) (lo : Nat) (ri : Rc) : List Rc → Bool
  | [] => true
  | rj :: r => pairOK (memB (lo + r.length) pr) rj ri && chkHead pr lo ri r
def chkAll (pre : List (List Nat)) (lo : Nat) (env : List (Nat × AV)) (hp : Hp) : List Rc → Bool
  | [] => true
  | ri :: r => chkHead (preAt pre (lo + r.length)) lo ri r && ((!ri.eff || (okE ri.ok ri.ws [] env && okH ri.ok ri.fs hp)) && chkAll pre lo env hp r)
theorem chkHead_spec {pr : List Nat} {lo : Nat} {ri : Rc} {r : List Rc} (h : chkHead pr lo ri r = true) {j : Nat} {rj : Rc} (hj : r.reverse[j]? = some rj) : pairOK (memB (lo + j) pr) rj ri = true := by
  induction r with
  | nil => simp at hj
  | cons x r ih =>
    simp only [chkHead, Bool.and_eq_true] at h
    rcases rev_cons_cases hj with hj | ⟨rfl, rfl⟩
    · exact ih h.2 hj
    · exact h.1
theorem chkAll_pair {pre : List (List Nat)} {lo : Nat} {env : List (Nat × AV)} {hp : Hp} {R : List Rc} (h : chkAll pre lo env hp R = true) {i j : Nat} {ri rj : Rc} (hi : R.reverse[i]? = some ri) (hj : R.reverse[j]? = some rj) (hlt : j < i) : pairOK (memB (lo + j) (preAt pre (lo + i))) rj ri = true := by
  induction R with
  | nil => simp at hi
  | cons x r ih =>
    simp only [chkAll, Bool.and_eq_true] at h
    rcases rev_cons_cases hi with hi' | ⟨rfl, rfl⟩
    · rcases rev_cons_cases hj with hj' | ⟨rfl, rfl⟩
      · exact ih h.2.2 hi' hj'
      · have := rev_lt hi'; omega
    · rcases rev_cons_cases hj with hj' | ⟨rfl, rfl⟩
      · exact chkHead_spec h.1 hj'
      · omega
theorem chkAll_base {pre : List (List Nat)} {lo : Nat} {env : List (Nat × AV)} {hp : Hp} {R : List Rc} (h : chkAll pre lo env hp R = true) {i : Nat} {ri : Rc} (hi : R.reverse[i]? = some ri) (he : ri.eff = true) : okE ri.ok ri.ws [] env = true ∧ okH ri.ok ri.fs hp = true := by
  induction R with
  | nil => simp at hi
  | cons x r ih =>
    simp only [chkAll, Bool.and_eq_true] at h
    rcases rev_cons_cases hi with hi' | ⟨rfl, rfl⟩
    · exact ih h.2.2 hi'
    · have := h.2.1
      rw [he] at this
      simpa using this

/-- What must come before. -/
def preOK (ops : List Oper) (pre : List (List Nat)) : List (List Nat) → List Oper → Nat → Bool
  | [], [], _ => true
  | l :: ls, o :: os, i => (l.all fun x => o.after.toList.any fun e => Region.binds .any e && (Nat.beq e.on x || memB x (preAt pre e.on))) && ((o.after.toList.all fun e => !Region.binds .any e || Nat.blt e.on i) && preOK ops pre ls os (i + 1))
  | _, _, _ => false
end Go.Proofs.Ytnflcmpdaoobcaa
