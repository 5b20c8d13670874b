/- How a function is called in the abstract walk. No program in sight. -/
import Derived.Test.YtjbghmlofjkcfaaCall
namespace Go.Proofs.Ytjbghmlofjkcfaa
open Go.RowKit

def evs? (s : AS) : List Operand → Option (List AV)
  | [] => some []
  | x :: r => match evs? s r with
    | none => none
    | some l => match s.ev x with
      | none => none
      | some a => some (a :: l)
theorem evs?_spec {F : Fr} {s : AS} {ρ : Nat → Nat → Value} {act : Act} {w : World} (hs : SR F s ρ act w) : ∀ {xs : List Operand} {as : List AV}, evs? s xs = some as → (xs.map act.eval).length = as.length ∧ ∀ (i : Nat) a v, as[i]? = some a → (xs.map act.eval)[i]? = some v → RepA w (F.O ρ s.hp) ρ a v
  | [], as, h => by simp only [evs?, Option.some.injEq] at h; subst h; simp
  | x :: r, as, h => by
    simp only [evs?] at h
    split at h
    · cases h
    · rename_i l hl
      split at h
      · cases h
      · rename_i a ha
        injection h with h; subst h
        obtain ⟨h1, h2⟩ := evs?_spec hs hl
        refine ⟨by simpa using h1, fun i a' v hi hv => ?_⟩
        cases i with
        | zero => simp at hi hv; subst hi hv; exact hs.ev ha
        | succ i => exact h2 i a' v (by simpa using hi) (by simpa using hv)

/-- The families nm of the caller's heap are those of CH. -/
def FamsEq (hp CH : Hp) : List Nat → Prop
  | [] => True
  | g :: r => hfam hp g = hfam CH g ∧ FamsEq hp CH r
theorem FamsEq.hget {hp CH : Hp} {nm : List Nat} (h : FamsEq hp CH nm) {g : Nat} (hg : g ∈ nm) (i : Nat) : hget hp g i = hget CH g i := by
  induction nm with
  | nil => cases hg
  | cons a r ih =>
    rcases List.mem_cons.1 hg with rfl | hg
    · simp only [Go.Proofs.Ytjbghmlofjkcfaa.hget, h.1]
    · exact ih h.2 hg
theorem namesIn_spec {nm : List Nat} {H : Hp} (h : namesIn nm H = true) {g i : Nat} {o : AObj} (ho : hget H g i = some o) : g ∈ nm := by
  induction H with
  | nil => simp [hget, hfam] at ho
  | cons p r ih =>
    obtain ⟨k, l⟩ := p
    simp only [namesIn, Bool.and_eq_true] at h
    by_cases e : k = g
    · subst e; exact memB_spec.1 h.1
    · refine ih h.2 ?_
      simpa only [hget, hfam, beq_ne e] using ho
def isBlk : Option AObj → Bool
  | some (.blk _ _) => true
  | _ => false
/-- References that live through the call. -/
def okRef (CH : Hp) (nm : List Nat) (f i : Nat) : Bool := !(memB f nm) || isBlk (hget CH f i)
/-- The rest of the heap. -/
def rest? (nm : List Nat) : Hp → Option Hp
  | [] => some []
  | (g, l) :: r => match rest? nm r with
    | none => none
    | some r' => match memB g nm with
      | true => some r'
      | false => some ((g, l) :: r')
theorem rest?_spec {nm : List Nat} {hp hp' : Hp} (h : rest? nm hp = some hp') : ∀ g i, hget hp' g i = if g ∈ nm then none else hget hp g i := by
  induction hp generalizing hp' with
  | nil => simp only [rest?, Option.some.injEq] at h; subst h; simp [hget, hfam]
  | cons p r ih =>
    obtain ⟨k, l⟩ := p
    simp only [rest?] at h
    split at h
    · cases h
    · rename_i r' hr
      split at h
      · rename_i hk
        injection h with h; subst h
        intro g i
        rw [ih hr g i]
        by_cases e : k = g
        · subst e; rw [if_pos (memB_spec.1 hk), if_pos (memB_spec.1 hk)]
        · simp only [hget, hfam, beq_ne e]
      · rename_i hk
        injection h with h; subst h
        intro g i
        by_cases e : k = g
        · subst e
          rw [if_neg (fun hm => by rw [memB_spec.2 hm] at hk; cases hk)]
          simp only [hget, hfam, Nat.beq_refl]
        · have := ih hr g i
          simp only [hget, hfam, beq_ne e] at this ⊢
          exact this
theorem hget_app {H rest : Hp} {nm : List Nat} (hH : namesIn nm H = true) (hr : ∀ g i, g ∈ nm → hget rest g i = none) (g i : Nat) : hget (H ++ rest) g i = if g ∈ nm then hget H g i else hget rest g i := by
  have key : ∀ H : Hp, hfam (H ++ rest) g = match hfam H g with | some l => some l | none => hfam rest g := by
    intro H
    induction H with
    | nil => rfl
    | cons p r ih =>
      obtain ⟨k, l⟩ := p
      by_cases e : k = g
      · subst e; simp [hfam]
      · simp only [List.cons_append, hfam, beq_ne e, ih]
  by_cases hg : g ∈ nm
  · rw [if_pos hg]
    have h1 := hr g i hg
    simp only [hget, key] at h1 ⊢
    cases hh : hfam H g with
    | none => simp [h1]
    | some l => simp
  · rw [if_neg hg]
    simp only [hget, key]
    cases hh : hfam H g with
    | none => rfl
    | some l => exact absurd (namesIn_fam hH hh) hg

/-- All references go to the named families. -/
def inNm (nm : List Nat) (f _i : Nat) : Bool := memB f nm
def objsIn (nm : List Nat) : List AObj → Bool
  | [] => true
  | .blk _ cs :: r => okL (inNm nm) cs && objsIn nm r
  | .row _ _ xs :: r => xs.all (fun x => okL (inNm nm) x.cells) && objsIn nm r
  | .rowD _ _ _ :: r => objsIn nm r
def hpIn (nm : List Nat) : Hp → Bool
  | [] => true
  | (_, l) :: r => objsIn nm l && hpIn nm r
theorem objsIn_spec {nm : List Nat} {l : List AObj} (h : objsIn nm l = true) {o : AObj} (ho : o ∈ l) {f i : Nat} (hr : o.Refs f i) : f ∈ nm := by
  induction l with
  | nil => cases ho
  | cons a r ih =>
    rcases List.mem_cons.1 ho with rfl | ho
    · cases o with
      | blk t cs =>
        simp only [objsIn, Bool.and_eq_true] at h
        obtain ⟨c, hc, hr⟩ := hr
        exact memB_spec.1 (okL_spec h.1 hc hr)
      | row t k xs =>
        simp only [objsIn, Bool.and_eq_true] at h
        obtain ⟨x, hx, c, hc, hr⟩ := hr
        exact memB_spec.1 (okL_spec (List.all_eq_true.1 h.1 x hx) hc hr)
      | rowD t k xs => exact hr.elim
    · refine ih ?_ ho
      cases a <;> simp only [objsIn, Bool.and_eq_true] at h <;> first | exact h.2 | exact h
theorem hpIn_spec {nm : List Nat} {H : Hp} (h : hpIn nm H = true) {g j : Nat} {o : AObj} (ho : hget H g j = some o) {f i : Nat} (hr : o.Refs f i) : f ∈ nm := by
  induction H with
  | nil => simp [hget, hfam] at ho
  | cons p r ih =>
    obtain ⟨k, l⟩ := p
    simp only [hpIn, Bool.and_eq_true] at h
    by_cases e : k = g
    · subst e
      simp only [hget, hfam, Nat.beq_refl, Option.bind_some] at ho
      exact objsIn_spec h.1 (List.mem_of_getElem? ho) hr
    · refine ih h.2 ?_
      simpa only [hget, hfam, beq_ne e] using ho

section
variable {P : Program} {F : Fr} {s : AS} {d : Nat} {ty : TypeId} {pos : String} {aft : Array Edge} {g : Option (Nat × Bool)} {at_ : Array TypeId}

/-- The frame of a part CH of the heap: all else that is owned is the callers'. -/
def frameOf (F : Fr) (hp CH : Hp) (ρ : Nat → Nat → Value) (w : World) (hOf : ∀ b, (F.Of b ∨ (OwnB ρ hp b ∧ ¬ OwnB ρ CH b)) → b < w.heap.size ∧ ¬ OwnB ρ CH b) : Fr :=
  Fr.mk w (fun b => F.Of b ∨ (OwnB ρ hp b ∧ ¬ OwnB ρ CH b)) (OwnB ρ CH) (pinOf ρ CH) hOf (hpN CH) (fun _ _ _ h => pinOf_mem h)

theorem heap_part {hp CH : Hp} {ρ : Nat → Nat → Value} {w : World} (hs : Heap F hp ρ w) (nm : List Nat) (hfe : FamsEq hp CH nm) (hcn : namesIn nm CH = true) :
    ∃ hOf, Heap (frameOf F hp CH ρ w hOf) CH ρ w ∧ (frameOf F hp CH ρ w hOf).O ρ CH = F.O ρ hp := by
  have hCH : ∀ g i o, hget CH g i = some o → hget hp g i = some o ∧ g ∈ nm := fun g i o ho => by
    have hg := namesIn_spec hcn ho
    exact ⟨by rw [hfe.hget hg]; exact ho, hg⟩
  have hOC : ∀ b, OwnB ρ CH b → OwnB ρ hp b := fun b ⟨f, i, o, h1, h2⟩ => ⟨f, i, o, (hCH f i o h1).1, h2⟩
  have hOf : ∀ b, (F.Of b ∨ (OwnB ρ hp b ∧ ¬ OwnB ρ CH b)) → b < w.heap.size ∧ ¬ OwnB ρ CH b := fun b hb => by
    rcases hb with hb | hb
    · exact ⟨Nat.lt_of_lt_of_le (F.hOf b hb).1 hs.size0, fun hh => hs.notOf (hOC b hh) hb⟩
    · exact ⟨(hs.mine b hb.1).1, hb.2⟩
  have hO : (frameOf F hp CH ρ w hOf).O ρ CH = F.O ρ hp := funext fun b => propext ⟨fun h => by
    rcases h with (h | h) | h
    · exact .inl h
    · exact .inr h.1
    · exact .inr (hOC b h), fun h => by
    rcases h with h | h
    · exact .inl (.inl h)
    · by_cases hh : OwnB ρ CH b
      · exact .inr hh
      · exact .inl (.inr ⟨h, hh⟩)⟩
  refine ⟨hOf, ⟨fun f i o ho => ?_, fun f i f' i' o o' b ho ho' => ?_, fun b hb => ⟨(hs.mine b (hOC b hb)).1, .inl hb⟩, rfl, rfl, rfl, Nat.le_refl _, fun _ _ _ => rfl, fun f i b hb => pinOf_spec hb⟩, hO⟩
  · rw [hO]; exact hs.sim f i o (hCH f i o ho).1
  · exact hs.inj f i f' i' o o' b (hCH f i o ho).1 (hCH f' i' o' ho').1

/-- Back to the whole heap. -/
theorem heap_join {ok : Nat → Nat → Bool} {hp CH H' : Hp} {ρ ρ' : Nat → Nat → Value} {w w' : World} (hs : Heap F hp ρ w) (nm : List Nat) (hfe : FamsEq hp CH nm) (hcn : namesIn nm CH = true) {rest0 rest : Hp} (hr0s : ∀ g i, hget rest0 g i = if g ∈ nm then none else hget hp g i)
    (k1 : ∀ g i o', hget rest g i = some o' → ∃ o, hget rest0 g i = some o ∧ o.Less ok o') (k2 : ∀ g i o, hget rest0 g i = some o → ∃ o', hget rest g i = some o' ∧ o.Less ok o')
    (hOf : ∀ b, (F.Of b ∨ (OwnB ρ hp b ∧ ¬ OwnB ρ CH b)) → b < w.heap.size ∧ ¬ OwnB ρ CH b) (hheap : Heap (frameOf F hp CH ρ w hOf) CH ρ w) (hh' : Heap (frameOf F hp CH ρ w hOf) H' ρ' w') (n1 : namesIn nm H' = true) (n2 : hpIn nm H' = true) (hok : ∀ f i, f ∈ nm → ok f i = true → ρ' f i = ρ f i) :
    ∃ ρ'', Heap F (H' ++ rest) ρ'' w' ∧ (∀ A v, (∀ f i, A.Refs f i → f ∈ nm) → RepA w' ((frameOf F hp CH ρ w hOf).O ρ' H') ρ' A v → RepA w' (F.O ρ'' (H' ++ rest)) ρ'' A v) ∧
      (∀ A v, (∀ f i, A.Refs f i → ok f i = true) → RepA w (F.O ρ hp) ρ A v → RepA w' (F.O ρ'' (H' ++ rest)) ρ'' A v) ∧ (∀ f i, f ∈ nm → ρ'' f i = ρ' f i) ∧ ∀ f i, f ∉ nm → ρ'' f i = ρ f i := by
  have hCH : ∀ g i o, hget CH g i = some o → hget hp g i = some o ∧ g ∈ nm := fun g i o ho => by
    have hg := namesIn_spec hcn ho
    exact ⟨by rw [hfe.hget hg]; exact ho, hg⟩
  have hrest : ∀ g i o, hget rest g i = some o → ∃ o1, hget hp g i = some o1 ∧ o1.Less (ok) o ∧ g ∉ nm := fun g i o ho => by
    obtain ⟨o1, h1, h2⟩ := k1 g i o ho
    rw [hr0s] at h1
    split at h1
    · cases h1
    · rename_i hg; exact ⟨o1, h1, h2, hg⟩
  have hOC : ∀ b, OwnB ρ CH b → OwnB ρ hp b := fun b ⟨f, i, o, h1, h2⟩ => ⟨f, i, o, (hCH f i o h1).1, h2⟩
  have hOR : ∀ b, OwnB ρ rest b → OwnB ρ hp b ∧ ¬ OwnB ρ CH b := fun b ⟨f, i, o, h1, h2⟩ => by
    obtain ⟨o1, h3, _, h4⟩ := hrest f i o h1
    refine ⟨⟨f, i, o1, h3, h2⟩, fun ⟨f', i', o', h5, h6⟩ => ?_⟩
    obtain ⟨h7, h8⟩ := hCH f' i' o' h5
    obtain ⟨rfl, rfl⟩ := hs.inj f i f' i' _ _ b h3 h7 h2 h6
    exact h4 h8
  let ρ'' : Nat → Nat → Value := fun f i => if f ∈ nm then ρ' f i else ρ f i
  have hρin : ∀ f i, f ∈ nm → ρ'' f i = ρ' f i := fun f i hf => if_pos hf
  have hρout : ∀ f i, f ∉ nm → ρ'' f i = ρ f i := fun f i hf => if_neg hf
  have hρok : ∀ f i, ok f i = true → ρ'' f i = ρ f i := fun f i hf0 => by
    by_cases hf : f ∈ nm
    · rw [hρin f i hf]; exact hok f i hf hf0
    · exact hρout f i hf
  have hnone : ∀ g i, g ∈ nm → hget rest g i = none := fun g i hg => by
    cases ho : hget rest g i with
    | none => rfl
    | some o => exact absurd hg (hrest g i o ho).choose_spec.2.2
  have happ := fun g i => hget_app (rest := rest) n1 hnone g i
  have hown : ∀ b, OwnB ρ'' (H' ++ rest) b → OwnB ρ' H' b ∨ OwnB ρ rest b := fun b ⟨f, i, o, h1, h2⟩ => by
    rw [happ] at h1
    split at h1
    · rename_i hf; rw [hρin f i hf] at h2; exact .inl ⟨f, i, o, h1, h2⟩
    · rename_i hf; rw [hρout f i hf] at h2; exact .inr ⟨f, i, o, h1, h2⟩
  have hOin : ∀ b, F.O ρ'' (H' ++ rest) b → (frameOf F hp CH ρ w hOf).O ρ' H' b := fun b hb => by
    rcases hb with hb | hb
    · exact .inl (.inl hb)
    · rcases hown b hb with hb | hb
      · exact .inr hb
      · exact .inl (.inr (hOR b hb))
  have hOout : ∀ b, b < w.heap.size → F.O ρ'' (H' ++ rest) b → F.O ρ hp b := fun b hlt hb => by
    rcases hb with hb | hb
    · exact .inl hb
    · rcases hown b hb with hb | hb
      · rcases (hh'.mine b hb).2 with h1 | h1
        · exact .inr (hOC b h1)
        · exact absurd hlt (Nat.not_lt.2 h1)
      · exact .inr (hOR b hb).1
  have hbb : ∀ b, b < w.heap.size → ¬ F.O ρ hp b → w'.heap[b]? = w.heap[b]? := fun b hlt hn => hh'.keep b hlt fun hh => hn (.inr (hOC b hh))
  have hsz : w.heap.size ≤ w'.heap.size := hh'.size0
  refine ⟨ρ'', ?_, fun A v hA hr => hr.mono (Nat.le_refl _) (fun _ _ _ => rfl) (fun b _ => hOin b) fun f i hf => hρin f i (hA f i hf), fun A v hA hr => hr.mono hsz hbb hOout fun f i hf => hρok f i (hA f i hf), hρin, hρout⟩
  refine ⟨fun f i o ho => ?_, fun f i f' i' o o' b ho ho' hb hb' => ?_, fun b hb => ?_, hh'.os.trans hs.os, hh'.tape.trans hs.tape, hh'.output.trans hs.output, Nat.le_trans hs.size0 hsz, fun b hlt hn => ?_, fun f i b hp => ?_⟩
  · rw [happ] at ho
    split at ho
    · rename_i hf
      rw [hρin f i hf]
      refine (hh'.sim f i o ho).mono (Nat.le_refl _) (fun _ _ _ => rfl) (fun b _ => hOin b) (fun _ _ => rfl) fun f' i' hr => hρin f' i' (hpIn_spec n2 ho hr)
    · rename_i hf
      rw [hρout f i hf]
      obtain ⟨o1, h1, h2, _⟩ := hrest f i o ho
      refine (h2.1 _ _ _ _ (hs.sim f i o1 h1)).mono hsz hbb hOout (fun b hv => hh'.keep b (hs.mine b ⟨f, i, o1, h1, hv⟩).1 (hOR b ⟨f, i, o, ho, hv⟩).2) fun f' i' hr => hρok f' i' (h2.2.1 f' i' hr)
  · rw [happ] at ho ho'
    have cross : ∀ {f i f' i' : Nat} {o o' : AObj} {b : Nat}, f ∈ nm → f' ∉ nm → hget H' f i = some o → hget rest f' i' = some o' → blkOf (ρ' f i) = some b → blkOf (ρ f' i') = some b → False := fun {f i f' i' o o' b} hf hf' ho ho' hb hb' => by
      have h1 := hOR b ⟨f', i', o', ho', hb'⟩
      rcases (hh'.mine b ⟨f, i, o, ho, hb⟩).2 with h2 | h2
      · exact h1.2 h2
      · exact absurd (hs.mine b h1.1).1 (Nat.not_lt.2 h2)
    by_cases hf : f ∈ nm <;> by_cases hf' : f' ∈ nm
    · rw [if_pos hf] at ho; rw [if_pos hf'] at ho'
      rw [hρin _ _ hf] at hb; rw [hρin _ _ hf'] at hb'
      exact hh'.inj f i f' i' o o' b ho ho' hb hb'
    · rw [if_pos hf] at ho; rw [if_neg hf'] at ho'
      rw [hρin _ _ hf] at hb; rw [hρout _ _ hf'] at hb'
      exact (cross hf hf' ho ho' hb hb').elim
    · rw [if_neg hf] at ho; rw [if_pos hf'] at ho'
      rw [hρout _ _ hf] at hb; rw [hρin _ _ hf'] at hb'
      exact (cross hf' hf ho' ho hb' hb).elim
    · rw [if_neg hf] at ho; rw [if_neg hf'] at ho'
      rw [hρout _ _ hf] at hb; rw [hρout _ _ hf'] at hb'
      obtain ⟨o1, h1, _⟩ := hrest f i o ho
      obtain ⟨o2, h2, _⟩ := hrest f' i' o' ho'
      exact hs.inj f i f' i' o1 o2 b h1 h2 hb hb'
  · rcases hown b hb with hb | hb
    · obtain ⟨h1, h2⟩ := hh'.mine b hb
      refine ⟨h1, ?_⟩
      rcases h2 with h2 | h2
      · exact (hs.mine b (hOC b h2)).2
      · exact .inr (Nat.le_trans hs.size0 h2)
    · obtain ⟨h1, h2⟩ := hs.mine b (hOR b hb).1
      exact ⟨Nat.lt_of_lt_of_le h1 hsz, h2⟩
  · have h1 : b < w.heap.size := Nat.lt_of_lt_of_le hlt hs.size0
    rw [hh'.keep b h1 (fun hh => ?_)]
    · exact hs.keep b hlt hn
    · rcases (hs.mine b (hOC b hh)).2 with h2 | h2
      · exact hn h2
      · omega
  · obtain ⟨a1, t, cs, a2⟩ := hs.pins f i b hp
    by_cases hf : f ∈ nm
    · have h3 : hget CH f i = some (.blk t cs) := by rw [← hfe.hget hf]; exact a2
      have hp' : pinOf ρ CH f i = some b := by simp only [pinOf, h3, a1]
      obtain ⟨b1, t', cs', b2⟩ := hh'.pins f i b hp'
      exact ⟨by rw [hρin f i hf]; exact b1, t', cs', by rw [happ, if_pos hf]; exact b2⟩
    · have h3 : hget rest0 f i = some (.blk t cs) := by rw [hr0s, if_neg hf]; exact a2
      obtain ⟨o', h4, _, _, h5, _⟩ := k2 f i _ h3
      obtain ⟨cs', rfl⟩ := h5 t cs rfl
      exact ⟨by rw [hρout f i hf]; exact a1, t, cs', by rw [happ, if_neg hf]; exact h4⟩

/-- Back from a call: the variables that came in stand where they stood. -/
theorem heap_whole {hp CH H' : Hp} {ρ ρ' : Nat → Nat → Value} {w w' : World} (hs : Heap F hp ρ w) (nm : List Nat) (hfe : FamsEq hp CH nm) (hcn : namesIn nm CH = true) {rest0 rest : Hp} (hr0 : rest? nm hp = some rest0) (hH : keepH? (okRef CH nm) rest0 = some rest)
    (hOf : ∀ b, (F.Of b ∨ (OwnB ρ hp b ∧ ¬ OwnB ρ CH b)) → b < w.heap.size ∧ ¬ OwnB ρ CH b) (hheap : Heap (frameOf F hp CH ρ w hOf) CH ρ w) (hh' : Heap (frameOf F hp CH ρ w hOf) H' ρ' w') (n1 : namesIn nm H' = true) (n2 : hpIn nm H' = true) :
    ∃ ρ'', Heap F (H' ++ rest) ρ'' w' ∧ (∀ A v, (∀ f i, A.Refs f i → f ∈ nm) → RepA w' ((frameOf F hp CH ρ w hOf).O ρ' H') ρ' A v → RepA w' (F.O ρ'' (H' ++ rest)) ρ'' A v) ∧
      (∀ A v, (∀ f i, A.Refs f i → okRef CH nm f i = true) → RepA w (F.O ρ hp) ρ A v → RepA w' (F.O ρ'' (H' ++ rest)) ρ'' A v) ∧ ∀ f i, okRef CH nm f i = true → ρ'' f i = ρ f i := by
  have hok : ∀ f i, f ∈ nm → okRef CH nm f i = true → ρ' f i = ρ f i := fun f i hf hok => by
    have hb : isBlk (hget CH f i) = true := by
      simp only [okRef, memB_spec.2 hf, Bool.not_true, Bool.false_or] at hok; exact hok
    cases ho : hget CH f i with
    | none => rw [ho] at hb; cases hb
    | some o =>
      rw [ho] at hb
      cases o with
      | blk t cs =>
        obtain ⟨b, us, hv, _⟩ := hheap.sim f i _ ho
        have hp : pinOf ρ CH f i = some b := by simp only [pinOf, ho, hv]
        rw [(hh'.pins f i b hp).1, hv]
      | row t k xs => cases hb
      | rowD t k xs => cases hb
  obtain ⟨ρ'', a1, a2, a3, a4, a5⟩ := heap_join hs nm hfe hcn (rest?_spec hr0) (keepH?_spec hH).1 (keepH?_spec hH).2 hOf hheap hh' n1 n2 hok
  refine ⟨ρ'', a1, a2, a3, fun f i h => ?_⟩
  by_cases hf : f ∈ nm
  · rw [a4 f i hf]; exact hok f i hf h
  · exact a5 f i hf

/-- The caller's side of a call. -/
theorem call_core {ρ : Nat → Nat → Value} {act : Act} {w : World} (hs : SR F s ρ act w) {f : FuncId} {args : List AV} {CH : Hp} {R : AV → Hp → Prop} (hc : ACalls P f args CH R) {vs : List Value} (hlen : vs.length = args.length) (hvs : ∀ (i : Nat) a v, args[i]? = some a → vs[i]? = some v → RepA w (F.O ρ s.hp) ρ a v)
    (nm : List Nat) (hfe : FamsEq s.hp CH nm) (hcn : namesIn nm CH = true) {rest0 rest : Hp} {env' : List (Nat × AV)} (hr0 : rest? nm s.hp = some rest0) (hE : keepE? (okRef CH nm) s.env = some env') (hH : keepH? (okRef CH nm) rest0 = some rest)
    (hR : ∀ r H', R r H' → namesIn nm H' = true ∧ hpIn nm H' = true ∧ r.ok (inNm nm) = true) :
    Calls P f vs.toArray w fun e w' => ∃ v r H' ρ'', e = .returned v ∧ R r H' ∧ RepA w' (F.O ρ'' (H' ++ rest)) ρ'' r v ∧ SR F ⟨s.n, env', H' ++ rest⟩ ρ'' act w' ∧ ∀ f i, okRef CH nm f i = true → ρ'' f i = ρ f i := by
  obtain ⟨hOf, hheap, hO⟩ := heap_part hs.heap nm hfe hcn
  refine (hc.2 (frameOf F s.hp CH ρ w hOf) ρ vs rfl rfl rfl hheap hlen (fun i a v ha hv => by rw [hO]; exact hvs i a v ha hv)).mono fun e w' ⟨v, r, H', ρ', e1, hRr, hrep, hh'⟩ => ?_
  obtain ⟨n1, n2, n3⟩ := hR r H' hRr
  obtain ⟨ρ'', g1, g2, g3, g4⟩ := heap_whole hs.heap nm hfe hcn hr0 hH hOf hheap hh' n1 n2
  refine ⟨v, r, H', ρ'', e1, hRr, g2 r v (fun f i hf => memB_spec.1 (AV.ok_spec n3 hf)) hrep, ⟨hs.size, hs.defs, fun t a ha => ?_, g1⟩, g4⟩
  rcases keepE?_spec hE ha with rfl | ⟨h1, h2⟩
  · exact .top
  · exact g3 _ _ h2 (hs.env t a h1)

theorem run_call {f : FuncId} {fn : Func} (hf : P.funcs[f]? = some fn) (hname : (fn.name == "runtime.NumGoroutine") = false) (hb : fn.body.isSome = true) {act : Act} {w : World} {xs : List Operand} {dst : Option Nat} :
    (execOp act.eval ⟨dst, .call { callee := .value (.func f), args := xs.toArray, argTypes := at_ }, ty, pos, aft, g⟩).run P w = .ok (.enter f (xs.map act.eval).toArray) w := by
  have hb' : ¬ fn.body = none := by intro h; rw [h] at hb; cases hb
  have hn' : ¬ fn.name = "runtime.NumGoroutine" := by simpa using hname
  simp [execOp, resolve, Act.eval, Deferred.ofValue, invoke, callFunc, hf, hn', hb']

/-- A call in general. -/
theorem st_callX {f : FuncId} {xs : List Operand} {args : List AV} {CH : Hp} {R : AV → Hp → Prop} (hc : ACalls P f args CH R) (hargs : evs? s xs = some args)
    (nm : List Nat) (hfe : FamsEq s.hp CH nm) (hcn : namesIn nm CH = true) {rest0 rest : Hp} {env' : List (Nat × AV)} (hr0 : rest? nm s.hp = some rest0) (hE : keepE? (okRef CH nm) s.env = some env') (hH : keepH? (okRef CH nm) rest0 = some rest)
    (hR : ∀ r H', R r H' → namesIn nm H' = true ∧ hpIn nm H' = true ∧ r.ok (inNm nm) = true) (hd : Nat.blt d s.n = true) :
    Ostep P F ⟨some d, .call { callee := .value (.func f), args := xs.toArray, argTypes := at_ }, ty, pos, aft, g⟩ s (fun s' => ∃ r H', R r H' ∧ s' = ⟨s.n, (d, r) :: env', H' ++ rest⟩) := fun ρ act w hs => by
  obtain ⟨fn, h1, h2, h3⟩ := hc.1
  obtain ⟨h4, h5⟩ := evs?_spec hs hargs
  unfold Oper.wp
  rw [run_call h1 h2 h3, Oper.upon_enter]
  refine (call_core hs hc h4 h5 nm hfe hcn hr0 hE hH hR).mono fun e w' ⟨v, r, H', ρ'', e1, hRr, hrep, hsr, _⟩ => ?_
  subst e1
  exact ⟨_, ρ'', ⟨rfl, r, H', hRr, rfl⟩, hsr.put (lt_of_blt hd) hrep⟩
/-- A call with a known answer. -/
theorem st_callD {f : FuncId} {xs : List Operand} {args : List AV} {CH H0 : Hp} {r0 : AV} (hc : ACalls P f args CH fun r H' => r = r0 ∧ H' = H0) (hargs : evs? s xs = some args)
    (nm : List Nat) (hfe : FamsEq s.hp CH nm) (hcn : namesIn nm CH = true) {rest0 rest : Hp} {env' : List (Nat × AV)} (hr0 : rest? nm s.hp = some rest0) (hE : keepE? (okRef CH nm) s.env = some env') (hH : keepH? (okRef CH nm) rest0 = some rest)
    (hR1 : namesIn nm H0 = true) (hR2 : hpIn nm H0 = true) (hR3 : r0.ok (inNm nm) = true) (hd : Nat.blt d s.n = true) {hp' : Hp} (hhp : some (H0 ++ rest) = some hp') :
    Estep P F ⟨some d, .call { callee := .value (.func f), args := xs.toArray, argTypes := at_ }, ty, pos, aft, g⟩ s ⟨s.n, (d, r0) :: env', hp'⟩ (okRef CH nm) := by
  injection hhp with hhp
  subst hhp
  intro ρ act w hs
  obtain ⟨fn, h1, h2, h3⟩ := hc.1
  obtain ⟨h4, h5⟩ := evs?_spec hs hargs
  unfold Oper.wp
  rw [run_call h1 h2 h3, Oper.upon_enter]
  refine (call_core hs hc h4 h5 nm hfe hcn hr0 hE hH (fun r H' ⟨e1, e2⟩ => by subst e1 e2; exact ⟨hR1, hR2, hR3⟩)).mono fun e w' ⟨v, r, H', ρ'', e1, ⟨e2, e3⟩, hrep, hsr, hk⟩ => ?_
  subst e1 e2 e3
  exact ⟨ρ'', hsr.put (lt_of_blt hd) hrep, hk⟩
/-- A call of a function that only computes. -/
theorem st_callP {f : FuncId} {xs : List Operand} {args : List AV} {x : D} (hc : PCalls P f args x) (hargs : evs? s xs = some args) (hd : Nat.blt d s.n = true) :
    Pstep P F ⟨some d, .call { callee := .value (.func f), args := xs.toArray, argTypes := at_ }, ty, pos, aft, g⟩ s d (.d x) := by
  refine ⟨hd, rfl, fun ρ act w hs => ?_⟩
  obtain ⟨fn, h1, h2, h3⟩ := hc.1
  obtain ⟨h4, h5⟩ := evs?_spec hs hargs
  unfold Oper.wp
  rw [run_call h1 h2 h3, Oper.upon_enter]
  have hno : ∀ ρ b, ¬ OwnB ρ [] b := fun ρ b ⟨_, _, _, h, _⟩ => by cases h
  let F' : Fr := Fr.mk w (F.O ρ s.hp) (OwnB ρ []) (pinOf ρ []) (fun b hb => ⟨by
    rcases hb with hb | hb
    · exact Nat.lt_of_lt_of_le (F.hOf b hb).1 hs.heap.size0
    · exact (hs.heap.mine b hb).1, hno ρ b⟩) [] (fun _ _ _ h => pinOf_mem h)
  have hO : ∀ ρ', F'.O ρ' [] = F.O ρ s.hp := fun ρ' => funext fun b => propext ⟨fun h => h.elim id fun h => (hno ρ' b h).elim, .inl⟩
  have hheap : Heap F' [] ρ w := ⟨(fun f i o ho => by cases ho), (fun f i f' i' o o' b ho => by cases ho), fun b hb => (hno ρ b hb).elim, rfl, rfl, rfl, Nat.le_refl _, fun _ _ _ => rfl, fun f i b hb => pinOf_spec hb⟩
  refine (hc.2 F' ρ _ rfl rfl rfl hheap h4 (fun i a v ha hv => by rw [hO]; exact h5 i a v ha hv)).mono fun e w' ⟨v, r, H', ρ', e1, ⟨e2, e3⟩, hrep, hh'⟩ => ?_
  subst e1 e2 e3
  have hbb : ∀ b, b < w.heap.size → w'.heap[b]? = w.heap[b]? := fun b hlt => hh'.keep b hlt (hno ρ b)
  have hsz : w.heap.size ≤ w'.heap.size := hh'.size0
  refine ⟨v, rfl, ?_, ?_, hsz, hbb⟩
  rotate_left
  · refine ⟨fun f i o ho => ?_, hs.heap.inj, fun b hb => ⟨Nat.lt_of_lt_of_le (hs.heap.mine b hb).1 hsz, (hs.heap.mine b hb).2⟩, hh'.os.trans hs.heap.os, hh'.tape.trans hs.heap.tape, hh'.output.trans hs.heap.output, Nat.le_trans hs.heap.size0 hsz, fun b hlt hn => ?_, hs.heap.pins⟩
    · exact (hs.heap.sim f i o ho).mono hsz (fun b hlt _ => hbb b hlt) (fun _ _ h => h) (fun b hv => hbb b (hs.heap.mine b ⟨f, i, o, ho, hv⟩).1) fun _ _ _ => rfl
    · rw [hbb b (Nat.lt_of_lt_of_le hlt hs.heap.size0)]; exact hs.heap.keep b hlt hn
  · cases hrep with
    | d hrep => rw [hO] at hrep; exact .d hrep
end

end Go.Proofs.Ytjbghmlofjkcfaa
