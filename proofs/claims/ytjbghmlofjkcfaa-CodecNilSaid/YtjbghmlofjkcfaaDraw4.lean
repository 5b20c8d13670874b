/- Regions whose order is drawn: the rules of the walk. No program in sight. -/
import Derived.Test.YtjbghmlofjkcfaaDraw3
namespace Go.Proofs.Ytjbghmlofjkcfaa
open Go.RowKit

section
variable {P : Program} {F : Fr} {ops : Array Oper} {pre : List (List Nat)} {Q : Exit → AS → Prop}

/-- The first lo operations are done, in whatever order; s stands. -/
def Dwp (P : Program) (F : Fr) (ops : Array Oper) (lo : Nat) (Q : Exit → AS → Prop) (s : AS) : Prop := ∀ ρ act w listed, SR F s ρ act w → listed.size = ops.size → (∀ k, Lf listed k = decide (k < lo)) → wpAny P .any ops (lift F Q) (cnt (Lf listed) ops.size) listed act w

theorem SR.drew {s : AS} {ρ : Nat → Nat → Value} {act : Act} {w w' : World} (h : SR F s ρ act w) (hh : w'.heap = w.heap) (ho : w'.os = w.os) (ht : w'.tape = w.tape) (hu : w'.output = w.output) : SR F s ρ act w' := by
  have hs : w.heap.size ≤ w'.heap.size := by rw [hh]; exact Nat.le_refl _
  have hb : ∀ b, b < w.heap.size → w'.heap[b]? = w.heap[b]? := fun b _ => by rw [hh]
  exact ⟨h.size, h.defs, fun t x hx => (h.env t x hx).mono hs (fun b hlt _ => hb b hlt) (fun _ _ h => h) (fun _ _ _ => rfl), h.heap.stay ⟨ho, ht, hu⟩ hs hb⟩

theorem a_draw {id : Nat} {l : List Oper} {s : AS} (hm : P.follows .mixedOrders = true) (h : Dwp P F l.toArray 0 Q s) : Awp P F (.region id l.toArray true) Q s := fun ρ act w hs => by
  refine wp_region_any hm ?_
  have h0 : ∀ k, Lf (Array.replicate l.toArray.size false) k = false := fun k => by
    unfold Lf
    rw [Array.getD_eq_getD_getElem?, Array.getElem?_replicate]
    split <;> rfl
  have hc : ∀ n, cnt (Lf (Array.replicate l.toArray.size false)) n = n := by
    intro n
    induction n with
    | zero => rfl
    | succ n ih => simp only [cnt, ih, h0]
  have := h ρ act { w with drawn := w.drawn + 1 } (Array.replicate l.toArray.size false) (hs.drew rfl rfl rfl rfl) (by simp) (fun k => by rw [h0]; simp)
  rwa [hc] at this

theorem dw_end {lo : Nat} {s : AS} (hlo : Nat.beq ops.size lo = true) (h : Q .normal s) : Dwp P F ops lo Q s := fun ρ act w listed hs hsz hL => by
  have hlo' := Nat.eq_of_beq_eq_true hlo
  have hr : Region.ready .any ops listed = [] := by
    refine List.eq_nil_iff_forall_not_mem.2 fun j hj => ?_
    obtain ⟨h1, o, h2, _⟩ := mem_ready.1 hj
    have hlt : j < ops.size := (Array.getElem?_eq_some_iff.1 h2).1
    have := hL j
    rw [decide_eq_true (by omega)] at this
    unfold Lf at this
    rw [Array.getD_eq_getD_getElem?, Array.getElem?_eq_getElem (by omega)] at h1 this
    simp at h1 this
    rw [this] at h1; cases h1
  cases cnt (Lf listed) ops.size with
  | zero => exact ⟨hr, s, ρ, h, hs⟩
  | succ n => exact ⟨fun _ => ⟨s, ρ, h, hs⟩, fun i hi => by rw [hr] at hi; cases hi⟩

def cutOK (pre : List (List Nat)) (lo hi : Nat) : Nat → Nat → Bool
  | _, 0 => true
  | j, m + 1 => inAll lo (hi - lo) (preAt pre j) && cutOK pre lo hi (j + 1) m
where inAll (x : Nat) : Nat → List Nat → Bool
  | 0, _ => true
  | m + 1, l => memB x l && inAll (x + 1) m l
theorem inAll_spec {x m : Nat} {l : List Nat} (h : cutOK.inAll x m l = true) : ∀ y, x ≤ y → y < x + m → y ∈ l := by
  induction m generalizing x with
  | zero => intro y h1 h2; omega
  | succ m ih =>
    simp only [cutOK.inAll, Bool.and_eq_true] at h
    intro y h1 h2
    by_cases e : x = y
    · subst e; exact memB_spec.1 h.1
    · exact ih h.2 y (by omega) (by omega)
theorem cutOK_spec {lo hi j0 m : Nat} (hle : lo ≤ hi) (h : cutOK pre lo hi j0 m = true) : ∀ j, j0 ≤ j → j < j0 + m → ∀ x, lo ≤ x → x < hi → x ∈ preAt pre j := by
  induction m generalizing j0 with
  | zero => intro j h1 h2; omega
  | succ m ih =>
    simp only [cutOK, Bool.and_eq_true] at h
    intro j h1 h2 x h3 h4
    by_cases e : j0 = j
    · subst e; exact inAll_spec h.1 x h3 (by omega)
    · exact ih h.2 j (by omega) (by omega) x h3 h4
/-- What follows hi waits for all of [lo, hi). -/
def cutB (pre : List (List Nat)) (n lo hi : Nat) : Bool := Nat.ble lo hi && (Nat.ble hi n && cutOK pre lo hi hi (n - hi))
theorem cutB_spec {n lo hi : Nat} (h : cutB pre n lo hi = true) : lo ≤ hi ∧ hi ≤ n ∧ ∀ j, hi ≤ j → j < n → ∀ x, lo ≤ x → x < hi → x ∈ preAt pre j := by
  simp only [cutB, Bool.and_eq_true] at h
  have h1 := Nat.le_of_ble_eq_true h.1
  have h2 := Nat.le_of_ble_eq_true h.2.1
  exact ⟨h1, h2, fun j hj hn => cutOK_spec h1 h.2.2 j hj (by omega)⟩

theorem listed_closed (hp : PreSpec ops pre) {listed : Array Bool} {lo : Nat} (hL : ∀ k, Lf listed k = decide (k < lo)) : ∀ j, j < ops.size → Lf listed j = true → ∀ x ∈ preAt pre j, Lf listed x = true := fun j hj hl x hx => by
  rw [hL] at hl ⊢
  have := of_decide_eq_true hl
  have := hp.lt j hj x hx
  exact decide_eq_true (by omega)

/-- An operation that all the rest waits for: as in the text's order. -/
theorem dw_one {lo : Nat} {s : AS} {o : Oper} (hp : PreSpec ops pre) (ho : ops[lo]? = some o) (hc : cutB pre ops.size lo (lo + 1) = true) (h : Aops P F ops [o] (fun e s' => e = .normal ∧ Dwp P F ops (lo + 1) Q s') s) : Dwp P F ops lo Q s := fun ρ act w listed hs hsz hL => by
  obtain ⟨_, c2, c3⟩ := cutB_spec hc
  have hrun := h ρ act w hs
  refine wpAny_seg hp lo (lo + 1) c2 c3 (fun L act' w' => ((L lo = false ∧ act' = act ∧ w' = w) ∨ (L lo = true ∧ ∃ s' ρ', Dwp P F ops (lo + 1) Q s' ∧ SR F s' ρ' act' w'))) ?_ ?_ _ listed act w hsz rfl (listed_closed hp hL) (fun k hk => by rw [hL]; exact decide_eq_true hk) (fun k hk => by rw [hL]; exact decide_eq_false (by omega)) (.inl ⟨by rw [hL]; simp, rfl, rfl⟩)
  · intro L act' w' i hi1 hi2 hLi _ _ hI
    have : i = lo := by omega
    subst this
    rcases hI with ⟨_, rfl, rfl⟩ | ⟨hh, _⟩
    · refine ⟨o, ho, ?_⟩
      unfold wpList at hrun
      unfold wpRun
      split
      · rename_i hw
        rw [if_pos hw] at hrun
        rcases hrun with hrun | ⟨_, a, w, s', ρ', ⟨he, _⟩, _⟩
        · have hno : ∀ e a w, lift F (fun e s' => e = .normal ∧ Dwp P F ops (i + 1) Q s') e a w → e = .normal := fun e a w ⟨_, _, ⟨he, _⟩, _⟩ => he
          have key : ∀ (K : Act → World → Prop) (Q1 : Exit → Act → World → Prop), (∀ e a w, Q1 e a w → e = .normal) → o.wp P act' w' K Q1 → o.wp P act' w' K (fun _ _ _ => False) := by
            intro K Q1 hq hh
            unfold Oper.wp at hh ⊢
            generalize (execOp act'.eval o).run P w' = r at hh
            cases r with
            | ok x w =>
              cases x with
              | enter f args =>
                rw [Oper.upon_enter] at hh ⊢
                refine hh.mono fun e w' he => ?_
                cases e with
                | returned v => exact he
                | panicked _ => exact by cases hq _ _ _ he
                | outgrown => obtain ⟨_, _, hf⟩ := he; exact by cases hq _ _ _ hf
              | _ => exact hh
            | halt x w =>
              cases x with
              | panic v => exact by cases hq _ _ _ hh
              | _ => exact hh
          refine wp_weaken ?_ (key _ _ hno hrun)
          rintro a w ⟨s', ρ', ⟨_, h1⟩, h2⟩
          exact .inr ⟨by simp, s', ρ', h1, h2⟩
        · cases he
      · rename_i hw
        rw [if_neg hw] at hrun
        obtain ⟨s', ρ', ⟨_, h1⟩, h2⟩ := hrun
        exact .inr ⟨by simp, s', ρ', h1, h2⟩
    · rw [hLi] at hh; cases hh
  · intro listed' act' w' hsz' hL' hI
    rcases hI with ⟨hh, _⟩ | ⟨_, s', ρ', h1, h2⟩
    · rw [hL'] at hh; simp at hh
    · exact h1 ρ' act' w' listed' h2 hsz' hL'

/-! A segment of several operations. -/
abbrev RS (R : List Rc) := R.map Rc.ws
abbrev RF (R : List Rc) := R.map Rc.fs
def txtS (base : AS) (R : List Rc) : Nat → Option AV := tgt (get base.env) (fun _ => true) (RS R)
def txtF (base : AS) (R : List Rc) : Nat → Option (List AObj) := tgt (hfam base.hp) (fun _ => true) (RF R)
def Valid (P : Program) (ops : Array Oper) (lo : Nat) (base : AS) : List Rc → Prop
  | [] => True
  | rc :: r => Valid P ops lo base r ∧ (∃ o, ops[lo + r.length]? = some o ∧ Sound P ops base.n o rc (txtS base r) (txtF base r)) ∧ ∀ f, look rc.fs f ≠ none → f ∈ rc.nm
theorem Valid.at {lo : Nat} {base : AS} {R : List Rc} (h : Valid P ops lo base R) {k : Nat} {rc : Rc} (hk : R.reverse[k]? = some rc) : ∃ A r, R = A ++ rc :: r ∧ r.length = k ∧ (∃ o, ops[lo + k]? = some o ∧ Sound P ops base.n o rc (txtS base r) (txtF base r)) ∧ ∀ f, look rc.fs f ≠ none → f ∈ rc.nm := by
  induction R with
  | nil => simp at hk
  | cons x r ih =>
    rcases rev_cons_cases hk with hk | ⟨rfl, rfl⟩
    · obtain ⟨A, r', h1, h2⟩ := ih h.1 hk
      exact ⟨x :: A, r', by rw [h1]; rfl, h2⟩
    · exact ⟨[], r, rfl, rfl, h.2.1, h.2.2⟩

/-- The records R stand; env and hp are what the text's order leaves. -/
def Dseg (P : Program) (F : Fr) (ops : Array Oper) (lo : Nat) (Q : Exit → AS → Prop) (base : AS) (R : List Rc) (env : List (Nat × AV)) (hp : Hp) : Prop :=
  Valid P ops lo base R → (∀ t a, get env t = some a → txtS base R t = some a) → (∀ f, hfam hp f = txtF base R f) → Dwp P F ops lo Q base

theorem dw_seg {lo : Nat} {s : AS} (h : Dseg P F ops lo Q s [] s.env s.hp) : Dwp P F ops lo Q s := h trivial (fun _ _ h => h) fun _ => rfl

structure PairSpec (pre : List (List Nat)) (lo i j : Nat) (ri rj : Rc) : Prop where
  race : (lo + j) ∉ preAt pre (lo + i) → disjK rj.ws ri.rd = true ∧ disjK rj.ws (keysOf ri.ws) = true ∧ disjK ri.ws rj.rd = true ∧ disjK rj.fs ri.nm = true ∧ disjK ri.fs rj.nm = true
  late : ri.eff = true → okWs ri.ok ri.ws rj.ws = true ∧ okFs ri.ok ri.fs rj.fs = true
  early : (lo + j) ∉ preAt pre (lo + i) → rj.eff = true → okWs rj.ok rj.ws ri.ws = true ∧ okFs rj.ok rj.fs ri.fs = true
theorem pairOK_spec {lo i j : Nat} {ri rj : Rc} (h : pairOK (memB (lo + j) (preAt pre (lo + i))) rj ri = true) : PairSpec pre lo i j ri rj := by
  have hm : (lo + j) ∉ preAt pre (lo + i) → memB (lo + j) (preAt pre (lo + i)) = false := fun hn => by
    cases hh : memB (lo + j) (preAt pre (lo + i)) with
    | false => rfl
    | true => exact absurd (memB_spec.1 hh) hn
  simp only [pairOK, Bool.and_eq_true, Bool.or_eq_true, Bool.not_eq_true'] at h
  refine ⟨fun hn => ?_, fun he => ?_, fun hn he => ?_⟩
  · have := h.1
    rw [hm hn] at this
    simpa using this
  · have := h.2.1
    rw [he] at this
    simpa using this
  · have := h.2.2
    rw [hm hn, he] at this
    simpa using this

theorem dw_close {lo hi : Nat} {s : AS} {R : List Rc} {env : List (Nat × AV)} {hp : Hp} (hps : PreSpec ops pre) (hhi : Nat.beq (lo + R.length) hi = true) (hc : cutB pre ops.size lo hi = true) (hchk : chkAll pre lo s.env s.hp R = true) (h : Dwp P F ops hi Q ⟨s.n, env, hp⟩) : Dseg P F ops lo Q s R env hp := fun hV hE hH => by
  intro ρ act w listed hs hsz hL
  have hhi' := Nat.eq_of_beq_eq_true hhi
  subst hhi'
  obtain ⟨_, c2, c3⟩ := cutB_spec hc
  let Inv : (Nat → Bool) → Act → World → Prop := fun L act w => ∃ ρ env hp, SR F ⟨s.n, env, hp⟩ ρ act w ∧ (∀ t, get env t = tgt (get s.env) (fun k => L (lo + k)) (RS R) t) ∧ ∀ f, hfam hp f = tgt (hfam s.hp) (fun k => L (lo + k)) (RF R) f
  have hnone : ∀ {α : Type} (base : Nat → α) (R : List (List (Nat × α))) t, tgt base (fun k => Lf listed (lo + k)) R t = base t := by
    intro α base R t
    induction R with
    | nil => rfl
    | cons ws r ih =>
      have h0 : Lf listed (lo + r.length) = false := by rw [hL]; exact decide_eq_false (by omega)
      simp only [tgt, h0]; exact ih
  refine wpAny_seg hps lo (lo + R.length) c2 c3 Inv ?_ ?_ _ listed act w hsz rfl (listed_closed hps hL) (fun k hk => by rw [hL]; exact decide_eq_true hk) (fun k hk => by rw [hL]; exact decide_eq_false (by omega)) ⟨ρ, s.env, s.hp, hs, fun t => (hnone _ _ t).symm, fun f => (hnone _ _ f).symm⟩
  · intro L act w i' hi1 hi2 hLi hpre hcl ⟨ρ, env1, hp1, hsr, hE1, hH1⟩
    obtain ⟨i, rfl⟩ : ∃ i, i' = lo + i := ⟨i' - lo, by omega⟩
    have hiR : i < R.length := by omega
    have hri : R.reverse[i]? = some (R.reverse[i]'(by simpa using hiR)) := List.getElem?_eq_getElem (by simpa using hiR)
    generalize R.reverse[i]'(by simpa using hiR) = rc at hri
    obtain ⟨A, r, e1, e2, ⟨o, ho, hsound⟩, hfk⟩ := hV.at hri
    -- the order against others
    have hmapS : ∀ {k ws}, (RS R).reverse[k]? = some ws → ∃ rk : Rc, R.reverse[k]? = some rk ∧ rk.ws = ws := fun {k ws} hk => by
      rw [← List.map_reverse, List.getElem?_map] at hk
      cases hh : R.reverse[k]? with
      | none => rw [hh] at hk; cases hk
      | some rk => rw [hh] at hk; injection hk with hk; exact ⟨rk, hh, hk⟩
    have hmapF : ∀ {k ws}, (RF R).reverse[k]? = some ws → ∃ rk : Rc, R.reverse[k]? = some rk ∧ rk.fs = ws := fun {k ws} hk => by
      rw [← List.map_reverse, List.getElem?_map] at hk
      cases hh : R.reverse[k]? with
      | none => rw [hh] at hk; cases hk
      | some rk => rw [hh] at hk; injection hk with hk; exact ⟨rk, hh, hk⟩
    have hearly : ∀ {k rk}, R.reverse[k]? = some rk → k < i → L (lo + k) = false → PairSpec pre lo i k rc rk ∧ (lo + k) ∉ preAt pre (lo + i) := fun {k rk} hk hlt hLk =>
      ⟨pairOK_spec (chkAll_pair hchk hri hk hlt), fun hm => by rw [hpre _ hm] at hLk; cases hLk⟩
    have hlate : ∀ {k rk}, R.reverse[k]? = some rk → i < k → L (lo + k) = true → PairSpec pre lo k i rk rc ∧ (lo + i) ∉ preAt pre (lo + k) := fun {k rk} hk hlt hLk =>
      ⟨pairOK_spec (chkAll_pair hchk hk hri hlt), fun hm => by
        have hkR := rev_lt hk
        rw [hcl (lo + k) (by omega) hLk _ hm] at hLi; cases hLi⟩
    have hR : RS R = (RS (A ++ [rc])) ++ RS r ∧ RF R = (RF (A ++ [rc])) ++ RF r := by
      rw [e1]; simp [RS, RF]
    have hsame : ∀ t ∈ rc.rd, tgt (get s.env) (fun k => L (lo + k)) (RS R) t = txtS s r t := fun t ht => by
      have h1 : tgt (get s.env) (fun k => L (lo + k)) (RS R) t = tgt (get s.env) (fun k => decide (k < (RS r).length)) (RS R) t := by
        refine tgt_congr fun k ws hk hw => ?_
        obtain ⟨rk, hk', rfl⟩ := hmapS hk
        have hlen : (RS r).length = i := by simp [RS, e2]
        rw [hlen]
        rcases Nat.lt_trichotomy k i with hlt | heq | hgt
        · rw [decide_eq_true hlt]
          cases hLk : L (lo + k) with
          | true => rfl
          | false =>
            obtain ⟨p1, p2⟩ := hearly hk' hlt hLk
            exact absurd (disjK_spec (p1.race p2).1 ht) hw
        · subst heq; rw [decide_eq_false (Nat.lt_irrefl _)]; exact hLi
        · rw [decide_eq_false (by omega)]
          cases hLk : L (lo + k) with
          | false => rfl
          | true =>
            obtain ⟨p1, p2⟩ := hlate hk' hgt hLk
            exact absurd (disjK_spec (p1.race p2).2.2.1 ht) hw
      rw [h1, hR.1, tgt_prefix]; rfl
    have hsameF : ∀ f ∈ rc.nm, tgt (hfam s.hp) (fun k => L (lo + k)) (RF R) f = txtF s r f := fun f hf => by
      have h1 : tgt (hfam s.hp) (fun k => L (lo + k)) (RF R) f = tgt (hfam s.hp) (fun k => decide (k < (RF r).length)) (RF R) f := by
        refine tgt_congr fun k ws hk hw => ?_
        obtain ⟨rk, hk', rfl⟩ := hmapF hk
        have hlen : (RF r).length = i := by simp [RF, e2]
        rw [hlen]
        rcases Nat.lt_trichotomy k i with hlt | heq | hgt
        · rw [decide_eq_true hlt]
          cases hLk : L (lo + k) with
          | true => rfl
          | false =>
            obtain ⟨p1, p2⟩ := hearly hk' hlt hLk
            exact absurd (disjK_spec (p1.race p2).2.2.2.1 hf) hw
        · subst heq; rw [decide_eq_false (Nat.lt_irrefl _)]; exact hLi
        · rw [decide_eq_false (by omega)]
          cases hLk : L (lo + k) with
          | false => rfl
          | true =>
            obtain ⟨p1, p2⟩ := hlate hk' hgt hLk
            exact absurd (disjK_spec (p1.race p2).2.2.2.2 hf) hw
      rw [h1, hR.2, tgt_prefix]; rfl
    refine ⟨o, ho, wpRun_mono ?_ (hsound F ρ act w env1 hp1 hsr (fun t ht => by rw [hE1, hsame t ht]) (fun f hf => by rw [hH1, hsameF f hf]) (fun he t a ha hl => ?_) (fun he f l hf hl => ?_))⟩
    · rintro act' w' ⟨ρ', env', hp', hsr', hE', hH'⟩
      have hset : ∀ k, (fun k => if lo + k = lo + i then true else L (lo + k)) k = if k = i then true else L (lo + k) := fun k => by
        by_cases e : k = i
        · subst e; simp
        · have : ¬ (lo + k = lo + i) := by omega
          simp [e]
      refine ⟨ρ', env', hp', hsr', fun t => ?_, fun f => ?_⟩
      · rw [hE', hE1]
        refine (tgt_update (i := i) (ws := rc.ws) (by rw [← List.map_reverse, List.getElem?_map, hri]; rfl) hLi hset fun hw k ws' hk hlt hLk => ?_).symm
        obtain ⟨rk, hk', rfl⟩ := hmapS hk
        obtain ⟨p1, p2⟩ := hlate hk' hlt hLk
        have := disjK_spec (t := t) (p1.race p2).2.1
        cases hh : look rk.ws t with
        | none => rfl
        | some x => exact absurd (this (keysOf_spec (by rw [hh]; simp))) hw
      · rw [hH', hH1]
        refine (tgt_update (i := i) (ws := rc.fs) (by rw [← List.map_reverse, List.getElem?_map, hri]; rfl) hLi hset fun hw k ws' hk hlt hLk => ?_).symm
        obtain ⟨rk, hk', rfl⟩ := hmapF hk
        obtain ⟨p1, p2⟩ := hlate hk' hlt hLk
        exact disjK_spec (p1.race p2).2.2.2.2 (hfk f hw)
    · rw [hE1] at ha
      rcases tgt_origin (base := get s.env) (L := fun k => L (lo + k)) (R := RS R) (t := t) with ⟨h1, _⟩ | ⟨k, ws, hk, hLk, hw⟩
      · rw [h1] at ha
        exact okE_spec (chkAll_base hchk hri he).1 ha (fun h => by cases h) hl
      · rw [ha] at hw
        obtain ⟨rk, hk', rfl⟩ := hmapS hk
        rcases Nat.lt_trichotomy k i with hlt | heq | hgt
        · exact okWs_spec ((pairOK_spec (chkAll_pair hchk hri hk' hlt)).late he).1 hw hl
        · subst heq; rw [hLi] at hLk; cases hLk
        · obtain ⟨p1, p2⟩ := hlate hk' hgt hLk
          exact okWs_spec (p1.early p2 he).1 hw hl
    · rw [hH1] at hf
      rcases tgt_origin (base := hfam s.hp) (L := fun k => L (lo + k)) (R := RF R) (t := f) with ⟨h1, _⟩ | ⟨k, ws, hk, hLk, hw⟩
      · rw [h1] at hf
        exact okH_spec (chkAll_base hchk hri he).2 hf hl
      · rw [hf] at hw
        obtain ⟨rk, hk', rfl⟩ := hmapF hk
        rcases Nat.lt_trichotomy k i with hlt | heq | hgt
        · exact okFs_spec ((pairOK_spec (chkAll_pair hchk hri hk' hlt)).late he).2 hw hl
        · subst heq; rw [hLi] at hLk; cases hLk
        · obtain ⟨p1, p2⟩ := hlate hk' hgt hLk
          exact okFs_spec (p1.early p2 he).2 hw hl
  · intro listed' act' w' hsz' hL' ⟨ρ', env', hp', hsr', hE', hH'⟩
    have hall : ∀ {α : Type} (base : Nat → α) (R' : List (List (Nat × α))) t, R'.length = R.length → tgt base (fun k => Lf listed' (lo + k)) R' t = tgt base (fun _ => true) R' t := fun base R' t hlen =>
      tgt_congr fun k ws hk _ => by rw [hL', decide_eq_true]; have := rev_lt hk; omega
    have hHh : ∀ f i, hget hp' f i = hget hp f i := fun f i => by
      simp only [hget, hH', hH, hall _ (RF R) f (by simp [RF])]; rfl
    have hheap : Heap F hp ρ' w' := hsr'.heap.less (fun g i o' ho => ⟨o', by show hget hp' g i = some o'; rw [hHh]; exact ho, fun _ _ _ h => h⟩) fun g i o ho => ⟨o, by rw [← hHh]; exact ho, fun t cs e => ⟨cs, e⟩⟩
    have hO : F.O ρ' hp' = F.O ρ' hp := funext fun b => propext ⟨fun h => h.imp id fun ⟨f, i, o, h1, h2⟩ => ⟨f, i, o, by rw [← hHh]; exact h1, h2⟩, fun h => h.imp id fun ⟨f, i, o, h1, h2⟩ => ⟨f, i, o, by rw [hHh]; exact h1, h2⟩⟩
    refine h ρ' act' w' listed' ⟨hsr'.size, hsr'.defs, fun t a ha => ?_, hheap⟩ hsz' hL'
    have h1 := hE t a ha
    have h2 := hsr'.env t a (by show get env' t = some a; rw [hE', hall _ (RS R) t (by simp [RS])]; exact h1)
    rw [← hO]; exact h2
end

end Go.Proofs.Ytjbghmlofjkcfaa
