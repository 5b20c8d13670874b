/- Contracts over abstract states; how a function is entered, how it is left, how it is called. No program in sight. -/
import Derived.Test.YtjbghmlofjkcfaaRowB
namespace Go.Proofs.Ytjbghmlofjkcfaa
open Go.RowKit

abbrev Hp := List (Nat × List AObj)

def pinOf (ρ : Nat → Nat → Value) (H : Hp) (f i : Nat) : Option Nat := match hget H f i, ρ f i with
  | some (.blk _ _), .pointer (some ⟨b, 0, none⟩) => some b
  | _, _ => none
theorem pinOf_spec {ρ : Nat → Nat → Value} {H : Hp} {f i b : Nat} (h : pinOf ρ H f i = some b) : ρ f i = .pointer (some ⟨b, 0, none⟩) ∧ ∃ t cs, hget H f i = some (.blk t cs) := by
  unfold pinOf at h
  split at h
  · rename_i t cs b' h1 h2
    injection h with h; subst h
    exact ⟨h2, t, cs, h1⟩
  · cases h

/-- A contract: called over owned objects H, f returns r over H' with R r H'; nothing else turns. -/
def ACalls (P : Program) (f : FuncId) (args : List AV) (H : Hp) (R : AV → Hp → Prop) : Prop :=
  (∃ fn, P.funcs[f]? = some fn ∧ (fn.name == "runtime.NumGoroutine") = false ∧ fn.body.isSome = true) ∧
  ∀ (F : Fr) (ρ : Nat → Nat → Value) (vs : List Value), F.own0 = OwnB ρ H → F.pin = pinOf ρ H → F.pn = hpN H → Heap F H ρ F.w0 → vs.length = args.length → (∀ (i : Nat) a v, args[i]? = some a → vs[i]? = some v → RepA F.w0 (F.O ρ H) ρ a v) →
    Calls P f vs.toArray F.w0 fun e w' => ∃ v r H' ρ', e = .returned v ∧ R r H' ∧ RepA w' (F.O ρ' H') ρ' r v ∧ Heap F H' ρ' w'
/-- A contract of a function that only computes. -/
def PCalls (P : Program) (f : FuncId) (args : List AV) (x : D) : Prop := ACalls P f args [] fun r H' => r = .d x ∧ H' = []

theorem pinOf_mem {ρ : Nat → Nat → Value} {H : Hp} {f i b : Nat} (h : pinOf ρ H f i = some b) : f ∈ hpN H := by
  obtain ⟨_, t, cs, h1⟩ := pinOf_spec h
  simp only [hget] at h1
  cases hf : hfam H f with
  | none => rw [hf] at h1; cases h1
  | some l => exact hpN_mem hf
theorem ACalls.mono {P : Program} {f : FuncId} {args : List AV} {H : Hp} {R R' : AV → Hp → Prop} (h : ACalls P f args H R) (hr : ∀ r H', R r H' → R' r H') : ACalls P f args H R' :=
  ⟨h.1, fun F ρ vs h1 h2 h2' h3 h4 h5 => (h.2 F ρ vs h1 h2 h2' h3 h4 h5).mono fun _ _ ⟨v, r, H', ρ', a, b, c⟩ => ⟨v, r, H', ρ', a, hr _ _ b, c⟩⟩

def enumE? : Nat → List AV → Option (List (Nat × AV))
  | _, [] => some []
  | i, a :: r => match enumE? (i + 1) r with
    | none => none
    | some l => some ((i, a) :: l)
theorem enumE?_spec {i : Nat} {as : List AV} {env : List (Nat × AV)} (h : enumE? i as = some env) {t : Nat} {a : AV} (ha : get env t = some a) : ∃ j : Nat, t = i + j ∧ as[j]? = some a := by
  induction as generalizing i env with
  | nil => simp only [enumE?, Option.some.injEq] at h; subst h; simp [get] at ha
  | cons x r ih =>
    simp only [enumE?] at h
    split at h
    · cases h
    · rename_i l hl
      injection h with h; subst h
      rcases get_cons ha with ⟨rfl, rfl⟩ | ⟨_, ha⟩
      · exact ⟨0, rfl, by simp⟩
      · obtain ⟨j, h1, h2⟩ := ih hl ha
        exact ⟨j + 1, by omega, by simpa using h2⟩

/-- What the result variables read as. -/
def resV? (P : Program) (s : AS) : ResultVar → Option AV
  | .tmp t => get s.env t
  | .cell a T => match get s.env a with
    | some (.ptr f i off) => match hget s.hp f i with
      | some (.blk _ cs) => match oneTy P T with
        | true => cs[off]?
        | false => match P.info? T with
          | none => none
          | some inf => match rowTy P T inf.size with
            | false => none
            | true => match takeL? cs off inf.size with
              | none => none
              | some l => mkAgg? l
      | _ => none
    | _ => none
def resL? (P : Program) (s : AS) : List ResultVar → Option (List AV)
  | [] => some []
  | r :: rs => match resL? P s rs with
    | none => none
    | some l => match resV? P s r with
      | none => none
      | some a => some (a :: l)
def resAV? (P : Program) (s : AS) (rs : List ResultVar) : Option AV := match resL? P s rs with
  | none => none
  | some [a] => some a
  | some [.d x, .d y] => some (.d (.tup [x, y]))
  | some [.d x, .d y, .d z] => some (.d (.tup [x, y, z]))
  | some l => some (.tup l)
/-- What the result variables read as, with the facts on the types given. -/
inductive RV (P : Program) (s : AS) : ResultVar → AV → Prop
  | tmp {t : Nat} {a : AV} (h : get s.env t = some a) : RV P s (.tmp t) a
  | cell1 {c f i off : Nat} {T t : TypeId} {cs : List AV} {a : AV} (hg : get s.env c = some (.ptr f i off)) (ho : hget s.hp f i = some (.blk t cs)) (hT : oneTy P T = true) (ha : cs[off]? = some a) : RV P s (.cell c T) a
  | cellS {c f i off n : Nat} {T t : TypeId} {cs l : List AV} {a : AV} (hg : get s.env c = some (.ptr f i off)) (ho : hget s.hp f i = some (.blk t cs)) (hT : rowTy P T n = true) (hl : takeL? cs off n = some l) (ha : mkAgg? l = some a) : RV P s (.cell c T) a
inductive RVs (P : Program) (s : AS) : List ResultVar → List AV → Prop
  | nil : RVs P s [] []
  | cons {r : ResultVar} {rs : List ResultVar} {a : AV} {l : List AV} (h : RV P s r a) (hs : RVs P s rs l) : RVs P s (r :: rs) (a :: l)
def tupAV : List AV → AV
  | [a] => a
  | [.d x, .d y] => .d (.tup [x, y])
  | [.d x, .d y, .d z] => .d (.tup [x, y, z])
  | l => .tup l
def Res (P : Program) (s : AS) (rs : List ResultVar) (r : AV) : Prop := ∃ l, RVs P s rs l ∧ tupAV l = r
theorem resV?_RV {P : Program} {s : AS} {r : ResultVar} {a : AV} (h : resV? P s r = some a) : RV P s r a := by
  cases r with
  | tmp t => exact .tmp h
  | cell c T =>
    simp only [resV?] at h
    split at h
    · rename_i f i off hg
      split at h
      · rename_i t cs ho
        split at h
        · rename_i hT; exact .cell1 hg ho hT h
        · split at h
          · cases h
          · rename_i inf hinf
            split at h
            · cases h
            · rename_i hT
              split at h
              · cases h
              · rename_i l hl; exact .cellS hg ho hT hl h
      · cases h
    · cases h
theorem resL?_RVs {P : Program} {s : AS} : ∀ {rs : List ResultVar} {l : List AV}, resL? P s rs = some l → RVs P s rs l
  | [], l, h => by simp only [resL?, Option.some.injEq] at h; subst h; exact .nil
  | r :: rs, l, h => by
    simp only [resL?] at h
    split at h
    · cases h
    · rename_i l1 h1
      split at h
      · cases h
      · rename_i a ha
        injection h with h; subst h
        exact .cons (resV?_RV ha) (resL?_RVs h1)
theorem res_of {P : Program} {s : AS} {rs : List ResultVar} {r : AV} (h : resAV? P s rs = some r) : Res P s rs r := by
  unfold resAV? at h
  cases hl : resL? P s rs with
  | none => rw [hl] at h; cases h
  | some l =>
    rw [hl] at h
    refine ⟨l, resL?_RVs hl, ?_⟩
    split at h
    · rename_i heq; cases heq
    · rename_i x heq; injection heq with heq; subst heq; injection h
    · rename_i x y heq; injection heq with heq; subst heq; injection h
    · rename_i x y z heq; injection heq with heq; subst heq; injection h
    · rename_i l' hn1 hn2 hn3 heq
      injection heq with heq; subst heq; injection h with h; subst h
      unfold tupAV
      split
      · rename_i a; exact absurd rfl (hn1 a)
      · rename_i x y; exact absurd rfl (hn2 x y)
      · rename_i x y z; exact absurd rfl (hn3 x y z)
      · rfl
/-- A part of the heap. -/
def part? (hp : Hp) : List Nat → Option Hp
  | [] => some []
  | g :: r => match part? hp r with
    | none => none
    | some l => match hfam hp g with
      | none => some l
      | some x => some ((g, x) :: l)
def memB (g : Nat) : List Nat → Bool
  | [] => false
  | a :: r => Nat.beq a g || memB g r
theorem memB_spec {g : Nat} {nm : List Nat} : memB g nm = true ↔ g ∈ nm := by
  induction nm with
  | nil => simp [memB]
  | cons a r ih =>
    simp only [memB, Bool.or_eq_true, ih, List.mem_cons]
    exact or_congr ⟨fun h => (Nat.eq_of_beq_eq_true h).symm, fun h => by rw [h]; exact Nat.beq_refl a⟩ Iff.rfl
def namesIn (nm : List Nat) : Hp → Bool
  | [] => true
  | (g, _) :: r => memB g nm && namesIn nm r
theorem namesIn_fam {nm : List Nat} {H : Hp} (h : namesIn nm H = true) {g : Nat} {l : List AObj} (ho : hfam H g = some l) : g ∈ nm := by
  induction H with
  | nil => simp [hfam] at ho
  | cons p r ih =>
    obtain ⟨k, l'⟩ := p
    simp only [namesIn, Bool.and_eq_true] at h
    by_cases e : k = g
    · subst e; exact memB_spec.1 h.1
    · refine ih h.2 ?_
      simpa only [hfam, beq_ne e] using ho
theorem part?_mem {hp : Hp} : ∀ {nm : List Nat} {hs : Hp}, part? hp nm = some hs → (∀ g x, hfam hs g = some x → g ∈ nm ∧ hfam hp g = some x) ∧ ∀ g, g ∈ nm → hfam hs g = hfam hp g
  | [], hs, h => by
    simp only [part?, Option.some.injEq] at h; subst h
    exact ⟨(fun g x h => by cases h), (fun g h => by cases h)⟩
  | a :: r, hs, h => by
    simp only [part?] at h
    split at h
    · cases h
    · rename_i l hl
      obtain ⟨h1, h2⟩ := part?_mem hl
      split at h
      · rename_i hn
        injection h with h; subst h
        refine ⟨fun g x hg => ⟨List.mem_cons_of_mem _ (h1 g x hg).1, (h1 g x hg).2⟩, fun g hg => ?_⟩
        rcases List.mem_cons.1 hg with rfl | hg
        · rw [hn]
          cases hh : hfam l g with
          | none => rfl
          | some x => rw [(h1 g x hh).2] at hn; cases hn
        · exact h2 g hg
      · rename_i x hx
        injection h with h; subst h
        refine ⟨fun g y hg => ?_, fun g hg => ?_⟩
        · simp only [hfam] at hg
          split at hg
          · rename_i hk
            rw [← Nat.eq_of_beq_eq_true hk]
            injection hg with hg; subst hg
            exact ⟨List.mem_cons_self, hx⟩
          · exact ⟨List.mem_cons_of_mem _ (h1 g y hg).1, (h1 g y hg).2⟩
        · simp only [hfam]
          split
          · rename_i hk; rw [← Nat.eq_of_beq_eq_true hk]; exact hx.symm
          · rename_i hk
            rcases List.mem_cons.1 hg with rfl | hg
            · exact absurd rfl (Nat.ne_of_beq_eq_false hk)
            · exact h2 g hg

def subB : List Nat → List Nat → Bool
  | [], _ => true
  | a :: r, nm => memB a nm && subB r nm
theorem subB_spec {l nm : List Nat} (h : subB l nm = true) {f : Nat} (hf : f ∈ l) : f ∈ nm := by
  induction l with
  | nil => cases hf
  | cons a r ih =>
    simp only [subB, Bool.and_eq_true] at h
    rcases List.mem_cons.1 hf with rfl | hf
    · exact memB_spec.1 h.1
    · exact ih h.2 hf
/-- Owned objects that nobody asks for any more. -/
theorem SR.only {F : Fr} {s : AS} {ρ : Nat → Nat → Value} {act : Act} {w : World} (hs : SR F s ρ act w) (nm : List Nat) {l : List Nat} {hp' : Hp} (hF : F.pn = l) (hsub : subB l nm = true) (hp : part? s.hp nm = some hp') : SR F ⟨s.n, s.env, hp'⟩ ρ act w := by
  obtain ⟨p1, p2⟩ := part?_mem hp
  have hsub' : ∀ f i o, hget hp' f i = some o → hget s.hp f i = some o := fun f i o ho => by
    simp only [hget] at ho ⊢
    cases hf : hfam hp' f with
    | none => rw [hf] at ho; cases ho
    | some x => rw [(p1 f x hf).2]; rw [hf] at ho; exact ho
  have hown : ∀ b, OwnB ρ hp' b → OwnB ρ s.hp b := fun b ⟨f, i, o, a1, a2⟩ => ⟨f, i, o, hsub' f i o a1, a2⟩
  have hO : ∀ b, b < w.heap.size → F.O ρ hp' b → F.O ρ s.hp b := fun b _ hb => hb.imp id (hown b)
  refine ⟨hs.size, hs.defs, fun t a ha => (hs.env t a ha).mono (Nat.le_refl _) (fun _ _ _ => rfl) hO (fun _ _ _ => rfl), ?_⟩
  refine ⟨fun f i o ho => (hs.heap.sim f i o (hsub' f i o ho)).mono (Nat.le_refl _) (fun _ _ _ => rfl) hO (fun _ _ => rfl) (fun _ _ _ => rfl), fun f i f' i' o o' b ho ho' => hs.heap.inj f i f' i' o o' b (hsub' f i o ho) (hsub' f' i' o' ho'), fun b hb => hs.heap.mine b (hown b hb), hs.heap.os, hs.heap.tape, hs.heap.output, hs.heap.size0, hs.heap.keep, fun f i b hb => ?_⟩
  obtain ⟨a1, t, cs, a2⟩ := hs.heap.pins f i b hb
  refine ⟨a1, t, cs, ?_⟩
  have hfn : f ∈ nm := subB_spec hsub (by rw [← hF]; exact F.hpn f i b hb)
  simp only [hget] at a2 ⊢
  rw [p2 f hfn]; exact a2
theorem a_only {P : Program} {F : Fr} {Q : Exit → AS → Prop} {c : Code} {n : Nat} {env : List (Nat × AV)} {hp hp' : Hp} (nm : List Nat) {l : List Nat} (hF : F.pn = l) (hsub : subB l nm = true) (hp1 : part? hp nm = some hp') (h : Awp P F c Q ⟨n, env, hp'⟩) : Awp P F c Q ⟨n, env, hp⟩ := fun ρ act w hs => h ρ act w (hs.only nm hF hsub hp1)
theorem o_only {P : Program} {F : Fr} {Q : Exit → AS → Prop} {ops : Array Oper} {c : List Oper} {n : Nat} {env : List (Nat × AV)} {hp hp' : Hp} (nm : List Nat) {l : List Nat} (hF : F.pn = l) (hsub : subB l nm = true) (hp1 : part? hp nm = some hp') (h : Aops P F ops c Q ⟨n, env, hp'⟩) : Aops P F ops c Q ⟨n, env, hp⟩ := fun ρ act w hs => h ρ act w (hs.only nm hF hsub hp1)

/-- How a function ends: its results and what it hands back (the families nm); what came in with it goes back. -/
def Ret (P : Program) (rs : List ResultVar) (H : Hp) (R : AV → Hp → Prop) : Exit → AS → Prop
  | .normal, s => ∃ r nm H', Res P s rs r ∧ part? s.hp nm = some H' ∧ namesIn nm H = true ∧ R r H'
  | .ret, s => ∃ r nm H', Res P s rs r ∧ part? s.hp nm = some H' ∧ namesIn nm H = true ∧ R r H'
  | _, _ => False

def resRun (tmps : Array Value) : ResultVar → Sem Value
  | .tmp t => pure (tmps.getD t undef)
  | .cell a t => do loadVar t (← asAddr (tmps.getD a undef))
theorem results_eq (fn : Func) (tmps : Array Value) : results fn tmps = (do
    let vs ← fn.results.mapM (resRun tmps)
    pure (if h : vs.size = 1 then vs[0] else .tuple vs)) := rfl
theorem tupD {w : World} {O : Nat → Prop} {ρ : Nat → Nat → Value} {l : List D} {vs : List Value} (hl : vs.length = l.length) (h : ∀ (i : Nat) a v, (l.map AV.d)[i]? = some a → vs[i]? = some v → RepA w O ρ a v) : RepA w O ρ (.d (.tup l)) (.tuple vs.toArray) :=
  .d (.tup hl fun i c v hc hv => by
    have := h i (.d c) v (by rw [List.getElem?_map, hc]; rfl) hv
    cases this with | d h => exact h)
theorem RV.spec {P : Program} {F : Fr} {s : AS} {ρ : Nat → Nat → Value} {act : Act} {w : World} (hs : SR F s ρ act w) {r : ResultVar} {a : AV} (h : RV P s r a) :
    ∃ v, (resRun act.tmps r).run P w = .ok v w ∧ RepA w (F.O ρ s.hp) ρ a v := by
  cases h with
  | @tmp t _ h => exact ⟨_, rfl, hs.env t _ h⟩
  | @cell1 c f i off T t cs a hg ho hT ha =>
    have hr := hs.env c _ hg
    generalize hvx : act.tmps.getD c undef = vx at hr
    cases hr with
    | @ptr _ _ _ b hb =>
      obtain ⟨b', us, e1, h1, h2, h3, h4⟩ := hs.heap.sim f i _ ho
      rw [hb] at e1
      injection e1 with e1; injection e1 with e1; injection e1 with e1; subst e1
      have hlt : off < us.length := by rw [h2]; exact (List.getElem?_eq_some_iff.1 ha).1
      have hcell : w.cell? ⟨b, off, none⟩ = some us[off] := by
        rw [cell_of_row w b off us.toArray t (0, 0) h1]; simp [hlt]
      exact ⟨us[off], by simp only [resRun, hvx, asAddr, loadVar, Sem.run_bind, Sem.run_pure, Result.andThen_ok, oneTy_spec hT]; simp [hcell], h3 off a _ ha (List.getElem?_eq_getElem hlt)⟩
  | @cellS c f i off n T t cs l a hg ho hT hl ha =>
    have hr := hs.env c _ hg
    generalize hvx : act.tmps.getD c undef = vx at hr
    cases hr with
    | @ptr _ _ _ b hb =>
      obtain ⟨b', us, e1, h1, h2, h3, h4⟩ := hs.heap.sim f i _ ho
      rw [hb] at e1
      injection e1 with e1; injection e1 with e1; injection e1 with e1; subst e1
      obtain ⟨⟨ds, h5, h6⟩, h7⟩ := rowTy_spec hT
      obtain ⟨h8, h9, h10⟩ := takeL?_spec _ _ _ _ hl
      have hlen : ((us.drop off).take n).length = n := by rw [List.length_take, List.length_drop]; omega
      have hr := run_loadVar_mid (P := P) w b off T ((us.drop off).take n) ds (fun j v hv => by
        rw [cell_of_row w b (off + j) us.toArray t (0, 0) h1]
        rw [List.getElem?_take] at hv
        split at hv
        · rw [List.getElem?_drop] at hv; simpa using hv
        · cases hv) h5 h6 (by rw [hlen]; exact h7)
      refine ⟨.agg ((us.drop off).take n).toArray, by simp only [resRun, hvx, asAddr, Sem.run_bind, Sem.run_pure, Result.andThen_ok, hr], mkAgg?_spec ha (by rw [hlen, h9]) fun m c u hc hu => ?_⟩
      have hm : m < n := by rw [← h9]; exact (List.getElem?_eq_some_iff.1 hc).1
      rw [h10 m hm] at hc
      rw [List.getElem?_take, if_pos hm, List.getElem?_drop] at hu
      exact ⟨h3 _ c u hc hu, h4 u (List.mem_of_getElem? hu)⟩
theorem RVs.spec {P : Program} {F : Fr} {s : AS} {ρ : Nat → Nat → Value} {act : Act} {w : World} (hs : SR F s ρ act w) {rs : List ResultVar} {l : List AV} (h : RVs P s rs l) :
    ∃ vs : List Value, (rs.mapM (resRun act.tmps)).run P w = .ok vs w ∧ vs.length = l.length ∧ ∀ (i : Nat) a v, l[i]? = some a → vs[i]? = some v → RepA w (F.O ρ s.hp) ρ a v := by
  induction h with
  | nil => exact ⟨[], rfl, rfl, by simp⟩
  | cons h _ ih =>
    obtain ⟨vs, e1, e2, e3⟩ := ih
    obtain ⟨v, f1, f2⟩ := h.spec hs
    refine ⟨v :: vs, ?_, by simp [e2], fun i a' v' hi hv => ?_⟩
    · rw [List.mapM_cons]
      simp only [Sem.run_bind, f1, Result.andThen_ok, e1, Sem.run_pure]
    · cases i with
      | zero => simp at hi hv; subst hi hv; exact f2
      | succ i => exact e3 i a' v' (by simpa using hi) (by simpa using hv)
theorem Res.spec {P : Program} {F : Fr} {s : AS} {ρ : Nat → Nat → Value} {act : Act} {w : World} (hs : SR F s ρ act w) {fn : Func} {rs : List ResultVar} (hrs : fn.results = rs.toArray) {a : AV} (h : Res P s rs a) :
    ∃ v, (results fn act.tmps).run P w = .ok v w ∧ RepA w (F.O ρ s.hp) ρ a v := by
  obtain ⟨l, hl, ht⟩ := h
  obtain ⟨vs, e1, e2, e3⟩ := hl.spec hs
  have hrun : (results fn act.tmps).run P w = .ok (if hh : vs.toArray.size = 1 then vs.toArray[0] else .tuple vs.toArray) w := by
    rw [results_eq, hrs, List.mapM_toArray]
    simp only [Sem.run_bind, Sem.run_map, e1, Result.andThen_ok, Sem.run_pure]
  refine ⟨_, hrun, ?_⟩
  unfold tupAV at ht
  split at ht
  · subst ht
    obtain ⟨v, rfl⟩ := List.length_eq_one_iff.1 e2
    exact e3 0 _ v rfl rfl
  · subst ht
    rw [dif_neg (by simp [e2])]
    exact tupD (by simp [e2]) e3
  · subst ht
    rw [dif_neg (by simp [e2])]
    exact tupD (by simp [e2]) e3
  · rename_i hn1 _ _
    subst ht
    rw [dif_neg]
    · exact .tup e2 e3
    · intro h1
      have : l.length = 1 := by rw [← e2]; simpa using h1
      obtain ⟨a', e⟩ := List.length_eq_one_iff.1 this
      exact hn1 a' e

/-- How a function is entered. -/
theorem a_enter {P : Program} {f : FuncId} {fn : Func} {c : Code} {n : Nat} {args : List AV} {env : List (Nat × AV)} {rs : List ResultVar} {H : Hp} {R : AV → Hp → Prop} (hf : P.funcs[f]? = some fn) (hname : (fn.name == "runtime.NumGoroutine") = false) (hb : fn.body = some c) (hn : fn.ntmps = n)
    (hrs : fn.results = rs.toArray) (henv : enumE? 0 args = some env) (hlen : Nat.ble args.length n = true) (h : ∀ F : Fr, F.pn = hpN H → Awp P F c (Ret P rs H R) ⟨n, env, H⟩) : ACalls P f args H R := by
  refine ⟨⟨fn, hf, hname, by rw [hb]; rfl⟩, fun F ρ vs h1 h2 h2' h3 h4 h5 => calls_of_wp hf hb ?_⟩
  have hle := Nat.le_of_ble_eq_true hlen
  have hsr : SR F ⟨n, env, H⟩ ρ { tmps := vs.toArray ++ Array.replicate (fn.ntmps - vs.toArray.size) undef, defers := [] } F.w0 := by
    refine ⟨?_, rfl, fun t a ha => ?_, h3⟩
    · simp only [Array.size_append, List.size_toArray, Array.size_replicate, hn, h4]; omega
    · obtain ⟨j, hj, ha'⟩ := enumE?_spec henv ha
      rw [Nat.zero_add] at hj
      subst hj
      have hlt : t < vs.length := by rw [h4]; exact (List.getElem?_eq_some_iff.1 ha').1
      have : (vs.toArray ++ Array.replicate (fn.ntmps - vs.toArray.size) undef).getD t undef = vs[t] := by
        rw [Array.getD_eq_getD_getElem?, Array.getElem?_append_left (by simpa using hlt)]; simp [hlt]
      show RepA _ _ _ _ ((vs.toArray ++ Array.replicate (fn.ntmps - vs.toArray.size) undef).getD t undef)
      rw [this]
      exact h5 t a _ ha' (List.getElem?_eq_getElem hlt)
  refine wp_mono (h F h2' ρ _ _ hsr) fun e act w ⟨s, ρ', hq, hs⟩ => ?_
  have fin : (∃ r nm H', Res P s rs r ∧ part? s.hp nm = some H' ∧ namesIn nm H = true ∧ R r H') → ∃ v, (results fn act.tmps).run P w = .ok v w ∧ (∃ v' r H' ρ', Ending.returned v = .returned v' ∧ R r H' ∧ RepA w (F.O ρ' H') ρ' r v' ∧ Heap F H' ρ' w) := fun ⟨r, nm, H', hr, hpt, hnm, hR⟩ => by
    obtain ⟨v, h6, h7⟩ := hr.spec hs hrs
    obtain ⟨p1, p2⟩ := part?_mem hpt
    have hsub : ∀ f i o, hget H' f i = some o → hget s.hp f i = some o := fun f i o ho => by
      simp only [hget] at ho ⊢
      cases hf : hfam H' f with
      | none => rw [hf] at ho; cases ho
      | some x => rw [(p1 f x hf).2]; rw [hf] at ho; exact ho
    have hown : ∀ b, OwnB ρ' H' b → OwnB ρ' s.hp b := fun b ⟨f, i, o, a1, a2⟩ => ⟨f, i, o, hsub f i o a1, a2⟩
    have hO : ∀ b, b < w.heap.size → F.O ρ' H' b → F.O ρ' s.hp b := fun b _ hb => hb.imp id (hown b)
    refine ⟨v, h6, v, r, H', ρ', rfl, hR, h7.mono (Nat.le_refl _) (fun _ _ _ => rfl) hO (fun _ _ _ => rfl), ?_⟩
    refine ⟨fun f i o ho => (hs.heap.sim f i o (hsub f i o ho)).mono (Nat.le_refl _) (fun _ _ _ => rfl) hO (fun _ _ => rfl) (fun _ _ _ => rfl), fun f i f' i' o o' b ho ho' => hs.heap.inj f i f' i' o o' b (hsub f i o ho) (hsub f' i' o' ho'), fun b hb => hs.heap.mine b (hown b hb), hs.heap.os, hs.heap.tape, hs.heap.output, hs.heap.size0, hs.heap.keep, fun f i b hb => ?_⟩
    obtain ⟨a1, t, cs, a2⟩ := hs.heap.pins f i b hb
    refine ⟨a1, t, cs, ?_⟩
    rw [h2] at hb
    obtain ⟨_, t', cs', a3⟩ := pinOf_spec hb
    have hfn : f ∈ nm := by
      simp only [hget] at a3
      cases hf : hfam H f with
      | none => rw [hf] at a3; cases a3
      | some x => exact namesIn_fam hnm hf
    simp only [hget] at a2 ⊢
    rw [p2 f hfn]; exact a2
  cases e with
  | normal => exact ⟨hs.defs, fin hq⟩
  | ret => exact ⟨hs.defs, fin hq⟩
  | exit _ => exact hq.elim
  | goto _ => exact hq.elim
  | panic _ => exact hq.elim
  | outgrown => exact hq.elim

end Go.Proofs.Ytjbghmlofjkcfaa
