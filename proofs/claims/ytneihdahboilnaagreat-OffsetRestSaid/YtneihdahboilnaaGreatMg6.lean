/- Struct literals. No program in sight. -/
import Derived.Test.YtneihdahboilnaaGreatMg5
import Derived.Laws.Tables
import Derived.Great.FillDense
namespace Go.Proofs.YtneihdahboilnaaGreat
open Go.RowKit

def placesOf (P : Program) (T : TypeId) : Option (List (Nat × Nat)) := match P.underlying T with
  | some (.struct fs) => fs.toList.mapM fun f => (P.info? f.type).map fun i => (f.offset, i.size)
  | _ => none
def fillA (s : AS) (pl : List (Nat × Nat)) : List AV → List (Nat × Operand) → Option (List AV)
  | cs, [] => some cs
  | cs, (i, x) :: r => match pl[i]? with
    | none => none
    | some (off, k) => match s.ev x with
      | none => none
      | some a => match a.cells? with
        | none => none
        | some l => match Nat.beq l.length k with
          | false => none
          | true => match setL? cs off l with
            | none => none
            | some cs1 => fillA s pl cs1 r
theorem fillA_spec {F : Fr} {s : AS} {ρ : Nat → Nat → Value} {act : Act} {w : World} (hs : SR F s ρ act w) {pl : List (Nat × Nat)} : ∀ (parts : List (Nat × Operand)) (cs cs' : List AV) (us : Array Value), fillA s pl cs parts = some cs' → us.size = cs.length →
    (∀ (j : Nat) c u, cs[j]? = some c → us[j]? = some u → RepA w (F.O ρ s.hp) ρ c u ∧ u.oneCell' = true) →
    ∃ us', Instr.fill (pl.toArray[·]?) us (parts.map fun p => (p.1, act.eval p.2)) = some us' ∧ us'.size = cs'.length ∧ ∀ (j : Nat) c u, cs'[j]? = some c → us'[j]? = some u → RepA w (F.O ρ s.hp) ρ c u ∧ u.oneCell' = true
  | [], cs, cs', us, h, hl, hr => by
    simp only [fillA, Option.some.injEq] at h; subst h;exact ⟨us, rfl, hl, hr⟩
  | (i, x) :: r, cs, cs', us, h, hl, hr => by
    simp only [fillA] at h
    split at h
    · cases h
    · rename_i off k hpl
      split at h
      · cases h
      · rename_i a ha
        split at h
        · cases h
        · rename_i l hlc
          split at h
          · cases h
          · rename_i hk
            have hk := Nat.eq_of_beq_eq_true hk
            split at h
            · cases h
            · rename_i cs1 hset
              obtain ⟨q1, q2⟩ := (hs.ev ha).cells hlc;obtain ⟨s1, s2, s3⟩ := setL?_spec _ _ _ _ hset;obtain ⟨g1, g2⟩ := Great.foldl_set off (act.eval x).cells.toList 0 us;have hsz : (act.eval x).cells.size = k := by rw [← hk, ← q1]; simp
              obtain ⟨us', r1, r2, r3⟩ := fillA_spec hs r cs1 cs' ((act.eval x).cells.toList.zipIdx.foldl (fun cs (x : Value × Nat) => cs.setIfInBounds (off + x.2) x.1) us) h (by rw [g1, s2]; exact hl) (fun j c u hc hu => by
                rw [g2 j] at hu;rw [s3] at hc;simp only [Nat.add_zero, Array.length_toList, hsz] at hu
                by_cases hj : off ≤ j ∧ j < off + l.length
                · rw [if_pos hj] at hc;rw [if_pos ⟨hj.1, by omega, by omega⟩] at hu;exact q2 _ c u hc hu
                · rw [if_neg hj] at hc;rw [if_neg (by omega)] at hu
                  exact hr j c u hc hu)
              refine ⟨us', ?_, r2, r3⟩;rw [List.map_cons];unfold Instr.fill;have : (pl.toArray)[i]? = some (off, k) := by simpa using hpl
              simp only [this, hsz];rw [if_neg (by simp; omega)];rw [← r1]
              congr 1
              rw [← Array.foldl_toList, Array.toList_zipIdx]

section
variable {P : Program} {F : Fr} {s : AS} {d : Nat} {ty T : TypeId} {pos : String} {aft : Array Edge} {g : Option (Nat × Bool)}
theorem Za0 {l : List (Nat × Operand)} {zs cs' : List AV} {pl : List (Nat × Nat)} {A : AV} (hz : zeroL? P T = some zs) (hpl : placesOf P T = some pl) (hf : fillA s pl zs l = some cs') (hm : mkAgg? cs' = some A) (hd : Nat.blt d s.n = true) :
    Zaa P F ⟨some d, .build T l.toArray, ty, pos, aft, g⟩ s d A := ZaS _ hd fun ρ act w hs => by
  obtain ⟨i, z, h1, h2, h3⟩ := zeroL?_spec hz;obtain ⟨h4, h5⟩ := constL?_spec h3 w (F.O ρ s.hp) ρ;obtain ⟨us', r1, r2, r3⟩ := fillA_spec hs l zs cs' z.cells hf (by simpa using h4) (fun j c u hc hu => h5 j c u hc (by simpa using hu))
  have hb : P.built T (l.map fun p => (p.1, act.eval p.2)) = some us' := by
    unfold placesOf at hpl
    split at hpl
    · rename_i fs hfs
      unfold Program.built;simp only [h1, hfs, h2, hpl];exact r1
    · cases hpl
  refine ⟨.agg us', ?_, ?_⟩
  · have : (l.toArray.map fun (x : Nat × Operand) => match x with | (i, x) => (i, act.eval x)) = (l.map fun p => (p.1, act.eval p.2)).toArray := by simp
    simp only [execOp, Sem.run_bind];rw [this, run_build w T _ us' (by simpa using hb)]
    rfl
  · have := mkAgg?_spec (us := us'.toList) hm (by simpa using r2) (fun j c u hc hu => r3 j c u hc (by simpa using hu))
    simpa using this
end
end Go.Proofs.YtneihdahboilnaaGreat
/- Contracts over abstract states; how a function is entered, how it is left, how it is called. No program in sight. -/
namespace Go.Proofs.YtneihdahboilnaaGreat
open Go.RowKit

abbrev Hp := List (Nat × List AObj)

def pinOf (ρ : Nat → Nat → Value) (H : Hp) (f i : Nat) : Option Nat := match hget H f i, ρ f i with
  | some (.blk _ _), .pointer (some ⟨b, 0, none⟩) => some b
  | _, _ => none
theorem Zb5 {ρ : Nat → Nat → Value} {H : Hp} {f i b : Nat} (h : pinOf ρ H f i = some b) : ρ f i = .pointer (some ⟨b, 0, none⟩) ∧ ∃ t cs, hget H f i = some (.blk t cs) := by
  unfold pinOf at h
  split at h
  · rename_i t cs b' h1 h2
    injection h with h; subst h
    exact ⟨h2, t, cs, h1⟩
  · cases h

def Fr.top (F : Fr) (H : Hp) : Prop := F.pn = hpN H ∧ F.rnd = none ∧ F.lo = F.w0.heap.size
def Fr.flat (F : Fr) : Prop := F.rnd = none ∧ F.lo ≤ F.w0.heap.size
def ACalls (P : Program) (f : FuncId) (args : List AV) (H : Hp) (R : AV → Hp → Prop) : Prop :=
  (∃ fn, P.funcs[f]? = some fn ∧ (fn.name == "runtime.NumGoroutine") = false ∧ fn.body.isSome = true) ∧
  ∀ (F : Fr) (ρ : Nat → Nat → Value) (vs : List Value), F.own0 = OwnB ρ H → F.pin = pinOf ρ H → F.top H → Heap F H ρ F.w0 → vs.length = args.length → (∀ (i : Nat) a v, args[i]? = some a → vs[i]? = some v → RepA F.w0 (F.O ρ H) ρ a v) →
    Calls P f vs.toArray F.w0 fun e w' => ∃ v r H' ρ', e = .returned v ∧ R r H' ∧ RepA w' (F.O ρ' H') ρ' r v ∧ Heap F H' ρ' w'
def PCalls (P : Program) (f : FuncId) (args : List AV) (x : D) : Prop := ACalls P f args [] fun r H' => r = .d x ∧ H' = []

theorem pinOf_mem {ρ : Nat → Nat → Value} {H : Hp} {f i b : Nat} (h : pinOf ρ H f i = some b) : f ∈ hpN H := by
  obtain ⟨_, t, cs, h1⟩ := Zb5 h;simp only [hget] at h1
  cases hf : hfam H f with
  | none => rw [hf] at h1; cases h1
  | some l => exact hpN_mem hf
theorem ACalls.mono {P : Program} {f : FuncId} {args : List AV} {H : Hp} {R R' : AV → Hp → Prop} (h : ACalls P f args H R) (hr : ∀ r H', R r H' → R' r H') : ACalls P f args H R' :=
  ⟨h.1, fun F ρ vs h1 h2 h2' h3 h4 h5 => (h.2 F ρ vs h1 h2 h2' h3 h4 h5).mono fun _ _ ⟨v, r, H', ρ', a, b, c⟩ => ⟨v, r, H', ρ', a, hr _ _ b, c⟩⟩

def enumE? : Nat → List AV → Option (List (Nat × AV))
  | _, [] => some []
  | i, a :: r => match enumE? (i + 1) r with
    | none => none
    | some l => some ((i, a) :: l)
theorem enumE?_spec {i : Nat} {as : List AV} {env : List (Nat × AV)} (h : enumE? i as = some env) {t : Nat} {a : AV} (ha : get env t = some a) : ∃ j : Nat, t = i + j ∧ as[j]? = some a := by
  induction as generalizing i env with
  | nil => simp only [enumE?, Option.some.injEq] at h; subst h; simp [get] at ha
  | cons x r ih =>
    simp only [enumE?] at h
    split at h
    · cases h
    · rename_i l hl
      injection h with h; subst h
      rcases Zbg ha with ⟨rfl, rfl⟩ | ⟨_, ha⟩
      · exact ⟨0, rfl, by simp⟩
      · obtain ⟨j, h1, h2⟩ := ih hl ha;exact ⟨j + 1, by omega, by simpa using h2⟩

def resV? (P : Program) (s : AS) : ResultVar → Option AV
  | .tmp t => get s.env t
  | .cell a T => match get s.env a with
    | some (.ptr f i off) => match hget s.hp f i with
      | some (.blk _ cs) => match oneTy P T with
        | true => cs[off]?
        | false => match P.info? T with
          | none => none
          | some inf => match rowTy P T inf.size with
            | false => none
            | true => match takeL? cs off inf.size with
              | none => none
              | some l => mkAgg? l
      | _ => none
    | _ => none
def resL? (P : Program) (s : AS) : List ResultVar → Option (List AV)
  | [] => some []
  | r :: rs => match resL? P s rs with
    | none => none
    | some l => match resV? P s r with
      | none => none
      | some a => some (a :: l)
def resAV? (P : Program) (s : AS) (rs : List ResultVar) : Option AV := match resL? P s rs with
  | none => none
  | some [a] => some a
  | some [.d x, .d y] => some (.d (.tup [x, y]))
  | some [.d x, .d y, .d z] => some (.d (.tup [x, y, z]))
  | some l => some (.tup l)
inductive RV (P : Program) (s : AS) : ResultVar → AV → Prop
  | tmp {t : Nat} {a : AV} (h : get s.env t = some a) : RV P s (.tmp t) a
  | cell1 {c f i off : Nat} {T t : TypeId} {cs : List AV} {a : AV} (hg : get s.env c = some (.ptr f i off)) (ho : hget s.hp f i = some (.blk t cs)) (hT : oneTy P T = true) (ha : cs[off]? = some a) : RV P s (.cell c T) a
  | cellS {c f i off n : Nat} {T t : TypeId} {cs l : List AV} {a : AV} (hg : get s.env c = some (.ptr f i off)) (ho : hget s.hp f i = some (.blk t cs)) (hT : rowTy P T n = true) (hl : takeL? cs off n = some l) (ha : mkAgg? l = some a) : RV P s (.cell c T) a
inductive RVs (P : Program) (s : AS) : List ResultVar → List AV → Prop
  | nil : RVs P s [] []
  | cons {r : ResultVar} {rs : List ResultVar} {a : AV} {l : List AV} (h : RV P s r a) (hs : RVs P s rs l) : RVs P s (r :: rs) (a :: l)
def tupAV : List AV → AV
  | [a] => a
  | [.d x, .d y] => .d (.tup [x, y])
  | [.d x, .d y, .d z] => .d (.tup [x, y, z])
  | l => .tup l
def Res (P : Program) (s : AS) (rs : List ResultVar) (r : AV) : Prop := ∃ l, RVs P s rs l ∧ tupAV l = r
theorem resV?_RV {P : Program} {s : AS} {r : ResultVar} {a : AV} (h : resV? P s r = some a) : RV P s r a := by
  cases r with
  | tmp t => exact .tmp h
  | cell c T =>
    simp only [resV?] at h
    split at h
    · rename_i f i off hg
      split at h
      · rename_i t cs ho
        split at h
        · rename_i hT; exact .cell1 hg ho hT h
        · split at h
          · cases h
          · rename_i inf hinf
            split at h
            · cases h
            · rename_i hT
              split at h
              · cases h
              · rename_i l hl; exact .cellS hg ho hT hl h
      · cases h
    · cases h
theorem resL?_RVs {P : Program} {s : AS} : ∀ {rs : List ResultVar} {l : List AV}, resL? P s rs = some l → RVs P s rs l
  | [], l, h => by simp only [resL?, Option.some.injEq] at h; subst h; exact .nil
  | r :: rs, l, h => by
    simp only [resL?] at h
    split at h
    · cases h
    · rename_i l1 h1
      split at h
      · cases h
      · rename_i a ha
        injection h with h; subst h
        exact .cons (resV?_RV ha) (resL?_RVs h1)
theorem Zao {P : Program} {s : AS} {rs : List ResultVar} {r : AV} (h : resAV? P s rs = some r) : Res P s rs r := by
  unfold resAV? at h
  cases hl : resL? P s rs with
  | none => rw [hl] at h; cases h
  | some l =>
    rw [hl] at h;refine ⟨l, resL?_RVs hl, ?_⟩
    split at h
    · rename_i heq; cases heq
    · rename_i x heq; injection heq with heq; subst heq; injection h
    · rename_i x y heq; injection heq with heq; subst heq; injection h
    · rename_i x y z heq; injection heq with heq; subst heq; injection h
    · rename_i l' hn1 hn2 hn3 heq
      injection heq with heq; subst heq; injection h with h; subst h
      unfold tupAV
      split
      · rename_i a; exact absurd rfl (hn1 a)
      · rename_i x y; exact absurd rfl (hn2 x y)
      · rename_i x y z; exact absurd rfl (hn3 x y z)
      · rfl
def part? (hp : Hp) : List Nat → Option Hp
  | [] => some []
  | g :: r => match part? hp r with
    | none => none
    | some l => match hfam hp g with
      | none => some l
      | some x => some ((g, x) :: l)
def memB (g : Nat) : List Nat → Bool
  | [] => false
  | a :: r => Nat.beq a g || memB g r
theorem ZaZ {g : Nat} {nm : List Nat} : memB g nm = true ↔ g ∈ nm := by
  induction nm with
  | nil => simp [memB]
  | cons a r ih =>
    simp only [memB, Bool.or_eq_true, ih, List.mem_cons];exact or_congr ⟨fun h => (Nat.eq_of_beq_eq_true h).symm, fun h => by rw [h]; exact Nat.beq_refl a⟩ Iff.rfl
def namesIn (nm : List Nat) : Hp → Bool
  | [] => true
  | (g, _) :: r => memB g nm && namesIn nm r
theorem namesIn_fam {nm : List Nat} {H : Hp} (h : namesIn nm H = true) {g : Nat} {l : List AObj} (ho : hfam H g = some l) : g ∈ nm := by
  induction H with
  | nil => simp [hfam] at ho
  | cons p r ih =>
    obtain ⟨k, l'⟩ := p;simp only [namesIn, Bool.and_eq_true] at h
    by_cases e : k = g
    · subst e; exact ZaZ.1 h.1
    · refine ih h.2 ?_
      simpa only [hfam, Zba e] using ho
theorem part?_mem {hp : Hp} : ∀ {nm : List Nat} {hs : Hp}, part? hp nm = some hs → (∀ g x, hfam hs g = some x → g ∈ nm ∧ hfam hp g = some x) ∧ ∀ g, g ∈ nm → hfam hs g = hfam hp g
  | [], hs, h => by
    simp only [part?, Option.some.injEq] at h; subst h;exact ⟨(fun g x h => by cases h), (fun g h => by cases h)⟩
  | a :: r, hs, h => by
    simp only [part?] at h
    split at h
    · cases h
    · rename_i l hl
      obtain ⟨h1, h2⟩ := part?_mem hl
      split at h
      · rename_i hn
        injection h with h; subst h
        refine ⟨fun g x hg => ⟨List.mem_cons_of_mem _ (h1 g x hg).1, (h1 g x hg).2⟩, fun g hg => ?_⟩;rcases List.mem_cons.1 hg with rfl | hg
        · rw [hn]
          cases hh : hfam l g with
          | none => rfl
          | some x => rw [(h1 g x hh).2] at hn; cases hn
        · exact h2 g hg
      · rename_i x hx
        injection h with h; subst h
        refine ⟨fun g y hg => ?_, fun g hg => ?_⟩
        · simp only [hfam] at hg
          split at hg
          · rename_i hk
            rw [← Nat.eq_of_beq_eq_true hk];injection hg with hg; subst hg
            exact ⟨List.mem_cons_self, hx⟩
          · exact ⟨List.mem_cons_of_mem _ (h1 g y hg).1, (h1 g y hg).2⟩
        · simp only [hfam]
          split
          · rename_i hk; rw [← Nat.eq_of_beq_eq_true hk]; exact hx.symm
          · rename_i hk
            rcases List.mem_cons.1 hg with rfl | hg
            · exact absurd rfl (Nat.ne_of_beq_eq_false hk)
            · exact h2 g hg

def subB : List Nat → List Nat → Bool
  | [], _ => true
  | a :: r, nm => memB a nm && subB r nm
theorem subB_spec {l nm : List Nat} (h : subB l nm = true) {f : Nat} (hf : f ∈ l) : f ∈ nm := by
  induction l with
  | nil => cases hf
  | cons a r ih =>
    simp only [subB, Bool.and_eq_true] at h;rcases List.mem_cons.1 hf with rfl | hf
    · exact ZaZ.1 h.1
    · exact ih h.2 hf
theorem SR.only {F : Fr} {s : AS} {ρ : Nat → Nat → Value} {act : Act} {w : World} (hs : SR F s ρ act w) (nm : List Nat) {l : List Nat} {hp' : Hp} (hF : F.pn = l) (hsub : subB l nm = true) (hp : part? s.hp nm = some hp') : SR F ⟨s.n, s.env, hp'⟩ ρ act w := by
  obtain ⟨p1, p2⟩ := part?_mem hp
  have hsub' : ∀ f i o, hget hp' f i = some o → hget s.hp f i = some o := fun f i o ho => by
    simp only [hget] at ho ⊢
    cases hf : hfam hp' f with
    | none => rw [hf] at ho; cases ho
    | some x => rw [(p1 f x hf).2]; rw [hf] at ho; exact ho
  have hown : ∀ b, OwnB ρ hp' b → OwnB ρ s.hp b := fun b ⟨f, i, o, a1, a2⟩ => ⟨f, i, o, hsub' f i o a1, a2⟩
  have hO : ∀ b, b < w.heap.size → F.O ρ hp' b → F.O ρ s.hp b := fun b _ hb => hb.imp id (hown b);refine ⟨hs.size, hs.defs.mono (Nat.le_refl _) (fun _ _ _ => rfl) hO, fun t a ha => (hs.env t a ha).mono (Nat.le_refl _) (fun _ _ _ => rfl) hO (fun _ _ _ => rfl), ?_⟩;refine ⟨fun f i o ho => (hs.heap.sim f i o (hsub' f i o ho)).mono (Nat.le_refl _) (fun _ _ _ => rfl) hO (fun _ _ => rfl) (fun _ _ _ => rfl), fun f i f' i' o o' b ho ho' => hs.heap.inj f i f' i' o o' b (hsub' f i o ho) (hsub' f' i' o' ho'), fun b hb => hs.heap.mine b (hown b hb), hs.heap.os, hs.heap.tape, hs.heap.output, hs.heap.size0, hs.heap.keep, fun f i b hb => ?_, hs.heap.drawn⟩;obtain ⟨a1, t, cs, a2⟩ := hs.heap.pins f i b hb;refine ⟨a1, t, cs, ?_⟩;have hfn : f ∈ nm := subB_spec hsub (by rw [← hF]; exact F.hpn f i b hb);simp only [hget] at a2 ⊢;rw [p2 f hfn]; exact a2
theorem a_only {P : Program} {F : Fr} {Q : Exit → AS → Prop} {c : Code} {n : Nat} {env : List (Nat × AV)} {hp hp' : Hp} (nm : List Nat) {l : List Nat} (hF : F.pn = l) (hsub : subB l nm = true) (hp1 : part? hp nm = some hp') (h : Awp P F c Q ⟨n, env, hp'⟩) : Awp P F c Q ⟨n, env, hp⟩ := fun ρ act w hs => h ρ act w (hs.only nm hF hsub hp1)
theorem o_only {P : Program} {F : Fr} {Q : Exit → AS → Prop} {ops : Array Oper} {c : List Oper} {n : Nat} {env : List (Nat × AV)} {hp hp' : Hp} (nm : List Nat) {l : List Nat} (hF : F.pn = l) (hsub : subB l nm = true) (hp1 : part? hp nm = some hp') (h : Aops P F ops c Q ⟨n, env, hp'⟩) : Aops P F ops c Q ⟨n, env, hp⟩ := fun ρ act w hs => h ρ act w (hs.only nm hF hsub hp1)

def Ret (P : Program) (rs : List ResultVar) (H : Hp) (R : AV → Hp → Prop) : Exit → AS → Prop
  | .normal, s => ∃ r nm H', Res P s rs r ∧ part? s.hp nm = some H' ∧ namesIn nm H = true ∧ R r H'
  | .ret, s => ∃ r nm H', Res P s rs r ∧ part? s.hp nm = some H' ∧ namesIn nm H = true ∧ R r H'
  | _, _ => False

def resRun (tmps : Array Value) : ResultVar → Sem Value
  | .tmp t => pure (tmps.getD t undef)
  | .cell a t => do loadVar t (← asAddr (tmps.getD a undef))
theorem results_eq (fn : Func) (tmps : Array Value) : results fn tmps = (do
    let vs ← fn.results.mapM (resRun tmps)
    pure (if h : vs.size = 1 then vs[0] else .tuple vs)) := rfl
theorem tupD {w : World} {O : Nat → Prop} {ρ : Nat → Nat → Value} {l : List D} {vs : List Value} (hl : vs.length = l.length) (h : ∀ (i : Nat) a v, (l.map AV.d)[i]? = some a → vs[i]? = some v → RepA w O ρ a v) : RepA w O ρ (.d (.tup l)) (.tuple vs.toArray) :=
  .d (.tup hl fun i c v hc hv => by
    have := h i (.d c) v (by rw [List.getElem?_map, hc]; rfl) hv
    cases this with | d h => exact h)
theorem RV.spec {P : Program} {F : Fr} {s : AS} {ρ : Nat → Nat → Value} {act : Act} {w : World} (hs : SR F s ρ act w) {r : ResultVar} {a : AV} (h : RV P s r a) :
    ∃ v, (resRun act.tmps r).run P w = .ok v w ∧ RepA w (F.O ρ s.hp) ρ a v := by
  cases h with
  | @tmp t _ h => exact ⟨_, rfl, hs.env t _ h⟩
  | @cell1 c f i off T t cs a hg ho hT ha =>
    have hr := hs.env c _ hg
    generalize hvx : act.tmps.getD c undef = vx at hr
    cases hr with
    | @ptr _ _ _ b hb =>
      obtain ⟨b', us, e1, h1, h2, h3, h4⟩ := hs.heap.sim f i _ ho;rw [hb] at e1;injection e1 with e1; injection e1 with e1; injection e1 with e1; subst e1
      have hlt : off < us.length := by rw [h2]; exact (List.getElem?_eq_some_iff.1 ha).1
      have hcell : w.cell? ⟨b, off, none⟩ = some us[off] := by
        rw [cell_of_row w b off us.toArray t (0, 0) h1]; simp [hlt]
      exact ⟨us[off], by simp only [resRun, hvx, asAddr, loadVar, Sem.run_bind, Sem.run_pure, Result.andThen_ok, oneTy_spec hT]; simp [hcell], h3 off a _ ha (List.getElem?_eq_getElem hlt)⟩
  | @cellS c f i off n T t cs l a hg ho hT hl ha =>
    have hr := hs.env c _ hg
    generalize hvx : act.tmps.getD c undef = vx at hr
    cases hr with
    | @ptr _ _ _ b hb =>
      obtain ⟨b', us, e1, h1, h2, h3, h4⟩ := hs.heap.sim f i _ ho;rw [hb] at e1;injection e1 with e1; injection e1 with e1; injection e1 with e1; subst e1
      obtain ⟨⟨ds, h5, h6⟩, h7⟩ := rowTy_spec hT;obtain ⟨h8, h9, h10⟩ := takeL?_spec _ _ _ _ hl;have hlen : ((us.drop off).take n).length = n := by rw [List.length_take, List.length_drop]; omega
      have hr := run_loadVar_mid (P := P) w b off T ((us.drop off).take n) ds (fun j v hv => by
        rw [cell_of_row w b (off + j) us.toArray t (0, 0) h1];rw [List.getElem?_take] at hv
        split at hv
        · rw [List.getElem?_drop] at hv; simpa using hv
        · cases hv) h5 h6 (by rw [hlen]; exact h7)
      refine ⟨.agg ((us.drop off).take n).toArray, by simp only [resRun, hvx, asAddr, Sem.run_bind, Sem.run_pure, Result.andThen_ok, hr], mkAgg?_spec ha (by rw [hlen, h9]) fun m c u hc hu => ?_⟩;have hm : m < n := by rw [← h9]; exact (List.getElem?_eq_some_iff.1 hc).1
      rw [h10 m hm] at hc;rw [List.getElem?_take, if_pos hm, List.getElem?_drop] at hu;exact ⟨h3 _ c u hc hu, h4 u (List.mem_of_getElem? hu)⟩
theorem RVs.spec {P : Program} {F : Fr} {s : AS} {ρ : Nat → Nat → Value} {act : Act} {w : World} (hs : SR F s ρ act w) {rs : List ResultVar} {l : List AV} (h : RVs P s rs l) :
    ∃ vs : List Value, (rs.mapM (resRun act.tmps)).run P w = .ok vs w ∧ vs.length = l.length ∧ ∀ (i : Nat) a v, l[i]? = some a → vs[i]? = some v → RepA w (F.O ρ s.hp) ρ a v := by
  induction h with
  | nil => exact ⟨[], rfl, rfl, by simp⟩
  | cons h _ ih =>
    obtain ⟨vs, e1, e2, e3⟩ := ih;obtain ⟨v, f1, f2⟩ := h.spec hs;refine ⟨v :: vs, ?_, by simp [e2], fun i a' v' hi hv => ?_⟩
    · rw [List.mapM_cons];simp only [Sem.run_bind, f1, Result.andThen_ok, e1, Sem.run_pure]
    · cases i with
      | zero => simp at hi hv; subst hi hv; exact f2
      | succ i => exact e3 i a' v' (by simpa using hi) (by simpa using hv)
theorem Res.spec {P : Program} {F : Fr} {s : AS} {ρ : Nat → Nat → Value} {act : Act} {w : World} (hs : SR F s ρ act w) {fn : Func} {rs : List ResultVar} (hrs : fn.results = rs.toArray) {a : AV} (h : Res P s rs a) :
    ∃ v, (results fn act.tmps).run P w = .ok v w ∧ RepA w (F.O ρ s.hp) ρ a v := by
  obtain ⟨l, hl, ht⟩ := h;obtain ⟨vs, e1, e2, e3⟩ := hl.spec hs
  have hrun : (results fn act.tmps).run P w = .ok (if hh : vs.toArray.size = 1 then vs.toArray[0] else .tuple vs.toArray) w := by
    rw [results_eq, hrs, List.mapM_toArray];simp only [Sem.run_bind, Sem.run_map, e1, Result.andThen_ok, Sem.run_pure]
  refine ⟨_, hrun, ?_⟩;unfold tupAV at ht
  split at ht
  · subst ht;obtain ⟨v, rfl⟩ := List.length_eq_one_iff.1 e2;exact e3 0 _ v rfl rfl
  · subst ht;rw [dif_neg (by simp [e2])];exact tupD (by simp [e2]) e3
  · subst ht;rw [dif_neg (by simp [e2])];exact tupD (by simp [e2]) e3
  · rename_i hn1 _ _
    subst ht;rw [dif_neg]
    · exact .tup e2 e3
    · intro h1;have : l.length = 1 := by rw [← e2]; simpa using h1
      obtain ⟨a', e⟩ := List.length_eq_one_iff.1 this;exact hn1 a' e

theorem cells_of_cell {w : World} {a : Addr} {v : Value} (h : w.cell? a = some v) : ∃ c t x, w.heap[a.block]? = some (Obj.cells c t x) := by
  unfold World.cell? at h
  split at h
  · rename_i c t x hc; exact ⟨c, t, x, hc⟩
  · cases h
theorem RepD.other {w w' : World} {O : Nat → Prop} (hs : w'.heap.size = w.heap.size) (hb : ∀ (b : Nat) c t x, w.heap[b]? = some (Obj.cells c t x) → w'.heap[b]? = w.heap[b]?) {x : D} {v : Value} (h : RepD w O x v) : RepD w' O x v := by
  induction h with
  | raw h => exact .raw h
  | agg hl h1 _ ih => exact .agg hl h1 ih
  | tup hl _ ih => exact .tup hl ih
  | ptr us h0 h1 h2 h3 _ ih =>
    refine .ptr us (by omega) h1 h2 (fun j c hj => ?_) ih;have h4 := h3 j c hj;obtain ⟨c, t, x, hc⟩ := cells_of_cell h4;rw [World.cell?_of_block (w := w) (hb _ c t x hc)]; exact h4
  | sl k hn hz hln hc hm hk ha _ ih => exact .sl k hn hz hln hc hm hk ha ih
  | fn hf hl _ _ ih1 ih => exact .fn hf hl ih1 ih
theorem RepA.other {w w' : World} {O : Nat → Prop} {ρ : Nat → Nat → Value} (hs : w'.heap.size = w.heap.size) (hb : ∀ (b : Nat) c t x, w.heap[b]? = some (Obj.cells c t x) → w'.heap[b]? = w.heap[b]?) {a : AV} {v : Value} (h : RepA w O ρ a v) : RepA w' O ρ a v := by
  induction h with
  | d h => exact .d (h.other hs hb)
  | top => exact .top
  | tup hl _ ih => exact .tup hl ih
  | agg hl h1 _ ih => exact .agg hl h1 ih
  | ptr h => exact .ptr h
  | own h hn => exact .own h hn
  | rptr h => exact .rptr h
  | map h => exact .map h
  | fn hl _ ih => exact .fn hl ih
theorem ownsRow_other {w w' : World} (hb : ∀ (b : Nat) c t x, w.heap[b]? = some (Obj.cells c t x) → w'.heap[b]? = w.heap[b]?) {base : Nat} {e : TypeId} {size n : Nat} {v : Value} {xs : List Value} (h : w.ownsRow base e size v n xs) : w'.ownsRow base e size v n xs := by
  refine ⟨h.1, ?_⟩;rcases h.2 with h' | ⟨g, cap, cur, h1, h2, h3, h4⟩
  · exact .inl h'
  · exact .inr ⟨g, cap, cur, h1, h2, by rw [hb g _ _ _ h3]; exact h3, h4⟩
theorem SimObj.other {w w' : World} {O : Nat → Prop} {ρ : Nat → Nat → Value} (hs : w'.heap.size = w.heap.size) (hb : ∀ (b : Nat) c t x, w.heap[b]? = some (Obj.cells c t x) → w'.heap[b]? = w.heap[b]?) {o : AObj} {v : Value} (h : SimObj w O ρ o v) (hl : ∀ b, blkOf v = some b → w'.heap[b]? = w.heap[b]?) : SimObj w' O ρ o v := by
  cases o with
  | blk t cs =>
    obtain ⟨b, us, rfl, h1, h2, h3, h4⟩ := h;exact ⟨b, us, rfl, by rw [hb _ _ _ _ h1]; exact h1, h2, fun j c u hc hu => (h3 j c u hc hu).other hs hb, h4⟩
  | row t k xs =>
    obtain ⟨us, h1, h2⟩ := h;exact ⟨us, ownsRow_other hb h1, h2.mono fun x hx c hc u hu => hu.other hs hb⟩
  | rowD t k xs =>
    obtain ⟨us, h1, h2, h3⟩ := h;exact ⟨us, ownsRow_other hb h1, h2.mono fun x hx c hc u hu => hu.other hs hb, h3⟩
  | loop L =>
    obtain ⟨r, h1, h2, h3, h4, h5⟩ := h;exact ⟨r, h1, by rw [hl L.id (by rw [h1]; rfl)]; exact h2, h3, h4, fun t a ha => (h5 t a ha).other hs hb⟩
  | map bs es =>
    obtain ⟨m, arr, c, rfl, h1, h2, h3, h4, h5, h6⟩ := h;exact ⟨m, arr, c, rfl, by rw [hl _ rfl]; exact h1, h2, fun i e x he hx => ⟨(h3 i e x he hx).1.other hs hb, (h3 i e x he hx).2.other hs hb⟩, h4, h5, h6⟩
  | iter f i c seen =>
    obtain ⟨r, m, sn, rfl, h1, h2, h3⟩ := h;exact ⟨r, m, sn, rfl, h1, by rw [hl _ rfl]; exact h2, h3⟩
  | addr f i u => exact h
  | any => trivial
  | nb b t cs =>
    obtain ⟨rfl, us, h1, h2, h3, h4⟩ := h;exact ⟨rfl, us, by rw [hb _ _ _ _ h1]; exact h1, h2, fun j c u hc hu => (h3 j c u hc hu).other hs hb, h4⟩
  | nr b t k cap xs =>
    obtain ⟨rfl, us, h1, h2, h3⟩ := h;exact ⟨rfl, us, ownsRow_other hb h1, h2.mono fun x hx c hc u hu => hu.other hs hb, h3⟩
  | multi M => trivial
theorem SR.putObj {F : Fr} {s : AS} {ρ : Nat → Nat → Value} {act : Act} {w : World} (hs : SR F s ρ act w) {b : Nat} {o o' : Obj} {ds : List Deferred} (hlo : F.w0.heap.size ≤ b) (ho : w.heap[b]? = some o) (hc : ∀ c t x, o ≠ Obj.cells c t x) (hO : ¬ F.O ρ s.hp b) (hds : DefsOK F.lo (w.putObj b o') (F.O ρ s.hp) ds) : SR F s ρ { act with defers := ds } (w.putObj b o') := by
  have hsz : (w.putObj b o').heap.size = w.heap.size := World.putObj_size
  have hb : ∀ (b' : Nat) c t x, w.heap[b']? = some (Obj.cells c t x) → (w.putObj b o').heap[b']? = w.heap[b']? := fun b' c t x h => World.putObj_heap_other fun e => by
    subst e; rw [ho] at h; injection h with h; exact hc c t x h
  exact ⟨hs.size, hds, fun t a ha => (hs.env t a ha).other hsz hb, ⟨fun f i o ho => (hs.heap.sim f i o ho).other hsz hb fun b' hv => World.putObj_heap_other fun e' => hO (.inr ⟨f, i, _, ho, by rw [← e']; exact hv⟩), hs.heap.inj, fun b hb => by rw [hsz]; exact hs.heap.mine b hb, hs.heap.os, hs.heap.tape, hs.heap.output, by rw [hsz]; exact hs.heap.size0, fun b' hlt' hn => by
    rw [World.putObj_heap_other (by omega)]; exact hs.heap.keep b' hlt' hn, hs.heap.pins, hs.heap.drawn⟩⟩

theorem a_enterR {P : Program} {f : FuncId} {fn : Func} {c : Code} {n : Nat} {args : List AV} {env : List (Nat × AV)} {rs : List ResultVar} {H : Hp} {R : AV → Hp → Prop} (hf : P.funcs[f]? = some fn) (hname : (fn.name == "runtime.NumGoroutine") = false) (hb : fn.body = some c) (hn : fn.ntmps = n)
    (hrs : fn.results = rs.toArray) (henv : enumE? 0 args = some env) (hlen : Nat.ble args.length n = true) (h : ∀ F : Fr, F.pn = hpN H → F.flat → Awp P F c (Ret P rs H R) ⟨n, env, H⟩) : ACalls P f args H R := by
  refine ⟨⟨fn, hf, hname, by rw [hb]; rfl⟩, fun F ρ vs h1 h2 h2' h3 h4 h5 => callsIn_wide.1 (callsIn_of_wp_marks (n := 0) hf hb trivial ?_)⟩;have hfen : fen F.rnd = Fence.wide := by rw [h2'.2.1]; rfl
  have hle := Nat.le_of_ble_eq_true hlen
  have hsr : SR F ⟨n, env, H⟩ ρ { tmps := vs.toArray ++ Array.replicate (fn.ntmps - vs.toArray.size) undef, defers := [] } F.w0 := by
    refine ⟨?_, .nil, fun t a ha => ?_, h3⟩
    · simp only [Array.size_append, List.size_toArray, Array.size_replicate, hn, h4]; omega
    · obtain ⟨j, hj, ha'⟩ := enumE?_spec henv ha;rw [Nat.zero_add] at hj;subst hj;have hlt : t < vs.length := by rw [h4]; exact (List.getElem?_eq_some_iff.1 ha').1
      have : (vs.toArray ++ Array.replicate (fn.ntmps - vs.toArray.size) undef).getD t undef = vs[t] := by
        rw [Array.getD_eq_getD_getElem?, Array.getElem?_append_left (by simpa using hlt)]; simp [hlt]
      show RepA _ _ _ _ ((vs.toArray ++ Array.replicate (fn.ntmps - vs.toArray.size) undef).getD t undef);rw [this];exact h5 t a _ ha' (List.getElem?_eq_getElem hlt)
  refine Go.wpIn_mono (hfen ▸ h F h2'.1 ⟨h2'.2.1, Nat.le_of_eq h2'.2.2⟩ ρ _ _ hsr) fun e act w ⟨s, ρ', hq, hs⟩ => ?_
  have fin : ∀ {act : Act} {w : World}, SR F s ρ' act w → (∃ r nm H', Res P s rs r ∧ part? s.hp nm = some H' ∧ namesIn nm H = true ∧ R r H') → ∃ v, (results fn act.tmps).run P w = .ok v w ∧ (∃ v' r H' ρ', Ending.returned v = .returned v' ∧ R r H' ∧ RepA w (F.O ρ' H') ρ' r v' ∧ Heap F H' ρ' w) := fun {act w} hs ⟨r, nm, H', hr, hpt, hnm, hR⟩ => by
    obtain ⟨v, h6, h7⟩ := hr.spec hs hrs;obtain ⟨p1, p2⟩ := part?_mem hpt
    have hsub : ∀ f i o, hget H' f i = some o → hget s.hp f i = some o := fun f i o ho => by
      simp only [hget] at ho ⊢
      cases hf : hfam H' f with
      | none => rw [hf] at ho; cases ho
      | some x => rw [(p1 f x hf).2]; rw [hf] at ho; exact ho
    have hown : ∀ b, OwnB ρ' H' b → OwnB ρ' s.hp b := fun b ⟨f, i, o, a1, a2⟩ => ⟨f, i, o, hsub f i o a1, a2⟩
    have hO : ∀ b, b < w.heap.size → F.O ρ' H' b → F.O ρ' s.hp b := fun b _ hb => hb.imp id (hown b);refine ⟨v, h6, v, r, H', ρ', rfl, hR, h7.mono (Nat.le_refl _) (fun _ _ _ => rfl) hO (fun _ _ _ => rfl), ?_⟩;refine ⟨fun f i o ho => (hs.heap.sim f i o (hsub f i o ho)).mono (Nat.le_refl _) (fun _ _ _ => rfl) hO (fun _ _ => rfl) (fun _ _ _ => rfl), fun f i f' i' o o' b ho ho' => hs.heap.inj f i f' i' o o' b (hsub f i o ho) (hsub f' i' o' ho'), fun b hb => hs.heap.mine b (hown b hb), hs.heap.os, hs.heap.tape, hs.heap.output, hs.heap.size0, hs.heap.keep, fun f i b hb => ?_, hs.heap.drawn⟩;obtain ⟨a1, t, cs, a2⟩ := hs.heap.pins f i b hb;refine ⟨a1, t, cs, ?_⟩;rw [h2] at hb;obtain ⟨_, t', cs', a3⟩ := Zb5 hb
    have hfn : f ∈ nm := by
      simp only [hget] at a3
      cases hf : hfam H f with
      | none => rw [hf] at a3; cases a3
      | some x => exact namesIn_fam hnm hf
    simp only [hget] at a2 ⊢;rw [p2 f hfn]; exact a2
  have leave : ∀ {act : Act} {w : World}, SR F s ρ' act w → (∃ r nm H', Res P s rs r ∧ part? s.hp nm = some H' ∧ namesIn nm H = true ∧ R r H') → LeavesInM Fence.wide 0 P fn act.tmps (fun e w' => ∃ v r H' ρ', e = .returned v ∧ R r H' ∧ RepA w' (F.O ρ' H') ρ' r v ∧ Heap F H' ρ' w') act.defers .returning w := fun {act w} hs hq => by
    obtain ⟨bs, hd, hnd, hb⟩ := hs.defs;rw [hd]
    clear hd
    induction bs generalizing act w with
    | nil => exact fin hs hq
    | cons b bs ih =>
      obtain ⟨d1, d2, d3, d4⟩ := hb b List.mem_cons_self;obtain ⟨n1, n2⟩ := List.nodup_cons.1 hnd
      have hb' : ∀ b' ∈ bs, F.lo ≤ b' ∧ b' < (w.putObj b (.deferred none)).heap.size ∧ ¬ F.O ρ' s.hp b' ∧ (w.putObj b (.deferred none)).heap[b']? = some (.deferred (some [])) := fun b' hm => by
        obtain ⟨e1, e2, e3, e4⟩ := hb b' (List.mem_cons_of_mem _ hm)
        exact ⟨e1, by rw [World.putObj_size]; exact e2, e3, by
          have hne : b' ≠ b := fun e => by subst e; exact n1 hm
          rw [World.putObj_heap_other hne]; exact e4⟩
      have hs' := hs.putObj (o' := .deferred none) (ds := bs.map markOf) (by rw [← h2'.2.2]; exact d1) d4 (fun c t x e => by cases e) d3 ⟨bs, rfl, n2, hb'⟩;exact ⟨by simp, .inl ⟨b, _, rfl, run_takeDeferred d4, ih (act := { act with defers := bs.map markOf }) hs' n2 hb'⟩⟩
  cases e with
  | normal => exact leave hs hq
  | ret => exact leave hs hq
  | exit _ => exact hq.elim
  | goto _ => exact hq.elim
  | panic _ => exact hq.elim
  | outgrown => exact hq.elim

theorem Zaz {P : Program} {f : FuncId} {fn : Func} {c : Code} {n : Nat} {args : List AV} {env : List (Nat × AV)} {rs : List ResultVar} {H : Hp} {R : AV → Hp → Prop} (hf : P.funcs[f]? = some fn) (hname : (fn.name == "runtime.NumGoroutine") = false) (hb : fn.body = some c) (hn : fn.ntmps = n)
    (hrs : fn.results = rs.toArray) (henv : enumE? 0 args = some env) (hlen : Nat.ble args.length n = true) (h : ∀ F : Fr, F.pn = hpN H → Awp P F c (Ret P rs H R) ⟨n, env, H⟩) : ACalls P f args H R :=
  a_enterR hf hname hb hn hrs henv hlen fun F h1 _ => h F h1
end Go.Proofs.YtneihdahboilnaaGreat
/- How a function is called in the abstract walk. No program in sight. -/
namespace Go.Proofs.YtneihdahboilnaaGreat
open Go.RowKit

def evs? (s : AS) : List Operand → Option (List AV)
  | [] => some []
  | x :: r => match evs? s r with
    | none => none
    | some l => match s.ev x with
      | none => none
      | some a => some (a :: l)
theorem evs?_spec {F : Fr} {s : AS} {ρ : Nat → Nat → Value} {act : Act} {w : World} (hs : SR F s ρ act w) : ∀ {xs : List Operand} {as : List AV}, evs? s xs = some as → (xs.map act.eval).length = as.length ∧ ∀ (i : Nat) a v, as[i]? = some a → (xs.map act.eval)[i]? = some v → RepA w (F.O ρ s.hp) ρ a v
  | [], as, h => by simp only [evs?, Option.some.injEq] at h; subst h; simp
  | x :: r, as, h => by
    simp only [evs?] at h
    split at h
    · cases h
    · rename_i l hl
      split at h
      · cases h
      · rename_i a ha
        injection h with h; subst h
        obtain ⟨h1, h2⟩ := evs?_spec hs hl;refine ⟨by simpa using h1, fun i a' v hi hv => ?_⟩
        cases i with
        | zero => simp at hi hv; subst hi hv; exact hs.ev ha
        | succ i => exact h2 i a' v (by simpa using hi) (by simpa using hv)

def FamsEq (hp CH : Hp) : List Nat → Prop
  | [] => True
  | g :: r => hfam hp g = hfam CH g ∧ FamsEq hp CH r
theorem FamsEq.hget {hp CH : Hp} {nm : List Nat} (h : FamsEq hp CH nm) {g : Nat} (hg : g ∈ nm) (i : Nat) : hget hp g i = hget CH g i := by
  induction nm with
  | nil => cases hg
  | cons a r ih =>
    rcases List.mem_cons.1 hg with rfl | hg
    · simp only [Go.Proofs.YtneihdahboilnaaGreat.hget, h.1]
    · exact ih h.2 hg
theorem namesIn_spec {nm : List Nat} {H : Hp} (h : namesIn nm H = true) {g i : Nat} {o : AObj} (ho : hget H g i = some o) : g ∈ nm := by
  induction H with
  | nil => simp [hget, hfam] at ho
  | cons p r ih =>
    obtain ⟨k, l⟩ := p;simp only [namesIn, Bool.and_eq_true] at h
    by_cases e : k = g
    · subst e; exact ZaZ.1 h.1
    · refine ih h.2 ?_
      simpa only [hget, hfam, Zba e] using ho
def isBlk : Option AObj → Bool
  | some (.blk _ _) => true
  | _ => false
def okRef (CH : Hp) (nm : List Nat) (f i : Nat) : Bool := !(memB f nm) || isBlk (hget CH f i)
def rest? (nm : List Nat) : Hp → Option Hp
  | [] => some []
  | (g, l) :: r => match rest? nm r with
    | none => none
    | some r' => match memB g nm with
      | true => some r'
      | false => some ((g, l) :: r')
theorem rest?_spec {nm : List Nat} {hp hp' : Hp} (h : rest? nm hp = some hp') : ∀ g i, hget hp' g i = if g ∈ nm then none else hget hp g i := by
  induction hp generalizing hp' with
  | nil => simp only [rest?, Option.some.injEq] at h; subst h; simp [hget, hfam]
  | cons p r ih =>
    obtain ⟨k, l⟩ := p;simp only [rest?] at h
    split at h
    · cases h
    · rename_i r' hr
      split at h
      · rename_i hk
        injection h with h; subst h
        intro g i;rw [ih hr g i]
        by_cases e : k = g
        · subst e; rw [if_pos (ZaZ.1 hk), if_pos (ZaZ.1 hk)]
        · simp only [hget, hfam, Zba e]
      · rename_i hk
        injection h with h; subst h
        intro g i
        by_cases e : k = g
        · subst e;rw [if_neg (fun hm => by rw [ZaZ.2 hm] at hk; cases hk)];simp only [hget, hfam, Nat.beq_refl]
        · have := ih hr g i;simp only [hget, hfam, Zba e] at this ⊢;exact this
theorem hget_app {H rest : Hp} {nm : List Nat} (hH : namesIn nm H = true) (hr : ∀ g i, g ∈ nm → hget rest g i = none) (g i : Nat) : hget (H ++ rest) g i = if g ∈ nm then hget H g i else hget rest g i := by
  have key : ∀ H : Hp, hfam (H ++ rest) g = match hfam H g with | some l => some l | none => hfam rest g := by
    intro H
    induction H with
    | nil => rfl
    | cons p r ih =>
      obtain ⟨k, l⟩ := p
      by_cases e : k = g
      · subst e; simp [hfam]
      · simp only [List.cons_append, hfam, Zba e, ih]
  by_cases hg : g ∈ nm
  · rw [if_pos hg];have h1 := hr g i hg;simp only [hget, key] at h1 ⊢
    cases hh : hfam H g with
    | none => simp [h1]
    | some l => simp
  · rw [if_neg hg];simp only [hget, key]
    cases hh : hfam H g with
    | none => rfl
    | some l => exact absurd (namesIn_fam hH hh) hg

def inNm (nm : List Nat) (f _i : Nat) : Bool := memB f nm
def objsIn (nm : List Nat) : List AObj → Bool
  | [] => true
  | .blk _ cs :: r => okC (inNm nm) cs && objsIn nm r
  | .row _ _ xs :: r => xs.all (fun x => okL (inNm nm) x.cells) && objsIn nm r
  | .rowD _ _ _ :: r => objsIn nm r
  | .loop L :: r => okEnv (inNm nm) L.env && objsIn nm r
  | .map _ _ :: r => objsIn nm r
  | .iter f _ _ _ :: r => memB f nm && objsIn nm r
  | .addr f _ _ :: r => memB f nm && objsIn nm r
  | .any :: r => objsIn nm r
  | .nb _ _ _ :: r => objsIn nm r
  | .nr _ _ _ _ _ :: r => objsIn nm r
  | .multi _ :: r => objsIn nm r
def hpIn (nm : List Nat) : Hp → Bool
  | [] => true
  | (_, l) :: r => objsIn nm l && hpIn nm r
theorem objsIn_spec {nm : List Nat} {l : List AObj} (h : objsIn nm l = true) {o : AObj} (ho : o ∈ l) {f i : Nat} (hr : o.Refs f i) : f ∈ nm := by
  induction l with
  | nil => cases ho
  | cons a r ih =>
    rcases List.mem_cons.1 ho with rfl | ho
    · cases o with
      | blk t cs =>
        simp only [objsIn, Bool.and_eq_true] at h;obtain ⟨c, hc, hr⟩ := hr;exact ZaZ.1 (okC_spec h.1 hc hr)
      | row t k xs =>
        simp only [objsIn, Bool.and_eq_true] at h;obtain ⟨x, hx, c, hc, hr⟩ := hr;exact ZaZ.1 (okL_spec (List.all_eq_true.1 h.1 x hx) hc hr)
      | rowD t k xs => exact hr.elim
      | loop L =>
        simp only [objsIn, Bool.and_eq_true] at h;obtain ⟨t, a, ha, hr⟩ := hr;exact ZaZ.1 (okEnv_spec h.1 ha hr)
      | map bs es => exact hr.elim
      | iter f' i' c seen =>
        simp only [objsIn, Bool.and_eq_true] at h;obtain ⟨e1, e2⟩ := hr;subst e1;exact ZaZ.1 h.1
      | addr f' i' u =>
        simp only [objsIn, Bool.and_eq_true] at h;obtain ⟨e1, e2⟩ := hr;subst e1;exact ZaZ.1 h.1
      | any => exact hr.elim
      | nb b t cs => exact hr.elim
      | nr b t k cap xs => exact hr.elim
      | multi M => exact hr.elim
    · refine ih ?_ ho
      cases a <;> simp only [objsIn, Bool.and_eq_true] at h <;> first | exact h.2 | exact h
theorem hpIn_spec {nm : List Nat} {H : Hp} (h : hpIn nm H = true) {g j : Nat} {o : AObj} (ho : hget H g j = some o) {f i : Nat} (hr : o.Refs f i) : f ∈ nm := by
  induction H with
  | nil => simp [hget, hfam] at ho
  | cons p r ih =>
    obtain ⟨k, l⟩ := p;simp only [hpIn, Bool.and_eq_true] at h
    by_cases e : k = g
    · subst e;simp only [hget, hfam, Nat.beq_refl, Option.bind_some] at ho;rcases gl_mem ho with ho | ⟨_, m, _, _, rfl⟩
      · exact objsIn_spec h.1 ho hr
      · exact absurd hr MObj.norefs
    · refine ih h.2 ?_
      simpa only [hget, hfam, Zba e] using ho

section
variable {P : Program} {F : Fr} {s : AS} {d : Nat} {ty : TypeId} {pos : String} {aft : Array Edge} {g : Option (Nat × Bool)} {at_ : Array TypeId}

def frameOf (F : Fr) (lo : Nat) (hp CH : Hp) (ρ : Nat → Nat → Value) (w : World) (hOf : ∀ b, (F.Of b ∨ (OwnB ρ hp b ∧ ¬ OwnB ρ CH b)) → b < w.heap.size ∧ ¬ OwnB ρ CH b) : Fr :=
  Fr.mk none lo w (fun b => F.Of b ∨ (OwnB ρ hp b ∧ ¬ OwnB ρ CH b)) (OwnB ρ CH) (pinOf ρ CH) hOf (hpN CH) (fun _ _ _ h => pinOf_mem h)

def Keeps (w w' : World) (O O' : Nat → Prop) : Prop := w.heap.size ≤ w'.heap.size ∧ (∀ b, b < w.heap.size → ¬ O b → w'.heap[b]? = w.heap[b]?) ∧ ∀ b, b < w.heap.size → O' b → O b

theorem heap_part (lo : Nat) {hp CH : Hp} {ρ : Nat → Nat → Value} {w : World} (hs : Heap F hp ρ w) (nm : List Nat) (hfe : FamsEq hp CH nm) (hcn : namesIn nm CH = true) :
    ∃ hOf, Heap (frameOf F lo hp CH ρ w hOf) CH ρ w ∧ (frameOf F lo hp CH ρ w hOf).O ρ CH = F.O ρ hp := by
  have hCH : ∀ g i o, hget CH g i = some o → hget hp g i = some o ∧ g ∈ nm := fun g i o ho => by
    have hg := namesIn_spec hcn ho;exact ⟨by rw [hfe.hget hg]; exact ho, hg⟩
  have hOC : ∀ b, OwnB ρ CH b → OwnB ρ hp b := fun b ⟨f, i, o, h1, h2⟩ => ⟨f, i, o, (hCH f i o h1).1, h2⟩
  have hOf : ∀ b, (F.Of b ∨ (OwnB ρ hp b ∧ ¬ OwnB ρ CH b)) → b < w.heap.size ∧ ¬ OwnB ρ CH b := fun b hb => by
    rcases hb with hb | hb
    · exact ⟨Nat.lt_of_lt_of_le (F.hOf b hb).1 hs.size0, fun hh => hs.notOf (hOC b hh) hb⟩
    · exact ⟨(hs.mine b hb.1).1, hb.2⟩
  have hO : (frameOf F lo hp CH ρ w hOf).O ρ CH = F.O ρ hp := funext fun b => propext ⟨fun h => by
    rcases h with (h | h) | h
    · exact .inl h
    · exact .inr h.1
    · exact .inr (hOC b h), fun h => by
    rcases h with h | h
    · exact .inl (.inl h)
    · by_cases hh : OwnB ρ CH b
      · exact .inr hh
      · exact .inl (.inr ⟨h, hh⟩)⟩
  refine ⟨hOf, ⟨fun f i o ho => ?_, fun f i f' i' o o' b ho ho' => ?_, fun b hb => ⟨(hs.mine b (hOC b hb)).1, .inl hb⟩, rfl, rfl, rfl, Nat.le_refl _, fun _ _ _ => rfl, fun f i b hb => Zb5 hb, Nat.le_refl _⟩, hO⟩
  · rw [hO]; exact hs.sim f i o (hCH f i o ho).1
  · exact hs.inj f i f' i' o o' b (hCH f i o ho).1 (hCH f' i' o' ho').1

theorem heap_join {lo : Nat} {ok : Nat → Nat → Bool} {hp CH H' : Hp} {ρ ρ' : Nat → Nat → Value} {w w' : World} (hs : Heap F hp ρ w) (nm : List Nat) (hfe : FamsEq hp CH nm) (hcn : namesIn nm CH = true) {rest0 rest : Hp} (hr0s : ∀ g i, hget rest0 g i = if g ∈ nm then none else hget hp g i)
    (k1 : ∀ g i o', hget rest g i = some o' → ∃ o, hget rest0 g i = some o ∧ o.Less ok o') (k2 : ∀ g i o, hget rest0 g i = some o → ∃ o', hget rest g i = some o' ∧ o.Less ok o')
    (hOf : ∀ b, (F.Of b ∨ (OwnB ρ hp b ∧ ¬ OwnB ρ CH b)) → b < w.heap.size ∧ ¬ OwnB ρ CH b) (_ : Heap (frameOf F lo hp CH ρ w hOf) CH ρ w) (hh' : Heap (frameOf F lo hp CH ρ w hOf) H' ρ' w') (n1 : namesIn nm H' = true) (n2 : hpIn nm H' = true) (hok : ∀ f i, f ∈ nm → ok f i = true → ρ' f i = ρ f i) :
    ∃ ρ'', Heap F (H' ++ rest) ρ'' w' ∧ (∀ A v, (∀ f i, A.Refs f i → f ∈ nm) → RepA w' ((frameOf F lo hp CH ρ w hOf).O ρ' H') ρ' A v → RepA w' (F.O ρ'' (H' ++ rest)) ρ'' A v) ∧
      (∀ A v, (∀ f i, A.Refs f i → ok f i = true) → RepA w (F.O ρ hp) ρ A v → RepA w' (F.O ρ'' (H' ++ rest)) ρ'' A v) ∧ (∀ f i, f ∈ nm → ρ'' f i = ρ' f i) ∧ (∀ f i, f ∉ nm → ρ'' f i = ρ f i) ∧ Keeps w w' (F.O ρ hp) (F.O ρ'' (H' ++ rest)) ∧ ∀ b, F.O ρ'' (H' ++ rest) b → (frameOf F lo hp CH ρ w hOf).O ρ' H' b := by
  have hCH : ∀ g i o, hget CH g i = some o → hget hp g i = some o ∧ g ∈ nm := fun g i o ho => by
    have hg := namesIn_spec hcn ho;exact ⟨by rw [hfe.hget hg]; exact ho, hg⟩
  have hrest : ∀ g i o, hget rest g i = some o → ∃ o1, hget hp g i = some o1 ∧ o1.Less (ok) o ∧ g ∉ nm := fun g i o ho => by
    obtain ⟨o1, h1, h2⟩ := k1 g i o ho;rw [hr0s] at h1
    split at h1
    · cases h1
    · rename_i hg; exact ⟨o1, h1, h2, hg⟩
  have hOC : ∀ b, OwnB ρ CH b → OwnB ρ hp b := fun b ⟨f, i, o, h1, h2⟩ => ⟨f, i, o, (hCH f i o h1).1, h2⟩
  have hOR : ∀ b, OwnB ρ rest b → OwnB ρ hp b ∧ ¬ OwnB ρ CH b := fun b ⟨f, i, o, h1, h2⟩ => by
    obtain ⟨o1, h3, _, h4⟩ := hrest f i o h1;refine ⟨⟨f, i, o1, h3, h2⟩, fun ⟨f', i', o', h5, h6⟩ => ?_⟩;obtain ⟨h7, h8⟩ := hCH f' i' o' h5;obtain ⟨rfl, rfl⟩ := hs.inj f i f' i' _ _ b h3 h7 h2 h6;exact h4 h8
  let ρ'' : Nat → Nat → Value := fun f i => if f ∈ nm then ρ' f i else ρ f i
  have hρin : ∀ f i, f ∈ nm → ρ'' f i = ρ' f i := fun f i hf => if_pos hf;have hρout : ∀ f i, f ∉ nm → ρ'' f i = ρ f i := fun f i hf => if_neg hf
  have hρok : ∀ f i, ok f i = true → ρ'' f i = ρ f i := fun f i hf0 => by
    by_cases hf : f ∈ nm
    · rw [hρin f i hf]; exact hok f i hf hf0
    · exact hρout f i hf
  have hnone : ∀ g i, g ∈ nm → hget rest g i = none := fun g i hg => by
    cases ho : hget rest g i with
    | none => rfl
    | some o => exact absurd hg (hrest g i o ho).choose_spec.2.2
  have happ := fun g i => hget_app (rest := rest) n1 hnone g i
  have hown : ∀ b, OwnB ρ'' (H' ++ rest) b → OwnB ρ' H' b ∨ OwnB ρ rest b := fun b ⟨f, i, o, h1, h2⟩ => by
    rw [happ] at h1
    split at h1
    · rename_i hf; rw [hρin f i hf] at h2; exact .inl ⟨f, i, o, h1, h2⟩
    · rename_i hf; rw [hρout f i hf] at h2; exact .inr ⟨f, i, o, h1, h2⟩
  have hOin : ∀ b, F.O ρ'' (H' ++ rest) b → (frameOf F lo hp CH ρ w hOf).O ρ' H' b := fun b hb => by
    rcases hb with hb | hb
    · exact .inl (.inl hb)
    · rcases hown b hb with hb | hb
      · exact .inr hb
      · exact .inl (.inr (hOR b hb))
  have hOout : ∀ b, b < w.heap.size → F.O ρ'' (H' ++ rest) b → F.O ρ hp b := fun b hlt hb => by
    rcases hb with hb | hb
    · exact .inl hb
    · rcases hown b hb with hb | hb
      · rcases (hh'.mine b hb).2 with h1 | h1
        · exact .inr (hOC b h1)
        · exact absurd hlt (Nat.not_lt.2 h1)
      · exact .inr (hOR b hb).1
  have hbb : ∀ b, b < w.heap.size → ¬ F.O ρ hp b → w'.heap[b]? = w.heap[b]? := fun b hlt hn => hh'.keep b hlt fun hh => hn (.inr (hOC b hh));have hsz : w.heap.size ≤ w'.heap.size := hh'.size0;refine ⟨ρ'', ?_, fun A v hA hr => hr.mono (Nat.le_refl _) (fun _ _ _ => rfl) (fun b _ => hOin b) fun f i hf => hρin f i (hA f i hf), fun A v hA hr => hr.mono hsz hbb hOout fun f i hf => hρok f i (hA f i hf), hρin, hρout, ⟨hsz, hbb, hOout⟩, hOin⟩;refine ⟨fun f i o ho => ?_, fun f i f' i' o o' b ho ho' hb hb' => ?_, fun b hb => ?_, hh'.os.trans hs.os, hh'.tape.trans hs.tape, hh'.output.trans hs.output, Nat.le_trans hs.size0 hsz, fun b hlt hn => ?_, fun f i b hp => ?_, Nat.le_trans hs.drawn hh'.drawn⟩
  · rw [happ] at ho
    split at ho
    · rename_i hf
      rw [hρin f i hf];refine (hh'.sim f i o ho).mono (Nat.le_refl _) (fun _ _ _ => rfl) (fun b _ => hOin b) (fun _ _ => rfl) fun f' i' hr => hρin f' i' (hpIn_spec n2 ho hr)
    · rename_i hf
      rw [hρout f i hf];obtain ⟨o1, h1, h2, _⟩ := hrest f i o ho;refine (h2.1 _ _ _ _ (hs.sim f i o1 h1)).mono hsz hbb hOout (fun b hv => hh'.keep b (hs.mine b ⟨f, i, o1, h1, hv⟩).1 (hOR b ⟨f, i, o, ho, hv⟩).2) fun f' i' hr => hρok f' i' (h2.2.1 f' i' hr)
  · rw [happ] at ho ho'
    have cross : ∀ {f i f' i' : Nat} {o o' : AObj} {b : Nat}, f ∈ nm → f' ∉ nm → hget H' f i = some o → hget rest f' i' = some o' → blkOf (ρ' f i) = some b → blkOf (ρ f' i') = some b → False := fun {f i f' i' o o' b} hf hf' ho ho' hb hb' => by
      have h1 := hOR b ⟨f', i', o', ho', hb'⟩;rcases (hh'.mine b ⟨f, i, o, ho, hb⟩).2 with h2 | h2
      · exact h1.2 h2
      · exact absurd (hs.mine b h1.1).1 (Nat.not_lt.2 h2)
    by_cases hf : f ∈ nm <;> by_cases hf' : f' ∈ nm
    · rw [if_pos hf] at ho; rw [if_pos hf'] at ho';rw [hρin _ _ hf] at hb; rw [hρin _ _ hf'] at hb';exact hh'.inj f i f' i' o o' b ho ho' hb hb'
    · rw [if_pos hf] at ho; rw [if_neg hf'] at ho';rw [hρin _ _ hf] at hb; rw [hρout _ _ hf'] at hb';exact (cross hf hf' ho ho' hb hb').elim
    · rw [if_neg hf] at ho; rw [if_pos hf'] at ho';rw [hρout _ _ hf] at hb; rw [hρin _ _ hf'] at hb';exact (cross hf' hf ho' ho hb' hb).elim
    · rw [if_neg hf] at ho; rw [if_neg hf'] at ho';rw [hρout _ _ hf] at hb; rw [hρout _ _ hf'] at hb';obtain ⟨o1, h1, _⟩ := hrest f i o ho;obtain ⟨o2, h2, _⟩ := hrest f' i' o' ho';exact hs.inj f i f' i' o1 o2 b h1 h2 hb hb'
  · rcases hown b hb with hb | hb
    · obtain ⟨h1, h2⟩ := hh'.mine b hb;refine ⟨h1, ?_⟩;rcases h2 with h2 | h2
      · exact (hs.mine b (hOC b h2)).2
      · exact .inr (Nat.le_trans hs.size0 h2)
    · obtain ⟨h1, h2⟩ := hs.mine b (hOR b hb).1;exact ⟨Nat.lt_of_lt_of_le h1 hsz, h2⟩
  · have h1 : b < w.heap.size := Nat.lt_of_lt_of_le hlt hs.size0;rw [hh'.keep b h1 (fun hh => ?_)]
    · exact hs.keep b hlt hn
    · rcases (hs.mine b (hOC b hh)).2 with h2 | h2
      · exact hn h2
      · omega
  · obtain ⟨a1, t, cs, a2⟩ := hs.pins f i b hp
    by_cases hf : f ∈ nm
    · have h3 : hget CH f i = some (.blk t cs) := by rw [← hfe.hget hf]; exact a2
      have hp' : pinOf ρ CH f i = some b := by simp only [pinOf, h3, a1]
      obtain ⟨b1, t', cs', b2⟩ := hh'.pins f i b hp';exact ⟨by rw [hρin f i hf]; exact b1, t', cs', by rw [happ, if_pos hf]; exact b2⟩
    · have h3 : hget rest0 f i = some (.blk t cs) := by rw [hr0s, if_neg hf]; exact a2
      obtain ⟨o', h4, _, _, h5, _⟩ := k2 f i _ h3;obtain ⟨cs', rfl⟩ := h5 t cs rfl;exact ⟨by rw [hρout f i hf]; exact a1, t, cs', by rw [happ, if_neg hf]; exact h4⟩

theorem heap_whole {lo : Nat} {hp CH H' : Hp} {ρ ρ' : Nat → Nat → Value} {w w' : World} (hs : Heap F hp ρ w) (nm : List Nat) (hfe : FamsEq hp CH nm) (hcn : namesIn nm CH = true) {rest0 rest : Hp} (hr0 : rest? nm hp = some rest0) (hH : keepH? (okRef CH nm) rest0 = some rest)
    (hOf : ∀ b, (F.Of b ∨ (OwnB ρ hp b ∧ ¬ OwnB ρ CH b)) → b < w.heap.size ∧ ¬ OwnB ρ CH b) (hheap : Heap (frameOf F lo hp CH ρ w hOf) CH ρ w) (hh' : Heap (frameOf F lo hp CH ρ w hOf) H' ρ' w') (n1 : namesIn nm H' = true) (n2 : hpIn nm H' = true) :
    ∃ ρ'', Heap F (H' ++ rest) ρ'' w' ∧ (∀ A v, (∀ f i, A.Refs f i → f ∈ nm) → RepA w' ((frameOf F lo hp CH ρ w hOf).O ρ' H') ρ' A v → RepA w' (F.O ρ'' (H' ++ rest)) ρ'' A v) ∧
      (∀ A v, (∀ f i, A.Refs f i → okRef CH nm f i = true) → RepA w (F.O ρ hp) ρ A v → RepA w' (F.O ρ'' (H' ++ rest)) ρ'' A v) ∧ (∀ f i, okRef CH nm f i = true → ρ'' f i = ρ f i) ∧ Keeps w w' (F.O ρ hp) (F.O ρ'' (H' ++ rest)) := by
  have hok : ∀ f i, f ∈ nm → okRef CH nm f i = true → ρ' f i = ρ f i := fun f i hf hok => by
    have hb : isBlk (hget CH f i) = true := by
      simp only [okRef, ZaZ.2 hf, Bool.not_true, Bool.false_or] at hok; exact hok
    cases ho : hget CH f i with
    | none => rw [ho] at hb; cases hb
    | some o =>
      rw [ho] at hb
      cases o with
      | blk t cs =>
        obtain ⟨b, us, hv, _⟩ := hheap.sim f i _ ho;have hp : pinOf ρ CH f i = some b := by simp only [pinOf, ho, hv]
        rw [(hh'.pins f i b hp).1, hv]
      | row t k xs => cases hb
      | rowD t k xs => cases hb
      | loop L => cases hb
      | map _ _ => cases hb
      | iter _ _ _ _ => cases hb
      | addr _ _ _ => cases hb
      | any => cases hb
      | nb _ _ _ => cases hb
      | nr _ _ _ _ _ => cases hb
      | multi _ => cases hb
  obtain ⟨ρ'', a1, a2, a3, a4, a5, a6, _⟩ := heap_join hs nm hfe hcn (rest?_spec hr0) (keepH?_spec hH).1 (keepH?_spec hH).2 hOf hheap hh' n1 n2 hok;refine ⟨ρ'', a1, a2, a3, fun f i h => ?_, a6⟩
  by_cases hf : f ∈ nm
  · rw [a4 f i hf]; exact hok f i hf h
  · exact a5 f i hf

theorem call_core {ρ : Nat → Nat → Value} {act : Act} {w : World} (hs : SR F s ρ act w) {f : FuncId} {args : List AV} {CH : Hp} {R : AV → Hp → Prop} (hc : ACalls P f args CH R) {vs : List Value} (hlen : vs.length = args.length) (hvs : ∀ (i : Nat) a v, args[i]? = some a → vs[i]? = some v → RepA w (F.O ρ s.hp) ρ a v)
    (nm : List Nat) (hfe : FamsEq s.hp CH nm) (hcn : namesIn nm CH = true) {rest0 rest : Hp} {env' : List (Nat × AV)} (hr0 : rest? nm s.hp = some rest0) (hE : keepE? (okRef CH nm) s.env = some env') (hH : keepH? (okRef CH nm) rest0 = some rest)
    (hR : ∀ r H', R r H' → namesIn nm H' = true ∧ hpIn nm H' = true ∧ r.ok (inNm nm) = true) :
    Calls P f vs.toArray w fun e w' => ∃ v r H' ρ'', e = .returned v ∧ R r H' ∧ RepA w' (F.O ρ'' (H' ++ rest)) ρ'' r v ∧ SR F ⟨s.n, env', H' ++ rest⟩ ρ'' act w' ∧ ∀ f i, okRef CH nm f i = true → ρ'' f i = ρ f i := by
  obtain ⟨hOf, hheap, hO⟩ := heap_part w.heap.size hs.heap nm hfe hcn;refine (hc.2 (frameOf F w.heap.size s.hp CH ρ w hOf) ρ vs rfl rfl ⟨rfl, rfl, rfl⟩ hheap hlen (fun i a v ha hv => by rw [hO]; exact hvs i a v ha hv)).mono fun e w' ⟨v, r, H', ρ', e1, hRr, hrep, hh'⟩ => ?_;obtain ⟨n1, n2, n3⟩ := hR r H' hRr;obtain ⟨ρ'', g1, g2, g3, g4, g5, g6, g7⟩ := heap_whole hs.heap nm hfe hcn hr0 hH hOf hheap hh' n1 n2;refine ⟨v, r, H', ρ'', e1, hRr, g2 r v (fun f i hf => ZaZ.1 (AV.ok_spec n3 hf)) hrep, ⟨hs.size, hs.defs.mono g5 g6 g7, fun t a ha => ?_, g1⟩, g4⟩;rcases keepE?_spec hE ha with rfl | ⟨h1, h2⟩
  · exact .top
  · exact g3 _ _ h2 (hs.env t a h1)

theorem run_call {f : FuncId} {fn : Func} (hf : P.funcs[f]? = some fn) (hname : (fn.name == "runtime.NumGoroutine") = false) (hb : fn.body.isSome = true) {act : Act} {w : World} {xs : List Operand} {dst : Option Nat} :
    (execOp act.eval ⟨dst, .call { callee := .value (.func f), args := xs.toArray, argTypes := at_ }, ty, pos, aft, g⟩).run P w = .ok (.enter f (xs.map act.eval).toArray) w := by
  have hb' : ¬ fn.body = none := by intro h; rw [h] at hb; cases hb
  have hn' : ¬ fn.name = "runtime.NumGoroutine" := by simpa using hname
  simp [execOp, resolve, Act.eval, Deferred.ofValue, invoke, callFunc, hf, hn', hb']

theorem st_callX {f : FuncId} {xs : List Operand} {args : List AV} {CH : Hp} {R : AV → Hp → Prop} (hc : ACalls P f args CH R) (hargs : evs? s xs = some args)
    (nm : List Nat) (hfe : FamsEq s.hp CH nm) (hcn : namesIn nm CH = true) {rest0 rest : Hp} {env' : List (Nat × AV)} (hr0 : rest? nm s.hp = some rest0) (hE : keepE? (okRef CH nm) s.env = some env') (hH : keepH? (okRef CH nm) rest0 = some rest)
    (hR : ∀ r H', R r H' → namesIn nm H' = true ∧ hpIn nm H' = true ∧ r.ok (inNm nm) = true) (hd : Nat.blt d s.n = true) :
    Ostep P F ⟨some d, .call { callee := .value (.func f), args := xs.toArray, argTypes := at_ }, ty, pos, aft, g⟩ s (fun s' => ∃ r H', R r H' ∧ s' = ⟨s.n, (d, r) :: env', H' ++ rest⟩) := fun ρ act w hs => by
  obtain ⟨fn, h1, h2, h3⟩ := hc.1;obtain ⟨h4, h5⟩ := evs?_spec hs hargs;unfold Oper.wp;rw [run_call h1 h2 h3, Oper.upon_enter];refine (call_core hs hc h4 h5 nm hfe hcn hr0 hE hH hR).mono fun e w' ⟨v, r, H', ρ'', e1, hRr, hrep, hsr, _⟩ => ?_;subst e1;exact ⟨_, ρ'', ⟨rfl, r, H', hRr, rfl⟩, hsr.put (Zbc hd) hrep⟩
theorem Zbf {f : FuncId} {xs : List Operand} {args : List AV} {CH H0 : Hp} {r0 : AV} (hc : ACalls P f args CH fun r H' => r = r0 ∧ H' = H0) (hargs : evs? s xs = some args)
    (nm : List Nat) (hfe : FamsEq s.hp CH nm) (hcn : namesIn nm CH = true) {rest0 rest : Hp} {env' : List (Nat × AV)} (hr0 : rest? nm s.hp = some rest0) (hE : keepE? (okRef CH nm) s.env = some env') (hH : keepH? (okRef CH nm) rest0 = some rest)
    (hR1 : namesIn nm H0 = true) (hR2 : hpIn nm H0 = true) (hR3 : r0.ok (inNm nm) = true) (hd : Nat.blt d s.n = true) {hp' : Hp} (hhp : some (H0 ++ rest) = some hp') :
    Zal P F ⟨some d, .call { callee := .value (.func f), args := xs.toArray, argTypes := at_ }, ty, pos, aft, g⟩ s ⟨s.n, (d, r0) :: env', hp'⟩ (okRef CH nm) := by
  injection hhp with hhp
  subst hhp;intro ρ act w hs;obtain ⟨fn, h1, h2, h3⟩ := hc.1;obtain ⟨h4, h5⟩ := evs?_spec hs hargs;unfold Oper.wp;rw [run_call h1 h2 h3, Oper.upon_enter];refine (call_core hs hc h4 h5 nm hfe hcn hr0 hE hH (fun r H' ⟨e1, e2⟩ => by subst e1 e2; exact ⟨hR1, hR2, hR3⟩)).mono fun e w' ⟨v, r, H', ρ'', e1, ⟨e2, e3⟩, hrep, hsr, hk⟩ => ?_;subst e1 e2 e3;exact ⟨ρ'', hsr.put (Zbc hd) hrep, hk⟩
theorem Zan {f : FuncId} {xs : List Operand} {args : List AV} {x : D} (hc : PCalls P f args x) (hargs : evs? s xs = some args) (hd : Nat.blt d s.n = true) :
    Zaa P F ⟨some d, .call { callee := .value (.func f), args := xs.toArray, argTypes := at_ }, ty, pos, aft, g⟩ s d (.d x) := by
  refine ⟨hd, rfl, fun ρ act w hs => ?_⟩;obtain ⟨fn, h1, h2, h3⟩ := hc.1;obtain ⟨h4, h5⟩ := evs?_spec hs hargs;unfold Oper.wp;rw [run_call h1 h2 h3, Oper.upon_enter];have hno : ∀ ρ b, ¬ OwnB ρ [] b := fun ρ b ⟨_, _, _, h, _⟩ => by cases h
  let F' : Fr := Fr.mk none w.heap.size w (F.O ρ s.hp) (OwnB ρ []) (pinOf ρ []) (fun b hb => ⟨by
    rcases hb with hb | hb
    · exact Nat.lt_of_lt_of_le (F.hOf b hb).1 hs.heap.size0
    · exact (hs.heap.mine b hb).1, hno ρ b⟩) [] (fun _ _ _ h => pinOf_mem h)
  have hO : ∀ ρ', F'.O ρ' [] = F.O ρ s.hp := fun ρ' => funext fun b => propext ⟨fun h => h.elim id fun h => (hno ρ' b h).elim, .inl⟩
  have hheap : Heap F' [] ρ w := ⟨(fun f i o ho => by cases ho), (fun f i f' i' o o' b ho => by cases ho), fun b hb => (hno ρ b hb).elim, rfl, rfl, rfl, Nat.le_refl _, fun _ _ _ => rfl, fun f i b hb => Zb5 hb, Nat.le_refl _⟩
  refine (hc.2 F' ρ _ rfl rfl ⟨rfl, rfl, rfl⟩ hheap h4 (fun i a v ha hv => by rw [hO]; exact h5 i a v ha hv)).mono fun e w' ⟨v, r, H', ρ', e1, ⟨e2, e3⟩, hrep, hh'⟩ => ?_;subst e1 e2 e3;have hbb : ∀ b, b < w.heap.size → w'.heap[b]? = w.heap[b]? := fun b hlt => hh'.keep b hlt (hno ρ b);have hsz : w.heap.size ≤ w'.heap.size := hh'.size0;refine ⟨v, rfl, ?_, ?_, hsz, hbb⟩
  rotate_left
  · refine ⟨fun f i o ho => ?_, hs.heap.inj, fun b hb => ⟨Nat.lt_of_lt_of_le (hs.heap.mine b hb).1 hsz, (hs.heap.mine b hb).2⟩, hh'.os.trans hs.heap.os, hh'.tape.trans hs.heap.tape, hh'.output.trans hs.heap.output, Nat.le_trans hs.heap.size0 hsz, fun b hlt hn => ?_, hs.heap.pins, Nat.le_trans hs.heap.drawn hh'.drawn⟩
    · exact (hs.heap.sim f i o ho).mono hsz (fun b hlt _ => hbb b hlt) (fun _ _ h => h) (fun b hv => hbb b (hs.heap.mine b ⟨f, i, o, ho, hv⟩).1) fun _ _ _ => rfl
    · rw [hbb b (Nat.lt_of_lt_of_le hlt hs.heap.size0)]; exact hs.heap.keep b hlt hn
  · cases hrep with
    | d hrep => rw [hO] at hrep; exact .d hrep
end

end Go.Proofs.YtneihdahboilnaaGreat
