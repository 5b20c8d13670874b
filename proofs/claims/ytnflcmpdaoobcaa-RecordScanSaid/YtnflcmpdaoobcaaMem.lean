/- The rules of operations on owned memory: variables, rows, stores, append. No program in sight. -/
import Derived.Test.YtnflcmpdaoobcaaOps2
import Derived.Great.FillDense
import Derived.Laws.MakeOwn
namespace Go.Proofs.Ytnflcmpdaoobcaa
open Go.RowKit

def upd (ρ : Nat → Nat → Value) (f0 i0 : Nat) (v : Value) : Nat → Nat → Value := fun f i => if f = f0 ∧ i = i0 then v else ρ f i
theorem upd_same {ρ : Nat → Nat → Value} {f0 i0 : Nat} {v : Value} : upd ρ f0 i0 v f0 i0 = v := by simp [upd]
theorem upd_other {ρ : Nat → Nat → Value} {f0 i0 f i : Nat} {v : Value} (h : ¬ (f = f0 ∧ i = i0)) : upd ρ f0 i0 v f i = ρ f i := by simp only [upd]; rw [if_neg h]

theorem SR.set {F : Fr} {s : AS} {ρ : Nat → Nat → Value} {act : Act} {w w' : World} (h : SR F s ρ act w) (f0 i0 : Nat) (o' : AObj) (v' : Value) {env' : List (Nat × AV)} {hp1 hp' : List (Nat × List AObj)}
    (hE : killE? f0 s.env = some env') (hH : killH? f0 s.hp = some hp1) (hset : ∀ f i, hget hp' f i = if f = f0 ∧ i = i0 then some o' else hget hp1 f i)
    (hnb : ∀ t cs, hget s.hp f0 i0 ≠ some (.blk t cs)) (hblk : ∀ b, blkOf v' = some b → ((∃ o, hget s.hp f0 i0 = some o) ∧ blkOf (ρ f0 i0) = some b) ∨ (w.heap.size ≤ b ∧ b < w'.heap.size))
    (hos : w'.os = w.os) (htape : w'.tape = w.tape) (hout : w'.output = w.output) (hs : w.heap.size ≤ w'.heap.size)
    (hb : ∀ b, b < w.heap.size → ¬ ((∃ o, hget s.hp f0 i0 = some o) ∧ blkOf (ρ f0 i0) = some b) → w'.heap[b]? = w.heap[b]?)
    (hsim : (∀ A v, (∀ i, ¬ A.Refs f0 i) → RepA w (F.O ρ s.hp) ρ A v → RepA w' (F.O (upd ρ f0 i0 v') hp') (upd ρ f0 i0 v') A v) → SimObj w' (F.O (upd ρ f0 i0 v') hp') (upd ρ f0 i0 v') o' v') :
    SR F ⟨s.n, env', hp'⟩ (upd ρ f0 i0 v') act w' := by
  obtain ⟨k1, k2⟩ := killH?_spec hH
  have hheap1 : Heap F hp1 ρ w := h.heap.less (fun g i o' ho => let ⟨o, a, b⟩ := k1 g i o' ho; ⟨o, a, fun w O v hh => b.1 w O ρ v hh⟩) fun g i o ho => let ⟨o', a, b⟩ := k2 g i o ho; ⟨o', a, b.2.2.1⟩
  have hex : (∃ o, hget hp1 f0 i0 = some o) ↔ ∃ o, hget s.hp f0 i0 = some o := ⟨fun ⟨o, ho⟩ => let ⟨o', a, _⟩ := k1 _ _ _ ho; ⟨o', a⟩, fun ⟨o, ho⟩ => let ⟨o', a, _⟩ := k2 _ _ _ ho; ⟨o', a⟩⟩
  have hO : ∀ b, b < w.heap.size → F.O (upd ρ f0 i0 v') hp' b → F.O ρ s.hp b := fun b hlt ho => by
    rcases ho with ho | ⟨f, i, o, h1, h2⟩
    · exact .inl ho
    · refine .inr ?_
      by_cases e : f = f0 ∧ i = i0
      · obtain ⟨rfl, rfl⟩ := e
        rw [upd_same] at h2
        rcases hblk b h2 with ⟨⟨o1, h3⟩, h4⟩ | h3
        · exact ⟨f, i, o1, h3, h4⟩
        · omega
      · rw [hset, if_neg e] at h1
        rw [upd_other e] at h2
        obtain ⟨o1, h3, _⟩ := k1 _ _ _ h1
        exact ⟨f, i, o1, h3, h2⟩
  have hbb : ∀ b, b < w.heap.size → ¬ F.O ρ s.hp b → w'.heap[b]? = w.heap[b]? := fun b hlt ho => hb b hlt fun ⟨⟨o, h1⟩, h2⟩ => ho (.inr ⟨f0, i0, o, h1, h2⟩)
  have hrep : ∀ A v, (∀ i, ¬ A.Refs f0 i) → RepA w (F.O ρ s.hp) ρ A v → RepA w' (F.O (upd ρ f0 i0 v') hp') (upd ρ f0 i0 v') A v := fun A v hA hr =>
    hr.mono hs hbb hO fun f i hf => upd_other fun ⟨e1, e2⟩ => hA i (by rw [← e1]; exact hf)
  have hheap : Heap F hp' (upd ρ f0 i0 v') w' := by
    refine hheap1.one f0 i0 o' hset (fun f i e => upd_other e) (fun b hv => ?_) hos htape hout hs (fun b hlt hn => hb b hlt fun ⟨h1, h2⟩ => hn ⟨hex.2 h1, h2⟩) (.inr fun f i o ho hne => ?_) (fun b hp => ?_) (by rw [upd_same]; exact hsim hrep)
    · rw [upd_same] at hv
      rcases hblk b hv with ⟨h1, h2⟩ | h1
      · exact .inl ⟨hex.2 h1, h2⟩
      · exact .inr h1
    · obtain ⟨_, _, hl⟩ := k1 _ _ _ ho
      exact fun hr => notFam_spec (hl.2.1 _ _ hr) rfl
    · obtain ⟨_, t, cs, h1⟩ := h.heap.pins f0 i0 b hp
      exact absurd h1 (hnb t cs)
  refine ⟨h.size, h.defs.mono hs hbb hO, fun t a ha => ?_, hheap⟩
  rcases killE?_spec hE ha with rfl | ⟨h1, h2⟩
  · exact .top
  · exact hrep _ _ h2 (h.env t a h1)

theorem SR.write {F : Fr} {s : AS} {ρ : Nat → Nat → Value} {act : Act} {w w' : World} (h : SR F s ρ act w) (f0 i0 : Nat) (o o' : AObj) {hp' : List (Nat × List AObj)} (ho : hget s.hp f0 i0 = some o)
    (hset : ∀ f i, hget hp' f i = if f = f0 ∧ i = i0 then some o' else hget s.hp f i) (hos : w'.os = w.os) (htape : w'.tape = w.tape) (hout : w'.output = w.output) (hs : w'.heap.size = w.heap.size)
    (hb : ∀ b, blkOf (ρ f0 i0) ≠ some b → w'.heap[b]? = w.heap[b]?)
    (hbl : ∀ t cs, o = .blk t cs → ∃ t' cs', o' = .blk t' cs') (hsim : (∀ A v, RepA w (F.O ρ s.hp) ρ A v → RepA w' (F.O ρ hp') ρ A v) → SimObj w' (F.O ρ hp') ρ o' (ρ f0 i0)) : SR F ⟨s.n, s.env, hp'⟩ ρ act w' := by
  have hO : ∀ b, F.O ρ hp' b → F.O ρ s.hp b := fun b hh => by
    rcases hh with hh | ⟨f, i, o1, h1, h2⟩
    · exact .inl hh
    · refine .inr ?_
      by_cases e : f = f0 ∧ i = i0
      · obtain ⟨rfl, rfl⟩ := e; exact ⟨f, i, o, ho, h2⟩
      · rw [hset, if_neg e] at h1; exact ⟨f, i, o1, h1, h2⟩
  have hrep : ∀ A v, RepA w (F.O ρ s.hp) ρ A v → RepA w' (F.O ρ hp') ρ A v := fun A v hr =>
    hr.mono (Nat.le_of_eq hs.symm) (fun b _ hn => hb b fun e => hn (.inr ⟨f0, i0, o, ho, e⟩)) (fun b _ => hO b) fun _ _ _ => rfl
  refine ⟨h.size, h.defs.mono (Nat.le_of_eq hs.symm) (fun b _ hn => hb b fun e => hn (.inr ⟨f0, i0, o, ho, e⟩)) (fun b _ => hO b), fun t a ha => hrep _ _ (h.env t a ha), ?_⟩
  refine h.heap.one f0 i0 o' hset (fun _ _ _ => rfl) (fun b hv => .inl ⟨⟨o, ho⟩, hv⟩) hos htape hout (Nat.le_of_eq hs.symm) (fun b _ hn => hb b fun e => hn ⟨⟨o, ho⟩, e⟩) (.inl rfl) (fun b hp => ?_) (hsim hrep)
  obtain ⟨_, t, cs, h1⟩ := h.heap.pins f0 i0 b hp
  rw [ho] at h1; injection h1 with h1
  exact ⟨rfl, hbl t cs h1⟩

/-! Families by computation. -/
def setAt? : List AObj → Nat → AObj → Option (List AObj)
  | [], _, _ => none
  | _ :: r, 0, o => some (o :: r)
  | a :: r, i + 1, o => match setAt? r i o with
    | none => none
    | some r' => some (a :: r')
def hset? : List (Nat × List AObj) → Nat → Nat → AObj → Option (List (Nat × List AObj))
  | [], _, _, _ => none
  | (k, l) :: r, f, i, o => match Nat.beq k f with
    | true => match setAt? l i o with
      | none => none
      | some l' => some ((k, l') :: r)
    | false => match hset? r f i o with
      | none => none
      | some r' => some ((k, l) :: r')
def hnew? (hp : List (Nat × List AObj)) (f : Nat) (o : AObj) : Option (List (Nat × List AObj)) := match hfam hp f with
  | none => some ((f, [o]) :: hp)
  | some _ => none
theorem setAt?_spec {l l' : List AObj} {i : Nat} {o : AObj} (h : setAt? l i o = some l') : ∀ j : Nat, l'[j]? = if j = i then some o else l[j]? := by
  induction l generalizing l' i with
  | nil => simp [setAt?] at h
  | cons a r ih =>
    cases i with
    | zero => simp only [setAt?, Option.some.injEq] at h; subst h; intro j; cases j <;> simp
    | succ i =>
      simp only [setAt?] at h
      split at h
      · cases h
      · rename_i r' hr
        injection h with h; subst h
        intro j
        cases j with
        | zero => simp
        | succ j => simpa using ih hr j
theorem hset?_spec {hp hp' : List (Nat × List AObj)} {f0 i0 : Nat} {o : AObj} (h : hset? hp f0 i0 o = some hp') : ∀ f i, hget hp' f i = if f = f0 ∧ i = i0 then some o else hget hp f i := by
  induction hp generalizing hp' with
  | nil => simp [hset?] at h
  | cons p r ih =>
    obtain ⟨k, l⟩ := p
    simp only [hset?] at h
    split at h
    · rename_i hk
      have hk' := Nat.eq_of_beq_eq_true hk
      subst hk'
      split at h
      · cases h
      · rename_i l' hl
        injection h with h; subst h
        intro f i
        by_cases e : k = f
        · subst e
          simp only [hget, hfam, Nat.beq_refl, Option.bind_some, true_and]
          exact setAt?_spec hl i
        · simp only [hget, hfam, beq_ne e]
          rw [if_neg (fun hh => e hh.1.symm)]
    · rename_i hk
      have hk' := Nat.ne_of_beq_eq_false hk
      split at h
      · cases h
      · rename_i r' hr
        injection h with h; subst h
        intro f i
        by_cases e : k = f
        · subst e
          simp only [hget, hfam, Nat.beq_refl, Option.bind_some]
          rw [if_neg (fun hh => hk' hh.1)]
        · have := ih hr f i
          simp only [hget, hfam, beq_ne e] at this ⊢
          exact this
theorem hnew?_spec {hp hp' : List (Nat × List AObj)} {f0 : Nat} {o : AObj} (h : hnew? hp f0 o = some hp') : (∀ f i, hget hp' f i = if f = f0 ∧ i = 0 then some o else hget hp f i) ∧ ∀ i, hget hp f0 i = none := by
  unfold hnew? at h
  split at h
  · rename_i hf
    injection h with h; subst h
    refine ⟨fun f i => ?_, fun i => by simp [hget, hf]⟩
    by_cases e : f0 = f
    · subst e
      simp only [hget, hfam, Nat.beq_refl, Option.bind_some, true_and, hf, Option.bind_none]
      cases i <;> simp
    · simp only [hget, hfam, beq_ne e]
      rw [if_neg (fun hh => e hh.1.symm)]
  · cases h

/-- A new object in a new block. -/
theorem SR.new {F : Fr} {s : AS} {ρ : Nat → Nat → Value} {act : Act} {w : World} (h : SR F s ρ act w) (f0 : Nat) (o' : AObj) (v' : Value) (ob : Obj) {env' : List (Nat × AV)} {hp1 hp' : List (Nat × List AObj)}
    (hE : killE? f0 s.env = some env') (hH : killH? f0 s.hp = some hp1) (hnew : hnew? hp1 f0 o' = some hp') (hv : blkOf v' = some w.heap.size)
    (hsim : (∀ A v, (∀ i, ¬ A.Refs f0 i) → RepA w (F.O ρ s.hp) ρ A v → RepA (w.alloc ob) (F.O (upd ρ f0 0 v') hp') (upd ρ f0 0 v') A v) → SimObj (w.alloc ob) (F.O (upd ρ f0 0 v') hp') (upd ρ f0 0 v') o' v') :
    SR F ⟨s.n, env', hp'⟩ (upd ρ f0 0 v') act (w.alloc ob) := by
  obtain ⟨h1, h2⟩ := hnew?_spec hnew
  refine h.set f0 0 o' v' hE hH h1 (fun t cs hh => ?_) (fun b hb => .inr ?_) rfl rfl rfl (by simp) (fun b hlt _ => Below.heap_alloc w ob b hlt) hsim
  · obtain ⟨_, k2⟩ := killH?_spec hH
    obtain ⟨o, ho, _⟩ := k2 _ _ _ hh
    rw [h2] at ho; cases ho
  rw [hv] at hb; injection hb with hb
  simp; omega

/-! Cells of values. -/
def mapD? : List D → Option (List AV)
  | [] => some []
  | c :: r => match mapD? r with
    | none => none
    | some l => some (.d c :: l)
def AV.cells? : AV → Option (List AV)
  | .agg cs => some cs
  | .d (.agg cs) => mapD? cs
  | .d (.tup _) => none
  | .top => none
  | .tup _ => none
  | a => some [a]
theorem mapD?_spec {cs : List D} {l : List AV} (h : mapD? cs = some l) : l = cs.map .d := by
  induction cs generalizing l with
  | nil => simp only [mapD?, Option.some.injEq] at h; subst h; rfl
  | cons c r ih =>
    simp only [mapD?] at h
    split at h
    · cases h
    · rename_i l' hl
      injection h with h; subst h
      rw [ih hl]; rfl
theorem RepA.cells {w : World} {O : Nat → Prop} {ρ : Nat → Nat → Value} {a : AV} {v : Value} {l : List AV} (hl : a.cells? = some l) (h : RepA w O ρ a v) :
    v.cells.toList.length = l.length ∧ ∀ (j : Nat) c u, l[j]? = some c → v.cells.toList[j]? = some u → RepA w O ρ c u ∧ u.oneCell' = true := by
  have one : ∀ {v : Value} {a : AV}, v.oneCell' = true → RepA w O ρ a v → v.cells.toList.length = [a].length ∧ ∀ (j : Nat) c u, [a][j]? = some c → v.cells.toList[j]? = some u → RepA w O ρ c u ∧ u.oneCell' = true := fun {v a} h1 h => by
    have hc : v.cells.toList = [v] := by cases v <;> first | rfl | cases h1
    rw [hc]
    refine ⟨rfl, fun j c u hc hu => ?_⟩
    cases j with
    | zero => simp at hc hu; subst hc hu; exact ⟨h, h1⟩
    | succ j => simp at hc
  cases a with
  | agg cs =>
    simp only [AV.cells?, Option.some.injEq] at hl; subst hl
    cases h with
    | agg h1 h2 h3 => exact ⟨by simpa [Value.cells] using h1, fun j c u hc hu => ⟨h3 j c u hc (by simpa [Value.cells] using hu), h2 u (List.mem_of_getElem? (by simpa [Value.cells] using hu))⟩⟩
  | d x =>
    cases x with
    | agg cs =>
      simp only [AV.cells?] at hl
      have := mapD?_spec hl
      subst this
      cases h with
      | d h =>
        cases h with
        | agg h1 h2 h3 =>
          refine ⟨by simpa [Value.cells] using h1, fun j c u hc hu => ?_⟩
          rw [List.getElem?_map] at hc
          cases hcs : cs[j]? with
          | none => rw [hcs] at hc; cases hc
          | some x =>
            rw [hcs] at hc; injection hc with hc; subst hc
            have hr := h3 j x u hcs (by simpa [Value.cells] using hu)
            exact ⟨.d hr, hr.oneCell (h2 x (List.mem_of_getElem? hcs))⟩
    | tup _ => simp [AV.cells?] at hl
    | raw u =>
      simp only [AV.cells?, Option.some.injEq] at hl; subst hl
      have h' := h
      cases h with | d h => exact one (h.oneCell rfl) h'
    | sl _ _ =>
      simp only [AV.cells?, Option.some.injEq] at hl; subst hl
      have h' := h
      cases h with | d h => exact one (h.oneCell rfl) h'
    | ptr _ =>
      simp only [AV.cells?, Option.some.injEq] at hl; subst hl
      have h' := h
      cases h with | d h => exact one (h.oneCell rfl) h'
  | top => simp [AV.cells?] at hl
  | tup _ => simp [AV.cells?] at hl
  | ptr f i off => simp only [AV.cells?, Option.some.injEq] at hl; subst hl; have h' := h; cases h; exact one rfl h'
  | own f i n => simp only [AV.cells?, Option.some.injEq] at hl; subst hl; have h' := h; cases h; exact one rfl h'
  | rptr f i k e off => simp only [AV.cells?, Option.some.injEq] at hl; subst hl; have h' := h; cases h; exact one rfl h'
  | map f i => simp only [AV.cells?, Option.some.injEq] at hl; subst hl; have h' := h; cases h; exact one rfl h'
  | fn g caps => simp only [AV.cells?, Option.some.injEq] at hl; subst hl; have h' := h; cases h; exact one rfl h'

/-- Constants as values. -/
def constL? : List Value → Option (List AV)
  | [] => some []
  | v :: r => match constL? r with
    | none => none
    | some l => match constAV? v with
      | none => none
      | some a => some (a :: l)
theorem constL?_spec {vs : List Value} {l : List AV} (h : constL? vs = some l) (w : World) (O : Nat → Prop) (ρ : Nat → Nat → Value) : vs.length = l.length ∧ ∀ (j : Nat) c u, l[j]? = some c → vs[j]? = some u → RepA w O ρ c u ∧ u.oneCell' = true := by
  induction vs generalizing l with
  | nil => simp only [constL?, Option.some.injEq] at h; subst h; simp
  | cons v r ih =>
    simp only [constL?] at h
    split at h
    · cases h
    · rename_i l' hl
      split at h
      · cases h
      · rename_i a ha
        injection h with h; subst h
        obtain ⟨h1, h2⟩ := ih hl
        refine ⟨by simp [h1], fun j c u hc hu => ?_⟩
        cases j with
        | zero => simp at hc hu; subst hc hu; exact rep_const ha
        | succ j => exact h2 j c u (by simpa using hc) (by simpa using hu)
def zeroL? (P : Program) (T : TypeId) : Option (List AV) := match P.info? T with
  | none => none
  | some i => match i.zero with
    | none => none
    | some z => constL? z.cells.toList
theorem zeroL?_spec {P : Program} {T : TypeId} {l : List AV} (h : zeroL? P T = some l) : ∃ (i : TypeInfo) (z : Value), P.info? T = some i ∧ i.zero = some z ∧ constL? z.cells.toList = some l := by
  unfold zeroL? at h
  split at h
  · cases h
  · rename_i i hi
    split at h
    · cases h
    · rename_i z hz
      exact ⟨i, z, hi, hz, h⟩

theorem simBlk {w : World} {O : Nat → Prop} {ρ : Nat → Nat → Value} {T : TypeId} {cs : List AV} {us : List Value} {b : Nat} (hh : w.heap[b]? = some (.cells us.toArray T (0, 0))) (hl : us.length = cs.length)
    (hr : ∀ (j : Nat) c u, cs[j]? = some c → us[j]? = some u → RepA w O ρ c u ∧ u.oneCell' = true) : SimObj w O ρ (.blk T cs) (.pointer (some ⟨b, 0, none⟩)) :=
  ⟨b, us, rfl, hh, hl, fun j c u hc hu => (hr j c u hc hu).1, fun u hu => by
    obtain ⟨j, hj, rfl⟩ := List.getElem_of_mem hu
    exact (hr j _ _ (List.getElem?_eq_getElem (by omega)) (List.getElem?_eq_getElem hj)).2⟩

section
variable {P : Program} {F : Fr} {s : AS} {d : Nat} {ty T E : TypeId} {pos : String} {aft : Array Edge} {g : Option (Nat × Bool)} {x y : Operand} {k : IntKind} {i : Int}

/-- A new variable. -/
theorem st_alloc (f : Nat) {env' : List (Nat × AV)} {hp1 hp' : List (Nat × List AObj)} {cs : List AV} (hz : zeroL? P T = some cs) (hE : killE? f s.env = some env') (hH : killH? f s.hp = some hp1) (hn : hnew? hp1 f (.blk T cs) = some hp') (hd : Nat.blt d s.n = true) :
    Estep P F ⟨some d, .alloc T, ty, pos, aft, g⟩ s ⟨s.n, (d, .ptr f 0 0) :: env', hp'⟩ (notFam f) := fun ρ act w hs => by
  obtain ⟨ti, z, h1, h2, h3⟩ := zeroL?_spec hz
  have hrun : (execOp act.eval ⟨some d, .alloc T, ty, pos, aft, g⟩).run P w = .ok (.value (.pointer (some ⟨w.heap.size, 0, none⟩))) (w.alloc (.cells z.cells T)) := by
    simp [execOp, Instr.alloc, zeroValue, typeInfo, h1, h2, newVar, newRow]
  unfold Oper.wp
  rw [hrun]
  have hsr := hs.new f (.blk T cs) (.pointer (some ⟨w.heap.size, 0, none⟩)) (.cells z.cells T) hE hH hn rfl (fun hrep => by
    obtain ⟨h4, _⟩ := constL?_spec h3 w (F.O ρ s.hp) ρ
    refine simBlk (us := z.cells.toList) (by simpa using heap_alloc_new w (.cells z.cells T)) h4 fun j c u hc hu => ?_
    exact (constL?_spec h3 _ _ _).2 j c u hc hu)
  exact ⟨_, hsr.put (lt_of_blt hd) (.ptr upd_same), fun f i h => upd_other fun e => notFam_spec h e.1⟩
theorem st_box (f : Nat) {A : AV} {env' : List (Nat × AV)} {hp1 hp' : List (Nat × List AObj)} {cs : List AV} (hx : s.ev x = some A) (hc : A.cells? = some cs) (hA : norefL f cs = true) (hE : killE? f s.env = some env') (hH : killH? f s.hp = some hp1) (hn : hnew? hp1 f (.blk T cs) = some hp') (hd : Nat.blt d s.n = true) :
    Estep P F ⟨some d, .box T x, ty, pos, aft, g⟩ s ⟨s.n, (d, .ptr f 0 0) :: env', hp'⟩ (notFam f) := fun ρ act w hs => by
  have hrun : (execOp act.eval ⟨some d, .box T x, ty, pos, aft, g⟩).run P w = .ok (.value (.pointer (some ⟨w.heap.size, 0, none⟩))) (w.alloc (.cells (act.eval x).cells T)) := by
    simp [execOp, Instr.box, newVar, newRow]
  unfold Oper.wp
  rw [hrun]
  obtain ⟨h4, h5⟩ := (hs.ev hx).cells hc
  have hsr := hs.new f (.blk T cs) (.pointer (some ⟨w.heap.size, 0, none⟩)) (.cells (act.eval x).cells T) hE hH hn rfl (fun hrep => by
    refine simBlk (us := (act.eval x).cells.toList) (by simpa using heap_alloc_new w (.cells (act.eval x).cells T)) h4 fun j c u hc hu => ?_
    obtain ⟨h6, h7⟩ := h5 j c u hc hu
    exact ⟨hrep c u (norefL_spec hA (List.mem_of_getElem? hc)) h6, h7⟩)
  exact ⟨_, hsr.put (lt_of_blt hd) (.ptr upd_same), fun f i h => upd_other fun e => notFam_spec h e.1⟩
end

end Go.Proofs.Ytnflcmpdaoobcaa
