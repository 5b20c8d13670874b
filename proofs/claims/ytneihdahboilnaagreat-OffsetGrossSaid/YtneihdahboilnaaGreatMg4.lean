/- The rules of operations on owned memory: variables, rows, stores, append. No program in sight. -/
import Derived.Test.YtneihdahboilnaaGreatMg3
import Derived.Great.FillDense
import Derived.Laws.MakeOwn
namespace Go.Proofs.YtneihdahboilnaaGreat
open Go.RowKit
def upd (ρ : Nat → Nat → Value) (f0 i0 : Nat) (v : Value) : Nat → Nat → Value := fun f i => if f = f0 ∧ i = i0 then v else ρ f i
theorem Zbx {ρ : Nat → Nat → Value} {f0 i0 : Nat} {v : Value} : upd ρ f0 i0 v f0 i0 = v := by simp [upd]
theorem Zbk {ρ : Nat → Nat → Value} {f0 i0 f i : Nat} {v : Value} (h : ¬ (f = f0 ∧ i = i0)) : upd ρ f0 i0 v f i = ρ f i := by simp only [upd]; rw [if_neg h]
theorem ask_drawn {α : Type} (w : World) (a : Ask α) : w.drawn ≤ (w.ask a).2.drawn := by
  induction a generalizing w with
  | done a => exact Nat.le_refl _
  | ask what range k ih =>
    simp only [World.ask]
    split
    · exact ih _ _
    · exact Nat.le_trans (Nat.le_succ _) (ih _ { w with drawn := w.drawn + 1 })
theorem sys_drawn (w : World) (c : Sys) : w.drawn ≤ (w.sys c).2.drawn := by
  have h := ask_drawn w (Kernel.perform c w.os);unfold World.sys
  split
  · exact Nat.le_refl _
  · rename_i heq; rw [heq] at h; exact h
theorem farStore_drawn {P : Program} {w w1 : World} {a : Addr} {v : Value} {at_ : Bool} {l : List Addr} (h : w.farStore P a v at_ = .ok (w1,l)) : w1.drawn = w.drawn := by
  unfold World.farStore at h
  split at h
  · split at h
    · rename_i r hv
      injection h with h; subst h
      simp only [World.viewStore,bind,Except.bind,pure,Except.pure] at hv
      repeat' split at hv
      all_goals first | (cases hv; done) | (injection hv with hv; injection hv with hv _; rw [← hv])
    · cases h
  · cases h
theorem setCell_drawn (w : World) (a : Addr) (v : Value) : (w.setCell a v).drawn = w.drawn := rfl
theorem setCells_drawn (b : Nat) (vs : List Value) : ∀ (i : Nat) (w : World),(w.setCells b i vs).drawn = w.drawn := by
  induction vs with
  | nil => intro i w; rfl
  | cons v vs ih => intro i w; simp only [World.setCells]; rw [ih,setCell_drawn]
theorem run_drawn {P : Program} {α : Type} {s : Sem α} {w w' : World} {a : α} (h : s.run P w = .ok a w') : w.drawn ≤ w'.drawn := by
  induction s generalizing w with
  | pure a => simp only [Sem.run,Result.ok.injEq] at h; rw [h.2]; exact Nat.le_refl _
  | load m ad k ih =>
    simp only [Sem.run] at h
    split at h
    · exact ih _ h
    · split at h
      · exact ih _ h
      · cases h
  | store m ad v k ih =>
    have key : ∃ e1,(match w.cell? ad with
      | some _ => if w.frozen? ad then Result.halt e1 w else k.run P (w.setCell ad v)
      | none => match w.farStore P ad v (m == Mode.atomic) with
        | .ok (w,_) => k.run P w
        | .error h => .halt h w) = .ok a w' := by
      cases v <;> first | exact ⟨_,h⟩ | (simp [Sem.run] at h)
    obtain ⟨_,key⟩:=key
    split at key
    · split at key
      · cases key
      · exact ih (w := w.setCell ad v) key
    · split at key
      · rename_i w1 l hf
        rw [← farStore_drawn hf]; exact ih key
      · cases key
  | new o k ih => exact ih _ (w := { w with heap := w.heap.push o }) h
  | shape r k ih => exact ih _ h
  | freeze ad n k ih =>
    simp only [Sem.run] at h;have := ih h;unfold World.freeze at this
    split at this <;> exact this
  | frozen ad k ih => exact ih _ h
  | getObj r k ih =>
    simp only [Sem.run] at h
    split at h
    · cases h
    · exact ih _ h
    · cases h
  | setObj r o k ih =>
    simp only [Sem.run] at h
    split at h
    · cases h
    · exact ih (w := { w with heap := w.heap.setIfInBounds r o }) h
    · cases h
  | choose q k ih =>
    simp only [Sem.run] at h
    split at h
    · exact ih _ h
    · exact Nat.le_trans (Nat.le_succ _) (ih _ (w := { w with drawn := w.drawn + 1 }) h)
  | sys c k ih => exact Nat.le_trans (sys_drawn w c) (ih _ h)
  | program k ih => exact ih _ h
  | mark m k ih => exact ih h
  | halt hh => simp [Sem.run] at h
theorem SR.set {F : Fr} {s : AS} {ρ : Nat → Nat → Value} {act : Act} {w w' : World} (h : SR F s ρ act w) (f0 i0 : Nat) (o' : AObj) (v' : Value) {env' : List (Nat × AV)} {hp1 hp' : List (Nat × List AObj)}
    (hE : killE? f0 s.env = some env') (hH : killH? f0 s.hp = some hp1) (hset : ∀ f i,hget hp' f i = if f = f0 ∧ i = i0 then some o' else hget hp1 f i)
    (hnb : ∀ t cs,hget s.hp f0 i0 ≠ some (.blk t cs)) (hblk : ∀ b,blkOf v' = some b → ((∃ o,hget s.hp f0 i0 = some o) ∧ blkOf (ρ f0 i0) = some b) ∨ (w.heap.size ≤ b ∧ b < w'.heap.size))
    (hos : w'.os = w.os) (htape : w'.tape = w.tape) (hout : w'.output = w.output) (hs : w.heap.size ≤ w'.heap.size)
    (hb : ∀ b,b < w.heap.size → ¬ ((∃ o,hget s.hp f0 i0 = some o) ∧ blkOf (ρ f0 i0) = some b) → w'.heap[b]? = w.heap[b]?)
    (hsim : (∀ A v,(∀ i, ¬ A.Refs f0 i) → RepA w (F.O ρ s.hp) ρ A v → RepA w' (F.O (upd ρ f0 i0 v') hp') (upd ρ f0 i0 v') A v) → SimObj w' (F.O (upd ρ f0 i0 v') hp') (upd ρ f0 i0 v') o' v') (hdr : w.drawn ≤ w'.drawn := by exact Nat.le_refl _) :
    SR F ⟨s.n,env',hp'⟩ (upd ρ f0 i0 v') act w' := by
  obtain ⟨k1,k2⟩ := killH?_spec hH;have hheap1 : Heap F hp1 ρ w := h.heap.less (fun g i o' ho => let ⟨o,a,b⟩ := k1 g i o' ho; ⟨o,a,fun w O v hh => b.1 w O ρ v hh⟩) fun g i o ho => let ⟨o',a,b⟩ := k2 g i o ho; ⟨o',a,b.2.2.1⟩
  have hex : (∃ o,hget hp1 f0 i0 = some o) ↔ ∃ o,hget s.hp f0 i0 = some o := ⟨fun ⟨o,ho⟩ => let ⟨o',a,_⟩ := k1 _ _ _ ho; ⟨o',a⟩,fun ⟨o,ho⟩ => let ⟨o',a,_⟩ := k2 _ _ _ ho; ⟨o',a⟩⟩
  have hO : ∀ b,b < w.heap.size → F.O (upd ρ f0 i0 v') hp' b → F.O ρ s.hp b := fun b hlt ho => by
    rcases ho with ho | ⟨f,i,o,h1,h2⟩
    · exact .inl ho
    · refine .inr ?_
      by_cases e : f = f0 ∧ i = i0
      · obtain ⟨rfl,rfl⟩ := e;rw [Zbx] at h2;rcases hblk b h2 with ⟨⟨o1,h3⟩,h4⟩ | h3
        · exact ⟨f,i,o1,h3,h4⟩
        · omega
      · rw [hset,if_neg e] at h1;rw [Zbk e] at h2;obtain ⟨o1,h3,_⟩ := k1 _ _ _ h1;exact ⟨f,i,o1,h3,h2⟩
  have hbb : ∀ b,b < w.heap.size → ¬ F.O ρ s.hp b → w'.heap[b]? = w.heap[b]? := fun b hlt ho => hb b hlt fun ⟨⟨o,h1⟩,h2⟩ => ho (.inr ⟨f0,i0,o,h1,h2⟩)
  have hrep : ∀ A v,(∀ i, ¬ A.Refs f0 i) → RepA w (F.O ρ s.hp) ρ A v → RepA w' (F.O (upd ρ f0 i0 v') hp') (upd ρ f0 i0 v') A v := fun A v hA hr =>
    hr.mono hs hbb hO fun f i hf => Zbk fun ⟨e1,e2⟩ => hA i (by rw [← e1]; exact hf)
  have hheap : Heap F hp' (upd ρ f0 i0 v') w' := by
    refine hheap1.one f0 i0 o' hset (fun f i e => Zbk e) (fun b hv => ?_) hos htape hout hs hdr (fun b hlt hn => hb b hlt fun ⟨h1,h2⟩ => hn ⟨hex.2 h1,h2⟩) (.inr fun f i o ho hne => ?_) (fun b hp => ?_) (by rw [Zbx]; exact hsim hrep)
    · rw [Zbx] at hv;rcases hblk b hv with ⟨h1,h2⟩ | h1
      · exact .inl ⟨hex.2 h1,h2⟩
      · exact .inr h1
    · obtain ⟨_,_,hl⟩ := k1 _ _ _ ho;exact fun hr => Zbu (hl.2.1 _ _ hr) rfl
    · obtain ⟨_,t,cs,h1⟩ := h.heap.pins f0 i0 b hp;exact absurd h1 (hnb t cs)
  refine ⟨h.size,h.defs.mono hs hbb hO,fun t a ha => ?_,hheap⟩;rcases killE?_spec hE ha with rfl | ⟨h1,h2⟩
  · exact .top
  · exact hrep _ _ h2 (h.env t a h1)
theorem SR.write {F : Fr} {s : AS} {ρ : Nat → Nat → Value} {act : Act} {w w' : World} (h : SR F s ρ act w) (f0 i0 : Nat) (o o' : AObj) {hp' : List (Nat × List AObj)} (ho : hget s.hp f0 i0 = some o)
    (hset : ∀ f i,hget hp' f i = if f = f0 ∧ i = i0 then some o' else hget s.hp f i) (hos : w'.os = w.os) (htape : w'.tape = w.tape) (hout : w'.output = w.output) (hs : w'.heap.size = w.heap.size)
    (hb : ∀ b,blkOf (ρ f0 i0) ≠ some b → w'.heap[b]? = w.heap[b]?)
    (hbl : ∀ t cs,o = .blk t cs → ∃ t' cs',o' = .blk t' cs') (hsim : (∀ A v,RepA w (F.O ρ s.hp) ρ A v → RepA w' (F.O ρ hp') ρ A v) → SimObj w' (F.O ρ hp') ρ o' (ρ f0 i0)) (hdr : w.drawn ≤ w'.drawn := by exact Nat.le_refl _) : SR F ⟨s.n,s.env,hp'⟩ ρ act w' := by
  have hO : ∀ b,F.O ρ hp' b → F.O ρ s.hp b := fun b hh => by
    rcases hh with hh | ⟨f,i,o1,h1,h2⟩
    · exact .inl hh
    · refine .inr ?_
      by_cases e : f = f0 ∧ i = i0
      · obtain ⟨rfl,rfl⟩ := e; exact ⟨f,i,o,ho,h2⟩
      · rw [hset,if_neg e] at h1; exact ⟨f,i,o1,h1,h2⟩
  have hrep : ∀ A v,RepA w (F.O ρ s.hp) ρ A v → RepA w' (F.O ρ hp') ρ A v := fun A v hr =>
    hr.mono (Nat.le_of_eq hs.symm) (fun b _ hn => hb b fun e => hn (.inr ⟨f0,i0,o,ho,e⟩)) (fun b _ => hO b) fun _ _ _ => rfl
  refine ⟨h.size,h.defs.mono (Nat.le_of_eq hs.symm) (fun b _ hn => hb b fun e => hn (.inr ⟨f0,i0,o,ho,e⟩)) (fun b _ => hO b),fun t a ha => hrep _ _ (h.env t a ha), ?_⟩;refine h.heap.one f0 i0 o' hset (fun _ _ _ => rfl) (fun b hv => .inl ⟨⟨o,ho⟩,hv⟩) hos htape hout (Nat.le_of_eq hs.symm) hdr (fun b _ hn => hb b fun e => hn ⟨⟨o,ho⟩,e⟩) (.inl rfl) (fun b hp => ?_) (hsim hrep);obtain ⟨_,t,cs,h1⟩ := h.heap.pins f0 i0 b hp;rw [ho] at h1; injection h1 with h1
  exact ⟨rfl,hbl t cs h1⟩
def setAt? : List AObj → Nat → AObj → Option (List AObj)
  | [],_,_ => none
  | _ :: r,0,o => some (o :: r)
  | a :: r,i + 1,o => match setAt? r i o with
    | none => none
    | some r' => some (a :: r')
def setG? (l : List AObj) (i : Nat) (o : AObj) : Option (List AObj) := match isM l with
  | some _ => none
  | none => match notM o with
    | true => setAt? l i o
    | false => none
def hset? : List (Nat × List AObj) → Nat → Nat → AObj → Option (List (Nat × List AObj))
  | [],_,_,_ => none
  | (k,l) :: r,f,i,o => match Nat.beq k f with
    | true => match setG? l i o with
      | none => none
      | some l' => some ((k,l') :: r)
    | false => match hset? r f i o with
      | none => none
      | some r' => some ((k,l) :: r')
def hnew? (hp : List (Nat × List AObj)) (f : Nat) (o : AObj) : Option (List (Nat × List AObj)) := match hfam hp f with
  | none => match notM o with
    | true => some ((f,[o]) :: hp)
    | false => none
  | some _ => none
theorem setAt?_spec {l l' : List AObj} {i : Nat} {o : AObj} (h : setAt? l i o = some l') : ∀ j : Nat,l'[j]? = if j = i then some o else l[j]? := by
  induction l generalizing l' i with
  | nil => simp [setAt?] at h
  | cons a r ih =>
    cases i with
    | zero => simp only [setAt?,Option.some.injEq] at h; subst h; intro j; cases j <;> simp
    | succ i =>
      simp only [setAt?] at h
      split at h
      · cases h
      · rename_i r' hr
        injection h with h; subst h
        intro j
        cases j with
        | zero => simp
        | succ j => simpa using ih hr j
theorem setG?_spec {l l' : List AObj} {i : Nat} {o : AObj} (h : setG? l i o = some l') : ∀ j : Nat,gl l' j = if j = i then some o else gl l j := by
  unfold setG? at h
  split at h
  · cases h
  · rename_i hl
    split at h
    · rename_i ho
      have hs := setAt?_spec h
      have hl' : isM l' = none := by
        match l,i,h with
        | [],_,h => simp [setAt?] at h
        | [a],0,h => simp only [setAt?,Option.some.injEq] at h; subst h; exact isM_one ho
        | [a],_ + 1,h => simp [setAt?] at h
        | a :: b :: r,0,h => simp only [setAt?,Option.some.injEq] at h; subst h; rfl
        | a :: b :: r,i + 1,h =>
          simp only [setAt?] at h
          split at h
          · cases h
          · rename_i r' hr
            injection h with h; subst h
            match i,hr with
            | 0,hr => simp only [setAt?,Option.some.injEq] at hr; subst hr; rfl
            | i + 1,hr =>
              simp only [setAt?] at hr
              split at hr
              · cases hr
              · injection hr with hr; subst hr; rfl
      intro j;unfold gl;rw [hl',hl];exact hs j
    · cases h
theorem hset?_spec {hp hp' : List (Nat × List AObj)} {f0 i0 : Nat} {o : AObj} (h : hset? hp f0 i0 o = some hp') : ∀ f i,hget hp' f i = if f = f0 ∧ i = i0 then some o else hget hp f i := by
  induction hp generalizing hp' with
  | nil => simp [hset?] at h
  | cons p r ih =>
    obtain ⟨k,l⟩ := p;simp only [hset?] at h
    split at h
    · rename_i hk
      have hk' := Nat.eq_of_beq_eq_true hk;subst hk'
      split at h
      · cases h
      · rename_i l' hl
        injection h with h; subst h
        intro f i
        by_cases e : k = f
        · subst e;simp only [hget,hfam,Nat.beq_refl,Option.bind_some,true_and];exact setG?_spec hl i
        · simp only [hget,hfam,Za7 e];rw [if_neg (fun hh => e hh.1.symm)]
    · rename_i hk
      have hk' := Nat.ne_of_beq_eq_false hk
      split at h
      · cases h
      · rename_i r' hr
        injection h with h; subst h
        intro f i
        by_cases e : k = f
        · subst e;simp only [hget,hfam,Nat.beq_refl,Option.bind_some];rw [if_neg (fun hh => hk' hh.1)]
        · have := ih hr f i;simp only [hget,hfam,Za7 e] at this ⊢;exact this
theorem hnew?_spec {hp hp' : List (Nat × List AObj)} {f0 : Nat} {o : AObj} (h : hnew? hp f0 o = some hp') : (∀ f i,hget hp' f i = if f = f0 ∧ i = 0 then some o else hget hp f i) ∧ ∀ i,hget hp f0 i = none := by
  unfold hnew? at h
  split at h
  · rename_i hf
    split at h
    · rename_i ho
      injection h with h; subst h
      refine ⟨fun f i => ?_,fun i => by simp [hget,hf]⟩
      by_cases e : f0 = f
      · subst e;simp only [hget,hfam,Nat.beq_refl,Option.bind_some,true_and,hf,Option.bind_none,gl_one ho]
        cases i <;> simp
      · simp only [hget,hfam,Za7 e];rw [if_neg (fun hh => e hh.1.symm)]
    · cases h
  · cases h
theorem SR.new {F : Fr} {s : AS} {ρ : Nat → Nat → Value} {act : Act} {w : World} (h : SR F s ρ act w) (f0 : Nat) (o' : AObj) (v' : Value) (ob : Obj) {env' : List (Nat × AV)} {hp1 hp' : List (Nat × List AObj)}
    (hE : killE? f0 s.env = some env') (hH : killH? f0 s.hp = some hp1) (hnew : hnew? hp1 f0 o' = some hp') (hv : blkOf v' = some w.heap.size)
    (hsim : (∀ A v,(∀ i, ¬ A.Refs f0 i) → RepA w (F.O ρ s.hp) ρ A v → RepA (w.alloc ob) (F.O (upd ρ f0 0 v') hp') (upd ρ f0 0 v') A v) → SimObj (w.alloc ob) (F.O (upd ρ f0 0 v') hp') (upd ρ f0 0 v') o' v') :
    SR F ⟨s.n,env',hp'⟩ (upd ρ f0 0 v') act (w.alloc ob) := by
  obtain ⟨h1,h2⟩ := hnew?_spec hnew;refine h.set f0 0 o' v' hE hH h1 (fun t cs hh => ?_) (fun b hb => .inr ?_) rfl rfl rfl (by simp) (fun b hlt _ => Below.heap_alloc w ob b hlt) hsim
  · obtain ⟨_,k2⟩ := killH?_spec hH;obtain ⟨o,ho,_⟩ := k2 _ _ _ hh;rw [h2] at ho; cases ho
  rw [hv] at hb; injection hb with hb
  simp; omega
def mapD? : List D → Option (List AV)
  | [] => some []
  | c :: r => match mapD? r with
    | none => none
    | some l => some (.d c :: l)
def AV.cells? : AV → Option (List AV)
  | .agg cs => some cs
  | .d (.agg cs) => mapD? cs
  | .d (.tup _) => none
  | .top => none
  | .tup _ => none
  | a => some [a]
theorem mapD?_spec {cs : List D} {l : List AV} (h : mapD? cs = some l) : l = cs.map .d := by
  induction cs generalizing l with
  | nil => simp only [mapD?,Option.some.injEq] at h; subst h; rfl
  | cons c r ih =>
    simp only [mapD?] at h
    split at h
    · cases h
    · rename_i l' hl
      injection h with h; subst h
      rw [ih hl]; rfl
theorem RepA.cells {w : World} {O : Nat → Prop} {ρ : Nat → Nat → Value} {a : AV} {v : Value} {l : List AV} (hl : a.cells? = some l) (h : RepA w O ρ a v) :
    v.cells.toList.length = l.length ∧ ∀ (j : Nat) c u,l[j]? = some c → v.cells.toList[j]? = some u → RepA w O ρ c u ∧ u.oneCell' = true := by
  have one : ∀ {v : Value} {a : AV},v.oneCell' = true → RepA w O ρ a v → v.cells.toList.length = [a].length ∧ ∀ (j : Nat) c u,[a][j]? = some c → v.cells.toList[j]? = some u → RepA w O ρ c u ∧ u.oneCell' = true := fun {v a} h1 h => by
    have hc : v.cells.toList = [v] := by cases v <;> first | rfl | cases h1
    rw [hc];refine ⟨rfl,fun j c u hc hu => ?_⟩
    cases j with
    | zero => simp at hc hu; subst hc hu; exact ⟨h,h1⟩
    | succ j => simp at hc
  cases a with
  | agg cs =>
    simp only [AV.cells?,Option.some.injEq] at hl; subst hl
    cases h with
    | agg h1 h2 h3 => exact ⟨by simpa [Value.cells] using h1,fun j c u hc hu => ⟨h3 j c u hc (by simpa [Value.cells] using hu),h2 u (List.mem_of_getElem? (by simpa [Value.cells] using hu))⟩⟩
  | d x =>
    cases x with
    | agg cs =>
      simp only [AV.cells?] at hl;have := mapD?_spec hl;subst this
      cases h with
      | d h =>
        cases h with
        | agg h1 h2 h3 =>
          refine ⟨by simpa [Value.cells] using h1,fun j c u hc hu => ?_⟩;rw [List.getElem?_map] at hc
          cases hcs : cs[j]? with
          | none => rw [hcs] at hc; cases hc
          | some x =>
            rw [hcs] at hc; injection hc with hc; subst hc
            have hr := h3 j x u hcs (by simpa [Value.cells] using hu);exact ⟨.d hr,hr.oneCell (h2 x (List.mem_of_getElem? hcs))⟩
    | tup _ => simp [AV.cells?] at hl
    | raw u =>
      simp only [AV.cells?,Option.some.injEq] at hl; subst hl;have h' := h
      cases h with | d h => exact one (h.oneCell rfl) h'
    | sl _ _ =>
      simp only [AV.cells?,Option.some.injEq] at hl; subst hl;have h' := h
      cases h with | d h => exact one (h.oneCell rfl) h'
    | ptr _ =>
      simp only [AV.cells?,Option.some.injEq] at hl; subst hl;have h' := h
      cases h with | d h => exact one (h.oneCell rfl) h'
    | fn _ _ _ =>
      simp only [AV.cells?,Option.some.injEq] at hl; subst hl;have h' := h
      cases h with | d h => exact one (h.oneCell rfl) h'
  | top => simp [AV.cells?] at hl
  | tup _ => simp [AV.cells?] at hl
  | ptr f i off => simp only [AV.cells?,Option.some.injEq] at hl; subst hl; have h' := h; cases h; exact one rfl h'
  | own f i n => simp only [AV.cells?,Option.some.injEq] at hl; subst hl; have h' := h; cases h; exact one rfl h'
  | rptr f i k e off => simp only [AV.cells?,Option.some.injEq] at hl; subst hl; have h' := h; cases h; exact one rfl h'
  | map f i => simp only [AV.cells?,Option.some.injEq] at hl; subst hl; have h' := h; cases h; exact one rfl h'
  | fn g caps => simp only [AV.cells?,Option.some.injEq] at hl; subst hl; have h' := h; cases h; exact one rfl h'
def constL? : List Value → Option (List AV)
  | [] => some []
  | v :: r => match constL? r with
    | none => none
    | some l => match constAV? v with
      | none => none
      | some a => some (a :: l)
theorem constL?_spec {vs : List Value} {l : List AV} (h : constL? vs = some l) (w : World) (O : Nat → Prop) (ρ : Nat → Nat → Value) : vs.length = l.length ∧ ∀ (j : Nat) c u,l[j]? = some c → vs[j]? = some u → RepA w O ρ c u ∧ u.oneCell' = true := by
  induction vs generalizing l with
  | nil => simp only [constL?,Option.some.injEq] at h; subst h; simp
  | cons v r ih =>
    simp only [constL?] at h
    split at h
    · cases h
    · rename_i l' hl
      split at h
      · cases h
      · rename_i a ha
        injection h with h; subst h
        obtain ⟨h1,h2⟩ := ih hl;refine ⟨by simp [h1],fun j c u hc hu => ?_⟩
        cases j with
        | zero => simp at hc hu; subst hc hu; exact rep_const ha
        | succ j => exact h2 j c u (by simpa using hc) (by simpa using hu)
def zeroL? (P : Program) (T : TypeId) : Option (List AV) := match P.info? T with
  | none => none
  | some i => match i.zero with
    | none => none
    | some z => constL? z.cells.toList
theorem zeroL?_spec {P : Program} {T : TypeId} {l : List AV} (h : zeroL? P T = some l) : ∃ (i : TypeInfo) (z : Value),P.info? T = some i ∧ i.zero = some z ∧ constL? z.cells.toList = some l := by
  unfold zeroL? at h
  split at h
  · cases h
  · rename_i i hi
    split at h
    · cases h
    · rename_i z hz
      exact ⟨i,z,hi,hz,h⟩
theorem simBlk {w : World} {O : Nat → Prop} {ρ : Nat → Nat → Value} {T : TypeId} {cs : List AV} {us : List Value} {b : Nat} (hh : w.heap[b]? = some (.cells us.toArray T (0,0))) (hl : us.length = cs.length)
    (hr : ∀ (j : Nat) c u,cs[j]? = some c → us[j]? = some u → RepA w O ρ c u ∧ u.oneCell' = true) : SimObj w O ρ (.blk T cs) (.pointer (some ⟨b,0,none⟩)) :=
  ⟨b,us,rfl,hh,hl,fun j c u hc hu => (hr j c u hc hu).1,fun u hu => by
    obtain ⟨j,hj,rfl⟩ := List.getElem_of_mem hu
    exact (hr j _ _ (List.getElem?_eq_getElem (by omega)) (List.getElem?_eq_getElem hj)).2⟩
section
variable {P : Program} {F : Fr} {s : AS} {d : Nat} {ty T E : TypeId} {pos : String} {aft : Array Edge} {g : Option (Nat × Bool)} {x y : Operand} {k : IntKind} {i : Int}
theorem ZaQ (f : Nat) {env' : List (Nat × AV)} {hp1 hp' : List (Nat × List AObj)} {cs : List AV} (hz : zeroL? P T = some cs) (hE : killE? f s.env = some env') (hH : killH? f s.hp = some hp1) (hn : hnew? hp1 f (.blk T cs) = some hp') (hd : Nat.blt d s.n = true) :
    Zaj P F ⟨some d, .alloc T,ty,pos,aft,g⟩ s ⟨s.n,(d, .ptr f 0 0) :: env',hp'⟩ (notFam f) := fun ρ act w hs => by
  obtain ⟨ti,z,h1,h2,h3⟩ := zeroL?_spec hz
  have hrun : (execOp act.eval ⟨some d, .alloc T,ty,pos,aft,g⟩).run P w = .ok (.value (.pointer (some ⟨w.heap.size,0,none⟩))) (w.alloc (.cells z.cells T)) := by
    simp [execOp,Instr.alloc,zeroValue,typeInfo,h1,h2,newVar,newRow]
  unfold Oper.wp;rw [hrun]
  have hsr := hs.new f (.blk T cs) (.pointer (some ⟨w.heap.size,0,none⟩)) (.cells z.cells T) hE hH hn rfl (fun hrep => by
    obtain ⟨h4,_⟩ := constL?_spec h3 w (F.O ρ s.hp) ρ;refine simBlk (us := z.cells.toList) (by simpa using heap_alloc_new w (.cells z.cells T)) h4 fun j c u hc hu => ?_
    exact (constL?_spec h3 _ _ _).2 j c u hc hu)
  exact ⟨_,hsr.put (Zbb hd) (.ptr Zbx),fun f i h => Zbk fun e => Zbu h e.1⟩
theorem ZaS (f : Nat) {A : AV} {env' : List (Nat × AV)} {hp1 hp' : List (Nat × List AObj)} {cs : List AV} (hx : s.ev x = some A) (hc : A.cells? = some cs) (hA : norefL f cs = true) (hE : killE? f s.env = some env') (hH : killH? f s.hp = some hp1) (hn : hnew? hp1 f (.blk T cs) = some hp') (hd : Nat.blt d s.n = true) :
    Zaj P F ⟨some d, .box T x,ty,pos,aft,g⟩ s ⟨s.n,(d, .ptr f 0 0) :: env',hp'⟩ (notFam f) := fun ρ act w hs => by
  have hrun : (execOp act.eval ⟨some d, .box T x,ty,pos,aft,g⟩).run P w = .ok (.value (.pointer (some ⟨w.heap.size,0,none⟩))) (w.alloc (.cells (act.eval x).cells T)) := by
    simp [execOp,Instr.box,newVar,newRow]
  unfold Oper.wp;rw [hrun];obtain ⟨h4,h5⟩ := (hs.ev hx).cells hc
  have hsr := hs.new f (.blk T cs) (.pointer (some ⟨w.heap.size,0,none⟩)) (.cells (act.eval x).cells T) hE hH hn rfl (fun hrep => by
    refine simBlk (us := (act.eval x).cells.toList) (by simpa using heap_alloc_new w (.cells (act.eval x).cells T)) h4 fun j c u hc hu => ?_;obtain ⟨h6,h7⟩ := h5 j c u hc hu
    exact ⟨hrep c u (norefL_spec hA (List.mem_of_getElem? hc)) h6,h7⟩)
  exact ⟨_,hsr.put (Zbb hd) (.ptr Zbx),fun f i h => Zbk fun e => Zbu h e.1⟩
end
def setL {α : Type} (cs : List α) (off : Nat) : List α → List α
  | [] => cs
  | v :: r => setL (cs.set off v) (off + 1) r
theorem setL_length {α : Type} : ∀ (l cs : List α) (off : Nat),(setL cs off l).length = cs.length
  | [],_,_ => rfl
  | v :: r,cs,off => by rw [setL,setL_length r]; simp
theorem setL_get {α : Type} : ∀ (l cs : List α) (off : Nat),off + l.length ≤ cs.length → ∀ j : Nat,(setL cs off l)[j]? = if off ≤ j ∧ j < off + l.length then l[j - off]? else cs[j]?
  | [],cs,off,_,j => by rw [setL,if_neg (by simp only [List.length_nil,Nat.add_zero]; omega)]
  | v :: r,cs,off,h,j => by
    simp only [List.length_cons] at h ⊢;rw [setL,setL_get r _ _ (by simp; omega)]
    by_cases e : j = off
    · subst e;rw [if_neg (by omega),if_pos (by omega),Nat.sub_self,List.getElem?_set_self (by omega)]; rfl
    · by_cases h1 : off + 1 ≤ j ∧ j < off + 1 + r.length
      · rw [if_pos h1,if_pos (by omega)];have : j - off = (j - (off + 1)) + 1 := by omega
        rw [this]; rfl
      · rw [if_neg h1,if_neg (by omega),List.getElem?_set_ne (by omega)]
theorem heap_setCell_block {w : World} {b o : Nat} {us : List Value} {t : TypeId} {fr : Nat × Nat} {v : Value} (h : w.heap[b]? = some (.cells us.toArray t fr)) : (w.setCell ⟨b,o,none⟩ v).heap[b]? = some (.cells (us.set o v).toArray t fr) := by
  simp [World.setCell,Array.getElem?_modify,h]
theorem Zch {b : Nat} {t : TypeId} {fr : Nat × Nat} : ∀ (vs us : List Value) (o : Nat) (w : World),w.heap[b]? = some (.cells us.toArray t fr) → (w.setCells b o vs).heap[b]? = some (.cells (setL us o vs).toArray t fr)
  | [],_,_,_,h => h
  | v :: r,us,o,w,h => by
    rw [World.setCells,setL];exact Zch r _ _ _ (heap_setCell_block h)
theorem Zcg {b : Nat} : ∀ (vs : List Value) (o : Nat) (w : World) (k : Nat),k ≠ b → (w.setCells b o vs).heap[k]? = w.heap[k]?
  | [],_,_,_,_ => rfl
  | v :: r,o,w,k,h => by rw [World.setCells,Zcg r _ _ k h,Below.heap_setCell _ _ _ _ h]
theorem setCells_same {b : Nat} : ∀ (vs : List Value) (o : Nat) (w : World),(w.setCells b o vs).os = w.os ∧ (w.setCells b o vs).tape = w.tape ∧ (w.setCells b o vs).output = w.output ∧ (w.setCells b o vs).heap.size = w.heap.size
  | [],_,_ => ⟨rfl,rfl,rfl,rfl⟩
  | v :: r,o,w => by
    obtain ⟨h1,h2,h3,h4⟩ := setCells_same r (o + 1) (w.setCell ⟨b,o,none⟩ v);rw [World.setCells];exact ⟨h1,h2,h3,by rw [h4]; simp⟩
theorem run_store_own {P : Program} {T : TypeId} {w : World} {b o : Nat} {us : List Value} {t : TypeId} {v : Value} (h : w.heap[b]? = some (.cells us.toArray t (0,0))) (hT : (P.info? T).map (·.size) = some v.cells.toList.length) (ho : o + v.cells.toList.length ≤ us.length)
    (h1 : ∀ u ∈ v.cells.toList,u.oneCell' = true) : (Instr.storeAt T (.pointer (some ⟨b,o,none⟩)) v).run P w = .ok () (w.setCells b o v.cells.toList) := by
  have ht : w.there b o v.cells.size := fun j hj => by
    have hj' : o + j < us.length := by simp at ho; omega
    refine ⟨?_,by simp [World.frozen?,h]⟩;rw [cell_of_row w b (o + j) us.toArray t (0,0) h]
    simp [hj']
  have h2 := run_storeVar_mid (P := P) w b o T v.cells ht (by simpa using hT) (all_oneCell_toArray (cs := v.cells.toList) h1);have h3 : (storeVar T ⟨b,o,none⟩ v).run P w = (storeVar T ⟨b,o,none⟩ (.agg v.cells)).run P w := rfl;simp only [Instr.storeAt,Instr.sureAddr,Sem.run_bind,Sem.run_pure,Result.andThen_ok,h3,h2]
def setL? : List AV → Nat → List AV → Option (List AV)
  | cs,0,[] => some cs
  | [],0,_ :: _ => none
  | _ :: cs,0,v :: r => match setL? cs 0 r with
    | none => none
    | some cs' => some (v :: cs')
  | [],_ + 1,_ => none
  | c :: cs,o + 1,l => match setL? cs o l with
    | none => none
    | some cs' => some (c :: cs')
theorem setL?_spec : ∀ (cs : List AV) (o : Nat) (l cs' : List AV),setL? cs o l = some cs' → o + l.length ≤ cs.length ∧ cs'.length = cs.length ∧ ∀ j : Nat,cs'[j]? = if o ≤ j ∧ j < o + l.length then l[j - o]? else cs[j]?
  | cs,0,[],cs',h => by
    simp only [setL?,Option.some.injEq] at h; subst h;exact ⟨by simp,rfl,fun j => by rw [if_neg (by simp)]⟩
  | [],0,_ :: _,_,h => by simp [setL?] at h
  | c :: cs,0,v :: r,cs',h => by
    simp only [setL?] at h
    split at h
    · cases h
    · rename_i cs1 h1
      injection h with h; subst h
      obtain ⟨h2,h3,h4⟩ := setL?_spec cs 0 r cs1 h1;refine ⟨by simp at h2 ⊢; omega,by simp [h3],fun j => ?_⟩
      cases j with
      | zero => simp
      | succ j =>
        have := h4 j;simp only [List.getElem?_cons_succ,this,Nat.zero_le,true_and,Nat.zero_add,Nat.sub_zero,List.length_cons,Nat.add_lt_add_iff_right]
  | [],_ + 1,_,_,h => by simp [setL?] at h
  | c :: cs,o + 1,l,cs',h => by
    simp only [setL?] at h
    split at h
    · cases h
    · rename_i cs1 h1
      injection h with h; subst h
      obtain ⟨h2,h3,h4⟩ := setL?_spec cs o l cs1 h1;refine ⟨by simp; omega,by simp [h3],fun j => ?_⟩
      cases j with
      | zero => simp
      | succ j =>
        have := h4 j;simp only [List.getElem?_cons_succ,this]
        by_cases e : o ≤ j ∧ j < o + l.length
        · rw [if_pos e,if_pos (by omega)]; congr 1; omega
        · rw [if_neg e,if_neg (by omega)]
def takeL? : List AV → Nat → Nat → Option (List AV)
  | _,0,0 => some []
  | [],0,_ + 1 => none
  | c :: cs,0,n + 1 => match takeL? cs 0 n with
    | none => none
    | some l => some (c :: l)
  | [],_ + 1,_ => none
  | _ :: cs,o + 1,n => takeL? cs o n
theorem takeL?_spec : ∀ (cs : List AV) (o n : Nat) (l : List AV),takeL? cs o n = some l → o + n ≤ cs.length ∧ l.length = n ∧ ∀ j : Nat,j < n → l[j]? = cs[o + j]?
  | cs,0,0,l,h => by simp only [takeL?,Option.some.injEq] at h; subst h; simp
  | [],0,_ + 1,_,h => by simp [takeL?] at h
  | c :: cs,0,n + 1,l,h => by
    simp only [takeL?] at h
    split at h
    · cases h
    · rename_i l1 h1
      injection h with h; subst h
      obtain ⟨h2,h3,h4⟩ := takeL?_spec cs 0 n l1 h1;refine ⟨by simp at h2 ⊢; omega,by simp [h3],fun j hj => ?_⟩
      cases j with
      | zero => simp
      | succ j => have := h4 j (by omega); simp only [Nat.zero_add] at this ⊢; simpa using this
  | [],_ + 1,_,_,h => by simp [takeL?] at h
  | c :: cs,o + 1,n,l,h => by
    simp only [takeL?] at h;obtain ⟨h2,h3,h4⟩ := takeL?_spec cs o n l h;refine ⟨by simp; omega,h3,fun j hj => ?_⟩;rw [h4 j hj,show o + 1 + j = (o + j) + 1 by omega]; rfl
def allD? : List AV → Option (List D)
  | [] => some []
  | .d x :: r => match allD? r with
    | none => none
    | some l => match x.one with
      | true => some (x :: l)
      | false => none
  | _ :: _ => none
def mkAgg? (l : List AV) : Option AV := match allD? l with
  | some ds => some (.d (.agg ds))
  | none => some (.agg l)
theorem allD?_spec {l : List AV} {ds : List D} (h : allD? l = some ds) : l = ds.map .d ∧ ∀ c ∈ ds,c.one = true := by
  induction l generalizing ds with
  | nil => simp only [allD?,Option.some.injEq] at h; subst h; simp
  | cons a r ih =>
    cases a with
    | d x =>
      simp only [allD?] at h
      split at h
      · cases h
      · rename_i l1 h1
        split at h
        · rename_i hx
          injection h with h; subst h
          obtain ⟨h2,h3⟩ := ih h1;exact ⟨by rw [h2]; rfl,fun c hc => by rcases List.mem_cons.1 hc with rfl | hc; exact hx; exact h3 c hc⟩
        · cases h
    | _ => simp [allD?] at h
theorem mkAgg?_spec {w : World} {O : Nat → Prop} {ρ : Nat → Nat → Value} {l : List AV} {A : AV} (h : mkAgg? l = some A) {us : List Value} (hl : us.length = l.length) (hr : ∀ (j : Nat) c u,l[j]? = some c → us[j]? = some u → RepA w O ρ c u ∧ u.oneCell' = true) : RepA w O ρ A (.agg us.toArray) := by
  unfold mkAgg? at h
  split at h
  · rename_i ds hds
    injection h with h; subst h
    obtain ⟨h1,h2⟩ := allD?_spec hds;subst h1;refine .d (.agg (by simpa using hl) h2 fun j c u hc hu => ?_);have := (hr j (.d c) u (by rw [List.getElem?_map,hc]; rfl) hu).1
    cases this with | d h => exact h
  · injection h with h; subst h
    exact .agg hl (fun u hu => by
      obtain ⟨j,hj,rfl⟩ := List.getElem_of_mem hu
      exact (hr j _ _ (List.getElem?_eq_getElem (by omega)) (List.getElem?_eq_getElem hj)).2) fun j c u hc hu => (hr j c u hc hu).1
theorem List.getElem?_some_of_lt {α : Type} {l : List α} {i : Nat} (h : i < l.length) : ∃ a,l[i]? = some a := ⟨_,List.getElem?_eq_getElem h⟩
section
variable {P : Program} {F : Fr} {s : AS} {d : Nat} {ty T E : TypeId} {pos : String} {aft : Array Edge} {g : Option (Nat × Bool)} {x y : Operand} {k : IntKind} {i : Int}
theorem st_storeP0 {f j off : Nat} {A : AV} {t : TypeId} {l cs cs' : List AV} {hp' : List (Nat × List AObj)} (hx : s.ev x = some (.ptr f j off)) (hy : s.ev y = some A) (hc : A.cells? = some l) (ho : hget s.hp f j = some (.blk t cs)) (hset : setL? cs off l = some cs')
    (hh : hset? s.hp f j (.blk t cs') = some hp') {kz : Nat} (hkz : l.length = kz) (hT : sizeTy P T kz = true) : Zaj P F ⟨none, .store T x y,ty,pos,aft,g⟩ s ⟨s.n,s.env,hp'⟩ (fun _ _ => true) := fun ρ act w hs => by
  subst hkz;have hrx := hs.ev hx
  generalize hvx : act.eval x = vx at hrx
  cases hrx with
  | @ptr _ _ _ b hb =>
    obtain ⟨b',us,e1,h1,h2,h3,h4⟩ := hs.heap.sim f j _ ho;rw [hb] at e1;injection e1 with e1; injection e1 with e1; injection e1 with e1; subst e1
    obtain ⟨h5,h6⟩ := (hs.ev hy).cells hc;obtain ⟨h7,h8,h9⟩ := setL?_spec _ _ _ _ hset
    have hone : ∀ u ∈ (act.eval y).cells.toList,u.oneCell' = true := fun u hu => by
      obtain ⟨j,hj,rfl⟩ := List.getElem_of_mem hu;exact (h6 j _ _ (List.getElem?_eq_getElem (by omega)) (List.getElem?_eq_getElem hj)).2
    have hrun := run_store_own (P := P) (T := T) (o := off) h1 (by rw [h5]; exact ZbN hT) (by omega) hone
    have hex : (execOp act.eval ⟨none, .store T x y,ty,pos,aft,g⟩).run P w = .ok .skip (w.setCells b off (act.eval y).cells.toList) := by
      simp [execOp,hvx,hrun]
    unfold Oper.wp;rw [hex];obtain ⟨g1,g2,g3,g4⟩ := setCells_same (b := b) (act.eval y).cells.toList off w;refine ⟨ρ,hs.write f j _ _ ho (hset?_spec hh) g1 g2 g3 g4 (fun b' hb' => Zcg _ _ _ _ (fun e => hb' (by rw [hb,e]; rfl))) (fun _ _ _ => ⟨_,_,rfl⟩) (fun hrep => ?_) (Nat.le_of_eq (setCells_drawn _ _ _ _).symm),fun _ _ _ => rfl⟩;rw [hb];refine simBlk (Zch _ _ _ _ h1) (by rw [setL_length]; omega) fun m c u hc' hu => ?_;rw [setL_get _ _ _ (by omega)] at hu;rw [h9] at hc';rw [h5] at hu
    split at hc'
    · rename_i hm
      rw [if_pos hm] at hu;obtain ⟨a1,a2⟩ := h6 _ _ _ hc' hu;exact ⟨hrep _ _ a1,a2⟩
    · rename_i hm
      rw [if_neg hm] at hu;exact ⟨hrep _ _ (h3 m c u hc' hu),h4 u (List.mem_of_getElem? hu)⟩
theorem Zah {f j off : Nat} {A : AV} {t : TypeId} {cs : List AV} (hx : s.ev x = some (.ptr f j off)) (ho : hget s.hp f j = some (.blk t cs)) (hc : cs[off]? = some A) (hT : oneTy P T = true) (hd : Nat.blt d s.n = true) :
    Zaa P F ⟨some d, .load T x,ty,pos,aft,g⟩ s d A :=
  ZaO _ hd fun ρ act w hs => by
    have hrx := hs.ev hx
    generalize hvx : act.eval x = vx at hrx
    cases hrx with
    | @ptr _ _ _ b hb =>
      obtain ⟨b',us,e1,h1,h2,h3,h4⟩ := hs.heap.sim f j _ ho;rw [hb] at e1;injection e1 with e1; injection e1 with e1; injection e1 with e1; subst e1
      have hlt : off < us.length := by rw [h2]; exact (List.getElem?_eq_some_iff.1 hc).1
      have hcell : w.cell? ⟨b,off,none⟩ = some us[off] := by
        rw [cell_of_row w b off us.toArray t (0,0) h1]; simp [hlt]
      exact ⟨us[off],by simp [execOp,hvx,Instr.loadAt,Instr.sureAddr,loadVar,oneTy_spec hT,hcell],h3 off A _ hc (List.getElem?_eq_getElem hlt)⟩
theorem Zas {f j off n : Nat} {A : AV} {t : TypeId} {cs l : List AV} (hx : s.ev x = some (.ptr f j off)) (ho : hget s.hp f j = some (.blk t cs)) (hT : rowTy P T n = true) (hl : takeL? cs off n = some l) (hA : mkAgg? l = some A) (hd : Nat.blt d s.n = true) :
    Zaa P F ⟨some d, .load T x,ty,pos,aft,g⟩ s d A :=
  ZaO _ hd fun ρ act w hs => by
    have hrx := hs.ev hx
    generalize hvx : act.eval x = vx at hrx
    cases hrx with
    | @ptr _ _ _ b hb =>
      obtain ⟨b',us,e1,h1,h2,h3,h4⟩ := hs.heap.sim f j _ ho;rw [hb] at e1;injection e1 with e1; injection e1 with e1; injection e1 with e1; subst e1
      obtain ⟨⟨ds,h5,h6⟩,h7⟩ := rowTy_spec hT;obtain ⟨h8,h9,h10⟩ := takeL?_spec _ _ _ _ hl;have hlen : ((us.drop off).take n).length = n := by rw [List.length_take,List.length_drop]; omega
      have hr := run_loadAt_mid (P := P) w b off T ((us.drop off).take n) ds (fun j v hv => by
        rw [cell_of_row w b (off + j) us.toArray t (0,0) h1];rw [List.getElem?_take] at hv
        split at hv
        · rw [List.getElem?_drop] at hv; simpa using hv
        · cases hv) h5 h6 (by rw [hlen]; exact h7)
      refine ⟨.agg ((us.drop off).take n).toArray,by simp [execOp,hvx,hr],mkAgg?_spec hA (by rw [hlen,h9]) fun m c u hc hu => ?_⟩;have hm : m < n := by rw [← h9]; exact (List.getElem?_eq_some_iff.1 hc).1
      rw [h10 m hm] at hc;rw [List.getElem?_take,if_pos hm,List.getElem?_drop] at hu;exact ⟨h3 _ c u hc hu,h4 u (List.mem_of_getElem? hu)⟩
def isRowD : TypeDesc → Bool
  | .struct _ => true
  | .array _ _ => true
  | _ => false
def fieldInfo (P : Program) (T : TypeId) (i : Nat) : Option (Nat × Nat × Bool) := match P.underlying T with
  | some (.struct fs) => match fs[i]? with
    | none => none
    | some f => match P.info? f.type with
      | none => none
      | some inf => match P.underlying f.type with
        | none => none
        | some ds => some (f.offset,inf.size,isRowD ds)
  | _ => none
theorem fieldInfo_spec {P : Program} {T : TypeId} {i o n : Nat} {r : Bool} (h : fieldInfo P T i = some (o,n,r)) : ∃ (fs : Array Field) (f : Field),P.underlying T = some (.struct fs) ∧ fs[i]? = some f ∧ f.offset = o ∧ (P.info? f.type).map (·.size) = some n ∧ ∀ w,(isAgg f.type).run P w = .ok r w := by
  unfold fieldInfo at h
  split at h
  · rename_i fs hfs
    split at h
    · cases h
    · rename_i f hf
      split at h
      · cases h
      · rename_i inf hinf
        split at h
        · cases h
        · rename_i ds hds
          simp only [Option.some.injEq,Prod.mk.injEq] at h;obtain ⟨h1,h2,h3⟩ := h;subst h1 h2 h3;refine ⟨fs,f,hfs,hf,rfl,by simp [hinf],fun w => ?_⟩;unfold isAgg;rw [Sem.run_bind,run_underlying hds w]
          cases ds <;> rfl
  · cases h
theorem run_fieldAt {P : Program} {T : TypeId} {i o n : Nat} {r : Bool} (h : fieldInfo P T i = some (o,n,r)) (hn : Nat.blt 0 n = true) {b off : Nat} {w : World} : (Instr.fieldAt T (.pointer (some ⟨b,off,none⟩)) i).run P w = .ok (.pointer (some ⟨b,off + o,none⟩)) w := by
  obtain ⟨fs,f,h1,h2,h3,h4,h5⟩ := fieldInfo_spec h;have hz := Zb7 h4 w;have hn' : ¬ n = 0 := by have := Zbb hn; omega
  simp [Instr.fieldAt,run_underlying h1,h2,Instr.sureAddr,fieldPlace,hz,hn',h3,Addr.add_mid]
theorem Zag {f j off off' o n i : Nat} {r : Bool} (hx : s.ev x = some (.ptr f j off)) (hf : fieldInfo P T i = some (o,n,r)) (hn : Nat.blt 0 n = true) (ho : off + o = off') (hd : Nat.blt d s.n = true) :
    Zaa P F ⟨some d, .fieldAddr T x i,ty,pos,aft,g⟩ s d (.ptr f j off') :=
  ZaO _ hd fun ρ act w hs => by
    have h := hs.ev hx
    generalize hv : act.eval x = v at h
    cases h with
    | ptr hb => subst ho; exact ⟨_,by simp [execOp,hv,run_fieldAt hf hn], .ptr hb⟩
theorem Za1 {f j k e off off' o n i : Nat} {r : Bool} (hx : s.ev x = some (.rptr f j k e off)) (hf : fieldInfo P T i = some (o,n,r)) (hn : Nat.blt 0 n = true) (ho : off + o = off') (hd : Nat.blt d s.n = true) :
    Zaa P F ⟨some d, .fieldAddr T x i,ty,pos,aft,g⟩ s d (.rptr f j k e off') :=
  ZaO _ hd fun ρ act w hs => by
    have h := hs.ev hx
    generalize hv : act.eval x = v at h
    cases h with
    | @rptr _ _ _ _ _ b N cap hb => subst ho; exact ⟨.pointer (some ⟨b,e * k + (off + o),none⟩),by simp [execOp,hv,run_fieldAt hf hn,Nat.add_assoc], .rptr hb⟩
theorem ZaJ {cs : List D} {o n i : Nat} {c : D} (hx : s.ev x = some (.d (.ptr (.agg cs)))) (hf : fieldInfo P T i = some (o,n,false)) (hn : Nat.blt 0 n = true) (hc : cs[o]? = some c) (hd : Nat.blt d s.n = true) :
    Zaa P F ⟨some d, .fieldAddr T x i,ty,pos,aft,g⟩ s d (.d (.ptr c)) :=
  ZaO _ hd fun ρ act w hs => by
    have h := hs.repD hx
    generalize hv : act.eval x = v at h
    cases h with
    | @ptr _ b off us hb hO h1 h2 h3 =>
      have hone : c.one = true := h1 c (List.mem_of_getElem? hc);refine ⟨.pointer (some ⟨b,off + o,none⟩),by simp [execOp,hv,run_fieldAt hf hn], .d (.ptr (fun j => us (o + j)) hb hO (fun c' hc' => ?_) (fun j c' hc' => ?_) (fun j c' hc' => ?_))⟩
      · rw [D.cells_one hone] at hc'; simp at hc'; rw [hc']; exact hone
      · rw [D.cells_one hone] at hc'
        cases j with
        | zero => simp at hc'; subst hc'; rw [Nat.add_zero]; exact h2 o c hc
        | succ j => simp at hc'
      · rw [D.cells_one hone] at hc'
        cases j with
        | zero => simp at hc'; subst hc'; exact h3 o c hc
        | succ j => simp at hc'
theorem ZaM {cs cs' : List D} {o n i : Nat} (hx : s.ev x = some (.d (.ptr (.agg cs)))) (hf : fieldInfo P T i = some (o,n,true)) (hn : Nat.blt 0 n = true) (hc : (cs.drop o).take n = cs') (hd : Nat.blt d s.n = true) :
    Zaa P F ⟨some d, .fieldAddr T x i,ty,pos,aft,g⟩ s d (.d (.ptr (.agg cs'))) :=
  ZaO _ hd fun ρ act w hs => by
    have h := hs.repD hx
    generalize hv : act.eval x = v at h
    subst hc
    have hget : ∀ (j : Nat) c,(D.agg ((cs.drop o).take n)).cells[j]? = some c → cs[o + j]? = some c := fun j c hc => by
      simp only [D.cells] at hc;rw [List.getElem?_take] at hc
      split at hc
      · rw [List.getElem?_drop] at hc; exact hc
      · cases hc
    cases h with
    | @ptr _ b off us hb hO h1 h2 h3 =>
      refine ⟨.pointer (some ⟨b,off + o,none⟩),by simp [execOp,hv,run_fieldAt hf hn], .d (.ptr (fun j => us (o + j)) hb hO (fun c' hc' => h1 c' (List.mem_of_mem_drop (List.mem_of_mem_take hc'))) (fun j c' hc' => ?_) (fun j c' hc' => ?_))⟩
      · have := h2 _ c' (hget j c' hc'); rwa [← Nat.add_assoc] at this
      · exact h3 _ c' (hget j c' hc')
theorem ZbF {f j off : Nat} (hx : s.ev x = some (.ptr f j off)) (hd : Nat.blt d s.n = true) : Zaa P F ⟨some d, .nilCheck x,ty,pos,aft,g⟩ s d (.ptr f j off) :=
  ZaO _ hd fun ρ act w hs => by
    have h := hs.ev hx
    generalize hv : act.eval x = v at h
    cases h with
    | ptr hb => exact ⟨_,by simp [execOp,hv], .ptr hb⟩
theorem Zb4 {f j k e off : Nat} (hx : s.ev x = some (.rptr f j k e off)) (hd : Nat.blt d s.n = true) : Zaa P F ⟨some d, .nilCheck x,ty,pos,aft,g⟩ s d (.rptr f j k e off) :=
  ZaO _ hd fun ρ act w hs => by
    have h := hs.ev hx
    generalize hv : act.eval x = v at h
    cases h with
    | rptr hb => exact ⟨_,by simp [execOp,hv], .rptr hb⟩
theorem ZbM {e : D} (hx : s.ev x = some (.d (.ptr e))) (hd : Nat.blt d s.n = true) : Zaa P F ⟨some d, .nilCheck x,ty,pos,aft,g⟩ s d (.d (.ptr e)) :=
  ZaO _ hd fun ρ act w hs => by
    have h := hs.repD hx
    generalize hv : act.eval x = v at h
    have h' := h
    cases h with
    | ptr _ _ _ _ _ _ => exact ⟨_,by simp [execOp,hv], .d h'⟩
end
section
variable {P : Program} {F : Fr} {d : Nat} {ty T T' : TypeId} {pos : String} {aft : Array Edge} {g : Option (Nat × Bool)} {x y : Operand}
theorem Zaz {n : Nat} {env : List (Nat × AV)} {hp : List (Nat × List AObj)} {f j off : Nat} {A : AV} {t : TypeId} {l cs cs' : List AV} {hp' : List (Nat × List AObj)} (hx : AS.ev ⟨n,env,hp⟩ x = some (.ptr f j off)) (hy : AS.ev ⟨n,env,hp⟩ y = some A) (hc : A.cells? = some l) (ho : hget hp f j = some (.blk t cs)) (hset : setL? cs off l = some cs')
    (hh : hset? hp f j (.blk t cs') = some hp') {kz : Nat} (hkz : l.length = kz) (hT : sizeTy P T kz = true) : Zaj P F ⟨none, .store T x y,ty,pos,aft,g⟩ ⟨n,env,hp⟩ ⟨n,env,hp'⟩ (fun _ _ => true) := st_storeP0 hx hy hc ho hset hh hkz hT
end
theorem ownsRow_form {w : World} {base : Nat} {e : TypeId} {size n : Nat} {v : Value} {us : List Value} (h : w.ownsRow base e size v n us) : ∃ a cap,v = .slice a n cap ∧ n ≤ cap ∧ cap ≤ maxLen ∧ (a = none → cap = 0) ∧
    (0 < n → ∃ b cur,a = some ⟨b,0,none⟩ ∧ w.heap[b]? = some (.cells cur e (0,0)) ∧ cur.size = cap * size ∧ cur.toList.take (n * size) = us) := by
  rcases h.2 with ⟨rfl,rfl⟩ | ⟨g,cap,cur,rfl,_,h2,h3,h4,h5,h6⟩
  · exact ⟨none,0,rfl,Nat.le_refl _,by unfold maxLen; omega,fun _ => rfl,fun h0 => absurd h0 (by omega)⟩
  · exact ⟨_,cap,rfl,h3,h4,(fun h0 => by cases h0),fun _ => ⟨g,cur,rfl,h2,h5,h6⟩⟩
theorem ownsRow_take {w : World} {base : Nat} {e : TypeId} {size n m : Nat} {a : Option Addr} {N cap : Nat} {us : List Value} (h : w.ownsRow base e size (.slice a N cap) n us) (hm : m ≤ n) : w.ownsRow base e size (.slice a m cap) m (us.take (m * size)) := by
  have hle : m * size ≤ n * size := Nat.mul_le_mul_right _ hm;refine ⟨by rw [List.length_take,h.1]; omega, ?_⟩;rcases h.2 with ⟨e1,rfl⟩ | ⟨g,cap',cur,e1,h1,h2,h3,h4,h5,h6⟩
  · injection e1 with e1 e2 e3
    subst e1 e2 e3;have : m = 0 := by omega
    subst this;exact .inl ⟨rfl,rfl⟩
  · injection e1 with e1 e2 e3
    subst e1 e2 e3;exact .inr ⟨g,cap,cur,rfl,h1,h2,by omega,h4,h5,by rw [← h6,List.take_take]; congr 1; omega⟩
theorem SR.rowD {F : Fr} {s : AS} {ρ : Nat → Nat → Value} {act : Act} {w : World} (h : SR F s ρ act w) {f j : Nat} {t : TypeId} {k : Nat} {xs : List D} (ho : hget s.hp f j = some (.rowD t k xs)) :
    ∃ (us : List Value) (a : Option Addr) (cap : Nat),ρ f j = .slice a xs.length cap ∧ w.ownsRow 0 t k (.slice a xs.length cap) xs.length us ∧ Lies D.cells k (RepD w (F.O ρ s.hp)) xs us ∧ (∀ x ∈ xs, ∀ c ∈ x.cells,c.one = true) ∧
      (xs.length ≤ cap ∧ cap ≤ maxLen ∧ (a = none → cap = 0)) ∧ (0 < xs.length → ∃ b,a = some ⟨b,0,none⟩ ∧ ∃ cur,w.heap[b]? = some (.cells cur t (0,0)) ∧ cur.size = cap * k ∧ cur.toList.take (xs.length * k) = us) := by
  obtain ⟨us,h1,h2,h3⟩ := h.heap.sim f j _ ho;obtain ⟨a,cap,e,h4,h5,h6,h7⟩ := ownsRow_form h1;rw [e] at h1;refine ⟨us,a,cap,e,h1,h2,h3,⟨h4,h5,h6⟩,fun h0 => ?_⟩;obtain ⟨b,cur,h8,h9⟩ := h7 h0;exact ⟨b,h8,cur,h9⟩
theorem row_cell {w : World} {b : Nat} {cur : Array Value} {t : TypeId} {us : List Value} {m j : Nat} {u : Value} (h : w.heap[b]? = some (.cells cur t (0,0))) (hu : cur.toList.take m = us) (hj : us[j]? = some u) : w.cell? ⟨b,j,none⟩ = some u := by
  rw [cell_of_row w b j cur t (0,0) h];rw [← hu,List.getElem?_take] at hj
  split at hj
  · simpa using hj
  · cases hj
theorem RepD.lies {w : World} {O : Nat → Prop} {nil : Option Bool} {ys : List D} {a : Option Addr} {m cap k : Nat} (h : RepD w O (.sl nil ys) (.slice a m cap)) (hk : ∀ y ∈ ys,y.cells.length = k) :
    ∃ news : List Value,Reads w w.heap.size k a m news ∧ Lies D.cells k (RepD w O) ys news ∧ (∀ y ∈ ys, ∀ c ∈ y.cells,c.one = true) ∧ m = ys.length := by
  cases h with
  | sl k' hn hz hln hc hm hk' ha hp =>
    subst hln;rcases Nat.eq_zero_or_pos ys.length with h0 | h0
    · have : ys = [] := List.eq_nil_of_length_eq_zero h0;subst this;exact ⟨[],⟨by simp,fun h => absurd h (by simp)⟩,⟨by simp,by simp,fun i x hx => by simp at hx⟩,by simp,rfl⟩
    · obtain ⟨b,o,rfl⟩ := ha (by intro e; subst e; simp at h0)
      have hcell : ∀ (i : Nat) x,ys[i]? = some x → b < w.heap.size ∧ (∀ c ∈ x.cells,c.one = true) ∧ ∀ (j : Nat) c,x.cells[j]? = some c → ∃ u,w.cell? ⟨b,o + (i * k + j),none⟩ = some u ∧ RepD w O c u := fun i x hx => by
        have hkk : k' = k := by rw [← hk' x (List.mem_of_getElem? hx),hk x (List.mem_of_getElem? hx)]
        subst hkk;have := hp b o rfl i x hx
        cases this with
        | ptr us hb hO h1 hc hu => exact ⟨hb,h1,fun j c hj => ⟨us j,by rw [← Nat.add_assoc]; exact hc j c hj,hu j c hj⟩⟩
      refine ⟨(List.range (ys.length * k)).map fun j => (w.cell? ⟨b,o + j,none⟩).getD undef,⟨by simp,fun _ => ⟨_,rfl, ?_,fun j u hu => ?_⟩⟩,⟨by simp,hk,fun i x hx j c hj => ?_⟩,fun y hy c hc => ?_,rfl⟩
      · obtain ⟨x,hx⟩ := List.getElem?_some_of_lt h0;exact (hcell 0 x hx).1
      · rw [List.getElem?_map] at hu
        have hlt : j < ys.length * k := by
          rcases Nat.lt_or_ge j (ys.length * k) with h | h
          · exact h
          · rw [List.getElem?_eq_none (by simpa using h)] at hu; cases hu
        rw [List.getElem?_range hlt] at hu;simp only [Option.map_some,Option.some.injEq] at hu
        have hk0 : 0 < k := by
          rcases Nat.eq_zero_or_pos k with h | h
          · subst h; simp at hlt
          · exact h
        have hi : j / k < ys.length := (Nat.div_lt_iff_lt_mul hk0).2 hlt;have hmod : j % k < k := Nat.mod_lt _ hk0;obtain ⟨x,hx⟩ := List.getElem?_some_of_lt hi;have hlen := hk x (List.mem_of_getElem? hx);obtain ⟨c,hc'⟩ := List.getElem?_some_of_lt (l := x.cells) (i := j % k) (by omega);obtain ⟨u',h1,_⟩ := (hcell _ x hx).2.2 _ c hc';have hj : j / k * k + j % k = j := by rw [Nat.mul_comm]; exact Nat.div_add_mod j k
        rw [hj] at h1;rw [Addr.add_mid,h1];rw [h1] at hu
        simpa using hu
      · obtain ⟨u,h1,h2⟩ := (hcell i x hx).2.2 j c hj;have hlen := hk x (List.mem_of_getElem? hx);have hjk : j < k := by rw [← hlen]; exact (List.getElem?_eq_some_iff.1 hj).1
        have hil : i < ys.length := (List.getElem?_eq_some_iff.1 hx).1
        have hlt : i * k + j < ys.length * k := by
          have : (i + 1) * k ≤ ys.length * k := Nat.mul_le_mul_right _ hil;rw [Nat.add_mul] at this; omega
        refine ⟨u,by rw [List.getElem?_map,List.getElem?_range hlt]; simp [h1],h2.oneCell ((hcell i x hx).2.1 c (List.mem_of_getElem? hj)),h2⟩
      · obtain ⟨i,hi,rfl⟩ := List.getElem_of_mem hy;exact (hcell i _ (List.getElem?_eq_getElem hi)).2.1 c hc
theorem Lies.append {α : Type} {cells : α → List α} {k : Nat} {R : α → Value → Prop} {xs ys : List α} {us vs : List Value} (h : Lies cells k R xs us) (h' : Lies cells k R ys vs) : Lies cells k R (xs ++ ys) (us ++ vs) := by
  refine ⟨by rw [List.length_append,List.length_append,h.1,h'.1,Nat.add_mul],fun x hx => ?_,fun i x hx j c hc => ?_⟩
  · rcases List.mem_append.1 hx with hx | hx
    · exact h.2.1 x hx
    · exact h'.2.1 x hx
  · have hlen : (cells x).length = k := by
      have := List.mem_of_getElem? hx;rcases List.mem_append.1 this with hx | hx
      · exact h.2.1 x hx
      · exact h'.2.1 x hx
    have hjk : j < k := by rw [← hlen]; exact (List.getElem?_eq_some_iff.1 hc).1
    rw [List.getElem?_append] at hx
    split at hx
    · rename_i hi
      obtain ⟨u,h1,h2⟩ := h.2.2 i x hx j c hc;refine ⟨u, ?_,h2⟩;rw [List.getElem?_append_left (by exact (List.getElem?_eq_some_iff.1 h1).1)]; exact h1
    · rename_i hi
      obtain ⟨u,h1,h2⟩ := h'.2.2 _ x hx j c hc;refine ⟨u, ?_,h2⟩;have hge : xs.length * k ≤ i * k := Nat.mul_le_mul_right _ (by omega);rw [List.getElem?_append_right (by rw [h.1]; omega),h.1];have : i * k + j - xs.length * k = (i - xs.length) * k + j := by rw [Nat.sub_mul]; omega
      rw [this]; exact h1
theorem Lies.take {α : Type} {cells : α → List α} {k : Nat} {R : α → Value → Prop} {xs : List α} {us : List Value} (h : Lies cells k R xs us) (n : Nat) (hn : n ≤ xs.length) : Lies cells k R (xs.take n) (us.take (n * k)) := by
  have hle : n * k ≤ xs.length * k := Nat.mul_le_mul_right _ hn;refine ⟨by rw [List.length_take,List.length_take,h.1]; rw [Nat.min_eq_left hle,Nat.min_eq_left hn],fun x hx => h.2.1 x (List.mem_of_mem_take hx),fun i x hx j c hc => ?_⟩;have hlen : (cells x).length = k := h.2.1 x (List.mem_of_mem_take (List.mem_of_getElem? hx));have hjk : j < k := by rw [← hlen]; exact (List.getElem?_eq_some_iff.1 hc).1
  rw [List.getElem?_take] at hx
  split at hx
  · rename_i hi
    obtain ⟨u,h1,h2⟩ := h.2.2 i x hx j c hc;refine ⟨u, ?_,h2⟩;have : (i + 1) * k ≤ n * k := Nat.mul_le_mul_right _ hi;rw [Nat.add_mul] at this;rw [List.getElem?_take,if_pos (by omega)]; exact h1
  · cases hx
section
variable {P : Program} {F : Fr} {s : AS} {d : Nat} {ty T E : TypeId} {pos : String} {aft : Array Edge} {g : Option (Nat × Bool)} {x y : Operand} {k : IntKind} {i : Int}
theorem ZbA {f j n kk : Nat} {t : TypeId} {xs : List D} (m : Nat) (hx : s.ev x = some (.own f j n)) (hy : s.ev y = some (.d (.raw (.int k i)))) (hi : i = (m : Int)) (hm : m < n) (ho : hget s.hp f j = some (.rowD t kk xs)) (hT : P.underlying T = some (.slice E)) (hE : sizeTy P E kk = true) (hd : Nat.blt d s.n = true) :
    Zaa P F ⟨some d, .indexAddr T x y,ty,pos,aft,g⟩ s d (.rptr f j kk m 0) :=
  ZaO _ hd fun ρ act w hs => by
    have h := hs.ev hx
    generalize hv : act.eval x = u at h
    obtain ⟨us,a,cap,e1,h1,h2,h3,h4,h5⟩ := hs.rowD ho;subst hi
    cases h with
    | own hρ hn =>
      rw [e1] at hρ;injection hρ with e2 e3 e4
      subst e2 e3 e4;obtain ⟨b,rfl,_⟩ := h5 (by omega);exact ⟨.pointer (some ⟨b,m * kk + 0,none⟩),by simp [execOp,Instr.indexAt,asIntOf,hs.raw hy,hv,run_underlying hT,hm,Zb7 (ZbN hE),Addr.add_mid], .rptr e1⟩
theorem Zbl {f j kk e off : Nat} {t : TypeId} {xs : List D} {z c : D} (hx : s.ev x = some (.rptr f j kk e off)) (ho : hget s.hp f j = some (.rowD t kk xs)) (hz : xs[e]? = some z) (hc : z.cells[off]? = some c) (hT : oneTy P T = true) (hd : Nat.blt d s.n = true) :
    Zaa P F ⟨some d, .load T x,ty,pos,aft,g⟩ s d (.d c) :=
  ZaO _ hd fun ρ act w hs => by
    have h := hs.ev hx
    generalize hv : act.eval x = u at h
    obtain ⟨us,a,cap,e1,h1,h2,h3,h4,h5⟩ := hs.rowD ho
    cases h with
    | @rptr _ _ _ _ _ b N cap' hρ =>
      rw [e1] at hρ;injection hρ with e2 e3 e4
      subst e2 e3 e4;have hlt : e < xs.length := (List.getElem?_eq_some_iff.1 hz).1;obtain ⟨b',e5,cur,h6,h7,h8⟩ := h5 (by omega);injection e5 with e5; injection e5 with e5; subst e5
      obtain ⟨u,h9,h10,h11⟩ := h2.2.2 e z hz off c hc;have hcell := row_cell h6 h8 h9;exact ⟨u,by simp [execOp,hv,Instr.loadAt,Instr.sureAddr,loadVar,oneTy_spec hT,hcell], .d h11⟩
theorem Zba {f j kk e : Nat} {t : TypeId} {xs : List D} {cs : List D} (hx : s.ev x = some (.rptr f j kk e 0)) (ho : hget s.hp f j = some (.rowD t kk xs)) (hz : xs[e]? = some (.agg cs)) {kz : Nat} (hkz : cs.length = kz) (hT : rowTy P T kz = true) (hd : Nat.blt d s.n = true) :
    Zaa P F ⟨some d, .load T x,ty,pos,aft,g⟩ s d (.d (.agg cs)) :=
  ZaO _ hd fun ρ act w hs => by
    subst hkz;have h := hs.ev hx
    generalize hv : act.eval x = u at h
    obtain ⟨us,a,cap,e1,h1,h2,h3,h4,h5⟩ := hs.rowD ho
    cases h with
    | @rptr _ _ _ _ _ b N cap' hρ =>
      rw [e1] at hρ;injection hρ with e2 e3 e4
      subst e2 e3 e4;have hlt : e < xs.length := (List.getElem?_eq_some_iff.1 hz).1;obtain ⟨b',e5,cur,h6,h7,h8⟩ := h5 (by omega);injection e5 with e5; injection e5 with e5; subst e5
      obtain ⟨⟨ds,g1,g2⟩,g3⟩ := rowTy_spec hT;have hk : cs.length = kk := h2.2.1 _ (List.mem_of_getElem? hz);obtain ⟨l,hl,hlj⟩ := list_of_fn (n := cs.length) fun q => (us[e * kk + q]?).getD undef
      have hq : ∀ q,q < cs.length → ∃ u,us[e * kk + q]? = some u ∧ l[q]? = some u ∧ RepD w (F.O ρ s.hp) (cs[q]?.getD (.raw undef)) u := fun q hq => by
        obtain ⟨u,a1,a2,a3⟩ := h2.2.2 e _ hz q cs[q] (List.getElem?_eq_getElem hq);refine ⟨u,a1,by rw [hlj q hq,a1]; rfl, ?_⟩;rw [List.getElem?_eq_getElem hq]; exact a3
      have hr := run_loadAt_mid (P := P) w b (e * kk) T l ds (fun q v hv => by
        have hqlt : q < cs.length := by rw [← hl]; exact (List.getElem?_eq_some_iff.1 hv).1
        obtain ⟨u,a1,a2,_⟩ := hq q hqlt;rw [a2] at hv; injection hv with hv; subst hv
        exact row_cell h6 h8 a1) g1 g2 (by rw [hl]; exact g3)
      refine ⟨.agg l.toArray,by simp [execOp,hv,hr], .d (.agg hl (h3 _ (List.mem_of_getElem? hz)) fun q c u hc hu => ?_)⟩;have hqlt : q < cs.length := (List.getElem?_eq_some_iff.1 hc).1;obtain ⟨u',a1,a2,a3⟩ := hq q hqlt;rw [a2] at hu; injection hu with hu; subst hu
      rw [hc] at a3; exact a3
theorem setL_take {α : Type} (cs : List α) (off m : Nat) (l : List α) (h : off + l.length ≤ m) (hm : m ≤ cs.length) : (setL cs off l).take m = setL (cs.take m) off l := by
  apply List.ext_getElem?
  intro j;rw [List.getElem?_take,setL_get _ _ _ (by omega),setL_get _ _ _ (by rw [List.length_take]; omega),List.getElem?_take]
  by_cases hj : j < m
  · simp [hj]
  · rw [if_neg hj,if_neg (by omega),if_neg hj]
end
section
variable {P : Program} {F : Fr} {d : Nat} {ty T T' : TypeId} {pos : String} {aft : Array Edge} {g : Option (Nat × Bool)} {x y : Operand}
end
end Go.Proofs.YtneihdahboilnaaGreat
