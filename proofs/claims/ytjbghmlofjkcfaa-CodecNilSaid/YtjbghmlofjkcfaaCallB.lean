/- Calls that only read what the caller owns: the callee sees it frozen. No program in sight. -/
import Derived.Test.YtjbghmlofjkcfaaRen
namespace Go.Proofs.Ytjbghmlofjkcfaa
open Go.RowKit

/-- What a value reads as while the families bl are lent. -/
inductive Snap (hp : Hp) (bl : List Nat) : AV → D → Prop
  | d {x : D} : Snap hp bl (.d x) x
  | own {f j n : Nat} {t : TypeId} {k : Nat} {xs ys : List D} (ho : hget hp f j = some (.rowD t k xs)) (hb : memB f bl = true) (hn : n ≤ xs.length) (hys : xs.take n = ys) : Snap hp bl (.own f j n) (.sl none ys)
  | ptr {f i off : Nat} {t : TypeId} {cs : List AV} {x : D} (ho : hget hp f i = some (.blk t cs)) (hb : memB f bl = true) (h1 : ∀ c ∈ x.cells, c.one = true) (g : Nat → AV) (hg : ∀ (j : Nat) c, x.cells[j]? = some c → cs[off + j]? = some (g j)) (hc : ∀ (j : Nat) c, x.cells[j]? = some c → Snap hp bl (g j) c) : Snap hp bl (.ptr f i off) (.ptr x)
  | agg {as : List AV} {cs : List D} (hl : as.length = cs.length) (h1 : ∀ c ∈ cs, c.one = true) (hc : ∀ (j : Nat) a c, as[j]? = some a → cs[j]? = some c → Snap hp bl a c) : Snap hp bl (.agg as) (.agg cs)

/-- The blocks that the callee may not rely on: the callers' and the caller's, but for those lent. -/
def lentO (F : Fr) (hp : Hp) (ρ : Nat → Nat → Value) (bl : List Nat) (b : Nat) : Prop := F.O ρ hp b ∧ ¬ ∃ f i o, memB f bl = true ∧ hget hp f i = some o ∧ blkOf (ρ f i) = some b
theorem lent_not {F : Fr} {hp : Hp} {ρ : Nat → Nat → Value} {bl : List Nat} {f i b : Nat} {o : AObj} (hb : memB f bl = true) (ho : hget hp f i = some o) (hv : blkOf (ρ f i) = some b) : ¬ lentO F hp ρ bl b := fun h => h.2 ⟨f, i, o, hb, ho, hv⟩
theorem Snap.rep {F : Fr} {hp : Hp} {ρ : Nat → Nat → Value} {w : World} {bl : List Nat} (hs : Heap F hp ρ w) {a : AV} {x : D} (h : Snap hp bl a x) : ∀ {v : Value}, RepA w (F.O ρ hp) ρ a v → RepD w (lentO F hp ρ bl) x v := by
  have mono : ∀ {x : D} {v : Value}, RepD w (F.O ρ hp) x v → RepD w (lentO F hp ρ bl) x v := fun h => h.mono (Nat.le_refl _) (fun _ _ _ => rfl) fun b _ hb => hb.1
  induction h with
  | d => intro v hr; cases hr with | d hr => exact mono hr
  | @own f j n t k xs ys ho hb hn hys =>
    intro v hr
    obtain ⟨us, h1, h2, h3⟩ := hs.sim f j _ ho
    cases hr with
    | @own _ _ _ N cap a hρ hn' =>
      rw [hρ] at h1
      have hN : N = xs.length := by
        rcases h1.2 with ⟨e, e0⟩ | ⟨g, c, cur, e, _⟩
        · injection e with _ e1 _; omega
        · injection e with _ e1 _
      subst hN
      have hcap : n ≤ cap ∧ cap ≤ maxLen ∧ (a = none → cap = 0) ∧ (0 < xs.length → ∃ b, a = some ⟨b, 0, none⟩ ∧ ∃ cur, w.heap[b]? = some (.cells cur t (0, 0)) ∧ cur.toList.take (xs.length * k) = us) := by
        rcases h1.2 with ⟨e, e0⟩ | ⟨g, c, cur, e, _, c1, c2, c3, c4, c5⟩
        · injection e with e1 e2 e3; subst e1 e3; exact ⟨by omega, Nat.zero_le _, fun _ => rfl, fun h => by omega⟩
        · injection e with e1 e2 e3; subst e1 e3; exact ⟨by omega, c3, (fun e => by cases e), fun _ => ⟨g, rfl, cur, c1, c5⟩⟩
      obtain ⟨p1, p2, p3, p4⟩ := hcap
      refine .sl k (fun _ h => by cases h) p3 (by rw [← hys, List.length_take]; omega) p1 p2 (fun y hy => h2.2.1 y (by rw [← hys] at hy; exact List.mem_of_mem_take hy)) (fun hne => ?_) (fun b o hbb i y hy => ?_)
      · have : 0 < xs.length := by
          rcases Nat.eq_zero_or_pos xs.length with h0 | h0
          · exfalso; apply hne; rw [← hys, List.eq_nil_of_length_eq_zero h0]; simp
          · exact h0
        obtain ⟨b, hb, _⟩ := p4 this
        exact ⟨b, 0, hb⟩
      · have hy' : xs[i]? = some y := by
          rw [← hys, List.getElem?_take] at hy
          split at hy
          · exact hy
          · cases hy
        have hil : i < xs.length := (List.getElem?_eq_some_iff.1 hy').1
        obtain ⟨b', hb', cur, c1, c3⟩ := p4 (by omega)
        rw [hb'] at hbb
        injection hbb with hbb; injection hbb with hb1 hb2; subst hb1 hb2
        subst hb'
        have hlt : b' < w.heap.size := (Array.getElem?_eq_some_iff.1 c1).1
        have hex : ∀ (q : Nat) c, y.cells[q]? = some c → ∃ u, w.cell? ⟨b', 0 + i * k + q, none⟩ = some u ∧ RepD w (lentO F hp ρ bl) c u := fun q c hc => by
          obtain ⟨u, d1, d2, d3⟩ := h2.2.2 i y hy' q c hc
          exact ⟨u, by rw [Nat.zero_add]; exact row_cell c1 c3 d1, mono d3⟩
        refine .ptr (fun q => (w.cell? ⟨b', 0 + i * k + q, none⟩).getD undef) hlt (lent_not hb ho (by rw [hρ]; rfl)) (h3 y (List.mem_of_getElem? hy')) (fun q c hc => ?_) (fun q c hc => ?_)
        · obtain ⟨u, d1, _⟩ := hex q c hc
          rw [d1]; rfl
        · obtain ⟨u, d1, d2⟩ := hex q c hc
          rw [d1]; exact d2
  | @ptr f i off t cs x ho hb h1 g hg hc ih =>
    intro v hr
    obtain ⟨b, us, e1, e2, e3, e4, e5⟩ := hs.sim f i _ ho
    cases hr with
    | @ptr _ _ _ b' hρ =>
      rw [e1] at hρ
      injection hρ with hρ; injection hρ with hρ; injection hρ with hρ; subst hρ
      have hex : ∀ (j : Nat) c, x.cells[j]? = some c → ∃ u, w.cell? ⟨b, off + j, none⟩ = some u ∧ RepD w (lentO F hp ρ bl) c u := fun j c hj => by
        have ha := hg j c hj
        have hlt : off + j < us.length := by rw [e3]; exact (List.getElem?_eq_some_iff.1 ha).1
        refine ⟨us[off + j], by rw [cell_of_row w b (off + j) us.toArray t (0, 0) e2]; simp [hlt], ?_⟩
        exact ih j c hj (e4 _ _ _ ha (List.getElem?_eq_getElem hlt))
      have hlt : b < w.heap.size := (Array.getElem?_eq_some_iff.1 e2).1
      refine .ptr (fun q => (w.cell? ⟨b, off + q, none⟩).getD undef) hlt (lent_not hb ho (by rw [e1]; rfl)) h1 (fun q c hc => ?_) (fun q c hc => ?_)
      · obtain ⟨u, d1, _⟩ := hex q c hc
        rw [d1]; rfl
      · obtain ⟨u, d1, d2⟩ := hex q c hc
        rw [d1]; exact d2
  | agg hl h1 hc ih =>
    intro v hr
    cases hr with
    | agg g1 g2 g3 =>
      refine .agg (by omega) h1 fun j c v hj hv => ?_
      rename_i as cs vs
      have hlt : j < as.length := by rw [hl]; exact (List.getElem?_eq_some_iff.1 hj).1
      exact ih j _ c (List.getElem?_eq_getElem hlt) hj (g3 j _ v (List.getElem?_eq_getElem hlt) hv)

/-- Data with nothing behind it. -/
def D.flat : D → Bool
  | .raw _ => true
  | .agg cs => cs.all fun c => match c with
    | .raw _ => true
    | _ => false
  | .sl _ xs => match xs with
    | [] => true
    | _ => false
  | .tup cs => cs.all fun c => match c with
    | .raw _ => true
    | .sl _ [] => true
    | _ => false
  | .ptr _ => false
theorem rep_raw {w : World} {O O' : Nat → Prop} {v' : Value} {v : Value} (h : RepD w O (.raw v') v) : RepD w O' (.raw v') v := by
  cases h with | raw h => exact .raw h
theorem rep_nil {w : World} {O O' : Nat → Prop} {n : Option Bool} {v : Value} (h : RepD w O (.sl n []) v) : RepD w O' (.sl n []) v := by
  cases h with
  | sl k hn hz hln hc hm hk ha hp => exact .sl k hn hz hln hc hm hk (fun h => absurd rfl h) (fun _ _ _ i x hx => by simp at hx)
theorem RepD.unflat {w : World} {O O' : Nat → Prop} {x : D} {v : Value} (h : RepD w O x v) (hf : x.flat = true) : RepD w O' x v := by
  cases h with
  | raw h => exact .raw h
  | agg hl h1 h2 =>
    refine .agg hl h1 fun i c v hc hv => ?_
    have hm := List.all_eq_true.1 hf c (List.mem_of_getElem? hc)
    have := h2 i c v hc hv
    cases c with
    | raw _ => exact rep_raw this
    | _ => cases hm
  | tup hl h2 =>
    refine .tup hl fun i c v hc hv => ?_
    have hm := List.all_eq_true.1 hf c (List.mem_of_getElem? hc)
    have := h2 i c v hc hv
    cases c with
    | raw _ => exact rep_raw this
    | sl n xs =>
      cases xs with
      | nil => exact rep_nil this
      | cons _ _ => cases hm
    | _ => cases hm
  | sl k hn hz hln hc hm hk ha hp =>
    rename_i nil xs a n cap
    cases xs with
    | nil => exact .sl k hn hz hln hc hm hk (fun h => absurd rfl h) (fun _ _ _ i x hx => by simp at hx)
    | cons _ _ => cases hf
  | ptr _ _ _ _ _ _ => cases hf
def AV.flatS : AV → Bool
  | .d x => x.flat
  | .tup _ => false
  | .agg _ => false
  | .fn _ _ => false
  | _ => true
def AV.flat : AV → Bool
  | .tup as => as.all AV.flatS
  | .agg as => as.all AV.flatS
  | a => a.flatS
theorem RepA.unflatS {w : World} {O O' : Nat → Prop} {ρ : Nat → Nat → Value} {a : AV} {v : Value} (h : RepA w O ρ a v) (hf : a.flatS = true) : RepA w O' ρ a v := by
  cases h with
  | d h => exact .d (h.unflat hf)
  | top => exact .top
  | ptr h => exact .ptr h
  | own h hn => exact .own h hn
  | rptr h => exact .rptr h
  | map h => exact .map h
  | _ => cases hf
theorem RepA.unflat {w : World} {O O' : Nat → Prop} {ρ : Nat → Nat → Value} {a : AV} {v : Value} (h : RepA w O ρ a v) (hf : a.flat = true) : RepA w O' ρ a v := by
  cases h with
  | tup hl h => exact .tup hl fun i a v ha hv => (h i a v ha hv).unflatS (List.all_eq_true.1 hf a (List.mem_of_getElem? ha))
  | agg hl h1 h => exact .agg hl h1 fun i a v ha hv => (h i a v ha hv).unflatS (List.all_eq_true.1 hf a (List.mem_of_getElem? ha))
  | d h => exact .d (h.unflat hf)
  | top => exact .top
  | ptr h => exact .ptr h
  | own h hn => exact .own h hn
  | rptr h => exact .rptr h
  | map h => exact .map h
  | fn _ _ => cases hf
/-- Objects with nothing frozen behind them. -/
def AObj.Flat : AObj → Prop
  | .blk _ cs => ∀ c ∈ cs, c.flatS = true
  | .row _ _ _ => False
  | .rowD _ _ xs => ∀ x ∈ xs, ∀ c ∈ x.cells, c.flat = true
def FlatL : List AObj → Prop
  | [] => True
  | o :: r => o.Flat ∧ FlatL r
def FlatH : Hp → Prop
  | [] => True
  | (_, l) :: r => FlatL l ∧ FlatH r
theorem FlatH.at {H : Hp} (h : FlatH H) {f i : Nat} {o : AObj} (ho : hget H f i = some o) : o.Flat := by
  induction H with
  | nil => simp [hget, hfam] at ho
  | cons p r ih =>
    obtain ⟨k, l⟩ := p
    by_cases e : k = f
    · subst e
      simp only [hget, hfam, Nat.beq_refl, Option.bind_some] at ho
      have key : ∀ (l : List AObj) (i : Nat), FlatL l → l[i]? = some o → o.Flat := by
        intro l
        induction l with
        | nil => intro i _ h; simp at h
        | cons a r ih =>
          intro i hl h
          cases i with
          | zero => simp at h; subst h; exact hl.1
          | succ i => exact ih i hl.2 (by simpa using h)
      exact key l i h.1 ho
    · exact ih h.2 (by simpa only [hget, hfam, beq_ne e] using ho)
theorem SimObj.unflat {w : World} {O O' : Nat → Prop} {ρ : Nat → Nat → Value} {o : AObj} {v : Value} (h : SimObj w O ρ o v) (hf : o.Flat) : SimObj w O' ρ o v := by
  cases o with
  | blk t cs =>
    obtain ⟨b, us, h1, h2, h3, h4, h5⟩ := h
    exact ⟨b, us, h1, h2, h3, fun j c u hc hu => (h4 j c u hc hu).unflatS (hf c (List.mem_of_getElem? hc)), h5⟩
  | row t k xs => exact hf.elim
  | rowD t k xs =>
    obtain ⟨us, h1, h2, h3⟩ := h
    exact ⟨us, h1, h2.mono fun x hx c hc u hu => hu.unflat (hf x hx c hc), h3⟩

section
variable {P : Program} {F : Fr} {s : AS} {d : Nat} {ty : TypeId} {pos : String} {aft : Array Edge} {g : Option (Nat × Bool)} {at_ : Array TypeId}
/-- The arguments, some of them lent. -/
def ArgsB (s : AS) (bl : List Nat) : List Operand → List AV → Prop
  | [], [] => True
  | x :: xs, a :: as => (s.ev x = some a ∨ ∃ a0 y, s.ev x = some a0 ∧ Snap s.hp bl a0 y ∧ a = .d y) ∧ ArgsB s bl xs as
  | _, _ => False
theorem ArgsB.rep {ρ : Nat → Nat → Value} {act : Act} {w : World} (hs : SR F s ρ act w) {bl : List Nat} : ∀ {xs : List Operand} {as : List AV}, ArgsB s bl xs as → (xs.map act.eval).length = as.length ∧ ∀ (i : Nat) a v, as[i]? = some a → (xs.map act.eval)[i]? = some v → RepA w (lentO F s.hp ρ bl) ρ a v
  | [], [], _ => by simp
  | x :: xs, a :: as, h => by
    obtain ⟨h1, h2⟩ := ArgsB.rep hs h.2
    refine ⟨by simpa using h1, fun i a' v hi hv => ?_⟩
    cases i with
    | zero =>
      simp at hi hv; subst hi hv
      rcases h.1 with h | ⟨a0, y, e1, e2, rfl⟩
      · exact (hs.ev h).mono (Nat.le_refl _) (fun _ _ _ => rfl) (fun b _ hb => hb.1) fun _ _ _ => rfl
      · exact .d (e2.rep hs.heap (hs.ev e1))
    | succ i => exact h2 i a' v (by simpa using hi) (by simpa using hv)
  | [], _ :: _, h => h.elim
  | _ :: _, [], h => h.elim

/-- A call over lent arguments, with an answer of its own. -/
theorem st_callB {f : FuncId} {xs : List Operand} {args : List AV} {H0 : Hp} {r0 : AV} (bl : List Nat) (hc : ACalls P f args [] fun r H' => r = r0 ∧ H' = H0) (hargs : ArgsB s bl xs args)
    (nm : List Nat) (hfe : FamsEq s.hp [] nm) {rest0 rest : Hp} {env' : List (Nat × AV)} (hr0 : rest? nm s.hp = some rest0) (hE : keepE? (okRef [] nm) s.env = some env') (hH : keepH? (okRef [] nm) rest0 = some rest)
    (hR1 : namesIn nm H0 = true) (hR2 : hpIn nm H0 = true) (hR3 : r0.ok (inNm nm) = true) (hfr : r0.flat = true) (hfh : FlatH H0) (hd : Nat.blt d s.n = true) {hp' : Hp} (hhp : some (H0 ++ rest) = some hp') :
    Estep P F ⟨some d, .call { callee := .value (.func f), args := xs.toArray, argTypes := at_ }, ty, pos, aft, g⟩ s ⟨s.n, (d, r0) :: env', hp'⟩ (okRef [] nm) := by
  injection hhp with hhp
  subst hhp
  intro ρ act w hs
  obtain ⟨fn, h1, h2, h3⟩ := hc.1
  obtain ⟨h4, h5⟩ := hargs.rep hs
  unfold Oper.wp
  rw [run_call h1 h2 h3, Oper.upon_enter]
  have hno : ∀ ρ b, ¬ OwnB ρ [] b := fun ρ b ⟨_, _, _, h, _⟩ => by cases h
  obtain ⟨hOf, hheap, hO⟩ := heap_part hs.heap nm hfe (CH := []) rfl
  let F' : Fr := Fr.mk w (lentO F s.hp ρ bl) (OwnB ρ []) (pinOf ρ []) (fun b hb => ⟨by
    rcases hb.1 with hb | hb
    · exact Nat.lt_of_lt_of_le (F.hOf b hb).1 hs.heap.size0
    · exact (hs.heap.mine b hb).1, hno ρ b⟩) [] (fun _ _ _ h => pinOf_mem h)
  have hO' : F'.O ρ [] = lentO F s.hp ρ bl := funext fun b => propext ⟨fun h => h.elim id fun h => (hno ρ b h).elim, .inl⟩
  have hheap' : Heap F' [] ρ w := ⟨(fun f i o ho => by cases ho), (fun f i f' i' o o' b ho => by cases ho), fun b hb => (hno ρ b hb).elim, rfl, rfl, rfl, Nat.le_refl _, fun _ _ _ => rfl, fun f i b hb => pinOf_spec hb⟩
  refine (hc.2 F' ρ _ rfl rfl rfl hheap' h4 (fun i a v ha hv => by rw [hO']; exact h5 i a v ha hv)).mono fun e w' ⟨v, r, H', ρ', e1, ⟨e2, e3⟩, hrep, hh'⟩ => ?_
  subst e1 e2 e3
  have hh2 : Heap (frameOf F s.hp [] ρ w hOf) H' ρ' w' := ⟨fun f i o ho => (hh'.sim f i o ho).unflat (hfh.at ho), hh'.inj, hh'.mine, hh'.os, hh'.tape, hh'.output, hh'.size0, hh'.keep, hh'.pins⟩
  obtain ⟨ρ'', g1, g2, g3, g4⟩ := heap_whole hs.heap nm hfe (CH := []) rfl hr0 hH hOf hheap hh2 hR1 hR2
  refine ⟨ρ'', SR.put (s := ⟨s.n, env', H' ++ rest⟩) ⟨hs.size, hs.defs, fun t a ha => ?_, g1⟩ (lt_of_blt hd) (g2 r v (fun f i hf => memB_spec.1 (AV.ok_spec hR3 hf)) (hrep.unflat hfr)), g4⟩
  rcases keepE?_spec hE ha with rfl | ⟨a1, a2⟩
  · exact .top
  · exact g3 _ _ a2 (hs.env t a a1)
/-- A call over lent arguments that only computes. -/
theorem st_callPB {f : FuncId} {xs : List Operand} {args : List AV} {x : D} (bl : List Nat) (hc : PCalls P f args x) (hargs : ArgsB s bl xs args) (hfl : x.flat = true) (hd : Nat.blt d s.n = true) :
    Pstep P F ⟨some d, .call { callee := .value (.func f), args := xs.toArray, argTypes := at_ }, ty, pos, aft, g⟩ s d (.d x) := by
  refine ⟨hd, rfl, fun ρ act w hs => ?_⟩
  obtain ⟨fn, h1, h2, h3⟩ := hc.1
  obtain ⟨h4, h5⟩ := hargs.rep hs
  unfold Oper.wp
  rw [run_call h1 h2 h3, Oper.upon_enter]
  have hno : ∀ ρ b, ¬ OwnB ρ [] b := fun ρ b ⟨_, _, _, h, _⟩ => by cases h
  let F' : Fr := Fr.mk w (lentO F s.hp ρ bl) (OwnB ρ []) (pinOf ρ []) (fun b hb => ⟨by
    rcases hb.1 with hb | hb
    · exact Nat.lt_of_lt_of_le (F.hOf b hb).1 hs.heap.size0
    · exact (hs.heap.mine b hb).1, hno ρ b⟩) [] (fun _ _ _ h => pinOf_mem h)
  have hO' : F'.O ρ [] = lentO F s.hp ρ bl := funext fun b => propext ⟨fun h => h.elim id fun h => (hno ρ b h).elim, .inl⟩
  have hheap' : Heap F' [] ρ w := ⟨(fun f i o ho => by cases ho), (fun f i f' i' o o' b ho => by cases ho), fun b hb => (hno ρ b hb).elim, rfl, rfl, rfl, Nat.le_refl _, fun _ _ _ => rfl, fun f i b hb => pinOf_spec hb⟩
  refine (hc.2 F' ρ _ rfl rfl rfl hheap' h4 (fun i a v ha hv => by rw [hO']; exact h5 i a v ha hv)).mono fun e w' ⟨v, r, H', ρ', e1, ⟨e2, e3⟩, hrep, hh'⟩ => ?_
  subst e1 e2 e3
  have hbb : ∀ b, b < w.heap.size → w'.heap[b]? = w.heap[b]? := fun b hlt => hh'.keep b hlt (hno ρ b)
  refine ⟨v, rfl, ?_, hs.heap.stay ⟨hh'.os, hh'.tape, hh'.output⟩ hh'.size0 hbb, hh'.size0, hbb⟩
  cases hrep with
  | d hrep => exact .d (hrep.unflat hfl)
end
end Go.Proofs.Ytjbghmlofjkcfaa
