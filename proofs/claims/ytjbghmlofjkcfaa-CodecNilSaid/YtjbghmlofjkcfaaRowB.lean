/- Slice literals, make, a nil slice taken over, a row that becomes frozen. No program in sight. -/
import Derived.Test.YtjbghmlofjkcfaaRowA
namespace Go.Proofs.Ytjbghmlofjkcfaa
open Go.RowKit

def partsD? (s : AS) : Nat → List (Nat × Operand) → Option (List D)
  | _, [] => some []
  | i, (j, x) :: r => match Nat.beq i j with
    | false => none
    | true => match s.ev x with
      | some (.d v) => match partsD? s (i + 1) r with
        | none => none
        | some l => some (v :: l)
      | _ => none
/-- Elements of k cells that a row can hold. -/
def elemsB (k : Nat) : List D → Bool
  | [] => true
  | x :: r => (match x with | .tup _ => false | _ => true) && Nat.beq x.cells.length k && elemsB k r
theorem elemsB_spec {k : Nat} {xs : List D} (h : elemsB k xs = true) : ∀ x ∈ xs, x.cells.length = k ∧ (∀ cs, x ≠ .tup cs) := by
  induction xs with
  | nil => simp
  | cons x r ih =>
    simp only [elemsB, Bool.and_eq_true] at h
    intro y hy
    rcases List.mem_cons.1 hy with rfl | hy
    · exact ⟨Nat.eq_of_beq_eq_true h.1.2, fun cs e => by subst e; simp at h⟩
    · exact ih h.2 y hy
/-- The cells of a value that represents data. -/
theorem RepD.cellsOf {w : World} {O : Nat → Prop} {x : D} {v : Value} (h : RepD w O x v) (ht : ∀ cs, x ≠ .tup cs) :
    v.cells.toList.length = x.cells.length ∧ (∀ c ∈ x.cells, c.one = true) ∧ ∀ (q : Nat) c, x.cells[q]? = some c → ∃ u, v.cells.toList[q]? = some u ∧ u.oneCell' = true ∧ RepD w O c u := by
  have one : ∀ {x : D} {v : Value}, x.one = true → RepD w O x v → v.cells.toList.length = x.cells.length ∧ (∀ c ∈ x.cells, c.one = true) ∧ ∀ (q : Nat) c, x.cells[q]? = some c → ∃ u, v.cells.toList[q]? = some u ∧ u.oneCell' = true ∧ RepD w O c u := fun {x v} h1 h => by
    have h2 := h.oneCell h1
    have hc : v.cells.toList = [v] := by cases v <;> first | rfl | cases h2
    rw [hc, D.cells_one h1]
    refine ⟨rfl, by simp [h1], fun q c hc => ?_⟩
    cases q with
    | zero => simp at hc; subst hc; exact ⟨v, rfl, h2, h⟩
    | succ q => simp at hc
  cases x with
  | agg cs =>
    cases h with
    | @agg _ vs a1 a2 a3 =>
      refine ⟨by simpa [Value.cells, D.cells] using a1, a2, fun q c hc => ?_⟩
      have hq : q < vs.length := by rw [a1]; exact (List.getElem?_eq_some_iff.1 hc).1
      have hr := a3 q c vs[q] hc (List.getElem?_eq_getElem hq)
      exact ⟨vs[q], by simp [Value.cells, hq], hr.oneCell (a2 c (List.mem_of_getElem? hc)), hr⟩
  | tup cs => exact absurd rfl (ht cs)
  | raw _ => exact one rfl h
  | sl _ _ => exact one rfl h
  | ptr _ => exact one rfl h

/-- What a new row of whole elements holds. -/
theorem rowD_new {w : World} {O : Nat → Prop} {ρ : Nat → Nat → Value} {E : TypeId} {k : Nat} {xs : List D} {r : Array Value} (hm : xs.length ≤ maxLen) (hsz : r.size = xs.length * k)
    (h : ∀ (i : Nat) x, xs[i]? = some x → x.cells.length = k ∧ (∀ c ∈ x.cells, c.one = true) ∧ ∀ (q : Nat) c, x.cells[q]? = some c → ∃ u, r[i * k + q]? = some u ∧ u.oneCell' = true ∧ RepD (w.alloc (.cells r E)) O c u) :
    SimObj (w.alloc (.cells r E)) O ρ (.rowD E k xs) (.slice (some ⟨w.heap.size, 0, none⟩) xs.length xs.length) := by
  refine ⟨r.toList, ⟨by simpa using hsz, .inr ⟨w.heap.size, xs.length, r, rfl, Nat.zero_le _, heap_alloc_new w _, Nat.le_refl _, hm, hsz, by rw [← hsz, ← Array.length_toList, List.take_length]⟩⟩, ⟨by simpa using hsz, fun x hx => ?_, fun i x hx j c hc => ?_⟩, fun x hx c hc => ?_⟩
  · obtain ⟨i, hi, rfl⟩ := List.getElem_of_mem hx
    exact (h i _ (List.getElem?_eq_getElem hi)).1
  · obtain ⟨u, h1, h2, h3⟩ := (h i x hx).2.2 j c hc
    exact ⟨u, by simpa using h1, h2, h3⟩
  · obtain ⟨i, hi, rfl⟩ := List.getElem_of_mem hx
    exact (h i _ (List.getElem?_eq_getElem hi)).2.1 c hc

section
variable {P : Program} {F : Fr} {s : AS} {d : Nat} {ty T T2 E : TypeId} {pos : String} {aft : Array Edge} {g : Option (Nat × Bool)} {x y : Operand} {k : IntKind} {i : Int}

theorem partsD?_spec {ρ : Nat → Nat → Value} {act : Act} {w : World} (hs : SR F s ρ act w) : ∀ (l : List (Nat × Operand)) (i : Nat) (xs : List D), partsD? s i l = some xs →
    (l.map fun p => (p.1, act.eval p.2)) = (((l.map fun p => act.eval p.2).zipIdx i).map fun x => (x.2, x.1)) ∧ l.length = xs.length ∧ ∀ (q : Nat) x, xs[q]? = some x → ∃ v, (l.map fun p => act.eval p.2)[q]? = some v ∧ RepD w (F.O ρ s.hp) x v
  | [], _, xs, h => by simp only [partsD?, Option.some.injEq] at h; subst h; simp
  | (j, x) :: r, i, xs, h => by
    simp only [partsD?] at h
    split at h
    · cases h
    · rename_i hj
      have := Nat.eq_of_beq_eq_true hj
      subst this
      split at h
      · rename_i v hv
        split at h
        · cases h
        · rename_i l1 h1
          injection h with h; subst h
          obtain ⟨a1, a2, a3⟩ := partsD?_spec hs r (i + 1) l1 h1
          refine ⟨by simp [a1], by simp [a2], fun q z hz => ?_⟩
          cases q with
          | zero => simp at hz; subst hz; exact ⟨_, by simp, hs.repD hv⟩
          | succ q => exact a3 q z (by simpa using hz)
      · cases h

theorem st_buildSlice (f : Nat) {l : List (Nat × Operand)} {n kk by_ : Nat} {xs : List D} {env' : List (Nat × AV)} {hp1 hp' : List (Nat × List AObj)} (S : SlTy P T E kk by_) (hp : partsD? s 0 l = some xs) (hn : Nat.beq l.length n = true) (hk : elemsB kk xs = true) (hb : Nat.ble (n * kk) 16777216 = true)
    (hE : killE? f s.env = some env') (hH : killH? f s.hp = some hp1) (hh : hnew? hp1 f (.rowD E kk xs) = some hp') (hd : Nat.blt d s.n = true) :
    Estep P F ⟨some d, .buildSlice T n l.toArray, ty, pos, aft, g⟩ s ⟨s.n, (d, .own f 0 n) :: env', hp'⟩ (notFam f) := fun ρ act w hs => by
  have := Nat.eq_of_beq_eq_true hn
  subst this
  obtain ⟨ti, z, h1, h2, h3, h4, h5⟩ := S.info
  have hT := S.ht
  obtain ⟨a1, a2, a3⟩ := partsD?_spec hs l 0 xs hp
  have hbn := Nat.le_of_ble_eq_true hb
  have hspec := elemsB_spec hk
  have hcs : ∀ v ∈ l.map (fun p => act.eval p.2), v.cells.size = kk := fun v hv => by
    obtain ⟨q, hq, rfl⟩ := List.getElem_of_mem hv
    rw [List.length_map] at hq
    obtain ⟨x, hx⟩ := List.getElem?_some_of_lt (l := xs) (i := q) (by omega)
    obtain ⟨v, hv1, hv2⟩ := a3 q x hx
    rw [List.getElem?_eq_getElem (by simpa using hq)] at hv1
    injection hv1 with hv1
    rw [hv1]
    obtain ⟨b1, b2⟩ := hspec x (List.mem_of_getElem? hx)
    rw [← b1, ← (hv2.cellsOf b2).1, Array.length_toList]
  obtain ⟨r, r1, r2, r3⟩ := Great.fill_dense S.pos (l.map fun p => act.eval p.2) 0 ((Array.range (l.length * kk)).map ((if l.length * kk = 0 then #[] else z.cells)[· % (if l.length * kk = 0 then #[] else z.cells).size]!)) hcs (by simp)
  have hrun : (Instr.buildSlice T l.length (l.toArray.map fun p => (p.1, act.eval p.2))).run P w = .ok (.slice (some ⟨w.heap.size, 0, none⟩) l.length l.length) (w.alloc (.cells r E)) := by
    have hl : (l.toArray.map fun p => (p.1, act.eval p.2)).toList = ((l.map fun p => act.eval p.2).zipIdx 0).map fun x => (x.2, x.1) := by simpa using a1
    have hbig : ¬ (16777216 < l.length * kk) := by omega
    have hsz := run_sizeOf (P := P) (T := E) (n := kk) (by rw [h1]; simp [h3]) w
    by_cases h0 : l.length * kk = 0
    · simp only [if_pos h0] at r1
      simp only [Instr.buildSlice, Sem.run_bind, run_underlying hT w, Result.andThen_ok, hsz, if_neg hbig, if_pos h0, Sem.run_pure, hl, r1, newRow, newObj, Sem.run, World.alloc_eq]
    · simp only [if_neg h0] at r1
      have hzv : (zeroValue E).run P w = .ok z w := by simp [zeroValue, typeInfo, h1, h2]
      simp only [Instr.buildSlice, Sem.run_bind, run_underlying hT w, Result.andThen_ok, hsz, if_neg hbig, if_neg h0, Sem.run_pure, hl, r1, newRow, newObj, Sem.run, World.alloc_eq, hzv]
  have hex : (execOp act.eval ⟨some d, .buildSlice T l.length l.toArray, ty, pos, aft, g⟩).run P w = .ok (.value (.slice (some ⟨w.heap.size, 0, none⟩) l.length l.length)) (w.alloc (.cells r E)) := by
    simp only [execOp, Sem.run_bind]
    have : (l.toArray.map fun (x : Nat × Operand) => match x with | (i, x) => (i, act.eval x)) = (l.toArray.map fun p => (p.1, act.eval p.2)) := rfl
    rw [this, hrun]; rfl
  unfold Oper.wp
  rw [hex]
  have hsize : r.size = xs.length * kk := by rw [r2, ← a2]; simp
  have hmax : xs.length ≤ maxLen := by
    have : xs.length * 1 ≤ xs.length * kk := Nat.mul_le_mul_left _ S.pos
    unfold maxLen; rw [← a2] at this ⊢; omega
  have hsr := hs.new f (.rowD E kk xs) (.slice (some ⟨w.heap.size, 0, none⟩) l.length l.length) (.cells r E) hE hH hh rfl (fun hrep => by
    have hrd := rowD_new (w := w) (O := F.O (upd ρ f 0 (.slice (some ⟨w.heap.size, 0, none⟩) l.length l.length)) hp') (ρ := upd ρ f 0 (.slice (some ⟨w.heap.size, 0, none⟩) l.length l.length)) (E := E) (k := kk) (xs := xs) (r := r) hmax hsize
    rw [← a2] at hrd
    refine hrd fun i x hx => ?_
    obtain ⟨v, hv1, hv2⟩ := a3 i x hx
    obtain ⟨b1, b2⟩ := hspec x (List.mem_of_getElem? hx)
    obtain ⟨c1, c2, c3⟩ := hv2.cellsOf b2
    refine ⟨b1, c2, fun q c hc => ?_⟩
    obtain ⟨u, d1, d2, d3⟩ := c3 q c hc
    have hqk : q < kk := by rw [← b1]; exact (List.getElem?_eq_some_iff.1 hc).1
    have hil : i < xs.length := (List.getElem?_eq_some_iff.1 hx).1
    refine ⟨u, ?_, d2, ?_⟩
    · rw [r3, if_pos]
      · have e1 : (i * kk + q) / kk = i := by rw [Nat.mul_comm, Nat.mul_add_div S.pos, Nat.div_eq_of_lt hqk]; rfl
        have e2 : (i * kk + q) % kk = q := by rw [Nat.mul_comm, Nat.mul_add_mod, Nat.mod_eq_of_lt hqk]
        rw [e1, e2, Nat.sub_zero, hv1, Option.bind_some]
        simpa using d1
      · refine ⟨by omega, ?_⟩
        have : (i + 1) * kk ≤ xs.length * kk := Nat.mul_le_mul_right _ hil
        rw [Nat.add_mul] at this
        rw [List.length_map, a2, Nat.zero_add]; omega
    · have := hrep (.d c) u (fun i h => by cases h) (.d d3)
      cases this with | d h => exact h)
  exact ⟨_, hsr.put (lt_of_blt hd) (.own upd_same (Nat.le_refl _)), fun f i h => upd_other fun e => notFam_spec h e.1⟩

/-- The zero element of a type. -/
def zeroD? (P : Program) (E : TypeId) : Option D := match zeroL? P E with
  | none => none
  | some l => match allD? l with
    | none => none
    | some ds => match P.underlying E with
      | some (.struct _) => some (.agg ds)
      | some (.array _ _) => some (.agg ds)
      | some _ => match ds with
        | [x] => some x
        | _ => none
      | none => none
theorem zeroD?_spec {E : TypeId} {x : D} (h : zeroD? P E = some x) : ∃ l, zeroL? P E = some l ∧ l = x.cells.map .d ∧ ∀ c ∈ x.cells, c.one = true := by
  unfold zeroD? at h
  split at h
  · cases h
  · rename_i l hl
    split at h
    · cases h
    · rename_i ds hds
      obtain ⟨h1, h2⟩ := allD?_spec hds
      have fin : some (D.agg ds) = some x → ∃ l, zeroL? P E = some l ∧ l = x.cells.map .d ∧ ∀ c ∈ x.cells, c.one = true := fun h => by
        injection h with h; subst h; exact ⟨l, hl, h1, h2⟩
      split at h
      · exact fin h
      · exact fin h
      · split at h
        · injection h with h; subst h
          rename_i y
          have hy := h2 y (by simp)
          rw [D.cells_one hy]
          exact ⟨l, hl, h1, h2⟩
        · cases h
      · cases h
theorem st_make (f : Nat) {n kk by_ : Nat} {z : D} {k2 : IntKind} {env' : List (Nat × AV)} {hp1 hp' : List (Nat × List AObj)} (S : SlTy P T E kk by_) (hx : s.ev x = some (.d (.raw (.int k i)))) (hy : s.ev y = some (.d (.raw (.int k2 i)))) (hi : i = (n : Int)) (hb : n * by_ ≤ 140737488355328) (hz : zeroD? P E = some z)
    (hE : killE? f s.env = some env') (hH : killH? f s.hp = some hp1) (hh : hnew? hp1 f (.rowD E kk (List.replicate n z)) = some hp') (hd : Nat.blt d s.n = true) :
    Estep P F ⟨some d, .makeSlice T x y, ty, pos, aft, g⟩ s ⟨s.n, (d, .own f 0 n) :: env', hp'⟩ (notFam f) := fun ρ act w hs => by
  obtain ⟨ti, zv, h1, h2, h3, h4, h5⟩ := S.info
  have hT := S.ht
  subst hi
  have hbp := S.pos'
  have hn1 : n * 1 ≤ n * by_ := Nat.mul_le_mul_left _ hbp
  have hrun := run_make (P := P) w T E ti zv hT h1 h2 k k2 (n : Int) (n : Int) (by omega) (Int.le_refl _) (by
    rw [h4]
    have : ((by_ * n : Nat) : Int) ≤ 281474976710656 := by rw [Nat.mul_comm]; omega
    rwa [Int.natCast_mul] at this) (by omega)
  simp only [Int.toNat_natCast, h3] at hrun
  have hex : (execOp act.eval ⟨some d, .makeSlice T x y, ty, pos, aft, g⟩).run P w = .ok (.value (.slice (some ⟨w.heap.size, 0, none⟩) n n)) (w.alloc (.cells (madeCells zv.cells (n * kk)) E)) := by
    simp [execOp, hs.raw hx, hs.raw hy, hrun]
  unfold Oper.wp
  rw [hex]
  obtain ⟨l, l1, l2, l3⟩ := zeroD?_spec hz
  obtain ⟨ti', zv', m1, m2, m3⟩ := zeroL?_spec l1
  rw [h1] at m1; injection m1 with m1; subst m1
  rw [h2] at m2; injection m2 with m2; subst m2
  have hcl := (constL?_spec m3 w (F.O ρ s.hp) ρ).1
  rw [l2, List.length_map, Array.length_toList, h5] at hcl
  have hsr := hs.new f (.rowD E kk (List.replicate n z)) (.slice (some ⟨w.heap.size, 0, none⟩) n n) (.cells (madeCells zv.cells (n * kk)) E) hE hH hh rfl (fun hrep => by
    have hlen : (List.replicate n z).length = n := List.length_replicate
    have := rowD_new (w := w) (O := F.O (upd ρ f 0 (.slice (some ⟨w.heap.size, 0, none⟩) n n)) hp') (ρ := upd ρ f 0 (.slice (some ⟨w.heap.size, 0, none⟩) n n)) (E := E) (k := kk) (xs := List.replicate n z) (r := madeCells zv.cells (n * kk))
      (by rw [hlen]; unfold maxLen; omega) (by rw [hlen, size_madeCells]) (fun q x hx => by
        have hq : q < n := by rw [← hlen]; exact (List.getElem?_eq_some_iff.1 hx).1
        have hxz : x = z := by
          have := List.mem_of_getElem? hx
          exact List.eq_of_mem_replicate this
        subst hxz
        refine ⟨hcl.symm, l3, fun j c hc => ?_⟩
        have hj : j < kk := by rw [hcl]; exact (List.getElem?_eq_some_iff.1 hc).1
        have hjz : j < zv.cells.size := by rw [h5]; exact hj
        obtain ⟨a1, a2⟩ := (constL?_spec m3 (w.alloc (.cells (madeCells zv.cells (n * kk)) E)) (F.O (upd ρ f 0 (.slice (some ⟨w.heap.size, 0, none⟩) n n)) hp') ρ).2 j (.d c) zv.cells[j] (by rw [l2, List.getElem?_map, hc]; rfl) (by simp [hjz])
        have hlt : q * kk + j < n * kk := by
          have : (q + 1) * kk ≤ n * kk := Nat.mul_le_mul_right _ hq
          rw [Nat.add_mul] at this; omega
        refine ⟨zv.cells[j], ?_, a2, ?_⟩
        · have e2 : (q * kk + j) % kk = j := by rw [Nat.mul_comm, Nat.mul_add_mod, Nat.mod_eq_of_lt hj]
          simp only [madeCells]
          rw [Array.getElem?_map, Array.getElem?_range, if_pos hlt]
          simp only [Option.map_some, h5, e2]; rw [getElem!_pos zv.cells j hjz]
        · cases a1 with | d h => exact h)
    rwa [hlen] at this)
  exact ⟨_, hsr.put (lt_of_blt hd) (.own upd_same (Nat.le_refl _)), fun f i h => upd_other fun e => notFam_spec h e.1⟩
end

/-- A nil slice is an empty row of one's own. -/
theorem SR.adopt {P : Program} {F : Fr} {s : AS} {ρ : Nat → Nat → Value} {act : Act} {w : World} (h : SR F s ρ act w) (t f : Nat) {T E : TypeId} {kk by_ : Nat} (_S : SlTy P T E kk by_) {env' : List (Nat × AV)} {hp1 hp' : List (Nat × List AObj)} (ht : get s.env t = some (.d (.sl (some true) [])))
    (hE : killE? f s.env = some env') (hH : killH? f s.hp = some hp1) (hh : hnew? hp1 f (.rowD E kk []) = some hp') : SR F ⟨s.n, (t, .own f 0 0) :: env', hp'⟩ (upd ρ f 0 (.slice none 0 0)) act w := by
  have hr := h.env t _ ht
  have hv : act.tmps.getD t undef = .slice none 0 0 := by
    generalize act.tmps.getD t undef = v at hr
    cases hr with
    | d hr =>
      cases hr with
      | @sl _ _ a n cap k hn hz hln hc hm hk ha hp =>
        have := hn true rfl
        have ha : a = none := by simpa using this
        subst ha
        rw [hz rfl, ← hln]; rfl
  obtain ⟨h1, h2⟩ := hnew?_spec hh
  have hsr := h.set f 0 (.rowD E kk []) (.slice none 0 0) hE hH h1 (fun t cs e => by obtain ⟨o, ho, _⟩ := (killH?_spec hH).2 _ _ _ e; rw [h2] at ho; cases ho) (fun b hb => by cases hb) rfl rfl rfl (Nat.le_refl _) (fun _ _ _ => rfl) (fun _ => ⟨[], World.ownsRow_nil w 0 E kk, ⟨by simp, by simp, fun i x hx => by simp at hx⟩, by simp⟩)
  refine ⟨hsr.size, hsr.defs, fun t' a ha => ?_, hsr.heap⟩
  rcases get_cons ha with ⟨rfl, rfl⟩ | ⟨_, ha⟩
  · rw [hv]; exact .own upd_same (Nat.le_refl _)
  · exact hsr.env t' a ha

def hdel? (f : Nat) : List (Nat × List AObj) → Option (List (Nat × List AObj))
  | [] => some []
  | (k, l) :: r => match hdel? f r with
    | none => none
    | some r' => match Nat.beq k f with
      | true => some r'
      | false => some ((k, l) :: r')
theorem hdel?_spec {f : Nat} {hp hp' : List (Nat × List AObj)} (h : hdel? f hp = some hp') : ∀ g i, hget hp' g i = if g = f then none else hget hp g i := by
  induction hp generalizing hp' with
  | nil => simp only [hdel?, Option.some.injEq] at h; subst h; simp [hget, hfam]
  | cons p r ih =>
    obtain ⟨k, l⟩ := p
    simp only [hdel?] at h
    split at h
    · cases h
    · rename_i r' hr
      split at h
      · rename_i hk
        have hk' := Nat.eq_of_beq_eq_true hk
        subst hk'
        injection h with h; subst h
        intro g i
        rw [ih hr g i]
        by_cases e : g = k
        · rw [if_pos e, if_pos e]
        · rw [if_neg e, if_neg e]
          simp only [hget, hfam, beq_ne (Ne.symm e)]
      · rename_i hk
        have hk' := Nat.ne_of_beq_eq_false hk
        injection h with h; subst h
        intro g i
        by_cases e : k = g
        · subst e
          rw [if_neg hk']
          simp only [hget, hfam, Nat.beq_refl]
        · have := ih hr g i
          simp only [hget, hfam, beq_ne e] at this ⊢
          exact this

/-- A family is forgotten: its blocks stand fast from now on. -/
theorem SR.forget {F : Fr} {s : AS} {ρ : Nat → Nat → Value} {act : Act} {w : World} (h : SR F s ρ act w) (f : Nat) {env' : List (Nat × AV)} {hp1 hp' : List (Nat × List AObj)} (hE : killE? f s.env = some env') (hH : killH? f s.hp = some hp1) (hh : hdel? f hp1 = some hp') (hnb : ∀ i t cs, hget s.hp f i ≠ some (.blk t cs)) :
    SR F ⟨s.n, env', hp'⟩ ρ act w ∧ (∀ b, F.O ρ hp' b → F.O ρ s.hp b) ∧ ∀ i o b, hget s.hp f i = some o → blkOf (ρ f i) = some b → ¬ F.O ρ hp' b := by
  obtain ⟨k1, k2⟩ := killH?_spec hH
  have hd := hdel?_spec hh
  have hsub : ∀ g i o', hget hp' g i = some o' → ∃ o, hget s.hp g i = some o ∧ o.Less (notFam f) o' ∧ g ≠ f := fun g i o' ho => by
    rw [hd] at ho
    split at ho
    · cases ho
    · rename_i e
      obtain ⟨o, h1, h2⟩ := k1 _ _ _ ho
      exact ⟨o, h1, h2, e⟩
  have hO : ∀ b, F.O ρ hp' b → F.O ρ s.hp b := fun b hb => hb.imp id (OwnB.same fun g i o' ho => let ⟨o, a, _⟩ := hsub g i o' ho; ⟨o, a⟩)
  have hrep : ∀ A v, RepA w (F.O ρ s.hp) ρ A v → RepA w (F.O ρ hp') ρ A v := fun A v hr => hr.mono (Nat.le_refl _) (fun _ _ _ => rfl) (fun b _ => hO b) fun _ _ _ => rfl
  refine ⟨⟨h.size, h.defs, fun t a ha => ?_, ⟨fun g i o' ho => ?_, fun g i g' i' o o' b ho ho' hb hb' => ?_, fun b hb => ?_, h.heap.os, h.heap.tape, h.heap.output, h.heap.size0, h.heap.keep, fun g i b hp => ?_⟩⟩, hO, fun i o b ho hb hh => ?_⟩
  · rcases killE?_spec hE ha with rfl | ⟨h1, h2⟩
    · exact .top
    · exact hrep _ _ (h.env t a h1)
  · obtain ⟨o, h1, h2, _⟩ := hsub g i o' ho
    exact (h2.1 _ _ _ _ (h.heap.sim g i o h1)).mono (Nat.le_refl _) (fun _ _ _ => rfl) (fun b _ => hO b) (fun _ _ => rfl) fun _ _ _ => rfl
  · obtain ⟨o1, h1, _⟩ := hsub _ _ _ ho
    obtain ⟨o2, h2, _⟩ := hsub _ _ _ ho'
    exact h.heap.inj g i g' i' o1 o2 b h1 h2 hb hb'
  · exact h.heap.mine b (OwnB.same (fun g i o' ho => let ⟨o, a, _⟩ := hsub g i o' ho; ⟨o, a⟩) hb)
  · obtain ⟨a1, t, cs, a2⟩ := h.heap.pins g i b hp
    obtain ⟨o', a3, _, _, a4, _⟩ := k2 _ _ _ a2
    obtain ⟨cs', rfl⟩ := a4 t cs rfl
    refine ⟨a1, t, cs', ?_⟩
    rw [hd, if_neg]
    · exact a3
    · rintro rfl; exact hnb i t cs a2
  · rcases hh with hh | ⟨g, i', o', h1, h2⟩
    · exact h.heap.notOf ⟨f, i, o, ho, hb⟩ hh
    · obtain ⟨o2, h3, _, h4⟩ := hsub _ _ _ h1
      exact h4 (h.heap.inj g i' f i o2 o b h3 ho h2 hb).1

/-- An owned row in a slot becomes frozen. -/
theorem SR.freeze {F : Fr} {s : AS} {ρ : Nat → Nat → Value} {act : Act} {w : World} (h : SR F s ρ act w) (t f : Nat) {j n kk : Nat} {E : TypeId} {xs ys : List D} {env' : List (Nat × AV)} {hp1 hp' : List (Nat × List AObj)} (ht : get s.env t = some (.own f j n)) (ho : hget s.hp f j = some (.rowD E kk xs))
    (hn : n ≤ xs.length) (hys : xs.take n = ys) (hE : killE? f s.env = some env') (hH : killH? f s.hp = some hp1) (hh : hdel? f hp1 = some hp') (hone : hfam s.hp f = some [.rowD E kk xs]) : SR F ⟨s.n, (t, .d (.sl none ys)) :: env', hp'⟩ ρ act w := by
  obtain ⟨h1, h2, h3⟩ := h.forget f hE hH hh (fun i t cs e => by
    simp only [hget, hone, Option.bind_some] at e
    cases i <;> simp at e)
  refine ⟨h1.size, h1.defs, fun t' a ha => ?_, h1.heap⟩
  rcases get_cons ha with ⟨rfl, rfl⟩ | ⟨_, ha⟩
  · have hr := h.env t _ ht
    generalize act.tmps.getD t undef = v at hr
    obtain ⟨us, a, cap, e1, g1, g2, g3, g4, g5⟩ := h.rowD ho
    cases hr with
    | own hρ hn' =>
      rw [e1] at hρ
      injection hρ with e2 e3 e4
      subst e2 e3 e4
      refine .d (.sl kk (fun _ h => by cases h) g4.2.2 (by rw [← hys, List.length_take]; omega) (by omega) g4.2.1 (fun y hy => g2.2.1 y (by rw [← hys] at hy; exact List.mem_of_mem_take hy)) (fun hne => ?_) (fun b o hb i y hy => ?_))
      · have : 0 < xs.length := by
          rcases Nat.eq_zero_or_pos xs.length with h0 | h0
          · exfalso; apply hne; rw [← hys, List.eq_nil_of_length_eq_zero h0]; simp
          · exact h0
        obtain ⟨b, hb, _⟩ := g5 this
        exact ⟨b, 0, hb⟩
      · have hy' : xs[i]? = some y := by
          rw [← hys, List.getElem?_take] at hy
          split at hy
          · exact hy
          · cases hy
        have hil : i < xs.length := (List.getElem?_eq_some_iff.1 hy').1
        obtain ⟨b', hb', cur, c1, c2, c3⟩ := g5 (by omega)
        rw [hb'] at hb
        injection hb with hb; injection hb with hb1 hb2; subst hb1 hb2
        subst hb'
        have hlt : b' < w.heap.size := (Array.getElem?_eq_some_iff.1 c1).1
        have hex : ∀ (q : Nat) c, y.cells[q]? = some c → ∃ u, w.cell? ⟨b', 0 + i * kk + q, none⟩ = some u ∧ RepD w (F.O ρ hp') c u := fun q c hc => by
          obtain ⟨u, d1, d2, d3⟩ := g2.2.2 i y hy' q c hc
          exact ⟨u, by rw [Nat.zero_add]; exact row_cell c1 c3 d1, d3.mono (Nat.le_refl _) (fun _ _ _ => rfl) fun b _ => h2 b⟩
        refine .ptr (fun q => (w.cell? ⟨b', 0 + i * kk + q, none⟩).getD undef) hlt (h3 j _ b' ho (by rw [e1]; rfl)) (g3 y (List.mem_of_getElem? hy')) (fun q c hc => ?_) (fun q c hc => ?_)
        · obtain ⟨u, d1, _⟩ := hex q c hc
          rw [d1]; rfl
        · obtain ⟨u, d1, d2⟩ := hex q c hc
          rw [d1]; exact d2
  · exact h1.env t' a ha

section
variable {P : Program} {F : Fr} {Q : Exit → AS → Prop} {s : AS} {c : Code} {ops : Array Oper} {l : List Oper}
theorem a_adopt {sn : Nat} {env : List (Nat × AV)} {hp : List (Nat × List AObj)} (t f : Nat) {T E : TypeId} {kk by_ : Nat} (S : SlTy P T E kk by_) {env' : List (Nat × AV)} {hp1 hp' : List (Nat × List AObj)} (ht : get env t = some (.d (.sl (some true) []))) (hE : killE? f env = some env') (hH : killH? f hp = some hp1) (hh : hnew? hp1 f (.rowD E kk []) = some hp')
    (h : Awp P F c Q ⟨sn, (t, .own f 0 0) :: env', hp'⟩) : Awp P F c Q ⟨sn, env, hp⟩ := fun _ _ _ hs => h _ _ _ (hs.adopt t f S ht hE hH hh)
theorem o_adopt {sn : Nat} {env : List (Nat × AV)} {hp : List (Nat × List AObj)} (t f : Nat) {T E : TypeId} {kk by_ : Nat} (S : SlTy P T E kk by_) {env' : List (Nat × AV)} {hp1 hp' : List (Nat × List AObj)} (ht : get env t = some (.d (.sl (some true) []))) (hE : killE? f env = some env') (hH : killH? f hp = some hp1) (hh : hnew? hp1 f (.rowD E kk []) = some hp')
    (h : Aops P F ops l Q ⟨sn, (t, .own f 0 0) :: env', hp'⟩) : Aops P F ops l Q ⟨sn, env, hp⟩ := fun _ _ _ hs => h _ _ _ (hs.adopt t f S ht hE hH hh)
theorem a_freeze {sn : Nat} {env : List (Nat × AV)} {hp : List (Nat × List AObj)} (t f : Nat) {j n kk : Nat} {E : TypeId} {xs ys : List D} {env' : List (Nat × AV)} {hp1 hp' : List (Nat × List AObj)} (ht : get env t = some (.own f j n)) (ho : hget hp f j = some (.rowD E kk xs)) (hn : n ≤ xs.length) (hys : xs.take n = ys) (hE : killE? f env = some env') (hH : killH? f hp = some hp1) (hh : hdel? f hp1 = some hp') (hone : hfam hp f = some [.rowD E kk xs])
    (h : Awp P F c Q ⟨sn, (t, .d (.sl none ys)) :: env', hp'⟩) : Awp P F c Q ⟨sn, env, hp⟩ := fun _ _ _ hs => h _ _ _ (hs.freeze t f ht ho hn hys hE hH hh hone)
theorem o_freeze {sn : Nat} {env : List (Nat × AV)} {hp : List (Nat × List AObj)} (t f : Nat) {j n kk : Nat} {E : TypeId} {xs ys : List D} {env' : List (Nat × AV)} {hp1 hp' : List (Nat × List AObj)} (ht : get env t = some (.own f j n)) (ho : hget hp f j = some (.rowD E kk xs)) (hn : n ≤ xs.length) (hys : xs.take n = ys) (hE : killE? f env = some env') (hH : killH? f hp = some hp1) (hh : hdel? f hp1 = some hp') (hone : hfam hp f = some [.rowD E kk xs])
    (h : Aops P F ops l Q ⟨sn, (t, .d (.sl none ys)) :: env', hp'⟩) : Aops P F ops l Q ⟨sn, env, hp⟩ := fun _ _ _ hs => h _ _ _ (hs.freeze t f ht ho hn hys hE hH hh hone)
end

end Go.Proofs.Ytjbghmlofjkcfaa
