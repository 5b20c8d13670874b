/- Rows of frozen elements that the call owns: places, loads, stores, append, literals, make; a nil slice taken over; a row that becomes frozen. No program in sight. -/
import Derived.Test.YtjbghmlofjkcfaaMem2
namespace Go.Proofs.Ytjbghmlofjkcfaa
open Go.RowKit

theorem ownsRow_form {w : World} {base : Nat} {e : TypeId} {size n : Nat} {v : Value} {us : List Value} (h : w.ownsRow base e size v n us) : ∃ a cap, v = .slice a n cap ∧ n ≤ cap ∧ cap ≤ maxLen ∧ (a = none → cap = 0) ∧
    (0 < n → ∃ b cur, a = some ⟨b, 0, none⟩ ∧ w.heap[b]? = some (.cells cur e (0, 0)) ∧ cur.size = cap * size ∧ cur.toList.take (n * size) = us) := by
  rcases h.2 with ⟨rfl, rfl⟩ | ⟨g, cap, cur, rfl, _, h2, h3, h4, h5, h6⟩
  · exact ⟨none, 0, rfl, Nat.le_refl _, by unfold maxLen; omega, fun _ => rfl, fun h0 => absurd h0 (by omega)⟩
  · exact ⟨_, cap, rfl, h3, h4, (fun h0 => by cases h0), fun _ => ⟨g, cur, rfl, h2, h5, h6⟩⟩
theorem ownsRow_take {w : World} {base : Nat} {e : TypeId} {size n m : Nat} {a : Option Addr} {N cap : Nat} {us : List Value} (h : w.ownsRow base e size (.slice a N cap) n us) (hm : m ≤ n) : w.ownsRow base e size (.slice a m cap) m (us.take (m * size)) := by
  have hle : m * size ≤ n * size := Nat.mul_le_mul_right _ hm
  refine ⟨by rw [List.length_take, h.1]; omega, ?_⟩
  rcases h.2 with ⟨e1, rfl⟩ | ⟨g, cap', cur, e1, h1, h2, h3, h4, h5, h6⟩
  · injection e1 with e1 e2 e3
    subst e1 e2 e3
    have : m = 0 := by omega
    subst this
    exact .inl ⟨rfl, rfl⟩
  · injection e1 with e1 e2 e3
    subst e1 e2 e3
    exact .inr ⟨g, cap, cur, rfl, h1, h2, by omega, h4, h5, by rw [← h6, List.take_take]; congr 1; omega⟩

/-- The cells of an owned row. -/
theorem SR.rowD {F : Fr} {s : AS} {ρ : Nat → Nat → Value} {act : Act} {w : World} (h : SR F s ρ act w) {f j : Nat} {t : TypeId} {k : Nat} {xs : List D} (ho : hget s.hp f j = some (.rowD t k xs)) :
    ∃ (us : List Value) (a : Option Addr) (cap : Nat), ρ f j = .slice a xs.length cap ∧ w.ownsRow 0 t k (.slice a xs.length cap) xs.length us ∧ Lies D.cells k (RepD w (F.O ρ s.hp)) xs us ∧ (∀ x ∈ xs, ∀ c ∈ x.cells, c.one = true) ∧
      (xs.length ≤ cap ∧ cap ≤ maxLen ∧ (a = none → cap = 0)) ∧ (0 < xs.length → ∃ b, a = some ⟨b, 0, none⟩ ∧ ∃ cur, w.heap[b]? = some (.cells cur t (0, 0)) ∧ cur.size = cap * k ∧ cur.toList.take (xs.length * k) = us) := by
  obtain ⟨us, h1, h2, h3⟩ := h.heap.sim f j _ ho
  obtain ⟨a, cap, e, h4, h5, h6, h7⟩ := ownsRow_form h1
  rw [e] at h1
  refine ⟨us, a, cap, e, h1, h2, h3, ⟨h4, h5, h6⟩, fun h0 => ?_⟩
  obtain ⟨b, cur, h8, h9⟩ := h7 h0
  exact ⟨b, h8, cur, h9⟩
theorem row_cell {w : World} {b : Nat} {cur : Array Value} {t : TypeId} {us : List Value} {m j : Nat} {u : Value} (h : w.heap[b]? = some (.cells cur t (0, 0))) (hu : cur.toList.take m = us) (hj : us[j]? = some u) : w.cell? ⟨b, j, none⟩ = some u := by
  rw [cell_of_row w b j cur t (0, 0) h]
  rw [← hu, List.getElem?_take] at hj
  split at hj
  · simpa using hj
  · cases hj

/-- Frozen elements as a list of cells: for append's source. -/
theorem RepD.lies {w : World} {O : Nat → Prop} {nil : Option Bool} {ys : List D} {a : Option Addr} {m cap k : Nat} (h : RepD w O (.sl nil ys) (.slice a m cap)) (hk : ∀ y ∈ ys, y.cells.length = k) :
    ∃ news : List Value, Reads w w.heap.size k a m news ∧ Lies D.cells k (RepD w O) ys news ∧ (∀ y ∈ ys, ∀ c ∈ y.cells, c.one = true) ∧ m = ys.length := by
  cases h with
  | sl k' hn hz hln hc hm hk' ha hp =>
    subst hln
    rcases Nat.eq_zero_or_pos ys.length with h0 | h0
    · have : ys = [] := List.eq_nil_of_length_eq_zero h0
      subst this
      exact ⟨[], ⟨by simp, fun h => absurd h (by simp)⟩, ⟨by simp, by simp, fun i x hx => by simp at hx⟩, by simp, rfl⟩
    · obtain ⟨b, o, rfl⟩ := ha (by intro e; subst e; simp at h0)
      have hcell : ∀ (i : Nat) x, ys[i]? = some x → b < w.heap.size ∧ (∀ c ∈ x.cells, c.one = true) ∧ ∀ (j : Nat) c, x.cells[j]? = some c → ∃ u, w.cell? ⟨b, o + (i * k + j), none⟩ = some u ∧ RepD w O c u := fun i x hx => by
        have hkk : k' = k := by rw [← hk' x (List.mem_of_getElem? hx), hk x (List.mem_of_getElem? hx)]
        subst hkk
        have := hp b o rfl i x hx
        cases this with
        | ptr us hb hO h1 hc hu => exact ⟨hb, h1, fun j c hj => ⟨us j, by rw [← Nat.add_assoc]; exact hc j c hj, hu j c hj⟩⟩
      refine ⟨(List.range (ys.length * k)).map fun j => (w.cell? ⟨b, o + j, none⟩).getD undef, ⟨by simp, fun _ => ⟨_, rfl, ?_, fun j u hu => ?_⟩⟩, ⟨by simp, hk, fun i x hx j c hj => ?_⟩, fun y hy c hc => ?_, rfl⟩
      · obtain ⟨x, hx⟩ := List.getElem?_some_of_lt h0
        exact (hcell 0 x hx).1
      · rw [List.getElem?_map] at hu
        have hlt : j < ys.length * k := by
          rcases Nat.lt_or_ge j (ys.length * k) with h | h
          · exact h
          · rw [List.getElem?_eq_none (by simpa using h)] at hu; cases hu
        rw [List.getElem?_range hlt] at hu
        simp only [Option.map_some, Option.some.injEq] at hu
        have hk0 : 0 < k := by
          rcases Nat.eq_zero_or_pos k with h | h
          · subst h; simp at hlt
          · exact h
        have hi : j / k < ys.length := (Nat.div_lt_iff_lt_mul hk0).2 hlt
        have hmod : j % k < k := Nat.mod_lt _ hk0
        obtain ⟨x, hx⟩ := List.getElem?_some_of_lt hi
        have hlen := hk x (List.mem_of_getElem? hx)
        obtain ⟨c, hc'⟩ := List.getElem?_some_of_lt (l := x.cells) (i := j % k) (by omega)
        obtain ⟨u', h1, _⟩ := (hcell _ x hx).2.2 _ c hc'
        have hj : j / k * k + j % k = j := by rw [Nat.mul_comm]; exact Nat.div_add_mod j k
        rw [hj] at h1
        rw [Addr.add_mid, h1]
        rw [h1] at hu
        simpa using hu
      · obtain ⟨u, h1, h2⟩ := (hcell i x hx).2.2 j c hj
        have hlen := hk x (List.mem_of_getElem? hx)
        have hjk : j < k := by rw [← hlen]; exact (List.getElem?_eq_some_iff.1 hj).1
        have hil : i < ys.length := (List.getElem?_eq_some_iff.1 hx).1
        have hlt : i * k + j < ys.length * k := by
          have : (i + 1) * k ≤ ys.length * k := Nat.mul_le_mul_right _ hil
          rw [Nat.add_mul] at this; omega
        refine ⟨u, by rw [List.getElem?_map, List.getElem?_range hlt]; simp [h1], h2.oneCell ((hcell i x hx).2.1 c (List.mem_of_getElem? hj)), h2⟩
      · obtain ⟨i, hi, rfl⟩ := List.getElem_of_mem hy
        exact (hcell i _ (List.getElem?_eq_getElem hi)).2.1 c hc

theorem Lies.append {α : Type} {cells : α → List α} {k : Nat} {R : α → Value → Prop} {xs ys : List α} {us vs : List Value} (h : Lies cells k R xs us) (h' : Lies cells k R ys vs) : Lies cells k R (xs ++ ys) (us ++ vs) := by
  refine ⟨by rw [List.length_append, List.length_append, h.1, h'.1, Nat.add_mul], fun x hx => ?_, fun i x hx j c hc => ?_⟩
  · rcases List.mem_append.1 hx with hx | hx
    · exact h.2.1 x hx
    · exact h'.2.1 x hx
  · have hlen : (cells x).length = k := by
      have := List.mem_of_getElem? hx
      rcases List.mem_append.1 this with hx | hx
      · exact h.2.1 x hx
      · exact h'.2.1 x hx
    have hjk : j < k := by rw [← hlen]; exact (List.getElem?_eq_some_iff.1 hc).1
    rw [List.getElem?_append] at hx
    split at hx
    · rename_i hi
      obtain ⟨u, h1, h2⟩ := h.2.2 i x hx j c hc
      refine ⟨u, ?_, h2⟩
      rw [List.getElem?_append_left (by exact (List.getElem?_eq_some_iff.1 h1).1)]; exact h1
    · rename_i hi
      obtain ⟨u, h1, h2⟩ := h'.2.2 _ x hx j c hc
      refine ⟨u, ?_, h2⟩
      have hge : xs.length * k ≤ i * k := Nat.mul_le_mul_right _ (by omega)
      rw [List.getElem?_append_right (by rw [h.1]; omega), h.1]
      have : i * k + j - xs.length * k = (i - xs.length) * k + j := by rw [Nat.sub_mul]; omega
      rw [this]; exact h1
theorem Lies.take {α : Type} {cells : α → List α} {k : Nat} {R : α → Value → Prop} {xs : List α} {us : List Value} (h : Lies cells k R xs us) (n : Nat) (hn : n ≤ xs.length) : Lies cells k R (xs.take n) (us.take (n * k)) := by
  have hle : n * k ≤ xs.length * k := Nat.mul_le_mul_right _ hn
  refine ⟨by rw [List.length_take, List.length_take, h.1]; rw [Nat.min_eq_left hle, Nat.min_eq_left hn], fun x hx => h.2.1 x (List.mem_of_mem_take hx), fun i x hx j c hc => ?_⟩
  have hlen : (cells x).length = k := h.2.1 x (List.mem_of_mem_take (List.mem_of_getElem? hx))
  have hjk : j < k := by rw [← hlen]; exact (List.getElem?_eq_some_iff.1 hc).1
  rw [List.getElem?_take] at hx
  split at hx
  · rename_i hi
    obtain ⟨u, h1, h2⟩ := h.2.2 i x hx j c hc
    refine ⟨u, ?_, h2⟩
    have : (i + 1) * k ≤ n * k := Nat.mul_le_mul_right _ hi
    rw [Nat.add_mul] at this
    rw [List.getElem?_take, if_pos (by omega)]; exact h1
  · cases hx

section
variable {P : Program} {F : Fr} {s : AS} {d : Nat} {ty T E : TypeId} {pos : String} {aft : Array Edge} {g : Option (Nat × Bool)} {x y : Operand} {k : IntKind} {i : Int}

/-- The place of an element of an owned row. -/
theorem st_indexO {f j n kk : Nat} {t : TypeId} {xs : List D} (m : Nat) (hx : s.ev x = some (.own f j n)) (hy : s.ev y = some (.d (.raw (.int k i)))) (hi : i = (m : Int)) (hm : m < n) (ho : hget s.hp f j = some (.rowD t kk xs)) (hT : P.underlying T = some (.slice E)) (hE : sizeTy P E kk = true) (hd : Nat.blt d s.n = true) :
    Pstep P F ⟨some d, .indexAddr T x y, ty, pos, aft, g⟩ s d (.rptr f j kk m 0) :=
  step_val _ hd fun ρ act w hs => by
    have h := hs.ev hx
    generalize hv : act.eval x = u at h
    obtain ⟨us, a, cap, e1, h1, h2, h3, h4, h5⟩ := hs.rowD ho
    subst hi
    cases h with
    | own hρ hn =>
      rw [e1] at hρ
      injection hρ with e2 e3 e4
      subst e2 e3 e4
      obtain ⟨b, rfl, _⟩ := h5 (by omega)
      exact ⟨.pointer (some ⟨b, m * kk + 0, none⟩), by simp [execOp, Instr.indexAt, asIntOf, hs.raw hy, hv, run_underlying hT, hm, run_sizeOf (sizeTy_spec hE), Addr.add_mid], .rptr e1⟩

theorem st_loadR {f j kk e off : Nat} {t : TypeId} {xs : List D} {z c : D} (hx : s.ev x = some (.rptr f j kk e off)) (ho : hget s.hp f j = some (.rowD t kk xs)) (hz : xs[e]? = some z) (hc : z.cells[off]? = some c) (hT : oneTy P T = true) (hd : Nat.blt d s.n = true) :
    Pstep P F ⟨some d, .load T x, ty, pos, aft, g⟩ s d (.d c) :=
  step_val _ hd fun ρ act w hs => by
    have h := hs.ev hx
    generalize hv : act.eval x = u at h
    obtain ⟨us, a, cap, e1, h1, h2, h3, h4, h5⟩ := hs.rowD ho
    cases h with
    | @rptr _ _ _ _ _ b N cap' hρ =>
      rw [e1] at hρ
      injection hρ with e2 e3 e4
      subst e2 e3 e4
      have hlt : e < xs.length := (List.getElem?_eq_some_iff.1 hz).1
      obtain ⟨b', e5, cur, h6, h7, h8⟩ := h5 (by omega)
      injection e5 with e5; injection e5 with e5; subst e5
      obtain ⟨u, h9, h10, h11⟩ := h2.2.2 e z hz off c hc
      have hcell := row_cell h6 h8 h9
      exact ⟨u, by simp [execOp, hv, Instr.loadAt, Instr.sureAddr, loadVar, oneTy_spec hT, hcell], .d h11⟩
theorem st_loadRS {f j kk e : Nat} {t : TypeId} {xs : List D} {cs : List D} (hx : s.ev x = some (.rptr f j kk e 0)) (ho : hget s.hp f j = some (.rowD t kk xs)) (hz : xs[e]? = some (.agg cs)) {kz : Nat} (hkz : cs.length = kz) (hT : rowTy P T kz = true) (hd : Nat.blt d s.n = true) :
    Pstep P F ⟨some d, .load T x, ty, pos, aft, g⟩ s d (.d (.agg cs)) :=
  step_val _ hd fun ρ act w hs => by
    subst hkz
    have h := hs.ev hx
    generalize hv : act.eval x = u at h
    obtain ⟨us, a, cap, e1, h1, h2, h3, h4, h5⟩ := hs.rowD ho
    cases h with
    | @rptr _ _ _ _ _ b N cap' hρ =>
      rw [e1] at hρ
      injection hρ with e2 e3 e4
      subst e2 e3 e4
      have hlt : e < xs.length := (List.getElem?_eq_some_iff.1 hz).1
      obtain ⟨b', e5, cur, h6, h7, h8⟩ := h5 (by omega)
      injection e5 with e5; injection e5 with e5; subst e5
      obtain ⟨⟨ds, g1, g2⟩, g3⟩ := rowTy_spec hT
      have hk : cs.length = kk := h2.2.1 _ (List.mem_of_getElem? hz)
      obtain ⟨l, hl, hlj⟩ := list_of_fn (n := cs.length) fun q => (us[e * kk + q]?).getD undef
      have hq : ∀ q, q < cs.length → ∃ u, us[e * kk + q]? = some u ∧ l[q]? = some u ∧ RepD w (F.O ρ s.hp) (cs[q]?.getD (.raw undef)) u := fun q hq => by
        obtain ⟨u, a1, a2, a3⟩ := h2.2.2 e _ hz q cs[q] (List.getElem?_eq_getElem hq)
        refine ⟨u, a1, by rw [hlj q hq, a1]; rfl, ?_⟩
        rw [List.getElem?_eq_getElem hq]; exact a3
      have hr := run_loadAt_mid (P := P) w b (e * kk) T l ds (fun q v hv => by
        have hqlt : q < cs.length := by rw [← hl]; exact (List.getElem?_eq_some_iff.1 hv).1
        obtain ⟨u, a1, a2, _⟩ := hq q hqlt
        rw [a2] at hv; injection hv with hv; subst hv
        exact row_cell h6 h8 a1) g1 g2 (by rw [hl]; exact g3)
      refine ⟨.agg l.toArray, by simp [execOp, hv, hr], .d (.agg hl (h3 _ (List.mem_of_getElem? hz)) fun q c u hc hu => ?_)⟩
      have hqlt : q < cs.length := (List.getElem?_eq_some_iff.1 hc).1
      obtain ⟨u', a1, a2, a3⟩ := hq q hqlt
      rw [a2] at hu; injection hu with hu; subst hu
      rw [hc] at a3; exact a3

theorem setL_take {α : Type} (cs : List α) (off m : Nat) (l : List α) (h : off + l.length ≤ m) (hm : m ≤ cs.length) : (setL cs off l).take m = setL (cs.take m) off l := by
  apply List.ext_getElem?
  intro j
  rw [List.getElem?_take, setL_get _ _ _ (by omega), setL_get _ _ _ (by rw [List.length_take]; omega), List.getElem?_take]
  by_cases hj : j < m
  · simp [hj]
  · rw [if_neg hj, if_neg (by omega), if_neg hj]

/-- A store into an element of an owned row: its cells from off on. -/
theorem st_storeR {f j kk e off : Nat} {t : TypeId} {xs : List D} {z z' v : D} {hp' : List (Nat × List AObj)} (hx : s.ev x = some (.rptr f j kk e off)) (hy : s.ev y = some (.d v)) (hv : (match v with | .tup _ => false | _ => true) = true) (ho : hget s.hp f j = some (.rowD t kk xs)) (hz : xs[e]? = some z)
    (hz' : z'.cells = setL z.cells off v.cells) (hoff : off + v.cells.length ≤ z.cells.length) {xs' : List D} (hxs' : xs.set e z' = xs') (hh : hset? s.hp f j (.rowD t kk xs') = some hp') {kz : Nat} (hkz : v.cells.length = kz) (hT : sizeTy P T kz = true) :
    Estep P F ⟨none, .store T x y, ty, pos, aft, g⟩ s ⟨s.n, s.env, hp'⟩ (fun _ _ => true) := fun ρ act w hs => by
  subst hkz hxs'
  have h := hs.ev hx
  generalize hvx : act.eval x = u at h
  obtain ⟨us, a, cap, e1, h1, h2, h3, h4, h5⟩ := hs.rowD ho
  cases h with
  | @rptr _ _ _ _ _ b N cap' hρ =>
    rw [e1] at hρ
    injection hρ with e2 e3 e4
    subst e2 e3 e4
    have hlt : e < xs.length := (List.getElem?_eq_some_iff.1 hz).1
    obtain ⟨b', e5, cur, h6, h7, h8⟩ := h5 (by omega)
    injection e5 with e5; injection e5 with e5; subst e5
    have hk : z.cells.length = kk := h2.2.1 _ (List.mem_of_getElem? hz)
    have hrv := hs.repD hy
    generalize hvy : act.eval y = vy at hrv
    -- the value's cells
    have hcells : vy.cells.toList.length = v.cells.length ∧ (∀ c ∈ v.cells, c.one = true) ∧ ∀ (q : Nat) c u, v.cells[q]? = some c → vy.cells.toList[q]? = some u → RepD w (F.O ρ s.hp) c u ∧ u.oneCell' = true := by
      have one : ∀ {v : D} {vy : Value}, v.one = true → RepD w (F.O ρ s.hp) v vy → vy.cells.toList.length = v.cells.length ∧ (∀ c ∈ v.cells, c.one = true) ∧ ∀ (q : Nat) c u, v.cells[q]? = some c → vy.cells.toList[q]? = some u → RepD w (F.O ρ s.hp) c u ∧ u.oneCell' = true := fun {v vy} h1 h => by
        have h2 := h.oneCell h1
        have hc : vy.cells.toList = [vy] := by cases vy <;> first | rfl | cases h2
        rw [hc, D.cells_one h1]
        refine ⟨rfl, by simp [h1], fun q c u hc hu => ?_⟩
        cases q with
        | zero => simp at hc hu; subst hc hu; exact ⟨h, h2⟩
        | succ q => simp at hc
      cases v with
      | agg cs =>
        cases hrv with
        | agg a1 a2 a3 => exact ⟨by simpa [Value.cells, D.cells] using a1, a2, fun q c u hc hu => by
            have hr := a3 q c u hc (by simpa [Value.cells] using hu)
            exact ⟨hr, hr.oneCell (a2 c (List.mem_of_getElem? hc))⟩⟩
      | tup _ => cases hv
      | raw _ => exact one rfl hrv
      | sl _ _ => exact one rfl hrv
      | ptr _ => exact one rfl hrv
    obtain ⟨c1, c2, c3⟩ := hcells
    have hlen : e * kk + off + vy.cells.toList.length ≤ us.length := by
      rw [c1, h2.1]
      have : (e + 1) * kk ≤ xs.length * kk := Nat.mul_le_mul_right _ hlt
      rw [Nat.add_mul] at this; omega
    have hcl : us.length ≤ cur.toList.length := by rw [← h8, List.length_take]; omega
    have hone : ∀ u ∈ vy.cells.toList, u.oneCell' = true := fun u hu => by
      obtain ⟨q, hq, rfl⟩ := List.getElem_of_mem hu
      exact (c3 q _ _ (List.getElem?_eq_getElem (by omega)) (List.getElem?_eq_getElem hq)).2
    have h6' : w.heap[b]? = some (.cells cur.toList.toArray t (0, 0)) := by simpa using h6
    have hrun := run_store_own (P := P) (T := T) (o := e * kk + off) h6' (by rw [c1]; exact sizeTy_spec hT) (by omega) hone
    have hex : (execOp act.eval ⟨none, .store T x y, ty, pos, aft, g⟩).run P w = .ok .skip (w.setCells b (e * kk + off) vy.cells.toList) := by
      simp [execOp, hvx, hvy, hrun]
    unfold Oper.wp
    rw [hex]
    obtain ⟨g1, g2, g3, g4⟩ := setCells_same (b := b) vy.cells.toList (e * kk + off) w
    refine ⟨ρ, hs.write f j _ _ ho (hset?_spec hh) g1 g2 g3 g4 (fun b' hb' => heap_setCells_other _ _ _ _ (fun e => hb' (by rw [e1, e]; rfl))) (fun _ _ e => by cases e) fun hrep => ?_, fun _ _ _ => rfl⟩
    have hrepD : ∀ c u, RepD w (F.O ρ s.hp) c u → RepD (w.setCells b (e * kk + off) vy.cells.toList) (F.O ρ hp') c u := fun c u hr => by
      have := hrep (.d c) u (.d hr)
      cases this with | d h => exact h
    rw [e1]
    refine ⟨setL us (e * kk + off) vy.cells.toList, ?_, ⟨?_, fun x' hx' => ?_, fun i' x' hx' q c hc => ?_⟩, fun x' hx' c hc => ?_⟩
    · refine ⟨by rw [setL_length, h2.1, List.length_set], .inr ⟨b, cap, (setL cur.toList (e * kk + off) vy.cells.toList).toArray, by simp, by omega, ?_, by simpa using h4.1, h4.2.1, by simp [setL_length, h7], ?_⟩⟩
      · simpa using heap_setCells_block (fr := (0, 0)) vy.cells.toList cur.toList (e * kk + off) w h6'
      · have hml : (xs.set e z').length * kk = us.length := by rw [List.length_set, h2.1]
        rw [hml]
        show (setL cur.toList (e * kk + off) vy.cells.toList).take us.length = _
        rw [setL_take _ _ _ _ hlen hcl]
        have : cur.toList.take us.length = us := by rw [h2.1]; exact h8
        rw [this]
    · rw [setL_length, h2.1, List.length_set]
    · rcases List.mem_or_eq_of_mem_set hx' with hx' | rfl
      · exact h2.2.1 _ hx'
      · rw [hz', setL_length]; exact hk
    · rw [setL_get _ _ _ hlen]
      have hqk : q < kk := by
        have : x'.cells.length = kk := by
          rcases List.mem_or_eq_of_mem_set (List.mem_of_getElem? hx') with hx' | rfl
          · exact h2.2.1 _ hx'
          · rw [hz', setL_length]; exact hk
        rw [← this]; exact (List.getElem?_eq_some_iff.1 hc).1
      by_cases he : e = i'
      · subst he
        rw [List.getElem?_set_self hlt] at hx'
        injection hx' with hx'; subst hx'
        rw [hz', setL_get _ _ _ hoff] at hc
        by_cases hq : off ≤ q ∧ q < off + v.cells.length
        · rw [if_pos hq] at hc
          have hq2 : q - off < vy.cells.toList.length := by omega
          obtain ⟨a1, a2⟩ := c3 _ _ _ hc (List.getElem?_eq_getElem hq2)
          refine ⟨_, by rw [if_pos (by omega)]; rw [show e * kk + q - (e * kk + off) = q - off by omega]; exact List.getElem?_eq_getElem hq2, a2, hrepD _ _ a1⟩
        · rw [if_neg hq] at hc
          obtain ⟨u, a1, a2, a3⟩ := h2.2.2 e z hz q c hc
          exact ⟨u, by rw [if_neg (by omega)]; exact a1, a2, hrepD _ _ a3⟩
      · rw [List.getElem?_set_ne he] at hx'
        obtain ⟨u, a1, a2, a3⟩ := h2.2.2 i' x' hx' q c hc
        refine ⟨u, ?_, a2, hrepD _ _ a3⟩
        rw [if_neg]
        · exact a1
        · rintro ⟨b1, b2⟩
          rcases Nat.lt_or_ge i' e with hl | hl
          · have : (i' + 1) * kk ≤ e * kk := Nat.mul_le_mul_right _ hl
            rw [Nat.add_mul] at this; omega
          · have : (e + 1) * kk ≤ i' * kk := Nat.mul_le_mul_right _ (by omega)
            rw [Nat.add_mul] at this; omega
    · rcases List.mem_or_eq_of_mem_set hx' with hx' | rfl
      · exact h3 _ hx' c hc
      · rw [hz'] at hc
        obtain ⟨q, hq, rfl⟩ := List.getElem_of_mem hc
        have hg : (setL z.cells off v.cells)[q]? = some ((setL z.cells off v.cells)[q]) := List.getElem?_eq_getElem hq
        rw [setL_get _ _ _ hoff] at hg
        split at hg
        · exact c2 _ (List.mem_of_getElem? hg)
        · exact h3 z (List.mem_of_getElem? hz) _ (List.mem_of_getElem? hg)
/-- A store of a whole element of one cell. -/
theorem st_storeR10 {f j kk e : Nat} {t : TypeId} {xs : List D} {v : D} {hp' : List (Nat × List AObj)} (hx : s.ev x = some (.rptr f j kk e 0)) (hy : s.ev y = some (.d v)) (hv : v.one = true) (ho : hget s.hp f j = some (.rowD t kk xs)) (hkk : kk = 1) (hlt : e < xs.length)
    {xs' : List D} (hxs' : xs.set e v = xs') (hh : hset? s.hp f j (.rowD t kk xs') = some hp') (hT : sizeTy P T 1 = true) :
    Estep P F ⟨none, .store T x y, ty, pos, aft, g⟩ s ⟨s.n, s.env, hp'⟩ (fun _ _ => true) := fun ρ act w hs => by
  obtain ⟨us, a, cap, e1, h1, h2, h3, h4, h5⟩ := hs.rowD ho
  have hz := List.getElem?_eq_getElem hlt
  have hk : xs[e].cells.length = 1 := by rw [← hkk]; exact h2.2.1 _ (List.mem_of_getElem? hz)
  have hvc := D.cells_one hv
  refine st_storeR (z := xs[e]) (z' := v) hx hy (by cases v <;> first | rfl | cases hv) ho hz ?_ (by rw [hvc, hk]; exact Nat.le_refl _) hxs' hh (by rw [hvc]; rfl) hT ρ act w hs
  rw [hvc]
  match hc : xs[e].cells, hk with
  | [c], _ => rfl
end
section
variable {P : Program} {F : Fr} {d : Nat} {ty T T' : TypeId} {pos : String} {aft : Array Edge} {g : Option (Nat × Bool)} {x y : Operand}
theorem st_storeR1 {n : Nat} {env : List (Nat × AV)} {hp : List (Nat × List AObj)} {f j kk e : Nat} {t : TypeId} {xs : List D} {v : D} {hp' : List (Nat × List AObj)} (hx : AS.ev ⟨n, env, hp⟩ x = some (.rptr f j kk e 0)) (hy : AS.ev ⟨n, env, hp⟩ y = some (.d v)) (hv : v.one = true) (ho : hget hp f j = some (.rowD t kk xs)) (hkk : kk = 1) (hlt : e < xs.length)
    {xs' : List D} (hxs' : xs.set e v = xs') (hh : hset? hp f j (.rowD t kk xs') = some hp') (hT : sizeTy P T 1 = true) :
    Estep P F ⟨none, .store T x y, ty, pos, aft, g⟩ ⟨n, env, hp⟩ ⟨n, env, hp'⟩ (fun _ _ => true) := st_storeR10 hx hy hv ho hkk hlt hxs' hh hT
end

end Go.Proofs.Ytjbghmlofjkcfaa
