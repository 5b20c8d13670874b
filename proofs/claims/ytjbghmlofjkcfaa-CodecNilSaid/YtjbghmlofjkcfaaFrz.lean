/- Rows that a variable's cell owns become frozen. No program in sight. -/
import Derived.Test.YtjbghmlofjkcfaaApp
namespace Go.Proofs.Ytjbghmlofjkcfaa
open Go.RowKit

theorem own_frozen {F : Fr} {s : AS} {ρ : Nat → Nat → Value} {act : Act} {w : World} (h : SR F s ρ act w) {f j n kk : Nat} {E : TypeId} {xs ys : List D} {hp' : Hp} (ho : hget s.hp f j = some (.rowD E kk xs)) (hn : n ≤ xs.length) (hys : xs.take n = ys)
    (h2 : ∀ b, F.O ρ hp' b → F.O ρ s.hp b) (h3 : ∀ b, blkOf (ρ f j) = some b → ¬ F.O ρ hp' b) {O : Nat → Prop} {v : Value} (hr : RepA w O ρ (.own f j n) v) : RepD w (F.O ρ hp') (.sl none ys) v := by
  obtain ⟨us, a, cap, e1, g1, g2, g3, g4, g5⟩ := h.rowD ho
  cases hr with
  | own hρ hn' =>
    rw [e1] at hρ
    injection hρ with e2 e3 e4
    subst e2 e3 e4
    refine .sl kk (fun _ h => by cases h) g4.2.2 (by rw [← hys, List.length_take]; omega) (by omega) g4.2.1 (fun y hy => g2.2.1 y (by rw [← hys] at hy; exact List.mem_of_mem_take hy)) (fun hne => ?_) (fun b o hb i y hy => ?_)
    · have : 0 < xs.length := by
        rcases Nat.eq_zero_or_pos xs.length with h0 | h0
        · exfalso; apply hne; rw [← hys, List.eq_nil_of_length_eq_zero h0]; simp
        · exact h0
      obtain ⟨b, hb, _⟩ := g5 this
      exact ⟨b, 0, hb⟩
    · have hy' : xs[i]? = some y := by
        rw [← hys, List.getElem?_take] at hy
        split at hy
        · exact hy
        · cases hy
      have hil : i < xs.length := (List.getElem?_eq_some_iff.1 hy').1
      obtain ⟨b', hb', cur, c1, c2, c3⟩ := g5 (by omega)
      rw [hb'] at hb
      injection hb with hb; injection hb with hb1 hb2; subst hb1 hb2
      subst hb'
      have hlt : b' < w.heap.size := (Array.getElem?_eq_some_iff.1 c1).1
      have hex : ∀ (q : Nat) c, y.cells[q]? = some c → ∃ u, w.cell? ⟨b', 0 + i * kk + q, none⟩ = some u ∧ RepD w (F.O ρ hp') c u := fun q c hc => by
        obtain ⟨u, d1, d2, d3⟩ := g2.2.2 i y hy' q c hc
        exact ⟨u, by rw [Nat.zero_add]; exact row_cell c1 c3 d1, d3.mono (Nat.le_refl _) (fun _ _ _ => rfl) fun b _ => h2 b⟩
      refine .ptr (fun q => (w.cell? ⟨b', 0 + i * kk + q, none⟩).getD undef) hlt (h3 b' (by rw [e1]; rfl)) (g3 y (List.mem_of_getElem? hy')) (fun q c hc => ?_) (fun q c hc => ?_)
      · obtain ⟨u, d1, _⟩ := hex q c hc
        rw [d1]; rfl
      · obtain ⟨u, d1, d2⟩ := hex q c hc
        rw [d1]; exact d2

/-- The row that a variable's cell refers to becomes frozen. -/
theorem SR.freezeC {F : Fr} {s : AS} {ρ : Nat → Nat → Value} {act : Act} {w : World} (h : SR F s ρ act w) (g i off f : Nat) {n kk : Nat} {t E : TypeId} {xs ys : List D} {cs cs1 cs' : List AV} {env' : List (Nat × AV)} {hp1 hp2 hp' : Hp}
    (ho : hget s.hp g i = some (.blk t cs)) (hc : cs[off]? = some (.own f 0 n)) (hone : hfam s.hp f = some [.rowD E kk xs]) (hn : n ≤ xs.length) (hys : xs.take n = ys)
    (hE : killE? f s.env = some env') (hH : killH? f s.hp = some hp1) (hh : hdel? f hp1 = some hp2) (ho1 : hget hp2 g i = some (.blk t cs1)) (hs' : setL? cs1 off [.d (.sl none ys)] = some cs') (hset : hset? hp2 g i (.blk t cs') = some hp') : SR F ⟨s.n, env', hp'⟩ ρ act w := by
  have hof : hget s.hp f 0 = some (.rowD E kk xs) := by simp [hget, hone]
  obtain ⟨h1, h2, h3⟩ := h.forget f hE hH hh (fun i t cs e => by
    simp only [hget, hone, Option.bind_some] at e
    cases i <;> simp at e)
  refine h1.write g i (.blk t cs1) (.blk t cs') ho1 (hset?_spec hset) rfl rfl rfl rfl (fun _ _ => rfl) (fun _ _ _ => ⟨_, _, rfl⟩) fun hrep => ?_
  obtain ⟨b, us, e1, e2, e3, e4, e5⟩ := h1.heap.sim g i _ ho1
  obtain ⟨b', us', f1, f2, f3, f4, f5⟩ := h.heap.sim g i _ ho
  rw [e1] at f1
  injection f1 with f1; injection f1 with f1; injection f1 with f1; subst f1
  rw [e2] at f2
  injection f2 with f2; injection f2 with f2
  have : us = us' := by simpa using congrArg Array.toList f2
  subst this
  obtain ⟨s1, s2, s3⟩ := setL?_spec _ _ _ _ hs'
  refine ⟨b, us, e1, e2, by rw [e3, s2], fun j c u hcj hu => ?_, e5⟩
  rw [s3] at hcj
  split at hcj
  · rename_i hj
    have hjo : j = off := by simp at hj; omega
    subst hjo
    simp at hcj; subst hcj
    have hr := own_frozen h (hp' := hp2) hof hn hys h2 (fun b hb => h3 0 _ b hof hb) (f4 j _ u hc hu)
    exact hrep _ _ (.d hr)
  · exact hrep _ _ (e4 j c u hcj hu)
section
variable {P : Program} {F : Fr} {Q : Exit → AS → Prop} {s : AS} {c : Code} {ops : Array Oper} {l l' : List Oper}
theorem a_freezeC {sn : Nat} {env : List (Nat × AV)} {hp : List (Nat × List AObj)} (g i off f : Nat) {n kk : Nat} {t E : TypeId} {xs ys : List D} {cs cs1 cs' : List AV} {env' : List (Nat × AV)} {hp1 hp2 hp' : Hp}
    (ho : hget hp g i = some (.blk t cs)) (hc : cs[off]? = some (.own f 0 n)) (hone : hfam hp f = some [.rowD E kk xs]) (hn : n ≤ xs.length) (hys : xs.take n = ys)
    (hE : killE? f env = some env') (hH : killH? f hp = some hp1) (hh : hdel? f hp1 = some hp2) (ho1 : hget hp2 g i = some (.blk t cs1)) (hs' : setL? cs1 off [.d (.sl none ys)] = some cs') (hset : hset? hp2 g i (.blk t cs') = some hp') (h : Awp P F c Q ⟨sn, env', hp'⟩) : Awp P F c Q ⟨sn, env, hp⟩ := fun _ _ _ hs => h _ _ _ (hs.freezeC g i off f ho hc hone hn hys hE hH hh ho1 hs' hset)
theorem o_freezeC {sn : Nat} {env : List (Nat × AV)} {hp : List (Nat × List AObj)} (g i off f : Nat) {n kk : Nat} {t E : TypeId} {xs ys : List D} {cs cs1 cs' : List AV} {env' : List (Nat × AV)} {hp1 hp2 hp' : Hp}
    (ho : hget hp g i = some (.blk t cs)) (hc : cs[off]? = some (.own f 0 n)) (hone : hfam hp f = some [.rowD E kk xs]) (hn : n ≤ xs.length) (hys : xs.take n = ys)
    (hE : killE? f env = some env') (hH : killH? f hp = some hp1) (hh : hdel? f hp1 = some hp2) (ho1 : hget hp2 g i = some (.blk t cs1)) (hs' : setL? cs1 off [.d (.sl none ys)] = some cs') (hset : hset? hp2 g i (.blk t cs') = some hp') (h : Aops P F ops l Q ⟨sn, env', hp'⟩) : Aops P F ops l Q ⟨sn, env, hp⟩ := fun _ _ _ hs => h _ _ _ (hs.freezeC g i off f ho hc hone hn hys hE hH hh ho1 hs' hset)
theorem a_freezeM {sn : Nat} {env : List (Nat × AV)} {hp : List (Nat × List AObj)} {α : Type} {emb : α → D} (t f : Nat) (l : List α) {n kk : Nat} {E : TypeId} {xs : List D} {env' : List (Nat × AV)} {hp1 hp' : Hp} (ht : get env t = some (.own f 0 n)) (hone : hfam hp f = some [.rowD E kk xs]) (hxs : xs = l.map emb) (hn : n = l.length) (hE : killE? f env = some env') (hH : killH? f hp = some hp1) (hh : hdel? f hp1 = some hp')
    (h : Awp P F c Q ⟨sn, (t, .d (.sl none (l.map emb))) :: env', hp'⟩) : Awp P F c Q ⟨sn, env, hp⟩ := by
  subst hxs hn
  exact a_freeze t f ht (by simp [hget, hone]) (by simp) (by rw [List.take_of_length_le (by simp)]) hE hH hh hone h
theorem o_freezeM {sn : Nat} {env : List (Nat × AV)} {hp : List (Nat × List AObj)} {α : Type} {emb : α → D} (t f : Nat) (l : List α) {n kk : Nat} {E : TypeId} {xs : List D} {env' : List (Nat × AV)} {hp1 hp' : Hp} (ht : get env t = some (.own f 0 n)) (hone : hfam hp f = some [.rowD E kk xs]) (hxs : xs = l.map emb) (hn : n = l.length) (hE : killE? f env = some env') (hH : killH? f hp = some hp1) (hh : hdel? f hp1 = some hp')
    (h : Aops P F ops l' Q ⟨sn, (t, .d (.sl none (l.map emb))) :: env', hp'⟩) : Aops P F ops l' Q ⟨sn, env, hp⟩ := by
  subst hxs hn
  exact o_freeze t f ht (by simp [hget, hone]) (by simp) (by rw [List.take_of_length_le (by simp)]) hE hH hh hone h
theorem o_freezeCM {sn : Nat} {env : List (Nat × AV)} {hp : List (Nat × List AObj)} {α : Type} {emb : α → D} (g i off f : Nat) (l : List α) {n kk : Nat} {t E : TypeId} {xs : List D} {cs cs1 cs' : List AV} {env' : List (Nat × AV)} {hp1 hp2 hp' : Hp}
    (ho : hget hp g i = some (.blk t cs)) (hc : cs[off]? = some (.own f 0 n)) (hone : hfam hp f = some [.rowD E kk xs]) (hxs : xs = l.map emb) (hn : n = l.length)
    (hE : killE? f env = some env') (hH : killH? f hp = some hp1) (hh : hdel? f hp1 = some hp2) (ho1 : hget hp2 g i = some (.blk t cs1)) (hs' : setL? cs1 off [.d (.sl none (l.map emb))] = some cs') (hset : hset? hp2 g i (.blk t cs') = some hp') (h : Aops P F ops l' Q ⟨sn, env', hp'⟩) : Aops P F ops l' Q ⟨sn, env, hp⟩ := by
  subst hxs hn
  exact o_freezeC g i off f ho hc hone (by simp) (by rw [List.take_of_length_le (by simp)]) hE hH hh ho1 hs' hset h
/-- Less is said of a slot's data. -/
theorem SR.weakD {F : Fr} {s : AS} {ρ : Nat → Nat → Value} {act : Act} {w : World} (h : SR F s ρ act w) (t : Nat) {x : D} (y : D) (ht : get s.env t = some (.d x)) (hw : ∀ w O v, RepD w O x v → RepD w O y v) : SR F ⟨s.n, (t, .d y) :: s.env, s.hp⟩ ρ act w := by
  refine ⟨h.size, h.defs, fun t' a ha => ?_, h.heap⟩
  rcases get_cons ha with ⟨rfl, rfl⟩ | ⟨_, ha⟩
  · have hr := h.env t _ ht
    generalize act.tmps.getD t undef = v at hr
    cases hr with
    | d hr => exact .d (hw _ _ _ hr)
  · exact h.env t' a ha
theorem a_weakD {sn : Nat} {env : List (Nat × AV)} {hp : List (Nat × List AObj)} (t : Nat) {x : D} (y : D) (ht : get env t = some (.d x)) (hw : ∀ w O v, RepD w O x v → RepD w O y v) (h : Awp P F c Q ⟨sn, (t, .d y) :: env, hp⟩) : Awp P F c Q ⟨sn, env, hp⟩ := fun _ _ _ hs => h _ _ _ (hs.weakD t y ht hw)
theorem o_weakD {sn : Nat} {env : List (Nat × AV)} {hp : List (Nat × List AObj)} (t : Nat) {x : D} (y : D) (ht : get env t = some (.d x)) (hw : ∀ w O v, RepD w O x v → RepD w O y v) (h : Aops P F ops l Q ⟨sn, (t, .d y) :: env, hp⟩) : Aops P F ops l Q ⟨sn, env, hp⟩ := fun _ _ _ hs => h _ _ _ (hs.weakD t y ht hw)
theorem a_anyNil {sn : Nat} {env : List (Nat × AV)} {hp : List (Nat × List AObj)} (t : Nat) {n : Option Bool} {xs : List D} (ht : get env t = some (.d (.sl n xs))) (h : Awp P F c Q ⟨sn, (t, .d (.sl none xs)) :: env, hp⟩) : Awp P F c Q ⟨sn, env, hp⟩ := a_weakD t _ ht (fun _ _ _ h => h.anyNil) h
theorem o_anyNil {sn : Nat} {env : List (Nat × AV)} {hp : List (Nat × List AObj)} (t : Nat) {n : Option Bool} {xs : List D} (ht : get env t = some (.d (.sl n xs))) (h : Aops P F ops l Q ⟨sn, (t, .d (.sl none xs)) :: env, hp⟩) : Aops P F ops l Q ⟨sn, env, hp⟩ := o_weakD t _ ht (fun _ _ _ h => h.anyNil) h
end
end Go.Proofs.Ytjbghmlofjkcfaa
