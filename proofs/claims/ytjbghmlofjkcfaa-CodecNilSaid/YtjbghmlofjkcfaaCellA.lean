/- A nil slice in a variable's cell is an empty row of one's own. No program in sight. -/
import Derived.Test.YtjbghmlofjkcfaaBytes
import Derived.Laws.Cover3
namespace Go.Proofs.Ytjbghmlofjkcfaa
open Go.RowKit

theorem SR.adoptC {P : Program} {F : Fr} {s : AS} {ρ : Nat → Nat → Value} {act : Act} {w : World} (h : SR F s ρ act w) (g i off f : Nat) {T E t : TypeId} {kk by_ : Nat} (_S : SlTy P T E kk by_) {cs cs' : List AV} {env' : List (Nat × AV)} {hp1 hp2 hp' : List (Nat × List AObj)}
    (hE : killE? f s.env = some env') (hH : killH? f s.hp = some hp1) (hh : hnew? hp1 f (.rowD E kk []) = some hp2) (ho : hget hp2 g i = some (.blk t cs)) (hc : cs[off]? = some (.d (.sl (some true) []))) (hs' : setL? cs off [.own f 0 0] = some cs') (hset : hset? hp2 g i (.blk t cs') = some hp') :
    SR F ⟨s.n, env', hp'⟩ (upd ρ f 0 (.slice none 0 0)) act w := by
  obtain ⟨h1, h2⟩ := hnew?_spec hh
  have hsr := h.set f 0 (.rowD E kk []) (.slice none 0 0) hE hH h1 (fun t cs e => by obtain ⟨o, ho, _⟩ := (killH?_spec hH).2 _ _ _ e; rw [h2] at ho; cases ho) (fun b hb => by cases hb) rfl rfl rfl (Nat.le_refl _) (fun _ _ _ => rfl) (fun _ => ⟨[], World.ownsRow_nil w 0 E kk, ⟨by simp, by simp, fun i x hx => by simp at hx⟩, by simp⟩)
  refine hsr.write g i _ (.blk t cs') ho (hset?_spec hset) rfl rfl rfl rfl (fun _ _ => rfl) (fun _ _ _ => ⟨_, _, rfl⟩) (fun hrep => ?_)
  obtain ⟨b, us, e1, e2, e3, e4, e5⟩ := hsr.heap.sim g i _ ho
  obtain ⟨s1, s2, s3⟩ := setL?_spec _ _ _ _ hs'
  refine ⟨b, us, e1, e2, by rw [e3, s2], fun j c u hcj hu => ?_, e5⟩
  rw [s3] at hcj
  split at hcj
  · rename_i hj
    have hjo : j = off := by simp at hj; omega
    subst hjo
    simp at hcj; subst hcj
    have hr := e4 j _ u hc hu
    cases hr with
    | d hr =>
      cases hr with
      | @sl _ _ a n cap k hn hz hln hcc hm hk ha hp =>
        have ha' : a = none := by simpa using hn true rfl
        subst ha'
        have hcap := hz rfl
        simp at hln
        subst hcap hln
        exact .own upd_same (Nat.le_refl _)
  · exact hrep _ _ (e4 j c u hcj hu)
section
variable {P : Program} {F : Fr} {Q : Exit → AS → Prop} {s : AS} {c : Code} {ops : Array Oper} {l : List Oper}
theorem a_adoptC {sn : Nat} {env : List (Nat × AV)} {hp : List (Nat × List AObj)} (g i off f : Nat) {T E t : TypeId} {kk by_ : Nat} (S : SlTy P T E kk by_) {cs cs' : List AV} {env' : List (Nat × AV)} {hp1 hp2 hp' : List (Nat × List AObj)}
    (hE : killE? f env = some env') (hH : killH? f hp = some hp1) (hh : hnew? hp1 f (.rowD E kk []) = some hp2) (ho : hget hp2 g i = some (.blk t cs)) (hc : cs[off]? = some (.d (.sl (some true) []))) (hs' : setL? cs off [.own f 0 0] = some cs') (hset : hset? hp2 g i (.blk t cs') = some hp') (h : Awp P F c Q ⟨sn, env', hp'⟩) : Awp P F c Q ⟨sn, env, hp⟩ := fun _ _ _ hs => h _ _ _ (hs.adoptC g i off f S hE hH hh ho hc hs' hset)
theorem o_adoptC {sn : Nat} {env : List (Nat × AV)} {hp : List (Nat × List AObj)} (g i off f : Nat) {T E t : TypeId} {kk by_ : Nat} (S : SlTy P T E kk by_) {cs cs' : List AV} {env' : List (Nat × AV)} {hp1 hp2 hp' : List (Nat × List AObj)}
    (hE : killE? f env = some env') (hH : killH? f hp = some hp1) (hh : hnew? hp1 f (.rowD E kk []) = some hp2) (ho : hget hp2 g i = some (.blk t cs)) (hc : cs[off]? = some (.d (.sl (some true) []))) (hs' : setL? cs off [.own f 0 0] = some cs') (hset : hset? hp2 g i (.blk t cs') = some hp') (h : Aops P F ops l Q ⟨sn, env', hp'⟩) : Aops P F ops l Q ⟨sn, env, hp⟩ := fun _ _ _ hs => h _ _ _ (hs.adoptC g i off f S hE hH hh ho hc hs' hset)
end

/-- A frozen slice is nil, and has no elements, or it isn't. -/
theorem RepD.nilSplit {w : World} {O : Nat → Prop} {n : Option Bool} {xs : List D} {v : Value} (h : RepD w O (.sl n xs) v) : (xs = [] ∧ RepD w O (.sl (some true) []) v) ∨ RepD w O (.sl (some false) xs) v := by
  cases h with
  | @sl _ _ a m cap k hn hz hln hc hm hk ha hp =>
    cases a with
    | none =>
      have := hz rfl
      have h0 : xs = [] := List.eq_nil_of_length_eq_zero (by omega)
      subst h0
      exact .inl ⟨rfl, .sl k (fun b hb => by injection hb with hb) hz hln hc hm hk ha hp⟩
    | some ad => exact .inr (.sl k (fun b hb => by injection hb with hb) hz hln hc hm hk ha hp)
section
variable {P : Program} {F : Fr} {Q : Exit → AS → Prop} {n : Nat} {env : List (Nat × AV)} {hp : Hp} {c : Code}
theorem a_nilSplit (t : Nat) {b : Option Bool} {xs : List D} (ht : get env t = some (.d (.sl b xs))) (h1 : xs = [] → Awp P F c Q ⟨n, (t, .d (.sl (some true) [])) :: env, hp⟩) (h2 : Awp P F c Q ⟨n, (t, .d (.sl (some false) xs)) :: env, hp⟩) : Awp P F c Q ⟨n, env, hp⟩ := fun ρ act w hs => by
  have hr := hs.env t _ ht
  have key : ∀ x : D, RepD w (F.O ρ hp) x (act.tmps.getD t undef) → SR F ⟨n, (t, .d x) :: env, hp⟩ ρ act w := fun x hx => ⟨hs.size, hs.defs, fun t' a ha => by
    rcases get_cons ha with ⟨rfl, rfl⟩ | ⟨_, ha⟩
    · exact .d hx
    · exact hs.env t' a ha, hs.heap⟩
  generalize hv : act.tmps.getD t undef = v at hr
  cases hr with
  | d hr =>
    rcases hr.nilSplit with ⟨h0, h⟩ | h
    · exact h1 h0 ρ act w (key _ (by rw [hv]; exact h))
    · exact h2 ρ act w (key _ (by rw [hv]; exact h))
theorem o_nilSplit {ops : Array Oper} {l : List Oper} (t : Nat) {b : Option Bool} {xs : List D} (ht : get env t = some (.d (.sl b xs))) (h1 : xs = [] → Aops P F ops l Q ⟨n, (t, .d (.sl (some true) [])) :: env, hp⟩) (h2 : Aops P F ops l Q ⟨n, (t, .d (.sl (some false) xs)) :: env, hp⟩) : Aops P F ops l Q ⟨n, env, hp⟩ := fun ρ act w hs => by
  have hr := hs.env t _ ht
  have key : ∀ x : D, RepD w (F.O ρ hp) x (act.tmps.getD t undef) → SR F ⟨n, (t, .d x) :: env, hp⟩ ρ act w := fun x hx => ⟨hs.size, hs.defs, fun t' a ha => by
    rcases get_cons ha with ⟨rfl, rfl⟩ | ⟨_, ha⟩
    · exact .d hx
    · exact hs.env t' a ha, hs.heap⟩
  generalize hv : act.tmps.getD t undef = v at hr
  cases hr with
  | d hr =>
    rcases hr.nilSplit with ⟨h0, h⟩ | h
    · exact h1 h0 ρ act w (key _ (by rw [hv]; exact h))
    · exact h2 ρ act w (key _ (by rw [hv]; exact h))
end
section
variable {P : Program} {F : Fr} {s : AS} {d : Nat} {ty T T' E : TypeId} {pos : String} {aft : Array Edge} {g : Option (Nat × Bool)} {x : Operand}
theorem st_eqlN {b : Bool} {xs : List D} (hT : P.underlying T = some (.slice E)) (hx : s.ev x = some (.d (.sl (some b) xs))) (hd : Nat.blt d s.n = true) : Pstep P F ⟨some d, .binOp .eql T x (.const (.slice none 0 0)) T', ty, pos, aft, g⟩ s d (.d (.raw (.bool b))) :=
  step_val _ hd fun ρ act w hs => by
    have hr := hs.ev hx
    generalize hv : act.eval x = v at hr
    cases hr with
    | d hr =>
      cases hr with
      | @sl _ _ a m cap k hn hz hln hc hm hk ha hp =>
        have h := hn b rfl
        have hc : act.eval (.const (.slice none 0 0)) = .slice none 0 0 := rfl
        subst h
        exact ⟨.bool a.isNone, by simp [execOp, hv, hc, eqGuard, binOp, run_equal_slice_nil w T E a m cap hT], .d (.raw rfl)⟩
end
end Go.Proofs.Ytjbghmlofjkcfaa
