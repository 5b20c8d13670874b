/- Laws as rows: arguments opened by their types, and a contract over frozen data. -/
import Derived.Test.YtgdppeobgefogaaMg18
import Derived.SizedLaws
namespace Go.Proofs.Ytgdppeobgefogaa
open Go.ChangeShapes Go.WideShapes Go.ChangeAt Go.RowKit Go.Deep

abbrev noB : Nat → Prop := fun _ => False
def RepC (w : World) (d : D) (cs : List Value) : Prop := cs.length = d.cells.length ∧ (∀ c ∈ d.cells, c.one = true) ∧ ∀ (j : Nat) c u, d.cells[j]? = some c → cs[j]? = some u → RepD w noB c u
theorem repC_one {w : World} {d : D} {u : Value} (hd : d.one = true) (h : RepD w noB d u) : RepC w d [u] := by
  rw [RepC, D.cells_one hd];refine ⟨rfl, by simp [hd], fun j c u' hc hu => ?_⟩
  cases j with
  | zero => simp at hc hu; subst hc hu; exact h
  | succ j => simp at hc
theorem RepC.arg1 {w : World} {ρ : Nat → Nat → Value} {O : Nat → Prop} {d : D} {v : Value} (hO : O = noB) (hd : d.one = true) (hv : v.oneCell' = true) (h : RepC w d v.cells.toList) : RepA w O ρ (.d d) v := by
  subst hO;have hc : v.cells.toList = [v] := by cases v <;> first | rfl | cases hv
  rw [hc, RepC, D.cells_one hd] at h;exact .d (h.2.2 0 d v rfl rfl)
section
variable {H : Type} {enc : TypeId × Value → H} {P : Program} {w : World}
def OpenT {α : Type} (enc : TypeId × Value → H) (P : Program) (w : World) (t : TypeId) (k : Nat) (emb : α → D) (Q : α → Prop) : Prop :=
  ∀ fuel cs x, DataW.trod enc P w 0 (fun _ => true) true fuel t cs = some x → (∀ p ∈ x.2, p.block < w.heap.size) → (∀ n ∈ x.1.weights P t, n ≤ reachBytes) → ∃ a, Q a ∧ (emb a).cells.length = k ∧ RepC w (emb a) cs
theorem weightsAll_mem {e : TypeId} {l : List (DataW H)} {d : DataW H} (hd : d ∈ l) {n : Nat} (hn : n ∈ d.weights P e) : n ∈ DataW.weightsAll P e l := by
  induction l with
  | nil => cases hd
  | cons a r ih =>
    simp only [DataW.weightsAll, List.mem_append];rcases List.mem_cons.1 hd with rfl | hd
    · exact .inl hn
    · exact .inr (ih hd)

theorem openInt {t : TypeId} {k : IntKind} (ht : P.underlying t = some (.int k)) : OpenT enc P w t 1 (fun z : Int => .raw (.int k z)) (fun z => k.min ≤ z ∧ z ≤ k.max) := fun fuel cs x h _ _ => by
  obtain ⟨z, rfl, _, hw⟩ := DataW.trod_int ht h;simp only [Lit.wf, Bool.and_eq_true, decide_eq_true_eq] at hw;exact ⟨z, hw, rfl, repC_one rfl (.raw rfl)⟩
theorem openSl {α : Type} {t e : TypeId} {k b : Nat} {emb : α → D} {Q : α → Prop} (ht : P.underlying t = some (.slice e)) (hk : P.cellsOf e = k) (hk0 : 0 < k) (hb : P.bytesOf e = b) (hO : OpenT enc P w e k emb Q) : OpenT enc P w t 1 (fun l : List α => .sl none (l.map emb)) (fun l => (∀ a ∈ l, Q a) ∧ l.length * b ≤ 140737488351232) := fun fuel cs x h hlt hwt => by
  rcases open_slice ht h with ⟨rfl, rfl⟩ | ⟨a, len, cap, m, n, Dd, Pl, rfl, _, hl, hm, hmm, rfl, hi⟩
  · refine ⟨[], ⟨by simp, by simp⟩, rfl, repC_one rfl (.sl k (fun b hb => by cases hb) (fun _ => rfl) rfl (Nat.le_refl _) (Nat.zero_le _) (by simp) (by simp) (fun b o e => by cases e))⟩
  · simp only [if_true] at hmm;subst hmm
    have hall : ∀ i, i < len → ∃ y : α, Q y ∧ (emb y).cells.length = k ∧ ∃ cs' : List Value, RepC w (emb y) cs' ∧ ∀ j, j < k → w.cell? ((a.add (i * k)).add j) = cs'[j]? := by
      intro i hil;obtain ⟨cs', hc, ht'⟩ := hi i (by omega)
      obtain ⟨y, hq, hyk, hr⟩ := hO _ _ _ ht' (fun p hp => hlt p (by
        simp only [List.mem_append, List.mem_flatMap, List.mem_range]
        exact .inr ⟨i, by omega, hp⟩)) (fun n hn => hwt n (by
        simp only [DataW.weights, ht, List.mem_cons, List.mem_append]
        exact .inr (.inl (weightsAll_mem (List.mem_map.2 ⟨i, List.mem_range.2 hil, rfl⟩) hn))))
      obtain ⟨_, hlen, hat⟩ := World.cells?_some hc;rw [hk] at hat;exact ⟨y, hq, hyk, cs', hr, hat⟩
    obtain ⟨l, hln, hlq⟩ := list_of len hall;refine ⟨l, ⟨fun y hy => ?_, ?_⟩, rfl, repC_one rfl (.sl k (fun b hb => by cases hb) (fun e => by cases e) (by rw [List.length_map]; exact hln) hl hm (fun x hx => ?_) (fun hne => ?_) (fun b o e i x hx => ?_))⟩
    · obtain ⟨i, hi', rfl⟩ := List.getElem_of_mem hy;exact (hlq i _ (List.getElem?_eq_getElem hi')).1
    · have h1 := hwt ((len + (m - len)) * P.bytesOf e) (by simp [DataW.weights, ht]);rw [hb] at h1;have h2 := Nat.mul_le_mul_right b (show l.length ≤ len + (m - len) by omega);have h3 : reachBytes = 140737488351232 := rfl;omega
    · obtain ⟨y, hy, rfl⟩ := List.mem_map.1 hx;obtain ⟨i, hi', rfl⟩ := List.getElem_of_mem hy;exact (hlq i _ (List.getElem?_eq_getElem hi')).2.1
    · have h0 : 0 < l.length := by
        cases l with
        | nil => exact absurd rfl hne
        | cons _ _ => simp
      obtain ⟨_, h1, cs', h2, h3⟩ := hlq 0 _ (List.getElem?_eq_getElem h0);have h4 := h3 0 hk0;have hlen : cs'.length = k := by rw [h2.1, h1]
      rw [List.getElem?_eq_getElem (by omega)] at h4;have : a.spot = none := by simpa [Addr.add] using World.cell?_spot h4
      exact ⟨a.block, a.off, by cases a; simp_all⟩
    · rw [List.getElem?_map] at hx
      cases hy : l[i]? with
      | none => rw [hy] at hx; cases hx
      | some y =>
        rw [hy] at hx;injection hx with hx
        subst hx;obtain ⟨hq, h1, cs', h2, h3⟩ := hlq i y hy;injection e with e
        subst e;have hlen : cs'.length = k := by rw [h2.1, h1]
        have hil : i < len := by rw [← hln]; exact (List.getElem?_eq_some_iff.1 hy).1
        have hin : ∀ j, j < k → w.cell? ⟨b, o + i * k + j, none⟩ = cs'[j]? := fun j hj => by
          have := h3 j hj
          rwa [Go.WideShapes.add_plain, Go.WideShapes.add_plain] at this
        refine .ptr (fun j => cs'.getD j undef) ?_ (fun h => h) h2.2.1 (fun j c hc => ?_) (fun j c hc => ?_)
        · have hmem : MemPlace.cell b (o + i * k) ∈ MemPlace.row ⟨b, o, none⟩ (m * P.cellsOf e) := MemPlace.mem_row.2 ⟨i * k, by
            rw [hk];have : (i + 1) * k ≤ m * k := Nat.mul_le_mul_right _ (by omega)
            rw [Nat.add_mul] at this; omega, rfl⟩
          exact hlt _ (List.mem_append_left _ hmem)
        · have hj : j < k := by rw [← h1]; exact (List.getElem?_eq_some_iff.1 hc).1
          rw [hin j hj, List.getD_eq_getElem?_getD, List.getElem?_eq_getElem (by omega)]; rfl
        · have hj : j < k := by rw [← h1]; exact (List.getElem?_eq_some_iff.1 hc).1
          rw [List.getD_eq_getElem?_getD, List.getElem?_eq_getElem (by omega)];exact h2.2.2 j c _ hc (List.getElem?_eq_getElem (by omega))

theorem OpenT.as {α β : Type} {t : TypeId} {k : Nat} {emb : α → D} {Q : α → Prop} {emb' : β → D} {Q' : β → Prop} (h : OpenT enc P w t k emb Q) (f : α → β) (he : ∀ a, emb a = emb' (f a)) (hq : ∀ a, Q a → Q' (f a)) : OpenT enc P w t k emb' Q' := fun fuel cs x hx hlt hwt => by
  obtain ⟨a, h1, h2, h3⟩ := h fuel cs x hx hlt hwt;exact ⟨f a, hq a h1, by rw [← he]; exact h2, by rw [← he]; exact h3⟩
end

theorem law_calls {P : Program} {f : FuncId} {args : List AV} (h : PCalls P f args (.raw (.bool true))) {w : World} {vs : List Value} (hl : vs.length = args.length) (hr : ∀ (i : Nat) a v, args[i]? = some a → vs[i]? = some v → RepA w noB (fun _ _ => undef) a v) :
    Calls P f vs.toArray w fun e w' => e = .returned (.bool true) ∧ Below w.heap.size w w' := by
  have hno : ∀ ρ b, ¬ OwnB ρ [] b := fun ρ b ⟨_, _, _, h, _⟩ => by cases h
  let ρ : Nat → Nat → Value := fun _ _ => undef
  let F : Fr := Fr.mk none w.heap.size w noB (OwnB ρ []) (pinOf ρ []) (fun b hb => hb.elim) [] (fun _ _ _ h => pinOf_mem h)
  have hO : F.O ρ [] = noB := funext fun b => propext ⟨fun h => h.elim id fun h => (hno ρ b h).elim, fun h => h.elim⟩
  have hheap : Heap F [] ρ w := ⟨(fun f i o ho => by cases ho), (fun f i f' i' o o' b ho => by cases ho), fun b hb => (hno ρ b hb).elim, rfl, rfl, rfl, Nat.le_refl _, fun _ _ _ => rfl, fun f i b hb => pinOf_spec hb, Nat.le_refl _⟩
  refine (h.2 F ρ vs rfl rfl ⟨rfl, rfl, rfl⟩ hheap hl (fun i a v ha hv => by rw [hO]; exact hr i a v ha hv)).mono fun e w' ⟨v, r, H', ρ', e1, ⟨e2, e3⟩, hrep, hh'⟩ => ?_;subst e1 e2 e3;refine ⟨?_, hh'.os, hh'.tape, hh'.output, hh'.size0, fun b hlt => hh'.keep b hlt (hno ρ b)⟩
  cases hrep with
  | d hrep =>
    cases hrep with
    | raw _ => rfl
end Go.Proofs.Ytgdppeobgefogaa
/- Openers under other words. No program in sight. -/
namespace Go.Proofs.Ytgdppeobgefogaa
open Go.ChangeShapes Go.WideShapes Go.ChangeAt Go.RowKit

section
variable {H : Type} {enc : TypeId × Value → H} {P : Program} {w : World}
end
end Go.Proofs.Ytgdppeobgefogaa
/- Openers of small numbers. No program in sight. -/
namespace Go.Proofs.Ytgdppeobgefogaa
open Go.ChangeShapes Go.WideShapes Go.ChangeAt Go.RowKit

section
variable {H : Type} {enc : TypeId × Value → H} {P : Program} {w : World}
end
end Go.Proofs.Ytgdppeobgefogaa
