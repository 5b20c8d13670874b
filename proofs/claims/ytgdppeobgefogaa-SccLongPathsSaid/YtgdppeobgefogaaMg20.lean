/- Laws as rows: arguments opened by their types, and a contract over frozen data. -/
import Derived.Test.YtgdppeobgefogaaMg19
import Derived.SizedLaws
namespace Go.Proofs.Ytgdppeobgefogaa
open Go.ChangeShapes Go.WideShapes Go.ChangeAt Go.RowKit Go.Deep

abbrev noB : Nat → Prop := fun _ => False
def RepC (w : World) (d : D) (cs : List Value) : Prop := cs.length = d.cells.length ∧ (∀ c ∈ d.cells, c.one = true) ∧ ∀ (j : Nat) c u, d.cells[j]? = some c → cs[j]? = some u → RepD w noB c u
theorem repC_one {w : World} {d : D} {u : Value} (hd : d.one = true) (h : RepD w noB d u) : RepC w d [u] := by
  rw [RepC, D.cells_one hd];refine ⟨rfl, by simp [hd], fun j c u' hc hu => ?_⟩
  cases j with
  | zero => simp at hc hu; subst hc hu; exact h
  | succ j => simp at hc
theorem RepC.arg1 {w : World} {ρ : Nat → Nat → Value} {O : Nat → Prop} {d : D} {v : Value} (hO : O = noB) (hd : d.one = true) (hv : v.oneCell' = true) (h : RepC w d v.cells.toList) : RepA w O ρ (.d d) v := by
  subst hO;have hc : v.cells.toList = [v] := by cases v <;> first | rfl | cases hv
  rw [hc, RepC, D.cells_one hd] at h;exact .d (h.2.2 0 d v rfl rfl)
section
variable {H : Type} {enc : TypeId × Value → H} {P : Program} {w : World}
def OpenT {α : Type} (enc : TypeId × Value → H) (P : Program) (w : World) (t : TypeId) (k : Nat) (emb : α → D) (Q : α → Prop) : Prop :=
  ∀ fuel cs x, DataW.trod enc P w 0 (fun _ => true) true fuel t cs = some x → (∀ p ∈ x.2, p.block < w.heap.size) → (∀ n ∈ x.1.weights P t, n ≤ reachBytes) → ∃ a, Q a ∧ (emb a).cells.length = k ∧ RepC w (emb a) cs
theorem openInt {t : TypeId} {k : IntKind} (ht : P.underlying t = some (.int k)) : OpenT enc P w t 1 (fun z : Int => .raw (.int k z)) (fun z => k.min ≤ z ∧ z ≤ k.max) := fun fuel cs x h _ _ => by
  obtain ⟨z, rfl, _, hw⟩ := DataW.trod_int ht h;simp only [Lit.wf, Bool.and_eq_true, decide_eq_true_eq] at hw;exact ⟨z, hw, rfl, repC_one rfl (.raw rfl)⟩
theorem openBool {t : TypeId} (ht : P.underlying t = some .bool) : OpenT enc P w t 1 (fun b : Bool => .raw (.bool b)) (fun _ => True) := fun fuel cs x h _ _ => by
  obtain ⟨b, rfl, _⟩ := DataW.trod_bool ht h;exact ⟨b, trivial, rfl, repC_one rfl (.raw rfl)⟩
theorem OpenT.as {α β : Type} {t : TypeId} {k : Nat} {emb : α → D} {Q : α → Prop} {emb' : β → D} {Q' : β → Prop} (h : OpenT enc P w t k emb Q) (f : α → β) (he : ∀ a, emb a = emb' (f a)) (hq : ∀ a, Q a → Q' (f a)) : OpenT enc P w t k emb' Q' := fun fuel cs x hx hlt hwt => by
  obtain ⟨a, h1, h2, h3⟩ := h fuel cs x hx hlt hwt;exact ⟨f a, hq a h1, by rw [← he]; exact h2, by rw [← he]; exact h3⟩
end

theorem law_calls {P : Program} {f : FuncId} {args : List AV} (h : PCalls P f args (.raw (.bool true))) {w : World} {vs : List Value} (hl : vs.length = args.length) (hr : ∀ (i : Nat) a v, args[i]? = some a → vs[i]? = some v → RepA w noB (fun _ _ => undef) a v) :
    Calls P f vs.toArray w fun e w' => e = .returned (.bool true) ∧ Below w.heap.size w w' := by
  have hno : ∀ ρ b, ¬ OwnB ρ [] b := fun ρ b ⟨_, _, _, h, _⟩ => by cases h
  let ρ : Nat → Nat → Value := fun _ _ => undef
  let F : Fr := Fr.mk none w.heap.size w noB (OwnB ρ []) (pinOf ρ []) (fun b hb => hb.elim) [] (fun _ _ _ h => pinOf_mem h)
  have hO : F.O ρ [] = noB := funext fun b => propext ⟨fun h => h.elim id fun h => (hno ρ b h).elim, fun h => h.elim⟩
  have hheap : Heap F [] ρ w := ⟨(fun f i o ho => by cases ho), (fun f i f' i' o o' b ho => by cases ho), fun b hb => (hno ρ b hb).elim, rfl, rfl, rfl, Nat.le_refl _, fun _ _ _ => rfl, fun f i b hb => pinOf_spec hb, Nat.le_refl _⟩
  refine (h.2 F ρ vs rfl rfl ⟨rfl, rfl, rfl⟩ hheap hl (fun i a v ha hv => by rw [hO]; exact hr i a v ha hv)).mono fun e w' ⟨v, r, H', ρ', e1, ⟨e2, e3⟩, hrep, hh'⟩ => ?_;subst e1 e2 e3;refine ⟨?_, hh'.os, hh'.tape, hh'.output, hh'.size0, fun b hlt => hh'.keep b hlt (hno ρ b)⟩
  cases hrep with
  | d hrep =>
    cases hrep with
    | raw _ => rfl
end Go.Proofs.Ytgdppeobgefogaa
/- Openers under other words. No program in sight. -/
namespace Go.Proofs.Ytgdppeobgefogaa
open Go.ChangeShapes Go.WideShapes Go.ChangeAt Go.RowKit

section
variable {H : Type} {enc : TypeId × Value → H} {P : Program} {w : World}
theorem OpenT.asQ {α β : Type} {t : TypeId} {k : Nat} {emb : α → D} {Q : α → Prop} {emb' : β → D} {Q' : β → Prop} (h : OpenT enc P w t k emb Q) (f : α → β) (he : ∀ a, Q a → emb a = emb' (f a)) (hq : ∀ a, Q a → Q' (f a)) : OpenT enc P w t k emb' Q' := fun fuel cs x hx hlt hwt => by
  obtain ⟨a, h1, h2, h3⟩ := h fuel cs x hx hlt hwt;exact ⟨f a, hq a h1, by rw [← he a h1]; exact h2, by rw [← he a h1]; exact h3⟩
end
end Go.Proofs.Ytgdppeobgefogaa
/- Openers of small numbers. No program in sight. -/
namespace Go.Proofs.Ytgdppeobgefogaa
open Go.ChangeShapes Go.WideShapes Go.ChangeAt Go.RowKit

section
variable {H : Type} {enc : TypeId × Value → H} {P : Program} {w : World}
theorem openU16 {t : TypeId} (ht : P.underlying t = some (.int .u16)) : OpenT enc P w t 1 (fun n : Nat => .raw (.int .u16 (n : Int))) (fun n => n < 65536) :=
  (openInt ht).asQ Int.toNat (fun a ⟨h1, _⟩ => by rw [Int.toNat_of_nonneg h1]) (fun a ⟨h1, h2⟩ => by have : a ≤ 65535 := h2; omega)
end
end Go.Proofs.Ytgdppeobgefogaa
