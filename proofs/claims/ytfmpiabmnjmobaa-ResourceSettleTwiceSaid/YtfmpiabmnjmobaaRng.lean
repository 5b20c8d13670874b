/- A range over a function: rounds as calls, the record as an owned object. No program in sight. -/
import Derived.Test.YtfmpiabmnjmobaaFrz
namespace Go.Proofs.Ytfmpiabmnjmobaa
open Go.RowKit

def RunY (P : Program) (l : Nat) (vs : List Value) (w : World) (R : Ending → World → Prop) : Prop :=
  ∃ r : Loop, w.heap[l]? = some (.loop r) ∧ vs.length = r.params.size ∧ RoundIn Fence.wide 0 P l r.fn ((r.params.zip vs.toArray).foldl (fun tmps (t, a) => tmps.setIfInBounds t a) r.tmps) r.assign r.body w R
theorem RunY.mono {P : Program} {l : Nat} {vs : List Value} {w : World} {R R' : Ending → World → Prop} (h : RunY P l vs w R) (hr : ∀ e w', R e w' → R' e w') : RunY P l vs w R' := by
  obtain ⟨r, h1, h2, h3⟩ := h
  exact ⟨r, h1, h2, h3.mono hr⟩

/-- A contract of yield: called over owned objects H, among them the record, it returns r over H' with R r H'. -/
def YCalls (P : Program) (l : Nat) (args : List AV) (H : Hp) (R : AV → Hp → Prop) : Prop :=
  ∀ (F : Fr) (ρ : Nat → Nat → Value) (vs : List Value), F.own0 = OwnB ρ H → F.pin = pinOf ρ H → F.top H → Heap F H ρ F.w0 → vs.length = args.length → (∀ (i : Nat) a v, args[i]? = some a → vs[i]? = some v → RepA F.w0 (F.O ρ H) ρ a v) →
    RunY P l vs F.w0 fun e w' => ∃ v r H' ρ', e = .returned v ∧ R r H' ∧ RepA w' (F.O ρ' H') ρ' r v ∧ Heap F H' ρ' w'
theorem YCalls.mono {P : Program} {l : Nat} {args : List AV} {H : Hp} {R R' : AV → Hp → Prop} (h : YCalls P l args H R) (hr : ∀ r H', R r H' → R' r H') : YCalls P l args H R' :=
  fun F ρ vs h1 h2 h2' h3 h4 h5 => (h F ρ vs h1 h2 h2' h3 h4 h5).mono fun _ _ ⟨v, r, H', ρ', a, b, c⟩ => ⟨v, r, H', ρ', a, hr _ _ b, c⟩

section
variable {P : Program} {F : Fr} {s : AS} {Q : Exit → AS → Prop}

end

/-! Rounds. -/
theorem Heap.rnd {F : Fr} {hp : Hp} {ρ : Nat → Nat → Value} {w : World} (h : Heap F hp ρ w) (r : Option Nat) : Heap { F with rnd := r } hp ρ w :=
  ⟨h.sim, h.inj, h.mine, h.os, h.tape, h.output, h.size0, h.keep, h.pins, h.drawn⟩
def ALoop.fin (L : ALoop) (j : Option Code) : ALoop := { L with st := if j.isNone then .ready else .done, pend := j }
theorem SR.grow {F : Fr} {s : AS} {ρ : Nat → Nat → Value} {act : Act} {w : World} (hs : SR F s ρ act w) (o : Obj) : SR F s ρ act (w.alloc o) := by
  have hsz : w.heap.size ≤ (w.alloc o).heap.size := by rw [World.size_alloc]; omega
  have hb : ∀ b, b < w.heap.size → (w.alloc o).heap[b]? = w.heap[b]? := fun b hlt => by
    show (w.heap.push o)[b]? = _
    rw [Array.getElem?_push_lt hlt, Array.getElem?_eq_getElem hlt]
  exact ⟨hs.size, hs.defs.mono hsz (fun b hlt _ => hb b hlt) (fun _ _ h => h), fun t a ha => (hs.env t a ha).mono hsz (fun b hlt _ => hb b hlt) (fun _ _ h => h) (fun _ _ _ => rfl), hs.heap.stay ⟨rfl, rfl, rfl, hs.heap.drawn⟩ hsz hb⟩
theorem Heap.ltO {F : Fr} {hp : Hp} {ρ : Nat → Nat → Value} {w : World} (h : Heap F hp ρ w) {b : Nat} (hb : F.O ρ hp b) : b < w.heap.size := by
  rcases hb with hb | hb
  · exact Nat.lt_of_lt_of_le (F.hOf b hb).1 h.size0
  · exact (h.mine b hb).1
/-- The block for the rounds' deferred calls. -/
theorem SR.mark {F : Fr} {s : AS} {ρ : Nat → Nat → Value} {act : Act} {w : World} (hs : SR F s ρ act w) (hF : F.lo ≤ F.w0.heap.size) : SR F s ρ { act with defers := markOf w.heap.size :: act.defers } (w.alloc (.deferred (some []))) := by
  have hg := hs.grow (.deferred (some []))
  obtain ⟨bs, h1, h2, h3⟩ := hg.defs
  obtain ⟨bs', h1', _, h3'⟩ := hs.defs
  have hbs : bs = bs' := by
    exact (List.map_inj_right (fun a b h => by simpa [markOf] using h)).1 (h1.symm.trans h1')
  subst hbs
  refine ⟨hg.size, ⟨w.heap.size :: bs, by rw [h1]; rfl, List.nodup_cons.2 ⟨fun hm => Nat.lt_irrefl _ (h3' _ hm).2.1, h2⟩, fun b hm => ?_⟩, hg.env, hg.heap⟩
  rcases List.mem_cons.1 hm with rfl | hm
  · exact ⟨Nat.le_trans hF hs.heap.size0, by rw [World.size_alloc]; omega, fun ho => Nat.lt_irrefl _ (hs.heap.ltO ho), by show (w.heap.push _)[w.heap.size]? = _; simp⟩
  · exact h3 b hm

/-! Scopes without a jump. -/
/-! What a range over a function feeds to its body. -/
section
variable {α β : Type}
end

end Go.Proofs.Ytfmpiabmnjmobaa

