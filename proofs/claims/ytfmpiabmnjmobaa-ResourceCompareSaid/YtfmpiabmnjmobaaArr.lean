/- Arrays in variables, and how they are opened. -/
import Derived.Test.YtfmpiabmnjmobaaOpn2
import Derived.OpenShut
namespace Go.Proofs.Ytfmpiabmnjmobaa
open Go.ChangeShapes Go.WideShapes Go.ChangeAt Go.RowKit

section
variable {P : Program} {F : Fr} {s : AS} {d : Nat} {ty T E : TypeId} {pos : String} {aft : Array Edge} {g : Option (Nat × Bool)} {x y : Operand} {k : IntKind} {i : Int}
theorem st_indexA {f j off off' n kk : Nat} (m : Nat) (hx : s.ev x = some (.ptr f j off)) (hy : s.ev y = some (.d (.raw (.int k i)))) (hi : i = (m : Int)) (hm : m < n) (hT : P.underlying T = some (.array n E)) (hE : sizeTy P E kk = true) (ho : off + m * kk = off') (hd : Nat.blt d s.n = true) :
    Pstep P F ⟨some d, .indexAddr T x y, ty, pos, aft, g⟩ s d (.ptr f j off') :=
  step_val _ hd fun ρ act w hs => by
    have h := hs.ev hx
    generalize hv : act.eval x = u at h
    subst hi ho
    cases h with
    | ptr hb => exact ⟨.pointer (some ⟨_, off + m * kk, none⟩), by simp [execOp, Instr.indexAt, Instr.sureAddr, asIntOf, hs.raw hy, hv, run_underlying hT, hm, run_sizeOf (sizeTy_spec hE), Addr.add_mid], .ptr hb⟩
end
section
variable {H : Type} {enc : TypeId × Value → H} {P : Program} {w : World}
theorem openA2 {t e : TypeId} {α : Type} {emb : α → D} {Q : α → Prop} (ht : P.underlying t = some (.array 2 e)) (hk : P.cellsOf t = 2) (hke : P.cellsOf e = 1) (h1 : ∀ a, (emb a).one = true) (hO : OpenT enc P w e 1 emb Q) : OpenT enc P w t 2 (fun a : α × α => .agg [emb a.1, emb a.2]) (fun a => Q a.1 ∧ Q a.2) := fun fuel cs x hx hlt hwt => by
  obtain ⟨xs, n, _, rfl, hl, hlen, hf⟩ := DataW.trod_array ht hx
  rw [hk] at hl
  have h0 := hf 0 (by omega)
  have h1' := hf 1 (by omega)
  rw [hke] at h0 h1'
  have w0 : ∀ j (hj : j < xs.length), ∀ n ∈ (xs[j].1).weights P e, n ≤ reachBytes := fun j hj n hn => hwt n (by
    simp only [DataW.weights, ht]
    exact weightsAll_mem (List.mem_map.2 ⟨_, List.getElem_mem hj, rfl⟩) hn)
  obtain ⟨a, q1, q2, q3⟩ := hO _ _ _ (h0.trans (List.getElem?_eq_getElem (by omega))) (fun p hp => hlt p (List.mem_flatMap.2 ⟨_, List.getElem_mem (by omega), hp⟩)) (w0 0 (by omega))
  obtain ⟨b, r1, r2, r3⟩ := hO _ _ _ (h1'.trans (List.getElem?_eq_getElem (by omega))) (fun p hp => hlt p (List.mem_flatMap.2 ⟨_, List.getElem_mem (by omega), hp⟩)) (w0 1 (by omega))
  refine ⟨(a, b), ⟨q1, r1⟩, rfl, by show cs.length = _; rw [hl]; rfl, fun c hc => ?_, fun j c u hc hu => ?_⟩
  · simp only [D.cells, List.mem_cons, List.not_mem_nil, or_false] at hc
    rcases hc with rfl | rfl
    · exact h1 a
    · exact h1 b
  · have e1 : ∀ z : α, (emb z).cells = [emb z] := fun z => by
      have := h1 z
      cases hz : emb z <;> rw [hz] at this <;> first | rfl | (simp [D.one] at this)
    match j, hc with
    | 0, hc => injection hc with hc; subst hc; exact q3.2.2 0 _ u (by rw [e1]; rfl) (by simpa using hu)
    | 1, hc => injection hc with hc; subst hc; exact r3.2.2 0 _ u (by rw [e1]; rfl) (by simpa [List.getElem?_take, List.getElem?_drop] using hu)
theorem okWide_array' {r : Reach} {base : Nat} {t e : TypeId} {n : Nat} {v : Value} (ht : P.underlying t = some (.array n e)) (h : Value.okWide P w r base t v) : ∃ cs, v = .agg cs ∧ True := by
  simp only [Value.okWide, ht] at h
  obtain ⟨cs, h1, _⟩ := h
  exact ⟨cs, h1, trivial⟩
end
end Go.Proofs.Ytfmpiabmnjmobaa
