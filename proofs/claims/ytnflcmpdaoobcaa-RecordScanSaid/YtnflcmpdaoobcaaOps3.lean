/- More rules: comparisons with nil, strings and bytes. No program in sight. -/
import Derived.Test.YtnflcmpdaoobcaaOps2
import Derived.Laws.Pointers
import Derived.Laws.IdiomStrings
import Derived.WalkSpells
namespace Go.Proofs.Ytnflcmpdaoobcaa
open Go.RowKit

section
variable {P : Program} {F : Fr} {s : AS} {d : Nat} {ty T T' E : TypeId} {pos : String} {aft : Array Edge} {g : Option (Nat × Bool)} {x y : Operand}

/-- Is a pointer nil? -/
def nilPtr? : AV → Option Bool
  | .d (.raw (.pointer none)) => some true
  | .d (.ptr _) => some false
  | .ptr _ _ _ => some false
  | .rptr _ _ _ _ _ => some false
  | _ => none
theorem nilPtr?_spec {w : World} {O : Nat → Prop} {ρ : Nat → Nat → Value} {a : AV} {v : Value} {b : Bool} (h : RepA w O ρ a v) (hb : nilPtr? a = some b) : ∃ p : Option Addr, v = .pointer p ∧ p.isNone = b := by
  unfold nilPtr? at hb
  split at hb
  · injection hb with hb; subst hb
    cases h with | d h => cases h with | raw _ => exact ⟨none, rfl, rfl⟩
  · injection hb with hb; subst hb
    cases h with | d h => cases h with | ptr _ _ _ _ _ _ => exact ⟨_, rfl, rfl⟩
  · injection hb with hb; subst hb
    cases h with | ptr _ => exact ⟨_, rfl, rfl⟩
  · injection hb with hb; subst hb
    cases h with | rptr _ => exact ⟨_, rfl, rfl⟩
  · cases hb
theorem eqGuard_ptr {op : BinOp} {t : TypeId} {x y : Operand} {p q : Option Addr} {w : World} : (eqGuard op t x y (.pointer p) (.pointer q)).run P w = .ok () w := by
  cases op <;> simp [eqGuard]
theorem st_eqlP {a : AV} {b : Bool} (hT : P.underlying T = some (.pointer E)) (hx : s.ev x = some a) (hb : nilPtr? a = some b) (hd : Nat.blt d s.n = true) : Pstep P F ⟨some d, .binOp .eql T x (.const (.pointer none)) T', ty, pos, aft, g⟩ s d (.d (.raw (.bool b))) :=
  step_val _ hd fun ρ act w hs => by
    have hr := hs.ev hx
    generalize hv : act.eval x = v at hr
    obtain ⟨p, rfl, hp⟩ := nilPtr?_spec hr hb
    subst hp
    have hp : P.pointee T = E := by unfold Program.pointee; rw [hT]
    have hc : act.eval (.const (.pointer none)) = .pointer none := rfl
    exact ⟨.bool p.isNone, by simp [execOp, hv, hc, eqGuard_ptr, binOp, run_equal_pointer_nil w T p (by rw [hp]; exact hT)], .d (.raw rfl)⟩
theorem st_neqP {a : AV} {b : Bool} (hT : P.underlying T = some (.pointer E)) (hx : s.ev x = some a) (hb : nilPtr? a = some b) (hd : Nat.blt d s.n = true) : Pstep P F ⟨some d, .binOp .neq T x (.const (.pointer none)) T', ty, pos, aft, g⟩ s d (.d (.raw (.bool (!b)))) :=
  step_val _ hd fun ρ act w hs => by
    have hr := hs.ev hx
    generalize hv : act.eval x = v at hr
    obtain ⟨p, rfl, hp⟩ := nilPtr?_spec hr hb
    subst hp
    have hp : P.pointee T = E := by unfold Program.pointee; rw [hT]
    have hc : act.eval (.const (.pointer none)) = .pointer none := rfl
    exact ⟨.bool (!p.isNone), by simp [execOp, hv, hc, eqGuard_ptr, binOp, run_equal_pointer_nil w T p (by rw [hp]; exact hT)], .d (.raw rfl)⟩

end
end Go.Proofs.Ytnflcmpdaoobcaa
