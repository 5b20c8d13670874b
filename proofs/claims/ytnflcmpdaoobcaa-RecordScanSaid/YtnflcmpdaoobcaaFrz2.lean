/- Less is said of a variable's cell. No program in sight. -/
import Derived.Test.YtnflcmpdaoobcaaFrz
namespace Go.Proofs.Ytnflcmpdaoobcaa
open Go.RowKit

theorem SR.weakC {F : Fr} {s : AS} {ρ : Nat → Nat → Value} {act : Act} {w : World} (h : SR F s ρ act w) (g i off : Nat) {x : D} (y : D) {t : TypeId} {cs cs' : List AV} {hp' : Hp} (ho : hget s.hp g i = some (.blk t cs)) (hc : cs[off]? = some (.d x)) (hw : ∀ w O v, RepD w O x v → RepD w O y v)
    (hs' : setL? cs off [.d y] = some cs') (hset : hset? s.hp g i (.blk t cs') = some hp') : SR F ⟨s.n, s.env, hp'⟩ ρ act w := by
  refine h.write g i (.blk t cs) (.blk t cs') ho (hset?_spec hset) rfl rfl rfl rfl (fun _ _ => rfl) (fun _ _ _ => ⟨_, _, rfl⟩) fun hrep => ?_
  obtain ⟨b, us, e1, e2, e3, e4, e5⟩ := h.heap.sim g i _ ho
  obtain ⟨s1, s2, s3⟩ := setL?_spec _ _ _ _ hs'
  refine ⟨b, us, e1, e2, by rw [e3, s2], fun j c u hcj hu => ?_, e5⟩
  rw [s3] at hcj
  split at hcj
  · rename_i hj
    have hjo : j = off := by simp at hj; omega
    subst hjo
    simp at hcj; subst hcj
    have hr := e4 j _ u hc hu
    cases hr with
    | d hr => exact hrep _ _ (.d (hw _ _ _ hr))
  · exact hrep _ _ (e4 j c u hcj hu)
section
variable {P : Program} {F : Fr} {Q : Exit → AS → Prop} {c : Code} {ops : Array Oper} {l : List Oper}
theorem a_weakC {n : Nat} {env : List (Nat × AV)} {hp : Hp} (g i off : Nat) {x : D} (y : D) {t : TypeId} {cs cs' : List AV} {hp' : Hp} (ho : hget hp g i = some (.blk t cs)) (hc : cs[off]? = some (.d x)) (hw : ∀ w O v, RepD w O x v → RepD w O y v)
    (hs' : setL? cs off [.d y] = some cs') (hset : hset? hp g i (.blk t cs') = some hp') (h : Awp P F c Q ⟨n, env, hp'⟩) : Awp P F c Q ⟨n, env, hp⟩ := fun _ _ _ hs => h _ _ _ (hs.weakC g i off y ho hc hw hs' hset)
theorem o_weakC {n : Nat} {env : List (Nat × AV)} {hp : Hp} (g i off : Nat) {x : D} (y : D) {t : TypeId} {cs cs' : List AV} {hp' : Hp} (ho : hget hp g i = some (.blk t cs)) (hc : cs[off]? = some (.d x)) (hw : ∀ w O v, RepD w O x v → RepD w O y v)
    (hs' : setL? cs off [.d y] = some cs') (hset : hset? hp g i (.blk t cs') = some hp') (h : Aops P F ops l Q ⟨n, env, hp'⟩) : Aops P F ops l Q ⟨n, env, hp⟩ := fun _ _ _ hs => h _ _ _ (hs.weakC g i off y ho hc hw hs' hset)
end
end Go.Proofs.Ytnflcmpdaoobcaa
