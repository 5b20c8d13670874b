/- Openers under other words. No program in sight. -/
import Derived.Test.YtfmpiabmnjmobaaLaw
import Derived.Test.YtfmpiabmnjmobaaBytes
namespace Go.Proofs.Ytfmpiabmnjmobaa
open Go.ChangeShapes Go.WideShapes Go.ChangeAt Go.RowKit

section
variable {H : Type} {enc : TypeId × Value → H} {P : Program} {w : World}
/-- Other words for the same data, where the data are such. -/
theorem OpenT.asQ {α β : Type} {t : TypeId} {k : Nat} {emb : α → D} {Q : α → Prop} {emb' : β → D} {Q' : β → Prop} (h : OpenT enc P w t k emb Q) (f : α → β) (he : ∀ a, Q a → emb a = emb' (f a)) (hq : ∀ a, Q a → Q' (f a)) : OpenT enc P w t k emb' Q' := fun fuel cs x hx hlt hwt => by
  obtain ⟨a, h1, h2, h3⟩ := h fuel cs x hx hlt hwt
  exact ⟨f a, hq a h1, by rw [← he a h1]; exact h2, by rw [← he a h1]; exact h3⟩
theorem openI64 {t : TypeId} (ht : P.underlying t = some (.int .i64)) : OpenT enc P w t 1 (fun n : Int => .raw (.int .i64 n)) (fun n => -9223372036854775808 ≤ n ∧ n ≤ 9223372036854775807) :=
  (openInt ht).asQ id (fun a _ => rfl) (fun a h => h)
theorem openStrL {t : TypeId} (ht : P.underlying t = some .string) : OpenT enc P w t 1 strD (fun l => l.length ≤ 140737488351232) :=
  (openStr ht).asQ (fun s => s.data.toList) (fun a _ => rfl) (fun a h => by simpa using h)
end
end Go.Proofs.Ytfmpiabmnjmobaa

