/- How a value of the reference is opened. -/
import Derived.Test.YtjbghmlofjkcfaaOpn2
import Derived.Test.YtjbghmlofjkcfaaCodL
namespace Go.Proofs.Ytjbghmlofjkcfaa
open Go.ChangeShapes Go.WideShapes Go.ChangeAt Go.RowKit

theorem openV {H : Type} {enc : TypeId × Value → H} {w : World} : OpenT enc Try.prog w 32 6 vD VIn :=
  (openSt Try.underlying32 (by kernel_rfl) (openFc rfl (by kernel_rfl) (openI64 Try.underlying3) (openFc rfl (by kernel_rfl) (openNat Try.underlying29) (openFc rfl (by kernel_rfl) (openI64 Try.underlying2) (openFc rfl (by kernel_rfl) (openBool Try.underlying4)
    (openFc rfl (by kernel_rfl) (openStrL Try.underlying9) (openFc rfl (by kernel_rfl) (openSl Try.underlying30 (by kernel_rfl) (by omega) (b := 16) (by kernel_rfl) (openStrL Try.underlying9)) openF0))))))).asQ
    (fun a => (⟨a.1, a.2.1, a.2.2.1, a.2.2.2.1, a.2.2.2.2.1, a.2.2.2.2.2.1⟩ : CV)) (fun a _ => rfl) (fun a h => by
      obtain ⟨⟨h1, h2⟩, h3, ⟨h4, h5⟩, _, h6, ⟨h7, h8⟩, _⟩ := h
      exact ⟨h3, h1, h2, h4, h5, h6, by show a.2.2.2.2.2.1.length ≤ _; omega, h7⟩)
end Go.Proofs.Ytjbghmlofjkcfaa
