/- Rows of bytes; strings out of them and back. No program in sight. -/
import Derived.Test.YtfmpiabmnjmobaaCallB
import Derived.Test.YtfmpiabmnjmobaaOps
namespace Go.Proofs.Ytfmpiabmnjmobaa
open Go.RowKit

theorem getm {α β : Type} {f : α → β} {l : List α} {k : Nat} (h : k < l.length) : (l.map f)[k]? = some (f l[k]) := by simp [h]
theorem lt_cast {a b : Nat} (h : (a : Int) < (b : Int)) : a < b := by omega
abbrev strD (l : List UInt8) : D := .raw (.string ⟨l.toArray⟩)
section
variable {P : Program} {F : Fr} {s : AS} {d : Nat} {ty T T' E : TypeId} {pos : String} {aft : Array Edge} {g : Option (Nat × Bool)} {x y : Operand}
end
end Go.Proofs.Ytfmpiabmnjmobaa

