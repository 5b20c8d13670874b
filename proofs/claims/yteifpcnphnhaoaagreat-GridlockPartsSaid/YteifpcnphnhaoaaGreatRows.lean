/-
  No cell of these rows narrows 'for every input' (looked for: loops, veiled, ifaces, maps, wideKeys, modest, calm, conditions, laid).
  DERIVED. THE GIVEN ROWS OF THIS SEAT. 7 by the template 'for every input the law returns true; each argument reads behind the call as it read before'; 0 by the template 'total and deterministic' (their statements: YteifpcnphnhaoaaGreatTotals.lean).
  GIVEN WITH THE SEED: the statements are not yours to turn. If you find one false, say at which input.
  Laid BY PROGRAM, IN A SANDBOX (cutbox-rows.mjs): the forced cells as the released guide's own fill.sh prints them over the translation 744bbbfe01b157a8… (all of the seat's roots in one cut). By AI agents, Wed Nov 11 2026. No macro, syntax, notation, axiom, sorry.
-/
import Derived.Test.YteifpcnphnhaoaaGreatChecked
import GoSem.Claim
import GoSem.ClaimJoined
import GoSem.ClaimMapViews
import Derived.JoinedTies
import Derived.KernelRfl
namespace Go.Proofs.YteifpcnphnhaoaaGreat
/- THE CELL 'sum', in the pinned program and in every row, IS THE sha256 OF THE DUMP (.gsa) THAT YteifpcnphnhaoaaGreatProg.lean LOADS. Nothing in Lean hashes anything: it is a label: what it is worth is what the hold of that sum in a sandbox is worth. -/
noncomputable def Tryz.pinned : Pinned := { name := "yteifpcnphnhaoaagreat", sum := "744bbbfe01b157a88c1df8e8f9105b363974dfda5e311305aad9524fe9540ad6", checked := Tryz.checked }
namespace Rows
def none {H : Type} : Left H := { results := [], args := [] }

/-- 'girolaw32.GridlockAnalyze': WHATEVER THE INPUT: true; the input reads as it did. -/
def gridlockAnalyzeSpec : ChangeSpec := { name := "gridlockAnalyze", fn := fun _ => fun
  | [d] => { results := [.lit (.bool true)], args := [d] }
  | _ => none }
def gridlockAnalyzeRow : OpenClaim := { program := "yteifpcnphnhaoaagreat", sum := "744bbbfe01b157a88c1df8e8f9105b363974dfda5e311305aad9524fe9540ad6", func := "giro/girolaw32.GridlockAnalyze", spec := "gridlockAnalyze", unfollowed := true, recurses := true, plainKeys := false, apart := false }
def GridlockAnalyzeSaid : Prop := gridlockAnalyzeRow.holds Tryz.pinned (OpenSpec.ofChange gridlockAnalyzeSpec)

/-- ITS FALSE NEIGHBOUR: 'it returns false'. Refute it at one input. -/
def gridlockAnalyzeWrong : ChangeSpec := { name := "gridlockAnalyze", fn := fun _ => fun
  | [d] => { results := [.lit (.bool false)], args := [d] }
  | _ => none }
def GridlockAnalyzeWrongFalsely : Prop := gridlockAnalyzeRow.holds Tryz.pinned (OpenSpec.ofChange gridlockAnalyzeWrong)

/-- 'girolaw32.GridlockPartition': WHATEVER THE INPUT: true; the input reads as it did. -/
def gridlockPartitionSpec : ChangeSpec := { name := "gridlockPartition", fn := fun _ => fun
  | [d1, d2] => { results := [.lit (.bool true)], args := [d1, d2] }
  | _ => none }
def gridlockPartitionRow : OpenClaim := { program := "yteifpcnphnhaoaagreat", sum := "744bbbfe01b157a88c1df8e8f9105b363974dfda5e311305aad9524fe9540ad6", func := "giro/girolaw32.GridlockPartition", spec := "gridlockPartition", unfollowed := true, recurses := true, plainKeys := false, apart := false }
def GridlockPartitionSaid : Prop := gridlockPartitionRow.holds Tryz.pinned (OpenSpec.ofChange gridlockPartitionSpec)

/-- ITS FALSE NEIGHBOUR: 'it returns false'. Refute it at one input. -/
def gridlockPartitionWrong : ChangeSpec := { name := "gridlockPartition", fn := fun _ => fun
  | [d1, d2] => { results := [.lit (.bool false)], args := [d1, d2] }
  | _ => none }
def GridlockPartitionWrongFalsely : Prop := gridlockPartitionRow.holds Tryz.pinned (OpenSpec.ofChange gridlockPartitionWrong)

/-- 'girolaw32.GridlockBlocked': WHATEVER THE INPUT: true; the input reads as it did. -/
def gridlockBlockedSpec : ChangeSpec := { name := "gridlockBlocked", fn := fun _ => fun
  | [d] => { results := [.lit (.bool true)], args := [d] }
  | _ => none }
def gridlockBlockedRow : OpenClaim := { program := "yteifpcnphnhaoaagreat", sum := "744bbbfe01b157a88c1df8e8f9105b363974dfda5e311305aad9524fe9540ad6", func := "giro/girolaw32.GridlockBlocked", spec := "gridlockBlocked", unfollowed := true, recurses := true, plainKeys := false, apart := false }
def GridlockBlockedSaid : Prop := gridlockBlockedRow.holds Tryz.pinned (OpenSpec.ofChange gridlockBlockedSpec)

/-- ITS FALSE NEIGHBOUR: 'it returns false'. Refute it at one input. -/
def gridlockBlockedWrong : ChangeSpec := { name := "gridlockBlocked", fn := fun _ => fun
  | [d] => { results := [.lit (.bool false)], args := [d] }
  | _ => none }
def GridlockBlockedWrongFalsely : Prop := gridlockBlockedRow.holds Tryz.pinned (OpenSpec.ofChange gridlockBlockedWrong)

/-- 'girolaw32.GridlockWaits': WHATEVER THE INPUT: true; the input reads as it did. -/
def gridlockWaitsSpec : ChangeSpec := { name := "gridlockWaits", fn := fun _ => fun
  | [d] => { results := [.lit (.bool true)], args := [d] }
  | _ => none }
def gridlockWaitsRow : OpenClaim := { program := "yteifpcnphnhaoaagreat", sum := "744bbbfe01b157a88c1df8e8f9105b363974dfda5e311305aad9524fe9540ad6", func := "giro/girolaw32.GridlockWaits", spec := "gridlockWaits", unfollowed := true, recurses := true, plainKeys := false, apart := false }
def GridlockWaitsSaid : Prop := gridlockWaitsRow.holds Tryz.pinned (OpenSpec.ofChange gridlockWaitsSpec)

/-- ITS FALSE NEIGHBOUR: 'it returns false'. Refute it at one input. -/
def gridlockWaitsWrong : ChangeSpec := { name := "gridlockWaits", fn := fun _ => fun
  | [d] => { results := [.lit (.bool false)], args := [d] }
  | _ => none }
def GridlockWaitsWrongFalsely : Prop := gridlockWaitsRow.holds Tryz.pinned (OpenSpec.ofChange gridlockWaitsWrong)

/-- 'girolaw32.GridlockCircles': WHATEVER THE INPUT: true; the input reads as it did. -/
def gridlockCirclesSpec : ChangeSpec := { name := "gridlockCircles", fn := fun _ => fun
  | [d] => { results := [.lit (.bool true)], args := [d] }
  | _ => none }
def gridlockCirclesRow : OpenClaim := { program := "yteifpcnphnhaoaagreat", sum := "744bbbfe01b157a88c1df8e8f9105b363974dfda5e311305aad9524fe9540ad6", func := "giro/girolaw32.GridlockCircles", spec := "gridlockCircles", unfollowed := true, recurses := true, plainKeys := false, apart := false }
def GridlockCirclesSaid : Prop := gridlockCirclesRow.holds Tryz.pinned (OpenSpec.ofChange gridlockCirclesSpec)

/-- ITS FALSE NEIGHBOUR: 'it returns false'. Refute it at one input. -/
def gridlockCirclesWrong : ChangeSpec := { name := "gridlockCircles", fn := fun _ => fun
  | [d] => { results := [.lit (.bool false)], args := [d] }
  | _ => none }
def GridlockCirclesWrongFalsely : Prop := gridlockCirclesRow.holds Tryz.pinned (OpenSpec.ofChange gridlockCirclesWrong)

/-- 'girolaw32.GridlockParts': WHATEVER THE INPUT: true; the input reads as it did. -/
def gridlockPartsSpec : ChangeSpec := { name := "gridlockParts", fn := fun _ => fun
  | [d1, d2] => { results := [.lit (.bool true)], args := [d1, d2] }
  | _ => none }
def gridlockPartsRow : OpenClaim := { program := "yteifpcnphnhaoaagreat", sum := "744bbbfe01b157a88c1df8e8f9105b363974dfda5e311305aad9524fe9540ad6", func := "giro/girolaw32.GridlockParts", spec := "gridlockParts", unfollowed := true, recurses := true, plainKeys := false, apart := false }
def GridlockPartsSaid : Prop := gridlockPartsRow.holds Tryz.pinned (OpenSpec.ofChange gridlockPartsSpec)

/-- ITS FALSE NEIGHBOUR: 'it returns false'. Refute it at one input. -/
def gridlockPartsWrong : ChangeSpec := { name := "gridlockParts", fn := fun _ => fun
  | [d1, d2] => { results := [.lit (.bool false)], args := [d1, d2] }
  | _ => none }
def GridlockPartsWrongFalsely : Prop := gridlockPartsRow.holds Tryz.pinned (OpenSpec.ofChange gridlockPartsWrong)

/-- 'girolaw32.GridlockIndependent': WHATEVER THE INPUT: true; the input reads as it did. -/
def gridlockIndependentSpec : ChangeSpec := { name := "gridlockIndependent", fn := fun _ => fun
  | [d] => { results := [.lit (.bool true)], args := [d] }
  | _ => none }
def gridlockIndependentRow : OpenClaim := { program := "yteifpcnphnhaoaagreat", sum := "744bbbfe01b157a88c1df8e8f9105b363974dfda5e311305aad9524fe9540ad6", func := "giro/girolaw32.GridlockIndependent", spec := "gridlockIndependent", unfollowed := true, recurses := true, plainKeys := false, apart := false }
def GridlockIndependentSaid : Prop := gridlockIndependentRow.holds Tryz.pinned (OpenSpec.ofChange gridlockIndependentSpec)

/-- ITS FALSE NEIGHBOUR: 'it returns false'. Refute it at one input. -/
def gridlockIndependentWrong : ChangeSpec := { name := "gridlockIndependent", fn := fun _ => fun
  | [d] => { results := [.lit (.bool false)], args := [d] }
  | _ => none }
def GridlockIndependentWrongFalsely : Prop := gridlockIndependentRow.holds Tryz.pinned (OpenSpec.ofChange gridlockIndependentWrong)

/- THE SECOND FORM. 'bulk': how many values and letters a reading holds, each counted each time it is reached (what is shared counts as often as it is met; a slice's spare places count too). A statement '..UptoSaid' is the law's where the arguments, and the package variables that the reading takes, are together of bulk at most 1048576: NARROWER than '..Said'. Prove '..Said' where nothing that the law and all that it calls make is longer than what came in: it says more and counts as full. Else prove '..UptoSaid'. A law counts once. -/
mutual
def uptoBulk {H : Type} : DataW H → Nat
  | .lit (.string bytes) => bytes.length + 1
  | .lit _ => 1
  | .nil => 1
  | .ptr d => uptoBulk d + 1
  | .slice elems spare => uptoBulkAll elems + uptoBulkAll spare + 1
  | .agg parts => uptoBulkAll parts + 1
  | .iface _ d => uptoBulk d + 1
  | .map entries => uptoBulkEntries entries + 1
  | .held _ => 1
def uptoBulkAll {H : Type} : List (DataW H) → Nat
  | [] => 0
  | d :: r => uptoBulk d + uptoBulkAll r
def uptoBulkEntries {H : Type} : List (Lit × DataW H) → Nat
  | [] => 0
  | x :: r => uptoBulkEntry x + uptoBulkEntries r
def uptoBulkEntry {H : Type} : Lit × DataW H → Nat
  | (.string bytes, d) => bytes.length + uptoBulk d + 1
  | (_, d) => uptoBulk d + 1
 end
def uptoSmall : (H : Type) → List (DataW H) → Bool := fun _ ds => decide (uptoBulkAll ds ≤ 1048576)
def OpenSpec.upto (s : _root_.Go.ChangeSpec) : _root_.Go.OpenSpec := { _root_.Go.OpenSpec.ofChange s with cond := some uptoSmall }

/-- 'girolaw32.GridlockAnalyze', WHERE WHAT IT READS IS OF BULK AT MOST 1048576: true; the input reads as it did. -/
def gridlockAnalyzeUptoRow : OpenClaim := { program := "yteifpcnphnhaoaagreat", sum := "744bbbfe01b157a88c1df8e8f9105b363974dfda5e311305aad9524fe9540ad6", func := "giro/girolaw32.GridlockAnalyze", spec := "gridlockAnalyze", unfollowed := true, recurses := true, plainKeys := false, apart := false, narrowed := true }
def GridlockAnalyzeUptoSaid : Prop := gridlockAnalyzeUptoRow.holds Tryz.pinned (OpenSpec.upto gridlockAnalyzeSpec)

/-- 'girolaw32.GridlockPartition', WHERE WHAT IT READS IS OF BULK AT MOST 1048576: true; the input reads as it did. -/
def gridlockPartitionUptoRow : OpenClaim := { program := "yteifpcnphnhaoaagreat", sum := "744bbbfe01b157a88c1df8e8f9105b363974dfda5e311305aad9524fe9540ad6", func := "giro/girolaw32.GridlockPartition", spec := "gridlockPartition", unfollowed := true, recurses := true, plainKeys := false, apart := false, narrowed := true }
def GridlockPartitionUptoSaid : Prop := gridlockPartitionUptoRow.holds Tryz.pinned (OpenSpec.upto gridlockPartitionSpec)

/-- 'girolaw32.GridlockBlocked', WHERE WHAT IT READS IS OF BULK AT MOST 1048576: true; the input reads as it did. -/
def gridlockBlockedUptoRow : OpenClaim := { program := "yteifpcnphnhaoaagreat", sum := "744bbbfe01b157a88c1df8e8f9105b363974dfda5e311305aad9524fe9540ad6", func := "giro/girolaw32.GridlockBlocked", spec := "gridlockBlocked", unfollowed := true, recurses := true, plainKeys := false, apart := false, narrowed := true }
def GridlockBlockedUptoSaid : Prop := gridlockBlockedUptoRow.holds Tryz.pinned (OpenSpec.upto gridlockBlockedSpec)

/-- 'girolaw32.GridlockWaits', WHERE WHAT IT READS IS OF BULK AT MOST 1048576: true; the input reads as it did. -/
def gridlockWaitsUptoRow : OpenClaim := { program := "yteifpcnphnhaoaagreat", sum := "744bbbfe01b157a88c1df8e8f9105b363974dfda5e311305aad9524fe9540ad6", func := "giro/girolaw32.GridlockWaits", spec := "gridlockWaits", unfollowed := true, recurses := true, plainKeys := false, apart := false, narrowed := true }
def GridlockWaitsUptoSaid : Prop := gridlockWaitsUptoRow.holds Tryz.pinned (OpenSpec.upto gridlockWaitsSpec)

/-- 'girolaw32.GridlockCircles', WHERE WHAT IT READS IS OF BULK AT MOST 1048576: true; the input reads as it did. -/
def gridlockCirclesUptoRow : OpenClaim := { program := "yteifpcnphnhaoaagreat", sum := "744bbbfe01b157a88c1df8e8f9105b363974dfda5e311305aad9524fe9540ad6", func := "giro/girolaw32.GridlockCircles", spec := "gridlockCircles", unfollowed := true, recurses := true, plainKeys := false, apart := false, narrowed := true }
def GridlockCirclesUptoSaid : Prop := gridlockCirclesUptoRow.holds Tryz.pinned (OpenSpec.upto gridlockCirclesSpec)

/-- 'girolaw32.GridlockParts', WHERE WHAT IT READS IS OF BULK AT MOST 1048576: true; the input reads as it did. -/
def gridlockPartsUptoRow : OpenClaim := { program := "yteifpcnphnhaoaagreat", sum := "744bbbfe01b157a88c1df8e8f9105b363974dfda5e311305aad9524fe9540ad6", func := "giro/girolaw32.GridlockParts", spec := "gridlockParts", unfollowed := true, recurses := true, plainKeys := false, apart := false, narrowed := true }
def GridlockPartsUptoSaid : Prop := gridlockPartsUptoRow.holds Tryz.pinned (OpenSpec.upto gridlockPartsSpec)

/-- 'girolaw32.GridlockIndependent', WHERE WHAT IT READS IS OF BULK AT MOST 1048576: true; the input reads as it did. -/
def gridlockIndependentUptoRow : OpenClaim := { program := "yteifpcnphnhaoaagreat", sum := "744bbbfe01b157a88c1df8e8f9105b363974dfda5e311305aad9524fe9540ad6", func := "giro/girolaw32.GridlockIndependent", spec := "gridlockIndependent", unfollowed := true, recurses := true, plainKeys := false, apart := false, narrowed := true }
def GridlockIndependentUptoSaid : Prop := gridlockIndependentUptoRow.holds Tryz.pinned (OpenSpec.upto gridlockIndependentSpec)

end Rows
end Go.Proofs.YteifpcnphnhaoaaGreat
