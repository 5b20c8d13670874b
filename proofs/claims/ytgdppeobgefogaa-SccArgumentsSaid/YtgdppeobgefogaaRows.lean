/-
  No cell of these rows narrows 'for every input' (looked for: loops, veiled, ifaces, maps, wideKeys, modest, calm, conditions, laid).
  DERIVED. THE GIVEN ROWS OF THIS SEAT. 9 by the template 'for every input the law returns true; each argument reads behind the call as it read before'; 0 by the template 'total and deterministic' (their statements: YtgdppeobgefogaaTotals.lean).
  GIVEN WITH THE SEED: the statements are not yours to turn. If you find one false, say at which input.
  Laid BY PROGRAM, IN A SANDBOX (cutbox-rows.mjs): the forced cells as the released guide's own fill.sh prints them over the translation a8f30fe1496e5d27… (all of the seat's roots in one cut). By AI agents, Wed Nov 11 2026. No macro, syntax, notation, axiom, sorry.
-/
import Derived.Test.YtgdppeobgefogaaChecked
import GoSem.Claim
import GoSem.ClaimJoined
import GoSem.ClaimMapViews
import Derived.JoinedTies
import Derived.KernelRfl
namespace Go.Proofs.Ytgdppeobgefogaa
/- THE CELL 'sum', in the pinned program and in every row, IS THE sha256 OF THE DUMP (.gsa) THAT YtgdppeobgefogaaProg.lean LOADS. Nothing in Lean hashes anything: it is a label: what it is worth is what the hold of that sum in a sandbox is worth. -/
noncomputable def Try.pinned : Pinned := { name := "ytgdppeobgefogaa", sum := "a8f30fe1496e5d27820faffaa23fbdc6818bd060ce36de8c0b1397b17e9eec9a", checked := Try.checked }
namespace Rows
def none {H : Type} : Left H := { results := [], args := [] }

/-- 'girolaw31.SccCycle': WHATEVER THE INPUT: true; the input reads as it did. -/
def sccCycleSpec : ChangeSpec := { name := "sccCycle", fn := fun _ => fun
  | [d] => { results := [.lit (.bool true)], args := [d] }
  | _ => none }
def sccCycleRow : OpenClaim := { program := "ytgdppeobgefogaa", sum := "a8f30fe1496e5d27820faffaa23fbdc6818bd060ce36de8c0b1397b17e9eec9a", func := "giro/girolaw31.SccCycle", spec := "sccCycle", unfollowed := true, recurses := true, apart := false }
def SccCycleSaid : Prop := sccCycleRow.holds Try.pinned (OpenSpec.ofChange sccCycleSpec)

/-- ITS FALSE NEIGHBOUR: 'it returns false'. Refute it at one input. -/
def sccCycleWrong : ChangeSpec := { name := "sccCycle", fn := fun _ => fun
  | [d] => { results := [.lit (.bool false)], args := [d] }
  | _ => none }
def SccCycleWrongFalsely : Prop := sccCycleRow.holds Try.pinned (OpenSpec.ofChange sccCycleWrong)

/-- 'girolaw31.SccReverse': WHATEVER THE INPUT: true; the input reads as it did. -/
def sccReverseSpec : ChangeSpec := { name := "sccReverse", fn := fun _ => fun
  | [d] => { results := [.lit (.bool true)], args := [d] }
  | _ => none }
def sccReverseRow : OpenClaim := { program := "ytgdppeobgefogaa", sum := "a8f30fe1496e5d27820faffaa23fbdc6818bd060ce36de8c0b1397b17e9eec9a", func := "giro/girolaw31.SccReverse", spec := "sccReverse", unfollowed := true, recurses := true, apart := false }
def SccReverseSaid : Prop := sccReverseRow.holds Try.pinned (OpenSpec.ofChange sccReverseSpec)

/-- ITS FALSE NEIGHBOUR: 'it returns false'. Refute it at one input. -/
def sccReverseWrong : ChangeSpec := { name := "sccReverse", fn := fun _ => fun
  | [d] => { results := [.lit (.bool false)], args := [d] }
  | _ => none }
def SccReverseWrongFalsely : Prop := sccReverseRow.holds Try.pinned (OpenSpec.ofChange sccReverseWrong)

/-- 'girolaw31.SccOrder': WHATEVER THE INPUT: true; the input reads as it did. -/
def sccOrderSpec : ChangeSpec := { name := "sccOrder", fn := fun _ => fun
  | [d1, d2] => { results := [.lit (.bool true)], args := [d1, d2] }
  | _ => none }
def sccOrderRow : OpenClaim := { program := "ytgdppeobgefogaa", sum := "a8f30fe1496e5d27820faffaa23fbdc6818bd060ce36de8c0b1397b17e9eec9a", func := "giro/girolaw31.SccOrder", spec := "sccOrder", unfollowed := true, recurses := true, apart := false }
def SccOrderSaid : Prop := sccOrderRow.holds Try.pinned (OpenSpec.ofChange sccOrderSpec)

/-- ITS FALSE NEIGHBOUR: 'it returns false'. Refute it at one input. -/
def sccOrderWrong : ChangeSpec := { name := "sccOrder", fn := fun _ => fun
  | [d1, d2] => { results := [.lit (.bool false)], args := [d1, d2] }
  | _ => none }
def SccOrderWrongFalsely : Prop := sccOrderRow.holds Try.pinned (OpenSpec.ofChange sccOrderWrong)

/-- 'girolaw31.SccLongPaths': WHATEVER THE INPUT: true; the input reads as it did. -/
def sccLongPathsSpec : ChangeSpec := { name := "sccLongPaths", fn := fun _ => fun
  | [d1, d2] => { results := [.lit (.bool true)], args := [d1, d2] }
  | _ => none }
def sccLongPathsRow : OpenClaim := { program := "ytgdppeobgefogaa", sum := "a8f30fe1496e5d27820faffaa23fbdc6818bd060ce36de8c0b1397b17e9eec9a", func := "giro/girolaw31.SccLongPaths", spec := "sccLongPaths", unfollowed := true, recurses := true, apart := false }
def SccLongPathsSaid : Prop := sccLongPathsRow.holds Try.pinned (OpenSpec.ofChange sccLongPathsSpec)

/-- ITS FALSE NEIGHBOUR: 'it returns false'. Refute it at one input. -/
def sccLongPathsWrong : ChangeSpec := { name := "sccLongPaths", fn := fun _ => fun
  | [d1, d2] => { results := [.lit (.bool false)], args := [d1, d2] }
  | _ => none }
def SccLongPathsWrongFalsely : Prop := sccLongPathsRow.holds Try.pinned (OpenSpec.ofChange sccLongPathsWrong)

/-- 'girolaw31.SccReachable': WHATEVER THE INPUT: true; the input reads as it did. -/
def sccReachableSpec : ChangeSpec := { name := "sccReachable", fn := fun _ => fun
  | [d1, d2] => { results := [.lit (.bool true)], args := [d1, d2] }
  | _ => none }
def sccReachableRow : OpenClaim := { program := "ytgdppeobgefogaa", sum := "a8f30fe1496e5d27820faffaa23fbdc6818bd060ce36de8c0b1397b17e9eec9a", func := "giro/girolaw31.SccReachable", spec := "sccReachable", unfollowed := true, recurses := true, apart := false }
def SccReachableSaid : Prop := sccReachableRow.holds Try.pinned (OpenSpec.ofChange sccReachableSpec)

/-- ITS FALSE NEIGHBOUR: 'it returns false'. Refute it at one input. -/
def sccReachableWrong : ChangeSpec := { name := "sccReachable", fn := fun _ => fun
  | [d1, d2] => { results := [.lit (.bool false)], args := [d1, d2] }
  | _ => none }
def SccReachableWrongFalsely : Prop := sccReachableRow.holds Try.pinned (OpenSpec.ofChange sccReachableWrong)

/-- 'girolaw31.SccComponents': WHATEVER THE INPUT: true; the input reads as it did. -/
def sccComponentsSpec : ChangeSpec := { name := "sccComponents", fn := fun _ => fun
  | [d] => { results := [.lit (.bool true)], args := [d] }
  | _ => none }
def sccComponentsRow : OpenClaim := { program := "ytgdppeobgefogaa", sum := "a8f30fe1496e5d27820faffaa23fbdc6818bd060ce36de8c0b1397b17e9eec9a", func := "giro/girolaw31.SccComponents", spec := "sccComponents", unfollowed := true, recurses := true, apart := false }
def SccComponentsSaid : Prop := sccComponentsRow.holds Try.pinned (OpenSpec.ofChange sccComponentsSpec)

/-- ITS FALSE NEIGHBOUR: 'it returns false'. Refute it at one input. -/
def sccComponentsWrong : ChangeSpec := { name := "sccComponents", fn := fun _ => fun
  | [d] => { results := [.lit (.bool false)], args := [d] }
  | _ => none }
def SccComponentsWrongFalsely : Prop := sccComponentsRow.holds Try.pinned (OpenSpec.ofChange sccComponentsWrong)

/-- 'girolaw31.SccArguments': WHATEVER THE INPUT: true; the input reads as it did. -/
def sccArgumentsSpec : ChangeSpec := { name := "sccArguments", fn := fun _ => fun
  | [d] => { results := [.lit (.bool true)], args := [d] }
  | _ => none }
def sccArgumentsRow : OpenClaim := { program := "ytgdppeobgefogaa", sum := "a8f30fe1496e5d27820faffaa23fbdc6818bd060ce36de8c0b1397b17e9eec9a", func := "giro/girolaw31.SccArguments", spec := "sccArguments", unfollowed := true, recurses := true, apart := false }
def SccArgumentsSaid : Prop := sccArgumentsRow.holds Try.pinned (OpenSpec.ofChange sccArgumentsSpec)

/-- ITS FALSE NEIGHBOUR: 'it returns false'. Refute it at one input. -/
def sccArgumentsWrong : ChangeSpec := { name := "sccArguments", fn := fun _ => fun
  | [d] => { results := [.lit (.bool false)], args := [d] }
  | _ => none }
def SccArgumentsWrongFalsely : Prop := sccArgumentsRow.holds Try.pinned (OpenSpec.ofChange sccArgumentsWrong)

/-- 'girolaw31.SccPartition': WHATEVER THE INPUT: true; the input reads as it did. -/
def sccPartitionSpec : ChangeSpec := { name := "sccPartition", fn := fun _ => fun
  | [d1, d2, d3] => { results := [.lit (.bool true)], args := [d1, d2, d3] }
  | _ => none }
def sccPartitionRow : OpenClaim := { program := "ytgdppeobgefogaa", sum := "a8f30fe1496e5d27820faffaa23fbdc6818bd060ce36de8c0b1397b17e9eec9a", func := "giro/girolaw31.SccPartition", spec := "sccPartition", unfollowed := true, recurses := true, apart := false }
def SccPartitionSaid : Prop := sccPartitionRow.holds Try.pinned (OpenSpec.ofChange sccPartitionSpec)

/-- ITS FALSE NEIGHBOUR: 'it returns false'. Refute it at one input. -/
def sccPartitionWrong : ChangeSpec := { name := "sccPartition", fn := fun _ => fun
  | [d1, d2, d3] => { results := [.lit (.bool false)], args := [d1, d2, d3] }
  | _ => none }
def SccPartitionWrongFalsely : Prop := sccPartitionRow.holds Try.pinned (OpenSpec.ofChange sccPartitionWrong)

/-- 'girolaw31.SccCheck': WHATEVER THE INPUT: true; the input reads as it did. -/
def sccCheckSpec : ChangeSpec := { name := "sccCheck", fn := fun _ => fun
  | [d] => { results := [.lit (.bool true)], args := [d] }
  | _ => none }
def sccCheckRow : OpenClaim := { program := "ytgdppeobgefogaa", sum := "a8f30fe1496e5d27820faffaa23fbdc6818bd060ce36de8c0b1397b17e9eec9a", func := "giro/girolaw31.SccCheck", spec := "sccCheck", unfollowed := true, recurses := true, apart := false }
def SccCheckSaid : Prop := sccCheckRow.holds Try.pinned (OpenSpec.ofChange sccCheckSpec)

/-- ITS FALSE NEIGHBOUR: 'it returns false'. Refute it at one input. -/
def sccCheckWrong : ChangeSpec := { name := "sccCheck", fn := fun _ => fun
  | [d] => { results := [.lit (.bool false)], args := [d] }
  | _ => none }
def SccCheckWrongFalsely : Prop := sccCheckRow.holds Try.pinned (OpenSpec.ofChange sccCheckWrong)

/- THE SECOND FORM. 'bulk': how many values and letters a reading holds, each counted each time it is reached (what is shared counts as often as it is met; a slice's spare places count too). A statement '..UptoSaid' is the law's where the arguments, and the package variables that the reading takes, are together of bulk at most 1048576: NARROWER than '..Said'. Prove '..Said' where nothing that the law and all that it calls make is longer than what came in: it says more and counts as full. Else prove '..UptoSaid'. A law counts once. -/
mutual
def uptoBulk {H : Type} : DataW H → Nat
  | .lit (.string bytes) => bytes.length + 1
  | .lit _ => 1
  | .nil => 1
  | .ptr d => uptoBulk d + 1
  | .slice elems spare => uptoBulkAll elems + uptoBulkAll spare + 1
  | .agg parts => uptoBulkAll parts + 1
  | .iface _ d => uptoBulk d + 1
  | .map entries => uptoBulkEntries entries + 1
  | .held _ => 1
def uptoBulkAll {H : Type} : List (DataW H) → Nat
  | [] => 0
  | d :: r => uptoBulk d + uptoBulkAll r
def uptoBulkEntries {H : Type} : List (Lit × DataW H) → Nat
  | [] => 0
  | x :: r => uptoBulkEntry x + uptoBulkEntries r
def uptoBulkEntry {H : Type} : Lit × DataW H → Nat
  | (.string bytes, d) => bytes.length + uptoBulk d + 1
  | (_, d) => uptoBulk d + 1
 end
def uptoSmall : (H : Type) → List (DataW H) → Bool := fun _ ds => decide (uptoBulkAll ds ≤ 1048576)
def OpenSpec.upto (s : _root_.Go.ChangeSpec) : _root_.Go.OpenSpec := { _root_.Go.OpenSpec.ofChange s with cond := some uptoSmall }

/-- 'girolaw31.SccCycle', WHERE WHAT IT READS IS OF BULK AT MOST 1048576: true; the input reads as it did. -/
def sccCycleUptoRow : OpenClaim := { program := "ytgdppeobgefogaa", sum := "a8f30fe1496e5d27820faffaa23fbdc6818bd060ce36de8c0b1397b17e9eec9a", func := "giro/girolaw31.SccCycle", spec := "sccCycle", unfollowed := true, recurses := true, apart := false, narrowed := true }
def SccCycleUptoSaid : Prop := sccCycleUptoRow.holds Try.pinned (OpenSpec.upto sccCycleSpec)

/-- 'girolaw31.SccReverse', WHERE WHAT IT READS IS OF BULK AT MOST 1048576: true; the input reads as it did. -/
def sccReverseUptoRow : OpenClaim := { program := "ytgdppeobgefogaa", sum := "a8f30fe1496e5d27820faffaa23fbdc6818bd060ce36de8c0b1397b17e9eec9a", func := "giro/girolaw31.SccReverse", spec := "sccReverse", unfollowed := true, recurses := true, apart := false, narrowed := true }
def SccReverseUptoSaid : Prop := sccReverseUptoRow.holds Try.pinned (OpenSpec.upto sccReverseSpec)

/-- 'girolaw31.SccOrder', WHERE WHAT IT READS IS OF BULK AT MOST 1048576: true; the input reads as it did. -/
def sccOrderUptoRow : OpenClaim := { program := "ytgdppeobgefogaa", sum := "a8f30fe1496e5d27820faffaa23fbdc6818bd060ce36de8c0b1397b17e9eec9a", func := "giro/girolaw31.SccOrder", spec := "sccOrder", unfollowed := true, recurses := true, apart := false, narrowed := true }
def SccOrderUptoSaid : Prop := sccOrderUptoRow.holds Try.pinned (OpenSpec.upto sccOrderSpec)

/-- 'girolaw31.SccLongPaths', WHERE WHAT IT READS IS OF BULK AT MOST 1048576: true; the input reads as it did. -/
def sccLongPathsUptoRow : OpenClaim := { program := "ytgdppeobgefogaa", sum := "a8f30fe1496e5d27820faffaa23fbdc6818bd060ce36de8c0b1397b17e9eec9a", func := "giro/girolaw31.SccLongPaths", spec := "sccLongPaths", unfollowed := true, recurses := true, apart := false, narrowed := true }
def SccLongPathsUptoSaid : Prop := sccLongPathsUptoRow.holds Try.pinned (OpenSpec.upto sccLongPathsSpec)

/-- 'girolaw31.SccReachable', WHERE WHAT IT READS IS OF BULK AT MOST 1048576: true; the input reads as it did. -/
def sccReachableUptoRow : OpenClaim := { program := "ytgdppeobgefogaa", sum := "a8f30fe1496e5d27820faffaa23fbdc6818bd060ce36de8c0b1397b17e9eec9a", func := "giro/girolaw31.SccReachable", spec := "sccReachable", unfollowed := true, recurses := true, apart := false, narrowed := true }
def SccReachableUptoSaid : Prop := sccReachableUptoRow.holds Try.pinned (OpenSpec.upto sccReachableSpec)

/-- 'girolaw31.SccComponents', WHERE WHAT IT READS IS OF BULK AT MOST 1048576: true; the input reads as it did. -/
def sccComponentsUptoRow : OpenClaim := { program := "ytgdppeobgefogaa", sum := "a8f30fe1496e5d27820faffaa23fbdc6818bd060ce36de8c0b1397b17e9eec9a", func := "giro/girolaw31.SccComponents", spec := "sccComponents", unfollowed := true, recurses := true, apart := false, narrowed := true }
def SccComponentsUptoSaid : Prop := sccComponentsUptoRow.holds Try.pinned (OpenSpec.upto sccComponentsSpec)

/-- 'girolaw31.SccArguments', WHERE WHAT IT READS IS OF BULK AT MOST 1048576: true; the input reads as it did. -/
def sccArgumentsUptoRow : OpenClaim := { program := "ytgdppeobgefogaa", sum := "a8f30fe1496e5d27820faffaa23fbdc6818bd060ce36de8c0b1397b17e9eec9a", func := "giro/girolaw31.SccArguments", spec := "sccArguments", unfollowed := true, recurses := true, apart := false, narrowed := true }
def SccArgumentsUptoSaid : Prop := sccArgumentsUptoRow.holds Try.pinned (OpenSpec.upto sccArgumentsSpec)

/-- 'girolaw31.SccPartition', WHERE WHAT IT READS IS OF BULK AT MOST 1048576: true; the input reads as it did. -/
def sccPartitionUptoRow : OpenClaim := { program := "ytgdppeobgefogaa", sum := "a8f30fe1496e5d27820faffaa23fbdc6818bd060ce36de8c0b1397b17e9eec9a", func := "giro/girolaw31.SccPartition", spec := "sccPartition", unfollowed := true, recurses := true, apart := false, narrowed := true }
def SccPartitionUptoSaid : Prop := sccPartitionUptoRow.holds Try.pinned (OpenSpec.upto sccPartitionSpec)

/-- 'girolaw31.SccCheck', WHERE WHAT IT READS IS OF BULK AT MOST 1048576: true; the input reads as it did. -/
def sccCheckUptoRow : OpenClaim := { program := "ytgdppeobgefogaa", sum := "a8f30fe1496e5d27820faffaa23fbdc6818bd060ce36de8c0b1397b17e9eec9a", func := "giro/girolaw31.SccCheck", spec := "sccCheck", unfollowed := true, recurses := true, apart := false, narrowed := true }
def SccCheckUptoSaid : Prop := sccCheckUptoRow.holds Try.pinned (OpenSpec.upto sccCheckSpec)

end Rows
end Go.Proofs.Ytgdppeobgefogaa
