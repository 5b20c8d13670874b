/-
  No cell of these rows narrows 'for every input' (looked for: loops, veiled, ifaces, maps, wideKeys, modest, calm, conditions, laid).
  DERIVED. THE GIVEN ROWS OF THIS SEAT. 8 by the template 'for every input the law returns true; each argument reads behind the call as it read before'; 0 by the template 'total and deterministic' (their statements: YtfmpiabmnjmobaaTotals.lean).
  GIVEN WITH THE SEED: the statements are not yours to turn. If you find one false, say at which input.
  Laid BY PROGRAM, IN A SANDBOX (cutbox-rows.mjs): the forced cells as the released guide's own fill.sh prints them over the translation fadf149014626180… (all of the seat's roots in one cut). By AI agents, Wed Nov 11 2026. No macro, syntax, notation, axiom, sorry.
-/
import Derived.Test.YtfmpiabmnjmobaaChecked
import GoSem.Claim
import GoSem.ClaimJoined
import GoSem.ClaimMapViews
import Derived.JoinedTies
import Derived.KernelRfl
namespace Go.Proofs.Ytfmpiabmnjmobaa
/- THE CELL 'sum', in the pinned program and in every row, IS THE sha256 OF THE DUMP (.gsa) THAT YtfmpiabmnjmobaaProg.lean LOADS. Nothing in Lean hashes anything: it is a label: what it is worth is what the hold of that sum in a sandbox is worth. -/
noncomputable def Try.pinned : Pinned := { name := "ytfmpiabmnjmobaa", sum := "fadf149014626180f9ecaf013d107f49f8313c5cae03c43a9d6ddd98e05638a9", checked := Try.checked }
namespace Rows
def none {H : Type} : Left H := { results := [], args := [] }

/-- 'girolaw28.ResourceItemCheck': WHATEVER THE INPUT: true; the input reads as it did. -/
def resourceItemCheckSpec : ChangeSpec := { name := "resourceItemCheck", fn := fun _ => fun
  | [d] => { results := [.lit (.bool true)], args := [d] }
  | _ => none }
def resourceItemCheckRow : OpenClaim := { program := "ytfmpiabmnjmobaa", sum := "fadf149014626180f9ecaf013d107f49f8313c5cae03c43a9d6ddd98e05638a9", func := "giro/girolaw28.ResourceItemCheck", spec := "resourceItemCheck", unfollowed := true, recurses := true, plainKeys := false, apart := false }
def ResourceItemCheckSaid : Prop := resourceItemCheckRow.holds Try.pinned (OpenSpec.ofChange resourceItemCheckSpec)

/-- ITS FALSE NEIGHBOUR: 'it returns false'. Refute it at one input. -/
def resourceItemCheckWrong : ChangeSpec := { name := "resourceItemCheck", fn := fun _ => fun
  | [d] => { results := [.lit (.bool false)], args := [d] }
  | _ => none }
def ResourceItemCheckWrongFalsely : Prop := resourceItemCheckRow.holds Try.pinned (OpenSpec.ofChange resourceItemCheckWrong)

/-- 'girolaw28.ResourceBalanced': WHATEVER THE INPUT: true; the input reads as it did. -/
def resourceBalancedSpec : ChangeSpec := { name := "resourceBalanced", fn := fun _ => fun
  | [d] => { results := [.lit (.bool true)], args := [d] }
  | _ => none }
def resourceBalancedRow : OpenClaim := { program := "ytfmpiabmnjmobaa", sum := "fadf149014626180f9ecaf013d107f49f8313c5cae03c43a9d6ddd98e05638a9", func := "giro/girolaw28.ResourceBalanced", spec := "resourceBalanced", unfollowed := true, recurses := true, plainKeys := false, apart := false }
def ResourceBalancedSaid : Prop := resourceBalancedRow.holds Try.pinned (OpenSpec.ofChange resourceBalancedSpec)

/-- ITS FALSE NEIGHBOUR: 'it returns false'. Refute it at one input. -/
def resourceBalancedWrong : ChangeSpec := { name := "resourceBalanced", fn := fun _ => fun
  | [d] => { results := [.lit (.bool false)], args := [d] }
  | _ => none }
def ResourceBalancedWrongFalsely : Prop := resourceBalancedRow.holds Try.pinned (OpenSpec.ofChange resourceBalancedWrong)

/-- 'girolaw28.ResourceCompare': WHATEVER THE INPUT: true; the input reads as it did. -/
def resourceCompareSpec : ChangeSpec := { name := "resourceCompare", fn := fun _ => fun
  | [d1, d2, d3, d4] => { results := [.lit (.bool true)], args := [d1, d2, d3, d4] }
  | _ => none }
def resourceCompareRow : OpenClaim := { program := "ytfmpiabmnjmobaa", sum := "fadf149014626180f9ecaf013d107f49f8313c5cae03c43a9d6ddd98e05638a9", func := "giro/girolaw28.ResourceCompare", spec := "resourceCompare", unfollowed := true, recurses := true, plainKeys := false, apart := false }
def ResourceCompareSaid : Prop := resourceCompareRow.holds Try.pinned (OpenSpec.ofChange resourceCompareSpec)

/-- ITS FALSE NEIGHBOUR: 'it returns false'. Refute it at one input. -/
def resourceCompareWrong : ChangeSpec := { name := "resourceCompare", fn := fun _ => fun
  | [d1, d2, d3, d4] => { results := [.lit (.bool false)], args := [d1, d2, d3, d4] }
  | _ => none }
def ResourceCompareWrongFalsely : Prop := resourceCompareRow.holds Try.pinned (OpenSpec.ofChange resourceCompareWrong)

/-- 'girolaw28.ResourceDeltas': WHATEVER THE INPUT: true; the input reads as it did. -/
def resourceDeltasSpec : ChangeSpec := { name := "resourceDeltas", fn := fun _ => fun
  | [d1, d2] => { results := [.lit (.bool true)], args := [d1, d2] }
  | _ => none }
def resourceDeltasRow : OpenClaim := { program := "ytfmpiabmnjmobaa", sum := "fadf149014626180f9ecaf013d107f49f8313c5cae03c43a9d6ddd98e05638a9", func := "giro/girolaw28.ResourceDeltas", spec := "resourceDeltas", unfollowed := true, recurses := true, plainKeys := false, apart := false }
def ResourceDeltasSaid : Prop := resourceDeltasRow.holds Try.pinned (OpenSpec.ofChange resourceDeltasSpec)

/-- ITS FALSE NEIGHBOUR: 'it returns false'. Refute it at one input. -/
def resourceDeltasWrong : ChangeSpec := { name := "resourceDeltas", fn := fun _ => fun
  | [d1, d2] => { results := [.lit (.bool false)], args := [d1, d2] }
  | _ => none }
def ResourceDeltasWrongFalsely : Prop := resourceDeltasRow.holds Try.pinned (OpenSpec.ofChange resourceDeltasWrong)

/-- 'girolaw28.ResourceProblemCheck': WHATEVER THE INPUT: true; the input reads as it did. -/
def resourceProblemCheckSpec : ChangeSpec := { name := "resourceProblemCheck", fn := fun _ => fun
  | [d] => { results := [.lit (.bool true)], args := [d] }
  | _ => none }
def resourceProblemCheckRow : OpenClaim := { program := "ytfmpiabmnjmobaa", sum := "fadf149014626180f9ecaf013d107f49f8313c5cae03c43a9d6ddd98e05638a9", func := "giro/girolaw28.ResourceProblemCheck", spec := "resourceProblemCheck", unfollowed := true, recurses := true, plainKeys := false, apart := false }
def ResourceProblemCheckSaid : Prop := resourceProblemCheckRow.holds Try.pinned (OpenSpec.ofChange resourceProblemCheckSpec)

/-- ITS FALSE NEIGHBOUR: 'it returns false'. Refute it at one input. -/
def resourceProblemCheckWrong : ChangeSpec := { name := "resourceProblemCheck", fn := fun _ => fun
  | [d] => { results := [.lit (.bool false)], args := [d] }
  | _ => none }
def ResourceProblemCheckWrongFalsely : Prop := resourceProblemCheckRow.holds Try.pinned (OpenSpec.ofChange resourceProblemCheckWrong)

/-- 'girolaw28.ResourceQueues': WHATEVER THE INPUT: true; the input reads as it did. -/
def resourceQueuesSpec : ChangeSpec := { name := "resourceQueues", fn := fun _ => fun
  | [d1, d2, d3] => { results := [.lit (.bool true)], args := [d1, d2, d3] }
  | _ => none }
def resourceQueuesRow : OpenClaim := { program := "ytfmpiabmnjmobaa", sum := "fadf149014626180f9ecaf013d107f49f8313c5cae03c43a9d6ddd98e05638a9", func := "giro/girolaw28.ResourceQueues", spec := "resourceQueues", unfollowed := true, recurses := true, plainKeys := false, apart := false }
def ResourceQueuesSaid : Prop := resourceQueuesRow.holds Try.pinned (OpenSpec.ofChange resourceQueuesSpec)

/-- ITS FALSE NEIGHBOUR: 'it returns false'. Refute it at one input. -/
def resourceQueuesWrong : ChangeSpec := { name := "resourceQueues", fn := fun _ => fun
  | [d1, d2, d3] => { results := [.lit (.bool false)], args := [d1, d2, d3] }
  | _ => none }
def ResourceQueuesWrongFalsely : Prop := resourceQueuesRow.holds Try.pinned (OpenSpec.ofChange resourceQueuesWrong)

/-- 'girolaw28.ResourceTotals': WHATEVER THE INPUT: true; the input reads as it did. -/
def resourceTotalsSpec : ChangeSpec := { name := "resourceTotals", fn := fun _ => fun
  | [d1, d2] => { results := [.lit (.bool true)], args := [d1, d2] }
  | _ => none }
def resourceTotalsRow : OpenClaim := { program := "ytfmpiabmnjmobaa", sum := "fadf149014626180f9ecaf013d107f49f8313c5cae03c43a9d6ddd98e05638a9", func := "giro/girolaw28.ResourceTotals", spec := "resourceTotals", unfollowed := true, recurses := true, plainKeys := false, apart := false }
def ResourceTotalsSaid : Prop := resourceTotalsRow.holds Try.pinned (OpenSpec.ofChange resourceTotalsSpec)

/-- ITS FALSE NEIGHBOUR: 'it returns false'. Refute it at one input. -/
def resourceTotalsWrong : ChangeSpec := { name := "resourceTotals", fn := fun _ => fun
  | [d1, d2] => { results := [.lit (.bool false)], args := [d1, d2] }
  | _ => none }
def ResourceTotalsWrongFalsely : Prop := resourceTotalsRow.holds Try.pinned (OpenSpec.ofChange resourceTotalsWrong)

/-- 'girolaw28.ResourceSettleTwice': WHATEVER THE INPUT: true; the input reads as it did. -/
def resourceSettleTwiceSpec : ChangeSpec := { name := "resourceSettleTwice", fn := fun _ => fun
  | [d1, d2, d3] => { results := [.lit (.bool true)], args := [d1, d2, d3] }
  | _ => none }
def resourceSettleTwiceRow : OpenClaim := { program := "ytfmpiabmnjmobaa", sum := "fadf149014626180f9ecaf013d107f49f8313c5cae03c43a9d6ddd98e05638a9", func := "giro/girolaw28.ResourceSettleTwice", spec := "resourceSettleTwice", unfollowed := true, recurses := true, plainKeys := false, apart := false }
def ResourceSettleTwiceSaid : Prop := resourceSettleTwiceRow.holds Try.pinned (OpenSpec.ofChange resourceSettleTwiceSpec)

/-- ITS FALSE NEIGHBOUR: 'it returns false'. Refute it at one input. -/
def resourceSettleTwiceWrong : ChangeSpec := { name := "resourceSettleTwice", fn := fun _ => fun
  | [d1, d2, d3] => { results := [.lit (.bool false)], args := [d1, d2, d3] }
  | _ => none }
def ResourceSettleTwiceWrongFalsely : Prop := resourceSettleTwiceRow.holds Try.pinned (OpenSpec.ofChange resourceSettleTwiceWrong)

/- THE SECOND FORM. 'bulk': how many values and letters a reading holds, each counted each time it is reached (what is shared counts as often as it is met; a slice's spare places count too). A statement '..UptoSaid' is the law's where the arguments, and the package variables that the reading takes, are together of bulk at most 1048576: NARROWER than '..Said'. Prove '..Said' where nothing that the law and all that it calls make is longer than what came in: it says more and counts as full. Else prove '..UptoSaid'. A law counts once. -/
mutual
def uptoBulk {H : Type} : DataW H → Nat
  | .lit (.string bytes) => bytes.length + 1
  | .lit _ => 1
  | .nil => 1
  | .ptr d => uptoBulk d + 1
  | .slice elems spare => uptoBulkAll elems + uptoBulkAll spare + 1
  | .agg parts => uptoBulkAll parts + 1
  | .iface _ d => uptoBulk d + 1
  | .map entries => uptoBulkEntries entries + 1
  | .held _ => 1
def uptoBulkAll {H : Type} : List (DataW H) → Nat
  | [] => 0
  | d :: r => uptoBulk d + uptoBulkAll r
def uptoBulkEntries {H : Type} : List (Lit × DataW H) → Nat
  | [] => 0
  | x :: r => uptoBulkEntry x + uptoBulkEntries r
def uptoBulkEntry {H : Type} : Lit × DataW H → Nat
  | (.string bytes, d) => bytes.length + uptoBulk d + 1
  | (_, d) => uptoBulk d + 1
 end
def uptoSmall : (H : Type) → List (DataW H) → Bool := fun _ ds => decide (uptoBulkAll ds ≤ 1048576)
def OpenSpec.upto (s : _root_.Go.ChangeSpec) : _root_.Go.OpenSpec := { _root_.Go.OpenSpec.ofChange s with cond := some uptoSmall }

/-- 'girolaw28.ResourceItemCheck', WHERE WHAT IT READS IS OF BULK AT MOST 1048576: true; the input reads as it did. -/
def resourceItemCheckUptoRow : OpenClaim := { program := "ytfmpiabmnjmobaa", sum := "fadf149014626180f9ecaf013d107f49f8313c5cae03c43a9d6ddd98e05638a9", func := "giro/girolaw28.ResourceItemCheck", spec := "resourceItemCheck", unfollowed := true, recurses := true, plainKeys := false, apart := false, narrowed := true }
def ResourceItemCheckUptoSaid : Prop := resourceItemCheckUptoRow.holds Try.pinned (OpenSpec.upto resourceItemCheckSpec)

/-- 'girolaw28.ResourceBalanced', WHERE WHAT IT READS IS OF BULK AT MOST 1048576: true; the input reads as it did. -/
def resourceBalancedUptoRow : OpenClaim := { program := "ytfmpiabmnjmobaa", sum := "fadf149014626180f9ecaf013d107f49f8313c5cae03c43a9d6ddd98e05638a9", func := "giro/girolaw28.ResourceBalanced", spec := "resourceBalanced", unfollowed := true, recurses := true, plainKeys := false, apart := false, narrowed := true }
def ResourceBalancedUptoSaid : Prop := resourceBalancedUptoRow.holds Try.pinned (OpenSpec.upto resourceBalancedSpec)

/-- 'girolaw28.ResourceCompare', WHERE WHAT IT READS IS OF BULK AT MOST 1048576: true; the input reads as it did. -/
def resourceCompareUptoRow : OpenClaim := { program := "ytfmpiabmnjmobaa", sum := "fadf149014626180f9ecaf013d107f49f8313c5cae03c43a9d6ddd98e05638a9", func := "giro/girolaw28.ResourceCompare", spec := "resourceCompare", unfollowed := true, recurses := true, plainKeys := false, apart := false, narrowed := true }
def ResourceCompareUptoSaid : Prop := resourceCompareUptoRow.holds Try.pinned (OpenSpec.upto resourceCompareSpec)

/-- 'girolaw28.ResourceDeltas', WHERE WHAT IT READS IS OF BULK AT MOST 1048576: true; the input reads as it did. -/
def resourceDeltasUptoRow : OpenClaim := { program := "ytfmpiabmnjmobaa", sum := "fadf149014626180f9ecaf013d107f49f8313c5cae03c43a9d6ddd98e05638a9", func := "giro/girolaw28.ResourceDeltas", spec := "resourceDeltas", unfollowed := true, recurses := true, plainKeys := false, apart := false, narrowed := true }
def ResourceDeltasUptoSaid : Prop := resourceDeltasUptoRow.holds Try.pinned (OpenSpec.upto resourceDeltasSpec)

/-- 'girolaw28.ResourceProblemCheck', WHERE WHAT IT READS IS OF BULK AT MOST 1048576: true; the input reads as it did. -/
def resourceProblemCheckUptoRow : OpenClaim := { program := "ytfmpiabmnjmobaa", sum := "fadf149014626180f9ecaf013d107f49f8313c5cae03c43a9d6ddd98e05638a9", func := "giro/girolaw28.ResourceProblemCheck", spec := "resourceProblemCheck", unfollowed := true, recurses := true, plainKeys := false, apart := false, narrowed := true }
def ResourceProblemCheckUptoSaid : Prop := resourceProblemCheckUptoRow.holds Try.pinned (OpenSpec.upto resourceProblemCheckSpec)

/-- 'girolaw28.ResourceQueues', WHERE WHAT IT READS IS OF BULK AT MOST 1048576: true; the input reads as it did. -/
def resourceQueuesUptoRow : OpenClaim := { program := "ytfmpiabmnjmobaa", sum := "fadf149014626180f9ecaf013d107f49f8313c5cae03c43a9d6ddd98e05638a9", func := "giro/girolaw28.ResourceQueues", spec := "resourceQueues", unfollowed := true, recurses := true, plainKeys := false, apart := false, narrowed := true }
def ResourceQueuesUptoSaid : Prop := resourceQueuesUptoRow.holds Try.pinned (OpenSpec.upto resourceQueuesSpec)

/-- 'girolaw28.ResourceTotals', WHERE WHAT IT READS IS OF BULK AT MOST 1048576: true; the input reads as it did. -/
def resourceTotalsUptoRow : OpenClaim := { program := "ytfmpiabmnjmobaa", sum := "fadf149014626180f9ecaf013d107f49f8313c5cae03c43a9d6ddd98e05638a9", func := "giro/girolaw28.ResourceTotals", spec := "resourceTotals", unfollowed := true, recurses := true, plainKeys := false, apart := false, narrowed := true }
def ResourceTotalsUptoSaid : Prop := resourceTotalsUptoRow.holds Try.pinned (OpenSpec.upto resourceTotalsSpec)

/-- 'girolaw28.ResourceSettleTwice', WHERE WHAT IT READS IS OF BULK AT MOST 1048576: true; the input reads as it did. -/
def resourceSettleTwiceUptoRow : OpenClaim := { program := "ytfmpiabmnjmobaa", sum := "fadf149014626180f9ecaf013d107f49f8313c5cae03c43a9d6ddd98e05638a9", func := "giro/girolaw28.ResourceSettleTwice", spec := "resourceSettleTwice", unfollowed := true, recurses := true, plainKeys := false, apart := false, narrowed := true }
def ResourceSettleTwiceUptoSaid : Prop := resourceSettleTwiceUptoRow.holds Try.pinned (OpenSpec.upto resourceSettleTwiceSpec)

end Rows
end Go.Proofs.Ytfmpiabmnjmobaa
