/-
  No cell of these rows narrows 'for every input' (looked for: loops, veiled, ifaces, maps, wideKeys, modest, calm, conditions, laid).
  DERIVED. THE GIVEN ROWS OF THIS SEAT. 7 by the template 'for every input the law returns true; each argument reads behind the call as it read before'; 0 by the template 'total and deterministic' (their statements: YtlmedakidpaeeaaTotals.lean).
  GIVEN WITH THE SEED: the statements are not yours to turn. If you find one false, say at which input.
  Laid BY PROGRAM, IN A SANDBOX (cutbox-rows.mjs): the forced cells as the released guide's own fill.sh prints them over the translation fcb110072507ec2e… (all of the seat's roots in one cut). By AI agents, Wed Nov 11 2026. No macro, syntax, notation, axiom, sorry.
-/
import Derived.Test.YtlmedakidpaeeaaChecked
import GoSem.Claim
import GoSem.ClaimJoined
import GoSem.ClaimMapViews
import Derived.JoinedTies
import Derived.KernelRfl
namespace Go.Proofs.Ytlmedakidpaeeaa
/- THE CELL 'sum', in the pinned program and in every row, IS THE sha256 OF THE DUMP (.gsa) THAT YtlmedakidpaeeaaProg.lean LOADS. Nothing in Lean hashes anything: it is a label: what it is worth is what the hold of that sum in a sandbox is worth. -/
noncomputable def Try.pinned : Pinned := { name := "ytlmedakidpaeeaa", sum := "fcb110072507ec2ee17f1950b78deba05314f3e043c718aba72fc33339a67b07", checked := Try.checked }
namespace Rows
def none {H : Type} : Left H := { results := [], args := [] }

/-- 'girolaw27.LinkLimits': WHATEVER THE INPUT: true; the input reads as it did. -/
def linkLimitsSpec : ChangeSpec := { name := "linkLimits", fn := fun _ => fun
  | [d1, d2] => { results := [.lit (.bool true)], args := [d1, d2] }
  | _ => none }
def linkLimitsRow : OpenClaim := { program := "ytlmedakidpaeeaa", sum := "fcb110072507ec2ee17f1950b78deba05314f3e043c718aba72fc33339a67b07", func := "giro/girolaw27.LinkLimits", spec := "linkLimits", unfollowed := true, recurses := true, plainKeys := false, apart := false }
def LinkLimitsSaid : Prop := linkLimitsRow.holds Try.pinned (OpenSpec.ofChange linkLimitsSpec)

/-- ITS FALSE NEIGHBOUR: 'it returns false'. Refute it at one input. -/
def linkLimitsWrong : ChangeSpec := { name := "linkLimits", fn := fun _ => fun
  | [d1, d2] => { results := [.lit (.bool false)], args := [d1, d2] }
  | _ => none }
def LinkLimitsWrongFalsely : Prop := linkLimitsRow.holds Try.pinned (OpenSpec.ofChange linkLimitsWrong)

/-- 'girolaw27.LinkOperations': WHATEVER THE INPUT: true; the input reads as it did. -/
def linkOperationsSpec : ChangeSpec := { name := "linkOperations", fn := fun _ => fun
  | [d] => { results := [.lit (.bool true)], args := [d] }
  | _ => none }
def linkOperationsRow : OpenClaim := { program := "ytlmedakidpaeeaa", sum := "fcb110072507ec2ee17f1950b78deba05314f3e043c718aba72fc33339a67b07", func := "giro/girolaw27.LinkOperations", spec := "linkOperations", inPlace := ["maps.clone"], unfollowed := true, recurses := true, plainKeys := false, apart := false }
def LinkOperationsSaid : Prop := linkOperationsRow.holds Try.pinned (OpenSpec.ofChange linkOperationsSpec)

/-- ITS FALSE NEIGHBOUR: 'it returns false'. Refute it at one input. -/
def linkOperationsWrong : ChangeSpec := { name := "linkOperations", fn := fun _ => fun
  | [d] => { results := [.lit (.bool false)], args := [d] }
  | _ => none }
def LinkOperationsWrongFalsely : Prop := linkOperationsRow.holds Try.pinned (OpenSpec.ofChange linkOperationsWrong)

/-- 'girolaw27.LinkPartition': WHATEVER THE INPUT: true; the input reads as it did. -/
def linkPartitionSpec : ChangeSpec := { name := "linkPartition", fn := fun _ => fun
  | [d] => { results := [.lit (.bool true)], args := [d] }
  | _ => none }
def linkPartitionRow : OpenClaim := { program := "ytlmedakidpaeeaa", sum := "fcb110072507ec2ee17f1950b78deba05314f3e043c718aba72fc33339a67b07", func := "giro/girolaw27.LinkPartition", spec := "linkPartition", inPlace := ["maps.clone"], unfollowed := true, recurses := true, plainKeys := false, apart := false }
def LinkPartitionSaid : Prop := linkPartitionRow.holds Try.pinned (OpenSpec.ofChange linkPartitionSpec)

/-- ITS FALSE NEIGHBOUR: 'it returns false'. Refute it at one input. -/
def linkPartitionWrong : ChangeSpec := { name := "linkPartition", fn := fun _ => fun
  | [d] => { results := [.lit (.bool false)], args := [d] }
  | _ => none }
def LinkPartitionWrongFalsely : Prop := linkPartitionRow.holds Try.pinned (OpenSpec.ofChange linkPartitionWrong)

/-- 'girolaw27.LinkRemoval': WHATEVER THE INPUT: true; the input reads as it did. -/
def linkRemovalSpec : ChangeSpec := { name := "linkRemoval", fn := fun _ => fun
  | [d1, d2] => { results := [.lit (.bool true)], args := [d1, d2] }
  | _ => none }
def linkRemovalRow : OpenClaim := { program := "ytlmedakidpaeeaa", sum := "fcb110072507ec2ee17f1950b78deba05314f3e043c718aba72fc33339a67b07", func := "giro/girolaw27.LinkRemoval", spec := "linkRemoval", inPlace := ["maps.clone"], unfollowed := true, recurses := true, plainKeys := false, apart := false }
def LinkRemovalSaid : Prop := linkRemovalRow.holds Try.pinned (OpenSpec.ofChange linkRemovalSpec)

/-- ITS FALSE NEIGHBOUR: 'it returns false'. Refute it at one input. -/
def linkRemovalWrong : ChangeSpec := { name := "linkRemoval", fn := fun _ => fun
  | [d1, d2] => { results := [.lit (.bool false)], args := [d1, d2] }
  | _ => none }
def LinkRemovalWrongFalsely : Prop := linkRemovalRow.holds Try.pinned (OpenSpec.ofChange linkRemovalWrong)

/-- 'girolaw27.LinkUndo': WHATEVER THE INPUT: true; the input reads as it did. -/
def linkUndoSpec : ChangeSpec := { name := "linkUndo", fn := fun _ => fun
  | [d1, d2, d3] => { results := [.lit (.bool true)], args := [d1, d2, d3] }
  | _ => none }
def linkUndoRow : OpenClaim := { program := "ytlmedakidpaeeaa", sum := "fcb110072507ec2ee17f1950b78deba05314f3e043c718aba72fc33339a67b07", func := "giro/girolaw27.LinkUndo", spec := "linkUndo", inPlace := ["maps.clone"], unfollowed := true, recurses := true, plainKeys := false, apart := false }
def LinkUndoSaid : Prop := linkUndoRow.holds Try.pinned (OpenSpec.ofChange linkUndoSpec)

/-- ITS FALSE NEIGHBOUR: 'it returns false'. Refute it at one input. -/
def linkUndoWrong : ChangeSpec := { name := "linkUndo", fn := fun _ => fun
  | [d1, d2, d3] => { results := [.lit (.bool false)], args := [d1, d2, d3] }
  | _ => none }
def LinkUndoWrongFalsely : Prop := linkUndoRow.holds Try.pinned (OpenSpec.ofChange linkUndoWrong)

/-- 'girolaw27.LinkClones': WHATEVER THE INPUT: true; the input reads as it did. -/
def linkClonesSpec : ChangeSpec := { name := "linkClones", fn := fun _ => fun
  | [d1, d2] => { results := [.lit (.bool true)], args := [d1, d2] }
  | _ => none }
def linkClonesRow : OpenClaim := { program := "ytlmedakidpaeeaa", sum := "fcb110072507ec2ee17f1950b78deba05314f3e043c718aba72fc33339a67b07", func := "giro/girolaw27.LinkClones", spec := "linkClones", inPlace := ["maps.clone"], unfollowed := true, recurses := true, plainKeys := false, apart := false }
def LinkClonesSaid : Prop := linkClonesRow.holds Try.pinned (OpenSpec.ofChange linkClonesSpec)

/-- ITS FALSE NEIGHBOUR: 'it returns false'. Refute it at one input. -/
def linkClonesWrong : ChangeSpec := { name := "linkClones", fn := fun _ => fun
  | [d1, d2] => { results := [.lit (.bool false)], args := [d1, d2] }
  | _ => none }
def LinkClonesWrongFalsely : Prop := linkClonesRow.holds Try.pinned (OpenSpec.ofChange linkClonesWrong)

/-- 'girolaw27.LinkNil': WHATEVER THE INPUT: true; the input reads as it did. -/
def linkNilSpec : ChangeSpec := { name := "linkNil", fn := fun _ => fun
  | [d] => { results := [.lit (.bool true)], args := [d] }
  | _ => none }
def linkNilRow : OpenClaim := { program := "ytlmedakidpaeeaa", sum := "fcb110072507ec2ee17f1950b78deba05314f3e043c718aba72fc33339a67b07", func := "giro/girolaw27.LinkNil", spec := "linkNil", inPlace := ["maps.clone"], unfollowed := true, recurses := true, plainKeys := false, apart := false }
def LinkNilSaid : Prop := linkNilRow.holds Try.pinned (OpenSpec.ofChange linkNilSpec)

/-- ITS FALSE NEIGHBOUR: 'it returns false'. Refute it at one input. -/
def linkNilWrong : ChangeSpec := { name := "linkNil", fn := fun _ => fun
  | [d] => { results := [.lit (.bool false)], args := [d] }
  | _ => none }
def LinkNilWrongFalsely : Prop := linkNilRow.holds Try.pinned (OpenSpec.ofChange linkNilWrong)

/- THE SECOND FORM. 'bulk': how many values and letters a reading holds, each counted each time it is reached (what is shared counts as often as it is met; a slice's spare places count too). A statement '..UptoSaid' is the law's where the arguments, and the package variables that the reading takes, are together of bulk at most 1048576: NARROWER than '..Said'. Prove '..Said' where nothing that the law and all that it calls make is longer than what came in: it says more and counts as full. Else prove '..UptoSaid'. A law counts once. -/
mutual
def uptoBulk {H : Type} : DataW H → Nat
  | .lit (.string bytes) => bytes.length + 1
  | .lit _ => 1
  | .nil => 1
  | .ptr d => uptoBulk d + 1
  | .slice elems spare => uptoBulkAll elems + uptoBulkAll spare + 1
  | .agg parts => uptoBulkAll parts + 1
  | .iface _ d => uptoBulk d + 1
  | .map entries => uptoBulkEntries entries + 1
  | .held _ => 1
def uptoBulkAll {H : Type} : List (DataW H) → Nat
  | [] => 0
  | d :: r => uptoBulk d + uptoBulkAll r
def uptoBulkEntries {H : Type} : List (Lit × DataW H) → Nat
  | [] => 0
  | x :: r => uptoBulkEntry x + uptoBulkEntries r
def uptoBulkEntry {H : Type} : Lit × DataW H → Nat
  | (.string bytes, d) => bytes.length + uptoBulk d + 1
  | (_, d) => uptoBulk d + 1
 end
def uptoSmall : (H : Type) → List (DataW H) → Bool := fun _ ds => decide (uptoBulkAll ds ≤ 1048576)
def OpenSpec.upto (s : _root_.Go.ChangeSpec) : _root_.Go.OpenSpec := { _root_.Go.OpenSpec.ofChange s with cond := some uptoSmall }

/-- 'girolaw27.LinkLimits', WHERE WHAT IT READS IS OF BULK AT MOST 1048576: true; the input reads as it did. -/
def linkLimitsUptoRow : OpenClaim := { program := "ytlmedakidpaeeaa", sum := "fcb110072507ec2ee17f1950b78deba05314f3e043c718aba72fc33339a67b07", func := "giro/girolaw27.LinkLimits", spec := "linkLimits", unfollowed := true, recurses := true, plainKeys := false, apart := false, narrowed := true }
def LinkLimitsUptoSaid : Prop := linkLimitsUptoRow.holds Try.pinned (OpenSpec.upto linkLimitsSpec)

/-- 'girolaw27.LinkOperations', WHERE WHAT IT READS IS OF BULK AT MOST 1048576: true; the input reads as it did. -/
def linkOperationsUptoRow : OpenClaim := { program := "ytlmedakidpaeeaa", sum := "fcb110072507ec2ee17f1950b78deba05314f3e043c718aba72fc33339a67b07", func := "giro/girolaw27.LinkOperations", spec := "linkOperations", inPlace := ["maps.clone"], unfollowed := true, recurses := true, plainKeys := false, apart := false, narrowed := true }
def LinkOperationsUptoSaid : Prop := linkOperationsUptoRow.holds Try.pinned (OpenSpec.upto linkOperationsSpec)

/-- 'girolaw27.LinkPartition', WHERE WHAT IT READS IS OF BULK AT MOST 1048576: true; the input reads as it did. -/
def linkPartitionUptoRow : OpenClaim := { program := "ytlmedakidpaeeaa", sum := "fcb110072507ec2ee17f1950b78deba05314f3e043c718aba72fc33339a67b07", func := "giro/girolaw27.LinkPartition", spec := "linkPartition", inPlace := ["maps.clone"], unfollowed := true, recurses := true, plainKeys := false, apart := false, narrowed := true }
def LinkPartitionUptoSaid : Prop := linkPartitionUptoRow.holds Try.pinned (OpenSpec.upto linkPartitionSpec)

/-- 'girolaw27.LinkRemoval', WHERE WHAT IT READS IS OF BULK AT MOST 1048576: true; the input reads as it did. -/
def linkRemovalUptoRow : OpenClaim := { program := "ytlmedakidpaeeaa", sum := "fcb110072507ec2ee17f1950b78deba05314f3e043c718aba72fc33339a67b07", func := "giro/girolaw27.LinkRemoval", spec := "linkRemoval", inPlace := ["maps.clone"], unfollowed := true, recurses := true, plainKeys := false, apart := false, narrowed := true }
def LinkRemovalUptoSaid : Prop := linkRemovalUptoRow.holds Try.pinned (OpenSpec.upto linkRemovalSpec)

/-- 'girolaw27.LinkUndo', WHERE WHAT IT READS IS OF BULK AT MOST 1048576: true; the input reads as it did. -/
def linkUndoUptoRow : OpenClaim := { program := "ytlmedakidpaeeaa", sum := "fcb110072507ec2ee17f1950b78deba05314f3e043c718aba72fc33339a67b07", func := "giro/girolaw27.LinkUndo", spec := "linkUndo", inPlace := ["maps.clone"], unfollowed := true, recurses := true, plainKeys := false, apart := false, narrowed := true }
def LinkUndoUptoSaid : Prop := linkUndoUptoRow.holds Try.pinned (OpenSpec.upto linkUndoSpec)

/-- 'girolaw27.LinkClones', WHERE WHAT IT READS IS OF BULK AT MOST 1048576: true; the input reads as it did. -/
def linkClonesUptoRow : OpenClaim := { program := "ytlmedakidpaeeaa", sum := "fcb110072507ec2ee17f1950b78deba05314f3e043c718aba72fc33339a67b07", func := "giro/girolaw27.LinkClones", spec := "linkClones", inPlace := ["maps.clone"], unfollowed := true, recurses := true, plainKeys := false, apart := false, narrowed := true }
def LinkClonesUptoSaid : Prop := linkClonesUptoRow.holds Try.pinned (OpenSpec.upto linkClonesSpec)

/-- 'girolaw27.LinkNil', WHERE WHAT IT READS IS OF BULK AT MOST 1048576: true; the input reads as it did. -/
def linkNilUptoRow : OpenClaim := { program := "ytlmedakidpaeeaa", sum := "fcb110072507ec2ee17f1950b78deba05314f3e043c718aba72fc33339a67b07", func := "giro/girolaw27.LinkNil", spec := "linkNil", inPlace := ["maps.clone"], unfollowed := true, recurses := true, plainKeys := false, apart := false, narrowed := true }
def LinkNilUptoSaid : Prop := linkNilUptoRow.holds Try.pinned (OpenSpec.upto linkNilSpec)

end Rows
end Go.Proofs.Ytlmedakidpaeeaa
