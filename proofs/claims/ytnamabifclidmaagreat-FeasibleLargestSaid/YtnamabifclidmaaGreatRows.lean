/-
  No cell of these rows narrows 'for every input' (looked for: loops, veiled, ifaces, maps, wideKeys, modest, calm, conditions, laid).
  DERIVED. THE GIVEN ROWS OF THIS SEAT. 10 by the template 'for every input the law returns true; each argument reads behind the call as it read before'; 0 by the template 'total and deterministic' (their statements: YtnamabifclidmaaGreatTotals.lean).
  GIVEN WITH THE SEED: the statements are not yours to turn. If you find one false, say at which input.
  Laid BY PROGRAM, IN A SANDBOX (cutbox-rows.mjs): the forced cells as the released guide's own fill.sh prints them over the translation 25535cfac16e3c6d… (all of the seat's roots in one cut). By AI agents, Wed Nov 11 2026. No macro, syntax, notation, axiom, sorry.
-/
import Derived.Test.YtnamabifclidmaaGreatChecked
import GoSem.Claim
import GoSem.ClaimJoined
import GoSem.ClaimMapViews
import Derived.JoinedTies
import Derived.KernelRfl
namespace Go.Proofs.YtnamabifclidmaaGreat
/- THE CELL 'sum', in the pinned program and in every row, IS THE sha256 OF THE DUMP (.gsa) THAT YtnamabifclidmaaGreatProg.lean LOADS. Nothing in Lean hashes anything: it is a label: what it is worth is what the hold of that sum in a sandbox is worth. -/
noncomputable def Tryz.pinned : Pinned := { name := "ytnamabifclidmaagreat", sum := "25535cfac16e3c6d7e86add6aea31d9a68bf7c2775b0ec351afb5ea20bb5dd2e", checked := Tryz.checked }
namespace Rows
def none {H : Type} : Left H := { results := [], args := [] }

/-- 'girolaw29.FeasibleAdmissible': WHATEVER THE INPUT: true; the input reads as it did. -/
def feasibleAdmissibleSpec : ChangeSpec := { name := "feasibleAdmissible", fn := fun _ => fun
  | [d1, d2] => { results := [.lit (.bool true)], args := [d1, d2] }
  | _ => none }
def feasibleAdmissibleRow : OpenClaim := { program := "ytnamabifclidmaagreat", sum := "25535cfac16e3c6d7e86add6aea31d9a68bf7c2775b0ec351afb5ea20bb5dd2e", func := "giro/girolaw29.FeasibleAdmissible", spec := "feasibleAdmissible", unfollowed := true, recurses := true, plainKeys := false, apart := false }
def FeasibleAdmissibleSaid : Prop := feasibleAdmissibleRow.holds Tryz.pinned (OpenSpec.ofChange feasibleAdmissibleSpec)

/-- ITS FALSE NEIGHBOUR: 'it returns false'. Refute it at one input. -/
def feasibleAdmissibleWrong : ChangeSpec := { name := "feasibleAdmissible", fn := fun _ => fun
  | [d1, d2] => { results := [.lit (.bool false)], args := [d1, d2] }
  | _ => none }
def FeasibleAdmissibleWrongFalsely : Prop := feasibleAdmissibleRow.holds Tryz.pinned (OpenSpec.ofChange feasibleAdmissibleWrong)

/-- 'girolaw29.FeasibleBlocks': WHATEVER THE INPUT: true; the input reads as it did. -/
def feasibleBlocksSpec : ChangeSpec := { name := "feasibleBlocks", fn := fun _ => fun
  | [d1, d2] => { results := [.lit (.bool true)], args := [d1, d2] }
  | _ => none }
def feasibleBlocksRow : OpenClaim := { program := "ytnamabifclidmaagreat", sum := "25535cfac16e3c6d7e86add6aea31d9a68bf7c2775b0ec351afb5ea20bb5dd2e", func := "giro/girolaw29.FeasibleBlocks", spec := "feasibleBlocks", unfollowed := true, recurses := true, plainKeys := false, apart := false }
def FeasibleBlocksSaid : Prop := feasibleBlocksRow.holds Tryz.pinned (OpenSpec.ofChange feasibleBlocksSpec)

/-- ITS FALSE NEIGHBOUR: 'it returns false'. Refute it at one input. -/
def feasibleBlocksWrong : ChangeSpec := { name := "feasibleBlocks", fn := fun _ => fun
  | [d1, d2] => { results := [.lit (.bool false)], args := [d1, d2] }
  | _ => none }
def FeasibleBlocksWrongFalsely : Prop := feasibleBlocksRow.holds Tryz.pinned (OpenSpec.ofChange feasibleBlocksWrong)

/-- 'girolaw29.FeasibleViolations': WHATEVER THE INPUT: true; the input reads as it did. -/
def feasibleViolationsSpec : ChangeSpec := { name := "feasibleViolations", fn := fun _ => fun
  | [d1, d2] => { results := [.lit (.bool true)], args := [d1, d2] }
  | _ => none }
def feasibleViolationsRow : OpenClaim := { program := "ytnamabifclidmaagreat", sum := "25535cfac16e3c6d7e86add6aea31d9a68bf7c2775b0ec351afb5ea20bb5dd2e", func := "giro/girolaw29.FeasibleViolations", spec := "feasibleViolations", unfollowed := true, recurses := true, plainKeys := false, apart := false }
def FeasibleViolationsSaid : Prop := feasibleViolationsRow.holds Tryz.pinned (OpenSpec.ofChange feasibleViolationsSpec)

/-- ITS FALSE NEIGHBOUR: 'it returns false'. Refute it at one input. -/
def feasibleViolationsWrong : ChangeSpec := { name := "feasibleViolations", fn := fun _ => fun
  | [d1, d2] => { results := [.lit (.bool false)], args := [d1, d2] }
  | _ => none }
def FeasibleViolationsWrongFalsely : Prop := feasibleViolationsRow.holds Tryz.pinned (OpenSpec.ofChange feasibleViolationsWrong)

/-- 'girolaw29.FeasibleRooms': WHATEVER THE INPUT: true; the input reads as it did. -/
def feasibleRoomsSpec : ChangeSpec := { name := "feasibleRooms", fn := fun _ => fun
  | [d1, d2, d3] => { results := [.lit (.bool true)], args := [d1, d2, d3] }
  | _ => none }
def feasibleRoomsRow : OpenClaim := { program := "ytnamabifclidmaagreat", sum := "25535cfac16e3c6d7e86add6aea31d9a68bf7c2775b0ec351afb5ea20bb5dd2e", func := "giro/girolaw29.FeasibleRooms", spec := "feasibleRooms", unfollowed := true, recurses := true, plainKeys := false, apart := false }
def FeasibleRoomsSaid : Prop := feasibleRoomsRow.holds Tryz.pinned (OpenSpec.ofChange feasibleRoomsSpec)

/-- ITS FALSE NEIGHBOUR: 'it returns false'. Refute it at one input. -/
def feasibleRoomsWrong : ChangeSpec := { name := "feasibleRooms", fn := fun _ => fun
  | [d1, d2, d3] => { results := [.lit (.bool false)], args := [d1, d2, d3] }
  | _ => none }
def FeasibleRoomsWrongFalsely : Prop := feasibleRoomsRow.holds Tryz.pinned (OpenSpec.ofChange feasibleRoomsWrong)

/-- 'girolaw29.FeasibleClosure': WHATEVER THE INPUT: true; the input reads as it did. -/
def feasibleClosureSpec : ChangeSpec := { name := "feasibleClosure", fn := fun _ => fun
  | [d1, d2] => { results := [.lit (.bool true)], args := [d1, d2] }
  | _ => none }
def feasibleClosureRow : OpenClaim := { program := "ytnamabifclidmaagreat", sum := "25535cfac16e3c6d7e86add6aea31d9a68bf7c2775b0ec351afb5ea20bb5dd2e", func := "giro/girolaw29.FeasibleClosure", spec := "feasibleClosure", unfollowed := true, recurses := true, plainKeys := false, apart := false }
def FeasibleClosureSaid : Prop := feasibleClosureRow.holds Tryz.pinned (OpenSpec.ofChange feasibleClosureSpec)

/-- ITS FALSE NEIGHBOUR: 'it returns false'. Refute it at one input. -/
def feasibleClosureWrong : ChangeSpec := { name := "feasibleClosure", fn := fun _ => fun
  | [d1, d2] => { results := [.lit (.bool false)], args := [d1, d2] }
  | _ => none }
def FeasibleClosureWrongFalsely : Prop := feasibleClosureRow.holds Tryz.pinned (OpenSpec.ofChange feasibleClosureWrong)

/-- 'girolaw29.FeasibleLattice': WHATEVER THE INPUT: true; the input reads as it did. -/
def feasibleLatticeSpec : ChangeSpec := { name := "feasibleLattice", fn := fun _ => fun
  | [d1, d2, d3] => { results := [.lit (.bool true)], args := [d1, d2, d3] }
  | _ => none }
def feasibleLatticeRow : OpenClaim := { program := "ytnamabifclidmaagreat", sum := "25535cfac16e3c6d7e86add6aea31d9a68bf7c2775b0ec351afb5ea20bb5dd2e", func := "giro/girolaw29.FeasibleLattice", spec := "feasibleLattice", unfollowed := true, recurses := true, plainKeys := false, apart := false }
def FeasibleLatticeSaid : Prop := feasibleLatticeRow.holds Tryz.pinned (OpenSpec.ofChange feasibleLatticeSpec)

/-- ITS FALSE NEIGHBOUR: 'it returns false'. Refute it at one input. -/
def feasibleLatticeWrong : ChangeSpec := { name := "feasibleLattice", fn := fun _ => fun
  | [d1, d2, d3] => { results := [.lit (.bool false)], args := [d1, d2, d3] }
  | _ => none }
def FeasibleLatticeWrongFalsely : Prop := feasibleLatticeRow.holds Tryz.pinned (OpenSpec.ofChange feasibleLatticeWrong)

/-- 'girolaw29.FeasibleUnionClosed': WHATEVER THE INPUT: true; the input reads as it did. -/
def feasibleUnionClosedSpec : ChangeSpec := { name := "feasibleUnionClosed", fn := fun _ => fun
  | [d1, d2, d3] => { results := [.lit (.bool true)], args := [d1, d2, d3] }
  | _ => none }
def feasibleUnionClosedRow : OpenClaim := { program := "ytnamabifclidmaagreat", sum := "25535cfac16e3c6d7e86add6aea31d9a68bf7c2775b0ec351afb5ea20bb5dd2e", func := "giro/girolaw29.FeasibleUnionClosed", spec := "feasibleUnionClosed", unfollowed := true, recurses := true, plainKeys := false, apart := false }
def FeasibleUnionClosedSaid : Prop := feasibleUnionClosedRow.holds Tryz.pinned (OpenSpec.ofChange feasibleUnionClosedSpec)

/-- ITS FALSE NEIGHBOUR: 'it returns false'. Refute it at one input. -/
def feasibleUnionClosedWrong : ChangeSpec := { name := "feasibleUnionClosed", fn := fun _ => fun
  | [d1, d2, d3] => { results := [.lit (.bool false)], args := [d1, d2, d3] }
  | _ => none }
def FeasibleUnionClosedWrongFalsely : Prop := feasibleUnionClosedRow.holds Tryz.pinned (OpenSpec.ofChange feasibleUnionClosedWrong)

/-- 'girolaw29.FeasibleEmpty': WHATEVER THE INPUT: true; the input reads as it did. -/
def feasibleEmptySpec : ChangeSpec := { name := "feasibleEmpty", fn := fun _ => fun
  | [d1, d2] => { results := [.lit (.bool true)], args := [d1, d2] }
  | _ => none }
def feasibleEmptyRow : OpenClaim := { program := "ytnamabifclidmaagreat", sum := "25535cfac16e3c6d7e86add6aea31d9a68bf7c2775b0ec351afb5ea20bb5dd2e", func := "giro/girolaw29.FeasibleEmpty", spec := "feasibleEmpty", unfollowed := true, recurses := true, plainKeys := false, apart := false }
def FeasibleEmptySaid : Prop := feasibleEmptyRow.holds Tryz.pinned (OpenSpec.ofChange feasibleEmptySpec)

/-- ITS FALSE NEIGHBOUR: 'it returns false'. Refute it at one input. -/
def feasibleEmptyWrong : ChangeSpec := { name := "feasibleEmpty", fn := fun _ => fun
  | [d1, d2] => { results := [.lit (.bool false)], args := [d1, d2] }
  | _ => none }
def FeasibleEmptyWrongFalsely : Prop := feasibleEmptyRow.holds Tryz.pinned (OpenSpec.ofChange feasibleEmptyWrong)

/-- 'girolaw29.FeasibleAll': WHATEVER THE INPUT: true; the input reads as it did. -/
def feasibleAllSpec : ChangeSpec := { name := "feasibleAll", fn := fun _ => fun
  | [d1, d2] => { results := [.lit (.bool true)], args := [d1, d2] }
  | _ => none }
def feasibleAllRow : OpenClaim := { program := "ytnamabifclidmaagreat", sum := "25535cfac16e3c6d7e86add6aea31d9a68bf7c2775b0ec351afb5ea20bb5dd2e", func := "giro/girolaw29.FeasibleAll", spec := "feasibleAll", unfollowed := true, recurses := true, plainKeys := false, apart := false }
def FeasibleAllSaid : Prop := feasibleAllRow.holds Tryz.pinned (OpenSpec.ofChange feasibleAllSpec)

/-- ITS FALSE NEIGHBOUR: 'it returns false'. Refute it at one input. -/
def feasibleAllWrong : ChangeSpec := { name := "feasibleAll", fn := fun _ => fun
  | [d1, d2] => { results := [.lit (.bool false)], args := [d1, d2] }
  | _ => none }
def FeasibleAllWrongFalsely : Prop := feasibleAllRow.holds Tryz.pinned (OpenSpec.ofChange feasibleAllWrong)

/-- 'girolaw29.FeasibleLargest': WHATEVER THE INPUT: true; the input reads as it did. -/
def feasibleLargestSpec : ChangeSpec := { name := "feasibleLargest", fn := fun _ => fun
  | [d] => { results := [.lit (.bool true)], args := [d] }
  | _ => none }
def feasibleLargestRow : OpenClaim := { program := "ytnamabifclidmaagreat", sum := "25535cfac16e3c6d7e86add6aea31d9a68bf7c2775b0ec351afb5ea20bb5dd2e", func := "giro/girolaw29.FeasibleLargest", spec := "feasibleLargest", unfollowed := true, recurses := true, plainKeys := false, apart := false }
def FeasibleLargestSaid : Prop := feasibleLargestRow.holds Tryz.pinned (OpenSpec.ofChange feasibleLargestSpec)

/-- ITS FALSE NEIGHBOUR: 'it returns false'. Refute it at one input. -/
def feasibleLargestWrong : ChangeSpec := { name := "feasibleLargest", fn := fun _ => fun
  | [d] => { results := [.lit (.bool false)], args := [d] }
  | _ => none }
def FeasibleLargestWrongFalsely : Prop := feasibleLargestRow.holds Tryz.pinned (OpenSpec.ofChange feasibleLargestWrong)

/- THE SECOND FORM. 'bulk': how many values and letters a reading holds, each counted each time it is reached (what is shared counts as often as it is met; a slice's spare places count too). A statement '..UptoSaid' is the law's where the arguments, and the package variables that the reading takes, are together of bulk at most 1048576: NARROWER than '..Said'. Prove '..Said' where nothing that the law and all that it calls make is longer than what came in: it says more and counts as full. Else prove '..UptoSaid'. A law counts once. -/
mutual
def uptoBulk {H : Type} : DataW H → Nat
  | .lit (.string bytes) => bytes.length + 1
  | .lit _ => 1
  | .nil => 1
  | .ptr d => uptoBulk d + 1
  | .slice elems spare => uptoBulkAll elems + uptoBulkAll spare + 1
  | .agg parts => uptoBulkAll parts + 1
  | .iface _ d => uptoBulk d + 1
  | .map entries => uptoBulkEntries entries + 1
  | .held _ => 1
def uptoBulkAll {H : Type} : List (DataW H) → Nat
  | [] => 0
  | d :: r => uptoBulk d + uptoBulkAll r
def uptoBulkEntries {H : Type} : List (Lit × DataW H) → Nat
  | [] => 0
  | x :: r => uptoBulkEntry x + uptoBulkEntries r
def uptoBulkEntry {H : Type} : Lit × DataW H → Nat
  | (.string bytes, d) => bytes.length + uptoBulk d + 1
  | (_, d) => uptoBulk d + 1
 end
def uptoSmall : (H : Type) → List (DataW H) → Bool := fun _ ds => decide (uptoBulkAll ds ≤ 1048576)
def OpenSpec.upto (s : _root_.Go.ChangeSpec) : _root_.Go.OpenSpec := { _root_.Go.OpenSpec.ofChange s with cond := some uptoSmall }

/-- 'girolaw29.FeasibleAdmissible', WHERE WHAT IT READS IS OF BULK AT MOST 1048576: true; the input reads as it did. -/
def feasibleAdmissibleUptoRow : OpenClaim := { program := "ytnamabifclidmaagreat", sum := "25535cfac16e3c6d7e86add6aea31d9a68bf7c2775b0ec351afb5ea20bb5dd2e", func := "giro/girolaw29.FeasibleAdmissible", spec := "feasibleAdmissible", unfollowed := true, recurses := true, plainKeys := false, apart := false, narrowed := true }
def FeasibleAdmissibleUptoSaid : Prop := feasibleAdmissibleUptoRow.holds Tryz.pinned (OpenSpec.upto feasibleAdmissibleSpec)

/-- 'girolaw29.FeasibleBlocks', WHERE WHAT IT READS IS OF BULK AT MOST 1048576: true; the input reads as it did. -/
def feasibleBlocksUptoRow : OpenClaim := { program := "ytnamabifclidmaagreat", sum := "25535cfac16e3c6d7e86add6aea31d9a68bf7c2775b0ec351afb5ea20bb5dd2e", func := "giro/girolaw29.FeasibleBlocks", spec := "feasibleBlocks", unfollowed := true, recurses := true, plainKeys := false, apart := false, narrowed := true }
def FeasibleBlocksUptoSaid : Prop := feasibleBlocksUptoRow.holds Tryz.pinned (OpenSpec.upto feasibleBlocksSpec)

/-- 'girolaw29.FeasibleViolations', WHERE WHAT IT READS IS OF BULK AT MOST 1048576: true; the input reads as it did. -/
def feasibleViolationsUptoRow : OpenClaim := { program := "ytnamabifclidmaagreat", sum := "25535cfac16e3c6d7e86add6aea31d9a68bf7c2775b0ec351afb5ea20bb5dd2e", func := "giro/girolaw29.FeasibleViolations", spec := "feasibleViolations", unfollowed := true, recurses := true, plainKeys := false, apart := false, narrowed := true }
def FeasibleViolationsUptoSaid : Prop := feasibleViolationsUptoRow.holds Tryz.pinned (OpenSpec.upto feasibleViolationsSpec)

/-- 'girolaw29.FeasibleRooms', WHERE WHAT IT READS IS OF BULK AT MOST 1048576: true; the input reads as it did. -/
def feasibleRoomsUptoRow : OpenClaim := { program := "ytnamabifclidmaagreat", sum := "25535cfac16e3c6d7e86add6aea31d9a68bf7c2775b0ec351afb5ea20bb5dd2e", func := "giro/girolaw29.FeasibleRooms", spec := "feasibleRooms", unfollowed := true, recurses := true, plainKeys := false, apart := false, narrowed := true }
def FeasibleRoomsUptoSaid : Prop := feasibleRoomsUptoRow.holds Tryz.pinned (OpenSpec.upto feasibleRoomsSpec)

/-- 'girolaw29.FeasibleClosure', WHERE WHAT IT READS IS OF BULK AT MOST 1048576: true; the input reads as it did. -/
def feasibleClosureUptoRow : OpenClaim := { program := "ytnamabifclidmaagreat", sum := "25535cfac16e3c6d7e86add6aea31d9a68bf7c2775b0ec351afb5ea20bb5dd2e", func := "giro/girolaw29.FeasibleClosure", spec := "feasibleClosure", unfollowed := true, recurses := true, plainKeys := false, apart := false, narrowed := true }
def FeasibleClosureUptoSaid : Prop := feasibleClosureUptoRow.holds Tryz.pinned (OpenSpec.upto feasibleClosureSpec)

/-- 'girolaw29.FeasibleLattice', WHERE WHAT IT READS IS OF BULK AT MOST 1048576: true; the input reads as it did. -/
def feasibleLatticeUptoRow : OpenClaim := { program := "ytnamabifclidmaagreat", sum := "25535cfac16e3c6d7e86add6aea31d9a68bf7c2775b0ec351afb5ea20bb5dd2e", func := "giro/girolaw29.FeasibleLattice", spec := "feasibleLattice", unfollowed := true, recurses := true, plainKeys := false, apart := false, narrowed := true }
def FeasibleLatticeUptoSaid : Prop := feasibleLatticeUptoRow.holds Tryz.pinned (OpenSpec.upto feasibleLatticeSpec)

/-- 'girolaw29.FeasibleUnionClosed', WHERE WHAT IT READS IS OF BULK AT MOST 1048576: true; the input reads as it did. -/
def feasibleUnionClosedUptoRow : OpenClaim := { program := "ytnamabifclidmaagreat", sum := "25535cfac16e3c6d7e86add6aea31d9a68bf7c2775b0ec351afb5ea20bb5dd2e", func := "giro/girolaw29.FeasibleUnionClosed", spec := "feasibleUnionClosed", unfollowed := true, recurses := true, plainKeys := false, apart := false, narrowed := true }
def FeasibleUnionClosedUptoSaid : Prop := feasibleUnionClosedUptoRow.holds Tryz.pinned (OpenSpec.upto feasibleUnionClosedSpec)

/-- 'girolaw29.FeasibleEmpty', WHERE WHAT IT READS IS OF BULK AT MOST 1048576: true; the input reads as it did. -/
def feasibleEmptyUptoRow : OpenClaim := { program := "ytnamabifclidmaagreat", sum := "25535cfac16e3c6d7e86add6aea31d9a68bf7c2775b0ec351afb5ea20bb5dd2e", func := "giro/girolaw29.FeasibleEmpty", spec := "feasibleEmpty", unfollowed := true, recurses := true, plainKeys := false, apart := false, narrowed := true }
def FeasibleEmptyUptoSaid : Prop := feasibleEmptyUptoRow.holds Tryz.pinned (OpenSpec.upto feasibleEmptySpec)

/-- 'girolaw29.FeasibleAll', WHERE WHAT IT READS IS OF BULK AT MOST 1048576: true; the input reads as it did. -/
def feasibleAllUptoRow : OpenClaim := { program := "ytnamabifclidmaagreat", sum := "25535cfac16e3c6d7e86add6aea31d9a68bf7c2775b0ec351afb5ea20bb5dd2e", func := "giro/girolaw29.FeasibleAll", spec := "feasibleAll", unfollowed := true, recurses := true, plainKeys := false, apart := false, narrowed := true }
def FeasibleAllUptoSaid : Prop := feasibleAllUptoRow.holds Tryz.pinned (OpenSpec.upto feasibleAllSpec)

/-- 'girolaw29.FeasibleLargest', WHERE WHAT IT READS IS OF BULK AT MOST 1048576: true; the input reads as it did. -/
def feasibleLargestUptoRow : OpenClaim := { program := "ytnamabifclidmaagreat", sum := "25535cfac16e3c6d7e86add6aea31d9a68bf7c2775b0ec351afb5ea20bb5dd2e", func := "giro/girolaw29.FeasibleLargest", spec := "feasibleLargest", unfollowed := true, recurses := true, plainKeys := false, apart := false, narrowed := true }
def FeasibleLargestUptoSaid : Prop := feasibleLargestUptoRow.holds Tryz.pinned (OpenSpec.upto feasibleLargestSpec)

end Rows
end Go.Proofs.YtnamabifclidmaaGreat
