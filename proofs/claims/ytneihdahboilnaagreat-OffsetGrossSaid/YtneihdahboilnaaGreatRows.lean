/-
  No cell of these rows narrows 'for every input' (looked for: loops, veiled, ifaces, maps, wideKeys, modest, calm, conditions, laid).
  DERIVED. THE GIVEN ROWS OF THIS SEAT. 10 by the template 'for every input the law returns true; each argument reads behind the call as it read before'; 0 by the template 'total and deterministic' (their statements: YtneihdahboilnaaGreatTotals.lean).
  GIVEN WITH THE SEED: the statements are not yours to turn. If you find one false, say at which input.
  Laid BY PROGRAM, IN A SANDBOX (cutbox-rows.mjs): the forced cells as the released guide's own fill.sh prints them over the translation e74c262236cad111… (all of the seat's roots in one cut). By AI agents, Wed Nov 11 2026. No macro, syntax, notation, axiom, sorry.
-/
import Derived.Test.YtneihdahboilnaaGreatChecked
import GoSem.Claim
import GoSem.ClaimJoined
import GoSem.ClaimMapViews
import Derived.JoinedTies
import Derived.KernelRfl
namespace Go.Proofs.YtneihdahboilnaaGreat
/- THE CELL 'sum', in the pinned program and in every row, IS THE sha256 OF THE DUMP (.gsa) THAT YtneihdahboilnaaGreatProg.lean LOADS. Nothing in Lean hashes anything: it is a label: what it is worth is what the hold of that sum in a sandbox is worth. -/
noncomputable def Tryz.pinned : Pinned := { name := "ytneihdahboilnaagreat", sum := "e74c262236cad1113891938df8f80ac29d2b89efae5fa72611e4c51f8ee77727", checked := Tryz.checked }
namespace Rows
def none {H : Type} : Left H := { results := [], args := [] }

/-- 'girolaw30.OffsetLargest': WHATEVER THE INPUT: true; the input reads as it did. -/
def offsetLargestSpec : ChangeSpec := { name := "offsetLargest", fn := fun _ => fun
  | [d] => { results := [.lit (.bool true)], args := [d] }
  | _ => none }
def offsetLargestRow : OpenClaim := { program := "ytneihdahboilnaagreat", sum := "e74c262236cad1113891938df8f80ac29d2b89efae5fa72611e4c51f8ee77727", func := "giro/girolaw30.OffsetLargest", spec := "offsetLargest", unfollowed := true, recurses := true, plainKeys := false, apart := false }
def OffsetLargestSaid : Prop := offsetLargestRow.holds Tryz.pinned (OpenSpec.ofChange offsetLargestSpec)

/-- ITS FALSE NEIGHBOUR: 'it returns false'. Refute it at one input. -/
def offsetLargestWrong : ChangeSpec := { name := "offsetLargest", fn := fun _ => fun
  | [d] => { results := [.lit (.bool false)], args := [d] }
  | _ => none }
def OffsetLargestWrongFalsely : Prop := offsetLargestRow.holds Tryz.pinned (OpenSpec.ofChange offsetLargestWrong)

/-- 'girolaw30.OffsetExplain': WHATEVER THE INPUT: true; the input reads as it did. -/
def offsetExplainSpec : ChangeSpec := { name := "offsetExplain", fn := fun _ => fun
  | [d] => { results := [.lit (.bool true)], args := [d] }
  | _ => none }
def offsetExplainRow : OpenClaim := { program := "ytneihdahboilnaagreat", sum := "e74c262236cad1113891938df8f80ac29d2b89efae5fa72611e4c51f8ee77727", func := "giro/girolaw30.OffsetExplain", spec := "offsetExplain", unfollowed := true, recurses := true, plainKeys := false, apart := false }
def OffsetExplainSaid : Prop := offsetExplainRow.holds Tryz.pinned (OpenSpec.ofChange offsetExplainSpec)

/-- ITS FALSE NEIGHBOUR: 'it returns false'. Refute it at one input. -/
def offsetExplainWrong : ChangeSpec := { name := "offsetExplain", fn := fun _ => fun
  | [d] => { results := [.lit (.bool false)], args := [d] }
  | _ => none }
def OffsetExplainWrongFalsely : Prop := offsetExplainRow.holds Tryz.pinned (OpenSpec.ofChange offsetExplainWrong)

/-- 'girolaw30.OffsetContains': WHATEVER THE INPUT: true; the input reads as it did. -/
def offsetContainsSpec : ChangeSpec := { name := "offsetContains", fn := fun _ => fun
  | [d1, d2] => { results := [.lit (.bool true)], args := [d1, d2] }
  | _ => none }
def offsetContainsRow : OpenClaim := { program := "ytneihdahboilnaagreat", sum := "e74c262236cad1113891938df8f80ac29d2b89efae5fa72611e4c51f8ee77727", func := "giro/girolaw30.OffsetContains", spec := "offsetContains", unfollowed := true, recurses := true, plainKeys := false, apart := false }
def OffsetContainsSaid : Prop := offsetContainsRow.holds Tryz.pinned (OpenSpec.ofChange offsetContainsSpec)

/-- ITS FALSE NEIGHBOUR: 'it returns false'. Refute it at one input. -/
def offsetContainsWrong : ChangeSpec := { name := "offsetContains", fn := fun _ => fun
  | [d1, d2] => { results := [.lit (.bool false)], args := [d1, d2] }
  | _ => none }
def OffsetContainsWrongFalsely : Prop := offsetContainsRow.holds Tryz.pinned (OpenSpec.ofChange offsetContainsWrong)

/-- 'girolaw30.OffsetGross': WHATEVER THE INPUT: true; the input reads as it did. -/
def offsetGrossSpec : ChangeSpec := { name := "offsetGross", fn := fun _ => fun
  | [d] => { results := [.lit (.bool true)], args := [d] }
  | _ => none }
def offsetGrossRow : OpenClaim := { program := "ytneihdahboilnaagreat", sum := "e74c262236cad1113891938df8f80ac29d2b89efae5fa72611e4c51f8ee77727", func := "giro/girolaw30.OffsetGross", spec := "offsetGross", unfollowed := true, recurses := true, plainKeys := false, apart := false }
def OffsetGrossSaid : Prop := offsetGrossRow.holds Tryz.pinned (OpenSpec.ofChange offsetGrossSpec)

/-- ITS FALSE NEIGHBOUR: 'it returns false'. Refute it at one input. -/
def offsetGrossWrong : ChangeSpec := { name := "offsetGross", fn := fun _ => fun
  | [d] => { results := [.lit (.bool false)], args := [d] }
  | _ => none }
def OffsetGrossWrongFalsely : Prop := offsetGrossRow.holds Tryz.pinned (OpenSpec.ofChange offsetGrossWrong)

/-- 'girolaw30.OffsetOrder': WHATEVER THE INPUT: true; the input reads as it did. -/
def offsetOrderSpec : ChangeSpec := { name := "offsetOrder", fn := fun _ => fun
  | [d1, d2, d3] => { results := [.lit (.bool true)], args := [d1, d2, d3] }
  | _ => none }
def offsetOrderRow : OpenClaim := { program := "ytneihdahboilnaagreat", sum := "e74c262236cad1113891938df8f80ac29d2b89efae5fa72611e4c51f8ee77727", func := "giro/girolaw30.OffsetOrder", spec := "offsetOrder", unfollowed := true, recurses := true, plainKeys := false, apart := false }
def OffsetOrderSaid : Prop := offsetOrderRow.holds Tryz.pinned (OpenSpec.ofChange offsetOrderSpec)

/-- ITS FALSE NEIGHBOUR: 'it returns false'. Refute it at one input. -/
def offsetOrderWrong : ChangeSpec := { name := "offsetOrder", fn := fun _ => fun
  | [d1, d2, d3] => { results := [.lit (.bool false)], args := [d1, d2, d3] }
  | _ => none }
def OffsetOrderWrongFalsely : Prop := offsetOrderRow.holds Tryz.pinned (OpenSpec.ofChange offsetOrderWrong)

/-- 'girolaw30.OffsetMonotone': WHATEVER THE INPUT: true; the input reads as it did. -/
def offsetMonotoneSpec : ChangeSpec := { name := "offsetMonotone", fn := fun _ => fun
  | [d1, d2] => { results := [.lit (.bool true)], args := [d1, d2] }
  | _ => none }
def offsetMonotoneRow : OpenClaim := { program := "ytneihdahboilnaagreat", sum := "e74c262236cad1113891938df8f80ac29d2b89efae5fa72611e4c51f8ee77727", func := "giro/girolaw30.OffsetMonotone", spec := "offsetMonotone", unfollowed := true, recurses := true, plainKeys := false, apart := false }
def OffsetMonotoneSaid : Prop := offsetMonotoneRow.holds Tryz.pinned (OpenSpec.ofChange offsetMonotoneSpec)

/-- ITS FALSE NEIGHBOUR: 'it returns false'. Refute it at one input. -/
def offsetMonotoneWrong : ChangeSpec := { name := "offsetMonotone", fn := fun _ => fun
  | [d1, d2] => { results := [.lit (.bool false)], args := [d1, d2] }
  | _ => none }
def OffsetMonotoneWrongFalsely : Prop := offsetMonotoneRow.holds Tryz.pinned (OpenSpec.ofChange offsetMonotoneWrong)

/-- 'girolaw30.OffsetComponents': WHATEVER THE INPUT: true; the input reads as it did. -/
def offsetComponentsSpec : ChangeSpec := { name := "offsetComponents", fn := fun _ => fun
  | [d1, d2] => { results := [.lit (.bool true)], args := [d1, d2] }
  | _ => none }
def offsetComponentsRow : OpenClaim := { program := "ytneihdahboilnaagreat", sum := "e74c262236cad1113891938df8f80ac29d2b89efae5fa72611e4c51f8ee77727", func := "giro/girolaw30.OffsetComponents", spec := "offsetComponents", unfollowed := true, recurses := true, plainKeys := false, apart := false }
def OffsetComponentsSaid : Prop := offsetComponentsRow.holds Tryz.pinned (OpenSpec.ofChange offsetComponentsSpec)

/-- ITS FALSE NEIGHBOUR: 'it returns false'. Refute it at one input. -/
def offsetComponentsWrong : ChangeSpec := { name := "offsetComponents", fn := fun _ => fun
  | [d1, d2] => { results := [.lit (.bool false)], args := [d1, d2] }
  | _ => none }
def OffsetComponentsWrongFalsely : Prop := offsetComponentsRow.holds Tryz.pinned (OpenSpec.ofChange offsetComponentsWrong)

/-- 'girolaw30.OffsetRest': WHATEVER THE INPUT: true; the input reads as it did. -/
def offsetRestSpec : ChangeSpec := { name := "offsetRest", fn := fun _ => fun
  | [d] => { results := [.lit (.bool true)], args := [d] }
  | _ => none }
def offsetRestRow : OpenClaim := { program := "ytneihdahboilnaagreat", sum := "e74c262236cad1113891938df8f80ac29d2b89efae5fa72611e4c51f8ee77727", func := "giro/girolaw30.OffsetRest", spec := "offsetRest", unfollowed := true, recurses := true, plainKeys := false, apart := false }
def OffsetRestSaid : Prop := offsetRestRow.holds Tryz.pinned (OpenSpec.ofChange offsetRestSpec)

/-- ITS FALSE NEIGHBOUR: 'it returns false'. Refute it at one input. -/
def offsetRestWrong : ChangeSpec := { name := "offsetRest", fn := fun _ => fun
  | [d] => { results := [.lit (.bool false)], args := [d] }
  | _ => none }
def OffsetRestWrongFalsely : Prop := offsetRestRow.holds Tryz.pinned (OpenSpec.ofChange offsetRestWrong)

/-- 'girolaw30.OffsetNeed': WHATEVER THE INPUT: true; the input reads as it did. -/
def offsetNeedSpec : ChangeSpec := { name := "offsetNeed", fn := fun _ => fun
  | [d] => { results := [.lit (.bool true)], args := [d] }
  | _ => none }
def offsetNeedRow : OpenClaim := { program := "ytneihdahboilnaagreat", sum := "e74c262236cad1113891938df8f80ac29d2b89efae5fa72611e4c51f8ee77727", func := "giro/girolaw30.OffsetNeed", spec := "offsetNeed", unfollowed := true, recurses := true, plainKeys := false, apart := false }
def OffsetNeedSaid : Prop := offsetNeedRow.holds Tryz.pinned (OpenSpec.ofChange offsetNeedSpec)

/-- ITS FALSE NEIGHBOUR: 'it returns false'. Refute it at one input. -/
def offsetNeedWrong : ChangeSpec := { name := "offsetNeed", fn := fun _ => fun
  | [d] => { results := [.lit (.bool false)], args := [d] }
  | _ => none }
def OffsetNeedWrongFalsely : Prop := offsetNeedRow.holds Tryz.pinned (OpenSpec.ofChange offsetNeedWrong)

/-- 'girolaw30.OffsetIsLargest': WHATEVER THE INPUT: true; the input reads as it did. -/
def offsetIsLargestSpec : ChangeSpec := { name := "offsetIsLargest", fn := fun _ => fun
  | [d1, d2, d3] => { results := [.lit (.bool true)], args := [d1, d2, d3] }
  | _ => none }
def offsetIsLargestRow : OpenClaim := { program := "ytneihdahboilnaagreat", sum := "e74c262236cad1113891938df8f80ac29d2b89efae5fa72611e4c51f8ee77727", func := "giro/girolaw30.OffsetIsLargest", spec := "offsetIsLargest", unfollowed := true, recurses := true, plainKeys := false, apart := false }
def OffsetIsLargestSaid : Prop := offsetIsLargestRow.holds Tryz.pinned (OpenSpec.ofChange offsetIsLargestSpec)

/-- ITS FALSE NEIGHBOUR: 'it returns false'. Refute it at one input. -/
def offsetIsLargestWrong : ChangeSpec := { name := "offsetIsLargest", fn := fun _ => fun
  | [d1, d2, d3] => { results := [.lit (.bool false)], args := [d1, d2, d3] }
  | _ => none }
def OffsetIsLargestWrongFalsely : Prop := offsetIsLargestRow.holds Tryz.pinned (OpenSpec.ofChange offsetIsLargestWrong)

/- THE SECOND FORM. 'bulk': how many values and letters a reading holds, each counted each time it is reached (what is shared counts as often as it is met; a slice's spare places count too). A statement '..UptoSaid' is the law's where the arguments, and the package variables that the reading takes, are together of bulk at most 1048576: NARROWER than '..Said'. Prove '..Said' where nothing that the law and all that it calls make is longer than what came in: it says more and counts as full. Else prove '..UptoSaid'. A law counts once. -/
mutual
def uptoBulk {H : Type} : DataW H → Nat
  | .lit (.string bytes) => bytes.length + 1
  | .lit _ => 1
  | .nil => 1
  | .ptr d => uptoBulk d + 1
  | .slice elems spare => uptoBulkAll elems + uptoBulkAll spare + 1
  | .agg parts => uptoBulkAll parts + 1
  | .iface _ d => uptoBulk d + 1
  | .map entries => uptoBulkEntries entries + 1
  | .held _ => 1
def uptoBulkAll {H : Type} : List (DataW H) → Nat
  | [] => 0
  | d :: r => uptoBulk d + uptoBulkAll r
def uptoBulkEntries {H : Type} : List (Lit × DataW H) → Nat
  | [] => 0
  | x :: r => uptoBulkEntry x + uptoBulkEntries r
def uptoBulkEntry {H : Type} : Lit × DataW H → Nat
  | (.string bytes, d) => bytes.length + uptoBulk d + 1
  | (_, d) => uptoBulk d + 1
 end
def uptoSmall : (H : Type) → List (DataW H) → Bool := fun _ ds => decide (uptoBulkAll ds ≤ 1048576)
def OpenSpec.upto (s : _root_.Go.ChangeSpec) : _root_.Go.OpenSpec := { _root_.Go.OpenSpec.ofChange s with cond := some uptoSmall }

/-- 'girolaw30.OffsetLargest', WHERE WHAT IT READS IS OF BULK AT MOST 1048576: true; the input reads as it did. -/
def offsetLargestUptoRow : OpenClaim := { program := "ytneihdahboilnaagreat", sum := "e74c262236cad1113891938df8f80ac29d2b89efae5fa72611e4c51f8ee77727", func := "giro/girolaw30.OffsetLargest", spec := "offsetLargest", unfollowed := true, recurses := true, plainKeys := false, apart := false, narrowed := true }
def OffsetLargestUptoSaid : Prop := offsetLargestUptoRow.holds Tryz.pinned (OpenSpec.upto offsetLargestSpec)

/-- 'girolaw30.OffsetExplain', WHERE WHAT IT READS IS OF BULK AT MOST 1048576: true; the input reads as it did. -/
def offsetExplainUptoRow : OpenClaim := { program := "ytneihdahboilnaagreat", sum := "e74c262236cad1113891938df8f80ac29d2b89efae5fa72611e4c51f8ee77727", func := "giro/girolaw30.OffsetExplain", spec := "offsetExplain", unfollowed := true, recurses := true, plainKeys := false, apart := false, narrowed := true }
def OffsetExplainUptoSaid : Prop := offsetExplainUptoRow.holds Tryz.pinned (OpenSpec.upto offsetExplainSpec)

/-- 'girolaw30.OffsetContains', WHERE WHAT IT READS IS OF BULK AT MOST 1048576: true; the input reads as it did. -/
def offsetContainsUptoRow : OpenClaim := { program := "ytneihdahboilnaagreat", sum := "e74c262236cad1113891938df8f80ac29d2b89efae5fa72611e4c51f8ee77727", func := "giro/girolaw30.OffsetContains", spec := "offsetContains", unfollowed := true, recurses := true, plainKeys := false, apart := false, narrowed := true }
def OffsetContainsUptoSaid : Prop := offsetContainsUptoRow.holds Tryz.pinned (OpenSpec.upto offsetContainsSpec)

/-- 'girolaw30.OffsetGross', WHERE WHAT IT READS IS OF BULK AT MOST 1048576: true; the input reads as it did. -/
def offsetGrossUptoRow : OpenClaim := { program := "ytneihdahboilnaagreat", sum := "e74c262236cad1113891938df8f80ac29d2b89efae5fa72611e4c51f8ee77727", func := "giro/girolaw30.OffsetGross", spec := "offsetGross", unfollowed := true, recurses := true, plainKeys := false, apart := false, narrowed := true }
def OffsetGrossUptoSaid : Prop := offsetGrossUptoRow.holds Tryz.pinned (OpenSpec.upto offsetGrossSpec)

/-- 'girolaw30.OffsetOrder', WHERE WHAT IT READS IS OF BULK AT MOST 1048576: true; the input reads as it did. -/
def offsetOrderUptoRow : OpenClaim := { program := "ytneihdahboilnaagreat", sum := "e74c262236cad1113891938df8f80ac29d2b89efae5fa72611e4c51f8ee77727", func := "giro/girolaw30.OffsetOrder", spec := "offsetOrder", unfollowed := true, recurses := true, plainKeys := false, apart := false, narrowed := true }
def OffsetOrderUptoSaid : Prop := offsetOrderUptoRow.holds Tryz.pinned (OpenSpec.upto offsetOrderSpec)

/-- 'girolaw30.OffsetMonotone', WHERE WHAT IT READS IS OF BULK AT MOST 1048576: true; the input reads as it did. -/
def offsetMonotoneUptoRow : OpenClaim := { program := "ytneihdahboilnaagreat", sum := "e74c262236cad1113891938df8f80ac29d2b89efae5fa72611e4c51f8ee77727", func := "giro/girolaw30.OffsetMonotone", spec := "offsetMonotone", unfollowed := true, recurses := true, plainKeys := false, apart := false, narrowed := true }
def OffsetMonotoneUptoSaid : Prop := offsetMonotoneUptoRow.holds Tryz.pinned (OpenSpec.upto offsetMonotoneSpec)

/-- 'girolaw30.OffsetComponents', WHERE WHAT IT READS IS OF BULK AT MOST 1048576: true; the input reads as it did. -/
def offsetComponentsUptoRow : OpenClaim := { program := "ytneihdahboilnaagreat", sum := "e74c262236cad1113891938df8f80ac29d2b89efae5fa72611e4c51f8ee77727", func := "giro/girolaw30.OffsetComponents", spec := "offsetComponents", unfollowed := true, recurses := true, plainKeys := false, apart := false, narrowed := true }
def OffsetComponentsUptoSaid : Prop := offsetComponentsUptoRow.holds Tryz.pinned (OpenSpec.upto offsetComponentsSpec)

/-- 'girolaw30.OffsetRest', WHERE WHAT IT READS IS OF BULK AT MOST 1048576: true; the input reads as it did. -/
def offsetRestUptoRow : OpenClaim := { program := "ytneihdahboilnaagreat", sum := "e74c262236cad1113891938df8f80ac29d2b89efae5fa72611e4c51f8ee77727", func := "giro/girolaw30.OffsetRest", spec := "offsetRest", unfollowed := true, recurses := true, plainKeys := false, apart := false, narrowed := true }
def OffsetRestUptoSaid : Prop := offsetRestUptoRow.holds Tryz.pinned (OpenSpec.upto offsetRestSpec)

/-- 'girolaw30.OffsetNeed', WHERE WHAT IT READS IS OF BULK AT MOST 1048576: true; the input reads as it did. -/
def offsetNeedUptoRow : OpenClaim := { program := "ytneihdahboilnaagreat", sum := "e74c262236cad1113891938df8f80ac29d2b89efae5fa72611e4c51f8ee77727", func := "giro/girolaw30.OffsetNeed", spec := "offsetNeed", unfollowed := true, recurses := true, plainKeys := false, apart := false, narrowed := true }
def OffsetNeedUptoSaid : Prop := offsetNeedUptoRow.holds Tryz.pinned (OpenSpec.upto offsetNeedSpec)

/-- 'girolaw30.OffsetIsLargest', WHERE WHAT IT READS IS OF BULK AT MOST 1048576: true; the input reads as it did. -/
def offsetIsLargestUptoRow : OpenClaim := { program := "ytneihdahboilnaagreat", sum := "e74c262236cad1113891938df8f80ac29d2b89efae5fa72611e4c51f8ee77727", func := "giro/girolaw30.OffsetIsLargest", spec := "offsetIsLargest", unfollowed := true, recurses := true, plainKeys := false, apart := false, narrowed := true }
def OffsetIsLargestUptoSaid : Prop := offsetIsLargestUptoRow.holds Tryz.pinned (OpenSpec.upto offsetIsLargestSpec)

end Rows
end Go.Proofs.YtneihdahboilnaaGreat
