/-
  No cell of these rows narrows 'for every input' (looked for: loops, veiled, ifaces, maps, wideKeys, modest, calm, conditions, laid).
  DERIVED. THE GIVEN ROWS OF THIS SEAT. 8 by the template 'for every input the law returns true; each argument reads behind the call as it read before'; 0 by the template 'total and deterministic' (their statements: YtjbghmlofjkcfaaTotals.lean).
  GIVEN WITH THE SEED: the statements are not yours to turn. If you find one false, say at which input.
  Laid BY PROGRAM, IN A SANDBOX (cutbox-rows.mjs): the forced cells as the released guide's own fill.sh prints them over the translation 3b7251d3169906c1… (all of the seat's roots in one cut). By AI agents, Wed Nov 11 2026. No macro, syntax, notation, axiom, sorry.
-/
import Derived.Test.YtjbghmlofjkcfaaChecked
import GoSem.Claim
import GoSem.ClaimJoined
import GoSem.ClaimMapViews
import Derived.JoinedTies
import Derived.KernelRfl
namespace Go.Proofs.Ytjbghmlofjkcfaa
/- THE CELL 'sum', in the pinned program and in every row, IS THE sha256 OF THE DUMP (.gsa) THAT YtjbghmlofjkcfaaProg.lean LOADS. Nothing in Lean hashes anything: it is a label: what it is worth is what the hold of that sum in a sandbox is worth. -/
noncomputable def Try.pinned : Pinned := { name := "ytjbghmlofjkcfaa", sum := "3b7251d3169906c11dda60e88e5c203f757ed31276822e80e8130b00aa15258d", checked := Try.checked }
namespace Rows
def none {H : Type} : Left H := { results := [], args := [] }

/-- 'girolaw08.CodecWrite': WHATEVER THE INPUT: true; the input reads as it did. -/
def codecWriteSpec : ChangeSpec := { name := "codecWrite", fn := fun _ => fun
  | [d1, d2] => { results := [.lit (.bool true)], args := [d1, d2] }
  | _ => none }
def codecWriteRow : OpenClaim := { program := "ytjbghmlofjkcfaa", sum := "3b7251d3169906c11dda60e88e5c203f757ed31276822e80e8130b00aa15258d", func := "giro/girolaw08.CodecWrite", spec := "codecWrite", unfollowed := true, recurses := true, apart := false }
def CodecWriteSaid : Prop := codecWriteRow.holds Try.pinned (OpenSpec.ofChange codecWriteSpec)

/-- ITS FALSE NEIGHBOUR: 'it returns false'. Refute it at one input. -/
def codecWriteWrong : ChangeSpec := { name := "codecWrite", fn := fun _ => fun
  | [d1, d2] => { results := [.lit (.bool false)], args := [d1, d2] }
  | _ => none }
def CodecWriteWrongFalsely : Prop := codecWriteRow.holds Try.pinned (OpenSpec.ofChange codecWriteWrong)

/-- 'girolaw08.CodecFail': WHATEVER THE INPUT: true; the input reads as it did. -/
def codecFailSpec : ChangeSpec := { name := "codecFail", fn := fun _ => fun
  | [d1, d2, d3, d4] => { results := [.lit (.bool true)], args := [d1, d2, d3, d4] }
  | _ => none }
def codecFailRow : OpenClaim := { program := "ytjbghmlofjkcfaa", sum := "3b7251d3169906c11dda60e88e5c203f757ed31276822e80e8130b00aa15258d", func := "giro/girolaw08.CodecFail", spec := "codecFail", unfollowed := true, recurses := true, apart := false }
def CodecFailSaid : Prop := codecFailRow.holds Try.pinned (OpenSpec.ofChange codecFailSpec)

/-- ITS FALSE NEIGHBOUR: 'it returns false'. Refute it at one input. -/
def codecFailWrong : ChangeSpec := { name := "codecFail", fn := fun _ => fun
  | [d1, d2, d3, d4] => { results := [.lit (.bool false)], args := [d1, d2, d3, d4] }
  | _ => none }
def CodecFailWrongFalsely : Prop := codecFailRow.holds Try.pinned (OpenSpec.ofChange codecFailWrong)

/-- 'girolaw08.CodecSlices': WHATEVER THE INPUT: true; the input reads as it did. -/
def codecSlicesSpec : ChangeSpec := { name := "codecSlices", fn := fun _ => fun
  | [d1, d2, d3] => { results := [.lit (.bool true)], args := [d1, d2, d3] }
  | _ => none }
def codecSlicesRow : OpenClaim := { program := "ytjbghmlofjkcfaa", sum := "3b7251d3169906c11dda60e88e5c203f757ed31276822e80e8130b00aa15258d", func := "giro/girolaw08.CodecSlices", spec := "codecSlices", unfollowed := true, recurses := true, apart := false }
def CodecSlicesSaid : Prop := codecSlicesRow.holds Try.pinned (OpenSpec.ofChange codecSlicesSpec)

/-- ITS FALSE NEIGHBOUR: 'it returns false'. Refute it at one input. -/
def codecSlicesWrong : ChangeSpec := { name := "codecSlices", fn := fun _ => fun
  | [d1, d2, d3] => { results := [.lit (.bool false)], args := [d1, d2, d3] }
  | _ => none }
def CodecSlicesWrongFalsely : Prop := codecSlicesRow.holds Try.pinned (OpenSpec.ofChange codecSlicesWrong)

/-- 'girolaw08.CodecRead': WHATEVER THE INPUT: true; the input reads as it did. -/
def codecReadSpec : ChangeSpec := { name := "codecRead", fn := fun _ => fun
  | [d1, d2, d3, d4] => { results := [.lit (.bool true)], args := [d1, d2, d3, d4] }
  | _ => none }
def codecReadRow : OpenClaim := { program := "ytjbghmlofjkcfaa", sum := "3b7251d3169906c11dda60e88e5c203f757ed31276822e80e8130b00aa15258d", func := "giro/girolaw08.CodecRead", spec := "codecRead", unfollowed := true, recurses := true, apart := false }
def CodecReadSaid : Prop := codecReadRow.holds Try.pinned (OpenSpec.ofChange codecReadSpec)

/-- ITS FALSE NEIGHBOUR: 'it returns false'. Refute it at one input. -/
def codecReadWrong : ChangeSpec := { name := "codecRead", fn := fun _ => fun
  | [d1, d2, d3, d4] => { results := [.lit (.bool false)], args := [d1, d2, d3, d4] }
  | _ => none }
def CodecReadWrongFalsely : Prop := codecReadRow.holds Try.pinned (OpenSpec.ofChange codecReadWrong)

/-- 'girolaw08.CodecRoundTrip': WHATEVER THE INPUT: true; the input reads as it did. -/
def codecRoundTripSpec : ChangeSpec := { name := "codecRoundTrip", fn := fun _ => fun
  | [d1, d2, d3] => { results := [.lit (.bool true)], args := [d1, d2, d3] }
  | _ => none }
def codecRoundTripRow : OpenClaim := { program := "ytjbghmlofjkcfaa", sum := "3b7251d3169906c11dda60e88e5c203f757ed31276822e80e8130b00aa15258d", func := "giro/girolaw08.CodecRoundTrip", spec := "codecRoundTrip", unfollowed := true, recurses := true, apart := false }
def CodecRoundTripSaid : Prop := codecRoundTripRow.holds Try.pinned (OpenSpec.ofChange codecRoundTripSpec)

/-- ITS FALSE NEIGHBOUR: 'it returns false'. Refute it at one input. -/
def codecRoundTripWrong : ChangeSpec := { name := "codecRoundTrip", fn := fun _ => fun
  | [d1, d2, d3] => { results := [.lit (.bool false)], args := [d1, d2, d3] }
  | _ => none }
def CodecRoundTripWrongFalsely : Prop := codecRoundTripRow.holds Try.pinned (OpenSpec.ofChange codecRoundTripWrong)

/-- 'girolaw08.CodecCanonical': WHATEVER THE INPUT: true; the input reads as it did. -/
def codecCanonicalSpec : ChangeSpec := { name := "codecCanonical", fn := fun _ => fun
  | [d1, d2] => { results := [.lit (.bool true)], args := [d1, d2] }
  | _ => none }
def codecCanonicalRow : OpenClaim := { program := "ytjbghmlofjkcfaa", sum := "3b7251d3169906c11dda60e88e5c203f757ed31276822e80e8130b00aa15258d", func := "giro/girolaw08.CodecCanonical", spec := "codecCanonical", unfollowed := true, recurses := true, apart := false }
def CodecCanonicalSaid : Prop := codecCanonicalRow.holds Try.pinned (OpenSpec.ofChange codecCanonicalSpec)

/-- ITS FALSE NEIGHBOUR: 'it returns false'. Refute it at one input. -/
def codecCanonicalWrong : ChangeSpec := { name := "codecCanonical", fn := fun _ => fun
  | [d1, d2] => { results := [.lit (.bool false)], args := [d1, d2] }
  | _ => none }
def CodecCanonicalWrongFalsely : Prop := codecCanonicalRow.holds Try.pinned (OpenSpec.ofChange codecCanonicalWrong)

/-- 'girolaw08.CodecTruncated': WHATEVER THE INPUT: true; the input reads as it did. -/
def codecTruncatedSpec : ChangeSpec := { name := "codecTruncated", fn := fun _ => fun
  | [d1, d2] => { results := [.lit (.bool true)], args := [d1, d2] }
  | _ => none }
def codecTruncatedRow : OpenClaim := { program := "ytjbghmlofjkcfaa", sum := "3b7251d3169906c11dda60e88e5c203f757ed31276822e80e8130b00aa15258d", func := "giro/girolaw08.CodecTruncated", spec := "codecTruncated", unfollowed := true, recurses := true, apart := false }
def CodecTruncatedSaid : Prop := codecTruncatedRow.holds Try.pinned (OpenSpec.ofChange codecTruncatedSpec)

/-- ITS FALSE NEIGHBOUR: 'it returns false'. Refute it at one input. -/
def codecTruncatedWrong : ChangeSpec := { name := "codecTruncated", fn := fun _ => fun
  | [d1, d2] => { results := [.lit (.bool false)], args := [d1, d2] }
  | _ => none }
def CodecTruncatedWrongFalsely : Prop := codecTruncatedRow.holds Try.pinned (OpenSpec.ofChange codecTruncatedWrong)

/-- 'girolaw08.CodecNil': WHATEVER THE INPUT: true; the input reads as it did. -/
def codecNilSpec : ChangeSpec := { name := "codecNil", fn := fun _ => fun
  | [d1, d2] => { results := [.lit (.bool true)], args := [d1, d2] }
  | _ => none }
def codecNilRow : OpenClaim := { program := "ytjbghmlofjkcfaa", sum := "3b7251d3169906c11dda60e88e5c203f757ed31276822e80e8130b00aa15258d", func := "giro/girolaw08.CodecNil", spec := "codecNil", unfollowed := true, recurses := true, apart := false }
def CodecNilSaid : Prop := codecNilRow.holds Try.pinned (OpenSpec.ofChange codecNilSpec)

/-- ITS FALSE NEIGHBOUR: 'it returns false'. Refute it at one input. -/
def codecNilWrong : ChangeSpec := { name := "codecNil", fn := fun _ => fun
  | [d1, d2] => { results := [.lit (.bool false)], args := [d1, d2] }
  | _ => none }
def CodecNilWrongFalsely : Prop := codecNilRow.holds Try.pinned (OpenSpec.ofChange codecNilWrong)

/- THE SECOND FORM. 'bulk': how many values and letters a reading holds, each counted each time it is reached (what is shared counts as often as it is met; a slice's spare places count too). A statement '..UptoSaid' is the law's where the arguments, and the package variables that the reading takes, are together of bulk at most 1048576: NARROWER than '..Said'. Prove '..Said' where nothing that the law and all that it calls make is longer than what came in: it says more and counts as full. Else prove '..UptoSaid'. A law counts once. -/
mutual
def uptoBulk {H : Type} : DataW H → Nat
  | .lit (.string bytes) => bytes.length + 1
  | .lit _ => 1
  | .nil => 1
  | .ptr d => uptoBulk d + 1
  | .slice elems spare => uptoBulkAll elems + uptoBulkAll spare + 1
  | .agg parts => uptoBulkAll parts + 1
  | .iface _ d => uptoBulk d + 1
  | .map entries => uptoBulkEntries entries + 1
  | .held _ => 1
def uptoBulkAll {H : Type} : List (DataW H) → Nat
  | [] => 0
  | d :: r => uptoBulk d + uptoBulkAll r
def uptoBulkEntries {H : Type} : List (Lit × DataW H) → Nat
  | [] => 0
  | x :: r => uptoBulkEntry x + uptoBulkEntries r
def uptoBulkEntry {H : Type} : Lit × DataW H → Nat
  | (.string bytes, d) => bytes.length + uptoBulk d + 1
  | (_, d) => uptoBulk d + 1
 end
def uptoSmall : (H : Type) → List (DataW H) → Bool := fun _ ds => decide (uptoBulkAll ds ≤ 1048576)
def OpenSpec.upto (s : _root_.Go.ChangeSpec) : _root_.Go.OpenSpec := { _root_.Go.OpenSpec.ofChange s with cond := some uptoSmall }

/-- 'girolaw08.CodecWrite', WHERE WHAT IT READS IS OF BULK AT MOST 1048576: true; the input reads as it did. -/
def codecWriteUptoRow : OpenClaim := { program := "ytjbghmlofjkcfaa", sum := "3b7251d3169906c11dda60e88e5c203f757ed31276822e80e8130b00aa15258d", func := "giro/girolaw08.CodecWrite", spec := "codecWrite", unfollowed := true, recurses := true, apart := false, narrowed := true }
def CodecWriteUptoSaid : Prop := codecWriteUptoRow.holds Try.pinned (OpenSpec.upto codecWriteSpec)

/-- 'girolaw08.CodecFail', WHERE WHAT IT READS IS OF BULK AT MOST 1048576: true; the input reads as it did. -/
def codecFailUptoRow : OpenClaim := { program := "ytjbghmlofjkcfaa", sum := "3b7251d3169906c11dda60e88e5c203f757ed31276822e80e8130b00aa15258d", func := "giro/girolaw08.CodecFail", spec := "codecFail", unfollowed := true, recurses := true, apart := false, narrowed := true }
def CodecFailUptoSaid : Prop := codecFailUptoRow.holds Try.pinned (OpenSpec.upto codecFailSpec)

/-- 'girolaw08.CodecSlices', WHERE WHAT IT READS IS OF BULK AT MOST 1048576: true; the input reads as it did. -/
def codecSlicesUptoRow : OpenClaim := { program := "ytjbghmlofjkcfaa", sum := "3b7251d3169906c11dda60e88e5c203f757ed31276822e80e8130b00aa15258d", func := "giro/girolaw08.CodecSlices", spec := "codecSlices", unfollowed := true, recurses := true, apart := false, narrowed := true }
def CodecSlicesUptoSaid : Prop := codecSlicesUptoRow.holds Try.pinned (OpenSpec.upto codecSlicesSpec)

/-- 'girolaw08.CodecRead', WHERE WHAT IT READS IS OF BULK AT MOST 1048576: true; the input reads as it did. -/
def codecReadUptoRow : OpenClaim := { program := "ytjbghmlofjkcfaa", sum := "3b7251d3169906c11dda60e88e5c203f757ed31276822e80e8130b00aa15258d", func := "giro/girolaw08.CodecRead", spec := "codecRead", unfollowed := true, recurses := true, apart := false, narrowed := true }
def CodecReadUptoSaid : Prop := codecReadUptoRow.holds Try.pinned (OpenSpec.upto codecReadSpec)

/-- 'girolaw08.CodecRoundTrip', WHERE WHAT IT READS IS OF BULK AT MOST 1048576: true; the input reads as it did. -/
def codecRoundTripUptoRow : OpenClaim := { program := "ytjbghmlofjkcfaa", sum := "3b7251d3169906c11dda60e88e5c203f757ed31276822e80e8130b00aa15258d", func := "giro/girolaw08.CodecRoundTrip", spec := "codecRoundTrip", unfollowed := true, recurses := true, apart := false, narrowed := true }
def CodecRoundTripUptoSaid : Prop := codecRoundTripUptoRow.holds Try.pinned (OpenSpec.upto codecRoundTripSpec)

/-- 'girolaw08.CodecCanonical', WHERE WHAT IT READS IS OF BULK AT MOST 1048576: true; the input reads as it did. -/
def codecCanonicalUptoRow : OpenClaim := { program := "ytjbghmlofjkcfaa", sum := "3b7251d3169906c11dda60e88e5c203f757ed31276822e80e8130b00aa15258d", func := "giro/girolaw08.CodecCanonical", spec := "codecCanonical", unfollowed := true, recurses := true, apart := false, narrowed := true }
def CodecCanonicalUptoSaid : Prop := codecCanonicalUptoRow.holds Try.pinned (OpenSpec.upto codecCanonicalSpec)

/-- 'girolaw08.CodecTruncated', WHERE WHAT IT READS IS OF BULK AT MOST 1048576: true; the input reads as it did. -/
def codecTruncatedUptoRow : OpenClaim := { program := "ytjbghmlofjkcfaa", sum := "3b7251d3169906c11dda60e88e5c203f757ed31276822e80e8130b00aa15258d", func := "giro/girolaw08.CodecTruncated", spec := "codecTruncated", unfollowed := true, recurses := true, apart := false, narrowed := true }
def CodecTruncatedUptoSaid : Prop := codecTruncatedUptoRow.holds Try.pinned (OpenSpec.upto codecTruncatedSpec)

/-- 'girolaw08.CodecNil', WHERE WHAT IT READS IS OF BULK AT MOST 1048576: true; the input reads as it did. -/
def codecNilUptoRow : OpenClaim := { program := "ytjbghmlofjkcfaa", sum := "3b7251d3169906c11dda60e88e5c203f757ed31276822e80e8130b00aa15258d", func := "giro/girolaw08.CodecNil", spec := "codecNil", unfollowed := true, recurses := true, apart := false, narrowed := true }
def CodecNilUptoSaid : Prop := codecNilUptoRow.holds Try.pinned (OpenSpec.upto codecNilSpec)

end Rows
end Go.Proofs.Ytjbghmlofjkcfaa
