/-
  No cell of these rows narrows 'for every input' (looked for: loops, veiled, ifaces, maps, wideKeys, modest, calm, conditions, laid).
  DERIVED. THE GIVEN ROWS OF THIS SEAT. 9 by the template 'for every input the law returns true; each argument reads behind the call as it read before'; 0 by the template 'total and deterministic' (their statements: YtnflcmpdaoobcaaTotals.lean).
  GIVEN WITH THE SEED: the statements are not yours to turn. If you find one false, say at which input.
  Laid BY PROGRAM, IN A SANDBOX (cutbox-rows.mjs): the forced cells as the released guide's own fill.sh prints them over the translation 83ece3d5c9497810… (all of the seat's roots in one cut). By AI agents, Wed Nov 11 2026. No macro, syntax, notation, axiom, sorry.
-/
import Derived.Test.YtnflcmpdaoobcaaChecked
import GoSem.Claim
import GoSem.ClaimJoined
import GoSem.ClaimMapViews
import Derived.JoinedTies
import Derived.KernelRfl
namespace Go.Proofs.Ytnflcmpdaoobcaa
/- THE CELL 'sum', in the pinned program and in every row, IS THE sha256 OF THE DUMP (.gsa) THAT YtnflcmpdaoobcaaProg.lean LOADS. Nothing in Lean hashes anything: it is a label: what it is worth is what the hold of that sum in a sandbox is worth. -/
noncomputable def Try.pinned : Pinned := { name := "ytnflcmpdaoobcaa", sum := "83ece3d5c9497810e9de9e8ca2da2ac611c0ffacb8e3f1acd49f645e448a6a78", checked := Try.checked }
namespace Rows
def none {H : Type} : Left H := { results := [], args := [] }

/-- 'girolaw09.RecordChecksum': WHATEVER THE INPUT: true; the input reads as it did. -/
def recordChecksumSpec : ChangeSpec := { name := "recordChecksum", fn := fun _ => fun
  | [d1, d2] => { results := [.lit (.bool true)], args := [d1, d2] }
  | _ => none }
def recordChecksumRow : OpenClaim := { program := "ytnflcmpdaoobcaa", sum := "83ece3d5c9497810e9de9e8ca2da2ac611c0ffacb8e3f1acd49f645e448a6a78", func := "giro/girolaw09.RecordChecksum", spec := "recordChecksum", apart := false }
def RecordChecksumSaid : Prop := recordChecksumRow.holds Try.pinned (OpenSpec.ofChange recordChecksumSpec)

/-- ITS FALSE NEIGHBOUR: 'it returns false'. Refute it at one input. -/
def recordChecksumWrong : ChangeSpec := { name := "recordChecksum", fn := fun _ => fun
  | [d1, d2] => { results := [.lit (.bool false)], args := [d1, d2] }
  | _ => none }
def RecordChecksumWrongFalsely : Prop := recordChecksumRow.holds Try.pinned (OpenSpec.ofChange recordChecksumWrong)

/-- 'girolaw09.RecordChecksumAffine': WHATEVER THE INPUT: true; the input reads as it did. -/
def recordChecksumAffineSpec : ChangeSpec := { name := "recordChecksumAffine", fn := fun _ => fun
  | [d1, d2, d3] => { results := [.lit (.bool true)], args := [d1, d2, d3] }
  | _ => none }
def recordChecksumAffineRow : OpenClaim := { program := "ytnflcmpdaoobcaa", sum := "83ece3d5c9497810e9de9e8ca2da2ac611c0ffacb8e3f1acd49f645e448a6a78", func := "giro/girolaw09.RecordChecksumAffine", spec := "recordChecksumAffine", apart := false }
def RecordChecksumAffineSaid : Prop := recordChecksumAffineRow.holds Try.pinned (OpenSpec.ofChange recordChecksumAffineSpec)

/-- ITS FALSE NEIGHBOUR: 'it returns false'. Refute it at one input. -/
def recordChecksumAffineWrong : ChangeSpec := { name := "recordChecksumAffine", fn := fun _ => fun
  | [d1, d2, d3] => { results := [.lit (.bool false)], args := [d1, d2, d3] }
  | _ => none }
def RecordChecksumAffineWrongFalsely : Prop := recordChecksumAffineRow.holds Try.pinned (OpenSpec.ofChange recordChecksumAffineWrong)

/-- 'girolaw09.RecordEncode': WHATEVER THE INPUT: true; the input reads as it did. -/
def recordEncodeSpec : ChangeSpec := { name := "recordEncode", fn := fun _ => fun
  | [d] => { results := [.lit (.bool true)], args := [d] }
  | _ => none }
def recordEncodeRow : OpenClaim := { program := "ytnflcmpdaoobcaa", sum := "83ece3d5c9497810e9de9e8ca2da2ac611c0ffacb8e3f1acd49f645e448a6a78", func := "giro/girolaw09.RecordEncode", spec := "recordEncode", apart := false }
def RecordEncodeSaid : Prop := recordEncodeRow.holds Try.pinned (OpenSpec.ofChange recordEncodeSpec)

/-- ITS FALSE NEIGHBOUR: 'it returns false'. Refute it at one input. -/
def recordEncodeWrong : ChangeSpec := { name := "recordEncode", fn := fun _ => fun
  | [d] => { results := [.lit (.bool false)], args := [d] }
  | _ => none }
def RecordEncodeWrongFalsely : Prop := recordEncodeRow.holds Try.pinned (OpenSpec.ofChange recordEncodeWrong)

/-- 'girolaw09.RecordNext': WHATEVER THE INPUT: true; the input reads as it did. -/
def recordNextSpec : ChangeSpec := { name := "recordNext", fn := fun _ => fun
  | [d] => { results := [.lit (.bool true)], args := [d] }
  | _ => none }
def recordNextRow : OpenClaim := { program := "ytnflcmpdaoobcaa", sum := "83ece3d5c9497810e9de9e8ca2da2ac611c0ffacb8e3f1acd49f645e448a6a78", func := "giro/girolaw09.RecordNext", spec := "recordNext", apart := false }
def RecordNextSaid : Prop := recordNextRow.holds Try.pinned (OpenSpec.ofChange recordNextSpec)

/-- ITS FALSE NEIGHBOUR: 'it returns false'. Refute it at one input. -/
def recordNextWrong : ChangeSpec := { name := "recordNext", fn := fun _ => fun
  | [d] => { results := [.lit (.bool false)], args := [d] }
  | _ => none }
def RecordNextWrongFalsely : Prop := recordNextRow.holds Try.pinned (OpenSpec.ofChange recordNextWrong)

/-- 'girolaw09.RecordLimits': WHATEVER THE INPUT: true; the input reads as it did. -/
def recordLimitsSpec : ChangeSpec := { name := "recordLimits", fn := fun _ => fun
  | [d1, d2] => { results := [.lit (.bool true)], args := [d1, d2] }
  | _ => none }
def recordLimitsRow : OpenClaim := { program := "ytnflcmpdaoobcaa", sum := "83ece3d5c9497810e9de9e8ca2da2ac611c0ffacb8e3f1acd49f645e448a6a78", func := "giro/girolaw09.RecordLimits", spec := "recordLimits", apart := false }
def RecordLimitsSaid : Prop := recordLimitsRow.holds Try.pinned (OpenSpec.ofChange recordLimitsSpec)

/-- ITS FALSE NEIGHBOUR: 'it returns false'. Refute it at one input. -/
def recordLimitsWrong : ChangeSpec := { name := "recordLimits", fn := fun _ => fun
  | [d1, d2] => { results := [.lit (.bool false)], args := [d1, d2] }
  | _ => none }
def RecordLimitsWrongFalsely : Prop := recordLimitsRow.holds Try.pinned (OpenSpec.ofChange recordLimitsWrong)

/-- 'girolaw09.RecordTruncation': WHATEVER THE INPUT: true; the input reads as it did. -/
def recordTruncationSpec : ChangeSpec := { name := "recordTruncation", fn := fun _ => fun
  | [d1, d2] => { results := [.lit (.bool true)], args := [d1, d2] }
  | _ => none }
def recordTruncationRow : OpenClaim := { program := "ytnflcmpdaoobcaa", sum := "83ece3d5c9497810e9de9e8ca2da2ac611c0ffacb8e3f1acd49f645e448a6a78", func := "giro/girolaw09.RecordTruncation", spec := "recordTruncation", apart := false }
def RecordTruncationSaid : Prop := recordTruncationRow.holds Try.pinned (OpenSpec.ofChange recordTruncationSpec)

/-- ITS FALSE NEIGHBOUR: 'it returns false'. Refute it at one input. -/
def recordTruncationWrong : ChangeSpec := { name := "recordTruncation", fn := fun _ => fun
  | [d1, d2] => { results := [.lit (.bool false)], args := [d1, d2] }
  | _ => none }
def RecordTruncationWrongFalsely : Prop := recordTruncationRow.holds Try.pinned (OpenSpec.ofChange recordTruncationWrong)

/-- 'girolaw09.RecordCorruption': WHATEVER THE INPUT: true; the input reads as it did. -/
def recordCorruptionSpec : ChangeSpec := { name := "recordCorruption", fn := fun _ => fun
  | [d1, d2, d3, d4] => { results := [.lit (.bool true)], args := [d1, d2, d3, d4] }
  | _ => none }
def recordCorruptionRow : OpenClaim := { program := "ytnflcmpdaoobcaa", sum := "83ece3d5c9497810e9de9e8ca2da2ac611c0ffacb8e3f1acd49f645e448a6a78", func := "giro/girolaw09.RecordCorruption", spec := "recordCorruption", apart := false }
def RecordCorruptionSaid : Prop := recordCorruptionRow.holds Try.pinned (OpenSpec.ofChange recordCorruptionSpec)

/-- ITS FALSE NEIGHBOUR: 'it returns false'. Refute it at one input. -/
def recordCorruptionWrong : ChangeSpec := { name := "recordCorruption", fn := fun _ => fun
  | [d1, d2, d3, d4] => { results := [.lit (.bool false)], args := [d1, d2, d3, d4] }
  | _ => none }
def RecordCorruptionWrongFalsely : Prop := recordCorruptionRow.holds Try.pinned (OpenSpec.ofChange recordCorruptionWrong)

/-- 'girolaw09.RecordScan': WHATEVER THE INPUT: true; the input reads as it did. -/
def recordScanSpec : ChangeSpec := { name := "recordScan", fn := fun _ => fun
  | [d] => { results := [.lit (.bool true)], args := [d] }
  | _ => none }
def recordScanRow : OpenClaim := { program := "ytnflcmpdaoobcaa", sum := "83ece3d5c9497810e9de9e8ca2da2ac611c0ffacb8e3f1acd49f645e448a6a78", func := "giro/girolaw09.RecordScan", spec := "recordScan", unfollowed := true, recurses := true, apart := false }
def RecordScanSaid : Prop := recordScanRow.holds Try.pinned (OpenSpec.ofChange recordScanSpec)

/-- ITS FALSE NEIGHBOUR: 'it returns false'. Refute it at one input. -/
def recordScanWrong : ChangeSpec := { name := "recordScan", fn := fun _ => fun
  | [d] => { results := [.lit (.bool false)], args := [d] }
  | _ => none }
def RecordScanWrongFalsely : Prop := recordScanRow.holds Try.pinned (OpenSpec.ofChange recordScanWrong)

/-- 'girolaw09.RecordRoundTrip': WHATEVER THE INPUT: true; the input reads as it did. -/
def recordRoundTripSpec : ChangeSpec := { name := "recordRoundTrip", fn := fun _ => fun
  | [d1, d2] => { results := [.lit (.bool true)], args := [d1, d2] }
  | _ => none }
def recordRoundTripRow : OpenClaim := { program := "ytnflcmpdaoobcaa", sum := "83ece3d5c9497810e9de9e8ca2da2ac611c0ffacb8e3f1acd49f645e448a6a78", func := "giro/girolaw09.RecordRoundTrip", spec := "recordRoundTrip", unfollowed := true, recurses := true, apart := false }
def RecordRoundTripSaid : Prop := recordRoundTripRow.holds Try.pinned (OpenSpec.ofChange recordRoundTripSpec)

/-- ITS FALSE NEIGHBOUR: 'it returns false'. Refute it at one input. -/
def recordRoundTripWrong : ChangeSpec := { name := "recordRoundTrip", fn := fun _ => fun
  | [d1, d2] => { results := [.lit (.bool false)], args := [d1, d2] }
  | _ => none }
def RecordRoundTripWrongFalsely : Prop := recordRoundTripRow.holds Try.pinned (OpenSpec.ofChange recordRoundTripWrong)

/- THE SECOND FORM. 'bulk': how many values and letters a reading holds, each counted each time it is reached (what is shared counts as often as it is met; a slice's spare places count too). A statement '..UptoSaid' is the law's where the arguments, and the package variables that the reading takes, are together of bulk at most 1048576: NARROWER than '..Said'. Prove '..Said' where nothing that the law and all that it calls make is longer than what came in: it says more and counts as full. Else prove '..UptoSaid'. A law counts once. -/
mutual
def uptoBulk {H : Type} : DataW H → Nat
  | .lit (.string bytes) => bytes.length + 1
  | .lit _ => 1
  | .nil => 1
  | .ptr d => uptoBulk d + 1
  | .slice elems spare => uptoBulkAll elems + uptoBulkAll spare + 1
  | .agg parts => uptoBulkAll parts + 1
  | .iface _ d => uptoBulk d + 1
  | .map entries => uptoBulkEntries entries + 1
  | .held _ => 1
def uptoBulkAll {H : Type} : List (DataW H) → Nat
  | [] => 0
  | d :: r => uptoBulk d + uptoBulkAll r
def uptoBulkEntries {H : Type} : List (Lit × DataW H) → Nat
  | [] => 0
  | x :: r => uptoBulkEntry x + uptoBulkEntries r
def uptoBulkEntry {H : Type} : Lit × DataW H → Nat
  | (.string bytes, d) => bytes.length + uptoBulk d + 1
  | (_, d) => uptoBulk d + 1
 end
def uptoSmall : (H : Type) → List (DataW H) → Bool := fun _ ds => decide (uptoBulkAll ds ≤ 1048576)
def OpenSpec.upto (s : _root_.Go.ChangeSpec) : _root_.Go.OpenSpec := { _root_.Go.OpenSpec.ofChange s with cond := some uptoSmall }

/-- 'girolaw09.RecordChecksum', WHERE WHAT IT READS IS OF BULK AT MOST 1048576: true; the input reads as it did. -/
def recordChecksumUptoRow : OpenClaim := { program := "ytnflcmpdaoobcaa", sum := "83ece3d5c9497810e9de9e8ca2da2ac611c0ffacb8e3f1acd49f645e448a6a78", func := "giro/girolaw09.RecordChecksum", spec := "recordChecksum", apart := false, narrowed := true }
def RecordChecksumUptoSaid : Prop := recordChecksumUptoRow.holds Try.pinned (OpenSpec.upto recordChecksumSpec)

/-- 'girolaw09.RecordChecksumAffine', WHERE WHAT IT READS IS OF BULK AT MOST 1048576: true; the input reads as it did. -/
def recordChecksumAffineUptoRow : OpenClaim := { program := "ytnflcmpdaoobcaa", sum := "83ece3d5c9497810e9de9e8ca2da2ac611c0ffacb8e3f1acd49f645e448a6a78", func := "giro/girolaw09.RecordChecksumAffine", spec := "recordChecksumAffine", apart := false, narrowed := true }
def RecordChecksumAffineUptoSaid : Prop := recordChecksumAffineUptoRow.holds Try.pinned (OpenSpec.upto recordChecksumAffineSpec)

/-- 'girolaw09.RecordEncode', WHERE WHAT IT READS IS OF BULK AT MOST 1048576: true; the input reads as it did. -/
def recordEncodeUptoRow : OpenClaim := { program := "ytnflcmpdaoobcaa", sum := "83ece3d5c9497810e9de9e8ca2da2ac611c0ffacb8e3f1acd49f645e448a6a78", func := "giro/girolaw09.RecordEncode", spec := "recordEncode", apart := false, narrowed := true }
def RecordEncodeUptoSaid : Prop := recordEncodeUptoRow.holds Try.pinned (OpenSpec.upto recordEncodeSpec)

/-- 'girolaw09.RecordNext', WHERE WHAT IT READS IS OF BULK AT MOST 1048576: true; the input reads as it did. -/
def recordNextUptoRow : OpenClaim := { program := "ytnflcmpdaoobcaa", sum := "83ece3d5c9497810e9de9e8ca2da2ac611c0ffacb8e3f1acd49f645e448a6a78", func := "giro/girolaw09.RecordNext", spec := "recordNext", apart := false, narrowed := true }
def RecordNextUptoSaid : Prop := recordNextUptoRow.holds Try.pinned (OpenSpec.upto recordNextSpec)

/-- 'girolaw09.RecordLimits', WHERE WHAT IT READS IS OF BULK AT MOST 1048576: true; the input reads as it did. -/
def recordLimitsUptoRow : OpenClaim := { program := "ytnflcmpdaoobcaa", sum := "83ece3d5c9497810e9de9e8ca2da2ac611c0ffacb8e3f1acd49f645e448a6a78", func := "giro/girolaw09.RecordLimits", spec := "recordLimits", apart := false, narrowed := true }
def RecordLimitsUptoSaid : Prop := recordLimitsUptoRow.holds Try.pinned (OpenSpec.upto recordLimitsSpec)

/-- 'girolaw09.RecordTruncation', WHERE WHAT IT READS IS OF BULK AT MOST 1048576: true; the input reads as it did. -/
def recordTruncationUptoRow : OpenClaim := { program := "ytnflcmpdaoobcaa", sum := "83ece3d5c9497810e9de9e8ca2da2ac611c0ffacb8e3f1acd49f645e448a6a78", func := "giro/girolaw09.RecordTruncation", spec := "recordTruncation", apart := false, narrowed := true }
def RecordTruncationUptoSaid : Prop := recordTruncationUptoRow.holds Try.pinned (OpenSpec.upto recordTruncationSpec)

/-- 'girolaw09.RecordCorruption', WHERE WHAT IT READS IS OF BULK AT MOST 1048576: true; the input reads as it did. -/
def recordCorruptionUptoRow : OpenClaim := { program := "ytnflcmpdaoobcaa", sum := "83ece3d5c9497810e9de9e8ca2da2ac611c0ffacb8e3f1acd49f645e448a6a78", func := "giro/girolaw09.RecordCorruption", spec := "recordCorruption", apart := false, narrowed := true }
def RecordCorruptionUptoSaid : Prop := recordCorruptionUptoRow.holds Try.pinned (OpenSpec.upto recordCorruptionSpec)

/-- 'girolaw09.RecordScan', WHERE WHAT IT READS IS OF BULK AT MOST 1048576: true; the input reads as it did. -/
def recordScanUptoRow : OpenClaim := { program := "ytnflcmpdaoobcaa", sum := "83ece3d5c9497810e9de9e8ca2da2ac611c0ffacb8e3f1acd49f645e448a6a78", func := "giro/girolaw09.RecordScan", spec := "recordScan", unfollowed := true, recurses := true, apart := false, narrowed := true }
def RecordScanUptoSaid : Prop := recordScanUptoRow.holds Try.pinned (OpenSpec.upto recordScanSpec)

/-- 'girolaw09.RecordRoundTrip', WHERE WHAT IT READS IS OF BULK AT MOST 1048576: true; the input reads as it did. -/
def recordRoundTripUptoRow : OpenClaim := { program := "ytnflcmpdaoobcaa", sum := "83ece3d5c9497810e9de9e8ca2da2ac611c0ffacb8e3f1acd49f645e448a6a78", func := "giro/girolaw09.RecordRoundTrip", spec := "recordRoundTrip", unfollowed := true, recurses := true, apart := false, narrowed := true }
def RecordRoundTripUptoSaid : Prop := recordRoundTripUptoRow.holds Try.pinned (OpenSpec.upto recordRoundTripSpec)

end Rows
end Go.Proofs.Ytnflcmpdaoobcaa
