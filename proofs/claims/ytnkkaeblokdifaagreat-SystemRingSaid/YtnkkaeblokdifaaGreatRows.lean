/-
  No cell of these rows narrows 'for every input' (looked for: loops, veiled, ifaces, maps, wideKeys, modest, calm, conditions, laid).
  DERIVED. THE GIVEN ROWS OF THIS SEAT. 4 by the template 'for every input the law returns true; each argument reads behind the call as it read before'; 0 by the template 'total and deterministic' (their statements: YtnkkaeblokdifaaGreatTotals.lean).
  GIVEN WITH THE SEED: the statements are not yours to turn. If you find one false, say at which input.
  Laid BY PROGRAM, IN A SANDBOX (cutbox-rows.mjs): the forced cells as the released guide's own fill.sh prints them over the translation c94d6f99dd2efec6… (all of the seat's roots in one cut). By AI agents, Wed Nov 11 2026. No macro, syntax, notation, axiom, sorry.
-/
import Derived.Test.YtnkkaeblokdifaaGreatChecked
import GoSem.Claim
import GoSem.ClaimJoined
import GoSem.ClaimMapViews
import Derived.JoinedTies
import Derived.KernelRfl
namespace Go.Proofs.YtnkkaeblokdifaaGreat
/- THE CELL 'sum', in the pinned program and in every row, IS THE sha256 OF THE DUMP (.gsa) THAT YtnkkaeblokdifaaGreatProg.lean LOADS. Nothing in Lean hashes anything: it is a label: what it is worth is what the hold of that sum in a sandbox is worth. -/
noncomputable def Tryz.pinned : Pinned := { name := "ytnkkaeblokdifaagreat", sum := "c94d6f99dd2efec626a7b3c0baeb94511c814de9b36134c18845f09c2e89f465", checked := Tryz.checked }
namespace Rows
def none {H : Type} : Left H := { results := [], args := [] }

/-- 'girotop.SystemUnion': WHATEVER THE INPUT: true; the input reads as it did. -/
def systemUnionSpec : ChangeSpec := { name := "systemUnion", fn := fun _ => fun
  | [d] => { results := [.lit (.bool true)], args := [d] }
  | _ => none }
def systemUnionRow : OpenClaim := { program := "ytnkkaeblokdifaagreat", sum := "c94d6f99dd2efec626a7b3c0baeb94511c814de9b36134c18845f09c2e89f465", func := "giro/girotop.SystemUnion", spec := "systemUnion", unfollowed := true, recurses := true, plainKeys := false, apart := false }
def SystemUnionSaid : Prop := systemUnionRow.holds Tryz.pinned (OpenSpec.ofChange systemUnionSpec)

/-- ITS FALSE NEIGHBOUR: 'it returns false'. Refute it at one input. -/
def systemUnionWrong : ChangeSpec := { name := "systemUnion", fn := fun _ => fun
  | [d] => { results := [.lit (.bool false)], args := [d] }
  | _ => none }
def SystemUnionWrongFalsely : Prop := systemUnionRow.holds Tryz.pinned (OpenSpec.ofChange systemUnionWrong)

/-- 'girotop.SystemGross': WHATEVER THE INPUT: true; the input reads as it did. -/
def systemGrossSpec : ChangeSpec := { name := "systemGross", fn := fun _ => fun
  | [d] => { results := [.lit (.bool true)], args := [d] }
  | _ => none }
def systemGrossRow : OpenClaim := { program := "ytnkkaeblokdifaagreat", sum := "c94d6f99dd2efec626a7b3c0baeb94511c814de9b36134c18845f09c2e89f465", func := "giro/girotop.SystemGross", spec := "systemGross", unfollowed := true, recurses := true, plainKeys := false, apart := false }
def SystemGrossSaid : Prop := systemGrossRow.holds Tryz.pinned (OpenSpec.ofChange systemGrossSpec)

/-- ITS FALSE NEIGHBOUR: 'it returns false'. Refute it at one input. -/
def systemGrossWrong : ChangeSpec := { name := "systemGross", fn := fun _ => fun
  | [d] => { results := [.lit (.bool false)], args := [d] }
  | _ => none }
def SystemGrossWrongFalsely : Prop := systemGrossRow.holds Tryz.pinned (OpenSpec.ofChange systemGrossWrong)

/-- 'girotop.SystemOnce': WHATEVER THE INPUT: true; the input reads as it did. -/
def systemOnceSpec : ChangeSpec := { name := "systemOnce", fn := fun _ => fun
  | [d] => { results := [.lit (.bool true)], args := [d] }
  | _ => none }
def systemOnceRow : OpenClaim := { program := "ytnkkaeblokdifaagreat", sum := "c94d6f99dd2efec626a7b3c0baeb94511c814de9b36134c18845f09c2e89f465", func := "giro/girotop.SystemOnce", spec := "systemOnce", unfollowed := true, recurses := true, plainKeys := false, apart := false }
def SystemOnceSaid : Prop := systemOnceRow.holds Tryz.pinned (OpenSpec.ofChange systemOnceSpec)

/-- ITS FALSE NEIGHBOUR: 'it returns false'. Refute it at one input. -/
def systemOnceWrong : ChangeSpec := { name := "systemOnce", fn := fun _ => fun
  | [d] => { results := [.lit (.bool false)], args := [d] }
  | _ => none }
def SystemOnceWrongFalsely : Prop := systemOnceRow.holds Tryz.pinned (OpenSpec.ofChange systemOnceWrong)

/-- 'girotop.SystemRing': WHATEVER THE INPUT: true; the input reads as it did. -/
def systemRingSpec : ChangeSpec := { name := "systemRing", fn := fun _ => fun
  | [d1, d2, d3, d4] => { results := [.lit (.bool true)], args := [d1, d2, d3, d4] }
  | _ => none }
def systemRingRow : OpenClaim := { program := "ytnkkaeblokdifaagreat", sum := "c94d6f99dd2efec626a7b3c0baeb94511c814de9b36134c18845f09c2e89f465", func := "giro/girotop.SystemRing", spec := "systemRing", unfollowed := true, recurses := true, plainKeys := false, apart := false }
def SystemRingSaid : Prop := systemRingRow.holds Tryz.pinned (OpenSpec.ofChange systemRingSpec)

/-- ITS FALSE NEIGHBOUR: 'it returns false'. Refute it at one input. -/
def systemRingWrong : ChangeSpec := { name := "systemRing", fn := fun _ => fun
  | [d1, d2, d3, d4] => { results := [.lit (.bool false)], args := [d1, d2, d3, d4] }
  | _ => none }
def SystemRingWrongFalsely : Prop := systemRingRow.holds Tryz.pinned (OpenSpec.ofChange systemRingWrong)

/- THE SECOND FORM. 'bulk': how many values and letters a reading holds, each counted each time it is reached (what is shared counts as often as it is met; a slice's spare places count too). A statement '..UptoSaid' is the law's where the arguments, and the package variables that the reading takes, are together of bulk at most 1048576: NARROWER than '..Said'. Prove '..Said' where nothing that the law and all that it calls make is longer than what came in: it says more and counts as full. Else prove '..UptoSaid'. A law counts once. -/
mutual
def uptoBulk {H : Type} : DataW H → Nat
  | .lit (.string bytes) => bytes.length + 1
  | .lit _ => 1
  | .nil => 1
  | .ptr d => uptoBulk d + 1
  | .slice elems spare => uptoBulkAll elems + uptoBulkAll spare + 1
  | .agg parts => uptoBulkAll parts + 1
  | .iface _ d => uptoBulk d + 1
  | .map entries => uptoBulkEntries entries + 1
  | .held _ => 1
def uptoBulkAll {H : Type} : List (DataW H) → Nat
  | [] => 0
  | d :: r => uptoBulk d + uptoBulkAll r
def uptoBulkEntries {H : Type} : List (Lit × DataW H) → Nat
  | [] => 0
  | x :: r => uptoBulkEntry x + uptoBulkEntries r
def uptoBulkEntry {H : Type} : Lit × DataW H → Nat
  | (.string bytes, d) => bytes.length + uptoBulk d + 1
  | (_, d) => uptoBulk d + 1
 end
def uptoSmall : (H : Type) → List (DataW H) → Bool := fun _ ds => decide (uptoBulkAll ds ≤ 1048576)
def OpenSpec.upto (s : _root_.Go.ChangeSpec) : _root_.Go.OpenSpec := { _root_.Go.OpenSpec.ofChange s with cond := some uptoSmall }

/-- 'girotop.SystemUnion', WHERE WHAT IT READS IS OF BULK AT MOST 1048576: true; the input reads as it did. -/
def systemUnionUptoRow : OpenClaim := { program := "ytnkkaeblokdifaagreat", sum := "c94d6f99dd2efec626a7b3c0baeb94511c814de9b36134c18845f09c2e89f465", func := "giro/girotop.SystemUnion", spec := "systemUnion", unfollowed := true, recurses := true, plainKeys := false, apart := false, narrowed := true }
def SystemUnionUptoSaid : Prop := systemUnionUptoRow.holds Tryz.pinned (OpenSpec.upto systemUnionSpec)

/-- 'girotop.SystemGross', WHERE WHAT IT READS IS OF BULK AT MOST 1048576: true; the input reads as it did. -/
def systemGrossUptoRow : OpenClaim := { program := "ytnkkaeblokdifaagreat", sum := "c94d6f99dd2efec626a7b3c0baeb94511c814de9b36134c18845f09c2e89f465", func := "giro/girotop.SystemGross", spec := "systemGross", unfollowed := true, recurses := true, plainKeys := false, apart := false, narrowed := true }
def SystemGrossUptoSaid : Prop := systemGrossUptoRow.holds Tryz.pinned (OpenSpec.upto systemGrossSpec)

/-- 'girotop.SystemOnce', WHERE WHAT IT READS IS OF BULK AT MOST 1048576: true; the input reads as it did. -/
def systemOnceUptoRow : OpenClaim := { program := "ytnkkaeblokdifaagreat", sum := "c94d6f99dd2efec626a7b3c0baeb94511c814de9b36134c18845f09c2e89f465", func := "giro/girotop.SystemOnce", spec := "systemOnce", unfollowed := true, recurses := true, plainKeys := false, apart := false, narrowed := true }
def SystemOnceUptoSaid : Prop := systemOnceUptoRow.holds Tryz.pinned (OpenSpec.upto systemOnceSpec)

/-- 'girotop.SystemRing', WHERE WHAT IT READS IS OF BULK AT MOST 1048576: true; the input reads as it did. -/
def systemRingUptoRow : OpenClaim := { program := "ytnkkaeblokdifaagreat", sum := "c94d6f99dd2efec626a7b3c0baeb94511c814de9b36134c18845f09c2e89f465", func := "giro/girotop.SystemRing", spec := "systemRing", unfollowed := true, recurses := true, plainKeys := false, apart := false, narrowed := true }
def SystemRingUptoSaid : Prop := systemRingUptoRow.holds Tryz.pinned (OpenSpec.upto systemRingSpec)

end Rows
end Go.Proofs.YtnkkaeblokdifaaGreat
