/- What the walk wants of the map types of this program. -/
import Derived.Test.YtfmpiabmnjmobaaTy
import Derived.Test.YtfmpiabmnjmobaaMapA
namespace Go.Proofs.Ytfmpiabmnjmobaa
open Go.RowKit

theorem mt115 : mapTyB Try.prog 115 43 2 = true := by kernel_rfl
theorem za2 : zeroA? Try.prog 2 = some (.d (.raw (.int .i64 0))) := by kernel_rfl
theorem mt125 : mapTyB Try.prog 125 3 4 = true := by kernel_rfl
theorem kt3 : KeyTy Try.prog 3 (fun z : Int => .raw (.int .i64 z)) (fun z => .int .i64 z) := KeyTy.int Try.underlying3
theorem za4 : zeroA? Try.prog 4 = some (.d (.raw (.bool false))) := by kernel_rfl
theorem mt140 : mapTyB Try.prog 140 9 2 = true := by kernel_rfl
theorem kt9 : KeyTy Try.prog 9 strD strV := KeyTy.str Try.underlying9
theorem mt146 : mapTyB Try.prog 146 43 4 = true := by kernel_rfl

end Go.Proofs.Ytfmpiabmnjmobaa

