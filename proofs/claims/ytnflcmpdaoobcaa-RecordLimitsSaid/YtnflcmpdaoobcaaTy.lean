/- What the walk wants of the types of this program. -/
import Derived.Test.YtnflcmpdaoobcaaRows
import Derived.Test.YtnflcmpdaoobcaaDraw5
namespace Go.Proofs.Ytnflcmpdaoobcaa
open Go.RowKit

theorem mixed : Try.prog.follows .mixedOrders = true := by kernel_rfl
theorem sz2 : sizeTy Try.prog 2 1 = true := by kernel_rfl
theorem on2 : oneTy Try.prog 2 = true := by kernel_rfl
theorem zl2 : zeroL? Try.prog 2 = some [.d (.raw (.int .i64 0))] := by kernel_rfl
theorem zd2 : zeroD? Try.prog 2 = some (.raw (.int .i64 0)) := by kernel_rfl
theorem sz3 : sizeTy Try.prog 3 1 = true := by kernel_rfl
theorem on3 : oneTy Try.prog 3 = true := by kernel_rfl
theorem zl3 : zeroL? Try.prog 3 = some [.d (.raw (.int .i64 0))] := by kernel_rfl
theorem zd3 : zeroD? Try.prog 3 = some (.raw (.int .i64 0)) := by kernel_rfl
theorem sz4 : sizeTy Try.prog 4 1 = true := by kernel_rfl
theorem on4 : oneTy Try.prog 4 = true := by kernel_rfl
theorem zl4 : zeroL? Try.prog 4 = some [.d (.raw (.bool false))] := by kernel_rfl
theorem zd4 : zeroD? Try.prog 4 = some (.raw (.bool false)) := by kernel_rfl
theorem sz5 : sizeTy Try.prog 5 1 = true := by kernel_rfl
theorem on5 : oneTy Try.prog 5 = true := by kernel_rfl
theorem zl5 : zeroL? Try.prog 5 = some [.d (.raw (.int .u8 0))] := by kernel_rfl
theorem zd5 : zeroD? Try.prog 5 = some (.raw (.int .u8 0)) := by kernel_rfl
theorem sz9 : sizeTy Try.prog 9 1 = true := by kernel_rfl
theorem on9 : oneTy Try.prog 9 = true := by kernel_rfl
theorem zl9 : zeroL? Try.prog 9 = some [.d (.raw (.string ⟨#[]⟩))] := by kernel_rfl
theorem zd9 : zeroD? Try.prog 9 = some (.raw (.string ⟨#[]⟩)) := by kernel_rfl
theorem sz12 : sizeTy Try.prog 12 1 = true := by kernel_rfl
theorem on12 : oneTy Try.prog 12 = true := by kernel_rfl
theorem zl12 : zeroL? Try.prog 12 = some [.d (.raw (.int .u64 0))] := by kernel_rfl
theorem zd12 : zeroD? Try.prog 12 = some (.raw (.int .u64 0)) := by kernel_rfl
theorem sz13 : sizeTy Try.prog 13 2 = true := by kernel_rfl
theorem rw13 : rowTy Try.prog 13 2 = true := by kernel_rfl
theorem fi13_0 : fieldInfo Try.prog 13 0 = some (0, 1, false) := by kernel_rfl
theorem fi13_1 : fieldInfo Try.prog 13 1 = some (1, 1, false) := by kernel_rfl
theorem zl13 : zeroL? Try.prog 13 = some [.d (.raw (.string ⟨#[]⟩)), .d (.raw (.int .u64 0))] := by kernel_rfl
theorem zd13 : zeroD? Try.prog 13 = some (.agg [.raw (.string ⟨#[]⟩), .raw (.int .u64 0)]) := by kernel_rfl
theorem sz19 : sizeTy Try.prog 19 1 = true := by kernel_rfl
theorem rw19 : rowTy Try.prog 19 1 = true := by kernel_rfl
theorem fi19_0 : fieldInfo Try.prog 19 0 = some (0, 1, false) := by kernel_rfl
theorem zl19 : zeroL? Try.prog 19 = some [.d (.raw (.pointer none))] := by kernel_rfl
theorem zd19 : zeroD? Try.prog 19 = some (.agg [.raw (.pointer none)]) := by kernel_rfl
theorem sz21 : sizeTy Try.prog 21 1 = true := by kernel_rfl
theorem on21 : oneTy Try.prog 21 = true := by kernel_rfl
theorem zl21 : zeroL? Try.prog 21 = some [.d (.raw (.int .i32 0))] := by kernel_rfl
theorem zd21 : zeroD? Try.prog 21 = some (.raw (.int .i32 0)) := by kernel_rfl
theorem sz22 : sizeTy Try.prog 22 1 = true := by kernel_rfl
theorem on22 : oneTy Try.prog 22 = true := by kernel_rfl
theorem zl22 : zeroL? Try.prog 22 = some [.d (.sl (some true) [])] := by kernel_rfl
theorem zd22 : zeroD? Try.prog 22 = some (.sl (some true) []) := by kernel_rfl
theorem sl22 : SlTy Try.prog 22 5 1 1 := slTy_of (by kernel_rfl)
theorem sz24 : sizeTy Try.prog 24 1 = true := by kernel_rfl
theorem on24 : oneTy Try.prog 24 = true := by kernel_rfl
theorem zl24 : zeroL? Try.prog 24 = some [.d (.raw (.int .u32 0))] := by kernel_rfl
theorem zd24 : zeroD? Try.prog 24 = some (.raw (.int .u32 0)) := by kernel_rfl
theorem sz29 : sizeTy Try.prog 29 1 = true := by kernel_rfl
theorem on29 : oneTy Try.prog 29 = true := by kernel_rfl
theorem zl29 : zeroL? Try.prog 29 = some [.d (.sl (some true) [])] := by kernel_rfl
theorem zd29 : zeroD? Try.prog 29 = some (.sl (some true) []) := by kernel_rfl
theorem sl29 : SlTy Try.prog 29 22 1 24 := slTy_of (by kernel_rfl)
theorem sz31 : sizeTy Try.prog 31 1 = true := by kernel_rfl
theorem on31 : oneTy Try.prog 31 = true := by kernel_rfl
theorem zl31 : zeroL? Try.prog 31 = some [.d (.raw (.int .i64 0))] := by kernel_rfl
theorem zd31 : zeroD? Try.prog 31 = some (.raw (.int .i64 0)) := by kernel_rfl
theorem sz44 : sizeTy Try.prog 44 1 = true := by kernel_rfl
theorem on44 : oneTy Try.prog 44 = true := by kernel_rfl
theorem zl44 : zeroL? Try.prog 44 = some [.d (.raw (.int .u16 0))] := by kernel_rfl
theorem zd44 : zeroD? Try.prog 44 = some (.raw (.int .u16 0)) := by kernel_rfl
theorem sz57 : sizeTy Try.prog 57 256 = true := by kernel_rfl
theorem rw57 : rowTy Try.prog 57 256 = true := by kernel_rfl
theorem sz59 : sizeTy Try.prog 59 1 = true := by kernel_rfl
theorem on59 : oneTy Try.prog 59 = true := by kernel_rfl
theorem zl59 : zeroL? Try.prog 59 = some [.d (.raw (.int .u64 0))] := by kernel_rfl
theorem zd59 : zeroD? Try.prog 59 = some (.raw (.int .u64 0)) := by kernel_rfl
theorem sz65 : sizeTy Try.prog 65 0 = true := by kernel_rfl
theorem rw65 : rowTy Try.prog 65 0 = true := by kernel_rfl
theorem zl65 : zeroL? Try.prog 65 = some [] := by kernel_rfl
theorem zd65 : zeroD? Try.prog 65 = some (.agg []) := by kernel_rfl
theorem sz66 : sizeTy Try.prog 66 0 = true := by kernel_rfl
theorem rw66 : rowTy Try.prog 66 0 = true := by kernel_rfl
theorem fi66_0 : fieldInfo Try.prog 66 0 = some (0, 0, true) := by kernel_rfl
theorem zl66 : zeroL? Try.prog 66 = some [] := by kernel_rfl
theorem zd66 : zeroD? Try.prog 66 = some (.agg []) := by kernel_rfl
theorem sz72 : sizeTy Try.prog 72 1 = true := by kernel_rfl
theorem on72 : oneTy Try.prog 72 = true := by kernel_rfl
theorem zl72 : zeroL? Try.prog 72 = some [.d (.raw (.pointer none))] := by kernel_rfl
theorem zd72 : zeroD? Try.prog 72 = some (.raw (.pointer none)) := by kernel_rfl
theorem sz77 : sizeTy Try.prog 77 1 = true := by kernel_rfl
theorem on77 : oneTy Try.prog 77 = true := by kernel_rfl
theorem zl77 : zeroL? Try.prog 77 = some [.d (.raw (.pointer none))] := by kernel_rfl
theorem zd77 : zeroD? Try.prog 77 = some (.raw (.pointer none)) := by kernel_rfl

end Go.Proofs.Ytnflcmpdaoobcaa
