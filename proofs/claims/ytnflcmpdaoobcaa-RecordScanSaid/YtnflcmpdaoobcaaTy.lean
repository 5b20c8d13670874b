/- What the walk wants of the types of this program. -/
import Derived.Test.YtnflcmpdaoobcaaRows
import Derived.Test.YtnflcmpdaoobcaaDraw5
import Derived.Test.YtnflcmpdaoobcaaBuild
namespace Go.Proofs.Ytnflcmpdaoobcaa
open Go.RowKit

theorem mixed : Try.prog.follows .mixedOrders = true := by kernel_rfl
theorem sz1 : sizeTy Try.prog 1 1 = true := by kernel_rfl
theorem on1 : oneTy Try.prog 1 = true := by kernel_rfl
theorem zl1 : zeroL? Try.prog 1 = some [.d (.raw .nilFunc)] := by kernel_rfl
theorem zd1 : zeroD? Try.prog 1 = some (.raw .nilFunc) := by kernel_rfl
theorem sz2 : sizeTy Try.prog 2 1 = true := by kernel_rfl
theorem on2 : oneTy Try.prog 2 = true := by kernel_rfl
theorem zl2 : zeroL? Try.prog 2 = some [.d (.raw (.int .i64 0))] := by kernel_rfl
theorem zd2 : zeroD? Try.prog 2 = some (.raw (.int .i64 0)) := by kernel_rfl
theorem sz3 : sizeTy Try.prog 3 1 = true := by kernel_rfl
theorem on3 : oneTy Try.prog 3 = true := by kernel_rfl
theorem zl3 : zeroL? Try.prog 3 = some [.d (.raw (.int .i64 0))] := by kernel_rfl
theorem zd3 : zeroD? Try.prog 3 = some (.raw (.int .i64 0)) := by kernel_rfl
theorem sz4 : sizeTy Try.prog 4 1 = true := by kernel_rfl
theorem on4 : oneTy Try.prog 4 = true := by kernel_rfl
theorem zl4 : zeroL? Try.prog 4 = some [.d (.raw (.bool false))] := by kernel_rfl
theorem zd4 : zeroD? Try.prog 4 = some (.raw (.bool false)) := by kernel_rfl
theorem sz5 : sizeTy Try.prog 5 1 = true := by kernel_rfl
theorem on5 : oneTy Try.prog 5 = true := by kernel_rfl
theorem zl5 : zeroL? Try.prog 5 = some [.d (.raw (.int .u8 0))] := by kernel_rfl
theorem zd5 : zeroD? Try.prog 5 = some (.raw (.int .u8 0)) := by kernel_rfl
theorem sz9 : sizeTy Try.prog 9 1 = true := by kernel_rfl
theorem on9 : oneTy Try.prog 9 = true := by kernel_rfl
theorem zl9 : zeroL? Try.prog 9 = some [.d (.raw (.string ⟨#[]⟩))] := by kernel_rfl
theorem zd9 : zeroD? Try.prog 9 = some (.raw (.string ⟨#[]⟩)) := by kernel_rfl
theorem sz12 : sizeTy Try.prog 12 1 = true := by kernel_rfl
theorem on12 : oneTy Try.prog 12 = true := by kernel_rfl
theorem zl12 : zeroL? Try.prog 12 = some [.d (.raw (.int .u64 0))] := by kernel_rfl
theorem zd12 : zeroD? Try.prog 12 = some (.raw (.int .u64 0)) := by kernel_rfl
theorem sz13 : sizeTy Try.prog 13 2 = true := by kernel_rfl
theorem rw13 : rowTy Try.prog 13 2 = true := by kernel_rfl
theorem fi13_0 : fieldInfo Try.prog 13 0 = some (0, 1, false) := by kernel_rfl
theorem fi13_1 : fieldInfo Try.prog 13 1 = some (1, 1, false) := by kernel_rfl
theorem pl13 : placesOf Try.prog 13 = some [(0, 1), (1, 1)] := by kernel_rfl
theorem zl13 : zeroL? Try.prog 13 = some [.d (.raw (.string ⟨#[]⟩)), .d (.raw (.int .u64 0))] := by kernel_rfl
theorem zd13 : zeroD? Try.prog 13 = some (.agg [.raw (.string ⟨#[]⟩), .raw (.int .u64 0)]) := by kernel_rfl
theorem sz19 : sizeTy Try.prog 19 1 = true := by kernel_rfl
theorem rw19 : rowTy Try.prog 19 1 = true := by kernel_rfl
theorem fi19_0 : fieldInfo Try.prog 19 0 = some (0, 1, false) := by kernel_rfl
theorem pl19 : placesOf Try.prog 19 = some [(0, 1)] := by kernel_rfl
theorem zl19 : zeroL? Try.prog 19 = some [.d (.raw (.pointer none))] := by kernel_rfl
theorem zd19 : zeroD? Try.prog 19 = some (.agg [.raw (.pointer none)]) := by kernel_rfl
theorem sz20 : sizeTy Try.prog 20 1 = true := by kernel_rfl
theorem on20 : oneTy Try.prog 20 = true := by kernel_rfl
theorem zl20 : zeroL? Try.prog 20 = some [.d (.raw .nilIface)] := by kernel_rfl
theorem zd20 : zeroD? Try.prog 20 = some (.raw .nilIface) := by kernel_rfl
theorem sz21 : sizeTy Try.prog 21 1 = true := by kernel_rfl
theorem on21 : oneTy Try.prog 21 = true := by kernel_rfl
theorem zl21 : zeroL? Try.prog 21 = some [.d (.raw (.int .i32 0))] := by kernel_rfl
theorem zd21 : zeroD? Try.prog 21 = some (.raw (.int .i32 0)) := by kernel_rfl
theorem sz22 : sizeTy Try.prog 22 1 = true := by kernel_rfl
theorem on22 : oneTy Try.prog 22 = true := by kernel_rfl
theorem zl22 : zeroL? Try.prog 22 = some [.d (.sl (some true) [])] := by kernel_rfl
theorem zd22 : zeroD? Try.prog 22 = some (.sl (some true) []) := by kernel_rfl
theorem sl22 : SlTy Try.prog 22 5 1 1 := slTy_of (by kernel_rfl)
theorem sz23 : sizeTy Try.prog 23 1 = true := by kernel_rfl
theorem on23 : oneTy Try.prog 23 = true := by kernel_rfl
theorem zl23 : zeroL? Try.prog 23 = some [.d (.raw .nilFunc)] := by kernel_rfl
theorem zd23 : zeroD? Try.prog 23 = some (.raw .nilFunc) := by kernel_rfl
theorem sz24 : sizeTy Try.prog 24 1 = true := by kernel_rfl
theorem on24 : oneTy Try.prog 24 = true := by kernel_rfl
theorem zl24 : zeroL? Try.prog 24 = some [.d (.raw (.int .u32 0))] := by kernel_rfl
theorem zd24 : zeroD? Try.prog 24 = some (.raw (.int .u32 0)) := by kernel_rfl
theorem sz25 : sizeTy Try.prog 25 1 = true := by kernel_rfl
theorem on25 : oneTy Try.prog 25 = true := by kernel_rfl
theorem zl25 : zeroL? Try.prog 25 = some [.d (.raw .nilFunc)] := by kernel_rfl
theorem zd25 : zeroD? Try.prog 25 = some (.raw .nilFunc) := by kernel_rfl
theorem sz26 : sizeTy Try.prog 26 1 = true := by kernel_rfl
theorem on26 : oneTy Try.prog 26 = true := by kernel_rfl
theorem zl26 : zeroL? Try.prog 26 = some [.d (.raw .nilFunc)] := by kernel_rfl
theorem zd26 : zeroD? Try.prog 26 = some (.raw .nilFunc) := by kernel_rfl
theorem sz27 : sizeTy Try.prog 27 1 = true := by kernel_rfl
theorem on27 : oneTy Try.prog 27 = true := by kernel_rfl
theorem zl27 : zeroL? Try.prog 27 = some [.d (.raw .nilFunc)] := by kernel_rfl
theorem zd27 : zeroD? Try.prog 27 = some (.raw .nilFunc) := by kernel_rfl
theorem sz28 : sizeTy Try.prog 28 1 = true := by kernel_rfl
theorem on28 : oneTy Try.prog 28 = true := by kernel_rfl
theorem zl28 : zeroL? Try.prog 28 = some [.d (.raw .nilFunc)] := by kernel_rfl
theorem zd28 : zeroD? Try.prog 28 = some (.raw .nilFunc) := by kernel_rfl
theorem sz29 : sizeTy Try.prog 29 1 = true := by kernel_rfl
theorem on29 : oneTy Try.prog 29 = true := by kernel_rfl
theorem zl29 : zeroL? Try.prog 29 = some [.d (.sl (some true) [])] := by kernel_rfl
theorem zd29 : zeroD? Try.prog 29 = some (.sl (some true) []) := by kernel_rfl
theorem sl29 : SlTy Try.prog 29 22 1 24 := slTy_of (by kernel_rfl)
theorem sz30 : sizeTy Try.prog 30 1 = true := by kernel_rfl
theorem on30 : oneTy Try.prog 30 = true := by kernel_rfl
theorem zl30 : zeroL? Try.prog 30 = some [.d (.raw .nilFunc)] := by kernel_rfl
theorem zd30 : zeroD? Try.prog 30 = some (.raw .nilFunc) := by kernel_rfl
theorem sz31 : sizeTy Try.prog 31 1 = true := by kernel_rfl
theorem on31 : oneTy Try.prog 31 = true := by kernel_rfl
theorem zl31 : zeroL? Try.prog 31 = some [.d (.raw (.int .i64 0))] := by kernel_rfl
theorem zd31 : zeroD? Try.prog 31 = some (.raw (.int .i64 0)) := by kernel_rfl
theorem sz33 : sizeTy Try.prog 33 1 = true := by kernel_rfl
theorem on33 : oneTy Try.prog 33 = true := by kernel_rfl
theorem zl33 : zeroL? Try.prog 33 = some [.d (.raw .nilFunc)] := by kernel_rfl
theorem zd33 : zeroD? Try.prog 33 = some (.raw .nilFunc) := by kernel_rfl
theorem sz34 : sizeTy Try.prog 34 1 = true := by kernel_rfl
theorem on34 : oneTy Try.prog 34 = true := by kernel_rfl
theorem zl34 : zeroL? Try.prog 34 = some [.d (.raw .nilFunc)] := by kernel_rfl
theorem zd34 : zeroD? Try.prog 34 = some (.raw .nilFunc) := by kernel_rfl
theorem sz35 : sizeTy Try.prog 35 1 = true := by kernel_rfl
theorem on35 : oneTy Try.prog 35 = true := by kernel_rfl
theorem zl35 : zeroL? Try.prog 35 = some [.d (.raw .nilFunc)] := by kernel_rfl
theorem zd35 : zeroD? Try.prog 35 = some (.raw .nilFunc) := by kernel_rfl
theorem sz36 : sizeTy Try.prog 36 1 = true := by kernel_rfl
theorem on36 : oneTy Try.prog 36 = true := by kernel_rfl
theorem zl36 : zeroL? Try.prog 36 = some [.d (.raw .nilFunc)] := by kernel_rfl
theorem zd36 : zeroD? Try.prog 36 = some (.raw .nilFunc) := by kernel_rfl
theorem sz37 : sizeTy Try.prog 37 1 = true := by kernel_rfl
theorem on37 : oneTy Try.prog 37 = true := by kernel_rfl
theorem zl37 : zeroL? Try.prog 37 = some [.d (.raw .nilFunc)] := by kernel_rfl
theorem zd37 : zeroD? Try.prog 37 = some (.raw .nilFunc) := by kernel_rfl
theorem sz39 : sizeTy Try.prog 39 1 = true := by kernel_rfl
theorem on39 : oneTy Try.prog 39 = true := by kernel_rfl
theorem zl39 : zeroL? Try.prog 39 = some [.d (.raw .nilFunc)] := by kernel_rfl
theorem zd39 : zeroD? Try.prog 39 = some (.raw .nilFunc) := by kernel_rfl
theorem sz41 : sizeTy Try.prog 41 1 = true := by kernel_rfl
theorem on41 : oneTy Try.prog 41 = true := by kernel_rfl
theorem zl41 : zeroL? Try.prog 41 = some [.d (.raw .nilFunc)] := by kernel_rfl
theorem zd41 : zeroD? Try.prog 41 = some (.raw .nilFunc) := by kernel_rfl
theorem sz42 : sizeTy Try.prog 42 1 = true := by kernel_rfl
theorem on42 : oneTy Try.prog 42 = true := by kernel_rfl
theorem zl42 : zeroL? Try.prog 42 = some [.d (.raw .nilFunc)] := by kernel_rfl
theorem zd42 : zeroD? Try.prog 42 = some (.raw .nilFunc) := by kernel_rfl
theorem sz43 : sizeTy Try.prog 43 1 = true := by kernel_rfl
theorem on43 : oneTy Try.prog 43 = true := by kernel_rfl
theorem zl43 : zeroL? Try.prog 43 = some [.d (.raw .nilFunc)] := by kernel_rfl
theorem zd43 : zeroD? Try.prog 43 = some (.raw .nilFunc) := by kernel_rfl
theorem sz44 : sizeTy Try.prog 44 1 = true := by kernel_rfl
theorem on44 : oneTy Try.prog 44 = true := by kernel_rfl
theorem zl44 : zeroL? Try.prog 44 = some [.d (.raw (.int .u16 0))] := by kernel_rfl
theorem zd44 : zeroD? Try.prog 44 = some (.raw (.int .u16 0)) := by kernel_rfl
theorem sz46 : sizeTy Try.prog 46 1 = true := by kernel_rfl
theorem on46 : oneTy Try.prog 46 = true := by kernel_rfl
theorem zl46 : zeroL? Try.prog 46 = some [.d (.raw .nilFunc)] := by kernel_rfl
theorem zd46 : zeroD? Try.prog 46 = some (.raw .nilFunc) := by kernel_rfl
theorem sz47 : sizeTy Try.prog 47 1 = true := by kernel_rfl
theorem on47 : oneTy Try.prog 47 = true := by kernel_rfl
theorem zl47 : zeroL? Try.prog 47 = some [.d (.raw .nilFunc)] := by kernel_rfl
theorem zd47 : zeroD? Try.prog 47 = some (.raw .nilFunc) := by kernel_rfl
theorem sz48 : sizeTy Try.prog 48 1 = true := by kernel_rfl
theorem on48 : oneTy Try.prog 48 = true := by kernel_rfl
theorem zl48 : zeroL? Try.prog 48 = some [.d (.raw .nilFunc)] := by kernel_rfl
theorem zd48 : zeroD? Try.prog 48 = some (.raw .nilFunc) := by kernel_rfl
theorem sz49 : sizeTy Try.prog 49 1 = true := by kernel_rfl
theorem on49 : oneTy Try.prog 49 = true := by kernel_rfl
theorem zl49 : zeroL? Try.prog 49 = some [.d (.raw .nilFunc)] := by kernel_rfl
theorem zd49 : zeroD? Try.prog 49 = some (.raw .nilFunc) := by kernel_rfl
theorem sz51 : sizeTy Try.prog 51 1 = true := by kernel_rfl
theorem on51 : oneTy Try.prog 51 = true := by kernel_rfl
theorem zl51 : zeroL? Try.prog 51 = some [.d (.raw .nilFunc)] := by kernel_rfl
theorem zd51 : zeroD? Try.prog 51 = some (.raw .nilFunc) := by kernel_rfl
theorem sz52 : sizeTy Try.prog 52 1 = true := by kernel_rfl
theorem on52 : oneTy Try.prog 52 = true := by kernel_rfl
theorem zl52 : zeroL? Try.prog 52 = some [.d (.raw .nilFunc)] := by kernel_rfl
theorem zd52 : zeroD? Try.prog 52 = some (.raw .nilFunc) := by kernel_rfl
theorem sz53 : sizeTy Try.prog 53 1 = true := by kernel_rfl
theorem on53 : oneTy Try.prog 53 = true := by kernel_rfl
theorem zl53 : zeroL? Try.prog 53 = some [.d (.raw .nilFunc)] := by kernel_rfl
theorem zd53 : zeroD? Try.prog 53 = some (.raw .nilFunc) := by kernel_rfl
theorem sz54 : sizeTy Try.prog 54 1 = true := by kernel_rfl
theorem on54 : oneTy Try.prog 54 = true := by kernel_rfl
theorem zl54 : zeroL? Try.prog 54 = some [.d (.raw .nilFunc)] := by kernel_rfl
theorem zd54 : zeroD? Try.prog 54 = some (.raw .nilFunc) := by kernel_rfl
theorem sz55 : sizeTy Try.prog 55 1 = true := by kernel_rfl
theorem on55 : oneTy Try.prog 55 = true := by kernel_rfl
theorem zl55 : zeroL? Try.prog 55 = some [.d (.raw .nilFunc)] := by kernel_rfl
theorem zd55 : zeroD? Try.prog 55 = some (.raw .nilFunc) := by kernel_rfl
theorem sz56 : sizeTy Try.prog 56 1 = true := by kernel_rfl
theorem on56 : oneTy Try.prog 56 = true := by kernel_rfl
theorem zl56 : zeroL? Try.prog 56 = some [.d (.raw .nilFunc)] := by kernel_rfl
theorem zd56 : zeroD? Try.prog 56 = some (.raw .nilFunc) := by kernel_rfl
theorem sz57 : sizeTy Try.prog 57 256 = true := by kernel_rfl
theorem rw57 : rowTy Try.prog 57 256 = true := by kernel_rfl
theorem sz58 : sizeTy Try.prog 58 1 = true := by kernel_rfl
theorem on58 : oneTy Try.prog 58 = true := by kernel_rfl
theorem zl58 : zeroL? Try.prog 58 = some [.d (.raw .nilFunc)] := by kernel_rfl
theorem zd58 : zeroD? Try.prog 58 = some (.raw .nilFunc) := by kernel_rfl
theorem sz59 : sizeTy Try.prog 59 1 = true := by kernel_rfl
theorem on59 : oneTy Try.prog 59 = true := by kernel_rfl
theorem zl59 : zeroL? Try.prog 59 = some [.d (.raw (.int .u64 0))] := by kernel_rfl
theorem zd59 : zeroD? Try.prog 59 = some (.raw (.int .u64 0)) := by kernel_rfl
theorem sz60 : sizeTy Try.prog 60 1 = true := by kernel_rfl
theorem on60 : oneTy Try.prog 60 = true := by kernel_rfl
theorem zl60 : zeroL? Try.prog 60 = some [.d (.raw .nilFunc)] := by kernel_rfl
theorem zd60 : zeroD? Try.prog 60 = some (.raw .nilFunc) := by kernel_rfl
theorem sz61 : sizeTy Try.prog 61 1 = true := by kernel_rfl
theorem on61 : oneTy Try.prog 61 = true := by kernel_rfl
theorem zl61 : zeroL? Try.prog 61 = some [.d (.raw .nilFunc)] := by kernel_rfl
theorem zd61 : zeroD? Try.prog 61 = some (.raw .nilFunc) := by kernel_rfl
theorem sz62 : sizeTy Try.prog 62 1 = true := by kernel_rfl
theorem on62 : oneTy Try.prog 62 = true := by kernel_rfl
theorem zl62 : zeroL? Try.prog 62 = some [.d (.raw .nilFunc)] := by kernel_rfl
theorem zd62 : zeroD? Try.prog 62 = some (.raw .nilFunc) := by kernel_rfl
theorem sz65 : sizeTy Try.prog 65 0 = true := by kernel_rfl
theorem rw65 : rowTy Try.prog 65 0 = true := by kernel_rfl
theorem zl65 : zeroL? Try.prog 65 = some [] := by kernel_rfl
theorem zd65 : zeroD? Try.prog 65 = some (.agg []) := by kernel_rfl
theorem sz66 : sizeTy Try.prog 66 0 = true := by kernel_rfl
theorem rw66 : rowTy Try.prog 66 0 = true := by kernel_rfl
theorem fi66_0 : fieldInfo Try.prog 66 0 = some (0, 0, true) := by kernel_rfl
theorem pl66 : placesOf Try.prog 66 = some [(0, 0)] := by kernel_rfl
theorem zl66 : zeroL? Try.prog 66 = some [] := by kernel_rfl
theorem zd66 : zeroD? Try.prog 66 = some (.agg []) := by kernel_rfl
theorem sz68 : sizeTy Try.prog 68 1 = true := by kernel_rfl
theorem on68 : oneTy Try.prog 68 = true := by kernel_rfl
theorem zl68 : zeroL? Try.prog 68 = some [.d (.raw .nilFunc)] := by kernel_rfl
theorem zd68 : zeroD? Try.prog 68 = some (.raw .nilFunc) := by kernel_rfl
theorem sz71 : sizeTy Try.prog 71 1 = true := by kernel_rfl
theorem on71 : oneTy Try.prog 71 = true := by kernel_rfl
theorem zl71 : zeroL? Try.prog 71 = some [.d (.raw .nilFunc)] := by kernel_rfl
theorem zd71 : zeroD? Try.prog 71 = some (.raw .nilFunc) := by kernel_rfl
theorem sz72 : sizeTy Try.prog 72 1 = true := by kernel_rfl
theorem on72 : oneTy Try.prog 72 = true := by kernel_rfl
theorem zl72 : zeroL? Try.prog 72 = some [.d (.raw (.pointer none))] := by kernel_rfl
theorem zd72 : zeroD? Try.prog 72 = some (.raw (.pointer none)) := by kernel_rfl
theorem sz77 : sizeTy Try.prog 77 1 = true := by kernel_rfl
theorem on77 : oneTy Try.prog 77 = true := by kernel_rfl
theorem zl77 : zeroL? Try.prog 77 = some [.d (.raw (.pointer none))] := by kernel_rfl
theorem zd77 : zeroD? Try.prog 77 = some (.raw (.pointer none)) := by kernel_rfl

end Go.Proofs.Ytnflcmpdaoobcaa
