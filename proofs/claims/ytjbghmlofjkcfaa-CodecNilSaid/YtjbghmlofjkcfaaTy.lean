/- What the walk wants of the types of this program. -/
import Derived.Test.YtjbghmlofjkcfaaRows
import Derived.Test.YtjbghmlofjkcfaaDraw5
import Derived.Test.YtjbghmlofjkcfaaBuild
namespace Go.Proofs.Ytjbghmlofjkcfaa
open Go.RowKit

theorem mixed : Try.prog.follows .mixedOrders = true := by kernel_rfl
theorem sz1 : sizeTy Try.prog 1 1 = true := by kernel_rfl
theorem on1 : oneTy Try.prog 1 = true := by kernel_rfl
theorem zl1 : zeroL? Try.prog 1 = some [.d (.raw .nilFunc)] := by kernel_rfl
theorem zd1 : zeroD? Try.prog 1 = some (.raw .nilFunc) := by kernel_rfl
theorem sz2 : sizeTy Try.prog 2 1 = true := by kernel_rfl
theorem on2 : oneTy Try.prog 2 = true := by kernel_rfl
theorem zl2 : zeroL? Try.prog 2 = some [.d (.raw (.int .i64 0))] := by kernel_rfl
theorem zd2 : zeroD? Try.prog 2 = some (.raw (.int .i64 0)) := by kernel_rfl
theorem sz3 : sizeTy Try.prog 3 1 = true := by kernel_rfl
theorem on3 : oneTy Try.prog 3 = true := by kernel_rfl
theorem zl3 : zeroL? Try.prog 3 = some [.d (.raw (.int .i64 0))] := by kernel_rfl
theorem zd3 : zeroD? Try.prog 3 = some (.raw (.int .i64 0)) := by kernel_rfl
theorem sz4 : sizeTy Try.prog 4 1 = true := by kernel_rfl
theorem on4 : oneTy Try.prog 4 = true := by kernel_rfl
theorem zl4 : zeroL? Try.prog 4 = some [.d (.raw (.bool false))] := by kernel_rfl
theorem zd4 : zeroD? Try.prog 4 = some (.raw (.bool false)) := by kernel_rfl
theorem sz5 : sizeTy Try.prog 5 1 = true := by kernel_rfl
theorem on5 : oneTy Try.prog 5 = true := by kernel_rfl
theorem zl5 : zeroL? Try.prog 5 = some [.d (.raw (.int .u8 0))] := by kernel_rfl
theorem zd5 : zeroD? Try.prog 5 = some (.raw (.int .u8 0)) := by kernel_rfl
theorem sz9 : sizeTy Try.prog 9 1 = true := by kernel_rfl
theorem on9 : oneTy Try.prog 9 = true := by kernel_rfl
theorem zl9 : zeroL? Try.prog 9 = some [.d (.raw (.string ⟨#[]⟩))] := by kernel_rfl
theorem zd9 : zeroD? Try.prog 9 = some (.raw (.string ⟨#[]⟩)) := by kernel_rfl
theorem sz12 : sizeTy Try.prog 12 1 = true := by kernel_rfl
theorem on12 : oneTy Try.prog 12 = true := by kernel_rfl
theorem zl12 : zeroL? Try.prog 12 = some [.d (.raw (.int .u64 0))] := by kernel_rfl
theorem zd12 : zeroD? Try.prog 12 = some (.raw (.int .u64 0)) := by kernel_rfl
theorem sz13 : sizeTy Try.prog 13 2 = true := by kernel_rfl
theorem rw13 : rowTy Try.prog 13 2 = true := by kernel_rfl
theorem fi13_0 : fieldInfo Try.prog 13 0 = some (0, 1, false) := by kernel_rfl
theorem fi13_1 : fieldInfo Try.prog 13 1 = some (1, 1, false) := by kernel_rfl
theorem pl13 : placesOf Try.prog 13 = some [(0, 1), (1, 1)] := by kernel_rfl
theorem zl13 : zeroL? Try.prog 13 = some [.d (.raw (.string ⟨#[]⟩)), .d (.raw (.int .u64 0))] := by kernel_rfl
theorem zd13 : zeroD? Try.prog 13 = some (.agg [.raw (.string ⟨#[]⟩), .raw (.int .u64 0)]) := by kernel_rfl
theorem sz19 : sizeTy Try.prog 19 1 = true := by kernel_rfl
theorem rw19 : rowTy Try.prog 19 1 = true := by kernel_rfl
theorem fi19_0 : fieldInfo Try.prog 19 0 = some (0, 1, false) := by kernel_rfl
theorem pl19 : placesOf Try.prog 19 = some [(0, 1)] := by kernel_rfl
theorem zl19 : zeroL? Try.prog 19 = some [.d (.raw (.pointer none))] := by kernel_rfl
theorem zd19 : zeroD? Try.prog 19 = some (.agg [.raw (.pointer none)]) := by kernel_rfl
theorem sz20 : sizeTy Try.prog 20 1 = true := by kernel_rfl
theorem on20 : oneTy Try.prog 20 = true := by kernel_rfl
theorem zl20 : zeroL? Try.prog 20 = some [.d (.raw .nilIface)] := by kernel_rfl
theorem zd20 : zeroD? Try.prog 20 = some (.raw .nilIface) := by kernel_rfl
theorem sz21 : sizeTy Try.prog 21 1 = true := by kernel_rfl
theorem on21 : oneTy Try.prog 21 = true := by kernel_rfl
theorem zl21 : zeroL? Try.prog 21 = some [.d (.raw (.int .i32 0))] := by kernel_rfl
theorem zd21 : zeroD? Try.prog 21 = some (.raw (.int .i32 0)) := by kernel_rfl
theorem sz22 : sizeTy Try.prog 22 1 = true := by kernel_rfl
theorem on22 : oneTy Try.prog 22 = true := by kernel_rfl
theorem zl22 : zeroL? Try.prog 22 = some [.d (.sl (some true) [])] := by kernel_rfl
theorem zd22 : zeroD? Try.prog 22 = some (.sl (some true) []) := by kernel_rfl
theorem sl22 : SlTy Try.prog 22 32 6 72 := slTy_of (by kernel_rfl)
theorem sz23 : sizeTy Try.prog 23 1 = true := by kernel_rfl
theorem on23 : oneTy Try.prog 23 = true := by kernel_rfl
theorem zl23 : zeroL? Try.prog 23 = some [.d (.raw .nilFunc)] := by kernel_rfl
theorem zd23 : zeroD? Try.prog 23 = some (.raw .nilFunc) := by kernel_rfl
theorem sz24 : sizeTy Try.prog 24 1 = true := by kernel_rfl
theorem on24 : oneTy Try.prog 24 = true := by kernel_rfl
theorem zl24 : zeroL? Try.prog 24 = some [.d (.raw .nilFunc)] := by kernel_rfl
theorem zd24 : zeroD? Try.prog 24 = some (.raw .nilFunc) := by kernel_rfl
theorem sz25 : sizeTy Try.prog 25 1 = true := by kernel_rfl
theorem on25 : oneTy Try.prog 25 = true := by kernel_rfl
theorem zl25 : zeroL? Try.prog 25 = some [.d (.raw (.pointer none))] := by kernel_rfl
theorem zd25 : zeroD? Try.prog 25 = some (.raw (.pointer none)) := by kernel_rfl
theorem sz26 : sizeTy Try.prog 26 1 = true := by kernel_rfl
theorem on26 : oneTy Try.prog 26 = true := by kernel_rfl
theorem zl26 : zeroL? Try.prog 26 = some [.d (.raw .nilFunc)] := by kernel_rfl
theorem zd26 : zeroD? Try.prog 26 = some (.raw .nilFunc) := by kernel_rfl
theorem sz27 : sizeTy Try.prog 27 1 = true := by kernel_rfl
theorem on27 : oneTy Try.prog 27 = true := by kernel_rfl
theorem zl27 : zeroL? Try.prog 27 = some [.d (.sl (some true) [])] := by kernel_rfl
theorem zd27 : zeroD? Try.prog 27 = some (.sl (some true) []) := by kernel_rfl
theorem sl27 : SlTy Try.prog 27 5 1 1 := slTy_of (by kernel_rfl)
theorem sz28 : sizeTy Try.prog 28 1 = true := by kernel_rfl
theorem on28 : oneTy Try.prog 28 = true := by kernel_rfl
theorem zl28 : zeroL? Try.prog 28 = some [.d (.raw .nilFunc)] := by kernel_rfl
theorem zd28 : zeroD? Try.prog 28 = some (.raw .nilFunc) := by kernel_rfl
theorem sz29 : sizeTy Try.prog 29 1 = true := by kernel_rfl
theorem on29 : oneTy Try.prog 29 = true := by kernel_rfl
theorem zl29 : zeroL? Try.prog 29 = some [.d (.raw (.int .u64 0))] := by kernel_rfl
theorem zd29 : zeroD? Try.prog 29 = some (.raw (.int .u64 0)) := by kernel_rfl
theorem sz30 : sizeTy Try.prog 30 1 = true := by kernel_rfl
theorem on30 : oneTy Try.prog 30 = true := by kernel_rfl
theorem zl30 : zeroL? Try.prog 30 = some [.d (.sl (some true) [])] := by kernel_rfl
theorem zd30 : zeroD? Try.prog 30 = some (.sl (some true) []) := by kernel_rfl
theorem sl30 : SlTy Try.prog 30 9 1 16 := slTy_of (by kernel_rfl)
theorem sz31 : sizeTy Try.prog 31 6 = true := by kernel_rfl
theorem rw31 : rowTy Try.prog 31 6 = true := by kernel_rfl
theorem fi31_0 : fieldInfo Try.prog 31 0 = some (0, 1, false) := by kernel_rfl
theorem fi31_1 : fieldInfo Try.prog 31 1 = some (1, 1, false) := by kernel_rfl
theorem fi31_2 : fieldInfo Try.prog 31 2 = some (2, 1, false) := by kernel_rfl
theorem fi31_3 : fieldInfo Try.prog 31 3 = some (3, 1, false) := by kernel_rfl
theorem fi31_4 : fieldInfo Try.prog 31 4 = some (4, 1, false) := by kernel_rfl
theorem fi31_5 : fieldInfo Try.prog 31 5 = some (5, 1, false) := by kernel_rfl
theorem pl31 : placesOf Try.prog 31 = some [(0, 1), (1, 1), (2, 1), (3, 1), (4, 1), (5, 1)] := by kernel_rfl
theorem zl31 : zeroL? Try.prog 31 = some [.d (.raw (.int .i64 0)), .d (.raw (.int .u64 0)), .d (.raw (.int .i64 0)), .d (.raw (.bool false)), .d (.raw (.string ⟨#[]⟩)), .d (.sl (some true) [])] := by kernel_rfl
theorem zd31 : zeroD? Try.prog 31 = some (.agg [.raw (.int .i64 0), .raw (.int .u64 0), .raw (.int .i64 0), .raw (.bool false), .raw (.string ⟨#[]⟩), .sl (some true) []]) := by kernel_rfl
theorem sz32 : sizeTy Try.prog 32 6 = true := by kernel_rfl
theorem rw32 : rowTy Try.prog 32 6 = true := by kernel_rfl
theorem fi32_0 : fieldInfo Try.prog 32 0 = some (0, 1, false) := by kernel_rfl
theorem fi32_1 : fieldInfo Try.prog 32 1 = some (1, 1, false) := by kernel_rfl
theorem fi32_2 : fieldInfo Try.prog 32 2 = some (2, 1, false) := by kernel_rfl
theorem fi32_3 : fieldInfo Try.prog 32 3 = some (3, 1, false) := by kernel_rfl
theorem fi32_4 : fieldInfo Try.prog 32 4 = some (4, 1, false) := by kernel_rfl
theorem fi32_5 : fieldInfo Try.prog 32 5 = some (5, 1, false) := by kernel_rfl
theorem pl32 : placesOf Try.prog 32 = some [(0, 1), (1, 1), (2, 1), (3, 1), (4, 1), (5, 1)] := by kernel_rfl
theorem zl32 : zeroL? Try.prog 32 = some [.d (.raw (.int .i64 0)), .d (.raw (.int .u64 0)), .d (.raw (.int .i64 0)), .d (.raw (.bool false)), .d (.raw (.string ⟨#[]⟩)), .d (.sl (some true) [])] := by kernel_rfl
theorem zd32 : zeroD? Try.prog 32 = some (.agg [.raw (.int .i64 0), .raw (.int .u64 0), .raw (.int .i64 0), .raw (.bool false), .raw (.string ⟨#[]⟩), .sl (some true) []]) := by kernel_rfl
theorem sz33 : sizeTy Try.prog 33 1 = true := by kernel_rfl
theorem on33 : oneTy Try.prog 33 = true := by kernel_rfl
theorem zl33 : zeroL? Try.prog 33 = some [.d (.raw .nilFunc)] := by kernel_rfl
theorem zd33 : zeroD? Try.prog 33 = some (.raw .nilFunc) := by kernel_rfl
theorem sz34 : sizeTy Try.prog 34 1 = true := by kernel_rfl
theorem on34 : oneTy Try.prog 34 = true := by kernel_rfl
theorem zl34 : zeroL? Try.prog 34 = some [.d (.raw .nilFunc)] := by kernel_rfl
theorem zd34 : zeroD? Try.prog 34 = some (.raw .nilFunc) := by kernel_rfl
theorem sz35 : sizeTy Try.prog 35 1 = true := by kernel_rfl
theorem on35 : oneTy Try.prog 35 = true := by kernel_rfl
theorem zl35 : zeroL? Try.prog 35 = some [.d (.raw .nilFunc)] := by kernel_rfl
theorem zd35 : zeroD? Try.prog 35 = some (.raw .nilFunc) := by kernel_rfl
theorem sz36 : sizeTy Try.prog 36 1 = true := by kernel_rfl
theorem on36 : oneTy Try.prog 36 = true := by kernel_rfl
theorem zl36 : zeroL? Try.prog 36 = some [.d (.raw .nilFunc)] := by kernel_rfl
theorem zd36 : zeroD? Try.prog 36 = some (.raw .nilFunc) := by kernel_rfl
theorem sz37 : sizeTy Try.prog 37 1 = true := by kernel_rfl
theorem on37 : oneTy Try.prog 37 = true := by kernel_rfl
theorem zl37 : zeroL? Try.prog 37 = some [.d (.raw .nilFunc)] := by kernel_rfl
theorem zd37 : zeroD? Try.prog 37 = some (.raw .nilFunc) := by kernel_rfl
theorem sz38 : sizeTy Try.prog 38 1 = true := by kernel_rfl
theorem on38 : oneTy Try.prog 38 = true := by kernel_rfl
theorem zl38 : zeroL? Try.prog 38 = some [.d (.raw (.int .i64 0))] := by kernel_rfl
theorem zd38 : zeroD? Try.prog 38 = some (.raw (.int .i64 0)) := by kernel_rfl
theorem sz39 : sizeTy Try.prog 39 1 = true := by kernel_rfl
theorem on39 : oneTy Try.prog 39 = true := by kernel_rfl
theorem zl39 : zeroL? Try.prog 39 = some [.d (.raw (.pointer none))] := by kernel_rfl
theorem zd39 : zeroD? Try.prog 39 = some (.raw (.pointer none)) := by kernel_rfl
theorem sz40 : sizeTy Try.prog 40 1 = true := by kernel_rfl
theorem on40 : oneTy Try.prog 40 = true := by kernel_rfl
theorem zl40 : zeroL? Try.prog 40 = some [.d (.raw .nilFunc)] := by kernel_rfl
theorem zd40 : zeroD? Try.prog 40 = some (.raw .nilFunc) := by kernel_rfl
theorem sz41 : sizeTy Try.prog 41 1 = true := by kernel_rfl
theorem on41 : oneTy Try.prog 41 = true := by kernel_rfl
theorem zl41 : zeroL? Try.prog 41 = some [.d (.raw .nilFunc)] := by kernel_rfl
theorem zd41 : zeroD? Try.prog 41 = some (.raw .nilFunc) := by kernel_rfl
theorem sz42 : sizeTy Try.prog 42 1 = true := by kernel_rfl
theorem on42 : oneTy Try.prog 42 = true := by kernel_rfl
theorem zl42 : zeroL? Try.prog 42 = some [.d (.raw .nilFunc)] := by kernel_rfl
theorem zd42 : zeroD? Try.prog 42 = some (.raw .nilFunc) := by kernel_rfl
theorem sz43 : sizeTy Try.prog 43 1 = true := by kernel_rfl
theorem on43 : oneTy Try.prog 43 = true := by kernel_rfl
theorem zl43 : zeroL? Try.prog 43 = some [.d (.raw .nilFunc)] := by kernel_rfl
theorem zd43 : zeroD? Try.prog 43 = some (.raw .nilFunc) := by kernel_rfl
theorem sz44 : sizeTy Try.prog 44 1 = true := by kernel_rfl
theorem on44 : oneTy Try.prog 44 = true := by kernel_rfl
theorem zl44 : zeroL? Try.prog 44 = some [.d (.raw .nilFunc)] := by kernel_rfl
theorem zd44 : zeroD? Try.prog 44 = some (.raw .nilFunc) := by kernel_rfl
theorem sz45 : sizeTy Try.prog 45 1 = true := by kernel_rfl
theorem on45 : oneTy Try.prog 45 = true := by kernel_rfl
theorem zl45 : zeroL? Try.prog 45 = some [.d (.raw .nilFunc)] := by kernel_rfl
theorem zd45 : zeroD? Try.prog 45 = some (.raw .nilFunc) := by kernel_rfl
theorem sz46 : sizeTy Try.prog 46 1 = true := by kernel_rfl
theorem on46 : oneTy Try.prog 46 = true := by kernel_rfl
theorem zl46 : zeroL? Try.prog 46 = some [.d (.raw .nilFunc)] := by kernel_rfl
theorem zd46 : zeroD? Try.prog 46 = some (.raw .nilFunc) := by kernel_rfl
theorem sz47 : sizeTy Try.prog 47 1 = true := by kernel_rfl
theorem on47 : oneTy Try.prog 47 = true := by kernel_rfl
theorem zl47 : zeroL? Try.prog 47 = some [.d (.raw (.int .u16 0))] := by kernel_rfl
theorem zd47 : zeroD? Try.prog 47 = some (.raw (.int .u16 0)) := by kernel_rfl
theorem sz48 : sizeTy Try.prog 48 1 = true := by kernel_rfl
theorem on48 : oneTy Try.prog 48 = true := by kernel_rfl
theorem zl48 : zeroL? Try.prog 48 = some [.d (.raw .nilFunc)] := by kernel_rfl
theorem zd48 : zeroD? Try.prog 48 = some (.raw .nilFunc) := by kernel_rfl
theorem sz49 : sizeTy Try.prog 49 1 = true := by kernel_rfl
theorem on49 : oneTy Try.prog 49 = true := by kernel_rfl
theorem zl49 : zeroL? Try.prog 49 = some [.d (.raw .nilFunc)] := by kernel_rfl
theorem zd49 : zeroD? Try.prog 49 = some (.raw .nilFunc) := by kernel_rfl
theorem sz50 : sizeTy Try.prog 50 1 = true := by kernel_rfl
theorem on50 : oneTy Try.prog 50 = true := by kernel_rfl
theorem zl50 : zeroL? Try.prog 50 = some [.d (.raw .nilFunc)] := by kernel_rfl
theorem zd50 : zeroD? Try.prog 50 = some (.raw .nilFunc) := by kernel_rfl
theorem sz51 : sizeTy Try.prog 51 1 = true := by kernel_rfl
theorem on51 : oneTy Try.prog 51 = true := by kernel_rfl
theorem zl51 : zeroL? Try.prog 51 = some [.d (.raw .nilFunc)] := by kernel_rfl
theorem zd51 : zeroD? Try.prog 51 = some (.raw .nilFunc) := by kernel_rfl
theorem sz52 : sizeTy Try.prog 52 1 = true := by kernel_rfl
theorem on52 : oneTy Try.prog 52 = true := by kernel_rfl
theorem zl52 : zeroL? Try.prog 52 = some [.d (.raw .nilFunc)] := by kernel_rfl
theorem zd52 : zeroD? Try.prog 52 = some (.raw .nilFunc) := by kernel_rfl
theorem sz53 : sizeTy Try.prog 53 1 = true := by kernel_rfl
theorem on53 : oneTy Try.prog 53 = true := by kernel_rfl
theorem zl53 : zeroL? Try.prog 53 = some [.d (.raw .nilFunc)] := by kernel_rfl
theorem zd53 : zeroD? Try.prog 53 = some (.raw .nilFunc) := by kernel_rfl
theorem sz54 : sizeTy Try.prog 54 1 = true := by kernel_rfl
theorem on54 : oneTy Try.prog 54 = true := by kernel_rfl
theorem zl54 : zeroL? Try.prog 54 = some [.d (.raw .nilFunc)] := by kernel_rfl
theorem zd54 : zeroD? Try.prog 54 = some (.raw .nilFunc) := by kernel_rfl
theorem sz55 : sizeTy Try.prog 55 1 = true := by kernel_rfl
theorem on55 : oneTy Try.prog 55 = true := by kernel_rfl
theorem zl55 : zeroL? Try.prog 55 = some [.d (.raw .nilFunc)] := by kernel_rfl
theorem zd55 : zeroD? Try.prog 55 = some (.raw .nilFunc) := by kernel_rfl
theorem sz57 : sizeTy Try.prog 57 1 = true := by kernel_rfl
theorem on57 : oneTy Try.prog 57 = true := by kernel_rfl
theorem zl57 : zeroL? Try.prog 57 = some [.d (.raw .nilFunc)] := by kernel_rfl
theorem zd57 : zeroD? Try.prog 57 = some (.raw .nilFunc) := by kernel_rfl
theorem sz58 : sizeTy Try.prog 58 1 = true := by kernel_rfl
theorem on58 : oneTy Try.prog 58 = true := by kernel_rfl
theorem zl58 : zeroL? Try.prog 58 = some [.d (.raw .nilFunc)] := by kernel_rfl
theorem zd58 : zeroD? Try.prog 58 = some (.raw .nilFunc) := by kernel_rfl
theorem sz59 : sizeTy Try.prog 59 1 = true := by kernel_rfl
theorem on59 : oneTy Try.prog 59 = true := by kernel_rfl
theorem zl59 : zeroL? Try.prog 59 = some [.d (.raw .nilFunc)] := by kernel_rfl
theorem zd59 : zeroD? Try.prog 59 = some (.raw .nilFunc) := by kernel_rfl
theorem sz60 : sizeTy Try.prog 60 1 = true := by kernel_rfl
theorem on60 : oneTy Try.prog 60 = true := by kernel_rfl
theorem zl60 : zeroL? Try.prog 60 = some [.d (.raw .nilFunc)] := by kernel_rfl
theorem zd60 : zeroD? Try.prog 60 = some (.raw .nilFunc) := by kernel_rfl
theorem sz61 : sizeTy Try.prog 61 1 = true := by kernel_rfl
theorem on61 : oneTy Try.prog 61 = true := by kernel_rfl
theorem zl61 : zeroL? Try.prog 61 = some [.d (.raw .nilFunc)] := by kernel_rfl
theorem zd61 : zeroD? Try.prog 61 = some (.raw .nilFunc) := by kernel_rfl
theorem sz62 : sizeTy Try.prog 62 1 = true := by kernel_rfl
theorem rw62 : rowTy Try.prog 62 1 = true := by kernel_rfl
theorem fi62_0 : fieldInfo Try.prog 62 0 = some (0, 1, false) := by kernel_rfl
theorem pl62 : placesOf Try.prog 62 = some [(0, 1)] := by kernel_rfl
theorem zl62 : zeroL? Try.prog 62 = some [.d (.sl (some true) [])] := by kernel_rfl
theorem zd62 : zeroD? Try.prog 62 = some (.agg [.sl (some true) []]) := by kernel_rfl
theorem sz63 : sizeTy Try.prog 63 1 = true := by kernel_rfl
theorem rw63 : rowTy Try.prog 63 1 = true := by kernel_rfl
theorem fi63_0 : fieldInfo Try.prog 63 0 = some (0, 1, false) := by kernel_rfl
theorem pl63 : placesOf Try.prog 63 = some [(0, 1)] := by kernel_rfl
theorem zl63 : zeroL? Try.prog 63 = some [.d (.sl (some true) [])] := by kernel_rfl
theorem zd63 : zeroD? Try.prog 63 = some (.agg [.sl (some true) []]) := by kernel_rfl
theorem sz64 : sizeTy Try.prog 64 3 = true := by kernel_rfl
theorem rw64 : rowTy Try.prog 64 3 = true := by kernel_rfl
theorem fi64_0 : fieldInfo Try.prog 64 0 = some (0, 1, false) := by kernel_rfl
theorem fi64_1 : fieldInfo Try.prog 64 1 = some (1, 1, false) := by kernel_rfl
theorem fi64_2 : fieldInfo Try.prog 64 2 = some (2, 1, false) := by kernel_rfl
theorem pl64 : placesOf Try.prog 64 = some [(0, 1), (1, 1), (2, 1)] := by kernel_rfl
theorem zl64 : zeroL? Try.prog 64 = some [.d (.sl (some true) []), .d (.raw (.int .i64 0)), .d (.raw (.int .i64 0))] := by kernel_rfl
theorem zd64 : zeroD? Try.prog 64 = some (.agg [.sl (some true) [], .raw (.int .i64 0), .raw (.int .i64 0)]) := by kernel_rfl
theorem sz65 : sizeTy Try.prog 65 3 = true := by kernel_rfl
theorem rw65 : rowTy Try.prog 65 3 = true := by kernel_rfl
theorem fi65_0 : fieldInfo Try.prog 65 0 = some (0, 1, false) := by kernel_rfl
theorem fi65_1 : fieldInfo Try.prog 65 1 = some (1, 1, false) := by kernel_rfl
theorem fi65_2 : fieldInfo Try.prog 65 2 = some (2, 1, false) := by kernel_rfl
theorem pl65 : placesOf Try.prog 65 = some [(0, 1), (1, 1), (2, 1)] := by kernel_rfl
theorem zl65 : zeroL? Try.prog 65 = some [.d (.sl (some true) []), .d (.raw (.int .i64 0)), .d (.raw (.int .i64 0))] := by kernel_rfl
theorem zd65 : zeroD? Try.prog 65 = some (.agg [.sl (some true) [], .raw (.int .i64 0), .raw (.int .i64 0)]) := by kernel_rfl
theorem sz66 : sizeTy Try.prog 66 1 = true := by kernel_rfl
theorem on66 : oneTy Try.prog 66 = true := by kernel_rfl
theorem zl66 : zeroL? Try.prog 66 = some [.d (.raw .nilFunc)] := by kernel_rfl
theorem zd66 : zeroD? Try.prog 66 = some (.raw .nilFunc) := by kernel_rfl
theorem sz67 : sizeTy Try.prog 67 1 = true := by kernel_rfl
theorem on67 : oneTy Try.prog 67 = true := by kernel_rfl
theorem zl67 : zeroL? Try.prog 67 = some [.d (.raw .nilFunc)] := by kernel_rfl
theorem zd67 : zeroD? Try.prog 67 = some (.raw .nilFunc) := by kernel_rfl
theorem sz68 : sizeTy Try.prog 68 1 = true := by kernel_rfl
theorem on68 : oneTy Try.prog 68 = true := by kernel_rfl
theorem zl68 : zeroL? Try.prog 68 = some [.d (.raw .nilFunc)] := by kernel_rfl
theorem zd68 : zeroD? Try.prog 68 = some (.raw .nilFunc) := by kernel_rfl
theorem sz69 : sizeTy Try.prog 69 1 = true := by kernel_rfl
theorem on69 : oneTy Try.prog 69 = true := by kernel_rfl
theorem zl69 : zeroL? Try.prog 69 = some [.d (.raw .nilFunc)] := by kernel_rfl
theorem zd69 : zeroD? Try.prog 69 = some (.raw .nilFunc) := by kernel_rfl
theorem sz70 : sizeTy Try.prog 70 1 = true := by kernel_rfl
theorem on70 : oneTy Try.prog 70 = true := by kernel_rfl
theorem zl70 : zeroL? Try.prog 70 = some [.d (.raw .nilFunc)] := by kernel_rfl
theorem zd70 : zeroD? Try.prog 70 = some (.raw .nilFunc) := by kernel_rfl
theorem sz71 : sizeTy Try.prog 71 1 = true := by kernel_rfl
theorem on71 : oneTy Try.prog 71 = true := by kernel_rfl
theorem zl71 : zeroL? Try.prog 71 = some [.d (.raw .nilFunc)] := by kernel_rfl
theorem zd71 : zeroD? Try.prog 71 = some (.raw .nilFunc) := by kernel_rfl
theorem sz72 : sizeTy Try.prog 72 1 = true := by kernel_rfl
theorem on72 : oneTy Try.prog 72 = true := by kernel_rfl
theorem zl72 : zeroL? Try.prog 72 = some [.d (.raw .nilFunc)] := by kernel_rfl
theorem zd72 : zeroD? Try.prog 72 = some (.raw .nilFunc) := by kernel_rfl
theorem sz73 : sizeTy Try.prog 73 1 = true := by kernel_rfl
theorem on73 : oneTy Try.prog 73 = true := by kernel_rfl
theorem zl73 : zeroL? Try.prog 73 = some [.d (.raw .nilFunc)] := by kernel_rfl
theorem zd73 : zeroD? Try.prog 73 = some (.raw .nilFunc) := by kernel_rfl
theorem sz74 : sizeTy Try.prog 74 1 = true := by kernel_rfl
theorem on74 : oneTy Try.prog 74 = true := by kernel_rfl
theorem zl74 : zeroL? Try.prog 74 = some [.d (.raw .nilFunc)] := by kernel_rfl
theorem zd74 : zeroD? Try.prog 74 = some (.raw .nilFunc) := by kernel_rfl
theorem sz75 : sizeTy Try.prog 75 1 = true := by kernel_rfl
theorem on75 : oneTy Try.prog 75 = true := by kernel_rfl
theorem zl75 : zeroL? Try.prog 75 = some [.d (.raw .nilFunc)] := by kernel_rfl
theorem zd75 : zeroD? Try.prog 75 = some (.raw .nilFunc) := by kernel_rfl
theorem sz76 : sizeTy Try.prog 76 1 = true := by kernel_rfl
theorem on76 : oneTy Try.prog 76 = true := by kernel_rfl
theorem zl76 : zeroL? Try.prog 76 = some [.d (.raw .nilFunc)] := by kernel_rfl
theorem zd76 : zeroD? Try.prog 76 = some (.raw .nilFunc) := by kernel_rfl
theorem sz77 : sizeTy Try.prog 77 1 = true := by kernel_rfl
theorem on77 : oneTy Try.prog 77 = true := by kernel_rfl
theorem zl77 : zeroL? Try.prog 77 = some [.d (.raw .nilFunc)] := by kernel_rfl
theorem zd77 : zeroD? Try.prog 77 = some (.raw .nilFunc) := by kernel_rfl
theorem sz78 : sizeTy Try.prog 78 1 = true := by kernel_rfl
theorem on78 : oneTy Try.prog 78 = true := by kernel_rfl
theorem zl78 : zeroL? Try.prog 78 = some [.d (.raw .nilFunc)] := by kernel_rfl
theorem zd78 : zeroD? Try.prog 78 = some (.raw .nilFunc) := by kernel_rfl
theorem sz80 : sizeTy Try.prog 80 1 = true := by kernel_rfl
theorem on80 : oneTy Try.prog 80 = true := by kernel_rfl
theorem zl80 : zeroL? Try.prog 80 = some [.d (.raw .nilFunc)] := by kernel_rfl
theorem zd80 : zeroD? Try.prog 80 = some (.raw .nilFunc) := by kernel_rfl
theorem sz81 : sizeTy Try.prog 81 1 = true := by kernel_rfl
theorem on81 : oneTy Try.prog 81 = true := by kernel_rfl
theorem zl81 : zeroL? Try.prog 81 = some [.d (.raw (.int .u64 0))] := by kernel_rfl
theorem zd81 : zeroD? Try.prog 81 = some (.raw (.int .u64 0)) := by kernel_rfl
theorem sz83 : sizeTy Try.prog 83 1 = true := by kernel_rfl
theorem on83 : oneTy Try.prog 83 = true := by kernel_rfl
theorem zl83 : zeroL? Try.prog 83 = some [.d (.raw .nilFunc)] := by kernel_rfl
theorem zd83 : zeroD? Try.prog 83 = some (.raw .nilFunc) := by kernel_rfl
theorem sz85 : sizeTy Try.prog 85 1 = true := by kernel_rfl
theorem on85 : oneTy Try.prog 85 = true := by kernel_rfl
theorem zl85 : zeroL? Try.prog 85 = some [.d (.raw .nilFunc)] := by kernel_rfl
theorem zd85 : zeroD? Try.prog 85 = some (.raw .nilFunc) := by kernel_rfl
theorem sz90 : sizeTy Try.prog 90 0 = true := by kernel_rfl
theorem rw90 : rowTy Try.prog 90 0 = true := by kernel_rfl
theorem zl90 : zeroL? Try.prog 90 = some [] := by kernel_rfl
theorem zd90 : zeroD? Try.prog 90 = some (.agg []) := by kernel_rfl
theorem sz91 : sizeTy Try.prog 91 0 = true := by kernel_rfl
theorem rw91 : rowTy Try.prog 91 0 = true := by kernel_rfl
theorem fi91_0 : fieldInfo Try.prog 91 0 = some (0, 0, true) := by kernel_rfl
theorem pl91 : placesOf Try.prog 91 = some [(0, 0)] := by kernel_rfl
theorem zl91 : zeroL? Try.prog 91 = some [] := by kernel_rfl
theorem zd91 : zeroD? Try.prog 91 = some (.agg []) := by kernel_rfl
theorem sz93 : sizeTy Try.prog 93 1 = true := by kernel_rfl
theorem on93 : oneTy Try.prog 93 = true := by kernel_rfl
theorem zl93 : zeroL? Try.prog 93 = some [.d (.raw (.int .u32 0))] := by kernel_rfl
theorem zd93 : zeroD? Try.prog 93 = some (.raw (.int .u32 0)) := by kernel_rfl
theorem sz96 : sizeTy Try.prog 96 1 = true := by kernel_rfl
theorem on96 : oneTy Try.prog 96 = true := by kernel_rfl
theorem zl96 : zeroL? Try.prog 96 = some [.d (.raw .nilFunc)] := by kernel_rfl
theorem zd96 : zeroD? Try.prog 96 = some (.raw .nilFunc) := by kernel_rfl
theorem sz97 : sizeTy Try.prog 97 1 = true := by kernel_rfl
theorem on97 : oneTy Try.prog 97 = true := by kernel_rfl
theorem zl97 : zeroL? Try.prog 97 = some [.d (.raw (.pointer none))] := by kernel_rfl
theorem zd97 : zeroD? Try.prog 97 = some (.raw (.pointer none)) := by kernel_rfl
theorem sz102 : sizeTy Try.prog 102 1 = true := by kernel_rfl
theorem on102 : oneTy Try.prog 102 = true := by kernel_rfl
theorem zl102 : zeroL? Try.prog 102 = some [.d (.raw (.pointer none))] := by kernel_rfl
theorem zd102 : zeroD? Try.prog 102 = some (.raw (.pointer none)) := by kernel_rfl

end Go.Proofs.Ytjbghmlofjkcfaa
