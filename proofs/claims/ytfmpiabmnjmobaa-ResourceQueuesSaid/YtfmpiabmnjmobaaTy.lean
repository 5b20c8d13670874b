/- What the walk wants of the types of this program. -/
import Derived.Test.YtfmpiabmnjmobaaRows
import Derived.Test.YtfmpiabmnjmobaaDraw
import Derived.Test.YtfmpiabmnjmobaaBuild
namespace Go.Proofs.Ytfmpiabmnjmobaa
open Go.RowKit

theorem mixed : Try.prog.follows .mixedOrders = true := by kernel_rfl
theorem sz1 : sizeTy Try.prog 1 1 = true := by kernel_rfl
theorem on1 : oneTy Try.prog 1 = true := by kernel_rfl
theorem zl1 : zeroL? Try.prog 1 = some [.d (.raw .nilFunc)] := by kernel_rfl
theorem zd1 : zeroD? Try.prog 1 = some (.raw .nilFunc) := by kernel_rfl
theorem sz2 : sizeTy Try.prog 2 1 = true := by kernel_rfl
theorem on2 : oneTy Try.prog 2 = true := by kernel_rfl
theorem zl2 : zeroL? Try.prog 2 = some [.d (.raw (.int .i64 0))] := by kernel_rfl
theorem zd2 : zeroD? Try.prog 2 = some (.raw (.int .i64 0)) := by kernel_rfl
theorem sz3 : sizeTy Try.prog 3 1 = true := by kernel_rfl
theorem on3 : oneTy Try.prog 3 = true := by kernel_rfl
theorem zl3 : zeroL? Try.prog 3 = some [.d (.raw (.int .i64 0))] := by kernel_rfl
theorem zd3 : zeroD? Try.prog 3 = some (.raw (.int .i64 0)) := by kernel_rfl
theorem sz4 : sizeTy Try.prog 4 1 = true := by kernel_rfl
theorem on4 : oneTy Try.prog 4 = true := by kernel_rfl
theorem zl4 : zeroL? Try.prog 4 = some [.d (.raw (.bool false))] := by kernel_rfl
theorem zd4 : zeroD? Try.prog 4 = some (.raw (.bool false)) := by kernel_rfl
theorem sz5 : sizeTy Try.prog 5 1 = true := by kernel_rfl
theorem on5 : oneTy Try.prog 5 = true := by kernel_rfl
theorem zl5 : zeroL? Try.prog 5 = some [.d (.raw (.int .u8 0))] := by kernel_rfl
theorem zd5 : zeroD? Try.prog 5 = some (.raw (.int .u8 0)) := by kernel_rfl
theorem sz9 : sizeTy Try.prog 9 1 = true := by kernel_rfl
theorem on9 : oneTy Try.prog 9 = true := by kernel_rfl
theorem zl9 : zeroL? Try.prog 9 = some [.d (.raw (.string ⟨#[]⟩))] := by kernel_rfl
theorem zd9 : zeroD? Try.prog 9 = some (.raw (.string ⟨#[]⟩)) := by kernel_rfl
theorem sz12 : sizeTy Try.prog 12 1 = true := by kernel_rfl
theorem on12 : oneTy Try.prog 12 = true := by kernel_rfl
theorem zl12 : zeroL? Try.prog 12 = some [.d (.raw (.int .u64 0))] := by kernel_rfl
theorem zd12 : zeroD? Try.prog 12 = some (.raw (.int .u64 0)) := by kernel_rfl
theorem sz13 : sizeTy Try.prog 13 2 = true := by kernel_rfl
theorem rw13 : rowTy Try.prog 13 2 = true := by kernel_rfl
theorem fi13_0 : fieldInfo Try.prog 13 0 = some (0, 1, false) := by kernel_rfl
theorem fi13_1 : fieldInfo Try.prog 13 1 = some (1, 1, false) := by kernel_rfl
theorem pl13 : placesOf Try.prog 13 = some [(0, 1), (1, 1)] := by kernel_rfl
theorem zl13 : zeroL? Try.prog 13 = some [.d (.raw (.string ⟨#[]⟩)), .d (.raw (.int .u64 0))] := by kernel_rfl
theorem zd13 : zeroD? Try.prog 13 = some (.agg [.raw (.string ⟨#[]⟩), .raw (.int .u64 0)]) := by kernel_rfl
theorem sz19 : sizeTy Try.prog 19 1 = true := by kernel_rfl
theorem rw19 : rowTy Try.prog 19 1 = true := by kernel_rfl
theorem fi19_0 : fieldInfo Try.prog 19 0 = some (0, 1, false) := by kernel_rfl
theorem pl19 : placesOf Try.prog 19 = some [(0, 1)] := by kernel_rfl
theorem zl19 : zeroL? Try.prog 19 = some [.d (.raw (.pointer none))] := by kernel_rfl
theorem zd19 : zeroD? Try.prog 19 = some (.agg [.raw (.pointer none)]) := by kernel_rfl
theorem sz20 : sizeTy Try.prog 20 1 = true := by kernel_rfl
theorem on20 : oneTy Try.prog 20 = true := by kernel_rfl
theorem zl20 : zeroL? Try.prog 20 = some [.d (.raw .nilIface)] := by kernel_rfl
theorem zd20 : zeroD? Try.prog 20 = some (.raw .nilIface) := by kernel_rfl
theorem sz21 : sizeTy Try.prog 21 1 = true := by kernel_rfl
theorem on21 : oneTy Try.prog 21 = true := by kernel_rfl
theorem zl21 : zeroL? Try.prog 21 = some [.d (.raw (.int .i32 0))] := by kernel_rfl
theorem zd21 : zeroD? Try.prog 21 = some (.raw (.int .i32 0)) := by kernel_rfl
theorem sz22 : sizeTy Try.prog 22 1 = true := by kernel_rfl
theorem on22 : oneTy Try.prog 22 = true := by kernel_rfl
theorem zl22 : zeroL? Try.prog 22 = some [.d (.sl (some true) [])] := by kernel_rfl
theorem zd22 : zeroD? Try.prog 22 = some (.sl (some true) []) := by kernel_rfl
theorem sl22 : SlTy Try.prog 22 104 4 48 := slTy_of (by kernel_rfl)
theorem sz23 : sizeTy Try.prog 23 1 = true := by kernel_rfl
theorem on23 : oneTy Try.prog 23 = true := by kernel_rfl
theorem zl23 : zeroL? Try.prog 23 = some [.d (.sl (some true) [])] := by kernel_rfl
theorem zd23 : zeroD? Try.prog 23 = some (.sl (some true) []) := by kernel_rfl
theorem sl23 : SlTy Try.prog 23 109 3 40 := slTy_of (by kernel_rfl)
theorem sz24 : sizeTy Try.prog 24 1 = true := by kernel_rfl
theorem on24 : oneTy Try.prog 24 = true := by kernel_rfl
theorem zl24 : zeroL? Try.prog 24 = some [.d (.sl (some true) [])] := by kernel_rfl
theorem zd24 : zeroD? Try.prog 24 = some (.sl (some true) []) := by kernel_rfl
theorem sl24 : SlTy Try.prog 24 3 1 8 := slTy_of (by kernel_rfl)
theorem sz25 : sizeTy Try.prog 25 6 = true := by kernel_rfl
theorem rw25 : rowTy Try.prog 25 6 = true := by kernel_rfl
theorem fi25_0 : fieldInfo Try.prog 25 0 = some (0, 1, false) := by kernel_rfl
theorem fi25_1 : fieldInfo Try.prog 25 1 = some (1, 1, false) := by kernel_rfl
theorem fi25_2 : fieldInfo Try.prog 25 2 = some (2, 1, false) := by kernel_rfl
theorem fi25_3 : fieldInfo Try.prog 25 3 = some (3, 1, false) := by kernel_rfl
theorem fi25_4 : fieldInfo Try.prog 25 4 = some (4, 1, false) := by kernel_rfl
theorem fi25_5 : fieldInfo Try.prog 25 5 = some (5, 1, false) := by kernel_rfl
theorem pl25 : placesOf Try.prog 25 = some [(0, 1), (1, 1), (2, 1), (3, 1), (4, 1), (5, 1)] := by kernel_rfl
theorem zl25 : zeroL? Try.prog 25 = some [.d (.raw (.int .i64 0)), .d (.raw (.int .i64 0)), .d (.raw (.int .i64 0)), .d (.sl (some true) []), .d (.sl (some true) []), .d (.sl (some true) [])] := by kernel_rfl
theorem zd25 : zeroD? Try.prog 25 = some (.agg [.raw (.int .i64 0), .raw (.int .i64 0), .raw (.int .i64 0), .sl (some true) [], .sl (some true) [], .sl (some true) []]) := by kernel_rfl
theorem sz26 : sizeTy Try.prog 26 6 = true := by kernel_rfl
theorem rw26 : rowTy Try.prog 26 6 = true := by kernel_rfl
theorem fi26_0 : fieldInfo Try.prog 26 0 = some (0, 1, false) := by kernel_rfl
theorem fi26_1 : fieldInfo Try.prog 26 1 = some (1, 1, false) := by kernel_rfl
theorem fi26_2 : fieldInfo Try.prog 26 2 = some (2, 1, false) := by kernel_rfl
theorem fi26_3 : fieldInfo Try.prog 26 3 = some (3, 1, false) := by kernel_rfl
theorem fi26_4 : fieldInfo Try.prog 26 4 = some (4, 1, false) := by kernel_rfl
theorem fi26_5 : fieldInfo Try.prog 26 5 = some (5, 1, false) := by kernel_rfl
theorem pl26 : placesOf Try.prog 26 = some [(0, 1), (1, 1), (2, 1), (3, 1), (4, 1), (5, 1)] := by kernel_rfl
theorem zl26 : zeroL? Try.prog 26 = some [.d (.raw (.int .i64 0)), .d (.raw (.int .i64 0)), .d (.raw (.int .i64 0)), .d (.sl (some true) []), .d (.sl (some true) []), .d (.sl (some true) [])] := by kernel_rfl
theorem zd26 : zeroD? Try.prog 26 = some (.agg [.raw (.int .i64 0), .raw (.int .i64 0), .raw (.int .i64 0), .sl (some true) [], .sl (some true) [], .sl (some true) []]) := by kernel_rfl
theorem sz27 : sizeTy Try.prog 27 1 = true := by kernel_rfl
theorem on27 : oneTy Try.prog 27 = true := by kernel_rfl
theorem zl27 : zeroL? Try.prog 27 = some [.d (.raw .nilFunc)] := by kernel_rfl
theorem zd27 : zeroD? Try.prog 27 = some (.raw .nilFunc) := by kernel_rfl
theorem sz28 : sizeTy Try.prog 28 1 = true := by kernel_rfl
theorem on28 : oneTy Try.prog 28 = true := by kernel_rfl
theorem zl28 : zeroL? Try.prog 28 = some [.d (.raw .nilFunc)] := by kernel_rfl
theorem zd28 : zeroD? Try.prog 28 = some (.raw .nilFunc) := by kernel_rfl
theorem sz29 : sizeTy Try.prog 29 1 = true := by kernel_rfl
theorem on29 : oneTy Try.prog 29 = true := by kernel_rfl
theorem zl29 : zeroL? Try.prog 29 = some [.d (.raw (.int .i64 0))] := by kernel_rfl
theorem zd29 : zeroD? Try.prog 29 = some (.raw (.int .i64 0)) := by kernel_rfl
theorem sz30 : sizeTy Try.prog 30 1 = true := by kernel_rfl
theorem on30 : oneTy Try.prog 30 = true := by kernel_rfl
theorem zl30 : zeroL? Try.prog 30 = some [.d (.sl (some true) [])] := by kernel_rfl
theorem zd30 : zeroD? Try.prog 30 = some (.sl (some true) []) := by kernel_rfl
theorem sl30 : SlTy Try.prog 30 106 4 48 := slTy_of (by kernel_rfl)
theorem sz31 : sizeTy Try.prog 31 1 = true := by kernel_rfl
theorem on31 : oneTy Try.prog 31 = true := by kernel_rfl
theorem zl31 : zeroL? Try.prog 31 = some [.d (.sl (some true) [])] := by kernel_rfl
theorem zd31 : zeroD? Try.prog 31 = some (.sl (some true) []) := by kernel_rfl
theorem sl31 : SlTy Try.prog 31 108 3 40 := slTy_of (by kernel_rfl)
theorem sz32 : sizeTy Try.prog 32 6 = true := by kernel_rfl
theorem rw32 : rowTy Try.prog 32 6 = true := by kernel_rfl
theorem fi32_0 : fieldInfo Try.prog 32 0 = some (0, 1, false) := by kernel_rfl
theorem fi32_1 : fieldInfo Try.prog 32 1 = some (1, 1, false) := by kernel_rfl
theorem fi32_2 : fieldInfo Try.prog 32 2 = some (2, 1, false) := by kernel_rfl
theorem fi32_3 : fieldInfo Try.prog 32 3 = some (3, 1, false) := by kernel_rfl
theorem fi32_4 : fieldInfo Try.prog 32 4 = some (4, 1, false) := by kernel_rfl
theorem fi32_5 : fieldInfo Try.prog 32 5 = some (5, 1, false) := by kernel_rfl
theorem pl32 : placesOf Try.prog 32 = some [(0, 1), (1, 1), (2, 1), (3, 1), (4, 1), (5, 1)] := by kernel_rfl
theorem zl32 : zeroL? Try.prog 32 = some [.d (.raw (.int .i64 0)), .d (.raw (.int .i64 0)), .d (.raw (.int .i64 0)), .d (.sl (some true) []), .d (.sl (some true) []), .d (.sl (some true) [])] := by kernel_rfl
theorem zd32 : zeroD? Try.prog 32 = some (.agg [.raw (.int .i64 0), .raw (.int .i64 0), .raw (.int .i64 0), .sl (some true) [], .sl (some true) [], .sl (some true) []]) := by kernel_rfl
theorem sz33 : sizeTy Try.prog 33 6 = true := by kernel_rfl
theorem rw33 : rowTy Try.prog 33 6 = true := by kernel_rfl
theorem fi33_0 : fieldInfo Try.prog 33 0 = some (0, 1, false) := by kernel_rfl
theorem fi33_1 : fieldInfo Try.prog 33 1 = some (1, 1, false) := by kernel_rfl
theorem fi33_2 : fieldInfo Try.prog 33 2 = some (2, 1, false) := by kernel_rfl
theorem fi33_3 : fieldInfo Try.prog 33 3 = some (3, 1, false) := by kernel_rfl
theorem fi33_4 : fieldInfo Try.prog 33 4 = some (4, 1, false) := by kernel_rfl
theorem fi33_5 : fieldInfo Try.prog 33 5 = some (5, 1, false) := by kernel_rfl
theorem pl33 : placesOf Try.prog 33 = some [(0, 1), (1, 1), (2, 1), (3, 1), (4, 1), (5, 1)] := by kernel_rfl
theorem zl33 : zeroL? Try.prog 33 = some [.d (.raw (.int .i64 0)), .d (.raw (.int .i64 0)), .d (.raw (.int .i64 0)), .d (.sl (some true) []), .d (.sl (some true) []), .d (.sl (some true) [])] := by kernel_rfl
theorem zd33 : zeroD? Try.prog 33 = some (.agg [.raw (.int .i64 0), .raw (.int .i64 0), .raw (.int .i64 0), .sl (some true) [], .sl (some true) [], .sl (some true) []]) := by kernel_rfl
theorem sz34 : sizeTy Try.prog 34 1 = true := by kernel_rfl
theorem on34 : oneTy Try.prog 34 = true := by kernel_rfl
theorem zl34 : zeroL? Try.prog 34 = some [.d (.raw .nilFunc)] := by kernel_rfl
theorem zd34 : zeroD? Try.prog 34 = some (.raw .nilFunc) := by kernel_rfl
theorem sz35 : sizeTy Try.prog 35 1 = true := by kernel_rfl
theorem on35 : oneTy Try.prog 35 = true := by kernel_rfl
theorem zl35 : zeroL? Try.prog 35 = some [.d (.raw .nilFunc)] := by kernel_rfl
theorem zd35 : zeroD? Try.prog 35 = some (.raw .nilFunc) := by kernel_rfl
theorem sz36 : sizeTy Try.prog 36 1 = true := by kernel_rfl
theorem on36 : oneTy Try.prog 36 = true := by kernel_rfl
theorem zl36 : zeroL? Try.prog 36 = some [.d (.raw .nilFunc)] := by kernel_rfl
theorem zd36 : zeroD? Try.prog 36 = some (.raw .nilFunc) := by kernel_rfl
theorem sz37 : sizeTy Try.prog 37 1 = true := by kernel_rfl
theorem on37 : oneTy Try.prog 37 = true := by kernel_rfl
theorem zl37 : zeroL? Try.prog 37 = some [.d (.sl (some true) [])] := by kernel_rfl
theorem zd37 : zeroD? Try.prog 37 = some (.sl (some true) []) := by kernel_rfl
theorem sl37 : SlTy Try.prog 37 45 7 88 := slTy_of (by kernel_rfl)
theorem sz39 : sizeTy Try.prog 39 1 = true := by kernel_rfl
theorem on39 : oneTy Try.prog 39 = true := by kernel_rfl
theorem zl39 : zeroL? Try.prog 39 = some [.d (.raw .nilFunc)] := by kernel_rfl
theorem zd39 : zeroD? Try.prog 39 = some (.raw .nilFunc) := by kernel_rfl
theorem sz40 : sizeTy Try.prog 40 3 = true := by kernel_rfl
theorem rw40 : rowTy Try.prog 40 3 = true := by kernel_rfl
theorem fi40_0 : fieldInfo Try.prog 40 0 = some (0, 1, false) := by kernel_rfl
theorem fi40_1 : fieldInfo Try.prog 40 1 = some (1, 1, false) := by kernel_rfl
theorem fi40_2 : fieldInfo Try.prog 40 2 = some (2, 1, false) := by kernel_rfl
theorem pl40 : placesOf Try.prog 40 = some [(0, 1), (1, 1), (2, 1)] := by kernel_rfl
theorem zl40 : zeroL? Try.prog 40 = some [.d (.raw (.string ⟨#[]⟩)), .d (.raw (.int .i64 0)), .d (.raw (.string ⟨#[]⟩))] := by kernel_rfl
theorem zd40 : zeroD? Try.prog 40 = some (.agg [.raw (.string ⟨#[]⟩), .raw (.int .i64 0), .raw (.string ⟨#[]⟩)]) := by kernel_rfl
theorem sz41 : sizeTy Try.prog 41 3 = true := by kernel_rfl
theorem rw41 : rowTy Try.prog 41 3 = true := by kernel_rfl
theorem fi41_0 : fieldInfo Try.prog 41 0 = some (0, 1, false) := by kernel_rfl
theorem fi41_1 : fieldInfo Try.prog 41 1 = some (1, 1, false) := by kernel_rfl
theorem fi41_2 : fieldInfo Try.prog 41 2 = some (2, 1, false) := by kernel_rfl
theorem pl41 : placesOf Try.prog 41 = some [(0, 1), (1, 1), (2, 1)] := by kernel_rfl
theorem zl41 : zeroL? Try.prog 41 = some [.d (.raw (.string ⟨#[]⟩)), .d (.raw (.int .i64 0)), .d (.raw (.string ⟨#[]⟩))] := by kernel_rfl
theorem zd41 : zeroD? Try.prog 41 = some (.agg [.raw (.string ⟨#[]⟩), .raw (.int .i64 0), .raw (.string ⟨#[]⟩)]) := by kernel_rfl
theorem sz42 : sizeTy Try.prog 42 6 = true := by kernel_rfl
theorem rw42 : rowTy Try.prog 42 6 = true := by kernel_rfl
theorem fi42_0 : fieldInfo Try.prog 42 0 = some (0, 1, false) := by kernel_rfl
theorem fi42_1 : fieldInfo Try.prog 42 1 = some (1, 3, true) := by kernel_rfl
theorem fi42_2 : fieldInfo Try.prog 42 2 = some (4, 1, false) := by kernel_rfl
theorem fi42_3 : fieldInfo Try.prog 42 3 = some (5, 1, false) := by kernel_rfl
theorem pl42 : placesOf Try.prog 42 = some [(0, 1), (1, 3), (4, 1), (5, 1)] := by kernel_rfl
theorem zl42 : zeroL? Try.prog 42 = some [.d (.raw (.int .i64 0)), .d (.raw (.string ⟨#[]⟩)), .d (.raw (.int .i64 0)), .d (.raw (.string ⟨#[]⟩)), .d (.raw (.string ⟨#[]⟩)), .d (.raw (.string ⟨#[]⟩))] := by kernel_rfl
theorem zd42 : zeroD? Try.prog 42 = some (.agg [.raw (.int .i64 0), .raw (.string ⟨#[]⟩), .raw (.int .i64 0), .raw (.string ⟨#[]⟩), .raw (.string ⟨#[]⟩), .raw (.string ⟨#[]⟩)]) := by kernel_rfl
theorem sz43 : sizeTy Try.prog 43 6 = true := by kernel_rfl
theorem rw43 : rowTy Try.prog 43 6 = true := by kernel_rfl
theorem fi43_0 : fieldInfo Try.prog 43 0 = some (0, 1, false) := by kernel_rfl
theorem fi43_1 : fieldInfo Try.prog 43 1 = some (1, 3, true) := by kernel_rfl
theorem fi43_2 : fieldInfo Try.prog 43 2 = some (4, 1, false) := by kernel_rfl
theorem fi43_3 : fieldInfo Try.prog 43 3 = some (5, 1, false) := by kernel_rfl
theorem pl43 : placesOf Try.prog 43 = some [(0, 1), (1, 3), (4, 1), (5, 1)] := by kernel_rfl
theorem zl43 : zeroL? Try.prog 43 = some [.d (.raw (.int .i64 0)), .d (.raw (.string ⟨#[]⟩)), .d (.raw (.int .i64 0)), .d (.raw (.string ⟨#[]⟩)), .d (.raw (.string ⟨#[]⟩)), .d (.raw (.string ⟨#[]⟩))] := by kernel_rfl
theorem zd43 : zeroD? Try.prog 43 = some (.agg [.raw (.int .i64 0), .raw (.string ⟨#[]⟩), .raw (.int .i64 0), .raw (.string ⟨#[]⟩), .raw (.string ⟨#[]⟩), .raw (.string ⟨#[]⟩)]) := by kernel_rfl
theorem sz44 : sizeTy Try.prog 44 7 = true := by kernel_rfl
theorem rw44 : rowTy Try.prog 44 7 = true := by kernel_rfl
theorem fi44_0 : fieldInfo Try.prog 44 0 = some (0, 6, true) := by kernel_rfl
theorem fi44_1 : fieldInfo Try.prog 44 1 = some (6, 1, false) := by kernel_rfl
theorem pl44 : placesOf Try.prog 44 = some [(0, 6), (6, 1)] := by kernel_rfl
theorem zl44 : zeroL? Try.prog 44 = some [.d (.raw (.int .i64 0)), .d (.raw (.string ⟨#[]⟩)), .d (.raw (.int .i64 0)), .d (.raw (.string ⟨#[]⟩)), .d (.raw (.string ⟨#[]⟩)), .d (.raw (.string ⟨#[]⟩)), .d (.raw (.int .i64 0))] := by kernel_rfl
theorem zd44 : zeroD? Try.prog 44 = some (.agg [.raw (.int .i64 0), .raw (.string ⟨#[]⟩), .raw (.int .i64 0), .raw (.string ⟨#[]⟩), .raw (.string ⟨#[]⟩), .raw (.string ⟨#[]⟩), .raw (.int .i64 0)]) := by kernel_rfl
theorem sz45 : sizeTy Try.prog 45 7 = true := by kernel_rfl
theorem rw45 : rowTy Try.prog 45 7 = true := by kernel_rfl
theorem fi45_0 : fieldInfo Try.prog 45 0 = some (0, 6, true) := by kernel_rfl
theorem fi45_1 : fieldInfo Try.prog 45 1 = some (6, 1, false) := by kernel_rfl
theorem pl45 : placesOf Try.prog 45 = some [(0, 6), (6, 1)] := by kernel_rfl
theorem zl45 : zeroL? Try.prog 45 = some [.d (.raw (.int .i64 0)), .d (.raw (.string ⟨#[]⟩)), .d (.raw (.int .i64 0)), .d (.raw (.string ⟨#[]⟩)), .d (.raw (.string ⟨#[]⟩)), .d (.raw (.string ⟨#[]⟩)), .d (.raw (.int .i64 0))] := by kernel_rfl
theorem zd45 : zeroD? Try.prog 45 = some (.agg [.raw (.int .i64 0), .raw (.string ⟨#[]⟩), .raw (.int .i64 0), .raw (.string ⟨#[]⟩), .raw (.string ⟨#[]⟩), .raw (.string ⟨#[]⟩), .raw (.int .i64 0)]) := by kernel_rfl
theorem sz46 : sizeTy Try.prog 46 3 = true := by kernel_rfl
theorem rw46 : rowTy Try.prog 46 3 = true := by kernel_rfl
theorem fi46_0 : fieldInfo Try.prog 46 0 = some (0, 1, false) := by kernel_rfl
theorem fi46_1 : fieldInfo Try.prog 46 1 = some (1, 1, false) := by kernel_rfl
theorem fi46_2 : fieldInfo Try.prog 46 2 = some (2, 1, false) := by kernel_rfl
theorem pl46 : placesOf Try.prog 46 = some [(0, 1), (1, 1), (2, 1)] := by kernel_rfl
theorem zl46 : zeroL? Try.prog 46 = some [.d (.raw (.string ⟨#[]⟩)), .d (.raw (.int .i64 0)), .d (.raw (.string ⟨#[]⟩))] := by kernel_rfl
theorem zd46 : zeroD? Try.prog 46 = some (.agg [.raw (.string ⟨#[]⟩), .raw (.int .i64 0), .raw (.string ⟨#[]⟩)]) := by kernel_rfl
theorem sz47 : sizeTy Try.prog 47 6 = true := by kernel_rfl
theorem rw47 : rowTy Try.prog 47 6 = true := by kernel_rfl
theorem fi47_0 : fieldInfo Try.prog 47 0 = some (0, 1, false) := by kernel_rfl
theorem fi47_1 : fieldInfo Try.prog 47 1 = some (1, 3, true) := by kernel_rfl
theorem fi47_2 : fieldInfo Try.prog 47 2 = some (4, 1, false) := by kernel_rfl
theorem fi47_3 : fieldInfo Try.prog 47 3 = some (5, 1, false) := by kernel_rfl
theorem pl47 : placesOf Try.prog 47 = some [(0, 1), (1, 3), (4, 1), (5, 1)] := by kernel_rfl
theorem zl47 : zeroL? Try.prog 47 = some [.d (.raw (.int .i64 0)), .d (.raw (.string ⟨#[]⟩)), .d (.raw (.int .i64 0)), .d (.raw (.string ⟨#[]⟩)), .d (.raw (.string ⟨#[]⟩)), .d (.raw (.string ⟨#[]⟩))] := by kernel_rfl
theorem zd47 : zeroD? Try.prog 47 = some (.agg [.raw (.int .i64 0), .raw (.string ⟨#[]⟩), .raw (.int .i64 0), .raw (.string ⟨#[]⟩), .raw (.string ⟨#[]⟩), .raw (.string ⟨#[]⟩)]) := by kernel_rfl
theorem sz48 : sizeTy Try.prog 48 6 = true := by kernel_rfl
theorem rw48 : rowTy Try.prog 48 6 = true := by kernel_rfl
theorem fi48_0 : fieldInfo Try.prog 48 0 = some (0, 1, false) := by kernel_rfl
theorem fi48_1 : fieldInfo Try.prog 48 1 = some (1, 3, true) := by kernel_rfl
theorem fi48_2 : fieldInfo Try.prog 48 2 = some (4, 1, false) := by kernel_rfl
theorem fi48_3 : fieldInfo Try.prog 48 3 = some (5, 1, false) := by kernel_rfl
theorem pl48 : placesOf Try.prog 48 = some [(0, 1), (1, 3), (4, 1), (5, 1)] := by kernel_rfl
theorem zl48 : zeroL? Try.prog 48 = some [.d (.raw (.int .i64 0)), .d (.raw (.string ⟨#[]⟩)), .d (.raw (.int .i64 0)), .d (.raw (.string ⟨#[]⟩)), .d (.raw (.string ⟨#[]⟩)), .d (.raw (.string ⟨#[]⟩))] := by kernel_rfl
theorem zd48 : zeroD? Try.prog 48 = some (.agg [.raw (.int .i64 0), .raw (.string ⟨#[]⟩), .raw (.int .i64 0), .raw (.string ⟨#[]⟩), .raw (.string ⟨#[]⟩), .raw (.string ⟨#[]⟩)]) := by kernel_rfl
theorem sz49 : sizeTy Try.prog 49 2 = true := by kernel_rfl
theorem rw49 : rowTy Try.prog 49 2 = true := by kernel_rfl
theorem zl49 : zeroL? Try.prog 49 = some [.d (.raw (.int .i64 0)), .d (.raw (.int .i64 0))] := by kernel_rfl
theorem zd49 : zeroD? Try.prog 49 = some (.agg [.raw (.int .i64 0), .raw (.int .i64 0)]) := by kernel_rfl
theorem sz50 : sizeTy Try.prog 50 1 = true := by kernel_rfl
theorem on50 : oneTy Try.prog 50 = true := by kernel_rfl
theorem zl50 : zeroL? Try.prog 50 = some [.d (.raw .nilFunc)] := by kernel_rfl
theorem zd50 : zeroD? Try.prog 50 = some (.raw .nilFunc) := by kernel_rfl
theorem sz51 : sizeTy Try.prog 51 1 = true := by kernel_rfl
theorem on51 : oneTy Try.prog 51 = true := by kernel_rfl
theorem zl51 : zeroL? Try.prog 51 = some [.d (.raw .nilFunc)] := by kernel_rfl
theorem zd51 : zeroD? Try.prog 51 = some (.raw .nilFunc) := by kernel_rfl
theorem sz52 : sizeTy Try.prog 52 1 = true := by kernel_rfl
theorem on52 : oneTy Try.prog 52 = true := by kernel_rfl
theorem zl52 : zeroL? Try.prog 52 = some [.d (.raw .nilFunc)] := by kernel_rfl
theorem zd52 : zeroD? Try.prog 52 = some (.raw .nilFunc) := by kernel_rfl
theorem sz53 : sizeTy Try.prog 53 1 = true := by kernel_rfl
theorem on53 : oneTy Try.prog 53 = true := by kernel_rfl
theorem zl53 : zeroL? Try.prog 53 = some [.d (.raw .nilFunc)] := by kernel_rfl
theorem zd53 : zeroD? Try.prog 53 = some (.raw .nilFunc) := by kernel_rfl
theorem sz54 : sizeTy Try.prog 54 1 = true := by kernel_rfl
theorem on54 : oneTy Try.prog 54 = true := by kernel_rfl
theorem zl54 : zeroL? Try.prog 54 = some [.d (.raw .nilFunc)] := by kernel_rfl
theorem zd54 : zeroD? Try.prog 54 = some (.raw .nilFunc) := by kernel_rfl
theorem sz55 : sizeTy Try.prog 55 1 = true := by kernel_rfl
theorem on55 : oneTy Try.prog 55 = true := by kernel_rfl
theorem zl55 : zeroL? Try.prog 55 = some [.d (.raw .nilFunc)] := by kernel_rfl
theorem zd55 : zeroD? Try.prog 55 = some (.raw .nilFunc) := by kernel_rfl
theorem sz56 : sizeTy Try.prog 56 1 = true := by kernel_rfl
theorem on56 : oneTy Try.prog 56 = true := by kernel_rfl
theorem zl56 : zeroL? Try.prog 56 = some [.d (.raw .nilFunc)] := by kernel_rfl
theorem zd56 : zeroD? Try.prog 56 = some (.raw .nilFunc) := by kernel_rfl
theorem sz57 : sizeTy Try.prog 57 1 = true := by kernel_rfl
theorem on57 : oneTy Try.prog 57 = true := by kernel_rfl
theorem zl57 : zeroL? Try.prog 57 = some [.d (.raw .nilFunc)] := by kernel_rfl
theorem zd57 : zeroD? Try.prog 57 = some (.raw .nilFunc) := by kernel_rfl
theorem sz58 : sizeTy Try.prog 58 1 = true := by kernel_rfl
theorem on58 : oneTy Try.prog 58 = true := by kernel_rfl
theorem zl58 : zeroL? Try.prog 58 = some [.d (.sl (some true) [])] := by kernel_rfl
theorem zd58 : zeroD? Try.prog 58 = some (.sl (some true) []) := by kernel_rfl
theorem sl58 : SlTy Try.prog 58 61 7 88 := slTy_of (by kernel_rfl)
theorem sz59 : sizeTy Try.prog 59 1 = true := by kernel_rfl
theorem on59 : oneTy Try.prog 59 = true := by kernel_rfl
theorem zl59 : zeroL? Try.prog 59 = some [.d (.raw .nilFunc)] := by kernel_rfl
theorem zd59 : zeroD? Try.prog 59 = some (.raw .nilFunc) := by kernel_rfl
theorem sz60 : sizeTy Try.prog 60 7 = true := by kernel_rfl
theorem rw60 : rowTy Try.prog 60 7 = true := by kernel_rfl
theorem fi60_0 : fieldInfo Try.prog 60 0 = some (0, 6, true) := by kernel_rfl
theorem fi60_1 : fieldInfo Try.prog 60 1 = some (6, 1, false) := by kernel_rfl
theorem pl60 : placesOf Try.prog 60 = some [(0, 6), (6, 1)] := by kernel_rfl
theorem zl60 : zeroL? Try.prog 60 = some [.d (.raw (.int .i64 0)), .d (.raw (.string ⟨#[]⟩)), .d (.raw (.int .i64 0)), .d (.raw (.string ⟨#[]⟩)), .d (.raw (.string ⟨#[]⟩)), .d (.raw (.string ⟨#[]⟩)), .d (.raw (.int .i64 0))] := by kernel_rfl
theorem zd60 : zeroD? Try.prog 60 = some (.agg [.raw (.int .i64 0), .raw (.string ⟨#[]⟩), .raw (.int .i64 0), .raw (.string ⟨#[]⟩), .raw (.string ⟨#[]⟩), .raw (.string ⟨#[]⟩), .raw (.int .i64 0)]) := by kernel_rfl
theorem sz61 : sizeTy Try.prog 61 7 = true := by kernel_rfl
theorem rw61 : rowTy Try.prog 61 7 = true := by kernel_rfl
theorem fi61_0 : fieldInfo Try.prog 61 0 = some (0, 6, true) := by kernel_rfl
theorem fi61_1 : fieldInfo Try.prog 61 1 = some (6, 1, false) := by kernel_rfl
theorem pl61 : placesOf Try.prog 61 = some [(0, 6), (6, 1)] := by kernel_rfl
theorem zl61 : zeroL? Try.prog 61 = some [.d (.raw (.int .i64 0)), .d (.raw (.string ⟨#[]⟩)), .d (.raw (.int .i64 0)), .d (.raw (.string ⟨#[]⟩)), .d (.raw (.string ⟨#[]⟩)), .d (.raw (.string ⟨#[]⟩)), .d (.raw (.int .i64 0))] := by kernel_rfl
theorem zd61 : zeroD? Try.prog 61 = some (.agg [.raw (.int .i64 0), .raw (.string ⟨#[]⟩), .raw (.int .i64 0), .raw (.string ⟨#[]⟩), .raw (.string ⟨#[]⟩), .raw (.string ⟨#[]⟩), .raw (.int .i64 0)]) := by kernel_rfl
theorem sz62 : sizeTy Try.prog 62 1 = true := by kernel_rfl
theorem on62 : oneTy Try.prog 62 = true := by kernel_rfl
theorem zl62 : zeroL? Try.prog 62 = some [.d (.raw .nilFunc)] := by kernel_rfl
theorem zd62 : zeroD? Try.prog 62 = some (.raw .nilFunc) := by kernel_rfl
theorem sz63 : sizeTy Try.prog 63 1 = true := by kernel_rfl
theorem on63 : oneTy Try.prog 63 = true := by kernel_rfl
theorem zl63 : zeroL? Try.prog 63 = some [.d (.raw .nilFunc)] := by kernel_rfl
theorem zd63 : zeroD? Try.prog 63 = some (.raw .nilFunc) := by kernel_rfl
theorem sz64 : sizeTy Try.prog 64 1 = true := by kernel_rfl
theorem on64 : oneTy Try.prog 64 = true := by kernel_rfl
theorem zl64 : zeroL? Try.prog 64 = some [.d (.raw .nilFunc)] := by kernel_rfl
theorem zd64 : zeroD? Try.prog 64 = some (.raw .nilFunc) := by kernel_rfl
theorem sz65 : sizeTy Try.prog 65 1 = true := by kernel_rfl
theorem on65 : oneTy Try.prog 65 = true := by kernel_rfl
theorem zl65 : zeroL? Try.prog 65 = some [.d (.sl (some true) [])] := by kernel_rfl
theorem zd65 : zeroD? Try.prog 65 = some (.sl (some true) []) := by kernel_rfl
theorem sl65 : SlTy Try.prog 65 26 6 96 := slTy_of (by kernel_rfl)
theorem sz66 : sizeTy Try.prog 66 2 = true := by kernel_rfl
theorem rw66 : rowTy Try.prog 66 2 = true := by kernel_rfl
theorem fi66_0 : fieldInfo Try.prog 66 0 = some (0, 1, false) := by kernel_rfl
theorem fi66_1 : fieldInfo Try.prog 66 1 = some (1, 1, false) := by kernel_rfl
theorem pl66 : placesOf Try.prog 66 = some [(0, 1), (1, 1)] := by kernel_rfl
theorem zl66 : zeroL? Try.prog 66 = some [.d (.sl (some true) []), .d (.sl (some true) [])] := by kernel_rfl
theorem zd66 : zeroD? Try.prog 66 = some (.agg [.sl (some true) [], .sl (some true) []]) := by kernel_rfl
theorem sz67 : sizeTy Try.prog 67 2 = true := by kernel_rfl
theorem rw67 : rowTy Try.prog 67 2 = true := by kernel_rfl
theorem fi67_0 : fieldInfo Try.prog 67 0 = some (0, 1, false) := by kernel_rfl
theorem fi67_1 : fieldInfo Try.prog 67 1 = some (1, 1, false) := by kernel_rfl
theorem pl67 : placesOf Try.prog 67 = some [(0, 1), (1, 1)] := by kernel_rfl
theorem zl67 : zeroL? Try.prog 67 = some [.d (.sl (some true) []), .d (.sl (some true) [])] := by kernel_rfl
theorem zd67 : zeroD? Try.prog 67 = some (.agg [.sl (some true) [], .sl (some true) []]) := by kernel_rfl
theorem sz68 : sizeTy Try.prog 68 1 = true := by kernel_rfl
theorem on68 : oneTy Try.prog 68 = true := by kernel_rfl
theorem zl68 : zeroL? Try.prog 68 = some [.d (.raw .nilFunc)] := by kernel_rfl
theorem zd68 : zeroD? Try.prog 68 = some (.raw .nilFunc) := by kernel_rfl
theorem sz69 : sizeTy Try.prog 69 1 = true := by kernel_rfl
theorem on69 : oneTy Try.prog 69 = true := by kernel_rfl
theorem zl69 : zeroL? Try.prog 69 = some [.d (.sl (some true) [])] := by kernel_rfl
theorem zd69 : zeroD? Try.prog 69 = some (.sl (some true) []) := by kernel_rfl
theorem sl69 : SlTy Try.prog 69 124 7 88 := slTy_of (by kernel_rfl)
theorem sz70 : sizeTy Try.prog 70 1 = true := by kernel_rfl
theorem on70 : oneTy Try.prog 70 = true := by kernel_rfl
theorem zl70 : zeroL? Try.prog 70 = some [.d (.sl (some true) [])] := by kernel_rfl
theorem zd70 : zeroD? Try.prog 70 = some (.sl (some true) []) := by kernel_rfl
theorem sl70 : SlTy Try.prog 70 33 6 96 := slTy_of (by kernel_rfl)
theorem sz71 : sizeTy Try.prog 71 2 = true := by kernel_rfl
theorem rw71 : rowTy Try.prog 71 2 = true := by kernel_rfl
theorem fi71_0 : fieldInfo Try.prog 71 0 = some (0, 1, false) := by kernel_rfl
theorem fi71_1 : fieldInfo Try.prog 71 1 = some (1, 1, false) := by kernel_rfl
theorem pl71 : placesOf Try.prog 71 = some [(0, 1), (1, 1)] := by kernel_rfl
theorem zl71 : zeroL? Try.prog 71 = some [.d (.sl (some true) []), .d (.sl (some true) [])] := by kernel_rfl
theorem zd71 : zeroD? Try.prog 71 = some (.agg [.sl (some true) [], .sl (some true) []]) := by kernel_rfl
theorem sz72 : sizeTy Try.prog 72 2 = true := by kernel_rfl
theorem rw72 : rowTy Try.prog 72 2 = true := by kernel_rfl
theorem fi72_0 : fieldInfo Try.prog 72 0 = some (0, 1, false) := by kernel_rfl
theorem fi72_1 : fieldInfo Try.prog 72 1 = some (1, 1, false) := by kernel_rfl
theorem pl72 : placesOf Try.prog 72 = some [(0, 1), (1, 1)] := by kernel_rfl
theorem zl72 : zeroL? Try.prog 72 = some [.d (.sl (some true) []), .d (.sl (some true) [])] := by kernel_rfl
theorem zd72 : zeroD? Try.prog 72 = some (.agg [.sl (some true) [], .sl (some true) []]) := by kernel_rfl
theorem sz73 : sizeTy Try.prog 73 1 = true := by kernel_rfl
theorem on73 : oneTy Try.prog 73 = true := by kernel_rfl
theorem zl73 : zeroL? Try.prog 73 = some [.d (.raw .nilFunc)] := by kernel_rfl
theorem zd73 : zeroD? Try.prog 73 = some (.raw .nilFunc) := by kernel_rfl
theorem sz74 : sizeTy Try.prog 74 1 = true := by kernel_rfl
theorem on74 : oneTy Try.prog 74 = true := by kernel_rfl
theorem zl74 : zeroL? Try.prog 74 = some [.d (.raw .nilFunc)] := by kernel_rfl
theorem zd74 : zeroD? Try.prog 74 = some (.raw .nilFunc) := by kernel_rfl
theorem sz75 : sizeTy Try.prog 75 1 = true := by kernel_rfl
theorem on75 : oneTy Try.prog 75 = true := by kernel_rfl
theorem zl75 : zeroL? Try.prog 75 = some [.d (.raw .nilFunc)] := by kernel_rfl
theorem zd75 : zeroD? Try.prog 75 = some (.raw .nilFunc) := by kernel_rfl
theorem sz76 : sizeTy Try.prog 76 1 = true := by kernel_rfl
theorem on76 : oneTy Try.prog 76 = true := by kernel_rfl
theorem zl76 : zeroL? Try.prog 76 = some [.d (.raw .nilFunc)] := by kernel_rfl
theorem zd76 : zeroD? Try.prog 76 = some (.raw .nilFunc) := by kernel_rfl
theorem sz78 : sizeTy Try.prog 78 1 = true := by kernel_rfl
theorem on78 : oneTy Try.prog 78 = true := by kernel_rfl
theorem zl78 : zeroL? Try.prog 78 = some [.d (.raw .nilFunc)] := by kernel_rfl
theorem zd78 : zeroD? Try.prog 78 = some (.raw .nilFunc) := by kernel_rfl
theorem sz80 : sizeTy Try.prog 80 1 = true := by kernel_rfl
theorem on80 : oneTy Try.prog 80 = true := by kernel_rfl
theorem zl80 : zeroL? Try.prog 80 = some [.d (.raw .nilFunc)] := by kernel_rfl
theorem zd80 : zeroD? Try.prog 80 = some (.raw .nilFunc) := by kernel_rfl
theorem sz81 : sizeTy Try.prog 81 1 = true := by kernel_rfl
theorem on81 : oneTy Try.prog 81 = true := by kernel_rfl
theorem zl81 : zeroL? Try.prog 81 = some [.d (.raw .nilFunc)] := by kernel_rfl
theorem zd81 : zeroD? Try.prog 81 = some (.raw .nilFunc) := by kernel_rfl
theorem sz82 : sizeTy Try.prog 82 1 = true := by kernel_rfl
theorem on82 : oneTy Try.prog 82 = true := by kernel_rfl
theorem zl82 : zeroL? Try.prog 82 = some [.d (.raw .nilFunc)] := by kernel_rfl
theorem zd82 : zeroD? Try.prog 82 = some (.raw .nilFunc) := by kernel_rfl
theorem sz83 : sizeTy Try.prog 83 1 = true := by kernel_rfl
theorem on83 : oneTy Try.prog 83 = true := by kernel_rfl
theorem zl83 : zeroL? Try.prog 83 = some [.d (.raw .nilFunc)] := by kernel_rfl
theorem zd83 : zeroD? Try.prog 83 = some (.raw .nilFunc) := by kernel_rfl
theorem sz84 : sizeTy Try.prog 84 1 = true := by kernel_rfl
theorem on84 : oneTy Try.prog 84 = true := by kernel_rfl
theorem zl84 : zeroL? Try.prog 84 = some [.d (.raw .nilFunc)] := by kernel_rfl
theorem zd84 : zeroD? Try.prog 84 = some (.raw .nilFunc) := by kernel_rfl
theorem sz85 : sizeTy Try.prog 85 1 = true := by kernel_rfl
theorem on85 : oneTy Try.prog 85 = true := by kernel_rfl
theorem zl85 : zeroL? Try.prog 85 = some [.d (.raw .nilFunc)] := by kernel_rfl
theorem zd85 : zeroD? Try.prog 85 = some (.raw .nilFunc) := by kernel_rfl
theorem sz86 : sizeTy Try.prog 86 1 = true := by kernel_rfl
theorem on86 : oneTy Try.prog 86 = true := by kernel_rfl
theorem zl86 : zeroL? Try.prog 86 = some [.d (.raw .nilFunc)] := by kernel_rfl
theorem zd86 : zeroD? Try.prog 86 = some (.raw .nilFunc) := by kernel_rfl
theorem sz88 : sizeTy Try.prog 88 1 = true := by kernel_rfl
theorem on88 : oneTy Try.prog 88 = true := by kernel_rfl
theorem zl88 : zeroL? Try.prog 88 = some [.d (.raw .nilFunc)] := by kernel_rfl
theorem zd88 : zeroD? Try.prog 88 = some (.raw .nilFunc) := by kernel_rfl
theorem sz90 : sizeTy Try.prog 90 1 = true := by kernel_rfl
theorem on90 : oneTy Try.prog 90 = true := by kernel_rfl
theorem zl90 : zeroL? Try.prog 90 = some [.d (.raw .nilFunc)] := by kernel_rfl
theorem zd90 : zeroD? Try.prog 90 = some (.raw .nilFunc) := by kernel_rfl
theorem sz91 : sizeTy Try.prog 91 1 = true := by kernel_rfl
theorem on91 : oneTy Try.prog 91 = true := by kernel_rfl
theorem zl91 : zeroL? Try.prog 91 = some [.d (.raw .nilFunc)] := by kernel_rfl
theorem zd91 : zeroD? Try.prog 91 = some (.raw .nilFunc) := by kernel_rfl
theorem sz93 : sizeTy Try.prog 93 1 = true := by kernel_rfl
theorem on93 : oneTy Try.prog 93 = true := by kernel_rfl
theorem zl93 : zeroL? Try.prog 93 = some [.d (.raw .nilFunc)] := by kernel_rfl
theorem zd93 : zeroD? Try.prog 93 = some (.raw .nilFunc) := by kernel_rfl
theorem sz95 : sizeTy Try.prog 95 1 = true := by kernel_rfl
theorem on95 : oneTy Try.prog 95 = true := by kernel_rfl
theorem zl95 : zeroL? Try.prog 95 = some [.d (.raw .nilFunc)] := by kernel_rfl
theorem zd95 : zeroD? Try.prog 95 = some (.raw .nilFunc) := by kernel_rfl
theorem sz96 : sizeTy Try.prog 96 1 = true := by kernel_rfl
theorem on96 : oneTy Try.prog 96 = true := by kernel_rfl
theorem zl96 : zeroL? Try.prog 96 = some [.d (.raw .nilFunc)] := by kernel_rfl
theorem zd96 : zeroD? Try.prog 96 = some (.raw .nilFunc) := by kernel_rfl
theorem sz97 : sizeTy Try.prog 97 1 = true := by kernel_rfl
theorem on97 : oneTy Try.prog 97 = true := by kernel_rfl
theorem zl97 : zeroL? Try.prog 97 = some [.d (.raw .nilFunc)] := by kernel_rfl
theorem zd97 : zeroD? Try.prog 97 = some (.raw .nilFunc) := by kernel_rfl
theorem sz98 : sizeTy Try.prog 98 1 = true := by kernel_rfl
theorem on98 : oneTy Try.prog 98 = true := by kernel_rfl
theorem zl98 : zeroL? Try.prog 98 = some [.d (.raw .nilFunc)] := by kernel_rfl
theorem zd98 : zeroD? Try.prog 98 = some (.raw .nilFunc) := by kernel_rfl
theorem sz99 : sizeTy Try.prog 99 1 = true := by kernel_rfl
theorem on99 : oneTy Try.prog 99 = true := by kernel_rfl
theorem zl99 : zeroL? Try.prog 99 = some [.d (.raw .nilFunc)] := by kernel_rfl
theorem zd99 : zeroD? Try.prog 99 = some (.raw .nilFunc) := by kernel_rfl
theorem sz100 : sizeTy Try.prog 100 1 = true := by kernel_rfl
theorem on100 : oneTy Try.prog 100 = true := by kernel_rfl
theorem zl100 : zeroL? Try.prog 100 = some [.d (.sl (some true) [])] := by kernel_rfl
theorem zd100 : zeroD? Try.prog 100 = some (.sl (some true) []) := by kernel_rfl
theorem sl100 : SlTy Try.prog 100 5 1 1 := slTy_of (by kernel_rfl)
theorem sz101 : sizeTy Try.prog 101 1 = true := by kernel_rfl
theorem on101 : oneTy Try.prog 101 = true := by kernel_rfl
theorem zl101 : zeroL? Try.prog 101 = some [.d (.raw .nilFunc)] := by kernel_rfl
theorem zd101 : zeroD? Try.prog 101 = some (.raw .nilFunc) := by kernel_rfl
theorem sz102 : sizeTy Try.prog 102 1 = true := by kernel_rfl
theorem on102 : oneTy Try.prog 102 = true := by kernel_rfl
theorem zl102 : zeroL? Try.prog 102 = some [.d (.raw .nilFunc)] := by kernel_rfl
theorem zd102 : zeroD? Try.prog 102 = some (.raw .nilFunc) := by kernel_rfl
theorem sz103 : sizeTy Try.prog 103 4 = true := by kernel_rfl
theorem rw103 : rowTy Try.prog 103 4 = true := by kernel_rfl
theorem fi103_0 : fieldInfo Try.prog 103 0 = some (0, 3, true) := by kernel_rfl
theorem fi103_1 : fieldInfo Try.prog 103 1 = some (3, 1, false) := by kernel_rfl
theorem pl103 : placesOf Try.prog 103 = some [(0, 3), (3, 1)] := by kernel_rfl
theorem zl103 : zeroL? Try.prog 103 = some [.d (.raw (.string ⟨#[]⟩)), .d (.raw (.int .i64 0)), .d (.raw (.string ⟨#[]⟩)), .d (.raw (.int .i64 0))] := by kernel_rfl
theorem zd103 : zeroD? Try.prog 103 = some (.agg [.raw (.string ⟨#[]⟩), .raw (.int .i64 0), .raw (.string ⟨#[]⟩), .raw (.int .i64 0)]) := by kernel_rfl
theorem sz104 : sizeTy Try.prog 104 4 = true := by kernel_rfl
theorem rw104 : rowTy Try.prog 104 4 = true := by kernel_rfl
theorem fi104_0 : fieldInfo Try.prog 104 0 = some (0, 3, true) := by kernel_rfl
theorem fi104_1 : fieldInfo Try.prog 104 1 = some (3, 1, false) := by kernel_rfl
theorem pl104 : placesOf Try.prog 104 = some [(0, 3), (3, 1)] := by kernel_rfl
theorem zl104 : zeroL? Try.prog 104 = some [.d (.raw (.string ⟨#[]⟩)), .d (.raw (.int .i64 0)), .d (.raw (.string ⟨#[]⟩)), .d (.raw (.int .i64 0))] := by kernel_rfl
theorem zd104 : zeroD? Try.prog 104 = some (.agg [.raw (.string ⟨#[]⟩), .raw (.int .i64 0), .raw (.string ⟨#[]⟩), .raw (.int .i64 0)]) := by kernel_rfl
theorem sz105 : sizeTy Try.prog 105 4 = true := by kernel_rfl
theorem rw105 : rowTy Try.prog 105 4 = true := by kernel_rfl
theorem fi105_0 : fieldInfo Try.prog 105 0 = some (0, 3, true) := by kernel_rfl
theorem fi105_1 : fieldInfo Try.prog 105 1 = some (3, 1, false) := by kernel_rfl
theorem pl105 : placesOf Try.prog 105 = some [(0, 3), (3, 1)] := by kernel_rfl
theorem zl105 : zeroL? Try.prog 105 = some [.d (.raw (.string ⟨#[]⟩)), .d (.raw (.int .i64 0)), .d (.raw (.string ⟨#[]⟩)), .d (.raw (.int .i64 0))] := by kernel_rfl
theorem zd105 : zeroD? Try.prog 105 = some (.agg [.raw (.string ⟨#[]⟩), .raw (.int .i64 0), .raw (.string ⟨#[]⟩), .raw (.int .i64 0)]) := by kernel_rfl
theorem sz106 : sizeTy Try.prog 106 4 = true := by kernel_rfl
theorem rw106 : rowTy Try.prog 106 4 = true := by kernel_rfl
theorem fi106_0 : fieldInfo Try.prog 106 0 = some (0, 3, true) := by kernel_rfl
theorem fi106_1 : fieldInfo Try.prog 106 1 = some (3, 1, false) := by kernel_rfl
theorem pl106 : placesOf Try.prog 106 = some [(0, 3), (3, 1)] := by kernel_rfl
theorem zl106 : zeroL? Try.prog 106 = some [.d (.raw (.string ⟨#[]⟩)), .d (.raw (.int .i64 0)), .d (.raw (.string ⟨#[]⟩)), .d (.raw (.int .i64 0))] := by kernel_rfl
theorem zd106 : zeroD? Try.prog 106 = some (.agg [.raw (.string ⟨#[]⟩), .raw (.int .i64 0), .raw (.string ⟨#[]⟩), .raw (.int .i64 0)]) := by kernel_rfl
theorem sz107 : sizeTy Try.prog 107 3 = true := by kernel_rfl
theorem rw107 : rowTy Try.prog 107 3 = true := by kernel_rfl
theorem fi107_0 : fieldInfo Try.prog 107 0 = some (0, 1, false) := by kernel_rfl
theorem fi107_1 : fieldInfo Try.prog 107 1 = some (1, 1, false) := by kernel_rfl
theorem fi107_2 : fieldInfo Try.prog 107 2 = some (2, 1, false) := by kernel_rfl
theorem pl107 : placesOf Try.prog 107 = some [(0, 1), (1, 1), (2, 1)] := by kernel_rfl
theorem zl107 : zeroL? Try.prog 107 = some [.d (.raw (.string ⟨#[]⟩)), .d (.raw (.string ⟨#[]⟩)), .d (.raw (.int .i64 0))] := by kernel_rfl
theorem zd107 : zeroD? Try.prog 107 = some (.agg [.raw (.string ⟨#[]⟩), .raw (.string ⟨#[]⟩), .raw (.int .i64 0)]) := by kernel_rfl
theorem sz108 : sizeTy Try.prog 108 3 = true := by kernel_rfl
theorem rw108 : rowTy Try.prog 108 3 = true := by kernel_rfl
theorem fi108_0 : fieldInfo Try.prog 108 0 = some (0, 1, false) := by kernel_rfl
theorem fi108_1 : fieldInfo Try.prog 108 1 = some (1, 1, false) := by kernel_rfl
theorem fi108_2 : fieldInfo Try.prog 108 2 = some (2, 1, false) := by kernel_rfl
theorem pl108 : placesOf Try.prog 108 = some [(0, 1), (1, 1), (2, 1)] := by kernel_rfl
theorem zl108 : zeroL? Try.prog 108 = some [.d (.raw (.string ⟨#[]⟩)), .d (.raw (.string ⟨#[]⟩)), .d (.raw (.int .i64 0))] := by kernel_rfl
theorem zd108 : zeroD? Try.prog 108 = some (.agg [.raw (.string ⟨#[]⟩), .raw (.string ⟨#[]⟩), .raw (.int .i64 0)]) := by kernel_rfl
theorem sz109 : sizeTy Try.prog 109 3 = true := by kernel_rfl
theorem rw109 : rowTy Try.prog 109 3 = true := by kernel_rfl
theorem fi109_0 : fieldInfo Try.prog 109 0 = some (0, 1, false) := by kernel_rfl
theorem fi109_1 : fieldInfo Try.prog 109 1 = some (1, 1, false) := by kernel_rfl
theorem fi109_2 : fieldInfo Try.prog 109 2 = some (2, 1, false) := by kernel_rfl
theorem pl109 : placesOf Try.prog 109 = some [(0, 1), (1, 1), (2, 1)] := by kernel_rfl
theorem zl109 : zeroL? Try.prog 109 = some [.d (.raw (.string ⟨#[]⟩)), .d (.raw (.string ⟨#[]⟩)), .d (.raw (.int .i64 0))] := by kernel_rfl
theorem zd109 : zeroD? Try.prog 109 = some (.agg [.raw (.string ⟨#[]⟩), .raw (.string ⟨#[]⟩), .raw (.int .i64 0)]) := by kernel_rfl
theorem sz110 : sizeTy Try.prog 110 1 = true := by kernel_rfl
theorem on110 : oneTy Try.prog 110 = true := by kernel_rfl
theorem zl110 : zeroL? Try.prog 110 = some [.d (.raw .nilFunc)] := by kernel_rfl
theorem zd110 : zeroD? Try.prog 110 = some (.raw .nilFunc) := by kernel_rfl
theorem sz111 : sizeTy Try.prog 111 1 = true := by kernel_rfl
theorem on111 : oneTy Try.prog 111 = true := by kernel_rfl
theorem zl111 : zeroL? Try.prog 111 = some [.d (.sl (some true) [])] := by kernel_rfl
theorem zd111 : zeroD? Try.prog 111 = some (.sl (some true) []) := by kernel_rfl
theorem sl111 : SlTy Try.prog 111 35 1 8 := slTy_of (by kernel_rfl)
theorem sz112 : sizeTy Try.prog 112 1 = true := by kernel_rfl
theorem on112 : oneTy Try.prog 112 = true := by kernel_rfl
theorem zl112 : zeroL? Try.prog 112 = some [.d (.raw .nilFunc)] := by kernel_rfl
theorem zd112 : zeroD? Try.prog 112 = some (.raw .nilFunc) := by kernel_rfl
theorem sz113 : sizeTy Try.prog 113 1 = true := by kernel_rfl
theorem on113 : oneTy Try.prog 113 = true := by kernel_rfl
theorem zl113 : zeroL? Try.prog 113 = some [.d (.sl (some true) [])] := by kernel_rfl
theorem zd113 : zeroD? Try.prog 113 = some (.sl (some true) []) := by kernel_rfl
theorem sl113 : SlTy Try.prog 113 48 6 80 := slTy_of (by kernel_rfl)
theorem sz114 : sizeTy Try.prog 114 1 = true := by kernel_rfl
theorem on114 : oneTy Try.prog 114 = true := by kernel_rfl
theorem zl114 : zeroL? Try.prog 114 = some [.d (.raw .nilFunc)] := by kernel_rfl
theorem zd114 : zeroD? Try.prog 114 = some (.raw .nilFunc) := by kernel_rfl
theorem sz115 : sizeTy Try.prog 115 1 = true := by kernel_rfl
theorem on115 : oneTy Try.prog 115 = true := by kernel_rfl
theorem zl115 : zeroL? Try.prog 115 = some [.d (.raw (.map none))] := by kernel_rfl
theorem zd115 : zeroD? Try.prog 115 = some (.raw (.map none)) := by kernel_rfl
theorem sz116 : sizeTy Try.prog 116 1 = true := by kernel_rfl
theorem on116 : oneTy Try.prog 116 = true := by kernel_rfl
theorem zl116 : zeroL? Try.prog 116 = some [.d (.raw .nilFunc)] := by kernel_rfl
theorem zd116 : zeroD? Try.prog 116 = some (.raw .nilFunc) := by kernel_rfl
theorem sz117 : sizeTy Try.prog 117 1 = true := by kernel_rfl
theorem on117 : oneTy Try.prog 117 = true := by kernel_rfl
theorem zl117 : zeroL? Try.prog 117 = some [.d (.raw .nilFunc)] := by kernel_rfl
theorem zd117 : zeroD? Try.prog 117 = some (.raw .nilFunc) := by kernel_rfl
theorem sz118 : sizeTy Try.prog 118 1 = true := by kernel_rfl
theorem on118 : oneTy Try.prog 118 = true := by kernel_rfl
theorem zl118 : zeroL? Try.prog 118 = some [.d (.raw .nilFunc)] := by kernel_rfl
theorem zd118 : zeroD? Try.prog 118 = some (.raw .nilFunc) := by kernel_rfl
theorem sz119 : sizeTy Try.prog 119 1 = true := by kernel_rfl
theorem on119 : oneTy Try.prog 119 = true := by kernel_rfl
theorem zl119 : zeroL? Try.prog 119 = some [.d (.raw .nilFunc)] := by kernel_rfl
theorem zd119 : zeroD? Try.prog 119 = some (.raw .nilFunc) := by kernel_rfl
theorem sz120 : sizeTy Try.prog 120 1 = true := by kernel_rfl
theorem on120 : oneTy Try.prog 120 = true := by kernel_rfl
theorem zl120 : zeroL? Try.prog 120 = some [.d (.raw .nilFunc)] := by kernel_rfl
theorem zd120 : zeroD? Try.prog 120 = some (.raw .nilFunc) := by kernel_rfl
theorem sz121 : sizeTy Try.prog 121 1 = true := by kernel_rfl
theorem on121 : oneTy Try.prog 121 = true := by kernel_rfl
theorem zl121 : zeroL? Try.prog 121 = some [.d (.raw .nilFunc)] := by kernel_rfl
theorem zd121 : zeroD? Try.prog 121 = some (.raw .nilFunc) := by kernel_rfl
theorem sz122 : sizeTy Try.prog 122 1 = true := by kernel_rfl
theorem on122 : oneTy Try.prog 122 = true := by kernel_rfl
theorem zl122 : zeroL? Try.prog 122 = some [.d (.raw .nilFunc)] := by kernel_rfl
theorem zd122 : zeroD? Try.prog 122 = some (.raw .nilFunc) := by kernel_rfl
theorem sz123 : sizeTy Try.prog 123 1 = true := by kernel_rfl
theorem on123 : oneTy Try.prog 123 = true := by kernel_rfl
theorem zl123 : zeroL? Try.prog 123 = some [.d (.raw .nilFunc)] := by kernel_rfl
theorem zd123 : zeroD? Try.prog 123 = some (.raw .nilFunc) := by kernel_rfl
theorem sz124 : sizeTy Try.prog 124 7 = true := by kernel_rfl
theorem rw124 : rowTy Try.prog 124 7 = true := by kernel_rfl
theorem fi124_0 : fieldInfo Try.prog 124 0 = some (0, 6, true) := by kernel_rfl
theorem fi124_1 : fieldInfo Try.prog 124 1 = some (6, 1, false) := by kernel_rfl
theorem pl124 : placesOf Try.prog 124 = some [(0, 6), (6, 1)] := by kernel_rfl
theorem zl124 : zeroL? Try.prog 124 = some [.d (.raw (.int .i64 0)), .d (.raw (.string ⟨#[]⟩)), .d (.raw (.int .i64 0)), .d (.raw (.string ⟨#[]⟩)), .d (.raw (.string ⟨#[]⟩)), .d (.raw (.string ⟨#[]⟩)), .d (.raw (.int .i64 0))] := by kernel_rfl
theorem zd124 : zeroD? Try.prog 124 = some (.agg [.raw (.int .i64 0), .raw (.string ⟨#[]⟩), .raw (.int .i64 0), .raw (.string ⟨#[]⟩), .raw (.string ⟨#[]⟩), .raw (.string ⟨#[]⟩), .raw (.int .i64 0)]) := by kernel_rfl
theorem sz125 : sizeTy Try.prog 125 1 = true := by kernel_rfl
theorem on125 : oneTy Try.prog 125 = true := by kernel_rfl
theorem zl125 : zeroL? Try.prog 125 = some [.d (.raw (.map none))] := by kernel_rfl
theorem zd125 : zeroD? Try.prog 125 = some (.raw (.map none)) := by kernel_rfl
theorem sz126 : sizeTy Try.prog 126 1 = true := by kernel_rfl
theorem on126 : oneTy Try.prog 126 = true := by kernel_rfl
theorem zl126 : zeroL? Try.prog 126 = some [.d (.raw .nilFunc)] := by kernel_rfl
theorem zd126 : zeroD? Try.prog 126 = some (.raw .nilFunc) := by kernel_rfl
theorem sz127 : sizeTy Try.prog 127 1 = true := by kernel_rfl
theorem on127 : oneTy Try.prog 127 = true := by kernel_rfl
theorem zl127 : zeroL? Try.prog 127 = some [.d (.raw .nilFunc)] := by kernel_rfl
theorem zd127 : zeroD? Try.prog 127 = some (.raw .nilFunc) := by kernel_rfl
theorem sz128 : sizeTy Try.prog 128 1 = true := by kernel_rfl
theorem on128 : oneTy Try.prog 128 = true := by kernel_rfl
theorem zl128 : zeroL? Try.prog 128 = some [.d (.raw .nilFunc)] := by kernel_rfl
theorem zd128 : zeroD? Try.prog 128 = some (.raw .nilFunc) := by kernel_rfl
theorem sz130 : sizeTy Try.prog 130 1 = true := by kernel_rfl
theorem on130 : oneTy Try.prog 130 = true := by kernel_rfl
theorem zl130 : zeroL? Try.prog 130 = some [.d (.raw .nilFunc)] := by kernel_rfl
theorem zd130 : zeroD? Try.prog 130 = some (.raw .nilFunc) := by kernel_rfl
theorem sz131 : sizeTy Try.prog 131 1 = true := by kernel_rfl
theorem on131 : oneTy Try.prog 131 = true := by kernel_rfl
theorem zl131 : zeroL? Try.prog 131 = some [.d (.raw .nilFunc)] := by kernel_rfl
theorem zd131 : zeroD? Try.prog 131 = some (.raw .nilFunc) := by kernel_rfl
theorem sz132 : sizeTy Try.prog 132 1 = true := by kernel_rfl
theorem on132 : oneTy Try.prog 132 = true := by kernel_rfl
theorem zl132 : zeroL? Try.prog 132 = some [.d (.raw .nilFunc)] := by kernel_rfl
theorem zd132 : zeroD? Try.prog 132 = some (.raw .nilFunc) := by kernel_rfl
theorem sz133 : sizeTy Try.prog 133 1 = true := by kernel_rfl
theorem on133 : oneTy Try.prog 133 = true := by kernel_rfl
theorem zl133 : zeroL? Try.prog 133 = some [.d (.raw .nilFunc)] := by kernel_rfl
theorem zd133 : zeroD? Try.prog 133 = some (.raw .nilFunc) := by kernel_rfl
theorem sz134 : sizeTy Try.prog 134 1 = true := by kernel_rfl
theorem on134 : oneTy Try.prog 134 = true := by kernel_rfl
theorem zl134 : zeroL? Try.prog 134 = some [.d (.raw .nilFunc)] := by kernel_rfl
theorem zd134 : zeroD? Try.prog 134 = some (.raw .nilFunc) := by kernel_rfl
theorem sz135 : sizeTy Try.prog 135 1 = true := by kernel_rfl
theorem on135 : oneTy Try.prog 135 = true := by kernel_rfl
theorem zl135 : zeroL? Try.prog 135 = some [.d (.raw .nilFunc)] := by kernel_rfl
theorem zd135 : zeroD? Try.prog 135 = some (.raw .nilFunc) := by kernel_rfl
theorem sz136 : sizeTy Try.prog 136 1 = true := by kernel_rfl
theorem on136 : oneTy Try.prog 136 = true := by kernel_rfl
theorem zl136 : zeroL? Try.prog 136 = some [.d (.raw .nilFunc)] := by kernel_rfl
theorem zd136 : zeroD? Try.prog 136 = some (.raw .nilFunc) := by kernel_rfl
theorem sz137 : sizeTy Try.prog 137 1 = true := by kernel_rfl
theorem on137 : oneTy Try.prog 137 = true := by kernel_rfl
theorem zl137 : zeroL? Try.prog 137 = some [.d (.raw .nilFunc)] := by kernel_rfl
theorem zd137 : zeroD? Try.prog 137 = some (.raw .nilFunc) := by kernel_rfl
theorem sz138 : sizeTy Try.prog 138 1 = true := by kernel_rfl
theorem on138 : oneTy Try.prog 138 = true := by kernel_rfl
theorem zl138 : zeroL? Try.prog 138 = some [.d (.raw .nilFunc)] := by kernel_rfl
theorem zd138 : zeroD? Try.prog 138 = some (.raw .nilFunc) := by kernel_rfl
theorem sz139 : sizeTy Try.prog 139 1 = true := by kernel_rfl
theorem on139 : oneTy Try.prog 139 = true := by kernel_rfl
theorem zl139 : zeroL? Try.prog 139 = some [.d (.raw .nilFunc)] := by kernel_rfl
theorem zd139 : zeroD? Try.prog 139 = some (.raw .nilFunc) := by kernel_rfl
theorem sz140 : sizeTy Try.prog 140 1 = true := by kernel_rfl
theorem on140 : oneTy Try.prog 140 = true := by kernel_rfl
theorem zl140 : zeroL? Try.prog 140 = some [.d (.raw (.map none))] := by kernel_rfl
theorem zd140 : zeroD? Try.prog 140 = some (.raw (.map none)) := by kernel_rfl
theorem sz141 : sizeTy Try.prog 141 1 = true := by kernel_rfl
theorem on141 : oneTy Try.prog 141 = true := by kernel_rfl
theorem zl141 : zeroL? Try.prog 141 = some [.d (.raw .nilFunc)] := by kernel_rfl
theorem zd141 : zeroD? Try.prog 141 = some (.raw .nilFunc) := by kernel_rfl
theorem sz142 : sizeTy Try.prog 142 1 = true := by kernel_rfl
theorem on142 : oneTy Try.prog 142 = true := by kernel_rfl
theorem zl142 : zeroL? Try.prog 142 = some [.d (.raw .nilFunc)] := by kernel_rfl
theorem zd142 : zeroD? Try.prog 142 = some (.raw .nilFunc) := by kernel_rfl
theorem sz143 : sizeTy Try.prog 143 1 = true := by kernel_rfl
theorem on143 : oneTy Try.prog 143 = true := by kernel_rfl
theorem zl143 : zeroL? Try.prog 143 = some [.d (.raw .nilFunc)] := by kernel_rfl
theorem zd143 : zeroD? Try.prog 143 = some (.raw .nilFunc) := by kernel_rfl
theorem sz144 : sizeTy Try.prog 144 1 = true := by kernel_rfl
theorem on144 : oneTy Try.prog 144 = true := by kernel_rfl
theorem zl144 : zeroL? Try.prog 144 = some [.d (.raw (.int .u64 0))] := by kernel_rfl
theorem zd144 : zeroD? Try.prog 144 = some (.raw (.int .u64 0)) := by kernel_rfl
theorem sz145 : sizeTy Try.prog 145 1 = true := by kernel_rfl
theorem on145 : oneTy Try.prog 145 = true := by kernel_rfl
theorem zl145 : zeroL? Try.prog 145 = some [.d (.raw .nilFunc)] := by kernel_rfl
theorem zd145 : zeroD? Try.prog 145 = some (.raw .nilFunc) := by kernel_rfl
theorem sz146 : sizeTy Try.prog 146 1 = true := by kernel_rfl
theorem on146 : oneTy Try.prog 146 = true := by kernel_rfl
theorem zl146 : zeroL? Try.prog 146 = some [.d (.raw (.map none))] := by kernel_rfl
theorem zd146 : zeroD? Try.prog 146 = some (.raw (.map none)) := by kernel_rfl
theorem sz147 : sizeTy Try.prog 147 1 = true := by kernel_rfl
theorem on147 : oneTy Try.prog 147 = true := by kernel_rfl
theorem zl147 : zeroL? Try.prog 147 = some [.d (.raw .nilFunc)] := by kernel_rfl
theorem zd147 : zeroD? Try.prog 147 = some (.raw .nilFunc) := by kernel_rfl
theorem sz148 : sizeTy Try.prog 148 1 = true := by kernel_rfl
theorem on148 : oneTy Try.prog 148 = true := by kernel_rfl
theorem zl148 : zeroL? Try.prog 148 = some [.d (.raw .nilFunc)] := by kernel_rfl
theorem zd148 : zeroD? Try.prog 148 = some (.raw .nilFunc) := by kernel_rfl
theorem sz149 : sizeTy Try.prog 149 1 = true := by kernel_rfl
theorem on149 : oneTy Try.prog 149 = true := by kernel_rfl
theorem zl149 : zeroL? Try.prog 149 = some [.d (.raw .nilFunc)] := by kernel_rfl
theorem zd149 : zeroD? Try.prog 149 = some (.raw .nilFunc) := by kernel_rfl
theorem sz150 : sizeTy Try.prog 150 1 = true := by kernel_rfl
theorem on150 : oneTy Try.prog 150 = true := by kernel_rfl
theorem zl150 : zeroL? Try.prog 150 = some [.d (.raw .nilFunc)] := by kernel_rfl
theorem zd150 : zeroD? Try.prog 150 = some (.raw .nilFunc) := by kernel_rfl
theorem sz151 : sizeTy Try.prog 151 1 = true := by kernel_rfl
theorem on151 : oneTy Try.prog 151 = true := by kernel_rfl
theorem zl151 : zeroL? Try.prog 151 = some [.d (.raw .nilFunc)] := by kernel_rfl
theorem zd151 : zeroD? Try.prog 151 = some (.raw .nilFunc) := by kernel_rfl
theorem sz152 : sizeTy Try.prog 152 1 = true := by kernel_rfl
theorem on152 : oneTy Try.prog 152 = true := by kernel_rfl
theorem zl152 : zeroL? Try.prog 152 = some [.d (.raw .nilFunc)] := by kernel_rfl
theorem zd152 : zeroD? Try.prog 152 = some (.raw .nilFunc) := by kernel_rfl
theorem sz153 : sizeTy Try.prog 153 1 = true := by kernel_rfl
theorem on153 : oneTy Try.prog 153 = true := by kernel_rfl
theorem zl153 : zeroL? Try.prog 153 = some [.d (.raw .nilFunc)] := by kernel_rfl
theorem zd153 : zeroD? Try.prog 153 = some (.raw .nilFunc) := by kernel_rfl
theorem sz154 : sizeTy Try.prog 154 1 = true := by kernel_rfl
theorem on154 : oneTy Try.prog 154 = true := by kernel_rfl
theorem zl154 : zeroL? Try.prog 154 = some [.d (.raw .nilFunc)] := by kernel_rfl
theorem zd154 : zeroD? Try.prog 154 = some (.raw .nilFunc) := by kernel_rfl
theorem sz155 : sizeTy Try.prog 155 1 = true := by kernel_rfl
theorem on155 : oneTy Try.prog 155 = true := by kernel_rfl
theorem zl155 : zeroL? Try.prog 155 = some [.d (.raw .nilFunc)] := by kernel_rfl
theorem zd155 : zeroD? Try.prog 155 = some (.raw .nilFunc) := by kernel_rfl
theorem sz156 : sizeTy Try.prog 156 1 = true := by kernel_rfl
theorem on156 : oneTy Try.prog 156 = true := by kernel_rfl
theorem zl156 : zeroL? Try.prog 156 = some [.d (.raw .nilFunc)] := by kernel_rfl
theorem zd156 : zeroD? Try.prog 156 = some (.raw .nilFunc) := by kernel_rfl
theorem sz157 : sizeTy Try.prog 157 1 = true := by kernel_rfl
theorem on157 : oneTy Try.prog 157 = true := by kernel_rfl
theorem zl157 : zeroL? Try.prog 157 = some [.d (.raw .nilFunc)] := by kernel_rfl
theorem zd157 : zeroD? Try.prog 157 = some (.raw .nilFunc) := by kernel_rfl
theorem sz158 : sizeTy Try.prog 158 1 = true := by kernel_rfl
theorem on158 : oneTy Try.prog 158 = true := by kernel_rfl
theorem zl158 : zeroL? Try.prog 158 = some [.d (.raw (.int .i64 0))] := by kernel_rfl
theorem zd158 : zeroD? Try.prog 158 = some (.raw (.int .i64 0)) := by kernel_rfl
theorem sz160 : sizeTy Try.prog 160 1 = true := by kernel_rfl
theorem on160 : oneTy Try.prog 160 = true := by kernel_rfl
theorem zl160 : zeroL? Try.prog 160 = some [.d (.raw .nilFunc)] := by kernel_rfl
theorem zd160 : zeroD? Try.prog 160 = some (.raw .nilFunc) := by kernel_rfl
theorem sz161 : sizeTy Try.prog 161 1 = true := by kernel_rfl
theorem on161 : oneTy Try.prog 161 = true := by kernel_rfl
theorem zl161 : zeroL? Try.prog 161 = some [.d (.raw .nilFunc)] := by kernel_rfl
theorem zd161 : zeroD? Try.prog 161 = some (.raw .nilFunc) := by kernel_rfl
theorem sz162 : sizeTy Try.prog 162 1 = true := by kernel_rfl
theorem on162 : oneTy Try.prog 162 = true := by kernel_rfl
theorem zl162 : zeroL? Try.prog 162 = some [.d (.raw .nilFunc)] := by kernel_rfl
theorem zd162 : zeroD? Try.prog 162 = some (.raw .nilFunc) := by kernel_rfl
theorem sz164 : sizeTy Try.prog 164 1 = true := by kernel_rfl
theorem on164 : oneTy Try.prog 164 = true := by kernel_rfl
theorem zl164 : zeroL? Try.prog 164 = some [.d (.raw .nilFunc)] := by kernel_rfl
theorem zd164 : zeroD? Try.prog 164 = some (.raw .nilFunc) := by kernel_rfl
theorem sz165 : sizeTy Try.prog 165 1 = true := by kernel_rfl
theorem on165 : oneTy Try.prog 165 = true := by kernel_rfl
theorem zl165 : zeroL? Try.prog 165 = some [.d (.raw .nilFunc)] := by kernel_rfl
theorem zd165 : zeroD? Try.prog 165 = some (.raw .nilFunc) := by kernel_rfl
theorem sz166 : sizeTy Try.prog 166 1 = true := by kernel_rfl
theorem on166 : oneTy Try.prog 166 = true := by kernel_rfl
theorem zl166 : zeroL? Try.prog 166 = some [.d (.raw (.int .u32 0))] := by kernel_rfl
theorem zd166 : zeroD? Try.prog 166 = some (.raw (.int .u32 0)) := by kernel_rfl
theorem sz167 : sizeTy Try.prog 167 1 = true := by kernel_rfl
theorem on167 : oneTy Try.prog 167 = true := by kernel_rfl
theorem zl167 : zeroL? Try.prog 167 = some [.d (.raw .nilFunc)] := by kernel_rfl
theorem zd167 : zeroD? Try.prog 167 = some (.raw .nilFunc) := by kernel_rfl
theorem sz168 : sizeTy Try.prog 168 1 = true := by kernel_rfl
theorem on168 : oneTy Try.prog 168 = true := by kernel_rfl
theorem zl168 : zeroL? Try.prog 168 = some [.d (.raw (.int .u64 0))] := by kernel_rfl
theorem zd168 : zeroD? Try.prog 168 = some (.raw (.int .u64 0)) := by kernel_rfl
theorem sz169 : sizeTy Try.prog 169 1 = true := by kernel_rfl
theorem on169 : oneTy Try.prog 169 = true := by kernel_rfl
theorem zl169 : zeroL? Try.prog 169 = some [.d (.raw .nilFunc)] := by kernel_rfl
theorem zd169 : zeroD? Try.prog 169 = some (.raw .nilFunc) := by kernel_rfl
theorem sz170 : sizeTy Try.prog 170 1 = true := by kernel_rfl
theorem on170 : oneTy Try.prog 170 = true := by kernel_rfl
theorem zl170 : zeroL? Try.prog 170 = some [.d (.raw .nilFunc)] := by kernel_rfl
theorem zd170 : zeroD? Try.prog 170 = some (.raw .nilFunc) := by kernel_rfl
theorem sz171 : sizeTy Try.prog 171 1 = true := by kernel_rfl
theorem on171 : oneTy Try.prog 171 = true := by kernel_rfl
theorem zl171 : zeroL? Try.prog 171 = some [.d (.raw .nilFunc)] := by kernel_rfl
theorem zd171 : zeroD? Try.prog 171 = some (.raw .nilFunc) := by kernel_rfl
theorem sz172 : sizeTy Try.prog 172 1 = true := by kernel_rfl
theorem on172 : oneTy Try.prog 172 = true := by kernel_rfl
theorem zl172 : zeroL? Try.prog 172 = some [.d (.raw (.int .u64 0))] := by kernel_rfl
theorem zd172 : zeroD? Try.prog 172 = some (.raw (.int .u64 0)) := by kernel_rfl
theorem sz173 : sizeTy Try.prog 173 1 = true := by kernel_rfl
theorem on173 : oneTy Try.prog 173 = true := by kernel_rfl
theorem zl173 : zeroL? Try.prog 173 = some [.d (.raw .nilFunc)] := by kernel_rfl
theorem zd173 : zeroD? Try.prog 173 = some (.raw .nilFunc) := by kernel_rfl
theorem sz174 : sizeTy Try.prog 174 1 = true := by kernel_rfl
theorem on174 : oneTy Try.prog 174 = true := by kernel_rfl
theorem zl174 : zeroL? Try.prog 174 = some [.d (.raw .nilFunc)] := by kernel_rfl
theorem zd174 : zeroD? Try.prog 174 = some (.raw .nilFunc) := by kernel_rfl
theorem sz175 : sizeTy Try.prog 175 1 = true := by kernel_rfl
theorem on175 : oneTy Try.prog 175 = true := by kernel_rfl
theorem zl175 : zeroL? Try.prog 175 = some [.d (.raw .nilFunc)] := by kernel_rfl
theorem zd175 : zeroD? Try.prog 175 = some (.raw .nilFunc) := by kernel_rfl
theorem sz176 : sizeTy Try.prog 176 1 = true := by kernel_rfl
theorem on176 : oneTy Try.prog 176 = true := by kernel_rfl
theorem zl176 : zeroL? Try.prog 176 = some [.d (.raw (.pointer none))] := by kernel_rfl
theorem zd176 : zeroD? Try.prog 176 = some (.raw (.pointer none)) := by kernel_rfl
theorem sz177 : sizeTy Try.prog 177 1 = true := by kernel_rfl
theorem on177 : oneTy Try.prog 177 = true := by kernel_rfl
theorem zl177 : zeroL? Try.prog 177 = some [.d (.raw .nilFunc)] := by kernel_rfl
theorem zd177 : zeroD? Try.prog 177 = some (.raw .nilFunc) := by kernel_rfl
theorem sz178 : sizeTy Try.prog 178 1 = true := by kernel_rfl
theorem on178 : oneTy Try.prog 178 = true := by kernel_rfl
theorem zl178 : zeroL? Try.prog 178 = some [.d (.raw .nilFunc)] := by kernel_rfl
theorem zd178 : zeroD? Try.prog 178 = some (.raw .nilFunc) := by kernel_rfl
theorem sz179 : sizeTy Try.prog 179 1 = true := by kernel_rfl
theorem on179 : oneTy Try.prog 179 = true := by kernel_rfl
theorem zl179 : zeroL? Try.prog 179 = some [.d (.raw .nilFunc)] := by kernel_rfl
theorem zd179 : zeroD? Try.prog 179 = some (.raw .nilFunc) := by kernel_rfl
theorem sz180 : sizeTy Try.prog 180 1 = true := by kernel_rfl
theorem on180 : oneTy Try.prog 180 = true := by kernel_rfl
theorem zl180 : zeroL? Try.prog 180 = some [.d (.raw (.pointer none))] := by kernel_rfl
theorem zd180 : zeroD? Try.prog 180 = some (.raw (.pointer none)) := by kernel_rfl
theorem sz182 : sizeTy Try.prog 182 1 = true := by kernel_rfl
theorem on182 : oneTy Try.prog 182 = true := by kernel_rfl
theorem zl182 : zeroL? Try.prog 182 = some [.d (.raw .nilFunc)] := by kernel_rfl
theorem zd182 : zeroD? Try.prog 182 = some (.raw .nilFunc) := by kernel_rfl
theorem sz183 : sizeTy Try.prog 183 1 = true := by kernel_rfl
theorem on183 : oneTy Try.prog 183 = true := by kernel_rfl
theorem zl183 : zeroL? Try.prog 183 = some [.d (.raw .nilFunc)] := by kernel_rfl
theorem zd183 : zeroD? Try.prog 183 = some (.raw .nilFunc) := by kernel_rfl
theorem sz184 : sizeTy Try.prog 184 1 = true := by kernel_rfl
theorem on184 : oneTy Try.prog 184 = true := by kernel_rfl
theorem zl184 : zeroL? Try.prog 184 = some [.d (.raw .nilFunc)] := by kernel_rfl
theorem zd184 : zeroD? Try.prog 184 = some (.raw .nilFunc) := by kernel_rfl
theorem sz185 : sizeTy Try.prog 185 1 = true := by kernel_rfl
theorem on185 : oneTy Try.prog 185 = true := by kernel_rfl
theorem zl185 : zeroL? Try.prog 185 = some [.d (.raw .nilFunc)] := by kernel_rfl
theorem zd185 : zeroD? Try.prog 185 = some (.raw .nilFunc) := by kernel_rfl
theorem sz186 : sizeTy Try.prog 186 1 = true := by kernel_rfl
theorem on186 : oneTy Try.prog 186 = true := by kernel_rfl
theorem zl186 : zeroL? Try.prog 186 = some [.d (.raw .nilFunc)] := by kernel_rfl
theorem zd186 : zeroD? Try.prog 186 = some (.raw .nilFunc) := by kernel_rfl
theorem sz187 : sizeTy Try.prog 187 1 = true := by kernel_rfl
theorem on187 : oneTy Try.prog 187 = true := by kernel_rfl
theorem zl187 : zeroL? Try.prog 187 = some [.d (.raw .nilFunc)] := by kernel_rfl
theorem zd187 : zeroD? Try.prog 187 = some (.raw .nilFunc) := by kernel_rfl
theorem sz188 : sizeTy Try.prog 188 1 = true := by kernel_rfl
theorem on188 : oneTy Try.prog 188 = true := by kernel_rfl
theorem zl188 : zeroL? Try.prog 188 = some [.d (.raw .nilFunc)] := by kernel_rfl
theorem zd188 : zeroD? Try.prog 188 = some (.raw .nilFunc) := by kernel_rfl
theorem sz189 : sizeTy Try.prog 189 1 = true := by kernel_rfl
theorem on189 : oneTy Try.prog 189 = true := by kernel_rfl
theorem zl189 : zeroL? Try.prog 189 = some [.d (.raw .nilFunc)] := by kernel_rfl
theorem zd189 : zeroD? Try.prog 189 = some (.raw .nilFunc) := by kernel_rfl
theorem sz190 : sizeTy Try.prog 190 1 = true := by kernel_rfl
theorem on190 : oneTy Try.prog 190 = true := by kernel_rfl
theorem zl190 : zeroL? Try.prog 190 = some [.d (.raw .nilFunc)] := by kernel_rfl
theorem zd190 : zeroD? Try.prog 190 = some (.raw .nilFunc) := by kernel_rfl
theorem sz191 : sizeTy Try.prog 191 1 = true := by kernel_rfl
theorem on191 : oneTy Try.prog 191 = true := by kernel_rfl
theorem zl191 : zeroL? Try.prog 191 = some [.d (.raw .nilFunc)] := by kernel_rfl
theorem zd191 : zeroD? Try.prog 191 = some (.raw .nilFunc) := by kernel_rfl
theorem sz194 : sizeTy Try.prog 194 0 = true := by kernel_rfl
theorem rw194 : rowTy Try.prog 194 0 = true := by kernel_rfl
theorem zl194 : zeroL? Try.prog 194 = some [] := by kernel_rfl
theorem zd194 : zeroD? Try.prog 194 = some (.agg []) := by kernel_rfl
theorem sz195 : sizeTy Try.prog 195 0 = true := by kernel_rfl
theorem rw195 : rowTy Try.prog 195 0 = true := by kernel_rfl
theorem fi195_0 : fieldInfo Try.prog 195 0 = some (0, 0, true) := by kernel_rfl
theorem pl195 : placesOf Try.prog 195 = some [(0, 0)] := by kernel_rfl
theorem zl195 : zeroL? Try.prog 195 = some [] := by kernel_rfl
theorem zd195 : zeroD? Try.prog 195 = some (.agg []) := by kernel_rfl
theorem sz197 : sizeTy Try.prog 197 1 = true := by kernel_rfl
theorem on197 : oneTy Try.prog 197 = true := by kernel_rfl
theorem zl197 : zeroL? Try.prog 197 = some [.d (.raw .nilFunc)] := by kernel_rfl
theorem zd197 : zeroD? Try.prog 197 = some (.raw .nilFunc) := by kernel_rfl
theorem sz200 : sizeTy Try.prog 200 1 = true := by kernel_rfl
theorem on200 : oneTy Try.prog 200 = true := by kernel_rfl
theorem zl200 : zeroL? Try.prog 200 = some [.d (.raw .nilFunc)] := by kernel_rfl
theorem zd200 : zeroD? Try.prog 200 = some (.raw .nilFunc) := by kernel_rfl
theorem sz201 : sizeTy Try.prog 201 1 = true := by kernel_rfl
theorem on201 : oneTy Try.prog 201 = true := by kernel_rfl
theorem zl201 : zeroL? Try.prog 201 = some [.d (.raw (.pointer none))] := by kernel_rfl
theorem zd201 : zeroD? Try.prog 201 = some (.raw (.pointer none)) := by kernel_rfl
theorem sz206 : sizeTy Try.prog 206 1 = true := by kernel_rfl
theorem on206 : oneTy Try.prog 206 = true := by kernel_rfl
theorem zl206 : zeroL? Try.prog 206 = some [.d (.raw (.pointer none))] := by kernel_rfl
theorem zd206 : zeroD? Try.prog 206 = some (.raw (.pointer none)) := by kernel_rfl

end Go.Proofs.Ytfmpiabmnjmobaa
