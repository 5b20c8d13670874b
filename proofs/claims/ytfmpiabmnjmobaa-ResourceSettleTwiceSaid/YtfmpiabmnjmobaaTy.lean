/- What the walk wants of the types of this program. -/
import Derived.Test.YtfmpiabmnjmobaaRows
import Derived.Test.YtfmpiabmnjmobaaDraw
import Derived.Test.YtfmpiabmnjmobaaBuild
namespace Go.Proofs.Ytfmpiabmnjmobaa
open Go.RowKit

theorem mixed : Try.prog.follows .mixedOrders = true := by kernel_rfl
theorem on2 : oneTy Try.prog 2 = true := by kernel_rfl
theorem sz3 : sizeTy Try.prog 3 1 = true := by kernel_rfl
theorem on3 : oneTy Try.prog 3 = true := by kernel_rfl
theorem sz5 : sizeTy Try.prog 5 1 = true := by kernel_rfl
theorem on5 : oneTy Try.prog 5 = true := by kernel_rfl
theorem on9 : oneTy Try.prog 9 = true := by kernel_rfl
theorem on22 : oneTy Try.prog 22 = true := by kernel_rfl
theorem on23 : oneTy Try.prog 23 = true := by kernel_rfl
theorem sz24 : sizeTy Try.prog 24 1 = true := by kernel_rfl
theorem on24 : oneTy Try.prog 24 = true := by kernel_rfl
theorem sl24 : SlTy Try.prog 24 3 1 8 := slTy_of (by kernel_rfl)
theorem sz26 : sizeTy Try.prog 26 6 = true := by kernel_rfl
theorem rw26 : rowTy Try.prog 26 6 = true := by kernel_rfl
theorem fi26_0 : fieldInfo Try.prog 26 0 = some (0, 1, false) := by kernel_rfl
theorem fi26_1 : fieldInfo Try.prog 26 1 = some (1, 1, false) := by kernel_rfl
theorem fi26_2 : fieldInfo Try.prog 26 2 = some (2, 1, false) := by kernel_rfl
theorem fi26_3 : fieldInfo Try.prog 26 3 = some (3, 1, false) := by kernel_rfl
theorem fi26_4 : fieldInfo Try.prog 26 4 = some (4, 1, false) := by kernel_rfl
theorem fi26_5 : fieldInfo Try.prog 26 5 = some (5, 1, false) := by kernel_rfl
theorem sz30 : sizeTy Try.prog 30 1 = true := by kernel_rfl
theorem on30 : oneTy Try.prog 30 = true := by kernel_rfl
theorem sl30 : SlTy Try.prog 30 106 4 48 := slTy_of (by kernel_rfl)
theorem sz31 : sizeTy Try.prog 31 1 = true := by kernel_rfl
theorem on31 : oneTy Try.prog 31 = true := by kernel_rfl
theorem sl31 : SlTy Try.prog 31 108 3 40 := slTy_of (by kernel_rfl)
theorem sz33 : sizeTy Try.prog 33 6 = true := by kernel_rfl
theorem rw33 : rowTy Try.prog 33 6 = true := by kernel_rfl
theorem fi33_0 : fieldInfo Try.prog 33 0 = some (0, 1, false) := by kernel_rfl
theorem fi33_1 : fieldInfo Try.prog 33 1 = some (1, 1, false) := by kernel_rfl
theorem fi33_2 : fieldInfo Try.prog 33 2 = some (2, 1, false) := by kernel_rfl
theorem fi33_3 : fieldInfo Try.prog 33 3 = some (3, 1, false) := by kernel_rfl
theorem fi33_4 : fieldInfo Try.prog 33 4 = some (4, 1, false) := by kernel_rfl
theorem fi33_5 : fieldInfo Try.prog 33 5 = some (5, 1, false) := by kernel_rfl
theorem pl33 : placesOf Try.prog 33 = some [(0, 1), (1, 1), (2, 1), (3, 1), (4, 1), (5, 1)] := by kernel_rfl
theorem zl33 : zeroL? Try.prog 33 = some [.d (.raw (.int .i64 0)), .d (.raw (.int .i64 0)), .d (.raw (.int .i64 0)), .d (.sl (some true) []), .d (.sl (some true) []), .d (.sl (some true) [])] := by kernel_rfl
theorem sz35 : sizeTy Try.prog 35 1 = true := by kernel_rfl
theorem on35 : oneTy Try.prog 35 = true := by kernel_rfl
theorem sl37 : SlTy Try.prog 37 45 7 88 := slTy_of (by kernel_rfl)
theorem sz41 : sizeTy Try.prog 41 3 = true := by kernel_rfl
theorem rw41 : rowTy Try.prog 41 3 = true := by kernel_rfl
theorem fi41_0 : fieldInfo Try.prog 41 0 = some (0, 1, false) := by kernel_rfl
theorem fi41_1 : fieldInfo Try.prog 41 1 = some (1, 1, false) := by kernel_rfl
theorem fi41_2 : fieldInfo Try.prog 41 2 = some (2, 1, false) := by kernel_rfl
theorem pl41 : placesOf Try.prog 41 = some [(0, 1), (1, 1), (2, 1)] := by kernel_rfl
theorem zl41 : zeroL? Try.prog 41 = some [.d (.raw (.string ⟨#[]⟩)), .d (.raw (.int .i64 0)), .d (.raw (.string ⟨#[]⟩))] := by kernel_rfl
theorem sz43 : sizeTy Try.prog 43 6 = true := by kernel_rfl
theorem rw43 : rowTy Try.prog 43 6 = true := by kernel_rfl
theorem fi43_0 : fieldInfo Try.prog 43 0 = some (0, 1, false) := by kernel_rfl
theorem fi43_1 : fieldInfo Try.prog 43 1 = some (1, 3, true) := by kernel_rfl
theorem fi43_2 : fieldInfo Try.prog 43 2 = some (4, 1, false) := by kernel_rfl
theorem fi43_3 : fieldInfo Try.prog 43 3 = some (5, 1, false) := by kernel_rfl
theorem pl43 : placesOf Try.prog 43 = some [(0, 1), (1, 3), (4, 1), (5, 1)] := by kernel_rfl
theorem zl43 : zeroL? Try.prog 43 = some [.d (.raw (.int .i64 0)), .d (.raw (.string ⟨#[]⟩)), .d (.raw (.int .i64 0)), .d (.raw (.string ⟨#[]⟩)), .d (.raw (.string ⟨#[]⟩)), .d (.raw (.string ⟨#[]⟩))] := by kernel_rfl
theorem sz45 : sizeTy Try.prog 45 7 = true := by kernel_rfl
theorem fi45_0 : fieldInfo Try.prog 45 0 = some (0, 6, true) := by kernel_rfl
theorem fi45_1 : fieldInfo Try.prog 45 1 = some (6, 1, false) := by kernel_rfl
theorem pl45 : placesOf Try.prog 45 = some [(0, 6), (6, 1)] := by kernel_rfl
theorem zl45 : zeroL? Try.prog 45 = some [.d (.raw (.int .i64 0)), .d (.raw (.string ⟨#[]⟩)), .d (.raw (.int .i64 0)), .d (.raw (.string ⟨#[]⟩)), .d (.raw (.string ⟨#[]⟩)), .d (.raw (.string ⟨#[]⟩)), .d (.raw (.int .i64 0))] := by kernel_rfl
theorem rw46 : rowTy Try.prog 46 3 = true := by kernel_rfl
theorem fi46_0 : fieldInfo Try.prog 46 0 = some (0, 1, false) := by kernel_rfl
theorem fi46_1 : fieldInfo Try.prog 46 1 = some (1, 1, false) := by kernel_rfl
theorem fi46_2 : fieldInfo Try.prog 46 2 = some (2, 1, false) := by kernel_rfl
theorem pl46 : placesOf Try.prog 46 = some [(0, 1), (1, 1), (2, 1)] := by kernel_rfl
theorem zl46 : zeroL? Try.prog 46 = some [.d (.raw (.string ⟨#[]⟩)), .d (.raw (.int .i64 0)), .d (.raw (.string ⟨#[]⟩))] := by kernel_rfl
theorem sz48 : sizeTy Try.prog 48 6 = true := by kernel_rfl
theorem rw48 : rowTy Try.prog 48 6 = true := by kernel_rfl
theorem fi48_0 : fieldInfo Try.prog 48 0 = some (0, 1, false) := by kernel_rfl
theorem fi48_1 : fieldInfo Try.prog 48 1 = some (1, 3, true) := by kernel_rfl
theorem fi48_2 : fieldInfo Try.prog 48 2 = some (4, 1, false) := by kernel_rfl
theorem fi48_3 : fieldInfo Try.prog 48 3 = some (5, 1, false) := by kernel_rfl
theorem pl48 : placesOf Try.prog 48 = some [(0, 1), (1, 3), (4, 1), (5, 1)] := by kernel_rfl
theorem zl48 : zeroL? Try.prog 48 = some [.d (.raw (.int .i64 0)), .d (.raw (.string ⟨#[]⟩)), .d (.raw (.int .i64 0)), .d (.raw (.string ⟨#[]⟩)), .d (.raw (.string ⟨#[]⟩)), .d (.raw (.string ⟨#[]⟩))] := by kernel_rfl
theorem on58 : oneTy Try.prog 58 = true := by kernel_rfl
theorem sz61 : sizeTy Try.prog 61 7 = true := by kernel_rfl
theorem rw61 : rowTy Try.prog 61 7 = true := by kernel_rfl
theorem fi61_0 : fieldInfo Try.prog 61 0 = some (0, 6, true) := by kernel_rfl
theorem fi61_1 : fieldInfo Try.prog 61 1 = some (6, 1, false) := by kernel_rfl
theorem on65 : oneTy Try.prog 65 = true := by kernel_rfl
theorem rw67 : rowTy Try.prog 67 2 = true := by kernel_rfl
theorem fi67_0 : fieldInfo Try.prog 67 0 = some (0, 1, false) := by kernel_rfl
theorem fi67_1 : fieldInfo Try.prog 67 1 = some (1, 1, false) := by kernel_rfl
theorem sz69 : sizeTy Try.prog 69 1 = true := by kernel_rfl
theorem on69 : oneTy Try.prog 69 = true := by kernel_rfl
theorem sl69 : SlTy Try.prog 69 124 7 88 := slTy_of (by kernel_rfl)
theorem sz70 : sizeTy Try.prog 70 1 = true := by kernel_rfl
theorem on70 : oneTy Try.prog 70 = true := by kernel_rfl
theorem sl70 : SlTy Try.prog 70 33 6 96 := slTy_of (by kernel_rfl)
theorem sz72 : sizeTy Try.prog 72 2 = true := by kernel_rfl
theorem rw72 : rowTy Try.prog 72 2 = true := by kernel_rfl
theorem fi72_0 : fieldInfo Try.prog 72 0 = some (0, 1, false) := by kernel_rfl
theorem fi72_1 : fieldInfo Try.prog 72 1 = some (1, 1, false) := by kernel_rfl
theorem pl72 : placesOf Try.prog 72 = some [(0, 1), (1, 1)] := by kernel_rfl
theorem zl72 : zeroL? Try.prog 72 = some [.d (.sl (some true) []), .d (.sl (some true) [])] := by kernel_rfl
theorem sz104 : sizeTy Try.prog 104 4 = true := by kernel_rfl
theorem rw104 : rowTy Try.prog 104 4 = true := by kernel_rfl
theorem fi104_0 : fieldInfo Try.prog 104 0 = some (0, 3, true) := by kernel_rfl
theorem fi104_1 : fieldInfo Try.prog 104 1 = some (3, 1, false) := by kernel_rfl
theorem zl104 : zeroL? Try.prog 104 = some [.d (.raw (.string ⟨#[]⟩)), .d (.raw (.int .i64 0)), .d (.raw (.string ⟨#[]⟩)), .d (.raw (.int .i64 0))] := by kernel_rfl
theorem sz106 : sizeTy Try.prog 106 4 = true := by kernel_rfl
theorem rw106 : rowTy Try.prog 106 4 = true := by kernel_rfl
theorem fi106_0 : fieldInfo Try.prog 106 0 = some (0, 3, true) := by kernel_rfl
theorem fi106_1 : fieldInfo Try.prog 106 1 = some (3, 1, false) := by kernel_rfl
theorem pl106 : placesOf Try.prog 106 = some [(0, 3), (3, 1)] := by kernel_rfl
theorem zl106 : zeroL? Try.prog 106 = some [.d (.raw (.string ⟨#[]⟩)), .d (.raw (.int .i64 0)), .d (.raw (.string ⟨#[]⟩)), .d (.raw (.int .i64 0))] := by kernel_rfl
theorem sz108 : sizeTy Try.prog 108 3 = true := by kernel_rfl
theorem rw108 : rowTy Try.prog 108 3 = true := by kernel_rfl
theorem fi108_0 : fieldInfo Try.prog 108 0 = some (0, 1, false) := by kernel_rfl
theorem fi108_1 : fieldInfo Try.prog 108 1 = some (1, 1, false) := by kernel_rfl
theorem fi108_2 : fieldInfo Try.prog 108 2 = some (2, 1, false) := by kernel_rfl
theorem pl108 : placesOf Try.prog 108 = some [(0, 1), (1, 1), (2, 1)] := by kernel_rfl
theorem zl108 : zeroL? Try.prog 108 = some [.d (.raw (.string ⟨#[]⟩)), .d (.raw (.string ⟨#[]⟩)), .d (.raw (.int .i64 0))] := by kernel_rfl
theorem sz109 : sizeTy Try.prog 109 3 = true := by kernel_rfl
theorem rw109 : rowTy Try.prog 109 3 = true := by kernel_rfl
theorem fi109_0 : fieldInfo Try.prog 109 0 = some (0, 1, false) := by kernel_rfl
theorem fi109_1 : fieldInfo Try.prog 109 1 = some (1, 1, false) := by kernel_rfl
theorem fi109_2 : fieldInfo Try.prog 109 2 = some (2, 1, false) := by kernel_rfl
theorem zl109 : zeroL? Try.prog 109 = some [.d (.raw (.string ⟨#[]⟩)), .d (.raw (.string ⟨#[]⟩)), .d (.raw (.int .i64 0))] := by kernel_rfl
theorem sl111 : SlTy Try.prog 111 35 1 8 := slTy_of (by kernel_rfl)
theorem sl113 : SlTy Try.prog 113 48 6 80 := slTy_of (by kernel_rfl)
theorem sz124 : sizeTy Try.prog 124 7 = true := by kernel_rfl
theorem rw124 : rowTy Try.prog 124 7 = true := by kernel_rfl
theorem fi124_0 : fieldInfo Try.prog 124 0 = some (0, 6, true) := by kernel_rfl
theorem fi124_1 : fieldInfo Try.prog 124 1 = some (6, 1, false) := by kernel_rfl
theorem pl124 : placesOf Try.prog 124 = some [(0, 6), (6, 1)] := by kernel_rfl
theorem zl124 : zeroL? Try.prog 124 = some [.d (.raw (.int .i64 0)), .d (.raw (.string ⟨#[]⟩)), .d (.raw (.int .i64 0)), .d (.raw (.string ⟨#[]⟩)), .d (.raw (.string ⟨#[]⟩)), .d (.raw (.string ⟨#[]⟩)), .d (.raw (.int .i64 0))] := by kernel_rfl
theorem sz125 : sizeTy Try.prog 125 1 = true := by kernel_rfl
theorem on125 : oneTy Try.prog 125 = true := by kernel_rfl
theorem zl125 : zeroL? Try.prog 125 = some [.d (.raw (.map none))] := by kernel_rfl
end Go.Proofs.Ytfmpiabmnjmobaa

