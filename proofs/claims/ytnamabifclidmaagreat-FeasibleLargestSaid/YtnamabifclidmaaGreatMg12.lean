/- What the walk wants of the types of this program. -/
import Derived.Test.YtnamabifclidmaaGreatMg11
import Derived.Test.YtnamabifclidmaaGreatRows
namespace Go.Proofs.YtnamabifclidmaaGreat
open Go.RowKit

theorem mixed : Tryz.prog.follows .mixedOrders = true := by kernel_rfl
theorem sz2 : sizeTy Tryz.prog 2 1 = true := by kernel_rfl
theorem on2 : oneTy Tryz.prog 2 = true := by kernel_rfl
theorem sz3 : sizeTy Tryz.prog 3 1 = true := by kernel_rfl
theorem on3 : oneTy Tryz.prog 3 = true := by kernel_rfl
theorem zl3 : zeroL? Tryz.prog 3 = some [.d (.raw (.int .i64 0))] := by kernel_rfl
theorem sz4 : sizeTy Tryz.prog 4 1 = true := by kernel_rfl
theorem zl4 : zeroL? Tryz.prog 4 = some [.d (.raw (.bool false))] := by kernel_rfl
theorem on9 : oneTy Tryz.prog 9 = true := by kernel_rfl
theorem on22 : oneTy Tryz.prog 22 = true := by kernel_rfl
theorem on23 : oneTy Tryz.prog 23 = true := by kernel_rfl
theorem rw25 : rowTy Tryz.prog 25 2 = true := by kernel_rfl
theorem fi25_0 : fieldInfo Tryz.prog 25 0 = some (0, 1, false) := by kernel_rfl
theorem Zbl : fieldInfo Tryz.prog 25 1 = some (1, 1, false) := by kernel_rfl
theorem sz26 : sizeTy Tryz.prog 26 1 = true := by kernel_rfl
theorem on26 : oneTy Tryz.prog 26 = true := by kernel_rfl
theorem zl26 : zeroL? Tryz.prog 26 = some [.d (.sl (some true) [])] := by kernel_rfl
theorem sl26 : SlTy Tryz.prog 26 3 1 8 := slTy_of (by kernel_rfl)
theorem sz32 : sizeTy Tryz.prog 32 1 = true := by kernel_rfl
theorem on32 : oneTy Tryz.prog 32 = true := by kernel_rfl
theorem sl32 : SlTy Tryz.prog 32 70 7 88 := slTy_of (by kernel_rfl)
theorem sz33 : sizeTy Tryz.prog 33 1 = true := by kernel_rfl
theorem on33 : oneTy Tryz.prog 33 = true := by kernel_rfl
theorem sl33 : SlTy Tryz.prog 33 100 6 96 := slTy_of (by kernel_rfl)
theorem sz35 : sizeTy Tryz.prog 35 2 = true := by kernel_rfl
theorem rw35 : rowTy Tryz.prog 35 2 = true := by kernel_rfl
theorem fi35_0 : fieldInfo Tryz.prog 35 0 = some (0, 1, false) := by kernel_rfl
theorem Zbf : fieldInfo Tryz.prog 35 1 = some (1, 1, false) := by kernel_rfl
theorem pl35 : placesOf Tryz.prog 35 = some [(0, 1), (1, 1)] := by kernel_rfl
theorem zl35 : zeroL? Tryz.prog 35 = some [.d (.sl (some true) []), .d (.sl (some true) [])] := by kernel_rfl
theorem sl39 : SlTy Tryz.prog 39 49 8 96 := slTy_of (by kernel_rfl)
theorem rw45 : rowTy Tryz.prog 45 3 = true := by kernel_rfl
theorem fi45_0 : fieldInfo Tryz.prog 45 0 = some (0, 1, false) := by kernel_rfl
theorem fi45_1 : fieldInfo Tryz.prog 45 1 = some (1, 1, false) := by kernel_rfl
theorem fi45_2 : fieldInfo Tryz.prog 45 2 = some (2, 1, false) := by kernel_rfl
theorem pl45 : placesOf Tryz.prog 45 = some [(0, 1), (1, 1), (2, 1)] := by kernel_rfl
theorem zl45 : zeroL? Tryz.prog 45 = some [.d (.raw (.string ⟨#[]⟩)), .d (.raw (.int .i64 0)), .d (.raw (.string ⟨#[]⟩))] := by kernel_rfl
theorem sz47 : sizeTy Tryz.prog 47 6 = true := by kernel_rfl
theorem rw47 : rowTy Tryz.prog 47 6 = true := by kernel_rfl
theorem fi47_0 : fieldInfo Tryz.prog 47 0 = some (0, 1, false) := by kernel_rfl
theorem fi47_1 : fieldInfo Tryz.prog 47 1 = some (1, 3, true) := by kernel_rfl
theorem fi47_2 : fieldInfo Tryz.prog 47 2 = some (4, 1, false) := by kernel_rfl
theorem fi47_3 : fieldInfo Tryz.prog 47 3 = some (5, 1, false) := by kernel_rfl
theorem pl47 : placesOf Tryz.prog 47 = some [(0, 1), (1, 3), (4, 1), (5, 1)] := by kernel_rfl
theorem zl47 : zeroL? Tryz.prog 47 = some [.d (.raw (.int .i64 0)), .d (.raw (.string ⟨#[]⟩)), .d (.raw (.int .i64 0)), .d (.raw (.string ⟨#[]⟩)), .d (.raw (.string ⟨#[]⟩)), .d (.raw (.string ⟨#[]⟩))] := by kernel_rfl
theorem sz49 : sizeTy Tryz.prog 49 8 = true := by kernel_rfl
theorem rw49 : rowTy Tryz.prog 49 8 = true := by kernel_rfl
theorem fi49_1 : fieldInfo Tryz.prog 49 1 = some (1, 1, false) := by kernel_rfl
theorem pl49 : placesOf Tryz.prog 49 = some [(0, 1), (1, 1), (2, 6)] := by kernel_rfl
theorem zl49 : zeroL? Tryz.prog 49 = some [.d (.raw (.int .i64 0)), .d (.raw (.int .i64 0)), .d (.raw (.int .i64 0)), .d (.raw (.string ⟨#[]⟩)), .d (.raw (.int .i64 0)), .d (.raw (.string ⟨#[]⟩)), .d (.raw (.string ⟨#[]⟩)), .d (.raw (.string ⟨#[]⟩))] := by kernel_rfl
theorem rw50 : rowTy Tryz.prog 50 3 = true := by kernel_rfl
theorem fi50_0 : fieldInfo Tryz.prog 50 0 = some (0, 1, false) := by kernel_rfl
theorem fi50_1 : fieldInfo Tryz.prog 50 1 = some (1, 1, false) := by kernel_rfl
theorem fi50_2 : fieldInfo Tryz.prog 50 2 = some (2, 1, false) := by kernel_rfl
theorem pl50 : placesOf Tryz.prog 50 = some [(0, 1), (1, 1), (2, 1)] := by kernel_rfl
theorem zl50 : zeroL? Tryz.prog 50 = some [.d (.raw (.string ⟨#[]⟩)), .d (.raw (.int .i64 0)), .d (.raw (.string ⟨#[]⟩))] := by kernel_rfl
theorem sz52 : sizeTy Tryz.prog 52 6 = true := by kernel_rfl
theorem rw52 : rowTy Tryz.prog 52 6 = true := by kernel_rfl
theorem fi52_0 : fieldInfo Tryz.prog 52 0 = some (0, 1, false) := by kernel_rfl
theorem fi52_1 : fieldInfo Tryz.prog 52 1 = some (1, 3, true) := by kernel_rfl
theorem fi52_2 : fieldInfo Tryz.prog 52 2 = some (4, 1, false) := by kernel_rfl
theorem fi52_3 : fieldInfo Tryz.prog 52 3 = some (5, 1, false) := by kernel_rfl
theorem pl52 : placesOf Tryz.prog 52 = some [(0, 1), (1, 3), (4, 1), (5, 1)] := by kernel_rfl
theorem zl52 : zeroL? Tryz.prog 52 = some [.d (.raw (.int .i64 0)), .d (.raw (.string ⟨#[]⟩)), .d (.raw (.int .i64 0)), .d (.raw (.string ⟨#[]⟩)), .d (.raw (.string ⟨#[]⟩)), .d (.raw (.string ⟨#[]⟩))] := by kernel_rfl
theorem sl56 : SlTy Tryz.prog 56 62 7 88 := slTy_of (by kernel_rfl)
theorem sz62 : sizeTy Tryz.prog 62 7 = true := by kernel_rfl
theorem rw62 : rowTy Tryz.prog 62 7 = true := by kernel_rfl
theorem pl62 : placesOf Tryz.prog 62 = some [(0, 6), (6, 1)] := by kernel_rfl
theorem zl62 : zeroL? Tryz.prog 62 = some [.d (.raw (.int .i64 0)), .d (.raw (.string ⟨#[]⟩)), .d (.raw (.int .i64 0)), .d (.raw (.string ⟨#[]⟩)), .d (.raw (.string ⟨#[]⟩)), .d (.raw (.string ⟨#[]⟩)), .d (.raw (.int .i64 0))] := by kernel_rfl
theorem sz65 : sizeTy Tryz.prog 65 1 = true := by kernel_rfl
theorem on65 : oneTy Tryz.prog 65 = true := by kernel_rfl
theorem zl65 : zeroL? Tryz.prog 65 = some [.d (.raw (.int .u32 0))] := by kernel_rfl
theorem sz70 : sizeTy Tryz.prog 70 7 = true := by kernel_rfl
theorem rw70 : rowTy Tryz.prog 70 7 = true := by kernel_rfl
theorem ZbN : fieldInfo Tryz.prog 70 0 = some (0, 6, true) := by kernel_rfl
theorem fi70_1 : fieldInfo Tryz.prog 70 1 = some (6, 1, false) := by kernel_rfl
theorem pl70 : placesOf Tryz.prog 70 = some [(0, 6), (6, 1)] := by kernel_rfl
theorem zl70 : zeroL? Tryz.prog 70 = some [.d (.raw (.int .i64 0)), .d (.raw (.string ⟨#[]⟩)), .d (.raw (.int .i64 0)), .d (.raw (.string ⟨#[]⟩)), .d (.raw (.string ⟨#[]⟩)), .d (.raw (.string ⟨#[]⟩)), .d (.raw (.int .i64 0))] := by kernel_rfl
theorem on77 : oneTy Tryz.prog 77 = true := by kernel_rfl
theorem on78 : oneTy Tryz.prog 78 = true := by kernel_rfl
theorem sz80 : sizeTy Tryz.prog 80 6 = true := by kernel_rfl
theorem rw80 : rowTy Tryz.prog 80 6 = true := by kernel_rfl
theorem fi80_0 : fieldInfo Tryz.prog 80 0 = some (0, 1, false) := by kernel_rfl
theorem fi80_1 : fieldInfo Tryz.prog 80 1 = some (1, 1, false) := by kernel_rfl
theorem fi80_2 : fieldInfo Tryz.prog 80 2 = some (2, 1, false) := by kernel_rfl
theorem fi80_3 : fieldInfo Tryz.prog 80 3 = some (3, 1, false) := by kernel_rfl
theorem fi80_4 : fieldInfo Tryz.prog 80 4 = some (4, 1, false) := by kernel_rfl
theorem fi80_5 : fieldInfo Tryz.prog 80 5 = some (5, 1, false) := by kernel_rfl
theorem sz97 : sizeTy Tryz.prog 97 1 = true := by kernel_rfl
theorem on97 : oneTy Tryz.prog 97 = true := by kernel_rfl
theorem sl97 : SlTy Tryz.prog 97 142 4 48 := slTy_of (by kernel_rfl)
theorem sz98 : sizeTy Tryz.prog 98 1 = true := by kernel_rfl
theorem on98 : oneTy Tryz.prog 98 = true := by kernel_rfl
theorem sl98 : SlTy Tryz.prog 98 146 3 40 := slTy_of (by kernel_rfl)
theorem sz100 : sizeTy Tryz.prog 100 6 = true := by kernel_rfl
theorem rw100 : rowTy Tryz.prog 100 6 = true := by kernel_rfl
theorem Zbi : fieldInfo Tryz.prog 100 0 = some (0, 1, false) := by kernel_rfl
theorem fi100_1 : fieldInfo Tryz.prog 100 1 = some (1, 1, false) := by kernel_rfl
theorem fi100_2 : fieldInfo Tryz.prog 100 2 = some (2, 1, false) := by kernel_rfl
theorem Zby : fieldInfo Tryz.prog 100 3 = some (3, 1, false) := by kernel_rfl
theorem ZbO : fieldInfo Tryz.prog 100 4 = some (4, 1, false) := by kernel_rfl
theorem Zbs : fieldInfo Tryz.prog 100 5 = some (5, 1, false) := by kernel_rfl
theorem pl100 : placesOf Tryz.prog 100 = some [(0, 1), (1, 1), (2, 1), (3, 1), (4, 1), (5, 1)] := by kernel_rfl
theorem zl100 : zeroL? Tryz.prog 100 = some [.d (.raw (.int .i64 0)), .d (.raw (.int .i64 0)), .d (.raw (.int .i64 0)), .d (.sl (some true) []), .d (.sl (some true) []), .d (.sl (some true) [])] := by kernel_rfl
theorem sz104 : sizeTy Tryz.prog 104 7 = true := by kernel_rfl
theorem fi104_0 : fieldInfo Tryz.prog 104 0 = some (0, 6, true) := by kernel_rfl
theorem fi104_1 : fieldInfo Tryz.prog 104 1 = some (6, 1, false) := by kernel_rfl
theorem sz107 : sizeTy Tryz.prog 107 1 = true := by kernel_rfl
theorem on107 : oneTy Tryz.prog 107 = true := by kernel_rfl
theorem zl107 : zeroL? Tryz.prog 107 = some [.d (.raw (.map none))] := by kernel_rfl
theorem sz124 : sizeTy Tryz.prog 124 1 = true := by kernel_rfl
theorem on124 : oneTy Tryz.prog 124 = true := by kernel_rfl
theorem zl124 : zeroL? Tryz.prog 124 = some [.d (.raw (.pointer none))] := by kernel_rfl
theorem on130 : oneTy Tryz.prog 130 = true := by kernel_rfl
theorem on132 : oneTy Tryz.prog 132 = true := by kernel_rfl
theorem sz142 : sizeTy Tryz.prog 142 4 = true := by kernel_rfl
theorem rw142 : rowTy Tryz.prog 142 4 = true := by kernel_rfl
theorem fi142_0 : fieldInfo Tryz.prog 142 0 = some (0, 3, true) := by kernel_rfl
theorem fi142_1 : fieldInfo Tryz.prog 142 1 = some (3, 1, false) := by kernel_rfl
theorem pl142 : placesOf Tryz.prog 142 = some [(0, 3), (3, 1)] := by kernel_rfl
theorem zl142 : zeroL? Tryz.prog 142 = some [.d (.raw (.string ⟨#[]⟩)), .d (.raw (.int .i64 0)), .d (.raw (.string ⟨#[]⟩)), .d (.raw (.int .i64 0))] := by kernel_rfl
theorem sz144 : sizeTy Tryz.prog 144 4 = true := by kernel_rfl
theorem rw144 : rowTy Tryz.prog 144 4 = true := by kernel_rfl
theorem fi144_0 : fieldInfo Tryz.prog 144 0 = some (0, 3, true) := by kernel_rfl
theorem fi144_1 : fieldInfo Tryz.prog 144 1 = some (3, 1, false) := by kernel_rfl
theorem zl144 : zeroL? Tryz.prog 144 = some [.d (.raw (.string ⟨#[]⟩)), .d (.raw (.int .i64 0)), .d (.raw (.string ⟨#[]⟩)), .d (.raw (.int .i64 0))] := by kernel_rfl
theorem sz146 : sizeTy Tryz.prog 146 3 = true := by kernel_rfl
theorem rw146 : rowTy Tryz.prog 146 3 = true := by kernel_rfl
theorem fi146_0 : fieldInfo Tryz.prog 146 0 = some (0, 1, false) := by kernel_rfl
theorem fi146_1 : fieldInfo Tryz.prog 146 1 = some (1, 1, false) := by kernel_rfl
theorem fi146_2 : fieldInfo Tryz.prog 146 2 = some (2, 1, false) := by kernel_rfl
theorem zl146 : zeroL? Tryz.prog 146 = some [.d (.raw (.string ⟨#[]⟩)), .d (.raw (.string ⟨#[]⟩)), .d (.raw (.int .i64 0))] := by kernel_rfl
theorem sz147 : sizeTy Tryz.prog 147 3 = true := by kernel_rfl
theorem rw147 : rowTy Tryz.prog 147 3 = true := by kernel_rfl
theorem fi147_0 : fieldInfo Tryz.prog 147 0 = some (0, 1, false) := by kernel_rfl
theorem fi147_1 : fieldInfo Tryz.prog 147 1 = some (1, 1, false) := by kernel_rfl
theorem fi147_2 : fieldInfo Tryz.prog 147 2 = some (2, 1, false) := by kernel_rfl
theorem zl147 : zeroL? Tryz.prog 147 = some [.d (.raw (.string ⟨#[]⟩)), .d (.raw (.string ⟨#[]⟩)), .d (.raw (.int .i64 0))] := by kernel_rfl
theorem on151 : oneTy Tryz.prog 151 = true := by kernel_rfl
theorem sz152 : sizeTy Tryz.prog 152 1 = true := by kernel_rfl
theorem on152 : oneTy Tryz.prog 152 = true := by kernel_rfl
theorem sl152 : SlTy Tryz.prog 152 157 8 112 := slTy_of (by kernel_rfl)
theorem fi154_0 : fieldInfo Tryz.prog 154 0 = some (0, 1, false) := by kernel_rfl
theorem fi154_1 : fieldInfo Tryz.prog 154 1 = some (1, 1, false) := by kernel_rfl
theorem fi154_2 : fieldInfo Tryz.prog 154 2 = some (2, 1, false) := by kernel_rfl
theorem pl154 : placesOf Tryz.prog 154 = some [(0, 1), (1, 1), (2, 1)] := by kernel_rfl
theorem zl154 : zeroL? Tryz.prog 154 = some [.d (.raw (.map none)), .d (.sl (some true) []), .d (.sl (some true) [])] := by kernel_rfl
theorem sz157 : sizeTy Tryz.prog 157 8 = true := by kernel_rfl
theorem rw157 : rowTy Tryz.prog 157 8 = true := by kernel_rfl
theorem fi157_0 : fieldInfo Tryz.prog 157 0 = some (0, 6, true) := by kernel_rfl
theorem fi157_1 : fieldInfo Tryz.prog 157 1 = some (6, 1, false) := by kernel_rfl
theorem fi157_2 : fieldInfo Tryz.prog 157 2 = some (7, 1, false) := by kernel_rfl
theorem pl157 : placesOf Tryz.prog 157 = some [(0, 6), (6, 1), (7, 1)] := by kernel_rfl
theorem zl157 : zeroL? Tryz.prog 157 = some [.d (.raw (.int .i64 0)), .d (.raw (.string ⟨#[]⟩)), .d (.raw (.int .i64 0)), .d (.raw (.string ⟨#[]⟩)), .d (.raw (.string ⟨#[]⟩)), .d (.raw (.string ⟨#[]⟩)), .d (.raw (.int .i64 0)), .d (.sl (some true) [])] := by kernel_rfl
theorem sl161 : SlTy Tryz.prog 161 52 6 80 := slTy_of (by kernel_rfl)
theorem sz165 : sizeTy Tryz.prog 165 1 = true := by kernel_rfl
theorem on165 : oneTy Tryz.prog 165 = true := by kernel_rfl
theorem zl165 : zeroL? Tryz.prog 165 = some [.d (.raw .nilFunc)] := by kernel_rfl
theorem sz166 : sizeTy Tryz.prog 166 1 = true := by kernel_rfl
theorem on166 : oneTy Tryz.prog 166 = true := by kernel_rfl
theorem sl166 : SlTy Tryz.prog 166 65 1 4 := slTy_of (by kernel_rfl)
theorem sz167 : sizeTy Tryz.prog 167 1 = true := by kernel_rfl
theorem on167 : oneTy Tryz.prog 167 = true := by kernel_rfl
theorem sl167 : SlTy Tryz.prog 167 168 1 24 := slTy_of (by kernel_rfl)
theorem sz168 : sizeTy Tryz.prog 168 1 = true := by kernel_rfl
theorem on168 : oneTy Tryz.prog 168 = true := by kernel_rfl
theorem sl168 : SlTy Tryz.prog 168 2 1 8 := slTy_of (by kernel_rfl)
theorem fi170_0 : fieldInfo Tryz.prog 170 0 = some (0, 1, false) := by kernel_rfl
theorem fi170_1 : fieldInfo Tryz.prog 170 1 = some (1, 1, false) := by kernel_rfl
theorem fi170_2 : fieldInfo Tryz.prog 170 2 = some (2, 1, false) := by kernel_rfl
theorem fi170_3 : fieldInfo Tryz.prog 170 3 = some (3, 1, false) := by kernel_rfl
theorem pl170 : placesOf Tryz.prog 170 = some [(0, 1), (1, 1), (2, 1), (3, 1)] := by kernel_rfl
theorem zl170 : zeroL? Tryz.prog 170 = some [.d (.sl (some true) []), .d (.sl (some true) []), .d (.sl (some true) []), .d (.sl (some true) [])] := by kernel_rfl
theorem sz180 : sizeTy Tryz.prog 180 1 = true := by kernel_rfl
theorem on180 : oneTy Tryz.prog 180 = true := by kernel_rfl
theorem sl202 : SlTy Tryz.prog 202 180 1 8 := slTy_of (by kernel_rfl)
end Go.Proofs.YtnamabifclidmaaGreat
/- What the walk wants of the map types of this program. -/
namespace Go.Proofs.YtnamabifclidmaaGreat
open Go.RowKit

theorem mt107 : mapTyB Tryz.prog 107 3 4 = true := by kernel_rfl
theorem kt3 : KeyTy Tryz.prog 3 (fun z : Int => .raw (.int .i64 z)) (fun z => .int .i64 z) := KeyTy.int Tryz.underlying3
theorem za4 : zeroA? Tryz.prog 4 = some (.d (.raw (.bool false))) := by kernel_rfl
theorem mt108 : mapTyB Tryz.prog 108 3 4 = true := by kernel_rfl
theorem mt151 : mapTyB Tryz.prog 151 3 100 = true := by kernel_rfl
theorem za100 : zeroA? Tryz.prog 100 = some (.d (.agg [.raw (.int .i64 0), .raw (.int .i64 0), .raw (.int .i64 0), .sl (some true) [], .sl (some true) [], .sl (some true) []])) := by kernel_rfl
theorem mt173 : mapTyB Tryz.prog 173 47 2 = true := by kernel_rfl
theorem za2 : zeroA? Tryz.prog 2 = some (.d (.raw (.int .i64 0))) := by kernel_rfl
theorem mt214 : mapTyB Tryz.prog 214 47 4 = true := by kernel_rfl
theorem mt226 : mapTyB Tryz.prog 226 9 2 = true := by kernel_rfl
theorem kt9 : KeyTy Tryz.prog 9 strD strV := KeyTy.str Tryz.underlying9

end Go.Proofs.YtnamabifclidmaaGreat
