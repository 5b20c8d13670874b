/- What the walk wants of the types of this program. -/
import Derived.Test.YtneihdahboilnaaGreatMg11
import Derived.Test.YtneihdahboilnaaGreatRows
namespace Go.Proofs.YtneihdahboilnaaGreat
open Go.RowKit
theorem mixed : Tryz.prog.follows .mixedOrders = true := by kernel_rfl
theorem sz2 : sizeTy Tryz.prog 2 1 = true := by kernel_rfl
theorem on2 : oneTy Tryz.prog 2 = true := by kernel_rfl
theorem sz3 : sizeTy Tryz.prog 3 1 = true := by kernel_rfl
theorem on3 : oneTy Tryz.prog 3 = true := by kernel_rfl
theorem sz4 : sizeTy Tryz.prog 4 1 = true := by kernel_rfl
theorem on4 : oneTy Tryz.prog 4 = true := by kernel_rfl
theorem zl4 : zeroL? Tryz.prog 4 = some [.d (.raw (.bool false))] := by kernel_rfl
theorem sz9 : sizeTy Tryz.prog 9 1 = true := by kernel_rfl
theorem on9 : oneTy Tryz.prog 9 = true := by kernel_rfl
theorem sz22 : sizeTy Tryz.prog 22 1 = true := by kernel_rfl
theorem on22 : oneTy Tryz.prog 22 = true := by kernel_rfl
theorem sl22 : SlTy Tryz.prog 22 67 7 88 := ZbQ (by kernel_rfl)
theorem sz23 : sizeTy Tryz.prog 23 1 = true := by kernel_rfl
theorem on23 : oneTy Tryz.prog 23 = true := by kernel_rfl
theorem sl23 : SlTy Tryz.prog 23 64 6 96 := ZbQ (by kernel_rfl)
theorem sz25 : sizeTy Tryz.prog 25 2 = true := by kernel_rfl
theorem rw25 : rowTy Tryz.prog 25 2 = true := by kernel_rfl
theorem ZaY : fieldInfo Tryz.prog 25 0 = some (0,1,false) := by kernel_rfl
theorem Za3 : fieldInfo Tryz.prog 25 1 = some (1,1,false) := by kernel_rfl
theorem zl25 : zeroL? Tryz.prog 25 = some [.d (.sl (some true) []), .d (.sl (some true) [])] := by kernel_rfl
theorem sz28 : sizeTy Tryz.prog 28 1 = true := by kernel_rfl
theorem on28 : oneTy Tryz.prog 28 = true := by kernel_rfl
theorem sl28 : SlTy Tryz.prog 28 3 1 8 := ZbQ (by kernel_rfl)
theorem sz32 : sizeTy Tryz.prog 32 1 = true := by kernel_rfl
theorem on32 : oneTy Tryz.prog 32 = true := by kernel_rfl
theorem sl32 : SlTy Tryz.prog 32 82 7 88 := ZbQ (by kernel_rfl)
theorem sz33 : sizeTy Tryz.prog 33 1 = true := by kernel_rfl
theorem on33 : oneTy Tryz.prog 33 = true := by kernel_rfl
theorem sl33 : SlTy Tryz.prog 33 91 6 96 := ZbQ (by kernel_rfl)
theorem sz35 : sizeTy Tryz.prog 35 2 = true := by kernel_rfl
theorem rw35 : rowTy Tryz.prog 35 2 = true := by kernel_rfl
theorem fi35_0 : fieldInfo Tryz.prog 35 0 = some (0,1,false) := by kernel_rfl
theorem fi35_1 : fieldInfo Tryz.prog 35 1 = some (1,1,false) := by kernel_rfl
theorem zl35 : zeroL? Tryz.prog 35 = some [.d (.sl (some true) []), .d (.sl (some true) [])] := by kernel_rfl
theorem sl42 : SlTy Tryz.prog 42 53 9 104 := ZbQ (by kernel_rfl)
theorem sl45 : SlTy Tryz.prog 45 58 9 104 := ZbQ (by kernel_rfl)
theorem sz49 : sizeTy Tryz.prog 49 3 = true := by kernel_rfl
theorem rw49 : rowTy Tryz.prog 49 3 = true := by kernel_rfl
theorem fi49_0 : fieldInfo Tryz.prog 49 0 = some (0,1,false) := by kernel_rfl
theorem fi49_1 : fieldInfo Tryz.prog 49 1 = some (1,1,false) := by kernel_rfl
theorem fi49_2 : fieldInfo Tryz.prog 49 2 = some (2,1,false) := by kernel_rfl
theorem pl49 : placesOf Tryz.prog 49 = some [(0,1),(1,1),(2,1)] := by kernel_rfl
theorem zl49 : zeroL? Tryz.prog 49 = some [.d (.raw (.string ⟨#[]⟩)), .d (.raw (.int .i64 0)), .d (.raw (.string ⟨#[]⟩))] := by kernel_rfl
theorem sz51 : sizeTy Tryz.prog 51 6 = true := by kernel_rfl
theorem rw51 : rowTy Tryz.prog 51 6 = true := by kernel_rfl
theorem fi51_0 : fieldInfo Tryz.prog 51 0 = some (0,1,false) := by kernel_rfl
theorem fi51_1 : fieldInfo Tryz.prog 51 1 = some (1,3,true) := by kernel_rfl
theorem fi51_2 : fieldInfo Tryz.prog 51 2 = some (4,1,false) := by kernel_rfl
theorem fi51_3 : fieldInfo Tryz.prog 51 3 = some (5,1,false) := by kernel_rfl
theorem pl51 : placesOf Tryz.prog 51 = some [(0,1),(1,3),(4,1),(5,1)] := by kernel_rfl
theorem zl51 : zeroL? Tryz.prog 51 = some [.d (.raw (.int .i64 0)), .d (.raw (.string ⟨#[]⟩)), .d (.raw (.int .i64 0)), .d (.raw (.string ⟨#[]⟩)), .d (.raw (.string ⟨#[]⟩)), .d (.raw (.string ⟨#[]⟩))] := by kernel_rfl
theorem sz53 : sizeTy Tryz.prog 53 9 = true := by kernel_rfl
theorem rw53 : rowTy Tryz.prog 53 9 = true := by kernel_rfl
theorem fi53_0 : fieldInfo Tryz.prog 53 0 = some (0,1,false) := by kernel_rfl
theorem pl53 : placesOf Tryz.prog 53 = some [(0,1),(1,1),(2,6),(8,1)] := by kernel_rfl
theorem zl53 : zeroL? Tryz.prog 53 = some [.d (.raw (.int .i64 0)), .d (.raw (.int .i64 0)), .d (.raw (.int .i64 0)), .d (.raw (.string ⟨#[]⟩)), .d (.raw (.int .i64 0)), .d (.raw (.string ⟨#[]⟩)), .d (.raw (.string ⟨#[]⟩)), .d (.raw (.string ⟨#[]⟩)), .d (.raw (.int .i64 0))] := by kernel_rfl
theorem rw54 : rowTy Tryz.prog 54 3 = true := by kernel_rfl
theorem fi54_0 : fieldInfo Tryz.prog 54 0 = some (0,1,false) := by kernel_rfl
theorem fi54_1 : fieldInfo Tryz.prog 54 1 = some (1,1,false) := by kernel_rfl
theorem fi54_2 : fieldInfo Tryz.prog 54 2 = some (2,1,false) := by kernel_rfl
theorem pl54 : placesOf Tryz.prog 54 = some [(0,1),(1,1),(2,1)] := by kernel_rfl
theorem zl54 : zeroL? Tryz.prog 54 = some [.d (.raw (.string ⟨#[]⟩)), .d (.raw (.int .i64 0)), .d (.raw (.string ⟨#[]⟩))] := by kernel_rfl
theorem sz56 : sizeTy Tryz.prog 56 6 = true := by kernel_rfl
theorem rw56 : rowTy Tryz.prog 56 6 = true := by kernel_rfl
theorem fi56_0 : fieldInfo Tryz.prog 56 0 = some (0,1,false) := by kernel_rfl
theorem fi56_1 : fieldInfo Tryz.prog 56 1 = some (1,3,true) := by kernel_rfl
theorem fi56_2 : fieldInfo Tryz.prog 56 2 = some (4,1,false) := by kernel_rfl
theorem fi56_3 : fieldInfo Tryz.prog 56 3 = some (5,1,false) := by kernel_rfl
theorem pl56 : placesOf Tryz.prog 56 = some [(0,1),(1,3),(4,1),(5,1)] := by kernel_rfl
theorem zl56 : zeroL? Tryz.prog 56 = some [.d (.raw (.int .i64 0)), .d (.raw (.string ⟨#[]⟩)), .d (.raw (.int .i64 0)), .d (.raw (.string ⟨#[]⟩)), .d (.raw (.string ⟨#[]⟩)), .d (.raw (.string ⟨#[]⟩))] := by kernel_rfl
theorem sz58 : sizeTy Tryz.prog 58 9 = true := by kernel_rfl
theorem rw58 : rowTy Tryz.prog 58 9 = true := by kernel_rfl
theorem fi58_0 : fieldInfo Tryz.prog 58 0 = some (0,1,false) := by kernel_rfl
theorem pl58 : placesOf Tryz.prog 58 = some [(0,1),(1,1),(2,6),(8,1)] := by kernel_rfl
theorem zl58 : zeroL? Tryz.prog 58 = some [.d (.raw (.int .i64 0)), .d (.raw (.int .i64 0)), .d (.raw (.int .i64 0)), .d (.raw (.string ⟨#[]⟩)), .d (.raw (.int .i64 0)), .d (.raw (.string ⟨#[]⟩)), .d (.raw (.string ⟨#[]⟩)), .d (.raw (.string ⟨#[]⟩)), .d (.raw (.int .i64 0))] := by kernel_rfl
theorem on61 : oneTy Tryz.prog 61 = true := by kernel_rfl
theorem on62 : oneTy Tryz.prog 62 = true := by kernel_rfl
theorem sz64 : sizeTy Tryz.prog 64 6 = true := by kernel_rfl
theorem rw64 : rowTy Tryz.prog 64 6 = true := by kernel_rfl
theorem fi64_0 : fieldInfo Tryz.prog 64 0 = some (0,1,false) := by kernel_rfl
theorem fi64_1 : fieldInfo Tryz.prog 64 1 = some (1,1,false) := by kernel_rfl
theorem fi64_2 : fieldInfo Tryz.prog 64 2 = some (2,1,false) := by kernel_rfl
theorem fi64_3 : fieldInfo Tryz.prog 64 3 = some (3,1,false) := by kernel_rfl
theorem fi64_4 : fieldInfo Tryz.prog 64 4 = some (4,1,false) := by kernel_rfl
theorem ZbG : fieldInfo Tryz.prog 64 5 = some (5,1,false) := by kernel_rfl
theorem zl64 : zeroL? Tryz.prog 64 = some [.d (.raw (.int .i64 0)), .d (.raw (.int .i64 0)), .d (.raw (.int .i64 0)), .d (.sl (some true) []), .d (.sl (some true) []), .d (.sl (some true) [])] := by kernel_rfl
theorem sz67 : sizeTy Tryz.prog 67 7 = true := by kernel_rfl
theorem rw67 : rowTy Tryz.prog 67 7 = true := by kernel_rfl
theorem Zbo : fieldInfo Tryz.prog 67 0 = some (0,6,true) := by kernel_rfl
theorem fi67_1 : fieldInfo Tryz.prog 67 1 = some (6,1,false) := by kernel_rfl
theorem pl67 : placesOf Tryz.prog 67 = some [(0,6),(6,1)] := by kernel_rfl
theorem zl67 : zeroL? Tryz.prog 67 = some [.d (.raw (.int .i64 0)), .d (.raw (.string ⟨#[]⟩)), .d (.raw (.int .i64 0)), .d (.raw (.string ⟨#[]⟩)), .d (.raw (.string ⟨#[]⟩)), .d (.raw (.string ⟨#[]⟩)), .d (.raw (.int .i64 0))] := by kernel_rfl
theorem sz82 : sizeTy Tryz.prog 82 7 = true := by kernel_rfl
theorem rw82 : rowTy Tryz.prog 82 7 = true := by kernel_rfl
theorem fi82_0 : fieldInfo Tryz.prog 82 0 = some (0,6,true) := by kernel_rfl
theorem fi82_1 : fieldInfo Tryz.prog 82 1 = some (6,1,false) := by kernel_rfl
theorem pl82 : placesOf Tryz.prog 82 = some [(0,6),(6,1)] := by kernel_rfl
theorem zl82 : zeroL? Tryz.prog 82 = some [.d (.raw (.int .i64 0)), .d (.raw (.string ⟨#[]⟩)), .d (.raw (.int .i64 0)), .d (.raw (.string ⟨#[]⟩)), .d (.raw (.string ⟨#[]⟩)), .d (.raw (.string ⟨#[]⟩)), .d (.raw (.int .i64 0))] := by kernel_rfl
theorem sl87 : SlTy Tryz.prog 87 9 1 16 := ZbQ (by kernel_rfl)
theorem sz88 : sizeTy Tryz.prog 88 1 = true := by kernel_rfl
theorem on88 : oneTy Tryz.prog 88 = true := by kernel_rfl
theorem sl88 : SlTy Tryz.prog 88 144 4 48 := ZbQ (by kernel_rfl)
theorem sz89 : sizeTy Tryz.prog 89 1 = true := by kernel_rfl
theorem on89 : oneTy Tryz.prog 89 = true := by kernel_rfl
theorem sl89 : SlTy Tryz.prog 89 145 3 40 := ZbQ (by kernel_rfl)
theorem sz91 : sizeTy Tryz.prog 91 6 = true := by kernel_rfl
theorem rw91 : rowTy Tryz.prog 91 6 = true := by kernel_rfl
theorem Zbz : fieldInfo Tryz.prog 91 0 = some (0,1,false) := by kernel_rfl
theorem fi91_1 : fieldInfo Tryz.prog 91 1 = some (1,1,false) := by kernel_rfl
theorem fi91_2 : fieldInfo Tryz.prog 91 2 = some (2,1,false) := by kernel_rfl
theorem fi91_3 : fieldInfo Tryz.prog 91 3 = some (3,1,false) := by kernel_rfl
theorem fi91_4 : fieldInfo Tryz.prog 91 4 = some (4,1,false) := by kernel_rfl
theorem fi91_5 : fieldInfo Tryz.prog 91 5 = some (5,1,false) := by kernel_rfl
theorem pl91 : placesOf Tryz.prog 91 = some [(0,1),(1,1),(2,1),(3,1),(4,1),(5,1)] := by kernel_rfl
theorem zl91 : zeroL? Tryz.prog 91 = some [.d (.raw (.int .i64 0)), .d (.raw (.int .i64 0)), .d (.raw (.int .i64 0)), .d (.sl (some true) []), .d (.sl (some true) []), .d (.sl (some true) [])] := by kernel_rfl
theorem sz98 : sizeTy Tryz.prog 98 1 = true := by kernel_rfl
theorem on98 : oneTy Tryz.prog 98 = true := by kernel_rfl
theorem zl98 : zeroL? Tryz.prog 98 = some [.d (.raw (.pointer none))] := by kernel_rfl
theorem sz103 : sizeTy Tryz.prog 103 1 = true := by kernel_rfl
theorem on103 : oneTy Tryz.prog 103 = true := by kernel_rfl
theorem sz104 : sizeTy Tryz.prog 104 1 = true := by kernel_rfl
theorem on104 : oneTy Tryz.prog 104 = true := by kernel_rfl
theorem sl104 : SlTy Tryz.prog 104 103 1 8 := ZbQ (by kernel_rfl)
theorem sz105 : sizeTy Tryz.prog 105 1 = true := by kernel_rfl
theorem on105 : oneTy Tryz.prog 105 = true := by kernel_rfl
theorem sl105 : SlTy Tryz.prog 105 117 1 8 := ZbQ (by kernel_rfl)
theorem on106 : oneTy Tryz.prog 106 = true := by kernel_rfl
theorem ZbX : fieldInfo Tryz.prog 108 0 = some (0,1,false) := by kernel_rfl
theorem fi108_1 : fieldInfo Tryz.prog 108 1 = some (1,1,false) := by kernel_rfl
theorem fi108_2 : fieldInfo Tryz.prog 108 2 = some (2,1,false) := by kernel_rfl
theorem pl108 : placesOf Tryz.prog 108 = some [(0,1),(1,1),(2,1)] := by kernel_rfl
theorem zl108 : zeroL? Tryz.prog 108 = some [.d (.sl (some true) []), .d (.sl (some true) []), .d (.raw (.map none))] := by kernel_rfl
theorem sz109 : sizeTy Tryz.prog 109 1 = true := by kernel_rfl
theorem on109 : oneTy Tryz.prog 109 = true := by kernel_rfl
theorem sl109 : SlTy Tryz.prog 109 119 2 16 := ZbQ (by kernel_rfl)
theorem sz110 : sizeTy Tryz.prog 110 1 = true := by kernel_rfl
theorem on110 : oneTy Tryz.prog 110 = true := by kernel_rfl
theorem sl110 : SlTy Tryz.prog 110 165 2 16 := ZbQ (by kernel_rfl)
theorem fi112_0 : fieldInfo Tryz.prog 112 0 = some (0,6,true) := by kernel_rfl
theorem fi112_1 : fieldInfo Tryz.prog 112 1 = some (6,1,false) := by kernel_rfl
theorem fi112_2 : fieldInfo Tryz.prog 112 2 = some (7,1,false) := by kernel_rfl
theorem Zb5 : fieldInfo Tryz.prog 112 3 = some (8,1,false) := by kernel_rfl
theorem pl112 : placesOf Tryz.prog 112 = some [(0,6),(6,1),(7,1),(8,1)] := by kernel_rfl
theorem zl112 : zeroL? Tryz.prog 112 = some [.d (.raw (.int .i64 0)), .d (.raw (.int .i64 0)), .d (.raw (.int .i64 0)), .d (.sl (some true) []), .d (.sl (some true) []), .d (.sl (some true) []), .d (.sl (some true) []), .d (.sl (some true) []), .d (.raw (.bool false))] := by kernel_rfl
theorem sz117 : sizeTy Tryz.prog 117 1 = true := by kernel_rfl
theorem on117 : oneTy Tryz.prog 117 = true := by kernel_rfl
theorem zl117 : zeroL? Tryz.prog 117 = some [.d (.raw (.pointer none))] := by kernel_rfl
theorem sz119 : sizeTy Tryz.prog 119 2 = true := by kernel_rfl
theorem rw119 : rowTy Tryz.prog 119 2 = true := by kernel_rfl
theorem fi119_0 : fieldInfo Tryz.prog 119 0 = some (0,1,false) := by kernel_rfl
theorem fi119_1 : fieldInfo Tryz.prog 119 1 = some (1,1,false) := by kernel_rfl
theorem pl119 : placesOf Tryz.prog 119 = some [(0,1),(1,1)] := by kernel_rfl
theorem zl119 : zeroL? Tryz.prog 119 = some [.d (.raw (.pointer none)), .d (.raw (.int .i64 0))] := by kernel_rfl
theorem fi121_0 : fieldInfo Tryz.prog 121 0 = some (0,6,true) := by kernel_rfl
theorem ZbW : fieldInfo Tryz.prog 121 1 = some (6,1,false) := by kernel_rfl
theorem fi121_2 : fieldInfo Tryz.prog 121 2 = some (7,1,false) := by kernel_rfl
theorem fi121_3 : fieldInfo Tryz.prog 121 3 = some (8,1,false) := by kernel_rfl
theorem fi121_4 : fieldInfo Tryz.prog 121 4 = some (9,1,false) := by kernel_rfl
theorem pl121 : placesOf Tryz.prog 121 = some [(0,6),(6,1),(7,1),(8,1),(9,1)] := by kernel_rfl
theorem zl121 : zeroL? Tryz.prog 121 = some [.d (.raw (.int .i64 0)), .d (.raw (.string ⟨#[]⟩)), .d (.raw (.int .i64 0)), .d (.raw (.string ⟨#[]⟩)), .d (.raw (.string ⟨#[]⟩)), .d (.raw (.string ⟨#[]⟩)), .d (.raw (.int .i64 0)), .d (.raw (.int .i64 0)), .d (.sl (some true) []), .d (.raw (.int .i64 0))] := by kernel_rfl
theorem sz125 : sizeTy Tryz.prog 125 4 = true := by kernel_rfl
theorem rw125 : rowTy Tryz.prog 125 4 = true := by kernel_rfl
theorem fi125_0 : fieldInfo Tryz.prog 125 0 = some (0,3,true) := by kernel_rfl
theorem fi125_1 : fieldInfo Tryz.prog 125 1 = some (3,1,false) := by kernel_rfl
theorem zl125 : zeroL? Tryz.prog 125 = some [.d (.raw (.string ⟨#[]⟩)), .d (.raw (.int .i64 0)), .d (.raw (.string ⟨#[]⟩)), .d (.raw (.int .i64 0))] := by kernel_rfl
theorem sz127 : sizeTy Tryz.prog 127 3 = true := by kernel_rfl
theorem rw127 : rowTy Tryz.prog 127 3 = true := by kernel_rfl
theorem fi127_0 : fieldInfo Tryz.prog 127 0 = some (0,1,false) := by kernel_rfl
theorem fi127_1 : fieldInfo Tryz.prog 127 1 = some (1,1,false) := by kernel_rfl
theorem fi127_2 : fieldInfo Tryz.prog 127 2 = some (2,1,false) := by kernel_rfl
theorem zl127 : zeroL? Tryz.prog 127 = some [.d (.raw (.string ⟨#[]⟩)), .d (.raw (.string ⟨#[]⟩)), .d (.raw (.int .i64 0))] := by kernel_rfl
theorem sz138 : sizeTy Tryz.prog 138 1 = true := by kernel_rfl
theorem on138 : oneTy Tryz.prog 138 = true := by kernel_rfl
theorem zl138 : zeroL? Tryz.prog 138 = some [.d (.raw (.map none))] := by kernel_rfl
theorem sz144 : sizeTy Tryz.prog 144 4 = true := by kernel_rfl
theorem rw144 : rowTy Tryz.prog 144 4 = true := by kernel_rfl
theorem fi144_0 : fieldInfo Tryz.prog 144 0 = some (0,3,true) := by kernel_rfl
theorem fi144_1 : fieldInfo Tryz.prog 144 1 = some (3,1,false) := by kernel_rfl
theorem pl144 : placesOf Tryz.prog 144 = some [(0,3),(3,1)] := by kernel_rfl
theorem zl144 : zeroL? Tryz.prog 144 = some [.d (.raw (.string ⟨#[]⟩)), .d (.raw (.int .i64 0)), .d (.raw (.string ⟨#[]⟩)), .d (.raw (.int .i64 0))] := by kernel_rfl
theorem sz145 : sizeTy Tryz.prog 145 3 = true := by kernel_rfl
theorem rw145 : rowTy Tryz.prog 145 3 = true := by kernel_rfl
theorem fi145_0 : fieldInfo Tryz.prog 145 0 = some (0,1,false) := by kernel_rfl
theorem fi145_1 : fieldInfo Tryz.prog 145 1 = some (1,1,false) := by kernel_rfl
theorem fi145_2 : fieldInfo Tryz.prog 145 2 = some (2,1,false) := by kernel_rfl
theorem zl145 : zeroL? Tryz.prog 145 = some [.d (.raw (.string ⟨#[]⟩)), .d (.raw (.string ⟨#[]⟩)), .d (.raw (.int .i64 0))] := by kernel_rfl
theorem sl146 : SlTy Tryz.prog 146 56 6 80 := ZbQ (by kernel_rfl)
theorem sz150 : sizeTy Tryz.prog 150 1 = true := by kernel_rfl
theorem on150 : oneTy Tryz.prog 150 = true := by kernel_rfl
theorem sl155 : SlTy Tryz.prog 155 158 7 88 := ZbQ (by kernel_rfl)
theorem sz158 : sizeTy Tryz.prog 158 7 = true := by kernel_rfl
theorem rw158 : rowTy Tryz.prog 158 7 = true := by kernel_rfl
theorem fi158_0 : fieldInfo Tryz.prog 158 0 = some (0,6,true) := by kernel_rfl
theorem fi158_1 : fieldInfo Tryz.prog 158 1 = some (6,1,false) := by kernel_rfl
theorem pl158 : placesOf Tryz.prog 158 = some [(0,6),(6,1)] := by kernel_rfl
theorem zl158 : zeroL? Tryz.prog 158 = some [.d (.raw (.int .i64 0)), .d (.raw (.string ⟨#[]⟩)), .d (.raw (.int .i64 0)), .d (.raw (.string ⟨#[]⟩)), .d (.raw (.string ⟨#[]⟩)), .d (.raw (.string ⟨#[]⟩)), .d (.raw (.int .i64 0))] := by kernel_rfl
theorem sz165 : sizeTy Tryz.prog 165 2 = true := by kernel_rfl
theorem rw165 : rowTy Tryz.prog 165 2 = true := by kernel_rfl
theorem fi165_0 : fieldInfo Tryz.prog 165 0 = some (0,1,false) := by kernel_rfl
theorem fi165_1 : fieldInfo Tryz.prog 165 1 = some (1,1,false) := by kernel_rfl
theorem pl165 : placesOf Tryz.prog 165 = some [(0,1),(1,1)] := by kernel_rfl
theorem zl165 : zeroL? Tryz.prog 165 = some [.d (.raw (.pointer none)), .d (.raw (.int .i64 0))] := by kernel_rfl
theorem sl195 : SlTy Tryz.prog 195 150 1 8 := ZbQ (by kernel_rfl)
theorem mt106 : mapTyB Tryz.prog 106 3 103 = true := by kernel_rfl
theorem kt3 : KeyTy Tryz.prog 3 (fun z : Int => .raw (.int .i64 z)) (fun z => .int .i64 z) := KeyTy.int Tryz.underlying3
theorem za103 : zeroA? Tryz.prog 103 = some (.d (.raw (.pointer none))) := by kernel_rfl
theorem mt138 : mapTyB Tryz.prog 138 3 4 = true := by kernel_rfl
theorem za4 : zeroA? Tryz.prog 4 = some (.d (.raw (.bool false))) := by kernel_rfl
theorem mt151 : mapTyB Tryz.prog 151 51 117 = true := by kernel_rfl
theorem za117 : zeroA? Tryz.prog 117 = some (.d (.raw (.pointer none))) := by kernel_rfl
theorem mt178 : mapTyB Tryz.prog 178 51 2 = true := by kernel_rfl
theorem za2 : zeroA? Tryz.prog 2 = some (.d (.raw (.int .i64 0))) := by kernel_rfl
theorem mt192 : mapTyB Tryz.prog 192 51 4 = true := by kernel_rfl
theorem mt212 : mapTyB Tryz.prog 212 9 2 = true := by kernel_rfl
theorem kt9 : KeyTy Tryz.prog 9 strD strV := KeyTy.str Tryz.underlying9
end Go.Proofs.YtneihdahboilnaaGreat
