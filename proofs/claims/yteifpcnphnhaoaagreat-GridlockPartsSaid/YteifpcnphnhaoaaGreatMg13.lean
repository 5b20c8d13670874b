import Derived.Test.YteifpcnphnhaoaaGreatMg12
import Derived.Test.YteifpcnphnhaoaaGreatRows
open Go.Proofs.Tryz
namespace Go.Proofs.YteifpcnphnhaoaaGreat
open Go.RowKit
theorem E0:type_of% @Tryz.underlying28:=@Tryz.underlying28
theorem F0:type_of% @Tryz.underlying23:=@Tryz.underlying23
theorem No:type_of% @Tryz.underlying37:=@Tryz.underlying37
theorem Qs:type_of% @Tryz.underlying90:=@Tryz.underlying90
theorem Ri:type_of% @Tryz.underlying22:=@Tryz.underlying22
theorem S1:type_of% @Tryz.underlying147:=@Tryz.underlying147
theorem T1:type_of% @Tryz.underlying29:=@Tryz.underlying29
theorem an:type_of% @Tryz.underlying36:=@Tryz.underlying36
theorem b0:type_of% @Tryz.underlying91:=@Tryz.underlying91
theorem ch:type_of% @Tryz.underlying194:=@Tryz.underlying194
theorem cj:type_of% @Tryz.underlying175:=@Tryz.underlying175
theorem cl:type_of% @Tryz.underlying122:=@Tryz.underlying122
theorem dd:type_of% @Tryz.underlying52:=@Tryz.underlying52
theorem dr:type_of% @Tryz.underlying53:=@Tryz.underlying53
theorem ea:type_of% @Tryz.underlying319:=@Tryz.underlying319
theorem mixed:prog.follows .mixedOrders=true:=by kernel_rfl
theorem vb:A4 prog 1 1=true:=by kernel_rfl
theorem vd:BU prog 1=true:=by kernel_rfl
theorem u1:A4 prog 2 1=true:=by kernel_rfl
theorem Fo:BU prog 2=true:=by kernel_rfl
theorem BW:A4 prog 3 1=true:=by kernel_rfl
theorem Am:BU prog 3=true:=by kernel_rfl
theorem oj:Nt prog 3=some (.raw (.int .i64 0)):=by kernel_rfl
theorem sO:A4 prog 4 1=true:=by kernel_rfl
theorem p8:BU prog 4=true:=by kernel_rfl
theorem v9:Ar prog 4=some [.d (.raw (.bool false))]:=by kernel_rfl
theorem va:A4 prog 9 1=true:=by kernel_rfl
theorem CJ:BU prog 9=true:=by kernel_rfl
theorem u0:A4 prog 22 1=true:=by kernel_rfl
theorem GQ:BU prog 22=true:=by kernel_rfl
theorem Yr:gI prog 22 100 7 88:=Md (by kernel_rfl)
theorem sR:A4 prog 23 1=true:=by kernel_rfl
theorem DI:BU prog 23=true:=by kernel_rfl
theorem J7:gI prog 23 93 6 96:=Md (by kernel_rfl)
theorem pF:A4 prog 25 2=true:=by kernel_rfl
theorem EE:CA prog 25 2=true:=by kernel_rfl
theorem P5:AH prog 25 0=some (0,1,false):=by kernel_rfl
theorem J5:AH prog 25 1=some (1,1,false):=by kernel_rfl
theorem uq:As prog 25=some [(0,1),(1,1)]:=by kernel_rfl
theorem aZ:Ar prog 25=some [.d (.sl (some true) []),.d (.sl (some true) [])]:=by kernel_rfl
theorem DD:A4 prog 28 1=true:=by kernel_rfl
theorem BH:BU prog 28=true:=by kernel_rfl
theorem ru:Ar prog 28=some [.d (.sl (some true) [])]:=by kernel_rfl
theorem sD:Nt prog 28=some (.sl (some true) []):=by kernel_rfl
theorem BR:gI prog 28 3 1 8:=Md (by kernel_rfl)
theorem sQ:A4 prog 29 1=true:=by kernel_rfl
theorem tC:BU prog 29=true:=by kernel_rfl
theorem OL:gI prog 29 28 1 24:=Md (by kernel_rfl)
theorem uZ:A4 prog 30 1=true:=by kernel_rfl
theorem p9:BU prog 30=true:=by kernel_rfl
theorem pM:gI prog 30 66 8 96:=Md (by kernel_rfl)
theorem sP:A4 prog 32 5=true:=by kernel_rfl
theorem u9:CA prog 32 5=true:=by kernel_rfl
theorem jX:AH prog 32 0=some (0,1,false):=by kernel_rfl
theorem kG:AH prog 32 1=some (1,1,false):=by kernel_rfl
theorem eG:AH prog 32 2=some (2,1,false):=by kernel_rfl
theorem kF:AH prog 32 3=some (3,1,false):=by kernel_rfl
theorem iv:AH prog 32 4=some (4,1,false):=by kernel_rfl
theorem oi:Ar prog 32=some [.d (.sl (some true) []),.d (.sl (some true) []),.d (.sl (some true) []),.d (.sl (some true) []),.d (.sl (some true) [])]:=by kernel_rfl
theorem bB:A4 prog 33 1=true:=by kernel_rfl
theorem ut:BU prog 33=true:=by kernel_rfl
theorem uU:Ar prog 33=some [.d (.raw (.int .i64 0))]:=by kernel_rfl
theorem pE:A4 prog 36 1=true:=by kernel_rfl
theorem NO:BU prog 36=true:=by kernel_rfl
theorem NL:gI prog 36 88 7 88:=Md (by kernel_rfl)
theorem kn:A4 prog 37 1=true:=by kernel_rfl
theorem IR:BU prog 37=true:=by kernel_rfl
theorem Lh:gI prog 37 55 6 96:=Md (by kernel_rfl)
theorem Yc:A4 prog 39 2=true:=by kernel_rfl
theorem Bp:CA prog 39 2=true:=by kernel_rfl
theorem DW:AH prog 39 0=some (0,1,false):=by kernel_rfl
theorem Cc:AH prog 39 1=some (1,1,false):=by kernel_rfl
theorem uo:As prog 39=some [(0,1),(1,1)]:=by kernel_rfl
theorem Ph:Ar prog 39=some [.d (.sl (some true) []),.d (.sl (some true) [])]:=by kernel_rfl
theorem pC:A4 prog 52 1=true:=by kernel_rfl
theorem Pp:BU prog 52=true:=by kernel_rfl
theorem Yq:gI prog 52 158 4 48:=Md (by kernel_rfl)
theorem pB:A4 prog 53 1=true:=by kernel_rfl
theorem Tb:BU prog 53=true:=by kernel_rfl
theorem bZ:gI prog 53 161 3 40:=Md (by kernel_rfl)
theorem Ch:A4 prog 55 6=true:=by kernel_rfl
theorem CM:CA prog 55 6=true:=by kernel_rfl
theorem Nr:AH prog 55 0=some (0,1,false):=by kernel_rfl
theorem SC:AH prog 55 1=some (1,1,false):=by kernel_rfl
theorem MS:AH prog 55 2=some (2,1,false):=by kernel_rfl
theorem EZ:AH prog 55 3=some (3,1,false):=by kernel_rfl
theorem Fx:AH prog 55 4=some (4,1,false):=by kernel_rfl
theorem Dz:AH prog 55 5=some (5,1,false):=by kernel_rfl
theorem pX:As prog 55=some [(0,1),(1,1),(2,1),(3,1),(4,1),(5,1)]:=by kernel_rfl
theorem FK:Ar prog 55=some [.d (.raw (.int .i64 0)),.d (.raw (.int .i64 0)),.d (.raw (.int .i64 0)),.d (.sl (some true) []),.d (.sl (some true) []),.d (.sl (some true) [])]:=by kernel_rfl
theorem bh:CA prog 62 3=true:=by kernel_rfl
theorem SB:AH prog 62 0=some (0,1,false):=by kernel_rfl
theorem PE:AH prog 62 1=some (1,1,false):=by kernel_rfl
theorem PD:AH prog 62 2=some (2,1,false):=by kernel_rfl
theorem cT:As prog 62=some [(0,1),(1,1),(2,1)]:=by kernel_rfl
theorem aY:Ar prog 62=some [.d (.raw (.string ⟨#[]⟩)),.d (.raw (.int .i64 0)),.d (.raw (.string ⟨#[]⟩))]:=by kernel_rfl
theorem Yb:A4 prog 64 6=true:=by kernel_rfl
theorem C9:CA prog 64 6=true:=by kernel_rfl
theorem SA:AH prog 64 0=some (0,1,false):=by kernel_rfl
theorem EY:AH prog 64 1=some (1,3,true):=by kernel_rfl
theorem KE:AH prog 64 2=some (4,1,false):=by kernel_rfl
theorem KD:AH prog 64 3=some (5,1,false):=by kernel_rfl
theorem T6:As prog 64=some [(0,1),(1,3),(4,1),(5,1)]:=by kernel_rfl
theorem KM:Ar prog 64=some [.d (.raw (.int .i64 0)),.d (.raw (.string ⟨#[]⟩)),.d (.raw (.int .i64 0)),.d (.raw (.string ⟨#[]⟩)),.d (.raw (.string ⟨#[]⟩)),.d (.raw (.string ⟨#[]⟩))]:=by kernel_rfl
theorem sN:A4 prog 66 8=true:=by kernel_rfl
theorem qj:AH prog 66 0=some (0,1,false):=by kernel_rfl
theorem qi:AH prog 66 2=some (7,1,false):=by kernel_rfl
theorem un:As prog 66=some [(0,1),(1,6),(7,1)]:=by kernel_rfl
theorem uT:Ar prog 66=some [.d (.raw (.int .i64 0)),.d (.raw (.int .i64 0)),.d (.raw (.string ⟨#[]⟩)),.d (.raw (.int .i64 0)),.d (.raw (.string ⟨#[]⟩)),.d (.raw (.string ⟨#[]⟩)),.d (.raw (.string ⟨#[]⟩)),.d (.raw (.int .i64 0))]:=by kernel_rfl
theorem pL:gI prog 69 73 7 88:=Md (by kernel_rfl)
theorem sM:A4 prog 73 7=true:=by kernel_rfl
theorem qg:AH prog 73 0=some (0,6,true):=by kernel_rfl
theorem qf:AH prog 73 1=some (6,1,false):=by kernel_rfl
theorem um:As prog 73=some [(0,6),(6,1)]:=by kernel_rfl
theorem uS:Ar prog 73=some [.d (.raw (.int .i64 0)),.d (.raw (.string ⟨#[]⟩)),.d (.raw (.int .i64 0)),.d (.raw (.string ⟨#[]⟩)),.d (.raw (.string ⟨#[]⟩)),.d (.raw (.string ⟨#[]⟩)),.d (.raw (.int .i64 0))]:=by kernel_rfl
theorem u6:gI prog 86 9 1 16:=Md (by kernel_rfl)
theorem KS:A4 prog 88 7=true:=by kernel_rfl
theorem Vi:CA prog 88 7=true:=by kernel_rfl
theorem EX:AH prog 88 0=some (0,6,true):=by kernel_rfl
theorem PB:AH prog 88 1=some (6,1,false):=by kernel_rfl
theorem pW:As prog 88=some [(0,6),(6,1)]:=by kernel_rfl
theorem RP:Ar prog 88=some [.d (.raw (.int .i64 0)),.d (.raw (.string ⟨#[]⟩)),.d (.raw (.int .i64 0)),.d (.raw (.string ⟨#[]⟩)),.d (.raw (.string ⟨#[]⟩)),.d (.raw (.string ⟨#[]⟩)),.d (.raw (.int .i64 0))]:=by kernel_rfl
theorem uY:A4 prog 90 1=true:=by kernel_rfl
theorem Fn:BU prog 90=true:=by kernel_rfl
theorem pK:gI prog 90 192 4 48:=Md (by kernel_rfl)
theorem uX:A4 prog 91 1=true:=by kernel_rfl
theorem Ja:BU prog 91=true:=by kernel_rfl
theorem pJ:gI prog 91 193 3 40:=Md (by kernel_rfl)
theorem Cz:A4 prog 93 6=true:=by kernel_rfl
theorem G8:CA prog 93 6=true:=by kernel_rfl
theorem Fw:AH prog 93 0=some (0,1,false):=by kernel_rfl
theorem Hu:AH prog 93 1=some (1,1,false):=by kernel_rfl
theorem Iq:AH prog 93 2=some (2,1,false):=by kernel_rfl
theorem Ns:AH prog 93 3=some (3,1,false):=by kernel_rfl
theorem Cp:AH prog 93 4=some (4,1,false):=by kernel_rfl
theorem QB:AH prog 93 5=some (5,1,false):=by kernel_rfl
theorem ul:As prog 93=some [(0,1),(1,1),(2,1),(3,1),(4,1),(5,1)]:=by kernel_rfl
theorem VW:Ar prog 93=some [.d (.raw (.int .i64 0)),.d (.raw (.int .i64 0)),.d (.raw (.int .i64 0)),.d (.sl (some true) []),.d (.sl (some true) []),.d (.sl (some true) [])]:=by kernel_rfl
theorem u5:gI prog 94 1 1 8:=Md (by kernel_rfl)
theorem Yu:CA prog 96 3=true:=by kernel_rfl
theorem Rz:AH prog 96 0=some (0,1,false):=by kernel_rfl
theorem MR:AH prog 96 1=some (1,1,false):=by kernel_rfl
theorem MQ:AH prog 96 2=some (2,1,false):=by kernel_rfl
theorem uk:As prog 96=some [(0,1),(1,1),(2,1)]:=by kernel_rfl
theorem uR:Ar prog 96=some [.d (.raw (.string ⟨#[]⟩)),.d (.raw (.int .i64 0)),.d (.raw (.string ⟨#[]⟩))]:=by kernel_rfl
theorem KR:A4 prog 98 6=true:=by kernel_rfl
theorem G7:CA prog 98 6=true:=by kernel_rfl
theorem Ge:AH prog 98 0=some (0,1,false):=by kernel_rfl
theorem EW:AH prog 98 1=some (1,3,true):=by kernel_rfl
theorem FC:AH prog 98 2=some (4,1,false):=by kernel_rfl
theorem FB:AH prog 98 3=some (5,1,false):=by kernel_rfl
theorem ZH:As prog 98=some [(0,1),(1,3),(4,1),(5,1)]:=by kernel_rfl
theorem Sf:Ar prog 98=some [.d (.raw (.int .i64 0)),.d (.raw (.string ⟨#[]⟩)),.d (.raw (.int .i64 0)),.d (.raw (.string ⟨#[]⟩)),.d (.raw (.string ⟨#[]⟩)),.d (.raw (.string ⟨#[]⟩))]:=by kernel_rfl
theorem IH:A4 prog 100 7=true:=by kernel_rfl
theorem bp:CA prog 100 7=true:=by kernel_rfl
theorem J0:AH prog 100 0=some (0,6,true):=by kernel_rfl
theorem SH:AH prog 100 1=some (6,1,false):=by kernel_rfl
theorem sw:As prog 100=some [(0,6),(6,1)]:=by kernel_rfl
theorem sC:Ar prog 100=some [.d (.raw (.int .i64 0)),.d (.raw (.string ⟨#[]⟩)),.d (.raw (.int .i64 0)),.d (.raw (.string ⟨#[]⟩)),.d (.raw (.string ⟨#[]⟩)),.d (.raw (.string ⟨#[]⟩)),.d (.raw (.int .i64 0))]:=by kernel_rfl
theorem bc:gI prog 122 131 7 104:=Md (by kernel_rfl)
theorem bF:A4 prog 124 1=true:=by kernel_rfl
theorem Te:BU prog 124=true:=by kernel_rfl
theorem ae:Ar prog 124=some [.d (.raw .nilFunc)]:=by kernel_rfl
theorem Td:BU prog 129=true:=by kernel_rfl
theorem GV:A4 prog 131 7=true:=by kernel_rfl
theorem K3:CA prog 131 7=true:=by kernel_rfl
theorem JZ:AH prog 131 0=some (0,6,true):=by kernel_rfl
theorem LQ:AH prog 131 1=some (6,1,false):=by kernel_rfl
theorem sv:As prog 131=some [(0,6),(6,1)]:=by kernel_rfl
theorem Me:Ar prog 131=some [.d (.raw (.int .i64 0)),.d (.raw (.int .i64 0)),.d (.raw (.int .i64 0)),.d (.sl (some true) []),.d (.sl (some true) []),.d (.sl (some true) []),.d (.raw (.map none))]:=by kernel_rfl
theorem bE:A4 prog 137 1=true:=by kernel_rfl
theorem Q8:BU prog 137=true:=by kernel_rfl
theorem ac:Ar prog 137=some [.d (.raw (.map none))]:=by kernel_rfl
theorem OM:gI prog 141 144 8 96:=Md (by kernel_rfl)
theorem ns:A4 prog 144 8=true:=by kernel_rfl
theorem s5:CA prog 144 8=true:=by kernel_rfl
theorem mQ:AH prog 144 1=some (1,1,false):=by kernel_rfl
theorem oM:As prog 144=some [(0,1),(1,1),(2,6)]:=by kernel_rfl
theorem ab:Ar prog 144=some [.d (.raw (.int .i64 0)),.d (.raw (.int .i64 0)),.d (.raw (.int .i64 0)),.d (.raw (.string ⟨#[]⟩)),.d (.raw (.int .i64 0)),.d (.raw (.string ⟨#[]⟩)),.d (.raw (.string ⟨#[]⟩)),.d (.raw (.string ⟨#[]⟩))]:=by kernel_rfl
theorem sY:A4 prog 146 1=true:=by kernel_rfl
theorem tE:BU prog 146=true:=by kernel_rfl
theorem XH:gI prog 147 28 1 24:=Md (by kernel_rfl)
theorem Mh:A4 prog 158 4=true:=by kernel_rfl
theorem bo:CA prog 158 4=true:=by kernel_rfl
theorem JY:AH prog 158 0=some (0,3,true):=by kernel_rfl
theorem Ng:AH prog 158 1=some (3,1,false):=by kernel_rfl
theorem cU:As prog 158=some [(0,3),(3,1)]:=by kernel_rfl
theorem QH:Ar prog 158=some [.d (.raw (.string ⟨#[]⟩)),.d (.raw (.int .i64 0)),.d (.raw (.string ⟨#[]⟩)),.d (.raw (.int .i64 0))]:=by kernel_rfl
theorem Sr:A4 prog 161 3=true:=by kernel_rfl
theorem bm:CA prog 161 3=true:=by kernel_rfl
theorem LP:AH prog 161 0=some (0,1,false):=by kernel_rfl
theorem LO:AH prog 161 1=some (1,1,false):=by kernel_rfl
theorem LN:AH prog 161 2=some (2,1,false):=by kernel_rfl
theorem nk:Ar prog 161=some [.d (.raw (.string ⟨#[]⟩)),.d (.raw (.string ⟨#[]⟩)),.d (.raw (.int .i64 0))]:=by kernel_rfl
theorem bb:gI prog 168 245 9 104:=Md (by kernel_rfl)
theorem sX:A4 prog 171 1=true:=by kernel_rfl
theorem XZ:BU prog 171=true:=by kernel_rfl
theorem sB:Ar prog 171=some [.d (.raw (.pointer none))]:=by kernel_rfl
theorem nq:A4 prog 175 1=true:=by kernel_rfl
theorem HD:BU prog 175=true:=by kernel_rfl
theorem XG:gI prog 175 176 1 8:=Md (by kernel_rfl)
theorem Mg:A4 prog 176 1=true:=by kernel_rfl
theorem O2:BU prog 176=true:=by kernel_rfl
theorem sW:A4 prog 177 1=true:=by kernel_rfl
theorem XY:BU prog 177=true:=by kernel_rfl
theorem oD:gI prog 177 186 1 8:=Md (by kernel_rfl)
theorem XX:BU prog 178=true:=by kernel_rfl
theorem JX:AH prog 180 0=some (0,1,false):=by kernel_rfl
theorem LM:AH prog 180 1=some (1,1,false):=by kernel_rfl
theorem Nf:AH prog 180 2=some (2,1,false):=by kernel_rfl
theorem su:As prog 180=some [(0,1),(1,1),(2,1)]:=by kernel_rfl
theorem sA:Ar prog 180=some [.d (.sl (some true) []),.d (.sl (some true) []),.d (.raw (.map none))]:=by kernel_rfl
theorem sU:A4 prog 181 1=true:=by kernel_rfl
theorem XW:BU prog 181=true:=by kernel_rfl
theorem nz:gI prog 181 188 2 16:=Md (by kernel_rfl)
theorem sT:A4 prog 182 1=true:=by kernel_rfl
theorem XV:BU prog 182=true:=by kernel_rfl
theorem ny:gI prog 182 254 2 16:=Md (by kernel_rfl)
theorem G2:AH prog 184 0=some (0,6,true):=by kernel_rfl
theorem LL:AH prog 184 1=some (6,1,false):=by kernel_rfl
theorem LK:AH prog 184 2=some (7,1,false):=by kernel_rfl
theorem FT:AH prog 184 3=some (8,1,false):=by kernel_rfl
theorem ss:As prog 184=some [(0,6),(6,1),(7,1),(8,1)]:=by kernel_rfl
theorem rz:Ar prog 184=some [.d (.raw (.int .i64 0)),.d (.raw (.int .i64 0)),.d (.raw (.int .i64 0)),.d (.sl (some true) []),.d (.sl (some true) []),.d (.sl (some true) []),.d (.sl (some true) []),.d (.sl (some true) []),.d (.raw (.bool false))]:=by kernel_rfl
theorem bD:A4 prog 186 1=true:=by kernel_rfl
theorem FE:BU prog 186=true:=by kernel_rfl
theorem ry:Ar prog 186=some [.d (.raw (.pointer none))]:=by kernel_rfl
theorem Sq:A4 prog 188 2=true:=by kernel_rfl
theorem bk:CA prog 188 2=true:=by kernel_rfl
theorem SG:AH prog 188 0=some (0,1,false):=by kernel_rfl
theorem SF:AH prog 188 1=some (1,1,false):=by kernel_rfl
theorem sr:As prog 188=some [(0,1),(1,1)]:=by kernel_rfl
theorem aa:Ar prog 188=some [.d (.raw (.pointer none)),.d (.raw (.int .i64 0))]:=by kernel_rfl
theorem Nc:AH prog 190 0=some (0,6,true):=by kernel_rfl
theorem SE:AH prog 190 1=some (6,1,false):=by kernel_rfl
theorem LJ:AH prog 190 2=some (7,1,false):=by kernel_rfl
theorem Hw:AH prog 190 3=some (8,1,false):=by kernel_rfl
theorem LI:AH prog 190 4=some (9,1,false):=by kernel_rfl
theorem sp:As prog 190=some [(0,6),(6,1),(7,1),(8,1),(9,1)]:=by kernel_rfl
theorem rx:Ar prog 190=some [.d (.raw (.int .i64 0)),.d (.raw (.string ⟨#[]⟩)),.d (.raw (.int .i64 0)),.d (.raw (.string ⟨#[]⟩)),.d (.raw (.string ⟨#[]⟩)),.d (.raw (.string ⟨#[]⟩)),.d (.raw (.int .i64 0)),.d (.raw (.int .i64 0)),.d (.sl (some true) []),.d (.raw (.int .i64 0))]:=by kernel_rfl
theorem IG:A4 prog 192 4=true:=by kernel_rfl
theorem bj:CA prog 192 4=true:=by kernel_rfl
theorem FR:AH prog 192 0=some (0,3,true):=by kernel_rfl
theorem LH:AH prog 192 1=some (3,1,false):=by kernel_rfl
theorem so:As prog 192=some [(0,3),(3,1)]:=by kernel_rfl
theorem nj:Ar prog 192=some [.d (.raw (.string ⟨#[]⟩)),.d (.raw (.int .i64 0)),.d (.raw (.string ⟨#[]⟩)),.d (.raw (.int .i64 0))]:=by kernel_rfl
theorem KV:A4 prog 193 3=true:=by kernel_rfl
theorem QR:CA prog 193 3=true:=by kernel_rfl
theorem Eg:AH prog 193 0=some (0,1,false):=by kernel_rfl
theorem Ef:AH prog 193 1=some (1,1,false):=by kernel_rfl
theorem DN:AH prog 193 2=some (2,1,false):=by kernel_rfl
theorem a9:Ar prog 193=some [.d (.raw (.string ⟨#[]⟩)),.d (.raw (.string ⟨#[]⟩)),.d (.raw (.int .i64 0))]:=by kernel_rfl
theorem D4:gI prog 194 98 6 80:=Md (by kernel_rfl)
theorem ba:gI prog 215 218 7 88:=Md (by kernel_rfl)
theorem Wx:A4 prog 218 7=true:=by kernel_rfl
theorem oG:CA prog 218 7=true:=by kernel_rfl
theorem LG:AH prog 218 0=some (0,6,true):=by kernel_rfl
theorem Xv:AH prog 218 1=some (6,1,false):=by kernel_rfl
theorem sm:As prog 218=some [(0,6),(6,1)]:=by kernel_rfl
theorem a8:Ar prog 218=some [.d (.raw (.int .i64 0)),.d (.raw (.string ⟨#[]⟩)),.d (.raw (.int .i64 0)),.d (.raw (.string ⟨#[]⟩)),.d (.raw (.string ⟨#[]⟩)),.d (.raw (.string ⟨#[]⟩)),.d (.raw (.int .i64 0))]:=by kernel_rfl
theorem Tc:BU prog 226=true:=by kernel_rfl
theorem sS:A4 prog 227 1=true:=by kernel_rfl
theorem XU:BU prog 227=true:=by kernel_rfl
theorem b9:gI prog 227 233 8 112:=Md (by kernel_rfl)
theorem LF:AH prog 229 0=some (0,1,false):=by kernel_rfl
theorem mP:AH prog 229 1=some (1,1,false):=by kernel_rfl
theorem LE:AH prog 229 2=some (2,1,false):=by kernel_rfl
theorem sk:As prog 229=some [(0,1),(1,1),(2,1)]:=by kernel_rfl
theorem rv:Ar prog 229=some [.d (.raw (.map none)),.d (.sl (some true) []),.d (.sl (some true) [])]:=by kernel_rfl
theorem Ww:A4 prog 233 8=true:=by kernel_rfl
theorem oF:CA prog 233 8=true:=by kernel_rfl
theorem LD:AH prog 233 0=some (0,6,true):=by kernel_rfl
theorem mO:AH prog 233 1=some (6,1,false):=by kernel_rfl
theorem Xu:AH prog 233 2=some (7,1,false):=by kernel_rfl
theorem sj:As prog 233=some [(0,6),(6,1),(7,1)]:=by kernel_rfl
theorem a7:Ar prog 233=some [.d (.raw (.int .i64 0)),.d (.raw (.string ⟨#[]⟩)),.d (.raw (.int .i64 0)),.d (.raw (.string ⟨#[]⟩)),.d (.raw (.string ⟨#[]⟩)),.d (.raw (.string ⟨#[]⟩)),.d (.raw (.int .i64 0)),.d (.sl (some true) [])]:=by kernel_rfl
theorem KU:A4 prog 245 9=true:=by kernel_rfl
theorem oE:CA prog 245 9=true:=by kernel_rfl
theorem mN:AH prog 245 0=some (0,1,false):=by kernel_rfl
theorem T7:As prog 245=some [(0,1),(1,1),(2,6),(8,1)]:=by kernel_rfl
theorem Jf:Ar prog 245=some [.d (.raw (.int .i64 0)),.d (.raw (.int .i64 0)),.d (.raw (.int .i64 0)),.d (.raw (.string ⟨#[]⟩)),.d (.raw (.int .i64 0)),.d (.raw (.string ⟨#[]⟩)),.d (.raw (.string ⟨#[]⟩)),.d (.raw (.string ⟨#[]⟩)),.d (.raw (.int .i64 0))]:=by kernel_rfl
theorem QJ:A4 prog 254 2=true:=by kernel_rfl
theorem bi:CA prog 254 2=true:=by kernel_rfl
theorem Hv:AH prog 254 0=some (0,1,false):=by kernel_rfl
theorem SD:AH prog 254 1=some (1,1,false):=by kernel_rfl
theorem si:As prog 254=some [(0,1),(1,1)]:=by kernel_rfl
theorem Wl:Ar prog 254=some [.d (.raw (.pointer none)),.d (.raw (.int .i64 0))]:=by kernel_rfl
theorem sZ:gI prog 273 146 1 8:=Md (by kernel_rfl)
theorem tD:BU prog 283=true:=by kernel_rfl
theorem bC:A4 prog 318 2=true:=by kernel_rfl
theorem FQ:AH prog 318 0=some (0,1,false):=by kernel_rfl
theorem LC:AH prog 318 1=some (1,1,false):=by kernel_rfl
theorem oL:As prog 318=some [(0,1),(1,1)]:=by kernel_rfl
theorem ng:Ar prog 318=some [.d (.raw (.int .i64 0)),.d (.raw (.int .i64 0))]:=by kernel_rfl
theorem b6:gI prog 319 318 2 16:=Md (by kernel_rfl)
theorem YO:AH prog 323 0=some (0,1,false):=by kernel_rfl
theorem mM:AH prog 323 1=some (1,1,false):=by kernel_rfl
theorem sh:As prog 323=some [(0,1),(1,1)]:=by kernel_rfl
theorem rr:Ar prog 323=some [.d (.sl (some true) []),.d (.raw .nilFunc)]:=by kernel_rfl
theorem oT:Bm prog 127 64 3=true:=by kernel_rfl
theorem vW:Cy prog 3=some (.d (.raw (.int .i64 0))):=by kernel_rfl
theorem IS:Bs prog 3 (λz:Int=> .raw (.int .i64 z)) (λz=> .int .i64 z):=Bs.int underlying3
theorem oR:Bm prog 128 3 3=true:=by kernel_rfl
theorem CP:Bm prog 129 64 2=true:=by kernel_rfl
theorem P9:Cy prog 2=some (.d (.raw (.int .i64 0))):=by kernel_rfl
theorem Eo:Bm prog 137 3 4=true:=by kernel_rfl
theorem Sh:Cy prog 4=some (.d (.raw (.bool false))):=by kernel_rfl
theorem Jh:Bm prog 138 3 4=true:=by kernel_rfl
theorem Qe:Bm prog 155 64 4=true:=by kernel_rfl
theorem Xa:Bm prog 178 3 176=true:=by kernel_rfl
theorem Wm:Cy prog 176=some (.d (.raw (.pointer none))):=by kernel_rfl
theorem Tr:Bm prog 226 3 55=true:=by kernel_rfl
theorem k7:Cy prog 55=some (.d (.agg [.raw (.int .i64 0),.raw (.int .i64 0),.raw (.int .i64 0),.sl (some true) [],.sl (some true) [],.sl (some true) []])):=by kernel_rfl
theorem X9:Bm prog 248 64 186=true:=by kernel_rfl
theorem ah:Cy prog 186=some (.d (.raw (.pointer none))):=by kernel_rfl
theorem dD:Bm prog 310 9 2=true:=by kernel_rfl
theorem v1:Bs prog 9 An Gr:=Bs.str underlying9
end Go.Proofs.YteifpcnphnhaoaaGreat
