import Derived.Test.YteifpcnphnhaoaaGreatMg12
import Derived.Test.YteifpcnphnhaoaaGreatRows
open Go.Proofs.Tryz
namespace Go.Proofs.YteifpcnphnhaoaaGreat
open Go.RowKit
theorem E0:type_of% @Tryz.underlying28:=@Tryz.underlying28
theorem F0:type_of% @Tryz.underlying23:=@Tryz.underlying23
theorem No:type_of% @Tryz.underlying22:=@Tryz.underlying22
theorem Qs:type_of% @Tryz.underlying37:=@Tryz.underlying37
theorem R3:type_of% @Tryz.underlying147:=@Tryz.underlying147
theorem R4:type_of% @Tryz.underlying29:=@Tryz.underlying29
theorem R5:type_of% @Tryz.underlying90:=@Tryz.underlying90
theorem Ri:type_of% @Tryz.underlying194:=@Tryz.underlying194
theorem S1:type_of% @Tryz.underlying175:=@Tryz.underlying175
theorem T1:type_of% @Tryz.underlying122:=@Tryz.underlying122
theorem an:type_of% @Tryz.underlying91:=@Tryz.underlying91
theorem b0:type_of% @Tryz.underlying36:=@Tryz.underlying36
theorem cB:type_of% @Tryz.underlying52:=@Tryz.underlying52
theorem cG:type_of% @Tryz.underlying30:=@Tryz.underlying30
theorem cW:type_of% @Tryz.underlying319:=@Tryz.underlying319
theorem cX:type_of% @Tryz.underlying53:=@Tryz.underlying53
theorem mixed:prog.follows .mixedOrders=true:=by kernel_rfl
theorem yZ:A3 prog 1 1=true:=by kernel_rfl
theorem y2:BW prog 1=true:=by kernel_rfl
theorem xY:A3 prog 2 1=true:=by kernel_rfl
theorem FJ:BW prog 2=true:=by kernel_rfl
theorem BK:A3 prog 3 1=true:=by kernel_rfl
theorem Ai:BW prog 3=true:=by kernel_rfl
theorem sY:Ob prog 3=some (.raw (.int .i64 0)):=by kernel_rfl
theorem v4:A3 prog 4 1=true:=by kernel_rfl
theorem tH:BW prog 4=true:=by kernel_rfl
theorem yX:Ar prog 4=some [.d (.raw (.bool false))]:=by kernel_rfl
theorem yY:A3 prog 9 1=true:=by kernel_rfl
theorem CZ:BW prog 9=true:=by kernel_rfl
theorem xX:A3 prog 22 1=true:=by kernel_rfl
theorem E3:BW prog 22=true:=by kernel_rfl
theorem Fx:jd prog 22 100 7 88:=MG (by kernel_rfl)
theorem xW:A3 prog 23 1=true:=by kernel_rfl
theorem Cz:BW prog 23=true:=by kernel_rfl
theorem MT:jd prog 23 93 6 96:=MG (by kernel_rfl)
theorem v8:A3 prog 25 2=true:=by kernel_rfl
theorem By:CI prog 25 2=true:=by kernel_rfl
theorem MD:AG prog 25 0=some (0,1,false):=by kernel_rfl
theorem I7:AG prog 25 1=some (1,1,false):=by kernel_rfl
theorem vJ:Ar prog 25=some [.d (.sl (some true) []),.d (.sl (some true) [])]:=by kernel_rfl
theorem DQ:A3 prog 28 1=true:=by kernel_rfl
theorem BL:BW prog 28=true:=by kernel_rfl
theorem vI:Ar prog 28=some [.d (.sl (some true) [])]:=by kernel_rfl
theorem vT:Ob prog 28=some (.sl (some true) []):=by kernel_rfl
theorem Ao:jd prog 28 3 1 8:=MG (by kernel_rfl)
theorem v7:A3 prog 29 1=true:=by kernel_rfl
theorem wL:BW prog 29=true:=by kernel_rfl
theorem Ih:jd prog 29 28 1 24:=MG (by kernel_rfl)
theorem xV:A3 prog 30 1=true:=by kernel_rfl
theorem tI:BW prog 30=true:=by kernel_rfl
theorem sp:jd prog 30 66 8 96:=MG (by kernel_rfl)
theorem v6:A3 prog 32 5=true:=by kernel_rfl
theorem x7:CI prog 32 5=true:=by kernel_rfl
theorem mR:AG prog 32 0=some (0,1,false):=by kernel_rfl
theorem nF:AG prog 32 1=some (1,1,false):=by kernel_rfl
theorem gz:AG prog 32 2=some (2,1,false):=by kernel_rfl
theorem nE:AG prog 32 3=some (3,1,false):=by kernel_rfl
theorem lm:AG prog 32 4=some (4,1,false):=by kernel_rfl
theorem sX:Ar prog 32=some [.d (.sl (some true) []),.d (.sl (some true) []),.d (.sl (some true) []),.d (.sl (some true) []),.d (.sl (some true) [])]:=by kernel_rfl
theorem dA:A3 prog 33 1=true:=by kernel_rfl
theorem xm:BW prog 33=true:=by kernel_rfl
theorem xR:Ar prog 33=some [.d (.raw (.int .i64 0))]:=by kernel_rfl
theorem v5:A3 prog 36 1=true:=by kernel_rfl
theorem Uo:BW prog 36=true:=by kernel_rfl
theorem Se:jd prog 36 88 7 88:=MG (by kernel_rfl)
theorem sg:A3 prog 37 1=true:=by kernel_rfl
theorem Mf:BW prog 37=true:=by kernel_rfl
theorem Q1:jd prog 37 55 6 96:=MG (by kernel_rfl)
theorem xU:A3 prog 39 2=true:=by kernel_rfl
theorem Bp:CI prog 39 2=true:=by kernel_rfl
theorem Gp:AG prog 39 0=some (0,1,false):=by kernel_rfl
theorem FN:AG prog 39 1=some (1,1,false):=by kernel_rfl
theorem sW:Ar prog 39=some [.d (.sl (some true) []),.d (.sl (some true) [])]:=by kernel_rfl
theorem so:jd prog 48 114 8 96:=MG (by kernel_rfl)
theorem v3:A3 prog 52 1=true:=by kernel_rfl
theorem au:BW prog 52=true:=by kernel_rfl
theorem aV:jd prog 52 158 4 48:=MG (by kernel_rfl)
theorem v1:A3 prog 53 1=true:=by kernel_rfl
theorem fK:BW prog 53=true:=by kernel_rfl
theorem d7:jd prog 53 161 3 40:=MG (by kernel_rfl)
theorem DP:A3 prog 55 6=true:=by kernel_rfl
theorem Cb:CI prog 55 6=true:=by kernel_rfl
theorem QW:AG prog 55 0=some (0,1,false):=by kernel_rfl
theorem Xe:AG prog 55 1=some (1,1,false):=by kernel_rfl
theorem Pt:AG prog 55 2=some (2,1,false):=by kernel_rfl
theorem JI:AG prog 55 3=some (3,1,false):=by kernel_rfl
theorem Kg:AG prog 55 4=some (4,1,false):=by kernel_rfl
theorem GN:AG prog 55 5=some (5,1,false):=by kernel_rfl
theorem tE:Ax prog 55=some [(0,1),(1,1),(2,1),(3,1),(4,1),(5,1)]:=by kernel_rfl
theorem Fm:Ar prog 55=some [.d (.raw (.int .i64 0)),.d (.raw (.int .i64 0)),.d (.raw (.int .i64 0)),.d (.sl (some true) []),.d (.sl (some true) []),.d (.sl (some true) [])]:=by kernel_rfl
theorem ny:CI prog 62 3=true:=by kernel_rfl
theorem TP:AG prog 62 0=some (0,1,false):=by kernel_rfl
theorem Ps:AG prog 62 1=some (1,1,false):=by kernel_rfl
theorem Pr:AG prog 62 2=some (2,1,false):=by kernel_rfl
theorem et:Ax prog 62=some [(0,1),(1,1),(2,1)]:=by kernel_rfl
theorem cU:Ar prog 62=some [.d (.raw (.string ⟨#[]⟩)),.d (.raw (.int .i64 0)),.d (.raw (.string ⟨#[]⟩))]:=by kernel_rfl
theorem cz:A3 prog 64 6=true:=by kernel_rfl
theorem Cw:CI prog 64 6=true:=by kernel_rfl
theorem TO:AG prog 64 0=some (0,1,false):=by kernel_rfl
theorem Eh:AG prog 64 1=some (1,3,true):=by kernel_rfl
theorem Kf:AG prog 64 2=some (4,1,false):=by kernel_rfl
theorem Ke:AG prog 64 3=some (5,1,false):=by kernel_rfl
theorem Uf:Ax prog 64=some [(0,1),(1,3),(4,1),(5,1)]:=by kernel_rfl
theorem MK:Ar prog 64=some [.d (.raw (.int .i64 0)),.d (.raw (.string ⟨#[]⟩)),.d (.raw (.int .i64 0)),.d (.raw (.string ⟨#[]⟩)),.d (.raw (.string ⟨#[]⟩)),.d (.raw (.string ⟨#[]⟩))]:=by kernel_rfl
theorem cy:A3 prog 66 8=true:=by kernel_rfl
theorem gy:AG prog 66 0=some (0,1,false):=by kernel_rfl
theorem uL:AG prog 66 1=some (1,6,true):=by kernel_rfl
theorem gx:AG prog 66 2=some (7,1,false):=by kernel_rfl
theorem xk:Ax prog 66=some [(0,1),(1,6),(7,1)]:=by kernel_rfl
theorem xQ:Ar prog 66=some [.d (.raw (.int .i64 0)),.d (.raw (.int .i64 0)),.d (.raw (.string ⟨#[]⟩)),.d (.raw (.int .i64 0)),.d (.raw (.string ⟨#[]⟩)),.d (.raw (.string ⟨#[]⟩)),.d (.raw (.string ⟨#[]⟩)),.d (.raw (.int .i64 0))]:=by kernel_rfl
theorem sm:jd prog 69 73 7 88:=MG (by kernel_rfl)
theorem v0:A3 prog 73 7=true:=by kernel_rfl
theorem uK:AG prog 73 0=some (0,6,true):=by kernel_rfl
theorem uJ:AG prog 73 1=some (6,1,false):=by kernel_rfl
theorem xj:Ax prog 73=some [(0,6),(6,1)]:=by kernel_rfl
theorem xP:Ar prog 73=some [.d (.raw (.int .i64 0)),.d (.raw (.string ⟨#[]⟩)),.d (.raw (.int .i64 0)),.d (.raw (.string ⟨#[]⟩)),.d (.raw (.string ⟨#[]⟩)),.d (.raw (.string ⟨#[]⟩)),.d (.raw (.int .i64 0))]:=by kernel_rfl
theorem x4:jd prog 86 9 1 16:=MG (by kernel_rfl)
theorem Q0:A3 prog 88 7=true:=by kernel_rfl
theorem dj:CI prog 88 7=true:=by kernel_rfl
theorem GM:AG prog 88 0=some (0,6,true):=by kernel_rfl
theorem TN:AG prog 88 1=some (6,1,false):=by kernel_rfl
theorem tD:Ax prog 88=some [(0,6),(6,1)]:=by kernel_rfl
theorem Tx:Ar prog 88=some [.d (.raw (.int .i64 0)),.d (.raw (.string ⟨#[]⟩)),.d (.raw (.int .i64 0)),.d (.raw (.string ⟨#[]⟩)),.d (.raw (.string ⟨#[]⟩)),.d (.raw (.string ⟨#[]⟩)),.d (.raw (.int .i64 0))]:=by kernel_rfl
theorem Iq:BW prog 90=true:=by kernel_rfl
theorem Q5:BW prog 91=true:=by kernel_rfl
theorem CL:A3 prog 93 6=true:=by kernel_rfl
theorem F1:CI prog 93 6=true:=by kernel_rfl
theorem QP:AG prog 93 0=some (0,1,false):=by kernel_rfl
theorem Kd:AG prog 93 1=some (1,1,false):=by kernel_rfl
theorem NA:AG prog 93 2=some (2,1,false):=by kernel_rfl
theorem DE:AG prog 93 3=some (3,1,false):=by kernel_rfl
theorem Gn:AG prog 93 4=some (4,1,false):=by kernel_rfl
theorem DD:AG prog 93 5=some (5,1,false):=by kernel_rfl
theorem Zv:Ar prog 93=some [.d (.raw (.int .i64 0)),.d (.raw (.int .i64 0)),.d (.raw (.int .i64 0)),.d (.sl (some true) []),.d (.sl (some true) []),.d (.sl (some true) [])]:=by kernel_rfl
theorem x3:jd prog 94 1 1 8:=MG (by kernel_rfl)
theorem aY:CI prog 96 3=true:=by kernel_rfl
theorem TM:AG prog 96 0=some (0,1,false):=by kernel_rfl
theorem Mz:AG prog 96 1=some (1,1,false):=by kernel_rfl
theorem My:AG prog 96 2=some (2,1,false):=by kernel_rfl
theorem xi:Ax prog 96=some [(0,1),(1,1),(2,1)]:=by kernel_rfl
theorem xO:Ar prog 96=some [.d (.raw (.string ⟨#[]⟩)),.d (.raw (.int .i64 0)),.d (.raw (.string ⟨#[]⟩))]:=by kernel_rfl
theorem Kq:A3 prog 98 6=true:=by kernel_rfl
theorem Cf:CI prog 98 6=true:=by kernel_rfl
theorem Gm:AG prog 98 0=some (0,1,false):=by kernel_rfl
theorem Eg:AG prog 98 1=some (1,3,true):=by kernel_rfl
theorem FM:AG prog 98 2=some (4,1,false):=by kernel_rfl
theorem FL:AG prog 98 3=some (5,1,false):=by kernel_rfl
theorem ak:Ax prog 98=some [(0,1),(1,3),(4,1),(5,1)]:=by kernel_rfl
theorem Tw:Ar prog 98=some [.d (.raw (.int .i64 0)),.d (.raw (.string ⟨#[]⟩)),.d (.raw (.int .i64 0)),.d (.raw (.string ⟨#[]⟩)),.d (.raw (.string ⟨#[]⟩)),.d (.raw (.string ⟨#[]⟩))]:=by kernel_rfl
theorem Bc:A3 prog 100 7=true:=by kernel_rfl
theorem RE:CI prog 100 7=true:=by kernel_rfl
theorem Qh:AG prog 100 0=some (0,6,true):=by kernel_rfl
theorem Jn:AG prog 100 1=some (6,1,false):=by kernel_rfl
theorem wH:Ax prog 100=some [(0,6),(6,1)]:=by kernel_rfl
theorem vS:Ar prog 100=some [.d (.raw (.int .i64 0)),.d (.raw (.string ⟨#[]⟩)),.d (.raw (.int .i64 0)),.d (.raw (.string ⟨#[]⟩)),.d (.raw (.string ⟨#[]⟩)),.d (.raw (.string ⟨#[]⟩)),.d (.raw (.int .i64 0))]:=by kernel_rfl
theorem df:jd prog 105 197 9 104:=MG (by kernel_rfl)
theorem dD:A3 prog 114 8=true:=by kernel_rfl
theorem pX:AG prog 114 0=some (0,1,false):=by kernel_rfl
theorem pW:AG prog 114 1=some (1,6,true):=by kernel_rfl
theorem pU:AG prog 114 2=some (7,1,false):=by kernel_rfl
theorem wG:Ax prog 114=some [(0,1),(1,6),(7,1)]:=by kernel_rfl
theorem vR:Ar prog 114=some [.d (.raw (.int .i64 0)),.d (.raw (.int .i64 0)),.d (.raw (.string ⟨#[]⟩)),.d (.raw (.int .i64 0)),.d (.raw (.string ⟨#[]⟩)),.d (.raw (.string ⟨#[]⟩)),.d (.raw (.string ⟨#[]⟩)),.d (.raw (.int .i64 0))]:=by kernel_rfl
theorem UV:jd prog 117 120 7 88:=MG (by kernel_rfl)
theorem rP:A3 prog 120 7=true:=by kernel_rfl
theorem pT:AG prog 120 0=some (0,6,true):=by kernel_rfl
theorem pS:AG prog 120 1=some (6,1,false):=by kernel_rfl
theorem rf:Ax prog 120=some [(0,6),(6,1)]:=by kernel_rfl
theorem rH:Ar prog 120=some [.d (.raw (.int .i64 0)),.d (.raw (.string ⟨#[]⟩)),.d (.raw (.int .i64 0)),.d (.raw (.string ⟨#[]⟩)),.d (.raw (.string ⟨#[]⟩)),.d (.raw (.string ⟨#[]⟩)),.d (.raw (.int .i64 0))]:=by kernel_rfl
theorem dc:jd prog 122 131 7 104:=MG (by kernel_rfl)
theorem rO:A3 prog 124 1=true:=by kernel_rfl
theorem rl:BW prog 124=true:=by kernel_rfl
theorem rG:Ar prog 124=some [.d (.raw .nilFunc)]:=by kernel_rfl
theorem Yr:BW prog 129=true:=by kernel_rfl
theorem IN:A3 prog 131 7=true:=by kernel_rfl
theorem NW:CI prog 131 7=true:=by kernel_rfl
theorem Jm:AG prog 131 0=some (0,6,true):=by kernel_rfl
theorem O0:AG prog 131 1=some (6,1,false):=by kernel_rfl
theorem wF:Ax prog 131=some [(0,6),(6,1)]:=by kernel_rfl
theorem Oa:Ar prog 131=some [.d (.raw (.int .i64 0)),.d (.raw (.int .i64 0)),.d (.raw (.int .i64 0)),.d (.sl (some true) []),.d (.sl (some true) []),.d (.sl (some true) []),.d (.raw (.map none))]:=by kernel_rfl
theorem rN:A3 prog 137 1=true:=by kernel_rfl
theorem Uq:BW prog 137=true:=by kernel_rfl
theorem rF:Ar prog 137=some [.d (.raw (.map none))]:=by kernel_rfl
theorem Ow:jd prog 141 144 8 96:=MG (by kernel_rfl)
theorem rM:A3 prog 144 8=true:=by kernel_rfl
theorem vj:CI prog 144 8=true:=by kernel_rfl
theorem pR:AG prog 144 1=some (1,1,false):=by kernel_rfl
theorem r9:Ax prog 144=some [(0,1),(1,1),(2,6)]:=by kernel_rfl
theorem c7:Ar prog 144=some [.d (.raw (.int .i64 0)),.d (.raw (.int .i64 0)),.d (.raw (.int .i64 0)),.d (.raw (.string ⟨#[]⟩)),.d (.raw (.int .i64 0)),.d (.raw (.string ⟨#[]⟩)),.d (.raw (.string ⟨#[]⟩)),.d (.raw (.string ⟨#[]⟩))]:=by kernel_rfl
theorem vf:A3 prog 146 1=true:=by kernel_rfl
theorem wN:BW prog 146=true:=by kernel_rfl
theorem Y9:jd prog 147 28 1 24:=MG (by kernel_rfl)
theorem Qu:A3 prog 158 4=true:=by kernel_rfl
theorem dq:CI prog 158 4=true:=by kernel_rfl
theorem Lj:AG prog 158 0=some (0,3,true):=by kernel_rfl
theorem TV:AG prog 158 1=some (3,1,false):=by kernel_rfl
theorem eu:Ax prog 158=some [(0,3),(3,1)]:=by kernel_rfl
theorem Qo:Ar prog 158=some [.d (.raw (.string ⟨#[]⟩)),.d (.raw (.int .i64 0)),.d (.raw (.string ⟨#[]⟩)),.d (.raw (.int .i64 0))]:=by kernel_rfl
theorem YW:A3 prog 161 3=true:=by kernel_rfl
theorem rZ:CI prog 161 3=true:=by kernel_rfl
theorem Li:AG prog 161 0=some (0,1,false):=by kernel_rfl
theorem Lh:AG prog 161 1=some (1,1,false):=by kernel_rfl
theorem Lg:AG prog 161 2=some (2,1,false):=by kernel_rfl
theorem rE:Ar prog 161=some [.d (.raw (.string ⟨#[]⟩)),.d (.raw (.string ⟨#[]⟩)),.d (.raw (.int .i64 0))]:=by kernel_rfl
theorem db:jd prog 168 245 9 104:=MG (by kernel_rfl)
theorem ve:A3 prog 171 1=true:=by kernel_rfl
theorem Yq:BW prog 171=true:=by kernel_rfl
theorem vQ:Ar prog 171=some [.d (.raw (.pointer none))]:=by kernel_rfl
theorem rL:A3 prog 175 1=true:=by kernel_rfl
theorem HQ:BW prog 175=true:=by kernel_rfl
theorem Y8:jd prog 175 176 1 8:=MG (by kernel_rfl)
theorem NU:A3 prog 176 1=true:=by kernel_rfl
theorem PS:BW prog 176=true:=by kernel_rfl
theorem vd:A3 prog 177 1=true:=by kernel_rfl
theorem Yp:BW prog 177=true:=by kernel_rfl
theorem rV:jd prog 177 186 1 8:=MG (by kernel_rfl)
theorem Yo:BW prog 178=true:=by kernel_rfl
theorem Jl:AG prog 180 0=some (0,1,false):=by kernel_rfl
theorem Ld:AG prog 180 1=some (1,1,false):=by kernel_rfl
theorem OZ:AG prog 180 2=some (2,1,false):=by kernel_rfl
theorem wE:Ax prog 180=some [(0,1),(1,1),(2,1)]:=by kernel_rfl
theorem vP:Ar prog 180=some [.d (.sl (some true) []),.d (.sl (some true) []),.d (.raw (.map none))]:=by kernel_rfl
theorem vc:A3 prog 181 1=true:=by kernel_rfl
theorem Yn:BW prog 181=true:=by kernel_rfl
theorem rU:jd prog 181 188 2 16:=MG (by kernel_rfl)
theorem vb:A3 prog 182 1=true:=by kernel_rfl
theorem Ym:BW prog 182=true:=by kernel_rfl
theorem rT:jd prog 182 254 2 16:=MG (by kernel_rfl)
theorem G7:AG prog 184 0=some (0,6,true):=by kernel_rfl
theorem Lc:AG prog 184 1=some (6,1,false):=by kernel_rfl
theorem Lb:AG prog 184 2=some (7,1,false):=by kernel_rfl
theorem F8:AG prog 184 3=some (8,1,false):=by kernel_rfl
theorem wD:Ax prog 184=some [(0,6),(6,1),(7,1),(8,1)]:=by kernel_rfl
theorem vO:Ar prog 184=some [.d (.raw (.int .i64 0)),.d (.raw (.int .i64 0)),.d (.raw (.int .i64 0)),.d (.sl (some true) []),.d (.sl (some true) []),.d (.sl (some true) []),.d (.sl (some true) []),.d (.sl (some true) []),.d (.raw (.bool false))]:=by kernel_rfl
theorem dC:A3 prog 186 1=true:=by kernel_rfl
theorem FR:BW prog 186=true:=by kernel_rfl
theorem vN:Ar prog 186=some [.d (.raw (.pointer none))]:=by kernel_rfl
theorem UI:A3 prog 188 2=true:=by kernel_rfl
theorem dp:CI prog 188 2=true:=by kernel_rfl
theorem TU:AG prog 188 0=some (0,1,false):=by kernel_rfl
theorem TT:AG prog 188 1=some (1,1,false):=by kernel_rfl
theorem wC:Ax prog 188=some [(0,1),(1,1)]:=by kernel_rfl
theorem c6:Ar prog 188=some [.d (.raw (.pointer none)),.d (.raw (.int .i64 0))]:=by kernel_rfl
theorem OY:AG prog 190 0=some (0,6,true):=by kernel_rfl
theorem TR:AG prog 190 1=some (6,1,false):=by kernel_rfl
theorem La:AG prog 190 2=some (7,1,false):=by kernel_rfl
theorem ID:AG prog 190 3=some (8,1,false):=by kernel_rfl
theorem L9:AG prog 190 4=some (9,1,false):=by kernel_rfl
theorem wB:Ax prog 190=some [(0,6),(6,1),(7,1),(8,1),(9,1)]:=by kernel_rfl
theorem vM:Ar prog 190=some [.d (.raw (.int .i64 0)),.d (.raw (.string ⟨#[]⟩)),.d (.raw (.int .i64 0)),.d (.raw (.string ⟨#[]⟩)),.d (.raw (.string ⟨#[]⟩)),.d (.raw (.string ⟨#[]⟩)),.d (.raw (.int .i64 0)),.d (.raw (.int .i64 0)),.d (.sl (some true) []),.d (.raw (.int .i64 0))]:=by kernel_rfl
theorem KF:A3 prog 192 4=true:=by kernel_rfl
theorem vi:CI prog 192 4=true:=by kernel_rfl
theorem F7:AG prog 192 0=some (0,3,true):=by kernel_rfl
theorem L8:AG prog 192 1=some (3,1,false):=by kernel_rfl
theorem vL:Ar prog 192=some [.d (.raw (.string ⟨#[]⟩)),.d (.raw (.int .i64 0)),.d (.raw (.string ⟨#[]⟩)),.d (.raw (.int .i64 0))]:=by kernel_rfl
theorem On:A3 prog 193 3=true:=by kernel_rfl
theorem Ya:CI prog 193 3=true:=by kernel_rfl
theorem Ev:AG prog 193 0=some (0,1,false):=by kernel_rfl
theorem Eu:AG prog 193 1=some (1,1,false):=by kernel_rfl
theorem D2:AG prog 193 2=some (2,1,false):=by kernel_rfl
theorem cZ:Ar prog 193=some [.d (.raw (.string ⟨#[]⟩)),.d (.raw (.string ⟨#[]⟩)),.d (.raw (.int .i64 0))]:=by kernel_rfl
theorem Df:jd prog 194 98 6 80:=MG (by kernel_rfl)
theorem Id:A3 prog 197 9=true:=by kernel_rfl
theorem dm:CI prog 197 9=true:=by kernel_rfl
theorem pQ:AG prog 197 0=some (0,1,false):=by kernel_rfl
theorem Uh:Ax prog 197=some [(0,1),(1,1),(2,6),(8,1)]:=by kernel_rfl
theorem Ia:Ar prog 197=some [.d (.raw (.int .i64 0)),.d (.raw (.int .i64 0)),.d (.raw (.int .i64 0)),.d (.raw (.string ⟨#[]⟩)),.d (.raw (.int .i64 0)),.d (.raw (.string ⟨#[]⟩)),.d (.raw (.string ⟨#[]⟩)),.d (.raw (.string ⟨#[]⟩)),.d (.raw (.int .i64 0))]:=by kernel_rfl
theorem Ov:jd prog 204 207 8 96:=MG (by kernel_rfl)
theorem va:A3 prog 207 8=true:=by kernel_rfl
theorem pP:AG prog 207 1=some (1,1,false):=by kernel_rfl
theorem r8:Ax prog 207=some [(0,1),(1,1),(2,6)]:=by kernel_rfl
theorem rD:Ar prog 207=some [.d (.raw (.int .i64 0)),.d (.raw (.int .i64 0)),.d (.raw (.int .i64 0)),.d (.raw (.string ⟨#[]⟩)),.d (.raw (.int .i64 0)),.d (.raw (.string ⟨#[]⟩)),.d (.raw (.string ⟨#[]⟩)),.d (.raw (.string ⟨#[]⟩))]:=by kernel_rfl
theorem da:jd prog 215 218 7 88:=MG (by kernel_rfl)
theorem YV:A3 prog 218 7=true:=by kernel_rfl
theorem rY:CI prog 218 7=true:=by kernel_rfl
theorem L7:AG prog 218 0=some (0,6,true):=by kernel_rfl
theorem ZX:AG prog 218 1=some (6,1,false):=by kernel_rfl
theorem wA:Ax prog 218=some [(0,6),(6,1)]:=by kernel_rfl
theorem cY:Ar prog 218=some [.d (.raw (.int .i64 0)),.d (.raw (.string ⟨#[]⟩)),.d (.raw (.int .i64 0)),.d (.raw (.string ⟨#[]⟩)),.d (.raw (.string ⟨#[]⟩)),.d (.raw (.string ⟨#[]⟩)),.d (.raw (.int .i64 0))]:=by kernel_rfl
theorem Up:BW prog 226=true:=by kernel_rfl
theorem v9:A3 prog 227 1=true:=by kernel_rfl
theorem Yl:BW prog 227=true:=by kernel_rfl
theorem d9:jd prog 227 233 8 112:=MG (by kernel_rfl)
theorem L6:AG prog 229 0=some (0,1,false):=by kernel_rfl
theorem pO:AG prog 229 1=some (1,1,false):=by kernel_rfl
theorem L5:AG prog 229 2=some (2,1,false):=by kernel_rfl
theorem vz:Ax prog 229=some [(0,1),(1,1),(2,1)]:=by kernel_rfl
theorem vK:Ar prog 229=some [.d (.raw (.map none)),.d (.sl (some true) []),.d (.sl (some true) [])]:=by kernel_rfl
theorem YU:A3 prog 233 8=true:=by kernel_rfl
theorem rX:CI prog 233 8=true:=by kernel_rfl
theorem L4:AG prog 233 0=some (0,6,true):=by kernel_rfl
theorem pN:AG prog 233 1=some (6,1,false):=by kernel_rfl
theorem ZW:AG prog 233 2=some (7,1,false):=by kernel_rfl
theorem vy:Ax prog 233=some [(0,6),(6,1),(7,1)]:=by kernel_rfl
theorem cV:Ar prog 233=some [.d (.raw (.int .i64 0)),.d (.raw (.string ⟨#[]⟩)),.d (.raw (.int .i64 0)),.d (.raw (.string ⟨#[]⟩)),.d (.raw (.string ⟨#[]⟩)),.d (.raw (.string ⟨#[]⟩)),.d (.raw (.int .i64 0)),.d (.sl (some true) [])]:=by kernel_rfl
theorem Kr:A3 prog 245 9=true:=by kernel_rfl
theorem rW:CI prog 245 9=true:=by kernel_rfl
theorem pM:AG prog 245 0=some (0,1,false):=by kernel_rfl
theorem Ug:Ax prog 245=some [(0,1),(1,1),(2,6),(8,1)]:=by kernel_rfl
theorem KD:Ar prog 245=some [.d (.raw (.int .i64 0)),.d (.raw (.int .i64 0)),.d (.raw (.int .i64 0)),.d (.raw (.string ⟨#[]⟩)),.d (.raw (.int .i64 0)),.d (.raw (.string ⟨#[]⟩)),.d (.raw (.string ⟨#[]⟩)),.d (.raw (.string ⟨#[]⟩)),.d (.raw (.int .i64 0))]:=by kernel_rfl
theorem Qt:A3 prog 254 2=true:=by kernel_rfl
theorem dl:CI prog 254 2=true:=by kernel_rfl
theorem IC:AG prog 254 0=some (0,1,false):=by kernel_rfl
theorem TQ:AG prog 254 1=some (1,1,false):=by kernel_rfl
theorem vw:Ax prog 254=some [(0,1),(1,1)]:=by kernel_rfl
theorem YJ:Ar prog 254=some [.d (.raw (.pointer none)),.d (.raw (.int .i64 0))]:=by kernel_rfl
theorem vg:jd prog 273 146 1 8:=MG (by kernel_rfl)
theorem wM:BW prog 283=true:=by kernel_rfl
theorem dB:A3 prog 318 2=true:=by kernel_rfl
theorem F6:AG prog 318 0=some (0,1,false):=by kernel_rfl
theorem L3:AG prog 318 1=some (1,1,false):=by kernel_rfl
theorem r7:Ax prog 318=some [(0,1),(1,1)]:=by kernel_rfl
theorem rC:Ar prog 318=some [.d (.raw (.int .i64 0)),.d (.raw (.int .i64 0))]:=by kernel_rfl
theorem d8:jd prog 319 318 2 16:=MG (by kernel_rfl)
theorem Zo:AG prog 323 0=some (0,1,false):=by kernel_rfl
theorem pL:AG prog 323 1=some (1,1,false):=by kernel_rfl
theorem vv:Ax prog 323=some [(0,1),(1,1)]:=by kernel_rfl
theorem vH:Ar prog 323=some [.d (.sl (some true) []),.d (.raw .nilFunc)]:=by kernel_rfl
theorem rv:Bs prog 127 64 3=true:=by kernel_rfl
theorem yO:DK prog 3=some (.d (.raw (.int .i64 0))):=by kernel_rfl
theorem I6:CC prog 3 (λz:Int=> .raw (.int .i64 z)) (λz=> .int .i64 z):=CC.int underlying3
theorem ru:Bs prog 128 3 3=true:=by kernel_rfl
theorem C4:Bs prog 129 64 2=true:=by kernel_rfl
theorem QU:DK prog 2=some (.d (.raw (.int .i64 0))):=by kernel_rfl
theorem FU:Bs prog 137 3 4=true:=by kernel_rfl
theorem W8:DK prog 4=some (.d (.raw (.bool false))):=by kernel_rfl
theorem KH:Bs prog 138 3 4=true:=by kernel_rfl
theorem ZD:Bs prog 155 64 4=true:=by kernel_rfl
theorem ZC:Bs prog 178 3 176=true:=by kernel_rfl
theorem YK:DK prog 176=some (.d (.raw (.pointer none))):=by kernel_rfl
theorem VC:Bs prog 226 3 55=true:=by kernel_rfl
theorem nV:DK prog 55=some (.d (.agg [.raw (.int .i64 0),.raw (.int .i64 0),.raw (.int .i64 0),.sl (some true) [],.sl (some true) [],.sl (some true) []])):=by kernel_rfl
theorem ZB:Bs prog 248 64 186=true:=by kernel_rfl
theorem c8:DK prog 186=some (.d (.raw (.pointer none))):=by kernel_rfl
theorem fk:Bs prog 310 9 2=true:=by kernel_rfl
theorem yT:CC prog 9 Ak Nv:=CC.str underlying9
end Go.Proofs.YteifpcnphnhaoaaGreat
