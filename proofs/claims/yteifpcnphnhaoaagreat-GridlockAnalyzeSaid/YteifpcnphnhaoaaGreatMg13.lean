import Derived.Test.YteifpcnphnhaoaaGreatMg12
import Derived.Test.YteifpcnphnhaoaaGreatRows
open Go.Proofs.Tryz
namespace Go.Proofs.YteifpcnphnhaoaaGreat
open Go.RowKit
theorem E0:type_of% @Tryz.underlying28:=@Tryz.underlying28
theorem F0:type_of% @Tryz.underlying22:=@Tryz.underlying22
theorem No:type_of% @Tryz.underlying23:=@Tryz.underlying23
theorem Qs:type_of% @Tryz.underlying37:=@Tryz.underlying37
theorem R3:type_of% @Tryz.underlying147:=@Tryz.underlying147
theorem R4:type_of% @Tryz.underlying29:=@Tryz.underlying29
theorem R5:type_of% @Tryz.underlying90:=@Tryz.underlying90
theorem Ri:type_of% @Tryz.underlying194:=@Tryz.underlying194
theorem S1:type_of% @Tryz.underlying175:=@Tryz.underlying175
theorem T1:type_of% @Tryz.underlying122:=@Tryz.underlying122
theorem an:type_of% @Tryz.underlying91:=@Tryz.underlying91
theorem b0:type_of% @Tryz.underlying36:=@Tryz.underlying36
theorem cB:type_of% @Tryz.underlying52:=@Tryz.underlying52
theorem cC:type_of% @Tryz.underlying30:=@Tryz.underlying30
theorem cG:type_of% @Tryz.underlying319:=@Tryz.underlying319
theorem cX:type_of% @Tryz.underlying53:=@Tryz.underlying53
theorem mixed:prog.follows .mixedOrders=true:=by kernel_rfl
theorem yT:A3 prog 1 1=true:=by kernel_rfl
theorem yU:BX prog 1=true:=by kernel_rfl
theorem x5:A3 prog 2 1=true:=by kernel_rfl
theorem FK:BX prog 2=true:=by kernel_rfl
theorem BE:A3 prog 3 1=true:=by kernel_rfl
theorem Ag:BX prog 3=true:=by kernel_rfl
theorem s8:O6 prog 3=some (.raw (.int .i64 0)):=by kernel_rfl
theorem vc:A3 prog 4 1=true:=by kernel_rfl
theorem tO:BX prog 4=true:=by kernel_rfl
theorem y5:As prog 4=some [.d (.raw (.bool false))]:=by kernel_rfl
theorem y6:A3 prog 9 1=true:=by kernel_rfl
theorem CZ:BX prog 9=true:=by kernel_rfl
theorem x4:A3 prog 22 1=true:=by kernel_rfl
theorem Dy:BX prog 22=true:=by kernel_rfl
theorem Fv:jd prog 22 100 7 88:=MD (by kernel_rfl)
theorem x3:A3 prog 23 1=true:=by kernel_rfl
theorem DE:BX prog 23=true:=by kernel_rfl
theorem MR:jd prog 23 93 6 96:=MD (by kernel_rfl)
theorem vf:A3 prog 25 2=true:=by kernel_rfl
theorem Bx:CI prog 25 2=true:=by kernel_rfl
theorem Kj:AG prog 25 0=some (0,1,false):=by kernel_rfl
theorem JS:AG prog 25 1=some (1,1,false):=by kernel_rfl
theorem vR:As prog 25=some [.d (.sl (some true) []),.d (.sl (some true) [])]:=by kernel_rfl
theorem D8:A3 prog 28 1=true:=by kernel_rfl
theorem BJ:BX prog 28=true:=by kernel_rfl
theorem vQ:As prog 28=some [.d (.sl (some true) [])]:=by kernel_rfl
theorem v1:O6 prog 28=some (.sl (some true) []):=by kernel_rfl
theorem Ap:jd prog 28 3 1 8:=MD (by kernel_rfl)
theorem ve:A3 prog 29 1=true:=by kernel_rfl
theorem ar:BX prog 29=true:=by kernel_rfl
theorem Kw:jd prog 29 28 1 24:=MD (by kernel_rfl)
theorem x2:A3 prog 30 1=true:=by kernel_rfl
theorem fJ:BX prog 30=true:=by kernel_rfl
theorem sy:jd prog 30 66 8 96:=MD (by kernel_rfl)
theorem dC:A3 prog 32 5=true:=by kernel_rfl
theorem xc:CI prog 32 5=true:=by kernel_rfl
theorem lR:AG prog 32 0=some (0,1,false):=by kernel_rfl
theorem lu:AG prog 32 1=some (1,1,false):=by kernel_rfl
theorem TL:AG prog 32 2=some (2,1,false):=by kernel_rfl
theorem lr:AG prog 32 3=some (3,1,false):=by kernel_rfl
theorem kt:AG prog 32 4=some (4,1,false):=by kernel_rfl
theorem xq:Ax prog 32=some [(0,1),(1,1),(2,1),(3,1),(4,1)]:=by kernel_rfl
theorem Tv:As prog 32=some [.d (.sl (some true) []),.d (.sl (some true) []),.d (.sl (some true) []),.d (.sl (some true) []),.d (.sl (some true) [])]:=by kernel_rfl
theorem dB:A3 prog 33 1=true:=by kernel_rfl
theorem tP:BX prog 33=true:=by kernel_rfl
theorem vO:As prog 33=some [.d (.raw (.int .i64 0))]:=by kernel_rfl
theorem vd:A3 prog 36 1=true:=by kernel_rfl
theorem Uo:BX prog 36=true:=by kernel_rfl
theorem S9:jd prog 36 88 7 88:=MD (by kernel_rfl)
theorem sp:A3 prog 37 1=true:=by kernel_rfl
theorem Md:BX prog 37=true:=by kernel_rfl
theorem QZ:jd prog 37 55 6 96:=MD (by kernel_rfl)
theorem x1:A3 prog 39 2=true:=by kernel_rfl
theorem CG:CI prog 39 2=true:=by kernel_rfl
theorem Gm:AG prog 39 0=some (0,1,false):=by kernel_rfl
theorem FO:AG prog 39 1=some (1,1,false):=by kernel_rfl
theorem s7:As prog 39=some [.d (.sl (some true) []),.d (.sl (some true) [])]:=by kernel_rfl
theorem sx:jd prog 48 114 8 96:=MD (by kernel_rfl)
theorem vb:A3 prog 52 1=true:=by kernel_rfl
theorem aq:BX prog 52=true:=by kernel_rfl
theorem aR:jd prog 52 158 4 48:=MD (by kernel_rfl)
theorem va:A3 prog 53 1=true:=by kernel_rfl
theorem fI:BX prog 53=true:=by kernel_rfl
theorem d9:jd prog 53 161 3 40:=MD (by kernel_rfl)
theorem DT:A3 prog 55 6=true:=by kernel_rfl
theorem Cc:CI prog 55 6=true:=by kernel_rfl
theorem QU:AG prog 55 0=some (0,1,false):=by kernel_rfl
theorem Xa:AG prog 55 1=some (1,1,false):=by kernel_rfl
theorem Pp:AG prog 55 2=some (2,1,false):=by kernel_rfl
theorem JC:AG prog 55 3=some (3,1,false):=by kernel_rfl
theorem Kf:AG prog 55 4=some (4,1,false):=by kernel_rfl
theorem GL:AG prog 55 5=some (5,1,false):=by kernel_rfl
theorem tL:Ax prog 55=some [(0,1),(1,1),(2,1),(3,1),(4,1),(5,1)]:=by kernel_rfl
theorem Fk:As prog 55=some [.d (.raw (.int .i64 0)),.d (.raw (.int .i64 0)),.d (.raw (.int .i64 0)),.d (.sl (some true) []),.d (.sl (some true) []),.d (.sl (some true) [])]:=by kernel_rfl
theorem nz:CI prog 62 3=true:=by kernel_rfl
theorem TK:AG prog 62 0=some (0,1,false):=by kernel_rfl
theorem Pn:AG prog 62 1=some (1,1,false):=by kernel_rfl
theorem Pm:AG prog 62 2=some (2,1,false):=by kernel_rfl
theorem et:Ax prog 62=some [(0,1),(1,1),(2,1)]:=by kernel_rfl
theorem cY:As prog 62=some [.d (.raw (.string ⟨#[]⟩)),.d (.raw (.int .i64 0)),.d (.raw (.string ⟨#[]⟩))]:=by kernel_rfl
theorem dA:A3 prog 64 6=true:=by kernel_rfl
theorem Cw:CI prog 64 6=true:=by kernel_rfl
theorem TJ:AG prog 64 0=some (0,1,false):=by kernel_rfl
theorem Ee:AG prog 64 1=some (1,3,true):=by kernel_rfl
theorem Ke:AG prog 64 2=some (4,1,false):=by kernel_rfl
theorem Kd:AG prog 64 3=some (5,1,false):=by kernel_rfl
theorem Ue:Ax prog 64=some [(0,1),(1,3),(4,1),(5,1)]:=by kernel_rfl
theorem MI:As prog 64=some [.d (.raw (.int .i64 0)),.d (.raw (.string ⟨#[]⟩)),.d (.raw (.int .i64 0)),.d (.raw (.string ⟨#[]⟩)),.d (.raw (.string ⟨#[]⟩)),.d (.raw (.string ⟨#[]⟩))]:=by kernel_rfl
theorem cz:A3 prog 66 8=true:=by kernel_rfl
theorem gw:AG prog 66 0=some (0,1,false):=by kernel_rfl
theorem uT:AG prog 66 1=some (1,6,true):=by kernel_rfl
theorem gv:AG prog 66 2=some (7,1,false):=by kernel_rfl
theorem xp:Ax prog 66=some [(0,1),(1,6),(7,1)]:=by kernel_rfl
theorem xX:As prog 66=some [.d (.raw (.int .i64 0)),.d (.raw (.int .i64 0)),.d (.raw (.string ⟨#[]⟩)),.d (.raw (.int .i64 0)),.d (.raw (.string ⟨#[]⟩)),.d (.raw (.string ⟨#[]⟩)),.d (.raw (.string ⟨#[]⟩)),.d (.raw (.int .i64 0))]:=by kernel_rfl
theorem sw:jd prog 69 73 7 88:=MD (by kernel_rfl)
theorem v9:A3 prog 73 7=true:=by kernel_rfl
theorem uS:AG prog 73 0=some (0,6,true):=by kernel_rfl
theorem uR:AG prog 73 1=some (6,1,false):=by kernel_rfl
theorem xo:Ax prog 73=some [(0,6),(6,1)]:=by kernel_rfl
theorem xW:As prog 73=some [.d (.raw (.int .i64 0)),.d (.raw (.string ⟨#[]⟩)),.d (.raw (.int .i64 0)),.d (.raw (.string ⟨#[]⟩)),.d (.raw (.string ⟨#[]⟩)),.d (.raw (.string ⟨#[]⟩)),.d (.raw (.int .i64 0))]:=by kernel_rfl
theorem x9:jd prog 86 9 1 16:=MD (by kernel_rfl)
theorem QY:A3 prog 88 7=true:=by kernel_rfl
theorem dm:CI prog 88 7=true:=by kernel_rfl
theorem GK:AG prog 88 0=some (0,6,true):=by kernel_rfl
theorem TG:AG prog 88 1=some (6,1,false):=by kernel_rfl
theorem tK:Ax prog 88=some [(0,6),(6,1)]:=by kernel_rfl
theorem Tu:As prog 88=some [.d (.raw (.int .i64 0)),.d (.raw (.string ⟨#[]⟩)),.d (.raw (.int .i64 0)),.d (.raw (.string ⟨#[]⟩)),.d (.raw (.string ⟨#[]⟩)),.d (.raw (.string ⟨#[]⟩)),.d (.raw (.int .i64 0))]:=by kernel_rfl
theorem Ik:BX prog 90=true:=by kernel_rfl
theorem Q3:BX prog 91=true:=by kernel_rfl
theorem CP:A3 prog 93 6=true:=by kernel_rfl
theorem Ev:CI prog 93 6=true:=by kernel_rfl
theorem ST:AG prog 93 0=some (0,1,false):=by kernel_rfl
theorem Kc:AG prog 93 1=some (1,1,false):=by kernel_rfl
theorem Mw:AG prog 93 2=some (2,1,false):=by kernel_rfl
theorem DB:AG prog 93 3=some (3,1,false):=by kernel_rfl
theorem Gl:AG prog 93 4=some (4,1,false):=by kernel_rfl
theorem Tk:AG prog 93 5=some (5,1,false):=by kernel_rfl
theorem Tt:As prog 93=some [.d (.raw (.int .i64 0)),.d (.raw (.int .i64 0)),.d (.raw (.int .i64 0)),.d (.sl (some true) []),.d (.sl (some true) []),.d (.sl (some true) [])]:=by kernel_rfl
theorem vn:jd prog 94 1 1 8:=MD (by kernel_rfl)
theorem aU:CI prog 96 3=true:=by kernel_rfl
theorem TF:AG prog 96 0=some (0,1,false):=by kernel_rfl
theorem Mv:AG prog 96 1=some (1,1,false):=by kernel_rfl
theorem Mu:AG prog 96 2=some (2,1,false):=by kernel_rfl
theorem xn:Ax prog 96=some [(0,1),(1,1),(2,1)]:=by kernel_rfl
theorem xV:As prog 96=some [.d (.raw (.string ⟨#[]⟩)),.d (.raw (.int .i64 0)),.d (.raw (.string ⟨#[]⟩))]:=by kernel_rfl
theorem KN:A3 prog 98 6=true:=by kernel_rfl
theorem C4:CI prog 98 6=true:=by kernel_rfl
theorem Gk:AG prog 98 0=some (0,1,false):=by kernel_rfl
theorem Ed:AG prog 98 1=some (1,3,true):=by kernel_rfl
theorem FN:AG prog 98 2=some (4,1,false):=by kernel_rfl
theorem FM:AG prog 98 3=some (5,1,false):=by kernel_rfl
theorem ah:Ax prog 98=some [(0,1),(1,3),(4,1),(5,1)]:=by kernel_rfl
theorem SZ:As prog 98=some [.d (.raw (.int .i64 0)),.d (.raw (.string ⟨#[]⟩)),.d (.raw (.int .i64 0)),.d (.raw (.string ⟨#[]⟩)),.d (.raw (.string ⟨#[]⟩)),.d (.raw (.string ⟨#[]⟩))]:=by kernel_rfl
theorem Bd:A3 prog 100 7=true:=by kernel_rfl
theorem RA:CI prog 100 7=true:=by kernel_rfl
theorem QS:AG prog 100 0=some (0,6,true):=by kernel_rfl
theorem Jl:AG prog 100 1=some (6,1,false):=by kernel_rfl
theorem wP:Ax prog 100=some [(0,6),(6,1)]:=by kernel_rfl
theorem v0:As prog 100=some [.d (.raw (.int .i64 0)),.d (.raw (.string ⟨#[]⟩)),.d (.raw (.int .i64 0)),.d (.raw (.string ⟨#[]⟩)),.d (.raw (.string ⟨#[]⟩)),.d (.raw (.string ⟨#[]⟩)),.d (.raw (.int .i64 0))]:=by kernel_rfl
theorem dh:jd prog 105 197 9 104:=MD (by kernel_rfl)
theorem dF:A3 prog 114 8=true:=by kernel_rfl
theorem p0:AG prog 114 0=some (0,1,false):=by kernel_rfl
theorem pZ:AG prog 114 1=some (1,6,true):=by kernel_rfl
theorem pY:AG prog 114 2=some (7,1,false):=by kernel_rfl
theorem wO:Ax prog 114=some [(0,1),(1,6),(7,1)]:=by kernel_rfl
theorem vZ:As prog 114=some [.d (.raw (.int .i64 0)),.d (.raw (.int .i64 0)),.d (.raw (.string ⟨#[]⟩)),.d (.raw (.int .i64 0)),.d (.raw (.string ⟨#[]⟩)),.d (.raw (.string ⟨#[]⟩)),.d (.raw (.string ⟨#[]⟩)),.d (.raw (.int .i64 0))]:=by kernel_rfl
theorem UT:jd prog 117 120 7 88:=MD (by kernel_rfl)
theorem rV:A3 prog 120 7=true:=by kernel_rfl
theorem pX:AG prog 120 0=some (0,6,true):=by kernel_rfl
theorem pW:AG prog 120 1=some (6,1,false):=by kernel_rfl
theorem rr:Ax prog 120=some [(0,6),(6,1)]:=by kernel_rfl
theorem rN:As prog 120=some [.d (.raw (.int .i64 0)),.d (.raw (.string ⟨#[]⟩)),.d (.raw (.int .i64 0)),.d (.raw (.string ⟨#[]⟩)),.d (.raw (.string ⟨#[]⟩)),.d (.raw (.string ⟨#[]⟩)),.d (.raw (.int .i64 0))]:=by kernel_rfl
theorem dg:jd prog 122 131 7 104:=MD (by kernel_rfl)
theorem rU:A3 prog 124 1=true:=by kernel_rfl
theorem rv:BX prog 124=true:=by kernel_rfl
theorem rM:As prog 124=some [.d (.raw .nilFunc)]:=by kernel_rfl
theorem Ym:BX prog 129=true:=by kernel_rfl
theorem IL:A3 prog 131 7=true:=by kernel_rfl
theorem NS:CI prog 131 7=true:=by kernel_rfl
theorem Jk:AG prog 131 0=some (0,6,true):=by kernel_rfl
theorem OU:AG prog 131 1=some (6,1,false):=by kernel_rfl
theorem wN:Ax prog 131=some [(0,6),(6,1)]:=by kernel_rfl
theorem O5:As prog 131=some [.d (.raw (.int .i64 0)),.d (.raw (.int .i64 0)),.d (.raw (.int .i64 0)),.d (.sl (some true) []),.d (.sl (some true) []),.d (.sl (some true) []),.d (.raw (.map none))]:=by kernel_rfl
theorem rT:A3 prog 137 1=true:=by kernel_rfl
theorem Uq:BX prog 137=true:=by kernel_rfl
theorem rL:As prog 137=some [.d (.raw (.map none))]:=by kernel_rfl
theorem Oo:jd prog 141 144 8 96:=MD (by kernel_rfl)
theorem rS:A3 prog 144 8=true:=by kernel_rfl
theorem vr:CI prog 144 8=true:=by kernel_rfl
theorem pU:AG prog 144 1=some (1,1,false):=by kernel_rfl
theorem rq:Ax prog 144=some [(0,1),(1,1),(2,6)]:=by kernel_rfl
theorem c9:As prog 144=some [.d (.raw (.int .i64 0)),.d (.raw (.int .i64 0)),.d (.raw (.int .i64 0)),.d (.raw (.string ⟨#[]⟩)),.d (.raw (.int .i64 0)),.d (.raw (.string ⟨#[]⟩)),.d (.raw (.string ⟨#[]⟩)),.d (.raw (.string ⟨#[]⟩))]:=by kernel_rfl
theorem vm:A3 prog 146 1=true:=by kernel_rfl
theorem wU:BX prog 146=true:=by kernel_rfl
theorem Y4:jd prog 147 28 1 24:=MD (by kernel_rfl)
theorem Qo:A3 prog 158 4=true:=by kernel_rfl
theorem du:CI prog 158 4=true:=by kernel_rfl
theorem Ll:AG prog 158 0=some (0,3,true):=by kernel_rfl
theorem TQ:AG prog 158 1=some (3,1,false):=by kernel_rfl
theorem eu:Ax prog 158=some [(0,3),(3,1)]:=by kernel_rfl
theorem Qk:As prog 158=some [.d (.raw (.string ⟨#[]⟩)),.d (.raw (.int .i64 0)),.d (.raw (.string ⟨#[]⟩)),.d (.raw (.int .i64 0))]:=by kernel_rfl
theorem YR:A3 prog 161 3=true:=by kernel_rfl
theorem rk:CI prog 161 3=true:=by kernel_rfl
theorem Lk:AG prog 161 0=some (0,1,false):=by kernel_rfl
theorem Lj:AG prog 161 1=some (1,1,false):=by kernel_rfl
theorem Li:AG prog 161 2=some (2,1,false):=by kernel_rfl
theorem rK:As prog 161=some [.d (.raw (.string ⟨#[]⟩)),.d (.raw (.string ⟨#[]⟩)),.d (.raw (.int .i64 0))]:=by kernel_rfl
theorem df:jd prog 168 245 9 104:=MD (by kernel_rfl)
theorem vl:A3 prog 171 1=true:=by kernel_rfl
theorem Yl:BX prog 171=true:=by kernel_rfl
theorem vY:As prog 171=some [.d (.raw (.pointer none))]:=by kernel_rfl
theorem rR:A3 prog 175 1=true:=by kernel_rfl
theorem HO:BX prog 175=true:=by kernel_rfl
theorem Y3:jd prog 175 176 1 8:=MD (by kernel_rfl)
theorem NQ:A3 prog 176 1=true:=by kernel_rfl
theorem PN:BX prog 176=true:=by kernel_rfl
theorem vk:A3 prog 177 1=true:=by kernel_rfl
theorem Yk:BX prog 177=true:=by kernel_rfl
theorem r7:jd prog 177 186 1 8:=MD (by kernel_rfl)
theorem Yj:BX prog 178=true:=by kernel_rfl
theorem Jj:AG prog 180 0=some (0,1,false):=by kernel_rfl
theorem Lh:AG prog 180 1=some (1,1,false):=by kernel_rfl
theorem OT:AG prog 180 2=some (2,1,false):=by kernel_rfl
theorem wM:Ax prog 180=some [(0,1),(1,1),(2,1)]:=by kernel_rfl
theorem vX:As prog 180=some [.d (.sl (some true) []),.d (.sl (some true) []),.d (.raw (.map none))]:=by kernel_rfl
theorem vj:A3 prog 181 1=true:=by kernel_rfl
theorem Yi:BX prog 181=true:=by kernel_rfl
theorem r6:jd prog 181 188 2 16:=MD (by kernel_rfl)
theorem vi:A3 prog 182 1=true:=by kernel_rfl
theorem Yh:BX prog 182=true:=by kernel_rfl
theorem rZ:jd prog 182 254 2 16:=MD (by kernel_rfl)
theorem G6:AG prog 184 0=some (0,6,true):=by kernel_rfl
theorem Lg:AG prog 184 1=some (6,1,false):=by kernel_rfl
theorem Ld:AG prog 184 2=some (7,1,false):=by kernel_rfl
theorem F6:AG prog 184 3=some (8,1,false):=by kernel_rfl
theorem wL:Ax prog 184=some [(0,6),(6,1),(7,1),(8,1)]:=by kernel_rfl
theorem vW:As prog 184=some [.d (.raw (.int .i64 0)),.d (.raw (.int .i64 0)),.d (.raw (.int .i64 0)),.d (.sl (some true) []),.d (.sl (some true) []),.d (.sl (some true) []),.d (.sl (some true) []),.d (.sl (some true) []),.d (.raw (.bool false))]:=by kernel_rfl
theorem dE:A3 prog 186 1=true:=by kernel_rfl
theorem cj:BX prog 186=true:=by kernel_rfl
theorem vV:As prog 186=some [.d (.raw (.pointer none))]:=by kernel_rfl
theorem UG:A3 prog 188 2=true:=by kernel_rfl
theorem dt:CI prog 188 2=true:=by kernel_rfl
theorem TP:AG prog 188 0=some (0,1,false):=by kernel_rfl
theorem TO:AG prog 188 1=some (1,1,false):=by kernel_rfl
theorem wK:Ax prog 188=some [(0,1),(1,1)]:=by kernel_rfl
theorem c8:As prog 188=some [.d (.raw (.pointer none)),.d (.raw (.int .i64 0))]:=by kernel_rfl
theorem OS:AG prog 190 0=some (0,6,true):=by kernel_rfl
theorem TN:AG prog 190 1=some (6,1,false):=by kernel_rfl
theorem Lc:AG prog 190 2=some (7,1,false):=by kernel_rfl
theorem IB:AG prog 190 3=some (8,1,false):=by kernel_rfl
theorem Lb:AG prog 190 4=some (9,1,false):=by kernel_rfl
theorem wJ:Ax prog 190=some [(0,6),(6,1),(7,1),(8,1),(9,1)]:=by kernel_rfl
theorem vU:As prog 190=some [.d (.raw (.int .i64 0)),.d (.raw (.string ⟨#[]⟩)),.d (.raw (.int .i64 0)),.d (.raw (.string ⟨#[]⟩)),.d (.raw (.string ⟨#[]⟩)),.d (.raw (.string ⟨#[]⟩)),.d (.raw (.int .i64 0)),.d (.raw (.int .i64 0)),.d (.sl (some true) []),.d (.raw (.int .i64 0))]:=by kernel_rfl
theorem KC:A3 prog 192 4=true:=by kernel_rfl
theorem vq:CI prog 192 4=true:=by kernel_rfl
theorem F5:AG prog 192 0=some (0,3,true):=by kernel_rfl
theorem La:AG prog 192 1=some (3,1,false):=by kernel_rfl
theorem vT:As prog 192=some [.d (.raw (.string ⟨#[]⟩)),.d (.raw (.int .i64 0)),.d (.raw (.string ⟨#[]⟩)),.d (.raw (.int .i64 0))]:=by kernel_rfl
theorem Oh:A3 prog 193 3=true:=by kernel_rfl
theorem Y5:CI prog 193 3=true:=by kernel_rfl
theorem Es:AG prog 193 0=some (0,1,false):=by kernel_rfl
theorem Er:AG prog 193 1=some (1,1,false):=by kernel_rfl
theorem D5:AG prog 193 2=some (2,1,false):=by kernel_rfl
theorem c7:As prog 193=some [.d (.raw (.string ⟨#[]⟩)),.d (.raw (.string ⟨#[]⟩)),.d (.raw (.int .i64 0))]:=by kernel_rfl
theorem Di:jd prog 194 98 6 80:=MD (by kernel_rfl)
theorem I8:A3 prog 197 9=true:=by kernel_rfl
theorem dq:CI prog 197 9=true:=by kernel_rfl
theorem pT:AG prog 197 0=some (0,1,false):=by kernel_rfl
theorem Ug:Ax prog 197=some [(0,1),(1,1),(2,6),(8,1)]:=by kernel_rfl
theorem I5:As prog 197=some [.d (.raw (.int .i64 0)),.d (.raw (.int .i64 0)),.d (.raw (.int .i64 0)),.d (.raw (.string ⟨#[]⟩)),.d (.raw (.int .i64 0)),.d (.raw (.string ⟨#[]⟩)),.d (.raw (.string ⟨#[]⟩)),.d (.raw (.string ⟨#[]⟩)),.d (.raw (.int .i64 0))]:=by kernel_rfl
theorem On:jd prog 204 207 8 96:=MD (by kernel_rfl)
theorem vh:A3 prog 207 8=true:=by kernel_rfl
theorem pS:AG prog 207 1=some (1,1,false):=by kernel_rfl
theorem rp:Ax prog 207=some [(0,1),(1,1),(2,6)]:=by kernel_rfl
theorem rJ:As prog 207=some [.d (.raw (.int .i64 0)),.d (.raw (.int .i64 0)),.d (.raw (.int .i64 0)),.d (.raw (.string ⟨#[]⟩)),.d (.raw (.int .i64 0)),.d (.raw (.string ⟨#[]⟩)),.d (.raw (.string ⟨#[]⟩)),.d (.raw (.string ⟨#[]⟩))]:=by kernel_rfl
theorem dc:jd prog 215 218 7 88:=MD (by kernel_rfl)
theorem YQ:A3 prog 218 7=true:=by kernel_rfl
theorem rf:CI prog 218 7=true:=by kernel_rfl
theorem L9:AG prog 218 0=some (0,6,true):=by kernel_rfl
theorem ZS:AG prog 218 1=some (6,1,false):=by kernel_rfl
theorem wI:Ax prog 218=some [(0,6),(6,1)]:=by kernel_rfl
theorem c6:As prog 218=some [.d (.raw (.int .i64 0)),.d (.raw (.string ⟨#[]⟩)),.d (.raw (.int .i64 0)),.d (.raw (.string ⟨#[]⟩)),.d (.raw (.string ⟨#[]⟩)),.d (.raw (.string ⟨#[]⟩)),.d (.raw (.int .i64 0))]:=by kernel_rfl
theorem Up:BX prog 226=true:=by kernel_rfl
theorem vg:A3 prog 227 1=true:=by kernel_rfl
theorem Yg:BX prog 227=true:=by kernel_rfl
theorem db:jd prog 227 233 8 112:=MD (by kernel_rfl)
theorem L8:AG prog 229 0=some (0,1,false):=by kernel_rfl
theorem pR:AG prog 229 1=some (1,1,false):=by kernel_rfl
theorem L7:AG prog 229 2=some (2,1,false):=by kernel_rfl
theorem wH:Ax prog 229=some [(0,1),(1,1),(2,1)]:=by kernel_rfl
theorem vS:As prog 229=some [.d (.raw (.map none)),.d (.sl (some true) []),.d (.sl (some true) [])]:=by kernel_rfl
theorem YP:A3 prog 233 8=true:=by kernel_rfl
theorem r9:CI prog 233 8=true:=by kernel_rfl
theorem L6:AG prog 233 0=some (0,6,true):=by kernel_rfl
theorem pQ:AG prog 233 1=some (6,1,false):=by kernel_rfl
theorem ZR:AG prog 233 2=some (7,1,false):=by kernel_rfl
theorem wG:Ax prog 233=some [(0,6),(6,1),(7,1)]:=by kernel_rfl
theorem cZ:As prog 233=some [.d (.raw (.int .i64 0)),.d (.raw (.string ⟨#[]⟩)),.d (.raw (.int .i64 0)),.d (.raw (.string ⟨#[]⟩)),.d (.raw (.string ⟨#[]⟩)),.d (.raw (.string ⟨#[]⟩)),.d (.raw (.int .i64 0)),.d (.sl (some true) [])]:=by kernel_rfl
theorem Kr:A3 prog 245 9=true:=by kernel_rfl
theorem r8:CI prog 245 9=true:=by kernel_rfl
theorem pP:AG prog 245 0=some (0,1,false):=by kernel_rfl
theorem Uf:Ax prog 245=some [(0,1),(1,1),(2,6),(8,1)]:=by kernel_rfl
theorem KA:As prog 245=some [.d (.raw (.int .i64 0)),.d (.raw (.int .i64 0)),.d (.raw (.int .i64 0)),.d (.raw (.string ⟨#[]⟩)),.d (.raw (.int .i64 0)),.d (.raw (.string ⟨#[]⟩)),.d (.raw (.string ⟨#[]⟩)),.d (.raw (.string ⟨#[]⟩)),.d (.raw (.int .i64 0))]:=by kernel_rfl
theorem Qn:A3 prog 254 2=true:=by kernel_rfl
theorem dp:CI prog 254 2=true:=by kernel_rfl
theorem IA:AG prog 254 0=some (0,1,false):=by kernel_rfl
theorem TM:AG prog 254 1=some (1,1,false):=by kernel_rfl
theorem wF:Ax prog 254=some [(0,1),(1,1)]:=by kernel_rfl
theorem YE:As prog 254=some [.d (.raw (.pointer none)),.d (.raw (.int .i64 0))]:=by kernel_rfl
theorem vo:jd prog 273 146 1 8:=MD (by kernel_rfl)
theorem wT:BX prog 283=true:=by kernel_rfl
theorem dD:A3 prog 318 2=true:=by kernel_rfl
theorem F4:AG prog 318 0=some (0,1,false):=by kernel_rfl
theorem L5:AG prog 318 1=some (1,1,false):=by kernel_rfl
theorem rn:Ax prog 318=some [(0,1),(1,1)]:=by kernel_rfl
theorem rI:As prog 318=some [.d (.raw (.int .i64 0)),.d (.raw (.int .i64 0))]:=by kernel_rfl
theorem da:jd prog 319 318 2 16:=MD (by kernel_rfl)
theorem Zk:AG prog 323 0=some (0,1,false):=by kernel_rfl
theorem pO:AG prog 323 1=some (1,1,false):=by kernel_rfl
theorem wE:Ax prog 323=some [(0,1),(1,1)]:=by kernel_rfl
theorem vP:As prog 323=some [.d (.sl (some true) []),.d (.raw .nilFunc)]:=by kernel_rfl
theorem sC:Bu prog 127 64 3=true:=by kernel_rfl
theorem yS:DJ prog 3=some (.d (.raw (.int .i64 0))):=by kernel_rfl
theorem I2:CC prog 3 (λz:Int=> .raw (.int .i64 z)) (λz=> .int .i64 z):=CC.int underlying3
theorem sB:Bu prog 128 3 3=true:=by kernel_rfl
theorem C6:Bu prog 129 64 2=true:=by kernel_rfl
theorem QQ:DJ prog 2=some (.d (.raw (.int .i64 0))):=by kernel_rfl
theorem FU:Bu prog 137 3 4=true:=by kernel_rfl
theorem W4:DJ prog 4=some (.d (.raw (.bool false))):=by kernel_rfl
theorem KE:Bu prog 138 3 4=true:=by kernel_rfl
theorem Yy:Bu prog 155 64 4=true:=by kernel_rfl
theorem Yx:Bu prog 178 3 176=true:=by kernel_rfl
theorem YF:DJ prog 176=some (.d (.raw (.pointer none))):=by kernel_rfl
theorem VC:Bu prog 226 3 55=true:=by kernel_rfl
theorem nW:DJ prog 55=some (.d (.agg [.raw (.int .i64 0),.raw (.int .i64 0),.raw (.int .i64 0),.sl (some true) [],.sl (some true) [],.sl (some true) []])):=by kernel_rfl
theorem Yw:Bu prog 248 64 186=true:=by kernel_rfl
theorem ca:DJ prog 186=some (.d (.raw (.pointer none))):=by kernel_rfl
theorem fj:Bu prog 310 9 2=true:=by kernel_rfl
theorem yZ:CC prog 9 Am Nq:=CC.str underlying9
end Go.Proofs.YteifpcnphnhaoaaGreat
