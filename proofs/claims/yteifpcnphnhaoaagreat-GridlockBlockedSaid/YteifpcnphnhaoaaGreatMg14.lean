import Derived.Test.YteifpcnphnhaoaaGreatMg13
import Derived.Test.YteifpcnphnhaoaaGreatRows
namespace Go.Proofs.YteifpcnphnhaoaaGreat
open Go.RowKit
theorem mixed:Tryz.prog.follows .mixedOrders=true:=by kernel_rfl
theorem sz1:AX Tryz.prog 1 1=true:=by kernel_rfl
theorem on1:BB Tryz.prog 1=true:=by kernel_rfl
theorem sz2:AX Tryz.prog 2 1=true:=by kernel_rfl
theorem JG:BB Tryz.prog 2=true:=by kernel_rfl
theorem BA:AX Tryz.prog 3 1=true:=by kernel_rfl
theorem Aq:BB Tryz.prog 3=true:=by kernel_rfl
theorem zd3:MO Tryz.prog 3=some (.raw (.int .i64 0)):=by kernel_rfl
theorem sz4:AX Tryz.prog 4 1=true:=by kernel_rfl
theorem on4:BB Tryz.prog 4=true:=by kernel_rfl
theorem zl4:Av Tryz.prog 4=some [.d (.raw (.bool false))]:=by kernel_rfl
theorem sz9:AX Tryz.prog 9 1=true:=by kernel_rfl
theorem IG:BB Tryz.prog 9=true:=by kernel_rfl
theorem on22:BB Tryz.prog 22=true:=by kernel_rfl
theorem Rr:BB Tryz.prog 23=true:=by kernel_rfl
theorem Ze:Bi Tryz.prog 25 2=true:=by kernel_rfl
theorem QR:AH Tryz.prog 25 0=some (0,1,false):=by kernel_rfl
theorem Hj:AH Tryz.prog 25 1=some (1,1,false):=by kernel_rfl
theorem Ce:AX Tryz.prog 28 1=true:=by kernel_rfl
theorem BI:BB Tryz.prog 28=true:=by kernel_rfl
theorem zl28:Av Tryz.prog 28=some [.d (.sl (some true) [])]:=by kernel_rfl
theorem zd28:MO Tryz.prog 28=some (.sl (some true) []):=by kernel_rfl
theorem BW:SlTy Tryz.prog 28 3 1 8:=OD (by kernel_rfl)
theorem sz29:AX Tryz.prog 29 1=true:=by kernel_rfl
theorem on29:BB Tryz.prog 29=true:=by kernel_rfl
theorem RX:SlTy Tryz.prog 29 28 1 24:=OD (by kernel_rfl)
theorem sz30:AX Tryz.prog 30 1=true:=by kernel_rfl
theorem X6:BB Tryz.prog 30=true:=by kernel_rfl
theorem sl30:SlTy Tryz.prog 30 66 8 96:=OD (by kernel_rfl)
theorem ZG:AX Tryz.prog 32 5=true:=by kernel_rfl
theorem rw32:Bi Tryz.prog 32 5=true:=by kernel_rfl
theorem fi32_0:AH Tryz.prog 32 0=some (0,1,false):=by kernel_rfl
theorem fi32_1:AH Tryz.prog 32 1=some (1,1,false):=by kernel_rfl
theorem bu:AH Tryz.prog 32 2=some (2,1,false):=by kernel_rfl
theorem fi32_3:AH Tryz.prog 32 3=some (3,1,false):=by kernel_rfl
theorem fi32_4:AH Tryz.prog 32 4=some (4,1,false):=by kernel_rfl
theorem pl32:Ax Tryz.prog 32=some [(0,1),(1,1),(2,1),(3,1),(4,1)]:=by kernel_rfl
theorem Qq:Av Tryz.prog 32=some [.d (.sl (some true) []),.d (.sl (some true) []),.d (.sl (some true) []),.d (.sl (some true) []),.d (.sl (some true) [])]:=by kernel_rfl
theorem ZF:AX Tryz.prog 33 1=true:=by kernel_rfl
theorem on33:BB Tryz.prog 33=true:=by kernel_rfl
theorem zl33:Av Tryz.prog 33=some [.d (.raw (.int .i64 0))]:=by kernel_rfl
theorem sz36:AX Tryz.prog 36 1=true:=by kernel_rfl
theorem Rq:BB Tryz.prog 36=true:=by kernel_rfl
theorem Pm:SlTy Tryz.prog 36 88 7 88:=OD (by kernel_rfl)
theorem sz37:AX Tryz.prog 37 1=true:=by kernel_rfl
theorem Kb:BB Tryz.prog 37=true:=by kernel_rfl
theorem OH:SlTy Tryz.prog 37 55 6 96:=OD (by kernel_rfl)
theorem sz39:AX Tryz.prog 39 2=true:=by kernel_rfl
theorem B2:Bi Tryz.prog 39 2=true:=by kernel_rfl
theorem Fk:AH Tryz.prog 39 0=some (0,1,false):=by kernel_rfl
theorem ES:AH Tryz.prog 39 1=some (1,1,false):=by kernel_rfl
theorem Ye:Av Tryz.prog 39=some [.d (.sl (some true) []),.d (.sl (some true) [])]:=by kernel_rfl
theorem sz52:AX Tryz.prog 52 1=true:=by kernel_rfl
theorem X5:BB Tryz.prog 52=true:=by kernel_rfl
theorem XN:SlTy Tryz.prog 52 158 4 48:=OD (by kernel_rfl)
theorem sz53:AX Tryz.prog 53 1=true:=by kernel_rfl
theorem aT:BB Tryz.prog 53=true:=by kernel_rfl
theorem Z4:SlTy Tryz.prog 53 161 3 40:=OD (by kernel_rfl)
theorem Cd:AX Tryz.prog 55 6=true:=by kernel_rfl
theorem By:Bi Tryz.prog 55 6=true:=by kernel_rfl
theorem OC:AH Tryz.prog 55 0=some (0,1,false):=by kernel_rfl
theorem Uf:AH Tryz.prog 55 1=some (1,1,false):=by kernel_rfl
theorem NZ:AH Tryz.prog 55 2=some (2,1,false):=by kernel_rfl
theorem Hi:AH Tryz.prog 55 3=some (3,1,false):=by kernel_rfl
theorem JA:AH Tryz.prog 55 4=some (4,1,false):=by kernel_rfl
theorem FH:AH Tryz.prog 55 5=some (5,1,false):=by kernel_rfl
theorem pl55:Ax Tryz.prog 55=some [(0,1),(1,1),(2,1),(3,1),(4,1),(5,1)]:=by kernel_rfl
theorem El:Av Tryz.prog 55=some [.d (.raw (.int .i64 0)),.d (.raw (.int .i64 0)),.d (.raw (.int .i64 0)),.d (.sl (some true) []),.d (.sl (some true) []),.d (.sl (some true) [])]:=by kernel_rfl
theorem rw62:Bi Tryz.prog 62 3=true:=by kernel_rfl
theorem QQ:AH Tryz.prog 62 0=some (0,1,false):=by kernel_rfl
theorem NY:AH Tryz.prog 62 1=some (1,1,false):=by kernel_rfl
theorem NX:AH Tryz.prog 62 2=some (2,1,false):=by kernel_rfl
theorem aH:Ax Tryz.prog 62=some [(0,1),(1,1),(2,1)]:=by kernel_rfl
theorem Yd:Av Tryz.prog 62=some [.d (.raw (.string ⟨#[]⟩)),.d (.raw (.int .i64 0)),.d (.raw (.string ⟨#[]⟩))]:=by kernel_rfl
theorem ZE:AX Tryz.prog 64 6=true:=by kernel_rfl
theorem CU:Bi Tryz.prog 64 6=true:=by kernel_rfl
theorem Ue:AH Tryz.prog 64 0=some (0,1,false):=by kernel_rfl
theorem ER:AH Tryz.prog 64 1=some (1,3,true):=by kernel_rfl
theorem Kt:AH Tryz.prog 64 2=some (4,1,false):=by kernel_rfl
theorem Ks:AH Tryz.prog 64 3=some (5,1,false):=by kernel_rfl
theorem Rg:Ax Tryz.prog 64=some [(0,1),(1,3),(4,1),(5,1)]:=by kernel_rfl
theorem KN:Av Tryz.prog 64=some [.d (.raw (.int .i64 0)),.d (.raw (.string ⟨#[]⟩)),.d (.raw (.int .i64 0)),.d (.raw (.string ⟨#[]⟩)),.d (.raw (.string ⟨#[]⟩)),.d (.raw (.string ⟨#[]⟩))]:=by kernel_rfl
theorem sz66:AX Tryz.prog 66 8=true:=by kernel_rfl
theorem rw66:Bi Tryz.prog 66 8=true:=by kernel_rfl
theorem Ud:AH Tryz.prog 66 0=some (0,1,false):=by kernel_rfl
theorem fi66_1:AH Tryz.prog 66 1=some (1,6,true):=by kernel_rfl
theorem Uc:AH Tryz.prog 66 2=some (7,1,false):=by kernel_rfl
theorem pl66:Ax Tryz.prog 66=some [(0,1),(1,6),(7,1)]:=by kernel_rfl
theorem zl66:Av Tryz.prog 66=some [.d (.raw (.int .i64 0)),.d (.raw (.int .i64 0)),.d (.raw (.string ⟨#[]⟩)),.d (.raw (.int .i64 0)),.d (.raw (.string ⟨#[]⟩)),.d (.raw (.string ⟨#[]⟩)),.d (.raw (.string ⟨#[]⟩)),.d (.raw (.int .i64 0))]:=by kernel_rfl
theorem sl69:SlTy Tryz.prog 69 73 7 88:=OD (by kernel_rfl)
theorem sz73:AX Tryz.prog 73 7=true:=by kernel_rfl
theorem bt:AH Tryz.prog 73 0=some (0,6,true):=by kernel_rfl
theorem br:AH Tryz.prog 73 1=some (6,1,false):=by kernel_rfl
theorem pl73:Ax Tryz.prog 73=some [(0,6),(6,1)]:=by kernel_rfl
theorem zl73:Av Tryz.prog 73=some [.d (.raw (.int .i64 0)),.d (.raw (.string ⟨#[]⟩)),.d (.raw (.int .i64 0)),.d (.raw (.string ⟨#[]⟩)),.d (.raw (.string ⟨#[]⟩)),.d (.raw (.string ⟨#[]⟩)),.d (.raw (.int .i64 0))]:=by kernel_rfl
theorem sl86:SlTy Tryz.prog 86 9 1 16:=OD (by kernel_rfl)
theorem OG:AX Tryz.prog 88 7=true:=by kernel_rfl
theorem Zc:Bi Tryz.prog 88 7=true:=by kernel_rfl
theorem FG:AH Tryz.prog 88 0=some (0,6,true):=by kernel_rfl
theorem QP:AH Tryz.prog 88 1=some (6,1,false):=by kernel_rfl
theorem pl88:Ax Tryz.prog 88=some [(0,6),(6,1)]:=by kernel_rfl
theorem Qp:Av Tryz.prog 88=some [.d (.raw (.int .i64 0)),.d (.raw (.string ⟨#[]⟩)),.d (.raw (.int .i64 0)),.d (.raw (.string ⟨#[]⟩)),.d (.raw (.string ⟨#[]⟩)),.d (.raw (.string ⟨#[]⟩)),.d (.raw (.int .i64 0))]:=by kernel_rfl
theorem on90:BB Tryz.prog 90=true:=by kernel_rfl
theorem on91:BB Tryz.prog 91=true:=by kernel_rfl
theorem sz93:AX Tryz.prog 93 6=true:=by kernel_rfl
theorem rw93:Bi Tryz.prog 93 6=true:=by kernel_rfl
theorem fi93_0:AH Tryz.prog 93 0=some (0,1,false):=by kernel_rfl
theorem fi93_1:AH Tryz.prog 93 1=some (1,1,false):=by kernel_rfl
theorem fi93_2:AH Tryz.prog 93 2=some (2,1,false):=by kernel_rfl
theorem QO:AH Tryz.prog 93 3=some (3,1,false):=by kernel_rfl
theorem Ub:AH Tryz.prog 93 4=some (4,1,false):=by kernel_rfl
theorem bq:AH Tryz.prog 93 5=some (5,1,false):=by kernel_rfl
theorem sl94:SlTy Tryz.prog 94 1 1 8:=OD (by kernel_rfl)
theorem rw96:Bi Tryz.prog 96 3=true:=by kernel_rfl
theorem rw98:Bi Tryz.prog 98 6=true:=by kernel_rfl
theorem fi98_0:AH Tryz.prog 98 0=some (0,1,false):=by kernel_rfl
theorem fi98_1:AH Tryz.prog 98 1=some (1,3,true):=by kernel_rfl
theorem fi98_2:AH Tryz.prog 98 2=some (4,1,false):=by kernel_rfl
theorem fi98_3:AH Tryz.prog 98 3=some (5,1,false):=by kernel_rfl
theorem sz100:AX Tryz.prog 100 7=true:=by kernel_rfl
theorem fi100_0:AH Tryz.prog 100 0=some (0,6,true):=by kernel_rfl
theorem fi100_1:AH Tryz.prog 100 1=some (6,1,false):=by kernel_rfl
theorem Z8:SlTy Tryz.prog 122 131 7 104:=OD (by kernel_rfl)
theorem sz124:AX Tryz.prog 124 1=true:=by kernel_rfl
theorem on124:BB Tryz.prog 124=true:=by kernel_rfl
theorem zl124:Av Tryz.prog 124=some [.d (.raw .nilFunc)]:=by kernel_rfl
theorem Vr:BB Tryz.prog 129=true:=by kernel_rfl
theorem Gr:AX Tryz.prog 131 7=true:=by kernel_rfl
theorem LK:Bi Tryz.prog 131 7=true:=by kernel_rfl
theorem IT:AH Tryz.prog 131 0=some (0,6,true):=by kernel_rfl
theorem MB:AH Tryz.prog 131 1=some (6,1,false):=by kernel_rfl
theorem pl131:Ax Tryz.prog 131=some [(0,6),(6,1)]:=by kernel_rfl
theorem MN:Av Tryz.prog 131=some [.d (.raw (.int .i64 0)),.d (.raw (.int .i64 0)),.d (.raw (.int .i64 0)),.d (.sl (some true) []),.d (.sl (some true) []),.d (.sl (some true) []),.d (.raw (.map none))]:=by kernel_rfl
theorem sz137:AX Tryz.prog 137 1=true:=by kernel_rfl
theorem Rt:BB Tryz.prog 137=true:=by kernel_rfl
theorem zl137:Av Tryz.prog 137=some [.d (.raw (.map none))]:=by kernel_rfl
theorem M6:SlTy Tryz.prog 141 144 8 96:=OD (by kernel_rfl)
theorem sz144:AX Tryz.prog 144 8=true:=by kernel_rfl
theorem rw144:Bi Tryz.prog 144 8=true:=by kernel_rfl
theorem fi144_1:AH Tryz.prog 144 1=some (1,1,false):=by kernel_rfl
theorem pl144:Ax Tryz.prog 144=some [(0,1),(1,1),(2,6)]:=by kernel_rfl
theorem Yj:Av Tryz.prog 144=some [.d (.raw (.int .i64 0)),.d (.raw (.int .i64 0)),.d (.raw (.int .i64 0)),.d (.raw (.string ⟨#[]⟩)),.d (.raw (.int .i64 0)),.d (.raw (.string ⟨#[]⟩)),.d (.raw (.string ⟨#[]⟩)),.d (.raw (.string ⟨#[]⟩))]:=by kernel_rfl
theorem sz146:AX Tryz.prog 146 1=true:=by kernel_rfl
theorem on146:BB Tryz.prog 146=true:=by kernel_rfl
theorem V8:SlTy Tryz.prog 147 28 1 24:=OD (by kernel_rfl)
theorem Oa:AX Tryz.prog 158 4=true:=by kernel_rfl
theorem Zg:Bi Tryz.prog 158 4=true:=by kernel_rfl
theorem Jr:AH Tryz.prog 158 0=some (0,3,true):=by kernel_rfl
theorem QW:AH Tryz.prog 158 1=some (3,1,false):=by kernel_rfl
theorem aJ:Ax Tryz.prog 158=some [(0,3),(3,1)]:=by kernel_rfl
theorem O6:Av Tryz.prog 158=some [.d (.raw (.string ⟨#[]⟩)),.d (.raw (.int .i64 0)),.d (.raw (.string ⟨#[]⟩)),.d (.raw (.int .i64 0))]:=by kernel_rfl
theorem VX:AX Tryz.prog 161 3=true:=by kernel_rfl
theorem rw161:Bi Tryz.prog 161 3=true:=by kernel_rfl
theorem Jq:AH Tryz.prog 161 0=some (0,1,false):=by kernel_rfl
theorem Jp:AH Tryz.prog 161 1=some (1,1,false):=by kernel_rfl
theorem Jo:AH Tryz.prog 161 2=some (2,1,false):=by kernel_rfl
theorem zl161:Av Tryz.prog 161=some [.d (.raw (.string ⟨#[]⟩)),.d (.raw (.string ⟨#[]⟩)),.d (.raw (.int .i64 0))]:=by kernel_rfl
theorem Z7:SlTy Tryz.prog 168 245 9 104:=OD (by kernel_rfl)
theorem sz171:AX Tryz.prog 171 1=true:=by kernel_rfl
theorem Vq:BB Tryz.prog 171=true:=by kernel_rfl
theorem zl171:Av Tryz.prog 171=some [.d (.raw (.pointer none))]:=by kernel_rfl
theorem sz175:AX Tryz.prog 175 1=true:=by kernel_rfl
theorem Fz:BB Tryz.prog 175=true:=by kernel_rfl
theorem V7:SlTy Tryz.prog 175 176 1 8:=OD (by kernel_rfl)
theorem LI:AX Tryz.prog 176 1=true:=by kernel_rfl
theorem Mq:BB Tryz.prog 176=true:=by kernel_rfl
theorem sz177:AX Tryz.prog 177 1=true:=by kernel_rfl
theorem Vp:BB Tryz.prog 177=true:=by kernel_rfl
theorem sl177:SlTy Tryz.prog 177 186 1 8:=OD (by kernel_rfl)
theorem Vo:BB Tryz.prog 178=true:=by kernel_rfl
theorem IS:AH Tryz.prog 180 0=some (0,1,false):=by kernel_rfl
theorem Jn:AH Tryz.prog 180 1=some (1,1,false):=by kernel_rfl
theorem MA:AH Tryz.prog 180 2=some (2,1,false):=by kernel_rfl
theorem pl180:Ax Tryz.prog 180=some [(0,1),(1,1),(2,1)]:=by kernel_rfl
theorem zl180:Av Tryz.prog 180=some [.d (.sl (some true) []),.d (.sl (some true) []),.d (.raw (.map none))]:=by kernel_rfl
theorem sz181:AX Tryz.prog 181 1=true:=by kernel_rfl
theorem Vn:BB Tryz.prog 181=true:=by kernel_rfl
theorem sl181:SlTy Tryz.prog 181 188 2 16:=OD (by kernel_rfl)
theorem sz182:AX Tryz.prog 182 1=true:=by kernel_rfl
theorem Vm:BB Tryz.prog 182=true:=by kernel_rfl
theorem sl182:SlTy Tryz.prog 182 254 2 16:=OD (by kernel_rfl)
theorem F8:AH Tryz.prog 184 0=some (0,6,true):=by kernel_rfl
theorem Jm:AH Tryz.prog 184 1=some (6,1,false):=by kernel_rfl
theorem Jl:AH Tryz.prog 184 2=some (7,1,false):=by kernel_rfl
theorem E4:AH Tryz.prog 184 3=some (8,1,false):=by kernel_rfl
theorem pl184:Ax Tryz.prog 184=some [(0,6),(6,1),(7,1),(8,1)]:=by kernel_rfl
theorem zl184:Av Tryz.prog 184=some [.d (.raw (.int .i64 0)),.d (.raw (.int .i64 0)),.d (.raw (.int .i64 0)),.d (.sl (some true) []),.d (.sl (some true) []),.d (.sl (some true) []),.d (.sl (some true) []),.d (.sl (some true) []),.d (.raw (.bool false))]:=by kernel_rfl
theorem ZH:AX Tryz.prog 186 1=true:=by kernel_rfl
theorem ET:BB Tryz.prog 186=true:=by kernel_rfl
theorem zl186:Av Tryz.prog 186=some [.d (.raw (.pointer none))]:=by kernel_rfl
theorem RE:AX Tryz.prog 188 2=true:=by kernel_rfl
theorem Zf:Bi Tryz.prog 188 2=true:=by kernel_rfl
theorem QV:AH Tryz.prog 188 0=some (0,1,false):=by kernel_rfl
theorem QU:AH Tryz.prog 188 1=some (1,1,false):=by kernel_rfl
theorem pl188:Ax Tryz.prog 188=some [(0,1),(1,1)]:=by kernel_rfl
theorem Yi:Av Tryz.prog 188=some [.d (.raw (.pointer none)),.d (.raw (.int .i64 0))]:=by kernel_rfl
theorem Lz:AH Tryz.prog 190 0=some (0,6,true):=by kernel_rfl
theorem QT:AH Tryz.prog 190 1=some (6,1,false):=by kernel_rfl
theorem Jk:AH Tryz.prog 190 2=some (7,1,false):=by kernel_rfl
theorem Gg:AH Tryz.prog 190 3=some (8,1,false):=by kernel_rfl
theorem Jj:AH Tryz.prog 190 4=some (9,1,false):=by kernel_rfl
theorem pl190:Ax Tryz.prog 190=some [(0,6),(6,1),(7,1),(8,1),(9,1)]:=by kernel_rfl
theorem zl190:Av Tryz.prog 190=some [.d (.raw (.int .i64 0)),.d (.raw (.string ⟨#[]⟩)),.d (.raw (.int .i64 0)),.d (.raw (.string ⟨#[]⟩)),.d (.raw (.string ⟨#[]⟩)),.d (.raw (.string ⟨#[]⟩)),.d (.raw (.int .i64 0)),.d (.raw (.int .i64 0)),.d (.sl (some true) []),.d (.raw (.int .i64 0))]:=by kernel_rfl
theorem sz192:AX Tryz.prog 192 4=true:=by kernel_rfl
theorem fi192_0:AH Tryz.prog 192 0=some (0,3,true):=by kernel_rfl
theorem fi192_1:AH Tryz.prog 192 1=some (3,1,false):=by kernel_rfl
theorem sz193:AX Tryz.prog 193 3=true:=by kernel_rfl
theorem rw193:Bi Tryz.prog 193 3=true:=by kernel_rfl
theorem Z6:SlTy Tryz.prog 215 218 7 88:=OD (by kernel_rfl)
theorem VW:AX Tryz.prog 218 7=true:=by kernel_rfl
theorem rw218:Bi Tryz.prog 218 7=true:=by kernel_rfl
theorem Ji:AH Tryz.prog 218 0=some (0,6,true):=by kernel_rfl
theorem WW:AH Tryz.prog 218 1=some (6,1,false):=by kernel_rfl
theorem pl218:Ax Tryz.prog 218=some [(0,6),(6,1)]:=by kernel_rfl
theorem Yh:Av Tryz.prog 218=some [.d (.raw (.int .i64 0)),.d (.raw (.string ⟨#[]⟩)),.d (.raw (.int .i64 0)),.d (.raw (.string ⟨#[]⟩)),.d (.raw (.string ⟨#[]⟩)),.d (.raw (.string ⟨#[]⟩)),.d (.raw (.int .i64 0))]:=by kernel_rfl
theorem Rs:BB Tryz.prog 226=true:=by kernel_rfl
theorem sz227:AX Tryz.prog 227 1=true:=by kernel_rfl
theorem Vl:BB Tryz.prog 227=true:=by kernel_rfl
theorem Z5:SlTy Tryz.prog 227 233 8 112:=OD (by kernel_rfl)
theorem Jh:AH Tryz.prog 229 0=some (0,1,false):=by kernel_rfl
theorem fi229_1:AH Tryz.prog 229 1=some (1,1,false):=by kernel_rfl
theorem Jg:AH Tryz.prog 229 2=some (2,1,false):=by kernel_rfl
theorem pl229:Ax Tryz.prog 229=some [(0,1),(1,1),(2,1)]:=by kernel_rfl
theorem zl229:Av Tryz.prog 229=some [.d (.raw (.map none)),.d (.sl (some true) []),.d (.sl (some true) [])]:=by kernel_rfl
theorem VV:AX Tryz.prog 233 8=true:=by kernel_rfl
theorem rw233:Bi Tryz.prog 233 8=true:=by kernel_rfl
theorem Jf:AH Tryz.prog 233 0=some (0,6,true):=by kernel_rfl
theorem fi233_1:AH Tryz.prog 233 1=some (6,1,false):=by kernel_rfl
theorem WV:AH Tryz.prog 233 2=some (7,1,false):=by kernel_rfl
theorem pl233:Ax Tryz.prog 233=some [(0,6),(6,1),(7,1)]:=by kernel_rfl
theorem Yg:Av Tryz.prog 233=some [.d (.raw (.int .i64 0)),.d (.raw (.string ⟨#[]⟩)),.d (.raw (.int .i64 0)),.d (.raw (.string ⟨#[]⟩)),.d (.raw (.string ⟨#[]⟩)),.d (.raw (.string ⟨#[]⟩)),.d (.raw (.int .i64 0)),.d (.sl (some true) [])]:=by kernel_rfl
theorem JK:AX Tryz.prog 245 9=true:=by kernel_rfl
theorem rw245:Bi Tryz.prog 245 9=true:=by kernel_rfl
theorem fi245_0:AH Tryz.prog 245 0=some (0,1,false):=by kernel_rfl
theorem Rj:Ax Tryz.prog 245=some [(0,1),(1,1),(2,6),(8,1)]:=by kernel_rfl
theorem I7:Av Tryz.prog 245=some [.d (.raw (.int .i64 0)),.d (.raw (.int .i64 0)),.d (.raw (.int .i64 0)),.d (.raw (.string ⟨#[]⟩)),.d (.raw (.int .i64 0)),.d (.raw (.string ⟨#[]⟩)),.d (.raw (.string ⟨#[]⟩)),.d (.raw (.string ⟨#[]⟩)),.d (.raw (.int .i64 0))]:=by kernel_rfl
theorem O9:AX Tryz.prog 254 2=true:=by kernel_rfl
theorem Zd:Bi Tryz.prog 254 2=true:=by kernel_rfl
theorem Gf:AH Tryz.prog 254 0=some (0,1,false):=by kernel_rfl
theorem QS:AH Tryz.prog 254 1=some (1,1,false):=by kernel_rfl
theorem pl254:Ax Tryz.prog 254=some [(0,1),(1,1)]:=by kernel_rfl
theorem VI:Av Tryz.prog 254=some [.d (.raw (.pointer none)),.d (.raw (.int .i64 0))]:=by kernel_rfl
theorem sl273:SlTy Tryz.prog 273 146 1 8:=OD (by kernel_rfl)
theorem on283:BB Tryz.prog 283=true:=by kernel_rfl
theorem RD:AX Tryz.prog 318 2=true:=by kernel_rfl
theorem VE:AH Tryz.prog 318 0=some (0,1,false):=by kernel_rfl
theorem E3:AH Tryz.prog 318 1=some (1,1,false):=by kernel_rfl
theorem aI:Ax Tryz.prog 318=some [(0,1),(1,1)]:=by kernel_rfl
theorem Yf:Av Tryz.prog 318=some [.d (.raw (.int .i64 0)),.d (.raw (.int .i64 0))]:=by kernel_rfl
theorem RW:SlTy Tryz.prog 319 318 2 16:=OD (by kernel_rfl)
theorem Wk:AH Tryz.prog 323 0=some (0,1,false):=by kernel_rfl
theorem fi323_1:AH Tryz.prog 323 1=some (1,1,false):=by kernel_rfl
theorem pl323:Ax Tryz.prog 323=some [(0,1),(1,1)]:=by kernel_rfl
theorem zl323:Av Tryz.prog 323=some [.d (.sl (some true) []),.d (.raw .nilFunc)]:=by kernel_rfl
theorem mt127:B3 Tryz.prog 127 64 3=true:=by kernel_rfl
theorem za3:C8 Tryz.prog 3=some (.d (.raw (.int .i64 0))):=by kernel_rfl
theorem HE:B8 Tryz.prog 3 (fun z:Int=> .raw (.int .i64 z)) (fun z=> .int .i64 z):=B8.int Tryz.underlying3
theorem mt128:B3 Tryz.prog 128 3 3=true:=by kernel_rfl
theorem Bs:B3 Tryz.prog 129 64 2=true:=by kernel_rfl
theorem Nz:C8 Tryz.prog 2=some (.d (.raw (.int .i64 0))):=by kernel_rfl
theorem EU:B3 Tryz.prog 137 3 4=true:=by kernel_rfl
theorem Te:C8 Tryz.prog 4=some (.d (.raw (.bool false))):=by kernel_rfl
theorem Ia:B3 Tryz.prog 138 3 4=true:=by kernel_rfl
theorem WD:B3 Tryz.prog 155 64 4=true:=by kernel_rfl
theorem WC:B3 Tryz.prog 178 3 176=true:=by kernel_rfl
theorem VJ:C8 Tryz.prog 176=some (.d (.raw (.pointer none))):=by kernel_rfl
theorem SF:B3 Tryz.prog 226 3 55=true:=by kernel_rfl
theorem za55:C8 Tryz.prog 55=some (.d (.agg [.raw (.int .i64 0),.raw (.int .i64 0),.raw (.int .i64 0),.sl (some true) [],.sl (some true) [],.sl (some true) []])):=by kernel_rfl
theorem WB:B3 Tryz.prog 248 64 186=true:=by kernel_rfl
theorem Yk:C8 Tryz.prog 186=some (.d (.raw (.pointer none))):=by kernel_rfl
theorem au:B3 Tryz.prog 310 9 2=true:=by kernel_rfl
theorem kt9:B8 Tryz.prog 9 Am L8:=B8.str Tryz.underlying9
end Go.Proofs.YteifpcnphnhaoaaGreat
