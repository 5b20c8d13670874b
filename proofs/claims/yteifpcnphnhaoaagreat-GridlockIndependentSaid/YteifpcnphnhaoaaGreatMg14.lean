import Derived.Test.YteifpcnphnhaoaaGreatMg13
import Derived.Test.YteifpcnphnhaoaaGreatRows
open Go.Proofs.Tryz
namespace Go.Proofs.YteifpcnphnhaoaaGreat
open Go.RowKit
theorem E0:type_of% @Tryz.underlying28:=@Tryz.underlying28
theorem F0:type_of% @Tryz.underlying37:=@Tryz.underlying37
theorem No:type_of% @Tryz.underlying29:=@Tryz.underlying29
theorem Qs:type_of% @Tryz.underlying147:=@Tryz.underlying147
theorem R3:type_of% @Tryz.underlying175:=@Tryz.underlying175
theorem Ri:type_of% @Tryz.underlying122:=@Tryz.underlying122
theorem S1:type_of% @Tryz.underlying36:=@Tryz.underlying36
theorem T1:type_of% @Tryz.underlying52:=@Tryz.underlying52
theorem an:type_of% @Tryz.underlying23:=@Tryz.underlying23
theorem b0:type_of% @Tryz.underlying319:=@Tryz.underlying319
theorem ch:type_of% @Tryz.underlying53:=@Tryz.underlying53
theorem mixed:prog.follows .mixedOrders=true:=by kernel_rfl
theorem uY:AW prog 1 1=true:=by kernel_rfl
theorem uZ:Ay prog 1=true:=by kernel_rfl
theorem tS:AW prog 2 1=true:=by kernel_rfl
theorem Km:Ay prog 2=true:=by kernel_rfl
theorem BU:AW prog 3 1=true:=by kernel_rfl
theorem Aw:Ay prog 3=true:=by kernel_rfl
theorem n4:MZ prog 3=some (.raw (.int .i64 0)):=by kernel_rfl
theorem rJ:AW prog 4 1=true:=by kernel_rfl
theorem oV:Ay prog 4=true:=by kernel_rfl
theorem uc:Ap prog 4=some [.d (.raw (.bool false))]:=by kernel_rfl
theorem ud:AW prog 9 1=true:=by kernel_rfl
theorem IN:Ay prog 9=true:=by kernel_rfl
theorem kR:Ay prog 22=true:=by kernel_rfl
theorem VD:Ay prog 23=true:=by kernel_rfl
theorem aX:Bm prog 25 2=true:=by kernel_rfl
theorem Qr:AG prog 25 0=some (0,1,false):=by kernel_rfl
theorem JD:AG prog 25 1=some (1,1,false):=by kernel_rfl
theorem CZ:AW prog 28 1=true:=by kernel_rfl
theorem BG:Ay prog 28=true:=by kernel_rfl
theorem qv:Ap prog 28=some [.d (.sl (some true) [])]:=by kernel_rfl
theorem rC:MZ prog 28=some (.sl (some true) []):=by kernel_rfl
theorem BV:fB prog 28 3 1 8:=O5 (by kernel_rfl)
theorem rK:AW prog 29 1=true:=by kernel_rfl
theorem bT:Ay prog 29=true:=by kernel_rfl
theorem SE:fB prog 29 28 1 24:=O5 (by kernel_rfl)
theorem tR:AW prog 30 1=true:=by kernel_rfl
theorem oX:Ay prog 30=true:=by kernel_rfl
theorem nz:fB prog 30 66 8 96:=O5 (by kernel_rfl)
theorem Zm:AW prog 32 5=true:=by kernel_rfl
theorem ta:Bm prog 32 5=true:=by kernel_rfl
theorem gX:AG prog 32 0=some (0,1,false):=by kernel_rfl
theorem jF:AG prog 32 1=some (1,1,false):=by kernel_rfl
theorem Nw:AG prog 32 2=some (2,1,false):=by kernel_rfl
theorem jE:AG prog 32 3=some (3,1,false):=by kernel_rfl
theorem gw:AG prog 32 4=some (4,1,false):=by kernel_rfl
theorem tp:Au prog 32=some [(0,1),(1,1),(2,1),(3,1),(4,1)]:=by kernel_rfl
theorem Ra:Ap prog 32=some [.d (.sl (some true) []),.d (.sl (some true) []),.d (.sl (some true) []),.d (.sl (some true) []),.d (.sl (some true) [])]:=by kernel_rfl
theorem Zl:AW prog 33 1=true:=by kernel_rfl
theorem oW:Ay prog 33=true:=by kernel_rfl
theorem qt:Ap prog 33=some [.d (.raw (.int .i64 0))]:=by kernel_rfl
theorem nt:AW prog 36 1=true:=by kernel_rfl
theorem Ob:Ay prog 36=true:=by kernel_rfl
theorem Lq:fB prog 36 88 7 88:=O5 (by kernel_rfl)
theorem jd:AW prog 37 1=true:=by kernel_rfl
theorem Is:Ay prog 37=true:=by kernel_rfl
theorem K8:fB prog 37 55 6 96:=O5 (by kernel_rfl)
theorem Xe:AW prog 39 2=true:=by kernel_rfl
theorem BM:Bm prog 39 2=true:=by kernel_rfl
theorem Dp:AG prog 39 0=some (0,1,false):=by kernel_rfl
theorem Cy:AG prog 39 1=some (1,1,false):=by kernel_rfl
theorem QJ:Ap prog 39=some [.d (.sl (some true) []),.d (.sl (some true) [])]:=by kernel_rfl
theorem ns:AW prog 52 1=true:=by kernel_rfl
theorem VC:Ay prog 52=true:=by kernel_rfl
theorem Xt:fB prog 52 158 4 48:=O5 (by kernel_rfl)
theorem nq:AW prog 53 1=true:=by kernel_rfl
theorem YN:Ay prog 53=true:=by kernel_rfl
theorem aN:fB prog 53 161 3 40:=O5 (by kernel_rfl)
theorem CY:AW prog 55 6=true:=by kernel_rfl
theorem Bs:Bm prog 55 6=true:=by kernel_rfl
theorem OY:AG prog 55 0=some (0,1,false):=by kernel_rfl
theorem V1:AG prog 55 1=some (1,1,false):=by kernel_rfl
theorem Nv:AG prog 55 2=some (2,1,false):=by kernel_rfl
theorem Fn:AG prog 55 3=some (3,1,false):=by kernel_rfl
theorem Gu:AG prog 55 4=some (4,1,false):=by kernel_rfl
theorem Do:AG prog 55 5=some (5,1,false):=by kernel_rfl
theorem oR:Au prog 55=some [(0,1),(1,1),(2,1),(3,1),(4,1),(5,1)]:=by kernel_rfl
theorem E4:Ap prog 55=some [.d (.raw (.int .i64 0)),.d (.raw (.int .i64 0)),.d (.raw (.int .i64 0)),.d (.sl (some true) []),.d (.sl (some true) []),.d (.sl (some true) [])]:=by kernel_rfl
theorem oE:Bm prog 62 3=true:=by kernel_rfl
theorem Qq:AG prog 62 0=some (0,1,false):=by kernel_rfl
theorem Nu:AG prog 62 1=some (1,1,false):=by kernel_rfl
theorem Nt:AG prog 62 2=some (2,1,false):=by kernel_rfl
theorem bH:Au prog 62=some [(0,1),(1,1),(2,1)]:=by kernel_rfl
theorem ZX:Ap prog 62=some [.d (.raw (.string ⟨#[]⟩)),.d (.raw (.int .i64 0)),.d (.raw (.string ⟨#[]⟩))]:=by kernel_rfl
theorem Xd:AW prog 64 6=true:=by kernel_rfl
theorem CQ:Bm prog 64 6=true:=by kernel_rfl
theorem VZ:AG prog 64 0=some (0,1,false):=by kernel_rfl
theorem EV:AG prog 64 1=some (1,3,true):=by kernel_rfl
theorem LE:AG prog 64 2=some (4,1,false):=by kernel_rfl
theorem LD:AG prog 64 3=some (5,1,false):=by kernel_rfl
theorem SU:Au prog 64=some [(0,1),(1,3),(4,1),(5,1)]:=by kernel_rfl
theorem JM:Ap prog 64=some [.d (.raw (.int .i64 0)),.d (.raw (.string ⟨#[]⟩)),.d (.raw (.int .i64 0)),.d (.raw (.string ⟨#[]⟩)),.d (.raw (.string ⟨#[]⟩)),.d (.raw (.string ⟨#[]⟩))]:=by kernel_rfl
theorem rI:AW prog 66 8=true:=by kernel_rfl
theorem pe:AG prog 66 0=some (0,1,false):=by kernel_rfl
theorem pc:AG prog 66 2=some (7,1,false):=by kernel_rfl
theorem tn:Au prog 66=some [(0,1),(1,6),(7,1)]:=by kernel_rfl
theorem tP:Ap prog 66=some [.d (.raw (.int .i64 0)),.d (.raw (.int .i64 0)),.d (.raw (.string ⟨#[]⟩)),.d (.raw (.int .i64 0)),.d (.raw (.string ⟨#[]⟩)),.d (.raw (.string ⟨#[]⟩)),.d (.raw (.string ⟨#[]⟩)),.d (.raw (.int .i64 0))]:=by kernel_rfl
theorem ny:fB prog 69 73 7 88:=O5 (by kernel_rfl)
theorem rH:AW prog 73 7=true:=by kernel_rfl
theorem p9:AG prog 73 0=some (0,6,true):=by kernel_rfl
theorem p8:AG prog 73 1=some (6,1,false):=by kernel_rfl
theorem tm:Au prog 73=some [(0,6),(6,1)]:=by kernel_rfl
theorem tO:Ap prog 73=some [.d (.raw (.int .i64 0)),.d (.raw (.string ⟨#[]⟩)),.d (.raw (.int .i64 0)),.d (.raw (.string ⟨#[]⟩)),.d (.raw (.string ⟨#[]⟩)),.d (.raw (.string ⟨#[]⟩)),.d (.raw (.int .i64 0))]:=by kernel_rfl
theorem tV:fB prog 86 9 1 16:=O5 (by kernel_rfl)
theorem Ln:AW prog 88 7=true:=by kernel_rfl
theorem Ui:Bm prog 88 7=true:=by kernel_rfl
theorem EU:AG prog 88 0=some (0,6,true):=by kernel_rfl
theorem Qp:AG prog 88 1=some (6,1,false):=by kernel_rfl
theorem oQ:Au prog 88=some [(0,6),(6,1)]:=by kernel_rfl
theorem QI:Ap prog 88=some [.d (.raw (.int .i64 0)),.d (.raw (.string ⟨#[]⟩)),.d (.raw (.int .i64 0)),.d (.raw (.string ⟨#[]⟩)),.d (.raw (.string ⟨#[]⟩)),.d (.raw (.string ⟨#[]⟩)),.d (.raw (.int .i64 0))]:=by kernel_rfl
theorem kQ:Ay prog 90=true:=by kernel_rfl
theorem oU:Ay prog 91=true:=by kernel_rfl
theorem jc:AW prog 93 6=true:=by kernel_rfl
theorem tZ:Bm prog 93 6=true:=by kernel_rfl
theorem p0:AG prog 93 0=some (0,1,false):=by kernel_rfl
theorem pZ:AG prog 93 1=some (1,1,false):=by kernel_rfl
theorem pY:AG prog 93 2=some (2,1,false):=by kernel_rfl
theorem Qo:AG prog 93 3=some (3,1,false):=by kernel_rfl
theorem VY:AG prog 93 4=some (4,1,false):=by kernel_rfl
theorem cr:AG prog 93 5=some (5,1,false):=by kernel_rfl
theorem rT:fB prog 94 1 1 8:=O5 (by kernel_rfl)
theorem rX:Bm prog 96 3=true:=by kernel_rfl
theorem tY:Bm prog 98 6=true:=by kernel_rfl
theorem pX:AG prog 98 0=some (0,1,false):=by kernel_rfl
theorem pW:AG prog 98 1=some (1,3,true):=by kernel_rfl
theorem pU:AG prog 98 2=some (4,1,false):=by kernel_rfl
theorem pT:AG prog 98 3=some (5,1,false):=by kernel_rfl
theorem mg:AW prog 100 7=true:=by kernel_rfl
theorem lH:AG prog 100 0=some (0,6,true):=by kernel_rfl
theorem lG:AG prog 100 1=some (6,1,false):=by kernel_rfl
theorem aS:fB prog 122 131 7 104:=O5 (by kernel_rfl)
theorem Zq:AW prog 124 1=true:=by kernel_rfl
theorem S3:Ay prog 124=true:=by kernel_rfl
theorem Z3:Ap prog 124=some [.d (.raw .nilFunc)]:=by kernel_rfl
theorem S2:Ay prog 129=true:=by kernel_rfl
theorem FX:AW prog 131 7=true:=by kernel_rfl
theorem JV:Bm prog 131 7=true:=by kernel_rfl
theorem IZ:AG prog 131 0=some (0,6,true):=by kernel_rfl
theorem KG:AG prog 131 1=some (6,1,false):=by kernel_rfl
theorem sF:Au prog 131=some [(0,6),(6,1)]:=by kernel_rfl
theorem LS:Ap prog 131=some [.d (.raw (.int .i64 0)),.d (.raw (.int .i64 0)),.d (.raw (.int .i64 0)),.d (.sl (some true) []),.d (.sl (some true) []),.d (.sl (some true) []),.d (.raw (.map none))]:=by kernel_rfl
theorem Zp:AW prog 137 1=true:=by kernel_rfl
theorem P2:Ay prog 137=true:=by kernel_rfl
theorem Z2:Ap prog 137=some [.d (.raw (.map none))]:=by kernel_rfl
theorem Mj:fB prog 141 144 8 96:=O5 (by kernel_rfl)
theorem mf:AW prog 144 8=true:=by kernel_rfl
theorem rZ:Bm prog 144 8=true:=by kernel_rfl
theorem lF:AG prog 144 1=some (1,1,false):=by kernel_rfl
theorem nB:Au prog 144=some [(0,1),(1,1),(2,6)]:=by kernel_rfl
theorem Z1:Ap prog 144=some [.d (.raw (.int .i64 0)),.d (.raw (.int .i64 0)),.d (.raw (.int .i64 0)),.d (.raw (.string ⟨#[]⟩)),.d (.raw (.int .i64 0)),.d (.raw (.string ⟨#[]⟩)),.d (.raw (.string ⟨#[]⟩)),.d (.raw (.string ⟨#[]⟩))]:=by kernel_rfl
theorem rR:AW prog 146 1=true:=by kernel_rfl
theorem sK:Ay prog 146=true:=by kernel_rfl
theorem WL:fB prog 147 28 1 24:=O5 (by kernel_rfl)
theorem PB:AW prog 158 4=true:=by kernel_rfl
theorem aZ:Bm prog 158 4=true:=by kernel_rfl
theorem KF:AG prog 158 0=some (0,3,true):=by kernel_rfl
theorem Qx:AG prog 158 1=some (3,1,false):=by kernel_rfl
theorem bI:Au prog 158=some [(0,3),(3,1)]:=by kernel_rfl
theorem Ox:Ap prog 158=some [.d (.raw (.string ⟨#[]⟩)),.d (.raw (.int .i64 0)),.d (.raw (.string ⟨#[]⟩)),.d (.raw (.int .i64 0))]:=by kernel_rfl
theorem WA:AW prog 161 3=true:=by kernel_rfl
theorem mx:Bm prog 161 3=true:=by kernel_rfl
theorem KE:AG prog 161 0=some (0,1,false):=by kernel_rfl
theorem KD:AG prog 161 1=some (1,1,false):=by kernel_rfl
theorem KC:AG prog 161 2=some (2,1,false):=by kernel_rfl
theorem m9:Ap prog 161=some [.d (.raw (.string ⟨#[]⟩)),.d (.raw (.string ⟨#[]⟩)),.d (.raw (.int .i64 0))]:=by kernel_rfl
theorem aR:fB prog 168 245 9 104:=O5 (by kernel_rfl)
theorem rQ:AW prog 171 1=true:=by kernel_rfl
theorem W2:Ay prog 171=true:=by kernel_rfl
theorem rB:Ap prog 171=some [.d (.raw (.pointer none))]:=by kernel_rfl
theorem me:AW prog 175 1=true:=by kernel_rfl
theorem GH:Ay prog 175=true:=by kernel_rfl
theorem WK:fB prog 175 176 1 8:=O5 (by kernel_rfl)
theorem LU:AW prog 176 1=true:=by kernel_rfl
theorem NG:Ay prog 176=true:=by kernel_rfl
theorem rP:AW prog 177 1=true:=by kernel_rfl
theorem W1:Ay prog 177=true:=by kernel_rfl
theorem mq:fB prog 177 186 1 8:=O5 (by kernel_rfl)
theorem W0:Ay prog 178=true:=by kernel_rfl
theorem IY:AG prog 180 0=some (0,1,false):=by kernel_rfl
theorem KB:AG prog 180 1=some (1,1,false):=by kernel_rfl
theorem MO:AG prog 180 2=some (2,1,false):=by kernel_rfl
theorem sE:Au prog 180=some [(0,1),(1,1),(2,1)]:=by kernel_rfl
theorem rA:Ap prog 180=some [.d (.sl (some true) []),.d (.sl (some true) []),.d (.raw (.map none))]:=by kernel_rfl
theorem rO:AW prog 181 1=true:=by kernel_rfl
theorem WZ:Ay prog 181=true:=by kernel_rfl
theorem mp:fB prog 181 188 2 16:=O5 (by kernel_rfl)
theorem rN:AW prog 182 1=true:=by kernel_rfl
theorem WY:Ay prog 182=true:=by kernel_rfl
theorem mo:fB prog 182 254 2 16:=O5 (by kernel_rfl)
theorem F7:AG prog 184 0=some (0,6,true):=by kernel_rfl
theorem KA:AG prog 184 1=some (6,1,false):=by kernel_rfl
theorem Jz:AG prog 184 2=some (7,1,false):=by kernel_rfl
theorem Ec:AG prog 184 3=some (8,1,false):=by kernel_rfl
theorem sD:Au prog 184=some [(0,6),(6,1),(7,1),(8,1)]:=by kernel_rfl
theorem qz:Ap prog 184=some [.d (.raw (.int .i64 0)),.d (.raw (.int .i64 0)),.d (.raw (.int .i64 0)),.d (.sl (some true) []),.d (.sl (some true) []),.d (.sl (some true) []),.d (.sl (some true) []),.d (.sl (some true) []),.d (.raw (.bool false))]:=by kernel_rfl
theorem Zo:AW prog 186 1=true:=by kernel_rfl
theorem E1:Ay prog 186=true:=by kernel_rfl
theorem qy:Ap prog 186=some [.d (.raw (.pointer none))]:=by kernel_rfl
theorem Rs:AW prog 188 2=true:=by kernel_rfl
theorem aY:Bm prog 188 2=true:=by kernel_rfl
theorem Qw:AG prog 188 0=some (0,1,false):=by kernel_rfl
theorem Qv:AG prog 188 1=some (1,1,false):=by kernel_rfl
theorem sC:Au prog 188=some [(0,1),(1,1)]:=by kernel_rfl
theorem Z0:Ap prog 188=some [.d (.raw (.pointer none)),.d (.raw (.int .i64 0))]:=by kernel_rfl
theorem MN:AG prog 190 0=some (0,6,true):=by kernel_rfl
theorem Qu:AG prog 190 1=some (6,1,false):=by kernel_rfl
theorem Jy:AG prog 190 2=some (7,1,false):=by kernel_rfl
theorem Gw:AG prog 190 3=some (8,1,false):=by kernel_rfl
theorem Jx:AG prog 190 4=some (9,1,false):=by kernel_rfl
theorem sB:Au prog 190=some [(0,6),(6,1),(7,1),(8,1),(9,1)]:=by kernel_rfl
theorem qx:Ap prog 190=some [.d (.raw (.int .i64 0)),.d (.raw (.string ⟨#[]⟩)),.d (.raw (.int .i64 0)),.d (.raw (.string ⟨#[]⟩)),.d (.raw (.string ⟨#[]⟩)),.d (.raw (.string ⟨#[]⟩)),.d (.raw (.int .i64 0)),.d (.raw (.int .i64 0)),.d (.sl (some true) []),.d (.raw (.int .i64 0))]:=by kernel_rfl
theorem md:AW prog 192 4=true:=by kernel_rfl
theorem lE:AG prog 192 0=some (0,3,true):=by kernel_rfl
theorem lD:AG prog 192 1=some (3,1,false):=by kernel_rfl
theorem rM:AW prog 193 3=true:=by kernel_rfl
theorem rY:Bm prog 193 3=true:=by kernel_rfl
theorem aQ:fB prog 215 218 7 88:=O5 (by kernel_rfl)
theorem Vz:AW prog 218 7=true:=by kernel_rfl
theorem mw:Bm prog 218 7=true:=by kernel_rfl
theorem Jw:AG prog 218 0=some (0,6,true):=by kernel_rfl
theorem Wv:AG prog 218 1=some (6,1,false):=by kernel_rfl
theorem sA:Au prog 218=some [(0,6),(6,1)]:=by kernel_rfl
theorem ZZ:Ap prog 218=some [.d (.raw (.int .i64 0)),.d (.raw (.string ⟨#[]⟩)),.d (.raw (.int .i64 0)),.d (.raw (.string ⟨#[]⟩)),.d (.raw (.string ⟨#[]⟩)),.d (.raw (.string ⟨#[]⟩)),.d (.raw (.int .i64 0))]:=by kernel_rfl
theorem SZ:Ay prog 226=true:=by kernel_rfl
theorem rL:AW prog 227 1=true:=by kernel_rfl
theorem WX:Ay prog 227=true:=by kernel_rfl
theorem aP:fB prog 227 233 8 112:=O5 (by kernel_rfl)
theorem Jv:AG prog 229 0=some (0,1,false):=by kernel_rfl
theorem lC:AG prog 229 1=some (1,1,false):=by kernel_rfl
theorem Ju:AG prog 229 2=some (2,1,false):=by kernel_rfl
theorem rz:Au prog 229=some [(0,1),(1,1),(2,1)]:=by kernel_rfl
theorem qw:Ap prog 229=some [.d (.raw (.map none)),.d (.sl (some true) []),.d (.sl (some true) [])]:=by kernel_rfl
theorem Vy:AW prog 233 8=true:=by kernel_rfl
theorem ms:Bm prog 233 8=true:=by kernel_rfl
theorem Jt:AG prog 233 0=some (0,6,true):=by kernel_rfl
theorem lB:AG prog 233 1=some (6,1,false):=by kernel_rfl
theorem Wu:AG prog 233 2=some (7,1,false):=by kernel_rfl
theorem ry:Au prog 233=some [(0,6),(6,1),(7,1)]:=by kernel_rfl
theorem ZY:Ap prog 233=some [.d (.raw (.int .i64 0)),.d (.raw (.string ⟨#[]⟩)),.d (.raw (.int .i64 0)),.d (.raw (.string ⟨#[]⟩)),.d (.raw (.string ⟨#[]⟩)),.d (.raw (.string ⟨#[]⟩)),.d (.raw (.int .i64 0)),.d (.sl (some true) [])]:=by kernel_rfl
theorem JP:AW prog 245 9=true:=by kernel_rfl
theorem mr:Bm prog 245 9=true:=by kernel_rfl
theorem lA:AG prog 245 0=some (0,1,false):=by kernel_rfl
theorem SV:Au prog 245=some [(0,1),(1,1),(2,6),(8,1)]:=by kernel_rfl
theorem Ia:Ap prog 245=some [.d (.raw (.int .i64 0)),.d (.raw (.int .i64 0)),.d (.raw (.int .i64 0)),.d (.raw (.string ⟨#[]⟩)),.d (.raw (.int .i64 0)),.d (.raw (.string ⟨#[]⟩)),.d (.raw (.string ⟨#[]⟩)),.d (.raw (.string ⟨#[]⟩)),.d (.raw (.int .i64 0))]:=by kernel_rfl
theorem PA:AW prog 254 2=true:=by kernel_rfl
theorem aW:Bm prog 254 2=true:=by kernel_rfl
theorem Gv:AG prog 254 0=some (0,1,false):=by kernel_rfl
theorem Qt:AG prog 254 1=some (1,1,false):=by kernel_rfl
theorem rx:Au prog 254=some [(0,1),(1,1)]:=by kernel_rfl
theorem Vn:Ap prog 254=some [.d (.raw (.pointer none)),.d (.raw (.int .i64 0))]:=by kernel_rfl
theorem rU:fB prog 273 146 1 8:=O5 (by kernel_rfl)
theorem sJ:Ay prog 283=true:=by kernel_rfl
theorem Zn:AW prog 318 2=true:=by kernel_rfl
theorem Eb:AG prog 318 0=some (0,1,false):=by kernel_rfl
theorem Js:AG prog 318 1=some (1,1,false):=by kernel_rfl
theorem nA:Au prog 318=some [(0,1),(1,1)]:=by kernel_rfl
theorem m8:Ap prog 318=some [.d (.raw (.int .i64 0)),.d (.raw (.int .i64 0))]:=by kernel_rfl
theorem aO:fB prog 319 318 2 16:=O5 (by kernel_rfl)
theorem XR:AG prog 323 0=some (0,1,false):=by kernel_rfl
theorem ky:AG prog 323 1=some (1,1,false):=by kernel_rfl
theorem rv:Au prog 323=some [(0,1),(1,1)]:=by kernel_rfl
theorem qu:Ap prog 323=some [.d (.sl (some true) []),.d (.raw .nilFunc)]:=by kernel_rfl
theorem nJ:B3 prog 127 64 3=true:=by kernel_rfl
theorem uX:Ca prog 3=some (.d (.raw (.int .i64 0))):=by kernel_rfl
theorem HS:B7 prog 3 (λz:Int=> .raw (.int .i64 z)) (λz=> .int .i64 z):=B7.int underlying3
theorem nI:B3 prog 128 3 3=true:=by kernel_rfl
theorem Bq:B3 prog 129 64 2=true:=by kernel_rfl
theorem O1:Ca prog 2=some (.d (.raw (.int .i64 0))):=by kernel_rfl
theorem EL:B3 prog 137 3 4=true:=by kernel_rfl
theorem Rd:Ca prog 4=some (.d (.raw (.bool false))):=by kernel_rfl
theorem Ie:B3 prog 138 3 4=true:=by kernel_rfl
theorem P9:B3 prog 155 64 4=true:=by kernel_rfl
theorem Wc:B3 prog 178 3 176=true:=by kernel_rfl
theorem Vo:Ca prog 176=some (.d (.raw (.pointer none))):=by kernel_rfl
theorem Sf:B3 prog 226 3 55=true:=by kernel_rfl
theorem jU:Ca prog 55=some (.d (.agg [.raw (.int .i64 0),.raw (.int .i64 0),.raw (.int .i64 0),.sl (some true) [],.sl (some true) [],.sl (some true) []])):=by kernel_rfl
theorem Wb:B3 prog 248 64 186=true:=by kernel_rfl
theorem Z4:Ca prog 186=some (.d (.raw (.pointer none))):=by kernel_rfl
theorem bt:B3 prog 310 9 2=true:=by kernel_rfl
theorem u4:B7 prog 9 Aj Lp:=B7.str underlying9
end Go.Proofs.YteifpcnphnhaoaaGreat
