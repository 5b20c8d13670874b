import Derived.Test.YteifpcnphnhaoaaGreatMg13
import Derived.Test.YteifpcnphnhaoaaGreatRows
namespace Go.Proofs.YteifpcnphnhaoaaGreat
open Go.RowKit
theorem mixed:Tryz.prog.follows .mixedOrders=true:=by kernel_rfl
theorem sz1:AZ Tryz.prog 1 1=true:=by kernel_rfl
theorem on1:BG Tryz.prog 1=true:=by kernel_rfl
theorem sz2:AZ Tryz.prog 2 1=true:=by kernel_rfl
theorem Kg:BG Tryz.prog 2=true:=by kernel_rfl
theorem BD:AZ Tryz.prog 3 1=true:=by kernel_rfl
theorem Aq:BG Tryz.prog 3=true:=by kernel_rfl
theorem zd3:MX Tryz.prog 3=some (.raw (.int .i64 0)):=by kernel_rfl
theorem sz4:AZ Tryz.prog 4 1=true:=by kernel_rfl
theorem on4:BG Tryz.prog 4=true:=by kernel_rfl
theorem zl4:Aw Tryz.prog 4=some [.d (.raw (.bool false))]:=by kernel_rfl
theorem sz9:AZ Tryz.prog 9 1=true:=by kernel_rfl
theorem IP:BG Tryz.prog 9=true:=by kernel_rfl
theorem on22:BG Tryz.prog 22=true:=by kernel_rfl
theorem UI:BG Tryz.prog 23=true:=by kernel_rfl
theorem XA:Bq Tryz.prog 25 2=true:=by kernel_rfl
theorem QT:AH Tryz.prog 25 0=some (0,1,false):=by kernel_rfl
theorem JH:AH Tryz.prog 25 1=some (1,1,false):=by kernel_rfl
theorem CG:AZ Tryz.prog 28 1=true:=by kernel_rfl
theorem BC:BG Tryz.prog 28=true:=by kernel_rfl
theorem zl28:Aw Tryz.prog 28=some [.d (.sl (some true) [])]:=by kernel_rfl
theorem zd28:MX Tryz.prog 28=some (.sl (some true) []):=by kernel_rfl
theorem B4:SlTy Tryz.prog 28 3 1 8:=OH (by kernel_rfl)
theorem sz29:AZ Tryz.prog 29 1=true:=by kernel_rfl
theorem on29:BG Tryz.prog 29=true:=by kernel_rfl
theorem RT:SlTy Tryz.prog 29 28 1 24:=OH (by kernel_rfl)
theorem sz30:AZ Tryz.prog 30 1=true:=by kernel_rfl
theorem on30:BG Tryz.prog 30=true:=by kernel_rfl
theorem sl30:SlTy Tryz.prog 30 66 8 96:=OH (by kernel_rfl)
theorem sz32:AZ Tryz.prog 32 5=true:=by kernel_rfl
theorem rw32:Bq Tryz.prog 32 5=true:=by kernel_rfl
theorem fi32_0:AH Tryz.prog 32 0=some (0,1,false):=by kernel_rfl
theorem fi32_1:AH Tryz.prog 32 1=some (1,1,false):=by kernel_rfl
theorem bN:AH Tryz.prog 32 2=some (2,1,false):=by kernel_rfl
theorem fi32_3:AH Tryz.prog 32 3=some (3,1,false):=by kernel_rfl
theorem fi32_4:AH Tryz.prog 32 4=some (4,1,false):=by kernel_rfl
theorem zl32:Aw Tryz.prog 32=some [.d (.sl (some true) []),.d (.sl (some true) []),.d (.sl (some true) []),.d (.sl (some true) []),.d (.sl (some true) [])]:=by kernel_rfl
theorem Yl:AZ Tryz.prog 33 1=true:=by kernel_rfl
theorem on33:BG Tryz.prog 33=true:=by kernel_rfl
theorem zl33:Aw Tryz.prog 33=some [.d (.raw (.int .i64 0))]:=by kernel_rfl
theorem sz36:AZ Tryz.prog 36 1=true:=by kernel_rfl
theorem Mt:BG Tryz.prog 36=true:=by kernel_rfl
theorem Ps:SlTy Tryz.prog 36 88 7 88:=OH (by kernel_rfl)
theorem sz37:AZ Tryz.prog 37 1=true:=by kernel_rfl
theorem Kf:BG Tryz.prog 37=true:=by kernel_rfl
theorem OK:SlTy Tryz.prog 37 55 6 96:=OH (by kernel_rfl)
theorem sz39:AZ Tryz.prog 39 2=true:=by kernel_rfl
theorem B8:Bq Tryz.prog 39 2=true:=by kernel_rfl
theorem Dr:AH Tryz.prog 39 0=some (0,1,false):=by kernel_rfl
theorem E6:AH Tryz.prog 39 1=some (1,1,false):=by kernel_rfl
theorem YX:Aw Tryz.prog 39=some [.d (.sl (some true) []),.d (.sl (some true) [])]:=by kernel_rfl
theorem sz52:AZ Tryz.prog 52 1=true:=by kernel_rfl
theorem XU:BG Tryz.prog 52=true:=by kernel_rfl
theorem Wx:SlTy Tryz.prog 52 158 4 48:=OH (by kernel_rfl)
theorem sz53:AZ Tryz.prog 53 1=true:=by kernel_rfl
theorem Zs:BG Tryz.prog 53=true:=by kernel_rfl
theorem ZH:SlTy Tryz.prog 53 161 3 40:=OH (by kernel_rfl)
theorem C8:AZ Tryz.prog 55 6=true:=by kernel_rfl
theorem Bt:Bq Tryz.prog 55 6=true:=by kernel_rfl
theorem MV:AH Tryz.prog 55 0=some (0,1,false):=by kernel_rfl
theorem U1:AH Tryz.prog 55 1=some (1,1,false):=by kernel_rfl
theorem N7:AH Tryz.prog 55 2=some (2,1,false):=by kernel_rfl
theorem Hq:AH Tryz.prog 55 3=some (3,1,false):=by kernel_rfl
theorem JG:AH Tryz.prog 55 4=some (4,1,false):=by kernel_rfl
theorem Dq:AH Tryz.prog 55 5=some (5,1,false):=by kernel_rfl
theorem pl55:BE Tryz.prog 55=some [(0,1),(1,1),(2,1),(3,1),(4,1),(5,1)]:=by kernel_rfl
theorem EY:Aw Tryz.prog 55=some [.d (.raw (.int .i64 0)),.d (.raw (.int .i64 0)),.d (.raw (.int .i64 0)),.d (.sl (some true) []),.d (.sl (some true) []),.d (.sl (some true) [])]:=by kernel_rfl
theorem rw62:Bq Tryz.prog 62 3=true:=by kernel_rfl
theorem QS:AH Tryz.prog 62 0=some (0,1,false):=by kernel_rfl
theorem N6:AH Tryz.prog 62 1=some (1,1,false):=by kernel_rfl
theorem N0:AH Tryz.prog 62 2=some (2,1,false):=by kernel_rfl
theorem Zg:BE Tryz.prog 62=some [(0,1),(1,1),(2,1)]:=by kernel_rfl
theorem YW:Aw Tryz.prog 62=some [.d (.raw (.string ⟨#[]⟩)),.d (.raw (.int .i64 0)),.d (.raw (.string ⟨#[]⟩))]:=by kernel_rfl
theorem Yk:AZ Tryz.prog 64 6=true:=by kernel_rfl
theorem CY:Bq Tryz.prog 64 6=true:=by kernel_rfl
theorem U0:AH Tryz.prog 64 0=some (0,1,false):=by kernel_rfl
theorem E5:AH Tryz.prog 64 1=some (1,3,true):=by kernel_rfl
theorem Kx:AH Tryz.prog 64 2=some (4,1,false):=by kernel_rfl
theorem Kw:AH Tryz.prog 64 3=some (5,1,false):=by kernel_rfl
theorem Rd:BE Tryz.prog 64=some [(0,1),(1,3),(4,1),(5,1)]:=by kernel_rfl
theorem KQ:Aw Tryz.prog 64=some [.d (.raw (.int .i64 0)),.d (.raw (.string ⟨#[]⟩)),.d (.raw (.int .i64 0)),.d (.raw (.string ⟨#[]⟩)),.d (.raw (.string ⟨#[]⟩)),.d (.raw (.string ⟨#[]⟩))]:=by kernel_rfl
theorem sz66:AZ Tryz.prog 66 8=true:=by kernel_rfl
theorem fi66_0:AH Tryz.prog 66 0=some (0,1,false):=by kernel_rfl
theorem fi66_2:AH Tryz.prog 66 2=some (7,1,false):=by kernel_rfl
theorem pl66:BE Tryz.prog 66=some [(0,1),(1,6),(7,1)]:=by kernel_rfl
theorem zl66:Aw Tryz.prog 66=some [.d (.raw (.int .i64 0)),.d (.raw (.int .i64 0)),.d (.raw (.string ⟨#[]⟩)),.d (.raw (.int .i64 0)),.d (.raw (.string ⟨#[]⟩)),.d (.raw (.string ⟨#[]⟩)),.d (.raw (.string ⟨#[]⟩)),.d (.raw (.int .i64 0))]:=by kernel_rfl
theorem sl69:SlTy Tryz.prog 69 73 7 88:=OH (by kernel_rfl)
theorem sz73:AZ Tryz.prog 73 7=true:=by kernel_rfl
theorem fi73_0:AH Tryz.prog 73 0=some (0,6,true):=by kernel_rfl
theorem fi73_1:AH Tryz.prog 73 1=some (6,1,false):=by kernel_rfl
theorem pl73:BE Tryz.prog 73=some [(0,6),(6,1)]:=by kernel_rfl
theorem zl73:Aw Tryz.prog 73=some [.d (.raw (.int .i64 0)),.d (.raw (.string ⟨#[]⟩)),.d (.raw (.int .i64 0)),.d (.raw (.string ⟨#[]⟩)),.d (.raw (.string ⟨#[]⟩)),.d (.raw (.string ⟨#[]⟩)),.d (.raw (.int .i64 0))]:=by kernel_rfl
theorem sl86:SlTy Tryz.prog 86 9 1 16:=OH (by kernel_rfl)
theorem Lc:AZ Tryz.prog 88 7=true:=by kernel_rfl
theorem ZP:Bq Tryz.prog 88 7=true:=by kernel_rfl
theorem Dp:AH Tryz.prog 88 0=some (0,6,true):=by kernel_rfl
theorem QR:AH Tryz.prog 88 1=some (6,1,false):=by kernel_rfl
theorem pl88:BE Tryz.prog 88=some [(0,6),(6,1)]:=by kernel_rfl
theorem Qn:Aw Tryz.prog 88=some [.d (.raw (.int .i64 0)),.d (.raw (.string ⟨#[]⟩)),.d (.raw (.int .i64 0)),.d (.raw (.string ⟨#[]⟩)),.d (.raw (.string ⟨#[]⟩)),.d (.raw (.string ⟨#[]⟩)),.d (.raw (.int .i64 0))]:=by kernel_rfl
theorem on90:BG Tryz.prog 90=true:=by kernel_rfl
theorem on91:BG Tryz.prog 91=true:=by kernel_rfl
theorem sz93:AZ Tryz.prog 93 6=true:=by kernel_rfl
theorem rw93:Bq Tryz.prog 93 6=true:=by kernel_rfl
theorem fi93_0:AH Tryz.prog 93 0=some (0,1,false):=by kernel_rfl
theorem fi93_1:AH Tryz.prog 93 1=some (1,1,false):=by kernel_rfl
theorem fi93_2:AH Tryz.prog 93 2=some (2,1,false):=by kernel_rfl
theorem QQ:AH Tryz.prog 93 3=some (3,1,false):=by kernel_rfl
theorem UZ:AH Tryz.prog 93 4=some (4,1,false):=by kernel_rfl
theorem bM:AH Tryz.prog 93 5=some (5,1,false):=by kernel_rfl
theorem sl94:SlTy Tryz.prog 94 1 1 8:=OH (by kernel_rfl)
theorem rw96:Bq Tryz.prog 96 3=true:=by kernel_rfl
theorem rw98:Bq Tryz.prog 98 6=true:=by kernel_rfl
theorem fi98_0:AH Tryz.prog 98 0=some (0,1,false):=by kernel_rfl
theorem fi98_1:AH Tryz.prog 98 1=some (1,3,true):=by kernel_rfl
theorem fi98_2:AH Tryz.prog 98 2=some (4,1,false):=by kernel_rfl
theorem fi98_3:AH Tryz.prog 98 3=some (5,1,false):=by kernel_rfl
theorem sz100:AZ Tryz.prog 100 7=true:=by kernel_rfl
theorem fi100_0:AH Tryz.prog 100 0=some (0,6,true):=by kernel_rfl
theorem fi100_1:AH Tryz.prog 100 1=some (6,1,false):=by kernel_rfl
theorem ZL:SlTy Tryz.prog 122 131 7 104:=OH (by kernel_rfl)
theorem sz124:AZ Tryz.prog 124 1=true:=by kernel_rfl
theorem on124:BG Tryz.prog 124=true:=by kernel_rfl
theorem zl124:Aw Tryz.prog 124=some [.d (.raw .nilFunc)]:=by kernel_rfl
theorem Vd:BG Tryz.prog 129=true:=by kernel_rfl
theorem Gy:AZ Tryz.prog 131 7=true:=by kernel_rfl
theorem LO:Bq Tryz.prog 131 7=true:=by kernel_rfl
theorem IZ:AH Tryz.prog 131 0=some (0,6,true):=by kernel_rfl
theorem MM:AH Tryz.prog 131 1=some (6,1,false):=by kernel_rfl
theorem pl131:BE Tryz.prog 131=some [(0,6),(6,1)]:=by kernel_rfl
theorem MW:Aw Tryz.prog 131=some [.d (.raw (.int .i64 0)),.d (.raw (.int .i64 0)),.d (.raw (.int .i64 0)),.d (.sl (some true) []),.d (.sl (some true) []),.d (.sl (some true) []),.d (.raw (.map none))]:=by kernel_rfl
theorem sz137:AZ Tryz.prog 137 1=true:=by kernel_rfl
theorem Rk:BG Tryz.prog 137=true:=by kernel_rfl
theorem zl137:Aw Tryz.prog 137=some [.d (.raw (.map none))]:=by kernel_rfl
theorem Me:SlTy Tryz.prog 141 144 8 96:=OH (by kernel_rfl)
theorem sz144:AZ Tryz.prog 144 8=true:=by kernel_rfl
theorem rw144:Bq Tryz.prog 144 8=true:=by kernel_rfl
theorem fi144_1:AH Tryz.prog 144 1=some (1,1,false):=by kernel_rfl
theorem pl144:BE Tryz.prog 144=some [(0,1),(1,1),(2,6)]:=by kernel_rfl
theorem Y2:Aw Tryz.prog 144=some [.d (.raw (.int .i64 0)),.d (.raw (.int .i64 0)),.d (.raw (.int .i64 0)),.d (.raw (.string ⟨#[]⟩)),.d (.raw (.int .i64 0)),.d (.raw (.string ⟨#[]⟩)),.d (.raw (.string ⟨#[]⟩)),.d (.raw (.string ⟨#[]⟩))]:=by kernel_rfl
theorem sz146:AZ Tryz.prog 146 1=true:=by kernel_rfl
theorem on146:BG Tryz.prog 146=true:=by kernel_rfl
theorem VT:SlTy Tryz.prog 147 28 1 24:=OH (by kernel_rfl)
theorem Ob:AZ Tryz.prog 158 4=true:=by kernel_rfl
theorem ZS:Bq Tryz.prog 158 4=true:=by kernel_rfl
theorem Jx:AH Tryz.prog 158 0=some (0,3,true):=by kernel_rfl
theorem QY:AH Tryz.prog 158 1=some (3,1,false):=by kernel_rfl
theorem Zi:BE Tryz.prog 158=some [(0,3),(3,1)]:=by kernel_rfl
theorem O7:Aw Tryz.prog 158=some [.d (.raw (.string ⟨#[]⟩)),.d (.raw (.int .i64 0)),.d (.raw (.string ⟨#[]⟩)),.d (.raw (.int .i64 0))]:=by kernel_rfl
theorem VK:AZ Tryz.prog 161 3=true:=by kernel_rfl
theorem rw161:Bq Tryz.prog 161 3=true:=by kernel_rfl
theorem Jw:AH Tryz.prog 161 0=some (0,1,false):=by kernel_rfl
theorem Jv:AH Tryz.prog 161 1=some (1,1,false):=by kernel_rfl
theorem Ju:AH Tryz.prog 161 2=some (2,1,false):=by kernel_rfl
theorem zl161:Aw Tryz.prog 161=some [.d (.raw (.string ⟨#[]⟩)),.d (.raw (.string ⟨#[]⟩)),.d (.raw (.int .i64 0))]:=by kernel_rfl
theorem ZK:SlTy Tryz.prog 168 245 9 104:=OH (by kernel_rfl)
theorem sz171:AZ Tryz.prog 171 1=true:=by kernel_rfl
theorem Vc:BG Tryz.prog 171=true:=by kernel_rfl
theorem zl171:Aw Tryz.prog 171=some [.d (.raw (.pointer none))]:=by kernel_rfl
theorem sz175:AZ Tryz.prog 175 1=true:=by kernel_rfl
theorem GG:BG Tryz.prog 175=true:=by kernel_rfl
theorem VS:SlTy Tryz.prog 175 176 1 8:=OH (by kernel_rfl)
theorem LM:AZ Tryz.prog 176 1=true:=by kernel_rfl
theorem Mu:BG Tryz.prog 176=true:=by kernel_rfl
theorem sz177:AZ Tryz.prog 177 1=true:=by kernel_rfl
theorem Vb:BG Tryz.prog 177=true:=by kernel_rfl
theorem sl177:SlTy Tryz.prog 177 186 1 8:=OH (by kernel_rfl)
theorem Va:BG Tryz.prog 178=true:=by kernel_rfl
theorem IY:AH Tryz.prog 180 0=some (0,1,false):=by kernel_rfl
theorem Jt:AH Tryz.prog 180 1=some (1,1,false):=by kernel_rfl
theorem ML:AH Tryz.prog 180 2=some (2,1,false):=by kernel_rfl
theorem pl180:BE Tryz.prog 180=some [(0,1),(1,1),(2,1)]:=by kernel_rfl
theorem zl180:Aw Tryz.prog 180=some [.d (.sl (some true) []),.d (.sl (some true) []),.d (.raw (.map none))]:=by kernel_rfl
theorem sz181:AZ Tryz.prog 181 1=true:=by kernel_rfl
theorem V9:BG Tryz.prog 181=true:=by kernel_rfl
theorem sl181:SlTy Tryz.prog 181 188 2 16:=OH (by kernel_rfl)
theorem sz182:AZ Tryz.prog 182 1=true:=by kernel_rfl
theorem V8:BG Tryz.prog 182=true:=by kernel_rfl
theorem sl182:SlTy Tryz.prog 182 254 2 16:=OH (by kernel_rfl)
theorem F9:AH Tryz.prog 184 0=some (0,6,true):=by kernel_rfl
theorem Js:AH Tryz.prog 184 1=some (6,1,false):=by kernel_rfl
theorem Jr:AH Tryz.prog 184 2=some (7,1,false):=by kernel_rfl
theorem Eg:AH Tryz.prog 184 3=some (8,1,false):=by kernel_rfl
theorem pl184:BE Tryz.prog 184=some [(0,6),(6,1),(7,1),(8,1)]:=by kernel_rfl
theorem zl184:Aw Tryz.prog 184=some [.d (.raw (.int .i64 0)),.d (.raw (.int .i64 0)),.d (.raw (.int .i64 0)),.d (.sl (some true) []),.d (.sl (some true) []),.d (.sl (some true) []),.d (.sl (some true) []),.d (.sl (some true) []),.d (.raw (.bool false))]:=by kernel_rfl
theorem Ym:AZ Tryz.prog 186 1=true:=by kernel_rfl
theorem E8:BG Tryz.prog 186=true:=by kernel_rfl
theorem zl186:Aw Tryz.prog 186=some [.d (.raw (.pointer none))]:=by kernel_rfl
theorem RB:AZ Tryz.prog 188 2=true:=by kernel_rfl
theorem ZR:Bq Tryz.prog 188 2=true:=by kernel_rfl
theorem QX:AH Tryz.prog 188 0=some (0,1,false):=by kernel_rfl
theorem QW:AH Tryz.prog 188 1=some (1,1,false):=by kernel_rfl
theorem pl188:BE Tryz.prog 188=some [(0,1),(1,1)]:=by kernel_rfl
theorem Y1:Aw Tryz.prog 188=some [.d (.raw (.pointer none)),.d (.raw (.int .i64 0))]:=by kernel_rfl
theorem MK:AH Tryz.prog 190 0=some (0,6,true):=by kernel_rfl
theorem QV:AH Tryz.prog 190 1=some (6,1,false):=by kernel_rfl
theorem Jq:AH Tryz.prog 190 2=some (7,1,false):=by kernel_rfl
theorem Gr:AH Tryz.prog 190 3=some (8,1,false):=by kernel_rfl
theorem Jp:AH Tryz.prog 190 4=some (9,1,false):=by kernel_rfl
theorem pl190:BE Tryz.prog 190=some [(0,6),(6,1),(7,1),(8,1),(9,1)]:=by kernel_rfl
theorem zl190:Aw Tryz.prog 190=some [.d (.raw (.int .i64 0)),.d (.raw (.string ⟨#[]⟩)),.d (.raw (.int .i64 0)),.d (.raw (.string ⟨#[]⟩)),.d (.raw (.string ⟨#[]⟩)),.d (.raw (.string ⟨#[]⟩)),.d (.raw (.int .i64 0)),.d (.raw (.int .i64 0)),.d (.sl (some true) []),.d (.raw (.int .i64 0))]:=by kernel_rfl
theorem sz192:AZ Tryz.prog 192 4=true:=by kernel_rfl
theorem fi192_0:AH Tryz.prog 192 0=some (0,3,true):=by kernel_rfl
theorem fi192_1:AH Tryz.prog 192 1=some (3,1,false):=by kernel_rfl
theorem sz193:AZ Tryz.prog 193 3=true:=by kernel_rfl
theorem rw193:Bq Tryz.prog 193 3=true:=by kernel_rfl
theorem ZJ:SlTy Tryz.prog 215 218 7 88:=OH (by kernel_rfl)
theorem VJ:AZ Tryz.prog 218 7=true:=by kernel_rfl
theorem rw218:Bq Tryz.prog 218 7=true:=by kernel_rfl
theorem Jo:AH Tryz.prog 218 0=some (0,6,true):=by kernel_rfl
theorem WI:AH Tryz.prog 218 1=some (6,1,false):=by kernel_rfl
theorem pl218:BE Tryz.prog 218=some [(0,6),(6,1)]:=by kernel_rfl
theorem Y0:Aw Tryz.prog 218=some [.d (.raw (.int .i64 0)),.d (.raw (.string ⟨#[]⟩)),.d (.raw (.int .i64 0)),.d (.raw (.string ⟨#[]⟩)),.d (.raw (.string ⟨#[]⟩)),.d (.raw (.string ⟨#[]⟩)),.d (.raw (.int .i64 0))]:=by kernel_rfl
theorem Rj:BG Tryz.prog 226=true:=by kernel_rfl
theorem sz227:AZ Tryz.prog 227 1=true:=by kernel_rfl
theorem V7:BG Tryz.prog 227=true:=by kernel_rfl
theorem ZI:SlTy Tryz.prog 227 233 8 112:=OH (by kernel_rfl)
theorem Jn:AH Tryz.prog 229 0=some (0,1,false):=by kernel_rfl
theorem fi229_1:AH Tryz.prog 229 1=some (1,1,false):=by kernel_rfl
theorem Jm:AH Tryz.prog 229 2=some (2,1,false):=by kernel_rfl
theorem pl229:BE Tryz.prog 229=some [(0,1),(1,1),(2,1)]:=by kernel_rfl
theorem zl229:Aw Tryz.prog 229=some [.d (.raw (.map none)),.d (.sl (some true) []),.d (.sl (some true) [])]:=by kernel_rfl
theorem VI:AZ Tryz.prog 233 8=true:=by kernel_rfl
theorem rw233:Bq Tryz.prog 233 8=true:=by kernel_rfl
theorem Jl:AH Tryz.prog 233 0=some (0,6,true):=by kernel_rfl
theorem fi233_1:AH Tryz.prog 233 1=some (6,1,false):=by kernel_rfl
theorem WH:AH Tryz.prog 233 2=some (7,1,false):=by kernel_rfl
theorem pl233:BE Tryz.prog 233=some [(0,6),(6,1),(7,1)]:=by kernel_rfl
theorem YZ:Aw Tryz.prog 233=some [.d (.raw (.int .i64 0)),.d (.raw (.string ⟨#[]⟩)),.d (.raw (.int .i64 0)),.d (.raw (.string ⟨#[]⟩)),.d (.raw (.string ⟨#[]⟩)),.d (.raw (.string ⟨#[]⟩)),.d (.raw (.int .i64 0)),.d (.sl (some true) [])]:=by kernel_rfl
theorem JQ:AZ Tryz.prog 245 9=true:=by kernel_rfl
theorem rw245:Bq Tryz.prog 245 9=true:=by kernel_rfl
theorem fi245_0:AH Tryz.prog 245 0=some (0,1,false):=by kernel_rfl
theorem Re:BE Tryz.prog 245=some [(0,1),(1,1),(2,6),(8,1)]:=by kernel_rfl
theorem If:Aw Tryz.prog 245=some [.d (.raw (.int .i64 0)),.d (.raw (.int .i64 0)),.d (.raw (.int .i64 0)),.d (.raw (.string ⟨#[]⟩)),.d (.raw (.int .i64 0)),.d (.raw (.string ⟨#[]⟩)),.d (.raw (.string ⟨#[]⟩)),.d (.raw (.string ⟨#[]⟩)),.d (.raw (.int .i64 0))]:=by kernel_rfl
theorem Oa:AZ Tryz.prog 254 2=true:=by kernel_rfl
theorem ZQ:Bq Tryz.prog 254 2=true:=by kernel_rfl
theorem Gq:AH Tryz.prog 254 0=some (0,1,false):=by kernel_rfl
theorem QU:AH Tryz.prog 254 1=some (1,1,false):=by kernel_rfl
theorem pl254:BE Tryz.prog 254=some [(0,1),(1,1)]:=by kernel_rfl
theorem Uv:Aw Tryz.prog 254=some [.d (.raw (.pointer none)),.d (.raw (.int .i64 0))]:=by kernel_rfl
theorem sl273:SlTy Tryz.prog 273 146 1 8:=OH (by kernel_rfl)
theorem on283:BG Tryz.prog 283=true:=by kernel_rfl
theorem RA:AZ Tryz.prog 318 2=true:=by kernel_rfl
theorem Us:AH Tryz.prog 318 0=some (0,1,false):=by kernel_rfl
theorem Ef:AH Tryz.prog 318 1=some (1,1,false):=by kernel_rfl
theorem Zh:BE Tryz.prog 318=some [(0,1),(1,1)]:=by kernel_rfl
theorem YY:Aw Tryz.prog 318=some [.d (.raw (.int .i64 0)),.d (.raw (.int .i64 0))]:=by kernel_rfl
theorem RQ:SlTy Tryz.prog 319 318 2 16:=OH (by kernel_rfl)
theorem W0:AH Tryz.prog 323 0=some (0,1,false):=by kernel_rfl
theorem fi323_1:AH Tryz.prog 323 1=some (1,1,false):=by kernel_rfl
theorem pl323:BE Tryz.prog 323=some [(0,1),(1,1)]:=by kernel_rfl
theorem zl323:Aw Tryz.prog 323=some [.d (.sl (some true) []),.d (.raw .nilFunc)]:=by kernel_rfl
theorem mt127:B7 Tryz.prog 127 64 3=true:=by kernel_rfl
theorem za3:Cg Tryz.prog 3=some (.d (.raw (.int .i64 0))):=by kernel_rfl
theorem HP:Ba Tryz.prog 3 (fun z:Int=> .raw (.int .i64 z)) (fun z=> .int .i64 z):=Ba.int Tryz.underlying3
theorem mt128:B7 Tryz.prog 128 3 3=true:=by kernel_rfl
theorem Bv:B7 Tryz.prog 129 64 2=true:=by kernel_rfl
theorem OD:Cg Tryz.prog 2=some (.d (.raw (.int .i64 0))):=by kernel_rfl
theorem E9:B7 Tryz.prog 137 3 4=true:=by kernel_rfl
theorem T3:Cg Tryz.prog 4=some (.d (.raw (.bool false))):=by kernel_rfl
theorem Ii:B7 Tryz.prog 138 3 4=true:=by kernel_rfl
theorem Vp:B7 Tryz.prog 155 64 4=true:=by kernel_rfl
theorem Vo:B7 Tryz.prog 178 3 176=true:=by kernel_rfl
theorem Uw:Cg Tryz.prog 176=some (.d (.raw (.pointer none))):=by kernel_rfl
theorem Rx:B7 Tryz.prog 226 3 55=true:=by kernel_rfl
theorem za55:Cg Tryz.prog 55=some (.d (.agg [.raw (.int .i64 0),.raw (.int .i64 0),.raw (.int .i64 0),.sl (some true) [],.sl (some true) [],.sl (some true) []])):=by kernel_rfl
theorem Vn:B7 Tryz.prog 248 64 186=true:=by kernel_rfl
theorem Y3:Cg Tryz.prog 186=some (.d (.raw (.pointer none))):=by kernel_rfl
theorem aO:B7 Tryz.prog 310 9 2=true:=by kernel_rfl
theorem kt9:Ba Tryz.prog 9 Ao Lg:=Ba.str Tryz.underlying9
end Go.Proofs.YteifpcnphnhaoaaGreat
