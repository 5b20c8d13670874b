import Derived.Test.YteifpcnphnhaoaaGreatMg13
import Derived.Test.YteifpcnphnhaoaaGreatRows
namespace Go.Proofs.YteifpcnphnhaoaaGreat
open Go.RowKit
theorem mixed:Tryz.prog.follows .mixedOrders=true:=by kernel_rfl
theorem sz1:AY Tryz.prog 1 1=true:=by kernel_rfl
theorem on1:BG Tryz.prog 1=true:=by kernel_rfl
theorem sz2:AY Tryz.prog 2 1=true:=by kernel_rfl
theorem Ke:BG Tryz.prog 2=true:=by kernel_rfl
theorem BE:AY Tryz.prog 3 1=true:=by kernel_rfl
theorem Aq:BG Tryz.prog 3=true:=by kernel_rfl
theorem zd3:MQ Tryz.prog 3=some (.raw (.int .i64 0)):=by kernel_rfl
theorem sz4:AY Tryz.prog 4 1=true:=by kernel_rfl
theorem on4:BG Tryz.prog 4=true:=by kernel_rfl
theorem zl4:Ax Tryz.prog 4=some [.d (.raw (.bool false))]:=by kernel_rfl
theorem sz9:AY Tryz.prog 9 1=true:=by kernel_rfl
theorem iOq:BG Tryz.prog 9=true:=by kernel_rfl
theorem on22:BG Tryz.prog 22=true:=by kernel_rfl
theorem UT:BG Tryz.prog 23=true:=by kernel_rfl
theorem ZY:Br Tryz.prog 25 2=true:=by kernel_rfl
theorem QQ:AH Tryz.prog 25 0=some (0,1,false):=by kernel_rfl
theorem JD:AH Tryz.prog 25 1=some (1,1,false):=by kernel_rfl
theorem CZ:AY Tryz.prog 28 1=true:=by kernel_rfl
theorem BH:BG Tryz.prog 28=true:=by kernel_rfl
theorem zl28:Ax Tryz.prog 28=some [.d (.sl (some true) [])]:=by kernel_rfl
theorem zd28:MQ Tryz.prog 28=some (.sl (some true) []):=by kernel_rfl
theorem B5:SlTy Tryz.prog 28 3 1 8:=OE (by kernel_rfl)
theorem sz29:AY Tryz.prog 29 1=true:=by kernel_rfl
theorem on29:BG Tryz.prog 29=true:=by kernel_rfl
theorem M7:SlTy Tryz.prog 29 28 1 24:=OE (by kernel_rfl)
theorem sz30:AY Tryz.prog 30 1=true:=by kernel_rfl
theorem on30:BG Tryz.prog 30=true:=by kernel_rfl
theorem sl30:SlTy Tryz.prog 30 66 8 96:=OE (by kernel_rfl)
theorem Yt:AY Tryz.prog 32 5=true:=by kernel_rfl
theorem rw32:Br Tryz.prog 32 5=true:=by kernel_rfl
theorem fi32_0:AH Tryz.prog 32 0=some (0,1,false):=by kernel_rfl
theorem fi32_1:AH Tryz.prog 32 1=some (1,1,false):=by kernel_rfl
theorem bW:AH Tryz.prog 32 2=some (2,1,false):=by kernel_rfl
theorem fi32_3:AH Tryz.prog 32 3=some (3,1,false):=by kernel_rfl
theorem fi32_4:AH Tryz.prog 32 4=some (4,1,false):=by kernel_rfl
theorem pl32:BD Tryz.prog 32=some [(0,1),(1,1),(2,1),(3,1),(4,1)]:=by kernel_rfl
theorem Qo:Ax Tryz.prog 32=some [.d (.sl (some true) []),.d (.sl (some true) []),.d (.sl (some true) []),.d (.sl (some true) []),.d (.sl (some true) [])]:=by kernel_rfl
theorem Ys:AY Tryz.prog 33 1=true:=by kernel_rfl
theorem on33:BG Tryz.prog 33=true:=by kernel_rfl
theorem zl33:Ax Tryz.prog 33=some [.d (.raw (.int .i64 0))]:=by kernel_rfl
theorem sz36:AY Tryz.prog 36 1=true:=by kernel_rfl
theorem Rm:BG Tryz.prog 36=true:=by kernel_rfl
theorem Pm:SlTy Tryz.prog 36 88 7 88:=OE (by kernel_rfl)
theorem sz37:AY Tryz.prog 37 1=true:=by kernel_rfl
theorem Kd:BG Tryz.prog 37=true:=by kernel_rfl
theorem OH:SlTy Tryz.prog 37 55 6 96:=OE (by kernel_rfl)
theorem sz39:AY Tryz.prog 39 2=true:=by kernel_rfl
theorem BW:Br Tryz.prog 39 2=true:=by kernel_rfl
theorem Fp:AH Tryz.prog 39 0=some (0,1,false):=by kernel_rfl
theorem EV:AH Tryz.prog 39 1=some (1,1,false):=by kernel_rfl
theorem Y1:Ax Tryz.prog 39=some [.d (.sl (some true) []),.d (.sl (some true) [])]:=by kernel_rfl
theorem sz52:AY Tryz.prog 52 1=true:=by kernel_rfl
theorem XX:BG Tryz.prog 52=true:=by kernel_rfl
theorem XB:SlTy Tryz.prog 52 158 4 48:=OE (by kernel_rfl)
theorem sz53:AY Tryz.prog 53 1=true:=by kernel_rfl
theorem aA:BG Tryz.prog 53=true:=by kernel_rfl
theorem ZO:SlTy Tryz.prog 53 161 3 40:=OE (by kernel_rfl)
theorem Ck:AY Tryz.prog 55 6=true:=by kernel_rfl
theorem CC:Br Tryz.prog 55 6=true:=by kernel_rfl
theorem OB:AH Tryz.prog 55 0=some (0,1,false):=by kernel_rfl
theorem Ua:AH Tryz.prog 55 1=some (1,1,false):=by kernel_rfl
theorem NU:AH Tryz.prog 55 2=some (2,1,false):=by kernel_rfl
theorem Ho:AH Tryz.prog 55 3=some (3,1,false):=by kernel_rfl
theorem JC:AH Tryz.prog 55 4=some (4,1,false):=by kernel_rfl
theorem FH:AH Tryz.prog 55 5=some (5,1,false):=by kernel_rfl
theorem pl55:BD Tryz.prog 55=some [(0,1),(1,1),(2,1),(3,1),(4,1),(5,1)]:=by kernel_rfl
theorem Em:Ax Tryz.prog 55=some [.d (.raw (.int .i64 0)),.d (.raw (.int .i64 0)),.d (.raw (.int .i64 0)),.d (.sl (some true) []),.d (.sl (some true) []),.d (.sl (some true) [])]:=by kernel_rfl
theorem rw62:Br Tryz.prog 62 3=true:=by kernel_rfl
theorem QP:AH Tryz.prog 62 0=some (0,1,false):=by kernel_rfl
theorem NT:AH Tryz.prog 62 1=some (1,1,false):=by kernel_rfl
theorem NS:AH Tryz.prog 62 2=some (2,1,false):=by kernel_rfl
theorem Zo:BD Tryz.prog 62=some [(0,1),(1,1),(2,1)]:=by kernel_rfl
theorem Y0:Ax Tryz.prog 62=some [.d (.raw (.string ⟨#[]⟩)),.d (.raw (.int .i64 0)),.d (.raw (.string ⟨#[]⟩))]:=by kernel_rfl
theorem Yr:AY Tryz.prog 64 6=true:=by kernel_rfl
theorem C7:Br Tryz.prog 64 6=true:=by kernel_rfl
theorem U9:AH Tryz.prog 64 0=some (0,1,false):=by kernel_rfl
theorem EU:AH Tryz.prog 64 1=some (1,3,true):=by kernel_rfl
theorem Ku:AH Tryz.prog 64 2=some (4,1,false):=by kernel_rfl
theorem Kt:AH Tryz.prog 64 3=some (5,1,false):=by kernel_rfl
theorem Rg:BD Tryz.prog 64=some [(0,1),(1,3),(4,1),(5,1)]:=by kernel_rfl
theorem KP:Ax Tryz.prog 64=some [.d (.raw (.int .i64 0)),.d (.raw (.string ⟨#[]⟩)),.d (.raw (.int .i64 0)),.d (.raw (.string ⟨#[]⟩)),.d (.raw (.string ⟨#[]⟩)),.d (.raw (.string ⟨#[]⟩))]:=by kernel_rfl
theorem sz66:AY Tryz.prog 66 8=true:=by kernel_rfl
theorem fi66_0:AH Tryz.prog 66 0=some (0,1,false):=by kernel_rfl
theorem fi66_2:AH Tryz.prog 66 2=some (7,1,false):=by kernel_rfl
theorem pl66:BD Tryz.prog 66=some [(0,1),(1,6),(7,1)]:=by kernel_rfl
theorem zl66:Ax Tryz.prog 66=some [.d (.raw (.int .i64 0)),.d (.raw (.int .i64 0)),.d (.raw (.string ⟨#[]⟩)),.d (.raw (.int .i64 0)),.d (.raw (.string ⟨#[]⟩)),.d (.raw (.string ⟨#[]⟩)),.d (.raw (.string ⟨#[]⟩)),.d (.raw (.int .i64 0))]:=by kernel_rfl
theorem sl69:SlTy Tryz.prog 69 73 7 88:=OE (by kernel_rfl)
theorem sz73:AY Tryz.prog 73 7=true:=by kernel_rfl
theorem fi73_0:AH Tryz.prog 73 0=some (0,6,true):=by kernel_rfl
theorem fi73_1:AH Tryz.prog 73 1=some (6,1,false):=by kernel_rfl
theorem pl73:BD Tryz.prog 73=some [(0,6),(6,1)]:=by kernel_rfl
theorem zl73:Ax Tryz.prog 73=some [.d (.raw (.int .i64 0)),.d (.raw (.string ⟨#[]⟩)),.d (.raw (.int .i64 0)),.d (.raw (.string ⟨#[]⟩)),.d (.raw (.string ⟨#[]⟩)),.d (.raw (.string ⟨#[]⟩)),.d (.raw (.int .i64 0))]:=by kernel_rfl
theorem sl86:SlTy Tryz.prog 86 9 1 16:=OE (by kernel_rfl)
theorem OG:AY Tryz.prog 88 7=true:=by kernel_rfl
theorem ZW:Br Tryz.prog 88 7=true:=by kernel_rfl
theorem FG:AH Tryz.prog 88 0=some (0,6,true):=by kernel_rfl
theorem QO:AH Tryz.prog 88 1=some (6,1,false):=by kernel_rfl
theorem pl88:BD Tryz.prog 88=some [(0,6),(6,1)]:=by kernel_rfl
theorem Qn:Ax Tryz.prog 88=some [.d (.raw (.int .i64 0)),.d (.raw (.string ⟨#[]⟩)),.d (.raw (.int .i64 0)),.d (.raw (.string ⟨#[]⟩)),.d (.raw (.string ⟨#[]⟩)),.d (.raw (.string ⟨#[]⟩)),.d (.raw (.int .i64 0))]:=by kernel_rfl
theorem on90:BG Tryz.prog 90=true:=by kernel_rfl
theorem on91:BG Tryz.prog 91=true:=by kernel_rfl
theorem sz93:AY Tryz.prog 93 6=true:=by kernel_rfl
theorem rw93:Br Tryz.prog 93 6=true:=by kernel_rfl
theorem fi93_0:AH Tryz.prog 93 0=some (0,1,false):=by kernel_rfl
theorem fi93_1:AH Tryz.prog 93 1=some (1,1,false):=by kernel_rfl
theorem fi93_2:AH Tryz.prog 93 2=some (2,1,false):=by kernel_rfl
theorem QN:AH Tryz.prog 93 3=some (3,1,false):=by kernel_rfl
theorem U8:AH Tryz.prog 93 4=some (4,1,false):=by kernel_rfl
theorem bV:AH Tryz.prog 93 5=some (5,1,false):=by kernel_rfl
theorem sl94:SlTy Tryz.prog 94 1 1 8:=OE (by kernel_rfl)
theorem rw96:Br Tryz.prog 96 3=true:=by kernel_rfl
theorem rw98:Br Tryz.prog 98 6=true:=by kernel_rfl
theorem fi98_0:AH Tryz.prog 98 0=some (0,1,false):=by kernel_rfl
theorem fi98_1:AH Tryz.prog 98 1=some (1,3,true):=by kernel_rfl
theorem fi98_2:AH Tryz.prog 98 2=some (4,1,false):=by kernel_rfl
theorem fi98_3:AH Tryz.prog 98 3=some (5,1,false):=by kernel_rfl
theorem sz100:AY Tryz.prog 100 7=true:=by kernel_rfl
theorem fi100_0:AH Tryz.prog 100 0=some (0,6,true):=by kernel_rfl
theorem fi100_1:AH Tryz.prog 100 1=some (6,1,false):=by kernel_rfl
theorem ZS:SlTy Tryz.prog 122 131 7 104:=OE (by kernel_rfl)
theorem sz124:AY Tryz.prog 124 1=true:=by kernel_rfl
theorem on124:BG Tryz.prog 124=true:=by kernel_rfl
theorem zl124:Ax Tryz.prog 124=some [.d (.raw .nilFunc)]:=by kernel_rfl
theorem Vl:BG Tryz.prog 129=true:=by kernel_rfl
theorem Gx:AY Tryz.prog 131 7=true:=by kernel_rfl
theorem LM:Br Tryz.prog 131 7=true:=by kernel_rfl
theorem IY:AH Tryz.prog 131 0=some (0,6,true):=by kernel_rfl
theorem MG:AH Tryz.prog 131 1=some (6,1,false):=by kernel_rfl
theorem pl131:BD Tryz.prog 131=some [(0,6),(6,1)]:=by kernel_rfl
theorem MP:Ax Tryz.prog 131=some [.d (.raw (.int .i64 0)),.d (.raw (.int .i64 0)),.d (.raw (.int .i64 0)),.d (.sl (some true) []),.d (.sl (some true) []),.d (.sl (some true) []),.d (.raw (.map none))]:=by kernel_rfl
theorem sz137:AY Tryz.prog 137 1=true:=by kernel_rfl
theorem Ro:BG Tryz.prog 137=true:=by kernel_rfl
theorem zl137:Ax Tryz.prog 137=some [.d (.raw (.map none))]:=by kernel_rfl
theorem M8:SlTy Tryz.prog 141 144 8 96:=OE (by kernel_rfl)
theorem sz144:AY Tryz.prog 144 8=true:=by kernel_rfl
theorem rw144:Br Tryz.prog 144 8=true:=by kernel_rfl
theorem fi144_1:AH Tryz.prog 144 1=some (1,1,false):=by kernel_rfl
theorem pl144:BD Tryz.prog 144=some [(0,1),(1,1),(2,6)]:=by kernel_rfl
theorem Y6:Ax Tryz.prog 144=some [.d (.raw (.int .i64 0)),.d (.raw (.int .i64 0)),.d (.raw (.int .i64 0)),.d (.raw (.string ⟨#[]⟩)),.d (.raw (.int .i64 0)),.d (.raw (.string ⟨#[]⟩)),.d (.raw (.string ⟨#[]⟩)),.d (.raw (.string ⟨#[]⟩))]:=by kernel_rfl
theorem sz146:AY Tryz.prog 146 1=true:=by kernel_rfl
theorem on146:BG Tryz.prog 146=true:=by kernel_rfl
theorem V3:SlTy Tryz.prog 147 28 1 24:=OE (by kernel_rfl)
theorem O4:AY Tryz.prog 158 4=true:=by kernel_rfl
theorem Z0:Br Tryz.prog 158 4=true:=by kernel_rfl
theorem Jy:AH Tryz.prog 158 0=some (0,3,true):=by kernel_rfl
theorem QV:AH Tryz.prog 158 1=some (3,1,false):=by kernel_rfl
theorem Zq:BD Tryz.prog 158=some [(0,3),(3,1)]:=by kernel_rfl
theorem O0:Ax Tryz.prog 158=some [.d (.raw (.string ⟨#[]⟩)),.d (.raw (.int .i64 0)),.d (.raw (.string ⟨#[]⟩)),.d (.raw (.int .i64 0))]:=by kernel_rfl
theorem VT:AY Tryz.prog 161 3=true:=by kernel_rfl
theorem rw161:Br Tryz.prog 161 3=true:=by kernel_rfl
theorem Jx:AH Tryz.prog 161 0=some (0,1,false):=by kernel_rfl
theorem Jw:AH Tryz.prog 161 1=some (1,1,false):=by kernel_rfl
theorem Jv:AH Tryz.prog 161 2=some (2,1,false):=by kernel_rfl
theorem zl161:Ax Tryz.prog 161=some [.d (.raw (.string ⟨#[]⟩)),.d (.raw (.string ⟨#[]⟩)),.d (.raw (.int .i64 0))]:=by kernel_rfl
theorem ZR:SlTy Tryz.prog 168 245 9 104:=OE (by kernel_rfl)
theorem sz171:AY Tryz.prog 171 1=true:=by kernel_rfl
theorem Vk:BG Tryz.prog 171=true:=by kernel_rfl
theorem zl171:Ax Tryz.prog 171=some [.d (.raw (.pointer none))]:=by kernel_rfl
theorem sz175:AY Tryz.prog 175 1=true:=by kernel_rfl
theorem GG:BG Tryz.prog 175=true:=by kernel_rfl
theorem V2:SlTy Tryz.prog 175 176 1 8:=OE (by kernel_rfl)
theorem LK:AY Tryz.prog 176 1=true:=by kernel_rfl
theorem Mo:BG Tryz.prog 176=true:=by kernel_rfl
theorem sz177:AY Tryz.prog 177 1=true:=by kernel_rfl
theorem Vj:BG Tryz.prog 177=true:=by kernel_rfl
theorem sl177:SlTy Tryz.prog 177 186 1 8:=OE (by kernel_rfl)
theorem Vi:BG Tryz.prog 178=true:=by kernel_rfl
theorem IX:AH Tryz.prog 180 0=some (0,1,false):=by kernel_rfl
theorem Ju:AH Tryz.prog 180 1=some (1,1,false):=by kernel_rfl
theorem ME:AH Tryz.prog 180 2=some (2,1,false):=by kernel_rfl
theorem pl180:BD Tryz.prog 180=some [(0,1),(1,1),(2,1)]:=by kernel_rfl
theorem zl180:Ax Tryz.prog 180=some [.d (.sl (some true) []),.d (.sl (some true) []),.d (.raw (.map none))]:=by kernel_rfl
theorem sz181:AY Tryz.prog 181 1=true:=by kernel_rfl
theorem Vh:BG Tryz.prog 181=true:=by kernel_rfl
theorem sl181:SlTy Tryz.prog 181 188 2 16:=OE (by kernel_rfl)
theorem sz182:AY Tryz.prog 182 1=true:=by kernel_rfl
theorem Vg:BG Tryz.prog 182=true:=by kernel_rfl
theorem sl182:SlTy Tryz.prog 182 254 2 16:=OE (by kernel_rfl)
theorem Fe:AH Tryz.prog 184 0=some (0,6,true):=by kernel_rfl
theorem Jt:AH Tryz.prog 184 1=some (6,1,false):=by kernel_rfl
theorem Js:AH Tryz.prog 184 2=some (7,1,false):=by kernel_rfl
theorem E7:AH Tryz.prog 184 3=some (8,1,false):=by kernel_rfl
theorem pl184:BD Tryz.prog 184=some [(0,6),(6,1),(7,1),(8,1)]:=by kernel_rfl
theorem zl184:Ax Tryz.prog 184=some [.d (.raw (.int .i64 0)),.d (.raw (.int .i64 0)),.d (.raw (.int .i64 0)),.d (.sl (some true) []),.d (.sl (some true) []),.d (.sl (some true) []),.d (.sl (some true) []),.d (.sl (some true) []),.d (.raw (.bool false))]:=by kernel_rfl
theorem Yu:AY Tryz.prog 186 1=true:=by kernel_rfl
theorem EX:BG Tryz.prog 186=true:=by kernel_rfl
theorem zl186:Ax Tryz.prog 186=some [.d (.raw (.pointer none))]:=by kernel_rfl
theorem RC:AY Tryz.prog 188 2=true:=by kernel_rfl
theorem ZZ:Br Tryz.prog 188 2=true:=by kernel_rfl
theorem QU:AH Tryz.prog 188 0=some (0,1,false):=by kernel_rfl
theorem QT:AH Tryz.prog 188 1=some (1,1,false):=by kernel_rfl
theorem pl188:BD Tryz.prog 188=some [(0,1),(1,1)]:=by kernel_rfl
theorem Y5:Ax Tryz.prog 188=some [.d (.raw (.pointer none)),.d (.raw (.int .i64 0))]:=by kernel_rfl
theorem MD:AH Tryz.prog 190 0=some (0,6,true):=by kernel_rfl
theorem QS:AH Tryz.prog 190 1=some (6,1,false):=by kernel_rfl
theorem Jr:AH Tryz.prog 190 2=some (7,1,false):=by kernel_rfl
theorem Gn:AH Tryz.prog 190 3=some (8,1,false):=by kernel_rfl
theorem Jq:AH Tryz.prog 190 4=some (9,1,false):=by kernel_rfl
theorem pl190:BD Tryz.prog 190=some [(0,6),(6,1),(7,1),(8,1),(9,1)]:=by kernel_rfl
theorem zl190:Ax Tryz.prog 190=some [.d (.raw (.int .i64 0)),.d (.raw (.string ⟨#[]⟩)),.d (.raw (.int .i64 0)),.d (.raw (.string ⟨#[]⟩)),.d (.raw (.string ⟨#[]⟩)),.d (.raw (.string ⟨#[]⟩)),.d (.raw (.int .i64 0)),.d (.raw (.int .i64 0)),.d (.sl (some true) []),.d (.raw (.int .i64 0))]:=by kernel_rfl
theorem sz192:AY Tryz.prog 192 4=true:=by kernel_rfl
theorem fi192_0:AH Tryz.prog 192 0=some (0,3,true):=by kernel_rfl
theorem fi192_1:AH Tryz.prog 192 1=some (3,1,false):=by kernel_rfl
theorem sz193:AY Tryz.prog 193 3=true:=by kernel_rfl
theorem rw193:Br Tryz.prog 193 3=true:=by kernel_rfl
theorem ZQ:SlTy Tryz.prog 215 218 7 88:=OE (by kernel_rfl)
theorem VS:AY Tryz.prog 218 7=true:=by kernel_rfl
theorem rw218:Br Tryz.prog 218 7=true:=by kernel_rfl
theorem Jp:AH Tryz.prog 218 0=some (0,6,true):=by kernel_rfl
theorem WP:AH Tryz.prog 218 1=some (6,1,false):=by kernel_rfl
theorem pl218:BD Tryz.prog 218=some [(0,6),(6,1)]:=by kernel_rfl
theorem Y4:Ax Tryz.prog 218=some [.d (.raw (.int .i64 0)),.d (.raw (.string ⟨#[]⟩)),.d (.raw (.int .i64 0)),.d (.raw (.string ⟨#[]⟩)),.d (.raw (.string ⟨#[]⟩)),.d (.raw (.string ⟨#[]⟩)),.d (.raw (.int .i64 0))]:=by kernel_rfl
theorem Rn:BG Tryz.prog 226=true:=by kernel_rfl
theorem sz227:AY Tryz.prog 227 1=true:=by kernel_rfl
theorem Vf:BG Tryz.prog 227=true:=by kernel_rfl
theorem ZP:SlTy Tryz.prog 227 233 8 112:=OE (by kernel_rfl)
theorem Jo:AH Tryz.prog 229 0=some (0,1,false):=by kernel_rfl
theorem fi229_1:AH Tryz.prog 229 1=some (1,1,false):=by kernel_rfl
theorem Jn:AH Tryz.prog 229 2=some (2,1,false):=by kernel_rfl
theorem pl229:BD Tryz.prog 229=some [(0,1),(1,1),(2,1)]:=by kernel_rfl
theorem zl229:Ax Tryz.prog 229=some [.d (.raw (.map none)),.d (.sl (some true) []),.d (.sl (some true) [])]:=by kernel_rfl
theorem VR:AY Tryz.prog 233 8=true:=by kernel_rfl
theorem rw233:Br Tryz.prog 233 8=true:=by kernel_rfl
theorem Jm:AH Tryz.prog 233 0=some (0,6,true):=by kernel_rfl
theorem fi233_1:AH Tryz.prog 233 1=some (6,1,false):=by kernel_rfl
theorem WO:AH Tryz.prog 233 2=some (7,1,false):=by kernel_rfl
theorem pl233:BD Tryz.prog 233=some [(0,6),(6,1),(7,1)]:=by kernel_rfl
theorem Y3:Ax Tryz.prog 233=some [.d (.raw (.int .i64 0)),.d (.raw (.string ⟨#[]⟩)),.d (.raw (.int .i64 0)),.d (.raw (.string ⟨#[]⟩)),.d (.raw (.string ⟨#[]⟩)),.d (.raw (.string ⟨#[]⟩)),.d (.raw (.int .i64 0)),.d (.sl (some true) [])]:=by kernel_rfl
theorem JO:AY Tryz.prog 245 9=true:=by kernel_rfl
theorem rw245:Br Tryz.prog 245 9=true:=by kernel_rfl
theorem fi245_0:AH Tryz.prog 245 0=some (0,1,false):=by kernel_rfl
theorem Rj:BD Tryz.prog 245=some [(0,1),(1,1),(2,6),(8,1)]:=by kernel_rfl
theorem Ic:Ax Tryz.prog 245=some [.d (.raw (.int .i64 0)),.d (.raw (.int .i64 0)),.d (.raw (.int .i64 0)),.d (.raw (.string ⟨#[]⟩)),.d (.raw (.int .i64 0)),.d (.raw (.string ⟨#[]⟩)),.d (.raw (.string ⟨#[]⟩)),.d (.raw (.string ⟨#[]⟩)),.d (.raw (.int .i64 0))]:=by kernel_rfl
theorem O3:AY Tryz.prog 254 2=true:=by kernel_rfl
theorem ZX:Br Tryz.prog 254 2=true:=by kernel_rfl
theorem Gm:AH Tryz.prog 254 0=some (0,1,false):=by kernel_rfl
theorem QR:AH Tryz.prog 254 1=some (1,1,false):=by kernel_rfl
theorem pl254:BD Tryz.prog 254=some [(0,1),(1,1)]:=by kernel_rfl
theorem VF:Ax Tryz.prog 254=some [.d (.raw (.pointer none)),.d (.raw (.int .i64 0))]:=by kernel_rfl
theorem sl273:SlTy Tryz.prog 273 146 1 8:=OE (by kernel_rfl)
theorem on283:BG Tryz.prog 283=true:=by kernel_rfl
theorem RB:AY Tryz.prog 318 2=true:=by kernel_rfl
theorem VB:AH Tryz.prog 318 0=some (0,1,false):=by kernel_rfl
theorem E6:AH Tryz.prog 318 1=some (1,1,false):=by kernel_rfl
theorem Zp:BD Tryz.prog 318=some [(0,1),(1,1)]:=by kernel_rfl
theorem Y2:Ax Tryz.prog 318=some [.d (.raw (.int .i64 0)),.d (.raw (.int .i64 0))]:=by kernel_rfl
theorem RT:SlTy Tryz.prog 319 318 2 16:=OE (by kernel_rfl)
theorem W9:AH Tryz.prog 323 0=some (0,1,false):=by kernel_rfl
theorem fi323_1:AH Tryz.prog 323 1=some (1,1,false):=by kernel_rfl
theorem pl323:BD Tryz.prog 323=some [(0,1),(1,1)]:=by kernel_rfl
theorem zl323:Ax Tryz.prog 323=some [.d (.sl (some true) []),.d (.raw .nilFunc)]:=by kernel_rfl
theorem mt127:B8 Tryz.prog 127 64 3=true:=by kernel_rfl
theorem za3:Ce Tryz.prog 3=some (.d (.raw (.int .i64 0))):=by kernel_rfl
theorem HP:Ba Tryz.prog 3 (fun z:Int=> .raw (.int .i64 z)) (fun z=> .int .i64 z):=Ba.int Tryz.underlying3
theorem mt128:B8 Tryz.prog 128 3 3=true:=by kernel_rfl
theorem Bv:B8 Tryz.prog 129 64 2=true:=by kernel_rfl
theorem Nx:Ce Tryz.prog 2=some (.d (.raw (.int .i64 0))):=by kernel_rfl
theorem EY:B8 Tryz.prog 137 3 4=true:=by kernel_rfl
theorem Td:Ce Tryz.prog 4=some (.d (.raw (.bool false))):=by kernel_rfl
theorem If:B8 Tryz.prog 138 3 4=true:=by kernel_rfl
theorem Vx:B8 Tryz.prog 155 64 4=true:=by kernel_rfl
theorem Vw:B8 Tryz.prog 178 3 176=true:=by kernel_rfl
theorem VG:Ce Tryz.prog 176=some (.d (.raw (.pointer none))):=by kernel_rfl
theorem SB:B8 Tryz.prog 226 3 55=true:=by kernel_rfl
theorem za55:Ce Tryz.prog 55=some (.d (.agg [.raw (.int .i64 0),.raw (.int .i64 0),.raw (.int .i64 0),.sl (some true) [],.sl (some true) [],.sl (some true) []])):=by kernel_rfl
theorem Vv:B8 Tryz.prog 248 64 186=true:=by kernel_rfl
theorem Y7:Ce Tryz.prog 186=some (.d (.raw (.pointer none))):=by kernel_rfl
theorem aW:B8 Tryz.prog 310 9 2=true:=by kernel_rfl
theorem kt9:Ba Tryz.prog 9 Ao La:=Ba.str Tryz.underlying9
end Go.Proofs.YteifpcnphnhaoaaGreat
