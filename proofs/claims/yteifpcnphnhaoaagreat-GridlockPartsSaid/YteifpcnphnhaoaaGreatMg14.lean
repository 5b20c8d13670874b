import Derived.Test.YteifpcnphnhaoaaGreatMg13
import Derived.Test.YteifpcnphnhaoaaGreatRows
open Go.Proofs.Tryz
namespace Go.Proofs.YteifpcnphnhaoaaGreat
open Go.RowKit
theorem mixed:prog.follows .mixedOrders=true:=by kernel_rfl
theorem sz1:A5 prog 1 1=true:=by kernel_rfl
theorem on1:BW prog 1=true:=by kernel_rfl
theorem sz2:A5 prog 2 1=true:=by kernel_rfl
theorem Fn:BW prog 2=true:=by kernel_rfl
theorem BD:A5 prog 3 1=true:=by kernel_rfl
theorem Ai:BW prog 3=true:=by kernel_rfl
theorem zd3:OJ prog 3=some (.raw (.int .i64 0)):=by kernel_rfl
theorem sz4:A5 prog 4 1=true:=by kernel_rfl
theorem on4:BW prog 4=true:=by kernel_rfl
theorem zl4:At prog 4=some [.d (.raw (.bool false))]:=by kernel_rfl
theorem sz9:A5 prog 9 1=true:=by kernel_rfl
theorem CL:BW prog 9=true:=by kernel_rfl
theorem sz22:A5 prog 22 1=true:=by kernel_rfl
theorem GP:BW prog 22=true:=by kernel_rfl
theorem ZL:SlTy prog 22 100 7 88:=Mq (by kernel_rfl)
theorem sz23:A5 prog 23 1=true:=by kernel_rfl
theorem DM:BW prog 23=true:=by kernel_rfl
theorem J8:SlTy prog 23 93 6 96:=Mq (by kernel_rfl)
theorem sz25:A5 prog 25 2=true:=by kernel_rfl
theorem ED:CB prog 25 2=true:=by kernel_rfl
theorem Pj:AH prog 25 0=some (0,1,false):=by kernel_rfl
theorem J6:AH prog 25 1=some (1,1,false):=by kernel_rfl
theorem pl25:Au prog 25=some [(0,1),(1,1)]:=by kernel_rfl
theorem av:At prog 25=some [.d (.sl (some true) []),.d (.sl (some true) [])]:=by kernel_rfl
theorem Cv:A5 prog 28 1=true:=by kernel_rfl
theorem BF:BW prog 28=true:=by kernel_rfl
theorem zl28:At prog 28=some [.d (.sl (some true) [])]:=by kernel_rfl
theorem zd28:OJ prog 28=some (.sl (some true) []):=by kernel_rfl
theorem BT:SlTy prog 28 3 1 8:=Mq (by kernel_rfl)
theorem sz29:A5 prog 29 1=true:=by kernel_rfl
theorem on29:BW prog 29=true:=by kernel_rfl
theorem OZ:SlTy prog 29 28 1 24:=Mq (by kernel_rfl)
theorem sz30:A5 prog 30 1=true:=by kernel_rfl
theorem on30:BW prog 30=true:=by kernel_rfl
theorem sl30:SlTy prog 30 66 8 96:=Mq (by kernel_rfl)
theorem sz32:A5 prog 32 5=true:=by kernel_rfl
theorem rw32:CB prog 32 5=true:=by kernel_rfl
theorem fi32_0:AH prog 32 0=some (0,1,false):=by kernel_rfl
theorem fi32_1:AH prog 32 1=some (1,1,false):=by kernel_rfl
theorem eW:AH prog 32 2=some (2,1,false):=by kernel_rfl
theorem fi32_3:AH prog 32 3=some (3,1,false):=by kernel_rfl
theorem fi32_4:AH prog 32 4=some (4,1,false):=by kernel_rfl
theorem zl32:At prog 32=some [.d (.sl (some true) []),.d (.sl (some true) []),.d (.sl (some true) []),.d (.sl (some true) []),.d (.sl (some true) [])]:=by kernel_rfl
theorem bV:A5 prog 33 1=true:=by kernel_rfl
theorem on33:BW prog 33=true:=by kernel_rfl
theorem zl33:At prog 33=some [.d (.raw (.int .i64 0))]:=by kernel_rfl
theorem sz36:A5 prog 36 1=true:=by kernel_rfl
theorem ML:BW prog 36=true:=by kernel_rfl
theorem NX:SlTy prog 36 88 7 88:=Mq (by kernel_rfl)
theorem sz37:A5 prog 37 1=true:=by kernel_rfl
theorem Hc:BW prog 37=true:=by kernel_rfl
theorem Ls:SlTy prog 37 55 6 96:=Mq (by kernel_rfl)
theorem Yw:A5 prog 39 2=true:=by kernel_rfl
theorem Br:CB prog 39 2=true:=by kernel_rfl
theorem DF:AH prog 39 0=some (0,1,false):=by kernel_rfl
theorem Sd:AH prog 39 1=some (1,1,false):=by kernel_rfl
theorem pl39:Au prog 39=some [(0,1),(1,1)]:=by kernel_rfl
theorem Py:At prog 39=some [.d (.sl (some true) []),.d (.sl (some true) [])]:=by kernel_rfl
theorem sz52:A5 prog 52 1=true:=by kernel_rfl
theorem QE:BW prog 52=true:=by kernel_rfl
theorem ZK:SlTy prog 52 158 4 48:=Mq (by kernel_rfl)
theorem sz53:A5 prog 53 1=true:=by kernel_rfl
theorem To:BW prog 53=true:=by kernel_rfl
theorem bt:SlTy prog 53 161 3 40:=Mq (by kernel_rfl)
theorem Cm:A5 prog 55 6=true:=by kernel_rfl
theorem CO:CB prog 55 6=true:=by kernel_rfl
theorem OG:AH prog 55 0=some (0,1,false):=by kernel_rfl
theorem SN:AH prog 55 1=some (1,1,false):=by kernel_rfl
theorem M9:AH prog 55 2=some (2,1,false):=by kernel_rfl
theorem E1:AH prog 55 3=some (3,1,false):=by kernel_rfl
theorem Fw:AH prog 55 4=some (4,1,false):=by kernel_rfl
theorem EA:AH prog 55 5=some (5,1,false):=by kernel_rfl
theorem pl55:Au prog 55=some [(0,1),(1,1),(2,1),(3,1),(4,1),(5,1)]:=by kernel_rfl
theorem FJ:At prog 55=some [.d (.raw (.int .i64 0)),.d (.raw (.int .i64 0)),.d (.raw (.int .i64 0)),.d (.sl (some true) []),.d (.sl (some true) []),.d (.sl (some true) [])]:=by kernel_rfl
theorem cC:CB prog 62 3=true:=by kernel_rfl
theorem SM:AH prog 62 0=some (0,1,false):=by kernel_rfl
theorem PX:AH prog 62 1=some (1,1,false):=by kernel_rfl
theorem PW:AH prog 62 2=some (2,1,false):=by kernel_rfl
theorem ce:Au prog 62=some [(0,1),(1,1),(2,1)]:=by kernel_rfl
theorem ar:At prog 62=some [.d (.raw (.string ⟨#[]⟩)),.d (.raw (.int .i64 0)),.d (.raw (.string ⟨#[]⟩))]:=by kernel_rfl
theorem Yv:A5 prog 64 6=true:=by kernel_rfl
theorem Cc:CB prog 64 6=true:=by kernel_rfl
theorem SL:AH prog 64 0=some (0,1,false):=by kernel_rfl
theorem EZ:AH prog 64 1=some (1,3,true):=by kernel_rfl
theorem KH:AH prog 64 2=some (4,1,false):=by kernel_rfl
theorem KG:AH prog 64 3=some (5,1,false):=by kernel_rfl
theorem Tk:Au prog 64=some [(0,1),(1,3),(4,1),(5,1)]:=by kernel_rfl
theorem KQ:At prog 64=some [.d (.raw (.int .i64 0)),.d (.raw (.string ⟨#[]⟩)),.d (.raw (.int .i64 0)),.d (.raw (.string ⟨#[]⟩)),.d (.raw (.string ⟨#[]⟩)),.d (.raw (.string ⟨#[]⟩))]:=by kernel_rfl
theorem sz66:A5 prog 66 8=true:=by kernel_rfl
theorem fi66_0:AH prog 66 0=some (0,1,false):=by kernel_rfl
theorem fi66_2:AH prog 66 2=some (7,1,false):=by kernel_rfl
theorem pl66:Au prog 66=some [(0,1),(1,6),(7,1)]:=by kernel_rfl
theorem zl66:At prog 66=some [.d (.raw (.int .i64 0)),.d (.raw (.int .i64 0)),.d (.raw (.string ⟨#[]⟩)),.d (.raw (.int .i64 0)),.d (.raw (.string ⟨#[]⟩)),.d (.raw (.string ⟨#[]⟩)),.d (.raw (.string ⟨#[]⟩)),.d (.raw (.int .i64 0))]:=by kernel_rfl
theorem sl69:SlTy prog 69 73 7 88:=Mq (by kernel_rfl)
theorem sz73:A5 prog 73 7=true:=by kernel_rfl
theorem fi73_0:AH prog 73 0=some (0,6,true):=by kernel_rfl
theorem fi73_1:AH prog 73 1=some (6,1,false):=by kernel_rfl
theorem pl73:Au prog 73=some [(0,6),(6,1)]:=by kernel_rfl
theorem zl73:At prog 73=some [.d (.raw (.int .i64 0)),.d (.raw (.string ⟨#[]⟩)),.d (.raw (.int .i64 0)),.d (.raw (.string ⟨#[]⟩)),.d (.raw (.string ⟨#[]⟩)),.d (.raw (.string ⟨#[]⟩)),.d (.raw (.int .i64 0))]:=by kernel_rfl
theorem sl86:SlTy prog 86 9 1 16:=Mq (by kernel_rfl)
theorem KY:A5 prog 88 7=true:=by kernel_rfl
theorem Vz:CB prog 88 7=true:=by kernel_rfl
theorem EY:AH prog 88 0=some (0,6,true):=by kernel_rfl
theorem PU:AH prog 88 1=some (6,1,false):=by kernel_rfl
theorem pl88:Au prog 88=some [(0,6),(6,1)]:=by kernel_rfl
theorem R3:At prog 88=some [.d (.raw (.int .i64 0)),.d (.raw (.string ⟨#[]⟩)),.d (.raw (.int .i64 0)),.d (.raw (.string ⟨#[]⟩)),.d (.raw (.string ⟨#[]⟩)),.d (.raw (.string ⟨#[]⟩)),.d (.raw (.int .i64 0))]:=by kernel_rfl
theorem sz90:A5 prog 90 1=true:=by kernel_rfl
theorem Fm:BW prog 90=true:=by kernel_rfl
theorem sl90:SlTy prog 90 192 4 48:=Mq (by kernel_rfl)
theorem sz91:A5 prog 91 1=true:=by kernel_rfl
theorem Jb:BW prog 91=true:=by kernel_rfl
theorem sl91:SlTy prog 91 193 3 40:=Mq (by kernel_rfl)
theorem DD:A5 prog 93 6=true:=by kernel_rfl
theorem G7:CB prog 93 6=true:=by kernel_rfl
theorem Fv:AH prog 93 0=some (0,1,false):=by kernel_rfl
theorem Hs:AH prog 93 1=some (1,1,false):=by kernel_rfl
theorem Io:AH prog 93 2=some (2,1,false):=by kernel_rfl
theorem OH:AH prog 93 3=some (3,1,false):=by kernel_rfl
theorem Cs:AH prog 93 4=some (4,1,false):=by kernel_rfl
theorem QP:AH prog 93 5=some (5,1,false):=by kernel_rfl
theorem pl93:Au prog 93=some [(0,1),(1,1),(2,1),(3,1),(4,1),(5,1)]:=by kernel_rfl
theorem Vf:At prog 93=some [.d (.raw (.int .i64 0)),.d (.raw (.int .i64 0)),.d (.raw (.int .i64 0)),.d (.sl (some true) []),.d (.sl (some true) []),.d (.sl (some true) [])]:=by kernel_rfl
theorem sl94:SlTy prog 94 1 1 8:=Mq (by kernel_rfl)
theorem ZO:CB prog 96 3=true:=by kernel_rfl
theorem SK:AH prog 96 0=some (0,1,false):=by kernel_rfl
theorem M8:AH prog 96 1=some (1,1,false):=by kernel_rfl
theorem M7:AH prog 96 2=some (2,1,false):=by kernel_rfl
theorem pl96:Au prog 96=some [(0,1),(1,1),(2,1)]:=by kernel_rfl
theorem zl96:At prog 96=some [.d (.raw (.string ⟨#[]⟩)),.d (.raw (.int .i64 0)),.d (.raw (.string ⟨#[]⟩))]:=by kernel_rfl
theorem KX:A5 prog 98 6=true:=by kernel_rfl
theorem G6:CB prog 98 6=true:=by kernel_rfl
theorem Gd:AH prog 98 0=some (0,1,false):=by kernel_rfl
theorem EX:AH prog 98 1=some (1,3,true):=by kernel_rfl
theorem FA:AH prog 98 2=some (4,1,false):=by kernel_rfl
theorem Ez:AH prog 98 3=some (5,1,false):=by kernel_rfl
theorem Z1:Au prog 98=some [(0,1),(1,3),(4,1),(5,1)]:=by kernel_rfl
theorem St:At prog 98=some [.d (.raw (.int .i64 0)),.d (.raw (.string ⟨#[]⟩)),.d (.raw (.int .i64 0)),.d (.raw (.string ⟨#[]⟩)),.d (.raw (.string ⟨#[]⟩)),.d (.raw (.string ⟨#[]⟩))]:=by kernel_rfl
theorem IF:A5 prog 100 7=true:=by kernel_rfl
theorem cI:CB prog 100 7=true:=by kernel_rfl
theorem J0:AH prog 100 0=some (0,6,true):=by kernel_rfl
theorem ST:AH prog 100 1=some (6,1,false):=by kernel_rfl
theorem pl100:Au prog 100=some [(0,6),(6,1)]:=by kernel_rfl
theorem zl100:At prog 100=some [.d (.raw (.int .i64 0)),.d (.raw (.string ⟨#[]⟩)),.d (.raw (.int .i64 0)),.d (.raw (.string ⟨#[]⟩)),.d (.raw (.string ⟨#[]⟩)),.d (.raw (.string ⟨#[]⟩)),.d (.raw (.int .i64 0))]:=by kernel_rfl
theorem bx:SlTy prog 122 131 7 104:=Mq (by kernel_rfl)
theorem bY:A5 prog 124 1=true:=by kernel_rfl
theorem Tr:BW prog 124=true:=by kernel_rfl
theorem bC:At prog 124=some [.d (.raw .nilFunc)]:=by kernel_rfl
theorem Tq:BW prog 129=true:=by kernel_rfl
theorem GU:A5 prog 131 7=true:=by kernel_rfl
theorem K9:CB prog 131 7=true:=by kernel_rfl
theorem JZ:AH prog 131 0=some (0,6,true):=by kernel_rfl
theorem LY:AH prog 131 1=some (6,1,false):=by kernel_rfl
theorem pl131:Au prog 131=some [(0,6),(6,1)]:=by kernel_rfl
theorem Mr:At prog 131=some [.d (.raw (.int .i64 0)),.d (.raw (.int .i64 0)),.d (.raw (.int .i64 0)),.d (.sl (some true) []),.d (.sl (some true) []),.d (.sl (some true) []),.d (.raw (.map none))]:=by kernel_rfl
theorem bX:A5 prog 137 1=true:=by kernel_rfl
theorem Ql:BW prog 137=true:=by kernel_rfl
theorem bB:At prog 137=some [.d (.raw (.map none))]:=by kernel_rfl
theorem O0:SlTy prog 141 144 8 96:=Mq (by kernel_rfl)
theorem sz144:A5 prog 144 8=true:=by kernel_rfl
theorem rw144:CB prog 144 8=true:=by kernel_rfl
theorem fi144_1:AH prog 144 1=some (1,1,false):=by kernel_rfl
theorem pl144:Au prog 144=some [(0,1),(1,1),(2,6)]:=by kernel_rfl
theorem bA:At prog 144=some [.d (.raw (.int .i64 0)),.d (.raw (.int .i64 0)),.d (.raw (.int .i64 0)),.d (.raw (.string ⟨#[]⟩)),.d (.raw (.int .i64 0)),.d (.raw (.string ⟨#[]⟩)),.d (.raw (.string ⟨#[]⟩)),.d (.raw (.string ⟨#[]⟩))]:=by kernel_rfl
theorem sz146:A5 prog 146 1=true:=by kernel_rfl
theorem on146:BW prog 146=true:=by kernel_rfl
theorem X1:SlTy prog 147 28 1 24:=Mq (by kernel_rfl)
theorem Mv:A5 prog 158 4=true:=by kernel_rfl
theorem cH:CB prog 158 4=true:=by kernel_rfl
theorem JY:AH prog 158 0=some (0,3,true):=by kernel_rfl
theorem Nw:AH prog 158 1=some (3,1,false):=by kernel_rfl
theorem ci:Au prog 158=some [(0,3),(3,1)]:=by kernel_rfl
theorem QV:At prog 158=some [.d (.raw (.string ⟨#[]⟩)),.d (.raw (.int .i64 0)),.d (.raw (.string ⟨#[]⟩)),.d (.raw (.int .i64 0))]:=by kernel_rfl
theorem TG:A5 prog 161 3=true:=by kernel_rfl
theorem cG:CB prog 161 3=true:=by kernel_rfl
theorem LX:AH prog 161 0=some (0,1,false):=by kernel_rfl
theorem LW:AH prog 161 1=some (1,1,false):=by kernel_rfl
theorem LV:AH prog 161 2=some (2,1,false):=by kernel_rfl
theorem zl161:At prog 161=some [.d (.raw (.string ⟨#[]⟩)),.d (.raw (.string ⟨#[]⟩)),.d (.raw (.int .i64 0))]:=by kernel_rfl
theorem bw:SlTy prog 168 245 9 104:=Mq (by kernel_rfl)
theorem sz171:A5 prog 171 1=true:=by kernel_rfl
theorem Xj:BW prog 171=true:=by kernel_rfl
theorem zl171:At prog 171=some [.d (.raw (.pointer none))]:=by kernel_rfl
theorem sz175:A5 prog 175 1=true:=by kernel_rfl
theorem HC:BW prog 175=true:=by kernel_rfl
theorem X0:SlTy prog 175 176 1 8:=Mq (by kernel_rfl)
theorem Mu:A5 prog 176 1=true:=by kernel_rfl
theorem Oj:BW prog 176=true:=by kernel_rfl
theorem sz177:A5 prog 177 1=true:=by kernel_rfl
theorem Xi:BW prog 177=true:=by kernel_rfl
theorem sl177:SlTy prog 177 186 1 8:=Mq (by kernel_rfl)
theorem Xh:BW prog 178=true:=by kernel_rfl
theorem JX:AH prog 180 0=some (0,1,false):=by kernel_rfl
theorem LU:AH prog 180 1=some (1,1,false):=by kernel_rfl
theorem Nv:AH prog 180 2=some (2,1,false):=by kernel_rfl
theorem pl180:Au prog 180=some [(0,1),(1,1),(2,1)]:=by kernel_rfl
theorem zl180:At prog 180=some [.d (.sl (some true) []),.d (.sl (some true) []),.d (.raw (.map none))]:=by kernel_rfl
theorem sz181:A5 prog 181 1=true:=by kernel_rfl
theorem Xg:BW prog 181=true:=by kernel_rfl
theorem sl181:SlTy prog 181 188 2 16:=Mq (by kernel_rfl)
theorem sz182:A5 prog 182 1=true:=by kernel_rfl
theorem Xf:BW prog 182=true:=by kernel_rfl
theorem sl182:SlTy prog 182 254 2 16:=Mq (by kernel_rfl)
theorem G1:AH prog 184 0=some (0,6,true):=by kernel_rfl
theorem LT:AH prog 184 1=some (6,1,false):=by kernel_rfl
theorem LS:AH prog 184 2=some (7,1,false):=by kernel_rfl
theorem FR:AH prog 184 3=some (8,1,false):=by kernel_rfl
theorem pl184:Au prog 184=some [(0,6),(6,1),(7,1),(8,1)]:=by kernel_rfl
theorem zl184:At prog 184=some [.d (.raw (.int .i64 0)),.d (.raw (.int .i64 0)),.d (.raw (.int .i64 0)),.d (.sl (some true) []),.d (.sl (some true) []),.d (.sl (some true) []),.d (.sl (some true) []),.d (.sl (some true) []),.d (.raw (.bool false))]:=by kernel_rfl
theorem bW:A5 prog 186 1=true:=by kernel_rfl
theorem FD:BW prog 186=true:=by kernel_rfl
theorem zl186:At prog 186=some [.d (.raw (.pointer none))]:=by kernel_rfl
theorem TF:A5 prog 188 2=true:=by kernel_rfl
theorem cF:CB prog 188 2=true:=by kernel_rfl
theorem SS:AH prog 188 0=some (0,1,false):=by kernel_rfl
theorem SQ:AH prog 188 1=some (1,1,false):=by kernel_rfl
theorem pl188:Au prog 188=some [(0,1),(1,1)]:=by kernel_rfl
theorem az:At prog 188=some [.d (.raw (.pointer none)),.d (.raw (.int .i64 0))]:=by kernel_rfl
theorem Nu:AH prog 190 0=some (0,6,true):=by kernel_rfl
theorem SP:AH prog 190 1=some (6,1,false):=by kernel_rfl
theorem LR:AH prog 190 2=some (7,1,false):=by kernel_rfl
theorem Hu:AH prog 190 3=some (8,1,false):=by kernel_rfl
theorem LQ:AH prog 190 4=some (9,1,false):=by kernel_rfl
theorem pl190:Au prog 190=some [(0,6),(6,1),(7,1),(8,1),(9,1)]:=by kernel_rfl
theorem zl190:At prog 190=some [.d (.raw (.int .i64 0)),.d (.raw (.string ⟨#[]⟩)),.d (.raw (.int .i64 0)),.d (.raw (.string ⟨#[]⟩)),.d (.raw (.string ⟨#[]⟩)),.d (.raw (.string ⟨#[]⟩)),.d (.raw (.int .i64 0)),.d (.raw (.int .i64 0)),.d (.sl (some true) []),.d (.raw (.int .i64 0))]:=by kernel_rfl
theorem IE:A5 prog 192 4=true:=by kernel_rfl
theorem cE:CB prog 192 4=true:=by kernel_rfl
theorem FQ:AH prog 192 0=some (0,3,true):=by kernel_rfl
theorem LP:AH prog 192 1=some (3,1,false):=by kernel_rfl
theorem pl192:Au prog 192=some [(0,3),(3,1)]:=by kernel_rfl
theorem zl192:At prog 192=some [.d (.raw (.string ⟨#[]⟩)),.d (.raw (.int .i64 0)),.d (.raw (.string ⟨#[]⟩)),.d (.raw (.int .i64 0))]:=by kernel_rfl
theorem K0:A5 prog 193 3=true:=by kernel_rfl
theorem Q5:CB prog 193 3=true:=by kernel_rfl
theorem Ef:AH prog 193 0=some (0,1,false):=by kernel_rfl
theorem Ee:AH prog 193 1=some (1,1,false):=by kernel_rfl
theorem DT:AH prog 193 2=some (2,1,false):=by kernel_rfl
theorem ay:At prog 193=some [.d (.raw (.string ⟨#[]⟩)),.d (.raw (.string ⟨#[]⟩)),.d (.raw (.int .i64 0))]:=by kernel_rfl
theorem D8:SlTy prog 194 98 6 80:=Mq (by kernel_rfl)
theorem bv:SlTy prog 215 218 7 88:=Mq (by kernel_rfl)
theorem XR:A5 prog 218 7=true:=by kernel_rfl
theorem rw218:CB prog 218 7=true:=by kernel_rfl
theorem LO:AH prog 218 0=some (0,6,true):=by kernel_rfl
theorem YQ:AH prog 218 1=some (6,1,false):=by kernel_rfl
theorem pl218:Au prog 218=some [(0,6),(6,1)]:=by kernel_rfl
theorem ax:At prog 218=some [.d (.raw (.int .i64 0)),.d (.raw (.string ⟨#[]⟩)),.d (.raw (.int .i64 0)),.d (.raw (.string ⟨#[]⟩)),.d (.raw (.string ⟨#[]⟩)),.d (.raw (.string ⟨#[]⟩)),.d (.raw (.int .i64 0))]:=by kernel_rfl
theorem Tp:BW prog 226=true:=by kernel_rfl
theorem sz227:A5 prog 227 1=true:=by kernel_rfl
theorem Xe:BW prog 227=true:=by kernel_rfl
theorem bu:SlTy prog 227 233 8 112:=Mq (by kernel_rfl)
theorem LN:AH prog 229 0=some (0,1,false):=by kernel_rfl
theorem fi229_1:AH prog 229 1=some (1,1,false):=by kernel_rfl
theorem LM:AH prog 229 2=some (2,1,false):=by kernel_rfl
theorem pl229:Au prog 229=some [(0,1),(1,1),(2,1)]:=by kernel_rfl
theorem zl229:At prog 229=some [.d (.raw (.map none)),.d (.sl (some true) []),.d (.sl (some true) [])]:=by kernel_rfl
theorem XQ:A5 prog 233 8=true:=by kernel_rfl
theorem rw233:CB prog 233 8=true:=by kernel_rfl
theorem LL:AH prog 233 0=some (0,6,true):=by kernel_rfl
theorem fi233_1:AH prog 233 1=some (6,1,false):=by kernel_rfl
theorem YP:AH prog 233 2=some (7,1,false):=by kernel_rfl
theorem pl233:Au prog 233=some [(0,6),(6,1),(7,1)]:=by kernel_rfl
theorem aw:At prog 233=some [.d (.raw (.int .i64 0)),.d (.raw (.string ⟨#[]⟩)),.d (.raw (.int .i64 0)),.d (.raw (.string ⟨#[]⟩)),.d (.raw (.string ⟨#[]⟩)),.d (.raw (.string ⟨#[]⟩)),.d (.raw (.int .i64 0)),.d (.sl (some true) [])]:=by kernel_rfl
theorem KZ:A5 prog 245 9=true:=by kernel_rfl
theorem rw245:CB prog 245 9=true:=by kernel_rfl
theorem fi245_0:AH prog 245 0=some (0,1,false):=by kernel_rfl
theorem Tl:Au prog 245=some [(0,1),(1,1),(2,6),(8,1)]:=by kernel_rfl
theorem Jg:At prog 245=some [.d (.raw (.int .i64 0)),.d (.raw (.int .i64 0)),.d (.raw (.int .i64 0)),.d (.raw (.string ⟨#[]⟩)),.d (.raw (.int .i64 0)),.d (.raw (.string ⟨#[]⟩)),.d (.raw (.string ⟨#[]⟩)),.d (.raw (.string ⟨#[]⟩)),.d (.raw (.int .i64 0))]:=by kernel_rfl
theorem QX:A5 prog 254 2=true:=by kernel_rfl
theorem cD:CB prog 254 2=true:=by kernel_rfl
theorem Ht:AH prog 254 0=some (0,1,false):=by kernel_rfl
theorem SO:AH prog 254 1=some (1,1,false):=by kernel_rfl
theorem pl254:Au prog 254=some [(0,1),(1,1)]:=by kernel_rfl
theorem XE:At prog 254=some [.d (.raw (.pointer none)),.d (.raw (.int .i64 0))]:=by kernel_rfl
theorem sl273:SlTy prog 273 146 1 8:=Mq (by kernel_rfl)
theorem on283:BW prog 283=true:=by kernel_rfl
theorem TE:A5 prog 318 2=true:=by kernel_rfl
theorem Wy:AH prog 318 0=some (0,1,false):=by kernel_rfl
theorem FP:AH prog 318 1=some (1,1,false):=by kernel_rfl
theorem cg:Au prog 318=some [(0,1),(1,1)]:=by kernel_rfl
theorem au:At prog 318=some [.d (.raw (.int .i64 0)),.d (.raw (.int .i64 0))]:=by kernel_rfl
theorem TU:SlTy prog 319 318 2 16:=Mq (by kernel_rfl)
theorem Y9:AH prog 323 0=some (0,1,false):=by kernel_rfl
theorem fi323_1:AH prog 323 1=some (1,1,false):=by kernel_rfl
theorem pl323:Au prog 323=some [(0,1),(1,1)]:=by kernel_rfl
theorem zl323:At prog 323=some [.d (.sl (some true) []),.d (.raw .nilFunc)]:=by kernel_rfl
theorem mt127:Bo prog 127 64 3=true:=by kernel_rfl
theorem za3:DC prog 3=some (.d (.raw (.int .i64 0))):=by kernel_rfl
theorem IN:Bv prog 3 (λz:Int=> .raw (.int .i64 z)) (λz=> .int .i64 z):=Bv.int underlying3
theorem mt128:Bo prog 128 3 3=true:=by kernel_rfl
theorem CQ:Bo prog 129 64 2=true:=by kernel_rfl
theorem Pp:DC prog 2=some (.d (.raw (.int .i64 0))):=by kernel_rfl
theorem En:Bo prog 137 3 4=true:=by kernel_rfl
theorem Sv:DC prog 4=some (.d (.raw (.bool false))):=by kernel_rfl
theorem Ji:Bo prog 138 3 4=true:=by kernel_rfl
theorem Qr:Bo prog 155 64 4=true:=by kernel_rfl
theorem Xv:Bo prog 178 3 176=true:=by kernel_rfl
theorem XF:DC prog 176=some (.d (.raw (.pointer none))):=by kernel_rfl
theorem UG:Bo prog 226 3 55=true:=by kernel_rfl
theorem za55:DC prog 55=some (.d (.agg [.raw (.int .i64 0),.raw (.int .i64 0),.raw (.int .i64 0),.sl (some true) [],.sl (some true) [],.sl (some true) []])):=by kernel_rfl
theorem Xu:Bo prog 248 64 186=true:=by kernel_rfl
theorem bD:DC prog 186=some (.d (.raw (.pointer none))):=by kernel_rfl
theorem dU:Bo prog 310 9 2=true:=by kernel_rfl
theorem kt9:Bv prog 9 Aq Gr:=Bv.str underlying9
end Go.Proofs.YteifpcnphnhaoaaGreat
