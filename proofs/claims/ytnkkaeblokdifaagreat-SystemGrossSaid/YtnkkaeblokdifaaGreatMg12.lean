/- What the walk wants of the types of this program. -/
import Derived.Test.YtnkkaeblokdifaaGreatMg11
import Derived.Test.YtnkkaeblokdifaaGreatRows
namespace Go.Proofs.YtnkkaeblokdifaaGreat
open Go.RowKit
theorem BF:Tryz.prog.follows .mixedOrders=true:=by kernel_rfl
theorem sz2:A6 Tryz.prog 2 1=true:=by kernel_rfl
theorem BI:Az Tryz.prog 2=true:=by kernel_rfl
theorem Ep:A6 Tryz.prog 3 1=true:=by kernel_rfl
theorem Ab:Az Tryz.prog 3=true:=by kernel_rfl
theorem zl3:BU Tryz.prog 3=some [.d (.raw (.int .i64 0))]:=by kernel_rfl
theorem sz4:A6 Tryz.prog 4 1=true:=by kernel_rfl
theorem on4:Az Tryz.prog 4=true:=by kernel_rfl
theorem zl4:BU Tryz.prog 4=some [.d (.raw (.bool false))]:=by kernel_rfl
theorem As:Az Tryz.prog 9=true:=by kernel_rfl
theorem C8:Az Tryz.prog 22=true:=by kernel_rfl
theorem EZ:Az Tryz.prog 23=true:=by kernel_rfl
theorem In:Bu Tryz.prog 25 2=true:=by kernel_rfl
theorem DN:AK Tryz.prog 25 0=some (0,1,false):=by kernel_rfl
theorem G0:AK Tryz.prog 25 1=some (1,1,false):=by kernel_rfl
theorem sz28:A6 Tryz.prog 28 1=true:=by kernel_rfl
theorem HF:Az Tryz.prog 28=true:=by kernel_rfl
theorem Wj:SlTy Tryz.prog 28 74 7 88:=QJ (by kernel_rfl)
theorem sz29:A6 Tryz.prog 29 1=true:=by kernel_rfl
theorem Bh:Az Tryz.prog 29=true:=by kernel_rfl
theorem Lg:SlTy Tryz.prog 29 49 6 96:=QJ (by kernel_rfl)
theorem sz31:A6 Tryz.prog 31 2=true:=by kernel_rfl
theorem A4:Bu Tryz.prog 31 2=true:=by kernel_rfl
theorem Hr:AK Tryz.prog 31 0=some (0,1,false):=by kernel_rfl
theorem CP:AK Tryz.prog 31 1=some (1,1,false):=by kernel_rfl
theorem pl31:BG Tryz.prog 31=some [(0,1),(1,1)]:=by kernel_rfl
theorem SM:BU Tryz.prog 31=some [.d (.sl (some true) []),.d (.sl (some true) [])]:=by kernel_rfl
theorem sz33:A6 Tryz.prog 33 1=true:=by kernel_rfl
theorem BO:Az Tryz.prog 33=true:=by kernel_rfl
theorem C7:SlTy Tryz.prog 33 3 1 8:=QJ (by kernel_rfl)
theorem PX:Bu Tryz.prog 39 3=true:=by kernel_rfl
theorem VH:Bu Tryz.prog 41 6=true:=by kernel_rfl
theorem NF:AK Tryz.prog 41 0=some (0,1,false):=by kernel_rfl
theorem NE:AK Tryz.prog 41 1=some (1,3,true):=by kernel_rfl
theorem ND:AK Tryz.prog 41 2=some (4,1,false):=by kernel_rfl
theorem NC:AK Tryz.prog 41 3=some (5,1,false):=by kernel_rfl
theorem IX:A6 Tryz.prog 43 7=true:=by kernel_rfl
theorem Fn:AK Tryz.prog 43 0=some (0,6,true):=by kernel_rfl
theorem JR:AK Tryz.prog 43 1=some (6,1,false):=by kernel_rfl
theorem sl44:SlTy Tryz.prog 44 55 7 88:=QJ (by kernel_rfl)
theorem sz46:A6 Tryz.prog 46 1=true:=by kernel_rfl
theorem Fi:Az Tryz.prog 46=true:=by kernel_rfl
theorem PT:SlTy Tryz.prog 46 125 4 48:=QJ (by kernel_rfl)
theorem sz47:A6 Tryz.prog 47 1=true:=by kernel_rfl
theorem HE:Az Tryz.prog 47=true:=by kernel_rfl
theorem Q6:SlTy Tryz.prog 47 135 3 40:=QJ (by kernel_rfl)
theorem C6:A6 Tryz.prog 49 6=true:=by kernel_rfl
theorem Af:Bu Tryz.prog 49 6=true:=by kernel_rfl
theorem Bm:AK Tryz.prog 49 0=some (0,1,false):=by kernel_rfl
theorem Ll:AK Tryz.prog 49 1=some (1,1,false):=by kernel_rfl
theorem G1:AK Tryz.prog 49 2=some (2,1,false):=by kernel_rfl
theorem Dl:AK Tryz.prog 49 3=some (3,1,false):=by kernel_rfl
theorem FN:AK Tryz.prog 49 4=some (4,1,false):=by kernel_rfl
theorem El:AK Tryz.prog 49 5=some (5,1,false):=by kernel_rfl
theorem XP:BG Tryz.prog 49=some [(0,1),(1,1),(2,1),(3,1),(4,1),(5,1)]:=by kernel_rfl
theorem FG:BU Tryz.prog 49=some [.d (.raw (.int .i64 0)),.d (.raw (.int .i64 0)),.d (.raw (.int .i64 0)),.d (.sl (some true) []),.d (.sl (some true) []),.d (.sl (some true) [])]:=by kernel_rfl
theorem sz51:A6 Tryz.prog 51 3=true:=by kernel_rfl
theorem Gz:Bu Tryz.prog 51 3=true:=by kernel_rfl
theorem JS:AK Tryz.prog 51 0=some (0,1,false):=by kernel_rfl
theorem Hs:AK Tryz.prog 51 1=some (1,1,false):=by kernel_rfl
theorem Ht:AK Tryz.prog 51 2=some (2,1,false):=by kernel_rfl
theorem Qj:BG Tryz.prog 51=some [(0,1),(1,1),(2,1)]:=by kernel_rfl
theorem N8:BU Tryz.prog 51=some [.d (.raw (.string ⟨#[]⟩)),.d (.raw (.int .i64 0)),.d (.raw (.string ⟨#[]⟩))]:=by kernel_rfl
theorem sz53:A6 Tryz.prog 53 6=true:=by kernel_rfl
theorem Ah:Bu Tryz.prog 53 6=true:=by kernel_rfl
theorem Lm:AK Tryz.prog 53 0=some (0,1,false):=by kernel_rfl
theorem Bs:AK Tryz.prog 53 1=some (1,3,true):=by kernel_rfl
theorem FO:AK Tryz.prog 53 2=some (4,1,false):=by kernel_rfl
theorem G2:AK Tryz.prog 53 3=some (5,1,false):=by kernel_rfl
theorem Jo:BG Tryz.prog 53=some [(0,1),(1,3),(4,1),(5,1)]:=by kernel_rfl
theorem Gy:BU Tryz.prog 53=some [.d (.raw (.int .i64 0)),.d (.raw (.string ⟨#[]⟩)),.d (.raw (.int .i64 0)),.d (.raw (.string ⟨#[]⟩)),.d (.raw (.string ⟨#[]⟩)),.d (.raw (.string ⟨#[]⟩))]:=by kernel_rfl
theorem Eo:A6 Tryz.prog 55 7=true:=by kernel_rfl
theorem rw55:Bu Tryz.prog 55 7=true:=by kernel_rfl
theorem Oy:AK Tryz.prog 55 0=some (0,6,true):=by kernel_rfl
theorem EW:AK Tryz.prog 55 1=some (6,1,false):=by kernel_rfl
theorem pl55:BG Tryz.prog 55=some [(0,6),(6,1)]:=by kernel_rfl
theorem zl55:BU Tryz.prog 55=some [.d (.raw (.int .i64 0)),.d (.raw (.string ⟨#[]⟩)),.d (.raw (.int .i64 0)),.d (.raw (.string ⟨#[]⟩)),.d (.raw (.string ⟨#[]⟩)),.d (.raw (.string ⟨#[]⟩)),.d (.raw (.int .i64 0))]:=by kernel_rfl
theorem HD:Az Tryz.prog 69=true:=by kernel_rfl
theorem Lj:Az Tryz.prog 70=true:=by kernel_rfl
theorem Nb:A6 Tryz.prog 72 6=true:=by kernel_rfl
theorem VG:Bu Tryz.prog 72 6=true:=by kernel_rfl
theorem Fm:AK Tryz.prog 72 0=some (0,1,false):=by kernel_rfl
theorem Fl:AK Tryz.prog 72 1=some (1,1,false):=by kernel_rfl
theorem Fk:AK Tryz.prog 72 2=some (2,1,false):=by kernel_rfl
theorem JT:AK Tryz.prog 72 3=some (3,1,false):=by kernel_rfl
theorem Oz:AK Tryz.prog 72 4=some (4,1,false):=by kernel_rfl
theorem DE:AK Tryz.prog 72 5=some (5,1,false):=by kernel_rfl
theorem PN:A6 Tryz.prog 74 7=true:=by kernel_rfl
theorem PW:Bu Tryz.prog 74 7=true:=by kernel_rfl
theorem Dm:AK Tryz.prog 74 0=some (0,6,true):=by kernel_rfl
theorem PA:AK Tryz.prog 74 1=some (6,1,false):=by kernel_rfl
theorem VQ:BG Tryz.prog 74=some [(0,6),(6,1)]:=by kernel_rfl
theorem PI:BU Tryz.prog 74=some [.d (.raw (.int .i64 0)),.d (.raw (.string ⟨#[]⟩)),.d (.raw (.int .i64 0)),.d (.raw (.string ⟨#[]⟩)),.d (.raw (.string ⟨#[]⟩)),.d (.raw (.string ⟨#[]⟩)),.d (.raw (.int .i64 0))]:=by kernel_rfl
theorem sz76:A6 Tryz.prog 76 1=true:=by kernel_rfl
theorem Fh:Az Tryz.prog 76=true:=by kernel_rfl
theorem zl76:BU Tryz.prog 76=some [.d (.raw (.pointer none))]:=by kernel_rfl
theorem sz79:A6 Tryz.prog 79 1=true:=by kernel_rfl
theorem on79:Az Tryz.prog 79=true:=by kernel_rfl
theorem on83:Az Tryz.prog 83=true:=by kernel_rfl
theorem sl85:SlTy Tryz.prog 85 148 9 104:=QJ (by kernel_rfl)
theorem sz88:A6 Tryz.prog 88 1=true:=by kernel_rfl
theorem on88:Az Tryz.prog 88=true:=by kernel_rfl
theorem sz94:A6 Tryz.prog 94 1=true:=by kernel_rfl
theorem Li:Az Tryz.prog 94=true:=by kernel_rfl
theorem zl94:BU Tryz.prog 94=some [.d (.raw (.pointer none))]:=by kernel_rfl
theorem sz98:A6 Tryz.prog 98 1=true:=by kernel_rfl
theorem Gb:Az Tryz.prog 98=true:=by kernel_rfl
theorem sl98:SlTy Tryz.prog 98 99 1 8:=QJ (by kernel_rfl)
theorem PM:A6 Tryz.prog 99 1=true:=by kernel_rfl
theorem St:Az Tryz.prog 99=true:=by kernel_rfl
theorem sz100:A6 Tryz.prog 100 1=true:=by kernel_rfl
theorem UM:Az Tryz.prog 100=true:=by kernel_rfl
theorem sl100:SlTy Tryz.prog 100 109 1 8:=QJ (by kernel_rfl)
theorem UL:Az Tryz.prog 101=true:=by kernel_rfl
theorem GT:AK Tryz.prog 103 0=some (0,1,false):=by kernel_rfl
theorem JU:AK Tryz.prog 103 1=some (1,1,false):=by kernel_rfl
theorem JV:AK Tryz.prog 103 2=some (2,1,false):=by kernel_rfl
theorem pl103:BG Tryz.prog 103=some [(0,1),(1,1),(2,1)]:=by kernel_rfl
theorem zl103:BU Tryz.prog 103=some [.d (.sl (some true) []),.d (.sl (some true) []),.d (.raw (.map none))]:=by kernel_rfl
theorem sz104:A6 Tryz.prog 104 1=true:=by kernel_rfl
theorem UK:Az Tryz.prog 104=true:=by kernel_rfl
theorem sl104:SlTy Tryz.prog 104 111 2 16:=QJ (by kernel_rfl)
theorem sz105:A6 Tryz.prog 105 1=true:=by kernel_rfl
theorem UJ:Az Tryz.prog 105=true:=by kernel_rfl
theorem sl105:SlTy Tryz.prog 105 167 2 16:=QJ (by kernel_rfl)
theorem Dn:AK Tryz.prog 107 0=some (0,6,true):=by kernel_rfl
theorem Ln:AK Tryz.prog 107 1=some (6,1,false):=by kernel_rfl
theorem JW:AK Tryz.prog 107 2=some (7,1,false):=by kernel_rfl
theorem FJ:AK Tryz.prog 107 3=some (8,1,false):=by kernel_rfl
theorem pl107:BG Tryz.prog 107=some [(0,6),(6,1),(7,1),(8,1)]:=by kernel_rfl
theorem zl107:BU Tryz.prog 107=some [.d (.raw (.int .i64 0)),.d (.raw (.int .i64 0)),.d (.raw (.int .i64 0)),.d (.sl (some true) []),.d (.sl (some true) []),.d (.sl (some true) []),.d (.sl (some true) []),.d (.sl (some true) []),.d (.raw (.bool false))]:=by kernel_rfl
theorem W3:A6 Tryz.prog 109 1=true:=by kernel_rfl
theorem BE:Az Tryz.prog 109=true:=by kernel_rfl
theorem zl109:BU Tryz.prog 109=some [.d (.raw (.pointer none))]:=by kernel_rfl
theorem QW:A6 Tryz.prog 111 2=true:=by kernel_rfl
theorem Ws:Bu Tryz.prog 111 2=true:=by kernel_rfl
theorem Lo:AK Tryz.prog 111 0=some (0,1,false):=by kernel_rfl
theorem Lp:AK Tryz.prog 111 1=some (1,1,false):=by kernel_rfl
theorem pl111:BG Tryz.prog 111=some [(0,1),(1,1)]:=by kernel_rfl
theorem WU:BU Tryz.prog 111=some [.d (.raw (.pointer none)),.d (.raw (.int .i64 0))]:=by kernel_rfl
theorem GU:AK Tryz.prog 113 0=some (0,6,true):=by kernel_rfl
theorem PB:AK Tryz.prog 113 1=some (6,1,false):=by kernel_rfl
theorem Hu:AK Tryz.prog 113 2=some (7,1,false):=by kernel_rfl
theorem EU:AK Tryz.prog 113 3=some (8,1,false):=by kernel_rfl
theorem GV:AK Tryz.prog 113 4=some (9,1,false):=by kernel_rfl
theorem pl113:BG Tryz.prog 113=some [(0,6),(6,1),(7,1),(8,1),(9,1)]:=by kernel_rfl
theorem zl113:BU Tryz.prog 113=some [.d (.raw (.int .i64 0)),.d (.raw (.string ⟨#[]⟩)),.d (.raw (.int .i64 0)),.d (.raw (.string ⟨#[]⟩)),.d (.raw (.string ⟨#[]⟩)),.d (.raw (.string ⟨#[]⟩)),.d (.raw (.int .i64 0)),.d (.raw (.int .i64 0)),.d (.sl (some true) []),.d (.raw (.int .i64 0))]:=by kernel_rfl
theorem J8:A6 Tryz.prog 125 4=true:=by kernel_rfl
theorem Jj:Bu Tryz.prog 125 4=true:=by kernel_rfl
theorem JX:AK Tryz.prog 125 0=some (0,3,true):=by kernel_rfl
theorem PD:AK Tryz.prog 125 1=some (3,1,false):=by kernel_rfl
theorem OT:BG Tryz.prog 125=some [(0,3),(3,1)]:=by kernel_rfl
theorem J1:BU Tryz.prog 125=some [.d (.raw (.string ⟨#[]⟩)),.d (.raw (.int .i64 0)),.d (.raw (.string ⟨#[]⟩)),.d (.raw (.int .i64 0))]:=by kernel_rfl
theorem LG:A6 Tryz.prog 133 4=true:=by kernel_rfl
theorem Dy:AK Tryz.prog 133 0=some (0,3,true):=by kernel_rfl
theorem Dx:AK Tryz.prog 133 1=some (3,1,false):=by kernel_rfl
theorem OA:A6 Tryz.prog 135 3=true:=by kernel_rfl
theorem OJ:Bu Tryz.prog 135 3=true:=by kernel_rfl
theorem GW:AK Tryz.prog 135 0=some (0,1,false):=by kernel_rfl
theorem GX:AK Tryz.prog 135 1=some (1,1,false):=by kernel_rfl
theorem FK:AK Tryz.prog 135 2=some (2,1,false):=by kernel_rfl
theorem pl135:BG Tryz.prog 135=some [(0,1),(1,1),(2,1)]:=by kernel_rfl
theorem WT:BU Tryz.prog 135=some [.d (.raw (.string ⟨#[]⟩)),.d (.raw (.string ⟨#[]⟩)),.d (.raw (.int .i64 0))]:=by kernel_rfl
theorem Tf:A6 Tryz.prog 136 3=true:=by kernel_rfl
theorem OI:Bu Tryz.prog 136 3=true:=by kernel_rfl
theorem sz141:A6 Tryz.prog 141 1=true:=by kernel_rfl
theorem OY:Az Tryz.prog 141=true:=by kernel_rfl
theorem zl141:BU Tryz.prog 141=some [.d (.raw .nilFunc)]:=by kernel_rfl
theorem sz142:A6 Tryz.prog 142 1=true:=by kernel_rfl
theorem OX:Az Tryz.prog 142=true:=by kernel_rfl
theorem Tt:SlTy Tryz.prog 142 79 1 4:=QJ (by kernel_rfl)
theorem sz143:A6 Tryz.prog 143 1=true:=by kernel_rfl
theorem UI:Az Tryz.prog 143=true:=by kernel_rfl
theorem Ts:SlTy Tryz.prog 143 144 1 24:=QJ (by kernel_rfl)
theorem W2:A6 Tryz.prog 144 1=true:=by kernel_rfl
theorem Md:Az Tryz.prog 144=true:=by kernel_rfl
theorem LK:SlTy Tryz.prog 144 2 1 8:=QJ (by kernel_rfl)
theorem JY:AK Tryz.prog 146 0=some (0,1,false):=by kernel_rfl
theorem T5:AK Tryz.prog 146 1=some (1,1,false):=by kernel_rfl
theorem Lq:AK Tryz.prog 146 2=some (2,1,false):=by kernel_rfl
theorem PE:AK Tryz.prog 146 3=some (3,1,false):=by kernel_rfl
theorem pl146:BG Tryz.prog 146=some [(0,1),(1,1),(2,1),(3,1)]:=by kernel_rfl
theorem zl146:BU Tryz.prog 146=some [.d (.sl (some true) []),.d (.sl (some true) []),.d (.sl (some true) []),.d (.sl (some true) [])]:=by kernel_rfl
theorem J7:A6 Tryz.prog 148 9=true:=by kernel_rfl
theorem OH:Bu Tryz.prog 148 9=true:=by kernel_rfl
theorem Dv:AK Tryz.prog 148 0=some (0,1,false):=by kernel_rfl
theorem Qk:BG Tryz.prog 148=some [(0,1),(1,1),(2,6),(8,1)]:=by kernel_rfl
theorem I6:BU Tryz.prog 148=some [.d (.raw (.int .i64 0)),.d (.raw (.int .i64 0)),.d (.raw (.int .i64 0)),.d (.raw (.string ⟨#[]⟩)),.d (.raw (.int .i64 0)),.d (.raw (.string ⟨#[]⟩)),.d (.raw (.string ⟨#[]⟩)),.d (.raw (.string ⟨#[]⟩)),.d (.raw (.int .i64 0))]:=by kernel_rfl
theorem sl152:SlTy Tryz.prog 152 88 1 8:=QJ (by kernel_rfl)
theorem Nz:A6 Tryz.prog 167 2=true:=by kernel_rfl
theorem Wr:Bu Tryz.prog 167 2=true:=by kernel_rfl
theorem Cg:AK Tryz.prog 167 0=some (0,1,false):=by kernel_rfl
theorem JZ:AK Tryz.prog 167 1=some (1,1,false):=by kernel_rfl
theorem pl167:BG Tryz.prog 167=some [(0,1),(1,1)]:=by kernel_rfl
theorem QN:BU Tryz.prog 167=some [.d (.raw (.pointer none)),.d (.raw (.int .i64 0))]:=by kernel_rfl
theorem sz173:A6 Tryz.prog 173 1=true:=by kernel_rfl
theorem Js:Az Tryz.prog 173=true:=by kernel_rfl
theorem zl173:BU Tryz.prog 173=some [.d (.raw (.map none))]:=by kernel_rfl
theorem Tr:SlTy Tryz.prog 201 205 7 88:=QJ (by kernel_rfl)
theorem Te:A6 Tryz.prog 205 7=true:=by kernel_rfl
theorem OG:Bu Tryz.prog 205 7=true:=by kernel_rfl
theorem XQ:BG Tryz.prog 205=some [(0,6),(6,1)]:=by kernel_rfl
theorem WS:BU Tryz.prog 205=some [.d (.raw (.int .i64 0)),.d (.raw (.string ⟨#[]⟩)),.d (.raw (.int .i64 0)),.d (.raw (.string ⟨#[]⟩)),.d (.raw (.string ⟨#[]⟩)),.d (.raw (.string ⟨#[]⟩)),.d (.raw (.int .i64 0))]:=by kernel_rfl
theorem C4:Az Tryz.prog 212=true:=by kernel_rfl
theorem sz213:A6 Tryz.prog 213 1=true:=by kernel_rfl
theorem Ev:Az Tryz.prog 213=true:=by kernel_rfl
theorem Tq:SlTy Tryz.prog 213 218 8 112:=QJ (by kernel_rfl)
theorem FL:AK Tryz.prog 215 0=some (0,1,false):=by kernel_rfl
theorem Du:AK Tryz.prog 215 1=some (1,1,false):=by kernel_rfl
theorem Hv:AK Tryz.prog 215 2=some (2,1,false):=by kernel_rfl
theorem pl215:BG Tryz.prog 215=some [(0,1),(1,1),(2,1)]:=by kernel_rfl
theorem zl215:BU Tryz.prog 215=some [.d (.raw (.map none)),.d (.sl (some true) []),.d (.sl (some true) [])]:=by kernel_rfl
theorem J6:A6 Tryz.prog 218 8=true:=by kernel_rfl
theorem Ji:Bu Tryz.prog 218 8=true:=by kernel_rfl
theorem GY:AK Tryz.prog 218 0=some (0,6,true):=by kernel_rfl
theorem T6:AK Tryz.prog 218 1=some (6,1,false):=by kernel_rfl
theorem Dt:AK Tryz.prog 218 2=some (7,1,false):=by kernel_rfl
theorem pl218:BG Tryz.prog 218=some [(0,6),(6,1),(7,1)]:=by kernel_rfl
theorem QM:BU Tryz.prog 218=some [.d (.raw (.int .i64 0)),.d (.raw (.string ⟨#[]⟩)),.d (.raw (.int .i64 0)),.d (.raw (.string ⟨#[]⟩)),.d (.raw (.string ⟨#[]⟩)),.d (.raw (.string ⟨#[]⟩)),.d (.raw (.int .i64 0)),.d (.sl (some true) [])]:=by kernel_rfl
theorem I9:SlTy Tryz.prog 225 229 8 96:=QJ (by kernel_rfl)
theorem W1:A6 Tryz.prog 229 8=true:=by kernel_rfl
theorem Wq:Bu Tryz.prog 229 8=true:=by kernel_rfl
theorem Ds:AK Tryz.prog 229 1=some (1,1,false):=by kernel_rfl
theorem pl229:BG Tryz.prog 229=some [(0,1),(1,1),(2,6)]:=by kernel_rfl
theorem WR:BU Tryz.prog 229=some [.d (.raw (.int .i64 0)),.d (.raw (.int .i64 0)),.d (.raw (.int .i64 0)),.d (.raw (.string ⟨#[]⟩)),.d (.raw (.int .i64 0)),.d (.raw (.string ⟨#[]⟩)),.d (.raw (.string ⟨#[]⟩)),.d (.raw (.string ⟨#[]⟩))]:=by kernel_rfl
theorem HH:CY Tryz.prog 89 53 2=true:=by kernel_rfl
theorem QO:Em Tryz.prog 2=some (.d (.raw (.int .i64 0))):=by kernel_rfl
theorem UU:CY Tryz.prog 101 3 99=true:=by kernel_rfl
theorem KB:Bo Tryz.prog 3 (fun z:Int=> .raw (.int .i64 z)) (fun z=> .int .i64 z):=Bo.int Tryz.underlying3
theorem za99:Em Tryz.prog 99=some (.d (.raw (.pointer none))):=by kernel_rfl
theorem RD:CY Tryz.prog 159 53 109=true:=by kernel_rfl
theorem WV:Em Tryz.prog 109=some (.d (.raw (.pointer none))):=by kernel_rfl
theorem Mj:CY Tryz.prog 173 3 4=true:=by kernel_rfl
theorem za4:Em Tryz.prog 4=some (.d (.raw (.bool false))):=by kernel_rfl
theorem LT:CY Tryz.prog 212 3 49=true:=by kernel_rfl
theorem Um:Em Tryz.prog 49=some (.d (.agg [.raw (.int .i64 0),.raw (.int .i64 0),.raw (.int .i64 0),.sl (some true) [],.sl (some true) [],.sl (some true) []])):=by kernel_rfl
theorem Ib:CY Tryz.prog 227 3 4=true:=by kernel_rfl
theorem UT:CY Tryz.prog 236 9 2=true:=by kernel_rfl
theorem kt9:Bo Tryz.prog 9 Am IZ:=Bo.str Tryz.underlying9
theorem Xm:CY Tryz.prog 255 53 4=true:=by kernel_rfl
end Go.Proofs.YtnkkaeblokdifaaGreat
