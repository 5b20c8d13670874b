/- What the walk wants of the types of this program. -/
import Derived.Test.YtnkkaeblokdifaaGreatMg11
import Derived.Test.YtnkkaeblokdifaaGreatRows
namespace Go.Proofs.YtnkkaeblokdifaaGreat
open Go.RowKit
theorem BC:Tryz.prog.follows .mixedOrders=true:=by kernel_rfl
theorem sz2:A5 Tryz.prog 2 1=true:=by kernel_rfl
theorem Be:BM Tryz.prog 2=true:=by kernel_rfl
theorem Dh:A5 Tryz.prog 3 1=true:=by kernel_rfl
theorem A9:BM Tryz.prog 3=true:=by kernel_rfl
theorem zl3:BW Tryz.prog 3=some [.d (.raw (.int .i64 0))]:=by kernel_rfl
theorem sz4:A5 Tryz.prog 4 1=true:=by kernel_rfl
theorem on4:BM Tryz.prog 4=true:=by kernel_rfl
theorem zl4:BW Tryz.prog 4=some [.d (.raw (.bool false))]:=by kernel_rfl
theorem Ay:BM Tryz.prog 9=true:=by kernel_rfl
theorem HO:BM Tryz.prog 22=true:=by kernel_rfl
theorem Ek:BM Tryz.prog 23=true:=by kernel_rfl
theorem Fh:Bz Tryz.prog 25 2=true:=by kernel_rfl
theorem J0:AK Tryz.prog 25 0=some (0,1,false):=by kernel_rfl
theorem G4:AK Tryz.prog 25 1=some (1,1,false):=by kernel_rfl
theorem sz28:A5 Tryz.prog 28 1=true:=by kernel_rfl
theorem Fn:BM Tryz.prog 28=true:=by kernel_rfl
theorem Pa:SlTy Tryz.prog 28 74 7 88:=Q4 (by kernel_rfl)
theorem sz29:A5 Tryz.prog 29 1=true:=by kernel_rfl
theorem Bf:BM Tryz.prog 29=true:=by kernel_rfl
theorem I5:SlTy Tryz.prog 29 49 6 96:=Q4 (by kernel_rfl)
theorem M0:A5 Tryz.prog 31 2=true:=by kernel_rfl
theorem AW:Bz Tryz.prog 31 2=true:=by kernel_rfl
theorem G5:AK Tryz.prog 31 0=some (0,1,false):=by kernel_rfl
theorem Bw:AK Tryz.prog 31 1=some (1,1,false):=by kernel_rfl
theorem X1:BN Tryz.prog 31=some [(0,1),(1,1)]:=by kernel_rfl
theorem HS:BW Tryz.prog 31=some [.d (.sl (some true) []),.d (.sl (some true) [])]:=by kernel_rfl
theorem sz33:A5 Tryz.prog 33 1=true:=by kernel_rfl
theorem Aq:BM Tryz.prog 33=true:=by kernel_rfl
theorem DA:SlTy Tryz.prog 33 3 1 8:=Q4 (by kernel_rfl)
theorem Pb:Bz Tryz.prog 39 3=true:=by kernel_rfl
theorem VT:Bz Tryz.prog 41 6=true:=by kernel_rfl
theorem NX:AK Tryz.prog 41 0=some (0,1,false):=by kernel_rfl
theorem NW:AK Tryz.prog 41 1=some (1,3,true):=by kernel_rfl
theorem NV:AK Tryz.prog 41 2=some (4,1,false):=by kernel_rfl
theorem NU:AK Tryz.prog 41 3=some (5,1,false):=by kernel_rfl
theorem Qf:A5 Tryz.prog 43 7=true:=by kernel_rfl
theorem Ft:AK Tryz.prog 43 0=some (0,6,true):=by kernel_rfl
theorem Fs:AK Tryz.prog 43 1=some (6,1,false):=by kernel_rfl
theorem sl44:SlTy Tryz.prog 44 55 7 88:=Q4 (by kernel_rfl)
theorem sz46:A5 Tryz.prog 46 1=true:=by kernel_rfl
theorem Ej:BM Tryz.prog 46=true:=by kernel_rfl
theorem P9:SlTy Tryz.prog 46 125 4 48:=Q4 (by kernel_rfl)
theorem sz47:A5 Tryz.prog 47 1=true:=by kernel_rfl
theorem Fm:BM Tryz.prog 47=true:=by kernel_rfl
theorem Qo:SlTy Tryz.prog 47 135 3 40:=Q4 (by kernel_rfl)
theorem Br:A5 Tryz.prog 49 6=true:=by kernel_rfl
theorem A7:Bz Tryz.prog 49 6=true:=by kernel_rfl
theorem B4:AK Tryz.prog 49 0=some (0,1,false):=by kernel_rfl
theorem Lx:AK Tryz.prog 49 1=some (1,1,false):=by kernel_rfl
theorem G6:AK Tryz.prog 49 2=some (2,1,false):=by kernel_rfl
theorem C1:AK Tryz.prog 49 3=some (3,1,false):=by kernel_rfl
theorem DX:AK Tryz.prog 49 4=some (4,1,false):=by kernel_rfl
theorem Ct:AK Tryz.prog 49 5=some (5,1,false):=by kernel_rfl
theorem X0:BN Tryz.prog 49=some [(0,1),(1,1),(2,1),(3,1),(4,1),(5,1)]:=by kernel_rfl
theorem Da:BW Tryz.prog 49=some [.d (.raw (.int .i64 0)),.d (.raw (.int .i64 0)),.d (.raw (.int .i64 0)),.d (.sl (some true) []),.d (.sl (some true) []),.d (.sl (some true) [])]:=by kernel_rfl
theorem sz51:A5 Tryz.prog 51 3=true:=by kernel_rfl
theorem HJ:Bz Tryz.prog 51 3=true:=by kernel_rfl
theorem J1:AK Tryz.prog 51 0=some (0,1,false):=by kernel_rfl
theorem Hz:AK Tryz.prog 51 1=some (1,1,false):=by kernel_rfl
theorem IE:AK Tryz.prog 51 2=some (2,1,false):=by kernel_rfl
theorem RA:BN Tryz.prog 51=some [(0,1),(1,1),(2,1)]:=by kernel_rfl
theorem Nn:BW Tryz.prog 51=some [.d (.raw (.string ⟨#[]⟩)),.d (.raw (.int .i64 0)),.d (.raw (.string ⟨#[]⟩))]:=by kernel_rfl
theorem Wg:A5 Tryz.prog 53 6=true:=by kernel_rfl
theorem Ab:Bz Tryz.prog 53 6=true:=by kernel_rfl
theorem Ly:AK Tryz.prog 53 0=some (0,1,false):=by kernel_rfl
theorem Bx:AK Tryz.prog 53 1=some (1,3,true):=by kernel_rfl
theorem FX:AK Tryz.prog 53 2=some (4,1,false):=by kernel_rfl
theorem G7:AK Tryz.prog 53 3=some (5,1,false):=by kernel_rfl
theorem Jy:BN Tryz.prog 53=some [(0,1),(1,3),(4,1),(5,1)]:=by kernel_rfl
theorem Gf:BW Tryz.prog 53=some [.d (.raw (.int .i64 0)),.d (.raw (.string ⟨#[]⟩)),.d (.raw (.int .i64 0)),.d (.raw (.string ⟨#[]⟩)),.d (.raw (.string ⟨#[]⟩)),.d (.raw (.string ⟨#[]⟩))]:=by kernel_rfl
theorem Im:A5 Tryz.prog 55 7=true:=by kernel_rfl
theorem rw55:Bz Tryz.prog 55 7=true:=by kernel_rfl
theorem PR:AK Tryz.prog 55 0=some (0,6,true):=by kernel_rfl
theorem J2:AK Tryz.prog 55 1=some (6,1,false):=by kernel_rfl
theorem pl55:BN Tryz.prog 55=some [(0,6),(6,1)]:=by kernel_rfl
theorem zl55:BW Tryz.prog 55=some [.d (.raw (.int .i64 0)),.d (.raw (.string ⟨#[]⟩)),.d (.raw (.int .i64 0)),.d (.raw (.string ⟨#[]⟩)),.d (.raw (.string ⟨#[]⟩)),.d (.raw (.string ⟨#[]⟩)),.d (.raw (.int .i64 0))]:=by kernel_rfl
theorem HL:BM Tryz.prog 69=true:=by kernel_rfl
theorem Lu:BM Tryz.prog 70=true:=by kernel_rfl
theorem Nq:A5 Tryz.prog 72 6=true:=by kernel_rfl
theorem VS:Bz Tryz.prog 72 6=true:=by kernel_rfl
theorem Fq:AK Tryz.prog 72 0=some (0,1,false):=by kernel_rfl
theorem Fp:AK Tryz.prog 72 1=some (1,1,false):=by kernel_rfl
theorem Fo:AK Tryz.prog 72 2=some (2,1,false):=by kernel_rfl
theorem J3:AK Tryz.prog 72 3=some (3,1,false):=by kernel_rfl
theorem PS:AK Tryz.prog 72 4=some (4,1,false):=by kernel_rfl
theorem DJ:AK Tryz.prog 72 5=some (5,1,false):=by kernel_rfl
theorem Jf:A5 Tryz.prog 74 7=true:=by kernel_rfl
theorem Is:Bz Tryz.prog 74 7=true:=by kernel_rfl
theorem C3:AK Tryz.prog 74 0=some (0,6,true):=by kernel_rfl
theorem IF:AK Tryz.prog 74 1=some (6,1,false):=by kernel_rfl
theorem Qz:BN Tryz.prog 74=some [(0,6),(6,1)]:=by kernel_rfl
theorem Lp:BW Tryz.prog 74=some [.d (.raw (.int .i64 0)),.d (.raw (.string ⟨#[]⟩)),.d (.raw (.int .i64 0)),.d (.raw (.string ⟨#[]⟩)),.d (.raw (.string ⟨#[]⟩)),.d (.raw (.string ⟨#[]⟩)),.d (.raw (.int .i64 0))]:=by kernel_rfl
theorem sz76:A5 Tryz.prog 76 1=true:=by kernel_rfl
theorem Fl:BM Tryz.prog 76=true:=by kernel_rfl
theorem zl76:BW Tryz.prog 76=some [.d (.raw (.pointer none))]:=by kernel_rfl
theorem sz79:A5 Tryz.prog 79 1=true:=by kernel_rfl
theorem on79:BM Tryz.prog 79=true:=by kernel_rfl
theorem on83:BM Tryz.prog 83=true:=by kernel_rfl
theorem sl85:SlTy Tryz.prog 85 148 9 104:=Q4 (by kernel_rfl)
theorem sz88:A5 Tryz.prog 88 1=true:=by kernel_rfl
theorem on88:BM Tryz.prog 88=true:=by kernel_rfl
theorem sz98:A5 Tryz.prog 98 1=true:=by kernel_rfl
theorem I7:BM Tryz.prog 98=true:=by kernel_rfl
theorem sl98:SlTy Tryz.prog 98 99 1 8:=Q4 (by kernel_rfl)
theorem Wf:A5 Tryz.prog 99 1=true:=by kernel_rfl
theorem on99:BM Tryz.prog 99=true:=by kernel_rfl
theorem sz100:A5 Tryz.prog 100 1=true:=by kernel_rfl
theorem UW:BM Tryz.prog 100=true:=by kernel_rfl
theorem sl100:SlTy Tryz.prog 100 109 1 8:=Q4 (by kernel_rfl)
theorem Xf:BM Tryz.prog 101=true:=by kernel_rfl
theorem J6:AK Tryz.prog 103 0=some (0,1,false):=by kernel_rfl
theorem J7:AK Tryz.prog 103 1=some (1,1,false):=by kernel_rfl
theorem Lz:AK Tryz.prog 103 2=some (2,1,false):=by kernel_rfl
theorem pl103:BN Tryz.prog 103=some [(0,1),(1,1),(2,1)]:=by kernel_rfl
theorem zl103:BW Tryz.prog 103=some [.d (.sl (some true) []),.d (.sl (some true) []),.d (.raw (.map none))]:=by kernel_rfl
theorem sz104:A5 Tryz.prog 104 1=true:=by kernel_rfl
theorem on104:BM Tryz.prog 104=true:=by kernel_rfl
theorem sl104:SlTy Tryz.prog 104 111 2 16:=Q4 (by kernel_rfl)
theorem sz105:A5 Tryz.prog 105 1=true:=by kernel_rfl
theorem Xe:BM Tryz.prog 105=true:=by kernel_rfl
theorem sl105:SlTy Tryz.prog 105 167 2 16:=Q4 (by kernel_rfl)
theorem FY:AK Tryz.prog 107 0=some (0,6,true):=by kernel_rfl
theorem Tf:AK Tryz.prog 107 1=some (6,1,false):=by kernel_rfl
theorem MA:AK Tryz.prog 107 2=some (7,1,false):=by kernel_rfl
theorem MB:AK Tryz.prog 107 3=some (8,1,false):=by kernel_rfl
theorem pl107:BN Tryz.prog 107=some [(0,6),(6,1),(7,1),(8,1)]:=by kernel_rfl
theorem zl107:BW Tryz.prog 107=some [.d (.raw (.int .i64 0)),.d (.raw (.int .i64 0)),.d (.raw (.int .i64 0)),.d (.sl (some true) []),.d (.sl (some true) []),.d (.sl (some true) []),.d (.sl (some true) []),.d (.sl (some true) []),.d (.raw (.bool false))]:=by kernel_rfl
theorem Wj:A5 Tryz.prog 109 1=true:=by kernel_rfl
theorem B8:BM Tryz.prog 109=true:=by kernel_rfl
theorem zl109:BW Tryz.prog 109=some [.d (.raw (.pointer none))]:=by kernel_rfl
theorem sz111:A5 Tryz.prog 111 2=true:=by kernel_rfl
theorem rw111:Bz Tryz.prog 111 2=true:=by kernel_rfl
theorem EN:AK Tryz.prog 111 0=some (0,1,false):=by kernel_rfl
theorem EM:AK Tryz.prog 111 1=some (1,1,false):=by kernel_rfl
theorem pl111:BN Tryz.prog 111=some [(0,1),(1,1)]:=by kernel_rfl
theorem zl111:BW Tryz.prog 111=some [.d (.raw (.pointer none)),.d (.raw (.int .i64 0))]:=by kernel_rfl
theorem G9:AK Tryz.prog 113 0=some (0,6,true):=by kernel_rfl
theorem KR:AK Tryz.prog 113 1=some (6,1,false):=by kernel_rfl
theorem IA:AK Tryz.prog 113 2=some (7,1,false):=by kernel_rfl
theorem Ga:AK Tryz.prog 113 3=some (8,1,false):=by kernel_rfl
theorem Gb:AK Tryz.prog 113 4=some (9,1,false):=by kernel_rfl
theorem pl113:BN Tryz.prog 113=some [(0,6),(6,1),(7,1),(8,1),(9,1)]:=by kernel_rfl
theorem zl113:BW Tryz.prog 113=some [.d (.raw (.int .i64 0)),.d (.raw (.string ⟨#[]⟩)),.d (.raw (.int .i64 0)),.d (.raw (.string ⟨#[]⟩)),.d (.raw (.string ⟨#[]⟩)),.d (.raw (.string ⟨#[]⟩)),.d (.raw (.int .i64 0)),.d (.raw (.int .i64 0)),.d (.sl (some true) []),.d (.raw (.int .i64 0))]:=by kernel_rfl
theorem Ji:A5 Tryz.prog 125 4=true:=by kernel_rfl
theorem Jt:Bz Tryz.prog 125 4=true:=by kernel_rfl
theorem J8:AK Tryz.prog 125 0=some (0,3,true):=by kernel_rfl
theorem PT:AK Tryz.prog 125 1=some (3,1,false):=by kernel_rfl
theorem O6:BN Tryz.prog 125=some [(0,3),(3,1)]:=by kernel_rfl
theorem Ja:BW Tryz.prog 125=some [.d (.raw (.string ⟨#[]⟩)),.d (.raw (.int .i64 0)),.d (.raw (.string ⟨#[]⟩)),.d (.raw (.int .i64 0))]:=by kernel_rfl
theorem LV:A5 Tryz.prog 133 4=true:=by kernel_rfl
theorem EL:AK Tryz.prog 133 0=some (0,3,true):=by kernel_rfl
theorem EK:AK Tryz.prog 133 1=some (3,1,false):=by kernel_rfl
theorem OH:A5 Tryz.prog 135 3=true:=by kernel_rfl
theorem OV:Bz Tryz.prog 135 3=true:=by kernel_rfl
theorem Gc:AK Tryz.prog 135 0=some (0,1,false):=by kernel_rfl
theorem Gd:AK Tryz.prog 135 1=some (1,1,false):=by kernel_rfl
theorem FZ:AK Tryz.prog 135 2=some (2,1,false):=by kernel_rfl
theorem pl135:BN Tryz.prog 135=some [(0,1),(1,1),(2,1)]:=by kernel_rfl
theorem W6:BW Tryz.prog 135=some [.d (.raw (.string ⟨#[]⟩)),.d (.raw (.string ⟨#[]⟩)),.d (.raw (.int .i64 0))]:=by kernel_rfl
theorem Tu:A5 Tryz.prog 136 3=true:=by kernel_rfl
theorem OU:Bz Tryz.prog 136 3=true:=by kernel_rfl
theorem sz141:A5 Tryz.prog 141 1=true:=by kernel_rfl
theorem Oc:BM Tryz.prog 141=true:=by kernel_rfl
theorem zl141:BW Tryz.prog 141=some [.d (.raw .nilFunc)]:=by kernel_rfl
theorem sz142:A5 Tryz.prog 142 1=true:=by kernel_rfl
theorem Ob:BM Tryz.prog 142=true:=by kernel_rfl
theorem UG:SlTy Tryz.prog 142 79 1 4:=Q4 (by kernel_rfl)
theorem sz143:A5 Tryz.prog 143 1=true:=by kernel_rfl
theorem UV:BM Tryz.prog 143=true:=by kernel_rfl
theorem UF:SlTy Tryz.prog 143 144 1 24:=Q4 (by kernel_rfl)
theorem Wi:A5 Tryz.prog 144 1=true:=by kernel_rfl
theorem Mv:BM Tryz.prog 144=true:=by kernel_rfl
theorem LY:SlTy Tryz.prog 144 2 1 8:=Q4 (by kernel_rfl)
theorem J9:AK Tryz.prog 146 0=some (0,1,false):=by kernel_rfl
theorem Tg:AK Tryz.prog 146 1=some (1,1,false):=by kernel_rfl
theorem MC:AK Tryz.prog 146 2=some (2,1,false):=by kernel_rfl
theorem PU:AK Tryz.prog 146 3=some (3,1,false):=by kernel_rfl
theorem pl146:BN Tryz.prog 146=some [(0,1),(1,1),(2,1),(3,1)]:=by kernel_rfl
theorem zl146:BW Tryz.prog 146=some [.d (.sl (some true) []),.d (.sl (some true) []),.d (.sl (some true) []),.d (.sl (some true) [])]:=by kernel_rfl
theorem Jh:A5 Tryz.prog 148 9=true:=by kernel_rfl
theorem OT:Bz Tryz.prog 148 9=true:=by kernel_rfl
theorem EJ:AK Tryz.prog 148 0=some (0,1,false):=by kernel_rfl
theorem RB:BN Tryz.prog 148=some [(0,1),(1,1),(2,6),(8,1)]:=by kernel_rfl
theorem Ic:BW Tryz.prog 148=some [.d (.raw (.int .i64 0)),.d (.raw (.int .i64 0)),.d (.raw (.int .i64 0)),.d (.raw (.string ⟨#[]⟩)),.d (.raw (.int .i64 0)),.d (.raw (.string ⟨#[]⟩)),.d (.raw (.string ⟨#[]⟩)),.d (.raw (.string ⟨#[]⟩)),.d (.raw (.int .i64 0))]:=by kernel_rfl
theorem sl152:SlTy Tryz.prog 152 88 1 8:=Q4 (by kernel_rfl)
theorem Tt:A5 Tryz.prog 167 2=true:=by kernel_rfl
theorem rw167:Bz Tryz.prog 167 2=true:=by kernel_rfl
theorem DY:AK Tryz.prog 167 0=some (0,1,false):=by kernel_rfl
theorem PW:AK Tryz.prog 167 1=some (1,1,false):=by kernel_rfl
theorem pl167:BN Tryz.prog 167=some [(0,1),(1,1)]:=by kernel_rfl
theorem Tm:BW Tryz.prog 167=some [.d (.raw (.pointer none)),.d (.raw (.int .i64 0))]:=by kernel_rfl
theorem sz173:A5 Tryz.prog 173 1=true:=by kernel_rfl
theorem KC:BM Tryz.prog 173=true:=by kernel_rfl
theorem zl173:BW Tryz.prog 173=some [.d (.raw (.map none))]:=by kernel_rfl
theorem UE:SlTy Tryz.prog 201 205 7 88:=Q4 (by kernel_rfl)
theorem Ts:A5 Tryz.prog 205 7=true:=by kernel_rfl
theorem OS:Bz Tryz.prog 205 7=true:=by kernel_rfl
theorem X2:BN Tryz.prog 205=some [(0,6),(6,1)]:=by kernel_rfl
theorem W5:BW Tryz.prog 205=some [.d (.raw (.int .i64 0)),.d (.raw (.string ⟨#[]⟩)),.d (.raw (.int .i64 0)),.d (.raw (.string ⟨#[]⟩)),.d (.raw (.string ⟨#[]⟩)),.d (.raw (.string ⟨#[]⟩)),.d (.raw (.int .i64 0))]:=by kernel_rfl
theorem C5:BM Tryz.prog 212=true:=by kernel_rfl
theorem sz213:A5 Tryz.prog 213 1=true:=by kernel_rfl
theorem FL:BM Tryz.prog 213=true:=by kernel_rfl
theorem UD:SlTy Tryz.prog 213 218 8 112:=Q4 (by kernel_rfl)
theorem F1:AK Tryz.prog 215 0=some (0,1,false):=by kernel_rfl
theorem EI:AK Tryz.prog 215 1=some (1,1,false):=by kernel_rfl
theorem IB:AK Tryz.prog 215 2=some (2,1,false):=by kernel_rfl
theorem pl215:BN Tryz.prog 215=some [(0,1),(1,1),(2,1)]:=by kernel_rfl
theorem zl215:BW Tryz.prog 215=some [.d (.raw (.map none)),.d (.sl (some true) []),.d (.sl (some true) [])]:=by kernel_rfl
theorem Jg:A5 Tryz.prog 218 8=true:=by kernel_rfl
theorem Js:Bz Tryz.prog 218 8=true:=by kernel_rfl
theorem Ge:AK Tryz.prog 218 0=some (0,6,true):=by kernel_rfl
theorem Th:AK Tryz.prog 218 1=some (6,1,false):=by kernel_rfl
theorem EH:AK Tryz.prog 218 2=some (7,1,false):=by kernel_rfl
theorem pl218:BN Tryz.prog 218=some [(0,6),(6,1),(7,1)]:=by kernel_rfl
theorem Q6:BW Tryz.prog 218=some [.d (.raw (.int .i64 0)),.d (.raw (.string ⟨#[]⟩)),.d (.raw (.int .i64 0)),.d (.raw (.string ⟨#[]⟩)),.d (.raw (.string ⟨#[]⟩)),.d (.raw (.string ⟨#[]⟩)),.d (.raw (.int .i64 0)),.d (.sl (some true) [])]:=by kernel_rfl
theorem Ie:SlTy Tryz.prog 225 229 8 96:=Q4 (by kernel_rfl)
theorem Wh:A5 Tryz.prog 229 8=true:=by kernel_rfl
theorem XF:Bz Tryz.prog 229 8=true:=by kernel_rfl
theorem EG:AK Tryz.prog 229 1=some (1,1,false):=by kernel_rfl
theorem pl229:BN Tryz.prog 229=some [(0,1),(1,1),(2,6)]:=by kernel_rfl
theorem W4:BW Tryz.prog 229=some [.d (.raw (.int .i64 0)),.d (.raw (.int .i64 0)),.d (.raw (.int .i64 0)),.d (.raw (.string ⟨#[]⟩)),.d (.raw (.int .i64 0)),.d (.raw (.string ⟨#[]⟩)),.d (.raw (.string ⟨#[]⟩)),.d (.raw (.string ⟨#[]⟩))]:=by kernel_rfl
theorem El:CV Tryz.prog 89 53 2=true:=by kernel_rfl
theorem Nk:FA Tryz.prog 2=some (.d (.raw (.int .i64 0))):=by kernel_rfl
theorem Xy:CV Tryz.prog 101 3 99=true:=by kernel_rfl
theorem GO:Bs Tryz.prog 3 (fun z:Int=> .raw (.int .i64 z)) (fun z=> .int .i64 z):=Bs.int Tryz.underlying3
theorem za99:FA Tryz.prog 99=some (.d (.raw (.pointer none))):=by kernel_rfl
theorem RY:CV Tryz.prog 159 53 109=true:=by kernel_rfl
theorem W7:FA Tryz.prog 109=some (.d (.raw (.pointer none))):=by kernel_rfl
theorem DP:CV Tryz.prog 173 3 4=true:=by kernel_rfl
theorem Tn:FA Tryz.prog 4=some (.d (.raw (.bool false))):=by kernel_rfl
theorem L5:CV Tryz.prog 212 3 49=true:=by kernel_rfl
theorem Ux:FA Tryz.prog 49=some (.d (.agg [.raw (.int .i64 0),.raw (.int .i64 0),.raw (.int .i64 0),.sl (some true) [],.sl (some true) [],.sl (some true) []])):=by kernel_rfl
theorem If:CV Tryz.prog 227 3 4=true:=by kernel_rfl
theorem U2:CV Tryz.prog 236 9 2=true:=by kernel_rfl
theorem kt9:Bs Tryz.prog 9 As I4:=Bs.str Tryz.underlying9
theorem Xx:CV Tryz.prog 255 53 4=true:=by kernel_rfl
end Go.Proofs.YtnkkaeblokdifaaGreat
