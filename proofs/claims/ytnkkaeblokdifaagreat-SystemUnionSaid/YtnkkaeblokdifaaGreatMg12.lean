/- What the walk wants of the types of this program. -/
import Derived.Test.YtnkkaeblokdifaaGreatMg11
import Derived.Test.YtnkkaeblokdifaaGreatRows
namespace Go.Proofs.YtnkkaeblokdifaaGreat
open Go.RowKit
theorem BF:Tryz.prog.follows .mixedOrders=true:=by kernel_rfl
theorem sz2:A7 Tryz.prog 2 1=true:=by kernel_rfl
theorem Be:BA Tryz.prog 2=true:=by kernel_rfl
theorem Et:A7 Tryz.prog 3 1=true:=by kernel_rfl
theorem Aa:BA Tryz.prog 3=true:=by kernel_rfl
theorem zl3:BM Tryz.prog 3=some [.d (.raw (.int .i64 0))]:=by kernel_rfl
theorem sz4:A7 Tryz.prog 4 1=true:=by kernel_rfl
theorem on4:BA Tryz.prog 4=true:=by kernel_rfl
theorem zl4:BM Tryz.prog 4=some [.d (.raw (.bool false))]:=by kernel_rfl
theorem Ar:BA Tryz.prog 9=true:=by kernel_rfl
theorem Gq:BA Tryz.prog 22=true:=by kernel_rfl
theorem E3:BA Tryz.prog 23=true:=by kernel_rfl
theorem I9:Bs Tryz.prog 25 2=true:=by kernel_rfl
theorem JD:AK Tryz.prog 25 0=some (0,1,false):=by kernel_rfl
theorem GG:AK Tryz.prog 25 1=some (1,1,false):=by kernel_rfl
theorem sz28:A7 Tryz.prog 28 1=true:=by kernel_rfl
theorem Gp:BA Tryz.prog 28=true:=by kernel_rfl
theorem WZ:SlTy Tryz.prog 28 74 7 88:=Pu (by kernel_rfl)
theorem sz29:A7 Tryz.prog 29 1=true:=by kernel_rfl
theorem CU:BA Tryz.prog 29=true:=by kernel_rfl
theorem LV:SlTy Tryz.prog 29 49 6 96:=Pu (by kernel_rfl)
theorem sz31:A7 Tryz.prog 31 2=true:=by kernel_rfl
theorem A2:Bs Tryz.prog 31 2=true:=by kernel_rfl
theorem Hf:AK Tryz.prog 31 0=some (0,1,false):=by kernel_rfl
theorem DK:AK Tryz.prog 31 1=some (1,1,false):=by kernel_rfl
theorem pl31:BB Tryz.prog 31=some [(0,1),(1,1)]:=by kernel_rfl
theorem Rp:BM Tryz.prog 31=some [.d (.sl (some true) []),.d (.sl (some true) [])]:=by kernel_rfl
theorem sz33:A7 Tryz.prog 33 1=true:=by kernel_rfl
theorem BD:BA Tryz.prog 33=true:=by kernel_rfl
theorem CS:SlTy Tryz.prog 33 3 1 8:=Pu (by kernel_rfl)
theorem PF:Bs Tryz.prog 39 3=true:=by kernel_rfl
theorem Ul:Bs Tryz.prog 41 6=true:=by kernel_rfl
theorem Mj:AK Tryz.prog 41 0=some (0,1,false):=by kernel_rfl
theorem Mi:AK Tryz.prog 41 1=some (1,3,true):=by kernel_rfl
theorem Mh:AK Tryz.prog 41 2=some (4,1,false):=by kernel_rfl
theorem Mg:AK Tryz.prog 41 3=some (5,1,false):=by kernel_rfl
theorem QG:A7 Tryz.prog 43 7=true:=by kernel_rfl
theorem Fd:AK Tryz.prog 43 0=some (0,6,true):=by kernel_rfl
theorem Fc:AK Tryz.prog 43 1=some (6,1,false):=by kernel_rfl
theorem sl44:SlTy Tryz.prog 44 55 7 88:=Pu (by kernel_rfl)
theorem sz46:A7 Tryz.prog 46 1=true:=by kernel_rfl
theorem F8:BA Tryz.prog 46=true:=by kernel_rfl
theorem PD:SlTy Tryz.prog 46 125 4 48:=Pu (by kernel_rfl)
theorem sz47:A7 Tryz.prog 47 1=true:=by kernel_rfl
theorem Gn:BA Tryz.prog 47=true:=by kernel_rfl
theorem QN:SlTy Tryz.prog 47 135 3 40:=Pu (by kernel_rfl)
theorem Cq:A7 Tryz.prog 49 6=true:=by kernel_rfl
theorem Ag:Bs Tryz.prog 49 6=true:=by kernel_rfl
theorem Bq:AK Tryz.prog 49 0=some (0,1,false):=by kernel_rfl
theorem L1:AK Tryz.prog 49 1=some (1,1,false):=by kernel_rfl
theorem GH:AK Tryz.prog 49 2=some (2,1,false):=by kernel_rfl
theorem Df:AK Tryz.prog 49 3=some (3,1,false):=by kernel_rfl
theorem FN:AK Tryz.prog 49 4=some (4,1,false):=by kernel_rfl
theorem Ff:AK Tryz.prog 49 5=some (5,1,false):=by kernel_rfl
theorem Wo:BB Tryz.prog 49=some [(0,1),(1,1),(2,1),(3,1),(4,1),(5,1)]:=by kernel_rfl
theorem FI:BM Tryz.prog 49=some [.d (.raw (.int .i64 0)),.d (.raw (.int .i64 0)),.d (.raw (.int .i64 0)),.d (.sl (some true) []),.d (.sl (some true) []),.d (.sl (some true) [])]:=by kernel_rfl
theorem sz51:A7 Tryz.prog 51 3=true:=by kernel_rfl
theorem Gj:Bs Tryz.prog 51 3=true:=by kernel_rfl
theorem JE:AK Tryz.prog 51 0=some (0,1,false):=by kernel_rfl
theorem Hg:AK Tryz.prog 51 1=some (1,1,false):=by kernel_rfl
theorem Hh:AK Tryz.prog 51 2=some (2,1,false):=by kernel_rfl
theorem QZ:BB Tryz.prog 51=some [(0,1),(1,1),(2,1)]:=by kernel_rfl
theorem NN:BM Tryz.prog 51=some [.d (.raw (.string ⟨#[]⟩)),.d (.raw (.int .i64 0)),.d (.raw (.string ⟨#[]⟩))]:=by kernel_rfl
theorem sz53:A7 Tryz.prog 53 6=true:=by kernel_rfl
theorem Ah:Bs Tryz.prog 53 6=true:=by kernel_rfl
theorem L3:AK Tryz.prog 53 0=some (0,1,false):=by kernel_rfl
theorem Br:AK Tryz.prog 53 1=some (1,3,true):=by kernel_rfl
theorem FO:AK Tryz.prog 53 2=some (4,1,false):=by kernel_rfl
theorem GI:AK Tryz.prog 53 3=some (5,1,false):=by kernel_rfl
theorem J5:BB Tryz.prog 53=some [(0,1),(1,3),(4,1),(5,1)]:=by kernel_rfl
theorem Gi:BM Tryz.prog 53=some [.d (.raw (.int .i64 0)),.d (.raw (.string ⟨#[]⟩)),.d (.raw (.int .i64 0)),.d (.raw (.string ⟨#[]⟩)),.d (.raw (.string ⟨#[]⟩)),.d (.raw (.string ⟨#[]⟩))]:=by kernel_rfl
theorem I2:A7 Tryz.prog 55 7=true:=by kernel_rfl
theorem rw55:Bs Tryz.prog 55 7=true:=by kernel_rfl
theorem Og:AK Tryz.prog 55 0=some (0,6,true):=by kernel_rfl
theorem JF:AK Tryz.prog 55 1=some (6,1,false):=by kernel_rfl
theorem pl55:BB Tryz.prog 55=some [(0,6),(6,1)]:=by kernel_rfl
theorem zl55:BM Tryz.prog 55=some [.d (.raw (.int .i64 0)),.d (.raw (.string ⟨#[]⟩)),.d (.raw (.int .i64 0)),.d (.raw (.string ⟨#[]⟩)),.d (.raw (.string ⟨#[]⟩)),.d (.raw (.string ⟨#[]⟩)),.d (.raw (.int .i64 0))]:=by kernel_rfl
theorem Gm:BA Tryz.prog 69=true:=by kernel_rfl
theorem LZ:BA Tryz.prog 70=true:=by kernel_rfl
theorem NP:A7 Tryz.prog 72 6=true:=by kernel_rfl
theorem Uk:Bs Tryz.prog 72 6=true:=by kernel_rfl
theorem Fb:AK Tryz.prog 72 0=some (0,1,false):=by kernel_rfl
theorem Fa:AK Tryz.prog 72 1=some (1,1,false):=by kernel_rfl
theorem F9:AK Tryz.prog 72 2=some (2,1,false):=by kernel_rfl
theorem JG:AK Tryz.prog 72 3=some (3,1,false):=by kernel_rfl
theorem Oh:AK Tryz.prog 72 4=some (4,1,false):=by kernel_rfl
theorem Cz:AK Tryz.prog 72 5=some (5,1,false):=by kernel_rfl
theorem Ot:A7 Tryz.prog 74 7=true:=by kernel_rfl
theorem PE:Bs Tryz.prog 74 7=true:=by kernel_rfl
theorem Dg:AK Tryz.prog 74 0=some (0,6,true):=by kernel_rfl
theorem Oi:AK Tryz.prog 74 1=some (6,1,false):=by kernel_rfl
theorem Uu:BB Tryz.prog 74=some [(0,6),(6,1)]:=by kernel_rfl
theorem Ol:BM Tryz.prog 74=some [.d (.raw (.int .i64 0)),.d (.raw (.string ⟨#[]⟩)),.d (.raw (.int .i64 0)),.d (.raw (.string ⟨#[]⟩)),.d (.raw (.string ⟨#[]⟩)),.d (.raw (.string ⟨#[]⟩)),.d (.raw (.int .i64 0))]:=by kernel_rfl
theorem sz76:A7 Tryz.prog 76 1=true:=by kernel_rfl
theorem Ce:BA Tryz.prog 76=true:=by kernel_rfl
theorem zl76:BM Tryz.prog 76=some [.d (.raw (.pointer none))]:=by kernel_rfl
theorem sz79:A7 Tryz.prog 79 1=true:=by kernel_rfl
theorem LY:BA Tryz.prog 79=true:=by kernel_rfl
theorem zl79:BM Tryz.prog 79=some [.d (.raw (.int .u32 0))]:=by kernel_rfl
theorem on83:BA Tryz.prog 83=true:=by kernel_rfl
theorem sl85:SlTy Tryz.prog 85 148 9 104:=Pu (by kernel_rfl)
theorem sz88:A7 Tryz.prog 88 1=true:=by kernel_rfl
theorem on88:BA Tryz.prog 88=true:=by kernel_rfl
theorem sz98:A7 Tryz.prog 98 1=true:=by kernel_rfl
theorem IH:BA Tryz.prog 98=true:=by kernel_rfl
theorem sl98:SlTy Tryz.prog 98 99 1 8:=Pu (by kernel_rfl)
theorem WF:A7 Tryz.prog 99 1=true:=by kernel_rfl
theorem on99:BA Tryz.prog 99=true:=by kernel_rfl
theorem sz100:A7 Tryz.prog 100 1=true:=by kernel_rfl
theorem Tm:BA Tryz.prog 100=true:=by kernel_rfl
theorem sl100:SlTy Tryz.prog 100 109 1 8:=Pu (by kernel_rfl)
theorem XC:BA Tryz.prog 101=true:=by kernel_rfl
theorem JI:AK Tryz.prog 103 0=some (0,1,false):=by kernel_rfl
theorem JJ:AK Tryz.prog 103 1=some (1,1,false):=by kernel_rfl
theorem L4:AK Tryz.prog 103 2=some (2,1,false):=by kernel_rfl
theorem pl103:BB Tryz.prog 103=some [(0,1),(1,1),(2,1)]:=by kernel_rfl
theorem zl103:BM Tryz.prog 103=some [.d (.sl (some true) []),.d (.sl (some true) []),.d (.raw (.map none))]:=by kernel_rfl
theorem sz104:A7 Tryz.prog 104 1=true:=by kernel_rfl
theorem on104:BA Tryz.prog 104=true:=by kernel_rfl
theorem sl104:SlTy Tryz.prog 104 111 2 16:=Pu (by kernel_rfl)
theorem sz105:A7 Tryz.prog 105 1=true:=by kernel_rfl
theorem XB:BA Tryz.prog 105=true:=by kernel_rfl
theorem sl105:SlTy Tryz.prog 105 167 2 16:=Pu (by kernel_rfl)
theorem FK:AK Tryz.prog 107 0=some (0,6,true):=by kernel_rfl
theorem TF:AK Tryz.prog 107 1=some (6,1,false):=by kernel_rfl
theorem L5:AK Tryz.prog 107 2=some (7,1,false):=by kernel_rfl
theorem L6:AK Tryz.prog 107 3=some (8,1,false):=by kernel_rfl
theorem pl107:BB Tryz.prog 107=some [(0,6),(6,1),(7,1),(8,1)]:=by kernel_rfl
theorem zl107:BM Tryz.prog 107=some [.d (.raw (.int .i64 0)),.d (.raw (.int .i64 0)),.d (.raw (.int .i64 0)),.d (.sl (some true) []),.d (.sl (some true) []),.d (.sl (some true) []),.d (.sl (some true) []),.d (.sl (some true) []),.d (.raw (.bool false))]:=by kernel_rfl
theorem WI:A7 Tryz.prog 109 1=true:=by kernel_rfl
theorem B3:BA Tryz.prog 109=true:=by kernel_rfl
theorem zl109:BM Tryz.prog 109=some [.d (.raw (.pointer none))]:=by kernel_rfl
theorem sz111:A7 Tryz.prog 111 2=true:=by kernel_rfl
theorem rw111:Bs Tryz.prog 111 2=true:=by kernel_rfl
theorem Dt:AK Tryz.prog 111 0=some (0,1,false):=by kernel_rfl
theorem Ds:AK Tryz.prog 111 1=some (1,1,false):=by kernel_rfl
theorem pl111:BB Tryz.prog 111=some [(0,1),(1,1)]:=by kernel_rfl
theorem zl111:BM Tryz.prog 111=some [.d (.raw (.pointer none)),.d (.raw (.int .i64 0))]:=by kernel_rfl
theorem GK:AK Tryz.prog 113 0=some (0,6,true):=by kernel_rfl
theorem Jp:AK Tryz.prog 113 1=some (6,1,false):=by kernel_rfl
theorem Ha:AK Tryz.prog 113 2=some (7,1,false):=by kernel_rfl
theorem GL:AK Tryz.prog 113 3=some (8,1,false):=by kernel_rfl
theorem GM:AK Tryz.prog 113 4=some (9,1,false):=by kernel_rfl
theorem pl113:BB Tryz.prog 113=some [(0,6),(6,1),(7,1),(8,1),(9,1)]:=by kernel_rfl
theorem zl113:BM Tryz.prog 113=some [.d (.raw (.int .i64 0)),.d (.raw (.string ⟨#[]⟩)),.d (.raw (.int .i64 0)),.d (.raw (.string ⟨#[]⟩)),.d (.raw (.string ⟨#[]⟩)),.d (.raw (.string ⟨#[]⟩)),.d (.raw (.int .i64 0)),.d (.raw (.int .i64 0)),.d (.sl (some true) []),.d (.raw (.int .i64 0))]:=by kernel_rfl
theorem JR:A7 Tryz.prog 125 4=true:=by kernel_rfl
theorem J1:Bs Tryz.prog 125 4=true:=by kernel_rfl
theorem JK:AK Tryz.prog 125 0=some (0,3,true):=by kernel_rfl
theorem Oa:AK Tryz.prog 125 1=some (3,1,false):=by kernel_rfl
theorem OA:BB Tryz.prog 125=some [(0,3),(3,1)]:=by kernel_rfl
theorem JL:BM Tryz.prog 125=some [.d (.raw (.string ⟨#[]⟩)),.d (.raw (.int .i64 0)),.d (.raw (.string ⟨#[]⟩)),.d (.raw (.int .i64 0))]:=by kernel_rfl
theorem Ks:A7 Tryz.prog 133 4=true:=by kernel_rfl
theorem Dr:AK Tryz.prog 133 0=some (0,3,true):=by kernel_rfl
theorem Dq:AK Tryz.prog 133 1=some (3,1,false):=by kernel_rfl
theorem Nf:A7 Tryz.prog 135 3=true:=by kernel_rfl
theorem Nq:Bs Tryz.prog 135 3=true:=by kernel_rfl
theorem GN:AK Tryz.prog 135 0=some (0,1,false):=by kernel_rfl
theorem GO:AK Tryz.prog 135 1=some (1,1,false):=by kernel_rfl
theorem FL:AK Tryz.prog 135 2=some (2,1,false):=by kernel_rfl
theorem pl135:BB Tryz.prog 135=some [(0,1),(1,1),(2,1)]:=by kernel_rfl
theorem Vu:BM Tryz.prog 135=some [.d (.raw (.string ⟨#[]⟩)),.d (.raw (.string ⟨#[]⟩)),.d (.raw (.int .i64 0))]:=by kernel_rfl
theorem TS:A7 Tryz.prog 136 3=true:=by kernel_rfl
theorem Np:Bs Tryz.prog 136 3=true:=by kernel_rfl
theorem sz141:A7 Tryz.prog 141 1=true:=by kernel_rfl
theorem OG:BA Tryz.prog 141=true:=by kernel_rfl
theorem zl141:BM Tryz.prog 141=some [.d (.raw .nilFunc)]:=by kernel_rfl
theorem sz142:A7 Tryz.prog 142 1=true:=by kernel_rfl
theorem OF:BA Tryz.prog 142=true:=by kernel_rfl
theorem T6:SlTy Tryz.prog 142 79 1 4:=Pu (by kernel_rfl)
theorem sz143:A7 Tryz.prog 143 1=true:=by kernel_rfl
theorem Tl:BA Tryz.prog 143=true:=by kernel_rfl
theorem T5:SlTy Tryz.prog 143 144 1 24:=Pu (by kernel_rfl)
theorem WH:A7 Tryz.prog 144 1=true:=by kernel_rfl
theorem MN:BA Tryz.prog 144=true:=by kernel_rfl
theorem Kw:SlTy Tryz.prog 144 2 1 8:=Pu (by kernel_rfl)
theorem Hb:AK Tryz.prog 146 0=some (0,1,false):=by kernel_rfl
theorem TG:AK Tryz.prog 146 1=some (1,1,false):=by kernel_rfl
theorem L7:AK Tryz.prog 146 2=some (2,1,false):=by kernel_rfl
theorem Ob:AK Tryz.prog 146 3=some (3,1,false):=by kernel_rfl
theorem pl146:BB Tryz.prog 146=some [(0,1),(1,1),(2,1),(3,1)]:=by kernel_rfl
theorem zl146:BM Tryz.prog 146=some [.d (.sl (some true) []),.d (.sl (some true) []),.d (.sl (some true) []),.d (.sl (some true) [])]:=by kernel_rfl
theorem JQ:A7 Tryz.prog 148 9=true:=by kernel_rfl
theorem Nn:Bs Tryz.prog 148 9=true:=by kernel_rfl
theorem Dp:AK Tryz.prog 148 0=some (0,1,false):=by kernel_rfl
theorem Q0:BB Tryz.prog 148=some [(0,1),(1,1),(2,6),(8,1)]:=by kernel_rfl
theorem IM:BM Tryz.prog 148=some [.d (.raw (.int .i64 0)),.d (.raw (.int .i64 0)),.d (.raw (.int .i64 0)),.d (.raw (.string ⟨#[]⟩)),.d (.raw (.int .i64 0)),.d (.raw (.string ⟨#[]⟩)),.d (.raw (.string ⟨#[]⟩)),.d (.raw (.string ⟨#[]⟩)),.d (.raw (.int .i64 0))]:=by kernel_rfl
theorem sl152:SlTy Tryz.prog 152 88 1 8:=Pu (by kernel_rfl)
theorem TR:A7 Tryz.prog 167 2=true:=by kernel_rfl
theorem rw167:Bs Tryz.prog 167 2=true:=by kernel_rfl
theorem DM:AK Tryz.prog 167 0=some (0,1,false):=by kernel_rfl
theorem Oc:AK Tryz.prog 167 1=some (1,1,false):=by kernel_rfl
theorem pl167:BB Tryz.prog 167=some [(0,1),(1,1)]:=by kernel_rfl
theorem TK:BM Tryz.prog 167=some [.d (.raw (.pointer none)),.d (.raw (.int .i64 0))]:=by kernel_rfl
theorem sz173:A7 Tryz.prog 173 1=true:=by kernel_rfl
theorem J9:BA Tryz.prog 173=true:=by kernel_rfl
theorem zl173:BM Tryz.prog 173=some [.d (.raw (.map none))]:=by kernel_rfl
theorem T4:SlTy Tryz.prog 201 205 7 88:=Pu (by kernel_rfl)
theorem TQ:A7 Tryz.prog 205 7=true:=by kernel_rfl
theorem Nm:Bs Tryz.prog 205 7=true:=by kernel_rfl
theorem Wp:BB Tryz.prog 205=some [(0,6),(6,1)]:=by kernel_rfl
theorem Vt:BM Tryz.prog 205=some [.d (.raw (.int .i64 0)),.d (.raw (.string ⟨#[]⟩)),.d (.raw (.int .i64 0)),.d (.raw (.string ⟨#[]⟩)),.d (.raw (.string ⟨#[]⟩)),.d (.raw (.string ⟨#[]⟩)),.d (.raw (.int .i64 0))]:=by kernel_rfl
theorem CQ:BA Tryz.prog 212=true:=by kernel_rfl
theorem sz213:A7 Tryz.prog 213 1=true:=by kernel_rfl
theorem Ez:BA Tryz.prog 213=true:=by kernel_rfl
theorem T3:SlTy Tryz.prog 213 218 8 112:=Pu (by kernel_rfl)
theorem FM:AK Tryz.prog 215 0=some (0,1,false):=by kernel_rfl
theorem Do:AK Tryz.prog 215 1=some (1,1,false):=by kernel_rfl
theorem Hc:AK Tryz.prog 215 2=some (2,1,false):=by kernel_rfl
theorem pl215:BB Tryz.prog 215=some [(0,1),(1,1),(2,1)]:=by kernel_rfl
theorem zl215:BM Tryz.prog 215=some [.d (.raw (.map none)),.d (.sl (some true) []),.d (.sl (some true) [])]:=by kernel_rfl
theorem JP:A7 Tryz.prog 218 8=true:=by kernel_rfl
theorem J0:Bs Tryz.prog 218 8=true:=by kernel_rfl
theorem GP:AK Tryz.prog 218 0=some (0,6,true):=by kernel_rfl
theorem TH:AK Tryz.prog 218 1=some (6,1,false):=by kernel_rfl
theorem Dn:AK Tryz.prog 218 2=some (7,1,false):=by kernel_rfl
theorem pl218:BB Tryz.prog 218=some [(0,6),(6,1),(7,1)]:=by kernel_rfl
theorem Pw:BM Tryz.prog 218=some [.d (.raw (.int .i64 0)),.d (.raw (.string ⟨#[]⟩)),.d (.raw (.int .i64 0)),.d (.raw (.string ⟨#[]⟩)),.d (.raw (.string ⟨#[]⟩)),.d (.raw (.string ⟨#[]⟩)),.d (.raw (.int .i64 0)),.d (.sl (some true) [])]:=by kernel_rfl
theorem iOq:SlTy Tryz.prog 225 229 8 96:=Pu (by kernel_rfl)
theorem WG:A7 Tryz.prog 229 8=true:=by kernel_rfl
theorem W5:Bs Tryz.prog 229 8=true:=by kernel_rfl
theorem Dm:AK Tryz.prog 229 1=some (1,1,false):=by kernel_rfl
theorem pl229:BB Tryz.prog 229=some [(0,1),(1,1),(2,6)]:=by kernel_rfl
theorem Vs:BM Tryz.prog 229=some [.d (.raw (.int .i64 0)),.d (.raw (.int .i64 0)),.d (.raw (.int .i64 0)),.d (.raw (.string ⟨#[]⟩)),.d (.raw (.int .i64 0)),.d (.raw (.string ⟨#[]⟩)),.d (.raw (.string ⟨#[]⟩)),.d (.raw (.string ⟨#[]⟩))]:=by kernel_rfl
theorem Gr:CN Tryz.prog 89 53 2=true:=by kernel_rfl
theorem Px:Eo Tryz.prog 2=some (.d (.raw (.int .i64 0))):=by kernel_rfl
theorem XV:CN Tryz.prog 101 3 99=true:=by kernel_rfl
theorem KI:Bl Tryz.prog 3 (fun z:Int=> .raw (.int .i64 z)) (fun z=> .int .i64 z):=Bl.int Tryz.underlying3
theorem za99:Eo Tryz.prog 99=some (.d (.raw (.pointer none))):=by kernel_rfl
theorem Qh:CN Tryz.prog 159 53 109=true:=by kernel_rfl
theorem Vv:Eo Tryz.prog 109=some (.d (.raw (.pointer none))):=by kernel_rfl
theorem MU:CN Tryz.prog 173 3 4=true:=by kernel_rfl
theorem za4:Eo Tryz.prog 4=some (.d (.raw (.bool false))):=by kernel_rfl
theorem LC:CN Tryz.prog 212 3 49=true:=by kernel_rfl
theorem U1:Eo Tryz.prog 49=some (.d (.agg [.raw (.int .i64 0),.raw (.int .i64 0),.raw (.int .i64 0),.sl (some true) [],.sl (some true) [],.sl (some true) []])):=by kernel_rfl
theorem IR:CN Tryz.prog 227 3 4=true:=by kernel_rfl
theorem Tt:CN Tryz.prog 236 9 2=true:=by kernel_rfl
theorem kt9:Bl Tryz.prog 9 Al IF:=Bl.str Tryz.underlying9
theorem XU:CN Tryz.prog 255 53 4=true:=by kernel_rfl
end Go.Proofs.YtnkkaeblokdifaaGreat
