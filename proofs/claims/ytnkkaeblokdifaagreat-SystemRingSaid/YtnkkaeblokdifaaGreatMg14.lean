import Derived.Test.YtnkkaeblokdifaaGreatMg13
import Derived.Test.YtnkkaeblokdifaaGreatRows
open Go.Proofs.Tryz
namespace Go.Proofs.YtnkkaeblokdifaaGreat
open Go.RowKit
theorem E0:type_of% @Tryz.underlying33:=@Tryz.underlying33
theorem F0:type_of% @Tryz.underlying29:=@Tryz.underlying29
theorem No:type_of% @Tryz.underlying193:=@Tryz.underlying193
theorem Ri:type_of% @Tryz.underlying62:=@Tryz.underlying62
theorem S1:type_of% @Tryz.underlying98:=@Tryz.underlying98
theorem T1:type_of% @Tryz.underlying183:=@Tryz.underlying183
theorem an:type_of% @Tryz.underlying28:=@Tryz.underlying28
theorem b0:type_of% @Tryz.underlying46:=@Tryz.underlying46
theorem cA:type_of% @Tryz.underlying322:=@Tryz.underlying322
theorem cL:type_of% @Tryz.underlying47:=@Tryz.underlying47
theorem mixed:prog.follows .mixedOrders=true:=by kernel_rfl
theorem s9:AW prog 1 1=true:=by kernel_rfl
theorem sc:BF prog 1=true:=by kernel_rfl
theorem rX:AW prog 2 1=true:=by kernel_rfl
theorem L3:BF prog 2=true:=by kernel_rfl
theorem B4:AW prog 3 1=true:=by kernel_rfl
theorem BE:BF prog 3=true:=by kernel_rfl
theorem mJ:MG prog 3=some (.raw (.int .i64 0)):=by kernel_rfl
theorem pP:AW prog 4 1=true:=by kernel_rfl
theorem ms:BF prog 4=true:=by kernel_rfl
theorem s7:Ao prog 4=some [.d (.raw (.bool false))]:=by kernel_rfl
theorem s8:AW prog 5 1=true:=by kernel_rfl
theorem sb:BF prog 5=true:=by kernel_rfl
theorem rG:AW prog 9 1=true:=by kernel_rfl
theorem H1:BF prog 9=true:=by kernel_rfl
theorem pR:AW prog 28 1=true:=by kernel_rfl
theorem Ro:BF prog 28=true:=by kernel_rfl
theorem Ps:dQ prog 28 74 7 88:=Nx (by kernel_rfl)
theorem mY:AW prog 29 1=true:=by kernel_rfl
theorem K6:BF prog 29=true:=by kernel_rfl
theorem OB:dQ prog 29 49 6 96:=Nx (by kernel_rfl)
theorem pQ:AW prog 31 2=true:=by kernel_rfl
theorem Bc:CA prog 31 2=true:=by kernel_rfl
theorem Fj:AI prog 31 0=some (0,1,false):=by kernel_rfl
theorem EM:AI prog 31 1=some (1,1,false):=by kernel_rfl
theorem iD:Ao prog 31=some [.d (.sl (some true) []),.d (.sl (some true) [])]:=by kernel_rfl
theorem Ca:AW prog 33 1=true:=by kernel_rfl
theorem BI:BF prog 33=true:=by kernel_rfl
theorem oy:Ao prog 33=some [.d (.sl (some true) [])]:=by kernel_rfl
theorem pI:MG prog 33=some (.sl (some true) []):=by kernel_rfl
theorem BX:dQ prog 33 3 1 8:=Nx (by kernel_rfl)
theorem Yl:AW prog 34 1=true:=by kernel_rfl
theorem sA:BF prog 34=true:=by kernel_rfl
theorem rP:Ao prog 34=some [.d (.raw (.int .i64 0))]:=by kernel_rfl
theorem m8:dQ prog 44 55 7 88:=Nx (by kernel_rfl)
theorem rW:AW prog 46 1=true:=by kernel_rfl
theorem Zy:BF prog 46=true:=by kernel_rfl
theorem i7:dQ prog 46 125 4 48:=Nx (by kernel_rfl)
theorem rV:AW prog 47 1=true:=by kernel_rfl
theorem jK:BF prog 47=true:=by kernel_rfl
theorem pX:dQ prog 47 135 3 40:=Nx (by kernel_rfl)
theorem Cu:AW prog 49 6=true:=by kernel_rfl
theorem Bs:CA prog 49 6=true:=by kernel_rfl
theorem Ny:AI prog 49 0=some (0,1,false):=by kernel_rfl
theorem Ub:AI prog 49 1=some (1,1,false):=by kernel_rfl
theorem NO:AI prog 49 2=some (2,1,false):=by kernel_rfl
theorem Kp:AI prog 49 3=some (3,1,false):=by kernel_rfl
theorem NN:AI prog 49 4=some (4,1,false):=by kernel_rfl
theorem FE:AI prog 49 5=some (5,1,false):=by kernel_rfl
theorem mq:Au prog 49=some [(0,1),(1,1),(2,1),(3,1),(4,1),(5,1)]:=by kernel_rfl
theorem Fc:Ao prog 49=some [.d (.raw (.int .i64 0)),.d (.raw (.int .i64 0)),.d (.raw (.int .i64 0)),.d (.sl (some true) []),.d (.sl (some true) []),.d (.sl (some true) [])]:=by kernel_rfl
theorem rU:AW prog 51 3=true:=by kernel_rfl
theorem md:CA prog 51 3=true:=by kernel_rfl
theorem QX:AI prog 51 0=some (0,1,false):=by kernel_rfl
theorem NM:AI prog 51 1=some (1,1,false):=by kernel_rfl
theorem NL:AI prog 51 2=some (2,1,false):=by kernel_rfl
theorem XK:Au prog 51=some [(0,1),(1,1),(2,1)]:=by kernel_rfl
theorem Te:Ao prog 51=some [.d (.raw (.string ⟨#[]⟩)),.d (.raw (.int .i64 0)),.d (.raw (.string ⟨#[]⟩))]:=by kernel_rfl
theorem iT:AW prog 53 6=true:=by kernel_rfl
theorem CL:CA prog 53 6=true:=by kernel_rfl
theorem Ua:AI prog 53 0=some (0,1,false):=by kernel_rfl
theorem EL:AI prog 53 1=some (1,3,true):=by kernel_rfl
theorem Ko:AI prog 53 2=some (4,1,false):=by kernel_rfl
theorem Kn:AI prog 53 3=some (5,1,false):=by kernel_rfl
theorem Rf:Au prog 53=some [(0,1),(1,3),(4,1),(5,1)]:=by kernel_rfl
theorem LY:Ao prog 53=some [.d (.raw (.int .i64 0)),.d (.raw (.string ⟨#[]⟩)),.d (.raw (.int .i64 0)),.d (.raw (.string ⟨#[]⟩)),.d (.raw (.string ⟨#[]⟩)),.d (.raw (.string ⟨#[]⟩))]:=by kernel_rfl
theorem iS:AW prog 55 7=true:=by kernel_rfl
theorem p9:CA prog 55 7=true:=by kernel_rfl
theorem NK:AI prog 55 0=some (0,6,true):=by kernel_rfl
theorem bU:AI prog 55 1=some (6,1,false):=by kernel_rfl
theorem ry:Au prog 55=some [(0,6),(6,1)]:=by kernel_rfl
theorem mI:Ao prog 55=some [.d (.raw (.int .i64 0)),.d (.raw (.string ⟨#[]⟩)),.d (.raw (.int .i64 0)),.d (.raw (.string ⟨#[]⟩)),.d (.raw (.string ⟨#[]⟩)),.d (.raw (.string ⟨#[]⟩)),.d (.raw (.int .i64 0))]:=by kernel_rfl
theorem pO:AW prog 62 1=true:=by kernel_rfl
theorem jJ:BF prog 62=true:=by kernel_rfl
theorem R1:dQ prog 62 33 1 24:=Nx (by kernel_rfl)
theorem rT:AW prog 63 1=true:=by kernel_rfl
theorem jI:BF prog 63=true:=by kernel_rfl
theorem m7:dQ prog 63 207 8 96:=Nx (by kernel_rfl)
theorem mX:AW prog 65 5=true:=by kernel_rfl
theorem rf:CA prog 65 5=true:=by kernel_rfl
theorem fU:AI prog 65 0=some (0,1,false):=by kernel_rfl
theorem gE:AI prog 65 1=some (1,1,false):=by kernel_rfl
theorem bT:AI prog 65 2=some (2,1,false):=by kernel_rfl
theorem fT:AI prog 65 3=some (3,1,false):=by kernel_rfl
theorem fB:AI prog 65 4=some (4,1,false):=by kernel_rfl
theorem iC:Ao prog 65=some [.d (.sl (some true) []),.d (.sl (some true) []),.d (.sl (some true) []),.d (.sl (some true) []),.d (.sl (some true) [])]:=by kernel_rfl
theorem OA:AW prog 74 7=true:=by kernel_rfl
theorem ZR:CA prog 74 7=true:=by kernel_rfl
theorem FD:AI prog 74 0=some (0,6,true):=by kernel_rfl
theorem QW:AI prog 74 1=some (6,1,false):=by kernel_rfl
theorem mp:Au prog 74=some [(0,6),(6,1)]:=by kernel_rfl
theorem Qv:Ao prog 74=some [.d (.raw (.int .i64 0)),.d (.raw (.string ⟨#[]⟩)),.d (.raw (.int .i64 0)),.d (.raw (.string ⟨#[]⟩)),.d (.raw (.string ⟨#[]⟩)),.d (.raw (.string ⟨#[]⟩)),.d (.raw (.int .i64 0))]:=by kernel_rfl
theorem m6:dQ prog 85 148 9 104:=Nx (by kernel_rfl)
theorem rS:AW prog 88 1=true:=by kernel_rfl
theorem rz:BF prog 88=true:=by kernel_rfl
theorem jH:BF prog 89=true:=by kernel_rfl
theorem rR:AW prog 94 1=true:=by kernel_rfl
theorem jG:BF prog 94=true:=by kernel_rfl
theorem rO:Ao prog 94=some [.d (.raw (.pointer none))]:=by kernel_rfl
theorem pN:AW prog 98 1=true:=by kernel_rfl
theorem K5:BF prog 98=true:=by kernel_rfl
theorem i6:dQ prog 98 99 1 8:=Nx (by kernel_rfl)
theorem RH:AW prog 99 1=true:=by kernel_rfl
theorem UR:BF prog 99=true:=by kernel_rfl
theorem pW:AW prog 100 1=true:=by kernel_rfl
theorem Va:BF prog 100=true:=by kernel_rfl
theorem lV:dQ prog 100 109 1 8:=Nx (by kernel_rfl)
theorem V9:BF prog 101=true:=by kernel_rfl
theorem IN:AI prog 103 0=some (0,1,false):=by kernel_rfl
theorem Js:AI prog 103 1=some (1,1,false):=by kernel_rfl
theorem Lq:AI prog 103 2=some (2,1,false):=by kernel_rfl
theorem qL:Au prog 103=some [(0,1),(1,1),(2,1)]:=by kernel_rfl
theorem pH:Ao prog 103=some [.d (.sl (some true) []),.d (.sl (some true) []),.d (.raw (.map none))]:=by kernel_rfl
theorem pU:AW prog 104 1=true:=by kernel_rfl
theorem V8:BF prog 104=true:=by kernel_rfl
theorem lU:dQ prog 104 111 2 16:=Nx (by kernel_rfl)
theorem pT:AW prog 105 1=true:=by kernel_rfl
theorem V7:BF prog 105=true:=by kernel_rfl
theorem lT:dQ prog 105 167 2 16:=Nx (by kernel_rfl)
theorem F8:AI prog 107 0=some (0,6,true):=by kernel_rfl
theorem Jr:AI prog 107 1=some (6,1,false):=by kernel_rfl
theorem Jq:AI prog 107 2=some (7,1,false):=by kernel_rfl
theorem E5:AI prog 107 3=some (8,1,false):=by kernel_rfl
theorem qK:Au prog 107=some [(0,6),(6,1),(7,1),(8,1)]:=by kernel_rfl
theorem pG:Ao prog 107=some [.d (.raw (.int .i64 0)),.d (.raw (.int .i64 0)),.d (.raw (.int .i64 0)),.d (.sl (some true) []),.d (.sl (some true) []),.d (.sl (some true) []),.d (.sl (some true) []),.d (.sl (some true) []),.d (.raw (.bool false))]:=by kernel_rfl
theorem Yn:AW prog 109 1=true:=by kernel_rfl
theorem ER:BF prog 109=true:=by kernel_rfl
theorem pF:Ao prog 109=some [.d (.raw (.pointer none))]:=by kernel_rfl
theorem RJ:AW prog 111 2=true:=by kernel_rfl
theorem ZU:CA prog 111 2=true:=by kernel_rfl
theorem Q2:AI prog 111 0=some (0,1,false):=by kernel_rfl
theorem Q1:AI prog 111 1=some (1,1,false):=by kernel_rfl
theorem qJ:Au prog 111=some [(0,1),(1,1)]:=by kernel_rfl
theorem Y3:Ao prog 111=some [.d (.raw (.pointer none)),.d (.raw (.int .i64 0))]:=by kernel_rfl
theorem Lp:AI prog 113 0=some (0,6,true):=by kernel_rfl
theorem Q0:AI prog 113 1=some (6,1,false):=by kernel_rfl
theorem Jp:AI prog 113 2=some (7,1,false):=by kernel_rfl
theorem Gl:AI prog 113 3=some (8,1,false):=by kernel_rfl
theorem Jo:AI prog 113 4=some (9,1,false):=by kernel_rfl
theorem qI:Au prog 113=some [(0,6),(6,1),(7,1),(8,1),(9,1)]:=by kernel_rfl
theorem pE:Ao prog 113=some [.d (.raw (.int .i64 0)),.d (.raw (.string ⟨#[]⟩)),.d (.raw (.int .i64 0)),.d (.raw (.string ⟨#[]⟩)),.d (.raw (.string ⟨#[]⟩)),.d (.raw (.string ⟨#[]⟩)),.d (.raw (.int .i64 0)),.d (.raw (.int .i64 0)),.d (.sl (some true) []),.d (.raw (.int .i64 0))]:=by kernel_rfl
theorem lO:AW prog 121 1=true:=by kernel_rfl
theorem l7:BF prog 121=true:=by kernel_rfl
theorem lH:Ao prog 121=some [.d (.raw .nilFunc)]:=by kernel_rfl
theorem lS:dQ prog 122 9 1 16:=Nx (by kernel_rfl)
theorem O8:AW prog 125 4=true:=by kernel_rfl
theorem ZT:CA prog 125 4=true:=by kernel_rfl
theorem Jn:AI prog 125 0=some (0,3,true):=by kernel_rfl
theorem QZ:AI prog 125 1=some (3,1,false):=by kernel_rfl
theorem V2:Au prog 125=some [(0,3),(3,1)]:=by kernel_rfl
theorem ME:Ao prog 125=some [.d (.raw (.string ⟨#[]⟩)),.d (.raw (.int .i64 0)),.d (.raw (.string ⟨#[]⟩)),.d (.raw (.int .i64 0))]:=by kernel_rfl
theorem pZ:dQ prog 131 1 1 8:=Nx (by kernel_rfl)
theorem VH:AW prog 135 3=true:=by kernel_rfl
theorem lY:CA prog 135 3=true:=by kernel_rfl
theorem Jm:AI prog 135 0=some (0,1,false):=by kernel_rfl
theorem Jl:AI prog 135 1=some (1,1,false):=by kernel_rfl
theorem Jk:AI prog 135 2=some (2,1,false):=by kernel_rfl
theorem lG:Ao prog 135=some [.d (.raw (.string ⟨#[]⟩)),.d (.raw (.string ⟨#[]⟩)),.d (.raw (.int .i64 0))]:=by kernel_rfl
theorem JF:AW prog 148 9=true:=by kernel_rfl
theorem lX:CA prog 148 9=true:=by kernel_rfl
theorem js:AI prog 148 0=some (0,1,false):=by kernel_rfl
theorem Rg:Au prog 148=some [(0,1),(1,1),(2,6),(8,1)]:=by kernel_rfl
theorem I4:Ao prog 148=some [.d (.raw (.int .i64 0)),.d (.raw (.int .i64 0)),.d (.raw (.int .i64 0)),.d (.raw (.string ⟨#[]⟩)),.d (.raw (.int .i64 0)),.d (.raw (.string ⟨#[]⟩)),.d (.raw (.string ⟨#[]⟩)),.d (.raw (.string ⟨#[]⟩)),.d (.raw (.int .i64 0))]:=by kernel_rfl
theorem pY:dQ prog 152 88 1 8:=Nx (by kernel_rfl)
theorem O7:AW prog 167 2=true:=by kernel_rfl
theorem ZS:CA prog 167 2=true:=by kernel_rfl
theorem Gk:AI prog 167 0=some (0,1,false):=by kernel_rfl
theorem QY:AI prog 167 1=some (1,1,false):=by kernel_rfl
theorem qH:Au prog 167=some [(0,1),(1,1)]:=by kernel_rfl
theorem Uw:Ao prog 167=some [.d (.raw (.pointer none)),.d (.raw (.int .i64 0))]:=by kernel_rfl
theorem lN:AW prog 173 1=true:=by kernel_rfl
theorem Rq:BF prog 173=true:=by kernel_rfl
theorem lF:Ao prog 173=some [.d (.raw (.map none))]:=by kernel_rfl
theorem ZM:dQ prog 183 190 7 104:=Nx (by kernel_rfl)
theorem Gu:AW prog 190 7=true:=by kernel_rfl
theorem LC:CA prog 190 7=true:=by kernel_rfl
theorem IM:AI prog 190 0=some (0,6,true):=by kernel_rfl
theorem Lo:AI prog 190 1=some (6,1,false):=by kernel_rfl
theorem qG:Au prog 190=some [(0,6),(6,1)]:=by kernel_rfl
theorem MD:Ao prog 190=some [.d (.raw (.int .i64 0)),.d (.raw (.int .i64 0)),.d (.raw (.int .i64 0)),.d (.sl (some true) []),.d (.sl (some true) []),.d (.sl (some true) []),.d (.raw (.map none))]:=by kernel_rfl
theorem VS:dQ prog 193 33 1 24:=Nx (by kernel_rfl)
theorem ZL:dQ prog 201 205 7 88:=Nx (by kernel_rfl)
theorem lM:AW prog 205 7=true:=by kernel_rfl
theorem jr:AI prog 205 0=some (0,6,true):=by kernel_rfl
theorem jq:AI prog 205 1=some (6,1,false):=by kernel_rfl
theorem qF:Au prog 205=some [(0,6),(6,1)]:=by kernel_rfl
theorem pC:Ao prog 205=some [.d (.raw (.int .i64 0)),.d (.raw (.string ⟨#[]⟩)),.d (.raw (.int .i64 0)),.d (.raw (.string ⟨#[]⟩)),.d (.raw (.string ⟨#[]⟩)),.d (.raw (.string ⟨#[]⟩)),.d (.raw (.int .i64 0))]:=by kernel_rfl
theorem lL:AW prog 207 8=true:=by kernel_rfl
theorem jp:AI prog 207 0=some (0,1,false):=by kernel_rfl
theorem jo:AI prog 207 2=some (7,1,false):=by kernel_rfl
theorem qE:Au prog 207=some [(0,1),(1,6),(7,1)]:=by kernel_rfl
theorem pB:Ao prog 207=some [.d (.raw (.int .i64 0)),.d (.raw (.int .i64 0)),.d (.raw (.string ⟨#[]⟩)),.d (.raw (.int .i64 0)),.d (.raw (.string ⟨#[]⟩)),.d (.raw (.string ⟨#[]⟩)),.d (.raw (.string ⟨#[]⟩)),.d (.raw (.int .i64 0))]:=by kernel_rfl
theorem Rp:BF prog 212=true:=by kernel_rfl
theorem pS:AW prog 213 1=true:=by kernel_rfl
theorem V6:BF prog 213=true:=by kernel_rfl
theorem ZK:dQ prog 213 218 8 112:=Nx (by kernel_rfl)
theorem Jj:AI prog 215 0=some (0,1,false):=by kernel_rfl
theorem jn:AI prog 215 1=some (1,1,false):=by kernel_rfl
theorem Ji:AI prog 215 2=some (2,1,false):=by kernel_rfl
theorem qD:Au prog 215=some [(0,1),(1,1),(2,1)]:=by kernel_rfl
theorem pA:Ao prog 215=some [.d (.raw (.map none)),.d (.sl (some true) []),.d (.sl (some true) [])]:=by kernel_rfl
theorem VG:AW prog 218 8=true:=by kernel_rfl
theorem lW:CA prog 218 8=true:=by kernel_rfl
theorem Jh:AI prog 218 0=some (0,6,true):=by kernel_rfl
theorem jm:AI prog 218 1=some (6,1,false):=by kernel_rfl
theorem WC:AI prog 218 2=some (7,1,false):=by kernel_rfl
theorem qC:Au prog 218=some [(0,6),(6,1),(7,1)]:=by kernel_rfl
theorem Y2:Ao prog 218=some [.d (.raw (.int .i64 0)),.d (.raw (.string ⟨#[]⟩)),.d (.raw (.int .i64 0)),.d (.raw (.string ⟨#[]⟩)),.d (.raw (.string ⟨#[]⟩)),.d (.raw (.string ⟨#[]⟩)),.d (.raw (.int .i64 0)),.d (.sl (some true) [])]:=by kernel_rfl
theorem MU:dQ prog 225 229 8 96:=Nx (by kernel_rfl)
theorem lK:AW prog 229 8=true:=by kernel_rfl
theorem pc:CA prog 229 8=true:=by kernel_rfl
theorem jl:AI prog 229 1=some (1,1,false):=by kernel_rfl
theorem l4:Au prog 229=some [(0,1),(1,1),(2,6)]:=by kernel_rfl
theorem Y1:Ao prog 229=some [.d (.raw (.int .i64 0)),.d (.raw (.int .i64 0)),.d (.raw (.int .i64 0)),.d (.raw (.string ⟨#[]⟩)),.d (.raw (.int .i64 0)),.d (.raw (.string ⟨#[]⟩)),.d (.raw (.string ⟨#[]⟩)),.d (.raw (.string ⟨#[]⟩))]:=by kernel_rfl
theorem qO:BF prog 274=true:=by kernel_rfl
theorem Ym:AW prog 321 2=true:=by kernel_rfl
theorem E4:AI prog 321 0=some (0,1,false):=by kernel_rfl
theorem Jg:AI prog 321 1=some (1,1,false):=by kernel_rfl
theorem l0:Au prog 321=some [(0,1),(1,1)]:=by kernel_rfl
theorem lE:Ao prog 321=some [.d (.raw (.int .i64 0)),.d (.raw (.int .i64 0))]:=by kernel_rfl
theorem ZJ:dQ prog 322 321 2 16:=Nx (by kernel_rfl)
theorem W2:AI prog 326 0=some (0,1,false):=by kernel_rfl
theorem jk:AI prog 326 1=some (1,1,false):=by kernel_rfl
theorem qB:Au prog 326=some [(0,1),(1,1)]:=by kernel_rfl
theorem oz:Ao prog 326=some [.d (.sl (some true) []),.d (.raw .nilFunc)]:=by kernel_rfl
theorem D8:BY prog 89 53 2=true:=by kernel_rfl
theorem Nu:CX prog 2=some (.d (.raw (.int .i64 0))):=by kernel_rfl
theorem Vm:BY prog 101 3 99=true:=by kernel_rfl
theorem sU:CX prog 3=some (.d (.raw (.int .i64 0))):=by kernel_rfl
theorem HI:B3 prog 3 (λz:Int=> .raw (.int .i64 z)) (λz=> .int .i64 z):=B3.int underlying3
theorem iE:CX prog 99=some (.d (.raw (.pointer none))):=by kernel_rfl
theorem Vl:BY prog 159 53 109=true:=by kernel_rfl
theorem Y4:CX prog 109=some (.d (.raw (.pointer none))):=by kernel_rfl
theorem ET:BY prog 173 3 4=true:=by kernel_rfl
theorem T5:CX prog 4=some (.d (.raw (.bool false))):=by kernel_rfl
theorem lh:BY prog 187 53 3=true:=by kernel_rfl
theorem lg:BY prog 188 3 3=true:=by kernel_rfl
theorem SB:BY prog 212 3 49=true:=by kernel_rfl
theorem iF:CX prog 49=some (.d (.agg [.raw (.int .i64 0),.raw (.int .i64 0),.raw (.int .i64 0),.sl (some true) [],.sl (some true) [],.sl (some true) []])):=by kernel_rfl
theorem I8:BY prog 227 3 4=true:=by kernel_rfl
theorem aY:BY prog 236 9 2=true:=by kernel_rfl
theorem s0:B3 prog 9 Ae L0:=B3.str underlying9
theorem Vk:BY prog 255 53 4=true:=by kernel_rfl
end Go.Proofs.YtnkkaeblokdifaaGreat
