import Derived.Test.YteifpcnphnhaoaaGreatMg13
import Derived.Test.YteifpcnphnhaoaaGreatRows
open Go.Proofs.Tryz
namespace Go.Proofs.YteifpcnphnhaoaaGreat
open Go.RowKit
theorem ch:type_of% @Tryz.underlying28:=@Tryz.underlying28
theorem cj:type_of% @Tryz.underlying23:=@Tryz.underlying23
theorem cl:type_of% @Tryz.underlying37:=@Tryz.underlying37
theorem dd:type_of% @Tryz.underlying147:=@Tryz.underlying147
theorem dr:type_of% @Tryz.underlying90:=@Tryz.underlying90
theorem ea:type_of% @Tryz.underlying29:=@Tryz.underlying29
theorem ek:type_of% @Tryz.underlying22:=@Tryz.underlying22
theorem ey:type_of% @Tryz.underlying194:=@Tryz.underlying194
theorem fS:type_of% @Tryz.underlying175:=@Tryz.underlying175
theorem fT:type_of% @Tryz.underlying122:=@Tryz.underlying122
theorem fU:type_of% @Tryz.underlying36:=@Tryz.underlying36
theorem fV:type_of% @Tryz.underlying91:=@Tryz.underlying91
theorem fW:type_of% @Tryz.underlying52:=@Tryz.underlying52
theorem fX:type_of% @Tryz.underlying319:=@Tryz.underlying319
theorem fY:type_of% @Tryz.underlying53:=@Tryz.underlying53
theorem mixed:prog.follows .mixedOrders=true:=by kernel_rfl
theorem vK:A3 prog 1 1=true:=by kernel_rfl
theorem vM:BQ prog 1=true:=by kernel_rfl
theorem uF:A3 prog 2 1=true:=by kernel_rfl
theorem GE:BQ prog 2=true:=by kernel_rfl
theorem BU:A3 prog 3 1=true:=by kernel_rfl
theorem An:BQ prog 3=true:=by kernel_rfl
theorem oY:Nf prog 3=some (.raw (.int .i64 0)):=by kernel_rfl
theorem ru:A3 prog 4 1=true:=by kernel_rfl
theorem pG:BQ prog 4=true:=by kernel_rfl
theorem vI:Aq prog 4=some [.d (.raw (.bool false))]:=by kernel_rfl
theorem vJ:A3 prog 9 1=true:=by kernel_rfl
theorem CK:BQ prog 9=true:=by kernel_rfl
theorem uE:A3 prog 22 1=true:=by kernel_rfl
theorem IY:BQ prog 22=true:=by kernel_rfl
theorem oq:fu prog 22 100 7 88:=NE (by kernel_rfl)
theorem uD:A3 prog 23 1=true:=by kernel_rfl
theorem Eh:BQ prog 23=true:=by kernel_rfl
theorem LZ:fu prog 23 93 6 96:=NE (by kernel_rfl)
theorem uC:A3 prog 25 2=true:=by kernel_rfl
theorem EM:Bu prog 25 2=true:=by kernel_rfl
theorem C8:AG prog 25 0=some (0,1,false):=by kernel_rfl
theorem MV:AG prog 25 1=some (1,1,false):=by kernel_rfl
theorem rS:Aq prog 25=some [.d (.sl (some true) []),.d (.sl (some true) [])]:=by kernel_rfl
theorem DD:A3 prog 28 1=true:=by kernel_rfl
theorem BL:BQ prog 28=true:=by kernel_rfl
theorem rR:Aq prog 28=some [.d (.sl (some true) [])]:=by kernel_rfl
theorem r6:Nf prog 28=some (.sl (some true) []):=by kernel_rfl
theorem BP:fu prog 28 3 1 8:=NE (by kernel_rfl)
theorem rx:A3 prog 29 1=true:=by kernel_rfl
theorem sc:BQ prog 29=true:=by kernel_rfl
theorem Nw:fu prog 29 28 1 24:=NE (by kernel_rfl)
theorem uB:A3 prog 30 1=true:=by kernel_rfl
theorem pH:BQ prog 30=true:=by kernel_rfl
theorem oo:fu prog 30 66 8 96:=NE (by kernel_rfl)
theorem rv:A3 prog 32 5=true:=by kernel_rfl
theorem uN:Bu prog 32 5=true:=by kernel_rfl
theorem jI:AG prog 32 0=some (0,1,false):=by kernel_rfl
theorem jr:AG prog 32 1=some (1,1,false):=by kernel_rfl
theorem d8:AG prog 32 2=some (2,1,false):=by kernel_rfl
theorem jq:AG prog 32 3=some (3,1,false):=by kernel_rfl
theorem i9:AG prog 32 4=some (4,1,false):=by kernel_rfl
theorem oX:Aq prog 32=some [.d (.sl (some true) []),.d (.sl (some true) []),.d (.sl (some true) []),.d (.sl (some true) []),.d (.sl (some true) [])]:=by kernel_rfl
theorem a8:A3 prog 33 1=true:=by kernel_rfl
theorem u1:BQ prog 33=true:=by kernel_rfl
theorem tw:Aq prog 33=some [.d (.raw (.int .i64 0))]:=by kernel_rfl
theorem oh:A3 prog 36 1=true:=by kernel_rfl
theorem ON:BQ prog 36=true:=by kernel_rfl
theorem My:fu prog 36 88 7 88:=NE (by kernel_rfl)
theorem k7:A3 prog 37 1=true:=by kernel_rfl
theorem JV:BQ prog 37=true:=by kernel_rfl
theorem LY:fu prog 37 55 6 96:=NE (by kernel_rfl)
theorem YT:A3 prog 39 2=true:=by kernel_rfl
theorem Bl:Bu prog 39 2=true:=by kernel_rfl
theorem Dx:AG prog 39 0=some (0,1,false):=by kernel_rfl
theorem DA:AG prog 39 1=some (1,1,false):=by kernel_rfl
theorem P3:Aq prog 39=some [.d (.sl (some true) []),.d (.sl (some true) [])]:=by kernel_rfl
theorem og:A3 prog 52 1=true:=by kernel_rfl
theorem Vd:BQ prog 52=true:=by kernel_rfl
theorem Y7:fu prog 52 158 4 48:=NE (by kernel_rfl)
theorem oe:A3 prog 53 1=true:=by kernel_rfl
theorem Yu:BQ prog 53=true:=by kernel_rfl
theorem bD:fu prog 53 161 3 40:=NE (by kernel_rfl)
theorem Co:A3 prog 55 6=true:=by kernel_rfl
theorem CP:Bu prog 55 6=true:=by kernel_rfl
theorem PQ:AG prog 55 0=some (0,1,false):=by kernel_rfl
theorem WB:AG prog 55 1=some (1,1,false):=by kernel_rfl
theorem On:AG prog 55 2=some (2,1,false):=by kernel_rfl
theorem G3:AG prog 55 3=some (3,1,false):=by kernel_rfl
theorem Hj:AG prog 55 4=some (4,1,false):=by kernel_rfl
theorem EV:AG prog 55 5=some (5,1,false):=by kernel_rfl
theorem pC:BH prog 55=some [(0,1),(1,1),(2,1),(3,1),(4,1),(5,1)]:=by kernel_rfl
theorem FG:Aq prog 55=some [.d (.raw (.int .i64 0)),.d (.raw (.int .i64 0)),.d (.raw (.int .i64 0)),.d (.sl (some true) []),.d (.sl (some true) []),.d (.sl (some true) [])]:=by kernel_rfl
theorem ou:Bu prog 62 3=true:=by kernel_rfl
theorem Rl:AG prog 62 0=some (0,1,false):=by kernel_rfl
theorem Om:AG prog 62 1=some (1,1,false):=by kernel_rfl
theorem Ol:AG prog 62 2=some (2,1,false):=by kernel_rfl
theorem br:BH prog 62=some [(0,1),(1,1),(2,1)]:=by kernel_rfl
theorem aC:Aq prog 62=some [.d (.raw (.string ⟨#[]⟩)),.d (.raw (.int .i64 0)),.d (.raw (.string ⟨#[]⟩))]:=by kernel_rfl
theorem YS:A3 prog 64 6=true:=by kernel_rfl
theorem Cc:Bu prog 64 6=true:=by kernel_rfl
theorem WA:AG prog 64 0=some (0,1,false):=by kernel_rfl
theorem Ey:AG prog 64 1=some (1,3,true):=by kernel_rfl
theorem ME:AG prog 64 2=some (4,1,false):=by kernel_rfl
theorem MD:AG prog 64 3=some (5,1,false):=by kernel_rfl
theorem TK:BH prog 64=some [(0,1),(1,3),(4,1),(5,1)]:=by kernel_rfl
theorem Jy:Aq prog 64=some [.d (.raw (.int .i64 0)),.d (.raw (.string ⟨#[]⟩)),.d (.raw (.int .i64 0)),.d (.raw (.string ⟨#[]⟩)),.d (.raw (.string ⟨#[]⟩)),.d (.raw (.string ⟨#[]⟩))]:=by kernel_rfl
theorem rr:A3 prog 66 8=true:=by kernel_rfl
theorem qT:AG prog 66 0=some (0,1,false):=by kernel_rfl
theorem qS:AG prog 66 2=some (7,1,false):=by kernel_rfl
theorem uZ:BH prog 66=some [(0,1),(1,6),(7,1)]:=by kernel_rfl
theorem tv:Aq prog 66=some [.d (.raw (.int .i64 0)),.d (.raw (.int .i64 0)),.d (.raw (.string ⟨#[]⟩)),.d (.raw (.int .i64 0)),.d (.raw (.string ⟨#[]⟩)),.d (.raw (.string ⟨#[]⟩)),.d (.raw (.string ⟨#[]⟩)),.d (.raw (.int .i64 0))]:=by kernel_rfl
theorem om:fu prog 69 73 7 88:=NE (by kernel_rfl)
theorem rq:A3 prog 73 7=true:=by kernel_rfl
theorem qR:AG prog 73 0=some (0,6,true):=by kernel_rfl
theorem qQ:AG prog 73 1=some (6,1,false):=by kernel_rfl
theorem uY:BH prog 73=some [(0,6),(6,1)]:=by kernel_rfl
theorem tu:Aq prog 73=some [.d (.raw (.int .i64 0)),.d (.raw (.string ⟨#[]⟩)),.d (.raw (.int .i64 0)),.d (.raw (.string ⟨#[]⟩)),.d (.raw (.string ⟨#[]⟩)),.d (.raw (.string ⟨#[]⟩)),.d (.raw (.int .i64 0))]:=by kernel_rfl
theorem uK:fu prog 86 9 1 16:=NE (by kernel_rfl)
theorem Mu:A3 prog 88 7=true:=by kernel_rfl
theorem VU:Bu prog 88 7=true:=by kernel_rfl
theorem Ex:AG prog 88 0=some (0,6,true):=by kernel_rfl
theorem Rk:AG prog 88 1=some (6,1,false):=by kernel_rfl
theorem pB:BH prog 88=some [(0,6),(6,1)]:=by kernel_rfl
theorem Qw:Aq prog 88=some [.d (.raw (.int .i64 0)),.d (.raw (.string ⟨#[]⟩)),.d (.raw (.int .i64 0)),.d (.raw (.string ⟨#[]⟩)),.d (.raw (.string ⟨#[]⟩)),.d (.raw (.string ⟨#[]⟩)),.d (.raw (.int .i64 0))]:=by kernel_rfl
theorem IX:BQ prog 90=true:=by kernel_rfl
theorem P9:BQ prog 91=true:=by kernel_rfl
theorem Dh:A3 prog 93 6=true:=by kernel_rfl
theorem IC:Bu prog 93 6=true:=by kernel_rfl
theorem Hi:AG prog 93 0=some (0,1,false):=by kernel_rfl
theorem Jr:AG prog 93 1=some (1,1,false):=by kernel_rfl
theorem MC:AG prog 93 2=some (2,1,false):=by kernel_rfl
theorem Cj:AG prog 93 3=some (3,1,false):=by kernel_rfl
theorem G2:AG prog 93 4=some (4,1,false):=by kernel_rfl
theorem Cz:AG prog 93 5=some (5,1,false):=by kernel_rfl
theorem kM:Aq prog 93=some [.d (.raw (.int .i64 0)),.d (.raw (.int .i64 0)),.d (.raw (.int .i64 0)),.d (.sl (some true) []),.d (.sl (some true) []),.d (.sl (some true) [])]:=by kernel_rfl
theorem uJ:fu prog 94 1 1 8:=NE (by kernel_rfl)
theorem Ya:Bu prog 96 3=true:=by kernel_rfl
theorem Rj:AG prog 96 0=some (0,1,false):=by kernel_rfl
theorem MB:AG prog 96 1=some (1,1,false):=by kernel_rfl
theorem MA:AG prog 96 2=some (2,1,false):=by kernel_rfl
theorem uX:BH prog 96=some [(0,1),(1,1),(2,1)]:=by kernel_rfl
theorem tr:Aq prog 96=some [.d (.raw (.string ⟨#[]⟩)),.d (.raw (.int .i64 0)),.d (.raw (.string ⟨#[]⟩))]:=by kernel_rfl
theorem LU:A3 prog 98 6=true:=by kernel_rfl
theorem GV:Bu prog 98 6=true:=by kernel_rfl
theorem G1:AG prog 98 0=some (0,1,false):=by kernel_rfl
theorem EU:AG prog 98 1=some (1,3,true):=by kernel_rfl
theorem Ew:AG prog 98 2=some (4,1,false):=by kernel_rfl
theorem Ev:AG prog 98 3=some (5,1,false):=by kernel_rfl
theorem bq:BH prog 98=some [(0,1),(1,3),(4,1),(5,1)]:=by kernel_rfl
theorem YG:Aq prog 98=some [.d (.raw (.int .i64 0)),.d (.raw (.string ⟨#[]⟩)),.d (.raw (.int .i64 0)),.d (.raw (.string ⟨#[]⟩)),.d (.raw (.string ⟨#[]⟩)),.d (.raw (.string ⟨#[]⟩))]:=by kernel_rfl
theorem J4:A3 prog 100 7=true:=by kernel_rfl
theorem sJ:Bu prog 100 7=true:=by kernel_rfl
theorem JN:AG prog 100 0=some (0,6,true):=by kernel_rfl
theorem Rr:AG prog 100 1=some (6,1,false):=by kernel_rfl
theorem bI:fu prog 122 131 7 104:=NE (by kernel_rfl)
theorem ac:A3 prog 124 1=true:=by kernel_rfl
theorem TR:BQ prog 124=true:=by kernel_rfl
theorem aK:Aq prog 124=some [.d (.raw .nilFunc)]:=by kernel_rfl
theorem TQ:BQ prog 129=true:=by kernel_rfl
theorem GH:A3 prog 131 7=true:=by kernel_rfl
theorem KH:Bu prog 131 7=true:=by kernel_rfl
theorem JM:AG prog 131 0=some (0,6,true):=by kernel_rfl
theorem Ky:AG prog 131 1=some (6,1,false):=by kernel_rfl
theorem s6:BH prog 131=some [(0,6),(6,1)]:=by kernel_rfl
theorem MX:Aq prog 131=some [.d (.raw (.int .i64 0)),.d (.raw (.int .i64 0)),.d (.raw (.int .i64 0)),.d (.sl (some true) []),.d (.sl (some true) []),.d (.sl (some true) []),.d (.raw (.map none))]:=by kernel_rfl
theorem ab:A3 prog 137 1=true:=by kernel_rfl
theorem QP:BQ prog 137=true:=by kernel_rfl
theorem aJ:Aq prog 137=some [.d (.raw (.map none))]:=by kernel_rfl
theorem Nx:fu prog 141 144 8 96:=NE (by kernel_rfl)
theorem nX:A3 prog 144 8=true:=by kernel_rfl
theorem sI:Bu prog 144 8=true:=by kernel_rfl
theorem lx:AG prog 144 1=some (1,1,false):=by kernel_rfl
theorem nj:BH prog 144=some [(0,1),(1,1),(2,6)]:=by kernel_rfl
theorem aI:Aq prog 144=some [.d (.raw (.int .i64 0)),.d (.raw (.int .i64 0)),.d (.raw (.int .i64 0)),.d (.raw (.string ⟨#[]⟩)),.d (.raw (.int .i64 0)),.d (.raw (.string ⟨#[]⟩)),.d (.raw (.string ⟨#[]⟩)),.d (.raw (.string ⟨#[]⟩))]:=by kernel_rfl
theorem sD:A3 prog 146 1=true:=by kernel_rfl
theorem se:BQ prog 146=true:=by kernel_rfl
theorem Wm:fu prog 147 28 1 24:=NE (by kernel_rfl)
theorem Pt:A3 prog 158 4=true:=by kernel_rfl
theorem bO:Bu prog 158 4=true:=by kernel_rfl
theorem Kx:AG prog 158 0=some (0,3,true):=by kernel_rfl
theorem Rq:AG prog 158 1=some (3,1,false):=by kernel_rfl
theorem bt:BH prog 158=some [(0,3),(3,1)]:=by kernel_rfl
theorem Pq:Aq prog 158=some [.d (.raw (.string ⟨#[]⟩)),.d (.raw (.int .i64 0)),.d (.raw (.string ⟨#[]⟩)),.d (.raw (.int .i64 0))]:=by kernel_rfl
theorem Wc:A3 prog 161 3=true:=by kernel_rfl
theorem nf:Bu prog 161 3=true:=by kernel_rfl
theorem Kw:AG prog 161 0=some (0,1,false):=by kernel_rfl
theorem Kv:AG prog 161 1=some (1,1,false):=by kernel_rfl
theorem Ku:AG prog 161 2=some (2,1,false):=by kernel_rfl
theorem nT:Aq prog 161=some [.d (.raw (.string ⟨#[]⟩)),.d (.raw (.string ⟨#[]⟩)),.d (.raw (.int .i64 0))]:=by kernel_rfl
theorem bH:fu prog 168 245 9 104:=NE (by kernel_rfl)
theorem sC:A3 prog 171 1=true:=by kernel_rfl
theorem XF:BQ prog 171=true:=by kernel_rfl
theorem rZ:Aq prog 171=some [.d (.raw (.pointer none))]:=by kernel_rfl
theorem nW:A3 prog 175 1=true:=by kernel_rfl
theorem Gp:BQ prog 175=true:=by kernel_rfl
theorem Wl:fu prog 175 176 1 8:=NE (by kernel_rfl)
theorem MZ:A3 prog 176 1=true:=by kernel_rfl
theorem OO:BQ prog 176=true:=by kernel_rfl
theorem sB:A3 prog 177 1=true:=by kernel_rfl
theorem XE:BQ prog 177=true:=by kernel_rfl
theorem n8:fu prog 177 186 1 8:=NE (by kernel_rfl)
theorem XD:BQ prog 178=true:=by kernel_rfl
theorem JL:AG prog 180 0=some (0,1,false):=by kernel_rfl
theorem Kt:AG prog 180 1=some (1,1,false):=by kernel_rfl
theorem NW:AG prog 180 2=some (2,1,false):=by kernel_rfl
theorem s5:BH prog 180=some [(0,1),(1,1),(2,1)]:=by kernel_rfl
theorem rY:Aq prog 180=some [.d (.sl (some true) []),.d (.sl (some true) []),.d (.raw (.map none))]:=by kernel_rfl
theorem sA:A3 prog 181 1=true:=by kernel_rfl
theorem XC:BQ prog 181=true:=by kernel_rfl
theorem n7:fu prog 181 188 2 16:=NE (by kernel_rfl)
theorem rz:A3 prog 182 1=true:=by kernel_rfl
theorem XB:BQ prog 182=true:=by kernel_rfl
theorem n5:fu prog 182 254 2 16:=NE (by kernel_rfl)
theorem GP:AG prog 184 0=some (0,6,true):=by kernel_rfl
theorem Ks:AG prog 184 1=some (6,1,false):=by kernel_rfl
theorem Kr:AG prog 184 2=some (7,1,false):=by kernel_rfl
theorem FP:AG prog 184 3=some (8,1,false):=by kernel_rfl
theorem s4:BH prog 184=some [(0,6),(6,1),(7,1),(8,1)]:=by kernel_rfl
theorem rX:Aq prog 184=some [.d (.raw (.int .i64 0)),.d (.raw (.int .i64 0)),.d (.raw (.int .i64 0)),.d (.sl (some true) []),.d (.sl (some true) []),.d (.sl (some true) []),.d (.sl (some true) []),.d (.sl (some true) []),.d (.raw (.bool false))]:=by kernel_rfl
theorem aa:A3 prog 186 1=true:=by kernel_rfl
theorem FA:BQ prog 186=true:=by kernel_rfl
theorem rW:Aq prog 186=some [.d (.raw (.pointer none))]:=by kernel_rfl
theorem S9:A3 prog 188 2=true:=by kernel_rfl
theorem bN:Bu prog 188 2=true:=by kernel_rfl
theorem Rp:AG prog 188 0=some (0,1,false):=by kernel_rfl
theorem Ro:AG prog 188 1=some (1,1,false):=by kernel_rfl
theorem s0:BH prog 188=some [(0,1),(1,1)]:=by kernel_rfl
theorem aH:Aq prog 188=some [.d (.raw (.pointer none)),.d (.raw (.int .i64 0))]:=by kernel_rfl
theorem NV:AG prog 190 0=some (0,6,true):=by kernel_rfl
theorem Rn:AG prog 190 1=some (6,1,false):=by kernel_rfl
theorem Kq:AG prog 190 2=some (7,1,false):=by kernel_rfl
theorem Hl:AG prog 190 3=some (8,1,false):=by kernel_rfl
theorem Kp:AG prog 190 4=some (9,1,false):=by kernel_rfl
theorem sZ:BH prog 190=some [(0,6),(6,1),(7,1),(8,1),(9,1)]:=by kernel_rfl
theorem rV:Aq prog 190=some [.d (.raw (.int .i64 0)),.d (.raw (.string ⟨#[]⟩)),.d (.raw (.int .i64 0)),.d (.raw (.string ⟨#[]⟩)),.d (.raw (.string ⟨#[]⟩)),.d (.raw (.string ⟨#[]⟩)),.d (.raw (.int .i64 0)),.d (.raw (.int .i64 0)),.d (.sl (some true) []),.d (.raw (.int .i64 0))]:=by kernel_rfl
theorem J3:A3 prog 192 4=true:=by kernel_rfl
theorem sH:Bu prog 192 4=true:=by kernel_rfl
theorem FO:AG prog 192 0=some (0,3,true):=by kernel_rfl
theorem Ko:AG prog 192 1=some (3,1,false):=by kernel_rfl
theorem rU:Aq prog 192=some [.d (.raw (.string ⟨#[]⟩)),.d (.raw (.int .i64 0)),.d (.raw (.string ⟨#[]⟩)),.d (.raw (.int .i64 0))]:=by kernel_rfl
theorem Nq:A3 prog 193 3=true:=by kernel_rfl
theorem Wo:Bu prog 193 3=true:=by kernel_rfl
theorem Eb:AG prog 193 0=some (0,1,false):=by kernel_rfl
theorem Ea:AG prog 193 1=some (1,1,false):=by kernel_rfl
theorem DN:AG prog 193 2=some (2,1,false):=by kernel_rfl
theorem aG:Aq prog 193=some [.d (.raw (.string ⟨#[]⟩)),.d (.raw (.string ⟨#[]⟩)),.d (.raw (.int .i64 0))]:=by kernel_rfl
theorem D3:fu prog 194 98 6 80:=NE (by kernel_rfl)
theorem bG:fu prog 215 218 7 88:=NE (by kernel_rfl)
theorem Wb:A3 prog 218 7=true:=by kernel_rfl
theorem nc:Bu prog 218 7=true:=by kernel_rfl
theorem Kn:AG prog 218 0=some (0,6,true):=by kernel_rfl
theorem Xb:AG prog 218 1=some (6,1,false):=by kernel_rfl
theorem sY:BH prog 218=some [(0,6),(6,1)]:=by kernel_rfl
theorem aF:Aq prog 218=some [.d (.raw (.int .i64 0)),.d (.raw (.string ⟨#[]⟩)),.d (.raw (.int .i64 0)),.d (.raw (.string ⟨#[]⟩)),.d (.raw (.string ⟨#[]⟩)),.d (.raw (.string ⟨#[]⟩)),.d (.raw (.int .i64 0))]:=by kernel_rfl
theorem TP:BQ prog 226=true:=by kernel_rfl
theorem ry:A3 prog 227 1=true:=by kernel_rfl
theorem XA:BQ prog 227=true:=by kernel_rfl
theorem bF:fu prog 227 233 8 112:=NE (by kernel_rfl)
theorem Km:AG prog 229 0=some (0,1,false):=by kernel_rfl
theorem lv:AG prog 229 1=some (1,1,false):=by kernel_rfl
theorem Kl:AG prog 229 2=some (2,1,false):=by kernel_rfl
theorem sX:BH prog 229=some [(0,1),(1,1),(2,1)]:=by kernel_rfl
theorem rT:Aq prog 229=some [.d (.raw (.map none)),.d (.sl (some true) []),.d (.sl (some true) [])]:=by kernel_rfl
theorem Wa:A3 prog 233 8=true:=by kernel_rfl
theorem na:Bu prog 233 8=true:=by kernel_rfl
theorem Kj:AG prog 233 0=some (0,6,true):=by kernel_rfl
theorem lu:AG prog 233 1=some (6,1,false):=by kernel_rfl
theorem Xa:AG prog 233 2=some (7,1,false):=by kernel_rfl
theorem sW:BH prog 233=some [(0,6),(6,1),(7,1)]:=by kernel_rfl
theorem aD:Aq prog 233=some [.d (.raw (.int .i64 0)),.d (.raw (.string ⟨#[]⟩)),.d (.raw (.int .i64 0)),.d (.raw (.string ⟨#[]⟩)),.d (.raw (.string ⟨#[]⟩)),.d (.raw (.string ⟨#[]⟩)),.d (.raw (.int .i64 0)),.d (.sl (some true) [])]:=by kernel_rfl
theorem KB:A3 prog 245 9=true:=by kernel_rfl
theorem n9:Bu prog 245 9=true:=by kernel_rfl
theorem lr:AG prog 245 0=some (0,1,false):=by kernel_rfl
theorem TL:BH prog 245=some [(0,1),(1,1),(2,6),(8,1)]:=by kernel_rfl
theorem J1:Aq prog 245=some [.d (.raw (.int .i64 0)),.d (.raw (.int .i64 0)),.d (.raw (.int .i64 0)),.d (.raw (.string ⟨#[]⟩)),.d (.raw (.int .i64 0)),.d (.raw (.string ⟨#[]⟩)),.d (.raw (.string ⟨#[]⟩)),.d (.raw (.string ⟨#[]⟩)),.d (.raw (.int .i64 0))]:=by kernel_rfl
theorem Ps:A3 prog 254 2=true:=by kernel_rfl
theorem bM:Bu prog 254 2=true:=by kernel_rfl
theorem Hk:AG prog 254 0=some (0,1,false):=by kernel_rfl
theorem Rm:AG prog 254 1=some (1,1,false):=by kernel_rfl
theorem sU:BH prog 254=some [(0,1),(1,1)]:=by kernel_rfl
theorem WZ:Aq prog 254=some [.d (.raw (.pointer none)),.d (.raw (.int .i64 0))]:=by kernel_rfl
theorem sE:fu prog 273 146 1 8:=NE (by kernel_rfl)
theorem sd:BQ prog 283=true:=by kernel_rfl
theorem a9:A3 prog 318 2=true:=by kernel_rfl
theorem FN:AG prog 318 0=some (0,1,false):=by kernel_rfl
theorem Ki:AG prog 318 1=some (1,1,false):=by kernel_rfl
theorem ng:BH prog 318=some [(0,1),(1,1)]:=by kernel_rfl
theorem nS:Aq prog 318=some [.d (.raw (.int .i64 0)),.d (.raw (.int .i64 0))]:=by kernel_rfl
theorem bE:fu prog 319 318 2 16:=NE (by kernel_rfl)
theorem Xu:AG prog 323 0=some (0,1,false):=by kernel_rfl
theorem lq:AG prog 323 1=some (1,1,false):=by kernel_rfl
theorem sT:BH prog 323=some [(0,1),(1,1)]:=by kernel_rfl
theorem rQ:Aq prog 323=some [.d (.sl (some true) []),.d (.raw .nilFunc)]:=by kernel_rfl
theorem nu:Bh prog 127 64 3=true:=by kernel_rfl
theorem uw:Cx prog 3=some (.d (.raw (.int .i64 0))):=by kernel_rfl
theorem IF:Bp prog 3 (λz:Int=> .raw (.int .i64 z)) (λz=> .int .i64 z):=Bp.int underlying3
theorem nt:Bh prog 128 3 3=true:=by kernel_rfl
theorem CL:Bh prog 129 64 2=true:=by kernel_rfl
theorem PU:Cx prog 2=some (.d (.raw (.int .i64 0))):=by kernel_rfl
theorem Ek:Bh prog 137 3 4=true:=by kernel_rfl
theorem SX:Cx prog 4=some (.d (.raw (.bool false))):=by kernel_rfl
theorem J5:Bh prog 138 3 4=true:=by kernel_rfl
theorem QV:Bh prog 155 64 4=true:=by kernel_rfl
theorem XQ:Bh prog 178 3 176=true:=by kernel_rfl
theorem W0:Cx prog 176=some (.d (.raw (.pointer none))):=by kernel_rfl
theorem T6:Bh prog 226 3 55=true:=by kernel_rfl
theorem kN:Cx prog 55=some (.d (.agg [.raw (.int .i64 0),.raw (.int .i64 0),.raw (.int .i64 0),.sl (some true) [],.sl (some true) [],.sl (some true) []])):=by kernel_rfl
theorem XP:Bh prog 248 64 186=true:=by kernel_rfl
theorem aL:Cx prog 186=some (.d (.raw (.pointer none))):=by kernel_rfl
theorem c7:Bh prog 310 9 2=true:=by kernel_rfl
theorem vB:Bp prog 9 Am Mw:=Bp.str underlying9
end Go.Proofs.YteifpcnphnhaoaaGreat
