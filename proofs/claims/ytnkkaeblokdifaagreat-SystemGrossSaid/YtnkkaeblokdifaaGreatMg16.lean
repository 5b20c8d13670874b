/- The kit's contract of slices.SortFunc laid at this program: the renumbering and its facts. Made by program (lays.py). -/
import Derived.Test.YtnkkaeblokdifaaGreatMg15
import Derived.Shelf.SlLaysF
import Derived.Shelf.SlLaysF0
import Derived.Shelf.SlLaysNS
import Derived.Test.YtnkkaeblokdifaaGreatProg
namespace Go.Proofs.YtnkkaeblokdifaaGreat
open Go.Shelf Go.Proofs Go.Proofs.Tryz
def renI:Go.Shelf.Ren:=⟨fun x=>match x with
 | 6=>147
 | 15=>72
 | 14=>185
 | 28=>133
 | 29=>134
 | 20=>213
 | 21=>214
 | 22=>215
 | 23=>216
 | 24=>217
 | 25=>218
 | 26=>219
 | 27=>220
 | 46=>240
 | 47=>170
 | 48=>171
 | 49=>241
 | 50=>242
 | 57=>250
 | x=>x,
 fun x=>match x with
 | 22=>29
 | 24=>49
 | 25=>259
 | 3=>3
 | 39=>155
 | 0=>0
 | 53=>79
 | 55=>246
 | 4=>4
 | 46=>239
 | 45=>238
 | 50=>191
 | 5=>5
 | 9=>9
 | 66=>276
 | 70=>280
 | 76=>308
 | 77=>309
 | x=>x,fun x=>x⟩
theorem laysI:SlLaysF0.n6 Tryz.prog renI where
 mixed:=rfl
 f6:=⟨Tryz.f147.name,by decide,Tryz.func147.trans (congrArg some (by kernel_rfl))⟩
 f14:=⟨Tryz.f185.name,by decide,Tryz.func185.trans (congrArg some (by kernel_rfl))⟩
 f15:=Tryz.func72.trans (congrArg some (by kernel_rfl))
 f20:=⟨Tryz.f213.name,by decide,Tryz.func213.trans (congrArg some (by kernel_rfl))⟩
 f21:=⟨Tryz.f214.name,by decide,Tryz.func214.trans (congrArg some (by kernel_rfl))⟩
 f22:=⟨Tryz.f215.name,by decide,Tryz.func215.trans (congrArg some (by kernel_rfl))⟩
 f23:=⟨Tryz.f216.name,by decide,Tryz.func216.trans (congrArg some (by kernel_rfl))⟩
 f24:=⟨Tryz.f217.name,by decide,Tryz.func217.trans (congrArg some (by kernel_rfl))⟩
 f25:=⟨Tryz.f218.name,by decide,Tryz.func218.trans (congrArg some (by kernel_rfl))⟩
 f26:=⟨Tryz.f219.name,by decide,Tryz.func219.trans (congrArg some (by kernel_rfl))⟩
 f27:=⟨Tryz.f220.name,by decide,Tryz.func220.trans (congrArg some (by kernel_rfl))⟩
 f28:=Tryz.func133.trans (congrArg some (by kernel_rfl))
 f29:=Tryz.func134.trans (congrArg some (by kernel_rfl))
 f46:=⟨Tryz.f240.name,by decide,Tryz.func240.trans (congrArg some (by kernel_rfl))⟩
 f47:=Tryz.func170.trans (congrArg some (by kernel_rfl))
 f48:=Tryz.func171.trans (congrArg some (by kernel_rfl))
 f49:=⟨Tryz.f241.name,by decide,Tryz.func241.trans (congrArg some (by kernel_rfl))⟩
 f50:=⟨Tryz.f242.name,by decide,Tryz.func242.trans (congrArg some (by kernel_rfl))⟩
 f57:=⟨Tryz.f250.name,by decide,Tryz.func250.trans (congrArg some (by kernel_rfl))⟩
 t0:=Tryz.underlying0
 a0:=Tryz.isAgg0
 z0:=Tryz.sizeOf0
 v0:=Tryz.zeroValue0
 t3:=Tryz.underlying3
 a3:=Tryz.isAgg3
 z3:=Tryz.sizeOf3
 v3:=Tryz.zeroValue3
 t4:=Tryz.underlying4
 a4:=Tryz.isAgg4
 z4:=Tryz.sizeOf4
 v4:=Tryz.zeroValue4
 t5:=Tryz.underlying5
 a5:=Tryz.isAgg5
 z5:=Tryz.sizeOf5
 v5:=Tryz.zeroValue5
 t9:=Tryz.underlying9
 a9:=Tryz.isAgg9
 z9:=Tryz.sizeOf9
 v9:=Tryz.zeroValue9
 t22:=Tryz.underlying29
 a22:=Tryz.isAgg29
 z22:=Tryz.sizeOf29
 v22:=Tryz.zeroValue29
 t25:=Tryz.underlying259
 a25:=Tryz.isAgg259
 z25:=Tryz.sizeOf259
 v25:=Tryz.zeroValue259
 t39:=Tryz.underlying155
 a39:=Tryz.isAgg155
 z39:=Tryz.sizeOf155
 v39:=Tryz.zeroValue155
 t45:=Tryz.underlying238
 a45:=Tryz.isAgg238
 z45:=Tryz.sizeOf238
 v45:=Tryz.zeroValue238
 t46:=Tryz.underlying239
 a46:=Tryz.isAgg239
 z46:=Tryz.sizeOf239
 v46:=Tryz.zeroValue239
 t50:=Tryz.underlying191
 a50:=Tryz.isAgg191
 z50:=Tryz.sizeOf191
 v50:=Tryz.zeroValue191
 t53:=Tryz.underlying79
 a53:=Tryz.isAgg79
 z53:=Tryz.sizeOf79
 v53:=Tryz.zeroValue79
 t55:=Tryz.underlying246
 a55:=Tryz.isAgg246
 z55:=Tryz.sizeOf246
 v55:=Tryz.zeroValue246
 t66:=Tryz.underlying276
 a66:=Tryz.isAgg276
 z66:=Tryz.sizeOf276
 v66:=Tryz.zeroValue276
 t70:=Tryz.underlying280
 a70:=Tryz.isAgg280
 z70:=Tryz.sizeOf280
 v70:=Tryz.zeroValue280
 t76:=Tryz.underlying308
 a76:=Tryz.isAgg308
 z76:=Tryz.sizeOf308
 v76:=Tryz.zeroValue308
 t77:=Tryz.underlying309
 a77:=Tryz.isAgg309
 z77:=Tryz.sizeOf309
 v77:=Tryz.zeroValue309
def renD:Go.Shelf.Ren:=⟨fun x=>match x with
 | 6=>31
 | 15=>72
 | 14=>71
 | 28=>133
 | 29=>134
 | 20=>125
 | 21=>126
 | 22=>127
 | 23=>128
 | 24=>129
 | 25=>130
 | 26=>131
 | 27=>132
 | 46=>169
 | 47=>170
 | 48=>171
 | 49=>172
 | 50=>173
 | 57=>207
 | x=>x,
 fun x=>match x with
 | 22=>44
 | 24=>55
 | 25=>93
 | 3=>3
 | 39=>155
 | 0=>0
 | 53=>79
 | 55=>246
 | 4=>4
 | 46=>239
 | 45=>238
 | 50=>191
 | 5=>5
 | 9=>9
 | 66=>276
 | 70=>280
 | 76=>308
 | 77=>309
 | x=>x,fun x=>x⟩
theorem laysD:SlLaysF0.n6 Tryz.prog renD where
 mixed:=rfl
 f6:=⟨Tryz.f31.name,by decide,Tryz.func31.trans (congrArg some (by kernel_rfl))⟩
 f14:=⟨Tryz.f71.name,by decide,Tryz.func71.trans (congrArg some (by kernel_rfl))⟩
 f15:=Tryz.func72.trans (congrArg some (by kernel_rfl))
 f20:=⟨Tryz.f125.name,by decide,Tryz.func125.trans (congrArg some (by kernel_rfl))⟩
 f21:=⟨Tryz.f126.name,by decide,Tryz.func126.trans (congrArg some (by kernel_rfl))⟩
 f22:=⟨Tryz.f127.name,by decide,Tryz.func127.trans (congrArg some (by kernel_rfl))⟩
 f23:=⟨Tryz.f128.name,by decide,Tryz.func128.trans (congrArg some (by kernel_rfl))⟩
 f24:=⟨Tryz.f129.name,by decide,Tryz.func129.trans (congrArg some (by kernel_rfl))⟩
 f25:=⟨Tryz.f130.name,by decide,Tryz.func130.trans (congrArg some (by kernel_rfl))⟩
 f26:=⟨Tryz.f131.name,by decide,Tryz.func131.trans (congrArg some (by kernel_rfl))⟩
 f27:=⟨Tryz.f132.name,by decide,Tryz.func132.trans (congrArg some (by kernel_rfl))⟩
 f28:=Tryz.func133.trans (congrArg some (by kernel_rfl))
 f29:=Tryz.func134.trans (congrArg some (by kernel_rfl))
 f46:=⟨Tryz.f169.name,by decide,Tryz.func169.trans (congrArg some (by kernel_rfl))⟩
 f47:=Tryz.func170.trans (congrArg some (by kernel_rfl))
 f48:=Tryz.func171.trans (congrArg some (by kernel_rfl))
 f49:=⟨Tryz.f172.name,by decide,Tryz.func172.trans (congrArg some (by kernel_rfl))⟩
 f50:=⟨Tryz.f173.name,by decide,Tryz.func173.trans (congrArg some (by kernel_rfl))⟩
 f57:=⟨Tryz.f207.name,by decide,Tryz.func207.trans (congrArg some (by kernel_rfl))⟩
 t0:=Tryz.underlying0
 a0:=Tryz.isAgg0
 z0:=Tryz.sizeOf0
 v0:=Tryz.zeroValue0
 t3:=Tryz.underlying3
 a3:=Tryz.isAgg3
 z3:=Tryz.sizeOf3
 v3:=Tryz.zeroValue3
 t4:=Tryz.underlying4
 a4:=Tryz.isAgg4
 z4:=Tryz.sizeOf4
 v4:=Tryz.zeroValue4
 t5:=Tryz.underlying5
 a5:=Tryz.isAgg5
 z5:=Tryz.sizeOf5
 v5:=Tryz.zeroValue5
 t9:=Tryz.underlying9
 a9:=Tryz.isAgg9
 z9:=Tryz.sizeOf9
 v9:=Tryz.zeroValue9
 t22:=Tryz.underlying44
 a22:=Tryz.isAgg44
 z22:=Tryz.sizeOf44
 v22:=Tryz.zeroValue44
 t25:=Tryz.underlying93
 a25:=Tryz.isAgg93
 z25:=Tryz.sizeOf93
 v25:=Tryz.zeroValue93
 t39:=Tryz.underlying155
 a39:=Tryz.isAgg155
 z39:=Tryz.sizeOf155
 v39:=Tryz.zeroValue155
 t45:=Tryz.underlying238
 a45:=Tryz.isAgg238
 z45:=Tryz.sizeOf238
 v45:=Tryz.zeroValue238
 t46:=Tryz.underlying239
 a46:=Tryz.isAgg239
 z46:=Tryz.sizeOf239
 v46:=Tryz.zeroValue239
 t50:=Tryz.underlying191
 a50:=Tryz.isAgg191
 z50:=Tryz.sizeOf191
 v50:=Tryz.zeroValue191
 t53:=Tryz.underlying79
 a53:=Tryz.isAgg79
 z53:=Tryz.sizeOf79
 v53:=Tryz.zeroValue79
 t55:=Tryz.underlying246
 a55:=Tryz.isAgg246
 z55:=Tryz.sizeOf246
 v55:=Tryz.zeroValue246
 t66:=Tryz.underlying276
 a66:=Tryz.isAgg276
 z66:=Tryz.sizeOf276
 v66:=Tryz.zeroValue276
 t70:=Tryz.underlying280
 a70:=Tryz.isAgg280
 z70:=Tryz.sizeOf280
 v70:=Tryz.zeroValue280
 t76:=Tryz.underlying308
 a76:=Tryz.isAgg308
 z76:=Tryz.sizeOf308
 v76:=Tryz.zeroValue308
 t77:=Tryz.underlying309
 a77:=Tryz.isAgg309
 z77:=Tryz.sizeOf309
 v77:=Tryz.zeroValue309
def renLn:Go.Shelf.Ren:=⟨fun x=>match x with
 | 6=>116
 | 15=>72
 | 14=>161
 | 28=>133
 | 29=>134
 | 20=>197
 | 21=>198
 | 22=>199
 | 23=>200
 | 24=>201
 | 25=>202
 | 26=>203
 | 27=>204
 | 46=>227
 | 47=>170
 | 48=>171
 | 49=>228
 | 50=>229
 | 57=>246
 | x=>x,
 fun x=>match x with
 | 22=>213
 | 24=>218
 | 25=>220
 | 3=>3
 | 39=>155
 | 0=>0
 | 53=>79
 | 55=>246
 | 4=>4
 | 46=>239
 | 45=>238
 | 50=>191
 | 5=>5
 | 9=>9
 | 66=>276
 | 70=>280
 | 76=>308
 | 77=>309
 | x=>x,fun x=>x⟩
theorem laysLn:SlLaysF0.n6 Tryz.prog renLn where
 mixed:=rfl
 f6:=⟨Tryz.f116.name,by decide,Tryz.func116.trans (congrArg some (by kernel_rfl))⟩
 f14:=⟨Tryz.f161.name,by decide,Tryz.func161.trans (congrArg some (by kernel_rfl))⟩
 f15:=Tryz.func72.trans (congrArg some (by kernel_rfl))
 f20:=⟨Tryz.f197.name,by decide,Tryz.func197.trans (congrArg some (by kernel_rfl))⟩
 f21:=⟨Tryz.f198.name,by decide,Tryz.func198.trans (congrArg some (by kernel_rfl))⟩
 f22:=⟨Tryz.f199.name,by decide,Tryz.func199.trans (congrArg some (by kernel_rfl))⟩
 f23:=⟨Tryz.f200.name,by decide,Tryz.func200.trans (congrArg some (by kernel_rfl))⟩
 f24:=⟨Tryz.f201.name,by decide,Tryz.func201.trans (congrArg some (by kernel_rfl))⟩
 f25:=⟨Tryz.f202.name,by decide,Tryz.func202.trans (congrArg some (by kernel_rfl))⟩
 f26:=⟨Tryz.f203.name,by decide,Tryz.func203.trans (congrArg some (by kernel_rfl))⟩
 f27:=⟨Tryz.f204.name,by decide,Tryz.func204.trans (congrArg some (by kernel_rfl))⟩
 f28:=Tryz.func133.trans (congrArg some (by kernel_rfl))
 f29:=Tryz.func134.trans (congrArg some (by kernel_rfl))
 f46:=⟨Tryz.f227.name,by decide,Tryz.func227.trans (congrArg some (by kernel_rfl))⟩
 f47:=Tryz.func170.trans (congrArg some (by kernel_rfl))
 f48:=Tryz.func171.trans (congrArg some (by kernel_rfl))
 f49:=⟨Tryz.f228.name,by decide,Tryz.func228.trans (congrArg some (by kernel_rfl))⟩
 f50:=⟨Tryz.f229.name,by decide,Tryz.func229.trans (congrArg some (by kernel_rfl))⟩
 f57:=⟨Tryz.f246.name,by decide,Tryz.func246.trans (congrArg some (by kernel_rfl))⟩
 t0:=Tryz.underlying0
 a0:=Tryz.isAgg0
 z0:=Tryz.sizeOf0
 v0:=Tryz.zeroValue0
 t3:=Tryz.underlying3
 a3:=Tryz.isAgg3
 z3:=Tryz.sizeOf3
 v3:=Tryz.zeroValue3
 t4:=Tryz.underlying4
 a4:=Tryz.isAgg4
 z4:=Tryz.sizeOf4
 v4:=Tryz.zeroValue4
 t5:=Tryz.underlying5
 a5:=Tryz.isAgg5
 z5:=Tryz.sizeOf5
 v5:=Tryz.zeroValue5
 t9:=Tryz.underlying9
 a9:=Tryz.isAgg9
 z9:=Tryz.sizeOf9
 v9:=Tryz.zeroValue9
 t22:=Tryz.underlying213
 a22:=Tryz.isAgg213
 z22:=Tryz.sizeOf213
 v22:=Tryz.zeroValue213
 t25:=Tryz.underlying220
 a25:=Tryz.isAgg220
 z25:=Tryz.sizeOf220
 v25:=Tryz.zeroValue220
 t39:=Tryz.underlying155
 a39:=Tryz.isAgg155
 z39:=Tryz.sizeOf155
 v39:=Tryz.zeroValue155
 t45:=Tryz.underlying238
 a45:=Tryz.isAgg238
 z45:=Tryz.sizeOf238
 v45:=Tryz.zeroValue238
 t46:=Tryz.underlying239
 a46:=Tryz.isAgg239
 z46:=Tryz.sizeOf239
 v46:=Tryz.zeroValue239
 t50:=Tryz.underlying191
 a50:=Tryz.isAgg191
 z50:=Tryz.sizeOf191
 v50:=Tryz.zeroValue191
 t53:=Tryz.underlying79
 a53:=Tryz.isAgg79
 z53:=Tryz.sizeOf79
 v53:=Tryz.zeroValue79
 t55:=Tryz.underlying246
 a55:=Tryz.isAgg246
 z55:=Tryz.sizeOf246
 v55:=Tryz.zeroValue246
 t66:=Tryz.underlying276
 a66:=Tryz.isAgg276
 z66:=Tryz.sizeOf276
 v66:=Tryz.zeroValue276
 t70:=Tryz.underlying280
 a70:=Tryz.isAgg280
 z70:=Tryz.sizeOf280
 v70:=Tryz.zeroValue280
 t76:=Tryz.underlying308
 a76:=Tryz.isAgg308
 z76:=Tryz.sizeOf308
 v76:=Tryz.zeroValue308
 t77:=Tryz.underlying309
 a77:=Tryz.isAgg309
 z77:=Tryz.sizeOf309
 v77:=Tryz.zeroValue309
def renS:Go.Shelf.Ren:=⟨fun x=>match x with
 | 53=>163
 | 64=>72
 | 63=>206
 | 78=>133
 | 79=>134
 | 70=>230
 | 71=>231
 | 72=>232
 | 73=>233
 | 74=>234
 | 75=>235
 | 59=>165
 | 76=>236
 | 77=>237
 | 88=>247
 | 89=>170
 | 90=>171
 | 91=>248
 | 92=>249
 | 68=>135
 | 96=>251
 | x=>x,
 fun x=>match x with
 | 22=>33
 | 23=>3
 | 3=>3
 | 51=>155
 | 0=>0
 | 67=>79
 | 69=>246
 | 4=>4
 | 61=>239
 | 60=>238
 | 44=>191
 | 5=>5
 | 9=>9
 | 75=>276
 | 79=>280
 | 83=>308
 | 84=>309
 | x=>x,fun x=>x⟩
theorem laysS:SlLaysN.n53 Tryz.prog renS where
 mixed:=rfl
 f53:=⟨Tryz.f163.name,by decide,Tryz.func163.trans (congrArg some (by kernel_rfl))⟩
 f59:=⟨Tryz.f165.name,by decide,Tryz.func165.trans (congrArg some (by kernel_rfl))⟩
 f63:=⟨Tryz.f206.name,by decide,Tryz.func206.trans (congrArg some (by kernel_rfl))⟩
 f64:=Tryz.func72.trans (congrArg some (by kernel_rfl))
 f68:=⟨Tryz.f135.name,by decide,Tryz.func135.trans (congrArg some (by kernel_rfl))⟩
 f70:=⟨Tryz.f230.name,by decide,Tryz.func230.trans (congrArg some (by kernel_rfl))⟩
 f71:=⟨Tryz.f231.name,by decide,Tryz.func231.trans (congrArg some (by kernel_rfl))⟩
 f72:=⟨Tryz.f232.name,by decide,Tryz.func232.trans (congrArg some (by kernel_rfl))⟩
 f73:=⟨Tryz.f233.name,by decide,Tryz.func233.trans (congrArg some (by kernel_rfl))⟩
 f74:=⟨Tryz.f234.name,by decide,Tryz.func234.trans (congrArg some (by kernel_rfl))⟩
 f75:=⟨Tryz.f235.name,by decide,Tryz.func235.trans (congrArg some (by kernel_rfl))⟩
 f76:=⟨Tryz.f236.name,by decide,Tryz.func236.trans (congrArg some (by kernel_rfl))⟩
 f77:=⟨Tryz.f237.name,by decide,Tryz.func237.trans (congrArg some (by kernel_rfl))⟩
 f78:=Tryz.func133.trans (congrArg some (by kernel_rfl))
 f79:=Tryz.func134.trans (congrArg some (by kernel_rfl))
 f88:=⟨Tryz.f247.name,by decide,Tryz.func247.trans (congrArg some (by kernel_rfl))⟩
 f89:=Tryz.func170.trans (congrArg some (by kernel_rfl))
 f90:=Tryz.func171.trans (congrArg some (by kernel_rfl))
 f91:=⟨Tryz.f248.name,by decide,Tryz.func248.trans (congrArg some (by kernel_rfl))⟩
 f92:=⟨Tryz.f249.name,by decide,Tryz.func249.trans (congrArg some (by kernel_rfl))⟩
 f96:=⟨Tryz.f251.name,by decide,Tryz.func251.trans (congrArg some (by kernel_rfl))⟩
 t0:=Tryz.underlying0
 a0:=Tryz.isAgg0
 z0:=Tryz.sizeOf0
 v0:=Tryz.zeroValue0
 t3:=Tryz.underlying3
 a3:=Tryz.isAgg3
 z3:=Tryz.sizeOf3
 v3:=Tryz.zeroValue3
 t4:=Tryz.underlying4
 a4:=Tryz.isAgg4
 z4:=Tryz.sizeOf4
 v4:=Tryz.zeroValue4
 t5:=Tryz.underlying5
 a5:=Tryz.isAgg5
 z5:=Tryz.sizeOf5
 v5:=Tryz.zeroValue5
 t9:=Tryz.underlying9
 a9:=Tryz.isAgg9
 z9:=Tryz.sizeOf9
 v9:=Tryz.zeroValue9
 t22:=Tryz.underlying33
 a22:=Tryz.isAgg33
 z22:=Tryz.sizeOf33
 v22:=Tryz.zeroValue33
 t23:=Tryz.underlying3
 a23:=Tryz.isAgg3
 z23:=Tryz.sizeOf3
 v23:=Tryz.zeroValue3
 t44:=Tryz.underlying191
 a44:=Tryz.isAgg191
 z44:=Tryz.sizeOf191
 v44:=Tryz.zeroValue191
 t51:=Tryz.underlying155
 a51:=Tryz.isAgg155
 z51:=Tryz.sizeOf155
 v51:=Tryz.zeroValue155
 t60:=Tryz.underlying238
 a60:=Tryz.isAgg238
 z60:=Tryz.sizeOf238
 v60:=Tryz.zeroValue238
 t61:=Tryz.underlying239
 a61:=Tryz.isAgg239
 z61:=Tryz.sizeOf239
 v61:=Tryz.zeroValue239
 t67:=Tryz.underlying79
 a67:=Tryz.isAgg79
 z67:=Tryz.sizeOf79
 v67:=Tryz.zeroValue79
 t69:=Tryz.underlying246
 a69:=Tryz.isAgg246
 z69:=Tryz.sizeOf246
 v69:=Tryz.zeroValue246
 t75:=Tryz.underlying276
 a75:=Tryz.isAgg276
 z75:=Tryz.sizeOf276
 v75:=Tryz.zeroValue276
 t79:=Tryz.underlying280
 a79:=Tryz.isAgg280
 z79:=Tryz.sizeOf280
 v79:=Tryz.zeroValue280
 t83:=Tryz.underlying308
 a83:=Tryz.isAgg308
 z83:=Tryz.sizeOf308
 v83:=Tryz.zeroValue308
 t84:=Tryz.underlying309
 a84:=Tryz.isAgg309
 z84:=Tryz.sizeOf309
 v84:=Tryz.zeroValue309
def renPo:Go.Shelf.Ren:=⟨fun x=>match x with
 | 6=>77
 | 15=>72
 | 14=>139
 | 28=>133
 | 29=>134
 | 20=>174
 | 21=>175
 | 22=>176
 | 23=>177
 | 24=>178
 | 25=>179
 | 26=>180
 | 27=>181
 | 46=>208
 | 47=>170
 | 48=>171
 | 49=>209
 | 50=>210
 | 57=>238
 | x=>x,
 fun x=>match x with
 | 22=>100
 | 24=>109
 | 25=>161
 | 3=>3
 | 39=>155
 | 0=>0
 | 53=>79
 | 55=>246
 | 4=>4
 | 46=>239
 | 45=>238
 | 50=>191
 | 5=>5
 | 9=>9
 | 66=>276
 | 70=>280
 | 76=>308
 | 77=>309
 | x=>x,fun x=>x⟩
theorem laysPo:SlLaysF.n6 Tryz.prog renPo where
 mixed:=rfl
 f6:=⟨Tryz.f77.name,by decide,Tryz.func77.trans (congrArg some (by kernel_rfl))⟩
 f14:=⟨Tryz.f139.name,by decide,Tryz.func139.trans (congrArg some (by kernel_rfl))⟩
 f15:=Tryz.func72.trans (congrArg some (by kernel_rfl))
 f20:=⟨Tryz.f174.name,by decide,Tryz.func174.trans (congrArg some (by kernel_rfl))⟩
 f21:=⟨Tryz.f175.name,by decide,Tryz.func175.trans (congrArg some (by kernel_rfl))⟩
 f22:=⟨Tryz.f176.name,by decide,Tryz.func176.trans (congrArg some (by kernel_rfl))⟩
 f23:=⟨Tryz.f177.name,by decide,Tryz.func177.trans (congrArg some (by kernel_rfl))⟩
 f24:=⟨Tryz.f178.name,by decide,Tryz.func178.trans (congrArg some (by kernel_rfl))⟩
 f25:=⟨Tryz.f179.name,by decide,Tryz.func179.trans (congrArg some (by kernel_rfl))⟩
 f26:=⟨Tryz.f180.name,by decide,Tryz.func180.trans (congrArg some (by kernel_rfl))⟩
 f27:=⟨Tryz.f181.name,by decide,Tryz.func181.trans (congrArg some (by kernel_rfl))⟩
 f28:=Tryz.func133.trans (congrArg some (by kernel_rfl))
 f29:=Tryz.func134.trans (congrArg some (by kernel_rfl))
 f46:=⟨Tryz.f208.name,by decide,Tryz.func208.trans (congrArg some (by kernel_rfl))⟩
 f47:=Tryz.func170.trans (congrArg some (by kernel_rfl))
 f48:=Tryz.func171.trans (congrArg some (by kernel_rfl))
 f49:=⟨Tryz.f209.name,by decide,Tryz.func209.trans (congrArg some (by kernel_rfl))⟩
 f50:=⟨Tryz.f210.name,by decide,Tryz.func210.trans (congrArg some (by kernel_rfl))⟩
 f57:=⟨Tryz.f238.name,by decide,Tryz.func238.trans (congrArg some (by kernel_rfl))⟩
 t0:=Tryz.underlying0
 a0:=Tryz.isAgg0
 z0:=Tryz.sizeOf0
 v0:=Tryz.zeroValue0
 t3:=Tryz.underlying3
 a3:=Tryz.isAgg3
 z3:=Tryz.sizeOf3
 v3:=Tryz.zeroValue3
 t4:=Tryz.underlying4
 a4:=Tryz.isAgg4
 z4:=Tryz.sizeOf4
 v4:=Tryz.zeroValue4
 t5:=Tryz.underlying5
 a5:=Tryz.isAgg5
 z5:=Tryz.sizeOf5
 v5:=Tryz.zeroValue5
 t9:=Tryz.underlying9
 a9:=Tryz.isAgg9
 z9:=Tryz.sizeOf9
 v9:=Tryz.zeroValue9
 t22:=Tryz.underlying100
 a22:=Tryz.isAgg100
 z22:=Tryz.sizeOf100
 v22:=Tryz.zeroValue100
 a24:=Tryz.isAgg109
 z24:=Tryz.sizeOf109
 t25:=Tryz.underlying161
 a25:=Tryz.isAgg161
 z25:=Tryz.sizeOf161
 v25:=Tryz.zeroValue161
 t39:=Tryz.underlying155
 a39:=Tryz.isAgg155
 z39:=Tryz.sizeOf155
 v39:=Tryz.zeroValue155
 t45:=Tryz.underlying238
 a45:=Tryz.isAgg238
 z45:=Tryz.sizeOf238
 v45:=Tryz.zeroValue238
 t46:=Tryz.underlying239
 a46:=Tryz.isAgg239
 z46:=Tryz.sizeOf239
 v46:=Tryz.zeroValue239
 t50:=Tryz.underlying191
 a50:=Tryz.isAgg191
 z50:=Tryz.sizeOf191
 v50:=Tryz.zeroValue191
 t53:=Tryz.underlying79
 a53:=Tryz.isAgg79
 z53:=Tryz.sizeOf79
 v53:=Tryz.zeroValue79
 t55:=Tryz.underlying246
 a55:=Tryz.isAgg246
 z55:=Tryz.sizeOf246
 v55:=Tryz.zeroValue246
 t66:=Tryz.underlying276
 a66:=Tryz.isAgg276
 z66:=Tryz.sizeOf276
 v66:=Tryz.zeroValue276
 t70:=Tryz.underlying280
 a70:=Tryz.isAgg280
 z70:=Tryz.sizeOf280
 v70:=Tryz.zeroValue280
 t76:=Tryz.underlying308
 a76:=Tryz.isAgg308
 z76:=Tryz.sizeOf308
 v76:=Tryz.zeroValue308
 t77:=Tryz.underlying309
 a77:=Tryz.isAgg309
 z77:=Tryz.sizeOf309
 v77:=Tryz.zeroValue309
end Go.Proofs.YtnkkaeblokdifaaGreat
/- Layer 28: an item's check; the order of resources and of items. -/
namespace Go.Proofs.YtnkkaeblokdifaaGreat
open Go.RowKit
set_option maxRecDepth 100000
def Ps (i:AT):Int:=if ∃x∈sumL (ctr i),¬(-Mx≤x.2∧x.2≤Mx) then 12 else 0
theorem bnd_bad {i:AT} {j:Nat} {r:A5} {v:Int} (hm:(sumL (ctr i))[j]?=some (r,v)) (hv:¬(-Mx≤v∧v≤Mx)):(12:Int)=Ps i:=by
 unfold Ps;rw [if_pos ⟨_,List.mem_of_getElem? hm,hv⟩]
theorem bnd_ok {i:AT} (h:∀x∈sumL (ctr i),-Mx≤x.2∧x.2≤Mx):(0:Int)=Ps i:=by
 unfold Ps;rw [if_neg];rintro ⟨x,hx,hn⟩;exact hn (h x hx)
theorem Vz (i:AT) (hi:ItmB i):AU Tryz.prog 70 [.d (BH i)] (AH (Ps i)):=by
 obtain ⟨M,hMM⟩:∃M,sumL (ctr i)=M:=⟨_,rfl⟩
 have hs:=(SS i hi).by [(2,20)] rfl;rw [hMM] at hs;refine B2 Tryz.func70 Z Z Tryz.ntmps70 Z Z Z fun F hF=>(AF (AJ (U (C5 1 Z Z Z Z Z Z Z) (AD Z Z (AG (AF (AF (AJ ?_))))))))
 first | refine J (Av Z Z Af rfl) ?_ | refine J (Aw Z Z Af Z Z Z) ?_ | refine J (Ax Z Z (rfl) rfl Af rfl) ?_
 refine U (Fp hs rfl [20] ⟨rfl,trivial⟩ Z Z Z Z Z Z Z Z Z) (U (Ja 2 Z Z Z HH Z Z Z Z) (AG (Al (DG (α:=List Nat) (fun seen=>⟨15,[(7,(.ptr 2 0 0))],[(2,[.iter 20 0 M.length seen]),(20,[CL EX AH M])]⟩) (fun seen=>∀x∈M,x∈EP M (List.range M.length) seen∨(-Mx≤x.2∧x.2≤Mx)) (fun seen=>(EP M (List.range M.length) seen).length) ([]) (fun x hx=> .inl (by rw [IK (by simp)];exact hx)) (BA hF [2,20] Z Z ⟨rfl,trivial⟩) ?_))));intro seen hI;refine AF (AJ (P3 (M) Z Z Z Z (fun hl8=>?_) (fun j8 b8 k8 v8 hm8 hb8 hB8 hp8=>⟨_,rfl,?_⟩)))
 ·first | refine J (B6 Z Z Z) ?_ | refine J (B7 Z Z Z) ?_
  refine AG (AF (Fs Z Z (CW (AF (AJ (AD Z Z (AG (Ae ?_))))))));exact ⟨_,[],[],Aa rfl,rfl,rfl,Aj (bnd_ok fun x hx=>by rw [hMM] at hx;exact (hI x hx).elim (fun h=>by rw [hl8] at h;cases h) id),rfl⟩
 ·first | refine J (B6 Z Z Z) ?_ | refine J (B7 Z Z Z) ?_
  refine AG (AF (EB Z Z (Ak (Al (AF (AJ (J (Jc (M) j8 b8 Z Z Z hm8 hb8 rfl) ?_)))))))
  first | refine J (B6 Z Z Z) ?_ | refine J (B7 Z Z Z) ?_
  refine AD Z Z (AG (AF (AJ (AC Z Z (J (B1 (G5 v8 (-1000000000000000) 1000000000000000) Z Z) ?_)))))
  first | refine J (GZ Z Z) ?_ | refine J (GP Z Z) ?_
  refine AG ?_
  first | refine Ay rfl (fun h14=>?_) (fun h14=>?_) | refine At rfl (fun h14=>?_) (fun h14=>?_)
  ·refine AF (AJ (AD Z Z (AG (Ae ?_))));exact ⟨_,[],[],Aa rfl,rfl,rfl,Aj (bnd_bad (by rw [hMM];exact hm8) (by simpa [Mx] using h14)),rfl⟩
  ·refine Ak ?_;exact ⟨seen++ [b8],fun x hx=>(hI x hx).elim (fun h=>(List.mem_cons.1 (hp8.mem_iff.1 h)).elim (fun e=> .inr (by rw [e];simpa [Mx] using h14)) .inl) .inr,by rw [hp8.length_eq];exact Nat.lt_succ_self _,BA hF [2,20] rfl (rfl) ⟨rfl,trivial⟩⟩
theorem Uh {α:Type} {l:List α} {f:α ->Int}:Bl (l.map f)=0↔∀x∈l,f x=0:=by
 induction l with
 | nil=>simp [Bl]
 | cons a l ih=>
  simp only [List.map_cons,Bl]
  split
  ·rename_i h;simp [ih,h]
  ·rename_i h;simp [h]
def QI (i:AT):List (FuncId×Int):=[(66,MZ i),(67,Sr i),(68,Rt i),(69,Rr i),(70,Ps i)]
def BV (i:AT):Int:=if ¬(0≤i.id∧i.id≤1000000000)∨¬(0≤i.sq∧i.sq≤1000000000)∨¬(0≤i.pr∧i.pr≤2) then 2 else if 256<i.po.length∨256<i.pa.length∨256<i.af.length then 8 else Bl ((QI i).map Prod.snd)
theorem Sm {i:AT} (h:MZ i=0):∀p∈i.po,-Mx≤p.d∧p.d≤Mx:=fun p hp=>by
 have:=Uh.1 h p hp;unfold Qn at this
 split at this; · cases this
 split at this; · cases this
 split at this; · cases this
 rename_i h;exact Decidable.of_not_not h
theorem pay_b {i:AT} (h:Sr i=0):∀p∈i.pa,0≤p.n∧p.n≤Mx:=fun p hp=>by
 have:=Uh.1 h p hp;unfold QP at this
 split at this; · cases this
 split at this; · cases this
 split at this; · cases this
 rename_i h;exact Decidable.of_not_not h
theorem fns_p (i:AT) (h1:i.po.length≤256) (h2:i.pa.length≤256) (h3:i.af.length≤256) {k:Nat} (hk:k<(QI i).length) (h0:∀j,j<k ->((QI i)[j]?).map Prod.snd=some 0):AU Tryz.prog (QI i)[k].1 [.d (BH i)] (AH (QI i)[k].2):=by
 match k,hk with
 | 0,_=>exact Sl i (by omega)
 | 1,_=>exact Sp i (by omega)
 | 2,_=>exact after_p i (by omega)
 | 3,_=>exact TX i h1 (Sm (by have:=h0 0 (by omega);simpa [QI] using this))
 | 4,_=>exact Vz i ⟨h1,h2,h3,Sm (by have:=h0 0 (by omega);simpa [QI] using this),pay_b (by have:=h0 1 (by omega);simpa [QI] using this)⟩
def fnD (i:AT) (p:FuncId×Int):D:= .fn p.1 [BH i] []
theorem KR (i:AT) (g1:i.po.length≤140737488355328) (g2:i.pa.length≤140737488355328) (g3:i.af.length≤140737488355328):AU Tryz.prog 29 [.d (BH i)] (AH (BV i)):=by
 refine B2 Tryz.func29 Z Z Tryz.ntmps29 Z Z Z fun F hF=>?_;refine AF (AJ (U (C5 1 Z Z Z Z Z Z Z) (AD Z Z (AG (AF (Al (AF (AJ ?_))))))))
 first | refine J (AM rfl Bm Z Z Z) ?_ | refine J (AO rfl Bm Z Z Z) ?_ | refine J (AP rfl Bm Z Z Z) ?_ | refine J (AN rfl Bm Z Z Z) ?_ | refine J (AL rfl Bm Z Z Z) ?_
 first | refine J (AY Z Z Ab rfl) ?_ | refine J (AW Z Z Z Ab rfl) ?_ | refine J (AX Z Z (rfl) rfl Ab rfl) ?_
 refine J (B1 (HJ _ _ _) Z Z) ?_
 first | refine J (GZ Z Z) ?_ | refine J (GP Z Z) ?_
 refine AC Z Z ?_
 first | refine I5 11 rfl (fun h11=>?_) (fun h11=>?_) | refine Hw 11 rfl (fun h11=>?_) (fun h11=>?_)
 ·refine A8 Z Z Z Z ?_;refine A8 Z Z Z Z (A8 Z Z Z Z (A8 Z Z Z Z (J (DX Z Z Z Z) (AC Z Z (A8 Z Z Z Z (A8 Z Z Z Z (A8 Z Z Z Z (A8 Z Z Z Z ?_))))))));refine J (DX Z Z Z Z) (AD Z Z (AG (EB Z Z (AF (AJ (AD Z Z (AG (Ae ?_))))))));exact ⟨_,[],[],Aa rfl,rfl,rfl,Aj (by unfold BV;rw [if_pos (by omega)]),rfl⟩
 ·refine A9 Z Z Z ?_
  first | refine J (AM rfl G1 Z Z Z) ?_ | refine J (AO rfl G1 Z Z Z) ?_ | refine J (AP rfl G1 Z Z Z) ?_ | refine J (AN rfl G1 Z Z Z) ?_ | refine J (AL rfl G1 Z Z Z) ?_
  refine A9 Z Z Z ?_
  first | refine J (AY Z Z Ab rfl) ?_ | refine J (AW Z Z Z Ab rfl) ?_ | refine J (AX Z Z (rfl) rfl Ab rfl) ?_
  refine A9 Z Z Z (J (B1 (HJ _ _ _) Z Z) (A9 Z Z Z ?_))
  first | refine J (GZ Z Z) ?_ | refine J (GP Z Z) ?_
  refine J (EC Z Z Z Z) (AC Z Z ?_)
  first | refine I5 17 rfl (fun h17=>?_) (fun h17=>?_) | refine Hw 17 rfl (fun h17=>?_) (fun h17=>?_)
  ·refine A8 Z Z Z Z (A8 Z Z Z Z (A8 Z Z Z Z (A8 Z Z Z Z ?_)));refine J (DX Z Z Z Z) (AD Z Z (AG (EB Z Z (AF (AJ (AD Z Z (AG (Ae ?_))))))));exact ⟨_,[],[],Aa rfl,rfl,rfl,Aj (by unfold BV;rw [if_pos (by omega)]),rfl⟩
  ·refine A9 Z Z Z ?_
   first | refine J (AM rfl Ll Z Z Z) ?_ | refine J (AO rfl Ll Z Z Z) ?_ | refine J (AP rfl Ll Z Z Z) ?_ | refine J (AN rfl Ll Z Z Z) ?_ | refine J (AL rfl Ll Z Z Z) ?_
   refine A9 Z Z Z ?_
   first | refine J (AY Z Z Ab rfl) ?_ | refine J (AW Z Z Z Ab rfl) ?_ | refine J (AX Z Z (rfl) rfl Ab rfl) ?_
   refine A9 Z Z Z (J (B1 (HJ _ _ _) Z Z) (A9 Z Z Z ?_))
   first | refine J (GZ Z Z) ?_ | refine J (GP Z Z) ?_
   refine J (EC Z Z Z Z) (AD Z Z (AG ?_))
   first | refine Ay rfl (fun h6=>?_) (fun h6=>?_) | refine At rfl (fun h6=>?_) (fun h6=>?_)
   ·refine AF (AJ (AD Z Z (AG (Ae ?_))));exact ⟨_,[],[],Aa rfl,rfl,rfl,Aj (by unfold BV;rw [if_pos (by omega)]),rfl⟩
   ·refine AF (AJ ?_)
    first | refine J (AM rfl Dl Z Z Z) ?_ | refine J (AO rfl Dl Z Z Z) ?_ | refine J (AP rfl Dl Z Z Z) ?_ | refine J (AN rfl Dl Z Z Z) ?_ | refine J (AL rfl Dl Z Z Z) ?_
    first | refine J (AY Z Z Fi rfl) ?_ | refine J (AW Z Z Z Fi rfl) ?_ | refine J (AX Z Z (rfl) rfl Fi rfl) ?_
    first | refine J (Cz rfl Tryz.underlying46 rfl) ?_ | refine J (C9 Z Z Tryz.underlying46 rfl) ?_ | refine J (DB rfl Tryz.underlying46 rfl) ?_ | refine J (Cy rfl Tryz.underlying46 rfl) ?_ | refine J (Cr rfl Tryz.underlying46 rfl) ?_ | refine J (Cw rfl Tryz.underlying46 rfl) ?_
    first | refine J (Ca Z Z Z) ?_ | refine J (SB Z Z Z) ?_
    refine AC Z Z ?_
    first | refine I5 28 rfl (fun h28=>?_) (fun h28=>?_) | refine Hw 28 rfl (fun h28=>?_) (fun h28=>?_)
    ·refine A8 Z Z Z Z ?_;refine A8 Z Z Z Z (A8 Z Z Z Z (A8 Z Z Z Z (J (DX Z Z Z Z) (AC Z Z (A8 Z Z Z Z (A8 Z Z Z Z (A8 Z Z Z Z (A8 Z Z Z Z ?_))))))));refine J (DX Z Z Z Z) (AD Z Z (AG (EB Z Z (AF (AJ (AD Z Z (AG (Ae ?_))))))));exact ⟨_,[],[],Aa rfl,rfl,rfl,Aj (by unfold BV;rw [if_neg (by omega),if_pos (by omega)]),rfl⟩
    ·refine A9 Z Z Z ?_
     first | refine J (AM rfl FN Z Z Z) ?_ | refine J (AO rfl FN Z Z Z) ?_ | refine J (AP rfl FN Z Z Z) ?_ | refine J (AN rfl FN Z Z Z) ?_ | refine J (AL rfl FN Z Z Z) ?_
     refine A9 Z Z Z ?_
     first | refine J (AY Z Z HE rfl) ?_ | refine J (AW Z Z Z HE rfl) ?_ | refine J (AX Z Z (rfl) rfl HE rfl) ?_
     refine A9 Z Z Z ?_
     first | refine J (Cz rfl Tryz.underlying47 rfl) ?_ | refine J (C9 Z Z Tryz.underlying47 rfl) ?_ | refine J (DB rfl Tryz.underlying47 rfl) ?_ | refine J (Cy rfl Tryz.underlying47 rfl) ?_ | refine J (Cr rfl Tryz.underlying47 rfl) ?_ | refine J (Cw rfl Tryz.underlying47 rfl) ?_
     refine A9 Z Z Z ?_
     first | refine J (Ca Z Z Z) ?_ | refine J (SB Z Z Z) ?_
     refine J (EC Z Z Z Z) (AC Z Z ?_)
     first | refine I5 34 rfl (fun h34=>?_) (fun h34=>?_) | refine Hw 34 rfl (fun h34=>?_) (fun h34=>?_)
     ·refine A8 Z Z Z Z (A8 Z Z Z Z (A8 Z Z Z Z (A8 Z Z Z Z ?_)));refine J (DX Z Z Z Z) (AD Z Z (AG (EB Z Z (AF (AJ (AD Z Z (AG (Ae ?_))))))));exact ⟨_,[],[],Aa rfl,rfl,rfl,Aj (by unfold BV;rw [if_neg (by omega),if_pos (by omega)]),rfl⟩
     ·refine A9 Z Z Z ?_
      first | refine J (AM rfl El Z Z Z) ?_ | refine J (AO rfl El Z Z Z) ?_ | refine J (AP rfl El Z Z Z) ?_ | refine J (AN rfl El Z Z Z) ?_ | refine J (AL rfl El Z Z Z) ?_
      refine A9 Z Z Z ?_
      first | refine J (AY Z Z BO rfl) ?_ | refine J (AW Z Z Z BO rfl) ?_ | refine J (AX Z Z (rfl) rfl BO rfl) ?_
      refine A9 Z Z Z ?_
      first | refine J (Cz rfl Tryz.underlying33 rfl) ?_ | refine J (C9 Z Z Tryz.underlying33 rfl) ?_ | refine J (DB rfl Tryz.underlying33 rfl) ?_ | refine J (Cy rfl Tryz.underlying33 rfl) ?_ | refine J (Cr rfl Tryz.underlying33 rfl) ?_ | refine J (Cw rfl Tryz.underlying33 rfl) ?_
      refine A9 Z Z Z ?_
      first | refine J (Ca Z Z Z) ?_ | refine J (SB Z Z Z) ?_
      refine J (EC Z Z Z Z) (AD Z Z (AG ?_))
      first | refine Ay rfl (fun h23=>?_) (fun h23=>?_) | refine At rfl (fun h23=>?_) (fun h23=>?_)
      ·refine AF (AJ (AD Z Z (AG (Ae ?_))));exact ⟨_,[],[],Aa rfl,rfl,rfl,Aj (by unfold BV;rw [if_neg (by omega),if_pos (by omega)]),rfl⟩
      ·refine Ak (AF (AF (AJ ?_)))
       first | refine J (Av Z Z Af rfl) ?_ | refine J (Aw Z Z Af Z Z Z) ?_ | refine J (Ax Z Z (rfl) rfl Af rfl) ?_
       refine J (DP (ds:=[BH i]) (es:=[]) Z Z Z Z Z) ?_
       first | refine J (Av Z Z Af rfl) ?_ | refine J (Aw Z Z Af Z Z Z) ?_ | refine J (Ax Z Z (rfl) rfl Af rfl) ?_
       refine J (DP (ds:=[BH i]) (es:=[]) Z Z Z Z Z) ?_
       first | refine J (Av Z Z Af rfl) ?_ | refine J (Aw Z Z Af Z Z Z) ?_ | refine J (Ax Z Z (rfl) rfl Af rfl) ?_
       refine J (DP (ds:=[BH i]) (es:=[]) Z Z Z Z Z) ?_
       first | refine J (Av Z Z Af rfl) ?_ | refine J (Aw Z Z Af Z Z Z) ?_ | refine J (Ax Z Z (rfl) rfl Af rfl) ?_
       refine J (DP (ds:=[BH i]) (es:=[]) Z Z Z Z Z) ?_
       first | refine J (Av Z Z Af rfl) ?_ | refine J (Aw Z Z Af Z Z Z) ?_ | refine J (Ax Z Z (rfl) rfl Af rfl) ?_
       refine J (DP (ds:=[BH i]) (es:=[]) Z Z Z Z Z) (U (Fq 2 sl152 Z Z Z Z Z Z Z Z) ?_)
       first | refine J (Cz rfl Tryz.underlying152 rfl) ?_ | refine J (C9 Z Z Tryz.underlying152 rfl) ?_ | refine J (DB rfl Tryz.underlying152 rfl) ?_ | refine J (Cy rfl Tryz.underlying152 rfl) ?_ | refine J (Cr rfl Tryz.underlying152 rfl) ?_ | refine J (Cw rfl Tryz.underlying152 rfl) ?_
       refine AC Z Z (AG (Al (DG (α:=Nat) (fun k=>⟨62,[(50,(.own 2 0 5)),(51,(.d (AH 5))),(52,(.d (AH (k:Int))))],[(2,[.rowD 88 1 ((QI i).map (fnD i))])]⟩) (fun k=>k≤5∧Bl ((QI i).map Prod.snd)=Bl (((QI i).drop k).map Prod.snd)∧∀j,j<k ->((QI i)[j]?).map Prod.snd=some 0) (fun k=>5 - k) (0) (⟨Nat.zero_le _,rfl,fun j h=>absurd h (Nat.not_lt_zero j)⟩) (BA hF [2] Z Z ⟨rfl,rfl,rfl,trivial⟩) ?_)));rintro k ⟨hk0,hkE,hkz⟩;refine AF (AJ ?_)
       first | refine J (CD Z Z Z) ?_ | refine J (CE Z Z Z) ?_
       refine AG (AF ?_)
       first | refine Ay rfl (fun h53=>?_) (fun h53=>?_) | refine At rfl (fun h53=>?_) (fun h53=>?_)
       ·have hk1:k<(QI i).length:=by show k<5;have h:=h53;omega
        refine Ak (AF (Al (AF (AJ ?_))));have hE:=Dg hk1 hkE
        first | refine J (CT (k) Z Z (rfl) (by show k<5;exact hk1) Tryz.underlying152 rfl sz88 rfl) ?_ | refine J (CU (k) Z Z (rfl) (by show k<5;exact hk1) rfl Tryz.underlying152 sz88 rfl) ?_
        first | refine J (AY Z Z on88 rfl) ?_ | refine J (AW Z Z Z on88 rfl) ?_ | refine J (AX Z Z (A0 hk1) rfl on88 rfl) ?_
        refine AD Z Z (AG ?_);refine AF (AJ (AC Z Z (J (Uy (fns_p i (by omega) (by omega) (by omega) hk1 hkz) Z Z) (AD Z Z (AG (AF (AJ (AC Z Z ?_))))))))
        first | refine J (Fa Z Z Z) ?_ | refine J (F9 Z Z Z) ?_ | refine J (FM Z Z Z) ?_ | refine J (Fb Tryz.underlying34 Z Z Z) ?_ | refine J (Fd Tryz.underlying34 Z Z Z) ?_ | refine J (st_neqN Tryz.underlying34 Z Z) ?_ | refine J (Fc Tryz.underlying34 Z Z Z) ?_ | refine J (st_neqFN Tryz.underlying34 Z Z) ?_
        refine AG ?_
        first | refine Ay rfl (fun h59=>?_) (fun h59=>?_) | refine At rfl (fun h59=>?_) (fun h59=>?_)
        ·refine AF (AJ (AC Z Z (AD Z Z (AG (Ae ?_)))));exact ⟨_,[],[],Aa rfl,rfl,rfl,Aj (by unfold BV;rw [if_neg (by omega),if_neg (by omega)];exact hE.2 _ rfl (by simpa using h59)),rfl⟩
        ·refine Ak (AJ (J (Bi Z Z (Ac (k+1) (by omega)) rfl) (AC Z Z (AG ?_))));exact ⟨k+1,⟨by show k+1≤_;omega,hE.1 (by simpa using h59),fun j hj=>(Nat.lt_succ_iff_lt_or_eq.1 hj).elim (hkz j) fun h=>by subst h;rw [List.getElem?_eq_getElem hk1];show some _=_;congr 1;simpa using h59⟩,by show 5 - (k+1)<5 - k;omega,BA hF [2] rfl (rfl) ⟨rfl,rfl,rfl,trivial⟩⟩
       ·refine CW (AF (AJ (AD Z Z (AG (Ae ?_)))));exact ⟨_,[],[],Aa rfl,rfl,rfl,Aj (by unfold BV;rw [if_neg (by omega),if_neg (by omega),hkE,GG (by have h:=h53;show ¬k<5;omega)]),rfl⟩
theorem or_p (l:List Int) (hn:l.length≤140737488355328):AU Tryz.prog 73 [.d (.sl none (l.map AH))] (AH (Bl l)):=by
 refine B2 Tryz.func73 Z Z Tryz.ntmps73 Z Z Z fun F hF=>(AF (AJ (AD Z Z ?_)));refine AG (AF (AJ (AD Z Z (AG (AF (AF (AJ (AC Z Z ?_))))))))
 first | refine J (Cz rfl Tryz.underlying33 rfl) ?_ | refine J (C9 Z Z Tryz.underlying33 rfl) ?_ | refine J (DB rfl Tryz.underlying33 rfl) ?_ | refine J (Cy rfl Tryz.underlying33 rfl) ?_ | refine J (Cr rfl Tryz.underlying33 rfl) ?_ | refine J (Cw rfl Tryz.underlying33 rfl) ?_
 refine AC Z Z (AG (Al (EQ (α:=Nat) (fun k=>⟨18,[(3,(.d (AH 0))),(6,(.d (.sl none (l.map AH)))),(7,(.d (AH (l.length:Int)))),(8,(.d (AH (k:Int))))],[]⟩) (fun k=>k≤l.length∧Bl (l.map id)=Bl ((l.drop k).map id)) (fun k=>l.length - k) (0) (⟨Nat.zero_le _,rfl⟩) (Ui ⟨rfl,rfl,rfl,rfl,trivial⟩) ?_)));rintro k ⟨hk0,hk⟩;refine AF (AJ ?_)
 first | refine J (CD Z Z Z) ?_ | refine J (CE Z Z Z) ?_
 refine AG (AF ?_)
 first | refine Ay rfl (fun h9=>?_) (fun h9=>?_) | refine At rfl (fun h9=>?_) (fun h9=>?_)
 ·have hk1:k<l.length:=DA h9;refine Ak (AF (Al (AF (AJ ?_))));have hE:=Dg hk1 hk
  first | refine J (CT (k) Z Z (rfl) (A0 hk1) Tryz.underlying33 rfl Ep rfl) ?_ | refine J (CU (k) Z Z (rfl) (A0 hk1) rfl Tryz.underlying33 Ep rfl) ?_
  first | refine J (AY Z Z Ab rfl) ?_ | refine J (AW Z Z Z Ab rfl) ?_ | refine J (AX Z Z (rfl) rfl Ab rfl) ?_
  refine AD Z Z (AG (AF (AJ (AC Z Z (AC Z Z ?_)))))
  first | refine J (Fa Z Z Z) ?_ | refine J (F9 Z Z Z) ?_ | refine J (FM Z Z Z) ?_ | refine J (Fb Tryz.underlying3 Z Z Z) ?_ | refine J (Fd Tryz.underlying3 Z Z Z) ?_ | refine J (st_neqN Tryz.underlying3 Z Z) ?_ | refine J (Fc Tryz.underlying3 Z Z Z) ?_ | refine J (st_neqFN Tryz.underlying3 Z Z) ?_
  refine AG ?_
  first | refine Ay rfl (fun h14=>?_) (fun h14=>?_) | refine At rfl (fun h14=>?_) (fun h14=>?_)
  ·refine AF (AJ (AC Z Z (AD Z Z (AG (Ae ?_)))));exact ⟨_,[],[],Aa rfl,rfl,rfl,Aj ((hE.2 l[k] rfl (by simpa using h14)).trans (by rw [List.map_id])),rfl⟩
  ·refine Ak (AJ (J (Bi Z Z (Ac (k+1) (by omega)) rfl) (AC Z Z (AG ?_))));exact ⟨k+1,⟨by show k+1≤_;omega,hE.1 (by simpa using h14)⟩,by show l.length - (k+1)<l.length - k;omega,⟨rfl,rfl,fun _ _=>N2.get (l:=[(3,_),(6,_),(7,_),(8,_)]) ⟨rfl,rfl,rfl,rfl,trivial⟩⟩⟩
 ·refine CW (AF (AJ (AC Z Z (AD Z Z (AG (Ae ?_))))));exact ⟨_,[],[],Aa rfl,rfl,rfl,Aj (by rw [List.map_id] at hk;rw [hk,GG (by have h:=h9;omega)]),rfl⟩
def By (a b:A5):Int:=Bl [Dk a.k b.k,E2 a.acc.o b.acc.o,Dk a.acc.k b.acc.k,E2 a.acc.a b.acc.a,E2 a.f b.f,E2 a.t b.t]
def It (a b:AT):Int:=Bl [Dk b.pr a.pr,Dk a.sq b.sq]
set_option maxHeartbeats 2000000 in
theorem Ky (a b:A5):AU Tryz.prog 33 [.d (EX a),.d (EX b)] (AH (By a b)):=by
 refine B2 Tryz.func33 Z Z Tryz.ntmps33 Z Z Z fun F hF=>?_;refine AF (AJ (U (C5 1 Z Z Z Z Z Z Z) (U (C5 2 Z Z Z Z Z Z Z) (AD Z Z (AG (AF (Gp [[],[0],[],[2],[0,1,2,3],[],[5],[5,6],[],[8],[8,9],[0,1,2,3,4,5,6,7,8,9,10],[],[12],[12,13],[],[15],[15,16],[0,1,2,3,4,5,6,7,8,9,10,11,12,13,14,15,16,17],[],[19],[19,20],[],[22],[22,23],[0,1,2,3,4,5,6,7,8,9,10,11,12,13,14,15,16,17,18,19,20,21,22,23,24],[],[26],[],[28],[0,1,2,3,4,5,6,7,8,9,10,11,12,13,14,15,16,17,18,19,20,21,22,23,24,25,26,27,28,29],[],[31],[],[33],[0,1,2,3,4,5,6,7,8,9,10,11,12,13,14,15,16,17,18,19,20,21,22,23,24,25,26,27,28,29,30,31,32,33,34],[0,1,2,3,4,5,6,7,8,9,10,11,12,13,14,15,16,17,18,19,20,21,22,23,24,25,26,27,28,29,30,31,32,33,34,35],[0,1,2,3,4,5,6,7,8,9,10,11,12,13,14,15,16,17,18,19,20,21,22,23,24,25,26,27,28,29,30,31,32,33,34,35,36],[0,1,2,3,4,5,6,7,8,9,10,11,12,13,14,15,16,17,18,19,20,21,22,23,24,25,26,27,28,29,30,31,32,33,34,35,36,37]] BF rfl (Hh ?_))))))))
 first | refine AE [2] [] Z Z (fun _=>AB (AM rfl Lm Z Z Z)) ?_ | refine AI [2] Z Z (fun _=>AB (AM rfl Lm Z Z Z)) ?_ | refine AE [2] [] Z Z (fun _=>AB (AO rfl Lm Z Z Z)) ?_ | refine AI [2] Z Z (fun _=>AB (AO rfl Lm Z Z Z)) ?_ | refine AE [2] [] Z Z (fun _=>AB (AP rfl Lm Z Z Z)) ?_ | refine AI [2] Z Z (fun _=>AB (AP rfl Lm Z Z Z)) ?_ | refine AE [2] [] Z Z (fun _=>AB (AN rfl Lm Z Z Z)) ?_ | refine AI [2] Z Z (fun _=>AB (AN rfl Lm Z Z Z)) ?_ | refine AE [2] [] Z Z (fun _=>AB (AL rfl Lm Z Z Z)) ?_ | refine AI [2] Z Z (fun _=>AB (AL rfl Lm Z Z Z)) ?_
 first | refine AE [5] [] Z Z (fun _=>AB (AY Z Z Ab rfl)) ?_ | refine AI [5] Z Z (fun _=>AB (AY Z Z Ab rfl)) ?_ | refine AE [5] [] Z Z (fun _=>AB (AW Z Z Z Ab rfl)) ?_ | refine AI [5] Z Z (fun _=>AB (AW Z Z Z Ab rfl)) ?_ | refine AE [5] [] Z Z (fun _=>AB (AX Z Z (rfl) rfl Ab rfl)) ?_ | refine AI [5] Z Z (fun _=>AB (AX Z Z (rfl) rfl Ab rfl)) ?_
 first | refine AE [3] [] Z Z (fun _=>AB (AM rfl Lm Z Z Z)) ?_ | refine AI [3] Z Z (fun _=>AB (AM rfl Lm Z Z Z)) ?_ | refine AE [3] [] Z Z (fun _=>AB (AO rfl Lm Z Z Z)) ?_ | refine AI [3] Z Z (fun _=>AB (AO rfl Lm Z Z Z)) ?_ | refine AE [3] [] Z Z (fun _=>AB (AP rfl Lm Z Z Z)) ?_ | refine AI [3] Z Z (fun _=>AB (AP rfl Lm Z Z Z)) ?_ | refine AE [3] [] Z Z (fun _=>AB (AN rfl Lm Z Z Z)) ?_ | refine AI [3] Z Z (fun _=>AB (AN rfl Lm Z Z Z)) ?_ | refine AE [3] [] Z Z (fun _=>AB (AL rfl Lm Z Z Z)) ?_ | refine AI [3] Z Z (fun _=>AB (AL rfl Lm Z Z Z)) ?_
 first | refine AE [7] [] Z Z (fun _=>AB (AY Z Z Ab rfl)) ?_ | refine AI [7] Z Z (fun _=>AB (AY Z Z Ab rfl)) ?_ | refine AE [7] [] Z Z (fun _=>AB (AW Z Z Z Ab rfl)) ?_ | refine AI [7] Z Z (fun _=>AB (AW Z Z Z Ab rfl)) ?_ | refine AE [7] [] Z Z (fun _=>AB (AX Z Z (rfl) rfl Ab rfl)) ?_ | refine AI [7] Z Z (fun _=>AB (AX Z Z (rfl) rfl Ab rfl)) ?_
 first | refine AE [6,8] [] Z Z (fun _=>AB (B1 (JK a.k b.k) Z Z)) ?_ | refine AI [6,8] Z Z (fun _=>AB (B1 (JK a.k b.k) Z Z)) ?_
 first | refine AE [2] [] Z Z (fun _=>AB (AM rfl Bs Z Z Z)) ?_ | refine AI [2] Z Z (fun _=>AB (AM rfl Bs Z Z Z)) ?_ | refine AE [2] [] Z Z (fun _=>AB (AO rfl Bs Z Z Z)) ?_ | refine AI [2] Z Z (fun _=>AB (AO rfl Bs Z Z Z)) ?_ | refine AE [2] [] Z Z (fun _=>AB (AP rfl Bs Z Z Z)) ?_ | refine AI [2] Z Z (fun _=>AB (AP rfl Bs Z Z Z)) ?_ | refine AE [2] [] Z Z (fun _=>AB (AN rfl Bs Z Z Z)) ?_ | refine AI [2] Z Z (fun _=>AB (AN rfl Bs Z Z Z)) ?_ | refine AE [2] [] Z Z (fun _=>AB (AL rfl Bs Z Z Z)) ?_ | refine AI [2] Z Z (fun _=>AB (AL rfl Bs Z Z Z)) ?_
 first | refine AE [10] [] Z Z (fun _=>AB (AM rfl JS Z Z Z)) ?_ | refine AI [10] Z Z (fun _=>AB (AM rfl JS Z Z Z)) ?_ | refine AE [10] [] Z Z (fun _=>AB (AO rfl JS Z Z Z)) ?_ | refine AI [10] Z Z (fun _=>AB (AO rfl JS Z Z Z)) ?_ | refine AE [10] [] Z Z (fun _=>AB (AP rfl JS Z Z Z)) ?_ | refine AI [10] Z Z (fun _=>AB (AP rfl JS Z Z Z)) ?_ | refine AE [10] [] Z Z (fun _=>AB (AN rfl JS Z Z Z)) ?_ | refine AI [10] Z Z (fun _=>AB (AN rfl JS Z Z Z)) ?_ | refine AE [10] [] Z Z (fun _=>AB (AL rfl JS Z Z Z)) ?_ | refine AI [10] Z Z (fun _=>AB (AL rfl JS Z Z Z)) ?_
 first | refine AE [11] [] Z Z (fun _=>AB (AY Z Z As rfl)) ?_ | refine AI [11] Z Z (fun _=>AB (AY Z Z As rfl)) ?_ | refine AE [11] [] Z Z (fun _=>AB (AW Z Z Z As rfl)) ?_ | refine AI [11] Z Z (fun _=>AB (AW Z Z Z As rfl)) ?_ | refine AE [11] [] Z Z (fun _=>AB (AX Z Z (rfl) rfl As rfl)) ?_ | refine AI [11] Z Z (fun _=>AB (AX Z Z (rfl) rfl As rfl)) ?_
 first | refine AE [3] [] Z Z (fun _=>AB (AM rfl Bs Z Z Z)) ?_ | refine AI [3] Z Z (fun _=>AB (AM rfl Bs Z Z Z)) ?_ | refine AE [3] [] Z Z (fun _=>AB (AO rfl Bs Z Z Z)) ?_ | refine AI [3] Z Z (fun _=>AB (AO rfl Bs Z Z Z)) ?_ | refine AE [3] [] Z Z (fun _=>AB (AP rfl Bs Z Z Z)) ?_ | refine AI [3] Z Z (fun _=>AB (AP rfl Bs Z Z Z)) ?_ | refine AE [3] [] Z Z (fun _=>AB (AN rfl Bs Z Z Z)) ?_ | refine AI [3] Z Z (fun _=>AB (AN rfl Bs Z Z Z)) ?_ | refine AE [3] [] Z Z (fun _=>AB (AL rfl Bs Z Z Z)) ?_ | refine AI [3] Z Z (fun _=>AB (AL rfl Bs Z Z Z)) ?_
 first | refine AE [13] [] Z Z (fun _=>AB (AM rfl JS Z Z Z)) ?_ | refine AI [13] Z Z (fun _=>AB (AM rfl JS Z Z Z)) ?_ | refine AE [13] [] Z Z (fun _=>AB (AO rfl JS Z Z Z)) ?_ | refine AI [13] Z Z (fun _=>AB (AO rfl JS Z Z Z)) ?_ | refine AE [13] [] Z Z (fun _=>AB (AP rfl JS Z Z Z)) ?_ | refine AI [13] Z Z (fun _=>AB (AP rfl JS Z Z Z)) ?_ | refine AE [13] [] Z Z (fun _=>AB (AN rfl JS Z Z Z)) ?_ | refine AI [13] Z Z (fun _=>AB (AN rfl JS Z Z Z)) ?_ | refine AE [13] [] Z Z (fun _=>AB (AL rfl JS Z Z Z)) ?_ | refine AI [13] Z Z (fun _=>AB (AL rfl JS Z Z Z)) ?_
 first | refine AE [14] [] Z Z (fun _=>AB (AY Z Z As rfl)) ?_ | refine AI [14] Z Z (fun _=>AB (AY Z Z As rfl)) ?_ | refine AE [14] [] Z Z (fun _=>AB (AW Z Z Z As rfl)) ?_ | refine AI [14] Z Z (fun _=>AB (AW Z Z Z As rfl)) ?_ | refine AE [14] [] Z Z (fun _=>AB (AX Z Z (rfl) rfl As rfl)) ?_ | refine AI [14] Z Z (fun _=>AB (AX Z Z (rfl) rfl As rfl)) ?_
 first | refine AE [12,15] [] Z Z (fun _=>AB (B1 (JJ a.acc.o b.acc.o) Z Z)) ?_ | refine AI [12,15] Z Z (fun _=>AB (B1 (JJ a.acc.o b.acc.o) Z Z)) ?_
 first | refine AE [2] [] Z Z (fun _=>AB (AM rfl Bs Z Z Z)) ?_ | refine AI [2] Z Z (fun _=>AB (AM rfl Bs Z Z Z)) ?_ | refine AE [2] [] Z Z (fun _=>AB (AO rfl Bs Z Z Z)) ?_ | refine AI [2] Z Z (fun _=>AB (AO rfl Bs Z Z Z)) ?_ | refine AE [2] [] Z Z (fun _=>AB (AP rfl Bs Z Z Z)) ?_ | refine AI [2] Z Z (fun _=>AB (AP rfl Bs Z Z Z)) ?_ | refine AE [2] [] Z Z (fun _=>AB (AN rfl Bs Z Z Z)) ?_ | refine AI [2] Z Z (fun _=>AB (AN rfl Bs Z Z Z)) ?_ | refine AE [2] [] Z Z (fun _=>AB (AL rfl Bs Z Z Z)) ?_ | refine AI [2] Z Z (fun _=>AB (AL rfl Bs Z Z Z)) ?_
 first | refine AE [17] [] Z Z (fun _=>AB (AM rfl Hs Z Z Z)) ?_ | refine AI [17] Z Z (fun _=>AB (AM rfl Hs Z Z Z)) ?_ | refine AE [17] [] Z Z (fun _=>AB (AO rfl Hs Z Z Z)) ?_ | refine AI [17] Z Z (fun _=>AB (AO rfl Hs Z Z Z)) ?_ | refine AE [17] [] Z Z (fun _=>AB (AP rfl Hs Z Z Z)) ?_ | refine AI [17] Z Z (fun _=>AB (AP rfl Hs Z Z Z)) ?_ | refine AE [17] [] Z Z (fun _=>AB (AN rfl Hs Z Z Z)) ?_ | refine AI [17] Z Z (fun _=>AB (AN rfl Hs Z Z Z)) ?_ | refine AE [17] [] Z Z (fun _=>AB (AL rfl Hs Z Z Z)) ?_ | refine AI [17] Z Z (fun _=>AB (AL rfl Hs Z Z Z)) ?_
 first | refine AE [18] [] Z Z (fun _=>AB (AY Z Z Ab rfl)) ?_ | refine AI [18] Z Z (fun _=>AB (AY Z Z Ab rfl)) ?_ | refine AE [18] [] Z Z (fun _=>AB (AW Z Z Z Ab rfl)) ?_ | refine AI [18] Z Z (fun _=>AB (AW Z Z Z Ab rfl)) ?_ | refine AE [18] [] Z Z (fun _=>AB (AX Z Z (rfl) rfl Ab rfl)) ?_ | refine AI [18] Z Z (fun _=>AB (AX Z Z (rfl) rfl Ab rfl)) ?_
 first | refine AE [3] [] Z Z (fun _=>AB (AM rfl Bs Z Z Z)) ?_ | refine AI [3] Z Z (fun _=>AB (AM rfl Bs Z Z Z)) ?_ | refine AE [3] [] Z Z (fun _=>AB (AO rfl Bs Z Z Z)) ?_ | refine AI [3] Z Z (fun _=>AB (AO rfl Bs Z Z Z)) ?_ | refine AE [3] [] Z Z (fun _=>AB (AP rfl Bs Z Z Z)) ?_ | refine AI [3] Z Z (fun _=>AB (AP rfl Bs Z Z Z)) ?_ | refine AE [3] [] Z Z (fun _=>AB (AN rfl Bs Z Z Z)) ?_ | refine AI [3] Z Z (fun _=>AB (AN rfl Bs Z Z Z)) ?_ | refine AE [3] [] Z Z (fun _=>AB (AL rfl Bs Z Z Z)) ?_ | refine AI [3] Z Z (fun _=>AB (AL rfl Bs Z Z Z)) ?_
 first | refine AE [20] [] Z Z (fun _=>AB (AM rfl Hs Z Z Z)) ?_ | refine AI [20] Z Z (fun _=>AB (AM rfl Hs Z Z Z)) ?_ | refine AE [20] [] Z Z (fun _=>AB (AO rfl Hs Z Z Z)) ?_ | refine AI [20] Z Z (fun _=>AB (AO rfl Hs Z Z Z)) ?_ | refine AE [20] [] Z Z (fun _=>AB (AP rfl Hs Z Z Z)) ?_ | refine AI [20] Z Z (fun _=>AB (AP rfl Hs Z Z Z)) ?_ | refine AE [20] [] Z Z (fun _=>AB (AN rfl Hs Z Z Z)) ?_ | refine AI [20] Z Z (fun _=>AB (AN rfl Hs Z Z Z)) ?_ | refine AE [20] [] Z Z (fun _=>AB (AL rfl Hs Z Z Z)) ?_ | refine AI [20] Z Z (fun _=>AB (AL rfl Hs Z Z Z)) ?_
 first | refine AE [21] [] Z Z (fun _=>AB (AY Z Z Ab rfl)) ?_ | refine AI [21] Z Z (fun _=>AB (AY Z Z Ab rfl)) ?_ | refine AE [21] [] Z Z (fun _=>AB (AW Z Z Z Ab rfl)) ?_ | refine AI [21] Z Z (fun _=>AB (AW Z Z Z Ab rfl)) ?_ | refine AE [21] [] Z Z (fun _=>AB (AX Z Z (rfl) rfl Ab rfl)) ?_ | refine AI [21] Z Z (fun _=>AB (AX Z Z (rfl) rfl Ab rfl)) ?_
 first | refine AE [19,22] [] Z Z (fun _=>AB (B1 (JK a.acc.k b.acc.k) Z Z)) ?_ | refine AI [19,22] Z Z (fun _=>AB (B1 (JK a.acc.k b.acc.k) Z Z)) ?_
 first | refine AE [2] [] Z Z (fun _=>AB (AM rfl Bs Z Z Z)) ?_ | refine AI [2] Z Z (fun _=>AB (AM rfl Bs Z Z Z)) ?_ | refine AE [2] [] Z Z (fun _=>AB (AO rfl Bs Z Z Z)) ?_ | refine AI [2] Z Z (fun _=>AB (AO rfl Bs Z Z Z)) ?_ | refine AE [2] [] Z Z (fun _=>AB (AP rfl Bs Z Z Z)) ?_ | refine AI [2] Z Z (fun _=>AB (AP rfl Bs Z Z Z)) ?_ | refine AE [2] [] Z Z (fun _=>AB (AN rfl Bs Z Z Z)) ?_ | refine AI [2] Z Z (fun _=>AB (AN rfl Bs Z Z Z)) ?_ | refine AE [2] [] Z Z (fun _=>AB (AL rfl Bs Z Z Z)) ?_ | refine AI [2] Z Z (fun _=>AB (AL rfl Bs Z Z Z)) ?_
 first | refine AE [24] [] Z Z (fun _=>AB (AM rfl Ht Z Z Z)) ?_ | refine AI [24] Z Z (fun _=>AB (AM rfl Ht Z Z Z)) ?_ | refine AE [24] [] Z Z (fun _=>AB (AO rfl Ht Z Z Z)) ?_ | refine AI [24] Z Z (fun _=>AB (AO rfl Ht Z Z Z)) ?_ | refine AE [24] [] Z Z (fun _=>AB (AP rfl Ht Z Z Z)) ?_ | refine AI [24] Z Z (fun _=>AB (AP rfl Ht Z Z Z)) ?_ | refine AE [24] [] Z Z (fun _=>AB (AN rfl Ht Z Z Z)) ?_ | refine AI [24] Z Z (fun _=>AB (AN rfl Ht Z Z Z)) ?_ | refine AE [24] [] Z Z (fun _=>AB (AL rfl Ht Z Z Z)) ?_ | refine AI [24] Z Z (fun _=>AB (AL rfl Ht Z Z Z)) ?_
 first | refine AE [25] [] Z Z (fun _=>AB (AY Z Z As rfl)) ?_ | refine AI [25] Z Z (fun _=>AB (AY Z Z As rfl)) ?_ | refine AE [25] [] Z Z (fun _=>AB (AW Z Z Z As rfl)) ?_ | refine AI [25] Z Z (fun _=>AB (AW Z Z Z As rfl)) ?_ | refine AE [25] [] Z Z (fun _=>AB (AX Z Z (rfl) rfl As rfl)) ?_ | refine AI [25] Z Z (fun _=>AB (AX Z Z (rfl) rfl As rfl)) ?_
 first | refine AE [3] [] Z Z (fun _=>AB (AM rfl Bs Z Z Z)) ?_ | refine AI [3] Z Z (fun _=>AB (AM rfl Bs Z Z Z)) ?_ | refine AE [3] [] Z Z (fun _=>AB (AO rfl Bs Z Z Z)) ?_ | refine AI [3] Z Z (fun _=>AB (AO rfl Bs Z Z Z)) ?_ | refine AE [3] [] Z Z (fun _=>AB (AP rfl Bs Z Z Z)) ?_ | refine AI [3] Z Z (fun _=>AB (AP rfl Bs Z Z Z)) ?_ | refine AE [3] [] Z Z (fun _=>AB (AN rfl Bs Z Z Z)) ?_ | refine AI [3] Z Z (fun _=>AB (AN rfl Bs Z Z Z)) ?_ | refine AE [3] [] Z Z (fun _=>AB (AL rfl Bs Z Z Z)) ?_ | refine AI [3] Z Z (fun _=>AB (AL rfl Bs Z Z Z)) ?_
 first | refine AE [27] [] Z Z (fun _=>AB (AM rfl Ht Z Z Z)) ?_ | refine AI [27] Z Z (fun _=>AB (AM rfl Ht Z Z Z)) ?_ | refine AE [27] [] Z Z (fun _=>AB (AO rfl Ht Z Z Z)) ?_ | refine AI [27] Z Z (fun _=>AB (AO rfl Ht Z Z Z)) ?_ | refine AE [27] [] Z Z (fun _=>AB (AP rfl Ht Z Z Z)) ?_ | refine AI [27] Z Z (fun _=>AB (AP rfl Ht Z Z Z)) ?_ | refine AE [27] [] Z Z (fun _=>AB (AN rfl Ht Z Z Z)) ?_ | refine AI [27] Z Z (fun _=>AB (AN rfl Ht Z Z Z)) ?_ | refine AE [27] [] Z Z (fun _=>AB (AL rfl Ht Z Z Z)) ?_ | refine AI [27] Z Z (fun _=>AB (AL rfl Ht Z Z Z)) ?_
 first | refine AE [28] [] Z Z (fun _=>AB (AY Z Z As rfl)) ?_ | refine AI [28] Z Z (fun _=>AB (AY Z Z As rfl)) ?_ | refine AE [28] [] Z Z (fun _=>AB (AW Z Z Z As rfl)) ?_ | refine AI [28] Z Z (fun _=>AB (AW Z Z Z As rfl)) ?_ | refine AE [28] [] Z Z (fun _=>AB (AX Z Z (rfl) rfl As rfl)) ?_ | refine AI [28] Z Z (fun _=>AB (AX Z Z (rfl) rfl As rfl)) ?_
 first | refine AE [26,29] [] Z Z (fun _=>AB (B1 (JJ a.acc.a b.acc.a) Z Z)) ?_ | refine AI [26,29] Z Z (fun _=>AB (B1 (JJ a.acc.a b.acc.a) Z Z)) ?_
 first | refine AE [2] [] Z Z (fun _=>AB (AM rfl FO Z Z Z)) ?_ | refine AI [2] Z Z (fun _=>AB (AM rfl FO Z Z Z)) ?_ | refine AE [2] [] Z Z (fun _=>AB (AO rfl FO Z Z Z)) ?_ | refine AI [2] Z Z (fun _=>AB (AO rfl FO Z Z Z)) ?_ | refine AE [2] [] Z Z (fun _=>AB (AP rfl FO Z Z Z)) ?_ | refine AI [2] Z Z (fun _=>AB (AP rfl FO Z Z Z)) ?_ | refine AE [2] [] Z Z (fun _=>AB (AN rfl FO Z Z Z)) ?_ | refine AI [2] Z Z (fun _=>AB (AN rfl FO Z Z Z)) ?_ | refine AE [2] [] Z Z (fun _=>AB (AL rfl FO Z Z Z)) ?_ | refine AI [2] Z Z (fun _=>AB (AL rfl FO Z Z Z)) ?_
 first | refine AE [31] [] Z Z (fun _=>AB (AY Z Z As rfl)) ?_ | refine AI [31] Z Z (fun _=>AB (AY Z Z As rfl)) ?_ | refine AE [31] [] Z Z (fun _=>AB (AW Z Z Z As rfl)) ?_ | refine AI [31] Z Z (fun _=>AB (AW Z Z Z As rfl)) ?_ | refine AE [31] [] Z Z (fun _=>AB (AX Z Z (rfl) rfl As rfl)) ?_ | refine AI [31] Z Z (fun _=>AB (AX Z Z (rfl) rfl As rfl)) ?_
 first | refine AE [3] [] Z Z (fun _=>AB (AM rfl FO Z Z Z)) ?_ | refine AI [3] Z Z (fun _=>AB (AM rfl FO Z Z Z)) ?_ | refine AE [3] [] Z Z (fun _=>AB (AO rfl FO Z Z Z)) ?_ | refine AI [3] Z Z (fun _=>AB (AO rfl FO Z Z Z)) ?_ | refine AE [3] [] Z Z (fun _=>AB (AP rfl FO Z Z Z)) ?_ | refine AI [3] Z Z (fun _=>AB (AP rfl FO Z Z Z)) ?_ | refine AE [3] [] Z Z (fun _=>AB (AN rfl FO Z Z Z)) ?_ | refine AI [3] Z Z (fun _=>AB (AN rfl FO Z Z Z)) ?_ | refine AE [3] [] Z Z (fun _=>AB (AL rfl FO Z Z Z)) ?_ | refine AI [3] Z Z (fun _=>AB (AL rfl FO Z Z Z)) ?_
 first | refine AE [33] [] Z Z (fun _=>AB (AY Z Z As rfl)) ?_ | refine AI [33] Z Z (fun _=>AB (AY Z Z As rfl)) ?_ | refine AE [33] [] Z Z (fun _=>AB (AW Z Z Z As rfl)) ?_ | refine AI [33] Z Z (fun _=>AB (AW Z Z Z As rfl)) ?_ | refine AE [33] [] Z Z (fun _=>AB (AX Z Z (rfl) rfl As rfl)) ?_ | refine AI [33] Z Z (fun _=>AB (AX Z Z (rfl) rfl As rfl)) ?_
 first | refine AE [32,34] [] Z Z (fun _=>AB (B1 (JJ a.f b.f) Z Z)) ?_ | refine AI [32,34] Z Z (fun _=>AB (B1 (JJ a.f b.f) Z Z)) ?_
 first | refine AE [2] [] Z Z (fun _=>AB (AM rfl G2 Z Z Z)) ?_ | refine AI [2] Z Z (fun _=>AB (AM rfl G2 Z Z Z)) ?_ | refine AE [2] [] Z Z (fun _=>AB (AO rfl G2 Z Z Z)) ?_ | refine AI [2] Z Z (fun _=>AB (AO rfl G2 Z Z Z)) ?_ | refine AE [2] [] Z Z (fun _=>AB (AP rfl G2 Z Z Z)) ?_ | refine AI [2] Z Z (fun _=>AB (AP rfl G2 Z Z Z)) ?_ | refine AE [2] [] Z Z (fun _=>AB (AN rfl G2 Z Z Z)) ?_ | refine AI [2] Z Z (fun _=>AB (AN rfl G2 Z Z Z)) ?_ | refine AE [2] [] Z Z (fun _=>AB (AL rfl G2 Z Z Z)) ?_ | refine AI [2] Z Z (fun _=>AB (AL rfl G2 Z Z Z)) ?_
 first | refine AE [36] [] Z Z (fun _=>AB (AY Z Z As rfl)) ?_ | refine AI [36] Z Z (fun _=>AB (AY Z Z As rfl)) ?_ | refine AE [36] [] Z Z (fun _=>AB (AW Z Z Z As rfl)) ?_ | refine AI [36] Z Z (fun _=>AB (AW Z Z Z As rfl)) ?_ | refine AE [36] [] Z Z (fun _=>AB (AX Z Z (rfl) rfl As rfl)) ?_ | refine AI [36] Z Z (fun _=>AB (AX Z Z (rfl) rfl As rfl)) ?_
 first | refine AE [3] [] Z Z (fun _=>AB (AM rfl G2 Z Z Z)) ?_ | refine AI [3] Z Z (fun _=>AB (AM rfl G2 Z Z Z)) ?_ | refine AE [3] [] Z Z (fun _=>AB (AO rfl G2 Z Z Z)) ?_ | refine AI [3] Z Z (fun _=>AB (AO rfl G2 Z Z Z)) ?_ | refine AE [3] [] Z Z (fun _=>AB (AP rfl G2 Z Z Z)) ?_ | refine AI [3] Z Z (fun _=>AB (AP rfl G2 Z Z Z)) ?_ | refine AE [3] [] Z Z (fun _=>AB (AN rfl G2 Z Z Z)) ?_ | refine AI [3] Z Z (fun _=>AB (AN rfl G2 Z Z Z)) ?_ | refine AE [3] [] Z Z (fun _=>AB (AL rfl G2 Z Z Z)) ?_ | refine AI [3] Z Z (fun _=>AB (AL rfl G2 Z Z Z)) ?_
 first | refine AE [38] [] Z Z (fun _=>AB (AY Z Z As rfl)) ?_ | refine AI [38] Z Z (fun _=>AB (AY Z Z As rfl)) ?_ | refine AE [38] [] Z Z (fun _=>AB (AW Z Z Z As rfl)) ?_ | refine AI [38] Z Z (fun _=>AB (AW Z Z Z As rfl)) ?_ | refine AE [38] [] Z Z (fun _=>AB (AX Z Z (rfl) rfl As rfl)) ?_ | refine AI [38] Z Z (fun _=>AB (AX Z Z (rfl) rfl As rfl)) ?_
 refine GR 35 Z Z Z (BC 36 Z Z (J (B1 (JJ a.t b.t) Z Z) (AG ⟨rfl,?_⟩)));refine BC 37 Z Z (U (Fq 3 C7 Z Z Z Z Z Z Z Z) (AG ⟨rfl,?_⟩));refine BC 38 Z Z (J (Ef [3] (or_p [Dk a.k b.k,E2 a.acc.o b.acc.o,Dk a.acc.k b.acc.k,E2 a.acc.a b.acc.a,E2 a.f b.f,E2 a.t b.t] (by simp)) (by exact ⟨.inr ⟨_,_,rfl,.own Z Z (by simp) (List.take_of_length_le (by simp)),rfl⟩,trivial⟩) Z Z) (AG ⟨rfl,?_⟩));refine BC 39 Z Z (AD Z Z (AG ⟨rfl,?_⟩));refine GQ (Ae ?_);exact ⟨_,[],[],Aa rfl,rfl,rfl,rfl,rfl⟩
theorem order_p (a b:AT):AU Tryz.prog 184 [.d (BH a),.d (BH b)] (AH (It a b)):=by
 refine B2 Tryz.func184 Z Z Tryz.ntmps184 Z Z Z fun F hF=>?_;refine AF (AJ (U (C5 1 Z Z Z Z Z Z Z) (U (C5 2 Z Z Z Z Z Z Z) (AD Z Z (AG (AF (Gp [[],[0],[],[2],[0,1,2,3],[],[5],[],[7],[0,1,2,3,4,5,6,7,8],[0,1,2,3,4,5,6,7,8,9],[0,1,2,3,4,5,6,7,8,9,10],[0,1,2,3,4,5,6,7,8,9,10,11]] BF rfl (Hh ?_))))))))
 first | refine AE [3] [] Z Z (fun _=>AB (AM rfl Ll Z Z Z)) ?_ | refine AI [3] Z Z (fun _=>AB (AM rfl Ll Z Z Z)) ?_ | refine AE [3] [] Z Z (fun _=>AB (AO rfl Ll Z Z Z)) ?_ | refine AI [3] Z Z (fun _=>AB (AO rfl Ll Z Z Z)) ?_ | refine AE [3] [] Z Z (fun _=>AB (AP rfl Ll Z Z Z)) ?_ | refine AI [3] Z Z (fun _=>AB (AP rfl Ll Z Z Z)) ?_ | refine AE [3] [] Z Z (fun _=>AB (AN rfl Ll Z Z Z)) ?_ | refine AI [3] Z Z (fun _=>AB (AN rfl Ll Z Z Z)) ?_ | refine AE [3] [] Z Z (fun _=>AB (AL rfl Ll Z Z Z)) ?_ | refine AI [3] Z Z (fun _=>AB (AL rfl Ll Z Z Z)) ?_
 first | refine AE [5] [] Z Z (fun _=>AB (AY Z Z Ab rfl)) ?_ | refine AI [5] Z Z (fun _=>AB (AY Z Z Ab rfl)) ?_ | refine AE [5] [] Z Z (fun _=>AB (AW Z Z Z Ab rfl)) ?_ | refine AI [5] Z Z (fun _=>AB (AW Z Z Z Ab rfl)) ?_ | refine AE [5] [] Z Z (fun _=>AB (AX Z Z (rfl) rfl Ab rfl)) ?_ | refine AI [5] Z Z (fun _=>AB (AX Z Z (rfl) rfl Ab rfl)) ?_
 first | refine AE [2] [] Z Z (fun _=>AB (AM rfl Ll Z Z Z)) ?_ | refine AI [2] Z Z (fun _=>AB (AM rfl Ll Z Z Z)) ?_ | refine AE [2] [] Z Z (fun _=>AB (AO rfl Ll Z Z Z)) ?_ | refine AI [2] Z Z (fun _=>AB (AO rfl Ll Z Z Z)) ?_ | refine AE [2] [] Z Z (fun _=>AB (AP rfl Ll Z Z Z)) ?_ | refine AI [2] Z Z (fun _=>AB (AP rfl Ll Z Z Z)) ?_ | refine AE [2] [] Z Z (fun _=>AB (AN rfl Ll Z Z Z)) ?_ | refine AI [2] Z Z (fun _=>AB (AN rfl Ll Z Z Z)) ?_ | refine AE [2] [] Z Z (fun _=>AB (AL rfl Ll Z Z Z)) ?_ | refine AI [2] Z Z (fun _=>AB (AL rfl Ll Z Z Z)) ?_
 first | refine AE [7] [] Z Z (fun _=>AB (AY Z Z Ab rfl)) ?_ | refine AI [7] Z Z (fun _=>AB (AY Z Z Ab rfl)) ?_ | refine AE [7] [] Z Z (fun _=>AB (AW Z Z Z Ab rfl)) ?_ | refine AI [7] Z Z (fun _=>AB (AW Z Z Z Ab rfl)) ?_ | refine AE [7] [] Z Z (fun _=>AB (AX Z Z (rfl) rfl Ab rfl)) ?_ | refine AI [7] Z Z (fun _=>AB (AX Z Z (rfl) rfl Ab rfl)) ?_
 first | refine AE [6,8] [] Z Z (fun _=>AB (B1 (JK b.pr a.pr) Z Z)) ?_ | refine AI [6,8] Z Z (fun _=>AB (B1 (JK b.pr a.pr) Z Z)) ?_
 first | refine AE [2] [] Z Z (fun _=>AB (AM rfl G1 Z Z Z)) ?_ | refine AI [2] Z Z (fun _=>AB (AM rfl G1 Z Z Z)) ?_ | refine AE [2] [] Z Z (fun _=>AB (AO rfl G1 Z Z Z)) ?_ | refine AI [2] Z Z (fun _=>AB (AO rfl G1 Z Z Z)) ?_ | refine AE [2] [] Z Z (fun _=>AB (AP rfl G1 Z Z Z)) ?_ | refine AI [2] Z Z (fun _=>AB (AP rfl G1 Z Z Z)) ?_ | refine AE [2] [] Z Z (fun _=>AB (AN rfl G1 Z Z Z)) ?_ | refine AI [2] Z Z (fun _=>AB (AN rfl G1 Z Z Z)) ?_ | refine AE [2] [] Z Z (fun _=>AB (AL rfl G1 Z Z Z)) ?_ | refine AI [2] Z Z (fun _=>AB (AL rfl G1 Z Z Z)) ?_
 first | refine AE [10] [] Z Z (fun _=>AB (AY Z Z Ab rfl)) ?_ | refine AI [10] Z Z (fun _=>AB (AY Z Z Ab rfl)) ?_ | refine AE [10] [] Z Z (fun _=>AB (AW Z Z Z Ab rfl)) ?_ | refine AI [10] Z Z (fun _=>AB (AW Z Z Z Ab rfl)) ?_ | refine AE [10] [] Z Z (fun _=>AB (AX Z Z (rfl) rfl Ab rfl)) ?_ | refine AI [10] Z Z (fun _=>AB (AX Z Z (rfl) rfl Ab rfl)) ?_
 first | refine AE [3] [] Z Z (fun _=>AB (AM rfl G1 Z Z Z)) ?_ | refine AI [3] Z Z (fun _=>AB (AM rfl G1 Z Z Z)) ?_ | refine AE [3] [] Z Z (fun _=>AB (AO rfl G1 Z Z Z)) ?_ | refine AI [3] Z Z (fun _=>AB (AO rfl G1 Z Z Z)) ?_ | refine AE [3] [] Z Z (fun _=>AB (AP rfl G1 Z Z Z)) ?_ | refine AI [3] Z Z (fun _=>AB (AP rfl G1 Z Z Z)) ?_ | refine AE [3] [] Z Z (fun _=>AB (AN rfl G1 Z Z Z)) ?_ | refine AI [3] Z Z (fun _=>AB (AN rfl G1 Z Z Z)) ?_ | refine AE [3] [] Z Z (fun _=>AB (AL rfl G1 Z Z Z)) ?_ | refine AI [3] Z Z (fun _=>AB (AL rfl G1 Z Z Z)) ?_
 first | refine AE [12] [] Z Z (fun _=>AB (AY Z Z Ab rfl)) ?_ | refine AI [12] Z Z (fun _=>AB (AY Z Z Ab rfl)) ?_ | refine AE [12] [] Z Z (fun _=>AB (AW Z Z Z Ab rfl)) ?_ | refine AI [12] Z Z (fun _=>AB (AW Z Z Z Ab rfl)) ?_ | refine AE [12] [] Z Z (fun _=>AB (AX Z Z (rfl) rfl Ab rfl)) ?_ | refine AI [12] Z Z (fun _=>AB (AX Z Z (rfl) rfl Ab rfl)) ?_
 refine GR 9 Z Z Z (BC 10 Z Z (J (B1 (JK a.sq b.sq) Z Z) (AG ⟨rfl,?_⟩)));refine BC 11 Z Z (U (Fq 3 C7 Z Z Z Z Z Z Z Z) (AG ⟨rfl,?_⟩));refine BC 12 Z Z (J (Ef [3] (or_p [Dk b.pr a.pr,Dk a.sq b.sq] (by simp)) (by exact ⟨.inr ⟨_,_,rfl,.own Z Z (by simp) (List.take_of_length_le (by simp)),rfl⟩,trivial⟩) Z Z) (AG ⟨rfl,?_⟩));refine BC 13 Z Z (AD Z Z (AG ⟨rfl,?_⟩));refine GQ (Ae ?_);exact ⟨_,[],[],Aa rfl,rfl,rfl,rfl,rfl⟩
def NM (x:A5×Int):D:= .agg [AH x.1.k,Am x.1.acc.o,AH x.1.acc.k,Am x.1.acc.a,Am x.1.f,Am x.1.t,AH x.2]
theorem Vs (a b:A5×Int):AU Tryz.prog 32 [.d (NM a),.d (NM b)] (AH (By a.1 b.1)):=by
 refine B2 Tryz.func32 Z Z Tryz.ntmps32 Z Z Z fun F hF=>(AF (AJ (U (C5 1 Z Z Z Z Z Z Z) (U (C5 2 Z Z Z Z Z Z Z) (AD Z Z (AG (AF (AJ ?_))))))))
 first | refine J (AM rfl Oy Z Z Z) ?_ | refine J (AO rfl Oy Z Z Z) ?_ | refine J (AP rfl Oy Z Z Z) ?_ | refine J (AN rfl Oy Z Z Z) ?_ | refine J (AL rfl Oy Z Z Z) ?_
 first | refine J (Av Z Z Ah rfl) ?_ | refine J (Aw Z Z Ah Z Z Z) ?_ | refine J (Ax Z Z (rfl) rfl Ah rfl) ?_
 first | refine J (AM rfl Oy Z Z Z) ?_ | refine J (AO rfl Oy Z Z Z) ?_ | refine J (AP rfl Oy Z Z Z) ?_ | refine J (AN rfl Oy Z Z Z) ?_ | refine J (AL rfl Oy Z Z Z) ?_
 first | refine J (Av Z Z Ah rfl) ?_ | refine J (Aw Z Z Ah Z Z Z) ?_ | refine J (Ax Z Z (rfl) rfl Ah rfl) ?_
 refine J (B1 (Ky a.1 b.1) Z Z) (AD Z Z (AG (Ae ?_)));exact ⟨_,[],[],Aa rfl,rfl,rfl,rfl,rfl⟩
theorem Kj:∀a b c:List UInt8,O6 a b=true ->O6 b c=true ->O6 a c=true
 | [],[],_,h,_=>by simp [O6,Op.bytesLess] at h
 | [],_::_,[],_,h=>by simp [O6,Op.bytesLess] at h
 | [],_::_,_::_,_,_=>by simp [O6,Op.bytesLess]
 | _::_,[],_,h,_=>by simp [O6,Op.bytesLess] at h
 | _::_,_::_,[],_,h=>by simp [O6,Op.bytesLess] at h
 | a::x,b::y,c::z,h1,h2=>by
  simp only [O6,Op.bytesLess,Bool.or_eq_true,decide_eq_true_eq,Bool.and_eq_true,beq_iff_eq] at h1 h2⊢;rcases h1 with h1 | ⟨rfl,h1⟩<;>rcases h2 with h2 | ⟨rfl,h2⟩
  ·exact .inl (UInt8.lt_trans h1 h2)
  ·exact .inl h1
  ·exact .inl h2
  ·exact .inr ⟨rfl,Kj x y z h1 h2⟩
theorem Iy (a:List UInt8):O6 a a=false:=by
 have:=IL a a;simp only [O6]
 cases h:Op.bytesLess a a with
 | false=>rfl
 | true=>rw [h] at this;simp at this
structure PC {γ:Type} (c:γ ->γ ->Int):Prop where
 anti:∀x y,c y x= - c x y
 trans:∀x y z,c x y<0 ->c y z<0 ->c x z<0
 eqv:∀x y z,c x y=0 ->c x z=c y z
theorem cmpI_pc:PC Dk:=⟨fun x y=>by unfold Dk;split<;>split<;>first | omega | rfl,fun x y z=>by unfold Dk;split<;>split<;>(try split)<;>(try split)<;>(try split)<;>(try split)<;>first | omega | simp,fun x y z h=>by
 have:x=y:=by
  unfold Dk at h;split at h; · cases h
  split at h; · cases h
  omega
 rw [this]⟩
theorem Ei {a b:List UInt8}:E2 a b=0↔a=b:=by
 unfold E2
 constructor
 ·intro h
  split at h; · cases h
  split at h; · cases h
  rename_i h1 h2
  have:=IL a b
  change O6 b a=(!O6 a b && !a==b) at this
  simp only [Bool.not_eq_true] at h1 h2;rw [h1,h2] at this
  simpa using this
 ·rintro rfl;rw [if_neg (by rw [Iy];simp),if_neg (by rw [Iy];simp)]
theorem NP {a b:List UInt8}:E2 a b<0↔O6 a b=true:=by
 unfold E2;split
 ·rename_i h;simp [h]
 ·rename_i h;split<;>simp [h]
theorem cmpS_pc:PC E2:=⟨fun x y=>by
 unfold E2
 by_cases h1:O6 x y=true
 ·have h2:¬O6 y x=true:=fun h2=>by have:=Kj x y x h1 h2;rw [Iy] at this;cases this
  rw [if_neg h2,if_pos h1,if_pos h1];rfl
 ·by_cases h2:O6 y x=true
  ·rw [if_pos h2,if_neg h1,if_pos h2]
  ·rw [if_neg h2,if_neg h1,if_neg h1,if_neg h2];rfl,fun x y z h1 h2=>NP.2 (Kj x y z (NP.1 h1) (NP.1 h2)),fun x y z h=>by rw [Ei.1 h]⟩
theorem PC.comap {γ δ:Type} {c:γ ->γ ->Int} (h:PC c) (f:δ ->γ):PC fun x y=>c (f x) (f y):=⟨fun _ _=>h.anti _ _,fun _ _ _=>h.trans _ _ _,fun _ _ _=>h.eqv _ _ _⟩
theorem PC.rev {γ:Type} {c:γ ->γ ->Int} (h:PC c):PC fun x y=>c y x:=⟨fun x y=>h.anti y x,fun x y z h1 h2=>h.trans _ _ _ h2 h1,fun x y z h1=>by
 have e:c x y=0:=by have:=h.anti y x;omega
 have:=h.eqv x y z e
 rw [h.anti x z,h.anti y z,this]⟩
theorem PC.zero {γ:Type}:PC fun _ _:γ=>(0:Int):=⟨fun _ _=>rfl,fun _ _ _ h=>by omega,fun _ _ _ _=>rfl⟩
theorem PC.lex {γ:Type} {c:γ ->γ ->Int} {r:γ ->γ ->List Int} (h:PC c) (h':PC fun x y=>Bl (r x y)):PC fun x y=>Bl (c x y::r x y):=by
 have sw:∀x y,c x y=0↔c y x=0:=fun x y=>by have:=h.anti x y;omega
 refine ⟨fun x y=>?_,fun x y z=>?_,fun x y z=>?_⟩
 ·simp only [Bl]
  by_cases e:c x y=0
  ·rw [if_pos e,if_pos ((sw x y).1 e)];exact h'.anti x y
  ·rw [if_neg e,if_neg (fun e'=>e ((sw x y).2 e'))];exact h.anti x y
 ·simp only [Bl];intro h1 h2
  by_cases e1:c x y=0<;>by_cases e2:c y z=0
  ·have e3:c x z=0:=by rw [h.eqv x y z e1];exact e2
   rw [if_pos e1] at h1;rw [if_pos e2] at h2;rw [if_pos e3];exact h'.trans x y z h1 h2
  ·rw [if_neg e2] at h2;have e3:c x z=c y z:=h.eqv x y z e1;rw [if_neg (by rw [e3];exact e2),e3];exact h2
  ·rw [if_neg e1] at h1;have e3:c z x=c y x:=(h.eqv y z x e2).symm;have e4:c x z=c x y:=by rw [h.anti z x,h.anti y x,e3]
   rw [if_neg (by rw [e4];exact e1),e4];exact h1
  ·rw [if_neg e1] at h1;rw [if_neg e2] at h2;have:=h.trans x y z h1 h2;rw [if_neg (by omega)];exact this
 ·simp only [Bl];intro h1
  have e1:c x y=0:=by
   by_cases e:c x y=0
   ·exact e
   ·rw [if_neg e] at h1;exact h1
  rw [if_pos e1] at h1;rw [h.eqv x y z e1];rw [h'.eqv x y z h1]
theorem PC.last {γ:Type}:PC fun x y:γ=>Bl ((fun _ _:γ=>([]:List Int)) x y):=PC.zero
theorem Nv:PC By:=
 PC.lex (cmpI_pc.comap A5.k)<| PC.lex (cmpS_pc.comap fun r:A5=>r.acc.o)<| PC.lex (cmpI_pc.comap fun r:A5=>r.acc.k)<| PC.lex (cmpS_pc.comap fun r:A5=>r.acc.a)<| PC.lex (cmpS_pc.comap A5.f)<| PC.lex (cmpS_pc.comap A5.t) PC.last
theorem Dr:PC It:=PC.lex (cmpI_pc.comap AT.pr).rev<| PC.lex (cmpI_pc.comap AT.sq) PC.last
theorem PC.refl {γ:Type} {c:γ ->γ ->Int} (h:PC c) (x:γ):c x x=0:=by have:=h.anti x x;omega
theorem PC.swo {γ:Type} {c:γ ->γ ->Int} (h:PC c):Go.Sort.SWO (ltOf c):=by
 refine ⟨fun x=>?_,fun x y z h1 h2=>?_,fun x y z h1 h2=>?_⟩
 ·simp [ltOf,h.refl]
 ·simp only [ltOf,decide_eq_true_eq] at*;exact h.trans x y z h1 h2
 ·simp only [ltOf,decide_eq_false_iff_not] at*;have a1:=h.anti x y;have a2:=h.anti y z;have a3:=h.anti x z
  by_cases e:c x y=0
  ·rw [h.eqv x y z e];exact h2
  ·by_cases e2:c y z=0
   ·have:=h.eqv y z x e2;rw [h.anti x y,h.anti x z] at this;omega
   ·have:=h.trans z y x (by omega) (by omega);omega
theorem IT {a b:Int}:Dk a b=0↔a=b:=by
 unfold Dk;split
 ·constructor<;>intro h<;>omega
 ·split<;>constructor<;>intro h<;>omega
theorem Dj {a b:A5}:By a b=0↔a=b:=by
 unfold By;simp only [Bl];rw [A5.eq_iff,PH.eq_iff]
 constructor
 ·intro h
  repeat' split at h
  all_goals first
   | contradiction
   | (rename_i h1 h2 h3 h4 h5 h6;exact ⟨IT.1 h1,⟨Ei.1 h2,IT.1 h3,Ei.1 h4⟩,Ei.1 h5,Ei.1 h6⟩)
 ·rintro ⟨h1,⟨h2,h3,h4⟩,h5,h6⟩;rw [h1,h2,h3,h4,h5,h6]
  simp [IT,Ei]
theorem D4 {γ:Type} {R:γ ->γ ->Prop} (irr:∀x,¬R x x) (tr:∀x y z,R x y ->R y z ->R x z):∀{l m:List γ},l.Pairwise R ->m.Pairwise R ->(∀x,x∈l↔x∈m) ->l=m
 | [],[],_,_,_=>rfl
 | [],b::m,_,_,h=>by have:=(h b).2 (by simp);cases this
 | a::l,[],_,_,h=>by have:=(h a).1 (by simp);cases this
 | a::l,b::m,h1,h2,h=>by
  rw [List.pairwise_cons] at h1 h2
  have e:a=b:=by
   rcases List.mem_cons.1 ((h a).1 (by simp)) with e | h3
   ·exact e
   ·rcases List.mem_cons.1 ((h b).2 (by simp)) with e | h4
    ·exact e.symm
    ·exact absurd (tr _ _ _ (h1.1 b h4) (h2.1 a h3)) (irr a)
  subst e
  congr 1
  refine D4 irr tr h1.2 h2.2 fun x=>⟨fun hx=>?_,fun hx=>?_⟩
  ·rcases List.mem_cons.1 ((h x).1 (by simp [hx])) with e | h3
   ·subst e;exact absurd (h1.1 x hx) (irr x)
   ·exact h3
  ·rcases List.mem_cons.1 ((h x).2 (by simp [hx])) with e | h3
   ·subst e;exact absurd (h2.1 x hx) (irr x)
   ·exact h3
abbrev Rv:PH:=⟨[],0,[]⟩
def B4 (r:A5):Int:=
 if r.k=0 then (if r.acc.o≠ []∧r.acc.a≠ []∧0≤r.acc.k∧r.acc.k<5∧r.f=[]∧r.t=[] then 0 else 3)
 else if r.k=1 then (if r.f≠ []∧r.t≠ []∧r.f≠r.t∧r.acc=Rv then 0 else 3)
 else if r.k=2 then (if r.f≠ []∧r.t=[]∧r.acc=Rv then 0 else 3) else 11
theorem Ta (r:A5):AU Tryz.prog 167 [.d (EX r)] (AH (B4 r)):=by
 refine B2 Tryz.func167 Z Z Tryz.ntmps167 Z Z Z fun F hF=>(AF (AJ (U (C5 1 Z Z Z Z Z Z Z) ?_)));refine AD Z Z (AG (AF (AJ (AD Z Z (AG (AF (AF (AJ ?_))))))))
 first | refine J (AM rfl Lm Z Z Z) ?_ | refine J (AO rfl Lm Z Z Z) ?_ | refine J (AP rfl Lm Z Z Z) ?_ | refine J (AN rfl Lm Z Z Z) ?_ | refine J (AL rfl Lm Z Z Z) ?_
 first | refine J (AY Z Z Ab rfl) ?_ | refine J (AW Z Z Z Ab rfl) ?_ | refine J (AX Z Z (rfl) rfl Ab rfl) ?_
 refine AG (Al (AF (AJ ?_)))
 first | refine J (Ea Z Z Z) ?_ | refine J (E9 Z Z Z) ?_ | refine J (EV Z Z Z) ?_ | refine J (E4 Tryz.underlying3 Z Z Z) ?_ | refine J (E7 Tryz.underlying3 Z Z Z) ?_ | refine J (E6 Tryz.underlying3 Z Z) ?_ | refine J (E5 Tryz.underlying3 Z Z Z) ?_ | refine J (E8 Tryz.underlying3 Z Z) ?_
 refine AD Z Z (AG ?_)
 first | refine Ay rfl (fun h6=>?_) (fun h6=>?_) | refine At rfl (fun h6=>?_) (fun h6=>?_)
 ·refine AJ ?_
  first | refine J (AM rfl Bs Z Z Z) ?_ | refine J (AO rfl Bs Z Z Z) ?_ | refine J (AP rfl Bs Z Z Z) ?_ | refine J (AN rfl Bs Z Z Z) ?_ | refine J (AL rfl Bs Z Z Z) ?_
  first | refine J (AM rfl JS Z Z Z) ?_ | refine J (AO rfl JS Z Z Z) ?_ | refine J (AP rfl JS Z Z Z) ?_ | refine J (AN rfl JS Z Z Z) ?_ | refine J (AL rfl JS Z Z Z) ?_
  first | refine J (AY Z Z As rfl) ?_ | refine J (AW Z Z Z As rfl) ?_ | refine J (AX Z Z (rfl) rfl As rfl) ?_
  first | refine J (Fa Z Z Z) ?_ | refine J (F9 Z Z Z) ?_ | refine J (FM Z Z Z) ?_ | refine J (Fb Tryz.underlying9 Z Z Z) ?_ | refine J (Fd Tryz.underlying9 Z Z Z) ?_ | refine J (st_neqN Tryz.underlying9 Z Z) ?_ | refine J (Fc Tryz.underlying9 Z Z Z) ?_ | refine J (st_neqFN Tryz.underlying9 Z Z) ?_
  refine AC Z Z ?_
  first | refine I5 12 rfl (fun h12=>?_) (fun h12=>?_) | refine Hw 12 rfl (fun h12=>?_) (fun h12=>?_)
  ·refine A9 Z Z Z ?_
   first | refine J (AM rfl Bs Z Z Z) ?_ | refine J (AO rfl Bs Z Z Z) ?_ | refine J (AP rfl Bs Z Z Z) ?_ | refine J (AN rfl Bs Z Z Z) ?_ | refine J (AL rfl Bs Z Z Z) ?_
   refine A9 Z Z Z ?_
   first | refine J (AM rfl Ht Z Z Z) ?_ | refine J (AO rfl Ht Z Z Z) ?_ | refine J (AP rfl Ht Z Z Z) ?_ | refine J (AN rfl Ht Z Z Z) ?_ | refine J (AL rfl Ht Z Z Z) ?_
   refine A9 Z Z Z ?_
   first | refine J (AY Z Z As rfl) ?_ | refine J (AW Z Z Z As rfl) ?_ | refine J (AX Z Z (rfl) rfl As rfl) ?_
   refine A9 Z Z Z ?_
   first | refine J (Fa Z Z Z) ?_ | refine J (F9 Z Z Z) ?_ | refine J (FM Z Z Z) ?_ | refine J (Fb Tryz.underlying9 Z Z Z) ?_ | refine J (Fd Tryz.underlying9 Z Z Z) ?_ | refine J (st_neqN Tryz.underlying9 Z Z) ?_ | refine J (Fc Tryz.underlying9 Z Z Z) ?_ | refine J (st_neqFN Tryz.underlying9 Z Z) ?_
   refine J (DX Z Z Z Z) (AC Z Z ?_)
   first | refine I5 18 rfl (fun h18=>?_) (fun h18=>?_) | refine Hw 18 rfl (fun h18=>?_) (fun h18=>?_)
   ·refine A9 Z Z Z ?_
    first | refine J (AM rfl Bs Z Z Z) ?_ | refine J (AO rfl Bs Z Z Z) ?_ | refine J (AP rfl Bs Z Z Z) ?_ | refine J (AN rfl Bs Z Z Z) ?_ | refine J (AL rfl Bs Z Z Z) ?_
    refine A9 Z Z Z ?_
    first | refine J (AM rfl Hs Z Z Z) ?_ | refine J (AO rfl Hs Z Z Z) ?_ | refine J (AP rfl Hs Z Z Z) ?_ | refine J (AN rfl Hs Z Z Z) ?_ | refine J (AL rfl Hs Z Z Z) ?_
    refine A9 Z Z Z ?_
    first | refine J (AY Z Z Ab rfl) ?_ | refine J (AW Z Z Z Ab rfl) ?_ | refine J (AX Z Z (rfl) rfl Ab rfl) ?_
    refine A9 Z Z Z (J (G7 Z Z Z) (J (DX Z Z Z Z) (AC Z Z ?_)))
    first | refine I5 24 rfl (fun h24=>?_) (fun h24=>?_) | refine Hw 24 rfl (fun h24=>?_) (fun h24=>?_)
    ·refine A9 Z Z Z ?_
     first | refine J (AM rfl Bs Z Z Z) ?_ | refine J (AO rfl Bs Z Z Z) ?_ | refine J (AP rfl Bs Z Z Z) ?_ | refine J (AN rfl Bs Z Z Z) ?_ | refine J (AL rfl Bs Z Z Z) ?_
     refine A9 Z Z Z ?_
     first | refine J (AM rfl Hs Z Z Z) ?_ | refine J (AO rfl Hs Z Z Z) ?_ | refine J (AP rfl Hs Z Z Z) ?_ | refine J (AN rfl Hs Z Z Z) ?_ | refine J (AL rfl Hs Z Z Z) ?_
     refine A9 Z Z Z ?_
     first | refine J (AY Z Z Ab rfl) ?_ | refine J (AW Z Z Z Ab rfl) ?_ | refine J (AX Z Z (rfl) rfl Ab rfl) ?_
     refine A9 Z Z Z ?_
     first | refine J (CD Z Z Z) ?_ | refine J (CE Z Z Z) ?_
     refine J (DX Z Z Z Z) (AC Z Z ?_)
     first | refine I5 30 rfl (fun h30=>?_) (fun h30=>?_) | refine Hw 30 rfl (fun h30=>?_) (fun h30=>?_)
     ·refine A9 Z Z Z ?_
      first | refine J (AM rfl FO Z Z Z) ?_ | refine J (AO rfl FO Z Z Z) ?_ | refine J (AP rfl FO Z Z Z) ?_ | refine J (AN rfl FO Z Z Z) ?_ | refine J (AL rfl FO Z Z Z) ?_
      refine A9 Z Z Z ?_
      first | refine J (AY Z Z As rfl) ?_ | refine J (AW Z Z Z As rfl) ?_ | refine J (AX Z Z (rfl) rfl As rfl) ?_
      refine A9 Z Z Z ?_
      first | refine J (Ea Z Z Z) ?_ | refine J (E9 Z Z Z) ?_ | refine J (EV Z Z Z) ?_ | refine J (E4 Tryz.underlying9 Z Z Z) ?_ | refine J (E7 Tryz.underlying9 Z Z Z) ?_ | refine J (E6 Tryz.underlying9 Z Z) ?_ | refine J (E5 Tryz.underlying9 Z Z Z) ?_ | refine J (E8 Tryz.underlying9 Z Z) ?_
      refine J (DX Z Z Z Z) (AC Z Z ?_)
      first | refine I5 35 rfl (fun h35=>?_) (fun h35=>?_) | refine Hw 35 rfl (fun h35=>?_) (fun h35=>?_)
      ·refine A9 Z Z Z ?_
       first | refine J (AM rfl G2 Z Z Z) ?_ | refine J (AO rfl G2 Z Z Z) ?_ | refine J (AP rfl G2 Z Z Z) ?_ | refine J (AN rfl G2 Z Z Z) ?_ | refine J (AL rfl G2 Z Z Z) ?_
       refine A9 Z Z Z ?_
       first | refine J (AY Z Z As rfl) ?_ | refine J (AW Z Z Z As rfl) ?_ | refine J (AX Z Z (rfl) rfl As rfl) ?_
       refine A9 Z Z Z ?_
       first | refine J (Ea Z Z Z) ?_ | refine J (E9 Z Z Z) ?_ | refine J (EV Z Z Z) ?_ | refine J (E4 Tryz.underlying9 Z Z Z) ?_ | refine J (E7 Tryz.underlying9 Z Z Z) ?_ | refine J (E6 Tryz.underlying9 Z Z) ?_ | refine J (E5 Tryz.underlying9 Z Z Z) ?_ | refine J (E8 Tryz.underlying9 Z Z) ?_
       refine J (DX Z Z Z Z) (AD Z Z (AG (AF (AF (AJ (AC Z Z ?_))))))
       first | refine J (GZ Z Z) ?_ | refine J (GP Z Z) ?_
       refine AG ?_
       first | refine Ay rfl (fun h80=>?_) (fun h80=>?_) | refine At rfl (fun h80=>?_) (fun h80=>?_)
       ·refine AF (AJ (AD Z Z (AG (Ae ?_))));exact ⟨_,[],[],Aa rfl,rfl,rfl,Aj (by unfold B4;simp_all<;>(intros;omega)),rfl⟩
       ·refine Ak (AF (AJ (AD Z Z (AG (Ae ?_)))));exact ⟨_,[],[],Aa rfl,rfl,rfl,Aj (by unfold B4;simp_all<;>(intros;omega)),rfl⟩
      ·refine A8 Z Z Z Z (A8 Z Z Z Z (A8 Z Z Z Z (J (EC Z Z Z Z) (AD Z Z (AG (AF (AF (AJ ?_))))))));refine AC Z Z (J (Do Z Z) (AG (EB Z Z (AF (AJ (AD Z Z (AG (Ae ?_))))))));exact ⟨_,[],[],Aa rfl,rfl,rfl,Aj (by unfold B4;simp_all<;>(intros;omega)),rfl⟩
     ·refine A8 Z Z Z Z (A8 Z Z Z Z (A8 Z Z Z Z (J (EC Z Z Z Z) (AC Z Z ?_))));refine A8 Z Z Z Z (A8 Z Z Z Z (A8 Z Z Z Z (J (EC Z Z Z Z) (AD Z Z (AG (AF (AF (AJ ?_))))))));refine AC Z Z (J (Do Z Z) (AG (EB Z Z (AF (AJ (AD Z Z (AG (Ae ?_))))))));exact ⟨_,[],[],Aa rfl,rfl,rfl,Aj (by unfold B4;simp_all<;>(intros;omega)),rfl⟩
    ·refine A8 Z Z Z Z (A8 Z Z Z Z ?_);refine A8 Z Z Z Z (A8 Z Z Z Z (J (EC Z Z Z Z) (AC Z Z (A8 Z Z Z Z (A8 Z Z Z Z (A8 Z Z Z Z (J (EC Z Z Z Z) (AC Z Z ?_))))))));refine A8 Z Z Z Z (A8 Z Z Z Z (A8 Z Z Z Z (J (EC Z Z Z Z) (AD Z Z (AG (AF (AF (AJ ?_))))))));refine AC Z Z (J (Do Z Z) (AG (EB Z Z (AF (AJ (AD Z Z (AG (Ae ?_))))))));exact ⟨_,[],[],Aa rfl,rfl,rfl,Aj (by unfold B4;simp_all<;>(intros;omega)),rfl⟩
   ·refine A8 Z Z Z Z (A8 Z Z Z Z (A8 Z Z Z Z (A8 Z Z Z Z (J (EC Z Z Z Z) (AC Z Z (A8 Z Z Z Z (A8 Z Z Z Z ?_)))))));refine A8 Z Z Z Z (A8 Z Z Z Z (J (EC Z Z Z Z) (AC Z Z (A8 Z Z Z Z (A8 Z Z Z Z (A8 Z Z Z Z (J (EC Z Z Z Z) (AC Z Z ?_))))))));refine A8 Z Z Z Z (A8 Z Z Z Z (A8 Z Z Z Z (J (EC Z Z Z Z) (AD Z Z (AG (AF (AF (AJ ?_))))))));refine AC Z Z (J (Do Z Z) (AG (EB Z Z (AF (AJ (AD Z Z (AG (Ae ?_))))))));exact ⟨_,[],[],Aa rfl,rfl,rfl,Aj (by unfold B4;simp_all<;>(intros;omega)),rfl⟩
  ·refine A8 Z Z Z Z (A8 Z Z Z Z (A8 Z Z Z Z (A8 Z Z Z Z (J (EC Z Z Z Z) ?_))));refine AC Z Z (A8 Z Z Z Z (A8 Z Z Z Z (A8 Z Z Z Z (A8 Z Z Z Z (J (EC Z Z Z Z) (AC Z Z (A8 Z Z Z Z (A8 Z Z Z Z ?_))))))));refine A8 Z Z Z Z (A8 Z Z Z Z (J (EC Z Z Z Z) (AC Z Z (A8 Z Z Z Z (A8 Z Z Z Z (A8 Z Z Z Z (J (EC Z Z Z Z) (AC Z Z ?_))))))));refine A8 Z Z Z Z (A8 Z Z Z Z (A8 Z Z Z Z (J (EC Z Z Z Z) (AD Z Z (AG (AF (AF (AJ ?_))))))));refine AC Z Z (J (Do Z Z) (AG (EB Z Z (AF (AJ (AD Z Z (AG (Ae ?_))))))));exact ⟨_,[],[],Aa rfl,rfl,rfl,Aj (by unfold B4;simp_all<;>(intros;omega)),rfl⟩
 ·refine AF (AJ ?_)
  first | refine J (Ea Z Z Z) ?_ | refine J (E9 Z Z Z) ?_ | refine J (EV Z Z Z) ?_ | refine J (E4 Tryz.underlying3 Z Z Z) ?_ | refine J (E7 Tryz.underlying3 Z Z Z) ?_ | refine J (E6 Tryz.underlying3 Z Z) ?_ | refine J (E5 Tryz.underlying3 Z Z Z) ?_ | refine J (E8 Tryz.underlying3 Z Z) ?_
  refine AD Z Z (AG ?_)
  first | refine Ay rfl (fun h40=>?_) (fun h40=>?_) | refine At rfl (fun h40=>?_) (fun h40=>?_)
  ·refine AJ ?_
   first | refine J (AM rfl FO Z Z Z) ?_ | refine J (AO rfl FO Z Z Z) ?_ | refine J (AP rfl FO Z Z Z) ?_ | refine J (AN rfl FO Z Z Z) ?_ | refine J (AL rfl FO Z Z Z) ?_
   first | refine J (AY Z Z As rfl) ?_ | refine J (AW Z Z Z As rfl) ?_ | refine J (AX Z Z (rfl) rfl As rfl) ?_
   first | refine J (Fa Z Z Z) ?_ | refine J (F9 Z Z Z) ?_ | refine J (FM Z Z Z) ?_ | refine J (Fb Tryz.underlying9 Z Z Z) ?_ | refine J (Fd Tryz.underlying9 Z Z Z) ?_ | refine J (st_neqN Tryz.underlying9 Z Z) ?_ | refine J (Fc Tryz.underlying9 Z Z Z) ?_ | refine J (st_neqFN Tryz.underlying9 Z Z) ?_
   refine AC Z Z ?_
   first | refine I5 45 rfl (fun h45=>?_) (fun h45=>?_) | refine Hw 45 rfl (fun h45=>?_) (fun h45=>?_)
   ·refine A9 Z Z Z ?_
    first | refine J (AM rfl G2 Z Z Z) ?_ | refine J (AO rfl G2 Z Z Z) ?_ | refine J (AP rfl G2 Z Z Z) ?_ | refine J (AN rfl G2 Z Z Z) ?_ | refine J (AL rfl G2 Z Z Z) ?_
    refine A9 Z Z Z ?_
    first | refine J (AY Z Z As rfl) ?_ | refine J (AW Z Z Z As rfl) ?_ | refine J (AX Z Z (rfl) rfl As rfl) ?_
    refine A9 Z Z Z ?_
    first | refine J (Fa Z Z Z) ?_ | refine J (F9 Z Z Z) ?_ | refine J (FM Z Z Z) ?_ | refine J (Fb Tryz.underlying9 Z Z Z) ?_ | refine J (Fd Tryz.underlying9 Z Z Z) ?_ | refine J (st_neqN Tryz.underlying9 Z Z) ?_ | refine J (Fc Tryz.underlying9 Z Z Z) ?_ | refine J (st_neqFN Tryz.underlying9 Z Z) ?_
    refine J (DX Z Z Z Z) (AC Z Z ?_)
    first | refine I5 50 rfl (fun h50=>?_) (fun h50=>?_) | refine Hw 50 rfl (fun h50=>?_) (fun h50=>?_)
    ·refine A9 Z Z Z ?_
     first | refine J (AM rfl FO Z Z Z) ?_ | refine J (AO rfl FO Z Z Z) ?_ | refine J (AP rfl FO Z Z Z) ?_ | refine J (AN rfl FO Z Z Z) ?_ | refine J (AL rfl FO Z Z Z) ?_
     refine A9 Z Z Z ?_
     first | refine J (AY Z Z As rfl) ?_ | refine J (AW Z Z Z As rfl) ?_ | refine J (AX Z Z (rfl) rfl As rfl) ?_
     refine A9 Z Z Z ?_
     first | refine J (AM rfl G2 Z Z Z) ?_ | refine J (AO rfl G2 Z Z Z) ?_ | refine J (AP rfl G2 Z Z Z) ?_ | refine J (AN rfl G2 Z Z Z) ?_ | refine J (AL rfl G2 Z Z Z) ?_
     refine A9 Z Z Z ?_
     first | refine J (AY Z Z As rfl) ?_ | refine J (AW Z Z Z As rfl) ?_ | refine J (AX Z Z (rfl) rfl As rfl) ?_
     refine A9 Z Z Z ?_
     first | refine J (Fa Z Z Z) ?_ | refine J (F9 Z Z Z) ?_ | refine J (FM Z Z Z) ?_ | refine J (Fb Tryz.underlying9 Z Z Z) ?_ | refine J (Fd Tryz.underlying9 Z Z Z) ?_ | refine J (st_neqN Tryz.underlying9 Z Z) ?_ | refine J (Fc Tryz.underlying9 Z Z Z) ?_ | refine J (st_neqFN Tryz.underlying9 Z Z) ?_
     refine J (DX Z Z Z Z) (AC Z Z ?_)
     first | refine I5 57 rfl (fun h57=>?_) (fun h57=>?_) | refine Hw 57 rfl (fun h57=>?_) (fun h57=>?_)
     ·refine A9 Z Z Z ?_
      first | refine J (AM rfl Bs Z Z Z) ?_ | refine J (AO rfl Bs Z Z Z) ?_ | refine J (AP rfl Bs Z Z Z) ?_ | refine J (AN rfl Bs Z Z Z) ?_ | refine J (AL rfl Bs Z Z Z) ?_
      refine A9 Z Z Z ?_
      first | refine J (Av Z Z Gz rfl) ?_ | refine J (Aw Z Z Gz Z Z Z) ?_ | refine J (Ax Z Z (rfl) rfl Gz rfl) ?_
      refine A9 Z Z Z (J (DH N8 Qj Z Z Z) ?_);refine A9 Z Z Z (J (MN (la:=Rw r.acc) (lb:=Rw Rv) (ds:=accT) (by kernel_rfl) (by kernel_rfl) (by kernel_rfl) Z Z Z Z (IW _) (IW _) (Ue _ _) rfl) (J (DX Z Z Z Z) (AD Z Z (AG (AF (AF (AJ (AC Z Z ?_))))))))
      first | refine J (GZ Z Z) ?_ | refine J (GP Z Z) ?_
      refine AG ?_
      first | refine Ay rfl (fun h80=>?_) (fun h80=>?_) | refine At rfl (fun h80=>?_) (fun h80=>?_)
      ·refine AF (AJ (AD Z Z (AG (Ae ?_))));exact ⟨_,[],[],Aa rfl,rfl,rfl,Aj (by unfold B4;simp_all<;>(intros;omega)),rfl⟩
      ·refine Ak (AF (AJ (AD Z Z (AG (Ae ?_)))));exact ⟨_,[],[],Aa rfl,rfl,rfl,Aj (by unfold B4;simp_all<;>(intros;omega)),rfl⟩
     ·refine A8 Z Z Z Z ?_;refine A8 Z Z Z Z (A8 Z Z Z Z (A8 Z Z Z Z (J (EC Z Z Z Z) (AD Z Z (AG (AF (AF (AJ ?_))))))));refine AC Z Z (J (Do Z Z) (AG (EB Z Z (AF (AJ (AD Z Z (AG (Ae ?_))))))));exact ⟨_,[],[],Aa rfl,rfl,rfl,Aj (by unfold B4;simp_all<;>(intros;omega)),rfl⟩
    ·refine A8 Z Z Z Z (A8 Z Z Z Z (A8 Z Z Z Z (A8 Z Z Z Z (A8 Z Z Z Z (J (EC Z Z Z Z) (AC Z Z (A8 Z Z Z Z ?_)))))));refine A8 Z Z Z Z (A8 Z Z Z Z (A8 Z Z Z Z (J (EC Z Z Z Z) (AD Z Z (AG (AF (AF (AJ ?_))))))));refine AC Z Z (J (Do Z Z) (AG (EB Z Z (AF (AJ (AD Z Z (AG (Ae ?_))))))));exact ⟨_,[],[],Aa rfl,rfl,rfl,Aj (by unfold B4;simp_all<;>(intros;omega)),rfl⟩
   ·refine A8 Z Z Z Z (A8 Z Z Z Z (A8 Z Z Z Z (J (EC Z Z Z Z) ?_)));refine AC Z Z (A8 Z Z Z Z (A8 Z Z Z Z (A8 Z Z Z Z (A8 Z Z Z Z (A8 Z Z Z Z (J (EC Z Z Z Z) (AC Z Z (A8 Z Z Z Z ?_))))))));refine A8 Z Z Z Z (A8 Z Z Z Z (A8 Z Z Z Z (J (EC Z Z Z Z) (AD Z Z (AG (AF (AF (AJ ?_))))))));refine AC Z Z (J (Do Z Z) (AG (EB Z Z (AF (AJ (AD Z Z (AG (Ae ?_))))))));exact ⟨_,[],[],Aa rfl,rfl,rfl,Aj (by unfold B4;simp_all<;>(intros;omega)),rfl⟩
  ·refine AF (AJ ?_)
   first | refine J (Ea Z Z Z) ?_ | refine J (E9 Z Z Z) ?_ | refine J (EV Z Z Z) ?_ | refine J (E4 Tryz.underlying3 Z Z Z) ?_ | refine J (E7 Tryz.underlying3 Z Z Z) ?_ | refine J (E6 Tryz.underlying3 Z Z) ?_ | refine J (E5 Tryz.underlying3 Z Z Z) ?_ | refine J (E8 Tryz.underlying3 Z Z) ?_
   refine AD Z Z (AG ?_)
   first | refine Ay rfl (fun h63=>?_) (fun h63=>?_) | refine At rfl (fun h63=>?_) (fun h63=>?_)
   ·refine AJ ?_
    first | refine J (AM rfl FO Z Z Z) ?_ | refine J (AO rfl FO Z Z Z) ?_ | refine J (AP rfl FO Z Z Z) ?_ | refine J (AN rfl FO Z Z Z) ?_ | refine J (AL rfl FO Z Z Z) ?_
    first | refine J (AY Z Z As rfl) ?_ | refine J (AW Z Z Z As rfl) ?_ | refine J (AX Z Z (rfl) rfl As rfl) ?_
    first | refine J (Fa Z Z Z) ?_ | refine J (F9 Z Z Z) ?_ | refine J (FM Z Z Z) ?_ | refine J (Fb Tryz.underlying9 Z Z Z) ?_ | refine J (Fd Tryz.underlying9 Z Z Z) ?_ | refine J (st_neqN Tryz.underlying9 Z Z) ?_ | refine J (Fc Tryz.underlying9 Z Z Z) ?_ | refine J (st_neqFN Tryz.underlying9 Z Z) ?_
    refine AC Z Z ?_
    first | refine I5 68 rfl (fun h68=>?_) (fun h68=>?_) | refine Hw 68 rfl (fun h68=>?_) (fun h68=>?_)
    ·refine A9 Z Z Z ?_
     first | refine J (AM rfl G2 Z Z Z) ?_ | refine J (AO rfl G2 Z Z Z) ?_ | refine J (AP rfl G2 Z Z Z) ?_ | refine J (AN rfl G2 Z Z Z) ?_ | refine J (AL rfl G2 Z Z Z) ?_
     refine A9 Z Z Z ?_
     first | refine J (AY Z Z As rfl) ?_ | refine J (AW Z Z Z As rfl) ?_ | refine J (AX Z Z (rfl) rfl As rfl) ?_
     refine A9 Z Z Z ?_
     first | refine J (Ea Z Z Z) ?_ | refine J (E9 Z Z Z) ?_ | refine J (EV Z Z Z) ?_ | refine J (E4 Tryz.underlying9 Z Z Z) ?_ | refine J (E7 Tryz.underlying9 Z Z Z) ?_ | refine J (E6 Tryz.underlying9 Z Z) ?_ | refine J (E5 Tryz.underlying9 Z Z Z) ?_ | refine J (E8 Tryz.underlying9 Z Z) ?_
     refine J (DX Z Z Z Z) (AC Z Z ?_)
     first | refine I5 73 rfl (fun h73=>?_) (fun h73=>?_) | refine Hw 73 rfl (fun h73=>?_) (fun h73=>?_)
     ·refine A9 Z Z Z ?_
      first | refine J (AM rfl Bs Z Z Z) ?_ | refine J (AO rfl Bs Z Z Z) ?_ | refine J (AP rfl Bs Z Z Z) ?_ | refine J (AN rfl Bs Z Z Z) ?_ | refine J (AL rfl Bs Z Z Z) ?_
      refine A9 Z Z Z ?_
      first | refine J (Av Z Z Gz rfl) ?_ | refine J (Aw Z Z Gz Z Z Z) ?_ | refine J (Ax Z Z (rfl) rfl Gz rfl) ?_
      refine A9 Z Z Z (J (DH N8 Qj Z Z Z) ?_);refine A9 Z Z Z (J (MN (la:=Rw r.acc) (lb:=Rw Rv) (ds:=accT) (by kernel_rfl) (by kernel_rfl) (by kernel_rfl) Z Z Z Z (IW _) (IW _) (Ue _ _) rfl) (J (DX Z Z Z Z) (AD Z Z (AG (AF (AF (AJ (AC Z Z ?_))))))))
      first | refine J (GZ Z Z) ?_ | refine J (GP Z Z) ?_
      refine AG ?_
      first | refine Ay rfl (fun h80=>?_) (fun h80=>?_) | refine At rfl (fun h80=>?_) (fun h80=>?_)
      ·refine AF (AJ (AD Z Z (AG (Ae ?_))));exact ⟨_,[],[],Aa rfl,rfl,rfl,Aj (by unfold B4;simp_all<;>(intros;omega)),rfl⟩
      ·refine Ak (AF (AJ (AD Z Z (AG (Ae ?_)))));exact ⟨_,[],[],Aa rfl,rfl,rfl,Aj (by unfold B4;simp_all<;>(intros;omega)),rfl⟩
     ·refine A8 Z Z Z Z ?_;refine A8 Z Z Z Z (A8 Z Z Z Z (A8 Z Z Z Z (J (EC Z Z Z Z) (AD Z Z (AG (AF (AF (AJ ?_))))))));refine AC Z Z (J (Do Z Z) (AG (EB Z Z (AF (AJ (AD Z Z (AG (Ae ?_))))))));exact ⟨_,[],[],Aa rfl,rfl,rfl,Aj (by unfold B4;simp_all<;>(intros;omega)),rfl⟩
    ·refine A8 Z Z Z Z (A8 Z Z Z Z (A8 Z Z Z Z (J (EC Z Z Z Z) (AC Z Z (A8 Z Z Z Z ?_)))));refine A8 Z Z Z Z (A8 Z Z Z Z (A8 Z Z Z Z (J (EC Z Z Z Z) (AD Z Z (AG (AF (AF (AJ ?_))))))));refine AC Z Z (J (Do Z Z) (AG (EB Z Z (AF (AJ (AD Z Z (AG (Ae ?_))))))));exact ⟨_,[],[],Aa rfl,rfl,rfl,Aj (by unfold B4;simp_all<;>(intros;omega)),rfl⟩
   ·refine AF (AJ (AD Z Z (AG (Ae ?_))));exact ⟨_,[],[],Aa rfl,rfl,rfl,Aj (by unfold B4;simp_all<;>(intros;omega)),rfl⟩
def Pb:List A5 ->A5 ->List A5
 | [],r=> [r]
 | a::l,r=>if By a r<0 then a::Pb l r else if a=r then a::l else r::a::l
def WM (l:List A5):Prop:=l.Pairwise fun a b=>By a b<0
theorem insR_mem {l:List A5} {r x:A5}:x∈Pb l r↔x=r∨x∈l:=by
 induction l with
 | nil=>simp [Pb]
 | cons a l ih=>
  simp only [Pb]
  split
  ·simp only [List.mem_cons,ih];constructor<;>intro h<;>rcases h with h | h | h<;>simp [h]
  ·split
   ·rename_i h;subst h;simp
   ·simp
theorem YH {l:List A5} (h:WM l) (r:A5):WM (Pb l r):=by
 induction l with
 | nil=>simp [Pb,WM]
 | cons a l ih=>
  simp only [WM,List.pairwise_cons] at h;simp only [Pb]
  split
  ·rename_i h1
   refine List.pairwise_cons.2 ⟨fun x hx=>?_,ih h.2⟩;rcases insR_mem.1 hx with rfl | hx
   ·exact h1
   ·exact h.1 x hx
  ·split
   ·exact List.pairwise_cons.2 h
   ·rename_i h1 h2
    have h3:By r a<0:=by
     have:=Nv.anti a r;have h4:By a r≠0:=fun e=>h2 (Dj.1 e);omega
    refine List.pairwise_cons.2 ⟨fun x hx=>?_,List.pairwise_cons.2 h⟩;rcases List.mem_cons.1 hx with rfl | hx
    ·exact h3
    ·exact Nv.trans _ _ _ h3 (h.1 x hx)
def QV (c:List (A5×Int)):List A5:=(c.map Prod.fst).foldl Pb []
theorem Ny (c:List (A5×Int)) (x:A5×Int):QV (c++ [x])=Pb (QV c) x.1:=by simp [QV]
theorem QU (c:List (A5×Int)) (r:A5):r∈QV c↔r∈c.map Prod.fst:=by
 induction c using WO with
 | h0=>simp [QV]
 | h1 l x ih=>rw [Ny,insR_mem,ih];simp only [List.map_append,List.map_cons,List.map_nil,List.mem_append,List.mem_singleton];exact or_comm
theorem W0 (c:List (A5×Int)):WM (QV c):=by
 induction c using WO with
 | h0=>simp [QV,WM]
 | h1 l x ih=>rw [Ny];exact YH ih _
def Kx (c:List (A5×Int)):List (A5×Int):=((QV c).map fun r=>(r,BZ c r)).filter fun x=>decide (x.2≠0)
def dltL (i:AT):List (A5×Int):=Kx (ctr i)
theorem KM (c:List (A5×Int)):(Kx c).Pairwise fun a b=>By a.1 b.1<0:=by
 unfold Kx;refine List.Pairwise.filter _ ?_;rw [List.pairwise_map];exact W0 c
theorem HO (c:List (A5×Int)) (a:A5) (b:Int):(a,b)∈sumL c↔a∈c.map Prod.fst∧b=BZ c a:=by
 constructor
 ·intro h;refine ⟨(K2 c a).1 (List.mem_map.2 ⟨_,h,rfl⟩),?_⟩;rw [←J9,ZcV (Ik c) h]
 ·rintro ⟨h,rfl⟩;rw [←J9];exact RE ((K2 c a).2 h)
theorem Hi (c:List (A5×Int)) (x:A5×Int):x∈Kx c↔x∈sumL c∧x.2≠0:=by
 obtain ⟨a,b⟩:=x;unfold Kx;rw [List.mem_filter,List.mem_map,HO];simp only [Prod.mk.injEq,decide_eq_true_eq]
 constructor
 ·rintro ⟨⟨r,hr,rfl,rfl⟩,h⟩;exact ⟨⟨(QU c r).1 hr,rfl⟩,h⟩
 ·rintro ⟨⟨h1,rfl⟩,h⟩;exact ⟨⟨a,(QU c a).2 h1,rfl,rfl⟩,h⟩
theorem U6 {c acc ys:List (A5×Int)} (h1:acc.Perm ((sumL c).filter fun x=>decide (x.2≠0))) (h2:ys.Perm acc) (h3:ys.Pairwise fun a b=>¬By b.1 a.1<0):ys=Kx c:=by
 have hp:=h2.trans h1;refine D4 (R:=fun a b=>By a.1 b.1<0) (fun x=>by rw [Nv.refl];omega) (fun x y z=>Nv.trans x.1 y.1 z.1) ?_ (KM c) fun x=>?_
 ·have hn:(ys.map Prod.fst).Nodup:=by
   refine ((hp.map Prod.fst).nodup_iff).2 ?_;exact (Ik c).sublist (List.Sublist.map _ List.filter_sublist)
  rw [List.Nodup,List.pairwise_map] at hn;refine (h3.and hn).imp fun {a b} ⟨g1,g2⟩=>?_;have:=Nv.anti a.1 b.1;have g3:By a.1 b.1≠0:=fun e=>g2 (Dj.1 e);omega
 ·rw [hp.mem_iff,Hi,List.mem_filter,decide_eq_true_eq]
theorem Y3 (x:A5×Int):∃cs,NM x= .agg cs:=⟨_,rfl⟩
theorem VD {c acc:List (A5×Int)} (h1:acc.Perm ((sumL c).filter fun x=>decide (x.2≠0))):acc.length=(Kx c).length:=by
 have hs:=List.pairwise_mergeSort (le:=fun a b:A5×Int=>decide (¬By b.1 a.1<0)) (fun a b d h1 h2=>by
  have:=Nv.swo.ntrans d.1 b.1 a.1;simp only [ltOf,decide_eq_false_iff_not] at this;simp only [decide_eq_true_eq] at h1 h2⊢
  exact this h2 h1) (fun a b=>by have:=Nv.anti a.1 b.1;simp only [Bool.or_eq_true,decide_eq_true_eq];omega) acc
 have hp:=List.mergeSort_perm acc (fun a b:A5×Int=>decide (¬By b.1 a.1<0));rw [←U6 h1 hp (hs.imp fun {a b} h=>by simpa using h)];exact hp.length_eq.symm
section
variable {F:Fr} {s:AS} {d:Nat} {x y:Operand} {ty:TypeId} {pos:String} {aft:Array Edge} {gd:Option (Nat×Bool)} {at_:Array TypeId} {f n:Nat} {row:List D} {hp':Hp}
theorem Wa (c acc:List (A5×Int)) (h1:acc.Perm ((sumL c).filter fun x=>decide (x.2≠0))) (hsz:acc.length<4611686018427387904) (hx:s.ev x=some (.own f 0 n)) (hy:s.ev y=some (.d (.raw (.func (.func 32) #[] #[])))) (ho:hget s.hp f 0=some (.rowD 55 7 row)) (hrow:row=acc.map NM) (hn:n=acc.length) (hh:Bn s.hp f 0 (.rowD 55 7 ((Kx c).map NM))=some hp') (hd:Nat.blt d s.n=true):
  AR Tryz.prog F ⟨some d,.call {callee:= .value (.func 31),args:= #[x,y],argTypes:=at_},ty,pos,aft,gd⟩ s ⟨s.n,(d,.d (.tup []))::s.env,hp'⟩ (fun _ _=>true):=
 PO laysD (k:=7) (by decide) Tryz.isAgg55 Tryz.sizeOf55 Tryz.func32 Z Z Y3 (fun a b=>By a.1 b.1) (Nv.comap Prod.fst).swo acc (Kx c) hsz (fun x _ y _=>Vs x y) (fun ys g1 g2=>U6 h1 g1 g2) rfl hx hy Ph ho hrow hn hh hd
end
def dltS (i:AT):List (A5×Int):=if BV i=0 then dltL i else []
theorem KF {l:List Int} (h:Bl l=0):∀x∈l,x=0:=by
 have:=(Uh (l:=l) (f:=id)).1 (by rw [List.map_id];exact h);exact this
theorem Hl {i:AT} (h:BV i=0):ItmB i∧(0≤i.id∧i.id≤1000000000)∧(0≤i.sq∧i.sq≤1000000000)∧(0≤i.pr∧i.pr≤2)∧MZ i=0∧Sr i=0∧Rt i=0∧Rr i=0∧Ps i=0:=by
 unfold BV at h
 split at h; · cases h
 split at h; · cases h
 rename_i h1 h2
 have h3:=KF h;have e1:=h3 (MZ i) (by simp [QI]);have e2:=h3 (Sr i) (by simp [QI]);exact ⟨⟨by omega,by omega,by omega,Sm e1,pay_b e2⟩,by omega,by omega,by omega,e1,e2,h3 _ (by simp [QI]),h3 _ (by simp [QI]),h3 _ (by simp [QI])⟩
theorem NN (i:AT):(ctr i).length=i.po.length+4*i.pa.length:=by simp [ctr,KQ,L4]
theorem LH (c:List (A5×Int)):(sumL c).length≤c.length:=by
 induction c using WO with
 | h0=>simp [sumL]
 | h1 l x ih=>
  rw [T4];unfold Yn;have:=KA (m:=sumL l) (a:=x.1) (b:=Ai (sumL l) x.1 0+x.2);simp only [List.length_append,List.length_singleton];omega
theorem nxt_in {α:Type} {p:α ->Bool} {acc A B X:List α} {x:α} (hI:(acc++A.filter p).Perm X) (hp:A.Perm (x::B)) (hx:p x=true):((acc++ [x])++B.filter p).Perm X:=by
 have h:=hp.filter p;rw [List.filter_cons_of_pos hx] at h;rw [List.append_assoc];exact (List.Perm.append_left acc h.symm).trans hI
theorem nxt_out {α:Type} {p:α ->Bool} {acc A B X:List α} {x:α} (hI:(acc++A.filter p).Perm X) (hp:A.Perm (x::B)) (hx:¬p x=true):(acc++B.filter p).Perm X:=by
 have h:=hp.filter p;rw [List.filter_cons_of_neg hx] at h;exact (List.Perm.append_left acc h.symm).trans hI
theorem P4 {α:Type} {p:α ->Bool} {acc A M:List α} (hI:(acc++A.filter p).Perm (M.filter p)):acc.length≤M.length:=by
 have h:=hI.length_eq;have h2:=List.length_filter_le p M;rw [List.length_append] at h;omega
theorem KN (i:AT) (g1:i.po.length≤140737488355328) (g2:i.pa.length≤140737488355328) (g3:i.af.length≤140737488355328):AU Tryz.prog 13 [.d (BH i)] (.tup [.sl none ((dltS i).map NM),AH (BV i)]):=by
 by_cases hE:BV i=0
 ·have hb:=(Hl hE).1;have hS:dltS i=dltL i:=if_pos hE
  obtain ⟨M,hMM⟩:∃M,sumL (ctr i)=M:=⟨_,rfl⟩
  have hs:=(SS i hb).by [(2,20)] rfl;have hlen:M.length≤1280:=by rw [←hMM];have h1:=LH (ctr i);have h2:=NN i;have h3:=hb.po;have h4:=hb.pa;omega
  rw [hMM] at hs;rw [hS];have hck:=KR i g1 g2 g3;rw [hE] at hck⊢;refine B2 Tryz.func13 Z Z Tryz.ntmps13 Z Z Z fun F hF=>?_;refine AF (AJ (U (C5 1 Z Z Z Z Z Z Z) (AD Z Z (AD Z Z (AG (AF (AF (AJ ?_))))))))
  first | refine J (Av Z Z Af rfl) ?_ | refine J (Aw Z Z Af Z Z Z) ?_ | refine J (Ax Z Z (rfl) rfl Af rfl) ?_
  refine J (B1 (hck) Z Z) (AD Z Z (AG (AF (AJ (AC Z Z ?_)))))
  first | refine J (Fa Z Z Z) ?_ | refine J (F9 Z Z Z) ?_ | refine J (FM Z Z Z) ?_ | refine J (Fb Tryz.underlying34 Z Z Z) ?_ | refine J (Fd Tryz.underlying34 Z Z Z) ?_ | refine J (st_neqN Tryz.underlying34 Z Z) ?_ | refine J (Fc Tryz.underlying34 Z Z Z) ?_ | refine J (st_neqFN Tryz.underlying34 Z Z) ?_
  refine AG (Fs rfl (by decide) ?_);refine Ak (AF (AJ (AD Z Z (AG (AF (AF (EA 5 900 sl44 Z Z Z Z (AJ ?_))))))))
  first | refine J (Av Z Z Af rfl) ?_ | refine J (Aw Z Z Af Z Z Z) ?_ | refine J (Ax Z Z (rfl) rfl Af rfl) ?_
  refine U (Fp hs rfl [20] ⟨rfl,trivial⟩ Z Z Z Z Z Z Z Z Z) (U (Ja 2 Z Z Z HH Z Z Z Z) (AG (Al (DG (α:=List Nat×List (A5×Int)) (fun q=>⟨32,[(5,(.own 900 0 q.2.length)),(15,(.ptr 2 0 0))],[(2,[.iter 20 0 M.length q.1]),(20,[CL EX AH M]),(900,[.rowD 55 7 (q.2.map NM)])]⟩) (fun q=>(q.2++(EP M (List.range M.length) q.1).filter (fun x=>decide (x.2≠0))).Perm (M.filter fun x=>decide (x.2≠0))) (fun q=>(EP M (List.range M.length) q.1).length) (([],[])) (by rw [IK (by simp)];exact List.Perm.refl _) (BA hF [2,20,900] Z Z ⟨rfl,rfl,trivial⟩) ?_))));rintro ⟨seen,acc⟩ hI;dsimp only at hI⊢;refine AF (AJ (P3 (M) Z Z Z Z (fun hl16=>?_) (fun j16 b16 k16 v16 hm16 hb16 hB16 hp16=>⟨_,rfl,?_⟩)))
  ·first | refine J (B6 Z Z Z) ?_ | refine J (B7 Z Z Z) ?_
   refine AG (AF (Fs Z Z (CW (AF ?_))));have hacc:acc.Perm ((sumL (ctr i)).filter fun x=>decide (x.2≠0)):=by have h:=hI;rw [hl16,List.filter_nil,List.append_nil] at h;rw [hMM];exact h
   refine AJ (AC Z Z (U (Wa (ctr i) acc hacc (by have:=P4 hI;omega) Z Z Z Z Z Z Z) ?_));refine AG (AF (WK (emb:=NM) 5 900 (dltL i) Z Z Z (VD hacc) Z Z Z (AJ (AC Z Z (AD Z Z (AD Z Z (AG (Ae ?_))))))));exact ⟨_,[],[],Aa rfl,rfl,rfl,rfl,rfl⟩
  ·first | refine J (B6 Z Z Z) ?_ | refine J (B7 Z Z Z) ?_
   refine AG (AF (EB Z Z (Ak (Al (AF (AJ (J (Jc (M) j16 b16 Z Z Z hm16 hb16 rfl) ?_)))))))
   first | refine J (B6 Z Z Z) ?_ | refine J (B7 Z Z Z) ?_
   first | refine J (B6 Z Z Z) ?_ | refine J (B7 Z Z Z) ?_
   refine U (DO 3 Gy Z Z Z Z) (U (CF Z Z Z Z Z Z Z sz53) (AD Z Z (AG (AF (AJ (AC Z Z ?_))))))
   first | refine J (Fa Z Z Z) ?_ | refine J (F9 Z Z Z) ?_ | refine J (FM Z Z Z) ?_ | refine J (Fb Tryz.underlying2 Z Z Z) ?_ | refine J (Fd Tryz.underlying2 Z Z Z) ?_ | refine J (st_neqN Tryz.underlying2 Z Z) ?_ | refine J (Fc Tryz.underlying2 Z Z Z) ?_ | refine J (st_neqFN Tryz.underlying2 Z Z) ?_
   refine AG ?_
   first | refine Ay rfl (fun h22=>?_) (fun h22=>?_) | refine At rfl (fun h22=>?_) (fun h22=>?_)
   ·refine AJ (AC Z Z ?_)
    first | refine J (Av Z Z Ah rfl) ?_ | refine J (Aw Z Z Ah Z Z Z) ?_ | refine J (Ax Z Z (rfl) rfl Ah rfl) ?_
    refine AC Z Z (J (DH zl55 pl55 Z Z Z) (U (Fq 4 sl44 Z Z Z Z Z Z Z Z) ?_))
    first | refine U (If (acc) ([(k16,v16)]) Z Z Z Z Z Z Z Z sl44 (by have:=P4 hI;simp only [List.length_singleton];omega) Z Z Z Z) ?_ | refine U (LD (acc) ([(k16,v16)]) Z Z Z Z Z Z (fun _=>rfl) sl44 (by have:=P4 hI;simp only [List.length_singleton];omega) Z Z Z Z) ?_
    refine AD Z Z (AG ?_);exact ⟨(seen++ [b16],_),nxt_in hI hp16 (by simpa using h22),by show (EP M (List.range M.length) (seen++ [b16])).length<(EP M (List.range M.length) seen).length;rw [hp16.length_eq];exact Nat.lt_succ_self _,BA hF [2,20,900] rfl (rfl) ⟨rfl,rfl,trivial⟩⟩
   ·refine Ak ?_;exact ⟨(seen++ [b16],_),nxt_out hI hp16 (by simpa using h22),by show (EP M (List.range M.length) (seen++ [b16])).length<(EP M (List.range M.length) seen).length;rw [hp16.length_eq];exact Nat.lt_succ_self _,BA hF [2,20,900] rfl (rfl) ⟨rfl,rfl,trivial⟩⟩
 ·have hck:=KR i g1 g2 g3;have hS:dltS i=[]:=if_neg hE;rw [hS];refine B2 Tryz.func13 Z Z Tryz.ntmps13 Z Z Z fun F hF=>(AF ?_);refine AJ (U (C5 1 Z Z Z Z Z Z Z) (AD Z Z (Ug 2 rfl (AD Z Z (AG (AF (AF (AJ ?_))))))))
  first | refine J (Av Z Z Af rfl) ?_ | refine J (Aw Z Z Af Z Z Z) ?_ | refine J (Ax Z Z (rfl) rfl Af rfl) ?_
  refine J (B1 (hck) Z Z) (AD Z Z (AG (AF (AJ (AC Z Z ?_)))))
  first | refine J (Fa Z Z Z) ?_ | refine J (F9 Z Z Z) ?_ | refine J (FM Z Z Z) ?_ | refine J (Fb Tryz.underlying34 Z Z Z) ?_ | refine J (Fd Tryz.underlying34 Z Z Z) ?_ | refine J (st_neqN Tryz.underlying34 Z Z) ?_ | refine J (Fc Tryz.underlying34 Z Z Z) ?_ | refine J (st_neqFN Tryz.underlying34 Z Z) ?_
  refine AG ?_;refine EB rfl ((by simpa using hE)) (AF (AJ (AC Z Z (AD Z Z (Ug 2 rfl (AD Z Z (AG (Ae ?_))))))));exact ⟨_,[],[],Aa rfl,rfl,rfl,rfl,rfl⟩
def CJ (i:AT) (r:A5):Int:=if BV i=0∧B4 r=0 then BZ (ctr i) r else 0
theorem KO (i:AT) (r:A5) (g1:i.po.length≤140737488355328) (g2:i.pa.length≤140737488355328) (g3:i.af.length≤140737488355328):AU Tryz.prog 122 [.d (BH i),.d (EX r)] (AH (CJ i r)):=by
 by_cases hE:BV i=0
 ·have hb:=(Hl hE).1
  obtain ⟨M,hMM⟩:∃M,sumL (ctr i)=M:=⟨_,rfl⟩
  have hs:=(SS i hb).by [(2,20)] rfl;rw [hMM] at hs;have hck:=KR i g1 g2 g3;rw [hE] at hck;refine B2 Tryz.func122 Z Z Tryz.ntmps122 Z Z Z fun F hF=>?_;refine AF (AJ (U (C5 1 Z Z Z Z Z Z Z) (U (C5 2 Z Z Z Z Z Z Z) (AD Z Z (AG (AF (AF (AJ ?_))))))))
  first | refine J (Av Z Z Af rfl) ?_ | refine J (Aw Z Z Af Z Z Z) ?_ | refine J (Ax Z Z (rfl) rfl Af rfl) ?_
  refine J (B1 (hck) Z Z) ?_
  first | refine J (Fa Z Z Z) ?_ | refine J (F9 Z Z Z) ?_ | refine J (FM Z Z Z) ?_ | refine J (Fb Tryz.underlying34 Z Z Z) ?_ | refine J (Fd Tryz.underlying34 Z Z Z) ?_ | refine J (st_neqN Tryz.underlying34 Z Z) ?_ | refine J (Fc Tryz.underlying34 Z Z Z) ?_ | refine J (st_neqFN Tryz.underlying34 Z Z) ?_
  refine AC Z Z (Kf 8 rfl (by decide) (A9 Z Z Z ?_))
  first | refine J (Av Z Z Ah rfl) ?_ | refine J (Aw Z Z Ah Z Z Z) ?_ | refine J (Ax Z Z (rfl) rfl Ah rfl) ?_
  refine A9 Z Z Z (J (B1 (Ta r) Z Z) (A9 Z Z Z ?_))
  first | refine J (Fa Z Z Z) ?_ | refine J (F9 Z Z Z) ?_ | refine J (FM Z Z Z) ?_ | refine J (Fb Tryz.underlying34 Z Z Z) ?_ | refine J (Fd Tryz.underlying34 Z Z Z) ?_ | refine J (st_neqN Tryz.underlying34 Z Z) ?_ | refine J (Fc Tryz.underlying34 Z Z Z) ?_ | refine J (st_neqFN Tryz.underlying34 Z Z) ?_
  refine J (EC Z Z Z Z) (AG ?_)
  first | refine Ay rfl (fun h12=>?_) (fun h12=>?_) | refine At rfl (fun h12=>?_) (fun h12=>?_)
  ·refine AF (AJ (AD Z Z (AG (Ae ?_))));exact ⟨_,[],[],Aa rfl,rfl,rfl,Aj (by rw [CJ,if_neg];simp_all),rfl⟩
  ·refine Ak (AF (Gp [[],[0],[],[0,1,2],[0,1,2,3]] BF rfl (Hh ?_)))
   first | refine AE [2] [] Z Z (fun _=>AB (Av Z Z Af rfl)) ?_ | refine AI [2] Z Z (fun _=>AB (Av Z Z Af rfl)) ?_ | refine AE [2] [] Z Z (fun _=>AB (Aw Z Z Af Z Z Z)) ?_ | refine AI [2] Z Z (fun _=>AB (Aw Z Z Af Z Z Z)) ?_ | refine AE [2] [] Z Z (fun _=>AB (Ax Z Z (rfl) rfl Af rfl)) ?_ | refine AI [2] Z Z (fun _=>AB (Ax Z Z (rfl) rfl Af rfl)) ?_
   refine Gn [13] [20] [(14,_)] Z Z (fun _=>Gq (Fp hs rfl [20] ⟨rfl,trivial⟩ Z Z Z Z Z Z Z Z Z)) (.inr ⟨14,_,rfl,rfl,rfl,rfl,rfl⟩) Z Z Z Z Z ?_
   first | refine AE [3] [] Z Z (fun _=>AB (Av Z Z Ah rfl)) ?_ | refine AI [3] Z Z (fun _=>AB (Av Z Z Ah rfl)) ?_ | refine AE [3] [] Z Z (fun _=>AB (Aw Z Z Ah Z Z Z)) ?_ | refine AI [3] Z Z (fun _=>AB (Aw Z Z Ah Z Z Z)) ?_ | refine AE [3] [] Z Z (fun _=>AB (Ax Z Z (rfl) rfl Ah rfl)) ?_ | refine AI [3] Z Z (fun _=>AB (Ax Z Z (rfl) rfl Ah rfl)) ?_
   refine GR 3 Z Z Z (BC 4 Z Z (J (LC (M) (r) (0) _ Z Z Z HH DU QO Z Z) (AG ⟨rfl,?_⟩)));refine BC 5 Z Z (AD Z Z (AG ⟨rfl,?_⟩));refine GQ (Ae ?_);exact ⟨_,[],[],Aa rfl,rfl,rfl,Aj (by rw [CJ,if_pos ⟨hE,by simpa using h12⟩,←hMM,J9]),rfl⟩
 ·have hck:=KR i g1 g2 g3;have hS:CJ i r=0:=if_neg fun h=>hE h.1;rw [hS];refine B2 Tryz.func122 Z Z Tryz.ntmps122 Z Z Z fun F hF=>?_;refine AF (AJ (U (C5 1 Z Z Z Z Z Z Z) (U (C5 2 Z Z Z Z Z Z Z) (AD Z Z (AG (AF (AF (AJ ?_))))))))
  first | refine J (Av Z Z Af rfl) ?_ | refine J (Aw Z Z Af Z Z Z) ?_ | refine J (Ax Z Z (rfl) rfl Af rfl) ?_
  refine J (B1 (hck) Z Z) ?_
  first | refine J (Fa Z Z Z) ?_ | refine J (F9 Z Z Z) ?_ | refine J (FM Z Z Z) ?_ | refine J (Fb Tryz.underlying34 Z Z Z) ?_ | refine J (Fd Tryz.underlying34 Z Z Z) ?_ | refine J (st_neqN Tryz.underlying34 Z Z) ?_ | refine J (Fc Tryz.underlying34 Z Z Z) ?_ | refine J (st_neqFN Tryz.underlying34 Z Z) ?_
  refine AC Z Z (NZ 8 rfl ((by simpa using hE)) (A8 Z Z Z Z (A8 Z Z Z Z ?_)));refine A8 Z Z Z Z (J (DX Z Z Z Z) (AG (EB Z Z (AF (AJ (AD Z Z (AG (Ae ?_))))))));exact ⟨_,[],[],Aa rfl,rfl,rfl,rfl,rfl⟩
end Go.Proofs.YtnkkaeblokdifaaGreat
