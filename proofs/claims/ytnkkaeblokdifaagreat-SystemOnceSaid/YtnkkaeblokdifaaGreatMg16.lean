/- The kit's contract of slices.SortFunc laid at this program: the renumbering and its facts. Made by program (lays.py). -/
import Derived.Test.YtnkkaeblokdifaaGreatMg15
import Derived.Shelf.SlLaysF
import Derived.Shelf.SlLaysF0
import Derived.Shelf.SlLaysNS
import Derived.Test.YtnkkaeblokdifaaGreatProg
namespace Go.Proofs.YtnkkaeblokdifaaGreat
open Go.Shelf Go.Proofs Go.Proofs.Tryz
def renI:Go.Shelf.Ren:=⟨fun x=>match x with
 | 6=>147
 | 15=>72
 | 14=>185
 | 28=>133
 | 29=>134
 | 20=>213
 | 21=>214
 | 22=>215
 | 23=>216
 | 24=>217
 | 25=>218
 | 26=>219
 | 27=>220
 | 46=>240
 | 47=>170
 | 48=>171
 | 49=>241
 | 50=>242
 | 57=>250
 | x=>x,
 fun x=>match x with
 | 22=>29
 | 24=>49
 | 25=>259
 | 3=>3
 | 39=>155
 | 0=>0
 | 53=>79
 | 55=>246
 | 4=>4
 | 46=>239
 | 45=>238
 | 50=>191
 | 5=>5
 | 9=>9
 | 66=>276
 | 70=>280
 | 76=>308
 | 77=>309
 | x=>x,fun x=>x⟩
theorem laysI:SlLaysF0.n6 Tryz.prog renI where
 mixed:=rfl
 f6:=⟨Tryz.f147.name,by decide,Tryz.func147.trans (congrArg some (by kernel_rfl))⟩
 f14:=⟨Tryz.f185.name,by decide,Tryz.func185.trans (congrArg some (by kernel_rfl))⟩
 f15:=Tryz.func72.trans (congrArg some (by kernel_rfl))
 f20:=⟨Tryz.f213.name,by decide,Tryz.func213.trans (congrArg some (by kernel_rfl))⟩
 f21:=⟨Tryz.f214.name,by decide,Tryz.func214.trans (congrArg some (by kernel_rfl))⟩
 f22:=⟨Tryz.f215.name,by decide,Tryz.func215.trans (congrArg some (by kernel_rfl))⟩
 f23:=⟨Tryz.f216.name,by decide,Tryz.func216.trans (congrArg some (by kernel_rfl))⟩
 f24:=⟨Tryz.f217.name,by decide,Tryz.func217.trans (congrArg some (by kernel_rfl))⟩
 f25:=⟨Tryz.f218.name,by decide,Tryz.func218.trans (congrArg some (by kernel_rfl))⟩
 f26:=⟨Tryz.f219.name,by decide,Tryz.func219.trans (congrArg some (by kernel_rfl))⟩
 f27:=⟨Tryz.f220.name,by decide,Tryz.func220.trans (congrArg some (by kernel_rfl))⟩
 f28:=Tryz.func133.trans (congrArg some (by kernel_rfl))
 f29:=Tryz.func134.trans (congrArg some (by kernel_rfl))
 f46:=⟨Tryz.f240.name,by decide,Tryz.func240.trans (congrArg some (by kernel_rfl))⟩
 f47:=Tryz.func170.trans (congrArg some (by kernel_rfl))
 f48:=Tryz.func171.trans (congrArg some (by kernel_rfl))
 f49:=⟨Tryz.f241.name,by decide,Tryz.func241.trans (congrArg some (by kernel_rfl))⟩
 f50:=⟨Tryz.f242.name,by decide,Tryz.func242.trans (congrArg some (by kernel_rfl))⟩
 f57:=⟨Tryz.f250.name,by decide,Tryz.func250.trans (congrArg some (by kernel_rfl))⟩
 t0:=Tryz.underlying0
 a0:=Tryz.isAgg0
 z0:=Tryz.sizeOf0
 v0:=Tryz.zeroValue0
 t3:=Tryz.underlying3
 a3:=Tryz.isAgg3
 z3:=Tryz.sizeOf3
 v3:=Tryz.zeroValue3
 t4:=Tryz.underlying4
 a4:=Tryz.isAgg4
 z4:=Tryz.sizeOf4
 v4:=Tryz.zeroValue4
 t5:=Tryz.underlying5
 a5:=Tryz.isAgg5
 z5:=Tryz.sizeOf5
 v5:=Tryz.zeroValue5
 t9:=Tryz.underlying9
 a9:=Tryz.isAgg9
 z9:=Tryz.sizeOf9
 v9:=Tryz.zeroValue9
 t22:=Tryz.underlying29
 a22:=Tryz.isAgg29
 z22:=Tryz.sizeOf29
 v22:=Tryz.zeroValue29
 t25:=Tryz.underlying259
 a25:=Tryz.isAgg259
 z25:=Tryz.sizeOf259
 v25:=Tryz.zeroValue259
 t39:=Tryz.underlying155
 a39:=Tryz.isAgg155
 z39:=Tryz.sizeOf155
 v39:=Tryz.zeroValue155
 t45:=Tryz.underlying238
 a45:=Tryz.isAgg238
 z45:=Tryz.sizeOf238
 v45:=Tryz.zeroValue238
 t46:=Tryz.underlying239
 a46:=Tryz.isAgg239
 z46:=Tryz.sizeOf239
 v46:=Tryz.zeroValue239
 t50:=Tryz.underlying191
 a50:=Tryz.isAgg191
 z50:=Tryz.sizeOf191
 v50:=Tryz.zeroValue191
 t53:=Tryz.underlying79
 a53:=Tryz.isAgg79
 z53:=Tryz.sizeOf79
 v53:=Tryz.zeroValue79
 t55:=Tryz.underlying246
 a55:=Tryz.isAgg246
 z55:=Tryz.sizeOf246
 v55:=Tryz.zeroValue246
 t66:=Tryz.underlying276
 a66:=Tryz.isAgg276
 z66:=Tryz.sizeOf276
 v66:=Tryz.zeroValue276
 t70:=Tryz.underlying280
 a70:=Tryz.isAgg280
 z70:=Tryz.sizeOf280
 v70:=Tryz.zeroValue280
 t76:=Tryz.underlying308
 a76:=Tryz.isAgg308
 z76:=Tryz.sizeOf308
 v76:=Tryz.zeroValue308
 t77:=Tryz.underlying309
 a77:=Tryz.isAgg309
 z77:=Tryz.sizeOf309
 v77:=Tryz.zeroValue309
def renD:Go.Shelf.Ren:=⟨fun x=>match x with
 | 6=>31
 | 15=>72
 | 14=>71
 | 28=>133
 | 29=>134
 | 20=>125
 | 21=>126
 | 22=>127
 | 23=>128
 | 24=>129
 | 25=>130
 | 26=>131
 | 27=>132
 | 46=>169
 | 47=>170
 | 48=>171
 | 49=>172
 | 50=>173
 | 57=>207
 | x=>x,
 fun x=>match x with
 | 22=>44
 | 24=>55
 | 25=>93
 | 3=>3
 | 39=>155
 | 0=>0
 | 53=>79
 | 55=>246
 | 4=>4
 | 46=>239
 | 45=>238
 | 50=>191
 | 5=>5
 | 9=>9
 | 66=>276
 | 70=>280
 | 76=>308
 | 77=>309
 | x=>x,fun x=>x⟩
theorem laysD:SlLaysF0.n6 Tryz.prog renD where
 mixed:=rfl
 f6:=⟨Tryz.f31.name,by decide,Tryz.func31.trans (congrArg some (by kernel_rfl))⟩
 f14:=⟨Tryz.f71.name,by decide,Tryz.func71.trans (congrArg some (by kernel_rfl))⟩
 f15:=Tryz.func72.trans (congrArg some (by kernel_rfl))
 f20:=⟨Tryz.f125.name,by decide,Tryz.func125.trans (congrArg some (by kernel_rfl))⟩
 f21:=⟨Tryz.f126.name,by decide,Tryz.func126.trans (congrArg some (by kernel_rfl))⟩
 f22:=⟨Tryz.f127.name,by decide,Tryz.func127.trans (congrArg some (by kernel_rfl))⟩
 f23:=⟨Tryz.f128.name,by decide,Tryz.func128.trans (congrArg some (by kernel_rfl))⟩
 f24:=⟨Tryz.f129.name,by decide,Tryz.func129.trans (congrArg some (by kernel_rfl))⟩
 f25:=⟨Tryz.f130.name,by decide,Tryz.func130.trans (congrArg some (by kernel_rfl))⟩
 f26:=⟨Tryz.f131.name,by decide,Tryz.func131.trans (congrArg some (by kernel_rfl))⟩
 f27:=⟨Tryz.f132.name,by decide,Tryz.func132.trans (congrArg some (by kernel_rfl))⟩
 f28:=Tryz.func133.trans (congrArg some (by kernel_rfl))
 f29:=Tryz.func134.trans (congrArg some (by kernel_rfl))
 f46:=⟨Tryz.f169.name,by decide,Tryz.func169.trans (congrArg some (by kernel_rfl))⟩
 f47:=Tryz.func170.trans (congrArg some (by kernel_rfl))
 f48:=Tryz.func171.trans (congrArg some (by kernel_rfl))
 f49:=⟨Tryz.f172.name,by decide,Tryz.func172.trans (congrArg some (by kernel_rfl))⟩
 f50:=⟨Tryz.f173.name,by decide,Tryz.func173.trans (congrArg some (by kernel_rfl))⟩
 f57:=⟨Tryz.f207.name,by decide,Tryz.func207.trans (congrArg some (by kernel_rfl))⟩
 t0:=Tryz.underlying0
 a0:=Tryz.isAgg0
 z0:=Tryz.sizeOf0
 v0:=Tryz.zeroValue0
 t3:=Tryz.underlying3
 a3:=Tryz.isAgg3
 z3:=Tryz.sizeOf3
 v3:=Tryz.zeroValue3
 t4:=Tryz.underlying4
 a4:=Tryz.isAgg4
 z4:=Tryz.sizeOf4
 v4:=Tryz.zeroValue4
 t5:=Tryz.underlying5
 a5:=Tryz.isAgg5
 z5:=Tryz.sizeOf5
 v5:=Tryz.zeroValue5
 t9:=Tryz.underlying9
 a9:=Tryz.isAgg9
 z9:=Tryz.sizeOf9
 v9:=Tryz.zeroValue9
 t22:=Tryz.underlying44
 a22:=Tryz.isAgg44
 z22:=Tryz.sizeOf44
 v22:=Tryz.zeroValue44
 t25:=Tryz.underlying93
 a25:=Tryz.isAgg93
 z25:=Tryz.sizeOf93
 v25:=Tryz.zeroValue93
 t39:=Tryz.underlying155
 a39:=Tryz.isAgg155
 z39:=Tryz.sizeOf155
 v39:=Tryz.zeroValue155
 t45:=Tryz.underlying238
 a45:=Tryz.isAgg238
 z45:=Tryz.sizeOf238
 v45:=Tryz.zeroValue238
 t46:=Tryz.underlying239
 a46:=Tryz.isAgg239
 z46:=Tryz.sizeOf239
 v46:=Tryz.zeroValue239
 t50:=Tryz.underlying191
 a50:=Tryz.isAgg191
 z50:=Tryz.sizeOf191
 v50:=Tryz.zeroValue191
 t53:=Tryz.underlying79
 a53:=Tryz.isAgg79
 z53:=Tryz.sizeOf79
 v53:=Tryz.zeroValue79
 t55:=Tryz.underlying246
 a55:=Tryz.isAgg246
 z55:=Tryz.sizeOf246
 v55:=Tryz.zeroValue246
 t66:=Tryz.underlying276
 a66:=Tryz.isAgg276
 z66:=Tryz.sizeOf276
 v66:=Tryz.zeroValue276
 t70:=Tryz.underlying280
 a70:=Tryz.isAgg280
 z70:=Tryz.sizeOf280
 v70:=Tryz.zeroValue280
 t76:=Tryz.underlying308
 a76:=Tryz.isAgg308
 z76:=Tryz.sizeOf308
 v76:=Tryz.zeroValue308
 t77:=Tryz.underlying309
 a77:=Tryz.isAgg309
 z77:=Tryz.sizeOf309
 v77:=Tryz.zeroValue309
def renLn:Go.Shelf.Ren:=⟨fun x=>match x with
 | 6=>116
 | 15=>72
 | 14=>161
 | 28=>133
 | 29=>134
 | 20=>197
 | 21=>198
 | 22=>199
 | 23=>200
 | 24=>201
 | 25=>202
 | 26=>203
 | 27=>204
 | 46=>227
 | 47=>170
 | 48=>171
 | 49=>228
 | 50=>229
 | 57=>246
 | x=>x,
 fun x=>match x with
 | 22=>213
 | 24=>218
 | 25=>220
 | 3=>3
 | 39=>155
 | 0=>0
 | 53=>79
 | 55=>246
 | 4=>4
 | 46=>239
 | 45=>238
 | 50=>191
 | 5=>5
 | 9=>9
 | 66=>276
 | 70=>280
 | 76=>308
 | 77=>309
 | x=>x,fun x=>x⟩
theorem laysLn:SlLaysF0.n6 Tryz.prog renLn where
 mixed:=rfl
 f6:=⟨Tryz.f116.name,by decide,Tryz.func116.trans (congrArg some (by kernel_rfl))⟩
 f14:=⟨Tryz.f161.name,by decide,Tryz.func161.trans (congrArg some (by kernel_rfl))⟩
 f15:=Tryz.func72.trans (congrArg some (by kernel_rfl))
 f20:=⟨Tryz.f197.name,by decide,Tryz.func197.trans (congrArg some (by kernel_rfl))⟩
 f21:=⟨Tryz.f198.name,by decide,Tryz.func198.trans (congrArg some (by kernel_rfl))⟩
 f22:=⟨Tryz.f199.name,by decide,Tryz.func199.trans (congrArg some (by kernel_rfl))⟩
 f23:=⟨Tryz.f200.name,by decide,Tryz.func200.trans (congrArg some (by kernel_rfl))⟩
 f24:=⟨Tryz.f201.name,by decide,Tryz.func201.trans (congrArg some (by kernel_rfl))⟩
 f25:=⟨Tryz.f202.name,by decide,Tryz.func202.trans (congrArg some (by kernel_rfl))⟩
 f26:=⟨Tryz.f203.name,by decide,Tryz.func203.trans (congrArg some (by kernel_rfl))⟩
 f27:=⟨Tryz.f204.name,by decide,Tryz.func204.trans (congrArg some (by kernel_rfl))⟩
 f28:=Tryz.func133.trans (congrArg some (by kernel_rfl))
 f29:=Tryz.func134.trans (congrArg some (by kernel_rfl))
 f46:=⟨Tryz.f227.name,by decide,Tryz.func227.trans (congrArg some (by kernel_rfl))⟩
 f47:=Tryz.func170.trans (congrArg some (by kernel_rfl))
 f48:=Tryz.func171.trans (congrArg some (by kernel_rfl))
 f49:=⟨Tryz.f228.name,by decide,Tryz.func228.trans (congrArg some (by kernel_rfl))⟩
 f50:=⟨Tryz.f229.name,by decide,Tryz.func229.trans (congrArg some (by kernel_rfl))⟩
 f57:=⟨Tryz.f246.name,by decide,Tryz.func246.trans (congrArg some (by kernel_rfl))⟩
 t0:=Tryz.underlying0
 a0:=Tryz.isAgg0
 z0:=Tryz.sizeOf0
 v0:=Tryz.zeroValue0
 t3:=Tryz.underlying3
 a3:=Tryz.isAgg3
 z3:=Tryz.sizeOf3
 v3:=Tryz.zeroValue3
 t4:=Tryz.underlying4
 a4:=Tryz.isAgg4
 z4:=Tryz.sizeOf4
 v4:=Tryz.zeroValue4
 t5:=Tryz.underlying5
 a5:=Tryz.isAgg5
 z5:=Tryz.sizeOf5
 v5:=Tryz.zeroValue5
 t9:=Tryz.underlying9
 a9:=Tryz.isAgg9
 z9:=Tryz.sizeOf9
 v9:=Tryz.zeroValue9
 t22:=Tryz.underlying213
 a22:=Tryz.isAgg213
 z22:=Tryz.sizeOf213
 v22:=Tryz.zeroValue213
 t25:=Tryz.underlying220
 a25:=Tryz.isAgg220
 z25:=Tryz.sizeOf220
 v25:=Tryz.zeroValue220
 t39:=Tryz.underlying155
 a39:=Tryz.isAgg155
 z39:=Tryz.sizeOf155
 v39:=Tryz.zeroValue155
 t45:=Tryz.underlying238
 a45:=Tryz.isAgg238
 z45:=Tryz.sizeOf238
 v45:=Tryz.zeroValue238
 t46:=Tryz.underlying239
 a46:=Tryz.isAgg239
 z46:=Tryz.sizeOf239
 v46:=Tryz.zeroValue239
 t50:=Tryz.underlying191
 a50:=Tryz.isAgg191
 z50:=Tryz.sizeOf191
 v50:=Tryz.zeroValue191
 t53:=Tryz.underlying79
 a53:=Tryz.isAgg79
 z53:=Tryz.sizeOf79
 v53:=Tryz.zeroValue79
 t55:=Tryz.underlying246
 a55:=Tryz.isAgg246
 z55:=Tryz.sizeOf246
 v55:=Tryz.zeroValue246
 t66:=Tryz.underlying276
 a66:=Tryz.isAgg276
 z66:=Tryz.sizeOf276
 v66:=Tryz.zeroValue276
 t70:=Tryz.underlying280
 a70:=Tryz.isAgg280
 z70:=Tryz.sizeOf280
 v70:=Tryz.zeroValue280
 t76:=Tryz.underlying308
 a76:=Tryz.isAgg308
 z76:=Tryz.sizeOf308
 v76:=Tryz.zeroValue308
 t77:=Tryz.underlying309
 a77:=Tryz.isAgg309
 z77:=Tryz.sizeOf309
 v77:=Tryz.zeroValue309
def renS:Go.Shelf.Ren:=⟨fun x=>match x with
 | 53=>163
 | 64=>72
 | 63=>206
 | 78=>133
 | 79=>134
 | 70=>230
 | 71=>231
 | 72=>232
 | 73=>233
 | 74=>234
 | 75=>235
 | 59=>165
 | 76=>236
 | 77=>237
 | 88=>247
 | 89=>170
 | 90=>171
 | 91=>248
 | 92=>249
 | 68=>135
 | 96=>251
 | x=>x,
 fun x=>match x with
 | 22=>33
 | 23=>3
 | 3=>3
 | 51=>155
 | 0=>0
 | 67=>79
 | 69=>246
 | 4=>4
 | 61=>239
 | 60=>238
 | 44=>191
 | 5=>5
 | 9=>9
 | 75=>276
 | 79=>280
 | 83=>308
 | 84=>309
 | x=>x,fun x=>x⟩
theorem laysS:SlLaysN.n53 Tryz.prog renS where
 mixed:=rfl
 f53:=⟨Tryz.f163.name,by decide,Tryz.func163.trans (congrArg some (by kernel_rfl))⟩
 f59:=⟨Tryz.f165.name,by decide,Tryz.func165.trans (congrArg some (by kernel_rfl))⟩
 f63:=⟨Tryz.f206.name,by decide,Tryz.func206.trans (congrArg some (by kernel_rfl))⟩
 f64:=Tryz.func72.trans (congrArg some (by kernel_rfl))
 f68:=⟨Tryz.f135.name,by decide,Tryz.func135.trans (congrArg some (by kernel_rfl))⟩
 f70:=⟨Tryz.f230.name,by decide,Tryz.func230.trans (congrArg some (by kernel_rfl))⟩
 f71:=⟨Tryz.f231.name,by decide,Tryz.func231.trans (congrArg some (by kernel_rfl))⟩
 f72:=⟨Tryz.f232.name,by decide,Tryz.func232.trans (congrArg some (by kernel_rfl))⟩
 f73:=⟨Tryz.f233.name,by decide,Tryz.func233.trans (congrArg some (by kernel_rfl))⟩
 f74:=⟨Tryz.f234.name,by decide,Tryz.func234.trans (congrArg some (by kernel_rfl))⟩
 f75:=⟨Tryz.f235.name,by decide,Tryz.func235.trans (congrArg some (by kernel_rfl))⟩
 f76:=⟨Tryz.f236.name,by decide,Tryz.func236.trans (congrArg some (by kernel_rfl))⟩
 f77:=⟨Tryz.f237.name,by decide,Tryz.func237.trans (congrArg some (by kernel_rfl))⟩
 f78:=Tryz.func133.trans (congrArg some (by kernel_rfl))
 f79:=Tryz.func134.trans (congrArg some (by kernel_rfl))
 f88:=⟨Tryz.f247.name,by decide,Tryz.func247.trans (congrArg some (by kernel_rfl))⟩
 f89:=Tryz.func170.trans (congrArg some (by kernel_rfl))
 f90:=Tryz.func171.trans (congrArg some (by kernel_rfl))
 f91:=⟨Tryz.f248.name,by decide,Tryz.func248.trans (congrArg some (by kernel_rfl))⟩
 f92:=⟨Tryz.f249.name,by decide,Tryz.func249.trans (congrArg some (by kernel_rfl))⟩
 f96:=⟨Tryz.f251.name,by decide,Tryz.func251.trans (congrArg some (by kernel_rfl))⟩
 t0:=Tryz.underlying0
 a0:=Tryz.isAgg0
 z0:=Tryz.sizeOf0
 v0:=Tryz.zeroValue0
 t3:=Tryz.underlying3
 a3:=Tryz.isAgg3
 z3:=Tryz.sizeOf3
 v3:=Tryz.zeroValue3
 t4:=Tryz.underlying4
 a4:=Tryz.isAgg4
 z4:=Tryz.sizeOf4
 v4:=Tryz.zeroValue4
 t5:=Tryz.underlying5
 a5:=Tryz.isAgg5
 z5:=Tryz.sizeOf5
 v5:=Tryz.zeroValue5
 t9:=Tryz.underlying9
 a9:=Tryz.isAgg9
 z9:=Tryz.sizeOf9
 v9:=Tryz.zeroValue9
 t22:=Tryz.underlying33
 a22:=Tryz.isAgg33
 z22:=Tryz.sizeOf33
 v22:=Tryz.zeroValue33
 t23:=Tryz.underlying3
 a23:=Tryz.isAgg3
 z23:=Tryz.sizeOf3
 v23:=Tryz.zeroValue3
 t44:=Tryz.underlying191
 a44:=Tryz.isAgg191
 z44:=Tryz.sizeOf191
 v44:=Tryz.zeroValue191
 t51:=Tryz.underlying155
 a51:=Tryz.isAgg155
 z51:=Tryz.sizeOf155
 v51:=Tryz.zeroValue155
 t60:=Tryz.underlying238
 a60:=Tryz.isAgg238
 z60:=Tryz.sizeOf238
 v60:=Tryz.zeroValue238
 t61:=Tryz.underlying239
 a61:=Tryz.isAgg239
 z61:=Tryz.sizeOf239
 v61:=Tryz.zeroValue239
 t67:=Tryz.underlying79
 a67:=Tryz.isAgg79
 z67:=Tryz.sizeOf79
 v67:=Tryz.zeroValue79
 t69:=Tryz.underlying246
 a69:=Tryz.isAgg246
 z69:=Tryz.sizeOf246
 v69:=Tryz.zeroValue246
 t75:=Tryz.underlying276
 a75:=Tryz.isAgg276
 z75:=Tryz.sizeOf276
 v75:=Tryz.zeroValue276
 t79:=Tryz.underlying280
 a79:=Tryz.isAgg280
 z79:=Tryz.sizeOf280
 v79:=Tryz.zeroValue280
 t83:=Tryz.underlying308
 a83:=Tryz.isAgg308
 z83:=Tryz.sizeOf308
 v83:=Tryz.zeroValue308
 t84:=Tryz.underlying309
 a84:=Tryz.isAgg309
 z84:=Tryz.sizeOf309
 v84:=Tryz.zeroValue309
def renPo:Go.Shelf.Ren:=⟨fun x=>match x with
 | 6=>77
 | 15=>72
 | 14=>139
 | 28=>133
 | 29=>134
 | 20=>174
 | 21=>175
 | 22=>176
 | 23=>177
 | 24=>178
 | 25=>179
 | 26=>180
 | 27=>181
 | 46=>208
 | 47=>170
 | 48=>171
 | 49=>209
 | 50=>210
 | 57=>238
 | x=>x,
 fun x=>match x with
 | 22=>100
 | 24=>109
 | 25=>161
 | 3=>3
 | 39=>155
 | 0=>0
 | 53=>79
 | 55=>246
 | 4=>4
 | 46=>239
 | 45=>238
 | 50=>191
 | 5=>5
 | 9=>9
 | 66=>276
 | 70=>280
 | 76=>308
 | 77=>309
 | x=>x,fun x=>x⟩
theorem laysPo:SlLaysF.n6 Tryz.prog renPo where
 mixed:=rfl
 f6:=⟨Tryz.f77.name,by decide,Tryz.func77.trans (congrArg some (by kernel_rfl))⟩
 f14:=⟨Tryz.f139.name,by decide,Tryz.func139.trans (congrArg some (by kernel_rfl))⟩
 f15:=Tryz.func72.trans (congrArg some (by kernel_rfl))
 f20:=⟨Tryz.f174.name,by decide,Tryz.func174.trans (congrArg some (by kernel_rfl))⟩
 f21:=⟨Tryz.f175.name,by decide,Tryz.func175.trans (congrArg some (by kernel_rfl))⟩
 f22:=⟨Tryz.f176.name,by decide,Tryz.func176.trans (congrArg some (by kernel_rfl))⟩
 f23:=⟨Tryz.f177.name,by decide,Tryz.func177.trans (congrArg some (by kernel_rfl))⟩
 f24:=⟨Tryz.f178.name,by decide,Tryz.func178.trans (congrArg some (by kernel_rfl))⟩
 f25:=⟨Tryz.f179.name,by decide,Tryz.func179.trans (congrArg some (by kernel_rfl))⟩
 f26:=⟨Tryz.f180.name,by decide,Tryz.func180.trans (congrArg some (by kernel_rfl))⟩
 f27:=⟨Tryz.f181.name,by decide,Tryz.func181.trans (congrArg some (by kernel_rfl))⟩
 f28:=Tryz.func133.trans (congrArg some (by kernel_rfl))
 f29:=Tryz.func134.trans (congrArg some (by kernel_rfl))
 f46:=⟨Tryz.f208.name,by decide,Tryz.func208.trans (congrArg some (by kernel_rfl))⟩
 f47:=Tryz.func170.trans (congrArg some (by kernel_rfl))
 f48:=Tryz.func171.trans (congrArg some (by kernel_rfl))
 f49:=⟨Tryz.f209.name,by decide,Tryz.func209.trans (congrArg some (by kernel_rfl))⟩
 f50:=⟨Tryz.f210.name,by decide,Tryz.func210.trans (congrArg some (by kernel_rfl))⟩
 f57:=⟨Tryz.f238.name,by decide,Tryz.func238.trans (congrArg some (by kernel_rfl))⟩
 t0:=Tryz.underlying0
 a0:=Tryz.isAgg0
 z0:=Tryz.sizeOf0
 v0:=Tryz.zeroValue0
 t3:=Tryz.underlying3
 a3:=Tryz.isAgg3
 z3:=Tryz.sizeOf3
 v3:=Tryz.zeroValue3
 t4:=Tryz.underlying4
 a4:=Tryz.isAgg4
 z4:=Tryz.sizeOf4
 v4:=Tryz.zeroValue4
 t5:=Tryz.underlying5
 a5:=Tryz.isAgg5
 z5:=Tryz.sizeOf5
 v5:=Tryz.zeroValue5
 t9:=Tryz.underlying9
 a9:=Tryz.isAgg9
 z9:=Tryz.sizeOf9
 v9:=Tryz.zeroValue9
 t22:=Tryz.underlying100
 a22:=Tryz.isAgg100
 z22:=Tryz.sizeOf100
 v22:=Tryz.zeroValue100
 a24:=Tryz.isAgg109
 z24:=Tryz.sizeOf109
 t25:=Tryz.underlying161
 a25:=Tryz.isAgg161
 z25:=Tryz.sizeOf161
 v25:=Tryz.zeroValue161
 t39:=Tryz.underlying155
 a39:=Tryz.isAgg155
 z39:=Tryz.sizeOf155
 v39:=Tryz.zeroValue155
 t45:=Tryz.underlying238
 a45:=Tryz.isAgg238
 z45:=Tryz.sizeOf238
 v45:=Tryz.zeroValue238
 t46:=Tryz.underlying239
 a46:=Tryz.isAgg239
 z46:=Tryz.sizeOf239
 v46:=Tryz.zeroValue239
 t50:=Tryz.underlying191
 a50:=Tryz.isAgg191
 z50:=Tryz.sizeOf191
 v50:=Tryz.zeroValue191
 t53:=Tryz.underlying79
 a53:=Tryz.isAgg79
 z53:=Tryz.sizeOf79
 v53:=Tryz.zeroValue79
 t55:=Tryz.underlying246
 a55:=Tryz.isAgg246
 z55:=Tryz.sizeOf246
 v55:=Tryz.zeroValue246
 t66:=Tryz.underlying276
 a66:=Tryz.isAgg276
 z66:=Tryz.sizeOf276
 v66:=Tryz.zeroValue276
 t70:=Tryz.underlying280
 a70:=Tryz.isAgg280
 z70:=Tryz.sizeOf280
 v70:=Tryz.zeroValue280
 t76:=Tryz.underlying308
 a76:=Tryz.isAgg308
 z76:=Tryz.sizeOf308
 v76:=Tryz.zeroValue308
 t77:=Tryz.underlying309
 a77:=Tryz.isAgg309
 z77:=Tryz.sizeOf309
 v77:=Tryz.zeroValue309
end Go.Proofs.YtnkkaeblokdifaaGreat
/- Layer 28: an item's check; the order of resources and of items. -/
namespace Go.Proofs.YtnkkaeblokdifaaGreat
open Go.RowKit
set_option maxRecDepth 100000
def QO (i:AT):Int:=if ∃x∈sumL (ctr i),¬(-Mx≤x.2∧x.2≤Mx) then 12 else 0
theorem bnd_bad {i:AT} {j:Nat} {r:A4} {v:Int} (hm:(sumL (ctr i))[j]?=some (r,v)) (hv:¬(-Mx≤v∧v≤Mx)):(12:Int)=QO i:=by
 unfold QO;rw [if_pos ⟨_,List.mem_of_getElem? hm,hv⟩]
theorem bnd_ok {i:AT} (h:∀x∈sumL (ctr i),-Mx≤x.2∧x.2≤Mx):(0:Int)=QO i:=by
 unfold QO;rw [if_neg];rintro ⟨x,hx,hn⟩;exact hn (h x hx)
theorem WL (i:AT) (hi:ItmB i):AU Tryz.prog 70 [.d (Aw i)] (AG (QO i)):=by
 obtain ⟨M,hMM⟩:∃M,sumL (ctr i)=M:=⟨_,rfl⟩
 have hs:=(P3 i hi).by [(2,20)] rfl;rw [hMM] at hs;refine BY Tryz.func70 Z Z Tryz.ntmps70 Z Z Z fun F hF=>(AF (AJ (U (CJ 1 Z Z Z Z Z Z Z) (AD Z Z (AH (AF (AF (AJ ?_))))))))
 first | refine J (An Z Z A7 rfl) ?_ | refine J (Ao Z Z A7 Z Z Z) ?_ | refine J (Ap Z Z (rfl) rfl A7 rfl) ?_
 refine U (HQ hs rfl [20] ⟨rfl,trivial⟩ Z Z Z Z Z Z Z Z Z) (U (HZ 2 Z Z Z El Z Z Z Z) (AH (Au (De (α:=List Nat) (fun seen=>⟨15,[(7,(.ptr 2 0 0))],[(2,[.iter 20 0 M.length seen]),(20,[B5 D5 AG M])]⟩) (fun seen=>∀x∈M,x∈DW M (List.range M.length) seen∨(-Mx≤x.2∧x.2≤Mx)) (fun seen=>(DW M (List.range M.length) seen).length) ([]) (fun x hx=> .inl (by rw [GN (by simp)];exact hx)) (BP hF [2,20] Z Z ⟨rfl,trivial⟩) ?_))));intro seen hI;refine AF (AJ (NA (M) Z Z Z Z (fun hl8=>?_) (fun j8 b8 k8 v8 hm8 hb8 hB8 hp8=>⟨_,rfl,?_⟩)))
 ·first | refine J (BT Z Z Z) ?_ | refine J (BS Z Z Z) ?_
  refine AH (AF (Ey Z Z (C6 (AF (AJ (AD Z Z (AH (Af ?_))))))));exact ⟨_,[],[],Ae rfl,rfl,rfl,Al (bnd_ok fun x hx=>by rw [hMM] at hx;exact (hI x hx).elim (fun h=>by rw [hl8] at h;cases h) id),rfl⟩
 ·first | refine J (BT Z Z Z) ?_ | refine J (BS Z Z Z) ?_
  refine AH (AF (Dg Z Z (Am (Au (AF (AJ (J (H1 (M) j8 b8 Z Z Z hm8 hb8 rfl) ?_)))))))
  first | refine J (BT Z Z Z) ?_ | refine J (BS Z Z Z) ?_
  refine AD Z Z (AH (AF (AJ (AC Z Z (J (BF (FC v8 (-1000000000000000) 1000000000000000) Z Z) ?_)))))
  first | refine J (F2 Z Z) ?_ | refine J (FT Z Z) ?_
  refine AH ?_
  first | refine BJ rfl (fun h14=>?_) (fun h14=>?_) | refine BB rfl (fun h14=>?_) (fun h14=>?_)
  ·refine AF (AJ (AD Z Z (AH (Af ?_))));exact ⟨_,[],[],Ae rfl,rfl,rfl,Al (bnd_bad (by rw [hMM];exact hm8) (by simpa [Mx] using h14)),rfl⟩
  ·refine Am ?_;exact ⟨seen++ [b8],fun x hx=>(hI x hx).elim (fun h=>(List.mem_cons.1 (hp8.mem_iff.1 h)).elim (fun e=> .inr (by rw [e];simpa [Mx] using h14)) .inl) .inr,by rw [hp8.length_eq];exact Nat.lt_succ_self _,BP hF [2,20] rfl (rfl) ⟨rfl,trivial⟩⟩
theorem PP {α:Type} {l:List α} {f:α ->Int}:Bk (l.map f)=0↔∀x∈l,f x=0:=by
 induction l with
 | nil=>simp [Bk]
 | cons a l ih=>
  simp only [List.map_cons,Bk]
  split
  ·rename_i h;simp [ih,h]
  ·rename_i h;simp [h]
def Q2 (i:AT):List (FuncId×Int):=[(66,Mm i),(67,TF i),(68,SN i),(69,SK i),(70,QO i)]
def BI (i:AT):Int:=if ¬(0≤i.id∧i.id≤1000000000)∨¬(0≤i.sq∧i.sq≤1000000000)∨¬(0≤i.pr∧i.pr≤2) then 2 else if 256<i.po.length∨256<i.pa.length∨256<i.af.length then 8 else Bk ((Q2 i).map Prod.snd)
theorem TA {i:AT} (h:Mm i=0):∀p∈i.po,-Mx≤p.d∧p.d≤Mx:=fun p hp=>by
 have:=PP.1 h p hp;unfold RE at this
 split at this; · cases this
 split at this; · cases this
 split at this; · cases this
 rename_i h;exact Decidable.of_not_not h
theorem pay_b {i:AT} (h:TF i=0):∀p∈i.pa,0≤p.n∧p.n≤Mx:=fun p hp=>by
 have:=PP.1 h p hp;unfold Q7 at this
 split at this; · cases this
 split at this; · cases this
 split at this; · cases this
 rename_i h;exact Decidable.of_not_not h
theorem fns_p (i:AT) (h1:i.po.length≤256) (h2:i.pa.length≤256) (h3:i.af.length≤256) {k:Nat} (hk:k<(Q2 i).length) (h0:∀j,j<k ->((Q2 i)[j]?).map Prod.snd=some 0):AU Tryz.prog (Q2 i)[k].1 [.d (Aw i)] (AG (Q2 i)[k].2):=by
 match k,hk with
 | 0,_=>exact Sz i (by omega)
 | 1,_=>exact TD i (by omega)
 | 2,_=>exact after_p i (by omega)
 | 3,_=>exact T9 i h1 (TA (by have:=h0 0 (by omega);simpa [Q2] using this))
 | 4,_=>exact WL i ⟨h1,h2,h3,TA (by have:=h0 0 (by omega);simpa [Q2] using this),pay_b (by have:=h0 1 (by omega);simpa [Q2] using this)⟩
def fnD (i:AT) (p:FuncId×Int):D:= .fn p.1 [Aw i] []
theorem K3 (i:AT) (g1:i.po.length≤140737488355328) (g2:i.pa.length≤140737488355328) (g3:i.af.length≤140737488355328):AU Tryz.prog 29 [.d (Aw i)] (AG (BI i)):=by
 refine BY Tryz.func29 Z Z Tryz.ntmps29 Z Z Z fun F hF=>?_;refine AF (AJ (U (CJ 1 Z Z Z Z Z Z Z) (AD Z Z (AH (AF (Au (AF (AJ ?_))))))))
 first | refine J (AO rfl B4 Z Z Z) ?_ | refine J (AQ rfl B4 Z Z Z) ?_ | refine J (AR rfl B4 Z Z Z) ?_ | refine J (AP rfl B4 Z Z Z) ?_ | refine J (AN rfl B4 Z Z Z) ?_
 first | refine J (A0 Z Z A9 rfl) ?_ | refine J (AY Z Z Z A9 rfl) ?_ | refine J (AZ Z Z (rfl) rfl A9 rfl) ?_
 refine J (BF (HT _ _ _) Z Z) ?_
 first | refine J (F2 Z Z) ?_ | refine J (FT Z Z) ?_
 refine AC Z Z ?_
 first | refine K9 11 rfl (fun h11=>?_) (fun h11=>?_) | refine J4 11 rfl (fun h11=>?_) (fun h11=>?_)
 ·refine Aj Z Z Z Z ?_;refine Aj Z Z Z Z (Aj Z Z Z Z (Aj Z Z Z Z (J (EB Z Z Z Z) (AC Z Z (Aj Z Z Z Z (Aj Z Z Z Z (Aj Z Z Z Z (Aj Z Z Z Z ?_))))))));refine J (EB Z Z Z Z) (AD Z Z (AH (Dg Z Z (AF (AJ (AD Z Z (AH (Af ?_))))))));exact ⟨_,[],[],Ae rfl,rfl,rfl,Al (by unfold BI;rw [if_pos (by omega)]),rfl⟩
 ·refine Ah Z Z Z ?_
  first | refine J (AO rfl G6 Z Z Z) ?_ | refine J (AQ rfl G6 Z Z Z) ?_ | refine J (AR rfl G6 Z Z Z) ?_ | refine J (AP rfl G6 Z Z Z) ?_ | refine J (AN rfl G6 Z Z Z) ?_
  refine Ah Z Z Z ?_
  first | refine J (A0 Z Z A9 rfl) ?_ | refine J (AY Z Z Z A9 rfl) ?_ | refine J (AZ Z Z (rfl) rfl A9 rfl) ?_
  refine Ah Z Z Z (J (BF (HT _ _ _) Z Z) (Ah Z Z Z ?_))
  first | refine J (F2 Z Z) ?_ | refine J (FT Z Z) ?_
  refine J (Ei Z Z Z Z) (AC Z Z ?_)
  first | refine K9 17 rfl (fun h17=>?_) (fun h17=>?_) | refine J4 17 rfl (fun h17=>?_) (fun h17=>?_)
  ·refine Aj Z Z Z Z (Aj Z Z Z Z (Aj Z Z Z Z (Aj Z Z Z Z ?_)));refine J (EB Z Z Z Z) (AD Z Z (AH (Dg Z Z (AF (AJ (AD Z Z (AH (Af ?_))))))));exact ⟨_,[],[],Ae rfl,rfl,rfl,Al (by unfold BI;rw [if_pos (by omega)]),rfl⟩
  ·refine Ah Z Z Z ?_
   first | refine J (AO rfl Lx Z Z Z) ?_ | refine J (AQ rfl Lx Z Z Z) ?_ | refine J (AR rfl Lx Z Z Z) ?_ | refine J (AP rfl Lx Z Z Z) ?_ | refine J (AN rfl Lx Z Z Z) ?_
   refine Ah Z Z Z ?_
   first | refine J (A0 Z Z A9 rfl) ?_ | refine J (AY Z Z Z A9 rfl) ?_ | refine J (AZ Z Z (rfl) rfl A9 rfl) ?_
   refine Ah Z Z Z (J (BF (HT _ _ _) Z Z) (Ah Z Z Z ?_))
   first | refine J (F2 Z Z) ?_ | refine J (FT Z Z) ?_
   refine J (Ei Z Z Z Z) (AD Z Z (AH ?_))
   first | refine BJ rfl (fun h6=>?_) (fun h6=>?_) | refine BB rfl (fun h6=>?_) (fun h6=>?_)
   ·refine AF (AJ (AD Z Z (AH (Af ?_))));exact ⟨_,[],[],Ae rfl,rfl,rfl,Al (by unfold BI;rw [if_pos (by omega)]),rfl⟩
   ·refine AF (AJ ?_)
    first | refine J (AO rfl C1 Z Z Z) ?_ | refine J (AQ rfl C1 Z Z Z) ?_ | refine J (AR rfl C1 Z Z Z) ?_ | refine J (AP rfl C1 Z Z Z) ?_ | refine J (AN rfl C1 Z Z Z) ?_
    first | refine J (A0 Z Z Ej rfl) ?_ | refine J (AY Z Z Z Ej rfl) ?_ | refine J (AZ Z Z (rfl) rfl Ej rfl) ?_
    first | refine J (Cc rfl Tryz.underlying46 rfl) ?_ | refine J (C8 Z Z Tryz.underlying46 rfl) ?_ | refine J (Cd rfl Tryz.underlying46 rfl) ?_ | refine J (Cb rfl Tryz.underlying46 rfl) ?_ | refine J (CW rfl Tryz.underlying46 rfl) ?_ | refine J (C9 rfl Tryz.underlying46 rfl) ?_
    first | refine J (Dj Z Z Z) ?_ | refine J (Co Z Z Z) ?_
    refine AC Z Z ?_
    first | refine K9 28 rfl (fun h28=>?_) (fun h28=>?_) | refine J4 28 rfl (fun h28=>?_) (fun h28=>?_)
    ·refine Aj Z Z Z Z ?_;refine Aj Z Z Z Z (Aj Z Z Z Z (Aj Z Z Z Z (J (EB Z Z Z Z) (AC Z Z (Aj Z Z Z Z (Aj Z Z Z Z (Aj Z Z Z Z (Aj Z Z Z Z ?_))))))));refine J (EB Z Z Z Z) (AD Z Z (AH (Dg Z Z (AF (AJ (AD Z Z (AH (Af ?_))))))));exact ⟨_,[],[],Ae rfl,rfl,rfl,Al (by unfold BI;rw [if_neg (by omega),if_pos (by omega)]),rfl⟩
    ·refine Ah Z Z Z ?_
     first | refine J (AO rfl DX Z Z Z) ?_ | refine J (AQ rfl DX Z Z Z) ?_ | refine J (AR rfl DX Z Z Z) ?_ | refine J (AP rfl DX Z Z Z) ?_ | refine J (AN rfl DX Z Z Z) ?_
     refine Ah Z Z Z ?_
     first | refine J (A0 Z Z Fm rfl) ?_ | refine J (AY Z Z Z Fm rfl) ?_ | refine J (AZ Z Z (rfl) rfl Fm rfl) ?_
     refine Ah Z Z Z ?_
     first | refine J (Cc rfl Tryz.underlying47 rfl) ?_ | refine J (C8 Z Z Tryz.underlying47 rfl) ?_ | refine J (Cd rfl Tryz.underlying47 rfl) ?_ | refine J (Cb rfl Tryz.underlying47 rfl) ?_ | refine J (CW rfl Tryz.underlying47 rfl) ?_ | refine J (C9 rfl Tryz.underlying47 rfl) ?_
     refine Ah Z Z Z ?_
     first | refine J (Dj Z Z Z) ?_ | refine J (Co Z Z Z) ?_
     refine J (Ei Z Z Z Z) (AC Z Z ?_)
     first | refine K9 34 rfl (fun h34=>?_) (fun h34=>?_) | refine J4 34 rfl (fun h34=>?_) (fun h34=>?_)
     ·refine Aj Z Z Z Z (Aj Z Z Z Z (Aj Z Z Z Z (Aj Z Z Z Z ?_)));refine J (EB Z Z Z Z) (AD Z Z (AH (Dg Z Z (AF (AJ (AD Z Z (AH (Af ?_))))))));exact ⟨_,[],[],Ae rfl,rfl,rfl,Al (by unfold BI;rw [if_neg (by omega),if_pos (by omega)]),rfl⟩
     ·refine Ah Z Z Z ?_
      first | refine J (AO rfl Ct Z Z Z) ?_ | refine J (AQ rfl Ct Z Z Z) ?_ | refine J (AR rfl Ct Z Z Z) ?_ | refine J (AP rfl Ct Z Z Z) ?_ | refine J (AN rfl Ct Z Z Z) ?_
      refine Ah Z Z Z ?_
      first | refine J (A0 Z Z Aq rfl) ?_ | refine J (AY Z Z Z Aq rfl) ?_ | refine J (AZ Z Z (rfl) rfl Aq rfl) ?_
      refine Ah Z Z Z ?_
      first | refine J (Cc rfl Tryz.underlying33 rfl) ?_ | refine J (C8 Z Z Tryz.underlying33 rfl) ?_ | refine J (Cd rfl Tryz.underlying33 rfl) ?_ | refine J (Cb rfl Tryz.underlying33 rfl) ?_ | refine J (CW rfl Tryz.underlying33 rfl) ?_ | refine J (C9 rfl Tryz.underlying33 rfl) ?_
      refine Ah Z Z Z ?_
      first | refine J (Dj Z Z Z) ?_ | refine J (Co Z Z Z) ?_
      refine J (Ei Z Z Z Z) (AD Z Z (AH ?_))
      first | refine BJ rfl (fun h23=>?_) (fun h23=>?_) | refine BB rfl (fun h23=>?_) (fun h23=>?_)
      ·refine AF (AJ (AD Z Z (AH (Af ?_))));exact ⟨_,[],[],Ae rfl,rfl,rfl,Al (by unfold BI;rw [if_neg (by omega),if_pos (by omega)]),rfl⟩
      ·refine Am (AF (AF (AJ ?_)))
       first | refine J (An Z Z A7 rfl) ?_ | refine J (Ao Z Z A7 Z Z Z) ?_ | refine J (Ap Z Z (rfl) rfl A7 rfl) ?_
       refine J (D1 (ds:=[Aw i]) (es:=[]) Z Z Z Z Z) ?_
       first | refine J (An Z Z A7 rfl) ?_ | refine J (Ao Z Z A7 Z Z Z) ?_ | refine J (Ap Z Z (rfl) rfl A7 rfl) ?_
       refine J (D1 (ds:=[Aw i]) (es:=[]) Z Z Z Z Z) ?_
       first | refine J (An Z Z A7 rfl) ?_ | refine J (Ao Z Z A7 Z Z Z) ?_ | refine J (Ap Z Z (rfl) rfl A7 rfl) ?_
       refine J (D1 (ds:=[Aw i]) (es:=[]) Z Z Z Z Z) ?_
       first | refine J (An Z Z A7 rfl) ?_ | refine J (Ao Z Z A7 Z Z Z) ?_ | refine J (Ap Z Z (rfl) rfl A7 rfl) ?_
       refine J (D1 (ds:=[Aw i]) (es:=[]) Z Z Z Z Z) ?_
       first | refine J (An Z Z A7 rfl) ?_ | refine J (Ao Z Z A7 Z Z Z) ?_ | refine J (Ap Z Z (rfl) rfl A7 rfl) ?_
       refine J (D1 (ds:=[Aw i]) (es:=[]) Z Z Z Z Z) (U (Fg 2 sl152 Z Z Z Z Z Z Z Z) ?_)
       first | refine J (Cc rfl Tryz.underlying152 rfl) ?_ | refine J (C8 Z Z Tryz.underlying152 rfl) ?_ | refine J (Cd rfl Tryz.underlying152 rfl) ?_ | refine J (Cb rfl Tryz.underlying152 rfl) ?_ | refine J (CW rfl Tryz.underlying152 rfl) ?_ | refine J (C9 rfl Tryz.underlying152 rfl) ?_
       refine AC Z Z (AH (Au (De (α:=Nat) (fun k=>⟨62,[(50,(.own 2 0 5)),(51,(.d (AG 5))),(52,(.d (AG (k:Int))))],[(2,[.rowD 88 1 ((Q2 i).map (fnD i))])]⟩) (fun k=>k≤5∧Bk ((Q2 i).map Prod.snd)=Bk (((Q2 i).drop k).map Prod.snd)∧∀j,j<k ->((Q2 i)[j]?).map Prod.snd=some 0) (fun k=>5 - k) (0) (⟨Nat.zero_le _,rfl,fun j h=>absurd h (Nat.not_lt_zero j)⟩) (BP hF [2] Z Z ⟨rfl,rfl,rfl,trivial⟩) ?_)));rintro k ⟨hk0,hkE,hkz⟩;refine AF (AJ ?_)
       first | refine J (C7 Z Z Z) ?_ | refine J (Ca Z Z Z) ?_
       refine AH (AF ?_)
       first | refine BJ rfl (fun h53=>?_) (fun h53=>?_) | refine BB rfl (fun h53=>?_) (fun h53=>?_)
       ·have hk1:k<(Q2 i).length:=by show k<5;have h:=h53;omega
        refine Am (AF (Au (AF (AJ ?_))));have hE:=Dt hk1 hkE
        first | refine J (CY (k) Z Z (rfl) (by show k<5;exact hk1) Tryz.underlying152 rfl sz88 rfl) ?_ | refine J (CZ (k) Z Z (rfl) (by show k<5;exact hk1) rfl Tryz.underlying152 sz88 rfl) ?_
        first | refine J (A0 Z Z on88 rfl) ?_ | refine J (AY Z Z Z on88 rfl) ?_ | refine J (AZ Z Z (A2 hk1) rfl on88 rfl) ?_
        refine AD Z Z (AH ?_);refine AF (AJ (AC Z Z (J (IJ (fns_p i (by omega) (by omega) (by omega) hk1 hkz) Z Z) (AD Z Z (AH (AF (AJ (AC Z Z ?_))))))))
        first | refine J (E9 Z Z Z) ?_ | refine J (Ed Z Z Z) ?_ | refine J (EU Z Z Z) ?_ | refine J (Ea Tryz.underlying34 Z Z Z) ?_ | refine J (Ec Tryz.underlying34 Z Z Z) ?_ | refine J (st_neqN Tryz.underlying34 Z Z) ?_ | refine J (Eb Tryz.underlying34 Z Z Z) ?_ | refine J (st_neqFN Tryz.underlying34 Z Z) ?_
        refine AH ?_
        first | refine BJ rfl (fun h59=>?_) (fun h59=>?_) | refine BB rfl (fun h59=>?_) (fun h59=>?_)
        ·refine AF (AJ (AC Z Z (AD Z Z (AH (Af ?_)))));exact ⟨_,[],[],Ae rfl,rfl,rfl,Al (by unfold BI;rw [if_neg (by omega),if_neg (by omega)];exact hE.2 _ rfl (by simpa using h59)),rfl⟩
        ·refine Am (AJ (J (Bi Z Z (A6 (k+1) (by omega)) rfl) (AC Z Z (AH ?_))));exact ⟨k+1,⟨by show k+1≤_;omega,hE.1 (by simpa using h59),fun j hj=>(Nat.lt_succ_iff_lt_or_eq.1 hj).elim (hkz j) fun h=>by subst h;rw [List.getElem?_eq_getElem hk1];show some _=_;congr 1;simpa using h59⟩,by show 5 - (k+1)<5 - k;omega,BP hF [2] rfl (rfl) ⟨rfl,rfl,rfl,trivial⟩⟩
       ·refine C6 (AF (AJ (AD Z Z (AH (Af ?_)))));exact ⟨_,[],[],Ae rfl,rfl,rfl,Al (by unfold BI;rw [if_neg (by omega),if_neg (by omega),hkE,GT (by have h:=h53;show ¬k<5;omega)]),rfl⟩
theorem or_p (l:List Int) (hn:l.length≤140737488355328):AU Tryz.prog 73 [.d (.sl none (l.map AG))] (AG (Bk l)):=by
 refine BY Tryz.func73 Z Z Tryz.ntmps73 Z Z Z fun F hF=>(AF (AJ (AD Z Z ?_)));refine AH (AF (AJ (AD Z Z (AH (AF (AF (AJ (AC Z Z ?_))))))))
 first | refine J (Cc rfl Tryz.underlying33 rfl) ?_ | refine J (C8 Z Z Tryz.underlying33 rfl) ?_ | refine J (Cd rfl Tryz.underlying33 rfl) ?_ | refine J (Cb rfl Tryz.underlying33 rfl) ?_ | refine J (CW rfl Tryz.underlying33 rfl) ?_ | refine J (C9 rfl Tryz.underlying33 rfl) ?_
 refine AC Z Z (AH (Au (Dz (α:=Nat) (fun k=>⟨18,[(3,(.d (AG 0))),(6,(.d (.sl none (l.map AG)))),(7,(.d (AG (l.length:Int)))),(8,(.d (AG (k:Int))))],[]⟩) (fun k=>k≤l.length∧Bk (l.map id)=Bk ((l.drop k).map id)) (fun k=>l.length - k) (0) (⟨Nat.zero_le _,rfl⟩) (Ti ⟨rfl,rfl,rfl,rfl,trivial⟩) ?_)));rintro k ⟨hk0,hk⟩;refine AF (AJ ?_)
 first | refine J (C7 Z Z Z) ?_ | refine J (Ca Z Z Z) ?_
 refine AH (AF ?_)
 first | refine BJ rfl (fun h9=>?_) (fun h9=>?_) | refine BB rfl (fun h9=>?_) (fun h9=>?_)
 ·have hk1:k<l.length:=DZ h9;refine Am (AF (Au (AF (AJ ?_))));have hE:=Dt hk1 hk
  first | refine J (CY (k) Z Z (rfl) (A2 hk1) Tryz.underlying33 rfl Dh rfl) ?_ | refine J (CZ (k) Z Z (rfl) (A2 hk1) rfl Tryz.underlying33 Dh rfl) ?_
  first | refine J (A0 Z Z A9 rfl) ?_ | refine J (AY Z Z Z A9 rfl) ?_ | refine J (AZ Z Z (rfl) rfl A9 rfl) ?_
  refine AD Z Z (AH (AF (AJ (AC Z Z (AC Z Z ?_)))))
  first | refine J (E9 Z Z Z) ?_ | refine J (Ed Z Z Z) ?_ | refine J (EU Z Z Z) ?_ | refine J (Ea Tryz.underlying3 Z Z Z) ?_ | refine J (Ec Tryz.underlying3 Z Z Z) ?_ | refine J (st_neqN Tryz.underlying3 Z Z) ?_ | refine J (Eb Tryz.underlying3 Z Z Z) ?_ | refine J (st_neqFN Tryz.underlying3 Z Z) ?_
  refine AH ?_
  first | refine BJ rfl (fun h14=>?_) (fun h14=>?_) | refine BB rfl (fun h14=>?_) (fun h14=>?_)
  ·refine AF (AJ (AC Z Z (AD Z Z (AH (Af ?_)))));exact ⟨_,[],[],Ae rfl,rfl,rfl,Al ((hE.2 l[k] rfl (by simpa using h14)).trans (by rw [List.map_id])),rfl⟩
  ·refine Am (AJ (J (Bi Z Z (A6 (k+1) (by omega)) rfl) (AC Z Z (AH ?_))));exact ⟨k+1,⟨by show k+1≤_;omega,hE.1 (by simpa using h14)⟩,by show l.length - (k+1)<l.length - k;omega,⟨rfl,rfl,fun _ _=>MT.get (l:=[(3,_),(6,_),(7,_),(8,_)]) ⟨rfl,rfl,rfl,rfl,trivial⟩⟩⟩
 ·refine C6 (AF (AJ (AC Z Z (AD Z Z (AH (Af ?_))))));exact ⟨_,[],[],Ae rfl,rfl,rfl,Al (by rw [List.map_id] at hk;rw [hk,GT (by have h:=h9;omega)]),rfl⟩
def CE (a b:A4):Int:=Bk [Dy a.k b.k,Ep a.acc.o b.acc.o,Dy a.acc.k b.acc.k,Ep a.acc.a b.acc.a,Ep a.f b.f,Ep a.t b.t]
def Iz (a b:AT):Int:=Bk [Dy b.pr a.pr,Dy a.sq b.sq]
set_option maxHeartbeats 2000000 in
theorem LP (a b:A4):AU Tryz.prog 33 [.d (D5 a),.d (D5 b)] (AG (CE a b)):=by
 refine BY Tryz.func33 Z Z Tryz.ntmps33 Z Z Z fun F hF=>?_;refine AF (AJ (U (CJ 1 Z Z Z Z Z Z Z) (U (CJ 2 Z Z Z Z Z Z Z) (AD Z Z (AH (AF (G8 [[],[0],[],[2],[0,1,2,3],[],[5],[5,6],[],[8],[8,9],[0,1,2,3,4,5,6,7,8,9,10],[],[12],[12,13],[],[15],[15,16],[0,1,2,3,4,5,6,7,8,9,10,11,12,13,14,15,16,17],[],[19],[19,20],[],[22],[22,23],[0,1,2,3,4,5,6,7,8,9,10,11,12,13,14,15,16,17,18,19,20,21,22,23,24],[],[26],[],[28],[0,1,2,3,4,5,6,7,8,9,10,11,12,13,14,15,16,17,18,19,20,21,22,23,24,25,26,27,28,29],[],[31],[],[33],[0,1,2,3,4,5,6,7,8,9,10,11,12,13,14,15,16,17,18,19,20,21,22,23,24,25,26,27,28,29,30,31,32,33,34],[0,1,2,3,4,5,6,7,8,9,10,11,12,13,14,15,16,17,18,19,20,21,22,23,24,25,26,27,28,29,30,31,32,33,34,35],[0,1,2,3,4,5,6,7,8,9,10,11,12,13,14,15,16,17,18,19,20,21,22,23,24,25,26,27,28,29,30,31,32,33,34,35,36],[0,1,2,3,4,5,6,7,8,9,10,11,12,13,14,15,16,17,18,19,20,21,22,23,24,25,26,27,28,29,30,31,32,33,34,35,36,37]] BC rfl (Hq ?_))))))))
 first | refine AE [2] [] Z Z (fun _=>AB (AO rfl Ly Z Z Z)) ?_ | refine AI [2] Z Z (fun _=>AB (AO rfl Ly Z Z Z)) ?_ | refine AE [2] [] Z Z (fun _=>AB (AQ rfl Ly Z Z Z)) ?_ | refine AI [2] Z Z (fun _=>AB (AQ rfl Ly Z Z Z)) ?_ | refine AE [2] [] Z Z (fun _=>AB (AR rfl Ly Z Z Z)) ?_ | refine AI [2] Z Z (fun _=>AB (AR rfl Ly Z Z Z)) ?_ | refine AE [2] [] Z Z (fun _=>AB (AP rfl Ly Z Z Z)) ?_ | refine AI [2] Z Z (fun _=>AB (AP rfl Ly Z Z Z)) ?_ | refine AE [2] [] Z Z (fun _=>AB (AN rfl Ly Z Z Z)) ?_ | refine AI [2] Z Z (fun _=>AB (AN rfl Ly Z Z Z)) ?_
 first | refine AE [5] [] Z Z (fun _=>AB (A0 Z Z A9 rfl)) ?_ | refine AI [5] Z Z (fun _=>AB (A0 Z Z A9 rfl)) ?_ | refine AE [5] [] Z Z (fun _=>AB (AY Z Z Z A9 rfl)) ?_ | refine AI [5] Z Z (fun _=>AB (AY Z Z Z A9 rfl)) ?_ | refine AE [5] [] Z Z (fun _=>AB (AZ Z Z (rfl) rfl A9 rfl)) ?_ | refine AI [5] Z Z (fun _=>AB (AZ Z Z (rfl) rfl A9 rfl)) ?_
 first | refine AE [3] [] Z Z (fun _=>AB (AO rfl Ly Z Z Z)) ?_ | refine AI [3] Z Z (fun _=>AB (AO rfl Ly Z Z Z)) ?_ | refine AE [3] [] Z Z (fun _=>AB (AQ rfl Ly Z Z Z)) ?_ | refine AI [3] Z Z (fun _=>AB (AQ rfl Ly Z Z Z)) ?_ | refine AE [3] [] Z Z (fun _=>AB (AR rfl Ly Z Z Z)) ?_ | refine AI [3] Z Z (fun _=>AB (AR rfl Ly Z Z Z)) ?_ | refine AE [3] [] Z Z (fun _=>AB (AP rfl Ly Z Z Z)) ?_ | refine AI [3] Z Z (fun _=>AB (AP rfl Ly Z Z Z)) ?_ | refine AE [3] [] Z Z (fun _=>AB (AN rfl Ly Z Z Z)) ?_ | refine AI [3] Z Z (fun _=>AB (AN rfl Ly Z Z Z)) ?_
 first | refine AE [7] [] Z Z (fun _=>AB (A0 Z Z A9 rfl)) ?_ | refine AI [7] Z Z (fun _=>AB (A0 Z Z A9 rfl)) ?_ | refine AE [7] [] Z Z (fun _=>AB (AY Z Z Z A9 rfl)) ?_ | refine AI [7] Z Z (fun _=>AB (AY Z Z Z A9 rfl)) ?_ | refine AE [7] [] Z Z (fun _=>AB (AZ Z Z (rfl) rfl A9 rfl)) ?_ | refine AI [7] Z Z (fun _=>AB (AZ Z Z (rfl) rfl A9 rfl)) ?_
 first | refine AE [6,8] [] Z Z (fun _=>AB (BF (JT a.k b.k) Z Z)) ?_ | refine AI [6,8] Z Z (fun _=>AB (BF (JT a.k b.k) Z Z)) ?_
 first | refine AE [2] [] Z Z (fun _=>AB (AO rfl Bx Z Z Z)) ?_ | refine AI [2] Z Z (fun _=>AB (AO rfl Bx Z Z Z)) ?_ | refine AE [2] [] Z Z (fun _=>AB (AQ rfl Bx Z Z Z)) ?_ | refine AI [2] Z Z (fun _=>AB (AQ rfl Bx Z Z Z)) ?_ | refine AE [2] [] Z Z (fun _=>AB (AR rfl Bx Z Z Z)) ?_ | refine AI [2] Z Z (fun _=>AB (AR rfl Bx Z Z Z)) ?_ | refine AE [2] [] Z Z (fun _=>AB (AP rfl Bx Z Z Z)) ?_ | refine AI [2] Z Z (fun _=>AB (AP rfl Bx Z Z Z)) ?_ | refine AE [2] [] Z Z (fun _=>AB (AN rfl Bx Z Z Z)) ?_ | refine AI [2] Z Z (fun _=>AB (AN rfl Bx Z Z Z)) ?_
 first | refine AE [10] [] Z Z (fun _=>AB (AO rfl J1 Z Z Z)) ?_ | refine AI [10] Z Z (fun _=>AB (AO rfl J1 Z Z Z)) ?_ | refine AE [10] [] Z Z (fun _=>AB (AQ rfl J1 Z Z Z)) ?_ | refine AI [10] Z Z (fun _=>AB (AQ rfl J1 Z Z Z)) ?_ | refine AE [10] [] Z Z (fun _=>AB (AR rfl J1 Z Z Z)) ?_ | refine AI [10] Z Z (fun _=>AB (AR rfl J1 Z Z Z)) ?_ | refine AE [10] [] Z Z (fun _=>AB (AP rfl J1 Z Z Z)) ?_ | refine AI [10] Z Z (fun _=>AB (AP rfl J1 Z Z Z)) ?_ | refine AE [10] [] Z Z (fun _=>AB (AN rfl J1 Z Z Z)) ?_ | refine AI [10] Z Z (fun _=>AB (AN rfl J1 Z Z Z)) ?_
 first | refine AE [11] [] Z Z (fun _=>AB (A0 Z Z Ay rfl)) ?_ | refine AI [11] Z Z (fun _=>AB (A0 Z Z Ay rfl)) ?_ | refine AE [11] [] Z Z (fun _=>AB (AY Z Z Z Ay rfl)) ?_ | refine AI [11] Z Z (fun _=>AB (AY Z Z Z Ay rfl)) ?_ | refine AE [11] [] Z Z (fun _=>AB (AZ Z Z (rfl) rfl Ay rfl)) ?_ | refine AI [11] Z Z (fun _=>AB (AZ Z Z (rfl) rfl Ay rfl)) ?_
 first | refine AE [3] [] Z Z (fun _=>AB (AO rfl Bx Z Z Z)) ?_ | refine AI [3] Z Z (fun _=>AB (AO rfl Bx Z Z Z)) ?_ | refine AE [3] [] Z Z (fun _=>AB (AQ rfl Bx Z Z Z)) ?_ | refine AI [3] Z Z (fun _=>AB (AQ rfl Bx Z Z Z)) ?_ | refine AE [3] [] Z Z (fun _=>AB (AR rfl Bx Z Z Z)) ?_ | refine AI [3] Z Z (fun _=>AB (AR rfl Bx Z Z Z)) ?_ | refine AE [3] [] Z Z (fun _=>AB (AP rfl Bx Z Z Z)) ?_ | refine AI [3] Z Z (fun _=>AB (AP rfl Bx Z Z Z)) ?_ | refine AE [3] [] Z Z (fun _=>AB (AN rfl Bx Z Z Z)) ?_ | refine AI [3] Z Z (fun _=>AB (AN rfl Bx Z Z Z)) ?_
 first | refine AE [13] [] Z Z (fun _=>AB (AO rfl J1 Z Z Z)) ?_ | refine AI [13] Z Z (fun _=>AB (AO rfl J1 Z Z Z)) ?_ | refine AE [13] [] Z Z (fun _=>AB (AQ rfl J1 Z Z Z)) ?_ | refine AI [13] Z Z (fun _=>AB (AQ rfl J1 Z Z Z)) ?_ | refine AE [13] [] Z Z (fun _=>AB (AR rfl J1 Z Z Z)) ?_ | refine AI [13] Z Z (fun _=>AB (AR rfl J1 Z Z Z)) ?_ | refine AE [13] [] Z Z (fun _=>AB (AP rfl J1 Z Z Z)) ?_ | refine AI [13] Z Z (fun _=>AB (AP rfl J1 Z Z Z)) ?_ | refine AE [13] [] Z Z (fun _=>AB (AN rfl J1 Z Z Z)) ?_ | refine AI [13] Z Z (fun _=>AB (AN rfl J1 Z Z Z)) ?_
 first | refine AE [14] [] Z Z (fun _=>AB (A0 Z Z Ay rfl)) ?_ | refine AI [14] Z Z (fun _=>AB (A0 Z Z Ay rfl)) ?_ | refine AE [14] [] Z Z (fun _=>AB (AY Z Z Z Ay rfl)) ?_ | refine AI [14] Z Z (fun _=>AB (AY Z Z Z Ay rfl)) ?_ | refine AE [14] [] Z Z (fun _=>AB (AZ Z Z (rfl) rfl Ay rfl)) ?_ | refine AI [14] Z Z (fun _=>AB (AZ Z Z (rfl) rfl Ay rfl)) ?_
 first | refine AE [12,15] [] Z Z (fun _=>AB (BF (JS a.acc.o b.acc.o) Z Z)) ?_ | refine AI [12,15] Z Z (fun _=>AB (BF (JS a.acc.o b.acc.o) Z Z)) ?_
 first | refine AE [2] [] Z Z (fun _=>AB (AO rfl Bx Z Z Z)) ?_ | refine AI [2] Z Z (fun _=>AB (AO rfl Bx Z Z Z)) ?_ | refine AE [2] [] Z Z (fun _=>AB (AQ rfl Bx Z Z Z)) ?_ | refine AI [2] Z Z (fun _=>AB (AQ rfl Bx Z Z Z)) ?_ | refine AE [2] [] Z Z (fun _=>AB (AR rfl Bx Z Z Z)) ?_ | refine AI [2] Z Z (fun _=>AB (AR rfl Bx Z Z Z)) ?_ | refine AE [2] [] Z Z (fun _=>AB (AP rfl Bx Z Z Z)) ?_ | refine AI [2] Z Z (fun _=>AB (AP rfl Bx Z Z Z)) ?_ | refine AE [2] [] Z Z (fun _=>AB (AN rfl Bx Z Z Z)) ?_ | refine AI [2] Z Z (fun _=>AB (AN rfl Bx Z Z Z)) ?_
 first | refine AE [17] [] Z Z (fun _=>AB (AO rfl Hz Z Z Z)) ?_ | refine AI [17] Z Z (fun _=>AB (AO rfl Hz Z Z Z)) ?_ | refine AE [17] [] Z Z (fun _=>AB (AQ rfl Hz Z Z Z)) ?_ | refine AI [17] Z Z (fun _=>AB (AQ rfl Hz Z Z Z)) ?_ | refine AE [17] [] Z Z (fun _=>AB (AR rfl Hz Z Z Z)) ?_ | refine AI [17] Z Z (fun _=>AB (AR rfl Hz Z Z Z)) ?_ | refine AE [17] [] Z Z (fun _=>AB (AP rfl Hz Z Z Z)) ?_ | refine AI [17] Z Z (fun _=>AB (AP rfl Hz Z Z Z)) ?_ | refine AE [17] [] Z Z (fun _=>AB (AN rfl Hz Z Z Z)) ?_ | refine AI [17] Z Z (fun _=>AB (AN rfl Hz Z Z Z)) ?_
 first | refine AE [18] [] Z Z (fun _=>AB (A0 Z Z A9 rfl)) ?_ | refine AI [18] Z Z (fun _=>AB (A0 Z Z A9 rfl)) ?_ | refine AE [18] [] Z Z (fun _=>AB (AY Z Z Z A9 rfl)) ?_ | refine AI [18] Z Z (fun _=>AB (AY Z Z Z A9 rfl)) ?_ | refine AE [18] [] Z Z (fun _=>AB (AZ Z Z (rfl) rfl A9 rfl)) ?_ | refine AI [18] Z Z (fun _=>AB (AZ Z Z (rfl) rfl A9 rfl)) ?_
 first | refine AE [3] [] Z Z (fun _=>AB (AO rfl Bx Z Z Z)) ?_ | refine AI [3] Z Z (fun _=>AB (AO rfl Bx Z Z Z)) ?_ | refine AE [3] [] Z Z (fun _=>AB (AQ rfl Bx Z Z Z)) ?_ | refine AI [3] Z Z (fun _=>AB (AQ rfl Bx Z Z Z)) ?_ | refine AE [3] [] Z Z (fun _=>AB (AR rfl Bx Z Z Z)) ?_ | refine AI [3] Z Z (fun _=>AB (AR rfl Bx Z Z Z)) ?_ | refine AE [3] [] Z Z (fun _=>AB (AP rfl Bx Z Z Z)) ?_ | refine AI [3] Z Z (fun _=>AB (AP rfl Bx Z Z Z)) ?_ | refine AE [3] [] Z Z (fun _=>AB (AN rfl Bx Z Z Z)) ?_ | refine AI [3] Z Z (fun _=>AB (AN rfl Bx Z Z Z)) ?_
 first | refine AE [20] [] Z Z (fun _=>AB (AO rfl Hz Z Z Z)) ?_ | refine AI [20] Z Z (fun _=>AB (AO rfl Hz Z Z Z)) ?_ | refine AE [20] [] Z Z (fun _=>AB (AQ rfl Hz Z Z Z)) ?_ | refine AI [20] Z Z (fun _=>AB (AQ rfl Hz Z Z Z)) ?_ | refine AE [20] [] Z Z (fun _=>AB (AR rfl Hz Z Z Z)) ?_ | refine AI [20] Z Z (fun _=>AB (AR rfl Hz Z Z Z)) ?_ | refine AE [20] [] Z Z (fun _=>AB (AP rfl Hz Z Z Z)) ?_ | refine AI [20] Z Z (fun _=>AB (AP rfl Hz Z Z Z)) ?_ | refine AE [20] [] Z Z (fun _=>AB (AN rfl Hz Z Z Z)) ?_ | refine AI [20] Z Z (fun _=>AB (AN rfl Hz Z Z Z)) ?_
 first | refine AE [21] [] Z Z (fun _=>AB (A0 Z Z A9 rfl)) ?_ | refine AI [21] Z Z (fun _=>AB (A0 Z Z A9 rfl)) ?_ | refine AE [21] [] Z Z (fun _=>AB (AY Z Z Z A9 rfl)) ?_ | refine AI [21] Z Z (fun _=>AB (AY Z Z Z A9 rfl)) ?_ | refine AE [21] [] Z Z (fun _=>AB (AZ Z Z (rfl) rfl A9 rfl)) ?_ | refine AI [21] Z Z (fun _=>AB (AZ Z Z (rfl) rfl A9 rfl)) ?_
 first | refine AE [19,22] [] Z Z (fun _=>AB (BF (JT a.acc.k b.acc.k) Z Z)) ?_ | refine AI [19,22] Z Z (fun _=>AB (BF (JT a.acc.k b.acc.k) Z Z)) ?_
 first | refine AE [2] [] Z Z (fun _=>AB (AO rfl Bx Z Z Z)) ?_ | refine AI [2] Z Z (fun _=>AB (AO rfl Bx Z Z Z)) ?_ | refine AE [2] [] Z Z (fun _=>AB (AQ rfl Bx Z Z Z)) ?_ | refine AI [2] Z Z (fun _=>AB (AQ rfl Bx Z Z Z)) ?_ | refine AE [2] [] Z Z (fun _=>AB (AR rfl Bx Z Z Z)) ?_ | refine AI [2] Z Z (fun _=>AB (AR rfl Bx Z Z Z)) ?_ | refine AE [2] [] Z Z (fun _=>AB (AP rfl Bx Z Z Z)) ?_ | refine AI [2] Z Z (fun _=>AB (AP rfl Bx Z Z Z)) ?_ | refine AE [2] [] Z Z (fun _=>AB (AN rfl Bx Z Z Z)) ?_ | refine AI [2] Z Z (fun _=>AB (AN rfl Bx Z Z Z)) ?_
 first | refine AE [24] [] Z Z (fun _=>AB (AO rfl IE Z Z Z)) ?_ | refine AI [24] Z Z (fun _=>AB (AO rfl IE Z Z Z)) ?_ | refine AE [24] [] Z Z (fun _=>AB (AQ rfl IE Z Z Z)) ?_ | refine AI [24] Z Z (fun _=>AB (AQ rfl IE Z Z Z)) ?_ | refine AE [24] [] Z Z (fun _=>AB (AR rfl IE Z Z Z)) ?_ | refine AI [24] Z Z (fun _=>AB (AR rfl IE Z Z Z)) ?_ | refine AE [24] [] Z Z (fun _=>AB (AP rfl IE Z Z Z)) ?_ | refine AI [24] Z Z (fun _=>AB (AP rfl IE Z Z Z)) ?_ | refine AE [24] [] Z Z (fun _=>AB (AN rfl IE Z Z Z)) ?_ | refine AI [24] Z Z (fun _=>AB (AN rfl IE Z Z Z)) ?_
 first | refine AE [25] [] Z Z (fun _=>AB (A0 Z Z Ay rfl)) ?_ | refine AI [25] Z Z (fun _=>AB (A0 Z Z Ay rfl)) ?_ | refine AE [25] [] Z Z (fun _=>AB (AY Z Z Z Ay rfl)) ?_ | refine AI [25] Z Z (fun _=>AB (AY Z Z Z Ay rfl)) ?_ | refine AE [25] [] Z Z (fun _=>AB (AZ Z Z (rfl) rfl Ay rfl)) ?_ | refine AI [25] Z Z (fun _=>AB (AZ Z Z (rfl) rfl Ay rfl)) ?_
 first | refine AE [3] [] Z Z (fun _=>AB (AO rfl Bx Z Z Z)) ?_ | refine AI [3] Z Z (fun _=>AB (AO rfl Bx Z Z Z)) ?_ | refine AE [3] [] Z Z (fun _=>AB (AQ rfl Bx Z Z Z)) ?_ | refine AI [3] Z Z (fun _=>AB (AQ rfl Bx Z Z Z)) ?_ | refine AE [3] [] Z Z (fun _=>AB (AR rfl Bx Z Z Z)) ?_ | refine AI [3] Z Z (fun _=>AB (AR rfl Bx Z Z Z)) ?_ | refine AE [3] [] Z Z (fun _=>AB (AP rfl Bx Z Z Z)) ?_ | refine AI [3] Z Z (fun _=>AB (AP rfl Bx Z Z Z)) ?_ | refine AE [3] [] Z Z (fun _=>AB (AN rfl Bx Z Z Z)) ?_ | refine AI [3] Z Z (fun _=>AB (AN rfl Bx Z Z Z)) ?_
 first | refine AE [27] [] Z Z (fun _=>AB (AO rfl IE Z Z Z)) ?_ | refine AI [27] Z Z (fun _=>AB (AO rfl IE Z Z Z)) ?_ | refine AE [27] [] Z Z (fun _=>AB (AQ rfl IE Z Z Z)) ?_ | refine AI [27] Z Z (fun _=>AB (AQ rfl IE Z Z Z)) ?_ | refine AE [27] [] Z Z (fun _=>AB (AR rfl IE Z Z Z)) ?_ | refine AI [27] Z Z (fun _=>AB (AR rfl IE Z Z Z)) ?_ | refine AE [27] [] Z Z (fun _=>AB (AP rfl IE Z Z Z)) ?_ | refine AI [27] Z Z (fun _=>AB (AP rfl IE Z Z Z)) ?_ | refine AE [27] [] Z Z (fun _=>AB (AN rfl IE Z Z Z)) ?_ | refine AI [27] Z Z (fun _=>AB (AN rfl IE Z Z Z)) ?_
 first | refine AE [28] [] Z Z (fun _=>AB (A0 Z Z Ay rfl)) ?_ | refine AI [28] Z Z (fun _=>AB (A0 Z Z Ay rfl)) ?_ | refine AE [28] [] Z Z (fun _=>AB (AY Z Z Z Ay rfl)) ?_ | refine AI [28] Z Z (fun _=>AB (AY Z Z Z Ay rfl)) ?_ | refine AE [28] [] Z Z (fun _=>AB (AZ Z Z (rfl) rfl Ay rfl)) ?_ | refine AI [28] Z Z (fun _=>AB (AZ Z Z (rfl) rfl Ay rfl)) ?_
 first | refine AE [26,29] [] Z Z (fun _=>AB (BF (JS a.acc.a b.acc.a) Z Z)) ?_ | refine AI [26,29] Z Z (fun _=>AB (BF (JS a.acc.a b.acc.a) Z Z)) ?_
 first | refine AE [2] [] Z Z (fun _=>AB (AO rfl FX Z Z Z)) ?_ | refine AI [2] Z Z (fun _=>AB (AO rfl FX Z Z Z)) ?_ | refine AE [2] [] Z Z (fun _=>AB (AQ rfl FX Z Z Z)) ?_ | refine AI [2] Z Z (fun _=>AB (AQ rfl FX Z Z Z)) ?_ | refine AE [2] [] Z Z (fun _=>AB (AR rfl FX Z Z Z)) ?_ | refine AI [2] Z Z (fun _=>AB (AR rfl FX Z Z Z)) ?_ | refine AE [2] [] Z Z (fun _=>AB (AP rfl FX Z Z Z)) ?_ | refine AI [2] Z Z (fun _=>AB (AP rfl FX Z Z Z)) ?_ | refine AE [2] [] Z Z (fun _=>AB (AN rfl FX Z Z Z)) ?_ | refine AI [2] Z Z (fun _=>AB (AN rfl FX Z Z Z)) ?_
 first | refine AE [31] [] Z Z (fun _=>AB (A0 Z Z Ay rfl)) ?_ | refine AI [31] Z Z (fun _=>AB (A0 Z Z Ay rfl)) ?_ | refine AE [31] [] Z Z (fun _=>AB (AY Z Z Z Ay rfl)) ?_ | refine AI [31] Z Z (fun _=>AB (AY Z Z Z Ay rfl)) ?_ | refine AE [31] [] Z Z (fun _=>AB (AZ Z Z (rfl) rfl Ay rfl)) ?_ | refine AI [31] Z Z (fun _=>AB (AZ Z Z (rfl) rfl Ay rfl)) ?_
 first | refine AE [3] [] Z Z (fun _=>AB (AO rfl FX Z Z Z)) ?_ | refine AI [3] Z Z (fun _=>AB (AO rfl FX Z Z Z)) ?_ | refine AE [3] [] Z Z (fun _=>AB (AQ rfl FX Z Z Z)) ?_ | refine AI [3] Z Z (fun _=>AB (AQ rfl FX Z Z Z)) ?_ | refine AE [3] [] Z Z (fun _=>AB (AR rfl FX Z Z Z)) ?_ | refine AI [3] Z Z (fun _=>AB (AR rfl FX Z Z Z)) ?_ | refine AE [3] [] Z Z (fun _=>AB (AP rfl FX Z Z Z)) ?_ | refine AI [3] Z Z (fun _=>AB (AP rfl FX Z Z Z)) ?_ | refine AE [3] [] Z Z (fun _=>AB (AN rfl FX Z Z Z)) ?_ | refine AI [3] Z Z (fun _=>AB (AN rfl FX Z Z Z)) ?_
 first | refine AE [33] [] Z Z (fun _=>AB (A0 Z Z Ay rfl)) ?_ | refine AI [33] Z Z (fun _=>AB (A0 Z Z Ay rfl)) ?_ | refine AE [33] [] Z Z (fun _=>AB (AY Z Z Z Ay rfl)) ?_ | refine AI [33] Z Z (fun _=>AB (AY Z Z Z Ay rfl)) ?_ | refine AE [33] [] Z Z (fun _=>AB (AZ Z Z (rfl) rfl Ay rfl)) ?_ | refine AI [33] Z Z (fun _=>AB (AZ Z Z (rfl) rfl Ay rfl)) ?_
 first | refine AE [32,34] [] Z Z (fun _=>AB (BF (JS a.f b.f) Z Z)) ?_ | refine AI [32,34] Z Z (fun _=>AB (BF (JS a.f b.f) Z Z)) ?_
 first | refine AE [2] [] Z Z (fun _=>AB (AO rfl G7 Z Z Z)) ?_ | refine AI [2] Z Z (fun _=>AB (AO rfl G7 Z Z Z)) ?_ | refine AE [2] [] Z Z (fun _=>AB (AQ rfl G7 Z Z Z)) ?_ | refine AI [2] Z Z (fun _=>AB (AQ rfl G7 Z Z Z)) ?_ | refine AE [2] [] Z Z (fun _=>AB (AR rfl G7 Z Z Z)) ?_ | refine AI [2] Z Z (fun _=>AB (AR rfl G7 Z Z Z)) ?_ | refine AE [2] [] Z Z (fun _=>AB (AP rfl G7 Z Z Z)) ?_ | refine AI [2] Z Z (fun _=>AB (AP rfl G7 Z Z Z)) ?_ | refine AE [2] [] Z Z (fun _=>AB (AN rfl G7 Z Z Z)) ?_ | refine AI [2] Z Z (fun _=>AB (AN rfl G7 Z Z Z)) ?_
 first | refine AE [36] [] Z Z (fun _=>AB (A0 Z Z Ay rfl)) ?_ | refine AI [36] Z Z (fun _=>AB (A0 Z Z Ay rfl)) ?_ | refine AE [36] [] Z Z (fun _=>AB (AY Z Z Z Ay rfl)) ?_ | refine AI [36] Z Z (fun _=>AB (AY Z Z Z Ay rfl)) ?_ | refine AE [36] [] Z Z (fun _=>AB (AZ Z Z (rfl) rfl Ay rfl)) ?_ | refine AI [36] Z Z (fun _=>AB (AZ Z Z (rfl) rfl Ay rfl)) ?_
 first | refine AE [3] [] Z Z (fun _=>AB (AO rfl G7 Z Z Z)) ?_ | refine AI [3] Z Z (fun _=>AB (AO rfl G7 Z Z Z)) ?_ | refine AE [3] [] Z Z (fun _=>AB (AQ rfl G7 Z Z Z)) ?_ | refine AI [3] Z Z (fun _=>AB (AQ rfl G7 Z Z Z)) ?_ | refine AE [3] [] Z Z (fun _=>AB (AR rfl G7 Z Z Z)) ?_ | refine AI [3] Z Z (fun _=>AB (AR rfl G7 Z Z Z)) ?_ | refine AE [3] [] Z Z (fun _=>AB (AP rfl G7 Z Z Z)) ?_ | refine AI [3] Z Z (fun _=>AB (AP rfl G7 Z Z Z)) ?_ | refine AE [3] [] Z Z (fun _=>AB (AN rfl G7 Z Z Z)) ?_ | refine AI [3] Z Z (fun _=>AB (AN rfl G7 Z Z Z)) ?_
 first | refine AE [38] [] Z Z (fun _=>AB (A0 Z Z Ay rfl)) ?_ | refine AI [38] Z Z (fun _=>AB (A0 Z Z Ay rfl)) ?_ | refine AE [38] [] Z Z (fun _=>AB (AY Z Z Z Ay rfl)) ?_ | refine AI [38] Z Z (fun _=>AB (AY Z Z Z Ay rfl)) ?_ | refine AE [38] [] Z Z (fun _=>AB (AZ Z Z (rfl) rfl Ay rfl)) ?_ | refine AI [38] Z Z (fun _=>AB (AZ Z Z (rfl) rfl Ay rfl)) ?_
 refine GZ 35 Z Z Z (BD 36 Z Z (J (BF (JS a.t b.t) Z Z) (AH ⟨rfl,?_⟩)));refine BD 37 Z Z (U (Fg 3 DA Z Z Z Z Z Z Z Z) (AH ⟨rfl,?_⟩));refine BD 38 Z Z (J (DO [3] (or_p [Dy a.k b.k,Ep a.acc.o b.acc.o,Dy a.acc.k b.acc.k,Ep a.acc.a b.acc.a,Ep a.f b.f,Ep a.t b.t] (by simp)) (by exact ⟨.inr ⟨_,_,rfl,.own Z Z (by simp) (List.take_of_length_le (by simp)),rfl⟩,trivial⟩) Z Z) (AH ⟨rfl,?_⟩));refine BD 39 Z Z (AD Z Z (AH ⟨rfl,?_⟩));refine GY (Af ?_);exact ⟨_,[],[],Ae rfl,rfl,rfl,rfl,rfl⟩
theorem order_p (a b:AT):AU Tryz.prog 184 [.d (Aw a),.d (Aw b)] (AG (Iz a b)):=by
 refine BY Tryz.func184 Z Z Tryz.ntmps184 Z Z Z fun F hF=>?_;refine AF (AJ (U (CJ 1 Z Z Z Z Z Z Z) (U (CJ 2 Z Z Z Z Z Z Z) (AD Z Z (AH (AF (G8 [[],[0],[],[2],[0,1,2,3],[],[5],[],[7],[0,1,2,3,4,5,6,7,8],[0,1,2,3,4,5,6,7,8,9],[0,1,2,3,4,5,6,7,8,9,10],[0,1,2,3,4,5,6,7,8,9,10,11]] BC rfl (Hq ?_))))))))
 first | refine AE [3] [] Z Z (fun _=>AB (AO rfl Lx Z Z Z)) ?_ | refine AI [3] Z Z (fun _=>AB (AO rfl Lx Z Z Z)) ?_ | refine AE [3] [] Z Z (fun _=>AB (AQ rfl Lx Z Z Z)) ?_ | refine AI [3] Z Z (fun _=>AB (AQ rfl Lx Z Z Z)) ?_ | refine AE [3] [] Z Z (fun _=>AB (AR rfl Lx Z Z Z)) ?_ | refine AI [3] Z Z (fun _=>AB (AR rfl Lx Z Z Z)) ?_ | refine AE [3] [] Z Z (fun _=>AB (AP rfl Lx Z Z Z)) ?_ | refine AI [3] Z Z (fun _=>AB (AP rfl Lx Z Z Z)) ?_ | refine AE [3] [] Z Z (fun _=>AB (AN rfl Lx Z Z Z)) ?_ | refine AI [3] Z Z (fun _=>AB (AN rfl Lx Z Z Z)) ?_
 first | refine AE [5] [] Z Z (fun _=>AB (A0 Z Z A9 rfl)) ?_ | refine AI [5] Z Z (fun _=>AB (A0 Z Z A9 rfl)) ?_ | refine AE [5] [] Z Z (fun _=>AB (AY Z Z Z A9 rfl)) ?_ | refine AI [5] Z Z (fun _=>AB (AY Z Z Z A9 rfl)) ?_ | refine AE [5] [] Z Z (fun _=>AB (AZ Z Z (rfl) rfl A9 rfl)) ?_ | refine AI [5] Z Z (fun _=>AB (AZ Z Z (rfl) rfl A9 rfl)) ?_
 first | refine AE [2] [] Z Z (fun _=>AB (AO rfl Lx Z Z Z)) ?_ | refine AI [2] Z Z (fun _=>AB (AO rfl Lx Z Z Z)) ?_ | refine AE [2] [] Z Z (fun _=>AB (AQ rfl Lx Z Z Z)) ?_ | refine AI [2] Z Z (fun _=>AB (AQ rfl Lx Z Z Z)) ?_ | refine AE [2] [] Z Z (fun _=>AB (AR rfl Lx Z Z Z)) ?_ | refine AI [2] Z Z (fun _=>AB (AR rfl Lx Z Z Z)) ?_ | refine AE [2] [] Z Z (fun _=>AB (AP rfl Lx Z Z Z)) ?_ | refine AI [2] Z Z (fun _=>AB (AP rfl Lx Z Z Z)) ?_ | refine AE [2] [] Z Z (fun _=>AB (AN rfl Lx Z Z Z)) ?_ | refine AI [2] Z Z (fun _=>AB (AN rfl Lx Z Z Z)) ?_
 first | refine AE [7] [] Z Z (fun _=>AB (A0 Z Z A9 rfl)) ?_ | refine AI [7] Z Z (fun _=>AB (A0 Z Z A9 rfl)) ?_ | refine AE [7] [] Z Z (fun _=>AB (AY Z Z Z A9 rfl)) ?_ | refine AI [7] Z Z (fun _=>AB (AY Z Z Z A9 rfl)) ?_ | refine AE [7] [] Z Z (fun _=>AB (AZ Z Z (rfl) rfl A9 rfl)) ?_ | refine AI [7] Z Z (fun _=>AB (AZ Z Z (rfl) rfl A9 rfl)) ?_
 first | refine AE [6,8] [] Z Z (fun _=>AB (BF (JT b.pr a.pr) Z Z)) ?_ | refine AI [6,8] Z Z (fun _=>AB (BF (JT b.pr a.pr) Z Z)) ?_
 first | refine AE [2] [] Z Z (fun _=>AB (AO rfl G6 Z Z Z)) ?_ | refine AI [2] Z Z (fun _=>AB (AO rfl G6 Z Z Z)) ?_ | refine AE [2] [] Z Z (fun _=>AB (AQ rfl G6 Z Z Z)) ?_ | refine AI [2] Z Z (fun _=>AB (AQ rfl G6 Z Z Z)) ?_ | refine AE [2] [] Z Z (fun _=>AB (AR rfl G6 Z Z Z)) ?_ | refine AI [2] Z Z (fun _=>AB (AR rfl G6 Z Z Z)) ?_ | refine AE [2] [] Z Z (fun _=>AB (AP rfl G6 Z Z Z)) ?_ | refine AI [2] Z Z (fun _=>AB (AP rfl G6 Z Z Z)) ?_ | refine AE [2] [] Z Z (fun _=>AB (AN rfl G6 Z Z Z)) ?_ | refine AI [2] Z Z (fun _=>AB (AN rfl G6 Z Z Z)) ?_
 first | refine AE [10] [] Z Z (fun _=>AB (A0 Z Z A9 rfl)) ?_ | refine AI [10] Z Z (fun _=>AB (A0 Z Z A9 rfl)) ?_ | refine AE [10] [] Z Z (fun _=>AB (AY Z Z Z A9 rfl)) ?_ | refine AI [10] Z Z (fun _=>AB (AY Z Z Z A9 rfl)) ?_ | refine AE [10] [] Z Z (fun _=>AB (AZ Z Z (rfl) rfl A9 rfl)) ?_ | refine AI [10] Z Z (fun _=>AB (AZ Z Z (rfl) rfl A9 rfl)) ?_
 first | refine AE [3] [] Z Z (fun _=>AB (AO rfl G6 Z Z Z)) ?_ | refine AI [3] Z Z (fun _=>AB (AO rfl G6 Z Z Z)) ?_ | refine AE [3] [] Z Z (fun _=>AB (AQ rfl G6 Z Z Z)) ?_ | refine AI [3] Z Z (fun _=>AB (AQ rfl G6 Z Z Z)) ?_ | refine AE [3] [] Z Z (fun _=>AB (AR rfl G6 Z Z Z)) ?_ | refine AI [3] Z Z (fun _=>AB (AR rfl G6 Z Z Z)) ?_ | refine AE [3] [] Z Z (fun _=>AB (AP rfl G6 Z Z Z)) ?_ | refine AI [3] Z Z (fun _=>AB (AP rfl G6 Z Z Z)) ?_ | refine AE [3] [] Z Z (fun _=>AB (AN rfl G6 Z Z Z)) ?_ | refine AI [3] Z Z (fun _=>AB (AN rfl G6 Z Z Z)) ?_
 first | refine AE [12] [] Z Z (fun _=>AB (A0 Z Z A9 rfl)) ?_ | refine AI [12] Z Z (fun _=>AB (A0 Z Z A9 rfl)) ?_ | refine AE [12] [] Z Z (fun _=>AB (AY Z Z Z A9 rfl)) ?_ | refine AI [12] Z Z (fun _=>AB (AY Z Z Z A9 rfl)) ?_ | refine AE [12] [] Z Z (fun _=>AB (AZ Z Z (rfl) rfl A9 rfl)) ?_ | refine AI [12] Z Z (fun _=>AB (AZ Z Z (rfl) rfl A9 rfl)) ?_
 refine GZ 9 Z Z Z (BD 10 Z Z (J (BF (JT a.sq b.sq) Z Z) (AH ⟨rfl,?_⟩)));refine BD 11 Z Z (U (Fg 3 DA Z Z Z Z Z Z Z Z) (AH ⟨rfl,?_⟩));refine BD 12 Z Z (J (DO [3] (or_p [Dy b.pr a.pr,Dy a.sq b.sq] (by simp)) (by exact ⟨.inr ⟨_,_,rfl,.own Z Z (by simp) (List.take_of_length_le (by simp)),rfl⟩,trivial⟩) Z Z) (AH ⟨rfl,?_⟩));refine BD 13 Z Z (AD Z Z (AH ⟨rfl,?_⟩));refine GY (Af ?_);exact ⟨_,[],[],Ae rfl,rfl,rfl,rfl,rfl⟩
def QL (x:A4×Int):D:= .agg [AG x.1.k,As x.1.acc.o,AG x.1.acc.k,As x.1.acc.a,As x.1.f,As x.1.t,AG x.2]
theorem WD (a b:A4×Int):AU Tryz.prog 32 [.d (QL a),.d (QL b)] (AG (CE a.1 b.1)):=by
 refine BY Tryz.func32 Z Z Tryz.ntmps32 Z Z Z fun F hF=>(AF (AJ (U (CJ 1 Z Z Z Z Z Z Z) (U (CJ 2 Z Z Z Z Z Z Z) (AD Z Z (AH (AF (AJ ?_))))))))
 first | refine J (AO rfl PR Z Z Z) ?_ | refine J (AQ rfl PR Z Z Z) ?_ | refine J (AR rfl PR Z Z Z) ?_ | refine J (AP rfl PR Z Z Z) ?_ | refine J (AN rfl PR Z Z Z) ?_
 first | refine J (An Z Z Ab rfl) ?_ | refine J (Ao Z Z Ab Z Z Z) ?_ | refine J (Ap Z Z (rfl) rfl Ab rfl) ?_
 first | refine J (AO rfl PR Z Z Z) ?_ | refine J (AQ rfl PR Z Z Z) ?_ | refine J (AR rfl PR Z Z Z) ?_ | refine J (AP rfl PR Z Z Z) ?_ | refine J (AN rfl PR Z Z Z) ?_
 first | refine J (An Z Z Ab rfl) ?_ | refine J (Ao Z Z Ab Z Z Z) ?_ | refine J (Ap Z Z (rfl) rfl Ab rfl) ?_
 refine J (BF (LP a.1 b.1) Z Z) (AD Z Z (AH (Af ?_)));exact ⟨_,[],[],Ae rfl,rfl,rfl,rfl,rfl⟩
theorem LA:∀a b c:List UInt8,Oj a b=true ->Oj b c=true ->Oj a c=true
 | [],[],_,h,_=>by simp [Oj,Op.bytesLess] at h
 | [],_::_,[],_,h=>by simp [Oj,Op.bytesLess] at h
 | [],_::_,_::_,_,_=>by simp [Oj,Op.bytesLess]
 | _::_,[],_,h,_=>by simp [Oj,Op.bytesLess] at h
 | _::_,_::_,[],_,h=>by simp [Oj,Op.bytesLess] at h
 | a::x,b::y,c::z,h1,h2=>by
  simp only [Oj,Op.bytesLess,Bool.or_eq_true,decide_eq_true_eq,Bool.and_eq_true,beq_iff_eq] at h1 h2⊢;rcases h1 with h1 | ⟨rfl,h1⟩<;>rcases h2 with h2 | ⟨rfl,h2⟩
  ·exact .inl (UInt8.lt_trans h1 h2)
  ·exact .inl h1
  ·exact .inl h2
  ·exact .inr ⟨rfl,LA x y z h1 h2⟩
theorem JF (a:List UInt8):Oj a a=false:=by
 have:=IS a a;simp only [Oj]
 cases h:Op.bytesLess a a with
 | false=>rfl
 | true=>rw [h] at this;simp at this
structure PC {γ:Type} (c:γ ->γ ->Int):Prop where
 anti:∀x y,c y x= - c x y
 trans:∀x y z,c x y<0 ->c y z<0 ->c x z<0
 eqv:∀x y z,c x y=0 ->c x z=c y z
theorem cmpI_pc:PC Dy:=⟨fun x y=>by unfold Dy;split<;>split<;>first | omega | rfl,fun x y z=>by unfold Dy;split<;>split<;>(try split)<;>(try split)<;>(try split)<;>(try split)<;>first | omega | simp,fun x y z h=>by
 have:x=y:=by
  unfold Dy at h;split at h; · cases h
  split at h; · cases h
  omega
 rw [this]⟩
theorem Ex {a b:List UInt8}:Ep a b=0↔a=b:=by
 unfold Ep
 constructor
 ·intro h
  split at h; · cases h
  split at h; · cases h
  rename_i h1 h2
  have:=IS a b
  change Oj b a=(!Oj a b && !a==b) at this
  simp only [Bool.not_eq_true] at h1 h2;rw [h1,h2] at this
  simpa using this
 ·rintro rfl;rw [if_neg (by rw [JF];simp),if_neg (by rw [JF];simp)]
theorem N9 {a b:List UInt8}:Ep a b<0↔Oj a b=true:=by
 unfold Ep;split
 ·rename_i h;simp [h]
 ·rename_i h;split<;>simp [h]
theorem cmpS_pc:PC Ep:=⟨fun x y=>by
 unfold Ep
 by_cases h1:Oj x y=true
 ·have h2:¬Oj y x=true:=fun h2=>by have:=LA x y x h1 h2;rw [JF] at this;cases this
  rw [if_neg h2,if_pos h1,if_pos h1];rfl
 ·by_cases h2:Oj y x=true
  ·rw [if_pos h2,if_neg h1,if_pos h2]
  ·rw [if_neg h2,if_neg h1,if_neg h1,if_neg h2];rfl,fun x y z h1 h2=>N9.2 (LA x y z (N9.1 h1) (N9.1 h2)),fun x y z h=>by rw [Ex.1 h]⟩
theorem PC.comap {γ δ:Type} {c:γ ->γ ->Int} (h:PC c) (f:δ ->γ):PC fun x y=>c (f x) (f y):=⟨fun _ _=>h.anti _ _,fun _ _ _=>h.trans _ _ _,fun _ _ _=>h.eqv _ _ _⟩
theorem PC.rev {γ:Type} {c:γ ->γ ->Int} (h:PC c):PC fun x y=>c y x:=⟨fun x y=>h.anti y x,fun x y z h1 h2=>h.trans _ _ _ h2 h1,fun x y z h1=>by
 have e:c x y=0:=by have:=h.anti y x;omega
 have:=h.eqv x y z e
 rw [h.anti x z,h.anti y z,this]⟩
theorem PC.zero {γ:Type}:PC fun _ _:γ=>(0:Int):=⟨fun _ _=>rfl,fun _ _ _ h=>by omega,fun _ _ _ _=>rfl⟩
theorem PC.lex {γ:Type} {c:γ ->γ ->Int} {r:γ ->γ ->List Int} (h:PC c) (h':PC fun x y=>Bk (r x y)):PC fun x y=>Bk (c x y::r x y):=by
 have sw:∀x y,c x y=0↔c y x=0:=fun x y=>by have:=h.anti x y;omega
 refine ⟨fun x y=>?_,fun x y z=>?_,fun x y z=>?_⟩
 ·simp only [Bk]
  by_cases e:c x y=0
  ·rw [if_pos e,if_pos ((sw x y).1 e)];exact h'.anti x y
  ·rw [if_neg e,if_neg (fun e'=>e ((sw x y).2 e'))];exact h.anti x y
 ·simp only [Bk];intro h1 h2
  by_cases e1:c x y=0<;>by_cases e2:c y z=0
  ·have e3:c x z=0:=by rw [h.eqv x y z e1];exact e2
   rw [if_pos e1] at h1;rw [if_pos e2] at h2;rw [if_pos e3];exact h'.trans x y z h1 h2
  ·rw [if_neg e2] at h2;have e3:c x z=c y z:=h.eqv x y z e1;rw [if_neg (by rw [e3];exact e2),e3];exact h2
  ·rw [if_neg e1] at h1;have e3:c z x=c y x:=(h.eqv y z x e2).symm;have e4:c x z=c x y:=by rw [h.anti z x,h.anti y x,e3]
   rw [if_neg (by rw [e4];exact e1),e4];exact h1
  ·rw [if_neg e1] at h1;rw [if_neg e2] at h2;have:=h.trans x y z h1 h2;rw [if_neg (by omega)];exact this
 ·simp only [Bk];intro h1
  have e1:c x y=0:=by
   by_cases e:c x y=0
   ·exact e
   ·rw [if_neg e] at h1;exact h1
  rw [if_pos e1] at h1;rw [h.eqv x y z e1];rw [h'.eqv x y z h1]
theorem PC.last {γ:Type}:PC fun x y:γ=>Bk ((fun _ _:γ=>([]:List Int)) x y):=PC.zero
theorem OD:PC CE:=
 PC.lex (cmpI_pc.comap A4.k)<| PC.lex (cmpS_pc.comap fun r:A4=>r.acc.o)<| PC.lex (cmpI_pc.comap fun r:A4=>r.acc.k)<| PC.lex (cmpS_pc.comap fun r:A4=>r.acc.a)<| PC.lex (cmpS_pc.comap A4.f)<| PC.lex (cmpS_pc.comap A4.t) PC.last
theorem EE:PC Iz:=PC.lex (cmpI_pc.comap AT.pr).rev<| PC.lex (cmpI_pc.comap AT.sq) PC.last
theorem PC.refl {γ:Type} {c:γ ->γ ->Int} (h:PC c) (x:γ):c x x=0:=by have:=h.anti x x;omega
theorem PC.swo {γ:Type} {c:γ ->γ ->Int} (h:PC c):Go.Sort.SWO (ltOf c):=by
 refine ⟨fun x=>?_,fun x y z h1 h2=>?_,fun x y z h1 h2=>?_⟩
 ·simp [ltOf,h.refl]
 ·simp only [ltOf,decide_eq_true_eq] at*;exact h.trans x y z h1 h2
 ·simp only [ltOf,decide_eq_false_iff_not] at*;have a1:=h.anti x y;have a2:=h.anti y z;have a3:=h.anti x z
  by_cases e:c x y=0
  ·rw [h.eqv x y z e];exact h2
  ·by_cases e2:c y z=0
   ·have:=h.eqv y z x e2;rw [h.anti x y,h.anti x z] at this;omega
   ·have:=h.trans z y x (by omega) (by omega);omega
theorem IY {a b:Int}:Dy a b=0↔a=b:=by
 unfold Dy;split
 ·constructor<;>intro h<;>omega
 ·split<;>constructor<;>intro h<;>omega
theorem Dx {a b:A4}:CE a b=0↔a=b:=by
 unfold CE;simp only [Bk];rw [A4.eq_iff,PY.eq_iff]
 constructor
 ·intro h
  repeat' split at h
  all_goals first
   | contradiction
   | (rename_i h1 h2 h3 h4 h5 h6;exact ⟨IY.1 h1,⟨Ex.1 h2,IY.1 h3,Ex.1 h4⟩,Ex.1 h5,Ex.1 h6⟩)
 ·rintro ⟨h1,⟨h2,h3,h4⟩,h5,h6⟩;rw [h1,h2,h3,h4,h5,h6]
  simp [IY,Ex]
theorem Di {γ:Type} {R:γ ->γ ->Prop} (irr:∀x,¬R x x) (tr:∀x y z,R x y ->R y z ->R x z):∀{l m:List γ},l.Pairwise R ->m.Pairwise R ->(∀x,x∈l↔x∈m) ->l=m
 | [],[],_,_,_=>rfl
 | [],b::m,_,_,h=>by have:=(h b).2 (by simp);cases this
 | a::l,[],_,_,h=>by have:=(h a).1 (by simp);cases this
 | a::l,b::m,h1,h2,h=>by
  rw [List.pairwise_cons] at h1 h2
  have e:a=b:=by
   rcases List.mem_cons.1 ((h a).1 (by simp)) with e | h3
   ·exact e
   ·rcases List.mem_cons.1 ((h b).2 (by simp)) with e | h4
    ·exact e.symm
    ·exact absurd (tr _ _ _ (h1.1 b h4) (h2.1 a h3)) (irr a)
  subst e
  congr 1
  refine Di irr tr h1.2 h2.2 fun x=>⟨fun hx=>?_,fun hx=>?_⟩
  ·rcases List.mem_cons.1 ((h x).1 (by simp [hx])) with e | h3
   ·subst e;exact absurd (h1.1 x hx) (irr x)
   ·exact h3
  ·rcases List.mem_cons.1 ((h x).2 (by simp [hx])) with e | h3
   ·subst e;exact absurd (h2.1 x hx) (irr x)
   ·exact h3
abbrev SP:PY:=⟨[],0,[]⟩
def BQ (r:A4):Int:=
 if r.k=0 then (if r.acc.o≠ []∧r.acc.a≠ []∧0≤r.acc.k∧r.acc.k<5∧r.f=[]∧r.t=[] then 0 else 3)
 else if r.k=1 then (if r.f≠ []∧r.t≠ []∧r.f≠r.t∧r.acc=SP then 0 else 3)
 else if r.k=2 then (if r.f≠ []∧r.t=[]∧r.acc=SP then 0 else 3) else 11
theorem To (r:A4):AU Tryz.prog 167 [.d (D5 r)] (AG (BQ r)):=by
 refine BY Tryz.func167 Z Z Tryz.ntmps167 Z Z Z fun F hF=>(AF (AJ (U (CJ 1 Z Z Z Z Z Z Z) ?_)));refine AD Z Z (AH (AF (AJ (AD Z Z (AH (AF (AF (AJ ?_))))))))
 first | refine J (AO rfl Ly Z Z Z) ?_ | refine J (AQ rfl Ly Z Z Z) ?_ | refine J (AR rfl Ly Z Z Z) ?_ | refine J (AP rfl Ly Z Z Z) ?_ | refine J (AN rfl Ly Z Z Z) ?_
 first | refine J (A0 Z Z A9 rfl) ?_ | refine J (AY Z Z Z A9 rfl) ?_ | refine J (AZ Z Z (rfl) rfl A9 rfl) ?_
 refine AH (Au (AF (AJ ?_)))
 first | refine J (EP Z Z Z) ?_ | refine J (EW Z Z Z) ?_ | refine J (EA Z Z Z) ?_ | refine J (EQ Tryz.underlying3 Z Z Z) ?_ | refine J (ET Tryz.underlying3 Z Z Z) ?_ | refine J (ES Tryz.underlying3 Z Z) ?_ | refine J (ER Tryz.underlying3 Z Z Z) ?_ | refine J (EV Tryz.underlying3 Z Z) ?_
 refine AD Z Z (AH ?_)
 first | refine BJ rfl (fun h6=>?_) (fun h6=>?_) | refine BB rfl (fun h6=>?_) (fun h6=>?_)
 ·refine AJ ?_
  first | refine J (AO rfl Bx Z Z Z) ?_ | refine J (AQ rfl Bx Z Z Z) ?_ | refine J (AR rfl Bx Z Z Z) ?_ | refine J (AP rfl Bx Z Z Z) ?_ | refine J (AN rfl Bx Z Z Z) ?_
  first | refine J (AO rfl J1 Z Z Z) ?_ | refine J (AQ rfl J1 Z Z Z) ?_ | refine J (AR rfl J1 Z Z Z) ?_ | refine J (AP rfl J1 Z Z Z) ?_ | refine J (AN rfl J1 Z Z Z) ?_
  first | refine J (A0 Z Z Ay rfl) ?_ | refine J (AY Z Z Z Ay rfl) ?_ | refine J (AZ Z Z (rfl) rfl Ay rfl) ?_
  first | refine J (E9 Z Z Z) ?_ | refine J (Ed Z Z Z) ?_ | refine J (EU Z Z Z) ?_ | refine J (Ea Tryz.underlying9 Z Z Z) ?_ | refine J (Ec Tryz.underlying9 Z Z Z) ?_ | refine J (st_neqN Tryz.underlying9 Z Z) ?_ | refine J (Eb Tryz.underlying9 Z Z Z) ?_ | refine J (st_neqFN Tryz.underlying9 Z Z) ?_
  refine AC Z Z ?_
  first | refine K9 12 rfl (fun h12=>?_) (fun h12=>?_) | refine J4 12 rfl (fun h12=>?_) (fun h12=>?_)
  ·refine Ah Z Z Z ?_
   first | refine J (AO rfl Bx Z Z Z) ?_ | refine J (AQ rfl Bx Z Z Z) ?_ | refine J (AR rfl Bx Z Z Z) ?_ | refine J (AP rfl Bx Z Z Z) ?_ | refine J (AN rfl Bx Z Z Z) ?_
   refine Ah Z Z Z ?_
   first | refine J (AO rfl IE Z Z Z) ?_ | refine J (AQ rfl IE Z Z Z) ?_ | refine J (AR rfl IE Z Z Z) ?_ | refine J (AP rfl IE Z Z Z) ?_ | refine J (AN rfl IE Z Z Z) ?_
   refine Ah Z Z Z ?_
   first | refine J (A0 Z Z Ay rfl) ?_ | refine J (AY Z Z Z Ay rfl) ?_ | refine J (AZ Z Z (rfl) rfl Ay rfl) ?_
   refine Ah Z Z Z ?_
   first | refine J (E9 Z Z Z) ?_ | refine J (Ed Z Z Z) ?_ | refine J (EU Z Z Z) ?_ | refine J (Ea Tryz.underlying9 Z Z Z) ?_ | refine J (Ec Tryz.underlying9 Z Z Z) ?_ | refine J (st_neqN Tryz.underlying9 Z Z) ?_ | refine J (Eb Tryz.underlying9 Z Z Z) ?_ | refine J (st_neqFN Tryz.underlying9 Z Z) ?_
   refine J (EB Z Z Z Z) (AC Z Z ?_)
   first | refine K9 18 rfl (fun h18=>?_) (fun h18=>?_) | refine J4 18 rfl (fun h18=>?_) (fun h18=>?_)
   ·refine Ah Z Z Z ?_
    first | refine J (AO rfl Bx Z Z Z) ?_ | refine J (AQ rfl Bx Z Z Z) ?_ | refine J (AR rfl Bx Z Z Z) ?_ | refine J (AP rfl Bx Z Z Z) ?_ | refine J (AN rfl Bx Z Z Z) ?_
    refine Ah Z Z Z ?_
    first | refine J (AO rfl Hz Z Z Z) ?_ | refine J (AQ rfl Hz Z Z Z) ?_ | refine J (AR rfl Hz Z Z Z) ?_ | refine J (AP rfl Hz Z Z Z) ?_ | refine J (AN rfl Hz Z Z Z) ?_
    refine Ah Z Z Z ?_
    first | refine J (A0 Z Z A9 rfl) ?_ | refine J (AY Z Z Z A9 rfl) ?_ | refine J (AZ Z Z (rfl) rfl A9 rfl) ?_
    refine Ah Z Z Z (J (Ip Z Z Z) (J (EB Z Z Z Z) (AC Z Z ?_)))
    first | refine K9 24 rfl (fun h24=>?_) (fun h24=>?_) | refine J4 24 rfl (fun h24=>?_) (fun h24=>?_)
    ·refine Ah Z Z Z ?_
     first | refine J (AO rfl Bx Z Z Z) ?_ | refine J (AQ rfl Bx Z Z Z) ?_ | refine J (AR rfl Bx Z Z Z) ?_ | refine J (AP rfl Bx Z Z Z) ?_ | refine J (AN rfl Bx Z Z Z) ?_
     refine Ah Z Z Z ?_
     first | refine J (AO rfl Hz Z Z Z) ?_ | refine J (AQ rfl Hz Z Z Z) ?_ | refine J (AR rfl Hz Z Z Z) ?_ | refine J (AP rfl Hz Z Z Z) ?_ | refine J (AN rfl Hz Z Z Z) ?_
     refine Ah Z Z Z ?_
     first | refine J (A0 Z Z A9 rfl) ?_ | refine J (AY Z Z Z A9 rfl) ?_ | refine J (AZ Z Z (rfl) rfl A9 rfl) ?_
     refine Ah Z Z Z ?_
     first | refine J (C7 Z Z Z) ?_ | refine J (Ca Z Z Z) ?_
     refine J (EB Z Z Z Z) (AC Z Z ?_)
     first | refine K9 30 rfl (fun h30=>?_) (fun h30=>?_) | refine J4 30 rfl (fun h30=>?_) (fun h30=>?_)
     ·refine Ah Z Z Z ?_
      first | refine J (AO rfl FX Z Z Z) ?_ | refine J (AQ rfl FX Z Z Z) ?_ | refine J (AR rfl FX Z Z Z) ?_ | refine J (AP rfl FX Z Z Z) ?_ | refine J (AN rfl FX Z Z Z) ?_
      refine Ah Z Z Z ?_
      first | refine J (A0 Z Z Ay rfl) ?_ | refine J (AY Z Z Z Ay rfl) ?_ | refine J (AZ Z Z (rfl) rfl Ay rfl) ?_
      refine Ah Z Z Z ?_
      first | refine J (EP Z Z Z) ?_ | refine J (EW Z Z Z) ?_ | refine J (EA Z Z Z) ?_ | refine J (EQ Tryz.underlying9 Z Z Z) ?_ | refine J (ET Tryz.underlying9 Z Z Z) ?_ | refine J (ES Tryz.underlying9 Z Z) ?_ | refine J (ER Tryz.underlying9 Z Z Z) ?_ | refine J (EV Tryz.underlying9 Z Z) ?_
      refine J (EB Z Z Z Z) (AC Z Z ?_)
      first | refine K9 35 rfl (fun h35=>?_) (fun h35=>?_) | refine J4 35 rfl (fun h35=>?_) (fun h35=>?_)
      ·refine Ah Z Z Z ?_
       first | refine J (AO rfl G7 Z Z Z) ?_ | refine J (AQ rfl G7 Z Z Z) ?_ | refine J (AR rfl G7 Z Z Z) ?_ | refine J (AP rfl G7 Z Z Z) ?_ | refine J (AN rfl G7 Z Z Z) ?_
       refine Ah Z Z Z ?_
       first | refine J (A0 Z Z Ay rfl) ?_ | refine J (AY Z Z Z Ay rfl) ?_ | refine J (AZ Z Z (rfl) rfl Ay rfl) ?_
       refine Ah Z Z Z ?_
       first | refine J (EP Z Z Z) ?_ | refine J (EW Z Z Z) ?_ | refine J (EA Z Z Z) ?_ | refine J (EQ Tryz.underlying9 Z Z Z) ?_ | refine J (ET Tryz.underlying9 Z Z Z) ?_ | refine J (ES Tryz.underlying9 Z Z) ?_ | refine J (ER Tryz.underlying9 Z Z Z) ?_ | refine J (EV Tryz.underlying9 Z Z) ?_
       refine J (EB Z Z Z Z) (AD Z Z (AH (AF (AF (AJ (AC Z Z ?_))))))
       first | refine J (F2 Z Z) ?_ | refine J (FT Z Z) ?_
       refine AH ?_
       first | refine BJ rfl (fun h80=>?_) (fun h80=>?_) | refine BB rfl (fun h80=>?_) (fun h80=>?_)
       ·refine AF (AJ (AD Z Z (AH (Af ?_))));exact ⟨_,[],[],Ae rfl,rfl,rfl,Al (by unfold BQ;simp_all<;>(intros;omega)),rfl⟩
       ·refine Am (AF (AJ (AD Z Z (AH (Af ?_)))));exact ⟨_,[],[],Ae rfl,rfl,rfl,Al (by unfold BQ;simp_all<;>(intros;omega)),rfl⟩
      ·refine Aj Z Z Z Z (Aj Z Z Z Z (Aj Z Z Z Z (J (Ei Z Z Z Z) (AD Z Z (AH (AF (AF (AJ ?_))))))));refine AC Z Z (J (EC Z Z) (AH (Dg Z Z (AF (AJ (AD Z Z (AH (Af ?_))))))));exact ⟨_,[],[],Ae rfl,rfl,rfl,Al (by unfold BQ;simp_all<;>(intros;omega)),rfl⟩
     ·refine Aj Z Z Z Z (Aj Z Z Z Z (Aj Z Z Z Z (J (Ei Z Z Z Z) (AC Z Z ?_))));refine Aj Z Z Z Z (Aj Z Z Z Z (Aj Z Z Z Z (J (Ei Z Z Z Z) (AD Z Z (AH (AF (AF (AJ ?_))))))));refine AC Z Z (J (EC Z Z) (AH (Dg Z Z (AF (AJ (AD Z Z (AH (Af ?_))))))));exact ⟨_,[],[],Ae rfl,rfl,rfl,Al (by unfold BQ;simp_all<;>(intros;omega)),rfl⟩
    ·refine Aj Z Z Z Z (Aj Z Z Z Z ?_);refine Aj Z Z Z Z (Aj Z Z Z Z (J (Ei Z Z Z Z) (AC Z Z (Aj Z Z Z Z (Aj Z Z Z Z (Aj Z Z Z Z (J (Ei Z Z Z Z) (AC Z Z ?_))))))));refine Aj Z Z Z Z (Aj Z Z Z Z (Aj Z Z Z Z (J (Ei Z Z Z Z) (AD Z Z (AH (AF (AF (AJ ?_))))))));refine AC Z Z (J (EC Z Z) (AH (Dg Z Z (AF (AJ (AD Z Z (AH (Af ?_))))))));exact ⟨_,[],[],Ae rfl,rfl,rfl,Al (by unfold BQ;simp_all<;>(intros;omega)),rfl⟩
   ·refine Aj Z Z Z Z (Aj Z Z Z Z (Aj Z Z Z Z (Aj Z Z Z Z (J (Ei Z Z Z Z) (AC Z Z (Aj Z Z Z Z (Aj Z Z Z Z ?_)))))));refine Aj Z Z Z Z (Aj Z Z Z Z (J (Ei Z Z Z Z) (AC Z Z (Aj Z Z Z Z (Aj Z Z Z Z (Aj Z Z Z Z (J (Ei Z Z Z Z) (AC Z Z ?_))))))));refine Aj Z Z Z Z (Aj Z Z Z Z (Aj Z Z Z Z (J (Ei Z Z Z Z) (AD Z Z (AH (AF (AF (AJ ?_))))))));refine AC Z Z (J (EC Z Z) (AH (Dg Z Z (AF (AJ (AD Z Z (AH (Af ?_))))))));exact ⟨_,[],[],Ae rfl,rfl,rfl,Al (by unfold BQ;simp_all<;>(intros;omega)),rfl⟩
  ·refine Aj Z Z Z Z (Aj Z Z Z Z (Aj Z Z Z Z (Aj Z Z Z Z (J (Ei Z Z Z Z) ?_))));refine AC Z Z (Aj Z Z Z Z (Aj Z Z Z Z (Aj Z Z Z Z (Aj Z Z Z Z (J (Ei Z Z Z Z) (AC Z Z (Aj Z Z Z Z (Aj Z Z Z Z ?_))))))));refine Aj Z Z Z Z (Aj Z Z Z Z (J (Ei Z Z Z Z) (AC Z Z (Aj Z Z Z Z (Aj Z Z Z Z (Aj Z Z Z Z (J (Ei Z Z Z Z) (AC Z Z ?_))))))));refine Aj Z Z Z Z (Aj Z Z Z Z (Aj Z Z Z Z (J (Ei Z Z Z Z) (AD Z Z (AH (AF (AF (AJ ?_))))))));refine AC Z Z (J (EC Z Z) (AH (Dg Z Z (AF (AJ (AD Z Z (AH (Af ?_))))))));exact ⟨_,[],[],Ae rfl,rfl,rfl,Al (by unfold BQ;simp_all<;>(intros;omega)),rfl⟩
 ·refine AF (AJ ?_)
  first | refine J (EP Z Z Z) ?_ | refine J (EW Z Z Z) ?_ | refine J (EA Z Z Z) ?_ | refine J (EQ Tryz.underlying3 Z Z Z) ?_ | refine J (ET Tryz.underlying3 Z Z Z) ?_ | refine J (ES Tryz.underlying3 Z Z) ?_ | refine J (ER Tryz.underlying3 Z Z Z) ?_ | refine J (EV Tryz.underlying3 Z Z) ?_
  refine AD Z Z (AH ?_)
  first | refine BJ rfl (fun h40=>?_) (fun h40=>?_) | refine BB rfl (fun h40=>?_) (fun h40=>?_)
  ·refine AJ ?_
   first | refine J (AO rfl FX Z Z Z) ?_ | refine J (AQ rfl FX Z Z Z) ?_ | refine J (AR rfl FX Z Z Z) ?_ | refine J (AP rfl FX Z Z Z) ?_ | refine J (AN rfl FX Z Z Z) ?_
   first | refine J (A0 Z Z Ay rfl) ?_ | refine J (AY Z Z Z Ay rfl) ?_ | refine J (AZ Z Z (rfl) rfl Ay rfl) ?_
   first | refine J (E9 Z Z Z) ?_ | refine J (Ed Z Z Z) ?_ | refine J (EU Z Z Z) ?_ | refine J (Ea Tryz.underlying9 Z Z Z) ?_ | refine J (Ec Tryz.underlying9 Z Z Z) ?_ | refine J (st_neqN Tryz.underlying9 Z Z) ?_ | refine J (Eb Tryz.underlying9 Z Z Z) ?_ | refine J (st_neqFN Tryz.underlying9 Z Z) ?_
   refine AC Z Z ?_
   first | refine K9 45 rfl (fun h45=>?_) (fun h45=>?_) | refine J4 45 rfl (fun h45=>?_) (fun h45=>?_)
   ·refine Ah Z Z Z ?_
    first | refine J (AO rfl G7 Z Z Z) ?_ | refine J (AQ rfl G7 Z Z Z) ?_ | refine J (AR rfl G7 Z Z Z) ?_ | refine J (AP rfl G7 Z Z Z) ?_ | refine J (AN rfl G7 Z Z Z) ?_
    refine Ah Z Z Z ?_
    first | refine J (A0 Z Z Ay rfl) ?_ | refine J (AY Z Z Z Ay rfl) ?_ | refine J (AZ Z Z (rfl) rfl Ay rfl) ?_
    refine Ah Z Z Z ?_
    first | refine J (E9 Z Z Z) ?_ | refine J (Ed Z Z Z) ?_ | refine J (EU Z Z Z) ?_ | refine J (Ea Tryz.underlying9 Z Z Z) ?_ | refine J (Ec Tryz.underlying9 Z Z Z) ?_ | refine J (st_neqN Tryz.underlying9 Z Z) ?_ | refine J (Eb Tryz.underlying9 Z Z Z) ?_ | refine J (st_neqFN Tryz.underlying9 Z Z) ?_
    refine J (EB Z Z Z Z) (AC Z Z ?_)
    first | refine K9 50 rfl (fun h50=>?_) (fun h50=>?_) | refine J4 50 rfl (fun h50=>?_) (fun h50=>?_)
    ·refine Ah Z Z Z ?_
     first | refine J (AO rfl FX Z Z Z) ?_ | refine J (AQ rfl FX Z Z Z) ?_ | refine J (AR rfl FX Z Z Z) ?_ | refine J (AP rfl FX Z Z Z) ?_ | refine J (AN rfl FX Z Z Z) ?_
     refine Ah Z Z Z ?_
     first | refine J (A0 Z Z Ay rfl) ?_ | refine J (AY Z Z Z Ay rfl) ?_ | refine J (AZ Z Z (rfl) rfl Ay rfl) ?_
     refine Ah Z Z Z ?_
     first | refine J (AO rfl G7 Z Z Z) ?_ | refine J (AQ rfl G7 Z Z Z) ?_ | refine J (AR rfl G7 Z Z Z) ?_ | refine J (AP rfl G7 Z Z Z) ?_ | refine J (AN rfl G7 Z Z Z) ?_
     refine Ah Z Z Z ?_
     first | refine J (A0 Z Z Ay rfl) ?_ | refine J (AY Z Z Z Ay rfl) ?_ | refine J (AZ Z Z (rfl) rfl Ay rfl) ?_
     refine Ah Z Z Z ?_
     first | refine J (E9 Z Z Z) ?_ | refine J (Ed Z Z Z) ?_ | refine J (EU Z Z Z) ?_ | refine J (Ea Tryz.underlying9 Z Z Z) ?_ | refine J (Ec Tryz.underlying9 Z Z Z) ?_ | refine J (st_neqN Tryz.underlying9 Z Z) ?_ | refine J (Eb Tryz.underlying9 Z Z Z) ?_ | refine J (st_neqFN Tryz.underlying9 Z Z) ?_
     refine J (EB Z Z Z Z) (AC Z Z ?_)
     first | refine K9 57 rfl (fun h57=>?_) (fun h57=>?_) | refine J4 57 rfl (fun h57=>?_) (fun h57=>?_)
     ·refine Ah Z Z Z ?_
      first | refine J (AO rfl Bx Z Z Z) ?_ | refine J (AQ rfl Bx Z Z Z) ?_ | refine J (AR rfl Bx Z Z Z) ?_ | refine J (AP rfl Bx Z Z Z) ?_ | refine J (AN rfl Bx Z Z Z) ?_
      refine Ah Z Z Z ?_
      first | refine J (An Z Z HJ rfl) ?_ | refine J (Ao Z Z HJ Z Z Z) ?_ | refine J (Ap Z Z (rfl) rfl HJ rfl) ?_
      refine Ah Z Z Z (J (Cu Nn RA Z Z Z) ?_);refine Ah Z Z Z (J (M8 (la:=SQ r.acc) (lb:=SQ SP) (ds:=accT) (by kernel_rfl) (by kernel_rfl) (by kernel_rfl) Z Z Z Z (I2 _) (I2 _) (Ur _ _) rfl) (J (EB Z Z Z Z) (AD Z Z (AH (AF (AF (AJ (AC Z Z ?_))))))))
      first | refine J (F2 Z Z) ?_ | refine J (FT Z Z) ?_
      refine AH ?_
      first | refine BJ rfl (fun h80=>?_) (fun h80=>?_) | refine BB rfl (fun h80=>?_) (fun h80=>?_)
      ·refine AF (AJ (AD Z Z (AH (Af ?_))));exact ⟨_,[],[],Ae rfl,rfl,rfl,Al (by unfold BQ;simp_all<;>(intros;omega)),rfl⟩
      ·refine Am (AF (AJ (AD Z Z (AH (Af ?_)))));exact ⟨_,[],[],Ae rfl,rfl,rfl,Al (by unfold BQ;simp_all<;>(intros;omega)),rfl⟩
     ·refine Aj Z Z Z Z ?_;refine Aj Z Z Z Z (Aj Z Z Z Z (Aj Z Z Z Z (J (Ei Z Z Z Z) (AD Z Z (AH (AF (AF (AJ ?_))))))));refine AC Z Z (J (EC Z Z) (AH (Dg Z Z (AF (AJ (AD Z Z (AH (Af ?_))))))));exact ⟨_,[],[],Ae rfl,rfl,rfl,Al (by unfold BQ;simp_all<;>(intros;omega)),rfl⟩
    ·refine Aj Z Z Z Z (Aj Z Z Z Z (Aj Z Z Z Z (Aj Z Z Z Z (Aj Z Z Z Z (J (Ei Z Z Z Z) (AC Z Z (Aj Z Z Z Z ?_)))))));refine Aj Z Z Z Z (Aj Z Z Z Z (Aj Z Z Z Z (J (Ei Z Z Z Z) (AD Z Z (AH (AF (AF (AJ ?_))))))));refine AC Z Z (J (EC Z Z) (AH (Dg Z Z (AF (AJ (AD Z Z (AH (Af ?_))))))));exact ⟨_,[],[],Ae rfl,rfl,rfl,Al (by unfold BQ;simp_all<;>(intros;omega)),rfl⟩
   ·refine Aj Z Z Z Z (Aj Z Z Z Z (Aj Z Z Z Z (J (Ei Z Z Z Z) ?_)));refine AC Z Z (Aj Z Z Z Z (Aj Z Z Z Z (Aj Z Z Z Z (Aj Z Z Z Z (Aj Z Z Z Z (J (Ei Z Z Z Z) (AC Z Z (Aj Z Z Z Z ?_))))))));refine Aj Z Z Z Z (Aj Z Z Z Z (Aj Z Z Z Z (J (Ei Z Z Z Z) (AD Z Z (AH (AF (AF (AJ ?_))))))));refine AC Z Z (J (EC Z Z) (AH (Dg Z Z (AF (AJ (AD Z Z (AH (Af ?_))))))));exact ⟨_,[],[],Ae rfl,rfl,rfl,Al (by unfold BQ;simp_all<;>(intros;omega)),rfl⟩
  ·refine AF (AJ ?_)
   first | refine J (EP Z Z Z) ?_ | refine J (EW Z Z Z) ?_ | refine J (EA Z Z Z) ?_ | refine J (EQ Tryz.underlying3 Z Z Z) ?_ | refine J (ET Tryz.underlying3 Z Z Z) ?_ | refine J (ES Tryz.underlying3 Z Z) ?_ | refine J (ER Tryz.underlying3 Z Z Z) ?_ | refine J (EV Tryz.underlying3 Z Z) ?_
   refine AD Z Z (AH ?_)
   first | refine BJ rfl (fun h63=>?_) (fun h63=>?_) | refine BB rfl (fun h63=>?_) (fun h63=>?_)
   ·refine AJ ?_
    first | refine J (AO rfl FX Z Z Z) ?_ | refine J (AQ rfl FX Z Z Z) ?_ | refine J (AR rfl FX Z Z Z) ?_ | refine J (AP rfl FX Z Z Z) ?_ | refine J (AN rfl FX Z Z Z) ?_
    first | refine J (A0 Z Z Ay rfl) ?_ | refine J (AY Z Z Z Ay rfl) ?_ | refine J (AZ Z Z (rfl) rfl Ay rfl) ?_
    first | refine J (E9 Z Z Z) ?_ | refine J (Ed Z Z Z) ?_ | refine J (EU Z Z Z) ?_ | refine J (Ea Tryz.underlying9 Z Z Z) ?_ | refine J (Ec Tryz.underlying9 Z Z Z) ?_ | refine J (st_neqN Tryz.underlying9 Z Z) ?_ | refine J (Eb Tryz.underlying9 Z Z Z) ?_ | refine J (st_neqFN Tryz.underlying9 Z Z) ?_
    refine AC Z Z ?_
    first | refine K9 68 rfl (fun h68=>?_) (fun h68=>?_) | refine J4 68 rfl (fun h68=>?_) (fun h68=>?_)
    ·refine Ah Z Z Z ?_
     first | refine J (AO rfl G7 Z Z Z) ?_ | refine J (AQ rfl G7 Z Z Z) ?_ | refine J (AR rfl G7 Z Z Z) ?_ | refine J (AP rfl G7 Z Z Z) ?_ | refine J (AN rfl G7 Z Z Z) ?_
     refine Ah Z Z Z ?_
     first | refine J (A0 Z Z Ay rfl) ?_ | refine J (AY Z Z Z Ay rfl) ?_ | refine J (AZ Z Z (rfl) rfl Ay rfl) ?_
     refine Ah Z Z Z ?_
     first | refine J (EP Z Z Z) ?_ | refine J (EW Z Z Z) ?_ | refine J (EA Z Z Z) ?_ | refine J (EQ Tryz.underlying9 Z Z Z) ?_ | refine J (ET Tryz.underlying9 Z Z Z) ?_ | refine J (ES Tryz.underlying9 Z Z) ?_ | refine J (ER Tryz.underlying9 Z Z Z) ?_ | refine J (EV Tryz.underlying9 Z Z) ?_
     refine J (EB Z Z Z Z) (AC Z Z ?_)
     first | refine K9 73 rfl (fun h73=>?_) (fun h73=>?_) | refine J4 73 rfl (fun h73=>?_) (fun h73=>?_)
     ·refine Ah Z Z Z ?_
      first | refine J (AO rfl Bx Z Z Z) ?_ | refine J (AQ rfl Bx Z Z Z) ?_ | refine J (AR rfl Bx Z Z Z) ?_ | refine J (AP rfl Bx Z Z Z) ?_ | refine J (AN rfl Bx Z Z Z) ?_
      refine Ah Z Z Z ?_
      first | refine J (An Z Z HJ rfl) ?_ | refine J (Ao Z Z HJ Z Z Z) ?_ | refine J (Ap Z Z (rfl) rfl HJ rfl) ?_
      refine Ah Z Z Z (J (Cu Nn RA Z Z Z) ?_);refine Ah Z Z Z (J (M8 (la:=SQ r.acc) (lb:=SQ SP) (ds:=accT) (by kernel_rfl) (by kernel_rfl) (by kernel_rfl) Z Z Z Z (I2 _) (I2 _) (Ur _ _) rfl) (J (EB Z Z Z Z) (AD Z Z (AH (AF (AF (AJ (AC Z Z ?_))))))))
      first | refine J (F2 Z Z) ?_ | refine J (FT Z Z) ?_
      refine AH ?_
      first | refine BJ rfl (fun h80=>?_) (fun h80=>?_) | refine BB rfl (fun h80=>?_) (fun h80=>?_)
      ·refine AF (AJ (AD Z Z (AH (Af ?_))));exact ⟨_,[],[],Ae rfl,rfl,rfl,Al (by unfold BQ;simp_all<;>(intros;omega)),rfl⟩
      ·refine Am (AF (AJ (AD Z Z (AH (Af ?_)))));exact ⟨_,[],[],Ae rfl,rfl,rfl,Al (by unfold BQ;simp_all<;>(intros;omega)),rfl⟩
     ·refine Aj Z Z Z Z ?_;refine Aj Z Z Z Z (Aj Z Z Z Z (Aj Z Z Z Z (J (Ei Z Z Z Z) (AD Z Z (AH (AF (AF (AJ ?_))))))));refine AC Z Z (J (EC Z Z) (AH (Dg Z Z (AF (AJ (AD Z Z (AH (Af ?_))))))));exact ⟨_,[],[],Ae rfl,rfl,rfl,Al (by unfold BQ;simp_all<;>(intros;omega)),rfl⟩
    ·refine Aj Z Z Z Z (Aj Z Z Z Z (Aj Z Z Z Z (J (Ei Z Z Z Z) (AC Z Z (Aj Z Z Z Z ?_)))));refine Aj Z Z Z Z (Aj Z Z Z Z (Aj Z Z Z Z (J (Ei Z Z Z Z) (AD Z Z (AH (AF (AF (AJ ?_))))))));refine AC Z Z (J (EC Z Z) (AH (Dg Z Z (AF (AJ (AD Z Z (AH (Af ?_))))))));exact ⟨_,[],[],Ae rfl,rfl,rfl,Al (by unfold BQ;simp_all<;>(intros;omega)),rfl⟩
   ·refine AF (AJ (AD Z Z (AH (Af ?_))));exact ⟨_,[],[],Ae rfl,rfl,rfl,Al (by unfold BQ;simp_all<;>(intros;omega)),rfl⟩
def Pz:List A4 ->A4 ->List A4
 | [],r=> [r]
 | a::l,r=>if CE a r<0 then a::Pz l r else if a=r then a::l else r::a::l
def WX (l:List A4):Prop:=l.Pairwise fun a b=>CE a b<0
theorem insR_mem {l:List A4} {r x:A4}:x∈Pz l r↔x=r∨x∈l:=by
 induction l with
 | nil=>simp [Pz]
 | cons a l ih=>
  simp only [Pz]
  split
  ·simp only [List.mem_cons,ih];constructor<;>intro h<;>rcases h with h | h | h<;>simp [h]
  ·split
   ·rename_i h;subst h;simp
   ·simp
theorem YV {l:List A4} (h:WX l) (r:A4):WX (Pz l r):=by
 induction l with
 | nil=>simp [Pz,WX]
 | cons a l ih=>
  simp only [WX,List.pairwise_cons] at h;simp only [Pz]
  split
  ·rename_i h1
   refine List.pairwise_cons.2 ⟨fun x hx=>?_,ih h.2⟩;rcases insR_mem.1 hx with rfl | hx
   ·exact h1
   ·exact h.1 x hx
  ·split
   ·exact List.pairwise_cons.2 h
   ·rename_i h1 h2
    have h3:CE r a<0:=by
     have:=OD.anti a r;have h4:CE a r≠0:=fun e=>h2 (Dx.1 e);omega
    refine List.pairwise_cons.2 ⟨fun x hx=>?_,List.pairwise_cons.2 h⟩;rcases List.mem_cons.1 hx with rfl | hx
    ·exact h3
    ·exact OD.trans _ _ _ h3 (h.1 x hx)
def Qe (c:List (A4×Int)):List A4:=(c.map Prod.fst).foldl Pz []
theorem OG (c:List (A4×Int)) (x:A4×Int):Qe (c++ [x])=Pz (Qe c) x.1:=by simp [Qe]
theorem Qd (c:List (A4×Int)) (r:A4):r∈Qe c↔r∈c.map Prod.fst:=by
 induction c using ZB with
 | h0=>simp [Qe]
 | h1 l x ih=>rw [OG,insR_mem,ih];simp only [List.map_append,List.map_cons,List.map_nil,List.mem_append,List.mem_singleton];exact or_comm
theorem Wd (c:List (A4×Int)):WX (Qe c):=by
 induction c using ZB with
 | h0=>simp [Qe,WX]
 | h1 l x ih=>rw [OG];exact YV ih _
def LN (c:List (A4×Int)):List (A4×Int):=((Qe c).map fun r=>(r,Ai c r)).filter fun x=>decide (x.2≠0)
def dltL (i:AT):List (A4×Int):=LN (ctr i)
theorem KX (c:List (A4×Int)):(LN c).Pairwise fun a b=>CE a.1 b.1<0:=by
 unfold LN;refine List.Pairwise.filter _ ?_;rw [List.pairwise_map];exact Wd c
theorem Fz (c:List (A4×Int)) (a:A4) (b:Int):(a,b)∈sumL c↔a∈c.map Prod.fst∧b=Ai c a:=by
 constructor
 ·intro h;refine ⟨(II c a).1 (List.mem_map.2 ⟨_,h,rfl⟩),?_⟩;rw [←Jk,Zc9 (FG c) h]
 ·rintro ⟨h,rfl⟩;rw [←Jk];exact RZ ((II c a).2 h)
theorem Hr (c:List (A4×Int)) (x:A4×Int):x∈LN c↔x∈sumL c∧x.2≠0:=by
 obtain ⟨a,b⟩:=x;unfold LN;rw [List.mem_filter,List.mem_map,Fz];simp only [Prod.mk.injEq,decide_eq_true_eq]
 constructor
 ·rintro ⟨⟨r,hr,rfl,rfl⟩,h⟩;exact ⟨⟨(Qd c r).1 hr,rfl⟩,h⟩
 ·rintro ⟨⟨h1,rfl⟩,h⟩;exact ⟨⟨a,(Qd c a).2 h1,rfl,rfl⟩,h⟩
theorem Uh {c acc ys:List (A4×Int)} (h1:acc.Perm ((sumL c).filter fun x=>decide (x.2≠0))) (h2:ys.Perm acc) (h3:ys.Pairwise fun a b=>¬CE b.1 a.1<0):ys=LN c:=by
 have hp:=h2.trans h1;refine Di (R:=fun a b=>CE a.1 b.1<0) (fun x=>by rw [OD.refl];omega) (fun x y z=>OD.trans x.1 y.1 z.1) ?_ (KX c) fun x=>?_
 ·have hn:(ys.map Prod.fst).Nodup:=by
   refine ((hp.map Prod.fst).nodup_iff).2 ?_;exact (FG c).sublist (List.Sublist.map _ List.filter_sublist)
  rw [List.Nodup,List.pairwise_map] at hn;refine (h3.and hn).imp fun {a b} ⟨g1,g2⟩=>?_;have:=OD.anti a.1 b.1;have g3:CE a.1 b.1≠0:=fun e=>g2 (Dx.1 e);omega
 ·rw [hp.mem_iff,Hr,List.mem_filter,decide_eq_true_eq]
theorem Yf (x:A4×Int):∃cs,QL x= .agg cs:=⟨_,rfl⟩
theorem VP {c acc:List (A4×Int)} (h1:acc.Perm ((sumL c).filter fun x=>decide (x.2≠0))):acc.length=(LN c).length:=by
 have hs:=List.pairwise_mergeSort (le:=fun a b:A4×Int=>decide (¬CE b.1 a.1<0)) (fun a b d h1 h2=>by
  have:=OD.swo.ntrans d.1 b.1 a.1;simp only [ltOf,decide_eq_false_iff_not] at this;simp only [decide_eq_true_eq] at h1 h2⊢
  exact this h2 h1) (fun a b=>by have:=OD.anti a.1 b.1;simp only [Bool.or_eq_true,decide_eq_true_eq];omega) acc
 have hp:=List.mergeSort_perm acc (fun a b:A4×Int=>decide (¬CE b.1 a.1<0));rw [←Uh h1 hp (hs.imp fun {a b} h=>by simpa using h)];exact hp.length_eq.symm
section
variable {F:Fr} {s:AS} {d:Nat} {x y:Operand} {ty:TypeId} {pos:String} {aft:Array Edge} {gd:Option (Nat×Bool)} {at_:Array TypeId} {f n:Nat} {row:List D} {hp':Hp}
theorem Wq (c acc:List (A4×Int)) (h1:acc.Perm ((sumL c).filter fun x=>decide (x.2≠0))) (hsz:acc.length<4611686018427387904) (hx:s.ev x=some (.own f 0 n)) (hy:s.ev y=some (.d (.raw (.func (.func 32) #[] #[])))) (ho:hget s.hp f 0=some (.rowD 55 7 row)) (hrow:row=acc.map QL) (hn:n=acc.length) (hh:B9 s.hp f 0 (.rowD 55 7 ((LN c).map QL))=some hp') (hd:Nat.blt d s.n=true):
  AL Tryz.prog F ⟨some d,.call {callee:= .value (.func 31),args:= #[x,y],argTypes:=at_},ty,pos,aft,gd⟩ s ⟨s.n,(d,.d (.tup []))::s.env,hp'⟩ (fun _ _=>true):=
 P4 laysD (k:=7) (by decide) Tryz.isAgg55 Tryz.sizeOf55 Tryz.func32 Z Z Yf (fun a b=>CE a.1 b.1) (OD.comap Prod.fst).swo acc (LN c) hsz (fun x _ y _=>WD x y) (fun ys g1 g2=>Uh h1 g1 g2) rfl hx hy QH ho hrow hn hh hd
end
def dltS (i:AT):List (A4×Int):=if BI i=0 then dltL i else []
theorem Hi {l:List Int} (h:Bk l=0):∀x∈l,x=0:=by
 have:=(PP (l:=l) (f:=id)).1 (by rw [List.map_id];exact h);exact this
theorem G1 {i:AT} (h:BI i=0):ItmB i∧(0≤i.id∧i.id≤1000000000)∧(0≤i.sq∧i.sq≤1000000000)∧(0≤i.pr∧i.pr≤2)∧Mm i=0∧TF i=0∧SN i=0∧SK i=0∧QO i=0:=by
 unfold BI at h
 split at h; · cases h
 split at h; · cases h
 rename_i h1 h2
 have h3:=Hi h;have e1:=h3 (Mm i) (by simp [Q2]);have e2:=h3 (TF i) (by simp [Q2]);exact ⟨⟨by omega,by omega,by omega,TA e1,pay_b e2⟩,by omega,by omega,by omega,e1,e2,h3 _ (by simp [Q2]),h3 _ (by simp [Q2]),h3 _ (by simp [Q2])⟩
theorem JQ (i:AT):(ctr i).length=i.po.length+4*i.pa.length:=by simp [ctr,I9,Lg]
theorem HV (c:List (A4×Int)):(sumL c).length≤c.length:=by
 induction c using ZB with
 | h0=>simp [sumL]
 | h1 l x ih=>
  rw [Tj];unfold Yu;have:=KI (m:=sumL l) (a:=x.1) (b:=Ad (sumL l) x.1 0+x.2);simp only [List.length_append,List.length_singleton];omega
theorem nxt_in {α:Type} {p:α ->Bool} {acc A B X:List α} {x:α} (hI:(acc++A.filter p).Perm X) (hp:A.Perm (x::B)) (hx:p x=true):((acc++ [x])++B.filter p).Perm X:=by
 have h:=hp.filter p;rw [List.filter_cons_of_pos hx] at h;rw [List.append_assoc];exact (List.Perm.append_left acc h.symm).trans hI
theorem nxt_out {α:Type} {p:α ->Bool} {acc A B X:List α} {x:α} (hI:(acc++A.filter p).Perm X) (hp:A.Perm (x::B)) (hx:¬p x=true):(acc++B.filter p).Perm X:=by
 have h:=hp.filter p;rw [List.filter_cons_of_neg hx] at h;exact (List.Perm.append_left acc h.symm).trans hI
theorem Pq {α:Type} {p:α ->Bool} {acc A M:List α} (hI:(acc++A.filter p).Perm (M.filter p)):acc.length≤M.length:=by
 have h:=hI.length_eq;have h2:=List.length_filter_le p M;rw [List.length_append] at h;omega
theorem Rx (i:AT) (g1:i.po.length≤140737488355328) (g2:i.pa.length≤140737488355328) (g3:i.af.length≤140737488355328):AU Tryz.prog 13 [.d (Aw i)] (.tup [.sl none ((dltS i).map QL),AG (BI i)]):=by
 by_cases hE:BI i=0
 ·have hb:=(G1 hE).1;have hS:dltS i=dltL i:=if_pos hE
  obtain ⟨M,hMM⟩:∃M,sumL (ctr i)=M:=⟨_,rfl⟩
  have hs:=(P3 i hb).by [(2,20)] rfl;have hlen:M.length≤1280:=by rw [←hMM];have h1:=HV (ctr i);have h2:=JQ i;have h3:=hb.po;have h4:=hb.pa;omega
  rw [hMM] at hs;rw [hS];have hck:=K3 i g1 g2 g3;rw [hE] at hck⊢;refine BY Tryz.func13 Z Z Tryz.ntmps13 Z Z Z fun F hF=>?_;refine AF (AJ (U (CJ 1 Z Z Z Z Z Z Z) (AD Z Z (AD Z Z (AH (AF (AF (AJ ?_))))))))
  first | refine J (An Z Z A7 rfl) ?_ | refine J (Ao Z Z A7 Z Z Z) ?_ | refine J (Ap Z Z (rfl) rfl A7 rfl) ?_
  refine J (BF (hck) Z Z) (AD Z Z (AH (AF (AJ (AC Z Z ?_)))))
  first | refine J (E9 Z Z Z) ?_ | refine J (Ed Z Z Z) ?_ | refine J (EU Z Z Z) ?_ | refine J (Ea Tryz.underlying34 Z Z Z) ?_ | refine J (Ec Tryz.underlying34 Z Z Z) ?_ | refine J (st_neqN Tryz.underlying34 Z Z) ?_ | refine J (Eb Tryz.underlying34 Z Z Z) ?_ | refine J (st_neqFN Tryz.underlying34 Z Z) ?_
  refine AH (Ey rfl (by decide) ?_);refine Am (AF (AJ (AD Z Z (AH (AF (AF (EO 5 900 sl44 Z Z Z Z (AJ ?_))))))))
  first | refine J (An Z Z A7 rfl) ?_ | refine J (Ao Z Z A7 Z Z Z) ?_ | refine J (Ap Z Z (rfl) rfl A7 rfl) ?_
  refine U (HQ hs rfl [20] ⟨rfl,trivial⟩ Z Z Z Z Z Z Z Z Z) (U (HZ 2 Z Z Z El Z Z Z Z) (AH (Au (De (α:=List Nat×List (A4×Int)) (fun q=>⟨32,[(5,(.own 900 0 q.2.length)),(15,(.ptr 2 0 0))],[(2,[.iter 20 0 M.length q.1]),(20,[B5 D5 AG M]),(900,[.rowD 55 7 (q.2.map QL)])]⟩) (fun q=>(q.2++(DW M (List.range M.length) q.1).filter (fun x=>decide (x.2≠0))).Perm (M.filter fun x=>decide (x.2≠0))) (fun q=>(DW M (List.range M.length) q.1).length) (([],[])) (by rw [GN (by simp)];exact List.Perm.refl _) (BP hF [2,20,900] Z Z ⟨rfl,rfl,trivial⟩) ?_))));rintro ⟨seen,acc⟩ hI;dsimp only at hI⊢;refine AF (AJ (NA (M) Z Z Z Z (fun hl16=>?_) (fun j16 b16 k16 v16 hm16 hb16 hB16 hp16=>⟨_,rfl,?_⟩)))
  ·first | refine J (BT Z Z Z) ?_ | refine J (BS Z Z Z) ?_
   refine AH (AF (Ey Z Z (C6 (AF ?_))));have hacc:acc.Perm ((sumL (ctr i)).filter fun x=>decide (x.2≠0)):=by have h:=hI;rw [hl16,List.filter_nil,List.append_nil] at h;rw [hMM];exact h
   refine AJ (AC Z Z (U (Wq (ctr i) acc hacc (by have:=Pq hI;omega) Z Z Z Z Z Z Z) ?_));refine AH (AF (WV (emb:=QL) 5 900 (dltL i) Z Z Z (VP hacc) Z Z Z (AJ (AC Z Z (AD Z Z (AD Z Z (AH (Af ?_))))))));exact ⟨_,[],[],Ae rfl,rfl,rfl,rfl,rfl⟩
  ·first | refine J (BT Z Z Z) ?_ | refine J (BS Z Z Z) ?_
   refine AH (AF (Dg Z Z (Am (Au (AF (AJ (J (H1 (M) j16 b16 Z Z Z hm16 hb16 rfl) ?_)))))))
   first | refine J (BT Z Z Z) ?_ | refine J (BS Z Z Z) ?_
   first | refine J (BT Z Z Z) ?_ | refine J (BS Z Z Z) ?_
   refine U (Cm 3 Gf Z Z Z Z) (U (Bj Z Z Z Z Z Z Z Wg) (AD Z Z (AH (AF (AJ (AC Z Z ?_))))))
   first | refine J (E9 Z Z Z) ?_ | refine J (Ed Z Z Z) ?_ | refine J (EU Z Z Z) ?_ | refine J (Ea Tryz.underlying2 Z Z Z) ?_ | refine J (Ec Tryz.underlying2 Z Z Z) ?_ | refine J (st_neqN Tryz.underlying2 Z Z) ?_ | refine J (Eb Tryz.underlying2 Z Z Z) ?_ | refine J (st_neqFN Tryz.underlying2 Z Z) ?_
   refine AH ?_
   first | refine BJ rfl (fun h22=>?_) (fun h22=>?_) | refine BB rfl (fun h22=>?_) (fun h22=>?_)
   ·refine AJ (AC Z Z ?_)
    first | refine J (An Z Z Ab rfl) ?_ | refine J (Ao Z Z Ab Z Z Z) ?_ | refine J (Ap Z Z (rfl) rfl Ab rfl) ?_
    refine AC Z Z (J (Cu zl55 pl55 Z Z Z) (U (Fg 4 sl44 Z Z Z Z Z Z Z Z) ?_))
    first | refine U (Ib (acc) ([(k16,v16)]) Z Z Z Z Z Z Z Z sl44 (by have:=Pq hI;simp only [List.length_singleton];omega) Z Z Z Z) ?_ | refine U (Ka (acc) ([(k16,v16)]) Z Z Z Z Z Z (fun _=>rfl) sl44 (by have:=Pq hI;simp only [List.length_singleton];omega) Z Z Z Z) ?_
    refine AD Z Z (AH ?_);exact ⟨(seen++ [b16],_),nxt_in hI hp16 (by simpa using h22),by show (DW M (List.range M.length) (seen++ [b16])).length<(DW M (List.range M.length) seen).length;rw [hp16.length_eq];exact Nat.lt_succ_self _,BP hF [2,20,900] rfl (rfl) ⟨rfl,rfl,trivial⟩⟩
   ·refine Am ?_;exact ⟨(seen++ [b16],_),nxt_out hI hp16 (by simpa using h22),by show (DW M (List.range M.length) (seen++ [b16])).length<(DW M (List.range M.length) seen).length;rw [hp16.length_eq];exact Nat.lt_succ_self _,BP hF [2,20,900] rfl (rfl) ⟨rfl,rfl,trivial⟩⟩
 ·have hck:=K3 i g1 g2 g3;have hS:dltS i=[]:=if_neg hE;rw [hS];refine BY Tryz.func13 Z Z Tryz.ntmps13 Z Z Z fun F hF=>(AF ?_);refine AJ (U (CJ 1 Z Z Z Z Z Z Z) (AD Z Z (S4 2 rfl (AD Z Z (AH (AF (AF (AJ ?_))))))))
  first | refine J (An Z Z A7 rfl) ?_ | refine J (Ao Z Z A7 Z Z Z) ?_ | refine J (Ap Z Z (rfl) rfl A7 rfl) ?_
  refine J (BF (hck) Z Z) (AD Z Z (AH (AF (AJ (AC Z Z ?_)))))
  first | refine J (E9 Z Z Z) ?_ | refine J (Ed Z Z Z) ?_ | refine J (EU Z Z Z) ?_ | refine J (Ea Tryz.underlying34 Z Z Z) ?_ | refine J (Ec Tryz.underlying34 Z Z Z) ?_ | refine J (st_neqN Tryz.underlying34 Z Z) ?_ | refine J (Eb Tryz.underlying34 Z Z Z) ?_ | refine J (st_neqFN Tryz.underlying34 Z Z) ?_
  refine AH ?_;refine Dg rfl ((by simpa using hE)) (AF (AJ (AC Z Z (AD Z Z (S4 2 rfl (AD Z Z (AH (Af ?_))))))));exact ⟨_,[],[],Ae rfl,rfl,rfl,rfl,rfl⟩
def CM (i:AT) (r:A4):Int:=if BI i=0∧BQ r=0 then Ai (ctr i) r else 0
theorem KY (i:AT) (r:A4) (g1:i.po.length≤140737488355328) (g2:i.pa.length≤140737488355328) (g3:i.af.length≤140737488355328):AU Tryz.prog 122 [.d (Aw i),.d (D5 r)] (AG (CM i r)):=by
 by_cases hE:BI i=0
 ·have hb:=(G1 hE).1
  obtain ⟨M,hMM⟩:∃M,sumL (ctr i)=M:=⟨_,rfl⟩
  have hs:=(P3 i hb).by [(2,20)] rfl;rw [hMM] at hs;have hck:=K3 i g1 g2 g3;rw [hE] at hck;refine BY Tryz.func122 Z Z Tryz.ntmps122 Z Z Z fun F hF=>?_;refine AF (AJ (U (CJ 1 Z Z Z Z Z Z Z) (U (CJ 2 Z Z Z Z Z Z Z) (AD Z Z (AH (AF (AF (AJ ?_))))))))
  first | refine J (An Z Z A7 rfl) ?_ | refine J (Ao Z Z A7 Z Z Z) ?_ | refine J (Ap Z Z (rfl) rfl A7 rfl) ?_
  refine J (BF (hck) Z Z) ?_
  first | refine J (E9 Z Z Z) ?_ | refine J (Ed Z Z Z) ?_ | refine J (EU Z Z Z) ?_ | refine J (Ea Tryz.underlying34 Z Z Z) ?_ | refine J (Ec Tryz.underlying34 Z Z Z) ?_ | refine J (st_neqN Tryz.underlying34 Z Z) ?_ | refine J (Eb Tryz.underlying34 Z Z Z) ?_ | refine J (st_neqFN Tryz.underlying34 Z Z) ?_
  refine AC Z Z (JC 8 rfl (by decide) (Ah Z Z Z ?_))
  first | refine J (An Z Z Ab rfl) ?_ | refine J (Ao Z Z Ab Z Z Z) ?_ | refine J (Ap Z Z (rfl) rfl Ab rfl) ?_
  refine Ah Z Z Z (J (BF (To r) Z Z) (Ah Z Z Z ?_))
  first | refine J (E9 Z Z Z) ?_ | refine J (Ed Z Z Z) ?_ | refine J (EU Z Z Z) ?_ | refine J (Ea Tryz.underlying34 Z Z Z) ?_ | refine J (Ec Tryz.underlying34 Z Z Z) ?_ | refine J (st_neqN Tryz.underlying34 Z Z) ?_ | refine J (Eb Tryz.underlying34 Z Z Z) ?_ | refine J (st_neqFN Tryz.underlying34 Z Z) ?_
  refine J (Ei Z Z Z Z) (AH ?_)
  first | refine BJ rfl (fun h12=>?_) (fun h12=>?_) | refine BB rfl (fun h12=>?_) (fun h12=>?_)
  ·refine AF (AJ (AD Z Z (AH (Af ?_))));exact ⟨_,[],[],Ae rfl,rfl,rfl,Al (by rw [CM,if_neg];simp_all),rfl⟩
  ·refine Am (AF (G8 [[],[0],[],[0,1,2],[0,1,2,3]] BC rfl (Hq ?_)))
   first | refine AE [2] [] Z Z (fun _=>AB (An Z Z A7 rfl)) ?_ | refine AI [2] Z Z (fun _=>AB (An Z Z A7 rfl)) ?_ | refine AE [2] [] Z Z (fun _=>AB (Ao Z Z A7 Z Z Z)) ?_ | refine AI [2] Z Z (fun _=>AB (Ao Z Z A7 Z Z Z)) ?_ | refine AE [2] [] Z Z (fun _=>AB (Ap Z Z (rfl) rfl A7 rfl)) ?_ | refine AI [2] Z Z (fun _=>AB (Ap Z Z (rfl) rfl A7 rfl)) ?_
   refine Fw [13] [20] [(14,_)] Z Z (fun _=>Fx (HQ hs rfl [20] ⟨rfl,trivial⟩ Z Z Z Z Z Z Z Z Z)) (.inr ⟨14,_,rfl,rfl,rfl,rfl,rfl⟩) Z Z Z Z Z ?_
   first | refine AE [3] [] Z Z (fun _=>AB (An Z Z Ab rfl)) ?_ | refine AI [3] Z Z (fun _=>AB (An Z Z Ab rfl)) ?_ | refine AE [3] [] Z Z (fun _=>AB (Ao Z Z Ab Z Z Z)) ?_ | refine AI [3] Z Z (fun _=>AB (Ao Z Z Ab Z Z Z)) ?_ | refine AE [3] [] Z Z (fun _=>AB (Ap Z Z (rfl) rfl Ab rfl)) ?_ | refine AI [3] Z Z (fun _=>AB (Ap Z Z (rfl) rfl Ab rfl)) ?_
   refine GZ 3 Z Z Z (BD 4 Z Z (J (IC (M) (r) (0) _ Z Z Z El Ch Nk Z Z) (AH ⟨rfl,?_⟩)));refine BD 5 Z Z (AD Z Z (AH ⟨rfl,?_⟩));refine GY (Af ?_);exact ⟨_,[],[],Ae rfl,rfl,rfl,Al (by rw [CM,if_pos ⟨hE,by simpa using h12⟩,←hMM,Jk]),rfl⟩
 ·have hck:=K3 i g1 g2 g3;have hS:CM i r=0:=if_neg fun h=>hE h.1;rw [hS];refine BY Tryz.func122 Z Z Tryz.ntmps122 Z Z Z fun F hF=>?_;refine AF (AJ (U (CJ 1 Z Z Z Z Z Z Z) (U (CJ 2 Z Z Z Z Z Z Z) (AD Z Z (AH (AF (AF (AJ ?_))))))))
  first | refine J (An Z Z A7 rfl) ?_ | refine J (Ao Z Z A7 Z Z Z) ?_ | refine J (Ap Z Z (rfl) rfl A7 rfl) ?_
  refine J (BF (hck) Z Z) ?_
  first | refine J (E9 Z Z Z) ?_ | refine J (Ed Z Z Z) ?_ | refine J (EU Z Z Z) ?_ | refine J (Ea Tryz.underlying34 Z Z Z) ?_ | refine J (Ec Tryz.underlying34 Z Z Z) ?_ | refine J (st_neqN Tryz.underlying34 Z Z) ?_ | refine J (Eb Tryz.underlying34 Z Z Z) ?_ | refine J (st_neqFN Tryz.underlying34 Z Z) ?_
  refine AC Z Z (MS 8 rfl ((by simpa using hE)) (Aj Z Z Z Z (Aj Z Z Z Z ?_)));refine Aj Z Z Z Z (J (EB Z Z Z Z) (AH (Dg Z Z (AF (AJ (AD Z Z (AH (Af ?_))))))));exact ⟨_,[],[],Ae rfl,rfl,rfl,rfl,rfl⟩
end Go.Proofs.YtnkkaeblokdifaaGreat
