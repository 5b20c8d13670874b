/- The kit's contract of slices.SortFunc laid at this program: the renumbering and its facts. Made by program (lays.py). -/
import Derived.Test.YtnkkaeblokdifaaGreatMg15
import Derived.Shelf.SlLaysF
import Derived.Shelf.SlLaysF0
import Derived.Shelf.SlLaysNS
import Derived.Test.YtnkkaeblokdifaaGreatProg
namespace Go.Proofs.YtnkkaeblokdifaaGreat
open Go.Shelf Go.Proofs Go.Proofs.Tryz
def renI:Go.Shelf.Ren:=⟨fun x=>match x with
 | 6=>147
 | 15=>72
 | 14=>185
 | 28=>133
 | 29=>134
 | 20=>213
 | 21=>214
 | 22=>215
 | 23=>216
 | 24=>217
 | 25=>218
 | 26=>219
 | 27=>220
 | 46=>240
 | 47=>170
 | 48=>171
 | 49=>241
 | 50=>242
 | 57=>250
 | x=>x,
 fun x=>match x with
 | 22=>29
 | 24=>49
 | 25=>259
 | 3=>3
 | 39=>155
 | 0=>0
 | 53=>79
 | 55=>246
 | 4=>4
 | 46=>239
 | 45=>238
 | 50=>191
 | 5=>5
 | 9=>9
 | 66=>276
 | 70=>280
 | 76=>308
 | 77=>309
 | x=>x,fun x=>x⟩
theorem laysI:SlLaysF0.n6 Tryz.prog renI where
 mixed:=rfl
 f6:=⟨Tryz.f147.name,by decide,Tryz.func147.trans (congrArg some (by kernel_rfl))⟩
 f14:=⟨Tryz.f185.name,by decide,Tryz.func185.trans (congrArg some (by kernel_rfl))⟩
 f15:=Tryz.func72.trans (congrArg some (by kernel_rfl))
 f20:=⟨Tryz.f213.name,by decide,Tryz.func213.trans (congrArg some (by kernel_rfl))⟩
 f21:=⟨Tryz.f214.name,by decide,Tryz.func214.trans (congrArg some (by kernel_rfl))⟩
 f22:=⟨Tryz.f215.name,by decide,Tryz.func215.trans (congrArg some (by kernel_rfl))⟩
 f23:=⟨Tryz.f216.name,by decide,Tryz.func216.trans (congrArg some (by kernel_rfl))⟩
 f24:=⟨Tryz.f217.name,by decide,Tryz.func217.trans (congrArg some (by kernel_rfl))⟩
 f25:=⟨Tryz.f218.name,by decide,Tryz.func218.trans (congrArg some (by kernel_rfl))⟩
 f26:=⟨Tryz.f219.name,by decide,Tryz.func219.trans (congrArg some (by kernel_rfl))⟩
 f27:=⟨Tryz.f220.name,by decide,Tryz.func220.trans (congrArg some (by kernel_rfl))⟩
 f28:=Tryz.func133.trans (congrArg some (by kernel_rfl))
 f29:=Tryz.func134.trans (congrArg some (by kernel_rfl))
 f46:=⟨Tryz.f240.name,by decide,Tryz.func240.trans (congrArg some (by kernel_rfl))⟩
 f47:=Tryz.func170.trans (congrArg some (by kernel_rfl))
 f48:=Tryz.func171.trans (congrArg some (by kernel_rfl))
 f49:=⟨Tryz.f241.name,by decide,Tryz.func241.trans (congrArg some (by kernel_rfl))⟩
 f50:=⟨Tryz.f242.name,by decide,Tryz.func242.trans (congrArg some (by kernel_rfl))⟩
 f57:=⟨Tryz.f250.name,by decide,Tryz.func250.trans (congrArg some (by kernel_rfl))⟩
 t0:=Tryz.underlying0
 a0:=Tryz.isAgg0
 z0:=Tryz.sizeOf0
 v0:=Tryz.zeroValue0
 t3:=Tryz.underlying3
 a3:=Tryz.isAgg3
 z3:=Tryz.sizeOf3
 v3:=Tryz.zeroValue3
 t4:=Tryz.underlying4
 a4:=Tryz.isAgg4
 z4:=Tryz.sizeOf4
 v4:=Tryz.zeroValue4
 t5:=Tryz.underlying5
 a5:=Tryz.isAgg5
 z5:=Tryz.sizeOf5
 v5:=Tryz.zeroValue5
 t9:=Tryz.underlying9
 a9:=Tryz.isAgg9
 z9:=Tryz.sizeOf9
 v9:=Tryz.zeroValue9
 t22:=Tryz.underlying29
 a22:=Tryz.isAgg29
 z22:=Tryz.sizeOf29
 v22:=Tryz.zeroValue29
 t25:=Tryz.underlying259
 a25:=Tryz.isAgg259
 z25:=Tryz.sizeOf259
 v25:=Tryz.zeroValue259
 t39:=Tryz.underlying155
 a39:=Tryz.isAgg155
 z39:=Tryz.sizeOf155
 v39:=Tryz.zeroValue155
 t45:=Tryz.underlying238
 a45:=Tryz.isAgg238
 z45:=Tryz.sizeOf238
 v45:=Tryz.zeroValue238
 t46:=Tryz.underlying239
 a46:=Tryz.isAgg239
 z46:=Tryz.sizeOf239
 v46:=Tryz.zeroValue239
 t50:=Tryz.underlying191
 a50:=Tryz.isAgg191
 z50:=Tryz.sizeOf191
 v50:=Tryz.zeroValue191
 t53:=Tryz.underlying79
 a53:=Tryz.isAgg79
 z53:=Tryz.sizeOf79
 v53:=Tryz.zeroValue79
 t55:=Tryz.underlying246
 a55:=Tryz.isAgg246
 z55:=Tryz.sizeOf246
 v55:=Tryz.zeroValue246
 t66:=Tryz.underlying276
 a66:=Tryz.isAgg276
 z66:=Tryz.sizeOf276
 v66:=Tryz.zeroValue276
 t70:=Tryz.underlying280
 a70:=Tryz.isAgg280
 z70:=Tryz.sizeOf280
 v70:=Tryz.zeroValue280
 t76:=Tryz.underlying308
 a76:=Tryz.isAgg308
 z76:=Tryz.sizeOf308
 v76:=Tryz.zeroValue308
 t77:=Tryz.underlying309
 a77:=Tryz.isAgg309
 z77:=Tryz.sizeOf309
 v77:=Tryz.zeroValue309
def renD:Go.Shelf.Ren:=⟨fun x=>match x with
 | 6=>31
 | 15=>72
 | 14=>71
 | 28=>133
 | 29=>134
 | 20=>125
 | 21=>126
 | 22=>127
 | 23=>128
 | 24=>129
 | 25=>130
 | 26=>131
 | 27=>132
 | 46=>169
 | 47=>170
 | 48=>171
 | 49=>172
 | 50=>173
 | 57=>207
 | x=>x,
 fun x=>match x with
 | 22=>44
 | 24=>55
 | 25=>93
 | 3=>3
 | 39=>155
 | 0=>0
 | 53=>79
 | 55=>246
 | 4=>4
 | 46=>239
 | 45=>238
 | 50=>191
 | 5=>5
 | 9=>9
 | 66=>276
 | 70=>280
 | 76=>308
 | 77=>309
 | x=>x,fun x=>x⟩
theorem laysD:SlLaysF0.n6 Tryz.prog renD where
 mixed:=rfl
 f6:=⟨Tryz.f31.name,by decide,Tryz.func31.trans (congrArg some (by kernel_rfl))⟩
 f14:=⟨Tryz.f71.name,by decide,Tryz.func71.trans (congrArg some (by kernel_rfl))⟩
 f15:=Tryz.func72.trans (congrArg some (by kernel_rfl))
 f20:=⟨Tryz.f125.name,by decide,Tryz.func125.trans (congrArg some (by kernel_rfl))⟩
 f21:=⟨Tryz.f126.name,by decide,Tryz.func126.trans (congrArg some (by kernel_rfl))⟩
 f22:=⟨Tryz.f127.name,by decide,Tryz.func127.trans (congrArg some (by kernel_rfl))⟩
 f23:=⟨Tryz.f128.name,by decide,Tryz.func128.trans (congrArg some (by kernel_rfl))⟩
 f24:=⟨Tryz.f129.name,by decide,Tryz.func129.trans (congrArg some (by kernel_rfl))⟩
 f25:=⟨Tryz.f130.name,by decide,Tryz.func130.trans (congrArg some (by kernel_rfl))⟩
 f26:=⟨Tryz.f131.name,by decide,Tryz.func131.trans (congrArg some (by kernel_rfl))⟩
 f27:=⟨Tryz.f132.name,by decide,Tryz.func132.trans (congrArg some (by kernel_rfl))⟩
 f28:=Tryz.func133.trans (congrArg some (by kernel_rfl))
 f29:=Tryz.func134.trans (congrArg some (by kernel_rfl))
 f46:=⟨Tryz.f169.name,by decide,Tryz.func169.trans (congrArg some (by kernel_rfl))⟩
 f47:=Tryz.func170.trans (congrArg some (by kernel_rfl))
 f48:=Tryz.func171.trans (congrArg some (by kernel_rfl))
 f49:=⟨Tryz.f172.name,by decide,Tryz.func172.trans (congrArg some (by kernel_rfl))⟩
 f50:=⟨Tryz.f173.name,by decide,Tryz.func173.trans (congrArg some (by kernel_rfl))⟩
 f57:=⟨Tryz.f207.name,by decide,Tryz.func207.trans (congrArg some (by kernel_rfl))⟩
 t0:=Tryz.underlying0
 a0:=Tryz.isAgg0
 z0:=Tryz.sizeOf0
 v0:=Tryz.zeroValue0
 t3:=Tryz.underlying3
 a3:=Tryz.isAgg3
 z3:=Tryz.sizeOf3
 v3:=Tryz.zeroValue3
 t4:=Tryz.underlying4
 a4:=Tryz.isAgg4
 z4:=Tryz.sizeOf4
 v4:=Tryz.zeroValue4
 t5:=Tryz.underlying5
 a5:=Tryz.isAgg5
 z5:=Tryz.sizeOf5
 v5:=Tryz.zeroValue5
 t9:=Tryz.underlying9
 a9:=Tryz.isAgg9
 z9:=Tryz.sizeOf9
 v9:=Tryz.zeroValue9
 t22:=Tryz.underlying44
 a22:=Tryz.isAgg44
 z22:=Tryz.sizeOf44
 v22:=Tryz.zeroValue44
 t25:=Tryz.underlying93
 a25:=Tryz.isAgg93
 z25:=Tryz.sizeOf93
 v25:=Tryz.zeroValue93
 t39:=Tryz.underlying155
 a39:=Tryz.isAgg155
 z39:=Tryz.sizeOf155
 v39:=Tryz.zeroValue155
 t45:=Tryz.underlying238
 a45:=Tryz.isAgg238
 z45:=Tryz.sizeOf238
 v45:=Tryz.zeroValue238
 t46:=Tryz.underlying239
 a46:=Tryz.isAgg239
 z46:=Tryz.sizeOf239
 v46:=Tryz.zeroValue239
 t50:=Tryz.underlying191
 a50:=Tryz.isAgg191
 z50:=Tryz.sizeOf191
 v50:=Tryz.zeroValue191
 t53:=Tryz.underlying79
 a53:=Tryz.isAgg79
 z53:=Tryz.sizeOf79
 v53:=Tryz.zeroValue79
 t55:=Tryz.underlying246
 a55:=Tryz.isAgg246
 z55:=Tryz.sizeOf246
 v55:=Tryz.zeroValue246
 t66:=Tryz.underlying276
 a66:=Tryz.isAgg276
 z66:=Tryz.sizeOf276
 v66:=Tryz.zeroValue276
 t70:=Tryz.underlying280
 a70:=Tryz.isAgg280
 z70:=Tryz.sizeOf280
 v70:=Tryz.zeroValue280
 t76:=Tryz.underlying308
 a76:=Tryz.isAgg308
 z76:=Tryz.sizeOf308
 v76:=Tryz.zeroValue308
 t77:=Tryz.underlying309
 a77:=Tryz.isAgg309
 z77:=Tryz.sizeOf309
 v77:=Tryz.zeroValue309
def renLn:Go.Shelf.Ren:=⟨fun x=>match x with
 | 6=>116
 | 15=>72
 | 14=>161
 | 28=>133
 | 29=>134
 | 20=>197
 | 21=>198
 | 22=>199
 | 23=>200
 | 24=>201
 | 25=>202
 | 26=>203
 | 27=>204
 | 46=>227
 | 47=>170
 | 48=>171
 | 49=>228
 | 50=>229
 | 57=>246
 | x=>x,
 fun x=>match x with
 | 22=>213
 | 24=>218
 | 25=>220
 | 3=>3
 | 39=>155
 | 0=>0
 | 53=>79
 | 55=>246
 | 4=>4
 | 46=>239
 | 45=>238
 | 50=>191
 | 5=>5
 | 9=>9
 | 66=>276
 | 70=>280
 | 76=>308
 | 77=>309
 | x=>x,fun x=>x⟩
theorem laysLn:SlLaysF0.n6 Tryz.prog renLn where
 mixed:=rfl
 f6:=⟨Tryz.f116.name,by decide,Tryz.func116.trans (congrArg some (by kernel_rfl))⟩
 f14:=⟨Tryz.f161.name,by decide,Tryz.func161.trans (congrArg some (by kernel_rfl))⟩
 f15:=Tryz.func72.trans (congrArg some (by kernel_rfl))
 f20:=⟨Tryz.f197.name,by decide,Tryz.func197.trans (congrArg some (by kernel_rfl))⟩
 f21:=⟨Tryz.f198.name,by decide,Tryz.func198.trans (congrArg some (by kernel_rfl))⟩
 f22:=⟨Tryz.f199.name,by decide,Tryz.func199.trans (congrArg some (by kernel_rfl))⟩
 f23:=⟨Tryz.f200.name,by decide,Tryz.func200.trans (congrArg some (by kernel_rfl))⟩
 f24:=⟨Tryz.f201.name,by decide,Tryz.func201.trans (congrArg some (by kernel_rfl))⟩
 f25:=⟨Tryz.f202.name,by decide,Tryz.func202.trans (congrArg some (by kernel_rfl))⟩
 f26:=⟨Tryz.f203.name,by decide,Tryz.func203.trans (congrArg some (by kernel_rfl))⟩
 f27:=⟨Tryz.f204.name,by decide,Tryz.func204.trans (congrArg some (by kernel_rfl))⟩
 f28:=Tryz.func133.trans (congrArg some (by kernel_rfl))
 f29:=Tryz.func134.trans (congrArg some (by kernel_rfl))
 f46:=⟨Tryz.f227.name,by decide,Tryz.func227.trans (congrArg some (by kernel_rfl))⟩
 f47:=Tryz.func170.trans (congrArg some (by kernel_rfl))
 f48:=Tryz.func171.trans (congrArg some (by kernel_rfl))
 f49:=⟨Tryz.f228.name,by decide,Tryz.func228.trans (congrArg some (by kernel_rfl))⟩
 f50:=⟨Tryz.f229.name,by decide,Tryz.func229.trans (congrArg some (by kernel_rfl))⟩
 f57:=⟨Tryz.f246.name,by decide,Tryz.func246.trans (congrArg some (by kernel_rfl))⟩
 t0:=Tryz.underlying0
 a0:=Tryz.isAgg0
 z0:=Tryz.sizeOf0
 v0:=Tryz.zeroValue0
 t3:=Tryz.underlying3
 a3:=Tryz.isAgg3
 z3:=Tryz.sizeOf3
 v3:=Tryz.zeroValue3
 t4:=Tryz.underlying4
 a4:=Tryz.isAgg4
 z4:=Tryz.sizeOf4
 v4:=Tryz.zeroValue4
 t5:=Tryz.underlying5
 a5:=Tryz.isAgg5
 z5:=Tryz.sizeOf5
 v5:=Tryz.zeroValue5
 t9:=Tryz.underlying9
 a9:=Tryz.isAgg9
 z9:=Tryz.sizeOf9
 v9:=Tryz.zeroValue9
 t22:=Tryz.underlying213
 a22:=Tryz.isAgg213
 z22:=Tryz.sizeOf213
 v22:=Tryz.zeroValue213
 t25:=Tryz.underlying220
 a25:=Tryz.isAgg220
 z25:=Tryz.sizeOf220
 v25:=Tryz.zeroValue220
 t39:=Tryz.underlying155
 a39:=Tryz.isAgg155
 z39:=Tryz.sizeOf155
 v39:=Tryz.zeroValue155
 t45:=Tryz.underlying238
 a45:=Tryz.isAgg238
 z45:=Tryz.sizeOf238
 v45:=Tryz.zeroValue238
 t46:=Tryz.underlying239
 a46:=Tryz.isAgg239
 z46:=Tryz.sizeOf239
 v46:=Tryz.zeroValue239
 t50:=Tryz.underlying191
 a50:=Tryz.isAgg191
 z50:=Tryz.sizeOf191
 v50:=Tryz.zeroValue191
 t53:=Tryz.underlying79
 a53:=Tryz.isAgg79
 z53:=Tryz.sizeOf79
 v53:=Tryz.zeroValue79
 t55:=Tryz.underlying246
 a55:=Tryz.isAgg246
 z55:=Tryz.sizeOf246
 v55:=Tryz.zeroValue246
 t66:=Tryz.underlying276
 a66:=Tryz.isAgg276
 z66:=Tryz.sizeOf276
 v66:=Tryz.zeroValue276
 t70:=Tryz.underlying280
 a70:=Tryz.isAgg280
 z70:=Tryz.sizeOf280
 v70:=Tryz.zeroValue280
 t76:=Tryz.underlying308
 a76:=Tryz.isAgg308
 z76:=Tryz.sizeOf308
 v76:=Tryz.zeroValue308
 t77:=Tryz.underlying309
 a77:=Tryz.isAgg309
 z77:=Tryz.sizeOf309
 v77:=Tryz.zeroValue309
def renS:Go.Shelf.Ren:=⟨fun x=>match x with
 | 53=>163
 | 64=>72
 | 63=>206
 | 78=>133
 | 79=>134
 | 70=>230
 | 71=>231
 | 72=>232
 | 73=>233
 | 74=>234
 | 75=>235
 | 59=>165
 | 76=>236
 | 77=>237
 | 88=>247
 | 89=>170
 | 90=>171
 | 91=>248
 | 92=>249
 | 68=>135
 | 96=>251
 | x=>x,
 fun x=>match x with
 | 22=>33
 | 23=>3
 | 3=>3
 | 51=>155
 | 0=>0
 | 67=>79
 | 69=>246
 | 4=>4
 | 61=>239
 | 60=>238
 | 44=>191
 | 5=>5
 | 9=>9
 | 75=>276
 | 79=>280
 | 83=>308
 | 84=>309
 | x=>x,fun x=>x⟩
theorem laysS:SlLaysN.n53 Tryz.prog renS where
 mixed:=rfl
 f53:=⟨Tryz.f163.name,by decide,Tryz.func163.trans (congrArg some (by kernel_rfl))⟩
 f59:=⟨Tryz.f165.name,by decide,Tryz.func165.trans (congrArg some (by kernel_rfl))⟩
 f63:=⟨Tryz.f206.name,by decide,Tryz.func206.trans (congrArg some (by kernel_rfl))⟩
 f64:=Tryz.func72.trans (congrArg some (by kernel_rfl))
 f68:=⟨Tryz.f135.name,by decide,Tryz.func135.trans (congrArg some (by kernel_rfl))⟩
 f70:=⟨Tryz.f230.name,by decide,Tryz.func230.trans (congrArg some (by kernel_rfl))⟩
 f71:=⟨Tryz.f231.name,by decide,Tryz.func231.trans (congrArg some (by kernel_rfl))⟩
 f72:=⟨Tryz.f232.name,by decide,Tryz.func232.trans (congrArg some (by kernel_rfl))⟩
 f73:=⟨Tryz.f233.name,by decide,Tryz.func233.trans (congrArg some (by kernel_rfl))⟩
 f74:=⟨Tryz.f234.name,by decide,Tryz.func234.trans (congrArg some (by kernel_rfl))⟩
 f75:=⟨Tryz.f235.name,by decide,Tryz.func235.trans (congrArg some (by kernel_rfl))⟩
 f76:=⟨Tryz.f236.name,by decide,Tryz.func236.trans (congrArg some (by kernel_rfl))⟩
 f77:=⟨Tryz.f237.name,by decide,Tryz.func237.trans (congrArg some (by kernel_rfl))⟩
 f78:=Tryz.func133.trans (congrArg some (by kernel_rfl))
 f79:=Tryz.func134.trans (congrArg some (by kernel_rfl))
 f88:=⟨Tryz.f247.name,by decide,Tryz.func247.trans (congrArg some (by kernel_rfl))⟩
 f89:=Tryz.func170.trans (congrArg some (by kernel_rfl))
 f90:=Tryz.func171.trans (congrArg some (by kernel_rfl))
 f91:=⟨Tryz.f248.name,by decide,Tryz.func248.trans (congrArg some (by kernel_rfl))⟩
 f92:=⟨Tryz.f249.name,by decide,Tryz.func249.trans (congrArg some (by kernel_rfl))⟩
 f96:=⟨Tryz.f251.name,by decide,Tryz.func251.trans (congrArg some (by kernel_rfl))⟩
 t0:=Tryz.underlying0
 a0:=Tryz.isAgg0
 z0:=Tryz.sizeOf0
 v0:=Tryz.zeroValue0
 t3:=Tryz.underlying3
 a3:=Tryz.isAgg3
 z3:=Tryz.sizeOf3
 v3:=Tryz.zeroValue3
 t4:=Tryz.underlying4
 a4:=Tryz.isAgg4
 z4:=Tryz.sizeOf4
 v4:=Tryz.zeroValue4
 t5:=Tryz.underlying5
 a5:=Tryz.isAgg5
 z5:=Tryz.sizeOf5
 v5:=Tryz.zeroValue5
 t9:=Tryz.underlying9
 a9:=Tryz.isAgg9
 z9:=Tryz.sizeOf9
 v9:=Tryz.zeroValue9
 t22:=Tryz.underlying33
 a22:=Tryz.isAgg33
 z22:=Tryz.sizeOf33
 v22:=Tryz.zeroValue33
 t23:=Tryz.underlying3
 a23:=Tryz.isAgg3
 z23:=Tryz.sizeOf3
 v23:=Tryz.zeroValue3
 t44:=Tryz.underlying191
 a44:=Tryz.isAgg191
 z44:=Tryz.sizeOf191
 v44:=Tryz.zeroValue191
 t51:=Tryz.underlying155
 a51:=Tryz.isAgg155
 z51:=Tryz.sizeOf155
 v51:=Tryz.zeroValue155
 t60:=Tryz.underlying238
 a60:=Tryz.isAgg238
 z60:=Tryz.sizeOf238
 v60:=Tryz.zeroValue238
 t61:=Tryz.underlying239
 a61:=Tryz.isAgg239
 z61:=Tryz.sizeOf239
 v61:=Tryz.zeroValue239
 t67:=Tryz.underlying79
 a67:=Tryz.isAgg79
 z67:=Tryz.sizeOf79
 v67:=Tryz.zeroValue79
 t69:=Tryz.underlying246
 a69:=Tryz.isAgg246
 z69:=Tryz.sizeOf246
 v69:=Tryz.zeroValue246
 t75:=Tryz.underlying276
 a75:=Tryz.isAgg276
 z75:=Tryz.sizeOf276
 v75:=Tryz.zeroValue276
 t79:=Tryz.underlying280
 a79:=Tryz.isAgg280
 z79:=Tryz.sizeOf280
 v79:=Tryz.zeroValue280
 t83:=Tryz.underlying308
 a83:=Tryz.isAgg308
 z83:=Tryz.sizeOf308
 v83:=Tryz.zeroValue308
 t84:=Tryz.underlying309
 a84:=Tryz.isAgg309
 z84:=Tryz.sizeOf309
 v84:=Tryz.zeroValue309
def renPo:Go.Shelf.Ren:=⟨fun x=>match x with
 | 6=>77
 | 15=>72
 | 14=>139
 | 28=>133
 | 29=>134
 | 20=>174
 | 21=>175
 | 22=>176
 | 23=>177
 | 24=>178
 | 25=>179
 | 26=>180
 | 27=>181
 | 46=>208
 | 47=>170
 | 48=>171
 | 49=>209
 | 50=>210
 | 57=>238
 | x=>x,
 fun x=>match x with
 | 22=>100
 | 24=>109
 | 25=>161
 | 3=>3
 | 39=>155
 | 0=>0
 | 53=>79
 | 55=>246
 | 4=>4
 | 46=>239
 | 45=>238
 | 50=>191
 | 5=>5
 | 9=>9
 | 66=>276
 | 70=>280
 | 76=>308
 | 77=>309
 | x=>x,fun x=>x⟩
theorem laysPo:SlLaysF.n6 Tryz.prog renPo where
 mixed:=rfl
 f6:=⟨Tryz.f77.name,by decide,Tryz.func77.trans (congrArg some (by kernel_rfl))⟩
 f14:=⟨Tryz.f139.name,by decide,Tryz.func139.trans (congrArg some (by kernel_rfl))⟩
 f15:=Tryz.func72.trans (congrArg some (by kernel_rfl))
 f20:=⟨Tryz.f174.name,by decide,Tryz.func174.trans (congrArg some (by kernel_rfl))⟩
 f21:=⟨Tryz.f175.name,by decide,Tryz.func175.trans (congrArg some (by kernel_rfl))⟩
 f22:=⟨Tryz.f176.name,by decide,Tryz.func176.trans (congrArg some (by kernel_rfl))⟩
 f23:=⟨Tryz.f177.name,by decide,Tryz.func177.trans (congrArg some (by kernel_rfl))⟩
 f24:=⟨Tryz.f178.name,by decide,Tryz.func178.trans (congrArg some (by kernel_rfl))⟩
 f25:=⟨Tryz.f179.name,by decide,Tryz.func179.trans (congrArg some (by kernel_rfl))⟩
 f26:=⟨Tryz.f180.name,by decide,Tryz.func180.trans (congrArg some (by kernel_rfl))⟩
 f27:=⟨Tryz.f181.name,by decide,Tryz.func181.trans (congrArg some (by kernel_rfl))⟩
 f28:=Tryz.func133.trans (congrArg some (by kernel_rfl))
 f29:=Tryz.func134.trans (congrArg some (by kernel_rfl))
 f46:=⟨Tryz.f208.name,by decide,Tryz.func208.trans (congrArg some (by kernel_rfl))⟩
 f47:=Tryz.func170.trans (congrArg some (by kernel_rfl))
 f48:=Tryz.func171.trans (congrArg some (by kernel_rfl))
 f49:=⟨Tryz.f209.name,by decide,Tryz.func209.trans (congrArg some (by kernel_rfl))⟩
 f50:=⟨Tryz.f210.name,by decide,Tryz.func210.trans (congrArg some (by kernel_rfl))⟩
 f57:=⟨Tryz.f238.name,by decide,Tryz.func238.trans (congrArg some (by kernel_rfl))⟩
 t0:=Tryz.underlying0
 a0:=Tryz.isAgg0
 z0:=Tryz.sizeOf0
 v0:=Tryz.zeroValue0
 t3:=Tryz.underlying3
 a3:=Tryz.isAgg3
 z3:=Tryz.sizeOf3
 v3:=Tryz.zeroValue3
 t4:=Tryz.underlying4
 a4:=Tryz.isAgg4
 z4:=Tryz.sizeOf4
 v4:=Tryz.zeroValue4
 t5:=Tryz.underlying5
 a5:=Tryz.isAgg5
 z5:=Tryz.sizeOf5
 v5:=Tryz.zeroValue5
 t9:=Tryz.underlying9
 a9:=Tryz.isAgg9
 z9:=Tryz.sizeOf9
 v9:=Tryz.zeroValue9
 t22:=Tryz.underlying100
 a22:=Tryz.isAgg100
 z22:=Tryz.sizeOf100
 v22:=Tryz.zeroValue100
 a24:=Tryz.isAgg109
 z24:=Tryz.sizeOf109
 t25:=Tryz.underlying161
 a25:=Tryz.isAgg161
 z25:=Tryz.sizeOf161
 v25:=Tryz.zeroValue161
 t39:=Tryz.underlying155
 a39:=Tryz.isAgg155
 z39:=Tryz.sizeOf155
 v39:=Tryz.zeroValue155
 t45:=Tryz.underlying238
 a45:=Tryz.isAgg238
 z45:=Tryz.sizeOf238
 v45:=Tryz.zeroValue238
 t46:=Tryz.underlying239
 a46:=Tryz.isAgg239
 z46:=Tryz.sizeOf239
 v46:=Tryz.zeroValue239
 t50:=Tryz.underlying191
 a50:=Tryz.isAgg191
 z50:=Tryz.sizeOf191
 v50:=Tryz.zeroValue191
 t53:=Tryz.underlying79
 a53:=Tryz.isAgg79
 z53:=Tryz.sizeOf79
 v53:=Tryz.zeroValue79
 t55:=Tryz.underlying246
 a55:=Tryz.isAgg246
 z55:=Tryz.sizeOf246
 v55:=Tryz.zeroValue246
 t66:=Tryz.underlying276
 a66:=Tryz.isAgg276
 z66:=Tryz.sizeOf276
 v66:=Tryz.zeroValue276
 t70:=Tryz.underlying280
 a70:=Tryz.isAgg280
 z70:=Tryz.sizeOf280
 v70:=Tryz.zeroValue280
 t76:=Tryz.underlying308
 a76:=Tryz.isAgg308
 z76:=Tryz.sizeOf308
 v76:=Tryz.zeroValue308
 t77:=Tryz.underlying309
 a77:=Tryz.isAgg309
 z77:=Tryz.sizeOf309
 v77:=Tryz.zeroValue309
end Go.Proofs.YtnkkaeblokdifaaGreat
/- Layer 28: an item's check; the order of resources and of items. -/
namespace Go.Proofs.YtnkkaeblokdifaaGreat
open Go.RowKit
set_option maxRecDepth 100000
def R4 (i:AU):Int:=if ∃x∈sumL (ctr i),¬(-Mx≤x.2∧x.2≤Mx) then 12 else 0
theorem bnd_bad {i:AU} {j:Nat} {r:A5} {v:Int} (hm:(sumL (ctr i))[j]?=some (r,v)) (hv:¬(-Mx≤v∧v≤Mx)):(12:Int)=R4 i:=by
 unfold R4;rw [if_pos ⟨_,List.mem_of_getElem? hm,hv⟩]
theorem bnd_ok {i:AU} (h:∀x∈sumL (ctr i),-Mx≤x.2∧x.2≤Mx):(0:Int)=R4 i:=by
 unfold R4;rw [if_neg];rintro ⟨x,hx,hn⟩;exact hn (h x hx)
theorem Vc (i:AU) (hi:ItmB i):AT Tryz.prog 70 [.d (BC i)] (AF (R4 i)):=by
 obtain ⟨M,hMM⟩:∃M,sumL (ctr i)=M:=⟨_,rfl⟩
 have hs:=(Rw i hi).by [(2,20)] rfl;rw [hMM] at hs;refine B6 Tryz.func70 Z Z Tryz.ntmps70 Z Z Z fun F hF=>(AG (AJ (G (CV 1 Z Z Z Z Z Z Z) (AD Z Z (AI (AG (AG (AJ ?_))))))))
 first | refine J (At Z Z Ag rfl) ?_ | refine J (Au Z Z Ag Z Z Z) ?_ | refine J (Av Z Z (rfl) rfl Ag rfl) ?_
 refine G (IL hs rfl [20] ⟨rfl,trivial⟩ Z Z Z Z Z Z Z Z Z) (G (JU 2 Z Z Z Gr Z Z Z Z) (AI (Aw (EN (α:=List Nat) (fun seen=>⟨15,[(7,(.ptr 2 0 0))],[(2,[.iter 20 0 M.length seen]),(20,[CD E1 AF M])]⟩) (fun seen=>∀x∈M,x∈EJ M (List.range M.length) seen∨(-Mx≤x.2∧x.2≤Mx)) (fun seen=>(EJ M (List.range M.length) seen).length) ([]) (fun x hx=> .inl (by rw [Hu (by simp)];exact hx)) (BS hF [2,20] Z Z ⟨rfl,trivial⟩) ?_))));intro seen hI;refine AG (AJ (PQ (M) Z Z Z Z (fun hl8=>?_) (fun j8 b8 k8 v8 hm8 hb8 hB8 hp8=>⟨_,rfl,?_⟩)))
 ·first | refine J (BU Z Z Z) ?_ | refine J (BV Z Z Z) ?_
  refine AI (AG (F4 Z Z (Ct (AG (AJ (AD Z Z (AI (Af ?_))))))));exact ⟨_,[],[],Ae rfl,rfl,rfl,Ak (bnd_ok fun x hx=>by rw [hMM] at hx;exact (hI x hx).elim (fun h=>by rw [hl8] at h;cases h) id),rfl⟩
 ·first | refine J (BU Z Z Z) ?_ | refine J (BV Z Z Z) ?_
  refine AI (AG (EL Z Z (An (Aw (AG (AJ (J (JW (M) j8 b8 Z Z Z hm8 hb8 rfl) ?_)))))))
  first | refine J (BU Z Z Z) ?_ | refine J (BV Z Z Z) ?_
  refine AD Z Z (AI (AG (AJ (AC Z Z (J (BO (GR v8 (-1000000000000000) 1000000000000000) Z Z) ?_)))))
  first | refine J (G9 Z Z) ?_ | refine J (GJ Z Z) ?_
  refine AI ?_
  first | refine BP rfl (fun h14=>?_) (fun h14=>?_) | refine BK rfl (fun h14=>?_) (fun h14=>?_)
  ·refine AG (AJ (AD Z Z (AI (Af ?_))));exact ⟨_,[],[],Ae rfl,rfl,rfl,Ak (bnd_bad (by rw [hMM];exact hm8) (by simpa [Mx] using h14)),rfl⟩
  ·refine An ?_;exact ⟨seen++ [b8],fun x hx=>(hI x hx).elim (fun h=>(List.mem_cons.1 (hp8.mem_iff.1 h)).elim (fun e=> .inr (by rw [e];simpa [Mx] using h14)) .inl) .inr,by rw [hp8.length_eq];exact Nat.lt_succ_self _,BS hF [2,20] rfl (rfl) ⟨rfl,trivial⟩⟩
theorem YU {α:Type} {l:List α} {f:α ->Int}:Bi (l.map f)=0↔∀x∈l,f x=0:=by
 induction l with
 | nil=>simp [Bi]
 | cons a l ih=>
  simp only [List.map_cons,Bi]
  split
  ·rename_i h;simp [ih,h]
  ·rename_i h;simp [h]
def Ps (i:AU):List (FuncId×Int):=[(66,Nz i),(67,Ux i),(68,aftE i),(69,Sz i),(70,R4 i)]
def B9 (i:AU):Int:=if ¬(0≤i.id∧i.id≤1000000000)∨¬(0≤i.sq∧i.sq≤1000000000)∨¬(0≤i.pr∧i.pr≤2) then 2 else if 256<i.po.length∨256<i.pa.length∨256<i.af.length then 8 else Bi ((Ps i).map Prod.snd)
theorem S0 {i:AU} (h:Nz i=0):∀p∈i.po,-Mx≤p.d∧p.d≤Mx:=fun p hp=>by
 have:=YU.1 h p hp;unfold Q4 at this
 split at this; · cases this
 split at this; · cases this
 split at this; · cases this
 rename_i h;exact Decidable.of_not_not h
theorem pay_b {i:AU} (h:Ux i=0):∀p∈i.pa,0≤p.n∧p.n≤Mx:=fun p hp=>by
 have:=YU.1 h p hp;unfold Py at this
 split at this; · cases this
 split at this; · cases this
 split at this; · cases this
 rename_i h;exact Decidable.of_not_not h
theorem fns_p (i:AU) (h1:i.po.length≤256) (h2:i.pa.length≤256) (h3:i.af.length≤256) {k:Nat} (hk:k<(Ps i).length) (h0:∀j,j<k ->((Ps i)[j]?).map Prod.snd=some 0):AT Tryz.prog (Ps i)[k].1 [.d (BC i)] (AF (Ps i)[k].2):=by
 match k,hk with
 | 0,_=>exact SZ i (by omega)
 | 1,_=>exact S3 i (by omega)
 | 2,_=>exact after_p i (by omega)
 | 3,_=>exact Sy i h1 (S0 (by have:=h0 0 (by omega);simpa [Ps] using this))
 | 4,_=>exact Vc i ⟨h1,h2,h3,S0 (by have:=h0 0 (by omega);simpa [Ps] using this),pay_b (by have:=h0 1 (by omega);simpa [Ps] using this)⟩
def fnD (i:AU) (p:FuncId×Int):D:= .fn p.1 [BC i] []
theorem Jy (i:AU) (g1:i.po.length≤140737488355328) (g2:i.pa.length≤140737488355328) (g3:i.af.length≤140737488355328):AT Tryz.prog 29 [.d (BC i)] (AF (B9 i)):=by
 refine B6 Tryz.func29 Z Z Tryz.ntmps29 Z Z Z fun F hF=>?_;refine AG (AJ (G (CV 1 Z Z Z Z Z Z Z) (AD Z Z (AI (AG (Aw (AG (AJ ?_))))))))
 first | refine J (AO rfl Bq Z Z Z) ?_ | refine J (AQ rfl Bq Z Z Z) ?_ | refine J (AR rfl Bq Z Z Z) ?_ | refine J (AP rfl Bq Z Z Z) ?_ | refine J (AN rfl Bq Z Z Z) ?_
 first | refine J (A0 Z Z Aa rfl) ?_ | refine J (AX Z Z Z Aa rfl) ?_ | refine J (AZ Z Z (rfl) rfl Aa rfl) ?_
 refine J (BO (Gw _ _ _) Z Z) ?_
 first | refine J (G9 Z Z) ?_ | refine J (GJ Z Z) ?_
 refine AC Z Z ?_
 first | refine JH 11 rfl (fun h11=>?_) (fun h11=>?_) | refine IW 11 rfl (fun h11=>?_) (fun h11=>?_)
 ·refine Ac Z Z Z Z ?_;refine Ac Z Z Z Z (Ac Z Z Z Z (Ac Z Z Z Z (J (DX Z Z Z Z) (AC Z Z (Ac Z Z Z Z (Ac Z Z Z Z (Ac Z Z Z Z (Ac Z Z Z Z ?_))))))));refine J (DX Z Z Z Z) (AD Z Z (AI (EL Z Z (AG (AJ (AD Z Z (AI (Af ?_))))))));exact ⟨_,[],[],Ae rfl,rfl,rfl,Ak (by unfold B9;rw [if_pos (by omega)]),rfl⟩
 ·refine A9 Z Z Z ?_
  first | refine J (AO rfl GH Z Z Z) ?_ | refine J (AQ rfl GH Z Z Z) ?_ | refine J (AR rfl GH Z Z Z) ?_ | refine J (AP rfl GH Z Z Z) ?_ | refine J (AN rfl GH Z Z Z) ?_
  refine A9 Z Z Z ?_
  first | refine J (A0 Z Z Aa rfl) ?_ | refine J (AX Z Z Z Aa rfl) ?_ | refine J (AZ Z Z (rfl) rfl Aa rfl) ?_
  refine A9 Z Z Z (J (BO (Gw _ _ _) Z Z) (A9 Z Z Z ?_))
  first | refine J (G9 Z Z) ?_ | refine J (GJ Z Z) ?_
  refine J (EG Z Z Z Z) (AC Z Z ?_)
  first | refine JH 17 rfl (fun h17=>?_) (fun h17=>?_) | refine IW 17 rfl (fun h17=>?_) (fun h17=>?_)
  ·refine Ac Z Z Z Z (Ac Z Z Z Z (Ac Z Z Z Z (Ac Z Z Z Z ?_)));refine J (DX Z Z Z Z) (AD Z Z (AI (EL Z Z (AG (AJ (AD Z Z (AI (Af ?_))))))));exact ⟨_,[],[],Ae rfl,rfl,rfl,Ak (by unfold B9;rw [if_pos (by omega)]),rfl⟩
  ·refine A9 Z Z Z ?_
   first | refine J (AO rfl L1 Z Z Z) ?_ | refine J (AQ rfl L1 Z Z Z) ?_ | refine J (AR rfl L1 Z Z Z) ?_ | refine J (AP rfl L1 Z Z Z) ?_ | refine J (AN rfl L1 Z Z Z) ?_
   refine A9 Z Z Z ?_
   first | refine J (A0 Z Z Aa rfl) ?_ | refine J (AX Z Z Z Aa rfl) ?_ | refine J (AZ Z Z (rfl) rfl Aa rfl) ?_
   refine A9 Z Z Z (J (BO (Gw _ _ _) Z Z) (A9 Z Z Z ?_))
   first | refine J (G9 Z Z) ?_ | refine J (GJ Z Z) ?_
   refine J (EG Z Z Z Z) (AD Z Z (AI ?_))
   first | refine BP rfl (fun h6=>?_) (fun h6=>?_) | refine BK rfl (fun h6=>?_) (fun h6=>?_)
   ·refine AG (AJ (AD Z Z (AI (Af ?_))));exact ⟨_,[],[],Ae rfl,rfl,rfl,Ak (by unfold B9;rw [if_pos (by omega)]),rfl⟩
   ·refine AG (AJ ?_)
    first | refine J (AO rfl Df Z Z Z) ?_ | refine J (AQ rfl Df Z Z Z) ?_ | refine J (AR rfl Df Z Z Z) ?_ | refine J (AP rfl Df Z Z Z) ?_ | refine J (AN rfl Df Z Z Z) ?_
    first | refine J (A0 Z Z F8 rfl) ?_ | refine J (AX Z Z Z F8 rfl) ?_ | refine J (AZ Z Z (rfl) rfl F8 rfl) ?_
    first | refine J (Co rfl Tryz.underlying46 rfl) ?_ | refine J (C1 Z Z Tryz.underlying46 rfl) ?_ | refine J (Cp rfl Tryz.underlying46 rfl) ?_ | refine J (Cn rfl Tryz.underlying46 rfl) ?_ | refine J (Ca rfl Tryz.underlying46 rfl) ?_ | refine J (Ck rfl Tryz.underlying46 rfl) ?_
    first | refine J (DZ Z Z Z) ?_ | refine J (C5 Z Z Z) ?_
    refine AC Z Z ?_
    first | refine JH 28 rfl (fun h28=>?_) (fun h28=>?_) | refine IW 28 rfl (fun h28=>?_) (fun h28=>?_)
    ·refine Ac Z Z Z Z ?_;refine Ac Z Z Z Z (Ac Z Z Z Z (Ac Z Z Z Z (J (DX Z Z Z Z) (AC Z Z (Ac Z Z Z Z (Ac Z Z Z Z (Ac Z Z Z Z (Ac Z Z Z Z ?_))))))));refine J (DX Z Z Z Z) (AD Z Z (AI (EL Z Z (AG (AJ (AD Z Z (AI (Af ?_))))))));exact ⟨_,[],[],Ae rfl,rfl,rfl,Ak (by unfold B9;rw [if_neg (by omega),if_pos (by omega)]),rfl⟩
    ·refine A9 Z Z Z ?_
     first | refine J (AO rfl FN Z Z Z) ?_ | refine J (AQ rfl FN Z Z Z) ?_ | refine J (AR rfl FN Z Z Z) ?_ | refine J (AP rfl FN Z Z Z) ?_ | refine J (AN rfl FN Z Z Z) ?_
     refine A9 Z Z Z ?_
     first | refine J (A0 Z Z Gn rfl) ?_ | refine J (AX Z Z Z Gn rfl) ?_ | refine J (AZ Z Z (rfl) rfl Gn rfl) ?_
     refine A9 Z Z Z ?_
     first | refine J (Co rfl Tryz.underlying47 rfl) ?_ | refine J (C1 Z Z Tryz.underlying47 rfl) ?_ | refine J (Cp rfl Tryz.underlying47 rfl) ?_ | refine J (Cn rfl Tryz.underlying47 rfl) ?_ | refine J (Ca rfl Tryz.underlying47 rfl) ?_ | refine J (Ck rfl Tryz.underlying47 rfl) ?_
     refine A9 Z Z Z ?_
     first | refine J (DZ Z Z Z) ?_ | refine J (C5 Z Z Z) ?_
     refine J (EG Z Z Z Z) (AC Z Z ?_)
     first | refine JH 34 rfl (fun h34=>?_) (fun h34=>?_) | refine IW 34 rfl (fun h34=>?_) (fun h34=>?_)
     ·refine Ac Z Z Z Z (Ac Z Z Z Z (Ac Z Z Z Z (Ac Z Z Z Z ?_)));refine J (DX Z Z Z Z) (AD Z Z (AI (EL Z Z (AG (AJ (AD Z Z (AI (Af ?_))))))));exact ⟨_,[],[],Ae rfl,rfl,rfl,Ak (by unfold B9;rw [if_neg (by omega),if_pos (by omega)]),rfl⟩
     ·refine A9 Z Z Z ?_
      first | refine J (AO rfl Ff Z Z Z) ?_ | refine J (AQ rfl Ff Z Z Z) ?_ | refine J (AR rfl Ff Z Z Z) ?_ | refine J (AP rfl Ff Z Z Z) ?_ | refine J (AN rfl Ff Z Z Z) ?_
      refine A9 Z Z Z ?_
      first | refine J (A0 Z Z BD rfl) ?_ | refine J (AX Z Z Z BD rfl) ?_ | refine J (AZ Z Z (rfl) rfl BD rfl) ?_
      refine A9 Z Z Z ?_
      first | refine J (Co rfl Tryz.underlying33 rfl) ?_ | refine J (C1 Z Z Tryz.underlying33 rfl) ?_ | refine J (Cp rfl Tryz.underlying33 rfl) ?_ | refine J (Cn rfl Tryz.underlying33 rfl) ?_ | refine J (Ca rfl Tryz.underlying33 rfl) ?_ | refine J (Ck rfl Tryz.underlying33 rfl) ?_
      refine A9 Z Z Z ?_
      first | refine J (DZ Z Z Z) ?_ | refine J (C5 Z Z Z) ?_
      refine J (EG Z Z Z Z) (AD Z Z (AI ?_))
      first | refine BP rfl (fun h23=>?_) (fun h23=>?_) | refine BK rfl (fun h23=>?_) (fun h23=>?_)
      ·refine AG (AJ (AD Z Z (AI (Af ?_))));exact ⟨_,[],[],Ae rfl,rfl,rfl,Ak (by unfold B9;rw [if_neg (by omega),if_pos (by omega)]),rfl⟩
      ·refine An (AG (AG (AJ ?_)))
       first | refine J (At Z Z Ag rfl) ?_ | refine J (Au Z Z Ag Z Z Z) ?_ | refine J (Av Z Z (rfl) rfl Ag rfl) ?_
       refine J (DN (ds:=[BC i]) (es:=[]) Z Z Z Z Z) ?_
       first | refine J (At Z Z Ag rfl) ?_ | refine J (Au Z Z Ag Z Z Z) ?_ | refine J (Av Z Z (rfl) rfl Ag rfl) ?_
       refine J (DN (ds:=[BC i]) (es:=[]) Z Z Z Z Z) ?_
       first | refine J (At Z Z Ag rfl) ?_ | refine J (Au Z Z Ag Z Z Z) ?_ | refine J (Av Z Z (rfl) rfl Ag rfl) ?_
       refine J (DN (ds:=[BC i]) (es:=[]) Z Z Z Z Z) ?_
       first | refine J (At Z Z Ag rfl) ?_ | refine J (Au Z Z Ag Z Z Z) ?_ | refine J (Av Z Z (rfl) rfl Ag rfl) ?_
       refine J (DN (ds:=[BC i]) (es:=[]) Z Z Z Z Z) ?_
       first | refine J (At Z Z Ag rfl) ?_ | refine J (Au Z Z Ag Z Z Z) ?_ | refine J (Av Z Z (rfl) rfl Ag rfl) ?_
       refine J (DN (ds:=[BC i]) (es:=[]) Z Z Z Z Z) (G (Fg 2 sl152 Z Z Z Z Z Z Z Z) ?_)
       first | refine J (Co rfl Tryz.underlying152 rfl) ?_ | refine J (C1 Z Z Tryz.underlying152 rfl) ?_ | refine J (Cp rfl Tryz.underlying152 rfl) ?_ | refine J (Cn rfl Tryz.underlying152 rfl) ?_ | refine J (Ca rfl Tryz.underlying152 rfl) ?_ | refine J (Ck rfl Tryz.underlying152 rfl) ?_
       refine AC Z Z (AI (Aw (EN (α:=Nat) (fun k=>⟨62,[(50,(.own 2 0 5)),(51,(.d (AF 5))),(52,(.d (AF (k:Int))))],[(2,[.rowD 88 1 ((Ps i).map (fnD i))])]⟩) (fun k=>k≤5∧Bi ((Ps i).map Prod.snd)=Bi (((Ps i).drop k).map Prod.snd)∧∀j,j<k ->((Ps i)[j]?).map Prod.snd=some 0) (fun k=>5 - k) (0) (⟨Nat.zero_le _,rfl,fun j h=>absurd h (Nat.not_lt_zero j)⟩) (BS hF [2] Z Z ⟨rfl,rfl,rfl,trivial⟩) ?_)));rintro k ⟨hk0,hkE,hkz⟩;refine AG (AJ ?_)
       first | refine J (Cc Z Z Z) ?_ | refine J (Cb Z Z Z) ?_
       refine AI (AG ?_)
       first | refine BP rfl (fun h53=>?_) (fun h53=>?_) | refine BK rfl (fun h53=>?_) (fun h53=>?_)
       ·have hk1:k<(Ps i).length:=by show k<5;have h:=h53;omega
        refine An (AG (Aw (AG (AJ ?_))));have hE:=D8 hk1 hkE
        first | refine J (Ch (k) Z Z (rfl) (by show k<5;exact hk1) Tryz.underlying152 rfl sz88 rfl) ?_ | refine J (Cj (k) Z Z (rfl) (by show k<5;exact hk1) rfl Tryz.underlying152 sz88 rfl) ?_
        first | refine J (A0 Z Z on88 rfl) ?_ | refine J (AX Z Z Z on88 rfl) ?_ | refine J (AZ Z Z (A3 hk1) rfl on88 rfl) ?_
        refine AD Z Z (AI ?_);refine AG (AJ (AC Z Z (J (Ud (fns_p i (by omega) (by omega) (by omega) hk1 hkz) Z Z) (AD Z Z (AI (AG (AJ (AC Z Z ?_))))))))
        first | refine J (Ec Z Z Z) ?_ | refine J (Eb Z Z Z) ?_ | refine J (EV Z Z Z) ?_ | refine J (E8 Tryz.underlying34 Z Z Z) ?_ | refine J (Ea Tryz.underlying34 Z Z Z) ?_ | refine J (st_neqN Tryz.underlying34 Z Z) ?_ | refine J (E9 Tryz.underlying34 Z Z Z) ?_ | refine J (st_neqFN Tryz.underlying34 Z Z) ?_
        refine AI ?_
        first | refine BP rfl (fun h59=>?_) (fun h59=>?_) | refine BK rfl (fun h59=>?_) (fun h59=>?_)
        ·refine AG (AJ (AC Z Z (AD Z Z (AI (Af ?_)))));exact ⟨_,[],[],Ae rfl,rfl,rfl,Ak (by unfold B9;rw [if_neg (by omega),if_neg (by omega)];exact hE.2 _ rfl (by simpa using h59)),rfl⟩
        ·refine An (AJ (J (By Z Z (Ad (k+1) (by omega)) rfl) (AC Z Z (AI ?_))));exact ⟨k+1,⟨by show k+1≤_;omega,hE.1 (by simpa using h59),fun j hj=>(Nat.lt_succ_iff_lt_or_eq.1 hj).elim (hkz j) fun h=>by subst h;rw [List.getElem?_eq_getElem hk1];show some _=_;congr 1;simpa using h59⟩,by show 5 - (k+1)<5 - k;omega,BS hF [2] rfl (rfl) ⟨rfl,rfl,rfl,trivial⟩⟩
       ·refine Ct (AG (AJ (AD Z Z (AI (Af ?_)))));exact ⟨_,[],[],Ae rfl,rfl,rfl,Ak (by unfold B9;rw [if_neg (by omega),if_neg (by omega),hkE,Fy (by have h:=h53;show ¬k<5;omega)]),rfl⟩
theorem or_p (l:List Int) (hn:l.length≤140737488355328):AT Tryz.prog 73 [.d (.sl none (l.map AF))] (AF (Bi l)):=by
 refine B6 Tryz.func73 Z Z Tryz.ntmps73 Z Z Z fun F hF=>(AG (AJ (AD Z Z ?_)));refine AI (AG (AJ (AD Z Z (AI (AG (AG (AJ (AC Z Z ?_))))))))
 first | refine J (Co rfl Tryz.underlying33 rfl) ?_ | refine J (C1 Z Z Tryz.underlying33 rfl) ?_ | refine J (Cp rfl Tryz.underlying33 rfl) ?_ | refine J (Cn rfl Tryz.underlying33 rfl) ?_ | refine J (Ca rfl Tryz.underlying33 rfl) ?_ | refine J (Ck rfl Tryz.underlying33 rfl) ?_
 refine AC Z Z (AI (Aw (EK (α:=Nat) (fun k=>⟨18,[(3,(.d (AF 0))),(6,(.d (.sl none (l.map AF)))),(7,(.d (AF (l.length:Int)))),(8,(.d (AF (k:Int))))],[]⟩) (fun k=>k≤l.length∧Bi (l.map id)=Bi ((l.drop k).map id)) (fun k=>l.length - k) (0) (⟨Nat.zero_le _,rfl⟩) (UX ⟨rfl,rfl,rfl,rfl,trivial⟩) ?_)));rintro k ⟨hk0,hk⟩;refine AG (AJ ?_)
 first | refine J (Cc Z Z Z) ?_ | refine J (Cb Z Z Z) ?_
 refine AI (AG ?_)
 first | refine BP rfl (fun h9=>?_) (fun h9=>?_) | refine BK rfl (fun h9=>?_) (fun h9=>?_)
 ·have hk1:k<l.length:=EF h9;refine An (AG (Aw (AG (AJ ?_))));have hE:=D8 hk1 hk
  first | refine J (Ch (k) Z Z (rfl) (A3 hk1) Tryz.underlying33 rfl Et rfl) ?_ | refine J (Cj (k) Z Z (rfl) (A3 hk1) rfl Tryz.underlying33 Et rfl) ?_
  first | refine J (A0 Z Z Aa rfl) ?_ | refine J (AX Z Z Z Aa rfl) ?_ | refine J (AZ Z Z (rfl) rfl Aa rfl) ?_
  refine AD Z Z (AI (AG (AJ (AC Z Z (AC Z Z ?_)))))
  first | refine J (Ec Z Z Z) ?_ | refine J (Eb Z Z Z) ?_ | refine J (EV Z Z Z) ?_ | refine J (E8 Tryz.underlying3 Z Z Z) ?_ | refine J (Ea Tryz.underlying3 Z Z Z) ?_ | refine J (st_neqN Tryz.underlying3 Z Z) ?_ | refine J (E9 Tryz.underlying3 Z Z Z) ?_ | refine J (st_neqFN Tryz.underlying3 Z Z) ?_
  refine AI ?_
  first | refine BP rfl (fun h14=>?_) (fun h14=>?_) | refine BK rfl (fun h14=>?_) (fun h14=>?_)
  ·refine AG (AJ (AC Z Z (AD Z Z (AI (Af ?_)))));exact ⟨_,[],[],Ae rfl,rfl,rfl,Ak ((hE.2 l[k] rfl (by simpa using h14)).trans (by rw [List.map_id])),rfl⟩
  ·refine An (AJ (J (By Z Z (Ad (k+1) (by omega)) rfl) (AC Z Z (AI ?_))));exact ⟨k+1,⟨by show k+1≤_;omega,hE.1 (by simpa using h14)⟩,by show l.length - (k+1)<l.length - k;omega,⟨rfl,rfl,fun _ _=>NK.get (l:=[(3,_),(6,_),(7,_),(8,_)]) ⟨rfl,rfl,rfl,rfl,trivial⟩⟩⟩
 ·refine Ct (AG (AJ (AC Z Z (AD Z Z (AI (Af ?_))))));exact ⟨_,[],[],Ae rfl,rfl,rfl,Ak (by rw [List.map_id] at hk;rw [hk,Fy (by have h:=h9;omega)]),rfl⟩
def Bv (a b:A5):Int:=Bi [Dc a.k b.k,E6 a.acc.o b.acc.o,Dc a.acc.k b.acc.k,E6 a.acc.a b.acc.a,E6 a.f b.f,E6 a.t b.t]
def If (a b:AU):Int:=Bi [Dc b.pr a.pr,Dc a.sq b.sq]
set_option maxHeartbeats 2000000 in
theorem Kl (a b:A5):AT Tryz.prog 33 [.d (E1 a),.d (E1 b)] (AF (Bv a b)):=by
 refine B6 Tryz.func33 Z Z Tryz.ntmps33 Z Z Z fun F hF=>?_;refine AG (AJ (G (CV 1 Z Z Z Z Z Z Z) (G (CV 2 Z Z Z Z Z Z Z) (AD Z Z (AI (AG (Gs [[],[0],[],[2],[0,1,2,3],[],[5],[5,6],[],[8],[8,9],[0,1,2,3,4,5,6,7,8,9,10],[],[12],[12,13],[],[15],[15,16],[0,1,2,3,4,5,6,7,8,9,10,11,12,13,14,15,16,17],[],[19],[19,20],[],[22],[22,23],[0,1,2,3,4,5,6,7,8,9,10,11,12,13,14,15,16,17,18,19,20,21,22,23,24],[],[26],[],[28],[0,1,2,3,4,5,6,7,8,9,10,11,12,13,14,15,16,17,18,19,20,21,22,23,24,25,26,27,28,29],[],[31],[],[33],[0,1,2,3,4,5,6,7,8,9,10,11,12,13,14,15,16,17,18,19,20,21,22,23,24,25,26,27,28,29,30,31,32,33,34],[0,1,2,3,4,5,6,7,8,9,10,11,12,13,14,15,16,17,18,19,20,21,22,23,24,25,26,27,28,29,30,31,32,33,34,35],[0,1,2,3,4,5,6,7,8,9,10,11,12,13,14,15,16,17,18,19,20,21,22,23,24,25,26,27,28,29,30,31,32,33,34,35,36],[0,1,2,3,4,5,6,7,8,9,10,11,12,13,14,15,16,17,18,19,20,21,22,23,24,25,26,27,28,29,30,31,32,33,34,35,36,37]] BF rfl (IK ?_))))))))
 first | refine AE [2] [] Z Z (fun _=>AB (AO rfl L3 Z Z Z)) ?_ | refine AH [2] Z Z (fun _=>AB (AO rfl L3 Z Z Z)) ?_ | refine AE [2] [] Z Z (fun _=>AB (AQ rfl L3 Z Z Z)) ?_ | refine AH [2] Z Z (fun _=>AB (AQ rfl L3 Z Z Z)) ?_ | refine AE [2] [] Z Z (fun _=>AB (AR rfl L3 Z Z Z)) ?_ | refine AH [2] Z Z (fun _=>AB (AR rfl L3 Z Z Z)) ?_ | refine AE [2] [] Z Z (fun _=>AB (AP rfl L3 Z Z Z)) ?_ | refine AH [2] Z Z (fun _=>AB (AP rfl L3 Z Z Z)) ?_ | refine AE [2] [] Z Z (fun _=>AB (AN rfl L3 Z Z Z)) ?_ | refine AH [2] Z Z (fun _=>AB (AN rfl L3 Z Z Z)) ?_
 first | refine AE [5] [] Z Z (fun _=>AB (A0 Z Z Aa rfl)) ?_ | refine AH [5] Z Z (fun _=>AB (A0 Z Z Aa rfl)) ?_ | refine AE [5] [] Z Z (fun _=>AB (AX Z Z Z Aa rfl)) ?_ | refine AH [5] Z Z (fun _=>AB (AX Z Z Z Aa rfl)) ?_ | refine AE [5] [] Z Z (fun _=>AB (AZ Z Z (rfl) rfl Aa rfl)) ?_ | refine AH [5] Z Z (fun _=>AB (AZ Z Z (rfl) rfl Aa rfl)) ?_
 first | refine AE [3] [] Z Z (fun _=>AB (AO rfl L3 Z Z Z)) ?_ | refine AH [3] Z Z (fun _=>AB (AO rfl L3 Z Z Z)) ?_ | refine AE [3] [] Z Z (fun _=>AB (AQ rfl L3 Z Z Z)) ?_ | refine AH [3] Z Z (fun _=>AB (AQ rfl L3 Z Z Z)) ?_ | refine AE [3] [] Z Z (fun _=>AB (AR rfl L3 Z Z Z)) ?_ | refine AH [3] Z Z (fun _=>AB (AR rfl L3 Z Z Z)) ?_ | refine AE [3] [] Z Z (fun _=>AB (AP rfl L3 Z Z Z)) ?_ | refine AH [3] Z Z (fun _=>AB (AP rfl L3 Z Z Z)) ?_ | refine AE [3] [] Z Z (fun _=>AB (AN rfl L3 Z Z Z)) ?_ | refine AH [3] Z Z (fun _=>AB (AN rfl L3 Z Z Z)) ?_
 first | refine AE [7] [] Z Z (fun _=>AB (A0 Z Z Aa rfl)) ?_ | refine AH [7] Z Z (fun _=>AB (A0 Z Z Aa rfl)) ?_ | refine AE [7] [] Z Z (fun _=>AB (AX Z Z Z Aa rfl)) ?_ | refine AH [7] Z Z (fun _=>AB (AX Z Z Z Aa rfl)) ?_ | refine AE [7] [] Z Z (fun _=>AB (AZ Z Z (rfl) rfl Aa rfl)) ?_ | refine AH [7] Z Z (fun _=>AB (AZ Z Z (rfl) rfl Aa rfl)) ?_
 first | refine AE [6,8] [] Z Z (fun _=>AB (BO (Iw a.k b.k) Z Z)) ?_ | refine AH [6,8] Z Z (fun _=>AB (BO (Iw a.k b.k) Z Z)) ?_
 first | refine AE [2] [] Z Z (fun _=>AB (AO rfl Br Z Z Z)) ?_ | refine AH [2] Z Z (fun _=>AB (AO rfl Br Z Z Z)) ?_ | refine AE [2] [] Z Z (fun _=>AB (AQ rfl Br Z Z Z)) ?_ | refine AH [2] Z Z (fun _=>AB (AQ rfl Br Z Z Z)) ?_ | refine AE [2] [] Z Z (fun _=>AB (AR rfl Br Z Z Z)) ?_ | refine AH [2] Z Z (fun _=>AB (AR rfl Br Z Z Z)) ?_ | refine AE [2] [] Z Z (fun _=>AB (AP rfl Br Z Z Z)) ?_ | refine AH [2] Z Z (fun _=>AB (AP rfl Br Z Z Z)) ?_ | refine AE [2] [] Z Z (fun _=>AB (AN rfl Br Z Z Z)) ?_ | refine AH [2] Z Z (fun _=>AB (AN rfl Br Z Z Z)) ?_
 first | refine AE [10] [] Z Z (fun _=>AB (AO rfl JE Z Z Z)) ?_ | refine AH [10] Z Z (fun _=>AB (AO rfl JE Z Z Z)) ?_ | refine AE [10] [] Z Z (fun _=>AB (AQ rfl JE Z Z Z)) ?_ | refine AH [10] Z Z (fun _=>AB (AQ rfl JE Z Z Z)) ?_ | refine AE [10] [] Z Z (fun _=>AB (AR rfl JE Z Z Z)) ?_ | refine AH [10] Z Z (fun _=>AB (AR rfl JE Z Z Z)) ?_ | refine AE [10] [] Z Z (fun _=>AB (AP rfl JE Z Z Z)) ?_ | refine AH [10] Z Z (fun _=>AB (AP rfl JE Z Z Z)) ?_ | refine AE [10] [] Z Z (fun _=>AB (AN rfl JE Z Z Z)) ?_ | refine AH [10] Z Z (fun _=>AB (AN rfl JE Z Z Z)) ?_
 first | refine AE [11] [] Z Z (fun _=>AB (A0 Z Z Ar rfl)) ?_ | refine AH [11] Z Z (fun _=>AB (A0 Z Z Ar rfl)) ?_ | refine AE [11] [] Z Z (fun _=>AB (AX Z Z Z Ar rfl)) ?_ | refine AH [11] Z Z (fun _=>AB (AX Z Z Z Ar rfl)) ?_ | refine AE [11] [] Z Z (fun _=>AB (AZ Z Z (rfl) rfl Ar rfl)) ?_ | refine AH [11] Z Z (fun _=>AB (AZ Z Z (rfl) rfl Ar rfl)) ?_
 first | refine AE [3] [] Z Z (fun _=>AB (AO rfl Br Z Z Z)) ?_ | refine AH [3] Z Z (fun _=>AB (AO rfl Br Z Z Z)) ?_ | refine AE [3] [] Z Z (fun _=>AB (AQ rfl Br Z Z Z)) ?_ | refine AH [3] Z Z (fun _=>AB (AQ rfl Br Z Z Z)) ?_ | refine AE [3] [] Z Z (fun _=>AB (AR rfl Br Z Z Z)) ?_ | refine AH [3] Z Z (fun _=>AB (AR rfl Br Z Z Z)) ?_ | refine AE [3] [] Z Z (fun _=>AB (AP rfl Br Z Z Z)) ?_ | refine AH [3] Z Z (fun _=>AB (AP rfl Br Z Z Z)) ?_ | refine AE [3] [] Z Z (fun _=>AB (AN rfl Br Z Z Z)) ?_ | refine AH [3] Z Z (fun _=>AB (AN rfl Br Z Z Z)) ?_
 first | refine AE [13] [] Z Z (fun _=>AB (AO rfl JE Z Z Z)) ?_ | refine AH [13] Z Z (fun _=>AB (AO rfl JE Z Z Z)) ?_ | refine AE [13] [] Z Z (fun _=>AB (AQ rfl JE Z Z Z)) ?_ | refine AH [13] Z Z (fun _=>AB (AQ rfl JE Z Z Z)) ?_ | refine AE [13] [] Z Z (fun _=>AB (AR rfl JE Z Z Z)) ?_ | refine AH [13] Z Z (fun _=>AB (AR rfl JE Z Z Z)) ?_ | refine AE [13] [] Z Z (fun _=>AB (AP rfl JE Z Z Z)) ?_ | refine AH [13] Z Z (fun _=>AB (AP rfl JE Z Z Z)) ?_ | refine AE [13] [] Z Z (fun _=>AB (AN rfl JE Z Z Z)) ?_ | refine AH [13] Z Z (fun _=>AB (AN rfl JE Z Z Z)) ?_
 first | refine AE [14] [] Z Z (fun _=>AB (A0 Z Z Ar rfl)) ?_ | refine AH [14] Z Z (fun _=>AB (A0 Z Z Ar rfl)) ?_ | refine AE [14] [] Z Z (fun _=>AB (AX Z Z Z Ar rfl)) ?_ | refine AH [14] Z Z (fun _=>AB (AX Z Z Z Ar rfl)) ?_ | refine AE [14] [] Z Z (fun _=>AB (AZ Z Z (rfl) rfl Ar rfl)) ?_ | refine AH [14] Z Z (fun _=>AB (AZ Z Z (rfl) rfl Ar rfl)) ?_
 first | refine AE [12,15] [] Z Z (fun _=>AB (BO (Iv a.acc.o b.acc.o) Z Z)) ?_ | refine AH [12,15] Z Z (fun _=>AB (BO (Iv a.acc.o b.acc.o) Z Z)) ?_
 first | refine AE [2] [] Z Z (fun _=>AB (AO rfl Br Z Z Z)) ?_ | refine AH [2] Z Z (fun _=>AB (AO rfl Br Z Z Z)) ?_ | refine AE [2] [] Z Z (fun _=>AB (AQ rfl Br Z Z Z)) ?_ | refine AH [2] Z Z (fun _=>AB (AQ rfl Br Z Z Z)) ?_ | refine AE [2] [] Z Z (fun _=>AB (AR rfl Br Z Z Z)) ?_ | refine AH [2] Z Z (fun _=>AB (AR rfl Br Z Z Z)) ?_ | refine AE [2] [] Z Z (fun _=>AB (AP rfl Br Z Z Z)) ?_ | refine AH [2] Z Z (fun _=>AB (AP rfl Br Z Z Z)) ?_ | refine AE [2] [] Z Z (fun _=>AB (AN rfl Br Z Z Z)) ?_ | refine AH [2] Z Z (fun _=>AB (AN rfl Br Z Z Z)) ?_
 first | refine AE [17] [] Z Z (fun _=>AB (AO rfl Hg Z Z Z)) ?_ | refine AH [17] Z Z (fun _=>AB (AO rfl Hg Z Z Z)) ?_ | refine AE [17] [] Z Z (fun _=>AB (AQ rfl Hg Z Z Z)) ?_ | refine AH [17] Z Z (fun _=>AB (AQ rfl Hg Z Z Z)) ?_ | refine AE [17] [] Z Z (fun _=>AB (AR rfl Hg Z Z Z)) ?_ | refine AH [17] Z Z (fun _=>AB (AR rfl Hg Z Z Z)) ?_ | refine AE [17] [] Z Z (fun _=>AB (AP rfl Hg Z Z Z)) ?_ | refine AH [17] Z Z (fun _=>AB (AP rfl Hg Z Z Z)) ?_ | refine AE [17] [] Z Z (fun _=>AB (AN rfl Hg Z Z Z)) ?_ | refine AH [17] Z Z (fun _=>AB (AN rfl Hg Z Z Z)) ?_
 first | refine AE [18] [] Z Z (fun _=>AB (A0 Z Z Aa rfl)) ?_ | refine AH [18] Z Z (fun _=>AB (A0 Z Z Aa rfl)) ?_ | refine AE [18] [] Z Z (fun _=>AB (AX Z Z Z Aa rfl)) ?_ | refine AH [18] Z Z (fun _=>AB (AX Z Z Z Aa rfl)) ?_ | refine AE [18] [] Z Z (fun _=>AB (AZ Z Z (rfl) rfl Aa rfl)) ?_ | refine AH [18] Z Z (fun _=>AB (AZ Z Z (rfl) rfl Aa rfl)) ?_
 first | refine AE [3] [] Z Z (fun _=>AB (AO rfl Br Z Z Z)) ?_ | refine AH [3] Z Z (fun _=>AB (AO rfl Br Z Z Z)) ?_ | refine AE [3] [] Z Z (fun _=>AB (AQ rfl Br Z Z Z)) ?_ | refine AH [3] Z Z (fun _=>AB (AQ rfl Br Z Z Z)) ?_ | refine AE [3] [] Z Z (fun _=>AB (AR rfl Br Z Z Z)) ?_ | refine AH [3] Z Z (fun _=>AB (AR rfl Br Z Z Z)) ?_ | refine AE [3] [] Z Z (fun _=>AB (AP rfl Br Z Z Z)) ?_ | refine AH [3] Z Z (fun _=>AB (AP rfl Br Z Z Z)) ?_ | refine AE [3] [] Z Z (fun _=>AB (AN rfl Br Z Z Z)) ?_ | refine AH [3] Z Z (fun _=>AB (AN rfl Br Z Z Z)) ?_
 first | refine AE [20] [] Z Z (fun _=>AB (AO rfl Hg Z Z Z)) ?_ | refine AH [20] Z Z (fun _=>AB (AO rfl Hg Z Z Z)) ?_ | refine AE [20] [] Z Z (fun _=>AB (AQ rfl Hg Z Z Z)) ?_ | refine AH [20] Z Z (fun _=>AB (AQ rfl Hg Z Z Z)) ?_ | refine AE [20] [] Z Z (fun _=>AB (AR rfl Hg Z Z Z)) ?_ | refine AH [20] Z Z (fun _=>AB (AR rfl Hg Z Z Z)) ?_ | refine AE [20] [] Z Z (fun _=>AB (AP rfl Hg Z Z Z)) ?_ | refine AH [20] Z Z (fun _=>AB (AP rfl Hg Z Z Z)) ?_ | refine AE [20] [] Z Z (fun _=>AB (AN rfl Hg Z Z Z)) ?_ | refine AH [20] Z Z (fun _=>AB (AN rfl Hg Z Z Z)) ?_
 first | refine AE [21] [] Z Z (fun _=>AB (A0 Z Z Aa rfl)) ?_ | refine AH [21] Z Z (fun _=>AB (A0 Z Z Aa rfl)) ?_ | refine AE [21] [] Z Z (fun _=>AB (AX Z Z Z Aa rfl)) ?_ | refine AH [21] Z Z (fun _=>AB (AX Z Z Z Aa rfl)) ?_ | refine AE [21] [] Z Z (fun _=>AB (AZ Z Z (rfl) rfl Aa rfl)) ?_ | refine AH [21] Z Z (fun _=>AB (AZ Z Z (rfl) rfl Aa rfl)) ?_
 first | refine AE [19,22] [] Z Z (fun _=>AB (BO (Iw a.acc.k b.acc.k) Z Z)) ?_ | refine AH [19,22] Z Z (fun _=>AB (BO (Iw a.acc.k b.acc.k) Z Z)) ?_
 first | refine AE [2] [] Z Z (fun _=>AB (AO rfl Br Z Z Z)) ?_ | refine AH [2] Z Z (fun _=>AB (AO rfl Br Z Z Z)) ?_ | refine AE [2] [] Z Z (fun _=>AB (AQ rfl Br Z Z Z)) ?_ | refine AH [2] Z Z (fun _=>AB (AQ rfl Br Z Z Z)) ?_ | refine AE [2] [] Z Z (fun _=>AB (AR rfl Br Z Z Z)) ?_ | refine AH [2] Z Z (fun _=>AB (AR rfl Br Z Z Z)) ?_ | refine AE [2] [] Z Z (fun _=>AB (AP rfl Br Z Z Z)) ?_ | refine AH [2] Z Z (fun _=>AB (AP rfl Br Z Z Z)) ?_ | refine AE [2] [] Z Z (fun _=>AB (AN rfl Br Z Z Z)) ?_ | refine AH [2] Z Z (fun _=>AB (AN rfl Br Z Z Z)) ?_
 first | refine AE [24] [] Z Z (fun _=>AB (AO rfl Hh Z Z Z)) ?_ | refine AH [24] Z Z (fun _=>AB (AO rfl Hh Z Z Z)) ?_ | refine AE [24] [] Z Z (fun _=>AB (AQ rfl Hh Z Z Z)) ?_ | refine AH [24] Z Z (fun _=>AB (AQ rfl Hh Z Z Z)) ?_ | refine AE [24] [] Z Z (fun _=>AB (AR rfl Hh Z Z Z)) ?_ | refine AH [24] Z Z (fun _=>AB (AR rfl Hh Z Z Z)) ?_ | refine AE [24] [] Z Z (fun _=>AB (AP rfl Hh Z Z Z)) ?_ | refine AH [24] Z Z (fun _=>AB (AP rfl Hh Z Z Z)) ?_ | refine AE [24] [] Z Z (fun _=>AB (AN rfl Hh Z Z Z)) ?_ | refine AH [24] Z Z (fun _=>AB (AN rfl Hh Z Z Z)) ?_
 first | refine AE [25] [] Z Z (fun _=>AB (A0 Z Z Ar rfl)) ?_ | refine AH [25] Z Z (fun _=>AB (A0 Z Z Ar rfl)) ?_ | refine AE [25] [] Z Z (fun _=>AB (AX Z Z Z Ar rfl)) ?_ | refine AH [25] Z Z (fun _=>AB (AX Z Z Z Ar rfl)) ?_ | refine AE [25] [] Z Z (fun _=>AB (AZ Z Z (rfl) rfl Ar rfl)) ?_ | refine AH [25] Z Z (fun _=>AB (AZ Z Z (rfl) rfl Ar rfl)) ?_
 first | refine AE [3] [] Z Z (fun _=>AB (AO rfl Br Z Z Z)) ?_ | refine AH [3] Z Z (fun _=>AB (AO rfl Br Z Z Z)) ?_ | refine AE [3] [] Z Z (fun _=>AB (AQ rfl Br Z Z Z)) ?_ | refine AH [3] Z Z (fun _=>AB (AQ rfl Br Z Z Z)) ?_ | refine AE [3] [] Z Z (fun _=>AB (AR rfl Br Z Z Z)) ?_ | refine AH [3] Z Z (fun _=>AB (AR rfl Br Z Z Z)) ?_ | refine AE [3] [] Z Z (fun _=>AB (AP rfl Br Z Z Z)) ?_ | refine AH [3] Z Z (fun _=>AB (AP rfl Br Z Z Z)) ?_ | refine AE [3] [] Z Z (fun _=>AB (AN rfl Br Z Z Z)) ?_ | refine AH [3] Z Z (fun _=>AB (AN rfl Br Z Z Z)) ?_
 first | refine AE [27] [] Z Z (fun _=>AB (AO rfl Hh Z Z Z)) ?_ | refine AH [27] Z Z (fun _=>AB (AO rfl Hh Z Z Z)) ?_ | refine AE [27] [] Z Z (fun _=>AB (AQ rfl Hh Z Z Z)) ?_ | refine AH [27] Z Z (fun _=>AB (AQ rfl Hh Z Z Z)) ?_ | refine AE [27] [] Z Z (fun _=>AB (AR rfl Hh Z Z Z)) ?_ | refine AH [27] Z Z (fun _=>AB (AR rfl Hh Z Z Z)) ?_ | refine AE [27] [] Z Z (fun _=>AB (AP rfl Hh Z Z Z)) ?_ | refine AH [27] Z Z (fun _=>AB (AP rfl Hh Z Z Z)) ?_ | refine AE [27] [] Z Z (fun _=>AB (AN rfl Hh Z Z Z)) ?_ | refine AH [27] Z Z (fun _=>AB (AN rfl Hh Z Z Z)) ?_
 first | refine AE [28] [] Z Z (fun _=>AB (A0 Z Z Ar rfl)) ?_ | refine AH [28] Z Z (fun _=>AB (A0 Z Z Ar rfl)) ?_ | refine AE [28] [] Z Z (fun _=>AB (AX Z Z Z Ar rfl)) ?_ | refine AH [28] Z Z (fun _=>AB (AX Z Z Z Ar rfl)) ?_ | refine AE [28] [] Z Z (fun _=>AB (AZ Z Z (rfl) rfl Ar rfl)) ?_ | refine AH [28] Z Z (fun _=>AB (AZ Z Z (rfl) rfl Ar rfl)) ?_
 first | refine AE [26,29] [] Z Z (fun _=>AB (BO (Iv a.acc.a b.acc.a) Z Z)) ?_ | refine AH [26,29] Z Z (fun _=>AB (BO (Iv a.acc.a b.acc.a) Z Z)) ?_
 first | refine AE [2] [] Z Z (fun _=>AB (AO rfl FO Z Z Z)) ?_ | refine AH [2] Z Z (fun _=>AB (AO rfl FO Z Z Z)) ?_ | refine AE [2] [] Z Z (fun _=>AB (AQ rfl FO Z Z Z)) ?_ | refine AH [2] Z Z (fun _=>AB (AQ rfl FO Z Z Z)) ?_ | refine AE [2] [] Z Z (fun _=>AB (AR rfl FO Z Z Z)) ?_ | refine AH [2] Z Z (fun _=>AB (AR rfl FO Z Z Z)) ?_ | refine AE [2] [] Z Z (fun _=>AB (AP rfl FO Z Z Z)) ?_ | refine AH [2] Z Z (fun _=>AB (AP rfl FO Z Z Z)) ?_ | refine AE [2] [] Z Z (fun _=>AB (AN rfl FO Z Z Z)) ?_ | refine AH [2] Z Z (fun _=>AB (AN rfl FO Z Z Z)) ?_
 first | refine AE [31] [] Z Z (fun _=>AB (A0 Z Z Ar rfl)) ?_ | refine AH [31] Z Z (fun _=>AB (A0 Z Z Ar rfl)) ?_ | refine AE [31] [] Z Z (fun _=>AB (AX Z Z Z Ar rfl)) ?_ | refine AH [31] Z Z (fun _=>AB (AX Z Z Z Ar rfl)) ?_ | refine AE [31] [] Z Z (fun _=>AB (AZ Z Z (rfl) rfl Ar rfl)) ?_ | refine AH [31] Z Z (fun _=>AB (AZ Z Z (rfl) rfl Ar rfl)) ?_
 first | refine AE [3] [] Z Z (fun _=>AB (AO rfl FO Z Z Z)) ?_ | refine AH [3] Z Z (fun _=>AB (AO rfl FO Z Z Z)) ?_ | refine AE [3] [] Z Z (fun _=>AB (AQ rfl FO Z Z Z)) ?_ | refine AH [3] Z Z (fun _=>AB (AQ rfl FO Z Z Z)) ?_ | refine AE [3] [] Z Z (fun _=>AB (AR rfl FO Z Z Z)) ?_ | refine AH [3] Z Z (fun _=>AB (AR rfl FO Z Z Z)) ?_ | refine AE [3] [] Z Z (fun _=>AB (AP rfl FO Z Z Z)) ?_ | refine AH [3] Z Z (fun _=>AB (AP rfl FO Z Z Z)) ?_ | refine AE [3] [] Z Z (fun _=>AB (AN rfl FO Z Z Z)) ?_ | refine AH [3] Z Z (fun _=>AB (AN rfl FO Z Z Z)) ?_
 first | refine AE [33] [] Z Z (fun _=>AB (A0 Z Z Ar rfl)) ?_ | refine AH [33] Z Z (fun _=>AB (A0 Z Z Ar rfl)) ?_ | refine AE [33] [] Z Z (fun _=>AB (AX Z Z Z Ar rfl)) ?_ | refine AH [33] Z Z (fun _=>AB (AX Z Z Z Ar rfl)) ?_ | refine AE [33] [] Z Z (fun _=>AB (AZ Z Z (rfl) rfl Ar rfl)) ?_ | refine AH [33] Z Z (fun _=>AB (AZ Z Z (rfl) rfl Ar rfl)) ?_
 first | refine AE [32,34] [] Z Z (fun _=>AB (BO (Iv a.f b.f) Z Z)) ?_ | refine AH [32,34] Z Z (fun _=>AB (BO (Iv a.f b.f) Z Z)) ?_
 first | refine AE [2] [] Z Z (fun _=>AB (AO rfl GI Z Z Z)) ?_ | refine AH [2] Z Z (fun _=>AB (AO rfl GI Z Z Z)) ?_ | refine AE [2] [] Z Z (fun _=>AB (AQ rfl GI Z Z Z)) ?_ | refine AH [2] Z Z (fun _=>AB (AQ rfl GI Z Z Z)) ?_ | refine AE [2] [] Z Z (fun _=>AB (AR rfl GI Z Z Z)) ?_ | refine AH [2] Z Z (fun _=>AB (AR rfl GI Z Z Z)) ?_ | refine AE [2] [] Z Z (fun _=>AB (AP rfl GI Z Z Z)) ?_ | refine AH [2] Z Z (fun _=>AB (AP rfl GI Z Z Z)) ?_ | refine AE [2] [] Z Z (fun _=>AB (AN rfl GI Z Z Z)) ?_ | refine AH [2] Z Z (fun _=>AB (AN rfl GI Z Z Z)) ?_
 first | refine AE [36] [] Z Z (fun _=>AB (A0 Z Z Ar rfl)) ?_ | refine AH [36] Z Z (fun _=>AB (A0 Z Z Ar rfl)) ?_ | refine AE [36] [] Z Z (fun _=>AB (AX Z Z Z Ar rfl)) ?_ | refine AH [36] Z Z (fun _=>AB (AX Z Z Z Ar rfl)) ?_ | refine AE [36] [] Z Z (fun _=>AB (AZ Z Z (rfl) rfl Ar rfl)) ?_ | refine AH [36] Z Z (fun _=>AB (AZ Z Z (rfl) rfl Ar rfl)) ?_
 first | refine AE [3] [] Z Z (fun _=>AB (AO rfl GI Z Z Z)) ?_ | refine AH [3] Z Z (fun _=>AB (AO rfl GI Z Z Z)) ?_ | refine AE [3] [] Z Z (fun _=>AB (AQ rfl GI Z Z Z)) ?_ | refine AH [3] Z Z (fun _=>AB (AQ rfl GI Z Z Z)) ?_ | refine AE [3] [] Z Z (fun _=>AB (AR rfl GI Z Z Z)) ?_ | refine AH [3] Z Z (fun _=>AB (AR rfl GI Z Z Z)) ?_ | refine AE [3] [] Z Z (fun _=>AB (AP rfl GI Z Z Z)) ?_ | refine AH [3] Z Z (fun _=>AB (AP rfl GI Z Z Z)) ?_ | refine AE [3] [] Z Z (fun _=>AB (AN rfl GI Z Z Z)) ?_ | refine AH [3] Z Z (fun _=>AB (AN rfl GI Z Z Z)) ?_
 first | refine AE [38] [] Z Z (fun _=>AB (A0 Z Z Ar rfl)) ?_ | refine AH [38] Z Z (fun _=>AB (A0 Z Z Ar rfl)) ?_ | refine AE [38] [] Z Z (fun _=>AB (AX Z Z Z Ar rfl)) ?_ | refine AH [38] Z Z (fun _=>AB (AX Z Z Z Ar rfl)) ?_ | refine AE [38] [] Z Z (fun _=>AB (AZ Z Z (rfl) rfl Ar rfl)) ?_ | refine AH [38] Z Z (fun _=>AB (AZ Z Z (rfl) rfl Ar rfl)) ?_
 refine Gf 35 Z Z Z (BE 36 Z Z (J (BO (Iv a.t b.t) Z Z) (AI ⟨rfl,?_⟩)));refine BE 37 Z Z (G (Fg 3 CS Z Z Z Z Z Z Z Z) (AI ⟨rfl,?_⟩));refine BE 38 Z Z (J (Ei [3] (or_p [Dc a.k b.k,E6 a.acc.o b.acc.o,Dc a.acc.k b.acc.k,E6 a.acc.a b.acc.a,E6 a.f b.f,E6 a.t b.t] (by simp)) (by exact ⟨.inr ⟨_,_,rfl,.own Z Z (by simp) (List.take_of_length_le (by simp)),rfl⟩,trivial⟩) Z Z) (AI ⟨rfl,?_⟩));refine BE 39 Z Z (AD Z Z (AI ⟨rfl,?_⟩));refine Ge (Af ?_);exact ⟨_,[],[],Ae rfl,rfl,rfl,rfl,rfl⟩
theorem order_p (a b:AU):AT Tryz.prog 184 [.d (BC a),.d (BC b)] (AF (If a b)):=by
 refine B6 Tryz.func184 Z Z Tryz.ntmps184 Z Z Z fun F hF=>?_;refine AG (AJ (G (CV 1 Z Z Z Z Z Z Z) (G (CV 2 Z Z Z Z Z Z Z) (AD Z Z (AI (AG (Gs [[],[0],[],[2],[0,1,2,3],[],[5],[],[7],[0,1,2,3,4,5,6,7,8],[0,1,2,3,4,5,6,7,8,9],[0,1,2,3,4,5,6,7,8,9,10],[0,1,2,3,4,5,6,7,8,9,10,11]] BF rfl (IK ?_))))))))
 first | refine AE [3] [] Z Z (fun _=>AB (AO rfl L1 Z Z Z)) ?_ | refine AH [3] Z Z (fun _=>AB (AO rfl L1 Z Z Z)) ?_ | refine AE [3] [] Z Z (fun _=>AB (AQ rfl L1 Z Z Z)) ?_ | refine AH [3] Z Z (fun _=>AB (AQ rfl L1 Z Z Z)) ?_ | refine AE [3] [] Z Z (fun _=>AB (AR rfl L1 Z Z Z)) ?_ | refine AH [3] Z Z (fun _=>AB (AR rfl L1 Z Z Z)) ?_ | refine AE [3] [] Z Z (fun _=>AB (AP rfl L1 Z Z Z)) ?_ | refine AH [3] Z Z (fun _=>AB (AP rfl L1 Z Z Z)) ?_ | refine AE [3] [] Z Z (fun _=>AB (AN rfl L1 Z Z Z)) ?_ | refine AH [3] Z Z (fun _=>AB (AN rfl L1 Z Z Z)) ?_
 first | refine AE [5] [] Z Z (fun _=>AB (A0 Z Z Aa rfl)) ?_ | refine AH [5] Z Z (fun _=>AB (A0 Z Z Aa rfl)) ?_ | refine AE [5] [] Z Z (fun _=>AB (AX Z Z Z Aa rfl)) ?_ | refine AH [5] Z Z (fun _=>AB (AX Z Z Z Aa rfl)) ?_ | refine AE [5] [] Z Z (fun _=>AB (AZ Z Z (rfl) rfl Aa rfl)) ?_ | refine AH [5] Z Z (fun _=>AB (AZ Z Z (rfl) rfl Aa rfl)) ?_
 first | refine AE [2] [] Z Z (fun _=>AB (AO rfl L1 Z Z Z)) ?_ | refine AH [2] Z Z (fun _=>AB (AO rfl L1 Z Z Z)) ?_ | refine AE [2] [] Z Z (fun _=>AB (AQ rfl L1 Z Z Z)) ?_ | refine AH [2] Z Z (fun _=>AB (AQ rfl L1 Z Z Z)) ?_ | refine AE [2] [] Z Z (fun _=>AB (AR rfl L1 Z Z Z)) ?_ | refine AH [2] Z Z (fun _=>AB (AR rfl L1 Z Z Z)) ?_ | refine AE [2] [] Z Z (fun _=>AB (AP rfl L1 Z Z Z)) ?_ | refine AH [2] Z Z (fun _=>AB (AP rfl L1 Z Z Z)) ?_ | refine AE [2] [] Z Z (fun _=>AB (AN rfl L1 Z Z Z)) ?_ | refine AH [2] Z Z (fun _=>AB (AN rfl L1 Z Z Z)) ?_
 first | refine AE [7] [] Z Z (fun _=>AB (A0 Z Z Aa rfl)) ?_ | refine AH [7] Z Z (fun _=>AB (A0 Z Z Aa rfl)) ?_ | refine AE [7] [] Z Z (fun _=>AB (AX Z Z Z Aa rfl)) ?_ | refine AH [7] Z Z (fun _=>AB (AX Z Z Z Aa rfl)) ?_ | refine AE [7] [] Z Z (fun _=>AB (AZ Z Z (rfl) rfl Aa rfl)) ?_ | refine AH [7] Z Z (fun _=>AB (AZ Z Z (rfl) rfl Aa rfl)) ?_
 first | refine AE [6,8] [] Z Z (fun _=>AB (BO (Iw b.pr a.pr) Z Z)) ?_ | refine AH [6,8] Z Z (fun _=>AB (BO (Iw b.pr a.pr) Z Z)) ?_
 first | refine AE [2] [] Z Z (fun _=>AB (AO rfl GH Z Z Z)) ?_ | refine AH [2] Z Z (fun _=>AB (AO rfl GH Z Z Z)) ?_ | refine AE [2] [] Z Z (fun _=>AB (AQ rfl GH Z Z Z)) ?_ | refine AH [2] Z Z (fun _=>AB (AQ rfl GH Z Z Z)) ?_ | refine AE [2] [] Z Z (fun _=>AB (AR rfl GH Z Z Z)) ?_ | refine AH [2] Z Z (fun _=>AB (AR rfl GH Z Z Z)) ?_ | refine AE [2] [] Z Z (fun _=>AB (AP rfl GH Z Z Z)) ?_ | refine AH [2] Z Z (fun _=>AB (AP rfl GH Z Z Z)) ?_ | refine AE [2] [] Z Z (fun _=>AB (AN rfl GH Z Z Z)) ?_ | refine AH [2] Z Z (fun _=>AB (AN rfl GH Z Z Z)) ?_
 first | refine AE [10] [] Z Z (fun _=>AB (A0 Z Z Aa rfl)) ?_ | refine AH [10] Z Z (fun _=>AB (A0 Z Z Aa rfl)) ?_ | refine AE [10] [] Z Z (fun _=>AB (AX Z Z Z Aa rfl)) ?_ | refine AH [10] Z Z (fun _=>AB (AX Z Z Z Aa rfl)) ?_ | refine AE [10] [] Z Z (fun _=>AB (AZ Z Z (rfl) rfl Aa rfl)) ?_ | refine AH [10] Z Z (fun _=>AB (AZ Z Z (rfl) rfl Aa rfl)) ?_
 first | refine AE [3] [] Z Z (fun _=>AB (AO rfl GH Z Z Z)) ?_ | refine AH [3] Z Z (fun _=>AB (AO rfl GH Z Z Z)) ?_ | refine AE [3] [] Z Z (fun _=>AB (AQ rfl GH Z Z Z)) ?_ | refine AH [3] Z Z (fun _=>AB (AQ rfl GH Z Z Z)) ?_ | refine AE [3] [] Z Z (fun _=>AB (AR rfl GH Z Z Z)) ?_ | refine AH [3] Z Z (fun _=>AB (AR rfl GH Z Z Z)) ?_ | refine AE [3] [] Z Z (fun _=>AB (AP rfl GH Z Z Z)) ?_ | refine AH [3] Z Z (fun _=>AB (AP rfl GH Z Z Z)) ?_ | refine AE [3] [] Z Z (fun _=>AB (AN rfl GH Z Z Z)) ?_ | refine AH [3] Z Z (fun _=>AB (AN rfl GH Z Z Z)) ?_
 first | refine AE [12] [] Z Z (fun _=>AB (A0 Z Z Aa rfl)) ?_ | refine AH [12] Z Z (fun _=>AB (A0 Z Z Aa rfl)) ?_ | refine AE [12] [] Z Z (fun _=>AB (AX Z Z Z Aa rfl)) ?_ | refine AH [12] Z Z (fun _=>AB (AX Z Z Z Aa rfl)) ?_ | refine AE [12] [] Z Z (fun _=>AB (AZ Z Z (rfl) rfl Aa rfl)) ?_ | refine AH [12] Z Z (fun _=>AB (AZ Z Z (rfl) rfl Aa rfl)) ?_
 refine Gf 9 Z Z Z (BE 10 Z Z (J (BO (Iw a.sq b.sq) Z Z) (AI ⟨rfl,?_⟩)));refine BE 11 Z Z (G (Fg 3 CS Z Z Z Z Z Z Z Z) (AI ⟨rfl,?_⟩));refine BE 12 Z Z (J (Ei [3] (or_p [Dc b.pr a.pr,Dc a.sq b.sq] (by simp)) (by exact ⟨.inr ⟨_,_,rfl,.own Z Z (by simp) (List.take_of_length_le (by simp)),rfl⟩,trivial⟩) Z Z) (AI ⟨rfl,?_⟩));refine BE 13 Z Z (AD Z Z (AI ⟨rfl,?_⟩));refine Ge (Af ?_);exact ⟨_,[],[],Ae rfl,rfl,rfl,rfl,rfl⟩
def Pb (x:A5×Int):D:= .agg [AF x.1.k,Al x.1.acc.o,AF x.1.acc.k,Al x.1.acc.a,Al x.1.f,Al x.1.t,AF x.2]
theorem V5 (a b:A5×Int):AT Tryz.prog 32 [.d (Pb a),.d (Pb b)] (AF (Bv a.1 b.1)):=by
 refine B6 Tryz.func32 Z Z Tryz.ntmps32 Z Z Z fun F hF=>(AG (AJ (G (CV 1 Z Z Z Z Z Z Z) (G (CV 2 Z Z Z Z Z Z Z) (AD Z Z (AI (AG (AJ ?_))))))))
 first | refine J (AO rfl Og Z Z Z) ?_ | refine J (AQ rfl Og Z Z Z) ?_ | refine J (AR rfl Og Z Z Z) ?_ | refine J (AP rfl Og Z Z Z) ?_ | refine J (AN rfl Og Z Z Z) ?_
 first | refine J (At Z Z Ah rfl) ?_ | refine J (Au Z Z Ah Z Z Z) ?_ | refine J (Av Z Z (rfl) rfl Ah rfl) ?_
 first | refine J (AO rfl Og Z Z Z) ?_ | refine J (AQ rfl Og Z Z Z) ?_ | refine J (AR rfl Og Z Z Z) ?_ | refine J (AP rfl Og Z Z Z) ?_ | refine J (AN rfl Og Z Z Z) ?_
 first | refine J (At Z Z Ah rfl) ?_ | refine J (Au Z Z Ah Z Z Z) ?_ | refine J (Av Z Z (rfl) rfl Ah rfl) ?_
 refine J (BO (Kl a.1 b.1) Z Z) (AD Z Z (AI (Af ?_)));exact ⟨_,[],[],Ae rfl,rfl,rfl,rfl,rfl⟩
theorem K6:∀a b c:List UInt8,OM a b=true ->OM b c=true ->OM a c=true
 | [],[],_,h,_=>by simp [OM,Op.bytesLess] at h
 | [],_::_,[],_,h=>by simp [OM,Op.bytesLess] at h
 | [],_::_,_::_,_,_=>by simp [OM,Op.bytesLess]
 | _::_,[],_,h,_=>by simp [OM,Op.bytesLess] at h
 | _::_,_::_,[],_,h=>by simp [OM,Op.bytesLess] at h
 | a::x,b::y,c::z,h1,h2=>by
  simp only [OM,Op.bytesLess,Bool.or_eq_true,decide_eq_true_eq,Bool.and_eq_true,beq_iff_eq] at h1 h2⊢;rcases h1 with h1 | ⟨rfl,h1⟩<;>rcases h2 with h2 | ⟨rfl,h2⟩
  ·exact .inl (UInt8.lt_trans h1 h2)
  ·exact .inl h1
  ·exact .inl h2
  ·exact .inr ⟨rfl,K6 x y z h1 h2⟩
theorem Ik (a:List UInt8):OM a a=false:=by
 have:=Hv a a;simp only [OM]
 cases h:Op.bytesLess a a with
 | false=>rfl
 | true=>rw [h] at this;simp at this
structure PC {γ:Type} (c:γ ->γ ->Int):Prop where
 anti:∀x y,c y x= - c x y
 trans:∀x y z,c x y<0 ->c y z<0 ->c x z<0
 eqv:∀x y z,c x y=0 ->c x z=c y z
theorem cmpI_pc:PC Dc:=⟨fun x y=>by unfold Dc;split<;>split<;>first | omega | rfl,fun x y z=>by unfold Dc;split<;>split<;>(try split)<;>(try split)<;>(try split)<;>(try split)<;>first | omega | simp,fun x y z h=>by
 have:x=y:=by
  unfold Dc at h;split at h; · cases h
  split at h; · cases h
  omega
 rw [this]⟩
theorem Em {a b:List UInt8}:E6 a b=0↔a=b:=by
 unfold E6
 constructor
 ·intro h
  split at h; · cases h
  split at h; · cases h
  rename_i h1 h2
  have:=Hv a b
  change OM b a=(!OM a b && !a==b) at this
  simp only [Bool.not_eq_true] at h1 h2;rw [h1,h2] at this
  simpa using this
 ·rintro rfl;rw [if_neg (by rw [Ik];simp),if_neg (by rw [Ik];simp)]
theorem Mu {a b:List UInt8}:E6 a b<0↔OM a b=true:=by
 unfold E6;split
 ·rename_i h;simp [h]
 ·rename_i h;split<;>simp [h]
theorem cmpS_pc:PC E6:=⟨fun x y=>by
 unfold E6
 by_cases h1:OM x y=true
 ·have h2:¬OM y x=true:=fun h2=>by have:=K6 x y x h1 h2;rw [Ik] at this;cases this
  rw [if_neg h2,if_pos h1,if_pos h1];rfl
 ·by_cases h2:OM y x=true
  ·rw [if_pos h2,if_neg h1,if_pos h2]
  ·rw [if_neg h2,if_neg h1,if_neg h1,if_neg h2];rfl,fun x y z h1 h2=>Mu.2 (K6 x y z (Mu.1 h1) (Mu.1 h2)),fun x y z h=>by rw [Em.1 h]⟩
theorem PC.comap {γ δ:Type} {c:γ ->γ ->Int} (h:PC c) (f:δ ->γ):PC fun x y=>c (f x) (f y):=⟨fun _ _=>h.anti _ _,fun _ _ _=>h.trans _ _ _,fun _ _ _=>h.eqv _ _ _⟩
theorem PC.rev {γ:Type} {c:γ ->γ ->Int} (h:PC c):PC fun x y=>c y x:=⟨fun x y=>h.anti y x,fun x y z h1 h2=>h.trans _ _ _ h2 h1,fun x y z h1=>by
 have e:c x y=0:=by have:=h.anti y x;omega
 have:=h.eqv x y z e
 rw [h.anti x z,h.anti y z,this]⟩
theorem PC.zero {γ:Type}:PC fun _ _:γ=>(0:Int):=⟨fun _ _=>rfl,fun _ _ _ h=>by omega,fun _ _ _ _=>rfl⟩
theorem PC.lex {γ:Type} {c:γ ->γ ->Int} {r:γ ->γ ->List Int} (h:PC c) (h':PC fun x y=>Bi (r x y)):PC fun x y=>Bi (c x y::r x y):=by
 have sw:∀x y,c x y=0↔c y x=0:=fun x y=>by have:=h.anti x y;omega
 refine ⟨fun x y=>?_,fun x y z=>?_,fun x y z=>?_⟩
 ·simp only [Bi]
  by_cases e:c x y=0
  ·rw [if_pos e,if_pos ((sw x y).1 e)];exact h'.anti x y
  ·rw [if_neg e,if_neg (fun e'=>e ((sw x y).2 e'))];exact h.anti x y
 ·simp only [Bi];intro h1 h2
  by_cases e1:c x y=0<;>by_cases e2:c y z=0
  ·have e3:c x z=0:=by rw [h.eqv x y z e1];exact e2
   rw [if_pos e1] at h1;rw [if_pos e2] at h2;rw [if_pos e3];exact h'.trans x y z h1 h2
  ·rw [if_neg e2] at h2;have e3:c x z=c y z:=h.eqv x y z e1;rw [if_neg (by rw [e3];exact e2),e3];exact h2
  ·rw [if_neg e1] at h1;have e3:c z x=c y x:=(h.eqv y z x e2).symm;have e4:c x z=c x y:=by rw [h.anti z x,h.anti y x,e3]
   rw [if_neg (by rw [e4];exact e1),e4];exact h1
  ·rw [if_neg e1] at h1;rw [if_neg e2] at h2;have:=h.trans x y z h1 h2;rw [if_neg (by omega)];exact this
 ·simp only [Bi];intro h1
  have e1:c x y=0:=by
   by_cases e:c x y=0
   ·exact e
   ·rw [if_neg e] at h1;exact h1
  rw [if_pos e1] at h1;rw [h.eqv x y z e1];rw [h'.eqv x y z h1]
theorem PC.last {γ:Type}:PC fun x y:γ=>Bi ((fun _ _:γ=>([]:List Int)) x y):=PC.zero
theorem N7:PC Bv:=
 PC.lex (cmpI_pc.comap A5.k)<| PC.lex (cmpS_pc.comap fun r:A5=>r.acc.o)<| PC.lex (cmpI_pc.comap fun r:A5=>r.acc.k)<| PC.lex (cmpS_pc.comap fun r:A5=>r.acc.a)<| PC.lex (cmpS_pc.comap A5.f)<| PC.lex (cmpS_pc.comap A5.t) PC.last
theorem Dl:PC If:=PC.lex (cmpI_pc.comap AU.pr).rev<| PC.lex (cmpI_pc.comap AU.sq) PC.last
theorem PC.refl {γ:Type} {c:γ ->γ ->Int} (h:PC c) (x:γ):c x x=0:=by have:=h.anti x x;omega
theorem PC.swo {γ:Type} {c:γ ->γ ->Int} (h:PC c):Go.Sort.SWO (ltOf c):=by
 refine ⟨fun x=>?_,fun x y z h1 h2=>?_,fun x y z h1 h2=>?_⟩
 ·simp [ltOf,h.refl]
 ·simp only [ltOf,decide_eq_true_eq] at*;exact h.trans x y z h1 h2
 ·simp only [ltOf,decide_eq_false_iff_not] at*;have a1:=h.anti x y;have a2:=h.anti y z;have a3:=h.anti x z
  by_cases e:c x y=0
  ·rw [h.eqv x y z e];exact h2
  ·by_cases e2:c y z=0
   ·have:=h.eqv y z x e2;rw [h.anti x y,h.anti x z] at this;omega
   ·have:=h.trans z y x (by omega) (by omega);omega
theorem IA {a b:Int}:Dc a b=0↔a=b:=by
 unfold Dc;split
 ·constructor<;>intro h<;>omega
 ·split<;>constructor<;>intro h<;>omega
theorem Db {a b:A5}:Bv a b=0↔a=b:=by
 unfold Bv;simp only [Bi];rw [A5.eq_iff,Ok.eq_iff]
 constructor
 ·intro h
  repeat' split at h
  all_goals first
   | contradiction
   | (rename_i h1 h2 h3 h4 h5 h6;exact ⟨IA.1 h1,⟨Em.1 h2,IA.1 h3,Em.1 h4⟩,Em.1 h5,Em.1 h6⟩)
 ·rintro ⟨h1,⟨h2,h3,h4⟩,h5,h6⟩;rw [h1,h2,h3,h4,h5,h6]
  simp [IA,Em]
theorem DY {γ:Type} {R:γ ->γ ->Prop} (irr:∀x,¬R x x) (tr:∀x y z,R x y ->R y z ->R x z):∀{l m:List γ},l.Pairwise R ->m.Pairwise R ->(∀x,x∈l↔x∈m) ->l=m
 | [],[],_,_,_=>rfl
 | [],b::m,_,_,h=>by have:=(h b).2 (by simp);cases this
 | a::l,[],_,_,h=>by have:=(h a).1 (by simp);cases this
 | a::l,b::m,h1,h2,h=>by
  rw [List.pairwise_cons] at h1 h2
  have e:a=b:=by
   rcases List.mem_cons.1 ((h a).1 (by simp)) with e | h3
   ·exact e
   ·rcases List.mem_cons.1 ((h b).2 (by simp)) with e | h4
    ·exact e.symm
    ·exact absurd (tr _ _ _ (h1.1 b h4) (h2.1 a h3)) (irr a)
  subst e
  congr 1
  refine DY irr tr h1.2 h2.2 fun x=>⟨fun hx=>?_,fun hx=>?_⟩
  ·rcases List.mem_cons.1 ((h x).1 (by simp [hx])) with e | h3
   ·subst e;exact absurd (h1.1 x hx) (irr x)
   ·exact h3
  ·rcases List.mem_cons.1 ((h x).2 (by simp [hx])) with e | h3
   ·subst e;exact absurd (h2.1 x hx) (irr x)
   ·exact h3
abbrev Rb:Ok:=⟨[],0,[]⟩
def B7 (r:A5):Int:=
 if r.k=0 then (if r.acc.o≠ []∧r.acc.a≠ []∧0≤r.acc.k∧r.acc.k<5∧r.f=[]∧r.t=[] then 0 else 3)
 else if r.k=1 then (if r.f≠ []∧r.t≠ []∧r.f≠r.t∧r.acc=Rb then 0 else 3)
 else if r.k=2 then (if r.f≠ []∧r.t=[]∧r.acc=Rb then 0 else 3) else 11
theorem TM (r:A5):AT Tryz.prog 167 [.d (E1 r)] (AF (B7 r)):=by
 refine B6 Tryz.func167 Z Z Tryz.ntmps167 Z Z Z fun F hF=>(AG (AJ (G (CV 1 Z Z Z Z Z Z Z) ?_)));refine AD Z Z (AI (AG (AJ (AD Z Z (AI (AG (AG (AJ ?_))))))))
 first | refine J (AO rfl L3 Z Z Z) ?_ | refine J (AQ rfl L3 Z Z Z) ?_ | refine J (AR rfl L3 Z Z Z) ?_ | refine J (AP rfl L3 Z Z Z) ?_ | refine J (AN rfl L3 Z Z Z) ?_
 first | refine J (A0 Z Z Aa rfl) ?_ | refine J (AX Z Z Z Aa rfl) ?_ | refine J (AZ Z Z (rfl) rfl Aa rfl) ?_
 refine AI (Aw (AG (AJ ?_)))
 first | refine J (EX Z Z Z) ?_ | refine J (EY Z Z Z) ?_ | refine J (EO Z Z Z) ?_ | refine J (ER Tryz.underlying3 Z Z Z) ?_ | refine J (EU Tryz.underlying3 Z Z Z) ?_ | refine J (ET Tryz.underlying3 Z Z) ?_ | refine J (ES Tryz.underlying3 Z Z Z) ?_ | refine J (EW Tryz.underlying3 Z Z) ?_
 refine AD Z Z (AI ?_)
 first | refine BP rfl (fun h6=>?_) (fun h6=>?_) | refine BK rfl (fun h6=>?_) (fun h6=>?_)
 ·refine AJ ?_
  first | refine J (AO rfl Br Z Z Z) ?_ | refine J (AQ rfl Br Z Z Z) ?_ | refine J (AR rfl Br Z Z Z) ?_ | refine J (AP rfl Br Z Z Z) ?_ | refine J (AN rfl Br Z Z Z) ?_
  first | refine J (AO rfl JE Z Z Z) ?_ | refine J (AQ rfl JE Z Z Z) ?_ | refine J (AR rfl JE Z Z Z) ?_ | refine J (AP rfl JE Z Z Z) ?_ | refine J (AN rfl JE Z Z Z) ?_
  first | refine J (A0 Z Z Ar rfl) ?_ | refine J (AX Z Z Z Ar rfl) ?_ | refine J (AZ Z Z (rfl) rfl Ar rfl) ?_
  first | refine J (Ec Z Z Z) ?_ | refine J (Eb Z Z Z) ?_ | refine J (EV Z Z Z) ?_ | refine J (E8 Tryz.underlying9 Z Z Z) ?_ | refine J (Ea Tryz.underlying9 Z Z Z) ?_ | refine J (st_neqN Tryz.underlying9 Z Z) ?_ | refine J (E9 Tryz.underlying9 Z Z Z) ?_ | refine J (st_neqFN Tryz.underlying9 Z Z) ?_
  refine AC Z Z ?_
  first | refine JH 12 rfl (fun h12=>?_) (fun h12=>?_) | refine IW 12 rfl (fun h12=>?_) (fun h12=>?_)
  ·refine A9 Z Z Z ?_
   first | refine J (AO rfl Br Z Z Z) ?_ | refine J (AQ rfl Br Z Z Z) ?_ | refine J (AR rfl Br Z Z Z) ?_ | refine J (AP rfl Br Z Z Z) ?_ | refine J (AN rfl Br Z Z Z) ?_
   refine A9 Z Z Z ?_
   first | refine J (AO rfl Hh Z Z Z) ?_ | refine J (AQ rfl Hh Z Z Z) ?_ | refine J (AR rfl Hh Z Z Z) ?_ | refine J (AP rfl Hh Z Z Z) ?_ | refine J (AN rfl Hh Z Z Z) ?_
   refine A9 Z Z Z ?_
   first | refine J (A0 Z Z Ar rfl) ?_ | refine J (AX Z Z Z Ar rfl) ?_ | refine J (AZ Z Z (rfl) rfl Ar rfl) ?_
   refine A9 Z Z Z ?_
   first | refine J (Ec Z Z Z) ?_ | refine J (Eb Z Z Z) ?_ | refine J (EV Z Z Z) ?_ | refine J (E8 Tryz.underlying9 Z Z Z) ?_ | refine J (Ea Tryz.underlying9 Z Z Z) ?_ | refine J (st_neqN Tryz.underlying9 Z Z) ?_ | refine J (E9 Tryz.underlying9 Z Z Z) ?_ | refine J (st_neqFN Tryz.underlying9 Z Z) ?_
   refine J (DX Z Z Z Z) (AC Z Z ?_)
   first | refine JH 18 rfl (fun h18=>?_) (fun h18=>?_) | refine IW 18 rfl (fun h18=>?_) (fun h18=>?_)
   ·refine A9 Z Z Z ?_
    first | refine J (AO rfl Br Z Z Z) ?_ | refine J (AQ rfl Br Z Z Z) ?_ | refine J (AR rfl Br Z Z Z) ?_ | refine J (AP rfl Br Z Z Z) ?_ | refine J (AN rfl Br Z Z Z) ?_
    refine A9 Z Z Z ?_
    first | refine J (AO rfl Hg Z Z Z) ?_ | refine J (AQ rfl Hg Z Z Z) ?_ | refine J (AR rfl Hg Z Z Z) ?_ | refine J (AP rfl Hg Z Z Z) ?_ | refine J (AN rfl Hg Z Z Z) ?_
    refine A9 Z Z Z ?_
    first | refine J (A0 Z Z Aa rfl) ?_ | refine J (AX Z Z Z Aa rfl) ?_ | refine J (AZ Z Z (rfl) rfl Aa rfl) ?_
    refine A9 Z Z Z (J (KM Z Z Z) (J (DX Z Z Z Z) (AC Z Z ?_)))
    first | refine JH 24 rfl (fun h24=>?_) (fun h24=>?_) | refine IW 24 rfl (fun h24=>?_) (fun h24=>?_)
    ·refine A9 Z Z Z ?_
     first | refine J (AO rfl Br Z Z Z) ?_ | refine J (AQ rfl Br Z Z Z) ?_ | refine J (AR rfl Br Z Z Z) ?_ | refine J (AP rfl Br Z Z Z) ?_ | refine J (AN rfl Br Z Z Z) ?_
     refine A9 Z Z Z ?_
     first | refine J (AO rfl Hg Z Z Z) ?_ | refine J (AQ rfl Hg Z Z Z) ?_ | refine J (AR rfl Hg Z Z Z) ?_ | refine J (AP rfl Hg Z Z Z) ?_ | refine J (AN rfl Hg Z Z Z) ?_
     refine A9 Z Z Z ?_
     first | refine J (A0 Z Z Aa rfl) ?_ | refine J (AX Z Z Z Aa rfl) ?_ | refine J (AZ Z Z (rfl) rfl Aa rfl) ?_
     refine A9 Z Z Z ?_
     first | refine J (Cc Z Z Z) ?_ | refine J (Cb Z Z Z) ?_
     refine J (DX Z Z Z Z) (AC Z Z ?_)
     first | refine JH 30 rfl (fun h30=>?_) (fun h30=>?_) | refine IW 30 rfl (fun h30=>?_) (fun h30=>?_)
     ·refine A9 Z Z Z ?_
      first | refine J (AO rfl FO Z Z Z) ?_ | refine J (AQ rfl FO Z Z Z) ?_ | refine J (AR rfl FO Z Z Z) ?_ | refine J (AP rfl FO Z Z Z) ?_ | refine J (AN rfl FO Z Z Z) ?_
      refine A9 Z Z Z ?_
      first | refine J (A0 Z Z Ar rfl) ?_ | refine J (AX Z Z Z Ar rfl) ?_ | refine J (AZ Z Z (rfl) rfl Ar rfl) ?_
      refine A9 Z Z Z ?_
      first | refine J (EX Z Z Z) ?_ | refine J (EY Z Z Z) ?_ | refine J (EO Z Z Z) ?_ | refine J (ER Tryz.underlying9 Z Z Z) ?_ | refine J (EU Tryz.underlying9 Z Z Z) ?_ | refine J (ET Tryz.underlying9 Z Z) ?_ | refine J (ES Tryz.underlying9 Z Z Z) ?_ | refine J (EW Tryz.underlying9 Z Z) ?_
      refine J (DX Z Z Z Z) (AC Z Z ?_)
      first | refine JH 35 rfl (fun h35=>?_) (fun h35=>?_) | refine IW 35 rfl (fun h35=>?_) (fun h35=>?_)
      ·refine A9 Z Z Z ?_
       first | refine J (AO rfl GI Z Z Z) ?_ | refine J (AQ rfl GI Z Z Z) ?_ | refine J (AR rfl GI Z Z Z) ?_ | refine J (AP rfl GI Z Z Z) ?_ | refine J (AN rfl GI Z Z Z) ?_
       refine A9 Z Z Z ?_
       first | refine J (A0 Z Z Ar rfl) ?_ | refine J (AX Z Z Z Ar rfl) ?_ | refine J (AZ Z Z (rfl) rfl Ar rfl) ?_
       refine A9 Z Z Z ?_
       first | refine J (EX Z Z Z) ?_ | refine J (EY Z Z Z) ?_ | refine J (EO Z Z Z) ?_ | refine J (ER Tryz.underlying9 Z Z Z) ?_ | refine J (EU Tryz.underlying9 Z Z Z) ?_ | refine J (ET Tryz.underlying9 Z Z) ?_ | refine J (ES Tryz.underlying9 Z Z Z) ?_ | refine J (EW Tryz.underlying9 Z Z) ?_
       refine J (DX Z Z Z Z) (AD Z Z (AI (AG (AG (AJ (AC Z Z ?_))))))
       first | refine J (G9 Z Z) ?_ | refine J (GJ Z Z) ?_
       refine AI ?_
       first | refine BP rfl (fun h80=>?_) (fun h80=>?_) | refine BK rfl (fun h80=>?_) (fun h80=>?_)
       ·refine AG (AJ (AD Z Z (AI (Af ?_))));exact ⟨_,[],[],Ae rfl,rfl,rfl,Ak (by unfold B7;simp_all<;>(intros;omega)),rfl⟩
       ·refine An (AG (AJ (AD Z Z (AI (Af ?_)))));exact ⟨_,[],[],Ae rfl,rfl,rfl,Ak (by unfold B7;simp_all<;>(intros;omega)),rfl⟩
      ·refine Ac Z Z Z Z (Ac Z Z Z Z (Ac Z Z Z Z (J (EG Z Z Z Z) (AD Z Z (AI (AG (AG (AJ ?_))))))));refine AC Z Z (J (Di Z Z) (AI (EL Z Z (AG (AJ (AD Z Z (AI (Af ?_))))))));exact ⟨_,[],[],Ae rfl,rfl,rfl,Ak (by unfold B7;simp_all<;>(intros;omega)),rfl⟩
     ·refine Ac Z Z Z Z (Ac Z Z Z Z (Ac Z Z Z Z (J (EG Z Z Z Z) (AC Z Z ?_))));refine Ac Z Z Z Z (Ac Z Z Z Z (Ac Z Z Z Z (J (EG Z Z Z Z) (AD Z Z (AI (AG (AG (AJ ?_))))))));refine AC Z Z (J (Di Z Z) (AI (EL Z Z (AG (AJ (AD Z Z (AI (Af ?_))))))));exact ⟨_,[],[],Ae rfl,rfl,rfl,Ak (by unfold B7;simp_all<;>(intros;omega)),rfl⟩
    ·refine Ac Z Z Z Z (Ac Z Z Z Z ?_);refine Ac Z Z Z Z (Ac Z Z Z Z (J (EG Z Z Z Z) (AC Z Z (Ac Z Z Z Z (Ac Z Z Z Z (Ac Z Z Z Z (J (EG Z Z Z Z) (AC Z Z ?_))))))));refine Ac Z Z Z Z (Ac Z Z Z Z (Ac Z Z Z Z (J (EG Z Z Z Z) (AD Z Z (AI (AG (AG (AJ ?_))))))));refine AC Z Z (J (Di Z Z) (AI (EL Z Z (AG (AJ (AD Z Z (AI (Af ?_))))))));exact ⟨_,[],[],Ae rfl,rfl,rfl,Ak (by unfold B7;simp_all<;>(intros;omega)),rfl⟩
   ·refine Ac Z Z Z Z (Ac Z Z Z Z (Ac Z Z Z Z (Ac Z Z Z Z (J (EG Z Z Z Z) (AC Z Z (Ac Z Z Z Z (Ac Z Z Z Z ?_)))))));refine Ac Z Z Z Z (Ac Z Z Z Z (J (EG Z Z Z Z) (AC Z Z (Ac Z Z Z Z (Ac Z Z Z Z (Ac Z Z Z Z (J (EG Z Z Z Z) (AC Z Z ?_))))))));refine Ac Z Z Z Z (Ac Z Z Z Z (Ac Z Z Z Z (J (EG Z Z Z Z) (AD Z Z (AI (AG (AG (AJ ?_))))))));refine AC Z Z (J (Di Z Z) (AI (EL Z Z (AG (AJ (AD Z Z (AI (Af ?_))))))));exact ⟨_,[],[],Ae rfl,rfl,rfl,Ak (by unfold B7;simp_all<;>(intros;omega)),rfl⟩
  ·refine Ac Z Z Z Z (Ac Z Z Z Z (Ac Z Z Z Z (Ac Z Z Z Z (J (EG Z Z Z Z) ?_))));refine AC Z Z (Ac Z Z Z Z (Ac Z Z Z Z (Ac Z Z Z Z (Ac Z Z Z Z (J (EG Z Z Z Z) (AC Z Z (Ac Z Z Z Z (Ac Z Z Z Z ?_))))))));refine Ac Z Z Z Z (Ac Z Z Z Z (J (EG Z Z Z Z) (AC Z Z (Ac Z Z Z Z (Ac Z Z Z Z (Ac Z Z Z Z (J (EG Z Z Z Z) (AC Z Z ?_))))))));refine Ac Z Z Z Z (Ac Z Z Z Z (Ac Z Z Z Z (J (EG Z Z Z Z) (AD Z Z (AI (AG (AG (AJ ?_))))))));refine AC Z Z (J (Di Z Z) (AI (EL Z Z (AG (AJ (AD Z Z (AI (Af ?_))))))));exact ⟨_,[],[],Ae rfl,rfl,rfl,Ak (by unfold B7;simp_all<;>(intros;omega)),rfl⟩
 ·refine AG (AJ ?_)
  first | refine J (EX Z Z Z) ?_ | refine J (EY Z Z Z) ?_ | refine J (EO Z Z Z) ?_ | refine J (ER Tryz.underlying3 Z Z Z) ?_ | refine J (EU Tryz.underlying3 Z Z Z) ?_ | refine J (ET Tryz.underlying3 Z Z) ?_ | refine J (ES Tryz.underlying3 Z Z Z) ?_ | refine J (EW Tryz.underlying3 Z Z) ?_
  refine AD Z Z (AI ?_)
  first | refine BP rfl (fun h40=>?_) (fun h40=>?_) | refine BK rfl (fun h40=>?_) (fun h40=>?_)
  ·refine AJ ?_
   first | refine J (AO rfl FO Z Z Z) ?_ | refine J (AQ rfl FO Z Z Z) ?_ | refine J (AR rfl FO Z Z Z) ?_ | refine J (AP rfl FO Z Z Z) ?_ | refine J (AN rfl FO Z Z Z) ?_
   first | refine J (A0 Z Z Ar rfl) ?_ | refine J (AX Z Z Z Ar rfl) ?_ | refine J (AZ Z Z (rfl) rfl Ar rfl) ?_
   first | refine J (Ec Z Z Z) ?_ | refine J (Eb Z Z Z) ?_ | refine J (EV Z Z Z) ?_ | refine J (E8 Tryz.underlying9 Z Z Z) ?_ | refine J (Ea Tryz.underlying9 Z Z Z) ?_ | refine J (st_neqN Tryz.underlying9 Z Z) ?_ | refine J (E9 Tryz.underlying9 Z Z Z) ?_ | refine J (st_neqFN Tryz.underlying9 Z Z) ?_
   refine AC Z Z ?_
   first | refine JH 45 rfl (fun h45=>?_) (fun h45=>?_) | refine IW 45 rfl (fun h45=>?_) (fun h45=>?_)
   ·refine A9 Z Z Z ?_
    first | refine J (AO rfl GI Z Z Z) ?_ | refine J (AQ rfl GI Z Z Z) ?_ | refine J (AR rfl GI Z Z Z) ?_ | refine J (AP rfl GI Z Z Z) ?_ | refine J (AN rfl GI Z Z Z) ?_
    refine A9 Z Z Z ?_
    first | refine J (A0 Z Z Ar rfl) ?_ | refine J (AX Z Z Z Ar rfl) ?_ | refine J (AZ Z Z (rfl) rfl Ar rfl) ?_
    refine A9 Z Z Z ?_
    first | refine J (Ec Z Z Z) ?_ | refine J (Eb Z Z Z) ?_ | refine J (EV Z Z Z) ?_ | refine J (E8 Tryz.underlying9 Z Z Z) ?_ | refine J (Ea Tryz.underlying9 Z Z Z) ?_ | refine J (st_neqN Tryz.underlying9 Z Z) ?_ | refine J (E9 Tryz.underlying9 Z Z Z) ?_ | refine J (st_neqFN Tryz.underlying9 Z Z) ?_
    refine J (DX Z Z Z Z) (AC Z Z ?_)
    first | refine JH 50 rfl (fun h50=>?_) (fun h50=>?_) | refine IW 50 rfl (fun h50=>?_) (fun h50=>?_)
    ·refine A9 Z Z Z ?_
     first | refine J (AO rfl FO Z Z Z) ?_ | refine J (AQ rfl FO Z Z Z) ?_ | refine J (AR rfl FO Z Z Z) ?_ | refine J (AP rfl FO Z Z Z) ?_ | refine J (AN rfl FO Z Z Z) ?_
     refine A9 Z Z Z ?_
     first | refine J (A0 Z Z Ar rfl) ?_ | refine J (AX Z Z Z Ar rfl) ?_ | refine J (AZ Z Z (rfl) rfl Ar rfl) ?_
     refine A9 Z Z Z ?_
     first | refine J (AO rfl GI Z Z Z) ?_ | refine J (AQ rfl GI Z Z Z) ?_ | refine J (AR rfl GI Z Z Z) ?_ | refine J (AP rfl GI Z Z Z) ?_ | refine J (AN rfl GI Z Z Z) ?_
     refine A9 Z Z Z ?_
     first | refine J (A0 Z Z Ar rfl) ?_ | refine J (AX Z Z Z Ar rfl) ?_ | refine J (AZ Z Z (rfl) rfl Ar rfl) ?_
     refine A9 Z Z Z ?_
     first | refine J (Ec Z Z Z) ?_ | refine J (Eb Z Z Z) ?_ | refine J (EV Z Z Z) ?_ | refine J (E8 Tryz.underlying9 Z Z Z) ?_ | refine J (Ea Tryz.underlying9 Z Z Z) ?_ | refine J (st_neqN Tryz.underlying9 Z Z) ?_ | refine J (E9 Tryz.underlying9 Z Z Z) ?_ | refine J (st_neqFN Tryz.underlying9 Z Z) ?_
     refine J (DX Z Z Z Z) (AC Z Z ?_)
     first | refine JH 57 rfl (fun h57=>?_) (fun h57=>?_) | refine IW 57 rfl (fun h57=>?_) (fun h57=>?_)
     ·refine A9 Z Z Z ?_
      first | refine J (AO rfl Br Z Z Z) ?_ | refine J (AQ rfl Br Z Z Z) ?_ | refine J (AR rfl Br Z Z Z) ?_ | refine J (AP rfl Br Z Z Z) ?_ | refine J (AN rfl Br Z Z Z) ?_
      refine A9 Z Z Z ?_
      first | refine J (At Z Z Gj rfl) ?_ | refine J (Au Z Z Gj Z Z Z) ?_ | refine J (Av Z Z (rfl) rfl Gj rfl) ?_
      refine A9 Z Z Z (J (DC NN QZ Z Z Z) ?_);refine A9 Z Z Z (J (Lr (la:=Rd r.acc) (lb:=Rd Rb) (ds:=accT) (by kernel_rfl) (by kernel_rfl) (by kernel_rfl) Z Z Z Z (ID _) (ID _) (UV _ _) rfl) (J (DX Z Z Z Z) (AD Z Z (AI (AG (AG (AJ (AC Z Z ?_))))))))
      first | refine J (G9 Z Z) ?_ | refine J (GJ Z Z) ?_
      refine AI ?_
      first | refine BP rfl (fun h80=>?_) (fun h80=>?_) | refine BK rfl (fun h80=>?_) (fun h80=>?_)
      ·refine AG (AJ (AD Z Z (AI (Af ?_))));exact ⟨_,[],[],Ae rfl,rfl,rfl,Ak (by unfold B7;simp_all<;>(intros;omega)),rfl⟩
      ·refine An (AG (AJ (AD Z Z (AI (Af ?_)))));exact ⟨_,[],[],Ae rfl,rfl,rfl,Ak (by unfold B7;simp_all<;>(intros;omega)),rfl⟩
     ·refine Ac Z Z Z Z ?_;refine Ac Z Z Z Z (Ac Z Z Z Z (Ac Z Z Z Z (J (EG Z Z Z Z) (AD Z Z (AI (AG (AG (AJ ?_))))))));refine AC Z Z (J (Di Z Z) (AI (EL Z Z (AG (AJ (AD Z Z (AI (Af ?_))))))));exact ⟨_,[],[],Ae rfl,rfl,rfl,Ak (by unfold B7;simp_all<;>(intros;omega)),rfl⟩
    ·refine Ac Z Z Z Z (Ac Z Z Z Z (Ac Z Z Z Z (Ac Z Z Z Z (Ac Z Z Z Z (J (EG Z Z Z Z) (AC Z Z (Ac Z Z Z Z ?_)))))));refine Ac Z Z Z Z (Ac Z Z Z Z (Ac Z Z Z Z (J (EG Z Z Z Z) (AD Z Z (AI (AG (AG (AJ ?_))))))));refine AC Z Z (J (Di Z Z) (AI (EL Z Z (AG (AJ (AD Z Z (AI (Af ?_))))))));exact ⟨_,[],[],Ae rfl,rfl,rfl,Ak (by unfold B7;simp_all<;>(intros;omega)),rfl⟩
   ·refine Ac Z Z Z Z (Ac Z Z Z Z (Ac Z Z Z Z (J (EG Z Z Z Z) ?_)));refine AC Z Z (Ac Z Z Z Z (Ac Z Z Z Z (Ac Z Z Z Z (Ac Z Z Z Z (Ac Z Z Z Z (J (EG Z Z Z Z) (AC Z Z (Ac Z Z Z Z ?_))))))));refine Ac Z Z Z Z (Ac Z Z Z Z (Ac Z Z Z Z (J (EG Z Z Z Z) (AD Z Z (AI (AG (AG (AJ ?_))))))));refine AC Z Z (J (Di Z Z) (AI (EL Z Z (AG (AJ (AD Z Z (AI (Af ?_))))))));exact ⟨_,[],[],Ae rfl,rfl,rfl,Ak (by unfold B7;simp_all<;>(intros;omega)),rfl⟩
  ·refine AG (AJ ?_)
   first | refine J (EX Z Z Z) ?_ | refine J (EY Z Z Z) ?_ | refine J (EO Z Z Z) ?_ | refine J (ER Tryz.underlying3 Z Z Z) ?_ | refine J (EU Tryz.underlying3 Z Z Z) ?_ | refine J (ET Tryz.underlying3 Z Z) ?_ | refine J (ES Tryz.underlying3 Z Z Z) ?_ | refine J (EW Tryz.underlying3 Z Z) ?_
   refine AD Z Z (AI ?_)
   first | refine BP rfl (fun h63=>?_) (fun h63=>?_) | refine BK rfl (fun h63=>?_) (fun h63=>?_)
   ·refine AJ ?_
    first | refine J (AO rfl FO Z Z Z) ?_ | refine J (AQ rfl FO Z Z Z) ?_ | refine J (AR rfl FO Z Z Z) ?_ | refine J (AP rfl FO Z Z Z) ?_ | refine J (AN rfl FO Z Z Z) ?_
    first | refine J (A0 Z Z Ar rfl) ?_ | refine J (AX Z Z Z Ar rfl) ?_ | refine J (AZ Z Z (rfl) rfl Ar rfl) ?_
    first | refine J (Ec Z Z Z) ?_ | refine J (Eb Z Z Z) ?_ | refine J (EV Z Z Z) ?_ | refine J (E8 Tryz.underlying9 Z Z Z) ?_ | refine J (Ea Tryz.underlying9 Z Z Z) ?_ | refine J (st_neqN Tryz.underlying9 Z Z) ?_ | refine J (E9 Tryz.underlying9 Z Z Z) ?_ | refine J (st_neqFN Tryz.underlying9 Z Z) ?_
    refine AC Z Z ?_
    first | refine JH 68 rfl (fun h68=>?_) (fun h68=>?_) | refine IW 68 rfl (fun h68=>?_) (fun h68=>?_)
    ·refine A9 Z Z Z ?_
     first | refine J (AO rfl GI Z Z Z) ?_ | refine J (AQ rfl GI Z Z Z) ?_ | refine J (AR rfl GI Z Z Z) ?_ | refine J (AP rfl GI Z Z Z) ?_ | refine J (AN rfl GI Z Z Z) ?_
     refine A9 Z Z Z ?_
     first | refine J (A0 Z Z Ar rfl) ?_ | refine J (AX Z Z Z Ar rfl) ?_ | refine J (AZ Z Z (rfl) rfl Ar rfl) ?_
     refine A9 Z Z Z ?_
     first | refine J (EX Z Z Z) ?_ | refine J (EY Z Z Z) ?_ | refine J (EO Z Z Z) ?_ | refine J (ER Tryz.underlying9 Z Z Z) ?_ | refine J (EU Tryz.underlying9 Z Z Z) ?_ | refine J (ET Tryz.underlying9 Z Z) ?_ | refine J (ES Tryz.underlying9 Z Z Z) ?_ | refine J (EW Tryz.underlying9 Z Z) ?_
     refine J (DX Z Z Z Z) (AC Z Z ?_)
     first | refine JH 73 rfl (fun h73=>?_) (fun h73=>?_) | refine IW 73 rfl (fun h73=>?_) (fun h73=>?_)
     ·refine A9 Z Z Z ?_
      first | refine J (AO rfl Br Z Z Z) ?_ | refine J (AQ rfl Br Z Z Z) ?_ | refine J (AR rfl Br Z Z Z) ?_ | refine J (AP rfl Br Z Z Z) ?_ | refine J (AN rfl Br Z Z Z) ?_
      refine A9 Z Z Z ?_
      first | refine J (At Z Z Gj rfl) ?_ | refine J (Au Z Z Gj Z Z Z) ?_ | refine J (Av Z Z (rfl) rfl Gj rfl) ?_
      refine A9 Z Z Z (J (DC NN QZ Z Z Z) ?_);refine A9 Z Z Z (J (Lr (la:=Rd r.acc) (lb:=Rd Rb) (ds:=accT) (by kernel_rfl) (by kernel_rfl) (by kernel_rfl) Z Z Z Z (ID _) (ID _) (UV _ _) rfl) (J (DX Z Z Z Z) (AD Z Z (AI (AG (AG (AJ (AC Z Z ?_))))))))
      first | refine J (G9 Z Z) ?_ | refine J (GJ Z Z) ?_
      refine AI ?_
      first | refine BP rfl (fun h80=>?_) (fun h80=>?_) | refine BK rfl (fun h80=>?_) (fun h80=>?_)
      ·refine AG (AJ (AD Z Z (AI (Af ?_))));exact ⟨_,[],[],Ae rfl,rfl,rfl,Ak (by unfold B7;simp_all<;>(intros;omega)),rfl⟩
      ·refine An (AG (AJ (AD Z Z (AI (Af ?_)))));exact ⟨_,[],[],Ae rfl,rfl,rfl,Ak (by unfold B7;simp_all<;>(intros;omega)),rfl⟩
     ·refine Ac Z Z Z Z ?_;refine Ac Z Z Z Z (Ac Z Z Z Z (Ac Z Z Z Z (J (EG Z Z Z Z) (AD Z Z (AI (AG (AG (AJ ?_))))))));refine AC Z Z (J (Di Z Z) (AI (EL Z Z (AG (AJ (AD Z Z (AI (Af ?_))))))));exact ⟨_,[],[],Ae rfl,rfl,rfl,Ak (by unfold B7;simp_all<;>(intros;omega)),rfl⟩
    ·refine Ac Z Z Z Z (Ac Z Z Z Z (Ac Z Z Z Z (J (EG Z Z Z Z) (AC Z Z (Ac Z Z Z Z ?_)))));refine Ac Z Z Z Z (Ac Z Z Z Z (Ac Z Z Z Z (J (EG Z Z Z Z) (AD Z Z (AI (AG (AG (AJ ?_))))))));refine AC Z Z (J (Di Z Z) (AI (EL Z Z (AG (AJ (AD Z Z (AI (Af ?_))))))));exact ⟨_,[],[],Ae rfl,rfl,rfl,Ak (by unfold B7;simp_all<;>(intros;omega)),rfl⟩
   ·refine AG (AJ (AD Z Z (AI (Af ?_))));exact ⟨_,[],[],Ae rfl,rfl,rfl,Ak (by unfold B7;simp_all<;>(intros;omega)),rfl⟩
def P0:List A5 ->A5 ->List A5
 | [],r=> [r]
 | a::l,r=>if Bv a r<0 then a::P0 l r else if a=r then a::l else r::a::l
def Vo (l:List A5):Prop:=l.Pairwise fun a b=>Bv a b<0
theorem insR_mem {l:List A5} {r x:A5}:x∈P0 l r↔x=r∨x∈l:=by
 induction l with
 | nil=>simp [P0]
 | cons a l ih=>
  simp only [P0]
  split
  ·simp only [List.mem_cons,ih];constructor<;>intro h<;>rcases h with h | h | h<;>simp [h]
  ·split
   ·rename_i h;subst h;simp
   ·simp
theorem Xf {l:List A5} (h:Vo l) (r:A5):Vo (P0 l r):=by
 induction l with
 | nil=>simp [P0,Vo]
 | cons a l ih=>
  simp only [Vo,List.pairwise_cons] at h;simp only [P0]
  split
  ·rename_i h1
   refine List.pairwise_cons.2 ⟨fun x hx=>?_,ih h.2⟩;rcases insR_mem.1 hx with rfl | hx
   ·exact h1
   ·exact h.1 x hx
  ·split
   ·exact List.pairwise_cons.2 h
   ·rename_i h1 h2
    have h3:Bv r a<0:=by
     have:=N7.anti a r;have h4:Bv a r≠0:=fun e=>h2 (Db.1 e);omega
    refine List.pairwise_cons.2 ⟨fun x hx=>?_,List.pairwise_cons.2 h⟩;rcases List.mem_cons.1 hx with rfl | hx
    ·exact h3
    ·exact N7.trans _ _ _ h3 (h.1 x hx)
def QF (c:List (A5×Int)):List A5:=(c.map Prod.fst).foldl P0 []
theorem Nc (c:List (A5×Int)) (x:A5×Int):QF (c++ [x])=P0 (QF c) x.1:=by simp [QF]
theorem QE (c:List (A5×Int)) (r:A5):r∈QF c↔r∈c.map Prod.fst:=by
 induction c using Y0 with
 | h0=>simp [QF]
 | h1 l x ih=>rw [Nc,insR_mem,ih];simp only [List.map_append,List.map_cons,List.map_nil,List.mem_append,List.mem_singleton];exact or_comm
theorem WE (c:List (A5×Int)):Vo (QF c):=by
 induction c using Y0 with
 | h0=>simp [QF,Vo]
 | h1 l x ih=>rw [Nc];exact Xf ih _
def Kj (c:List (A5×Int)):List (A5×Int):=((QF c).map fun r=>(r,B8 c r)).filter fun x=>decide (x.2≠0)
def dltL (i:AU):List (A5×Int):=Kj (ctr i)
theorem Ju (c:List (A5×Int)):(Kj c).Pairwise fun a b=>Bv a.1 b.1<0:=by
 unfold Kj;refine List.Pairwise.filter _ ?_;rw [List.pairwise_map];exact WE c
theorem Gz (c:List (A5×Int)) (a:A5) (b:Int):(a,b)∈sumL c↔a∈c.map Prod.fst∧b=B8 c a:=by
 constructor
 ·intro h;refine ⟨(KL c a).1 (List.mem_map.2 ⟨_,h,rfl⟩),?_⟩;rw [←JT,Zc3 (I4 c) h]
 ·rintro ⟨h,rfl⟩;rw [←JT];exact Qi ((KL c a).2 h)
theorem H3 (c:List (A5×Int)) (x:A5×Int):x∈Kj c↔x∈sumL c∧x.2≠0:=by
 obtain ⟨a,b⟩:=x;unfold Kj;rw [List.mem_filter,List.mem_map,Gz];simp only [Prod.mk.injEq,decide_eq_true_eq]
 constructor
 ·rintro ⟨⟨r,hr,rfl,rfl⟩,h⟩;exact ⟨⟨(QE c r).1 hr,rfl⟩,h⟩
 ·rintro ⟨⟨h1,rfl⟩,h⟩;exact ⟨⟨a,(QE c a).2 h1,rfl,rfl⟩,h⟩
theorem UK {c acc ys:List (A5×Int)} (h1:acc.Perm ((sumL c).filter fun x=>decide (x.2≠0))) (h2:ys.Perm acc) (h3:ys.Pairwise fun a b=>¬Bv b.1 a.1<0):ys=Kj c:=by
 have hp:=h2.trans h1;refine DY (R:=fun a b=>Bv a.1 b.1<0) (fun x=>by rw [N7.refl];omega) (fun x y z=>N7.trans x.1 y.1 z.1) ?_ (Ju c) fun x=>?_
 ·have hn:(ys.map Prod.fst).Nodup:=by
   refine ((hp.map Prod.fst).nodup_iff).2 ?_;exact (I4 c).sublist (List.Sublist.map _ List.filter_sublist)
  rw [List.Nodup,List.pairwise_map] at hn;refine (h3.and hn).imp fun {a b} ⟨g1,g2⟩=>?_;have:=N7.anti a.1 b.1;have g3:Bv a.1 b.1≠0:=fun e=>g2 (Db.1 e);omega
 ·rw [hp.mem_iff,H3,List.mem_filter,decide_eq_true_eq]
theorem YA (x:A5×Int):∃cs,Pb x= .agg cs:=⟨_,rfl⟩
theorem Ui {c acc:List (A5×Int)} (h1:acc.Perm ((sumL c).filter fun x=>decide (x.2≠0))):acc.length=(Kj c).length:=by
 have hs:=List.pairwise_mergeSort (le:=fun a b:A5×Int=>decide (¬Bv b.1 a.1<0)) (fun a b d h1 h2=>by
  have:=N7.swo.ntrans d.1 b.1 a.1;simp only [ltOf,decide_eq_false_iff_not] at this;simp only [decide_eq_true_eq] at h1 h2⊢
  exact this h2 h1) (fun a b=>by have:=N7.anti a.1 b.1;simp only [Bool.or_eq_true,decide_eq_true_eq];omega) acc
 have hp:=List.mergeSort_perm acc (fun a b:A5×Int=>decide (¬Bv b.1 a.1<0));rw [←UK h1 hp (hs.imp fun {a b} h=>by simpa using h)];exact hp.length_eq.symm
section
variable {F:Fr} {s:AS} {d:Nat} {x y:Operand} {ty:TypeId} {pos:String} {aft:Array Edge} {gd:Option (Nat×Bool)} {at_:Array TypeId} {f n:Nat} {row:List D} {hp':Hp}
theorem WP (c acc:List (A5×Int)) (h1:acc.Perm ((sumL c).filter fun x=>decide (x.2≠0))) (hsz:acc.length<4611686018427387904) (hx:s.ev x=some (.own f 0 n)) (hy:s.ev y=some (.d (.raw (.func (.func 32) #[] #[])))) (ho:hget s.hp f 0=some (.rowD 55 7 row)) (hrow:row=acc.map Pb) (hn:n=acc.length) (hh:Bk s.hp f 0 (.rowD 55 7 ((Kj c).map Pb))=some hp') (hd:Nat.blt d s.n=true):
  AM Tryz.prog F ⟨some d,.call {callee:= .value (.func 31),args:= #[x,y],argTypes:=at_},ty,pos,aft,gd⟩ s ⟨s.n,(d,.d (.tup []))::s.env,hp'⟩ (fun _ _=>true):=
 Ov laysD (k:=7) (by decide) Tryz.isAgg55 Tryz.sizeOf55 Tryz.func32 Z Z YA (fun a b=>Bv a.1 b.1) (N7.comap Prod.fst).swo acc (Kj c) hsz (fun x _ y _=>V5 x y) (fun ys g1 g2=>UK h1 g1 g2) rfl hx hy P8 ho hrow hn hh hd
end
def dltS (i:AU):List (A5×Int):=if B9 i=0 then dltL i else []
theorem Jm {l:List Int} (h:Bi l=0):∀x∈l,x=0:=by
 have:=(YU (l:=l) (f:=id)).1 (by rw [List.map_id];exact h);exact this
theorem Mv {i:AU} (h:B9 i=0):ItmB i∧(0≤i.id∧i.id≤1000000000)∧(0≤i.sq∧i.sq≤1000000000)∧(0≤i.pr∧i.pr≤2)∧Nz i=0∧Ux i=0∧aftE i=0∧Sz i=0∧R4 i=0:=by
 unfold B9 at h
 split at h; · cases h
 split at h; · cases h
 rename_i h1 h2
 have h3:=Jm h;have e1:=h3 (Nz i) (by simp [Ps]);have e2:=h3 (Ux i) (by simp [Ps]);exact ⟨⟨by omega,by omega,by omega,S0 e1,pay_b e2⟩,by omega,by omega,by omega,e1,e2,h3 _ (by simp [Ps]),h3 _ (by simp [Ps]),h3 _ (by simp [Ps])⟩
theorem Ms (i:AU):(ctr i).length=i.po.length+4*i.pa.length:=by simp [ctr,Jx,LL]
theorem Kt (c:List (A5×Int)):(sumL c).length≤c.length:=by
 induction c using Y0 with
 | h0=>simp [sumL]
 | h1 l x ih=>
  rw [TC];unfold YP;have:=Jg (m:=sumL l) (a:=x.1) (b:=Ai (sumL l) x.1 0+x.2);simp only [List.length_append,List.length_singleton];omega
theorem nxt_in {α:Type} {p:α ->Bool} {acc A B X:List α} {x:α} (hI:(acc++A.filter p).Perm X) (hp:A.Perm (x::B)) (hx:p x=true):((acc++ [x])++B.filter p).Perm X:=by
 have h:=hp.filter p;rw [List.filter_cons_of_pos hx] at h;rw [List.append_assoc];exact (List.Perm.append_left acc h.symm).trans hI
theorem nxt_out {α:Type} {p:α ->Bool} {acc A B X:List α} {x:α} (hI:(acc++A.filter p).Perm X) (hp:A.Perm (x::B)) (hx:¬p x=true):(acc++B.filter p).Perm X:=by
 have h:=hp.filter p;rw [List.filter_cons_of_neg hx] at h;exact (List.Perm.append_left acc h.symm).trans hI
theorem PR {α:Type} {p:α ->Bool} {acc A M:List α} (hI:(acc++A.filter p).Perm (M.filter p)):acc.length≤M.length:=by
 have h:=hI.length_eq;have h2:=List.length_filter_le p M;rw [List.length_append] at h;omega
theorem RU (i:AU) (g1:i.po.length≤140737488355328) (g2:i.pa.length≤140737488355328) (g3:i.af.length≤140737488355328):AT Tryz.prog 13 [.d (BC i)] (.tup [.sl none ((dltS i).map Pb),AF (B9 i)]):=by
 by_cases hE:B9 i=0
 ·have hb:=(Mv hE).1;have hS:dltS i=dltL i:=if_pos hE
  obtain ⟨M,hMM⟩:∃M,sumL (ctr i)=M:=⟨_,rfl⟩
  have hs:=(Rw i hb).by [(2,20)] rfl;have hlen:M.length≤1280:=by rw [←hMM];have h1:=Kt (ctr i);have h2:=Ms i;have h3:=hb.po;have h4:=hb.pa;omega
  rw [hMM] at hs;rw [hS];have hck:=Jy i g1 g2 g3;rw [hE] at hck⊢;refine B6 Tryz.func13 Z Z Tryz.ntmps13 Z Z Z fun F hF=>?_;refine AG (AJ (G (CV 1 Z Z Z Z Z Z Z) (AD Z Z (AD Z Z (AI (AG (AG (AJ ?_))))))))
  first | refine J (At Z Z Ag rfl) ?_ | refine J (Au Z Z Ag Z Z Z) ?_ | refine J (Av Z Z (rfl) rfl Ag rfl) ?_
  refine J (BO (hck) Z Z) (AD Z Z (AI (AG (AJ (AC Z Z ?_)))))
  first | refine J (Ec Z Z Z) ?_ | refine J (Eb Z Z Z) ?_ | refine J (EV Z Z Z) ?_ | refine J (E8 Tryz.underlying34 Z Z Z) ?_ | refine J (Ea Tryz.underlying34 Z Z Z) ?_ | refine J (st_neqN Tryz.underlying34 Z Z) ?_ | refine J (E9 Tryz.underlying34 Z Z Z) ?_ | refine J (st_neqFN Tryz.underlying34 Z Z) ?_
  refine AI (F4 rfl (by decide) ?_);refine An (AG (AJ (AD Z Z (AI (AG (AG (Du 5 900 sl44 Z Z Z Z (AJ ?_))))))))
  first | refine J (At Z Z Ag rfl) ?_ | refine J (Au Z Z Ag Z Z Z) ?_ | refine J (Av Z Z (rfl) rfl Ag rfl) ?_
  refine G (IL hs rfl [20] ⟨rfl,trivial⟩ Z Z Z Z Z Z Z Z Z) (G (JU 2 Z Z Z Gr Z Z Z Z) (AI (Aw (EN (α:=List Nat×List (A5×Int)) (fun q=>⟨32,[(5,(.own 900 0 q.2.length)),(15,(.ptr 2 0 0))],[(2,[.iter 20 0 M.length q.1]),(20,[CD E1 AF M]),(900,[.rowD 55 7 (q.2.map Pb)])]⟩) (fun q=>(q.2++(EJ M (List.range M.length) q.1).filter (fun x=>decide (x.2≠0))).Perm (M.filter fun x=>decide (x.2≠0))) (fun q=>(EJ M (List.range M.length) q.1).length) (([],[])) (by rw [Hu (by simp)];exact List.Perm.refl _) (BS hF [2,20,900] Z Z ⟨rfl,rfl,trivial⟩) ?_))));rintro ⟨seen,acc⟩ hI;dsimp only at hI⊢;refine AG (AJ (PQ (M) Z Z Z Z (fun hl16=>?_) (fun j16 b16 k16 v16 hm16 hb16 hB16 hp16=>⟨_,rfl,?_⟩)))
  ·first | refine J (BU Z Z Z) ?_ | refine J (BV Z Z Z) ?_
   refine AI (AG (F4 Z Z (Ct (AG ?_))));have hacc:acc.Perm ((sumL (ctr i)).filter fun x=>decide (x.2≠0)):=by have h:=hI;rw [hl16,List.filter_nil,List.append_nil] at h;rw [hMM];exact h
   refine AJ (AC Z Z (G (WP (ctr i) acc hacc (by have:=PR hI;omega) Z Z Z Z Z Z Z) ?_));refine AI (AG (Vn (emb:=Pb) 5 900 (dltL i) Z Z Z (Ui hacc) Z Z Z (AJ (AC Z Z (AD Z Z (AD Z Z (AI (Af ?_))))))));exact ⟨_,[],[],Ae rfl,rfl,rfl,rfl,rfl⟩
  ·first | refine J (BU Z Z Z) ?_ | refine J (BV Z Z Z) ?_
   refine AI (AG (EL Z Z (An (Aw (AG (AJ (J (JW (M) j16 b16 Z Z Z hm16 hb16 rfl) ?_)))))))
   first | refine J (BU Z Z Z) ?_ | refine J (BV Z Z Z) ?_
   first | refine J (BU Z Z Z) ?_ | refine J (BV Z Z Z) ?_
   refine G (DT 3 Gi Z Z Z Z) (G (CC Z Z Z Z Z Z Z sz53) (AD Z Z (AI (AG (AJ (AC Z Z ?_))))))
   first | refine J (Ec Z Z Z) ?_ | refine J (Eb Z Z Z) ?_ | refine J (EV Z Z Z) ?_ | refine J (E8 Tryz.underlying2 Z Z Z) ?_ | refine J (Ea Tryz.underlying2 Z Z Z) ?_ | refine J (st_neqN Tryz.underlying2 Z Z) ?_ | refine J (E9 Tryz.underlying2 Z Z Z) ?_ | refine J (st_neqFN Tryz.underlying2 Z Z) ?_
   refine AI ?_
   first | refine BP rfl (fun h22=>?_) (fun h22=>?_) | refine BK rfl (fun h22=>?_) (fun h22=>?_)
   ·refine AJ (AC Z Z ?_)
    first | refine J (At Z Z Ah rfl) ?_ | refine J (Au Z Z Ah Z Z Z) ?_ | refine J (Av Z Z (rfl) rfl Ah rfl) ?_
    refine AC Z Z (J (DC zl55 pl55 Z Z Z) (G (Fg 4 sl44 Z Z Z Z Z Z Z Z) ?_))
    first | refine G (IX (acc) ([(k16,v16)]) Z Z Z Z Z Z Z Z sl44 (by have:=PR hI;simp only [List.length_singleton];omega) Z Z Z Z) ?_ | refine G (Kp (acc) ([(k16,v16)]) Z Z Z Z Z Z (fun _=>rfl) sl44 (by have:=PR hI;simp only [List.length_singleton];omega) Z Z Z Z) ?_
    refine AD Z Z (AI ?_);exact ⟨(seen++ [b16],_),nxt_in hI hp16 (by simpa using h22),by show (EJ M (List.range M.length) (seen++ [b16])).length<(EJ M (List.range M.length) seen).length;rw [hp16.length_eq];exact Nat.lt_succ_self _,BS hF [2,20,900] rfl (rfl) ⟨rfl,rfl,trivial⟩⟩
   ·refine An ?_;exact ⟨(seen++ [b16],_),nxt_out hI hp16 (by simpa using h22),by show (EJ M (List.range M.length) (seen++ [b16])).length<(EJ M (List.range M.length) seen).length;rw [hp16.length_eq];exact Nat.lt_succ_self _,BS hF [2,20,900] rfl (rfl) ⟨rfl,rfl,trivial⟩⟩
 ·have hck:=Jy i g1 g2 g3;have hS:dltS i=[]:=if_neg hE;rw [hS];refine B6 Tryz.func13 Z Z Tryz.ntmps13 Z Z Z fun F hF=>(AG ?_);refine AJ (G (CV 1 Z Z Z Z Z Z Z) (AD Z Z (Ro 2 rfl (AD Z Z (AI (AG (AG (AJ ?_))))))))
  first | refine J (At Z Z Ag rfl) ?_ | refine J (Au Z Z Ag Z Z Z) ?_ | refine J (Av Z Z (rfl) rfl Ag rfl) ?_
  refine J (BO (hck) Z Z) (AD Z Z (AI (AG (AJ (AC Z Z ?_)))))
  first | refine J (Ec Z Z Z) ?_ | refine J (Eb Z Z Z) ?_ | refine J (EV Z Z Z) ?_ | refine J (E8 Tryz.underlying34 Z Z Z) ?_ | refine J (Ea Tryz.underlying34 Z Z Z) ?_ | refine J (st_neqN Tryz.underlying34 Z Z) ?_ | refine J (E9 Tryz.underlying34 Z Z Z) ?_ | refine J (st_neqFN Tryz.underlying34 Z Z) ?_
  refine AI ?_;refine EL rfl ((by simpa using hE)) (AG (AJ (AC Z Z (AD Z Z (Ro 2 rfl (AD Z Z (AI (Af ?_))))))));exact ⟨_,[],[],Ae rfl,rfl,rfl,rfl,rfl⟩
def CO (i:AU) (r:A5):Int:=if B9 i=0∧B7 r=0 then B8 (ctr i) r else 0
theorem Jv (i:AU) (r:A5) (g1:i.po.length≤140737488355328) (g2:i.pa.length≤140737488355328) (g3:i.af.length≤140737488355328):AT Tryz.prog 122 [.d (BC i),.d (E1 r)] (AF (CO i r)):=by
 by_cases hE:B9 i=0
 ·have hb:=(Mv hE).1
  obtain ⟨M,hMM⟩:∃M,sumL (ctr i)=M:=⟨_,rfl⟩
  have hs:=(Rw i hb).by [(2,20)] rfl;rw [hMM] at hs;have hck:=Jy i g1 g2 g3;rw [hE] at hck;refine B6 Tryz.func122 Z Z Tryz.ntmps122 Z Z Z fun F hF=>?_;refine AG (AJ (G (CV 1 Z Z Z Z Z Z Z) (G (CV 2 Z Z Z Z Z Z Z) (AD Z Z (AI (AG (AG (AJ ?_))))))))
  first | refine J (At Z Z Ag rfl) ?_ | refine J (Au Z Z Ag Z Z Z) ?_ | refine J (Av Z Z (rfl) rfl Ag rfl) ?_
  refine J (BO (hck) Z Z) ?_
  first | refine J (Ec Z Z Z) ?_ | refine J (Eb Z Z Z) ?_ | refine J (EV Z Z Z) ?_ | refine J (E8 Tryz.underlying34 Z Z Z) ?_ | refine J (Ea Tryz.underlying34 Z Z Z) ?_ | refine J (st_neqN Tryz.underlying34 Z Z) ?_ | refine J (E9 Tryz.underlying34 Z Z Z) ?_ | refine J (st_neqFN Tryz.underlying34 Z Z) ?_
  refine AC Z Z (HL 8 rfl (by decide) (A9 Z Z Z ?_))
  first | refine J (At Z Z Ah rfl) ?_ | refine J (Au Z Z Ah Z Z Z) ?_ | refine J (Av Z Z (rfl) rfl Ah rfl) ?_
  refine A9 Z Z Z (J (BO (TM r) Z Z) (A9 Z Z Z ?_))
  first | refine J (Ec Z Z Z) ?_ | refine J (Eb Z Z Z) ?_ | refine J (EV Z Z Z) ?_ | refine J (E8 Tryz.underlying34 Z Z Z) ?_ | refine J (Ea Tryz.underlying34 Z Z Z) ?_ | refine J (st_neqN Tryz.underlying34 Z Z) ?_ | refine J (E9 Tryz.underlying34 Z Z Z) ?_ | refine J (st_neqFN Tryz.underlying34 Z Z) ?_
  refine J (EG Z Z Z Z) (AI ?_)
  first | refine BP rfl (fun h12=>?_) (fun h12=>?_) | refine BK rfl (fun h12=>?_) (fun h12=>?_)
  ·refine AG (AJ (AD Z Z (AI (Af ?_))));exact ⟨_,[],[],Ae rfl,rfl,rfl,Ak (by rw [CO,if_neg];simp_all),rfl⟩
  ·refine An (AG (Gs [[],[0],[],[0,1,2],[0,1,2,3]] BF rfl (IK ?_)))
   first | refine AE [2] [] Z Z (fun _=>AB (At Z Z Ag rfl)) ?_ | refine AH [2] Z Z (fun _=>AB (At Z Z Ag rfl)) ?_ | refine AE [2] [] Z Z (fun _=>AB (Au Z Z Ag Z Z Z)) ?_ | refine AH [2] Z Z (fun _=>AB (Au Z Z Ag Z Z Z)) ?_ | refine AE [2] [] Z Z (fun _=>AB (Av Z Z (rfl) rfl Ag rfl)) ?_ | refine AH [2] Z Z (fun _=>AB (Av Z Z (rfl) rfl Ag rfl)) ?_
   refine G7 [13] [20] [(14,_)] Z Z (fun _=>G8 (IL hs rfl [20] ⟨rfl,trivial⟩ Z Z Z Z Z Z Z Z Z)) (.inr ⟨14,_,rfl,rfl,rfl,rfl,rfl⟩) Z Z Z Z Z ?_
   first | refine AE [3] [] Z Z (fun _=>AB (At Z Z Ah rfl)) ?_ | refine AH [3] Z Z (fun _=>AB (At Z Z Ah rfl)) ?_ | refine AE [3] [] Z Z (fun _=>AB (Au Z Z Ah Z Z Z)) ?_ | refine AH [3] Z Z (fun _=>AB (Au Z Z Ah Z Z Z)) ?_ | refine AE [3] [] Z Z (fun _=>AB (Av Z Z (rfl) rfl Ah rfl)) ?_ | refine AH [3] Z Z (fun _=>AB (Av Z Z (rfl) rfl Ah rfl)) ?_
   refine Gf 3 Z Z Z (BE 4 Z Z (J (LT (M) (r) (0) _ Z Z Z Gr DQ Px Z Z) (AI ⟨rfl,?_⟩)));refine BE 5 Z Z (AD Z Z (AI ⟨rfl,?_⟩));refine Ge (Af ?_);exact ⟨_,[],[],Ae rfl,rfl,rfl,Ak (by rw [CO,if_pos ⟨hE,by simpa using h12⟩,←hMM,JT]),rfl⟩
 ·have hck:=Jy i g1 g2 g3;have hS:CO i r=0:=if_neg fun h=>hE h.1;rw [hS];refine B6 Tryz.func122 Z Z Tryz.ntmps122 Z Z Z fun F hF=>?_;refine AG (AJ (G (CV 1 Z Z Z Z Z Z Z) (G (CV 2 Z Z Z Z Z Z Z) (AD Z Z (AI (AG (AG (AJ ?_))))))))
  first | refine J (At Z Z Ag rfl) ?_ | refine J (Au Z Z Ag Z Z Z) ?_ | refine J (Av Z Z (rfl) rfl Ag rfl) ?_
  refine J (BO (hck) Z Z) ?_
  first | refine J (Ec Z Z Z) ?_ | refine J (Eb Z Z Z) ?_ | refine J (EV Z Z Z) ?_ | refine J (E8 Tryz.underlying34 Z Z Z) ?_ | refine J (Ea Tryz.underlying34 Z Z Z) ?_ | refine J (st_neqN Tryz.underlying34 Z Z) ?_ | refine J (E9 Tryz.underlying34 Z Z Z) ?_ | refine J (st_neqFN Tryz.underlying34 Z Z) ?_
  refine AC Z Z (NI 8 rfl ((by simpa using hE)) (Ac Z Z Z Z (Ac Z Z Z Z ?_)));refine Ac Z Z Z Z (J (DX Z Z Z Z) (AI (EL Z Z (AG (AJ (AD Z Z (AI (Af ?_))))))));exact ⟨_,[],[],Ae rfl,rfl,rfl,rfl,rfl⟩
end Go.Proofs.YtnkkaeblokdifaaGreat
