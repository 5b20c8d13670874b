import Derived.Test.YteifpcnphnhaoaaGreatMg17
import Derived.Shelf.SlLaysF
import Derived.Shelf.SlLaysF0
import Derived.Shelf.SlLaysNS
import Derived.Test.YteifpcnphnhaoaaGreatProg
namespace Go.Proofs.YteifpcnphnhaoaaGreat
open Go.Shelf Go.Proofs Go.Proofs.Tryz
def renI:Go.Shelf.Ren:=⟨fun x=>match x with
 | 6=>115
 | 15=>137
 | 14=>160
 | 28=>191
 | 29=>192
 | 20=>201
 | 21=>202
 | 22=>203
 | 23=>204
 | 24=>205
 | 25=>206
 | 26=>207
 | 27=>208
 | 46=>240
 | 47=>226
 | 48=>227
 | 49=>241
 | 50=>242
 | 57=>268
 | x=>x,
 fun x=>match x with
 | 22=>37
 | 24=>55
 | 25=>214
 | 3=>3
 | 39=>242
 | 0=>0
 | 53=>292
 | 55=>294
 | 4=>4
 | 46=>286
 | 45=>285
 | 50=>132
 | 5=>5
 | 9=>9
 | 66=>327
 | 70=>331
 | 76=>360
 | 77=>361
 | x=>x,fun x=>x⟩
theorem laysI:SlLaysF0.n6 Tryz.prog renI where
 mixed:=rfl
 f6:=⟨Tryz.f115.name,by decide,Tryz.func115.trans (Γ some (by kernel_rfl))⟩
 f14:=⟨Tryz.f160.name,by decide,Tryz.func160.trans (Γ some (by kernel_rfl))⟩
 f15:=Tryz.func137.trans (Γ some (by kernel_rfl))
 f20:=⟨Tryz.f201.name,by decide,Tryz.func201.trans (Γ some (by kernel_rfl))⟩
 f21:=⟨Tryz.f202.name,by decide,Tryz.func202.trans (Γ some (by kernel_rfl))⟩
 f22:=⟨Tryz.f203.name,by decide,Tryz.func203.trans (Γ some (by kernel_rfl))⟩
 f23:=⟨Tryz.f204.name,by decide,Tryz.func204.trans (Γ some (by kernel_rfl))⟩
 f24:=⟨Tryz.f205.name,by decide,Tryz.func205.trans (Γ some (by kernel_rfl))⟩
 f25:=⟨Tryz.f206.name,by decide,Tryz.func206.trans (Γ some (by kernel_rfl))⟩
 f26:=⟨Tryz.f207.name,by decide,Tryz.func207.trans (Γ some (by kernel_rfl))⟩
 f27:=⟨Tryz.f208.name,by decide,Tryz.func208.trans (Γ some (by kernel_rfl))⟩
 f28:=Tryz.func191.trans (Γ some (by kernel_rfl))
 f29:=Tryz.func192.trans (Γ some (by kernel_rfl))
 f46:=⟨Tryz.f240.name,by decide,Tryz.func240.trans (Γ some (by kernel_rfl))⟩
 f47:=Tryz.func226.trans (Γ some (by kernel_rfl))
 f48:=Tryz.func227.trans (Γ some (by kernel_rfl))
 f49:=⟨Tryz.f241.name,by decide,Tryz.func241.trans (Γ some (by kernel_rfl))⟩
 f50:=⟨Tryz.f242.name,by decide,Tryz.func242.trans (Γ some (by kernel_rfl))⟩
 f57:=⟨Tryz.f268.name,by decide,Tryz.func268.trans (Γ some (by kernel_rfl))⟩
 t0:=Tryz.underlying0
 a0:=Tryz.isAgg0
 z0:=Tryz.sizeOf0
 v0:=Tryz.zeroValue0
 t3:=Tryz.underlying3
 a3:=Tryz.isAgg3
 z3:=Tryz.sizeOf3
 v3:=Tryz.zeroValue3
 t4:=Tryz.underlying4
 a4:=Tryz.isAgg4
 z4:=Tryz.sizeOf4
 v4:=Tryz.zeroValue4
 t5:=Tryz.underlying5
 a5:=Tryz.isAgg5
 z5:=Tryz.sizeOf5
 v5:=Tryz.zeroValue5
 t9:=Tryz.underlying9
 a9:=Tryz.isAgg9
 z9:=Tryz.sizeOf9
 v9:=Tryz.zeroValue9
 t22:=Tryz.underlying37
 a22:=Tryz.isAgg37
 z22:=Tryz.sizeOf37
 v22:=Tryz.zeroValue37
 t25:=Tryz.underlying214
 a25:=Tryz.isAgg214
 z25:=Tryz.sizeOf214
 v25:=Tryz.zeroValue214
 t39:=Tryz.underlying242
 a39:=Tryz.isAgg242
 z39:=Tryz.sizeOf242
 v39:=Tryz.zeroValue242
 t45:=Tryz.underlying285
 a45:=Tryz.isAgg285
 z45:=Tryz.sizeOf285
 v45:=Tryz.zeroValue285
 t46:=Tryz.underlying286
 a46:=Tryz.isAgg286
 z46:=Tryz.sizeOf286
 v46:=Tryz.zeroValue286
 t50:=Tryz.underlying132
 a50:=Tryz.isAgg132
 z50:=Tryz.sizeOf132
 v50:=Tryz.zeroValue132
 t53:=Tryz.underlying292
 a53:=Tryz.isAgg292
 z53:=Tryz.sizeOf292
 v53:=Tryz.zeroValue292
 t55:=Tryz.underlying294
 a55:=Tryz.isAgg294
 z55:=Tryz.sizeOf294
 v55:=Tryz.zeroValue294
 t66:=Tryz.underlying327
 a66:=Tryz.isAgg327
 z66:=Tryz.sizeOf327
 v66:=Tryz.zeroValue327
 t70:=Tryz.underlying331
 a70:=Tryz.isAgg331
 z70:=Tryz.sizeOf331
 v70:=Tryz.zeroValue331
 t76:=Tryz.underlying360
 a76:=Tryz.isAgg360
 z76:=Tryz.sizeOf360
 v76:=Tryz.zeroValue360
 t77:=Tryz.underlying361
 a77:=Tryz.isAgg361
 z77:=Tryz.sizeOf361
 v77:=Tryz.zeroValue361
def renD:Go.Shelf.Ren:=⟨fun x=>match x with
 | 6=>161
 | 15=>137
 | 14=>209
 | 28=>191
 | 29=>192
 | 20=>243
 | 21=>244
 | 22=>245
 | 23=>246
 | 24=>247
 | 25=>248
 | 26=>249
 | 27=>250
 | 46=>269
 | 47=>226
 | 48=>227
 | 49=>270
 | 50=>271
 | 57=>277
 | x=>x,
 fun x=>match x with
 | 22=>215
 | 24=>218
 | 25=>267
 | 3=>3
 | 39=>242
 | 0=>0
 | 53=>292
 | 55=>294
 | 4=>4
 | 46=>286
 | 45=>285
 | 50=>132
 | 5=>5
 | 9=>9
 | 66=>327
 | 70=>331
 | 76=>360
 | 77=>361
 | x=>x,fun x=>x⟩
theorem laysD:SlLaysF0.n6 Tryz.prog renD where
 mixed:=rfl
 f6:=⟨Tryz.f161.name,by decide,Tryz.func161.trans (Γ some (by kernel_rfl))⟩
 f14:=⟨Tryz.f209.name,by decide,Tryz.func209.trans (Γ some (by kernel_rfl))⟩
 f15:=Tryz.func137.trans (Γ some (by kernel_rfl))
 f20:=⟨Tryz.f243.name,by decide,Tryz.func243.trans (Γ some (by kernel_rfl))⟩
 f21:=⟨Tryz.f244.name,by decide,Tryz.func244.trans (Γ some (by kernel_rfl))⟩
 f22:=⟨Tryz.f245.name,by decide,Tryz.func245.trans (Γ some (by kernel_rfl))⟩
 f23:=⟨Tryz.f246.name,by decide,Tryz.func246.trans (Γ some (by kernel_rfl))⟩
 f24:=⟨Tryz.f247.name,by decide,Tryz.func247.trans (Γ some (by kernel_rfl))⟩
 f25:=⟨Tryz.f248.name,by decide,Tryz.func248.trans (Γ some (by kernel_rfl))⟩
 f26:=⟨Tryz.f249.name,by decide,Tryz.func249.trans (Γ some (by kernel_rfl))⟩
 f27:=⟨Tryz.f250.name,by decide,Tryz.func250.trans (Γ some (by kernel_rfl))⟩
 f28:=Tryz.func191.trans (Γ some (by kernel_rfl))
 f29:=Tryz.func192.trans (Γ some (by kernel_rfl))
 f46:=⟨Tryz.f269.name,by decide,Tryz.func269.trans (Γ some (by kernel_rfl))⟩
 f47:=Tryz.func226.trans (Γ some (by kernel_rfl))
 f48:=Tryz.func227.trans (Γ some (by kernel_rfl))
 f49:=⟨Tryz.f270.name,by decide,Tryz.func270.trans (Γ some (by kernel_rfl))⟩
 f50:=⟨Tryz.f271.name,by decide,Tryz.func271.trans (Γ some (by kernel_rfl))⟩
 f57:=⟨Tryz.f277.name,by decide,Tryz.func277.trans (Γ some (by kernel_rfl))⟩
 t0:=Tryz.underlying0
 a0:=Tryz.isAgg0
 z0:=Tryz.sizeOf0
 v0:=Tryz.zeroValue0
 t3:=Tryz.underlying3
 a3:=Tryz.isAgg3
 z3:=Tryz.sizeOf3
 v3:=Tryz.zeroValue3
 t4:=Tryz.underlying4
 a4:=Tryz.isAgg4
 z4:=Tryz.sizeOf4
 v4:=Tryz.zeroValue4
 t5:=Tryz.underlying5
 a5:=Tryz.isAgg5
 z5:=Tryz.sizeOf5
 v5:=Tryz.zeroValue5
 t9:=Tryz.underlying9
 a9:=Tryz.isAgg9
 z9:=Tryz.sizeOf9
 v9:=Tryz.zeroValue9
 t22:=Tryz.underlying215
 a22:=Tryz.isAgg215
 z22:=Tryz.sizeOf215
 v22:=Tryz.zeroValue215
 t25:=Tryz.underlying267
 a25:=Tryz.isAgg267
 z25:=Tryz.sizeOf267
 v25:=Tryz.zeroValue267
 t39:=Tryz.underlying242
 a39:=Tryz.isAgg242
 z39:=Tryz.sizeOf242
 v39:=Tryz.zeroValue242
 t45:=Tryz.underlying285
 a45:=Tryz.isAgg285
 z45:=Tryz.sizeOf285
 v45:=Tryz.zeroValue285
 t46:=Tryz.underlying286
 a46:=Tryz.isAgg286
 z46:=Tryz.sizeOf286
 v46:=Tryz.zeroValue286
 t50:=Tryz.underlying132
 a50:=Tryz.isAgg132
 z50:=Tryz.sizeOf132
 v50:=Tryz.zeroValue132
 t53:=Tryz.underlying292
 a53:=Tryz.isAgg292
 z53:=Tryz.sizeOf292
 v53:=Tryz.zeroValue292
 t55:=Tryz.underlying294
 a55:=Tryz.isAgg294
 z55:=Tryz.sizeOf294
 v55:=Tryz.zeroValue294
 t66:=Tryz.underlying327
 a66:=Tryz.isAgg327
 z66:=Tryz.sizeOf327
 v66:=Tryz.zeroValue327
 t70:=Tryz.underlying331
 a70:=Tryz.isAgg331
 z70:=Tryz.sizeOf331
 v70:=Tryz.zeroValue331
 t76:=Tryz.underlying360
 a76:=Tryz.isAgg360
 z76:=Tryz.sizeOf360
 v76:=Tryz.zeroValue360
 t77:=Tryz.underlying361
 a77:=Tryz.isAgg361
 z77:=Tryz.sizeOf361
 v77:=Tryz.zeroValue361
def renLn:Go.Shelf.Ren:=⟨fun x=>match x with
 | 6=>174
 | 15=>137
 | 14=>212
 | 28=>191
 | 29=>192
 | 20=>251
 | 21=>252
 | 22=>253
 | 23=>254
 | 24=>255
 | 25=>256
 | 26=>257
 | 27=>258
 | 46=>272
 | 47=>226
 | 48=>227
 | 49=>273
 | 50=>274
 | 57=>278
 | x=>x,
 fun x=>match x with
 | 22=>227
 | 24=>233
 | 25=>276
 | 3=>3
 | 39=>242
 | 0=>0
 | 53=>292
 | 55=>294
 | 4=>4
 | 46=>286
 | 45=>285
 | 50=>132
 | 5=>5
 | 9=>9
 | 66=>327
 | 70=>331
 | 76=>360
 | 77=>361
 | x=>x,fun x=>x⟩
theorem laysLn:SlLaysF0.n6 Tryz.prog renLn where
 mixed:=rfl
 f6:=⟨Tryz.f174.name,by decide,Tryz.func174.trans (Γ some (by kernel_rfl))⟩
 f14:=⟨Tryz.f212.name,by decide,Tryz.func212.trans (Γ some (by kernel_rfl))⟩
 f15:=Tryz.func137.trans (Γ some (by kernel_rfl))
 f20:=⟨Tryz.f251.name,by decide,Tryz.func251.trans (Γ some (by kernel_rfl))⟩
 f21:=⟨Tryz.f252.name,by decide,Tryz.func252.trans (Γ some (by kernel_rfl))⟩
 f22:=⟨Tryz.f253.name,by decide,Tryz.func253.trans (Γ some (by kernel_rfl))⟩
 f23:=⟨Tryz.f254.name,by decide,Tryz.func254.trans (Γ some (by kernel_rfl))⟩
 f24:=⟨Tryz.f255.name,by decide,Tryz.func255.trans (Γ some (by kernel_rfl))⟩
 f25:=⟨Tryz.f256.name,by decide,Tryz.func256.trans (Γ some (by kernel_rfl))⟩
 f26:=⟨Tryz.f257.name,by decide,Tryz.func257.trans (Γ some (by kernel_rfl))⟩
 f27:=⟨Tryz.f258.name,by decide,Tryz.func258.trans (Γ some (by kernel_rfl))⟩
 f28:=Tryz.func191.trans (Γ some (by kernel_rfl))
 f29:=Tryz.func192.trans (Γ some (by kernel_rfl))
 f46:=⟨Tryz.f272.name,by decide,Tryz.func272.trans (Γ some (by kernel_rfl))⟩
 f47:=Tryz.func226.trans (Γ some (by kernel_rfl))
 f48:=Tryz.func227.trans (Γ some (by kernel_rfl))
 f49:=⟨Tryz.f273.name,by decide,Tryz.func273.trans (Γ some (by kernel_rfl))⟩
 f50:=⟨Tryz.f274.name,by decide,Tryz.func274.trans (Γ some (by kernel_rfl))⟩
 f57:=⟨Tryz.f278.name,by decide,Tryz.func278.trans (Γ some (by kernel_rfl))⟩
 t0:=Tryz.underlying0
 a0:=Tryz.isAgg0
 z0:=Tryz.sizeOf0
 v0:=Tryz.zeroValue0
 t3:=Tryz.underlying3
 a3:=Tryz.isAgg3
 z3:=Tryz.sizeOf3
 v3:=Tryz.zeroValue3
 t4:=Tryz.underlying4
 a4:=Tryz.isAgg4
 z4:=Tryz.sizeOf4
 v4:=Tryz.zeroValue4
 t5:=Tryz.underlying5
 a5:=Tryz.isAgg5
 z5:=Tryz.sizeOf5
 v5:=Tryz.zeroValue5
 t9:=Tryz.underlying9
 a9:=Tryz.isAgg9
 z9:=Tryz.sizeOf9
 v9:=Tryz.zeroValue9
 t22:=Tryz.underlying227
 a22:=Tryz.isAgg227
 z22:=Tryz.sizeOf227
 v22:=Tryz.zeroValue227
 t25:=Tryz.underlying276
 a25:=Tryz.isAgg276
 z25:=Tryz.sizeOf276
 v25:=Tryz.zeroValue276
 t39:=Tryz.underlying242
 a39:=Tryz.isAgg242
 z39:=Tryz.sizeOf242
 v39:=Tryz.zeroValue242
 t45:=Tryz.underlying285
 a45:=Tryz.isAgg285
 z45:=Tryz.sizeOf285
 v45:=Tryz.zeroValue285
 t46:=Tryz.underlying286
 a46:=Tryz.isAgg286
 z46:=Tryz.sizeOf286
 v46:=Tryz.zeroValue286
 t50:=Tryz.underlying132
 a50:=Tryz.isAgg132
 z50:=Tryz.sizeOf132
 v50:=Tryz.zeroValue132
 t53:=Tryz.underlying292
 a53:=Tryz.isAgg292
 z53:=Tryz.sizeOf292
 v53:=Tryz.zeroValue292
 t55:=Tryz.underlying294
 a55:=Tryz.isAgg294
 z55:=Tryz.sizeOf294
 v55:=Tryz.zeroValue294
 t66:=Tryz.underlying327
 a66:=Tryz.isAgg327
 z66:=Tryz.sizeOf327
 v66:=Tryz.zeroValue327
 t70:=Tryz.underlying331
 a70:=Tryz.isAgg331
 z70:=Tryz.sizeOf331
 v70:=Tryz.zeroValue331
 t76:=Tryz.underlying360
 a76:=Tryz.isAgg360
 z76:=Tryz.sizeOf360
 v76:=Tryz.zeroValue360
 t77:=Tryz.underlying361
 a77:=Tryz.isAgg361
 z77:=Tryz.sizeOf361
 v77:=Tryz.zeroValue361
def renS:Go.Shelf.Ren:=⟨fun x=>match x with
 | 53=>128
 | 64=>137
 | 63=>177
 | 78=>191
 | 79=>192
 | 70=>213
 | 71=>214
 | 72=>215
 | 73=>216
 | 74=>217
 | 75=>218
 | 59=>219
 | 76=>220
 | 77=>221
 | 88=>259
 | 89=>226
 | 90=>227
 | 91=>260
 | 92=>261
 | 68=>211
 | 96=>275
 | x=>x,
 fun x=>match x with
 | 22=>28
 | 23=>3
 | 3=>3
 | 51=>242
 | 0=>0
 | 67=>292
 | 69=>294
 | 4=>4
 | 61=>286
 | 60=>285
 | 44=>132
 | 5=>5
 | 9=>9
 | 75=>327
 | 79=>331
 | 83=>360
 | 84=>361
 | x=>x,fun x=>x⟩
theorem laysS:SlLaysN.n53 Tryz.prog renS where
 mixed:=rfl
 f53:=⟨Tryz.f128.name,by decide,Tryz.func128.trans (Γ some (by kernel_rfl))⟩
 f59:=⟨Tryz.f219.name,by decide,Tryz.func219.trans (Γ some (by kernel_rfl))⟩
 f63:=⟨Tryz.f177.name,by decide,Tryz.func177.trans (Γ some (by kernel_rfl))⟩
 f64:=Tryz.func137.trans (Γ some (by kernel_rfl))
 f68:=⟨Tryz.f211.name,by decide,Tryz.func211.trans (Γ some (by kernel_rfl))⟩
 f70:=⟨Tryz.f213.name,by decide,Tryz.func213.trans (Γ some (by kernel_rfl))⟩
 f71:=⟨Tryz.f214.name,by decide,Tryz.func214.trans (Γ some (by kernel_rfl))⟩
 f72:=⟨Tryz.f215.name,by decide,Tryz.func215.trans (Γ some (by kernel_rfl))⟩
 f73:=⟨Tryz.f216.name,by decide,Tryz.func216.trans (Γ some (by kernel_rfl))⟩
 f74:=⟨Tryz.f217.name,by decide,Tryz.func217.trans (Γ some (by kernel_rfl))⟩
 f75:=⟨Tryz.f218.name,by decide,Tryz.func218.trans (Γ some (by kernel_rfl))⟩
 f76:=⟨Tryz.f220.name,by decide,Tryz.func220.trans (Γ some (by kernel_rfl))⟩
 f77:=⟨Tryz.f221.name,by decide,Tryz.func221.trans (Γ some (by kernel_rfl))⟩
 f78:=Tryz.func191.trans (Γ some (by kernel_rfl))
 f79:=Tryz.func192.trans (Γ some (by kernel_rfl))
 f88:=⟨Tryz.f259.name,by decide,Tryz.func259.trans (Γ some (by kernel_rfl))⟩
 f89:=Tryz.func226.trans (Γ some (by kernel_rfl))
 f90:=Tryz.func227.trans (Γ some (by kernel_rfl))
 f91:=⟨Tryz.f260.name,by decide,Tryz.func260.trans (Γ some (by kernel_rfl))⟩
 f92:=⟨Tryz.f261.name,by decide,Tryz.func261.trans (Γ some (by kernel_rfl))⟩
 f96:=⟨Tryz.f275.name,by decide,Tryz.func275.trans (Γ some (by kernel_rfl))⟩
 t0:=Tryz.underlying0
 a0:=Tryz.isAgg0
 z0:=Tryz.sizeOf0
 v0:=Tryz.zeroValue0
 t3:=Tryz.underlying3
 a3:=Tryz.isAgg3
 z3:=Tryz.sizeOf3
 v3:=Tryz.zeroValue3
 t4:=Tryz.underlying4
 a4:=Tryz.isAgg4
 z4:=Tryz.sizeOf4
 v4:=Tryz.zeroValue4
 t5:=Tryz.underlying5
 a5:=Tryz.isAgg5
 z5:=Tryz.sizeOf5
 v5:=Tryz.zeroValue5
 t9:=Tryz.underlying9
 a9:=Tryz.isAgg9
 z9:=Tryz.sizeOf9
 v9:=Tryz.zeroValue9
 t22:=Tryz.underlying28
 a22:=Tryz.isAgg28
 z22:=Tryz.sizeOf28
 v22:=Tryz.zeroValue28
 t23:=Tryz.underlying3
 a23:=Tryz.isAgg3
 z23:=Tryz.sizeOf3
 v23:=Tryz.zeroValue3
 t44:=Tryz.underlying132
 a44:=Tryz.isAgg132
 z44:=Tryz.sizeOf132
 v44:=Tryz.zeroValue132
 t51:=Tryz.underlying242
 a51:=Tryz.isAgg242
 z51:=Tryz.sizeOf242
 v51:=Tryz.zeroValue242
 t60:=Tryz.underlying285
 a60:=Tryz.isAgg285
 z60:=Tryz.sizeOf285
 v60:=Tryz.zeroValue285
 t61:=Tryz.underlying286
 a61:=Tryz.isAgg286
 z61:=Tryz.sizeOf286
 v61:=Tryz.zeroValue286
 t67:=Tryz.underlying292
 a67:=Tryz.isAgg292
 z67:=Tryz.sizeOf292
 v67:=Tryz.zeroValue292
 t69:=Tryz.underlying294
 a69:=Tryz.isAgg294
 z69:=Tryz.sizeOf294
 v69:=Tryz.zeroValue294
 t75:=Tryz.underlying327
 a75:=Tryz.isAgg327
 z75:=Tryz.sizeOf327
 v75:=Tryz.zeroValue327
 t79:=Tryz.underlying331
 a79:=Tryz.isAgg331
 z79:=Tryz.sizeOf331
 v79:=Tryz.zeroValue331
 t83:=Tryz.underlying360
 a83:=Tryz.isAgg360
 z83:=Tryz.sizeOf360
 v83:=Tryz.zeroValue360
 t84:=Tryz.underlying361
 a84:=Tryz.isAgg361
 z84:=Tryz.sizeOf361
 v84:=Tryz.zeroValue361
def renPo:Go.Shelf.Ren:=⟨fun x=>match x with
 | 6=>141
 | 15=>137
 | 14=>195
 | 28=>191
 | 29=>192
 | 20=>231
 | 21=>232
 | 22=>233
 | 23=>234
 | 24=>235
 | 25=>236
 | 26=>237
 | 27=>238
 | 46=>265
 | 47=>226
 | 48=>227
 | 49=>266
 | 50=>267
 | 57=>276
 | x=>x,
 fun x=>match x with
 | 22=>177
 | 24=>186
 | 25=>251
 | 3=>3
 | 39=>242
 | 0=>0
 | 53=>292
 | 55=>294
 | 4=>4
 | 46=>286
 | 45=>285
 | 50=>132
 | 5=>5
 | 9=>9
 | 66=>327
 | 70=>331
 | 76=>360
 | 77=>361
 | x=>x,fun x=>x⟩
theorem laysPo:SlLaysF.n6 Tryz.prog renPo where
 mixed:=rfl
 f6:=⟨Tryz.f141.name,by decide,Tryz.func141.trans (Γ some (by kernel_rfl))⟩
 f14:=⟨Tryz.f195.name,by decide,Tryz.func195.trans (Γ some (by kernel_rfl))⟩
 f15:=Tryz.func137.trans (Γ some (by kernel_rfl))
 f20:=⟨Tryz.f231.name,by decide,Tryz.func231.trans (Γ some (by kernel_rfl))⟩
 f21:=⟨Tryz.f232.name,by decide,Tryz.func232.trans (Γ some (by kernel_rfl))⟩
 f22:=⟨Tryz.f233.name,by decide,Tryz.func233.trans (Γ some (by kernel_rfl))⟩
 f23:=⟨Tryz.f234.name,by decide,Tryz.func234.trans (Γ some (by kernel_rfl))⟩
 f24:=⟨Tryz.f235.name,by decide,Tryz.func235.trans (Γ some (by kernel_rfl))⟩
 f25:=⟨Tryz.f236.name,by decide,Tryz.func236.trans (Γ some (by kernel_rfl))⟩
 f26:=⟨Tryz.f237.name,by decide,Tryz.func237.trans (Γ some (by kernel_rfl))⟩
 f27:=⟨Tryz.f238.name,by decide,Tryz.func238.trans (Γ some (by kernel_rfl))⟩
 f28:=Tryz.func191.trans (Γ some (by kernel_rfl))
 f29:=Tryz.func192.trans (Γ some (by kernel_rfl))
 f46:=⟨Tryz.f265.name,by decide,Tryz.func265.trans (Γ some (by kernel_rfl))⟩
 f47:=Tryz.func226.trans (Γ some (by kernel_rfl))
 f48:=Tryz.func227.trans (Γ some (by kernel_rfl))
 f49:=⟨Tryz.f266.name,by decide,Tryz.func266.trans (Γ some (by kernel_rfl))⟩
 f50:=⟨Tryz.f267.name,by decide,Tryz.func267.trans (Γ some (by kernel_rfl))⟩
 f57:=⟨Tryz.f276.name,by decide,Tryz.func276.trans (Γ some (by kernel_rfl))⟩
 t0:=Tryz.underlying0
 a0:=Tryz.isAgg0
 z0:=Tryz.sizeOf0
 v0:=Tryz.zeroValue0
 t3:=Tryz.underlying3
 a3:=Tryz.isAgg3
 z3:=Tryz.sizeOf3
 v3:=Tryz.zeroValue3
 t4:=Tryz.underlying4
 a4:=Tryz.isAgg4
 z4:=Tryz.sizeOf4
 v4:=Tryz.zeroValue4
 t5:=Tryz.underlying5
 a5:=Tryz.isAgg5
 z5:=Tryz.sizeOf5
 v5:=Tryz.zeroValue5
 t9:=Tryz.underlying9
 a9:=Tryz.isAgg9
 z9:=Tryz.sizeOf9
 v9:=Tryz.zeroValue9
 t22:=Tryz.underlying177
 a22:=Tryz.isAgg177
 z22:=Tryz.sizeOf177
 v22:=Tryz.zeroValue177
 a24:=Tryz.isAgg186
 z24:=Tryz.sizeOf186
 t25:=Tryz.underlying251
 a25:=Tryz.isAgg251
 z25:=Tryz.sizeOf251
 v25:=Tryz.zeroValue251
 t39:=Tryz.underlying242
 a39:=Tryz.isAgg242
 z39:=Tryz.sizeOf242
 v39:=Tryz.zeroValue242
 t45:=Tryz.underlying285
 a45:=Tryz.isAgg285
 z45:=Tryz.sizeOf285
 v45:=Tryz.zeroValue285
 t46:=Tryz.underlying286
 a46:=Tryz.isAgg286
 z46:=Tryz.sizeOf286
 v46:=Tryz.zeroValue286
 t50:=Tryz.underlying132
 a50:=Tryz.isAgg132
 z50:=Tryz.sizeOf132
 v50:=Tryz.zeroValue132
 t53:=Tryz.underlying292
 a53:=Tryz.isAgg292
 z53:=Tryz.sizeOf292
 v53:=Tryz.zeroValue292
 t55:=Tryz.underlying294
 a55:=Tryz.isAgg294
 z55:=Tryz.sizeOf294
 v55:=Tryz.zeroValue294
 t66:=Tryz.underlying327
 a66:=Tryz.isAgg327
 z66:=Tryz.sizeOf327
 v66:=Tryz.zeroValue327
 t70:=Tryz.underlying331
 a70:=Tryz.isAgg331
 z70:=Tryz.sizeOf331
 v70:=Tryz.zeroValue331
 t76:=Tryz.underlying360
 a76:=Tryz.isAgg360
 z76:=Tryz.sizeOf360
 v76:=Tryz.zeroValue360
 t77:=Tryz.underlying361
 a77:=Tryz.isAgg361
 z77:=Tryz.sizeOf361
 v77:=Tryz.zeroValue361
def renCi:Go.Shelf.Ren:=⟨fun x=>match x with
 | 6=>83
 | 15=>137
 | 14=>136
 | 28=>191
 | 29=>192
 | 20=>183
 | 21=>184
 | 22=>185
 | 23=>186
 | 24=>187
 | 25=>188
 | 26=>189
 | 27=>190
 | 46=>225
 | 47=>226
 | 48=>227
 | 49=>228
 | 50=>229
 | 57=>264
 | x=>x,
 fun x=>match x with
 | 22=>29
 | 24=>28
 | 25=>154
 | 3=>3
 | 39=>242
 | 0=>0
 | 53=>292
 | 55=>294
 | 4=>4
 | 46=>286
 | 45=>285
 | 50=>132
 | 5=>5
 | 9=>9
 | 66=>327
 | 70=>331
 | 76=>360
 | 77=>361
 | x=>x,fun x=>x⟩
theorem laysCi:SlLaysF.n6 Tryz.prog renCi where
 mixed:=rfl
 f6:=⟨Tryz.f83.name,by decide,Tryz.func83.trans (Γ some (by kernel_rfl))⟩
 f14:=⟨Tryz.f136.name,by decide,Tryz.func136.trans (Γ some (by kernel_rfl))⟩
 f15:=Tryz.func137.trans (Γ some (by kernel_rfl))
 f20:=⟨Tryz.f183.name,by decide,Tryz.func183.trans (Γ some (by kernel_rfl))⟩
 f21:=⟨Tryz.f184.name,by decide,Tryz.func184.trans (Γ some (by kernel_rfl))⟩
 f22:=⟨Tryz.f185.name,by decide,Tryz.func185.trans (Γ some (by kernel_rfl))⟩
 f23:=⟨Tryz.f186.name,by decide,Tryz.func186.trans (Γ some (by kernel_rfl))⟩
 f24:=⟨Tryz.f187.name,by decide,Tryz.func187.trans (Γ some (by kernel_rfl))⟩
 f25:=⟨Tryz.f188.name,by decide,Tryz.func188.trans (Γ some (by kernel_rfl))⟩
 f26:=⟨Tryz.f189.name,by decide,Tryz.func189.trans (Γ some (by kernel_rfl))⟩
 f27:=⟨Tryz.f190.name,by decide,Tryz.func190.trans (Γ some (by kernel_rfl))⟩
 f28:=Tryz.func191.trans (Γ some (by kernel_rfl))
 f29:=Tryz.func192.trans (Γ some (by kernel_rfl))
 f46:=⟨Tryz.f225.name,by decide,Tryz.func225.trans (Γ some (by kernel_rfl))⟩
 f47:=Tryz.func226.trans (Γ some (by kernel_rfl))
 f48:=Tryz.func227.trans (Γ some (by kernel_rfl))
 f49:=⟨Tryz.f228.name,by decide,Tryz.func228.trans (Γ some (by kernel_rfl))⟩
 f50:=⟨Tryz.f229.name,by decide,Tryz.func229.trans (Γ some (by kernel_rfl))⟩
 f57:=⟨Tryz.f264.name,by decide,Tryz.func264.trans (Γ some (by kernel_rfl))⟩
 t0:=Tryz.underlying0
 a0:=Tryz.isAgg0
 z0:=Tryz.sizeOf0
 v0:=Tryz.zeroValue0
 t3:=Tryz.underlying3
 a3:=Tryz.isAgg3
 z3:=Tryz.sizeOf3
 v3:=Tryz.zeroValue3
 t4:=Tryz.underlying4
 a4:=Tryz.isAgg4
 z4:=Tryz.sizeOf4
 v4:=Tryz.zeroValue4
 t5:=Tryz.underlying5
 a5:=Tryz.isAgg5
 z5:=Tryz.sizeOf5
 v5:=Tryz.zeroValue5
 t9:=Tryz.underlying9
 a9:=Tryz.isAgg9
 z9:=Tryz.sizeOf9
 v9:=Tryz.zeroValue9
 t22:=Tryz.underlying29
 a22:=Tryz.isAgg29
 z22:=Tryz.sizeOf29
 v22:=Tryz.zeroValue29
 a24:=Tryz.isAgg28
 z24:=Tryz.sizeOf28
 t25:=Tryz.underlying154
 a25:=Tryz.isAgg154
 z25:=Tryz.sizeOf154
 v25:=Tryz.zeroValue154
 t39:=Tryz.underlying242
 a39:=Tryz.isAgg242
 z39:=Tryz.sizeOf242
 v39:=Tryz.zeroValue242
 t45:=Tryz.underlying285
 a45:=Tryz.isAgg285
 z45:=Tryz.sizeOf285
 v45:=Tryz.zeroValue285
 t46:=Tryz.underlying286
 a46:=Tryz.isAgg286
 z46:=Tryz.sizeOf286
 v46:=Tryz.zeroValue286
 t50:=Tryz.underlying132
 a50:=Tryz.isAgg132
 z50:=Tryz.sizeOf132
 v50:=Tryz.zeroValue132
 t53:=Tryz.underlying292
 a53:=Tryz.isAgg292
 z53:=Tryz.sizeOf292
 v53:=Tryz.zeroValue292
 t55:=Tryz.underlying294
 a55:=Tryz.isAgg294
 z55:=Tryz.sizeOf294
 v55:=Tryz.zeroValue294
 t66:=Tryz.underlying327
 a66:=Tryz.isAgg327
 z66:=Tryz.sizeOf327
 v66:=Tryz.zeroValue327
 t70:=Tryz.underlying331
 a70:=Tryz.isAgg331
 z70:=Tryz.sizeOf331
 v70:=Tryz.zeroValue331
 t76:=Tryz.underlying360
 a76:=Tryz.isAgg360
 z76:=Tryz.sizeOf360
 v76:=Tryz.zeroValue360
 t77:=Tryz.underlying361
 a77:=Tryz.isAgg361
 z77:=Tryz.sizeOf361
 v77:=Tryz.zeroValue361
end Go.Proofs.YteifpcnphnhaoaaGreat
namespace Go.Proofs.YteifpcnphnhaoaaGreat
open Go.RowKit
set_option maxRecDepth 100000
def TU (i:AK):Int:=if ∃x∈sumL (ctr i),¬(-Mx≤x.2∧x.2≤Mx) then 12 else 0
theorem bnd_bad {i:AK} {j:Nat} {r:AP} {v:Int} (hm:(sumL (ctr i))[j]? =some (r,v)) (hv:¬(-Mx≤v∧v≤Mx)):(12:Int)=TU i:=by
 unfold TU;rw [θ ⟨_,ζ hm,hv⟩]
theorem bnd_ok {i:AK} (h:∀x∈sumL (ctr i),-Mx≤x.2∧x.2≤Mx):(0:Int)=TU i:=by
 unfold TU;rw [ϑ];rintro ⟨x,hx,hn⟩;exact hn (h x hx)
theorem YT (i:AK) (hi:ItmB i):AO Tryz.prog 172 [.d (Ao i)] (AF (TU i)):=by
 obtain ⟨M,hMM⟩:∃M,sumL (ctr i)=M:=⟨_,Z⟩
 have hs:=(Ph i hi).by [(2,20)] rfl;rw [hMM] at hs;refine Az Tryz.func172 Z Z Tryz.ntmps172 Z Z Z fun F hF=>(AC (AE (V (CC 1 Z Z Z Z Z Z Z) (AB Z Z (AD ?_)))));refine AC (AC (AE (J (BM Z Z By Z Z Z) (V (EW hs Z [20] ⟨Z,trivial⟩ Z Z Z Z Z Z Z Z Z) (V (Fs 2 Z Z Z Bs Z Z Z Z) (AD (A4 (B5 (α:=List Nat) (fun seen=>⟨15,[(7,(.ptr 2 0 0))],[(2,[.iter 20 0 M.length seen]),(20,[BH CV AF M])]⟩) (fun seen=>∀x∈M,x∈Bo M (List.range M.length) seen∨(-Mx≤x.2∧x.2≤Mx)) (fun seen=>(Bo M (List.range M.length) seen).length) ([]) (fun x hx=> .inl (by rw [Cy (by simp)];exact hx)) (A0 hF [2,20] Z Z ⟨Z,trivial⟩) ?_))))))));intro seen hI;refine AC (AE (Kc (M) Z Z Z Z (fun hl8=>?_) (fun j8 b8 k8 v8 hm8 hb8 hB8 hp8=>⟨_,Z,?_⟩)))
 ·refine J (Cc Z Z Z) ?_;refine AD (AC (EN Z Z (BC (AC (AE (AB Z Z (AD (A5 ?_))))))));exact ⟨_,[],[],A3 Z,Z,Z,Ac (bnd_ok fun x hx=>by rw [hMM] at hx;exact (hI x hx).elim (fun h=>by rw [hl8] at h;cases h) id),Z⟩
 ·refine J (Cc Z Z Z) ?_;refine AD (AC (DV Z Z (A1 (A4 (AC (AE (J (Ft (M) j8 b8 Z Z Z hm8 hb8 Z) (J (Cc Z Z Z) ?_))))))));refine AB Z Z (AD (AC (AE (goMv Z Z (J (B4 (GP v8 (-1000000000000000) 1000000000000000) Z Z) (J (Nx Z Z) (AD (Ae Z (fun h14=>?_) (fun h14=>?_)))))))))
  ·refine AC (AE (AB Z Z (AD (A5 ?_))));exact ⟨_,[],[],A3 Z,Z,Z,Ac (bnd_bad (by rw [hMM];exact hm8) (by simpa [Mx] using h14)),Z⟩
  ·refine A1 ?_;exact ⟨seen++ [b8],fun x hx=>(hI x hx).elim (fun h=>(Φ.1 (hp8.mem_iff.1 h)).elim (fun e=> .inr (by rw [e];simpa [Mx] using h14)) .inl) .inr,by rw [hp8.length_eq];exact χl _,A0 hF [2,20] Z (Z) ⟨Z,trivial⟩⟩
theorem Wo {α:Type} {l:List α} {f:α ->Int}:Bd (l.map f)=0↔∀x∈l,f x=0:=by
 induction l with
 | nil=>simp [Bd]
 | cons a l ih=>
  simp only [ωm,Bd]
  split
  ·rename_i h;simp [ih,h]
  ·rename_i h;simp [h]
def Ql (i:AK):List (FuncId×Int):=[(168,Ox i),(169,XZ i),(170,aftE i),(171,Uw i),(172,TU i)]
def BD (i:AK):Int:=if ¬(0≤i.id∧i.id≤1000000000)∨¬(0≤i.sq∧i.sq≤1000000000)∨¬(0≤i.pr∧i.pr≤2) then 2 else if 256<i.po.length∨256<i.pa.length∨256<i.af.length then 8 else Bd ((Ql i).map Prod.snd)
theorem UR {i:AK} (h:Ox i=0):∀p∈i.po,-Mx≤p.d∧p.d≤Mx:=fun p hp=>by
 have:=Wo.1 h p hp;unfold Rl at this
 split at this; · cases this
 split at this; · cases this
 split at this; · cases this
 rename_i h;exact Decidable.of_not_not h
theorem pay_b {i:AK} (h:XZ i=0):∀p∈i.pa,0≤p.n∧p.n≤Mx:=fun p hp=>by
 have:=Wo.1 h p hp;unfold Qu at this
 split at this; · cases this
 split at this; · cases this
 split at this; · cases this
 rename_i h;exact Decidable.of_not_not h
theorem fns_p (i:AK) (h1:i.po.length≤256) (h2:i.pa.length≤256) (h3:i.af.length≤256) {k:Nat} (hk:k<(Ql i).length) (h0:∀j,j<k ->((Ql i)[j]?).map Prod.snd=some 0):AO Tryz.prog (Ql i)[k].1 [.d (Ao i)] (AF (Ql i)[k].2):=by
 match k,hk with
 | 0,_=>exact UQ i (by omega)
 | 1,_=>exact UT i (by omega)
 | 2,_=>exact after_p i (by omega)
 | 3,_=>exact Uv i h1 (UR (by have:=h0 0 (by omega);simpa [Ql] using this))
 | 4,_=>exact YT i ⟨h1,h2,h3,UR (by have:=h0 0 (by omega);simpa [Ql] using this),pay_b (by have:=h0 1 (by omega);simpa [Ql] using this)⟩
def fnD (i:AK) (p:FuncId×Int):D:= .fn p.1 [Ao i] []
theorem KC (i:AK) (g1:i.po.length≤140737488355328) (g2:i.pa.length≤140737488355328) (g3:i.af.length≤140737488355328):AO Tryz.prog 123 [.d (Ao i)] (AF (BD i)):=by
 refine Az Tryz.func123 Z Z Tryz.ntmps123 Z Z Z fun F hF=>(AC (AE (V (CC 1 Z Z Z Z Z Z Z) (AB Z Z (AD (AC ?_))))));refine A4 (AC (AE (J (AZ Z OC Z Z Z) (J (A6 Z Z Z Aq Z) (J (B4 (HI _ _ _) Z Z) (J (Nx Z Z) (goMv Z Z (Id 11 Z (fun h11=>?_) (fun h11=>?_)))))))))
 ·refine A9 Z Z Z Z ?_;refine A9 Z Z Z Z (A9 Z Z Z Z (A9 Z Z Z Z (J (Fb Z Z Z Z) (goMv Z Z (A9 Z Z Z Z (A9 Z Z Z Z (A9 Z Z Z Z (A9 Z Z Z Z ?_))))))));refine J (Fb Z Z Z Z) (AB Z Z (AD (DV Z Z (AC (AE (AB Z Z (AD (A5 ?_))))))));exact ⟨_,[],[],A3 Z,Z,Z,Ac (by unfold BD;rw [θ (by omega)]),Z⟩
 ·refine Af Z Z Z (J (AZ Z NZ Z Z Z) ?_);refine Af Z Z Z (J (A6 Z Z Z Aq Z) (Af Z Z Z (J (B4 (HI _ _ _) Z Z) (Af Z Z Z (J (Nx Z Z) (J (DZ Z Z Z Z) (goMv Z Z (Id 17 Z (fun h17=>?_) (fun h17=>?_)))))))))
  ·refine A9 Z Z Z Z (A9 Z Z Z Z (A9 Z Z Z Z (A9 Z Z Z Z ?_)));refine J (Fb Z Z Z Z) (AB Z Z (AD (DV Z Z (AC (AE (AB Z Z (AD (A5 ?_))))))));exact ⟨_,[],[],A3 Z,Z,Z,Ac (by unfold BD;rw [θ (by omega)]),Z⟩
  ·refine Af Z Z Z (J (AZ Z Uf Z Z Z) (Af Z Z Z ?_));refine J (A6 Z Z Z Aq Z) (Af Z Z Z (J (B4 (HI _ _ _) Z Z) (Af Z Z Z (J (Nx Z Z) (J (DZ Z Z Z Z) (AB Z Z (AD (Ae Z (fun h6=>?_) (fun h6=>?_)))))))))
   ·refine AC (AE (AB Z Z (AD (A5 ?_))));exact ⟨_,[],[],A3 Z,Z,Z,Ac (by unfold BD;rw [θ (by omega)]),Z⟩
   ·refine AC (AE (J (AZ Z Hi Z Z Z) (J (A6 Z Z Z X5 Z) (J (CM Z Tryz.underlying52 Z) (J (ML Z Z Z) (goMv Z Z (Id 28 Z (fun h28=>?_) (fun h28=>?_))))))))
    ·refine A9 Z Z Z Z ?_;refine A9 Z Z Z Z (A9 Z Z Z Z (A9 Z Z Z Z (J (Fb Z Z Z Z) (goMv Z Z (A9 Z Z Z Z (A9 Z Z Z Z (A9 Z Z Z Z (A9 Z Z Z Z ?_))))))));refine J (Fb Z Z Z Z) (AB Z Z (AD (DV Z Z (AC (AE (AB Z Z (AD (A5 ?_))))))));exact ⟨_,[],[],A3 Z,Z,Z,Ac (by unfold BD;rw [ϑ (by omega),θ (by omega)]),Z⟩
    ·refine Af Z Z Z (J (AZ Z JA Z Z Z) ?_);refine Af Z Z Z (J (A6 Z Z Z aT Z) (Af Z Z Z (J (CM Z Tryz.underlying53 Z) (Af Z Z Z (J (ML Z Z Z) (J (DZ Z Z Z Z) (goMv Z Z (Id 34 Z (fun h34=>?_) (fun h34=>?_)))))))))
     ·refine A9 Z Z Z Z (A9 Z Z Z Z (A9 Z Z Z Z (A9 Z Z Z Z ?_)));refine J (Fb Z Z Z Z) (AB Z Z (AD (DV Z Z (AC (AE (AB Z Z (AD (A5 ?_))))))));exact ⟨_,[],[],A3 Z,Z,Z,Ac (by unfold BD;rw [ϑ (by omega),θ (by omega)]),Z⟩
     ·refine Af Z Z Z (J (AZ Z FH Z Z Z) (Af Z Z Z ?_));refine J (A6 Z Z Z BI Z) (Af Z Z Z (J (CM Z Tryz.underlying28 Z) (Af Z Z Z (J (ML Z Z Z) (J (DZ Z Z Z Z) (AB Z Z (AD (Ae Z (fun h23=>?_) (fun h23=>?_)))))))))
      ·refine AC (AE (AB Z Z (AD (A5 ?_))));exact ⟨_,[],[],A3 Z,Z,Z,Ac (by unfold BD;rw [ϑ (by omega),θ (by omega)]),Z⟩
      ·refine A1 (AC ?_);refine AC (AE (J (BM Z Z By Z Z Z) (J (T8 (ds:=[Ao i]) (es:=[]) Z Z Z Z Z) (J (BM Z Z By Z Z Z) (J (T8 (ds:=[Ao i]) (es:=[]) Z Z Z Z Z) (J (BM Z Z By Z Z Z) (J (T8 (ds:=[Ao i]) (es:=[]) Z Z Z Z Z) (J (BM Z Z By Z Z Z) ?_))))))));refine J (T8 (ds:=[Ao i]) (es:=[]) Z Z Z Z Z) (J (BM Z Z By Z Z Z) (J (T8 (ds:=[Ao i]) (es:=[]) Z Z Z Z Z) (V (D1 2 sl273 Z Z Z Z Z Z Z Z) (J (KM Z Tryz.underlying273 Z) (goMv Z Z (AD (A4 (B5 (α:=Nat) (fun k=>⟨62,[(50,(.own 2 0 5)),(51,(.d (AF 5))),(52,(.d (AF (k:Int))))],[(2,[.rowD 146 1 ((Ql i).map (fnD i))])]⟩) (fun k=>k≤5∧Bd ((Ql i).map Prod.snd)=Bd (((Ql i).drop k).map Prod.snd)∧∀j,j<k ->((Ql i)[j]?).map Prod.snd=some 0) (fun k=>5 - k) (0) (⟨Δ _,Z,fun j h=>absurd h (Nat.not_lt_zero j)⟩) (A0 hF [2] Z Z ⟨Z,Z,Z,trivial⟩) ?_))))))));rintro k ⟨hk0,hkE,hkz⟩;refine AC (AE (J (BV Z Z Z) (AD (AC (Ae Z (fun h53=>?_) (fun h53=>?_))))))
       ·have hk1:k<(Ql i).length:=by show k<5;have h:=h53;omega
        refine A1 (AC (A4 (AC (AE ?_))));have hE:=Dh hk1 hkE;refine J (Br (k) Z Z (Z) (by show k<5;exact hk1) Z Tryz.underlying273 sz146 Z) (J (Bw Z Z (Ah hk1) Z on146 Z) (AB Z Z (AD (AC (AE (goMv Z Z ?_))))));refine J (KW (fns_p i (by omega) (by omega) (by omega) hk1 hkz) Z Z) (AB Z Z (AD (AC (AE (goMv Z Z (J (DX Z Z Z) (AD (Ae Z (fun h59=>?_) (fun h59=>?_)))))))))
        ·refine AC (AE (goMv Z Z (AB Z Z (AD (A5 ?_)))));exact ⟨_,[],[],A3 Z,Z,Z,Ac (by unfold BD;rw [ϑ (by omega),ϑ (by omega)];exact hE.2 _ Z (by simpa using h59)),Z⟩
        ·refine A1 (AE (J (Ay Z Z (AT (k+1) (by omega)) Z) (goMv Z Z (AD ?_))));exact ⟨k+1,⟨by show k+1≤_;omega,hE.1 (by simpa using h59),fun j hj=>(Nat.lt_succ_iff_lt_or_eq.1 hj).elim (hkz j) fun h=>by subst h;rw [ω hk1];show some _=_;congr 1;simpa using h59⟩,by show 5 - (k+1)<5 - k;omega,A0 hF [2] Z (Z) ⟨Z,Z,Z,trivial⟩⟩
       ·refine BC (AC (AE (AB Z Z (AD (A5 ?_)))));exact ⟨_,[],[],A3 Z,Z,Z,Ac (by unfold BD;rw [ϑ (by omega),ϑ (by omega),hkE,GE (by have h:=h53;show ¬k<5;omega)]),Z⟩
theorem or_p (l:List Int) (hn:l.length≤140737488355328):AO Tryz.prog 165 [.d (.sl none (l.map AF))] (AF (Bd l)):=by
 refine Az Tryz.func165 Z Z Tryz.ntmps165 Z Z Z fun F hF=>(AC (AE (AB Z Z (AD (AC (AE (AB Z Z (AD ?_))))))));refine AC (AC (AE (goMv Z Z (J (CM Z Tryz.underlying28 Z) (goMv Z Z (AD (A4 (Gm (α:=Nat) (fun k=>⟨18,[(3,(.d (AF 0))),(6,(.d (.sl none (l.map AF)))),(7,(.d (AF (l.length:Int)))),(8,(.d (AF (k:Int))))],[]⟩) (fun k=>k≤l.length∧Bd (l.map id)=Bd ((l.drop k).map id)) (fun k=>l.length - k) (0) (⟨Δ _,Z⟩) (dJ ⟨Z,Z,Z,Z,trivial⟩) ?_))))))));rintro k ⟨hk0,hk⟩;refine AC (AE (J (BV Z Z Z) (AD (AC (Ae Z (fun h9=>?_) (fun h9=>?_))))))
 ·have hk1:k<l.length:=Bf h9;refine A1 (AC (A4 (AC (AE ?_))));have hE:=Dh hk1 hk;refine J (Bk (k) Z Z (Z) (Ah hk1) Tryz.underlying28 Z BA Z) (J (D0 Z Z Aq Z) ?_);refine AB Z Z (AD (AC (AE (goMv Z Z (goMv Z Z (J (DX Z Z Z) (AD (Ae Z (fun h14=>?_) (fun h14=>?_)))))))))
  ·refine AC (AE (goMv Z Z (AB Z Z (AD (A5 ?_)))));exact ⟨_,[],[],A3 Z,Z,Z,Ac ((hE.2 l[k] Z (by simpa using h14)).trans (by rw [List.map_id])),Z⟩
  ·refine A1 (AE (J (Ay Z Z (AT (k+1) (by omega)) Z) (goMv Z Z (AD ?_))));exact ⟨k+1,⟨by show k+1≤_;omega,hE.1 (by simpa using h14)⟩,by show l.length - (k+1)<l.length - k;omega,⟨Z,Z,fun _ _=>Tm.get (l:=[(3,_),(6,_),(7,_),(8,_)]) ⟨Z,Z,Z,Z,trivial⟩⟩⟩
 ·refine BC (AC (AE (goMv Z Z (AB Z Z (AD (A5 ?_))))));exact ⟨_,[],[],A3 Z,Z,Z,Ac (by rw [List.map_id] at hk;rw [hk,GE (by have h:=h9;omega)]),Z⟩
def B9 (a b:AP):Int:=Bd [Dk a.k b.k,E7 a.acc.o b.acc.o,Dk a.acc.k b.acc.k,E7 a.acc.a b.acc.a,E7 a.f b.f,E7 a.t b.t]
def Fy (a b:AK):Int:=Bd [Dk b.pr a.pr,Dk a.sq b.sq]
set_option maxHeartbeats 2000000 in
theorem LA (a b:AP):AO Tryz.prog 143 [.d (CV a),.d (CV b)] (AF (B9 a b)):=by
 refine Az Tryz.func143 Z Z Tryz.ntmps143 Z Z Z fun F hF=>(AC (AE (V (CC 1 Z Z Z Z Z Z Z) ?_)));refine V (CC 2 Z Z Z Z Z Z Z) (AB Z Z (AD (AC (Cb [[],[0],[],[2],[0,1,2,3],[],[5],[5,6],[],[8],[8,9],[0,1,2,3,4,5,6,7,8,9,10],[],[12],[12,13],[],[15],[15,16],[0,1,2,3,4,5,6,7,8,9,10,11,12,13,14,15,16,17],[],[19],[19,20],[],[22],[22,23],[0,1,2,3,4,5,6,7,8,9,10,11,12,13,14,15,16,17,18,19,20,21,22,23,24],[],[26],[],[28],[0,1,2,3,4,5,6,7,8,9,10,11,12,13,14,15,16,17,18,19,20,21,22,23,24,25,26,27,28,29],[],[31],[],[33],[0,1,2,3,4,5,6,7,8,9,10,11,12,13,14,15,16,17,18,19,20,21,22,23,24,25,26,27,28,29,30,31,32,33,34],[0,1,2,3,4,5,6,7,8,9,10,11,12,13,14,15,16,17,18,19,20,21,22,23,24,25,26,27,28,29,30,31,32,33,34,35],[0,1,2,3,4,5,6,7,8,9,10,11,12,13,14,15,16,17,18,19,20,21,22,23,24,25,26,27,28,29,30,31,32,33,34,35,36],[0,1,2,3,4,5,6,7,8,9,10,11,12,13,14,15,16,17,18,19,20,21,22,23,24,25,26,27,28,29,30,31,32,33,34,35,36,37]] mixed Z (Cr (AJ [2] [] Z Z (fun _=>AG (AZ Z Ue Z Z Z)) (At [5] Z Z (fun _=>AG (A6 Z Z Z Aq Z)) (AJ [3] [] Z Z (fun _=>AG (AZ Z Ue Z Z Z)) ?_))))))));refine At [7] Z Z (fun _=>AG (A6 Z Z Z Aq Z)) (AJ [6,8] [] Z Z (fun _=>AG (B4 (Q5 a.k b.k) Z Z)) (AJ [2] [] Z Z (fun _=>AG (AZ Z ER Z Z Z)) (AJ [10] [] Z Z (fun _=>AG (AZ Z QQ Z Z Z)) (At [11] Z Z (fun _=>AG (A6 Z Z Z IG Z)) (AJ [3] [] Z Z (fun _=>AG (AZ Z ER Z Z Z)) (AJ [13] [] Z Z (fun _=>AG (AZ Z QQ Z Z Z)) (At [14] Z Z (fun _=>AG (A6 Z Z Z IG Z)) (AJ [12,15] [] Z Z (fun _=>AG (B4 (Q4 a.acc.o b.acc.o) Z Z)) ?_))))))));refine AJ [2] [] Z Z (fun _=>AG (AZ Z ER Z Z Z)) (AJ [17] [] Z Z (fun _=>AG (AZ Z NY Z Z Z)) (At [18] Z Z (fun _=>AG (A6 Z Z Z Aq Z)) (AJ [3] [] Z Z (fun _=>AG (AZ Z ER Z Z Z)) (AJ [20] [] Z Z (fun _=>AG (AZ Z NY Z Z Z)) (At [21] Z Z (fun _=>AG (A6 Z Z Z Aq Z)) (AJ [19,22] [] Z Z (fun _=>AG (B4 (Q5 a.acc.k b.acc.k) Z Z)) (AJ [2] [] Z Z (fun _=>AG (AZ Z ER Z Z Z)) (AJ [24] [] Z Z (fun _=>AG (AZ Z NX Z Z Z)) ?_))))))));refine At [25] Z Z (fun _=>AG (A6 Z Z Z IG Z)) (AJ [3] [] Z Z (fun _=>AG (AZ Z ER Z Z Z)) (AJ [27] [] Z Z (fun _=>AG (AZ Z NX Z Z Z)) (At [28] Z Z (fun _=>AG (A6 Z Z Z IG Z)) (AJ [26,29] [] Z Z (fun _=>AG (B4 (Q4 a.acc.a b.acc.a) Z Z)) (AJ [2] [] Z Z (fun _=>AG (AZ Z Kt Z Z Z)) (At [31] Z Z (fun _=>AG (A6 Z Z Z IG Z)) (AJ [3] [] Z Z (fun _=>AG (AZ Z Kt Z Z Z)) (At [33] Z Z (fun _=>AG (A6 Z Z Z IG Z)) ?_))))))));refine AJ [32,34] [] Z Z (fun _=>AG (B4 (Q4 a.f b.f) Z Z)) (AJ [2] [] Z Z (fun _=>AG (AZ Z Ks Z Z Z)) (At [36] Z Z (fun _=>AG (A6 Z Z Z IG Z)) (AJ [3] [] Z Z (fun _=>AG (AZ Z Ks Z Z Z)) (At [38] Z Z (fun _=>AG (A6 Z Z Z IG Z)) (C3 35 Z Z Z (Aa 36 Z Z (J (B4 (Q4 a.t b.t) Z Z) (AD ⟨Z,?_⟩))))))));refine Aa 37 Z Z (V (D1 3 BW Z Z Z Z Z Z Z Z) (AD ⟨Z,?_⟩));refine Aa 38 Z Z (J (Hz [3] (or_p [Dk a.k b.k,E7 a.acc.o b.acc.o,Dk a.acc.k b.acc.k,E7 a.acc.a b.acc.a,E7 a.f b.f,E7 a.t b.t] (by simp)) (by exact ⟨.inr ⟨_,_,Z,.own Z Z (by simp) (Ξ (by simp)),Z⟩,trivial⟩) Z Z) (AD ⟨Z,?_⟩));refine Aa 39 Z Z (AB Z Z (AD ⟨Z,?_⟩));refine C9 (A5 ?_);exact ⟨_,[],[],A3 Z,Z,Z,Z,Z⟩
theorem Vh (a b:AK):AO Tryz.prog 122 [.d (Ao a),.d (Ao b)] (AF (Fy a b)):=by
 refine Az Tryz.func122 Z Z Tryz.ntmps122 Z Z Z fun F hF=>(AC (AE (V (CC 1 Z Z Z Z Z Z Z) (V (CC 2 Z Z Z Z Z Z Z) ?_))));refine AB Z Z (AD (AC (Cb [[],[0],[],[2],[0,1,2,3],[],[5],[],[7],[0,1,2,3,4,5,6,7,8],[0,1,2,3,4,5,6,7,8,9],[0,1,2,3,4,5,6,7,8,9,10],[0,1,2,3,4,5,6,7,8,9,10,11]] mixed Z (Cr (AJ [3] [] Z Z (fun _=>AG (AZ Z Uf Z Z Z)) (At [5] Z Z (fun _=>AG (A6 Z Z Z Aq Z)) (AJ [2] [] Z Z (fun _=>AG (AZ Z Uf Z Z Z)) (At [7] Z Z (fun _=>AG (A6 Z Z Z Aq Z)) ?_))))))));refine AJ [6,8] [] Z Z (fun _=>AG (B4 (Q5 b.pr a.pr) Z Z)) (AJ [2] [] Z Z (fun _=>AG (AZ Z NZ Z Z Z)) (At [10] Z Z (fun _=>AG (A6 Z Z Z Aq Z)) (AJ [3] [] Z Z (fun _=>AG (AZ Z NZ Z Z Z)) (At [12] Z Z (fun _=>AG (A6 Z Z Z Aq Z)) (C3 9 Z Z Z (Aa 10 Z Z (J (B4 (Q5 a.sq b.sq) Z Z) (AD ⟨Z,?_⟩))))))));refine Aa 11 Z Z (V (D1 3 BW Z Z Z Z Z Z Z Z) (AD ⟨Z,?_⟩));refine Aa 12 Z Z (J (Hz [3] (or_p [Dk b.pr a.pr,Dk a.sq b.sq] (by simp)) (by exact ⟨.inr ⟨_,_,Z,.own Z Z (by simp) (Ξ (by simp)),Z⟩,trivial⟩) Z Z) (AD ⟨Z,?_⟩));refine Aa 13 Z Z (AB Z Z (AD ⟨Z,?_⟩));refine C9 (A5 ?_);exact ⟨_,[],[],A3 Z,Z,Z,Z,Z⟩
theorem cp (a b:AK):AO Tryz.prog 117 [.d (Ao a),.d (Ao b)] (.raw (.bool (decide (Fy a b<0)))):=by
 refine Az Tryz.func117 Z Z Tryz.ntmps117 Z Z Z fun F hF=>(AC (AE (V (CC 1 Z Z Z Z Z Z Z) (V (CC 2 Z Z Z Z Z Z Z) (AB Z Z (AD ?_))))));refine AC (AE (J (BM Z Z By Z Z Z) (J (BM Z Z By Z Z Z) (J (B4 (Vh a b) Z Z) (J (BV Z Z Z) (AB Z Z (AD (A5 ?_))))))));exact ⟨_,[],[],A3 Z,Z,Z,Z,Z⟩
def OV (x:AP×Int):D:= .agg [AF x.1.k,Am x.1.acc.o,AF x.1.acc.k,Am x.1.acc.a,Am x.1.f,Am x.1.t,AF x.2]
theorem YG (a b:AP×Int):AO Tryz.prog 162 [.d (OV a),.d (OV b)] (AF (B9 a.1 b.1)):=by
 refine Az Tryz.func162 Z Z Tryz.ntmps162 Z Z Z fun F hF=>(AC (AE (V (CC 1 Z Z Z Z Z Z Z) (V (CC 2 Z Z Z Z Z Z Z) (AB Z Z (AD (AC ?_)))))));refine AE (J (AZ Z Ji Z Z Z) (J (BM Z Z CU Z Z Z) (J (AZ Z Ji Z Z Z) (J (BM Z Z CU Z Z Z) (J (B4 (LA a.1 b.1) Z Z) (AB Z Z (AD (A5 ?_))))))));exact ⟨_,[],[],A3 Z,Z,Z,Z,Z⟩
theorem Ki:∀a b c:List UInt8,PO a b=true ->PO b c=true ->PO a c=true
 | [],[],_,h,_=>by simp [PO,Op.bytesLess] at h
 | [],_::_,[],_,h=>by simp [PO,Op.bytesLess] at h
 | [],_::_,_::_,_,_=>by simp [PO,Op.bytesLess]
 | _::_,[],_,h,_=>by simp [PO,Op.bytesLess] at h
 | _::_,_::_,[],_,h=>by simp [PO,Op.bytesLess] at h
 | a::x,b::y,c::z,h1,h2=>by
  simp only [PO,Op.bytesLess,Bool.or_eq_true,ωs,ωd,beq_iff_eq] at h1 h2⊢;rcases h1 with h1 | ⟨rfl,h1⟩<;>rcases h2 with h2 | ⟨rfl,h2⟩
  ·exact .inl (UInt8.lt_trans h1 h2)
  ·exact .inl h1
  ·exact .inl h2
  ·exact .inr ⟨Z,Ki x y z h1 h2⟩
theorem It (a:List UInt8):PO a a=false:=by
 have:=IK a a;simp only [PO]
 cases h:Op.bytesLess a a with
 | false=>rfl
 | true=>rw [h] at this;simp at this
structure PC {γ:Type} (c:γ ->γ ->Int):Prop where
 anti:∀x y,c y x= - c x y
 trans:∀x y z,c x y<0 ->c y z<0 ->c x z<0
 eqv:∀x y z,c x y=0 ->c x z=c y z
theorem cmpI_pc:PC Dk:=⟨fun x y=>by unfold Dk;split<;>split<;>first | omega | rfl,fun x y z=>by unfold Dk;split<;>split<;>(try split)<;>(try split)<;>(try split)<;>(try split)<;>first | omega | simp,fun x y z h=>by
 have:x=y:=by
  unfold Dk at h;split at h; · cases h
  split at h; · cases h
  omega
 rw [this]⟩
theorem Ej {a b:List UInt8}:E7 a b=0↔a=b:=by
 unfold E7
 constructor
 ·intro h
  split at h; · cases h
  split at h; · cases h
  rename_i h1 h2
  have:=IK a b
  change PO b a=(!PO a b && !a==b) at this
  simp only [Bool.not_eq_true] at h1 h2;rw [h1,h2] at this
  simpa using this
 ·rintro rfl;rw [ϑ (by rw [It];simp),ϑ (by rw [It];simp)]
theorem Nj {a b:List UInt8}:E7 a b<0↔PO a b=true:=by
 unfold E7;split
 ·rename_i h;simp [h]
 ·rename_i h;split<;>simp [h]
theorem cmpS_pc:PC E7:=⟨fun x y=>by
 unfold E7
 by_cases h1:PO x y=true
 ·have h2:¬PO y x=true:=fun h2=>by have:=Ki x y x h1 h2;rw [It] at this;cases this
  rw [ϑ h2,θ h1,θ h1];rfl
 ·by_cases h2:PO y x=true
  ·rw [θ h2,ϑ h1,θ h2]
  ·rw [ϑ h2,ϑ h1,ϑ h1,ϑ h2];rfl,fun x y z h1 h2=>Nj.2 (Ki x y z (Nj.1 h1) (Nj.1 h2)),fun x y z h=>by rw [Ej.1 h]⟩
theorem PC.comap {γ δ:Type} {c:γ ->γ ->Int} (h:PC c) (f:δ ->γ):PC fun x y=>c (f x) (f y):=⟨fun _ _=>h.anti _ _,fun _ _ _=>h.trans _ _ _,fun _ _ _=>h.eqv _ _ _⟩
theorem PC.rev {γ:Type} {c:γ ->γ ->Int} (h:PC c):PC fun x y=>c y x:=⟨fun x y=>h.anti y x,fun x y z h1 h2=>h.trans _ _ _ h2 h1,fun x y z h1=>by
 have e:c x y=0:=by have:=h.anti y x;omega
 have:=h.eqv x y z e
 rw [h.anti x z,h.anti y z,this]⟩
theorem PC.zero {γ:Type}:PC fun _ _:γ=>(0:Int):=⟨fun _ _=>rfl,fun _ _ _ h=>by omega,fun _ _ _ _=>rfl⟩
theorem PC.lex {γ:Type} {c:γ ->γ ->Int} {r:γ ->γ ->List Int} (h:PC c) (h':PC fun x y=>Bd (r x y)):PC fun x y=>Bd (c x y::r x y):=by
 have sw:∀x y,c x y=0↔c y x=0:=fun x y=>by have:=h.anti x y;omega
 refine ⟨fun x y=>?_,fun x y z=>?_,fun x y z=>?_⟩
 ·simp only [Bd]
  by_cases e:c x y=0
  ·rw [θ e,θ ((sw x y).1 e)];exact h'.anti x y
  ·rw [ϑ e,ϑ (fun e'=>e ((sw x y).2 e'))];exact h.anti x y
 ·simp only [Bd];intro h1 h2
  by_cases e1:c x y=0<;>by_cases e2:c y z=0
  ·have e3:c x z=0:=by rw [h.eqv x y z e1];exact e2
   rw [θ e1] at h1;rw [θ e2] at h2;rw [θ e3];exact h'.trans x y z h1 h2
  ·rw [ϑ e2] at h2;have e3:c x z=c y z:=h.eqv x y z e1;rw [ϑ (by rw [e3];exact e2),e3];exact h2
  ·rw [ϑ e1] at h1;have e3:c z x=c y x:=(h.eqv y z x e2).symm;have e4:c x z=c x y:=by rw [h.anti z x,h.anti y x,e3]
   rw [ϑ (by rw [e4];exact e1),e4];exact h1
  ·rw [ϑ e1] at h1;rw [ϑ e2] at h2;have:=h.trans x y z h1 h2;rw [ϑ (by omega)];exact this
 ·simp only [Bd];intro h1
  have e1:c x y=0:=by
   by_cases e:c x y=0
   ·exact e
   ·rw [ϑ e] at h1;exact h1
  rw [θ e1] at h1;rw [h.eqv x y z e1];rw [h'.eqv x y z h1]
theorem PC.last {γ:Type}:PC fun x y:γ=>Bd ((fun _ _:γ=>([]:List Int)) x y):=PC.zero
theorem MI:PC B9:=
 PC.lex (cmpI_pc.comap AP.k)<| PC.lex (cmpS_pc.comap fun r:AP=>r.acc.o)<| PC.lex (cmpI_pc.comap fun r:AP=>r.acc.k)<| PC.lex (cmpS_pc.comap fun r:AP=>r.acc.a)<| PC.lex (cmpS_pc.comap AP.f)<| PC.lex (cmpS_pc.comap AP.t) PC.last
theorem DL:PC Fy:=PC.lex (cmpI_pc.comap AK.pr).rev<| PC.lex (cmpI_pc.comap AK.sq) PC.last
theorem PC.refl {γ:Type} {c:γ ->γ ->Int} (h:PC c) (x:γ):c x x=0:=by have:=h.anti x x;omega
theorem PC.swo {γ:Type} {c:γ ->γ ->Int} (h:PC c):Go.Sort.SWO (ltOf c):=by
 refine ⟨fun x=>?_,fun x y z h1 h2=>?_,fun x y z h1 h2=>?_⟩
 ·simp [ltOf,h.refl]
 ·simp only [ltOf,ωs] at*;exact h.trans x y z h1 h2
 ·simp only [ltOf,decide_eq_false_iff_not] at*;have a1:=h.anti x y;have a2:=h.anti y z;have a3:=h.anti x z
  by_cases e:c x y=0
  ·rw [h.eqv x y z e];exact h2
  ·by_cases e2:c y z=0
   ·have:=h.eqv y z x e2;rw [h.anti x y,h.anti x z] at this;omega
   ·have:=h.trans z y x (by omega) (by omega);omega
theorem IX {a b:Int}:Dk a b=0↔a=b:=by
 unfold Dk;split
 ·constructor<;>intro h<;>omega
 ·split<;>constructor<;>intro h<;>omega
theorem DA {a b:AP}:B9 a b=0↔a=b:=by
 unfold B9;simp only [Bd];rw [AP.eq_iff,Td.eq_iff]
 constructor
 ·intro h
  repeat' split at h
  all_goals first
   | contradiction
   | (rename_i h1 h2 h3 h4 h5 h6;exact ⟨IX.1 h1,⟨Ej.1 h2,IX.1 h3,Ej.1 h4⟩,Ej.1 h5,Ej.1 h6⟩)
 ·rintro ⟨h1,⟨h2,h3,h4⟩,h5,h6⟩;rw [h1,h2,h3,h4,h5,h6]
  simp [IX,Ej]
theorem Zcw {γ:Type} {R:γ ->γ ->Prop} (irr:∀x,¬R x x) (tr:∀x y z,R x y ->R y z ->R x z):∀{l m:List γ},l.Pairwise R ->m.Pairwise R ->(∀x,x∈l↔x∈m) ->l=m
 | [],[],_,_,_=>rfl
 | [],b::m,_,_,h=>by have:=(h b).2 (by simp);cases this
 | a::l,[],_,_,h=>by have:=(h a).1 (by simp);cases this
 | a::l,b::m,h1,h2,h=>by
  rw [ψz] at h1 h2
  have e:a=b:=by
   rcases Φ.1 ((h a).1 (by simp)) with e | h3
   ·exact e
   ·rcases Φ.1 ((h b).2 (by simp)) with e | h4
    ·exact e.symm
    ·exact absurd (tr _ _ _ (h1.1 b h4) (h2.1 a h3)) (irr a)
  subst e
  congr 1
  refine Zcw irr tr h1.2 h2.2 fun x=>⟨fun hx=>?_,fun hx=>?_⟩
  ·rcases Φ.1 ((h x).1 (by simp [hx])) with e | h3
   ·subst e;exact absurd (h1.1 x hx) (irr x)
   ·exact h3
  ·rcases Φ.1 ((h x).2 (by simp [hx])) with e | h3
   ·subst e;exact absurd (h2.1 x hx) (irr x)
   ·exact h3
abbrev T3:Td:=⟨[],0,[]⟩
def BJ (r:AP):Int:=
 if r.k=0 then (if r.acc.o≠ []∧r.acc.a≠ []∧0≤r.acc.k∧r.acc.k<5∧r.f=[]∧r.t=[] then 0 else 3)
 else if r.k=1 then (if r.f≠ []∧r.t≠ []∧r.f≠r.t∧r.acc=T3 then 0 else 3)
 else if r.k=2 then (if r.f≠ []∧r.t=[]∧r.acc=T3 then 0 else 3) else 11
theorem VL (r:AP):AO Tryz.prog 124 [.d (CV r)] (AF (BJ r)):=by
 refine Az Tryz.func124 Z Z Tryz.ntmps124 Z Z Z fun F hF=>(AC (AE (V (CC 1 Z Z Z Z Z Z Z) (AB Z Z ?_))));refine AD (AC (AE (AB Z Z (AD (AC (AC (AE (J (AZ Z Ue Z Z Z) ?_))))))));refine J (A6 Z Z Z Aq Z) (AD (A4 (AC (AE (J (KL Z Z Z) (AB Z Z (AD (Ae Z (fun h6=>?_) (fun h6=>?_)))))))))
 ·refine AE (J (AZ Z ER Z Z Z) (J (AZ Z QQ Z Z Z) (J (A6 Z Z Z IG Z) (J (Eu Z Z Z) (goMv Z Z (Id 12 Z (fun h12=>?_) (fun h12=>?_)))))))
  ·refine Af Z Z Z (J (AZ Z ER Z Z Z) ?_);refine Af Z Z Z (J (AZ Z NX Z Z Z) (Af Z Z Z (J (A6 Z Z Z IG Z) (Af Z Z Z (J (Eu Z Z Z) (J (Fb Z Z Z Z) (goMv Z Z (Id 18 Z (fun h18=>?_) (fun h18=>?_)))))))))
   ·refine Af Z Z Z (J (AZ Z ER Z Z Z) ?_);refine Af Z Z Z (J (AZ Z NY Z Z Z) (Af Z Z Z (J (A6 Z Z Z Aq Z) (Af Z Z Z (J (EO Z Z Z) (J (Fb Z Z Z Z) (goMv Z Z (Id 24 Z (fun h24=>?_) (fun h24=>?_)))))))))
    ·refine Af Z Z Z (J (AZ Z ER Z Z Z) ?_);refine Af Z Z Z (J (AZ Z NY Z Z Z) (Af Z Z Z (J (A6 Z Z Z Aq Z) (Af Z Z Z (J (BV Z Z Z) (J (Fb Z Z Z Z) (goMv Z Z (Id 30 Z (fun h30=>?_) (fun h30=>?_)))))))))
     ·refine Af Z Z Z (J (AZ Z Kt Z Z Z) (Af Z Z Z (J (A6 Z Z Z IG Z) (Af Z Z Z (J (Dz Z Z Z) (J (Fb Z Z Z Z) (goMv Z Z (Id 35 Z (fun h35=>?_) (fun h35=>?_)))))))))
      ·refine Af Z Z Z (J (AZ Z Ks Z Z Z) (Af Z Z Z (J (A6 Z Z Z IG Z) (Af Z Z Z (J (Dz Z Z Z) (J (Fb Z Z Z Z) ?_))))));refine AB Z Z (AD (AC (AC (AE (goMv Z Z (J (Nx Z Z) (AD (Ae Z (fun h80=>?_) (fun h80=>?_)))))))))
       ·refine AC (AE (AB Z Z (AD (A5 ?_))));exact ⟨_,[],[],A3 Z,Z,Z,Ac (by unfold BJ;simp_all<;>(intros;omega)),Z⟩
       ·refine A1 (AC (AE (AB Z Z (AD (A5 ?_)))));exact ⟨_,[],[],A3 Z,Z,Z,Ac (by unfold BJ;simp_all<;>(intros;omega)),Z⟩
      ·refine A9 Z Z Z Z (A9 Z Z Z Z (A9 Z Z Z Z (J (DZ Z Z Z Z) (AB Z Z (AD (AC (AC (AE ?_))))))));refine goMv Z Z (J (Dq Z Z) (AD (DV Z Z (AC (AE (AB Z Z (AD (A5 ?_))))))));exact ⟨_,[],[],A3 Z,Z,Z,Ac (by unfold BJ;simp_all<;>(intros;omega)),Z⟩
     ·refine A9 Z Z Z Z (A9 Z Z Z Z (A9 Z Z Z Z (J (DZ Z Z Z Z) (goMv Z Z ?_))));refine A9 Z Z Z Z (A9 Z Z Z Z (A9 Z Z Z Z (J (DZ Z Z Z Z) (AB Z Z (AD (AC (AC (AE ?_))))))));refine goMv Z Z (J (Dq Z Z) (AD (DV Z Z (AC (AE (AB Z Z (AD (A5 ?_))))))));exact ⟨_,[],[],A3 Z,Z,Z,Ac (by unfold BJ;simp_all<;>(intros;omega)),Z⟩
    ·refine A9 Z Z Z Z (A9 Z Z Z Z ?_);refine A9 Z Z Z Z (A9 Z Z Z Z (J (DZ Z Z Z Z) (goMv Z Z (A9 Z Z Z Z (A9 Z Z Z Z (A9 Z Z Z Z (J (DZ Z Z Z Z) (goMv Z Z ?_))))))));refine A9 Z Z Z Z (A9 Z Z Z Z (A9 Z Z Z Z (J (DZ Z Z Z Z) (AB Z Z (AD (AC (AC (AE ?_))))))));refine goMv Z Z (J (Dq Z Z) (AD (DV Z Z (AC (AE (AB Z Z (AD (A5 ?_))))))));exact ⟨_,[],[],A3 Z,Z,Z,Ac (by unfold BJ;simp_all<;>(intros;omega)),Z⟩
   ·refine A9 Z Z Z Z (A9 Z Z Z Z (A9 Z Z Z Z (A9 Z Z Z Z (J (DZ Z Z Z Z) (goMv Z Z (A9 Z Z Z Z (A9 Z Z Z Z ?_)))))));refine A9 Z Z Z Z (A9 Z Z Z Z (J (DZ Z Z Z Z) (goMv Z Z (A9 Z Z Z Z (A9 Z Z Z Z (A9 Z Z Z Z (J (DZ Z Z Z Z) (goMv Z Z ?_))))))));refine A9 Z Z Z Z (A9 Z Z Z Z (A9 Z Z Z Z (J (DZ Z Z Z Z) (AB Z Z (AD (AC (AC (AE ?_))))))));refine goMv Z Z (J (Dq Z Z) (AD (DV Z Z (AC (AE (AB Z Z (AD (A5 ?_))))))));exact ⟨_,[],[],A3 Z,Z,Z,Ac (by unfold BJ;simp_all<;>(intros;omega)),Z⟩
  ·refine A9 Z Z Z Z (A9 Z Z Z Z (A9 Z Z Z Z (A9 Z Z Z Z (J (DZ Z Z Z Z) ?_))));refine goMv Z Z (A9 Z Z Z Z (A9 Z Z Z Z (A9 Z Z Z Z (A9 Z Z Z Z (J (DZ Z Z Z Z) (goMv Z Z (A9 Z Z Z Z (A9 Z Z Z Z ?_))))))));refine A9 Z Z Z Z (A9 Z Z Z Z (J (DZ Z Z Z Z) (goMv Z Z (A9 Z Z Z Z (A9 Z Z Z Z (A9 Z Z Z Z (J (DZ Z Z Z Z) (goMv Z Z ?_))))))));refine A9 Z Z Z Z (A9 Z Z Z Z (A9 Z Z Z Z (J (DZ Z Z Z Z) (AB Z Z (AD (AC (AC (AE ?_))))))));refine goMv Z Z (J (Dq Z Z) (AD (DV Z Z (AC (AE (AB Z Z (AD (A5 ?_))))))));exact ⟨_,[],[],A3 Z,Z,Z,Ac (by unfold BJ;simp_all<;>(intros;omega)),Z⟩
 ·refine AC (AE (J (KL Z Z Z) (AB Z Z (AD (Ae Z (fun h40=>?_) (fun h40=>?_))))))
  ·refine AE (J (AZ Z Kt Z Z Z) (J (A6 Z Z Z IG Z) (J (Eu Z Z Z) (goMv Z Z (Id 45 Z (fun h45=>?_) (fun h45=>?_))))))
   ·refine Af Z Z Z (J (AZ Z Ks Z Z Z) (Af Z Z Z (J (A6 Z Z Z IG Z) (Af Z Z Z (J (Eu Z Z Z) (J (Fb Z Z Z Z) (goMv Z Z (Id 50 Z (fun h50=>?_) (fun h50=>?_)))))))))
    ·refine Af Z Z Z (J (AZ Z Kt Z Z Z) (Af Z Z Z (J (A6 Z Z Z IG Z) ?_)));refine Af Z Z Z (J (AZ Z Ks Z Z Z) (Af Z Z Z (J (A6 Z Z Z IG Z) (Af Z Z Z (J (Eu Z Z Z) (J (Fb Z Z Z Z) (goMv Z Z (Id 57 Z (fun h57=>?_) (fun h57=>?_)))))))))
     ·refine Af Z Z Z (J (AZ Z ER Z Z Z) (Af Z Z Z (J (BM Z Z rw62 Z Z Z) (Af Z Z Z (J (FV Yd aH Z Z Z) (Af Z Z Z (J (RT (la:=T5 r.acc) (lb:=T5 T3) (ds:=accT) (by kernel_rfl) (by kernel_rfl) (by kernel_rfl) Z Z Z Z (IZ _) (IZ _) (Wg _ _) Z) (J (Fb Z Z Z Z) ?_))))))));refine AB Z Z (AD (AC (AC (AE (goMv Z Z (J (Nx Z Z) (AD (Ae Z (fun h80=>?_) (fun h80=>?_)))))))))
      ·refine AC (AE (AB Z Z (AD (A5 ?_))));exact ⟨_,[],[],A3 Z,Z,Z,Ac (by unfold BJ;simp_all<;>(intros;omega)),Z⟩
      ·refine A1 (AC (AE (AB Z Z (AD (A5 ?_)))));exact ⟨_,[],[],A3 Z,Z,Z,Ac (by unfold BJ;simp_all<;>(intros;omega)),Z⟩
     ·refine A9 Z Z Z Z ?_;refine A9 Z Z Z Z (A9 Z Z Z Z (A9 Z Z Z Z (J (DZ Z Z Z Z) (AB Z Z (AD (AC (AC (AE ?_))))))));refine goMv Z Z (J (Dq Z Z) (AD (DV Z Z (AC (AE (AB Z Z (AD (A5 ?_))))))));exact ⟨_,[],[],A3 Z,Z,Z,Ac (by unfold BJ;simp_all<;>(intros;omega)),Z⟩
    ·refine A9 Z Z Z Z (A9 Z Z Z Z (A9 Z Z Z Z (A9 Z Z Z Z (A9 Z Z Z Z (J (DZ Z Z Z Z) (goMv Z Z (A9 Z Z Z Z ?_)))))));refine A9 Z Z Z Z (A9 Z Z Z Z (A9 Z Z Z Z (J (DZ Z Z Z Z) (AB Z Z (AD (AC (AC (AE ?_))))))));refine goMv Z Z (J (Dq Z Z) (AD (DV Z Z (AC (AE (AB Z Z (AD (A5 ?_))))))));exact ⟨_,[],[],A3 Z,Z,Z,Ac (by unfold BJ;simp_all<;>(intros;omega)),Z⟩
   ·refine A9 Z Z Z Z (A9 Z Z Z Z (A9 Z Z Z Z (J (DZ Z Z Z Z) ?_)));refine goMv Z Z (A9 Z Z Z Z (A9 Z Z Z Z (A9 Z Z Z Z (A9 Z Z Z Z (A9 Z Z Z Z (J (DZ Z Z Z Z) (goMv Z Z (A9 Z Z Z Z ?_))))))));refine A9 Z Z Z Z (A9 Z Z Z Z (A9 Z Z Z Z (J (DZ Z Z Z Z) (AB Z Z (AD (AC (AC (AE ?_))))))));refine goMv Z Z (J (Dq Z Z) (AD (DV Z Z (AC (AE (AB Z Z (AD (A5 ?_))))))));exact ⟨_,[],[],A3 Z,Z,Z,Ac (by unfold BJ;simp_all<;>(intros;omega)),Z⟩
  ·refine AC (AE (J (KL Z Z Z) (AB Z Z (AD (Ae Z (fun h63=>?_) (fun h63=>?_))))))
   ·refine AE (J (AZ Z Kt Z Z Z) (J (A6 Z Z Z IG Z) (J (Eu Z Z Z) (goMv Z Z (Id 68 Z (fun h68=>?_) (fun h68=>?_))))))
    ·refine Af Z Z Z (J (AZ Z Ks Z Z Z) (Af Z Z Z (J (A6 Z Z Z IG Z) (Af Z Z Z (J (Dz Z Z Z) (J (Fb Z Z Z Z) (goMv Z Z (Id 73 Z (fun h73=>?_) (fun h73=>?_)))))))))
     ·refine Af Z Z Z (J (AZ Z ER Z Z Z) (Af Z Z Z (J (BM Z Z rw62 Z Z Z) (Af Z Z Z (J (FV Yd aH Z Z Z) (Af Z Z Z (J (RT (la:=T5 r.acc) (lb:=T5 T3) (ds:=accT) (by kernel_rfl) (by kernel_rfl) (by kernel_rfl) Z Z Z Z (IZ _) (IZ _) (Wg _ _) Z) (J (Fb Z Z Z Z) ?_))))))));refine AB Z Z (AD (AC (AC (AE (goMv Z Z (J (Nx Z Z) (AD (Ae Z (fun h80=>?_) (fun h80=>?_)))))))))
      ·refine AC (AE (AB Z Z (AD (A5 ?_))));exact ⟨_,[],[],A3 Z,Z,Z,Ac (by unfold BJ;simp_all<;>(intros;omega)),Z⟩
      ·refine A1 (AC (AE (AB Z Z (AD (A5 ?_)))));exact ⟨_,[],[],A3 Z,Z,Z,Ac (by unfold BJ;simp_all<;>(intros;omega)),Z⟩
     ·refine A9 Z Z Z Z ?_;refine A9 Z Z Z Z (A9 Z Z Z Z (A9 Z Z Z Z (J (DZ Z Z Z Z) (AB Z Z (AD (AC (AC (AE ?_))))))));refine goMv Z Z (J (Dq Z Z) (AD (DV Z Z (AC (AE (AB Z Z (AD (A5 ?_))))))));exact ⟨_,[],[],A3 Z,Z,Z,Ac (by unfold BJ;simp_all<;>(intros;omega)),Z⟩
    ·refine A9 Z Z Z Z (A9 Z Z Z Z (A9 Z Z Z Z (J (DZ Z Z Z Z) (goMv Z Z (A9 Z Z Z Z ?_)))));refine A9 Z Z Z Z (A9 Z Z Z Z (A9 Z Z Z Z (J (DZ Z Z Z Z) (AB Z Z (AD (AC (AC (AE ?_))))))));refine goMv Z Z (J (Dq Z Z) (AD (DV Z Z (AC (AE (AB Z Z (AD (A5 ?_))))))));exact ⟨_,[],[],A3 Z,Z,Z,Ac (by unfold BJ;simp_all<;>(intros;omega)),Z⟩
   ·refine AC (AE (AB Z Z (AD (A5 ?_))));exact ⟨_,[],[],A3 Z,Z,Z,Ac (by unfold BJ;simp_all<;>(intros;omega)),Z⟩
def QG:List AP ->AP ->List AP
 | [],r=> [r]
 | a::l,r=>if B9 a r<0 then a::QG l r else if a=r then a::l else r::a::l
def Y4 (l:List AP):Prop:=l.Pairwise fun a b=>B9 a b<0
theorem insR_mem {l:List AP} {r x:AP}:x∈QG l r↔x=r∨x∈l:=by
 induction l with
 | nil=>simp [QG]
 | cons a l ih=>
  simp only [QG]
  split
  ·simp only [Φ,ih];constructor<;>intro h<;>rcases h with h | h | h<;>simp [h]
  ·split
   ·rename_i h;subst h;simp
   ·simp
theorem b6 {l:List AP} (h:Y4 l) (r:AP):Y4 (QG l r):=by
 induction l with
 | nil=>simp [QG,Y4]
 | cons a l ih=>
  simp only [Y4,ψz] at h;simp only [QG]
  split
  ·rename_i h1
   refine ψz.2 ⟨fun x hx=>?_,ih h.2⟩;rcases insR_mem.1 hx with rfl | hx
   ·exact h1
   ·exact h.1 x hx
  ·split
   ·exact ψz.2 h
   ·rename_i h1 h2
    have h3:B9 r a<0:=by
     have:=MI.anti a r;have h4:B9 a r≠0:=fun e=>h2 (DA.1 e);omega
    refine ψz.2 ⟨fun x hx=>?_,ψz.2 h⟩;rcases Φ.1 hx with rfl | hx
    ·exact h3
    ·exact MI.trans _ _ _ h3 (h.1 x hx)
def RC (c:List (AP×Int)):List AP:=(c.map Prod.fst).foldl QG []
theorem O7 (c:List (AP×Int)) (x:AP×Int):RC (c++ [x])=QG (RC c) x.1:=by simp [RC]
theorem RB (c:List (AP×Int)) (r:AP):r∈RC c↔r∈c.map Prod.fst:=by
 induction c using Y9 with
 | h0=>simp [RC]
 | h1 l x ih=>rw [O7,insR_mem,ih];simp only [ωe,ωm,List.map_nil,υ,ξ];exact or_comm
theorem Yu (c:List (AP×Int)):Y4 (RC c):=by
 induction c using Y9 with
 | h0=>simp [RC,Y4]
 | h1 l x ih=>rw [O7];exact b6 ih _
def Kx (c:List (AP×Int)):List (AP×Int):=((RC c).map fun r=>(r,Ai c r)).filter fun x=>decide (x.2≠0)
def YF (i:AK):List (AP×Int):=Kx (ctr i)
theorem Jy (c:List (AP×Int)):(Kx c).Pairwise fun a b=>B9 a.1 b.1<0:=by
 unfold Kx;refine List.Pairwise.filter _ ?_;rw [ψb];exact Yu c
theorem Et (c:List (AP×Int)) (a:AP) (b:Int):(a,b)∈sumL c↔a∈c.map Prod.fst∧b=Ai c a:=by
 constructor
 ·intro h;refine ⟨(Hy c a).1 (ν.2 ⟨_,h,Z⟩),?_⟩;rw [←JM,Zcb (Es c) h]
 ·rintro ⟨h,rfl⟩;rw [←JM];exact H8 ((Hy c a).2 h)
theorem GJ (c:List (AP×Int)) (x:AP×Int):x∈Kx c↔x∈sumL c∧x.2≠0:=by
 obtain ⟨a,b⟩:=x;unfold Kx;rw [Ω,ν,Et];simp only [Prod.mk.injEq,ωs]
 constructor
 ·rintro ⟨⟨r,hr,rfl,rfl⟩,h⟩;exact ⟨⟨(RB c r).1 hr,Z⟩,h⟩
 ·rintro ⟨⟨h1,rfl⟩,h⟩;exact ⟨⟨a,(RB c a).2 h1,Z,Z⟩,h⟩
theorem W3 {c acc ys:List (AP×Int)} (h1:acc.Perm ((sumL c).filter fun x=>decide (x.2≠0))) (h2:ys.Perm acc) (h3:ys.Pairwise fun a b=>¬B9 b.1 a.1<0):ys=Kx c:=by
 have hp:=h2.trans h1;refine Zcw (R:=fun a b=>B9 a.1 b.1<0) (fun x=>by rw [MI.refl];omega) (fun x y z=>MI.trans x.1 y.1 z.1) ?_ (Jy c) fun x=>?_
 ·have hn:(ys.map Prod.fst).Nodup:=by
   refine ((hp.map Prod.fst).nodup_iff).2 ?_;exact (Es c).sublist (List.Sublist.map _ ψq)
  rw [List.Nodup,ψb] at hn;refine (h3.and hn).imp fun {a b} ⟨g1,g2⟩=>?_;have:=MI.anti a.1 b.1;have g3:B9 a.1 b.1≠0:=fun e=>g2 (DA.1 e);omega
 ·rw [hp.mem_iff,GJ,Ω,ωs]
theorem cQ (x:AP×Int):∃cs,OV x= .agg cs:=⟨_,Z⟩
theorem XM {c acc:List (AP×Int)} (h1:acc.Perm ((sumL c).filter fun x=>decide (x.2≠0))):acc.length=(Kx c).length:=by
 have hs:=List.pairwise_mergeSort (le:=fun a b:AP×Int=>decide (¬B9 b.1 a.1<0)) (fun a b d h1 h2=>by
  have:=MI.swo.ntrans d.1 b.1 a.1;simp only [ltOf,decide_eq_false_iff_not] at this;simp only [ωs] at h1 h2⊢
  exact this h2 h1) (fun a b=>by have:=MI.anti a.1 b.1;simp only [Bool.or_eq_true,ωs];omega) acc
 have hp:=List.mergeSort_perm acc (fun a b:AP×Int=>decide (¬B9 b.1 a.1<0));rw [←W3 h1 hp (hs.imp fun {a b} h=>by simpa using h)];exact hp.length_eq.symm
section
variable {F:Fr} {s:AS} {d:Nat} {x y:Operand} {ty:TypeId} {pos:String} {aft:Array Edge} {gd:Option (Nat×Bool)} {at_:Array TypeId} {f n:Nat} {row:List D} {hp':Hp}
theorem ZP (c acc:List (AP×Int)) (h1:acc.Perm ((sumL c).filter fun x=>decide (x.2≠0))) (hsz:acc.length<4611686018427387904) (hx:s.ev x=some (.own f 0 n)) (hy:s.ev y=some (.d (.raw (.func (.func 162) #[] #[])))) (ho:hget s.hp f 0=some (.rowD 218 7 row)) (hrow:row=acc.map OV) (hn:n=acc.length) (hh:BL s.hp f 0 (.rowD 218 7 ((Kx c).map OV))=some hp') (hd:Nat.blt d s.n=true):
  AI Tryz.prog F ⟨some d,.call {callee:= .value (.func 161),args:= #[x,y],argTypes:=at_},ty,pos,aft,gd⟩ s ⟨s.n,(d,.d (.tup []))::s.env,hp'⟩ (fun _ _=>true):=
 Lk laysD (k:=7) (by decide) Tryz.isAgg218 Tryz.sizeOf218 Tryz.func162 Z Z cQ (fun a b=>B9 a.1 b.1) (MI.comap Prod.fst).swo acc (Kx c) hsz (fun x _ y _=>YG x y) (fun ys g1 g2=>W3 h1 g1 g2) Z hx hy Ku ho hrow hn hh hd
end
def dltS (i:AK):List (AP×Int):=if BD i=0 then YF i else []
theorem Jc {l:List Int} (h:Bd l=0):∀x∈l,x=0:=by
 have:=(Wo (l:=l) (f:=id)).1 (by rw [List.map_id];exact h);exact this
theorem Hn {i:AK} (h:BD i=0):ItmB i∧(0≤i.id∧i.id≤1000000000)∧(0≤i.sq∧i.sq≤1000000000)∧(0≤i.pr∧i.pr≤2)∧Ox i=0∧XZ i=0∧aftE i=0∧Uw i=0∧TU i=0:=by
 unfold BD at h
 split at h; · cases h
 split at h; · cases h
 rename_i h1 h2
 have h3:=Jc h;have e1:=h3 (Ox i) (by simp [Ql]);have e2:=h3 (XZ i) (by simp [Ql]);exact ⟨⟨by omega,by omega,by omega,UR e1,pay_b e2⟩,by omega,by omega,by omega,e1,e2,h3 _ (by simp [Ql]),h3 _ (by simp [Ql]),h3 _ (by simp [Ql])⟩
theorem JC (i:AK):(ctr i).length=i.po.length+4*i.pa.length:=by simp [ctr,Jz,LX]
theorem HO (c:List (AP×Int)):(sumL c).length≤c.length:=by
 induction c using Y9 with
 | h0=>simp [sumL]
 | h1 l x ih=>
  rw [VC];unfold cz;have:=J4 (m:=sumL l) (a:=x.1) (b:=A2 (sumL l) x.1 0+x.2);simp only [ς,Ψ];omega
theorem nxt_in {α:Type} {p:α ->Bool} {acc A B X:List α} {x:α} (hI:(acc++A.filter p).Perm X) (hp:A.Perm (x::B)) (hx:p x=true):((acc++ [x])++B.filter p).Perm X:=by
 have h:=hp.filter p;rw [List.filter_cons_of_pos hx] at h;rw [ψk];exact (List.Perm.append_left acc h.symm).trans hI
theorem nxt_out {α:Type} {p:α ->Bool} {acc A B X:List α} {x:α} (hI:(acc++A.filter p).Perm X) (hp:A.Perm (x::B)) (hx:¬p x=true):(acc++B.filter p).Perm X:=by
 have h:=hp.filter p;rw [List.filter_cons_of_neg hx] at h;exact (List.Perm.append_left acc h.symm).trans hI
theorem Vx {α:Type} {p:α ->Bool} {acc A M:List α} (hI:(acc++A.filter p).Perm (M.filter p)):acc.length≤M.length:=by
 have h:=hI.length_eq;have h2:=ωj p M;rw [ς] at h;omega
theorem Sw (i:AK) (g1:i.po.length≤140737488355328) (g2:i.pa.length≤140737488355328) (g3:i.af.length≤140737488355328):AO Tryz.prog 118 [.d (Ao i)] (.tup [.sl none ((dltS i).map OV),AF (BD i)]):=by
 by_cases hE:BD i=0
 ·have hb:=(Hn hE).1;have hS:dltS i=YF i:=θ hE
  obtain ⟨M,hMM⟩:∃M,sumL (ctr i)=M:=⟨_,Z⟩
  have hs:=(Ph i hb).by [(2,20)] rfl;have hlen:M.length≤1280:=by rw [←hMM];have h1:=HO (ctr i);have h2:=JC i;have h3:=hb.po;have h4:=hb.pa;omega
  rw [hMM] at hs;rw [hS];have hck:=KC i g1 g2 g3;rw [hE] at hck⊢;refine Az Tryz.func118 Z Z Tryz.ntmps118 Z Z Z fun F hF=>(AC (AE (V (CC 1 Z Z Z Z Z Z Z) (AB Z Z (AB Z Z (AD (AC ?_)))))));refine AC (AE (J (BM Z Z By Z Z Z) (J (B4 (hck) Z Z) (AB Z Z (AD (AC (AE (goMv Z Z ?_))))))));refine J (DX Z Z Z) (AD (EN Z (by decide) (A1 (AC (AE (AB Z Z (AD (AC ?_))))))));refine AC (O4 5 900 Z6 Z Z Z Z (AE (J (BM Z Z By Z Z Z) (V (EW hs Z [20] ⟨Z,trivial⟩ Z Z Z Z Z Z Z Z Z) (V (Fs 2 Z Z Z Bs Z Z Z Z) (AD (A4 (B5 (α:=List Nat×List (AP×Int)) (fun q=>⟨32,[(5,(.own 900 0 q.2.length)),(15,(.ptr 2 0 0))],[(2,[.iter 20 0 M.length q.1]),(20,[BH CV AF M]),(900,[.rowD 218 7 (q.2.map OV)])]⟩) (fun q=>(q.2++(Bo M (List.range M.length) q.1).filter (fun x=>decide (x.2≠0))).Perm (M.filter fun x=>decide (x.2≠0))) (fun q=>(Bo M (List.range M.length) q.1).length) (([],[])) (by rw [Cy (by simp)];exact List.Perm.refl _) (A0 hF [2,20,900] Z Z ⟨Z,Z,trivial⟩) ?_))))))));rintro ⟨seen,acc⟩ hI;dsimp only at hI⊢;refine AC (AE (Kc (M) Z Z Z Z (fun hl16=>?_) (fun j16 b16 k16 v16 hm16 hb16 hB16 hp16=>⟨_,Z,?_⟩)))
  ·refine J (Cc Z Z Z) (AD (AC (EN Z Z (BC (AC ?_)))));have hacc:acc.Perm ((sumL (ctr i)).filter fun x=>decide (x.2≠0)):=by have h:=hI;rw [hl16,List.filter_nil,ωl] at h;rw [hMM];exact h
   refine AE (goMv Z Z (V (ZP (ctr i) acc hacc (by have:=Vx hI;omega) Z Z Z Z Z Z Z) ?_));refine AD (AC (L3 (emb:=OV) 5 900 (YF i) Z Z Z (XM hacc) Z Z Z (AE (goMv Z Z (AB Z Z (AB Z Z (AD (A5 ?_))))))));exact ⟨_,[],[],A3 Z,Z,Z,Z,Z⟩
  ·refine J (Cc Z Z Z) (AD (AC ?_));refine DV Z Z (A1 (A4 (AC (AE (J (Ft (M) j16 b16 Z Z Z hm16 hb16 Z) (J (Cc Z Z Z) (J (Cc Z Z Z) (V (CD 3 KN Z Z Z Z) ?_))))))));refine V (Be Z Z Z Z Z Z Z ZE) (AB Z Z (AD (AC (AE (goMv Z Z (J (DX Z Z Z) (AD (Ae Z (fun h22=>?_) (fun h22=>?_)))))))))
   ·refine AE (goMv Z Z (J (BM Z Z CU Z Z Z) (goMv Z Z (J (FV Yh pl218 Z Z Z) (V (D1 4 Z6 Z Z Z Z Z Z Z Z) (V (I0 (acc) ([(k16,v16)]) Z Z Z Z Z Z Z Z Z6 (by have:=Vx hI;simp only [Ψ];omega) Z Z Z Z) (AB Z Z (AD ?_))))))));exact ⟨(seen++ [b16],_),nxt_in hI hp16 (by simpa using h22),by show (Bo M (List.range M.length) (seen++ [b16])).length<(Bo M (List.range M.length) seen).length;rw [hp16.length_eq];exact χl _,A0 hF [2,20,900] Z (Z) ⟨Z,Z,trivial⟩⟩
   ·refine A1 ?_;exact ⟨(seen++ [b16],_),nxt_out hI hp16 (by simpa using h22),by show (Bo M (List.range M.length) (seen++ [b16])).length<(Bo M (List.range M.length) seen).length;rw [hp16.length_eq];exact χl _,A0 hF [2,20,900] Z (Z) ⟨Z,Z,trivial⟩⟩
 ·have hck:=KC i g1 g2 g3;have hS:dltS i=[]:=ϑ hE;rw [hS];refine Az Tryz.func118 Z Z Tryz.ntmps118 Z Z Z fun F hF=>(AC ?_);refine AE (V (CC 1 Z Z Z Z Z Z Z) (AB Z Z (Wp 2 Z (AB Z Z (AD (AC (AC (AE ?_))))))));refine J (BM Z Z By Z Z Z) (J (B4 (hck) Z Z) (AB Z Z (AD (AC (AE (goMv Z Z (J (DX Z Z Z) (AD ?_))))))));refine DV Z ((by simpa using hE)) (AC (AE (goMv Z Z (AB Z Z (Wp 2 Z (AB Z Z (AD (A5 ?_))))))));exact ⟨_,[],[],A3 Z,Z,Z,Z,Z⟩
def Bg (i:AK) (r:AP):Int:=if BD i=0∧BJ r=0 then Ai (ctr i) r else 0
theorem W4 (i:AK) (r:AP) (g1:i.po.length≤140737488355328) (g2:i.pa.length≤140737488355328) (g3:i.af.length≤140737488355328):AO Tryz.prog 70 [.d (Ao i),.d (CV r)] (AF (Bg i r)):=by
 by_cases hE:BD i=0
 ·have hb:=(Hn hE).1
  obtain ⟨M,hMM⟩:∃M,sumL (ctr i)=M:=⟨_,Z⟩
  have hs:=(Ph i hb).by [(2,20)] rfl;rw [hMM] at hs;have hck:=KC i g1 g2 g3;rw [hE] at hck;refine Az Tryz.func70 Z Z Tryz.ntmps70 Z Z Z fun F hF=>(AC (AE (V (CC 1 Z Z Z Z Z Z Z) (V (CC 2 Z Z Z Z Z Z Z) (AB Z Z ?_)))));refine AD (AC (AC (AE (J (BM Z Z By Z Z Z) (J (B4 (hck) Z Z) (J (DX Z Z Z) (goMv Z Z (Fh 8 Z (by decide) ?_))))))));refine Af Z Z Z (J (BM Z Z CU Z Z Z) (Af Z Z Z (J (B4 (VL r) Z Z) (Af Z Z Z (J (DX Z Z Z) (J (DZ Z Z Z Z) (AD (Ae Z (fun h12=>?_) (fun h12=>?_)))))))))
  ·refine AC (AE (AB Z Z (AD (A5 ?_))));exact ⟨_,[],[],A3 Z,Z,Z,Ac (by rw [Bg,ϑ];simp_all),Z⟩
  ·refine A1 (AC ?_);refine Cb [[],[0],[],[0,1,2],[0,1,2,3]] mixed Z (Cr (At [2] Z Z (fun _=>AG (BM Z Z By Z Z Z)) (Gn [13] [20] [(14,_)] Z Z (fun _=>Gp (EW hs Z [20] ⟨Z,trivial⟩ Z Z Z Z Z Z Z Z Z)) (.inr ⟨14,_,Z,Z,Z,Z,Z⟩) Z Z Z Z Z (At [3] Z Z (fun _=>AG (BM Z Z CU Z Z Z)) (C3 3 Z Z Z (Aa 4 Z Z (J (HF (M) (r) (0) _ Z Z Z Bs CI Nz Z Z) (AD ⟨Z,?_⟩))))))));refine Aa 5 Z Z (AB Z Z (AD ⟨Z,?_⟩));refine C9 (A5 ?_);exact ⟨_,[],[],A3 Z,Z,Z,Ac (by rw [Bg,θ ⟨hE,by simpa using h12⟩,←hMM,JM]),Z⟩
 ·have hck:=KC i g1 g2 g3;have hS:Bg i r=0:=ϑ fun h=>hE h.1;rw [hS];refine Az Tryz.func70 Z Z Tryz.ntmps70 Z Z Z fun F hF=>(AC (AE (V (CC 1 Z Z Z Z Z Z Z) (V (CC 2 Z Z Z Z Z Z Z) (AB Z Z (AD (AC ?_)))))));refine AC (AE (J (BM Z Z By Z Z Z) (J (B4 (hck) Z Z) (J (DX Z Z Z) (goMv Z Z (HY 8 Z ((by simpa using hE)) (A9 Z Z Z Z (A9 Z Z Z Z ?_))))))));refine A9 Z Z Z Z (J (Fb Z Z Z Z) (AD (DV Z Z (AC (AE (AB Z Z (AD (A5 ?_))))))));exact ⟨_,[],[],A3 Z,Z,Z,Z,Z⟩
theorem aL (r:AP):AO Tryz.prog 47 [.d (CV r)] (CV r):=by
 refine Az Tryz.func47 Z Z Tryz.ntmps47 Z Z Z fun F hF=>(AC ?_);refine AE (V (CC 1 Z Z Z Z Z Z Z) (V (CD 2 KN Z Z Z Z) (AD (AC (AE (J (AZ Z fi98_0 Z Z Z) (J (A6 Z Z Z Aq Z) (J (AZ Z fi98_1 Z Z Z) ?_))))))));refine J (BM Z Z rw96 Z Z Z) (J (AZ Z fi98_2 Z Z Z) (J (A6 Z Z Z IG Z) (J (AZ Z fi98_3 Z Z Z) (J (A6 Z Z Z IG Z) (J (FV KN Rg Z Z Z) (V (Be Z Z Z Z Z Z Z ZE) (AD (A5 ?_))))))));exact ⟨_,[],[],A3 Z,Z,Z,Z,Z⟩
theorem Lj {α:Type} {acc l:List α} (h:acc=l.take acc.length) (hk:acc.length<l.length):acc++ [l[acc.length]]=l.take (acc++ [l[acc.length]]).length:=by
 rw [ς,Ψ,φ hk,←h]
theorem Pg {α:Type} {acc l:List α} (h:acc=l.take acc.length) (hk:¬acc.length<l.length):acc=l:=by
 rw [h];exact Ξ (by omega)
theorem Qv {α:Type} (acc:List α) (x:α) (h:acc.length<9223372036854775807):IntKind.i64.wrap ((acc.length:Int)+1)=(((acc++ [x]).length:Nat):Int):=by
 rw [ς];exact AT (acc.length+1) (by omega)
abbrev I4:AV:= .d (.sl (some true) [])
theorem X0 (i:AK) (g1:i.po.length≤10000) (g2:i.pa.length≤10000) (g3:i.af.length≤10000):AO Tryz.prog 48 [.d (Ao i)] (Ao i):=by
 refine Az Tryz.func48 Z Z Tryz.ntmps48 Z Z Z fun F hF=>(AC (AE (V (CC 1 Z Z Z Z Z Z Z) (V (CD 2 El Z Z Z Z) (AD (AC ?_))))));refine Cb [[],[0],[],[2],[],[4],[],[],[7],[6,7,8],[0,1,2,3,4,5,6,7,8,9],[],[0,1,2,3,4,5,6,7,8,9,10,11]] mixed Z (Cr (AJ [1] [] Z Z (fun _=>AG (AZ Z fi93_0 Z Z Z)) (At [6] Z Z (fun _=>AG (A6 Z Z Z Aq Z)) (AJ [1] [] Z Z (fun _=>AG (AZ Z fi93_1 Z Z Z)) (At [8] Z Z (fun _=>AG (A6 Z Z Z Aq Z)) (AJ [1] [] Z Z (fun _=>AG (AZ Z fi93_2 Z Z Z)) (At [10] Z Z (fun _=>AG (A6 Z Z Z Aq Z)) (Gn [] [3] [(12,_)] Z Z (fun _=>Gp (D1 3 BW Z Z Z Z Z Z Z Z)) (.inr ⟨12,_,Z,Z,Z,Z,Z⟩) Z Z Z Z Z ?_))))))));refine AJ [1] [] Z Z (fun _=>AG (AZ Z bq Z Z Z)) (At [13] Z Z (fun _=>AG (A6 Z Z Z BI Z)) (Gn [12,14] [3] [(15,_)] Z Z (fun _=>Gp (Ew (([]:List Int)) (i.af) Z Z Z Z Z Z (fun _=>rfl) BW (by simp only [φp];omega) Z Z Z Z)) (.inr ⟨15,_,Z,Z,Z,Z,Z⟩) Z Z Z Z Z (AJ [7,9,11,15] [] Z Z (fun _=>AG (FV El pl55 Z Z Z)) (Gn [] [4] [(3,_)] Z Z (fun _=>Gp (CD 4 El Z Z Z Z)) (.inr ⟨3,_,Z,Z,Z,Z,Z⟩) Z Z Z Z Z (C3 12 Z Z Z (Aa 13 Z Z (V (Be Z Z Z Z Z Z Z Cd) (AD ⟨Z,?_⟩))))))));refine C9 ?_;refine AC (AC (Dm (ys:=i.af.map AF) 4 0 5 3 Z Z Z (by simp) (Ξ (by simp)) Z Z Z Z Z Z (EM 4 0 3 901 XN Z Z Z Z Z Z Z (AE (AB Z Z (AD (A4 (B5 (α:=List FO) (fun acc=>⟨60,[(1,(.ptr 1 0 0)),(2,(.ptr 2 0 0)),(3,(.ptr 4 0 0)),(4,(.d (AF (acc.length:Int))))],[(901,[.rowD 158 4 (acc.map CF)]),(1,[.blk 93 [.d (AF i.id),.d (AF i.pr),.d (AF i.sq),.d (.sl none (i.po.map CF)),.d (.sl none (i.pa.map Ff)),.d (.sl none (i.af.map AF))]]),(2,[.blk 55 [.d (AF 0),.d (AF 0),.d (AF 0),I4,I4,I4]]),(4,[.blk 55 [.d (AF i.id),.d (AF i.pr),.d (AF i.sq),.own 901 0 acc.length,I4,.d (.sl none (i.af.map AF))]])]⟩) (fun acc=>acc=i.po.take acc.length∧acc.length≤i.po.length) (fun acc=>i.po.length - acc.length) ([]) (⟨by simp,Δ _⟩) (A0 hF [901,1,2,4] Z Z ⟨Z,Z,Z,Z,trivial⟩) ?_))))))));rintro acc ⟨hI,hk0⟩;refine AC ?_;refine AC (AE (goMv Z Z (J (AZ Z QO Z Z Z) (J (A6 Z Z Z on90 Z) (J (CM Z Tryz.underlying90 Z) (J (BV Z Z Z) (AD (Ae Z (fun h21=>?_) (fun h21=>?_)))))))))
 ·have hk1:acc.length<i.po.length:=Bf h21;refine A1 (AC (A4 (Cb [[],[0],[],[2],[],[2,3,4],[2,3,4,5],[2,3,4,5,6],[],[8],[],[8,9,10],[8,9,10,11],[8,9,10,11,12],[2,3,4,5,6,7,8,9,10,11,12,13],[2,3,4,5,6,7,8,9,10,11,12,13,14],[0,1,2,3,4,5,6,7,8,9,10,11,12,13,14,15],[0,1,2,3,4,5,6,7,8,9,10,11,12,13,14,15,16],[0,1,2,3,4,5,6,7,8,9,10,11,12,13,14,15,16,17]] mixed Z (Cr (AJ [3] [] Z Z (fun _=>AG (AZ Z Hi Z Z Z)) (At [24] Z Z (fun _=>AG (A6 Z Z Z X5 Z)) ?_))))));refine AJ [1] [] Z Z (fun _=>AG (AZ Z QO Z Z Z)) (At [26] Z Z (fun _=>AG (A6 Z Z Z on90 Z)) (AJ [4] [] Z Z (fun _=>AG (Aj Z Z)) (AJ [27,28] [] Z Z (fun _=>AG (Bk (acc.length) Z Z (Z) (Ah hk1) Tryz.underlying90 Z sz192 Z)) (AJ [29] [] Z Z (fun _=>AG (Ck Z fi192_0 Z Z Z)) (AJ [30] [] Z Z (fun _=>AG (GN Z Z rw96 Z)) (AJ [1] [] Z Z (fun _=>AG (AZ Z QO Z Z Z)) (At [32] Z Z (fun _=>AG (A6 Z Z Z on90 Z)) (AJ [4] [] Z Z (fun _=>AG (Aj Z Z)) ?_))))))));refine AJ [33,34] [] Z Z (fun _=>AG (Bk (acc.length) Z Z (Z) (Ah hk1) Tryz.underlying90 Z sz192 Z)) (AJ [35] [] Z Z (fun _=>AG (Zca Z fi192_1 Z Z Z)) (AJ [36] [] Z Z (fun _=>AG (D0 Z Z JG Z)) (AJ [31,37] [] Z Z (fun _=>AG (FV O6 aJ Z Z Z)) (Gn [38] [5] [(39,_)] Z Z (fun _=>Gp (D1 5 XN Z Z Z Z Z Z Z Z)) (.inr ⟨39,_,Z,Z,Z,Z,Z⟩) Z Z Z Z Z (C3 16 Z Z Z (Aa 17 Z Z (V (I0 (acc) ([i.po[acc.length]]) Z Z Z Z Z Z Z Z XN (by simp only [Ψ];omega) Z Z Z Z) (AD ⟨Z,?_⟩))))))));refine Aa 18 Z Z (J (AZ Z Hi Z Z Z) (AD ⟨Z,?_⟩));refine Aa 19 Z Z (V (Be Z Z Z Z Z Z Z sz52) (AD ⟨Z,?_⟩));refine C9 (AE (goMv Z Z (J (Ay Z Z (Qv acc i.po[acc.length] (by omega)) Z) (AB Z Z (AD ?_)))));exact ⟨acc++ [i.po[acc.length]],⟨Lj hI hk1,by rw [ς];show acc.length+1≤_;omega⟩,by rw [ς];show i.po.length - (acc.length+1)<i.po.length - acc.length;omega,A0 hF [901,1,2,4] Z (Z) ⟨Z,Z,Z,Z,trivial⟩⟩
 ·refine BC (AC (AC ?_));have hacc:=Pg hI (fun h=>h21 (by omega));refine Dm (ys:=i.po.map CF) 4 0 3 901 Z Z Z (by simp) (by rw [hacc];exact Ξ (by simp)) Z Z Z Z Z Z (EM 4 0 4 902 Z4 Z Z Z Z Z Z Z (AE (AB Z Z (AD (A4 (B5 (α:=List OE) (fun acc2=>⟨60,[(1,(.ptr 1 0 0)),(2,(.ptr 2 0 0)),(3,(.ptr 4 0 0)),(5,(.d (AF (acc2.length:Int))))],[(902,[.rowD 161 3 (acc2.map Ff)]),(1,[.blk 93 [.d (AF i.id),.d (AF i.pr),.d (AF i.sq),.d (.sl none (i.po.map CF)),.d (.sl none (i.pa.map Ff)),.d (.sl none (i.af.map AF))]]),(2,[.blk 55 [.d (AF 0),.d (AF 0),.d (AF 0),I4,I4,I4]]),(4,[.blk 55 [.d (AF i.id),.d (AF i.pr),.d (AF i.sq),.d (.sl none (i.po.map CF)),.own 902 0 acc2.length,.d (.sl none (i.af.map AF))]])]⟩) (fun acc2=>acc2=i.pa.take acc2.length∧acc2.length≤i.pa.length) (fun acc2=>i.pa.length - acc2.length) ([]) (⟨by simp,Δ _⟩) (A0 hF [902,1,2,4] Z Z ⟨Z,Z,Z,Z,trivial⟩) ?_))))));rintro acc2 ⟨hJ,hk2⟩;refine AC ?_;refine AC (AE (goMv Z Z (J (AZ Z Ub Z Z Z) (J (A6 Z Z Z on91 Z) (J (CM Z Tryz.underlying91 Z) (J (BV Z Z Z) (AD (Ae Z (fun h46=>?_) (fun h46=>?_)))))))))
  ·have hk3:acc2.length<i.pa.length:=Bf h46;refine A1 (AC (A4 (Cb [[],[0],[],[2],[],[2,3,4],[2,3,4,5],[2,3,4,5,6],[0,1,2,3,4,5,6,7],[0,1,2,3,4,5,6,7,8],[0,1,2,3,4,5,6,7,8,9]] mixed Z (Cr (AJ [3] [] Z Z (fun _=>AG (AZ Z JA Z Z Z)) (At [49] Z Z (fun _=>AG (A6 Z Z Z aT Z)) (AJ [1] [] Z Z (fun _=>AG (AZ Z Ub Z Z Z)) ?_)))))));refine At [51] Z Z (fun _=>AG (A6 Z Z Z on91 Z)) (AJ [5] [] Z Z (fun _=>AG (Aj Z Z)) (AJ [52,53] [] Z Z (fun _=>AG (Bk (acc2.length) Z Z (Z) (Ah hk3) Tryz.underlying91 Z sz193 Z)) (AJ [54] [] Z Z (fun _=>AG (GN Z Z rw193 Z)) (Gn [55] [6] [(56,_)] Z Z (fun _=>Gp (D1 6 Z4 Z Z Z Z Z Z Z Z)) (.inr ⟨56,_,Z,Z,Z,Z,Z⟩) Z Z Z Z Z (C3 8 Z Z Z (Aa 9 Z Z (V (I0 (acc2) ([i.pa[acc2.length]]) Z Z Z Z Z Z Z Z Z4 (by simp only [Ψ];omega) Z Z Z Z) (AD ⟨Z,?_⟩))))))));refine Aa 10 Z Z (J (AZ Z JA Z Z Z) (AD ⟨Z,?_⟩));refine Aa 11 Z Z (V (Be Z Z Z Z Z Z Z sz53) (AD ⟨Z,?_⟩));refine C9 (AE (goMv Z Z (J (Ay Z Z (Qv acc2 i.pa[acc2.length] (by omega)) Z) (AB Z Z (AD ?_)))));exact ⟨acc2++ [i.pa[acc2.length]],⟨Lj hJ hk3,by rw [ς];show acc2.length+1≤_;omega⟩,by rw [ς];show i.pa.length - (acc2.length+1)<i.pa.length - acc2.length;omega,A0 hF [902,1,2,4] Z (Z) ⟨Z,Z,Z,Z,trivial⟩⟩
  ·refine BC (AC ?_);have hacc2:=Pg hJ (fun h=>h46 (by omega));refine Dm (ys:=i.pa.map Ff) 4 0 4 902 Z Z Z (by simp) (by rw [hacc2];exact Ξ (by simp)) Z Z Z Z Z Z (AE (J (BM Z Z By Z Z Z) (V (Be Z Z Z Z Z Z Z Cd) (AD (A5 ?_)))));exact ⟨_,[],[],A3 Z,Z,Z,Z,Z⟩
def pd (r:AP) (p:FO):Int:=if p.acc=r.acc then p.d else 0
theorem Sy {l:List (AP×Int)} {r:AP} (h:∀x∈l,x.1≠r):Ai l r=0:=by
 induction l with
 | nil=>rfl
 | cons x l ih=>
  have h1:=h x (by simp);have h2:=ih fun y hy=>h y (by simp [hy]);simp only [Ai,ωm,χd] at h2⊢;rw [ϑ h1,h2];rfl
theorem Oc {α:Type} {l:List α} {f:α ->Int} {B:Int} (h:∀x∈l,-B≤f x∧f x≤B) (n:Nat) (hn:l.length≤n) (hB:0≤B): -(n*B)≤(l.map f).sum∧(l.map f).sum≤n*B:=by
 induction l generalizing n with
 | nil=>have:=Int.mul_nonneg (Int.natCast_nonneg n) hB;simp only [List.map_nil,List.sum_nil];omega
 | cons x l ih=>
  obtain ⟨m,rfl⟩:∃m,n=m+1:=⟨n - 1,by simp at hn;omega⟩
  have h1:=ih (fun y hy=>h y (by simp [hy])) m (by simpa using hn);have h2:=h x (by simp);have e:((m+1:Nat):Int)*B=m*B+B:=by rw [Int.natCast_succ,Int.add_mul,Int.one_mul]
  rw [e,ωm,χd];omega
deriving instance DecidableEq for FO
deriving instance DecidableEq for OE
deriving instance DecidableEq for AK
deriving instance DecidableEq for Roo
theorem FO.eq_iff {x y:FO}:x=y↔x.acc=y.acc∧x.d=y.d:=by cases x;cases y;simp
theorem OE.eq_iff {x y:OE}:x=y↔x.f=y.f∧x.t=y.t∧x.n=y.n:=by cases x;cases y;simp
theorem Roo.eq_iff {x y:Roo}:x=y↔x.r=y.r∧x.n=y.n:=by cases x;cases y;simp
theorem AK.eq_iff {x y:AK}:x=y↔x.id=y.id∧x.pr=y.pr∧x.sq=y.sq∧x.po=y.po∧x.pa=y.pa∧x.af=y.af:=by cases x;cases y;simp
theorem neC {p:Prop} [Decidable p] {b:Bool} (h:b=decide p):(!b)=decide (¬p):=by rw [h];simp
theorem GF {α:Type} {p:α ->Bool} {l:List α} {k:Nat} (hk:k<l.length):(l.take (k+1)).filter p=(l.take k).filter p++(if p l[k] then [l[k]] else []):=by
 rw [φ hk,ψc]
 congr 1
 rw [ψv,List.filter_nil]
end Go.Proofs.YteifpcnphnhaoaaGreat
