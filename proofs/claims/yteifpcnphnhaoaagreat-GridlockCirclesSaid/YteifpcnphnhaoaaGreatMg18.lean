import Derived.Test.YteifpcnphnhaoaaGreatMg17
import Derived.Shelf.SlLaysF
import Derived.Shelf.SlLaysF0
import Derived.Shelf.SlLaysNS
import Derived.Test.YteifpcnphnhaoaaGreatProg
namespace Go.Proofs.YteifpcnphnhaoaaGreat
open Go.Shelf Go.Proofs Go.Proofs.Tryz
def renI:Go.Shelf.Ren:=⟨fun x=>match x with
 | 6=>115
 | 15=>137
 | 14=>160
 | 28=>191
 | 29=>192
 | 20=>201
 | 21=>202
 | 22=>203
 | 23=>204
 | 24=>205
 | 25=>206
 | 26=>207
 | 27=>208
 | 46=>240
 | 47=>226
 | 48=>227
 | 49=>241
 | 50=>242
 | 57=>268
 | x=>x,
 fun x=>match x with
 | 22=>37
 | 24=>55
 | 25=>214
 | 3=>3
 | 39=>242
 | 0=>0
 | 53=>292
 | 55=>294
 | 4=>4
 | 46=>286
 | 45=>285
 | 50=>132
 | 5=>5
 | 9=>9
 | 66=>327
 | 70=>331
 | 76=>360
 | 77=>361
 | x=>x,fun x=>x⟩
theorem laysI:SlLaysF0.n6 Tryz.prog renI where
 mixed:=rfl
 f6:=⟨Tryz.f115.name,by decide,Tryz.func115.trans (Γ some (by kernel_rfl))⟩
 f14:=⟨Tryz.f160.name,by decide,Tryz.func160.trans (Γ some (by kernel_rfl))⟩
 f15:=Tryz.func137.trans (Γ some (by kernel_rfl))
 f20:=⟨Tryz.f201.name,by decide,Tryz.func201.trans (Γ some (by kernel_rfl))⟩
 f21:=⟨Tryz.f202.name,by decide,Tryz.func202.trans (Γ some (by kernel_rfl))⟩
 f22:=⟨Tryz.f203.name,by decide,Tryz.func203.trans (Γ some (by kernel_rfl))⟩
 f23:=⟨Tryz.f204.name,by decide,Tryz.func204.trans (Γ some (by kernel_rfl))⟩
 f24:=⟨Tryz.f205.name,by decide,Tryz.func205.trans (Γ some (by kernel_rfl))⟩
 f25:=⟨Tryz.f206.name,by decide,Tryz.func206.trans (Γ some (by kernel_rfl))⟩
 f26:=⟨Tryz.f207.name,by decide,Tryz.func207.trans (Γ some (by kernel_rfl))⟩
 f27:=⟨Tryz.f208.name,by decide,Tryz.func208.trans (Γ some (by kernel_rfl))⟩
 f28:=Tryz.func191.trans (Γ some (by kernel_rfl))
 f29:=Tryz.func192.trans (Γ some (by kernel_rfl))
 f46:=⟨Tryz.f240.name,by decide,Tryz.func240.trans (Γ some (by kernel_rfl))⟩
 f47:=Tryz.func226.trans (Γ some (by kernel_rfl))
 f48:=Tryz.func227.trans (Γ some (by kernel_rfl))
 f49:=⟨Tryz.f241.name,by decide,Tryz.func241.trans (Γ some (by kernel_rfl))⟩
 f50:=⟨Tryz.f242.name,by decide,Tryz.func242.trans (Γ some (by kernel_rfl))⟩
 f57:=⟨Tryz.f268.name,by decide,Tryz.func268.trans (Γ some (by kernel_rfl))⟩
 t0:=Tryz.underlying0
 a0:=Tryz.isAgg0
 z0:=Tryz.sizeOf0
 v0:=Tryz.zeroValue0
 t3:=Tryz.underlying3
 a3:=Tryz.isAgg3
 z3:=Tryz.sizeOf3
 v3:=Tryz.zeroValue3
 t4:=Tryz.underlying4
 a4:=Tryz.isAgg4
 z4:=Tryz.sizeOf4
 v4:=Tryz.zeroValue4
 t5:=Tryz.underlying5
 a5:=Tryz.isAgg5
 z5:=Tryz.sizeOf5
 v5:=Tryz.zeroValue5
 t9:=Tryz.underlying9
 a9:=Tryz.isAgg9
 z9:=Tryz.sizeOf9
 v9:=Tryz.zeroValue9
 t22:=Tryz.underlying37
 a22:=Tryz.isAgg37
 z22:=Tryz.sizeOf37
 v22:=Tryz.zeroValue37
 t25:=Tryz.underlying214
 a25:=Tryz.isAgg214
 z25:=Tryz.sizeOf214
 v25:=Tryz.zeroValue214
 t39:=Tryz.underlying242
 a39:=Tryz.isAgg242
 z39:=Tryz.sizeOf242
 v39:=Tryz.zeroValue242
 t45:=Tryz.underlying285
 a45:=Tryz.isAgg285
 z45:=Tryz.sizeOf285
 v45:=Tryz.zeroValue285
 t46:=Tryz.underlying286
 a46:=Tryz.isAgg286
 z46:=Tryz.sizeOf286
 v46:=Tryz.zeroValue286
 t50:=Tryz.underlying132
 a50:=Tryz.isAgg132
 z50:=Tryz.sizeOf132
 v50:=Tryz.zeroValue132
 t53:=Tryz.underlying292
 a53:=Tryz.isAgg292
 z53:=Tryz.sizeOf292
 v53:=Tryz.zeroValue292
 t55:=Tryz.underlying294
 a55:=Tryz.isAgg294
 z55:=Tryz.sizeOf294
 v55:=Tryz.zeroValue294
 t66:=Tryz.underlying327
 a66:=Tryz.isAgg327
 z66:=Tryz.sizeOf327
 v66:=Tryz.zeroValue327
 t70:=Tryz.underlying331
 a70:=Tryz.isAgg331
 z70:=Tryz.sizeOf331
 v70:=Tryz.zeroValue331
 t76:=Tryz.underlying360
 a76:=Tryz.isAgg360
 z76:=Tryz.sizeOf360
 v76:=Tryz.zeroValue360
 t77:=Tryz.underlying361
 a77:=Tryz.isAgg361
 z77:=Tryz.sizeOf361
 v77:=Tryz.zeroValue361
def renD:Go.Shelf.Ren:=⟨fun x=>match x with
 | 6=>161
 | 15=>137
 | 14=>209
 | 28=>191
 | 29=>192
 | 20=>243
 | 21=>244
 | 22=>245
 | 23=>246
 | 24=>247
 | 25=>248
 | 26=>249
 | 27=>250
 | 46=>269
 | 47=>226
 | 48=>227
 | 49=>270
 | 50=>271
 | 57=>277
 | x=>x,
 fun x=>match x with
 | 22=>215
 | 24=>218
 | 25=>267
 | 3=>3
 | 39=>242
 | 0=>0
 | 53=>292
 | 55=>294
 | 4=>4
 | 46=>286
 | 45=>285
 | 50=>132
 | 5=>5
 | 9=>9
 | 66=>327
 | 70=>331
 | 76=>360
 | 77=>361
 | x=>x,fun x=>x⟩
theorem laysD:SlLaysF0.n6 Tryz.prog renD where
 mixed:=rfl
 f6:=⟨Tryz.f161.name,by decide,Tryz.func161.trans (Γ some (by kernel_rfl))⟩
 f14:=⟨Tryz.f209.name,by decide,Tryz.func209.trans (Γ some (by kernel_rfl))⟩
 f15:=Tryz.func137.trans (Γ some (by kernel_rfl))
 f20:=⟨Tryz.f243.name,by decide,Tryz.func243.trans (Γ some (by kernel_rfl))⟩
 f21:=⟨Tryz.f244.name,by decide,Tryz.func244.trans (Γ some (by kernel_rfl))⟩
 f22:=⟨Tryz.f245.name,by decide,Tryz.func245.trans (Γ some (by kernel_rfl))⟩
 f23:=⟨Tryz.f246.name,by decide,Tryz.func246.trans (Γ some (by kernel_rfl))⟩
 f24:=⟨Tryz.f247.name,by decide,Tryz.func247.trans (Γ some (by kernel_rfl))⟩
 f25:=⟨Tryz.f248.name,by decide,Tryz.func248.trans (Γ some (by kernel_rfl))⟩
 f26:=⟨Tryz.f249.name,by decide,Tryz.func249.trans (Γ some (by kernel_rfl))⟩
 f27:=⟨Tryz.f250.name,by decide,Tryz.func250.trans (Γ some (by kernel_rfl))⟩
 f28:=Tryz.func191.trans (Γ some (by kernel_rfl))
 f29:=Tryz.func192.trans (Γ some (by kernel_rfl))
 f46:=⟨Tryz.f269.name,by decide,Tryz.func269.trans (Γ some (by kernel_rfl))⟩
 f47:=Tryz.func226.trans (Γ some (by kernel_rfl))
 f48:=Tryz.func227.trans (Γ some (by kernel_rfl))
 f49:=⟨Tryz.f270.name,by decide,Tryz.func270.trans (Γ some (by kernel_rfl))⟩
 f50:=⟨Tryz.f271.name,by decide,Tryz.func271.trans (Γ some (by kernel_rfl))⟩
 f57:=⟨Tryz.f277.name,by decide,Tryz.func277.trans (Γ some (by kernel_rfl))⟩
 t0:=Tryz.underlying0
 a0:=Tryz.isAgg0
 z0:=Tryz.sizeOf0
 v0:=Tryz.zeroValue0
 t3:=Tryz.underlying3
 a3:=Tryz.isAgg3
 z3:=Tryz.sizeOf3
 v3:=Tryz.zeroValue3
 t4:=Tryz.underlying4
 a4:=Tryz.isAgg4
 z4:=Tryz.sizeOf4
 v4:=Tryz.zeroValue4
 t5:=Tryz.underlying5
 a5:=Tryz.isAgg5
 z5:=Tryz.sizeOf5
 v5:=Tryz.zeroValue5
 t9:=Tryz.underlying9
 a9:=Tryz.isAgg9
 z9:=Tryz.sizeOf9
 v9:=Tryz.zeroValue9
 t22:=Tryz.underlying215
 a22:=Tryz.isAgg215
 z22:=Tryz.sizeOf215
 v22:=Tryz.zeroValue215
 t25:=Tryz.underlying267
 a25:=Tryz.isAgg267
 z25:=Tryz.sizeOf267
 v25:=Tryz.zeroValue267
 t39:=Tryz.underlying242
 a39:=Tryz.isAgg242
 z39:=Tryz.sizeOf242
 v39:=Tryz.zeroValue242
 t45:=Tryz.underlying285
 a45:=Tryz.isAgg285
 z45:=Tryz.sizeOf285
 v45:=Tryz.zeroValue285
 t46:=Tryz.underlying286
 a46:=Tryz.isAgg286
 z46:=Tryz.sizeOf286
 v46:=Tryz.zeroValue286
 t50:=Tryz.underlying132
 a50:=Tryz.isAgg132
 z50:=Tryz.sizeOf132
 v50:=Tryz.zeroValue132
 t53:=Tryz.underlying292
 a53:=Tryz.isAgg292
 z53:=Tryz.sizeOf292
 v53:=Tryz.zeroValue292
 t55:=Tryz.underlying294
 a55:=Tryz.isAgg294
 z55:=Tryz.sizeOf294
 v55:=Tryz.zeroValue294
 t66:=Tryz.underlying327
 a66:=Tryz.isAgg327
 z66:=Tryz.sizeOf327
 v66:=Tryz.zeroValue327
 t70:=Tryz.underlying331
 a70:=Tryz.isAgg331
 z70:=Tryz.sizeOf331
 v70:=Tryz.zeroValue331
 t76:=Tryz.underlying360
 a76:=Tryz.isAgg360
 z76:=Tryz.sizeOf360
 v76:=Tryz.zeroValue360
 t77:=Tryz.underlying361
 a77:=Tryz.isAgg361
 z77:=Tryz.sizeOf361
 v77:=Tryz.zeroValue361
def renLn:Go.Shelf.Ren:=⟨fun x=>match x with
 | 6=>174
 | 15=>137
 | 14=>212
 | 28=>191
 | 29=>192
 | 20=>251
 | 21=>252
 | 22=>253
 | 23=>254
 | 24=>255
 | 25=>256
 | 26=>257
 | 27=>258
 | 46=>272
 | 47=>226
 | 48=>227
 | 49=>273
 | 50=>274
 | 57=>278
 | x=>x,
 fun x=>match x with
 | 22=>227
 | 24=>233
 | 25=>276
 | 3=>3
 | 39=>242
 | 0=>0
 | 53=>292
 | 55=>294
 | 4=>4
 | 46=>286
 | 45=>285
 | 50=>132
 | 5=>5
 | 9=>9
 | 66=>327
 | 70=>331
 | 76=>360
 | 77=>361
 | x=>x,fun x=>x⟩
theorem laysLn:SlLaysF0.n6 Tryz.prog renLn where
 mixed:=rfl
 f6:=⟨Tryz.f174.name,by decide,Tryz.func174.trans (Γ some (by kernel_rfl))⟩
 f14:=⟨Tryz.f212.name,by decide,Tryz.func212.trans (Γ some (by kernel_rfl))⟩
 f15:=Tryz.func137.trans (Γ some (by kernel_rfl))
 f20:=⟨Tryz.f251.name,by decide,Tryz.func251.trans (Γ some (by kernel_rfl))⟩
 f21:=⟨Tryz.f252.name,by decide,Tryz.func252.trans (Γ some (by kernel_rfl))⟩
 f22:=⟨Tryz.f253.name,by decide,Tryz.func253.trans (Γ some (by kernel_rfl))⟩
 f23:=⟨Tryz.f254.name,by decide,Tryz.func254.trans (Γ some (by kernel_rfl))⟩
 f24:=⟨Tryz.f255.name,by decide,Tryz.func255.trans (Γ some (by kernel_rfl))⟩
 f25:=⟨Tryz.f256.name,by decide,Tryz.func256.trans (Γ some (by kernel_rfl))⟩
 f26:=⟨Tryz.f257.name,by decide,Tryz.func257.trans (Γ some (by kernel_rfl))⟩
 f27:=⟨Tryz.f258.name,by decide,Tryz.func258.trans (Γ some (by kernel_rfl))⟩
 f28:=Tryz.func191.trans (Γ some (by kernel_rfl))
 f29:=Tryz.func192.trans (Γ some (by kernel_rfl))
 f46:=⟨Tryz.f272.name,by decide,Tryz.func272.trans (Γ some (by kernel_rfl))⟩
 f47:=Tryz.func226.trans (Γ some (by kernel_rfl))
 f48:=Tryz.func227.trans (Γ some (by kernel_rfl))
 f49:=⟨Tryz.f273.name,by decide,Tryz.func273.trans (Γ some (by kernel_rfl))⟩
 f50:=⟨Tryz.f274.name,by decide,Tryz.func274.trans (Γ some (by kernel_rfl))⟩
 f57:=⟨Tryz.f278.name,by decide,Tryz.func278.trans (Γ some (by kernel_rfl))⟩
 t0:=Tryz.underlying0
 a0:=Tryz.isAgg0
 z0:=Tryz.sizeOf0
 v0:=Tryz.zeroValue0
 t3:=Tryz.underlying3
 a3:=Tryz.isAgg3
 z3:=Tryz.sizeOf3
 v3:=Tryz.zeroValue3
 t4:=Tryz.underlying4
 a4:=Tryz.isAgg4
 z4:=Tryz.sizeOf4
 v4:=Tryz.zeroValue4
 t5:=Tryz.underlying5
 a5:=Tryz.isAgg5
 z5:=Tryz.sizeOf5
 v5:=Tryz.zeroValue5
 t9:=Tryz.underlying9
 a9:=Tryz.isAgg9
 z9:=Tryz.sizeOf9
 v9:=Tryz.zeroValue9
 t22:=Tryz.underlying227
 a22:=Tryz.isAgg227
 z22:=Tryz.sizeOf227
 v22:=Tryz.zeroValue227
 t25:=Tryz.underlying276
 a25:=Tryz.isAgg276
 z25:=Tryz.sizeOf276
 v25:=Tryz.zeroValue276
 t39:=Tryz.underlying242
 a39:=Tryz.isAgg242
 z39:=Tryz.sizeOf242
 v39:=Tryz.zeroValue242
 t45:=Tryz.underlying285
 a45:=Tryz.isAgg285
 z45:=Tryz.sizeOf285
 v45:=Tryz.zeroValue285
 t46:=Tryz.underlying286
 a46:=Tryz.isAgg286
 z46:=Tryz.sizeOf286
 v46:=Tryz.zeroValue286
 t50:=Tryz.underlying132
 a50:=Tryz.isAgg132
 z50:=Tryz.sizeOf132
 v50:=Tryz.zeroValue132
 t53:=Tryz.underlying292
 a53:=Tryz.isAgg292
 z53:=Tryz.sizeOf292
 v53:=Tryz.zeroValue292
 t55:=Tryz.underlying294
 a55:=Tryz.isAgg294
 z55:=Tryz.sizeOf294
 v55:=Tryz.zeroValue294
 t66:=Tryz.underlying327
 a66:=Tryz.isAgg327
 z66:=Tryz.sizeOf327
 v66:=Tryz.zeroValue327
 t70:=Tryz.underlying331
 a70:=Tryz.isAgg331
 z70:=Tryz.sizeOf331
 v70:=Tryz.zeroValue331
 t76:=Tryz.underlying360
 a76:=Tryz.isAgg360
 z76:=Tryz.sizeOf360
 v76:=Tryz.zeroValue360
 t77:=Tryz.underlying361
 a77:=Tryz.isAgg361
 z77:=Tryz.sizeOf361
 v77:=Tryz.zeroValue361
def renS:Go.Shelf.Ren:=⟨fun x=>match x with
 | 53=>128
 | 64=>137
 | 63=>177
 | 78=>191
 | 79=>192
 | 70=>213
 | 71=>214
 | 72=>215
 | 73=>216
 | 74=>217
 | 75=>218
 | 59=>219
 | 76=>220
 | 77=>221
 | 88=>259
 | 89=>226
 | 90=>227
 | 91=>260
 | 92=>261
 | 68=>211
 | 96=>275
 | x=>x,
 fun x=>match x with
 | 22=>28
 | 23=>3
 | 3=>3
 | 51=>242
 | 0=>0
 | 67=>292
 | 69=>294
 | 4=>4
 | 61=>286
 | 60=>285
 | 44=>132
 | 5=>5
 | 9=>9
 | 75=>327
 | 79=>331
 | 83=>360
 | 84=>361
 | x=>x,fun x=>x⟩
theorem laysS:SlLaysN.n53 Tryz.prog renS where
 mixed:=rfl
 f53:=⟨Tryz.f128.name,by decide,Tryz.func128.trans (Γ some (by kernel_rfl))⟩
 f59:=⟨Tryz.f219.name,by decide,Tryz.func219.trans (Γ some (by kernel_rfl))⟩
 f63:=⟨Tryz.f177.name,by decide,Tryz.func177.trans (Γ some (by kernel_rfl))⟩
 f64:=Tryz.func137.trans (Γ some (by kernel_rfl))
 f68:=⟨Tryz.f211.name,by decide,Tryz.func211.trans (Γ some (by kernel_rfl))⟩
 f70:=⟨Tryz.f213.name,by decide,Tryz.func213.trans (Γ some (by kernel_rfl))⟩
 f71:=⟨Tryz.f214.name,by decide,Tryz.func214.trans (Γ some (by kernel_rfl))⟩
 f72:=⟨Tryz.f215.name,by decide,Tryz.func215.trans (Γ some (by kernel_rfl))⟩
 f73:=⟨Tryz.f216.name,by decide,Tryz.func216.trans (Γ some (by kernel_rfl))⟩
 f74:=⟨Tryz.f217.name,by decide,Tryz.func217.trans (Γ some (by kernel_rfl))⟩
 f75:=⟨Tryz.f218.name,by decide,Tryz.func218.trans (Γ some (by kernel_rfl))⟩
 f76:=⟨Tryz.f220.name,by decide,Tryz.func220.trans (Γ some (by kernel_rfl))⟩
 f77:=⟨Tryz.f221.name,by decide,Tryz.func221.trans (Γ some (by kernel_rfl))⟩
 f78:=Tryz.func191.trans (Γ some (by kernel_rfl))
 f79:=Tryz.func192.trans (Γ some (by kernel_rfl))
 f88:=⟨Tryz.f259.name,by decide,Tryz.func259.trans (Γ some (by kernel_rfl))⟩
 f89:=Tryz.func226.trans (Γ some (by kernel_rfl))
 f90:=Tryz.func227.trans (Γ some (by kernel_rfl))
 f91:=⟨Tryz.f260.name,by decide,Tryz.func260.trans (Γ some (by kernel_rfl))⟩
 f92:=⟨Tryz.f261.name,by decide,Tryz.func261.trans (Γ some (by kernel_rfl))⟩
 f96:=⟨Tryz.f275.name,by decide,Tryz.func275.trans (Γ some (by kernel_rfl))⟩
 t0:=Tryz.underlying0
 a0:=Tryz.isAgg0
 z0:=Tryz.sizeOf0
 v0:=Tryz.zeroValue0
 t3:=Tryz.underlying3
 a3:=Tryz.isAgg3
 z3:=Tryz.sizeOf3
 v3:=Tryz.zeroValue3
 t4:=Tryz.underlying4
 a4:=Tryz.isAgg4
 z4:=Tryz.sizeOf4
 v4:=Tryz.zeroValue4
 t5:=Tryz.underlying5
 a5:=Tryz.isAgg5
 z5:=Tryz.sizeOf5
 v5:=Tryz.zeroValue5
 t9:=Tryz.underlying9
 a9:=Tryz.isAgg9
 z9:=Tryz.sizeOf9
 v9:=Tryz.zeroValue9
 t22:=Tryz.underlying28
 a22:=Tryz.isAgg28
 z22:=Tryz.sizeOf28
 v22:=Tryz.zeroValue28
 t23:=Tryz.underlying3
 a23:=Tryz.isAgg3
 z23:=Tryz.sizeOf3
 v23:=Tryz.zeroValue3
 t44:=Tryz.underlying132
 a44:=Tryz.isAgg132
 z44:=Tryz.sizeOf132
 v44:=Tryz.zeroValue132
 t51:=Tryz.underlying242
 a51:=Tryz.isAgg242
 z51:=Tryz.sizeOf242
 v51:=Tryz.zeroValue242
 t60:=Tryz.underlying285
 a60:=Tryz.isAgg285
 z60:=Tryz.sizeOf285
 v60:=Tryz.zeroValue285
 t61:=Tryz.underlying286
 a61:=Tryz.isAgg286
 z61:=Tryz.sizeOf286
 v61:=Tryz.zeroValue286
 t67:=Tryz.underlying292
 a67:=Tryz.isAgg292
 z67:=Tryz.sizeOf292
 v67:=Tryz.zeroValue292
 t69:=Tryz.underlying294
 a69:=Tryz.isAgg294
 z69:=Tryz.sizeOf294
 v69:=Tryz.zeroValue294
 t75:=Tryz.underlying327
 a75:=Tryz.isAgg327
 z75:=Tryz.sizeOf327
 v75:=Tryz.zeroValue327
 t79:=Tryz.underlying331
 a79:=Tryz.isAgg331
 z79:=Tryz.sizeOf331
 v79:=Tryz.zeroValue331
 t83:=Tryz.underlying360
 a83:=Tryz.isAgg360
 z83:=Tryz.sizeOf360
 v83:=Tryz.zeroValue360
 t84:=Tryz.underlying361
 a84:=Tryz.isAgg361
 z84:=Tryz.sizeOf361
 v84:=Tryz.zeroValue361
def renPo:Go.Shelf.Ren:=⟨fun x=>match x with
 | 6=>141
 | 15=>137
 | 14=>195
 | 28=>191
 | 29=>192
 | 20=>231
 | 21=>232
 | 22=>233
 | 23=>234
 | 24=>235
 | 25=>236
 | 26=>237
 | 27=>238
 | 46=>265
 | 47=>226
 | 48=>227
 | 49=>266
 | 50=>267
 | 57=>276
 | x=>x,
 fun x=>match x with
 | 22=>177
 | 24=>186
 | 25=>251
 | 3=>3
 | 39=>242
 | 0=>0
 | 53=>292
 | 55=>294
 | 4=>4
 | 46=>286
 | 45=>285
 | 50=>132
 | 5=>5
 | 9=>9
 | 66=>327
 | 70=>331
 | 76=>360
 | 77=>361
 | x=>x,fun x=>x⟩
theorem laysPo:SlLaysF.n6 Tryz.prog renPo where
 mixed:=rfl
 f6:=⟨Tryz.f141.name,by decide,Tryz.func141.trans (Γ some (by kernel_rfl))⟩
 f14:=⟨Tryz.f195.name,by decide,Tryz.func195.trans (Γ some (by kernel_rfl))⟩
 f15:=Tryz.func137.trans (Γ some (by kernel_rfl))
 f20:=⟨Tryz.f231.name,by decide,Tryz.func231.trans (Γ some (by kernel_rfl))⟩
 f21:=⟨Tryz.f232.name,by decide,Tryz.func232.trans (Γ some (by kernel_rfl))⟩
 f22:=⟨Tryz.f233.name,by decide,Tryz.func233.trans (Γ some (by kernel_rfl))⟩
 f23:=⟨Tryz.f234.name,by decide,Tryz.func234.trans (Γ some (by kernel_rfl))⟩
 f24:=⟨Tryz.f235.name,by decide,Tryz.func235.trans (Γ some (by kernel_rfl))⟩
 f25:=⟨Tryz.f236.name,by decide,Tryz.func236.trans (Γ some (by kernel_rfl))⟩
 f26:=⟨Tryz.f237.name,by decide,Tryz.func237.trans (Γ some (by kernel_rfl))⟩
 f27:=⟨Tryz.f238.name,by decide,Tryz.func238.trans (Γ some (by kernel_rfl))⟩
 f28:=Tryz.func191.trans (Γ some (by kernel_rfl))
 f29:=Tryz.func192.trans (Γ some (by kernel_rfl))
 f46:=⟨Tryz.f265.name,by decide,Tryz.func265.trans (Γ some (by kernel_rfl))⟩
 f47:=Tryz.func226.trans (Γ some (by kernel_rfl))
 f48:=Tryz.func227.trans (Γ some (by kernel_rfl))
 f49:=⟨Tryz.f266.name,by decide,Tryz.func266.trans (Γ some (by kernel_rfl))⟩
 f50:=⟨Tryz.f267.name,by decide,Tryz.func267.trans (Γ some (by kernel_rfl))⟩
 f57:=⟨Tryz.f276.name,by decide,Tryz.func276.trans (Γ some (by kernel_rfl))⟩
 t0:=Tryz.underlying0
 a0:=Tryz.isAgg0
 z0:=Tryz.sizeOf0
 v0:=Tryz.zeroValue0
 t3:=Tryz.underlying3
 a3:=Tryz.isAgg3
 z3:=Tryz.sizeOf3
 v3:=Tryz.zeroValue3
 t4:=Tryz.underlying4
 a4:=Tryz.isAgg4
 z4:=Tryz.sizeOf4
 v4:=Tryz.zeroValue4
 t5:=Tryz.underlying5
 a5:=Tryz.isAgg5
 z5:=Tryz.sizeOf5
 v5:=Tryz.zeroValue5
 t9:=Tryz.underlying9
 a9:=Tryz.isAgg9
 z9:=Tryz.sizeOf9
 v9:=Tryz.zeroValue9
 t22:=Tryz.underlying177
 a22:=Tryz.isAgg177
 z22:=Tryz.sizeOf177
 v22:=Tryz.zeroValue177
 a24:=Tryz.isAgg186
 z24:=Tryz.sizeOf186
 t25:=Tryz.underlying251
 a25:=Tryz.isAgg251
 z25:=Tryz.sizeOf251
 v25:=Tryz.zeroValue251
 t39:=Tryz.underlying242
 a39:=Tryz.isAgg242
 z39:=Tryz.sizeOf242
 v39:=Tryz.zeroValue242
 t45:=Tryz.underlying285
 a45:=Tryz.isAgg285
 z45:=Tryz.sizeOf285
 v45:=Tryz.zeroValue285
 t46:=Tryz.underlying286
 a46:=Tryz.isAgg286
 z46:=Tryz.sizeOf286
 v46:=Tryz.zeroValue286
 t50:=Tryz.underlying132
 a50:=Tryz.isAgg132
 z50:=Tryz.sizeOf132
 v50:=Tryz.zeroValue132
 t53:=Tryz.underlying292
 a53:=Tryz.isAgg292
 z53:=Tryz.sizeOf292
 v53:=Tryz.zeroValue292
 t55:=Tryz.underlying294
 a55:=Tryz.isAgg294
 z55:=Tryz.sizeOf294
 v55:=Tryz.zeroValue294
 t66:=Tryz.underlying327
 a66:=Tryz.isAgg327
 z66:=Tryz.sizeOf327
 v66:=Tryz.zeroValue327
 t70:=Tryz.underlying331
 a70:=Tryz.isAgg331
 z70:=Tryz.sizeOf331
 v70:=Tryz.zeroValue331
 t76:=Tryz.underlying360
 a76:=Tryz.isAgg360
 z76:=Tryz.sizeOf360
 v76:=Tryz.zeroValue360
 t77:=Tryz.underlying361
 a77:=Tryz.isAgg361
 z77:=Tryz.sizeOf361
 v77:=Tryz.zeroValue361
def renCi:Go.Shelf.Ren:=⟨fun x=>match x with
 | 6=>83
 | 15=>137
 | 14=>136
 | 28=>191
 | 29=>192
 | 20=>183
 | 21=>184
 | 22=>185
 | 23=>186
 | 24=>187
 | 25=>188
 | 26=>189
 | 27=>190
 | 46=>225
 | 47=>226
 | 48=>227
 | 49=>228
 | 50=>229
 | 57=>264
 | x=>x,
 fun x=>match x with
 | 22=>29
 | 24=>28
 | 25=>154
 | 3=>3
 | 39=>242
 | 0=>0
 | 53=>292
 | 55=>294
 | 4=>4
 | 46=>286
 | 45=>285
 | 50=>132
 | 5=>5
 | 9=>9
 | 66=>327
 | 70=>331
 | 76=>360
 | 77=>361
 | x=>x,fun x=>x⟩
theorem laysCi:SlLaysF.n6 Tryz.prog renCi where
 mixed:=rfl
 f6:=⟨Tryz.f83.name,by decide,Tryz.func83.trans (Γ some (by kernel_rfl))⟩
 f14:=⟨Tryz.f136.name,by decide,Tryz.func136.trans (Γ some (by kernel_rfl))⟩
 f15:=Tryz.func137.trans (Γ some (by kernel_rfl))
 f20:=⟨Tryz.f183.name,by decide,Tryz.func183.trans (Γ some (by kernel_rfl))⟩
 f21:=⟨Tryz.f184.name,by decide,Tryz.func184.trans (Γ some (by kernel_rfl))⟩
 f22:=⟨Tryz.f185.name,by decide,Tryz.func185.trans (Γ some (by kernel_rfl))⟩
 f23:=⟨Tryz.f186.name,by decide,Tryz.func186.trans (Γ some (by kernel_rfl))⟩
 f24:=⟨Tryz.f187.name,by decide,Tryz.func187.trans (Γ some (by kernel_rfl))⟩
 f25:=⟨Tryz.f188.name,by decide,Tryz.func188.trans (Γ some (by kernel_rfl))⟩
 f26:=⟨Tryz.f189.name,by decide,Tryz.func189.trans (Γ some (by kernel_rfl))⟩
 f27:=⟨Tryz.f190.name,by decide,Tryz.func190.trans (Γ some (by kernel_rfl))⟩
 f28:=Tryz.func191.trans (Γ some (by kernel_rfl))
 f29:=Tryz.func192.trans (Γ some (by kernel_rfl))
 f46:=⟨Tryz.f225.name,by decide,Tryz.func225.trans (Γ some (by kernel_rfl))⟩
 f47:=Tryz.func226.trans (Γ some (by kernel_rfl))
 f48:=Tryz.func227.trans (Γ some (by kernel_rfl))
 f49:=⟨Tryz.f228.name,by decide,Tryz.func228.trans (Γ some (by kernel_rfl))⟩
 f50:=⟨Tryz.f229.name,by decide,Tryz.func229.trans (Γ some (by kernel_rfl))⟩
 f57:=⟨Tryz.f264.name,by decide,Tryz.func264.trans (Γ some (by kernel_rfl))⟩
 t0:=Tryz.underlying0
 a0:=Tryz.isAgg0
 z0:=Tryz.sizeOf0
 v0:=Tryz.zeroValue0
 t3:=Tryz.underlying3
 a3:=Tryz.isAgg3
 z3:=Tryz.sizeOf3
 v3:=Tryz.zeroValue3
 t4:=Tryz.underlying4
 a4:=Tryz.isAgg4
 z4:=Tryz.sizeOf4
 v4:=Tryz.zeroValue4
 t5:=Tryz.underlying5
 a5:=Tryz.isAgg5
 z5:=Tryz.sizeOf5
 v5:=Tryz.zeroValue5
 t9:=Tryz.underlying9
 a9:=Tryz.isAgg9
 z9:=Tryz.sizeOf9
 v9:=Tryz.zeroValue9
 t22:=Tryz.underlying29
 a22:=Tryz.isAgg29
 z22:=Tryz.sizeOf29
 v22:=Tryz.zeroValue29
 a24:=Tryz.isAgg28
 z24:=Tryz.sizeOf28
 t25:=Tryz.underlying154
 a25:=Tryz.isAgg154
 z25:=Tryz.sizeOf154
 v25:=Tryz.zeroValue154
 t39:=Tryz.underlying242
 a39:=Tryz.isAgg242
 z39:=Tryz.sizeOf242
 v39:=Tryz.zeroValue242
 t45:=Tryz.underlying285
 a45:=Tryz.isAgg285
 z45:=Tryz.sizeOf285
 v45:=Tryz.zeroValue285
 t46:=Tryz.underlying286
 a46:=Tryz.isAgg286
 z46:=Tryz.sizeOf286
 v46:=Tryz.zeroValue286
 t50:=Tryz.underlying132
 a50:=Tryz.isAgg132
 z50:=Tryz.sizeOf132
 v50:=Tryz.zeroValue132
 t53:=Tryz.underlying292
 a53:=Tryz.isAgg292
 z53:=Tryz.sizeOf292
 v53:=Tryz.zeroValue292
 t55:=Tryz.underlying294
 a55:=Tryz.isAgg294
 z55:=Tryz.sizeOf294
 v55:=Tryz.zeroValue294
 t66:=Tryz.underlying327
 a66:=Tryz.isAgg327
 z66:=Tryz.sizeOf327
 v66:=Tryz.zeroValue327
 t70:=Tryz.underlying331
 a70:=Tryz.isAgg331
 z70:=Tryz.sizeOf331
 v70:=Tryz.zeroValue331
 t76:=Tryz.underlying360
 a76:=Tryz.isAgg360
 z76:=Tryz.sizeOf360
 v76:=Tryz.zeroValue360
 t77:=Tryz.underlying361
 a77:=Tryz.isAgg361
 z77:=Tryz.sizeOf361
 v77:=Tryz.zeroValue361
end Go.Proofs.YteifpcnphnhaoaaGreat
namespace Go.Proofs.YteifpcnphnhaoaaGreat
open Go.RowKit
set_option maxRecDepth 100000
def TP (i:AK):Int:=if ∃x∈sumL (ctr i),¬(-Mx≤x.2∧x.2≤Mx) then 12 else 0
theorem bnd_bad {i:AK} {j:Nat} {r:AP} {v:Int} (hm:(sumL (ctr i))[j]? =some (r,v)) (hv:¬(-Mx≤v∧v≤Mx)):(12:Int)=TP i:=by
 unfold TP;rw [θ ⟨_,ζ hm,hv⟩]
theorem bnd_ok {i:AK} (h:∀x∈sumL (ctr i),-Mx≤x.2∧x.2≤Mx):(0:Int)=TP i:=by
 unfold TP;rw [ϑ];rintro ⟨x,hx,hn⟩;exact hn (h x hx)
theorem YE (i:AK) (hi:ItmB i):AO Tryz.prog 172 [.d (As i)] (AF (TP i)):=by
 obtain ⟨M,hMM⟩:∃M,sumL (ctr i)=M:=⟨_,Z⟩
 have hs:=(Ph i hi).by [(2,20)] rfl;rw [hMM] at hs;refine BB Tryz.func172 Z Z Tryz.ntmps172 Z Z Z fun F hF=>(AC (AE (V (Bz 1 Z Z Z Z Z Z Z) (AB Z Z (AD ?_)))));refine AC (AC (AE (J (BM Z Z CC Z Z Z) (V (E1 hs Z [20] ⟨Z,trivial⟩ Z Z Z Z Z Z Z Z Z) (V (Fy 2 Z Z Z Bv Z Z Z Z) (AD (A5 (B7 (α:=List Nat) (fun seen=>⟨15,[(7,(.ptr 2 0 0))],[(2,[.iter 20 0 M.length seen]),(20,[BL C1 AF M])]⟩) (fun seen=>∀x∈M,x∈Bt M (List.range M.length) seen∨(-Mx≤x.2∧x.2≤Mx)) (fun seen=>(Bt M (List.range M.length) seen).length) ([]) (fun x hx=> .inl (by rw [DK (by simp)];exact hx)) (A1 hF [2,20] Z Z ⟨Z,trivial⟩) ?_))))))));intro seen hI;refine AC (AE (Kf (M) Z Z Z Z (fun hl8=>?_) (fun j8 b8 k8 v8 hm8 hb8 hB8 hp8=>⟨_,Z,?_⟩)))
 ·refine J (Ct Z Z Z) ?_;refine AD (AC (D9 Z Z (BF (AC (AE (AB Z Z (AD (A8 ?_))))))));exact ⟨_,[],[],A6 Z,Z,Z,Ag (bnd_ok fun x hx=>by rw [hMM] at hx;exact (hI x hx).elim (fun h=>by rw [hl8] at h;cases h) id),Z⟩
 ·refine J (Ct Z Z Z) ?_;refine AD (AC (DP Z Z (A3 (A5 (AC (AE (J (Fz (M) j8 b8 Z Z Z hm8 hb8 Z) (J (Ct Z Z Z) ?_))))))));refine AB Z Z (AD (AC (AE (goMv Z Z (J (B2 (GV v8 (-1000000000000000) 1000000000000000) Z Z) (J (Nu Z Z) (AD (Ae Z (fun h14=>?_) (fun h14=>?_)))))))))
  ·refine AC (AE (AB Z Z (AD (A8 ?_))));exact ⟨_,[],[],A6 Z,Z,Z,Ag (bnd_bad (by rw [hMM];exact hm8) (by simpa [Mx] using h14)),Z⟩
  ·refine A3 ?_;exact ⟨seen++ [b8],fun x hx=>(hI x hx).elim (fun h=>(Ψ.1 (hp8.mem_iff.1 h)).elim (fun e=> .inr (by rw [e];simpa [Mx] using h14)) .inl) .inr,by rw [hp8.length_eq];exact χk _,A1 hF [2,20] Z (Z) ⟨Z,trivial⟩⟩
theorem YY {α:Type} {l:List α} {f:α ->Int}:Bg (l.map f)=0↔∀x∈l,f x=0:=by
 induction l with
 | nil=>simp [Bg]
 | cons a l ih=>
  simp only [ωm,Bg]
  split
  ·rename_i h;simp [ih,h]
  ·rename_i h;simp [h]
def Qj (i:AK):List (FuncId×Int):=[(168,Or i),(169,XR i),(170,aftE i),(171,Us i),(172,TP i)]
def BP (i:AK):Int:=if ¬(0≤i.id∧i.id≤1000000000)∨¬(0≤i.sq∧i.sq≤1000000000)∨¬(0≤i.pr∧i.pr≤2) then 2 else if 256<i.po.length∨256<i.pa.length∨256<i.af.length then 8 else Bg ((Qj i).map Prod.snd)
theorem UO {i:AK} (h:Or i=0):∀p∈i.po,-Mx≤p.d∧p.d≤Mx:=fun p hp=>by
 have:=YY.1 h p hp;unfold Rk at this
 split at this; · cases this
 split at this; · cases this
 split at this; · cases this
 rename_i h;exact Decidable.of_not_not h
theorem pay_b {i:AK} (h:XR i=0):∀p∈i.pa,0≤p.n∧p.n≤Mx:=fun p hp=>by
 have:=YY.1 h p hp;unfold Qr at this
 split at this; · cases this
 split at this; · cases this
 split at this; · cases this
 rename_i h;exact Decidable.of_not_not h
theorem fns_p (i:AK) (h1:i.po.length≤256) (h2:i.pa.length≤256) (h3:i.af.length≤256) {k:Nat} (hk:k<(Qj i).length) (h0:∀j,j<k ->((Qj i)[j]?).map Prod.snd=some 0):AO Tryz.prog (Qj i)[k].1 [.d (As i)] (AF (Qj i)[k].2):=by
 match k,hk with
 | 0,_=>exact UN i (by omega)
 | 1,_=>exact UQ i (by omega)
 | 2,_=>exact after_p i (by omega)
 | 3,_=>exact Ur i h1 (UO (by have:=h0 0 (by omega);simpa [Qj] using this))
 | 4,_=>exact YE i ⟨h1,h2,h3,UO (by have:=h0 0 (by omega);simpa [Qj] using this),pay_b (by have:=h0 1 (by omega);simpa [Qj] using this)⟩
def fnD (i:AK) (p:FuncId×Int):D:= .fn p.1 [As i] []
theorem KG (i:AK) (g1:i.po.length≤140737488355328) (g2:i.pa.length≤140737488355328) (g3:i.af.length≤140737488355328):AO Tryz.prog 123 [.d (As i)] (AF (BP i)):=by
 refine BB Tryz.func123 Z Z Tryz.ntmps123 Z Z Z fun F hF=>(AC (AE (V (Bz 1 Z Z Z Z Z Z Z) (AB Z Z (AD (AC ?_))))));refine A5 (AC (AE (J (A4 Z OB Z Z Z) (J (A9 Z Z Z Aq Z) (J (B2 (HS _ _ _) Z Z) (J (Nu Z Z) (goMv Z Z (Ia 11 Z (fun h11=>?_) (fun h11=>?_)))))))))
 ·refine Aa Z Z Z Z ?_;refine Aa Z Z Z Z (Aa Z Z Z Z (Aa Z Z Z Z (J (FO Z Z Z Z) (goMv Z Z (Aa Z Z Z Z (Aa Z Z Z Z (Aa Z Z Z Z (Aa Z Z Z Z ?_))))))));refine J (FO Z Z Z Z) (AB Z Z (AD (DP Z Z (AC (AE (AB Z Z (AD (A8 ?_))))))));exact ⟨_,[],[],A6 Z,Z,Z,Ag (by unfold BP;rw [θ (by omega)]),Z⟩
 ·refine Aj Z Z Z (J (A4 Z NU Z Z Z) ?_);refine Aj Z Z Z (J (A9 Z Z Z Aq Z) (Aj Z Z Z (J (B2 (HS _ _ _) Z Z) (Aj Z Z Z (J (Nu Z Z) (J (Da Z Z Z Z) (goMv Z Z (Ia 17 Z (fun h17=>?_) (fun h17=>?_)))))))))
  ·refine Aa Z Z Z Z (Aa Z Z Z Z (Aa Z Z Z Z (Aa Z Z Z Z ?_)));refine J (FO Z Z Z Z) (AB Z Z (AD (DP Z Z (AC (AE (AB Z Z (AD (A8 ?_))))))));exact ⟨_,[],[],A6 Z,Z,Z,Ag (by unfold BP;rw [θ (by omega)]),Z⟩
  ·refine Aj Z Z Z (J (A4 Z Ua Z Z Z) (Aj Z Z Z ?_));refine J (A9 Z Z Z Aq Z) (Aj Z Z Z (J (B2 (HS _ _ _) Z Z) (Aj Z Z Z (J (Nu Z Z) (J (Da Z Z Z Z) (AB Z Z (AD (Ae Z (fun h6=>?_) (fun h6=>?_)))))))))
   ·refine AC (AE (AB Z Z (AD (A8 ?_))));exact ⟨_,[],[],A6 Z,Z,Z,Ag (by unfold BP;rw [θ (by omega)]),Z⟩
   ·refine AC (AE (J (A4 Z Ho Z Z Z) (J (A9 Z Z Z XX Z) (J (CO Z Tryz.underlying52 Z) (J (MO Z Z Z) (goMv Z Z (Ia 28 Z (fun h28=>?_) (fun h28=>?_))))))))
    ·refine Aa Z Z Z Z ?_;refine Aa Z Z Z Z (Aa Z Z Z Z (Aa Z Z Z Z (J (FO Z Z Z Z) (goMv Z Z (Aa Z Z Z Z (Aa Z Z Z Z (Aa Z Z Z Z (Aa Z Z Z Z ?_))))))));refine J (FO Z Z Z Z) (AB Z Z (AD (DP Z Z (AC (AE (AB Z Z (AD (A8 ?_))))))));exact ⟨_,[],[],A6 Z,Z,Z,Ag (by unfold BP;rw [ϑ (by omega),θ (by omega)]),Z⟩
    ·refine Aj Z Z Z (J (A4 Z JC Z Z Z) ?_);refine Aj Z Z Z (J (A9 Z Z Z aA Z) (Aj Z Z Z (J (CO Z Tryz.underlying53 Z) (Aj Z Z Z (J (MO Z Z Z) (J (Da Z Z Z Z) (goMv Z Z (Ia 34 Z (fun h34=>?_) (fun h34=>?_)))))))))
     ·refine Aa Z Z Z Z (Aa Z Z Z Z (Aa Z Z Z Z (Aa Z Z Z Z ?_)));refine J (FO Z Z Z Z) (AB Z Z (AD (DP Z Z (AC (AE (AB Z Z (AD (A8 ?_))))))));exact ⟨_,[],[],A6 Z,Z,Z,Ag (by unfold BP;rw [ϑ (by omega),θ (by omega)]),Z⟩
     ·refine Aj Z Z Z (J (A4 Z FH Z Z Z) (Aj Z Z Z ?_));refine J (A9 Z Z Z BH Z) (Aj Z Z Z (J (CO Z Tryz.underlying28 Z) (Aj Z Z Z (J (MO Z Z Z) (J (Da Z Z Z Z) (AB Z Z (AD (Ae Z (fun h23=>?_) (fun h23=>?_)))))))))
      ·refine AC (AE (AB Z Z (AD (A8 ?_))));exact ⟨_,[],[],A6 Z,Z,Z,Ag (by unfold BP;rw [ϑ (by omega),θ (by omega)]),Z⟩
      ·refine A3 (AC ?_);refine AC (AE (J (BM Z Z CC Z Z Z) (J (T6 (ds:=[As i]) (es:=[]) Z Z Z Z Z) (J (BM Z Z CC Z Z Z) (J (T6 (ds:=[As i]) (es:=[]) Z Z Z Z Z) (J (BM Z Z CC Z Z Z) (J (T6 (ds:=[As i]) (es:=[]) Z Z Z Z Z) (J (BM Z Z CC Z Z Z) ?_))))))));refine J (T6 (ds:=[As i]) (es:=[]) Z Z Z Z Z) (J (BM Z Z CC Z Z Z) (J (T6 (ds:=[As i]) (es:=[]) Z Z Z Z Z) (V (D7 2 sl273 Z Z Z Z Z Z Z Z) (J (KO Z Tryz.underlying273 Z) (goMv Z Z (AD (A5 (B7 (α:=Nat) (fun k=>⟨62,[(50,(.own 2 0 5)),(51,(.d (AF 5))),(52,(.d (AF (k:Int))))],[(2,[.rowD 146 1 ((Qj i).map (fnD i))])]⟩) (fun k=>k≤5∧Bg ((Qj i).map Prod.snd)=Bg (((Qj i).drop k).map Prod.snd)∧∀j,j<k ->((Qj i)[j]?).map Prod.snd=some 0) (fun k=>5 - k) (0) (⟨ς _,Z,fun j h=>absurd h (Nat.not_lt_zero j)⟩) (A1 hF [2] Z Z ⟨Z,Z,Z,trivial⟩) ?_))))))));rintro k ⟨hk0,hkE,hkz⟩;refine AC (AE (J (BR Z Z Z) (AD (AC (Ae Z (fun h53=>?_) (fun h53=>?_))))))
       ·have hk1:k<(Qj i).length:=by show k<5;have h:=h53;omega
        refine A3 (AC (A5 (AC (AE ?_))));have hE:=Dn hk1 hkE;refine J (Bu (k) Z Z (Z) (by show k<5;exact hk1) Z Tryz.underlying273 sz146 Z) (J (CA Z Z (Ah hk1) Z on146 Z) (AB Z Z (AD (AC (AE (goMv Z Z ?_))))));refine J (KY (fns_p i (by omega) (by omega) (by omega) hk1 hkz) Z Z) (AB Z Z (AD (AC (AE (goMv Z Z (J (D6 Z Z Z) (AD (Ae Z (fun h59=>?_) (fun h59=>?_)))))))))
        ·refine AC (AE (goMv Z Z (AB Z Z (AD (A8 ?_)))));exact ⟨_,[],[],A6 Z,Z,Z,Ag (by unfold BP;rw [ϑ (by omega),ϑ (by omega)];exact hE.2 _ Z (by simpa using h59)),Z⟩
        ·refine A3 (AE (J (BA Z Z (AT (k+1) (by omega)) Z) (goMv Z Z (AD ?_))));exact ⟨k+1,⟨by show k+1≤_;omega,hE.1 (by simpa using h59),fun j hj=>(Nat.lt_succ_iff_lt_or_eq.1 hj).elim (hkz j) fun h=>by subst h;rw [ω hk1];show some _=_;congr 1;simpa using h59⟩,by show 5 - (k+1)<5 - k;omega,A1 hF [2] Z (Z) ⟨Z,Z,Z,trivial⟩⟩
       ·refine BF (AC (AE (AB Z Z (AD (A8 ?_)))));exact ⟨_,[],[],A6 Z,Z,Z,Ag (by unfold BP;rw [ϑ (by omega),ϑ (by omega),hkE,GM (by have h:=h53;show ¬k<5;omega)]),Z⟩
theorem or_p (l:List Int) (hn:l.length≤140737488355328):AO Tryz.prog 165 [.d (.sl none (l.map AF))] (AF (Bg l)):=by
 refine BB Tryz.func165 Z Z Tryz.ntmps165 Z Z Z fun F hF=>(AC (AE (AB Z Z (AD (AC (AE (AB Z Z (AD ?_))))))));refine AC (AC (AE (goMv Z Z (J (CO Z Tryz.underlying28 Z) (goMv Z Z (AD (A5 (Gu (α:=Nat) (fun k=>⟨18,[(3,(.d (AF 0))),(6,(.d (.sl none (l.map AF)))),(7,(.d (AF (l.length:Int)))),(8,(.d (AF (k:Int))))],[]⟩) (fun k=>k≤l.length∧Bg (l.map id)=Bg ((l.drop k).map id)) (fun k=>l.length - k) (0) (⟨ς _,Z⟩) (ci ⟨Z,Z,Z,Z,trivial⟩) ?_))))))));rintro k ⟨hk0,hk⟩;refine AC (AE (J (BR Z Z Z) (AD (AC (Ae Z (fun h9=>?_) (fun h9=>?_))))))
 ·have hk1:k<l.length:=Bf h9;refine A3 (AC (A5 (AC (AE ?_))));have hE:=Dn hk1 hk;refine J (Be (k) Z Z (Z) (Ah hk1) Tryz.underlying28 Z BE Z) (J (Cr Z Z Aq Z) ?_);refine AB Z Z (AD (AC (AE (goMv Z Z (goMv Z Z (J (D6 Z Z Z) (AD (Ae Z (fun h14=>?_) (fun h14=>?_)))))))))
  ·refine AC (AE (goMv Z Z (AB Z Z (AD (A8 ?_)))));exact ⟨_,[],[],A6 Z,Z,Z,Ag ((hE.2 l[k] Z (by simpa using h14)).trans (by rw [List.map_id])),Z⟩
  ·refine A3 (AE (J (BA Z Z (AT (k+1) (by omega)) Z) (goMv Z Z (AD ?_))));exact ⟨k+1,⟨by show k+1≤_;omega,hE.1 (by simpa using h14)⟩,by show l.length - (k+1)<l.length - k;omega,⟨Z,Z,fun _ _=>Tk.get (l:=[(3,_),(6,_),(7,_),(8,_)]) ⟨Z,Z,Z,Z,trivial⟩⟩⟩
 ·refine BF (AC (AE (goMv Z Z (AB Z Z (AD (A8 ?_))))));exact ⟨_,[],[],A6 Z,Z,Z,Ag (by rw [List.map_id] at hk;rw [hk,GM (by have h:=h9;omega)]),Z⟩
def Bh (a b:AP):Int:=Bg [Ds a.k b.k,E9 a.acc.o b.acc.o,Ds a.acc.k b.acc.k,E9 a.acc.a b.acc.a,E9 a.f b.f,E9 a.t b.t]
def GF (a b:AK):Int:=Bg [Ds b.pr a.pr,Ds a.sq b.sq]
set_option maxHeartbeats 2000000 in
theorem LC (a b:AP):AO Tryz.prog 143 [.d (C1 a),.d (C1 b)] (AF (Bh a b)):=by
 refine BB Tryz.func143 Z Z Tryz.ntmps143 Z Z Z fun F hF=>(AC (AE (V (Bz 1 Z Z Z Z Z Z Z) ?_)));refine V (Bz 2 Z Z Z Z Z Z Z) (AB Z Z (AD (AC (Ch [[],[0],[],[2],[0,1,2,3],[],[5],[5,6],[],[8],[8,9],[0,1,2,3,4,5,6,7,8,9,10],[],[12],[12,13],[],[15],[15,16],[0,1,2,3,4,5,6,7,8,9,10,11,12,13,14,15,16,17],[],[19],[19,20],[],[22],[22,23],[0,1,2,3,4,5,6,7,8,9,10,11,12,13,14,15,16,17,18,19,20,21,22,23,24],[],[26],[],[28],[0,1,2,3,4,5,6,7,8,9,10,11,12,13,14,15,16,17,18,19,20,21,22,23,24,25,26,27,28,29],[],[31],[],[33],[0,1,2,3,4,5,6,7,8,9,10,11,12,13,14,15,16,17,18,19,20,21,22,23,24,25,26,27,28,29,30,31,32,33,34],[0,1,2,3,4,5,6,7,8,9,10,11,12,13,14,15,16,17,18,19,20,21,22,23,24,25,26,27,28,29,30,31,32,33,34,35],[0,1,2,3,4,5,6,7,8,9,10,11,12,13,14,15,16,17,18,19,20,21,22,23,24,25,26,27,28,29,30,31,32,33,34,35,36],[0,1,2,3,4,5,6,7,8,9,10,11,12,13,14,15,16,17,18,19,20,21,22,23,24,25,26,27,28,29,30,31,32,33,34,35,36,37]] mixed Z (Cq (AJ [2] [] Z Z (fun _=>AG (A4 Z U9 Z Z Z)) (Av [5] Z Z (fun _=>AG (A9 Z Z Z Aq Z)) (AJ [3] [] Z Z (fun _=>AG (A4 Z U9 Z Z Z)) ?_))))))));refine Av [7] Z Z (fun _=>AG (A9 Z Z Z Aq Z)) (AJ [6,8] [] Z Z (fun _=>AG (B2 (Q4 a.k b.k) Z Z)) (AJ [2] [] Z Z (fun _=>AG (A4 Z EU Z Z Z)) (AJ [10] [] Z Z (fun _=>AG (A4 Z QP Z Z Z)) (Av [11] Z Z (fun _=>AG (A9 Z Z Z iOq Z)) (AJ [3] [] Z Z (fun _=>AG (A4 Z EU Z Z Z)) (AJ [13] [] Z Z (fun _=>AG (A4 Z QP Z Z Z)) (Av [14] Z Z (fun _=>AG (A9 Z Z Z iOq Z)) (AJ [12,15] [] Z Z (fun _=>AG (B2 (Q3 a.acc.o b.acc.o) Z Z)) ?_))))))));refine AJ [2] [] Z Z (fun _=>AG (A4 Z EU Z Z Z)) (AJ [17] [] Z Z (fun _=>AG (A4 Z NT Z Z Z)) (Av [18] Z Z (fun _=>AG (A9 Z Z Z Aq Z)) (AJ [3] [] Z Z (fun _=>AG (A4 Z EU Z Z Z)) (AJ [20] [] Z Z (fun _=>AG (A4 Z NT Z Z Z)) (Av [21] Z Z (fun _=>AG (A9 Z Z Z Aq Z)) (AJ [19,22] [] Z Z (fun _=>AG (B2 (Q4 a.acc.k b.acc.k) Z Z)) (AJ [2] [] Z Z (fun _=>AG (A4 Z EU Z Z Z)) (AJ [24] [] Z Z (fun _=>AG (A4 Z NS Z Z Z)) ?_))))))));refine Av [25] Z Z (fun _=>AG (A9 Z Z Z iOq Z)) (AJ [3] [] Z Z (fun _=>AG (A4 Z EU Z Z Z)) (AJ [27] [] Z Z (fun _=>AG (A4 Z NS Z Z Z)) (Av [28] Z Z (fun _=>AG (A9 Z Z Z iOq Z)) (AJ [26,29] [] Z Z (fun _=>AG (B2 (Q3 a.acc.a b.acc.a) Z Z)) (AJ [2] [] Z Z (fun _=>AG (A4 Z Ku Z Z Z)) (Av [31] Z Z (fun _=>AG (A9 Z Z Z iOq Z)) (AJ [3] [] Z Z (fun _=>AG (A4 Z Ku Z Z Z)) (Av [33] Z Z (fun _=>AG (A9 Z Z Z iOq Z)) ?_))))))));refine AJ [32,34] [] Z Z (fun _=>AG (B2 (Q3 a.f b.f) Z Z)) (AJ [2] [] Z Z (fun _=>AG (A4 Z Kt Z Z Z)) (Av [36] Z Z (fun _=>AG (A9 Z Z Z iOq Z)) (AJ [3] [] Z Z (fun _=>AG (A4 Z Kt Z Z Z)) (Av [38] Z Z (fun _=>AG (A9 Z Z Z iOq Z)) (C5 35 Z Z Z (Af 36 Z Z (J (B2 (Q3 a.t b.t) Z Z) (AD ⟨Z,?_⟩))))))));refine Af 37 Z Z (V (D7 3 B5 Z Z Z Z Z Z Z Z) (AD ⟨Z,?_⟩));refine Af 38 Z Z (J (II [3] (or_p [Ds a.k b.k,E9 a.acc.o b.acc.o,Ds a.acc.k b.acc.k,E9 a.acc.a b.acc.a,E9 a.f b.f,E9 a.t b.t] (by simp)) (by exact ⟨.inr ⟨_,_,Z,.own Z Z (by simp) (Θ (by simp)),Z⟩,trivial⟩) Z Z) (AD ⟨Z,?_⟩));refine Af 39 Z Z (AB Z Z (AD ⟨Z,?_⟩));refine C9 (A8 ?_);exact ⟨_,[],[],A6 Z,Z,Z,Z,Z⟩
theorem Vb (a b:AK):AO Tryz.prog 122 [.d (As a),.d (As b)] (AF (GF a b)):=by
 refine BB Tryz.func122 Z Z Tryz.ntmps122 Z Z Z fun F hF=>(AC (AE (V (Bz 1 Z Z Z Z Z Z Z) (V (Bz 2 Z Z Z Z Z Z Z) ?_))));refine AB Z Z (AD (AC (Ch [[],[0],[],[2],[0,1,2,3],[],[5],[],[7],[0,1,2,3,4,5,6,7,8],[0,1,2,3,4,5,6,7,8,9],[0,1,2,3,4,5,6,7,8,9,10],[0,1,2,3,4,5,6,7,8,9,10,11]] mixed Z (Cq (AJ [3] [] Z Z (fun _=>AG (A4 Z Ua Z Z Z)) (Av [5] Z Z (fun _=>AG (A9 Z Z Z Aq Z)) (AJ [2] [] Z Z (fun _=>AG (A4 Z Ua Z Z Z)) (Av [7] Z Z (fun _=>AG (A9 Z Z Z Aq Z)) ?_))))))));refine AJ [6,8] [] Z Z (fun _=>AG (B2 (Q4 b.pr a.pr) Z Z)) (AJ [2] [] Z Z (fun _=>AG (A4 Z NU Z Z Z)) (Av [10] Z Z (fun _=>AG (A9 Z Z Z Aq Z)) (AJ [3] [] Z Z (fun _=>AG (A4 Z NU Z Z Z)) (Av [12] Z Z (fun _=>AG (A9 Z Z Z Aq Z)) (C5 9 Z Z Z (Af 10 Z Z (J (B2 (Q4 a.sq b.sq) Z Z) (AD ⟨Z,?_⟩))))))));refine Af 11 Z Z (V (D7 3 B5 Z Z Z Z Z Z Z Z) (AD ⟨Z,?_⟩));refine Af 12 Z Z (J (II [3] (or_p [Ds b.pr a.pr,Ds a.sq b.sq] (by simp)) (by exact ⟨.inr ⟨_,_,Z,.own Z Z (by simp) (Θ (by simp)),Z⟩,trivial⟩) Z Z) (AD ⟨Z,?_⟩));refine Af 13 Z Z (AB Z Z (AD ⟨Z,?_⟩));refine C9 (A8 ?_);exact ⟨_,[],[],A6 Z,Z,Z,Z,Z⟩
theorem cR (a b:AK):AO Tryz.prog 117 [.d (As a),.d (As b)] (.raw (.bool (decide (GF a b<0)))):=by
 refine BB Tryz.func117 Z Z Tryz.ntmps117 Z Z Z fun F hF=>(AC (AE (V (Bz 1 Z Z Z Z Z Z Z) (V (Bz 2 Z Z Z Z Z Z Z) (AB Z Z (AD ?_))))));refine AC (AE (J (BM Z Z CC Z Z Z) (J (BM Z Z CC Z Z Z) (J (B2 (Vb a b) Z Z) (J (BR Z Z Z) (AB Z Z (AD (A8 ?_))))))));exact ⟨_,[],[],A6 Z,Z,Z,Z,Z⟩
def OQ (x:AP×Int):D:= .agg [AF x.1.k,Ao x.1.acc.o,AF x.1.acc.k,Ao x.1.acc.a,Ao x.1.f,Ao x.1.t,AF x.2]
theorem Xs (a b:AP×Int):AO Tryz.prog 162 [.d (OQ a),.d (OQ b)] (AF (Bh a.1 b.1)):=by
 refine BB Tryz.func162 Z Z Tryz.ntmps162 Z Z Z fun F hF=>(AC (AE (V (Bz 1 Z Z Z Z Z Z Z) (V (Bz 2 Z Z Z Z Z Z Z) (AB Z Z (AD (AC ?_)))))));refine AE (J (A4 Z Jp Z Z Z) (J (BM Z Z C7 Z Z Z) (J (A4 Z Jp Z Z Z) (J (BM Z Z C7 Z Z Z) (J (B2 (LC a.1 b.1) Z Z) (AB Z Z (AD (A8 ?_))))))));exact ⟨_,[],[],A6 Z,Z,Z,Z,Z⟩
theorem Kl:∀a b c:List UInt8,PL a b=true ->PL b c=true ->PL a c=true
 | [],[],_,h,_=>by simp [PL,Op.bytesLess] at h
 | [],_::_,[],_,h=>by simp [PL,Op.bytesLess] at h
 | [],_::_,_::_,_,_=>by simp [PL,Op.bytesLess]
 | _::_,[],_,h,_=>by simp [PL,Op.bytesLess] at h
 | _::_,_::_,[],_,h=>by simp [PL,Op.bytesLess] at h
 | a::x,b::y,c::z,h1,h2=>by
  simp only [PL,Op.bytesLess,Bool.or_eq_true,ωx,ωa,beq_iff_eq] at h1 h2⊢;rcases h1 with h1 | ⟨rfl,h1⟩<;>rcases h2 with h2 | ⟨rfl,h2⟩
  ·exact .inl (UInt8.lt_trans h1 h2)
  ·exact .inl h1
  ·exact .inl h2
  ·exact .inr ⟨Z,Kl x y z h1 h2⟩
theorem Iv (a:List UInt8):PL a a=false:=by
 have:=IR a a;simp only [PL]
 cases h:Op.bytesLess a a with
 | false=>rfl
 | true=>rw [h] at this;simp at this
structure PC {γ:Type} (c:γ ->γ ->Int):Prop where
 anti:∀x y,c y x= - c x y
 trans:∀x y z,c x y<0 ->c y z<0 ->c x z<0
 eqv:∀x y z,c x y=0 ->c x z=c y z
theorem cmpI_pc:PC Ds:=⟨fun x y=>by unfold Ds;split<;>split<;>first | omega | rfl,fun x y z=>by unfold Ds;split<;>split<;>(try split)<;>(try split)<;>(try split)<;>(try split)<;>first | omega | simp,fun x y z h=>by
 have:x=y:=by
  unfold Ds at h;split at h; · cases h
  split at h; · cases h
  omega
 rw [this]⟩
theorem Ek {a b:List UInt8}:E9 a b=0↔a=b:=by
 unfold E9
 constructor
 ·intro h
  split at h; · cases h
  split at h; · cases h
  rename_i h1 h2
  have:=IR a b
  change PL b a=(!PL a b && !a==b) at this
  simp only [Bool.not_eq_true] at h1 h2;rw [h1,h2] at this
  simpa using this
 ·rintro rfl;rw [ϑ (by rw [Iv];simp),ϑ (by rw [Iv];simp)]
theorem Ng {a b:List UInt8}:E9 a b<0↔PL a b=true:=by
 unfold E9;split
 ·rename_i h;simp [h]
 ·rename_i h;split<;>simp [h]
theorem cmpS_pc:PC E9:=⟨fun x y=>by
 unfold E9
 by_cases h1:PL x y=true
 ·have h2:¬PL y x=true:=fun h2=>by have:=Kl x y x h1 h2;rw [Iv] at this;cases this
  rw [ϑ h2,θ h1,θ h1];rfl
 ·by_cases h2:PL y x=true
  ·rw [θ h2,ϑ h1,θ h2]
  ·rw [ϑ h2,ϑ h1,ϑ h1,ϑ h2];rfl,fun x y z h1 h2=>Ng.2 (Kl x y z (Ng.1 h1) (Ng.1 h2)),fun x y z h=>by rw [Ek.1 h]⟩
theorem PC.comap {γ δ:Type} {c:γ ->γ ->Int} (h:PC c) (f:δ ->γ):PC fun x y=>c (f x) (f y):=⟨fun _ _=>h.anti _ _,fun _ _ _=>h.trans _ _ _,fun _ _ _=>h.eqv _ _ _⟩
theorem PC.rev {γ:Type} {c:γ ->γ ->Int} (h:PC c):PC fun x y=>c y x:=⟨fun x y=>h.anti y x,fun x y z h1 h2=>h.trans _ _ _ h2 h1,fun x y z h1=>by
 have e:c x y=0:=by have:=h.anti y x;omega
 have:=h.eqv x y z e
 rw [h.anti x z,h.anti y z,this]⟩
theorem PC.zero {γ:Type}:PC fun _ _:γ=>(0:Int):=⟨fun _ _=>rfl,fun _ _ _ h=>by omega,fun _ _ _ _=>rfl⟩
theorem PC.lex {γ:Type} {c:γ ->γ ->Int} {r:γ ->γ ->List Int} (h:PC c) (h':PC fun x y=>Bg (r x y)):PC fun x y=>Bg (c x y::r x y):=by
 have sw:∀x y,c x y=0↔c y x=0:=fun x y=>by have:=h.anti x y;omega
 refine ⟨fun x y=>?_,fun x y z=>?_,fun x y z=>?_⟩
 ·simp only [Bg]
  by_cases e:c x y=0
  ·rw [θ e,θ ((sw x y).1 e)];exact h'.anti x y
  ·rw [ϑ e,ϑ (fun e'=>e ((sw x y).2 e'))];exact h.anti x y
 ·simp only [Bg];intro h1 h2
  by_cases e1:c x y=0<;>by_cases e2:c y z=0
  ·have e3:c x z=0:=by rw [h.eqv x y z e1];exact e2
   rw [θ e1] at h1;rw [θ e2] at h2;rw [θ e3];exact h'.trans x y z h1 h2
  ·rw [ϑ e2] at h2;have e3:c x z=c y z:=h.eqv x y z e1;rw [ϑ (by rw [e3];exact e2),e3];exact h2
  ·rw [ϑ e1] at h1;have e3:c z x=c y x:=(h.eqv y z x e2).symm;have e4:c x z=c x y:=by rw [h.anti z x,h.anti y x,e3]
   rw [ϑ (by rw [e4];exact e1),e4];exact h1
  ·rw [ϑ e1] at h1;rw [ϑ e2] at h2;have:=h.trans x y z h1 h2;rw [ϑ (by omega)];exact this
 ·simp only [Bg];intro h1
  have e1:c x y=0:=by
   by_cases e:c x y=0
   ·exact e
   ·rw [ϑ e] at h1;exact h1
  rw [θ e1] at h1;rw [h.eqv x y z e1];rw [h'.eqv x y z h1]
theorem PC.last {γ:Type}:PC fun x y:γ=>Bg ((fun _ _:γ=>([]:List Int)) x y):=PC.zero
theorem OY:PC Bh:=
 PC.lex (cmpI_pc.comap AP.k)<| PC.lex (cmpS_pc.comap fun r:AP=>r.acc.o)<| PC.lex (cmpI_pc.comap fun r:AP=>r.acc.k)<| PC.lex (cmpS_pc.comap fun r:AP=>r.acc.a)<| PC.lex (cmpS_pc.comap AP.f)<| PC.lex (cmpS_pc.comap AP.t) PC.last
theorem D0:PC GF:=PC.lex (cmpI_pc.comap AK.pr).rev<| PC.lex (cmpI_pc.comap AK.sq) PC.last
theorem PC.refl {γ:Type} {c:γ ->γ ->Int} (h:PC c) (x:γ):c x x=0:=by have:=h.anti x x;omega
theorem PC.swo {γ:Type} {c:γ ->γ ->Int} (h:PC c):Go.Sort.SWO (ltOf c):=by
 refine ⟨fun x=>?_,fun x y z h1 h2=>?_,fun x y z h1 h2=>?_⟩
 ·simp [ltOf,h.refl]
 ·simp only [ltOf,ωx] at*;exact h.trans x y z h1 h2
 ·simp only [ltOf,decide_eq_false_iff_not] at*;have a1:=h.anti x y;have a2:=h.anti y z;have a3:=h.anti x z
  by_cases e:c x y=0
  ·rw [h.eqv x y z e];exact h2
  ·by_cases e2:c y z=0
   ·have:=h.eqv y z x e2;rw [h.anti x y,h.anti x z] at this;omega
   ·have:=h.trans z y x (by omega) (by omega);omega
theorem I2 {a b:Int}:Ds a b=0↔a=b:=by
 unfold Ds;split
 ·constructor<;>intro h<;>omega
 ·split<;>constructor<;>intro h<;>omega
theorem Dr {a b:AP}:Bh a b=0↔a=b:=by
 unfold Bh;simp only [Bg];rw [AP.eq_iff,Tc.eq_iff]
 constructor
 ·intro h
  repeat' split at h
  all_goals first
   | contradiction
   | (rename_i h1 h2 h3 h4 h5 h6;exact ⟨I2.1 h1,⟨Ek.1 h2,I2.1 h3,Ek.1 h4⟩,Ek.1 h5,Ek.1 h6⟩)
 ·rintro ⟨h1,⟨h2,h3,h4⟩,h5,h6⟩;rw [h1,h2,h3,h4,h5,h6]
  simp [I2,Ek]
theorem Cv {γ:Type} {R:γ ->γ ->Prop} (irr:∀x,¬R x x) (tr:∀x y z,R x y ->R y z ->R x z):∀{l m:List γ},l.Pairwise R ->m.Pairwise R ->(∀x,x∈l↔x∈m) ->l=m
 | [],[],_,_,_=>rfl
 | [],b::m,_,_,h=>by have:=(h b).2 (by simp);cases this
 | a::l,[],_,_,h=>by have:=(h a).1 (by simp);cases this
 | a::l,b::m,h1,h2,h=>by
  rw [ψy] at h1 h2
  have e:a=b:=by
   rcases Ψ.1 ((h a).1 (by simp)) with e | h3
   ·exact e
   ·rcases Ψ.1 ((h b).2 (by simp)) with e | h4
    ·exact e.symm
    ·exact absurd (tr _ _ _ (h1.1 b h4) (h2.1 a h3)) (irr a)
  subst e
  congr 1
  refine Cv irr tr h1.2 h2.2 fun x=>⟨fun hx=>?_,fun hx=>?_⟩
  ·rcases Ψ.1 ((h x).1 (by simp [hx])) with e | h3
   ·subst e;exact absurd (h1.1 x hx) (irr x)
   ·exact h3
  ·rcases Ψ.1 ((h x).2 (by simp [hx])) with e | h3
   ·subst e;exact absurd (h2.1 x hx) (irr x)
   ·exact h3
abbrev TZ:Tc:=⟨[],0,[]⟩
def B4 (r:AP):Int:=
 if r.k=0 then (if r.acc.o≠ []∧r.acc.a≠ []∧0≤r.acc.k∧r.acc.k<5∧r.f=[]∧r.t=[] then 0 else 3)
 else if r.k=1 then (if r.f≠ []∧r.t≠ []∧r.f≠r.t∧r.acc=TZ then 0 else 3)
 else if r.k=2 then (if r.f≠ []∧r.t=[]∧r.acc=TZ then 0 else 3) else 11
theorem VI (r:AP):AO Tryz.prog 124 [.d (C1 r)] (AF (B4 r)):=by
 refine BB Tryz.func124 Z Z Tryz.ntmps124 Z Z Z fun F hF=>(AC (AE (V (Bz 1 Z Z Z Z Z Z Z) (AB Z Z ?_))));refine AD (AC (AE (AB Z Z (AD (AC (AC (AE (J (A4 Z U9 Z Z Z) ?_))))))));refine J (A9 Z Z Z Aq Z) (AD (A5 (AC (AE (J (JL Z Z Z) (AB Z Z (AD (Ae Z (fun h6=>?_) (fun h6=>?_)))))))))
 ·refine AE (J (A4 Z EU Z Z Z) (J (A4 Z QP Z Z Z) (J (A9 Z Z Z iOq Z) (J (Et Z Z Z) (goMv Z Z (Ia 12 Z (fun h12=>?_) (fun h12=>?_)))))))
  ·refine Aj Z Z Z (J (A4 Z EU Z Z Z) ?_);refine Aj Z Z Z (J (A4 Z NS Z Z Z) (Aj Z Z Z (J (A9 Z Z Z iOq Z) (Aj Z Z Z (J (Et Z Z Z) (J (FO Z Z Z Z) (goMv Z Z (Ia 18 Z (fun h18=>?_) (fun h18=>?_)))))))))
   ·refine Aj Z Z Z (J (A4 Z EU Z Z Z) ?_);refine Aj Z Z Z (J (A4 Z NT Z Z Z) (Aj Z Z Z (J (A9 Z Z Z Aq Z) (Aj Z Z Z (J (ES Z Z Z) (J (FO Z Z Z Z) (goMv Z Z (Ia 24 Z (fun h24=>?_) (fun h24=>?_)))))))))
    ·refine Aj Z Z Z (J (A4 Z EU Z Z Z) ?_);refine Aj Z Z Z (J (A4 Z NT Z Z Z) (Aj Z Z Z (J (A9 Z Z Z Aq Z) (Aj Z Z Z (J (BR Z Z Z) (J (FO Z Z Z Z) (goMv Z Z (Ia 30 Z (fun h30=>?_) (fun h30=>?_)))))))))
     ·refine Aj Z Z Z (J (A4 Z Ku Z Z Z) (Aj Z Z Z (J (A9 Z Z Z iOq Z) (Aj Z Z Z (J (EE Z Z Z) (J (FO Z Z Z Z) (goMv Z Z (Ia 35 Z (fun h35=>?_) (fun h35=>?_)))))))))
      ·refine Aj Z Z Z (J (A4 Z Kt Z Z Z) (Aj Z Z Z (J (A9 Z Z Z iOq Z) (Aj Z Z Z (J (EE Z Z Z) (J (FO Z Z Z Z) ?_))))));refine AB Z Z (AD (AC (AC (AE (goMv Z Z (J (Nu Z Z) (AD (Ae Z (fun h80=>?_) (fun h80=>?_)))))))))
       ·refine AC (AE (AB Z Z (AD (A8 ?_))));exact ⟨_,[],[],A6 Z,Z,Z,Ag (by unfold B4;simp_all<;>(intros;omega)),Z⟩
       ·refine A3 (AC (AE (AB Z Z (AD (A8 ?_)))));exact ⟨_,[],[],A6 Z,Z,Z,Ag (by unfold B4;simp_all<;>(intros;omega)),Z⟩
      ·refine Aa Z Z Z Z (Aa Z Z Z Z (Aa Z Z Z Z (J (Da Z Z Z Z) (AB Z Z (AD (AC (AC (AE ?_))))))));refine goMv Z Z (J (Dz Z Z) (AD (DP Z Z (AC (AE (AB Z Z (AD (A8 ?_))))))));exact ⟨_,[],[],A6 Z,Z,Z,Ag (by unfold B4;simp_all<;>(intros;omega)),Z⟩
     ·refine Aa Z Z Z Z (Aa Z Z Z Z (Aa Z Z Z Z (J (Da Z Z Z Z) (goMv Z Z ?_))));refine Aa Z Z Z Z (Aa Z Z Z Z (Aa Z Z Z Z (J (Da Z Z Z Z) (AB Z Z (AD (AC (AC (AE ?_))))))));refine goMv Z Z (J (Dz Z Z) (AD (DP Z Z (AC (AE (AB Z Z (AD (A8 ?_))))))));exact ⟨_,[],[],A6 Z,Z,Z,Ag (by unfold B4;simp_all<;>(intros;omega)),Z⟩
    ·refine Aa Z Z Z Z (Aa Z Z Z Z ?_);refine Aa Z Z Z Z (Aa Z Z Z Z (J (Da Z Z Z Z) (goMv Z Z (Aa Z Z Z Z (Aa Z Z Z Z (Aa Z Z Z Z (J (Da Z Z Z Z) (goMv Z Z ?_))))))));refine Aa Z Z Z Z (Aa Z Z Z Z (Aa Z Z Z Z (J (Da Z Z Z Z) (AB Z Z (AD (AC (AC (AE ?_))))))));refine goMv Z Z (J (Dz Z Z) (AD (DP Z Z (AC (AE (AB Z Z (AD (A8 ?_))))))));exact ⟨_,[],[],A6 Z,Z,Z,Ag (by unfold B4;simp_all<;>(intros;omega)),Z⟩
   ·refine Aa Z Z Z Z (Aa Z Z Z Z (Aa Z Z Z Z (Aa Z Z Z Z (J (Da Z Z Z Z) (goMv Z Z (Aa Z Z Z Z (Aa Z Z Z Z ?_)))))));refine Aa Z Z Z Z (Aa Z Z Z Z (J (Da Z Z Z Z) (goMv Z Z (Aa Z Z Z Z (Aa Z Z Z Z (Aa Z Z Z Z (J (Da Z Z Z Z) (goMv Z Z ?_))))))));refine Aa Z Z Z Z (Aa Z Z Z Z (Aa Z Z Z Z (J (Da Z Z Z Z) (AB Z Z (AD (AC (AC (AE ?_))))))));refine goMv Z Z (J (Dz Z Z) (AD (DP Z Z (AC (AE (AB Z Z (AD (A8 ?_))))))));exact ⟨_,[],[],A6 Z,Z,Z,Ag (by unfold B4;simp_all<;>(intros;omega)),Z⟩
  ·refine Aa Z Z Z Z (Aa Z Z Z Z (Aa Z Z Z Z (Aa Z Z Z Z (J (Da Z Z Z Z) ?_))));refine goMv Z Z (Aa Z Z Z Z (Aa Z Z Z Z (Aa Z Z Z Z (Aa Z Z Z Z (J (Da Z Z Z Z) (goMv Z Z (Aa Z Z Z Z (Aa Z Z Z Z ?_))))))));refine Aa Z Z Z Z (Aa Z Z Z Z (J (Da Z Z Z Z) (goMv Z Z (Aa Z Z Z Z (Aa Z Z Z Z (Aa Z Z Z Z (J (Da Z Z Z Z) (goMv Z Z ?_))))))));refine Aa Z Z Z Z (Aa Z Z Z Z (Aa Z Z Z Z (J (Da Z Z Z Z) (AB Z Z (AD (AC (AC (AE ?_))))))));refine goMv Z Z (J (Dz Z Z) (AD (DP Z Z (AC (AE (AB Z Z (AD (A8 ?_))))))));exact ⟨_,[],[],A6 Z,Z,Z,Ag (by unfold B4;simp_all<;>(intros;omega)),Z⟩
 ·refine AC (AE (J (JL Z Z Z) (AB Z Z (AD (Ae Z (fun h40=>?_) (fun h40=>?_))))))
  ·refine AE (J (A4 Z Ku Z Z Z) (J (A9 Z Z Z iOq Z) (J (Et Z Z Z) (goMv Z Z (Ia 45 Z (fun h45=>?_) (fun h45=>?_))))))
   ·refine Aj Z Z Z (J (A4 Z Kt Z Z Z) (Aj Z Z Z (J (A9 Z Z Z iOq Z) (Aj Z Z Z (J (Et Z Z Z) (J (FO Z Z Z Z) (goMv Z Z (Ia 50 Z (fun h50=>?_) (fun h50=>?_)))))))))
    ·refine Aj Z Z Z (J (A4 Z Ku Z Z Z) (Aj Z Z Z (J (A9 Z Z Z iOq Z) ?_)));refine Aj Z Z Z (J (A4 Z Kt Z Z Z) (Aj Z Z Z (J (A9 Z Z Z iOq Z) (Aj Z Z Z (J (Et Z Z Z) (J (FO Z Z Z Z) (goMv Z Z (Ia 57 Z (fun h57=>?_) (fun h57=>?_)))))))))
     ·refine Aj Z Z Z (J (A4 Z EU Z Z Z) (Aj Z Z Z (J (BM Z Z rw62 Z Z Z) (Aj Z Z Z (J (FZ Y0 Zo Z Z Z) (Aj Z Z Z (J (RP (la:=T3 r.acc) (lb:=T3 TZ) (ds:=accT) (by kernel_rfl) (by kernel_rfl) (by kernel_rfl) Z Z Z Z (I4 _) (I4 _) (W5 _ _) Z) (J (FO Z Z Z Z) ?_))))))));refine AB Z Z (AD (AC (AC (AE (goMv Z Z (J (Nu Z Z) (AD (Ae Z (fun h80=>?_) (fun h80=>?_)))))))))
      ·refine AC (AE (AB Z Z (AD (A8 ?_))));exact ⟨_,[],[],A6 Z,Z,Z,Ag (by unfold B4;simp_all<;>(intros;omega)),Z⟩
      ·refine A3 (AC (AE (AB Z Z (AD (A8 ?_)))));exact ⟨_,[],[],A6 Z,Z,Z,Ag (by unfold B4;simp_all<;>(intros;omega)),Z⟩
     ·refine Aa Z Z Z Z ?_;refine Aa Z Z Z Z (Aa Z Z Z Z (Aa Z Z Z Z (J (Da Z Z Z Z) (AB Z Z (AD (AC (AC (AE ?_))))))));refine goMv Z Z (J (Dz Z Z) (AD (DP Z Z (AC (AE (AB Z Z (AD (A8 ?_))))))));exact ⟨_,[],[],A6 Z,Z,Z,Ag (by unfold B4;simp_all<;>(intros;omega)),Z⟩
    ·refine Aa Z Z Z Z (Aa Z Z Z Z (Aa Z Z Z Z (Aa Z Z Z Z (Aa Z Z Z Z (J (Da Z Z Z Z) (goMv Z Z (Aa Z Z Z Z ?_)))))));refine Aa Z Z Z Z (Aa Z Z Z Z (Aa Z Z Z Z (J (Da Z Z Z Z) (AB Z Z (AD (AC (AC (AE ?_))))))));refine goMv Z Z (J (Dz Z Z) (AD (DP Z Z (AC (AE (AB Z Z (AD (A8 ?_))))))));exact ⟨_,[],[],A6 Z,Z,Z,Ag (by unfold B4;simp_all<;>(intros;omega)),Z⟩
   ·refine Aa Z Z Z Z (Aa Z Z Z Z (Aa Z Z Z Z (J (Da Z Z Z Z) ?_)));refine goMv Z Z (Aa Z Z Z Z (Aa Z Z Z Z (Aa Z Z Z Z (Aa Z Z Z Z (Aa Z Z Z Z (J (Da Z Z Z Z) (goMv Z Z (Aa Z Z Z Z ?_))))))));refine Aa Z Z Z Z (Aa Z Z Z Z (Aa Z Z Z Z (J (Da Z Z Z Z) (AB Z Z (AD (AC (AC (AE ?_))))))));refine goMv Z Z (J (Dz Z Z) (AD (DP Z Z (AC (AE (AB Z Z (AD (A8 ?_))))))));exact ⟨_,[],[],A6 Z,Z,Z,Ag (by unfold B4;simp_all<;>(intros;omega)),Z⟩
  ·refine AC (AE (J (JL Z Z Z) (AB Z Z (AD (Ae Z (fun h63=>?_) (fun h63=>?_))))))
   ·refine AE (J (A4 Z Ku Z Z Z) (J (A9 Z Z Z iOq Z) (J (Et Z Z Z) (goMv Z Z (Ia 68 Z (fun h68=>?_) (fun h68=>?_))))))
    ·refine Aj Z Z Z (J (A4 Z Kt Z Z Z) (Aj Z Z Z (J (A9 Z Z Z iOq Z) (Aj Z Z Z (J (EE Z Z Z) (J (FO Z Z Z Z) (goMv Z Z (Ia 73 Z (fun h73=>?_) (fun h73=>?_)))))))))
     ·refine Aj Z Z Z (J (A4 Z EU Z Z Z) (Aj Z Z Z (J (BM Z Z rw62 Z Z Z) (Aj Z Z Z (J (FZ Y0 Zo Z Z Z) (Aj Z Z Z (J (RP (la:=T3 r.acc) (lb:=T3 TZ) (ds:=accT) (by kernel_rfl) (by kernel_rfl) (by kernel_rfl) Z Z Z Z (I4 _) (I4 _) (W5 _ _) Z) (J (FO Z Z Z Z) ?_))))))));refine AB Z Z (AD (AC (AC (AE (goMv Z Z (J (Nu Z Z) (AD (Ae Z (fun h80=>?_) (fun h80=>?_)))))))))
      ·refine AC (AE (AB Z Z (AD (A8 ?_))));exact ⟨_,[],[],A6 Z,Z,Z,Ag (by unfold B4;simp_all<;>(intros;omega)),Z⟩
      ·refine A3 (AC (AE (AB Z Z (AD (A8 ?_)))));exact ⟨_,[],[],A6 Z,Z,Z,Ag (by unfold B4;simp_all<;>(intros;omega)),Z⟩
     ·refine Aa Z Z Z Z ?_;refine Aa Z Z Z Z (Aa Z Z Z Z (Aa Z Z Z Z (J (Da Z Z Z Z) (AB Z Z (AD (AC (AC (AE ?_))))))));refine goMv Z Z (J (Dz Z Z) (AD (DP Z Z (AC (AE (AB Z Z (AD (A8 ?_))))))));exact ⟨_,[],[],A6 Z,Z,Z,Ag (by unfold B4;simp_all<;>(intros;omega)),Z⟩
    ·refine Aa Z Z Z Z (Aa Z Z Z Z (Aa Z Z Z Z (J (Da Z Z Z Z) (goMv Z Z (Aa Z Z Z Z ?_)))));refine Aa Z Z Z Z (Aa Z Z Z Z (Aa Z Z Z Z (J (Da Z Z Z Z) (AB Z Z (AD (AC (AC (AE ?_))))))));refine goMv Z Z (J (Dz Z Z) (AD (DP Z Z (AC (AE (AB Z Z (AD (A8 ?_))))))));exact ⟨_,[],[],A6 Z,Z,Z,Ag (by unfold B4;simp_all<;>(intros;omega)),Z⟩
   ·refine AC (AE (AB Z Z (AD (A8 ?_))));exact ⟨_,[],[],A6 Z,Z,Z,Ag (by unfold B4;simp_all<;>(intros;omega)),Z⟩
def QF:List AP ->AP ->List AP
 | [],r=> [r]
 | a::l,r=>if Bh a r<0 then a::QF l r else if a=r then a::l else r::a::l
def YP (l:List AP):Prop:=l.Pairwise fun a b=>Bh a b<0
theorem insR_mem {l:List AP} {r x:AP}:x∈QF l r↔x=r∨x∈l:=by
 induction l with
 | nil=>simp [QF]
 | cons a l ih=>
  simp only [QF]
  split
  ·simp only [Ψ,ih];constructor<;>intro h<;>rcases h with h | h | h<;>simp [h]
  ·split
   ·rename_i h;subst h;simp
   ·simp
theorem bG {l:List AP} (h:YP l) (r:AP):YP (QF l r):=by
 induction l with
 | nil=>simp [QF,YP]
 | cons a l ih=>
  simp only [YP,ψy] at h;simp only [QF]
  split
  ·rename_i h1
   refine ψy.2 ⟨fun x hx=>?_,ih h.2⟩;rcases insR_mem.1 hx with rfl | hx
   ·exact h1
   ·exact h.1 x hx
  ·split
   ·exact ψy.2 h
   ·rename_i h1 h2
    have h3:Bh r a<0:=by
     have:=OY.anti a r;have h4:Bh a r≠0:=fun e=>h2 (Dr.1 e);omega
    refine ψy.2 ⟨fun x hx=>?_,ψy.2 h⟩;rcases Ψ.1 hx with rfl | hx
    ·exact h3
    ·exact OY.trans _ _ _ h3 (h.1 x hx)
def RA (c:List (AP×Int)):List AP:=(c.map Prod.fst).foldl QF []
theorem O1 (c:List (AP×Int)) (x:AP×Int):RA (c++ [x])=QF (RA c) x.1:=by simp [RA]
theorem Qz (c:List (AP×Int)) (r:AP):r∈RA c↔r∈c.map Prod.fst:=by
 induction c using YU with
 | h0=>simp [RA]
 | h1 l x ih=>rw [O1,insR_mem,ih];simp only [ωc,ωm,List.map_nil,υ,ξ];exact or_comm
theorem Yg (c:List (AP×Int)):YP (RA c):=by
 induction c using YU with
 | h0=>simp [RA,YP]
 | h1 l x ih=>rw [O1];exact bG ih _
def Lj (c:List (AP×Int)):List (AP×Int):=((RA c).map fun r=>(r,Ap c r)).filter fun x=>decide (x.2≠0)
def Xr (i:AK):List (AP×Int):=Lj (ctr i)
theorem N8 (c:List (AP×Int)):(Lj c).Pairwise fun a b=>Bh a.1 b.1<0:=by
 unfold Lj;refine List.Pairwise.filter _ ?_;rw [ψe];exact Yg c
theorem HV (c:List (AP×Int)) (a:AP) (b:Int):(a,b)∈sumL c↔a∈c.map Prod.fst∧b=Ap c a:=by
 constructor
 ·intro h;refine ⟨(IH c a).1 (ϱ.2 ⟨_,h,Z⟩),?_⟩;rw [←JQ,DJ (Es c) h]
 ·rintro ⟨h,rfl⟩;rw [←JQ];exact Hf ((IH c a).2 h)
theorem KE (c:List (AP×Int)) (x:AP×Int):x∈Lj c↔x∈sumL c∧x.2≠0:=by
 obtain ⟨a,b⟩:=x;unfold Lj;rw [ωb,ϱ,HV];simp only [Prod.mk.injEq,ωx]
 constructor
 ·rintro ⟨⟨r,hr,rfl,rfl⟩,h⟩;exact ⟨⟨(Qz c r).1 hr,Z⟩,h⟩
 ·rintro ⟨⟨h1,rfl⟩,h⟩;exact ⟨⟨a,(Qz c a).2 h1,Z,Z⟩,h⟩
theorem WW {c acc ys:List (AP×Int)} (h1:acc.Perm ((sumL c).filter fun x=>decide (x.2≠0))) (h2:ys.Perm acc) (h3:ys.Pairwise fun a b=>¬Bh b.1 a.1<0):ys=Lj c:=by
 have hp:=h2.trans h1;refine Cv (R:=fun a b=>Bh a.1 b.1<0) (fun x=>by rw [OY.refl];omega) (fun x y z=>OY.trans x.1 y.1 z.1) ?_ (N8 c) fun x=>?_
 ·have hn:(ys.map Prod.fst).Nodup:=by
   refine ((hp.map Prod.fst).nodup_iff).2 ?_;exact (Es c).sublist (List.Sublist.map _ ψu)
  rw [List.Nodup,ψe] at hn;refine (h3.and hn).imp fun {a b} ⟨g1,g2⟩=>?_;have:=OY.anti a.1 b.1;have g3:Bh a.1 b.1≠0:=fun e=>g2 (Dr.1 e);omega
 ·rw [hp.mem_iff,KE,ωb,ωx]
theorem bu (x:AP×Int):∃cs,OQ x= .agg cs:=⟨_,Z⟩
theorem XA {c acc:List (AP×Int)} (h1:acc.Perm ((sumL c).filter fun x=>decide (x.2≠0))):acc.length=(Lj c).length:=by
 have hs:=List.pairwise_mergeSort (le:=fun a b:AP×Int=>decide (¬Bh b.1 a.1<0)) (fun a b d h1 h2=>by
  have:=OY.swo.ntrans d.1 b.1 a.1;simp only [ltOf,decide_eq_false_iff_not] at this;simp only [ωx] at h1 h2⊢
  exact this h2 h1) (fun a b=>by have:=OY.anti a.1 b.1;simp only [Bool.or_eq_true,ωx];omega) acc
 have hp:=List.mergeSort_perm acc (fun a b:AP×Int=>decide (¬Bh b.1 a.1<0));rw [←WW h1 hp (hs.imp fun {a b} h=>by simpa using h)];exact hp.length_eq.symm
section
variable {F:Fr} {s:AS} {d:Nat} {x y:Operand} {ty:TypeId} {pos:String} {aft:Array Edge} {gd:Option (Nat×Bool)} {at_:Array TypeId} {f n:Nat} {row:List D} {hp':Hp}
theorem ZC (c acc:List (AP×Int)) (h1:acc.Perm ((sumL c).filter fun x=>decide (x.2≠0))) (hsz:acc.length<4611686018427387904) (hx:s.ev x=some (.own f 0 n)) (hy:s.ev y=some (.d (.raw (.func (.func 162) #[] #[])))) (ho:hget s.hp f 0=some (.rowD 218 7 row)) (hrow:row=acc.map OQ) (hn:n=acc.length) (hh:BN s.hp f 0 (.rowD 218 7 ((Lj c).map OQ))=some hp') (hd:Nat.blt d s.n=true):
  AI Tryz.prog F ⟨some d,.call {callee:= .value (.func 161),args:= #[x,y],argTypes:=at_},ty,pos,aft,gd⟩ s ⟨s.n,(d,.d (.tup []))::s.env,hp'⟩ (fun _ _=>true):=
 Ln laysD (k:=7) (by decide) Tryz.isAgg218 Tryz.sizeOf218 Tryz.func162 Z Z bu (fun a b=>Bh a.1 b.1) (OY.comap Prod.fst).swo acc (Lj c) hsz (fun x _ y _=>Xs x y) (fun ys g1 g2=>WW h1 g1 g2) Z hx hy Kv ho hrow hn hh hd
end
def AR (i:AK):List (AP×Int):=if BP i=0 then Xr i else []
theorem Jj {l:List Int} (h:Bg l=0):∀x∈l,x=0:=by
 have:=(YY (l:=l) (f:=id)).1 (by rw [List.map_id];exact h);exact this
theorem Hu {i:AK} (h:BP i=0):ItmB i∧(0≤i.id∧i.id≤1000000000)∧(0≤i.sq∧i.sq≤1000000000)∧(0≤i.pr∧i.pr≤2)∧Or i=0∧XR i=0∧aftE i=0∧Us i=0∧TP i=0:=by
 unfold BP at h
 split at h; · cases h
 split at h; · cases h
 rename_i h1 h2
 have h3:=Jj h;have e1:=h3 (Or i) (by simp [Qj]);have e2:=h3 (XR i) (by simp [Qj]);exact ⟨⟨by omega,by omega,by omega,UO e1,pay_b e2⟩,by omega,by omega,by omega,e1,e2,h3 _ (by simp [Qj]),h3 _ (by simp [Qj]),h3 _ (by simp [Qj])⟩
theorem JF (i:AK):(ctr i).length=i.po.length+4*i.pa.length:=by simp [ctr,KF,LY]
theorem HX (c:List (AP×Int)):(sumL c).length≤c.length:=by
 induction c using YU with
 | h0=>simp [sumL]
 | h1 l x ih=>
  rw [Uz];unfold c6;have:=J9 (m:=sumL l) (a:=x.1) (b:=A7 (sumL l) x.1 0+x.2);simp only [Δ,Φ];omega
theorem nxt_in {α:Type} {p:α ->Bool} {acc A B X:List α} {x:α} (hI:(acc++A.filter p).Perm X) (hp:A.Perm (x::B)) (hx:p x=true):((acc++ [x])++B.filter p).Perm X:=by
 have h:=hp.filter p;rw [List.filter_cons_of_pos hx] at h;rw [ψl];exact (List.Perm.append_left acc h.symm).trans hI
theorem nxt_out {α:Type} {p:α ->Bool} {acc A B X:List α} {x:α} (hI:(acc++A.filter p).Perm X) (hp:A.Perm (x::B)) (hx:¬p x=true):(acc++B.filter p).Perm X:=by
 have h:=hp.filter p;rw [List.filter_cons_of_neg hx] at h;exact (List.Perm.append_left acc h.symm).trans hI
theorem Vr {α:Type} {p:α ->Bool} {acc A M:List α} (hI:(acc++A.filter p).Perm (M.filter p)):acc.length≤M.length:=by
 have h:=hI.length_eq;have h2:=ωh p M;rw [Δ] at h;omega
theorem St (i:AK) (g1:i.po.length≤140737488355328) (g2:i.pa.length≤140737488355328) (g3:i.af.length≤140737488355328):AO Tryz.prog 118 [.d (As i)] (.tup [.sl none ((AR i).map OQ),AF (BP i)]):=by
 by_cases hE:BP i=0
 ·have hb:=(Hu hE).1;have hS:AR i=Xr i:=θ hE
  obtain ⟨M,hMM⟩:∃M,sumL (ctr i)=M:=⟨_,Z⟩
  have hs:=(Ph i hb).by [(2,20)] rfl;have hlen:M.length≤1280:=by rw [←hMM];have h1:=HX (ctr i);have h2:=JF i;have h3:=hb.po;have h4:=hb.pa;omega
  rw [hMM] at hs;rw [hS];have hck:=KG i g1 g2 g3;rw [hE] at hck⊢;refine BB Tryz.func118 Z Z Tryz.ntmps118 Z Z Z fun F hF=>(AC (AE (V (Bz 1 Z Z Z Z Z Z Z) (AB Z Z (AB Z Z (AD (AC ?_)))))));refine AC (AE (J (BM Z Z CC Z Z Z) (J (B2 (hck) Z Z) (AB Z Z (AD (AC (AE (goMv Z Z ?_))))))));refine J (D6 Z Z Z) (AD (D9 Z (by decide) (A3 (AC (AE (AB Z Z (AD (AC ?_))))))));refine AC (OD 5 900 ZQ Z Z Z Z (AE (J (BM Z Z CC Z Z Z) (V (E1 hs Z [20] ⟨Z,trivial⟩ Z Z Z Z Z Z Z Z Z) (V (Fy 2 Z Z Z Bv Z Z Z Z) (AD (A5 (B7 (α:=List Nat×List (AP×Int)) (fun q=>⟨32,[(5,(.own 900 0 q.2.length)),(15,(.ptr 2 0 0))],[(2,[.iter 20 0 M.length q.1]),(20,[BL C1 AF M]),(900,[.rowD 218 7 (q.2.map OQ)])]⟩) (fun q=>(q.2++(Bt M (List.range M.length) q.1).filter (fun x=>decide (x.2≠0))).Perm (M.filter fun x=>decide (x.2≠0))) (fun q=>(Bt M (List.range M.length) q.1).length) (([],[])) (by rw [DK (by simp)];exact List.Perm.refl _) (A1 hF [2,20,900] Z Z ⟨Z,Z,trivial⟩) ?_))))))));rintro ⟨seen,acc⟩ hI;dsimp only at hI⊢;refine AC (AE (Kf (M) Z Z Z Z (fun hl16=>?_) (fun j16 b16 k16 v16 hm16 hb16 hB16 hp16=>⟨_,Z,?_⟩)))
  ·refine J (Ct Z Z Z) (AD (AC (D9 Z Z (BF (AC ?_)))));have hacc:acc.Perm ((sumL (ctr i)).filter fun x=>decide (x.2≠0)):=by have h:=hI;rw [hl16,List.filter_nil,ωk] at h;rw [hMM];exact h
   refine AE (goMv Z Z (V (ZC (ctr i) acc hacc (by have:=Vr hI;omega) Z Z Z Z Z Z Z) ?_));refine AD (AC (L4 (emb:=OQ) 5 900 (Xr i) Z Z Z (XA hacc) Z Z Z (AE (goMv Z Z (AB Z Z (AB Z Z (AD (A8 ?_))))))));exact ⟨_,[],[],A6 Z,Z,Z,Z,Z⟩
  ·refine J (Ct Z Z Z) (AD (AC ?_));refine DP Z Z (A3 (A5 (AC (AE (J (Fz (M) j16 b16 Z Z Z hm16 hb16 Z) (J (Ct Z Z Z) (J (Ct Z Z Z) (V (CF 3 KP Z Z Z Z) ?_))))))));refine V (Bi Z Z Z Z Z Z Z Yr) (AB Z Z (AD (AC (AE (goMv Z Z (J (D6 Z Z Z) (AD (Ae Z (fun h22=>?_) (fun h22=>?_)))))))))
   ·refine AE (goMv Z Z (J (BM Z Z C7 Z Z Z) (goMv Z Z (J (FZ Y4 pl218 Z Z Z) (V (D7 4 ZQ Z Z Z Z Z Z Z Z) (V (Hz (acc) ([(k16,v16)]) Z Z Z Z Z Z Z Z ZQ (by have:=Vr hI;simp only [Φ];omega) Z Z Z Z) (AB Z Z (AD ?_))))))));exact ⟨(seen++ [b16],_),nxt_in hI hp16 (by simpa using h22),by show (Bt M (List.range M.length) (seen++ [b16])).length<(Bt M (List.range M.length) seen).length;rw [hp16.length_eq];exact χk _,A1 hF [2,20,900] Z (Z) ⟨Z,Z,trivial⟩⟩
   ·refine A3 ?_;exact ⟨(seen++ [b16],_),nxt_out hI hp16 (by simpa using h22),by show (Bt M (List.range M.length) (seen++ [b16])).length<(Bt M (List.range M.length) seen).length;rw [hp16.length_eq];exact χk _,A1 hF [2,20,900] Z (Z) ⟨Z,Z,trivial⟩⟩
 ·have hck:=KG i g1 g2 g3;have hS:AR i=[]:=ϑ hE;rw [hS];refine BB Tryz.func118 Z Z Tryz.ntmps118 Z Z Z fun F hF=>(AC ?_);refine AE (V (Bz 1 Z Z Z Z Z Z Z) (AB Z Z (Wc 2 Z (AB Z Z (AD (AC (AC (AE ?_))))))));refine J (BM Z Z CC Z Z Z) (J (B2 (hck) Z Z) (AB Z Z (AD (AC (AE (goMv Z Z (J (D6 Z Z Z) (AD ?_))))))));refine DP Z ((by simpa using hE)) (AC (AE (goMv Z Z (AB Z Z (Wc 2 Z (AB Z Z (AD (A8 ?_))))))));exact ⟨_,[],[],A6 Z,Z,Z,Z,Z⟩
def Cg (i:AK) (r:AP):Int:=if BP i=0∧B4 r=0 then Ap (ctr i) r else 0
theorem WX (i:AK) (r:AP) (g1:i.po.length≤140737488355328) (g2:i.pa.length≤140737488355328) (g3:i.af.length≤140737488355328):AO Tryz.prog 70 [.d (As i),.d (C1 r)] (AF (Cg i r)):=by
 by_cases hE:BP i=0
 ·have hb:=(Hu hE).1
  obtain ⟨M,hMM⟩:∃M,sumL (ctr i)=M:=⟨_,Z⟩
  have hs:=(Ph i hb).by [(2,20)] rfl;rw [hMM] at hs;have hck:=KG i g1 g2 g3;rw [hE] at hck;refine BB Tryz.func70 Z Z Tryz.ntmps70 Z Z Z fun F hF=>(AC (AE (V (Bz 1 Z Z Z Z Z Z Z) (V (Bz 2 Z Z Z Z Z Z Z) (AB Z Z ?_)))));refine AD (AC (AC (AE (J (BM Z Z CC Z Z Z) (J (B2 (hck) Z Z) (J (D6 Z Z Z) (goMv Z Z (Iq 8 Z (by decide) ?_))))))));refine Aj Z Z Z (J (BM Z Z C7 Z Z Z) (Aj Z Z Z (J (B2 (VI r) Z Z) (Aj Z Z Z (J (D6 Z Z Z) (J (Da Z Z Z Z) (AD (Ae Z (fun h12=>?_) (fun h12=>?_)))))))))
  ·refine AC (AE (AB Z Z (AD (A8 ?_))));exact ⟨_,[],[],A6 Z,Z,Z,Ag (by rw [Cg,ϑ];simp_all),Z⟩
  ·refine A3 (AC ?_);refine Ch [[],[0],[],[0,1,2],[0,1,2,3]] mixed Z (Cq (Av [2] Z Z (fun _=>AG (BM Z Z CC Z Z Z)) (Gv [13] [20] [(14,_)] Z Z (fun _=>Gw (E1 hs Z [20] ⟨Z,trivial⟩ Z Z Z Z Z Z Z Z Z)) (.inr ⟨14,_,Z,Z,Z,Z,Z⟩) Z Z Z Z Z (Av [3] Z Z (fun _=>AG (BM Z Z C7 Z Z Z)) (C5 3 Z Z Z (Af 4 Z Z (J (HQ (M) (r) (0) _ Z Z Z Bv CJ Nx Z Z) (AD ⟨Z,?_⟩))))))));refine Af 5 Z Z (AB Z Z (AD ⟨Z,?_⟩));refine C9 (A8 ?_);exact ⟨_,[],[],A6 Z,Z,Z,Ag (by rw [Cg,θ ⟨hE,by simpa using h12⟩,←hMM,JQ]),Z⟩
 ·have hck:=KG i g1 g2 g3;have hS:Cg i r=0:=ϑ fun h=>hE h.1;rw [hS];refine BB Tryz.func70 Z Z Tryz.ntmps70 Z Z Z fun F hF=>(AC (AE (V (Bz 1 Z Z Z Z Z Z Z) (V (Bz 2 Z Z Z Z Z Z Z) (AB Z Z (AD (AC ?_)))))));refine AC (AE (J (BM Z Z CC Z Z Z) (J (B2 (hck) Z Z) (J (D6 Z Z Z) (goMv Z Z (G7 8 Z ((by simpa using hE)) (Aa Z Z Z Z (Aa Z Z Z Z ?_))))))));refine Aa Z Z Z Z (J (FO Z Z Z Z) (AD (DP Z Z (AC (AE (AB Z Z (AD (A8 ?_))))))));exact ⟨_,[],[],A6 Z,Z,Z,Z,Z⟩
theorem Zt (r:AP):AO Tryz.prog 47 [.d (C1 r)] (C1 r):=by
 refine BB Tryz.func47 Z Z Tryz.ntmps47 Z Z Z fun F hF=>(AC ?_);refine AE (V (Bz 1 Z Z Z Z Z Z Z) (V (CF 2 KP Z Z Z Z) (AD (AC (AE (J (A4 Z fi98_0 Z Z Z) (J (A9 Z Z Z Aq Z) (J (A4 Z fi98_1 Z Z Z) ?_))))))));refine J (BM Z Z rw96 Z Z Z) (J (A4 Z fi98_2 Z Z Z) (J (A9 Z Z Z iOq Z) (J (A4 Z fi98_3 Z Z Z) (J (A9 Z Z Z iOq Z) (J (FZ KP Rg Z Z Z) (V (Bi Z Z Z Z Z Z Z Yr) (AD (A8 ?_))))))));exact ⟨_,[],[],A6 Z,Z,Z,Z,Z⟩
theorem Lm {α:Type} {acc l:List α} (h:acc=l.take acc.length) (hk:acc.length<l.length):acc++ [l[acc.length]]=l.take (acc++ [l[acc.length]]).length:=by
 rw [Δ,Φ,φ hk,←h]
theorem Pg {α:Type} {acc l:List α} (h:acc=l.take acc.length) (hk:¬acc.length<l.length):acc=l:=by
 rw [h];exact Θ (by omega)
theorem Qt {α:Type} (acc:List α) (x:α) (h:acc.length<9223372036854775807):IntKind.i64.wrap ((acc.length:Int)+1)=(((acc++ [x]).length:Nat):Int):=by
 rw [Δ];exact AT (acc.length+1) (by omega)
abbrev I8:AV:= .d (.sl (some true) [])
theorem XS (i:AK) (g1:i.po.length≤10000) (g2:i.pa.length≤10000) (g3:i.af.length≤10000):AO Tryz.prog 48 [.d (As i)] (As i):=by
 refine BB Tryz.func48 Z Z Tryz.ntmps48 Z Z Z fun F hF=>(AC (AE (V (Bz 1 Z Z Z Z Z Z Z) (V (CF 2 Em Z Z Z Z) (AD (AC ?_))))));refine Ch [[],[0],[],[2],[],[4],[],[],[7],[6,7,8],[0,1,2,3,4,5,6,7,8,9],[],[0,1,2,3,4,5,6,7,8,9,10,11]] mixed Z (Cq (AJ [1] [] Z Z (fun _=>AG (A4 Z fi93_0 Z Z Z)) (Av [6] Z Z (fun _=>AG (A9 Z Z Z Aq Z)) (AJ [1] [] Z Z (fun _=>AG (A4 Z fi93_1 Z Z Z)) (Av [8] Z Z (fun _=>AG (A9 Z Z Z Aq Z)) (AJ [1] [] Z Z (fun _=>AG (A4 Z fi93_2 Z Z Z)) (Av [10] Z Z (fun _=>AG (A9 Z Z Z Aq Z)) (Gv [] [3] [(12,_)] Z Z (fun _=>Gw (D7 3 B5 Z Z Z Z Z Z Z Z)) (.inr ⟨12,_,Z,Z,Z,Z,Z⟩) Z Z Z Z Z ?_))))))));refine AJ [1] [] Z Z (fun _=>AG (A4 Z bV Z Z Z)) (Av [13] Z Z (fun _=>AG (A9 Z Z Z BH Z)) (Gv [12,14] [3] [(15,_)] Z Z (fun _=>Gw (Ev (([]:List Int)) (i.af) Z Z Z Z Z Z (fun _=>rfl) B5 (by simp only [φo];omega) Z Z Z Z)) (.inr ⟨15,_,Z,Z,Z,Z,Z⟩) Z Z Z Z Z (AJ [7,9,11,15] [] Z Z (fun _=>AG (FZ Em pl55 Z Z Z)) (Gv [] [4] [(3,_)] Z Z (fun _=>Gw (CF 4 Em Z Z Z Z)) (.inr ⟨3,_,Z,Z,Z,Z,Z⟩) Z Z Z Z Z (C5 12 Z Z Z (Af 13 Z Z (V (Bi Z Z Z Z Z Z Z Ck) (AD ⟨Z,?_⟩))))))));refine C9 ?_;refine AC (AC (Du (ys:=i.af.map AF) 4 0 5 3 Z Z Z (by simp) (Θ (by simp)) Z Z Z Z Z Z (ER 4 0 3 901 XB Z Z Z Z Z Z Z (AE (AB Z Z (AD (A5 (B7 (α:=List FQ) (fun acc=>⟨60,[(1,(.ptr 1 0 0)),(2,(.ptr 2 0 0)),(3,(.ptr 4 0 0)),(4,(.d (AF (acc.length:Int))))],[(901,[.rowD 158 4 (acc.map CG)]),(1,[.blk 93 [.d (AF i.id),.d (AF i.pr),.d (AF i.sq),.d (.sl none (i.po.map CG)),.d (.sl none (i.pa.map Fm)),.d (.sl none (i.af.map AF))]]),(2,[.blk 55 [.d (AF 0),.d (AF 0),.d (AF 0),I8,I8,I8]]),(4,[.blk 55 [.d (AF i.id),.d (AF i.pr),.d (AF i.sq),.own 901 0 acc.length,I8,.d (.sl none (i.af.map AF))]])]⟩) (fun acc=>acc=i.po.take acc.length∧acc.length≤i.po.length) (fun acc=>i.po.length - acc.length) ([]) (⟨by simp,ς _⟩) (A1 hF [901,1,2,4] Z Z ⟨Z,Z,Z,Z,trivial⟩) ?_))))))));rintro acc ⟨hI,hk0⟩;refine AC ?_;refine AC (AE (goMv Z Z (J (A4 Z QN Z Z Z) (J (A9 Z Z Z on90 Z) (J (CO Z Tryz.underlying90 Z) (J (BR Z Z Z) (AD (Ae Z (fun h21=>?_) (fun h21=>?_)))))))))
 ·have hk1:acc.length<i.po.length:=Bf h21;refine A3 (AC (A5 (Ch [[],[0],[],[2],[],[2,3,4],[2,3,4,5],[2,3,4,5,6],[],[8],[],[8,9,10],[8,9,10,11],[8,9,10,11,12],[2,3,4,5,6,7,8,9,10,11,12,13],[2,3,4,5,6,7,8,9,10,11,12,13,14],[0,1,2,3,4,5,6,7,8,9,10,11,12,13,14,15],[0,1,2,3,4,5,6,7,8,9,10,11,12,13,14,15,16],[0,1,2,3,4,5,6,7,8,9,10,11,12,13,14,15,16,17]] mixed Z (Cq (AJ [3] [] Z Z (fun _=>AG (A4 Z Ho Z Z Z)) (Av [24] Z Z (fun _=>AG (A9 Z Z Z XX Z)) ?_))))));refine AJ [1] [] Z Z (fun _=>AG (A4 Z QN Z Z Z)) (Av [26] Z Z (fun _=>AG (A9 Z Z Z on90 Z)) (AJ [4] [] Z Z (fun _=>AG (Ak Z Z)) (AJ [27,28] [] Z Z (fun _=>AG (Be (acc.length) Z Z (Z) (Ah hk1) Tryz.underlying90 Z sz192 Z)) (AJ [29] [] Z Z (fun _=>AG (Dc Z fi192_0 Z Z Z)) (AJ [30] [] Z Z (fun _=>AG (HE Z Z rw96 Z)) (AJ [1] [] Z Z (fun _=>AG (A4 Z QN Z Z Z)) (Av [32] Z Z (fun _=>AG (A9 Z Z Z on90 Z)) (AJ [4] [] Z Z (fun _=>AG (Ak Z Z)) ?_))))))));refine AJ [33,34] [] Z Z (fun _=>AG (Be (acc.length) Z Z (Z) (Ah hk1) Tryz.underlying90 Z sz192 Z)) (AJ [35] [] Z Z (fun _=>AG (Zcf Z fi192_1 Z Z Z)) (AJ [36] [] Z Z (fun _=>AG (Cr Z Z Ke Z)) (AJ [31,37] [] Z Z (fun _=>AG (FZ O0 Zq Z Z Z)) (Gv [38] [5] [(39,_)] Z Z (fun _=>Gw (D7 5 XB Z Z Z Z Z Z Z Z)) (.inr ⟨39,_,Z,Z,Z,Z,Z⟩) Z Z Z Z Z (C5 16 Z Z Z (Af 17 Z Z (V (Hz (acc) ([i.po[acc.length]]) Z Z Z Z Z Z Z Z XB (by simp only [Φ];omega) Z Z Z Z) (AD ⟨Z,?_⟩))))))));refine Af 18 Z Z (J (A4 Z Ho Z Z Z) (AD ⟨Z,?_⟩));refine Af 19 Z Z (V (Bi Z Z Z Z Z Z Z sz52) (AD ⟨Z,?_⟩));refine C9 (AE (goMv Z Z (J (BA Z Z (Qt acc i.po[acc.length] (by omega)) Z) (AB Z Z (AD ?_)))));exact ⟨acc++ [i.po[acc.length]],⟨Lm hI hk1,by rw [Δ];show acc.length+1≤_;omega⟩,by rw [Δ];show i.po.length - (acc.length+1)<i.po.length - acc.length;omega,A1 hF [901,1,2,4] Z (Z) ⟨Z,Z,Z,Z,trivial⟩⟩
 ·refine BF (AC (AC ?_));have hacc:=Pg hI (fun h=>h21 (by omega));refine Du (ys:=i.po.map CG) 4 0 3 901 Z Z Z (by simp) (by rw [hacc];exact Θ (by simp)) Z Z Z Z Z Z (ER 4 0 4 902 ZO Z Z Z Z Z Z Z (AE (AB Z Z (AD (A5 (B7 (α:=List OF) (fun acc2=>⟨60,[(1,(.ptr 1 0 0)),(2,(.ptr 2 0 0)),(3,(.ptr 4 0 0)),(5,(.d (AF (acc2.length:Int))))],[(902,[.rowD 161 3 (acc2.map Fm)]),(1,[.blk 93 [.d (AF i.id),.d (AF i.pr),.d (AF i.sq),.d (.sl none (i.po.map CG)),.d (.sl none (i.pa.map Fm)),.d (.sl none (i.af.map AF))]]),(2,[.blk 55 [.d (AF 0),.d (AF 0),.d (AF 0),I8,I8,I8]]),(4,[.blk 55 [.d (AF i.id),.d (AF i.pr),.d (AF i.sq),.d (.sl none (i.po.map CG)),.own 902 0 acc2.length,.d (.sl none (i.af.map AF))]])]⟩) (fun acc2=>acc2=i.pa.take acc2.length∧acc2.length≤i.pa.length) (fun acc2=>i.pa.length - acc2.length) ([]) (⟨by simp,ς _⟩) (A1 hF [902,1,2,4] Z Z ⟨Z,Z,Z,Z,trivial⟩) ?_))))));rintro acc2 ⟨hJ,hk2⟩;refine AC ?_;refine AC (AE (goMv Z Z (J (A4 Z U8 Z Z Z) (J (A9 Z Z Z on91 Z) (J (CO Z Tryz.underlying91 Z) (J (BR Z Z Z) (AD (Ae Z (fun h46=>?_) (fun h46=>?_)))))))))
  ·have hk3:acc2.length<i.pa.length:=Bf h46;refine A3 (AC (A5 (Ch [[],[0],[],[2],[],[2,3,4],[2,3,4,5],[2,3,4,5,6],[0,1,2,3,4,5,6,7],[0,1,2,3,4,5,6,7,8],[0,1,2,3,4,5,6,7,8,9]] mixed Z (Cq (AJ [3] [] Z Z (fun _=>AG (A4 Z JC Z Z Z)) (Av [49] Z Z (fun _=>AG (A9 Z Z Z aA Z)) (AJ [1] [] Z Z (fun _=>AG (A4 Z U8 Z Z Z)) ?_)))))));refine Av [51] Z Z (fun _=>AG (A9 Z Z Z on91 Z)) (AJ [5] [] Z Z (fun _=>AG (Ak Z Z)) (AJ [52,53] [] Z Z (fun _=>AG (Be (acc2.length) Z Z (Z) (Ah hk3) Tryz.underlying91 Z sz193 Z)) (AJ [54] [] Z Z (fun _=>AG (HE Z Z rw193 Z)) (Gv [55] [6] [(56,_)] Z Z (fun _=>Gw (D7 6 ZO Z Z Z Z Z Z Z Z)) (.inr ⟨56,_,Z,Z,Z,Z,Z⟩) Z Z Z Z Z (C5 8 Z Z Z (Af 9 Z Z (V (Hz (acc2) ([i.pa[acc2.length]]) Z Z Z Z Z Z Z Z ZO (by simp only [Φ];omega) Z Z Z Z) (AD ⟨Z,?_⟩))))))));refine Af 10 Z Z (J (A4 Z JC Z Z Z) (AD ⟨Z,?_⟩));refine Af 11 Z Z (V (Bi Z Z Z Z Z Z Z sz53) (AD ⟨Z,?_⟩));refine C9 (AE (goMv Z Z (J (BA Z Z (Qt acc2 i.pa[acc2.length] (by omega)) Z) (AB Z Z (AD ?_)))));exact ⟨acc2++ [i.pa[acc2.length]],⟨Lm hJ hk3,by rw [Δ];show acc2.length+1≤_;omega⟩,by rw [Δ];show i.pa.length - (acc2.length+1)<i.pa.length - acc2.length;omega,A1 hF [902,1,2,4] Z (Z) ⟨Z,Z,Z,Z,trivial⟩⟩
  ·refine BF (AC ?_);have hacc2:=Pg hJ (fun h=>h46 (by omega));refine Du (ys:=i.pa.map Fm) 4 0 4 902 Z Z Z (by simp) (by rw [hacc2];exact Θ (by simp)) Z Z Z Z Z Z (AE (J (BM Z Z CC Z Z Z) (V (Bi Z Z Z Z Z Z Z Ck) (AD (A8 ?_)))));exact ⟨_,[],[],A6 Z,Z,Z,Z,Z⟩
def pd (r:AP) (p:FQ):Int:=if p.acc=r.acc then p.d else 0
theorem Sv {l:List (AP×Int)} {r:AP} (h:∀x∈l,x.1≠r):Ap l r=0:=by
 induction l with
 | nil=>rfl
 | cons x l ih=>
  have h1:=h x (by simp);have h2:=ih fun y hy=>h y (by simp [hy]);simp only [Ap,ωm,φb] at h2⊢;rw [ϑ h1,h2];rfl
theorem O6 {α:Type} {l:List α} {f:α ->Int} {B:Int} (h:∀x∈l,-B≤f x∧f x≤B) (n:Nat) (hn:l.length≤n) (hB:0≤B): -(n*B)≤(l.map f).sum∧(l.map f).sum≤n*B:=by
 induction l generalizing n with
 | nil=>have:=Int.mul_nonneg (Int.natCast_nonneg n) hB;simp only [List.map_nil,List.sum_nil];omega
 | cons x l ih=>
  obtain ⟨m,rfl⟩:∃m,n=m+1:=⟨n - 1,by simp at hn;omega⟩
  have h1:=ih (fun y hy=>h y (by simp [hy])) m (by simpa using hn);have h2:=h x (by simp);have e:((m+1:Nat):Int)*B=m*B+B:=by rw [Int.natCast_succ,Int.add_mul,Int.one_mul]
  rw [e,ωm,φb];omega
deriving instance DecidableEq for FQ
deriving instance DecidableEq for OF
deriving instance DecidableEq for AK
deriving instance DecidableEq for A2
theorem FQ.eq_iff {x y:FQ}:x=y↔x.acc=y.acc∧x.d=y.d:=by cases x;cases y;simp
theorem OF.eq_iff {x y:OF}:x=y↔x.f=y.f∧x.t=y.t∧x.n=y.n:=by cases x;cases y;simp
theorem A2.eq_iff {x y:A2}:x=y↔x.r=y.r∧x.n=y.n:=by cases x;cases y;simp
theorem AK.eq_iff {x y:AK}:x=y↔x.id=y.id∧x.pr=y.pr∧x.sq=y.sq∧x.po=y.po∧x.pa=y.pa∧x.af=y.af:=by cases x;cases y;simp
theorem GN {α:Type} {p:α ->Bool} {l:List α} {k:Nat} (hk:k<l.length):(l.take (k+1)).filter p=(l.take k).filter p++(if p l[k] then [l[k]] else []):=by
 rw [φ hk,ψa]
 congr 1
 rw [φh,List.filter_nil]
end Go.Proofs.YteifpcnphnhaoaaGreat
