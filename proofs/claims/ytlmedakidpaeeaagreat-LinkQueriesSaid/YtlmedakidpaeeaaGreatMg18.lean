/- The kit's contract of slices.SortFunc laid at this program: the renumbering and its facts. Made by program (lays.py). -/
import Derived.Test.YtlmedakidpaeeaaGreatMg17
import Derived.Shelf.SlLaysF0
import Derived.Shelf.SlLaysNS
import Derived.Test.YtlmedakidpaeeaaGreatProg
namespace Go.Proofs.YtlmedakidpaeeaaGreat
open Go.Shelf Go.Proofs Go.Proofs.Tryz
def renK:Go.Shelf.Ren:=⟨fun x=>match x with
 | 6=>42
 | 15=>59
 | 14=>58
 | 28=>77
 | 29=>78
 | 20=>69
 | 21=>70
 | 22=>71
 | 23=>72
 | 24=>73
 | 25=>74
 | 26=>75
 | 27=>76
 | 46=>99
 | 47=>100
 | 48=>101
 | 49=>102
 | 50=>103
 | 57=>110
 | x=>x,
 fun x=>match x with
 | 22=>32
 | 24=>42
 | 25=>71
 | 3=>3
 | 39=>108
 | 0=>0
 | 53=>125
 | 55=>127
 | 4=>4
 | 46=>119
 | 45=>118
 | 50=>91
 | 5=>5
 | 9=>9
 | 66=>142
 | 70=>146
 | 76=>152
 | 77=>153
 | x=>x,fun x=>x⟩
theorem laysK:SlLaysF0.n6 Tryz.prog renK where
 mixed:=rfl
 f6:=⟨Tryz.f42.name,by decide,Tryz.func42.trans (congrArg some (by kernel_rfl))⟩
 f14:=⟨Tryz.f58.name,by decide,Tryz.func58.trans (congrArg some (by kernel_rfl))⟩
 f15:=Tryz.func59.trans (congrArg some (by kernel_rfl))
 f20:=⟨Tryz.f69.name,by decide,Tryz.func69.trans (congrArg some (by kernel_rfl))⟩
 f21:=⟨Tryz.f70.name,by decide,Tryz.func70.trans (congrArg some (by kernel_rfl))⟩
 f22:=⟨Tryz.f71.name,by decide,Tryz.func71.trans (congrArg some (by kernel_rfl))⟩
 f23:=⟨Tryz.f72.name,by decide,Tryz.func72.trans (congrArg some (by kernel_rfl))⟩
 f24:=⟨Tryz.f73.name,by decide,Tryz.func73.trans (congrArg some (by kernel_rfl))⟩
 f25:=⟨Tryz.f74.name,by decide,Tryz.func74.trans (congrArg some (by kernel_rfl))⟩
 f26:=⟨Tryz.f75.name,by decide,Tryz.func75.trans (congrArg some (by kernel_rfl))⟩
 f27:=⟨Tryz.f76.name,by decide,Tryz.func76.trans (congrArg some (by kernel_rfl))⟩
 f28:=Tryz.func77.trans (congrArg some (by kernel_rfl))
 f29:=Tryz.func78.trans (congrArg some (by kernel_rfl))
 f46:=⟨Tryz.f99.name,by decide,Tryz.func99.trans (congrArg some (by kernel_rfl))⟩
 f47:=Tryz.func100.trans (congrArg some (by kernel_rfl))
 f48:=Tryz.func101.trans (congrArg some (by kernel_rfl))
 f49:=⟨Tryz.f102.name,by decide,Tryz.func102.trans (congrArg some (by kernel_rfl))⟩
 f50:=⟨Tryz.f103.name,by decide,Tryz.func103.trans (congrArg some (by kernel_rfl))⟩
 f57:=⟨Tryz.f110.name,by decide,Tryz.func110.trans (congrArg some (by kernel_rfl))⟩
 t0:=Tryz.underlying0
 a0:=Tryz.isAgg0
 z0:=Tryz.sizeOf0
 v0:=Tryz.zeroValue0
 t3:=Tryz.underlying3
 a3:=Tryz.isAgg3
 z3:=Tryz.sizeOf3
 v3:=Tryz.zeroValue3
 t4:=Tryz.underlying4
 a4:=Tryz.isAgg4
 z4:=Tryz.sizeOf4
 v4:=Tryz.zeroValue4
 t5:=Tryz.underlying5
 a5:=Tryz.isAgg5
 z5:=Tryz.sizeOf5
 v5:=Tryz.zeroValue5
 t9:=Tryz.underlying9
 a9:=Tryz.isAgg9
 z9:=Tryz.sizeOf9
 v9:=Tryz.zeroValue9
 t22:=Tryz.underlying32
 a22:=Tryz.isAgg32
 z22:=Tryz.sizeOf32
 v22:=Tryz.zeroValue32
 t25:=Tryz.underlying71
 a25:=Tryz.isAgg71
 z25:=Tryz.sizeOf71
 v25:=Tryz.zeroValue71
 t39:=Tryz.underlying108
 a39:=Tryz.isAgg108
 z39:=Tryz.sizeOf108
 v39:=Tryz.zeroValue108
 t45:=Tryz.underlying118
 a45:=Tryz.isAgg118
 z45:=Tryz.sizeOf118
 v45:=Tryz.zeroValue118
 t46:=Tryz.underlying119
 a46:=Tryz.isAgg119
 z46:=Tryz.sizeOf119
 v46:=Tryz.zeroValue119
 t50:=Tryz.underlying91
 a50:=Tryz.isAgg91
 z50:=Tryz.sizeOf91
 v50:=Tryz.zeroValue91
 t53:=Tryz.underlying125
 a53:=Tryz.isAgg125
 z53:=Tryz.sizeOf125
 v53:=Tryz.zeroValue125
 t55:=Tryz.underlying127
 a55:=Tryz.isAgg127
 z55:=Tryz.sizeOf127
 v55:=Tryz.zeroValue127
 t66:=Tryz.underlying142
 a66:=Tryz.isAgg142
 z66:=Tryz.sizeOf142
 v66:=Tryz.zeroValue142
 t70:=Tryz.underlying146
 a70:=Tryz.isAgg146
 z70:=Tryz.sizeOf146
 v70:=Tryz.zeroValue146
 t76:=Tryz.underlying152
 a76:=Tryz.isAgg152
 z76:=Tryz.sizeOf152
 v76:=Tryz.zeroValue152
 t77:=Tryz.underlying153
 a77:=Tryz.isAgg153
 z77:=Tryz.sizeOf153
 v77:=Tryz.zeroValue153
def renS:Go.Shelf.Ren:=⟨fun x=>match x with
 | 53=>54
 | 64=>59
 | 63=>65
 | 78=>77
 | 79=>78
 | 70=>89
 | 71=>90
 | 72=>91
 | 73=>92
 | 74=>93
 | 75=>94
 | 59=>95
 | 76=>96
 | 77=>97
 | 88=>107
 | 89=>100
 | 90=>101
 | 91=>108
 | 92=>109
 | 68=>44
 | 96=>112
 | x=>x,
 fun x=>match x with
 | 22=>52
 | 23=>3
 | 3=>3
 | 51=>108
 | 0=>0
 | 67=>125
 | 69=>127
 | 4=>4
 | 61=>119
 | 60=>118
 | 44=>91
 | 5=>5
 | 9=>9
 | 75=>142
 | 79=>146
 | 83=>152
 | 84=>153
 | x=>x,fun x=>x⟩
theorem Rd:SlLaysN.n53 Tryz.prog renS where
 mixed:=rfl
 f53:=⟨Tryz.f54.name,by decide,Tryz.func54.trans (congrArg some (by kernel_rfl))⟩
 f59:=⟨Tryz.f95.name,by decide,Tryz.func95.trans (congrArg some (by kernel_rfl))⟩
 f63:=⟨Tryz.f65.name,by decide,Tryz.func65.trans (congrArg some (by kernel_rfl))⟩
 f64:=Tryz.func59.trans (congrArg some (by kernel_rfl))
 f68:=⟨Tryz.f44.name,by decide,Tryz.func44.trans (congrArg some (by kernel_rfl))⟩
 f70:=⟨Tryz.f89.name,by decide,Tryz.func89.trans (congrArg some (by kernel_rfl))⟩
 f71:=⟨Tryz.f90.name,by decide,Tryz.func90.trans (congrArg some (by kernel_rfl))⟩
 f72:=⟨Tryz.f91.name,by decide,Tryz.func91.trans (congrArg some (by kernel_rfl))⟩
 f73:=⟨Tryz.f92.name,by decide,Tryz.func92.trans (congrArg some (by kernel_rfl))⟩
 f74:=⟨Tryz.f93.name,by decide,Tryz.func93.trans (congrArg some (by kernel_rfl))⟩
 f75:=⟨Tryz.f94.name,by decide,Tryz.func94.trans (congrArg some (by kernel_rfl))⟩
 f76:=⟨Tryz.f96.name,by decide,Tryz.func96.trans (congrArg some (by kernel_rfl))⟩
 f77:=⟨Tryz.f97.name,by decide,Tryz.func97.trans (congrArg some (by kernel_rfl))⟩
 f78:=Tryz.func77.trans (congrArg some (by kernel_rfl))
 f79:=Tryz.func78.trans (congrArg some (by kernel_rfl))
 f88:=⟨Tryz.f107.name,by decide,Tryz.func107.trans (congrArg some (by kernel_rfl))⟩
 f89:=Tryz.func100.trans (congrArg some (by kernel_rfl))
 f90:=Tryz.func101.trans (congrArg some (by kernel_rfl))
 f91:=⟨Tryz.f108.name,by decide,Tryz.func108.trans (congrArg some (by kernel_rfl))⟩
 f92:=⟨Tryz.f109.name,by decide,Tryz.func109.trans (congrArg some (by kernel_rfl))⟩
 f96:=⟨Tryz.f112.name,by decide,Tryz.func112.trans (congrArg some (by kernel_rfl))⟩
 t0:=Tryz.underlying0
 a0:=Tryz.isAgg0
 z0:=Tryz.sizeOf0
 v0:=Tryz.zeroValue0
 t3:=Tryz.underlying3
 a3:=Tryz.isAgg3
 z3:=Tryz.sizeOf3
 v3:=Tryz.zeroValue3
 t4:=Tryz.underlying4
 a4:=Tryz.isAgg4
 z4:=Tryz.sizeOf4
 v4:=Tryz.zeroValue4
 t5:=Tryz.underlying5
 a5:=Tryz.isAgg5
 z5:=Tryz.sizeOf5
 v5:=Tryz.zeroValue5
 t9:=Tryz.underlying9
 a9:=Tryz.isAgg9
 z9:=Tryz.sizeOf9
 v9:=Tryz.zeroValue9
 t22:=Tryz.underlying52
 a22:=Tryz.isAgg52
 z22:=Tryz.sizeOf52
 v22:=Tryz.zeroValue52
 t23:=Tryz.underlying3
 a23:=Tryz.isAgg3
 z23:=Tryz.sizeOf3
 v23:=Tryz.zeroValue3
 t44:=Tryz.underlying91
 a44:=Tryz.isAgg91
 z44:=Tryz.sizeOf91
 v44:=Tryz.zeroValue91
 t51:=Tryz.underlying108
 a51:=Tryz.isAgg108
 z51:=Tryz.sizeOf108
 v51:=Tryz.zeroValue108
 t60:=Tryz.underlying118
 a60:=Tryz.isAgg118
 z60:=Tryz.sizeOf118
 v60:=Tryz.zeroValue118
 t61:=Tryz.underlying119
 a61:=Tryz.isAgg119
 z61:=Tryz.sizeOf119
 v61:=Tryz.zeroValue119
 t67:=Tryz.underlying125
 a67:=Tryz.isAgg125
 z67:=Tryz.sizeOf125
 v67:=Tryz.zeroValue125
 t69:=Tryz.underlying127
 a69:=Tryz.isAgg127
 z69:=Tryz.sizeOf127
 v69:=Tryz.zeroValue127
 t75:=Tryz.underlying142
 a75:=Tryz.isAgg142
 z75:=Tryz.sizeOf142
 v75:=Tryz.zeroValue142
 t79:=Tryz.underlying146
 a79:=Tryz.isAgg146
 z79:=Tryz.sizeOf146
 v79:=Tryz.zeroValue146
 t83:=Tryz.underlying152
 a83:=Tryz.isAgg152
 z83:=Tryz.sizeOf152
 v83:=Tryz.zeroValue152
 t84:=Tryz.underlying153
 a84:=Tryz.isAgg153
 z84:=Tryz.sizeOf153
 v84:=Tryz.zeroValue153
def renT:Go.Shelf.Ren:=⟨fun x=>match x with
 | 54=>50
 | 64=>59
 | 65=>62
 | 78=>77
 | 79=>78
 | 80=>80
 | 81=>81
 | 82=>82
 | 83=>83
 | 84=>84
 | 85=>85
 | 61=>86
 | 86=>87
 | 87=>88
 | 93=>104
 | 89=>100
 | 90=>101
 | 94=>105
 | 95=>106
 | 69=>45
 | 97=>111
 | x=>x,
 fun x=>match x with
 | 25=>25
 | 26=>9
 | 3=>3
 | 51=>108
 | 0=>0
 | 67=>125
 | 69=>127
 | 4=>4
 | 61=>119
 | 60=>118
 | 44=>91
 | 5=>5
 | 9=>9
 | 75=>142
 | 79=>146
 | 83=>152
 | 84=>153
 | x=>x,fun x=>x⟩
theorem Og:SlLaysN.n54 Tryz.prog renT where
 mixed:=rfl
 f54:=⟨Tryz.f50.name,by decide,Tryz.func50.trans (congrArg some (by kernel_rfl))⟩
 f61:=⟨Tryz.f86.name,by decide,Tryz.func86.trans (congrArg some (by kernel_rfl))⟩
 f64:=Tryz.func59.trans (congrArg some (by kernel_rfl))
 f65:=⟨Tryz.f62.name,by decide,Tryz.func62.trans (congrArg some (by kernel_rfl))⟩
 f69:=⟨Tryz.f45.name,by decide,Tryz.func45.trans (congrArg some (by kernel_rfl))⟩
 f78:=Tryz.func77.trans (congrArg some (by kernel_rfl))
 f79:=Tryz.func78.trans (congrArg some (by kernel_rfl))
 f80:=⟨Tryz.f80.name,by decide,Tryz.func80.trans (congrArg some (by kernel_rfl))⟩
 f81:=⟨Tryz.f81.name,by decide,Tryz.func81.trans (congrArg some (by kernel_rfl))⟩
 f82:=⟨Tryz.f82.name,by decide,Tryz.func82.trans (congrArg some (by kernel_rfl))⟩
 f83:=⟨Tryz.f83.name,by decide,Tryz.func83.trans (congrArg some (by kernel_rfl))⟩
 f84:=⟨Tryz.f84.name,by decide,Tryz.func84.trans (congrArg some (by kernel_rfl))⟩
 f85:=⟨Tryz.f85.name,by decide,Tryz.func85.trans (congrArg some (by kernel_rfl))⟩
 f86:=⟨Tryz.f87.name,by decide,Tryz.func87.trans (congrArg some (by kernel_rfl))⟩
 f87:=⟨Tryz.f88.name,by decide,Tryz.func88.trans (congrArg some (by kernel_rfl))⟩
 f89:=Tryz.func100.trans (congrArg some (by kernel_rfl))
 f90:=Tryz.func101.trans (congrArg some (by kernel_rfl))
 f93:=⟨Tryz.f104.name,by decide,Tryz.func104.trans (congrArg some (by kernel_rfl))⟩
 f94:=⟨Tryz.f105.name,by decide,Tryz.func105.trans (congrArg some (by kernel_rfl))⟩
 f95:=⟨Tryz.f106.name,by decide,Tryz.func106.trans (congrArg some (by kernel_rfl))⟩
 f97:=⟨Tryz.f111.name,by decide,Tryz.func111.trans (congrArg some (by kernel_rfl))⟩
 t0:=Tryz.underlying0
 a0:=Tryz.isAgg0
 z0:=Tryz.sizeOf0
 v0:=Tryz.zeroValue0
 t3:=Tryz.underlying3
 a3:=Tryz.isAgg3
 z3:=Tryz.sizeOf3
 v3:=Tryz.zeroValue3
 t4:=Tryz.underlying4
 a4:=Tryz.isAgg4
 z4:=Tryz.sizeOf4
 v4:=Tryz.zeroValue4
 t5:=Tryz.underlying5
 a5:=Tryz.isAgg5
 z5:=Tryz.sizeOf5
 v5:=Tryz.zeroValue5
 t9:=Tryz.underlying9
 a9:=Tryz.isAgg9
 z9:=Tryz.sizeOf9
 v9:=Tryz.zeroValue9
 t25:=Tryz.underlying25
 a25:=Tryz.isAgg25
 z25:=Tryz.sizeOf25
 v25:=Tryz.zeroValue25
 t26:=Tryz.underlying9
 a26:=Tryz.isAgg9
 z26:=Tryz.sizeOf9
 v26:=Tryz.zeroValue9
 t44:=Tryz.underlying91
 a44:=Tryz.isAgg91
 z44:=Tryz.sizeOf91
 v44:=Tryz.zeroValue91
 t51:=Tryz.underlying108
 a51:=Tryz.isAgg108
 z51:=Tryz.sizeOf108
 v51:=Tryz.zeroValue108
 t60:=Tryz.underlying118
 a60:=Tryz.isAgg118
 z60:=Tryz.sizeOf118
 v60:=Tryz.zeroValue118
 t61:=Tryz.underlying119
 a61:=Tryz.isAgg119
 z61:=Tryz.sizeOf119
 v61:=Tryz.zeroValue119
 t67:=Tryz.underlying125
 a67:=Tryz.isAgg125
 z67:=Tryz.sizeOf125
 v67:=Tryz.zeroValue125
 t69:=Tryz.underlying127
 a69:=Tryz.isAgg127
 z69:=Tryz.sizeOf127
 v69:=Tryz.zeroValue127
 t75:=Tryz.underlying142
 a75:=Tryz.isAgg142
 z75:=Tryz.sizeOf142
 v75:=Tryz.zeroValue142
 t79:=Tryz.underlying146
 a79:=Tryz.isAgg146
 z79:=Tryz.sizeOf146
 v79:=Tryz.zeroValue146
 t83:=Tryz.underlying152
 a83:=Tryz.isAgg152
 z83:=Tryz.sizeOf152
 v83:=Tryz.zeroValue152
 t84:=Tryz.underlying153
 a84:=Tryz.isAgg153
 z84:=Tryz.sizeOf153
 v84:=Tryz.zeroValue153
end Go.Proofs.YtlmedakidpaeeaaGreat
/- slices.Compact at integers, over a row of a region. -/
namespace Go.Proofs.YtlmedakidpaeeaaGreat
open Go.RowKit
set_option maxRecDepth 100000
def Py (l:List Nat) (i:Nat):Prop:=i=0∨CO l i≠CO l (i - 1)
instance (l:List Nat) (i:Nat):Decidable (Py l i):=inferInstanceAs (Decidable (_∨_))
def EN (l:List Nat) (j:Nat):List Nat:=((List.range j).filter fun i=>decide (Py l i)).map (CO l)
theorem Ky (l:List Nat) (j:Nat):EN l (j+1)=EN l j++if Py l j then [CO l j] else []:=by
 unfold EN;rw [List.range_succ,List.filter_append,List.map_append]
 congr 1
 by_cases h:Py l j
 ·rw [if_pos h,List.filter_cons_of_pos (by simpa using h)];rfl
 ·rw [if_neg h,List.filter_cons_of_neg (by simpa using h)];rfl
theorem Lo {l:List Nat} {j:Nat} (h:Py l j):EN l (j+1)=EN l j++ [CO l j]:=by rw [Ky,if_pos h]
theorem NR {l:List Nat} {j:Nat} (h:¬Py l j):EN l (j+1)=EN l j:=by rw [Ky,if_neg h,List.append_nil]
theorem cptK_le (l:List Nat) (j:Nat):(EN l j).length≤j:=by
 unfold EN;rw [List.length_map];exact Nat.le_trans (List.length_filter_le _ _) (by simp)
theorem MC {l:List Nat} {k:Nat} (h:k<l.length):l.take (k+1)=l.take k++ [CO l k]:=by rw [List.take_succ_eq_append_getElem h,Cb h]
theorem SI {l:List Nat} (h:l.length≤1):EN l l.length=l:=by
 match l,h with
 | [],_=>rfl
 | [a],_=>rfl
theorem Ml {c l:List Nat} {k j:Nat} (h:c.drop k=l.drop k) (hj:k≤j):CO c j=CO l j:=by
 have e:(c.drop k)[j - k]? =(l.drop k)[j - k]?:=by rw [h]
 rw [List.getElem?_drop,List.getElem?_drop,show k+(j - k)=j by omega] at e;unfold CO;rw [List.getD_eq_getElem?_getD,List.getD_eq_getElem?_getD,e]
structure CQ (l c:List Nat) (j q:Nat):Prop where
 len:c.length=l.length
 jl:j≤l.length
 q1:q+1≤j
 tk:c.take q=EN l j
 dr:c.drop (j - 1)=l.drop (j - 1)
theorem CQ.start {l:List Nat} {k:Nat} (h1:k<l.length) (h0:0<k) (h:EN l k=l.take k) (he:CO l k=CO l (k - 1)):CQ l l (k+1) k:=
 ⟨rfl,by omega,Nat.le_refl _,by rw [NR (fun h=>h.elim (fun e=>by omega) fun e=>e he),h],rfl⟩
theorem CQ.get {l c:List Nat} {j q:Nat} (h:CQ l c j q):CO c j=CO l j∧CO c (j - 1)=CO l (j - 1):=⟨Ml h.dr (by omega),Ml h.dr (Nat.le_refl _)⟩
theorem CQ.drop {l c:List Nat} {j q:Nat} (h:CQ l c j q) (hj:j<l.length) (he:CO c j=CO c (j - 1)):CQ l c (j+1) q:=by
 have hq:=h.q1;obtain ⟨g1,g2⟩:=h.get;refine ⟨h.len,by omega,by omega,by rw [h.tk,NR (fun hc=>hc.elim (fun e=>by omega) fun e=>e (by rw [←g1,←g2];exact he))],?_⟩;have:=congrArg (List.drop 1) h.dr
 rwa [List.drop_drop,List.drop_drop,show j - 1+1=j by omega] at this
theorem CQ.keep {l c:List Nat} {j q:Nat} (h:CQ l c j q) (hj:j<l.length) (he:CO c j≠CO c (j - 1)):CQ l (c.set q (CO c j)) (j+1) (q+1):=by
 have hq:=h.q1;have hl:=h.len;obtain ⟨g1,g2⟩:=h.get;refine ⟨by rw [List.length_set];exact h.len,by omega,by omega,?_,?_⟩
 ·rw [Lo (.inr (by rw [←g1,←g2];exact he)),←h.tk,←g1,List.take_succ_eq_append_getElem (by rw [List.length_set];omega),List.take_set,List.getElem_set_self];rw [List.set_eq_of_length_le (by rw [List.length_take];exact Nat.min_le_left _ _)]
 ·rw [Nat.add_sub_cancel,List.drop_set,if_pos (by omega)];have:=congrArg (List.drop 1) h.dr
  rwa [List.drop_drop,List.drop_drop,show j - 1+1=j by omega] at this
theorem Hk {M:MF} {b:Nat} {m:A7} (h:M b=some m):BU M b m=M:=by
 funext i;unfold BU;split
 ·rename_i e;rw [e,h]
 ·rfl
theorem Mr (M:MF) (b:Nat) (m m':A7):BU (BU M b m) b m'=BU M b m':=by
 funext i;unfold BU;split<;>rfl
theorem Md (l:List Nat):∀x∈l.map natD,x.one=true:=fun x hx=>by obtain ⟨a,_,rfl⟩:=List.mem_map.1 hx;rfl
theorem O2 {α:Type}:∀(z c:List α) (q j:Nat),j<q ->(setL c q z)[j]? =c[j]?
 | [],_,_,_,_=>rfl
 | v::r,c,q,j,h=>by
  unfold setL;rw [O2 r _ _ _ (by omega),List.getElem?_set_ne (by omega)]
theorem SK {c:List Nat} {q:Nat} {z:List D} (h:q≤c.length):(setL (c.map natD) q z).take q=(c.take q).map natD:=by
 apply List.ext_getElem?
 intro j
 by_cases hj:j<q
 ·rw [List.getElem?_take_of_lt hj,List.getElem?_map,List.getElem?_take_of_lt hj,←List.getElem?_map];exact O2 _ _ _ _ hj
 ·rw [List.getElem?_eq_none (by rw [List.length_take,OX];omega),List.getElem?_eq_none (by rw [List.length_map,List.length_take];omega)]
theorem Pz (l:List Nat) (b cap:Nat) (M:MF) (hl:l.length≤100000000) (hc:l.length≤cap) (hM:M b=some (.row 3 1 cap (l.map natD))):
  AQ Tryz.prog 63 [.d (.raw (sV b l.length cap))] [(40,[.multi M])] fun r H'=>r= .d (.raw (sV b (EN l l.length).length cap))∧H'=[(40,[.multi (BU M b (.row 3 1 cap ((EN l l.length).map natD)))])]:=by
 by_cases hs:l.length≤1
 ·rw [SI hs,Hk hM];refine CP Tryz.func63 Z Z Tryz.ntmps63 Z Z Z fun F hF=>(AE (AH (AD Z Z (AF (AE (AE (AH (AC Z Z ?_))))))))
  first | refine J (IB rfl Tryz.underlying52 rfl) ?_ | refine J (Bs Z Z Tryz.underlying52 rfl) ?_ | refine J (IE rfl Tryz.underlying52 rfl) ?_ | refine J (IG rfl Tryz.underlying52 rfl) ?_ | refine J (ID rfl Tryz.underlying52 rfl) ?_ | refine J (H4 rfl Tryz.underlying52 rfl) ?_
  first | refine J (D3 Z Z Z) ?_ | refine J (D4 Z Z Z) ?_
  refine AF (IH rfl (decide_eq_true (by omega)) (AE (AH (AC Z Z (AD Z Z (AF (Aq ?_)))))));exact ⟨_,[40],_,An rfl,rfl,rfl,rfl,rfl⟩
 ·skip;refine CP Tryz.func63 Z Z Tryz.ntmps63 Z Z Z fun F hF=>(AE (AH (AD Z Z (AF (AE (AE (AH (AC Z Z ?_))))))))
  first | refine J (IB rfl Tryz.underlying52 rfl) ?_ | refine J (Bs Z Z Tryz.underlying52 rfl) ?_ | refine J (IE rfl Tryz.underlying52 rfl) ?_ | refine J (IG rfl Tryz.underlying52 rfl) ?_ | refine J (ID rfl Tryz.underlying52 rfl) ?_ | refine J (H4 rfl Tryz.underlying52 rfl) ?_
  first | refine J (D3 Z Z Z) ?_ | refine J (D4 Z Z Z) ?_
  refine AF ?_;refine DM rfl (decide_eq_false (by omega)) (Ai (AE (AE (AH (AD Z Z (AF (BH (Db (α:=Nat) (fun k=>⟨61,[(0,.d (.raw (sV b l.length cap))),(3,(.d (natD k)))],[(40,[.multi M])]⟩) (fun k=>1≤k∧k≤l.length∧EN l k=l.take k) (fun k=>l.length - k) (1) (⟨Nat.le_refl _,by omega,by rw [Lo (.inl rfl),MC (by omega)];rfl⟩) (At hF [40] Z Z ⟨rfl,rfl,trivial⟩) ?_))))))));rintro k ⟨hk1,hk,hck⟩;refine AE (AE (AH (AC Z Z (AC Z Z ?_))))
  first | refine J (IB rfl Tryz.underlying52 rfl) ?_ | refine J (Bs Z Z Tryz.underlying52 rfl) ?_ | refine J (IE rfl Tryz.underlying52 rfl) ?_ | refine J (IG rfl Tryz.underlying52 rfl) ?_ | refine J (ID rfl Tryz.underlying52 rfl) ?_ | refine J (H4 rfl Tryz.underlying52 rfl) ?_
  first | refine J (D3 Z Z Z) ?_ | refine J (D4 Z Z Z) ?_
  refine AF ?_
  first | refine Az rfl (fun h13=>?_) (fun h13=>?_) | refine Aw rfl (fun h13=>?_) (fun h13=>?_)
  ·refine Ai (AE (BH (AE ?_)));have hkl:k<l.length:=F1 h13;refine FK [[],[],[0,1],[0,1,2],[],[],[5],[4,5,6],[4,5,6,7],[0,1,2,3,4,5,6,7,8]] mixed rfl (D1 ?_)
   first | refine AG [0] [] Z Z (fun _=>AB (A8 Z Z)) ?_ | refine AI [0] Z Z (fun _=>AB (A8 Z Z)) ?_
   first | refine AG [3] [] Z Z (fun _=>AB (A8 Z Z)) ?_ | refine AI [3] Z Z (fun _=>AB (A8 Z Z)) ?_
   first | refine AG [16,17] [] Z Z (fun _=>AB (E3 (k) Z Z (rfl) (hkl) Tryz.underlying52 Dn rfl)) ?_ | refine AI [16,17] Z Z (fun _=>AB (E3 (k) Z Z (rfl) (hkl) Tryz.underlying52 Dn rfl)) ?_
   first | refine AG [18] [] Z Z (fun _=>AB (Zcs (f:=40) (e:=k) (off:=0) rfl (by omega) rfl (hM) (Fc hkl) rfl BV rfl)) ?_ | refine AI [18] Z Z (fun _=>AB (Zcs (f:=40) (e:=k) (off:=0) rfl (by omega) rfl (hM) (Fc hkl) rfl BV rfl)) ?_
   first | refine AG [0] [] Z Z (fun _=>AB (A8 Z Z)) ?_ | refine AI [0] Z Z (fun _=>AB (A8 Z Z)) ?_
   first | refine AG [3] [] Z Z (fun _=>AB (A8 Z Z)) ?_ | refine AI [3] Z Z (fun _=>AB (A8 Z Z)) ?_
   first | refine AG [21] [] Z Z (fun _=>AB (Ci Z Z (IntWalk.i64_in _ (by omega)) rfl)) ?_ | refine AI [21] Z Z (fun _=>AB (Ci Z Z (IntWalk.i64_in _ (by omega)) rfl)) ?_
   first | refine AG [20,22] [] Z Z (fun _=>AB (E3 (k - 1) Z Z (by omega) (by omega) Tryz.underlying52 Dn rfl)) ?_ | refine AI [20,22] Z Z (fun _=>AB (E3 (k - 1) Z Z (by omega) (by omega) Tryz.underlying52 Dn rfl)) ?_
   first | refine AG [23] [] Z Z (fun _=>AB (Zcs (f:=40) (e:=k - 1) (off:=0) rfl (by omega) rfl (hM) (Fc (by omega)) rfl BV rfl)) ?_ | refine AI [23] Z Z (fun _=>AB (Zcs (f:=40) (e:=k - 1) (off:=0) rfl (by omega) rfl (hM) (Fc (by omega)) rfl BV rfl)) ?_
   refine D2 9 Z Z Z (BY 10 Z Z ?_)
   first | refine J (FW Z Z Z) ?_ | refine J (FV Z Z Z) ?_ | refine J (FL Z Z Z) ?_ | refine J (FO Tryz.underlying3 Z Z Z) ?_ | refine J (FR Tryz.underlying3 Z Z Z) ?_ | refine J (FQ Tryz.underlying3 Z Z) ?_ | refine J (FU Tryz.underlying3 Z Z) ?_ | refine J (FT Tryz.underlying3 Z Z) ?_ | refine J (FP Tryz.underlying3 Z Z Z) ?_ | refine J (fSq Tryz.underlying3 Z Z) ?_
   refine AF ⟨rfl,?_⟩;refine Eg ?_
   first | refine Az rfl (fun h25=>?_) (fun h25=>?_) | refine Aw rfl (fun h25=>?_) (fun h25=>?_)
   ·refine AE ?_;have hst:=CQ.start hkl hk1 hck (Int.ofNat.inj h25);refine AH (AC Z Z (AC Z Z ?_));refine J (IM k Z Z Z hk (by omega) Tryz.underlying52 Dn rfl) (AD Z Z (AF (AE (AE (AH (AD Z Z (AF (BH ?_))))))));rw [←Hk hM];refine Db (α:=Nat×Nat×List Nat) (fun w=>⟨61,[(0,.d (.raw (sV b l.length cap))),(3,(.d (natD w.2.1))),(4,(.d (.raw (.slice (some ⟨b,k,none⟩) (l.length - k) (cap - k))))),(5,(.d (natD w.1)))],[(40,[.multi (BU M b (.row 3 1 cap (w.2.2.map natD)))])]⟩) (fun w=>k+w.1≤l.length∧1≤w.1∧CQ l w.2.2 (k+w.1) w.2.1) (fun w=>l.length - (k+w.1)) ((1,k,l)) (⟨hkl,Nat.le_refl _,hst⟩) (At hF [40] Z Z ⟨rfl,rfl,rfl,rfl,trivial⟩) ?_;rintro ⟨p,q,c⟩ ⟨hp,hp1,hC⟩;dsimp only at hp hp1 hC⊢;refine AE (AE (AH (AC Z Z (AC Z Z ?_))))
    first | refine J (IB rfl Tryz.underlying52 rfl) ?_ | refine J (Bs Z Z Tryz.underlying52 rfl) ?_ | refine J (IE rfl Tryz.underlying52 rfl) ?_ | refine J (IG rfl Tryz.underlying52 rfl) ?_ | refine J (ID rfl Tryz.underlying52 rfl) ?_ | refine J (H4 rfl Tryz.underlying52 rfl) ?_
    first | refine J (D3 Z Z Z) ?_ | refine J (D4 Z Z Z) ?_
    refine AF ?_
    first | refine Az rfl (fun h32=>?_) (fun h32=>?_) | refine Aw rfl (fun h32=>?_) (fun h32=>?_)
    ·refine Ai (AE (BH (AE ?_)));have hpl:k+p<l.length:=by have:=h32;omega
     have hcl:=hC.len;have hcq:=hC.q1;refine FK [[],[],[0,1],[0,1,2],[],[],[5],[4,5,6],[4,5,6,7],[0,1,2,3,4,5,6,7,8]] mixed rfl (D1 ?_)
     first | refine AG [4] [] Z Z (fun _=>AB (A8 Z Z)) ?_ | refine AI [4] Z Z (fun _=>AB (A8 Z Z)) ?_
     first | refine AG [5] [] Z Z (fun _=>AB (A8 Z Z)) ?_ | refine AI [5] Z Z (fun _=>AB (A8 Z Z)) ?_
     first | refine AG [35,36] [] Z Z (fun _=>AB (E0 p Z Z Z (by omega) Tryz.underlying52 Dn rfl)) ?_ | refine AI [35,36] Z Z (fun _=>AB (E0 p Z Z Z (by omega) Tryz.underlying52 Dn rfl)) ?_
     first | refine AG [37] [] Z Z (fun _=>AB (Zcs (f:=40) (e:=k+p) (off:=0) rfl (by omega) rfl (D9 _ _ _) (Fc (by omega)) rfl BV rfl)) ?_ | refine AI [37] Z Z (fun _=>AB (Zcs (f:=40) (e:=k+p) (off:=0) rfl (by omega) rfl (D9 _ _ _) (Fc (by omega)) rfl BV rfl)) ?_
     first | refine AG [4] [] Z Z (fun _=>AB (A8 Z Z)) ?_ | refine AI [4] Z Z (fun _=>AB (A8 Z Z)) ?_
     first | refine AG [5] [] Z Z (fun _=>AB (A8 Z Z)) ?_ | refine AI [5] Z Z (fun _=>AB (A8 Z Z)) ?_
     first | refine AG [40] [] Z Z (fun _=>AB (Ci Z Z (IntWalk.i64_in _ (by omega)) rfl)) ?_ | refine AI [40] Z Z (fun _=>AB (Ci Z Z (IntWalk.i64_in _ (by omega)) rfl)) ?_
     first | refine AG [39,41] [] Z Z (fun _=>AB (E0 (p - 1) Z Z (by omega) (by omega) Tryz.underlying52 Dn rfl)) ?_ | refine AI [39,41] Z Z (fun _=>AB (E0 (p - 1) Z Z (by omega) (by omega) Tryz.underlying52 Dn rfl)) ?_
     first | refine AG [42] [] Z Z (fun _=>AB (Zcs (f:=40) (e:=k+p - 1) (off:=0) rfl (by omega) rfl (D9 _ _ _) (Fc (by omega)) rfl BV rfl)) ?_ | refine AI [42] Z Z (fun _=>AB (Zcs (f:=40) (e:=k+p - 1) (off:=0) rfl (by omega) rfl (D9 _ _ _) (Fc (by omega)) rfl BV rfl)) ?_
     refine D2 9 Z Z Z (BY 10 Z Z ?_)
     first | refine J (I8 Z Z Z) ?_ | refine J (I7 Z Z Z) ?_ | refine J (IF Z Z Z) ?_ | refine J (I2 Tryz.underlying3 Z Z Z) ?_ | refine J (I4 Tryz.underlying3 Z Z Z) ?_ | refine J (st_neqN Tryz.underlying3 Z Z) ?_ | refine J (st_neqPr Tryz.underlying3 Z Z) ?_ | refine J (st_neqMz Tryz.underlying3 Z Z) ?_ | refine J (I3 Tryz.underlying3 Z Z Z) ?_ | refine J (st_neqFN Tryz.underlying3 Z Z) ?_
     refine AF ⟨rfl,?_⟩;refine Eg ?_
     first | refine Az rfl (fun h44=>?_) (fun h44=>?_) | refine Aw rfl (fun h44=>?_) (fun h44=>?_)
     ·refine AE (AH (AC Z Z ?_));refine AC Z Z (AC Z Z (AC Z Z (J (E0 p Z Z Z (by omega) Tryz.underlying52 Dn rfl) (J (Zcs (f:=40) (e:=k+p) (off:=0) rfl (by omega) rfl (D9 _ _ _) (Fc (by omega)) rfl BV rfl) (J (E3 (q) Z Z (rfl) (by omega) Tryz.underlying52 Dn rfl) (U (Nc (f:=40) (off:=q*1) Z Z Z Z (D9 _ _ _) (by rw [List.length_map];omega) (Md _) rfl Dn) (AF (AH ?_))))))));refine AC Z Z (J (CG Z Z (IntWalk.i64_in _ (by omega)) rfl) (AD Z Z (AF (AH (AC Z Z (J (CG Z Z (IntWalk.i64_in _ (by omega)) rfl) (AD Z Z (AF ?_))))))));exact ⟨(p+1,q+1,c.set q (CO c (k+p))),⟨by show k+(p+1)≤_;omega,by show 1≤p+1;omega,hC.keep hpl (fun e=>h44 (congrArg Int.ofNat e))⟩,by show l.length - (k+(p+1))<l.length - (k+p);omega,At hF [40] rfl (by rw [Mr,List.map_set,Nat.mul_one];rfl) ⟨rfl,rfl,rfl,rfl,trivial⟩⟩
     ·refine Ai (AH (AC Z Z (J (CG Z Z (IntWalk.i64_in _ (by omega)) rfl) (AD Z Z (AF ?_)))));exact ⟨(p+1,q,c),⟨by show k+(p+1)≤_;omega,by show 1≤p+1;omega,hC.drop hpl (Int.ofNat.inj (Classical.not_not.1 h44))⟩,by show l.length - (k+(p+1))<l.length - (k+p);omega,At hF [40] rfl (rfl) ⟨rfl,rfl,rfl,rfl,trivial⟩⟩
    ·refine C5 (AE ?_);have hpe:k+p=l.length:=by have:=h32;omega
     have hcl:=hC.len;have hcq:=hC.q1;have htk:=hC.tk;rw [hpe] at htk;refine AH (AC Z Z (AC Z Z (J (IM q Z Z Z (by omega) (by omega) Tryz.underlying52 Dn rfl) (U (PP (f:=40) (xs:=c.map natD) Z Z (D9 _ _ _) (by omega) (by rw [List.length_map];omega) (Md _) Tryz.underlying52 Tryz.zeroValue3 Z Z Z) (AF (AE ?_))))));have hqe:(EN l l.length).length=q:=by rw [←htk,List.length_take];omega
     refine QH 40 b q rfl (by rw [Mr];exact D9 _ _ _) (by rw [OX,List.length_map];omega) rfl (AH (AC Z Z (AC Z Z (J (MI q Z Z Z (show q≤cap by omega) Tryz.underlying52 Dn rfl) (AD Z Z (AF (Aq ?_)))))));exact ⟨_,[40],_,An rfl,rfl,rfl,by rw [hqe],by rw [Mr,Mr,SK (by omega),htk,Mr]⟩
   ·refine Ai (AH (AC Z Z (J (CG Z Z (IntWalk.i64_in _ (by omega)) rfl) (AD Z Z (AF ?_)))));exact ⟨k+1,⟨by omega,hkl,by rw [Lo (.inr fun e=>h25 (congrArg Int.ofNat e)),hck,MC hkl]⟩,by omega,At hF [40] rfl (rfl) ⟨rfl,rfl,trivial⟩⟩
  ·refine C5 (AE (AH (AC Z Z (AD Z Z (AF (Aq ?_))))));exact ⟨_,[40],_,An rfl,rfl,rfl,by rw [show k=l.length by have:=h13;omega,List.take_length] at hck;rw [hck],by rw [show k=l.length by have:=h13;omega,List.take_length] at hck;rw [hck,Hk hM]⟩
def Cu (l:List Nat):List Nat:=(Dp (l.map Int.ofNat)).map Int.toNat
theorem Ej (l:List Nat):(Cu l).Perm l:=by
 have h:=(G5 (l.map Int.ofNat)).map Int.toNat;rw [List.map_map] at h
 have e:l.map (Int.toNat∘Int.ofNat)=l:=by
  conv=>rhs;rw [←List.map_id l]
  exact List.map_congr_left fun x _=>rfl
 rwa [e] at h
theorem E4 (l:List Nat):(Cu l).length=l.length:=(Ej l).length_eq
theorem KV (l:List Nat):(Dp (l.map Int.ofNat)).map zD=(Cu l).map natD:=by
 unfold Cu;rw [List.map_map];refine List.map_congr_left fun x hx=>?_;obtain ⟨y,_,rfl⟩:=List.mem_map.1 ((G5 _).mem_iff.1 hx)
 rfl
theorem Gs (l:List Nat):(Cu l).Pairwise (· ≤ ·):=by
 unfold Cu;rw [List.pairwise_map];exact (LM (l.map Int.ofNat)).imp fun {a b} h=>Int.toNat_le_toNat h
theorem ofN_map (l:List Nat):l.map natD=(l.map Int.ofNat).map zD:=by rw [List.map_map];rfl
def Gh (l:List Nat):List Nat:=EN (Cu l) (Cu l).length
theorem cptS_le (l:List Nat):(Gh l).length≤l.length:=by have:=cptK_le (Cu l) (Cu l).length;rw [E4] at this;unfold Gh;rw [E4];exact this
theorem SF:Gh []=[]:=by unfold Gh;rw [List.length_eq_zero_iff.1 (E4 [])];rfl
theorem Fv.put {M:MF} {n j b c:Nat} {hs:Nat ->Hd} {ls:Nat ->List Nat} (h:Fv M n hs ls) (hj:j<n) (hh:hs j=some (b,c)) {l:List Nat} (hl:l.length≤c):Fv (BU M b (.row 3 1 c (l.map natD))) n hs (Ap ls j l):=by
 refine ⟨fun k hk=>?_,h.inj⟩
 by_cases e:k=j
 ·subst e;rw [Di,hh];exact ⟨by rw [List.length_map];exact hl,D9 _ _ _⟩
 ·rw [EV e];have h1:=h.at_ k hk
  match hk2:hs k,h1 with
  | none,h1=>exact h1
  | some (b',c'),h1=>exact ⟨h1.1,by rw [ER fun e2=>e (h.inj k j b c' c hk hj (by rw [hk2,e2]) hh)];exact h1.2⟩
theorem hd_two (h:Hd):h=none∨∃b c,h=some (b,c):=by
 match h with
 | none=>exact .inl rfl
 | some (b,c)=>exact .inr ⟨b,c,rfl⟩
theorem Dk {α:Type} {f:Nat ->α} {i:Nat} {x:α} (h:f i=x):Ap f i x=f:=by
 funext j;unfold Ap;split
 ·rename_i e;rw [e,h]
 ·rfl
theorem QA:AQ Tryz.prog 63 [.d (.raw (.slice none 0 0))] [] fun r H'=>r= .d (.raw (.slice none 0 0))∧H'=[]:=by
 refine CP Tryz.func63 Z Z Tryz.ntmps63 Z Z Z fun F hF=>(AE (AH (AD Z Z (AF (AE (AE (AH (AC Z Z ?_))))))))
 first | refine J (IB rfl Tryz.underlying52 rfl) ?_ | refine J (Bs Z Z Tryz.underlying52 rfl) ?_ | refine J (IE rfl Tryz.underlying52 rfl) ?_ | refine J (IG rfl Tryz.underlying52 rfl) ?_ | refine J (ID rfl Tryz.underlying52 rfl) ?_ | refine J (H4 rfl Tryz.underlying52 rfl) ?_
 first | refine J (D3 Z Z Z) ?_ | refine J (D4 Z Z Z) ?_
 refine AF (IH rfl (rfl) (AE (AH (AC Z Z (AD Z Z (AF (Aq ?_)))))));exact ⟨_,[],_,An rfl,rfl,rfl,rfl,rfl⟩
theorem OP {l:List Nat} {c:Nat} (hc:l.length≤c) (hl:l.length≤1048576) (M:MF) (b:Nat):
  AQ Tryz.prog 63 [.d (.raw (sV b l.length c))] [(40,[.multi (BU M b (.row 3 1 c ((Cu l).map natD)))])] fun r H'=>r= .d (.raw (sV b (Gh l).length c))∧H'=[(40,[.multi (BU (BU M b (.row 3 1 c ((Cu l).map natD))) b (.row 3 1 c ((Gh l).map natD)))])]:=by
 have hn:=E4 l;have h:=Pz (Cu l) b c (BU M b (.row 3 1 c ((Cu l).map natD))) (by omega) (by omega) (D9 _ _ _);rw [show (sV b (Cu l).length c)=sV b l.length c by rw [hn]] at h;exact h
end Go.Proofs.YtlmedakidpaeeaaGreat
/- The kit's contract of slices.Sort at strings, over an owned row and over a row of a region. No program in sight. -/
namespace Go.Proofs.YtlmedakidpaeeaaGreat
open Go.RowKit Go.Shelf
open Go.Sort (putRow Holds putCells)
def Ct (l:List St):List St:=l.mergeSort fun x y=>decide (x≤y)
theorem G4 (l:List St):(Ct l).Perm l:=List.mergeSort_perm l _
theorem Cj (l:List St):(Ct l).length=l.length:=(G4 l).length_eq
theorem Q6 (l:List St):(Ct l).Pairwise (· ≤ ·):=by
 have:=List.pairwise_mergeSort (le:=fun x y:St=>decide (x≤y)) (fun a b c h1 h2=>by simp only [decide_eq_true_eq] at*;exact List.le_trans h1 h2) (fun a b=>by simp only [Bool.or_eq_true,decide_eq_true_eq];exact List.le_total a b) l;exact this.imp fun h=>by simpa using h
theorem PT {l:List St} (h:l.Nodup):Fu (Ct l):=by
 have h1:=(G4 l).nodup_iff.2 h;exact (List.Pairwise.and (Q6 l) h1).imp fun ⟨h2,h3⟩=>Classical.byContradiction fun h4=>h3 (List.le_antisymm h2 (List.not_lt.1 h4))
theorem Ha {l m:List St} (h:l.Nodup) (hm:Fu m) (he:∀x,x∈l↔x∈m):Ct l=m:=
 Ii (PT h) hm fun x=>((G4 l).mem_iff).trans (he x)
variable {P:Program} {ρr:Ren}
theorem JC (L:SlLaysN.n54 P ρr) {E:TypeId} {g54:FuncId} (xs:List (List UInt8)) (hsz:xs.length<4611686018427387904) {F:Fr} {s:AS} {d:Nat} {x:Operand} {ty:TypeId} {pos:String} {aft:Array Edge} {gd:Option (Nat×Bool)} {at_:Array TypeId} {f n:Nat} {row:List D} {hp':Hp}
  (hg:ρr.f 54=g54) (hx:s.ev x=some (.own f 0 n)) (ho:hget s.hp f 0=some (.rowD E 1 row)) (hrow:row=xs.map AU) (hn:n=xs.length) (hh:Ay s.hp f 0 (.rowD E 1 ((Ct xs).map AU))=some hp') (hd:Nat.blt d s.n=true):
  AK P F ⟨some d,.call {callee:= .value (.func g54),args:= #[x],argTypes:=at_},ty,pos,aft,gd⟩ s ⟨s.n,(d,.d (.tup []))::s.env,hp'⟩ (fun _ _=>true):=by
 subst hg hrow hn;intro ρ act w hs
 obtain ⟨fn6,hf1,hf2,hf3⟩:∃fn,P.funcs[ρr.f 54]? =some fn∧(fn.name== "runtime.NumGoroutine")=false∧fn.body.isSome=true:=by
  obtain ⟨nm,hn,hf⟩:=L.f54;exact ⟨_,hf,hn,rfl⟩
 unfold Oper.wp;rw [show (#[x]:Array Operand)=[x].toArray from rfl,CI hf1 hf2 hf3,Oper.upon_enter]
 suffices key:Calls P (ρr.f 54) ([x].map act.eval).toArray w fun e w'=>e= .returned (.tuple #[])∧SR F ⟨s.n,s.env,hp'⟩ ρ act w' by
  refine key.mono fun e w' ⟨e1,hsr⟩=>?_;subst e1;exact ⟨ρ,hsr.put (Fs hd) (.d (.tup rfl fun i c v hc=>by cases hc)),fun _ _ _=>rfl⟩
 have r0:=hs.ev hx;have hg0:=ho;have h3:=hs.heap;have hset:=Ah hh;obtain ⟨us,q1,q2,q3⟩:=h3.sim f 0 _ hg0;show Calls P (ρr.f 54) #[act.eval x] w _
 generalize act.eval x=V0 at r0
 cases r0 with
 | own hρ hle=>
  rename_i N cap a
  by_cases hx:xs=[]
  ·subst hx;refine (AnyG.slices_Sort_string_none L a cap w).mono fun e w' ⟨e1,e2⟩=>?_;subst e1 e2;refine ⟨rfl,hs.writeG f 0 _ _ ho hset Z Z Z (Nat.le_refl _) (Nat.le_refl _) (fun _ _ _=>rfl) (fun _ _ e=>by cases e) fun hrep=>?_⟩;have h0:Ct []=[]:=by simp [Ct]
   rw [h0];exact ⟨us,q1,⟨by simpa using q2.1,fun x hx=>(by cases hx),fun i x hx=>by simp at hx⟩,fun x hx=>(by cases hx)⟩
  ·have hn:0<xs.length:=List.length_pos_iff.2 hx;have hul:us.length=xs.length:=by have:=q2.1;rw [List.length_map] at this;omega
   have hblkeq:∃b cur,a=some ⟨b,0,none⟩∧w.heap[b]? =some (.cells cur E (0,0))∧cur.size=cap∧xs.length≤cap∧cap≤maxLen∧cur.toList.take xs.length=us∧N=xs.length:=by
    rcases q1.2 with ⟨_,h⟩ | ⟨b,cap',cur,e1,_,e2,e3,e4,e5,e6⟩
    ·rw [List.length_map] at h;omega
    ·rw [hρ] at e1;injection e1 with e1 e7 e8
     subst e1 e8;rw [List.length_map] at e3 e6 e7;exact ⟨b,cur,rfl,e2,by omega,e3,e4,by rw [Nat.mul_one] at e6;exact e6,e7⟩
   obtain ⟨b,cur,rfl,p1,p2,p3,p3',p4,rfl⟩:=hblkeq;have hb:BK (ρ f 0)=some b:=by rw [hρ];rfl
   have hlt:b<w.heap.size:=(Array.getElem?_eq_some_iff.1 p1).1
   have hus:∀i (hi:i<xs.length),us[i]? =some (encStr xs[i]):=fun i hi=>by
    have hm:(xs.map AU)[i]? =some (AU xs[i]):=by rw [List.getElem?_map,List.getElem?_eq_getElem hi];rfl
    obtain ⟨u,hu,_,hr⟩:=q2.2.2 i _ hm 0 (AU xs[i]) rfl;rw [Nat.mul_one,Nat.add_zero] at hu
    cases hr with
    | raw _=>exact hu
   have hH:Holds encStr w b 0 xs.toArray:=by
    intro j hj;have hj:j<xs.length:=by simpa using hj
    refine ⟨?_,?_⟩
    ·have hju:us[j]? =cur.toList[j]?:=by rw [←p4,List.getElem?_take_of_lt hj]
     simp only [World.cell?,p1,Nat.zero_add];have h1:=hus j hj;rw [hju] at h1;rw [getElem!_pos _ j (by simpa using hj)];have hjc:j<cur.size:=by simpa using (List.getElem?_eq_some_iff.1 h1).1
     simp only [List.getElem_toArray]
     simp [hjc] at h1⊢
     exact h1
    ·simp only [World.frozen?,p1];simp
   have key:=AnyG.slices_Sort_string L b 0 cap xs w hH hlt hsz;refine key.mono fun e w' ⟨e1,nd,os,hw⟩=>?_;subst e1 hw
   obtain ⟨ys,hys⟩:∃ys,Ct xs=ys:=⟨_,rfl⟩
   have hys':(xs.mergeSort fun x y=>decide (x≤y))=ys:=hys;have hyl:ys.length=xs.length:=by rw [←hys,Cj]
   rw [hys] at hset hh;rw [hys'];refine ⟨rfl,?_⟩;have hsz2:((putRow encStr (Go.Sort.ahead w nd) b 0 ys.toArray)).heap.size=w.heap.size:=by rw [Go.Sort.size_putRow];rfl
   have hoth:∀b',b'<w.heap.size ->b'≠b ->(Go.Sort.grow (putRow encStr (Go.Sort.ahead w nd) b 0 ys.toArray) os).heap[b']? =w.heap[b']?:=fun b' hl hne=>by
    rw [Go.Sort.heap_grow_old _ _ (by rw [hsz2];exact hl)];show (w.heap.modify b _)[b']? =_;rw [Array.getElem?_modify,if_neg (Ne.symm hne)]
   refine hs.writeG f 0 _ _ ho hset Z Z Z (by rw [Go.Sort.size_grow,hsz2];exact Nat.le_add_right _ _) (Nat.le_add_right _ _) (fun b' hl hno=>hoth b' hl (fun e=>hno (by rw [e];exact hb))) (fun _ _ e=>by cases e) fun hrep=>?_
   have hheap:(Go.Sort.grow (putRow encStr (Go.Sort.ahead w nd) b 0 ys.toArray) os).heap[b]? =some (.cells (putCells encStr 0 ys.toArray cur) E (0,0)):=by
    rw [Go.Sort.heap_grow_old _ _ (by rw [hsz2];exact hlt)];show (w.heap.modify b _)[b]? =_;rw [Array.getElem?_modify,if_pos rfl,p1];rfl
   have hcs:(putCells encStr 0 ys.toArray cur).size=cap:=by simp only [putCells,Array.size_mapIdx];exact p2
   have hyl2:(ys.map AU).length=xs.length:=by rw [List.length_map,hyl]
   refine ⟨ys.map encStr,⟨by rw [List.length_map,hyl2,hyl,Nat.mul_one],.inr ⟨b,cap,_,by rw [hρ,hyl2],Nat.zero_le _,hheap,by rw [hyl2];exact p3,p3',by omega,?_⟩⟩,⟨by rw [List.length_map,hyl2,hyl,Nat.mul_one],fun x hx2=>?_,fun i x hx2 j c hc2=>?_⟩,fun x hx2 c hc2=>?_⟩
   ·rw [hyl2,Nat.mul_one]
    apply List.ext_getElem?
    intro i
    by_cases hi:i<xs.length
    ·rw [List.getElem?_take_of_lt hi,Array.getElem?_toList,List.getElem?_map,List.getElem?_eq_getElem (by omega),Array.getElem?_eq_getElem (by omega)];simp only [putCells,Array.getElem_mapIdx];rw [if_pos ⟨Nat.zero_le _,by simp;omega⟩];simp only [Nat.sub_zero,Option.map_some];rw [getElem!_pos _ i (by simp;omega)]
     simp
    ·rw [List.getElem?_eq_none (by rw [List.length_take];omega),List.getElem?_eq_none (by rw [List.length_map];omega)]
   ·obtain ⟨y,_,rfl⟩:=List.mem_map.1 hx2;rfl
   ·rw [List.getElem?_map] at hx2
    cases hyi:ys[i]? with
    | none=>rw [hyi] at hx2;cases hx2
    | some y=>
     rw [hyi] at hx2;injection hx2 with hx2;subst hx2
     have hj0:j=0:=by have:=(List.getElem?_eq_some_iff.1 hc2).1;simp [D.cells] at this;exact this
     subst hj0;simp only [D.cells,List.getElem?_cons_zero,Option.some.injEq] at hc2;subst hc2;exact ⟨encStr y,by rw [Nat.mul_one,Nat.add_zero,List.getElem?_map,hyi];rfl,rfl,.raw rfl⟩
   ·obtain ⟨y,_,rfl⟩:=List.mem_map.1 hx2;simp only [D.cells,List.mem_singleton] at hc2;subst hc2;rfl
theorem PH (L:SlLaysN.n54 P ρr) {E:TypeId} {g54:FuncId} (xs:List (List UInt8)) (hsz:xs.length<4611686018427387904) {F:Fr} {s:AS} {d:Nat} {x:Operand} {ty:TypeId} {pos:String} {aft:Array Edge} {gd:Option (Nat×Bool)} {at_:Array TypeId} {f b cap n:Nat} {M:MF} {row:List D} {hp':Hp}
  (hg:ρr.f 54=g54) (hM:hfam s.hp f=some [.multi M]) (hx:s.ev x=some (.d (.raw (sV b n cap)))) (hb:M b=some (.row E 1 cap row)) (hrow:row=xs.map AU) (hn:n=xs.length) (hh:BC s.hp f (BU M b (.row E 1 cap ((Ct xs).map AU)))=some hp') (hd:Nat.blt d s.n=true):
  AK P F ⟨some d,.call {callee:= .value (.func g54),args:= #[x],argTypes:=at_},ty,pos,aft,gd⟩ s ⟨s.n,(d,.d (.tup []))::s.env,hp'⟩ (fun _ _=>true):=by
 subst hg hrow hn;intro ρ act w hs
 obtain ⟨fn6,hf1,hf2,hf3⟩:∃fn,P.funcs[ρr.f 54]? =some fn∧(fn.name== "runtime.NumGoroutine")=false∧fn.body.isSome=true:=by
  obtain ⟨nm,hn,hf⟩:=L.f54;exact ⟨_,hf,hn,rfl⟩
 unfold Oper.wp;rw [show (#[x]:Array Operand)=[x].toArray from rfl,CI hf1 hf2 hf3,Oper.upon_enter]
 suffices key:Calls P (ρr.f 54) ([x].map act.eval).toArray w fun e w'=>e= .returned (.tuple #[])∧SR F ⟨s.n,s.env,hp'⟩ ρ act w' by
  refine key.mono fun e w' ⟨e1,hsr⟩=>?_;subst e1;exact ⟨ρ,hsr.put (Fs hd) (.d (.tup rfl fun i c v hc=>by cases hc)),fun _ _ _=>rfl⟩
 have r0:=hs.raw hx;obtain ⟨hρ,us,q1,q2,q3⟩:=hs.rowN hM hb;show Calls P (ρr.f 54) #[act.eval x] w _;rw [r0]
 by_cases hxs:xs=[]
 ·subst hxs;refine (AnyG.slices_Sort_string_none L (some ⟨b,0,none⟩) cap w).mono fun e w' ⟨e1,e2⟩=>?_;subst e1 e2;have h0:Ct []=[]:=by simp [Ct]
  rw [h0] at hh;exact ⟨rfl,hs.shrinkN f b 0 hM hb (Nat.zero_le _) hh⟩
 have hn:0<xs.length:=List.length_pos_iff.2 hxs
 obtain ⟨cur,p1,p2,p3,p3',p4⟩:∃cur,w.heap[b]? =some (.cells cur E (0,0))∧cur.size=cap∧xs.length≤cap∧cap≤maxLen∧cur.toList.take xs.length=us:=by
  rcases q1.2 with ⟨_,h⟩ | ⟨b',cap',cur,e1,_,e2,e3,e4,e5,e6⟩
  ·rw [List.length_map] at h;omega
  ·rw [List.length_map] at e1;injection e1 with e1 e7 e8
   injection e1 with e1
   injection e1 with e1
   subst e1 e8;rw [List.length_map] at e3 e6;exact ⟨cur,e2,by omega,e3,e4,by rwa [Nat.mul_one] at e6⟩
 have hlt:b<w.heap.size:=(Array.getElem?_eq_some_iff.1 p1).1
 have hus:∀i (hi:i<xs.length),us[i]? =some (encStr xs[i]):=fun i hi=>by
  have hm:(xs.map AU)[i]? =some (AU xs[i]):=by rw [List.getElem?_map,List.getElem?_eq_getElem hi];rfl
  obtain ⟨u,hu,_,hr⟩:=q2.2.2 i _ hm 0 (AU xs[i]) rfl;rw [Nat.mul_one,Nat.add_zero] at hu
  cases hr with
  | raw _=>exact hu
 have hH:Holds encStr w b 0 xs.toArray:=by
  intro j hj;have hj:j<xs.length:=by simpa using hj
  refine ⟨?_,?_⟩
  ·have hju:us[j]? =cur.toList[j]?:=by rw [←p4,List.getElem?_take_of_lt hj]
   simp only [World.cell?,p1,Nat.zero_add];have h1:=hus j hj;rw [hju] at h1;rw [getElem!_pos _ j (by simpa using hj)];have hjc:j<cur.size:=by simpa using (List.getElem?_eq_some_iff.1 h1).1
   simp only [List.getElem_toArray]
   simp [hjc] at h1⊢
   exact h1
  ·simp only [World.frozen?,p1];simp
 have key:=AnyG.slices_Sort_string L b 0 cap xs w hH hlt hsz;refine key.mono fun e w' ⟨e1,nd,os,hw⟩=>?_;subst e1 hw
 obtain ⟨ys,hys⟩:∃ys,Ct xs=ys:=⟨_,rfl⟩
 have hys':(xs.mergeSort fun x y=>decide (x≤y))=ys:=hys;have hyl:ys.length=xs.length:=by rw [←hys,Cj]
 rw [hys] at hh;rw [hys'];refine ⟨rfl,?_⟩;have hsz2:((putRow encStr (Go.Sort.ahead w nd) b 0 ys.toArray)).heap.size=w.heap.size:=by rw [Go.Sort.size_putRow];rfl
 have hoth:∀b',b'<w.heap.size ->b'≠b ->(Go.Sort.grow (putRow encStr (Go.Sort.ahead w nd) b 0 ys.toArray) os).heap[b']? =w.heap[b']?:=fun b' hl hne=>by
  rw [Go.Sort.heap_grow_old _ _ (by rw [hsz2];exact hl)];show (w.heap.modify b _)[b']? =_;rw [Array.getElem?_modify,if_neg (Ne.symm hne)]
 have hset:∀g i,hget hp' g i=if g=f∧i=b then some (.nr b E 1 cap (ys.map AU)) else hget s.hp g i:=fun g i=>by
  rw [By hh]
  by_cases e:g=f
  ·subst e;rw [if_pos rfl,ES hM]
   by_cases e2:i=b
   ·subst e2;rw [if_pos ⟨rfl,rfl⟩,D9];rfl
   ·rw [if_neg (fun h=>e2 h.2),ER e2]
  ·rw [if_neg e,if_neg (fun h=>e h.1)]
 refine hs.writeG f b (.nr b E 1 cap (xs.map AU)) (.nr b E 1 cap (ys.map AU)) (by rw [ES hM,hb];rfl) hset Z Z Z (by rw [Go.Sort.size_grow,hsz2];exact Nat.le_add_right _ _) (Nat.le_add_right _ _) (fun b' hl hno=>hoth b' hl (fun e=>hno (by rw [e,hρ];rfl))) (fun _ _ e=>by cases e) fun hrep=>?_
 have hheap:(Go.Sort.grow (putRow encStr (Go.Sort.ahead w nd) b 0 ys.toArray) os).heap[b]? =some (.cells (putCells encStr 0 ys.toArray cur) E (0,0)):=by
  rw [Go.Sort.heap_grow_old _ _ (by rw [hsz2];exact hlt)];show (w.heap.modify b _)[b]? =_;rw [Array.getElem?_modify,if_pos rfl,p1];rfl
 have hcs:(putCells encStr 0 ys.toArray cur).size=cap:=by simp only [putCells,Array.size_mapIdx];exact p2
 have hyl2:(ys.map AU).length=xs.length:=by rw [List.length_map,hyl]
 refine ⟨hρ,ys.map encStr,⟨by rw [List.length_map,hyl2,hyl,Nat.mul_one],.inr ⟨b,cap,_,by rw [hyl2],Nat.zero_le _,hheap,by rw [hyl2];exact p3,p3',by omega,?_⟩⟩,⟨by rw [List.length_map,hyl2,hyl,Nat.mul_one],fun x hx2=>?_,fun i x hx2 j c hc2=>?_⟩,fun x hx2 c hc2=>?_⟩
 ·rw [hyl2,Nat.mul_one]
  apply List.ext_getElem?
  intro i
  by_cases hi:i<xs.length
  ·rw [List.getElem?_take_of_lt hi,Array.getElem?_toList,List.getElem?_map,List.getElem?_eq_getElem (by omega),Array.getElem?_eq_getElem (by omega)];simp only [putCells,Array.getElem_mapIdx];rw [if_pos ⟨Nat.zero_le _,by simp;omega⟩];simp only [Nat.sub_zero,Option.map_some];rw [getElem!_pos _ i (by simp;omega)]
   simp
  ·rw [List.getElem?_eq_none (by rw [List.length_take];omega),List.getElem?_eq_none (by rw [List.length_map];omega)]
 ·obtain ⟨y,_,rfl⟩:=List.mem_map.1 hx2;rfl
 ·rw [List.getElem?_map] at hx2
  cases hyi:ys[i]? with
  | none=>rw [hyi] at hx2;cases hx2
  | some y=>
   rw [hyi] at hx2;injection hx2 with hx2;subst hx2
   have hj0:j=0:=by have:=(List.getElem?_eq_some_iff.1 hc2).1;simp [D.cells] at this;exact this
   subst hj0;simp only [D.cells,List.getElem?_cons_zero,Option.some.injEq] at hc2;subst hc2;exact ⟨encStr y,by rw [Nat.mul_one,Nat.add_zero,List.getElem?_map,hyi];rfl,rfl,.raw rfl⟩
 ·obtain ⟨y,_,rfl⟩:=List.mem_map.1 hx2;simp only [D.cells,List.mem_singleton] at hc2;subst hc2;rfl
end Go.Proofs.YtlmedakidpaeeaaGreat
/- Layer 27: rows of strings that grow, in memory. -/
namespace Go.Proofs.YtlmedakidpaeeaaGreat
open Go.RowKit
set_option maxRecDepth 100000
abbrev stsD (l:List St):D:= .sl none (l.map AU)
structure Lx (M:MF) (n:Nat) (hs:Nat ->Hd) (ls:Nat ->List St):Prop where
 at_:∀j,j<n ->K4 M (hs j) 9 1 ((ls j).map AU)
 inj:∀j k b c c',j<n ->k<n ->hs j=some (b,c) ->hs k=some (b,c') ->j=k
abbrev rowS (n:Nat) (hs:Nat ->Hd) (ls:Nat ->List St):List D:=(List.range n).map fun j=>hdr (hs j) (ls j).length
theorem F5 {n j:Nat} {hs:Nat ->Hd} {ls:Nat ->List St} (h:j<n):(rowS n hs ls)[j]? =some (hdr (hs j) (ls j).length):=by simp [h]
theorem SZ (n:Nat) (hs:Nat ->Hd) (ls:Nat ->List St):(rowS n hs ls).length=n:=by simp
theorem Qb {n j:Nat} {hs:Nat ->Hd} {ls:Nat ->List St} {h:Hd} {l:List St}:(rowS n hs ls).set j (hdr h l.length)=rowS n (Ap hs j h) (Ap ls j l):=
 Ij (fun i _ hne=>by rw [EV hne,EV hne]) (by rw [Di,Di])
theorem Lx.zero (n:Nat):Lx (fun _=>none) n (fun _=>none) (fun _=> []):=⟨fun _ _=>rfl,fun _ _ _ _ _ _ _ h=>by cases h⟩
theorem Lx.app {M:MF} {n j:Nat} {hs:Nat ->Hd} {ls:Nat ->List St} (h:Lx M n hs ls) (hj:j<n) {l:List St} {b c:Nat} (hb:DC M (hs j) b=none) (hc:(l.map AU).length≤c):
  Lx (BU (DC M (hs j)) b (.row 9 1 c (l.map AU))) n (Ap hs j (some (b,c))) (Ap ls j l):=by
 have hne:∀k,k<n ->k≠j ->∀b' c',hs k=some (b',c') ->b'≠b∧BU (DC M (hs j)) b (.row 9 1 c (l.map AU)) b'=M b':=by
  intro k hk hkj b' c' e;have h1:=h.at_ k hk;rw [e] at h1;have h2:∀c'',hs j≠some (b',c''):=fun c'' e2=>hkj (h.inj k j b' c' c'' hk hj e e2);refine ⟨fun e3=>?_,?_⟩
  ·subst e3;have:=Et h1.2 h2;rw [hb] at this;cases this
  ·rw [Rf hb h1.2 h2,h1.2]
 refine ⟨fun k hk=>?_,fun k k' b1 c1 c2 hk hk' e1 e2=>?_⟩
 ·by_cases e:k=j
  ·subst e;rw [Di,Di];exact ⟨hc,D9 _ _ _⟩
  ·rw [EV e,EV e];have h1:=h.at_ k hk
   match hh:hs k,h1 with
   | none,h1=>exact h1
   | some (b',c'),h1=>exact ⟨h1.1,by rw [(hne k hk e b' c' hh).2];exact h1.2⟩
 ·by_cases ek:k=j<;>by_cases ek':k'=j
  ·rw [ek,ek']
  ·subst ek;rw [Di] at e1;rw [EV ek'] at e2;injection e1 with e1;injection e1 with e1 _;subst e1
   exact ((hne k' hk' ek' _ _ e2).1 rfl).elim
  ·subst ek';rw [Di] at e2;rw [EV ek] at e1;injection e2 with e2;injection e2 with e2 _;subst e2
   exact ((hne k hk ek _ _ e1).1 rfl).elim
  ·rw [EV ek] at e1;rw [EV ek'] at e2;exact h.inj k k' b1 c1 c2 hk hk' e1 e2
theorem Lx.put {M:MF} {n j b c:Nat} {hs:Nat ->Hd} {ls:Nat ->List St} (h:Lx M n hs ls) (hj:j<n) (hh:hs j=some (b,c)) {l:List St} (hl:l.length≤c):Lx (BU M b (.row 9 1 c (l.map AU))) n hs (Ap ls j l):=by
 refine ⟨fun k hk=>?_,h.inj⟩
 by_cases e:k=j
 ·subst e;rw [Di,hh];exact ⟨by rw [List.length_map];exact hl,D9 _ _ _⟩
 ·rw [EV e];have h1:=h.at_ k hk
  match hk2:hs k,h1 with
  | none,h1=>exact h1
  | some (b',c'),h1=>exact ⟨h1.1,by rw [ER fun e2=>e (h.inj k j b c' c hk hj (by rw [hk2,e2]) hh)];exact h1.2⟩
theorem JX (n:Nat) (hs:Nat ->Hd) (ls:Nat ->List St):∀x∈rowS n hs ls,x.one=true:=fun x hx=>by
 obtain ⟨a,_,rfl⟩:=List.mem_map.1 hx;rfl
def PX (n:Nat) (ls:Nat ->List St):List (List St):=(List.range n).map ls
theorem O3 (n:Nat) (ls:Nat ->List St):(PX n ls).length=n:=by simp [PX]
theorem O4 {n i:Nat} {ls:Nat ->List St} (h:i<n):(PX n ls)[i]? =some (ls i):=by simp [PX,h]
theorem Lx.melt {M:MF} {n:Nat} {hs:Nat ->Hd} {ls:Nat ->List St} (h:Lx M n hs ls):∀(j:Nat) x y,(rowS n hs ls)[j]? =some x ->((PX n ls).map stsD)[j]? =some y ->N5 M x y:=by
 intro j x y hx hy;have hj:j<n:=by have:=(List.getElem?_eq_some_iff.1 hx).1;rwa [SZ] at this
 rw [F5 hj] at hx;injection hx with hx
 rw [List.getElem?_map,O4 hj] at hy;injection hy with hy
 subst hx hy;exact .inr ⟨hs j,9,(ls j).map AU,by rw [List.length_map],h.at_ j hj,fun z hz=>by obtain ⟨a,_,rfl⟩:=List.mem_map.1 hz;rfl,rfl⟩
theorem one_sts (g:List (List St)):∀x∈g.map stsD,x.one=true:=fun x hx=>by
 obtain ⟨a,_,rfl⟩:=List.mem_map.1 hx;rfl
section
variable {P:Program} {F:Fr} {s:AS} {d:Nat} {ty T T' E K:TypeId} {pos:String} {aft:Array Edge} {g:Option (Nat×Bool)} {x:Operand}
theorem FU {p:Option Addr} (hT:P.underlying T=some (.pointer E)) (hx:s.ev x=some (.d (.raw (.pointer p)))) (hd:Nat.blt d s.n=true):AA P F ⟨some d,.binOp .eql T x (.const (.pointer none)) T',ty,pos,aft,g⟩ s d (.d (.raw (.bool p.isNone))):=
 Bt _ hd fun ρ act w hs=>by
  have hv:=hs.raw hx;have hp:P.pointee T=E:=by unfold Program.pointee;rw [hT]
  have hc:act.eval (.const (.pointer none))= .pointer none:=rfl;exact ⟨.bool p.isNone,by simp [execOp,hv,hc,Fe,binOp,run_equal_pointer_nil w T p (by rw [hp];exact hT)],.d (.raw rfl)⟩
theorem FT {m:Nat} (hT:P.underlying T=some (.map K E)) (hx:s.ev x=some (.d (.raw (.map (some m))))) (hd:Nat.blt d s.n=true):AA P F ⟨some d,.binOp .eql T x (.const (.map none)) T',ty,pos,aft,g⟩ s d (.d (.raw (.bool false))):=
 Bt _ hd fun ρ act w hs=>by
  have hv:=hs.raw hx;have hc:act.eval (.const (.map none))= .map none:=rfl;exact ⟨.bool false,by simp [execOp,hv,hc,eqGuard,binOp,run_equal_map_nil w T K E (some m) hT],.d (.raw rfl)⟩
end
structure Lk where
 t:Int
 r:St
deriving instance DecidableEq for Lk
theorem Lk.eq_iff {a b:Lk}:a=b↔a.t=b.t∧a.r=b.r:=by cases a;cases b;simp
abbrev KG (l:Lk):D:= .agg [B7 l.t,AU l.r]
def lkC (l:Lk):List Value:=[.int .i64 l.t,LI l.r]
abbrev lkT:List TypeDesc:=[.int .i64,.string]
theorem Jf (a b:Int):Jg (.int .i64 a) (.int .i64 b)=decide (a=b):=by
 simp only [Jg];exact Bool.beq_eq_decide_eq a b
theorem Je (a b:List UInt8):Jg (LI a) (LI b)=decide (a=b):=by
 simp only [Jg,LI,←beq_toListBytes,Kz]
theorem R8 (a b:Lk):BD (lkC a) (lkC b)=decide (a=b):=by
 simp only [lkC,BD,Jf,Je,Lk.eq_iff,Bool.and_true,Bool.decide_and,Bool.and_assoc]
theorem D6 {d:TypeDesc} {ds:List TypeDesc} {u:Value} {us:List Value} (h:MapKept.IsKey d u) (hr:Ar ds us):Ar (d::ds) (u::us):=
 ⟨by simp [hr.1],fun i d' u' hd hu=>by
  cases i with
  | zero=>simp at hd hu;subst hd hu;exact h
  | succ i=>exact hr.2 i d' u' (by simpa using hd) (by simpa using hu)⟩
theorem Ka:Ar [] []:=⟨rfl,by simp⟩
theorem J2 (a:Lk):Ar lkT (lkC a):=D6 rfl (D6 trivial Ka)
theorem lk_val (a:Lk):(KG a).val? =some (.agg (lkC a).toArray):=rfl
theorem J4:BT Tryz.prog 42 KG (fun a=> .agg (lkC a).toArray):=BT.flat (ds:=lkT) (by kernel_rfl) (by kernel_rfl) lk_val J2 R8
abbrev hD (h:Option Nat):D:= .raw (.map h)
abbrev eE (E:List (St×Nat)):List (St×Option Nat):=E.map fun p=>(p.1,some p.2)
abbrev DL (l:List Lk):List (Lk×Bool):=l.map fun x=>(x,true)
abbrev DI (E:List (St×Nat)):List (D×D):=Ae AU hD (eE E)
abbrev DJ (l:List Lk):List (D×D):=Ae KG Ad (DL l)
structure LR (M:MF) (b m:Nat) (E:List (St×Nat)) (lk:Nat ->List Lk):Prop where
 cell:M b=some (.cells 67 [mD m])
 top:M m=some (.map none (DI E))
 sub:∀p∈E,M p.2=some (.map none (DJ (lk p.2)))
 nd:(E.map Prod.snd).Nodup
 ne:m∉E.map Prod.snd
structure LW (E:List (St×Nat)) (lk:Nat ->List Lk) (w:Ws):Prop where
 kd:(E.map Prod.fst).Nodup
 ks:∀x,x∈E.map Prod.fst↔x∈w.R
 ld:∀p∈E,(lk p.2).Nodup
 ls:∀p∈E,∀l:Lk,l∈lk p.2↔(⟨p.1,l.t,l.r⟩:Lw)∈w.K
def Bg (M:MF) (b:Nat) (w:Ws):Prop:=∃m E lk,LR M b m E lk∧LW E lk w
theorem LW.len {E:List (St×Nat)} {lk:Nat ->List Lk} {w:Ws} (h:LW E lk w) (hw:B1 w):E.length=w.R.length:=by
 have:=((List.perm_ext_iff_of_nodup h.kd (DX hw.srt)).2 h.ks).length_eq
 rwa [List.length_map] at this
theorem Jh (E:List (St×Nat)):(eE E).map Prod.fst=E.map Prod.fst:=by rw [List.map_map];rfl
theorem LW.has {E:List (St×Nat)} {lk:Nat ->List Lk} {w:Ws} (h:LW E lk w) (x:St):Ib (eE E) x=decide (x∈w.R):=by
 rw [Bool.eq_iff_iff,DB,Jh,decide_eq_true_eq];exact h.ks x
theorem Br {E:List (St×Nat)} (hd:(E.map Prod.fst).Nodup) {x:St} {h:Nat} (hm:(x,h)∈E):CJ (eE E) x none=some h:=
 IP (by rw [Jh];exact hd) (List.mem_map.2 ⟨(x,h),hm,rfl⟩)
theorem On {E:List (St×Nat)} {x:St} (hm:x∉E.map Prod.fst):CJ (eE E) x none=none:=Kh (by rw [Jh];exact hm)
theorem LW.at {E:List (St×Nat)} {lk:Nat ->List Lk} {w:Ws} (h:LW E lk w) {x:St} (hx:x∈w.R):∃n,(x,n)∈E:=by
 obtain ⟨p,hp,e⟩:=List.mem_map.1 ((h.ks x).2 hx);exact ⟨p.2,by rw [←e];exact hp⟩
theorem lkM_fst (l:List Lk):(DL l).map Prod.fst=l:=by rw [List.map_map];exact List.map_id _
theorem L5 (l:List Lk) (a:Lk):CJ (DL l) a false=decide (a∈l):=by
 induction l with
 | nil=>rfl
 | cons x r ih=>
  show (if a=x then true else CJ (DL r) a false)=_
  by_cases e:a=x
  ·simp [e]
  ·simp [e,ih]
theorem L4 {l:List Lk} {a:Lk} (h:a∉l):Bq (DL l) a true=DL (l++ [a]):=by
 induction l with
 | nil=>rfl
 | cons x r ih=>
  have hx:a≠x:=fun e=>h (by rw [e];simp);show (if a=x then (x,true)::DL r else (x,true)::Bq (DL r) a true)=_;rw [if_neg hx,ih fun h'=>h (List.mem_cons_of_mem _ h')]
  rfl
theorem Io {l:List Lk} {a:Lk} (hn:l.Nodup):Nz (DL l) a=DL (l.filter fun x=>!decide (x=a)):=by
 unfold Nz
 induction l with
 | nil=>rfl
 | cons x r ih=>
  obtain ⟨h1,h2⟩:=List.nodup_cons.1 hn;show List.eraseIdx ((x,true)::DL r) (if a=x then 0 else Df (DL r) a+1)=_
  by_cases e:a=x
  ·subst e;rw [if_pos rfl,List.filter_cons,List.filter_eq_self.2 fun y hy=>by simp;rintro rfl;exact h1 hy]
   simp
  ·have e':¬x=a:=fun h=>e h.symm;rw [if_neg e,List.eraseIdx_cons_succ,ih h2,List.filter_cons]
   simp [e']
theorem Rw {E:List (St×Nat)} {x:St} {h:Nat} (hx:x∉E.map Prod.fst):Bq (eE E) x (some h)=eE (E++ [(x,h)]):=by
 induction E with
 | nil=>rfl
 | cons p r ih=>
  have h1:x≠p.1:=fun e=>hx (by rw [e];simp);show (if x=p.1 then (p.1,some h)::eE r else (p.1,some p.2)::Bq (eE r) x (some h))=_;rw [if_neg h1,ih fun h'=>hx (List.mem_cons_of_mem _ h')]
  rfl
theorem SY {M:MF} {b:Nat} {x y:A7}:BU (BU M b x) b y=BU M b y:=by
 funext i;unfold BU;split<;>rfl
theorem Es {M:MF} {b:Nat} {x:A7} (h:M b=some x):BU M b x=M:=by
 funext i;unfold BU;split
 ·rename_i e;rw [e,h]
 ·rfl
theorem new_rep {m b:Nat} (hb:BU (BU (fun _=>none) m (.map (some ([],0)) [])) m (.map none []) b=none):Bg (BU (BU (BU (fun _=>none) m (.map (some ([],0)) [])) m (.map none [])) b (.cells 67 [mD m])) b ⟨[],[]⟩:=by
 have hne:m≠b:=fun e=>by subst e;rw [D9] at hb;cases hb
 exact ⟨m,[],fun _=> [],⟨D9 _ _ _,by rw [ER hne,D9];rfl,(fun _ h=>by cases h),List.nodup_nil,List.not_mem_nil⟩,⟨List.nodup_nil,fun x=>by simp,(fun _ h=>by cases h),(fun _ h=>by cases h)⟩⟩
theorem RW:AQ Tryz.prog 17 [] [] fun r H'=>∃b M,r= .d (pD b 0)∧H'=[(40,[.multi M])]∧Bg M b ⟨[],[]⟩:=by
 refine CP Tryz.func17 Z Z Tryz.ntmps17 Z Z Z fun F hF=>(AE (AH (AD Z Z (AF (AE (EB 40 Z Z Z (AH ?_)))))));refine U (Ei 1 Z Z Z Z) (Hi 1 1 40 hF Z Z Z Z Z Z Z Z Z Z (fun _=>rfl) fun m hm=>(Cq 40 m rfl (D9 _ _ _) rfl (J (LE zl67 pl67 Z Z Z) (U (Gl 2 Z Z Z Z Z Z Z) (RN 3 2 40 (ds:=[mD m]) hF Z Z Z Z Z Z Z Z Z Z Z (fun _=>rfl) fun b hb=>(AD Z Z (AF (Aq ?_))))))));exact ⟨_,[40],_,An rfl,rfl,rfl,b,_,rfl,rfl,new_rep hb⟩
theorem GX {M:MF} {b:Nat} {w:Ws} (h:Bg M b w) (x:St):AQ Tryz.prog 9 [.d (pD b 0),.d (AU x)] [(40,[.multi M])] fun r H'=>r= .d (Ad (decide (x∈w.R)))∧H'=[(40,[.multi M])]:=by
 obtain ⟨m,E,lk,hr,hl⟩:=h;refine CP Tryz.func9 Z Z Tryz.ntmps9 Z Z Z fun F hF=>(AE (AH (AD Z Z (AF (AE (AE (AH (AC Z Z ?_))))))))
 first | refine J (FW Z Z Z) ?_ | refine J (FV Z Z Z) ?_ | refine J (FL Z Z Z) ?_ | refine J (FO Tryz.underlying24 Z Z Z) ?_ | refine J (FR Tryz.underlying24 Z Z Z) ?_ | refine J (FQ Tryz.underlying24 Z Z) ?_ | refine J (FU Tryz.underlying24 Z Z) ?_ | refine J (FT Tryz.underlying24 Z Z) ?_ | refine J (FP Tryz.underlying24 Z Z Z) ?_ | refine J (fSq Tryz.underlying24 Z Z) ?_
 refine AF (DM rfl (rfl) (Ai (AE (AH (AC Z Z ?_)))))
 first | refine J (GP Z Z) ?_ | refine J (GR Z Z) ?_ | refine J (GQ Z Z) ?_ | refine J (GS Z Z) ?_
 first | refine J (A2 rfl Ac Z Z Z) ?_ | refine J (A4 rfl Ac Z Z Z) ?_ | refine J (A5 rfl Ac Z Z Z) ?_ | refine J (A3 rfl Ac Z Z Z) ?_ | refine J (A1 rfl Ac Z Z Z) ?_
 refine J (Gi (f:=40) Z Z (hr.cell) rfl CB rfl) (AC Z Z (J (Ng (f:=40) (eE E) (x) (none) Z Z (hr.top) rfl Cc EU EX rfl) (AC Z Z ?_)))
 first | refine J (Bn Z Z Z) ?_ | refine J (Bm Z Z Z) ?_
 first | refine J (Bn Z Z Z) ?_ | refine J (Bm Z Z Z) ?_
 refine AD Z Z (AD Z Z (AF (AE (AH (AC Z Z (AD Z Z (AF (Aq ?_))))))));exact ⟨_,[40],_,An rfl,rfl,rfl,by rw [hl.has],rfl⟩
theorem add_rep {M:MF} {b m h:Nat} {E:List (St×Nat)} {lk:Nat ->List Lk} {w:Ws} (hr:LR M b m E lk) (hl:LW E lk w) {x:St} (hx:x∉w.R) (hok:B1 w) (hh:M h=none):
  Bg (BU (BU (BU M h (.map (some ([],0)) [])) h (.map none [])) m (.map none (Ae AU hD (Bq (eE E) x (some h))))) b ⟨BI w.R x,w.K⟩:=by
 have hxe:x∉E.map Prod.fst:=fun hm=>hx ((hl.ks x).1 hm);have hmh:m≠h:=fun e=>by subst e;rw [hr.top] at hh;cases hh
 have hbm:b≠m:=fun e=>by subst e;have:=hr.cell;rw [hr.top] at this;cases this
 have hbh:b≠h:=fun e=>by subst e;rw [hr.cell] at hh;cases hh
 have hph:∀p∈E,p.2≠h∧p.2≠m:=fun p hp=>⟨(fun e=>by have:=hr.sub p hp;rw [e,hh] at this;cases this),(fun e=>hr.ne (by rw [←e];exact List.mem_map_of_mem hp))⟩
 have hlk:∀p∈E,(if p.2=h then [] else lk p.2)=lk p.2:=fun p hp=>if_neg (hph p hp).1;refine ⟨m,E++ [(x,h)],fun n=>if n=h then [] else lk n,⟨?_,?_,fun p hp=>?_,?_,?_⟩,⟨?_,fun y=>?_,fun p hp=>?_,fun p hp l=>?_⟩⟩
 ·rw [ER hbm,ER hbh,ER hbh];exact hr.cell
 ·rw [D9,Rw hxe]
 ·show (_:Option A7)=some (.map none (DJ (if p.2=h then [] else lk p.2)));rcases List.mem_append.1 hp with hp | hp
  ·rw [hlk p hp,ER (hph p hp).2,ER (hph p hp).1,ER (hph p hp).1];exact hr.sub p hp
  ·simp at hp;subst hp
   rw [ER (Ne.symm hmh),D9]
   simp [Ae]
 ·rw [List.map_append,List.nodup_append];refine ⟨hr.nd,by simp,fun a ha c hc e=>?_⟩
  simp at hc;subst hc;subst e
  obtain ⟨p,hp,e⟩:=List.mem_map.1 ha;exact (hph p hp).1 e
 ·rw [List.map_append,List.mem_append];rintro (h1 | h1)
  ·exact hr.ne h1
  ·simp at h1;exact hmh h1
 ·rw [List.map_append,List.nodup_append];refine ⟨hl.kd,by simp,fun a ha c hc e=>?_⟩
  simp at hc;subst hc;subst e;exact hxe ha
 ·rw [List.map_append,List.mem_append,LD,hl.ks]
  simp [or_comm]
 ·show (if p.2=h then [] else lk p.2).Nodup;rcases List.mem_append.1 hp with hp | hp
  ·rw [hlk p hp];exact hl.ld p hp
  ·simp at hp;subst hp;simp
 ·show l∈(if p.2=h then [] else lk p.2)↔_;rcases List.mem_append.1 hp with hp | hp
  ·rw [hlk p hp];exact hl.ls p hp l
  ·simp at hp;subst hp
   simp only [if_true,List.not_mem_nil,false_iff];exact fun hk=>hx (hok.lk _ hk).1
theorem Hy {w:Ws} {x:St} (h:x.length<1∨64<x.length):addW w x=(w,6):=if_pos h
theorem OU {w:Ws} {x:St} (h:¬(x.length<1∨64<x.length)) (hx:x∈w.R):addW w x=(w,7):=by unfold addW;rw [if_neg h,if_pos hx]
theorem OT {w:Ws} {x:St} (h:¬(x.length<1∨64<x.length)) (hx:¬x∈w.R) (hn:4096≤w.R.length):addW w x=(w,8):=by unfold addW;rw [if_neg h,if_neg hx,if_pos hn]
theorem OS {w:Ws} {x:St} (h:¬(x.length<1∨64<x.length)) (hx:¬x∈w.R) (hn:¬4096≤w.R.length):addW w x=(⟨BI w.R x,w.K⟩,0):=by unfold addW;rw [if_neg h,if_neg hx,if_neg hn]
theorem Ot {M:MF} {b:Nat} {w:Ws} (h:Bg M b w) (hw:B1 w) (x:St):AQ Tryz.prog 18 [.d (pD b 0),.d (AU x)] [(40,[.multi M])] fun r H'=>∃M',r= .d (B7 (addW w x).2)∧H'=[(40,[.multi M'])]∧Bg M' b (addW w x).1:=by
 have hrep:=h;obtain ⟨m,E,lk,hr,hl⟩:=h;refine CP Tryz.func18 Z Z Tryz.ntmps18 Z Z Z fun F hF=>?_;refine AE (AH (AD Z Z (AF (AE (BH (AE (AH (AC Z Z ?_))))))))
 first | refine J (FW Z Z Z) ?_ | refine J (FV Z Z Z) ?_ | refine J (FL Z Z Z) ?_ | refine J (FO Tryz.underlying24 Z Z Z) ?_ | refine J (FR Tryz.underlying24 Z Z Z) ?_ | refine J (FQ Tryz.underlying24 Z Z) ?_ | refine J (FU Tryz.underlying24 Z Z) ?_ | refine J (FT Tryz.underlying24 Z Z) ?_ | refine J (FP Tryz.underlying24 Z Z Z) ?_ | refine J (fSq Tryz.underlying24 Z Z) ?_
 refine AD Z Z (AF (DM rfl (rfl) (AE (AH (AC Z Z ?_)))))
 first | refine J (IB rfl Tryz.underlying9 rfl) ?_ | refine J (Bs Z Z Tryz.underlying9 rfl) ?_ | refine J (IE rfl Tryz.underlying9 rfl) ?_ | refine J (IG rfl Tryz.underlying9 rfl) ?_ | refine J (ID rfl Tryz.underlying9 rfl) ?_ | refine J (H4 rfl Tryz.underlying9 rfl) ?_
 first | refine J (D3 Z Z Z) ?_ | refine J (D4 Z Z Z) ?_
 refine AC Z Z ?_
 first | refine It 12 rfl (fun h12=>?_) (fun h12=>?_) | refine I5 12 rfl (fun h12=>?_) (fun h12=>?_)
 ·refine BA Z Z Z Z (BA Z Z Z Z (BA Z Z Z Z ?_));refine J (GZ Z Z Z Z) (AD Z Z (AF (IH Z Z (AE (AH (AD Z Z (AF (Aq ?_))))))));exact ⟨_,[40],_,An rfl,rfl,rfl,M,by rw [Hy (by omega)],rfl,by rw [Hy (by omega)];exact hrep⟩
 ·refine Aa Z Z Z (AC Z Z (Aa Z Z Z ?_))
  first | refine J (IB rfl Tryz.underlying9 rfl) ?_ | refine J (Bs Z Z Tryz.underlying9 rfl) ?_ | refine J (IE rfl Tryz.underlying9 rfl) ?_ | refine J (IG rfl Tryz.underlying9 rfl) ?_ | refine J (ID rfl Tryz.underlying9 rfl) ?_ | refine J (H4 rfl Tryz.underlying9 rfl) ?_
  refine Aa Z Z Z ?_
  first | refine J (H9 Z Z Z) ?_ | refine J (GA Z Z Z) ?_
  refine J (Fo Z Z Z Z) (AD Z Z (AF ?_))
  first | refine Az rfl (fun h8=>?_) (fun h8=>?_) | refine Aw rfl (fun h8=>?_) (fun h8=>?_)
  ·refine AE (AH (AD Z Z (AF (Aq ?_))));exact ⟨_,[40],_,An rfl,rfl,rfl,M,by rw [Hy (by omega)],rfl,by rw [Hy (by omega)];exact hrep⟩
  ·refine AE (AH (AC Z Z (AC Z Z (U (Fn (GX hrep x) rfl [40] ⟨rfl,trivial⟩ Z Z Z Z Z Z Z Z Z) (AD Z Z (AF ?_))))))
   first | refine Az rfl (fun h17=>?_) (fun h17=>?_) | refine Aw rfl (fun h17=>?_) (fun h17=>?_)
   ·refine AE (AH (AD Z Z (AF (Aq ?_))));exact ⟨_,[40],_,An rfl,rfl,rfl,M,by rw [OU (by omega) h17],rfl,by rw [OU (by omega) h17];exact hrep⟩
   ·refine AE (AH (AC Z Z ?_))
    first | refine J (GP Z Z) ?_ | refine J (GR Z Z) ?_ | refine J (GQ Z Z) ?_ | refine J (GS Z Z) ?_
    first | refine J (A2 rfl Ac Z Z Z) ?_ | refine J (A4 rfl Ac Z Z Z) ?_ | refine J (A5 rfl Ac Z Z Z) ?_ | refine J (A3 rfl Ac Z Z Z) ?_ | refine J (A1 rfl Ac Z Z Z) ?_
    refine J (Gi (f:=40) Z Z (hr.cell) rfl CB rfl) (J (Q1 (f:=40) (n:=w.R.length) Z Z hr.top (by simp [Ae,hl.len hw]) Cc rfl) (J (LL Z Z Z) (AD Z Z (AF ?_))))
    first | refine Az rfl (fun h21=>?_) (fun h21=>?_) | refine Aw rfl (fun h21=>?_) (fun h21=>?_)
    ·refine AE (AH (AD Z Z (AF (Aq ?_))));exact ⟨_,[40],_,An rfl,rfl,rfl,M,by rw [OT (by omega) h17 (by omega)],rfl,by rw [OT (by omega) h17 (by omega)];exact hrep⟩
    ·refine Ai (AE (AE (AH (AC Z Z ?_))))
     first | refine J (GP Z Z) ?_ | refine J (GR Z Z) ?_ | refine J (GQ Z Z) ?_ | refine J (GS Z Z) ?_
     first | refine J (A2 rfl Ac Z Z Z) ?_ | refine J (A4 rfl Ac Z Z Z) ?_ | refine J (A5 rfl Ac Z Z Z) ?_ | refine J (A3 rfl Ac Z Z Z) ?_ | refine J (A1 rfl Ac Z Z Z) ?_
     refine J (Gi (f:=40) Z Z (hr.cell) rfl CB rfl) ?_
     first | refine J (FW Z Z Z) ?_ | refine J (FV Z Z Z) ?_ | refine J (FL Z Z Z) ?_ | refine J (FO Tryz.underlying65 Z Z Z) ?_ | refine J (FR Tryz.underlying65 Z Z Z) ?_ | refine J (FQ Tryz.underlying65 Z Z) ?_ | refine J (FU Tryz.underlying65 Z Z) ?_ | refine J (FT Tryz.underlying65 Z Z) ?_ | refine J (FP Tryz.underlying65 Z Z Z) ?_ | refine J (fSq Tryz.underlying65 Z Z) ?_
     refine AF (DM rfl (rfl) (Ai (AE (AH (AC Z Z ?_)))))
     first | refine J (GP Z Z) ?_ | refine J (GR Z Z) ?_ | refine J (GQ Z Z) ?_ | refine J (GS Z Z) ?_
     first | refine J (A2 rfl Ac Z Z Z) ?_ | refine J (A4 rfl Ac Z Z Z) ?_ | refine J (A5 rfl Ac Z Z Z) ?_ | refine J (A3 rfl Ac Z Z Z) ?_ | refine J (A1 rfl Ac Z Z Z) ?_
     refine J (Gi (f:=40) Z Z (hr.cell) rfl CB rfl) (AC Z Z (U (Ei 1 Z Z Z Z) ?_));refine Hi 42 1 40 hF Z Z Z Z Z Z Z Z Z Z (fun _=>rfl) fun h hh=>(Cq 40 h rfl (D9 _ _ _) rfl (U (F3 (f:=40) (eE E) (x) (some h) Z Z ((by rw [SY,ER (fun e=>by rw [←e,hr.top] at hh;cases hh)];exact hr.top)) rfl Cc EU Z Z) (AF (AE (AH (AD Z Z (AF (Aq ?_))))))));exact ⟨_,[40],_,An rfl,rfl,rfl,_,by rw [OS (by omega) h17 (by omega)],rfl,by rw [OS (by omega) h17 (by omega)];exact add_rep hr hl h17 hw hh⟩
section
variable {P:Program} {F:Fr} {s:AS} {α β:Type} [DecidableEq α] {eK:α ->D} {eV:β ->D} {K:TypeId} {kv:α ->Value} {d:Nat} {ty T E:TypeId} {pos:String} {aft:Array Edge} {g:Option (Nat×Bool)} {x y z:Operand} {bs:Option (List Nat×Nat)}
theorem JD (m:List (α×β)) (a:α) (b0 v:β) {x0:D} {f i:Nat} (hx:s.ev x=some (.map f i)) (ho:hget s.hp f i=some (.map bs (Ae eK eV m))) (hy:s.ev y=some (.d (eK a))) (hT:BW P T K E=true) (KT:BT P K eK kv) (hz:C6 P E=some (.d x0)) (hw:∀w O v,AM w O x0 v ->AM w O (eV b0) v) (hv:CJ m a b0=v) (hd:Nat.blt d s.n=true):
  AA P F ⟨some d,.lookup T x y false,ty,pos,aft,g⟩ s d (.d (eV v)):=
 Bt _ hd fun ρ act w hs=>by
  obtain ⟨mb,arr,c,e1,_,h1,h2,h3,_⟩:=hs.mapAt hx ho;have hk:act.eval y=kv a:=(hs.repD hy).val (KT.val a);obtain ⟨zv,hz1,hz2⟩:=Dj hz w
  have hz3:∀w' O ρ,AP w' O ρ (.d (eV b0)) zv:=fun w' O ρ=>by
   have:=hz2 w' O ρ
   cases this with
   | d h=>exact .d (hw _ _ _ h)
  subst hv;rcases hit_get KT h2 h3 a b0 with ⟨g1,_,g3,_⟩ | ⟨j,e,g1,g2,_,_,_,_,g7⟩
  ·refine ⟨zv,?_,by rw [g3];exact hz3 _ _ _⟩
   simp [execOp,Instr.lookup,run_underlying (N7 hT),e1,hk,MapKept.run_getObj_map h1,KT.check,KT.find w a _ _ (QP KT h2 h3),g1,hz1,Result.andThen]
  ·refine ⟨e.val,?_,.d g7⟩
   simp [execOp,Instr.lookup,run_underlying (N7 hT),e1,hk,MapKept.run_getObj_map h1,KT.check,KT.find w a _ _ (QP KT h2 h3),g1,Result.andThen]
end
theorem SR.meltMap {F:Fr} {s:AS} {ρ:Nat ->Nat ->Value} {act:Act} {w:World} (hs:SR F s ρ act w) (g i f:Nat) {M:MF} {bs:Option (List Nat×Nat)} {es es':List (D×D)} {env':List (Nat×AV)} {hp1 hp2 hp':Hp} (hM:hfam s.hp f=some [.multi M])
  (hE:AO f s.env=some env') (hH:AN f s.hp=some hp1) (hh:B8 f hp1=some hp2) (ho:hget hp2 g i=some (.map bs es)) (hlen:es'.length=es.length)
  (hxy:∀(j:Nat) x y,es[j]? =some x ->es'[j]? =some y ->x.1=y.1∧N5 M x.2 y.2) (hset:Ay hp2 g i (.map bs es')=some hp'):SR F ⟨s.n,env',hp'⟩ ρ act w:=by
 obtain ⟨h2,hO1,hO2⟩:=hs.forget f hE hH hh (fun j t cs e=>by
  rw [ES hM] at e
  cases hm:M j with
  | none=>rw [hm] at e;cases e
  | some m=>rw [hm] at e;injection e with e;exact A7.notBlk e)
 refine h2.write g i (.map bs es) (.map bs es') ho (Ah hset) Z Z Z Z (fun _ _=>rfl) (fun _ _ e=>by cases e) fun hrep=>?_;obtain ⟨mb,arr,c,k1,k2,k3,k4,k5⟩:=h2.heap.sim g i _ ho;refine ⟨mb,arr,c,k1,k2,by rw [hlen];exact k3,fun j e y he hy=>?_,k5⟩;have hjl:j<es.length:=by rw [←hlen];exact (List.getElem?_eq_some_iff.1 hy).1
 have hx:es[j]? =some es[j]:=List.getElem?_eq_getElem hjl;obtain ⟨e1,e2⟩:=hxy j _ _ hx hy;obtain ⟨g1,g2⟩:=k4 j e _ he hx;have h3:=AM.melt hs hM hO1 hO2 e2 g2;have q1:=hrep (.d _) _ (.d g1);have q2:=hrep (.d _) _ (.d h3);exact ⟨by rw [←e1];cases q1 with | d h=>exact h,by cases q2 with | d h=>exact h⟩
section
variable {P:Program} {F:Fr} {Q:Exit ->AS ->Prop} {c:Code} {n:Nat} {env env':List (Nat×AV)} {hp hp1 hp2 hp':Hp}
theorem QI (g i f:Nat) {M:MF} {bs:Option (List Nat×Nat)} {es:List (D×D)} (es':List (D×D)) (hM:hfam hp f=some [.multi M])
  (hE:AO f env=some env') (hH:AN f hp=some hp1) (hh:B8 f hp1=some hp2) (ho:hget hp2 g i=some (.map bs es)) (hlen:es'.length=es.length)
  (hxy:∀(j:Nat) x y,es[j]? =some x ->es'[j]? =some y ->x.1=y.1∧N5 M x.2 y.2) (hset:Ay hp2 g i (.map bs es')=some hp') (h:B9 P F c Q ⟨n,env',hp'⟩):B9 P F c Q ⟨n,env,hp⟩:=
 fun ρ act w hs=>h ρ act w (hs.meltMap g i f hM hE hH hh ho hlen hxy hset)
end
def GM {α:Type} (f:St ->α) (k:St) (v:α):St ->α:=fun x=>if x=k then v else f x
theorem QR {α:Type} {f:St ->α} {k:St} {v:α}:GM f k v k=v:=if_pos rfl
theorem N4 {α:Type} {f:St ->α} {k x:St} {v:α} (h:x≠k):GM f k v x=f x:=if_neg h
abbrev hvD (q:Hd×List St):D:=hdr q.1 q.2.length
abbrev Dx (Ks:List St) (H:St ->Hd) (L:St ->List St):List (St×(Hd×List St)):=Ks.map fun k=>(k,(H k,L k))
def KH (Ks:List St) (a:St):List St:=if a∈Ks then Ks else Ks++ [a]
structure Jt (M:MF) (Ks:List St) (H:St ->Hd) (L:St ->List St):Prop where
 kd:Ks.Nodup
 off:∀k,k∉Ks ->H k=none∧L k=[]
 at_:∀k,K4 M (H k) 9 1 ((L k).map AU)
 inj:∀j k b c c',H j=some (b,c) ->H k=some (b,c') ->j=k
theorem Mp {M:MF} {Ks:List St} {H:St ->Hd} {L:St ->List St} (h:Jt M Ks H L) (a:St):CJ (Dx Ks H L) a (none,[])=(H a,L a):=by
 have key:∀Ks:List St,CJ (Dx Ks H L) a (none,[])=if a∈Ks then (H a,L a) else (none,[]):=by
  intro Ks
  induction Ks with
  | nil=>rfl
  | cons k r ih=>
   show (if a=k then (H k,L k) else CJ (Dx r H L) a (none,[]))=_
   by_cases e:a=k
   ·subst e;simp
   ·rw [if_neg e,ih];simp [e]
 rw [key]
 split
 ·rfl
 ·rename_i hn;obtain ⟨e1,e2⟩:=h.off a hn;rw [e1,e2]
theorem Mo {Ks:List St} {H:St ->Hd} {L:St ->List St} (hd:Ks.Nodup) (a:St) (h:Hd) (l:List St):Bq (Dx Ks H L) a (h,l)=Dx (KH Ks a) (GM H a h) (GM L a l):=by
 induction Ks with
 | nil=>simp [KH,Bq,QR]
 | cons k r ih=>
  obtain ⟨h1,h2⟩:=List.nodup_cons.1 hd;show (if a=k then (k,(h,l))::Dx r H L else (k,(H k,L k))::Bq (Dx r H L) a (h,l))=_
  by_cases e:a=k
  ·subst e;rw [if_pos rfl];unfold KH;rw [if_pos (by simp)];simp only [List.map_cons,QR]
   congr 1
   refine List.map_congr_left fun x hx=>?_;have:x≠a:=fun e=>h1 (e▸hx);rw [N4 this,N4 this]
  ·rw [if_neg e,ih h2];have e':k≠a:=fun h=>e h.symm
   have hi:KH (k::r) a=k::KH r a:=by
    unfold KH
    by_cases hr:a∈r
    ·simp [hr]
    ·simp [hr,e]
   rw [hi];simp only [List.map_cons,N4 e']
theorem Jt.zero:Jt (fun _=>none) [] (fun _=>none) (fun _=> []):=⟨List.nodup_nil,fun _ _=>⟨rfl,rfl⟩,fun _=>rfl,fun _ _ _ _ _ h=>by cases h⟩
theorem Jt.app {M:MF} {Ks:List St} {H:St ->Hd} {L:St ->List St} (h:Jt M Ks H L) (j:St) {l:List St} {b c:Nat} (hb:DC M (H j) b=none) (hc:(l.map AU).length≤c):
  Jt (BU (DC M (H j)) b (.row 9 1 c (l.map AU))) (KH Ks j) (GM H j (some (b,c))) (GM L j l):=by
 have hne:∀k,k≠j ->∀b' c',H k=some (b',c') ->b'≠b∧BU (DC M (H j)) b (.row 9 1 c (l.map AU)) b'=M b':=by
  intro k hkj b' c' e;have h1:=h.at_ k;rw [e] at h1;have h2:∀c'',H j≠some (b',c''):=fun c'' e2=>hkj (h.inj k j b' c' c'' e e2);refine ⟨fun e3=>?_,?_⟩
  ·subst e3;have:=Et h1.2 h2;rw [hb] at this;cases this
  ·rw [Rf hb h1.2 h2,h1.2]
 refine ⟨?_,fun k hk=>?_,fun k=>?_,fun k k' b1 c1 c2 e1 e2=>?_⟩
 ·unfold KH;split
  ·exact h.kd
  ·rename_i hn
   rw [List.nodup_append];exact ⟨h.kd,by simp,fun x hx y hy e=>by simp at hy;subst hy;subst e;exact hn hx⟩
 ·have hk2:k∉Ks∧k≠j:=by
   unfold KH at hk
   split at hk
   ·rename_i hj;exact ⟨hk,fun e=>hk (e▸hj)⟩
   ·simp at hk;exact hk
  rw [N4 hk2.2,N4 hk2.2];exact h.off k hk2.1
 ·by_cases e:k=j
  ·subst e;rw [QR,QR];exact ⟨hc,D9 _ _ _⟩
  ·rw [N4 e,N4 e];have h1:=h.at_ k
   match hh:H k,h1 with
   | none,h1=>exact h1
   | some (b',c'),h1=>exact ⟨h1.1,by rw [(hne k e b' c' hh).2];exact h1.2⟩
 ·by_cases ek:k=j<;>by_cases ek':k'=j
  ·rw [ek,ek']
  ·subst ek;rw [QR] at e1;rw [N4 ek'] at e2;injection e1 with e1;injection e1 with e1 _;subst e1
   exact ((hne k' ek' _ _ e2).1 rfl).elim
  ·subst ek';rw [QR] at e2;rw [N4 ek] at e1;injection e2 with e2;injection e2 with e2 _;subst e2
   exact ((hne k ek _ _ e1).1 rfl).elim
  ·rw [N4 ek] at e1;rw [N4 ek'] at e2;exact h.inj k k' b1 c1 c2 e1 e2
theorem Jt.melt {M:MF} {Ks:List St} {H:St ->Hd} {L:St ->List St} (h:Jt M Ks H L):∀(j:Nat) x y,(Ae AU hvD (Dx Ks H L))[j]? =some x ->(Ae AU stsD (Ks.map fun k=>(k,L k)))[j]? =some y ->x.1=y.1∧N5 M x.2 y.2:=by
 intro j x y hx hy;simp only [Ae,List.map_map,List.getElem?_map] at hx hy
 cases hk:Ks[j]? with
 | none=>rw [hk] at hx;cases hx
 | some k=>
  rw [hk] at hx hy;injection hx with hx;injection hy with hy
  subst hx hy;exact ⟨rfl,.inr ⟨H k,9,(L k).map AU,by simp [hvD],h.at_ k,fun z hz=>by obtain ⟨a,_,rfl⟩:=List.mem_map.1 hz;rfl,rfl⟩⟩
def Cr (lk:Nat ->List Lk) (p:St×Option Nat):List Lw:=match p.2 with
 | some h=>(lk h).map fun x=>⟨p.1,x.t,x.r⟩
 | none=> []
theorem LW.perm {E:List (St×Nat)} {lk:Nat ->List Lk} {w:Ws} (h:LW E lk w) (hw:B1 w):((eE E).flatMap (Cr lk)).Perm w.K:=by
 refine (List.perm_ext_iff_of_nodup ?_ hw.nd).2 fun l=>?_
 ·rw [List.nodup_iff_pairwise_ne,List.pairwise_flatMap]
  constructor
  ·intro p hp;obtain ⟨q,hq,rfl⟩:=List.mem_map.1 hp;show List.Pairwise _ ((lk q.2).map _);rw [List.pairwise_map];exact (h.ld q hq).imp fun {a b} hne e=>hne (Lk.eq_iff.2 (by injection e with _ e1 e2;exact ⟨e1,e2⟩))
  ·rw [List.pairwise_map];refine (List.pairwise_map.1 h.kd).imp fun {p q} hne x hx y hy e=>?_;obtain ⟨x1,_,rfl⟩:=List.mem_map.1 hx;obtain ⟨y1,_,rfl⟩:=List.mem_map.1 hy;injection e with e1
   exact hne e1
 ·rw [List.mem_flatMap]
  constructor
  ·rintro ⟨p,hp,hl⟩;obtain ⟨q,hq,rfl⟩:=List.mem_map.1 hp;obtain ⟨x,hx,rfl⟩:=List.mem_map.1 hl;exact (h.ls q hq x).1 hx
  ·intro hl;obtain ⟨n,hn⟩:=h.at (hw.lk l hl).1;exact ⟨(l.f,some n),List.mem_map.2 ⟨(l.f,n),hn,rfl⟩,List.mem_map.2 ⟨⟨l.t,l.r⟩,(h.ls _ hn _).2 hl,rfl⟩⟩
theorem HQ {E:List (St×Nat)} {k:St} {v:Option Nat} {j:Nat} (h:(eE E)[j]? =some (k,v)):∃n,(k,n)∈E∧v=some n:=by
 obtain ⟨p,hp,e⟩:=List.mem_map.1 (List.mem_of_getElem? h);injection e with e1 e2
 exact ⟨p.2,by rw [←e1];exact hp,e2.symm⟩
theorem Ra {l:List Lk} {k:Lk} {v:Bool} {j:Nat} (h:(DL l)[j]? =some (k,v)):k∈l:=by
 obtain ⟨p,hp,e⟩:=List.mem_map.1 (List.mem_of_getElem? h);injection e with e1 e2
 rw [←e1];exact hp
structure NB (acc:List Lw) (L:St ->List St):Prop where
 mem:∀k y,y∈L k↔∃l∈acc,l.t=0∧((l.f=k∧l.r=y)∨(l.r=k∧l.f=y))
 len:∀k,(L k).length≤2*acc.length
theorem NB.zero:NB [] (fun _=> []):=⟨fun k y=>by simp,fun _=>Nat.le_refl _⟩
theorem NB.skip {acc:List Lw} {L:St ->List St} (h:NB acc L) {l:Lw} (hl:l.t≠0):NB (acc++ [l]) L:=by
 refine ⟨fun k y=>?_,fun k=>?_⟩
 ·rw [h.mem]
  constructor
  ·rintro ⟨x,hx,r⟩;exact ⟨x,List.mem_append_left _ hx,r⟩
  ·rintro ⟨x,hx,h0,r⟩;rcases List.mem_append.1 hx with hx | hx
   ·exact ⟨x,hx,h0,r⟩
   ·simp at hx;subst hx;exact absurd h0 hl
 ·have:=h.len k;simp;omega
theorem NB.hit {acc:List Lw} {L:St ->List St} (h:NB acc L) {l:Lw} (hl:l.t=0):NB (acc++ [l]) (GM (GM L l.f (L l.f++ [l.r])) l.r (GM L l.f (L l.f++ [l.r]) l.r++ [l.f])):=by
 have hm:∀k y,y∈GM (GM L l.f (L l.f++ [l.r])) l.r (GM L l.f (L l.f++ [l.r]) l.r++ [l.f]) k↔y∈L k∨(k=l.f∧y=l.r)∨(k=l.r∧y=l.f):=by
  intro k y
  by_cases e1:k=l.r
  ·rw [e1,QR,List.mem_append]
   by_cases e2:l.r=l.f
   ·rw [e2,QR];simp
   ·rw [N4 e2];simp [e2]
  ·rw [N4 e1]
   by_cases e2:k=l.f
   ·rw [e2,QR,List.mem_append];have e3:¬l.f=l.r:=by rw [←e2];exact e1
    simp [e3]
   ·rw [N4 e2];simp [e1,e2]
 refine ⟨fun k y=>?_,fun k=>?_⟩
 ·rw [hm,h.mem]
  constructor
  ·rintro (⟨x,hx,r⟩ | ⟨e1,e2⟩ | ⟨e1,e2⟩)
   ·exact ⟨x,List.mem_append_left _ hx,r⟩
   ·exact ⟨l,List.mem_append_right _ (by simp),hl,.inl ⟨e1.symm,e2.symm⟩⟩
   ·exact ⟨l,List.mem_append_right _ (by simp),hl,.inr ⟨e1.symm,e2.symm⟩⟩
  ·rintro ⟨x,hx,h0,r⟩;rcases List.mem_append.1 hx with hx | hx
   ·exact .inl ⟨x,hx,h0,r⟩
   ·simp at hx;subst hx
    rcases r with ⟨e1,e2⟩ | ⟨e1,e2⟩
    ·exact .inr (.inl ⟨e1.symm,e2.symm⟩)
    ·exact .inr (.inr ⟨e1.symm,e2.symm⟩)
 ·have h1:=h.len k;have h2:=h.len l.r;have h3:=h.len l.f;rw [List.length_append]
  by_cases e1:k=l.r
  ·rw [e1,QR]
   by_cases e2:l.r=l.f
   ·rw [e2,QR];simp;omega
   ·rw [N4 e2];simp;omega
  ·rw [N4 e1]
   by_cases e2:k=l.f
   ·rw [e2,QR];simp;omega
   ·rw [N4 e2];simp;omega
theorem E8 {α:Type} {acc rest:List α} {x y:List α} {all:List α} (h:(acc++x).Perm all) (hx:x.Perm (y++rest)):((acc++y)++rest).Perm all:=by
 rw [List.append_assoc];exact (List.Perm.append_left acc hx).symm.trans h
theorem O8 {α β:Type} {f:α ->List β} {acc rest:List β} {x y:List α} {k:α} {all:List β} (h:(acc++x.flatMap f).Perm all) (hx:x.Perm (k::y)) (he:f k=rest):(acc++(rest++y.flatMap f)).Perm all:=by
 refine (List.Perm.append_left acc ?_).trans h;have:=(List.Perm.flatMap_right f hx).symm;rw [List.flatMap_cons,he] at this;exact this
theorem Gz {α β:Type} {f:α ->β} {acc R:List β} {x y:List α} {k:α} {all:List β} (h:(acc++(x.map f++R)).Perm all) (hx:x.Perm (k::y)):((acc++ [f k])++(y.map f++R)).Perm all:=by
 refine E8 h ?_;have:=(hx.map f).append_right R
 simpa using this
theorem IR (lk:Nat ->List Lk) (k:St) (h:Nat):Cr lk (k,some h)=(DL (lk h)).map fun x=>(⟨k,x.1.t,x.1.r⟩:Lw):=by
 show (lk h).map _=_;rw [List.map_map];rfl
theorem NB.wth {acc:List Lw} {L:St ->List St} {w:Ws} (h:NB acc L) (hp:acc.Perm w.K) (x y:St):y∈L x↔KN w x y:=by
 rw [h.mem];unfold KN
 constructor
 ·rintro ⟨l,hl,h0,⟨e1,e2⟩ | ⟨e1,e2⟩⟩
  ·left;rw [←e1,←e2,←h0];exact hp.mem_iff.1 hl
  ·right;rw [←e1,←e2,←h0];exact hp.mem_iff.1 hl
 ·rintro (h1 | h1)
  ·exact ⟨_,hp.mem_iff.2 h1,rfl,.inl ⟨rfl,rfl⟩⟩
  ·exact ⟨_,hp.mem_iff.2 h1,rfl,.inr ⟨rfl,rfl⟩⟩
theorem RU:∀w O v,AM w O (.sl (some true) []) v ->AM w O (hvD (none,[])) v:=fun _ _ _ h=>h.nrm1
set_option maxHeartbeats 1000000 in
theorem neigh_c {M:MF} {b:Nat} {w:Ws} (h:Bg M b w) (hw:B1 w) (hK:w.K.length≤1000000):AQ Tryz.prog 46 [.d (pD b 0)] [(40,[.multi M])] fun r H'=>∃(Ks:List St) (L:St ->List St) (bs:Option (List Nat×Nat)),r= .map 1 0∧H'=[(40,[.multi M]),(1,[.map bs (Ae AU stsD (Ks.map fun k=>(k,L k)))])]∧(∀k,k∉Ks ->L k=[])∧(∀x y,y∈L x↔KN w x y)∧∀k,(L k).length≤2000000:=by
 obtain ⟨m,E,lk,hr,hl⟩:=h;have hperm:=hl.perm hw;have hbm:b≠m:=fun e=>by subst e;have:=hr.cell;rw [hr.top] at this;cases this
 have hpm:∀p∈E,p.2≠m:=fun p hp e=>hr.ne (by rw [←e];exact List.mem_map_of_mem hp);refine CP Tryz.func46 Z Z Tryz.ntmps46 Z Z Z fun F hF=>(AE (AH (AD Z Z (AF ?_))));refine AE (AH (U (Ei 1 Z Z Z Z) (AD Z Z (AF (AE (AE (EB 50 Z Z Z (C4 40 m rfl hr.top (fun _ _=>rfl) fun B c hB hBn=>?_))))))))
 obtain ⟨M1,hM1⟩:∃M1,BU M m (.map (some (B,c)) (DI E))=M1:=⟨_,rfl⟩
 rw [hM1];have h1b:M1 b=some (.cells 67 [mD m]):=by rw [←hM1,ER hbm];exact hr.cell
 have h1m:M1 m=some (.map (some (B,c)) (DI E)):=by rw [←hM1,D9]
 have h1s:∀p∈E,M1 p.2=some (.map none (DJ (lk p.2))):=fun p hp=>by rw [←hM1,ER (hpm p hp)];exact hr.sub p hp
 refine AH (AC Z Z ?_)
 first | refine J (GP Z Z) ?_ | refine J (GR Z Z) ?_ | refine J (GQ Z Z) ?_ | refine J (GS Z Z) ?_
 first | refine J (A2 rfl Ac Z Z Z) ?_ | refine J (A4 rfl Ac Z Z Z) ?_ | refine J (A5 rfl Ac Z Z Z) ?_ | refine J (A3 rfl Ac Z Z Z) ?_ | refine J (A1 rfl Ac Z Z Z) ?_
 refine J (Gi (f:=40) Z Z (h1b) rfl CB rfl) (U (CV 2 (f:=40) Z Z (h1m) rfl Cc Z Z Z Z) (AF (BH (Db (α:=List Nat×List Lw×List St×(St ->Hd)×(St ->List St)×MF) (fun q=>⟨47,[(0,.d (pD b 0)),(3,(.map 1 0)),(12,(.ptr 2 0 0))],[(1,[Pp AU hvD (Dx q.2.2.1 q.2.2.2.1 q.2.2.2.2.1)]),(2,[.iter 40 m c q.1]),(40,[.multi M1]),(50,[.multi q.2.2.2.2.2])]⟩) (fun q=>(q.2.1++(Bi (eE E) B q.1).flatMap (Cr lk)).Perm ((eE E).flatMap (Cr lk))∧Jt q.2.2.2.2.2 q.2.2.1 q.2.2.2.1 q.2.2.2.2.1∧NB q.2.1 q.2.2.2.2.1) (fun q=>(Bi (eE E) B q.1).length) (([],[],[],(fun _=>none),(fun _=> []),fun _=>none)) (⟨by show ([]++(Bi (eE E) B []).flatMap _).Perm _;rw [CZ (by simpa [Ae] using hB)];exact List.Perm.refl _,Jt.zero,NB.zero⟩) (At hF [1,2,40,50] Z Z ⟨rfl,rfl,rfl,trivial⟩) ?_))));rintro ⟨seen,acc,Ks,H,L,M5⟩ ⟨hP,hN,hA⟩;dsimp only at hP hN hA⊢;refine AE (AH (Dv (eE E) Z Z Z (h1m) rfl (fun hl13=>?_) (fun j13 b13 k13 v13 hm13 hb13 hB13 hp13=>⟨_,rfl,?_⟩)))
 ·rw [hl13] at hP;refine Cq 40 m rfl h1m rfl ?_;rw [show BU M1 m (.map none (DI E))=M by rw [←hM1,SY];exact Es hr.top]
  first | refine J (Bn Z Z Z) ?_ | refine J (Bm Z Z Z) ?_
  refine AF (AE (DM Z Z (C5 (AE ?_))));have hPK:acc.Perm w.K:=(show acc.Perm _ by simpa using hP).trans hperm;refine QI 1 0 50 (Ae AU stsD (Ks.map fun k=>(k,L k))) Z Z Z Z Z (by simp [Ae]) hN.melt rfl (AH (AC Z Z (AD Z Z (AF (Aq ?_)))));exact ⟨_,[40,1],_,An rfl,rfl,rfl,Ks,L,_,rfl,rfl,fun k hk=>(hN.off k hk).2,hA.wth hPK,fun k=>Nat.le_trans (hA.len k) (by rw [hPK.length_eq];omega)⟩
 ·first | refine J (Bn Z Z Z) ?_ | refine J (Bm Z Z Z) ?_
  refine AF (AE (IH Z Z (Ai (BH (AE (AH (J (CX (eE E) j13 b13 Z Z Z (h1m) hm13 hb13 rfl) ?_)))))))
  first | refine J (Bn Z Z Z) ?_ | refine J (Bm Z Z Z) ?_
  first | refine J (Bn Z Z Z) ?_ | refine J (Bm Z Z Z) ?_
  refine AD Z Z (AD Z Z (AF (AE ?_)));obtain ⟨hd,hpe,hve⟩:=HQ hm13;subst hve;refine C4 40 hd rfl (h1s _ hpe) (fun _ _=>rfl) fun B2 c2 hB2 hBn2=>?_
  obtain ⟨M2,hM2⟩:∃M2,BU M1 hd (.map (some (B2,c2)) (DJ (lk hd)))=M2:=⟨_,rfl⟩
  rw [hM2];have h2h:M2 hd=some (.map (some (B2,c2)) (DJ (lk hd))):=by rw [←hM2,D9]
  refine AH (AC Z Z (U (CV 3 (f:=40) Z Z (h2h) rfl G8 Z Z Z Z) (AF (BH (Db (α:=List Nat×List Lw×List St×(St ->Hd)×(St ->List St)×MF) (fun q=>⟨47,[(0,.d (pD b 0)),(3,(.map 1 0)),(4,(.d (AU k13))),(12,(.ptr 2 0 0)),(19,(.ptr 3 0 0))],[(1,[Pp AU hvD (Dx q.2.2.1 q.2.2.2.1 q.2.2.2.2.1)]),(2,[.iter 40 m c (seen++ [b13])]),(3,[.iter 40 hd c2 q.1]),(40,[.multi M2]),(50,[.multi q.2.2.2.2.2])]⟩) (fun q=>(q.2.1++((Bi (DL (lk hd)) B2 q.1).map (fun x=>(⟨k13,x.1.t,x.1.r⟩:Lw))++(Bi (eE E) B (seen++ [b13])).flatMap (Cr lk))).Perm ((eE E).flatMap (Cr lk))∧Jt q.2.2.2.2.2 q.2.2.1 q.2.2.2.1 q.2.2.2.2.1∧NB q.2.1 q.2.2.2.2.1) (fun q=>(Bi (DL (lk hd)) B2 q.1).length) (([],acc,Ks,H,L,M5)) (⟨by show (acc++((Bi (DL (lk hd)) B2 []).map _++_)).Perm _;rw [CZ (by simpa [Ae] using hB2)];exact O8 hP hp13 (IR lk k13 hd),hN,hA⟩) (At hF [1,2,3,40,50] Z Z ⟨rfl,rfl,rfl,rfl,rfl,trivial⟩) ?_)))));rintro ⟨seen2,acc2,Ks2,H2,L2,M52⟩ ⟨hP2,hN2,hA2⟩;dsimp only at hP2 hN2 hA2⊢;refine AE (AH (Dv (DL (lk hd)) Z Z Z (h2h) rfl (fun hl20=>?_) (fun j20 b20 k20 v20 hm20 hb20 hB20 hp20=>⟨_,rfl,?_⟩)))
  ·rw [hl20] at hP2;refine Cq 40 hd rfl h2h rfl ?_;rw [show BU M2 hd (.map none (DJ (lk hd)))=M1 by rw [←hM2,SY];exact Es (h1s _ hpe)]
   first | refine J (Bn Z Z Z) ?_ | refine J (Bm Z Z Z) ?_
   refine AF (AE (DM Z Z (C5 ?_)));exact ⟨(seen++ [b13],acc2,Ks2,H2,L2,M52),⟨by simpa using hP2,hN2,hA2⟩,by show (Bi (eE E) B (seen++ [b13])).length<(Bi (eE E) B seen).length;rw [hp13.length_eq];exact Nat.lt_succ_self _,At hF [1,2,40,50] rfl (rfl) ⟨rfl,rfl,rfl,trivial⟩⟩
  ·first | refine J (Bn Z Z Z) ?_ | refine J (Bm Z Z Z) ?_
   refine AF (AE (IH Z Z (Ai (BH (AE (AH (J (CX (DL (lk hd)) j20 b20 Z Z Z (h2h) hm20 hb20 rfl) ?_)))))))
   first | refine J (Bn Z Z Z) ?_ | refine J (Bm Z Z Z) ?_
   refine U (HZ 4 Iw Z Z Z Z) (U (Bu Z Z Z Z Z Z Z ME) (AF (AE (AH ?_))))
   first | refine J (A2 rfl Dh Z Z Z) ?_ | refine J (A4 rfl Dh Z Z Z) ?_ | refine J (A5 rfl Dh Z Z Z) ?_ | refine J (A3 rfl Dh Z Z Z) ?_ | refine J (A1 rfl Dh Z Z Z) ?_
   first | refine J (AZ Z Z BV rfl) ?_ | refine J (AX Z Z Z BV rfl) ?_ | refine J (AY Z Z (rfl) rfl BV rfl) ?_
   first | refine J (FW Z Z Z) ?_ | refine J (FV Z Z Z) ?_ | refine J (FL Z Z Z) ?_ | refine J (FO Tryz.underlying3 Z Z Z) ?_ | refine J (FR Tryz.underlying3 Z Z Z) ?_ | refine J (FQ Tryz.underlying3 Z Z) ?_ | refine J (FU Tryz.underlying3 Z Z) ?_ | refine J (FT Tryz.underlying3 Z Z) ?_ | refine J (FP Tryz.underlying3 Z Z Z) ?_ | refine J (fSq Tryz.underlying3 Z Z) ?_
   refine AF ?_
   first | refine Az rfl (fun h26=>?_) (fun h26=>?_) | refine Aw rfl (fun h26=>?_) (fun h26=>?_)
   ·refine AE ?_;have hb2:=hA2.len k13;have hal:acc2.length≤1000000:=by have h1:=hP2.length_eq;rw [hperm.length_eq,List.length_append] at h1;omega
    refine AH (AC Z Z (AC Z Z (AC Z Z (AC Z Z (J (JD (Dx Ks2 H2 L2) k13 (none,[]) (H2 k13,L2 k13) Z Z Z RY EU za25 RU (Mp hN2 k13) rfl) ?_)))))
    first | refine J (A2 rfl Bd Z Z Z) ?_ | refine J (A4 rfl Bd Z Z Z) ?_ | refine J (A5 rfl Bd Z Z Z) ?_ | refine J (A3 rfl Bd Z Z Z) ?_ | refine J (A1 rfl Bd Z Z Z) ?_
    first | refine J (AZ Z Z AR rfl) ?_ | refine J (AX Z Z Z AR rfl) ?_ | refine J (AY Z Z (rfl) rfl AR rfl) ?_
    refine U (Fq 5 Ba Z Z Z Z Z Z Z Z) (U (Gr 31 60 50 (hN2.at_ k13) Z Z (by rw [List.length_map]) Z Z Z Z Z (IC (emb:=AU) (L2 k13) [k20.r] Z Z Z Z Z Z Z Z Ba (by show ((L2 k13).length+1)*16≤_;omega) Z Z Z Z)) (Ea 35 60 50 hF Z Z Z (by rw [List.length_map]) (by simp) Z Z Z Z Z Z Z (fun _ _=>rfl) fun b1 c1 hb1 hc1=>(U (LJ (Dx Ks2 H2 L2) k13 (some (b1,c1),L2 k13++ [k20.r]) Z Z Z RY EU Z Z) (AF ?_))));rw [Mo hN2.kd];have hN3:=hN2.app k13 hb1 hc1
    obtain ⟨K3,hK3⟩:∃K3,KH Ks2 k13=K3:=⟨_,rfl⟩
    obtain ⟨H3,hH3⟩:∃H3,GM H2 k13 (some (b1,c1))=H3:=⟨_,rfl⟩
    obtain ⟨L3,hL3⟩:∃L3,GM L2 k13 (L2 k13++ [k20.r])=L3:=⟨_,rfl⟩
    obtain ⟨M3,hM3⟩:∃M3,BU (DC M52 (H2 k13)) b1 (.row 9 1 c1 ((L2 k13++ [k20.r]).map AU))=M3:=⟨_,rfl⟩
    rw [hK3,hH3,hL3,hM3] at hN3⊢;have hb3:(L3 k20.r).length≤3000000:=by rw [←hL3];unfold GM;have:=hA2.len k20.r;split<;>simp<;>omega
    refine FK [[],[],[1],[],[],[4],[3,4,5],[],[7],[3,4,5,6,7,8],[0,1,2,3,4,5,6,7,8,9]] mixed rfl (D1 ?_)
    first | refine AG [3] [] Z Z (fun _=>AB (A8 Z Z)) ?_ | refine AI [3] Z Z (fun _=>AB (A8 Z Z)) ?_
    first | refine AG [6] [] Z Z (fun _=>AB (A2 rfl Bd Z Z Z)) ?_ | refine AI [6] Z Z (fun _=>AB (A2 rfl Bd Z Z Z)) ?_ | refine AG [6] [] Z Z (fun _=>AB (A4 rfl Bd Z Z Z)) ?_ | refine AI [6] Z Z (fun _=>AB (A4 rfl Bd Z Z Z)) ?_ | refine AG [6] [] Z Z (fun _=>AB (A5 rfl Bd Z Z Z)) ?_ | refine AI [6] Z Z (fun _=>AB (A5 rfl Bd Z Z Z)) ?_ | refine AG [6] [] Z Z (fun _=>AB (A3 rfl Bd Z Z Z)) ?_ | refine AI [6] Z Z (fun _=>AB (A3 rfl Bd Z Z Z)) ?_ | refine AG [6] [] Z Z (fun _=>AB (A1 rfl Bd Z Z Z)) ?_ | refine AI [6] Z Z (fun _=>AB (A1 rfl Bd Z Z Z)) ?_
    first | refine AG [37] [4] Z Z (fun _=>AB (AZ Z Z AR rfl)) ?_ | refine AG [37] [4] Z Z (fun _=>AB (AX Z Z Z AR rfl)) ?_ | refine AG [37] [4] Z Z (fun _=>AB (AY Z Z (rfl) rfl AR rfl)) ?_
    first | refine AG [3] [] Z Z (fun _=>AB (A8 Z Z)) ?_ | refine AI [3] Z Z (fun _=>AB (A8 Z Z)) ?_
    first | refine AG [6] [] Z Z (fun _=>AB (A2 rfl Bd Z Z Z)) ?_ | refine AI [6] Z Z (fun _=>AB (A2 rfl Bd Z Z Z)) ?_ | refine AG [6] [] Z Z (fun _=>AB (A4 rfl Bd Z Z Z)) ?_ | refine AI [6] Z Z (fun _=>AB (A4 rfl Bd Z Z Z)) ?_ | refine AG [6] [] Z Z (fun _=>AB (A5 rfl Bd Z Z Z)) ?_ | refine AI [6] Z Z (fun _=>AB (A5 rfl Bd Z Z Z)) ?_ | refine AG [6] [] Z Z (fun _=>AB (A3 rfl Bd Z Z Z)) ?_ | refine AI [6] Z Z (fun _=>AB (A3 rfl Bd Z Z Z)) ?_ | refine AG [6] [] Z Z (fun _=>AB (A1 rfl Bd Z Z Z)) ?_ | refine AI [6] Z Z (fun _=>AB (A1 rfl Bd Z Z Z)) ?_
    first | refine AG [40] [4] Z Z (fun _=>AB (AZ Z Z AR rfl)) ?_ | refine AG [40] [4] Z Z (fun _=>AB (AX Z Z Z AR rfl)) ?_ | refine AG [40] [4] Z Z (fun _=>AB (AY Z Z (rfl) rfl AR rfl)) ?_
    refine AG [39,41] [1] Z Z (fun _=>AB (JD (Dx K3 H3 L3) k20.r (none,[]) (H3 k20.r,L3 k20.r) Z Z Z RY EU za25 RU (Mp hN3 k20.r) rfl)) ?_
    first | refine AG [4] [] Z Z (fun _=>AB (A8 Z Z)) ?_ | refine AI [4] Z Z (fun _=>AB (A8 Z Z)) ?_
    refine Bo [43] [6] [(44,_)] Z Z (fun _=>I1 (Fq 6 Ba Z Z Z Z Z Z Z Z)) (.inr ⟨44,_,rfl,rfl,rfl,rfl,rfl⟩) Z Z Z Z Z (Bo [42,44] [50,6,61] [(45,_)] Z Z (fun _=>I1 (Gr 42 61 50 (hN3.at_ k20.r) Z Z (by rw [List.length_map]) Z Z Z Z Z (IC (emb:=AU) (L3 k20.r) [k13] Z Z Z Z Z Z Z Z Ba (by show ((L3 k20.r).length+1)*16≤_;omega) Z Z Z Z))) (.inr ⟨45,_,rfl,rfl,rfl,rfl,rfl⟩) Z Z Z Z Z (D2 10 Z Z Z (BY 11 Z Z (Ea 45 61 50 hF Z Z Z (by rw [List.length_map]) (by simp) Z Z Z Z Z Z Z (fun _ _=>rfl) fun b2 c2 hb2 hc2=>(U (LJ (Dx K3 H3 L3) k20.r (some (b2,c2),L3 k20.r++ [k13]) Z Z Z RY EU Z Z) ?_)))));rw [Mo hN3.kd];have hN4:=hN3.app k20.r hb2 hc2;have hA4:NB (acc2++ [(⟨k13,k20.t,k20.r⟩:Lw)]) (GM L3 k20.r (L3 k20.r++ [k13])):=by rw [←hL3];exact hA2.hit h26
    refine AF ⟨rfl,?_⟩;refine Eg ?_;exact ⟨(seen2++ [b20],acc2++ [⟨k13,k20.t,k20.r⟩],_,_,_,_),⟨Gz hP2 hp20,hN4,hA4⟩,by show (Bi (DL (lk hd)) B2 (seen2++ [b20])).length<(Bi (DL (lk hd)) B2 seen2).length;rw [hp20.length_eq];exact Nat.lt_succ_self _,At hF [1,2,3,40,50] rfl (rfl) ⟨rfl,rfl,rfl,rfl,rfl,trivial⟩⟩
   ·refine Ai ?_;exact ⟨(seen2++ [b20],acc2++ [⟨k13,k20.t,k20.r⟩],Ks2,H2,L2,M52),⟨Gz hP2 hp20,hN2,hA2.skip (l:=⟨k13,k20.t,k20.r⟩) h26⟩,by show (Bi (DL (lk hd)) B2 (seen2++ [b20])).length<(Bi (DL (lk hd)) B2 seen2).length;rw [hp20.length_eq];exact Nat.lt_succ_self _,At hF [1,2,3,40,50] rfl (rfl) ⟨rfl,rfl,rfl,rfl,rfl,trivial⟩⟩
abbrev KF:FuncId:=61
abbrev hVs (q:List St):Hp:=[(920,[.rowD 9 1 (q.map AU)]),(1,[.blk 25 [.own 920 0 q.length]])]
abbrev lpS (l:Nat) (A B:Code) (m:Nat):ED:=⟨l,13,[(2,.ptr 1 0 0),(6,.fn KF [.d (.ptr (mD m))])],.ready,none, #[7],A,B⟩
theorem keys1_c {M:MF} {m:Nat} {E:List (St×Nat)} (hm:M m=some (.map none (DI E))) (l:Nat) (A B:Code)
  (hY:∀(q:List St) x,q.length<E.length ->Ft Tryz.prog l [.d (AU x)] ((900,[.loop (lpS l A B m)])::hVs q) fun v H'=>v= .d (.raw (.bool true))∧H'=(900,[.loop (lpS l A B m)])::hVs (q++ [x])):
  AQ Tryz.prog KF [.d (.raw (CR l)),.d (.ptr (mD m))] ((900,[.loop (lpS l A B m)])::(hVs []++ [(40,[.multi M])])) fun r H'=>r= .tup []∧∃its:List St,its.Perm (E.map Prod.fst)∧H'=(900,[.loop (lpS l A B m)])::(hVs its++ [(40,[.multi M])]):=by
 refine CP Tryz.func61 Z Z Tryz.ntmps61 Z Z Z fun F hF=>(AE (C4 40 m rfl hm (fun _ _=>rfl) fun Bb c hB hBn=>?_))
 obtain ⟨M1,hM1⟩:∃M1,BU M m (.map (some (Bb,c)) (DI E))=M1:=⟨_,rfl⟩
 have h1m:M1 m=some (.map (some (Bb,c)) (DI E)):=by rw [←hM1,D9]
 rw [hM1];refine AH ?_
 first | refine J (AZ Z Z CB rfl) ?_ | refine J (AX Z Z Z CB rfl) ?_ | refine J (AY Z Z (rfl) rfl CB rfl) ?_
 refine U (CV 2 (f:=40) Z Z (h1m) rfl Cc Z Z Z Z) (AF (BH (Db (α:=List Nat×List St) (fun q=>⟨14,[(0,.d (.raw (CR l))),(5,(.ptr 2 0 0))],[(900,[.loop (lpS l A B m)]),(920,[.rowD 9 1 (q.2.map AU)]),(1,[.blk 25 [.own 920 0 q.2.length]]),(2,[.iter 40 m c q.1]),(40,[.multi M1])]⟩) (fun q=>(q.2++(Bi (eE E) Bb q.1).map Prod.fst).Perm (E.map Prod.fst)) (fun q=>(Bi (eE E) Bb q.1).length) (([],[])) (by show ([]++(Bi (eE E) Bb []).map Prod.fst).Perm _;rw [CZ (by simpa [Ae] using hB),Jh];exact List.Perm.refl _) (At hF [900,920,1,2,40] Z Z ⟨rfl,rfl,trivial⟩) ?_)));rintro ⟨seen,acc⟩ hP;dsimp only at hP⊢;refine AE (AH (Dv (eE E) Z Z Z (h1m) rfl (fun hl6=>?_) (fun j6 b6 k6 v6 hm6 hb6 hB6 hp6=>⟨_,rfl,?_⟩)))
 ·rw [hl6] at hP;refine Cq 40 m rfl h1m rfl ?_;rw [show BU M1 m (.map none (DI E))=M by rw [←hM1,SY];exact Es hm]
  first | refine J (Bn Z Z Z) ?_ | refine J (Bm Z Z Z) ?_
  refine AF (AE (DM Z Z (C5 ?_)));exact ⟨_,[900,920,1,40],_,An rfl,rfl,rfl,rfl,acc,by simpa using hP,rfl⟩
 ·first | refine J (Bn Z Z Z) ?_ | refine J (Bm Z Z Z) ?_
  refine AF (AE (IH Z Z (Ai (BH (AE (AH (J (CX (eE E) j6 b6 Z Z Z (h1m) hm6 hb6 rfl) ?_)))))))
  first | refine J (Bn Z Z Z) ?_ | refine J (Bm Z Z Z) ?_
  refine AD Z Z (AF (AE ?_));have hlt:acc.length<E.length:=by have h1:=hP.length_eq;have h2:=hp6.length_eq;simp at h1 h2;omega
  refine AH (AC Z Z (AC Z Z ?_));refine Mh Z Z (hY acc k6 hlt) [900,920,1] ⟨rfl,rfl,rfl,trivial⟩ Z Z Z Z (fun r H' ⟨e1,e2⟩=>by subst e1 e2;exact ⟨rfl,rfl,rfl⟩) rfl fun r H' ⟨e1,e2⟩=>?_;subst e1 e2
  first | refine J (ET Z Z) ?_ | refine J (EQ Z Z) ?_
  refine AF (DM rfl (rfl) (Ai ?_));exact ⟨(seen++ [b6],acc++ [k6]),E8 hP (y:=[k6]) (by simpa using hp6.map Prod.fst),by show (Bi (eE E) Bb (seen++ [b6])).length<(Bi (eE E) Bb seen).length;rw [hp6.length_eq];exact Nat.lt_succ_self _,At hF [900,920,1,2,40] rfl (rfl) ⟨rfl,rfl,trivial⟩⟩
theorem keys_c (m:Nat):AQ Tryz.prog 49 [.d (mD m)] [] fun r H'=>r= .fn KF [.d (.ptr (mD m))]∧H'=[]:=by
 refine CP Tryz.func49 Z Z Tryz.ntmps49 Z Z Z fun F hF=>(AE (AH (U (Gl 1 Z Z Z Z Z Z Z) ?_)));refine AD Z Z (AF (AE (AH (Kf 1 1 (mD m) [] hF Z Z Z (by intro c hc;simp [D.cells] at hc;subst hc;rfl) Z Z Z (J (Do Z Z) (AD Z Z (AF (Aq ?_))))))));exact ⟨_,[],[],An rfl,rfl,rfl,rfl,rfl⟩
theorem SP {M:MF} {m:Nat} {E:List (St×Nat)} (hm:M m=some (.map none (DI E))) (hE:E.length≤1000000):AQ Tryz.prog 79 [.d (.sl (some true) []),.fn KF [.d (.ptr (mD m))]] [(40,[.multi M])] fun r H'=>∃its:List St,its.Perm (E.map Prod.fst)∧r= .own 920 0 its.length∧H'=[(40,[.multi M]),(920,[.rowD 9 1 (its.map AU)])]:=by
 refine Jo Tryz.func79 Z Z Tryz.ntmps79 Z Z Z fun F hF hFl=>(AE (AH (U (Gl 1 Z Z Z Z Z Z Z) ?_)));refine AD Z Z (AF (AE (AE (DG 1 0 0 920 Ba Z Z Z Z Z Z Z (AH (AC Z Z (AF (BH ?_))))))));refine SV [2,6] rfl ?_;refine Ov (γ:=List St) hFl 900 Z Z Z Z Z [1,920,40] (CHr:=hVs []++ [(40,[.multi M])]) (fun its=>its.Perm (E.map Prod.fst)) (fun its=>hVs its++ [(40,[.multi M])]) (fun _=> .ready) (fun _=>none) ⟨rfl,rfl,rfl,trivial⟩ Z Z Z (fun _=>rfl) (fun _=>rfl) rfl (fun _ _=>by simp) (fun _ _=>⟨rfl,rfl⟩) [920,1,40] hF Z Z (fun _ _=>rfl) (fun l A B hA hB=>?_) (fun its hits=>?_)
 ·refine (keys1_c hm l A B fun q x hq=>?_).mono (fun r H' ⟨e1,its,e2,e3⟩=>⟨e1,its,e2,by rw [e3]⟩);refine Lz (lf:=900) Z Z Z Z fun F hF hr=>?_;show B9 _ _ A _ _;rw [hA];refine AH (AD Z Z (AF (⟨rfl,_,_,rfl,rfl,rfl,rfl,?_⟩)));show B9 _ _ B _ _;rw [hB];refine BH (AH ?_)
  first | refine J (AZ Z Z AW rfl) ?_ | refine J (AX Z Z Z AW rfl) ?_ | refine J (AY Z Z (rfl) rfl AW rfl) ?_
  refine AC Z Z (U (Fq 30 Ba Z Z Z Z Z Z Z Z) ?_)
  first | refine U (IC (q) ([x]) Z Z Z Z Z Z Z Z Ba (by simp only [List.length_singleton];omega) Z Z Z Z) ?_ | refine U (Iu (q) ([x]) Z Z Z Z Z Z (fun _=>rfl) Ba (by simp only [List.length_singleton];omega) Z Z Z Z) ?_
  refine U (Bu Z Z Z Z Z Z Z Bw) (AF ?_);exact ⟨none,_,_,[900,920,1],_,rfl,rfl,rfl,rfl,rfl,rfl,rfl,rfl⟩
 ·refine AE (AH ?_)
  first | refine J (AZ Z Z AW rfl) ?_ | refine J (AX Z Z Z AW rfl) ?_ | refine J (AY Z Z (rfl) rfl AW rfl) ?_
  refine AD Z Z (AF (Aq ?_));exact ⟨_,[40,920],_,An rfl,rfl,rfl,its,hits,rfl,rfl⟩
theorem QB {M:MF} {m:Nat} {E:List (St×Nat)} (hm:M m=some (.map none (DI E))) (hE:E.length≤1000000):AQ Tryz.prog 60 [.fn KF [.d (.ptr (mD m))]] [(40,[.multi M])] fun r H'=>∃its:List St,its.Perm (E.map Prod.fst)∧r= .own 920 0 its.length∧H'=[(40,[.multi M]),(920,[.rowD 9 1 (its.map AU)])]:=by
 refine CP Tryz.func60 Z Z Tryz.ntmps60 Z Z Z fun F hF=>(AE (AH (AD Z Z (AF (AE (AH (AC Z Z ?_)))))));refine H1 (If (SP hm hE) rfl [40,920] ⟨rfl,rfl,trivial⟩ Z Z Z Z (fun r H' ⟨its,h1,h2,h3⟩=>by subst h2 h3;exact ⟨rfl,rfl,rfl⟩) rfl) rfl ?_;rintro _ ⟨r,H',⟨its,hits,e1,e2⟩,rfl⟩;subst e1 e2;refine AD Z Z (AF (Aq ?_));exact ⟨_,[40,920],_,An rfl,rfl,rfl,its,hits,rfl,rfl⟩
theorem Q5 {M:MF} {m:Nat} {E:List (St×Nat)} {R:List St} (hm:M m=some (.map none (DI E))) (hE:E.length≤1000000) (hn:(E.map Prod.fst).Nodup) (hR:Fu R) (hRm:∀x,x∈E.map Prod.fst↔x∈R):AQ Tryz.prog 48 [.fn KF [.d (.ptr (mD m))]] [(40,[.multi M])] fun r H'=>r= .d (stsD R)∧H'=[(40,[.multi M])]:=by
 refine CP Tryz.func48 Z Z Tryz.ntmps48 Z Z Z fun F hF=>(AE (AH (AD Z Z (AF (AE (AH (AC Z Z ?_)))))));refine H1 (If (QB hm hE) rfl [40,920] ⟨rfl,rfl,trivial⟩ Z Z Z Z (fun r H' ⟨its,h1,h2,h3⟩=>by subst h2 h3;exact ⟨rfl,rfl,rfl⟩) rfl) rfl ?_;rintro _ ⟨r,H',⟨its,hits,e1,e2⟩,rfl⟩;subst e1 e2;refine AD Z Z (AF (AE ?_));have hs:Ct its=R:=Ha (hits.nodup_iff.2 hn) hR fun x=>hits.mem_iff.trans (hRm x);have hil:its.length≤1000000:=by rw [hits.length_eq,List.length_map];exact hE
 refine AH (AC Z Z (U (JC Og its (by omega) Z Z Z Z Z Z Z) (AF (AE ?_))));rw [hs];have hl:its.length=R.length:=by rw [←hs,Cj]
 refine OY (emb:=AU) 3 920 R Z Z Z hl Z Z Z (AH (AC Z Z (AD Z Z (AF (Aq ?_)))));exact ⟨_,[40],_,An rfl,rfl,rfl,rfl,rfl⟩
abbrev VF:FuncId:=47
abbrev vfA:AV:= .fn VF [.ptr 5 0 0,.ptr 7 0 0,.ptr 4 0 0,.ptr 9 0 0]
abbrev HV (nbs:Option (List Nat×Nat)) (NE:List (St×List St)) (O:List (St×Nat)) (n:Nat) (hs:Nat ->Hd) (ls:Nat ->List St) (M5:MF):Hp:=
 [(4,[.blk 88 [.map 1 0]]),(1,[.map nbs (Ae AU stsD NE)]),(5,[.blk 75 [.map 6 0]]),(6,[Pp AU natD O]),(7,[.blk 74 [.own 8 0 n]]),(8,[.rowD 25 1 (rowS n hs ls)]),(9,[.blk 90 [vfA]]),(50,[.multi M5])]
theorem Po {α β:Type} [DecidableEq α] {O:List (α×β)} {x:α} {v:β} (h:x∉O.map Prod.fst):Bq O x v=O++ [(x,v)]:=by
 induction O with
 | nil=>rfl
 | cons p r ih=>
  have h1:x≠p.1:=fun e=>h (by rw [e];simp);obtain ⟨k,b⟩:=p;show (if x=k then (k,v)::r else (k,b)::Bq r x v)=_;rw [if_neg h1,ih fun h'=>h (List.mem_cons_of_mem _ h')]
  rfl
structure VR (w:Ws) (V:List St) (x:St) (ad:List St):Prop where
 nd:ad.Nodup
 nw:∀y∈ad,y∉V∧y∈w.R∧Gm w x y
 self:x∈V∨x∈ad
 cl:∀y∈ad,∀z,KN w y z ->z∈V∨z∈ad
structure VP (w:Ws) (V:List St) (x:St) (ls:List St) (k:Nat) (ad:List St):Prop where
 nd:ad.Nodup
 nw:∀y∈ad,y∉V∧y∈w.R∧Gm w x y
 self:x∈ad
 cl:∀y∈ad,y≠x ->∀z,KN w y z ->z∈V∨z∈ad
 here:∀j,j<k ->∀z,ls[j]? =some z ->z∈V∨z∈ad
theorem VR.done {w:Ws} {V:List St} {x:St} (h:x∈V):VR w V x []:=⟨List.nodup_nil,(fun _ h=>by cases h),.inl h,(fun _ h=>by cases h)⟩
theorem VP.start {w:Ws} {V:List St} {x:St} {ls:List St} (h:x∉V) (hx:x∈w.R):VP w V x ls 0 [x]:=by
 refine ⟨by simp,fun y hy=>?_,by simp,fun y hy hne=>?_,fun j hj=>by omega⟩
 ·simp at hy;subst hy;exact ⟨h,hx,.refl⟩
 ·simp at hy;exact absurd hy hne
theorem VP.next {w:Ws} {V:List St} {x:St} {ls:List St} {k:Nat} {ad ad':List St} (h:VP w V x ls k ad) {y:St} (hk:ls[k]? =some y) (hxy:KN w x y) (h':VR w (V++ad) y ad'):VP w V x ls (k+1) (ad++ad'):=by
 refine ⟨?_,fun z hz=>?_,List.mem_append_left _ h.self,fun z hz hne u hu=>?_,fun j hj z hz=>?_⟩
 ·rw [List.nodup_append];refine ⟨h.nd,h'.nd,fun a ha b hb e=>?_⟩;subst e;exact (h'.nw a hb).1 (List.mem_append_right _ ha)
 ·rcases List.mem_append.1 hz with hz | hz
  ·exact h.nw z hz
  ·obtain ⟨h1,h2,h3⟩:=h'.nw z hz;exact ⟨fun hv=>h1 (List.mem_append_left _ hv),h2,(BM.one hxy).trans h3⟩
 ·rcases List.mem_append.1 hz with hz | hz
  ·rcases h.cl z hz hne u hu with h1 | h1
   ·exact .inl h1
   ·exact .inr (List.mem_append_left _ h1)
  ·rcases h'.cl z hz u hu with h1 | h1
   ·rcases List.mem_append.1 h1 with h1 | h1
    ·exact .inl h1
    ·exact .inr (List.mem_append_left _ h1)
   ·exact .inr (List.mem_append_right _ h1)
 ·by_cases hjk:j<k
  ·rcases h.here j hjk z hz with h1 | h1
   ·exact .inl h1
   ·exact .inr (List.mem_append_left _ h1)
  ·have:j=k:=by omega
   subst this;rw [hk] at hz;injection hz with hz;subst hz
   rcases h'.self with h1 | h1
   ·rcases List.mem_append.1 h1 with h1 | h1
    ·exact .inl h1
    ·exact .inr (List.mem_append_left _ h1)
   ·exact .inr (List.mem_append_right _ h1)
theorem VP.fin {w:Ws} {V:List St} {x:St} {ls:List St} {ad:List St} (h:VP w V x ls ls.length ad) (hls:∀z,z∈ls↔KN w x z):VR w V x ad:=by
 refine ⟨h.nd,h.nw,.inr h.self,fun y hy z hz=>?_⟩
 by_cases e:y=x
 ·subst e;obtain ⟨j,hj,rfl⟩:=List.getElem_of_mem ((hls z).2 hz);exact h.here j hj _ (List.getElem?_eq_getElem hj)
 ·exact h.cl y hy e z hz
abbrev addO (O:List (St×Nat)) (ad:List St) (g:Nat):List (St×Nat):=O++ad.map fun y=>(y,g)
theorem Fl (O:List (St×Nat)) (ad:List St) (g:Nat):(addO O ad g).map Prod.fst=O.map Prod.fst++ad:=by
 rw [List.map_append,List.map_map];congr 1;exact List.map_id _
theorem ST (O:List (St×Nat)) (a b:List St) (g:Nat):addO (addO O a g) b g=addO O (a++b) g:=by simp [addO]
theorem OK {V R:List St} (hn:V.Nodup) (hs:∀y∈V,y∈R):V.length≤R.length:=hn.length_le_of_subset hs
theorem Fx {α:Type} {f:Nat ->α} {i:Nat} {x y:α}:Ap (Ap f i x) i y=Ap f i y:=by
 funext j;unfold Ap;split<;>rfl
structure NbOk (w:Ws) (NE:List (St×List St)) (L:St ->List St):Prop where
 get:∀x,CJ NE x []=L x
 wth:∀x y,y∈L x↔KN w x y
 len:∀x,(L x).length≤2000000
theorem nil_st:∀w O v,AM w O (.sl (some true) []) v ->AM w O (stsD []) v:=fun _ _ _ h=>h.anyNil
set_option maxHeartbeats 1000000 in
theorem visit_c {w:Ws} (hw:B1 w) {nbs:Option (List Nat×Nat)} {NE:List (St×List St)} {L:St ->List St} (hL:NbOk w NE L) (n:Nat) (hn0:0<n) (hn1:n≤5000):
  ∀(k:Nat) (O:List (St×Nat)) (hs:Nat ->Hd) (ls:Nat ->List St) (M5:MF) (x:St),w.R.length - O.length≤k ->x∈w.R ->(O.map Prod.fst).Nodup ->(∀y∈O.map Prod.fst,y∈w.R) ->Lx M5 n hs ls ->(ls (n - 1)).length≤O.length→
  AQ Tryz.prog VF [.d (AU x),.ptr 5 0 0,.ptr 7 0 0,.ptr 4 0 0,.ptr 9 0 0] (HV nbs NE O n hs ls M5) fun r H'=>∃(ad:List St) (hs':Nat ->Hd) (M5':MF),r= .tup []∧H'=HV nbs NE (addO O ad (n - 1)) n hs' (Ap ls (n - 1) (ls (n - 1)++ad)) M5'∧Lx M5' n hs' (Ap ls (n - 1) (ls (n - 1)++ad))∧VR w (O.map Prod.fst) x ad:=by
 intro k
 induction k with
 | zero=>
  intro O hs ls M5 x hk hx hnd hsub hG hlen
  have hxO:x∈O.map Prod.fst:=Classical.byContradiction fun hxO=>by
   have h1:=OK (V:=x::O.map Prod.fst) (R:=w.R) (List.nodup_cons.2 ⟨hxO,hnd⟩) (fun y hy=>by
    rcases List.mem_cons.1 hy with rfl | hy
    ·exact hx
    ·exact hsub y hy)
   simp at h1;omega
  refine CP Tryz.func47 Z Z Tryz.ntmps47 Z Z Z fun F hF=>(AE (AE (AH ?_)))
  first | refine J (AZ Z Z FM rfl) ?_ | refine J (AX Z Z Z FM rfl) ?_ | refine J (AY Z Z (rfl) rfl FM rfl) ?_
  refine AC Z Z (J (Fz (O) (x) (0) Z Z Z HM EU QM rfl) (AC Z Z ?_))
  first | refine J (Bn Z Z Z) ?_ | refine J (Bm Z Z Z) ?_
  first | refine J (Bn Z Z Z) ?_ | refine J (Bm Z Z Z) ?_
  refine AD Z Z (AD Z Z (AF (AE (AH (AC Z Z (AF (IH rfl ((DB.2 hxO)) (Aq ?_))))))));exact ⟨_,[4,1,5,6,7,8,9,50],_,An rfl,rfl,rfl,[],hs,M5,rfl,by rw [List.append_nil,Dk rfl];simp [addO],by rw [List.append_nil,Dk rfl];exact hG,VR.done hxO⟩
 | succ k ih=>
  intro O hs ls M5 x hk hx hnd hsub hG hlen
  by_cases hxO:x∈O.map Prod.fst
  ·skip;refine CP Tryz.func47 Z Z Tryz.ntmps47 Z Z Z fun F hF=>(AE (AE (AH ?_)))
   first | refine J (AZ Z Z FM rfl) ?_ | refine J (AX Z Z Z FM rfl) ?_ | refine J (AY Z Z (rfl) rfl FM rfl) ?_
   refine AC Z Z (J (Fz (O) (x) (0) Z Z Z HM EU QM rfl) (AC Z Z ?_))
   first | refine J (Bn Z Z Z) ?_ | refine J (Bm Z Z Z) ?_
   first | refine J (Bn Z Z Z) ?_ | refine J (Bm Z Z Z) ?_
   refine AD Z Z (AD Z Z (AF (AE (AH (AC Z Z (AF (IH rfl ((DB.2 hxO)) (Aq ?_))))))));exact ⟨_,[4,1,5,6,7,8,9,50],_,An rfl,rfl,rfl,[],hs,M5,rfl,by rw [List.append_nil,Dk rfl];simp [addO],by rw [List.append_nil,Dk rfl];exact hG,VR.done hxO⟩
  ·have hxF:Ib O x=false:=by rw [Bool.eq_false_iff];exact fun h=>hxO (DB.1 h)
   have hOl:O.length+1≤w.R.length:=by
    have h1:=OK (V:=x::O.map Prod.fst) (R:=w.R) (List.nodup_cons.2 ⟨hxO,hnd⟩) (fun y hy=>by
     rcases List.mem_cons.1 hy with rfl | hy
     ·exact hx
     ·exact hsub y hy)
    simpa using h1
   have hfew:=hw.few;have hn1':n - 1<n:=by omega
   refine CP Tryz.func47 Z Z Tryz.ntmps47 Z Z Z fun F hF=>(AE (AE (AH ?_)))
   first | refine J (AZ Z Z FM rfl) ?_ | refine J (AX Z Z Z FM rfl) ?_ | refine J (AY Z Z (rfl) rfl FM rfl) ?_
   refine AC Z Z (J (Fz (O) (x) (0) Z Z Z HM EU QM rfl) (AC Z Z ?_))
   first | refine J (Bn Z Z Z) ?_ | refine J (Bm Z Z Z) ?_
   first | refine J (Bn Z Z Z) ?_ | refine J (Bm Z Z Z) ?_
   refine AD Z Z (AD Z Z ?_);refine AF (AE (AH (AC Z Z (AF (DM rfl (hxF) (Ai (AE (AH ?_))))))))
   first | refine J (AZ Z Z EH rfl) ?_ | refine J (AX Z Z Z EH rfl) ?_ | refine J (AY Z Z (rfl) rfl EH rfl) ?_
   first | refine J (IB rfl Tryz.underlying74 rfl) ?_ | refine J (Bs Z Z Tryz.underlying74 rfl) ?_ | refine J (IE rfl Tryz.underlying74 rfl) ?_ | refine J (IG rfl Tryz.underlying74 rfl) ?_ | refine J (ID rfl Tryz.underlying74 rfl) ?_ | refine J (H4 rfl Tryz.underlying74 rfl) ?_
   refine J (Ci Z Z (show IntKind.i64.wrap ((n:Int) - 1)=((n - 1:Nat):Int) from by rw [show ((n:Int) - 1)=((n - 1:Nat):Int) by omega];exact IntWalk.i64_in _ (by omega)) rfl) (AD Z Z (AF (AE (AH ?_))))
   first | refine J (AZ Z Z FM rfl) ?_ | refine J (AX Z Z Z FM rfl) ?_ | refine J (AY Z Z (rfl) rfl FM rfl) ?_
   refine AC Z Z (AC Z Z ?_)
   first | refine U (LJ (O) (x) (n - 1) Z Z Z HM EU Z Z) ?_ | refine U (QZ (O) (x) (n - 1) Z Z Z HM EU Z Z) ?_
   refine AF (AE ?_);rw [Po hxO];refine FK [[],[],[],[],[2,3],[2,3,4],[],[6],[2,3,4,5,6,7],[0,1,2,3,4,5,6,7,8],[0,1,2,3,4,5,6,7,8,9]] mixed rfl (D1 ?_)
   first | refine AG [2] [7] Z Z (fun _=>AB (AZ Z Z EH rfl)) ?_ | refine AG [2] [7] Z Z (fun _=>AB (AX Z Z Z EH rfl)) ?_ | refine AG [2] [7] Z Z (fun _=>AB (AY Z Z (rfl) rfl EH rfl)) ?_
   first | refine AG [8] [] Z Z (fun _=>AB (A8 Z Z)) ?_ | refine AI [8] Z Z (fun _=>AB (A8 Z Z)) ?_
   first | refine AG [2] [7] Z Z (fun _=>AB (AZ Z Z EH rfl)) ?_ | refine AG [2] [7] Z Z (fun _=>AB (AX Z Z Z EH rfl)) ?_ | refine AG [2] [7] Z Z (fun _=>AB (AY Z Z (rfl) rfl EH rfl)) ?_
   first | refine AG [8] [] Z Z (fun _=>AB (A8 Z Z)) ?_ | refine AI [8] Z Z (fun _=>AB (A8 Z Z)) ?_
   first | refine AG [26,27] [8] Z Z (fun _=>AB (BE (n - 1) Z Z (rfl) (hn1') Tryz.underlying74 rfl Bw rfl)) ?_ | refine AG [26,27] [8] Z Z (fun _=>AB (BF (n - 1) Z Z (rfl) (hn1') rfl Tryz.underlying74 Bw rfl)) ?_
   first | refine AG [28] [8] Z Z (fun _=>AB (AZ Z Z AW rfl)) ?_ | refine AG [28] [8] Z Z (fun _=>AB (AX Z Z Z AW rfl)) ?_ | refine AG [28] [8] Z Z (fun _=>AB (AY Z Z (F5 hn1') rfl AW rfl)) ?_
   first | refine AG [0] [] Z Z (fun _=>AB (A8 Z Z)) ?_ | refine AI [0] Z Z (fun _=>AB (A8 Z Z)) ?_
   refine Bo [30] [20] [(31,_)] Z Z (fun _=>I1 (Fq 20 Ba Z Z Z Z Z Z Z Z)) (.inr ⟨31,_,rfl,rfl,rfl,rfl,rfl⟩) Z Z Z Z Z (Bo [29,31] [50,20,60] [(32,_)] Z Z (fun _=>I1 (Gr 29 60 50 (hG.at_ (n - 1) hn1') Z Z (by rw [List.length_map]) Z Z Z Z Z (IC (emb:=AU) (ls (n - 1)) [x] Z Z Z Z Z Z Z Z Ba (by show ((ls (n - 1)).length+1)*16≤_;omega) Z Z Z Z))) (.inr ⟨32,_,rfl,rfl,rfl,rfl,rfl⟩) Z Z Z Z Z (D2 9 Z Z Z (BY 10 Z Z (Ea 32 60 50 hF Z Z Z (by rw [List.length_map]) (by simp) Z Z Z Z Z Z Z (fun _ _=>rfl) fun b c hb hc=>?_))))
   first | refine J (BE (n - 1) Z Z (rfl) (hn1') Tryz.underlying74 rfl Bw rfl) ?_ | refine J (BF (n - 1) Z Z (rfl) (hn1') rfl Tryz.underlying74 Bw rfl) ?_
   refine AF ⟨rfl,?_⟩;refine BY 11 Z Z (U (Zcj Z Z Z Z Z (by rw [SZ];exact hn1') (Qb (h:=some (b,c))) rfl Bw) (AF ⟨rfl,?_⟩));refine Eg (AE ?_);have hG1:=hG.app hn1' hb hc;refine AH ?_
   first | refine J (AZ Z Z on88 rfl) ?_ | refine J (AX Z Z Z on88 rfl) ?_ | refine J (AY Z Z (rfl) rfl on88 rfl) ?_
   refine AC Z Z (J (JD NE x [] (L x) Z Z Z RY EU za25 nil_st (hL.get x) rfl) (J (Bs rfl (List.length_map ..) Tryz.underlying25 rfl) (AC Z Z (AF (BH (Db (α:=Nat×List St×(Nat ->Hd)×MF) (fun q=>⟨46,[(3,.ptr 4 0 0),(4,.ptr 9 0 0),(36,(.d (stsD (L x)))),(37,(.d (natD (L x).length))),(38,(.d (natD q.1)))],HV nbs NE (addO O q.2.1 (n - 1)) n q.2.2.1 (Ap ls (n - 1) (ls (n - 1)++q.2.1)) q.2.2.2⟩) (fun q=>q.1≤(L x).length∧VP w (O.map Prod.fst) x (L x) q.1 q.2.1∧Lx q.2.2.2 n q.2.2.1 (Ap ls (n - 1) (ls (n - 1)++q.2.1))) (fun q=>(L x).length - q.1) ((0,[x],Ap hs (n - 1) (some (b,c)),BU (DC M5 (hs (n - 1))) b (.row 9 1 c ((ls (n - 1)++ [x]).map AU)))) (⟨Nat.zero_le _,VP.start hxO hx,hG1⟩) (At hF [4,1,5,6,7,8,9,50] Z Z ⟨rfl,rfl,rfl,rfl,rfl,trivial⟩) ?_))))));rintro ⟨j,ad,hs2,M52⟩ ⟨hj,hV,hG2⟩;dsimp only at hj hV hG2⊢;refine AE (AH ?_)
   first | refine J (D3 Z Z Z) ?_ | refine J (D4 Z Z Z) ?_
   refine AF (AE ?_)
   first | refine Az rfl (fun h39=>?_) (fun h39=>?_) | refine Aw rfl (fun h39=>?_) (fun h39=>?_)
   ·have hjl:j<(L x).length:=F1 h39;refine Ai (AE (BH (AE (AH ?_))));have hxy:KN w x (L x)[j]:=(hL.wth x _).1 (List.getElem_mem hjl);have hlL:=hL.len x
    first | refine J (BE (j) Z Z (rfl) (NK hjl) Tryz.underlying25 rfl DW rfl) ?_ | refine J (BF (j) Z Z (rfl) (NK hjl) rfl Tryz.underlying25 DW rfl) ?_
    first | refine J (AZ Z Z AR rfl) ?_ | refine J (AX Z Z Z AR rfl) ?_ | refine J (AY Z Z (rfl) rfl AR rfl) ?_
    refine AD Z Z (AF (AH ?_));have hal:1≤ad.length:=List.length_pos_of_mem hV.self;have hnd2:((addO O ad (n - 1)).map Prod.fst).Nodup:=by rw [Fl,List.nodup_append];exact ⟨hnd,hV.nd,fun a ha b hb e=>(hV.nw b hb).1 (e▸ha)⟩
    have hsub2:∀y∈(addO O ad (n - 1)).map Prod.fst,y∈w.R:=fun y hy=>by rw [Fl] at hy;exact (List.mem_append.1 hy).elim (hsub y) fun h=>(hV.nw y h).2.1
    have hlen2:(Ap ls (n - 1) (ls (n - 1)++ad) (n - 1)).length≤(addO O ad (n - 1)).length:=by rw [Di];simp;omega
    have hk2:w.R.length - (addO O ad (n - 1)).length≤k:=by simp;omega
    first | refine J (AZ Z Z Pf rfl) ?_ | refine J (AX Z Z Z Pf rfl) ?_ | refine J (AY Z Z (rfl) rfl Pf rfl) ?_
    refine AC Z Z ?_;refine H1 (KU (ih (addO O ad (n - 1)) hs2 _ M52 (L x)[j] hk2 (hxy.mem hw).2 hnd2 hsub2 hG2 hlen2) rfl [4,1,5,6,7,8,9,50] ⟨rfl,rfl,rfl,rfl,rfl,rfl,rfl,rfl,trivial⟩ Z Z Z Z (fun r H' ⟨ad',hs3,M53,e1,e2,_,_⟩=>by subst e1 e2;exact ⟨rfl,rfl,rfl⟩) rfl) rfl ?_;rintro _ ⟨r,H',⟨ad',hs3,M53,e1,e2,hG3,hVR⟩,rfl⟩;subst e1 e2;rw [Fl] at hVR;refine AF (AH (J (CG Z Z (IntWalk.i64_in _ (by omega)) rfl) (AC Z Z (AF ?_))));exact ⟨(j+1,ad++ad',hs3,M53),⟨hjl,hV.next (List.getElem?_eq_getElem hjl) hxy hVR,by rw [←List.append_assoc];rw [Di,Fx] at hG3;exact hG3⟩,by show (L x).length - (j+1)<(L x).length - j;omega,At hF [4,1,5,6,7,8,9,50] rfl (by rw [Di,Fx,ST,List.append_assoc];rfl) ⟨rfl,rfl,rfl,rfl,rfl,trivial⟩⟩
   ·have hje:j=(L x).length:=by have:=h39;omega
    refine C5 ?_;subst hje;exact ⟨_,[4,1,5,6,7,8,9,50],_,An rfl,rfl,rfl,ad,hs2,M52,rfl,rfl,hG2,hV.fin (hL.wth x)⟩
end Go.Proofs.YtlmedakidpaeeaaGreat
