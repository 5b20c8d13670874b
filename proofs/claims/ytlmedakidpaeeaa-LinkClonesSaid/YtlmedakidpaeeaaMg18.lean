/- The kit's contract of slices.SortFunc laid at this program: the renumbering and its facts. Made by program (lays.py). -/
import Derived.Test.YtlmedakidpaeeaaMg17
import Derived.Shelf.SlLaysF0
import Derived.Shelf.SlLaysNS
import Derived.Test.YtlmedakidpaeeaaProg
namespace Go.Proofs.Ytlmedakidpaeeaa
open Go.Shelf Go.Proofs Go.Proofs.Try
def renS:Go.Shelf.Ren:=⟨fun x=>match x with
 | 53=>60
 | 64=>76
 | 63=>75
 | 78=>91
 | 79=>92
 | 70=>82
 | 71=>83
 | 72=>84
 | 73=>85
 | 74=>86
 | 75=>87
 | 59=>88
 | 76=>89
 | 77=>90
 | 88=>111
 | 89=>112
 | 90=>113
 | 91=>114
 | 92=>115
 | 68=>70
 | 96=>122
 | x=>x,
 fun x=>match x with
 | 22=>49
 | 23=>3
 | 3=>3
 | 51=>125
 | 0=>0
 | 67=>138
 | 69=>140
 | 4=>4
 | 61=>131
 | 60=>130
 | 44=>109
 | 5=>5
 | 9=>9
 | 75=>153
 | 79=>157
 | 83=>163
 | 84=>164
 | x=>x,fun x=>x⟩
theorem Q8:SlLaysN.n53 Try.prog renS where
 mixed:=rfl
 f53:=⟨Try.f60.name,by decide,Try.func60.trans (congrArg some (by kernel_rfl))⟩
 f59:=⟨Try.f88.name,by decide,Try.func88.trans (congrArg some (by kernel_rfl))⟩
 f63:=⟨Try.f75.name,by decide,Try.func75.trans (congrArg some (by kernel_rfl))⟩
 f64:=Try.func76.trans (congrArg some (by kernel_rfl))
 f68:=⟨Try.f70.name,by decide,Try.func70.trans (congrArg some (by kernel_rfl))⟩
 f70:=⟨Try.f82.name,by decide,Try.func82.trans (congrArg some (by kernel_rfl))⟩
 f71:=⟨Try.f83.name,by decide,Try.func83.trans (congrArg some (by kernel_rfl))⟩
 f72:=⟨Try.f84.name,by decide,Try.func84.trans (congrArg some (by kernel_rfl))⟩
 f73:=⟨Try.f85.name,by decide,Try.func85.trans (congrArg some (by kernel_rfl))⟩
 f74:=⟨Try.f86.name,by decide,Try.func86.trans (congrArg some (by kernel_rfl))⟩
 f75:=⟨Try.f87.name,by decide,Try.func87.trans (congrArg some (by kernel_rfl))⟩
 f76:=⟨Try.f89.name,by decide,Try.func89.trans (congrArg some (by kernel_rfl))⟩
 f77:=⟨Try.f90.name,by decide,Try.func90.trans (congrArg some (by kernel_rfl))⟩
 f78:=Try.func91.trans (congrArg some (by kernel_rfl))
 f79:=Try.func92.trans (congrArg some (by kernel_rfl))
 f88:=⟨Try.f111.name,by decide,Try.func111.trans (congrArg some (by kernel_rfl))⟩
 f89:=Try.func112.trans (congrArg some (by kernel_rfl))
 f90:=Try.func113.trans (congrArg some (by kernel_rfl))
 f91:=⟨Try.f114.name,by decide,Try.func114.trans (congrArg some (by kernel_rfl))⟩
 f92:=⟨Try.f115.name,by decide,Try.func115.trans (congrArg some (by kernel_rfl))⟩
 f96:=⟨Try.f122.name,by decide,Try.func122.trans (congrArg some (by kernel_rfl))⟩
 t0:=Try.underlying0
 a0:=Try.isAgg0
 z0:=Try.sizeOf0
 v0:=Try.zeroValue0
 t3:=Try.underlying3
 a3:=Try.isAgg3
 z3:=Try.sizeOf3
 v3:=Try.zeroValue3
 t4:=Try.underlying4
 a4:=Try.isAgg4
 z4:=Try.sizeOf4
 v4:=Try.zeroValue4
 t5:=Try.underlying5
 a5:=Try.isAgg5
 z5:=Try.sizeOf5
 v5:=Try.zeroValue5
 t9:=Try.underlying9
 a9:=Try.isAgg9
 z9:=Try.sizeOf9
 v9:=Try.zeroValue9
 t22:=Try.underlying49
 a22:=Try.isAgg49
 z22:=Try.sizeOf49
 v22:=Try.zeroValue49
 t23:=Try.underlying3
 a23:=Try.isAgg3
 z23:=Try.sizeOf3
 v23:=Try.zeroValue3
 t44:=Try.underlying109
 a44:=Try.isAgg109
 z44:=Try.sizeOf109
 v44:=Try.zeroValue109
 t51:=Try.underlying125
 a51:=Try.isAgg125
 z51:=Try.sizeOf125
 v51:=Try.zeroValue125
 t60:=Try.underlying130
 a60:=Try.isAgg130
 z60:=Try.sizeOf130
 v60:=Try.zeroValue130
 t61:=Try.underlying131
 a61:=Try.isAgg131
 z61:=Try.sizeOf131
 v61:=Try.zeroValue131
 t67:=Try.underlying138
 a67:=Try.isAgg138
 z67:=Try.sizeOf138
 v67:=Try.zeroValue138
 t69:=Try.underlying140
 a69:=Try.isAgg140
 z69:=Try.sizeOf140
 v69:=Try.zeroValue140
 t75:=Try.underlying153
 a75:=Try.isAgg153
 z75:=Try.sizeOf153
 v75:=Try.zeroValue153
 t79:=Try.underlying157
 a79:=Try.isAgg157
 z79:=Try.sizeOf157
 v79:=Try.zeroValue157
 t83:=Try.underlying163
 a83:=Try.isAgg163
 z83:=Try.sizeOf163
 v83:=Try.zeroValue163
 t84:=Try.underlying164
 a84:=Try.isAgg164
 z84:=Try.sizeOf164
 v84:=Try.zeroValue164
def renT:Go.Shelf.Ren:=⟨fun x=>match x with
 | 54=>65
 | 64=>76
 | 65=>79
 | 78=>91
 | 79=>92
 | 80=>94
 | 81=>95
 | 82=>96
 | 83=>97
 | 84=>98
 | 85=>99
 | 61=>100
 | 86=>101
 | 87=>102
 | 93=>116
 | 89=>112
 | 90=>113
 | 94=>117
 | 95=>118
 | 69=>71
 | 97=>123
 | x=>x,
 fun x=>match x with
 | 25=>32
 | 26=>9
 | 3=>3
 | 51=>125
 | 0=>0
 | 67=>138
 | 69=>140
 | 4=>4
 | 61=>131
 | 60=>130
 | 44=>109
 | 5=>5
 | 9=>9
 | 75=>153
 | 79=>157
 | 83=>163
 | 84=>164
 | x=>x,fun x=>x⟩
theorem Q7:SlLaysN.n54 Try.prog renT where
 mixed:=rfl
 f54:=⟨Try.f65.name,by decide,Try.func65.trans (congrArg some (by kernel_rfl))⟩
 f61:=⟨Try.f100.name,by decide,Try.func100.trans (congrArg some (by kernel_rfl))⟩
 f64:=Try.func76.trans (congrArg some (by kernel_rfl))
 f65:=⟨Try.f79.name,by decide,Try.func79.trans (congrArg some (by kernel_rfl))⟩
 f69:=⟨Try.f71.name,by decide,Try.func71.trans (congrArg some (by kernel_rfl))⟩
 f78:=Try.func91.trans (congrArg some (by kernel_rfl))
 f79:=Try.func92.trans (congrArg some (by kernel_rfl))
 f80:=⟨Try.f94.name,by decide,Try.func94.trans (congrArg some (by kernel_rfl))⟩
 f81:=⟨Try.f95.name,by decide,Try.func95.trans (congrArg some (by kernel_rfl))⟩
 f82:=⟨Try.f96.name,by decide,Try.func96.trans (congrArg some (by kernel_rfl))⟩
 f83:=⟨Try.f97.name,by decide,Try.func97.trans (congrArg some (by kernel_rfl))⟩
 f84:=⟨Try.f98.name,by decide,Try.func98.trans (congrArg some (by kernel_rfl))⟩
 f85:=⟨Try.f99.name,by decide,Try.func99.trans (congrArg some (by kernel_rfl))⟩
 f86:=⟨Try.f101.name,by decide,Try.func101.trans (congrArg some (by kernel_rfl))⟩
 f87:=⟨Try.f102.name,by decide,Try.func102.trans (congrArg some (by kernel_rfl))⟩
 f89:=Try.func112.trans (congrArg some (by kernel_rfl))
 f90:=Try.func113.trans (congrArg some (by kernel_rfl))
 f93:=⟨Try.f116.name,by decide,Try.func116.trans (congrArg some (by kernel_rfl))⟩
 f94:=⟨Try.f117.name,by decide,Try.func117.trans (congrArg some (by kernel_rfl))⟩
 f95:=⟨Try.f118.name,by decide,Try.func118.trans (congrArg some (by kernel_rfl))⟩
 f97:=⟨Try.f123.name,by decide,Try.func123.trans (congrArg some (by kernel_rfl))⟩
 t0:=Try.underlying0
 a0:=Try.isAgg0
 z0:=Try.sizeOf0
 v0:=Try.zeroValue0
 t3:=Try.underlying3
 a3:=Try.isAgg3
 z3:=Try.sizeOf3
 v3:=Try.zeroValue3
 t4:=Try.underlying4
 a4:=Try.isAgg4
 z4:=Try.sizeOf4
 v4:=Try.zeroValue4
 t5:=Try.underlying5
 a5:=Try.isAgg5
 z5:=Try.sizeOf5
 v5:=Try.zeroValue5
 t9:=Try.underlying9
 a9:=Try.isAgg9
 z9:=Try.sizeOf9
 v9:=Try.zeroValue9
 t25:=Try.underlying32
 a25:=Try.isAgg32
 z25:=Try.sizeOf32
 v25:=Try.zeroValue32
 t26:=Try.underlying9
 a26:=Try.isAgg9
 z26:=Try.sizeOf9
 v26:=Try.zeroValue9
 t44:=Try.underlying109
 a44:=Try.isAgg109
 z44:=Try.sizeOf109
 v44:=Try.zeroValue109
 t51:=Try.underlying125
 a51:=Try.isAgg125
 z51:=Try.sizeOf125
 v51:=Try.zeroValue125
 t60:=Try.underlying130
 a60:=Try.isAgg130
 z60:=Try.sizeOf130
 v60:=Try.zeroValue130
 t61:=Try.underlying131
 a61:=Try.isAgg131
 z61:=Try.sizeOf131
 v61:=Try.zeroValue131
 t67:=Try.underlying138
 a67:=Try.isAgg138
 z67:=Try.sizeOf138
 v67:=Try.zeroValue138
 t69:=Try.underlying140
 a69:=Try.isAgg140
 z69:=Try.sizeOf140
 v69:=Try.zeroValue140
 t75:=Try.underlying153
 a75:=Try.isAgg153
 z75:=Try.sizeOf153
 v75:=Try.zeroValue153
 t79:=Try.underlying157
 a79:=Try.isAgg157
 z79:=Try.sizeOf157
 v79:=Try.zeroValue157
 t83:=Try.underlying163
 a83:=Try.isAgg163
 z83:=Try.sizeOf163
 v83:=Try.zeroValue163
 t84:=Try.underlying164
 a84:=Try.isAgg164
 z84:=Try.sizeOf164
 v84:=Try.zeroValue164
end Go.Proofs.Ytlmedakidpaeeaa
/- slices.Compact at integers, over a row of a region. -/
namespace Go.Proofs.Ytlmedakidpaeeaa
open Go.RowKit
set_option maxRecDepth 100000
def Oz (l:List Nat) (i:Nat):Prop:=i=0∨C6 l i≠C6 l (i - 1)
instance (l:List Nat) (i:Nat):Decidable (Oz l i):=inferInstanceAs (Decidable (_∨_))
def EA (l:List Nat) (j:Nat):List Nat:=((List.range j).filter fun i=>decide (Oz l i)).map (C6 l)
theorem KY (l:List Nat) (j:Nat):EA l (j+1)=EA l j++if Oz l j then [C6 l j] else []:=by
 unfold EA;rw [List.range_succ,List.filter_append,List.map_append]
 congr 1
 by_cases h:Oz l j
 ·rw [if_pos h,List.filter_cons_of_pos (by simpa using h)];rfl
 ·rw [if_neg h,List.filter_cons_of_neg (by simpa using h)];rfl
theorem LK {l:List Nat} {j:Nat} (h:Oz l j):EA l (j+1)=EA l j++ [C6 l j]:=by rw [KY,if_pos h]
theorem Md {l:List Nat} {j:Nat} (h:¬Oz l j):EA l (j+1)=EA l j:=by rw [KY,if_neg h,List.append_nil]
theorem cptK_le (l:List Nat) (j:Nat):(EA l j).length≤j:=by
 unfold EA;rw [List.length_map];exact Nat.le_trans (List.length_filter_le _ _) (by simp)
theorem L0 {l:List Nat} {k:Nat} (h:k<l.length):l.take (k+1)=l.take k++ [C6 l k]:=by rw [List.take_succ_eq_append_getElem h,Cj h]
theorem RI {l:List Nat} (h:l.length≤1):EA l l.length=l:=by
 match l,h with
 | [],_=>rfl
 | [a],_=>rfl
theorem MC {c l:List Nat} {k j:Nat} (h:c.drop k=l.drop k) (hj:k≤j):C6 c j=C6 l j:=by
 have e:(c.drop k)[j - k]?=(l.drop k)[j - k]?:=by rw [h]
 rw [List.getElem?_drop,List.getElem?_drop,show k+(j - k)=j by omega] at e;unfold C6;rw [List.getD_eq_getElem?_getD,List.getD_eq_getElem?_getD,e]
structure CQ (l c:List Nat) (j q:Nat):Prop where
 len:c.length=l.length
 jl:j≤l.length
 q1:q+1≤j
 tk:c.take q=EA l j
 dr:c.drop (j - 1)=l.drop (j - 1)
theorem CQ.start {l:List Nat} {k:Nat} (h1:k<l.length) (h0:0<k) (h:EA l k=l.take k) (he:C6 l k=C6 l (k - 1)):CQ l l (k+1) k:=
 ⟨rfl,by omega,Nat.le_refl _,by rw [Md (fun h=>h.elim (fun e=>by omega) fun e=>e he),h],rfl⟩
theorem CQ.get {l c:List Nat} {j q:Nat} (h:CQ l c j q):C6 c j=C6 l j∧C6 c (j - 1)=C6 l (j - 1):=⟨MC h.dr (by omega),MC h.dr (Nat.le_refl _)⟩
theorem CQ.drop {l c:List Nat} {j q:Nat} (h:CQ l c j q) (hj:j<l.length) (he:C6 c j=C6 c (j - 1)):CQ l c (j+1) q:=by
 have hq:=h.q1;obtain ⟨g1,g2⟩:=h.get;refine ⟨h.len,by omega,by omega,by rw [h.tk,Md (fun hc=>hc.elim (fun e=>by omega) fun e=>e (by rw [←g1,←g2];exact he))],?_⟩;have:=congrArg (List.drop 1) h.dr
 rwa [List.drop_drop,List.drop_drop,show j - 1+1=j by omega] at this
theorem CQ.keep {l c:List Nat} {j q:Nat} (h:CQ l c j q) (hj:j<l.length) (he:C6 c j≠C6 c (j - 1)):CQ l (c.set q (C6 c j)) (j+1) (q+1):=by
 have hq:=h.q1;have hl:=h.len;obtain ⟨g1,g2⟩:=h.get;refine ⟨by rw [List.length_set];exact h.len,by omega,by omega,?_,?_⟩
 ·rw [LK (.inr (by rw [←g1,←g2];exact he)),←h.tk,←g1,List.take_succ_eq_append_getElem (by rw [List.length_set];omega),List.take_set,List.getElem_set_self];rw [List.set_eq_of_length_le (by rw [List.length_take];exact Nat.min_le_left _ _)]
 ·rw [Nat.add_sub_cancel,List.drop_set,if_pos (by omega)];have:=congrArg (List.drop 1) h.dr
  rwa [List.drop_drop,List.drop_drop,show j - 1+1=j by omega] at this
theorem HX {M:MF} {b:Nat} {m:A6} (h:M b=some m):BD M b m=M:=by
 funext i;unfold BD;split
 ·rename_i e;rw [e,h]
 ·rfl
theorem MJ (M:MF) (b:Nat) (m m':A6):BD (BD M b m) b m'=BD M b m':=by
 funext i;unfold BD;split<;>rfl
theorem Lv (l:List Nat):∀x∈l.map natD,x.one=true:=fun x hx=>by obtain ⟨a,_,rfl⟩:=List.mem_map.1 hx;rfl
theorem Ni {α:Type}:∀(z c:List α) (q j:Nat),j<q ->(setL c q z)[j]?=c[j]?
 | [],_,_,_,_=>rfl
 | v::r,c,q,j,h=>by
  unfold setL;rw [Ni r _ _ _ (by omega),List.getElem?_set_ne (by omega)]
theorem RJ {c:List Nat} {q:Nat} {z:List D} (h:q≤c.length):(setL (c.map natD) q z).take q=(c.take q).map natD:=by
 apply List.ext_getElem?
 intro j
 by_cases hj:j<q
 ·rw [List.getElem?_take_of_lt hj,List.getElem?_map,List.getElem?_take_of_lt hj,←List.getElem?_map];exact Ni _ _ _ _ hj
 ·rw [List.getElem?_eq_none (by rw [List.length_take,Nd];omega),List.getElem?_eq_none (by rw [List.length_map,List.length_take];omega)]
theorem PA (l:List Nat) (b cap:Nat) (M:MF) (hl:l.length≤100000000) (hc:l.length≤cap) (hM:M b=some (.row 3 1 cap (l.map natD))):
  AR Try.prog 73 [.d (.raw (sV b l.length cap))] [(40,[.multi M])] fun r H'=>r= .d (.raw (sV b (EA l l.length).length cap))∧H'=[(40,[.multi (BD M b (.row 3 1 cap ((EA l l.length).map natD)))])]:=by
 by_cases hs:l.length≤1
 ·rw [RI hs,HX hM];refine DA Try.func73 Z Z Try.ntmps73 Z Z Z fun F hF=>(AG (AI (AE Z Z (AF (AG (AG (AI (AC Z Z ?_))))))))
  first | refine J (J0 rfl Try.underlying49 rfl) ?_ | refine J (Br Z Z Try.underlying49 rfl) ?_ | refine J (JW rfl Try.underlying49 rfl) ?_ | refine J (JY rfl Try.underlying49 rfl) ?_ | refine J (JV rfl Try.underlying49 rfl) ?_ | refine J (JP rfl Try.underlying49 rfl) ?_
  first | refine J (Ed Z Z Z) ?_ | refine J (Ef Z Z Z) ?_
  refine AF (IE rfl (decide_eq_true (by omega)) (AG (AI (AC Z Z (AE Z Z (AF (Au ?_)))))));exact ⟨_,[40],_,Aq rfl,rfl,rfl,rfl,rfl⟩
 ·skip;refine DA Try.func73 Z Z Try.ntmps73 Z Z Z fun F hF=>(AG (AI (AE Z Z (AF (AG (AG (AI (AC Z Z ?_))))))))
  first | refine J (J0 rfl Try.underlying49 rfl) ?_ | refine J (Br Z Z Try.underlying49 rfl) ?_ | refine J (JW rfl Try.underlying49 rfl) ?_ | refine J (JY rfl Try.underlying49 rfl) ?_ | refine J (JV rfl Try.underlying49 rfl) ?_ | refine J (JP rfl Try.underlying49 rfl) ?_
  first | refine J (Ed Z Z Z) ?_ | refine J (Ef Z Z Z) ?_
  refine AF ?_;refine D4 rfl (decide_eq_false (by omega)) (Ai (AG (AG (AI (AE Z Z (AF (B7 (FC (α:=Nat) (fun k=>⟨61,[(0,.d (.raw (sV b l.length cap))),(3,(.d (natD k)))],[(40,[.multi M])]⟩) (fun k=>1≤k∧k≤l.length∧EA l k=l.take k) (fun k=>l.length - k) (1) (⟨Nat.le_refl _,by omega,by rw [LK (.inl rfl),L0 (by omega)];rfl⟩) (BC hF [40] Z Z ⟨rfl,rfl,trivial⟩) ?_))))))));rintro k ⟨hk1,hk,hck⟩;refine AG (AG (AI (AC Z Z (AC Z Z ?_))))
  first | refine J (J0 rfl Try.underlying49 rfl) ?_ | refine J (Br Z Z Try.underlying49 rfl) ?_ | refine J (JW rfl Try.underlying49 rfl) ?_ | refine J (JY rfl Try.underlying49 rfl) ?_ | refine J (JV rfl Try.underlying49 rfl) ?_ | refine J (JP rfl Try.underlying49 rfl) ?_
  first | refine J (Ed Z Z Z) ?_ | refine J (Ef Z Z Z) ?_
  refine AF ?_
  first | refine BA rfl (fun h13=>?_) (fun h13=>?_) | refine Az rfl (fun h13=>?_) (fun h13=>?_)
  ·refine Ai (AG (B7 (AG ?_)));have hkl:k<l.length:=HB h13;refine Ee [[],[],[0,1],[0,1,2],[],[],[5],[4,5,6],[4,5,6,7],[0,1,2,3,4,5,6,7,8]] mixed rfl (DL ?_)
   first | refine AD [0] [] Z Z (fun _=>AB (A9 Z Z)) ?_ | refine AH [0] Z Z (fun _=>AB (A9 Z Z)) ?_
   first | refine AD [3] [] Z Z (fun _=>AB (A9 Z Z)) ?_ | refine AH [3] Z Z (fun _=>AB (A9 Z Z)) ?_
   first | refine AD [16,17] [] Z Z (fun _=>AB (EM (k) Z Z (rfl) (hkl) Try.underlying49 D7 rfl)) ?_ | refine AH [16,17] Z Z (fun _=>AB (EM (k) Z Z (rfl) (hkl) Try.underlying49 D7 rfl)) ?_
   first | refine AD [18] [] Z Z (fun _=>AB (Zcu (f:=40) (e:=k) (off:=0) rfl (by omega) rfl (hM) (D0 hkl) rfl Bf rfl)) ?_ | refine AH [18] Z Z (fun _=>AB (Zcu (f:=40) (e:=k) (off:=0) rfl (by omega) rfl (hM) (D0 hkl) rfl Bf rfl)) ?_
   first | refine AD [0] [] Z Z (fun _=>AB (A9 Z Z)) ?_ | refine AH [0] Z Z (fun _=>AB (A9 Z Z)) ?_
   first | refine AD [3] [] Z Z (fun _=>AB (A9 Z Z)) ?_ | refine AH [3] Z Z (fun _=>AB (A9 Z Z)) ?_
   first | refine AD [21] [] Z Z (fun _=>AB (DW Z Z (IntWalk.i64_in _ (by omega)) rfl)) ?_ | refine AH [21] Z Z (fun _=>AB (DW Z Z (IntWalk.i64_in _ (by omega)) rfl)) ?_
   first | refine AD [20,22] [] Z Z (fun _=>AB (EM (k - 1) Z Z (by omega) (by omega) Try.underlying49 D7 rfl)) ?_ | refine AH [20,22] Z Z (fun _=>AB (EM (k - 1) Z Z (by omega) (by omega) Try.underlying49 D7 rfl)) ?_
   first | refine AD [23] [] Z Z (fun _=>AB (Zcu (f:=40) (e:=k - 1) (off:=0) rfl (by omega) rfl (hM) (D0 (by omega)) rfl Bf rfl)) ?_ | refine AH [23] Z Z (fun _=>AB (Zcu (f:=40) (e:=k - 1) (off:=0) rfl (by omega) rfl (hM) (D0 (by omega)) rfl Bf rfl)) ?_
   refine DM 9 Z Z Z (BI 10 Z Z ?_)
   first | refine J (EZ Z Z Z) ?_ | refine J (Ea Z Z Z) ?_ | refine J (EF Z Z Z) ?_ | refine J (E0 Try.underlying3 Z Z Z) ?_ | refine J (E5 Try.underlying3 Z Z Z) ?_ | refine J (E4 Try.underlying3 Z Z) ?_ | refine J (E9 Try.underlying3 Z Z) ?_ | refine J (E8 Try.underlying3 Z Z) ?_ | refine J (E3 Try.underlying3 Z Z Z) ?_ | refine J (E7 Try.underlying3 Z Z) ?_
   refine AF ⟨rfl,?_⟩;refine ED ?_
   first | refine BA rfl (fun h25=>?_) (fun h25=>?_) | refine Az rfl (fun h25=>?_) (fun h25=>?_)
   ·refine AG ?_;have hst:=CQ.start hkl hk1 hck (Int.ofNat.inj h25);refine AI (AC Z Z (AC Z Z ?_));refine J (Hb k Z Z Z hk (by omega) Try.underlying49 D7 rfl) (AE Z Z (AF (AG (AG (AI (AE Z Z (AF (B7 ?_))))))));rw [←HX hM];refine FC (α:=Nat×Nat×List Nat) (fun w=>⟨61,[(0,.d (.raw (sV b l.length cap))),(3,(.d (natD w.2.1))),(4,(.d (.raw (.slice (some ⟨b,k,none⟩) (l.length - k) (cap - k))))),(5,(.d (natD w.1)))],[(40,[.multi (BD M b (.row 3 1 cap (w.2.2.map natD)))])]⟩) (fun w=>k+w.1≤l.length∧1≤w.1∧CQ l w.2.2 (k+w.1) w.2.1) (fun w=>l.length - (k+w.1)) ((1,k,l)) (⟨hkl,Nat.le_refl _,hst⟩) (BC hF [40] Z Z ⟨rfl,rfl,rfl,rfl,trivial⟩) ?_;rintro ⟨p,q,c⟩ ⟨hp,hp1,hC⟩;dsimp only at hp hp1 hC⊢;refine AG (AG (AI (AC Z Z (AC Z Z ?_))))
    first | refine J (J0 rfl Try.underlying49 rfl) ?_ | refine J (Br Z Z Try.underlying49 rfl) ?_ | refine J (JW rfl Try.underlying49 rfl) ?_ | refine J (JY rfl Try.underlying49 rfl) ?_ | refine J (JV rfl Try.underlying49 rfl) ?_ | refine J (JP rfl Try.underlying49 rfl) ?_
    first | refine J (Ed Z Z Z) ?_ | refine J (Ef Z Z Z) ?_
    refine AF ?_
    first | refine BA rfl (fun h32=>?_) (fun h32=>?_) | refine Az rfl (fun h32=>?_) (fun h32=>?_)
    ·refine Ai (AG (B7 (AG ?_)));have hpl:k+p<l.length:=by have:=h32;omega
     have hcl:=hC.len;have hcq:=hC.q1;refine Ee [[],[],[0,1],[0,1,2],[],[],[5],[4,5,6],[4,5,6,7],[0,1,2,3,4,5,6,7,8]] mixed rfl (DL ?_)
     first | refine AD [4] [] Z Z (fun _=>AB (A9 Z Z)) ?_ | refine AH [4] Z Z (fun _=>AB (A9 Z Z)) ?_
     first | refine AD [5] [] Z Z (fun _=>AB (A9 Z Z)) ?_ | refine AH [5] Z Z (fun _=>AB (A9 Z Z)) ?_
     first | refine AD [35,36] [] Z Z (fun _=>AB (EL p Z Z Z (by omega) Try.underlying49 D7 rfl)) ?_ | refine AH [35,36] Z Z (fun _=>AB (EL p Z Z Z (by omega) Try.underlying49 D7 rfl)) ?_
     first | refine AD [37] [] Z Z (fun _=>AB (Zcu (f:=40) (e:=k+p) (off:=0) rfl (by omega) rfl (D3 _ _ _) (D0 (by omega)) rfl Bf rfl)) ?_ | refine AH [37] Z Z (fun _=>AB (Zcu (f:=40) (e:=k+p) (off:=0) rfl (by omega) rfl (D3 _ _ _) (D0 (by omega)) rfl Bf rfl)) ?_
     first | refine AD [4] [] Z Z (fun _=>AB (A9 Z Z)) ?_ | refine AH [4] Z Z (fun _=>AB (A9 Z Z)) ?_
     first | refine AD [5] [] Z Z (fun _=>AB (A9 Z Z)) ?_ | refine AH [5] Z Z (fun _=>AB (A9 Z Z)) ?_
     first | refine AD [40] [] Z Z (fun _=>AB (DW Z Z (IntWalk.i64_in _ (by omega)) rfl)) ?_ | refine AH [40] Z Z (fun _=>AB (DW Z Z (IntWalk.i64_in _ (by omega)) rfl)) ?_
     first | refine AD [39,41] [] Z Z (fun _=>AB (EL (p - 1) Z Z (by omega) (by omega) Try.underlying49 D7 rfl)) ?_ | refine AH [39,41] Z Z (fun _=>AB (EL (p - 1) Z Z (by omega) (by omega) Try.underlying49 D7 rfl)) ?_
     first | refine AD [42] [] Z Z (fun _=>AB (Zcu (f:=40) (e:=k+p - 1) (off:=0) rfl (by omega) rfl (D3 _ _ _) (D0 (by omega)) rfl Bf rfl)) ?_ | refine AH [42] Z Z (fun _=>AB (Zcu (f:=40) (e:=k+p - 1) (off:=0) rfl (by omega) rfl (D3 _ _ _) (D0 (by omega)) rfl Bf rfl)) ?_
     refine DM 9 Z Z Z (BI 10 Z Z ?_)
     first | refine J (G3 Z Z Z) ?_ | refine J (G0 Z Z Z) ?_ | refine J (GX Z Z Z) ?_ | refine J (G4 Try.underlying3 Z Z Z) ?_ | refine J (G6 Try.underlying3 Z Z Z) ?_ | refine J (st_neqN Try.underlying3 Z Z) ?_ | refine J (GZ Try.underlying3 Z Z) ?_ | refine J (st_neqMz Try.underlying3 Z Z) ?_ | refine J (G5 Try.underlying3 Z Z Z) ?_ | refine J (st_neqFN Try.underlying3 Z Z) ?_
     refine AF ⟨rfl,?_⟩;refine ED ?_
     first | refine BA rfl (fun h44=>?_) (fun h44=>?_) | refine Az rfl (fun h44=>?_) (fun h44=>?_)
     ·refine AG (AI (AC Z Z ?_));refine AC Z Z (AC Z Z (AC Z Z (J (EL p Z Z Z (by omega) Try.underlying49 D7 rfl) (J (Zcu (f:=40) (e:=k+p) (off:=0) rfl (by omega) rfl (D3 _ _ _) (D0 (by omega)) rfl Bf rfl) (J (EM (q) Z Z (rfl) (by omega) Try.underlying49 D7 rfl) (U (Ms (f:=40) (off:=q*1) Z Z Z Z (D3 _ _ _) (by rw [List.length_map];omega) (Lv _) rfl D7) (AF (AI ?_))))))));refine AC Z Z (J (Cm Z Z (IntWalk.i64_in _ (by omega)) rfl) (AE Z Z (AF (AI (AC Z Z (J (Cm Z Z (IntWalk.i64_in _ (by omega)) rfl) (AE Z Z (AF ?_))))))));exact ⟨(p+1,q+1,c.set q (C6 c (k+p))),⟨by show k+(p+1)≤_;omega,by show 1≤p+1;omega,hC.keep hpl (fun e=>h44 (congrArg Int.ofNat e))⟩,by show l.length - (k+(p+1))<l.length - (k+p);omega,BC hF [40] rfl (by rw [MJ,List.map_set,Nat.mul_one];rfl) ⟨rfl,rfl,rfl,rfl,trivial⟩⟩
     ·refine Ai (AI (AC Z Z (J (Cm Z Z (IntWalk.i64_in _ (by omega)) rfl) (AE Z Z (AF ?_)))));exact ⟨(p+1,q,c),⟨by show k+(p+1)≤_;omega,by show 1≤p+1;omega,hC.drop hpl (Int.ofNat.inj (Classical.not_not.1 h44))⟩,by show l.length - (k+(p+1))<l.length - (k+p);omega,BC hF [40] rfl (rfl) ⟨rfl,rfl,rfl,rfl,trivial⟩⟩
    ·refine Dq (AG ?_);have hpe:k+p=l.length:=by have:=h32;omega
     have hcl:=hC.len;have hcq:=hC.q1;have htk:=hC.tk;rw [hpe] at htk;refine AI (AC Z Z (AC Z Z (J (Hb q Z Z Z (by omega) (by omega) Try.underlying49 D7 rfl) (U (OZ (f:=40) (xs:=c.map natD) Z Z (D3 _ _ _) (by omega) (by rw [List.length_map];omega) (Lv _) Try.underlying49 Try.zeroValue3 Z Z Z) (AF (AG ?_))))));have hqe:(EA l l.length).length=q:=by rw [←htk,List.length_take];omega
     refine PF 40 b q rfl (by rw [MJ];exact D3 _ _ _) (by rw [Nd,List.length_map];omega) rfl (AI (AC Z Z (AC Z Z (J (L5 q Z Z Z (show q≤cap by omega) Try.underlying49 D7 rfl) (AE Z Z (AF (Au ?_)))))));exact ⟨_,[40],_,Aq rfl,rfl,rfl,by rw [hqe],by rw [MJ,MJ,RJ (by omega),htk,MJ]⟩
   ·refine Ai (AI (AC Z Z (J (Cm Z Z (IntWalk.i64_in _ (by omega)) rfl) (AE Z Z (AF ?_)))));exact ⟨k+1,⟨by omega,hkl,by rw [LK (.inr fun e=>h25 (congrArg Int.ofNat e)),hck,L0 hkl]⟩,by omega,BC hF [40] rfl (rfl) ⟨rfl,rfl,trivial⟩⟩
  ·refine Dq (AG (AI (AC Z Z (AE Z Z (AF (Au ?_))))));exact ⟨_,[40],_,Aq rfl,rfl,rfl,by rw [show k=l.length by have:=h13;omega,List.take_length] at hck;rw [hck],by rw [show k=l.length by have:=h13;omega,List.take_length] at hck;rw [hck,HX hM]⟩
def Cp (l:List Nat):List Nat:=(De (l.map Int.ofNat)).map Int.toNat
theorem Eh (l:List Nat):(Cp l).Perm l:=by
 have h:=(GJ (l.map Int.ofNat)).map Int.toNat;rw [List.map_map] at h
 have e:l.map (Int.toNat∘Int.ofNat)=l:=by
  conv=>rhs;rw [←List.map_id l]
  exact List.map_congr_left fun x _=>rfl
 rwa [e] at h
theorem EP (l:List Nat):(Cp l).length=l.length:=(Eh l).length_eq
theorem Jn (l:List Nat):(De (l.map Int.ofNat)).map zD=(Cp l).map natD:=by
 unfold Cp;rw [List.map_map];refine List.map_congr_left fun x hx=>?_;obtain ⟨y,_,rfl⟩:=List.mem_map.1 ((GJ _).mem_iff.1 hx)
 rfl
theorem Gb (l:List Nat):(Cp l).Pairwise (· ≤ ·):=by
 unfold Cp;rw [List.pairwise_map];exact (Kj (l.map Int.ofNat)).imp fun {a b} h=>Int.toNat_le_toNat h
theorem ofN_map (l:List Nat):l.map natD=(l.map Int.ofNat).map zD:=by rw [List.map_map];rfl
def GW (l:List Nat):List Nat:=EA (Cp l) (Cp l).length
theorem cptS_le (l:List Nat):(GW l).length≤l.length:=by have:=cptK_le (Cp l) (Cp l).length;rw [EP] at this;unfold GW;rw [EP];exact this
theorem RE:GW []=[]:=by unfold GW;rw [List.length_eq_zero_iff.1 (EP [])];rfl
theorem HE.put {M:MF} {n j b c:Nat} {hs:Nat ->Hd} {ls:Nat ->List Nat} (h:HE M n hs ls) (hj:j<n) (hh:hs j=some (b,c)) {l:List Nat} (hl:l.length≤c):HE (BD M b (.row 3 1 c (l.map natD))) n hs (An ls j l):=by
 refine ⟨fun k hk=>?_,h.inj⟩
 by_cases e:k=j
 ·subst e;rw [Ds,hh];exact ⟨by rw [List.length_map];exact hl,D3 _ _ _⟩
 ·rw [E6 e];have h1:=h.at_ k hk
  match hk2:hs k,h1 with
  | none,h1=>exact h1
  | some (b',c'),h1=>exact ⟨h1.1,by rw [Dr fun e2=>e (h.inj k j b c' c hk hj (by rw [hk2,e2]) hh)];exact h1.2⟩
theorem hd_two (h:Hd):h=none∨∃b c,h=some (b,c):=by
 match h with
 | none=>exact .inl rfl
 | some (b,c)=>exact .inr ⟨b,c,rfl⟩
theorem Da {α:Type} {f:Nat ->α} {i:Nat} {x:α} (h:f i=x):An f i x=f:=by
 funext j;unfold An;split
 ·rename_i e;rw [e,h]
 ·rfl
theorem PB:AR Try.prog 73 [.d (.raw (.slice none 0 0))] [] fun r H'=>r= .d (.raw (.slice none 0 0))∧H'=[]:=by
 refine DA Try.func73 Z Z Try.ntmps73 Z Z Z fun F hF=>(AG (AI (AE Z Z (AF (AG (AG (AI (AC Z Z ?_))))))))
 first | refine J (J0 rfl Try.underlying49 rfl) ?_ | refine J (Br Z Z Try.underlying49 rfl) ?_ | refine J (JW rfl Try.underlying49 rfl) ?_ | refine J (JY rfl Try.underlying49 rfl) ?_ | refine J (JV rfl Try.underlying49 rfl) ?_ | refine J (JP rfl Try.underlying49 rfl) ?_
 first | refine J (Ed Z Z Z) ?_ | refine J (Ef Z Z Z) ?_
 refine AF (IE rfl (rfl) (AG (AI (AC Z Z (AE Z Z (AF (Au ?_)))))));exact ⟨_,[],_,Aq rfl,rfl,rfl,rfl,rfl⟩
theorem N4 {l:List Nat} {c:Nat} (hc:l.length≤c) (hl:l.length≤1048576) (M:MF) (b:Nat):
  AR Try.prog 73 [.d (.raw (sV b l.length c))] [(40,[.multi (BD M b (.row 3 1 c ((Cp l).map natD)))])] fun r H'=>r= .d (.raw (sV b (GW l).length c))∧H'=[(40,[.multi (BD (BD M b (.row 3 1 c ((Cp l).map natD))) b (.row 3 1 c ((GW l).map natD)))])]:=by
 have hn:=EP l;have h:=PA (Cp l) b c (BD M b (.row 3 1 c ((Cp l).map natD))) (by omega) (by omega) (D3 _ _ _);rw [show (sV b (Cp l).length c)=sV b l.length c by rw [hn]] at h;exact h
end Go.Proofs.Ytlmedakidpaeeaa
/- The kit's contract of slices.Sort at strings, over an owned row and over a row of a region. No program in sight. -/
namespace Go.Proofs.Ytlmedakidpaeeaa
open Go.RowKit Go.Shelf
open Go.Sort (putRow Holds putCells)
def Co (l:List St):List St:=l.mergeSort fun x y=>decide (x≤y)
theorem GI (l:List St):(Co l).Perm l:=List.mergeSort_perm l _
theorem DQ (l:List St):(Co l).length=l.length:=(GI l).length_eq
theorem P4 (l:List St):(Co l).Pairwise (· ≤ ·):=by
 have:=List.pairwise_mergeSort (le:=fun x y:St=>decide (x≤y)) (fun a b c h1 h2=>by simp only [decide_eq_true_eq] at*;exact List.le_trans h1 h2) (fun a b=>by simp only [Bool.or_eq_true,decide_eq_true_eq];exact List.le_total a b) l;exact this.imp fun h=>by simpa using h
theorem O0 {l:List St} (h:l.Nodup):HD (Co l):=by
 have h1:=(GI l).nodup_iff.2 h;exact (List.Pairwise.and (P4 l) h1).imp fun ⟨h2,h3⟩=>Classical.byContradiction fun h4=>h3 (List.le_antisymm h2 (List.not_lt.1 h4))
theorem HL {l m:List St} (h:l.Nodup) (hm:HD m) (he:∀x,x∈l↔x∈m):Co l=m:=
 IK (O0 h) hm fun x=>((GI l).mem_iff).trans (he x)
variable {P:Program} {ρr:Ren}
theorem L4 (L:SlLaysN.n54 P ρr) {E:TypeId} {g54:FuncId} (xs:List (List UInt8)) (hsz:xs.length<4611686018427387904) {F:Fr} {s:AS} {d:Nat} {x:Operand} {ty:TypeId} {pos:String} {aft:Array Edge} {gd:Option (Nat×Bool)} {at_:Array TypeId} {f n:Nat} {row:List D} {hp':Hp}
  (hg:ρr.f 54=g54) (hx:s.ev x=some (.own f 0 n)) (ho:hget s.hp f 0=some (.rowD E 1 row)) (hrow:row=xs.map AZ) (hn:n=xs.length) (hh:Av s.hp f 0 (.rowD E 1 ((Co xs).map AZ))=some hp') (hd:Nat.blt d s.n=true):
  AM P F ⟨some d,.call {callee:= .value (.func g54),args:= #[x],argTypes:=at_},ty,pos,aft,gd⟩ s ⟨s.n,(d,.d (.tup []))::s.env,hp'⟩ (fun _ _=>true):=by
 subst hg hrow hn;intro ρ act w hs
 obtain ⟨fn6,hf1,hf2,hf3⟩:∃fn,P.funcs[ρr.f 54]?=some fn∧(fn.name== "runtime.NumGoroutine")=false∧fn.body.isSome=true:=by
  obtain ⟨nm,hn,hf⟩:=L.f54;exact ⟨_,hf,hn,rfl⟩
 unfold Oper.wp;rw [show (#[x]:Array Operand)=[x].toArray from rfl,Cs hf1 hf2 hf3,Oper.upon_enter]
 suffices key:Calls P (ρr.f 54) ([x].map act.eval).toArray w fun e w'=>e= .returned (.tuple #[])∧SR F ⟨s.n,s.env,hp'⟩ ρ act w' by
  refine key.mono fun e w' ⟨e1,hsr⟩=>?_;subst e1;exact ⟨ρ,hsr.put (Fu hd) (.d (.tup rfl fun i c v hc=>by cases hc)),fun _ _ _=>rfl⟩
 have r0:=hs.ev hx;have hg0:=ho;have h3:=hs.heap;have hset:=Ah hh;obtain ⟨us,q1,q2,q3⟩:=h3.sim f 0 _ hg0;show Calls P (ρr.f 54) #[act.eval x] w _
 generalize act.eval x=V0 at r0
 cases r0 with
 | own hρ hle=>
  rename_i N cap a
  by_cases hx:xs=[]
  ·subst hx;refine (AnyG.slices_Sort_string_none L a cap w).mono fun e w' ⟨e1,e2⟩=>?_;subst e1 e2;refine ⟨rfl,hs.writeG f 0 _ _ ho hset Z Z Z (Nat.le_refl _) (Nat.le_refl _) (fun _ _ _=>rfl) (fun _ _ e=>by cases e) fun hrep=>?_⟩;have h0:Co []=[]:=by simp [Co]
   rw [h0];exact ⟨us,q1,⟨by simpa using q2.1,fun x hx=>(by cases hx),fun i x hx=>by simp at hx⟩,fun x hx=>(by cases hx)⟩
  ·have hn:0<xs.length:=List.length_pos_iff.2 hx;have hul:us.length=xs.length:=by have:=q2.1;rw [List.length_map] at this;omega
   have hblkeq:∃b cur,a=some ⟨b,0,none⟩∧w.heap[b]?=some (.cells cur E (0,0))∧cur.size=cap∧xs.length≤cap∧cap≤maxLen∧cur.toList.take xs.length=us∧N=xs.length:=by
    rcases q1.2 with ⟨_,h⟩ | ⟨b,cap',cur,e1,_,e2,e3,e4,e5,e6⟩
    ·rw [List.length_map] at h;omega
    ·rw [hρ] at e1;injection e1 with e1 e7 e8
     subst e1 e8;rw [List.length_map] at e3 e6 e7;exact ⟨b,cur,rfl,e2,by omega,e3,e4,by rw [Nat.mul_one] at e6;exact e6,e7⟩
   obtain ⟨b,cur,rfl,p1,p2,p3,p3',p4,rfl⟩:=hblkeq;have hb:BM (ρ f 0)=some b:=by rw [hρ];rfl
   have hlt:b<w.heap.size:=(Array.getElem?_eq_some_iff.1 p1).1
   have hus:∀i (hi:i<xs.length),us[i]?=some (encStr xs[i]):=fun i hi=>by
    have hm:(xs.map AZ)[i]?=some (AZ xs[i]):=by rw [List.getElem?_map,List.getElem?_eq_getElem hi];rfl
    obtain ⟨u,hu,_,hr⟩:=q2.2.2 i _ hm 0 (AZ xs[i]) rfl;rw [Nat.mul_one,Nat.add_zero] at hu
    cases hr with
    | raw _=>exact hu
   have hH:Holds encStr w b 0 xs.toArray:=by
    intro j hj;have hj:j<xs.length:=by simpa using hj
    refine ⟨?_,?_⟩
    ·have hju:us[j]?=cur.toList[j]?:=by rw [←p4,List.getElem?_take_of_lt hj]
     simp only [World.cell?,p1,Nat.zero_add];have h1:=hus j hj;rw [hju] at h1;rw [getElem!_pos _ j (by simpa using hj)];have hjc:j<cur.size:=by simpa using (List.getElem?_eq_some_iff.1 h1).1
     simp only [List.getElem_toArray]
     simp [hjc] at h1⊢
     exact h1
    ·simp only [World.frozen?,p1];simp
   have key:=AnyG.slices_Sort_string L b 0 cap xs w hH hlt hsz;refine key.mono fun e w' ⟨e1,nd,os,hw⟩=>?_;subst e1 hw
   obtain ⟨ys,hys⟩:∃ys,Co xs=ys:=⟨_,rfl⟩
   have hys':(xs.mergeSort fun x y=>decide (x≤y))=ys:=hys;have hyl:ys.length=xs.length:=by rw [←hys,DQ]
   rw [hys] at hset hh;rw [hys'];refine ⟨rfl,?_⟩;have hsz2:((putRow encStr (Go.Sort.ahead w nd) b 0 ys.toArray)).heap.size=w.heap.size:=by rw [Go.Sort.size_putRow];rfl
   have hoth:∀b',b'<w.heap.size ->b'≠b ->(Go.Sort.grow (putRow encStr (Go.Sort.ahead w nd) b 0 ys.toArray) os).heap[b']?=w.heap[b']?:=fun b' hl hne=>by
    rw [Go.Sort.heap_grow_old _ _ (by rw [hsz2];exact hl)];show (w.heap.modify b _)[b']?=_;rw [Array.getElem?_modify,if_neg (Ne.symm hne)]
   refine hs.writeG f 0 _ _ ho hset Z Z Z (by rw [Go.Sort.size_grow,hsz2];exact Nat.le_add_right _ _) (Nat.le_add_right _ _) (fun b' hl hno=>hoth b' hl (fun e=>hno (by rw [e];exact hb))) (fun _ _ e=>by cases e) fun hrep=>?_
   have hheap:(Go.Sort.grow (putRow encStr (Go.Sort.ahead w nd) b 0 ys.toArray) os).heap[b]?=some (.cells (putCells encStr 0 ys.toArray cur) E (0,0)):=by
    rw [Go.Sort.heap_grow_old _ _ (by rw [hsz2];exact hlt)];show (w.heap.modify b _)[b]?=_;rw [Array.getElem?_modify,if_pos rfl,p1];rfl
   have hcs:(putCells encStr 0 ys.toArray cur).size=cap:=by simp only [putCells,Array.size_mapIdx];exact p2
   have hyl2:(ys.map AZ).length=xs.length:=by rw [List.length_map,hyl]
   refine ⟨ys.map encStr,⟨by rw [List.length_map,hyl2,hyl,Nat.mul_one],.inr ⟨b,cap,_,by rw [hρ,hyl2],Nat.zero_le _,hheap,by rw [hyl2];exact p3,p3',by omega,?_⟩⟩,⟨by rw [List.length_map,hyl2,hyl,Nat.mul_one],fun x hx2=>?_,fun i x hx2 j c hc2=>?_⟩,fun x hx2 c hc2=>?_⟩
   ·rw [hyl2,Nat.mul_one]
    apply List.ext_getElem?
    intro i
    by_cases hi:i<xs.length
    ·rw [List.getElem?_take_of_lt hi,Array.getElem?_toList,List.getElem?_map,List.getElem?_eq_getElem (by omega),Array.getElem?_eq_getElem (by omega)];simp only [putCells,Array.getElem_mapIdx];rw [if_pos ⟨Nat.zero_le _,by simp;omega⟩];simp only [Nat.sub_zero,Option.map_some];rw [getElem!_pos _ i (by simp;omega)]
     simp
    ·rw [List.getElem?_eq_none (by rw [List.length_take];omega),List.getElem?_eq_none (by rw [List.length_map];omega)]
   ·obtain ⟨y,_,rfl⟩:=List.mem_map.1 hx2;rfl
   ·rw [List.getElem?_map] at hx2
    cases hyi:ys[i]? with
    | none=>rw [hyi] at hx2;cases hx2
    | some y=>
     rw [hyi] at hx2;injection hx2 with hx2;subst hx2
     have hj0:j=0:=by have:=(List.getElem?_eq_some_iff.1 hc2).1;simp [D.cells] at this;exact this
     subst hj0;simp only [D.cells,List.getElem?_cons_zero,Option.some.injEq] at hc2;subst hc2;exact ⟨encStr y,by rw [Nat.mul_one,Nat.add_zero,List.getElem?_map,hyi];rfl,rfl,.raw rfl⟩
   ·obtain ⟨y,_,rfl⟩:=List.mem_map.1 hx2;simp only [D.cells,List.mem_singleton] at hc2;subst hc2;rfl
theorem OT (L:SlLaysN.n54 P ρr) {E:TypeId} {g54:FuncId} (xs:List (List UInt8)) (hsz:xs.length<4611686018427387904) {F:Fr} {s:AS} {d:Nat} {x:Operand} {ty:TypeId} {pos:String} {aft:Array Edge} {gd:Option (Nat×Bool)} {at_:Array TypeId} {f b cap n:Nat} {M:MF} {row:List D} {hp':Hp}
  (hg:ρr.f 54=g54) (hM:hfam s.hp f=some [.multi M]) (hx:s.ev x=some (.d (.raw (sV b n cap)))) (hb:M b=some (.row E 1 cap row)) (hrow:row=xs.map AZ) (hn:n=xs.length) (hh:Ax s.hp f (BD M b (.row E 1 cap ((Co xs).map AZ)))=some hp') (hd:Nat.blt d s.n=true):
  AM P F ⟨some d,.call {callee:= .value (.func g54),args:= #[x],argTypes:=at_},ty,pos,aft,gd⟩ s ⟨s.n,(d,.d (.tup []))::s.env,hp'⟩ (fun _ _=>true):=by
 subst hg hrow hn;intro ρ act w hs
 obtain ⟨fn6,hf1,hf2,hf3⟩:∃fn,P.funcs[ρr.f 54]?=some fn∧(fn.name== "runtime.NumGoroutine")=false∧fn.body.isSome=true:=by
  obtain ⟨nm,hn,hf⟩:=L.f54;exact ⟨_,hf,hn,rfl⟩
 unfold Oper.wp;rw [show (#[x]:Array Operand)=[x].toArray from rfl,Cs hf1 hf2 hf3,Oper.upon_enter]
 suffices key:Calls P (ρr.f 54) ([x].map act.eval).toArray w fun e w'=>e= .returned (.tuple #[])∧SR F ⟨s.n,s.env,hp'⟩ ρ act w' by
  refine key.mono fun e w' ⟨e1,hsr⟩=>?_;subst e1;exact ⟨ρ,hsr.put (Fu hd) (.d (.tup rfl fun i c v hc=>by cases hc)),fun _ _ _=>rfl⟩
 have r0:=hs.raw hx;obtain ⟨hρ,us,q1,q2,q3⟩:=hs.rowN hM hb;show Calls P (ρr.f 54) #[act.eval x] w _;rw [r0]
 by_cases hxs:xs=[]
 ·subst hxs;refine (AnyG.slices_Sort_string_none L (some ⟨b,0,none⟩) cap w).mono fun e w' ⟨e1,e2⟩=>?_;subst e1 e2;have h0:Co []=[]:=by simp [Co]
  rw [h0] at hh;exact ⟨rfl,hs.shrinkN f b 0 hM hb (Nat.zero_le _) hh⟩
 have hn:0<xs.length:=List.length_pos_iff.2 hxs
 obtain ⟨cur,p1,p2,p3,p3',p4⟩:∃cur,w.heap[b]?=some (.cells cur E (0,0))∧cur.size=cap∧xs.length≤cap∧cap≤maxLen∧cur.toList.take xs.length=us:=by
  rcases q1.2 with ⟨_,h⟩ | ⟨b',cap',cur,e1,_,e2,e3,e4,e5,e6⟩
  ·rw [List.length_map] at h;omega
  ·rw [List.length_map] at e1;injection e1 with e1 e7 e8
   injection e1 with e1
   injection e1 with e1
   subst e1 e8;rw [List.length_map] at e3 e6;exact ⟨cur,e2,by omega,e3,e4,by rwa [Nat.mul_one] at e6⟩
 have hlt:b<w.heap.size:=(Array.getElem?_eq_some_iff.1 p1).1
 have hus:∀i (hi:i<xs.length),us[i]?=some (encStr xs[i]):=fun i hi=>by
  have hm:(xs.map AZ)[i]?=some (AZ xs[i]):=by rw [List.getElem?_map,List.getElem?_eq_getElem hi];rfl
  obtain ⟨u,hu,_,hr⟩:=q2.2.2 i _ hm 0 (AZ xs[i]) rfl;rw [Nat.mul_one,Nat.add_zero] at hu
  cases hr with
  | raw _=>exact hu
 have hH:Holds encStr w b 0 xs.toArray:=by
  intro j hj;have hj:j<xs.length:=by simpa using hj
  refine ⟨?_,?_⟩
  ·have hju:us[j]?=cur.toList[j]?:=by rw [←p4,List.getElem?_take_of_lt hj]
   simp only [World.cell?,p1,Nat.zero_add];have h1:=hus j hj;rw [hju] at h1;rw [getElem!_pos _ j (by simpa using hj)];have hjc:j<cur.size:=by simpa using (List.getElem?_eq_some_iff.1 h1).1
   simp only [List.getElem_toArray]
   simp [hjc] at h1⊢
   exact h1
  ·simp only [World.frozen?,p1];simp
 have key:=AnyG.slices_Sort_string L b 0 cap xs w hH hlt hsz;refine key.mono fun e w' ⟨e1,nd,os,hw⟩=>?_;subst e1 hw
 obtain ⟨ys,hys⟩:∃ys,Co xs=ys:=⟨_,rfl⟩
 have hys':(xs.mergeSort fun x y=>decide (x≤y))=ys:=hys;have hyl:ys.length=xs.length:=by rw [←hys,DQ]
 rw [hys] at hh;rw [hys'];refine ⟨rfl,?_⟩;have hsz2:((putRow encStr (Go.Sort.ahead w nd) b 0 ys.toArray)).heap.size=w.heap.size:=by rw [Go.Sort.size_putRow];rfl
 have hoth:∀b',b'<w.heap.size ->b'≠b ->(Go.Sort.grow (putRow encStr (Go.Sort.ahead w nd) b 0 ys.toArray) os).heap[b']?=w.heap[b']?:=fun b' hl hne=>by
  rw [Go.Sort.heap_grow_old _ _ (by rw [hsz2];exact hl)];show (w.heap.modify b _)[b']?=_;rw [Array.getElem?_modify,if_neg (Ne.symm hne)]
 have hset:∀g i,hget hp' g i=if g=f∧i=b then some (.nr b E 1 cap (ys.map AZ)) else hget s.hp g i:=fun g i=>by
  rw [Bn hh]
  by_cases e:g=f
  ·subst e;rw [if_pos rfl,EB hM]
   by_cases e2:i=b
   ·subst e2;rw [if_pos ⟨rfl,rfl⟩,D3];rfl
   ·rw [if_neg (fun h=>e2 h.2),Dr e2]
  ·rw [if_neg e,if_neg (fun h=>e h.1)]
 refine hs.writeG f b (.nr b E 1 cap (xs.map AZ)) (.nr b E 1 cap (ys.map AZ)) (by rw [EB hM,hb];rfl) hset Z Z Z (by rw [Go.Sort.size_grow,hsz2];exact Nat.le_add_right _ _) (Nat.le_add_right _ _) (fun b' hl hno=>hoth b' hl (fun e=>hno (by rw [e,hρ];rfl))) (fun _ _ e=>by cases e) fun hrep=>?_
 have hheap:(Go.Sort.grow (putRow encStr (Go.Sort.ahead w nd) b 0 ys.toArray) os).heap[b]?=some (.cells (putCells encStr 0 ys.toArray cur) E (0,0)):=by
  rw [Go.Sort.heap_grow_old _ _ (by rw [hsz2];exact hlt)];show (w.heap.modify b _)[b]?=_;rw [Array.getElem?_modify,if_pos rfl,p1];rfl
 have hcs:(putCells encStr 0 ys.toArray cur).size=cap:=by simp only [putCells,Array.size_mapIdx];exact p2
 have hyl2:(ys.map AZ).length=xs.length:=by rw [List.length_map,hyl]
 refine ⟨hρ,ys.map encStr,⟨by rw [List.length_map,hyl2,hyl,Nat.mul_one],.inr ⟨b,cap,_,by rw [hyl2],Nat.zero_le _,hheap,by rw [hyl2];exact p3,p3',by omega,?_⟩⟩,⟨by rw [List.length_map,hyl2,hyl,Nat.mul_one],fun x hx2=>?_,fun i x hx2 j c hc2=>?_⟩,fun x hx2 c hc2=>?_⟩
 ·rw [hyl2,Nat.mul_one]
  apply List.ext_getElem?
  intro i
  by_cases hi:i<xs.length
  ·rw [List.getElem?_take_of_lt hi,Array.getElem?_toList,List.getElem?_map,List.getElem?_eq_getElem (by omega),Array.getElem?_eq_getElem (by omega)];simp only [putCells,Array.getElem_mapIdx];rw [if_pos ⟨Nat.zero_le _,by simp;omega⟩];simp only [Nat.sub_zero,Option.map_some];rw [getElem!_pos _ i (by simp;omega)]
   simp
  ·rw [List.getElem?_eq_none (by rw [List.length_take];omega),List.getElem?_eq_none (by rw [List.length_map];omega)]
 ·obtain ⟨y,_,rfl⟩:=List.mem_map.1 hx2;rfl
 ·rw [List.getElem?_map] at hx2
  cases hyi:ys[i]? with
  | none=>rw [hyi] at hx2;cases hx2
  | some y=>
   rw [hyi] at hx2;injection hx2 with hx2;subst hx2
   have hj0:j=0:=by have:=(List.getElem?_eq_some_iff.1 hc2).1;simp [D.cells] at this;exact this
   subst hj0;simp only [D.cells,List.getElem?_cons_zero,Option.some.injEq] at hc2;subst hc2;exact ⟨encStr y,by rw [Nat.mul_one,Nat.add_zero,List.getElem?_map,hyi];rfl,rfl,.raw rfl⟩
 ·obtain ⟨y,_,rfl⟩:=List.mem_map.1 hx2;simp only [D.cells,List.mem_singleton] at hc2;subst hc2;rfl
end Go.Proofs.Ytlmedakidpaeeaa
/- Layer 27: rows of strings that grow, in memory. -/
namespace Go.Proofs.Ytlmedakidpaeeaa
open Go.RowKit
set_option maxRecDepth 100000
abbrev stsD (l:List St):D:= .sl none (l.map AZ)
structure LU (M:MF) (n:Nat) (hs:Nat ->Hd) (ls:Nat ->List St):Prop where
 at_:∀j,j<n ->Ju M (hs j) 9 1 ((ls j).map AZ)
 inj:∀j k b c c',j<n ->k<n ->hs j=some (b,c) ->hs k=some (b,c') ->j=k
abbrev rowS (n:Nat) (hs:Nat ->Hd) (ls:Nat ->List St):List D:=(List.range n).map fun j=>hdr (hs j) (ls j).length
theorem FR {n j:Nat} {hs:Nat ->Hd} {ls:Nat ->List St} (h:j<n):(rowS n hs ls)[j]?=some (hdr (hs j) (ls j).length):=by simp [h]
theorem RZ (n:Nat) (hs:Nat ->Hd) (ls:Nat ->List St):(rowS n hs ls).length=n:=by simp
theorem Pg {n j:Nat} {hs:Nat ->Hd} {ls:Nat ->List St} {h:Hd} {l:List St}:(rowS n hs ls).set j (hdr h l.length)=rowS n (An hs j h) (An ls j l):=
 IL (fun i _ hne=>by rw [E6 hne,E6 hne]) (by rw [Ds,Ds])
theorem LU.zero (n:Nat):LU (fun _=>none) n (fun _=>none) (fun _=> []):=⟨fun _ _=>rfl,fun _ _ _ _ _ _ _ h=>by cases h⟩
theorem LU.app {M:MF} {n j:Nat} {hs:Nat ->Hd} {ls:Nat ->List St} (h:LU M n hs ls) (hj:j<n) {l:List St} {b c:Nat} (hb:DF M (hs j) b=none) (hc:(l.map AZ).length≤c):
  LU (BD (DF M (hs j)) b (.row 9 1 c (l.map AZ))) n (An hs j (some (b,c))) (An ls j l):=by
 have hne:∀k,k<n ->k≠j ->∀b' c',hs k=some (b',c') ->b'≠b∧BD (DF M (hs j)) b (.row 9 1 c (l.map AZ)) b'=M b':=by
  intro k hk hkj b' c' e;have h1:=h.at_ k hk;rw [e] at h1;have h2:∀c'',hs j≠some (b',c''):=fun c'' e2=>hkj (h.inj k j b' c' c'' hk hj e e2);refine ⟨fun e3=>?_,?_⟩
  ·subst e3;have:=En h1.2 h2;rw [hb] at this;cases this
  ·rw [Qa hb h1.2 h2,h1.2]
 refine ⟨fun k hk=>?_,fun k k' b1 c1 c2 hk hk' e1 e2=>?_⟩
 ·by_cases e:k=j
  ·subst e;rw [Ds,Ds];exact ⟨hc,D3 _ _ _⟩
  ·rw [E6 e,E6 e];have h1:=h.at_ k hk
   match hh:hs k,h1 with
   | none,h1=>exact h1
   | some (b',c'),h1=>exact ⟨h1.1,by rw [(hne k hk e b' c' hh).2];exact h1.2⟩
 ·by_cases ek:k=j<;>by_cases ek':k'=j
  ·rw [ek,ek']
  ·subst ek;rw [Ds] at e1;rw [E6 ek'] at e2;injection e1 with e1;injection e1 with e1 _;subst e1
   exact ((hne k' hk' ek' _ _ e2).1 rfl).elim
  ·subst ek';rw [Ds] at e2;rw [E6 ek] at e1;injection e2 with e2;injection e2 with e2 _;subst e2
   exact ((hne k hk ek _ _ e1).1 rfl).elim
  ·rw [E6 ek] at e1;rw [E6 ek'] at e2;exact h.inj k k' b1 c1 c2 hk hk' e1 e2
theorem LU.put {M:MF} {n j b c:Nat} {hs:Nat ->Hd} {ls:Nat ->List St} (h:LU M n hs ls) (hj:j<n) (hh:hs j=some (b,c)) {l:List St} (hl:l.length≤c):LU (BD M b (.row 9 1 c (l.map AZ))) n hs (An ls j l):=by
 refine ⟨fun k hk=>?_,h.inj⟩
 by_cases e:k=j
 ·subst e;rw [Ds,hh];exact ⟨by rw [List.length_map];exact hl,D3 _ _ _⟩
 ·rw [E6 e];have h1:=h.at_ k hk
  match hk2:hs k,h1 with
  | none,h1=>exact h1
  | some (b',c'),h1=>exact ⟨h1.1,by rw [Dr fun e2=>e (h.inj k j b c' c hk hj (by rw [hk2,e2]) hh)];exact h1.2⟩
theorem Ip (n:Nat) (hs:Nat ->Hd) (ls:Nat ->List St):∀x∈rowS n hs ls,x.one=true:=fun x hx=>by
 obtain ⟨a,_,rfl⟩:=List.mem_map.1 hx;rfl
def O6 (n:Nat) (ls:Nat ->List St):List (List St):=(List.range n).map ls
theorem Nj (n:Nat) (ls:Nat ->List St):(O6 n ls).length=n:=by simp [O6]
theorem Nk {n i:Nat} {ls:Nat ->List St} (h:i<n):(O6 n ls)[i]?=some (ls i):=by simp [O6,h]
theorem LU.melt {M:MF} {n:Nat} {hs:Nat ->Hd} {ls:Nat ->List St} (h:LU M n hs ls):∀(j:Nat) x y,(rowS n hs ls)[j]?=some x ->((O6 n ls).map stsD)[j]?=some y ->Mm M x y:=by
 intro j x y hx hy;have hj:j<n:=by have:=(List.getElem?_eq_some_iff.1 hx).1;rwa [RZ] at this
 rw [FR hj] at hx;injection hx with hx
 rw [List.getElem?_map,Nk hj] at hy;injection hy with hy
 subst hx hy;exact .inr ⟨hs j,9,(ls j).map AZ,by rw [List.length_map],h.at_ j hj,fun z hz=>by obtain ⟨a,_,rfl⟩:=List.mem_map.1 hz;rfl,rfl⟩
theorem one_sts (g:List (List St)):∀x∈g.map stsD,x.one=true:=fun x hx=>by
 obtain ⟨a,_,rfl⟩:=List.mem_map.1 hx;rfl
section
variable {P:Program} {F:Fr} {s:AS} {d:Nat} {ty T T' E K:TypeId} {pos:String} {aft:Array Edge} {g:Option (Nat×Bool)} {x:Operand}
theorem E9 {p:Option Addr} (hT:P.underlying T=some (.pointer E)) (hx:s.ev x=some (.d (.raw (.pointer p)))) (hd:Nat.blt d s.n=true):AA P F ⟨some d,.binOp .eql T x (.const (.pointer none)) T',ty,pos,aft,g⟩ s d (.d (.raw (.bool p.isNone))):=
 Bl _ hd fun ρ act w hs=>by
  have hv:=hs.raw hx;have hp:P.pointee T=E:=by unfold Program.pointee;rw [hT]
  have hc:act.eval (.const (.pointer none))= .pointer none:=rfl;exact ⟨.bool p.isNone,by simp [execOp,hv,hc,Cy,binOp,run_equal_pointer_nil w T p (by rw [hp];exact hT)],.d (.raw rfl)⟩
theorem E8 {m:Nat} (hT:P.underlying T=some (.map K E)) (hx:s.ev x=some (.d (.raw (.map (some m))))) (hd:Nat.blt d s.n=true):AA P F ⟨some d,.binOp .eql T x (.const (.map none)) T',ty,pos,aft,g⟩ s d (.d (.raw (.bool false))):=
 Bl _ hd fun ρ act w hs=>by
  have hv:=hs.raw hx;have hc:act.eval (.const (.map none))= .map none:=rfl;exact ⟨.bool false,by simp [execOp,hv,hc,eqGuard,binOp,run_equal_map_nil w T K E (some m) hT],.d (.raw rfl)⟩
end
structure Lk where
 t:Int
 r:St
deriving instance DecidableEq for Lk
theorem Lk.eq_iff {a b:Lk}:a=b↔a.t=b.t∧a.r=b.r:=by cases a;cases b;simp
abbrev lkD (l:Lk):D:= .agg [Bv l.t,AZ l.r]
def lkC (l:Lk):List Value:=[.int .i64 l.t,Ke l.r]
abbrev lkT:List TypeDesc:=[.int .i64,.string]
theorem JG (a b:Int):JH (.int .i64 a) (.int .i64 b)=decide (a=b):=by
 simp only [JH];exact Bool.beq_eq_decide_eq a b
theorem JF (a b:List UInt8):JH (Ke a) (Ke b)=decide (a=b):=by
 simp only [JH,Ke,←beq_toListBytes,KZ]
theorem lk_eqC (a b:Lk):BB (lkC a) (lkC b)=decide (a=b):=by
 simp only [lkC,BB,JG,JF,Lk.eq_iff,Bool.and_true,Bool.decide_and,Bool.and_assoc]
theorem DX {d:TypeDesc} {ds:List TypeDesc} {u:Value} {us:List Value} (h:MapKept.IsKey d u) (hr:Ao ds us):Ao (d::ds) (u::us):=
 ⟨by simp [hr.1],fun i d' u' hd hu=>by
  cases i with
  | zero=>simp at hd hu;subst hd hu;exact h
  | succ i=>exact hr.2 i d' u' (by simpa using hd) (by simpa using hu)⟩
theorem Jz:Ao [] []:=⟨rfl,by simp⟩
theorem Q5 (a:Lk):Ao lkT (lkC a):=DX rfl (DX trivial Jz)
theorem lk_val (a:Lk):(lkD a).val?=some (.agg (lkC a).toArray):=rfl
theorem Hw:BS Try.prog 39 lkD (fun a=> .agg (lkC a).toArray):=BS.flat (ds:=lkT) (by kernel_rfl) (by kernel_rfl) lk_val Q5 lk_eqC
abbrev hD (h:Option Nat):D:= .raw (.map h)
abbrev eE (E:List (St×Nat)):List (St×Option Nat):=E.map fun p=>(p.1,some p.2)
abbrev Ck (l:List Lk):List (Lk×Bool):=l.map fun x=>(x,true)
abbrev CR (E:List (St×Nat)):List (D×D):=Ad AZ hD (eE E)
abbrev CI (l:List Lk):List (D×D):=Ad lkD Ak (Ck l)
structure LR (M:MF) (b m:Nat) (E:List (St×Nat)) (lk:Nat ->List Lk):Prop where
 cell:M b=some (.cells 68 [mD m])
 top:M m=some (.map none (CR E))
 sub:∀p∈E,M p.2=some (.map none (CI (lk p.2)))
 nd:(E.map Prod.snd).Nodup
 ne:m∉E.map Prod.snd
structure LW (E:List (St×Nat)) (lk:Nat ->List Lk) (w:Ws):Prop where
 kd:(E.map Prod.fst).Nodup
 ks:∀x,x∈E.map Prod.fst↔x∈w.R
 ld:∀p∈E,(lk p.2).Nodup
 ls:∀p∈E,∀l:Lk,l∈lk p.2↔(⟨p.1,l.t,l.r⟩:Lw)∈w.K
def BR (M:MF) (b:Nat) (w:Ws):Prop:=∃m E lk,LR M b m E lk∧LW E lk w
theorem LW.len {E:List (St×Nat)} {lk:Nat ->List Lk} {w:Ws} (h:LW E lk w) (hw:BV w):E.length=w.R.length:=by
 have:=((List.perm_ext_iff_of_nodup h.kd (EO hw.srt)).2 h.ks).length_eq
 rwa [List.length_map] at this
theorem GU (E:List (St×Nat)):(eE E).map Prod.fst=E.map Prod.fst:=by rw [List.map_map];rfl
theorem LW.has {E:List (St×Nat)} {lk:Nat ->List Lk} {w:Ws} (h:LW E lk w) (x:St):Gq (eE E) x=decide (x∈w.R):=by
 rw [Bool.eq_iff_iff,Bx,GU,decide_eq_true_eq];exact h.ks x
theorem K5 {E:List (St×Nat)} (hd:(E.map Prod.fst).Nodup) {x:St} {h:Nat} (hm:(x,h)∈E):CS (eE E) x none=some h:=
 Hg (by rw [GU];exact hd) (List.mem_map.2 ⟨(x,h),hm,rfl⟩)
theorem eE_none {E:List (St×Nat)} {x:St} (hm:x∉E.map Prod.fst):CS (eE E) x none=none:=KI (by rw [GU];exact hm)
theorem LW.at {E:List (St×Nat)} {lk:Nat ->List Lk} {w:Ws} (h:LW E lk w) {x:St} (hx:x∈w.R):∃n,(x,n)∈E:=by
 obtain ⟨p,hp,e⟩:=List.mem_map.1 ((h.ks x).2 hx);exact ⟨p.2,by rw [←e];exact hp⟩
theorem Nv (l:List Lk):(Ck l).map Prod.fst=l:=by rw [List.map_map];exact List.map_id _
theorem IP (l:List Lk) (a:Lk):CS (Ck l) a false=decide (a∈l):=by
 induction l with
 | nil=>rfl
 | cons x r ih=>
  show (if a=x then true else CS (Ck r) a false)=_
  by_cases e:a=x
  ·simp [e]
  ·simp [e,ih]
theorem Kt {l:List Lk} {a:Lk} (h:a∉l):Bh (Ck l) a true=Ck (l++ [a]):=by
 induction l with
 | nil=>rfl
 | cons x r ih=>
  have hx:a≠x:=fun e=>h (by rw [e];simp);show (if a=x then (x,true)::Ck r else (x,true)::Bh (Ck r) a true)=_;rw [if_neg hx,ih fun h'=>h (List.mem_cons_of_mem _ h')]
  rfl
theorem IQ {l:List Lk} {a:Lk} (hn:l.Nodup):NO (Ck l) a=Ck (l.filter fun x=>!decide (x=a)):=by
 unfold NO
 induction l with
 | nil=>rfl
 | cons x r ih=>
  obtain ⟨h1,h2⟩:=List.nodup_cons.1 hn;show List.eraseIdx ((x,true)::Ck r) (if a=x then 0 else D8 (Ck r) a+1)=_
  by_cases e:a=x
  ·subst e;rw [if_pos rfl,List.filter_cons,List.filter_eq_self.2 fun y hy=>by simp;rintro rfl;exact h1 hy]
   simp
  ·have e':¬x=a:=fun h=>e h.symm;rw [if_neg e,List.eraseIdx_cons_succ,ih h2,List.filter_cons]
   simp [e']
theorem Qt {E:List (St×Nat)} {x:St} {h:Nat} (hx:x∉E.map Prod.fst):Bh (eE E) x (some h)=eE (E++ [(x,h)]):=by
 induction E with
 | nil=>rfl
 | cons p r ih=>
  have h1:x≠p.1:=fun e=>hx (by rw [e];simp);show (if x=p.1 then (p.1,some h)::eE r else (p.1,some p.2)::Bh (eE r) x (some h))=_;rw [if_neg h1,ih fun h'=>hx (List.mem_cons_of_mem _ h')]
  rfl
theorem Mn {M:MF} {b:Nat} {x y:A6}:BD (BD M b x) b y=BD M b y:=by
 funext i;unfold BD;split<;>rfl
theorem CE {M:MF} {b:Nat} {x:A6} (h:M b=some x):BD M b x=M:=by
 funext i;unfold BD;split
 ·rename_i e;rw [e,h]
 ·rfl
theorem new_rep {m b:Nat} (hb:BD (BD (fun _=>none) m (.map (some ([],0)) [])) m (.map none []) b=none):BR (BD (BD (BD (fun _=>none) m (.map (some ([],0)) [])) m (.map none [])) b (.cells 68 [mD m])) b ⟨[],[]⟩:=by
 have hne:m≠b:=fun e=>by subst e;rw [D3] at hb;cases hb
 exact ⟨m,[],fun _=> [],⟨D3 _ _ _,by rw [Dr hne,D3];rfl,(fun _ h=>by cases h),List.nodup_nil,List.not_mem_nil⟩,⟨List.nodup_nil,fun x=>by simp,(fun _ h=>by cases h),(fun _ h=>by cases h)⟩⟩
theorem QW:AR Try.prog 11 [] [] fun r H'=>∃b M,r= .d (pD b 0)∧H'=[(40,[.multi M])]∧BR M b ⟨[],[]⟩:=by
 refine DA Try.func11 Z Z Try.ntmps11 Z Z Z fun F hF=>(AG (AI (AE Z Z (AF (AG (Fn 40 Z Z Z (AI ?_)))))));refine U (Eg 1 Z Z Z Z) (HU 1 1 40 hF Z Z Z Z Z Z Z Z Z Z (fun _=>rfl) fun m hm=>(C1 40 m rfl (D3 _ _ _) rfl (J (Ml zl68 pl68 Z Z Z) (U (IG 2 Z Z Z Z Z Z Z) (QN 3 2 40 (ds:=[mD m]) hF Z Z Z Z Z Z Z Z Z Z Z (fun _=>rfl) fun b hb=>(AE Z Z (AF (Au ?_))))))));exact ⟨_,[40],_,Aq rfl,rfl,rfl,b,_,rfl,rfl,new_rep hb⟩
theorem Iz {M:MF} {b:Nat} {w:Ws} (h:BR M b w) (x:St):AR Try.prog 33 [.d (pD b 0),.d (AZ x)] [(40,[.multi M])] fun r H'=>r= .d (Ak (decide (x∈w.R)))∧H'=[(40,[.multi M])]:=by
 obtain ⟨m,E,lk,hr,hl⟩:=h;refine DA Try.func33 Z Z Try.ntmps33 Z Z Z fun F hF=>(AG (AI (AE Z Z (AF (AG (AG (AI (AC Z Z ?_))))))))
 first | refine J (EZ Z Z Z) ?_ | refine J (Ea Z Z Z) ?_ | refine J (EF Z Z Z) ?_ | refine J (E0 Try.underlying23 Z Z Z) ?_ | refine J (E5 Try.underlying23 Z Z Z) ?_ | refine J (E4 Try.underlying23 Z Z) ?_ | refine J (E9 Try.underlying23 Z Z) ?_ | refine J (E8 Try.underlying23 Z Z) ?_ | refine J (E3 Try.underlying23 Z Z Z) ?_ | refine J (E7 Try.underlying23 Z Z) ?_
 refine AF (D4 rfl (rfl) (Ai (AG (AI (AC Z Z ?_)))))
 first | refine J (FJ Z Z) ?_ | refine J (FG Z Z) ?_ | refine J (FK Z Z) ?_ | refine J (FH Z Z) ?_
 first | refine J (A1 rfl A5 Z Z Z) ?_ | refine J (A3 rfl A5 Z Z Z) ?_ | refine J (A4 rfl A5 Z Z Z) ?_ | refine J (A2 rfl A5 Z Z Z) ?_ | refine J (A0 rfl A5 Z Z Z) ?_
 refine J (Ft (f:=40) Z Z (hr.cell) rfl Bk rfl) (AC Z Z (J (GG (f:=40) (eE E) (x) (none) Z Z (hr.top) rfl Bu Ec EH rfl) (AC Z Z ?_)))
 first | refine J (B4 Z Z Z) ?_ | refine J (B5 Z Z Z) ?_
 first | refine J (B4 Z Z Z) ?_ | refine J (B5 Z Z Z) ?_
 refine AE Z Z (AE Z Z (AF (AG (AI (AC Z Z (AE Z Z (AF (Au ?_))))))));exact ⟨_,[40],_,Aq rfl,rfl,rfl,by rw [hl.has],rfl⟩
theorem len_c {M:MF} {b:Nat} {w:Ws} (h:BR M b w) (hw:BV w):AR Try.prog 13 [.d (pD b 0)] [(40,[.multi M])] fun r H'=>r= .d (natD w.R.length)∧H'=[(40,[.multi M])]:=by
 obtain ⟨m,E,lk,hr,hl⟩:=h;refine DA Try.func13 Z Z Try.ntmps13 Z Z Z fun F hF=>(AG (AI (AE Z Z (AF (AG (AG (AI (AC Z Z ?_))))))))
 first | refine J (EZ Z Z Z) ?_ | refine J (Ea Z Z Z) ?_ | refine J (EF Z Z Z) ?_ | refine J (E0 Try.underlying23 Z Z Z) ?_ | refine J (E5 Try.underlying23 Z Z Z) ?_ | refine J (E4 Try.underlying23 Z Z) ?_ | refine J (E9 Try.underlying23 Z Z) ?_ | refine J (E8 Try.underlying23 Z Z) ?_ | refine J (E3 Try.underlying23 Z Z Z) ?_ | refine J (E7 Try.underlying23 Z Z) ?_
 refine AF (D4 rfl (rfl) (Ai (AG (AI (AC Z Z ?_)))))
 first | refine J (FJ Z Z) ?_ | refine J (FG Z Z) ?_ | refine J (FK Z Z) ?_ | refine J (FH Z Z) ?_
 first | refine J (A1 rfl A5 Z Z Z) ?_ | refine J (A3 rfl A5 Z Z Z) ?_ | refine J (A4 rfl A5 Z Z Z) ?_ | refine J (A2 rfl A5 Z Z Z) ?_ | refine J (A0 rfl A5 Z Z Z) ?_
 refine J (Ft (f:=40) Z Z (hr.cell) rfl Bk rfl) (J (EK (f:=40) (n:=w.R.length) Z Z hr.top (by simp [Ad,hl.len hw]) Bu rfl) (AE Z Z (AF (Au ?_))));exact ⟨_,[40],_,Aq rfl,rfl,rfl,rfl,rfl⟩
theorem add_rep {M:MF} {b m h:Nat} {E:List (St×Nat)} {lk:Nat ->List Lk} {w:Ws} (hr:LR M b m E lk) (hl:LW E lk w) {x:St} (hx:x∉w.R) (hok:BV w) (hh:M h=none):
  BR (BD (BD (BD M h (.map (some ([],0)) [])) h (.map none [])) m (.map none (Ad AZ hD (Bh (eE E) x (some h))))) b ⟨Bi w.R x,w.K⟩:=by
 have hxe:x∉E.map Prod.fst:=fun hm=>hx ((hl.ks x).1 hm);have hmh:m≠h:=fun e=>by subst e;rw [hr.top] at hh;cases hh
 have hbm:b≠m:=fun e=>by subst e;have:=hr.cell;rw [hr.top] at this;cases this
 have hbh:b≠h:=fun e=>by subst e;rw [hr.cell] at hh;cases hh
 have hph:∀p∈E,p.2≠h∧p.2≠m:=fun p hp=>⟨(fun e=>by have:=hr.sub p hp;rw [e,hh] at this;cases this),(fun e=>hr.ne (by rw [←e];exact List.mem_map_of_mem hp))⟩
 have hlk:∀p∈E,(if p.2=h then [] else lk p.2)=lk p.2:=fun p hp=>if_neg (hph p hp).1;refine ⟨m,E++ [(x,h)],fun n=>if n=h then [] else lk n,⟨?_,?_,fun p hp=>?_,?_,?_⟩,⟨?_,fun y=>?_,fun p hp=>?_,fun p hp l=>?_⟩⟩
 ·rw [Dr hbm,Dr hbh,Dr hbh];exact hr.cell
 ·rw [D3,Qt hxe]
 ·show (_:Option A6)=some (.map none (CI (if p.2=h then [] else lk p.2)));rcases List.mem_append.1 hp with hp | hp
  ·rw [hlk p hp,Dr (hph p hp).2,Dr (hph p hp).1,Dr (hph p hp).1];exact hr.sub p hp
  ·simp at hp;subst hp
   rw [Dr (Ne.symm hmh),D3]
   simp [Ad]
 ·rw [List.map_append,List.nodup_append];refine ⟨hr.nd,by simp,fun a ha c hc e=>?_⟩
  simp at hc;subst hc;subst e
  obtain ⟨p,hp,e⟩:=List.mem_map.1 ha;exact (hph p hp).1 e
 ·rw [List.map_append,List.mem_append];rintro (h1 | h1)
  ·exact hr.ne h1
  ·simp at h1;exact hmh h1
 ·rw [List.map_append,List.nodup_append];refine ⟨hl.kd,by simp,fun a ha c hc e=>?_⟩
  simp at hc;subst hc;subst e;exact hxe ha
 ·rw [List.map_append,List.mem_append,LT,hl.ks]
  simp [or_comm]
 ·show (if p.2=h then [] else lk p.2).Nodup;rcases List.mem_append.1 hp with hp | hp
  ·rw [hlk p hp];exact hl.ld p hp
  ·simp at hp;subst hp;simp
 ·show l∈(if p.2=h then [] else lk p.2)↔_;rcases List.mem_append.1 hp with hp | hp
  ·rw [hlk p hp];exact hl.ls p hp l
  ·simp at hp;subst hp
   simp only [if_true,List.not_mem_nil,false_iff];exact fun hk=>hx (hok.lk _ hk).1
theorem H6 {w:Ws} {x:St} (h:x.length<1∨64<x.length):addW w x=(w,6):=if_pos h
theorem N9 {w:Ws} {x:St} (h:¬(x.length<1∨64<x.length)) (hx:x∈w.R):addW w x=(w,7):=by unfold addW;rw [if_neg h,if_pos hx]
theorem N8 {w:Ws} {x:St} (h:¬(x.length<1∨64<x.length)) (hx:¬x∈w.R) (hn:4096≤w.R.length):addW w x=(w,8):=by unfold addW;rw [if_neg h,if_neg hx,if_pos hn]
theorem N7 {w:Ws} {x:St} (h:¬(x.length<1∨64<x.length)) (hx:¬x∈w.R) (hn:¬4096≤w.R.length):addW w x=(⟨Bi w.R x,w.K⟩,0):=by unfold addW;rw [if_neg h,if_neg hx,if_neg hn]
theorem OF {M:MF} {b:Nat} {w:Ws} (h:BR M b w) (hw:BV w) (x:St):AR Try.prog 12 [.d (pD b 0),.d (AZ x)] [(40,[.multi M])] fun r H'=>∃M',r= .d (Bv (addW w x).2)∧H'=[(40,[.multi M'])]∧BR M' b (addW w x).1:=by
 have hrep:=h;obtain ⟨m,E,lk,hr,hl⟩:=h;refine DA Try.func12 Z Z Try.ntmps12 Z Z Z fun F hF=>?_;refine AG (AI (AE Z Z (AF (AG (B7 (AG (AI (AC Z Z ?_))))))))
 first | refine J (EZ Z Z Z) ?_ | refine J (Ea Z Z Z) ?_ | refine J (EF Z Z Z) ?_ | refine J (E0 Try.underlying23 Z Z Z) ?_ | refine J (E5 Try.underlying23 Z Z Z) ?_ | refine J (E4 Try.underlying23 Z Z) ?_ | refine J (E9 Try.underlying23 Z Z) ?_ | refine J (E8 Try.underlying23 Z Z) ?_ | refine J (E3 Try.underlying23 Z Z Z) ?_ | refine J (E7 Try.underlying23 Z Z) ?_
 refine AE Z Z (AF (D4 rfl (rfl) (AG (AI (AC Z Z ?_)))))
 first | refine J (J0 rfl Try.underlying9 rfl) ?_ | refine J (Br Z Z Try.underlying9 rfl) ?_ | refine J (JW rfl Try.underlying9 rfl) ?_ | refine J (JY rfl Try.underlying9 rfl) ?_ | refine J (JV rfl Try.underlying9 rfl) ?_ | refine J (JP rfl Try.underlying9 rfl) ?_
 first | refine J (Ed Z Z Z) ?_ | refine J (Ef Z Z Z) ?_
 refine AC Z Z ?_
 first | refine JQ 12 rfl (fun h12=>?_) (fun h12=>?_) | refine ID 12 rfl (fun h12=>?_) (fun h12=>?_)
 ·refine Ay Z Z Z Z (Ay Z Z Z Z (Ay Z Z Z Z ?_));refine J (G1 Z Z Z Z) (AE Z Z (AF (IE Z Z (AG (AI (AE Z Z (AF (Au ?_))))))));exact ⟨_,[40],_,Aq rfl,rfl,rfl,M,by rw [H6 (by omega)],rfl,by rw [H6 (by omega)];exact hrep⟩
 ·refine A8 Z Z Z (AC Z Z (A8 Z Z Z ?_))
  first | refine J (J0 rfl Try.underlying9 rfl) ?_ | refine J (Br Z Z Try.underlying9 rfl) ?_ | refine J (JW rfl Try.underlying9 rfl) ?_ | refine J (JY rfl Try.underlying9 rfl) ?_ | refine J (JV rfl Try.underlying9 rfl) ?_ | refine J (JP rfl Try.underlying9 rfl) ?_
  refine A8 Z Z Z ?_
  first | refine J (Mv Z Z Z) ?_ | refine J (Kh Z Z Z) ?_
  refine J (Ey Z Z Z Z) (AE Z Z (AF ?_))
  first | refine BA rfl (fun h8=>?_) (fun h8=>?_) | refine Az rfl (fun h8=>?_) (fun h8=>?_)
  ·refine AG (AI (AE Z Z (AF (Au ?_))));exact ⟨_,[40],_,Aq rfl,rfl,rfl,M,by rw [H6 (by omega)],rfl,by rw [H6 (by omega)];exact hrep⟩
  ·refine AG (AI (AC Z Z (AC Z Z (U (GD (Iz hrep x) rfl [40] ⟨rfl,trivial⟩ Z Z Z Z Z Z Z Z Z) (AE Z Z (AF ?_))))))
   first | refine BA rfl (fun h17=>?_) (fun h17=>?_) | refine Az rfl (fun h17=>?_) (fun h17=>?_)
   ·refine AG (AI (AE Z Z (AF (Au ?_))));exact ⟨_,[40],_,Aq rfl,rfl,rfl,M,by rw [N9 (by omega) h17],rfl,by rw [N9 (by omega) h17];exact hrep⟩
   ·refine AG (AI (AC Z Z ?_))
    first | refine J (FJ Z Z) ?_ | refine J (FG Z Z) ?_ | refine J (FK Z Z) ?_ | refine J (FH Z Z) ?_
    first | refine J (A1 rfl A5 Z Z Z) ?_ | refine J (A3 rfl A5 Z Z Z) ?_ | refine J (A4 rfl A5 Z Z Z) ?_ | refine J (A2 rfl A5 Z Z Z) ?_ | refine J (A0 rfl A5 Z Z Z) ?_
    refine J (Ft (f:=40) Z Z (hr.cell) rfl Bk rfl) (J (EK (f:=40) (n:=w.R.length) Z Z hr.top (by simp [Ad,hl.len hw]) Bu rfl) (J (Ki Z Z Z) (AE Z Z (AF ?_))))
    first | refine BA rfl (fun h21=>?_) (fun h21=>?_) | refine Az rfl (fun h21=>?_) (fun h21=>?_)
    ·refine AG (AI (AE Z Z (AF (Au ?_))));exact ⟨_,[40],_,Aq rfl,rfl,rfl,M,by rw [N8 (by omega) h17 (by omega)],rfl,by rw [N8 (by omega) h17 (by omega)];exact hrep⟩
    ·refine Ai (AG (AG (AI (AC Z Z ?_))))
     first | refine J (FJ Z Z) ?_ | refine J (FG Z Z) ?_ | refine J (FK Z Z) ?_ | refine J (FH Z Z) ?_
     first | refine J (A1 rfl A5 Z Z Z) ?_ | refine J (A3 rfl A5 Z Z Z) ?_ | refine J (A4 rfl A5 Z Z Z) ?_ | refine J (A2 rfl A5 Z Z Z) ?_ | refine J (A0 rfl A5 Z Z Z) ?_
     refine J (Ft (f:=40) Z Z (hr.cell) rfl Bk rfl) ?_
     first | refine J (EZ Z Z Z) ?_ | refine J (Ea Z Z Z) ?_ | refine J (EF Z Z Z) ?_ | refine J (E0 Try.underlying66 Z Z Z) ?_ | refine J (E5 Try.underlying66 Z Z Z) ?_ | refine J (E4 Try.underlying66 Z Z) ?_ | refine J (E9 Try.underlying66 Z Z) ?_ | refine J (E8 Try.underlying66 Z Z) ?_ | refine J (E3 Try.underlying66 Z Z Z) ?_ | refine J (E7 Try.underlying66 Z Z) ?_
     refine AF (D4 rfl (rfl) (Ai (AG (AI (AC Z Z ?_)))))
     first | refine J (FJ Z Z) ?_ | refine J (FG Z Z) ?_ | refine J (FK Z Z) ?_ | refine J (FH Z Z) ?_
     first | refine J (A1 rfl A5 Z Z Z) ?_ | refine J (A3 rfl A5 Z Z Z) ?_ | refine J (A4 rfl A5 Z Z Z) ?_ | refine J (A2 rfl A5 Z Z Z) ?_ | refine J (A0 rfl A5 Z Z Z) ?_
     refine J (Ft (f:=40) Z Z (hr.cell) rfl Bk rfl) (AC Z Z (U (Eg 1 Z Z Z Z) ?_));refine HU 42 1 40 hF Z Z Z Z Z Z Z Z Z Z (fun _=>rfl) fun h hh=>(C1 40 h rfl (D3 _ _ _) rfl (U (FN (f:=40) (eE E) (x) (some h) Z Z ((by rw [Mn,Dr (fun e=>by rw [←e,hr.top] at hh;cases hh)];exact hr.top)) rfl Bu Ec Z Z) (AF (AG (AI (AE Z Z (AF (Au ?_))))))));exact ⟨_,[40],_,Aq rfl,rfl,rfl,_,by rw [N7 (by omega) h17 (by omega)],rfl,by rw [N7 (by omega) h17 (by omega)];exact add_rep hr hl h17 hw hh⟩
section
variable {P:Program} {F:Fr} {s:AS} {α β:Type} [DecidableEq α] {eK:α ->D} {eV:β ->D} {K:TypeId} {kv:α ->Value} {d:Nat} {ty T E:TypeId} {pos:String} {aft:Array Edge} {g:Option (Nat×Bool)} {x y z:Operand} {bs:Option (List Nat×Nat)}
theorem I4 (m:List (α×β)) (a:α) (b0 v:β) {x0:D} {f i:Nat} (hx:s.ev x=some (.map f i)) (ho:hget s.hp f i=some (.map bs (Ad eK eV m))) (hy:s.ev y=some (.d (eK a))) (hT:BZ P T K E=true) (KT:BS P K eK kv) (hz:C9 P E=some (.d x0)) (hw:∀w O v,AQ w O x0 v ->AQ w O (eV b0) v) (hv:CS m a b0=v) (hd:Nat.blt d s.n=true):
  AA P F ⟨some d,.lookup T x y false,ty,pos,aft,g⟩ s d (.d (eV v)):=
 Bl _ hd fun ρ act w hs=>by
  obtain ⟨mb,arr,c,e1,_,h1,h2,h3,_⟩:=hs.mapAt hx ho;have hk:act.eval y=kv a:=(hs.repD hy).val (KT.val a);obtain ⟨zv,hz1,hz2⟩:=D9 hz w
  have hz3:∀w' O ρ,AT w' O ρ (.d (eV b0)) zv:=fun w' O ρ=>by
   have:=hz2 w' O ρ
   cases this with
   | d h=>exact .d (hw _ _ _ h)
  subst hv;rcases hit_get KT h2 h3 a b0 with ⟨g1,_,g3,_⟩ | ⟨j,e,g1,g2,_,_,_,_,g7⟩
  ·refine ⟨zv,?_,by rw [g3];exact hz3 _ _ _⟩
   simp [execOp,Instr.lookup,run_underlying (Nf hT),e1,hk,MapKept.run_getObj_map h1,KT.check,KT.find w a _ _ (PN KT h2 h3),g1,hz1,Result.andThen]
  ·refine ⟨e.val,?_,.d g7⟩
   simp [execOp,Instr.lookup,run_underlying (Nf hT),e1,hk,MapKept.run_getObj_map h1,KT.check,KT.find w a _ _ (PN KT h2 h3),g1,Result.andThen]
end
theorem SR.meltMap {F:Fr} {s:AS} {ρ:Nat ->Nat ->Value} {act:Act} {w:World} (hs:SR F s ρ act w) (g i f:Nat) {M:MF} {bs:Option (List Nat×Nat)} {es es':List (D×D)} {env':List (Nat×AV)} {hp1 hp2 hp':Hp} (hM:hfam s.hp f=some [.multi M])
  (hE:AO f s.env=some env') (hH:AN f s.hp=some hp1) (hh:B6 f hp1=some hp2) (ho:hget hp2 g i=some (.map bs es)) (hlen:es'.length=es.length)
  (hxy:∀(j:Nat) x y,es[j]?=some x ->es'[j]?=some y ->x.1=y.1∧Mm M x.2 y.2) (hset:Av hp2 g i (.map bs es')=some hp'):SR F ⟨s.n,env',hp'⟩ ρ act w:=by
 obtain ⟨h2,hO1,hO2⟩:=hs.forget f hE hH hh (fun j t cs e=>by
  rw [EB hM] at e
  cases hm:M j with
  | none=>rw [hm] at e;cases e
  | some m=>rw [hm] at e;injection e with e;exact A6.notBlk e)
 refine h2.write g i (.map bs es) (.map bs es') ho (Ah hset) Z Z Z Z (fun _ _=>rfl) (fun _ _ e=>by cases e) fun hrep=>?_;obtain ⟨mb,arr,c,k1,k2,k3,k4,k5⟩:=h2.heap.sim g i _ ho;refine ⟨mb,arr,c,k1,k2,by rw [hlen];exact k3,fun j e y he hy=>?_,k5⟩;have hjl:j<es.length:=by rw [←hlen];exact (List.getElem?_eq_some_iff.1 hy).1
 have hx:es[j]?=some es[j]:=List.getElem?_eq_getElem hjl;obtain ⟨e1,e2⟩:=hxy j _ _ hx hy;obtain ⟨g1,g2⟩:=k4 j e _ he hx;have h3:=AQ.melt hs hM hO1 hO2 e2 g2;have q1:=hrep (.d _) _ (.d g1);have q2:=hrep (.d _) _ (.d h3);exact ⟨by rw [←e1];cases q1 with | d h=>exact h,by cases q2 with | d h=>exact h⟩
section
variable {P:Program} {F:Fr} {Q:Exit ->AS ->Prop} {c:Code} {n:Nat} {env env':List (Nat×AV)} {hp hp1 hp2 hp':Hp}
theorem PG (g i f:Nat) {M:MF} {bs:Option (List Nat×Nat)} {es:List (D×D)} (es':List (D×D)) (hM:hfam hp f=some [.multi M])
  (hE:AO f env=some env') (hH:AN f hp=some hp1) (hh:B6 f hp1=some hp2) (ho:hget hp2 g i=some (.map bs es)) (hlen:es'.length=es.length)
  (hxy:∀(j:Nat) x y,es[j]?=some x ->es'[j]?=some y ->x.1=y.1∧Mm M x.2 y.2) (hset:Av hp2 g i (.map bs es')=some hp') (h:B8 P F c Q ⟨n,env',hp'⟩):B8 P F c Q ⟨n,env,hp⟩:=
 fun ρ act w hs=>h ρ act w (hs.meltMap g i f hM hE hH hh ho hlen hxy hset)
end
def Fp {α:Type} (f:St ->α) (k:St) (v:α):St ->α:=fun x=>if x=k then v else f x
theorem PO {α:Type} {f:St ->α} {k:St} {v:α}:Fp f k v k=v:=if_pos rfl
theorem Mk {α:Type} {f:St ->α} {k x:St} {v:α} (h:x≠k):Fp f k v x=f x:=if_neg h
abbrev hvD (q:Hd×List St):D:=hdr q.1 q.2.length
abbrev Dm (Ks:List St) (H:St ->Hd) (L:St ->List St):List (St×(Hd×List St)):=Ks.map fun k=>(k,(H k,L k))
def J9 (Ks:List St) (a:St):List St:=if a∈Ks then Ks else Ks++ [a]
structure JS (M:MF) (Ks:List St) (H:St ->Hd) (L:St ->List St):Prop where
 kd:Ks.Nodup
 off:∀k,k∉Ks ->H k=none∧L k=[]
 at_:∀k,Ju M (H k) 9 1 ((L k).map AZ)
 inj:∀j k b c c',H j=some (b,c) ->H k=some (b,c') ->j=k
theorem MG {M:MF} {Ks:List St} {H:St ->Hd} {L:St ->List St} (h:JS M Ks H L) (a:St):CS (Dm Ks H L) a (none,[])=(H a,L a):=by
 have key:∀Ks:List St,CS (Dm Ks H L) a (none,[])=if a∈Ks then (H a,L a) else (none,[]):=by
  intro Ks
  induction Ks with
  | nil=>rfl
  | cons k r ih=>
   show (if a=k then (H k,L k) else CS (Dm r H L) a (none,[]))=_
   by_cases e:a=k
   ·subst e;simp
   ·rw [if_neg e,ih];simp [e]
 rw [key]
 split
 ·rfl
 ·rename_i hn;obtain ⟨e1,e2⟩:=h.off a hn;rw [e1,e2]
theorem ME {Ks:List St} {H:St ->Hd} {L:St ->List St} (hd:Ks.Nodup) (a:St) (h:Hd) (l:List St):Bh (Dm Ks H L) a (h,l)=Dm (J9 Ks a) (Fp H a h) (Fp L a l):=by
 induction Ks with
 | nil=>simp [J9,Bh,PO]
 | cons k r ih=>
  obtain ⟨h1,h2⟩:=List.nodup_cons.1 hd;show (if a=k then (k,(h,l))::Dm r H L else (k,(H k,L k))::Bh (Dm r H L) a (h,l))=_
  by_cases e:a=k
  ·subst e;rw [if_pos rfl];unfold J9;rw [if_pos (by simp)];simp only [List.map_cons,PO]
   congr 1
   refine List.map_congr_left fun x hx=>?_;have:x≠a:=fun e=>h1 (e▸hx);rw [Mk this,Mk this]
  ·rw [if_neg e,ih h2];have e':k≠a:=fun h=>e h.symm
   have hi:J9 (k::r) a=k::J9 r a:=by
    unfold J9
    by_cases hr:a∈r
    ·simp [hr]
    ·simp [hr,e]
   rw [hi];simp only [List.map_cons,Mk e']
theorem JS.zero:JS (fun _=>none) [] (fun _=>none) (fun _=> []):=⟨List.nodup_nil,fun _ _=>⟨rfl,rfl⟩,fun _=>rfl,fun _ _ _ _ _ h=>by cases h⟩
theorem JS.app {M:MF} {Ks:List St} {H:St ->Hd} {L:St ->List St} (h:JS M Ks H L) (j:St) {l:List St} {b c:Nat} (hb:DF M (H j) b=none) (hc:(l.map AZ).length≤c):
  JS (BD (DF M (H j)) b (.row 9 1 c (l.map AZ))) (J9 Ks j) (Fp H j (some (b,c))) (Fp L j l):=by
 have hne:∀k,k≠j ->∀b' c',H k=some (b',c') ->b'≠b∧BD (DF M (H j)) b (.row 9 1 c (l.map AZ)) b'=M b':=by
  intro k hkj b' c' e;have h1:=h.at_ k;rw [e] at h1;have h2:∀c'',H j≠some (b',c''):=fun c'' e2=>hkj (h.inj k j b' c' c'' e e2);refine ⟨fun e3=>?_,?_⟩
  ·subst e3;have:=En h1.2 h2;rw [hb] at this;cases this
  ·rw [Qa hb h1.2 h2,h1.2]
 refine ⟨?_,fun k hk=>?_,fun k=>?_,fun k k' b1 c1 c2 e1 e2=>?_⟩
 ·unfold J9;split
  ·exact h.kd
  ·rename_i hn
   rw [List.nodup_append];exact ⟨h.kd,by simp,fun x hx y hy e=>by simp at hy;subst hy;subst e;exact hn hx⟩
 ·have hk2:k∉Ks∧k≠j:=by
   unfold J9 at hk
   split at hk
   ·rename_i hj;exact ⟨hk,fun e=>hk (e▸hj)⟩
   ·simp at hk;exact hk
  rw [Mk hk2.2,Mk hk2.2];exact h.off k hk2.1
 ·by_cases e:k=j
  ·subst e;rw [PO,PO];exact ⟨hc,D3 _ _ _⟩
  ·rw [Mk e,Mk e];have h1:=h.at_ k
   match hh:H k,h1 with
   | none,h1=>exact h1
   | some (b',c'),h1=>exact ⟨h1.1,by rw [(hne k e b' c' hh).2];exact h1.2⟩
 ·by_cases ek:k=j<;>by_cases ek':k'=j
  ·rw [ek,ek']
  ·subst ek;rw [PO] at e1;rw [Mk ek'] at e2;injection e1 with e1;injection e1 with e1 _;subst e1
   exact ((hne k' ek' _ _ e2).1 rfl).elim
  ·subst ek';rw [PO] at e2;rw [Mk ek] at e1;injection e2 with e2;injection e2 with e2 _;subst e2
   exact ((hne k ek _ _ e1).1 rfl).elim
  ·rw [Mk ek] at e1;rw [Mk ek'] at e2;exact h.inj k k' b1 c1 c2 e1 e2
theorem JS.melt {M:MF} {Ks:List St} {H:St ->Hd} {L:St ->List St} (h:JS M Ks H L):∀(j:Nat) x y,(Ad AZ hvD (Dm Ks H L))[j]?=some x ->(Ad AZ stsD (Ks.map fun k=>(k,L k)))[j]?=some y ->x.1=y.1∧Mm M x.2 y.2:=by
 intro j x y hx hy;simp only [Ad,List.map_map,List.getElem?_map] at hx hy
 cases hk:Ks[j]? with
 | none=>rw [hk] at hx;cases hx
 | some k=>
  rw [hk] at hx hy;injection hx with hx;injection hy with hy
  subst hx hy;exact ⟨rfl,.inr ⟨H k,9,(L k).map AZ,by simp [hvD],h.at_ k,fun z hz=>by obtain ⟨a,_,rfl⟩:=List.mem_map.1 hz;rfl,rfl⟩⟩
def Cl (lk:Nat ->List Lk) (p:St×Option Nat):List Lw:=match p.2 with
 | some h=>(lk h).map fun x=>⟨p.1,x.t,x.r⟩
 | none=> []
theorem LW.perm {E:List (St×Nat)} {lk:Nat ->List Lk} {w:Ws} (h:LW E lk w) (hw:BV w):((eE E).flatMap (Cl lk)).Perm w.K:=by
 refine (List.perm_ext_iff_of_nodup ?_ hw.nd).2 fun l=>?_
 ·rw [List.nodup_iff_pairwise_ne,List.pairwise_flatMap]
  constructor
  ·intro p hp;obtain ⟨q,hq,rfl⟩:=List.mem_map.1 hp;show List.Pairwise _ ((lk q.2).map _);rw [List.pairwise_map];exact (h.ld q hq).imp fun {a b} hne e=>hne (Lk.eq_iff.2 (by injection e with _ e1 e2;exact ⟨e1,e2⟩))
  ·rw [List.pairwise_map];refine (List.pairwise_map.1 h.kd).imp fun {p q} hne x hx y hy e=>?_;obtain ⟨x1,_,rfl⟩:=List.mem_map.1 hx;obtain ⟨y1,_,rfl⟩:=List.mem_map.1 hy;injection e with e1
   exact hne e1
 ·rw [List.mem_flatMap]
  constructor
  ·rintro ⟨p,hp,hl⟩;obtain ⟨q,hq,rfl⟩:=List.mem_map.1 hp;obtain ⟨x,hx,rfl⟩:=List.mem_map.1 hl;exact (h.ls q hq x).1 hx
  ·intro hl;obtain ⟨n,hn⟩:=h.at (hw.lk l hl).1;exact ⟨(l.f,some n),List.mem_map.2 ⟨(l.f,n),hn,rfl⟩,List.mem_map.2 ⟨⟨l.t,l.r⟩,(h.ls _ hn _).2 hl,rfl⟩⟩
theorem FV {E:List (St×Nat)} {k:St} {v:Option Nat} {j:Nat} (h:(eE E)[j]?=some (k,v)):∃n,(k,n)∈E∧v=some n:=by
 obtain ⟨p,hp,e⟩:=List.mem_map.1 (List.mem_of_getElem? h);injection e with e1 e2
 exact ⟨p.2,by rw [←e1];exact hp,e2.symm⟩
theorem MP {l:List Lk} {k:Lk} {v:Bool} {j:Nat} (h:(Ck l)[j]?=some (k,v)):k∈l:=by
 obtain ⟨p,hp,e⟩:=List.mem_map.1 (List.mem_of_getElem? h);injection e with e1 e2
 rw [←e1];exact hp
structure NB (acc:List Lw) (L:St ->List St):Prop where
 mem:∀k y,y∈L k↔∃l∈acc,l.t=0∧((l.f=k∧l.r=y)∨(l.r=k∧l.f=y))
 len:∀k,(L k).length≤2*acc.length
theorem NB.zero:NB [] (fun _=> []):=⟨fun k y=>by simp,fun _=>Nat.le_refl _⟩
theorem NB.skip {acc:List Lw} {L:St ->List St} (h:NB acc L) {l:Lw} (hl:l.t≠0):NB (acc++ [l]) L:=by
 refine ⟨fun k y=>?_,fun k=>?_⟩
 ·rw [h.mem]
  constructor
  ·rintro ⟨x,hx,r⟩;exact ⟨x,List.mem_append_left _ hx,r⟩
  ·rintro ⟨x,hx,h0,r⟩;rcases List.mem_append.1 hx with hx | hx
   ·exact ⟨x,hx,h0,r⟩
   ·simp at hx;subst hx;exact absurd h0 hl
 ·have:=h.len k;simp;omega
theorem NB.hit {acc:List Lw} {L:St ->List St} (h:NB acc L) {l:Lw} (hl:l.t=0):NB (acc++ [l]) (Fp (Fp L l.f (L l.f++ [l.r])) l.r (Fp L l.f (L l.f++ [l.r]) l.r++ [l.f])):=by
 have hm:∀k y,y∈Fp (Fp L l.f (L l.f++ [l.r])) l.r (Fp L l.f (L l.f++ [l.r]) l.r++ [l.f]) k↔y∈L k∨(k=l.f∧y=l.r)∨(k=l.r∧y=l.f):=by
  intro k y
  by_cases e1:k=l.r
  ·rw [e1,PO,List.mem_append]
   by_cases e2:l.r=l.f
   ·rw [e2,PO];simp
   ·rw [Mk e2];simp [e2]
  ·rw [Mk e1]
   by_cases e2:k=l.f
   ·rw [e2,PO,List.mem_append];have e3:¬l.f=l.r:=by rw [←e2];exact e1
    simp [e3]
   ·rw [Mk e2];simp [e1,e2]
 refine ⟨fun k y=>?_,fun k=>?_⟩
 ·rw [hm,h.mem]
  constructor
  ·rintro (⟨x,hx,r⟩ | ⟨e1,e2⟩ | ⟨e1,e2⟩)
   ·exact ⟨x,List.mem_append_left _ hx,r⟩
   ·exact ⟨l,List.mem_append_right _ (by simp),hl,.inl ⟨e1.symm,e2.symm⟩⟩
   ·exact ⟨l,List.mem_append_right _ (by simp),hl,.inr ⟨e1.symm,e2.symm⟩⟩
  ·rintro ⟨x,hx,h0,r⟩;rcases List.mem_append.1 hx with hx | hx
   ·exact .inl ⟨x,hx,h0,r⟩
   ·simp at hx;subst hx
    rcases r with ⟨e1,e2⟩ | ⟨e1,e2⟩
    ·exact .inr (.inl ⟨e1.symm,e2.symm⟩)
    ·exact .inr (.inr ⟨e1.symm,e2.symm⟩)
 ·have h1:=h.len k;have h2:=h.len l.r;have h3:=h.len l.f;rw [List.length_append]
  by_cases e1:k=l.r
  ·rw [e1,PO]
   by_cases e2:l.r=l.f
   ·rw [e2,PO];simp;omega
   ·rw [Mk e2];simp;omega
  ·rw [Mk e1]
   by_cases e2:k=l.f
   ·rw [e2,PO];simp;omega
   ·rw [Mk e2];simp;omega
theorem DT {α:Type} {acc rest:List α} {x y:List α} {all:List α} (h:(acc++x).Perm all) (hx:x.Perm (y++rest)):((acc++y)++rest).Perm all:=by
 rw [List.append_assoc];exact (List.Perm.append_left acc hx).symm.trans h
theorem Nl {α β:Type} {f:α ->List β} {acc rest:List β} {x y:List α} {k:α} {all:List β} (h:(acc++x.flatMap f).Perm all) (hx:x.Perm (k::y)) (he:f k=rest):(acc++(rest++y.flatMap f)).Perm all:=by
 refine (List.Perm.append_left acc ?_).trans h;have:=(List.Perm.flatMap_right f hx).symm;rw [List.flatMap_cons,he] at this;exact this
theorem Gg {α β:Type} {f:α ->β} {acc R:List β} {x y:List α} {k:α} {all:List β} (h:(acc++(x.map f++R)).Perm all) (hx:x.Perm (k::y)):((acc++ [f k])++(y.map f++R)).Perm all:=by
 refine DT h ?_;have:=(hx.map f).append_right R
 simpa using this
theorem Hi (lk:Nat ->List Lk) (k:St) (h:Nat):Cl lk (k,some h)=(Ck (lk h)).map fun x=>(⟨k,x.1.t,x.1.r⟩:Lw):=by
 show (lk h).map _=_;rw [List.map_map];rfl
theorem NB.wth {acc:List Lw} {L:St ->List St} {w:Ws} (h:NB acc L) (hp:acc.Perm w.K) (x y:St):y∈L x↔Jd w x y:=by
 rw [h.mem];unfold Jd
 constructor
 ·rintro ⟨l,hl,h0,⟨e1,e2⟩ | ⟨e1,e2⟩⟩
  ·left;rw [←e1,←e2,←h0];exact hp.mem_iff.1 hl
  ·right;rw [←e1,←e2,←h0];exact hp.mem_iff.1 hl
 ·rintro (h1 | h1)
  ·exact ⟨_,hp.mem_iff.2 h1,rfl,.inl ⟨rfl,rfl⟩⟩
  ·exact ⟨_,hp.mem_iff.2 h1,rfl,.inr ⟨rfl,rfl⟩⟩
theorem QV:∀w O v,AQ w O (.sl (some true) []) v ->AQ w O (hvD (none,[])) v:=fun _ _ _ h=>h.nrm1
set_option maxHeartbeats 1000000 in
theorem neigh_c {M:MF} {b:Nat} {w:Ws} (h:BR M b w) (hw:BV w) (hK:w.K.length≤1000000):AR Try.prog 61 [.d (pD b 0)] [(40,[.multi M])] fun r H'=>∃(Ks:List St) (L:St ->List St) (bs:Option (List Nat×Nat)),r= .map 1 0∧H'=[(40,[.multi M]),(1,[.map bs (Ad AZ stsD (Ks.map fun k=>(k,L k)))])]∧(∀k,k∉Ks ->L k=[])∧(∀x y,y∈L x↔Jd w x y)∧∀k,(L k).length≤2000000:=by
 obtain ⟨m,E,lk,hr,hl⟩:=h;have hperm:=hl.perm hw;have hbm:b≠m:=fun e=>by subst e;have:=hr.cell;rw [hr.top] at this;cases this
 have hpm:∀p∈E,p.2≠m:=fun p hp e=>hr.ne (by rw [←e];exact List.mem_map_of_mem hp);refine DA Try.func61 Z Z Try.ntmps61 Z Z Z fun F hF=>(AG (AI (AE Z Z (AF ?_))));refine AG (AI (U (Eg 1 Z Z Z Z) (AE Z Z (AF (AG (AG (Fn 50 Z Z Z (Zcx 40 m rfl hr.top (fun _ _=>rfl) fun B c hB hBn=>?_))))))))
 obtain ⟨M1,hM1⟩:∃M1,BD M m (.map (some (B,c)) (CR E))=M1:=⟨_,rfl⟩
 rw [hM1];have h1b:M1 b=some (.cells 68 [mD m]):=by rw [←hM1,Dr hbm];exact hr.cell
 have h1m:M1 m=some (.map (some (B,c)) (CR E)):=by rw [←hM1,D3]
 have h1s:∀p∈E,M1 p.2=some (.map none (CI (lk p.2))):=fun p hp=>by rw [←hM1,Dr (hpm p hp)];exact hr.sub p hp
 refine AI (AC Z Z ?_)
 first | refine J (FJ Z Z) ?_ | refine J (FG Z Z) ?_ | refine J (FK Z Z) ?_ | refine J (FH Z Z) ?_
 first | refine J (A1 rfl A5 Z Z Z) ?_ | refine J (A3 rfl A5 Z Z Z) ?_ | refine J (A4 rfl A5 Z Z Z) ?_ | refine J (A2 rfl A5 Z Z Z) ?_ | refine J (A0 rfl A5 Z Z Z) ?_
 refine J (Ft (f:=40) Z Z (h1b) rfl Bk rfl) (U (Zct 2 (f:=40) Z Z (h1m) rfl Bu Z Z Z Z) (AF (B7 (FC (α:=List Nat×List Lw×List St×(St ->Hd)×(St ->List St)×MF) (fun q=>⟨47,[(0,.d (pD b 0)),(3,(.map 1 0)),(12,(.ptr 2 0 0))],[(1,[Oo AZ hvD (Dm q.2.2.1 q.2.2.2.1 q.2.2.2.2.1)]),(2,[.iter 40 m c q.1]),(40,[.multi M1]),(50,[.multi q.2.2.2.2.2])]⟩) (fun q=>(q.2.1++(Ba (eE E) B q.1).flatMap (Cl lk)).Perm ((eE E).flatMap (Cl lk))∧JS q.2.2.2.2.2 q.2.2.1 q.2.2.2.1 q.2.2.2.2.1∧NB q.2.1 q.2.2.2.2.1) (fun q=>(Ba (eE E) B q.1).length) (([],[],[],(fun _=>none),(fun _=> []),fun _=>none)) (⟨by show ([]++(Ba (eE E) B []).flatMap _).Perm _;rw [Zcw (by simpa [Ad] using hB)];exact List.Perm.refl _,JS.zero,NB.zero⟩) (BC hF [1,2,40,50] Z Z ⟨rfl,rfl,rfl,trivial⟩) ?_))));rintro ⟨seen,acc,Ks,H,L,M5⟩ ⟨hP,hN,hA⟩;dsimp only at hP hN hA⊢;refine AG (AI (DG (eE E) Z Z Z (h1m) rfl (fun hl13=>?_) (fun j13 b13 k13 v13 hm13 hb13 hB13 hp13=>⟨_,rfl,?_⟩)))
 ·rw [hl13] at hP;refine C1 40 m rfl h1m rfl ?_;rw [show BD M1 m (.map none (CR E))=M by rw [←hM1,Mn];exact CE hr.top]
  first | refine J (B4 Z Z Z) ?_ | refine J (B5 Z Z Z) ?_
  refine AF (AG (D4 Z Z (Dq (AG ?_))));have hPK:acc.Perm w.K:=(show acc.Perm _ by simpa using hP).trans hperm;refine PG 1 0 50 (Ad AZ stsD (Ks.map fun k=>(k,L k))) Z Z Z Z Z (by simp [Ad]) hN.melt rfl (AI (AC Z Z (AE Z Z (AF (Au ?_)))));exact ⟨_,[40,1],_,Aq rfl,rfl,rfl,Ks,L,_,rfl,rfl,fun k hk=>(hN.off k hk).2,hA.wth hPK,fun k=>Nat.le_trans (hA.len k) (by rw [hPK.length_eq];omega)⟩
 ·first | refine J (B4 Z Z Z) ?_ | refine J (B5 Z Z Z) ?_
  refine AF (AG (IE Z Z (Ai (B7 (AG (AI (J (Zcv (eE E) j13 b13 Z Z Z (h1m) hm13 hb13 rfl) ?_)))))))
  first | refine J (B4 Z Z Z) ?_ | refine J (B5 Z Z Z) ?_
  first | refine J (B4 Z Z Z) ?_ | refine J (B5 Z Z Z) ?_
  refine AE Z Z (AE Z Z (AF (AG ?_)));obtain ⟨hd,hpe,hve⟩:=FV hm13;subst hve;refine Zcx 40 hd rfl (h1s _ hpe) (fun _ _=>rfl) fun B2 c2 hB2 hBn2=>?_
  obtain ⟨M2,hM2⟩:∃M2,BD M1 hd (.map (some (B2,c2)) (CI (lk hd)))=M2:=⟨_,rfl⟩
  rw [hM2];have h2h:M2 hd=some (.map (some (B2,c2)) (CI (lk hd))):=by rw [←hM2,D3]
  refine AI (AC Z Z (U (Zct 3 (f:=40) Z Z (h2h) rfl FT Z Z Z Z) (AF (B7 (FC (α:=List Nat×List Lw×List St×(St ->Hd)×(St ->List St)×MF) (fun q=>⟨47,[(0,.d (pD b 0)),(3,(.map 1 0)),(4,(.d (AZ k13))),(12,(.ptr 2 0 0)),(19,(.ptr 3 0 0))],[(1,[Oo AZ hvD (Dm q.2.2.1 q.2.2.2.1 q.2.2.2.2.1)]),(2,[.iter 40 m c (seen++ [b13])]),(3,[.iter 40 hd c2 q.1]),(40,[.multi M2]),(50,[.multi q.2.2.2.2.2])]⟩) (fun q=>(q.2.1++((Ba (Ck (lk hd)) B2 q.1).map (fun x=>(⟨k13,x.1.t,x.1.r⟩:Lw))++(Ba (eE E) B (seen++ [b13])).flatMap (Cl lk))).Perm ((eE E).flatMap (Cl lk))∧JS q.2.2.2.2.2 q.2.2.1 q.2.2.2.1 q.2.2.2.2.1∧NB q.2.1 q.2.2.2.2.1) (fun q=>(Ba (Ck (lk hd)) B2 q.1).length) (([],acc,Ks,H,L,M5)) (⟨by show (acc++((Ba (Ck (lk hd)) B2 []).map _++_)).Perm _;rw [Zcw (by simpa [Ad] using hB2)];exact Nl hP hp13 (Hi lk k13 hd),hN,hA⟩) (BC hF [1,2,3,40,50] Z Z ⟨rfl,rfl,rfl,rfl,rfl,trivial⟩) ?_)))));rintro ⟨seen2,acc2,Ks2,H2,L2,M52⟩ ⟨hP2,hN2,hA2⟩;dsimp only at hP2 hN2 hA2⊢;refine AG (AI (DG (Ck (lk hd)) Z Z Z (h2h) rfl (fun hl20=>?_) (fun j20 b20 k20 v20 hm20 hb20 hB20 hp20=>⟨_,rfl,?_⟩)))
  ·rw [hl20] at hP2;refine C1 40 hd rfl h2h rfl ?_;rw [show BD M2 hd (.map none (CI (lk hd)))=M1 by rw [←hM2,Mn];exact CE (h1s _ hpe)]
   first | refine J (B4 Z Z Z) ?_ | refine J (B5 Z Z Z) ?_
   refine AF (AG (D4 Z Z (Dq ?_)));exact ⟨(seen++ [b13],acc2,Ks2,H2,L2,M52),⟨by simpa using hP2,hN2,hA2⟩,by show (Ba (eE E) B (seen++ [b13])).length<(Ba (eE E) B seen).length;rw [hp13.length_eq];exact Nat.lt_succ_self _,BC hF [1,2,40,50] rfl (rfl) ⟨rfl,rfl,rfl,trivial⟩⟩
  ·first | refine J (B4 Z Z Z) ?_ | refine J (B5 Z Z Z) ?_
   refine AF (AG (IE Z Z (Ai (B7 (AG (AI (J (Zcv (Ck (lk hd)) j20 b20 Z Z Z (h2h) hm20 hb20 rfl) ?_)))))))
   first | refine J (B4 Z Z Z) ?_ | refine J (B5 Z Z Z) ?_
   refine U (HG 4 LV Z Z Z Z) (U (Bm Z Z Z Z Z Z Z sz39) (AF (AG (AI ?_))))
   first | refine J (A1 rfl IF Z Z Z) ?_ | refine J (A3 rfl IF Z Z Z) ?_ | refine J (A4 rfl IF Z Z Z) ?_ | refine J (A2 rfl IF Z Z Z) ?_ | refine J (A0 rfl IF Z Z Z) ?_
   first | refine J (AX Z Z Bf rfl) ?_ | refine J (AU Z Z Z Bf rfl) ?_ | refine J (AW Z Z (rfl) rfl Bf rfl) ?_
   first | refine J (EZ Z Z Z) ?_ | refine J (Ea Z Z Z) ?_ | refine J (EF Z Z Z) ?_ | refine J (E0 Try.underlying3 Z Z Z) ?_ | refine J (E5 Try.underlying3 Z Z Z) ?_ | refine J (E4 Try.underlying3 Z Z) ?_ | refine J (E9 Try.underlying3 Z Z) ?_ | refine J (E8 Try.underlying3 Z Z) ?_ | refine J (E3 Try.underlying3 Z Z Z) ?_ | refine J (E7 Try.underlying3 Z Z) ?_
   refine AF ?_
   first | refine BA rfl (fun h26=>?_) (fun h26=>?_) | refine Az rfl (fun h26=>?_) (fun h26=>?_)
   ·refine AG ?_;have hb2:=hA2.len k13;have hal:acc2.length≤1000000:=by have h1:=hP2.length_eq;rw [hperm.length_eq,List.length_append] at h1;omega
    refine AI (AC Z Z (AC Z Z (AC Z Z (AC Z Z (J (I4 (Dm Ks2 H2 L2) k13 (none,[]) (H2 k13,L2 k13) Z Z Z MH Ec za32 QV (MG hN2 k13) rfl) ?_)))))
    first | refine J (A1 rfl CC Z Z Z) ?_ | refine J (A3 rfl CC Z Z Z) ?_ | refine J (A4 rfl CC Z Z Z) ?_ | refine J (A2 rfl CC Z Z Z) ?_ | refine J (A0 rfl CC Z Z Z) ?_
    first | refine J (AX Z Z AY rfl) ?_ | refine J (AU Z Z Z AY rfl) ?_ | refine J (AW Z Z (rfl) rfl AY rfl) ?_
    refine U (HC 5 Bg Z Z Z Z Z Z Z Z) (U (IJ 31 60 50 (hN2.at_ k13) Z Z (by rw [List.length_map]) Z Z Z Z Z (J1 (emb:=AZ) (L2 k13) [k20.r] Z Z Z Z Z Z Z Z Bg (by show ((L2 k13).length+1)*16≤_;omega) Z Z Z Z)) (Ff 35 60 50 hF Z Z Z (by rw [List.length_map]) (by simp) Z Z Z Z Z Z Z (fun _ _=>rfl) fun b1 c1 hb1 hc1=>(U (Kf (Dm Ks2 H2 L2) k13 (some (b1,c1),L2 k13++ [k20.r]) Z Z Z MH Ec Z Z) (AF ?_))));rw [ME hN2.kd];have hN3:=hN2.app k13 hb1 hc1
    obtain ⟨K3,hK3⟩:∃K3,J9 Ks2 k13=K3:=⟨_,rfl⟩
    obtain ⟨H3,hH3⟩:∃H3,Fp H2 k13 (some (b1,c1))=H3:=⟨_,rfl⟩
    obtain ⟨L3,hL3⟩:∃L3,Fp L2 k13 (L2 k13++ [k20.r])=L3:=⟨_,rfl⟩
    obtain ⟨M3,hM3⟩:∃M3,BD (DF M52 (H2 k13)) b1 (.row 9 1 c1 ((L2 k13++ [k20.r]).map AZ))=M3:=⟨_,rfl⟩
    rw [hK3,hH3,hL3,hM3] at hN3⊢;have hb3:(L3 k20.r).length≤3000000:=by rw [←hL3];unfold Fp;have:=hA2.len k20.r;split<;>simp<;>omega
    refine Ee [[],[],[1],[],[],[4],[3,4,5],[],[7],[3,4,5,6,7,8],[0,1,2,3,4,5,6,7,8,9]] mixed rfl (DL ?_)
    first | refine AD [3] [] Z Z (fun _=>AB (A9 Z Z)) ?_ | refine AH [3] Z Z (fun _=>AB (A9 Z Z)) ?_
    first | refine AD [6] [] Z Z (fun _=>AB (A1 rfl CC Z Z Z)) ?_ | refine AH [6] Z Z (fun _=>AB (A1 rfl CC Z Z Z)) ?_ | refine AD [6] [] Z Z (fun _=>AB (A3 rfl CC Z Z Z)) ?_ | refine AH [6] Z Z (fun _=>AB (A3 rfl CC Z Z Z)) ?_ | refine AD [6] [] Z Z (fun _=>AB (A4 rfl CC Z Z Z)) ?_ | refine AH [6] Z Z (fun _=>AB (A4 rfl CC Z Z Z)) ?_ | refine AD [6] [] Z Z (fun _=>AB (A2 rfl CC Z Z Z)) ?_ | refine AH [6] Z Z (fun _=>AB (A2 rfl CC Z Z Z)) ?_ | refine AD [6] [] Z Z (fun _=>AB (A0 rfl CC Z Z Z)) ?_ | refine AH [6] Z Z (fun _=>AB (A0 rfl CC Z Z Z)) ?_
    first | refine AD [37] [4] Z Z (fun _=>AB (AX Z Z AY rfl)) ?_ | refine AD [37] [4] Z Z (fun _=>AB (AU Z Z Z AY rfl)) ?_ | refine AD [37] [4] Z Z (fun _=>AB (AW Z Z (rfl) rfl AY rfl)) ?_
    first | refine AD [3] [] Z Z (fun _=>AB (A9 Z Z)) ?_ | refine AH [3] Z Z (fun _=>AB (A9 Z Z)) ?_
    first | refine AD [6] [] Z Z (fun _=>AB (A1 rfl CC Z Z Z)) ?_ | refine AH [6] Z Z (fun _=>AB (A1 rfl CC Z Z Z)) ?_ | refine AD [6] [] Z Z (fun _=>AB (A3 rfl CC Z Z Z)) ?_ | refine AH [6] Z Z (fun _=>AB (A3 rfl CC Z Z Z)) ?_ | refine AD [6] [] Z Z (fun _=>AB (A4 rfl CC Z Z Z)) ?_ | refine AH [6] Z Z (fun _=>AB (A4 rfl CC Z Z Z)) ?_ | refine AD [6] [] Z Z (fun _=>AB (A2 rfl CC Z Z Z)) ?_ | refine AH [6] Z Z (fun _=>AB (A2 rfl CC Z Z Z)) ?_ | refine AD [6] [] Z Z (fun _=>AB (A0 rfl CC Z Z Z)) ?_ | refine AH [6] Z Z (fun _=>AB (A0 rfl CC Z Z Z)) ?_
    first | refine AD [40] [4] Z Z (fun _=>AB (AX Z Z AY rfl)) ?_ | refine AD [40] [4] Z Z (fun _=>AB (AU Z Z Z AY rfl)) ?_ | refine AD [40] [4] Z Z (fun _=>AB (AW Z Z (rfl) rfl AY rfl)) ?_
    refine AD [39,41] [1] Z Z (fun _=>AB (I4 (Dm K3 H3 L3) k20.r (none,[]) (H3 k20.r,L3 k20.r) Z Z Z MH Ec za32 QV (MG hN3 k20.r) rfl)) ?_
    first | refine AD [4] [] Z Z (fun _=>AB (A9 Z Z)) ?_ | refine AH [4] Z Z (fun _=>AB (A9 Z Z)) ?_
    refine Bp [43] [6] [(44,_)] Z Z (fun _=>IC (HC 6 Bg Z Z Z Z Z Z Z Z)) (.inr ⟨44,_,rfl,rfl,rfl,rfl,rfl⟩) Z Z Z Z Z (Bp [42,44] [50,6,61] [(45,_)] Z Z (fun _=>IC (IJ 42 61 50 (hN3.at_ k20.r) Z Z (by rw [List.length_map]) Z Z Z Z Z (J1 (emb:=AZ) (L3 k20.r) [k13] Z Z Z Z Z Z Z Z Bg (by show ((L3 k20.r).length+1)*16≤_;omega) Z Z Z Z))) (.inr ⟨45,_,rfl,rfl,rfl,rfl,rfl⟩) Z Z Z Z Z (DM 10 Z Z Z (BI 11 Z Z (Ff 45 61 50 hF Z Z Z (by rw [List.length_map]) (by simp) Z Z Z Z Z Z Z (fun _ _=>rfl) fun b2 c2 hb2 hc2=>(U (Kf (Dm K3 H3 L3) k20.r (some (b2,c2),L3 k20.r++ [k13]) Z Z Z MH Ec Z Z) ?_)))));rw [ME hN3.kd];have hN4:=hN3.app k20.r hb2 hc2;have hA4:NB (acc2++ [(⟨k13,k20.t,k20.r⟩:Lw)]) (Fp L3 k20.r (L3 k20.r++ [k13])):=by rw [←hL3];exact hA2.hit h26
    refine AF ⟨rfl,?_⟩;refine ED ?_;exact ⟨(seen2++ [b20],acc2++ [⟨k13,k20.t,k20.r⟩],_,_,_,_),⟨Gg hP2 hp20,hN4,hA4⟩,by show (Ba (Ck (lk hd)) B2 (seen2++ [b20])).length<(Ba (Ck (lk hd)) B2 seen2).length;rw [hp20.length_eq];exact Nat.lt_succ_self _,BC hF [1,2,3,40,50] rfl (rfl) ⟨rfl,rfl,rfl,rfl,rfl,trivial⟩⟩
   ·refine Ai ?_;exact ⟨(seen2++ [b20],acc2++ [⟨k13,k20.t,k20.r⟩],Ks2,H2,L2,M52),⟨Gg hP2 hp20,hN2,hA2.skip (l:=⟨k13,k20.t,k20.r⟩) h26⟩,by show (Ba (Ck (lk hd)) B2 (seen2++ [b20])).length<(Ba (Ck (lk hd)) B2 seen2).length;rw [hp20.length_eq];exact Nat.lt_succ_self _,BC hF [1,2,3,40,50] rfl (rfl) ⟨rfl,rfl,rfl,rfl,rfl,trivial⟩⟩
abbrev KF:FuncId:=78
abbrev hVs (q:List St):Hp:=[(920,[.rowD 9 1 (q.map AZ)]),(1,[.blk 32 [.own 920 0 q.length]])]
abbrev lpS (l:Nat) (A B:Code) (m:Nat):Eb:=⟨l,13,[(2,.ptr 1 0 0),(6,.fn KF [.d (.ptr (mD m))])],.ready,none, #[7],A,B⟩
theorem keys1_c {M:MF} {m:Nat} {E:List (St×Nat)} (hm:M m=some (.map none (CR E))) (l:Nat) (A B:Code)
  (hY:∀(q:List St) x,q.length<E.length ->GY Try.prog l [.d (AZ x)] ((900,[.loop (lpS l A B m)])::hVs q) fun v H'=>v= .d (.raw (.bool true))∧H'=(900,[.loop (lpS l A B m)])::hVs (q++ [x])):
  AR Try.prog KF [.d (.raw (DB l)),.d (.ptr (mD m))] ((900,[.loop (lpS l A B m)])::(hVs []++ [(40,[.multi M])])) fun r H'=>r= .tup []∧∃its:List St,its.Perm (E.map Prod.fst)∧H'=(900,[.loop (lpS l A B m)])::(hVs its++ [(40,[.multi M])]):=by
 refine DA Try.func78 Z Z Try.ntmps78 Z Z Z fun F hF=>(AG (Zcx 40 m rfl hm (fun _ _=>rfl) fun Bb c hB hBn=>?_))
 obtain ⟨M1,hM1⟩:∃M1,BD M m (.map (some (Bb,c)) (CR E))=M1:=⟨_,rfl⟩
 have h1m:M1 m=some (.map (some (Bb,c)) (CR E)):=by rw [←hM1,D3]
 rw [hM1];refine AI ?_
 first | refine J (AX Z Z Bk rfl) ?_ | refine J (AU Z Z Z Bk rfl) ?_ | refine J (AW Z Z (rfl) rfl Bk rfl) ?_
 refine U (Zct 2 (f:=40) Z Z (h1m) rfl Bu Z Z Z Z) (AF (B7 (FC (α:=List Nat×List St) (fun q=>⟨14,[(0,.d (.raw (DB l))),(5,(.ptr 2 0 0))],[(900,[.loop (lpS l A B m)]),(920,[.rowD 9 1 (q.2.map AZ)]),(1,[.blk 32 [.own 920 0 q.2.length]]),(2,[.iter 40 m c q.1]),(40,[.multi M1])]⟩) (fun q=>(q.2++(Ba (eE E) Bb q.1).map Prod.fst).Perm (E.map Prod.fst)) (fun q=>(Ba (eE E) Bb q.1).length) (([],[])) (by show ([]++(Ba (eE E) Bb []).map Prod.fst).Perm _;rw [Zcw (by simpa [Ad] using hB),GU];exact List.Perm.refl _) (BC hF [900,920,1,2,40] Z Z ⟨rfl,rfl,trivial⟩) ?_)));rintro ⟨seen,acc⟩ hP;dsimp only at hP⊢;refine AG (AI (DG (eE E) Z Z Z (h1m) rfl (fun hl6=>?_) (fun j6 b6 k6 v6 hm6 hb6 hB6 hp6=>⟨_,rfl,?_⟩)))
 ·rw [hl6] at hP;refine C1 40 m rfl h1m rfl ?_;rw [show BD M1 m (.map none (CR E))=M by rw [←hM1,Mn];exact CE hm]
  first | refine J (B4 Z Z Z) ?_ | refine J (B5 Z Z Z) ?_
  refine AF (AG (D4 Z Z (Dq ?_)));exact ⟨_,[900,920,1,40],_,Aq rfl,rfl,rfl,rfl,acc,by simpa using hP,rfl⟩
 ·first | refine J (B4 Z Z Z) ?_ | refine J (B5 Z Z Z) ?_
  refine AF (AG (IE Z Z (Ai (B7 (AG (AI (J (Zcv (eE E) j6 b6 Z Z Z (h1m) hm6 hb6 rfl) ?_)))))))
  first | refine J (B4 Z Z Z) ?_ | refine J (B5 Z Z Z) ?_
  refine AE Z Z (AF (AG ?_));have hlt:acc.length<E.length:=by have h1:=hP.length_eq;have h2:=hp6.length_eq;simp at h1 h2;omega
  refine AI (AC Z Z (AC Z Z ?_));refine QL Z Z (hY acc k6 hlt) [900,920,1] ⟨rfl,rfl,rfl,trivial⟩ Z Z Z Z (fun r H' ⟨e1,e2⟩=>by subst e1 e2;exact ⟨rfl,rfl,rfl⟩) rfl fun r H' ⟨e1,e2⟩=>?_;subst e1 e2
  first | refine J (EG Z Z) ?_ | refine J (EE Z Z) ?_
  refine AF (D4 rfl (rfl) (Ai ?_));exact ⟨(seen++ [b6],acc++ [k6]),DT hP (y:=[k6]) (by simpa using hp6.map Prod.fst),by show (Ba (eE E) Bb (seen++ [b6])).length<(Ba (eE E) Bb seen).length;rw [hp6.length_eq];exact Nat.lt_succ_self _,BC hF [900,920,1,2,40] rfl (rfl) ⟨rfl,rfl,trivial⟩⟩
theorem keys_c (m:Nat):AR Try.prog 64 [.d (mD m)] [] fun r H'=>r= .fn KF [.d (.ptr (mD m))]∧H'=[]:=by
 refine DA Try.func64 Z Z Try.ntmps64 Z Z Z fun F hF=>(AG (AI (U (IG 1 Z Z Z Z Z Z Z) ?_)));refine AE Z Z (AF (AG (AI (Oi 1 1 (mD m) [] hF Z Z Z (by intro c hc;simp [D.cells] at hc;subst hc;rfl) Z Z Z (J (FO Z Z) (AE Z Z (AF (Au ?_))))))));exact ⟨_,[],[],Aq rfl,rfl,rfl,rfl,rfl⟩
theorem RP {M:MF} {m:Nat} {E:List (St×Nat)} (hm:M m=some (.map none (CR E))) (hE:E.length≤1000000):AR Try.prog 93 [.d (.sl (some true) []),.fn KF [.d (.ptr (mD m))]] [(40,[.multi M])] fun r H'=>∃its:List St,its.Perm (E.map Prod.fst)∧r= .own 920 0 its.length∧H'=[(40,[.multi M]),(920,[.rowD 9 1 (its.map AZ)])]:=by
 refine Mj Try.func93 Z Z Try.ntmps93 Z Z Z fun F hF hFl=>(AG (AI (U (IG 1 Z Z Z Z Z Z Z) ?_)));refine AE Z Z (AF (AG (AG (D1 1 0 0 920 Bg Z Z Z Z Z Z Z (AI (AC Z Z (AF (B7 ?_))))))));refine a_keep [2,6] rfl ?_;refine a_range (γ:=List St) hFl 900 Z Z Z Z Z [1,920,40] (CHr:=hVs []++ [(40,[.multi M])]) (fun its=>its.Perm (E.map Prod.fst)) (fun its=>hVs its++ [(40,[.multi M])]) (fun _=> .ready) (fun _=>none) ⟨rfl,rfl,rfl,trivial⟩ Z Z Z (fun _=>rfl) (fun _=>rfl) rfl (fun _ _=>by simp) (fun _ _=>⟨rfl,rfl⟩) [920,1,40] hF Z Z (fun _ _=>rfl) (fun l A B hA hB=>?_) (fun its hits=>?_)
 ·refine (keys1_c hm l A B fun q x hq=>?_).mono (fun r H' ⟨e1,its,e2,e3⟩=>⟨e1,its,e2,by rw [e3]⟩);refine PP (lf:=900) Z Z Z Z fun F hF hr=>?_;show B8 _ _ A _ _;rw [hA];refine AI (AE Z Z (AF (⟨rfl,_,_,rfl,rfl,rfl,rfl,?_⟩)));show B8 _ _ B _ _;rw [hB];refine B7 (AI ?_)
  first | refine J (AX Z Z AL rfl) ?_ | refine J (AU Z Z Z AL rfl) ?_ | refine J (AW Z Z (rfl) rfl AL rfl) ?_
  refine AC Z Z (U (HC 30 Bg Z Z Z Z Z Z Z Z) ?_)
  first | refine U (J1 (q) ([x]) Z Z Z Z Z Z Z Z Bg (by simp only [List.length_singleton];omega) Z Z Z Z) ?_ | refine U (K9 (q) ([x]) Z Z Z Z Z Z (fun _=>rfl) Bg (by simp only [List.length_singleton];omega) Z Z Z Z) ?_
  refine U (Bm Z Z Z Z Z Z Z CG) (AF ?_);exact ⟨none,_,_,[900,920,1],_,rfl,rfl,rfl,rfl,rfl,rfl,rfl,rfl⟩
 ·refine AG (AI ?_)
  first | refine J (AX Z Z AL rfl) ?_ | refine J (AU Z Z Z AL rfl) ?_ | refine J (AW Z Z (rfl) rfl AL rfl) ?_
  refine AE Z Z (AF (Au ?_));exact ⟨_,[40,920],_,Aq rfl,rfl,rfl,its,hits,rfl,rfl⟩
theorem PC {M:MF} {m:Nat} {E:List (St×Nat)} (hm:M m=some (.map none (CR E))) (hE:E.length≤1000000):AR Try.prog 77 [.fn KF [.d (.ptr (mD m))]] [(40,[.multi M])] fun r H'=>∃its:List St,its.Perm (E.map Prod.fst)∧r= .own 920 0 its.length∧H'=[(40,[.multi M]),(920,[.rowD 9 1 (its.map AZ)])]:=by
 refine DA Try.func77 Z Z Try.ntmps77 Z Z Z fun F hF=>(AG (AI (AE Z Z (AF (AG (AI (AC Z Z ?_)))))));refine H7 (IZ (RP hm hE) rfl [40,920] ⟨rfl,rfl,trivial⟩ Z Z Z Z (fun r H' ⟨its,h1,h2,h3⟩=>by subst h2 h3;exact ⟨rfl,rfl,rfl⟩) rfl) rfl ?_;rintro _ ⟨r,H',⟨its,hits,e1,e2⟩,rfl⟩;subst e1 e2;refine AE Z Z (AF (Au ?_));exact ⟨_,[40,920],_,Aq rfl,rfl,rfl,its,hits,rfl,rfl⟩
theorem P3 {M:MF} {m:Nat} {E:List (St×Nat)} {R:List St} (hm:M m=some (.map none (CR E))) (hE:E.length≤1000000) (hn:(E.map Prod.fst).Nodup) (hR:HD R) (hRm:∀x,x∈E.map Prod.fst↔x∈R):AR Try.prog 63 [.fn KF [.d (.ptr (mD m))]] [(40,[.multi M])] fun r H'=>r= .d (stsD R)∧H'=[(40,[.multi M])]:=by
 refine DA Try.func63 Z Z Try.ntmps63 Z Z Z fun F hF=>(AG (AI (AE Z Z (AF (AG (AI (AC Z Z ?_)))))));refine H7 (IZ (PC hm hE) rfl [40,920] ⟨rfl,rfl,trivial⟩ Z Z Z Z (fun r H' ⟨its,h1,h2,h3⟩=>by subst h2 h3;exact ⟨rfl,rfl,rfl⟩) rfl) rfl ?_;rintro _ ⟨r,H',⟨its,hits,e1,e2⟩,rfl⟩;subst e1 e2;refine AE Z Z (AF (AG ?_));have hs:Co its=R:=HL (hits.nodup_iff.2 hn) hR fun x=>hits.mem_iff.trans (hRm x);have hil:its.length≤1000000:=by rw [hits.length_eq,List.length_map];exact hE
 refine AI (AC Z Z (U (L4 Q7 its (by omega) Z Z Z Z Z Z Z) (AF (AG ?_))));rw [hs];have hl:its.length=R.length:=by rw [←hs,DQ]
 refine Zcn (emb:=AZ) 3 920 R Z Z Z hl Z Z Z (AI (AC Z Z (AE Z Z (AF (Au ?_)))));exact ⟨_,[40],_,Aq rfl,rfl,rfl,rfl,rfl⟩
abbrev VF:FuncId:=62
abbrev vfA:AV:= .fn VF [.ptr 5 0 0,.ptr 7 0 0,.ptr 4 0 0,.ptr 9 0 0]
abbrev HV (nbs:Option (List Nat×Nat)) (NE:List (St×List St)) (O:List (St×Nat)) (n:Nat) (hs:Nat ->Hd) (ls:Nat ->List St) (M5:MF):Hp:=
 [(4,[.blk 106 [.map 1 0]]),(1,[.map nbs (Ad AZ stsD NE)]),(5,[.blk 80 [.map 6 0]]),(6,[Oo AZ natD O]),(7,[.blk 79 [.own 8 0 n]]),(8,[.rowD 32 1 (rowS n hs ls)]),(9,[.blk 108 [vfA]]),(50,[.multi M5])]
theorem Om {α β:Type} [DecidableEq α] {O:List (α×β)} {x:α} {v:β} (h:x∉O.map Prod.fst):Bh O x v=O++ [(x,v)]:=by
 induction O with
 | nil=>rfl
 | cons p r ih=>
  have h1:x≠p.1:=fun e=>h (by rw [e];simp);obtain ⟨k,b⟩:=p;show (if x=k then (k,v)::r else (k,b)::Bh r x v)=_;rw [if_neg h1,ih fun h'=>h (List.mem_cons_of_mem _ h')]
  rfl
structure VR (w:Ws) (V:List St) (x:St) (ad:List St):Prop where
 nd:ad.Nodup
 nw:∀y∈ad,y∉V∧y∈w.R∧HF w x y
 self:x∈V∨x∈ad
 cl:∀y∈ad,∀z,Jd w y z ->z∈V∨z∈ad
structure VP (w:Ws) (V:List St) (x:St) (ls:List St) (k:Nat) (ad:List St):Prop where
 nd:ad.Nodup
 nw:∀y∈ad,y∉V∧y∈w.R∧HF w x y
 self:x∈ad
 cl:∀y∈ad,y≠x ->∀z,Jd w y z ->z∈V∨z∈ad
 here:∀j,j<k ->∀z,ls[j]?=some z ->z∈V∨z∈ad
theorem VR.done {w:Ws} {V:List St} {x:St} (h:x∈V):VR w V x []:=⟨List.nodup_nil,(fun _ h=>by cases h),.inl h,(fun _ h=>by cases h)⟩
theorem VP.start {w:Ws} {V:List St} {x:St} {ls:List St} (h:x∉V) (hx:x∈w.R):VP w V x ls 0 [x]:=by
 refine ⟨by simp,fun y hy=>?_,by simp,fun y hy hne=>?_,fun j hj=>by omega⟩
 ·simp at hy;subst hy;exact ⟨h,hx,.refl⟩
 ·simp at hy;exact absurd hy hne
theorem VP.next {w:Ws} {V:List St} {x:St} {ls:List St} {k:Nat} {ad ad':List St} (h:VP w V x ls k ad) {y:St} (hk:ls[k]?=some y) (hxy:Jd w x y) (h':VR w (V++ad) y ad'):VP w V x ls (k+1) (ad++ad'):=by
 refine ⟨?_,fun z hz=>?_,List.mem_append_left _ h.self,fun z hz hne u hu=>?_,fun j hj z hz=>?_⟩
 ·rw [List.nodup_append];refine ⟨h.nd,h'.nd,fun a ha b hb e=>?_⟩;subst e;exact (h'.nw a hb).1 (List.mem_append_right _ ha)
 ·rcases List.mem_append.1 hz with hz | hz
  ·exact h.nw z hz
  ·obtain ⟨h1,h2,h3⟩:=h'.nw z hz;exact ⟨fun hv=>h1 (List.mem_append_left _ hv),h2,(BU.one hxy).trans h3⟩
 ·rcases List.mem_append.1 hz with hz | hz
  ·rcases h.cl z hz hne u hu with h1 | h1
   ·exact .inl h1
   ·exact .inr (List.mem_append_left _ h1)
  ·rcases h'.cl z hz u hu with h1 | h1
   ·rcases List.mem_append.1 h1 with h1 | h1
    ·exact .inl h1
    ·exact .inr (List.mem_append_left _ h1)
   ·exact .inr (List.mem_append_right _ h1)
 ·by_cases hjk:j<k
  ·rcases h.here j hjk z hz with h1 | h1
   ·exact .inl h1
   ·exact .inr (List.mem_append_left _ h1)
  ·have:j=k:=by omega
   subst this;rw [hk] at hz;injection hz with hz;subst hz
   rcases h'.self with h1 | h1
   ·rcases List.mem_append.1 h1 with h1 | h1
    ·exact .inl h1
    ·exact .inr (List.mem_append_left _ h1)
   ·exact .inr (List.mem_append_right _ h1)
theorem VP.fin {w:Ws} {V:List St} {x:St} {ls:List St} {ad:List St} (h:VP w V x ls ls.length ad) (hls:∀z,z∈ls↔Jd w x z):VR w V x ad:=by
 refine ⟨h.nd,h.nw,.inr h.self,fun y hy z hz=>?_⟩
 by_cases e:y=x
 ·subst e;obtain ⟨j,hj,rfl⟩:=List.getElem_of_mem ((hls z).2 hz);exact h.here j hj _ (List.getElem?_eq_getElem hj)
 ·exact h.cl y hy e z hz
abbrev addO (O:List (St×Nat)) (ad:List St) (g:Nat):List (St×Nat):=O++ad.map fun y=>(y,g)
theorem F5 (O:List (St×Nat)) (ad:List St) (g:Nat):(addO O ad g).map Prod.fst=O.map Prod.fst++ad:=by
 rw [List.map_append,List.map_map];congr 1;exact List.map_id _
theorem RT (O:List (St×Nat)) (a b:List St) (g:Nat):addO (addO O a g) b g=addO O (a++b) g:=by simp [addO]
theorem NW {V R:List St} (hn:V.Nodup) (hs:∀y∈V,y∈R):V.length≤R.length:=hn.length_le_of_subset hs
theorem Fa {α:Type} {f:Nat ->α} {i:Nat} {x y:α}:An (An f i x) i y=An f i y:=by
 funext j;unfold An;split<;>rfl
structure NbOk (w:Ws) (NE:List (St×List St)) (L:St ->List St):Prop where
 get:∀x,CS NE x []=L x
 wth:∀x y,y∈L x↔Jd w x y
 len:∀x,(L x).length≤2000000
theorem nil_st:∀w O v,AQ w O (.sl (some true) []) v ->AQ w O (stsD []) v:=fun _ _ _ h=>h.anyNil
set_option maxHeartbeats 1000000 in
theorem visit_c {w:Ws} (hw:BV w) {nbs:Option (List Nat×Nat)} {NE:List (St×List St)} {L:St ->List St} (hL:NbOk w NE L) (n:Nat) (hn0:0<n) (hn1:n≤5000):
  ∀(k:Nat) (O:List (St×Nat)) (hs:Nat ->Hd) (ls:Nat ->List St) (M5:MF) (x:St),w.R.length - O.length≤k ->x∈w.R ->(O.map Prod.fst).Nodup ->(∀y∈O.map Prod.fst,y∈w.R) ->LU M5 n hs ls ->(ls (n - 1)).length≤O.length→
  AR Try.prog VF [.d (AZ x),.ptr 5 0 0,.ptr 7 0 0,.ptr 4 0 0,.ptr 9 0 0] (HV nbs NE O n hs ls M5) fun r H'=>∃(ad:List St) (hs':Nat ->Hd) (M5':MF),r= .tup []∧H'=HV nbs NE (addO O ad (n - 1)) n hs' (An ls (n - 1) (ls (n - 1)++ad)) M5'∧LU M5' n hs' (An ls (n - 1) (ls (n - 1)++ad))∧VR w (O.map Prod.fst) x ad:=by
 intro k
 induction k with
 | zero=>
  intro O hs ls M5 x hk hx hnd hsub hG hlen
  have hxO:x∈O.map Prod.fst:=Classical.byContradiction fun hxO=>by
   have h1:=NW (V:=x::O.map Prod.fst) (R:=w.R) (List.nodup_cons.2 ⟨hxO,hnd⟩) (fun y hy=>by
    rcases List.mem_cons.1 hy with rfl | hy
    ·exact hx
    ·exact hsub y hy)
   simp at h1;omega
  refine DA Try.func62 Z Z Try.ntmps62 Z Z Z fun F hF=>(AG (AG (AI ?_)))
  first | refine J (AX Z Z FF rfl) ?_ | refine J (AU Z Z Z FF rfl) ?_ | refine J (AW Z Z (rfl) rfl FF rfl) ?_
  refine AC Z Z (J (Fb (O) (x) (0) Z Z Z Hu Ec za3 rfl) (AC Z Z ?_))
  first | refine J (B4 Z Z Z) ?_ | refine J (B5 Z Z Z) ?_
  first | refine J (B4 Z Z Z) ?_ | refine J (B5 Z Z Z) ?_
  refine AE Z Z (AE Z Z (AF (AG (AI (AC Z Z (AF (IE rfl ((Bx.2 hxO)) (Au ?_))))))));exact ⟨_,[4,1,5,6,7,8,9,50],_,Aq rfl,rfl,rfl,[],hs,M5,rfl,by rw [List.append_nil,Da rfl];simp [addO],by rw [List.append_nil,Da rfl];exact hG,VR.done hxO⟩
 | succ k ih=>
  intro O hs ls M5 x hk hx hnd hsub hG hlen
  by_cases hxO:x∈O.map Prod.fst
  ·skip;refine DA Try.func62 Z Z Try.ntmps62 Z Z Z fun F hF=>(AG (AG (AI ?_)))
   first | refine J (AX Z Z FF rfl) ?_ | refine J (AU Z Z Z FF rfl) ?_ | refine J (AW Z Z (rfl) rfl FF rfl) ?_
   refine AC Z Z (J (Fb (O) (x) (0) Z Z Z Hu Ec za3 rfl) (AC Z Z ?_))
   first | refine J (B4 Z Z Z) ?_ | refine J (B5 Z Z Z) ?_
   first | refine J (B4 Z Z Z) ?_ | refine J (B5 Z Z Z) ?_
   refine AE Z Z (AE Z Z (AF (AG (AI (AC Z Z (AF (IE rfl ((Bx.2 hxO)) (Au ?_))))))));exact ⟨_,[4,1,5,6,7,8,9,50],_,Aq rfl,rfl,rfl,[],hs,M5,rfl,by rw [List.append_nil,Da rfl];simp [addO],by rw [List.append_nil,Da rfl];exact hG,VR.done hxO⟩
  ·have hxF:Gq O x=false:=by rw [Bool.eq_false_iff];exact fun h=>hxO (Bx.1 h)
   have hOl:O.length+1≤w.R.length:=by
    have h1:=NW (V:=x::O.map Prod.fst) (R:=w.R) (List.nodup_cons.2 ⟨hxO,hnd⟩) (fun y hy=>by
     rcases List.mem_cons.1 hy with rfl | hy
     ·exact hx
     ·exact hsub y hy)
    simpa using h1
   have hfew:=hw.few;have hn1':n - 1<n:=by omega
   refine DA Try.func62 Z Z Try.ntmps62 Z Z Z fun F hF=>(AG (AG (AI ?_)))
   first | refine J (AX Z Z FF rfl) ?_ | refine J (AU Z Z Z FF rfl) ?_ | refine J (AW Z Z (rfl) rfl FF rfl) ?_
   refine AC Z Z (J (Fb (O) (x) (0) Z Z Z Hu Ec za3 rfl) (AC Z Z ?_))
   first | refine J (B4 Z Z Z) ?_ | refine J (B5 Z Z Z) ?_
   first | refine J (B4 Z Z Z) ?_ | refine J (B5 Z Z Z) ?_
   refine AE Z Z (AE Z Z ?_);refine AF (AG (AI (AC Z Z (AF (D4 rfl (hxF) (Ai (AG (AI ?_))))))))
   first | refine J (AX Z Z Dv rfl) ?_ | refine J (AU Z Z Z Dv rfl) ?_ | refine J (AW Z Z (rfl) rfl Dv rfl) ?_
   first | refine J (J0 rfl Try.underlying79 rfl) ?_ | refine J (Br Z Z Try.underlying79 rfl) ?_ | refine J (JW rfl Try.underlying79 rfl) ?_ | refine J (JY rfl Try.underlying79 rfl) ?_ | refine J (JV rfl Try.underlying79 rfl) ?_ | refine J (JP rfl Try.underlying79 rfl) ?_
   refine J (DW Z Z (show IntKind.i64.wrap ((n:Int) - 1)=((n - 1:Nat):Int) from by rw [show ((n:Int) - 1)=((n - 1:Nat):Int) by omega];exact IntWalk.i64_in _ (by omega)) rfl) (AE Z Z (AF (AG (AI ?_))))
   first | refine J (AX Z Z FF rfl) ?_ | refine J (AU Z Z Z FF rfl) ?_ | refine J (AW Z Z (rfl) rfl FF rfl) ?_
   refine AC Z Z (AC Z Z ?_)
   first | refine U (Kf (O) (x) (n - 1) Z Z Z Hu Ec Z Z) ?_ | refine U (PX (O) (x) (n - 1) Z Z Z Hu Ec Z Z) ?_
   refine AF (AG ?_);rw [Om hxO];refine Ee [[],[],[],[],[2,3],[2,3,4],[],[6],[2,3,4,5,6,7],[0,1,2,3,4,5,6,7,8],[0,1,2,3,4,5,6,7,8,9]] mixed rfl (DL ?_)
   first | refine AD [2] [7] Z Z (fun _=>AB (AX Z Z Dv rfl)) ?_ | refine AD [2] [7] Z Z (fun _=>AB (AU Z Z Z Dv rfl)) ?_ | refine AD [2] [7] Z Z (fun _=>AB (AW Z Z (rfl) rfl Dv rfl)) ?_
   first | refine AD [8] [] Z Z (fun _=>AB (A9 Z Z)) ?_ | refine AH [8] Z Z (fun _=>AB (A9 Z Z)) ?_
   first | refine AD [2] [7] Z Z (fun _=>AB (AX Z Z Dv rfl)) ?_ | refine AD [2] [7] Z Z (fun _=>AB (AU Z Z Z Dv rfl)) ?_ | refine AD [2] [7] Z Z (fun _=>AB (AW Z Z (rfl) rfl Dv rfl)) ?_
   first | refine AD [8] [] Z Z (fun _=>AB (A9 Z Z)) ?_ | refine AH [8] Z Z (fun _=>AB (A9 Z Z)) ?_
   first | refine AD [26,27] [8] Z Z (fun _=>AB (BE (n - 1) Z Z (rfl) (hn1') Try.underlying79 rfl CG rfl)) ?_ | refine AD [26,27] [8] Z Z (fun _=>AB (BF (n - 1) Z Z (rfl) (hn1') rfl Try.underlying79 CG rfl)) ?_
   first | refine AD [28] [8] Z Z (fun _=>AB (AX Z Z AL rfl)) ?_ | refine AD [28] [8] Z Z (fun _=>AB (AU Z Z Z AL rfl)) ?_ | refine AD [28] [8] Z Z (fun _=>AB (AW Z Z (FR hn1') rfl AL rfl)) ?_
   first | refine AD [0] [] Z Z (fun _=>AB (A9 Z Z)) ?_ | refine AH [0] Z Z (fun _=>AB (A9 Z Z)) ?_
   refine Bp [30] [20] [(31,_)] Z Z (fun _=>IC (HC 20 Bg Z Z Z Z Z Z Z Z)) (.inr ⟨31,_,rfl,rfl,rfl,rfl,rfl⟩) Z Z Z Z Z (Bp [29,31] [50,20,60] [(32,_)] Z Z (fun _=>IC (IJ 29 60 50 (hG.at_ (n - 1) hn1') Z Z (by rw [List.length_map]) Z Z Z Z Z (J1 (emb:=AZ) (ls (n - 1)) [x] Z Z Z Z Z Z Z Z Bg (by show ((ls (n - 1)).length+1)*16≤_;omega) Z Z Z Z))) (.inr ⟨32,_,rfl,rfl,rfl,rfl,rfl⟩) Z Z Z Z Z (DM 9 Z Z Z (BI 10 Z Z (Ff 32 60 50 hF Z Z Z (by rw [List.length_map]) (by simp) Z Z Z Z Z Z Z (fun _ _=>rfl) fun b c hb hc=>?_))))
   first | refine J (BE (n - 1) Z Z (rfl) (hn1') Try.underlying79 rfl CG rfl) ?_ | refine J (BF (n - 1) Z Z (rfl) (hn1') rfl Try.underlying79 CG rfl) ?_
   refine AF ⟨rfl,?_⟩;refine BI 11 Z Z (U (Zcs Z Z Z Z Z (by rw [RZ];exact hn1') (Pg (h:=some (b,c))) rfl CG) (AF ⟨rfl,?_⟩));refine ED (AG ?_);have hG1:=hG.app hn1' hb hc;refine AI ?_
   first | refine J (AX Z Z QH rfl) ?_ | refine J (AU Z Z Z QH rfl) ?_ | refine J (AW Z Z (rfl) rfl QH rfl) ?_
   refine AC Z Z (J (I4 NE x [] (L x) Z Z Z MH Ec za32 nil_st (hL.get x) rfl) (J (Br rfl (List.length_map ..) Try.underlying32 rfl) (AC Z Z (AF (B7 (FC (α:=Nat×List St×(Nat ->Hd)×MF) (fun q=>⟨46,[(3,.ptr 4 0 0),(4,.ptr 9 0 0),(36,(.d (stsD (L x)))),(37,(.d (natD (L x).length))),(38,(.d (natD q.1)))],HV nbs NE (addO O q.2.1 (n - 1)) n q.2.2.1 (An ls (n - 1) (ls (n - 1)++q.2.1)) q.2.2.2⟩) (fun q=>q.1≤(L x).length∧VP w (O.map Prod.fst) x (L x) q.1 q.2.1∧LU q.2.2.2 n q.2.2.1 (An ls (n - 1) (ls (n - 1)++q.2.1))) (fun q=>(L x).length - q.1) ((0,[x],An hs (n - 1) (some (b,c)),BD (DF M5 (hs (n - 1))) b (.row 9 1 c ((ls (n - 1)++ [x]).map AZ)))) (⟨Nat.zero_le _,VP.start hxO hx,hG1⟩) (BC hF [4,1,5,6,7,8,9,50] Z Z ⟨rfl,rfl,rfl,rfl,rfl,trivial⟩) ?_))))));rintro ⟨j,ad,hs2,M52⟩ ⟨hj,hV,hG2⟩;dsimp only at hj hV hG2⊢;refine AG (AI ?_)
   first | refine J (Ed Z Z Z) ?_ | refine J (Ef Z Z Z) ?_
   refine AF (AG ?_)
   first | refine BA rfl (fun h39=>?_) (fun h39=>?_) | refine Az rfl (fun h39=>?_) (fun h39=>?_)
   ·have hjl:j<(L x).length:=HB h39;refine Ai (AG (B7 (AG (AI ?_))));have hxy:Jd w x (L x)[j]:=(hL.wth x _).1 (List.getElem_mem hjl);have hlL:=hL.len x
    first | refine J (BE (j) Z Z (rfl) (Ox hjl) Try.underlying32 rfl DO rfl) ?_ | refine J (BF (j) Z Z (rfl) (Ox hjl) rfl Try.underlying32 DO rfl) ?_
    first | refine J (AX Z Z AY rfl) ?_ | refine J (AU Z Z Z AY rfl) ?_ | refine J (AW Z Z (rfl) rfl AY rfl) ?_
    refine AE Z Z (AF (AI ?_));have hal:1≤ad.length:=List.length_pos_of_mem hV.self;have hnd2:((addO O ad (n - 1)).map Prod.fst).Nodup:=by rw [F5,List.nodup_append];exact ⟨hnd,hV.nd,fun a ha b hb e=>(hV.nw b hb).1 (e▸ha)⟩
    have hsub2:∀y∈(addO O ad (n - 1)).map Prod.fst,y∈w.R:=fun y hy=>by rw [F5] at hy;exact (List.mem_append.1 hy).elim (hsub y) fun h=>(hV.nw y h).2.1
    have hlen2:(An ls (n - 1) (ls (n - 1)++ad) (n - 1)).length≤(addO O ad (n - 1)).length:=by rw [Ds];simp;omega
    have hk2:w.R.length - (addO O ad (n - 1)).length≤k:=by simp;omega
    first | refine J (AX Z Z KC rfl) ?_ | refine J (AU Z Z Z KC rfl) ?_ | refine J (AW Z Z (rfl) rfl KC rfl) ?_
    refine AC Z Z ?_;refine H7 (Jl (ih (addO O ad (n - 1)) hs2 _ M52 (L x)[j] hk2 (hxy.mem hw).2 hnd2 hsub2 hG2 hlen2) rfl [4,1,5,6,7,8,9,50] ⟨rfl,rfl,rfl,rfl,rfl,rfl,rfl,rfl,trivial⟩ Z Z Z Z (fun r H' ⟨ad',hs3,M53,e1,e2,_,_⟩=>by subst e1 e2;exact ⟨rfl,rfl,rfl⟩) rfl) rfl ?_;rintro _ ⟨r,H',⟨ad',hs3,M53,e1,e2,hG3,hVR⟩,rfl⟩;subst e1 e2;rw [F5] at hVR;refine AF (AI (J (Cm Z Z (IntWalk.i64_in _ (by omega)) rfl) (AC Z Z (AF ?_))));exact ⟨(j+1,ad++ad',hs3,M53),⟨hjl,hV.next (List.getElem?_eq_getElem hjl) hxy hVR,by rw [←List.append_assoc];rw [Ds,Fa] at hG3;exact hG3⟩,by show (L x).length - (j+1)<(L x).length - j;omega,BC hF [4,1,5,6,7,8,9,50] rfl (by rw [Ds,Fa,RT,List.append_assoc];rfl) ⟨rfl,rfl,rfl,rfl,rfl,trivial⟩⟩
   ·have hje:j=(L x).length:=by have:=h39;omega
    refine Dq ?_;subst hje;exact ⟨_,[4,1,5,6,7,8,9,50],_,Aq rfl,rfl,rfl,ad,hs2,M52,rfl,rfl,hG2,hV.fin (hL.wth x)⟩
open Classical in
noncomputable def lstF (w:Ws) (l:List St):List (List St):=(l.filter fun a=>decide (Jg w a)).map (cls w)
theorem Q2 (w:Ws):lstF w w.R=parts w:=rfl
structure PI (w:Ws) (k:Nat) (O:List (St×Nat)) (n:Nat) (ls:Nat ->List St):Prop where
 nd:(O.map Prod.fst).Nodup
 ks:∀y,y∈O.map Prod.fst↔y∈w.R∧∃i x,i<k∧w.R[i]?=some x∧HF w x y
 rows:O6 n ls=lstF w (w.R.take k)
 vals:∀p∈O,p.2<n∧ls p.2=cls w p.1
 le:n≤k
theorem PI.zero {w:Ws}:PI w 0 [] 0 (fun _=> []):=⟨List.nodup_nil,fun y=>by simp,by simp [O6,lstF],(fun _ h=>by cases h),Nat.le_refl _⟩
theorem srt_lt {R:List St} (h:HD R) {i j:Nat} {x y:St} (hi:R[i]?=some x) (hj:R[j]?=some y) (hlt:x<y):i<j:=by
 obtain ⟨h1,rfl⟩:=List.getElem?_eq_some_iff.1 hi;obtain ⟨h2,rfl⟩:=List.getElem?_eq_some_iff.1 hj;rcases Nat.lt_trichotomy i j with h3 | h3 | h3
 ·exact h3
 ·subst h3;exact absurd hlt (GH _)
 ·exact absurd hlt (P2 (List.pairwise_iff_getElem.1 h j i h2 h1 h3))
theorem PI.old {w:Ws} (hw:BV w) {k:Nat} {O:List (St×Nat)} {n:Nat} {ls:Nat ->List St} (h:PI w k O n ls) (hk:k<w.R.length) (hx:w.R[k]∈O.map Prod.fst):PI w (k+1) O n ls:=by
 obtain ⟨_,i,x,hi,hxi,hc⟩:=(h.ks _).1 hx;refine ⟨h.nd,fun y=>?_,?_,h.vals,Nat.le_succ_of_le h.le⟩
 ·rw [h.ks]
  constructor
  ·rintro ⟨hy,j,z,hj,hz,hc2⟩;exact ⟨hy,j,z,by omega,hz,hc2⟩
  ·rintro ⟨hy,j,z,hj,hz,hc2⟩
   by_cases e:j=k
   ·subst e;rw [List.getElem?_eq_getElem hk] at hz;injection hz with hz;subst hz
    exact ⟨hy,i,x,hi,hxi,hc.trans hc2⟩
   ·exact ⟨hy,j,z,by omega,hz,hc2⟩
 ·rw [h.rows,List.take_succ_eq_append_getElem hk];unfold lstF;rw [List.filter_append,List.map_append]
  have hn:¬Jg w w.R[k]:=fun hl=>by
   obtain ⟨h1,rfl⟩:=List.getElem?_eq_some_iff.1 hxi;exact hl _ (List.getElem_mem h1) hc.symm (List.pairwise_iff_getElem.1 hw.srt i k h1 hk hi)
  simp [hn]
theorem PI.new {w:Ws} (hw:BV w) {k:Nat} {O:List (St×Nat)} {n:Nat} {ls:Nat ->List St} (h:PI w k O n ls) (hk:k<w.R.length) (hx:w.R[k]∉O.map Prod.fst) {ad:List St} (hv:VR w (O.map Prod.fst) w.R[k] ad):
  Co ad=cls w w.R[k]∧PI w (k+1) (addO O ad n) (n+1) (An ls n (cls w w.R[k])):=by
 have hR:w.R[k]∈w.R:=List.getElem_mem hk;have hself:w.R[k]∈ad:=hv.self.resolve_left hx
 have hall:∀z,HF w w.R[k] z ->z∈ad:=fun z hz=>BU.closed (p:=fun z=>z∈ad) (fun a b ha hab=>by
  rcases hv.cl a ha b hab with h1 | h1
  ·obtain ⟨_,i,x,hi,hxi,hc⟩:=(h.ks b).1 h1;obtain ⟨q1,q2,_⟩:=hv.nw a ha;exact absurd ((h.ks a).2 ⟨q2,i,x,hi,hxi,hc.trans (BU.one hab.symm)⟩) q1
  ·exact h1) hself hz
 have hmem:∀y,y∈ad↔y∈cls w w.R[k]:=fun y=>by
  rw [Nc];exact ⟨fun hy=>⟨(hv.nw y hy).2.1,(hv.nw y hy).2.2⟩,fun hy=>hall y hy.2⟩
 have hL:Jg w w.R[k]:=fun x hxR hc hlt=>by
  obtain ⟨i,hi,rfl⟩:=List.getElem_of_mem hxR;have hik:=srt_lt hw.srt (List.getElem?_eq_getElem hi) (List.getElem?_eq_getElem hk) hlt;exact hx ((h.ks _).2 ⟨hR,i,_,hik,List.getElem?_eq_getElem hi,hc.symm⟩)
 refine ⟨HL hv.nd (HA hw _) hmem,?_,fun y=>?_,?_,fun p hp=>?_,by have:=h.le;omega⟩
 ·rw [F5,List.nodup_append];exact ⟨h.nd,hv.nd,fun a ha b hb e=>(hv.nw b hb).1 (e▸ha)⟩
 ·rw [F5,List.mem_append,h.ks,hmem,Nc]
  constructor
  ·rintro (⟨hy,i,x,hi,hxi,hc⟩ | ⟨hy,hc⟩)
   ·exact ⟨hy,i,x,by omega,hxi,hc⟩
   ·exact ⟨hy,k,_,by omega,List.getElem?_eq_getElem hk,hc⟩
  ·rintro ⟨hy,i,x,hi,hxi,hc⟩
   by_cases e:i=k
   ·subst e;rw [List.getElem?_eq_getElem hk] at hxi;injection hxi with hxi;subst hxi
    exact .inr ⟨hy,hc⟩
   ·exact .inl ⟨hy,i,x,by omega,hxi,hc⟩
 ·have h1:O6 (n+1) (An ls n (cls w w.R[k]))=O6 n ls++ [cls w w.R[k]]:=by
   unfold O6;rw [List.range_succ,List.map_append]
   congr 1
   ·exact List.map_congr_left fun i hi=>E6 (by have:=List.mem_range.1 hi;omega)
   ·simp [Ds]
  rw [h1,h.rows,List.take_succ_eq_append_getElem hk];unfold lstF;rw [List.filter_append,List.map_append]
  simp [hL]
 ·rcases List.mem_append.1 hp with hp | hp
  ·obtain ⟨h1,h2⟩:=h.vals p hp;exact ⟨by omega,by rw [E6 (by omega)];exact h2⟩
  ·obtain ⟨y,hy,rfl⟩:=List.mem_map.1 hp;exact ⟨by show n<n+1;omega,by show An ls n (cls w w.R[k]) n=_;rw [Ds];exact N5 ((hmem y).1 hy |>Nc.1).2⟩
theorem PI.fin {w:Ws} (hw:BV w) {O:List (St×Nat)} {n:Nat} {ls:Nat ->List St} (h:PI w w.R.length O n ls):O6 n ls=parts w∧∀x∈w.R,CS O x 0=idx w x:=by
 have h1:O6 n ls=parts w:=by rw [h.rows,List.take_length,Q2]
 refine ⟨h1,fun x hx=>?_⟩;obtain ⟨i,hi,e⟩:=List.getElem_of_mem hx;have hm:x∈O.map Prod.fst:=(h.ks x).2 ⟨hx,i,x,hi,by rw [List.getElem?_eq_getElem hi,e],.refl⟩;obtain ⟨p,hp,e⟩:=List.mem_map.1 hm;subst e;obtain ⟨h2,h3⟩:=h.vals p hp;rw [Hg h.nd hp];refine (NU hw (i:=p.2) (g:=cls w p.1) ?_ (Cc hx)).symm;rw [←h1,Nk h2,h3]
theorem PR {n:Nat} {hs:Nat ->Hd} {ls:Nat ->List St}:∀(j:Nat) x y,(rowS n hs ls++ [D.sl (some true) []])[j]?=some x ->(rowS (n+1) (An hs n none) (An ls n []))[j]?=some y ->∀w O v,AQ w O x v ->AQ w O y v:=by
 intro j x y hx hy w O v hr;have hj:j<n+1:=by have:=(List.getElem?_eq_some_iff.1 hy).1;rwa [RZ] at this
 rw [FR hj] at hy;injection hy with hy
 subst hy
 by_cases e:j=n
 ·subst e;rw [List.getElem?_append_right (by rw [RZ];exact Nat.le_refl _),RZ,Nat.sub_self] at hx;injection hx with hx
  subst hx;rw [Ds,Ds];exact hr.nrm1
 ·have hj':j<n:=by omega
  rw [List.getElem?_append_left (by rw [RZ];exact hj'),FR hj'] at hx;injection hx with hx
  subst hx;rw [E6 e,E6 e];exact hr
theorem LU.grow {M:MF} {n:Nat} {hs:Nat ->Hd} {ls:Nat ->List St} (h:LU M n hs ls):LU M (n+1) (An hs n none) (An ls n []):=by
 refine ⟨fun j hj=>?_,fun j k b c c' hj hk e1 e2=>?_⟩
 ·by_cases e:j=n
  ·subst e;rw [Ds,Ds];exact rfl
  ·rw [E6 e,E6 e];exact h.at_ j (by omega)
 ·by_cases ej:j=n
  ·subst ej;rw [Ds] at e1;cases e1
  ·by_cases ek:k=n
   ·subst ek;rw [Ds] at e2;cases e2
   ·rw [E6 ej] at e1;rw [E6 ek] at e2;exact h.inj j k b c c' (by omega) (by omega) e1 e2
end Go.Proofs.Ytlmedakidpaeeaa
