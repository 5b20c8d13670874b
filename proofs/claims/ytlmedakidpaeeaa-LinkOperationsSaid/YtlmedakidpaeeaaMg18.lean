/- The kit's contract of slices.SortFunc laid at this program: the renumbering and its facts. Made by program (lays.py). -/
import Derived.Test.YtlmedakidpaeeaaMg17
import Derived.Shelf.SlLaysF0
import Derived.Shelf.SlLaysNS
import Derived.Test.YtlmedakidpaeeaaProg
namespace Go.Proofs.Ytlmedakidpaeeaa
open Go.Shelf Go.Proofs Go.Proofs.Try
def renS:Go.Shelf.Ren:=⟨fun x=>match x with
 | 53=>60
 | 64=>76
 | 63=>75
 | 78=>91
 | 79=>92
 | 70=>82
 | 71=>83
 | 72=>84
 | 73=>85
 | 74=>86
 | 75=>87
 | 59=>88
 | 76=>89
 | 77=>90
 | 88=>111
 | 89=>112
 | 90=>113
 | 91=>114
 | 92=>115
 | 68=>70
 | 96=>122
 | x=>x,
 fun x=>match x with
 | 22=>49
 | 23=>3
 | 3=>3
 | 51=>125
 | 0=>0
 | 67=>138
 | 69=>140
 | 4=>4
 | 61=>131
 | 60=>130
 | 44=>109
 | 5=>5
 | 9=>9
 | 75=>153
 | 79=>157
 | 83=>163
 | 84=>164
 | x=>x,fun x=>x⟩
theorem QJ:SlLaysN.n53 Try.prog renS where
 mixed:=rfl
 f53:=⟨Try.f60.name,by decide,Try.func60.trans (congrArg some (by kernel_rfl))⟩
 f59:=⟨Try.f88.name,by decide,Try.func88.trans (congrArg some (by kernel_rfl))⟩
 f63:=⟨Try.f75.name,by decide,Try.func75.trans (congrArg some (by kernel_rfl))⟩
 f64:=Try.func76.trans (congrArg some (by kernel_rfl))
 f68:=⟨Try.f70.name,by decide,Try.func70.trans (congrArg some (by kernel_rfl))⟩
 f70:=⟨Try.f82.name,by decide,Try.func82.trans (congrArg some (by kernel_rfl))⟩
 f71:=⟨Try.f83.name,by decide,Try.func83.trans (congrArg some (by kernel_rfl))⟩
 f72:=⟨Try.f84.name,by decide,Try.func84.trans (congrArg some (by kernel_rfl))⟩
 f73:=⟨Try.f85.name,by decide,Try.func85.trans (congrArg some (by kernel_rfl))⟩
 f74:=⟨Try.f86.name,by decide,Try.func86.trans (congrArg some (by kernel_rfl))⟩
 f75:=⟨Try.f87.name,by decide,Try.func87.trans (congrArg some (by kernel_rfl))⟩
 f76:=⟨Try.f89.name,by decide,Try.func89.trans (congrArg some (by kernel_rfl))⟩
 f77:=⟨Try.f90.name,by decide,Try.func90.trans (congrArg some (by kernel_rfl))⟩
 f78:=Try.func91.trans (congrArg some (by kernel_rfl))
 f79:=Try.func92.trans (congrArg some (by kernel_rfl))
 f88:=⟨Try.f111.name,by decide,Try.func111.trans (congrArg some (by kernel_rfl))⟩
 f89:=Try.func112.trans (congrArg some (by kernel_rfl))
 f90:=Try.func113.trans (congrArg some (by kernel_rfl))
 f91:=⟨Try.f114.name,by decide,Try.func114.trans (congrArg some (by kernel_rfl))⟩
 f92:=⟨Try.f115.name,by decide,Try.func115.trans (congrArg some (by kernel_rfl))⟩
 f96:=⟨Try.f122.name,by decide,Try.func122.trans (congrArg some (by kernel_rfl))⟩
 t0:=Try.underlying0
 a0:=Try.isAgg0
 z0:=Try.sizeOf0
 v0:=Try.zeroValue0
 t3:=Try.underlying3
 a3:=Try.isAgg3
 z3:=Try.sizeOf3
 v3:=Try.zeroValue3
 t4:=Try.underlying4
 a4:=Try.isAgg4
 z4:=Try.sizeOf4
 v4:=Try.zeroValue4
 t5:=Try.underlying5
 a5:=Try.isAgg5
 z5:=Try.sizeOf5
 v5:=Try.zeroValue5
 t9:=Try.underlying9
 a9:=Try.isAgg9
 z9:=Try.sizeOf9
 v9:=Try.zeroValue9
 t22:=Try.underlying49
 a22:=Try.isAgg49
 z22:=Try.sizeOf49
 v22:=Try.zeroValue49
 t23:=Try.underlying3
 a23:=Try.isAgg3
 z23:=Try.sizeOf3
 v23:=Try.zeroValue3
 t44:=Try.underlying109
 a44:=Try.isAgg109
 z44:=Try.sizeOf109
 v44:=Try.zeroValue109
 t51:=Try.underlying125
 a51:=Try.isAgg125
 z51:=Try.sizeOf125
 v51:=Try.zeroValue125
 t60:=Try.underlying130
 a60:=Try.isAgg130
 z60:=Try.sizeOf130
 v60:=Try.zeroValue130
 t61:=Try.underlying131
 a61:=Try.isAgg131
 z61:=Try.sizeOf131
 v61:=Try.zeroValue131
 t67:=Try.underlying138
 a67:=Try.isAgg138
 z67:=Try.sizeOf138
 v67:=Try.zeroValue138
 t69:=Try.underlying140
 a69:=Try.isAgg140
 z69:=Try.sizeOf140
 v69:=Try.zeroValue140
 t75:=Try.underlying153
 a75:=Try.isAgg153
 z75:=Try.sizeOf153
 v75:=Try.zeroValue153
 t79:=Try.underlying157
 a79:=Try.isAgg157
 z79:=Try.sizeOf157
 v79:=Try.zeroValue157
 t83:=Try.underlying163
 a83:=Try.isAgg163
 z83:=Try.sizeOf163
 v83:=Try.zeroValue163
 t84:=Try.underlying164
 a84:=Try.isAgg164
 z84:=Try.sizeOf164
 v84:=Try.zeroValue164
def renT:Go.Shelf.Ren:=⟨fun x=>match x with
 | 54=>65
 | 64=>76
 | 65=>79
 | 78=>91
 | 79=>92
 | 80=>94
 | 81=>95
 | 82=>96
 | 83=>97
 | 84=>98
 | 85=>99
 | 61=>100
 | 86=>101
 | 87=>102
 | 93=>116
 | 89=>112
 | 90=>113
 | 94=>117
 | 95=>118
 | 69=>71
 | 97=>123
 | x=>x,
 fun x=>match x with
 | 25=>32
 | 26=>9
 | 3=>3
 | 51=>125
 | 0=>0
 | 67=>138
 | 69=>140
 | 4=>4
 | 61=>131
 | 60=>130
 | 44=>109
 | 5=>5
 | 9=>9
 | 75=>153
 | 79=>157
 | 83=>163
 | 84=>164
 | x=>x,fun x=>x⟩
theorem QI:SlLaysN.n54 Try.prog renT where
 mixed:=rfl
 f54:=⟨Try.f65.name,by decide,Try.func65.trans (congrArg some (by kernel_rfl))⟩
 f61:=⟨Try.f100.name,by decide,Try.func100.trans (congrArg some (by kernel_rfl))⟩
 f64:=Try.func76.trans (congrArg some (by kernel_rfl))
 f65:=⟨Try.f79.name,by decide,Try.func79.trans (congrArg some (by kernel_rfl))⟩
 f69:=⟨Try.f71.name,by decide,Try.func71.trans (congrArg some (by kernel_rfl))⟩
 f78:=Try.func91.trans (congrArg some (by kernel_rfl))
 f79:=Try.func92.trans (congrArg some (by kernel_rfl))
 f80:=⟨Try.f94.name,by decide,Try.func94.trans (congrArg some (by kernel_rfl))⟩
 f81:=⟨Try.f95.name,by decide,Try.func95.trans (congrArg some (by kernel_rfl))⟩
 f82:=⟨Try.f96.name,by decide,Try.func96.trans (congrArg some (by kernel_rfl))⟩
 f83:=⟨Try.f97.name,by decide,Try.func97.trans (congrArg some (by kernel_rfl))⟩
 f84:=⟨Try.f98.name,by decide,Try.func98.trans (congrArg some (by kernel_rfl))⟩
 f85:=⟨Try.f99.name,by decide,Try.func99.trans (congrArg some (by kernel_rfl))⟩
 f86:=⟨Try.f101.name,by decide,Try.func101.trans (congrArg some (by kernel_rfl))⟩
 f87:=⟨Try.f102.name,by decide,Try.func102.trans (congrArg some (by kernel_rfl))⟩
 f89:=Try.func112.trans (congrArg some (by kernel_rfl))
 f90:=Try.func113.trans (congrArg some (by kernel_rfl))
 f93:=⟨Try.f116.name,by decide,Try.func116.trans (congrArg some (by kernel_rfl))⟩
 f94:=⟨Try.f117.name,by decide,Try.func117.trans (congrArg some (by kernel_rfl))⟩
 f95:=⟨Try.f118.name,by decide,Try.func118.trans (congrArg some (by kernel_rfl))⟩
 f97:=⟨Try.f123.name,by decide,Try.func123.trans (congrArg some (by kernel_rfl))⟩
 t0:=Try.underlying0
 a0:=Try.isAgg0
 z0:=Try.sizeOf0
 v0:=Try.zeroValue0
 t3:=Try.underlying3
 a3:=Try.isAgg3
 z3:=Try.sizeOf3
 v3:=Try.zeroValue3
 t4:=Try.underlying4
 a4:=Try.isAgg4
 z4:=Try.sizeOf4
 v4:=Try.zeroValue4
 t5:=Try.underlying5
 a5:=Try.isAgg5
 z5:=Try.sizeOf5
 v5:=Try.zeroValue5
 t9:=Try.underlying9
 a9:=Try.isAgg9
 z9:=Try.sizeOf9
 v9:=Try.zeroValue9
 t25:=Try.underlying32
 a25:=Try.isAgg32
 z25:=Try.sizeOf32
 v25:=Try.zeroValue32
 t26:=Try.underlying9
 a26:=Try.isAgg9
 z26:=Try.sizeOf9
 v26:=Try.zeroValue9
 t44:=Try.underlying109
 a44:=Try.isAgg109
 z44:=Try.sizeOf109
 v44:=Try.zeroValue109
 t51:=Try.underlying125
 a51:=Try.isAgg125
 z51:=Try.sizeOf125
 v51:=Try.zeroValue125
 t60:=Try.underlying130
 a60:=Try.isAgg130
 z60:=Try.sizeOf130
 v60:=Try.zeroValue130
 t61:=Try.underlying131
 a61:=Try.isAgg131
 z61:=Try.sizeOf131
 v61:=Try.zeroValue131
 t67:=Try.underlying138
 a67:=Try.isAgg138
 z67:=Try.sizeOf138
 v67:=Try.zeroValue138
 t69:=Try.underlying140
 a69:=Try.isAgg140
 z69:=Try.sizeOf140
 v69:=Try.zeroValue140
 t75:=Try.underlying153
 a75:=Try.isAgg153
 z75:=Try.sizeOf153
 v75:=Try.zeroValue153
 t79:=Try.underlying157
 a79:=Try.isAgg157
 z79:=Try.sizeOf157
 v79:=Try.zeroValue157
 t83:=Try.underlying163
 a83:=Try.isAgg163
 z83:=Try.sizeOf163
 v83:=Try.zeroValue163
 t84:=Try.underlying164
 a84:=Try.isAgg164
 z84:=Try.sizeOf164
 v84:=Try.zeroValue164
end Go.Proofs.Ytlmedakidpaeeaa
/- slices.Compact at integers, over a row of a region. -/
namespace Go.Proofs.Ytlmedakidpaeeaa
open Go.RowKit
set_option maxRecDepth 100000
def Og (l:List Nat) (i:Nat):Prop:=i=0∨CZ l i≠CZ l (i - 1)
instance (l:List Nat) (i:Nat):Decidable (Og l i):=inferInstanceAs (Decidable (_∨_))
def Dt (l:List Nat) (j:Nat):List Nat:=((List.range j).filter fun i=>decide (Og l i)).map (CZ l)
theorem KD (l:List Nat) (j:Nat):Dt l (j+1)=Dt l j++if Og l j then [CZ l j] else []:=by
 unfold Dt;rw [List.range_succ,List.filter_append,List.map_append]
 congr 1
 by_cases h:Og l j
 ·rw [if_pos h,List.filter_cons_of_pos (by simpa using h)];rfl
 ·rw [if_neg h,List.filter_cons_of_neg (by simpa using h)];rfl
theorem Kt {l:List Nat} {j:Nat} (h:Og l j):Dt l (j+1)=Dt l j++ [CZ l j]:=by rw [KD,if_pos h]
theorem MS {l:List Nat} {j:Nat} (h:¬Og l j):Dt l (j+1)=Dt l j:=by rw [KD,if_neg h,List.append_nil]
theorem cptK_le (l:List Nat) (j:Nat):(Dt l j).length≤j:=by
 unfold Dt;rw [List.length_map];exact Nat.le_trans (List.length_filter_le _ _) (by simp)
theorem LK {l:List Nat} {k:Nat} (h:k<l.length):l.take (k+1)=l.take k++ [CZ l k]:=by rw [List.take_succ_eq_append_getElem h,Cg h]
theorem Qc {l:List Nat} (h:l.length≤1):Dt l l.length=l:=by
 match l,h with
 | [],_=>rfl
 | [a],_=>rfl
theorem Lo {c l:List Nat} {k j:Nat} (h:c.drop k=l.drop k) (hj:k≤j):CZ c j=CZ l j:=by
 have e:(c.drop k)[j - k]?=(l.drop k)[j - k]?:=by rw [h]
 rw [List.getElem?_drop,List.getElem?_drop,show k+(j - k)=j by omega] at e;unfold CZ;rw [List.getD_eq_getElem?_getD,List.getD_eq_getElem?_getD,e]
structure CQ (l c:List Nat) (j q:Nat):Prop where
 len:c.length=l.length
 jl:j≤l.length
 q1:q+1≤j
 tk:c.take q=Dt l j
 dr:c.drop (j - 1)=l.drop (j - 1)
theorem CQ.start {l:List Nat} {k:Nat} (h1:k<l.length) (h0:0<k) (h:Dt l k=l.take k) (he:CZ l k=CZ l (k - 1)):CQ l l (k+1) k:=
 ⟨rfl,by omega,Nat.le_refl _,by rw [MS (fun h=>h.elim (fun e=>by omega) fun e=>e he),h],rfl⟩
theorem CQ.get {l c:List Nat} {j q:Nat} (h:CQ l c j q):CZ c j=CZ l j∧CZ c (j - 1)=CZ l (j - 1):=⟨Lo h.dr (by omega),Lo h.dr (Nat.le_refl _)⟩
theorem CQ.drop {l c:List Nat} {j q:Nat} (h:CQ l c j q) (hj:j<l.length) (he:CZ c j=CZ c (j - 1)):CQ l c (j+1) q:=by
 have hq:=h.q1;obtain ⟨g1,g2⟩:=h.get;refine ⟨h.len,by omega,by omega,by rw [h.tk,MS (fun hc=>hc.elim (fun e=>by omega) fun e=>e (by rw [←g1,←g2];exact he))],?_⟩;have:=congrArg (List.drop 1) h.dr
 rwa [List.drop_drop,List.drop_drop,show j - 1+1=j by omega] at this
theorem CQ.keep {l c:List Nat} {j q:Nat} (h:CQ l c j q) (hj:j<l.length) (he:CZ c j≠CZ c (j - 1)):CQ l (c.set q (CZ c j)) (j+1) (q+1):=by
 have hq:=h.q1;have hl:=h.len;obtain ⟨g1,g2⟩:=h.get;refine ⟨by rw [List.length_set];exact h.len,by omega,by omega,?_,?_⟩
 ·rw [Kt (.inr (by rw [←g1,←g2];exact he)),←h.tk,←g1,List.take_succ_eq_append_getElem (by rw [List.length_set];omega),List.take_set,List.getElem_set_self];rw [List.set_eq_of_length_le (by rw [List.length_take];exact Nat.min_le_left _ _)]
 ·rw [Nat.add_sub_cancel,List.drop_set,if_pos (by omega)];have:=congrArg (List.drop 1) h.dr
  rwa [List.drop_drop,List.drop_drop,show j - 1+1=j by omega] at this
theorem HF {M:MF} {b:Nat} {m:A0} (h:M b=some m):BL M b m=M:=by
 funext i;unfold BL;split
 ·rename_i e;rw [e,h]
 ·rfl
theorem Lu (M:MF) (b:Nat) (m m':A0):BL (BL M b m) b m'=BL M b m':=by
 funext i;unfold BL;split<;>rfl
theorem Lh (l:List Nat):∀x∈l.map natD,x.one=true:=fun x hx=>by obtain ⟨a,_,rfl⟩:=List.mem_map.1 hx;rfl
theorem N4 {α:Type}:∀(z c:List α) (q j:Nat),j<q ->(setL c q z)[j]?=c[j]?
 | [],_,_,_,_=>rfl
 | v::r,c,q,j,h=>by
  unfold setL;rw [N4 r _ _ _ (by omega),List.getElem?_set_ne (by omega)]
theorem Qd {c:List Nat} {q:Nat} {z:List D} (h:q≤c.length):(setL (c.map natD) q z).take q=(c.take q).map natD:=by
 apply List.ext_getElem?
 intro j
 by_cases hj:j<q
 ·rw [List.getElem?_take_of_lt hj,List.getElem?_map,List.getElem?_take_of_lt hj,←List.getElem?_map];exact N4 _ _ _ _ hj
 ·rw [List.getElem?_eq_none (by rw [List.length_take,NY];omega),List.getElem?_eq_none (by rw [List.length_map,List.length_take];omega)]
theorem Oh (l:List Nat) (b cap:Nat) (M:MF) (hl:l.length≤100000000) (hc:l.length≤cap) (hM:M b=some (.row 3 1 cap (l.map natD))):
  AT Try.prog 73 [.d (.raw (sV b l.length cap))] [(40,[.multi M])] fun r H'=>r= .d (.raw (sV b (Dt l l.length).length cap))∧H'=[(40,[.multi (BL M b (.row 3 1 cap ((Dt l l.length).map natD)))])]:=by
 by_cases hs:l.length≤1
 ·rw [Qc hs,HF hM];refine DY Try.func73 Z Z Try.ntmps73 Z Z Z fun F hF=>(AG (AI (AD Z Z (AF (AG (AG (AI (AC Z Z ?_))))))))
  first | refine J (JL rfl Try.underlying49 rfl) ?_ | refine J (CG Z Z Try.underlying49 rfl) ?_ | refine J (JG rfl Try.underlying49 rfl) ?_ | refine J (JJ rfl Try.underlying49 rfl) ?_ | refine J (JF rfl Try.underlying49 rfl) ?_ | refine J (Ix rfl Try.underlying49 rfl) ?_
  first | refine J (Eo Z Z Z) ?_ | refine J (Ep Z Z Z) ?_
  refine AF (Kx rfl (decide_eq_true (by omega)) (AG (AI (AC Z Z (AD Z Z (AF (Ay ?_)))))));exact ⟨_,[40],_,Av rfl,rfl,rfl,rfl,rfl⟩
 ·skip;refine DY Try.func73 Z Z Try.ntmps73 Z Z Z fun F hF=>(AG (AI (AD Z Z (AF (AG (AG (AI (AC Z Z ?_))))))))
  first | refine J (JL rfl Try.underlying49 rfl) ?_ | refine J (CG Z Z Try.underlying49 rfl) ?_ | refine J (JG rfl Try.underlying49 rfl) ?_ | refine J (JJ rfl Try.underlying49 rfl) ?_ | refine J (JF rfl Try.underlying49 rfl) ?_ | refine J (Ix rfl Try.underlying49 rfl) ?_
  first | refine J (Eo Z Z Z) ?_ | refine J (Ep Z Z Z) ?_
  refine AF ?_;refine Dk rfl (decide_eq_false (by omega)) (An (AG (AG (AI (AD Z Z (AF (B9 (Fm (α:=Nat) (fun k=>⟨61,[(0,.d (.raw (sV b l.length cap))),(3,(.d (natD k)))],[(40,[.multi M])]⟩) (fun k=>1≤k∧k≤l.length∧Dt l k=l.take k) (fun k=>l.length - k) (1) (⟨Nat.le_refl _,by omega,by rw [Kt (.inl rfl),LK (by omega)];rfl⟩) (BK hF [40] Z Z ⟨rfl,rfl,trivial⟩) ?_))))))));rintro k ⟨hk1,hk,hck⟩;refine AG (AG (AI (AC Z Z (AC Z Z ?_))))
  first | refine J (JL rfl Try.underlying49 rfl) ?_ | refine J (CG Z Z Try.underlying49 rfl) ?_ | refine J (JG rfl Try.underlying49 rfl) ?_ | refine J (JJ rfl Try.underlying49 rfl) ?_ | refine J (JF rfl Try.underlying49 rfl) ?_ | refine J (Ix rfl Try.underlying49 rfl) ?_
  first | refine J (Eo Z Z Z) ?_ | refine J (Ep Z Z Z) ?_
  refine AF ?_
  first | refine BG rfl (fun h13=>?_) (fun h13=>?_) | refine BB rfl (fun h13=>?_) (fun h13=>?_)
  ·refine An (AG (B9 (AG ?_)));have hkl:k<l.length:=H9 h13;refine Fh [[],[],[0,1],[0,1,2],[],[],[5],[4,5,6],[4,5,6,7],[0,1,2,3,4,5,6,7,8]] mixed rfl (EK ?_)
   first | refine AE [0] [] Z Z (fun _=>AB (Aa Z Z)) ?_ | refine AH [0] Z Z (fun _=>AB (Aa Z Z)) ?_
   first | refine AE [3] [] Z Z (fun _=>AB (Aa Z Z)) ?_ | refine AH [3] Z Z (fun _=>AB (Aa Z Z)) ?_
   first | refine AE [16,17] [] Z Z (fun _=>AB (EB (k) Z Z (rfl) (hkl) Try.underlying49 DZ rfl)) ?_ | refine AH [16,17] Z Z (fun _=>AB (EB (k) Z Z (rfl) (hkl) Try.underlying49 DZ rfl)) ?_
   first | refine AE [18] [] Z Z (fun _=>AB (Zcq (f:=40) (e:=k) (off:=0) rfl (by omega) rfl (hM) (DT hkl) rfl B8 rfl)) ?_ | refine AH [18] Z Z (fun _=>AB (Zcq (f:=40) (e:=k) (off:=0) rfl (by omega) rfl (hM) (DT hkl) rfl B8 rfl)) ?_
   first | refine AE [0] [] Z Z (fun _=>AB (Aa Z Z)) ?_ | refine AH [0] Z Z (fun _=>AB (Aa Z Z)) ?_
   first | refine AE [3] [] Z Z (fun _=>AB (Aa Z Z)) ?_ | refine AH [3] Z Z (fun _=>AB (Aa Z Z)) ?_
   first | refine AE [21] [] Z Z (fun _=>AB (DN Z Z (IntWalk.i64_in _ (by omega)) rfl)) ?_ | refine AH [21] Z Z (fun _=>AB (DN Z Z (IntWalk.i64_in _ (by omega)) rfl)) ?_
   first | refine AE [20,22] [] Z Z (fun _=>AB (EB (k - 1) Z Z (by omega) (by omega) Try.underlying49 DZ rfl)) ?_ | refine AH [20,22] Z Z (fun _=>AB (EB (k - 1) Z Z (by omega) (by omega) Try.underlying49 DZ rfl)) ?_
   first | refine AE [23] [] Z Z (fun _=>AB (Zcq (f:=40) (e:=k - 1) (off:=0) rfl (by omega) rfl (hM) (DT (by omega)) rfl B8 rfl)) ?_ | refine AH [23] Z Z (fun _=>AB (Zcq (f:=40) (e:=k - 1) (off:=0) rfl (by omega) rfl (hM) (DT (by omega)) rfl B8 rfl)) ?_
   refine EL 9 Z Z Z (B6 10 Z Z ?_)
   first | refine J (FP Z Z Z) ?_ | refine J (FX Z Z Z) ?_ | refine J (Et Z Z Z) ?_ | refine J (FQ Try.underlying3 Z Z Z) ?_ | refine J (FT Try.underlying3 Z Z Z) ?_ | refine J (fSq Try.underlying3 Z Z) ?_ | refine J (FW Try.underlying3 Z Z) ?_ | refine J (FV Try.underlying3 Z Z) ?_ | refine J (FR Try.underlying3 Z Z Z) ?_ | refine J (FU Try.underlying3 Z Z) ?_
   refine AF ⟨rfl,?_⟩;refine Es ?_
   first | refine BG rfl (fun h25=>?_) (fun h25=>?_) | refine BB rfl (fun h25=>?_) (fun h25=>?_)
   ·refine AG ?_;have hst:=CQ.start hkl hk1 hck (Int.ofNat.inj h25);refine AI (AC Z Z (AC Z Z ?_));refine J (HR k Z Z Z hk (by omega) Try.underlying49 DZ rfl) (AD Z Z (AF (AG (AG (AI (AD Z Z (AF (B9 ?_))))))));rw [←HF hM];refine Fm (α:=Nat×Nat×List Nat) (fun w=>⟨61,[(0,.d (.raw (sV b l.length cap))),(3,(.d (natD w.2.1))),(4,(.d (.raw (.slice (some ⟨b,k,none⟩) (l.length - k) (cap - k))))),(5,(.d (natD w.1)))],[(40,[.multi (BL M b (.row 3 1 cap (w.2.2.map natD)))])]⟩) (fun w=>k+w.1≤l.length∧1≤w.1∧CQ l w.2.2 (k+w.1) w.2.1) (fun w=>l.length - (k+w.1)) ((1,k,l)) (⟨hkl,Nat.le_refl _,hst⟩) (BK hF [40] Z Z ⟨rfl,rfl,rfl,rfl,trivial⟩) ?_;rintro ⟨p,q,c⟩ ⟨hp,hp1,hC⟩;dsimp only at hp hp1 hC⊢;refine AG (AG (AI (AC Z Z (AC Z Z ?_))))
    first | refine J (JL rfl Try.underlying49 rfl) ?_ | refine J (CG Z Z Try.underlying49 rfl) ?_ | refine J (JG rfl Try.underlying49 rfl) ?_ | refine J (JJ rfl Try.underlying49 rfl) ?_ | refine J (JF rfl Try.underlying49 rfl) ?_ | refine J (Ix rfl Try.underlying49 rfl) ?_
    first | refine J (Eo Z Z Z) ?_ | refine J (Ep Z Z Z) ?_
    refine AF ?_
    first | refine BG rfl (fun h32=>?_) (fun h32=>?_) | refine BB rfl (fun h32=>?_) (fun h32=>?_)
    ·refine An (AG (B9 (AG ?_)));have hpl:k+p<l.length:=by have:=h32;omega
     have hcl:=hC.len;have hcq:=hC.q1;refine Fh [[],[],[0,1],[0,1,2],[],[],[5],[4,5,6],[4,5,6,7],[0,1,2,3,4,5,6,7,8]] mixed rfl (EK ?_)
     first | refine AE [4] [] Z Z (fun _=>AB (Aa Z Z)) ?_ | refine AH [4] Z Z (fun _=>AB (Aa Z Z)) ?_
     first | refine AE [5] [] Z Z (fun _=>AB (Aa Z Z)) ?_ | refine AH [5] Z Z (fun _=>AB (Aa Z Z)) ?_
     first | refine AE [35,36] [] Z Z (fun _=>AB (EA p Z Z Z (by omega) Try.underlying49 DZ rfl)) ?_ | refine AH [35,36] Z Z (fun _=>AB (EA p Z Z Z (by omega) Try.underlying49 DZ rfl)) ?_
     first | refine AE [37] [] Z Z (fun _=>AB (Zcq (f:=40) (e:=k+p) (off:=0) rfl (by omega) rfl (D2 _ _ _) (DT (by omega)) rfl B8 rfl)) ?_ | refine AH [37] Z Z (fun _=>AB (Zcq (f:=40) (e:=k+p) (off:=0) rfl (by omega) rfl (D2 _ _ _) (DT (by omega)) rfl B8 rfl)) ?_
     first | refine AE [4] [] Z Z (fun _=>AB (Aa Z Z)) ?_ | refine AH [4] Z Z (fun _=>AB (Aa Z Z)) ?_
     first | refine AE [5] [] Z Z (fun _=>AB (Aa Z Z)) ?_ | refine AH [5] Z Z (fun _=>AB (Aa Z Z)) ?_
     first | refine AE [40] [] Z Z (fun _=>AB (DN Z Z (IntWalk.i64_in _ (by omega)) rfl)) ?_ | refine AH [40] Z Z (fun _=>AB (DN Z Z (IntWalk.i64_in _ (by omega)) rfl)) ?_
     first | refine AE [39,41] [] Z Z (fun _=>AB (EA (p - 1) Z Z (by omega) (by omega) Try.underlying49 DZ rfl)) ?_ | refine AH [39,41] Z Z (fun _=>AB (EA (p - 1) Z Z (by omega) (by omega) Try.underlying49 DZ rfl)) ?_
     first | refine AE [42] [] Z Z (fun _=>AB (Zcq (f:=40) (e:=k+p - 1) (off:=0) rfl (by omega) rfl (D2 _ _ _) (DT (by omega)) rfl B8 rfl)) ?_ | refine AH [42] Z Z (fun _=>AB (Zcq (f:=40) (e:=k+p - 1) (off:=0) rfl (by omega) rfl (D2 _ _ _) (DT (by omega)) rfl B8 rfl)) ?_
     refine EL 9 Z Z Z (B6 10 Z Z ?_)
     first | refine J (IH Z Z Z) ?_ | refine J (IG Z Z Z) ?_ | refine J (Hm Z Z Z) ?_ | refine J (IB Try.underlying3 Z Z Z) ?_ | refine J (ID Try.underlying3 Z Z Z) ?_ | refine J (st_neqN Try.underlying3 Z Z) ?_ | refine J (st_neqPr Try.underlying3 Z Z) ?_ | refine J (st_neqMz Try.underlying3 Z Z) ?_ | refine J (IC Try.underlying3 Z Z Z) ?_ | refine J (st_neqFN Try.underlying3 Z Z) ?_
     refine AF ⟨rfl,?_⟩;refine Es ?_
     first | refine BG rfl (fun h44=>?_) (fun h44=>?_) | refine BB rfl (fun h44=>?_) (fun h44=>?_)
     ·refine AG (AI (AC Z Z ?_));refine AC Z Z (AC Z Z (AC Z Z (J (EA p Z Z Z (by omega) Try.underlying49 DZ rfl) (J (Zcq (f:=40) (e:=k+p) (off:=0) rfl (by omega) rfl (D2 _ _ _) (DT (by omega)) rfl B8 rfl) (J (EB (q) Z Z (rfl) (by omega) Try.underlying49 DZ rfl) (U (Mf (f:=40) (off:=q*1) Z Z Z Z (D2 _ _ _) (by rw [List.length_map];omega) (Lh _) rfl DZ) (AF (AI ?_))))))));refine AC Z Z (J (DA Z Z (IntWalk.i64_in _ (by omega)) rfl) (AD Z Z (AF (AI (AC Z Z (J (DA Z Z (IntWalk.i64_in _ (by omega)) rfl) (AD Z Z (AF ?_))))))));exact ⟨(p+1,q+1,c.set q (CZ c (k+p))),⟨by show k+(p+1)≤_;omega,by show 1≤p+1;omega,hC.keep hpl (fun e=>h44 (congrArg Int.ofNat e))⟩,by show l.length - (k+(p+1))<l.length - (k+p);omega,BK hF [40] rfl (by rw [Lu,List.map_set,Nat.mul_one];rfl) ⟨rfl,rfl,rfl,rfl,trivial⟩⟩
     ·refine An (AI (AC Z Z (J (DA Z Z (IntWalk.i64_in _ (by omega)) rfl) (AD Z Z (AF ?_)))));exact ⟨(p+1,q,c),⟨by show k+(p+1)≤_;omega,by show 1≤p+1;omega,hC.drop hpl (Int.ofNat.inj (Classical.not_not.1 h44))⟩,by show l.length - (k+(p+1))<l.length - (k+p);omega,BK hF [40] rfl (rfl) ⟨rfl,rfl,rfl,rfl,trivial⟩⟩
    ·refine Eg (AG ?_);have hpe:k+p=l.length:=by have:=h32;omega
     have hcl:=hC.len;have hcq:=hC.q1;have htk:=hC.tk;rw [hpe] at htk;refine AI (AC Z Z (AC Z Z (J (HR q Z Z Z (by omega) (by omega) Try.underlying49 DZ rfl) (U (OH (f:=40) (xs:=c.map natD) Z Z (D2 _ _ _) (by omega) (by rw [List.length_map];omega) (Lh _) Try.underlying49 Try.zeroValue3 Z Z Z) (AF (AG ?_))))));have hqe:(Dt l l.length).length=q:=by rw [←htk,List.length_take];omega
     refine Om 40 b q rfl (by rw [Lu];exact D2 _ _ _) (by rw [NY,List.length_map];omega) rfl (AI (AC Z Z (AC Z Z (J (LO q Z Z Z (show q≤cap by omega) Try.underlying49 DZ rfl) (AD Z Z (AF (Ay ?_)))))));exact ⟨_,[40],_,Av rfl,rfl,rfl,by rw [hqe],by rw [Lu,Lu,Qd (by omega),htk,Lu]⟩
   ·refine An (AI (AC Z Z (J (DA Z Z (IntWalk.i64_in _ (by omega)) rfl) (AD Z Z (AF ?_)))));exact ⟨k+1,⟨by omega,hkl,by rw [Kt (.inr fun e=>h25 (congrArg Int.ofNat e)),hck,LK hkl]⟩,by omega,BK hF [40] rfl (rfl) ⟨rfl,rfl,trivial⟩⟩
  ·refine Eg (AG (AI (AC Z Z (AD Z Z (AF (Ay ?_))))));exact ⟨_,[40],_,Av rfl,rfl,rfl,by rw [show k=l.length by have:=h13;omega,List.take_length] at hck;rw [hck],by rw [show k=l.length by have:=h13;omega,List.take_length] at hck;rw [hck,HF hM]⟩
def Ck (l:List Nat):List Nat:=(D7 (l.map Int.ofNat)).map Int.toNat
theorem EV (l:List Nat):(Ck l).Perm l:=by
 have h:=(GE (l.map Int.ofNat)).map Int.toNat;rw [List.map_map] at h
 have e:l.map (Int.toNat∘Int.ofNat)=l:=by
  conv=>rhs;rw [←List.map_id l]
  exact List.map_congr_left fun x _=>rfl
 rwa [e] at h
theorem ED (l:List Nat):(Ck l).length=l.length:=(EV l).length_eq
theorem J5 (l:List Nat):(D7 (l.map Int.ofNat)).map zD=(Ck l).map natD:=by
 unfold Ck;rw [List.map_map];refine List.map_congr_left fun x hx=>?_;obtain ⟨y,_,rfl⟩:=List.mem_map.1 ((GE _).mem_iff.1 hx)
 rfl
theorem GX (l:List Nat):(Ck l).Pairwise (· ≤ ·):=by
 unfold Ck;rw [List.pairwise_map];exact (KZ (l.map Int.ofNat)).imp fun {a b} h=>Int.toNat_le_toNat h
theorem ofN_map (l:List Nat):l.map natD=(l.map Int.ofNat).map zD:=by rw [List.map_map];rfl
def GP (l:List Nat):List Nat:=Dt (Ck l) (Ck l).length
theorem cptS_le (l:List Nat):(GP l).length≤l.length:=by have:=cptK_le (Ck l) (Ck l).length;rw [ED] at this;unfold GP;rw [ED];exact this
theorem Q9:GP [] =[]:=by unfold GP;rw [List.length_eq_zero_iff.1 (ED [])];rfl
theorem Gn.put {M:MF} {n j b c:Nat} {hs:Nat ->Hd} {ls:Nat ->List Nat} (h:Gn M n hs ls) (hj:j<n) (hh:hs j=some (b,c)) {l:List Nat} (hl:l.length≤c):Gn (BL M b (.row 3 1 c (l.map natD))) n hs (Ak ls j l):=by
 refine ⟨fun k hk=>?_,h.inj⟩
 by_cases e:k=j
 ·subst e;rw [Dj,hh];exact ⟨by rw [List.length_map];exact hl,D2 _ _ _⟩
 ·rw [EP e];have h1:=h.at_ k hk
  match hk2:hs k,h1 with
  | none,h1=>exact h1
  | some (b',c'),h1=>exact ⟨h1.1,by rw [Dv fun e2=>e (h.inj k j b c' c hk hj (by rw [hk2,e2]) hh)];exact h1.2⟩
theorem hd_two (h:Hd):h=none∨∃b c,h=some (b,c):=by
 match h with
 | none=>exact .inl rfl
 | some (b,c)=>exact .inr ⟨b,c,rfl⟩
theorem D4 {α:Type} {f:Nat ->α} {i:Nat} {x:α} (h:f i=x):Ak f i x=f:=by
 funext j;unfold Ak;split
 ·rename_i e;rw [e,h]
 ·rfl
theorem Oi:AT Try.prog 73 [.d (.raw (.slice none 0 0))] [] fun r H'=>r= .d (.raw (.slice none 0 0))∧H'=[]:=by
 refine DY Try.func73 Z Z Try.ntmps73 Z Z Z fun F hF=>(AG (AI (AD Z Z (AF (AG (AG (AI (AC Z Z ?_))))))))
 first | refine J (JL rfl Try.underlying49 rfl) ?_ | refine J (CG Z Z Try.underlying49 rfl) ?_ | refine J (JG rfl Try.underlying49 rfl) ?_ | refine J (JJ rfl Try.underlying49 rfl) ?_ | refine J (JF rfl Try.underlying49 rfl) ?_ | refine J (Ix rfl Try.underlying49 rfl) ?_
 first | refine J (Eo Z Z Z) ?_ | refine J (Ep Z Z Z) ?_
 refine AF (Kx rfl (rfl) (AG (AI (AC Z Z (AD Z Z (AF (Ay ?_)))))));exact ⟨_,[],_,Av rfl,rfl,rfl,rfl,rfl⟩
theorem NO {l:List Nat} {c:Nat} (hc:l.length≤c) (hl:l.length≤1048576) (M:MF) (b:Nat):
  AT Try.prog 73 [.d (.raw (sV b l.length c))] [(40,[.multi (BL M b (.row 3 1 c ((Ck l).map natD)))])] fun r H'=>r= .d (.raw (sV b (GP l).length c))∧H'=[(40,[.multi (BL (BL M b (.row 3 1 c ((Ck l).map natD))) b (.row 3 1 c ((GP l).map natD)))])]:=by
 have hn:=ED l;have h:=Oh (Ck l) b c (BL M b (.row 3 1 c ((Ck l).map natD))) (by omega) (by omega) (D2 _ _ _);rw [show (sV b (Ck l).length c)=sV b l.length c by rw [hn]] at h;exact h
end Go.Proofs.Ytlmedakidpaeeaa
/- The kit's contract of slices.Sort at strings, over an owned row and over a row of a region. No program in sight. -/
namespace Go.Proofs.Ytlmedakidpaeeaa
open Go.RowKit Go.Shelf
open Go.Sort (putRow Holds putCells)
def Cj (l:List St):List St:=l.mergeSort fun x y=>decide (x≤y)
theorem GD (l:List St):(Cj l).Perm l:=List.mergeSort_perm l _
theorem DJ (l:List St):(Cj l).length=l.length:=(GD l).length_eq
theorem PN (l:List St):(Cj l).Pairwise (· ≤ ·):=by
 have:=List.pairwise_mergeSort (le:=fun x y:St=>decide (x≤y)) (fun a b c h1 h2=>by simp only [decide_eq_true_eq] at*;exact List.le_trans h1 h2) (fun a b=>by simp only [Bool.or_eq_true,decide_eq_true_eq];exact List.le_total a b) l;exact this.imp fun h=>by simpa using h
theorem OK {l:List St} (h:l.Nodup):Gm (Cj l):=by
 have h1:=(GD l).nodup_iff.2 h;exact (List.Pairwise.and (PN l) h1).imp fun ⟨h2,h3⟩=>Classical.byContradiction fun h4=>h3 (List.le_antisymm h2 (List.not_lt.1 h4))
theorem Gv {l m:List St} (h:l.Nodup) (hm:Gm m) (he:∀x,x∈l↔x∈m):Cj l=m:=
 KY (OK h) hm fun x=>((GD l).mem_iff).trans (he x)
variable {P:Program} {ρr:Ren}
theorem LN (L:SlLaysN.n54 P ρr) {E:TypeId} {g54:FuncId} (xs:List (List UInt8)) (hsz:xs.length<4611686018427387904) {F:Fr} {s:AS} {d:Nat} {x:Operand} {ty:TypeId} {pos:String} {aft:Array Edge} {gd:Option (Nat×Bool)} {at_:Array TypeId} {f n:Nat} {row:List D} {hp':Hp}
  (hg:ρr.f 54=g54) (hx:s.ev x=some (.own f 0 n)) (ho:hget s.hp f 0=some (.rowD E 1 row)) (hrow:row=xs.map AU) (hn:n=xs.length) (hh:Ap s.hp f 0 (.rowD E 1 ((Cj xs).map AU))=some hp') (hd:Nat.blt d s.n=true):
  AN P F ⟨some d,.call {callee:= .value (.func g54),args:= #[x],argTypes:=at_},ty,pos,aft,gd⟩ s ⟨s.n,(d,.d (.tup []))::s.env,hp'⟩ (fun _ _=>true):=by
 subst hg hrow hn;intro ρ act w hs
 obtain ⟨fn6,hf1,hf2,hf3⟩:∃fn,P.funcs[ρr.f 54]?=some fn∧(fn.name== "runtime.NumGoroutine")=false∧fn.body.isSome=true:=by
  obtain ⟨nm,hn,hf⟩:=L.f54;exact ⟨_,hf,hn,rfl⟩
 unfold Oper.wp;rw [show (#[x]:Array Operand)=[x].toArray from rfl,Cn hf1 hf2 hf3,Oper.upon_enter]
 suffices key:Calls P (ρr.f 54) ([x].map act.eval).toArray w fun e w'=>e= .returned (.tuple #[])∧SR F ⟨s.n,s.env,hp'⟩ ρ act w' by
  refine key.mono fun e w' ⟨e1,hsr⟩=>?_;subst e1;exact ⟨ρ,hsr.put (Fs hd) (.d (.tup rfl fun i c v hc=>by cases hc)),fun _ _ _=>rfl⟩
 have r0:=hs.ev hx;have hg0:=ho;have h3:=hs.heap;have hset:=Af hh;obtain ⟨us,q1,q2,q3⟩:=h3.sim f 0 _ hg0;show Calls P (ρr.f 54) #[act.eval x] w _
 generalize act.eval x=V0 at r0
 cases r0 with
 | own hρ hle=>
  rename_i N cap a
  by_cases hx:xs=[]
  ·subst hx;refine (AnyG.slices_Sort_string_none L a cap w).mono fun e w' ⟨e1,e2⟩=>?_;subst e1 e2;refine ⟨rfl,hs.writeG f 0 _ _ ho hset Z Z Z (Nat.le_refl _) (Nat.le_refl _) (fun _ _ _=>rfl) (fun _ _ e=>by cases e) fun hrep=>?_⟩;have h0:Cj [] =[]:=by simp [Cj]
   rw [h0];exact ⟨us,q1,⟨by simpa using q2.1,fun x hx=>(by cases hx),fun i x hx=>by simp at hx⟩,fun x hx=>(by cases hx)⟩
  ·have hn:0<xs.length:=List.length_pos_iff.2 hx;have hul:us.length=xs.length:=by have:=q2.1;rw [List.length_map] at this;omega
   have hblkeq:∃b cur,a=some ⟨b,0,none⟩∧w.heap[b]?=some (.cells cur E (0,0))∧cur.size=cap∧xs.length≤cap∧cap≤maxLen∧cur.toList.take xs.length=us∧N=xs.length:=by
    rcases q1.2 with ⟨_,h⟩ | ⟨b,cap',cur,e1,_,e2,e3,e4,e5,e6⟩
    ·rw [List.length_map] at h;omega
    ·rw [hρ] at e1;injection e1 with e1 e7 e8
     subst e1 e8;rw [List.length_map] at e3 e6 e7;exact ⟨b,cur,rfl,e2,by omega,e3,e4,by rw [Nat.mul_one] at e6;exact e6,e7⟩
   obtain ⟨b,cur,rfl,p1,p2,p3,p3',p4,rfl⟩:=hblkeq;have hb:BF (ρ f 0)=some b:=by rw [hρ];rfl
   have hlt:b<w.heap.size:=(Array.getElem?_eq_some_iff.1 p1).1
   have hus:∀i (hi:i<xs.length),us[i]?=some (encStr xs[i]):=fun i hi=>by
    have hm:(xs.map AU)[i]?=some (AU xs[i]):=by rw [List.getElem?_map,List.getElem?_eq_getElem hi];rfl
    obtain ⟨u,hu,_,hr⟩:=q2.2.2 i _ hm 0 (AU xs[i]) rfl;rw [Nat.mul_one,Nat.add_zero] at hu
    cases hr with
    | raw _=>exact hu
   have hH:Holds encStr w b 0 xs.toArray:=by
    intro j hj;have hj:j<xs.length:=by simpa using hj
    refine ⟨?_,?_⟩
    ·have hju:us[j]?=cur.toList[j]?:=by rw [←p4,List.getElem?_take_of_lt hj]
     simp only [World.cell?,p1,Nat.zero_add];have h1:=hus j hj;rw [hju] at h1;rw [getElem!_pos _ j (by simpa using hj)];have hjc:j<cur.size:=by simpa using (List.getElem?_eq_some_iff.1 h1).1
     simp only [List.getElem_toArray]
     simp [hjc] at h1⊢
     exact h1
    ·simp only [World.frozen?,p1];simp
   have key:=AnyG.slices_Sort_string L b 0 cap xs w hH hlt hsz;refine key.mono fun e w' ⟨e1,nd,os,hw⟩=>?_;subst e1 hw
   obtain ⟨ys,hys⟩:∃ys,Cj xs=ys:=⟨_,rfl⟩
   have hys':(xs.mergeSort fun x y=>decide (x≤y))=ys:=hys;have hyl:ys.length=xs.length:=by rw [←hys,DJ]
   rw [hys] at hset hh;rw [hys'];refine ⟨rfl,?_⟩;have hsz2:((putRow encStr (Go.Sort.ahead w nd) b 0 ys.toArray)).heap.size=w.heap.size:=by rw [Go.Sort.size_putRow];rfl
   have hoth:∀b',b'<w.heap.size ->b'≠b ->(Go.Sort.grow (putRow encStr (Go.Sort.ahead w nd) b 0 ys.toArray) os).heap[b']?=w.heap[b']?:=fun b' hl hne=>by
    rw [Go.Sort.heap_grow_old _ _ (by rw [hsz2];exact hl)];show (w.heap.modify b _)[b']?=_;rw [Array.getElem?_modify,if_neg (Ne.symm hne)]
   refine hs.writeG f 0 _ _ ho hset Z Z Z (by rw [Go.Sort.size_grow,hsz2];exact Nat.le_add_right _ _) (Nat.le_add_right _ _) (fun b' hl hno=>hoth b' hl (fun e=>hno (by rw [e];exact hb))) (fun _ _ e=>by cases e) fun hrep=>?_
   have hheap:(Go.Sort.grow (putRow encStr (Go.Sort.ahead w nd) b 0 ys.toArray) os).heap[b]?=some (.cells (putCells encStr 0 ys.toArray cur) E (0,0)):=by
    rw [Go.Sort.heap_grow_old _ _ (by rw [hsz2];exact hlt)];show (w.heap.modify b _)[b]?=_;rw [Array.getElem?_modify,if_pos rfl,p1];rfl
   have hcs:(putCells encStr 0 ys.toArray cur).size=cap:=by simp only [putCells,Array.size_mapIdx];exact p2
   have hyl2:(ys.map AU).length=xs.length:=by rw [List.length_map,hyl]
   refine ⟨ys.map encStr,⟨by rw [List.length_map,hyl2,hyl,Nat.mul_one],.inr ⟨b,cap,_,by rw [hρ,hyl2],Nat.zero_le _,hheap,by rw [hyl2];exact p3,p3',by omega,?_⟩⟩,⟨by rw [List.length_map,hyl2,hyl,Nat.mul_one],fun x hx2=>?_,fun i x hx2 j c hc2=>?_⟩,fun x hx2 c hc2=>?_⟩
   ·rw [hyl2,Nat.mul_one]
    apply List.ext_getElem?
    intro i
    by_cases hi:i<xs.length
    ·rw [List.getElem?_take_of_lt hi,Array.getElem?_toList,List.getElem?_map,List.getElem?_eq_getElem (by omega),Array.getElem?_eq_getElem (by omega)];simp only [putCells,Array.getElem_mapIdx];rw [if_pos ⟨Nat.zero_le _,by simp;omega⟩];simp only [Nat.sub_zero,Option.map_some];rw [getElem!_pos _ i (by simp;omega)]
     simp
    ·rw [List.getElem?_eq_none (by rw [List.length_take];omega),List.getElem?_eq_none (by rw [List.length_map];omega)]
   ·obtain ⟨y,_,rfl⟩:=List.mem_map.1 hx2;rfl
   ·rw [List.getElem?_map] at hx2
    cases hyi:ys[i]? with
    | none=>rw [hyi] at hx2;cases hx2
    | some y=>
     rw [hyi] at hx2;injection hx2 with hx2;subst hx2
     have hj0:j=0:=by have:=(List.getElem?_eq_some_iff.1 hc2).1;simp [D.cells] at this;exact this
     subst hj0;simp only [D.cells,List.getElem?_cons_zero,Option.some.injEq] at hc2;subst hc2;exact ⟨encStr y,by rw [Nat.mul_one,Nat.add_zero,List.getElem?_map,hyi];rfl,rfl,.raw rfl⟩
   ·obtain ⟨y,_,rfl⟩:=List.mem_map.1 hx2;simp only [D.cells,List.mem_singleton] at hc2;subst hc2;rfl
theorem OB (L:SlLaysN.n54 P ρr) {E:TypeId} {g54:FuncId} (xs:List (List UInt8)) (hsz:xs.length<4611686018427387904) {F:Fr} {s:AS} {d:Nat} {x:Operand} {ty:TypeId} {pos:String} {aft:Array Edge} {gd:Option (Nat×Bool)} {at_:Array TypeId} {f b cap n:Nat} {M:MF} {row:List D} {hp':Hp}
  (hg:ρr.f 54=g54) (hM:hfam s.hp f=some [.multi M]) (hx:s.ev x=some (.d (.raw (sV b n cap)))) (hb:M b=some (.row E 1 cap row)) (hrow:row=xs.map AU) (hn:n=xs.length) (hh:At s.hp f (BL M b (.row E 1 cap ((Cj xs).map AU)))=some hp') (hd:Nat.blt d s.n=true):
  AN P F ⟨some d,.call {callee:= .value (.func g54),args:= #[x],argTypes:=at_},ty,pos,aft,gd⟩ s ⟨s.n,(d,.d (.tup []))::s.env,hp'⟩ (fun _ _=>true):=by
 subst hg hrow hn;intro ρ act w hs
 obtain ⟨fn6,hf1,hf2,hf3⟩:∃fn,P.funcs[ρr.f 54]?=some fn∧(fn.name== "runtime.NumGoroutine")=false∧fn.body.isSome=true:=by
  obtain ⟨nm,hn,hf⟩:=L.f54;exact ⟨_,hf,hn,rfl⟩
 unfold Oper.wp;rw [show (#[x]:Array Operand)=[x].toArray from rfl,Cn hf1 hf2 hf3,Oper.upon_enter]
 suffices key:Calls P (ρr.f 54) ([x].map act.eval).toArray w fun e w'=>e= .returned (.tuple #[])∧SR F ⟨s.n,s.env,hp'⟩ ρ act w' by
  refine key.mono fun e w' ⟨e1,hsr⟩=>?_;subst e1;exact ⟨ρ,hsr.put (Fs hd) (.d (.tup rfl fun i c v hc=>by cases hc)),fun _ _ _=>rfl⟩
 have r0:=hs.raw hx;obtain ⟨hρ,us,q1,q2,q3⟩:=hs.rowN hM hb;show Calls P (ρr.f 54) #[act.eval x] w _;rw [r0]
 by_cases hxs:xs=[]
 ·subst hxs;refine (AnyG.slices_Sort_string_none L (some ⟨b,0,none⟩) cap w).mono fun e w' ⟨e1,e2⟩=>?_;subst e1 e2;have h0:Cj [] =[]:=by simp [Cj]
  rw [h0] at hh;exact ⟨rfl,hs.shrinkN f b 0 hM hb (Nat.zero_le _) hh⟩
 have hn:0<xs.length:=List.length_pos_iff.2 hxs
 obtain ⟨cur,p1,p2,p3,p3',p4⟩:∃cur,w.heap[b]?=some (.cells cur E (0,0))∧cur.size=cap∧xs.length≤cap∧cap≤maxLen∧cur.toList.take xs.length=us:=by
  rcases q1.2 with ⟨_,h⟩ | ⟨b',cap',cur,e1,_,e2,e3,e4,e5,e6⟩
  ·rw [List.length_map] at h;omega
  ·rw [List.length_map] at e1;injection e1 with e1 e7 e8
   injection e1 with e1
   injection e1 with e1
   subst e1 e8;rw [List.length_map] at e3 e6;exact ⟨cur,e2,by omega,e3,e4,by rwa [Nat.mul_one] at e6⟩
 have hlt:b<w.heap.size:=(Array.getElem?_eq_some_iff.1 p1).1
 have hus:∀i (hi:i<xs.length),us[i]?=some (encStr xs[i]):=fun i hi=>by
  have hm:(xs.map AU)[i]?=some (AU xs[i]):=by rw [List.getElem?_map,List.getElem?_eq_getElem hi];rfl
  obtain ⟨u,hu,_,hr⟩:=q2.2.2 i _ hm 0 (AU xs[i]) rfl;rw [Nat.mul_one,Nat.add_zero] at hu
  cases hr with
  | raw _=>exact hu
 have hH:Holds encStr w b 0 xs.toArray:=by
  intro j hj;have hj:j<xs.length:=by simpa using hj
  refine ⟨?_,?_⟩
  ·have hju:us[j]?=cur.toList[j]?:=by rw [←p4,List.getElem?_take_of_lt hj]
   simp only [World.cell?,p1,Nat.zero_add];have h1:=hus j hj;rw [hju] at h1;rw [getElem!_pos _ j (by simpa using hj)];have hjc:j<cur.size:=by simpa using (List.getElem?_eq_some_iff.1 h1).1
   simp only [List.getElem_toArray]
   simp [hjc] at h1⊢
   exact h1
  ·simp only [World.frozen?,p1];simp
 have key:=AnyG.slices_Sort_string L b 0 cap xs w hH hlt hsz;refine key.mono fun e w' ⟨e1,nd,os,hw⟩=>?_;subst e1 hw
 obtain ⟨ys,hys⟩:∃ys,Cj xs=ys:=⟨_,rfl⟩
 have hys':(xs.mergeSort fun x y=>decide (x≤y))=ys:=hys;have hyl:ys.length=xs.length:=by rw [←hys,DJ]
 rw [hys] at hh;rw [hys'];refine ⟨rfl,?_⟩;have hsz2:((putRow encStr (Go.Sort.ahead w nd) b 0 ys.toArray)).heap.size=w.heap.size:=by rw [Go.Sort.size_putRow];rfl
 have hoth:∀b',b'<w.heap.size ->b'≠b ->(Go.Sort.grow (putRow encStr (Go.Sort.ahead w nd) b 0 ys.toArray) os).heap[b']?=w.heap[b']?:=fun b' hl hne=>by
  rw [Go.Sort.heap_grow_old _ _ (by rw [hsz2];exact hl)];show (w.heap.modify b _)[b']?=_;rw [Array.getElem?_modify,if_neg (Ne.symm hne)]
 have hset:∀g i,hget hp' g i=if g=f∧i=b then some (.nr b E 1 cap (ys.map AU)) else hget s.hp g i:=fun g i=>by
  rw [Bi hh]
  by_cases e:g=f
  ·subst e;rw [if_pos rfl,Du hM]
   by_cases e2:i=b
   ·subst e2;rw [if_pos ⟨rfl,rfl⟩,D2];rfl
   ·rw [if_neg (fun h=>e2 h.2),Dv e2]
  ·rw [if_neg e,if_neg (fun h=>e h.1)]
 refine hs.writeG f b (.nr b E 1 cap (xs.map AU)) (.nr b E 1 cap (ys.map AU)) (by rw [Du hM,hb];rfl) hset Z Z Z (by rw [Go.Sort.size_grow,hsz2];exact Nat.le_add_right _ _) (Nat.le_add_right _ _) (fun b' hl hno=>hoth b' hl (fun e=>hno (by rw [e,hρ];rfl))) (fun _ _ e=>by cases e) fun hrep=>?_
 have hheap:(Go.Sort.grow (putRow encStr (Go.Sort.ahead w nd) b 0 ys.toArray) os).heap[b]?=some (.cells (putCells encStr 0 ys.toArray cur) E (0,0)):=by
  rw [Go.Sort.heap_grow_old _ _ (by rw [hsz2];exact hlt)];show (w.heap.modify b _)[b]?=_;rw [Array.getElem?_modify,if_pos rfl,p1];rfl
 have hcs:(putCells encStr 0 ys.toArray cur).size=cap:=by simp only [putCells,Array.size_mapIdx];exact p2
 have hyl2:(ys.map AU).length=xs.length:=by rw [List.length_map,hyl]
 refine ⟨hρ,ys.map encStr,⟨by rw [List.length_map,hyl2,hyl,Nat.mul_one],.inr ⟨b,cap,_,by rw [hyl2],Nat.zero_le _,hheap,by rw [hyl2];exact p3,p3',by omega,?_⟩⟩,⟨by rw [List.length_map,hyl2,hyl,Nat.mul_one],fun x hx2=>?_,fun i x hx2 j c hc2=>?_⟩,fun x hx2 c hc2=>?_⟩
 ·rw [hyl2,Nat.mul_one]
  apply List.ext_getElem?
  intro i
  by_cases hi:i<xs.length
  ·rw [List.getElem?_take_of_lt hi,Array.getElem?_toList,List.getElem?_map,List.getElem?_eq_getElem (by omega),Array.getElem?_eq_getElem (by omega)];simp only [putCells,Array.getElem_mapIdx];rw [if_pos ⟨Nat.zero_le _,by simp;omega⟩];simp only [Nat.sub_zero,Option.map_some];rw [getElem!_pos _ i (by simp;omega)]
   simp
  ·rw [List.getElem?_eq_none (by rw [List.length_take];omega),List.getElem?_eq_none (by rw [List.length_map];omega)]
 ·obtain ⟨y,_,rfl⟩:=List.mem_map.1 hx2;rfl
 ·rw [List.getElem?_map] at hx2
  cases hyi:ys[i]? with
  | none=>rw [hyi] at hx2;cases hx2
  | some y=>
   rw [hyi] at hx2;injection hx2 with hx2;subst hx2
   have hj0:j=0:=by have:=(List.getElem?_eq_some_iff.1 hc2).1;simp [D.cells] at this;exact this
   subst hj0;simp only [D.cells,List.getElem?_cons_zero,Option.some.injEq] at hc2;subst hc2;exact ⟨encStr y,by rw [Nat.mul_one,Nat.add_zero,List.getElem?_map,hyi];rfl,rfl,.raw rfl⟩
 ·obtain ⟨y,_,rfl⟩:=List.mem_map.1 hx2;simp only [D.cells,List.mem_singleton] at hc2;subst hc2;rfl
end Go.Proofs.Ytlmedakidpaeeaa
/- Layer 27: rows of strings that grow, in memory. -/
namespace Go.Proofs.Ytlmedakidpaeeaa
open Go.RowKit
set_option maxRecDepth 100000
abbrev stsD (l:List St):D:= .sl none (l.map AU)
structure LF (M:MF) (n:Nat) (hs:Nat ->Hd) (ls:Nat ->List St):Prop where
 at_:∀j,j<n ->Jb M (hs j) 9 1 ((ls j).map AU)
 inj:∀j k b c c',j<n ->k<n ->hs j=some (b,c) ->hs k=some (b,c') ->j=k
abbrev rowS (n:Nat) (hs:Nat ->Hd) (ls:Nat ->List St):List D:=(List.range n).map fun j=>hdr (hs j) (ls j).length
theorem Ez {n j:Nat} {hs:Nat ->Hd} {ls:Nat ->List St} (h:j<n):(rowS n hs ls)[j]?=some (hdr (hs j) (ls j).length):=by simp [h]
theorem Qq (n:Nat) (hs:Nat ->Hd) (ls:Nat ->List St):(rowS n hs ls).length=n:=by simp
theorem PR {n j:Nat} {hs:Nat ->Hd} {ls:Nat ->List St} {h:Hd} {l:List St}:(rowS n hs ls).set j (hdr h l.length)=rowS n (Ak hs j h) (Ak ls j l):=
 Hr (fun i _ hne=>by rw [EP hne,EP hne]) (by rw [Dj,Dj])
theorem LF.zero (n:Nat):LF (fun _=>none) n (fun _=>none) (fun _=> []):=⟨fun _ _=>rfl,fun _ _ _ _ _ _ _ h=>by cases h⟩
theorem LF.app {M:MF} {n j:Nat} {hs:Nat ->Hd} {ls:Nat ->List St} (h:LF M n hs ls) (hj:j<n) {l:List St} {b c:Nat} (hb:DB M (hs j) b=none) (hc:(l.map AU).length≤c):
  LF (BL (DB M (hs j)) b (.row 9 1 c (l.map AU))) n (Ak hs j (some (b,c))) (Ak ls j l):=by
 have hne:∀k,k<n ->k≠j ->∀b' c',hs k=some (b',c') ->b'≠b∧BL (DB M (hs j)) b (.row 9 1 c (l.map AU)) b'=M b':=by
  intro k hk hkj b' c' e;have h1:=h.at_ k hk;rw [e] at h1;have h2:∀c'',hs j≠some (b',c''):=fun c'' e2=>hkj (h.inj k j b' c' c'' hk hj e e2);refine ⟨fun e3=>?_,?_⟩
  ·subst e3;have:=E5 h1.2 h2;rw [hb] at this;cases this
  ·rw [QL hb h1.2 h2,h1.2]
 refine ⟨fun k hk=>?_,fun k k' b1 c1 c2 hk hk' e1 e2=>?_⟩
 ·by_cases e:k=j
  ·subst e;rw [Dj,Dj];exact ⟨hc,D2 _ _ _⟩
  ·rw [EP e,EP e];have h1:=h.at_ k hk
   match hh:hs k,h1 with
   | none,h1=>exact h1
   | some (b',c'),h1=>exact ⟨h1.1,by rw [(hne k hk e b' c' hh).2];exact h1.2⟩
 ·by_cases ek:k=j<;>by_cases ek':k'=j
  ·rw [ek,ek']
  ·subst ek;rw [Dj] at e1;rw [EP ek'] at e2;injection e1 with e1;injection e1 with e1 _;subst e1
   exact ((hne k' hk' ek' _ _ e2).1 rfl).elim
  ·subst ek';rw [Dj] at e2;rw [EP ek] at e1;injection e2 with e2;injection e2 with e2 _;subst e2
   exact ((hne k hk ek _ _ e1).1 rfl).elim
  ·rw [EP ek] at e1;rw [EP ek'] at e2;exact h.inj k k' b1 c1 c2 hk hk' e1 e2
theorem LF.put {M:MF} {n j b c:Nat} {hs:Nat ->Hd} {ls:Nat ->List St} (h:LF M n hs ls) (hj:j<n) (hh:hs j=some (b,c)) {l:List St} (hl:l.length≤c):LF (BL M b (.row 9 1 c (l.map AU))) n hs (Ak ls j l):=by
 refine ⟨fun k hk=>?_,h.inj⟩
 by_cases e:k=j
 ·subst e;rw [Dj,hh];exact ⟨by rw [List.length_map];exact hl,D2 _ _ _⟩
 ·rw [EP e];have h1:=h.at_ k hk
  match hk2:hs k,h1 with
  | none,h1=>exact h1
  | some (b',c'),h1=>exact ⟨h1.1,by rw [Dv fun e2=>e (h.inj k j b c' c hk hj (by rw [hk2,e2]) hh)];exact h1.2⟩
theorem I6 (n:Nat) (hs:Nat ->Hd) (ls:Nat ->List St):∀x∈rowS n hs ls,x.one=true:=fun x hx=>by
 obtain ⟨a,_,rfl⟩:=List.mem_map.1 hx;rfl
def OO (n:Nat) (ls:Nat ->List St):List (List St):=(List.range n).map ls
theorem N5 (n:Nat) (ls:Nat ->List St):(OO n ls).length=n:=by simp [OO]
theorem N6 {n i:Nat} {ls:Nat ->List St} (h:i<n):(OO n ls)[i]?=some (ls i):=by simp [OO,h]
theorem LF.melt {M:MF} {n:Nat} {hs:Nat ->Hd} {ls:Nat ->List St} (h:LF M n hs ls):∀(j:Nat) x y,(rowS n hs ls)[j]?=some x ->((OO n ls).map stsD)[j]?=some y ->M9 M x y:=by
 intro j x y hx hy;have hj:j<n:=by have:=(List.getElem?_eq_some_iff.1 hx).1;rwa [Qq] at this
 rw [Ez hj] at hx;injection hx with hx
 rw [List.getElem?_map,N6 hj] at hy;injection hy with hy
 subst hx hy;exact .inr ⟨hs j,9,(ls j).map AU,by rw [List.length_map],h.at_ j hj,fun z hz=>by obtain ⟨a,_,rfl⟩:=List.mem_map.1 hz;rfl,rfl⟩
theorem one_sts (g:List (List St)):∀x∈g.map stsD,x.one=true:=fun x hx=>by
 obtain ⟨a,_,rfl⟩:=List.mem_map.1 hx;rfl
section
variable {P:Program} {F:Fr} {s:AS} {d:Nat} {ty T T' E K:TypeId} {pos:String} {aft:Array Edge} {g:Option (Nat×Bool)} {x:Operand}
theorem FW {p:Option Addr} (hT:P.underlying T=some (.pointer E)) (hx:s.ev x=some (.d (.raw (.pointer p)))) (hd:Nat.blt d s.n=true):AA P F ⟨some d,.binOp .eql T x (.const (.pointer none)) T',ty,pos,aft,g⟩ s d (.d (.raw (.bool p.isNone))):=
 Bl _ hd fun ρ act w hs=>by
  have hv:=hs.raw hx;have hp:P.pointee T=E:=by unfold Program.pointee;rw [hT]
  have hc:act.eval (.const (.pointer none))= .pointer none:=rfl;exact ⟨.bool p.isNone,by simp [execOp,hv,hc,FH,binOp,run_equal_pointer_nil w T p (by rw [hp];exact hT)],.d (.raw rfl)⟩
theorem FV {m:Nat} (hT:P.underlying T=some (.map K E)) (hx:s.ev x=some (.d (.raw (.map (some m))))) (hd:Nat.blt d s.n=true):AA P F ⟨some d,.binOp .eql T x (.const (.map none)) T',ty,pos,aft,g⟩ s d (.d (.raw (.bool false))):=
 Bl _ hd fun ρ act w hs=>by
  have hv:=hs.raw hx;have hc:act.eval (.const (.map none))= .map none:=rfl;exact ⟨.bool false,by simp [execOp,hv,hc,eqGuard,binOp,run_equal_map_nil w T K E (some m) hT],.d (.raw rfl)⟩
end
structure Lk where
 t:Int
 r:St
deriving instance DecidableEq for Lk
theorem Lk.eq_iff {a b:Lk}:a=b↔a.t=b.t∧a.r=b.r:=by cases a;cases b;simp
abbrev lkD (l:Lk):D:= .agg [Bt l.t,AU l.r]
def lkC (l:Lk):List Value:=[.int .i64 l.t,KS l.r]
abbrev lkT:List TypeDesc:=[.int .i64,.string]
theorem In (a b:Int):Io (.int .i64 a) (.int .i64 b)=decide (a=b):=by
 simp only [Io];exact Bool.beq_eq_decide_eq a b
theorem Im (a b:List UInt8):Io (KS a) (KS b)=decide (a=b):=by
 simp only [Io,KS,←beq_toListBytes,KE]
theorem lk_eqC (a b:Lk):Ax (lkC a) (lkC b)=decide (a=b):=by
 simp only [lkC,Ax,In,Im,Lk.eq_iff,Bool.and_true,Bool.decide_and,Bool.and_assoc]
theorem DO {d:TypeDesc} {ds:List TypeDesc} {u:Value} {us:List Value} (h:MapKept.IsKey d u) (hr:Al ds us):Al (d::ds) (u::us):=
 ⟨by simp [hr.1],fun i d' u' hd hu=>by
  cases i with
  | zero=>simp at hd hu;subst hd hu;exact h
  | succ i=>exact hr.2 i d' u' (by simpa using hd) (by simpa using hu)⟩
theorem Jg:Al [] []:=⟨rfl,by simp⟩
theorem QF (a:Lk):Al lkT (lkC a):=DO rfl (DO trivial Jg)
theorem lk_val (a:Lk):(lkD a).val?=some (.agg (lkC a).toArray):=rfl
theorem Ib:BJ Try.prog 39 lkD (fun a=> .agg (lkC a).toArray):=BJ.flat (ds:=lkT) (by kernel_rfl) (by kernel_rfl) lk_val QF lk_eqC
abbrev hD (h:Option Nat):D:= .raw (.map h)
abbrev eE (E:List (St×Nat)):List (St×Option Nat):=E.map fun p=>(p.1,some p.2)
abbrev Dp (l:List Lk):List (Lk×Bool):=l.map fun x=>(x,true)
abbrev Cx (E:List (St×Nat)):List (D×D):=Ac AU hD (eE E)
abbrev Dl (l:List Lk):List (D×D):=Ac lkD Ar (Dp l)
structure LR (M:MF) (b m:Nat) (E:List (St×Nat)) (lk:Nat ->List Lk):Prop where
 cell:M b=some (.cells 68 [mD m])
 top:M m=some (.map none (Cx E))
 sub:∀p∈E,M p.2=some (.map none (Dl (lk p.2)))
 nd:(E.map Prod.snd).Nodup
 ne:m∉E.map Prod.snd
structure LW (E:List (St×Nat)) (lk:Nat ->List Lk) (w:Ws):Prop where
 kd:(E.map Prod.fst).Nodup
 ks:∀x,x∈E.map Prod.fst↔x∈w.R
 ld:∀p∈E,(lk p.2).Nodup
 ls:∀p∈E,∀l:Lk,l∈lk p.2↔(⟨p.1,l.t,l.r⟩:Lw)∈w.K
def B7 (M:MF) (b:Nat) (w:Ws):Prop:=∃m E lk,LR M b m E lk∧LW E lk w
theorem LW.len {E:List (St×Nat)} {lk:Nat ->List Lk} {w:Ws} (h:LW E lk w) (hw:Ba w):E.length=w.R.length:=by
 have:=((List.perm_ext_iff_of_nodup h.kd (EC hw.srt)).2 h.ks).length_eq
 rwa [List.length_map] at this
theorem Ip (E:List (St×Nat)):(eE E).map Prod.fst=E.map Prod.fst:=by rw [List.map_map];rfl
theorem LW.has {E:List (St×Nat)} {lk:Nat ->List Lk} {w:Ws} (h:LW E lk w) (x:St):He (eE E) x=decide (x∈w.R):=by
 rw [Bool.eq_iff_iff,Cs,Ip,decide_eq_true_eq];exact h.ks x
theorem Bk {E:List (St×Nat)} (hd:(E.map Prod.fst).Nodup) {x:St} {h:Nat} (hm:(x,h)∈E):CN (eE E) x none=some h:=
 HU (by rw [Ip];exact hd) (List.mem_map.2 ⟨(x,h),hm,rfl⟩)
theorem eE_none {E:List (St×Nat)} {x:St} (hm:x∉E.map Prod.fst):CN (eE E) x none=none:=Jo (by rw [Ip];exact hm)
theorem LW.at {E:List (St×Nat)} {lk:Nat ->List Lk} {w:Ws} (h:LW E lk w) {x:St} (hx:x∈w.R):∃n,(x,n)∈E:=by
 obtain ⟨p,hp,e⟩:=List.mem_map.1 ((h.ks x).2 hx);exact ⟨p.2,by rw [←e];exact hp⟩
theorem Kc (l:List Lk) (a:Lk):CN (Dp l) a false=decide (a∈l):=by
 induction l with
 | nil=>rfl
 | cons x r ih=>
  show (if a=x then true else CN (Dp r) a false)=_
  by_cases e:a=x
  ·simp [e]
  ·simp [e,ih]
theorem Kb {l:List Lk} {a:Lk} (h:a∉l):Be (Dp l) a true=Dp (l++ [a]):=by
 induction l with
 | nil=>rfl
 | cons x r ih=>
  have hx:a≠x:=fun e=>h (by rw [e];simp);show (if a=x then (x,true)::Dp r else (x,true)::Be (Dp r) a true)=_;rw [if_neg hx,ih fun h'=>h (List.mem_cons_of_mem _ h')]
  rfl
theorem Hv {l:List Lk} {a:Lk} (hn:l.Nodup):Mz (Dp l) a=Dp (l.filter fun x=>!decide (x=a)):=by
 unfold Mz
 induction l with
 | nil=>rfl
 | cons x r ih=>
  obtain ⟨h1,h2⟩:=List.nodup_cons.1 hn;show List.eraseIdx ((x,true)::Dp r) (if a=x then 0 else D0 (Dp r) a+1)=_
  by_cases e:a=x
  ·subst e;rw [if_pos rfl,List.filter_cons,List.filter_eq_self.2 fun y hy=>by simp;rintro rfl;exact h1 hy]
   simp
  ·have e':¬x=a:=fun h=>e h.symm;rw [if_neg e,List.eraseIdx_cons_succ,ih h2,List.filter_cons]
   simp [e']
theorem QY {E:List (St×Nat)} {x:St} {h:Nat} (hx:x∉E.map Prod.fst):Be (eE E) x (some h)=eE (E++ [(x,h)]):=by
 induction E with
 | nil=>rfl
 | cons p r ih=>
  have h1:x≠p.1:=fun e=>hx (by rw [e];simp);show (if x=p.1 then (p.1,some h)::eE r else (p.1,some p.2)::Be (eE r) x (some h))=_;rw [if_neg h1,ih fun h'=>hx (List.mem_cons_of_mem _ h')]
  rfl
theorem Bw {M:MF} {b:Nat} {x y:A0}:BL (BL M b x) b y=BL M b y:=by
 funext i;unfold BL;split<;>rfl
theorem F9 {M:MF} {b:Nat} {x:A0} (h:M b=some x):BL M b x=M:=by
 funext i;unfold BL;split
 ·rename_i e;rw [e,h]
 ·rfl
theorem new_rep {m b:Nat} (hb:BL (BL (fun _=>none) m (.map (some ([],0)) [])) m (.map none []) b=none):B7 (BL (BL (BL (fun _=>none) m (.map (some ([],0)) [])) m (.map none [])) b (.cells 68 [mD m])) b ⟨[],[]⟩:=by
 have hne:m≠b:=fun e=>by subst e;rw [D2] at hb;cases hb
 exact ⟨m,[],fun _=> [],⟨D2 _ _ _,by rw [Dv hne,D2];rfl,(fun _ h=>by cases h),List.nodup_nil,List.not_mem_nil⟩,⟨List.nodup_nil,fun x=>by simp,(fun _ h=>by cases h),(fun _ h=>by cases h)⟩⟩
theorem Pw:AT Try.prog 11 [] [] fun r H'=>∃b M,r= .d (pD b 0)∧H'=[(40,[.multi M])]∧B7 M b ⟨[],[]⟩:=by
 refine DY Try.func11 Z Z Try.ntmps11 Z Z Z fun F hF=>(AG (AI (AD Z Z (AF (AG (Ff 40 Z Z Z (AI ?_)))))));refine U (EU 1 Z Z Z Z) (HC 1 1 40 hF Z Z Z Z Z Z Z Z Z Z (fun _=>rfl) fun m hm=>(DC 40 m rfl (D2 _ _ _) rfl (J (M8 zl68 pl68 Z Z Z) (U (Iz 2 Z Z Z Z Z Z Z) (Pn 3 2 40 (ds:=[mD m]) hF Z Z Z Z Z Z Z Z Z Z Z (fun _=>rfl) fun b hb=>(AD Z Z (AF (Ay ?_))))))));exact ⟨_,[40],_,Av rfl,rfl,rfl,b,_,rfl,rfl,new_rep hb⟩
theorem Ig {M:MF} {b:Nat} {w:Ws} (h:B7 M b w) (x:St):AT Try.prog 33 [.d (pD b 0),.d (AU x)] [(40,[.multi M])] fun r H'=>r= .d (Ar (decide (x∈w.R)))∧H'=[(40,[.multi M])]:=by
 obtain ⟨m,E,lk,hr,hl⟩:=h;refine DY Try.func33 Z Z Try.ntmps33 Z Z Z fun F hF=>(AG (AI (AD Z Z (AF (AG (AG (AI (AC Z Z ?_))))))))
 first | refine J (FP Z Z Z) ?_ | refine J (FX Z Z Z) ?_ | refine J (Et Z Z Z) ?_ | refine J (FQ Try.underlying23 Z Z Z) ?_ | refine J (FT Try.underlying23 Z Z Z) ?_ | refine J (fSq Try.underlying23 Z Z) ?_ | refine J (FW Try.underlying23 Z Z) ?_ | refine J (FV Try.underlying23 Z Z) ?_ | refine J (FR Try.underlying23 Z Z Z) ?_ | refine J (FU Try.underlying23 Z Z) ?_
 refine AF (Dk rfl (rfl) (An (AG (AI (AC Z Z ?_)))))
 first | refine J (Fp Z Z) ?_ | refine J (Fn Z Z) ?_ | refine J (Fq Z Z) ?_ | refine J (Fo Z Z) ?_
 first | refine J (A2 rfl A8 Z Z Z) ?_ | refine J (A4 rfl A8 Z Z Z) ?_ | refine J (A5 rfl A8 Z Z Z) ?_ | refine J (A3 rfl A8 Z Z Z) ?_ | refine J (A1 rfl A8 Z Z Z) ?_
 refine J (GQ (f:=40) Z Z (hr.cell) rfl Bp rfl) (AC Z Z (J (Mi (f:=40) (eE E) (x) (none) Z Z (hr.top) rfl CT E6 ET rfl) (AC Z Z ?_)))
 first | refine J (Bo Z Z Z) ?_ | refine J (Bn Z Z Z) ?_
 first | refine J (Bo Z Z Z) ?_ | refine J (Bn Z Z Z) ?_
 refine AD Z Z (AD Z Z (AF (AG (AI (AC Z Z (AD Z Z (AF (Ay ?_))))))));exact ⟨_,[40],_,Av rfl,rfl,rfl,by rw [hl.has],rfl⟩
theorem len_c {M:MF} {b:Nat} {w:Ws} (h:B7 M b w) (hw:Ba w):AT Try.prog 13 [.d (pD b 0)] [(40,[.multi M])] fun r H'=>r= .d (natD w.R.length)∧H'=[(40,[.multi M])]:=by
 obtain ⟨m,E,lk,hr,hl⟩:=h;refine DY Try.func13 Z Z Try.ntmps13 Z Z Z fun F hF=>(AG (AI (AD Z Z (AF (AG (AG (AI (AC Z Z ?_))))))))
 first | refine J (FP Z Z Z) ?_ | refine J (FX Z Z Z) ?_ | refine J (Et Z Z Z) ?_ | refine J (FQ Try.underlying23 Z Z Z) ?_ | refine J (FT Try.underlying23 Z Z Z) ?_ | refine J (fSq Try.underlying23 Z Z) ?_ | refine J (FW Try.underlying23 Z Z) ?_ | refine J (FV Try.underlying23 Z Z) ?_ | refine J (FR Try.underlying23 Z Z Z) ?_ | refine J (FU Try.underlying23 Z Z) ?_
 refine AF (Dk rfl (rfl) (An (AG (AI (AC Z Z ?_)))))
 first | refine J (Fp Z Z) ?_ | refine J (Fn Z Z) ?_ | refine J (Fq Z Z) ?_ | refine J (Fo Z Z) ?_
 first | refine J (A2 rfl A8 Z Z Z) ?_ | refine J (A4 rfl A8 Z Z Z) ?_ | refine J (A5 rfl A8 Z Z Z) ?_ | refine J (A3 rfl A8 Z Z Z) ?_ | refine J (A1 rfl A8 Z Z Z) ?_
 refine J (GQ (f:=40) Z Z (hr.cell) rfl Bp rfl) (J (LQ (f:=40) (n:=w.R.length) Z Z hr.top (by simp [Ac,hl.len hw]) CT rfl) (AD Z Z (AF (Ay ?_))));exact ⟨_,[40],_,Av rfl,rfl,rfl,rfl,rfl⟩
theorem add_rep {M:MF} {b m h:Nat} {E:List (St×Nat)} {lk:Nat ->List Lk} {w:Ws} (hr:LR M b m E lk) (hl:LW E lk w) {x:St} (hx:x∉w.R) (hok:Ba w) (hh:M h=none):
  B7 (BL (BL (BL M h (.map (some ([],0)) [])) h (.map none [])) m (.map none (Ac AU hD (Be (eE E) x (some h))))) b ⟨Bf w.R x,w.K⟩:=by
 have hxe:x∉E.map Prod.fst:=fun hm=>hx ((hl.ks x).1 hm);have hmh:m≠h:=fun e=>by subst e;rw [hr.top] at hh;cases hh
 have hbm:b≠m:=fun e=>by subst e;have:=hr.cell;rw [hr.top] at this;cases this
 have hbh:b≠h:=fun e=>by subst e;rw [hr.cell] at hh;cases hh
 have hph:∀p∈E,p.2≠h∧p.2≠m:=fun p hp=>⟨(fun e=>by have:=hr.sub p hp;rw [e,hh] at this;cases this),(fun e=>hr.ne (by rw [←e];exact List.mem_map_of_mem hp))⟩
 have hlk:∀p∈E,(if p.2=h then [] else lk p.2)=lk p.2:=fun p hp=>if_neg (hph p hp).1;refine ⟨m,E++ [(x,h)],fun n=>if n=h then [] else lk n,⟨?_,?_,fun p hp=>?_,?_,?_⟩,⟨?_,fun y=>?_,fun p hp=>?_,fun p hp l=>?_⟩⟩
 ·rw [Dv hbm,Dv hbh,Dv hbh];exact hr.cell
 ·rw [D2,QY hxe]
 ·show (_:Option A0)=some (.map none (Dl (if p.2=h then [] else lk p.2)));rcases List.mem_append.1 hp with hp | hp
  ·rw [hlk p hp,Dv (hph p hp).2,Dv (hph p hp).1,Dv (hph p hp).1];exact hr.sub p hp
  ·simp at hp;subst hp
   rw [Dv (Ne.symm hmh),D2]
   simp [Ac]
 ·rw [List.map_append,List.nodup_append];refine ⟨hr.nd,by simp,fun a ha c hc e=>?_⟩
  simp at hc;subst hc;subst e
  obtain ⟨p,hp,e⟩:=List.mem_map.1 ha;exact (hph p hp).1 e
 ·rw [List.map_append,List.mem_append];rintro (h1 | h1)
  ·exact hr.ne h1
  ·simp at h1;exact hmh h1
 ·rw [List.map_append,List.nodup_append];refine ⟨hl.kd,by simp,fun a ha c hc e=>?_⟩
  simp at hc;subst hc;subst e;exact hxe ha
 ·rw [List.map_append,List.mem_append,LE,hl.ks]
  simp [or_comm]
 ·show (if p.2=h then [] else lk p.2).Nodup;rcases List.mem_append.1 hp with hp | hp
  ·rw [hlk p hp];exact hl.ld p hp
  ·simp at hp;subst hp;simp
 ·show l∈(if p.2=h then [] else lk p.2)↔_;rcases List.mem_append.1 hp with hp | hp
  ·rw [hlk p hp];exact hl.ls p hp l
  ·simp at hp;subst hp
   simp only [if_true,List.not_mem_nil,false_iff];exact fun hk=>hx (hok.lk _ hk).1
theorem HL {w:Ws} {x:St} (h:x.length<1∨64<x.length):addW w x=(w,6):=if_pos h
theorem NT {w:Ws} {x:St} (h:¬(x.length<1∨64<x.length)) (hx:x∈w.R):addW w x=(w,7):=by unfold addW;rw [if_neg h,if_pos hx]
theorem NS {w:Ws} {x:St} (h:¬(x.length<1∨64<x.length)) (hx:¬x∈w.R) (hn:4096≤w.R.length):addW w x=(w,8):=by unfold addW;rw [if_neg h,if_neg hx,if_pos hn]
theorem NR {w:Ws} {x:St} (h:¬(x.length<1∨64<x.length)) (hx:¬x∈w.R) (hn:¬4096≤w.R.length):addW w x=(⟨Bf w.R x,w.K⟩,0):=by unfold addW;rw [if_neg h,if_neg hx,if_neg hn]
theorem Np {M:MF} {b:Nat} {w:Ws} (h:B7 M b w) (hw:Ba w) (x:St):AT Try.prog 12 [.d (pD b 0),.d (AU x)] [(40,[.multi M])] fun r H'=>∃M',r= .d (Bt (addW w x).2)∧H'=[(40,[.multi M'])]∧B7 M' b (addW w x).1:=by
 have hrep:=h;obtain ⟨m,E,lk,hr,hl⟩:=h;refine DY Try.func12 Z Z Try.ntmps12 Z Z Z fun F hF=>?_;refine AG (AI (AD Z Z (AF (AG (B9 (AG (AI (AC Z Z ?_))))))))
 first | refine J (FP Z Z Z) ?_ | refine J (FX Z Z Z) ?_ | refine J (Et Z Z Z) ?_ | refine J (FQ Try.underlying23 Z Z Z) ?_ | refine J (FT Try.underlying23 Z Z Z) ?_ | refine J (fSq Try.underlying23 Z Z) ?_ | refine J (FW Try.underlying23 Z Z) ?_ | refine J (FV Try.underlying23 Z Z) ?_ | refine J (FR Try.underlying23 Z Z Z) ?_ | refine J (FU Try.underlying23 Z Z) ?_
 refine AD Z Z (AF (Dk rfl (rfl) (AG (AI (AC Z Z ?_)))))
 first | refine J (JL rfl Try.underlying9 rfl) ?_ | refine J (CG Z Z Try.underlying9 rfl) ?_ | refine J (JG rfl Try.underlying9 rfl) ?_ | refine J (JJ rfl Try.underlying9 rfl) ?_ | refine J (JF rfl Try.underlying9 rfl) ?_ | refine J (Ix rfl Try.underlying9 rfl) ?_
 first | refine J (Eo Z Z Z) ?_ | refine J (Ep Z Z Z) ?_
 refine AC Z Z ?_
 first | refine KL 12 rfl (fun h12=>?_) (fun h12=>?_) | refine JH 12 rfl (fun h12=>?_) (fun h12=>?_)
 ·refine BH Z Z Z Z (BH Z Z Z Z (BH Z Z Z Z ?_));refine J (H8 Z Z Z Z) (AD Z Z (AF (Kx Z Z (AG (AI (AD Z Z (AF (Ay ?_))))))));exact ⟨_,[40],_,Av rfl,rfl,rfl,M,by rw [HL (by omega)],rfl,by rw [HL (by omega)];exact hrep⟩
 ·refine Ab Z Z Z (AC Z Z (Ab Z Z Z ?_))
  first | refine J (JL rfl Try.underlying9 rfl) ?_ | refine J (CG Z Z Try.underlying9 rfl) ?_ | refine J (JG rfl Try.underlying9 rfl) ?_ | refine J (JJ rfl Try.underlying9 rfl) ?_ | refine J (JF rfl Try.underlying9 rfl) ?_ | refine J (Ix rfl Try.underlying9 rfl) ?_
  refine Ab Z Z Z ?_
  first | refine J (Mj Z Z Z) ?_ | refine J (KW Z Z Z) ?_
  refine J (GR Z Z Z Z) (AD Z Z (AF ?_))
  first | refine BG rfl (fun h8=>?_) (fun h8=>?_) | refine BB rfl (fun h8=>?_) (fun h8=>?_)
  ·refine AG (AI (AD Z Z (AF (Ay ?_))));exact ⟨_,[40],_,Av rfl,rfl,rfl,M,by rw [HL (by omega)],rfl,by rw [HL (by omega)];exact hrep⟩
  ·refine AG (AI (AC Z Z (AC Z Z (U (HM (Ig hrep x) rfl [40] ⟨rfl,trivial⟩ Z Z Z Z Z Z Z Z Z) (AD Z Z (AF ?_))))))
   first | refine BG rfl (fun h17=>?_) (fun h17=>?_) | refine BB rfl (fun h17=>?_) (fun h17=>?_)
   ·refine AG (AI (AD Z Z (AF (Ay ?_))));exact ⟨_,[40],_,Av rfl,rfl,rfl,M,by rw [NT (by omega) h17],rfl,by rw [NT (by omega) h17];exact hrep⟩
   ·refine AG (AI (AC Z Z ?_))
    first | refine J (Fp Z Z) ?_ | refine J (Fn Z Z) ?_ | refine J (Fq Z Z) ?_ | refine J (Fo Z Z) ?_
    first | refine J (A2 rfl A8 Z Z Z) ?_ | refine J (A4 rfl A8 Z Z Z) ?_ | refine J (A5 rfl A8 Z Z Z) ?_ | refine J (A3 rfl A8 Z Z Z) ?_ | refine J (A1 rfl A8 Z Z Z) ?_
    refine J (GQ (f:=40) Z Z (hr.cell) rfl Bp rfl) (J (LQ (f:=40) (n:=w.R.length) Z Z hr.top (by simp [Ac,hl.len hw]) CT rfl) (J (KX Z Z Z) (AD Z Z (AF ?_))))
    first | refine BG rfl (fun h21=>?_) (fun h21=>?_) | refine BB rfl (fun h21=>?_) (fun h21=>?_)
    ·refine AG (AI (AD Z Z (AF (Ay ?_))));exact ⟨_,[40],_,Av rfl,rfl,rfl,M,by rw [NS (by omega) h17 (by omega)],rfl,by rw [NS (by omega) h17 (by omega)];exact hrep⟩
    ·refine An (AG (AG (AI (AC Z Z ?_))))
     first | refine J (Fp Z Z) ?_ | refine J (Fn Z Z) ?_ | refine J (Fq Z Z) ?_ | refine J (Fo Z Z) ?_
     first | refine J (A2 rfl A8 Z Z Z) ?_ | refine J (A4 rfl A8 Z Z Z) ?_ | refine J (A5 rfl A8 Z Z Z) ?_ | refine J (A3 rfl A8 Z Z Z) ?_ | refine J (A1 rfl A8 Z Z Z) ?_
     refine J (GQ (f:=40) Z Z (hr.cell) rfl Bp rfl) ?_
     first | refine J (FP Z Z Z) ?_ | refine J (FX Z Z Z) ?_ | refine J (Et Z Z Z) ?_ | refine J (FQ Try.underlying66 Z Z Z) ?_ | refine J (FT Try.underlying66 Z Z Z) ?_ | refine J (fSq Try.underlying66 Z Z) ?_ | refine J (FW Try.underlying66 Z Z) ?_ | refine J (FV Try.underlying66 Z Z) ?_ | refine J (FR Try.underlying66 Z Z Z) ?_ | refine J (FU Try.underlying66 Z Z) ?_
     refine AF (Dk rfl (rfl) (An (AG (AI (AC Z Z ?_)))))
     first | refine J (Fp Z Z) ?_ | refine J (Fn Z Z) ?_ | refine J (Fq Z Z) ?_ | refine J (Fo Z Z) ?_
     first | refine J (A2 rfl A8 Z Z Z) ?_ | refine J (A4 rfl A8 Z Z Z) ?_ | refine J (A5 rfl A8 Z Z Z) ?_ | refine J (A3 rfl A8 Z Z Z) ?_ | refine J (A1 rfl A8 Z Z Z) ?_
     refine J (GQ (f:=40) Z Z (hr.cell) rfl Bp rfl) (AC Z Z (U (EU 1 Z Z Z Z) ?_));refine HC 42 1 40 hF Z Z Z Z Z Z Z Z Z Z (fun _=>rfl) fun h hh=>(DC 40 h rfl (D2 _ _ _) rfl (U (Ev (f:=40) (eE E) (x) (some h) Z Z ((by rw [Bw,Dv (fun e=>by rw [←e,hr.top] at hh;cases hh)];exact hr.top)) rfl CT E6 Z Z) (AF (AG (AI (AD Z Z (AF (Ay ?_))))))));exact ⟨_,[40],_,Av rfl,rfl,rfl,_,by rw [NR (by omega) h17 (by omega)],rfl,by rw [NR (by omega) h17 (by omega)];exact add_rep hr hl h17 hw hh⟩
section
variable {P:Program} {F:Fr} {s:AS} {α β:Type} [DecidableEq α] {eK:α ->D} {eV:β ->D} {K:TypeId} {kv:α ->Value} {d:Nat} {ty T E:TypeId} {pos:String} {aft:Array Edge} {g:Option (Nat×Bool)} {x y z:Operand} {bs:Option (List Nat×Nat)}
theorem IM (m:List (α×β)) (a:α) (b0 v:β) {x0:D} {f i:Nat} (hx:s.ev x=some (.map f i)) (ho:hget s.hp f i=some (.map bs (Ac eK eV m))) (hy:s.ev y=some (.d (eK a))) (hT:BT P T K E=true) (KT:BJ P K eK kv) (hz:C1 P E=some (.d x0)) (hw:∀w O v,AO w O x0 v ->AO w O (eV b0) v) (hv:CN m a b0=v) (hd:Nat.blt d s.n=true):
  AA P F ⟨some d,.lookup T x y false,ty,pos,aft,g⟩ s d (.d (eV v)):=
 Bl _ hd fun ρ act w hs=>by
  obtain ⟨mb,arr,c,e1,_,h1,h2,h3,_⟩:=hs.mapAt hx ho;have hk:act.eval y=kv a:=(hs.repD hy).val (KT.val a);obtain ⟨zv,hz1,hz2⟩:=D3 hz w
  have hz3:∀w' O ρ,AQ w' O ρ (.d (eV b0)) zv:=fun w' O ρ=>by
   have:=hz2 w' O ρ
   cases this with
   | d h=>exact .d (hw _ _ _ h)
  subst hv;rcases hit_get KT h2 h3 a b0 with ⟨g1,_,g3,_⟩ | ⟨j,e,g1,g2,_,_,_,_,g7⟩
  ·refine ⟨zv,?_,by rw [g3];exact hz3 _ _ _⟩
   simp [execOp,Instr.lookup,run_underlying (NX hT),e1,hk,MapKept.run_getObj_map h1,KT.check,KT.find w a _ _ (Ow KT h2 h3),g1,hz1,Result.andThen]
  ·refine ⟨e.val,?_,.d g7⟩
   simp [execOp,Instr.lookup,run_underlying (NX hT),e1,hk,MapKept.run_getObj_map h1,KT.check,KT.find w a _ _ (Ow KT h2 h3),g1,Result.andThen]
end
theorem SR.meltMap {F:Fr} {s:AS} {ρ:Nat ->Nat ->Value} {act:Act} {w:World} (hs:SR F s ρ act w) (g i f:Nat) {M:MF} {bs:Option (List Nat×Nat)} {es es':List (D×D)} {env':List (Nat×AV)} {hp1 hp2 hp':Hp} (hM:hfam s.hp f=some [.multi M])
  (hE:AL f s.env=some env') (hH:AK f s.hp=some hp1) (hh:BV f hp1=some hp2) (ho:hget hp2 g i=some (.map bs es)) (hlen:es'.length=es.length)
  (hxy:∀(j:Nat) x y,es[j]?=some x ->es'[j]?=some y ->x.1=y.1∧M9 M x.2 y.2) (hset:Ap hp2 g i (.map bs es')=some hp'):SR F ⟨s.n,env',hp'⟩ ρ act w:=by
 obtain ⟨h2,hO1,hO2⟩:=hs.forget f hE hH hh (fun j t cs e=>by
  rw [Du hM] at e
  cases hm:M j with
  | none=>rw [hm] at e;cases e
  | some m=>rw [hm] at e;injection e with e;exact A0.notBlk e)
 refine h2.write g i (.map bs es) (.map bs es') ho (Af hset) Z Z Z Z (fun _ _=>rfl) (fun _ _ e=>by cases e) fun hrep=>?_;obtain ⟨mb,arr,c,k1,k2,k3,k4,k5⟩:=h2.heap.sim g i _ ho;refine ⟨mb,arr,c,k1,k2,by rw [hlen];exact k3,fun j e y he hy=>?_,k5⟩;have hjl:j<es.length:=by rw [←hlen];exact (List.getElem?_eq_some_iff.1 hy).1
 have hx:es[j]?=some es[j]:=List.getElem?_eq_getElem hjl;obtain ⟨e1,e2⟩:=hxy j _ _ hx hy;obtain ⟨g1,g2⟩:=k4 j e _ he hx;have h3:=AO.melt hs hM hO1 hO2 e2 g2;have q1:=hrep (.d _) _ (.d g1);have q2:=hrep (.d _) _ (.d h3);exact ⟨by rw [←e1];cases q1 with | d h=>exact h,by cases q2 with | d h=>exact h⟩
section
variable {P:Program} {F:Fr} {Q:Exit ->AS ->Prop} {c:Code} {n:Nat} {env env':List (Nat×AV)} {hp hp1 hp2 hp':Hp}
theorem On (g i f:Nat) {M:MF} {bs:Option (List Nat×Nat)} {es:List (D×D)} (es':List (D×D)) (hM:hfam hp f=some [.multi M])
  (hE:AL f env=some env') (hH:AK f hp=some hp1) (hh:BV f hp1=some hp2) (ho:hget hp2 g i=some (.map bs es)) (hlen:es'.length=es.length)
  (hxy:∀(j:Nat) x y,es[j]?=some x ->es'[j]?=some y ->x.1=y.1∧M9 M x.2 y.2) (hset:Ap hp2 g i (.map bs es')=some hp') (h:B1 P F c Q ⟨n,env',hp'⟩):B1 P F c Q ⟨n,env,hp⟩:=
 fun ρ act w hs=>h ρ act w (hs.meltMap g i f hM hE hH hh ho hlen hxy hset)
end
def Fj {α:Type} (f:St ->α) (k:St) (v:α):St ->α:=fun x=>if x=k then v else f x
theorem Ox {α:Type} {f:St ->α} {k:St} {v:α}:Fj f k v k=v:=if_pos rfl
theorem MZ {α:Type} {f:St ->α} {k x:St} {v:α} (h:x≠k):Fj f k v x=f x:=if_neg h
abbrev hvD (q:Hd×List St):D:=hdr q.1 q.2.length
abbrev Df (Ks:List St) (H:St ->Hd) (L:St ->List St):List (St×(Hd×List St)):=Ks.map fun k=>(k,(H k,L k))
def JU (Ks:List St) (a:St):List St:=if a∈Ks then Ks else Ks++ [a]
structure JB (M:MF) (Ks:List St) (H:St ->Hd) (L:St ->List St):Prop where
 kd:Ks.Nodup
 off:∀k,k∉Ks ->H k=none∧L k=[]
 at_:∀k,Jb M (H k) 9 1 ((L k).map AU)
 inj:∀j k b c c',H j=some (b,c) ->H k=some (b,c') ->j=k
theorem Lr {M:MF} {Ks:List St} {H:St ->Hd} {L:St ->List St} (h:JB M Ks H L) (a:St):CN (Df Ks H L) a (none,[])=(H a,L a):=by
 have key:∀Ks:List St,CN (Df Ks H L) a (none,[])=if a∈Ks then (H a,L a) else (none,[]):=by
  intro Ks
  induction Ks with
  | nil=>rfl
  | cons k r ih=>
   show (if a=k then (H k,L k) else CN (Df r H L) a (none,[]))=_
   by_cases e:a=k
   ·subst e;simp
   ·rw [if_neg e,ih];simp [e]
 rw [key]
 split
 ·rfl
 ·rename_i hn;obtain ⟨e1,e2⟩:=h.off a hn;rw [e1,e2]
theorem Lq {Ks:List St} {H:St ->Hd} {L:St ->List St} (hd:Ks.Nodup) (a:St) (h:Hd) (l:List St):Be (Df Ks H L) a (h,l)=Df (JU Ks a) (Fj H a h) (Fj L a l):=by
 induction Ks with
 | nil=>simp [JU,Be,Ox]
 | cons k r ih=>
  obtain ⟨h1,h2⟩:=List.nodup_cons.1 hd;show (if a=k then (k,(h,l))::Df r H L else (k,(H k,L k))::Be (Df r H L) a (h,l))=_
  by_cases e:a=k
  ·subst e;rw [if_pos rfl];unfold JU;rw [if_pos (by simp)];simp only [List.map_cons,Ox]
   congr 1
   refine List.map_congr_left fun x hx=>?_;have:x≠a:=fun e=>h1 (e▸hx);rw [MZ this,MZ this]
  ·rw [if_neg e,ih h2];have e':k≠a:=fun h=>e h.symm
   have hi:JU (k::r) a=k::JU r a:=by
    unfold JU
    by_cases hr:a∈r
    ·simp [hr]
    ·simp [hr,e]
   rw [hi];simp only [List.map_cons,MZ e']
theorem JB.zero:JB (fun _=>none) [] (fun _=>none) (fun _=> []):=⟨List.nodup_nil,fun _ _=>⟨rfl,rfl⟩,fun _=>rfl,fun _ _ _ _ _ h=>by cases h⟩
theorem JB.app {M:MF} {Ks:List St} {H:St ->Hd} {L:St ->List St} (h:JB M Ks H L) (j:St) {l:List St} {b c:Nat} (hb:DB M (H j) b=none) (hc:(l.map AU).length≤c):
  JB (BL (DB M (H j)) b (.row 9 1 c (l.map AU))) (JU Ks j) (Fj H j (some (b,c))) (Fj L j l):=by
 have hne:∀k,k≠j ->∀b' c',H k=some (b',c') ->b'≠b∧BL (DB M (H j)) b (.row 9 1 c (l.map AU)) b'=M b':=by
  intro k hkj b' c' e;have h1:=h.at_ k;rw [e] at h1;have h2:∀c'',H j≠some (b',c''):=fun c'' e2=>hkj (h.inj k j b' c' c'' e e2);refine ⟨fun e3=>?_,?_⟩
  ·subst e3;have:=E5 h1.2 h2;rw [hb] at this;cases this
  ·rw [QL hb h1.2 h2,h1.2]
 refine ⟨?_,fun k hk=>?_,fun k=>?_,fun k k' b1 c1 c2 e1 e2=>?_⟩
 ·unfold JU;split
  ·exact h.kd
  ·rename_i hn
   rw [List.nodup_append];exact ⟨h.kd,by simp,fun x hx y hy e=>by simp at hy;subst hy;subst e;exact hn hx⟩
 ·have hk2:k∉Ks∧k≠j:=by
   unfold JU at hk
   split at hk
   ·rename_i hj;exact ⟨hk,fun e=>hk (e▸hj)⟩
   ·simp at hk;exact hk
  rw [MZ hk2.2,MZ hk2.2];exact h.off k hk2.1
 ·by_cases e:k=j
  ·subst e;rw [Ox,Ox];exact ⟨hc,D2 _ _ _⟩
  ·rw [MZ e,MZ e];have h1:=h.at_ k
   match hh:H k,h1 with
   | none,h1=>exact h1
   | some (b',c'),h1=>exact ⟨h1.1,by rw [(hne k e b' c' hh).2];exact h1.2⟩
 ·by_cases ek:k=j<;>by_cases ek':k'=j
  ·rw [ek,ek']
  ·subst ek;rw [Ox] at e1;rw [MZ ek'] at e2;injection e1 with e1;injection e1 with e1 _;subst e1
   exact ((hne k' ek' _ _ e2).1 rfl).elim
  ·subst ek';rw [Ox] at e2;rw [MZ ek] at e1;injection e2 with e2;injection e2 with e2 _;subst e2
   exact ((hne k ek _ _ e1).1 rfl).elim
  ·rw [MZ ek] at e1;rw [MZ ek'] at e2;exact h.inj k k' b1 c1 c2 e1 e2
theorem JB.melt {M:MF} {Ks:List St} {H:St ->Hd} {L:St ->List St} (h:JB M Ks H L):∀(j:Nat) x y,(Ac AU hvD (Df Ks H L))[j]?=some x ->(Ac AU stsD (Ks.map fun k=>(k,L k)))[j]?=some y ->x.1=y.1∧M9 M x.2 y.2:=by
 intro j x y hx hy;simp only [Ac,List.map_map,List.getElem?_map] at hx hy
 cases hk:Ks[j]? with
 | none=>rw [hk] at hx;cases hx
 | some k=>
  rw [hk] at hx hy;injection hx with hx;injection hy with hy
  subst hx hy;exact ⟨rfl,.inr ⟨H k,9,(L k).map AU,by simp [hvD],h.at_ k,fun z hz=>by obtain ⟨a,_,rfl⟩:=List.mem_map.1 hz;rfl,rfl⟩⟩
def Ch (lk:Nat ->List Lk) (p:St×Option Nat):List Lw:=match p.2 with
 | some h=>(lk h).map fun x=>⟨p.1,x.t,x.r⟩
 | none=> []
theorem LW.perm {E:List (St×Nat)} {lk:Nat ->List Lk} {w:Ws} (h:LW E lk w) (hw:Ba w):((eE E).flatMap (Ch lk)).Perm w.K:=by
 refine (List.perm_ext_iff_of_nodup ?_ hw.nd).2 fun l=>?_
 ·rw [List.nodup_iff_pairwise_ne,List.pairwise_flatMap]
  constructor
  ·intro p hp;obtain ⟨q,hq,rfl⟩:=List.mem_map.1 hp;show List.Pairwise _ ((lk q.2).map _);rw [List.pairwise_map];exact (h.ld q hq).imp fun {a b} hne e=>hne (Lk.eq_iff.2 (by injection e with _ e1 e2;exact ⟨e1,e2⟩))
  ·rw [List.pairwise_map];refine (List.pairwise_map.1 h.kd).imp fun {p q} hne x hx y hy e=>?_;obtain ⟨x1,_,rfl⟩:=List.mem_map.1 hx;obtain ⟨y1,_,rfl⟩:=List.mem_map.1 hy;injection e with e1
   exact hne e1
 ·rw [List.mem_flatMap]
  constructor
  ·rintro ⟨p,hp,hl⟩;obtain ⟨q,hq,rfl⟩:=List.mem_map.1 hp;obtain ⟨x,hx,rfl⟩:=List.mem_map.1 hl;exact (h.ls q hq x).1 hx
  ·intro hl;obtain ⟨n,hn⟩:=h.at (hw.lk l hl).1;exact ⟨(l.f,some n),List.mem_map.2 ⟨(l.f,n),hn,rfl⟩,List.mem_map.2 ⟨⟨l.t,l.r⟩,(h.ls _ hn _).2 hl,rfl⟩⟩
theorem Gd {E:List (St×Nat)} {k:St} {v:Option Nat} {j:Nat} (h:(eE E)[j]?=some (k,v)):∃n,(k,n)∈E∧v=some n:=by
 obtain ⟨p,hp,e⟩:=List.mem_map.1 (List.mem_of_getElem? h);injection e with e1 e2
 exact ⟨p.2,by rw [←e1];exact hp,e2.symm⟩
theorem QG {l:List Lk} {k:Lk} {v:Bool} {j:Nat} (h:(Dp l)[j]?=some (k,v)):k∈l:=by
 obtain ⟨p,hp,e⟩:=List.mem_map.1 (List.mem_of_getElem? h);injection e with e1 e2
 rw [←e1];exact hp
structure NB (acc:List Lw) (L:St ->List St):Prop where
 mem:∀k y,y∈L k↔∃l∈acc,l.t=0∧((l.f=k∧l.r=y)∨(l.r=k∧l.f=y))
 len:∀k,(L k).length≤2*acc.length
theorem NB.zero:NB [] (fun _=> []):=⟨fun k y=>by simp,fun _=>Nat.le_refl _⟩
theorem NB.skip {acc:List Lw} {L:St ->List St} (h:NB acc L) {l:Lw} (hl:l.t≠0):NB (acc++ [l]) L:=by
 refine ⟨fun k y=>?_,fun k=>?_⟩
 ·rw [h.mem]
  constructor
  ·rintro ⟨x,hx,r⟩;exact ⟨x,List.mem_append_left _ hx,r⟩
  ·rintro ⟨x,hx,h0,r⟩;rcases List.mem_append.1 hx with hx | hx
   ·exact ⟨x,hx,h0,r⟩
   ·simp at hx;subst hx;exact absurd h0 hl
 ·have:=h.len k;simp;omega
theorem NB.hit {acc:List Lw} {L:St ->List St} (h:NB acc L) {l:Lw} (hl:l.t=0):NB (acc++ [l]) (Fj (Fj L l.f (L l.f++ [l.r])) l.r (Fj L l.f (L l.f++ [l.r]) l.r++ [l.f])):=by
 have hm:∀k y,y∈Fj (Fj L l.f (L l.f++ [l.r])) l.r (Fj L l.f (L l.f++ [l.r]) l.r++ [l.f]) k↔y∈L k∨(k=l.f∧y=l.r)∨(k=l.r∧y=l.f):=by
  intro k y
  by_cases e1:k=l.r
  ·rw [e1,Ox,List.mem_append]
   by_cases e2:l.r=l.f
   ·rw [e2,Ox];simp
   ·rw [MZ e2];simp [e2]
  ·rw [MZ e1]
   by_cases e2:k=l.f
   ·rw [e2,Ox,List.mem_append];have e3:¬l.f=l.r:=by rw [←e2];exact e1
    simp [e3]
   ·rw [MZ e2];simp [e1,e2]
 refine ⟨fun k y=>?_,fun k=>?_⟩
 ·rw [hm,h.mem]
  constructor
  ·rintro (⟨x,hx,r⟩ | ⟨e1,e2⟩ | ⟨e1,e2⟩)
   ·exact ⟨x,List.mem_append_left _ hx,r⟩
   ·exact ⟨l,List.mem_append_right _ (by simp),hl,.inl ⟨e1.symm,e2.symm⟩⟩
   ·exact ⟨l,List.mem_append_right _ (by simp),hl,.inr ⟨e1.symm,e2.symm⟩⟩
  ·rintro ⟨x,hx,h0,r⟩;rcases List.mem_append.1 hx with hx | hx
   ·exact .inl ⟨x,hx,h0,r⟩
   ·simp at hx;subst hx
    rcases r with ⟨e1,e2⟩ | ⟨e1,e2⟩
    ·exact .inr (.inl ⟨e1.symm,e2.symm⟩)
    ·exact .inr (.inr ⟨e1.symm,e2.symm⟩)
 ·have h1:=h.len k;have h2:=h.len l.r;have h3:=h.len l.f;rw [List.length_append]
  by_cases e1:k=l.r
  ·rw [e1,Ox]
   by_cases e2:l.r=l.f
   ·rw [e2,Ox];simp;omega
   ·rw [MZ e2];simp;omega
  ·rw [MZ e1]
   by_cases e2:k=l.f
   ·rw [e2,Ox];simp;omega
   ·rw [MZ e2];simp;omega
theorem F4 {α:Type} {acc rest:List α} {x y:List α} {all:List α} (h:(acc++x).Perm all) (hx:x.Perm (y++rest)):((acc++y)++rest).Perm all:=by
 rw [List.append_assoc];exact (List.Perm.append_left acc hx).symm.trans h
theorem N7 {α β:Type} {f:α ->List β} {acc rest:List β} {x y:List α} {k:α} {all:List β} (h:(acc++x.flatMap f).Perm all) (hx:x.Perm (k::y)) (he:f k=rest):(acc++(rest++y.flatMap f)).Perm all:=by
 refine (List.Perm.append_left acc ?_).trans h;have:=(List.Perm.flatMap_right f hx).symm;rw [List.flatMap_cons,he] at this;exact this
theorem G2 {α β:Type} {f:α ->β} {acc R:List β} {x y:List α} {k:α} {all:List β} (h:(acc++(x.map f++R)).Perm all) (hx:x.Perm (k::y)):((acc++ [f k])++(y.map f++R)).Perm all:=by
 refine F4 h ?_;have:=(hx.map f).append_right R
 simpa using this
theorem HX (lk:Nat ->List Lk) (k:St) (h:Nat):Ch lk (k,some h)=(Dp (lk h)).map fun x=>(⟨k,x.1.t,x.1.r⟩:Lw):=by
 show (lk h).map _=_;rw [List.map_map];rfl
theorem NB.wth {acc:List Lw} {L:St ->List St} {w:Ws} (h:NB acc L) (hp:acc.Perm w.K) (x y:St):y∈L x↔JY w x y:=by
 rw [h.mem];unfold JY
 constructor
 ·rintro ⟨l,hl,h0,⟨e1,e2⟩ | ⟨e1,e2⟩⟩
  ·left;rw [←e1,←e2,←h0];exact hp.mem_iff.1 hl
  ·right;rw [←e1,←e2,←h0];exact hp.mem_iff.1 hl
 ·rintro (h1 | h1)
  ·exact ⟨_,hp.mem_iff.2 h1,rfl,.inl ⟨rfl,rfl⟩⟩
  ·exact ⟨_,hp.mem_iff.2 h1,rfl,.inr ⟨rfl,rfl⟩⟩
theorem Pv:∀w O v,AO w O (.sl (some true) []) v ->AO w O (hvD (none,[])) v:=fun _ _ _ h=>h.nrm1
set_option maxHeartbeats 1000000 in
theorem neigh_c {M:MF} {b:Nat} {w:Ws} (h:B7 M b w) (hw:Ba w) (hK:w.K.length≤1000000):AT Try.prog 61 [.d (pD b 0)] [(40,[.multi M])] fun r H'=>∃(Ks:List St) (L:St ->List St) (bs:Option (List Nat×Nat)),r= .map 1 0∧H'=[(40,[.multi M]),(1,[.map bs (Ac AU stsD (Ks.map fun k=>(k,L k)))])]∧(∀k,k∉Ks ->L k=[])∧(∀x y,y∈L x↔JY w x y)∧∀k,(L k).length≤2000000:=by
 obtain ⟨m,E,lk,hr,hl⟩:=h;have hperm:=hl.perm hw;have hbm:b≠m:=fun e=>by subst e;have:=hr.cell;rw [hr.top] at this;cases this
 have hpm:∀p∈E,p.2≠m:=fun p hp e=>hr.ne (by rw [←e];exact List.mem_map_of_mem hp);refine DY Try.func61 Z Z Try.ntmps61 Z Z Z fun F hF=>(AG (AI (AD Z Z (AF ?_))));refine AG (AI (U (EU 1 Z Z Z Z) (AD Z Z (AF (AG (AG (Ff 50 Z Z Z (Cb 40 m rfl hr.top (fun _ _=>rfl) fun B c hB hBn=>?_))))))))
 obtain ⟨M1,hM1⟩:∃M1,BL M m (.map (some (B,c)) (Cx E))=M1:=⟨_,rfl⟩
 rw [hM1];have h1b:M1 b=some (.cells 68 [mD m]):=by rw [←hM1,Dv hbm];exact hr.cell
 have h1m:M1 m=some (.map (some (B,c)) (Cx E)):=by rw [←hM1,D2]
 have h1s:∀p∈E,M1 p.2=some (.map none (Dl (lk p.2))):=fun p hp=>by rw [←hM1,Dv (hpm p hp)];exact hr.sub p hp
 refine AI (AC Z Z ?_)
 first | refine J (Fp Z Z) ?_ | refine J (Fn Z Z) ?_ | refine J (Fq Z Z) ?_ | refine J (Fo Z Z) ?_
 first | refine J (A2 rfl A8 Z Z Z) ?_ | refine J (A4 rfl A8 Z Z Z) ?_ | refine J (A5 rfl A8 Z Z Z) ?_ | refine J (A3 rfl A8 Z Z Z) ?_ | refine J (A1 rfl A8 Z Z Z) ?_
 refine J (GQ (f:=40) Z Z (h1b) rfl Bp rfl) (U (C4 2 (f:=40) Z Z (h1m) rfl CT Z Z Z Z) (AF (B9 (Fm (α:=List Nat×List Lw×List St×(St ->Hd)×(St ->List St)×MF) (fun q=>⟨47,[(0,.d (pD b 0)),(3,(.map 1 0)),(12,(.ptr 2 0 0))],[(1,[O6 AU hvD (Df q.2.2.1 q.2.2.2.1 q.2.2.2.2.1)]),(2,[.iter 40 m c q.1]),(40,[.multi M1]),(50,[.multi q.2.2.2.2.2])]⟩) (fun q=>(q.2.1++(Bc (eE E) B q.1).flatMap (Ch lk)).Perm ((eE E).flatMap (Ch lk))∧JB q.2.2.2.2.2 q.2.2.1 q.2.2.2.1 q.2.2.2.2.1∧NB q.2.1 q.2.2.2.2.1) (fun q=>(Bc (eE E) B q.1).length) (([],[],[],(fun _=>none),(fun _=> []),fun _=>none)) (⟨by show ([]++(Bc (eE E) B []).flatMap _).Perm _;rw [C9 (by simpa [Ac] using hB)];exact List.Perm.refl _,JB.zero,NB.zero⟩) (BK hF [1,2,40,50] Z Z ⟨rfl,rfl,rfl,trivial⟩) ?_))));rintro ⟨seen,acc,Ks,H,L,M5⟩ ⟨hP,hN,hA⟩;dsimp only at hP hN hA⊢;refine AG (AI (E3 (eE E) Z Z Z (h1m) rfl (fun hl13=>?_) (fun j13 b13 k13 v13 hm13 hb13 hB13 hp13=>⟨_,rfl,?_⟩)))
 ·rw [hl13] at hP;refine DC 40 m rfl h1m rfl ?_;rw [show BL M1 m (.map none (Cx E))=M by rw [←hM1,Bw];exact F9 hr.top]
  first | refine J (Bo Z Z Z) ?_ | refine J (Bn Z Z Z) ?_
  refine AF (AG (Dk Z Z (Eg (AG ?_))));have hPK:acc.Perm w.K:=(show acc.Perm _ by simpa using hP).trans hperm;refine On 1 0 50 (Ac AU stsD (Ks.map fun k=>(k,L k))) Z Z Z Z Z (by simp [Ac]) hN.melt rfl (AI (AC Z Z (AD Z Z (AF (Ay ?_)))));exact ⟨_,[40,1],_,Av rfl,rfl,rfl,Ks,L,_,rfl,rfl,fun k hk=>(hN.off k hk).2,hA.wth hPK,fun k=>Nat.le_trans (hA.len k) (by rw [hPK.length_eq];omega)⟩
 ·first | refine J (Bo Z Z Z) ?_ | refine J (Bn Z Z Z) ?_
  refine AF (AG (Kx Z Z (An (B9 (AG (AI (J (C5 (eE E) j13 b13 Z Z Z (h1m) hm13 hb13 rfl) ?_)))))))
  first | refine J (Bo Z Z Z) ?_ | refine J (Bn Z Z Z) ?_
  first | refine J (Bo Z Z Z) ?_ | refine J (Bn Z Z Z) ?_
  refine AD Z Z (AD Z Z (AF (AG ?_)));obtain ⟨hd,hpe,hve⟩:=Gd hm13;subst hve;refine Cb 40 hd rfl (h1s _ hpe) (fun _ _=>rfl) fun B2 c2 hB2 hBn2=>?_
  obtain ⟨M2,hM2⟩:∃M2,BL M1 hd (.map (some (B2,c2)) (Dl (lk hd)))=M2:=⟨_,rfl⟩
  rw [hM2];have h2h:M2 hd=some (.map (some (B2,c2)) (Dl (lk hd))):=by rw [←hM2,D2]
  refine AI (AC Z Z (U (C4 3 (f:=40) Z Z (h2h) rfl HE Z Z Z Z) (AF (B9 (Fm (α:=List Nat×List Lw×List St×(St ->Hd)×(St ->List St)×MF) (fun q=>⟨47,[(0,.d (pD b 0)),(3,(.map 1 0)),(4,(.d (AU k13))),(12,(.ptr 2 0 0)),(19,(.ptr 3 0 0))],[(1,[O6 AU hvD (Df q.2.2.1 q.2.2.2.1 q.2.2.2.2.1)]),(2,[.iter 40 m c (seen++ [b13])]),(3,[.iter 40 hd c2 q.1]),(40,[.multi M2]),(50,[.multi q.2.2.2.2.2])]⟩) (fun q=>(q.2.1++((Bc (Dp (lk hd)) B2 q.1).map (fun x=>(⟨k13,x.1.t,x.1.r⟩:Lw))++(Bc (eE E) B (seen++ [b13])).flatMap (Ch lk))).Perm ((eE E).flatMap (Ch lk))∧JB q.2.2.2.2.2 q.2.2.1 q.2.2.2.1 q.2.2.2.2.1∧NB q.2.1 q.2.2.2.2.1) (fun q=>(Bc (Dp (lk hd)) B2 q.1).length) (([],acc,Ks,H,L,M5)) (⟨by show (acc++((Bc (Dp (lk hd)) B2 []).map _++_)).Perm _;rw [C9 (by simpa [Ac] using hB2)];exact N7 hP hp13 (HX lk k13 hd),hN,hA⟩) (BK hF [1,2,3,40,50] Z Z ⟨rfl,rfl,rfl,rfl,rfl,trivial⟩) ?_)))));rintro ⟨seen2,acc2,Ks2,H2,L2,M52⟩ ⟨hP2,hN2,hA2⟩;dsimp only at hP2 hN2 hA2⊢;refine AG (AI (E3 (Dp (lk hd)) Z Z Z (h2h) rfl (fun hl20=>?_) (fun j20 b20 k20 v20 hm20 hb20 hB20 hp20=>⟨_,rfl,?_⟩)))
  ·rw [hl20] at hP2;refine DC 40 hd rfl h2h rfl ?_;rw [show BL M2 hd (.map none (Dl (lk hd)))=M1 by rw [←hM2,Bw];exact F9 (h1s _ hpe)]
   first | refine J (Bo Z Z Z) ?_ | refine J (Bn Z Z Z) ?_
   refine AF (AG (Dk Z Z (Eg ?_)));exact ⟨(seen++ [b13],acc2,Ks2,H2,L2,M52),⟨by simpa using hP2,hN2,hA2⟩,by show (Bc (eE E) B (seen++ [b13])).length<(Bc (eE E) B seen).length;rw [hp13.length_eq];exact Nat.lt_succ_self _,BK hF [1,2,40,50] rfl (rfl) ⟨rfl,rfl,rfl,trivial⟩⟩
  ·first | refine J (Bo Z Z Z) ?_ | refine J (Bn Z Z Z) ?_
   refine AF (AG (Kx Z Z (An (B9 (AG (AI (J (C5 (Dp (lk hd)) j20 b20 Z Z Z (h2h) hm20 hb20 rfl) ?_)))))))
   first | refine J (Bo Z Z Z) ?_ | refine J (Bn Z Z Z) ?_
   refine U (IF 4 Ma Z Z Z Z) (U (Bu Z Z Z Z Z Z Z sz39) (AF (AG (AI ?_))))
   first | refine J (A2 rfl Hk Z Z Z) ?_ | refine J (A4 rfl Hk Z Z Z) ?_ | refine J (A5 rfl Hk Z Z Z) ?_ | refine J (A3 rfl Hk Z Z Z) ?_ | refine J (A1 rfl Hk Z Z Z) ?_
   first | refine J (AY Z Z B8 rfl) ?_ | refine J (AW Z Z Z B8 rfl) ?_ | refine J (AX Z Z (rfl) rfl B8 rfl) ?_
   first | refine J (FP Z Z Z) ?_ | refine J (FX Z Z Z) ?_ | refine J (Et Z Z Z) ?_ | refine J (FQ Try.underlying3 Z Z Z) ?_ | refine J (FT Try.underlying3 Z Z Z) ?_ | refine J (fSq Try.underlying3 Z Z) ?_ | refine J (FW Try.underlying3 Z Z) ?_ | refine J (FV Try.underlying3 Z Z) ?_ | refine J (FR Try.underlying3 Z Z Z) ?_ | refine J (FU Try.underlying3 Z Z) ?_
   refine AF ?_
   first | refine BG rfl (fun h26=>?_) (fun h26=>?_) | refine BB rfl (fun h26=>?_) (fun h26=>?_)
   ·refine AG ?_;have hb2:=hA2.len k13;have hal:acc2.length≤1000000:=by have h1:=hP2.length_eq;rw [hperm.length_eq,List.length_append] at h1;omega
    refine AI (AC Z Z (AC Z Z (AC Z Z (AC Z Z (J (IM (Df Ks2 H2 L2) k13 (none,[]) (H2 k13,L2 k13) Z Z Z Ls E6 za32 Pv (Lr hN2 k13) rfl) ?_)))))
    first | refine J (A2 rfl CB Z Z Z) ?_ | refine J (A4 rfl CB Z Z Z) ?_ | refine J (A5 rfl CB Z Z Z) ?_ | refine J (A3 rfl CB Z Z Z) ?_ | refine J (A1 rfl CB Z Z Z) ?_
    first | refine J (AY Z Z AZ rfl) ?_ | refine J (AW Z Z Z AZ rfl) ?_ | refine J (AX Z Z (rfl) rfl AZ rfl) ?_
    refine U (Gl 5 Bd Z Z Z Z Z Z Z Z) (U (Hq 31 60 50 (hN2.at_ k13) Z Z (by rw [List.length_map]) Z Z Z Z Z (JE (emb:=AU) (L2 k13) [k20.r] Z Z Z Z Z Z Z Z Bd (by show ((L2 k13).length+1)*16≤_;omega) Z Z Z Z)) (F7 35 60 50 hF Z Z Z (by rw [List.length_map]) (by simp) Z Z Z Z Z Z Z (fun _ _=>rfl) fun b1 c1 hb1 hc1=>(U (KU (Df Ks2 H2 L2) k13 (some (b1,c1),L2 k13++ [k20.r]) Z Z Z Ls E6 Z Z) (AF ?_))));rw [Lq hN2.kd];have hN3:=hN2.app k13 hb1 hc1
    obtain ⟨K3,hK3⟩:∃K3,JU Ks2 k13=K3:=⟨_,rfl⟩
    obtain ⟨H3,hH3⟩:∃H3,Fj H2 k13 (some (b1,c1))=H3:=⟨_,rfl⟩
    obtain ⟨L3,hL3⟩:∃L3,Fj L2 k13 (L2 k13++ [k20.r])=L3:=⟨_,rfl⟩
    obtain ⟨M3,hM3⟩:∃M3,BL (DB M52 (H2 k13)) b1 (.row 9 1 c1 ((L2 k13++ [k20.r]).map AU))=M3:=⟨_,rfl⟩
    rw [hK3,hH3,hL3,hM3] at hN3⊢;have hb3:(L3 k20.r).length≤3000000:=by rw [←hL3];unfold Fj;have:=hA2.len k20.r;split<;>simp<;>omega
    refine Fh [[],[],[1],[],[],[4],[3,4,5],[],[7],[3,4,5,6,7,8],[0,1,2,3,4,5,6,7,8,9]] mixed rfl (EK ?_)
    first | refine AE [3] [] Z Z (fun _=>AB (Aa Z Z)) ?_ | refine AH [3] Z Z (fun _=>AB (Aa Z Z)) ?_
    first | refine AE [6] [] Z Z (fun _=>AB (A2 rfl CB Z Z Z)) ?_ | refine AH [6] Z Z (fun _=>AB (A2 rfl CB Z Z Z)) ?_ | refine AE [6] [] Z Z (fun _=>AB (A4 rfl CB Z Z Z)) ?_ | refine AH [6] Z Z (fun _=>AB (A4 rfl CB Z Z Z)) ?_ | refine AE [6] [] Z Z (fun _=>AB (A5 rfl CB Z Z Z)) ?_ | refine AH [6] Z Z (fun _=>AB (A5 rfl CB Z Z Z)) ?_ | refine AE [6] [] Z Z (fun _=>AB (A3 rfl CB Z Z Z)) ?_ | refine AH [6] Z Z (fun _=>AB (A3 rfl CB Z Z Z)) ?_ | refine AE [6] [] Z Z (fun _=>AB (A1 rfl CB Z Z Z)) ?_ | refine AH [6] Z Z (fun _=>AB (A1 rfl CB Z Z Z)) ?_
    first | refine AE [37] [4] Z Z (fun _=>AB (AY Z Z AZ rfl)) ?_ | refine AE [37] [4] Z Z (fun _=>AB (AW Z Z Z AZ rfl)) ?_ | refine AE [37] [4] Z Z (fun _=>AB (AX Z Z (rfl) rfl AZ rfl)) ?_
    first | refine AE [3] [] Z Z (fun _=>AB (Aa Z Z)) ?_ | refine AH [3] Z Z (fun _=>AB (Aa Z Z)) ?_
    first | refine AE [6] [] Z Z (fun _=>AB (A2 rfl CB Z Z Z)) ?_ | refine AH [6] Z Z (fun _=>AB (A2 rfl CB Z Z Z)) ?_ | refine AE [6] [] Z Z (fun _=>AB (A4 rfl CB Z Z Z)) ?_ | refine AH [6] Z Z (fun _=>AB (A4 rfl CB Z Z Z)) ?_ | refine AE [6] [] Z Z (fun _=>AB (A5 rfl CB Z Z Z)) ?_ | refine AH [6] Z Z (fun _=>AB (A5 rfl CB Z Z Z)) ?_ | refine AE [6] [] Z Z (fun _=>AB (A3 rfl CB Z Z Z)) ?_ | refine AH [6] Z Z (fun _=>AB (A3 rfl CB Z Z Z)) ?_ | refine AE [6] [] Z Z (fun _=>AB (A1 rfl CB Z Z Z)) ?_ | refine AH [6] Z Z (fun _=>AB (A1 rfl CB Z Z Z)) ?_
    first | refine AE [40] [4] Z Z (fun _=>AB (AY Z Z AZ rfl)) ?_ | refine AE [40] [4] Z Z (fun _=>AB (AW Z Z Z AZ rfl)) ?_ | refine AE [40] [4] Z Z (fun _=>AB (AX Z Z (rfl) rfl AZ rfl)) ?_
    refine AE [39,41] [1] Z Z (fun _=>AB (IM (Df K3 H3 L3) k20.r (none,[]) (H3 k20.r,L3 k20.r) Z Z Z Ls E6 za32 Pv (Lr hN3 k20.r) rfl)) ?_
    first | refine AE [4] [] Z Z (fun _=>AB (Aa Z Z)) ?_ | refine AH [4] Z Z (fun _=>AB (Aa Z Z)) ?_
    refine Bs [43] [6] [(44,_)] Z Z (fun _=>Hl (Gl 6 Bd Z Z Z Z Z Z Z Z)) (.inr ⟨44,_,rfl,rfl,rfl,rfl,rfl⟩) Z Z Z Z Z (Bs [42,44] [50,6,61] [(45,_)] Z Z (fun _=>Hl (Hq 42 61 50 (hN3.at_ k20.r) Z Z (by rw [List.length_map]) Z Z Z Z Z (JE (emb:=AU) (L3 k20.r) [k13] Z Z Z Z Z Z Z Z Bd (by show ((L3 k20.r).length+1)*16≤_;omega) Z Z Z Z))) (.inr ⟨45,_,rfl,rfl,rfl,rfl,rfl⟩) Z Z Z Z Z (EL 10 Z Z Z (B6 11 Z Z (F7 45 61 50 hF Z Z Z (by rw [List.length_map]) (by simp) Z Z Z Z Z Z Z (fun _ _=>rfl) fun b2 c2 hb2 hc2=>(U (KU (Df K3 H3 L3) k20.r (some (b2,c2),L3 k20.r++ [k13]) Z Z Z Ls E6 Z Z) ?_)))));rw [Lq hN3.kd];have hN4:=hN3.app k20.r hb2 hc2;have hA4:NB (acc2++ [(⟨k13,k20.t,k20.r⟩:Lw)]) (Fj L3 k20.r (L3 k20.r++ [k13])):=by rw [←hL3];exact hA2.hit h26
    refine AF ⟨rfl,?_⟩;refine Es ?_;exact ⟨(seen2++ [b20],acc2++ [⟨k13,k20.t,k20.r⟩],_,_,_,_),⟨G2 hP2 hp20,hN4,hA4⟩,by show (Bc (Dp (lk hd)) B2 (seen2++ [b20])).length<(Bc (Dp (lk hd)) B2 seen2).length;rw [hp20.length_eq];exact Nat.lt_succ_self _,BK hF [1,2,3,40,50] rfl (rfl) ⟨rfl,rfl,rfl,rfl,rfl,trivial⟩⟩
   ·refine An ?_;exact ⟨(seen2++ [b20],acc2++ [⟨k13,k20.t,k20.r⟩],Ks2,H2,L2,M52),⟨G2 hP2 hp20,hN2,hA2.skip (l:=⟨k13,k20.t,k20.r⟩) h26⟩,by show (Bc (Dp (lk hd)) B2 (seen2++ [b20])).length<(Bc (Dp (lk hd)) B2 seen2).length;rw [hp20.length_eq];exact Nat.lt_succ_self _,BK hF [1,2,3,40,50] rfl (rfl) ⟨rfl,rfl,rfl,rfl,rfl,trivial⟩⟩
abbrev KF:FuncId:=78
abbrev hVs (q:List St):Hp:=[(920,[.rowD 9 1 (q.map AU)]),(1,[.blk 32 [.own 920 0 q.length]])]
abbrev lpS (l:Nat) (A B:Code) (m:Nat):EQ:=⟨l,13,[(2,.ptr 1 0 0),(6,.fn KF [.d (.ptr (mD m))])],.ready,none, #[7],A,B⟩
theorem keys1_c {M:MF} {m:Nat} {E:List (St×Nat)} (hm:M m=some (.map none (Cx E))) (l:Nat) (A B:Code)
  (hY:∀(q:List St) x,q.length<E.length ->GS Try.prog l [.d (AU x)] ((900,[.loop (lpS l A B m)])::hVs q) fun v H'=>v= .d (.raw (.bool true))∧H'=(900,[.loop (lpS l A B m)])::hVs (q++ [x])):
  AT Try.prog KF [.d (.raw (Cw l)),.d (.ptr (mD m))] ((900,[.loop (lpS l A B m)])::(hVs []++ [(40,[.multi M])])) fun r H'=>r= .tup []∧∃its:List St,its.Perm (E.map Prod.fst)∧H'=(900,[.loop (lpS l A B m)])::(hVs its++ [(40,[.multi M])]):=by
 refine DY Try.func78 Z Z Try.ntmps78 Z Z Z fun F hF=>(AG (Cb 40 m rfl hm (fun _ _=>rfl) fun Bb c hB hBn=>?_))
 obtain ⟨M1,hM1⟩:∃M1,BL M m (.map (some (Bb,c)) (Cx E))=M1:=⟨_,rfl⟩
 have h1m:M1 m=some (.map (some (Bb,c)) (Cx E)):=by rw [←hM1,D2]
 rw [hM1];refine AI ?_
 first | refine J (AY Z Z Bp rfl) ?_ | refine J (AW Z Z Z Bp rfl) ?_ | refine J (AX Z Z (rfl) rfl Bp rfl) ?_
 refine U (C4 2 (f:=40) Z Z (h1m) rfl CT Z Z Z Z) (AF (B9 (Fm (α:=List Nat×List St) (fun q=>⟨14,[(0,.d (.raw (Cw l))),(5,(.ptr 2 0 0))],[(900,[.loop (lpS l A B m)]),(920,[.rowD 9 1 (q.2.map AU)]),(1,[.blk 32 [.own 920 0 q.2.length]]),(2,[.iter 40 m c q.1]),(40,[.multi M1])]⟩) (fun q=>(q.2++(Bc (eE E) Bb q.1).map Prod.fst).Perm (E.map Prod.fst)) (fun q=>(Bc (eE E) Bb q.1).length) (([],[])) (by show ([]++(Bc (eE E) Bb []).map Prod.fst).Perm _;rw [C9 (by simpa [Ac] using hB),Ip];exact List.Perm.refl _) (BK hF [900,920,1,2,40] Z Z ⟨rfl,rfl,trivial⟩) ?_)));rintro ⟨seen,acc⟩ hP;dsimp only at hP⊢;refine AG (AI (E3 (eE E) Z Z Z (h1m) rfl (fun hl6=>?_) (fun j6 b6 k6 v6 hm6 hb6 hB6 hp6=>⟨_,rfl,?_⟩)))
 ·rw [hl6] at hP;refine DC 40 m rfl h1m rfl ?_;rw [show BL M1 m (.map none (Cx E))=M by rw [←hM1,Bw];exact F9 hm]
  first | refine J (Bo Z Z Z) ?_ | refine J (Bn Z Z Z) ?_
  refine AF (AG (Dk Z Z (Eg ?_)));exact ⟨_,[900,920,1,40],_,Av rfl,rfl,rfl,rfl,acc,by simpa using hP,rfl⟩
 ·first | refine J (Bo Z Z Z) ?_ | refine J (Bn Z Z Z) ?_
  refine AF (AG (Kx Z Z (An (B9 (AG (AI (J (C5 (eE E) j6 b6 Z Z Z (h1m) hm6 hb6 rfl) ?_)))))))
  first | refine J (Bo Z Z Z) ?_ | refine J (Bn Z Z Z) ?_
  refine AD Z Z (AF (AG ?_));have hlt:acc.length<E.length:=by have h1:=hP.length_eq;have h2:=hp6.length_eq;simp at h1 h2;omega
  refine AI (AC Z Z (AC Z Z ?_));refine Pk Z Z (hY acc k6 hlt) [900,920,1] ⟨rfl,rfl,rfl,trivial⟩ Z Z Z Z (fun r H' ⟨e1,e2⟩=>by subst e1 e2;exact ⟨rfl,rfl,rfl⟩) rfl fun r H' ⟨e1,e2⟩=>?_;subst e1 e2
  first | refine J (El Z Z) ?_ | refine J (Ek Z Z) ?_
  refine AF (Dk rfl (rfl) (An ?_));exact ⟨(seen++ [b6],acc++ [k6]),F4 hP (y:=[k6]) (by simpa using hp6.map Prod.fst),by show (Bc (eE E) Bb (seen++ [b6])).length<(Bc (eE E) Bb seen).length;rw [hp6.length_eq];exact Nat.lt_succ_self _,BK hF [900,920,1,2,40] rfl (rfl) ⟨rfl,rfl,trivial⟩⟩
theorem keys_c (m:Nat):AT Try.prog 64 [.d (mD m)] [] fun r H'=>r= .fn KF [.d (.ptr (mD m))]∧H'=[]:=by
 refine DY Try.func64 Z Z Try.ntmps64 Z Z Z fun F hF=>(AG (AI (U (Iz 1 Z Z Z Z Z Z Z) ?_)));refine AD Z Z (AF (AG (AI (O0 1 1 (mD m) [] hF Z Z Z (by intro c hc;simp [D.cells] at hc;subst hc;rfl) Z Z Z (J (Ew Z Z) (AD Z Z (AF (Ay ?_))))))));exact ⟨_,[],[],Av rfl,rfl,rfl,rfl,rfl⟩
theorem Qj {M:MF} {m:Nat} {E:List (St×Nat)} (hm:M m=some (.map none (Cx E))) (hE:E.length≤1000000):AT Try.prog 93 [.d (.sl (some true) []),.fn KF [.d (.ptr (mD m))]] [(40,[.multi M])] fun r H'=>∃its:List St,its.Perm (E.map Prod.fst)∧r= .own 920 0 its.length∧H'=[(40,[.multi M]),(920,[.rowD 9 1 (its.map AU)])]:=by
 refine MY Try.func93 Z Z Try.ntmps93 Z Z Z fun F hF hFl=>(AG (AI (U (Iz 1 Z Z Z Z Z Z Z) ?_)));refine AD Z Z (AF (AG (AG (DU 1 0 0 920 Bd Z Z Z Z Z Z Z (AI (AC Z Z (AF (B9 ?_))))))));refine a_keep [2,6] rfl ?_;refine a_range (γ:=List St) hFl 900 Z Z Z Z Z [1,920,40] (CHr:=hVs []++ [(40,[.multi M])]) (fun its=>its.Perm (E.map Prod.fst)) (fun its=>hVs its++ [(40,[.multi M])]) (fun _=> .ready) (fun _=>none) ⟨rfl,rfl,rfl,trivial⟩ Z Z Z (fun _=>rfl) (fun _=>rfl) rfl (fun _ _=>by simp) (fun _ _=>⟨rfl,rfl⟩) [920,1,40] hF Z Z (fun _ _=>rfl) (fun l A B hA hB=>?_) (fun its hits=>?_)
 ·refine (keys1_c hm l A B fun q x hq=>?_).mono (fun r H' ⟨e1,its,e2,e3⟩=>⟨e1,its,e2,by rw [e3]⟩);refine Oy (lf:=900) Z Z Z Z fun F hF hr=>?_;show B1 _ _ A _ _;rw [hA];refine AI (AD Z Z (AF (⟨rfl,_,_,rfl,rfl,rfl,rfl,?_⟩)));show B1 _ _ B _ _;rw [hB];refine B9 (AI ?_)
  first | refine J (AY Z Z AR rfl) ?_ | refine J (AW Z Z Z AR rfl) ?_ | refine J (AX Z Z (rfl) rfl AR rfl) ?_
  refine AC Z Z (U (Gl 30 Bd Z Z Z Z Z Z Z Z) ?_)
  first | refine U (JE (q) ([x]) Z Z Z Z Z Z Z Z Bd (by simp only [List.length_singleton];omega) Z Z Z Z) ?_ | refine U (KM (q) ([x]) Z Z Z Z Z Z (fun _=>rfl) Bd (by simp only [List.length_singleton];omega) Z Z Z Z) ?_
  refine U (Bu Z Z Z Z Z Z Z CD) (AF ?_);exact ⟨none,_,_,[900,920,1],_,rfl,rfl,rfl,rfl,rfl,rfl,rfl,rfl⟩
 ·refine AG (AI ?_)
  first | refine J (AY Z Z AR rfl) ?_ | refine J (AW Z Z Z AR rfl) ?_ | refine J (AX Z Z (rfl) rfl AR rfl) ?_
  refine AD Z Z (AF (Ay ?_));exact ⟨_,[40,920],_,Av rfl,rfl,rfl,its,hits,rfl,rfl⟩
theorem Oj {M:MF} {m:Nat} {E:List (St×Nat)} (hm:M m=some (.map none (Cx E))) (hE:E.length≤1000000):AT Try.prog 77 [.fn KF [.d (.ptr (mD m))]] [(40,[.multi M])] fun r H'=>∃its:List St,its.Perm (E.map Prod.fst)∧r= .own 920 0 its.length∧H'=[(40,[.multi M]),(920,[.rowD 9 1 (its.map AU)])]:=by
 refine DY Try.func77 Z Z Try.ntmps77 Z Z Z fun F hF=>(AG (AI (AD Z Z (AF (AG (AI (AC Z Z ?_)))))));refine Iy (KN (Qj hm hE) rfl [40,920] ⟨rfl,rfl,trivial⟩ Z Z Z Z (fun r H' ⟨its,h1,h2,h3⟩=>by subst h2 h3;exact ⟨rfl,rfl,rfl⟩) rfl) rfl ?_;rintro _ ⟨r,H',⟨its,hits,e1,e2⟩,rfl⟩;subst e1 e2;refine AD Z Z (AF (Ay ?_));exact ⟨_,[40,920],_,Av rfl,rfl,rfl,its,hits,rfl,rfl⟩
theorem PM {M:MF} {m:Nat} {E:List (St×Nat)} {R:List St} (hm:M m=some (.map none (Cx E))) (hE:E.length≤1000000) (hn:(E.map Prod.fst).Nodup) (hR:Gm R) (hRm:∀x,x∈E.map Prod.fst↔x∈R):AT Try.prog 63 [.fn KF [.d (.ptr (mD m))]] [(40,[.multi M])] fun r H'=>r= .d (stsD R)∧H'=[(40,[.multi M])]:=by
 refine DY Try.func63 Z Z Try.ntmps63 Z Z Z fun F hF=>(AG (AI (AD Z Z (AF (AG (AI (AC Z Z ?_)))))));refine Iy (KN (Oj hm hE) rfl [40,920] ⟨rfl,rfl,trivial⟩ Z Z Z Z (fun r H' ⟨its,h1,h2,h3⟩=>by subst h2 h3;exact ⟨rfl,rfl,rfl⟩) rfl) rfl ?_;rintro _ ⟨r,H',⟨its,hits,e1,e2⟩,rfl⟩;subst e1 e2;refine AD Z Z (AF (AG ?_));have hs:Cj its=R:=Gv (hits.nodup_iff.2 hn) hR fun x=>hits.mem_iff.trans (hRm x);have hil:its.length≤1000000:=by rw [hits.length_eq,List.length_map];exact hE
 refine AI (AC Z Z (U (LN QI its (by omega) Z Z Z Z Z Z Z) (AF (AG ?_))));rw [hs];have hl:its.length=R.length:=by rw [←hs,DJ]
 refine Zck (emb:=AU) 3 920 R Z Z Z hl Z Z Z (AI (AC Z Z (AD Z Z (AF (Ay ?_)))));exact ⟨_,[40],_,Av rfl,rfl,rfl,rfl,rfl⟩
abbrev VF:FuncId:=62
abbrev vfA:AV:= .fn VF [.ptr 5 0 0,.ptr 7 0 0,.ptr 4 0 0,.ptr 9 0 0]
abbrev HV (nbs:Option (List Nat×Nat)) (NE:List (St×List St)) (O:List (St×Nat)) (n:Nat) (hs:Nat ->Hd) (ls:Nat ->List St) (M5:MF):Hp:=
 [(4,[.blk 106 [.map 1 0]]),(1,[.map nbs (Ac AU stsD NE)]),(5,[.blk 80 [.map 6 0]]),(6,[O6 AU natD O]),(7,[.blk 79 [.own 8 0 n]]),(8,[.rowD 32 1 (rowS n hs ls)]),(9,[.blk 108 [vfA]]),(50,[.multi M5])]
theorem O4 {α β:Type} [DecidableEq α] {O:List (α×β)} {x:α} {v:β} (h:x∉O.map Prod.fst):Be O x v=O++ [(x,v)]:=by
 induction O with
 | nil=>rfl
 | cons p r ih=>
  have h1:x≠p.1:=fun e=>h (by rw [e];simp);obtain ⟨k,b⟩:=p;show (if x=k then (k,v)::r else (k,b)::Be r x v)=_;rw [if_neg h1,ih fun h'=>h (List.mem_cons_of_mem _ h')]
  rfl
structure VR (w:Ws) (V:List St) (x:St) (ad:List St):Prop where
 nd:ad.Nodup
 nw:∀y∈ad,y∉V∧y∈w.R∧Gp w x y
 self:x∈V∨x∈ad
 cl:∀y∈ad,∀z,JY w y z ->z∈V∨z∈ad
structure VP (w:Ws) (V:List St) (x:St) (ls:List St) (k:Nat) (ad:List St):Prop where
 nd:ad.Nodup
 nw:∀y∈ad,y∉V∧y∈w.R∧Gp w x y
 self:x∈ad
 cl:∀y∈ad,y≠x ->∀z,JY w y z ->z∈V∨z∈ad
 here:∀j,j<k ->∀z,ls[j]?=some z ->z∈V∨z∈ad
theorem VR.done {w:Ws} {V:List St} {x:St} (h:x∈V):VR w V x []:=⟨List.nodup_nil,(fun _ h=>by cases h),.inl h,(fun _ h=>by cases h)⟩
theorem VP.start {w:Ws} {V:List St} {x:St} {ls:List St} (h:x∉V) (hx:x∈w.R):VP w V x ls 0 [x]:=by
 refine ⟨by simp,fun y hy=>?_,by simp,fun y hy hne=>?_,fun j hj=>by omega⟩
 ·simp at hy;subst hy;exact ⟨h,hx,.refl⟩
 ·simp at hy;exact absurd hy hne
theorem VP.next {w:Ws} {V:List St} {x:St} {ls:List St} {k:Nat} {ad ad':List St} (h:VP w V x ls k ad) {y:St} (hk:ls[k]?=some y) (hxy:JY w x y) (h':VR w (V++ad) y ad'):VP w V x ls (k+1) (ad++ad'):=by
 refine ⟨?_,fun z hz=>?_,List.mem_append_left _ h.self,fun z hz hne u hu=>?_,fun j hj z hz=>?_⟩
 ·rw [List.nodup_append];refine ⟨h.nd,h'.nd,fun a ha b hb e=>?_⟩;subst e;exact (h'.nw a hb).1 (List.mem_append_right _ ha)
 ·rcases List.mem_append.1 hz with hz | hz
  ·exact h.nw z hz
  ·obtain ⟨h1,h2,h3⟩:=h'.nw z hz;exact ⟨fun hv=>h1 (List.mem_append_left _ hv),h2,(BP.one hxy).trans h3⟩
 ·rcases List.mem_append.1 hz with hz | hz
  ·rcases h.cl z hz hne u hu with h1 | h1
   ·exact .inl h1
   ·exact .inr (List.mem_append_left _ h1)
  ·rcases h'.cl z hz u hu with h1 | h1
   ·rcases List.mem_append.1 h1 with h1 | h1
    ·exact .inl h1
    ·exact .inr (List.mem_append_left _ h1)
   ·exact .inr (List.mem_append_right _ h1)
 ·by_cases hjk:j<k
  ·rcases h.here j hjk z hz with h1 | h1
   ·exact .inl h1
   ·exact .inr (List.mem_append_left _ h1)
  ·have:j=k:=by omega
   subst this;rw [hk] at hz;injection hz with hz;subst hz
   rcases h'.self with h1 | h1
   ·rcases List.mem_append.1 h1 with h1 | h1
    ·exact .inl h1
    ·exact .inr (List.mem_append_left _ h1)
   ·exact .inr (List.mem_append_right _ h1)
theorem VP.fin {w:Ws} {V:List St} {x:St} {ls:List St} {ad:List St} (h:VP w V x ls ls.length ad) (hls:∀z,z∈ls↔JY w x z):VR w V x ad:=by
 refine ⟨h.nd,h.nw,.inr h.self,fun y hy z hz=>?_⟩
 by_cases e:y=x
 ·subst e;obtain ⟨j,hj,rfl⟩:=List.getElem_of_mem ((hls z).2 hz);exact h.here j hj _ (List.getElem?_eq_getElem hj)
 ·exact h.cl y hy e z hz
abbrev addO (O:List (St×Nat)) (ad:List St) (g:Nat):List (St×Nat):=O++ad.map fun y=>(y,g)
theorem FM (O:List (St×Nat)) (ad:List St) (g:Nat):(addO O ad g).map Prod.fst=O.map Prod.fst++ad:=by
 rw [List.map_append,List.map_map];congr 1;exact List.map_id _
theorem Ql (O:List (St×Nat)) (a b:List St) (g:Nat):addO (addO O a g) b g=addO O (a++b) g:=by simp [addO]
theorem NK {V R:List St} (hn:V.Nodup) (hs:∀y∈V,y∈R):V.length≤R.length:=hn.length_le_of_subset hs
theorem F1 {α:Type} {f:Nat ->α} {i:Nat} {x y:α}:Ak (Ak f i x) i y=Ak f i y:=by
 funext j;unfold Ak;split<;>rfl
structure NbOk (w:Ws) (NE:List (St×List St)) (L:St ->List St):Prop where
 get:∀x,CN NE x [] =L x
 wth:∀x y,y∈L x↔JY w x y
 len:∀x,(L x).length≤2000000
theorem nil_st:∀w O v,AO w O (.sl (some true) []) v ->AO w O (stsD []) v:=fun _ _ _ h=>h.anyNil
set_option maxHeartbeats 1000000 in
theorem visit_c {w:Ws} (hw:Ba w) {nbs:Option (List Nat×Nat)} {NE:List (St×List St)} {L:St ->List St} (hL:NbOk w NE L) (n:Nat) (hn0:0<n) (hn1:n≤5000):
  ∀(k:Nat) (O:List (St×Nat)) (hs:Nat ->Hd) (ls:Nat ->List St) (M5:MF) (x:St),w.R.length - O.length≤k ->x∈w.R ->(O.map Prod.fst).Nodup ->(∀y∈O.map Prod.fst,y∈w.R) ->LF M5 n hs ls ->(ls (n - 1)).length≤O.length→
  AT Try.prog VF [.d (AU x),.ptr 5 0 0,.ptr 7 0 0,.ptr 4 0 0,.ptr 9 0 0] (HV nbs NE O n hs ls M5) fun r H'=>∃(ad:List St) (hs':Nat ->Hd) (M5':MF),r= .tup []∧H'=HV nbs NE (addO O ad (n - 1)) n hs' (Ak ls (n - 1) (ls (n - 1)++ad)) M5'∧LF M5' n hs' (Ak ls (n - 1) (ls (n - 1)++ad))∧VR w (O.map Prod.fst) x ad:=by
 intro k
 induction k with
 | zero=>
  intro O hs ls M5 x hk hx hnd hsub hG hlen
  have hxO:x∈O.map Prod.fst:=Classical.byContradiction fun hxO=>by
   have h1:=NK (V:=x::O.map Prod.fst) (R:=w.R) (List.nodup_cons.2 ⟨hxO,hnd⟩) (fun y hy=>by
    rcases List.mem_cons.1 hy with rfl | hy
    ·exact hx
    ·exact hsub y hy)
   simp at h1;omega
  refine DY Try.func62 Z Z Try.ntmps62 Z Z Z fun F hF=>(AG (AG (AI ?_)))
  first | refine J (AY Z Z En rfl) ?_ | refine J (AW Z Z Z En rfl) ?_ | refine J (AX Z Z (rfl) rfl En rfl) ?_
  refine AC Z Z (J (F2 (O) (x) (0) Z Z Z Hc E6 za3 rfl) (AC Z Z ?_))
  first | refine J (Bo Z Z Z) ?_ | refine J (Bn Z Z Z) ?_
  first | refine J (Bo Z Z Z) ?_ | refine J (Bn Z Z Z) ?_
  refine AD Z Z (AD Z Z (AF (AG (AI (AC Z Z (AF (Kx rfl ((Cs.2 hxO)) (Ay ?_))))))));exact ⟨_,[4,1,5,6,7,8,9,50],_,Av rfl,rfl,rfl,[],hs,M5,rfl,by rw [List.append_nil,D4 rfl];simp [addO],by rw [List.append_nil,D4 rfl];exact hG,VR.done hxO⟩
 | succ k ih=>
  intro O hs ls M5 x hk hx hnd hsub hG hlen
  by_cases hxO:x∈O.map Prod.fst
  ·skip;refine DY Try.func62 Z Z Try.ntmps62 Z Z Z fun F hF=>(AG (AG (AI ?_)))
   first | refine J (AY Z Z En rfl) ?_ | refine J (AW Z Z Z En rfl) ?_ | refine J (AX Z Z (rfl) rfl En rfl) ?_
   refine AC Z Z (J (F2 (O) (x) (0) Z Z Z Hc E6 za3 rfl) (AC Z Z ?_))
   first | refine J (Bo Z Z Z) ?_ | refine J (Bn Z Z Z) ?_
   first | refine J (Bo Z Z Z) ?_ | refine J (Bn Z Z Z) ?_
   refine AD Z Z (AD Z Z (AF (AG (AI (AC Z Z (AF (Kx rfl ((Cs.2 hxO)) (Ay ?_))))))));exact ⟨_,[4,1,5,6,7,8,9,50],_,Av rfl,rfl,rfl,[],hs,M5,rfl,by rw [List.append_nil,D4 rfl];simp [addO],by rw [List.append_nil,D4 rfl];exact hG,VR.done hxO⟩
  ·have hxF:He O x=false:=by rw [Bool.eq_false_iff];exact fun h=>hxO (Cs.1 h)
   have hOl:O.length+1≤w.R.length:=by
    have h1:=NK (V:=x::O.map Prod.fst) (R:=w.R) (List.nodup_cons.2 ⟨hxO,hnd⟩) (fun y hy=>by
     rcases List.mem_cons.1 hy with rfl | hy
     ·exact hx
     ·exact hsub y hy)
    simpa using h1
   have hfew:=hw.few;have hn1':n - 1<n:=by omega
   refine DY Try.func62 Z Z Try.ntmps62 Z Z Z fun F hF=>(AG (AG (AI ?_)))
   first | refine J (AY Z Z En rfl) ?_ | refine J (AW Z Z Z En rfl) ?_ | refine J (AX Z Z (rfl) rfl En rfl) ?_
   refine AC Z Z (J (F2 (O) (x) (0) Z Z Z Hc E6 za3 rfl) (AC Z Z ?_))
   first | refine J (Bo Z Z Z) ?_ | refine J (Bn Z Z Z) ?_
   first | refine J (Bo Z Z Z) ?_ | refine J (Bn Z Z Z) ?_
   refine AD Z Z (AD Z Z ?_);refine AF (AG (AI (AC Z Z (AF (Dk rfl (hxF) (An (AG (AI ?_))))))))
   first | refine J (AY Z Z Do rfl) ?_ | refine J (AW Z Z Z Do rfl) ?_ | refine J (AX Z Z (rfl) rfl Do rfl) ?_
   first | refine J (JL rfl Try.underlying79 rfl) ?_ | refine J (CG Z Z Try.underlying79 rfl) ?_ | refine J (JG rfl Try.underlying79 rfl) ?_ | refine J (JJ rfl Try.underlying79 rfl) ?_ | refine J (JF rfl Try.underlying79 rfl) ?_ | refine J (Ix rfl Try.underlying79 rfl) ?_
   refine J (DN Z Z (show IntKind.i64.wrap ((n:Int) - 1)=((n - 1:Nat):Int) from by rw [show ((n:Int) - 1)=((n - 1:Nat):Int) by omega];exact IntWalk.i64_in _ (by omega)) rfl) (AD Z Z (AF (AG (AI ?_))))
   first | refine J (AY Z Z En rfl) ?_ | refine J (AW Z Z Z En rfl) ?_ | refine J (AX Z Z (rfl) rfl En rfl) ?_
   refine AC Z Z (AC Z Z ?_)
   first | refine U (KU (O) (x) (n - 1) Z Z Z Hc E6 Z Z) ?_ | refine U (PG (O) (x) (n - 1) Z Z Z Hc E6 Z Z) ?_
   refine AF (AG ?_);rw [O4 hxO];refine Fh [[],[],[],[],[2,3],[2,3,4],[],[6],[2,3,4,5,6,7],[0,1,2,3,4,5,6,7,8],[0,1,2,3,4,5,6,7,8,9]] mixed rfl (EK ?_)
   first | refine AE [2] [7] Z Z (fun _=>AB (AY Z Z Do rfl)) ?_ | refine AE [2] [7] Z Z (fun _=>AB (AW Z Z Z Do rfl)) ?_ | refine AE [2] [7] Z Z (fun _=>AB (AX Z Z (rfl) rfl Do rfl)) ?_
   first | refine AE [8] [] Z Z (fun _=>AB (Aa Z Z)) ?_ | refine AH [8] Z Z (fun _=>AB (Aa Z Z)) ?_
   first | refine AE [2] [7] Z Z (fun _=>AB (AY Z Z Do rfl)) ?_ | refine AE [2] [7] Z Z (fun _=>AB (AW Z Z Z Do rfl)) ?_ | refine AE [2] [7] Z Z (fun _=>AB (AX Z Z (rfl) rfl Do rfl)) ?_
   first | refine AE [8] [] Z Z (fun _=>AB (Aa Z Z)) ?_ | refine AH [8] Z Z (fun _=>AB (Aa Z Z)) ?_
   first | refine AE [26,27] [8] Z Z (fun _=>AB (BM (n - 1) Z Z (rfl) (hn1') Try.underlying79 rfl CD rfl)) ?_ | refine AE [26,27] [8] Z Z (fun _=>AB (BN (n - 1) Z Z (rfl) (hn1') rfl Try.underlying79 CD rfl)) ?_
   first | refine AE [28] [8] Z Z (fun _=>AB (AY Z Z AR rfl)) ?_ | refine AE [28] [8] Z Z (fun _=>AB (AW Z Z Z AR rfl)) ?_ | refine AE [28] [8] Z Z (fun _=>AB (AX Z Z (Ez hn1') rfl AR rfl)) ?_
   first | refine AE [0] [] Z Z (fun _=>AB (Aa Z Z)) ?_ | refine AH [0] Z Z (fun _=>AB (Aa Z Z)) ?_
   refine Bs [30] [20] [(31,_)] Z Z (fun _=>Hl (Gl 20 Bd Z Z Z Z Z Z Z Z)) (.inr ⟨31,_,rfl,rfl,rfl,rfl,rfl⟩) Z Z Z Z Z (Bs [29,31] [50,20,60] [(32,_)] Z Z (fun _=>Hl (Hq 29 60 50 (hG.at_ (n - 1) hn1') Z Z (by rw [List.length_map]) Z Z Z Z Z (JE (emb:=AU) (ls (n - 1)) [x] Z Z Z Z Z Z Z Z Bd (by show ((ls (n - 1)).length+1)*16≤_;omega) Z Z Z Z))) (.inr ⟨32,_,rfl,rfl,rfl,rfl,rfl⟩) Z Z Z Z Z (EL 9 Z Z Z (B6 10 Z Z (F7 32 60 50 hF Z Z Z (by rw [List.length_map]) (by simp) Z Z Z Z Z Z Z (fun _ _=>rfl) fun b c hb hc=>?_))))
   first | refine J (BM (n - 1) Z Z (rfl) (hn1') Try.underlying79 rfl CD rfl) ?_ | refine J (BN (n - 1) Z Z (rfl) (hn1') rfl Try.underlying79 CD rfl) ?_
   refine AF ⟨rfl,?_⟩;refine B6 11 Z Z (U (Zcp Z Z Z Z Z (by rw [Qq];exact hn1') (PR (h:=some (b,c))) rfl CD) (AF ⟨rfl,?_⟩));refine Es (AG ?_);have hG1:=hG.app hn1' hb hc;refine AI ?_
   first | refine J (AY Z Z Pg rfl) ?_ | refine J (AW Z Z Z Pg rfl) ?_ | refine J (AX Z Z (rfl) rfl Pg rfl) ?_
   refine AC Z Z (J (IM NE x [] (L x) Z Z Z Ls E6 za32 nil_st (hL.get x) rfl) (J (CG rfl (List.length_map ..) Try.underlying32 rfl) (AC Z Z (AF (B9 (Fm (α:=Nat×List St×(Nat ->Hd)×MF) (fun q=>⟨46,[(3,.ptr 4 0 0),(4,.ptr 9 0 0),(36,(.d (stsD (L x)))),(37,(.d (natD (L x).length))),(38,(.d (natD q.1)))],HV nbs NE (addO O q.2.1 (n - 1)) n q.2.2.1 (Ak ls (n - 1) (ls (n - 1)++q.2.1)) q.2.2.2⟩) (fun q=>q.1≤(L x).length∧VP w (O.map Prod.fst) x (L x) q.1 q.2.1∧LF q.2.2.2 n q.2.2.1 (Ak ls (n - 1) (ls (n - 1)++q.2.1))) (fun q=>(L x).length - q.1) ((0,[x],Ak hs (n - 1) (some (b,c)),BL (DB M5 (hs (n - 1))) b (.row 9 1 c ((ls (n - 1)++ [x]).map AU)))) (⟨Nat.zero_le _,VP.start hxO hx,hG1⟩) (BK hF [4,1,5,6,7,8,9,50] Z Z ⟨rfl,rfl,rfl,rfl,rfl,trivial⟩) ?_))))));rintro ⟨j,ad,hs2,M52⟩ ⟨hj,hV,hG2⟩;dsimp only at hj hV hG2⊢;refine AG (AI ?_)
   first | refine J (Eo Z Z Z) ?_ | refine J (Ep Z Z Z) ?_
   refine AF (AG ?_)
   first | refine BG rfl (fun h39=>?_) (fun h39=>?_) | refine BB rfl (fun h39=>?_) (fun h39=>?_)
   ·have hjl:j<(L x).length:=H9 h39;refine An (AG (B9 (AG (AI ?_))));have hxy:JY w x (L x)[j]:=(hL.wth x _).1 (List.getElem_mem hjl);have hlL:=hL.len x
    first | refine J (BM (j) Z Z (rfl) (Oc hjl) Try.underlying32 rfl ER rfl) ?_ | refine J (BN (j) Z Z (rfl) (Oc hjl) rfl Try.underlying32 ER rfl) ?_
    first | refine J (AY Z Z AZ rfl) ?_ | refine J (AW Z Z Z AZ rfl) ?_ | refine J (AX Z Z (rfl) rfl AZ rfl) ?_
    refine AD Z Z (AF (AI ?_));have hal:1≤ad.length:=List.length_pos_of_mem hV.self;have hnd2:((addO O ad (n - 1)).map Prod.fst).Nodup:=by rw [FM,List.nodup_append];exact ⟨hnd,hV.nd,fun a ha b hb e=>(hV.nw b hb).1 (e▸ha)⟩
    have hsub2:∀y∈(addO O ad (n - 1)).map Prod.fst,y∈w.R:=fun y hy=>by rw [FM] at hy;exact (List.mem_append.1 hy).elim (hsub y) fun h=>(hV.nw y h).2.1
    have hlen2:(Ak ls (n - 1) (ls (n - 1)++ad) (n - 1)).length≤(addO O ad (n - 1)).length:=by rw [Dj];simp;omega
    have hk2:w.R.length - (addO O ad (n - 1)).length≤k:=by simp;omega
    first | refine J (AY Z Z Jj rfl) ?_ | refine J (AW Z Z Z Jj rfl) ?_ | refine J (AX Z Z (rfl) rfl Jj rfl) ?_
    refine AC Z Z ?_;refine Iy (J4 (ih (addO O ad (n - 1)) hs2 _ M52 (L x)[j] hk2 (hxy.mem hw).2 hnd2 hsub2 hG2 hlen2) rfl [4,1,5,6,7,8,9,50] ⟨rfl,rfl,rfl,rfl,rfl,rfl,rfl,rfl,trivial⟩ Z Z Z Z (fun r H' ⟨ad',hs3,M53,e1,e2,_,_⟩=>by subst e1 e2;exact ⟨rfl,rfl,rfl⟩) rfl) rfl ?_;rintro _ ⟨r,H',⟨ad',hs3,M53,e1,e2,hG3,hVR⟩,rfl⟩;subst e1 e2;rw [FM] at hVR;refine AF (AI (J (DA Z Z (IntWalk.i64_in _ (by omega)) rfl) (AC Z Z (AF ?_))));exact ⟨(j+1,ad++ad',hs3,M53),⟨hjl,hV.next (List.getElem?_eq_getElem hjl) hxy hVR,by rw [←List.append_assoc];rw [Dj,F1] at hG3;exact hG3⟩,by show (L x).length - (j+1)<(L x).length - j;omega,BK hF [4,1,5,6,7,8,9,50] rfl (by rw [Dj,F1,Ql,List.append_assoc];rfl) ⟨rfl,rfl,rfl,rfl,rfl,trivial⟩⟩
   ·have hje:j=(L x).length:=by have:=h39;omega
    refine Eg ?_;subst hje;exact ⟨_,[4,1,5,6,7,8,9,50],_,Av rfl,rfl,rfl,ad,hs2,M52,rfl,rfl,hG2,hV.fin (hL.wth x)⟩
open Classical in
noncomputable def lstF (w:Ws) (l:List St):List (List St):=(l.filter fun a=>decide (J0 w a)).map (cls w)
theorem QC (w:Ws):lstF w w.R=parts w:=rfl
structure PI (w:Ws) (k:Nat) (O:List (St×Nat)) (n:Nat) (ls:Nat ->List St):Prop where
 nd:(O.map Prod.fst).Nodup
 ks:∀y,y∈O.map Prod.fst↔y∈w.R∧∃i x,i<k∧w.R[i]?=some x∧Gp w x y
 rows:OO n ls=lstF w (w.R.take k)
 vals:∀p∈O,p.2<n∧ls p.2=cls w p.1
 le:n≤k
theorem PI.zero {w:Ws}:PI w 0 [] 0 (fun _=> []):=⟨List.nodup_nil,fun y=>by simp,by simp [OO,lstF],(fun _ h=>by cases h),Nat.le_refl _⟩
theorem srt_lt {R:List St} (h:Gm R) {i j:Nat} {x y:St} (hi:R[i]?=some x) (hj:R[j]?=some y) (hlt:x<y):i<j:=by
 obtain ⟨h1,rfl⟩:=List.getElem?_eq_some_iff.1 hi;obtain ⟨h2,rfl⟩:=List.getElem?_eq_some_iff.1 hj;rcases Nat.lt_trichotomy i j with h3 | h3 | h3
 ·exact h3
 ·subst h3;exact absurd hlt (GC _)
 ·exact absurd hlt (PL (List.pairwise_iff_getElem.1 h j i h2 h1 h3))
theorem PI.old {w:Ws} (hw:Ba w) {k:Nat} {O:List (St×Nat)} {n:Nat} {ls:Nat ->List St} (h:PI w k O n ls) (hk:k<w.R.length) (hx:w.R[k]∈O.map Prod.fst):PI w (k+1) O n ls:=by
 obtain ⟨_,i,x,hi,hxi,hc⟩:=(h.ks _).1 hx;refine ⟨h.nd,fun y=>?_,?_,h.vals,Nat.le_succ_of_le h.le⟩
 ·rw [h.ks]
  constructor
  ·rintro ⟨hy,j,z,hj,hz,hc2⟩;exact ⟨hy,j,z,by omega,hz,hc2⟩
  ·rintro ⟨hy,j,z,hj,hz,hc2⟩
   by_cases e:j=k
   ·subst e;rw [List.getElem?_eq_getElem hk] at hz;injection hz with hz;subst hz
    exact ⟨hy,i,x,hi,hxi,hc.trans hc2⟩
   ·exact ⟨hy,j,z,by omega,hz,hc2⟩
 ·rw [h.rows,List.take_succ_eq_append_getElem hk];unfold lstF;rw [List.filter_append,List.map_append]
  have hn:¬J0 w w.R[k]:=fun hl=>by
   obtain ⟨h1,rfl⟩:=List.getElem?_eq_some_iff.1 hxi;exact hl _ (List.getElem_mem h1) hc.symm (List.pairwise_iff_getElem.1 hw.srt i k h1 hk hi)
  simp [hn]
theorem PI.new {w:Ws} (hw:Ba w) {k:Nat} {O:List (St×Nat)} {n:Nat} {ls:Nat ->List St} (h:PI w k O n ls) (hk:k<w.R.length) (hx:w.R[k]∉O.map Prod.fst) {ad:List St} (hv:VR w (O.map Prod.fst) w.R[k] ad):
  Cj ad=cls w w.R[k]∧PI w (k+1) (addO O ad n) (n+1) (Ak ls n (cls w w.R[k])):=by
 have hR:w.R[k]∈w.R:=List.getElem_mem hk;have hself:w.R[k]∈ad:=hv.self.resolve_left hx
 have hall:∀z,Gp w w.R[k] z ->z∈ad:=fun z hz=>BP.closed (p:=fun z=>z∈ad) (fun a b ha hab=>by
  rcases hv.cl a ha b hab with h1 | h1
  ·obtain ⟨_,i,x,hi,hxi,hc⟩:=(h.ks b).1 h1;obtain ⟨q1,q2,_⟩:=hv.nw a ha;exact absurd ((h.ks a).2 ⟨q2,i,x,hi,hxi,hc.trans (BP.one hab.symm)⟩) q1
  ·exact h1) hself hz
 have hmem:∀y,y∈ad↔y∈cls w w.R[k]:=fun y=>by
  rw [NW];exact ⟨fun hy=>⟨(hv.nw y hy).2.1,(hv.nw y hy).2.2⟩,fun hy=>hall y hy.2⟩
 have hL:J0 w w.R[k]:=fun x hxR hc hlt=>by
  obtain ⟨i,hi,rfl⟩:=List.getElem_of_mem hxR;have hik:=srt_lt hw.srt (List.getElem?_eq_getElem hi) (List.getElem?_eq_getElem hk) hlt;exact hx ((h.ks _).2 ⟨hR,i,_,hik,List.getElem?_eq_getElem hi,hc.symm⟩)
 refine ⟨Gv hv.nd (Gk hw _) hmem,?_,fun y=>?_,?_,fun p hp=>?_,by have:=h.le;omega⟩
 ·rw [FM,List.nodup_append];exact ⟨h.nd,hv.nd,fun a ha b hb e=>(hv.nw b hb).1 (e▸ha)⟩
 ·rw [FM,List.mem_append,h.ks,hmem,NW]
  constructor
  ·rintro (⟨hy,i,x,hi,hxi,hc⟩ | ⟨hy,hc⟩)
   ·exact ⟨hy,i,x,by omega,hxi,hc⟩
   ·exact ⟨hy,k,_,by omega,List.getElem?_eq_getElem hk,hc⟩
  ·rintro ⟨hy,i,x,hi,hxi,hc⟩
   by_cases e:i=k
   ·subst e;rw [List.getElem?_eq_getElem hk] at hxi;injection hxi with hxi;subst hxi
    exact .inr ⟨hy,hc⟩
   ·exact .inl ⟨hy,i,x,by omega,hxi,hc⟩
 ·have h1:OO (n+1) (Ak ls n (cls w w.R[k]))=OO n ls++ [cls w w.R[k]]:=by
   unfold OO;rw [List.range_succ,List.map_append]
   congr 1
   ·exact List.map_congr_left fun i hi=>EP (by have:=List.mem_range.1 hi;omega)
   ·simp [Dj]
  rw [h1,h.rows,List.take_succ_eq_append_getElem hk];unfold lstF;rw [List.filter_append,List.map_append]
  simp [hL]
 ·rcases List.mem_append.1 hp with hp | hp
  ·obtain ⟨h1,h2⟩:=h.vals p hp;exact ⟨by omega,by rw [EP (by omega)];exact h2⟩
  ·obtain ⟨y,hy,rfl⟩:=List.mem_map.1 hp;exact ⟨by show n<n+1;omega,by show Ak ls n (cls w w.R[k]) n=_;rw [Dj];exact NP ((hmem y).1 hy |>NW.1).2⟩
theorem PI.fin {w:Ws} (hw:Ba w) {O:List (St×Nat)} {n:Nat} {ls:Nat ->List St} (h:PI w w.R.length O n ls):OO n ls=parts w∧∀x∈w.R,CN O x 0=idx w x:=by
 have h1:OO n ls=parts w:=by rw [h.rows,List.take_length,QC]
 refine ⟨h1,fun x hx=>?_⟩;obtain ⟨i,hi,e⟩:=List.getElem_of_mem hx;have hm:x∈O.map Prod.fst:=(h.ks x).2 ⟨hx,i,x,hi,by rw [List.getElem?_eq_getElem hi,e],.refl⟩;obtain ⟨p,hp,e⟩:=List.mem_map.1 hm;subst e;obtain ⟨h2,h3⟩:=h.vals p hp;rw [HU h.nd hp];refine (NH hw (i:=p.2) (g:=cls w p.1) ?_ (C7 hx)).symm;rw [←h1,N6 h2,h3]
theorem PA {n:Nat} {hs:Nat ->Hd} {ls:Nat ->List St}:∀(j:Nat) x y,(rowS n hs ls++ [D.sl (some true) []])[j]?=some x ->(rowS (n+1) (Ak hs n none) (Ak ls n []))[j]?=some y ->∀w O v,AO w O x v ->AO w O y v:=by
 intro j x y hx hy w O v hr;have hj:j<n+1:=by have:=(List.getElem?_eq_some_iff.1 hy).1;rwa [Qq] at this
 rw [Ez hj] at hy;injection hy with hy
 subst hy
 by_cases e:j=n
 ·subst e;rw [List.getElem?_append_right (by rw [Qq];exact Nat.le_refl _),Qq,Nat.sub_self] at hx;injection hx with hx
  subst hx;rw [Dj,Dj];exact hr.nrm1
 ·have hj':j<n:=by omega
  rw [List.getElem?_append_left (by rw [Qq];exact hj'),Ez hj'] at hx;injection hx with hx
  subst hx;rw [EP e,EP e];exact hr
theorem LF.grow {M:MF} {n:Nat} {hs:Nat ->Hd} {ls:Nat ->List St} (h:LF M n hs ls):LF M (n+1) (Ak hs n none) (Ak ls n []):=by
 refine ⟨fun j hj=>?_,fun j k b c c' hj hk e1 e2=>?_⟩
 ·by_cases e:j=n
  ·subst e;rw [Dj,Dj];exact rfl
  ·rw [EP e,EP e];exact h.at_ j (by omega)
 ·by_cases ej:j=n
  ·subst ej;rw [Dj] at e1;cases e1
  ·by_cases ek:k=n
   ·subst ek;rw [Dj] at e2;cases e2
   ·rw [EP ej] at e1;rw [EP ek] at e2;exact h.inj j k b c c' (by omega) (by omega) e1 e2
end Go.Proofs.Ytlmedakidpaeeaa
