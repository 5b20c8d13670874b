/- Layer 27: the reference's insert and depends. -/
import Derived.Test.YtlmedakidpaeeaaMg20
namespace Go.Proofs.Ytlmedakidpaeeaa
open Go.RowKit
set_option maxRecDepth 100000
theorem OB:∀(a b:List UInt8),Op.bytesLess a b=decide (a<b)
 | [],[]=>by simp [Op.bytesLess]
 | [],_::_=>by simp [Op.bytesLess]
 | _::_,[]=>by simp [Op.bytesLess]
 | a::x,b::y=>by
  simp only [Op.bytesLess,OB x y];rw [Bool.eq_iff_iff]
  simp [List.cons_lt_cons_iff]
theorem Q2 (a b:St):AV.d (.raw (.bool (Op.bytesLess (⟨a.toArray⟩:ByteArray).toList (⟨b.toArray⟩:ByteArray).toList)))= .d (Ar (decide (a<b))):=by
 rw [Lib.toList_data,Lib.toList_data];show AV.d (.raw (.bool (Op.bytesLess a b)))=_;rw [OB]
def IG (ins:Bool) (l:List St) (x:St):List St:=if ins then l else Bf l x
theorem LJ {l:List St} {k:Nat} (h:k<l.length):l.drop k=l.getD k []::l.drop (k+1):=by
 rw [List.drop_eq_getElem_cons h,List.getD_eq_getElem?_getD,List.getElem?_eq_getElem h];rfl
theorem Qj {out l:List St} {k:Nat} {x:St} (h:k<l.length) (hx:x<l.getD k []) (e:out++IG false (l.drop k) x=Bf l x):(out++ [x]++ [l.getD k []])++IG true (l.drop (k+1)) x=Bf l x:=by
 rw [←e,LJ h];show (out++ [x]++ [l.getD k []])++l.drop (k+1)=out++Bf (l.getD k []::l.drop (k+1)) x;rw [show Bf (l.getD k []::l.drop (k+1)) x=x::l.getD k []::l.drop (k+1) by rw [Bf,if_pos hx]]
 simp
theorem PC {out l:List St} {k:Nat} {x:St} (h:k<l.length) (hx:¬x<l.getD k []) (e:out++IG false (l.drop k) x=Bf l x):(out++ [l.getD k []])++IG false (l.drop (k+1)) x=Bf l x:=by
 rw [←e,LJ h];simp only [IG,Bf,if_neg hx]
 simp
theorem PD {out l:List St} {k:Nat} {x:St} (h:k<l.length) (e:out++IG true (l.drop k) x=Bf l x):(out++ [l.getD k []])++IG true (l.drop (k+1)) x=Bf l x:=by
 rw [←e,LJ h]
 simp [IG]
theorem MY {out l:List St} {k:Nat} {x:St} {ins:Bool} (e:out++IG ins (l.drop k) x=Bf l x):out.length≤l.length+1:=by
 have:=congrArg List.length e;rw [List.length_append,DY] at this;omega
theorem EY (l:List St) (x:St) (hl:l.length≤100000):BW Try.prog 54 [.d (stsD l),.d (AU x)] (stsD (Bf l x)):=by
 refine DI Try.func54 Z Z Try.ntmps54 Z Z Z fun F hF=>(AE (AH ?_));refine AD Z Z (AF (AE (AH (AD Z Z (AF (AE (AH (AD Z Z ?_))))))));refine AF (AE (AE (AH (AD Z Z (AF (BU (Eu 5 1 B7 Z Z Z Z (Ev (α:=Nat×List St×Bool) (fun q=>⟨42,[(0,.d (stsD l)),(1,.d (AU x)),(5,(.own 1 0 q.2.1.length)),(6,(.d (Ar q.2.2))),(7,(.d (natD q.1)))],[(1,[.rowD 9 1 (q.2.1.map AU)])]⟩) (fun q=>q.1≤l.length∧q.2.1++IG q.2.2 (l.drop q.1) x=Bf l x) (fun q=>l.length - q.1) ((0,[],false)) (⟨Nat.zero_le _,by simp [IG]⟩) (Ax hF [1] Z Z ⟨rfl,rfl,rfl,rfl,rfl,trivial⟩) ?_))))))));rintro ⟨k,out,ins⟩ ⟨hk,he⟩;dsimp only at hk he⊢;refine AE (AE (AH (AC Z Z (AC Z Z (J (CI rfl (List.length_map ..) Try.underlying32 rfl) ?_)))))
 first | refine J (EG Z Z Z) ?_ | refine J (EK Z Z Z) ?_
 refine AF ?_
 first | refine BA rfl (fun h11=>?_) (fun h11=>?_) | refine Aw rfl (fun h11=>?_) (fun h11=>?_)
 ·refine Aj (AE (BU (AE (AE ?_))));have hkl:k<l.length:=GR h11;have hol:=MY he;refine AH (AC Z Z ?_)
  first | refine J (FB Z Z) ?_ | refine J (FA Z Z) ?_
  refine AC Z Z ?_
  first | refine K6 16 rfl (fun h16=>?_) (fun h16=>?_) | refine J0 16 rfl (fun h16=>?_) (fun h16=>?_)
  ·refine Ab Z Z Z (AC Z Z (Ab Z Z Z (AC Z Z (Ab Z Z Z (AC Z Z (Ab Z Z Z ?_))))))
   first | refine J (BC (k) Z Z (rfl) (D9 hkl) Try.underlying32 rfl DE rfl) ?_ | refine J (BD (k) Z Z (rfl) (D9 hkl) rfl Try.underlying32 DE rfl) ?_
   refine Ab Z Z Z ?_
   first | refine J (AZ Z Z AW rfl) ?_ | refine J (AX Z Z Z AW rfl) ?_ | refine J (AY Z Z (rfl) rfl AW rfl) ?_
   refine Ab Z Z Z ?_
   first | refine J (EG Z Z Z) ?_ | refine J (EK Z Z Z) ?_
   refine Kn 22 (.d (Ar (decide (x<l.getD k [])))) rfl (Q2 _ _) (J (Hz Z Z Z Z) (AF ?_))
   first | refine BA rfl (fun h23=>?_) (fun h23=>?_) | refine Aw rfl (fun h23=>?_) (fun h23=>?_)
   ·refine AE (AH (AC Z Z (AC Z Z (U (Ga 21 B7 Z Z Z Z Z Z Z Z) ?_))))
    first | refine U (I2 (out) ([x]) Z Z Z Z Z Z Z Z B7 (by simp only [List.length_singleton];omega) Z Z Z Z) ?_ | refine U (Jf (out) ([x]) Z Z Z Z Z Z (fun _=>rfl) B7 (by simp only [List.length_singleton];omega) Z Z Z Z) ?_
    refine AD Z Z (AF (AH (AD Z Z (AF (AH (AC Z Z (AC Z Z (AC Z Z ?_))))))))
    first | refine J (BC (k) Z Z (rfl) (D9 hkl) Try.underlying32 rfl DE rfl) ?_ | refine J (BD (k) Z Z (rfl) (D9 hkl) rfl Try.underlying32 DE rfl) ?_
    first | refine J (AZ Z Z AW rfl) ?_ | refine J (AX Z Z Z AW rfl) ?_ | refine J (AY Z Z (rfl) rfl AW rfl) ?_
    refine U (Ga 22 B7 Z Z Z Z Z Z Z Z) ?_
    first | refine U (I2 (out++ [x]) ([l.getD k []]) Z Z Z Z Z Z Z Z B7 (by simp only [List.length_append,List.length_singleton];omega) Z Z Z Z) ?_ | refine U (Jf (out++ [x]) ([l.getD k []]) Z Z Z Z Z Z (fun _=>rfl) B7 (by simp only [List.length_append,List.length_singleton];omega) Z Z Z Z) ?_
    refine AD Z Z (AF (AH (AC Z Z (J (C8 Z Z (IntWalk.i64_in _ (by omega)) rfl) (AD Z Z (AF ?_))))));exact ⟨(k+1,_,true),⟨hkl,Qj hkl h23 (by have:ins=false:=(by simpa using h16);rw [this] at he;exact he)⟩,by show l.length - (k+1)<l.length - k;omega,Ax hF [1] rfl (rfl) ⟨rfl,rfl,rfl,rfl,rfl,trivial⟩⟩
   ·refine Aj (AH (AC Z Z (AC Z Z (AC Z Z ?_))))
    first | refine J (BC (k) Z Z (rfl) (D9 hkl) Try.underlying32 rfl DE rfl) ?_ | refine J (BD (k) Z Z (rfl) (D9 hkl) rfl Try.underlying32 DE rfl) ?_
    first | refine J (AZ Z Z AW rfl) ?_ | refine J (AX Z Z Z AW rfl) ?_ | refine J (AY Z Z (rfl) rfl AW rfl) ?_
    refine U (Ga 22 B7 Z Z Z Z Z Z Z Z) ?_
    first | refine U (I2 (out) ([l.getD k []]) Z Z Z Z Z Z Z Z B7 (by simp only [List.length_singleton];omega) Z Z Z Z) ?_ | refine U (Jf (out) ([l.getD k []]) Z Z Z Z Z Z (fun _=>rfl) B7 (by simp only [List.length_singleton];omega) Z Z Z Z) ?_
    refine AD Z Z (AF (AH (AC Z Z (J (C8 Z Z (IntWalk.i64_in _ (by omega)) rfl) (AD Z Z (AF ?_))))));exact ⟨(k+1,_,ins),⟨hkl,by have:ins=false:=(by simpa using h16);rw [this] at he⊢;exact PC hkl h23 he⟩,by show l.length - (k+1)<l.length - k;omega,Ax hF [1] rfl (rfl) ⟨rfl,rfl,rfl,rfl,rfl,trivial⟩⟩
  ·refine BL Z Z Z Z (BL Z Z Z Z (BL Z Z Z Z (BL Z Z Z Z (BL Z Z Z Z ?_))));refine BL Z Z Z Z (J (HO Z Z Z Z) (AF (EI Z Z (Aj (AH (AC Z Z (AC Z Z (AC Z Z ?_))))))))
   first | refine J (BC (k) Z Z (rfl) (D9 hkl) Try.underlying32 rfl DE rfl) ?_ | refine J (BD (k) Z Z (rfl) (D9 hkl) rfl Try.underlying32 DE rfl) ?_
   first | refine J (AZ Z Z AW rfl) ?_ | refine J (AX Z Z Z AW rfl) ?_ | refine J (AY Z Z (rfl) rfl AW rfl) ?_
   refine U (Ga 22 B7 Z Z Z Z Z Z Z Z) ?_
   first | refine U (I2 (out) ([l.getD k []]) Z Z Z Z Z Z Z Z B7 (by simp only [List.length_singleton];omega) Z Z Z Z) ?_ | refine U (Jf (out) ([l.getD k []]) Z Z Z Z Z Z (fun _=>rfl) B7 (by simp only [List.length_singleton];omega) Z Z Z Z) ?_
   refine AD Z Z (AF (AH (AC Z Z (J (C8 Z Z (IntWalk.i64_in _ (by omega)) rfl) (AD Z Z (AF ?_))))));exact ⟨(k+1,_,ins),⟨hkl,by have:ins=true:=(by simpa using h16);rw [this] at he⊢;exact PD hkl he⟩,by show l.length - (k+1)<l.length - k;omega,Ax hF [1] rfl (rfl) ⟨rfl,rfl,rfl,rfl,rfl,trivial⟩⟩
 ·refine D7 (AE (AE ?_));have hke:k=l.length:=by have:=h11;omega
  have hol:=MY he;rw [hke,List.drop_length] at he;have hin1:ins=false ->out++ [x]=Bf l x:=fun e=>by rw [e] at he;exact he
  have hin0:ins=true ->out=Bf l x:=fun e=>by rw [e] at he;simpa [IG] using he
  refine AH (AC Z Z ?_)
  first | refine J (FB Z Z) ?_ | refine J (FA Z Z) ?_
  refine AF ?_
  first | refine BA rfl (fun h36=>?_) (fun h36=>?_) | refine Aw rfl (fun h36=>?_) (fun h36=>?_)
  ·refine AH (AC Z Z (AC Z Z (U (Ga 23 B7 Z Z Z Z Z Z Z Z) ?_)))
   first | refine U (I2 (out) ([x]) Z Z Z Z Z Z Z Z B7 (by simp only [List.length_singleton];omega) Z Z Z Z) ?_ | refine U (Jf (out) ([x]) Z Z Z Z Z Z (fun _=>rfl) B7 (by simp only [List.length_singleton];omega) Z Z Z Z) ?_
   refine AD Z Z (AF (AE ?_))
   first | refine PZ (emb:=AU) 5 1 (out++ [x]) Z Z Z Z Z Z Z ?_ | refine PZ (emb:=AU) 5 1 out Z Z Z Z Z Z Z ?_
   refine AH (AC Z Z (AD Z Z (AF (Av ?_))));exact ⟨_,[],[],As rfl,rfl,rfl,by first | rw [hin1 (by simpa using h36)] | rw [hin0 (by simpa using h36)],rfl⟩
  ·refine Aj (AE ?_)
   first | refine PZ (emb:=AU) 5 1 (out++ [x]) Z Z Z Z Z Z Z ?_ | refine PZ (emb:=AU) 5 1 out Z Z Z Z Z Z Z ?_
   refine AH (AC Z Z (AD Z Z (AF (Av ?_))));exact ⟨_,[],[],As rfl,rfl,rfl,by first | rw [hin1 (by simpa using h36)] | rw [hin0 (by simpa using h36)],rfl⟩
def PV (K:List Lw) (g g2:List St):Prop:=∃l∈K,l.t=1∧l.f∈g∧l.r∈g2
noncomputable instance (K:List Lw) (g g2:List St):Decidable (PV K g g2):=Classical.propDecidable _
abbrev JO (f:Nat) (w:Ws):Nat×List AJ:=(f,[.blk 35 [.d (stsD w.R),.d (J8 w.K)]])
theorem KS (w:Ws) (g g2:List St) (hl:w.K.length≤2000000) (hg:g.length≤2000000) (hg2:g2.length≤2000000):BW Try.prog 56 [.d (LY w),.d (stsD g),.d (stsD g2)] (Ar (decide (PV w.K g g2))):=by
 refine DI Try.func56 Z Z Try.ntmps56 Z Z Z fun F hF=>(AE (AH (U (J2 20 Z Z Z Z Z Z Z) ?_)));refine AD Z Z (AF (AE (AE (AH (AD Z Z (AF (BU (Ev (α:=Nat) (fun k=>⟨36,[(1,.d (stsD g)),(2,.d (stsD g2)),(3,(.ptr 20 0 0)),(7,(.d (natD k)))],[JO 20 w]⟩) (fun k=>k≤w.K.length∧¬PV (w.K.take k) g g2) (fun k=>w.K.length - k) (0) (⟨Nat.zero_le _,fun ⟨l,hl,_⟩=>by simp at hl⟩) (Ax hF [20] Z Z ⟨rfl,rfl,rfl,rfl,trivial⟩) ?_))))))));rintro k ⟨hk,hx⟩;refine AE (AE (AH (AC Z Z ?_)))
 first | refine J (A2 rfl Ag Z Z Z) ?_ | refine J (A4 rfl Ag Z Z Z) ?_ | refine J (A5 rfl Ag Z Z Z) ?_ | refine J (A3 rfl Ag Z Z Z) ?_ | refine J (A1 rfl Ag Z Z Z) ?_
 first | refine J (AZ Z Z Ay rfl) ?_ | refine J (AX Z Z Z Ay rfl) ?_ | refine J (AY Z Z (rfl) rfl Ay rfl) ?_
 refine J (CI rfl (List.length_map ..) Try.underlying33 rfl) ?_
 first | refine J (EG Z Z Z) ?_ | refine J (EK Z Z Z) ?_
 refine AF ?_
 first | refine BA rfl (fun h13=>?_) (fun h13=>?_) | refine Aw rfl (fun h13=>?_) (fun h13=>?_)
 ·refine Aj (AE (BU (AE ?_)));have hkl:k<w.K.length:=GR h13;refine AH ?_
  first | refine J (A2 rfl Ag Z Z Z) ?_ | refine J (A4 rfl Ag Z Z Z) ?_ | refine J (A5 rfl Ag Z Z Z) ?_ | refine J (A3 rfl Ag Z Z Z) ?_ | refine J (A1 rfl Ag Z Z Z) ?_
  first | refine J (AZ Z Z Ay rfl) ?_ | refine J (AX Z Z Z Ay rfl) ?_ | refine J (AY Z Z (rfl) rfl Ay rfl) ?_
  refine AC Z Z ?_
  first | refine J (BC (k) Z Z (rfl) (DN hkl) Try.underlying33 rfl Ca rfl) ?_ | refine J (BD (k) Z Z (rfl) (DN hkl) rfl Try.underlying33 Ca rfl) ?_
  first | refine J (B3 Z Z At rfl) ?_ | refine J (BZ Z Z At Z Z Z) ?_ | refine J (B1 Z Z (rfl) rfl At rfl) ?_
  refine U (IP 25 zl71 Z Z Z Z) (U (Bu Z Z Z Z Z Z Z Ca) (AF (AE (AH ?_))))
  first | refine J (A2 rfl K5 Z Z Z) ?_ | refine J (A4 rfl K5 Z Z Z) ?_ | refine J (A5 rfl K5 Z Z Z) ?_ | refine J (A3 rfl K5 Z Z Z) ?_ | refine J (A1 rfl K5 Z Z Z) ?_
  first | refine J (AZ Z Z Ba rfl) ?_ | refine J (AX Z Z Z Ba rfl) ?_ | refine J (AY Z Z (rfl) rfl Ba rfl) ?_
  first | refine J (GC Z Z Z) ?_ | refine J (GA Z Z Z) ?_ | refine J (F5 Z Z Z) ?_ | refine J (Ft Try.underlying3 Z Z Z) ?_ | refine J (Fw Try.underlying3 Z Z Z) ?_ | refine J (Fv Try.underlying3 Z Z) ?_ | refine J (Fz Try.underlying3 Z Z) ?_ | refine J (Fy Try.underlying3 Z Z) ?_ | refine J (Fu Try.underlying3 Z Z Z) ?_ | refine J (Fx Try.underlying3 Z Z) ?_
  refine AC Z Z ?_
  first | refine K6 24 rfl (fun h24=>?_) (fun h24=>?_) | refine J0 24 rfl (fun h24=>?_) (fun h24=>?_)
  ·refine Ab Z Z Z (AC Z Z (Ab Z Z Z ?_))
   first | refine J (A2 rfl CG Z Z Z) ?_ | refine J (A4 rfl CG Z Z Z) ?_ | refine J (A5 rfl CG Z Z Z) ?_ | refine J (A3 rfl CG Z Z Z) ?_ | refine J (A1 rfl CG Z Z Z) ?_
   refine Ab Z Z Z ?_
   first | refine J (AZ Z Z AW rfl) ?_ | refine J (AX Z Z Z AW rfl) ?_ | refine J (AY Z Z (rfl) rfl AW rfl) ?_
   refine Ab Z Z Z (J (DU (Bg g (w.K[k]).f hg) Z Z) (J (Hz Z Z Z Z) (AC Z Z ?_)))
   first | refine K6 30 rfl (fun h30=>?_) (fun h30=>?_) | refine J0 30 rfl (fun h30=>?_) (fun h30=>?_)
   ·refine Ab Z Z Z (AC Z Z (Ab Z Z Z ?_))
    first | refine J (A2 rfl Cn Z Z Z) ?_ | refine J (A4 rfl Cn Z Z Z) ?_ | refine J (A5 rfl Cn Z Z Z) ?_ | refine J (A3 rfl Cn Z Z Z) ?_ | refine J (A1 rfl Cn Z Z Z) ?_
    refine Ab Z Z Z ?_
    first | refine J (AZ Z Z AW rfl) ?_ | refine J (AX Z Z Z AW rfl) ?_ | refine J (AY Z Z (rfl) rfl AW rfl) ?_
    refine Ab Z Z Z (J (DU (Bg g2 (w.K[k]).r hg2) Z Z) (J (Hz Z Z Z Z) (AF ?_)))
    first | refine BA rfl (fun h35=>?_) (fun h35=>?_) | refine Aw rfl (fun h35=>?_) (fun h35=>?_)
    ·refine AE (AH (AD Z Z (AF (Av ?_))));exact ⟨_,[],[],As rfl,rfl,rfl,by rw [decide_eq_true (show PV w.K g g2 from ⟨_,List.getElem_mem hkl,h24,h30,h35⟩)],rfl⟩
    ·refine Aj (AH (AC Z Z (J (C8 Z Z (IntWalk.i64_in _ (by omega)) rfl) (AD Z Z (AF ?_)))));exact ⟨k+1,⟨hkl,fun ⟨l,hl,h1,h2,h3⟩=>by rw [List.take_succ_eq_append_getElem hkl] at hl;exact (List.mem_append.1 hl).elim (fun hh=>hx ⟨l,hh,h1,h2,h3⟩) fun e=>by (rw [List.mem_singleton.1 e] at h1 h2 h3;first | exact h35 h3 | exact h30 h2 | exact h24 h1)⟩,by omega,Ax hF [20] rfl (rfl) ⟨rfl,rfl,rfl,rfl,trivial⟩⟩
   ·refine BL Z Z Z Z (BL Z Z Z Z (BL Z Z Z Z (BL Z Z Z Z ?_)));refine J (HO Z Z Z Z) (AF (EI Z Z (Aj (AH (AC Z Z (J (C8 Z Z (IntWalk.i64_in _ (by omega)) rfl) (AD Z Z (AF ?_))))))));exact ⟨k+1,⟨hkl,fun ⟨l,hl,h1,h2,h3⟩=>by rw [List.take_succ_eq_append_getElem hkl] at hl;exact (List.mem_append.1 hl).elim (fun hh=>hx ⟨l,hh,h1,h2,h3⟩) fun e=>by (rw [List.mem_singleton.1 e] at h1 h2 h3;first | exact h35 h3 | exact h30 h2 | exact h24 h1)⟩,by omega,Ax hF [20] rfl (rfl) ⟨rfl,rfl,rfl,rfl,trivial⟩⟩
  ·refine BL Z Z Z Z ?_;refine BL Z Z Z Z (BL Z Z Z Z (BL Z Z Z Z (J (HO Z Z Z Z) (AC Z Z (BL Z Z Z Z (BL Z Z Z Z (BL Z Z Z Z (BL Z Z Z Z ?_))))))));refine J (HO Z Z Z Z) (AF (EI Z Z (Aj (AH (AC Z Z (J (C8 Z Z (IntWalk.i64_in _ (by omega)) rfl) (AD Z Z (AF ?_))))))));exact ⟨k+1,⟨hkl,fun ⟨l,hl,h1,h2,h3⟩=>by rw [List.take_succ_eq_append_getElem hkl] at hl;exact (List.mem_append.1 hl).elim (fun hh=>hx ⟨l,hh,h1,h2,h3⟩) fun e=>by (rw [List.mem_singleton.1 e] at h1 h2 h3;first | exact h35 h3 | exact h30 h2 | exact h24 h1)⟩,by omega,Ax hF [20] rfl (rfl) ⟨rfl,rfl,rfl,rfl,trivial⟩⟩
 ·refine D7 (AE (AH (AD Z Z (AF (Av ?_)))));exact ⟨_,[],[],As rfl,rfl,rfl,by rw [decide_eq_false (show ¬PV w.K g g2 by rw [←List.take_of_length_le (i:=k) (l:=w.K) (by have:=h13;omega)];exact hx)],rfl⟩
structure Jj (w:Ws) (a:St) (out:List St):Prop where
 srt:HK out
 ha:a∈out
 con:∀y∈out,y∈w.R∧HL w a y
def cloL (out:List St) (l:Lw):Prop:=l.t=0 ->(l.f∈out↔l.r∈out)
structure IR (w:Ws) (a:St) (out0:List St) (k:Nat) (out:List St) (grew:Bool):Prop where
 g:Jj w a out
 no:grew=false ->out=out0∧∀l∈w.K.take k,cloL out l
 yes:grew=true ->out0.length<out.length
theorem Jj.zero {w:Ws} {a:St} (h:a∈w.R):Jj w a [a]:=⟨by simp,by simp,fun y hy=>by rw [List.mem_singleton.1 hy];exact ⟨h,.refl⟩⟩
theorem Jj.len {w:Ws} {a:St} {out:List St} (h:Jj w a out):out.length≤w.R.length:=(Cg h.srt).length_le_of_subset fun y hy=>(h.con y hy).1
theorem IR.zero {w:Ws} {a:St} {out:List St} (h:Jj w a out):IR w a out 0 out false:=⟨h,fun _=>⟨rfl,fun l hl=>by simp at hl⟩,fun e=>by cases e⟩
theorem IR.le {w:Ws} {a:St} {out0 out:List St} {k:Nat} {grew:Bool} (h:IR w a out0 k out grew):out0.length≤out.length:=by
 cases hg:grew with
 | false=>rw [(h.no hg).1];exact Nat.le_refl _
 | true=>exact Nat.le_of_lt (h.yes hg)
theorem IR.ins {w:Ws} {a:St} {out0 out:List St} {k k2:Nat} {grew:Bool} (h:IR w a out0 k out grew) {y z:St} (hy:y∉out) (hz:z∈out) (hc:JT w z y) (hR:y∈w.R):IR w a out0 k2 (Bf out y) true:=by
 refine ⟨⟨Lb h.g.srt hy,LU.2 (.inr h.g.ha),fun x hx=>?_⟩,(fun e=>by cases e),fun _=>by rw [DY];exact Nat.lt_succ_of_le h.le⟩;rcases LU.1 hx with rfl | hx
 ·exact ⟨hR,(h.g.con z hz).2.tail hc⟩
 ·exact h.g.con x hx
theorem IR.pass {w:Ws} {a:St} {out0 out:List St} {k:Nat} {grew:Bool} (h:IR w a out0 k out grew) (hk:k<w.K.length) (hc:cloL out w.K[k]):IR w a out0 (k+1) out grew:=by
 refine ⟨h.g,fun e=>⟨(h.no e).1,fun l hl=>?_⟩,h.yes⟩;rw [List.take_succ_eq_append_getElem hk] at hl;rcases List.mem_append.1 hl with hl | hl
 ·exact (h.no e).2 l hl
 ·rw [List.mem_singleton.1 hl];exact hc
theorem Jj.fin {w:Ws} (hw:B4 w) {a:St} {out:List St} (h:Jj w a out) (hc:∀l∈w.K,cloL out l):out=cls w a:=by
 refine Kf h.srt (HJ hw a) fun x=>?_;rw [Nk];refine ⟨h.con x,fun ⟨_,hx⟩=>?_⟩;refine BB.closed (p:=fun y=>y∈out) (fun p q hp hq=>?_) h.ha hx;rcases hq with hq | hq
 ·exact (hc _ hq rfl).1 hp
 ·exact (hc _ hq rfl).2 hp
set_option maxHeartbeats 1000000 in
theorem Oy (w:Ws) (hw:B4 w) (a:St) (hl:w.K.length≤2000000):BW Try.prog 72 [.d (LY w),.d (AU a)] (if a∈w.R then stsD (cls w a) else .sl (some true) []):=by
 have hfew:=hw.few;refine DI Try.func72 Z Z Try.ntmps72 Z Z Z fun F hF=>(AE (AH (U (J2 20 Z Z Z Z Z Z Z) (AD Z Z (AF (AE (AE (AH ?_))))))))
 first | refine J (A2 rfl A7 Z Z Z) ?_ | refine J (A4 rfl A7 Z Z Z) ?_ | refine J (A5 rfl A7 Z Z Z) ?_ | refine J (A3 rfl A7 Z Z Z) ?_ | refine J (A1 rfl A7 Z Z Z) ?_
 first | refine J (AZ Z Z AK rfl) ?_ | refine J (AX Z Z Z AK rfl) ?_ | refine J (AY Z Z (rfl) rfl AK rfl) ?_
 refine AC Z Z (J (DU (Bg w.R a (by omega)) Z Z) ?_)
 first | refine J (FB Z Z) ?_ | refine J (FA Z Z) ?_
 refine AF ?_
 first | refine BA rfl (fun h13=>?_) (fun h13=>?_) | refine Aw rfl (fun h13=>?_) (fun h13=>?_)
 ·refine AE (AH (AD Z Z (AF (Av ?_))));exact ⟨_,[],[],As rfl,rfl,rfl,by rw [if_neg h13],rfl⟩
 ·refine Aj (AE ?_);have haR:a∈w.R:=Classical.not_not.1 h13;refine AH (AC Z Z (U (Ga 25 B7 Z Z Z Z Z Z Z Z) (Fh (emb:=AU) 15 25 [a] Z Z Z Z Z Z Z ?_)));refine AD Z Z (AF (AE (AE (AH (AD Z Z (AF (BU (Ev (α:=List St×Bool) (fun q=>⟨63,[(2,(.ptr 20 0 0)),(5,(.d (stsD q.1))),(6,(.d (Ar q.2)))],[JO 20 w]⟩) (fun q=>Jj w a q.1∧(q.2=false ->∀l∈w.K,cloL q.1 l)) (fun q=>2*(w.R.length - q.1.length)+(if q.2 then 1 else 0)) (([a],true)) (⟨Jj.zero haR,fun e=>by cases e⟩) (Ax hF [20] Z Z ⟨rfl,rfl,rfl,trivial⟩) ?_))))))));rintro ⟨out0,gr⟩ ⟨hG0,hC0⟩;dsimp only at hG0 hC0⊢;refine AE (AE (AH (AC Z Z (AF ?_))))
  first | refine BA rfl (fun h16=>?_) (fun h16=>?_) | refine Aw rfl (fun h16=>?_) (fun h16=>?_)
  ·refine Aj (BU (AE ?_));refine AH (AD Z Z (AF (AE (AH (AD Z Z (AF (BU (Ev (α:=Nat×List St×Bool) (fun q=>⟨63,[(2,(.ptr 20 0 0)),(5,(.d (stsD q.2.1))),(6,(.d (Ar q.2.2))),(7,(.d (natD q.1)))],[JO 20 w]⟩) (fun q=>q.1≤w.K.length∧IR w a out0 q.1 q.2.1 q.2.2) (fun q=>w.K.length - q.1) ((0,out0,false)) (⟨Nat.zero_le _,IR.zero hG0⟩) (Ax hF [20] Z Z ⟨rfl,rfl,rfl,rfl,trivial⟩) ?_))))))));rintro ⟨k,out,grew⟩ ⟨hk,hI⟩;dsimp only at hk hI⊢;refine AE (AE (AH (AC Z Z ?_)))
   first | refine J (A2 rfl Ag Z Z Z) ?_ | refine J (A4 rfl Ag Z Z Z) ?_ | refine J (A5 rfl Ag Z Z Z) ?_ | refine J (A3 rfl Ag Z Z Z) ?_ | refine J (A1 rfl Ag Z Z Z) ?_
   first | refine J (AZ Z Z Ay rfl) ?_ | refine J (AX Z Z Z Ay rfl) ?_ | refine J (AY Z Z (rfl) rfl Ay rfl) ?_
   refine J (CI rfl (List.length_map ..) Try.underlying33 rfl) ?_
   first | refine J (EG Z Z Z) ?_ | refine J (EK Z Z Z) ?_
   refine AF ?_
   first | refine BA rfl (fun h21=>?_) (fun h21=>?_) | refine Aw rfl (fun h21=>?_) (fun h21=>?_)
   ·refine Aj (AE (BU (AE ?_)));have hkl:k<w.K.length:=GR h21;have hol:=hI.g.len;refine AH ?_
    first | refine J (A2 rfl Ag Z Z Z) ?_ | refine J (A4 rfl Ag Z Z Z) ?_ | refine J (A5 rfl Ag Z Z Z) ?_ | refine J (A3 rfl Ag Z Z Z) ?_ | refine J (A1 rfl Ag Z Z Z) ?_
    first | refine J (AZ Z Z Ay rfl) ?_ | refine J (AX Z Z Z Ay rfl) ?_ | refine J (AY Z Z (rfl) rfl Ay rfl) ?_
    refine AC Z Z ?_
    first | refine J (BC (k) Z Z (rfl) (DN hkl) Try.underlying33 rfl Ca rfl) ?_ | refine J (BD (k) Z Z (rfl) (DN hkl) rfl Try.underlying33 Ca rfl) ?_
    first | refine J (B3 Z Z At rfl) ?_ | refine J (BZ Z Z At Z Z Z) ?_ | refine J (B1 Z Z (rfl) rfl At rfl) ?_
    refine U (IP 26 zl71 Z Z Z Z) (U (Bu Z Z Z Z Z Z Z Ca) (AF (AE (AE (AH ?_)))))
    first | refine J (A2 rfl K5 Z Z Z) ?_ | refine J (A4 rfl K5 Z Z Z) ?_ | refine J (A5 rfl K5 Z Z Z) ?_ | refine J (A3 rfl K5 Z Z Z) ?_ | refine J (A1 rfl K5 Z Z Z) ?_
    first | refine J (AZ Z Z Ba rfl) ?_ | refine J (AX Z Z Z Ba rfl) ?_ | refine J (AY Z Z (rfl) rfl Ba rfl) ?_
    first | refine J (Jh Z Z Z) ?_ | refine J (Jg Z Z Z) ?_ | refine J (JZ Z Z Z) ?_ | refine J (Ji Try.underlying3 Z Z Z) ?_ | refine J (Je Try.underlying3 Z Z Z) ?_ | refine J (st_neqN Try.underlying3 Z Z) ?_ | refine J (st_neqPr Try.underlying3 Z Z) ?_ | refine J (st_neqMz Try.underlying3 Z Z) ?_ | refine J (Jd Try.underlying3 Z Z Z) ?_ | refine J (st_neqFN Try.underlying3 Z Z) ?_
    refine AF ?_
    first | refine BA rfl (fun h31=>?_) (fun h31=>?_) | refine Aw rfl (fun h31=>?_) (fun h31=>?_)
    ·refine D7 (AH (AC Z Z (J (C8 Z Z (IntWalk.i64_in _ (by omega)) rfl) (AD Z Z (AF ?_)))));exact ⟨(k+1,_,_),⟨hkl,by first | exact hI.pass hkl (fun e=>absurd e h31) | exact hI.pass hkl (fun _=>⟨fun hf=>Classical.byContradiction fun hr=>by first | exact h42 hr | exact h36 hf,fun hr=>Classical.byContradiction fun hf=>by first | exact h57 hf | exact h51 hr⟩) | exact hI.ins h42 h36 (Or.inl hWt) hkR.2 | exact hI.ins h57 h51 (Or.inr hWt) hkR.1 | exact absurd (LU.2 (.inr h36)) h57⟩,by show w.K.length - (k+1)<w.K.length - k;omega,Ax hF [20] rfl (rfl) ⟨rfl,rfl,rfl,rfl,trivial⟩⟩
    ·refine Aj (AE (AE ?_));have ht0:(w.K[k]).t=0:=Classical.not_not.1 h31;have hkR:=hw.lk _ (List.getElem_mem hkl)
     have hkR:(w.K[k]).f∈w.R∧(w.K[k]).r∈w.R:=⟨hkR.1,hkR.2.1⟩
     have hWt:(⟨(w.K[k]).f,0,(w.K[k]).r⟩:Lw)∈w.K:=by rw [←ht0];exact List.getElem_mem hkl
     refine AH (AC Z Z ?_)
     first | refine J (A2 rfl CG Z Z Z) ?_ | refine J (A4 rfl CG Z Z Z) ?_ | refine J (A5 rfl CG Z Z Z) ?_ | refine J (A3 rfl CG Z Z Z) ?_ | refine J (A1 rfl CG Z Z Z) ?_
     first | refine J (AZ Z Z AW rfl) ?_ | refine J (AX Z Z Z AW rfl) ?_ | refine J (AY Z Z (rfl) rfl AW rfl) ?_
     refine J (DU (Bg out (w.K[k]).f (by omega)) Z Z) (AC Z Z ?_)
     first | refine K6 36 rfl (fun h36=>?_) (fun h36=>?_) | refine J0 36 rfl (fun h36=>?_) (fun h36=>?_)
     ·refine Ab Z Z Z (AC Z Z (Ab Z Z Z ?_))
      first | refine J (A2 rfl Cn Z Z Z) ?_ | refine J (A4 rfl Cn Z Z Z) ?_ | refine J (A5 rfl Cn Z Z Z) ?_ | refine J (A3 rfl Cn Z Z Z) ?_ | refine J (A1 rfl Cn Z Z Z) ?_
      refine Ab Z Z Z ?_
      first | refine J (AZ Z Z AW rfl) ?_ | refine J (AX Z Z Z AW rfl) ?_ | refine J (AY Z Z (rfl) rfl AW rfl) ?_
      refine Ab Z Z Z (J (DU (Bg out (w.K[k]).r (by omega)) Z Z) (Ab Z Z Z ?_))
      first | refine J (FB Z Z) ?_ | refine J (FA Z Z) ?_
      refine J (Hz Z Z Z Z) (AF ?_)
      first | refine BA rfl (fun h42=>?_) (fun h42=>?_) | refine Aw rfl (fun h42=>?_) (fun h42=>?_)
      ·refine AE (AH (AC Z Z ?_))
       first | refine J (A2 rfl Cn Z Z Z) ?_ | refine J (A4 rfl Cn Z Z Z) ?_ | refine J (A5 rfl Cn Z Z Z) ?_ | refine J (A3 rfl Cn Z Z Z) ?_ | refine J (A1 rfl Cn Z Z Z) ?_
       first | refine J (AZ Z Z AW rfl) ?_ | refine J (AX Z Z Z AW rfl) ?_ | refine J (AY Z Z (rfl) rfl AW rfl) ?_
       refine J (DU (EY out (w.K[k]).r (by omega)) Z Z) (AD Z Z (AF (AH (AD Z Z (AF (AE (AH (AC Z Z ?_))))))))
       first | refine J (A2 rfl Cn Z Z Z) ?_ | refine J (A4 rfl Cn Z Z Z) ?_ | refine J (A5 rfl Cn Z Z Z) ?_ | refine J (A3 rfl Cn Z Z Z) ?_ | refine J (A1 rfl Cn Z Z Z) ?_
       first | refine J (AZ Z Z AW rfl) ?_ | refine J (AX Z Z Z AW rfl) ?_ | refine J (AY Z Z (rfl) rfl AW rfl) ?_
       refine J (DU (Bg (Bf out (w.K[k]).r) (w.K[k]).r (by rw [DY];omega)) Z Z) (AC Z Z ?_)
       first | refine K6 51 rfl (fun h51=>?_) (fun h51=>?_) | refine J0 51 rfl (fun h51=>?_) (fun h51=>?_)
       ·refine Ab Z Z Z (AC Z Z (Ab Z Z Z ?_))
        first | refine J (A2 rfl CG Z Z Z) ?_ | refine J (A4 rfl CG Z Z Z) ?_ | refine J (A5 rfl CG Z Z Z) ?_ | refine J (A3 rfl CG Z Z Z) ?_ | refine J (A1 rfl CG Z Z Z) ?_
        refine Ab Z Z Z ?_
        first | refine J (AZ Z Z AW rfl) ?_ | refine J (AX Z Z Z AW rfl) ?_ | refine J (AY Z Z (rfl) rfl AW rfl) ?_
        refine Ab Z Z Z (J (DU (Bg (Bf out (w.K[k]).r) (w.K[k]).f (by rw [DY];omega)) Z Z) (Ab Z Z Z ?_))
        first | refine J (FB Z Z) ?_ | refine J (FA Z Z) ?_
        refine J (Hz Z Z Z Z) (AF ?_)
        first | refine BA rfl (fun h57=>?_) (fun h57=>?_) | refine Aw rfl (fun h57=>?_) (fun h57=>?_)
        ·refine AE (AH (AC Z Z ?_))
         first | refine J (A2 rfl CG Z Z Z) ?_ | refine J (A4 rfl CG Z Z Z) ?_ | refine J (A5 rfl CG Z Z Z) ?_ | refine J (A3 rfl CG Z Z Z) ?_ | refine J (A1 rfl CG Z Z Z) ?_
         first | refine J (AZ Z Z AW rfl) ?_ | refine J (AX Z Z Z AW rfl) ?_ | refine J (AY Z Z (rfl) rfl AW rfl) ?_
         refine J (DU (EY (Bf out (w.K[k]).r) (w.K[k]).f (by rw [DY];omega)) Z Z) (AD Z Z ?_);refine AF (AH (AD Z Z (AF (AH (AC Z Z (J (C8 Z Z (IntWalk.i64_in _ (by omega)) rfl) (AD Z Z (AF ?_))))))));exact ⟨(k+1,_,_),⟨hkl,by first | exact hI.pass hkl (fun e=>absurd e h31) | exact hI.pass hkl (fun _=>⟨fun hf=>Classical.byContradiction fun hr=>by first | exact h42 hr | exact h36 hf,fun hr=>Classical.byContradiction fun hf=>by first | exact h57 hf | exact h51 hr⟩) | exact hI.ins h42 h36 (Or.inl hWt) hkR.2 | exact hI.ins h57 h51 (Or.inr hWt) hkR.1 | exact absurd (LU.2 (.inr h36)) h57⟩,by show w.K.length - (k+1)<w.K.length - k;omega,Ax hF [20] rfl (rfl) ⟨rfl,rfl,rfl,rfl,trivial⟩⟩
        ·refine Aj (AH (AC Z Z (J (C8 Z Z (IntWalk.i64_in _ (by omega)) rfl) (AD Z Z (AF ?_)))));exact ⟨(k+1,_,_),⟨hkl,by first | exact hI.pass hkl (fun e=>absurd e h31) | exact hI.pass hkl (fun _=>⟨fun hf=>Classical.byContradiction fun hr=>by first | exact h42 hr | exact h36 hf,fun hr=>Classical.byContradiction fun hf=>by first | exact h57 hf | exact h51 hr⟩) | exact hI.ins h42 h36 (Or.inl hWt) hkR.2 | exact hI.ins h57 h51 (Or.inr hWt) hkR.1 | exact absurd (LU.2 (.inr h36)) h57⟩,by show w.K.length - (k+1)<w.K.length - k;omega,Ax hF [20] rfl (rfl) ⟨rfl,rfl,rfl,rfl,trivial⟩⟩
       ·refine BL Z Z Z Z (BL Z Z Z Z (BL Z Z Z Z (BL Z Z Z Z (BL Z Z Z Z ?_))));refine J (HO Z Z Z Z) (AF (EI Z Z (Aj (AH (AC Z Z (J (C8 Z Z (IntWalk.i64_in _ (by omega)) rfl) (AD Z Z (AF ?_))))))));exact ⟨(k+1,_,_),⟨hkl,by first | exact hI.pass hkl (fun e=>absurd e h31) | exact hI.pass hkl (fun _=>⟨fun hf=>Classical.byContradiction fun hr=>by first | exact h42 hr | exact h36 hf,fun hr=>Classical.byContradiction fun hf=>by first | exact h57 hf | exact h51 hr⟩) | exact hI.ins h42 h36 (Or.inl hWt) hkR.2 | exact hI.ins h57 h51 (Or.inr hWt) hkR.1 | exact absurd (LU.2 (.inr h36)) h57⟩,by show w.K.length - (k+1)<w.K.length - k;omega,Ax hF [20] rfl (rfl) ⟨rfl,rfl,rfl,rfl,trivial⟩⟩
      ·refine Aj (AE (AH (AC Z Z ?_)))
       first | refine J (A2 rfl Cn Z Z Z) ?_ | refine J (A4 rfl Cn Z Z Z) ?_ | refine J (A5 rfl Cn Z Z Z) ?_ | refine J (A3 rfl Cn Z Z Z) ?_ | refine J (A1 rfl Cn Z Z Z) ?_
       first | refine J (AZ Z Z AW rfl) ?_ | refine J (AX Z Z Z AW rfl) ?_ | refine J (AY Z Z (rfl) rfl AW rfl) ?_
       refine J (DU (Bg out (w.K[k]).r (by omega)) Z Z) (AC Z Z ?_)
       first | refine K6 51 rfl (fun h51=>?_) (fun h51=>?_) | refine J0 51 rfl (fun h51=>?_) (fun h51=>?_)
       ·refine Ab Z Z Z (AC Z Z (Ab Z Z Z ?_))
        first | refine J (A2 rfl CG Z Z Z) ?_ | refine J (A4 rfl CG Z Z Z) ?_ | refine J (A5 rfl CG Z Z Z) ?_ | refine J (A3 rfl CG Z Z Z) ?_ | refine J (A1 rfl CG Z Z Z) ?_
        refine Ab Z Z Z ?_
        first | refine J (AZ Z Z AW rfl) ?_ | refine J (AX Z Z Z AW rfl) ?_ | refine J (AY Z Z (rfl) rfl AW rfl) ?_
        refine Ab Z Z Z (J (DU (Bg out (w.K[k]).f (by omega)) Z Z) (Ab Z Z Z ?_))
        first | refine J (FB Z Z) ?_ | refine J (FA Z Z) ?_
        refine J (Hz Z Z Z Z) (AF ?_)
        first | refine BA rfl (fun h57=>?_) (fun h57=>?_) | refine Aw rfl (fun h57=>?_) (fun h57=>?_)
        ·refine AE (AH (AC Z Z ?_))
         first | refine J (A2 rfl CG Z Z Z) ?_ | refine J (A4 rfl CG Z Z Z) ?_ | refine J (A5 rfl CG Z Z Z) ?_ | refine J (A3 rfl CG Z Z Z) ?_ | refine J (A1 rfl CG Z Z Z) ?_
         first | refine J (AZ Z Z AW rfl) ?_ | refine J (AX Z Z Z AW rfl) ?_ | refine J (AY Z Z (rfl) rfl AW rfl) ?_
         refine J (DU (EY out (w.K[k]).f (by omega)) Z Z) (AD Z Z ?_);refine AF (AH (AD Z Z (AF (AH (AC Z Z (J (C8 Z Z (IntWalk.i64_in _ (by omega)) rfl) (AD Z Z (AF ?_))))))));exact ⟨(k+1,_,_),⟨hkl,by first | exact hI.pass hkl (fun e=>absurd e h31) | exact hI.pass hkl (fun _=>⟨fun hf=>Classical.byContradiction fun hr=>by first | exact h42 hr | exact h36 hf,fun hr=>Classical.byContradiction fun hf=>by first | exact h57 hf | exact h51 hr⟩) | exact hI.ins h42 h36 (Or.inl hWt) hkR.2 | exact hI.ins h57 h51 (Or.inr hWt) hkR.1 | exact absurd (LU.2 (.inr h36)) h57⟩,by show w.K.length - (k+1)<w.K.length - k;omega,Ax hF [20] rfl (rfl) ⟨rfl,rfl,rfl,rfl,trivial⟩⟩
        ·refine Aj (AH (AC Z Z (J (C8 Z Z (IntWalk.i64_in _ (by omega)) rfl) (AD Z Z (AF ?_)))));exact ⟨(k+1,_,_),⟨hkl,by first | exact hI.pass hkl (fun e=>absurd e h31) | exact hI.pass hkl (fun _=>⟨fun hf=>Classical.byContradiction fun hr=>by first | exact h42 hr | exact h36 hf,fun hr=>Classical.byContradiction fun hf=>by first | exact h57 hf | exact h51 hr⟩) | exact hI.ins h42 h36 (Or.inl hWt) hkR.2 | exact hI.ins h57 h51 (Or.inr hWt) hkR.1 | exact absurd (LU.2 (.inr h36)) h57⟩,by show w.K.length - (k+1)<w.K.length - k;omega,Ax hF [20] rfl (rfl) ⟨rfl,rfl,rfl,rfl,trivial⟩⟩
       ·refine BL Z Z Z Z (BL Z Z Z Z (BL Z Z Z Z (BL Z Z Z Z (BL Z Z Z Z ?_))));refine J (HO Z Z Z Z) (AF (EI Z Z (Aj (AH (AC Z Z (J (C8 Z Z (IntWalk.i64_in _ (by omega)) rfl) (AD Z Z (AF ?_))))))));exact ⟨(k+1,_,_),⟨hkl,by first | exact hI.pass hkl (fun e=>absurd e h31) | exact hI.pass hkl (fun _=>⟨fun hf=>Classical.byContradiction fun hr=>by first | exact h42 hr | exact h36 hf,fun hr=>Classical.byContradiction fun hf=>by first | exact h57 hf | exact h51 hr⟩) | exact hI.ins h42 h36 (Or.inl hWt) hkR.2 | exact hI.ins h57 h51 (Or.inr hWt) hkR.1 | exact absurd (LU.2 (.inr h36)) h57⟩,by show w.K.length - (k+1)<w.K.length - k;omega,Ax hF [20] rfl (rfl) ⟨rfl,rfl,rfl,rfl,trivial⟩⟩
     ·refine BL Z Z Z Z (BL Z Z Z Z (BL Z Z Z Z ?_));refine BL Z Z Z Z (BL Z Z Z Z (J (HO Z Z Z Z) (AF (EI Z Z (Aj (AE (AH (AC Z Z ?_))))))))
      first | refine J (A2 rfl Cn Z Z Z) ?_ | refine J (A4 rfl Cn Z Z Z) ?_ | refine J (A5 rfl Cn Z Z Z) ?_ | refine J (A3 rfl Cn Z Z Z) ?_ | refine J (A1 rfl Cn Z Z Z) ?_
      first | refine J (AZ Z Z AW rfl) ?_ | refine J (AX Z Z Z AW rfl) ?_ | refine J (AY Z Z (rfl) rfl AW rfl) ?_
      refine J (DU (Bg out (w.K[k]).r (by omega)) Z Z) (AC Z Z ?_)
      first | refine K6 51 rfl (fun h51=>?_) (fun h51=>?_) | refine J0 51 rfl (fun h51=>?_) (fun h51=>?_)
      ·refine Ab Z Z Z (AC Z Z (Ab Z Z Z ?_))
       first | refine J (A2 rfl CG Z Z Z) ?_ | refine J (A4 rfl CG Z Z Z) ?_ | refine J (A5 rfl CG Z Z Z) ?_ | refine J (A3 rfl CG Z Z Z) ?_ | refine J (A1 rfl CG Z Z Z) ?_
       refine Ab Z Z Z ?_
       first | refine J (AZ Z Z AW rfl) ?_ | refine J (AX Z Z Z AW rfl) ?_ | refine J (AY Z Z (rfl) rfl AW rfl) ?_
       refine Ab Z Z Z (J (DU (Bg out (w.K[k]).f (by omega)) Z Z) (Ab Z Z Z ?_))
       first | refine J (FB Z Z) ?_ | refine J (FA Z Z) ?_
       refine J (Hz Z Z Z Z) (AF ?_)
       first | refine BA rfl (fun h57=>?_) (fun h57=>?_) | refine Aw rfl (fun h57=>?_) (fun h57=>?_)
       ·refine AE (AH (AC Z Z ?_))
        first | refine J (A2 rfl CG Z Z Z) ?_ | refine J (A4 rfl CG Z Z Z) ?_ | refine J (A5 rfl CG Z Z Z) ?_ | refine J (A3 rfl CG Z Z Z) ?_ | refine J (A1 rfl CG Z Z Z) ?_
        first | refine J (AZ Z Z AW rfl) ?_ | refine J (AX Z Z Z AW rfl) ?_ | refine J (AY Z Z (rfl) rfl AW rfl) ?_
        refine J (DU (EY out (w.K[k]).f (by omega)) Z Z) (AD Z Z ?_);refine AF (AH (AD Z Z (AF (AH (AC Z Z (J (C8 Z Z (IntWalk.i64_in _ (by omega)) rfl) (AD Z Z (AF ?_))))))));exact ⟨(k+1,_,_),⟨hkl,by first | exact hI.pass hkl (fun e=>absurd e h31) | exact hI.pass hkl (fun _=>⟨fun hf=>Classical.byContradiction fun hr=>by first | exact h42 hr | exact h36 hf,fun hr=>Classical.byContradiction fun hf=>by first | exact h57 hf | exact h51 hr⟩) | exact hI.ins h42 h36 (Or.inl hWt) hkR.2 | exact hI.ins h57 h51 (Or.inr hWt) hkR.1 | exact absurd (LU.2 (.inr h36)) h57⟩,by show w.K.length - (k+1)<w.K.length - k;omega,Ax hF [20] rfl (rfl) ⟨rfl,rfl,rfl,rfl,trivial⟩⟩
       ·refine Aj (AH (AC Z Z (J (C8 Z Z (IntWalk.i64_in _ (by omega)) rfl) (AD Z Z (AF ?_)))));exact ⟨(k+1,_,_),⟨hkl,by first | exact hI.pass hkl (fun e=>absurd e h31) | exact hI.pass hkl (fun _=>⟨fun hf=>Classical.byContradiction fun hr=>by first | exact h42 hr | exact h36 hf,fun hr=>Classical.byContradiction fun hf=>by first | exact h57 hf | exact h51 hr⟩) | exact hI.ins h42 h36 (Or.inl hWt) hkR.2 | exact hI.ins h57 h51 (Or.inr hWt) hkR.1 | exact absurd (LU.2 (.inr h36)) h57⟩,by show w.K.length - (k+1)<w.K.length - k;omega,Ax hF [20] rfl (rfl) ⟨rfl,rfl,rfl,rfl,trivial⟩⟩
      ·refine BL Z Z Z Z (BL Z Z Z Z (BL Z Z Z Z (BL Z Z Z Z (BL Z Z Z Z ?_))));refine J (HO Z Z Z Z) (AF (EI Z Z (Aj (AH (AC Z Z (J (C8 Z Z (IntWalk.i64_in _ (by omega)) rfl) (AD Z Z (AF ?_))))))));exact ⟨(k+1,_,_),⟨hkl,by first | exact hI.pass hkl (fun e=>absurd e h31) | exact hI.pass hkl (fun _=>⟨fun hf=>Classical.byContradiction fun hr=>by first | exact h42 hr | exact h36 hf,fun hr=>Classical.byContradiction fun hf=>by first | exact h57 hf | exact h51 hr⟩) | exact hI.ins h42 h36 (Or.inl hWt) hkR.2 | exact hI.ins h57 h51 (Or.inr hWt) hkR.1 | exact absurd (LU.2 (.inr h36)) h57⟩,by show w.K.length - (k+1)<w.K.length - k;omega,Ax hF [20] rfl (rfl) ⟨rfl,rfl,rfl,rfl,trivial⟩⟩
   ·refine D7 ?_;exact ⟨(out,grew),⟨hI.g,fun e=>by have:=(hI.no e).2;rw [show k=w.K.length by omega,List.take_length] at this;exact this⟩,by have h1:=hI.g.len;have h2:=hI.le;show 2*(w.R.length - out.length)+(if grew then 1 else 0)<2*(w.R.length - out0.length)+(if gr then 1 else 0);rw [show gr=true from h16];cases hgr:grew with | false=>rw [(hI.no hgr).1];simp | true=>have h3:=hI.yes hgr;simp;omega,Ax hF [20] rfl (rfl) ⟨rfl,rfl,rfl,trivial⟩⟩
  ·refine D7 (AE ?_);have hfin:=hG0.fin hw (hC0 (by simpa using h16));refine AH (AC Z Z (AD Z Z (AF (Av ?_))));exact ⟨_,[],[],As rfl,rfl,rfl,by rw [if_pos haR,hfin],rfl⟩
theorem M8 {w:Ws} (hw:B4 w) {x:St} (hx:x∈w.R):(cls w x).getD 0 []=x↔Jk w x:=by
 have hs:=HJ hw x;have hm:=CP hx
 cases hc:cls w x with
 | nil=>rw [hc] at hm;simp at hm
 | cons y r=>
  rw [hc] at hs hm;have h1:=List.pairwise_cons.1 hs;show y=x↔_
  constructor
  ·rintro rfl z hz hzc hlt;have hz2:z∈cls w y:=Nk.2 ⟨hz,hzc⟩;rw [hc] at hz2;rcases List.mem_cons.1 hz2 with rfl | hz2
   ·exact GU _ hlt
   ·exact GU _ (Nn hlt (h1.1 z hz2))
  ·intro hl;have hy:y∈cls w x:=by rw [hc];simp
   obtain ⟨hyR,hyc⟩:=Nk.1 hy;rcases List.mem_cons.1 hm with e | hm
   ·exact e.symm
   ·exact absurd (h1.1 x hm) (hl y hyR hyc)
open Classical in
noncomputable def partT (w:Ws) (k:Nat):List (List St):=((w.R.take k).filter fun a=>decide (Jk w a)).map (cls w)
theorem Ol (w:Ws):partT w w.R.length=parts w:=by unfold partT parts;rw [List.take_length]
theorem Ok {w:Ws} {k:Nat} (hk:k<w.R.length) (h:Jk w w.R[k]):partT w (k+1)=partT w k++ [cls w w.R[k]]:=by
 unfold partT;rw [List.take_succ_eq_append_getElem hk,List.filter_append,List.map_append]
 simp [h]
theorem NO {w:Ws} {k:Nat} (hk:k<w.R.length) (h:¬Jk w w.R[k]):partT w (k+1)=partT w k:=by
 unfold partT;rw [List.take_succ_eq_append_getElem hk,List.filter_append,List.map_append]
 simp [h]
theorem Oj (w:Ws) (k:Nat):(partT w k).length≤w.R.length:=by
 unfold partT;rw [List.length_map];exact Nat.le_trans (List.length_filter_le _ _) (by rw [List.length_take];omega)
theorem B8 {l:List St} {k:Nat} (h:k<l.length):(l.map AU)[k]?=some (AU l[k]):=by
 rw [List.getElem?_map,List.getElem?_eq_getElem h];rfl
theorem all_p (w:Ws) (hw:B4 w) (hl:w.K.length≤2000000):BW Try.prog 55 [.d (LY w)] (CL (parts w)):=by
 have hfew:=hw.few;refine DI Try.func55 Z Z Try.ntmps55 Z Z Z fun F hF=>(AE (AH (U (J2 20 Z Z Z Z Z Z Z) (AD Z Z (AF (AE (AH (AD Z Z ?_))))))));refine AF (AE (AE (AH (AD Z Z (AF (BU (Eu 3 1 ND Z Z Z Z (Ev (α:=Nat×List (List St)) (fun q=>⟨34,[(1,(.ptr 20 0 0)),(3,(.own 1 0 q.2.length)),(4,(.d (natD q.1)))],[JO 20 w,(1,[.rowD 32 1 (q.2.map stsD)])]⟩) (fun q=>q.1≤w.R.length∧q.2=partT w q.1) (fun q=>w.R.length - q.1) ((0,[])) (⟨Nat.zero_le _,rfl⟩) (Ax hF [20,1] Z Z ⟨rfl,rfl,rfl,trivial⟩) ?_))))))));rintro ⟨k,out⟩ ⟨hk,ho⟩;dsimp only at hk ho⊢;refine AE (AE (AH (AC Z Z ?_)))
 first | refine J (A2 rfl A7 Z Z Z) ?_ | refine J (A4 rfl A7 Z Z Z) ?_ | refine J (A5 rfl A7 Z Z Z) ?_ | refine J (A3 rfl A7 Z Z Z) ?_ | refine J (A1 rfl A7 Z Z Z) ?_
 first | refine J (AZ Z Z AK rfl) ?_ | refine J (AX Z Z Z AK rfl) ?_ | refine J (AY Z Z (rfl) rfl AK rfl) ?_
 refine J (CI rfl (List.length_map ..) Try.underlying32 rfl) ?_
 first | refine J (EG Z Z Z) ?_ | refine J (EK Z Z Z) ?_
 refine AF ?_
 first | refine BA rfl (fun h10=>?_) (fun h10=>?_) | refine Aw rfl (fun h10=>?_) (fun h10=>?_)
 ·refine Aj (AE (BU (AE ?_)));have hkl:k<w.R.length:=GR h10;have hxR:w.R[k]∈w.R:=List.getElem_mem hkl;have hcl:0<(cls w w.R[k]).length:=List.length_pos_of_mem (CP hxR);have hpl:out.length≤w.R.length:=by rw [ho];exact Oj w k
  refine Fs [[],[],[1],[],[1,2,3],[1,2,3,4],[0,1,2,3,4,5],[0,1,2,3,4,5,6]] mixed rfl (E6 ?_)
  first | refine AG [1] [] Z Z (fun _=>AB (B3 Z Z AR rfl)) ?_ | refine AI [1] Z Z (fun _=>AB (B3 Z Z AR rfl)) ?_ | refine AG [1] [] Z Z (fun _=>AB (BZ Z Z AR Z Z Z)) ?_ | refine AI [1] Z Z (fun _=>AB (BZ Z Z AR Z Z Z)) ?_ | refine AG [1] [] Z Z (fun _=>AB (B1 Z Z (rfl) rfl AR rfl)) ?_ | refine AI [1] Z Z (fun _=>AB (B1 Z Z (rfl) rfl AR rfl)) ?_
  first | refine AG [1] [] Z Z (fun _=>AB (A2 rfl A7 Z Z Z)) ?_ | refine AI [1] Z Z (fun _=>AB (A2 rfl A7 Z Z Z)) ?_ | refine AG [1] [] Z Z (fun _=>AB (A4 rfl A7 Z Z Z)) ?_ | refine AI [1] Z Z (fun _=>AB (A4 rfl A7 Z Z Z)) ?_ | refine AG [1] [] Z Z (fun _=>AB (A5 rfl A7 Z Z Z)) ?_ | refine AI [1] Z Z (fun _=>AB (A5 rfl A7 Z Z Z)) ?_ | refine AG [1] [] Z Z (fun _=>AB (A3 rfl A7 Z Z Z)) ?_ | refine AI [1] Z Z (fun _=>AB (A3 rfl A7 Z Z Z)) ?_ | refine AG [1] [] Z Z (fun _=>AB (A1 rfl A7 Z Z Z)) ?_ | refine AI [1] Z Z (fun _=>AB (A1 rfl A7 Z Z Z)) ?_
  first | refine AG [14] [] Z Z (fun _=>AB (AZ Z Z AK rfl)) ?_ | refine AI [14] Z Z (fun _=>AB (AZ Z Z AK rfl)) ?_ | refine AG [14] [] Z Z (fun _=>AB (AX Z Z Z AK rfl)) ?_ | refine AI [14] Z Z (fun _=>AB (AX Z Z Z AK rfl)) ?_ | refine AG [14] [] Z Z (fun _=>AB (AY Z Z (rfl) rfl AK rfl)) ?_ | refine AI [14] Z Z (fun _=>AB (AY Z Z (rfl) rfl AK rfl)) ?_
  first | refine AG [4] [] Z Z (fun _=>AB (Ah Z Z)) ?_ | refine AI [4] Z Z (fun _=>AB (Ah Z Z)) ?_
  first | refine AG [15,16] [] Z Z (fun _=>AB (BC (k) Z Z (rfl) (B8 hkl) Try.underlying32 rfl DE rfl)) ?_ | refine AI [15,16] Z Z (fun _=>AB (BC (k) Z Z (rfl) (B8 hkl) Try.underlying32 rfl DE rfl)) ?_ | refine AG [15,16] [] Z Z (fun _=>AB (BD (k) Z Z (rfl) (B8 hkl) rfl Try.underlying32 DE rfl)) ?_ | refine AI [15,16] Z Z (fun _=>AB (BD (k) Z Z (rfl) (B8 hkl) rfl Try.underlying32 DE rfl)) ?_
  first | refine AG [17] [] Z Z (fun _=>AB (AZ Z Z AW rfl)) ?_ | refine AI [17] Z Z (fun _=>AB (AZ Z Z AW rfl)) ?_ | refine AG [17] [] Z Z (fun _=>AB (AX Z Z Z AW rfl)) ?_ | refine AI [17] Z Z (fun _=>AB (AX Z Z Z AW rfl)) ?_ | refine AG [17] [] Z Z (fun _=>AB (AY Z Z (rfl) rfl AW rfl)) ?_ | refine AI [17] Z Z (fun _=>AB (AY Z Z (rfl) rfl AW rfl)) ?_
  refine E7 6 Z Z Z (Bq 7 Z Z (J (DU (Oy w hw w.R[k] hl) Z Z) ?_));rw [if_pos hxR];refine AF ⟨rfl,?_⟩;refine Bq 8 Z Z (AD Z Z (AF ⟨rfl,?_⟩));refine FH (AE (Fs [[],[0],[0,1],[],[3],[],[3,4,5],[3,4,5,6],[0,1,2,3,4,5,6,7]] mixed rfl (E6 ?_)))
  first | refine AG [5] [] Z Z (fun _=>AB (Ah Z Z)) ?_ | refine AI [5] Z Z (fun _=>AB (Ah Z Z)) ?_
  first | refine AG [20] [] Z Z (fun _=>AB (BC (0) Z Z (rfl) (D9 hcl) Try.underlying32 rfl DE rfl)) ?_ | refine AI [20] Z Z (fun _=>AB (BC (0) Z Z (rfl) (D9 hcl) Try.underlying32 rfl DE rfl)) ?_ | refine AG [20] [] Z Z (fun _=>AB (BD (0) Z Z (rfl) (D9 hcl) rfl Try.underlying32 DE rfl)) ?_ | refine AI [20] Z Z (fun _=>AB (BD (0) Z Z (rfl) (D9 hcl) rfl Try.underlying32 DE rfl)) ?_
  first | refine AG [21] [99] Z Z (fun _=>AB (AZ Z Z AW rfl)) ?_ | refine AG [21] [99] Z Z (fun _=>AB (AX Z Z Z AW rfl)) ?_ | refine AG [21] [99] Z Z (fun _=>AB (AY Z Z (rfl) rfl AW rfl)) ?_
  first | refine AG [1] [] Z Z (fun _=>AB (A2 rfl A7 Z Z Z)) ?_ | refine AI [1] Z Z (fun _=>AB (A2 rfl A7 Z Z Z)) ?_ | refine AG [1] [] Z Z (fun _=>AB (A4 rfl A7 Z Z Z)) ?_ | refine AI [1] Z Z (fun _=>AB (A4 rfl A7 Z Z Z)) ?_ | refine AG [1] [] Z Z (fun _=>AB (A5 rfl A7 Z Z Z)) ?_ | refine AI [1] Z Z (fun _=>AB (A5 rfl A7 Z Z Z)) ?_ | refine AG [1] [] Z Z (fun _=>AB (A3 rfl A7 Z Z Z)) ?_ | refine AI [1] Z Z (fun _=>AB (A3 rfl A7 Z Z Z)) ?_ | refine AG [1] [] Z Z (fun _=>AB (A1 rfl A7 Z Z Z)) ?_ | refine AI [1] Z Z (fun _=>AB (A1 rfl A7 Z Z Z)) ?_
  first | refine AG [23] [] Z Z (fun _=>AB (AZ Z Z AK rfl)) ?_ | refine AI [23] Z Z (fun _=>AB (AZ Z Z AK rfl)) ?_ | refine AG [23] [] Z Z (fun _=>AB (AX Z Z Z AK rfl)) ?_ | refine AI [23] Z Z (fun _=>AB (AX Z Z Z AK rfl)) ?_ | refine AG [23] [] Z Z (fun _=>AB (AY Z Z (rfl) rfl AK rfl)) ?_ | refine AI [23] Z Z (fun _=>AB (AY Z Z (rfl) rfl AK rfl)) ?_
  first | refine AG [4] [] Z Z (fun _=>AB (Ah Z Z)) ?_ | refine AI [4] Z Z (fun _=>AB (Ah Z Z)) ?_
  first | refine AG [24,25] [] Z Z (fun _=>AB (BC (k) Z Z (rfl) (B8 hkl) Try.underlying32 rfl DE rfl)) ?_ | refine AI [24,25] Z Z (fun _=>AB (BC (k) Z Z (rfl) (B8 hkl) Try.underlying32 rfl DE rfl)) ?_ | refine AG [24,25] [] Z Z (fun _=>AB (BD (k) Z Z (rfl) (B8 hkl) rfl Try.underlying32 DE rfl)) ?_ | refine AI [24,25] Z Z (fun _=>AB (BD (k) Z Z (rfl) (B8 hkl) rfl Try.underlying32 DE rfl)) ?_
  first | refine AG [26] [] Z Z (fun _=>AB (AZ Z Z AW rfl)) ?_ | refine AI [26] Z Z (fun _=>AB (AZ Z Z AW rfl)) ?_ | refine AG [26] [] Z Z (fun _=>AB (AX Z Z Z AW rfl)) ?_ | refine AI [26] Z Z (fun _=>AB (AX Z Z Z AW rfl)) ?_ | refine AG [26] [] Z Z (fun _=>AB (AY Z Z (rfl) rfl AW rfl)) ?_ | refine AI [26] Z Z (fun _=>AB (AY Z Z (rfl) rfl AW rfl)) ?_
  refine E7 8 Z Z Z (Bq 9 Z Z ?_)
  first | refine J (GC Z Z Z) ?_ | refine J (GA Z Z Z) ?_ | refine J (F5 Z Z Z) ?_ | refine J (Ft Try.underlying9 Z Z Z) ?_ | refine J (Fw Try.underlying9 Z Z Z) ?_ | refine J (Fv Try.underlying9 Z Z) ?_ | refine J (Fz Try.underlying9 Z Z) ?_ | refine J (Fy Try.underlying9 Z Z) ?_ | refine J (Fu Try.underlying9 Z Z Z) ?_ | refine J (Fx Try.underlying9 Z Z) ?_
  refine AF ⟨rfl,?_⟩;refine FH ?_
  first | refine BA rfl (fun h28=>?_) (fun h28=>?_) | refine Aw rfl (fun h28=>?_) (fun h28=>?_)
  ·refine AH (AC Z Z (AC Z Z (U (Ga 21 ND Z Z Z Z Z Z Z Z) ?_)))
   first | refine U (I2 (out) ([cls w w.R[k]]) Z Z Z Z Z Z Z Z ND (by simp only [List.length_singleton];omega) Z Z Z Z) ?_ | refine U (Jf (out) ([cls w w.R[k]]) Z Z Z Z Z Z (fun _=>rfl) ND (by simp only [List.length_singleton];omega) Z Z Z Z) ?_
   refine AD Z Z (AF (AH (AC Z Z (J (C8 Z Z (IntWalk.i64_in _ (by omega)) rfl) (AD Z Z (AF ?_))))));exact ⟨(k+1,out++ [cls w w.R[k]]),⟨hkl,by show _=partT w (k+1);rw [Ok hkl ((M8 hw hxR).1 h28),ho]⟩,by show w.R.length - (k+1)<w.R.length - k;omega,Ax hF [20,1] rfl (rfl) ⟨rfl,rfl,rfl,trivial⟩⟩
  ·refine Aj (AH (AC Z Z (J (C8 Z Z (IntWalk.i64_in _ (by omega)) rfl) (AD Z Z (AF ?_)))));exact ⟨(k+1,out),⟨hkl,by show _=partT w (k+1);rw [NO hkl fun h=>h28 ((M8 hw hxR).2 h),ho]⟩,by show w.R.length - (k+1)<w.R.length - k;omega,Ax hF [20,1] rfl (rfl) ⟨rfl,rfl,rfl,trivial⟩⟩
 ·refine D7 (AE ?_);have hke:k=w.R.length:=by have:=h10;omega
  refine PZ (emb:=stsD) 3 1 out Z Z Z Z Z Z Z (AH (AC Z Z (AD Z Z (AF (Av ?_)))));exact ⟨_,[],[],As rfl,rfl,rfl,by rw [ho,hke,Ol],rfl⟩
theorem CD {w:Ws} (hw:B4 w) {i j:Nat} (hi:i<(parts w).length) (hj:j<(parts w).length) (hne:i≠j):PV w.K ((parts w).getD i []) ((parts w).getD j [])↔j∈depL w i:=by
 rw [CA hw]
 constructor
 ·rintro ⟨l,hl,ht,hf,hr⟩;exact ⟨hne,l,hl,ht,((Kq hw hi).1 hf).2,((Kq hw hj).1 hr).2⟩
 ·rintro ⟨_,l,hl,ht,hf,hr⟩;exact ⟨l,hl,ht,(Kq hw hi).2 ⟨(hw.lk l hl).1,hf⟩,(Kq hw hj).2 ⟨(hw.lk l hl).2.1,hr⟩⟩
def PU (w:Ws) (ord:List Nat) (i k:Nat):Prop:=i∉ord∧∀j,j<k ->j≠i ->j∉ord ->j∉depL w i
noncomputable instance (w:Ws) (ord:List Nat) (i k:Nat):Decidable (PU w ord i k):=Classical.propDecidable _
theorem bD {p q:Prop} [Decidable p] [Decidable q] (h:p↔q):AV.d (Ar (decide p))=AV.d (Ar (decide q)):=by rw [decide_eq_decide.2 h]
theorem Qn {w:Ws} {ord:List Nat} {i:Nat}:AV.d (Ar (decide (¬i∈ord)))=AV.d (Ar (decide (PU w ord i 0))):=bD ⟨fun h=>⟨h,fun j hj=>by omega⟩,fun h=>h.1⟩
theorem PY {w:Ws} {ord:List Nat} {i k:Nat} (h:k=i∨k∈ord∨k∉depL w i):AV.d (Ar (decide (PU w ord i k)))=AV.d (Ar (decide (PU w ord i (k+1)))):=bD ⟨fun hf=>⟨hf.1,fun j hj h1 h2=>by
 by_cases e:j=k
 ·subst e;rcases h with h | h | h
  ·exact absurd h h1
  ·exact absurd h h2
  ·exact h
 ·exact hf.2 j (by omega) h1 h2⟩,fun hf=>⟨hf.1,fun j hj=>hf.2 j (by omega)⟩⟩
theorem LE {w:Ws} {ord:List Nat} {i k:Nat} (h1:k≠i) (h2:k∉ord) (h3:k∈depL w i):AV.d (Ar false)=AV.d (Ar (decide (PU w ord i (k+1)))):=by
 rw [decide_eq_false (show ¬PU w ord i (k+1) from fun hf=>hf.2 k (by omega) h1 h2 h3)]
theorem OH {w:Ws} {ord:List Nat} {i:Nat} (hn:∀k∈depL w i,k≠i):PU w ord i (parts w).length↔GF (depL w) ord i=true:=by
 rw [C1];exact ⟨fun h=>⟨h.1,fun k hk=>Classical.byContradiction fun h2=>h.2 k (Fq hk) (hn k hk) h2 hk⟩,fun h=>⟨h.1,fun j _ _ h2 h3=>h2 (h.2 j h3)⟩⟩
theorem OJ {w:Ws} (hw:B4 w) {i:Nat}:∀k∈depL w i,k≠i:=fun k hk e=>((CA hw).1 hk).1 e.symm
def encR:Option Nat ->Int
 | none=> -1
 | some x=>(x:Int)
structure LRd (w:Ws) (ord:List Nat) (m:Nat) (o:Option Nat):Prop where
 nn:o=none ->∀i,m≤i ->i<(parts w).length ->GF (depL w) ord i=false
 so:∀x,o=some x ->x<(parts w).length∧GF (depL w) ord x=true∧∀i,m≤i ->i<x ->GF (depL w) ord i=false
theorem PA {w:Ws} {ord:List Nat} {m:Nat} (h:m=(parts w).length):LRd w ord m none:=⟨fun _ i hi hl=>by omega,fun x e=>(by cases e)⟩
theorem lrd_hit {w:Ws} {ord:List Nat} {i:Nat} (hi:i<(parts w).length) (h:GF (depL w) ord i=true):LRd w ord i (some i):=⟨fun e=>(by cases e),fun x e=>by injection e with e;subst e;exact ⟨hi,h,fun j h1 h2=>by omega⟩⟩
theorem Q4 {w:Ws} {ord:List Nat} {i:Nat} {o:Option Nat} (h:LRd w ord (i+1) o) (hn:GF (depL w) ord i=false):LRd w ord i o:=
 ⟨fun e j hj hl=>by
  by_cases e2:j=i
  ·rw [e2];exact hn
  ·exact h.nn e j (by omega) hl,fun x e=>⟨(h.so x e).1,(h.so x e).2.1,fun j hj hl=>by
  by_cases e2:j=i
  ·rw [e2];exact hn
  ·exact (h.so x e).2.2 j (by omega) hl⟩⟩
noncomputable def aftT (w:Ws) (ord:List Nat) (x k:Nat):List Nat:=(List.range k).filter fun p=>(depL w x).contains (ord.getD p 0)
theorem RM {w:Ws} {ord:List Nat} {x k:Nat} (h:ord.getD k 0∈depL w x):aftT w ord x (k+1)=aftT w ord x k++ [k]:=by
 unfold aftT;rw [List.range_succ,List.filter_append];simp [List.getD_eq_getElem?_getD] at h⊢;simp [h]
theorem PQ {w:Ws} {ord:List Nat} {x k:Nat} (h:ord.getD k 0∉depL w x):aftT w ord x (k+1)=aftT w ord x k:=by
 unfold aftT;rw [List.range_succ,List.filter_append];simp [List.getD_eq_getElem?_getD] at h⊢;simp [h]
theorem Mn (w:Ws) (ord:List Nat) (x k:Nat):(aftT w ord x k).length≤k:=by
 unfold aftT;exact Nat.le_trans (List.length_filter_le _ _) (by simp)
theorem eqI {a b:Int} (h:a=b):AV.d (Bw a)=AV.d (Bw b):=by rw [h]
set_option maxHeartbeats 2000000 in
theorem Lr (w:Ws) (hw:B4 w) (hl:w.K.length≤2000000):BW Try.prog 37 [.d (LY w)] (if acyW w=true then .tup [Em (groupsW w),Ar true] else .tup [.sl (some true) [],Ar false]):=by
 have hfew:=hw.few
 obtain ⟨n,hn⟩:∃n,(parts w).length=n:=⟨_,rfl⟩
 have hnR:n≤4096:=by rw [←hn];unfold parts;rw [List.length_map];exact Nat.le_trans (List.length_filter_le _ _) hfew
 have hpl:∀i,((parts w).getD i []).length≤2000000:=fun i=>by
  by_cases hi:i<(parts w).length
  ·have h1:=(Cg (Gq hw (List.mem_of_getElem? (E0 hi)))).length_le_of_subset (l₂:=w.R) fun y hy=>((Kq hw hi).1 hy).1;omega
  ·rw [List.getD_eq_getElem?_getD,List.getElem?_eq_none (by omega)];exact Nat.zero_le _
 refine DI Try.func37 Z Z Try.ntmps37 Z Z Z fun F hF=>(AE (AH (U (J2 20 Z Z Z Z Z Z Z) (AD Z Z (AD Z Z (AF (AE (AH ?_))))))))
 first | refine J (B3 Z Z AR rfl) ?_ | refine J (BZ Z Z AR Z Z Z) ?_ | refine J (B1 Z Z (rfl) rfl AR rfl) ?_
 refine J (DU (all_p w hw hl) Z Z) (AD Z Z ?_);refine AF (AE (AH (AC Z Z (J (CI rfl ((List.length_map ..).trans hn) Try.underlying79 rfl) (U (Fc 21 sl99 Z Z Z (by omega) zd4 Z Z Z Z) (AD Z Z (AF (AE ?_))))))));rw [repB];refine AH (AD Z Z (AF ?_));refine AE (Eu 6 30 sl73 Z Z Z Z (AH (AD Z Z (AF (AE (BU (Eu 7 31 Du Z Z Z Z (Ev (α:=List Nat×List Grp) (fun q=>⟨110,[(1,(.ptr 20 0 0)),(4,(.d (CL (parts w)))),(5,(.own 21 0 n)),(6,(.own 30 0 q.2.length)),(7,(.own 31 0 q.1.length))],[JO 20 w,(21,[.rowD 4 1 (Il n q.1)]),(30,[.rowD 76 2 (q.2.map IH)]),(31,[.rowD 3 1 (q.1.map natD)])]⟩) (fun q=>Hj w q.1∧q.2=grpS w q.1) (fun q=>n - q.1.length) (([],[])) (⟨Hj.zero w,rfl⟩) (Ax hF [20,21,30,31] Z Z ⟨rfl,rfl,rfl,rfl,rfl,trivial⟩) ?_))))))));rintro ⟨ord,gs⟩ ⟨hI,hgs⟩;dsimp only at hI hgs⊢;refine AE (AE (AH (AC Z Z ?_)))
 first | refine J (IJ rfl Try.underlying73 rfl) ?_ | refine J (CI Z Z Try.underlying73 rfl) ?_ | refine J (iOq rfl Try.underlying73 rfl) ?_ | refine J (IQ rfl Try.underlying73 rfl) ?_ | refine J (IN rfl Try.underlying73 rfl) ?_ | refine J (IB rfl Try.underlying73 rfl) ?_
 refine AC Z Z (J (CI rfl ((List.length_map ..).trans hn) Try.underlying79 rfl) ?_)
 first | refine J (EG Z Z Z) ?_ | refine J (EK Z Z Z) ?_
 refine AF ?_
 first | refine BA rfl (fun h23=>?_) (fun h23=>?_) | refine Aw rfl (fun h23=>?_) (fun h23=>?_)
 ·refine Aj (BU (AE ?_));have hgl:gs.length=ord.length:=by rw [hgs,D0]
  have hlt:gs.length<n:=GR h23;refine AH (AD Z Z (AF (AE (AE ?_))));refine AH (AC Z Z (J (CI rfl ((List.length_map ..).trans hn) Try.underlying79 rfl) (J (Cc Z Z (IntWalk.i64_in _ (by omega)) rfl) (Kn 26 (.d (Bw ((n:Int) - 1 - ((0:Nat):Int)))) rfl (eqI (by omega)) (AD Z Z (AF (BU (Ev (α:=Nat×Option Nat) (fun q=>⟨110,[(1,(.ptr 20 0 0)),(4,(.d (CL (parts w)))),(5,(.own 21 0 n)),(6,(.own 30 0 gs.length)),(7,(.own 31 0 ord.length)),(8,(.d (Bw (encR q.2)))),(9,(.d (Bw ((n:Int) - 1 - (q.1:Int)))))],[JO 20 w,(21,[.rowD 4 1 (Il n ord)]),(30,[.rowD 76 2 (gs.map IH)]),(31,[.rowD 3 1 (ord.map natD)])]⟩) (fun q=>q.1≤n∧LRd w ord (n - q.1) q.2) (fun q=>n - q.1) ((0,none)) (⟨Nat.zero_le _,PA hn.symm⟩) (Ax hF [20,21,30,31] Z Z ⟨rfl,rfl,rfl,rfl,rfl,rfl,rfl,trivial⟩) ?_))))))));rintro ⟨d,o⟩ ⟨hd,hLA⟩;dsimp only at hd hLA⊢;refine AE (AE (AH (AC Z Z (J (Ic Z Z Z) (AF ?_)))))
  first | refine BA rfl (fun h28=>?_) (fun h28=>?_) | refine Aw rfl (fun h28=>?_) (fun h28=>?_)
  ·refine Aj (AE (BU (AE ?_)));have hdl:d<n:=by have:=h28;omega
   refine Nj 9 (.d (natD (n - 1 - d))) rfl (eqI (by omega)) ?_
   obtain ⟨i,hie⟩:∃i,n - 1 - d=i:=⟨_,rfl⟩
   rw [hie];have hil:i<n:=by omega
   have hil2:i<(parts w).length:=by omega
   have hie2:i=n - (d+1):=by omega
   have hie3:n - d=i+1:=by omega
   refine AH (AC Z Z (AC Z Z ?_))
   first | refine J (BC (i) Z Z (rfl) (hil) Try.underlying99 rfl L5 rfl) ?_ | refine J (BD (i) Z Z (rfl) (hil) rfl Try.underlying99 L5 rfl) ?_
   first | refine J (AZ Z Z PX rfl) ?_ | refine J (AX Z Z Z PX rfl) ?_ | refine J (AY Z Z (Gj hil) rfl PX rfl) ?_
   first | refine J (FB Z Z) ?_ | refine J (FA Z Z) ?_
   refine Kn 35 (.d (Ar (decide (PU w ord i 0)))) rfl Qn ?_;refine AD Z Z (AF (AE (AE (AH (AD Z Z (AF (BU (Ev (α:=Nat) (fun k=>⟨110,[(1,(.ptr 20 0 0)),(4,(.d (CL (parts w)))),(5,(.own 21 0 n)),(6,(.own 30 0 gs.length)),(7,(.own 31 0 ord.length)),(8,(.d (Bw (encR o)))),(9,(.d (natD i))),(10,(.d (Ar (decide (PU w ord i k))))),(11,(.d (natD k)))],[JO 20 w,(21,[.rowD 4 1 (Il n ord)]),(30,[.rowD 76 2 (gs.map IH)]),(31,[.rowD 3 1 (ord.map natD)])]⟩) (fun k=>k≤n) (fun k=>n - k) (0) (Nat.zero_le _) (Ax hF [20,21,30,31] Z Z ⟨rfl,rfl,rfl,rfl,rfl,rfl,rfl,rfl,rfl,trivial⟩) ?_))))))));intro k hk;refine AE (AE (AH (AC Z Z (AC Z Z (J (CI rfl ((List.length_map ..).trans hn) Try.underlying79 rfl) ?_)))))
   first | refine J (EG Z Z Z) ?_ | refine J (EK Z Z Z) ?_
   refine AF ?_
   first | refine BA rfl (fun h39=>?_) (fun h39=>?_) | refine Aw rfl (fun h39=>?_) (fun h39=>?_)
   ·refine Aj (AE (BU (AE ?_)));have hkl:k<n:=GR h39;have hkl2:k<(parts w).length:=by omega
    refine Fs [[],[],[0,1],[0,1,2],[0,1,2,3],[0,1,2,3],[0,1,2,3,4,5],[0,1,2,3,4,5,6],[0,1,2,3,4,5,6,7],[0,1,2,3,4,5,6,7,8],[0,1,2,3,4,5,6,7,8,9],[0,1,2,3,4,5,6,7,8,9,10],[0,1,2,3,4,5,6,7,8,9,10],[0,1,2,3,4,5,6,7,8,9,10],[0,1,2,3,4,5,6,7,8,9,10,12,13],[0,1,2,3,4,5,6,7,8,9,10,12,13,14],[0,1,2,3,4,5,6,7,8,9,10],[0,1,2,3,4,5,6,7,8,9,10],[0,1,2,3,4,5,6,7,8,9,10,16,17],[0,1,2,3,4,5,6,7,8,9,10,16,17,18],[0,1,2,3,4,5,6,7,8,9,10,11,12,13,14,15,16,17,18,19],[0,1,2,3,4,5,6,7,8,9,10,11,12,13,14,15,16,17,18,19,20]] mixed rfl (E6 ?_)
    first | refine AG [9] [] Z Z (fun _=>AB (Ah Z Z)) ?_ | refine AI [9] Z Z (fun _=>AB (Ah Z Z)) ?_
    first | refine AG [11] [] Z Z (fun _=>AB (Ah Z Z)) ?_ | refine AI [11] Z Z (fun _=>AB (Ah Z Z)) ?_
    refine E7 2 Z Z Z (Bq 3 Z Z ?_)
    first | refine J (Jh Z Z Z) ?_ | refine J (Jg Z Z Z) ?_ | refine J (JZ Z Z Z) ?_ | refine J (Ji Try.underlying3 Z Z Z) ?_ | refine J (Je Try.underlying3 Z Z Z) ?_ | refine J (st_neqN Try.underlying3 Z Z) ?_ | refine J (st_neqPr Try.underlying3 Z Z) ?_ | refine J (st_neqMz Try.underlying3 Z Z) ?_ | refine J (Jd Try.underlying3 Z Z Z) ?_ | refine J (st_neqFN Try.underlying3 Z Z) ?_
    refine AF ⟨rfl,?_⟩;refine Bq 4 Z Z (AC Z Z ?_)
    first | refine K6 45 rfl (fun h45=>?_) (fun h45=>?_) | refine J0 45 rfl (fun h45=>?_) (fun h45=>?_)
    ·refine AF ⟨rfl,?_⟩;refine E6 ?_
     first | refine AG [5,45] [] Z Z (fun _=>F7 Z Z Z (Ah Z Z)) ?_ | refine AI [5,45] Z Z (fun _=>F7 Z Z Z (Ah Z Z)) ?_
     first | refine AG [11,45] [] Z Z (fun _=>F7 Z Z Z (Ah Z Z)) ?_ | refine AI [11,45] Z Z (fun _=>F7 Z Z Z (Ah Z Z)) ?_
     refine E7 6 Z Z Z (Bq 7 Z Z (Ab Z Z Z ?_))
     first | refine J (BC (k) Z Z (rfl) (hkl) Try.underlying99 rfl L5 rfl) ?_ | refine J (BD (k) Z Z (rfl) (hkl) rfl Try.underlying99 L5 rfl) ?_
     refine AF ⟨rfl,?_⟩;refine Bq 8 Z Z (Ab Z Z Z ?_)
     first | refine J (AZ Z Z PX rfl) ?_ | refine J (AX Z Z Z PX rfl) ?_ | refine J (AY Z Z (Gj hkl) rfl PX rfl) ?_
     refine AF ⟨rfl,?_⟩;refine Bq 9 Z Z (Ab Z Z Z ?_)
     first | refine J (FB Z Z) ?_ | refine J (FA Z Z) ?_
     refine AF ⟨rfl,?_⟩;refine Bq 10 Z Z (J (Hz Z Z Z Z) (AF ⟨rfl,?_⟩));refine Bq 11 Z Z (AC Z Z ?_)
     first | refine K6 52 rfl (fun h52=>?_) (fun h52=>?_) | refine J0 52 rfl (fun h52=>?_) (fun h52=>?_)
     ·refine AF ⟨rfl,?_⟩;refine E6 ?_
      first | refine AG [1,52] [20] Z Z (fun _=>F7 Z Z Z (B3 Z Z AR rfl)) ?_ | refine AG [1,52] [20] Z Z (fun _=>F7 Z Z Z (BZ Z Z AR Z Z Z)) ?_ | refine AG [1,52] [20] Z Z (fun _=>F7 Z Z Z (B1 Z Z (rfl) rfl AR rfl)) ?_
      first | refine AG [4,52] [] Z Z (fun _=>F7 Z Z Z (Ah Z Z)) ?_ | refine AI [4,52] Z Z (fun _=>F7 Z Z Z (Ah Z Z)) ?_
      first | refine AG [9,52] [] Z Z (fun _=>F7 Z Z Z (Ah Z Z)) ?_ | refine AI [9,52] Z Z (fun _=>F7 Z Z Z (Ah Z Z)) ?_
      first | refine AG [54,55,52] [] Z Z (fun _=>F7 Z Z Z (BC (i) Z Z (rfl) (Hy hil2) Try.underlying79 rfl Bl rfl)) ?_ | refine AI [54,55,52] Z Z (fun _=>F7 Z Z Z (BC (i) Z Z (rfl) (Hy hil2) Try.underlying79 rfl Bl rfl)) ?_ | refine AG [54,55,52] [] Z Z (fun _=>F7 Z Z Z (BD (i) Z Z (rfl) (Hy hil2) rfl Try.underlying79 Bl rfl)) ?_ | refine AI [54,55,52] Z Z (fun _=>F7 Z Z Z (BD (i) Z Z (rfl) (Hy hil2) rfl Try.underlying79 Bl rfl)) ?_
      first | refine AG [56,52] [] Z Z (fun _=>F7 Z Z Z (AZ Z Z AK rfl)) ?_ | refine AI [56,52] Z Z (fun _=>F7 Z Z Z (AZ Z Z AK rfl)) ?_ | refine AG [56,52] [] Z Z (fun _=>F7 Z Z Z (AX Z Z Z AK rfl)) ?_ | refine AI [56,52] Z Z (fun _=>F7 Z Z Z (AX Z Z Z AK rfl)) ?_ | refine AG [56,52] [] Z Z (fun _=>F7 Z Z Z (AY Z Z (rfl) rfl AK rfl)) ?_ | refine AI [56,52] Z Z (fun _=>F7 Z Z Z (AY Z Z (rfl) rfl AK rfl)) ?_
      first | refine AG [4,52] [] Z Z (fun _=>F7 Z Z Z (Ah Z Z)) ?_ | refine AI [4,52] Z Z (fun _=>F7 Z Z Z (Ah Z Z)) ?_
      first | refine AG [11,52] [] Z Z (fun _=>F7 Z Z Z (Ah Z Z)) ?_ | refine AI [11,52] Z Z (fun _=>F7 Z Z Z (Ah Z Z)) ?_
      first | refine AG [58,59,52] [] Z Z (fun _=>F7 Z Z Z (BC (k) Z Z (rfl) (Hy hkl2) Try.underlying79 rfl Bl rfl)) ?_ | refine AI [58,59,52] Z Z (fun _=>F7 Z Z Z (BC (k) Z Z (rfl) (Hy hkl2) Try.underlying79 rfl Bl rfl)) ?_ | refine AG [58,59,52] [] Z Z (fun _=>F7 Z Z Z (BD (k) Z Z (rfl) (Hy hkl2) rfl Try.underlying79 Bl rfl)) ?_ | refine AI [58,59,52] Z Z (fun _=>F7 Z Z Z (BD (k) Z Z (rfl) (Hy hkl2) rfl Try.underlying79 Bl rfl)) ?_
      first | refine AG [60,52] [] Z Z (fun _=>F7 Z Z Z (AZ Z Z AK rfl)) ?_ | refine AI [60,52] Z Z (fun _=>F7 Z Z Z (AZ Z Z AK rfl)) ?_ | refine AG [60,52] [] Z Z (fun _=>F7 Z Z Z (AX Z Z Z AK rfl)) ?_ | refine AI [60,52] Z Z (fun _=>F7 Z Z Z (AX Z Z Z AK rfl)) ?_ | refine AG [60,52] [] Z Z (fun _=>F7 Z Z Z (AY Z Z (rfl) rfl AK rfl)) ?_ | refine AI [60,52] Z Z (fun _=>F7 Z Z Z (AY Z Z (rfl) rfl AK rfl)) ?_
      refine E7 20 Z Z Z (Bq 21 Z Z (Ab Z Z Z (J (DU (KS w ((parts w).getD i []) ((parts w).getD k []) hl (hpl _) (hpl _)) Z Z) (AF ⟨rfl,?_⟩))));refine Bq 22 Z Z (J (Hz Z Z Z Z) (AF ⟨rfl,?_⟩));refine FH ?_
      first | refine BA rfl (fun h63=>?_) (fun h63=>?_) | refine Aw rfl (fun h63=>?_) (fun h63=>?_)
      ·refine AH (AD Z Z (AF (Nj 10 (.d (Ar (decide (PU w ord i (k+1))))) rfl (by first | exact LE (fun e=>h45 (by rw [e])) h52 ((CD hw hil2 hkl2 (fun e=>h45 (by rw [e]))).1 h63) | exact PY (.inr (.inr fun hh=>h63 ((CD hw hil2 hkl2 (fun e=>h45 (by rw [e]))).2 hh))) | exact PY (.inr (.inl (Classical.not_not.1 h52))) | exact PY (.inl (Int.ofNat.inj (Classical.not_not.1 h45)).symm)) (AH (AC Z Z (J (C8 Z Z (IntWalk.i64_in _ (by omega)) rfl) (AD Z Z (AF ?_))))))));exact ⟨k+1,hkl,by omega,Ax hF [20,21,30,31] rfl (rfl) ⟨rfl,rfl,rfl,rfl,rfl,rfl,rfl,rfl,rfl,trivial⟩⟩
      ·refine Aj (Nj 10 (.d (Ar (decide (PU w ord i (k+1))))) rfl (by first | exact LE (fun e=>h45 (by rw [e])) h52 ((CD hw hil2 hkl2 (fun e=>h45 (by rw [e]))).1 h63) | exact PY (.inr (.inr fun hh=>h63 ((CD hw hil2 hkl2 (fun e=>h45 (by rw [e]))).2 hh))) | exact PY (.inr (.inl (Classical.not_not.1 h52))) | exact PY (.inl (Int.ofNat.inj (Classical.not_not.1 h45)).symm)) (AH (AC Z Z (J (C8 Z Z (IntWalk.i64_in _ (by omega)) rfl) (AD Z Z (AF ?_))))));exact ⟨k+1,hkl,by omega,Ax hF [20,21,30,31] rfl (rfl) ⟨rfl,rfl,rfl,rfl,rfl,rfl,rfl,rfl,rfl,trivial⟩⟩
     ·refine AF ⟨rfl,?_⟩;refine E6 (AG [1,52] [] Z Z (fun _=>K7 Z Z Z Z) (AG [4,52] [] Z Z (fun _=>K7 Z Z Z Z) (AG [9,52] [] Z Z (fun _=>K7 Z Z Z Z) (AG [54,55,52] [] Z Z (fun _=>K7 Z Z Z Z) ?_))));refine AG [56,52] [] Z Z (fun _=>K7 Z Z Z Z) (AG [4,52] [] Z Z (fun _=>K7 Z Z Z Z) (AG [11,52] [] Z Z (fun _=>K7 Z Z Z Z) (AG [58,59,52] [] Z Z (fun _=>K7 Z Z Z Z) (AG [60,52] [] Z Z (fun _=>K7 Z Z Z Z) (E7 20 Z Z Z (Bq 21 Z Z (BL Z Z Z Z (AF ⟨rfl,?_⟩))))))));refine Bq 22 Z Z (J (HO Z Z Z Z) (AF ⟨rfl,?_⟩));refine FH (EI Z Z (Aj (Nj 10 (.d (Ar (decide (PU w ord i (k+1))))) rfl (by first | exact LE (fun e=>h45 (by rw [e])) h52 ((CD hw hil2 hkl2 (fun e=>h45 (by rw [e]))).1 h63) | exact PY (.inr (.inr fun hh=>h63 ((CD hw hil2 hkl2 (fun e=>h45 (by rw [e]))).2 hh))) | exact PY (.inr (.inl (Classical.not_not.1 h52))) | exact PY (.inl (Int.ofNat.inj (Classical.not_not.1 h45)).symm)) (AH (AC Z Z (J (C8 Z Z (IntWalk.i64_in _ (by omega)) rfl) (AD Z Z (AF ?_))))))));exact ⟨k+1,hkl,by omega,Ax hF [20,21,30,31] rfl (rfl) ⟨rfl,rfl,rfl,rfl,rfl,rfl,rfl,rfl,rfl,trivial⟩⟩
    ·refine AF ⟨rfl,?_⟩;refine E6 (AG [5,45] [] Z Z (fun _=>K7 Z Z Z Z) (AG [11,45] [] Z Z (fun _=>K7 Z Z Z Z) (E7 6 Z Z Z (Bq 7 Z Z (BL Z Z Z Z (AF ⟨rfl,?_⟩))))));refine Bq 8 Z Z (BL Z Z Z Z (AF ⟨rfl,?_⟩));refine Bq 9 Z Z (BL Z Z Z Z (AF ⟨rfl,?_⟩));refine Bq 10 Z Z (J (HO Z Z Z Z) (AF ⟨rfl,?_⟩));refine Bq 11 Z Z (AC Z Z (AF ⟨rfl,?_⟩));refine E6 (AG [1,52] [] Z Z (fun _=>K7 Z Z Z Z) (AG [4,52] [] Z Z (fun _=>K7 Z Z Z Z) (AG [9,52] [] Z Z (fun _=>K7 Z Z Z Z) (AG [54,55,52] [] Z Z (fun _=>K7 Z Z Z Z) ?_))));refine AG [56,52] [] Z Z (fun _=>K7 Z Z Z Z) (AG [4,52] [] Z Z (fun _=>K7 Z Z Z Z) (AG [11,52] [] Z Z (fun _=>K7 Z Z Z Z) (AG [58,59,52] [] Z Z (fun _=>K7 Z Z Z Z) (AG [60,52] [] Z Z (fun _=>K7 Z Z Z Z) (E7 20 Z Z Z (Bq 21 Z Z (BL Z Z Z Z (AF ⟨rfl,?_⟩))))))));refine Bq 22 Z Z (J (HO Z Z Z Z) (AF ⟨rfl,?_⟩));refine FH (EI Z Z (Aj (Nj 10 (.d (Ar (decide (PU w ord i (k+1))))) rfl (by first | exact LE (fun e=>h45 (by rw [e])) h52 ((CD hw hil2 hkl2 (fun e=>h45 (by rw [e]))).1 h63) | exact PY (.inr (.inr fun hh=>h63 ((CD hw hil2 hkl2 (fun e=>h45 (by rw [e]))).2 hh))) | exact PY (.inr (.inl (Classical.not_not.1 h52))) | exact PY (.inl (Int.ofNat.inj (Classical.not_not.1 h45)).symm)) (AH (AC Z Z (J (C8 Z Z (IntWalk.i64_in _ (by omega)) rfl) (AD Z Z (AF ?_))))))));exact ⟨k+1,hkl,by omega,Ax hF [20,21,30,31] rfl (rfl) ⟨rfl,rfl,rfl,rfl,rfl,rfl,rfl,rfl,rfl,trivial⟩⟩
   ·refine D7 (AE ?_);have hkn:n=k:=by have:=h39;omega
    subst hkn;refine AH (AC Z Z (AF ?_))
    first | refine BA rfl (fun h64=>?_) (fun h64=>?_) | refine Aw rfl (fun h64=>?_) (fun h64=>?_)
    ·refine AH ?_;refine AC Z Z (AD Z Z (AF (AH (AC Z Z (J (Cc Z Z (IntWalk.i64_in _ (by omega)) rfl) (Kn 30 (.d (Bw ((n:Int) - 1 - ((d+1:Nat):Int)))) rfl (eqI (by omega)) (AD Z Z (AF ?_))))))));exact ⟨(d+1,some i),⟨hdl,hie2▸lrd_hit hil2 ((OH (OJ hw)).1 (by rw [hn];exact h64))⟩,by show n - (d+1)<n - d;omega,Ax hF [20,21,30,31] rfl (rfl) ⟨rfl,rfl,rfl,rfl,rfl,rfl,rfl,trivial⟩⟩
    ·refine Aj (AH (AC Z Z (J (Cc Z Z (IntWalk.i64_in _ (by omega)) rfl) (Kn 30 (.d (Bw ((n:Int) - 1 - ((d+1:Nat):Int)))) rfl (eqI (by omega)) (AD Z Z (AF ?_))))));exact ⟨(d+1,o),⟨hdl,hie2▸Q4 (hie3▸hLA) (by rw [Bool.eq_false_iff];exact fun hc=>h64 (by have:=(OH (OJ hw)).2 hc;rw [hn] at this;exact this))⟩,by show n - (d+1)<n - d;omega,Ax hF [20,21,30,31] rfl (rfl) ⟨rfl,rfl,rfl,rfl,rfl,rfl,rfl,trivial⟩⟩
  ·refine D7 (AE (AE ?_));have hdn:n - d=0:=by have:=h28;omega
   rw [hdn] at hLA;refine AH (AC Z Z ?_)
   first | refine J (EG Z Z Z) ?_ | refine J (EK Z Z Z) ?_
   refine AF ?_
   first | refine BA rfl (fun h67=>?_) (fun h67=>?_) | refine Aw rfl (fun h67=>?_) (fun h67=>?_)
   ·refine AE (AH (AD Z Z (AD Z Z (AF (Av ?_)))));have hon:o=none:=by cases o with | none=>rfl | some x=>exact absurd h67 (by show ¬((x:Int)<0);omega)
    obtain ⟨g1,g2⟩:=LD (hI.stop (by omega) (MD fun i hi=>hLA.nn hon i (Nat.zero_le _) hi));exact ⟨_,[],[],As rfl,rfl,rfl,by rw [g2];rfl,rfl⟩
   ·refine Aj (AE ?_);obtain ⟨x,hx⟩:∃x,o=some x:=by cases o with | none=>exact absurd (show encR none<0 by decide) h67 | some x=>exact ⟨x,rfl⟩
    subst hx;obtain ⟨hx2,hxr,hxm⟩:=hLA.so x rfl;have hxl:x<n:=by omega
    have hnx:=Eh hx2 hxr (fun j hj=>hxm j (Nat.zero_le _) hj);obtain ⟨_,hxo,_⟩:=EW hnx;refine Nj 8 (.d (natD x)) Z Z (AH (AC Z Z (AC Z Z ?_)))
    first | refine J (BC (x) Z Z (rfl) (hxl) Try.underlying99 rfl L5 rfl) ?_ | refine J (BD (x) Z Z (rfl) (hxl) rfl Try.underlying99 L5 rfl) ?_
    refine U (Zci Z Z Z Z Z (by rw [Ik];exact hxl) Ij rfl L5) (AF (AE (AH (AC Z Z (AC Z Z ?_)))))
    first | refine J (BC (x) Z Z (rfl) (Hy hx2) Try.underlying79 rfl Bl rfl) ?_ | refine J (BD (x) Z Z (rfl) (Hy hx2) rfl Try.underlying79 Bl rfl) ?_
    first | refine J (AZ Z Z AK rfl) ?_ | refine J (AX Z Z Z AK rfl) ?_ | refine J (AY Z Z (rfl) rfl AK rfl) ?_
    refine J (Mr zl76 pl76 Z Z Z) (U (IP 40 zl76 Z Z Z Z) (U (Bu Z Z Z Z Z Z Z sz76) ?_));refine AF (AE (AE (AH (AD Z Z (AF (BU (D2 40 0 1 41 Du Z Z Z Z Z Z Z (Ev (α:=Nat×List Nat) (fun q=>⟨110,[(1,(.ptr 20 0 0)),(4,(.d (CL (parts w)))),(5,(.own 21 0 n)),(6,(.own 30 0 gs.length)),(7,(.own 31 0 ord.length)),(8,(.d (natD x))),(12,(.ptr 40 0 0)),(13,(.d (natD q.1)))],[JO 20 w,(21,[.rowD 4 1 (Il n (ord++ [x]))]),(30,[.rowD 76 2 (gs.map IH)]),(31,[.rowD 3 1 (ord.map natD)]),(40,[.blk 76 [.d (stsD ((parts w).getD x [])),.own 41 0 q.2.length]]),(41,[.rowD 3 1 (q.2.map natD)])]⟩) (fun q=>q.1≤ord.length∧q.2=aftT w ord x q.1) (fun q=>ord.length - q.1) ((0,[])) (⟨Nat.zero_le _,rfl⟩) (Ax hF [20,21,30,31,40,41] Z Z ⟨rfl,rfl,rfl,rfl,rfl,rfl,rfl,rfl,trivial⟩) ?_))))))));rintro ⟨p,acc⟩ ⟨hp,hacc⟩;dsimp only at hp hacc⊢;refine AE (AE (AH (AC Z Z (AC Z Z ?_))))
    first | refine J (IJ rfl Try.underlying49 rfl) ?_ | refine J (CI Z Z Try.underlying49 rfl) ?_ | refine J (iOq rfl Try.underlying49 rfl) ?_ | refine J (IQ rfl Try.underlying49 rfl) ?_ | refine J (IN rfl Try.underlying49 rfl) ?_ | refine J (IB rfl Try.underlying49 rfl) ?_
    first | refine J (EG Z Z Z) ?_ | refine J (EK Z Z Z) ?_
    refine AF ?_
    first | refine BA rfl (fun h79=>?_) (fun h79=>?_) | refine Aw rfl (fun h79=>?_) (fun h79=>?_)
    ·refine Aj (AE (BU (AE ?_)));have hpl2:p<ord.length:=GR h79;have hyl:By ord p<(parts w).length:=hI.good.lt _ (Do hpl2);have hal:acc.length≤4096:=by have:=Mn w ord x p;rw [←hacc] at this;omega
     refine Fs [[],[],[],[1,2],[1,2,3],[],[],[],[6,7],[6,7,8],[5,6,7,8,9],[5,6,7,8,9,10],[0,1,2,3,4,5,6,7,8,9,10,11]] mixed rfl (E6 ?_)
     first | refine AG [1] [20] Z Z (fun _=>AB (B3 Z Z AR rfl)) ?_ | refine AG [1] [20] Z Z (fun _=>AB (BZ Z Z AR Z Z Z)) ?_ | refine AG [1] [20] Z Z (fun _=>AB (B1 Z Z (rfl) rfl AR rfl)) ?_
     first | refine AG [4] [] Z Z (fun _=>AB (Ah Z Z)) ?_ | refine AI [4] Z Z (fun _=>AB (Ah Z Z)) ?_
     first | refine AG [8] [] Z Z (fun _=>AB (Ah Z Z)) ?_ | refine AI [8] Z Z (fun _=>AB (Ah Z Z)) ?_
     first | refine AG [83,84] [] Z Z (fun _=>AB (BC (x) Z Z (rfl) (Hy hx2) Try.underlying79 rfl Bl rfl)) ?_ | refine AI [83,84] Z Z (fun _=>AB (BC (x) Z Z (rfl) (Hy hx2) Try.underlying79 rfl Bl rfl)) ?_ | refine AG [83,84] [] Z Z (fun _=>AB (BD (x) Z Z (rfl) (Hy hx2) rfl Try.underlying79 Bl rfl)) ?_ | refine AI [83,84] Z Z (fun _=>AB (BD (x) Z Z (rfl) (Hy hx2) rfl Try.underlying79 Bl rfl)) ?_
     first | refine AG [85] [] Z Z (fun _=>AB (AZ Z Z AK rfl)) ?_ | refine AI [85] Z Z (fun _=>AB (AZ Z Z AK rfl)) ?_ | refine AG [85] [] Z Z (fun _=>AB (AX Z Z Z AK rfl)) ?_ | refine AI [85] Z Z (fun _=>AB (AX Z Z Z AK rfl)) ?_ | refine AG [85] [] Z Z (fun _=>AB (AY Z Z (rfl) rfl AK rfl)) ?_ | refine AI [85] Z Z (fun _=>AB (AY Z Z (rfl) rfl AK rfl)) ?_
     first | refine AG [4] [] Z Z (fun _=>AB (Ah Z Z)) ?_ | refine AI [4] Z Z (fun _=>AB (Ah Z Z)) ?_
     first | refine AG [7] [] Z Z (fun _=>AB (Ah Z Z)) ?_ | refine AI [7] Z Z (fun _=>AB (Ah Z Z)) ?_
     first | refine AG [13] [] Z Z (fun _=>AB (Ah Z Z)) ?_ | refine AI [13] Z Z (fun _=>AB (Ah Z Z)) ?_
     first | refine AG [88,89] [31] Z Z (fun _=>AB (BC (p) Z Z (rfl) (hpl2) Try.underlying49 rfl D5 rfl)) ?_ | refine AG [88,89] [31] Z Z (fun _=>AB (BD (p) Z Z (rfl) (hpl2) rfl Try.underlying49 D5 rfl)) ?_
     first | refine AG [90] [31] Z Z (fun _=>AB (AZ Z Z Ba rfl)) ?_ | refine AG [90] [31] Z Z (fun _=>AB (AX Z Z Z Ba rfl)) ?_ | refine AG [90] [31] Z Z (fun _=>AB (AY Z Z (EC hpl2) rfl Ba rfl)) ?_
     first | refine AG [87,91] [] Z Z (fun _=>AB (BC (By ord p) Z Z (rfl) (Hy hyl) Try.underlying79 rfl Bl rfl)) ?_ | refine AI [87,91] Z Z (fun _=>AB (BC (By ord p) Z Z (rfl) (Hy hyl) Try.underlying79 rfl Bl rfl)) ?_ | refine AG [87,91] [] Z Z (fun _=>AB (BD (By ord p) Z Z (rfl) (Hy hyl) rfl Try.underlying79 Bl rfl)) ?_ | refine AI [87,91] Z Z (fun _=>AB (BD (By ord p) Z Z (rfl) (Hy hyl) rfl Try.underlying79 Bl rfl)) ?_
     first | refine AG [92] [] Z Z (fun _=>AB (AZ Z Z AK rfl)) ?_ | refine AI [92] Z Z (fun _=>AB (AZ Z Z AK rfl)) ?_ | refine AG [92] [] Z Z (fun _=>AB (AX Z Z Z AK rfl)) ?_ | refine AI [92] Z Z (fun _=>AB (AX Z Z Z AK rfl)) ?_ | refine AG [92] [] Z Z (fun _=>AB (AY Z Z (rfl) rfl AK rfl)) ?_ | refine AI [92] Z Z (fun _=>AB (AY Z Z (rfl) rfl AK rfl)) ?_
     refine E7 12 Z Z Z (Bq 13 Z Z (J (DU (KS w ((parts w).getD x []) ((parts w).getD (By ord p) []) hl (hpl _) (hpl _)) Z Z) (AF ⟨rfl,?_⟩)));refine FH ?_
     first | refine BA rfl (fun h94=>?_) (fun h94=>?_) | refine Aw rfl (fun h94=>?_) (fun h94=>?_)
     ·refine AH ?_
      first | refine J (A2 rfl ED Z Z Z) ?_ | refine J (A4 rfl ED Z Z Z) ?_ | refine J (A5 rfl ED Z Z Z) ?_ | refine J (A3 rfl ED Z Z Z) ?_ | refine J (A1 rfl ED Z Z Z) ?_
      first | refine J (AZ Z Z Af rfl) ?_ | refine J (AX Z Z Z Af rfl) ?_ | refine J (AY Z Z (rfl) rfl Af rfl) ?_
      refine AC Z Z (U (Ga 42 Du Z Z Z Z Z Z Z Z) ?_)
      first | refine U (I2 (acc) ([p]) Z Z Z Z Z Z Z Z Du (by simp only [List.length_singleton];omega) Z Z Z Z) ?_ | refine U (Jf (acc) ([p]) Z Z Z Z Z Z (fun _=>rfl) Du (by simp only [List.length_singleton];omega) Z Z Z Z) ?_
      first | refine J (A2 rfl ED Z Z Z) ?_ | refine J (A4 rfl ED Z Z Z) ?_ | refine J (A5 rfl ED Z Z Z) ?_ | refine J (A3 rfl ED Z Z Z) ?_ | refine J (A1 rfl ED Z Z Z) ?_
      refine U (Bu Z Z Z Z Z Z Z Bk) (AF (AH (AC Z Z (J (C8 Z Z (IntWalk.i64_in _ (by omega)) rfl) (AD Z Z (AF ?_))))));exact ⟨(p+1,acc++ [p]),⟨hpl2,by show _=aftT w ord x (p+1);rw [RM ((CD hw hx2 hyl (fun e=>hxo (by rw [e];exact Do hpl2))).1 h94),hacc]⟩,by show ord.length - (p+1)<ord.length - p;omega,Ax hF [20,21,30,31,40,41] rfl (rfl) ⟨rfl,rfl,rfl,rfl,rfl,rfl,rfl,rfl,trivial⟩⟩
     ·refine Aj (AH (AC Z Z (J (C8 Z Z (IntWalk.i64_in _ (by omega)) rfl) (AD Z Z (AF ?_)))));exact ⟨(p+1,acc),⟨hpl2,by show _=aftT w ord x (p+1);rw [PQ (fun hh=>h94 ((CD hw hx2 hyl (fun e=>hxo (by rw [e];exact Do hpl2))).2 hh)),hacc]⟩,by show ord.length - (p+1)<ord.length - p;omega,Ax hF [20,21,30,31,40,41] rfl (rfl) ⟨rfl,rfl,rfl,rfl,rfl,rfl,rfl,rfl,trivial⟩⟩
    ·refine D7 (AE ?_);have hpe:p=ord.length:=by have:=h79;omega
     have hac:acc=D1 (depL w) ord x ord.length:=by rw [hacc,hpe];rfl
     refine CU (ys:=acc.map natD) 40 0 1 41 Z Z Z (Nat.le_of_eq (by rw [List.length_map])) (List.take_of_length_le (by rw [List.length_map];exact Nat.le_refl _)) Z Z Z Z Z Z ?_;rw [hac];refine AH (AC Z Z ?_)
     first | refine J (B3 Z Z rw76 rfl) ?_ | refine J (BZ Z Z rw76 Z Z Z) ?_ | refine J (B1 Z Z (rfl) rfl rw76 rfl) ?_
     refine U (Ga 43 sl73 Z Z Z Z Z Z Z Z) ?_
     first | refine U (I2 (gs) ([(⟨(parts w).getD x [],D1 (depL w) ord x ord.length⟩:Grp)]) Z Z Z Z Z Z Z Z sl73 (by simp only [List.length_singleton];omega) Z Z Z Z) ?_ | refine U (Jf (gs) ([(⟨(parts w).getD x [],D1 (depL w) ord x ord.length⟩:Grp)]) Z Z Z Z Z Z (fun _=>rfl) sl73 (by simp only [List.length_singleton];omega) Z Z Z Z) ?_
     refine AD Z Z (AF (AH (AC Z Z (AC Z Z (U (Ga 44 Du Z Z Z Z Z Z Z Z) ?_)))))
     first | refine U (I2 (ord) ([x]) Z Z Z Z Z Z Z Z Du (by simp only [List.length_singleton];omega) Z Z Z Z) ?_ | refine U (Jf (ord) ([x]) Z Z Z Z Z Z (fun _=>rfl) Du (by simp only [List.length_singleton];omega) Z Z Z Z) ?_
     refine AD Z Z (AF ?_);exact ⟨(ord++ [x],gs++ [⟨(parts w).getD x [],D1 (depL w) ord x ord.length⟩]),⟨hI.next (by omega) hnx,by show _=grpS w (ord++ [x]);rw [KQ,hgs]⟩,by show n - (ord++ [x]).length<n - ord.length;rw [List.length_append,List.length_singleton];omega,Ax hF [20,21,30,31] rfl (rfl) ⟨rfl,rfl,rfl,rfl,rfl,trivial⟩⟩
 ·refine D7 (AE ?_);obtain ⟨g1,g2⟩:=Fm (hI.fin (by have h1:=h23;have h2:gs.length=ord.length:=(by rw [hgs,D0]);omega));refine PZ (emb:=IH) 6 30 gs Z Z Z Z Z Z Z (AH (AC Z Z (AD Z Z (AD Z Z (AF (Av ?_))))));exact ⟨_,[],[],As rfl,rfl,rfl,by rw [if_pos g2,g1,hgs],rfl⟩
end Go.Proofs.Ytlmedakidpaeeaa
