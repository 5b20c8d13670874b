/- Layer 27: the reference's insert and depends. -/
import Derived.Test.YtlmedakidpaeeaaGreatMg20
namespace Go.Proofs.YtlmedakidpaeeaaGreat
open Go.RowKit
set_option maxRecDepth 100000
theorem L1:∀(a b:List UInt8),Op.bytesLess a b=decide (a<b)
 | [],[]=>by simp [Op.bytesLess]
 | [],_::_=>by simp [Op.bytesLess]
 | _::_,[]=>by simp [Op.bytesLess]
 | a::x,b::y=>by
  simp only [Op.bytesLess,L1 x y];rw [Bool.eq_iff_iff]
  simp [List.cons_lt_cons_iff]
theorem R4 (a b:St):AV.d (.raw (.bool (Op.bytesLess (⟨a.toArray⟩:ByteArray).toList (⟨b.toArray⟩:ByteArray).toList)))= .d (Ad (decide (a<b))):=by
 rw [Lib.toList_data,Lib.toList_data];show AV.d (.raw (.bool (Op.bytesLess a b)))=_;rw [L1]
def Id (ins:Bool) (l:List St) (x:St):List St:=if ins then l else BI l x
theorem Ln {l:List St} {k:Nat} (h:k<l.length):l.drop k=l.getD k []::l.drop (k+1):=by
 rw [List.drop_eq_getElem_cons h,List.getD_eq_getElem?_getD,List.getElem?_eq_getElem h];rfl
theorem Rp {out l:List St} {k:Nat} {x:St} (h:k<l.length) (hx:x<l.getD k []) (e:out++Id false (l.drop k) x=BI l x):(out++ [x]++ [l.getD k []])++Id true (l.drop (k+1)) x=BI l x:=by
 rw [←e,Ln h];show (out++ [x]++ [l.getD k []])++l.drop (k+1)=out++BI (l.getD k []::l.drop (k+1)) x;rw [show BI (l.getD k []::l.drop (k+1)) x=x::l.getD k []::l.drop (k+1) by rw [BI,if_pos hx]]
 simp
theorem Ps {out l:List St} {k:Nat} {x:St} (h:k<l.length) (hx:¬x<l.getD k []) (e:out++Id false (l.drop k) x=BI l x):(out++ [l.getD k []])++Id false (l.drop (k+1)) x=BI l x:=by
 rw [←e,Ln h];simp only [Id,BI,if_neg hx]
 simp
theorem Pt {out l:List St} {k:Nat} {x:St} (h:k<l.length) (e:out++Id true (l.drop k) x=BI l x):(out++ [l.getD k []])++Id true (l.drop (k+1)) x=BI l x:=by
 rw [←e,Ln h]
 simp [Id]
theorem NG {out l:List St} {k:Nat} {x:St} {ins:Bool} (e:out++Id ins (l.drop k) x=BI l x):out.length≤l.length+1:=by
 have:=congrArg List.length e;rw [List.length_append,DE] at this;omega
theorem DD (l:List St) (x:St) (hl:l.length≤100000):Ak Tryz.prog 31 [.d (stsD l),.d (AU x)] (stsD (BI l x)):=by
 refine CP Tryz.func31 Z Z Tryz.ntmps31 Z Z Z fun F hF=>(AE (AH ?_));refine AD Z Z (AF (AE (AH (AD Z Z (AF (AE (AH (AD Z Z ?_))))))));refine AF (AE (AE (AH (AD Z Z (AF (BH (EC 5 1 Ba Z Z Z Z (Db (α:=Nat×List St×Bool) (fun q=>⟨42,[(0,.d (stsD l)),(1,.d (AU x)),(5,(.own 1 0 q.2.1.length)),(6,(.d (Ad q.2.2))),(7,(.d (natD q.1)))],[(1,[.rowD 9 1 (q.2.1.map AU)])]⟩) (fun q=>q.1≤l.length∧q.2.1++Id q.2.2 (l.drop q.1) x=BI l x) (fun q=>l.length - q.1) ((0,[],false)) (⟨Nat.zero_le _,by simp [Id]⟩) (At hF [1] Z Z ⟨rfl,rfl,rfl,rfl,rfl,trivial⟩) ?_))))))));rintro ⟨k,out,ins⟩ ⟨hk,he⟩;dsimp only at hk he⊢;refine AE (AE (AH (AC Z Z (AC Z Z (J (Bs rfl (List.length_map ..) Tryz.underlying25 rfl) ?_)))))
 first | refine J (D3 Z Z Z) ?_ | refine J (D4 Z Z Z) ?_
 refine AF ?_
 first | refine Az rfl (fun h11=>?_) (fun h11=>?_) | refine Aw rfl (fun h11=>?_) (fun h11=>?_)
 ·refine Ai (AE (BH (AE (AE ?_))));have hkl:k<l.length:=F1 h11;have hol:=NG he;refine AH (AC Z Z ?_)
  first | refine J (ET Z Z) ?_ | refine J (EQ Z Z) ?_
  refine AC Z Z ?_
  first | refine It 16 rfl (fun h16=>?_) (fun h16=>?_) | refine I5 16 rfl (fun h16=>?_) (fun h16=>?_)
  ·refine Aa Z Z Z (AC Z Z (Aa Z Z Z (AC Z Z (Aa Z Z Z (AC Z Z (Aa Z Z Z ?_))))))
   first | refine J (BE (k) Z Z (rfl) (Dg hkl) Tryz.underlying25 rfl DW rfl) ?_ | refine J (BF (k) Z Z (rfl) (Dg hkl) rfl Tryz.underlying25 DW rfl) ?_
   refine Aa Z Z Z ?_
   first | refine J (AZ Z Z AR rfl) ?_ | refine J (AX Z Z Z AR rfl) ?_ | refine J (AY Z Z (rfl) rfl AR rfl) ?_
   refine Aa Z Z Z ?_
   first | refine J (D3 Z Z Z) ?_ | refine J (D4 Z Z Z) ?_
   refine LU 22 (.d (Ad (decide (x<l.getD k [])))) rfl (R4 _ _) (J (GZ Z Z Z Z) (AF ?_))
   first | refine Az rfl (fun h23=>?_) (fun h23=>?_) | refine Aw rfl (fun h23=>?_) (fun h23=>?_)
   ·refine AE (AH (AC Z Z (AC Z Z (U (Fq 21 Ba Z Z Z Z Z Z Z Z) ?_))))
    first | refine U (IC (out) ([x]) Z Z Z Z Z Z Z Z Ba (by simp only [List.length_singleton];omega) Z Z Z Z) ?_ | refine U (Iu (out) ([x]) Z Z Z Z Z Z (fun _=>rfl) Ba (by simp only [List.length_singleton];omega) Z Z Z Z) ?_
    refine AD Z Z (AF (AH (AD Z Z (AF (AH (AC Z Z (AC Z Z (AC Z Z ?_))))))))
    first | refine J (BE (k) Z Z (rfl) (Dg hkl) Tryz.underlying25 rfl DW rfl) ?_ | refine J (BF (k) Z Z (rfl) (Dg hkl) rfl Tryz.underlying25 DW rfl) ?_
    first | refine J (AZ Z Z AR rfl) ?_ | refine J (AX Z Z Z AR rfl) ?_ | refine J (AY Z Z (rfl) rfl AR rfl) ?_
    refine U (Fq 22 Ba Z Z Z Z Z Z Z Z) ?_
    first | refine U (IC (out++ [x]) ([l.getD k []]) Z Z Z Z Z Z Z Z Ba (by simp only [List.length_append,List.length_singleton];omega) Z Z Z Z) ?_ | refine U (Iu (out++ [x]) ([l.getD k []]) Z Z Z Z Z Z (fun _=>rfl) Ba (by simp only [List.length_append,List.length_singleton];omega) Z Z Z Z) ?_
    refine AD Z Z (AF (AH (AC Z Z (J (CG Z Z (IntWalk.i64_in _ (by omega)) rfl) (AD Z Z (AF ?_))))));exact ⟨(k+1,_,true),⟨hkl,Rp hkl h23 (by have:ins=false:=(by simpa using h16);rw [this] at he;exact he)⟩,by show l.length - (k+1)<l.length - k;omega,At hF [1] rfl (rfl) ⟨rfl,rfl,rfl,rfl,rfl,trivial⟩⟩
   ·refine Ai (AH (AC Z Z (AC Z Z (AC Z Z ?_))))
    first | refine J (BE (k) Z Z (rfl) (Dg hkl) Tryz.underlying25 rfl DW rfl) ?_ | refine J (BF (k) Z Z (rfl) (Dg hkl) rfl Tryz.underlying25 DW rfl) ?_
    first | refine J (AZ Z Z AR rfl) ?_ | refine J (AX Z Z Z AR rfl) ?_ | refine J (AY Z Z (rfl) rfl AR rfl) ?_
    refine U (Fq 22 Ba Z Z Z Z Z Z Z Z) ?_
    first | refine U (IC (out) ([l.getD k []]) Z Z Z Z Z Z Z Z Ba (by simp only [List.length_singleton];omega) Z Z Z Z) ?_ | refine U (Iu (out) ([l.getD k []]) Z Z Z Z Z Z (fun _=>rfl) Ba (by simp only [List.length_singleton];omega) Z Z Z Z) ?_
    refine AD Z Z (AF (AH (AC Z Z (J (CG Z Z (IntWalk.i64_in _ (by omega)) rfl) (AD Z Z (AF ?_))))));exact ⟨(k+1,_,ins),⟨hkl,by have:ins=false:=(by simpa using h16);rw [this] at he⊢;exact Ps hkl h23 he⟩,by show l.length - (k+1)<l.length - k;omega,At hF [1] rfl (rfl) ⟨rfl,rfl,rfl,rfl,rfl,trivial⟩⟩
  ·refine BA Z Z Z Z (BA Z Z Z Z (BA Z Z Z Z (BA Z Z Z Z (BA Z Z Z Z ?_))));refine BA Z Z Z Z (J (Fo Z Z Z Z) (AF (DM Z Z (Ai (AH (AC Z Z (AC Z Z (AC Z Z ?_))))))))
   first | refine J (BE (k) Z Z (rfl) (Dg hkl) Tryz.underlying25 rfl DW rfl) ?_ | refine J (BF (k) Z Z (rfl) (Dg hkl) rfl Tryz.underlying25 DW rfl) ?_
   first | refine J (AZ Z Z AR rfl) ?_ | refine J (AX Z Z Z AR rfl) ?_ | refine J (AY Z Z (rfl) rfl AR rfl) ?_
   refine U (Fq 22 Ba Z Z Z Z Z Z Z Z) ?_
   first | refine U (IC (out) ([l.getD k []]) Z Z Z Z Z Z Z Z Ba (by simp only [List.length_singleton];omega) Z Z Z Z) ?_ | refine U (Iu (out) ([l.getD k []]) Z Z Z Z Z Z (fun _=>rfl) Ba (by simp only [List.length_singleton];omega) Z Z Z Z) ?_
   refine AD Z Z (AF (AH (AC Z Z (J (CG Z Z (IntWalk.i64_in _ (by omega)) rfl) (AD Z Z (AF ?_))))));exact ⟨(k+1,_,ins),⟨hkl,by have:ins=true:=(by simpa using h16);rw [this] at he⊢;exact Pt hkl he⟩,by show l.length - (k+1)<l.length - k;omega,At hF [1] rfl (rfl) ⟨rfl,rfl,rfl,rfl,rfl,trivial⟩⟩
 ·refine C5 (AE (AE ?_));have hke:k=l.length:=by have:=h11;omega
  have hol:=NG he;rw [hke,List.drop_length] at he;have hin1:ins=false ->out++ [x]=BI l x:=fun e=>by rw [e] at he;exact he
  have hin0:ins=true ->out=BI l x:=fun e=>by rw [e] at he;simpa [Id] using he
  refine AH (AC Z Z ?_)
  first | refine J (ET Z Z) ?_ | refine J (EQ Z Z) ?_
  refine AF ?_
  first | refine Az rfl (fun h36=>?_) (fun h36=>?_) | refine Aw rfl (fun h36=>?_) (fun h36=>?_)
  ·refine AH (AC Z Z (AC Z Z (U (Fq 23 Ba Z Z Z Z Z Z Z Z) ?_)))
   first | refine U (IC (out) ([x]) Z Z Z Z Z Z Z Z Ba (by simp only [List.length_singleton];omega) Z Z Z Z) ?_ | refine U (Iu (out) ([x]) Z Z Z Z Z Z (fun _=>rfl) Ba (by simp only [List.length_singleton];omega) Z Z Z Z) ?_
   refine AD Z Z (AF (AE ?_))
   first | refine OY (emb:=AU) 5 1 (out++ [x]) Z Z Z Z Z Z Z ?_ | refine OY (emb:=AU) 5 1 out Z Z Z Z Z Z Z ?_
   refine AH (AC Z Z (AD Z Z (AF (Aq ?_))));exact ⟨_,[],[],An rfl,rfl,rfl,by first | rw [hin1 (by simpa using h36)] | rw [hin0 (by simpa using h36)],rfl⟩
  ·refine Ai (AE ?_)
   first | refine OY (emb:=AU) 5 1 (out++ [x]) Z Z Z Z Z Z Z ?_ | refine OY (emb:=AU) 5 1 out Z Z Z Z Z Z Z ?_
   refine AH (AC Z Z (AD Z Z (AF (Aq ?_))));exact ⟨_,[],[],An rfl,rfl,rfl,by first | rw [hin1 (by simpa using h36)] | rw [hin0 (by simpa using h36)],rfl⟩
def QL (K:List Lw) (g g2:List St):Prop:=∃l∈K,l.t=1∧l.f∈g∧l.r∈g2
noncomputable instance (K:List Lw) (g g2:List St):Decidable (QL K g g2):=Classical.propDecidable _
abbrev FE (f:Nat) (w:Ws):Nat×List AJ:=(f,[.blk 28 [.d (stsD w.R),.d (LY w.K)]])
theorem Kt (w:Ws) (g g2:List St) (hl:w.K.length≤2000000) (hg:g.length≤2000000) (hg2:g2.length≤2000000):Ak Tryz.prog 68 [.d (Jw w),.d (stsD g),.d (stsD g2)] (Ad (decide (QL w.K g g2))):=by
 refine CP Tryz.func68 Z Z Tryz.ntmps68 Z Z Z fun F hF=>(AE (AH (U (Gl 20 Z Z Z Z Z Z Z) ?_)));refine AD Z Z (AF (AE (AE (AH (AD Z Z (AF (BH (Db (α:=Nat) (fun k=>⟨36,[(1,.d (stsD g)),(2,.d (stsD g2)),(3,(.ptr 20 0 0)),(7,(.d (natD k)))],[FE 20 w]⟩) (fun k=>k≤w.K.length∧¬QL (w.K.take k) g g2) (fun k=>w.K.length - k) (0) (⟨Nat.zero_le _,fun ⟨l,hl,_⟩=>by simp at hl⟩) (At hF [20] Z Z ⟨rfl,rfl,rfl,rfl,trivial⟩) ?_))))))));rintro k ⟨hk,hx⟩;refine AE (AE (AH (AC Z Z ?_)))
 first | refine J (A2 rfl A0 Z Z Z) ?_ | refine J (A4 rfl A0 Z Z Z) ?_ | refine J (A5 rfl A0 Z Z Z) ?_ | refine J (A3 rfl A0 Z Z Z) ?_ | refine J (A1 rfl A0 Z Z Z) ?_
 first | refine J (AZ Z Z A6 rfl) ?_ | refine J (AX Z Z Z A6 rfl) ?_ | refine J (AY Z Z (rfl) rfl A6 rfl) ?_
 refine J (Bs rfl (List.length_map ..) Tryz.underlying26 rfl) ?_
 first | refine J (D3 Z Z Z) ?_ | refine J (D4 Z Z Z) ?_
 refine AF ?_
 first | refine Az rfl (fun h13=>?_) (fun h13=>?_) | refine Aw rfl (fun h13=>?_) (fun h13=>?_)
 ·refine Ai (AE (BH (AE ?_)));have hkl:k<w.K.length:=F1 h13;refine AH ?_
  first | refine J (A2 rfl A0 Z Z Z) ?_ | refine J (A4 rfl A0 Z Z Z) ?_ | refine J (A5 rfl A0 Z Z Z) ?_ | refine J (A3 rfl A0 Z Z Z) ?_ | refine J (A1 rfl A0 Z Z Z) ?_
  first | refine J (AZ Z Z A6 rfl) ?_ | refine J (AX Z Z Z A6 rfl) ?_ | refine J (AY Z Z (rfl) rfl A6 rfl) ?_
  refine AC Z Z ?_
  first | refine J (BE (k) Z Z (rfl) (BJ hkl) Tryz.underlying26 rfl BB rfl) ?_ | refine J (BF (k) Z Z (rfl) (BJ hkl) rfl Tryz.underlying26 BB rfl) ?_
  first | refine J (BN Z Z Au rfl) ?_ | refine J (BO Z Z Au Z Z Z) ?_ | refine J (BP Z Z (rfl) rfl Au rfl) ?_
  refine U (HZ 25 Oz Z Z Z Z) (U (Bu Z Z Z Z Z Z Z BB) (AF (AE (AH ?_))))
  first | refine J (A2 rfl Eh Z Z Z) ?_ | refine J (A4 rfl Eh Z Z Z) ?_ | refine J (A5 rfl Eh Z Z Z) ?_ | refine J (A3 rfl Eh Z Z Z) ?_ | refine J (A1 rfl Eh Z Z Z) ?_
  first | refine J (AZ Z Z BV rfl) ?_ | refine J (AX Z Z Z BV rfl) ?_ | refine J (AY Z Z (rfl) rfl BV rfl) ?_
  first | refine J (FW Z Z Z) ?_ | refine J (FV Z Z Z) ?_ | refine J (FL Z Z Z) ?_ | refine J (FO Tryz.underlying3 Z Z Z) ?_ | refine J (FR Tryz.underlying3 Z Z Z) ?_ | refine J (FQ Tryz.underlying3 Z Z) ?_ | refine J (FU Tryz.underlying3 Z Z) ?_ | refine J (FT Tryz.underlying3 Z Z) ?_ | refine J (FP Tryz.underlying3 Z Z Z) ?_ | refine J (fSq Tryz.underlying3 Z Z) ?_
  refine AC Z Z ?_
  first | refine It 24 rfl (fun h24=>?_) (fun h24=>?_) | refine I5 24 rfl (fun h24=>?_) (fun h24=>?_)
  ·refine Aa Z Z Z (AC Z Z (Aa Z Z Z ?_))
   first | refine J (A2 rfl Be Z Z Z) ?_ | refine J (A4 rfl Be Z Z Z) ?_ | refine J (A5 rfl Be Z Z Z) ?_ | refine J (A3 rfl Be Z Z Z) ?_ | refine J (A1 rfl Be Z Z Z) ?_
   refine Aa Z Z Z ?_
   first | refine J (AZ Z Z AR rfl) ?_ | refine J (AX Z Z Z AR rfl) ?_ | refine J (AY Z Z (rfl) rfl AR rfl) ?_
   refine Aa Z Z Z (J (Bz (Jx g (w.K[k]).f hg) Z Z) (J (GZ Z Z Z Z) (AC Z Z ?_)))
   first | refine It 30 rfl (fun h30=>?_) (fun h30=>?_) | refine I5 30 rfl (fun h30=>?_) (fun h30=>?_)
   ·refine Aa Z Z Z (AC Z Z (Aa Z Z Z ?_))
    first | refine J (A2 rfl Bf Z Z Z) ?_ | refine J (A4 rfl Bf Z Z Z) ?_ | refine J (A5 rfl Bf Z Z Z) ?_ | refine J (A3 rfl Bf Z Z Z) ?_ | refine J (A1 rfl Bf Z Z Z) ?_
    refine Aa Z Z Z ?_
    first | refine J (AZ Z Z AR rfl) ?_ | refine J (AX Z Z Z AR rfl) ?_ | refine J (AY Z Z (rfl) rfl AR rfl) ?_
    refine Aa Z Z Z (J (Bz (Jx g2 (w.K[k]).r hg2) Z Z) (J (GZ Z Z Z Z) (AF ?_)))
    first | refine Az rfl (fun h35=>?_) (fun h35=>?_) | refine Aw rfl (fun h35=>?_) (fun h35=>?_)
    ·refine AE (AH (AD Z Z (AF (Aq ?_))));exact ⟨_,[],[],An rfl,rfl,rfl,by rw [decide_eq_true (show QL w.K g g2 from ⟨_,List.getElem_mem hkl,h24,h30,h35⟩)],rfl⟩
    ·refine Ai (AH (AC Z Z (J (CG Z Z (IntWalk.i64_in _ (by omega)) rfl) (AD Z Z (AF ?_)))));exact ⟨k+1,⟨hkl,fun ⟨l,hl,h1,h2,h3⟩=>by rw [List.take_succ_eq_append_getElem hkl] at hl;exact (List.mem_append.1 hl).elim (fun hh=>hx ⟨l,hh,h1,h2,h3⟩) fun e=>by (rw [List.mem_singleton.1 e] at h1 h2 h3;first | exact h35 h3 | exact h30 h2 | exact h24 h1)⟩,by omega,At hF [20] rfl (rfl) ⟨rfl,rfl,rfl,rfl,trivial⟩⟩
   ·refine BA Z Z Z Z (BA Z Z Z Z (BA Z Z Z Z (BA Z Z Z Z ?_)));refine J (Fo Z Z Z Z) (AF (DM Z Z (Ai (AH (AC Z Z (J (CG Z Z (IntWalk.i64_in _ (by omega)) rfl) (AD Z Z (AF ?_))))))));exact ⟨k+1,⟨hkl,fun ⟨l,hl,h1,h2,h3⟩=>by rw [List.take_succ_eq_append_getElem hkl] at hl;exact (List.mem_append.1 hl).elim (fun hh=>hx ⟨l,hh,h1,h2,h3⟩) fun e=>by (rw [List.mem_singleton.1 e] at h1 h2 h3;first | exact h35 h3 | exact h30 h2 | exact h24 h1)⟩,by omega,At hF [20] rfl (rfl) ⟨rfl,rfl,rfl,rfl,trivial⟩⟩
  ·refine BA Z Z Z Z ?_;refine BA Z Z Z Z (BA Z Z Z Z (BA Z Z Z Z (J (Fo Z Z Z Z) (AC Z Z (BA Z Z Z Z (BA Z Z Z Z (BA Z Z Z Z (BA Z Z Z Z ?_))))))));refine J (Fo Z Z Z Z) (AF (DM Z Z (Ai (AH (AC Z Z (J (CG Z Z (IntWalk.i64_in _ (by omega)) rfl) (AD Z Z (AF ?_))))))));exact ⟨k+1,⟨hkl,fun ⟨l,hl,h1,h2,h3⟩=>by rw [List.take_succ_eq_append_getElem hkl] at hl;exact (List.mem_append.1 hl).elim (fun hh=>hx ⟨l,hh,h1,h2,h3⟩) fun e=>by (rw [List.mem_singleton.1 e] at h1 h2 h3;first | exact h35 h3 | exact h30 h2 | exact h24 h1)⟩,by omega,At hF [20] rfl (rfl) ⟨rfl,rfl,rfl,rfl,trivial⟩⟩
 ·refine C5 (AE (AH (AD Z Z (AF (Aq ?_)))));exact ⟨_,[],[],An rfl,rfl,rfl,by rw [decide_eq_false (show ¬QL w.K g g2 by rw [←List.take_of_length_le (i:=k) (l:=w.K) (by have:=h13;omega)];exact hx)],rfl⟩
structure KP (w:Ws) (a:St) (out:List St):Prop where
 srt:Fu out
 ha:a∈out
 con:∀y∈out,y∈w.R∧Gm w a y
def cloL (out:List St) (l:Lw):Prop:=l.t=0 ->(l.f∈out↔l.r∈out)
structure Ig (w:Ws) (a:St) (out0:List St) (k:Nat) (out:List St) (grew:Bool):Prop where
 g:KP w a out
 no:grew=false ->out=out0∧∀l∈w.K.take k,cloL out l
 yes:grew=true ->out0.length<out.length
theorem KP.zero {w:Ws} {a:St} (h:a∈w.R):KP w a [a]:=⟨by simp,by simp,fun y hy=>by rw [List.mem_singleton.1 hy];exact ⟨h,.refl⟩⟩
theorem KP.len {w:Ws} {a:St} {out:List St} (h:KP w a out):out.length≤w.R.length:=(DX h.srt).length_le_of_subset fun y hy=>(h.con y hy).1
theorem Ig.zero {w:Ws} {a:St} {out:List St} (h:KP w a out):Ig w a out 0 out false:=⟨h,fun _=>⟨rfl,fun l hl=>by simp at hl⟩,fun e=>by cases e⟩
theorem Ig.le {w:Ws} {a:St} {out0 out:List St} {k:Nat} {grew:Bool} (h:Ig w a out0 k out grew):out0.length≤out.length:=by
 cases hg:grew with
 | false=>rw [(h.no hg).1];exact Nat.le_refl _
 | true=>exact Nat.le_of_lt (h.yes hg)
theorem Ig.ins {w:Ws} {a:St} {out0 out:List St} {k k2:Nat} {grew:Bool} (h:Ig w a out0 k out grew) {y z:St} (hy:y∉out) (hz:z∈out) (hc:KN w z y) (hR:y∈w.R):Ig w a out0 k2 (BI out y) true:=by
 refine ⟨⟨JG h.g.srt hy,LD.2 (.inr h.g.ha),fun x hx=>?_⟩,(fun e=>by cases e),fun _=>by rw [DE];exact Nat.lt_succ_of_le h.le⟩;rcases LD.1 hx with rfl | hx
 ·exact ⟨hR,(h.g.con z hz).2.tail hc⟩
 ·exact h.g.con x hx
theorem Ig.pass {w:Ws} {a:St} {out0 out:List St} {k:Nat} {grew:Bool} (h:Ig w a out0 k out grew) (hk:k<w.K.length) (hc:cloL out w.K[k]):Ig w a out0 (k+1) out grew:=by
 refine ⟨h.g,fun e=>⟨(h.no e).1,fun l hl=>?_⟩,h.yes⟩;rw [List.take_succ_eq_append_getElem hk] at hl;rcases List.mem_append.1 hl with hl | hl
 ·exact (h.no e).2 l hl
 ·rw [List.mem_singleton.1 hl];exact hc
theorem KP.fin {w:Ws} (hw:B1 w) {a:St} {out:List St} (h:KP w a out) (hc:∀l∈w.K,cloL out l):out=cls w a:=by
 refine Ii h.srt (FC hw a) fun x=>?_;rw [Jq];refine ⟨h.con x,fun ⟨_,hx⟩=>?_⟩;refine BM.closed (p:=fun y=>y∈out) (fun p q hp hq=>?_) h.ha hx;rcases hq with hq | hq
 ·exact (hc _ hq rfl).1 hp
 ·exact (hc _ hq rfl).2 hp
set_option maxHeartbeats 1000000 in
theorem Cm (w:Ws) (hw:B1 w) (a:St) (hl:w.K.length≤2000000):Ak Tryz.prog 13 [.d (Jw w),.d (AU a)] (if a∈w.R then stsD (cls w a) else .sl (some true) []):=by
 have hfew:=hw.few;refine CP Tryz.func13 Z Z Tryz.ntmps13 Z Z Z fun F hF=>(AE (AH (U (Gl 20 Z Z Z Z Z Z Z) (AD Z Z (AF (AE (AE (AH ?_))))))))
 first | refine J (A2 rfl Ag Z Z Z) ?_ | refine J (A4 rfl Ag Z Z Z) ?_ | refine J (A5 rfl Ag Z Z Z) ?_ | refine J (A3 rfl Ag Z Z Z) ?_ | refine J (A1 rfl Ag Z Z Z) ?_
 first | refine J (AZ Z Z AW rfl) ?_ | refine J (AX Z Z Z AW rfl) ?_ | refine J (AY Z Z (rfl) rfl AW rfl) ?_
 refine AC Z Z (J (Bz (Jx w.R a (by omega)) Z Z) ?_)
 first | refine J (ET Z Z) ?_ | refine J (EQ Z Z) ?_
 refine AF ?_
 first | refine Az rfl (fun h13=>?_) (fun h13=>?_) | refine Aw rfl (fun h13=>?_) (fun h13=>?_)
 ·refine AE (AH (AD Z Z (AF (Aq ?_))));exact ⟨_,[],[],An rfl,rfl,rfl,by rw [if_neg h13],rfl⟩
 ·refine Ai (AE ?_);have haR:a∈w.R:=Classical.not_not.1 h13;refine AH (AC Z Z (U (Fq 25 Ba Z Z Z Z Z Z Z Z) (GD (emb:=AU) 15 25 [a] Z Z Z Z Z Z Z ?_)));refine AD Z Z (AF (AE (AE (AH (AD Z Z (AF (BH (Db (α:=List St×Bool) (fun q=>⟨63,[(2,(.ptr 20 0 0)),(5,(.d (stsD q.1))),(6,(.d (Ad q.2)))],[FE 20 w]⟩) (fun q=>KP w a q.1∧(q.2=false ->∀l∈w.K,cloL q.1 l)) (fun q=>2*(w.R.length - q.1.length)+(if q.2 then 1 else 0)) (([a],true)) (⟨KP.zero haR,fun e=>by cases e⟩) (At hF [20] Z Z ⟨rfl,rfl,rfl,trivial⟩) ?_))))))));rintro ⟨out0,gr⟩ ⟨hG0,hC0⟩;dsimp only at hG0 hC0⊢;refine AE (AE (AH (AC Z Z (AF ?_))))
  first | refine Az rfl (fun h16=>?_) (fun h16=>?_) | refine Aw rfl (fun h16=>?_) (fun h16=>?_)
  ·refine Ai (BH (AE ?_));refine AH (AD Z Z (AF (AE (AH (AD Z Z (AF (BH (Db (α:=Nat×List St×Bool) (fun q=>⟨63,[(2,(.ptr 20 0 0)),(5,(.d (stsD q.2.1))),(6,(.d (Ad q.2.2))),(7,(.d (natD q.1)))],[FE 20 w]⟩) (fun q=>q.1≤w.K.length∧Ig w a out0 q.1 q.2.1 q.2.2) (fun q=>w.K.length - q.1) ((0,out0,false)) (⟨Nat.zero_le _,Ig.zero hG0⟩) (At hF [20] Z Z ⟨rfl,rfl,rfl,rfl,trivial⟩) ?_))))))));rintro ⟨k,out,grew⟩ ⟨hk,hI⟩;dsimp only at hk hI⊢;refine AE (AE (AH (AC Z Z ?_)))
   first | refine J (A2 rfl A0 Z Z Z) ?_ | refine J (A4 rfl A0 Z Z Z) ?_ | refine J (A5 rfl A0 Z Z Z) ?_ | refine J (A3 rfl A0 Z Z Z) ?_ | refine J (A1 rfl A0 Z Z Z) ?_
   first | refine J (AZ Z Z A6 rfl) ?_ | refine J (AX Z Z Z A6 rfl) ?_ | refine J (AY Z Z (rfl) rfl A6 rfl) ?_
   refine J (Bs rfl (List.length_map ..) Tryz.underlying26 rfl) ?_
   first | refine J (D3 Z Z Z) ?_ | refine J (D4 Z Z Z) ?_
   refine AF ?_
   first | refine Az rfl (fun h21=>?_) (fun h21=>?_) | refine Aw rfl (fun h21=>?_) (fun h21=>?_)
   ·refine Ai (AE (BH (AE ?_)));have hkl:k<w.K.length:=F1 h21;have hol:=hI.g.len;refine AH ?_
    first | refine J (A2 rfl A0 Z Z Z) ?_ | refine J (A4 rfl A0 Z Z Z) ?_ | refine J (A5 rfl A0 Z Z Z) ?_ | refine J (A3 rfl A0 Z Z Z) ?_ | refine J (A1 rfl A0 Z Z Z) ?_
    first | refine J (AZ Z Z A6 rfl) ?_ | refine J (AX Z Z Z A6 rfl) ?_ | refine J (AY Z Z (rfl) rfl A6 rfl) ?_
    refine AC Z Z ?_
    first | refine J (BE (k) Z Z (rfl) (BJ hkl) Tryz.underlying26 rfl BB rfl) ?_ | refine J (BF (k) Z Z (rfl) (BJ hkl) rfl Tryz.underlying26 BB rfl) ?_
    first | refine J (BN Z Z Au rfl) ?_ | refine J (BO Z Z Au Z Z Z) ?_ | refine J (BP Z Z (rfl) rfl Au rfl) ?_
    refine U (HZ 26 Oz Z Z Z Z) (U (Bu Z Z Z Z Z Z Z BB) (AF (AE (AE (AH ?_)))))
    first | refine J (A2 rfl Eh Z Z Z) ?_ | refine J (A4 rfl Eh Z Z Z) ?_ | refine J (A5 rfl Eh Z Z Z) ?_ | refine J (A3 rfl Eh Z Z Z) ?_ | refine J (A1 rfl Eh Z Z Z) ?_
    first | refine J (AZ Z Z BV rfl) ?_ | refine J (AX Z Z Z BV rfl) ?_ | refine J (AY Z Z (rfl) rfl BV rfl) ?_
    first | refine J (I8 Z Z Z) ?_ | refine J (I7 Z Z Z) ?_ | refine J (IF Z Z Z) ?_ | refine J (I2 Tryz.underlying3 Z Z Z) ?_ | refine J (I4 Tryz.underlying3 Z Z Z) ?_ | refine J (st_neqN Tryz.underlying3 Z Z) ?_ | refine J (st_neqPr Tryz.underlying3 Z Z) ?_ | refine J (st_neqMz Tryz.underlying3 Z Z) ?_ | refine J (I3 Tryz.underlying3 Z Z Z) ?_ | refine J (st_neqFN Tryz.underlying3 Z Z) ?_
    refine AF ?_
    first | refine Az rfl (fun h31=>?_) (fun h31=>?_) | refine Aw rfl (fun h31=>?_) (fun h31=>?_)
    ·refine C5 (AH (AC Z Z (J (CG Z Z (IntWalk.i64_in _ (by omega)) rfl) (AD Z Z (AF ?_)))));exact ⟨(k+1,_,_),⟨hkl,by first | exact hI.pass hkl (fun e=>absurd e h31) | exact hI.pass hkl (fun _=>⟨fun hf=>Classical.byContradiction fun hr=>by first | exact h42 hr | exact h36 hf,fun hr=>Classical.byContradiction fun hf=>by first | exact h57 hf | exact h51 hr⟩) | exact hI.ins h42 h36 (Or.inl hWt) hkR.2 | exact hI.ins h57 h51 (Or.inr hWt) hkR.1 | exact absurd (LD.2 (.inr h36)) h57⟩,by show w.K.length - (k+1)<w.K.length - k;omega,At hF [20] rfl (rfl) ⟨rfl,rfl,rfl,rfl,trivial⟩⟩
    ·refine Ai (AE (AE ?_));have ht0:(w.K[k]).t=0:=Classical.not_not.1 h31;have hkR:=hw.lk _ (List.getElem_mem hkl)
     have hkR:(w.K[k]).f∈w.R∧(w.K[k]).r∈w.R:=⟨hkR.1,hkR.2.1⟩
     have hWt:(⟨(w.K[k]).f,0,(w.K[k]).r⟩:Lw)∈w.K:=by rw [←ht0];exact List.getElem_mem hkl
     refine AH (AC Z Z ?_)
     first | refine J (A2 rfl Be Z Z Z) ?_ | refine J (A4 rfl Be Z Z Z) ?_ | refine J (A5 rfl Be Z Z Z) ?_ | refine J (A3 rfl Be Z Z Z) ?_ | refine J (A1 rfl Be Z Z Z) ?_
     first | refine J (AZ Z Z AR rfl) ?_ | refine J (AX Z Z Z AR rfl) ?_ | refine J (AY Z Z (rfl) rfl AR rfl) ?_
     refine J (Bz (Jx out (w.K[k]).f (by omega)) Z Z) (AC Z Z ?_)
     first | refine It 36 rfl (fun h36=>?_) (fun h36=>?_) | refine I5 36 rfl (fun h36=>?_) (fun h36=>?_)
     ·refine Aa Z Z Z (AC Z Z (Aa Z Z Z ?_))
      first | refine J (A2 rfl Bf Z Z Z) ?_ | refine J (A4 rfl Bf Z Z Z) ?_ | refine J (A5 rfl Bf Z Z Z) ?_ | refine J (A3 rfl Bf Z Z Z) ?_ | refine J (A1 rfl Bf Z Z Z) ?_
      refine Aa Z Z Z ?_
      first | refine J (AZ Z Z AR rfl) ?_ | refine J (AX Z Z Z AR rfl) ?_ | refine J (AY Z Z (rfl) rfl AR rfl) ?_
      refine Aa Z Z Z (J (Bz (Jx out (w.K[k]).r (by omega)) Z Z) (Aa Z Z Z ?_))
      first | refine J (ET Z Z) ?_ | refine J (EQ Z Z) ?_
      refine J (GZ Z Z Z Z) (AF ?_)
      first | refine Az rfl (fun h42=>?_) (fun h42=>?_) | refine Aw rfl (fun h42=>?_) (fun h42=>?_)
      ·refine AE (AH (AC Z Z ?_))
       first | refine J (A2 rfl Bf Z Z Z) ?_ | refine J (A4 rfl Bf Z Z Z) ?_ | refine J (A5 rfl Bf Z Z Z) ?_ | refine J (A3 rfl Bf Z Z Z) ?_ | refine J (A1 rfl Bf Z Z Z) ?_
       first | refine J (AZ Z Z AR rfl) ?_ | refine J (AX Z Z Z AR rfl) ?_ | refine J (AY Z Z (rfl) rfl AR rfl) ?_
       refine J (Bz (DD out (w.K[k]).r (by omega)) Z Z) (AD Z Z (AF (AH (AD Z Z (AF (AE (AH (AC Z Z ?_))))))))
       first | refine J (A2 rfl Bf Z Z Z) ?_ | refine J (A4 rfl Bf Z Z Z) ?_ | refine J (A5 rfl Bf Z Z Z) ?_ | refine J (A3 rfl Bf Z Z Z) ?_ | refine J (A1 rfl Bf Z Z Z) ?_
       first | refine J (AZ Z Z AR rfl) ?_ | refine J (AX Z Z Z AR rfl) ?_ | refine J (AY Z Z (rfl) rfl AR rfl) ?_
       refine J (Bz (Jx (BI out (w.K[k]).r) (w.K[k]).r (by rw [DE];omega)) Z Z) (AC Z Z ?_)
       first | refine It 51 rfl (fun h51=>?_) (fun h51=>?_) | refine I5 51 rfl (fun h51=>?_) (fun h51=>?_)
       ·refine Aa Z Z Z (AC Z Z (Aa Z Z Z ?_))
        first | refine J (A2 rfl Be Z Z Z) ?_ | refine J (A4 rfl Be Z Z Z) ?_ | refine J (A5 rfl Be Z Z Z) ?_ | refine J (A3 rfl Be Z Z Z) ?_ | refine J (A1 rfl Be Z Z Z) ?_
        refine Aa Z Z Z ?_
        first | refine J (AZ Z Z AR rfl) ?_ | refine J (AX Z Z Z AR rfl) ?_ | refine J (AY Z Z (rfl) rfl AR rfl) ?_
        refine Aa Z Z Z (J (Bz (Jx (BI out (w.K[k]).r) (w.K[k]).f (by rw [DE];omega)) Z Z) (Aa Z Z Z ?_))
        first | refine J (ET Z Z) ?_ | refine J (EQ Z Z) ?_
        refine J (GZ Z Z Z Z) (AF ?_)
        first | refine Az rfl (fun h57=>?_) (fun h57=>?_) | refine Aw rfl (fun h57=>?_) (fun h57=>?_)
        ·refine AE (AH (AC Z Z ?_))
         first | refine J (A2 rfl Be Z Z Z) ?_ | refine J (A4 rfl Be Z Z Z) ?_ | refine J (A5 rfl Be Z Z Z) ?_ | refine J (A3 rfl Be Z Z Z) ?_ | refine J (A1 rfl Be Z Z Z) ?_
         first | refine J (AZ Z Z AR rfl) ?_ | refine J (AX Z Z Z AR rfl) ?_ | refine J (AY Z Z (rfl) rfl AR rfl) ?_
         refine J (Bz (DD (BI out (w.K[k]).r) (w.K[k]).f (by rw [DE];omega)) Z Z) (AD Z Z ?_);refine AF (AH (AD Z Z (AF (AH (AC Z Z (J (CG Z Z (IntWalk.i64_in _ (by omega)) rfl) (AD Z Z (AF ?_))))))));exact ⟨(k+1,_,_),⟨hkl,by first | exact hI.pass hkl (fun e=>absurd e h31) | exact hI.pass hkl (fun _=>⟨fun hf=>Classical.byContradiction fun hr=>by first | exact h42 hr | exact h36 hf,fun hr=>Classical.byContradiction fun hf=>by first | exact h57 hf | exact h51 hr⟩) | exact hI.ins h42 h36 (Or.inl hWt) hkR.2 | exact hI.ins h57 h51 (Or.inr hWt) hkR.1 | exact absurd (LD.2 (.inr h36)) h57⟩,by show w.K.length - (k+1)<w.K.length - k;omega,At hF [20] rfl (rfl) ⟨rfl,rfl,rfl,rfl,trivial⟩⟩
        ·refine Ai (AH (AC Z Z (J (CG Z Z (IntWalk.i64_in _ (by omega)) rfl) (AD Z Z (AF ?_)))));exact ⟨(k+1,_,_),⟨hkl,by first | exact hI.pass hkl (fun e=>absurd e h31) | exact hI.pass hkl (fun _=>⟨fun hf=>Classical.byContradiction fun hr=>by first | exact h42 hr | exact h36 hf,fun hr=>Classical.byContradiction fun hf=>by first | exact h57 hf | exact h51 hr⟩) | exact hI.ins h42 h36 (Or.inl hWt) hkR.2 | exact hI.ins h57 h51 (Or.inr hWt) hkR.1 | exact absurd (LD.2 (.inr h36)) h57⟩,by show w.K.length - (k+1)<w.K.length - k;omega,At hF [20] rfl (rfl) ⟨rfl,rfl,rfl,rfl,trivial⟩⟩
       ·refine BA Z Z Z Z (BA Z Z Z Z (BA Z Z Z Z (BA Z Z Z Z (BA Z Z Z Z ?_))));refine J (Fo Z Z Z Z) (AF (DM Z Z (Ai (AH (AC Z Z (J (CG Z Z (IntWalk.i64_in _ (by omega)) rfl) (AD Z Z (AF ?_))))))));exact ⟨(k+1,_,_),⟨hkl,by first | exact hI.pass hkl (fun e=>absurd e h31) | exact hI.pass hkl (fun _=>⟨fun hf=>Classical.byContradiction fun hr=>by first | exact h42 hr | exact h36 hf,fun hr=>Classical.byContradiction fun hf=>by first | exact h57 hf | exact h51 hr⟩) | exact hI.ins h42 h36 (Or.inl hWt) hkR.2 | exact hI.ins h57 h51 (Or.inr hWt) hkR.1 | exact absurd (LD.2 (.inr h36)) h57⟩,by show w.K.length - (k+1)<w.K.length - k;omega,At hF [20] rfl (rfl) ⟨rfl,rfl,rfl,rfl,trivial⟩⟩
      ·refine Ai (AE (AH (AC Z Z ?_)))
       first | refine J (A2 rfl Bf Z Z Z) ?_ | refine J (A4 rfl Bf Z Z Z) ?_ | refine J (A5 rfl Bf Z Z Z) ?_ | refine J (A3 rfl Bf Z Z Z) ?_ | refine J (A1 rfl Bf Z Z Z) ?_
       first | refine J (AZ Z Z AR rfl) ?_ | refine J (AX Z Z Z AR rfl) ?_ | refine J (AY Z Z (rfl) rfl AR rfl) ?_
       refine J (Bz (Jx out (w.K[k]).r (by omega)) Z Z) (AC Z Z ?_)
       first | refine It 51 rfl (fun h51=>?_) (fun h51=>?_) | refine I5 51 rfl (fun h51=>?_) (fun h51=>?_)
       ·refine Aa Z Z Z (AC Z Z (Aa Z Z Z ?_))
        first | refine J (A2 rfl Be Z Z Z) ?_ | refine J (A4 rfl Be Z Z Z) ?_ | refine J (A5 rfl Be Z Z Z) ?_ | refine J (A3 rfl Be Z Z Z) ?_ | refine J (A1 rfl Be Z Z Z) ?_
        refine Aa Z Z Z ?_
        first | refine J (AZ Z Z AR rfl) ?_ | refine J (AX Z Z Z AR rfl) ?_ | refine J (AY Z Z (rfl) rfl AR rfl) ?_
        refine Aa Z Z Z (J (Bz (Jx out (w.K[k]).f (by omega)) Z Z) (Aa Z Z Z ?_))
        first | refine J (ET Z Z) ?_ | refine J (EQ Z Z) ?_
        refine J (GZ Z Z Z Z) (AF ?_)
        first | refine Az rfl (fun h57=>?_) (fun h57=>?_) | refine Aw rfl (fun h57=>?_) (fun h57=>?_)
        ·refine AE (AH (AC Z Z ?_))
         first | refine J (A2 rfl Be Z Z Z) ?_ | refine J (A4 rfl Be Z Z Z) ?_ | refine J (A5 rfl Be Z Z Z) ?_ | refine J (A3 rfl Be Z Z Z) ?_ | refine J (A1 rfl Be Z Z Z) ?_
         first | refine J (AZ Z Z AR rfl) ?_ | refine J (AX Z Z Z AR rfl) ?_ | refine J (AY Z Z (rfl) rfl AR rfl) ?_
         refine J (Bz (DD out (w.K[k]).f (by omega)) Z Z) (AD Z Z ?_);refine AF (AH (AD Z Z (AF (AH (AC Z Z (J (CG Z Z (IntWalk.i64_in _ (by omega)) rfl) (AD Z Z (AF ?_))))))));exact ⟨(k+1,_,_),⟨hkl,by first | exact hI.pass hkl (fun e=>absurd e h31) | exact hI.pass hkl (fun _=>⟨fun hf=>Classical.byContradiction fun hr=>by first | exact h42 hr | exact h36 hf,fun hr=>Classical.byContradiction fun hf=>by first | exact h57 hf | exact h51 hr⟩) | exact hI.ins h42 h36 (Or.inl hWt) hkR.2 | exact hI.ins h57 h51 (Or.inr hWt) hkR.1 | exact absurd (LD.2 (.inr h36)) h57⟩,by show w.K.length - (k+1)<w.K.length - k;omega,At hF [20] rfl (rfl) ⟨rfl,rfl,rfl,rfl,trivial⟩⟩
        ·refine Ai (AH (AC Z Z (J (CG Z Z (IntWalk.i64_in _ (by omega)) rfl) (AD Z Z (AF ?_)))));exact ⟨(k+1,_,_),⟨hkl,by first | exact hI.pass hkl (fun e=>absurd e h31) | exact hI.pass hkl (fun _=>⟨fun hf=>Classical.byContradiction fun hr=>by first | exact h42 hr | exact h36 hf,fun hr=>Classical.byContradiction fun hf=>by first | exact h57 hf | exact h51 hr⟩) | exact hI.ins h42 h36 (Or.inl hWt) hkR.2 | exact hI.ins h57 h51 (Or.inr hWt) hkR.1 | exact absurd (LD.2 (.inr h36)) h57⟩,by show w.K.length - (k+1)<w.K.length - k;omega,At hF [20] rfl (rfl) ⟨rfl,rfl,rfl,rfl,trivial⟩⟩
       ·refine BA Z Z Z Z (BA Z Z Z Z (BA Z Z Z Z (BA Z Z Z Z (BA Z Z Z Z ?_))));refine J (Fo Z Z Z Z) (AF (DM Z Z (Ai (AH (AC Z Z (J (CG Z Z (IntWalk.i64_in _ (by omega)) rfl) (AD Z Z (AF ?_))))))));exact ⟨(k+1,_,_),⟨hkl,by first | exact hI.pass hkl (fun e=>absurd e h31) | exact hI.pass hkl (fun _=>⟨fun hf=>Classical.byContradiction fun hr=>by first | exact h42 hr | exact h36 hf,fun hr=>Classical.byContradiction fun hf=>by first | exact h57 hf | exact h51 hr⟩) | exact hI.ins h42 h36 (Or.inl hWt) hkR.2 | exact hI.ins h57 h51 (Or.inr hWt) hkR.1 | exact absurd (LD.2 (.inr h36)) h57⟩,by show w.K.length - (k+1)<w.K.length - k;omega,At hF [20] rfl (rfl) ⟨rfl,rfl,rfl,rfl,trivial⟩⟩
     ·refine BA Z Z Z Z (BA Z Z Z Z (BA Z Z Z Z ?_));refine BA Z Z Z Z (BA Z Z Z Z (J (Fo Z Z Z Z) (AF (DM Z Z (Ai (AE (AH (AC Z Z ?_))))))))
      first | refine J (A2 rfl Bf Z Z Z) ?_ | refine J (A4 rfl Bf Z Z Z) ?_ | refine J (A5 rfl Bf Z Z Z) ?_ | refine J (A3 rfl Bf Z Z Z) ?_ | refine J (A1 rfl Bf Z Z Z) ?_
      first | refine J (AZ Z Z AR rfl) ?_ | refine J (AX Z Z Z AR rfl) ?_ | refine J (AY Z Z (rfl) rfl AR rfl) ?_
      refine J (Bz (Jx out (w.K[k]).r (by omega)) Z Z) (AC Z Z ?_)
      first | refine It 51 rfl (fun h51=>?_) (fun h51=>?_) | refine I5 51 rfl (fun h51=>?_) (fun h51=>?_)
      ·refine Aa Z Z Z (AC Z Z (Aa Z Z Z ?_))
       first | refine J (A2 rfl Be Z Z Z) ?_ | refine J (A4 rfl Be Z Z Z) ?_ | refine J (A5 rfl Be Z Z Z) ?_ | refine J (A3 rfl Be Z Z Z) ?_ | refine J (A1 rfl Be Z Z Z) ?_
       refine Aa Z Z Z ?_
       first | refine J (AZ Z Z AR rfl) ?_ | refine J (AX Z Z Z AR rfl) ?_ | refine J (AY Z Z (rfl) rfl AR rfl) ?_
       refine Aa Z Z Z (J (Bz (Jx out (w.K[k]).f (by omega)) Z Z) (Aa Z Z Z ?_))
       first | refine J (ET Z Z) ?_ | refine J (EQ Z Z) ?_
       refine J (GZ Z Z Z Z) (AF ?_)
       first | refine Az rfl (fun h57=>?_) (fun h57=>?_) | refine Aw rfl (fun h57=>?_) (fun h57=>?_)
       ·refine AE (AH (AC Z Z ?_))
        first | refine J (A2 rfl Be Z Z Z) ?_ | refine J (A4 rfl Be Z Z Z) ?_ | refine J (A5 rfl Be Z Z Z) ?_ | refine J (A3 rfl Be Z Z Z) ?_ | refine J (A1 rfl Be Z Z Z) ?_
        first | refine J (AZ Z Z AR rfl) ?_ | refine J (AX Z Z Z AR rfl) ?_ | refine J (AY Z Z (rfl) rfl AR rfl) ?_
        refine J (Bz (DD out (w.K[k]).f (by omega)) Z Z) (AD Z Z ?_);refine AF (AH (AD Z Z (AF (AH (AC Z Z (J (CG Z Z (IntWalk.i64_in _ (by omega)) rfl) (AD Z Z (AF ?_))))))));exact ⟨(k+1,_,_),⟨hkl,by first | exact hI.pass hkl (fun e=>absurd e h31) | exact hI.pass hkl (fun _=>⟨fun hf=>Classical.byContradiction fun hr=>by first | exact h42 hr | exact h36 hf,fun hr=>Classical.byContradiction fun hf=>by first | exact h57 hf | exact h51 hr⟩) | exact hI.ins h42 h36 (Or.inl hWt) hkR.2 | exact hI.ins h57 h51 (Or.inr hWt) hkR.1 | exact absurd (LD.2 (.inr h36)) h57⟩,by show w.K.length - (k+1)<w.K.length - k;omega,At hF [20] rfl (rfl) ⟨rfl,rfl,rfl,rfl,trivial⟩⟩
       ·refine Ai (AH (AC Z Z (J (CG Z Z (IntWalk.i64_in _ (by omega)) rfl) (AD Z Z (AF ?_)))));exact ⟨(k+1,_,_),⟨hkl,by first | exact hI.pass hkl (fun e=>absurd e h31) | exact hI.pass hkl (fun _=>⟨fun hf=>Classical.byContradiction fun hr=>by first | exact h42 hr | exact h36 hf,fun hr=>Classical.byContradiction fun hf=>by first | exact h57 hf | exact h51 hr⟩) | exact hI.ins h42 h36 (Or.inl hWt) hkR.2 | exact hI.ins h57 h51 (Or.inr hWt) hkR.1 | exact absurd (LD.2 (.inr h36)) h57⟩,by show w.K.length - (k+1)<w.K.length - k;omega,At hF [20] rfl (rfl) ⟨rfl,rfl,rfl,rfl,trivial⟩⟩
      ·refine BA Z Z Z Z (BA Z Z Z Z (BA Z Z Z Z (BA Z Z Z Z (BA Z Z Z Z ?_))));refine J (Fo Z Z Z Z) (AF (DM Z Z (Ai (AH (AC Z Z (J (CG Z Z (IntWalk.i64_in _ (by omega)) rfl) (AD Z Z (AF ?_))))))));exact ⟨(k+1,_,_),⟨hkl,by first | exact hI.pass hkl (fun e=>absurd e h31) | exact hI.pass hkl (fun _=>⟨fun hf=>Classical.byContradiction fun hr=>by first | exact h42 hr | exact h36 hf,fun hr=>Classical.byContradiction fun hf=>by first | exact h57 hf | exact h51 hr⟩) | exact hI.ins h42 h36 (Or.inl hWt) hkR.2 | exact hI.ins h57 h51 (Or.inr hWt) hkR.1 | exact absurd (LD.2 (.inr h36)) h57⟩,by show w.K.length - (k+1)<w.K.length - k;omega,At hF [20] rfl (rfl) ⟨rfl,rfl,rfl,rfl,trivial⟩⟩
   ·refine C5 ?_;exact ⟨(out,grew),⟨hI.g,fun e=>by have:=(hI.no e).2;rw [show k=w.K.length by omega,List.take_length] at this;exact this⟩,by have h1:=hI.g.len;have h2:=hI.le;show 2*(w.R.length - out.length)+(if grew then 1 else 0)<2*(w.R.length - out0.length)+(if gr then 1 else 0);rw [show gr=true from h16];cases hgr:grew with | false=>rw [(hI.no hgr).1];simp | true=>have h3:=hI.yes hgr;simp;omega,At hF [20] rfl (rfl) ⟨rfl,rfl,rfl,trivial⟩⟩
  ·refine C5 (AE ?_);have hfin:=hG0.fin hw (hC0 (by simpa using h16));refine AH (AC Z Z (AD Z Z (AF (Aq ?_))));exact ⟨_,[],[],An rfl,rfl,rfl,by rw [if_pos haR,hfin],rfl⟩
theorem NI {w:Ws} (hw:B1 w) {x:St} (hx:x∈w.R):(cls w x).getD 0 []=x↔KQ w x:=by
 have hs:=FC hw x;have hm:=QQ hx
 cases hc:cls w x with
 | nil=>rw [hc] at hm;simp at hm
 | cons y r=>
  rw [hc] at hs hm;have h1:=List.pairwise_cons.1 hs;show y=x↔_
  constructor
  ·rintro rfl z hz hzc hlt;have hz2:z∈cls w y:=Jq.2 ⟨hz,hzc⟩;rw [hc] at hz2;rcases List.mem_cons.1 hz2 with rfl | hz2
   ·exact G2 _ hlt
   ·exact G2 _ (OZ hlt (h1.1 z hz2))
  ·intro hl;have hy:y∈cls w x:=by rw [hc];simp
   obtain ⟨hyR,hyc⟩:=Jq.1 hy;rcases List.mem_cons.1 hm with e | hm
   ·exact e.symm
   ·exact absurd (h1.1 x hm) (hl y hyR hyc)
open Classical in
noncomputable def partT (w:Ws) (k:Nat):List (List St):=((w.R.take k).filter fun a=>decide (KQ w a)).map (cls w)
theorem Pa (w:Ws):partT w w.R.length=parts w:=by unfold partT parts;rw [List.take_length]
theorem P9 {w:Ws} {k:Nat} (hk:k<w.R.length) (h:KQ w w.R[k]):partT w (k+1)=partT w k++ [cls w w.R[k]]:=by
 unfold partT;rw [List.take_succ_eq_append_getElem hk,List.filter_append,List.map_append]
 simp [h]
theorem Nt {w:Ws} {k:Nat} (hk:k<w.R.length) (h:¬KQ w w.R[k]):partT w (k+1)=partT w k:=by
 unfold partT;rw [List.take_succ_eq_append_getElem hk,List.filter_append,List.map_append]
 simp [h]
theorem P8 (w:Ws) (k:Nat):(partT w k).length≤w.R.length:=by
 unfold partT;rw [List.length_map];exact Nat.le_trans (List.length_filter_le _ _) (by rw [List.length_take];omega)
theorem CL {l:List St} {k:Nat} (h:k<l.length):(l.map AU)[k]? =some (AU l[k]):=by
 rw [List.getElem?_map,List.getElem?_eq_getElem h];rfl
theorem all_p (w:Ws) (hw:B1 w) (hl:w.K.length≤2000000):Ak Tryz.prog 67 [.d (Jw w)] (CT (parts w)):=by
 have hfew:=hw.few;refine CP Tryz.func67 Z Z Tryz.ntmps67 Z Z Z fun F hF=>(AE (AH (U (Gl 20 Z Z Z Z Z Z Z) (AD Z Z (AF (AE (AH (AD Z Z ?_))))))));refine AF (AE (AE (AH (AD Z Z (AF (BH (EC 3 1 Nh Z Z Z Z (Db (α:=Nat×List (List St)) (fun q=>⟨34,[(1,(.ptr 20 0 0)),(3,(.own 1 0 q.2.length)),(4,(.d (natD q.1)))],[FE 20 w,(1,[.rowD 25 1 (q.2.map stsD)])]⟩) (fun q=>q.1≤w.R.length∧q.2=partT w q.1) (fun q=>w.R.length - q.1) ((0,[])) (⟨Nat.zero_le _,rfl⟩) (At hF [20,1] Z Z ⟨rfl,rfl,rfl,trivial⟩) ?_))))))));rintro ⟨k,out⟩ ⟨hk,ho⟩;dsimp only at hk ho⊢;refine AE (AE (AH (AC Z Z ?_)))
 first | refine J (A2 rfl Ag Z Z Z) ?_ | refine J (A4 rfl Ag Z Z Z) ?_ | refine J (A5 rfl Ag Z Z Z) ?_ | refine J (A3 rfl Ag Z Z Z) ?_ | refine J (A1 rfl Ag Z Z Z) ?_
 first | refine J (AZ Z Z AW rfl) ?_ | refine J (AX Z Z Z AW rfl) ?_ | refine J (AY Z Z (rfl) rfl AW rfl) ?_
 refine J (Bs rfl (List.length_map ..) Tryz.underlying25 rfl) ?_
 first | refine J (D3 Z Z Z) ?_ | refine J (D4 Z Z Z) ?_
 refine AF ?_
 first | refine Az rfl (fun h10=>?_) (fun h10=>?_) | refine Aw rfl (fun h10=>?_) (fun h10=>?_)
 ·refine Ai (AE (BH (AE ?_)));have hkl:k<w.R.length:=F1 h10;have hxR:w.R[k]∈w.R:=List.getElem_mem hkl;have hcl:0<(cls w w.R[k]).length:=List.length_pos_of_mem (QQ hxR);have hpl:out.length≤w.R.length:=by rw [ho];exact P8 w k
  refine FK [[],[],[1],[],[1,2,3],[1,2,3,4],[0,1,2,3,4,5],[0,1,2,3,4,5,6]] mixed rfl (D1 ?_)
  first | refine AG [1] [] Z Z (fun _=>AB (BN Z Z AL rfl)) ?_ | refine AI [1] Z Z (fun _=>AB (BN Z Z AL rfl)) ?_ | refine AG [1] [] Z Z (fun _=>AB (BO Z Z AL Z Z Z)) ?_ | refine AI [1] Z Z (fun _=>AB (BO Z Z AL Z Z Z)) ?_ | refine AG [1] [] Z Z (fun _=>AB (BP Z Z (rfl) rfl AL rfl)) ?_ | refine AI [1] Z Z (fun _=>AB (BP Z Z (rfl) rfl AL rfl)) ?_
  first | refine AG [1] [] Z Z (fun _=>AB (A2 rfl Ag Z Z Z)) ?_ | refine AI [1] Z Z (fun _=>AB (A2 rfl Ag Z Z Z)) ?_ | refine AG [1] [] Z Z (fun _=>AB (A4 rfl Ag Z Z Z)) ?_ | refine AI [1] Z Z (fun _=>AB (A4 rfl Ag Z Z Z)) ?_ | refine AG [1] [] Z Z (fun _=>AB (A5 rfl Ag Z Z Z)) ?_ | refine AI [1] Z Z (fun _=>AB (A5 rfl Ag Z Z Z)) ?_ | refine AG [1] [] Z Z (fun _=>AB (A3 rfl Ag Z Z Z)) ?_ | refine AI [1] Z Z (fun _=>AB (A3 rfl Ag Z Z Z)) ?_ | refine AG [1] [] Z Z (fun _=>AB (A1 rfl Ag Z Z Z)) ?_ | refine AI [1] Z Z (fun _=>AB (A1 rfl Ag Z Z Z)) ?_
  first | refine AG [14] [] Z Z (fun _=>AB (AZ Z Z AW rfl)) ?_ | refine AI [14] Z Z (fun _=>AB (AZ Z Z AW rfl)) ?_ | refine AG [14] [] Z Z (fun _=>AB (AX Z Z Z AW rfl)) ?_ | refine AI [14] Z Z (fun _=>AB (AX Z Z Z AW rfl)) ?_ | refine AG [14] [] Z Z (fun _=>AB (AY Z Z (rfl) rfl AW rfl)) ?_ | refine AI [14] Z Z (fun _=>AB (AY Z Z (rfl) rfl AW rfl)) ?_
  first | refine AG [4] [] Z Z (fun _=>AB (A8 Z Z)) ?_ | refine AI [4] Z Z (fun _=>AB (A8 Z Z)) ?_
  first | refine AG [15,16] [] Z Z (fun _=>AB (BE (k) Z Z (rfl) (CL hkl) Tryz.underlying25 rfl DW rfl)) ?_ | refine AI [15,16] Z Z (fun _=>AB (BE (k) Z Z (rfl) (CL hkl) Tryz.underlying25 rfl DW rfl)) ?_ | refine AG [15,16] [] Z Z (fun _=>AB (BF (k) Z Z (rfl) (CL hkl) rfl Tryz.underlying25 DW rfl)) ?_ | refine AI [15,16] Z Z (fun _=>AB (BF (k) Z Z (rfl) (CL hkl) rfl Tryz.underlying25 DW rfl)) ?_
  first | refine AG [17] [] Z Z (fun _=>AB (AZ Z Z AR rfl)) ?_ | refine AI [17] Z Z (fun _=>AB (AZ Z Z AR rfl)) ?_ | refine AG [17] [] Z Z (fun _=>AB (AX Z Z Z AR rfl)) ?_ | refine AI [17] Z Z (fun _=>AB (AX Z Z Z AR rfl)) ?_ | refine AG [17] [] Z Z (fun _=>AB (AY Z Z (rfl) rfl AR rfl)) ?_ | refine AI [17] Z Z (fun _=>AB (AY Z Z (rfl) rfl AR rfl)) ?_
  refine D2 6 Z Z Z (BY 7 Z Z (J (Bz (Cm w hw w.R[k] hl) Z Z) ?_));rw [if_pos hxR];refine AF ⟨rfl,?_⟩;refine BY 8 Z Z (AD Z Z (AF ⟨rfl,?_⟩));refine Eg (AE (FK [[],[0],[0,1],[],[3],[],[3,4,5],[3,4,5,6],[0,1,2,3,4,5,6,7]] mixed rfl (D1 ?_)))
  first | refine AG [5] [] Z Z (fun _=>AB (A8 Z Z)) ?_ | refine AI [5] Z Z (fun _=>AB (A8 Z Z)) ?_
  first | refine AG [20] [] Z Z (fun _=>AB (BE (0) Z Z (rfl) (Dg hcl) Tryz.underlying25 rfl DW rfl)) ?_ | refine AI [20] Z Z (fun _=>AB (BE (0) Z Z (rfl) (Dg hcl) Tryz.underlying25 rfl DW rfl)) ?_ | refine AG [20] [] Z Z (fun _=>AB (BF (0) Z Z (rfl) (Dg hcl) rfl Tryz.underlying25 DW rfl)) ?_ | refine AI [20] Z Z (fun _=>AB (BF (0) Z Z (rfl) (Dg hcl) rfl Tryz.underlying25 DW rfl)) ?_
  first | refine AG [21] [99] Z Z (fun _=>AB (AZ Z Z AR rfl)) ?_ | refine AG [21] [99] Z Z (fun _=>AB (AX Z Z Z AR rfl)) ?_ | refine AG [21] [99] Z Z (fun _=>AB (AY Z Z (rfl) rfl AR rfl)) ?_
  first | refine AG [1] [] Z Z (fun _=>AB (A2 rfl Ag Z Z Z)) ?_ | refine AI [1] Z Z (fun _=>AB (A2 rfl Ag Z Z Z)) ?_ | refine AG [1] [] Z Z (fun _=>AB (A4 rfl Ag Z Z Z)) ?_ | refine AI [1] Z Z (fun _=>AB (A4 rfl Ag Z Z Z)) ?_ | refine AG [1] [] Z Z (fun _=>AB (A5 rfl Ag Z Z Z)) ?_ | refine AI [1] Z Z (fun _=>AB (A5 rfl Ag Z Z Z)) ?_ | refine AG [1] [] Z Z (fun _=>AB (A3 rfl Ag Z Z Z)) ?_ | refine AI [1] Z Z (fun _=>AB (A3 rfl Ag Z Z Z)) ?_ | refine AG [1] [] Z Z (fun _=>AB (A1 rfl Ag Z Z Z)) ?_ | refine AI [1] Z Z (fun _=>AB (A1 rfl Ag Z Z Z)) ?_
  first | refine AG [23] [] Z Z (fun _=>AB (AZ Z Z AW rfl)) ?_ | refine AI [23] Z Z (fun _=>AB (AZ Z Z AW rfl)) ?_ | refine AG [23] [] Z Z (fun _=>AB (AX Z Z Z AW rfl)) ?_ | refine AI [23] Z Z (fun _=>AB (AX Z Z Z AW rfl)) ?_ | refine AG [23] [] Z Z (fun _=>AB (AY Z Z (rfl) rfl AW rfl)) ?_ | refine AI [23] Z Z (fun _=>AB (AY Z Z (rfl) rfl AW rfl)) ?_
  first | refine AG [4] [] Z Z (fun _=>AB (A8 Z Z)) ?_ | refine AI [4] Z Z (fun _=>AB (A8 Z Z)) ?_
  first | refine AG [24,25] [] Z Z (fun _=>AB (BE (k) Z Z (rfl) (CL hkl) Tryz.underlying25 rfl DW rfl)) ?_ | refine AI [24,25] Z Z (fun _=>AB (BE (k) Z Z (rfl) (CL hkl) Tryz.underlying25 rfl DW rfl)) ?_ | refine AG [24,25] [] Z Z (fun _=>AB (BF (k) Z Z (rfl) (CL hkl) rfl Tryz.underlying25 DW rfl)) ?_ | refine AI [24,25] Z Z (fun _=>AB (BF (k) Z Z (rfl) (CL hkl) rfl Tryz.underlying25 DW rfl)) ?_
  first | refine AG [26] [] Z Z (fun _=>AB (AZ Z Z AR rfl)) ?_ | refine AI [26] Z Z (fun _=>AB (AZ Z Z AR rfl)) ?_ | refine AG [26] [] Z Z (fun _=>AB (AX Z Z Z AR rfl)) ?_ | refine AI [26] Z Z (fun _=>AB (AX Z Z Z AR rfl)) ?_ | refine AG [26] [] Z Z (fun _=>AB (AY Z Z (rfl) rfl AR rfl)) ?_ | refine AI [26] Z Z (fun _=>AB (AY Z Z (rfl) rfl AR rfl)) ?_
  refine D2 8 Z Z Z (BY 9 Z Z ?_)
  first | refine J (FW Z Z Z) ?_ | refine J (FV Z Z Z) ?_ | refine J (FL Z Z Z) ?_ | refine J (FO Tryz.underlying9 Z Z Z) ?_ | refine J (FR Tryz.underlying9 Z Z Z) ?_ | refine J (FQ Tryz.underlying9 Z Z) ?_ | refine J (FU Tryz.underlying9 Z Z) ?_ | refine J (FT Tryz.underlying9 Z Z) ?_ | refine J (FP Tryz.underlying9 Z Z Z) ?_ | refine J (fSq Tryz.underlying9 Z Z) ?_
  refine AF ⟨rfl,?_⟩;refine Eg ?_
  first | refine Az rfl (fun h28=>?_) (fun h28=>?_) | refine Aw rfl (fun h28=>?_) (fun h28=>?_)
  ·refine AH (AC Z Z (AC Z Z (U (Fq 21 Nh Z Z Z Z Z Z Z Z) ?_)))
   first | refine U (IC (out) ([cls w w.R[k]]) Z Z Z Z Z Z Z Z Nh (by simp only [List.length_singleton];omega) Z Z Z Z) ?_ | refine U (Iu (out) ([cls w w.R[k]]) Z Z Z Z Z Z (fun _=>rfl) Nh (by simp only [List.length_singleton];omega) Z Z Z Z) ?_
   refine AD Z Z (AF (AH (AC Z Z (J (CG Z Z (IntWalk.i64_in _ (by omega)) rfl) (AD Z Z (AF ?_))))));exact ⟨(k+1,out++ [cls w w.R[k]]),⟨hkl,by show _=partT w (k+1);rw [P9 hkl ((NI hw hxR).1 h28),ho]⟩,by show w.R.length - (k+1)<w.R.length - k;omega,At hF [20,1] rfl (rfl) ⟨rfl,rfl,rfl,trivial⟩⟩
  ·refine Ai (AH (AC Z Z (J (CG Z Z (IntWalk.i64_in _ (by omega)) rfl) (AD Z Z (AF ?_)))));exact ⟨(k+1,out),⟨hkl,by show _=partT w (k+1);rw [Nt hkl fun h=>h28 ((NI hw hxR).2 h),ho]⟩,by show w.R.length - (k+1)<w.R.length - k;omega,At hF [20,1] rfl (rfl) ⟨rfl,rfl,rfl,trivial⟩⟩
 ·refine C5 (AE ?_);have hke:k=w.R.length:=by have:=h10;omega
  refine OY (emb:=stsD) 3 1 out Z Z Z Z Z Z Z (AH (AC Z Z (AD Z Z (AF (Aq ?_)))));exact ⟨_,[],[],An rfl,rfl,rfl,by rw [ho,hke,Pa],rfl⟩
theorem CN {w:Ws} (hw:B1 w) {i j:Nat} (hi:i<(parts w).length) (hj:j<(parts w).length) (hne:i≠j):QL w.K ((parts w).getD i []) ((parts w).getD j [])↔j∈depL w i:=by
 rw [CK hw]
 constructor
 ·rintro ⟨l,hl,ht,hf,hr⟩;exact ⟨hne,l,hl,ht,((Mt hw hi).1 hf).2,((Mt hw hj).1 hr).2⟩
 ·rintro ⟨_,l,hl,ht,hf,hr⟩;exact ⟨l,hl,ht,(Mt hw hi).2 ⟨(hw.lk l hl).1,hf⟩,(Mt hw hj).2 ⟨(hw.lk l hl).2.1,hr⟩⟩
def QK (w:Ws) (ord:List Nat) (i k:Nat):Prop:=i∉ord∧∀j,j<k ->j≠i ->j∉ord ->j∉depL w i
noncomputable instance (w:Ws) (ord:List Nat) (i k:Nat):Decidable (QK w ord i k):=Classical.propDecidable _
theorem bD {p q:Prop} [Decidable p] [Decidable q] (h:p↔q):AV.d (Ad (decide p))=AV.d (Ad (decide q)):=by rw [decide_eq_decide.2 h]
theorem Rv {w:Ws} {ord:List Nat} {i:Nat}:AV.d (Ad (decide (¬i∈ord)))=AV.d (Ad (decide (QK w ord i 0))):=bD ⟨fun h=>⟨h,fun j hj=>by omega⟩,fun h=>h.1⟩
theorem QO {w:Ws} {ord:List Nat} {i k:Nat} (h:k=i∨k∈ord∨k∉depL w i):AV.d (Ad (decide (QK w ord i k)))=AV.d (Ad (decide (QK w ord i (k+1)))):=bD ⟨fun hf=>⟨hf.1,fun j hj h1 h2=>by
 by_cases e:j=k
 ·subst e;rcases h with h | h | h
  ·exact absurd h h1
  ·exact absurd h h2
  ·exact h
 ·exact hf.2 j (by omega) h1 h2⟩,fun hf=>⟨hf.1,fun j hj=>hf.2 j (by omega)⟩⟩
theorem Lg {w:Ws} {ord:List Nat} {i k:Nat} (h1:k≠i) (h2:k∉ord) (h3:k∈depL w i):AV.d (Ad false)=AV.d (Ad (decide (QK w ord i (k+1)))):=by
 rw [decide_eq_false (show ¬QK w ord i (k+1) from fun hf=>hf.2 k (by omega) h1 h2 h3)]
theorem Om {w:Ws} {ord:List Nat} {i:Nat} (hn:∀k∈depL w i,k≠i):QK w ord i (parts w).length↔GO (depL w) ord i=true:=by
 rw [Ca];exact ⟨fun h=>⟨h.1,fun k hk=>Classical.byContradiction fun h2=>h.2 k (GL hk) (hn k hk) h2 hk⟩,fun h=>⟨h.1,fun j _ _ h2 h3=>h2 (h.2 j h3)⟩⟩
theorem Oo {w:Ws} (hw:B1 w) {i:Nat}:∀k∈depL w i,k≠i:=fun k hk e=>((CK hw).1 hk).1 e.symm
def encR:Option Nat ->Int
 | none=> -1
 | some x=>(x:Int)
structure LRd (w:Ws) (ord:List Nat) (m:Nat) (o:Option Nat):Prop where
 nn:o=none ->∀i,m≤i ->i<(parts w).length ->GO (depL w) ord i=false
 so:∀x,o=some x ->x<(parts w).length∧GO (depL w) ord x=true∧∀i,m≤i ->i<x ->GO (depL w) ord i=false
theorem Pq {w:Ws} {ord:List Nat} {m:Nat} (h:m=(parts w).length):LRd w ord m none:=⟨fun _ i hi hl=>by omega,fun x e=>(by cases e)⟩
theorem lrd_hit {w:Ws} {ord:List Nat} {i:Nat} (hi:i<(parts w).length) (h:GO (depL w) ord i=true):LRd w ord i (some i):=⟨fun e=>(by cases e),fun x e=>by injection e with e;subst e;exact ⟨hi,h,fun j h1 h2=>by omega⟩⟩
theorem R6 {w:Ws} {ord:List Nat} {i:Nat} {o:Option Nat} (h:LRd w ord (i+1) o) (hn:GO (depL w) ord i=false):LRd w ord i o:=
 ⟨fun e j hj hl=>by
  by_cases e2:j=i
  ·rw [e2];exact hn
  ·exact h.nn e j (by omega) hl,fun x e=>⟨(h.so x e).1,(h.so x e).2.1,fun j hj hl=>by
  by_cases e2:j=i
  ·rw [e2];exact hn
  ·exact (h.so x e).2.2 j (by omega) hl⟩⟩
noncomputable def aftT (w:Ws) (ord:List Nat) (x k:Nat):List Nat:=(List.range k).filter fun p=>(depL w x).contains (ord.getD p 0)
theorem SS {w:Ws} {ord:List Nat} {x k:Nat} (h:ord.getD k 0∈depL w x):aftT w ord x (k+1)=aftT w ord x k++ [k]:=by
 unfold aftT;rw [List.range_succ,List.filter_append];simp [List.getD_eq_getElem?_getD] at h⊢;simp [h]
theorem QG {w:Ws} {ord:List Nat} {x k:Nat} (h:ord.getD k 0∉depL w x):aftT w ord x (k+1)=aftT w ord x k:=by
 unfold aftT;rw [List.range_succ,List.filter_append];simp [List.getD_eq_getElem?_getD] at h⊢;simp [h]
theorem SQ (w:Ws) (ord:List Nat) (x k:Nat):(aftT w ord x k).length≤k:=by
 unfold aftT;exact Nat.le_trans (List.length_filter_le _ _) (by simp)
theorem eqI {a b:Int} (h:a=b):AV.d (B7 a)=AV.d (B7 b):=by rw [h]
set_option maxHeartbeats 2000000 in
theorem MY (w:Ws) (hw:B1 w) (hl:w.K.length≤2000000):Ak Tryz.prog 56 [.d (Jw w)] (if acyW w=true then .tup [Ip (groupsW w),Ad true] else .tup [.sl (some true) [],Ad false]):=by
 have hfew:=hw.few
 obtain ⟨n,hn⟩:∃n,(parts w).length=n:=⟨_,rfl⟩
 have hnR:n≤4096:=by rw [←hn];unfold parts;rw [List.length_map];exact Nat.le_trans (List.length_filter_le _ _) hfew
 have hpl:∀i,((parts w).getD i []).length≤2000000:=fun i=>by
  by_cases hi:i<(parts w).length
  ·have h1:=(DX (Mb hw (List.mem_of_getElem? (Hq hi)))).length_le_of_subset (l₂:=w.R) fun y hy=>((Mt hw hi).1 hy).1;omega
  ·rw [List.getD_eq_getElem?_getD,List.getElem?_eq_none (by omega)];exact Nat.zero_le _
 refine CP Tryz.func56 Z Z Tryz.ntmps56 Z Z Z fun F hF=>(AE (AH (U (Gl 20 Z Z Z Z Z Z Z) (AD Z Z (AD Z Z (AF (AE (AH ?_))))))))
 first | refine J (BN Z Z AL rfl) ?_ | refine J (BO Z Z AL Z Z Z) ?_ | refine J (BP Z Z (rfl) rfl AL rfl) ?_
 refine J (Bz (all_p w hw hl) Z Z) (AD Z Z ?_);refine AF (AE (AH (AC Z Z (J (Bs rfl ((List.length_map ..).trans hn) Tryz.underlying74 rfl) (U (Fy 21 sl99 Z Z Z (by omega) zd4 Z Z Z Z) (AD Z Z (AF (AE ?_))))))));rw [repB];refine AH (AD Z Z (AF ?_));refine AE (EC 6 30 O1 Z Z Z Z (AH (AD Z Z (AF (AE (BH (EC 7 31 Dc Z Z Z Z (Db (α:=List Nat×List Grp) (fun q=>⟨110,[(1,(.ptr 20 0 0)),(4,(.d (CT (parts w)))),(5,(.own 21 0 n)),(6,(.own 30 0 q.2.length)),(7,(.own 31 0 q.1.length))],[FE 20 w,(21,[.rowD 4 1 (JO n q.1)]),(30,[.rowD 116 2 (q.2.map KI)]),(31,[.rowD 3 1 (q.1.map natD)])]⟩) (fun q=>IJ w q.1∧q.2=grpS w q.1) (fun q=>n - q.1.length) (([],[])) (⟨IJ.zero w,rfl⟩) (At hF [20,21,30,31] Z Z ⟨rfl,rfl,rfl,rfl,rfl,trivial⟩) ?_))))))));rintro ⟨ord,gs⟩ ⟨hI,hgs⟩;dsimp only at hI hgs⊢;refine AE (AE (AH (AC Z Z ?_)))
 first | refine J (IB rfl Tryz.underlying102 rfl) ?_ | refine J (Bs Z Z Tryz.underlying102 rfl) ?_ | refine J (IE rfl Tryz.underlying102 rfl) ?_ | refine J (IG rfl Tryz.underlying102 rfl) ?_ | refine J (ID rfl Tryz.underlying102 rfl) ?_ | refine J (H4 rfl Tryz.underlying102 rfl) ?_
 refine AC Z Z (J (Bs rfl ((List.length_map ..).trans hn) Tryz.underlying74 rfl) ?_)
 first | refine J (D3 Z Z Z) ?_ | refine J (D4 Z Z Z) ?_
 refine AF ?_
 first | refine Az rfl (fun h23=>?_) (fun h23=>?_) | refine Aw rfl (fun h23=>?_) (fun h23=>?_)
 ·refine Ai (BH (AE ?_));have hgl:gs.length=ord.length:=by rw [hgs,HU]
  have hlt:gs.length<n:=F1 h23;refine AH (AD Z Z (AF (AE (AE ?_))));refine AH (AC Z Z (J (Bs rfl ((List.length_map ..).trans hn) Tryz.underlying74 rfl) (J (Ci Z Z (IntWalk.i64_in _ (by omega)) rfl) (LU 26 (.d (B7 ((n:Int) - 1 - ((0:Nat):Int)))) rfl (eqI (by omega)) (AD Z Z (AF (BH (Db (α:=Nat×Option Nat) (fun q=>⟨110,[(1,(.ptr 20 0 0)),(4,(.d (CT (parts w)))),(5,(.own 21 0 n)),(6,(.own 30 0 gs.length)),(7,(.own 31 0 ord.length)),(8,(.d (B7 (encR q.2)))),(9,(.d (B7 ((n:Int) - 1 - (q.1:Int)))))],[FE 20 w,(21,[.rowD 4 1 (JO n ord)]),(30,[.rowD 116 2 (gs.map KI)]),(31,[.rowD 3 1 (ord.map natD)])]⟩) (fun q=>q.1≤n∧LRd w ord (n - q.1) q.2) (fun q=>n - q.1) ((0,none)) (⟨Nat.zero_le _,Pq hn.symm⟩) (At hF [20,21,30,31] Z Z ⟨rfl,rfl,rfl,rfl,rfl,rfl,rfl,trivial⟩) ?_))))))));rintro ⟨d,o⟩ ⟨hd,hLA⟩;dsimp only at hd hLA⊢;refine AE (AE (AH (AC Z Z (J (LL Z Z Z) (AF ?_)))))
  first | refine Az rfl (fun h28=>?_) (fun h28=>?_) | refine Aw rfl (fun h28=>?_) (fun h28=>?_)
  ·refine Ai (AE (BH (AE ?_)));have hdl:d<n:=by have:=h28;omega
   refine OW 9 (.d (natD (n - 1 - d))) rfl (eqI (by omega)) ?_
   obtain ⟨i,hie⟩:∃i,n - 1 - d=i:=⟨_,rfl⟩
   rw [hie];have hil:i<n:=by omega
   have hil2:i<(parts w).length:=by omega
   have hie2:i=n - (d+1):=by omega
   have hie3:n - d=i+1:=by omega
   refine AH (AC Z Z (AC Z Z ?_))
   first | refine J (BE (i) Z Z (rfl) (hil) Tryz.underlying99 rfl MG rfl) ?_ | refine J (BF (i) Z Z (rfl) (hil) rfl Tryz.underlying99 MG rfl) ?_
   first | refine J (AZ Z Z QN rfl) ?_ | refine J (AX Z Z Z QN rfl) ?_ | refine J (AY Z Z (Gv hil) rfl QN rfl) ?_
   first | refine J (ET Z Z) ?_ | refine J (EQ Z Z) ?_
   refine LU 35 (.d (Ad (decide (QK w ord i 0)))) rfl Rv ?_;refine AD Z Z (AF (AE (AE (AH (AD Z Z (AF (BH (Db (α:=Nat) (fun k=>⟨110,[(1,(.ptr 20 0 0)),(4,(.d (CT (parts w)))),(5,(.own 21 0 n)),(6,(.own 30 0 gs.length)),(7,(.own 31 0 ord.length)),(8,(.d (B7 (encR o)))),(9,(.d (natD i))),(10,(.d (Ad (decide (QK w ord i k))))),(11,(.d (natD k)))],[FE 20 w,(21,[.rowD 4 1 (JO n ord)]),(30,[.rowD 116 2 (gs.map KI)]),(31,[.rowD 3 1 (ord.map natD)])]⟩) (fun k=>k≤n) (fun k=>n - k) (0) (Nat.zero_le _) (At hF [20,21,30,31] Z Z ⟨rfl,rfl,rfl,rfl,rfl,rfl,rfl,rfl,rfl,trivial⟩) ?_))))))));intro k hk;refine AE (AE (AH (AC Z Z (AC Z Z (J (Bs rfl ((List.length_map ..).trans hn) Tryz.underlying74 rfl) ?_)))))
   first | refine J (D3 Z Z Z) ?_ | refine J (D4 Z Z Z) ?_
   refine AF ?_
   first | refine Az rfl (fun h39=>?_) (fun h39=>?_) | refine Aw rfl (fun h39=>?_) (fun h39=>?_)
   ·refine Ai (AE (BH (AE ?_)));have hkl:k<n:=F1 h39;have hkl2:k<(parts w).length:=by omega
    refine FK [[],[],[0,1],[0,1,2],[0,1,2,3],[0,1,2,3],[0,1,2,3,4,5],[0,1,2,3,4,5,6],[0,1,2,3,4,5,6,7],[0,1,2,3,4,5,6,7,8],[0,1,2,3,4,5,6,7,8,9],[0,1,2,3,4,5,6,7,8,9,10],[0,1,2,3,4,5,6,7,8,9,10],[0,1,2,3,4,5,6,7,8,9,10],[0,1,2,3,4,5,6,7,8,9,10,12,13],[0,1,2,3,4,5,6,7,8,9,10,12,13,14],[0,1,2,3,4,5,6,7,8,9,10],[0,1,2,3,4,5,6,7,8,9,10],[0,1,2,3,4,5,6,7,8,9,10,16,17],[0,1,2,3,4,5,6,7,8,9,10,16,17,18],[0,1,2,3,4,5,6,7,8,9,10,11,12,13,14,15,16,17,18,19],[0,1,2,3,4,5,6,7,8,9,10,11,12,13,14,15,16,17,18,19,20]] mixed rfl (D1 ?_)
    first | refine AG [9] [] Z Z (fun _=>AB (A8 Z Z)) ?_ | refine AI [9] Z Z (fun _=>AB (A8 Z Z)) ?_
    first | refine AG [11] [] Z Z (fun _=>AB (A8 Z Z)) ?_ | refine AI [11] Z Z (fun _=>AB (A8 Z Z)) ?_
    refine D2 2 Z Z Z (BY 3 Z Z ?_)
    first | refine J (I8 Z Z Z) ?_ | refine J (I7 Z Z Z) ?_ | refine J (IF Z Z Z) ?_ | refine J (I2 Tryz.underlying3 Z Z Z) ?_ | refine J (I4 Tryz.underlying3 Z Z Z) ?_ | refine J (st_neqN Tryz.underlying3 Z Z) ?_ | refine J (st_neqPr Tryz.underlying3 Z Z) ?_ | refine J (st_neqMz Tryz.underlying3 Z Z) ?_ | refine J (I3 Tryz.underlying3 Z Z Z) ?_ | refine J (st_neqFN Tryz.underlying3 Z Z) ?_
    refine AF ⟨rfl,?_⟩;refine BY 4 Z Z (AC Z Z ?_)
    first | refine It 45 rfl (fun h45=>?_) (fun h45=>?_) | refine I5 45 rfl (fun h45=>?_) (fun h45=>?_)
    ·refine AF ⟨rfl,?_⟩;refine D1 ?_
     first | refine AG [5,45] [] Z Z (fun _=>CA Z Z Z (A8 Z Z)) ?_ | refine AI [5,45] Z Z (fun _=>CA Z Z Z (A8 Z Z)) ?_
     first | refine AG [11,45] [] Z Z (fun _=>CA Z Z Z (A8 Z Z)) ?_ | refine AI [11,45] Z Z (fun _=>CA Z Z Z (A8 Z Z)) ?_
     refine D2 6 Z Z Z (BY 7 Z Z (Aa Z Z Z ?_))
     first | refine J (BE (k) Z Z (rfl) (hkl) Tryz.underlying99 rfl MG rfl) ?_ | refine J (BF (k) Z Z (rfl) (hkl) rfl Tryz.underlying99 MG rfl) ?_
     refine AF ⟨rfl,?_⟩;refine BY 8 Z Z (Aa Z Z Z ?_)
     first | refine J (AZ Z Z QN rfl) ?_ | refine J (AX Z Z Z QN rfl) ?_ | refine J (AY Z Z (Gv hkl) rfl QN rfl) ?_
     refine AF ⟨rfl,?_⟩;refine BY 9 Z Z (Aa Z Z Z ?_)
     first | refine J (ET Z Z) ?_ | refine J (EQ Z Z) ?_
     refine AF ⟨rfl,?_⟩;refine BY 10 Z Z (J (GZ Z Z Z Z) (AF ⟨rfl,?_⟩));refine BY 11 Z Z (AC Z Z ?_)
     first | refine It 52 rfl (fun h52=>?_) (fun h52=>?_) | refine I5 52 rfl (fun h52=>?_) (fun h52=>?_)
     ·refine AF ⟨rfl,?_⟩;refine D1 ?_
      first | refine AG [1,52] [20] Z Z (fun _=>CA Z Z Z (BN Z Z AL rfl)) ?_ | refine AG [1,52] [20] Z Z (fun _=>CA Z Z Z (BO Z Z AL Z Z Z)) ?_ | refine AG [1,52] [20] Z Z (fun _=>CA Z Z Z (BP Z Z (rfl) rfl AL rfl)) ?_
      first | refine AG [4,52] [] Z Z (fun _=>CA Z Z Z (A8 Z Z)) ?_ | refine AI [4,52] Z Z (fun _=>CA Z Z Z (A8 Z Z)) ?_
      first | refine AG [9,52] [] Z Z (fun _=>CA Z Z Z (A8 Z Z)) ?_ | refine AI [9,52] Z Z (fun _=>CA Z Z Z (A8 Z Z)) ?_
      first | refine AG [54,55,52] [] Z Z (fun _=>CA Z Z Z (BE (i) Z Z (rfl) (I6 hil2) Tryz.underlying74 rfl Bw rfl)) ?_ | refine AI [54,55,52] Z Z (fun _=>CA Z Z Z (BE (i) Z Z (rfl) (I6 hil2) Tryz.underlying74 rfl Bw rfl)) ?_ | refine AG [54,55,52] [] Z Z (fun _=>CA Z Z Z (BF (i) Z Z (rfl) (I6 hil2) rfl Tryz.underlying74 Bw rfl)) ?_ | refine AI [54,55,52] Z Z (fun _=>CA Z Z Z (BF (i) Z Z (rfl) (I6 hil2) rfl Tryz.underlying74 Bw rfl)) ?_
      first | refine AG [56,52] [] Z Z (fun _=>CA Z Z Z (AZ Z Z AW rfl)) ?_ | refine AI [56,52] Z Z (fun _=>CA Z Z Z (AZ Z Z AW rfl)) ?_ | refine AG [56,52] [] Z Z (fun _=>CA Z Z Z (AX Z Z Z AW rfl)) ?_ | refine AI [56,52] Z Z (fun _=>CA Z Z Z (AX Z Z Z AW rfl)) ?_ | refine AG [56,52] [] Z Z (fun _=>CA Z Z Z (AY Z Z (rfl) rfl AW rfl)) ?_ | refine AI [56,52] Z Z (fun _=>CA Z Z Z (AY Z Z (rfl) rfl AW rfl)) ?_
      first | refine AG [4,52] [] Z Z (fun _=>CA Z Z Z (A8 Z Z)) ?_ | refine AI [4,52] Z Z (fun _=>CA Z Z Z (A8 Z Z)) ?_
      first | refine AG [11,52] [] Z Z (fun _=>CA Z Z Z (A8 Z Z)) ?_ | refine AI [11,52] Z Z (fun _=>CA Z Z Z (A8 Z Z)) ?_
      first | refine AG [58,59,52] [] Z Z (fun _=>CA Z Z Z (BE (k) Z Z (rfl) (I6 hkl2) Tryz.underlying74 rfl Bw rfl)) ?_ | refine AI [58,59,52] Z Z (fun _=>CA Z Z Z (BE (k) Z Z (rfl) (I6 hkl2) Tryz.underlying74 rfl Bw rfl)) ?_ | refine AG [58,59,52] [] Z Z (fun _=>CA Z Z Z (BF (k) Z Z (rfl) (I6 hkl2) rfl Tryz.underlying74 Bw rfl)) ?_ | refine AI [58,59,52] Z Z (fun _=>CA Z Z Z (BF (k) Z Z (rfl) (I6 hkl2) rfl Tryz.underlying74 Bw rfl)) ?_
      first | refine AG [60,52] [] Z Z (fun _=>CA Z Z Z (AZ Z Z AW rfl)) ?_ | refine AI [60,52] Z Z (fun _=>CA Z Z Z (AZ Z Z AW rfl)) ?_ | refine AG [60,52] [] Z Z (fun _=>CA Z Z Z (AX Z Z Z AW rfl)) ?_ | refine AI [60,52] Z Z (fun _=>CA Z Z Z (AX Z Z Z AW rfl)) ?_ | refine AG [60,52] [] Z Z (fun _=>CA Z Z Z (AY Z Z (rfl) rfl AW rfl)) ?_ | refine AI [60,52] Z Z (fun _=>CA Z Z Z (AY Z Z (rfl) rfl AW rfl)) ?_
      refine D2 20 Z Z Z (BY 21 Z Z (Aa Z Z Z (J (Bz (Kt w ((parts w).getD i []) ((parts w).getD k []) hl (hpl _) (hpl _)) Z Z) (AF ⟨rfl,?_⟩))));refine BY 22 Z Z (J (GZ Z Z Z Z) (AF ⟨rfl,?_⟩));refine Eg ?_
      first | refine Az rfl (fun h63=>?_) (fun h63=>?_) | refine Aw rfl (fun h63=>?_) (fun h63=>?_)
      ·refine AH (AD Z Z (AF (OW 10 (.d (Ad (decide (QK w ord i (k+1))))) rfl (by first | exact Lg (fun e=>h45 (by rw [e])) h52 ((CN hw hil2 hkl2 (fun e=>h45 (by rw [e]))).1 h63) | exact QO (.inr (.inr fun hh=>h63 ((CN hw hil2 hkl2 (fun e=>h45 (by rw [e]))).2 hh))) | exact QO (.inr (.inl (Classical.not_not.1 h52))) | exact QO (.inl (Int.ofNat.inj (Classical.not_not.1 h45)).symm)) (AH (AC Z Z (J (CG Z Z (IntWalk.i64_in _ (by omega)) rfl) (AD Z Z (AF ?_))))))));exact ⟨k+1,hkl,by omega,At hF [20,21,30,31] rfl (rfl) ⟨rfl,rfl,rfl,rfl,rfl,rfl,rfl,rfl,rfl,trivial⟩⟩
      ·refine Ai (OW 10 (.d (Ad (decide (QK w ord i (k+1))))) rfl (by first | exact Lg (fun e=>h45 (by rw [e])) h52 ((CN hw hil2 hkl2 (fun e=>h45 (by rw [e]))).1 h63) | exact QO (.inr (.inr fun hh=>h63 ((CN hw hil2 hkl2 (fun e=>h45 (by rw [e]))).2 hh))) | exact QO (.inr (.inl (Classical.not_not.1 h52))) | exact QO (.inl (Int.ofNat.inj (Classical.not_not.1 h45)).symm)) (AH (AC Z Z (J (CG Z Z (IntWalk.i64_in _ (by omega)) rfl) (AD Z Z (AF ?_))))));exact ⟨k+1,hkl,by omega,At hF [20,21,30,31] rfl (rfl) ⟨rfl,rfl,rfl,rfl,rfl,rfl,rfl,rfl,rfl,trivial⟩⟩
     ·refine AF ⟨rfl,?_⟩;refine D1 (AG [1,52] [] Z Z (fun _=>LB Z Z Z Z) (AG [4,52] [] Z Z (fun _=>LB Z Z Z Z) (AG [9,52] [] Z Z (fun _=>LB Z Z Z Z) (AG [54,55,52] [] Z Z (fun _=>LB Z Z Z Z) ?_))));refine AG [56,52] [] Z Z (fun _=>LB Z Z Z Z) (AG [4,52] [] Z Z (fun _=>LB Z Z Z Z) (AG [11,52] [] Z Z (fun _=>LB Z Z Z Z) (AG [58,59,52] [] Z Z (fun _=>LB Z Z Z Z) (AG [60,52] [] Z Z (fun _=>LB Z Z Z Z) (D2 20 Z Z Z (BY 21 Z Z (BA Z Z Z Z (AF ⟨rfl,?_⟩))))))));refine BY 22 Z Z (J (Fo Z Z Z Z) (AF ⟨rfl,?_⟩));refine Eg (DM Z Z (Ai (OW 10 (.d (Ad (decide (QK w ord i (k+1))))) rfl (by first | exact Lg (fun e=>h45 (by rw [e])) h52 ((CN hw hil2 hkl2 (fun e=>h45 (by rw [e]))).1 h63) | exact QO (.inr (.inr fun hh=>h63 ((CN hw hil2 hkl2 (fun e=>h45 (by rw [e]))).2 hh))) | exact QO (.inr (.inl (Classical.not_not.1 h52))) | exact QO (.inl (Int.ofNat.inj (Classical.not_not.1 h45)).symm)) (AH (AC Z Z (J (CG Z Z (IntWalk.i64_in _ (by omega)) rfl) (AD Z Z (AF ?_))))))));exact ⟨k+1,hkl,by omega,At hF [20,21,30,31] rfl (rfl) ⟨rfl,rfl,rfl,rfl,rfl,rfl,rfl,rfl,rfl,trivial⟩⟩
    ·refine AF ⟨rfl,?_⟩;refine D1 (AG [5,45] [] Z Z (fun _=>LB Z Z Z Z) (AG [11,45] [] Z Z (fun _=>LB Z Z Z Z) (D2 6 Z Z Z (BY 7 Z Z (BA Z Z Z Z (AF ⟨rfl,?_⟩))))));refine BY 8 Z Z (BA Z Z Z Z (AF ⟨rfl,?_⟩));refine BY 9 Z Z (BA Z Z Z Z (AF ⟨rfl,?_⟩));refine BY 10 Z Z (J (Fo Z Z Z Z) (AF ⟨rfl,?_⟩));refine BY 11 Z Z (AC Z Z (AF ⟨rfl,?_⟩));refine D1 (AG [1,52] [] Z Z (fun _=>LB Z Z Z Z) (AG [4,52] [] Z Z (fun _=>LB Z Z Z Z) (AG [9,52] [] Z Z (fun _=>LB Z Z Z Z) (AG [54,55,52] [] Z Z (fun _=>LB Z Z Z Z) ?_))));refine AG [56,52] [] Z Z (fun _=>LB Z Z Z Z) (AG [4,52] [] Z Z (fun _=>LB Z Z Z Z) (AG [11,52] [] Z Z (fun _=>LB Z Z Z Z) (AG [58,59,52] [] Z Z (fun _=>LB Z Z Z Z) (AG [60,52] [] Z Z (fun _=>LB Z Z Z Z) (D2 20 Z Z Z (BY 21 Z Z (BA Z Z Z Z (AF ⟨rfl,?_⟩))))))));refine BY 22 Z Z (J (Fo Z Z Z Z) (AF ⟨rfl,?_⟩));refine Eg (DM Z Z (Ai (OW 10 (.d (Ad (decide (QK w ord i (k+1))))) rfl (by first | exact Lg (fun e=>h45 (by rw [e])) h52 ((CN hw hil2 hkl2 (fun e=>h45 (by rw [e]))).1 h63) | exact QO (.inr (.inr fun hh=>h63 ((CN hw hil2 hkl2 (fun e=>h45 (by rw [e]))).2 hh))) | exact QO (.inr (.inl (Classical.not_not.1 h52))) | exact QO (.inl (Int.ofNat.inj (Classical.not_not.1 h45)).symm)) (AH (AC Z Z (J (CG Z Z (IntWalk.i64_in _ (by omega)) rfl) (AD Z Z (AF ?_))))))));exact ⟨k+1,hkl,by omega,At hF [20,21,30,31] rfl (rfl) ⟨rfl,rfl,rfl,rfl,rfl,rfl,rfl,rfl,rfl,trivial⟩⟩
   ·refine C5 (AE ?_);have hkn:n=k:=by have:=h39;omega
    subst hkn;refine AH (AC Z Z (AF ?_))
    first | refine Az rfl (fun h64=>?_) (fun h64=>?_) | refine Aw rfl (fun h64=>?_) (fun h64=>?_)
    ·refine AH ?_;refine AC Z Z (AD Z Z (AF (AH (AC Z Z (J (Ci Z Z (IntWalk.i64_in _ (by omega)) rfl) (LU 30 (.d (B7 ((n:Int) - 1 - ((d+1:Nat):Int)))) rfl (eqI (by omega)) (AD Z Z (AF ?_))))))));exact ⟨(d+1,some i),⟨hdl,hie2▸lrd_hit hil2 ((Om (Oo hw)).1 (by rw [hn];exact h64))⟩,by show n - (d+1)<n - d;omega,At hF [20,21,30,31] rfl (rfl) ⟨rfl,rfl,rfl,rfl,rfl,rfl,rfl,trivial⟩⟩
    ·refine Ai (AH (AC Z Z (J (Ci Z Z (IntWalk.i64_in _ (by omega)) rfl) (LU 30 (.d (B7 ((n:Int) - 1 - ((d+1:Nat):Int)))) rfl (eqI (by omega)) (AD Z Z (AF ?_))))));exact ⟨(d+1,o),⟨hdl,hie2▸R6 (hie3▸hLA) (by rw [Bool.eq_false_iff];exact fun hc=>h64 (by have:=(Om (Oo hw)).2 hc;rw [hn] at this;exact this))⟩,by show n - (d+1)<n - d;omega,At hF [20,21,30,31] rfl (rfl) ⟨rfl,rfl,rfl,rfl,rfl,rfl,rfl,trivial⟩⟩
  ·refine C5 (AE (AE ?_));have hdn:n - d=0:=by have:=h28;omega
   rw [hdn] at hLA;refine AH (AC Z Z ?_)
   first | refine J (D3 Z Z Z) ?_ | refine J (D4 Z Z Z) ?_
   refine AF ?_
   first | refine Az rfl (fun h67=>?_) (fun h67=>?_) | refine Aw rfl (fun h67=>?_) (fun h67=>?_)
   ·refine AE (AH (AD Z Z (AD Z Z (AF (Aq ?_)))));have hon:o=none:=by cases o with | none=>rfl | some x=>exact absurd h67 (by show ¬((x:Int)<0);omega)
    obtain ⟨g1,g2⟩:=Ok (hI.stop (by omega) (Mj fun i hi=>hLA.nn hon i (Nat.zero_le _) hi));exact ⟨_,[],[],An rfl,rfl,rfl,by rw [g2];rfl,rfl⟩
   ·refine Ai (AE ?_);obtain ⟨x,hx⟩:∃x,o=some x:=by cases o with | none=>exact absurd (show encR none<0 by decide) h67 | some x=>exact ⟨x,rfl⟩
    subst hx;obtain ⟨hx2,hxr,hxm⟩:=hLA.so x rfl;have hxl:x<n:=by omega
    have hnx:=Ep hx2 hxr (fun j hj=>hxm j (Nat.zero_le _) hj);obtain ⟨_,hxo,_⟩:=Eb hnx;refine OW 8 (.d (natD x)) Z Z (AH (AC Z Z (AC Z Z ?_)))
    first | refine J (BE (x) Z Z (rfl) (hxl) Tryz.underlying99 rfl MG rfl) ?_ | refine J (BF (x) Z Z (rfl) (hxl) rfl Tryz.underlying99 MG rfl) ?_
    refine U (Zcj Z Z Z Z Z (by rw [JN];exact hxl) JM rfl MG) (AF (AE (AH (AC Z Z (AC Z Z ?_)))))
    first | refine J (BE (x) Z Z (rfl) (I6 hx2) Tryz.underlying74 rfl Bw rfl) ?_ | refine J (BF (x) Z Z (rfl) (I6 hx2) rfl Tryz.underlying74 Bw rfl) ?_
    first | refine J (AZ Z Z AW rfl) ?_ | refine J (AX Z Z Z AW rfl) ?_ | refine J (AY Z Z (rfl) rfl AW rfl) ?_
    refine J (LE zl116 pl116 Z Z Z) (U (HZ 40 zl116 Z Z Z Z) (U (Bu Z Z Z Z Z Z Z sz116) ?_));refine AF (AE (AE (AH (AD Z Z (AF (BH (DG 40 0 1 41 Dc Z Z Z Z Z Z Z (Db (α:=Nat×List Nat) (fun q=>⟨110,[(1,(.ptr 20 0 0)),(4,(.d (CT (parts w)))),(5,(.own 21 0 n)),(6,(.own 30 0 gs.length)),(7,(.own 31 0 ord.length)),(8,(.d (natD x))),(12,(.ptr 40 0 0)),(13,(.d (natD q.1)))],[FE 20 w,(21,[.rowD 4 1 (JO n (ord++ [x]))]),(30,[.rowD 116 2 (gs.map KI)]),(31,[.rowD 3 1 (ord.map natD)]),(40,[.blk 116 [.d (stsD ((parts w).getD x [])),.own 41 0 q.2.length]]),(41,[.rowD 3 1 (q.2.map natD)])]⟩) (fun q=>q.1≤ord.length∧q.2=aftT w ord x q.1) (fun q=>ord.length - q.1) ((0,[])) (⟨Nat.zero_le _,rfl⟩) (At hF [20,21,30,31,40,41] Z Z ⟨rfl,rfl,rfl,rfl,rfl,rfl,rfl,rfl,trivial⟩) ?_))))))));rintro ⟨p,acc⟩ ⟨hp,hacc⟩;dsimp only at hp hacc⊢;refine AE (AE (AH (AC Z Z (AC Z Z ?_))))
    first | refine J (IB rfl Tryz.underlying52 rfl) ?_ | refine J (Bs Z Z Tryz.underlying52 rfl) ?_ | refine J (IE rfl Tryz.underlying52 rfl) ?_ | refine J (IG rfl Tryz.underlying52 rfl) ?_ | refine J (ID rfl Tryz.underlying52 rfl) ?_ | refine J (H4 rfl Tryz.underlying52 rfl) ?_
    first | refine J (D3 Z Z Z) ?_ | refine J (D4 Z Z Z) ?_
    refine AF ?_
    first | refine Az rfl (fun h79=>?_) (fun h79=>?_) | refine Aw rfl (fun h79=>?_) (fun h79=>?_)
    ·refine Ai (AE (BH (AE ?_)));have hpl2:p<ord.length:=F1 h79;have hyl:CO ord p<(parts w).length:=hI.good.lt _ (Er hpl2);have hal:acc.length≤4096:=by have:=SQ w ord x p;rw [←hacc] at this;omega
     refine FK [[],[],[],[1,2],[1,2,3],[],[],[],[6,7],[6,7,8],[5,6,7,8,9],[5,6,7,8,9,10],[0,1,2,3,4,5,6,7,8,9,10,11]] mixed rfl (D1 ?_)
     first | refine AG [1] [20] Z Z (fun _=>AB (BN Z Z AL rfl)) ?_ | refine AG [1] [20] Z Z (fun _=>AB (BO Z Z AL Z Z Z)) ?_ | refine AG [1] [20] Z Z (fun _=>AB (BP Z Z (rfl) rfl AL rfl)) ?_
     first | refine AG [4] [] Z Z (fun _=>AB (A8 Z Z)) ?_ | refine AI [4] Z Z (fun _=>AB (A8 Z Z)) ?_
     first | refine AG [8] [] Z Z (fun _=>AB (A8 Z Z)) ?_ | refine AI [8] Z Z (fun _=>AB (A8 Z Z)) ?_
     first | refine AG [83,84] [] Z Z (fun _=>AB (BE (x) Z Z (rfl) (I6 hx2) Tryz.underlying74 rfl Bw rfl)) ?_ | refine AI [83,84] Z Z (fun _=>AB (BE (x) Z Z (rfl) (I6 hx2) Tryz.underlying74 rfl Bw rfl)) ?_ | refine AG [83,84] [] Z Z (fun _=>AB (BF (x) Z Z (rfl) (I6 hx2) rfl Tryz.underlying74 Bw rfl)) ?_ | refine AI [83,84] Z Z (fun _=>AB (BF (x) Z Z (rfl) (I6 hx2) rfl Tryz.underlying74 Bw rfl)) ?_
     first | refine AG [85] [] Z Z (fun _=>AB (AZ Z Z AW rfl)) ?_ | refine AI [85] Z Z (fun _=>AB (AZ Z Z AW rfl)) ?_ | refine AG [85] [] Z Z (fun _=>AB (AX Z Z Z AW rfl)) ?_ | refine AI [85] Z Z (fun _=>AB (AX Z Z Z AW rfl)) ?_ | refine AG [85] [] Z Z (fun _=>AB (AY Z Z (rfl) rfl AW rfl)) ?_ | refine AI [85] Z Z (fun _=>AB (AY Z Z (rfl) rfl AW rfl)) ?_
     first | refine AG [4] [] Z Z (fun _=>AB (A8 Z Z)) ?_ | refine AI [4] Z Z (fun _=>AB (A8 Z Z)) ?_
     first | refine AG [7] [] Z Z (fun _=>AB (A8 Z Z)) ?_ | refine AI [7] Z Z (fun _=>AB (A8 Z Z)) ?_
     first | refine AG [13] [] Z Z (fun _=>AB (A8 Z Z)) ?_ | refine AI [13] Z Z (fun _=>AB (A8 Z Z)) ?_
     first | refine AG [88,89] [31] Z Z (fun _=>AB (BE (p) Z Z (rfl) (hpl2) Tryz.underlying52 rfl Dn rfl)) ?_ | refine AG [88,89] [31] Z Z (fun _=>AB (BF (p) Z Z (rfl) (hpl2) rfl Tryz.underlying52 Dn rfl)) ?_
     first | refine AG [90] [31] Z Z (fun _=>AB (AZ Z Z BV rfl)) ?_ | refine AG [90] [31] Z Z (fun _=>AB (AX Z Z Z BV rfl)) ?_ | refine AG [90] [31] Z Z (fun _=>AB (AY Z Z (Fc hpl2) rfl BV rfl)) ?_
     first | refine AG [87,91] [] Z Z (fun _=>AB (BE (CO ord p) Z Z (rfl) (I6 hyl) Tryz.underlying74 rfl Bw rfl)) ?_ | refine AI [87,91] Z Z (fun _=>AB (BE (CO ord p) Z Z (rfl) (I6 hyl) Tryz.underlying74 rfl Bw rfl)) ?_ | refine AG [87,91] [] Z Z (fun _=>AB (BF (CO ord p) Z Z (rfl) (I6 hyl) rfl Tryz.underlying74 Bw rfl)) ?_ | refine AI [87,91] Z Z (fun _=>AB (BF (CO ord p) Z Z (rfl) (I6 hyl) rfl Tryz.underlying74 Bw rfl)) ?_
     first | refine AG [92] [] Z Z (fun _=>AB (AZ Z Z AW rfl)) ?_ | refine AI [92] Z Z (fun _=>AB (AZ Z Z AW rfl)) ?_ | refine AG [92] [] Z Z (fun _=>AB (AX Z Z Z AW rfl)) ?_ | refine AI [92] Z Z (fun _=>AB (AX Z Z Z AW rfl)) ?_ | refine AG [92] [] Z Z (fun _=>AB (AY Z Z (rfl) rfl AW rfl)) ?_ | refine AI [92] Z Z (fun _=>AB (AY Z Z (rfl) rfl AW rfl)) ?_
     refine D2 12 Z Z Z (BY 13 Z Z (J (Bz (Kt w ((parts w).getD x []) ((parts w).getD (CO ord p) []) hl (hpl _) (hpl _)) Z Z) (AF ⟨rfl,?_⟩)));refine Eg ?_
     first | refine Az rfl (fun h94=>?_) (fun h94=>?_) | refine Aw rfl (fun h94=>?_) (fun h94=>?_)
     ·refine AH ?_
      first | refine J (A2 rfl Cs Z Z Z) ?_ | refine J (A4 rfl Cs Z Z Z) ?_ | refine J (A5 rfl Cs Z Z Z) ?_ | refine J (A3 rfl Cs Z Z Z) ?_ | refine J (A1 rfl Cs Z Z Z) ?_
      first | refine J (AZ Z Z Av rfl) ?_ | refine J (AX Z Z Z Av rfl) ?_ | refine J (AY Z Z (rfl) rfl Av rfl) ?_
      refine AC Z Z (U (Fq 42 Dc Z Z Z Z Z Z Z Z) ?_)
      first | refine U (IC (acc) ([p]) Z Z Z Z Z Z Z Z Dc (by simp only [List.length_singleton];omega) Z Z Z Z) ?_ | refine U (Iu (acc) ([p]) Z Z Z Z Z Z (fun _=>rfl) Dc (by simp only [List.length_singleton];omega) Z Z Z Z) ?_
      first | refine J (A2 rfl Cs Z Z Z) ?_ | refine J (A4 rfl Cs Z Z Z) ?_ | refine J (A5 rfl Cs Z Z Z) ?_ | refine J (A3 rfl Cs Z Z Z) ?_ | refine J (A1 rfl Cs Z Z Z) ?_
      refine U (Bu Z Z Z Z Z Z Z Bv) (AF (AH (AC Z Z (J (CG Z Z (IntWalk.i64_in _ (by omega)) rfl) (AD Z Z (AF ?_))))));exact ⟨(p+1,acc++ [p]),⟨hpl2,by show _=aftT w ord x (p+1);rw [SS ((CN hw hx2 hyl (fun e=>hxo (by rw [e];exact Er hpl2))).1 h94),hacc]⟩,by show ord.length - (p+1)<ord.length - p;omega,At hF [20,21,30,31,40,41] rfl (rfl) ⟨rfl,rfl,rfl,rfl,rfl,rfl,rfl,rfl,trivial⟩⟩
     ·refine Ai (AH (AC Z Z (J (CG Z Z (IntWalk.i64_in _ (by omega)) rfl) (AD Z Z (AF ?_)))));exact ⟨(p+1,acc),⟨hpl2,by show _=aftT w ord x (p+1);rw [QG (fun hh=>h94 ((CN hw hx2 hyl (fun e=>hxo (by rw [e];exact Er hpl2))).2 hh)),hacc]⟩,by show ord.length - (p+1)<ord.length - p;omega,At hF [20,21,30,31,40,41] rfl (rfl) ⟨rfl,rfl,rfl,rfl,rfl,rfl,rfl,rfl,trivial⟩⟩
    ·refine C5 (AE ?_);have hpe:p=ord.length:=by have:=h79;omega
     have hac:acc=FN (depL w) ord x ord.length:=by rw [hacc,hpe];rfl
     refine C3 (ys:=acc.map natD) 40 0 1 41 Z Z Z (Nat.le_of_eq (by rw [List.length_map])) (List.take_of_length_le (by rw [List.length_map];exact Nat.le_refl _)) Z Z Z Z Z Z ?_;rw [hac];refine AH (AC Z Z ?_)
     first | refine J (BN Z Z Qa rfl) ?_ | refine J (BO Z Z Qa Z Z Z) ?_ | refine J (BP Z Z (rfl) rfl Qa rfl) ?_
     refine U (Fq 43 O1 Z Z Z Z Z Z Z Z) ?_
     first | refine U (IC (gs) ([(⟨(parts w).getD x [],FN (depL w) ord x ord.length⟩:Grp)]) Z Z Z Z Z Z Z Z O1 (by simp only [List.length_singleton];omega) Z Z Z Z) ?_ | refine U (Iu (gs) ([(⟨(parts w).getD x [],FN (depL w) ord x ord.length⟩:Grp)]) Z Z Z Z Z Z (fun _=>rfl) O1 (by simp only [List.length_singleton];omega) Z Z Z Z) ?_
     refine AD Z Z (AF (AH (AC Z Z (AC Z Z (U (Fq 44 Dc Z Z Z Z Z Z Z Z) ?_)))))
     first | refine U (IC (ord) ([x]) Z Z Z Z Z Z Z Z Dc (by simp only [List.length_singleton];omega) Z Z Z Z) ?_ | refine U (Iu (ord) ([x]) Z Z Z Z Z Z (fun _=>rfl) Dc (by simp only [List.length_singleton];omega) Z Z Z Z) ?_
     refine AD Z Z (AF ?_);exact ⟨(ord++ [x],gs++ [⟨(parts w).getD x [],FN (depL w) ord x ord.length⟩]),⟨hI.next (by omega) hnx,by show _=grpS w (ord++ [x]);rw [Kp,hgs]⟩,by show n - (ord++ [x]).length<n - ord.length;rw [List.length_append,List.length_singleton];omega,At hF [20,21,30,31] rfl (rfl) ⟨rfl,rfl,rfl,rfl,rfl,trivial⟩⟩
 ·refine C5 (AE ?_);obtain ⟨g1,g2⟩:=Ld (hI.fin (by have h1:=h23;have h2:gs.length=ord.length:=(by rw [hgs,HU]);omega));refine OY (emb:=KI) 6 30 gs Z Z Z Z Z Z Z (AH (AC Z Z (AD Z Z (AD Z Z (AF (Aq ?_))))));exact ⟨_,[],[],An rfl,rfl,rfl,by rw [if_pos g2,g1,hgs],rfl⟩
end Go.Proofs.YtlmedakidpaeeaaGreat
