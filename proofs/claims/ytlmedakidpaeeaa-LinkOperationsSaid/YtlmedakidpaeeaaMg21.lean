/- Layer 27: the reference's insert and depends. -/
import Derived.Test.YtlmedakidpaeeaaMg20
namespace Go.Proofs.Ytlmedakidpaeeaa
open Go.RowKit
set_option maxRecDepth 100000
theorem Ng:∀(a b:List UInt8),Op.bytesLess a b=decide (a<b)
 | [],[] =>by simp [Op.bytesLess]
 | [],_::_=>by simp [Op.bytesLess]
 | _::_,[] =>by simp [Op.bytesLess]
 | a::x,b::y=>by
  simp only [Op.bytesLess,Ng x y];rw [Bool.eq_iff_iff]
  simp [List.cons_lt_cons_iff]
theorem QB (a b:St):AV.d (.raw (.bool (Op.bytesLess (⟨a.toArray⟩:ByteArray).toList (⟨b.toArray⟩:ByteArray).toList)))= .d (Ar (decide (a<b))):=by
 rw [Lib.toList_data,Lib.toList_data];show AV.d (.raw (.bool (Op.bytesLess a b)))=_;rw [Ng]
def Hg (ins:Bool) (l:List St) (x:St):List St:=if ins then l else Bf l x
theorem Kr {l:List St} {k:Nat} (h:k<l.length):l.drop k=l.getD k []::l.drop (k+1):=by
 rw [List.drop_eq_getElem_cons h,List.getD_eq_getElem?_getD,List.getElem?_eq_getElem h];rfl
theorem QT {out l:List St} {k:Nat} {x:St} (h:k<l.length) (hx:x<l.getD k []) (e:out++Hg false (l.drop k) x=Bf l x):(out++ [x]++ [l.getD k []])++Hg true (l.drop (k+1)) x=Bf l x:=by
 rw [←e,Kr h];show (out++ [x]++ [l.getD k []])++l.drop (k+1)=out++Bf (l.getD k []::l.drop (k+1)) x;rw [show Bf (l.getD k []::l.drop (k+1)) x=x::l.getD k []::l.drop (k+1) by rw [Bf,if_pos hx]]
 simp
theorem O9 {out l:List St} {k:Nat} {x:St} (h:k<l.length) (hx:¬x<l.getD k []) (e:out++Hg false (l.drop k) x=Bf l x):(out++ [l.getD k []])++Hg false (l.drop (k+1)) x=Bf l x:=by
 rw [←e,Kr h];simp only [Hg,Bf,if_neg hx]
 simp
theorem Oa {out l:List St} {k:Nat} {x:St} (h:k<l.length) (e:out++Hg true (l.drop k) x=Bf l x):(out++ [l.getD k []])++Hg true (l.drop (k+1)) x=Bf l x:=by
 rw [←e,Kr h]
 simp [Hg]
theorem MI {out l:List St} {k:Nat} {x:St} {ins:Bool} (e:out++Hg ins (l.drop k) x=Bf l x):out.length≤l.length+1:=by
 have:=congrArg List.length e;rw [List.length_append,DR] at this;omega
theorem EI (l:List St) (x:St) (hl:l.length≤100000):B4 Try.prog 54 [.d (stsD l),.d (AU x)] (stsD (Bf l x)):=by
 refine DY Try.func54 Z Z Try.ntmps54 Z Z Z fun F hF=>(AG (AI ?_));refine AD Z Z (AF (AG (AI (AD Z Z (AF (AG (AI (AD Z Z ?_))))))));refine AF (AG (AG (AI (AD Z Z (AF (B9 (Fg 5 1 Bd Z Z Z Z (Fm (α:=Nat×List St×Bool) (fun q=>⟨42,[(0,.d (stsD l)),(1,.d (AU x)),(5,(.own 1 0 q.2.1.length)),(6,(.d (Ar q.2.2))),(7,(.d (natD q.1)))],[(1,[.rowD 9 1 (q.2.1.map AU)])]⟩) (fun q=>q.1≤l.length∧q.2.1++Hg q.2.2 (l.drop q.1) x=Bf l x) (fun q=>l.length - q.1) ((0,[],false)) (⟨Nat.zero_le _,by simp [Hg]⟩) (BK hF [1] Z Z ⟨rfl,rfl,rfl,rfl,rfl,trivial⟩) ?_))))))));rintro ⟨k,out,ins⟩ ⟨hk,he⟩;dsimp only at hk he⊢;refine AG (AG (AI (AC Z Z (AC Z Z (J (CG rfl (List.length_map ..) Try.underlying32 rfl) ?_)))))
 first | refine J (Eo Z Z Z) ?_ | refine J (Ep Z Z Z) ?_
 refine AF ?_
 first | refine BG rfl (fun h11=>?_) (fun h11=>?_) | refine BB rfl (fun h11=>?_) (fun h11=>?_)
 ·refine An (AG (B9 (AG (AG ?_))));have hkl:k<l.length:=H9 h11;have hol:=MI he;refine AI (AC Z Z ?_)
  first | refine J (El Z Z) ?_ | refine J (Ek Z Z) ?_
  refine AC Z Z ?_
  first | refine KL 16 rfl (fun h16=>?_) (fun h16=>?_) | refine JH 16 rfl (fun h16=>?_) (fun h16=>?_)
  ·refine Ab Z Z Z (AC Z Z (Ab Z Z Z (AC Z Z (Ab Z Z Z (AC Z Z (Ab Z Z Z ?_))))))
   first | refine J (BM (k) Z Z (rfl) (D1 hkl) Try.underlying32 rfl ER rfl) ?_ | refine J (BN (k) Z Z (rfl) (D1 hkl) rfl Try.underlying32 ER rfl) ?_
   refine Ab Z Z Z ?_
   first | refine J (AY Z Z AZ rfl) ?_ | refine J (AW Z Z Z AZ rfl) ?_ | refine J (AX Z Z (rfl) rfl AZ rfl) ?_
   refine Ab Z Z Z ?_
   first | refine J (Eo Z Z Z) ?_ | refine J (Ep Z Z Z) ?_
   refine Mx 22 (.d (Ar (decide (x<l.getD k [])))) rfl (QB _ _) (J (H8 Z Z Z Z) (AF ?_))
   first | refine BG rfl (fun h23=>?_) (fun h23=>?_) | refine BB rfl (fun h23=>?_) (fun h23=>?_)
   ·refine AG (AI (AC Z Z (AC Z Z (U (Gl 21 Bd Z Z Z Z Z Z Z Z) ?_))))
    first | refine U (JE (out) ([x]) Z Z Z Z Z Z Z Z Bd (by simp only [List.length_singleton];omega) Z Z Z Z) ?_ | refine U (KM (out) ([x]) Z Z Z Z Z Z (fun _=>rfl) Bd (by simp only [List.length_singleton];omega) Z Z Z Z) ?_
    refine AD Z Z (AF (AI (AD Z Z (AF (AI (AC Z Z (AC Z Z (AC Z Z ?_))))))))
    first | refine J (BM (k) Z Z (rfl) (D1 hkl) Try.underlying32 rfl ER rfl) ?_ | refine J (BN (k) Z Z (rfl) (D1 hkl) rfl Try.underlying32 ER rfl) ?_
    first | refine J (AY Z Z AZ rfl) ?_ | refine J (AW Z Z Z AZ rfl) ?_ | refine J (AX Z Z (rfl) rfl AZ rfl) ?_
    refine U (Gl 22 Bd Z Z Z Z Z Z Z Z) ?_
    first | refine U (JE (out++ [x]) ([l.getD k []]) Z Z Z Z Z Z Z Z Bd (by simp only [List.length_append,List.length_singleton];omega) Z Z Z Z) ?_ | refine U (KM (out++ [x]) ([l.getD k []]) Z Z Z Z Z Z (fun _=>rfl) Bd (by simp only [List.length_append,List.length_singleton];omega) Z Z Z Z) ?_
    refine AD Z Z (AF (AI (AC Z Z (J (DA Z Z (IntWalk.i64_in _ (by omega)) rfl) (AD Z Z (AF ?_))))));exact ⟨(k+1,_,true),⟨hkl,QT hkl h23 (by have:ins=false:=(by simpa using h16);rw [this] at he;exact he)⟩,by show l.length - (k+1)<l.length - k;omega,BK hF [1] rfl (rfl) ⟨rfl,rfl,rfl,rfl,rfl,trivial⟩⟩
   ·refine An (AI (AC Z Z (AC Z Z (AC Z Z ?_))))
    first | refine J (BM (k) Z Z (rfl) (D1 hkl) Try.underlying32 rfl ER rfl) ?_ | refine J (BN (k) Z Z (rfl) (D1 hkl) rfl Try.underlying32 ER rfl) ?_
    first | refine J (AY Z Z AZ rfl) ?_ | refine J (AW Z Z Z AZ rfl) ?_ | refine J (AX Z Z (rfl) rfl AZ rfl) ?_
    refine U (Gl 22 Bd Z Z Z Z Z Z Z Z) ?_
    first | refine U (JE (out) ([l.getD k []]) Z Z Z Z Z Z Z Z Bd (by simp only [List.length_singleton];omega) Z Z Z Z) ?_ | refine U (KM (out) ([l.getD k []]) Z Z Z Z Z Z (fun _=>rfl) Bd (by simp only [List.length_singleton];omega) Z Z Z Z) ?_
    refine AD Z Z (AF (AI (AC Z Z (J (DA Z Z (IntWalk.i64_in _ (by omega)) rfl) (AD Z Z (AF ?_))))));exact ⟨(k+1,_,ins),⟨hkl,by have:ins=false:=(by simpa using h16);rw [this] at he⊢;exact O9 hkl h23 he⟩,by show l.length - (k+1)<l.length - k;omega,BK hF [1] rfl (rfl) ⟨rfl,rfl,rfl,rfl,rfl,trivial⟩⟩
  ·refine BH Z Z Z Z (BH Z Z Z Z (BH Z Z Z Z (BH Z Z Z Z (BH Z Z Z Z ?_))));refine BH Z Z Z Z (J (GR Z Z Z Z) (AF (Dk Z Z (An (AI (AC Z Z (AC Z Z (AC Z Z ?_))))))))
   first | refine J (BM (k) Z Z (rfl) (D1 hkl) Try.underlying32 rfl ER rfl) ?_ | refine J (BN (k) Z Z (rfl) (D1 hkl) rfl Try.underlying32 ER rfl) ?_
   first | refine J (AY Z Z AZ rfl) ?_ | refine J (AW Z Z Z AZ rfl) ?_ | refine J (AX Z Z (rfl) rfl AZ rfl) ?_
   refine U (Gl 22 Bd Z Z Z Z Z Z Z Z) ?_
   first | refine U (JE (out) ([l.getD k []]) Z Z Z Z Z Z Z Z Bd (by simp only [List.length_singleton];omega) Z Z Z Z) ?_ | refine U (KM (out) ([l.getD k []]) Z Z Z Z Z Z (fun _=>rfl) Bd (by simp only [List.length_singleton];omega) Z Z Z Z) ?_
   refine AD Z Z (AF (AI (AC Z Z (J (DA Z Z (IntWalk.i64_in _ (by omega)) rfl) (AD Z Z (AF ?_))))));exact ⟨(k+1,_,ins),⟨hkl,by have:ins=true:=(by simpa using h16);rw [this] at he⊢;exact Oa hkl he⟩,by show l.length - (k+1)<l.length - k;omega,BK hF [1] rfl (rfl) ⟨rfl,rfl,rfl,rfl,rfl,trivial⟩⟩
 ·refine Eg (AG (AG ?_));have hke:k=l.length:=by have:=h11;omega
  have hol:=MI he;rw [hke,List.drop_length] at he;have hin1:ins=false ->out++ [x] =Bf l x:=fun e=>by rw [e] at he;exact he
  have hin0:ins=true ->out=Bf l x:=fun e=>by rw [e] at he;simpa [Hg] using he
  refine AI (AC Z Z ?_)
  first | refine J (El Z Z) ?_ | refine J (Ek Z Z) ?_
  refine AF ?_
  first | refine BG rfl (fun h36=>?_) (fun h36=>?_) | refine BB rfl (fun h36=>?_) (fun h36=>?_)
  ·refine AI (AC Z Z (AC Z Z (U (Gl 23 Bd Z Z Z Z Z Z Z Z) ?_)))
   first | refine U (JE (out) ([x]) Z Z Z Z Z Z Z Z Bd (by simp only [List.length_singleton];omega) Z Z Z Z) ?_ | refine U (KM (out) ([x]) Z Z Z Z Z Z (fun _=>rfl) Bd (by simp only [List.length_singleton];omega) Z Z Z Z) ?_
   refine AD Z Z (AF (AG ?_))
   first | refine Zck (emb:=AU) 5 1 (out++ [x]) Z Z Z Z Z Z Z ?_ | refine Zck (emb:=AU) 5 1 out Z Z Z Z Z Z Z ?_
   refine AI (AC Z Z (AD Z Z (AF (Ay ?_))));exact ⟨_,[],[],Av rfl,rfl,rfl,by first | rw [hin1 (by simpa using h36)] | rw [hin0 (by simpa using h36)],rfl⟩
  ·refine An (AG ?_)
   first | refine Zck (emb:=AU) 5 1 (out++ [x]) Z Z Z Z Z Z Z ?_ | refine Zck (emb:=AU) 5 1 out Z Z Z Z Z Z Z ?_
   refine AI (AC Z Z (AD Z Z (AF (Ay ?_))));exact ⟨_,[],[],Av rfl,rfl,rfl,by first | rw [hin1 (by simpa using h36)] | rw [hin0 (by simpa using h36)],rfl⟩
def Ot (K:List Lw) (g g2:List St):Prop:=∃l∈K,l.t=1∧l.f∈g∧l.r∈g2
noncomputable instance (K:List Lw) (g g2:List St):Decidable (Ot K g g2):=Classical.propDecidable _
abbrev It (f:Nat) (w:Ws):Nat×List AJ:=(f,[.blk 35 [.d (stsD w.R),.d (Pz w.K)]])
theorem Jy (w:Ws) (g g2:List St) (hl:w.K.length≤2000000) (hg:g.length≤2000000) (hg2:g2.length≤2000000):B4 Try.prog 56 [.d (LH w),.d (stsD g),.d (stsD g2)] (Ar (decide (Ot w.K g g2))):=by
 refine DY Try.func56 Z Z Try.ntmps56 Z Z Z fun F hF=>(AG (AI (U (Iz 20 Z Z Z Z Z Z Z) ?_)));refine AD Z Z (AF (AG (AG (AI (AD Z Z (AF (B9 (Fm (α:=Nat) (fun k=>⟨36,[(1,.d (stsD g)),(2,.d (stsD g2)),(3,(.ptr 20 0 0)),(7,(.d (natD k)))],[It 20 w]⟩) (fun k=>k≤w.K.length∧¬Ot (w.K.take k) g g2) (fun k=>w.K.length - k) (0) (⟨Nat.zero_le _,fun ⟨l,hl,_⟩=>by simp at hl⟩) (BK hF [20] Z Z ⟨rfl,rfl,rfl,rfl,trivial⟩) ?_))))))));rintro k ⟨hk,hx⟩;refine AG (AG (AI (AC Z Z ?_)))
 first | refine J (A2 rfl Ah Z Z Z) ?_ | refine J (A4 rfl Ah Z Z Z) ?_ | refine J (A5 rfl Ah Z Z Z) ?_ | refine J (A3 rfl Ah Z Z Z) ?_ | refine J (A1 rfl Ah Z Z Z) ?_
 first | refine J (AY Z Z Aw rfl) ?_ | refine J (AW Z Z Z Aw rfl) ?_ | refine J (AX Z Z (rfl) rfl Aw rfl) ?_
 refine J (CG rfl (List.length_map ..) Try.underlying33 rfl) ?_
 first | refine J (Eo Z Z Z) ?_ | refine J (Ep Z Z Z) ?_
 refine AF ?_
 first | refine BG rfl (fun h13=>?_) (fun h13=>?_) | refine BB rfl (fun h13=>?_) (fun h13=>?_)
 ·refine An (AG (B9 (AG ?_)));have hkl:k<w.K.length:=H9 h13;refine AI ?_
  first | refine J (A2 rfl Ah Z Z Z) ?_ | refine J (A4 rfl Ah Z Z Z) ?_ | refine J (A5 rfl Ah Z Z Z) ?_ | refine J (A3 rfl Ah Z Z Z) ?_ | refine J (A1 rfl Ah Z Z Z) ?_
  first | refine J (AY Z Z Aw rfl) ?_ | refine J (AW Z Z Z Aw rfl) ?_ | refine J (AX Z Z (rfl) rfl Aw rfl) ?_
  refine AC Z Z ?_
  first | refine J (BM (k) Z Z (rfl) (DG hkl) Try.underlying33 rfl C3 rfl) ?_ | refine J (BN (k) Z Z (rfl) (DG hkl) rfl Try.underlying33 C3 rfl) ?_
  first | refine J (BW Z Z As rfl) ?_ | refine J (BX Z Z As Z Z Z) ?_ | refine J (BY Z Z (rfl) rfl As rfl) ?_
  refine U (IF 25 zl71 Z Z Z Z) (U (Bu Z Z Z Z Z Z Z C3) (AF (AG (AI ?_))))
  first | refine J (A2 rfl KK Z Z Z) ?_ | refine J (A4 rfl KK Z Z Z) ?_ | refine J (A5 rfl KK Z Z Z) ?_ | refine J (A3 rfl KK Z Z Z) ?_ | refine J (A1 rfl KK Z Z Z) ?_
  first | refine J (AY Z Z B8 rfl) ?_ | refine J (AW Z Z Z B8 rfl) ?_ | refine J (AX Z Z (rfl) rfl B8 rfl) ?_
  first | refine J (FP Z Z Z) ?_ | refine J (FX Z Z Z) ?_ | refine J (Et Z Z Z) ?_ | refine J (FQ Try.underlying3 Z Z Z) ?_ | refine J (FT Try.underlying3 Z Z Z) ?_ | refine J (fSq Try.underlying3 Z Z) ?_ | refine J (FW Try.underlying3 Z Z) ?_ | refine J (FV Try.underlying3 Z Z) ?_ | refine J (FR Try.underlying3 Z Z Z) ?_ | refine J (FU Try.underlying3 Z Z) ?_
  refine AC Z Z ?_
  first | refine KL 24 rfl (fun h24=>?_) (fun h24=>?_) | refine JH 24 rfl (fun h24=>?_) (fun h24=>?_)
  ·refine Ab Z Z Z (AC Z Z (Ab Z Z Z ?_))
   first | refine J (A2 rfl CC Z Z Z) ?_ | refine J (A4 rfl CC Z Z Z) ?_ | refine J (A5 rfl CC Z Z Z) ?_ | refine J (A3 rfl CC Z Z Z) ?_ | refine J (A1 rfl CC Z Z Z) ?_
   refine Ab Z Z Z ?_
   first | refine J (AY Z Z AZ rfl) ?_ | refine J (AW Z Z Z AZ rfl) ?_ | refine J (AX Z Z (rfl) rfl AZ rfl) ?_
   refine Ab Z Z Z (J (DW (Bj g (w.K[k]).f hg) Z Z) (J (H8 Z Z Z Z) (AC Z Z ?_)))
   first | refine KL 30 rfl (fun h30=>?_) (fun h30=>?_) | refine JH 30 rfl (fun h30=>?_) (fun h30=>?_)
   ·refine Ab Z Z Z (AC Z Z (Ab Z Z Z ?_))
    first | refine J (A2 rfl Cd Z Z Z) ?_ | refine J (A4 rfl Cd Z Z Z) ?_ | refine J (A5 rfl Cd Z Z Z) ?_ | refine J (A3 rfl Cd Z Z Z) ?_ | refine J (A1 rfl Cd Z Z Z) ?_
    refine Ab Z Z Z ?_
    first | refine J (AY Z Z AZ rfl) ?_ | refine J (AW Z Z Z AZ rfl) ?_ | refine J (AX Z Z (rfl) rfl AZ rfl) ?_
    refine Ab Z Z Z (J (DW (Bj g2 (w.K[k]).r hg2) Z Z) (J (H8 Z Z Z Z) (AF ?_)))
    first | refine BG rfl (fun h35=>?_) (fun h35=>?_) | refine BB rfl (fun h35=>?_) (fun h35=>?_)
    ·refine AG (AI (AD Z Z (AF (Ay ?_))));exact ⟨_,[],[],Av rfl,rfl,rfl,by rw [decide_eq_true (show Ot w.K g g2 from ⟨_,List.getElem_mem hkl,h24,h30,h35⟩)],rfl⟩
    ·refine An (AI (AC Z Z (J (DA Z Z (IntWalk.i64_in _ (by omega)) rfl) (AD Z Z (AF ?_)))));exact ⟨k+1,⟨hkl,fun ⟨l,hl,h1,h2,h3⟩=>by rw [List.take_succ_eq_append_getElem hkl] at hl;exact (List.mem_append.1 hl).elim (fun hh=>hx ⟨l,hh,h1,h2,h3⟩) fun e=>by (rw [List.mem_singleton.1 e] at h1 h2 h3;first | exact h35 h3 | exact h30 h2 | exact h24 h1)⟩,by omega,BK hF [20] rfl (rfl) ⟨rfl,rfl,rfl,rfl,trivial⟩⟩
   ·refine BH Z Z Z Z (BH Z Z Z Z (BH Z Z Z Z (BH Z Z Z Z ?_)));refine J (GR Z Z Z Z) (AF (Dk Z Z (An (AI (AC Z Z (J (DA Z Z (IntWalk.i64_in _ (by omega)) rfl) (AD Z Z (AF ?_))))))));exact ⟨k+1,⟨hkl,fun ⟨l,hl,h1,h2,h3⟩=>by rw [List.take_succ_eq_append_getElem hkl] at hl;exact (List.mem_append.1 hl).elim (fun hh=>hx ⟨l,hh,h1,h2,h3⟩) fun e=>by (rw [List.mem_singleton.1 e] at h1 h2 h3;first | exact h35 h3 | exact h30 h2 | exact h24 h1)⟩,by omega,BK hF [20] rfl (rfl) ⟨rfl,rfl,rfl,rfl,trivial⟩⟩
  ·refine BH Z Z Z Z ?_;refine BH Z Z Z Z (BH Z Z Z Z (BH Z Z Z Z (J (GR Z Z Z Z) (AC Z Z (BH Z Z Z Z (BH Z Z Z Z (BH Z Z Z Z (BH Z Z Z Z ?_))))))));refine J (GR Z Z Z Z) (AF (Dk Z Z (An (AI (AC Z Z (J (DA Z Z (IntWalk.i64_in _ (by omega)) rfl) (AD Z Z (AF ?_))))))));exact ⟨k+1,⟨hkl,fun ⟨l,hl,h1,h2,h3⟩=>by rw [List.take_succ_eq_append_getElem hkl] at hl;exact (List.mem_append.1 hl).elim (fun hh=>hx ⟨l,hh,h1,h2,h3⟩) fun e=>by (rw [List.mem_singleton.1 e] at h1 h2 h3;first | exact h35 h3 | exact h30 h2 | exact h24 h1)⟩,by omega,BK hF [20] rfl (rfl) ⟨rfl,rfl,rfl,rfl,trivial⟩⟩
 ·refine Eg (AG (AI (AD Z Z (AF (Ay ?_)))));exact ⟨_,[],[],Av rfl,rfl,rfl,by rw [decide_eq_false (show ¬Ot w.K g g2 by rw [←List.take_of_length_le (i:=k) (l:=w.K) (by have:=h13;omega)];exact hx)],rfl⟩
structure JZ (w:Ws) (a:St) (out:List St):Prop where
 srt:Gm out
 ha:a∈out
 con:∀y∈out,y∈w.R∧Gp w a y
def cloL (out:List St) (l:Lw):Prop:=l.t=0 ->(l.f∈out↔l.r∈out)
structure Hn (w:Ws) (a:St) (out0:List St) (k:Nat) (out:List St) (grew:Bool):Prop where
 g:JZ w a out
 no:grew=false ->out=out0∧∀l∈w.K.take k,cloL out l
 yes:grew=true ->out0.length<out.length
theorem JZ.zero {w:Ws} {a:St} (h:a∈w.R):JZ w a [a]:=⟨by simp,by simp,fun y hy=>by rw [List.mem_singleton.1 hy];exact ⟨h,.refl⟩⟩
theorem JZ.len {w:Ws} {a:St} {out:List St} (h:JZ w a out):out.length≤w.R.length:=(EC h.srt).length_le_of_subset fun y hy=>(h.con y hy).1
theorem Hn.zero {w:Ws} {a:St} {out:List St} (h:JZ w a out):Hn w a out 0 out false:=⟨h,fun _=>⟨rfl,fun l hl=>by simp at hl⟩,fun e=>by cases e⟩
theorem Hn.le {w:Ws} {a:St} {out0 out:List St} {k:Nat} {grew:Bool} (h:Hn w a out0 k out grew):out0.length≤out.length:=by
 cases hg:grew with
 | false=>rw [(h.no hg).1];exact Nat.le_refl _
 | true=>exact Nat.le_of_lt (h.yes hg)
theorem Hn.ins {w:Ws} {a:St} {out0 out:List St} {k k2:Nat} {grew:Bool} (h:Hn w a out0 k out grew) {y z:St} (hy:y∉out) (hz:z∈out) (hc:JY w z y) (hR:y∈w.R):Hn w a out0 k2 (Bf out y) true:=by
 refine ⟨⟨LS h.g.srt hy,LE.2 (.inr h.g.ha),fun x hx=>?_⟩,(fun e=>by cases e),fun _=>by rw [DR];exact Nat.lt_succ_of_le h.le⟩;rcases LE.1 hx with rfl | hx
 ·exact ⟨hR,(h.g.con z hz).2.tail hc⟩
 ·exact h.g.con x hx
theorem Hn.pass {w:Ws} {a:St} {out0 out:List St} {k:Nat} {grew:Bool} (h:Hn w a out0 k out grew) (hk:k<w.K.length) (hc:cloL out w.K[k]):Hn w a out0 (k+1) out grew:=by
 refine ⟨h.g,fun e=>⟨(h.no e).1,fun l hl=>?_⟩,h.yes⟩;rw [List.take_succ_eq_append_getElem hk] at hl;rcases List.mem_append.1 hl with hl | hl
 ·exact (h.no e).2 l hl
 ·rw [List.mem_singleton.1 hl];exact hc
theorem JZ.fin {w:Ws} (hw:Ba w) {a:St} {out:List St} (h:JZ w a out) (hc:∀l∈w.K,cloL out l):out=cls w a:=by
 refine KY h.srt (Gk hw a) fun x=>?_;rw [NW];refine ⟨h.con x,fun ⟨_,hx⟩=>?_⟩;refine BP.closed (p:=fun y=>y∈out) (fun p q hp hq=>?_) h.ha hx;rcases hq with hq | hq
 ·exact (hc _ hq rfl).1 hp
 ·exact (hc _ hq rfl).2 hp
set_option maxHeartbeats 1000000 in
theorem O5 (w:Ws) (hw:Ba w) (a:St) (hl:w.K.length≤2000000):B4 Try.prog 72 [.d (LH w),.d (AU a)] (if a∈w.R then stsD (cls w a) else .sl (some true) []):=by
 have hfew:=hw.few;refine DY Try.func72 Z Z Try.ntmps72 Z Z Z fun F hF=>(AG (AI (U (Iz 20 Z Z Z Z Z Z Z) (AD Z Z (AF (AG (AG (AI ?_))))))))
 first | refine J (A2 rfl Ag Z Z Z) ?_ | refine J (A4 rfl Ag Z Z Z) ?_ | refine J (A5 rfl Ag Z Z Z) ?_ | refine J (A3 rfl Ag Z Z Z) ?_ | refine J (A1 rfl Ag Z Z Z) ?_
 first | refine J (AY Z Z AR rfl) ?_ | refine J (AW Z Z Z AR rfl) ?_ | refine J (AX Z Z (rfl) rfl AR rfl) ?_
 refine AC Z Z (J (DW (Bj w.R a (by omega)) Z Z) ?_)
 first | refine J (El Z Z) ?_ | refine J (Ek Z Z) ?_
 refine AF ?_
 first | refine BG rfl (fun h13=>?_) (fun h13=>?_) | refine BB rfl (fun h13=>?_) (fun h13=>?_)
 ·refine AG (AI (AD Z Z (AF (Ay ?_))));exact ⟨_,[],[],Av rfl,rfl,rfl,by rw [if_neg h13],rfl⟩
 ·refine An (AG ?_);have haR:a∈w.R:=Classical.not_not.1 h13;refine AI (AC Z Z (U (Gl 25 Bd Z Z Z Z Z Z Z Z) (F6 (emb:=AU) 15 25 [a] Z Z Z Z Z Z Z ?_)));refine AD Z Z (AF (AG (AG (AI (AD Z Z (AF (B9 (Fm (α:=List St×Bool) (fun q=>⟨63,[(2,(.ptr 20 0 0)),(5,(.d (stsD q.1))),(6,(.d (Ar q.2)))],[It 20 w]⟩) (fun q=>JZ w a q.1∧(q.2=false ->∀l∈w.K,cloL q.1 l)) (fun q=>2*(w.R.length - q.1.length)+(if q.2 then 1 else 0)) (([a],true)) (⟨JZ.zero haR,fun e=>by cases e⟩) (BK hF [20] Z Z ⟨rfl,rfl,rfl,trivial⟩) ?_))))))));rintro ⟨out0,gr⟩ ⟨hG0,hC0⟩;dsimp only at hG0 hC0⊢;refine AG (AG (AI (AC Z Z (AF ?_))))
  first | refine BG rfl (fun h16=>?_) (fun h16=>?_) | refine BB rfl (fun h16=>?_) (fun h16=>?_)
  ·refine An (B9 (AG ?_));refine AI (AD Z Z (AF (AG (AI (AD Z Z (AF (B9 (Fm (α:=Nat×List St×Bool) (fun q=>⟨63,[(2,(.ptr 20 0 0)),(5,(.d (stsD q.2.1))),(6,(.d (Ar q.2.2))),(7,(.d (natD q.1)))],[It 20 w]⟩) (fun q=>q.1≤w.K.length∧Hn w a out0 q.1 q.2.1 q.2.2) (fun q=>w.K.length - q.1) ((0,out0,false)) (⟨Nat.zero_le _,Hn.zero hG0⟩) (BK hF [20] Z Z ⟨rfl,rfl,rfl,rfl,trivial⟩) ?_))))))));rintro ⟨k,out,grew⟩ ⟨hk,hI⟩;dsimp only at hk hI⊢;refine AG (AG (AI (AC Z Z ?_)))
   first | refine J (A2 rfl Ah Z Z Z) ?_ | refine J (A4 rfl Ah Z Z Z) ?_ | refine J (A5 rfl Ah Z Z Z) ?_ | refine J (A3 rfl Ah Z Z Z) ?_ | refine J (A1 rfl Ah Z Z Z) ?_
   first | refine J (AY Z Z Aw rfl) ?_ | refine J (AW Z Z Z Aw rfl) ?_ | refine J (AX Z Z (rfl) rfl Aw rfl) ?_
   refine J (CG rfl (List.length_map ..) Try.underlying33 rfl) ?_
   first | refine J (Eo Z Z Z) ?_ | refine J (Ep Z Z Z) ?_
   refine AF ?_
   first | refine BG rfl (fun h21=>?_) (fun h21=>?_) | refine BB rfl (fun h21=>?_) (fun h21=>?_)
   ·refine An (AG (B9 (AG ?_)));have hkl:k<w.K.length:=H9 h21;have hol:=hI.g.len;refine AI ?_
    first | refine J (A2 rfl Ah Z Z Z) ?_ | refine J (A4 rfl Ah Z Z Z) ?_ | refine J (A5 rfl Ah Z Z Z) ?_ | refine J (A3 rfl Ah Z Z Z) ?_ | refine J (A1 rfl Ah Z Z Z) ?_
    first | refine J (AY Z Z Aw rfl) ?_ | refine J (AW Z Z Z Aw rfl) ?_ | refine J (AX Z Z (rfl) rfl Aw rfl) ?_
    refine AC Z Z ?_
    first | refine J (BM (k) Z Z (rfl) (DG hkl) Try.underlying33 rfl C3 rfl) ?_ | refine J (BN (k) Z Z (rfl) (DG hkl) rfl Try.underlying33 C3 rfl) ?_
    first | refine J (BW Z Z As rfl) ?_ | refine J (BX Z Z As Z Z Z) ?_ | refine J (BY Z Z (rfl) rfl As rfl) ?_
    refine U (IF 26 zl71 Z Z Z Z) (U (Bu Z Z Z Z Z Z Z C3) (AF (AG (AG (AI ?_)))))
    first | refine J (A2 rfl KK Z Z Z) ?_ | refine J (A4 rfl KK Z Z Z) ?_ | refine J (A5 rfl KK Z Z Z) ?_ | refine J (A3 rfl KK Z Z Z) ?_ | refine J (A1 rfl KK Z Z Z) ?_
    first | refine J (AY Z Z B8 rfl) ?_ | refine J (AW Z Z Z B8 rfl) ?_ | refine J (AX Z Z (rfl) rfl B8 rfl) ?_
    first | refine J (IH Z Z Z) ?_ | refine J (IG Z Z Z) ?_ | refine J (Hm Z Z Z) ?_ | refine J (IB Try.underlying3 Z Z Z) ?_ | refine J (ID Try.underlying3 Z Z Z) ?_ | refine J (st_neqN Try.underlying3 Z Z) ?_ | refine J (st_neqPr Try.underlying3 Z Z) ?_ | refine J (st_neqMz Try.underlying3 Z Z) ?_ | refine J (IC Try.underlying3 Z Z Z) ?_ | refine J (st_neqFN Try.underlying3 Z Z) ?_
    refine AF ?_
    first | refine BG rfl (fun h31=>?_) (fun h31=>?_) | refine BB rfl (fun h31=>?_) (fun h31=>?_)
    ·refine Eg (AI (AC Z Z (J (DA Z Z (IntWalk.i64_in _ (by omega)) rfl) (AD Z Z (AF ?_)))));exact ⟨(k+1,_,_),⟨hkl,by first | exact hI.pass hkl (fun e=>absurd e h31) | exact hI.pass hkl (fun _=>⟨fun hf=>Classical.byContradiction fun hr=>by first | exact h42 hr | exact h36 hf,fun hr=>Classical.byContradiction fun hf=>by first | exact h57 hf | exact h51 hr⟩) | exact hI.ins h42 h36 (Or.inl hWt) hkR.2 | exact hI.ins h57 h51 (Or.inr hWt) hkR.1 | exact absurd (LE.2 (.inr h36)) h57⟩,by show w.K.length - (k+1)<w.K.length - k;omega,BK hF [20] rfl (rfl) ⟨rfl,rfl,rfl,rfl,trivial⟩⟩
    ·refine An (AG (AG ?_));have ht0:(w.K[k]).t=0:=Classical.not_not.1 h31;have hkR:=hw.lk _ (List.getElem_mem hkl)
     have hkR:(w.K[k]).f∈w.R∧(w.K[k]).r∈w.R:=⟨hkR.1,hkR.2.1⟩
     have hWt:(⟨(w.K[k]).f,0,(w.K[k]).r⟩:Lw)∈w.K:=by rw [←ht0];exact List.getElem_mem hkl
     refine AI (AC Z Z ?_)
     first | refine J (A2 rfl CC Z Z Z) ?_ | refine J (A4 rfl CC Z Z Z) ?_ | refine J (A5 rfl CC Z Z Z) ?_ | refine J (A3 rfl CC Z Z Z) ?_ | refine J (A1 rfl CC Z Z Z) ?_
     first | refine J (AY Z Z AZ rfl) ?_ | refine J (AW Z Z Z AZ rfl) ?_ | refine J (AX Z Z (rfl) rfl AZ rfl) ?_
     refine J (DW (Bj out (w.K[k]).f (by omega)) Z Z) (AC Z Z ?_)
     first | refine KL 36 rfl (fun h36=>?_) (fun h36=>?_) | refine JH 36 rfl (fun h36=>?_) (fun h36=>?_)
     ·refine Ab Z Z Z (AC Z Z (Ab Z Z Z ?_))
      first | refine J (A2 rfl Cd Z Z Z) ?_ | refine J (A4 rfl Cd Z Z Z) ?_ | refine J (A5 rfl Cd Z Z Z) ?_ | refine J (A3 rfl Cd Z Z Z) ?_ | refine J (A1 rfl Cd Z Z Z) ?_
      refine Ab Z Z Z ?_
      first | refine J (AY Z Z AZ rfl) ?_ | refine J (AW Z Z Z AZ rfl) ?_ | refine J (AX Z Z (rfl) rfl AZ rfl) ?_
      refine Ab Z Z Z (J (DW (Bj out (w.K[k]).r (by omega)) Z Z) (Ab Z Z Z ?_))
      first | refine J (El Z Z) ?_ | refine J (Ek Z Z) ?_
      refine J (H8 Z Z Z Z) (AF ?_)
      first | refine BG rfl (fun h42=>?_) (fun h42=>?_) | refine BB rfl (fun h42=>?_) (fun h42=>?_)
      ·refine AG (AI (AC Z Z ?_))
       first | refine J (A2 rfl Cd Z Z Z) ?_ | refine J (A4 rfl Cd Z Z Z) ?_ | refine J (A5 rfl Cd Z Z Z) ?_ | refine J (A3 rfl Cd Z Z Z) ?_ | refine J (A1 rfl Cd Z Z Z) ?_
       first | refine J (AY Z Z AZ rfl) ?_ | refine J (AW Z Z Z AZ rfl) ?_ | refine J (AX Z Z (rfl) rfl AZ rfl) ?_
       refine J (DW (EI out (w.K[k]).r (by omega)) Z Z) (AD Z Z (AF (AI (AD Z Z (AF (AG (AI (AC Z Z ?_))))))))
       first | refine J (A2 rfl Cd Z Z Z) ?_ | refine J (A4 rfl Cd Z Z Z) ?_ | refine J (A5 rfl Cd Z Z Z) ?_ | refine J (A3 rfl Cd Z Z Z) ?_ | refine J (A1 rfl Cd Z Z Z) ?_
       first | refine J (AY Z Z AZ rfl) ?_ | refine J (AW Z Z Z AZ rfl) ?_ | refine J (AX Z Z (rfl) rfl AZ rfl) ?_
       refine J (DW (Bj (Bf out (w.K[k]).r) (w.K[k]).r (by rw [DR];omega)) Z Z) (AC Z Z ?_)
       first | refine KL 51 rfl (fun h51=>?_) (fun h51=>?_) | refine JH 51 rfl (fun h51=>?_) (fun h51=>?_)
       ·refine Ab Z Z Z (AC Z Z (Ab Z Z Z ?_))
        first | refine J (A2 rfl CC Z Z Z) ?_ | refine J (A4 rfl CC Z Z Z) ?_ | refine J (A5 rfl CC Z Z Z) ?_ | refine J (A3 rfl CC Z Z Z) ?_ | refine J (A1 rfl CC Z Z Z) ?_
        refine Ab Z Z Z ?_
        first | refine J (AY Z Z AZ rfl) ?_ | refine J (AW Z Z Z AZ rfl) ?_ | refine J (AX Z Z (rfl) rfl AZ rfl) ?_
        refine Ab Z Z Z (J (DW (Bj (Bf out (w.K[k]).r) (w.K[k]).f (by rw [DR];omega)) Z Z) (Ab Z Z Z ?_))
        first | refine J (El Z Z) ?_ | refine J (Ek Z Z) ?_
        refine J (H8 Z Z Z Z) (AF ?_)
        first | refine BG rfl (fun h57=>?_) (fun h57=>?_) | refine BB rfl (fun h57=>?_) (fun h57=>?_)
        ·refine AG (AI (AC Z Z ?_))
         first | refine J (A2 rfl CC Z Z Z) ?_ | refine J (A4 rfl CC Z Z Z) ?_ | refine J (A5 rfl CC Z Z Z) ?_ | refine J (A3 rfl CC Z Z Z) ?_ | refine J (A1 rfl CC Z Z Z) ?_
         first | refine J (AY Z Z AZ rfl) ?_ | refine J (AW Z Z Z AZ rfl) ?_ | refine J (AX Z Z (rfl) rfl AZ rfl) ?_
         refine J (DW (EI (Bf out (w.K[k]).r) (w.K[k]).f (by rw [DR];omega)) Z Z) (AD Z Z ?_);refine AF (AI (AD Z Z (AF (AI (AC Z Z (J (DA Z Z (IntWalk.i64_in _ (by omega)) rfl) (AD Z Z (AF ?_))))))));exact ⟨(k+1,_,_),⟨hkl,by first | exact hI.pass hkl (fun e=>absurd e h31) | exact hI.pass hkl (fun _=>⟨fun hf=>Classical.byContradiction fun hr=>by first | exact h42 hr | exact h36 hf,fun hr=>Classical.byContradiction fun hf=>by first | exact h57 hf | exact h51 hr⟩) | exact hI.ins h42 h36 (Or.inl hWt) hkR.2 | exact hI.ins h57 h51 (Or.inr hWt) hkR.1 | exact absurd (LE.2 (.inr h36)) h57⟩,by show w.K.length - (k+1)<w.K.length - k;omega,BK hF [20] rfl (rfl) ⟨rfl,rfl,rfl,rfl,trivial⟩⟩
        ·refine An (AI (AC Z Z (J (DA Z Z (IntWalk.i64_in _ (by omega)) rfl) (AD Z Z (AF ?_)))));exact ⟨(k+1,_,_),⟨hkl,by first | exact hI.pass hkl (fun e=>absurd e h31) | exact hI.pass hkl (fun _=>⟨fun hf=>Classical.byContradiction fun hr=>by first | exact h42 hr | exact h36 hf,fun hr=>Classical.byContradiction fun hf=>by first | exact h57 hf | exact h51 hr⟩) | exact hI.ins h42 h36 (Or.inl hWt) hkR.2 | exact hI.ins h57 h51 (Or.inr hWt) hkR.1 | exact absurd (LE.2 (.inr h36)) h57⟩,by show w.K.length - (k+1)<w.K.length - k;omega,BK hF [20] rfl (rfl) ⟨rfl,rfl,rfl,rfl,trivial⟩⟩
       ·refine BH Z Z Z Z (BH Z Z Z Z (BH Z Z Z Z (BH Z Z Z Z (BH Z Z Z Z ?_))));refine J (GR Z Z Z Z) (AF (Dk Z Z (An (AI (AC Z Z (J (DA Z Z (IntWalk.i64_in _ (by omega)) rfl) (AD Z Z (AF ?_))))))));exact ⟨(k+1,_,_),⟨hkl,by first | exact hI.pass hkl (fun e=>absurd e h31) | exact hI.pass hkl (fun _=>⟨fun hf=>Classical.byContradiction fun hr=>by first | exact h42 hr | exact h36 hf,fun hr=>Classical.byContradiction fun hf=>by first | exact h57 hf | exact h51 hr⟩) | exact hI.ins h42 h36 (Or.inl hWt) hkR.2 | exact hI.ins h57 h51 (Or.inr hWt) hkR.1 | exact absurd (LE.2 (.inr h36)) h57⟩,by show w.K.length - (k+1)<w.K.length - k;omega,BK hF [20] rfl (rfl) ⟨rfl,rfl,rfl,rfl,trivial⟩⟩
      ·refine An (AG (AI (AC Z Z ?_)))
       first | refine J (A2 rfl Cd Z Z Z) ?_ | refine J (A4 rfl Cd Z Z Z) ?_ | refine J (A5 rfl Cd Z Z Z) ?_ | refine J (A3 rfl Cd Z Z Z) ?_ | refine J (A1 rfl Cd Z Z Z) ?_
       first | refine J (AY Z Z AZ rfl) ?_ | refine J (AW Z Z Z AZ rfl) ?_ | refine J (AX Z Z (rfl) rfl AZ rfl) ?_
       refine J (DW (Bj out (w.K[k]).r (by omega)) Z Z) (AC Z Z ?_)
       first | refine KL 51 rfl (fun h51=>?_) (fun h51=>?_) | refine JH 51 rfl (fun h51=>?_) (fun h51=>?_)
       ·refine Ab Z Z Z (AC Z Z (Ab Z Z Z ?_))
        first | refine J (A2 rfl CC Z Z Z) ?_ | refine J (A4 rfl CC Z Z Z) ?_ | refine J (A5 rfl CC Z Z Z) ?_ | refine J (A3 rfl CC Z Z Z) ?_ | refine J (A1 rfl CC Z Z Z) ?_
        refine Ab Z Z Z ?_
        first | refine J (AY Z Z AZ rfl) ?_ | refine J (AW Z Z Z AZ rfl) ?_ | refine J (AX Z Z (rfl) rfl AZ rfl) ?_
        refine Ab Z Z Z (J (DW (Bj out (w.K[k]).f (by omega)) Z Z) (Ab Z Z Z ?_))
        first | refine J (El Z Z) ?_ | refine J (Ek Z Z) ?_
        refine J (H8 Z Z Z Z) (AF ?_)
        first | refine BG rfl (fun h57=>?_) (fun h57=>?_) | refine BB rfl (fun h57=>?_) (fun h57=>?_)
        ·refine AG (AI (AC Z Z ?_))
         first | refine J (A2 rfl CC Z Z Z) ?_ | refine J (A4 rfl CC Z Z Z) ?_ | refine J (A5 rfl CC Z Z Z) ?_ | refine J (A3 rfl CC Z Z Z) ?_ | refine J (A1 rfl CC Z Z Z) ?_
         first | refine J (AY Z Z AZ rfl) ?_ | refine J (AW Z Z Z AZ rfl) ?_ | refine J (AX Z Z (rfl) rfl AZ rfl) ?_
         refine J (DW (EI out (w.K[k]).f (by omega)) Z Z) (AD Z Z ?_);refine AF (AI (AD Z Z (AF (AI (AC Z Z (J (DA Z Z (IntWalk.i64_in _ (by omega)) rfl) (AD Z Z (AF ?_))))))));exact ⟨(k+1,_,_),⟨hkl,by first | exact hI.pass hkl (fun e=>absurd e h31) | exact hI.pass hkl (fun _=>⟨fun hf=>Classical.byContradiction fun hr=>by first | exact h42 hr | exact h36 hf,fun hr=>Classical.byContradiction fun hf=>by first | exact h57 hf | exact h51 hr⟩) | exact hI.ins h42 h36 (Or.inl hWt) hkR.2 | exact hI.ins h57 h51 (Or.inr hWt) hkR.1 | exact absurd (LE.2 (.inr h36)) h57⟩,by show w.K.length - (k+1)<w.K.length - k;omega,BK hF [20] rfl (rfl) ⟨rfl,rfl,rfl,rfl,trivial⟩⟩
        ·refine An (AI (AC Z Z (J (DA Z Z (IntWalk.i64_in _ (by omega)) rfl) (AD Z Z (AF ?_)))));exact ⟨(k+1,_,_),⟨hkl,by first | exact hI.pass hkl (fun e=>absurd e h31) | exact hI.pass hkl (fun _=>⟨fun hf=>Classical.byContradiction fun hr=>by first | exact h42 hr | exact h36 hf,fun hr=>Classical.byContradiction fun hf=>by first | exact h57 hf | exact h51 hr⟩) | exact hI.ins h42 h36 (Or.inl hWt) hkR.2 | exact hI.ins h57 h51 (Or.inr hWt) hkR.1 | exact absurd (LE.2 (.inr h36)) h57⟩,by show w.K.length - (k+1)<w.K.length - k;omega,BK hF [20] rfl (rfl) ⟨rfl,rfl,rfl,rfl,trivial⟩⟩
       ·refine BH Z Z Z Z (BH Z Z Z Z (BH Z Z Z Z (BH Z Z Z Z (BH Z Z Z Z ?_))));refine J (GR Z Z Z Z) (AF (Dk Z Z (An (AI (AC Z Z (J (DA Z Z (IntWalk.i64_in _ (by omega)) rfl) (AD Z Z (AF ?_))))))));exact ⟨(k+1,_,_),⟨hkl,by first | exact hI.pass hkl (fun e=>absurd e h31) | exact hI.pass hkl (fun _=>⟨fun hf=>Classical.byContradiction fun hr=>by first | exact h42 hr | exact h36 hf,fun hr=>Classical.byContradiction fun hf=>by first | exact h57 hf | exact h51 hr⟩) | exact hI.ins h42 h36 (Or.inl hWt) hkR.2 | exact hI.ins h57 h51 (Or.inr hWt) hkR.1 | exact absurd (LE.2 (.inr h36)) h57⟩,by show w.K.length - (k+1)<w.K.length - k;omega,BK hF [20] rfl (rfl) ⟨rfl,rfl,rfl,rfl,trivial⟩⟩
     ·refine BH Z Z Z Z (BH Z Z Z Z (BH Z Z Z Z ?_));refine BH Z Z Z Z (BH Z Z Z Z (J (GR Z Z Z Z) (AF (Dk Z Z (An (AG (AI (AC Z Z ?_))))))))
      first | refine J (A2 rfl Cd Z Z Z) ?_ | refine J (A4 rfl Cd Z Z Z) ?_ | refine J (A5 rfl Cd Z Z Z) ?_ | refine J (A3 rfl Cd Z Z Z) ?_ | refine J (A1 rfl Cd Z Z Z) ?_
      first | refine J (AY Z Z AZ rfl) ?_ | refine J (AW Z Z Z AZ rfl) ?_ | refine J (AX Z Z (rfl) rfl AZ rfl) ?_
      refine J (DW (Bj out (w.K[k]).r (by omega)) Z Z) (AC Z Z ?_)
      first | refine KL 51 rfl (fun h51=>?_) (fun h51=>?_) | refine JH 51 rfl (fun h51=>?_) (fun h51=>?_)
      ·refine Ab Z Z Z (AC Z Z (Ab Z Z Z ?_))
       first | refine J (A2 rfl CC Z Z Z) ?_ | refine J (A4 rfl CC Z Z Z) ?_ | refine J (A5 rfl CC Z Z Z) ?_ | refine J (A3 rfl CC Z Z Z) ?_ | refine J (A1 rfl CC Z Z Z) ?_
       refine Ab Z Z Z ?_
       first | refine J (AY Z Z AZ rfl) ?_ | refine J (AW Z Z Z AZ rfl) ?_ | refine J (AX Z Z (rfl) rfl AZ rfl) ?_
       refine Ab Z Z Z (J (DW (Bj out (w.K[k]).f (by omega)) Z Z) (Ab Z Z Z ?_))
       first | refine J (El Z Z) ?_ | refine J (Ek Z Z) ?_
       refine J (H8 Z Z Z Z) (AF ?_)
       first | refine BG rfl (fun h57=>?_) (fun h57=>?_) | refine BB rfl (fun h57=>?_) (fun h57=>?_)
       ·refine AG (AI (AC Z Z ?_))
        first | refine J (A2 rfl CC Z Z Z) ?_ | refine J (A4 rfl CC Z Z Z) ?_ | refine J (A5 rfl CC Z Z Z) ?_ | refine J (A3 rfl CC Z Z Z) ?_ | refine J (A1 rfl CC Z Z Z) ?_
        first | refine J (AY Z Z AZ rfl) ?_ | refine J (AW Z Z Z AZ rfl) ?_ | refine J (AX Z Z (rfl) rfl AZ rfl) ?_
        refine J (DW (EI out (w.K[k]).f (by omega)) Z Z) (AD Z Z ?_);refine AF (AI (AD Z Z (AF (AI (AC Z Z (J (DA Z Z (IntWalk.i64_in _ (by omega)) rfl) (AD Z Z (AF ?_))))))));exact ⟨(k+1,_,_),⟨hkl,by first | exact hI.pass hkl (fun e=>absurd e h31) | exact hI.pass hkl (fun _=>⟨fun hf=>Classical.byContradiction fun hr=>by first | exact h42 hr | exact h36 hf,fun hr=>Classical.byContradiction fun hf=>by first | exact h57 hf | exact h51 hr⟩) | exact hI.ins h42 h36 (Or.inl hWt) hkR.2 | exact hI.ins h57 h51 (Or.inr hWt) hkR.1 | exact absurd (LE.2 (.inr h36)) h57⟩,by show w.K.length - (k+1)<w.K.length - k;omega,BK hF [20] rfl (rfl) ⟨rfl,rfl,rfl,rfl,trivial⟩⟩
       ·refine An (AI (AC Z Z (J (DA Z Z (IntWalk.i64_in _ (by omega)) rfl) (AD Z Z (AF ?_)))));exact ⟨(k+1,_,_),⟨hkl,by first | exact hI.pass hkl (fun e=>absurd e h31) | exact hI.pass hkl (fun _=>⟨fun hf=>Classical.byContradiction fun hr=>by first | exact h42 hr | exact h36 hf,fun hr=>Classical.byContradiction fun hf=>by first | exact h57 hf | exact h51 hr⟩) | exact hI.ins h42 h36 (Or.inl hWt) hkR.2 | exact hI.ins h57 h51 (Or.inr hWt) hkR.1 | exact absurd (LE.2 (.inr h36)) h57⟩,by show w.K.length - (k+1)<w.K.length - k;omega,BK hF [20] rfl (rfl) ⟨rfl,rfl,rfl,rfl,trivial⟩⟩
      ·refine BH Z Z Z Z (BH Z Z Z Z (BH Z Z Z Z (BH Z Z Z Z (BH Z Z Z Z ?_))));refine J (GR Z Z Z Z) (AF (Dk Z Z (An (AI (AC Z Z (J (DA Z Z (IntWalk.i64_in _ (by omega)) rfl) (AD Z Z (AF ?_))))))));exact ⟨(k+1,_,_),⟨hkl,by first | exact hI.pass hkl (fun e=>absurd e h31) | exact hI.pass hkl (fun _=>⟨fun hf=>Classical.byContradiction fun hr=>by first | exact h42 hr | exact h36 hf,fun hr=>Classical.byContradiction fun hf=>by first | exact h57 hf | exact h51 hr⟩) | exact hI.ins h42 h36 (Or.inl hWt) hkR.2 | exact hI.ins h57 h51 (Or.inr hWt) hkR.1 | exact absurd (LE.2 (.inr h36)) h57⟩,by show w.K.length - (k+1)<w.K.length - k;omega,BK hF [20] rfl (rfl) ⟨rfl,rfl,rfl,rfl,trivial⟩⟩
   ·refine Eg ?_;exact ⟨(out,grew),⟨hI.g,fun e=>by have:=(hI.no e).2;rw [show k=w.K.length by omega,List.take_length] at this;exact this⟩,by have h1:=hI.g.len;have h2:=hI.le;show 2*(w.R.length - out.length)+(if grew then 1 else 0)<2*(w.R.length - out0.length)+(if gr then 1 else 0);rw [show gr=true from h16];cases hgr:grew with | false=>rw [(hI.no hgr).1];simp | true=>have h3:=hI.yes hgr;simp;omega,BK hF [20] rfl (rfl) ⟨rfl,rfl,rfl,trivial⟩⟩
  ·refine Eg (AG ?_);have hfin:=hG0.fin hw (hC0 (by simpa using h16));refine AI (AC Z Z (AD Z Z (AF (Ay ?_))));exact ⟨_,[],[],Av rfl,rfl,rfl,by rw [if_pos haR,hfin],rfl⟩
theorem MK {w:Ws} (hw:Ba w) {x:St} (hx:x∈w.R):(cls w x).getD 0 [] =x↔J0 w x:=by
 have hs:=Gk hw x;have hm:=C7 hx
 cases hc:cls w x with
 | nil=>rw [hc] at hm;simp at hm
 | cons y r=>
  rw [hc] at hs hm;have h1:=List.pairwise_cons.1 hs;show y=x↔_
  constructor
  ·rintro rfl z hz hzc hlt;have hz2:z∈cls w y:=NW.2 ⟨hz,hzc⟩;rw [hc] at hz2;rcases List.mem_cons.1 hz2 with rfl | hz2
   ·exact GC _ hlt
   ·exact GC _ (NZ hlt (h1.1 z hz2))
  ·intro hl;have hy:y∈cls w x:=by rw [hc];simp
   obtain ⟨hyR,hyc⟩:=NW.1 hy;rcases List.mem_cons.1 hm with e | hm
   ·exact e.symm
   ·exact absurd (h1.1 x hm) (hl y hyR hyc)
open Classical in
noncomputable def partT (w:Ws) (k:Nat):List (List St):=((w.R.take k).filter fun a=>decide (J0 w a)).map (cls w)
theorem OV (w:Ws):partT w w.R.length=parts w:=by unfold partT parts;rw [List.take_length]
theorem OU {w:Ws} {k:Nat} (hk:k<w.R.length) (h:J0 w w.R[k]):partT w (k+1)=partT w k++ [cls w w.R[k]]:=by
 unfold partT;rw [List.take_succ_eq_append_getElem hk,List.filter_append,List.map_append]
 simp [h]
theorem Mt {w:Ws} {k:Nat} (hk:k<w.R.length) (h:¬J0 w w.R[k]):partT w (k+1)=partT w k:=by
 unfold partT;rw [List.take_succ_eq_append_getElem hk,List.filter_append,List.map_append]
 simp [h]
theorem OT (w:Ws) (k:Nat):(partT w k).length≤w.R.length:=by
 unfold partT;rw [List.length_map];exact Nat.le_trans (List.length_filter_le _ _) (by rw [List.length_take];omega)
theorem Dh {l:List St} {k:Nat} (h:k<l.length):(l.map AU)[k]?=some (AU l[k]):=by
 rw [List.getElem?_map,List.getElem?_eq_getElem h];rfl
theorem all_p (w:Ws) (hw:Ba w) (hl:w.K.length≤2000000):B4 Try.prog 55 [.d (LH w)] (Cz (parts w)):=by
 have hfew:=hw.few;refine DY Try.func55 Z Z Try.ntmps55 Z Z Z fun F hF=>(AG (AI (U (Iz 20 Z Z Z Z Z Z Z) (AD Z Z (AF (AG (AI (AD Z Z ?_))))))));refine AF (AG (AG (AI (AD Z Z (AF (B9 (Fg 3 1 Mk Z Z Z Z (Fm (α:=Nat×List (List St)) (fun q=>⟨34,[(1,(.ptr 20 0 0)),(3,(.own 1 0 q.2.length)),(4,(.d (natD q.1)))],[It 20 w,(1,[.rowD 32 1 (q.2.map stsD)])]⟩) (fun q=>q.1≤w.R.length∧q.2=partT w q.1) (fun q=>w.R.length - q.1) ((0,[])) (⟨Nat.zero_le _,rfl⟩) (BK hF [20,1] Z Z ⟨rfl,rfl,rfl,trivial⟩) ?_))))))));rintro ⟨k,out⟩ ⟨hk,ho⟩;dsimp only at hk ho⊢;refine AG (AG (AI (AC Z Z ?_)))
 first | refine J (A2 rfl Ag Z Z Z) ?_ | refine J (A4 rfl Ag Z Z Z) ?_ | refine J (A5 rfl Ag Z Z Z) ?_ | refine J (A3 rfl Ag Z Z Z) ?_ | refine J (A1 rfl Ag Z Z Z) ?_
 first | refine J (AY Z Z AR rfl) ?_ | refine J (AW Z Z Z AR rfl) ?_ | refine J (AX Z Z (rfl) rfl AR rfl) ?_
 refine J (CG rfl (List.length_map ..) Try.underlying32 rfl) ?_
 first | refine J (Eo Z Z Z) ?_ | refine J (Ep Z Z Z) ?_
 refine AF ?_
 first | refine BG rfl (fun h10=>?_) (fun h10=>?_) | refine BB rfl (fun h10=>?_) (fun h10=>?_)
 ·refine An (AG (B9 (AG ?_)));have hkl:k<w.R.length:=H9 h10;have hxR:w.R[k]∈w.R:=List.getElem_mem hkl;have hcl:0<(cls w w.R[k]).length:=List.length_pos_of_mem (C7 hxR);have hpl:out.length≤w.R.length:=by rw [ho];exact OT w k
  refine Fh [[],[],[1],[],[1,2,3],[1,2,3,4],[0,1,2,3,4,5],[0,1,2,3,4,5,6]] mixed rfl (EK ?_)
  first | refine AE [1] [] Z Z (fun _=>AB (BW Z Z AP rfl)) ?_ | refine AH [1] Z Z (fun _=>AB (BW Z Z AP rfl)) ?_ | refine AE [1] [] Z Z (fun _=>AB (BX Z Z AP Z Z Z)) ?_ | refine AH [1] Z Z (fun _=>AB (BX Z Z AP Z Z Z)) ?_ | refine AE [1] [] Z Z (fun _=>AB (BY Z Z (rfl) rfl AP rfl)) ?_ | refine AH [1] Z Z (fun _=>AB (BY Z Z (rfl) rfl AP rfl)) ?_
  first | refine AE [1] [] Z Z (fun _=>AB (A2 rfl Ag Z Z Z)) ?_ | refine AH [1] Z Z (fun _=>AB (A2 rfl Ag Z Z Z)) ?_ | refine AE [1] [] Z Z (fun _=>AB (A4 rfl Ag Z Z Z)) ?_ | refine AH [1] Z Z (fun _=>AB (A4 rfl Ag Z Z Z)) ?_ | refine AE [1] [] Z Z (fun _=>AB (A5 rfl Ag Z Z Z)) ?_ | refine AH [1] Z Z (fun _=>AB (A5 rfl Ag Z Z Z)) ?_ | refine AE [1] [] Z Z (fun _=>AB (A3 rfl Ag Z Z Z)) ?_ | refine AH [1] Z Z (fun _=>AB (A3 rfl Ag Z Z Z)) ?_ | refine AE [1] [] Z Z (fun _=>AB (A1 rfl Ag Z Z Z)) ?_ | refine AH [1] Z Z (fun _=>AB (A1 rfl Ag Z Z Z)) ?_
  first | refine AE [14] [] Z Z (fun _=>AB (AY Z Z AR rfl)) ?_ | refine AH [14] Z Z (fun _=>AB (AY Z Z AR rfl)) ?_ | refine AE [14] [] Z Z (fun _=>AB (AW Z Z Z AR rfl)) ?_ | refine AH [14] Z Z (fun _=>AB (AW Z Z Z AR rfl)) ?_ | refine AE [14] [] Z Z (fun _=>AB (AX Z Z (rfl) rfl AR rfl)) ?_ | refine AH [14] Z Z (fun _=>AB (AX Z Z (rfl) rfl AR rfl)) ?_
  first | refine AE [4] [] Z Z (fun _=>AB (Aa Z Z)) ?_ | refine AH [4] Z Z (fun _=>AB (Aa Z Z)) ?_
  first | refine AE [15,16] [] Z Z (fun _=>AB (BM (k) Z Z (rfl) (Dh hkl) Try.underlying32 rfl ER rfl)) ?_ | refine AH [15,16] Z Z (fun _=>AB (BM (k) Z Z (rfl) (Dh hkl) Try.underlying32 rfl ER rfl)) ?_ | refine AE [15,16] [] Z Z (fun _=>AB (BN (k) Z Z (rfl) (Dh hkl) rfl Try.underlying32 ER rfl)) ?_ | refine AH [15,16] Z Z (fun _=>AB (BN (k) Z Z (rfl) (Dh hkl) rfl Try.underlying32 ER rfl)) ?_
  first | refine AE [17] [] Z Z (fun _=>AB (AY Z Z AZ rfl)) ?_ | refine AH [17] Z Z (fun _=>AB (AY Z Z AZ rfl)) ?_ | refine AE [17] [] Z Z (fun _=>AB (AW Z Z Z AZ rfl)) ?_ | refine AH [17] Z Z (fun _=>AB (AW Z Z Z AZ rfl)) ?_ | refine AE [17] [] Z Z (fun _=>AB (AX Z Z (rfl) rfl AZ rfl)) ?_ | refine AH [17] Z Z (fun _=>AB (AX Z Z (rfl) rfl AZ rfl)) ?_
  refine EL 6 Z Z Z (B6 7 Z Z (J (DW (O5 w hw w.R[k] hl) Z Z) ?_));rw [if_pos hxR];refine AF ⟨rfl,?_⟩;refine B6 8 Z Z (AD Z Z (AF ⟨rfl,?_⟩));refine Es (AG (Fh [[],[0],[0,1],[],[3],[],[3,4,5],[3,4,5,6],[0,1,2,3,4,5,6,7]] mixed rfl (EK ?_)))
  first | refine AE [5] [] Z Z (fun _=>AB (Aa Z Z)) ?_ | refine AH [5] Z Z (fun _=>AB (Aa Z Z)) ?_
  first | refine AE [20] [] Z Z (fun _=>AB (BM (0) Z Z (rfl) (D1 hcl) Try.underlying32 rfl ER rfl)) ?_ | refine AH [20] Z Z (fun _=>AB (BM (0) Z Z (rfl) (D1 hcl) Try.underlying32 rfl ER rfl)) ?_ | refine AE [20] [] Z Z (fun _=>AB (BN (0) Z Z (rfl) (D1 hcl) rfl Try.underlying32 ER rfl)) ?_ | refine AH [20] Z Z (fun _=>AB (BN (0) Z Z (rfl) (D1 hcl) rfl Try.underlying32 ER rfl)) ?_
  first | refine AE [21] [99] Z Z (fun _=>AB (AY Z Z AZ rfl)) ?_ | refine AE [21] [99] Z Z (fun _=>AB (AW Z Z Z AZ rfl)) ?_ | refine AE [21] [99] Z Z (fun _=>AB (AX Z Z (rfl) rfl AZ rfl)) ?_
  first | refine AE [1] [] Z Z (fun _=>AB (A2 rfl Ag Z Z Z)) ?_ | refine AH [1] Z Z (fun _=>AB (A2 rfl Ag Z Z Z)) ?_ | refine AE [1] [] Z Z (fun _=>AB (A4 rfl Ag Z Z Z)) ?_ | refine AH [1] Z Z (fun _=>AB (A4 rfl Ag Z Z Z)) ?_ | refine AE [1] [] Z Z (fun _=>AB (A5 rfl Ag Z Z Z)) ?_ | refine AH [1] Z Z (fun _=>AB (A5 rfl Ag Z Z Z)) ?_ | refine AE [1] [] Z Z (fun _=>AB (A3 rfl Ag Z Z Z)) ?_ | refine AH [1] Z Z (fun _=>AB (A3 rfl Ag Z Z Z)) ?_ | refine AE [1] [] Z Z (fun _=>AB (A1 rfl Ag Z Z Z)) ?_ | refine AH [1] Z Z (fun _=>AB (A1 rfl Ag Z Z Z)) ?_
  first | refine AE [23] [] Z Z (fun _=>AB (AY Z Z AR rfl)) ?_ | refine AH [23] Z Z (fun _=>AB (AY Z Z AR rfl)) ?_ | refine AE [23] [] Z Z (fun _=>AB (AW Z Z Z AR rfl)) ?_ | refine AH [23] Z Z (fun _=>AB (AW Z Z Z AR rfl)) ?_ | refine AE [23] [] Z Z (fun _=>AB (AX Z Z (rfl) rfl AR rfl)) ?_ | refine AH [23] Z Z (fun _=>AB (AX Z Z (rfl) rfl AR rfl)) ?_
  first | refine AE [4] [] Z Z (fun _=>AB (Aa Z Z)) ?_ | refine AH [4] Z Z (fun _=>AB (Aa Z Z)) ?_
  first | refine AE [24,25] [] Z Z (fun _=>AB (BM (k) Z Z (rfl) (Dh hkl) Try.underlying32 rfl ER rfl)) ?_ | refine AH [24,25] Z Z (fun _=>AB (BM (k) Z Z (rfl) (Dh hkl) Try.underlying32 rfl ER rfl)) ?_ | refine AE [24,25] [] Z Z (fun _=>AB (BN (k) Z Z (rfl) (Dh hkl) rfl Try.underlying32 ER rfl)) ?_ | refine AH [24,25] Z Z (fun _=>AB (BN (k) Z Z (rfl) (Dh hkl) rfl Try.underlying32 ER rfl)) ?_
  first | refine AE [26] [] Z Z (fun _=>AB (AY Z Z AZ rfl)) ?_ | refine AH [26] Z Z (fun _=>AB (AY Z Z AZ rfl)) ?_ | refine AE [26] [] Z Z (fun _=>AB (AW Z Z Z AZ rfl)) ?_ | refine AH [26] Z Z (fun _=>AB (AW Z Z Z AZ rfl)) ?_ | refine AE [26] [] Z Z (fun _=>AB (AX Z Z (rfl) rfl AZ rfl)) ?_ | refine AH [26] Z Z (fun _=>AB (AX Z Z (rfl) rfl AZ rfl)) ?_
  refine EL 8 Z Z Z (B6 9 Z Z ?_)
  first | refine J (FP Z Z Z) ?_ | refine J (FX Z Z Z) ?_ | refine J (Et Z Z Z) ?_ | refine J (FQ Try.underlying9 Z Z Z) ?_ | refine J (FT Try.underlying9 Z Z Z) ?_ | refine J (fSq Try.underlying9 Z Z) ?_ | refine J (FW Try.underlying9 Z Z) ?_ | refine J (FV Try.underlying9 Z Z) ?_ | refine J (FR Try.underlying9 Z Z Z) ?_ | refine J (FU Try.underlying9 Z Z) ?_
  refine AF ⟨rfl,?_⟩;refine Es ?_
  first | refine BG rfl (fun h28=>?_) (fun h28=>?_) | refine BB rfl (fun h28=>?_) (fun h28=>?_)
  ·refine AI (AC Z Z (AC Z Z (U (Gl 21 Mk Z Z Z Z Z Z Z Z) ?_)))
   first | refine U (JE (out) ([cls w w.R[k]]) Z Z Z Z Z Z Z Z Mk (by simp only [List.length_singleton];omega) Z Z Z Z) ?_ | refine U (KM (out) ([cls w w.R[k]]) Z Z Z Z Z Z (fun _=>rfl) Mk (by simp only [List.length_singleton];omega) Z Z Z Z) ?_
   refine AD Z Z (AF (AI (AC Z Z (J (DA Z Z (IntWalk.i64_in _ (by omega)) rfl) (AD Z Z (AF ?_))))));exact ⟨(k+1,out++ [cls w w.R[k]]),⟨hkl,by show _=partT w (k+1);rw [OU hkl ((MK hw hxR).1 h28),ho]⟩,by show w.R.length - (k+1)<w.R.length - k;omega,BK hF [20,1] rfl (rfl) ⟨rfl,rfl,rfl,trivial⟩⟩
  ·refine An (AI (AC Z Z (J (DA Z Z (IntWalk.i64_in _ (by omega)) rfl) (AD Z Z (AF ?_)))));exact ⟨(k+1,out),⟨hkl,by show _=partT w (k+1);rw [Mt hkl fun h=>h28 ((MK hw hxR).2 h),ho]⟩,by show w.R.length - (k+1)<w.R.length - k;omega,BK hF [20,1] rfl (rfl) ⟨rfl,rfl,rfl,trivial⟩⟩
 ·refine Eg (AG ?_);have hke:k=w.R.length:=by have:=h10;omega
  refine Zck (emb:=stsD) 3 1 out Z Z Z Z Z Z Z (AI (AC Z Z (AD Z Z (AF (Ay ?_)))));exact ⟨_,[],[],Av rfl,rfl,rfl,by rw [ho,hke,OV],rfl⟩
theorem CA {w:Ws} (hw:Ba w) {i j:Nat} (hi:i<(parts w).length) (hj:j<(parts w).length) (hne:i≠j):Ot w.K ((parts w).getD i []) ((parts w).getD j [])↔j∈depL w i:=by
 rw [Bx hw]
 constructor
 ·rintro ⟨l,hl,ht,hf,hr⟩;exact ⟨hne,l,hl,ht,((Ka hw hi).1 hf).2,((Ka hw hj).1 hr).2⟩
 ·rintro ⟨_,l,hl,ht,hf,hr⟩;exact ⟨l,hl,ht,(Ka hw hi).2 ⟨(hw.lk l hl).1,hf⟩,(Ka hw hj).2 ⟨(hw.lk l hl).2.1,hr⟩⟩
def Oq (w:Ws) (ord:List Nat) (i k:Nat):Prop:=i∉ord∧∀j,j<k ->j≠i ->j∉ord ->j∉depL w i
noncomputable instance (w:Ws) (ord:List Nat) (i k:Nat):Decidable (Oq w ord i k):=Classical.propDecidable _
theorem bD {p q:Prop} [Decidable p] [Decidable q] (h:p↔q):AV.d (Ar (decide p))=AV.d (Ar (decide q)):=by rw [decide_eq_decide.2 h]
theorem QX {w:Ws} {ord:List Nat} {i:Nat}:AV.d (Ar (decide (¬i∈ord)))=AV.d (Ar (decide (Oq w ord i 0))):=bD ⟨fun h=>⟨h,fun j hj=>by omega⟩,fun h=>h.1⟩
theorem Ov {w:Ws} {ord:List Nat} {i k:Nat} (h:k=i∨k∈ord∨k∉depL w i):AV.d (Ar (decide (Oq w ord i k)))=AV.d (Ar (decide (Oq w ord i (k+1)))):=bD ⟨fun hf=>⟨hf.1,fun j hj h1 h2=>by
 by_cases e:j=k
 ·subst e;rcases h with h | h | h
  ·exact absurd h h1
  ·exact absurd h h2
  ·exact h
 ·exact hf.2 j (by omega) h1 h2⟩,fun hf=>⟨hf.1,fun j hj=>hf.2 j (by omega)⟩⟩
theorem Km {w:Ws} {ord:List Nat} {i k:Nat} (h1:k≠i) (h2:k∉ord) (h3:k∈depL w i):AV.d (Ar false)=AV.d (Ar (decide (Oq w ord i (k+1)))):=by
 rw [decide_eq_false (show ¬Oq w ord i (k+1) from fun hf=>hf.2 k (by omega) h1 h2 h3)]
theorem Nl {w:Ws} {ord:List Nat} {i:Nat} (hn:∀k∈depL w i,k≠i):Oq w ord i (parts w).length↔Fl (depL w) ord i=true:=by
 rw [CS];exact ⟨fun h=>⟨h.1,fun k hk=>Classical.byContradiction fun h2=>h.2 k (Gj hk) (hn k hk) h2 hk⟩,fun h=>⟨h.1,fun j _ _ h2 h3=>h2 (h.2 j h3)⟩⟩
theorem Nm {w:Ws} (hw:Ba w) {i:Nat}:∀k∈depL w i,k≠i:=fun k hk e=>((Bx hw).1 hk).1 e.symm
def encR:Option Nat ->Int
 | none=> -1
 | some x=>(x:Int)
structure LRd (w:Ws) (ord:List Nat) (m:Nat) (o:Option Nat):Prop where
 nn:o=none ->∀i,m≤i ->i<(parts w).length ->Fl (depL w) ord i=false
 so:∀x,o=some x ->x<(parts w).length∧Fl (depL w) ord x=true∧∀i,m≤i ->i<x ->Fl (depL w) ord i=false
theorem O7 {w:Ws} {ord:List Nat} {m:Nat} (h:m=(parts w).length):LRd w ord m none:=⟨fun _ i hi hl=>by omega,fun x e=>(by cases e)⟩
theorem lrd_hit {w:Ws} {ord:List Nat} {i:Nat} (hi:i<(parts w).length) (h:Fl (depL w) ord i=true):LRd w ord i (some i):=⟨fun e=>(by cases e),fun x e=>by injection e with e;subst e;exact ⟨hi,h,fun j h1 h2=>by omega⟩⟩
theorem QD {w:Ws} {ord:List Nat} {i:Nat} {o:Option Nat} (h:LRd w ord (i+1) o) (hn:Fl (depL w) ord i=false):LRd w ord i o:=
 ⟨fun e j hj hl=>by
  by_cases e2:j=i
  ·rw [e2];exact hn
  ·exact h.nn e j (by omega) hl,fun x e=>⟨(h.so x e).1,(h.so x e).2.1,fun j hj hl=>by
  by_cases e2:j=i
  ·rw [e2];exact hn
  ·exact (h.so x e).2.2 j (by omega) hl⟩⟩
noncomputable def aftT (w:Ws) (ord:List Nat) (x k:Nat):List Nat:=(List.range k).filter fun p=>(depL w x).contains (ord.getD p 0)
theorem Qk {w:Ws} {ord:List Nat} {x k:Nat} (h:ord.getD k 0∈depL w x):aftT w ord x (k+1)=aftT w ord x k++ [k]:=by
 unfold aftT;rw [List.range_succ,List.filter_append];simp [List.getD_eq_getElem?_getD] at h⊢;simp [h]
theorem Ol {w:Ws} {ord:List Nat} {x k:Nat} (h:ord.getD k 0∉depL w x):aftT w ord x (k+1)=aftT w ord x k:=by
 unfold aftT;rw [List.range_succ,List.filter_append];simp [List.getD_eq_getElem?_getD] at h⊢;simp [h]
theorem MW (w:Ws) (ord:List Nat) (x k:Nat):(aftT w ord x k).length≤k:=by
 unfold aftT;exact Nat.le_trans (List.length_filter_le _ _) (by simp)
theorem eqI {a b:Int} (h:a=b):AV.d (Bt a)=AV.d (Bt b):=by rw [h]
set_option maxHeartbeats 2000000 in
theorem L9 (w:Ws) (hw:Ba w) (hl:w.K.length≤2000000):B4 Try.prog 37 [.d (LH w)] (if acyW w=true then .tup [DF (groupsW w),Ar true] else .tup [.sl (some true) [],Ar false]):=by
 have hfew:=hw.few
 obtain ⟨n,hn⟩:∃n,(parts w).length=n:=⟨_,rfl⟩
 have hnR:n≤4096:=by rw [←hn];unfold parts;rw [List.length_map];exact Nat.le_trans (List.length_filter_le _ _) hfew
 have hpl:∀i,((parts w).getD i []).length≤2000000:=fun i=>by
  by_cases hi:i<(parts w).length
  ·have h1:=(EC (I0 hw (List.mem_of_getElem? (Fe hi)))).length_le_of_subset (l₂:=w.R) fun y hy=>((Ka hw hi).1 hy).1;omega
  ·rw [List.getD_eq_getElem?_getD,List.getElem?_eq_none (by omega)];exact Nat.zero_le _
 refine DY Try.func37 Z Z Try.ntmps37 Z Z Z fun F hF=>(AG (AI (U (Iz 20 Z Z Z Z Z Z Z) (AD Z Z (AD Z Z (AF (AG (AI ?_))))))))
 first | refine J (BW Z Z AP rfl) ?_ | refine J (BX Z Z AP Z Z Z) ?_ | refine J (BY Z Z (rfl) rfl AP rfl) ?_
 refine J (DW (all_p w hw hl) Z Z) (AD Z Z ?_);refine AF (AG (AI (AC Z Z (J (CG rfl ((List.length_map ..).trans hn) Try.underlying79 rfl) (U (Ho 21 sl99 Z Z Z (by omega) zd4 Z Z Z Z) (AD Z Z (AF (AG ?_))))))));rw [repB];refine AI (AD Z Z (AF ?_));refine AG (Fg 6 30 sl73 Z Z Z Z (AI (AD Z Z (AF (AG (B9 (Fg 7 31 Ex Z Z Z Z (Fm (α:=List Nat×List Grp) (fun q=>⟨110,[(1,(.ptr 20 0 0)),(4,(.d (Cz (parts w)))),(5,(.own 21 0 n)),(6,(.own 30 0 q.2.length)),(7,(.own 31 0 q.1.length))],[It 20 w,(21,[.rowD 4 1 (JR n q.1)]),(30,[.rowD 76 2 (q.2.map Hh)]),(31,[.rowD 3 1 (q.1.map natD)])]⟩) (fun q=>HQ w q.1∧q.2=grpS w q.1) (fun q=>n - q.1.length) (([],[])) (⟨HQ.zero w,rfl⟩) (BK hF [20,21,30,31] Z Z ⟨rfl,rfl,rfl,rfl,rfl,trivial⟩) ?_))))))));rintro ⟨ord,gs⟩ ⟨hI,hgs⟩;dsimp only at hI hgs⊢;refine AG (AG (AI (AC Z Z ?_)))
 first | refine J (JL rfl Try.underlying73 rfl) ?_ | refine J (CG Z Z Try.underlying73 rfl) ?_ | refine J (JG rfl Try.underlying73 rfl) ?_ | refine J (JJ rfl Try.underlying73 rfl) ?_ | refine J (JF rfl Try.underlying73 rfl) ?_ | refine J (Ix rfl Try.underlying73 rfl) ?_
 refine AC Z Z (J (CG rfl ((List.length_map ..).trans hn) Try.underlying79 rfl) ?_)
 first | refine J (Eo Z Z Z) ?_ | refine J (Ep Z Z Z) ?_
 refine AF ?_
 first | refine BG rfl (fun h23=>?_) (fun h23=>?_) | refine BB rfl (fun h23=>?_) (fun h23=>?_)
 ·refine An (B9 (AG ?_));have hgl:gs.length=ord.length:=by rw [hgs,FF]
  have hlt:gs.length<n:=H9 h23;refine AI (AD Z Z (AF (AG (AG ?_))));refine AI (AC Z Z (J (CG rfl ((List.length_map ..).trans hn) Try.underlying79 rfl) (J (DN Z Z (IntWalk.i64_in _ (by omega)) rfl) (Mx 26 (.d (Bt ((n:Int) - 1 - ((0:Nat):Int)))) rfl (eqI (by omega)) (AD Z Z (AF (B9 (Fm (α:=Nat×Option Nat) (fun q=>⟨110,[(1,(.ptr 20 0 0)),(4,(.d (Cz (parts w)))),(5,(.own 21 0 n)),(6,(.own 30 0 gs.length)),(7,(.own 31 0 ord.length)),(8,(.d (Bt (encR q.2)))),(9,(.d (Bt ((n:Int) - 1 - (q.1:Int)))))],[It 20 w,(21,[.rowD 4 1 (JR n ord)]),(30,[.rowD 76 2 (gs.map Hh)]),(31,[.rowD 3 1 (ord.map natD)])]⟩) (fun q=>q.1≤n∧LRd w ord (n - q.1) q.2) (fun q=>n - q.1) ((0,none)) (⟨Nat.zero_le _,O7 hn.symm⟩) (BK hF [20,21,30,31] Z Z ⟨rfl,rfl,rfl,rfl,rfl,rfl,rfl,trivial⟩) ?_))))))));rintro ⟨d,o⟩ ⟨hd,hLA⟩;dsimp only at hd hLA⊢;refine AG (AG (AI (AC Z Z (J (KX Z Z Z) (AF ?_)))))
  first | refine BG rfl (fun h28=>?_) (fun h28=>?_) | refine BB rfl (fun h28=>?_) (fun h28=>?_)
  ·refine An (AG (B9 (AG ?_)));have hdl:d<n:=by have:=h28;omega
   refine NV 9 (.d (natD (n - 1 - d))) rfl (eqI (by omega)) ?_
   obtain ⟨i,hie⟩:∃i,n - 1 - d=i:=⟨_,rfl⟩
   rw [hie];have hil:i<n:=by omega
   have hil2:i<(parts w).length:=by omega
   have hie2:i=n - (d+1):=by omega
   have hie3:n - d=i+1:=by omega
   refine AI (AC Z Z (AC Z Z ?_))
   first | refine J (BM (i) Z Z (rfl) (hil) Try.underlying99 rfl Ou rfl) ?_ | refine J (BN (i) Z Z (rfl) (hil) rfl Try.underlying99 Ou rfl) ?_
   first | refine J (AY Z Z on4 rfl) ?_ | refine J (AW Z Z Z on4 rfl) ?_ | refine J (AX Z Z (IW hil) rfl on4 rfl) ?_
   first | refine J (El Z Z) ?_ | refine J (Ek Z Z) ?_
   refine Mx 35 (.d (Ar (decide (Oq w ord i 0)))) rfl QX ?_;refine AD Z Z (AF (AG (AG (AI (AD Z Z (AF (B9 (Fm (α:=Nat) (fun k=>⟨110,[(1,(.ptr 20 0 0)),(4,(.d (Cz (parts w)))),(5,(.own 21 0 n)),(6,(.own 30 0 gs.length)),(7,(.own 31 0 ord.length)),(8,(.d (Bt (encR o)))),(9,(.d (natD i))),(10,(.d (Ar (decide (Oq w ord i k))))),(11,(.d (natD k)))],[It 20 w,(21,[.rowD 4 1 (JR n ord)]),(30,[.rowD 76 2 (gs.map Hh)]),(31,[.rowD 3 1 (ord.map natD)])]⟩) (fun k=>k≤n) (fun k=>n - k) (0) (Nat.zero_le _) (BK hF [20,21,30,31] Z Z ⟨rfl,rfl,rfl,rfl,rfl,rfl,rfl,rfl,rfl,trivial⟩) ?_))))))));intro k hk;refine AG (AG (AI (AC Z Z (AC Z Z (J (CG rfl ((List.length_map ..).trans hn) Try.underlying79 rfl) ?_)))))
   first | refine J (Eo Z Z Z) ?_ | refine J (Ep Z Z Z) ?_
   refine AF ?_
   first | refine BG rfl (fun h39=>?_) (fun h39=>?_) | refine BB rfl (fun h39=>?_) (fun h39=>?_)
   ·refine An (AG (B9 (AG ?_)));have hkl:k<n:=H9 h39;have hkl2:k<(parts w).length:=by omega
    refine Fh [[],[],[0,1],[0,1,2],[0,1,2,3],[0,1,2,3],[0,1,2,3,4,5],[0,1,2,3,4,5,6],[0,1,2,3,4,5,6,7],[0,1,2,3,4,5,6,7,8],[0,1,2,3,4,5,6,7,8,9],[0,1,2,3,4,5,6,7,8,9,10],[0,1,2,3,4,5,6,7,8,9,10],[0,1,2,3,4,5,6,7,8,9,10],[0,1,2,3,4,5,6,7,8,9,10,12,13],[0,1,2,3,4,5,6,7,8,9,10,12,13,14],[0,1,2,3,4,5,6,7,8,9,10],[0,1,2,3,4,5,6,7,8,9,10],[0,1,2,3,4,5,6,7,8,9,10,16,17],[0,1,2,3,4,5,6,7,8,9,10,16,17,18],[0,1,2,3,4,5,6,7,8,9,10,11,12,13,14,15,16,17,18,19],[0,1,2,3,4,5,6,7,8,9,10,11,12,13,14,15,16,17,18,19,20]] mixed rfl (EK ?_)
    first | refine AE [9] [] Z Z (fun _=>AB (Aa Z Z)) ?_ | refine AH [9] Z Z (fun _=>AB (Aa Z Z)) ?_
    first | refine AE [11] [] Z Z (fun _=>AB (Aa Z Z)) ?_ | refine AH [11] Z Z (fun _=>AB (Aa Z Z)) ?_
    refine EL 2 Z Z Z (B6 3 Z Z ?_)
    first | refine J (IH Z Z Z) ?_ | refine J (IG Z Z Z) ?_ | refine J (Hm Z Z Z) ?_ | refine J (IB Try.underlying3 Z Z Z) ?_ | refine J (ID Try.underlying3 Z Z Z) ?_ | refine J (st_neqN Try.underlying3 Z Z) ?_ | refine J (st_neqPr Try.underlying3 Z Z) ?_ | refine J (st_neqMz Try.underlying3 Z Z) ?_ | refine J (IC Try.underlying3 Z Z Z) ?_ | refine J (st_neqFN Try.underlying3 Z Z) ?_
    refine AF ⟨rfl,?_⟩;refine B6 4 Z Z (AC Z Z ?_)
    first | refine KL 45 rfl (fun h45=>?_) (fun h45=>?_) | refine JH 45 rfl (fun h45=>?_) (fun h45=>?_)
    ·refine AF ⟨rfl,?_⟩;refine EK ?_
     first | refine AE [5,45] [] Z Z (fun _=>Au Z Z Z (Aa Z Z)) ?_ | refine AH [5,45] Z Z (fun _=>Au Z Z Z (Aa Z Z)) ?_
     first | refine AE [11,45] [] Z Z (fun _=>Au Z Z Z (Aa Z Z)) ?_ | refine AH [11,45] Z Z (fun _=>Au Z Z Z (Aa Z Z)) ?_
     refine EL 6 Z Z Z (B6 7 Z Z (Ab Z Z Z ?_))
     first | refine J (BM (k) Z Z (rfl) (hkl) Try.underlying99 rfl Ou rfl) ?_ | refine J (BN (k) Z Z (rfl) (hkl) rfl Try.underlying99 Ou rfl) ?_
     refine AF ⟨rfl,?_⟩;refine B6 8 Z Z (Ab Z Z Z ?_)
     first | refine J (AY Z Z on4 rfl) ?_ | refine J (AW Z Z Z on4 rfl) ?_ | refine J (AX Z Z (IW hkl) rfl on4 rfl) ?_
     refine AF ⟨rfl,?_⟩;refine B6 9 Z Z (Ab Z Z Z ?_)
     first | refine J (El Z Z) ?_ | refine J (Ek Z Z) ?_
     refine AF ⟨rfl,?_⟩;refine B6 10 Z Z (J (H8 Z Z Z Z) (AF ⟨rfl,?_⟩));refine B6 11 Z Z (AC Z Z ?_)
     first | refine KL 52 rfl (fun h52=>?_) (fun h52=>?_) | refine JH 52 rfl (fun h52=>?_) (fun h52=>?_)
     ·refine AF ⟨rfl,?_⟩;refine EK ?_
      first | refine AE [1,52] [20] Z Z (fun _=>Au Z Z Z (BW Z Z AP rfl)) ?_ | refine AE [1,52] [20] Z Z (fun _=>Au Z Z Z (BX Z Z AP Z Z Z)) ?_ | refine AE [1,52] [20] Z Z (fun _=>Au Z Z Z (BY Z Z (rfl) rfl AP rfl)) ?_
      first | refine AE [4,52] [] Z Z (fun _=>Au Z Z Z (Aa Z Z)) ?_ | refine AH [4,52] Z Z (fun _=>Au Z Z Z (Aa Z Z)) ?_
      first | refine AE [9,52] [] Z Z (fun _=>Au Z Z Z (Aa Z Z)) ?_ | refine AH [9,52] Z Z (fun _=>Au Z Z Z (Aa Z Z)) ?_
      first | refine AE [54,55,52] [] Z Z (fun _=>Au Z Z Z (BM (i) Z Z (rfl) (JI hil2) Try.underlying79 rfl CD rfl)) ?_ | refine AH [54,55,52] Z Z (fun _=>Au Z Z Z (BM (i) Z Z (rfl) (JI hil2) Try.underlying79 rfl CD rfl)) ?_ | refine AE [54,55,52] [] Z Z (fun _=>Au Z Z Z (BN (i) Z Z (rfl) (JI hil2) rfl Try.underlying79 CD rfl)) ?_ | refine AH [54,55,52] Z Z (fun _=>Au Z Z Z (BN (i) Z Z (rfl) (JI hil2) rfl Try.underlying79 CD rfl)) ?_
      first | refine AE [56,52] [] Z Z (fun _=>Au Z Z Z (AY Z Z AR rfl)) ?_ | refine AH [56,52] Z Z (fun _=>Au Z Z Z (AY Z Z AR rfl)) ?_ | refine AE [56,52] [] Z Z (fun _=>Au Z Z Z (AW Z Z Z AR rfl)) ?_ | refine AH [56,52] Z Z (fun _=>Au Z Z Z (AW Z Z Z AR rfl)) ?_ | refine AE [56,52] [] Z Z (fun _=>Au Z Z Z (AX Z Z (rfl) rfl AR rfl)) ?_ | refine AH [56,52] Z Z (fun _=>Au Z Z Z (AX Z Z (rfl) rfl AR rfl)) ?_
      first | refine AE [4,52] [] Z Z (fun _=>Au Z Z Z (Aa Z Z)) ?_ | refine AH [4,52] Z Z (fun _=>Au Z Z Z (Aa Z Z)) ?_
      first | refine AE [11,52] [] Z Z (fun _=>Au Z Z Z (Aa Z Z)) ?_ | refine AH [11,52] Z Z (fun _=>Au Z Z Z (Aa Z Z)) ?_
      first | refine AE [58,59,52] [] Z Z (fun _=>Au Z Z Z (BM (k) Z Z (rfl) (JI hkl2) Try.underlying79 rfl CD rfl)) ?_ | refine AH [58,59,52] Z Z (fun _=>Au Z Z Z (BM (k) Z Z (rfl) (JI hkl2) Try.underlying79 rfl CD rfl)) ?_ | refine AE [58,59,52] [] Z Z (fun _=>Au Z Z Z (BN (k) Z Z (rfl) (JI hkl2) rfl Try.underlying79 CD rfl)) ?_ | refine AH [58,59,52] Z Z (fun _=>Au Z Z Z (BN (k) Z Z (rfl) (JI hkl2) rfl Try.underlying79 CD rfl)) ?_
      first | refine AE [60,52] [] Z Z (fun _=>Au Z Z Z (AY Z Z AR rfl)) ?_ | refine AH [60,52] Z Z (fun _=>Au Z Z Z (AY Z Z AR rfl)) ?_ | refine AE [60,52] [] Z Z (fun _=>Au Z Z Z (AW Z Z Z AR rfl)) ?_ | refine AH [60,52] Z Z (fun _=>Au Z Z Z (AW Z Z Z AR rfl)) ?_ | refine AE [60,52] [] Z Z (fun _=>Au Z Z Z (AX Z Z (rfl) rfl AR rfl)) ?_ | refine AH [60,52] Z Z (fun _=>Au Z Z Z (AX Z Z (rfl) rfl AR rfl)) ?_
      refine EL 20 Z Z Z (B6 21 Z Z (Ab Z Z Z (J (DW (Jy w ((parts w).getD i []) ((parts w).getD k []) hl (hpl _) (hpl _)) Z Z) (AF ⟨rfl,?_⟩))));refine B6 22 Z Z (J (H8 Z Z Z Z) (AF ⟨rfl,?_⟩));refine Es ?_
      first | refine BG rfl (fun h63=>?_) (fun h63=>?_) | refine BB rfl (fun h63=>?_) (fun h63=>?_)
      ·refine AI (AD Z Z (AF (NV 10 (.d (Ar (decide (Oq w ord i (k+1))))) rfl (by first | exact Km (fun e=>h45 (by rw [e])) h52 ((CA hw hil2 hkl2 (fun e=>h45 (by rw [e]))).1 h63) | exact Ov (.inr (.inr fun hh=>h63 ((CA hw hil2 hkl2 (fun e=>h45 (by rw [e]))).2 hh))) | exact Ov (.inr (.inl (Classical.not_not.1 h52))) | exact Ov (.inl (Int.ofNat.inj (Classical.not_not.1 h45)).symm)) (AI (AC Z Z (J (DA Z Z (IntWalk.i64_in _ (by omega)) rfl) (AD Z Z (AF ?_))))))));exact ⟨k+1,hkl,by omega,BK hF [20,21,30,31] rfl (rfl) ⟨rfl,rfl,rfl,rfl,rfl,rfl,rfl,rfl,rfl,trivial⟩⟩
      ·refine An (NV 10 (.d (Ar (decide (Oq w ord i (k+1))))) rfl (by first | exact Km (fun e=>h45 (by rw [e])) h52 ((CA hw hil2 hkl2 (fun e=>h45 (by rw [e]))).1 h63) | exact Ov (.inr (.inr fun hh=>h63 ((CA hw hil2 hkl2 (fun e=>h45 (by rw [e]))).2 hh))) | exact Ov (.inr (.inl (Classical.not_not.1 h52))) | exact Ov (.inl (Int.ofNat.inj (Classical.not_not.1 h45)).symm)) (AI (AC Z Z (J (DA Z Z (IntWalk.i64_in _ (by omega)) rfl) (AD Z Z (AF ?_))))));exact ⟨k+1,hkl,by omega,BK hF [20,21,30,31] rfl (rfl) ⟨rfl,rfl,rfl,rfl,rfl,rfl,rfl,rfl,rfl,trivial⟩⟩
     ·refine AF ⟨rfl,?_⟩;refine EK (AE [1,52] [] Z Z (fun _=>KO Z Z Z Z) (AE [4,52] [] Z Z (fun _=>KO Z Z Z Z) (AE [9,52] [] Z Z (fun _=>KO Z Z Z Z) (AE [54,55,52] [] Z Z (fun _=>KO Z Z Z Z) ?_))));refine AE [56,52] [] Z Z (fun _=>KO Z Z Z Z) (AE [4,52] [] Z Z (fun _=>KO Z Z Z Z) (AE [11,52] [] Z Z (fun _=>KO Z Z Z Z) (AE [58,59,52] [] Z Z (fun _=>KO Z Z Z Z) (AE [60,52] [] Z Z (fun _=>KO Z Z Z Z) (EL 20 Z Z Z (B6 21 Z Z (BH Z Z Z Z (AF ⟨rfl,?_⟩))))))));refine B6 22 Z Z (J (GR Z Z Z Z) (AF ⟨rfl,?_⟩));refine Es (Dk Z Z (An (NV 10 (.d (Ar (decide (Oq w ord i (k+1))))) rfl (by first | exact Km (fun e=>h45 (by rw [e])) h52 ((CA hw hil2 hkl2 (fun e=>h45 (by rw [e]))).1 h63) | exact Ov (.inr (.inr fun hh=>h63 ((CA hw hil2 hkl2 (fun e=>h45 (by rw [e]))).2 hh))) | exact Ov (.inr (.inl (Classical.not_not.1 h52))) | exact Ov (.inl (Int.ofNat.inj (Classical.not_not.1 h45)).symm)) (AI (AC Z Z (J (DA Z Z (IntWalk.i64_in _ (by omega)) rfl) (AD Z Z (AF ?_))))))));exact ⟨k+1,hkl,by omega,BK hF [20,21,30,31] rfl (rfl) ⟨rfl,rfl,rfl,rfl,rfl,rfl,rfl,rfl,rfl,trivial⟩⟩
    ·refine AF ⟨rfl,?_⟩;refine EK (AE [5,45] [] Z Z (fun _=>KO Z Z Z Z) (AE [11,45] [] Z Z (fun _=>KO Z Z Z Z) (EL 6 Z Z Z (B6 7 Z Z (BH Z Z Z Z (AF ⟨rfl,?_⟩))))));refine B6 8 Z Z (BH Z Z Z Z (AF ⟨rfl,?_⟩));refine B6 9 Z Z (BH Z Z Z Z (AF ⟨rfl,?_⟩));refine B6 10 Z Z (J (GR Z Z Z Z) (AF ⟨rfl,?_⟩));refine B6 11 Z Z (AC Z Z (AF ⟨rfl,?_⟩));refine EK (AE [1,52] [] Z Z (fun _=>KO Z Z Z Z) (AE [4,52] [] Z Z (fun _=>KO Z Z Z Z) (AE [9,52] [] Z Z (fun _=>KO Z Z Z Z) (AE [54,55,52] [] Z Z (fun _=>KO Z Z Z Z) ?_))));refine AE [56,52] [] Z Z (fun _=>KO Z Z Z Z) (AE [4,52] [] Z Z (fun _=>KO Z Z Z Z) (AE [11,52] [] Z Z (fun _=>KO Z Z Z Z) (AE [58,59,52] [] Z Z (fun _=>KO Z Z Z Z) (AE [60,52] [] Z Z (fun _=>KO Z Z Z Z) (EL 20 Z Z Z (B6 21 Z Z (BH Z Z Z Z (AF ⟨rfl,?_⟩))))))));refine B6 22 Z Z (J (GR Z Z Z Z) (AF ⟨rfl,?_⟩));refine Es (Dk Z Z (An (NV 10 (.d (Ar (decide (Oq w ord i (k+1))))) rfl (by first | exact Km (fun e=>h45 (by rw [e])) h52 ((CA hw hil2 hkl2 (fun e=>h45 (by rw [e]))).1 h63) | exact Ov (.inr (.inr fun hh=>h63 ((CA hw hil2 hkl2 (fun e=>h45 (by rw [e]))).2 hh))) | exact Ov (.inr (.inl (Classical.not_not.1 h52))) | exact Ov (.inl (Int.ofNat.inj (Classical.not_not.1 h45)).symm)) (AI (AC Z Z (J (DA Z Z (IntWalk.i64_in _ (by omega)) rfl) (AD Z Z (AF ?_))))))));exact ⟨k+1,hkl,by omega,BK hF [20,21,30,31] rfl (rfl) ⟨rfl,rfl,rfl,rfl,rfl,rfl,rfl,rfl,rfl,trivial⟩⟩
   ·refine Eg (AG ?_);have hkn:n=k:=by have:=h39;omega
    subst hkn;refine AI (AC Z Z (AF ?_))
    first | refine BG rfl (fun h64=>?_) (fun h64=>?_) | refine BB rfl (fun h64=>?_) (fun h64=>?_)
    ·refine AI ?_;refine AC Z Z (AD Z Z (AF (AI (AC Z Z (J (DN Z Z (IntWalk.i64_in _ (by omega)) rfl) (Mx 30 (.d (Bt ((n:Int) - 1 - ((d+1:Nat):Int)))) rfl (eqI (by omega)) (AD Z Z (AF ?_))))))));exact ⟨(d+1,some i),⟨hdl,hie2▸lrd_hit hil2 ((Nl (Nm hw)).1 (by rw [hn];exact h64))⟩,by show n - (d+1)<n - d;omega,BK hF [20,21,30,31] rfl (rfl) ⟨rfl,rfl,rfl,rfl,rfl,rfl,rfl,trivial⟩⟩
    ·refine An (AI (AC Z Z (J (DN Z Z (IntWalk.i64_in _ (by omega)) rfl) (Mx 30 (.d (Bt ((n:Int) - 1 - ((d+1:Nat):Int)))) rfl (eqI (by omega)) (AD Z Z (AF ?_))))));exact ⟨(d+1,o),⟨hdl,hie2▸QD (hie3▸hLA) (by rw [Bool.eq_false_iff];exact fun hc=>h64 (by have:=(Nl (Nm hw)).2 hc;rw [hn] at this;exact this))⟩,by show n - (d+1)<n - d;omega,BK hF [20,21,30,31] rfl (rfl) ⟨rfl,rfl,rfl,rfl,rfl,rfl,rfl,trivial⟩⟩
  ·refine Eg (AG (AG ?_));have hdn:n - d=0:=by have:=h28;omega
   rw [hdn] at hLA;refine AI (AC Z Z ?_)
   first | refine J (Eo Z Z Z) ?_ | refine J (Ep Z Z Z) ?_
   refine AF ?_
   first | refine BG rfl (fun h67=>?_) (fun h67=>?_) | refine BB rfl (fun h67=>?_) (fun h67=>?_)
   ·refine AG (AI (AD Z Z (AD Z Z (AF (Ay ?_)))));have hon:o=none:=by cases o with | none=>rfl | some x=>exact absurd h67 (by show ¬((x:Int)<0);omega)
    obtain ⟨g1,g2⟩:=Kl (hI.stop (by omega) (Ln fun i hi=>hLA.nn hon i (Nat.zero_le _) hi));exact ⟨_,[],[],Av rfl,rfl,rfl,by rw [g2];rfl,rfl⟩
   ·refine An (AG ?_);obtain ⟨x,hx⟩:∃x,o=some x:=by cases o with | none=>exact absurd (show encR none<0 by decide) h67 | some x=>exact ⟨x,rfl⟩
    subst hx;obtain ⟨hx2,hxr,hxm⟩:=hLA.so x rfl;have hxl:x<n:=by omega
    have hnx:=E4 hx2 hxr (fun j hj=>hxm j (Nat.zero_le _) hj);obtain ⟨_,hxo,_⟩:=EH hnx;refine NV 8 (.d (natD x)) Z Z (AI (AC Z Z (AC Z Z ?_)))
    first | refine J (BM (x) Z Z (rfl) (hxl) Try.underlying99 rfl Ou rfl) ?_ | refine J (BN (x) Z Z (rfl) (hxl) rfl Try.underlying99 Ou rfl) ?_
    refine U (Zcp Z Z Z Z Z (by rw [L5];exact hxl) L4 rfl Ou) (AF (AG (AI (AC Z Z (AC Z Z ?_)))))
    first | refine J (BM (x) Z Z (rfl) (JI hx2) Try.underlying79 rfl CD rfl) ?_ | refine J (BN (x) Z Z (rfl) (JI hx2) rfl Try.underlying79 CD rfl) ?_
    first | refine J (AY Z Z AR rfl) ?_ | refine J (AW Z Z Z AR rfl) ?_ | refine J (AX Z Z (rfl) rfl AR rfl) ?_
    refine J (M8 zl76 pl76 Z Z Z) (U (IF 40 zl76 Z Z Z Z) (U (Bu Z Z Z Z Z Z Z Gs) ?_));refine AF (AG (AG (AI (AD Z Z (AF (B9 (DU 40 0 1 41 Ex Z Z Z Z Z Z Z (Fm (α:=Nat×List Nat) (fun q=>⟨110,[(1,(.ptr 20 0 0)),(4,(.d (Cz (parts w)))),(5,(.own 21 0 n)),(6,(.own 30 0 gs.length)),(7,(.own 31 0 ord.length)),(8,(.d (natD x))),(12,(.ptr 40 0 0)),(13,(.d (natD q.1)))],[It 20 w,(21,[.rowD 4 1 (JR n (ord++ [x]))]),(30,[.rowD 76 2 (gs.map Hh)]),(31,[.rowD 3 1 (ord.map natD)]),(40,[.blk 76 [.d (stsD ((parts w).getD x [])),.own 41 0 q.2.length]]),(41,[.rowD 3 1 (q.2.map natD)])]⟩) (fun q=>q.1≤ord.length∧q.2=aftT w ord x q.1) (fun q=>ord.length - q.1) ((0,[])) (⟨Nat.zero_le _,rfl⟩) (BK hF [20,21,30,31,40,41] Z Z ⟨rfl,rfl,rfl,rfl,rfl,rfl,rfl,rfl,trivial⟩) ?_))))))));rintro ⟨p,acc⟩ ⟨hp,hacc⟩;dsimp only at hp hacc⊢;refine AG (AG (AI (AC Z Z (AC Z Z ?_))))
    first | refine J (JL rfl Try.underlying49 rfl) ?_ | refine J (CG Z Z Try.underlying49 rfl) ?_ | refine J (JG rfl Try.underlying49 rfl) ?_ | refine J (JJ rfl Try.underlying49 rfl) ?_ | refine J (JF rfl Try.underlying49 rfl) ?_ | refine J (Ix rfl Try.underlying49 rfl) ?_
    first | refine J (Eo Z Z Z) ?_ | refine J (Ep Z Z Z) ?_
    refine AF ?_
    first | refine BG rfl (fun h79=>?_) (fun h79=>?_) | refine BB rfl (fun h79=>?_) (fun h79=>?_)
    ·refine An (AG (B9 (AG ?_)));have hpl2:p<ord.length:=H9 h79;have hyl:CZ ord p<(parts w).length:=hI.good.lt _ (F8 hpl2);have hal:acc.length≤4096:=by have:=MW w ord x p;rw [←hacc] at this;omega
     refine Fh [[],[],[],[1,2],[1,2,3],[],[],[],[6,7],[6,7,8],[5,6,7,8,9],[5,6,7,8,9,10],[0,1,2,3,4,5,6,7,8,9,10,11]] mixed rfl (EK ?_)
     first | refine AE [1] [20] Z Z (fun _=>AB (BW Z Z AP rfl)) ?_ | refine AE [1] [20] Z Z (fun _=>AB (BX Z Z AP Z Z Z)) ?_ | refine AE [1] [20] Z Z (fun _=>AB (BY Z Z (rfl) rfl AP rfl)) ?_
     first | refine AE [4] [] Z Z (fun _=>AB (Aa Z Z)) ?_ | refine AH [4] Z Z (fun _=>AB (Aa Z Z)) ?_
     first | refine AE [8] [] Z Z (fun _=>AB (Aa Z Z)) ?_ | refine AH [8] Z Z (fun _=>AB (Aa Z Z)) ?_
     first | refine AE [83,84] [] Z Z (fun _=>AB (BM (x) Z Z (rfl) (JI hx2) Try.underlying79 rfl CD rfl)) ?_ | refine AH [83,84] Z Z (fun _=>AB (BM (x) Z Z (rfl) (JI hx2) Try.underlying79 rfl CD rfl)) ?_ | refine AE [83,84] [] Z Z (fun _=>AB (BN (x) Z Z (rfl) (JI hx2) rfl Try.underlying79 CD rfl)) ?_ | refine AH [83,84] Z Z (fun _=>AB (BN (x) Z Z (rfl) (JI hx2) rfl Try.underlying79 CD rfl)) ?_
     first | refine AE [85] [] Z Z (fun _=>AB (AY Z Z AR rfl)) ?_ | refine AH [85] Z Z (fun _=>AB (AY Z Z AR rfl)) ?_ | refine AE [85] [] Z Z (fun _=>AB (AW Z Z Z AR rfl)) ?_ | refine AH [85] Z Z (fun _=>AB (AW Z Z Z AR rfl)) ?_ | refine AE [85] [] Z Z (fun _=>AB (AX Z Z (rfl) rfl AR rfl)) ?_ | refine AH [85] Z Z (fun _=>AB (AX Z Z (rfl) rfl AR rfl)) ?_
     first | refine AE [4] [] Z Z (fun _=>AB (Aa Z Z)) ?_ | refine AH [4] Z Z (fun _=>AB (Aa Z Z)) ?_
     first | refine AE [7] [] Z Z (fun _=>AB (Aa Z Z)) ?_ | refine AH [7] Z Z (fun _=>AB (Aa Z Z)) ?_
     first | refine AE [13] [] Z Z (fun _=>AB (Aa Z Z)) ?_ | refine AH [13] Z Z (fun _=>AB (Aa Z Z)) ?_
     first | refine AE [88,89] [31] Z Z (fun _=>AB (BM (p) Z Z (rfl) (hpl2) Try.underlying49 rfl DZ rfl)) ?_ | refine AE [88,89] [31] Z Z (fun _=>AB (BN (p) Z Z (rfl) (hpl2) rfl Try.underlying49 DZ rfl)) ?_
     first | refine AE [90] [31] Z Z (fun _=>AB (AY Z Z B8 rfl)) ?_ | refine AE [90] [31] Z Z (fun _=>AB (AW Z Z Z B8 rfl)) ?_ | refine AE [90] [31] Z Z (fun _=>AB (AX Z Z (DT hpl2) rfl B8 rfl)) ?_
     first | refine AE [87,91] [] Z Z (fun _=>AB (BM (CZ ord p) Z Z (rfl) (JI hyl) Try.underlying79 rfl CD rfl)) ?_ | refine AH [87,91] Z Z (fun _=>AB (BM (CZ ord p) Z Z (rfl) (JI hyl) Try.underlying79 rfl CD rfl)) ?_ | refine AE [87,91] [] Z Z (fun _=>AB (BN (CZ ord p) Z Z (rfl) (JI hyl) rfl Try.underlying79 CD rfl)) ?_ | refine AH [87,91] Z Z (fun _=>AB (BN (CZ ord p) Z Z (rfl) (JI hyl) rfl Try.underlying79 CD rfl)) ?_
     first | refine AE [92] [] Z Z (fun _=>AB (AY Z Z AR rfl)) ?_ | refine AH [92] Z Z (fun _=>AB (AY Z Z AR rfl)) ?_ | refine AE [92] [] Z Z (fun _=>AB (AW Z Z Z AR rfl)) ?_ | refine AH [92] Z Z (fun _=>AB (AW Z Z Z AR rfl)) ?_ | refine AE [92] [] Z Z (fun _=>AB (AX Z Z (rfl) rfl AR rfl)) ?_ | refine AH [92] Z Z (fun _=>AB (AX Z Z (rfl) rfl AR rfl)) ?_
     refine EL 12 Z Z Z (B6 13 Z Z (J (DW (Jy w ((parts w).getD x []) ((parts w).getD (CZ ord p) []) hl (hpl _) (hpl _)) Z Z) (AF ⟨rfl,?_⟩)));refine Es ?_
     first | refine BG rfl (fun h94=>?_) (fun h94=>?_) | refine BB rfl (fun h94=>?_) (fun h94=>?_)
     ·refine AI ?_
      first | refine J (A2 rfl GT Z Z Z) ?_ | refine J (A4 rfl GT Z Z Z) ?_ | refine J (A5 rfl GT Z Z Z) ?_ | refine J (A3 rfl GT Z Z Z) ?_ | refine J (A1 rfl GT Z Z Z) ?_
      first | refine J (AY Z Z A9 rfl) ?_ | refine J (AW Z Z Z A9 rfl) ?_ | refine J (AX Z Z (rfl) rfl A9 rfl) ?_
      refine AC Z Z (U (Gl 42 Ex Z Z Z Z Z Z Z Z) ?_)
      first | refine U (JE (acc) ([p]) Z Z Z Z Z Z Z Z Ex (by simp only [List.length_singleton];omega) Z Z Z Z) ?_ | refine U (KM (acc) ([p]) Z Z Z Z Z Z (fun _=>rfl) Ex (by simp only [List.length_singleton];omega) Z Z Z Z) ?_
      first | refine J (A2 rfl GT Z Z Z) ?_ | refine J (A4 rfl GT Z Z Z) ?_ | refine J (A5 rfl GT Z Z Z) ?_ | refine J (A3 rfl GT Z Z Z) ?_ | refine J (A1 rfl GT Z Z Z) ?_
      refine U (Bu Z Z Z Z Z Z Z Ci) (AF (AI (AC Z Z (J (DA Z Z (IntWalk.i64_in _ (by omega)) rfl) (AD Z Z (AF ?_))))));exact ⟨(p+1,acc++ [p]),⟨hpl2,by show _=aftT w ord x (p+1);rw [Qk ((CA hw hx2 hyl (fun e=>hxo (by rw [e];exact F8 hpl2))).1 h94),hacc]⟩,by show ord.length - (p+1)<ord.length - p;omega,BK hF [20,21,30,31,40,41] rfl (rfl) ⟨rfl,rfl,rfl,rfl,rfl,rfl,rfl,rfl,trivial⟩⟩
     ·refine An (AI (AC Z Z (J (DA Z Z (IntWalk.i64_in _ (by omega)) rfl) (AD Z Z (AF ?_)))));exact ⟨(p+1,acc),⟨hpl2,by show _=aftT w ord x (p+1);rw [Ol (fun hh=>h94 ((CA hw hx2 hyl (fun e=>hxo (by rw [e];exact F8 hpl2))).2 hh)),hacc]⟩,by show ord.length - (p+1)<ord.length - p;omega,BK hF [20,21,30,31,40,41] rfl (rfl) ⟨rfl,rfl,rfl,rfl,rfl,rfl,rfl,rfl,trivial⟩⟩
    ·refine Eg (AG ?_);have hpe:p=ord.length:=by have:=h79;omega
     have hac:acc=EO (depL w) ord x ord.length:=by rw [hacc,hpe];rfl
     refine CM (ys:=acc.map natD) 40 0 1 41 Z Z Z (Nat.le_of_eq (by rw [List.length_map])) (List.take_of_length_le (by rw [List.length_map];exact Nat.le_refl _)) Z Z Z Z Z Z ?_;rw [hac];refine AI (AC Z Z ?_)
     first | refine J (BW Z Z rw76 rfl) ?_ | refine J (BX Z Z rw76 Z Z Z) ?_ | refine J (BY Z Z (rfl) rfl rw76 rfl) ?_
     refine U (Gl 43 sl73 Z Z Z Z Z Z Z Z) ?_
     first | refine U (JE (gs) ([(⟨(parts w).getD x [],EO (depL w) ord x ord.length⟩:Grp)]) Z Z Z Z Z Z Z Z sl73 (by simp only [List.length_singleton];omega) Z Z Z Z) ?_ | refine U (KM (gs) ([(⟨(parts w).getD x [],EO (depL w) ord x ord.length⟩:Grp)]) Z Z Z Z Z Z (fun _=>rfl) sl73 (by simp only [List.length_singleton];omega) Z Z Z Z) ?_
     refine AD Z Z (AF (AI (AC Z Z (AC Z Z (U (Gl 44 Ex Z Z Z Z Z Z Z Z) ?_)))))
     first | refine U (JE (ord) ([x]) Z Z Z Z Z Z Z Z Ex (by simp only [List.length_singleton];omega) Z Z Z Z) ?_ | refine U (KM (ord) ([x]) Z Z Z Z Z Z (fun _=>rfl) Ex (by simp only [List.length_singleton];omega) Z Z Z Z) ?_
     refine AD Z Z (AF ?_);exact ⟨(ord++ [x],gs++ [⟨(parts w).getD x [],EO (depL w) ord x ord.length⟩]),⟨hI.next (by omega) hnx,by show _=grpS w (ord++ [x]);rw [Jw,hgs]⟩,by show n - (ord++ [x]).length<n - ord.length;rw [List.length_append,List.length_singleton];omega,BK hF [20,21,30,31] rfl (rfl) ⟨rfl,rfl,rfl,rfl,rfl,trivial⟩⟩
 ·refine Eg (AG ?_);obtain ⟨g1,g2⟩:=Hw (hI.fin (by have h1:=h23;have h2:gs.length=ord.length:=(by rw [hgs,FF]);omega));refine Zck (emb:=Hh) 6 30 gs Z Z Z Z Z Z Z (AI (AC Z Z (AD Z Z (AD Z Z (AF (Ay ?_))))));exact ⟨_,[],[],Av rfl,rfl,rfl,by rw [if_pos g2,g1,hgs],rfl⟩
end Go.Proofs.Ytlmedakidpaeeaa
