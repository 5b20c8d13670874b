/- Layer 29: problems with few items. -/
import Derived.Test.YtnkkaeblokdifaaGreatMg19
namespace Go.Proofs.YtnkkaeblokdifaaGreat
open Go.RowKit
set_option maxRecDepth 100000
abbrev G6 (n:Nat):D:= .raw (.int .u32 (n:Int))
structure Sma where
 ids:List Int
 bl:List Nat
 de:List (List Int)
 rm:List Int
abbrev rowZ (l:List Int):D:= .sl none (l.map AH)
abbrev Ld (s:Sma):D:= .agg [.sl none (s.ids.map AH),.sl none (s.bl.map G6),.sl none (s.de.map rowZ),.sl none (s.rm.map AH)]
def TY (s:Sma) (x:Nat) (i:Nat):Bool:=x.testBit i && decide (anU (s.bl.getD i 0) x≠0)
def admS (s:Sma) (x:Nat):Bool:=!(List.range s.bl.length).any (TY s x)
theorem Yg {n k:Nat} {p:Nat ->Bool} (h:∀i,i<k ->p i=false) (hk:¬k<n):(List.range n).any p=false:=by
 rw [List.any_eq_false];intro i hi;rw [h i (by have:=List.mem_range.1 hi;omega)];simp
theorem Ub {n k:Nat} {p:Nat ->Bool} (hk:k<n) (h:p k=true):(List.range n).any p=true:=List.any_eq_true.2 ⟨k,List.mem_range.2 hk,h⟩
theorem Pt {a i:Nat} (h:¬((((a>>>i) % 2:Nat):Int)=1)):a.testBit i=false:=by
 cases hh:a.testBit i with
 | false=>rfl
 | true=>exact absurd ((MD a i).2 hh) h
theorem admS_p (s:Sma) (x:Nat) (hx:x<4294967296) (hb:∀b∈s.bl,b<4294967296) (hl:s.bl.length≤32):AU Tryz.prog 62 [.d (.ptr (Ld s)),.d (G6 x)] (BJ (admS s x)):=by
 refine B2 Tryz.func62 Z Z Tryz.ntmps62 Z Z Z fun F hF=>(AF (AJ (AD Z Z (AG (AF (AF (AJ (AC Z Z ?_))))))))
 first | refine J (BS Z Z) ?_ | refine J (BQ Z Z) ?_ | refine J (BT Z Z) ?_ | refine J (BR Z Z) ?_
 first | refine J (AM rfl T5 Z Z Z) ?_ | refine J (AO rfl T5 Z Z Z) ?_ | refine J (AP rfl T5 Z Z Z) ?_ | refine J (AN rfl T5 Z Z Z) ?_ | refine J (AL rfl T5 Z Z Z) ?_
 first | refine J (AY Z Z OX rfl) ?_ | refine J (AW Z Z Z OX rfl) ?_ | refine J (AX Z Z (rfl) rfl OX rfl) ?_
 first | refine J (Cz rfl Tryz.underlying142 rfl) ?_ | refine J (C9 Z Z Tryz.underlying142 rfl) ?_ | refine J (DB rfl Tryz.underlying142 rfl) ?_ | refine J (Cy rfl Tryz.underlying142 rfl) ?_ | refine J (Cr rfl Tryz.underlying142 rfl) ?_ | refine J (Cw rfl Tryz.underlying142 rfl) ?_
 refine AC Z Z (AG (Al (EQ (α:=Nat) (fun k=>⟨29,[(1,.d (G6 x)),(10,(.d (.sl none (s.bl.map G6)))),(11,(.d (AH (s.bl.length:Int)))),(12,(.d (AH (k:Int))))],[]⟩) (fun k=>k≤s.bl.length∧∀i,i<k ->TY s x i=false) (fun k=>s.bl.length - k) (0) (⟨Nat.zero_le _,fun i h=>by omega⟩) (Ui ⟨rfl,rfl,rfl,rfl,trivial⟩) ?_)));rintro k ⟨hk0,hk⟩;refine AF (AJ ?_)
 first | refine J (CD Z Z Z) ?_ | refine J (CE Z Z Z) ?_
 refine AG (AF ?_)
 first | refine Ay rfl (fun h13=>?_) (fun h13=>?_) | refine At rfl (fun h13=>?_) (fun h13=>?_)
 ·have hk1:k<s.bl.length:=DA h13;refine Ak (AF (Al (AF (AJ (AC Z Z ?_)))));have hgd:=Bd 0 hk1;have hbk:=hb _ (List.getElem_mem hk1)
  first | refine J (CT (k) Z Z (rfl) (A0 hk1) Tryz.underlying142 rfl sz79 rfl) ?_ | refine J (CU (k) Z Z (rfl) (A0 hk1) rfl Tryz.underlying142 sz79 rfl) ?_
  first | refine J (AY Z Z on79 rfl) ?_ | refine J (AW Z Z Z on79 rfl) ?_ | refine J (AX Z Z (rfl) rfl on79 rfl) ?_
  refine AD Z Z (AD Z Z (AG (AF (AJ (AC Z Z (AC Z Z (J (SW Z Z (by omega) (shrU x k (by omega)) rfl) (J (IA Z Z Z (and1U (Wk hx k)) rfl) ?_))))))))
  first | refine J (Ea Z Z Z) ?_ | refine J (E9 Z Z Z) ?_ | refine J (EV Z Z Z) ?_ | refine J (E4 Tryz.underlying79 Z Z Z) ?_ | refine J (E7 Tryz.underlying79 Z Z Z) ?_ | refine J (E6 Tryz.underlying79 Z Z) ?_ | refine J (E5 Tryz.underlying79 Z Z Z) ?_ | refine J (E8 Tryz.underlying79 Z Z) ?_
  refine AC Z Z ?_
  first | refine I5 22 rfl (fun h22=>?_) (fun h22=>?_) | refine Hw 22 rfl (fun h22=>?_) (fun h22=>?_)
  ·refine A9 Z Z Z (AC Z Z (A9 Z Z Z (AC Z Z (A9 Z Z Z (J (IA Z Z Z (andNotU s.bl[k] x) rfl) (A9 Z Z Z ?_))))))
   first | refine J (Fa Z Z Z) ?_ | refine J (F9 Z Z Z) ?_ | refine J (FM Z Z Z) ?_ | refine J (Fb Tryz.underlying79 Z Z Z) ?_ | refine J (Fd Tryz.underlying79 Z Z Z) ?_ | refine J (st_neqN Tryz.underlying79 Z Z) ?_ | refine J (Fc Tryz.underlying79 Z Z Z) ?_ | refine J (st_neqFN Tryz.underlying79 Z Z) ?_
   refine J (DX Z Z Z Z) (AG ?_)
   first | refine Ay rfl (fun h27=>?_) (fun h27=>?_) | refine At rfl (fun h27=>?_) (fun h27=>?_)
   ·refine AF (AJ (AD Z Z (AG (Ae ?_))));exact ⟨_,[],[],Aa rfl,rfl,rfl,Fz (by unfold admS;rw [Ub hk1 (by unfold TY;rw [hgd,(MD x k).1 h22,Bool.true_and];exact decide_eq_true (fun h5=>h27 (by rw [h5];rfl)))];rfl),rfl⟩
   ·refine Ak (AJ ?_);have hbad:TY s x k=false:=by unfold TY;first | (have h6:((anU s.bl[k] x:Nat):Int)=0:=Decidable.not_not.1 h27;rw [hgd];have h3:anU s.bl[k] x=0:=Int.ofNat.inj h6;rw [h3];simp;done) | (rw [Pt h22];rfl)
    refine J (Bi Z Z (Ac (k+1) (by omega)) rfl) (AC Z Z (AG ?_));exact ⟨k+1,⟨by show k+1≤_;omega,fun i hi=>by rcases Nat.lt_or_ge i k with h | h;exact hk i h;have e:i=k:=by {omega};subst e;exact hbad⟩,by show s.bl.length - (k+1)<s.bl.length - k;omega,⟨rfl,rfl,fun _ _=>N2.get (l:=[(1,_),(10,_),(11,_),(12,_)]) ⟨rfl,rfl,rfl,rfl,trivial⟩⟩⟩
  ·refine A8 Z Z Z Z (A8 Z Z Z Z (A8 Z Z Z Z (A8 Z Z Z Z (J (EC Z Z Z Z) (AG (Fs Z Z (Ak (AJ ?_))))))));have hbad:TY s x k=false:=by unfold TY;first | (have h6:((anU s.bl[k] x:Nat):Int)=0:=Decidable.not_not.1 h27;rw [hgd];have h3:anU s.bl[k] x=0:=Int.ofNat.inj h6;rw [h3];simp;done) | (rw [Pt h22];rfl)
   refine J (Bi Z Z (Ac (k+1) (by omega)) rfl) (AC Z Z (AG ?_));exact ⟨k+1,⟨by show k+1≤_;omega,fun i hi=>by rcases Nat.lt_or_ge i k with h | h;exact hk i h;have e:i=k:=by {omega};subst e;exact hbad⟩,by show s.bl.length - (k+1)<s.bl.length - k;omega,⟨rfl,rfl,fun _ _=>N2.get (l:=[(1,_),(10,_),(11,_),(12,_)]) ⟨rfl,rfl,rfl,rfl,trivial⟩⟩⟩
 ·refine CW (AF (AJ (AD Z Z (AG (Ae ?_)))));exact ⟨_,[],[],Aa rfl,rfl,rfl,Fz (by unfold admS;rw [Yg hk (by have h:=h13;omega)];rfl),rfl⟩
def rowS (x:Nat) (r:List Int):Int:=((List.range r.length).map fun i=>if x.testBit i=true then r.getD i 0 else 0).sum
def Qr (s:Sma) (x:Nat) (k:Nat):Bool:=decide (s.rm.getD k 0+rowS x (s.de.getD k [])<0)
def feaS (s:Sma) (x:Nat):Bool:=!(List.range s.rm.length).any (Qr s x)
def Nf (x:Nat) (r:List Int) (k:Nat) (a:Int):Int:=(List.range k).foldl (fun c i=>c+if x.testBit i=true then r.getD i 0 else 0) a
theorem rowP_eq (x:Nat) (r:List Int) (a:Int):Nf x r r.length a=a+rowS x r:=by
 unfold Nf rowS
 have key:∀(l:List Nat) (a:Int),l.foldl (fun c i=>c+if x.testBit i=true then r.getD i 0 else 0) a=a+(l.map fun i=>if x.testBit i=true then r.getD i 0 else 0).sum:=fun l=>by
  induction l with
  | nil=>intro a;simp
  | cons i l ih=>intro a;rw [List.foldl_cons,ih,List.map_cons,List.sum_cons];omega
 exact key _ _
theorem Fx (x:Nat) (r:List Int) (k:Nat) (a:Int):Nf x r (k+1) a=Nf x r k a+if x.testBit k=true then r.getD k 0 else 0:=by
 unfold Nf;rw [List.range_succ,List.foldl_append];rfl
theorem Wt {x:Nat} {r:List Int} (hr:∀v∈r,-1000000000000000≤v∧v≤1000000000000000) (a:Int):∀k:Nat,k≤1000 ->a - k*1000000000000000≤Nf x r k a∧Nf x r k a≤a+k*1000000000000000
 | 0,_=>by unfold Nf;simp
 | k+1,h=>by
  have ih:=Wt (x:=x) hr a k (by omega);rw [Fx]
  have hv: -1000000000000000≤r.getD k 0∧r.getD k 0≤1000000000000000:=by
   rw [List.getD_eq_getElem?_getD]
   cases hk:r[k]? with
   | none=>simp
   | some v=>exact hr v (List.mem_of_getElem? hk)
  split<;>omega
theorem feaS_p (s:Sma) (x:Nat) (hx:x<4294967296) (hn:s.rm.length≤100000) (hde:s.de.length=s.rm.length) (hdl:∀r∈s.de,r.length≤32∧∀v∈r,-1000000000000000≤v∧v≤1000000000000000) (hrm:∀v∈s.rm,0≤v∧v≤4000000000000000):AU Tryz.prog 26 [.d (.ptr (Ld s)),.d (G6 x)] (BJ (feaS s x)):=by
 refine B2 Tryz.func26 Z Z Tryz.ntmps26 Z Z Z fun F hF=>(AF (AJ (AD Z Z (AG (AF (AF (AJ (AC Z Z ?_))))))))
 first | refine J (BS Z Z) ?_ | refine J (BQ Z Z) ?_ | refine J (BT Z Z) ?_ | refine J (BR Z Z) ?_
 first | refine J (AM rfl PE Z Z Z) ?_ | refine J (AO rfl PE Z Z Z) ?_ | refine J (AP rfl PE Z Z Z) ?_ | refine J (AN rfl PE Z Z Z) ?_ | refine J (AL rfl PE Z Z Z) ?_
 first | refine J (AY Z Z Md rfl) ?_ | refine J (AW Z Z Z Md rfl) ?_ | refine J (AX Z Z (rfl) rfl Md rfl) ?_
 first | refine J (Cz rfl Tryz.underlying144 rfl) ?_ | refine J (C9 Z Z Tryz.underlying144 rfl) ?_ | refine J (DB rfl Tryz.underlying144 rfl) ?_ | refine J (Cy rfl Tryz.underlying144 rfl) ?_ | refine J (Cr rfl Tryz.underlying144 rfl) ?_ | refine J (Cw rfl Tryz.underlying144 rfl) ?_
 refine AC Z Z (AG (Al (EQ (α:=Nat) (fun k=>⟨44,[(0,.d (.ptr (Ld s))),(1,.d (G6 x)),(12,(.d (.sl none (s.rm.map AH)))),(13,(.d (AH (s.rm.length:Int)))),(14,(.d (AH (k:Int))))],[]⟩) (fun k=>k≤s.rm.length∧∀i,i<k ->Qr s x i=false) (fun k=>s.rm.length - k) (0) (⟨Nat.zero_le _,fun i h=>by omega⟩) (Ui ⟨rfl,rfl,rfl,rfl,rfl,trivial⟩) ?_)));rintro k ⟨hk0,hk⟩;refine AF (AJ ?_)
 first | refine J (CD Z Z Z) ?_ | refine J (CE Z Z Z) ?_
 refine AG (AF ?_)
 first | refine Ay rfl (fun h15=>?_) (fun h15=>?_) | refine At rfl (fun h15=>?_) (fun h15=>?_)
 ·have hk1:k<s.rm.length:=DA h15;refine Ak (AF (Al (AF (AJ (AC Z Z ?_)))));have hkd:k<s.de.length:=by omega
  have hgd:=Bd 0 hk1;have hge:=Bd ([]:List Int) hkd;have hrk:=hrm _ (List.getElem_mem hk1);have hdk:=hdl _ (List.getElem_mem hkd)
  first | refine J (CT (k) Z Z (rfl) (A0 hk1) Tryz.underlying144 rfl sz2 rfl) ?_ | refine J (CU (k) Z Z (rfl) (A0 hk1) rfl Tryz.underlying144 sz2 rfl) ?_
  first | refine J (AY Z Z BI rfl) ?_ | refine J (AW Z Z Z BI rfl) ?_ | refine J (AX Z Z (rfl) rfl BI rfl) ?_
  refine AD Z Z (AD Z Z (AG (AF (AF (AJ (AC Z Z ?_))))))
  first | refine J (BS Z Z) ?_ | refine J (BQ Z Z) ?_ | refine J (BT Z Z) ?_ | refine J (BR Z Z) ?_
  first | refine J (AM rfl Lq Z Z Z) ?_ | refine J (AO rfl Lq Z Z Z) ?_ | refine J (AP rfl Lq Z Z Z) ?_ | refine J (AN rfl Lq Z Z Z) ?_ | refine J (AL rfl Lq Z Z Z) ?_
  first | refine J (AY Z Z UI rfl) ?_ | refine J (AW Z Z Z UI rfl) ?_ | refine J (AX Z Z (rfl) rfl UI rfl) ?_
  refine AC Z Z ?_
  first | refine J (CT (k) Z Z (rfl) (A0 hkd) Tryz.underlying143 rfl W2 rfl) ?_ | refine J (CU (k) Z Z (rfl) (A0 hkd) rfl Tryz.underlying143 W2 rfl) ?_
  first | refine J (AY Z Z Md rfl) ?_ | refine J (AW Z Z Z Md rfl) ?_ | refine J (AX Z Z (rfl) rfl Md rfl) ?_
  first | refine J (Cz rfl Tryz.underlying144 rfl) ?_ | refine J (C9 Z Z Tryz.underlying144 rfl) ?_ | refine J (DB rfl Tryz.underlying144 rfl) ?_ | refine J (Cy rfl Tryz.underlying144 rfl) ?_ | refine J (Cr rfl Tryz.underlying144 rfl) ?_ | refine J (Cw rfl Tryz.underlying144 rfl) ?_
  refine AC Z Z (AG (Al (EQ (α:=Nat) (fun j=>⟨44,[(0,.d (.ptr (Ld s))),(1,.d (G6 x)),(6,(.d (AH (Nf x s.de[k] j s.rm[k])))),(12,(.d (.sl none (s.rm.map AH)))),(13,(.d (AH (s.rm.length:Int)))),(14,(.d (AH (k:Int)))),(25,(.d (.sl none (s.de[k].map AH)))),(26,(.d (AH (s.de[k].length:Int)))),(27,(.d (AH (j:Int))))],[]⟩) (fun j=>j≤s.de[k].length) (fun j=>s.de[k].length - j) (0) (Nat.zero_le _) (Ui ⟨rfl,rfl,rfl,rfl,rfl,rfl,rfl,rfl,rfl,trivial⟩) ?_)));rintro j hj0;refine AF (AJ ?_)
  first | refine J (CD Z Z Z) ?_ | refine J (CE Z Z Z) ?_
  refine AG (AF ?_)
  first | refine Ay rfl (fun h28=>?_) (fun h28=>?_) | refine At rfl (fun h28=>?_) (fun h28=>?_)
  ·have hj1:j<s.de[k].length:=DA h28;refine Ak (AF (Al (AF (AJ (AC Z Z ?_)))));have hgj:=Bd 0 hj1;have hpb:=Wt (x:=x) hdk.2 s.rm[k] j (by omega);have hvj:=hdk.2 _ (List.getElem_mem hj1)
   first | refine J (CT (j) Z Z (rfl) (A0 hj1) Tryz.underlying144 rfl sz2 rfl) ?_ | refine J (CU (j) Z Z (rfl) (A0 hj1) rfl Tryz.underlying144 sz2 rfl) ?_
   first | refine J (AY Z Z BI rfl) ?_ | refine J (AW Z Z Z BI rfl) ?_ | refine J (AX Z Z (rfl) rfl BI rfl) ?_
   refine AD Z Z (AD Z Z (AG (AF (AJ (AC Z Z (AC Z Z (J (SW Z Z (by omega) (shrU x j (by omega)) rfl) (J (IA Z Z Z (and1U (Wk hx j)) rfl) ?_))))))))
   first | refine J (Ea Z Z Z) ?_ | refine J (E9 Z Z Z) ?_ | refine J (EV Z Z Z) ?_ | refine J (E4 Tryz.underlying79 Z Z Z) ?_ | refine J (E7 Tryz.underlying79 Z Z Z) ?_ | refine J (E6 Tryz.underlying79 Z Z) ?_ | refine J (E5 Tryz.underlying79 Z Z Z) ?_ | refine J (E8 Tryz.underlying79 Z Z) ?_
   refine AG ?_
   first | refine Ay rfl (fun h36=>?_) (fun h36=>?_) | refine At rfl (fun h36=>?_) (fun h36=>?_)
   ·refine AJ ?_;refine AC Z Z (AC Z Z (J (Bi Z Z (IntWalk.i64_in _ (by omega)) rfl) (AD Z Z (AG (AJ (J (Bi Z Z (Ac (j+1) (by omega)) rfl) (AC Z Z (AG ?_))))))))
    first | exact ⟨j+1,by show j+1≤_;omega,by show s.de[k].length - (j+1)<s.de[k].length - j;omega,⟨rfl,rfl,fun _ _=>N2.get (l:=[(0,_),(1,_),(6,_),(12,_),(13,_),(14,_),(25,_),(26,_),(27,_)]) ⟨rfl,rfl,by rw [Fx,if_pos ((MD x j).1 h36),hgj];rfl,rfl,rfl,rfl,rfl,rfl,rfl,trivial⟩⟩⟩ | exact ⟨j+1,by show j+1≤_;omega,by show s.de[k].length - (j+1)<s.de[k].length - j;omega,⟨rfl,rfl,fun _ _=>N2.get (l:=[(0,_),(1,_),(6,_),(12,_),(13,_),(14,_),(25,_),(26,_),(27,_)]) ⟨rfl,rfl,by rw [Fx,if_neg (by rw [Pt h36];decide),Int.add_zero];rfl,rfl,rfl,rfl,rfl,rfl,rfl,trivial⟩⟩⟩
   ·refine Ak (AJ (J (Bi Z Z (Ac (j+1) (by omega)) rfl) (AC Z Z (AG ?_))))
    first | exact ⟨j+1,by show j+1≤_;omega,by show s.de[k].length - (j+1)<s.de[k].length - j;omega,⟨rfl,rfl,fun _ _=>N2.get (l:=[(0,_),(1,_),(6,_),(12,_),(13,_),(14,_),(25,_),(26,_),(27,_)]) ⟨rfl,rfl,by rw [Fx,if_pos ((MD x j).1 h36),hgj];rfl,rfl,rfl,rfl,rfl,rfl,rfl,trivial⟩⟩⟩ | exact ⟨j+1,by show j+1≤_;omega,by show s.de[k].length - (j+1)<s.de[k].length - j;omega,⟨rfl,rfl,fun _ _=>N2.get (l:=[(0,_),(1,_),(6,_),(12,_),(13,_),(14,_),(25,_),(26,_),(27,_)]) ⟨rfl,rfl,by rw [Fx,if_neg (by rw [Pt h36];decide),Int.add_zero];rfl,rfl,rfl,rfl,rfl,rfl,rfl,trivial⟩⟩⟩
  ·have hov1:Nf x s.de[k] j s.rm[k]=s.rm[k]+rowS x s.de[k]:=by have e:j=s.de[k].length:=by {have h:=h28;omega};rw [e,rowP_eq]
   refine CW (AF (AJ (AC Z Z ?_)))
   first | refine J (CD Z Z Z) ?_ | refine J (CE Z Z Z) ?_
   refine AG ?_
   first | refine Ay rfl (fun h42=>?_) (fun h42=>?_) | refine At rfl (fun h42=>?_) (fun h42=>?_)
   ·refine AF (AJ (AD Z Z (AG (Ae ?_))));exact ⟨_,[],[],Aa rfl,rfl,rfl,Fz (by unfold feaS;rw [Ub hk1 (by unfold Qr;rw [hgd,hge,←hov1];exact decide_eq_true h42)];rfl),rfl⟩
   ·refine Ak (AJ ?_);have hov:Qr s x k=false:=by unfold Qr;rw [hgd,hge,←hov1];exact decide_eq_false h42
    refine J (Bi Z Z (Ac (k+1) (by omega)) rfl) (AC Z Z (AG ?_));exact ⟨k+1,⟨by show k+1≤_;omega,fun i hi=>by rcases Nat.lt_or_ge i k with h | h;exact hk i h;have e:i=k:=by {omega};subst e;exact hov⟩,by show s.rm.length - (k+1)<s.rm.length - k;omega,⟨rfl,rfl,fun _ _=>N2.get (l:=[(0,_),(1,_),(12,_),(13,_),(14,_)]) ⟨rfl,rfl,rfl,rfl,rfl,trivial⟩⟩⟩
 ·refine CW (AF (AJ (AD Z Z (AG (Ae ?_)))));exact ⟨_,[],[],Aa rfl,rfl,rfl,Fz (by unfold feaS;rw [Yg hk (by have h:=h15;omega)];rfl),rfl⟩
def listS (s:Sma) (x:Nat):List Int:=((List.range s.ids.length).filter fun i=>x.testBit i).map fun i=>s.ids.getD i 0
def enumX (n:Nat):Nat ->Nat ->Nat ->List Nat
 | 0,_,x=> [x]
 | l+1,frm,x=>((List.range (n+1 - (l+1) - frm)).map (frm+ ·)).flatMap fun i=>enumX n l (i+1) (x ||| 1<<<i)
section
variable {β:Type} (step:β ->Nat ->β×Bool)
def DK:β ->List Nat ->Bool
 | _,[]=>true
 | b,x::r=>match step b x with
  | (b',true)=>DK b' r
  | (_,false)=>false
theorem FB {b:β} {x:Nat} {r:List Nat}:DK step b (x::r)=((step b x).2 && DK step (step b x).1 r):=by
 simp only [DK]
 generalize step b x=y
 obtain ⟨y1,y2⟩:=y
 cases y2<;>rfl
theorem GK:∀(b:β) (l m:List Nat),Bv step b (l++m)=bif DK step b l then Bv step (Bv step b l) m else Bv step b l
 | b,[],m=>rfl
 | b,x::l,m=>by
  rw [List.cons_append,T1,T1,FB]
  by_cases h:(step b x).2=true
  ·rw [if_pos h,if_pos h,h,Bool.true_and];exact GK _ l m
  ·have h':(step b x).2=false:=by simpa using h
   rw [if_neg h,if_neg h,h',Bool.false_and];rfl
theorem Ku:∀(b:β) (l m:List Nat),DK step b (l++m)=(DK step b l && DK step (Bv step b l) m)
 | b,[],m=>rfl
 | b,x::l,m=>by
  rw [List.cons_append,T1,FB,FB]
  by_cases h:(step b x).2=true
  ·rw [if_pos h,h,Bool.true_and,Bool.true_and];exact Ku _ l m
  ·have h':(step b x).2=false:=by simpa using h
   rw [h'];rfl
theorem JO {P:Program} {l:Nat} {enc:Nat ->List AV} {H:β ->Hp}:∀{b:β} {r m:List Nat},Co P l enc H step b (r++m) ->Co P l enc H step b r
 | _,[],_,_=>trivial
 | _,_::_,_,h=>⟨h.1,fun hg=>JO (h.2 hg)⟩
theorem JN {P:Program} {l:Nat} {enc:Nat ->List AV} {H:β ->Hp}:∀{b:β} {r m:List Nat},Co P l enc H step b (r++m) ->DK step b r=true ->Co P l enc H step (Bv step b r) m
 | _,[],_,h,_=>h
 | b,x::r,m,h,hb=>by
  rw [FB] at hb
  by_cases hg:(step b x).2=true
  ·rw [hg,Bool.true_and] at hb;rw [T1,if_pos hg];exact JN (h.2 hg) hb
  ·have h':(step b x).2=false:=by simpa using hg
   rw [h'] at hb;cases hb
end
theorem O9 {nm nm':List Nat} (h:∀f,f∈nm ->f∈nm'):∀{H:Hp},DM nm H=true ->DM nm' H=true:=by
 have hm:∀f,memB f nm=true ->memB f nm'=true:=fun f hf=>Ek.2 (h f (Ek.1 hf))
 have ho:∀(l:List AQ),BB nm l=true ->BB nm' l=true:=by
  intro l
  induction l with
  | nil=>intro _;rfl
  | cons o r ih=>
   intro hr
   cases o with
   | blk t cs=>
    simp only [BB,Bool.and_eq_true] at hr⊢;refine ⟨?_,ih hr.2⟩
    have key:∀l:List AV,okC (H6 nm) l=true ->okC (H6 nm') l=true:=by
     intro l
     induction l with
     | nil=>intro _;rfl
     | cons a l ihl=>
      intro hq;simp only [okC,Bool.and_eq_true] at hq⊢;exact ⟨AV.ok_mono (fun f _ hf=>hm f hf) hq.1,ihl hq.2⟩
    exact key _ hr.1
   | row t k xs=>
    simp only [BB,Bool.and_eq_true,List.all_eq_true] at hr⊢;exact ⟨fun x hx=>Jt (fun f _ hf=>hm f hf) (hr.1 x hx),ih hr.2⟩
   | rowD t k xs=>simp only [BB] at hr⊢;exact ih hr
   | loop L=>
    simp only [BB,Bool.and_eq_true] at hr⊢;refine ⟨?_,ih hr.2⟩
    have key:∀e:List (Nat×AV),H1 (H6 nm) e=true ->H1 (H6 nm') e=true:=by
     intro e
     induction e with
     | nil=>intro _;rfl
     | cons q e ihe=>
      obtain ⟨t,a⟩:=q;intro hq;simp only [H1,Bool.and_eq_true] at hq⊢;exact ⟨AV.ok_mono (fun f _ hf=>hm f hf) hq.1,ihe hq.2⟩
    exact key _ hr.1
   | map bs es=>simp only [BB] at hr⊢;exact ih hr
   | iter f i c seen=>simp only [BB,Bool.and_eq_true] at hr⊢;exact ⟨hm _ hr.1,ih hr.2⟩
   | addr f i v=>simp only [BB,Bool.and_eq_true] at hr⊢;exact ⟨hm _ hr.1,ih hr.2⟩
   | any=>simp only [BB] at hr⊢;exact ih hr
   | nb _ _ _=>simp only [BB] at hr⊢;exact ih hr
   | nr _ _ _ _ _=>simp only [BB] at hr⊢;exact ih hr
   | multi _=>simp only [BB] at hr⊢;exact ih hr
 intro H
 induction H with
 | nil=>intro _;rfl
 | cons q r ih=>
  obtain ⟨f,l⟩:=q;intro hh;simp only [DM,Bool.and_eq_true] at hh⊢;exact ⟨ho _ hh.1,ih hh.2⟩
theorem Sf {nm:List Nat} {f:Nat} {x:List AQ} {H:Hp} (hf:memB f nm=false) (hH:Bz nm H=some []):Bz nm ((f,x)::H)=some [(f,x)]:=by
 simp only [Bz,hH,hf]
abbrev cS (s:Sma):AV:= .d (.ptr (.ptr (Ld s)))
abbrev cY (l:Nat):AV:= .d (.ptr (.raw (CG l)))
abbrev fnX (s:Sma) (l:Nat):AV:= .fn 61 [cS s,cY l,.ptr 980 0 0]
abbrev blkX (s:Sma) (l:Nat):Nat×List AQ:=(980,[.blk 141 [fnX s l]])
abbrev HX (s:Sma) (l:Nat) (h:Hp):Hp:=blkX s l::h
def Rb (x:Nat):List AV:=[.d (G6 x)]
theorem Oc {f g:Nat} {x:List AQ} (hg:g≠f):∀H:Hp,hfam (H++ [(f,x)]) g=hfam H g
 | []=>by simp only [List.nil_append,hfam,ER (Ne.symm hg)]
 | (k,y)::H=>by
  simp only [List.cons_append,hfam,Oc hg H]
theorem H7 {f:Nat} {x:List AQ}:∀{H:Hp},hfam H f=none ->hfam (H++ [(f,x)]) f=some x
 | [],_=>by simp only [List.nil_append,hfam,Nat.beq_refl]
 | (k,y)::H,h=>by
  simp only [hfam] at h;simp only [List.cons_append,hfam]
  cases hk:Nat.beq k f with
  | true=>rw [hk] at h;cases h
  | false=>rw [hk] at h;exact H7 h
theorem Ko {H:Hp} {f:Nat} (h:memB f (hpN H)=false):hfam H f=none:=by
 cases hh:hfam H f with
 | none=>rfl
 | some l=>
  have:=Ek.2 (U2 hh);rw [h] at this;cases this
theorem VU {f:Nat} {x:List AQ} {H:Hp} {N:List Nat} (hN:hpN H=N) (hP:An H N=some H) (hm:memB f N=false):An (H++ [(f,x)]) (f::N)=some ((f,x)::H):=by
 have key:∀M:List Nat,memB f M=false ->An (H++ [(f,x)]) M=An H M:=by
  intro M
  induction M with
  | nil=>intro _;rfl
  | cons g M ih=>
   intro h;simp only [memB,Bool.or_eq_false_iff] at h
   have hne:g≠f:=fun e=>by
    have:=h.1;rw [e] at this
    first | (rw [Nat.beq_refl] at this;cases this) | simp at this
   simp only [An,ih h.2,Oc hne]
 have h1:=H7 (x:=x) (Ko (H:=H) (f:=f) (by rw [hN];exact hm));simp only [An,key N hm,hP,h1]
theorem L3 {α β:Type} (p:β ->Bool) (f:α ->List β):∀l:List α,(l.flatMap f).filter p=l.flatMap fun a=>(f a).filter p
 | []=>rfl
 | a::l=>by rw [List.flatMap_cons,List.filter_append,List.flatMap_cons,L3 p f l]
theorem keep980 {s:Sma} {l:Nat} {CH:Hp} {N:List Nat} (hm:memB 980 N=false):CI (CA CH N) [blkX s l]=some [blkX s l]:=by
 have h:CA CH N 980 0=true:=by unfold CA;rw [hm];rfl
 simp only [CI,Cx,CQ,Km,AV.ok,UN,AV.okS,h,Bool.and_true]
theorem fams980 {s:Sma} {l:Nat} {h:Hp} {N:List Nat} (hm:memB 980 N=false):CR (HX s l h) h N:=Zdm fun g hg=>by
 have hne:980≠g:=fun e=>by
  have:=Ek.2 hg;rw [←e,hm] at this;cases this
 simp only [hfam,ER hne]
section
variable {β:Type}
theorem ext_c (s:Sma) (hbl:∀b∈s.bl,b<4294967296) (hbn:s.bl.length≤32) (hn:s.ids.length≤31) (l:Nat) (H:β ->Hp) (N:List Nat) (step:β ->Nat ->β×Bool) (hN:∀st,hpN (H st)=N) (hI:∀st,DM N (H st)=true) (hP:∀st,An (H st) N=some (H st)) (hm:memB 980 N=false):
  ∀(left frm x:Nat) (st0:β),frm≤32 ->left≤32 ->x<4294967296 ->Co Tryz.prog l Rb H step st0 ((enumX s.ids.length left frm x).filter (admS s))→
  A2 Tryz.prog 61 [.d (G6 x),.d (AH (frm:Int)),.d (AH (left:Int)),cS s,cY l,.ptr 980 0 0] (HX s l (H st0)) fun r H'=>r= .d (BJ (DK step st0 ((enumX s.ids.length left frm x).filter (admS s))))∧H'=HX s l (H (Bv step st0 ((enumX s.ids.length left frm x).filter (admS s)))):=by
 have x1:∀st,AZ (980::N) (HX s l (H st))=true:=fun st=>by have h:=Yt (HX s l (H st));rw [show hpN (HX s l (H st))=980::N from by show 980::hpN (H st)=_;rw [hN]] at h;exact h
 have x2:∀st,Bz (980::N) (HX s l (H st))=some []:=fun st=>by have h:=GA (HX s l (H st));rw [show hpN (HX s l (H st))=980::N from by show 980::hpN (H st)=_;rw [hN]] at h;exact h
 have x3:∀st,DM (980::N) (HX s l (H st))=true:=fun st=>by
  have h:=O9 (nm:=N) (nm':=980::N) (fun f hf=>List.mem_cons_of_mem _ hf) (hI st);simp only [DM,h,Bool.and_true];rfl
 have x4:∀st,An (HX s l (H st)) (980::N)=some (HX s l (H st)):=fun st=>by
  have h:=(Qm (x:=[.blk 141 [fnX s l]]) hm).trans (hP st);simp only [An,h];rfl
 have x5:∀st,AZ N (H st)=true:=fun st=>by have h:=Yt (H st);rw [hN] at h;exact h
 have x6:∀st,Bz N (HX s l (H st))=some [blkX s l]:=fun st=>Sf hm (by have h:=GA (H st);rw [hN] at h;exact h);intro left
 induction left with
 | zero=>
  intro frm x st0 hfr _ hx hfd;have hadm:=admS_p s x hx hbl hbn
  cases ha:admS s x with
  | true=>
   have hL:([x].filter (admS s))=[x]:=by simp [ha]
   rw [show enumX s.ids.length 0 frm x=[x] from rfl,hL] at hfd⊢;rw [ha] at hadm;have hfb:DK step st0 [x]=(step st0 x).2:=by rw [FB];simp [DK]
   have hfe:Bv step st0 [x]=(step st0 x).1:=by rw [T1];split<;>rfl
   rw [hfb,hfe];refine B2 Tryz.func61 Z Z Tryz.ntmps61 Z Z Z fun F hF=>(AF (AJ (AD Z Z (AG (AF (AF (AJ (AC Z Z ?_))))))))
   first | refine J (Ea Z Z Z) ?_ | refine J (E9 Z Z Z) ?_ | refine J (EV Z Z Z) ?_ | refine J (E4 Tryz.underlying3 Z Z Z) ?_ | refine J (E7 Tryz.underlying3 Z Z Z) ?_ | refine J (E6 Tryz.underlying3 Z Z) ?_ | refine J (E5 Tryz.underlying3 Z Z Z) ?_ | refine J (E8 Tryz.underlying3 Z Z) ?_
   refine AG (EB rfl (rfl) (AF (AJ ?_)))
   first | refine J (AY Z Z Fh rfl) ?_ | refine J (AW Z Z Z Fh rfl) ?_ | refine J (AX Z Z (rfl) rfl Fh rfl) ?_
   refine AC Z Z (J (B1 (hadm) Z Z) ?_)
   first | refine J (GZ Z Z) ?_ | refine J (GP Z Z) ?_
   refine AC Z Z (Kf 17 rfl (rfl) (A9 Z Z Z ?_))
   first | refine J (AY Z Z on83 rfl) ?_ | refine J (AW Z Z Z on83 rfl) ?_ | refine J (AX Z Z (rfl) rfl on83 rfl) ?_
   refine A9 Z Z Z (AC Z Z (Sw [9,17,18,19] rfl (A9 Z Z Z ?_)));refine Mg Z Z hfd.1 N (fams980 hm) (x5 st0) (x6 st0) rfl (keep980 hm) (fun r H' ⟨e1,e2⟩=>by subst e1 e2;exact ⟨x5 _,hI _,rfl⟩) rfl fun r H' ⟨e1,e2⟩=>?_;subst e1 e2;refine J (EC Z Z Z Z) (AD Z Z (AG (Ae ?_)));exact ⟨_,980::N,_,Aa rfl,VU (hN _) (hP _) hm,x1 _,rfl,rfl⟩
  | false=>
   have hL:([x].filter (admS s))=[]:=by simp [ha]
   rw [show enumX s.ids.length 0 frm x=[x] from rfl,hL] at hfd⊢;rw [ha] at hadm;refine B2 Tryz.func61 Z Z Tryz.ntmps61 Z Z Z fun F hF=>(AF (AJ (AD Z Z (AG (AF (AF (AJ (AC Z Z ?_))))))))
   first | refine J (Ea Z Z Z) ?_ | refine J (E9 Z Z Z) ?_ | refine J (EV Z Z Z) ?_ | refine J (E4 Tryz.underlying3 Z Z Z) ?_ | refine J (E7 Tryz.underlying3 Z Z Z) ?_ | refine J (E6 Tryz.underlying3 Z Z) ?_ | refine J (E5 Tryz.underlying3 Z Z Z) ?_ | refine J (E8 Tryz.underlying3 Z Z) ?_
   refine AG (EB rfl (rfl) (AF (AJ ?_)))
   first | refine J (AY Z Z Fh rfl) ?_ | refine J (AW Z Z Z Fh rfl) ?_ | refine J (AX Z Z (rfl) rfl Fh rfl) ?_
   refine AC Z Z (J (B1 (hadm) Z Z) ?_)
   first | refine J (GZ Z Z) ?_ | refine J (GP Z Z) ?_
   refine AC Z Z (NZ 17 rfl (rfl) (A8 Z Z Z Z (A8 Z Z Z Z (A8 Z Z Z Z (J (DX Z Z Z Z) (AD Z Z (AG (Ae ?_))))))));exact ⟨_,980::N,_,Aa rfl,x4 _,x1 _,rfl,rfl⟩
 | succ left ih=>
  intro frm x st0 hfr hle hx hfd
  obtain ⟨cnt,hcnt⟩:∃c,s.ids.length+1 - (left+1) - frm=c:=⟨_,rfl⟩
  obtain ⟨pos,hpos⟩:∃c,(List.range cnt).map (frm+ ·)=c:=⟨_,rfl⟩
  obtain ⟨f,hf⟩:∃g:Nat ->List Nat,(fun i=>(enumX s.ids.length left (i+1) (x ||| 1<<<i)).filter (admS s))=g:=⟨_,rfl⟩
  have hLL:(enumX s.ids.length (left+1) frm x).filter (admS s)=pos.flatMap f:=by
   show ((((List.range (s.ids.length+1 - (left+1) - frm)).map (frm+ ·)).flatMap fun i=>enumX s.ids.length left (i+1) (x ||| 1<<<i))).filter (admS s)=_;rw [L3,hcnt,hpos,hf]
  have hpl:pos.length=cnt:=by rw [←hpos];simp
  have hpk:∀k,k<cnt ->(pos.drop k).flatMap f=f (frm+k)++(pos.drop (k+1)).flatMap f:=fun k hk=>by
   have hk':k<pos.length:=by rw [hpl];exact hk
   rw [List.drop_eq_getElem_cons hk',List.flatMap_cons]
   congr 2
   subst hpos;simp
  have ih':∀(k:Nat) (st:β),frm+k<32 ->Co Tryz.prog l Rb H step st (f (frm+k)) ->A2 Tryz.prog 61 [.d (G6 (x ||| 1<<<(frm+k))),.d (AH ((frm+k+1:Nat):Int)),.d (AH (left:Int)),cS s,cY l,.ptr 980 0 0] (HX s l (H st)) fun r H'=>r= .d (BJ (DK step st (f (frm+k))))∧H'=HX s l (H (Bv step st (f (frm+k)))):=fun k st h1 h2=>by
   rw [←hf] at h2⊢;exact ih (frm+k+1) (x ||| 1<<<(frm+k)) st (by omega) (by omega) (XZ hx (K4 h1)) h2
  rw [hLL] at hfd⊢;refine B2 Tryz.func61 Z Z Tryz.ntmps61 Z Z Z fun F hF=>(AF (AJ (AD Z Z (AG (AF (AF (AJ (AC Z Z ?_))))))))
  first | refine J (Ea Z Z Z) ?_ | refine J (E9 Z Z Z) ?_ | refine J (EV Z Z Z) ?_ | refine J (E4 Tryz.underlying3 Z Z Z) ?_ | refine J (E7 Tryz.underlying3 Z Z Z) ?_ | refine J (E6 Tryz.underlying3 Z Z) ?_ | refine J (E5 Tryz.underlying3 Z Z Z) ?_ | refine J (E8 Tryz.underlying3 Z Z) ?_
  refine AG (Fs rfl ((decide_eq_false (by omega))) ?_);refine Ak (AF (AF (AJ (AC Z Z (AD Z Z (AG (Al (EQ (α:=Nat×β) (fun q=>⟨45,[(0,.d (G6 x)),(2,.d (AH ((left+1:Nat):Int))),(3,cS s),(5,.ptr 980 0 0),(10,(.d (AH ((frm+q.1:Nat):Int))))],HX s l (H q.2)⟩) (fun q=>q.1≤cnt∧Co Tryz.prog l Rb H step q.2 ((pos.drop q.1).flatMap f)∧Bv step q.2 ((pos.drop q.1).flatMap f)=Bv step st0 (pos.flatMap f)∧DK step q.2 ((pos.drop q.1).flatMap f)=DK step st0 (pos.flatMap f)) (fun q=>cnt - q.1) ((0,st0)) (⟨Nat.zero_le _,hfd,rfl,rfl⟩) (Ui ⟨rfl,rfl,rfl,rfl,rfl,trivial⟩) ?_))))))));rintro ⟨k,st⟩ ⟨hk0,hfk,hfin,hfb⟩;dsimp only at hk0 hfk hfin hfb⊢;refine AF (AF (AJ (AC Z Z ?_)))
  first | refine J (AY Z Z Fh rfl) ?_ | refine J (AW Z Z Z Fh rfl) ?_ | refine J (AX Z Z (rfl) rfl Fh rfl) ?_
  first | refine J (BS Z Z) ?_ | refine J (BQ Z Z) ?_ | refine J (BT Z Z) ?_ | refine J (BR Z Z) ?_
  first | refine J (AM rfl JY Z Z Z) ?_ | refine J (AO rfl JY Z Z Z) ?_ | refine J (AP rfl JY Z Z Z) ?_ | refine J (AN rfl JY Z Z Z) ?_ | refine J (AL rfl JY Z Z Z) ?_
  first | refine J (AY Z Z BO rfl) ?_ | refine J (AW Z Z Z BO rfl) ?_ | refine J (AX Z Z (rfl) rfl BO rfl) ?_
  first | refine J (Cz rfl Tryz.underlying33 rfl) ?_ | refine J (C9 Z Z Tryz.underlying33 rfl) ?_ | refine J (DB rfl Tryz.underlying33 rfl) ?_ | refine J (Cy rfl Tryz.underlying33 rfl) ?_ | refine J (Cr rfl Tryz.underlying33 rfl) ?_ | refine J (Cw rfl Tryz.underlying33 rfl) ?_
  refine AC Z Z (J (Er Z Z (IntWalk.i64_in _ (by omega)) rfl) (J (SY Z Z Z) (AG ?_)))
  first | refine Ay rfl (fun h31=>?_) (fun h31=>?_) | refine At rfl (fun h31=>?_) (fun h31=>?_)
  ·have hk1:k<cnt:=by have h:=h31;omega
   refine Ak (AF (Al (AF (Gp [[],[],[],[2],[1,2,3],[],[5],[],[7],[0,1,2,3,4,5,6,7,8],[0,1,2,3,4,5,6,7,8,9]] BF rfl (Hh ?_)))));have hA:=hpk k hk1;have hfk2:=hfk;rw [hA] at hfk2;have h32:frm+k<32:=by omega
   first | refine AE [5] [980] Z Z (fun _=>AB (AY Z Z OY rfl)) ?_ | refine AE [5] [980] Z Z (fun _=>AB (AW Z Z Z OY rfl)) ?_ | refine AE [5] [980] Z Z (fun _=>AB (AX Z Z (rfl) rfl OY rfl)) ?_
   first | refine AE [0] [] Z Z (fun _=>AB (Be Z Z)) ?_ | refine AI [0] Z Z (fun _=>AB (Be Z Z)) ?_
   first | refine AE [10] [] Z Z (fun _=>AB (Be Z Z)) ?_ | refine AI [10] Z Z (fun _=>AB (Be Z Z)) ?_
   first | refine AE [36] [] Z Z (fun _=>AB (SX Z Z (by omega) (Wl h32) rfl)) ?_ | refine AI [36] Z Z (fun _=>AB (SX Z Z (by omega) (Wl h32) rfl)) ?_
   first | refine AE [35,37] [] Z Z (fun _=>AB (IA Z Z Z (orU hx (K4 h32)) rfl)) ?_ | refine AI [35,37] Z Z (fun _=>AB (IA Z Z Z (orU hx (K4 h32)) rfl)) ?_
   first | refine AE [10] [] Z Z (fun _=>AB (Be Z Z)) ?_ | refine AI [10] Z Z (fun _=>AB (Be Z Z)) ?_
   first | refine AE [39] [] Z Z (fun _=>AB (Bi Z Z (Ac (frm+k+1) (by omega)) rfl)) ?_ | refine AI [39] Z Z (fun _=>AB (Bi Z Z (Ac (frm+k+1) (by omega)) rfl)) ?_
   first | refine AE [2] [] Z Z (fun _=>AB (Be Z Z)) ?_ | refine AI [2] Z Z (fun _=>AB (Be Z Z)) ?_
   first | refine AE [41] [] Z Z (fun _=>AB (Er Z Z (show IntKind.i64.wrap (((left+1:Nat):Int) - 1)=((left:Nat):Int) from by rw [show (((left+1:Nat):Int) - 1)=(left:Int) by omega];exact Ac left (by omega)) rfl)) ?_ | refine AI [41] Z Z (fun _=>AB (Er Z Z (show IntKind.i64.wrap (((left+1:Nat):Int) - 1)=((left:Nat):Int) from by rw [show (((left+1:Nat):Int) - 1)=(left:Int) by omega];exact Ac left (by omega)) rfl)) ?_
   refine GR 9 Z Z Z (BC 10 Z Z (U (D6 (ih' k st h32 (JO step hfk2)) rfl (980::N) (Zdm fun _ _=>rfl) (x1 st) (x2 st) Z Z (x1 _) (x3 _) Z Z Z) ?_));rw [List.append_nil];refine AG ⟨rfl,?_⟩;refine BC 11 Z Z ?_
   first | refine J (GZ Z Z) ?_ | refine J (GP Z Z) ?_
   refine AG ⟨rfl,?_⟩;refine GQ ?_
   first | refine Ay rfl (fun h44=>?_) (fun h44=>?_) | refine At rfl (fun h44=>?_) (fun h44=>?_)
   ·have hgo:DK step st (f (frm+k))=false:=by simpa using h44
    refine AF (AJ (AD Z Z (AG (Ae ?_))));exact ⟨_,980::N,_,Aa rfl,x4 _,x1 _,Fz (by rw [←hfb,hA,Ku,hgo];rfl),by rw [←hfin,hA,GK,hgo];rfl⟩
   ·have hgo:DK step st (f (frm+k))=true:=by simpa using h44
    refine Ak (AJ (AC Z Z (J (Bi Z Z (Ac (frm+k+1) (by omega)) rfl) (AD Z Z (AG ?_)))));exact ⟨(k+1,Bv step st (f (frm+k))),⟨by show k+1≤_;omega,JN step hfk2 hgo,by rw [←hfin,hA,GK,hgo];rfl,by rw [←hfb,hA,Ku,hgo];rfl⟩,by show cnt - (k+1)<cnt - k;omega,⟨rfl,rfl,fun _ _=>N2.get (l:=[(0,_),(2,_),(3,_),(5,_),(10,_)]) ⟨rfl,rfl,rfl,rfl,rfl,trivial⟩⟩⟩
  ·have hk1:¬k<cnt:=by have h:=h31;omega
   refine CW (AF (AJ (AD Z Z (AG (Ae ?_)))));exact ⟨_,980::N,_,Aa rfl,x4 _,x1 _,Fz (by rw [←hfb,List.drop_of_length_le (by omega)];rfl),by rw [←hfin,List.drop_of_length_le (by omega)];rfl⟩
def allX (s:Sma):List Nat:=(List.range (s.ids.length+1)).flatMap fun k=>(enumX s.ids.length k 0 0).filter (admS s)
theorem setsF_c (s:Sma) (hbl:∀b∈s.bl,b<4294967296) (hbn:s.bl.length≤32) (hn:s.ids.length≤31) (l:Nat) (H:β ->Hp) (N:List Nat) (step:β ->Nat ->β×Bool) (st0:β) (hN:∀st,hpN (H st)=N) (hI:∀st,DM N (H st)=true) (hP:∀st,An (H st) N=some (H st)) (hm:memB 980 N=false) (hm2:memB 981 N=false)
  (hk:∀st,A7 980 (H st)=some (H st)) (hk2:∀st,A7 981 (H st)=some (H st)) (hfe:Co Tryz.prog l Rb H step st0 (allX s)):
  A2 Tryz.prog 60 [.d (.raw (CG l)),cS s] (H st0) fun r H'=>r= .tup []∧H'=H (Bv step st0 (allX s)):=by
 have hz:∀st,hfam (H st) 980=none:=fun st=>Ko (by rw [hN];exact hm);have hz2:∀st,hfam (H st) 981=none:=fun st=>Ko (by rw [hN];exact hm2);have hext:=fun k st=>ext_c s hbl hbn hn l H N step hN hI hP hm k 0 0 st (by omega);have x1:∀st,AZ (980::N) (HX s l (H st))=true:=fun st=>by have h:=Yt (HX s l (H st));rw [show hpN (HX s l (H st))=980::N from by show 980::hpN (H st)=_;rw [hN]] at h;exact h
 have x2:∀st,Bz (980::N) (HX s l (H st))=some []:=fun st=>by have h:=GA (HX s l (H st));rw [show hpN (HX s l (H st))=980::N from by show 980::hpN (H st)=_;rw [hN]] at h;exact h
 have x3:∀st,DM (980::N) (HX s l (H st))=true:=fun st=>by
  have h:=O9 (nm:=N) (nm':=980::N) (fun f hf=>List.mem_cons_of_mem _ hf) (hI st);simp only [DM,h,Bool.and_true];rfl
 have x5:∀st,AZ N (H st)=true:=fun st=>by have h:=Yt (H st);rw [hN] at h;exact h
 have x8:∀st,An (HX s l (H st)) N=some (H st):=fun st=>(Qm hm).trans (hP st)
 obtain ⟨f,hf⟩:∃g:Nat ->List Nat,(fun k=>(enumX s.ids.length k 0 0).filter (admS s))=g:=⟨_,rfl⟩
 have hall:allX s=(List.range (s.ids.length+1)).flatMap f:=by unfold allX;rw [hf]
 have hext':∀k st,k≤32 ->Co Tryz.prog l Rb H step st (f k) ->A2 Tryz.prog 61 [.d (G6 0),.d (AH ((0:Nat):Int)),.d (AH (k:Int)),cS s,cY l,.ptr 980 0 0] (HX s l (H st)) fun r H'=>r= .d (BJ (DK step st (f k)))∧H'=HX s l (H (Bv step st (f k))):=fun k st h1 h2=>by
  rw [←hf] at h2⊢;exact hext k st h1 (by omega) h2
 have hrk:∀k,k<s.ids.length+1 ->((List.range (s.ids.length+1)).drop k).flatMap f=f k++((List.range (s.ids.length+1)).drop (k+1)).flatMap f:=fun k hk=>by
  rw [List.drop_eq_getElem_cons (by simpa using hk),List.flatMap_cons,List.getElem_range]
 rw [hall] at hfe⊢;refine B2 Tryz.func60 Z Z Tryz.ntmps60 Z Z Z fun F hF=>(AF (AJ (U (C5 981 Z Z Z Z (hk2 _) (YM (hz2 _)) rfl) (AG (AF (Ow 2 981 (.raw (CG l)) N (hF.trans (hN st0)) Z Z Z (by intro c hc;simp [D.cells] at hc;subst hc;rfl) hm2 (OC N) ((Qm hm2).trans (hP _)) (AJ ?_)))))));refine U (DO 980 zl141 rfl (hk _) (YM (hz _)) rfl) (AG (AF (AJ (J (Zdb Z Z) (U (CF Z Z Z Z Z Z Z sz141) (AG (AF (AJ ?_))))))))
 first | refine J (AY Z Z Fh rfl) ?_ | refine J (AW Z Z Z Fh rfl) ?_ | refine J (AX Z Z (rfl) rfl Fh rfl) ?_
 first | refine J (BS Z Z) ?_ | refine J (BQ Z Z) ?_ | refine J (BT Z Z) ?_ | refine J (BR Z Z) ?_
 first | refine J (AM rfl JY Z Z Z) ?_ | refine J (AO rfl JY Z Z Z) ?_ | refine J (AP rfl JY Z Z Z) ?_ | refine J (AN rfl JY Z Z Z) ?_ | refine J (AL rfl JY Z Z Z) ?_
 first | refine J (AY Z Z BO rfl) ?_ | refine J (AW Z Z Z BO rfl) ?_ | refine J (AX Z Z (rfl) rfl BO rfl) ?_
 first | refine J (Cz rfl Tryz.underlying33 rfl) ?_ | refine J (C9 Z Z Tryz.underlying33 rfl) ?_ | refine J (DB rfl Tryz.underlying33 rfl) ?_ | refine J (Cy rfl Tryz.underlying33 rfl) ?_ | refine J (Cr rfl Tryz.underlying33 rfl) ?_ | refine J (Cw rfl Tryz.underlying33 rfl) ?_
 refine J (Bi Z Z (Ac (s.ids.length+1) (by omega)) rfl) (AC Z Z (AG (Al (EQ (α:=Nat×β) (fun q=>⟨20,[(3,(.ptr 980 0 0)),(11,(.d (AH ((s.ids.length+1:Nat):Int)))),(12,(.d (AH (q.1:Int))))],HX s l (H q.2)⟩) (fun q=>q.1≤s.ids.length+1∧Co Tryz.prog l Rb H step q.2 (((List.range (s.ids.length+1)).drop q.1).flatMap f)∧Bv step q.2 (((List.range (s.ids.length+1)).drop q.1).flatMap f)=Bv step st0 ((List.range (s.ids.length+1)).flatMap f)) (fun q=>s.ids.length+1 - q.1) ((0,st0)) (⟨Nat.zero_le _,hfe,rfl⟩) (Ui ⟨rfl,rfl,rfl,trivial⟩) ?_))));rintro ⟨k,st⟩ ⟨hk0,hfk,hfin⟩;dsimp only at hk0 hfk hfin⊢;refine AF (AJ ?_)
 first | refine J (CD Z Z Z) ?_ | refine J (CE Z Z Z) ?_
 refine AG (AF ?_)
 first | refine Ay rfl (fun h13=>?_) (fun h13=>?_) | refine At rfl (fun h13=>?_) (fun h13=>?_)
 ·have hk1:k<s.ids.length+1:=by have h:=h13;omega
  refine Ak ?_;refine AF (Al (AF (AJ (AC Z Z (AD Z Z (AG (AF (AJ ?_))))))));have hA:=hrk k hk1;have hfk2:=hfk;rw [hA] at hfk2
  first | refine J (AY Z Z OY rfl) ?_ | refine J (AW Z Z Z OY rfl) ?_ | refine J (AX Z Z (rfl) rfl OY rfl) ?_
  refine AC Z Z (U (D6 (hext' k st (by omega) (JO step hfk2)) rfl (980::N) (Zdm fun _ _=>rfl) (x1 st) (x2 st) Z Z (x1 _) (x3 _) Z Z Z) ?_);rw [List.append_nil]
  first | refine J (GZ Z Z) ?_ | refine J (GP Z Z) ?_
  refine AG ?_
  first | refine Ay rfl (fun h18=>?_) (fun h18=>?_) | refine At rfl (fun h18=>?_) (fun h18=>?_)
  ·have hgo:DK step st (f k)=false:=by simpa using h18
   refine Ae ?_;exact ⟨_,N,_,Aa rfl,x8 _,x5 _,rfl,by rw [←hfin,hA,GK,hgo];rfl⟩
  ·have hgo:DK step st (f k)=true:=by simpa using h18
   refine Ak (AJ (J (Bi Z Z (Ac (k+1) (by omega)) rfl) (AC Z Z (AG ?_))));exact ⟨(k+1,Bv step st (f k)),⟨by show k+1≤_;omega,JN step hfk2 hgo,by rw [←hfin,hA,GK,hgo];rfl⟩,by show s.ids.length+1 - (k+1)<s.ids.length+1 - k;omega,⟨rfl,rfl,fun _ _=>N2.get (l:=[(3,_),(11,_),(12,_)]) ⟨rfl,rfl,rfl,trivial⟩⟩⟩
 ·refine CW ?_;exact ⟨_,N,_,Aa rfl,x8 _,x5 _,rfl,by rw [←hfin,List.drop_of_length_le (by have h:=h13;simp;omega)];rfl⟩
end
theorem sets_c (s:Sma):A2 Tryz.prog 25 [.d (.ptr (Ld s))] [] fun r H'=>r= .fn 60 [cS s]∧H'=[]:=by
 refine B2 Tryz.func25 Z Z Tryz.ntmps25 Z Z Z fun F hF=>(AF (AJ (U (C5 1 Z Z Z Z Z Z Z) ?_)));refine AD Z Z (AG (AF (AJ (IF 1 1 (.ptr (Ld s)) [] hF Z Z Z (by intro c hc;simp [D.cells] at hc;subst hc;rfl) Z Z Z (J (Zdb Z Z) (AD Z Z (AG (Ae ?_))))))));exact ⟨_,[],[],Aa rfl,rfl,rfl,rfl,rfl⟩
theorem bs_lt {l:List Int} {x:Int} (hs:l.Pairwise (· < ·)) (hx:x∈l) {h:Nat} (hh:h<l.length):l[h]<x↔h<l.idxOf x:=by
 have hm:=List.idxOf_lt_length_of_mem hx;have hg:l[l.idxOf x]=x:=List.getElem_idxOf hm;have hp:=List.pairwise_iff_getElem.1 hs
 constructor
 ·intro hlt;rcases Nat.lt_trichotomy h (l.idxOf x) with h1 | h1 | h1
  ·exact h1
  ·exfalso
   have:l[h]=x:=by rw [←hg];congr 1
   omega
  ·have:=hp _ _ hm hh h1;rw [hg] at this;omega
 ·intro hlt;have:=hp _ _ hh hm hlt;rw [hg] at this;exact this
theorem halfU (n:Nat):((n:Nat):Int).fdiv (2^(min (1:Int).toNat IntKind.u64.bits))=((n / 2:Nat):Int):=by
 have h:min (1:Int).toNat IntKind.u64.bits=1:=by decide
 rw [h,Int.fdiv_eq_ediv_of_nonneg _ (by decide)];omega
theorem retBS {i m:Nat} (h:i=m):AV.d (.tup [AH (i:Int),.raw (.bool true)])= .d (.tup [AH (m:Int),BJ true]):=by rw [h]
theorem Vy (l:List Int) (x:Int) (hs:l.Pairwise (· < ·)) (hx:x∈l) (hl:l.length≤1000000):AU Tryz.prog 121 [.d (.sl none (l.map AH)),.d (AH x)] (.tup [AH (l.idxOf x:Nat),BJ true]):=by
 have hm:=List.idxOf_lt_length_of_mem hx;have hg:l[l.idxOf x]=x:=List.getElem_idxOf hm;have hbl:=fun {h:Nat} (hh:h<l.length)=>bs_lt hs hx hh
 obtain ⟨m,hmE⟩:∃m,l.idxOf x=m:=⟨_,rfl⟩
 simp only [hmE] at hm hg hbl⊢;refine B2 Tryz.func121 Z Z Tryz.ntmps121 Z Z Z fun F hF=>(AF (AJ (AD Z Z (AD Z Z (AG (AF (AJ (AC Z Z ?_))))))))
 first | refine J (Cz rfl Tryz.underlying33 rfl) ?_ | refine J (C9 Z Z Tryz.underlying33 rfl) ?_ | refine J (DB rfl Tryz.underlying33 rfl) ?_ | refine J (Cy rfl Tryz.underlying33 rfl) ?_ | refine J (Cr rfl Tryz.underlying33 rfl) ?_ | refine J (Cw rfl Tryz.underlying33 rfl) ?_
 refine AD Z Z (AG ?_);refine AF (AJ (AC Z Z (AD Z Z (AD Z Z (AG (AF (Al (EQ (α:=Nat×Nat) (fun q=>⟨54,[(0,.d (.sl none (l.map AH))),(1,.d (AH x)),(6,(.d (AH (l.length:Int)))),(7,(.d (AH (q.1:Int)))),(8,(.d (AH (q.2:Int))))],[]⟩) (fun q=>q.1≤m∧m≤q.2∧q.2≤l.length) (fun q=>q.2 - q.1) ((0,l.length)) (⟨Nat.zero_le _,Nat.le_of_lt hm,Nat.le_refl _⟩) (Ui ⟨rfl,rfl,rfl,rfl,rfl,trivial⟩) ?_))))))));rintro ⟨i,j⟩ ⟨hi,hj,hjl⟩;dsimp only at hi hj hjl⊢;refine AF (AF (AJ (AC Z Z (AC Z Z ?_))))
 first | refine J (CD Z Z Z) ?_ | refine J (CE Z Z Z) ?_
 refine AG ?_
 first | refine Ay rfl (fun h15=>?_) (fun h15=>?_) | refine At rfl (fun h15=>?_) (fun h15=>?_)
 ·have hij:i<j:=DA h15;refine Ak (Al (AF (AJ (AC Z Z (AC Z Z ?_)))));have hh:(i+j) / 2<l.length:=by omega
  have hcU:IntKind.u64.wrap ((i:Int)+(j:Int))=((i+j:Nat):Int):=(IntWalk.u64_in _ (by omega)).trans (Int.natCast_add i j).symm;refine J (Bi Z Z (IntWalk.i64_in _ (by omega)) rfl) ?_;refine J (Tn rfl Tryz.underlying3 Tryz.underlying155 (hcU) rfl) (J (SW Z Z (by omega) (halfU (i+j)) rfl) (J (Tn rfl Tryz.underlying155 Tryz.underlying3 (Ac ((i+j) / 2) (by omega)) rfl) (AD Z Z (AG (AF (AJ (AC Z Z (AC Z Z ?_))))))))
  first | refine J (CT ((i+j) / 2) Z Z (rfl) (A0 hh) Tryz.underlying33 rfl Ep rfl) ?_ | refine J (CU ((i+j) / 2) Z Z (rfl) (A0 hh) rfl Tryz.underlying33 Ep rfl) ?_
  first | refine J (AY Z Z Ab rfl) ?_ | refine J (AW Z Z Z Ab rfl) ?_ | refine J (AX Z Z (rfl) rfl Ab rfl) ?_
  refine AC Z Z (J (B1 (less_p l[(i+j) / 2] x) Z Z) (AG ?_))
  first | refine Ay rfl (fun h27=>?_) (fun h27=>?_) | refine At rfl (fun h27=>?_) (fun h27=>?_)
  ·refine AJ (AC Z Z (J (Bi Z Z (Ac ((i+j) / 2+1) (by omega)) rfl) (AD Z Z (AG ?_))));exact ⟨((i+j) / 2+1,j),⟨by show (i+j) / 2+1≤m;have h:=(hbl hh).1 h27;omega,hj,hjl⟩,by show j - ((i+j) / 2+1)<j - i;omega,⟨rfl,rfl,fun _ _=>N2.get (l:=[(0,_),(1,_),(6,_),(7,_),(8,_)]) ⟨rfl,rfl,rfl,rfl,rfl,trivial⟩⟩⟩
  ·refine AJ (AC Z Z (AD Z Z (AG ?_)));exact ⟨(i,(i+j) / 2),⟨hi,by show m≤(i+j) / 2;exact Nat.le_of_not_lt fun h=>h27 ((hbl hh).2 h),by show (i+j) / 2≤l.length;omega⟩,by show (i+j) / 2 - i<j - i;omega,⟨rfl,rfl,fun _ _=>N2.get (l:=[(0,_),(1,_),(6,_),(7,_),(8,_)]) ⟨rfl,rfl,rfl,rfl,rfl,trivial⟩⟩⟩
 ·refine CW (AF ?_);have him:i=m:=by have h:=h15;omega
  have hi1:i<l.length:=by omega
  have hgi:l[i]=x:=by rw [←hg];congr 1
  refine AJ (AC Z Z (AC Z Z (AC Z Z ?_)))
  first | refine J (CD Z Z Z) ?_ | refine J (CE Z Z Z) ?_
  refine AC Z Z (NZ 35 rfl ((decide_eq_true (by omega))) (A9 Z Z Z (AC Z Z (A9 Z Z Z (AC Z Z (A9 Z Z Z ?_))))))
  first | refine J (CT (i) Z Z (rfl) (A0 hi1) Tryz.underlying33 rfl Ep rfl) ?_ | refine J (CU (i) Z Z (rfl) (A0 hi1) rfl Tryz.underlying33 Ep rfl) ?_
  refine A9 Z Z Z ?_
  first | refine J (AY Z Z Ab rfl) ?_ | refine J (AW Z Z Z Ab rfl) ?_ | refine J (AX Z Z (rfl) rfl Ab rfl) ?_
  refine A9 Z Z Z (AC Z Z (A9 Z Z Z ?_))
  first | refine J (Ea Z Z Z) ?_ | refine J (E9 Z Z Z) ?_ | refine J (EV Z Z Z) ?_ | refine J (E4 Tryz.underlying3 Z Z Z) ?_ | refine J (E7 Tryz.underlying3 Z Z Z) ?_ | refine J (E6 Tryz.underlying3 Z Z) ?_ | refine J (E5 Tryz.underlying3 Z Z Z) ?_ | refine J (E8 Tryz.underlying3 Z Z) ?_
  refine A9 Z Z Z ?_;refine AC Z Z (NZ 42 rfl ((decide_eq_true hgi)) (A8 Z Z Z Z (A8 Z Z Z Z (A8 Z Z Z Z (A8 Z Z Z Z (A8 Z Z Z Z (A8 Z Z Z Z (UQ Z Z Z ?_))))))));refine UQ Z Z Z (A8 Z Z Z Z (A9 Z Z Z (J (DX Z Z Z Z) (J (DX Z Z Z Z) (AD Z Z (AD Z Z (AG (Ae ?_))))))));exact ⟨_,[],[],Aa rfl,rfl,rfl,retBS him,rfl⟩
def smI (p:Prb):List Int:=Ck (GS p)
theorem IE {p:Prb} (hp:Ao p=0):(GS p).Perm (p.it.map AT.id):=by
 unfold GS ordP;rw [if_pos hp];exact (QD p.it).map _
theorem MO {p:Prb} (hp:Ao p=0):(smI p).Perm (p.it.map AT.id):=(Es _).trans (IE hp)
theorem PS {p:Prb} (hp:Ao p=0) (x:Int):x∈smI p↔x∈p.it.map AT.id:=(MO hp).mem_iff
theorem Tp {p:Prb} (hp:Ao p=0):(smI p).length=p.it.length:=by rw [(MO hp).length_eq,List.length_map]
theorem smI_lt {p:Prb} (hp:Ao p=0):(smI p).Pairwise (· < ·):=by
 have hn:(smI p).Nodup:=(MO hp).nodup_iff.2 (WP (KW hp).2.1);have hs:(smI p).Pairwise (· ≤ ·):=G8 _;rw [List.Nodup] at hn;exact (hs.and hn).imp fun {a b} h=>by have h1:=h.1;have h2:=h.2;omega
theorem Wz {p:Prb} (hp:Ao p=0) {i:Int} (hi:i∈p.it.map AT.id) {b:Bkd} (hb:b∈req p i):b.m∈smI p:=by
 rw [PS hp];unfold req at hb;rcases List.mem_append.1 hb with h | h
 ·unfold VN at h;obtain ⟨x,hx,rfl⟩:=List.mem_map.1 h;have hx':=(Es _).mem_iff.1 hx;obtain ⟨hk,_,he,_⟩:=GD hi;rw [he] at hx';have hf:=KF (KW hp).2.2 _ (List.mem_map.2 ⟨_,List.getElem_mem hk,rfl⟩);unfold TM at hf
  split at hf
  ·cases hf
  ·rename_i hn
   show x∈_;have hn2:¬Jv (p.it.map AT.id) x=true:=fun h=>hn (List.any_eq_true.2 ⟨x,hx',h⟩)
   simpa [Jv] using hn2
 ·obtain ⟨y,hy,h⟩:=List.mem_flatMap.1 h;unfold EY at h;obtain ⟨z,hz,rfl⟩:=List.mem_map.1 h;have hz':z∈y.q:=List.mem_of_mem_take hz;unfold linL at hy;obtain ⟨r,_,rfl⟩:=List.mem_map.1 hy;have hz2:z∈qIds (ordP p) r.r:=hz';unfold qIds at hz2;obtain ⟨o,ho,rfl⟩:=List.mem_map.1 hz2;exact (IE hp).mem_iff.1 (List.mem_map.2 ⟨o,(List.mem_filter.1 ho).1,rfl⟩)
def L8 (ids:List Int) (l:List Bkd):Nat:=l.foldl (fun a b=>a ||| 1<<<ids.idxOf b.m) 0
theorem WC (ids:List Int) {l:List Bkd} {k:Nat} (hk:k<l.length):L8 ids (l.take (k+1))=L8 ids (l.take k) ||| 1<<<ids.idxOf l[k].m:=by
 unfold L8;rw [List.take_succ_eq_append_getElem hk,List.foldl_append];rfl
theorem Ua {ids:List Int} (hn:ids.length≤31) (l:List Bkd):L8 ids l<4294967296:=by
 have key:∀(l:List Bkd) (a:Nat),a<4294967296 ->l.foldl (fun a b=>a ||| 1<<<ids.idxOf b.m) a<4294967296:=by
  intro l
  induction l with
  | nil=>intro a h;exact h
  | cons b l ih=>
   intro a h;rw [List.foldl_cons];exact ih _ (XZ h (K4 (by have:ids.idxOf b.m≤ids.length:=List.idxOf_le_length;omega)))
 exact key l 0 (by omega)
def NT (p:Prb) (i:Int):Nat:=L8 (smI p) (req p i)
def Nq (p:Prb) (x:Lin) (i:Int):Int:=CJ (itmOf p i) x.r
def PU (p:Prb) (x:Lin):List Int:=(smI p).map (Nq p x)
def Jh (p:Prb):Sma:=⟨smI p,(smI p).map (NT p),(linL p).map (PU p),(linL p).map Lin.n⟩
theorem Yb (l:List Bkd):D0 (inM []) l=l:=List.filter_eq_self.2 fun _ _=>rfl
abbrev lineC (x:Lin):List AV:=[.d (AH x.r.k),.d (Am x.r.acc.o),.d (AH x.r.acc.k),.d (Am x.r.acc.a),.d (Am x.r.f),.d (Am x.r.t),.d (AH x.n),.d (.sl none (x.q.map AH))]
set_option maxHeartbeats 2000000 in
theorem XF (p:Prb) (hp:Ao p=0) (hb:D1 p) (h1:p.it.length≤20) (h2:p.ro.length≤1000):A2 Tryz.prog 59 [.ptr 10 0 0] (HA p) fun r H'=>r= .d (.ptr (Ld (Jh p)))∧H'=HA p:=by
 have hLl:=Ez p;have hIl:=Tp hp;have hOl:(GS p).length=p.it.length:=by rw [(IE hp).length_eq,List.length_map]
 have hbk:∀mv i,A2 Tryz.prog 120 [.ptr 10 0 0,Nj mv,.d (AH i)] (HA p++ [(21,[.map (some ([],0)) []]),(31,[.addr 21 0 (.map (some mv))])]) fun r H'=>r= .d (.sl none ((req p i).map NU))∧H'=HA p++ [(21,[.map (some ([],0)) []]),(31,[.addr 21 0 (.map (some mv))])]:=fun mv i=>by
  have h:=(NS p mv (some ([],0)) [] i hb (by omega) h2).by [(12,21),(13,31)] rfl;rw [Yb] at h;exact h
 have hso:=Uz (GS p) (by omega);rw [show Ck (GS p)=smI p from rfl] at hso;refine B2 Tryz.func59 Z Z Tryz.ntmps59 Z Z Z fun F hF=>(AF (AJ (AD Z Z (AG (AF (AJ (AC Z Z ?_)))))))
 first | refine J (BS Z Z) ?_ | refine J (BQ Z Z) ?_ | refine J (BT Z Z) ?_ | refine J (BR Z Z) ?_
 first | refine J (AM rfl Du Z Z Z) ?_ | refine J (AO rfl Du Z Z Z) ?_ | refine J (AP rfl Du Z Z Z) ?_ | refine J (AN rfl Du Z Z Z) ?_ | refine J (AL rfl Du Z Z Z) ?_
 first | refine J (AY Z Z BO rfl) ?_ | refine J (AW Z Z Z BO rfl) ?_ | refine J (AX Z Z (rfl) rfl BO rfl) ?_
 refine U (Fp (Uq (GS p)) rfl [] trivial Z Z Z Z Z Z Z Z Z) (J (B1 (hso) Z Z) (J (DH zl146 pl146 Z Z Z) (U (C5 20 Z Z Z Z Z Z Z) ?_)));refine AD Z Z (AG (AF (AF (Cv 20 0 1 901 Tt Z Z Z Z Z Z Z (Cv 20 0 2 902 Ts Z Z Z Z Z Z Z (Cv 20 0 3 903 LK Z Z Z Z Z Z Z (AJ (AC Z Z ?_))))))))
 first | refine J (BS Z Z) ?_ | refine J (BQ Z Z) ?_ | refine J (BT Z Z) ?_ | refine J (BR Z Z) ?_
 first | refine J (AM rfl JY Z Z Z) ?_ | refine J (AO rfl JY Z Z Z) ?_ | refine J (AP rfl JY Z Z Z) ?_ | refine J (AN rfl JY Z Z Z) ?_ | refine J (AL rfl JY Z Z Z) ?_
 first | refine J (AY Z Z BO rfl) ?_ | refine J (AW Z Z Z BO rfl) ?_ | refine J (AX Z Z (rfl) rfl BO rfl) ?_
 first | refine J (Cz rfl Tryz.underlying33 rfl) ?_ | refine J (C9 Z Z Tryz.underlying33 rfl) ?_ | refine J (DB rfl Tryz.underlying33 rfl) ?_ | refine J (Cy rfl Tryz.underlying33 rfl) ?_ | refine J (Cr rfl Tryz.underlying33 rfl) ?_ | refine J (Cw rfl Tryz.underlying33 rfl) ?_
 refine AC Z Z (AG (Al (DG (α:=Nat×List Nat) (fun q=>⟨122,[(0,.ptr 10 0 0),(3,(.ptr 20 0 0)),(27,(.d (.sl none ((smI p).map AH)))),(28,(.d (AH ((smI p).length:Int)))),(29,(.d (AH (q.1:Int))))],HA p++ [(20,[.blk 146 [.d (.sl none ((smI p).map AH)),.own 901 0 q.2.length,.own 902 0 0,.own 903 0 0]]),(901,[.rowD 79 1 (q.2.map G6)]),(902,[.rowD 144 1 []]),(903,[.rowD 2 1 []])]⟩) (fun q=>q.1≤(smI p).length∧q.2=((smI p).take q.1).map (NT p)) (fun q=>(smI p).length - q.1) ((0,[])) (⟨Nat.zero_le _,rfl⟩) (BA hF [10,11,20,901,902,903] Z Z ⟨rfl,rfl,rfl,rfl,rfl,trivial⟩) ?_)));rintro ⟨k,BL⟩ ⟨hk0,hA⟩;dsimp only at hk0 hA⊢;refine AF (AJ ?_)
 first | refine J (CD Z Z Z) ?_ | refine J (CE Z Z Z) ?_
 refine AG (AF ?_)
 first | refine Ay rfl (fun h30=>?_) (fun h30=>?_) | refine At rfl (fun h30=>?_) (fun h30=>?_)
 ·have hk1:k<(smI p).length:=DA h30;refine Ak (AF (Al (AF (AJ ?_))))
  first | refine J (CT (k) Z Z (rfl) (A0 hk1) Tryz.underlying33 rfl Ep rfl) ?_ | refine J (CU (k) Z Z (rfl) (A0 hk1) rfl Tryz.underlying33 Ep rfl) ?_
  first | refine J (AY Z Z Ab rfl) ?_ | refine J (AW Z Z Z Ab rfl) ?_ | refine J (AX Z Z (rfl) rfl Ab rfl) ?_
  refine AD Z Z (AG (AF (AJ (AD Z Z (AG ?_)))));refine AF (AF (AJ (AC Z Z (U (Ys 21 Z Z Z Z) (Qy 31 21 0 Z Z Z Z Z fun mv=>(UP 34 31 0 (.inl rfl) rfl (AC Z Z (U (Fp (hbk mv (smI p)[k]) rfl [10,11,21,31] ⟨rfl,rfl,rfl,rfl,trivial⟩ Z Z Z Z Z Z Z Z Z) ?_))))))))
  first | refine J (Cz rfl Tryz.underlying225 rfl) ?_ | refine J (C9 Z Z Tryz.underlying225 rfl) ?_ | refine J (DB rfl Tryz.underlying225 rfl) ?_ | refine J (Cy rfl Tryz.underlying225 rfl) ?_ | refine J (Cr rfl Tryz.underlying225 rfl) ?_ | refine J (Cw rfl Tryz.underlying225 rfl) ?_
  refine AC Z Z (AG (Al (DG (α:=Nat×Nat) (fun q=>⟨122,[(0,.ptr 10 0 0),(3,(.ptr 20 0 0)),(6,(.d (G6 q.2))),(27,(.d (.sl none ((smI p).map AH)))),(28,(.d (AH ((smI p).length:Int)))),(29,(.d (AH (k:Int)))),(36,(.d (.sl none ((req p (smI p)[k]).map NU)))),(37,(.d (AH ((req p (smI p)[k]).length:Int)))),(38,(.d (AH (q.1:Int))))],HA p++ [(20,[.blk 146 [.d (.sl none ((smI p).map AH)),.own 901 0 BL.length,.own 902 0 0,.own 903 0 0]]),(901,[.rowD 79 1 (BL.map G6)]),(902,[.rowD 144 1 []]),(903,[.rowD 2 1 []])]⟩) (fun q=>q.1≤(req p (smI p)[k]).length∧q.2=L8 (smI p) ((req p (smI p)[k]).take q.1)) (fun q=>(req p (smI p)[k]).length - q.1) ((0,0)) (⟨Nat.zero_le _,rfl⟩) (BA hF [10,11,20,901,902,903] Z Z ⟨rfl,rfl,rfl,rfl,rfl,rfl,rfl,rfl,rfl,trivial⟩) ?_)));rintro ⟨m,bits⟩ ⟨hm0,hB⟩;dsimp only at hm0 hB⊢;refine AF ?_;have hrl:=Lt hb (by omega:p.it.length≤1000) h2 (smI p)[k];have hri:∀b∈req p (smI p)[k],b.m∈smI p:=fun b hb=>Wz hp ((PS hp _).1 (List.getElem_mem hk1)) hb;have hblo:NT p (smI p)[k]=L8 (smI p) (req p (smI p)[k]):=rfl;refine AJ ?_
  first | refine J (CD Z Z Z) ?_ | refine J (CE Z Z Z) ?_
  refine AG (AF ?_)
  first | refine Ay rfl (fun h39=>?_) (fun h39=>?_) | refine At rfl (fun h39=>?_) (fun h39=>?_)
  ·have hm1:m<(req p (smI p)[k]).length:=DA h39;refine Ak (AF (Al (AF (AJ ?_))))
   first | refine J (CT (m) Z Z (rfl) (A0 hm1) Tryz.underlying225 rfl W1 rfl) ?_ | refine J (CU (m) Z Z (rfl) (A0 hm1) rfl Tryz.underlying225 W1 rfl) ?_
   first | refine J (Av Z Z Wq rfl) ?_ | refine J (Aw Z Z Wq Z Z Z) ?_ | refine J (Ax Z Z (rfl) rfl Wq rfl) ?_
   refine U (DO 22 WR Z Z Z Z) (U (CF Z Z Z Z Z Z Z W1) (AG (AF (Gp [[],[0],[0,1],[0,1,2],[],[4],[0,1,2,3,4,5],[0,1,2,3,4,5,6],[0,1,2,3,4,5,6,7],[0,1,2,3,4,5,6,7],[0,1,2,3,4,5,6,7,8],[0,1,2,3,4,5,6,7,8,9,10]] BF rfl (Hh ?_)))))
   first | refine AE [3] [] Z Z (fun _=>AB (Be Z Z)) ?_ | refine AI [3] Z Z (fun _=>AB (Be Z Z)) ?_
   first | refine AE [43] [] Z Z (fun _=>AB (BS Z Z)) ?_ | refine AI [43] Z Z (fun _=>AB (BS Z Z)) ?_ | refine AE [43] [] Z Z (fun _=>AB (BQ Z Z)) ?_ | refine AI [43] Z Z (fun _=>AB (BQ Z Z)) ?_ | refine AE [43] [] Z Z (fun _=>AB (BT Z Z)) ?_ | refine AI [43] Z Z (fun _=>AB (BT Z Z)) ?_ | refine AE [43] [] Z Z (fun _=>AB (BR Z Z)) ?_ | refine AI [43] Z Z (fun _=>AB (BR Z Z)) ?_
   first | refine AE [44] [] Z Z (fun _=>AB (AM rfl JY Z Z Z)) ?_ | refine AI [44] Z Z (fun _=>AB (AM rfl JY Z Z Z)) ?_ | refine AE [44] [] Z Z (fun _=>AB (AO rfl JY Z Z Z)) ?_ | refine AI [44] Z Z (fun _=>AB (AO rfl JY Z Z Z)) ?_ | refine AE [44] [] Z Z (fun _=>AB (AP rfl JY Z Z Z)) ?_ | refine AI [44] Z Z (fun _=>AB (AP rfl JY Z Z Z)) ?_ | refine AE [44] [] Z Z (fun _=>AB (AN rfl JY Z Z Z)) ?_ | refine AI [44] Z Z (fun _=>AB (AN rfl JY Z Z Z)) ?_ | refine AE [44] [] Z Z (fun _=>AB (AL rfl JY Z Z Z)) ?_ | refine AI [44] Z Z (fun _=>AB (AL rfl JY Z Z Z)) ?_
   first | refine AE [45] [20] Z Z (fun _=>AB (AY Z Z BO rfl)) ?_ | refine AE [45] [20] Z Z (fun _=>AB (AW Z Z Z BO rfl)) ?_ | refine AE [45] [20] Z Z (fun _=>AB (AX Z Z (rfl) rfl BO rfl)) ?_
   first | refine AE [8] [] Z Z (fun _=>AB (AM rfl Ds Z Z Z)) ?_ | refine AI [8] Z Z (fun _=>AB (AM rfl Ds Z Z Z)) ?_ | refine AE [8] [] Z Z (fun _=>AB (AO rfl Ds Z Z Z)) ?_ | refine AI [8] Z Z (fun _=>AB (AO rfl Ds Z Z Z)) ?_ | refine AE [8] [] Z Z (fun _=>AB (AP rfl Ds Z Z Z)) ?_ | refine AI [8] Z Z (fun _=>AB (AP rfl Ds Z Z Z)) ?_ | refine AE [8] [] Z Z (fun _=>AB (AN rfl Ds Z Z Z)) ?_ | refine AI [8] Z Z (fun _=>AB (AN rfl Ds Z Z Z)) ?_ | refine AE [8] [] Z Z (fun _=>AB (AL rfl Ds Z Z Z)) ?_ | refine AI [8] Z Z (fun _=>AB (AL rfl Ds Z Z Z)) ?_
   first | refine AE [47] [22] Z Z (fun _=>AB (AY Z Z Ab rfl)) ?_ | refine AE [47] [22] Z Z (fun _=>AB (AW Z Z Z Ab rfl)) ?_ | refine AE [47] [22] Z Z (fun _=>AB (AX Z Z (rfl) rfl Ab rfl)) ?_
   refine GR 6 Z Z Z (BC 7 Z Z (J (B1 (Vy (smI p) (req p (smI p)[k])[m].m (smI_lt hp) (hri _ (List.getElem_mem hm1)) (by omega)) Z Z) (AG ⟨rfl,?_⟩)));refine BC 8 Z Z (AC Z Z (AG ⟨rfl,?_⟩));refine Hh ?_
   first | refine AE [42] [] Z Z (fun _=>AB (B6 Z Z Z)) ?_ | refine AI [42] Z Z (fun _=>AB (B6 Z Z Z)) ?_ | refine AE [42] [] Z Z (fun _=>AB (B7 Z Z Z)) ?_ | refine AI [42] Z Z (fun _=>AB (B7 Z Z Z)) ?_
   first | refine AE [42] [] Z Z (fun _=>AB (B6 Z Z Z)) ?_ | refine AI [42] Z Z (fun _=>AB (B6 Z Z Z)) ?_ | refine AE [42] [] Z Z (fun _=>AB (B7 Z Z Z)) ?_ | refine AI [42] Z Z (fun _=>AB (B7 Z Z Z)) ?_
   first | refine AE [50] [] Z Z (fun _=>AB (Fu Z Z)) ?_ | refine AI [50] Z Z (fun _=>AB (Fu Z Z)) ?_
   refine GR 11 Z Z Z (BC 12 Z Z (AD Z Z (AG ⟨rfl,?_⟩)));refine GQ (AJ (AC Z Z (AC Z Z ?_)));have hix:=List.idxOf_lt_length_of_mem (hri _ (List.getElem_mem hm1));refine J (SX Z Z (by omega) (Wl (by omega)) rfl) (J (IA Z Z Z (orU (by rw [hB];exact Ua (by omega) _) (K4 (by omega))) rfl) (AD Z Z (AG (AJ (J (Bi Z Z (Ac (m+1) (by omega)) rfl) (AC Z Z (AG ?_)))))));exact ⟨(m+1,bits ||| 1<<<(smI p).idxOf (req p (smI p)[k])[m].m),⟨by show m+1≤_;omega,by show bits ||| 1<<<(smI p).idxOf (req p (smI p)[k])[m].m=L8 (smI p) ((req p (smI p)[k]).take (m+1));rw [WC (smI p) hm1,hB]⟩,by show (req p (smI p)[k]).length - (m+1)<(req p (smI p)[k]).length - m;omega,BA hF [10,11,20,901,902,903] rfl (rfl) ⟨rfl,rfl,rfl,rfl,rfl,rfl,rfl,rfl,rfl,trivial⟩⟩
  ·have hfin:bits=NT p (smI p)[k]:=by rw [hblo,hB,List.take_of_length_le (by have h:=h39;omega)]
   refine CW (AJ (AC Z Z (AC Z Z ?_)))
   first | refine J (BS Z Z) ?_ | refine J (BQ Z Z) ?_ | refine J (BT Z Z) ?_ | refine J (BR Z Z) ?_
   first | refine J (AM rfl T5 Z Z Z) ?_ | refine J (AO rfl T5 Z Z Z) ?_ | refine J (AP rfl T5 Z Z Z) ?_ | refine J (AN rfl T5 Z Z Z) ?_ | refine J (AL rfl T5 Z Z Z) ?_
   have hBl:BL.length≤20:=by rw [hA,List.length_map,List.length_take];omega
   first | refine J (AY Z Z OX rfl) ?_ | refine J (AW Z Z Z OX rfl) ?_ | refine J (AX Z Z (rfl) rfl OX rfl) ?_
   refine AC Z Z (U (Fq 40 Tt Z Z Z Z Z Z Z Z) ?_)
   first | refine U (If (BL) ([bits]) Z Z Z Z Z Z Z Z Tt (by simp only [List.length_singleton];omega) Z Z Z Z) ?_ | refine U (LD (BL) ([bits]) Z Z Z Z Z Z (fun _=>rfl) Tt (by simp only [List.length_singleton];omega) Z Z Z Z) ?_
   first | refine J (BS Z Z) ?_ | refine J (BQ Z Z) ?_ | refine J (BT Z Z) ?_ | refine J (BR Z Z) ?_
   first | refine J (AM rfl T5 Z Z Z) ?_ | refine J (AO rfl T5 Z Z Z) ?_ | refine J (AP rfl T5 Z Z Z) ?_ | refine J (AN rfl T5 Z Z Z) ?_ | refine J (AL rfl T5 Z Z Z) ?_
   refine U (CF Z Z Z Z Z Z Z sz142) (AG (AJ (J (Bi Z Z (Ac (k+1) (by omega)) rfl) (AC Z Z (AG ?_)))));exact ⟨(k+1,BL++ [bits]),⟨by show k+1≤_;omega,by show BL++ [bits]=((smI p).take (k+1)).map (NT p);rw [Cp hk1,hA,hfin]⟩,by show (smI p).length - (k+1)<(smI p).length - k;omega,BA hF [10,11,20,901,902,903] rfl (rfl) ⟨rfl,rfl,rfl,rfl,rfl,trivial⟩⟩
 ·refine CW (AF (AF ?_));have hBL:BL=(smI p).map (NT p):=by rw [hA,List.take_of_length_le (by have h:=h30;omega)]
  refine Yu (ys:=BL.map G6) 20 0 1 901 Z Z Z (Nat.le_of_eq (by simp)) (List.take_of_length_le (by simp)) Z Z Z Z Z Z (AJ (AC Z Z ?_))
  first | refine J (BS Z Z) ?_ | refine J (BQ Z Z) ?_ | refine J (BT Z Z) ?_ | refine J (BR Z Z) ?_
  first | refine J (AM rfl Hv Z Z Z) ?_ | refine J (AO rfl Hv Z Z Z) ?_ | refine J (AP rfl Hv Z Z Z) ?_ | refine J (AN rfl Hv Z Z Z) ?_ | refine J (AL rfl Hv Z Z Z) ?_
  first | refine J (AY Z Z Ev rfl) ?_ | refine J (AW Z Z Z Ev rfl) ?_ | refine J (AX Z Z (rfl) rfl Ev rfl) ?_
  first | refine J (Cz rfl Tryz.underlying213 rfl) ?_ | refine J (C9 Z Z Tryz.underlying213 rfl) ?_ | refine J (DB rfl Tryz.underlying213 rfl) ?_ | refine J (Cy rfl Tryz.underlying213 rfl) ?_ | refine J (Cr rfl Tryz.underlying213 rfl) ?_ | refine J (Cw rfl Tryz.underlying213 rfl) ?_
  refine AC Z Z (AG (Al (DG (α:=Nat×List (List Int)×List Int) (fun q=>⟨122,[(0,.ptr 10 0 0),(3,(.ptr 20 0 0)),(71,(.d (.sl none ((linL p).map Kl)))),(72,(.d (AH ((linL p).length:Int)))),(73,(.d (AH (q.1:Int))))],HA p++ [(20,[.blk 146 [.d (.sl none ((smI p).map AH)),.d (.sl none (BL.map G6)),.own 902 0 q.2.1.length,.own 903 0 q.2.2.length]]),(902,[.rowD 144 1 (q.2.1.map rowZ)]),(903,[.rowD 2 1 (q.2.2.map AH)])]⟩) (fun q=>q.1≤(linL p).length∧q.2.1=((linL p).take q.1).map (PU p)∧q.2.2=((linL p).take q.1).map Lin.n) (fun q=>(linL p).length - q.1) ((0,[],[])) (⟨Nat.zero_le _,rfl,rfl⟩) (BA hF [10,11,20,902,903] Z Z ⟨rfl,rfl,rfl,rfl,rfl,trivial⟩) ?_)));rintro ⟨n,DL,RL⟩ ⟨hn0,hD,hR⟩;dsimp only at hn0 hD hR⊢;refine AF (AJ ?_)
  first | refine J (CD Z Z Z) ?_ | refine J (CE Z Z Z) ?_
  refine AG (AF ?_)
  first | refine Ay rfl (fun h74=>?_) (fun h74=>?_) | refine At rfl (fun h74=>?_) (fun h74=>?_)
  ·have hn1:n<(linL p).length:=DA h74;refine Ak (AF (Al (AF (AJ ?_))))
   first | refine J (CT (n) Z Z (rfl) (A0 hn1) Tryz.underlying213 rfl J6 rfl) ?_ | refine J (CU (n) Z Z (rfl) (A0 hn1) rfl Tryz.underlying213 J6 rfl) ?_
   first | refine J (Av Z Z Ji rfl) ?_ | refine J (Aw Z Z Ji Z Z Z) ?_ | refine J (Ax Z Z (rfl) rfl Ji rfl) ?_
   refine U (DO 24 QM Z Z Z Z) (U (CF Z Z Z Z Z Z Z J6) (AG ?_));refine AF (AJ (AD Z Z (AG (AF (AF (EA 13 905 LK Z Z Z Z (AJ (AC Z Z ?_))))))))
   first | refine J (BS Z Z) ?_ | refine J (BQ Z Z) ?_ | refine J (BT Z Z) ?_ | refine J (BR Z Z) ?_
   first | refine J (AM rfl JY Z Z Z) ?_ | refine J (AO rfl JY Z Z Z) ?_ | refine J (AP rfl JY Z Z Z) ?_ | refine J (AN rfl JY Z Z Z) ?_ | refine J (AL rfl JY Z Z Z) ?_
   first | refine J (AY Z Z BO rfl) ?_ | refine J (AW Z Z Z BO rfl) ?_ | refine J (AX Z Z (rfl) rfl BO rfl) ?_
   first | refine J (Cz rfl Tryz.underlying33 rfl) ?_ | refine J (C9 Z Z Tryz.underlying33 rfl) ?_ | refine J (DB rfl Tryz.underlying33 rfl) ?_ | refine J (Cy rfl Tryz.underlying33 rfl) ?_ | refine J (Cr rfl Tryz.underlying33 rfl) ?_ | refine J (Cw rfl Tryz.underlying33 rfl) ?_
   refine AC Z Z (AG (Al (DG (α:=Nat×List Int) (fun q=>⟨122,[(0,.ptr 10 0 0),(3,(.ptr 20 0 0)),(12,(.ptr 24 0 0)),(13,(.own 905 0 q.2.length)),(71,(.d (.sl none ((linL p).map Kl)))),(72,(.d (AH ((linL p).length:Int)))),(73,(.d (AH (n:Int)))),(80,(.d (.sl none ((smI p).map AH)))),(81,(.d (AH ((smI p).length:Int)))),(82,(.d (AH (q.1:Int))))],HA p++ [(20,[.blk 146 [.d (.sl none ((smI p).map AH)),.d (.sl none (BL.map G6)),.own 902 0 DL.length,.own 903 0 RL.length]]),(902,[.rowD 144 1 (DL.map rowZ)]),(903,[.rowD 2 1 (RL.map AH)]),(905,[.rowD 2 1 (q.2.map AH)]),(24,[.blk 218 (lineC (linL p)[n])])]⟩) (fun q=>q.1≤(smI p).length∧q.2=((smI p).take q.1).map (Nq p (linL p)[n])) (fun q=>(smI p).length - q.1) ((0,[])) (⟨Nat.zero_le _,rfl⟩) (BA hF [10,11,20,902,903,905,24] Z Z ⟨rfl,rfl,rfl,rfl,rfl,rfl,rfl,rfl,rfl,rfl,trivial⟩) ?_)));rintro ⟨j,acc⟩ ⟨hj0,hC⟩;dsimp only at hj0 hC⊢;refine AF (AJ ?_)
   first | refine J (CD Z Z Z) ?_ | refine J (CE Z Z Z) ?_
   refine AG (AF ?_)
   first | refine Ay rfl (fun h83=>?_) (fun h83=>?_) | refine At rfl (fun h83=>?_) (fun h83=>?_)
   ·have hj1:j<(smI p).length:=DA h83;refine Ak (AF (Al (AF (AJ ?_))))
    first | refine J (CT (j) Z Z (rfl) (A0 hj1) Tryz.underlying33 rfl Ep rfl) ?_ | refine J (CU (j) Z Z (rfl) (A0 hj1) rfl Tryz.underlying33 Ep rfl) ?_
    first | refine J (AY Z Z Ab rfl) ?_ | refine J (AW Z Z Z Ab rfl) ?_ | refine J (AX Z Z (rfl) rfl Ab rfl) ?_
    refine AD Z Z (AG (Gp [[],[],[1],[1,2],[1,2,3],[],[1,2,3,4,5],[],[7],[1,2,3,4,5,6,7,8],[1,2,3,4,5,6,7,8,9],[0,1,2,3,4,5,6,7,8,9,10],[0,1,2,3,4,5,6,7,8,9,10,11]] BF rfl (Hh ?_)));have hcl:acc.length≤20:=by rw [hC,List.length_map,List.length_take];omega
    have hib:=Lx hb (smI p)[j]
    first | refine AE [13] [] Z Z (fun _=>AB (Be Z Z)) ?_ | refine AI [13] Z Z (fun _=>AB (Be Z Z)) ?_
    first | refine AE [0] [] Z Z (fun _=>AB (Be Z Z)) ?_ | refine AI [0] Z Z (fun _=>AB (Be Z Z)) ?_
    first | refine AE [87] [] Z Z (fun _=>AB (BS Z Z)) ?_ | refine AI [87] Z Z (fun _=>AB (BS Z Z)) ?_ | refine AE [87] [] Z Z (fun _=>AB (BQ Z Z)) ?_ | refine AI [87] Z Z (fun _=>AB (BQ Z Z)) ?_ | refine AE [87] [] Z Z (fun _=>AB (BT Z Z)) ?_ | refine AI [87] Z Z (fun _=>AB (BT Z Z)) ?_ | refine AE [87] [] Z Z (fun _=>AB (BR Z Z)) ?_ | refine AI [87] Z Z (fun _=>AB (BR Z Z)) ?_
    first | refine AE [88] [] Z Z (fun _=>AB (AM rfl FL Z Z Z)) ?_ | refine AI [88] Z Z (fun _=>AB (AM rfl FL Z Z Z)) ?_ | refine AE [88] [] Z Z (fun _=>AB (AO rfl FL Z Z Z)) ?_ | refine AI [88] Z Z (fun _=>AB (AO rfl FL Z Z Z)) ?_ | refine AE [88] [] Z Z (fun _=>AB (AP rfl FL Z Z Z)) ?_ | refine AI [88] Z Z (fun _=>AB (AP rfl FL Z Z Z)) ?_ | refine AE [88] [] Z Z (fun _=>AB (AN rfl FL Z Z Z)) ?_ | refine AI [88] Z Z (fun _=>AB (AN rfl FL Z Z Z)) ?_ | refine AE [88] [] Z Z (fun _=>AB (AL rfl FL Z Z Z)) ?_ | refine AI [88] Z Z (fun _=>AB (AL rfl FL Z Z Z)) ?_
    first | refine AE [89] [10] Z Z (fun _=>AB (AY Z Z C4 rfl)) ?_ | refine AE [89] [10] Z Z (fun _=>AB (AW Z Z Z C4 rfl)) ?_ | refine AE [89] [10] Z Z (fun _=>AB (AX Z Z (rfl) rfl C4 rfl)) ?_
    first | refine AE [15] [] Z Z (fun _=>AB (Be Z Z)) ?_ | refine AI [15] Z Z (fun _=>AB (Be Z Z)) ?_
    refine AE [90,91] [11] Z Z (fun _=>AB (Jb (Bx p.it) (smI p)[j] itm0 (itmOf p (smI p)[j]) Z Z Z LT KB Um De (IN p (smI p)[j]) rfl)) ?_
    first | refine AE [12] [] Z Z (fun _=>AB (AM rfl GY Z Z Z)) ?_ | refine AI [12] Z Z (fun _=>AB (AM rfl GY Z Z Z)) ?_ | refine AE [12] [] Z Z (fun _=>AB (AO rfl GY Z Z Z)) ?_ | refine AI [12] Z Z (fun _=>AB (AO rfl GY Z Z Z)) ?_ | refine AE [12] [] Z Z (fun _=>AB (AP rfl GY Z Z Z)) ?_ | refine AI [12] Z Z (fun _=>AB (AP rfl GY Z Z Z)) ?_ | refine AE [12] [] Z Z (fun _=>AB (AN rfl GY Z Z Z)) ?_ | refine AI [12] Z Z (fun _=>AB (AN rfl GY Z Z Z)) ?_ | refine AE [12] [] Z Z (fun _=>AB (AL rfl GY Z Z Z)) ?_ | refine AI [12] Z Z (fun _=>AB (AL rfl GY Z Z Z)) ?_
    first | refine AE [93] [24] Z Z (fun _=>AB (Av Z Z Ah rfl)) ?_ | refine AE [93] [24] Z Z (fun _=>AB (Aw Z Z Ah Z Z Z)) ?_ | refine AE [93] [24] Z Z (fun _=>AB (Ax Z Z (rfl) rfl Ah rfl)) ?_
    first | refine AE [92,94] [] Z Z (fun _=>AB (B1 (KO (itmOf p (smI p)[j]) (linL p)[n].r (by omega) (by omega) (by omega)) Z Z)) ?_ | refine AI [92,94] Z Z (fun _=>AB (B1 (KO (itmOf p (smI p)[j]) (linL p)[n].r (by omega) (by omega) (by omega)) Z Z)) ?_
    refine Gn [95] [41] [(96,_)] Z Z (fun _=>Gq (Fq 41 LK Z Z Z Z Z Z Z Z)) (.inr ⟨96,_,rfl,rfl,rfl,rfl,rfl⟩) Z Z Z Z Z (GR 11 Z Z Z (BC 12 Z Z ?_))
    first | refine U (If (acc) ([Nq p (linL p)[n] (smI p)[j]]) Z Z Z Z Z Z Z Z LK (by simp only [List.length_singleton];omega) Z Z Z Z) ?_ | refine U (LD (acc) ([Nq p (linL p)[n] (smI p)[j]]) Z Z Z Z Z Z (fun _=>rfl) LK (by simp only [List.length_singleton];omega) Z Z Z Z) ?_
    refine AG ⟨rfl,?_⟩;refine BC 13 Z Z (AD Z Z (AG ⟨rfl,?_⟩));refine GQ (AJ (J (Bi Z Z (Ac (j+1) (by omega)) rfl) (AC Z Z (AG ?_))));exact ⟨(j+1,acc++ [Nq p (linL p)[n] (smI p)[j]]),⟨by show j+1≤_;omega,by show acc++ [Nq p (linL p)[n] (smI p)[j]]=((smI p).take (j+1)).map (Nq p (linL p)[n]);rw [Cp hj1,hC]⟩,by show (smI p).length - (j+1)<(smI p).length - j;omega,BA hF [10,11,20,902,903,905,24] rfl (rfl) ⟨rfl,rfl,rfl,rfl,rfl,rfl,rfl,rfl,rfl,rfl,trivial⟩⟩
   ·have hfa:acc=PU p (linL p)[n]:=by rw [hC,List.take_of_length_le (by have h:=h83;omega)];rfl
    refine CW ?_;have hDl:DL.length≤1000:=by rw [hD,List.length_map,List.length_take];omega
    have hRl:RL.length≤1000:=by rw [hR,List.length_map,List.length_take];omega
    refine WK (emb:=AH) 13 905 acc Z Z Z Z Z Z Z (Ry 950 902 0 Z Z Z Z Z fun a1 c1=>(Ry 951 903 0 Z Z Z Z Z fun a2 c2=>(Yo 950 0 20 0 2 Z Z Z Z Z (Yo 951 0 20 0 3 Z Z Z Z Z (Gp [[],[],[],[2],[2,3],[2,3,4],[],[6],[2,3,4,5,6,7],[],[9],[9,10],[9,10,11],[],[13],[13,14],[2,3,4,5,6,7,8,9,10,11,12,13,14,15],[0,2,3,4,5,6,7,8,9,10,11,12,13,14,15,16],[0,2,3,4,5,6,7,8,9,10,11,12,13,14,15,16,17],[0,2,3,4,5,6,7,8,9,10,11,12,13,14,15,16,17,18],[0,1,2,3,4,5,6,7,8,9,10,11,12,13,14,15,16,17,18,19],[0,1,2,3,4,5,6,7,8,9,10,11,12,13,14,15,16,17,18,19,20],[0,1,2,3,4,5,6,7,8,9,10,11,12,13,14,15,16,17,18,19,20,21]] BF rfl (Hh ?_))))))
    first | refine AE [3] [] Z Z (fun _=>AB (Be Z Z)) ?_ | refine AI [3] Z Z (fun _=>AB (Be Z Z)) ?_
    first | refine AE [3] [] Z Z (fun _=>AB (Be Z Z)) ?_ | refine AI [3] Z Z (fun _=>AB (Be Z Z)) ?_
    first | refine AE [3] [] Z Z (fun _=>AB (Be Z Z)) ?_ | refine AI [3] Z Z (fun _=>AB (Be Z Z)) ?_
    first | refine AE [101] [] Z Z (fun _=>AB (BS Z Z)) ?_ | refine AI [101] Z Z (fun _=>AB (BS Z Z)) ?_ | refine AE [101] [] Z Z (fun _=>AB (BQ Z Z)) ?_ | refine AI [101] Z Z (fun _=>AB (BQ Z Z)) ?_ | refine AE [101] [] Z Z (fun _=>AB (BT Z Z)) ?_ | refine AI [101] Z Z (fun _=>AB (BT Z Z)) ?_ | refine AE [101] [] Z Z (fun _=>AB (BR Z Z)) ?_ | refine AI [101] Z Z (fun _=>AB (BR Z Z)) ?_
    first | refine AE [102] [] Z Z (fun _=>AB (AM rfl Lq Z Z Z)) ?_ | refine AI [102] Z Z (fun _=>AB (AM rfl Lq Z Z Z)) ?_ | refine AE [102] [] Z Z (fun _=>AB (AO rfl Lq Z Z Z)) ?_ | refine AI [102] Z Z (fun _=>AB (AO rfl Lq Z Z Z)) ?_ | refine AE [102] [] Z Z (fun _=>AB (AP rfl Lq Z Z Z)) ?_ | refine AI [102] Z Z (fun _=>AB (AP rfl Lq Z Z Z)) ?_ | refine AE [102] [] Z Z (fun _=>AB (AN rfl Lq Z Z Z)) ?_ | refine AI [102] Z Z (fun _=>AB (AN rfl Lq Z Z Z)) ?_ | refine AE [102] [] Z Z (fun _=>AB (AL rfl Lq Z Z Z)) ?_ | refine AI [102] Z Z (fun _=>AB (AL rfl Lq Z Z Z)) ?_
    refine AE [103] [20,950] Z Z (fun _=>AB (Q3 950 0 Z Z Z Z (by simp) UI rfl)) ?_
    first | refine AE [13] [] Z Z (fun _=>AB (Be Z Z)) ?_ | refine AI [13] Z Z (fun _=>AB (Be Z Z)) ?_
    refine Gn [105] [42] [(106,_)] Z Z (fun _=>Gq (Fq 42 Ts Z Z Z Z Z Z Z Z)) (.inr ⟨106,_,rfl,rfl,rfl,rfl,rfl⟩) Z Z Z Z Z ?_
    first | refine Gn [104,106] [902,42,950] [(107,_)] Z Z (fun _=>Gq (If (DL) ([acc]) Z Z Z Z Z Z Z Z Ts (by simp only [List.length_singleton];omega) Z Z Z Z)) (.inr ⟨107,_,rfl,rfl,rfl,rfl,rfl⟩) Z Z Z Z Z ?_ | refine Gn [104,106] [902,42,950] [(107,_)] Z Z (fun _=>Gq (LD (DL) ([acc]) Z Z Z Z Z Z (fun _=>rfl) Ts (by simp only [List.length_singleton];omega) Z Z Z Z)) (.inr ⟨107,_,rfl,rfl,rfl,rfl,rfl⟩) Z Z Z Z Z ?_
    first | refine AE [3] [] Z Z (fun _=>AB (Be Z Z)) ?_ | refine AI [3] Z Z (fun _=>AB (Be Z Z)) ?_
    first | refine AE [108] [] Z Z (fun _=>AB (BS Z Z)) ?_ | refine AI [108] Z Z (fun _=>AB (BS Z Z)) ?_ | refine AE [108] [] Z Z (fun _=>AB (BQ Z Z)) ?_ | refine AI [108] Z Z (fun _=>AB (BQ Z Z)) ?_ | refine AE [108] [] Z Z (fun _=>AB (BT Z Z)) ?_ | refine AI [108] Z Z (fun _=>AB (BT Z Z)) ?_ | refine AE [108] [] Z Z (fun _=>AB (BR Z Z)) ?_ | refine AI [108] Z Z (fun _=>AB (BR Z Z)) ?_
    first | refine AE [109] [] Z Z (fun _=>AB (AM rfl PE Z Z Z)) ?_ | refine AI [109] Z Z (fun _=>AB (AM rfl PE Z Z Z)) ?_ | refine AE [109] [] Z Z (fun _=>AB (AO rfl PE Z Z Z)) ?_ | refine AI [109] Z Z (fun _=>AB (AO rfl PE Z Z Z)) ?_ | refine AE [109] [] Z Z (fun _=>AB (AP rfl PE Z Z Z)) ?_ | refine AI [109] Z Z (fun _=>AB (AP rfl PE Z Z Z)) ?_ | refine AE [109] [] Z Z (fun _=>AB (AN rfl PE Z Z Z)) ?_ | refine AI [109] Z Z (fun _=>AB (AN rfl PE Z Z Z)) ?_ | refine AE [109] [] Z Z (fun _=>AB (AL rfl PE Z Z Z)) ?_ | refine AI [109] Z Z (fun _=>AB (AL rfl PE Z Z Z)) ?_
    refine AE [110] [20,951] Z Z (fun _=>AB (Q3 951 0 Z Z Z Z (by simp) Md rfl)) ?_
    first | refine AE [12] [] Z Z (fun _=>AB (AM rfl T6 Z Z Z)) ?_ | refine AI [12] Z Z (fun _=>AB (AM rfl T6 Z Z Z)) ?_ | refine AE [12] [] Z Z (fun _=>AB (AO rfl T6 Z Z Z)) ?_ | refine AI [12] Z Z (fun _=>AB (AO rfl T6 Z Z Z)) ?_ | refine AE [12] [] Z Z (fun _=>AB (AP rfl T6 Z Z Z)) ?_ | refine AI [12] Z Z (fun _=>AB (AP rfl T6 Z Z Z)) ?_ | refine AE [12] [] Z Z (fun _=>AB (AN rfl T6 Z Z Z)) ?_ | refine AI [12] Z Z (fun _=>AB (AN rfl T6 Z Z Z)) ?_ | refine AE [12] [] Z Z (fun _=>AB (AL rfl T6 Z Z Z)) ?_ | refine AI [12] Z Z (fun _=>AB (AL rfl T6 Z Z Z)) ?_
    first | refine AE [112] [24] Z Z (fun _=>AB (AY Z Z BI rfl)) ?_ | refine AE [112] [24] Z Z (fun _=>AB (AW Z Z Z BI rfl)) ?_ | refine AE [112] [24] Z Z (fun _=>AB (AX Z Z (rfl) rfl BI rfl)) ?_
    refine Gn [113] [43] [(114,_)] Z Z (fun _=>Gq (Fq 43 LK Z Z Z Z Z Z Z Z)) (.inr ⟨114,_,rfl,rfl,rfl,rfl,rfl⟩) Z Z Z Z Z ?_
    first | refine Gn [111,114] [903,43,951] [(115,_)] Z Z (fun _=>Gq (If (RL) ([(linL p)[n].n]) Z Z Z Z Z Z Z Z LK (by simp only [List.length_singleton];omega) Z Z Z Z)) (.inr ⟨115,_,rfl,rfl,rfl,rfl,rfl⟩) Z Z Z Z Z ?_ | refine Gn [111,114] [903,43,951] [(115,_)] Z Z (fun _=>Gq (LD (RL) ([(linL p)[n].n]) Z Z Z Z Z Z (fun _=>rfl) LK (by simp only [List.length_singleton];omega) Z Z Z Z)) (.inr ⟨115,_,rfl,rfl,rfl,rfl,rfl⟩) Z Z Z Z Z ?_
    first | refine AE [99] [] Z Z (fun _=>AB (BS Z Z)) ?_ | refine AI [99] Z Z (fun _=>AB (BS Z Z)) ?_ | refine AE [99] [] Z Z (fun _=>AB (BQ Z Z)) ?_ | refine AI [99] Z Z (fun _=>AB (BQ Z Z)) ?_ | refine AE [99] [] Z Z (fun _=>AB (BT Z Z)) ?_ | refine AI [99] Z Z (fun _=>AB (BT Z Z)) ?_ | refine AE [99] [] Z Z (fun _=>AB (BR Z Z)) ?_ | refine AI [99] Z Z (fun _=>AB (BR Z Z)) ?_
    first | refine AE [116] [] Z Z (fun _=>AB (AM rfl Lq Z Z Z)) ?_ | refine AI [116] Z Z (fun _=>AB (AM rfl Lq Z Z Z)) ?_ | refine AE [116] [] Z Z (fun _=>AB (AO rfl Lq Z Z Z)) ?_ | refine AI [116] Z Z (fun _=>AB (AO rfl Lq Z Z Z)) ?_ | refine AE [116] [] Z Z (fun _=>AB (AP rfl Lq Z Z Z)) ?_ | refine AI [116] Z Z (fun _=>AB (AP rfl Lq Z Z Z)) ?_ | refine AE [116] [] Z Z (fun _=>AB (AN rfl Lq Z Z Z)) ?_ | refine AI [116] Z Z (fun _=>AB (AN rfl Lq Z Z Z)) ?_ | refine AE [116] [] Z Z (fun _=>AB (AL rfl Lq Z Z Z)) ?_ | refine AI [116] Z Z (fun _=>AB (AL rfl Lq Z Z Z)) ?_
    refine Gn [117,107] [20,902] [] Z Z (fun _=>Gq (CF Z Z Z Z Z Z Z sz143)) (.inl ⟨rfl,rfl⟩) Z Z Z Z Z (GR 20 Z Z Z (BC 21 Z Z ?_))
    first | refine J (BS Z Z) ?_ | refine J (BQ Z Z) ?_ | refine J (BT Z Z) ?_ | refine J (BR Z Z) ?_
    refine AG ⟨rfl,?_⟩;refine BC 22 Z Z ?_
    first | refine J (AM rfl PE Z Z Z) ?_ | refine J (AO rfl PE Z Z Z) ?_ | refine J (AP rfl PE Z Z Z) ?_ | refine J (AN rfl PE Z Z Z) ?_ | refine J (AL rfl PE Z Z Z) ?_
    refine AG ⟨rfl,?_⟩;refine BC 23 Z Z (U (CF Z Z Z Z Z Z Z W2) (AG ⟨rfl,?_⟩));refine GQ (AJ (J (Bi Z Z (Ac (n+1) (by omega)) rfl) (AC Z Z (AG ?_))));exact ⟨(n+1,DL++ [acc],RL++ [(linL p)[n].n]),⟨by show n+1≤_;omega,by show DL++ [acc]=((linL p).take (n+1)).map (PU p);rw [Cp hn1,hD,hfa],by show RL++ [(linL p)[n].n]=((linL p).take (n+1)).map Lin.n;rw [Cp hn1,hR]⟩,by show (linL p).length - (n+1)<(linL p).length - n;omega,BA hF [10,11,20,902,903] rfl (rfl) ⟨rfl,rfl,rfl,rfl,rfl,trivial⟩⟩
  ·refine CW (AF ?_);have hDL:DL=(linL p).map (PU p):=by rw [hD,List.take_of_length_le (by have h:=h74;omega)]
   have hRL:RL=(linL p).map Lin.n:=by rw [hR,List.take_of_length_le (by have h:=h74;omega)]
   refine Yu (ys:=DL.map rowZ) 20 0 2 902 Z Z Z (Nat.le_of_eq (by simp)) (List.take_of_length_le (by simp)) Z Z Z Z Z Z (Yu (ys:=RL.map AH) 20 0 3 903 Z Z Z (Nat.le_of_eq (by simp)) (List.take_of_length_le (by simp)) Z Z Z Z Z Z (Ow 3 20 (Ld ⟨smI p,BL,DL,RL⟩) [10,11] hF Z Z Z (by intro c hc;simp [D.cells] at hc;rcases hc with rfl | rfl | rfl | rfl<;>rfl) Z Z Z (AJ (AC Z Z (AD Z Z (AG (Ae ?_)))))));exact ⟨_,[10,11],_,Aa rfl,rfl,rfl,by rw [hBL,hDL,hRL];rfl,rfl⟩
theorem Yd (p:Prb) (hb:D1 p) (hE:Ao p=0) (h1:p.it.length≤20) (h2:p.ro.length≤1000):AU Tryz.prog 24 [.d (Cc p)] (.tup [.ptr (Ld (Jh p)),AH 0]):=by
 have hpr:=(JM p hb hE).by [(3,10),(2,11)] rfl;refine B2 Tryz.func24 Z Z Tryz.ntmps24 Z Z Z fun F hF=>(AF (AJ (U (C5 1 Z Z Z Z Z Z Z) (AD Z Z (AD Z Z (AG (AF (AJ ?_))))))))
 first | refine J (Av Z Z A4 rfl) ?_ | refine J (Aw Z Z A4 Z Z Z) ?_ | refine J (Ax Z Z (rfl) rfl A4 rfl) ?_
 refine U (Fp hpr rfl [10,11] ⟨rfl,rfl,trivial⟩ Z Z Z Z Z Z Z Z Z) (AC Z Z ?_)
 first | refine J (B6 Z Z Z) ?_ | refine J (B7 Z Z Z) ?_
 first | refine J (B6 Z Z Z) ?_ | refine J (B7 Z Z Z) ?_
 refine AD Z Z (AD Z Z (AG (AF (AF (AJ (AC Z Z ?_))))))
 first | refine J (Fa Z Z Z) ?_ | refine J (F9 Z Z Z) ?_ | refine J (FM Z Z Z) ?_ | refine J (Fb Tryz.underlying34 Z Z Z) ?_ | refine J (Fd Tryz.underlying34 Z Z Z) ?_ | refine J (st_neqN Tryz.underlying34 Z Z) ?_ | refine J (Fc Tryz.underlying34 Z Z Z) ?_ | refine J (st_neqFN Tryz.underlying34 Z Z) ?_
 refine AG (Fs rfl ((by decide)) (Ak (AF (AF (AJ ?_)))))
 first | refine J (AM rfl CP Z Z Z) ?_ | refine J (AO rfl CP Z Z Z) ?_ | refine J (AP rfl CP Z Z Z) ?_ | refine J (AN rfl CP Z Z Z) ?_ | refine J (AL rfl CP Z Z Z) ?_
 first | refine J (AY Z Z Bh rfl) ?_ | refine J (AW Z Z Z Bh rfl) ?_ | refine J (AX Z Z (rfl) rfl Bh rfl) ?_
 first | refine J (Cz rfl Tryz.underlying29 rfl) ?_ | refine J (C9 Z Z Tryz.underlying29 rfl) ?_ | refine J (DB rfl Tryz.underlying29 rfl) ?_ | refine J (Cy rfl Tryz.underlying29 rfl) ?_ | refine J (Cr rfl Tryz.underlying29 rfl) ?_ | refine J (Cw rfl Tryz.underlying29 rfl) ?_
 first | refine J (Ca Z Z Z) ?_ | refine J (SB Z Z Z) ?_
 refine AG (Fs rfl ((decide_eq_false (by omega))) ?_);refine Ak (AF (AJ (AC Z Z (U (Fp (XF p hE hb h1 h2) rfl [10,11] ⟨rfl,rfl,trivial⟩ Z Z Z Z Z Z Z Z Z) (AD Z Z (AD Z Z (AG (Ae ?_))))))));exact ⟨_,[],[],Aa rfl,rfl,rfl,rfl,rfl⟩
theorem R9 {n:Nat} (hn:n≤31):∀(l frm x:Nat),x<4294967296 ->∀y∈enumX n l frm x,y<4294967296
 | 0,_,x,hx,y,hy=>by
  have:y=x:=by simpa [enumX] using hy
  rw [this];exact hx
 | l+1,frm,x,hx,y,hy=>by
  unfold enumX at hy;obtain ⟨i,hi,hy⟩:=List.mem_flatMap.1 hy;obtain ⟨j,hj,rfl⟩:=List.mem_map.1 hi;have hj':=List.mem_range.1 hj;exact R9 hn l _ _ (XZ hx (K4 (by omega))) y hy
theorem UC (f:Nat ->Nat) (m:Nat):∀c,c≤m ->(∀j,j<c ->f j≤2^(m - (j+1))) ->((List.range c).map f).sum+2^(m - c)≤2^m
 | 0,_,_=>by simp
 | c+1,h,hf=>by
  have ih:=UC f m c (by omega) fun j hj=>hf j (by omega);have h2:=hf c (by omega)
  have h3:2^(m - c)=2^(m - (c+1))+2^(m - (c+1)):=by
   have:m - c=(m - (c+1))+1:=by omega
   rw [this,Nat.pow_succ];omega
  rw [List.range_succ,List.map_append,List.sum_append,List.map_singleton,List.sum_singleton];omega
theorem On {n:Nat}:∀(l frm x:Nat),(enumX n l frm x).length≤2^(n - frm)
 | 0,frm,x=>by
  have:0<2^(n - frm):=Nat.pow_pos (by omega)
  simp [enumX];omega
 | l+1,frm,x=>by
  unfold enumX;rw [List.length_flatMap,List.map_map]
  have h:=UC (((fun i=>(enumX n l (i+1) (x ||| 1<<<i)).length))∘fun j=>frm+j) (n - frm) (n+1 - (l+1) - frm) (by omega) (fun j hj=>by
   have:=On l (frm+j+1) (x ||| 1<<<(frm+j)) (n:=n);have e:n - frm - (j+1)=n - (frm+j+1):=by omega
   rw [e];exact this)
  exact Nat.le_trans (Nat.le_add_right _ _) h
theorem allX_lt {s:Sma} (hn:s.ids.length≤31):∀y∈allX s,y<4294967296:=fun y hy=>by
 unfold allX at hy;obtain ⟨k,_,hy⟩:=List.mem_flatMap.1 hy;exact R9 hn k 0 0 (by omega) y (List.mem_filter.1 hy).1
theorem Yk {s:Sma} (hn:s.ids.length≤20):(allX s).length≤100000000:=by
 unfold allX
 have h:=KH (f:=fun k=>(enumX s.ids.length k 0 0).filter (admS s)) (n:=1048576) (l:=List.range (s.ids.length+1)) (fun k _=>by
  have h1:=On (n:=s.ids.length) k 0 0;have h2:2^(s.ids.length - 0)≤2^20:=Nat.pow_le_pow_right (by omega) (by omega);have h3:(2:Nat)^20=1048576:=by decide
  exact Nat.le_trans (List.length_filter_le _ _) (by omega))
 rw [List.length_range] at h;have:(s.ids.length+1)*1048576≤21*1048576:=Nat.mul_le_mul_right _ (by omega);omega
abbrev hCt (s:Sma) (q:Nat×Nat):Hp:=[(2,[.blk 76 [.d (.ptr (Ld s))]]),(3,[.blk 3 [.d (AH (q.1:Int))]]),(4,[.blk 3 [.d (AH (q.2:Int))]])]
def Tm (s:Sma) (q:Nat×Nat) (x:Nat):(Nat×Nat)×Bool:=((q.1+1,q.2+bif feaS s x then 1 else 0),true)
theorem R6 (s:Sma):∀(l:List Nat) (q:Nat×Nat),Bv (Tm s) q l=(q.1+l.length,q.2+(l.filter (feaS s)).length)
 | [],q=>by simp [Bv]
 | x::l,q=>by
  rw [T1];show (if true=true then Bv (Tm s) (q.1+1,q.2+bif feaS s x then 1 else 0) l else _)=_;rw [if_pos rfl,R6 s l]
  cases h:feaS s x<;>simp [h]<;>omega
theorem Oj {P:Program} {l:Nat} {H:Nat×Nat ->Hp} (s:Sma) {n:Nat} (hY:∀a b x,a<n ->b≤a ->x<4294967296 ->ES P l (Rb x) (H (a,b)) fun v H'=>v= .d (.raw (.bool true))∧H'=H (a+1,b+bif feaS s x then 1 else 0)):∀(xs:List Nat) (q:Nat×Nat),(∀x∈xs,x<4294967296) ->q.1+xs.length≤n ->q.2≤q.1 ->Co P l Rb H (Tm s) q xs
 | [],_,_,_,_=>trivial
 | x::xs,(a,b),hx,h,hq=>⟨hY a b x (by simp at h;omega) hq (hx x (by simp)),fun _=>Oj s hY xs (a+1,b+bif feaS s x then 1 else 0) (fun y hy=>hx y (by simp [hy])) (by simp at h⊢;omega) (by show b+(bif feaS s x then 1 else 0)≤a+1;cases feaS s x<;>simp at hq⊢<;>omega)⟩
structure SmaB (s:Sma):Prop where
 n:s.ids.length≤20
 b:s.bl.length≤20
 u:∀b∈s.bl,b<4294967296
 r:s.rm.length≤1000
 d:s.de.length=s.rm.length
 v:∀r∈s.de,r.length≤32∧∀v∈r,-1000000000000000≤v∧v≤1000000000000000
 m:∀v∈s.rm,0≤v∧v≤4000000000000000
theorem smlB {p:Prb} (hp:Ao p=0) (h1:p.it.length≤20) (h2:p.ro.length≤1000):SmaB (Jh p):=by
 have hIl:=Tp hp;have hLl:=Ez p;refine ⟨by show (smI p).length≤20;omega,by show ((smI p).map (NT p)).length≤20;rw [List.length_map];omega,fun b hb=>?_,by show ((linL p).map Lin.n).length≤1000;rw [List.length_map];omega,by show ((linL p).map (PU p)).length=((linL p).map Lin.n).length;simp,fun r hr=>?_,fun v hv=>?_⟩
 ·obtain ⟨i,_,rfl⟩:=List.mem_map.1 hb;exact Ua (by omega) _
 ·obtain ⟨x,_,rfl⟩:=List.mem_map.1 hr;refine ⟨by show ((smI p).map (Nq p x)).length≤32;rw [List.length_map];omega,fun v hv=>?_⟩;obtain ⟨i,_,rfl⟩:=List.mem_map.1 hv;exact TP _ _
 ·obtain ⟨x,hx,rfl⟩:=List.mem_map.1 hv;exact TA hp x hx
theorem Y5 (p:Prb) (hb:D1 p) (hE:Ao p=0) (h1:p.it.length≤20) (h2:p.ro.length≤1000):AU Tryz.prog 16 [.d (Cc p)] (.tup [AH ((allX (Jh p)).length:Nat),AH (((allX (Jh p)).filter (feaS (Jh p))).length:Nat),AH 0]):=by
 have hbg:=Yd p hb hE h1 h2;have hB:=smlB hE h1 h2
 obtain ⟨s,hs⟩:∃s,Jh p=s:=⟨_,rfl⟩
 rw [hs] at hbg hB⊢;have hB0:=hB;have hAl:=Yk hB.n;have hAx:=allX_lt (s:=s) (by have:=hB.n;omega);have hfe:=fun x (hx:x<4294967296)=>feaS_p s x hx (by have:=hB.r;omega) hB.d hB.v hB.m;have hfe':∀x,x<4294967296 ->∀c,feaS s x=c ->AU Tryz.prog 26 [.d (.ptr (Ld s)),.d (G6 x)] (BJ c):=fun x hx c hc=>by rw [←hc];exact hfe x hx
 refine Hq Tryz.func16 Z Z Tryz.ntmps16 Z Z Z fun F hF hFl=>?_;refine AF (AJ (U (C5 1 Z Z Z Z Z Z Z) (AD Z Z (AD Z Z (AD Z Z (AG (AF (AJ ?_))))))))
 first | refine J (Av Z Z A4 rfl) ?_ | refine J (Aw Z Z A4 Z Z Z) ?_ | refine J (Ax Z Z (rfl) rfl A4 rfl) ?_
 refine J (B1 (hbg) Z Z) (AC Z Z ?_)
 first | refine J (B6 Z Z Z) ?_ | refine J (B7 Z Z Z) ?_
 first | refine J (B6 Z Z Z) ?_ | refine J (B7 Z Z Z) ?_
 refine U (DO 2 zl76 Z Z Z Z) (U (CF Z Z Z Z Z Z Z sz76) (AD Z Z (AG (AF (AF (AJ (AC Z Z ?_)))))))
 first | refine J (Fa Z Z Z) ?_ | refine J (F9 Z Z Z) ?_ | refine J (FM Z Z Z) ?_ | refine J (Fb Tryz.underlying34 Z Z Z) ?_ | refine J (Fd Tryz.underlying34 Z Z Z) ?_ | refine J (st_neqN Tryz.underlying34 Z Z) ?_ | refine J (Fc Tryz.underlying34 Z Z Z) ?_ | refine J (st_neqFN Tryz.underlying34 Z Z) ?_
 refine AG (Fs rfl ((by decide)) (Ak (AF ?_)));refine AJ (U (DO 3 zl3 Z Z Z Z) (U (DO 4 zl3 Z Z Z Z) (U (CF Z Z Z Z Z Z Z Ep) (U (CF Z Z Z Z Z Z Z Ep) (AG (AF (AF (AJ ?_))))))))
 first | refine J (AY Z Z Fh rfl) ?_ | refine J (AW Z Z Z Fh rfl) ?_ | refine J (AX Z Z (rfl) rfl Fh rfl) ?_
 refine U (Fp (sets_c s) rfl [] trivial Z Z Z Z Z Z Z Z Z) (AG (Al ?_));refine QA [5,7,8,19] rfl ?_;refine a_only [2,3,4] hF Z Z ?_;refine ME (γ:=Unit) hFl 900 Z Z Z Z Z [2,3,4] (CHr:=hCt s (0,0)) (fun _=>True) (fun _=>hCt s ((allX s).length,((allX s).filter (feaS s)).length)) (fun _=> .ready) (fun _=>none) ⟨rfl,rfl,rfl,trivial⟩ Z Z Z (fun _=>rfl) (fun _=>rfl) rfl (fun _ _=>by simp) (fun _ _=>⟨rfl,rfl⟩) [2,3,4] hF Z Z (fun _ _=>rfl) (fun l A B hA hB=>?_) (fun _ _=>?_)
 ·refine (setsF_c s hB0.u (by have:=hB0.b;omega) (by have:=hB0.n;omega) l (fun q:Nat×Nat=>(900,[.loop ⟨l,30,[(5,.ptr 2 0 0),(7,.ptr 3 0 0),(8,.ptr 4 0 0),(19,.fn 60 [cS s])],.ready,none, #[20],A,B⟩])::hCt s q) [900,2,3,4] (Tm s) (0,0) (fun _=>rfl) (fun _=>rfl) (fun _=>rfl) Z Z (fun _=>rfl) (fun _=>rfl) ?_).mono (fun r H' ⟨e1,e2⟩=>⟨e1,(),trivial,by rw [e2,R6];simp only [Nat.zero_add]⟩);refine Oj s (n:=100000000) (fun a b x ha hba hx=>?_) (allX s) (0,0) hAx (by simp only [Nat.zero_add];exact hAl) (Nat.le_refl _);have hf2:=hfe' x hx;refine J2 (lf:=900) Z Z Z Z fun F hF hr=>?_;show Bt _ _ A _ _;rw [hA];refine AJ (AD Z Z (AG (⟨rfl,_,_,rfl,rfl,rfl,rfl,?_⟩)));show Bt _ _ B _ _;rw [hB];refine Al (AF (AJ ?_))
  cases hfx:feaS s x
  ·first | refine J (AY Z Z Ab rfl) ?_ | refine J (AW Z Z Z Ab rfl) ?_ | refine J (AX Z Z (rfl) rfl Ab rfl) ?_
   refine J (Bi Z Z (Ac (a+1) (by omega)) rfl) (U (CF Z Z Z Z Z Z Z Ep) (AG (AF (AJ ?_))))
   first | refine J (AY Z Z Fh rfl) ?_ | refine J (AW Z Z Z Fh rfl) ?_ | refine J (AX Z Z (rfl) rfl Fh rfl) ?_
   refine AC Z Z (J (B1 (hf2 _ hfx) Z Z) (AG (Fs rfl (rfl) (Ak ?_))));exact ⟨none,_,_,[900,2,3,4],_,rfl,rfl,rfl,rfl,rfl,rfl,rfl,rfl⟩
  ·first | refine J (AY Z Z Ab rfl) ?_ | refine J (AW Z Z Z Ab rfl) ?_ | refine J (AX Z Z (rfl) rfl Ab rfl) ?_
   refine J (Bi Z Z (Ac (a+1) (by omega)) rfl) (U (CF Z Z Z Z Z Z Z Ep) (AG (AF (AJ ?_))))
   first | refine J (AY Z Z Fh rfl) ?_ | refine J (AW Z Z Z Fh rfl) ?_ | refine J (AX Z Z (rfl) rfl Fh rfl) ?_
   refine AC Z Z (J (B1 (hf2 _ hfx) Z Z) (AG (EB rfl (rfl) (AJ ?_))))
   first | refine J (AY Z Z Ab rfl) ?_ | refine J (AW Z Z Z Ab rfl) ?_ | refine J (AX Z Z (rfl) rfl Ab rfl) ?_
   refine J (Bi Z Z (Ac (b+1) (by omega)) rfl) (U (CF Z Z Z Z Z Z Z Ep) (AG ?_));exact ⟨none,_,_,[900,2,3,4],_,rfl,rfl,rfl,rfl,rfl,rfl,rfl,rfl⟩
 ·refine AF (Gp [[],[],[0],[0,1,2],[0,1,2,3]] BF rfl (Hh ?_))
  first | refine AE [7] [3] Z Z (fun _=>AB (AY Z Z Ab rfl)) ?_ | refine AE [7] [3] Z Z (fun _=>AB (AW Z Z Z Ab rfl)) ?_ | refine AE [7] [3] Z Z (fun _=>AB (AX Z Z (rfl) rfl Ab rfl)) ?_
  first | refine AE [8] [4] Z Z (fun _=>AB (AY Z Z Ab rfl)) ?_ | refine AE [8] [4] Z Z (fun _=>AB (AW Z Z Z Ab rfl)) ?_ | refine AE [8] [4] Z Z (fun _=>AB (AX Z Z (rfl) rfl Ab rfl)) ?_
  first | refine AE [28] [] Z Z (fun _=>AB (Fu Z Z)) ?_ | refine AI [28] Z Z (fun _=>AB (Fu Z Z)) ?_
  refine GR 3 Z Z Z (BC 4 Z Z (AD Z Z (AG ⟨rfl,?_⟩)));refine BC 5 Z Z (AD Z Z (AG ⟨rfl,?_⟩));refine GQ (Ae ?_);exact ⟨_,[],[],Aa rfl,rfl,rfl,rfl,rfl⟩
deriving instance DecidableEq for Lin
def accQ (a:List UInt8):PH:=⟨a,0,[67,65,83,72]⟩
def VS (id sq:Int) (a b:List UInt8) (n:Int):AT:=⟨id,0,sq,[⟨accQ a,0 - n⟩,⟨accQ b,n⟩],[],[]⟩
theorem pay0_p (id sq n:Int) (a b:List UInt8) (h0:0≤n) (h1:n≤1000000000000000):AU Tryz.prog 112 [.d (AH id),.d (AH sq),.d (Am a),.d (Am b),.d (AH n)] (.agg [AH id,AH 0,AH sq,.sl none ((VS id sq a b n).po.map Cm),.sl (some true) [],.sl (some true) []]):=by
 refine B2 Tryz.func112 Z Z Tryz.ntmps112 Z Z Z fun F hF=>(AF (AJ (U (DO 1 FG Z Z Z Z) (AG (AF ?_)))));refine AJ (AC Z Z (AC Z Z (AC Z Z (J (DH N8 Qj Z Z Z) (AC Z Z (J (Er Z Z (IntWalk.i64_in _ (by omega)) rfl) (J (DH J1 OT Z Z Z) (AC Z Z ?_))))))));refine J (DH N8 Qj Z Z Z) (AC Z Z (J (DH J1 OT Z Z Z) (U (Fq 2 PT Z Z Z Z Z Z Z Z) (Zdd (emb:=Cm) 22 2 (VS id sq a b n).po Z Z Z Z Z Z Z (J (DH FG XP Z Z Z) (U (CF Z Z Z Z Z Z Z C6) (AG (Ae ?_))))))));exact ⟨_,[],[],Aa rfl,rfl,rfl,rfl,rfl⟩
theorem P0 (id sq n:Int) (a b:List UInt8) (h0:0≤n) (h1:n≤1000000000000000):AU Tryz.prog 112 [.d (AH id),.d (AH sq),.d (Am a),.d (Am b),.d (AH n)] (BH (VS id sq a b n)):=
 (pay0_p id sq n a b h0 h1).weak fun w O v h=>h.aggMono rfl (by simp [D.one]) fun i c c' hc hc' v hv=>by
  match i,hc,hc' with
  | 0,hc,hc'=>injection hc with hc;injection hc' with hc';subst hc hc';exact hv
  | 1,hc,hc'=>injection hc with hc;injection hc' with hc';subst hc hc';exact hv
  | 2,hc,hc'=>injection hc with hc;injection hc' with hc';subst hc hc';exact hv
  | 3,hc,hc'=>injection hc with hc;injection hc' with hc';subst hc hc';exact hv
  | 4,hc,hc'=>injection hc with hc;injection hc' with hc';subst hc hc';exact hv.anyNil
  | 5,hc,hc'=>injection hc with hc;injection hc' with hc';subst hc hc';exact hv.anyNil
def rcA:A5:=⟨0,accQ [65],[],[]⟩
def rcB:A5:=⟨0,accQ [66],[],[]⟩
def Sc:List Roo:=[⟨rcA,0⟩,⟨rcB,0⟩]
def YD:List AT:=[VS 1 1 [65] [66] 5,VS 2 2 [66] [65] 5]
def itK3:AT:=VS 3 3 [65] [66] 1
def JQ:Prb:=⟨Sc,YD⟩
def UE:Prb:=⟨Sc,YD++ [itK3]⟩
theorem pK2_E:Ao JQ=0:=by decide
theorem pK2_R:Vb Sc=Sc:=(Xt pK2_E (List.Perm.refl _) (by decide)).symm
theorem VC:Ck []=[]:=List.eq_nil_of_length_eq_zero (Fw [])
theorem UF:GS JQ=[1,2]:=by decide
theorem pK3_ids:GS UE=[1,2,3]:=by decide
theorem XU:smI JQ=[1,2]:=by
 unfold smI;rw [UF];exact (Q4 (List.Perm.refl _) (by decide)).symm
theorem OV:linL JQ=[⟨rcA,0,[1]⟩,⟨rcB,0,[2]⟩]:=by
 unfold linL;rw [show JQ.ro=Sc from rfl,pK2_R];decide
theorem pK3_L:linL UE=[⟨rcA,0,[1,3]⟩,⟨rcB,0,[2]⟩]:=by
 unfold linL;rw [show UE.ro=Sc from rfl,pK2_R];decide
theorem MV {p:Prb} {i:Int} (h:(itmOf p i).af=[]):req p i=(linL p).flatMap (EY i):=by
 unfold req VN;rw [h,VC];rfl
theorem XW:req JQ 1=[]:=by rw [MV (by decide),OV];decide
theorem XV:req JQ 2=[]:=by rw [MV (by decide),OV];decide
theorem pK3_r3:req UE 3=[⟨3,1,rcA⟩]:=by rw [MV (by decide),pK3_L];decide
def smK:Sma:=⟨[1,2],[0,0],[[-5,5],[5,-5]],[0,0]⟩
theorem pK2_S:Jh JQ=smK:=by
 unfold Jh;have e1:NT JQ 1=0:=by unfold NT;rw [XW];rfl
 have e2:NT JQ 2=0:=by unfold NT;rw [XV];rfl
 have e3:∀x,PU JQ x=[Nq JQ x 1,Nq JQ x 2]:=fun x=>by unfold PU;rw [XU];rfl
 have e4:(linL JQ).map (PU JQ)=[[-5,5],[5,-5]]:=by rw [OV];simp only [List.map_cons,List.map_nil,e3];decide
 rw [XU,e4,OV];simp only [List.map_cons,List.map_nil,e1,e2];rfl
theorem smK_n:(allX smK).length=4:=by decide
theorem smK_f:((allX smK).filter (feaS smK)).length=2:=by decide
theorem pK2_b12:GO JQ (Lk [2,1])=[]:=by
 unfold GO;rw [UF];simp [I4,XW,XV,D0]
theorem pK2_v12:HK JQ (Ba [2,1])=[]:=by unfold HK;rw [OV];decide
theorem pK2_v1:HK JQ (Ba [1])≠ []:=by unfold HK;rw [OV];decide
theorem pK3_b3:GO UE (Lk [3])≠ []:=by
 unfold GO;rw [pK3_ids];simp [I4,Lk,pK3_r3,D0]
theorem XS:HK UE (Ba [1,2,3])=[⟨rcA,1⟩]:=by unfold HK;rw [pK3_L];decide
theorem pK2_c21:E3 JQ [2,1]=0:=by decide
theorem pK2_c1:E3 JQ [1]=0:=by decide
theorem pK3_c3:E3 UE [3]=0:=by decide
theorem XT:E3 UE [1,2,3]=0:=by decide
theorem XX:D1 JQ:=by unfold D1;decide
theorem pK3_B:D1 UE:=by unfold D1;decide
theorem kn_cnt:AU Tryz.prog 16 [.d (Cc JQ)] (.tup [AH 4,AH 2,AH 0]):=by
 have h:=Y5 JQ XX pK2_E (by decide) (by decide);rw [pK2_S,smK_n,smK_f] at h;exact h
theorem kn_f21:AU Tryz.prog 113 [.d (Cc JQ),.d (.sl none (([2,1]:List Int).map AH))] (.tup [BJ true,AH 0]):=by
 have h:=U4 JQ [2,1] XX (by decide) (by decide) (by decide);rw [pK2_c21,pK2_b12,pK2_v12] at h;exact h
theorem kn_f1:AU Tryz.prog 113 [.d (Cc JQ),.d (.sl none (([1]:List Int).map AH))] (.tup [BJ false,AH 0]):=by
 have h:=U4 JQ [1] XX (by decide) (by decide) (by decide);rw [pK2_c1,decide_eq_false (fun h=>pK2_v1 h.2.2)] at h;exact h
theorem kn_a3:AU Tryz.prog 114 [.d (Cc UE),.d (.sl none (([3]:List Int).map AH))] (.tup [BJ false,AH 0]):=by
 have h:=admF_p UE [3] pK3_B (by decide) (by decide) (by decide);rw [pK3_c3,decide_eq_false (fun h=>pK3_b3 h.2)] at h;exact h
theorem kn_v:AU Tryz.prog 110 [.d (Cc UE),.d (.sl none (([1,2,3]:List Int).map AH))] (.tup [.sl none (([⟨rcA,1⟩]:List Roo).map Ff),AH 0]):=by
 have h:=violF_p UE [1,2,3] pK3_B (by decide);rw [XT,if_pos rfl,XS] at h;exact h
theorem Jg {hp:Hp} {bl:List Nat} {f n k:Nat} {t:TypeId} (p:Prb) (ho:hget hp f 0=some (.rowD t k (p.it.map BH))) (hb:memB f bl=true) (hn:n=p.it.length):Nw hp bl (.agg [.d (.sl none (p.ro.map Ff)),.own f 0 n]) (Cc p):=by
 refine .agg rfl (by simp [D.one]) fun j a c ha hc=>?_
 match j,ha,hc with
 | 0,ha,hc=>injection ha with ha;injection hc with hc;subst ha hc;exact .d
 | 1,ha,hc=>injection ha with ha;injection hc with hc;subst ha hc;exact .own ho hb (by rw [List.length_map];omega) (List.take_of_length_le (by rw [List.length_map];omega))
end Go.Proofs.YtnkkaeblokdifaaGreat
