/- Layer 29: problems with few items. -/
import Derived.Test.YtnkkaeblokdifaaGreatMg20
namespace Go.Proofs.YtnkkaeblokdifaaGreat
open Go.RowKit
set_option maxRecDepth 100000
abbrev Gh (n:Nat):D:= .raw (.int .u32 (n:Int))
structure Sma where
 ids:List Int
 bl:List Nat
 de:List (List Int)
 rm:List Int
abbrev rowZ (l:List Int):D:= .sl none (l.map AG)
abbrev Lr (s:Sma):D:= .agg [.sl none (s.ids.map AG),.sl none (s.bl.map Gh),.sl none (s.de.map rowZ),.sl none (s.rm.map AG)]
def QR (s:Sma) (x:Nat) (i:Nat):Bool:=x.testBit i && decide (anU (s.bl.getD i 0) x≠0)
def admS (s:Sma) (x:Nat):Bool:=!(List.range s.bl.length).any (QR s x)
theorem Yp {n k:Nat} {p:Nat ->Bool} (h:∀i,i<k ->p i=false) (hk:¬k<n):(List.range n).any p=false:=by
 rw [List.any_eq_false];intro i hi;rw [h i (by have:=List.mem_range.1 hi;omega)];simp
theorem Um {n k:Nat} {p:Nat ->Bool} (hk:k<n) (h:p k=true):(List.range n).any p=true:=List.any_eq_true.2 ⟨k,List.mem_range.2 hk,h⟩
theorem QQ {a i:Nat} (h:¬((((a>>>i) % 2:Nat):Int)=1)):a.testBit i=false:=by
 cases hh:a.testBit i with
 | false=>rfl
 | true=>exact absurd ((MQ a i).2 hh) h
theorem admS_p (s:Sma) (x:Nat) (hx:x<4294967296) (hb:∀b∈s.bl,b<4294967296) (hl:s.bl.length≤32):AU Tryz.prog 62 [.d (.ptr (Lr s)),.d (Gh x)] (BE (admS s x)):=by
 refine BY Tryz.func62 Z Z Tryz.ntmps62 Z Z Z fun F hF=>(AF (AJ (AD Z Z (AH (AF (AF (AJ (AC Z Z ?_))))))))
 first | refine J (Bc Z Z) ?_ | refine J (Ba Z Z) ?_ | refine J (Bd Z Z) ?_ | refine J (Bb Z Z) ?_
 first | refine J (AO rfl Tg Z Z Z) ?_ | refine J (AQ rfl Tg Z Z Z) ?_ | refine J (AR rfl Tg Z Z Z) ?_ | refine J (AP rfl Tg Z Z Z) ?_ | refine J (AN rfl Tg Z Z Z) ?_
 first | refine J (A0 Z Z Ob rfl) ?_ | refine J (AY Z Z Z Ob rfl) ?_ | refine J (AZ Z Z (rfl) rfl Ob rfl) ?_
 first | refine J (Cc rfl Tryz.underlying142 rfl) ?_ | refine J (C8 Z Z Tryz.underlying142 rfl) ?_ | refine J (Cd rfl Tryz.underlying142 rfl) ?_ | refine J (Cb rfl Tryz.underlying142 rfl) ?_ | refine J (CW rfl Tryz.underlying142 rfl) ?_ | refine J (C9 rfl Tryz.underlying142 rfl) ?_
 refine AC Z Z (AH (Au (Dz (α:=Nat) (fun k=>⟨29,[(1,.d (Gh x)),(10,(.d (.sl none (s.bl.map Gh)))),(11,(.d (AG (s.bl.length:Int)))),(12,(.d (AG (k:Int))))],[]⟩) (fun k=>k≤s.bl.length∧∀i,i<k ->QR s x i=false) (fun k=>s.bl.length - k) (0) (⟨Nat.zero_le _,fun i h=>by omega⟩) (Ti ⟨rfl,rfl,rfl,rfl,trivial⟩) ?_)));rintro k ⟨hk0,hk⟩;refine AF (AJ ?_)
 first | refine J (C7 Z Z Z) ?_ | refine J (Ca Z Z Z) ?_
 refine AH (AF ?_)
 first | refine BJ rfl (fun h13=>?_) (fun h13=>?_) | refine BB rfl (fun h13=>?_) (fun h13=>?_)
 ·have hk1:k<s.bl.length:=DZ h13;refine Am (AF (Au (AF (AJ (AC Z Z ?_)))));have hgd:=Bg 0 hk1;have hbk:=hb _ (List.getElem_mem hk1)
  first | refine J (CY (k) Z Z (rfl) (A2 hk1) Tryz.underlying142 rfl sz79 rfl) ?_ | refine J (CZ (k) Z Z (rfl) (A2 hk1) rfl Tryz.underlying142 sz79 rfl) ?_
  first | refine J (A0 Z Z on79 rfl) ?_ | refine J (AY Z Z Z on79 rfl) ?_ | refine J (AZ Z Z (rfl) rfl on79 rfl) ?_
  refine AD Z Z (AD Z Z (AH (AF (AJ (AC Z Z (AC Z Z (J (Sc Z Z (by omega) (shrU x k (by omega)) rfl) (J (IK Z Z Z (and1U (Wz hx k)) rfl) ?_))))))))
  first | refine J (EP Z Z Z) ?_ | refine J (EW Z Z Z) ?_ | refine J (EA Z Z Z) ?_ | refine J (EQ Tryz.underlying79 Z Z Z) ?_ | refine J (ET Tryz.underlying79 Z Z Z) ?_ | refine J (ES Tryz.underlying79 Z Z) ?_ | refine J (ER Tryz.underlying79 Z Z Z) ?_ | refine J (EV Tryz.underlying79 Z Z) ?_
  refine AC Z Z ?_
  first | refine K9 22 rfl (fun h22=>?_) (fun h22=>?_) | refine J4 22 rfl (fun h22=>?_) (fun h22=>?_)
  ·refine Ah Z Z Z (AC Z Z (Ah Z Z Z (AC Z Z (Ah Z Z Z (J (IK Z Z Z (andNotU s.bl[k] x) rfl) (Ah Z Z Z ?_))))))
   first | refine J (E9 Z Z Z) ?_ | refine J (Ed Z Z Z) ?_ | refine J (EU Z Z Z) ?_ | refine J (Ea Tryz.underlying79 Z Z Z) ?_ | refine J (Ec Tryz.underlying79 Z Z Z) ?_ | refine J (st_neqN Tryz.underlying79 Z Z) ?_ | refine J (Eb Tryz.underlying79 Z Z Z) ?_ | refine J (st_neqFN Tryz.underlying79 Z Z) ?_
   refine J (EB Z Z Z Z) (AH ?_)
   first | refine BJ rfl (fun h27=>?_) (fun h27=>?_) | refine BB rfl (fun h27=>?_) (fun h27=>?_)
   ·refine AF (AJ (AD Z Z (AH (Af ?_))));exact ⟨_,[],[],Ae rfl,rfl,rfl,HF (by unfold admS;rw [Um hk1 (by unfold QR;rw [hgd,(MQ x k).1 h22,Bool.true_and];exact decide_eq_true (fun h5=>h27 (by rw [h5];rfl)))];rfl),rfl⟩
   ·refine Am (AJ ?_);have hbad:QR s x k=false:=by unfold QR;first | (have h6:((anU s.bl[k] x:Nat):Int)=0:=Decidable.not_not.1 h27;rw [hgd];have h3:anU s.bl[k] x=0:=Int.ofNat.inj h6;rw [h3];simp;done) | (rw [QQ h22];rfl)
    refine J (Bi Z Z (A6 (k+1) (by omega)) rfl) (AC Z Z (AH ?_));exact ⟨k+1,⟨by show k+1≤_;omega,fun i hi=>by rcases Nat.lt_or_ge i k with h | h;exact hk i h;have e:i=k:=by {omega};subst e;exact hbad⟩,by show s.bl.length - (k+1)<s.bl.length - k;omega,⟨rfl,rfl,fun _ _=>MT.get (l:=[(1,_),(10,_),(11,_),(12,_)]) ⟨rfl,rfl,rfl,rfl,trivial⟩⟩⟩
  ·refine Aj Z Z Z Z (Aj Z Z Z Z (Aj Z Z Z Z (Aj Z Z Z Z (J (Ei Z Z Z Z) (AH (Ey Z Z (Am (AJ ?_))))))));have hbad:QR s x k=false:=by unfold QR;first | (have h6:((anU s.bl[k] x:Nat):Int)=0:=Decidable.not_not.1 h27;rw [hgd];have h3:anU s.bl[k] x=0:=Int.ofNat.inj h6;rw [h3];simp;done) | (rw [QQ h22];rfl)
   refine J (Bi Z Z (A6 (k+1) (by omega)) rfl) (AC Z Z (AH ?_));exact ⟨k+1,⟨by show k+1≤_;omega,fun i hi=>by rcases Nat.lt_or_ge i k with h | h;exact hk i h;have e:i=k:=by {omega};subst e;exact hbad⟩,by show s.bl.length - (k+1)<s.bl.length - k;omega,⟨rfl,rfl,fun _ _=>MT.get (l:=[(1,_),(10,_),(11,_),(12,_)]) ⟨rfl,rfl,rfl,rfl,trivial⟩⟩⟩
 ·refine C6 (AF (AJ (AD Z Z (AH (Af ?_)))));exact ⟨_,[],[],Ae rfl,rfl,rfl,HF (by unfold admS;rw [Yp hk (by have h:=h13;omega)];rfl),rfl⟩
def VX (x:Nat) (r:List Int):Int:=((List.range r.length).map fun i=>if x.testBit i=true then r.getD i 0 else 0).sum
def Ms (s:Sma) (x:Nat) (k:Nat):Bool:=decide (s.rm.getD k 0+VX x (s.de.getD k [])<0)
def feaS (s:Sma) (x:Nat):Bool:=!(List.range s.rm.length).any (Ms s x)
def Nt (x:Nat) (r:List Int) (k:Nat) (a:Int):Int:=(List.range k).foldl (fun c i=>c+if x.testBit i=true then r.getD i 0 else 0) a
theorem rowP_eq (x:Nat) (r:List Int) (a:Int):Nt x r r.length a=a+VX x r:=by
 unfold Nt VX
 have key:∀(l:List Nat) (a:Int),l.foldl (fun c i=>c+if x.testBit i=true then r.getD i 0 else 0) a=a+(l.map fun i=>if x.testBit i=true then r.getD i 0 else 0).sum:=fun l=>by
  induction l with
  | nil=>intro a;simp
  | cons i l ih=>intro a;rw [List.foldl_cons,ih,List.map_cons,List.sum_cons];omega
 exact key _ _
theorem GE (x:Nat) (r:List Int) (k:Nat) (a:Int):Nt x r (k+1) a=Nt x r k a+if x.testBit k=true then r.getD k 0 else 0:=by
 unfold Nt;rw [List.range_succ,List.foldl_append];rfl
theorem XG {x:Nat} {r:List Int} (hr:∀v∈r,-1000000000000000≤v∧v≤1000000000000000) (a:Int):∀k:Nat,k≤1000 ->a - k*1000000000000000≤Nt x r k a∧Nt x r k a≤a+k*1000000000000000
 | 0,_=>by unfold Nt;simp
 | k+1,h=>by
  have ih:=XG (x:=x) hr a k (by omega);rw [GE]
  have hv: -1000000000000000≤r.getD k 0∧r.getD k 0≤1000000000000000:=by
   rw [List.getD_eq_getElem?_getD]
   cases hk:r[k]? with
   | none=>simp
   | some v=>exact hr v (List.mem_of_getElem? hk)
  split<;>omega
theorem feaS_p (s:Sma) (x:Nat) (hx:x<4294967296) (hn:s.rm.length≤100000) (hde:s.de.length=s.rm.length) (hdl:∀r∈s.de,r.length≤32∧∀v∈r,-1000000000000000≤v∧v≤1000000000000000) (hrm:∀v∈s.rm,0≤v∧v≤4000000000000000):AU Tryz.prog 26 [.d (.ptr (Lr s)),.d (Gh x)] (BE (feaS s x)):=by
 refine BY Tryz.func26 Z Z Tryz.ntmps26 Z Z Z fun F hF=>(AF (AJ (AD Z Z (AH (AF (AF (AJ (AC Z Z ?_))))))))
 first | refine J (Bc Z Z) ?_ | refine J (Ba Z Z) ?_ | refine J (Bd Z Z) ?_ | refine J (Bb Z Z) ?_
 first | refine J (AO rfl PU Z Z Z) ?_ | refine J (AQ rfl PU Z Z Z) ?_ | refine J (AR rfl PU Z Z Z) ?_ | refine J (AP rfl PU Z Z Z) ?_ | refine J (AN rfl PU Z Z Z) ?_
 first | refine J (A0 Z Z Mv rfl) ?_ | refine J (AY Z Z Z Mv rfl) ?_ | refine J (AZ Z Z (rfl) rfl Mv rfl) ?_
 first | refine J (Cc rfl Tryz.underlying144 rfl) ?_ | refine J (C8 Z Z Tryz.underlying144 rfl) ?_ | refine J (Cd rfl Tryz.underlying144 rfl) ?_ | refine J (Cb rfl Tryz.underlying144 rfl) ?_ | refine J (CW rfl Tryz.underlying144 rfl) ?_ | refine J (C9 rfl Tryz.underlying144 rfl) ?_
 refine AC Z Z (AH (Au (Dz (α:=Nat) (fun k=>⟨44,[(0,.d (.ptr (Lr s))),(1,.d (Gh x)),(12,(.d (.sl none (s.rm.map AG)))),(13,(.d (AG (s.rm.length:Int)))),(14,(.d (AG (k:Int))))],[]⟩) (fun k=>k≤s.rm.length∧∀i,i<k ->Ms s x i=false) (fun k=>s.rm.length - k) (0) (⟨Nat.zero_le _,fun i h=>by omega⟩) (Ti ⟨rfl,rfl,rfl,rfl,rfl,trivial⟩) ?_)));rintro k ⟨hk0,hk⟩;refine AF (AJ ?_)
 first | refine J (C7 Z Z Z) ?_ | refine J (Ca Z Z Z) ?_
 refine AH (AF ?_)
 first | refine BJ rfl (fun h15=>?_) (fun h15=>?_) | refine BB rfl (fun h15=>?_) (fun h15=>?_)
 ·have hk1:k<s.rm.length:=DZ h15;refine Am (AF (Au (AF (AJ (AC Z Z ?_)))));have hkd:k<s.de.length:=by omega
  have hgd:=Bg 0 hk1;have hge:=Bg ([]:List Int) hkd;have hrk:=hrm _ (List.getElem_mem hk1);have hdk:=hdl _ (List.getElem_mem hkd)
  first | refine J (CY (k) Z Z (rfl) (A2 hk1) Tryz.underlying144 rfl sz2 rfl) ?_ | refine J (CZ (k) Z Z (rfl) (A2 hk1) rfl Tryz.underlying144 sz2 rfl) ?_
  first | refine J (A0 Z Z Be rfl) ?_ | refine J (AY Z Z Z Be rfl) ?_ | refine J (AZ Z Z (rfl) rfl Be rfl) ?_
  refine AD Z Z (AD Z Z (AH (AF (AF (AJ (AC Z Z ?_))))))
  first | refine J (Bc Z Z) ?_ | refine J (Ba Z Z) ?_ | refine J (Bd Z Z) ?_ | refine J (Bb Z Z) ?_
  first | refine J (AO rfl MC Z Z Z) ?_ | refine J (AQ rfl MC Z Z Z) ?_ | refine J (AR rfl MC Z Z Z) ?_ | refine J (AP rfl MC Z Z Z) ?_ | refine J (AN rfl MC Z Z Z) ?_
  first | refine J (A0 Z Z UV rfl) ?_ | refine J (AY Z Z Z UV rfl) ?_ | refine J (AZ Z Z (rfl) rfl UV rfl) ?_
  refine AC Z Z ?_
  first | refine J (CY (k) Z Z (rfl) (A2 hkd) Tryz.underlying143 rfl Wi rfl) ?_ | refine J (CZ (k) Z Z (rfl) (A2 hkd) rfl Tryz.underlying143 Wi rfl) ?_
  first | refine J (A0 Z Z Mv rfl) ?_ | refine J (AY Z Z Z Mv rfl) ?_ | refine J (AZ Z Z (rfl) rfl Mv rfl) ?_
  first | refine J (Cc rfl Tryz.underlying144 rfl) ?_ | refine J (C8 Z Z Tryz.underlying144 rfl) ?_ | refine J (Cd rfl Tryz.underlying144 rfl) ?_ | refine J (Cb rfl Tryz.underlying144 rfl) ?_ | refine J (CW rfl Tryz.underlying144 rfl) ?_ | refine J (C9 rfl Tryz.underlying144 rfl) ?_
  refine AC Z Z (AH (Au (Dz (α:=Nat) (fun j=>⟨44,[(0,.d (.ptr (Lr s))),(1,.d (Gh x)),(6,(.d (AG (Nt x s.de[k] j s.rm[k])))),(12,(.d (.sl none (s.rm.map AG)))),(13,(.d (AG (s.rm.length:Int)))),(14,(.d (AG (k:Int)))),(25,(.d (.sl none (s.de[k].map AG)))),(26,(.d (AG (s.de[k].length:Int)))),(27,(.d (AG (j:Int))))],[]⟩) (fun j=>j≤s.de[k].length) (fun j=>s.de[k].length - j) (0) (Nat.zero_le _) (Ti ⟨rfl,rfl,rfl,rfl,rfl,rfl,rfl,rfl,rfl,trivial⟩) ?_)));rintro j hj0;refine AF (AJ ?_)
  first | refine J (C7 Z Z Z) ?_ | refine J (Ca Z Z Z) ?_
  refine AH (AF ?_)
  first | refine BJ rfl (fun h28=>?_) (fun h28=>?_) | refine BB rfl (fun h28=>?_) (fun h28=>?_)
  ·have hj1:j<s.de[k].length:=DZ h28;refine Am (AF (Au (AF (AJ (AC Z Z ?_)))));have hgj:=Bg 0 hj1;have hpb:=XG (x:=x) hdk.2 s.rm[k] j (by omega);have hvj:=hdk.2 _ (List.getElem_mem hj1)
   first | refine J (CY (j) Z Z (rfl) (A2 hj1) Tryz.underlying144 rfl sz2 rfl) ?_ | refine J (CZ (j) Z Z (rfl) (A2 hj1) rfl Tryz.underlying144 sz2 rfl) ?_
   first | refine J (A0 Z Z Be rfl) ?_ | refine J (AY Z Z Z Be rfl) ?_ | refine J (AZ Z Z (rfl) rfl Be rfl) ?_
   refine AD Z Z (AD Z Z (AH (AF (AJ (AC Z Z (AC Z Z (J (Sc Z Z (by omega) (shrU x j (by omega)) rfl) (J (IK Z Z Z (and1U (Wz hx j)) rfl) ?_))))))))
   first | refine J (EP Z Z Z) ?_ | refine J (EW Z Z Z) ?_ | refine J (EA Z Z Z) ?_ | refine J (EQ Tryz.underlying79 Z Z Z) ?_ | refine J (ET Tryz.underlying79 Z Z Z) ?_ | refine J (ES Tryz.underlying79 Z Z) ?_ | refine J (ER Tryz.underlying79 Z Z Z) ?_ | refine J (EV Tryz.underlying79 Z Z) ?_
   refine AH ?_
   first | refine BJ rfl (fun h36=>?_) (fun h36=>?_) | refine BB rfl (fun h36=>?_) (fun h36=>?_)
   ·refine AJ ?_;refine AC Z Z (AC Z Z (J (Bi Z Z (IntWalk.i64_in _ (by omega)) rfl) (AD Z Z (AH (AJ (J (Bi Z Z (A6 (j+1) (by omega)) rfl) (AC Z Z (AH ?_))))))))
    first | exact ⟨j+1,by show j+1≤_;omega,by show s.de[k].length - (j+1)<s.de[k].length - j;omega,⟨rfl,rfl,fun _ _=>MT.get (l:=[(0,_),(1,_),(6,_),(12,_),(13,_),(14,_),(25,_),(26,_),(27,_)]) ⟨rfl,rfl,by rw [GE,if_pos ((MQ x j).1 h36),hgj];rfl,rfl,rfl,rfl,rfl,rfl,rfl,trivial⟩⟩⟩ | exact ⟨j+1,by show j+1≤_;omega,by show s.de[k].length - (j+1)<s.de[k].length - j;omega,⟨rfl,rfl,fun _ _=>MT.get (l:=[(0,_),(1,_),(6,_),(12,_),(13,_),(14,_),(25,_),(26,_),(27,_)]) ⟨rfl,rfl,by rw [GE,if_neg (by rw [QQ h36];decide),Int.add_zero];rfl,rfl,rfl,rfl,rfl,rfl,rfl,trivial⟩⟩⟩
   ·refine Am (AJ (J (Bi Z Z (A6 (j+1) (by omega)) rfl) (AC Z Z (AH ?_))))
    first | exact ⟨j+1,by show j+1≤_;omega,by show s.de[k].length - (j+1)<s.de[k].length - j;omega,⟨rfl,rfl,fun _ _=>MT.get (l:=[(0,_),(1,_),(6,_),(12,_),(13,_),(14,_),(25,_),(26,_),(27,_)]) ⟨rfl,rfl,by rw [GE,if_pos ((MQ x j).1 h36),hgj];rfl,rfl,rfl,rfl,rfl,rfl,rfl,trivial⟩⟩⟩ | exact ⟨j+1,by show j+1≤_;omega,by show s.de[k].length - (j+1)<s.de[k].length - j;omega,⟨rfl,rfl,fun _ _=>MT.get (l:=[(0,_),(1,_),(6,_),(12,_),(13,_),(14,_),(25,_),(26,_),(27,_)]) ⟨rfl,rfl,by rw [GE,if_neg (by rw [QQ h36];decide),Int.add_zero];rfl,rfl,rfl,rfl,rfl,rfl,rfl,trivial⟩⟩⟩
  ·have hov1:Nt x s.de[k] j s.rm[k]=s.rm[k]+VX x s.de[k]:=by have e:j=s.de[k].length:=by {have h:=h28;omega};rw [e,rowP_eq]
   refine C6 (AF (AJ (AC Z Z ?_)))
   first | refine J (C7 Z Z Z) ?_ | refine J (Ca Z Z Z) ?_
   refine AH ?_
   first | refine BJ rfl (fun h42=>?_) (fun h42=>?_) | refine BB rfl (fun h42=>?_) (fun h42=>?_)
   ·refine AF (AJ (AD Z Z (AH (Af ?_))));exact ⟨_,[],[],Ae rfl,rfl,rfl,HF (by unfold feaS;rw [Um hk1 (by unfold Ms;rw [hgd,hge,←hov1];exact decide_eq_true h42)];rfl),rfl⟩
   ·refine Am (AJ ?_);have hov:Ms s x k=false:=by unfold Ms;rw [hgd,hge,←hov1];exact decide_eq_false h42
    refine J (Bi Z Z (A6 (k+1) (by omega)) rfl) (AC Z Z (AH ?_));exact ⟨k+1,⟨by show k+1≤_;omega,fun i hi=>by rcases Nat.lt_or_ge i k with h | h;exact hk i h;have e:i=k:=by {omega};subst e;exact hov⟩,by show s.rm.length - (k+1)<s.rm.length - k;omega,⟨rfl,rfl,fun _ _=>MT.get (l:=[(0,_),(1,_),(12,_),(13,_),(14,_)]) ⟨rfl,rfl,rfl,rfl,rfl,trivial⟩⟩⟩
 ·refine C6 (AF (AJ (AD Z Z (AH (Af ?_)))));exact ⟨_,[],[],Ae rfl,rfl,rfl,HF (by unfold feaS;rw [Yp hk (by have h:=h15;omega)];rfl),rfl⟩
def listS (s:Sma) (x:Nat):List Int:=((List.range s.ids.length).filter fun i=>x.testBit i).map fun i=>s.ids.getD i 0
def enumX (n:Nat):Nat ->Nat ->Nat ->List Nat
 | 0,_,x=> [x]
 | l+1,frm,x=>((List.range (n+1 - (l+1) - frm)).map (frm+ ·)).flatMap fun i=>enumX n l (i+1) (x ||| 1<<<i)
section
variable {β:Type} (step:β ->Nat ->β×Bool)
def DR:β ->List Nat ->Bool
 | _,[]=>true
 | b,x::r=>match step b x with
  | (b',true)=>DR b' r
  | (_,false)=>false
theorem FP {b:β} {x:Nat} {r:List Nat}:DR step b (x::r)=((step b x).2 && DR step (step b x).1 r):=by
 simp only [DR]
 generalize step b x=y
 obtain ⟨y1,y2⟩:=y
 cases y2<;>rfl
theorem GV:∀(b:β) (l m:List Nat),CA step b (l++m)=bif DR step b l then CA step (CA step b l) m else CA step b l
 | b,[],m=>rfl
 | b,x::l,m=>by
  rw [List.cons_append,Td,Td,FP]
  by_cases h:(step b x).2=true
  ·rw [if_pos h,if_pos h,h,Bool.true_and];exact GV _ l m
  ·have h':(step b x).2=false:=by simpa using h
   rw [if_neg h,if_neg h,h',Bool.false_and];rfl
theorem LK:∀(b:β) (l m:List Nat),DR step b (l++m)=(DR step b l && DR step (CA step b l) m)
 | b,[],m=>rfl
 | b,x::l,m=>by
  rw [List.cons_append,Td,FP,FP]
  by_cases h:(step b x).2=true
  ·rw [if_pos h,h,Bool.true_and,Bool.true_and];exact LK _ l m
  ·have h':(step b x).2=false:=by simpa using h
   rw [h'];rfl
theorem JX {P:Program} {l:Nat} {enc:Nat ->List AV} {H:β ->Hp}:∀{b:β} {r m:List Nat},Cv P l enc H step b (r++m) ->Cv P l enc H step b r
 | _,[],_,_=>trivial
 | _,_::_,_,h=>⟨h.1,fun hg=>JX (h.2 hg)⟩
theorem JW {P:Program} {l:Nat} {enc:Nat ->List AV} {H:β ->Hp}:∀{b:β} {r m:List Nat},Cv P l enc H step b (r++m) ->DR step b r=true ->Cv P l enc H step (CA step b r) m
 | _,[],_,h,_=>h
 | b,x::r,m,h,hb=>by
  rw [FP] at hb
  by_cases hg:(step b x).2=true
  ·rw [hg,Bool.true_and] at hb;rw [Td,if_pos hg];exact JW (h.2 hg) hb
  ·have h':(step b x).2=false:=by simpa using hg
   rw [h'] at hb;cases hb
end
theorem Oo {nm nm':List Nat} (h:∀f,f∈nm ->f∈nm'):∀{H:Hp},DV nm H=true ->DV nm' H=true:=by
 have hm:∀f,memB f nm=true ->memB f nm'=true:=fun f hf=>Ez.2 (h f (Ez.1 hf))
 have ho:∀(l:List AM),BH nm l=true ->BH nm' l=true:=by
  intro l
  induction l with
  | nil=>intro _;rfl
  | cons o r ih=>
   intro hr
   cases o with
   | blk t cs=>
    simp only [BH,Bool.and_eq_true] at hr⊢;refine ⟨?_,ih hr.2⟩
    have key:∀l:List AV,okC (Hg nm) l=true ->okC (Hg nm') l=true:=by
     intro l
     induction l with
     | nil=>intro _;rfl
     | cons a l ihl=>
      intro hq;simp only [okC,Bool.and_eq_true] at hq⊢;exact ⟨AV.ok_mono (fun f _ hf=>hm f hf) hq.1,ihl hq.2⟩
    exact key _ hr.1
   | row t k xs=>
    simp only [BH,Bool.and_eq_true,List.all_eq_true] at hr⊢;exact ⟨fun x hx=>KD (fun f _ hf=>hm f hf) (hr.1 x hx),ih hr.2⟩
   | rowD t k xs=>simp only [BH] at hr⊢;exact ih hr
   | loop L=>
    simp only [BH,Bool.and_eq_true] at hr⊢;refine ⟨?_,ih hr.2⟩
    have key:∀e:List (Nat×AV),H9 (Hg nm) e=true ->H9 (Hg nm') e=true:=by
     intro e
     induction e with
     | nil=>intro _;rfl
     | cons q e ihe=>
      obtain ⟨t,a⟩:=q;intro hq;simp only [H9,Bool.and_eq_true] at hq⊢;exact ⟨AV.ok_mono (fun f _ hf=>hm f hf) hq.1,ihe hq.2⟩
    exact key _ hr.1
   | map bs es=>simp only [BH] at hr⊢;exact ih hr
   | iter f i c seen=>simp only [BH,Bool.and_eq_true] at hr⊢;exact ⟨hm _ hr.1,ih hr.2⟩
   | addr f i v=>simp only [BH,Bool.and_eq_true] at hr⊢;exact ⟨hm _ hr.1,ih hr.2⟩
   | any=>simp only [BH] at hr⊢;exact ih hr
   | nb _ _ _=>simp only [BH] at hr⊢;exact ih hr
   | nr _ _ _ _ _=>simp only [BH] at hr⊢;exact ih hr
   | multi _=>simp only [BH] at hr⊢;exact ih hr
 intro H
 induction H with
 | nil=>intro _;rfl
 | cons q r ih=>
  obtain ⟨f,l⟩:=q;intro hh;simp only [DV,Bool.and_eq_true] at hh⊢;exact ⟨ho _ hh.1,ih hh.2⟩
theorem Su {nm:List Nat} {f:Nat} {x:List AM} {H:Hp} (hf:memB f nm=false) (hH:CF nm H=some []):CF nm ((f,x)::H)=some [(f,x)]:=by
 simp only [CF,hH,hf]
abbrev cS (s:Sma):AV:= .d (.ptr (.ptr (Lr s)))
abbrev cY (l:Nat):AV:= .d (.ptr (.raw (CK l)))
abbrev fnX (s:Sma) (l:Nat):AV:= .fn 61 [cS s,cY l,.ptr 980 0 0]
abbrev blkX (s:Sma) (l:Nat):Nat×List AM:=(980,[.blk 141 [fnX s l]])
abbrev HX (s:Sma) (l:Nat) (h:Hp):Hp:=blkX s l::h
def Rv (x:Nat):List AV:=[.d (Gh x)]
theorem Ot {f g:Nat} {x:List AM} (hg:g≠f):∀H:Hp,hfam (H++ [(f,x)]) g=hfam H g
 | []=>by simp only [List.nil_append,hfam,Ef (Ne.symm hg)]
 | (k,y)::H=>by
  simp only [List.cons_append,hfam,Ot hg H]
theorem Hh {f:Nat} {x:List AM}:∀{H:Hp},hfam H f=none ->hfam (H++ [(f,x)]) f=some x
 | [],_=>by simp only [List.nil_append,hfam,Nat.beq_refl]
 | (k,y)::H,h=>by
  simp only [hfam] at h;simp only [List.cons_append,hfam]
  cases hk:Nat.beq k f with
  | true=>rw [hk] at h;cases h
  | false=>rw [hk] at h;exact Hh h
theorem LF {H:Hp} {f:Nat} (h:memB f (hpN H)=false):hfam H f=none:=by
 cases hh:hfam H f with
 | none=>rfl
 | some l=>
  have:=Ez.2 (Ua hh);rw [h] at this;cases this
theorem V7 {f:Nat} {x:List AM} {H:Hp} {N:List Nat} (hN:hpN H=N) (hP:At H N=some H) (hm:memB f N=false):At (H++ [(f,x)]) (f::N)=some ((f,x)::H):=by
 have key:∀M:List Nat,memB f M=false ->At (H++ [(f,x)]) M=At H M:=by
  intro M
  induction M with
  | nil=>intro _;rfl
  | cons g M ih=>
   intro h;simp only [memB,Bool.or_eq_false_iff] at h
   have hne:g≠f:=fun e=>by
    have:=h.1;rw [e] at this
    first | (rw [Nat.beq_refl] at this;cases this) | simp at this
   simp only [At,ih h.2,Ot hne]
 have h1:=Hh (x:=x) (LF (H:=H) (f:=f) (by rw [hN];exact hm));simp only [At,key N hm,hP,h1]
theorem Lc {α β:Type} (p:β ->Bool) (f:α ->List β):∀l:List α,(l.flatMap f).filter p=l.flatMap fun a=>(f a).filter p
 | []=>rfl
 | a::l=>by rw [List.flatMap_cons,List.filter_append,List.flatMap_cons,Lc p f l]
theorem keep980 {s:Sma} {l:Nat} {CH:Hp} {N:List Nat} (hm:memB 980 N=false):CL (CG CH N) [blkX s l]=some [blkX s l]:=by
 have h:CG CH N 980 0=true:=by unfold CG;rw [hm];rfl
 simp only [CL,DF,CQ,LC,AV.ok,UX,AV.okS,h,Bool.and_true]
theorem fams980 {s:Sma} {l:Nat} {h:Hp} {N:List Nat} (hm:memB 980 N=false):CR (HX s l h) h N:=Zdk fun g hg=>by
 have hne:980≠g:=fun e=>by
  have:=Ez.2 hg;rw [←e,hm] at this;cases this
 simp only [hfam,Ef hne]
section
variable {β:Type}
theorem ext_c (s:Sma) (hbl:∀b∈s.bl,b<4294967296) (hbn:s.bl.length≤32) (hn:s.ids.length≤31) (l:Nat) (H:β ->Hp) (N:List Nat) (step:β ->Nat ->β×Bool) (hN:∀st,hpN (H st)=N) (hI:∀st,DV N (H st)=true) (hP:∀st,At (H st) N=some (H st)) (hm:memB 980 N=false):
  ∀(left frm x:Nat) (st0:β),frm≤32 ->left≤32 ->x<4294967296 ->Cv Tryz.prog l Rv H step st0 ((enumX s.ids.length left frm x).filter (admS s))→
  A8 Tryz.prog 61 [.d (Gh x),.d (AG (frm:Int)),.d (AG (left:Int)),cS s,cY l,.ptr 980 0 0] (HX s l (H st0)) fun r H'=>r= .d (BE (DR step st0 ((enumX s.ids.length left frm x).filter (admS s))))∧H'=HX s l (H (CA step st0 ((enumX s.ids.length left frm x).filter (admS s)))):=by
 have x1:∀st,A1 (980::N) (HX s l (H st))=true:=fun st=>by have h:=ZD (HX s l (H st));rw [show hpN (HX s l (H st))=980::N from by show 980::hpN (H st)=_;rw [hN]] at h;exact h
 have x2:∀st,CF (980::N) (HX s l (H st))=some []:=fun st=>by have h:=GG (HX s l (H st));rw [show hpN (HX s l (H st))=980::N from by show 980::hpN (H st)=_;rw [hN]] at h;exact h
 have x3:∀st,DV (980::N) (HX s l (H st))=true:=fun st=>by
  have h:=Oo (nm:=N) (nm':=980::N) (fun f hf=>List.mem_cons_of_mem _ hf) (hI st);simp only [DV,h,Bool.and_true];rfl
 have x4:∀st,At (HX s l (H st)) (980::N)=some (HX s l (H st)):=fun st=>by
  have h:=(RD (x:=[.blk 141 [fnX s l]]) hm).trans (hP st);simp only [At,h];rfl
 have x5:∀st,A1 N (H st)=true:=fun st=>by have h:=ZD (H st);rw [hN] at h;exact h
 have x6:∀st,CF N (HX s l (H st))=some [blkX s l]:=fun st=>Su hm (by have h:=GG (H st);rw [hN] at h;exact h);intro left
 induction left with
 | zero=>
  intro frm x st0 hfr _ hx hfd;have hadm:=admS_p s x hx hbl hbn
  cases ha:admS s x with
  | true=>
   have hL:([x].filter (admS s))=[x]:=by simp [ha]
   rw [show enumX s.ids.length 0 frm x=[x] from rfl,hL] at hfd⊢;rw [ha] at hadm;have hfb:DR step st0 [x]=(step st0 x).2:=by rw [FP];simp [DR]
   have hfe:CA step st0 [x]=(step st0 x).1:=by rw [Td];split<;>rfl
   rw [hfb,hfe];refine BY Tryz.func61 Z Z Tryz.ntmps61 Z Z Z fun F hF=>(AF (AJ (AD Z Z (AH (AF (AF (AJ (AC Z Z ?_))))))))
   first | refine J (EP Z Z Z) ?_ | refine J (EW Z Z Z) ?_ | refine J (EA Z Z Z) ?_ | refine J (EQ Tryz.underlying3 Z Z Z) ?_ | refine J (ET Tryz.underlying3 Z Z Z) ?_ | refine J (ES Tryz.underlying3 Z Z) ?_ | refine J (ER Tryz.underlying3 Z Z Z) ?_ | refine J (EV Tryz.underlying3 Z Z) ?_
   refine AH (Dg rfl (rfl) (AF (AJ ?_)))
   first | refine J (A0 Z Z Fl rfl) ?_ | refine J (AY Z Z Z Fl rfl) ?_ | refine J (AZ Z Z (rfl) rfl Fl rfl) ?_
   refine AC Z Z (J (BF (hadm) Z Z) ?_)
   first | refine J (F2 Z Z) ?_ | refine J (FT Z Z) ?_
   refine AC Z Z (JC 17 rfl (rfl) (Ah Z Z Z ?_))
   first | refine J (A0 Z Z on83 rfl) ?_ | refine J (AY Z Z Z on83 rfl) ?_ | refine J (AZ Z Z (rfl) rfl on83 rfl) ?_
   refine Ah Z Z Z (AC Z Z (TJ [9,17,18,19] rfl (Ah Z Z Z ?_)));refine Mz Z Z hfd.1 N (fams980 hm) (x5 st0) (x6 st0) rfl (keep980 hm) (fun r H' ⟨e1,e2⟩=>by subst e1 e2;exact ⟨x5 _,hI _,rfl⟩) rfl fun r H' ⟨e1,e2⟩=>?_;subst e1 e2;refine J (Ei Z Z Z Z) (AD Z Z (AH (Af ?_)));exact ⟨_,980::N,_,Ae rfl,V7 (hN _) (hP _) hm,x1 _,rfl,rfl⟩
  | false=>
   have hL:([x].filter (admS s))=[]:=by simp [ha]
   rw [show enumX s.ids.length 0 frm x=[x] from rfl,hL] at hfd⊢;rw [ha] at hadm;refine BY Tryz.func61 Z Z Tryz.ntmps61 Z Z Z fun F hF=>(AF (AJ (AD Z Z (AH (AF (AF (AJ (AC Z Z ?_))))))))
   first | refine J (EP Z Z Z) ?_ | refine J (EW Z Z Z) ?_ | refine J (EA Z Z Z) ?_ | refine J (EQ Tryz.underlying3 Z Z Z) ?_ | refine J (ET Tryz.underlying3 Z Z Z) ?_ | refine J (ES Tryz.underlying3 Z Z) ?_ | refine J (ER Tryz.underlying3 Z Z Z) ?_ | refine J (EV Tryz.underlying3 Z Z) ?_
   refine AH (Dg rfl (rfl) (AF (AJ ?_)))
   first | refine J (A0 Z Z Fl rfl) ?_ | refine J (AY Z Z Z Fl rfl) ?_ | refine J (AZ Z Z (rfl) rfl Fl rfl) ?_
   refine AC Z Z (J (BF (hadm) Z Z) ?_)
   first | refine J (F2 Z Z) ?_ | refine J (FT Z Z) ?_
   refine AC Z Z (MS 17 rfl (rfl) (Aj Z Z Z Z (Aj Z Z Z Z (Aj Z Z Z Z (J (EB Z Z Z Z) (AD Z Z (AH (Af ?_))))))));exact ⟨_,980::N,_,Ae rfl,x4 _,x1 _,rfl,rfl⟩
 | succ left ih=>
  intro frm x st0 hfr hle hx hfd
  obtain ⟨cnt,hcnt⟩:∃c,s.ids.length+1 - (left+1) - frm=c:=⟨_,rfl⟩
  obtain ⟨pos,hpos⟩:∃c,(List.range cnt).map (frm+ ·)=c:=⟨_,rfl⟩
  obtain ⟨f,hf⟩:∃g:Nat ->List Nat,(fun i=>(enumX s.ids.length left (i+1) (x ||| 1<<<i)).filter (admS s))=g:=⟨_,rfl⟩
  have hLL:(enumX s.ids.length (left+1) frm x).filter (admS s)=pos.flatMap f:=by
   show ((((List.range (s.ids.length+1 - (left+1) - frm)).map (frm+ ·)).flatMap fun i=>enumX s.ids.length left (i+1) (x ||| 1<<<i))).filter (admS s)=_;rw [Lc,hcnt,hpos,hf]
  have hpl:pos.length=cnt:=by rw [←hpos];simp
  have hpk:∀k,k<cnt ->(pos.drop k).flatMap f=f (frm+k)++(pos.drop (k+1)).flatMap f:=fun k hk=>by
   have hk':k<pos.length:=by rw [hpl];exact hk
   rw [List.drop_eq_getElem_cons hk',List.flatMap_cons]
   congr 2
   subst hpos;simp
  have ih':∀(k:Nat) (st:β),frm+k<32 ->Cv Tryz.prog l Rv H step st (f (frm+k)) ->A8 Tryz.prog 61 [.d (Gh (x ||| 1<<<(frm+k))),.d (AG ((frm+k+1:Nat):Int)),.d (AG (left:Int)),cS s,cY l,.ptr 980 0 0] (HX s l (H st)) fun r H'=>r= .d (BE (DR step st (f (frm+k))))∧H'=HX s l (H (CA step st (f (frm+k)))):=fun k st h1 h2=>by
   rw [←hf] at h2⊢;exact ih (frm+k+1) (x ||| 1<<<(frm+k)) st (by omega) (by omega) (Xb hx (Ke h1)) h2
  rw [hLL] at hfd⊢;refine BY Tryz.func61 Z Z Tryz.ntmps61 Z Z Z fun F hF=>(AF (AJ (AD Z Z (AH (AF (AF (AJ (AC Z Z ?_))))))))
  first | refine J (EP Z Z Z) ?_ | refine J (EW Z Z Z) ?_ | refine J (EA Z Z Z) ?_ | refine J (EQ Tryz.underlying3 Z Z Z) ?_ | refine J (ET Tryz.underlying3 Z Z Z) ?_ | refine J (ES Tryz.underlying3 Z Z) ?_ | refine J (ER Tryz.underlying3 Z Z Z) ?_ | refine J (EV Tryz.underlying3 Z Z) ?_
  refine AH (Ey rfl ((decide_eq_false (by omega))) ?_);refine Am (AF (AF (AJ (AC Z Z (AD Z Z (AH (Au (Dz (α:=Nat×β) (fun q=>⟨45,[(0,.d (Gh x)),(2,.d (AG ((left+1:Nat):Int))),(3,cS s),(5,.ptr 980 0 0),(10,(.d (AG ((frm+q.1:Nat):Int))))],HX s l (H q.2)⟩) (fun q=>q.1≤cnt∧Cv Tryz.prog l Rv H step q.2 ((pos.drop q.1).flatMap f)∧CA step q.2 ((pos.drop q.1).flatMap f)=CA step st0 (pos.flatMap f)∧DR step q.2 ((pos.drop q.1).flatMap f)=DR step st0 (pos.flatMap f)) (fun q=>cnt - q.1) ((0,st0)) (⟨Nat.zero_le _,hfd,rfl,rfl⟩) (Ti ⟨rfl,rfl,rfl,rfl,rfl,trivial⟩) ?_))))))));rintro ⟨k,st⟩ ⟨hk0,hfk,hfin,hfb⟩;dsimp only at hk0 hfk hfin hfb⊢;refine AF (AF (AJ (AC Z Z ?_)))
  first | refine J (A0 Z Z Fl rfl) ?_ | refine J (AY Z Z Z Fl rfl) ?_ | refine J (AZ Z Z (rfl) rfl Fl rfl) ?_
  first | refine J (Bc Z Z) ?_ | refine J (Ba Z Z) ?_ | refine J (Bd Z Z) ?_ | refine J (Bb Z Z) ?_
  first | refine J (AO rfl J9 Z Z Z) ?_ | refine J (AQ rfl J9 Z Z Z) ?_ | refine J (AR rfl J9 Z Z Z) ?_ | refine J (AP rfl J9 Z Z Z) ?_ | refine J (AN rfl J9 Z Z Z) ?_
  first | refine J (A0 Z Z Aq rfl) ?_ | refine J (AY Z Z Z Aq rfl) ?_ | refine J (AZ Z Z (rfl) rfl Aq rfl) ?_
  first | refine J (Cc rfl Tryz.underlying33 rfl) ?_ | refine J (C8 Z Z Tryz.underlying33 rfl) ?_ | refine J (Cd rfl Tryz.underlying33 rfl) ?_ | refine J (Cb rfl Tryz.underlying33 rfl) ?_ | refine J (CW rfl Tryz.underlying33 rfl) ?_ | refine J (C9 rfl Tryz.underlying33 rfl) ?_
  refine AC Z Z (J (FH Z Z (IntWalk.i64_in _ (by omega)) rfl) (J (Se Z Z Z) (AH ?_)))
  first | refine BJ rfl (fun h31=>?_) (fun h31=>?_) | refine BB rfl (fun h31=>?_) (fun h31=>?_)
  ·have hk1:k<cnt:=by have h:=h31;omega
   refine Am (AF (Au (AF (G8 [[],[],[],[2],[1,2,3],[],[5],[],[7],[0,1,2,3,4,5,6,7,8],[0,1,2,3,4,5,6,7,8,9]] BC rfl (Hq ?_)))));have hA:=hpk k hk1;have hfk2:=hfk;rw [hA] at hfk2;have h32:frm+k<32:=by omega
   first | refine AE [5] [980] Z Z (fun _=>AB (A0 Z Z Oc rfl)) ?_ | refine AE [5] [980] Z Z (fun _=>AB (AY Z Z Z Oc rfl)) ?_ | refine AE [5] [980] Z Z (fun _=>AB (AZ Z Z (rfl) rfl Oc rfl)) ?_
   first | refine AE [0] [] Z Z (fun _=>AB (B7 Z Z)) ?_ | refine AI [0] Z Z (fun _=>AB (B7 Z Z)) ?_
   first | refine AE [10] [] Z Z (fun _=>AB (B7 Z Z)) ?_ | refine AI [10] Z Z (fun _=>AB (B7 Z Z)) ?_
   first | refine AE [36] [] Z Z (fun _=>AB (Sd Z Z (by omega) (XA h32) rfl)) ?_ | refine AI [36] Z Z (fun _=>AB (Sd Z Z (by omega) (XA h32) rfl)) ?_
   first | refine AE [35,37] [] Z Z (fun _=>AB (IK Z Z Z (orU hx (Ke h32)) rfl)) ?_ | refine AI [35,37] Z Z (fun _=>AB (IK Z Z Z (orU hx (Ke h32)) rfl)) ?_
   first | refine AE [10] [] Z Z (fun _=>AB (B7 Z Z)) ?_ | refine AI [10] Z Z (fun _=>AB (B7 Z Z)) ?_
   first | refine AE [39] [] Z Z (fun _=>AB (Bi Z Z (A6 (frm+k+1) (by omega)) rfl)) ?_ | refine AI [39] Z Z (fun _=>AB (Bi Z Z (A6 (frm+k+1) (by omega)) rfl)) ?_
   first | refine AE [2] [] Z Z (fun _=>AB (B7 Z Z)) ?_ | refine AI [2] Z Z (fun _=>AB (B7 Z Z)) ?_
   first | refine AE [41] [] Z Z (fun _=>AB (FH Z Z (show IntKind.i64.wrap (((left+1:Nat):Int) - 1)=((left:Nat):Int) from by rw [show (((left+1:Nat):Int) - 1)=(left:Int) by omega];exact A6 left (by omega)) rfl)) ?_ | refine AI [41] Z Z (fun _=>AB (FH Z Z (show IntKind.i64.wrap (((left+1:Nat):Int) - 1)=((left:Nat):Int) from by rw [show (((left+1:Nat):Int) - 1)=(left:Int) by omega];exact A6 left (by omega)) rfl)) ?_
   refine GZ 9 Z Z Z (BD 10 Z Z (U (Kd (ih' k st h32 (JX step hfk2)) rfl (980::N) (Zdk fun _ _=>rfl) (x1 st) (x2 st) Z Z (x1 _) (x3 _) Z Z Z) ?_));rw [List.append_nil];refine AH ⟨rfl,?_⟩;refine BD 11 Z Z ?_
   first | refine J (F2 Z Z) ?_ | refine J (FT Z Z) ?_
   refine AH ⟨rfl,?_⟩;refine GY ?_
   first | refine BJ rfl (fun h44=>?_) (fun h44=>?_) | refine BB rfl (fun h44=>?_) (fun h44=>?_)
   ·have hgo:DR step st (f (frm+k))=false:=by simpa using h44
    refine AF (AJ (AD Z Z (AH (Af ?_))));exact ⟨_,980::N,_,Ae rfl,x4 _,x1 _,HF (by rw [←hfb,hA,LK,hgo];rfl),by rw [←hfin,hA,GV,hgo];rfl⟩
   ·have hgo:DR step st (f (frm+k))=true:=by simpa using h44
    refine Am (AJ (AC Z Z (J (Bi Z Z (A6 (frm+k+1) (by omega)) rfl) (AD Z Z (AH ?_)))));exact ⟨(k+1,CA step st (f (frm+k))),⟨by show k+1≤_;omega,JW step hfk2 hgo,by rw [←hfin,hA,GV,hgo];rfl,by rw [←hfb,hA,LK,hgo];rfl⟩,by show cnt - (k+1)<cnt - k;omega,⟨rfl,rfl,fun _ _=>MT.get (l:=[(0,_),(2,_),(3,_),(5,_),(10,_)]) ⟨rfl,rfl,rfl,rfl,rfl,trivial⟩⟩⟩
  ·have hk1:¬k<cnt:=by have h:=h31;omega
   refine C6 (AF (AJ (AD Z Z (AH (Af ?_)))));exact ⟨_,980::N,_,Ae rfl,x4 _,x1 _,HF (by rw [←hfb,List.drop_of_length_le (by omega)];rfl),by rw [←hfin,List.drop_of_length_le (by omega)];rfl⟩
def allX (s:Sma):List Nat:=(List.range (s.ids.length+1)).flatMap fun k=>(enumX s.ids.length k 0 0).filter (admS s)
theorem setsF_c (s:Sma) (hbl:∀b∈s.bl,b<4294967296) (hbn:s.bl.length≤32) (hn:s.ids.length≤31) (l:Nat) (H:β ->Hp) (N:List Nat) (step:β ->Nat ->β×Bool) (st0:β) (hN:∀st,hpN (H st)=N) (hI:∀st,DV N (H st)=true) (hP:∀st,At (H st) N=some (H st)) (hm:memB 980 N=false) (hm2:memB 981 N=false)
  (hk:∀st,Aa 980 (H st)=some (H st)) (hk2:∀st,Aa 981 (H st)=some (H st)) (hfe:Cv Tryz.prog l Rv H step st0 (allX s)):
  A8 Tryz.prog 60 [.d (.raw (CK l)),cS s] (H st0) fun r H'=>r= .tup []∧H'=H (CA step st0 (allX s)):=by
 have hz:∀st,hfam (H st) 980=none:=fun st=>LF (by rw [hN];exact hm);have hz2:∀st,hfam (H st) 981=none:=fun st=>LF (by rw [hN];exact hm2);have hext:=fun k st=>ext_c s hbl hbn hn l H N step hN hI hP hm k 0 0 st (by omega);have x1:∀st,A1 (980::N) (HX s l (H st))=true:=fun st=>by have h:=ZD (HX s l (H st));rw [show hpN (HX s l (H st))=980::N from by show 980::hpN (H st)=_;rw [hN]] at h;exact h
 have x2:∀st,CF (980::N) (HX s l (H st))=some []:=fun st=>by have h:=GG (HX s l (H st));rw [show hpN (HX s l (H st))=980::N from by show 980::hpN (H st)=_;rw [hN]] at h;exact h
 have x3:∀st,DV (980::N) (HX s l (H st))=true:=fun st=>by
  have h:=Oo (nm:=N) (nm':=980::N) (fun f hf=>List.mem_cons_of_mem _ hf) (hI st);simp only [DV,h,Bool.and_true];rfl
 have x5:∀st,A1 N (H st)=true:=fun st=>by have h:=ZD (H st);rw [hN] at h;exact h
 have x8:∀st,At (HX s l (H st)) N=some (H st):=fun st=>(RD hm).trans (hP st)
 obtain ⟨f,hf⟩:∃g:Nat ->List Nat,(fun k=>(enumX s.ids.length k 0 0).filter (admS s))=g:=⟨_,rfl⟩
 have hall:allX s=(List.range (s.ids.length+1)).flatMap f:=by unfold allX;rw [hf]
 have hext':∀k st,k≤32 ->Cv Tryz.prog l Rv H step st (f k) ->A8 Tryz.prog 61 [.d (Gh 0),.d (AG ((0:Nat):Int)),.d (AG (k:Int)),cS s,cY l,.ptr 980 0 0] (HX s l (H st)) fun r H'=>r= .d (BE (DR step st (f k)))∧H'=HX s l (H (CA step st (f k))):=fun k st h1 h2=>by
  rw [←hf] at h2⊢;exact hext k st h1 (by omega) h2
 have hrk:∀k,k<s.ids.length+1 ->((List.range (s.ids.length+1)).drop k).flatMap f=f k++((List.range (s.ids.length+1)).drop (k+1)).flatMap f:=fun k hk=>by
  rw [List.drop_eq_getElem_cons (by simpa using hk),List.flatMap_cons,List.getElem_range]
 rw [hall] at hfe⊢;refine BY Tryz.func60 Z Z Tryz.ntmps60 Z Z Z fun F hF=>(AF (AJ (U (CJ 981 Z Z Z Z (hk2 _) (Y2 (hz2 _)) rfl) (AH (AF (PN 2 981 (.raw (CK l)) N (hF.trans (hN st0)) Z Z Z (by intro c hc;simp [D.cells] at hc;subst hc;rfl) hm2 (OK N) ((RD hm2).trans (hP _)) (AJ ?_)))))));refine U (Cm 980 zl141 rfl (hk _) (Y2 (hz _)) rfl) (AH (AF (AJ (J (Zdl Z Z) (U (Bj Z Z Z Z Z Z Z sz141) (AH (AF (AJ ?_))))))))
 first | refine J (A0 Z Z Fl rfl) ?_ | refine J (AY Z Z Z Fl rfl) ?_ | refine J (AZ Z Z (rfl) rfl Fl rfl) ?_
 first | refine J (Bc Z Z) ?_ | refine J (Ba Z Z) ?_ | refine J (Bd Z Z) ?_ | refine J (Bb Z Z) ?_
 first | refine J (AO rfl J9 Z Z Z) ?_ | refine J (AQ rfl J9 Z Z Z) ?_ | refine J (AR rfl J9 Z Z Z) ?_ | refine J (AP rfl J9 Z Z Z) ?_ | refine J (AN rfl J9 Z Z Z) ?_
 first | refine J (A0 Z Z Aq rfl) ?_ | refine J (AY Z Z Z Aq rfl) ?_ | refine J (AZ Z Z (rfl) rfl Aq rfl) ?_
 first | refine J (Cc rfl Tryz.underlying33 rfl) ?_ | refine J (C8 Z Z Tryz.underlying33 rfl) ?_ | refine J (Cd rfl Tryz.underlying33 rfl) ?_ | refine J (Cb rfl Tryz.underlying33 rfl) ?_ | refine J (CW rfl Tryz.underlying33 rfl) ?_ | refine J (C9 rfl Tryz.underlying33 rfl) ?_
 refine J (Bi Z Z (A6 (s.ids.length+1) (by omega)) rfl) (AC Z Z (AH (Au (Dz (α:=Nat×β) (fun q=>⟨20,[(3,(.ptr 980 0 0)),(11,(.d (AG ((s.ids.length+1:Nat):Int)))),(12,(.d (AG (q.1:Int))))],HX s l (H q.2)⟩) (fun q=>q.1≤s.ids.length+1∧Cv Tryz.prog l Rv H step q.2 (((List.range (s.ids.length+1)).drop q.1).flatMap f)∧CA step q.2 (((List.range (s.ids.length+1)).drop q.1).flatMap f)=CA step st0 ((List.range (s.ids.length+1)).flatMap f)) (fun q=>s.ids.length+1 - q.1) ((0,st0)) (⟨Nat.zero_le _,hfe,rfl⟩) (Ti ⟨rfl,rfl,rfl,trivial⟩) ?_))));rintro ⟨k,st⟩ ⟨hk0,hfk,hfin⟩;dsimp only at hk0 hfk hfin⊢;refine AF (AJ ?_)
 first | refine J (C7 Z Z Z) ?_ | refine J (Ca Z Z Z) ?_
 refine AH (AF ?_)
 first | refine BJ rfl (fun h13=>?_) (fun h13=>?_) | refine BB rfl (fun h13=>?_) (fun h13=>?_)
 ·have hk1:k<s.ids.length+1:=by have h:=h13;omega
  refine Am ?_;refine AF (Au (AF (AJ (AC Z Z (AD Z Z (AH (AF (AJ ?_))))))));have hA:=hrk k hk1;have hfk2:=hfk;rw [hA] at hfk2
  first | refine J (A0 Z Z Oc rfl) ?_ | refine J (AY Z Z Z Oc rfl) ?_ | refine J (AZ Z Z (rfl) rfl Oc rfl) ?_
  refine AC Z Z (U (Kd (hext' k st (by omega) (JX step hfk2)) rfl (980::N) (Zdk fun _ _=>rfl) (x1 st) (x2 st) Z Z (x1 _) (x3 _) Z Z Z) ?_);rw [List.append_nil]
  first | refine J (F2 Z Z) ?_ | refine J (FT Z Z) ?_
  refine AH ?_
  first | refine BJ rfl (fun h18=>?_) (fun h18=>?_) | refine BB rfl (fun h18=>?_) (fun h18=>?_)
  ·have hgo:DR step st (f k)=false:=by simpa using h18
   refine Af ?_;exact ⟨_,N,_,Ae rfl,x8 _,x5 _,rfl,by rw [←hfin,hA,GV,hgo];rfl⟩
  ·have hgo:DR step st (f k)=true:=by simpa using h18
   refine Am (AJ (J (Bi Z Z (A6 (k+1) (by omega)) rfl) (AC Z Z (AH ?_))));exact ⟨(k+1,CA step st (f k)),⟨by show k+1≤_;omega,JW step hfk2 hgo,by rw [←hfin,hA,GV,hgo];rfl⟩,by show s.ids.length+1 - (k+1)<s.ids.length+1 - k;omega,⟨rfl,rfl,fun _ _=>MT.get (l:=[(3,_),(11,_),(12,_)]) ⟨rfl,rfl,rfl,trivial⟩⟩⟩
 ·refine C6 ?_;exact ⟨_,N,_,Ae rfl,x8 _,x5 _,rfl,by rw [←hfin,List.drop_of_length_le (by have h:=h13;simp;omega)];rfl⟩
end
theorem sets_c (s:Sma):A8 Tryz.prog 25 [.d (.ptr (Lr s))] [] fun r H'=>r= .fn 60 [cS s]∧H'=[]:=by
 refine BY Tryz.func25 Z Z Tryz.ntmps25 Z Z Z fun F hF=>(AF (AJ (U (CJ 1 Z Z Z Z Z Z Z) ?_)));refine AD Z Z (AH (AF (AJ (GL 1 1 (.ptr (Lr s)) [] hF Z Z Z (by intro c hc;simp [D.cells] at hc;subst hc;rfl) Z Z Z (J (Zdl Z Z) (AD Z Z (AH (Af ?_))))))));exact ⟨_,[],[],Ae rfl,rfl,rfl,rfl,rfl⟩
theorem bs_lt {l:List Int} {x:Int} (hs:l.Pairwise (· < ·)) (hx:x∈l) {h:Nat} (hh:h<l.length):l[h]<x↔h<l.idxOf x:=by
 have hm:=List.idxOf_lt_length_of_mem hx;have hg:l[l.idxOf x]=x:=List.getElem_idxOf hm;have hp:=List.pairwise_iff_getElem.1 hs
 constructor
 ·intro hlt;rcases Nat.lt_trichotomy h (l.idxOf x) with h1 | h1 | h1
  ·exact h1
  ·exfalso
   have:l[h]=x:=by rw [←hg];congr 1
   omega
  ·have:=hp _ _ hm hh h1;rw [hg] at this;omega
 ·intro hlt;have:=hp _ _ hh hm hlt;rw [hg] at this;exact this
theorem halfU (n:Nat):((n:Nat):Int).fdiv (2^(min (1:Int).toNat IntKind.u64.bits))=((n / 2:Nat):Int):=by
 have h:min (1:Int).toNat IntKind.u64.bits=1:=by decide
 rw [h,Int.fdiv_eq_ediv_of_nonneg _ (by decide)];omega
theorem retBS {i m:Nat} (h:i=m):AV.d (.tup [AG (i:Int),.raw (.bool true)])= .d (.tup [AG (m:Int),BE true]):=by rw [h]
theorem WK (l:List Int) (x:Int) (hs:l.Pairwise (· < ·)) (hx:x∈l) (hl:l.length≤1000000):AU Tryz.prog 121 [.d (.sl none (l.map AG)),.d (AG x)] (.tup [AG (l.idxOf x:Nat),BE true]):=by
 have hm:=List.idxOf_lt_length_of_mem hx;have hg:l[l.idxOf x]=x:=List.getElem_idxOf hm;have hbl:=fun {h:Nat} (hh:h<l.length)=>bs_lt hs hx hh
 obtain ⟨m,hmE⟩:∃m,l.idxOf x=m:=⟨_,rfl⟩
 simp only [hmE] at hm hg hbl⊢;refine BY Tryz.func121 Z Z Tryz.ntmps121 Z Z Z fun F hF=>(AF (AJ (AD Z Z (AD Z Z (AH (AF (AJ (AC Z Z ?_))))))))
 first | refine J (Cc rfl Tryz.underlying33 rfl) ?_ | refine J (C8 Z Z Tryz.underlying33 rfl) ?_ | refine J (Cd rfl Tryz.underlying33 rfl) ?_ | refine J (Cb rfl Tryz.underlying33 rfl) ?_ | refine J (CW rfl Tryz.underlying33 rfl) ?_ | refine J (C9 rfl Tryz.underlying33 rfl) ?_
 refine AD Z Z (AH ?_);refine AF (AJ (AC Z Z (AD Z Z (AD Z Z (AH (AF (Au (Dz (α:=Nat×Nat) (fun q=>⟨54,[(0,.d (.sl none (l.map AG))),(1,.d (AG x)),(6,(.d (AG (l.length:Int)))),(7,(.d (AG (q.1:Int)))),(8,(.d (AG (q.2:Int))))],[]⟩) (fun q=>q.1≤m∧m≤q.2∧q.2≤l.length) (fun q=>q.2 - q.1) ((0,l.length)) (⟨Nat.zero_le _,Nat.le_of_lt hm,Nat.le_refl _⟩) (Ti ⟨rfl,rfl,rfl,rfl,rfl,trivial⟩) ?_))))))));rintro ⟨i,j⟩ ⟨hi,hj,hjl⟩;dsimp only at hi hj hjl⊢;refine AF (AF (AJ (AC Z Z (AC Z Z ?_))))
 first | refine J (C7 Z Z Z) ?_ | refine J (Ca Z Z Z) ?_
 refine AH ?_
 first | refine BJ rfl (fun h15=>?_) (fun h15=>?_) | refine BB rfl (fun h15=>?_) (fun h15=>?_)
 ·have hij:i<j:=DZ h15;refine Am (Au (AF (AJ (AC Z Z (AC Z Z ?_)))));have hh:(i+j) / 2<l.length:=by omega
  have hcU:IntKind.u64.wrap ((i:Int)+(j:Int))=((i+j:Nat):Int):=(IntWalk.u64_in _ (by omega)).trans (Int.natCast_add i j).symm;refine J (Bi Z Z (IntWalk.i64_in _ (by omega)) rfl) ?_;refine J (UC rfl Tryz.underlying3 Tryz.underlying155 (hcU) rfl) (J (Sc Z Z (by omega) (halfU (i+j)) rfl) (J (UC rfl Tryz.underlying155 Tryz.underlying3 (A6 ((i+j) / 2) (by omega)) rfl) (AD Z Z (AH (AF (AJ (AC Z Z (AC Z Z ?_))))))))
  first | refine J (CY ((i+j) / 2) Z Z (rfl) (A2 hh) Tryz.underlying33 rfl Dh rfl) ?_ | refine J (CZ ((i+j) / 2) Z Z (rfl) (A2 hh) rfl Tryz.underlying33 Dh rfl) ?_
  first | refine J (A0 Z Z A9 rfl) ?_ | refine J (AY Z Z Z A9 rfl) ?_ | refine J (AZ Z Z (rfl) rfl A9 rfl) ?_
  refine AC Z Z (J (BF (less_p l[(i+j) / 2] x) Z Z) (AH ?_))
  first | refine BJ rfl (fun h27=>?_) (fun h27=>?_) | refine BB rfl (fun h27=>?_) (fun h27=>?_)
  ·refine AJ (AC Z Z (J (Bi Z Z (A6 ((i+j) / 2+1) (by omega)) rfl) (AD Z Z (AH ?_))));exact ⟨((i+j) / 2+1,j),⟨by show (i+j) / 2+1≤m;have h:=(hbl hh).1 h27;omega,hj,hjl⟩,by show j - ((i+j) / 2+1)<j - i;omega,⟨rfl,rfl,fun _ _=>MT.get (l:=[(0,_),(1,_),(6,_),(7,_),(8,_)]) ⟨rfl,rfl,rfl,rfl,rfl,trivial⟩⟩⟩
  ·refine AJ (AC Z Z (AD Z Z (AH ?_)));exact ⟨(i,(i+j) / 2),⟨hi,by show m≤(i+j) / 2;exact Nat.le_of_not_lt fun h=>h27 ((hbl hh).2 h),by show (i+j) / 2≤l.length;omega⟩,by show (i+j) / 2 - i<j - i;omega,⟨rfl,rfl,fun _ _=>MT.get (l:=[(0,_),(1,_),(6,_),(7,_),(8,_)]) ⟨rfl,rfl,rfl,rfl,rfl,trivial⟩⟩⟩
 ·refine C6 (AF ?_);have him:i=m:=by have h:=h15;omega
  have hi1:i<l.length:=by omega
  have hgi:l[i]=x:=by rw [←hg];congr 1
  refine AJ (AC Z Z (AC Z Z (AC Z Z ?_)))
  first | refine J (C7 Z Z Z) ?_ | refine J (Ca Z Z Z) ?_
  refine AC Z Z (MS 35 rfl ((decide_eq_true (by omega))) (Ah Z Z Z (AC Z Z (Ah Z Z Z (AC Z Z (Ah Z Z Z ?_))))))
  first | refine J (CY (i) Z Z (rfl) (A2 hi1) Tryz.underlying33 rfl Dh rfl) ?_ | refine J (CZ (i) Z Z (rfl) (A2 hi1) rfl Tryz.underlying33 Dh rfl) ?_
  refine Ah Z Z Z ?_
  first | refine J (A0 Z Z A9 rfl) ?_ | refine J (AY Z Z Z A9 rfl) ?_ | refine J (AZ Z Z (rfl) rfl A9 rfl) ?_
  refine Ah Z Z Z (AC Z Z (Ah Z Z Z ?_))
  first | refine J (EP Z Z Z) ?_ | refine J (EW Z Z Z) ?_ | refine J (EA Z Z Z) ?_ | refine J (EQ Tryz.underlying3 Z Z Z) ?_ | refine J (ET Tryz.underlying3 Z Z Z) ?_ | refine J (ES Tryz.underlying3 Z Z) ?_ | refine J (ER Tryz.underlying3 Z Z Z) ?_ | refine J (EV Tryz.underlying3 Z Z) ?_
  refine Ah Z Z Z ?_;refine AC Z Z (MS 42 rfl ((decide_eq_true hgi)) (Aj Z Z Z Z (Aj Z Z Z Z (Aj Z Z Z Z (Aj Z Z Z Z (Aj Z Z Z Z (Aj Z Z Z Z (UZ Z Z Z ?_))))))));refine UZ Z Z Z (Aj Z Z Z Z (Ah Z Z Z (J (EB Z Z Z Z) (J (EB Z Z Z Z) (AD Z Z (AD Z Z (AH (Af ?_))))))));exact ⟨_,[],[],Ae rfl,rfl,rfl,retBS him,rfl⟩
def smI (p:Prb):List Int:=Cq (G3 p)
theorem GI {p:Prb} (hp:Ak p=0):(G3 p).Perm (p.it.map AT.id):=by
 unfold G3 ordP;rw [if_pos hp];exact (S2 p.it).map _
theorem Jp {p:Prb} (hp:Ak p=0):(smI p).Perm (p.it.map AT.id):=(Zc2 _).trans (GI hp)
theorem Jq {p:Prb} (hp:Ak p=0) (x:Int):x∈smI p↔x∈p.it.map AT.id:=(Jp hp).mem_iff
theorem P8 {p:Prb} (hp:Ak p=0):(smI p).length=p.it.length:=by rw [(Jp hp).length_eq,List.length_map]
theorem Sk {p:Prb} (hp:Ak p=0):(smI p).Pairwise (· < ·):=by
 have hn:(smI p).Nodup:=(Jp hp).nodup_iff.2 (S0 (Ia hp).2.1);have hs:(smI p).Pairwise (· ≤ ·):=Gk _;rw [List.Nodup] at hn;exact (hs.and hn).imp fun {a b} h=>by have h1:=h.1;have h2:=h.2;omega
theorem Pe {p:Prb} (hp:Ak p=0) {i:Int} (hi:i∈p.it.map AT.id) {b:Bkd} (hb:b∈req p i):b.m∈smI p:=by
 rw [Jq hp];unfold req at hb;rcases List.mem_append.1 hb with h | h
 ·unfold Pf at h;obtain ⟨x,hx,rfl⟩:=List.mem_map.1 h;have hx':=(Zc2 _).mem_iff.1 hx;obtain ⟨hk,_,he,_⟩:=Yz hi;rw [he] at hx';have hf:=Hi (Ia hp).2.2 _ (List.mem_map.2 ⟨_,List.getElem_mem hk,rfl⟩);unfold QI at hf
  split at hf
  ·cases hf
  ·rename_i hn
   show x∈_;have hn2:¬Ha (p.it.map AT.id) x=true:=fun h=>hn (List.any_eq_true.2 ⟨x,hx',h⟩)
   simpa [Ha] using hn2
 ·obtain ⟨y,hy,h⟩:=List.mem_flatMap.1 h;unfold Ee at h;obtain ⟨z,hz,rfl⟩:=List.mem_map.1 h;have hz':z∈y.q:=List.mem_of_mem_take hz;unfold linL at hy;obtain ⟨r,_,rfl⟩:=List.mem_map.1 hy;have hz2:z∈qIds (ordP p) r.r:=hz';unfold qIds at hz2;obtain ⟨o,ho,rfl⟩:=List.mem_map.1 hz2;exact (GI hp).mem_iff.1 (List.mem_map.2 ⟨o,(List.mem_filter.1 ho).1,rfl⟩)
def Hw (ids:List Int) (l:List Bkd):Nat:=l.foldl (fun a b=>a ||| 1<<<ids.idxOf b.m) 0
theorem WO (ids:List Int) {l:List Bkd} {k:Nat} (hk:k<l.length):Hw ids (l.take (k+1))=Hw ids (l.take k) ||| 1<<<ids.idxOf l[k].m:=by
 unfold Hw;rw [List.take_succ_eq_append_getElem hk,List.foldl_append];rfl
theorem QP {ids:List Int} (hn:ids.length≤31) (l:List Bkd):Hw ids l<4294967296:=by
 have key:∀(l:List Bkd) (a:Nat),a<4294967296 ->l.foldl (fun a b=>a ||| 1<<<ids.idxOf b.m) a<4294967296:=by
  intro l
  induction l with
  | nil=>intro a h;exact h
  | cons b l ih=>
   intro a h;rw [List.foldl_cons];exact ih _ (Xb h (Ke (by have:ids.idxOf b.m≤ids.length:=List.idxOf_le_length;omega)))
 exact key l 0 (by omega)
def K5 (p:Prb) (i:Int):Nat:=Hw (smI p) (req p i)
def N8 (p:Prb) (x:Lin) (i:Int):Int:=CM (Ar p i) x.r
def Ki (p:Prb) (x:Lin):List Int:=(smI p).map (N8 p x)
def smlOf (p:Prb):Sma:=⟨smI p,(smI p).map (K5 p),(linL p).map (Ki p),(linL p).map Lin.n⟩
theorem Yl (l:List Bkd):Dc (inM []) l=l:=List.filter_eq_self.2 fun _ _=>rfl
abbrev lineC (x:Lin):List AV:=[.d (AG x.r.k),.d (As x.r.acc.o),.d (AG x.r.acc.k),.d (As x.r.acc.a),.d (As x.r.f),.d (As x.r.t),.d (AG x.n),.d (.sl none (x.q.map AG))]
set_option maxHeartbeats 2000000 in
theorem XS (p:Prb) (hp:Ak p=0) (hb:Cz p) (h1:p.it.length≤20) (h2:p.ro.length≤1000):A8 Tryz.prog 59 [.ptr 10 0 0] (HA p) fun r H'=>r= .d (.ptr (Lr (smlOf p)))∧H'=HA p:=by
 have hLl:=FO p;have hIl:=P8 hp;have hOl:(G3 p).length=p.it.length:=by rw [(GI hp).length_eq,List.length_map]
 have hbk:∀mv i,A8 Tryz.prog 120 [.ptr 10 0 0,Nx mv,.d (AG i)] (HA p++ [(21,[.map (some ([],0)) []]),(31,[.addr 21 0 (.map (some mv))])]) fun r H'=>r= .d (.sl none ((req p i).map Ng))∧H'=HA p++ [(21,[.map (some ([],0)) []]),(31,[.addr 21 0 (.map (some mv))])]:=fun mv i=>by
  have h:=(Nc p mv (some ([],0)) [] i hb (by omega) h2).by [(12,21),(13,31)] rfl;rw [Yl] at h;exact h
 have hso:=VL (G3 p) (by omega);rw [show Cq (G3 p)=smI p from rfl] at hso;refine BY Tryz.func59 Z Z Tryz.ntmps59 Z Z Z fun F hF=>(AF (AJ (AD Z Z (AH (AF (AJ (AC Z Z ?_)))))))
 first | refine J (Bc Z Z) ?_ | refine J (Ba Z Z) ?_ | refine J (Bd Z Z) ?_ | refine J (Bb Z Z) ?_
 first | refine J (AO rfl EI Z Z Z) ?_ | refine J (AQ rfl EI Z Z Z) ?_ | refine J (AR rfl EI Z Z Z) ?_ | refine J (AP rfl EI Z Z Z) ?_ | refine J (AN rfl EI Z Z Z) ?_
 first | refine J (A0 Z Z Aq rfl) ?_ | refine J (AY Z Z Z Aq rfl) ?_ | refine J (AZ Z Z (rfl) rfl Aq rfl) ?_
 refine U (HQ (VB (G3 p)) rfl [] trivial Z Z Z Z Z Z Z Z Z) (J (BF (hso) Z Z) (J (Cu zl146 pl146 Z Z Z) (U (CJ 20 Z Z Z Z Z Z Z) ?_)));refine AD Z Z (AH (AF (AF (Yx 20 0 1 901 UG Z Z Z Z Z Z Z (Yx 20 0 2 902 UF Z Z Z Z Z Z Z (Yx 20 0 3 903 LY Z Z Z Z Z Z Z (AJ (AC Z Z ?_))))))))
 first | refine J (Bc Z Z) ?_ | refine J (Ba Z Z) ?_ | refine J (Bd Z Z) ?_ | refine J (Bb Z Z) ?_
 first | refine J (AO rfl J9 Z Z Z) ?_ | refine J (AQ rfl J9 Z Z Z) ?_ | refine J (AR rfl J9 Z Z Z) ?_ | refine J (AP rfl J9 Z Z Z) ?_ | refine J (AN rfl J9 Z Z Z) ?_
 first | refine J (A0 Z Z Aq rfl) ?_ | refine J (AY Z Z Z Aq rfl) ?_ | refine J (AZ Z Z (rfl) rfl Aq rfl) ?_
 first | refine J (Cc rfl Tryz.underlying33 rfl) ?_ | refine J (C8 Z Z Tryz.underlying33 rfl) ?_ | refine J (Cd rfl Tryz.underlying33 rfl) ?_ | refine J (Cb rfl Tryz.underlying33 rfl) ?_ | refine J (CW rfl Tryz.underlying33 rfl) ?_ | refine J (C9 rfl Tryz.underlying33 rfl) ?_
 refine AC Z Z (AH (Au (De (α:=Nat×List Nat) (fun q=>⟨122,[(0,.ptr 10 0 0),(3,(.ptr 20 0 0)),(27,(.d (.sl none ((smI p).map AG)))),(28,(.d (AG ((smI p).length:Int)))),(29,(.d (AG (q.1:Int))))],HA p++ [(20,[.blk 146 [.d (.sl none ((smI p).map AG)),.own 901 0 q.2.length,.own 902 0 0,.own 903 0 0]]),(901,[.rowD 79 1 (q.2.map Gh)]),(902,[.rowD 144 1 []]),(903,[.rowD 2 1 []])]⟩) (fun q=>q.1≤(smI p).length∧q.2=((smI p).take q.1).map (K5 p)) (fun q=>(smI p).length - q.1) ((0,[])) (⟨Nat.zero_le _,rfl⟩) (BP hF [10,11,20,901,902,903] Z Z ⟨rfl,rfl,rfl,rfl,rfl,trivial⟩) ?_)));rintro ⟨k,BL⟩ ⟨hk0,hA⟩;dsimp only at hk0 hA⊢;refine AF (AJ ?_)
 first | refine J (C7 Z Z Z) ?_ | refine J (Ca Z Z Z) ?_
 refine AH (AF ?_)
 first | refine BJ rfl (fun h30=>?_) (fun h30=>?_) | refine BB rfl (fun h30=>?_) (fun h30=>?_)
 ·have hk1:k<(smI p).length:=DZ h30;refine Am (AF (Au (AF (AJ ?_))))
  first | refine J (CY (k) Z Z (rfl) (A2 hk1) Tryz.underlying33 rfl Dh rfl) ?_ | refine J (CZ (k) Z Z (rfl) (A2 hk1) rfl Tryz.underlying33 Dh rfl) ?_
  first | refine J (A0 Z Z A9 rfl) ?_ | refine J (AY Z Z Z A9 rfl) ?_ | refine J (AZ Z Z (rfl) rfl A9 rfl) ?_
  refine AD Z Z (AH (AF (AJ (AD Z Z (AH ?_)))));refine AF (AF (AJ (AC Z Z (U (S3 21 Z Z Z Z) (RQ 31 21 0 Z Z Z Z Z fun mv=>(UY 34 31 0 (.inl rfl) rfl (AC Z Z (U (HQ (hbk mv (smI p)[k]) rfl [10,11,21,31] ⟨rfl,rfl,rfl,rfl,trivial⟩ Z Z Z Z Z Z Z Z Z) ?_))))))))
  first | refine J (Cc rfl Tryz.underlying225 rfl) ?_ | refine J (C8 Z Z Tryz.underlying225 rfl) ?_ | refine J (Cd rfl Tryz.underlying225 rfl) ?_ | refine J (Cb rfl Tryz.underlying225 rfl) ?_ | refine J (CW rfl Tryz.underlying225 rfl) ?_ | refine J (C9 rfl Tryz.underlying225 rfl) ?_
  refine AC Z Z (AH (Au (De (α:=Nat×Nat) (fun q=>⟨122,[(0,.ptr 10 0 0),(3,(.ptr 20 0 0)),(6,(.d (Gh q.2))),(27,(.d (.sl none ((smI p).map AG)))),(28,(.d (AG ((smI p).length:Int)))),(29,(.d (AG (k:Int)))),(36,(.d (.sl none ((req p (smI p)[k]).map Ng)))),(37,(.d (AG ((req p (smI p)[k]).length:Int)))),(38,(.d (AG (q.1:Int))))],HA p++ [(20,[.blk 146 [.d (.sl none ((smI p).map AG)),.own 901 0 BL.length,.own 902 0 0,.own 903 0 0]]),(901,[.rowD 79 1 (BL.map Gh)]),(902,[.rowD 144 1 []]),(903,[.rowD 2 1 []])]⟩) (fun q=>q.1≤(req p (smI p)[k]).length∧q.2=Hw (smI p) ((req p (smI p)[k]).take q.1)) (fun q=>(req p (smI p)[k]).length - q.1) ((0,0)) (⟨Nat.zero_le _,rfl⟩) (BP hF [10,11,20,901,902,903] Z Z ⟨rfl,rfl,rfl,rfl,rfl,rfl,rfl,rfl,rfl,trivial⟩) ?_)));rintro ⟨m,bits⟩ ⟨hm0,hB⟩;dsimp only at hm0 hB⊢;refine AF ?_;have hrl:=MG hb (by omega:p.it.length≤1000) h2 (smI p)[k];have hri:∀b∈req p (smI p)[k],b.m∈smI p:=fun b hb=>Pe hp ((Jq hp _).1 (List.getElem_mem hk1)) hb;have hblo:K5 p (smI p)[k]=Hw (smI p) (req p (smI p)[k]):=rfl;refine AJ ?_
  first | refine J (C7 Z Z Z) ?_ | refine J (Ca Z Z Z) ?_
  refine AH (AF ?_)
  first | refine BJ rfl (fun h39=>?_) (fun h39=>?_) | refine BB rfl (fun h39=>?_) (fun h39=>?_)
  ·have hm1:m<(req p (smI p)[k]).length:=DZ h39;refine Am (AF (Au (AF (AJ ?_))))
   first | refine J (CY (m) Z Z (rfl) (A2 hm1) Tryz.underlying225 rfl Wh rfl) ?_ | refine J (CZ (m) Z Z (rfl) (A2 hm1) rfl Tryz.underlying225 Wh rfl) ?_
   first | refine J (An Z Z XF rfl) ?_ | refine J (Ao Z Z XF Z Z Z) ?_ | refine J (Ap Z Z (rfl) rfl XF rfl) ?_
   refine U (Cm 22 W4 Z Z Z Z) (U (Bj Z Z Z Z Z Z Z Wh) (AH (AF (G8 [[],[0],[0,1],[0,1,2],[],[4],[0,1,2,3,4,5],[0,1,2,3,4,5,6],[0,1,2,3,4,5,6,7],[0,1,2,3,4,5,6,7],[0,1,2,3,4,5,6,7,8],[0,1,2,3,4,5,6,7,8,9,10]] BC rfl (Hq ?_)))))
   first | refine AE [3] [] Z Z (fun _=>AB (B7 Z Z)) ?_ | refine AI [3] Z Z (fun _=>AB (B7 Z Z)) ?_
   first | refine AE [43] [] Z Z (fun _=>AB (Bc Z Z)) ?_ | refine AI [43] Z Z (fun _=>AB (Bc Z Z)) ?_ | refine AE [43] [] Z Z (fun _=>AB (Ba Z Z)) ?_ | refine AI [43] Z Z (fun _=>AB (Ba Z Z)) ?_ | refine AE [43] [] Z Z (fun _=>AB (Bd Z Z)) ?_ | refine AI [43] Z Z (fun _=>AB (Bd Z Z)) ?_ | refine AE [43] [] Z Z (fun _=>AB (Bb Z Z)) ?_ | refine AI [43] Z Z (fun _=>AB (Bb Z Z)) ?_
   first | refine AE [44] [] Z Z (fun _=>AB (AO rfl J9 Z Z Z)) ?_ | refine AI [44] Z Z (fun _=>AB (AO rfl J9 Z Z Z)) ?_ | refine AE [44] [] Z Z (fun _=>AB (AQ rfl J9 Z Z Z)) ?_ | refine AI [44] Z Z (fun _=>AB (AQ rfl J9 Z Z Z)) ?_ | refine AE [44] [] Z Z (fun _=>AB (AR rfl J9 Z Z Z)) ?_ | refine AI [44] Z Z (fun _=>AB (AR rfl J9 Z Z Z)) ?_ | refine AE [44] [] Z Z (fun _=>AB (AP rfl J9 Z Z Z)) ?_ | refine AI [44] Z Z (fun _=>AB (AP rfl J9 Z Z Z)) ?_ | refine AE [44] [] Z Z (fun _=>AB (AN rfl J9 Z Z Z)) ?_ | refine AI [44] Z Z (fun _=>AB (AN rfl J9 Z Z Z)) ?_
   first | refine AE [45] [20] Z Z (fun _=>AB (A0 Z Z Aq rfl)) ?_ | refine AE [45] [20] Z Z (fun _=>AB (AY Z Z Z Aq rfl)) ?_ | refine AE [45] [20] Z Z (fun _=>AB (AZ Z Z (rfl) rfl Aq rfl)) ?_
   first | refine AE [8] [] Z Z (fun _=>AB (AO rfl EG Z Z Z)) ?_ | refine AI [8] Z Z (fun _=>AB (AO rfl EG Z Z Z)) ?_ | refine AE [8] [] Z Z (fun _=>AB (AQ rfl EG Z Z Z)) ?_ | refine AI [8] Z Z (fun _=>AB (AQ rfl EG Z Z Z)) ?_ | refine AE [8] [] Z Z (fun _=>AB (AR rfl EG Z Z Z)) ?_ | refine AI [8] Z Z (fun _=>AB (AR rfl EG Z Z Z)) ?_ | refine AE [8] [] Z Z (fun _=>AB (AP rfl EG Z Z Z)) ?_ | refine AI [8] Z Z (fun _=>AB (AP rfl EG Z Z Z)) ?_ | refine AE [8] [] Z Z (fun _=>AB (AN rfl EG Z Z Z)) ?_ | refine AI [8] Z Z (fun _=>AB (AN rfl EG Z Z Z)) ?_
   first | refine AE [47] [22] Z Z (fun _=>AB (A0 Z Z A9 rfl)) ?_ | refine AE [47] [22] Z Z (fun _=>AB (AY Z Z Z A9 rfl)) ?_ | refine AE [47] [22] Z Z (fun _=>AB (AZ Z Z (rfl) rfl A9 rfl)) ?_
   refine GZ 6 Z Z Z (BD 7 Z Z (J (BF (WK (smI p) (req p (smI p)[k])[m].m (Sk hp) (hri _ (List.getElem_mem hm1)) (by omega)) Z Z) (AH ⟨rfl,?_⟩)));refine BD 8 Z Z (AC Z Z (AH ⟨rfl,?_⟩));refine Hq ?_
   first | refine AE [42] [] Z Z (fun _=>AB (BT Z Z Z)) ?_ | refine AI [42] Z Z (fun _=>AB (BT Z Z Z)) ?_ | refine AE [42] [] Z Z (fun _=>AB (BS Z Z Z)) ?_ | refine AI [42] Z Z (fun _=>AB (BS Z Z Z)) ?_
   first | refine AE [42] [] Z Z (fun _=>AB (BT Z Z Z)) ?_ | refine AI [42] Z Z (fun _=>AB (BT Z Z Z)) ?_ | refine AE [42] [] Z Z (fun _=>AB (BS Z Z Z)) ?_ | refine AI [42] Z Z (fun _=>AB (BS Z Z Z)) ?_
   first | refine AE [50] [] Z Z (fun _=>AB (GA Z Z)) ?_ | refine AI [50] Z Z (fun _=>AB (GA Z Z)) ?_
   refine GZ 11 Z Z Z (BD 12 Z Z (AD Z Z (AH ⟨rfl,?_⟩)));refine GY (AJ (AC Z Z (AC Z Z ?_)));have hix:=List.idxOf_lt_length_of_mem (hri _ (List.getElem_mem hm1));refine J (Sd Z Z (by omega) (XA (by omega)) rfl) (J (IK Z Z Z (orU (by rw [hB];exact QP (by omega) _) (Ke (by omega))) rfl) (AD Z Z (AH (AJ (J (Bi Z Z (A6 (m+1) (by omega)) rfl) (AC Z Z (AH ?_)))))));exact ⟨(m+1,bits ||| 1<<<(smI p).idxOf (req p (smI p)[k])[m].m),⟨by show m+1≤_;omega,by show bits ||| 1<<<(smI p).idxOf (req p (smI p)[k])[m].m=Hw (smI p) ((req p (smI p)[k]).take (m+1));rw [WO (smI p) hm1,hB]⟩,by show (req p (smI p)[k]).length - (m+1)<(req p (smI p)[k]).length - m;omega,BP hF [10,11,20,901,902,903] rfl (rfl) ⟨rfl,rfl,rfl,rfl,rfl,rfl,rfl,rfl,rfl,trivial⟩⟩
  ·have hfin:bits=K5 p (smI p)[k]:=by rw [hblo,hB,List.take_of_length_le (by have h:=h39;omega)]
   refine C6 (AJ (AC Z Z (AC Z Z ?_)))
   first | refine J (Bc Z Z) ?_ | refine J (Ba Z Z) ?_ | refine J (Bd Z Z) ?_ | refine J (Bb Z Z) ?_
   first | refine J (AO rfl Tg Z Z Z) ?_ | refine J (AQ rfl Tg Z Z Z) ?_ | refine J (AR rfl Tg Z Z Z) ?_ | refine J (AP rfl Tg Z Z Z) ?_ | refine J (AN rfl Tg Z Z Z) ?_
   have hBl:BL.length≤20:=by rw [hA,List.length_map,List.length_take];omega
   first | refine J (A0 Z Z Ob rfl) ?_ | refine J (AY Z Z Z Ob rfl) ?_ | refine J (AZ Z Z (rfl) rfl Ob rfl) ?_
   refine AC Z Z (U (Fg 40 UG Z Z Z Z Z Z Z Z) ?_)
   first | refine U (Ib (BL) ([bits]) Z Z Z Z Z Z Z Z UG (by simp only [List.length_singleton];omega) Z Z Z Z) ?_ | refine U (Ka (BL) ([bits]) Z Z Z Z Z Z (fun _=>rfl) UG (by simp only [List.length_singleton];omega) Z Z Z Z) ?_
   first | refine J (Bc Z Z) ?_ | refine J (Ba Z Z) ?_ | refine J (Bd Z Z) ?_ | refine J (Bb Z Z) ?_
   first | refine J (AO rfl Tg Z Z Z) ?_ | refine J (AQ rfl Tg Z Z Z) ?_ | refine J (AR rfl Tg Z Z Z) ?_ | refine J (AP rfl Tg Z Z Z) ?_ | refine J (AN rfl Tg Z Z Z) ?_
   refine U (Bj Z Z Z Z Z Z Z sz142) (AH (AJ (J (Bi Z Z (A6 (k+1) (by omega)) rfl) (AC Z Z (AH ?_)))));exact ⟨(k+1,BL++ [bits]),⟨by show k+1≤_;omega,by show BL++ [bits]=((smI p).take (k+1)).map (K5 p);rw [CU hk1,hA,hfin]⟩,by show (smI p).length - (k+1)<(smI p).length - k;omega,BP hF [10,11,20,901,902,903] rfl (rfl) ⟨rfl,rfl,rfl,rfl,rfl,trivial⟩⟩
 ·refine C6 (AF (AF ?_));have hBL:BL=(smI p).map (K5 p):=by rw [hA,List.take_of_length_le (by have h:=h30;omega)]
  refine WU (ys:=BL.map Gh) 20 0 1 901 Z Z Z (Nat.le_of_eq (by simp)) (List.take_of_length_le (by simp)) Z Z Z Z Z Z (AJ (AC Z Z ?_))
  first | refine J (Bc Z Z) ?_ | refine J (Ba Z Z) ?_ | refine J (Bd Z Z) ?_ | refine J (Bb Z Z) ?_
  first | refine J (AO rfl IB Z Z Z) ?_ | refine J (AQ rfl IB Z Z Z) ?_ | refine J (AR rfl IB Z Z Z) ?_ | refine J (AP rfl IB Z Z Z) ?_ | refine J (AN rfl IB Z Z Z) ?_
  first | refine J (A0 Z Z FL rfl) ?_ | refine J (AY Z Z Z FL rfl) ?_ | refine J (AZ Z Z (rfl) rfl FL rfl) ?_
  first | refine J (Cc rfl Tryz.underlying213 rfl) ?_ | refine J (C8 Z Z Tryz.underlying213 rfl) ?_ | refine J (Cd rfl Tryz.underlying213 rfl) ?_ | refine J (Cb rfl Tryz.underlying213 rfl) ?_ | refine J (CW rfl Tryz.underlying213 rfl) ?_ | refine J (C9 rfl Tryz.underlying213 rfl) ?_
  refine AC Z Z (AH (Au (De (α:=Nat×List (List Int)×List Int) (fun q=>⟨122,[(0,.ptr 10 0 0),(3,(.ptr 20 0 0)),(71,(.d (.sl none ((linL p).map LB)))),(72,(.d (AG ((linL p).length:Int)))),(73,(.d (AG (q.1:Int))))],HA p++ [(20,[.blk 146 [.d (.sl none ((smI p).map AG)),.d (.sl none (BL.map Gh)),.own 902 0 q.2.1.length,.own 903 0 q.2.2.length]]),(902,[.rowD 144 1 (q.2.1.map rowZ)]),(903,[.rowD 2 1 (q.2.2.map AG)])]⟩) (fun q=>q.1≤(linL p).length∧q.2.1=((linL p).take q.1).map (Ki p)∧q.2.2=((linL p).take q.1).map Lin.n) (fun q=>(linL p).length - q.1) ((0,[],[])) (⟨Nat.zero_le _,rfl,rfl⟩) (BP hF [10,11,20,902,903] Z Z ⟨rfl,rfl,rfl,rfl,rfl,trivial⟩) ?_)));rintro ⟨n,DL,RL⟩ ⟨hn0,hD,hR⟩;dsimp only at hn0 hD hR⊢;refine AF (AJ ?_)
  first | refine J (C7 Z Z Z) ?_ | refine J (Ca Z Z Z) ?_
  refine AH (AF ?_)
  first | refine BJ rfl (fun h74=>?_) (fun h74=>?_) | refine BB rfl (fun h74=>?_) (fun h74=>?_)
  ·have hn1:n<(linL p).length:=DZ h74;refine Am (AF (Au (AF (AJ ?_))))
   first | refine J (CY (n) Z Z (rfl) (A2 hn1) Tryz.underlying213 rfl Jg rfl) ?_ | refine J (CZ (n) Z Z (rfl) (A2 hn1) rfl Tryz.underlying213 Jg rfl) ?_
   first | refine J (An Z Z Js rfl) ?_ | refine J (Ao Z Z Js Z Z Z) ?_ | refine J (Ap Z Z (rfl) rfl Js rfl) ?_
   refine U (Cm 24 Q6 Z Z Z Z) (U (Bj Z Z Z Z Z Z Z Jg) (AH ?_));refine AF (AJ (AD Z Z (AH (AF (AF (EO 13 905 LY Z Z Z Z (AJ (AC Z Z ?_))))))))
   first | refine J (Bc Z Z) ?_ | refine J (Ba Z Z) ?_ | refine J (Bd Z Z) ?_ | refine J (Bb Z Z) ?_
   first | refine J (AO rfl J9 Z Z Z) ?_ | refine J (AQ rfl J9 Z Z Z) ?_ | refine J (AR rfl J9 Z Z Z) ?_ | refine J (AP rfl J9 Z Z Z) ?_ | refine J (AN rfl J9 Z Z Z) ?_
   first | refine J (A0 Z Z Aq rfl) ?_ | refine J (AY Z Z Z Aq rfl) ?_ | refine J (AZ Z Z (rfl) rfl Aq rfl) ?_
   first | refine J (Cc rfl Tryz.underlying33 rfl) ?_ | refine J (C8 Z Z Tryz.underlying33 rfl) ?_ | refine J (Cd rfl Tryz.underlying33 rfl) ?_ | refine J (Cb rfl Tryz.underlying33 rfl) ?_ | refine J (CW rfl Tryz.underlying33 rfl) ?_ | refine J (C9 rfl Tryz.underlying33 rfl) ?_
   refine AC Z Z (AH (Au (De (α:=Nat×List Int) (fun q=>⟨122,[(0,.ptr 10 0 0),(3,(.ptr 20 0 0)),(12,(.ptr 24 0 0)),(13,(.own 905 0 q.2.length)),(71,(.d (.sl none ((linL p).map LB)))),(72,(.d (AG ((linL p).length:Int)))),(73,(.d (AG (n:Int)))),(80,(.d (.sl none ((smI p).map AG)))),(81,(.d (AG ((smI p).length:Int)))),(82,(.d (AG (q.1:Int))))],HA p++ [(20,[.blk 146 [.d (.sl none ((smI p).map AG)),.d (.sl none (BL.map Gh)),.own 902 0 DL.length,.own 903 0 RL.length]]),(902,[.rowD 144 1 (DL.map rowZ)]),(903,[.rowD 2 1 (RL.map AG)]),(905,[.rowD 2 1 (q.2.map AG)]),(24,[.blk 218 (lineC (linL p)[n])])]⟩) (fun q=>q.1≤(smI p).length∧q.2=((smI p).take q.1).map (N8 p (linL p)[n])) (fun q=>(smI p).length - q.1) ((0,[])) (⟨Nat.zero_le _,rfl⟩) (BP hF [10,11,20,902,903,905,24] Z Z ⟨rfl,rfl,rfl,rfl,rfl,rfl,rfl,rfl,rfl,rfl,trivial⟩) ?_)));rintro ⟨j,acc⟩ ⟨hj0,hC⟩;dsimp only at hj0 hC⊢;refine AF (AJ ?_)
   first | refine J (C7 Z Z Z) ?_ | refine J (Ca Z Z Z) ?_
   refine AH (AF ?_)
   first | refine BJ rfl (fun h83=>?_) (fun h83=>?_) | refine BB rfl (fun h83=>?_) (fun h83=>?_)
   ·have hj1:j<(smI p).length:=DZ h83;refine Am (AF (Au (AF (AJ ?_))))
    first | refine J (CY (j) Z Z (rfl) (A2 hj1) Tryz.underlying33 rfl Dh rfl) ?_ | refine J (CZ (j) Z Z (rfl) (A2 hj1) rfl Tryz.underlying33 Dh rfl) ?_
    first | refine J (A0 Z Z A9 rfl) ?_ | refine J (AY Z Z Z A9 rfl) ?_ | refine J (AZ Z Z (rfl) rfl A9 rfl) ?_
    refine AD Z Z (AH (G8 [[],[],[1],[1,2],[1,2,3],[],[1,2,3,4,5],[],[7],[1,2,3,4,5,6,7,8],[1,2,3,4,5,6,7,8,9],[0,1,2,3,4,5,6,7,8,9,10],[0,1,2,3,4,5,6,7,8,9,10,11]] BC rfl (Hq ?_)));have hcl:acc.length≤20:=by rw [hC,List.length_map,List.length_take];omega
    have hib:=MK hb (smI p)[j]
    first | refine AE [13] [] Z Z (fun _=>AB (B7 Z Z)) ?_ | refine AI [13] Z Z (fun _=>AB (B7 Z Z)) ?_
    first | refine AE [0] [] Z Z (fun _=>AB (B7 Z Z)) ?_ | refine AI [0] Z Z (fun _=>AB (B7 Z Z)) ?_
    first | refine AE [87] [] Z Z (fun _=>AB (Bc Z Z)) ?_ | refine AI [87] Z Z (fun _=>AB (Bc Z Z)) ?_ | refine AE [87] [] Z Z (fun _=>AB (Ba Z Z)) ?_ | refine AI [87] Z Z (fun _=>AB (Ba Z Z)) ?_ | refine AE [87] [] Z Z (fun _=>AB (Bd Z Z)) ?_ | refine AI [87] Z Z (fun _=>AB (Bd Z Z)) ?_ | refine AE [87] [] Z Z (fun _=>AB (Bb Z Z)) ?_ | refine AI [87] Z Z (fun _=>AB (Bb Z Z)) ?_
    first | refine AE [88] [] Z Z (fun _=>AB (AO rfl F1 Z Z Z)) ?_ | refine AI [88] Z Z (fun _=>AB (AO rfl F1 Z Z Z)) ?_ | refine AE [88] [] Z Z (fun _=>AB (AQ rfl F1 Z Z Z)) ?_ | refine AI [88] Z Z (fun _=>AB (AQ rfl F1 Z Z Z)) ?_ | refine AE [88] [] Z Z (fun _=>AB (AR rfl F1 Z Z Z)) ?_ | refine AI [88] Z Z (fun _=>AB (AR rfl F1 Z Z Z)) ?_ | refine AE [88] [] Z Z (fun _=>AB (AP rfl F1 Z Z Z)) ?_ | refine AI [88] Z Z (fun _=>AB (AP rfl F1 Z Z Z)) ?_ | refine AE [88] [] Z Z (fun _=>AB (AN rfl F1 Z Z Z)) ?_ | refine AI [88] Z Z (fun _=>AB (AN rfl F1 Z Z Z)) ?_
    first | refine AE [89] [10] Z Z (fun _=>AB (A0 Z Z C5 rfl)) ?_ | refine AE [89] [10] Z Z (fun _=>AB (AY Z Z Z C5 rfl)) ?_ | refine AE [89] [10] Z Z (fun _=>AB (AZ Z Z (rfl) rfl C5 rfl)) ?_
    first | refine AE [15] [] Z Z (fun _=>AB (B7 Z Z)) ?_ | refine AI [15] Z Z (fun _=>AB (B7 Z Z)) ?_
    refine AE [90,91] [11] Z Z (fun _=>AB (Jl (CD p.it) (smI p)[j] itm0 (Ar p (smI p)[j]) Z Z Z L5 GO Ux Dr (IT p (smI p)[j]) rfl)) ?_
    first | refine AE [12] [] Z Z (fun _=>AB (AO rfl Ge Z Z Z)) ?_ | refine AI [12] Z Z (fun _=>AB (AO rfl Ge Z Z Z)) ?_ | refine AE [12] [] Z Z (fun _=>AB (AQ rfl Ge Z Z Z)) ?_ | refine AI [12] Z Z (fun _=>AB (AQ rfl Ge Z Z Z)) ?_ | refine AE [12] [] Z Z (fun _=>AB (AR rfl Ge Z Z Z)) ?_ | refine AI [12] Z Z (fun _=>AB (AR rfl Ge Z Z Z)) ?_ | refine AE [12] [] Z Z (fun _=>AB (AP rfl Ge Z Z Z)) ?_ | refine AI [12] Z Z (fun _=>AB (AP rfl Ge Z Z Z)) ?_ | refine AE [12] [] Z Z (fun _=>AB (AN rfl Ge Z Z Z)) ?_ | refine AI [12] Z Z (fun _=>AB (AN rfl Ge Z Z Z)) ?_
    first | refine AE [93] [24] Z Z (fun _=>AB (An Z Z Ab rfl)) ?_ | refine AE [93] [24] Z Z (fun _=>AB (Ao Z Z Ab Z Z Z)) ?_ | refine AE [93] [24] Z Z (fun _=>AB (Ap Z Z (rfl) rfl Ab rfl)) ?_
    first | refine AE [92,94] [] Z Z (fun _=>AB (BF (KY (Ar p (smI p)[j]) (linL p)[n].r (by omega) (by omega) (by omega)) Z Z)) ?_ | refine AI [92,94] Z Z (fun _=>AB (BF (KY (Ar p (smI p)[j]) (linL p)[n].r (by omega) (by omega) (by omega)) Z Z)) ?_
    refine Fw [95] [41] [(96,_)] Z Z (fun _=>Fx (Fg 41 LY Z Z Z Z Z Z Z Z)) (.inr ⟨96,_,rfl,rfl,rfl,rfl,rfl⟩) Z Z Z Z Z (GZ 11 Z Z Z (BD 12 Z Z ?_))
    first | refine U (Ib (acc) ([N8 p (linL p)[n] (smI p)[j]]) Z Z Z Z Z Z Z Z LY (by simp only [List.length_singleton];omega) Z Z Z Z) ?_ | refine U (Ka (acc) ([N8 p (linL p)[n] (smI p)[j]]) Z Z Z Z Z Z (fun _=>rfl) LY (by simp only [List.length_singleton];omega) Z Z Z Z) ?_
    refine AH ⟨rfl,?_⟩;refine BD 13 Z Z (AD Z Z (AH ⟨rfl,?_⟩));refine GY (AJ (J (Bi Z Z (A6 (j+1) (by omega)) rfl) (AC Z Z (AH ?_))));exact ⟨(j+1,acc++ [N8 p (linL p)[n] (smI p)[j]]),⟨by show j+1≤_;omega,by show acc++ [N8 p (linL p)[n] (smI p)[j]]=((smI p).take (j+1)).map (N8 p (linL p)[n]);rw [CU hj1,hC]⟩,by show (smI p).length - (j+1)<(smI p).length - j;omega,BP hF [10,11,20,902,903,905,24] rfl (rfl) ⟨rfl,rfl,rfl,rfl,rfl,rfl,rfl,rfl,rfl,rfl,trivial⟩⟩
   ·have hfa:acc=Ki p (linL p)[n]:=by rw [hC,List.take_of_length_le (by have h:=h83;omega)];rfl
    refine C6 ?_;have hDl:DL.length≤1000:=by rw [hD,List.length_map,List.length_take];omega
    have hRl:RL.length≤1000:=by rw [hR,List.length_map,List.length_take];omega
    refine WV (emb:=AG) 13 905 acc Z Z Z Z Z Z Z (ST 950 902 0 Z Z Z Z Z fun a1 c1=>(ST 951 903 0 Z Z Z Z Z fun a2 c2=>(Yv 950 0 20 0 2 Z Z Z Z Z (Yv 951 0 20 0 3 Z Z Z Z Z (G8 [[],[],[],[2],[2,3],[2,3,4],[],[6],[2,3,4,5,6,7],[],[9],[9,10],[9,10,11],[],[13],[13,14],[2,3,4,5,6,7,8,9,10,11,12,13,14,15],[0,2,3,4,5,6,7,8,9,10,11,12,13,14,15,16],[0,2,3,4,5,6,7,8,9,10,11,12,13,14,15,16,17],[0,2,3,4,5,6,7,8,9,10,11,12,13,14,15,16,17,18],[0,1,2,3,4,5,6,7,8,9,10,11,12,13,14,15,16,17,18,19],[0,1,2,3,4,5,6,7,8,9,10,11,12,13,14,15,16,17,18,19,20],[0,1,2,3,4,5,6,7,8,9,10,11,12,13,14,15,16,17,18,19,20,21]] BC rfl (Hq ?_))))))
    first | refine AE [3] [] Z Z (fun _=>AB (B7 Z Z)) ?_ | refine AI [3] Z Z (fun _=>AB (B7 Z Z)) ?_
    first | refine AE [3] [] Z Z (fun _=>AB (B7 Z Z)) ?_ | refine AI [3] Z Z (fun _=>AB (B7 Z Z)) ?_
    first | refine AE [3] [] Z Z (fun _=>AB (B7 Z Z)) ?_ | refine AI [3] Z Z (fun _=>AB (B7 Z Z)) ?_
    first | refine AE [101] [] Z Z (fun _=>AB (Bc Z Z)) ?_ | refine AI [101] Z Z (fun _=>AB (Bc Z Z)) ?_ | refine AE [101] [] Z Z (fun _=>AB (Ba Z Z)) ?_ | refine AI [101] Z Z (fun _=>AB (Ba Z Z)) ?_ | refine AE [101] [] Z Z (fun _=>AB (Bd Z Z)) ?_ | refine AI [101] Z Z (fun _=>AB (Bd Z Z)) ?_ | refine AE [101] [] Z Z (fun _=>AB (Bb Z Z)) ?_ | refine AI [101] Z Z (fun _=>AB (Bb Z Z)) ?_
    first | refine AE [102] [] Z Z (fun _=>AB (AO rfl MC Z Z Z)) ?_ | refine AI [102] Z Z (fun _=>AB (AO rfl MC Z Z Z)) ?_ | refine AE [102] [] Z Z (fun _=>AB (AQ rfl MC Z Z Z)) ?_ | refine AI [102] Z Z (fun _=>AB (AQ rfl MC Z Z Z)) ?_ | refine AE [102] [] Z Z (fun _=>AB (AR rfl MC Z Z Z)) ?_ | refine AI [102] Z Z (fun _=>AB (AR rfl MC Z Z Z)) ?_ | refine AE [102] [] Z Z (fun _=>AB (AP rfl MC Z Z Z)) ?_ | refine AI [102] Z Z (fun _=>AB (AP rfl MC Z Z Z)) ?_ | refine AE [102] [] Z Z (fun _=>AB (AN rfl MC Z Z Z)) ?_ | refine AI [102] Z Z (fun _=>AB (AN rfl MC Z Z Z)) ?_
    refine AE [103] [20,950] Z Z (fun _=>AB (Ql 950 0 Z Z Z Z (by simp) UV rfl)) ?_
    first | refine AE [13] [] Z Z (fun _=>AB (B7 Z Z)) ?_ | refine AI [13] Z Z (fun _=>AB (B7 Z Z)) ?_
    refine Fw [105] [42] [(106,_)] Z Z (fun _=>Fx (Fg 42 UF Z Z Z Z Z Z Z Z)) (.inr ⟨106,_,rfl,rfl,rfl,rfl,rfl⟩) Z Z Z Z Z ?_
    first | refine Fw [104,106] [902,42,950] [(107,_)] Z Z (fun _=>Fx (Ib (DL) ([acc]) Z Z Z Z Z Z Z Z UF (by simp only [List.length_singleton];omega) Z Z Z Z)) (.inr ⟨107,_,rfl,rfl,rfl,rfl,rfl⟩) Z Z Z Z Z ?_ | refine Fw [104,106] [902,42,950] [(107,_)] Z Z (fun _=>Fx (Ka (DL) ([acc]) Z Z Z Z Z Z (fun _=>rfl) UF (by simp only [List.length_singleton];omega) Z Z Z Z)) (.inr ⟨107,_,rfl,rfl,rfl,rfl,rfl⟩) Z Z Z Z Z ?_
    first | refine AE [3] [] Z Z (fun _=>AB (B7 Z Z)) ?_ | refine AI [3] Z Z (fun _=>AB (B7 Z Z)) ?_
    first | refine AE [108] [] Z Z (fun _=>AB (Bc Z Z)) ?_ | refine AI [108] Z Z (fun _=>AB (Bc Z Z)) ?_ | refine AE [108] [] Z Z (fun _=>AB (Ba Z Z)) ?_ | refine AI [108] Z Z (fun _=>AB (Ba Z Z)) ?_ | refine AE [108] [] Z Z (fun _=>AB (Bd Z Z)) ?_ | refine AI [108] Z Z (fun _=>AB (Bd Z Z)) ?_ | refine AE [108] [] Z Z (fun _=>AB (Bb Z Z)) ?_ | refine AI [108] Z Z (fun _=>AB (Bb Z Z)) ?_
    first | refine AE [109] [] Z Z (fun _=>AB (AO rfl PU Z Z Z)) ?_ | refine AI [109] Z Z (fun _=>AB (AO rfl PU Z Z Z)) ?_ | refine AE [109] [] Z Z (fun _=>AB (AQ rfl PU Z Z Z)) ?_ | refine AI [109] Z Z (fun _=>AB (AQ rfl PU Z Z Z)) ?_ | refine AE [109] [] Z Z (fun _=>AB (AR rfl PU Z Z Z)) ?_ | refine AI [109] Z Z (fun _=>AB (AR rfl PU Z Z Z)) ?_ | refine AE [109] [] Z Z (fun _=>AB (AP rfl PU Z Z Z)) ?_ | refine AI [109] Z Z (fun _=>AB (AP rfl PU Z Z Z)) ?_ | refine AE [109] [] Z Z (fun _=>AB (AN rfl PU Z Z Z)) ?_ | refine AI [109] Z Z (fun _=>AB (AN rfl PU Z Z Z)) ?_
    refine AE [110] [20,951] Z Z (fun _=>AB (Ql 951 0 Z Z Z Z (by simp) Mv rfl)) ?_
    first | refine AE [12] [] Z Z (fun _=>AB (AO rfl Th Z Z Z)) ?_ | refine AI [12] Z Z (fun _=>AB (AO rfl Th Z Z Z)) ?_ | refine AE [12] [] Z Z (fun _=>AB (AQ rfl Th Z Z Z)) ?_ | refine AI [12] Z Z (fun _=>AB (AQ rfl Th Z Z Z)) ?_ | refine AE [12] [] Z Z (fun _=>AB (AR rfl Th Z Z Z)) ?_ | refine AI [12] Z Z (fun _=>AB (AR rfl Th Z Z Z)) ?_ | refine AE [12] [] Z Z (fun _=>AB (AP rfl Th Z Z Z)) ?_ | refine AI [12] Z Z (fun _=>AB (AP rfl Th Z Z Z)) ?_ | refine AE [12] [] Z Z (fun _=>AB (AN rfl Th Z Z Z)) ?_ | refine AI [12] Z Z (fun _=>AB (AN rfl Th Z Z Z)) ?_
    first | refine AE [112] [24] Z Z (fun _=>AB (A0 Z Z Be rfl)) ?_ | refine AE [112] [24] Z Z (fun _=>AB (AY Z Z Z Be rfl)) ?_ | refine AE [112] [24] Z Z (fun _=>AB (AZ Z Z (rfl) rfl Be rfl)) ?_
    refine Fw [113] [43] [(114,_)] Z Z (fun _=>Fx (Fg 43 LY Z Z Z Z Z Z Z Z)) (.inr ⟨114,_,rfl,rfl,rfl,rfl,rfl⟩) Z Z Z Z Z ?_
    first | refine Fw [111,114] [903,43,951] [(115,_)] Z Z (fun _=>Fx (Ib (RL) ([(linL p)[n].n]) Z Z Z Z Z Z Z Z LY (by simp only [List.length_singleton];omega) Z Z Z Z)) (.inr ⟨115,_,rfl,rfl,rfl,rfl,rfl⟩) Z Z Z Z Z ?_ | refine Fw [111,114] [903,43,951] [(115,_)] Z Z (fun _=>Fx (Ka (RL) ([(linL p)[n].n]) Z Z Z Z Z Z (fun _=>rfl) LY (by simp only [List.length_singleton];omega) Z Z Z Z)) (.inr ⟨115,_,rfl,rfl,rfl,rfl,rfl⟩) Z Z Z Z Z ?_
    first | refine AE [99] [] Z Z (fun _=>AB (Bc Z Z)) ?_ | refine AI [99] Z Z (fun _=>AB (Bc Z Z)) ?_ | refine AE [99] [] Z Z (fun _=>AB (Ba Z Z)) ?_ | refine AI [99] Z Z (fun _=>AB (Ba Z Z)) ?_ | refine AE [99] [] Z Z (fun _=>AB (Bd Z Z)) ?_ | refine AI [99] Z Z (fun _=>AB (Bd Z Z)) ?_ | refine AE [99] [] Z Z (fun _=>AB (Bb Z Z)) ?_ | refine AI [99] Z Z (fun _=>AB (Bb Z Z)) ?_
    first | refine AE [116] [] Z Z (fun _=>AB (AO rfl MC Z Z Z)) ?_ | refine AI [116] Z Z (fun _=>AB (AO rfl MC Z Z Z)) ?_ | refine AE [116] [] Z Z (fun _=>AB (AQ rfl MC Z Z Z)) ?_ | refine AI [116] Z Z (fun _=>AB (AQ rfl MC Z Z Z)) ?_ | refine AE [116] [] Z Z (fun _=>AB (AR rfl MC Z Z Z)) ?_ | refine AI [116] Z Z (fun _=>AB (AR rfl MC Z Z Z)) ?_ | refine AE [116] [] Z Z (fun _=>AB (AP rfl MC Z Z Z)) ?_ | refine AI [116] Z Z (fun _=>AB (AP rfl MC Z Z Z)) ?_ | refine AE [116] [] Z Z (fun _=>AB (AN rfl MC Z Z Z)) ?_ | refine AI [116] Z Z (fun _=>AB (AN rfl MC Z Z Z)) ?_
    refine Fw [117,107] [20,902] [] Z Z (fun _=>Fx (Bj Z Z Z Z Z Z Z sz143)) (.inl ⟨rfl,rfl⟩) Z Z Z Z Z (GZ 20 Z Z Z (BD 21 Z Z ?_))
    first | refine J (Bc Z Z) ?_ | refine J (Ba Z Z) ?_ | refine J (Bd Z Z) ?_ | refine J (Bb Z Z) ?_
    refine AH ⟨rfl,?_⟩;refine BD 22 Z Z ?_
    first | refine J (AO rfl PU Z Z Z) ?_ | refine J (AQ rfl PU Z Z Z) ?_ | refine J (AR rfl PU Z Z Z) ?_ | refine J (AP rfl PU Z Z Z) ?_ | refine J (AN rfl PU Z Z Z) ?_
    refine AH ⟨rfl,?_⟩;refine BD 23 Z Z (U (Bj Z Z Z Z Z Z Z Wi) (AH ⟨rfl,?_⟩));refine GY (AJ (J (Bi Z Z (A6 (n+1) (by omega)) rfl) (AC Z Z (AH ?_))));exact ⟨(n+1,DL++ [acc],RL++ [(linL p)[n].n]),⟨by show n+1≤_;omega,by show DL++ [acc]=((linL p).take (n+1)).map (Ki p);rw [CU hn1,hD,hfa],by show RL++ [(linL p)[n].n]=((linL p).take (n+1)).map Lin.n;rw [CU hn1,hR]⟩,by show (linL p).length - (n+1)<(linL p).length - n;omega,BP hF [10,11,20,902,903] rfl (rfl) ⟨rfl,rfl,rfl,rfl,rfl,trivial⟩⟩
  ·refine C6 (AF ?_);have hDL:DL=(linL p).map (Ki p):=by rw [hD,List.take_of_length_le (by have h:=h74;omega)]
   have hRL:RL=(linL p).map Lin.n:=by rw [hR,List.take_of_length_le (by have h:=h74;omega)]
   refine WU (ys:=DL.map rowZ) 20 0 2 902 Z Z Z (Nat.le_of_eq (by simp)) (List.take_of_length_le (by simp)) Z Z Z Z Z Z (WU (ys:=RL.map AG) 20 0 3 903 Z Z Z (Nat.le_of_eq (by simp)) (List.take_of_length_le (by simp)) Z Z Z Z Z Z (PN 3 20 (Lr ⟨smI p,BL,DL,RL⟩) [10,11] hF Z Z Z (by intro c hc;simp [D.cells] at hc;rcases hc with rfl | rfl | rfl | rfl<;>rfl) Z Z Z (AJ (AC Z Z (AD Z Z (AH (Af ?_)))))));exact ⟨_,[10,11],_,Ae rfl,rfl,rfl,by rw [hBL,hDL,hRL];rfl,rfl⟩
theorem Yn (p:Prb) (hb:Cz p) (hE:Ak p=0) (h1:p.it.length≤20) (h2:p.ro.length≤1000):AU Tryz.prog 24 [.d (CI p)] (.tup [.ptr (Lr (smlOf p)),AG 0]):=by
 have hpr:=(JV p hb hE).by [(3,10),(2,11)] rfl;refine BY Tryz.func24 Z Z Tryz.ntmps24 Z Z Z fun F hF=>(AF (AJ (U (CJ 1 Z Z Z Z Z Z Z) (AD Z Z (AD Z Z (AH (AF (AJ ?_))))))))
 first | refine J (An Z Z AW rfl) ?_ | refine J (Ao Z Z AW Z Z Z) ?_ | refine J (Ap Z Z (rfl) rfl AW rfl) ?_
 refine U (HQ hpr rfl [10,11] ⟨rfl,rfl,trivial⟩ Z Z Z Z Z Z Z Z Z) (AC Z Z ?_)
 first | refine J (BT Z Z Z) ?_ | refine J (BS Z Z Z) ?_
 first | refine J (BT Z Z Z) ?_ | refine J (BS Z Z Z) ?_
 refine AD Z Z (AD Z Z (AH (AF (AF (AJ (AC Z Z ?_))))))
 first | refine J (E9 Z Z Z) ?_ | refine J (Ed Z Z Z) ?_ | refine J (EU Z Z Z) ?_ | refine J (Ea Tryz.underlying34 Z Z Z) ?_ | refine J (Ec Tryz.underlying34 Z Z Z) ?_ | refine J (st_neqN Tryz.underlying34 Z Z) ?_ | refine J (Eb Tryz.underlying34 Z Z Z) ?_ | refine J (st_neqFN Tryz.underlying34 Z Z) ?_
 refine AH (Ey rfl ((by decide)) (Am (AF (AF (AJ ?_)))))
 first | refine J (AO rfl Bw Z Z Z) ?_ | refine J (AQ rfl Bw Z Z Z) ?_ | refine J (AR rfl Bw Z Z Z) ?_ | refine J (AP rfl Bw Z Z Z) ?_ | refine J (AN rfl Bw Z Z Z) ?_
 first | refine J (A0 Z Z Bf rfl) ?_ | refine J (AY Z Z Z Bf rfl) ?_ | refine J (AZ Z Z (rfl) rfl Bf rfl) ?_
 first | refine J (Cc rfl Tryz.underlying29 rfl) ?_ | refine J (C8 Z Z Tryz.underlying29 rfl) ?_ | refine J (Cd rfl Tryz.underlying29 rfl) ?_ | refine J (Cb rfl Tryz.underlying29 rfl) ?_ | refine J (CW rfl Tryz.underlying29 rfl) ?_ | refine J (C9 rfl Tryz.underlying29 rfl) ?_
 first | refine J (Dj Z Z Z) ?_ | refine J (Co Z Z Z) ?_
 refine AH (Ey rfl ((decide_eq_false (by omega))) ?_);refine Am (AF (AJ (AC Z Z (U (HQ (XS p hE hb h1 h2) rfl [10,11] ⟨rfl,rfl,trivial⟩ Z Z Z Z Z Z Z Z Z) (AD Z Z (AD Z Z (AH (Af ?_))))))));exact ⟨_,[],[],Ae rfl,rfl,rfl,rfl,rfl⟩
theorem Rt {n:Nat} (hn:n≤31):∀(l frm x:Nat),x<4294967296 ->∀y∈enumX n l frm x,y<4294967296
 | 0,_,x,hx,y,hy=>by
  have:y=x:=by simpa [enumX] using hy
  rw [this];exact hx
 | l+1,frm,x,hx,y,hy=>by
  unfold enumX at hy;obtain ⟨i,hi,hy⟩:=List.mem_flatMap.1 hy;obtain ⟨j,hj,rfl⟩:=List.mem_map.1 hi;have hj':=List.mem_range.1 hj;exact Rt hn l _ _ (Xb hx (Ke (by omega))) y hy
theorem UO (f:Nat ->Nat) (m:Nat):∀c,c≤m ->(∀j,j<c ->f j≤2^(m - (j+1))) ->((List.range c).map f).sum+2^(m - c)≤2^m
 | 0,_,_=>by simp
 | c+1,h,hf=>by
  have ih:=UO f m c (by omega) fun j hj=>hf j (by omega);have h2:=hf c (by omega)
  have h3:2^(m - c)=2^(m - (c+1))+2^(m - (c+1)):=by
   have:m - c=(m - (c+1))+1:=by omega
   rw [this,Nat.pow_succ];omega
  rw [List.range_succ,List.map_append,List.sum_append,List.map_singleton,List.sum_singleton];omega
theorem PE {n:Nat}:∀(l frm x:Nat),(enumX n l frm x).length≤2^(n - frm)
 | 0,frm,x=>by
  have:0<2^(n - frm):=Nat.pow_pos (by omega)
  simp [enumX];omega
 | l+1,frm,x=>by
  unfold enumX;rw [List.length_flatMap,List.map_map]
  have h:=UO (((fun i=>(enumX n l (i+1) (x ||| 1<<<i)).length))∘fun j=>frm+j) (n - frm) (n+1 - (l+1) - frm) (by omega) (fun j hj=>by
   have:=PE l (frm+j+1) (x ||| 1<<<(frm+j)) (n:=n);have e:n - frm - (j+1)=n - (frm+j+1):=by omega
   rw [e];exact this)
  exact Nat.le_trans (Nat.le_add_right _ _) h
theorem allX_lt {s:Sma} (hn:s.ids.length≤31):∀y∈allX s,y<4294967296:=fun y hy=>by
 unfold allX at hy;obtain ⟨k,_,hy⟩:=List.mem_flatMap.1 hy;exact Rt hn k 0 0 (by omega) y (List.mem_filter.1 hy).1
theorem Yq {s:Sma} (hn:s.ids.length≤20):(allX s).length≤100000000:=by
 unfold allX
 have h:=KQ (f:=fun k=>(enumX s.ids.length k 0 0).filter (admS s)) (n:=1048576) (l:=List.range (s.ids.length+1)) (fun k _=>by
  have h1:=PE (n:=s.ids.length) k 0 0;have h2:2^(s.ids.length - 0)≤2^20:=Nat.pow_le_pow_right (by omega) (by omega);have h3:(2:Nat)^20=1048576:=by decide
  exact Nat.le_trans (List.length_filter_le _ _) (by omega))
 rw [List.length_range] at h;have:(s.ids.length+1)*1048576≤21*1048576:=Nat.mul_le_mul_right _ (by omega);omega
abbrev hCt (s:Sma) (q:Nat×Nat):Hp:=[(2,[.blk 76 [.d (.ptr (Lr s))]]),(3,[.blk 3 [.d (AG (q.1:Int))]]),(4,[.blk 3 [.d (AG (q.2:Int))]])]
def UB (s:Sma) (q:Nat×Nat) (x:Nat):(Nat×Nat)×Bool:=((q.1+1,q.2+bif feaS s x then 1 else 0),true)
theorem Rp (s:Sma):∀(l:List Nat) (q:Nat×Nat),CA (UB s) q l=(q.1+l.length,q.2+(l.filter (feaS s)).length)
 | [],q=>by simp [CA]
 | x::l,q=>by
  rw [Td];show (if true=true then CA (UB s) (q.1+1,q.2+bif feaS s x then 1 else 0) l else _)=_;rw [if_pos rfl,Rp s l]
  cases h:feaS s x<;>simp [h]<;>omega
theorem PA {P:Program} {l:Nat} {H:Nat×Nat ->Hp} (s:Sma) {n:Nat} (hY:∀a b x,a<n ->b≤a ->x<4294967296 ->Eg P l (Rv x) (H (a,b)) fun v H'=>v= .d (.raw (.bool true))∧H'=H (a+1,b+bif feaS s x then 1 else 0)):∀(xs:List Nat) (q:Nat×Nat),(∀x∈xs,x<4294967296) ->q.1+xs.length≤n ->q.2≤q.1 ->Cv P l Rv H (UB s) q xs
 | [],_,_,_,_=>trivial
 | x::xs,(a,b),hx,h,hq=>⟨hY a b x (by simp at h;omega) hq (hx x (by simp)),fun _=>PA s hY xs (a+1,b+bif feaS s x then 1 else 0) (fun y hy=>hx y (by simp [hy])) (by simp at h⊢;omega) (by show b+(bif feaS s x then 1 else 0)≤a+1;cases feaS s x<;>simp at hq⊢<;>omega)⟩
structure SmaB (s:Sma):Prop where
 n:s.ids.length≤20
 b:s.bl.length≤20
 u:∀b∈s.bl,b<4294967296
 r:s.rm.length≤1000
 d:s.de.length=s.rm.length
 v:∀r∈s.de,r.length≤32∧∀v∈r,-1000000000000000≤v∧v≤1000000000000000
 m:∀v∈s.rm,0≤v∧v≤4000000000000000
theorem smlB {p:Prb} (hp:Ak p=0) (h1:p.it.length≤20) (h2:p.ro.length≤1000):SmaB (smlOf p):=by
 have hIl:=P8 hp;have hLl:=FO p;refine ⟨by show (smI p).length≤20;omega,by show ((smI p).map (K5 p)).length≤20;rw [List.length_map];omega,fun b hb=>?_,by show ((linL p).map Lin.n).length≤1000;rw [List.length_map];omega,by show ((linL p).map (Ki p)).length=((linL p).map Lin.n).length;simp,fun r hr=>?_,fun v hv=>?_⟩
 ·obtain ⟨i,_,rfl⟩:=List.mem_map.1 hb;exact QP (by omega) _
 ·obtain ⟨x,_,rfl⟩:=List.mem_map.1 hr;refine ⟨by show ((smI p).map (N8 p x)).length≤32;rw [List.length_map];omega,fun v hv=>?_⟩;obtain ⟨i,_,rfl⟩:=List.mem_map.1 hv;exact T0 _ _
 ·obtain ⟨x,hx,rfl⟩:=List.mem_map.1 hv;exact TN hp x hx
theorem SB (p:Prb) (hb:Cz p) (hE:Ak p=0) (h1:p.it.length≤20) (h2:p.ro.length≤1000):AU Tryz.prog 16 [.d (CI p)] (.tup [AG ((allX (smlOf p)).length:Nat),AG (((allX (smlOf p)).filter (feaS (smlOf p))).length:Nat),AG 0]):=by
 have hbg:=Yn p hb hE h1 h2;have hB:=smlB hE h1 h2
 obtain ⟨s,hs⟩:∃s,smlOf p=s:=⟨_,rfl⟩
 rw [hs] at hbg hB⊢;have hB0:=hB;have hAl:=Yq hB.n;have hAx:=allX_lt (s:=s) (by have:=hB.n;omega);have hfe:=fun x (hx:x<4294967296)=>feaS_p s x hx (by have:=hB.r;omega) hB.d hB.v hB.m;have hfe':∀x,x<4294967296 ->∀c,feaS s x=c ->AU Tryz.prog 26 [.d (.ptr (Lr s)),.d (Gh x)] (BE c):=fun x hx c hc=>by rw [←hc];exact hfe x hx
 refine Hy Tryz.func16 Z Z Tryz.ntmps16 Z Z Z fun F hF hFl=>?_;refine AF (AJ (U (CJ 1 Z Z Z Z Z Z Z) (AD Z Z (AD Z Z (AD Z Z (AH (AF (AJ ?_))))))))
 first | refine J (An Z Z AW rfl) ?_ | refine J (Ao Z Z AW Z Z Z) ?_ | refine J (Ap Z Z (rfl) rfl AW rfl) ?_
 refine J (BF (hbg) Z Z) (AC Z Z ?_)
 first | refine J (BT Z Z Z) ?_ | refine J (BS Z Z Z) ?_
 first | refine J (BT Z Z Z) ?_ | refine J (BS Z Z Z) ?_
 refine U (Cm 2 zl76 Z Z Z Z) (U (Bj Z Z Z Z Z Z Z sz76) (AD Z Z (AH (AF (AF (AJ (AC Z Z ?_)))))))
 first | refine J (E9 Z Z Z) ?_ | refine J (Ed Z Z Z) ?_ | refine J (EU Z Z Z) ?_ | refine J (Ea Tryz.underlying34 Z Z Z) ?_ | refine J (Ec Tryz.underlying34 Z Z Z) ?_ | refine J (st_neqN Tryz.underlying34 Z Z) ?_ | refine J (Eb Tryz.underlying34 Z Z Z) ?_ | refine J (st_neqFN Tryz.underlying34 Z Z) ?_
 refine AH (Ey rfl ((by decide)) (Am (AF ?_)));refine AJ (U (Cm 3 zl3 Z Z Z Z) (U (Cm 4 zl3 Z Z Z Z) (U (Bj Z Z Z Z Z Z Z Dh) (U (Bj Z Z Z Z Z Z Z Dh) (AH (AF (AF (AJ ?_))))))))
 first | refine J (A0 Z Z Fl rfl) ?_ | refine J (AY Z Z Z Fl rfl) ?_ | refine J (AZ Z Z (rfl) rfl Fl rfl) ?_
 refine U (HQ (sets_c s) rfl [] trivial Z Z Z Z Z Z Z Z Z) (AH (Au ?_));refine QW [5,7,8,19] rfl ?_;refine a_only [2,3,4] hF Z Z ?_;refine MR (γ:=Unit) hFl 900 Z Z Z Z Z [2,3,4] (CHr:=hCt s (0,0)) (fun _=>True) (fun _=>hCt s ((allX s).length,((allX s).filter (feaS s)).length)) (fun _=> .ready) (fun _=>none) ⟨rfl,rfl,rfl,trivial⟩ Z Z Z (fun _=>rfl) (fun _=>rfl) rfl (fun _ _=>by simp) (fun _ _=>⟨rfl,rfl⟩) [2,3,4] hF Z Z (fun _ _=>rfl) (fun l A B hA hB=>?_) (fun _ _=>?_)
 ·refine (setsF_c s hB0.u (by have:=hB0.b;omega) (by have:=hB0.n;omega) l (fun q:Nat×Nat=>(900,[.loop ⟨l,30,[(5,.ptr 2 0 0),(7,.ptr 3 0 0),(8,.ptr 4 0 0),(19,.fn 60 [cS s])],.ready,none, #[20],A,B⟩])::hCt s q) [900,2,3,4] (UB s) (0,0) (fun _=>rfl) (fun _=>rfl) (fun _=>rfl) Z Z (fun _=>rfl) (fun _=>rfl) ?_).mono (fun r H' ⟨e1,e2⟩=>⟨e1,(),trivial,by rw [e2,Rp];simp only [Nat.zero_add]⟩);refine PA s (n:=100000000) (fun a b x ha hba hx=>?_) (allX s) (0,0) hAx (by simp only [Nat.zero_add];exact hAl) (Nat.le_refl _);have hf2:=hfe' x hx;refine Jb (lf:=900) Z Z Z Z fun F hF hr=>?_;show By _ _ A _ _;rw [hA];refine AJ (AD Z Z (AH (⟨rfl,_,_,rfl,rfl,rfl,rfl,?_⟩)));show By _ _ B _ _;rw [hB];refine Au (AF (AJ ?_))
  cases hfx:feaS s x
  ·first | refine J (A0 Z Z A9 rfl) ?_ | refine J (AY Z Z Z A9 rfl) ?_ | refine J (AZ Z Z (rfl) rfl A9 rfl) ?_
   refine J (Bi Z Z (A6 (a+1) (by omega)) rfl) (U (Bj Z Z Z Z Z Z Z Dh) (AH (AF (AJ ?_))))
   first | refine J (A0 Z Z Fl rfl) ?_ | refine J (AY Z Z Z Fl rfl) ?_ | refine J (AZ Z Z (rfl) rfl Fl rfl) ?_
   refine AC Z Z (J (BF (hf2 _ hfx) Z Z) (AH (Ey rfl (rfl) (Am ?_))));exact ⟨none,_,_,[900,2,3,4],_,rfl,rfl,rfl,rfl,rfl,rfl,rfl,rfl⟩
  ·first | refine J (A0 Z Z A9 rfl) ?_ | refine J (AY Z Z Z A9 rfl) ?_ | refine J (AZ Z Z (rfl) rfl A9 rfl) ?_
   refine J (Bi Z Z (A6 (a+1) (by omega)) rfl) (U (Bj Z Z Z Z Z Z Z Dh) (AH (AF (AJ ?_))))
   first | refine J (A0 Z Z Fl rfl) ?_ | refine J (AY Z Z Z Fl rfl) ?_ | refine J (AZ Z Z (rfl) rfl Fl rfl) ?_
   refine AC Z Z (J (BF (hf2 _ hfx) Z Z) (AH (Dg rfl (rfl) (AJ ?_))))
   first | refine J (A0 Z Z A9 rfl) ?_ | refine J (AY Z Z Z A9 rfl) ?_ | refine J (AZ Z Z (rfl) rfl A9 rfl) ?_
   refine J (Bi Z Z (A6 (b+1) (by omega)) rfl) (U (Bj Z Z Z Z Z Z Z Dh) (AH ?_));exact ⟨none,_,_,[900,2,3,4],_,rfl,rfl,rfl,rfl,rfl,rfl,rfl,rfl⟩
 ·refine AF (G8 [[],[],[0],[0,1,2],[0,1,2,3]] BC rfl (Hq ?_))
  first | refine AE [7] [3] Z Z (fun _=>AB (A0 Z Z A9 rfl)) ?_ | refine AE [7] [3] Z Z (fun _=>AB (AY Z Z Z A9 rfl)) ?_ | refine AE [7] [3] Z Z (fun _=>AB (AZ Z Z (rfl) rfl A9 rfl)) ?_
  first | refine AE [8] [4] Z Z (fun _=>AB (A0 Z Z A9 rfl)) ?_ | refine AE [8] [4] Z Z (fun _=>AB (AY Z Z Z A9 rfl)) ?_ | refine AE [8] [4] Z Z (fun _=>AB (AZ Z Z (rfl) rfl A9 rfl)) ?_
  first | refine AE [28] [] Z Z (fun _=>AB (GA Z Z)) ?_ | refine AI [28] Z Z (fun _=>AB (GA Z Z)) ?_
  refine GZ 3 Z Z Z (BD 4 Z Z (AD Z Z (AH ⟨rfl,?_⟩)));refine BD 5 Z Z (AD Z Z (AH ⟨rfl,?_⟩));refine GY (Af ?_);exact ⟨_,[],[],Ae rfl,rfl,rfl,rfl,rfl⟩
deriving instance DecidableEq for Lin
def accQ (a:List UInt8):PY:=⟨a,0,[67,65,83,72]⟩
def V5 (id sq:Int) (a b:List UInt8) (n:Int):AT:=⟨id,0,sq,[⟨accQ a,0 - n⟩,⟨accQ b,n⟩],[],[]⟩
theorem pay0_p (id sq n:Int) (a b:List UInt8) (h0:0≤n) (h1:n≤1000000000000000):AU Tryz.prog 112 [.d (AG id),.d (AG sq),.d (As a),.d (As b),.d (AG n)] (.agg [AG id,AG 0,AG sq,.sl none ((V5 id sq a b n).po.map Cf),.sl (some true) [],.sl (some true) []]):=by
 refine BY Tryz.func112 Z Z Tryz.ntmps112 Z Z Z fun F hF=>(AF (AJ (U (Cm 1 Da Z Z Z Z) (AH (AF ?_)))));refine AJ (AC Z Z (AC Z Z (AC Z Z (J (Cu Nn RA Z Z Z) (AC Z Z (J (FH Z Z (IntWalk.i64_in _ (by omega)) rfl) (J (Cu Ja O6 Z Z Z) (AC Z Z ?_))))))));refine J (Cu Nn RA Z Z Z) (AC Z Z (J (Cu Ja O6 Z Z Z) (U (Fg 2 P9 Z Z Z Z Z Z Z Z) (Zc8 (emb:=Cf) 22 2 (V5 id sq a b n).po Z Z Z Z Z Z Z (J (Cu Da X0 Z Z Z) (U (Bj Z Z Z Z Z Z Z Br) (AH (Af ?_))))))));exact ⟨_,[],[],Ae rfl,rfl,rfl,rfl,rfl⟩
theorem Pi (id sq n:Int) (a b:List UInt8) (h0:0≤n) (h1:n≤1000000000000000):AU Tryz.prog 112 [.d (AG id),.d (AG sq),.d (As a),.d (As b),.d (AG n)] (Aw (V5 id sq a b n)):=
 (pay0_p id sq n a b h0 h1).weak fun w O v h=>h.aggMono rfl (by simp [D.one]) fun i c c' hc hc' v hv=>by
  match i,hc,hc' with
  | 0,hc,hc'=>injection hc with hc;injection hc' with hc';subst hc hc';exact hv
  | 1,hc,hc'=>injection hc with hc;injection hc' with hc';subst hc hc';exact hv
  | 2,hc,hc'=>injection hc with hc;injection hc' with hc';subst hc hc';exact hv
  | 3,hc,hc'=>injection hc with hc;injection hc' with hc';subst hc hc';exact hv
  | 4,hc,hc'=>injection hc with hc;injection hc' with hc';subst hc hc';exact hv.anyNil
  | 5,hc,hc'=>injection hc with hc;injection hc' with hc';subst hc hc';exact hv.anyNil
def rcA:A4:=⟨0,accQ [65],[],[]⟩
def rcB:A4:=⟨0,accQ [66],[],[]⟩
def Sr:List Roo:=[⟨rcA,0⟩,⟨rcB,0⟩]
def YQ:List AT:=[V5 1 1 [65] [66] 5,V5 2 2 [66] [65] 5]
def itK3:AT:=V5 3 3 [65] [66] 1
def JZ:Prb:=⟨Sr,YQ⟩
def UQ:Prb:=⟨Sr,YQ++ [itK3]⟩
theorem pK2_E:Ak JZ=0:=by decide
theorem pK2_R:Vm Sr=Sr:=(YG pK2_E (List.Perm.refl _) (by decide)).symm
theorem VO:Cq []=[]:=List.eq_nil_of_length_eq_zero (GC [])
theorem UR:G3 JZ=[1,2]:=by decide
theorem pK3_ids:G3 UQ=[1,2,3]:=by decide
theorem X5:smI JZ=[1,2]:=by
 unfold smI;rw [UR];exact (Qm (List.Perm.refl _) (by decide)).symm
theorem O8:linL JZ=[⟨rcA,0,[1]⟩,⟨rcB,0,[2]⟩]:=by
 unfold linL;rw [show JZ.ro=Sr from rfl,pK2_R];decide
theorem pK3_L:linL UQ=[⟨rcA,0,[1,3]⟩,⟨rcB,0,[2]⟩]:=by
 unfold linL;rw [show UQ.ro=Sr from rfl,pK2_R];decide
theorem Mi {p:Prb} {i:Int} (h:(Ar p i).af=[]):req p i=(linL p).flatMap (Ee i):=by
 unfold req Pf;rw [h,VO];rfl
theorem X7:req JZ 1=[]:=by rw [Mi (by decide),O8];decide
theorem X6:req JZ 2=[]:=by rw [Mi (by decide),O8];decide
theorem pK3_r3:req UQ 3=[⟨3,1,rcA⟩]:=by rw [Mi (by decide),pK3_L];decide
def smK:Sma:=⟨[1,2],[0,0],[[-5,5],[5,-5]],[0,0]⟩
theorem pK2_S:smlOf JZ=smK:=by
 unfold smlOf;have e1:K5 JZ 1=0:=by unfold K5;rw [X7];rfl
 have e2:K5 JZ 2=0:=by unfold K5;rw [X6];rfl
 have e3:∀x,Ki JZ x=[N8 JZ x 1,N8 JZ x 2]:=fun x=>by unfold Ki;rw [X5];rfl
 have e4:(linL JZ).map (Ki JZ)=[[-5,5],[5,-5]]:=by rw [O8];simp only [List.map_cons,List.map_nil,e3];decide
 rw [X5,e4,O8];simp only [List.map_cons,List.map_nil,e1,e2];rfl
theorem smK_n:(allX smK).length=4:=by decide
theorem smK_f:((allX smK).filter (feaS smK)).length=2:=by decide
theorem pK2_b12:DN JZ (GQ [2,1])=[]:=by
 unfold DN;rw [UR];simp [Gz,X7,X6,Dc]
theorem pK2_v12:FU JZ (Ag [2,1])=[]:=by unfold FU;rw [O8];decide
theorem pK2_v1:FU JZ (Ag [1])≠ []:=by unfold FU;rw [O8];decide
theorem pK3_b3:DN UQ (GQ [3])≠ []:=by
 unfold DN;rw [pK3_ids];simp [Gz,GQ,pK3_r3,Dc]
theorem X3:FU UQ (Ag [1,2,3])=[⟨rcA,1⟩]:=by unfold FU;rw [pK3_L];decide
theorem pK2_c21:Bn JZ [2,1]=0:=by decide
theorem pK2_c1:Bn JZ [1]=0:=by decide
theorem pK3_c3:Bn UQ [3]=0:=by decide
theorem X4:Bn UQ [1,2,3]=0:=by decide
theorem X8:Cz JZ:=by unfold Cz;decide
theorem pK3_B:Cz UQ:=by unfold Cz;decide
theorem kn_cnt:AU Tryz.prog 16 [.d (CI JZ)] (.tup [AG 4,AG 2,AG 0]):=by
 have h:=SB JZ X8 pK2_E (by decide) (by decide);rw [pK2_S,smK_n,smK_f] at h;exact h
theorem kn_f21:AU Tryz.prog 113 [.d (CI JZ),.d (.sl none (([2,1]:List Int).map AG))] (.tup [BE true,AG 0]):=by
 have h:=Ud JZ [2,1] X8 (by decide) (by decide) (by decide);rw [pK2_c21,pK2_b12,pK2_v12] at h;exact h
theorem kn_f1:AU Tryz.prog 113 [.d (CI JZ),.d (.sl none (([1]:List Int).map AG))] (.tup [BE false,AG 0]):=by
 have h:=Ud JZ [1] X8 (by decide) (by decide) (by decide);rw [pK2_c1,decide_eq_false (fun h=>pK2_v1 h.2.2)] at h;exact h
theorem kn_a3:AU Tryz.prog 114 [.d (CI UQ),.d (.sl none (([3]:List Int).map AG))] (.tup [BE false,AG 0]):=by
 have h:=admF_p UQ [3] pK3_B (by decide) (by decide) (by decide);rw [pK3_c3,decide_eq_false (fun h=>pK3_b3 h.2)] at h;exact h
theorem kn_v:AU Tryz.prog 110 [.d (CI UQ),.d (.sl none (([1,2,3]:List Int).map AG))] (.tup [.sl none (([⟨rcA,1⟩]:List Roo).map DT),AG 0]):=by
 have h:=violF_p UQ [1,2,3] pK3_B (by decide);rw [X4,if_pos rfl,X3] at h;exact h
theorem Jo {hp:Hp} {bl:List Nat} {f n k:Nat} {t:TypeId} (p:Prb) (ho:hget hp f 0=some (.rowD t k (p.it.map Aw))) (hb:memB f bl=true) (hn:n=p.it.length):OE hp bl (.agg [.d (.sl none (p.ro.map DT)),.own f 0 n]) (CI p):=by
 refine .agg rfl (by simp [D.one]) fun j a c ha hc=>?_
 match j,ha,hc with
 | 0,ha,hc=>injection ha with ha;injection hc with hc;subst ha hc;exact .d
 | 1,ha,hc=>injection ha with ha;injection hc with hc;subst ha hc;exact .own ho hb (by rw [List.length_map];omega) (List.take_of_length_le (by rw [List.length_map];omega))
end Go.Proofs.YtnkkaeblokdifaaGreat
