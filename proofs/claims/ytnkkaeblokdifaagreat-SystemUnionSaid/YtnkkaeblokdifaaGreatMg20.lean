/- Layer 29: problems with few items. -/
import Derived.Test.YtnkkaeblokdifaaGreatMg19
namespace Go.Proofs.YtnkkaeblokdifaaGreat
open Go.RowKit
set_option maxRecDepth 100000
abbrev Er (n:Nat):D:= .raw (.int .u32 (n:Int))
structure Sma where
 ids:List Int
 bl:List Nat
 de:List (List Int)
 rm:List Int
abbrev rowZ (l:List Int):D:= .sl none (l.map AF)
abbrev I7 (s:Sma):D:= .agg [.sl none (s.ids.map AF),.sl none (s.bl.map Er),.sl none (s.de.map rowZ),.sl none (s.rm.map AF)]
def Pg (s:Sma) (x:Nat) (i:Nat):Bool:=x.testBit i && decide (anU (s.bl.getD i 0) x≠0)
def admS (s:Sma) (x:Nat):Bool:=!(List.range s.bl.length).any (Pg s x)
theorem YM {n k:Nat} {p:Nat ->Bool} (h:∀i,i<k ->p i=false) (hk:¬k<n):(List.range n).any p=false:=by
 rw [List.any_eq_false];intro i hi;rw [h i (by have:=List.mem_range.1 hi;omega)];simp
theorem UP {n k:Nat} {p:Nat ->Bool} (hk:k<n) (h:p k=true):(List.range n).any p=true:=List.any_eq_true.2 ⟨k,List.mem_range.2 hk,h⟩
theorem NB {a i:Nat} (h:¬((((a>>>i) % 2:Nat):Int)=1)):a.testBit i=false:=by
 cases hh:a.testBit i with
 | false=>rfl
 | true=>exact absurd ((KC a i).2 hh) h
theorem admS_p (s:Sma) (x:Nat) (hx:x<4294967296) (hb:∀b∈s.bl,b<4294967296) (hl:s.bl.length≤32):AT Tryz.prog 62 [.d (.ptr (I7 s)),.d (Er x)] (B5 (admS s x)):=by
 refine B6 Tryz.func62 Z Z Tryz.ntmps62 Z Z Z fun F hF=>(AG (AJ (AD Z Z (AI (AG (AG (AJ (AC Z Z ?_))))))))
 first | refine J (B1 Z Z) ?_ | refine J (BY Z Z) ?_ | refine J (B2 Z Z) ?_ | refine J (BZ Z Z) ?_
 first | refine J (AO rfl TG Z Z Z) ?_ | refine J (AQ rfl TG Z Z Z) ?_ | refine J (AR rfl TG Z Z Z) ?_ | refine J (AP rfl TG Z Z Z) ?_ | refine J (AN rfl TG Z Z Z) ?_
 first | refine J (A0 Z Z OF rfl) ?_ | refine J (AX Z Z Z OF rfl) ?_ | refine J (AZ Z Z (rfl) rfl OF rfl) ?_
 first | refine J (Co rfl Tryz.underlying142 rfl) ?_ | refine J (C1 Z Z Tryz.underlying142 rfl) ?_ | refine J (Cp rfl Tryz.underlying142 rfl) ?_ | refine J (Cn rfl Tryz.underlying142 rfl) ?_ | refine J (Ca rfl Tryz.underlying142 rfl) ?_ | refine J (Ck rfl Tryz.underlying142 rfl) ?_
 refine AC Z Z (AI (Aw (EK (α:=Nat) (fun k=>⟨29,[(1,.d (Er x)),(10,(.d (.sl none (s.bl.map Er)))),(11,(.d (AF (s.bl.length:Int)))),(12,(.d (AF (k:Int))))],[]⟩) (fun k=>k≤s.bl.length∧∀i,i<k ->Pg s x i=false) (fun k=>s.bl.length - k) (0) (⟨Nat.zero_le _,fun i h=>by omega⟩) (UX ⟨rfl,rfl,rfl,rfl,trivial⟩) ?_)));rintro k ⟨hk0,hk⟩;refine AG (AJ ?_)
 first | refine J (Cc Z Z Z) ?_ | refine J (Cb Z Z Z) ?_
 refine AI (AG ?_)
 first | refine BP rfl (fun h13=>?_) (fun h13=>?_) | refine BK rfl (fun h13=>?_) (fun h13=>?_)
 ·have hk1:k<s.bl.length:=EF h13;refine An (AG (Aw (AG (AJ (AC Z Z ?_)))));have hgd:=Bh 0 hk1;have hbk:=hb _ (List.getElem_mem hk1)
  first | refine J (Ch (k) Z Z (rfl) (A3 hk1) Tryz.underlying142 rfl sz79 rfl) ?_ | refine J (Cj (k) Z Z (rfl) (A3 hk1) rfl Tryz.underlying142 sz79 rfl) ?_
  first | refine J (A0 Z Z LY rfl) ?_ | refine J (AX Z Z Z LY rfl) ?_ | refine J (AZ Z Z (rfl) rfl LY rfl) ?_
  refine AD Z Z (AD Z Z (AI (AG (AJ (AC Z Z (AC Z Z (J (Ow Z Z (by omega) (shrU x k (by omega)) rfl) (J (EZ Z Z Z (YN (SI hx k)) rfl) ?_))))))))
  first | refine J (EX Z Z Z) ?_ | refine J (EY Z Z Z) ?_ | refine J (EO Z Z Z) ?_ | refine J (ER Tryz.underlying79 Z Z Z) ?_ | refine J (EU Tryz.underlying79 Z Z Z) ?_ | refine J (ET Tryz.underlying79 Z Z) ?_ | refine J (ES Tryz.underlying79 Z Z Z) ?_ | refine J (EW Tryz.underlying79 Z Z) ?_
  refine AC Z Z ?_
  first | refine JH 22 rfl (fun h22=>?_) (fun h22=>?_) | refine IW 22 rfl (fun h22=>?_) (fun h22=>?_)
  ·refine A9 Z Z Z (AC Z Z (A9 Z Z Z (AC Z Z (A9 Z Z Z (J (EZ Z Z Z (UQ s.bl[k] x) rfl) (A9 Z Z Z ?_))))))
   first | refine J (Ec Z Z Z) ?_ | refine J (Eb Z Z Z) ?_ | refine J (EV Z Z Z) ?_ | refine J (E8 Tryz.underlying79 Z Z Z) ?_ | refine J (Ea Tryz.underlying79 Z Z Z) ?_ | refine J (st_neqN Tryz.underlying79 Z Z) ?_ | refine J (E9 Tryz.underlying79 Z Z Z) ?_ | refine J (st_neqFN Tryz.underlying79 Z Z) ?_
   refine J (DX Z Z Z Z) (AI ?_)
   first | refine BP rfl (fun h27=>?_) (fun h27=>?_) | refine BK rfl (fun h27=>?_) (fun h27=>?_)
   ·refine AG (AJ (AD Z Z (AI (Af ?_))));exact ⟨_,[],[],Ae rfl,rfl,rfl,IQ (by unfold admS;rw [UP hk1 (by unfold Pg;rw [hgd,(KC x k).1 h22,Bool.true_and];exact decide_eq_true (fun h5=>h27 (by rw [h5];rfl)))];rfl),rfl⟩
   ·refine An (AJ ?_);have hbad:Pg s x k=false:=by unfold Pg;first | (have h6:((anU s.bl[k] x:Nat):Int)=0:=Decidable.not_not.1 h27;rw [hgd];have h3:anU s.bl[k] x=0:=Int.ofNat.inj h6;rw [h3];simp;done) | (rw [NB h22];rfl)
    refine J (By Z Z (Ad (k+1) (by omega)) rfl) (AC Z Z (AI ?_));exact ⟨k+1,⟨by show k+1≤_;omega,fun i hi=>by rcases Nat.lt_or_ge i k with h | h;exact hk i h;have e:i=k:=by {omega};subst e;exact hbad⟩,by show s.bl.length - (k+1)<s.bl.length - k;omega,⟨rfl,rfl,fun _ _=>NK.get (l:=[(1,_),(10,_),(11,_),(12,_)]) ⟨rfl,rfl,rfl,rfl,trivial⟩⟩⟩
  ·refine Ac Z Z Z Z (Ac Z Z Z Z (Ac Z Z Z Z (Ac Z Z Z Z (J (EG Z Z Z Z) (AI (F4 Z Z (An (AJ ?_))))))));have hbad:Pg s x k=false:=by unfold Pg;first | (have h6:((anU s.bl[k] x:Nat):Int)=0:=Decidable.not_not.1 h27;rw [hgd];have h3:anU s.bl[k] x=0:=Int.ofNat.inj h6;rw [h3];simp;done) | (rw [NB h22];rfl)
   refine J (By Z Z (Ad (k+1) (by omega)) rfl) (AC Z Z (AI ?_));exact ⟨k+1,⟨by show k+1≤_;omega,fun i hi=>by rcases Nat.lt_or_ge i k with h | h;exact hk i h;have e:i=k:=by {omega};subst e;exact hbad⟩,by show s.bl.length - (k+1)<s.bl.length - k;omega,⟨rfl,rfl,fun _ _=>NK.get (l:=[(1,_),(10,_),(11,_),(12,_)]) ⟨rfl,rfl,rfl,rfl,trivial⟩⟩⟩
 ·refine Ct (AG (AJ (AD Z Z (AI (Af ?_)))));exact ⟨_,[],[],Ae rfl,rfl,rfl,IQ (by unfold admS;rw [YM hk (by have h:=h13;omega)];rfl),rfl⟩
def Up (x:Nat) (r:List Int):Int:=((List.range r.length).map fun i=>if x.testBit i=true then r.getD i 0 else 0).sum
def MK (s:Sma) (x:Nat) (k:Nat):Bool:=decide (s.rm.getD k 0+Up x (s.de.getD k [])<0)
def feaS (s:Sma) (x:Nat):Bool:=!(List.range s.rm.length).any (MK s x)
def NR (x:Nat) (r:List Int) (k:Nat) (a:Int):Int:=(List.range k).foldl (fun c i=>c+if x.testBit i=true then r.getD i 0 else 0) a
theorem rowP_eq (x:Nat) (r:List Int) (a:Int):NR x r r.length a=a+Up x r:=by
 unfold NR Up
 have key:∀(l:List Nat) (a:Int),l.foldl (fun c i=>c+if x.testBit i=true then r.getD i 0 else 0) a=a+(l.map fun i=>if x.testBit i=true then r.getD i 0 else 0).sum:=fun l=>by
  induction l with
  | nil=>intro a;simp
  | cons i l ih=>intro a;rw [List.foldl_cons,ih,List.map_cons,List.sum_cons];omega
 exact key _ _
theorem Fn (x:Nat) (r:List Int) (k:Nat) (a:Int):NR x r (k+1) a=NR x r k a+if x.testBit k=true then r.getD k 0 else 0:=by
 unfold NR;rw [List.range_succ,List.foldl_append];rfl
theorem W6 {x:Nat} {r:List Int} (hr:∀v∈r,-1000000000000000≤v∧v≤1000000000000000) (a:Int):∀k:Nat,k≤1000 ->a - k*1000000000000000≤NR x r k a∧NR x r k a≤a+k*1000000000000000
 | 0,_=>by unfold NR;simp
 | k+1,h=>by
  have ih:=W6 (x:=x) hr a k (by omega);rw [Fn]
  have hv: -1000000000000000≤r.getD k 0∧r.getD k 0≤1000000000000000:=by
   rw [List.getD_eq_getElem?_getD]
   cases hk:r[k]? with
   | none=>simp
   | some v=>exact hr v (List.mem_of_getElem? hk)
  split<;>omega
theorem Xq (s:Sma) (x:Nat) (hx:x<4294967296) (hn:s.rm.length≤100000) (hde:s.de.length=s.rm.length) (hdl:∀r∈s.de,r.length≤32∧∀v∈r,-1000000000000000≤v∧v≤1000000000000000) (hrm:∀v∈s.rm,0≤v∧v≤4000000000000000):AT Tryz.prog 26 [.d (.ptr (I7 s)),.d (Er x)] (B5 (feaS s x)):=by
 refine B6 Tryz.func26 Z Z Tryz.ntmps26 Z Z Z fun F hF=>(AG (AJ (AD Z Z (AI (AG (AG (AJ (AC Z Z ?_))))))))
 first | refine J (B1 Z Z) ?_ | refine J (BY Z Z) ?_ | refine J (B2 Z Z) ?_ | refine J (BZ Z Z) ?_
 first | refine J (AO rfl Ob Z Z Z) ?_ | refine J (AQ rfl Ob Z Z Z) ?_ | refine J (AR rfl Ob Z Z Z) ?_ | refine J (AP rfl Ob Z Z Z) ?_ | refine J (AN rfl Ob Z Z Z) ?_
 first | refine J (A0 Z Z MN rfl) ?_ | refine J (AX Z Z Z MN rfl) ?_ | refine J (AZ Z Z (rfl) rfl MN rfl) ?_
 first | refine J (Co rfl Tryz.underlying144 rfl) ?_ | refine J (C1 Z Z Tryz.underlying144 rfl) ?_ | refine J (Cp rfl Tryz.underlying144 rfl) ?_ | refine J (Cn rfl Tryz.underlying144 rfl) ?_ | refine J (Ca rfl Tryz.underlying144 rfl) ?_ | refine J (Ck rfl Tryz.underlying144 rfl) ?_
 refine AC Z Z (AI (Aw (EK (α:=Nat) (fun k=>⟨44,[(0,.d (.ptr (I7 s))),(1,.d (Er x)),(12,(.d (.sl none (s.rm.map AF)))),(13,(.d (AF (s.rm.length:Int)))),(14,(.d (AF (k:Int))))],[]⟩) (fun k=>k≤s.rm.length∧∀i,i<k ->MK s x i=false) (fun k=>s.rm.length - k) (0) (⟨Nat.zero_le _,fun i h=>by omega⟩) (UX ⟨rfl,rfl,rfl,rfl,rfl,trivial⟩) ?_)));rintro k ⟨hk0,hk⟩;refine AG (AJ ?_)
 first | refine J (Cc Z Z Z) ?_ | refine J (Cb Z Z Z) ?_
 refine AI (AG ?_)
 first | refine BP rfl (fun h15=>?_) (fun h15=>?_) | refine BK rfl (fun h15=>?_) (fun h15=>?_)
 ·have hk1:k<s.rm.length:=EF h15;refine An (AG (Aw (AG (AJ (AC Z Z ?_)))));have hkd:k<s.de.length:=by omega
  have hgd:=Bh 0 hk1;have hge:=Bh ([]:List Int) hkd;have hrk:=hrm _ (List.getElem_mem hk1);have hdk:=hdl _ (List.getElem_mem hkd)
  first | refine J (Ch (k) Z Z (rfl) (A3 hk1) Tryz.underlying144 rfl sz2 rfl) ?_ | refine J (Cj (k) Z Z (rfl) (A3 hk1) rfl Tryz.underlying144 sz2 rfl) ?_
  first | refine J (A0 Z Z Be rfl) ?_ | refine J (AX Z Z Z Be rfl) ?_ | refine J (AZ Z Z (rfl) rfl Be rfl) ?_
  refine AD Z Z (AD Z Z (AI (AG (AG (AJ (AC Z Z ?_))))))
  first | refine J (B1 Z Z) ?_ | refine J (BY Z Z) ?_ | refine J (B2 Z Z) ?_ | refine J (BZ Z Z) ?_
  first | refine J (AO rfl L7 Z Z Z) ?_ | refine J (AQ rfl L7 Z Z Z) ?_ | refine J (AR rfl L7 Z Z Z) ?_ | refine J (AP rfl L7 Z Z Z) ?_ | refine J (AN rfl L7 Z Z Z) ?_
  first | refine J (A0 Z Z Tl rfl) ?_ | refine J (AX Z Z Z Tl rfl) ?_ | refine J (AZ Z Z (rfl) rfl Tl rfl) ?_
  refine AC Z Z ?_
  first | refine J (Ch (k) Z Z (rfl) (A3 hkd) Tryz.underlying143 rfl WH rfl) ?_ | refine J (Cj (k) Z Z (rfl) (A3 hkd) rfl Tryz.underlying143 WH rfl) ?_
  first | refine J (A0 Z Z MN rfl) ?_ | refine J (AX Z Z Z MN rfl) ?_ | refine J (AZ Z Z (rfl) rfl MN rfl) ?_
  first | refine J (Co rfl Tryz.underlying144 rfl) ?_ | refine J (C1 Z Z Tryz.underlying144 rfl) ?_ | refine J (Cp rfl Tryz.underlying144 rfl) ?_ | refine J (Cn rfl Tryz.underlying144 rfl) ?_ | refine J (Ca rfl Tryz.underlying144 rfl) ?_ | refine J (Ck rfl Tryz.underlying144 rfl) ?_
  refine AC Z Z (AI (Aw (EK (α:=Nat) (fun j=>⟨44,[(0,.d (.ptr (I7 s))),(1,.d (Er x)),(6,(.d (AF (NR x s.de[k] j s.rm[k])))),(12,(.d (.sl none (s.rm.map AF)))),(13,(.d (AF (s.rm.length:Int)))),(14,(.d (AF (k:Int)))),(25,(.d (.sl none (s.de[k].map AF)))),(26,(.d (AF (s.de[k].length:Int)))),(27,(.d (AF (j:Int))))],[]⟩) (fun j=>j≤s.de[k].length) (fun j=>s.de[k].length - j) (0) (Nat.zero_le _) (UX ⟨rfl,rfl,rfl,rfl,rfl,rfl,rfl,rfl,rfl,trivial⟩) ?_)));rintro j hj0;refine AG (AJ ?_)
  first | refine J (Cc Z Z Z) ?_ | refine J (Cb Z Z Z) ?_
  refine AI (AG ?_)
  first | refine BP rfl (fun h28=>?_) (fun h28=>?_) | refine BK rfl (fun h28=>?_) (fun h28=>?_)
  ·have hj1:j<s.de[k].length:=EF h28;refine An (AG (Aw (AG (AJ (AC Z Z ?_)))));have hgj:=Bh 0 hj1;have hpb:=W6 (x:=x) hdk.2 s.rm[k] j (by omega);have hvj:=hdk.2 _ (List.getElem_mem hj1)
   first | refine J (Ch (j) Z Z (rfl) (A3 hj1) Tryz.underlying144 rfl sz2 rfl) ?_ | refine J (Cj (j) Z Z (rfl) (A3 hj1) rfl Tryz.underlying144 sz2 rfl) ?_
   first | refine J (A0 Z Z Be rfl) ?_ | refine J (AX Z Z Z Be rfl) ?_ | refine J (AZ Z Z (rfl) rfl Be rfl) ?_
   refine AD Z Z (AD Z Z (AI (AG (AJ (AC Z Z (AC Z Z (J (Ow Z Z (by omega) (shrU x j (by omega)) rfl) (J (EZ Z Z Z (YN (SI hx j)) rfl) ?_))))))))
   first | refine J (EX Z Z Z) ?_ | refine J (EY Z Z Z) ?_ | refine J (EO Z Z Z) ?_ | refine J (ER Tryz.underlying79 Z Z Z) ?_ | refine J (EU Tryz.underlying79 Z Z Z) ?_ | refine J (ET Tryz.underlying79 Z Z) ?_ | refine J (ES Tryz.underlying79 Z Z Z) ?_ | refine J (EW Tryz.underlying79 Z Z) ?_
   refine AI ?_
   first | refine BP rfl (fun h36=>?_) (fun h36=>?_) | refine BK rfl (fun h36=>?_) (fun h36=>?_)
   ·refine AJ ?_;refine AC Z Z (AC Z Z (J (By Z Z (IntWalk.i64_in _ (by omega)) rfl) (AD Z Z (AI (AJ (J (By Z Z (Ad (j+1) (by omega)) rfl) (AC Z Z (AI ?_))))))))
    first | exact ⟨j+1,by show j+1≤_;omega,by show s.de[k].length - (j+1)<s.de[k].length - j;omega,⟨rfl,rfl,fun _ _=>NK.get (l:=[(0,_),(1,_),(6,_),(12,_),(13,_),(14,_),(25,_),(26,_),(27,_)]) ⟨rfl,rfl,by rw [Fn,if_pos ((KC x j).1 h36),hgj];rfl,rfl,rfl,rfl,rfl,rfl,rfl,trivial⟩⟩⟩ | exact ⟨j+1,by show j+1≤_;omega,by show s.de[k].length - (j+1)<s.de[k].length - j;omega,⟨rfl,rfl,fun _ _=>NK.get (l:=[(0,_),(1,_),(6,_),(12,_),(13,_),(14,_),(25,_),(26,_),(27,_)]) ⟨rfl,rfl,by rw [Fn,if_neg (by rw [NB h36];decide),Int.add_zero];rfl,rfl,rfl,rfl,rfl,rfl,rfl,trivial⟩⟩⟩
   ·refine An (AJ (J (By Z Z (Ad (j+1) (by omega)) rfl) (AC Z Z (AI ?_))))
    first | exact ⟨j+1,by show j+1≤_;omega,by show s.de[k].length - (j+1)<s.de[k].length - j;omega,⟨rfl,rfl,fun _ _=>NK.get (l:=[(0,_),(1,_),(6,_),(12,_),(13,_),(14,_),(25,_),(26,_),(27,_)]) ⟨rfl,rfl,by rw [Fn,if_pos ((KC x j).1 h36),hgj];rfl,rfl,rfl,rfl,rfl,rfl,rfl,trivial⟩⟩⟩ | exact ⟨j+1,by show j+1≤_;omega,by show s.de[k].length - (j+1)<s.de[k].length - j;omega,⟨rfl,rfl,fun _ _=>NK.get (l:=[(0,_),(1,_),(6,_),(12,_),(13,_),(14,_),(25,_),(26,_),(27,_)]) ⟨rfl,rfl,by rw [Fn,if_neg (by rw [NB h36];decide),Int.add_zero];rfl,rfl,rfl,rfl,rfl,rfl,rfl,trivial⟩⟩⟩
  ·have hov1:NR x s.de[k] j s.rm[k]=s.rm[k]+Up x s.de[k]:=by have e:j=s.de[k].length:=by {have h:=h28;omega};rw [e,rowP_eq]
   refine Ct (AG (AJ (AC Z Z ?_)))
   first | refine J (Cc Z Z Z) ?_ | refine J (Cb Z Z Z) ?_
   refine AI ?_
   first | refine BP rfl (fun h42=>?_) (fun h42=>?_) | refine BK rfl (fun h42=>?_) (fun h42=>?_)
   ·refine AG (AJ (AD Z Z (AI (Af ?_))));exact ⟨_,[],[],Ae rfl,rfl,rfl,IQ (by unfold feaS;rw [UP hk1 (by unfold MK;rw [hgd,hge,←hov1];exact decide_eq_true h42)];rfl),rfl⟩
   ·refine An (AJ ?_);have hov:MK s x k=false:=by unfold MK;rw [hgd,hge,←hov1];exact decide_eq_false h42
    refine J (By Z Z (Ad (k+1) (by omega)) rfl) (AC Z Z (AI ?_));exact ⟨k+1,⟨by show k+1≤_;omega,fun i hi=>by rcases Nat.lt_or_ge i k with h | h;exact hk i h;have e:i=k:=by {omega};subst e;exact hov⟩,by show s.rm.length - (k+1)<s.rm.length - k;omega,⟨rfl,rfl,fun _ _=>NK.get (l:=[(0,_),(1,_),(12,_),(13,_),(14,_)]) ⟨rfl,rfl,rfl,rfl,rfl,trivial⟩⟩⟩
 ·refine Ct (AG (AJ (AD Z Z (AI (Af ?_)))));exact ⟨_,[],[],Ae rfl,rfl,rfl,IQ (by unfold feaS;rw [YM hk (by have h:=h15;omega)];rfl),rfl⟩
def listS (s:Sma) (x:Nat):List Int:=((List.range s.ids.length).filter fun i=>x.testBit i).map fun i=>s.ids.getD i 0
theorem M6 (s:Sma) (x k:Nat):(((List.range (k+1)).filter fun i=>x.testBit i).map fun i=>s.ids.getD i 0)=(((List.range k).filter fun i=>x.testBit i).map fun i=>s.ids.getD i 0)++if x.testBit k=true then [s.ids.getD k 0] else []:=by
 rw [List.range_succ,List.filter_append,List.map_append]
 congr 1
 by_cases h:x.testBit k=true
 ·rw [if_pos h];simp [h]
 ·rw [if_neg h];simp [h]
theorem listS_p (s:Sma) (x:Nat) (hx:x<4294967296) (hn:s.ids.length≤32):AT Tryz.prog 27 [.d (.ptr (I7 s)),.d (Er x)] (.sl none ((listS s x).map AF)):=by
 refine B6 Tryz.func27 Z Z Tryz.ntmps27 Z Z Z fun F hF=>(AG (AJ (AD Z Z (AI ?_))));refine AG (AJ (AD Z Z (AI (AG (AG (Du 5 900 CS Z Z Z Z (AJ (AC Z Z ?_))))))))
 first | refine J (B1 Z Z) ?_ | refine J (BY Z Z) ?_ | refine J (B2 Z Z) ?_ | refine J (BZ Z Z) ?_
 first | refine J (AO rfl Hb Z Z Z) ?_ | refine J (AQ rfl Hb Z Z Z) ?_ | refine J (AR rfl Hb Z Z Z) ?_ | refine J (AP rfl Hb Z Z Z) ?_ | refine J (AN rfl Hb Z Z Z) ?_
 first | refine J (A0 Z Z BD rfl) ?_ | refine J (AX Z Z Z BD rfl) ?_ | refine J (AZ Z Z (rfl) rfl BD rfl) ?_
 first | refine J (Co rfl Tryz.underlying33 rfl) ?_ | refine J (C1 Z Z Tryz.underlying33 rfl) ?_ | refine J (Cp rfl Tryz.underlying33 rfl) ?_ | refine J (Cn rfl Tryz.underlying33 rfl) ?_ | refine J (Ca rfl Tryz.underlying33 rfl) ?_ | refine J (Ck rfl Tryz.underlying33 rfl) ?_
 refine AC Z Z (AI (Aw (EN (α:=Nat×List Int) (fun q=>⟨29,[(1,.d (Er x)),(5,(.own 900 0 q.2.length)),(11,(.d (.sl none (s.ids.map AF)))),(12,(.d (AF (s.ids.length:Int)))),(13,(.d (AF (q.1:Int))))],[(900,[.rowD 3 1 (q.2.map AF)])]⟩) (fun q=>q.1≤s.ids.length∧q.2=(((List.range q.1).filter fun i=>x.testBit i).map fun i=>s.ids.getD i 0)∧q.2.length≤q.1) (fun q=>s.ids.length - q.1) ((0,[])) (⟨Nat.zero_le _,rfl,Nat.le_refl _⟩) (BS hF [900] Z Z ⟨rfl,rfl,rfl,rfl,rfl,trivial⟩) ?_)));rintro ⟨k,acc⟩ ⟨hk0,hA,hL⟩;dsimp only at hk0 hA hL⊢;refine AG (AJ ?_)
 first | refine J (Cc Z Z Z) ?_ | refine J (Cb Z Z Z) ?_
 refine AI (AG ?_)
 first | refine BP rfl (fun h14=>?_) (fun h14=>?_) | refine BK rfl (fun h14=>?_) (fun h14=>?_)
 ·have hk1:k<s.ids.length:=EF h14;refine An (AG (Aw (AG (AJ (AC Z Z ?_)))));have hgd:=Bh 0 hk1
  first | refine J (Ch (k) Z Z (rfl) (A3 hk1) Tryz.underlying33 rfl Et rfl) ?_ | refine J (Cj (k) Z Z (rfl) (A3 hk1) rfl Tryz.underlying33 Et rfl) ?_
  first | refine J (A0 Z Z Aa rfl) ?_ | refine J (AX Z Z Z Aa rfl) ?_ | refine J (AZ Z Z (rfl) rfl Aa rfl) ?_
  refine AD Z Z (AD Z Z (AI (AG (AJ (AC Z Z (AC Z Z (J (Ow Z Z (by omega) (shrU x k (by omega)) rfl) (J (EZ Z Z Z (YN (SI hx k)) rfl) ?_))))))))
  first | refine J (EX Z Z Z) ?_ | refine J (EY Z Z Z) ?_ | refine J (EO Z Z Z) ?_ | refine J (ER Tryz.underlying79 Z Z Z) ?_ | refine J (EU Tryz.underlying79 Z Z Z) ?_ | refine J (ET Tryz.underlying79 Z Z) ?_ | refine J (ES Tryz.underlying79 Z Z Z) ?_ | refine J (EW Tryz.underlying79 Z Z) ?_
  refine AI ?_
  first | refine BP rfl (fun h22=>?_) (fun h22=>?_) | refine BK rfl (fun h22=>?_) (fun h22=>?_)
  ·refine AJ (AC Z Z (AC Z Z (G (Fg 1 CS Z Z Z Z Z Z Z Z) ?_)))
   first | refine G (IX (acc) ([s.ids[k]]) Z Z Z Z Z Z Z Z CS (by simp only [List.length_singleton];omega) Z Z Z Z) ?_ | refine G (Kp (acc) ([s.ids[k]]) Z Z Z Z Z Z (fun _=>rfl) CS (by simp only [List.length_singleton];omega) Z Z Z Z) ?_
   refine AD Z Z (AI (AJ (J (By Z Z (Ad (k+1) (by omega)) rfl) (AC Z Z (AI ?_)))));exact ⟨(k+1,acc++ [s.ids[k]]),⟨by show k+1≤_;omega,by show acc++ [s.ids[k]]=_;rw [M6,if_pos ((KC x k).1 h22),hgd,←hA],by show (acc++ [s.ids[k]]).length≤k+1;rw [List.length_append];simp;omega⟩,by show s.ids.length - (k+1)<s.ids.length - k;omega,BS hF [900] rfl (rfl) ⟨rfl,rfl,rfl,rfl,rfl,trivial⟩⟩
  ·refine An (AJ (J (By Z Z (Ad (k+1) (by omega)) rfl) (AC Z Z (AI ?_))));exact ⟨(k+1,acc),⟨by show k+1≤_;omega,by show acc=_;rw [M6,if_neg (by rw [NB h22];decide),List.append_nil,←hA],by show acc.length≤k+1;omega⟩,by show s.ids.length - (k+1)<s.ids.length - k;omega,BS hF [900] rfl (rfl) ⟨rfl,rfl,rfl,rfl,rfl,trivial⟩⟩
 ·refine Ct (AG ?_);have hfa:acc=listS s x:=by rw [hA];have e:k=s.ids.length:=by {have h:=h14;omega};rw [e];rfl
  refine Vn (emb:=AF) 5 900 acc Z Z Z Z Z Z Z (AJ (AC Z Z (AD Z Z (AI (Af ?_)))));exact ⟨_,[],[],Ae rfl,rfl,rfl,by rw [hfa],rfl⟩
def enumX (n:Nat):Nat ->Nat ->Nat ->List Nat
 | 0,_,x=> [x]
 | l+1,frm,x=>((List.range (n+1 - (l+1) - frm)).map (frm+ ·)).flatMap fun i=>enumX n l (i+1) (x ||| 1<<<i)
section
variable {β:Type} (step:β ->Nat ->β×Bool)
def DG:β ->List Nat ->Bool
 | _,[]=>true
 | b,x::r=>match step b x with
  | (b',true)=>DG b' r
  | (_,false)=>false
theorem FE {b:β} {x:Nat} {r:List Nat}:DG step b (x::r)=((step b x).2 && DG step (step b x).1 r):=by
 simp only [DG]
 generalize step b x=y
 obtain ⟨y1,y2⟩:=y
 cases y2<;>rfl
theorem GA:∀(b:β) (l m:List Nat),Bj step b (l++m)=bif DG step b l then Bj step (Bj step b l) m else Bj step b l
 | b,[],m=>rfl
 | b,x::l,m=>by
  rw [List.cons_append,Rm,Rm,FE]
  by_cases h:(step b x).2=true
  ·rw [if_pos h,if_pos h,h,Bool.true_and];exact GA _ l m
  ·have h':(step b x).2=false:=by simpa using h
   rw [if_neg h,if_neg h,h',Bool.false_and];rfl
theorem Kg:∀(b:β) (l m:List Nat),DG step b (l++m)=(DG step b l && DG step (Bj step b l) m)
 | b,[],m=>rfl
 | b,x::l,m=>by
  rw [List.cons_append,Rm,FE,FE]
  by_cases h:(step b x).2=true
  ·rw [if_pos h,h,Bool.true_and,Bool.true_and];exact Kg _ l m
  ·have h':(step b x).2=false:=by simpa using h
   rw [h'];rfl
theorem JA {P:Program} {l:Nat} {enc:Nat ->List AV} {H:β ->Hp}:∀{b:β} {r m:List Nat},C4 P l enc H step b (r++m) ->C4 P l enc H step b r
 | _,[],_,_=>trivial
 | _,_::_,_,h=>⟨h.1,fun hg=>JA (h.2 hg)⟩
theorem Iz {P:Program} {l:Nat} {enc:Nat ->List AV} {H:β ->Hp}:∀{b:β} {r m:List Nat},C4 P l enc H step b (r++m) ->DG step b r=true ->C4 P l enc H step (Bj step b r) m
 | _,[],_,h,_=>h
 | b,x::r,m,h,hb=>by
  rw [FE] at hb
  by_cases hg:(step b x).2=true
  ·rw [hg,Bool.true_and] at hb;rw [Rm,if_pos hg];exact Iz (h.2 hg) hb
  ·have h':(step b x).2=false:=by simpa using hg
   rw [h'] at hb;cases hb
end
theorem OO {nm nm':List Nat} (h:∀f,f∈nm ->f∈nm'):∀{H:Hp},DI nm H=true ->DI nm' H=true:=by
 have hm:∀f,memB f nm=true ->memB f nm'=true:=fun f hf=>En.2 (h f (En.1 hf))
 have ho:∀(l:List AL),Ay nm l=true ->Ay nm' l=true:=by
  intro l
  induction l with
  | nil=>intro _;rfl
  | cons o r ih=>
   intro hr
   cases o with
   | blk t cs=>
    simp only [Ay,Bool.and_eq_true] at hr⊢;refine ⟨?_,ih hr.2⟩
    have key:∀l:List AV,okC (HR nm) l=true ->okC (HR nm') l=true:=by
     intro l
     induction l with
     | nil=>intro _;rfl
     | cons a l ihl=>
      intro hq;simp only [okC,Bool.and_eq_true] at hq⊢;exact ⟨AV.ok_mono (fun f _ hf=>hm f hf) hq.1,ihl hq.2⟩
    exact key _ hr.1
   | row t k xs=>
    simp only [Ay,Bool.and_eq_true,List.all_eq_true] at hr⊢;exact ⟨fun x hx=>Ja (fun f _ hf=>hm f hf) (hr.1 x hx),ih hr.2⟩
   | rowD t k xs=>simp only [Ay] at hr⊢;exact ih hr
   | loop L=>
    simp only [Ay,Bool.and_eq_true] at hr⊢;refine ⟨?_,ih hr.2⟩
    have key:∀e:List (Nat×AV),HK (HR nm) e=true ->HK (HR nm') e=true:=by
     intro e
     induction e with
     | nil=>intro _;rfl
     | cons q e ihe=>
      obtain ⟨t,a⟩:=q;intro hq;simp only [HK,Bool.and_eq_true] at hq⊢;exact ⟨AV.ok_mono (fun f _ hf=>hm f hf) hq.1,ihe hq.2⟩
    exact key _ hr.1
   | map bs es=>simp only [Ay] at hr⊢;exact ih hr
   | iter f i c seen=>simp only [Ay,Bool.and_eq_true] at hr⊢;exact ⟨hm _ hr.1,ih hr.2⟩
   | addr f i v=>simp only [Ay,Bool.and_eq_true] at hr⊢;exact ⟨hm _ hr.1,ih hr.2⟩
   | any=>simp only [Ay] at hr⊢;exact ih hr
   | nb _ _ _=>simp only [Ay] at hr⊢;exact ih hr
   | nr _ _ _ _ _=>simp only [Ay] at hr⊢;exact ih hr
   | multi _=>simp only [Ay] at hr⊢;exact ih hr
 intro H
 induction H with
 | nil=>intro _;rfl
 | cons q r ih=>
  obtain ⟨f,l⟩:=q;intro hh;simp only [DI,Bool.and_eq_true] at hh⊢;exact ⟨ho _ hh.1,ih hh.2⟩
theorem SS {nm:List Nat} {f:Nat} {x:List AL} {H:Hp} (hf:memB f nm=false) (hH:Bw nm H=some []):Bw nm ((f,x)::H)=some [(f,x)]:=by
 simp only [Bw,hH,hf]
abbrev cS (s:Sma):AV:= .d (.ptr (.ptr (I7 s)))
abbrev cY (l:Nat):AV:= .d (.ptr (.raw (CA l)))
abbrev fnX (s:Sma) (l:Nat):AV:= .fn 61 [cS s,cY l,.ptr 980 0 0]
abbrev blkX (s:Sma) (l:Nat):Nat×List AL:=(980,[.blk 141 [fnX s l]])
abbrev HX (s:Sma) (l:Nat) (h:Hp):Hp:=blkX s l::h
def N0 (x:Nat):List AV:=[.d (Er x)]
theorem OR {f g:Nat} {x:List AL} (hg:g≠f):∀H:Hp,hfam (H++ [(f,x)]) g=hfam H g
 | []=>by simp only [List.nil_append,hfam,EM (Ne.symm hg)]
 | (k,y)::H=>by
  simp only [List.cons_append,hfam,OR hg H]
theorem HS {f:Nat} {x:List AL}:∀{H:Hp},hfam H f=none ->hfam (H++ [(f,x)]) f=some x
 | [],_=>by simp only [List.nil_append,hfam,Nat.beq_refl]
 | (k,y)::H,h=>by
  simp only [hfam] at h;simp only [List.cons_append,hfam]
  cases hk:Nat.beq k f with
  | true=>rw [hk] at h;cases h
  | false=>rw [hk] at h;exact HS h
theorem Kb {H:Hp} {f:Nat} (h:memB f (hpN H)=false):hfam H f=none:=by
 cases hh:hfam H f with
 | none=>rfl
 | some l=>
  have:=En.2 (UB hh);rw [h] at this;cases this
theorem Uz {f:Nat} {x:List AL} {H:Hp} {N:List Nat} (hN:hpN H=N) (hP:Am H N=some H) (hm:memB f N=false):Am (H++ [(f,x)]) (f::N)=some ((f,x)::H):=by
 have key:∀M:List Nat,memB f M=false ->Am (H++ [(f,x)]) M=Am H M:=by
  intro M
  induction M with
  | nil=>intro _;rfl
  | cons g M ih=>
   intro h;simp only [memB,Bool.or_eq_false_iff] at h
   have hne:g≠f:=fun e=>by
    have:=h.1;rw [e] at this
    first | (rw [Nat.beq_refl] at this;cases this) | simp at this
   simp only [Am,ih h.2,OR hne]
 have h1:=HS (x:=x) (Kb (H:=H) (f:=f) (by rw [hN];exact hm));simp only [Am,key N hm,hP,h1]
theorem LJ {α β:Type} (p:β ->Bool) (f:α ->List β):∀l:List α,(l.flatMap f).filter p=l.flatMap fun a=>(f a).filter p
 | []=>rfl
 | a::l=>by rw [List.flatMap_cons,List.filter_append,List.flatMap_cons,LJ p f l]
theorem keep980 {s:Sma} {l:Nat} {CH:Hp} {N:List Nat} (hm:memB 980 N=false):CB (Bx CH N) [blkX s l]=some [blkX s l]:=by
 have h:Bx CH N 980 0=true:=by unfold Bx;rw [hm];rfl
 simp only [CB,Cv,CJ,K8,AV.ok,Tn,AV.okS,h,Bool.and_true]
theorem fams980 {s:Sma} {l:Nat} {h:Hp} {N:List Nat} (hm:memB 980 N=false):CK (HX s l h) h N:=Zdd fun g hg=>by
 have hne:980≠g:=fun e=>by
  have:=En.2 hg;rw [←e,hm] at this;cases this
 simp only [hfam,EM hne]
section
variable {β:Type}
theorem ext_c (s:Sma) (hbl:∀b∈s.bl,b<4294967296) (hbn:s.bl.length≤32) (hn:s.ids.length≤31) (l:Nat) (H:β ->Hp) (N:List Nat) (step:β ->Nat ->β×Bool) (hN:∀st,hpN (H st)=N) (hI:∀st,DI N (H st)=true) (hP:∀st,Am (H st) N=some (H st)) (hm:memB 980 N=false):
  ∀(left frm x:Nat) (st0:β),frm≤32 ->left≤32 ->x<4294967296 ->C4 Tryz.prog l N0 H step st0 ((enumX s.ids.length left frm x).filter (admS s))→
  A6 Tryz.prog 61 [.d (Er x),.d (AF (frm:Int)),.d (AF (left:Int)),cS s,cY l,.ptr 980 0 0] (HX s l (H st0)) fun r H'=>r= .d (B5 (DG step st0 ((enumX s.ids.length left frm x).filter (admS s))))∧H'=HX s l (H (Bj step st0 ((enumX s.ids.length left frm x).filter (admS s)))):=by
 have x1:∀st,AW (980::N) (HX s l (H st))=true:=fun st=>by have h:=YY (HX s l (H st));rw [show hpN (HX s l (H st))=980::N from by show 980::hpN (H st)=_;rw [hN]] at h;exact h
 have x2:∀st,Bw (980::N) (HX s l (H st))=some []:=fun st=>by have h:=Fp (HX s l (H st));rw [show hpN (HX s l (H st))=980::N from by show 980::hpN (H st)=_;rw [hN]] at h;exact h
 have x3:∀st,DI (980::N) (HX s l (H st))=true:=fun st=>by
  have h:=OO (nm:=N) (nm':=980::N) (fun f hf=>List.mem_cons_of_mem _ hf) (hI st);simp only [DI,h,Bool.and_true];rfl
 have x4:∀st,Am (HX s l (H st)) (980::N)=some (HX s l (H st)):=fun st=>by
  have h:=(Q3 (x:=[.blk 141 [fnX s l]]) hm).trans (hP st);simp only [Am,h];rfl
 have x5:∀st,AW N (H st)=true:=fun st=>by have h:=YY (H st);rw [hN] at h;exact h
 have x6:∀st,Bw N (HX s l (H st))=some [blkX s l]:=fun st=>SS hm (by have h:=Fp (H st);rw [hN] at h;exact h);intro left
 induction left with
 | zero=>
  intro frm x st0 hfr _ hx hfd;have hadm:=admS_p s x hx hbl hbn
  cases ha:admS s x with
  | true=>
   have hL:([x].filter (admS s))=[x]:=by simp [ha]
   rw [show enumX s.ids.length 0 frm x=[x] from rfl,hL] at hfd⊢;rw [ha] at hadm;have hfb:DG step st0 [x]=(step st0 x).2:=by rw [FE];simp [DG]
   have hfe:Bj step st0 [x]=(step st0 x).1:=by rw [Rm];split<;>rfl
   rw [hfb,hfe];refine B6 Tryz.func61 Z Z Tryz.ntmps61 Z Z Z fun F hF=>(AG (AJ (AD Z Z (AI (AG (AG (AJ (AC Z Z ?_))))))))
   first | refine J (EX Z Z Z) ?_ | refine J (EY Z Z Z) ?_ | refine J (EO Z Z Z) ?_ | refine J (ER Tryz.underlying3 Z Z Z) ?_ | refine J (EU Tryz.underlying3 Z Z Z) ?_ | refine J (ET Tryz.underlying3 Z Z) ?_ | refine J (ES Tryz.underlying3 Z Z Z) ?_ | refine J (EW Tryz.underlying3 Z Z) ?_
   refine AI (EL rfl (rfl) (AG (AJ ?_)))
   first | refine J (A0 Z Z Ce rfl) ?_ | refine J (AX Z Z Z Ce rfl) ?_ | refine J (AZ Z Z (rfl) rfl Ce rfl) ?_
   refine AC Z Z (J (BO (hadm) Z Z) ?_)
   first | refine J (G9 Z Z) ?_ | refine J (GJ Z Z) ?_
   refine AC Z Z (HL 17 rfl (rfl) (A9 Z Z Z ?_))
   first | refine J (A0 Z Z on83 rfl) ?_ | refine J (AX Z Z Z on83 rfl) ?_ | refine J (AZ Z Z (rfl) rfl on83 rfl) ?_
   refine A9 Z Z Z (AC Z Z (S9 [9,17,18,19] rfl (A9 Z Z Z ?_)));refine MQ Z Z hfd.1 N (fams980 hm) (x5 st0) (x6 st0) rfl (keep980 hm) (fun r H' ⟨e1,e2⟩=>by subst e1 e2;exact ⟨x5 _,hI _,rfl⟩) rfl fun r H' ⟨e1,e2⟩=>?_;subst e1 e2;refine J (EG Z Z Z Z) (AD Z Z (AI (Af ?_)));exact ⟨_,980::N,_,Ae rfl,Uz (hN _) (hP _) hm,x1 _,rfl,rfl⟩
  | false=>
   have hL:([x].filter (admS s))=[]:=by simp [ha]
   rw [show enumX s.ids.length 0 frm x=[x] from rfl,hL] at hfd⊢;rw [ha] at hadm;refine B6 Tryz.func61 Z Z Tryz.ntmps61 Z Z Z fun F hF=>(AG (AJ (AD Z Z (AI (AG (AG (AJ (AC Z Z ?_))))))))
   first | refine J (EX Z Z Z) ?_ | refine J (EY Z Z Z) ?_ | refine J (EO Z Z Z) ?_ | refine J (ER Tryz.underlying3 Z Z Z) ?_ | refine J (EU Tryz.underlying3 Z Z Z) ?_ | refine J (ET Tryz.underlying3 Z Z) ?_ | refine J (ES Tryz.underlying3 Z Z Z) ?_ | refine J (EW Tryz.underlying3 Z Z) ?_
   refine AI (EL rfl (rfl) (AG (AJ ?_)))
   first | refine J (A0 Z Z Ce rfl) ?_ | refine J (AX Z Z Z Ce rfl) ?_ | refine J (AZ Z Z (rfl) rfl Ce rfl) ?_
   refine AC Z Z (J (BO (hadm) Z Z) ?_)
   first | refine J (G9 Z Z) ?_ | refine J (GJ Z Z) ?_
   refine AC Z Z (NI 17 rfl (rfl) (Ac Z Z Z Z (Ac Z Z Z Z (Ac Z Z Z Z (J (DX Z Z Z Z) (AD Z Z (AI (Af ?_))))))));exact ⟨_,980::N,_,Ae rfl,x4 _,x1 _,rfl,rfl⟩
 | succ left ih=>
  intro frm x st0 hfr hle hx hfd
  obtain ⟨cnt,hcnt⟩:∃c,s.ids.length+1 - (left+1) - frm=c:=⟨_,rfl⟩
  obtain ⟨pos,hpos⟩:∃c,(List.range cnt).map (frm+ ·)=c:=⟨_,rfl⟩
  obtain ⟨f,hf⟩:∃g:Nat ->List Nat,(fun i=>(enumX s.ids.length left (i+1) (x ||| 1<<<i)).filter (admS s))=g:=⟨_,rfl⟩
  have hLL:(enumX s.ids.length (left+1) frm x).filter (admS s)=pos.flatMap f:=by
   show ((((List.range (s.ids.length+1 - (left+1) - frm)).map (frm+ ·)).flatMap fun i=>enumX s.ids.length left (i+1) (x ||| 1<<<i))).filter (admS s)=_;rw [LJ,hcnt,hpos,hf]
  have hpl:pos.length=cnt:=by rw [←hpos];simp
  have hpk:∀k,k<cnt ->(pos.drop k).flatMap f=f (frm+k)++(pos.drop (k+1)).flatMap f:=fun k hk=>by
   have hk':k<pos.length:=by rw [hpl];exact hk
   rw [List.drop_eq_getElem_cons hk',List.flatMap_cons]
   congr 2
   subst hpos;simp
  have ih':∀(k:Nat) (st:β),frm+k<32 ->C4 Tryz.prog l N0 H step st (f (frm+k)) ->A6 Tryz.prog 61 [.d (Er (x ||| 1<<<(frm+k))),.d (AF ((frm+k+1:Nat):Int)),.d (AF (left:Int)),cS s,cY l,.ptr 980 0 0] (HX s l (H st)) fun r H'=>r= .d (B5 (DG step st (f (frm+k))))∧H'=HX s l (H (Bj step st (f (frm+k)))):=fun k st h1 h2=>by
   rw [←hf] at h2⊢;exact ih (frm+k+1) (x ||| 1<<<(frm+k)) st (by omega) (by omega) (Tj hx (KP h1)) h2
  rw [hLL] at hfd⊢;refine B6 Tryz.func61 Z Z Tryz.ntmps61 Z Z Z fun F hF=>(AG (AJ (AD Z Z (AI (AG (AG (AJ (AC Z Z ?_))))))))
  first | refine J (EX Z Z Z) ?_ | refine J (EY Z Z Z) ?_ | refine J (EO Z Z Z) ?_ | refine J (ER Tryz.underlying3 Z Z Z) ?_ | refine J (EU Tryz.underlying3 Z Z Z) ?_ | refine J (ET Tryz.underlying3 Z Z) ?_ | refine J (ES Tryz.underlying3 Z Z Z) ?_ | refine J (EW Tryz.underlying3 Z Z) ?_
  refine AI (F4 rfl ((decide_eq_false (by omega))) ?_);refine An (AG (AG (AJ (AC Z Z (AD Z Z (AI (Aw (EK (α:=Nat×β) (fun q=>⟨45,[(0,.d (Er x)),(2,.d (AF ((left+1:Nat):Int))),(3,cS s),(5,.ptr 980 0 0),(10,(.d (AF ((frm+q.1:Nat):Int))))],HX s l (H q.2)⟩) (fun q=>q.1≤cnt∧C4 Tryz.prog l N0 H step q.2 ((pos.drop q.1).flatMap f)∧Bj step q.2 ((pos.drop q.1).flatMap f)=Bj step st0 (pos.flatMap f)∧DG step q.2 ((pos.drop q.1).flatMap f)=DG step st0 (pos.flatMap f)) (fun q=>cnt - q.1) ((0,st0)) (⟨Nat.zero_le _,hfd,rfl,rfl⟩) (UX ⟨rfl,rfl,rfl,rfl,rfl,trivial⟩) ?_))))))));rintro ⟨k,st⟩ ⟨hk0,hfk,hfin,hfb⟩;dsimp only at hk0 hfk hfin hfb⊢;refine AG (AG (AJ (AC Z Z ?_)))
  first | refine J (A0 Z Z Ce rfl) ?_ | refine J (AX Z Z Z Ce rfl) ?_ | refine J (AZ Z Z (rfl) rfl Ce rfl) ?_
  first | refine J (B1 Z Z) ?_ | refine J (BY Z Z) ?_ | refine J (B2 Z Z) ?_ | refine J (BZ Z Z) ?_
  first | refine J (AO rfl Hb Z Z Z) ?_ | refine J (AQ rfl Hb Z Z Z) ?_ | refine J (AR rfl Hb Z Z Z) ?_ | refine J (AP rfl Hb Z Z Z) ?_ | refine J (AN rfl Hb Z Z Z) ?_
  first | refine J (A0 Z Z BD rfl) ?_ | refine J (AX Z Z Z BD rfl) ?_ | refine J (AZ Z Z (rfl) rfl BD rfl) ?_
  first | refine J (Co rfl Tryz.underlying33 rfl) ?_ | refine J (C1 Z Z Tryz.underlying33 rfl) ?_ | refine J (Cp rfl Tryz.underlying33 rfl) ?_ | refine J (Cn rfl Tryz.underlying33 rfl) ?_ | refine J (Ca rfl Tryz.underlying33 rfl) ?_ | refine J (Ck rfl Tryz.underlying33 rfl) ?_
  refine AC Z Z (J (Ev Z Z (IntWalk.i64_in _ (by omega)) rfl) (J (SB Z Z Z) (AI ?_)))
  first | refine BP rfl (fun h31=>?_) (fun h31=>?_) | refine BK rfl (fun h31=>?_) (fun h31=>?_)
  ·have hk1:k<cnt:=by have h:=h31;omega
   refine An (AG (Aw (AG (Gs [[],[],[],[2],[1,2,3],[],[5],[],[7],[0,1,2,3,4,5,6,7,8],[0,1,2,3,4,5,6,7,8,9]] BF rfl (IK ?_)))));have hA:=hpk k hk1;have hfk2:=hfk;rw [hA] at hfk2;have h32:frm+k<32:=by omega
   first | refine AE [5] [980] Z Z (fun _=>AB (A0 Z Z OG rfl)) ?_ | refine AE [5] [980] Z Z (fun _=>AB (AX Z Z Z OG rfl)) ?_ | refine AE [5] [980] Z Z (fun _=>AB (AZ Z Z (rfl) rfl OG rfl)) ?_
   first | refine AE [0] [] Z Z (fun _=>AB (Bb Z Z)) ?_ | refine AH [0] Z Z (fun _=>AB (Bb Z Z)) ?_
   first | refine AE [10] [] Z Z (fun _=>AB (Bb Z Z)) ?_ | refine AH [10] Z Z (fun _=>AB (Bb Z Z)) ?_
   first | refine AE [36] [] Z Z (fun _=>AB (SA Z Z (by omega) (W0 h32) rfl)) ?_ | refine AH [36] Z Z (fun _=>AB (SA Z Z (by omega) (W0 h32) rfl)) ?_
   first | refine AE [35,37] [] Z Z (fun _=>AB (EZ Z Z Z (orU hx (KP h32)) rfl)) ?_ | refine AH [35,37] Z Z (fun _=>AB (EZ Z Z Z (orU hx (KP h32)) rfl)) ?_
   first | refine AE [10] [] Z Z (fun _=>AB (Bb Z Z)) ?_ | refine AH [10] Z Z (fun _=>AB (Bb Z Z)) ?_
   first | refine AE [39] [] Z Z (fun _=>AB (By Z Z (Ad (frm+k+1) (by omega)) rfl)) ?_ | refine AH [39] Z Z (fun _=>AB (By Z Z (Ad (frm+k+1) (by omega)) rfl)) ?_
   first | refine AE [2] [] Z Z (fun _=>AB (Bb Z Z)) ?_ | refine AH [2] Z Z (fun _=>AB (Bb Z Z)) ?_
   first | refine AE [41] [] Z Z (fun _=>AB (Ev Z Z (show IntKind.i64.wrap (((left+1:Nat):Int) - 1)=((left:Nat):Int) from by rw [show (((left+1:Nat):Int) - 1)=(left:Int) by omega];exact Ad left (by omega)) rfl)) ?_ | refine AH [41] Z Z (fun _=>AB (Ev Z Z (show IntKind.i64.wrap (((left+1:Nat):Int) - 1)=((left:Nat):Int) from by rw [show (((left+1:Nat):Int) - 1)=(left:Int) by omega];exact Ad left (by omega)) rfl)) ?_
   refine Gf 9 Z Z Z (BE 10 Z Z (G (KN (ih' k st h32 (JA step hfk2)) rfl (980::N) (Zdd fun _ _=>rfl) (x1 st) (x2 st) Z Z (x1 _) (x3 _) Z Z Z) ?_));rw [List.append_nil];refine AI ⟨rfl,?_⟩;refine BE 11 Z Z ?_
   first | refine J (G9 Z Z) ?_ | refine J (GJ Z Z) ?_
   refine AI ⟨rfl,?_⟩;refine Ge ?_
   first | refine BP rfl (fun h44=>?_) (fun h44=>?_) | refine BK rfl (fun h44=>?_) (fun h44=>?_)
   ·have hgo:DG step st (f (frm+k))=false:=by simpa using h44
    refine AG (AJ (AD Z Z (AI (Af ?_))));exact ⟨_,980::N,_,Ae rfl,x4 _,x1 _,IQ (by rw [←hfb,hA,Kg,hgo];rfl),by rw [←hfin,hA,GA,hgo];rfl⟩
   ·have hgo:DG step st (f (frm+k))=true:=by simpa using h44
    refine An (AJ (AC Z Z (J (By Z Z (Ad (frm+k+1) (by omega)) rfl) (AD Z Z (AI ?_)))));exact ⟨(k+1,Bj step st (f (frm+k))),⟨by show k+1≤_;omega,Iz step hfk2 hgo,by rw [←hfin,hA,GA,hgo];rfl,by rw [←hfb,hA,Kg,hgo];rfl⟩,by show cnt - (k+1)<cnt - k;omega,⟨rfl,rfl,fun _ _=>NK.get (l:=[(0,_),(2,_),(3,_),(5,_),(10,_)]) ⟨rfl,rfl,rfl,rfl,rfl,trivial⟩⟩⟩
  ·have hk1:¬k<cnt:=by have h:=h31;omega
   refine Ct (AG (AJ (AD Z Z (AI (Af ?_)))));exact ⟨_,980::N,_,Ae rfl,x4 _,x1 _,IQ (by rw [←hfb,List.drop_of_length_le (by omega)];rfl),by rw [←hfin,List.drop_of_length_le (by omega)];rfl⟩
def allX (s:Sma):List Nat:=(List.range (s.ids.length+1)).flatMap fun k=>(enumX s.ids.length k 0 0).filter (admS s)
theorem T7 (s:Sma) (hbl:∀b∈s.bl,b<4294967296) (hbn:s.bl.length≤32) (hn:s.ids.length≤31) (l:Nat) (H:β ->Hp) (N:List Nat) (step:β ->Nat ->β×Bool) (st0:β) (hN:∀st,hpN (H st)=N) (hI:∀st,DI N (H st)=true) (hP:∀st,Am (H st) N=some (H st)) (hm:memB 980 N=false) (hm2:memB 981 N=false)
  (hk:∀st,A4 980 (H st)=some (H st)) (hk2:∀st,A4 981 (H st)=some (H st)) (hfe:C4 Tryz.prog l N0 H step st0 (allX s)):
  A6 Tryz.prog 60 [.d (.raw (CA l)),cS s] (H st0) fun r H'=>r= .tup []∧H'=H (Bj step st0 (allX s)):=by
 have hz:∀st,hfam (H st) 980=none:=fun st=>Kb (by rw [hN];exact hm);have hz2:∀st,hfam (H st) 981=none:=fun st=>Kb (by rw [hN];exact hm2);have hext:=fun k st=>ext_c s hbl hbn hn l H N step hN hI hP hm k 0 0 st (by omega);have x1:∀st,AW (980::N) (HX s l (H st))=true:=fun st=>by have h:=YY (HX s l (H st));rw [show hpN (HX s l (H st))=980::N from by show 980::hpN (H st)=_;rw [hN]] at h;exact h
 have x2:∀st,Bw (980::N) (HX s l (H st))=some []:=fun st=>by have h:=Fp (HX s l (H st));rw [show hpN (HX s l (H st))=980::N from by show 980::hpN (H st)=_;rw [hN]] at h;exact h
 have x3:∀st,DI (980::N) (HX s l (H st))=true:=fun st=>by
  have h:=OO (nm:=N) (nm':=980::N) (fun f hf=>List.mem_cons_of_mem _ hf) (hI st);simp only [DI,h,Bool.and_true];rfl
 have x5:∀st,AW N (H st)=true:=fun st=>by have h:=YY (H st);rw [hN] at h;exact h
 have x8:∀st,Am (HX s l (H st)) N=some (H st):=fun st=>(Q3 hm).trans (hP st)
 obtain ⟨f,hf⟩:∃g:Nat ->List Nat,(fun k=>(enumX s.ids.length k 0 0).filter (admS s))=g:=⟨_,rfl⟩
 have hall:allX s=(List.range (s.ids.length+1)).flatMap f:=by unfold allX;rw [hf]
 have hext':∀k st,k≤32 ->C4 Tryz.prog l N0 H step st (f k) ->A6 Tryz.prog 61 [.d (Er 0),.d (AF ((0:Nat):Int)),.d (AF (k:Int)),cS s,cY l,.ptr 980 0 0] (HX s l (H st)) fun r H'=>r= .d (B5 (DG step st (f k)))∧H'=HX s l (H (Bj step st (f k))):=fun k st h1 h2=>by
  rw [←hf] at h2⊢;exact hext k st h1 (by omega) h2
 have hrk:∀k,k<s.ids.length+1 ->((List.range (s.ids.length+1)).drop k).flatMap f=f k++((List.range (s.ids.length+1)).drop (k+1)).flatMap f:=fun k hk=>by
  rw [List.drop_eq_getElem_cons (by simpa using hk),List.flatMap_cons,List.getElem_range]
 rw [hall] at hfe⊢;refine B6 Tryz.func60 Z Z Tryz.ntmps60 Z Z Z fun F hF=>(AG (AJ (G (CV 981 Z Z Z Z (hk2 _) (Xl (hz2 _)) rfl) (AI (AG (O9 2 981 (.raw (CA l)) N (hF.trans (hN st0)) Z Z Z (by intro c hc;simp [D.cells] at hc;subst hc;rfl) hm2 (Nh N) ((Q3 hm2).trans (hP _)) (AJ ?_)))))));refine G (DT 980 zl141 rfl (hk _) (Xl (hz _)) rfl) (AI (AG (AJ (J (DD Z Z) (G (CC Z Z Z Z Z Z Z sz141) (AI (AG (AJ ?_))))))))
 first | refine J (A0 Z Z Ce rfl) ?_ | refine J (AX Z Z Z Ce rfl) ?_ | refine J (AZ Z Z (rfl) rfl Ce rfl) ?_
 first | refine J (B1 Z Z) ?_ | refine J (BY Z Z) ?_ | refine J (B2 Z Z) ?_ | refine J (BZ Z Z) ?_
 first | refine J (AO rfl Hb Z Z Z) ?_ | refine J (AQ rfl Hb Z Z Z) ?_ | refine J (AR rfl Hb Z Z Z) ?_ | refine J (AP rfl Hb Z Z Z) ?_ | refine J (AN rfl Hb Z Z Z) ?_
 first | refine J (A0 Z Z BD rfl) ?_ | refine J (AX Z Z Z BD rfl) ?_ | refine J (AZ Z Z (rfl) rfl BD rfl) ?_
 first | refine J (Co rfl Tryz.underlying33 rfl) ?_ | refine J (C1 Z Z Tryz.underlying33 rfl) ?_ | refine J (Cp rfl Tryz.underlying33 rfl) ?_ | refine J (Cn rfl Tryz.underlying33 rfl) ?_ | refine J (Ca rfl Tryz.underlying33 rfl) ?_ | refine J (Ck rfl Tryz.underlying33 rfl) ?_
 refine J (By Z Z (Ad (s.ids.length+1) (by omega)) rfl) (AC Z Z (AI (Aw (EK (α:=Nat×β) (fun q=>⟨20,[(3,(.ptr 980 0 0)),(11,(.d (AF ((s.ids.length+1:Nat):Int)))),(12,(.d (AF (q.1:Int))))],HX s l (H q.2)⟩) (fun q=>q.1≤s.ids.length+1∧C4 Tryz.prog l N0 H step q.2 (((List.range (s.ids.length+1)).drop q.1).flatMap f)∧Bj step q.2 (((List.range (s.ids.length+1)).drop q.1).flatMap f)=Bj step st0 ((List.range (s.ids.length+1)).flatMap f)) (fun q=>s.ids.length+1 - q.1) ((0,st0)) (⟨Nat.zero_le _,hfe,rfl⟩) (UX ⟨rfl,rfl,rfl,trivial⟩) ?_))));rintro ⟨k,st⟩ ⟨hk0,hfk,hfin⟩;dsimp only at hk0 hfk hfin⊢;refine AG (AJ ?_)
 first | refine J (Cc Z Z Z) ?_ | refine J (Cb Z Z Z) ?_
 refine AI (AG ?_)
 first | refine BP rfl (fun h13=>?_) (fun h13=>?_) | refine BK rfl (fun h13=>?_) (fun h13=>?_)
 ·have hk1:k<s.ids.length+1:=by have h:=h13;omega
  refine An ?_;refine AG (Aw (AG (AJ (AC Z Z (AD Z Z (AI (AG (AJ ?_))))))));have hA:=hrk k hk1;have hfk2:=hfk;rw [hA] at hfk2
  first | refine J (A0 Z Z OG rfl) ?_ | refine J (AX Z Z Z OG rfl) ?_ | refine J (AZ Z Z (rfl) rfl OG rfl) ?_
  refine AC Z Z (G (KN (hext' k st (by omega) (JA step hfk2)) rfl (980::N) (Zdd fun _ _=>rfl) (x1 st) (x2 st) Z Z (x1 _) (x3 _) Z Z Z) ?_);rw [List.append_nil]
  first | refine J (G9 Z Z) ?_ | refine J (GJ Z Z) ?_
  refine AI ?_
  first | refine BP rfl (fun h18=>?_) (fun h18=>?_) | refine BK rfl (fun h18=>?_) (fun h18=>?_)
  ·have hgo:DG step st (f k)=false:=by simpa using h18
   refine Af ?_;exact ⟨_,N,_,Ae rfl,x8 _,x5 _,rfl,by rw [←hfin,hA,GA,hgo];rfl⟩
  ·have hgo:DG step st (f k)=true:=by simpa using h18
   refine An (AJ (J (By Z Z (Ad (k+1) (by omega)) rfl) (AC Z Z (AI ?_))));exact ⟨(k+1,Bj step st (f k)),⟨by show k+1≤_;omega,Iz step hfk2 hgo,by rw [←hfin,hA,GA,hgo];rfl⟩,by show s.ids.length+1 - (k+1)<s.ids.length+1 - k;omega,⟨rfl,rfl,fun _ _=>NK.get (l:=[(3,_),(11,_),(12,_)]) ⟨rfl,rfl,rfl,trivial⟩⟩⟩
 ·refine Ct ?_;exact ⟨_,N,_,Ae rfl,x8 _,x5 _,rfl,by rw [←hfin,List.drop_of_length_le (by have h:=h13;simp;omega)];rfl⟩
end
theorem W1 (s:Sma):A6 Tryz.prog 25 [.d (.ptr (I7 s))] [] fun r H'=>r= .fn 60 [cS s]∧H'=[]:=by
 refine B6 Tryz.func25 Z Z Tryz.ntmps25 Z Z Z fun F hF=>(AG (AJ (G (CV 1 Z Z Z Z Z Z Z) ?_)));refine AD Z Z (AI (AG (AJ (Hq 1 1 (.ptr (I7 s)) [] hF Z Z Z (by intro c hc;simp [D.cells] at hc;subst hc;rfl) Z Z Z (J (DD Z Z) (AD Z Z (AI (Af ?_))))))));exact ⟨_,[],[],Ae rfl,rfl,rfl,rfl,rfl⟩
theorem bs_lt {l:List Int} {x:Int} (hs:l.Pairwise (· < ·)) (hx:x∈l) {h:Nat} (hh:h<l.length):l[h]<x↔h<l.idxOf x:=by
 have hm:=List.idxOf_lt_length_of_mem hx;have hg:l[l.idxOf x]=x:=List.getElem_idxOf hm;have hp:=List.pairwise_iff_getElem.1 hs
 constructor
 ·intro hlt;rcases Nat.lt_trichotomy h (l.idxOf x) with h1 | h1 | h1
  ·exact h1
  ·exfalso
   have:l[h]=x:=by rw [←hg];congr 1
   omega
  ·have:=hp _ _ hm hh h1;rw [hg] at this;omega
 ·intro hlt;have:=hp _ _ hh hm hlt;rw [hg] at this;exact this
theorem halfU (n:Nat):((n:Nat):Int).fdiv (2^(min (1:Int).toNat IntKind.u64.bits))=((n / 2:Nat):Int):=by
 have h:min (1:Int).toNat IntKind.u64.bits=1:=by decide
 rw [h,Int.fdiv_eq_ediv_of_nonneg _ (by decide)];omega
theorem retBS {i m:Nat} (h:i=m):AV.d (.tup [AF (i:Int),.raw (.bool true)])= .d (.tup [AF (m:Int),B5 true]):=by rw [h]
theorem Vb (l:List Int) (x:Int) (hs:l.Pairwise (· < ·)) (hx:x∈l) (hl:l.length≤1000000):AT Tryz.prog 121 [.d (.sl none (l.map AF)),.d (AF x)] (.tup [AF (l.idxOf x:Nat),B5 true]):=by
 have hm:=List.idxOf_lt_length_of_mem hx;have hg:l[l.idxOf x]=x:=List.getElem_idxOf hm;have hbl:=fun {h:Nat} (hh:h<l.length)=>bs_lt hs hx hh
 obtain ⟨m,hmE⟩:∃m,l.idxOf x=m:=⟨_,rfl⟩
 simp only [hmE] at hm hg hbl⊢;refine B6 Tryz.func121 Z Z Tryz.ntmps121 Z Z Z fun F hF=>(AG (AJ (AD Z Z (AD Z Z (AI (AG (AJ (AC Z Z ?_))))))))
 first | refine J (Co rfl Tryz.underlying33 rfl) ?_ | refine J (C1 Z Z Tryz.underlying33 rfl) ?_ | refine J (Cp rfl Tryz.underlying33 rfl) ?_ | refine J (Cn rfl Tryz.underlying33 rfl) ?_ | refine J (Ca rfl Tryz.underlying33 rfl) ?_ | refine J (Ck rfl Tryz.underlying33 rfl) ?_
 refine AD Z Z (AI ?_);refine AG (AJ (AC Z Z (AD Z Z (AD Z Z (AI (AG (Aw (EK (α:=Nat×Nat) (fun q=>⟨54,[(0,.d (.sl none (l.map AF))),(1,.d (AF x)),(6,(.d (AF (l.length:Int)))),(7,(.d (AF (q.1:Int)))),(8,(.d (AF (q.2:Int))))],[]⟩) (fun q=>q.1≤m∧m≤q.2∧q.2≤l.length) (fun q=>q.2 - q.1) ((0,l.length)) (⟨Nat.zero_le _,Nat.le_of_lt hm,Nat.le_refl _⟩) (UX ⟨rfl,rfl,rfl,rfl,rfl,trivial⟩) ?_))))))));rintro ⟨i,j⟩ ⟨hi,hj,hjl⟩;dsimp only at hi hj hjl⊢;refine AG (AG (AJ (AC Z Z (AC Z Z ?_))))
 first | refine J (Cc Z Z Z) ?_ | refine J (Cb Z Z Z) ?_
 refine AI ?_
 first | refine BP rfl (fun h15=>?_) (fun h15=>?_) | refine BK rfl (fun h15=>?_) (fun h15=>?_)
 ·have hij:i<j:=EF h15;refine An (Aw (AG (AJ (AC Z Z (AC Z Z ?_)))));have hh:(i+j) / 2<l.length:=by omega
  have hcU:IntKind.u64.wrap ((i:Int)+(j:Int))=((i+j:Nat):Int):=(IntWalk.u64_in _ (by omega)).trans (Int.natCast_add i j).symm;refine J (By Z Z (IntWalk.i64_in _ (by omega)) rfl) ?_;refine J (T1 rfl Tryz.underlying3 Tryz.underlying155 (hcU) rfl) (J (Ow Z Z (by omega) (halfU (i+j)) rfl) (J (T1 rfl Tryz.underlying155 Tryz.underlying3 (Ad ((i+j) / 2) (by omega)) rfl) (AD Z Z (AI (AG (AJ (AC Z Z (AC Z Z ?_))))))))
  first | refine J (Ch ((i+j) / 2) Z Z (rfl) (A3 hh) Tryz.underlying33 rfl Et rfl) ?_ | refine J (Cj ((i+j) / 2) Z Z (rfl) (A3 hh) rfl Tryz.underlying33 Et rfl) ?_
  first | refine J (A0 Z Z Aa rfl) ?_ | refine J (AX Z Z Z Aa rfl) ?_ | refine J (AZ Z Z (rfl) rfl Aa rfl) ?_
  refine AC Z Z (J (BO (less_p l[(i+j) / 2] x) Z Z) (AI ?_))
  first | refine BP rfl (fun h27=>?_) (fun h27=>?_) | refine BK rfl (fun h27=>?_) (fun h27=>?_)
  ·refine AJ (AC Z Z (J (By Z Z (Ad ((i+j) / 2+1) (by omega)) rfl) (AD Z Z (AI ?_))));exact ⟨((i+j) / 2+1,j),⟨by show (i+j) / 2+1≤m;have h:=(hbl hh).1 h27;omega,hj,hjl⟩,by show j - ((i+j) / 2+1)<j - i;omega,⟨rfl,rfl,fun _ _=>NK.get (l:=[(0,_),(1,_),(6,_),(7,_),(8,_)]) ⟨rfl,rfl,rfl,rfl,rfl,trivial⟩⟩⟩
  ·refine AJ (AC Z Z (AD Z Z (AI ?_)));exact ⟨(i,(i+j) / 2),⟨hi,by show m≤(i+j) / 2;exact Nat.le_of_not_lt fun h=>h27 ((hbl hh).2 h),by show (i+j) / 2≤l.length;omega⟩,by show (i+j) / 2 - i<j - i;omega,⟨rfl,rfl,fun _ _=>NK.get (l:=[(0,_),(1,_),(6,_),(7,_),(8,_)]) ⟨rfl,rfl,rfl,rfl,rfl,trivial⟩⟩⟩
 ·refine Ct (AG ?_);have him:i=m:=by have h:=h15;omega
  have hi1:i<l.length:=by omega
  have hgi:l[i]=x:=by rw [←hg];congr 1
  refine AJ (AC Z Z (AC Z Z (AC Z Z ?_)))
  first | refine J (Cc Z Z Z) ?_ | refine J (Cb Z Z Z) ?_
  refine AC Z Z (NI 35 rfl ((decide_eq_true (by omega))) (A9 Z Z Z (AC Z Z (A9 Z Z Z (AC Z Z (A9 Z Z Z ?_))))))
  first | refine J (Ch (i) Z Z (rfl) (A3 hi1) Tryz.underlying33 rfl Et rfl) ?_ | refine J (Cj (i) Z Z (rfl) (A3 hi1) rfl Tryz.underlying33 Et rfl) ?_
  refine A9 Z Z Z ?_
  first | refine J (A0 Z Z Aa rfl) ?_ | refine J (AX Z Z Z Aa rfl) ?_ | refine J (AZ Z Z (rfl) rfl Aa rfl) ?_
  refine A9 Z Z Z (AC Z Z (A9 Z Z Z ?_))
  first | refine J (EX Z Z Z) ?_ | refine J (EY Z Z Z) ?_ | refine J (EO Z Z Z) ?_ | refine J (ER Tryz.underlying3 Z Z Z) ?_ | refine J (EU Tryz.underlying3 Z Z Z) ?_ | refine J (ET Tryz.underlying3 Z Z) ?_ | refine J (ES Tryz.underlying3 Z Z Z) ?_ | refine J (EW Tryz.underlying3 Z Z) ?_
  refine A9 Z Z Z ?_;refine AC Z Z (NI 42 rfl ((decide_eq_true hgi)) (Ac Z Z Z Z (Ac Z Z Z Z (Ac Z Z Z Z (Ac Z Z Z Z (Ac Z Z Z Z (Ac Z Z Z Z (Tq Z Z Z ?_))))))));refine Tq Z Z Z (Ac Z Z Z Z (A9 Z Z Z (J (DX Z Z Z Z) (J (DX Z Z Z Z) (AD Z Z (AD Z Z (AI (Af ?_))))))));exact ⟨_,[],[],Ae rfl,rfl,rfl,retBS him,rfl⟩
def smI (p:Prb):List Int:=CW (GF p)
theorem Fq {p:Prb} (hp:Ab p=0):(GF p).Perm (p.it.map AU.id):=by
 unfold GF ordP;rw [if_pos hp];exact (TD p.it).map _
theorem JZ {p:Prb} (hp:Ab p=0):(smI p).Perm (p.it.map AU.id):=(Zdb _).trans (Fq hp)
theorem Hm {p:Prb} (hp:Ab p=0) (x:Int):x∈smI p↔x∈p.it.map AU.id:=(JZ hp).mem_iff
theorem PB {p:Prb} (hp:Ab p=0):(smI p).length=p.it.length:=by rw [(JZ hp).length_eq,List.length_map]
theorem Lv {p:Prb} (hp:Ab p=0):(smI p).Pairwise (· < ·):=by
 have hn:(smI p).Nodup:=(JZ hp).nodup_iff.2 (YV (N8 hp).2.1);have hs:(smI p).Pairwise (· ≤ ·):=GT _;rw [List.Nodup] at hn;exact (hs.and hn).imp fun {a b} h=>by have h1:=h.1;have h2:=h.2;omega
theorem PI {p:Prb} (hp:Ab p=0) {i:Int} (hi:i∈p.it.map AU.id) {b:Bkd} (hb:b∈req p i):b.m∈smI p:=by
 rw [Hm hp];unfold req at hb;rcases List.mem_append.1 hb with h | h
 ·unfold ST at h;obtain ⟨x,hx,rfl⟩:=List.mem_map.1 h;have hx':=(Zdb _).mem_iff.1 hx;obtain ⟨hk,_,he,_⟩:=Jk hi;rw [he] at hx';have hf:=Jm (N8 hp).2.2 _ (List.mem_map.2 ⟨_,List.getElem_mem hk,rfl⟩);unfold Sp at hf
  split at hf
  ·cases hf
  ·rename_i hn
   show x∈_;have hn2:¬Jd (p.it.map AU.id) x=true:=fun h=>hn (List.any_eq_true.2 ⟨x,hx',h⟩)
   simpa [Jd] using hn2
 ·obtain ⟨y,hy,h⟩:=List.mem_flatMap.1 h;unfold E2 at h;obtain ⟨z,hz,rfl⟩:=List.mem_map.1 h;have hz':z∈y.q:=List.mem_of_mem_take hz;unfold linL at hy;obtain ⟨r,_,rfl⟩:=List.mem_map.1 hy;have hz2:z∈qIds (ordP p) r.r:=hz';unfold qIds at hz2;obtain ⟨o,ho,rfl⟩:=List.mem_map.1 hz2;exact (Fq hp).mem_iff.1 (List.mem_map.2 ⟨o,(List.mem_filter.1 ho).1,rfl⟩)
def H8 (ids:List Int) (l:List Bkd):Nat:=l.foldl (fun a b=>a ||| 1<<<ids.idxOf b.m) 0
theorem Vf (ids:List Int) {l:List Bkd} {k:Nat} (hk:k<l.length):H8 ids (l.take (k+1))=H8 ids (l.take k) ||| 1<<<ids.idxOf l[k].m:=by
 unfold H8;rw [List.take_succ_eq_append_getElem hk,List.foldl_append];rfl
theorem Pf {ids:List Int} (hn:ids.length≤31) (l:List Bkd):H8 ids l<4294967296:=by
 have key:∀(l:List Bkd) (a:Nat),a<4294967296 ->l.foldl (fun a b=>a ||| 1<<<ids.idxOf b.m) a<4294967296:=by
  intro l
  induction l with
  | nil=>intro a h;exact h
  | cons b l ih=>
   intro a h;rw [List.foldl_cons];exact ih _ (Tj h (KP (by have:ids.idxOf b.m≤ids.length:=List.idxOf_le_length;omega)))
 exact key l 0 (by omega)
def KB (p:Prb) (i:Int):Nat:=H8 (smI p) (req p i)
def Mr (p:Prb) (x:Lin) (i:Int):Int:=CO (Ap p i) x.r
def KQ (p:Prb) (x:Lin):List Int:=(smI p).map (Mr p x)
def smlOf (p:Prb):Sma:=⟨smI p,(smI p).map (KB p),(linL p).map (KQ p),(linL p).map Lin.n⟩
theorem YJ (l:List Bkd):DV (inM []) l=l:=List.filter_eq_self.2 fun _ _=>rfl
abbrev lineC (x:Lin):List AV:=[.d (AF x.r.k),.d (Al x.r.acc.o),.d (AF x.r.acc.k),.d (Al x.r.acc.a),.d (Al x.r.f),.d (Al x.r.t),.d (AF x.n),.d (.sl none (x.q.map AF))]
set_option maxHeartbeats 2000000 in
theorem Wh (p:Prb) (hp:Ab p=0) (hb:Cu p) (h1:p.it.length≤20) (h2:p.ro.length≤1000):A6 Tryz.prog 59 [.ptr 10 0 0] (HA p) fun r H'=>r= .d (.ptr (I7 (smlOf p)))∧H'=HA p:=by
 have hLl:=FD p;have hIl:=PB hp;have hOl:(GF p).length=p.it.length:=by rw [(Fq hp).length_eq,List.length_map]
 have hbk:∀mv i,A6 Tryz.prog 120 [.ptr 10 0 0,NW mv,.d (AF i)] (HA p++ [(21,[.map (some ([],0)) []]),(31,[.addr 21 0 (.map (some mv))])]) fun r H'=>r= .d (.sl none ((req p i).map NA))∧H'=HA p++ [(21,[.map (some ([],0)) []]),(31,[.addr 21 0 (.map (some mv))])]:=fun mv i=>by
  have h:=(Mz p mv (some ([],0)) [] i hb (by omega) h2).by [(12,21),(13,31)] rfl;rw [YJ] at h;exact h
 have hso:=Ue (GF p) (by omega);rw [show CW (GF p)=smI p from rfl] at hso;refine B6 Tryz.func59 Z Z Tryz.ntmps59 Z Z Z fun F hF=>(AG (AJ (AD Z Z (AI (AG (AJ (AC Z Z ?_)))))))
 first | refine J (B1 Z Z) ?_ | refine J (BY Z Z) ?_ | refine J (B2 Z Z) ?_ | refine J (BZ Z Z) ?_
 first | refine J (AO rfl Do Z Z Z) ?_ | refine J (AQ rfl Do Z Z Z) ?_ | refine J (AR rfl Do Z Z Z) ?_ | refine J (AP rfl Do Z Z Z) ?_ | refine J (AN rfl Do Z Z Z) ?_
 first | refine J (A0 Z Z BD rfl) ?_ | refine J (AX Z Z Z BD rfl) ?_ | refine J (AZ Z Z (rfl) rfl BD rfl) ?_
 refine G (IL (U4 (GF p)) rfl [] trivial Z Z Z Z Z Z Z Z Z) (J (BO (hso) Z Z) (J (DC zl146 pl146 Z Z Z) (G (CV 20 Z Z Z Z Z Z Z) ?_)));refine AD Z Z (AI (AG (AG (Cs 20 0 1 901 T6 Z Z Z Z Z Z Z (Cs 20 0 2 902 T5 Z Z Z Z Z Z Z (Cs 20 0 3 903 Kw Z Z Z Z Z Z Z (AJ (AC Z Z ?_))))))))
 first | refine J (B1 Z Z) ?_ | refine J (BY Z Z) ?_ | refine J (B2 Z Z) ?_ | refine J (BZ Z Z) ?_
 first | refine J (AO rfl Hb Z Z Z) ?_ | refine J (AQ rfl Hb Z Z Z) ?_ | refine J (AR rfl Hb Z Z Z) ?_ | refine J (AP rfl Hb Z Z Z) ?_ | refine J (AN rfl Hb Z Z Z) ?_
 first | refine J (A0 Z Z BD rfl) ?_ | refine J (AX Z Z Z BD rfl) ?_ | refine J (AZ Z Z (rfl) rfl BD rfl) ?_
 first | refine J (Co rfl Tryz.underlying33 rfl) ?_ | refine J (C1 Z Z Tryz.underlying33 rfl) ?_ | refine J (Cp rfl Tryz.underlying33 rfl) ?_ | refine J (Cn rfl Tryz.underlying33 rfl) ?_ | refine J (Ca rfl Tryz.underlying33 rfl) ?_ | refine J (Ck rfl Tryz.underlying33 rfl) ?_
 refine AC Z Z (AI (Aw (EN (α:=Nat×List Nat) (fun q=>⟨122,[(0,.ptr 10 0 0),(3,(.ptr 20 0 0)),(27,(.d (.sl none ((smI p).map AF)))),(28,(.d (AF ((smI p).length:Int)))),(29,(.d (AF (q.1:Int))))],HA p++ [(20,[.blk 146 [.d (.sl none ((smI p).map AF)),.own 901 0 q.2.length,.own 902 0 0,.own 903 0 0]]),(901,[.rowD 79 1 (q.2.map Er)]),(902,[.rowD 144 1 []]),(903,[.rowD 2 1 []])]⟩) (fun q=>q.1≤(smI p).length∧q.2=((smI p).take q.1).map (KB p)) (fun q=>(smI p).length - q.1) ((0,[])) (⟨Nat.zero_le _,rfl⟩) (BS hF [10,11,20,901,902,903] Z Z ⟨rfl,rfl,rfl,rfl,rfl,trivial⟩) ?_)));rintro ⟨k,BL⟩ ⟨hk0,hA⟩;dsimp only at hk0 hA⊢;refine AG (AJ ?_)
 first | refine J (Cc Z Z Z) ?_ | refine J (Cb Z Z Z) ?_
 refine AI (AG ?_)
 first | refine BP rfl (fun h30=>?_) (fun h30=>?_) | refine BK rfl (fun h30=>?_) (fun h30=>?_)
 ·have hk1:k<(smI p).length:=EF h30;refine An (AG (Aw (AG (AJ ?_))))
  first | refine J (Ch (k) Z Z (rfl) (A3 hk1) Tryz.underlying33 rfl Et rfl) ?_ | refine J (Cj (k) Z Z (rfl) (A3 hk1) rfl Tryz.underlying33 Et rfl) ?_
  first | refine J (A0 Z Z Aa rfl) ?_ | refine J (AX Z Z Z Aa rfl) ?_ | refine J (AZ Z Z (rfl) rfl Aa rfl) ?_
  refine AD Z Z (AI (AG (AJ (AD Z Z (AI ?_)))));refine AG (AG (AJ (AC Z Z (G (YX 21 Z Z Z Z) (Qd 31 21 0 Z Z Z Z Z fun mv=>(Tp 34 31 0 (.inl rfl) rfl (AC Z Z (G (IL (hbk mv (smI p)[k]) rfl [10,11,21,31] ⟨rfl,rfl,rfl,rfl,trivial⟩ Z Z Z Z Z Z Z Z Z) ?_))))))))
  first | refine J (Co rfl Tryz.underlying225 rfl) ?_ | refine J (C1 Z Z Tryz.underlying225 rfl) ?_ | refine J (Cp rfl Tryz.underlying225 rfl) ?_ | refine J (Cn rfl Tryz.underlying225 rfl) ?_ | refine J (Ca rfl Tryz.underlying225 rfl) ?_ | refine J (Ck rfl Tryz.underlying225 rfl) ?_
  refine AC Z Z (AI (Aw (EN (α:=Nat×Nat) (fun q=>⟨122,[(0,.ptr 10 0 0),(3,(.ptr 20 0 0)),(6,(.d (Er q.2))),(27,(.d (.sl none ((smI p).map AF)))),(28,(.d (AF ((smI p).length:Int)))),(29,(.d (AF (k:Int)))),(36,(.d (.sl none ((req p (smI p)[k]).map NA)))),(37,(.d (AF ((req p (smI p)[k]).length:Int)))),(38,(.d (AF (q.1:Int))))],HA p++ [(20,[.blk 146 [.d (.sl none ((smI p).map AF)),.own 901 0 BL.length,.own 902 0 0,.own 903 0 0]]),(901,[.rowD 79 1 (BL.map Er)]),(902,[.rowD 144 1 []]),(903,[.rowD 2 1 []])]⟩) (fun q=>q.1≤(req p (smI p)[k]).length∧q.2=H8 (smI p) ((req p (smI p)[k]).take q.1)) (fun q=>(req p (smI p)[k]).length - q.1) ((0,0)) (⟨Nat.zero_le _,rfl⟩) (BS hF [10,11,20,901,902,903] Z Z ⟨rfl,rfl,rfl,rfl,rfl,rfl,rfl,rfl,rfl,trivial⟩) ?_)));rintro ⟨m,bits⟩ ⟨hm0,hB⟩;dsimp only at hm0 hB⊢;refine AG ?_;have hrl:=Lb hb (by omega:p.it.length≤1000) h2 (smI p)[k];have hri:∀b∈req p (smI p)[k],b.m∈smI p:=fun b hb=>PI hp ((Hm hp _).1 (List.getElem_mem hk1)) hb;have hblo:KB p (smI p)[k]=H8 (smI p) (req p (smI p)[k]):=rfl;refine AJ ?_
  first | refine J (Cc Z Z Z) ?_ | refine J (Cb Z Z Z) ?_
  refine AI (AG ?_)
  first | refine BP rfl (fun h39=>?_) (fun h39=>?_) | refine BK rfl (fun h39=>?_) (fun h39=>?_)
  ·have hm1:m<(req p (smI p)[k]).length:=EF h39;refine An (AG (Aw (AG (AJ ?_))))
   first | refine J (Ch (m) Z Z (rfl) (A3 hm1) Tryz.underlying225 rfl WG rfl) ?_ | refine J (Cj (m) Z Z (rfl) (A3 hm1) rfl Tryz.underlying225 WG rfl) ?_
   first | refine J (At Z Z W5 rfl) ?_ | refine J (Au Z Z W5 Z Z Z) ?_ | refine J (Av Z Z (rfl) rfl W5 rfl) ?_
   refine G (DT 22 Vs Z Z Z Z) (G (CC Z Z Z Z Z Z Z WG) (AI (AG (Gs [[],[0],[0,1],[0,1,2],[],[4],[0,1,2,3,4,5],[0,1,2,3,4,5,6],[0,1,2,3,4,5,6,7],[0,1,2,3,4,5,6,7],[0,1,2,3,4,5,6,7,8],[0,1,2,3,4,5,6,7,8,9,10]] BF rfl (IK ?_)))))
   first | refine AE [3] [] Z Z (fun _=>AB (Bb Z Z)) ?_ | refine AH [3] Z Z (fun _=>AB (Bb Z Z)) ?_
   first | refine AE [43] [] Z Z (fun _=>AB (B1 Z Z)) ?_ | refine AH [43] Z Z (fun _=>AB (B1 Z Z)) ?_ | refine AE [43] [] Z Z (fun _=>AB (BY Z Z)) ?_ | refine AH [43] Z Z (fun _=>AB (BY Z Z)) ?_ | refine AE [43] [] Z Z (fun _=>AB (B2 Z Z)) ?_ | refine AH [43] Z Z (fun _=>AB (B2 Z Z)) ?_ | refine AE [43] [] Z Z (fun _=>AB (BZ Z Z)) ?_ | refine AH [43] Z Z (fun _=>AB (BZ Z Z)) ?_
   first | refine AE [44] [] Z Z (fun _=>AB (AO rfl Hb Z Z Z)) ?_ | refine AH [44] Z Z (fun _=>AB (AO rfl Hb Z Z Z)) ?_ | refine AE [44] [] Z Z (fun _=>AB (AQ rfl Hb Z Z Z)) ?_ | refine AH [44] Z Z (fun _=>AB (AQ rfl Hb Z Z Z)) ?_ | refine AE [44] [] Z Z (fun _=>AB (AR rfl Hb Z Z Z)) ?_ | refine AH [44] Z Z (fun _=>AB (AR rfl Hb Z Z Z)) ?_ | refine AE [44] [] Z Z (fun _=>AB (AP rfl Hb Z Z Z)) ?_ | refine AH [44] Z Z (fun _=>AB (AP rfl Hb Z Z Z)) ?_ | refine AE [44] [] Z Z (fun _=>AB (AN rfl Hb Z Z Z)) ?_ | refine AH [44] Z Z (fun _=>AB (AN rfl Hb Z Z Z)) ?_
   first | refine AE [45] [20] Z Z (fun _=>AB (A0 Z Z BD rfl)) ?_ | refine AE [45] [20] Z Z (fun _=>AB (AX Z Z Z BD rfl)) ?_ | refine AE [45] [20] Z Z (fun _=>AB (AZ Z Z (rfl) rfl BD rfl)) ?_
   first | refine AE [8] [] Z Z (fun _=>AB (AO rfl Dm Z Z Z)) ?_ | refine AH [8] Z Z (fun _=>AB (AO rfl Dm Z Z Z)) ?_ | refine AE [8] [] Z Z (fun _=>AB (AQ rfl Dm Z Z Z)) ?_ | refine AH [8] Z Z (fun _=>AB (AQ rfl Dm Z Z Z)) ?_ | refine AE [8] [] Z Z (fun _=>AB (AR rfl Dm Z Z Z)) ?_ | refine AH [8] Z Z (fun _=>AB (AR rfl Dm Z Z Z)) ?_ | refine AE [8] [] Z Z (fun _=>AB (AP rfl Dm Z Z Z)) ?_ | refine AH [8] Z Z (fun _=>AB (AP rfl Dm Z Z Z)) ?_ | refine AE [8] [] Z Z (fun _=>AB (AN rfl Dm Z Z Z)) ?_ | refine AH [8] Z Z (fun _=>AB (AN rfl Dm Z Z Z)) ?_
   first | refine AE [47] [22] Z Z (fun _=>AB (A0 Z Z Aa rfl)) ?_ | refine AE [47] [22] Z Z (fun _=>AB (AX Z Z Z Aa rfl)) ?_ | refine AE [47] [22] Z Z (fun _=>AB (AZ Z Z (rfl) rfl Aa rfl)) ?_
   refine Gf 6 Z Z Z (BE 7 Z Z (J (BO (Vb (smI p) (req p (smI p)[k])[m].m (Lv hp) (hri _ (List.getElem_mem hm1)) (by omega)) Z Z) (AI ⟨rfl,?_⟩)));refine BE 8 Z Z (AC Z Z (AI ⟨rfl,?_⟩));refine IK ?_
   first | refine AE [42] [] Z Z (fun _=>AB (BU Z Z Z)) ?_ | refine AH [42] Z Z (fun _=>AB (BU Z Z Z)) ?_ | refine AE [42] [] Z Z (fun _=>AB (BV Z Z Z)) ?_ | refine AH [42] Z Z (fun _=>AB (BV Z Z Z)) ?_
   first | refine AE [42] [] Z Z (fun _=>AB (BU Z Z Z)) ?_ | refine AH [42] Z Z (fun _=>AB (BU Z Z Z)) ?_ | refine AE [42] [] Z Z (fun _=>AB (BV Z Z Z)) ?_ | refine AH [42] Z Z (fun _=>AB (BV Z Z Z)) ?_
   first | refine AE [50] [] Z Z (fun _=>AB (Fj Z Z)) ?_ | refine AH [50] Z Z (fun _=>AB (Fj Z Z)) ?_
   refine Gf 11 Z Z Z (BE 12 Z Z (AD Z Z (AI ⟨rfl,?_⟩)));refine Ge (AJ (AC Z Z (AC Z Z ?_)));have hix:=List.idxOf_lt_length_of_mem (hri _ (List.getElem_mem hm1));refine J (SA Z Z (by omega) (W0 (by omega)) rfl) (J (EZ Z Z Z (orU (by rw [hB];exact Pf (by omega) _) (KP (by omega))) rfl) (AD Z Z (AI (AJ (J (By Z Z (Ad (m+1) (by omega)) rfl) (AC Z Z (AI ?_)))))));exact ⟨(m+1,bits ||| 1<<<(smI p).idxOf (req p (smI p)[k])[m].m),⟨by show m+1≤_;omega,by show bits ||| 1<<<(smI p).idxOf (req p (smI p)[k])[m].m=H8 (smI p) ((req p (smI p)[k]).take (m+1));rw [Vf (smI p) hm1,hB]⟩,by show (req p (smI p)[k]).length - (m+1)<(req p (smI p)[k]).length - m;omega,BS hF [10,11,20,901,902,903] rfl (rfl) ⟨rfl,rfl,rfl,rfl,rfl,rfl,rfl,rfl,rfl,trivial⟩⟩
  ·have hfin:bits=KB p (smI p)[k]:=by rw [hblo,hB,List.take_of_length_le (by have h:=h39;omega)]
   refine Ct (AJ (AC Z Z (AC Z Z ?_)))
   first | refine J (B1 Z Z) ?_ | refine J (BY Z Z) ?_ | refine J (B2 Z Z) ?_ | refine J (BZ Z Z) ?_
   first | refine J (AO rfl TG Z Z Z) ?_ | refine J (AQ rfl TG Z Z Z) ?_ | refine J (AR rfl TG Z Z Z) ?_ | refine J (AP rfl TG Z Z Z) ?_ | refine J (AN rfl TG Z Z Z) ?_
   have hBl:BL.length≤20:=by rw [hA,List.length_map,List.length_take];omega
   first | refine J (A0 Z Z OF rfl) ?_ | refine J (AX Z Z Z OF rfl) ?_ | refine J (AZ Z Z (rfl) rfl OF rfl) ?_
   refine AC Z Z (G (Fg 40 T6 Z Z Z Z Z Z Z Z) ?_)
   first | refine G (IX (BL) ([bits]) Z Z Z Z Z Z Z Z T6 (by simp only [List.length_singleton];omega) Z Z Z Z) ?_ | refine G (Kp (BL) ([bits]) Z Z Z Z Z Z (fun _=>rfl) T6 (by simp only [List.length_singleton];omega) Z Z Z Z) ?_
   first | refine J (B1 Z Z) ?_ | refine J (BY Z Z) ?_ | refine J (B2 Z Z) ?_ | refine J (BZ Z Z) ?_
   first | refine J (AO rfl TG Z Z Z) ?_ | refine J (AQ rfl TG Z Z Z) ?_ | refine J (AR rfl TG Z Z Z) ?_ | refine J (AP rfl TG Z Z Z) ?_ | refine J (AN rfl TG Z Z Z) ?_
   refine G (CC Z Z Z Z Z Z Z sz142) (AI (AJ (J (By Z Z (Ad (k+1) (by omega)) rfl) (AC Z Z (AI ?_)))));exact ⟨(k+1,BL++ [bits]),⟨by show k+1≤_;omega,by show BL++ [bits]=((smI p).take (k+1)).map (KB p);rw [Cd hk1,hA,hfin]⟩,by show (smI p).length - (k+1)<(smI p).length - k;omega,BS hF [10,11,20,901,902,903] rfl (rfl) ⟨rfl,rfl,rfl,rfl,rfl,trivial⟩⟩
 ·refine Ct (AG (AG ?_));have hBL:BL=(smI p).map (KB p):=by rw [hA,List.take_of_length_le (by have h:=h30;omega)]
  refine YT (ys:=BL.map Er) 20 0 1 901 Z Z Z (Nat.le_of_eq (by simp)) (List.take_of_length_le (by simp)) Z Z Z Z Z Z (AJ (AC Z Z ?_))
  first | refine J (B1 Z Z) ?_ | refine J (BY Z Z) ?_ | refine J (B2 Z Z) ?_ | refine J (BZ Z Z) ?_
  first | refine J (AO rfl Hc Z Z Z) ?_ | refine J (AQ rfl Hc Z Z Z) ?_ | refine J (AR rfl Hc Z Z Z) ?_ | refine J (AP rfl Hc Z Z Z) ?_ | refine J (AN rfl Hc Z Z Z) ?_
  first | refine J (A0 Z Z Ez rfl) ?_ | refine J (AX Z Z Z Ez rfl) ?_ | refine J (AZ Z Z (rfl) rfl Ez rfl) ?_
  first | refine J (Co rfl Tryz.underlying213 rfl) ?_ | refine J (C1 Z Z Tryz.underlying213 rfl) ?_ | refine J (Cp rfl Tryz.underlying213 rfl) ?_ | refine J (Cn rfl Tryz.underlying213 rfl) ?_ | refine J (Ca rfl Tryz.underlying213 rfl) ?_ | refine J (Ck rfl Tryz.underlying213 rfl) ?_
  refine AC Z Z (AI (Aw (EN (α:=Nat×List (List Int)×List Int) (fun q=>⟨122,[(0,.ptr 10 0 0),(3,(.ptr 20 0 0)),(71,(.d (.sl none ((linL p).map K7)))),(72,(.d (AF ((linL p).length:Int)))),(73,(.d (AF (q.1:Int))))],HA p++ [(20,[.blk 146 [.d (.sl none ((smI p).map AF)),.d (.sl none (BL.map Er)),.own 902 0 q.2.1.length,.own 903 0 q.2.2.length]]),(902,[.rowD 144 1 (q.2.1.map rowZ)]),(903,[.rowD 2 1 (q.2.2.map AF)])]⟩) (fun q=>q.1≤(linL p).length∧q.2.1=((linL p).take q.1).map (KQ p)∧q.2.2=((linL p).take q.1).map Lin.n) (fun q=>(linL p).length - q.1) ((0,[],[])) (⟨Nat.zero_le _,rfl,rfl⟩) (BS hF [10,11,20,902,903] Z Z ⟨rfl,rfl,rfl,rfl,rfl,trivial⟩) ?_)));rintro ⟨n,DL,RL⟩ ⟨hn0,hD,hR⟩;dsimp only at hn0 hD hR⊢;refine AG (AJ ?_)
  first | refine J (Cc Z Z Z) ?_ | refine J (Cb Z Z Z) ?_
  refine AI (AG ?_)
  first | refine BP rfl (fun h74=>?_) (fun h74=>?_) | refine BK rfl (fun h74=>?_) (fun h74=>?_)
  ·have hn1:n<(linL p).length:=EF h74;refine An (AG (Aw (AG (AJ ?_))))
   first | refine J (Ch (n) Z Z (rfl) (A3 hn1) Tryz.underlying213 rfl JP rfl) ?_ | refine J (Cj (n) Z Z (rfl) (A3 hn1) rfl Tryz.underlying213 JP rfl) ?_
   first | refine J (At Z Z J0 rfl) ?_ | refine J (Au Z Z J0 Z Z Z) ?_ | refine J (Av Z Z (rfl) rfl J0 rfl) ?_
   refine G (DT 24 Pw Z Z Z Z) (G (CC Z Z Z Z Z Z Z JP) (AI ?_));refine AG (AJ (AD Z Z (AI (AG (AG (Du 13 905 Kw Z Z Z Z (AJ (AC Z Z ?_))))))))
   first | refine J (B1 Z Z) ?_ | refine J (BY Z Z) ?_ | refine J (B2 Z Z) ?_ | refine J (BZ Z Z) ?_
   first | refine J (AO rfl Hb Z Z Z) ?_ | refine J (AQ rfl Hb Z Z Z) ?_ | refine J (AR rfl Hb Z Z Z) ?_ | refine J (AP rfl Hb Z Z Z) ?_ | refine J (AN rfl Hb Z Z Z) ?_
   first | refine J (A0 Z Z BD rfl) ?_ | refine J (AX Z Z Z BD rfl) ?_ | refine J (AZ Z Z (rfl) rfl BD rfl) ?_
   first | refine J (Co rfl Tryz.underlying33 rfl) ?_ | refine J (C1 Z Z Tryz.underlying33 rfl) ?_ | refine J (Cp rfl Tryz.underlying33 rfl) ?_ | refine J (Cn rfl Tryz.underlying33 rfl) ?_ | refine J (Ca rfl Tryz.underlying33 rfl) ?_ | refine J (Ck rfl Tryz.underlying33 rfl) ?_
   refine AC Z Z (AI (Aw (EN (α:=Nat×List Int) (fun q=>⟨122,[(0,.ptr 10 0 0),(3,(.ptr 20 0 0)),(12,(.ptr 24 0 0)),(13,(.own 905 0 q.2.length)),(71,(.d (.sl none ((linL p).map K7)))),(72,(.d (AF ((linL p).length:Int)))),(73,(.d (AF (n:Int)))),(80,(.d (.sl none ((smI p).map AF)))),(81,(.d (AF ((smI p).length:Int)))),(82,(.d (AF (q.1:Int))))],HA p++ [(20,[.blk 146 [.d (.sl none ((smI p).map AF)),.d (.sl none (BL.map Er)),.own 902 0 DL.length,.own 903 0 RL.length]]),(902,[.rowD 144 1 (DL.map rowZ)]),(903,[.rowD 2 1 (RL.map AF)]),(905,[.rowD 2 1 (q.2.map AF)]),(24,[.blk 218 (lineC (linL p)[n])])]⟩) (fun q=>q.1≤(smI p).length∧q.2=((smI p).take q.1).map (Mr p (linL p)[n])) (fun q=>(smI p).length - q.1) ((0,[])) (⟨Nat.zero_le _,rfl⟩) (BS hF [10,11,20,902,903,905,24] Z Z ⟨rfl,rfl,rfl,rfl,rfl,rfl,rfl,rfl,rfl,rfl,trivial⟩) ?_)));rintro ⟨j,acc⟩ ⟨hj0,hC⟩;dsimp only at hj0 hC⊢;refine AG (AJ ?_)
   first | refine J (Cc Z Z Z) ?_ | refine J (Cb Z Z Z) ?_
   refine AI (AG ?_)
   first | refine BP rfl (fun h83=>?_) (fun h83=>?_) | refine BK rfl (fun h83=>?_) (fun h83=>?_)
   ·have hj1:j<(smI p).length:=EF h83;refine An (AG (Aw (AG (AJ ?_))))
    first | refine J (Ch (j) Z Z (rfl) (A3 hj1) Tryz.underlying33 rfl Et rfl) ?_ | refine J (Cj (j) Z Z (rfl) (A3 hj1) rfl Tryz.underlying33 Et rfl) ?_
    first | refine J (A0 Z Z Aa rfl) ?_ | refine J (AX Z Z Z Aa rfl) ?_ | refine J (AZ Z Z (rfl) rfl Aa rfl) ?_
    refine AD Z Z (AI (Gs [[],[],[1],[1,2],[1,2,3],[],[1,2,3,4,5],[],[7],[1,2,3,4,5,6,7,8],[1,2,3,4,5,6,7,8,9],[0,1,2,3,4,5,6,7,8,9,10],[0,1,2,3,4,5,6,7,8,9,10,11]] BF rfl (IK ?_)));have hcl:acc.length≤20:=by rw [hC,List.length_map,List.length_take];omega
    have hib:=Lg hb (smI p)[j]
    first | refine AE [13] [] Z Z (fun _=>AB (Bb Z Z)) ?_ | refine AH [13] Z Z (fun _=>AB (Bb Z Z)) ?_
    first | refine AE [0] [] Z Z (fun _=>AB (Bb Z Z)) ?_ | refine AH [0] Z Z (fun _=>AB (Bb Z Z)) ?_
    first | refine AE [87] [] Z Z (fun _=>AB (B1 Z Z)) ?_ | refine AH [87] Z Z (fun _=>AB (B1 Z Z)) ?_ | refine AE [87] [] Z Z (fun _=>AB (BY Z Z)) ?_ | refine AH [87] Z Z (fun _=>AB (BY Z Z)) ?_ | refine AE [87] [] Z Z (fun _=>AB (B2 Z Z)) ?_ | refine AH [87] Z Z (fun _=>AB (B2 Z Z)) ?_ | refine AE [87] [] Z Z (fun _=>AB (BZ Z Z)) ?_ | refine AH [87] Z Z (fun _=>AB (BZ Z Z)) ?_
    first | refine AE [88] [] Z Z (fun _=>AB (AO rfl FM Z Z Z)) ?_ | refine AH [88] Z Z (fun _=>AB (AO rfl FM Z Z Z)) ?_ | refine AE [88] [] Z Z (fun _=>AB (AQ rfl FM Z Z Z)) ?_ | refine AH [88] Z Z (fun _=>AB (AQ rfl FM Z Z Z)) ?_ | refine AE [88] [] Z Z (fun _=>AB (AR rfl FM Z Z Z)) ?_ | refine AH [88] Z Z (fun _=>AB (AR rfl FM Z Z Z)) ?_ | refine AE [88] [] Z Z (fun _=>AB (AP rfl FM Z Z Z)) ?_ | refine AH [88] Z Z (fun _=>AB (AP rfl FM Z Z Z)) ?_ | refine AE [88] [] Z Z (fun _=>AB (AN rfl FM Z Z Z)) ?_ | refine AH [88] Z Z (fun _=>AB (AN rfl FM Z Z Z)) ?_
    first | refine AE [89] [10] Z Z (fun _=>AB (A0 Z Z CQ rfl)) ?_ | refine AE [89] [10] Z Z (fun _=>AB (AX Z Z Z CQ rfl)) ?_ | refine AE [89] [10] Z Z (fun _=>AB (AZ Z Z (rfl) rfl CQ rfl)) ?_
    first | refine AE [15] [] Z Z (fun _=>AB (Bb Z Z)) ?_ | refine AH [15] Z Z (fun _=>AB (Bb Z Z)) ?_
    refine AE [90,91] [11] Z Z (fun _=>AB (JV (Bu p.it) (smI p)[j] itm0 (Ap p (smI p)[j]) Z Z Z LC KI U1 D6 (Hw p (smI p)[j]) rfl)) ?_
    first | refine AE [12] [] Z Z (fun _=>AB (AO rfl GP Z Z Z)) ?_ | refine AH [12] Z Z (fun _=>AB (AO rfl GP Z Z Z)) ?_ | refine AE [12] [] Z Z (fun _=>AB (AQ rfl GP Z Z Z)) ?_ | refine AH [12] Z Z (fun _=>AB (AQ rfl GP Z Z Z)) ?_ | refine AE [12] [] Z Z (fun _=>AB (AR rfl GP Z Z Z)) ?_ | refine AH [12] Z Z (fun _=>AB (AR rfl GP Z Z Z)) ?_ | refine AE [12] [] Z Z (fun _=>AB (AP rfl GP Z Z Z)) ?_ | refine AH [12] Z Z (fun _=>AB (AP rfl GP Z Z Z)) ?_ | refine AE [12] [] Z Z (fun _=>AB (AN rfl GP Z Z Z)) ?_ | refine AH [12] Z Z (fun _=>AB (AN rfl GP Z Z Z)) ?_
    first | refine AE [93] [24] Z Z (fun _=>AB (At Z Z Ah rfl)) ?_ | refine AE [93] [24] Z Z (fun _=>AB (Au Z Z Ah Z Z Z)) ?_ | refine AE [93] [24] Z Z (fun _=>AB (Av Z Z (rfl) rfl Ah rfl)) ?_
    first | refine AE [92,94] [] Z Z (fun _=>AB (BO (Jv (Ap p (smI p)[j]) (linL p)[n].r (by omega) (by omega) (by omega)) Z Z)) ?_ | refine AH [92,94] Z Z (fun _=>AB (BO (Jv (Ap p (smI p)[j]) (linL p)[n].r (by omega) (by omega) (by omega)) Z Z)) ?_
    refine G7 [95] [41] [(96,_)] Z Z (fun _=>G8 (Fg 41 Kw Z Z Z Z Z Z Z Z)) (.inr ⟨96,_,rfl,rfl,rfl,rfl,rfl⟩) Z Z Z Z Z (Gf 11 Z Z Z (BE 12 Z Z ?_))
    first | refine G (IX (acc) ([Mr p (linL p)[n] (smI p)[j]]) Z Z Z Z Z Z Z Z Kw (by simp only [List.length_singleton];omega) Z Z Z Z) ?_ | refine G (Kp (acc) ([Mr p (linL p)[n] (smI p)[j]]) Z Z Z Z Z Z (fun _=>rfl) Kw (by simp only [List.length_singleton];omega) Z Z Z Z) ?_
    refine AI ⟨rfl,?_⟩;refine BE 13 Z Z (AD Z Z (AI ⟨rfl,?_⟩));refine Ge (AJ (J (By Z Z (Ad (j+1) (by omega)) rfl) (AC Z Z (AI ?_))));exact ⟨(j+1,acc++ [Mr p (linL p)[n] (smI p)[j]]),⟨by show j+1≤_;omega,by show acc++ [Mr p (linL p)[n] (smI p)[j]]=((smI p).take (j+1)).map (Mr p (linL p)[n]);rw [Cd hj1,hC]⟩,by show (smI p).length - (j+1)<(smI p).length - j;omega,BS hF [10,11,20,902,903,905,24] rfl (rfl) ⟨rfl,rfl,rfl,rfl,rfl,rfl,rfl,rfl,rfl,rfl,trivial⟩⟩
   ·have hfa:acc=KQ p (linL p)[n]:=by rw [hC,List.take_of_length_le (by have h:=h83;omega)];rfl
    refine Ct ?_;have hDl:DL.length≤1000:=by rw [hD,List.length_map,List.length_take];omega
    have hRl:RL.length≤1000:=by rw [hR,List.length_map,List.length_take];omega
    refine Vn (emb:=AF) 13 905 acc Z Z Z Z Z Z Z (Rf 950 902 0 Z Z Z Z Z fun a1 c1=>(Rf 951 903 0 Z Z Z Z Z fun a2 c2=>(YQ 950 0 20 0 2 Z Z Z Z Z (YQ 951 0 20 0 3 Z Z Z Z Z (Gs [[],[],[],[2],[2,3],[2,3,4],[],[6],[2,3,4,5,6,7],[],[9],[9,10],[9,10,11],[],[13],[13,14],[2,3,4,5,6,7,8,9,10,11,12,13,14,15],[0,2,3,4,5,6,7,8,9,10,11,12,13,14,15,16],[0,2,3,4,5,6,7,8,9,10,11,12,13,14,15,16,17],[0,2,3,4,5,6,7,8,9,10,11,12,13,14,15,16,17,18],[0,1,2,3,4,5,6,7,8,9,10,11,12,13,14,15,16,17,18,19],[0,1,2,3,4,5,6,7,8,9,10,11,12,13,14,15,16,17,18,19,20],[0,1,2,3,4,5,6,7,8,9,10,11,12,13,14,15,16,17,18,19,20,21]] BF rfl (IK ?_))))))
    first | refine AE [3] [] Z Z (fun _=>AB (Bb Z Z)) ?_ | refine AH [3] Z Z (fun _=>AB (Bb Z Z)) ?_
    first | refine AE [3] [] Z Z (fun _=>AB (Bb Z Z)) ?_ | refine AH [3] Z Z (fun _=>AB (Bb Z Z)) ?_
    first | refine AE [3] [] Z Z (fun _=>AB (Bb Z Z)) ?_ | refine AH [3] Z Z (fun _=>AB (Bb Z Z)) ?_
    first | refine AE [101] [] Z Z (fun _=>AB (B1 Z Z)) ?_ | refine AH [101] Z Z (fun _=>AB (B1 Z Z)) ?_ | refine AE [101] [] Z Z (fun _=>AB (BY Z Z)) ?_ | refine AH [101] Z Z (fun _=>AB (BY Z Z)) ?_ | refine AE [101] [] Z Z (fun _=>AB (B2 Z Z)) ?_ | refine AH [101] Z Z (fun _=>AB (B2 Z Z)) ?_ | refine AE [101] [] Z Z (fun _=>AB (BZ Z Z)) ?_ | refine AH [101] Z Z (fun _=>AB (BZ Z Z)) ?_
    first | refine AE [102] [] Z Z (fun _=>AB (AO rfl L7 Z Z Z)) ?_ | refine AH [102] Z Z (fun _=>AB (AO rfl L7 Z Z Z)) ?_ | refine AE [102] [] Z Z (fun _=>AB (AQ rfl L7 Z Z Z)) ?_ | refine AH [102] Z Z (fun _=>AB (AQ rfl L7 Z Z Z)) ?_ | refine AE [102] [] Z Z (fun _=>AB (AR rfl L7 Z Z Z)) ?_ | refine AH [102] Z Z (fun _=>AB (AR rfl L7 Z Z Z)) ?_ | refine AE [102] [] Z Z (fun _=>AB (AP rfl L7 Z Z Z)) ?_ | refine AH [102] Z Z (fun _=>AB (AP rfl L7 Z Z Z)) ?_ | refine AE [102] [] Z Z (fun _=>AB (AN rfl L7 Z Z Z)) ?_ | refine AH [102] Z Z (fun _=>AB (AN rfl L7 Z Z Z)) ?_
    refine AE [103] [20,950] Z Z (fun _=>AB (QL 950 0 Z Z Z Z (by simp) Tl rfl)) ?_
    first | refine AE [13] [] Z Z (fun _=>AB (Bb Z Z)) ?_ | refine AH [13] Z Z (fun _=>AB (Bb Z Z)) ?_
    refine G7 [105] [42] [(106,_)] Z Z (fun _=>G8 (Fg 42 T5 Z Z Z Z Z Z Z Z)) (.inr ⟨106,_,rfl,rfl,rfl,rfl,rfl⟩) Z Z Z Z Z ?_
    first | refine G7 [104,106] [902,42,950] [(107,_)] Z Z (fun _=>G8 (IX (DL) ([acc]) Z Z Z Z Z Z Z Z T5 (by simp only [List.length_singleton];omega) Z Z Z Z)) (.inr ⟨107,_,rfl,rfl,rfl,rfl,rfl⟩) Z Z Z Z Z ?_ | refine G7 [104,106] [902,42,950] [(107,_)] Z Z (fun _=>G8 (Kp (DL) ([acc]) Z Z Z Z Z Z (fun _=>rfl) T5 (by simp only [List.length_singleton];omega) Z Z Z Z)) (.inr ⟨107,_,rfl,rfl,rfl,rfl,rfl⟩) Z Z Z Z Z ?_
    first | refine AE [3] [] Z Z (fun _=>AB (Bb Z Z)) ?_ | refine AH [3] Z Z (fun _=>AB (Bb Z Z)) ?_
    first | refine AE [108] [] Z Z (fun _=>AB (B1 Z Z)) ?_ | refine AH [108] Z Z (fun _=>AB (B1 Z Z)) ?_ | refine AE [108] [] Z Z (fun _=>AB (BY Z Z)) ?_ | refine AH [108] Z Z (fun _=>AB (BY Z Z)) ?_ | refine AE [108] [] Z Z (fun _=>AB (B2 Z Z)) ?_ | refine AH [108] Z Z (fun _=>AB (B2 Z Z)) ?_ | refine AE [108] [] Z Z (fun _=>AB (BZ Z Z)) ?_ | refine AH [108] Z Z (fun _=>AB (BZ Z Z)) ?_
    first | refine AE [109] [] Z Z (fun _=>AB (AO rfl Ob Z Z Z)) ?_ | refine AH [109] Z Z (fun _=>AB (AO rfl Ob Z Z Z)) ?_ | refine AE [109] [] Z Z (fun _=>AB (AQ rfl Ob Z Z Z)) ?_ | refine AH [109] Z Z (fun _=>AB (AQ rfl Ob Z Z Z)) ?_ | refine AE [109] [] Z Z (fun _=>AB (AR rfl Ob Z Z Z)) ?_ | refine AH [109] Z Z (fun _=>AB (AR rfl Ob Z Z Z)) ?_ | refine AE [109] [] Z Z (fun _=>AB (AP rfl Ob Z Z Z)) ?_ | refine AH [109] Z Z (fun _=>AB (AP rfl Ob Z Z Z)) ?_ | refine AE [109] [] Z Z (fun _=>AB (AN rfl Ob Z Z Z)) ?_ | refine AH [109] Z Z (fun _=>AB (AN rfl Ob Z Z Z)) ?_
    refine AE [110] [20,951] Z Z (fun _=>AB (QL 951 0 Z Z Z Z (by simp) MN rfl)) ?_
    first | refine AE [12] [] Z Z (fun _=>AB (AO rfl TH Z Z Z)) ?_ | refine AH [12] Z Z (fun _=>AB (AO rfl TH Z Z Z)) ?_ | refine AE [12] [] Z Z (fun _=>AB (AQ rfl TH Z Z Z)) ?_ | refine AH [12] Z Z (fun _=>AB (AQ rfl TH Z Z Z)) ?_ | refine AE [12] [] Z Z (fun _=>AB (AR rfl TH Z Z Z)) ?_ | refine AH [12] Z Z (fun _=>AB (AR rfl TH Z Z Z)) ?_ | refine AE [12] [] Z Z (fun _=>AB (AP rfl TH Z Z Z)) ?_ | refine AH [12] Z Z (fun _=>AB (AP rfl TH Z Z Z)) ?_ | refine AE [12] [] Z Z (fun _=>AB (AN rfl TH Z Z Z)) ?_ | refine AH [12] Z Z (fun _=>AB (AN rfl TH Z Z Z)) ?_
    first | refine AE [112] [24] Z Z (fun _=>AB (A0 Z Z Be rfl)) ?_ | refine AE [112] [24] Z Z (fun _=>AB (AX Z Z Z Be rfl)) ?_ | refine AE [112] [24] Z Z (fun _=>AB (AZ Z Z (rfl) rfl Be rfl)) ?_
    refine G7 [113] [43] [(114,_)] Z Z (fun _=>G8 (Fg 43 Kw Z Z Z Z Z Z Z Z)) (.inr ⟨114,_,rfl,rfl,rfl,rfl,rfl⟩) Z Z Z Z Z ?_
    first | refine G7 [111,114] [903,43,951] [(115,_)] Z Z (fun _=>G8 (IX (RL) ([(linL p)[n].n]) Z Z Z Z Z Z Z Z Kw (by simp only [List.length_singleton];omega) Z Z Z Z)) (.inr ⟨115,_,rfl,rfl,rfl,rfl,rfl⟩) Z Z Z Z Z ?_ | refine G7 [111,114] [903,43,951] [(115,_)] Z Z (fun _=>G8 (Kp (RL) ([(linL p)[n].n]) Z Z Z Z Z Z (fun _=>rfl) Kw (by simp only [List.length_singleton];omega) Z Z Z Z)) (.inr ⟨115,_,rfl,rfl,rfl,rfl,rfl⟩) Z Z Z Z Z ?_
    first | refine AE [99] [] Z Z (fun _=>AB (B1 Z Z)) ?_ | refine AH [99] Z Z (fun _=>AB (B1 Z Z)) ?_ | refine AE [99] [] Z Z (fun _=>AB (BY Z Z)) ?_ | refine AH [99] Z Z (fun _=>AB (BY Z Z)) ?_ | refine AE [99] [] Z Z (fun _=>AB (B2 Z Z)) ?_ | refine AH [99] Z Z (fun _=>AB (B2 Z Z)) ?_ | refine AE [99] [] Z Z (fun _=>AB (BZ Z Z)) ?_ | refine AH [99] Z Z (fun _=>AB (BZ Z Z)) ?_
    first | refine AE [116] [] Z Z (fun _=>AB (AO rfl L7 Z Z Z)) ?_ | refine AH [116] Z Z (fun _=>AB (AO rfl L7 Z Z Z)) ?_ | refine AE [116] [] Z Z (fun _=>AB (AQ rfl L7 Z Z Z)) ?_ | refine AH [116] Z Z (fun _=>AB (AQ rfl L7 Z Z Z)) ?_ | refine AE [116] [] Z Z (fun _=>AB (AR rfl L7 Z Z Z)) ?_ | refine AH [116] Z Z (fun _=>AB (AR rfl L7 Z Z Z)) ?_ | refine AE [116] [] Z Z (fun _=>AB (AP rfl L7 Z Z Z)) ?_ | refine AH [116] Z Z (fun _=>AB (AP rfl L7 Z Z Z)) ?_ | refine AE [116] [] Z Z (fun _=>AB (AN rfl L7 Z Z Z)) ?_ | refine AH [116] Z Z (fun _=>AB (AN rfl L7 Z Z Z)) ?_
    refine G7 [117,107] [20,902] [] Z Z (fun _=>G8 (CC Z Z Z Z Z Z Z sz143)) (.inl ⟨rfl,rfl⟩) Z Z Z Z Z (Gf 20 Z Z Z (BE 21 Z Z ?_))
    first | refine J (B1 Z Z) ?_ | refine J (BY Z Z) ?_ | refine J (B2 Z Z) ?_ | refine J (BZ Z Z) ?_
    refine AI ⟨rfl,?_⟩;refine BE 22 Z Z ?_
    first | refine J (AO rfl Ob Z Z Z) ?_ | refine J (AQ rfl Ob Z Z Z) ?_ | refine J (AR rfl Ob Z Z Z) ?_ | refine J (AP rfl Ob Z Z Z) ?_ | refine J (AN rfl Ob Z Z Z) ?_
    refine AI ⟨rfl,?_⟩;refine BE 23 Z Z (G (CC Z Z Z Z Z Z Z WH) (AI ⟨rfl,?_⟩));refine Ge (AJ (J (By Z Z (Ad (n+1) (by omega)) rfl) (AC Z Z (AI ?_))));exact ⟨(n+1,DL++ [acc],RL++ [(linL p)[n].n]),⟨by show n+1≤_;omega,by show DL++ [acc]=((linL p).take (n+1)).map (KQ p);rw [Cd hn1,hD,hfa],by show RL++ [(linL p)[n].n]=((linL p).take (n+1)).map Lin.n;rw [Cd hn1,hR]⟩,by show (linL p).length - (n+1)<(linL p).length - n;omega,BS hF [10,11,20,902,903] rfl (rfl) ⟨rfl,rfl,rfl,rfl,rfl,trivial⟩⟩
  ·refine Ct (AG ?_);have hDL:DL=(linL p).map (KQ p):=by rw [hD,List.take_of_length_le (by have h:=h74;omega)]
   have hRL:RL=(linL p).map Lin.n:=by rw [hR,List.take_of_length_le (by have h:=h74;omega)]
   refine YT (ys:=DL.map rowZ) 20 0 2 902 Z Z Z (Nat.le_of_eq (by simp)) (List.take_of_length_le (by simp)) Z Z Z Z Z Z (YT (ys:=RL.map AF) 20 0 3 903 Z Z Z (Nat.le_of_eq (by simp)) (List.take_of_length_le (by simp)) Z Z Z Z Z Z (O9 3 20 (I7 ⟨smI p,BL,DL,RL⟩) [10,11] hF Z Z Z (by intro c hc;simp [D.cells] at hc;rcases hc with rfl | rfl | rfl | rfl<;>rfl) Z Z Z (AJ (AC Z Z (AD Z Z (AI (Af ?_)))))));exact ⟨_,[10,11],_,Ae rfl,rfl,rfl,by rw [hBL,hDL,hRL];rfl,rfl⟩
theorem R8 (p:Prb) (hb:Cu p) (hE:Ab p=0) (h1:p.it.length≤20) (h2:p.ro.length≤1000):AT Tryz.prog 24 [.d (CT p)] (.tup [.ptr (I7 (smlOf p)),AF 0]):=by
 have hpr:=(Iy p hb hE).by [(3,10),(2,11)] rfl;refine B6 Tryz.func24 Z Z Tryz.ntmps24 Z Z Z fun F hF=>(AG (AJ (G (CV 1 Z Z Z Z Z Z Z) (AD Z Z (AD Z Z (AI (AG (AJ ?_))))))))
 first | refine J (At Z Z A2 rfl) ?_ | refine J (Au Z Z A2 Z Z Z) ?_ | refine J (Av Z Z (rfl) rfl A2 rfl) ?_
 refine G (IL hpr rfl [10,11] ⟨rfl,rfl,trivial⟩ Z Z Z Z Z Z Z Z Z) (AC Z Z ?_)
 first | refine J (BU Z Z Z) ?_ | refine J (BV Z Z Z) ?_
 first | refine J (BU Z Z Z) ?_ | refine J (BV Z Z Z) ?_
 refine AD Z Z (AD Z Z (AI (AG (AG (AJ (AC Z Z ?_))))))
 first | refine J (Ec Z Z Z) ?_ | refine J (Eb Z Z Z) ?_ | refine J (EV Z Z Z) ?_ | refine J (E8 Tryz.underlying34 Z Z Z) ?_ | refine J (Ea Tryz.underlying34 Z Z Z) ?_ | refine J (st_neqN Tryz.underlying34 Z Z) ?_ | refine J (E9 Tryz.underlying34 Z Z Z) ?_ | refine J (st_neqFN Tryz.underlying34 Z Z) ?_
 refine AI (F4 rfl ((by decide)) (An (AG (AG (AJ ?_)))))
 first | refine J (AO rfl DK Z Z Z) ?_ | refine J (AQ rfl DK Z Z Z) ?_ | refine J (AR rfl DK Z Z Z) ?_ | refine J (AP rfl DK Z Z Z) ?_ | refine J (AN rfl DK Z Z Z) ?_
 first | refine J (A0 Z Z CU rfl) ?_ | refine J (AX Z Z Z CU rfl) ?_ | refine J (AZ Z Z (rfl) rfl CU rfl) ?_
 first | refine J (Co rfl Tryz.underlying29 rfl) ?_ | refine J (C1 Z Z Tryz.underlying29 rfl) ?_ | refine J (Cp rfl Tryz.underlying29 rfl) ?_ | refine J (Cn rfl Tryz.underlying29 rfl) ?_ | refine J (Ca rfl Tryz.underlying29 rfl) ?_ | refine J (Ck rfl Tryz.underlying29 rfl) ?_
 first | refine J (DZ Z Z Z) ?_ | refine J (C5 Z Z Z) ?_
 refine AI (F4 rfl ((decide_eq_false (by omega))) ?_);refine An (AG (AJ (AC Z Z (G (IL (Wh p hE hb h1 h2) rfl [10,11] ⟨rfl,rfl,trivial⟩ Z Z Z Z Z Z Z Z Z) (AD Z Z (AD Z Z (AI (Af ?_))))))));exact ⟨_,[],[],Ae rfl,rfl,rfl,rfl,rfl⟩
theorem Vh (p:Prb) (hb:Cu p) (hE:Ab p≠0):AT Tryz.prog 24 [.d (CT p)] (.tup [.raw (.pointer none),AF (Ab p)]):=by
 have hpr:=LS p hb hE;refine B6 Tryz.func24 Z Z Tryz.ntmps24 Z Z Z fun F hF=>(AG (AJ (G (CV 1 Z Z Z Z Z Z Z) (AD Z Z (AD Z Z (AI (AG (AJ ?_))))))))
 first | refine J (At Z Z A2 rfl) ?_ | refine J (Au Z Z A2 Z Z Z) ?_ | refine J (Av Z Z (rfl) rfl A2 rfl) ?_
 refine J (BO (hpr) Z Z) (AC Z Z ?_)
 first | refine J (BU Z Z Z) ?_ | refine J (BV Z Z Z) ?_
 first | refine J (BU Z Z Z) ?_ | refine J (BV Z Z Z) ?_
 refine AD Z Z (AD Z Z (AI (AG (AG (AJ (AC Z Z ?_))))))
 first | refine J (Ec Z Z Z) ?_ | refine J (Eb Z Z Z) ?_ | refine J (EV Z Z Z) ?_ | refine J (E8 Tryz.underlying34 Z Z Z) ?_ | refine J (Ea Tryz.underlying34 Z Z Z) ?_ | refine J (st_neqN Tryz.underlying34 Z Z) ?_ | refine J (E9 Tryz.underlying34 Z Z Z) ?_ | refine J (st_neqFN Tryz.underlying34 Z Z) ?_
 refine AI (EL rfl ((decide_eq_true hE)) (AG (AJ (AC Z Z (AD Z Z (AD Z Z (AI (Af ?_))))))));exact ⟨_,[],[],Ae rfl,rfl,rfl,rfl,rfl⟩
theorem RP {n:Nat} (hn:n≤31):∀(l frm x:Nat),x<4294967296 ->∀y∈enumX n l frm x,y<4294967296
 | 0,_,x,hx,y,hy=>by
  have:y=x:=by simpa [enumX] using hy
  rw [this];exact hx
 | l+1,frm,x,hx,y,hy=>by
  unfold enumX at hy;obtain ⟨i,hi,hy⟩:=List.mem_flatMap.1 hy;obtain ⟨j,hj,rfl⟩:=List.mem_map.1 hi;have hj':=List.mem_range.1 hj;exact RP hn l _ _ (Tj hx (KP (by omega))) y hy
theorem Tf (f:Nat ->Nat) (m:Nat):∀c,c≤m ->(∀j,j<c ->f j≤2^(m - (j+1))) ->((List.range c).map f).sum+2^(m - c)≤2^m
 | 0,_,_=>by simp
 | c+1,h,hf=>by
  have ih:=Tf f m c (by omega) fun j hj=>hf j (by omega);have h2:=hf c (by omega)
  have h3:2^(m - c)=2^(m - (c+1))+2^(m - (c+1)):=by
   have:m - c=(m - (c+1))+1:=by omega
   rw [this,Nat.pow_succ];omega
  rw [List.range_succ,List.map_append,List.sum_append,List.map_singleton,List.sum_singleton];omega
theorem O3 {n:Nat}:∀(l frm x:Nat),(enumX n l frm x).length≤2^(n - frm)
 | 0,frm,x=>by
  have:0<2^(n - frm):=Nat.pow_pos (by omega)
  simp [enumX];omega
 | l+1,frm,x=>by
  unfold enumX;rw [List.length_flatMap,List.map_map]
  have h:=Tf (((fun i=>(enumX n l (i+1) (x ||| 1<<<i)).length))∘fun j=>frm+j) (n - frm) (n+1 - (l+1) - frm) (by omega) (fun j hj=>by
   have:=O3 l (frm+j+1) (x ||| 1<<<(frm+j)) (n:=n);have e:n - frm - (j+1)=n - (frm+j+1):=by omega
   rw [e];exact this)
  exact Nat.le_trans (Nat.le_add_right _ _) h
theorem UU {s:Sma} (hn:s.ids.length≤31):∀y∈allX s,y<4294967296:=fun y hy=>by
 unfold allX at hy;obtain ⟨k,_,hy⟩:=List.mem_flatMap.1 hy;exact RP hn k 0 0 (by omega) y (List.mem_filter.1 hy).1
theorem YO {s:Sma} (hn:s.ids.length≤20):(allX s).length≤100000000:=by
 unfold allX
 have h:=Jo (f:=fun k=>(enumX s.ids.length k 0 0).filter (admS s)) (n:=1048576) (l:=List.range (s.ids.length+1)) (fun k _=>by
  have h1:=O3 (n:=s.ids.length) k 0 0;have h2:2^(s.ids.length - 0)≤2^20:=Nat.pow_le_pow_right (by omega) (by omega);have h3:(2:Nat)^20=1048576:=by decide
  exact Nat.le_trans (List.length_filter_le _ _) (by omega))
 rw [List.length_range] at h;have:(s.ids.length+1)*1048576≤21*1048576:=Nat.mul_le_mul_right _ (by omega);omega
abbrev hCt (s:Sma) (q:Nat×Nat):Hp:=[(2,[.blk 76 [.d (.ptr (I7 s))]]),(3,[.blk 3 [.d (AF (q.1:Int))]]),(4,[.blk 3 [.d (AF (q.2:Int))]])]
def T0 (s:Sma) (q:Nat×Nat) (x:Nat):(Nat×Nat)×Bool:=((q.1+1,q.2+bif feaS s x then 1 else 0),true)
theorem RK (s:Sma):∀(l:List Nat) (q:Nat×Nat),Bj (T0 s) q l=(q.1+l.length,q.2+(l.filter (feaS s)).length)
 | [],q=>by simp [Bj]
 | x::l,q=>by
  rw [Rm];show (if true=true then Bj (T0 s) (q.1+1,q.2+bif feaS s x then 1 else 0) l else _)=_;rw [if_pos rfl,RK s l]
  cases h:feaS s x<;>simp [h]<;>omega
theorem O0 {P:Program} {l:Nat} {H:Nat×Nat ->Hp} (s:Sma) {n:Nat} (hY:∀a b x,a<n ->b≤a ->x<4294967296 ->Dh P l (N0 x) (H (a,b)) fun v H'=>v= .d (.raw (.bool true))∧H'=H (a+1,b+bif feaS s x then 1 else 0)):∀(xs:List Nat) (q:Nat×Nat),(∀x∈xs,x<4294967296) ->q.1+xs.length≤n ->q.2≤q.1 ->C4 P l N0 H (T0 s) q xs
 | [],_,_,_,_=>trivial
 | x::xs,(a,b),hx,h,hq=>⟨hY a b x (by simp at h;omega) hq (hx x (by simp)),fun _=>O0 s hY xs (a+1,b+bif feaS s x then 1 else 0) (fun y hy=>hx y (by simp [hy])) (by simp at h⊢;omega) (by show b+(bif feaS s x then 1 else 0)≤a+1;cases feaS s x<;>simp at hq⊢<;>omega)⟩
structure SmaB (s:Sma):Prop where
 n:s.ids.length≤20
 b:s.bl.length≤20
 u:∀b∈s.bl,b<4294967296
 r:s.rm.length≤1000
 d:s.de.length=s.rm.length
 v:∀r∈s.de,r.length≤32∧∀v∈r,-1000000000000000≤v∧v≤1000000000000000
 m:∀v∈s.rm,0≤v∧v≤4000000000000000
theorem smlB {p:Prb} (hp:Ab p=0) (h1:p.it.length≤20) (h2:p.ro.length≤1000):SmaB (smlOf p):=by
 have hIl:=PB hp;have hLl:=FD p;refine ⟨by show (smI p).length≤20;omega,by show ((smI p).map (KB p)).length≤20;rw [List.length_map];omega,fun b hb=>?_,by show ((linL p).map Lin.n).length≤1000;rw [List.length_map];omega,by show ((linL p).map (KQ p)).length=((linL p).map Lin.n).length;simp,fun r hr=>?_,fun v hv=>?_⟩
 ·obtain ⟨i,_,rfl⟩:=List.mem_map.1 hb;exact Pf (by omega) _
 ·obtain ⟨x,_,rfl⟩:=List.mem_map.1 hr;refine ⟨by show ((smI p).map (Mr p x)).length≤32;rw [List.length_map];omega,fun v hv=>?_⟩;obtain ⟨i,_,rfl⟩:=List.mem_map.1 hv;exact Sr _ _
 ·obtain ⟨x,hx,rfl⟩:=List.mem_map.1 hv;exact Sd hp x hx
theorem YC (p:Prb) (hb:Cu p) (hE:Ab p=0) (h1:p.it.length≤20) (h2:p.ro.length≤1000):AT Tryz.prog 16 [.d (CT p)] (.tup [AF ((allX (smlOf p)).length:Nat),AF (((allX (smlOf p)).filter (feaS (smlOf p))).length:Nat),AF 0]):=by
 have hbg:=R8 p hb hE h1 h2;have hB:=smlB hE h1 h2
 obtain ⟨s,hs⟩:∃s,smlOf p=s:=⟨_,rfl⟩
 rw [hs] at hbg hB⊢;have hB0:=hB;have hAl:=YO hB.n;have hAx:=UU (s:=s) (by have:=hB.n;omega);have hfe:=fun x (hx:x<4294967296)=>Xq s x hx (by have:=hB.r;omega) hB.d hB.v hB.m;have hfe':∀x,x<4294967296 ->∀c,feaS s x=c ->AT Tryz.prog 26 [.d (.ptr (I7 s)),.d (Er x)] (B5 c):=fun x hx c hc=>by rw [←hc];exact hfe x hx
 refine GE Tryz.func16 Z Z Tryz.ntmps16 Z Z Z fun F hF hFl=>?_;refine AG (AJ (G (CV 1 Z Z Z Z Z Z Z) (AD Z Z (AD Z Z (AD Z Z (AI (AG (AJ ?_))))))))
 first | refine J (At Z Z A2 rfl) ?_ | refine J (Au Z Z A2 Z Z Z) ?_ | refine J (Av Z Z (rfl) rfl A2 rfl) ?_
 refine J (BO (hbg) Z Z) (AC Z Z ?_)
 first | refine J (BU Z Z Z) ?_ | refine J (BV Z Z Z) ?_
 first | refine J (BU Z Z Z) ?_ | refine J (BV Z Z Z) ?_
 refine G (DT 2 zl76 Z Z Z Z) (G (CC Z Z Z Z Z Z Z sz76) (AD Z Z (AI (AG (AG (AJ (AC Z Z ?_)))))))
 first | refine J (Ec Z Z Z) ?_ | refine J (Eb Z Z Z) ?_ | refine J (EV Z Z Z) ?_ | refine J (E8 Tryz.underlying34 Z Z Z) ?_ | refine J (Ea Tryz.underlying34 Z Z Z) ?_ | refine J (st_neqN Tryz.underlying34 Z Z) ?_ | refine J (E9 Tryz.underlying34 Z Z Z) ?_ | refine J (st_neqFN Tryz.underlying34 Z Z) ?_
 refine AI (F4 rfl ((by decide)) (An (AG ?_)));refine AJ (G (DT 3 zl3 Z Z Z Z) (G (DT 4 zl3 Z Z Z Z) (G (CC Z Z Z Z Z Z Z Et) (G (CC Z Z Z Z Z Z Z Et) (AI (AG (AG (AJ ?_))))))))
 first | refine J (A0 Z Z Ce rfl) ?_ | refine J (AX Z Z Z Ce rfl) ?_ | refine J (AZ Z Z (rfl) rfl Ce rfl) ?_
 refine G (IL (W1 s) rfl [] trivial Z Z Z Z Z Z Z Z Z) (AI (Aw ?_));refine NF [5,7,8,19] rfl ?_;refine YR [2,3,4] hF Z Z ?_;refine KE (γ:=Unit) hFl 900 Z Z Z Z Z [2,3,4] (CHr:=hCt s (0,0)) (fun _=>True) (fun _=>hCt s ((allX s).length,((allX s).filter (feaS s)).length)) (fun _=> .ready) (fun _=>none) ⟨rfl,rfl,rfl,trivial⟩ Z Z Z (fun _=>rfl) (fun _=>rfl) rfl (fun _ _=>by simp) (fun _ _=>⟨rfl,rfl⟩) [2,3,4] hF Z Z (fun _ _=>rfl) (fun l A B hA hB=>?_) (fun _ _=>?_)
 ·refine (T7 s hB0.u (by have:=hB0.b;omega) (by have:=hB0.n;omega) l (fun q:Nat×Nat=>(900,[.loop ⟨l,30,[(5,.ptr 2 0 0),(7,.ptr 3 0 0),(8,.ptr 4 0 0),(19,.fn 60 [cS s])],.ready,none, #[20],A,B⟩])::hCt s q) [900,2,3,4] (T0 s) (0,0) (fun _=>rfl) (fun _=>rfl) (fun _=>rfl) Z Z (fun _=>rfl) (fun _=>rfl) ?_).mono (fun r H' ⟨e1,e2⟩=>⟨e1,(),trivial,by rw [e2,RK];simp only [Nat.zero_add]⟩);refine O0 s (n:=100000000) (fun a b x ha hba hx=>?_) (allX s) (0,0) hAx (by simp only [Nat.zero_add];exact hAl) (Nat.le_refl _);have hf2:=hfe' x hx;refine Gv (lf:=900) Z Z Z Z fun F hF hr=>?_;show Bm _ _ A _ _;rw [hA];refine AJ (AD Z Z (AI (⟨rfl,_,_,rfl,rfl,rfl,rfl,?_⟩)));show Bm _ _ B _ _;rw [hB];refine Aw (AG (AJ ?_))
  cases hfx:feaS s x
  ·first | refine J (A0 Z Z Aa rfl) ?_ | refine J (AX Z Z Z Aa rfl) ?_ | refine J (AZ Z Z (rfl) rfl Aa rfl) ?_
   refine J (By Z Z (Ad (a+1) (by omega)) rfl) (G (CC Z Z Z Z Z Z Z Et) (AI (AG (AJ ?_))))
   first | refine J (A0 Z Z Ce rfl) ?_ | refine J (AX Z Z Z Ce rfl) ?_ | refine J (AZ Z Z (rfl) rfl Ce rfl) ?_
   refine AC Z Z (J (BO (hf2 _ hfx) Z Z) (AI (F4 rfl (rfl) (An ?_))));exact ⟨none,_,_,[900,2,3,4],_,rfl,rfl,rfl,rfl,rfl,rfl,rfl,rfl⟩
  ·first | refine J (A0 Z Z Aa rfl) ?_ | refine J (AX Z Z Z Aa rfl) ?_ | refine J (AZ Z Z (rfl) rfl Aa rfl) ?_
   refine J (By Z Z (Ad (a+1) (by omega)) rfl) (G (CC Z Z Z Z Z Z Z Et) (AI (AG (AJ ?_))))
   first | refine J (A0 Z Z Ce rfl) ?_ | refine J (AX Z Z Z Ce rfl) ?_ | refine J (AZ Z Z (rfl) rfl Ce rfl) ?_
   refine AC Z Z (J (BO (hf2 _ hfx) Z Z) (AI (EL rfl (rfl) (AJ ?_))))
   first | refine J (A0 Z Z Aa rfl) ?_ | refine J (AX Z Z Z Aa rfl) ?_ | refine J (AZ Z Z (rfl) rfl Aa rfl) ?_
   refine J (By Z Z (Ad (b+1) (by omega)) rfl) (G (CC Z Z Z Z Z Z Z Et) (AI ?_));exact ⟨none,_,_,[900,2,3,4],_,rfl,rfl,rfl,rfl,rfl,rfl,rfl,rfl⟩
 ·refine AG (Gs [[],[],[0],[0,1,2],[0,1,2,3]] BF rfl (IK ?_))
  first | refine AE [7] [3] Z Z (fun _=>AB (A0 Z Z Aa rfl)) ?_ | refine AE [7] [3] Z Z (fun _=>AB (AX Z Z Z Aa rfl)) ?_ | refine AE [7] [3] Z Z (fun _=>AB (AZ Z Z (rfl) rfl Aa rfl)) ?_
  first | refine AE [8] [4] Z Z (fun _=>AB (A0 Z Z Aa rfl)) ?_ | refine AE [8] [4] Z Z (fun _=>AB (AX Z Z Z Aa rfl)) ?_ | refine AE [8] [4] Z Z (fun _=>AB (AZ Z Z (rfl) rfl Aa rfl)) ?_
  first | refine AE [28] [] Z Z (fun _=>AB (Fj Z Z)) ?_ | refine AH [28] Z Z (fun _=>AB (Fj Z Z)) ?_
  refine Gf 3 Z Z Z (BE 4 Z Z (AD Z Z (AI ⟨rfl,?_⟩)));refine BE 5 Z Z (AD Z Z (AI ⟨rfl,?_⟩));refine Ge (Af ?_);exact ⟨_,[],[],Ae rfl,rfl,rfl,rfl,rfl⟩
deriving instance DecidableEq for Lin
def accQ (a:List UInt8):Ok:=⟨a,0,[67,65,83,72]⟩
def Uw (id sq:Int) (a b:List UInt8) (n:Int):AU:=⟨id,0,sq,[⟨accQ a,0 - n⟩,⟨accQ b,n⟩],[],[]⟩
theorem pay0_p (id sq n:Int) (a b:List UInt8) (h0:0≤n) (h1:n≤1000000000000000):AT Tryz.prog 112 [.d (AF id),.d (AF sq),.d (Al a),.d (Al b),.d (AF n)] (.agg [AF id,AF 0,AF sq,.sl none ((Uw id sq a b n).po.map C7),.sl (some true) [],.sl (some true) []]):=by
 refine B6 Tryz.func112 Z Z Tryz.ntmps112 Z Z Z fun F hF=>(AG (AJ (G (DT 1 FI Z Z Z Z) (AI (AG ?_)))));refine AJ (AC Z Z (AC Z Z (AC Z Z (J (DC NN QZ Z Z Z) (AC Z Z (J (Ev Z Z (IntWalk.i64_in _ (by omega)) rfl) (J (DC JL OA Z Z Z) (AC Z Z ?_))))))));refine J (DC NN QZ Z Z Z) (AC Z Z (J (DC JL OA Z Z Z) (G (Fg 2 PD Z Z Z Z Z Z Z Z) (Zc2 (emb:=C7) 22 2 (Uw id sq a b n).po Z Z Z Z Z Z Z (J (DC FI Wo Z Z Z) (G (CC Z Z Z Z Z Z Z Cq) (AI (Af ?_))))))));exact ⟨_,[],[],Ae rfl,rfl,rfl,rfl,rfl⟩
theorem PK (id sq n:Int) (a b:List UInt8) (h0:0≤n) (h1:n≤1000000000000000):AT Tryz.prog 112 [.d (AF id),.d (AF sq),.d (Al a),.d (Al b),.d (AF n)] (BC (Uw id sq a b n)):=
 (pay0_p id sq n a b h0 h1).weak fun w O v h=>h.aggMono rfl (by simp [D.one]) fun i c c' hc hc' v hv=>by
  match i,hc,hc' with
  | 0,hc,hc'=>injection hc with hc;injection hc' with hc';subst hc hc';exact hv
  | 1,hc,hc'=>injection hc with hc;injection hc' with hc';subst hc hc';exact hv
  | 2,hc,hc'=>injection hc with hc;injection hc' with hc';subst hc hc';exact hv
  | 3,hc,hc'=>injection hc with hc;injection hc' with hc';subst hc hc';exact hv
  | 4,hc,hc'=>injection hc with hc;injection hc' with hc';subst hc hc';exact hv.anyNil
  | 5,hc,hc'=>injection hc with hc;injection hc' with hc';subst hc hc';exact hv.anyNil
def rcA:A5:=⟨0,accQ [65],[],[]⟩
def rcB:A5:=⟨0,accQ [66],[],[]⟩
def SO:List Roo:=[⟨rcA,0⟩,⟨rcB,0⟩]
def Xb:List AU:=[Uw 1 1 [65] [66] 5,Uw 2 2 [66] [65] 5]
def itK3:AU:=Uw 3 3 [65] [66] 1
def JC:Prb:=⟨SO,Xb⟩
def Th:Prb:=⟨SO,Xb++ [itK3]⟩
theorem pK2_E:Ab JC=0:=by decide
theorem pK2_R:VO SO=SO:=(X1 pK2_E (List.Perm.refl _) (by decide)).symm
theorem Uh:CW []=[]:=List.eq_nil_of_length_eq_zero (Fl [])
theorem Ti:GF JC=[1,2]:=by decide
theorem pK3_ids:GF Th=[1,2,3]:=by decide
theorem Ws:smI JC=[1,2]:=by
 unfold smI;rw [Ti];exact (Lu (List.Perm.refl _) (by decide)).symm
theorem OC:linL JC=[⟨rcA,0,[1]⟩,⟨rcB,0,[2]⟩]:=by
 unfold linL;rw [show JC.ro=SO from rfl,pK2_R];decide
theorem pK3_L:linL Th=[⟨rcA,0,[1,3]⟩,⟨rcB,0,[2]⟩]:=by
 unfold linL;rw [show Th.ro=SO from rfl,pK2_R];decide
theorem MC {p:Prb} {i:Int} (h:(Ap p i).af=[]):req p i=(linL p).flatMap (E2 i):=by
 unfold req ST;rw [h,Uh];rfl
theorem Wu:req JC 1=[]:=by rw [MC (by decide),OC];decide
theorem Wt:req JC 2=[]:=by rw [MC (by decide),OC];decide
theorem pK3_r3:req Th 3=[⟨3,1,rcA⟩]:=by rw [MC (by decide),pK3_L];decide
def smK:Sma:=⟨[1,2],[0,0],[[-5,5],[5,-5]],[0,0]⟩
theorem pK2_S:smlOf JC=smK:=by
 unfold smlOf;have e1:KB JC 1=0:=by unfold KB;rw [Wu];rfl
 have e2:KB JC 2=0:=by unfold KB;rw [Wt];rfl
 have e3:∀x,KQ JC x=[Mr JC x 1,Mr JC x 2]:=fun x=>by unfold KQ;rw [Ws];rfl
 have e4:(linL JC).map (KQ JC)=[[-5,5],[5,-5]]:=by rw [OC];simp only [List.map_cons,List.map_nil,e3];decide
 rw [Ws,e4,OC];simp only [List.map_cons,List.map_nil,e1,e2];rfl
theorem smK_n:(allX smK).length=4:=by decide
theorem smK_f:((allX smK).filter (feaS smK)).length=2:=by decide
theorem pK2_b12:CE JC (DJ [2,1])=[]:=by
 unfold CE;rw [Ti];simp [G6,Wu,Wt,DV]
theorem pK2_v12:Eq JC (Aj [2,1])=[]:=by unfold Eq;rw [OC];decide
theorem pK2_v1:Eq JC (Aj [1])≠ []:=by unfold Eq;rw [OC];decide
theorem pK3_b3:CE Th (DJ [3])≠ []:=by
 unfold CE;rw [pK3_ids];simp [G6,DJ,pK3_r3,DV]
theorem Wq:Eq Th (Aj [1,2,3])=[⟨rcA,1⟩]:=by unfold Eq;rw [pK3_L];decide
theorem pK2_c21:E7 JC [2,1]=0:=by decide
theorem pK2_c1:E7 JC [1]=0:=by decide
theorem pK3_c3:E7 Th [3]=0:=by decide
theorem Wr:E7 Th [1,2,3]=0:=by decide
theorem Wv:Cu JC:=by unfold Cu;decide
theorem pK3_B:Cu Th:=by unfold Cu;decide
theorem kn_cnt:AT Tryz.prog 16 [.d (CT JC)] (.tup [AF 4,AF 2,AF 0]):=by
 have h:=YC JC Wv pK2_E (by decide) (by decide);rw [pK2_S,smK_n,smK_f] at h;exact h
theorem kn_f21:AT Tryz.prog 113 [.d (CT JC),.d (.sl none (([2,1]:List Int).map AF))] (.tup [B5 true,AF 0]):=by
 have h:=UG JC [2,1] Wv (by decide) (by decide) (by decide);rw [pK2_c21,pK2_b12,pK2_v12] at h;exact h
theorem kn_f1:AT Tryz.prog 113 [.d (CT JC),.d (.sl none (([1]:List Int).map AF))] (.tup [B5 false,AF 0]):=by
 have h:=UG JC [1] Wv (by decide) (by decide) (by decide);rw [pK2_c1,decide_eq_false (fun h=>pK2_v1 h.2.2)] at h;exact h
theorem kn_a3:AT Tryz.prog 114 [.d (CT Th),.d (.sl none (([3]:List Int).map AF))] (.tup [B5 false,AF 0]):=by
 have h:=admF_p Th [3] pK3_B (by decide) (by decide) (by decide);rw [pK3_c3,decide_eq_false (fun h=>pK3_b3 h.2)] at h;exact h
theorem kn_v:AT Tryz.prog 110 [.d (CT Th),.d (.sl none (([1,2,3]:List Int).map AF))] (.tup [.sl none (([⟨rcA,1⟩]:List Roo).map F6),AF 0]):=by
 have h:=violF_p Th [1,2,3] pK3_B (by decide);rw [Wr,if_pos rfl,Wq] at h;exact h
theorem JY {hp:Hp} {bl:List Nat} {f n k:Nat} {t:TypeId} (p:Prb) (ho:hget hp f 0=some (.rowD t k (p.it.map BC))) (hb:memB f bl=true) (hn:n=p.it.length):N9 hp bl (.agg [.d (.sl none (p.ro.map F6)),.own f 0 n]) (CT p):=by
 refine .agg rfl (by simp [D.one]) fun j a c ha hc=>?_
 match j,ha,hc with
 | 0,ha,hc=>injection ha with ha;injection hc with hc;subst ha hc;exact .d
 | 1,ha,hc=>injection ha with ha;injection hc with hc;subst ha hc;exact .own ho hb (by rw [List.length_map];omega) (List.take_of_length_le (by rw [List.length_map];omega))
end Go.Proofs.YtnkkaeblokdifaaGreat
