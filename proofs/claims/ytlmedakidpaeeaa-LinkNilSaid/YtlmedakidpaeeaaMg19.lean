/- Layer 27: Link, walked. -/
import Derived.Test.YtlmedakidpaeeaaMg18
namespace Go.Proofs.Ytlmedakidpaeeaa
open Go.RowKit
set_option maxRecDepth 100000
theorem DE {s:AS}:∀(i:Nat) a v,([]:List AV)[i]?=some a ->([]:List Value)[i]?=some v ->GE s a v:=fun i a v h=>by simp at h
theorem Ga {s:AS} {a:AV} {v:Value} {ars:List AV} {vs:List Value} (h:GE s a v) (hr:∀(i:Nat) a v,ars[i]?=some a ->vs[i]?=some v ->GE s a v):∀(i:Nat) a' v',(a::ars)[i]?=some a' ->(v::vs)[i]?=some v' ->GE s a' v':=fun i a' v' h1 h2=>by
 cases i with
 | zero=>simp at h1 h2;subst h1 h2;exact h
 | succ i=>exact hr i a' v' (by simpa using h1) (by simpa using h2)
theorem lnk11 {w:Ws} {l:Lw} (h1:l.t≠0) (h2:l.t≠1):lnkW w l=(w,11):=by unfold lnkW;rw [if_pos ⟨h1,h2⟩]
theorem lnk9 {w:Ws} {l:Lw} (ht:l.t=0∨l.t=1) (h:l.f∉w.R∨l.r∉w.R):lnkW w l=(w,9):=by unfold lnkW;rw [if_neg (by omega),if_pos h]
theorem LM {w:Ws} {l:Lw} (ht:l.t=0∨l.t=1) (h1:l.f∈w.R) (h2:l.r∈w.R) (h:l.f=l.r):lnkW w l=(w,26):=by unfold lnkW;rw [if_neg (by omega),if_neg fun hh=>hh.elim (· h1) (· h2),if_pos h]
theorem lnk7 {w:Ws} {l:Lw} (ht:l.t=0∨l.t=1) (h1:l.f∈w.R) (h2:l.r∈w.R) (h3:l.f≠l.r) (h:l∈w.K):lnkW w l=(w,7):=by unfold lnkW;rw [if_neg (by omega),if_neg fun hh=>hh.elim (· h1) (· h2),if_neg h3,if_pos h]
theorem Ni {w:Ws} {l:Lw} (ht:l.t=0∨l.t=1) (h1:l.f∈w.R) (h2:l.r∈w.R) (h3:l.f≠l.r) (h4:l∉w.K):lnkW w l=if acyW (BD w l)=true then (BD w l,0) else (w,26):=by unfold lnkW;rw [if_neg (by omega),if_neg fun hh=>hh.elim (· h1) (· h2),if_neg h3,if_neg h4]
theorem Kh {M:MF} {b:Nat} {w:Ws} (h:Cv M b w) (hw:CJ w) (hK:w.K.length≤999999) (l:Lw):AO Try.prog 29 [.d (pD b 0),.d (AP l.f),.d (lkD ⟨l.t,l.r⟩)] [(40,[.multi M])] fun r H'=>∃M',r= .d (D2 (lnkW w l).2)∧H'=[(40,[.multi M'])]∧Cv M' b (lnkW w l).1:=by
 have hrep:=h;obtain ⟨m,E,lk,hr,hl⟩:=h;refine KG Try.func29 Z Z Try.ntmps29 Z Z Z fun F Fi hF hrnd hlo hR hD=>?_
 first | refine AF ?_ | refine BB hR ?_
 refine AI (U (C2 910 Z Z Z Z Z Z Z) (U (C2 911 Z Z Z Z Z Z Z) (U (C2 912 Z Z Z Z Z Z Z) (U (BR 913 zl25 Z Z Z Z) (AG ?_)))))
 first | refine AF ?_ | refine BB hR ?_
 refine DQ ?_
 first | refine AF ?_ | refine BB hR ?_
 refine AI ?_
 first | refine J (A9 Z Z Aa rfl) ?_ | refine J (A7 Z Z Z Aa rfl) ?_ | refine J (A8 Z Z (rfl) rfl Aa rfl) ?_
 first | refine J (Dl Z Z Z) ?_ | refine J (Ds Z Z Z) ?_ | refine J (Dg Z Z Z) ?_ | refine J (Dm Try.underlying23 Z Z Z) ?_ | refine J (Dp Try.underlying23 Z Z Z) ?_ | refine J (Do Try.underlying23 Z Z) ?_ | refine J (Dh Try.underlying23 Z Z) ?_ | refine J (Dr Try.underlying23 Z Z) ?_ | refine J (Dn Try.underlying23 Z Z Z) ?_ | refine J (Dq Try.underlying23 Z Z) ?_
 refine AE Z Z (AG (IZ rfl (rfl) ?_))
 first | refine AF ?_ | refine BB hR ?_
 refine AI ?_
 first | refine J (CE rfl I2 Z Z Z) ?_ | refine J (CG rfl I2 Z Z Z) ?_ | refine J (CI rfl I2 Z Z Z) ?_ | refine J (CF rfl I2 Z Z Z) ?_ | refine J (CD rfl I2 Z Z Z) ?_
 first | refine J (A9 Z Z Cx rfl) ?_ | refine J (A7 Z Z Z Cx rfl) ?_ | refine J (A8 Z Z (rfl) rfl Cx rfl) ?_
 first | refine J (CN Z Z Z) ?_ | refine J (Md Z Z Z) ?_ | refine J (BI Z Z Z) ?_ | refine J (BV Try.underlying3 Z Z Z) ?_ | refine J (BT Try.underlying3 Z Z Z) ?_ | refine J (st_neqN Try.underlying3 Z Z) ?_ | refine J (st_neqPr Try.underlying3 Z Z) ?_ | refine J (st_neqMz Try.underlying3 Z Z) ?_ | refine J (BU Try.underlying3 Z Z Z) ?_ | refine J (st_neqFN Try.underlying3 Z Z) ?_
 refine AB Z Z ?_
 first | refine DI 16 rfl (fun h16=>?_) (fun h16=>?_) | refine Bu 16 rfl (fun h16=>?_) (fun h16=>?_)
 ·refine AT Z Z Z ?_
  first | refine J (CE rfl I2 Z Z Z) ?_ | refine J (CG rfl I2 Z Z Z) ?_ | refine J (CI rfl I2 Z Z Z) ?_ | refine J (CF rfl I2 Z Z Z) ?_ | refine J (CD rfl I2 Z Z Z) ?_
  refine AT Z Z Z ?_
  first | refine J (A9 Z Z Cx rfl) ?_ | refine J (A7 Z Z Z Cx rfl) ?_ | refine J (A8 Z Z (rfl) rfl Cx rfl) ?_
  refine AT Z Z Z ?_
  first | refine J (CN Z Z Z) ?_ | refine J (Md Z Z Z) ?_ | refine J (BI Z Z Z) ?_ | refine J (BV Try.underlying3 Z Z Z) ?_ | refine J (BT Try.underlying3 Z Z Z) ?_ | refine J (st_neqN Try.underlying3 Z Z) ?_ | refine J (st_neqPr Try.underlying3 Z Z) ?_ | refine J (st_neqMz Try.underlying3 Z Z) ?_ | refine J (BU Try.underlying3 Z Z Z) ?_ | refine J (st_neqFN Try.underlying3 Z Z) ?_
  refine J (GC Z Z Z Z) (AE Z Z (AG ?_))
  first | refine BF rfl (fun h12=>?_) (fun h12=>?_) | refine D9 rfl (fun h12=>?_) (fun h12=>?_)
  ·first | refine AF ?_ | refine BB hR ?_
   refine AI (U (Gb Z Z Z Z Z Z Z FN) (AG (B3 ?_)));exact ⟨_,[40],_,BO rfl,rfl,rfl,M,by rw [lnk11 h16 h12],rfl,by rw [lnk11 h16 h12];exact hrep⟩
  ·first | refine AF ?_ | refine BB hR ?_
   refine AI ?_
   first | refine J (A9 Z Z Aa rfl) ?_ | refine J (A7 Z Z Z Aa rfl) ?_ | refine J (A8 Z Z (rfl) rfl Aa rfl) ?_
   first | refine J (A9 Z Z A4 rfl) ?_ | refine J (A7 Z Z Z A4 rfl) ?_ | refine J (A8 Z Z (rfl) rfl A4 rfl) ?_
   refine U (I0 (iOq hrep l.f) rfl [40] ⟨rfl,trivial⟩ Z Z Z Z Z Z Z Z Z) ?_
   first | refine J (KQ Z Z) ?_ | refine J (BN Z Z) ?_
   refine AB Z Z ?_
   first | refine DI 26 rfl (fun h26=>?_) (fun h26=>?_) | refine Bu 26 rfl (fun h26=>?_) (fun h26=>?_)
   ·refine Ee Z Z Z Z (Ee Z Z Z Z (Ee Z Z Z Z (Ee Z Z Z Z (Ee Z Z Z Z (J (GC Z Z Z Z) (AE Z Z (AG (GS Z Z ?_))))))))
    first | refine AF ?_ | refine BB hR ?_
    have h9:lnkW w l=(w,9):=lnk9 (by first | exact .inl (Classical.not_not.1 h16) | exact .inr (Classical.not_not.1 h12)) (by first | exact .inl h26 | exact .inr h21);refine AI (U (Gb Z Z Z Z Z Z Z FN) (AG (B3 ?_)));exact ⟨_,[40],_,BO rfl,rfl,rfl,M,by rw [h9],rfl,by rw [h9];exact hrep⟩
   ·refine AT Z Z Z ?_
    first | refine J (A9 Z Z Aa rfl) ?_ | refine J (A7 Z Z Z Aa rfl) ?_ | refine J (A8 Z Z (rfl) rfl Aa rfl) ?_
    refine AT Z Z Z ?_
    first | refine J (CE rfl B7 Z Z Z) ?_ | refine J (CG rfl B7 Z Z Z) ?_ | refine J (CI rfl B7 Z Z Z) ?_ | refine J (CF rfl B7 Z Z Z) ?_ | refine J (CD rfl B7 Z Z Z) ?_
    refine AT Z Z Z ?_
    first | refine J (A9 Z Z A4 rfl) ?_ | refine J (A7 Z Z Z A4 rfl) ?_ | refine J (A8 Z Z (rfl) rfl A4 rfl) ?_
    refine AT Z Z Z (U (I0 (iOq hrep l.r) rfl [40] ⟨rfl,trivial⟩ Z Z Z Z Z Z Z Z Z) (AT Z Z Z ?_))
    first | refine J (KQ Z Z) ?_ | refine J (BN Z Z) ?_
    refine J (Me Z Z Z Z) (AE Z Z (AG ?_))
    first | refine BF rfl (fun h21=>?_) (fun h21=>?_) | refine D9 rfl (fun h21=>?_) (fun h21=>?_)
    ·first | refine AF ?_ | refine BB hR ?_
     have h9:lnkW w l=(w,9):=lnk9 (by first | exact .inl (Classical.not_not.1 h16) | exact .inr (Classical.not_not.1 h12)) (by first | exact .inl h26 | exact .inr h21);refine AI (U (Gb Z Z Z Z Z Z Z FN) (AG (B3 ?_)));exact ⟨_,[40],_,BO rfl,rfl,rfl,M,by rw [h9],rfl,by rw [h9];exact hrep⟩
    ·first | refine AF ?_ | refine BB hR ?_
     have ht:l.t=0∨l.t=1:=by first | exact .inl (Classical.not_not.1 h16) | exact .inr (Classical.not_not.1 h12)
     have hfR:l.f∈w.R:=Classical.not_not.1 h26;have hrR:l.r∈w.R:=Classical.not_not.1 h21;refine AI ?_
     first | refine J (A9 Z Z A4 rfl) ?_ | refine J (A7 Z Z Z A4 rfl) ?_ | refine J (A8 Z Z (rfl) rfl A4 rfl) ?_
     first | refine J (CE rfl B7 Z Z Z) ?_ | refine J (CG rfl B7 Z Z Z) ?_ | refine J (CI rfl B7 Z Z Z) ?_ | refine J (CF rfl B7 Z Z Z) ?_ | refine J (CD rfl B7 Z Z Z) ?_
     first | refine J (A9 Z Z A4 rfl) ?_ | refine J (A7 Z Z Z A4 rfl) ?_ | refine J (A8 Z Z (rfl) rfl A4 rfl) ?_
     first | refine J (Dl Z Z Z) ?_ | refine J (Ds Z Z Z) ?_ | refine J (Dg Z Z Z) ?_ | refine J (Dm Try.underlying9 Z Z Z) ?_ | refine J (Dp Try.underlying9 Z Z Z) ?_ | refine J (Do Try.underlying9 Z Z) ?_ | refine J (Dh Try.underlying9 Z Z) ?_ | refine J (Dr Try.underlying9 Z Z) ?_ | refine J (Dn Try.underlying9 Z Z Z) ?_ | refine J (Dq Try.underlying9 Z Z) ?_
     refine AE Z Z (AG ?_)
     first | refine BF rfl (fun h33=>?_) (fun h33=>?_) | refine D9 rfl (fun h33=>?_) (fun h33=>?_)
     ·first | refine AF ?_ | refine BB hR ?_
      refine AI (U (Gb Z Z Z Z Z Z Z FN) (AG (B3 ?_)));exact ⟨_,[40],_,BO rfl,rfl,rfl,M,by rw [LM ht hfR hrR h33],rfl,by rw [LM ht hfR hrR h33];exact hrep⟩
     ·first | refine AF ?_ | refine BB hR ?_
      obtain ⟨hd,hm⟩:=hl.at hfR;refine BK [[],[0],[0,1],[0,1,2],[],[0,1,2,3,4],[],[0,1,2,3,4,5,6],[0,1,2,3,4,5,6,7]] mixed rfl (MP ?_)
      first | refine AN [3] [] Z Z (fun _=>AD (A9 Z Z Aa rfl)) ?_ | refine AQ [3] Z Z (fun _=>AD (A9 Z Z Aa rfl)) ?_ | refine AN [3] [] Z Z (fun _=>AD (A7 Z Z Z Aa rfl)) ?_ | refine AQ [3] Z Z (fun _=>AD (A7 Z Z Z Aa rfl)) ?_ | refine AN [3] [] Z Z (fun _=>AD (A8 Z Z (rfl) rfl Aa rfl)) ?_ | refine AQ [3] Z Z (fun _=>AD (A8 Z Z (rfl) rfl Aa rfl)) ?_
      first | refine AN [39] [] Z Z (fun _=>AD (KL Z Z)) ?_ | refine AQ [39] Z Z (fun _=>AD (KL Z Z)) ?_ | refine AN [39] [] Z Z (fun _=>AD (KJ Z Z)) ?_ | refine AQ [39] Z Z (fun _=>AD (KJ Z Z)) ?_ | refine AN [39] [] Z Z (fun _=>AD (KM Z Z)) ?_ | refine AQ [39] Z Z (fun _=>AD (KM Z Z)) ?_ | refine AN [39] [] Z Z (fun _=>AD (KK Z Z)) ?_ | refine AQ [39] Z Z (fun _=>AD (KK Z Z)) ?_
      first | refine AN [40] [] Z Z (fun _=>AD (CE rfl Au Z Z Z)) ?_ | refine AQ [40] Z Z (fun _=>AD (CE rfl Au Z Z Z)) ?_ | refine AN [40] [] Z Z (fun _=>AD (CG rfl Au Z Z Z)) ?_ | refine AQ [40] Z Z (fun _=>AD (CG rfl Au Z Z Z)) ?_ | refine AN [40] [] Z Z (fun _=>AD (CI rfl Au Z Z Z)) ?_ | refine AQ [40] Z Z (fun _=>AD (CI rfl Au Z Z Z)) ?_ | refine AN [40] [] Z Z (fun _=>AD (CF rfl Au Z Z Z)) ?_ | refine AQ [40] Z Z (fun _=>AD (CF rfl Au Z Z Z)) ?_ | refine AN [40] [] Z Z (fun _=>AD (CD rfl Au Z Z Z)) ?_ | refine AQ [40] Z Z (fun _=>AD (CD rfl Au Z Z Z)) ?_
      first | refine AN [41] [] Z Z (fun _=>AD (KI (f:=40) Z Z (hr.cell) rfl DH rfl)) ?_ | refine AQ [41] Z Z (fun _=>AD (KI (f:=40) Z Z (hr.cell) rfl DH rfl)) ?_
      first | refine AN [4] [] Z Z (fun _=>AD (A9 Z Z A4 rfl)) ?_ | refine AQ [4] Z Z (fun _=>AD (A9 Z Z A4 rfl)) ?_ | refine AN [4] [] Z Z (fun _=>AD (A7 Z Z Z A4 rfl)) ?_ | refine AQ [4] Z Z (fun _=>AD (A7 Z Z Z A4 rfl)) ?_ | refine AN [4] [] Z Z (fun _=>AD (A8 Z Z (rfl) rfl A4 rfl)) ?_ | refine AQ [4] Z Z (fun _=>AD (A8 Z Z (rfl) rfl A4 rfl)) ?_
      first | refine AN [42,43] [] Z Z (fun _=>AD (JG (f:=40) (eE E) l.f none (some hd) Z Z hr.top rfl Ec F6 Gc (CP hl.kd hm) rfl)) ?_ | refine AQ [42,43] Z Z (fun _=>AD (JG (f:=40) (eE E) l.f none (some hd) Z Z hr.top rfl Ec F6 Gc (CP hl.kd hm) rfl)) ?_
      first | refine AN [5] [] Z Z (fun _=>AD (MZ Z Z BE rfl)) ?_ | refine AQ [5] Z Z (fun _=>AD (MZ Z Z BE rfl)) ?_ | refine AN [5] [] Z Z (fun _=>AD (M8 Z Z BE Z Z Z)) ?_ | refine AQ [5] Z Z (fun _=>AD (M8 Z Z BE Z Z Z)) ?_ | refine AN [5] [] Z Z (fun _=>AD (M9 Z Z (rfl) rfl BE rfl)) ?_ | refine AQ [5] Z Z (fun _=>AD (M9 Z Z (rfl) rfl BE rfl)) ?_
      refine MR 7 Z Z Z (Is 8 Z Z (J (JG (f:=40) (Dd (lk hd)) ⟨l.t,l.r⟩ false _ Z Z (hr.sub _ hm) rfl Kf Nq za4 (LO _ _) rfl) (AG ⟨rfl,?_⟩)));refine Is 9 Z Z (AE Z Z (AG ⟨rfl,?_⟩));refine MQ ?_
      first | refine BF rfl (fun h38=>?_) (fun h38=>?_) | refine D9 rfl (fun h38=>?_) (fun h38=>?_)
      ·first | refine AF ?_ | refine BB hR ?_
       refine AI (U (Gb Z Z Z Z Z Z Z FN) (AG (B3 ?_)));have h7:=lnk7 ht hfR hrR h33 ((hl.ls _ hm _).1 h38);exact ⟨_,[40],_,BO rfl,rfl,rfl,M,by rw [h7],rfl,by rw [h7];exact hrep⟩
      ·refine C9 ?_
       first | refine AF ?_ | refine BB hR ?_
       refine Bz 921 910 0 Z Z Z Z Z fun u3=>(Bz 922 911 0 Z Z Z Z Z fun u4=>(Bz 923 912 0 Z Z Z Z Z fun u5=>(Bz 924 913 0 Z Z Z Z Z fun u6=>(BK [[],[0],[0,1],[0,1,2],[],[0,1,2,3,4],[],[0,1,2,3,4,5,6]] mixed rfl (MP ?_)))))
       first | refine AN [3] [] Z Z (fun _=>AD (A9 Z Z Aa rfl)) ?_ | refine AQ [3] Z Z (fun _=>AD (A9 Z Z Aa rfl)) ?_ | refine AN [3] [] Z Z (fun _=>AD (A7 Z Z Z Aa rfl)) ?_ | refine AQ [3] Z Z (fun _=>AD (A7 Z Z Z Aa rfl)) ?_ | refine AN [3] [] Z Z (fun _=>AD (A8 Z Z (rfl) rfl Aa rfl)) ?_ | refine AQ [3] Z Z (fun _=>AD (A8 Z Z (rfl) rfl Aa rfl)) ?_
       first | refine AN [47] [] Z Z (fun _=>AD (KL Z Z)) ?_ | refine AQ [47] Z Z (fun _=>AD (KL Z Z)) ?_ | refine AN [47] [] Z Z (fun _=>AD (KJ Z Z)) ?_ | refine AQ [47] Z Z (fun _=>AD (KJ Z Z)) ?_ | refine AN [47] [] Z Z (fun _=>AD (KM Z Z)) ?_ | refine AQ [47] Z Z (fun _=>AD (KM Z Z)) ?_ | refine AN [47] [] Z Z (fun _=>AD (KK Z Z)) ?_ | refine AQ [47] Z Z (fun _=>AD (KK Z Z)) ?_
       first | refine AN [48] [] Z Z (fun _=>AD (CE rfl Au Z Z Z)) ?_ | refine AQ [48] Z Z (fun _=>AD (CE rfl Au Z Z Z)) ?_ | refine AN [48] [] Z Z (fun _=>AD (CG rfl Au Z Z Z)) ?_ | refine AQ [48] Z Z (fun _=>AD (CG rfl Au Z Z Z)) ?_ | refine AN [48] [] Z Z (fun _=>AD (CI rfl Au Z Z Z)) ?_ | refine AQ [48] Z Z (fun _=>AD (CI rfl Au Z Z Z)) ?_ | refine AN [48] [] Z Z (fun _=>AD (CF rfl Au Z Z Z)) ?_ | refine AQ [48] Z Z (fun _=>AD (CF rfl Au Z Z Z)) ?_ | refine AN [48] [] Z Z (fun _=>AD (CD rfl Au Z Z Z)) ?_ | refine AQ [48] Z Z (fun _=>AD (CD rfl Au Z Z Z)) ?_
       first | refine AN [49] [] Z Z (fun _=>AD (KI (f:=40) Z Z (hr.cell) rfl DH rfl)) ?_ | refine AQ [49] Z Z (fun _=>AD (KI (f:=40) Z Z (hr.cell) rfl DH rfl)) ?_
       first | refine AN [4] [] Z Z (fun _=>AD (A9 Z Z A4 rfl)) ?_ | refine AQ [4] Z Z (fun _=>AD (A9 Z Z A4 rfl)) ?_ | refine AN [4] [] Z Z (fun _=>AD (A7 Z Z Z A4 rfl)) ?_ | refine AQ [4] Z Z (fun _=>AD (A7 Z Z Z A4 rfl)) ?_ | refine AN [4] [] Z Z (fun _=>AD (A8 Z Z (rfl) rfl A4 rfl)) ?_ | refine AQ [4] Z Z (fun _=>AD (A8 Z Z (rfl) rfl A4 rfl)) ?_
       first | refine AN [50,51] [] Z Z (fun _=>AD (JG (f:=40) (eE E) l.f none (some hd) Z Z hr.top rfl Ec F6 Gc (CP hl.kd hm) rfl)) ?_ | refine AQ [50,51] Z Z (fun _=>AD (JG (f:=40) (eE E) l.f none (some hd) Z Z hr.top rfl Ec F6 Gc (CP hl.kd hm) rfl)) ?_
       first | refine AN [5] [] Z Z (fun _=>AD (MZ Z Z BE rfl)) ?_ | refine AQ [5] Z Z (fun _=>AD (MZ Z Z BE rfl)) ?_ | refine AN [5] [] Z Z (fun _=>AD (M8 Z Z BE Z Z Z)) ?_ | refine AQ [5] Z Z (fun _=>AD (M8 Z Z BE Z Z Z)) ?_ | refine AN [5] [] Z Z (fun _=>AD (M9 Z Z (rfl) rfl BE rfl)) ?_ | refine AQ [5] Z Z (fun _=>AD (M9 Z Z (rfl) rfl BE rfl)) ?_
       refine MR 7 Z Z Z (Is 8 Z Z (U (Gg (f:=40) (Dd (lk hd)) (⟨l.t,l.r⟩) (true) Z Z (hr.sub _ hm) rfl Kf Nq Z Z) (AG ⟨rfl,?_⟩)));refine MQ ?_;have hnK:l∉w.K:=fun hh=>h38 ((hl.ls _ hm _).2 hh);rw [LN h38];have hrep1:Cv _ b (BD w l):=JJ hr hl hm (l:=⟨l.t,l.r⟩) hnK;have hok1:=hw.with_ ht hfR hrR h33 hnK;have hK1:(BD w l).K.length≤1000000:=by show (w.K++ [l]).length≤_;rw [List.length_append,List.length_singleton];omega
       have h0:=Ni ht hfR hrR h33 hnK
       obtain ⟨M1,hM1⟩:∃M1,Ax M hd (.map none (Eq (lk hd++ [⟨l.t,l.r⟩])))=M1:=⟨_,rfl⟩
       rw [hM1] at hrep1⊢;refine LV (xs:=[6,3,4,5]) (ars:=[.ptr 913 0 0,.ptr 910 0 0,.ptr 911 0 0,.ptr 912 0 0]) [.pointer (some ⟨u6,0,none⟩),.pointer (some ⟨u3,0,none⟩),.pointer (some ⟨u4,0,none⟩),.pointer (some ⟨u5,0,none⟩)] hD hlo hrnd Z Z Z ?_ ?_
       ·exact (Ga ⟨913,0,u6,924,0,rfl,rfl,rfl⟩ (Ga ⟨910,0,u3,921,0,rfl,rfl,rfl⟩ (Ga ⟨911,0,u4,922,0,rfl,rfl,rfl⟩ (Ga ⟨912,0,u5,923,0,rfl,rfl,rfl⟩ DE))))
       refine AF (AF (AI ?_))
       first | refine J (A9 Z Z Aa rfl) ?_ | refine J (A7 Z Z Z Aa rfl) ?_ | refine J (A8 Z Z (rfl) rfl Aa rfl) ?_
       refine U (I0 (Id hrep1 hok1 hK1) rfl [40] ⟨rfl,trivial⟩ Z Z Z Z Z Z Z Z Z) (AB Z Z ?_)
       first | refine J (Dk Z Z Z) ?_ | refine J (Dj Z Z Z) ?_
       first | refine J (Dk Z Z Z) ?_ | refine J (Dj Z Z Z) ?_
       refine AE Z Z (AE Z Z (AG (AF (AI (AB Z Z ?_)))))
       first | refine J (KQ Z Z) ?_ | refine J (BN Z Z) ?_
       refine AG ?_
       first | refine BF rfl (fun h61=>?_) (fun h61=>?_) | refine D9 rfl (fun h61=>?_) (fun h61=>?_)
       ·refine AF (AI (U (Gb Z Z Z Z Z Z Z FN) (AG (B3 ?_))));have hac:acyW (BD w l)=false:=by simpa using h61
        have h0':lnkW w l=(w,26):=by rw [h0,hac];rfl
        refine ⟨_,HLk b l 26++ [(40,[.multi M1])],_,[910,911,912,913,40],_,_,_,I4 hrep1 l hfR 26,rfl,?_,⟨rfl,rfl,rfl,rfl,rfl,trivial⟩,rfl,rfl,rfl,rfl,fun r H' ⟨e1,M',e2,h3⟩=>?_⟩
        ·exact (Ga ⟨913,0,u6,924,0,rfl,rfl,rfl⟩ (Ga ⟨910,0,u3,921,0,rfl,rfl,rfl⟩ (Ga ⟨911,0,u4,922,0,rfl,rfl,rfl⟩ (Ga ⟨912,0,u5,923,0,rfl,rfl,rfl⟩ DE))))
        ·subst e1 e2;exact ⟨⟨rfl,rfl,rfl⟩,_,[40],_,BO rfl,rfl,rfl,M',by rw [h0'],rfl,by rw [h0'];rw [if_neg (by decide),Ht hnK] at h3;exact h3⟩
       ·refine C9 (AF (AI (U (Gb Z Z Z Z Z Z Z FN) (AG (B3 ?_)))));have hac:acyW (BD w l)=true:=by simpa using h61
        have h0':lnkW w l=(BD w l,0):=by rw [h0,hac];rfl
        refine ⟨_,HLk b l 0++ [(40,[.multi M1])],_,[910,911,912,913,40],_,_,_,I4 hrep1 l hfR 0,rfl,?_,⟨rfl,rfl,rfl,rfl,rfl,trivial⟩,rfl,rfl,rfl,rfl,fun r H' ⟨e1,M',e2,h3⟩=>?_⟩
        ·exact (Ga ⟨913,0,u6,924,0,rfl,rfl,rfl⟩ (Ga ⟨910,0,u3,921,0,rfl,rfl,rfl⟩ (Ga ⟨911,0,u4,922,0,rfl,rfl,rfl⟩ (Ga ⟨912,0,u5,923,0,rfl,rfl,rfl⟩ DE))))
        ·subst e1 e2;exact ⟨⟨rfl,rfl,rfl⟩,_,[40],_,BO rfl,rfl,rfl,M',by rw [h0'],rfl,by rw [h0'];rw [if_pos rfl] at h3;exact h3⟩
 ·refine Ee Z Z Z Z (Ee Z Z Z Z (Ee Z Z Z Z (J (Me Z Z Z Z) (AE Z Z (AG (IZ Z Z ?_))))))
  first | refine AF ?_ | refine BB hR ?_
  refine AI ?_
  first | refine J (A9 Z Z Aa rfl) ?_ | refine J (A7 Z Z Z Aa rfl) ?_ | refine J (A8 Z Z (rfl) rfl Aa rfl) ?_
  first | refine J (A9 Z Z A4 rfl) ?_ | refine J (A7 Z Z Z A4 rfl) ?_ | refine J (A8 Z Z (rfl) rfl A4 rfl) ?_
  refine U (I0 (iOq hrep l.f) rfl [40] ⟨rfl,trivial⟩ Z Z Z Z Z Z Z Z Z) ?_
  first | refine J (KQ Z Z) ?_ | refine J (BN Z Z) ?_
  refine AB Z Z ?_
  first | refine DI 26 rfl (fun h26=>?_) (fun h26=>?_) | refine Bu 26 rfl (fun h26=>?_) (fun h26=>?_)
  ·refine Ee Z Z Z Z (Ee Z Z Z Z (Ee Z Z Z Z (Ee Z Z Z Z (Ee Z Z Z Z (J (GC Z Z Z Z) (AE Z Z (AG (GS Z Z ?_))))))))
   first | refine AF ?_ | refine BB hR ?_
   have h9:lnkW w l=(w,9):=lnk9 (by first | exact .inl (Classical.not_not.1 h16) | exact .inr (Classical.not_not.1 h12)) (by first | exact .inl h26 | exact .inr h21);refine AI (U (Gb Z Z Z Z Z Z Z FN) (AG (B3 ?_)));exact ⟨_,[40],_,BO rfl,rfl,rfl,M,by rw [h9],rfl,by rw [h9];exact hrep⟩
  ·refine AT Z Z Z ?_
   first | refine J (A9 Z Z Aa rfl) ?_ | refine J (A7 Z Z Z Aa rfl) ?_ | refine J (A8 Z Z (rfl) rfl Aa rfl) ?_
   refine AT Z Z Z ?_
   first | refine J (CE rfl B7 Z Z Z) ?_ | refine J (CG rfl B7 Z Z Z) ?_ | refine J (CI rfl B7 Z Z Z) ?_ | refine J (CF rfl B7 Z Z Z) ?_ | refine J (CD rfl B7 Z Z Z) ?_
   refine AT Z Z Z ?_
   first | refine J (A9 Z Z A4 rfl) ?_ | refine J (A7 Z Z Z A4 rfl) ?_ | refine J (A8 Z Z (rfl) rfl A4 rfl) ?_
   refine AT Z Z Z (U (I0 (iOq hrep l.r) rfl [40] ⟨rfl,trivial⟩ Z Z Z Z Z Z Z Z Z) (AT Z Z Z ?_))
   first | refine J (KQ Z Z) ?_ | refine J (BN Z Z) ?_
   refine J (Me Z Z Z Z) (AE Z Z (AG ?_))
   first | refine BF rfl (fun h21=>?_) (fun h21=>?_) | refine D9 rfl (fun h21=>?_) (fun h21=>?_)
   ·first | refine AF ?_ | refine BB hR ?_
    have h9:lnkW w l=(w,9):=lnk9 (by first | exact .inl (Classical.not_not.1 h16) | exact .inr (Classical.not_not.1 h12)) (by first | exact .inl h26 | exact .inr h21);refine AI (U (Gb Z Z Z Z Z Z Z FN) (AG (B3 ?_)));exact ⟨_,[40],_,BO rfl,rfl,rfl,M,by rw [h9],rfl,by rw [h9];exact hrep⟩
   ·first | refine AF ?_ | refine BB hR ?_
    have ht:l.t=0∨l.t=1:=by first | exact .inl (Classical.not_not.1 h16) | exact .inr (Classical.not_not.1 h12)
    have hfR:l.f∈w.R:=Classical.not_not.1 h26;have hrR:l.r∈w.R:=Classical.not_not.1 h21;refine AI ?_
    first | refine J (A9 Z Z A4 rfl) ?_ | refine J (A7 Z Z Z A4 rfl) ?_ | refine J (A8 Z Z (rfl) rfl A4 rfl) ?_
    first | refine J (CE rfl B7 Z Z Z) ?_ | refine J (CG rfl B7 Z Z Z) ?_ | refine J (CI rfl B7 Z Z Z) ?_ | refine J (CF rfl B7 Z Z Z) ?_ | refine J (CD rfl B7 Z Z Z) ?_
    first | refine J (A9 Z Z A4 rfl) ?_ | refine J (A7 Z Z Z A4 rfl) ?_ | refine J (A8 Z Z (rfl) rfl A4 rfl) ?_
    first | refine J (Dl Z Z Z) ?_ | refine J (Ds Z Z Z) ?_ | refine J (Dg Z Z Z) ?_ | refine J (Dm Try.underlying9 Z Z Z) ?_ | refine J (Dp Try.underlying9 Z Z Z) ?_ | refine J (Do Try.underlying9 Z Z) ?_ | refine J (Dh Try.underlying9 Z Z) ?_ | refine J (Dr Try.underlying9 Z Z) ?_ | refine J (Dn Try.underlying9 Z Z Z) ?_ | refine J (Dq Try.underlying9 Z Z) ?_
    refine AE Z Z (AG ?_)
    first | refine BF rfl (fun h33=>?_) (fun h33=>?_) | refine D9 rfl (fun h33=>?_) (fun h33=>?_)
    ·first | refine AF ?_ | refine BB hR ?_
     refine AI (U (Gb Z Z Z Z Z Z Z FN) (AG (B3 ?_)));exact ⟨_,[40],_,BO rfl,rfl,rfl,M,by rw [LM ht hfR hrR h33],rfl,by rw [LM ht hfR hrR h33];exact hrep⟩
    ·first | refine AF ?_ | refine BB hR ?_
     obtain ⟨hd,hm⟩:=hl.at hfR;refine BK [[],[0],[0,1],[0,1,2],[],[0,1,2,3,4],[],[0,1,2,3,4,5,6],[0,1,2,3,4,5,6,7]] mixed rfl (MP ?_)
     first | refine AN [3] [] Z Z (fun _=>AD (A9 Z Z Aa rfl)) ?_ | refine AQ [3] Z Z (fun _=>AD (A9 Z Z Aa rfl)) ?_ | refine AN [3] [] Z Z (fun _=>AD (A7 Z Z Z Aa rfl)) ?_ | refine AQ [3] Z Z (fun _=>AD (A7 Z Z Z Aa rfl)) ?_ | refine AN [3] [] Z Z (fun _=>AD (A8 Z Z (rfl) rfl Aa rfl)) ?_ | refine AQ [3] Z Z (fun _=>AD (A8 Z Z (rfl) rfl Aa rfl)) ?_
     first | refine AN [39] [] Z Z (fun _=>AD (KL Z Z)) ?_ | refine AQ [39] Z Z (fun _=>AD (KL Z Z)) ?_ | refine AN [39] [] Z Z (fun _=>AD (KJ Z Z)) ?_ | refine AQ [39] Z Z (fun _=>AD (KJ Z Z)) ?_ | refine AN [39] [] Z Z (fun _=>AD (KM Z Z)) ?_ | refine AQ [39] Z Z (fun _=>AD (KM Z Z)) ?_ | refine AN [39] [] Z Z (fun _=>AD (KK Z Z)) ?_ | refine AQ [39] Z Z (fun _=>AD (KK Z Z)) ?_
     first | refine AN [40] [] Z Z (fun _=>AD (CE rfl Au Z Z Z)) ?_ | refine AQ [40] Z Z (fun _=>AD (CE rfl Au Z Z Z)) ?_ | refine AN [40] [] Z Z (fun _=>AD (CG rfl Au Z Z Z)) ?_ | refine AQ [40] Z Z (fun _=>AD (CG rfl Au Z Z Z)) ?_ | refine AN [40] [] Z Z (fun _=>AD (CI rfl Au Z Z Z)) ?_ | refine AQ [40] Z Z (fun _=>AD (CI rfl Au Z Z Z)) ?_ | refine AN [40] [] Z Z (fun _=>AD (CF rfl Au Z Z Z)) ?_ | refine AQ [40] Z Z (fun _=>AD (CF rfl Au Z Z Z)) ?_ | refine AN [40] [] Z Z (fun _=>AD (CD rfl Au Z Z Z)) ?_ | refine AQ [40] Z Z (fun _=>AD (CD rfl Au Z Z Z)) ?_
     first | refine AN [41] [] Z Z (fun _=>AD (KI (f:=40) Z Z (hr.cell) rfl DH rfl)) ?_ | refine AQ [41] Z Z (fun _=>AD (KI (f:=40) Z Z (hr.cell) rfl DH rfl)) ?_
     first | refine AN [4] [] Z Z (fun _=>AD (A9 Z Z A4 rfl)) ?_ | refine AQ [4] Z Z (fun _=>AD (A9 Z Z A4 rfl)) ?_ | refine AN [4] [] Z Z (fun _=>AD (A7 Z Z Z A4 rfl)) ?_ | refine AQ [4] Z Z (fun _=>AD (A7 Z Z Z A4 rfl)) ?_ | refine AN [4] [] Z Z (fun _=>AD (A8 Z Z (rfl) rfl A4 rfl)) ?_ | refine AQ [4] Z Z (fun _=>AD (A8 Z Z (rfl) rfl A4 rfl)) ?_
     first | refine AN [42,43] [] Z Z (fun _=>AD (JG (f:=40) (eE E) l.f none (some hd) Z Z hr.top rfl Ec F6 Gc (CP hl.kd hm) rfl)) ?_ | refine AQ [42,43] Z Z (fun _=>AD (JG (f:=40) (eE E) l.f none (some hd) Z Z hr.top rfl Ec F6 Gc (CP hl.kd hm) rfl)) ?_
     first | refine AN [5] [] Z Z (fun _=>AD (MZ Z Z BE rfl)) ?_ | refine AQ [5] Z Z (fun _=>AD (MZ Z Z BE rfl)) ?_ | refine AN [5] [] Z Z (fun _=>AD (M8 Z Z BE Z Z Z)) ?_ | refine AQ [5] Z Z (fun _=>AD (M8 Z Z BE Z Z Z)) ?_ | refine AN [5] [] Z Z (fun _=>AD (M9 Z Z (rfl) rfl BE rfl)) ?_ | refine AQ [5] Z Z (fun _=>AD (M9 Z Z (rfl) rfl BE rfl)) ?_
     refine MR 7 Z Z Z (Is 8 Z Z (J (JG (f:=40) (Dd (lk hd)) ⟨l.t,l.r⟩ false _ Z Z (hr.sub _ hm) rfl Kf Nq za4 (LO _ _) rfl) (AG ⟨rfl,?_⟩)));refine Is 9 Z Z (AE Z Z (AG ⟨rfl,?_⟩));refine MQ ?_
     first | refine BF rfl (fun h38=>?_) (fun h38=>?_) | refine D9 rfl (fun h38=>?_) (fun h38=>?_)
     ·first | refine AF ?_ | refine BB hR ?_
      refine AI (U (Gb Z Z Z Z Z Z Z FN) (AG (B3 ?_)));have h7:=lnk7 ht hfR hrR h33 ((hl.ls _ hm _).1 h38);exact ⟨_,[40],_,BO rfl,rfl,rfl,M,by rw [h7],rfl,by rw [h7];exact hrep⟩
     ·refine C9 ?_
      first | refine AF ?_ | refine BB hR ?_
      refine Bz 921 910 0 Z Z Z Z Z fun u3=>(Bz 922 911 0 Z Z Z Z Z fun u4=>(Bz 923 912 0 Z Z Z Z Z fun u5=>(Bz 924 913 0 Z Z Z Z Z fun u6=>(BK [[],[0],[0,1],[0,1,2],[],[0,1,2,3,4],[],[0,1,2,3,4,5,6]] mixed rfl (MP ?_)))))
      first | refine AN [3] [] Z Z (fun _=>AD (A9 Z Z Aa rfl)) ?_ | refine AQ [3] Z Z (fun _=>AD (A9 Z Z Aa rfl)) ?_ | refine AN [3] [] Z Z (fun _=>AD (A7 Z Z Z Aa rfl)) ?_ | refine AQ [3] Z Z (fun _=>AD (A7 Z Z Z Aa rfl)) ?_ | refine AN [3] [] Z Z (fun _=>AD (A8 Z Z (rfl) rfl Aa rfl)) ?_ | refine AQ [3] Z Z (fun _=>AD (A8 Z Z (rfl) rfl Aa rfl)) ?_
      first | refine AN [47] [] Z Z (fun _=>AD (KL Z Z)) ?_ | refine AQ [47] Z Z (fun _=>AD (KL Z Z)) ?_ | refine AN [47] [] Z Z (fun _=>AD (KJ Z Z)) ?_ | refine AQ [47] Z Z (fun _=>AD (KJ Z Z)) ?_ | refine AN [47] [] Z Z (fun _=>AD (KM Z Z)) ?_ | refine AQ [47] Z Z (fun _=>AD (KM Z Z)) ?_ | refine AN [47] [] Z Z (fun _=>AD (KK Z Z)) ?_ | refine AQ [47] Z Z (fun _=>AD (KK Z Z)) ?_
      first | refine AN [48] [] Z Z (fun _=>AD (CE rfl Au Z Z Z)) ?_ | refine AQ [48] Z Z (fun _=>AD (CE rfl Au Z Z Z)) ?_ | refine AN [48] [] Z Z (fun _=>AD (CG rfl Au Z Z Z)) ?_ | refine AQ [48] Z Z (fun _=>AD (CG rfl Au Z Z Z)) ?_ | refine AN [48] [] Z Z (fun _=>AD (CI rfl Au Z Z Z)) ?_ | refine AQ [48] Z Z (fun _=>AD (CI rfl Au Z Z Z)) ?_ | refine AN [48] [] Z Z (fun _=>AD (CF rfl Au Z Z Z)) ?_ | refine AQ [48] Z Z (fun _=>AD (CF rfl Au Z Z Z)) ?_ | refine AN [48] [] Z Z (fun _=>AD (CD rfl Au Z Z Z)) ?_ | refine AQ [48] Z Z (fun _=>AD (CD rfl Au Z Z Z)) ?_
      first | refine AN [49] [] Z Z (fun _=>AD (KI (f:=40) Z Z (hr.cell) rfl DH rfl)) ?_ | refine AQ [49] Z Z (fun _=>AD (KI (f:=40) Z Z (hr.cell) rfl DH rfl)) ?_
      first | refine AN [4] [] Z Z (fun _=>AD (A9 Z Z A4 rfl)) ?_ | refine AQ [4] Z Z (fun _=>AD (A9 Z Z A4 rfl)) ?_ | refine AN [4] [] Z Z (fun _=>AD (A7 Z Z Z A4 rfl)) ?_ | refine AQ [4] Z Z (fun _=>AD (A7 Z Z Z A4 rfl)) ?_ | refine AN [4] [] Z Z (fun _=>AD (A8 Z Z (rfl) rfl A4 rfl)) ?_ | refine AQ [4] Z Z (fun _=>AD (A8 Z Z (rfl) rfl A4 rfl)) ?_
      first | refine AN [50,51] [] Z Z (fun _=>AD (JG (f:=40) (eE E) l.f none (some hd) Z Z hr.top rfl Ec F6 Gc (CP hl.kd hm) rfl)) ?_ | refine AQ [50,51] Z Z (fun _=>AD (JG (f:=40) (eE E) l.f none (some hd) Z Z hr.top rfl Ec F6 Gc (CP hl.kd hm) rfl)) ?_
      first | refine AN [5] [] Z Z (fun _=>AD (MZ Z Z BE rfl)) ?_ | refine AQ [5] Z Z (fun _=>AD (MZ Z Z BE rfl)) ?_ | refine AN [5] [] Z Z (fun _=>AD (M8 Z Z BE Z Z Z)) ?_ | refine AQ [5] Z Z (fun _=>AD (M8 Z Z BE Z Z Z)) ?_ | refine AN [5] [] Z Z (fun _=>AD (M9 Z Z (rfl) rfl BE rfl)) ?_ | refine AQ [5] Z Z (fun _=>AD (M9 Z Z (rfl) rfl BE rfl)) ?_
      refine MR 7 Z Z Z (Is 8 Z Z (U (Gg (f:=40) (Dd (lk hd)) (⟨l.t,l.r⟩) (true) Z Z (hr.sub _ hm) rfl Kf Nq Z Z) (AG ⟨rfl,?_⟩)));refine MQ ?_;have hnK:l∉w.K:=fun hh=>h38 ((hl.ls _ hm _).2 hh);rw [LN h38];have hrep1:Cv _ b (BD w l):=JJ hr hl hm (l:=⟨l.t,l.r⟩) hnK;have hok1:=hw.with_ ht hfR hrR h33 hnK;have hK1:(BD w l).K.length≤1000000:=by show (w.K++ [l]).length≤_;rw [List.length_append,List.length_singleton];omega
      have h0:=Ni ht hfR hrR h33 hnK
      obtain ⟨M1,hM1⟩:∃M1,Ax M hd (.map none (Eq (lk hd++ [⟨l.t,l.r⟩])))=M1:=⟨_,rfl⟩
      rw [hM1] at hrep1⊢;refine LV (xs:=[6,3,4,5]) (ars:=[.ptr 913 0 0,.ptr 910 0 0,.ptr 911 0 0,.ptr 912 0 0]) [.pointer (some ⟨u6,0,none⟩),.pointer (some ⟨u3,0,none⟩),.pointer (some ⟨u4,0,none⟩),.pointer (some ⟨u5,0,none⟩)] hD hlo hrnd Z Z Z ?_ ?_
      ·exact (Ga ⟨913,0,u6,924,0,rfl,rfl,rfl⟩ (Ga ⟨910,0,u3,921,0,rfl,rfl,rfl⟩ (Ga ⟨911,0,u4,922,0,rfl,rfl,rfl⟩ (Ga ⟨912,0,u5,923,0,rfl,rfl,rfl⟩ DE))))
      refine AF (AF (AI ?_))
      first | refine J (A9 Z Z Aa rfl) ?_ | refine J (A7 Z Z Z Aa rfl) ?_ | refine J (A8 Z Z (rfl) rfl Aa rfl) ?_
      refine U (I0 (Id hrep1 hok1 hK1) rfl [40] ⟨rfl,trivial⟩ Z Z Z Z Z Z Z Z Z) (AB Z Z ?_)
      first | refine J (Dk Z Z Z) ?_ | refine J (Dj Z Z Z) ?_
      first | refine J (Dk Z Z Z) ?_ | refine J (Dj Z Z Z) ?_
      refine AE Z Z (AE Z Z (AG (AF (AI (AB Z Z ?_)))))
      first | refine J (KQ Z Z) ?_ | refine J (BN Z Z) ?_
      refine AG ?_
      first | refine BF rfl (fun h61=>?_) (fun h61=>?_) | refine D9 rfl (fun h61=>?_) (fun h61=>?_)
      ·refine AF (AI (U (Gb Z Z Z Z Z Z Z FN) (AG (B3 ?_))));have hac:acyW (BD w l)=false:=by simpa using h61
       have h0':lnkW w l=(w,26):=by rw [h0,hac];rfl
       refine ⟨_,HLk b l 26++ [(40,[.multi M1])],_,[910,911,912,913,40],_,_,_,I4 hrep1 l hfR 26,rfl,?_,⟨rfl,rfl,rfl,rfl,rfl,trivial⟩,rfl,rfl,rfl,rfl,fun r H' ⟨e1,M',e2,h3⟩=>?_⟩
       ·exact (Ga ⟨913,0,u6,924,0,rfl,rfl,rfl⟩ (Ga ⟨910,0,u3,921,0,rfl,rfl,rfl⟩ (Ga ⟨911,0,u4,922,0,rfl,rfl,rfl⟩ (Ga ⟨912,0,u5,923,0,rfl,rfl,rfl⟩ DE))))
       ·subst e1 e2;exact ⟨⟨rfl,rfl,rfl⟩,_,[40],_,BO rfl,rfl,rfl,M',by rw [h0'],rfl,by rw [h0'];rw [if_neg (by decide),Ht hnK] at h3;exact h3⟩
      ·refine C9 (AF (AI (U (Gb Z Z Z Z Z Z Z FN) (AG (B3 ?_)))));have hac:acyW (BD w l)=true:=by simpa using h61
       have h0':lnkW w l=(BD w l,0):=by rw [h0,hac];rfl
       refine ⟨_,HLk b l 0++ [(40,[.multi M1])],_,[910,911,912,913,40],_,_,_,I4 hrep1 l hfR 0,rfl,?_,⟨rfl,rfl,rfl,rfl,rfl,trivial⟩,rfl,rfl,rfl,rfl,fun r H' ⟨e1,M',e2,h3⟩=>?_⟩
       ·exact (Ga ⟨913,0,u6,924,0,rfl,rfl,rfl⟩ (Ga ⟨910,0,u3,921,0,rfl,rfl,rfl⟩ (Ga ⟨911,0,u4,922,0,rfl,rfl,rfl⟩ (Ga ⟨912,0,u5,923,0,rfl,rfl,rfl⟩ DE))))
       ·subst e1 e2;exact ⟨⟨rfl,rfl,rfl⟩,_,[40],_,BO rfl,rfl,rfl,M',by rw [h0'],rfl,by rw [h0'];rw [if_pos rfl] at h3;exact h3⟩
theorem OB {M:MF} {b:Nat} {w:Ws} (h:Cv M b w) (hw:CJ w) (hK:w.K.length≤1000000):AO Try.prog 19 [.d (pD b 0)] [(40,[.multi M])] fun r H'=>r= .d (LU (groupsW w))∧H'=[(40,[.multi M])]:=by
 refine DR Try.func19 Z Z Try.ntmps19 Z Z Z fun F hF=>(AF (AI (AE Z Z (AG (AF (AF (AI (AB Z Z ?_))))))))
 first | refine J (Dl Z Z Z) ?_ | refine J (Ds Z Z Z) ?_ | refine J (Dg Z Z Z) ?_ | refine J (Dm Try.underlying23 Z Z Z) ?_ | refine J (Dp Try.underlying23 Z Z Z) ?_ | refine J (Do Try.underlying23 Z Z) ?_ | refine J (Dh Try.underlying23 Z Z) ?_ | refine J (Dr Try.underlying23 Z Z) ?_ | refine J (Dn Try.underlying23 Z Z Z) ?_ | refine J (Dq Try.underlying23 Z Z) ?_
 refine AG (IZ rfl (rfl) (C9 (AF (AI (AB Z Z (U (I0 (Id h hw hK) rfl [40] ⟨rfl,trivial⟩ Z Z Z Z Z Z Z Z Z) (AB Z Z ?_)))))))
 first | refine J (Dk Z Z Z) ?_ | refine J (Dj Z Z Z) ?_
 first | refine J (Dk Z Z Z) ?_ | refine J (Dj Z Z Z) ?_
 refine AE Z Z (AE Z Z (AG (AF (AI (AB Z Z (AE Z Z (AG (B3 ?_))))))));exact ⟨_,[40],_,BO rfl,rfl,rfl,rfl,rfl⟩
theorem OS {M:MF} {b:Nat} {w:Ws} (h:Cv M b w) (hw:CJ w) (hK:w.K.length≤1000000) (a:St):AO Try.prog 23 [.d (pD b 0),.d (AP a)] [(40,[.multi M])] fun r H'=>r= .d (if a∈w.R then stsD (cloW w a false) else .sl (some true) [])∧H'=[(40,[.multi M])]:=by
 refine DR Try.func23 Z Z Try.ntmps23 Z Z Z fun F hF=>(AF (AI (AE Z Z ?_)));refine AG (AF (AI (AB Z Z (AB Z Z (U (I0 (cloF_c h hw hK a) rfl [40] ⟨rfl,trivial⟩ Z Z Z Z Z Z Z Z Z) (AE Z Z (AG (B3 ?_))))))));exact ⟨_,[40],_,BO rfl,rfl,rfl,rfl,rfl⟩
abbrev sa:St:=[97]
abbrev sb:St:=[98]
abbrev sc:St:=[99]
abbrev w1:Ws:=⟨[sa],[]⟩
abbrev w2:Ws:=⟨[sa,sb],[]⟩
abbrev w3:Ws:=⟨[sa,sb,sc],[]⟩
abbrev w4:Ws:=⟨[sa,sb,sc],[⟨sa,0,sb⟩]⟩
abbrev w5:Ws:=⟨[sa,sb,sc],[⟨sa,0,sb⟩,⟨sc,1,sa⟩]⟩
theorem In:addW ⟨[],[]⟩ sa=(w1,0):=by unfold addW;rw [if_neg (by decide),if_neg (by decide),if_neg (by decide)];rfl
theorem Kj:addW w1 sb=(w2,0):=by unfold addW;rw [if_neg (by decide),if_neg (by decide),if_neg (by decide)];rfl
theorem Nx:addW w2 sc=(w3,0):=by unfold addW;rw [if_neg (by decide),if_neg (by decide),if_neg (by decide)];rfl
theorem k_ok1:CJ w1:=by have:=(GZ.nil.add sa).ok;rw [In] at this;exact this
theorem k_ok2:CJ w2:=by have:=((GZ.nil.add sa).add sb).ok;rw [In,Kj] at this;exact this
theorem k_ok3:CJ w3:=by have:=(((GZ.nil.add sa).add sb).add sc).ok;rw [In,Kj,Nx] at this;exact this
theorem Ns:CJ w4:=k_ok3.with_ (l:=⟨sa,0,sb⟩) (by decide) (by decide) (by decide) (by decide) (by decide)
theorem F9:CJ w5:=Ns.with_ (l:=⟨sc,1,sa⟩) (by decide) (by decide) (by decide) (by decide) (by decide)
theorem k_con {x y:St}:Fj w5 x y↔x=y∨(x=sa∧y=sb)∨(x=sb∧y=sa):=by
 constructor
 ·intro h;refine Aq.closed (p:=fun y=>x=y∨(x=sa∧y=sb)∨(x=sb∧y=sa)) (fun p q hp hq=>?_) (.inl rfl) h
  simp [I3] at hq
  rcases hq with ⟨rfl,rfl⟩ | ⟨rfl,rfl⟩
  ·rcases hp with rfl | ⟨rfl,e⟩ | ⟨rfl,e⟩
   ·exact .inr (.inl ⟨rfl,rfl⟩)
   ·exact absurd e (by decide)
   ·exact .inl rfl
  ·rcases hp with rfl | ⟨rfl,e⟩ | ⟨rfl,e⟩
   ·exact .inr (.inr ⟨rfl,rfl⟩)
   ·exact .inl rfl
   ·exact absurd e (by decide)
 ·rintro (rfl | ⟨rfl,rfl⟩ | ⟨rfl,rfl⟩)
  ·exact .refl
  ·exact Aq.one (.inl (by simp))
  ·exact Aq.one (.inr (by simp))
theorem k_acy4:acyW w4=true:=by
 rw [ET Ns];rintro ⟨Y,⟨x,hx⟩,h⟩;obtain ⟨_,l,hl,ht,_⟩:=h x hx;rw [List.mem_singleton.1 hl] at ht;exact absurd ht (by decide)
theorem k_acy5:acyW w5=true:=by
 rw [ET F9];rintro ⟨Y,⟨x,hx⟩,h⟩
 have key:∀x,Y x ->Fj w5 x sc∧Y sa:=fun x hx=>by
  obtain ⟨_,l,hl,ht,hc,_,hy⟩:=h x hx;rcases List.mem_cons.1 hl with rfl | hl
  ·exact absurd ht (by decide)
  ·rw [List.mem_singleton.1 hl] at hc hy;exact ⟨hc,hy⟩
 have h1:=(key _ (key x hx).2).1;rw [k_con] at h1;exact absurd h1 (by decide)
theorem k_lnk1:lnkW w3 ⟨sa,0,sb⟩=(w4,0):=by rw [Ni (by decide) (by decide) (by decide) (by decide) (by decide)];exact if_pos k_acy4
theorem k_lnk2:lnkW w4 ⟨sc,1,sa⟩=(w5,0):=by rw [Ni (by decide) (by decide) (by decide) (by decide) (by decide)];exact if_pos k_acy5
theorem Im {x y:St}:Fj (BD w5 ⟨sb,1,sc⟩) x y↔Fj w5 x y:=by
 constructor<;>refine Aq.mono fun p q hq=>?_
 ·simp [I3,BD] at hq⊢;exact hq
 ·simp [I3,BD] at hq⊢;exact hq
theorem k_lnk3:lnkW w5 ⟨sb,1,sc⟩=(w5,26):=by
 rw [Ni (by decide) (by decide) (by decide) (by decide) (by decide)];refine if_neg fun h=>?_;rw [ET (F9.with_ (l:=⟨sb,1,sc⟩) (by decide) (by decide) (by decide) (by decide) (by decide))] at h;refine h ⟨fun x=>x∈w5.R,⟨sa,by decide⟩,fun x hx=>⟨hx,?_⟩⟩;have hx':x=sa∨x=sb∨x=sc:=by simpa using hx
 rcases hx' with rfl | rfl | rfl
 ·exact ⟨⟨sb,1,sc⟩,by simp [BD],rfl,Im.2 (k_con.2 (by decide)),fun hh=>absurd (k_con.1 (Im.1 hh)) (by decide),by decide⟩
 ·exact ⟨⟨sb,1,sc⟩,by simp [BD],rfl,.refl,fun hh=>absurd (k_con.1 (Im.1 hh)) (by decide),by decide⟩
 ·exact ⟨⟨sc,1,sa⟩,by simp [BD],rfl,.refl,fun hh=>absurd (k_con.1 (Im.1 hh)) (by decide),by decide⟩
theorem k_cls:cls w5 sa=[sa,sb]∧cls w5 sc=[sc]:=by
 unfold cls;simp only [k_con]
 constructor<;>rfl
open Classical in
theorem Il:parts w5=[[sa,sb],[sc]]:=by
 unfold parts
 have h1:KO w5 sa:=fun x hx hc=>by
  rcases k_con.1 hc with rfl | ⟨_,rfl⟩ | ⟨e,_⟩
  ·decide
  ·decide
  ·exact absurd e (by decide)
 have h2:¬KO w5 sb:=fun h=>h sa (by decide) (k_con.2 (by decide)) (by decide)
 have h3:KO w5 sc:=fun x hx hc=>by
  rcases k_con.1 hc with rfl | ⟨e,_⟩ | ⟨e,_⟩
  ·decide
  ·exact absurd e (by decide)
  ·exact absurd e (by decide)
 show List.map _ (List.filter _ [sa,sb,sc])=_;rw [List.filter_cons_of_pos (p:=fun a=>decide (KO w5 a)) (by exact decide_eq_true h1),List.filter_cons_of_neg (p:=fun a=>decide (KO w5 a)) (by show ¬decide (KO w5 sb)=true;rw [decide_eq_true_eq];exact h2),List.filter_cons_of_pos (p:=fun a=>decide (KO w5 a)) (by exact decide_eq_true h3),List.filter_nil,List.map_cons,List.map_cons,k_cls.1,k_cls.2];rfl
theorem LP:idx w5 sa=0∧idx w5 sb=0∧idx w5 sc=1:=by
 unfold idx;rw [Il];decide
theorem Nv:depL w5 0=[]:=by
 refine List.eq_nil_iff_forall_not_mem.2 fun k hk=>?_;obtain ⟨_,l,hl,ht,hf,_⟩:=(Bx F9).1 hk;rcases List.mem_cons.1 hl with rfl | hl
 ·exact absurd ht (by decide)
 ·rw [List.mem_singleton.1 hl] at hf;rw [show idx w5 sc=1 from LP.2.2] at hf;cases hf
theorem Nu:depL w5 1=[0]:=by
 refine Gm (Fd _ _) (by simp) fun k=>?_;rw [Bx F9]
 constructor
 ·rintro ⟨_,l,hl,ht,hf,hr⟩;rcases List.mem_cons.1 hl with rfl | hl
  ·exact absurd ht (by decide)
  ·rw [List.mem_singleton.1 hl] at hr;rw [show idx w5 sa=0 from LP.1] at hr;simp [←hr]
 ·intro hk;rw [List.mem_singleton.1 hk];exact ⟨by decide,⟨sc,1,sa⟩,by decide,rfl,LP.2.2,LP.1⟩
theorem k_ord:ordW w5=some [0,1]:=by
 unfold ordW;rw [Il];have h0:Fv 2 (depL w5) [] =some 0:=Ex (by decide) (Bt.2 ⟨by simp,by rw [Nv];simp⟩) (fun j hj=>by omega)
 have h1:Fv 2 (depL w5) [0] =some 1:=Ex (by decide) (Bt.2 ⟨by simp,by rw [Nu];simp⟩) (fun j hj=>by
  have:j=0:=by omega
  subst this
  rw [Bool.eq_false_iff];intro h;exact (Bt.1 h).1 (by simp))
 show fSq 2 (depL w5) 2 [] =_;simp only [fSq,h0,List.nil_append,h1]
 rfl
theorem Nt:groupsW w5=[⟨[sa,sb],[]⟩,⟨[sc],[0]⟩]:=by
 rw [(LT k_ord).1];unfold grpS Ff;rw [Il]
 simp [List.range_succ,Nv,Nu]
theorem Nw:cloW w5 sc false=[sa,sb,sc]:=by
 refine LB (OP F9 _ _) F9.srt fun x=>?_;rw [Jf];refine ⟨fun h=>h.1,fun h=>⟨h,?_⟩⟩;have h1:Aq (Stp w5 false) sc sa:=Aq.one (.inr (show (⟨sc,1,sa⟩:Lw)∈w5.K by decide));have hx:x=sa∨x=sb∨x=sc:=by simpa using h
 rcases hx with rfl | rfl | rfl
 ·exact h1
 ·exact h1.tail (.inl (.inl (by decide)))
 ·exact .refl
theorem Js {l:List St} {k:Nat} (h:k<l.length):(l.map AP)[k]?=some (AP (l.getD k [])):=by
 rw [List.getElem?_map,List.getElem?_eq_getElem h,List.getD_eq_getElem?_getD,List.getElem?_eq_getElem h];rfl
theorem take_eq {l l':List St} {k:Nat} (h1:k<l.length) (h2:k<l'.length) (h:l.take k=l'.take k) (e:l.getD k [] =l'.getD k []):l.take (k+1)=l'.take (k+1):=by
 rw [List.take_succ_eq_append_getElem h1,List.take_succ_eq_append_getElem h2,h];rw [List.getD_eq_getElem?_getD,List.getElem?_eq_getElem h1,List.getD_eq_getElem?_getD,List.getElem?_eq_getElem h2] at e;exact congrArg (fun x=>l'.take k++ [x]) e
theorem Ig (l l':List St) (hl:l.length≤1000000):As Try.prog 20 [.d (stsD l),.d (stsD l')] (CS (decide (l=l'))):=by
 refine DR Try.func20 Z Z Try.ntmps20 Z Z Z fun F hF=>(AF (AI ?_));refine AE Z Z (AG (AF (AF (AI (AB Z Z (J (Du rfl (List.length_map ..) Try.underlying32 rfl) (AB Z Z (J (Du rfl (List.length_map ..) Try.underlying32 rfl) ?_))))))))
 first | refine J (CN Z Z Z) ?_ | refine J (Md Z Z Z) ?_ | refine J (BI Z Z Z) ?_ | refine J (BV Try.underlying3 Z Z Z) ?_ | refine J (BT Try.underlying3 Z Z Z) ?_ | refine J (st_neqN Try.underlying3 Z Z) ?_ | refine J (st_neqPr Try.underlying3 Z Z) ?_ | refine J (st_neqMz Try.underlying3 Z Z) ?_ | refine J (BU Try.underlying3 Z Z Z) ?_ | refine J (st_neqFN Try.underlying3 Z Z) ?_
 refine AG ?_
 first | refine BF rfl (fun h10=>?_) (fun h10=>?_) | refine D9 rfl (fun h10=>?_) (fun h10=>?_)
 ·refine AF (AI (AE Z Z (AG (B3 ?_))));exact ⟨_,[],[],BO rfl,rfl,rfl,by rw [decide_eq_false fun e=>h10 (by rw [e])],rfl⟩
 ·refine C9 (AF (AF ?_));have hll:l.length=l'.length:=Int.ofNat.inj (Classical.not_not.1 h10);refine AI (AE Z Z (AG (DQ (O1 (α:=Nat) (fun k=>⟨26,[(0,.d (stsD l)),(1,.d (stsD l')),(5,(.d (natD k)))],[]⟩) (fun k=>k≤l.length∧l.take k=l'.take k) (fun k=>l.length - k) (0) (⟨Nat.zero_le _,rfl⟩) (Fx ⟨rfl,rfl,rfl,trivial⟩) ?_))));rintro k ⟨hk,he⟩;refine AF (AF (AI (AB Z Z (AB Z Z (J (Du rfl (List.length_map ..) Try.underlying32 rfl) ?_)))))
  first | refine J (JC Z Z Z) ?_ | refine J (JA Z Z Z) ?_
  refine AG ?_
  first | refine BF rfl (fun h14=>?_) (fun h14=>?_) | refine D9 rfl (fun h14=>?_) (fun h14=>?_)
  ·refine C9 (AF (DQ (AF ?_)));have hkl:k<l.length:=B9 h14;have hkl':k<l'.length:=by omega
   refine BK [[],[],[0,1],[0,1,2],[],[],[4,5],[4,5,6],[0,1,2,3,4,5,6,7]] mixed rfl (MP ?_)
   first | refine AN [0] [] Z Z (fun _=>AD (CA Z Z)) ?_ | refine AQ [0] Z Z (fun _=>AD (CA Z Z)) ?_
   first | refine AN [5] [] Z Z (fun _=>AD (CA Z Z)) ?_ | refine AQ [5] Z Z (fun _=>AD (CA Z Z)) ?_
   first | refine AN [17,18] [] Z Z (fun _=>AD (Dy (k) Z Z (rfl) (Js hkl) Try.underlying32 rfl Ma rfl)) ?_ | refine AQ [17,18] Z Z (fun _=>AD (Dy (k) Z Z (rfl) (Js hkl) Try.underlying32 rfl Ma rfl)) ?_ | refine AN [17,18] [] Z Z (fun _=>AD (Dz (k) Z Z (rfl) (Js hkl) rfl Try.underlying32 Ma rfl)) ?_ | refine AQ [17,18] Z Z (fun _=>AD (Dz (k) Z Z (rfl) (Js hkl) rfl Try.underlying32 Ma rfl)) ?_
   first | refine AN [19] [] Z Z (fun _=>AD (A9 Z Z A4 rfl)) ?_ | refine AQ [19] Z Z (fun _=>AD (A9 Z Z A4 rfl)) ?_ | refine AN [19] [] Z Z (fun _=>AD (A7 Z Z Z A4 rfl)) ?_ | refine AQ [19] Z Z (fun _=>AD (A7 Z Z Z A4 rfl)) ?_ | refine AN [19] [] Z Z (fun _=>AD (A8 Z Z (rfl) rfl A4 rfl)) ?_ | refine AQ [19] Z Z (fun _=>AD (A8 Z Z (rfl) rfl A4 rfl)) ?_
   first | refine AN [1] [] Z Z (fun _=>AD (CA Z Z)) ?_ | refine AQ [1] Z Z (fun _=>AD (CA Z Z)) ?_
   first | refine AN [5] [] Z Z (fun _=>AD (CA Z Z)) ?_ | refine AQ [5] Z Z (fun _=>AD (CA Z Z)) ?_
   first | refine AN [21,22] [] Z Z (fun _=>AD (Dy (k) Z Z (rfl) (Js hkl') Try.underlying32 rfl Ma rfl)) ?_ | refine AQ [21,22] Z Z (fun _=>AD (Dy (k) Z Z (rfl) (Js hkl') Try.underlying32 rfl Ma rfl)) ?_ | refine AN [21,22] [] Z Z (fun _=>AD (Dz (k) Z Z (rfl) (Js hkl') rfl Try.underlying32 Ma rfl)) ?_ | refine AQ [21,22] Z Z (fun _=>AD (Dz (k) Z Z (rfl) (Js hkl') rfl Try.underlying32 Ma rfl)) ?_
   first | refine AN [23] [] Z Z (fun _=>AD (A9 Z Z A4 rfl)) ?_ | refine AQ [23] Z Z (fun _=>AD (A9 Z Z A4 rfl)) ?_ | refine AN [23] [] Z Z (fun _=>AD (A7 Z Z Z A4 rfl)) ?_ | refine AQ [23] Z Z (fun _=>AD (A7 Z Z Z A4 rfl)) ?_ | refine AN [23] [] Z Z (fun _=>AD (A8 Z Z (rfl) rfl A4 rfl)) ?_ | refine AQ [23] Z Z (fun _=>AD (A8 Z Z (rfl) rfl A4 rfl)) ?_
   refine MR 8 Z Z Z (Is 9 Z Z ?_)
   first | refine J (CN Z Z Z) ?_ | refine J (Md Z Z Z) ?_ | refine J (BI Z Z Z) ?_ | refine J (BV Try.underlying9 Z Z Z) ?_ | refine J (BT Try.underlying9 Z Z Z) ?_ | refine J (st_neqN Try.underlying9 Z Z) ?_ | refine J (st_neqPr Try.underlying9 Z Z) ?_ | refine J (st_neqMz Try.underlying9 Z Z) ?_ | refine J (BU Try.underlying9 Z Z Z) ?_ | refine J (st_neqFN Try.underlying9 Z Z) ?_
   refine AG ⟨rfl,?_⟩;refine MQ ?_
   first | refine BF rfl (fun h25=>?_) (fun h25=>?_) | refine D9 rfl (fun h25=>?_) (fun h25=>?_)
   ·refine AF (AI (AE Z Z (AG (B3 ?_))));exact ⟨_,[],[],BO rfl,rfl,rfl,by rw [decide_eq_false fun e=>h25 (by rw [e])],rfl⟩
   ·refine C9 (AI (AB Z Z (J (BY Z Z (IntWalk.i64_in _ (by omega)) rfl) (AE Z Z (AG ?_)))));exact ⟨k+1,⟨hkl,take_eq hkl (by omega) he (Classical.not_not.1 h25)⟩,by omega,⟨rfl,rfl,fun _ _=>Has.get (l:=[(0,_),(1,_),(5,_)]) ⟨rfl,rfl,rfl,trivial⟩⟩⟩
  ·refine JB (AF ?_);have hke:k=l.length:=by have:=h14;omega
   refine AI (AE Z Z (AG (B3 ?_)));exact ⟨_,[],[],BO rfl,rfl,rfl,by rw [decide_eq_true (by have h1:=he;rw [hke,List.take_length,hll,List.take_length] at h1;exact h1)],rfl⟩
theorem known_p:As Try.prog 10 [] (.raw (.bool true)):=by
 refine DR Try.func10 Z Z Try.ntmps10 Z Z Z fun F hF=>(AF (AI (AE Z Z (AG (AF (AI ?_))))));refine BH (L1 Nf rfl [40] ⟨rfl,trivial⟩ Z Z Z Z (fun r H' ⟨b,M,e1,e2,_⟩=>by subst e1 e2;exact ⟨rfl,rfl,rfl⟩) rfl) rfl ?_;rintro _ ⟨r,H',⟨b,M0,e1,e2,h0⟩,rfl⟩;subst e1 e2;refine AE Z Z (AG (AF (AF (AI (AB Z Z ?_)))))
 first | refine J (Dl Z Z Z) ?_ | refine J (Ds Z Z Z) ?_ | refine J (Dg Z Z Z) ?_ | refine J (Dm Try.underlying23 Z Z Z) ?_ | refine J (Dp Try.underlying23 Z Z Z) ?_ | refine J (Do Try.underlying23 Z Z) ?_ | refine J (Dh Try.underlying23 Z Z) ?_ | refine J (Dr Try.underlying23 Z Z) ?_ | refine J (Dn Try.underlying23 Z Z Z) ?_ | refine J (Dq Try.underlying23 Z Z) ?_
 refine AB Z Z (Ft 6 rfl (rfl) (AT Z Z Z (AB Z Z (AT Z Z Z ?_))));refine BH (L1 (OU h0 GZ.nil.ok sa) rfl [40] ⟨rfl,trivial⟩ Z Z Z Z (fun r H' ⟨M,e1,e2,_⟩=>by subst e1 e2;exact ⟨rfl,rfl,rfl⟩) rfl) rfl ?_;rintro _ ⟨r,H',⟨M1,e1,e2,h1⟩,rfl⟩;subst e1 e2;rw [In] at h1⊢;refine AT Z Z Z ?_
 first | refine J (CN Z Z Z) ?_ | refine J (Md Z Z Z) ?_ | refine J (BI Z Z Z) ?_ | refine J (BV Try.underlying25 Z Z Z) ?_ | refine J (BT Try.underlying25 Z Z Z) ?_ | refine J (st_neqN Try.underlying25 Z Z) ?_ | refine J (st_neqPr Try.underlying25 Z Z) ?_ | refine J (st_neqMz Try.underlying25 Z Z) ?_ | refine J (BU Try.underlying25 Z Z Z) ?_ | refine J (st_neqFN Try.underlying25 Z Z) ?_
 refine J (Me Z Z Z Z) (AB Z Z (Ft 11 rfl (rfl) (AT Z Z Z (AB Z Z (AT Z Z Z ?_)))));refine BH (L1 (OU h1 k_ok1 sb) rfl [40] ⟨rfl,trivial⟩ Z Z Z Z (fun r H' ⟨M,e1,e2,_⟩=>by subst e1 e2;exact ⟨rfl,rfl,rfl⟩) rfl) rfl ?_;rintro _ ⟨r,H',⟨M2,e1,e2,h2⟩,rfl⟩;subst e1 e2;rw [Kj] at h2⊢;refine AT Z Z Z ?_
 first | refine J (CN Z Z Z) ?_ | refine J (Md Z Z Z) ?_ | refine J (BI Z Z Z) ?_ | refine J (BV Try.underlying25 Z Z Z) ?_ | refine J (BT Try.underlying25 Z Z Z) ?_ | refine J (st_neqN Try.underlying25 Z Z) ?_ | refine J (st_neqPr Try.underlying25 Z Z) ?_ | refine J (st_neqMz Try.underlying25 Z Z) ?_ | refine J (BU Try.underlying25 Z Z Z) ?_ | refine J (st_neqFN Try.underlying25 Z Z) ?_
 refine J (Me Z Z Z Z) (AB Z Z (Ft 16 rfl (rfl) (AT Z Z Z (AB Z Z (AT Z Z Z ?_)))));refine BH (L1 (OU h2 k_ok2 sc) rfl [40] ⟨rfl,trivial⟩ Z Z Z Z (fun r H' ⟨M,e1,e2,_⟩=>by subst e1 e2;exact ⟨rfl,rfl,rfl⟩) rfl) rfl ?_;rintro _ ⟨r,H',⟨M3,e1,e2,h3⟩,rfl⟩;subst e1 e2;rw [Nx] at h3⊢;refine AT Z Z Z ?_
 first | refine J (CN Z Z Z) ?_ | refine J (Md Z Z Z) ?_ | refine J (BI Z Z Z) ?_ | refine J (BV Try.underlying25 Z Z Z) ?_ | refine J (BT Try.underlying25 Z Z Z) ?_ | refine J (st_neqN Try.underlying25 Z Z) ?_ | refine J (st_neqPr Try.underlying25 Z Z) ?_ | refine J (st_neqMz Try.underlying25 Z Z) ?_ | refine J (BU Try.underlying25 Z Z Z) ?_ | refine J (st_neqFN Try.underlying25 Z Z) ?_
 refine J (Me Z Z Z Z) (AB Z Z (Ft 21 rfl (rfl) (AT Z Z Z (AB Z Z (AT Z Z Z (J (EG Mh pl39 Z Z Z) (AT Z Z Z ?_)))))));refine BH (L1 (Kh h3 k_ok3 (by decide) ⟨sa,0,sb⟩) rfl [40] ⟨rfl,trivial⟩ Z Z Z Z (fun r H' ⟨M,e1,e2,_⟩=>by subst e1 e2;exact ⟨rfl,rfl,rfl⟩) rfl) rfl ?_;rintro _ ⟨r,H',⟨M4,e1,e2,h4⟩,rfl⟩;subst e1 e2;rw [k_lnk1] at h4⊢;refine AT Z Z Z ?_
 first | refine J (CN Z Z Z) ?_ | refine J (Md Z Z Z) ?_ | refine J (BI Z Z Z) ?_ | refine J (BV Try.underlying25 Z Z Z) ?_ | refine J (BT Try.underlying25 Z Z Z) ?_ | refine J (st_neqN Try.underlying25 Z Z) ?_ | refine J (st_neqPr Try.underlying25 Z Z) ?_ | refine J (st_neqMz Try.underlying25 Z Z) ?_ | refine J (BU Try.underlying25 Z Z Z) ?_ | refine J (st_neqFN Try.underlying25 Z Z) ?_
 refine J (Me Z Z Z Z) (AB Z Z (Ft 27 rfl (rfl) (AT Z Z Z (AB Z Z (AT Z Z Z (J (EG Mh pl39 Z Z Z) (AT Z Z Z ?_)))))));refine BH (L1 (Kh h4 Ns (by decide) ⟨sc,1,sa⟩) rfl [40] ⟨rfl,trivial⟩ Z Z Z Z (fun r H' ⟨M,e1,e2,_⟩=>by subst e1 e2;exact ⟨rfl,rfl,rfl⟩) rfl) rfl ?_;rintro _ ⟨r,H',⟨M5,e1,e2,h5⟩,rfl⟩;subst e1 e2;rw [k_lnk2] at h5⊢;refine AT Z Z Z ?_
 first | refine J (CN Z Z Z) ?_ | refine J (Md Z Z Z) ?_ | refine J (BI Z Z Z) ?_ | refine J (BV Try.underlying25 Z Z Z) ?_ | refine J (BT Try.underlying25 Z Z Z) ?_ | refine J (st_neqN Try.underlying25 Z Z) ?_ | refine J (st_neqPr Try.underlying25 Z Z) ?_ | refine J (st_neqMz Try.underlying25 Z Z) ?_ | refine J (BU Try.underlying25 Z Z Z) ?_ | refine J (st_neqFN Try.underlying25 Z Z) ?_
 refine J (Me Z Z Z Z) (AG ?_);refine IZ rfl (rfl) (C9 (AF (AI (AB Z Z (U (I0 (OB h5 F9 (by decide)) rfl [40] ⟨rfl,trivial⟩ Z Z Z Z Z Z Z Z Z) (AE Z Z (AG (AF ?_))))))));rw [Nt];refine AI (AB Z Z ?_)
 first | refine J (H5 rfl Try.underlying47 rfl) ?_ | refine J (Du Z Z Try.underlying47 rfl) ?_ | refine J (HZ rfl Try.underlying47 rfl) ?_ | refine J (H4 rfl Try.underlying47 rfl) ?_ | refine J (HY rfl Try.underlying47 rfl) ?_ | refine J (G8 rfl Try.underlying47 rfl) ?_
 first | refine J (Dl Z Z Z) ?_ | refine J (Ds Z Z Z) ?_ | refine J (Dg Z Z Z) ?_ | refine J (Dm Try.underlying3 Z Z Z) ?_ | refine J (Dp Try.underlying3 Z Z Z) ?_ | refine J (Do Try.underlying3 Z Z) ?_ | refine J (Dh Try.underlying3 Z Z) ?_ | refine J (Dr Try.underlying3 Z Z) ?_ | refine J (Dn Try.underlying3 Z Z Z) ?_ | refine J (Dq Try.underlying3 Z Z) ?_
 refine AB Z Z (Hk 38 rfl (rfl) (AT Z Z Z (AB Z Z (AT Z Z Z ?_))))
 first | refine J (Dy (0) Z Z (rfl) (rfl) Try.underlying47 rfl I5 rfl) ?_ | refine J (Dz (0) Z Z (rfl) (rfl) rfl Try.underlying47 I5 rfl) ?_
 refine AT Z Z Z ?_
 first | refine J (CE rfl Cr Z Z Z) ?_ | refine J (CG rfl Cr Z Z Z) ?_ | refine J (CI rfl Cr Z Z Z) ?_ | refine J (CF rfl Cr Z Z Z) ?_ | refine J (CD rfl Cr Z Z Z) ?_
 refine AT Z Z Z ?_
 first | refine J (A9 Z Z CT rfl) ?_ | refine J (A7 Z Z Z CT rfl) ?_ | refine J (A8 Z Z (rfl) rfl CT rfl) ?_
 refine AT Z Z Z (U (Mc 12 Ea Z Z Z Z Z Z Z Z) ?_);refine Fu (emb:=AP) 43 12 [sa,sb] Z Z Z Z Z Z Z (AT Z Z Z (J (H1 (Ig [sa,sb] [sa,sb] (by decide)) Z Z) (J (GC Z Z Z Z) (AB Z Z (Hk 46 rfl (rfl) (AT Z Z Z (AB Z Z (AT Z Z Z ?_))))))))
 first | refine J (Dy (1) Z Z (rfl) (rfl) Try.underlying47 rfl I5 rfl) ?_ | refine J (Dz (1) Z Z (rfl) (rfl) rfl Try.underlying47 I5 rfl) ?_
 refine AT Z Z Z ?_
 first | refine J (CE rfl Cr Z Z Z) ?_ | refine J (CG rfl Cr Z Z Z) ?_ | refine J (CI rfl Cr Z Z Z) ?_ | refine J (CF rfl Cr Z Z Z) ?_ | refine J (CD rfl Cr Z Z Z) ?_
 refine AT Z Z Z ?_
 first | refine J (A9 Z Z CT rfl) ?_ | refine J (A7 Z Z Z CT rfl) ?_ | refine J (A8 Z Z (rfl) rfl CT rfl) ?_
 refine AT Z Z Z (U (Mc 13 Ea Z Z Z Z Z Z Z Z) ?_);refine Fu (emb:=AP) 51 13 [sc] Z Z Z Z Z Z Z (AT Z Z Z (J (H1 (Ig [sc] [sc] (by decide)) Z Z) (J (GC Z Z Z Z) (AB Z Z (Hk 54 rfl (rfl) (AT Z Z Z (AB Z Z (AT Z Z Z ?_))))))))
 first | refine J (Dy (1) Z Z (rfl) (rfl) Try.underlying47 rfl I5 rfl) ?_ | refine J (Dz (1) Z Z (rfl) (rfl) rfl Try.underlying47 I5 rfl) ?_
 refine AT Z Z Z ?_
 first | refine J (CE rfl FK Z Z Z) ?_ | refine J (CG rfl FK Z Z Z) ?_ | refine J (CI rfl FK Z Z Z) ?_ | refine J (CF rfl FK Z Z Z) ?_ | refine J (CD rfl FK Z Z Z) ?_
 refine AT Z Z Z ?_
 first | refine J (A9 Z Z Ad rfl) ?_ | refine J (A7 Z Z Z Ad rfl) ?_ | refine J (A8 Z Z (rfl) rfl Ad rfl) ?_
 refine AT Z Z Z ?_
 first | refine J (H5 rfl Try.underlying49 rfl) ?_ | refine J (Du Z Z Try.underlying49 rfl) ?_ | refine J (HZ rfl Try.underlying49 rfl) ?_ | refine J (H4 rfl Try.underlying49 rfl) ?_ | refine J (HY rfl Try.underlying49 rfl) ?_ | refine J (G8 rfl Try.underlying49 rfl) ?_
 refine AT Z Z Z ?_
 first | refine J (Dl Z Z Z) ?_ | refine J (Ds Z Z Z) ?_ | refine J (Dg Z Z Z) ?_ | refine J (Dm Try.underlying3 Z Z Z) ?_ | refine J (Dp Try.underlying3 Z Z Z) ?_ | refine J (Do Try.underlying3 Z Z) ?_ | refine J (Dh Try.underlying3 Z Z) ?_ | refine J (Dr Try.underlying3 Z Z) ?_ | refine J (Dn Try.underlying3 Z Z Z) ?_ | refine J (Dq Try.underlying3 Z Z) ?_
 refine J (GC Z Z Z Z) (AB Z Z (Hk 62 rfl (rfl) (AT Z Z Z (AB Z Z (AT Z Z Z ?_)))))
 first | refine J (Dy (1) Z Z (rfl) (rfl) Try.underlying47 rfl I5 rfl) ?_ | refine J (Dz (1) Z Z (rfl) (rfl) rfl Try.underlying47 I5 rfl) ?_
 refine AT Z Z Z ?_
 first | refine J (CE rfl FK Z Z Z) ?_ | refine J (CG rfl FK Z Z Z) ?_ | refine J (CI rfl FK Z Z Z) ?_ | refine J (CF rfl FK Z Z Z) ?_ | refine J (CD rfl FK Z Z Z) ?_
 refine AT Z Z Z ?_
 first | refine J (A9 Z Z Ad rfl) ?_ | refine J (A7 Z Z Z Ad rfl) ?_ | refine J (A8 Z Z (rfl) rfl Ad rfl) ?_
 refine AT Z Z Z ?_
 first | refine J (Dy (0) Z Z (rfl) (rfl) Try.underlying49 rfl EC rfl) ?_ | refine J (Dz (0) Z Z (rfl) (rfl) rfl Try.underlying49 EC rfl) ?_
 refine AT Z Z Z ?_
 first | refine J (A9 Z Z Cx rfl) ?_ | refine J (A7 Z Z Z Cx rfl) ?_ | refine J (A8 Z Z (rfl) rfl Cx rfl) ?_
 refine AT Z Z Z ?_
 first | refine J (Dl Z Z Z) ?_ | refine J (Ds Z Z Z) ?_ | refine J (Dg Z Z Z) ?_ | refine J (Dm Try.underlying3 Z Z Z) ?_ | refine J (Dp Try.underlying3 Z Z Z) ?_ | refine J (Do Try.underlying3 Z Z) ?_ | refine J (Dh Try.underlying3 Z Z) ?_ | refine J (Dr Try.underlying3 Z Z) ?_ | refine J (Dn Try.underlying3 Z Z Z) ?_ | refine J (Dq Try.underlying3 Z Z) ?_
 refine J (GC Z Z Z Z) (AB Z Z (Hk 71 rfl (rfl) (AT Z Z Z (AB Z Z (AT Z Z Z (U (I0 (OS h5 F9 (by decide) sc) rfl [40] ⟨rfl,trivial⟩ Z Z Z Z Z Z Z Z Z) ?_))))));rw [if_pos (show sc∈w5.R by decide),Nw];refine AT Z Z Z (U (Mc 14 Ea Z Z Z Z Z Z Z Z) (Fu (emb:=AP) 74 14 [sa,sb,sc] Z Z Z Z Z Z Z (AT Z Z Z ?_)));refine J (H1 (Ig [sa,sb,sc] [sa,sb,sc] (by decide)) Z Z) (J (GC Z Z Z Z) (AB Z Z (Hk 77 rfl (rfl) (AT Z Z Z (AB Z Z (AT Z Z Z (J (EG Mh pl39 Z Z Z) (AT Z Z Z ?_))))))));refine BH (L1 (Kh h5 F9 (by decide) ⟨sb,1,sc⟩) rfl [40] ⟨rfl,trivial⟩ Z Z Z Z (fun r H' ⟨M,e1,e2,_⟩=>by subst e1 e2;exact ⟨rfl,rfl,rfl⟩) rfl) rfl ?_;rintro _ ⟨r,H',⟨M6,e1,e2,h6⟩,rfl⟩;subst e1 e2;rw [k_lnk3] at h6⊢;refine AT Z Z Z ?_
 first | refine J (Dl Z Z Z) ?_ | refine J (Ds Z Z Z) ?_ | refine J (Dg Z Z Z) ?_ | refine J (Dm Try.underlying25 Z Z Z) ?_ | refine J (Dp Try.underlying25 Z Z Z) ?_ | refine J (Do Try.underlying25 Z Z) ?_ | refine J (Dh Try.underlying25 Z Z) ?_ | refine J (Dr Try.underlying25 Z Z) ?_ | refine J (Dn Try.underlying25 Z Z Z) ?_ | refine J (Dq Try.underlying25 Z Z) ?_
 refine J (GC Z Z Z Z) (AE Z Z (AG (B3 ?_)));exact ⟨_,[],[],BO rfl,rfl,rfl,by simp,rfl⟩
section
variable {P:Program} {F:Fr} {s:AS} {d:Nat} {ty T T' E K:TypeId} {pos:String} {aft:Array Edge} {g:Option (Nat×Bool)} {x y:Operand}
theorem OE (w:World) (d:Nat) (t e:TypeId) (p:Option Addr) (h:P.underlying t=some (.pointer e)):(Op.equalIn (d+1) t (.pointer none) (.pointer p)).run P w= .ok p.isNone w:=by
 cases p<;>simp [Op.equalIn,run_underlying h]
theorem eq_nilp (w:World) (t e:TypeId) (p:Option Addr) (h:P.underlying t=some (.pointer e)):(Op.equal t (.pointer none) (.pointer p)).run P w= .ok p.isNone w:=OE w 9999 t e p h
theorem Mu {p:Option Addr} (hT:P.underlying T=some (.pointer E)) (hx:s.ev x=some (.d (.raw (.pointer p)))) (hy:s.ev y=some (.d (.raw (.pointer none)))) (hd:Nat.blt d s.n=true):AA P F ⟨some d,.binOp .eql T x y T',ty,pos,aft,g⟩ s d (.d (.raw (.bool p.isNone))):=
 BQ _ hd fun ρ act w hs=>by
  have hv:=hs.raw hx;have hc:=hs.raw hy;have hp:P.pointee T=E:=by unfold Program.pointee;rw [hT]
  exact ⟨.bool p.isNone,by simp [execOp,hv,hc,By,binOp,run_equal_pointer_nil w T p (by rw [hp];exact hT)],.d (.raw rfl)⟩
theorem Mt {p:Option Addr} (hT:P.underlying T=some (.pointer E)) (hx:s.ev x=some (.d (.raw (.pointer none)))) (hy:s.ev y=some (.d (.raw (.pointer p)))) (hd:Nat.blt d s.n=true):AA P F ⟨some d,.binOp .eql T x y T',ty,pos,aft,g⟩ s d (.d (.raw (.bool p.isNone))):=
 BQ _ hd fun ρ act w hs=>by
  have hv:=hs.raw hx;have hc:=hs.raw hy;exact ⟨.bool p.isNone,by simp [execOp,hv,hc,By,binOp,eq_nilp w T E p hT],.d (.raw rfl)⟩
end
abbrev Eb:D:= .raw (.pointer none)
theorem addN (x:St):As Try.prog 12 [.d Eb,.d (AP x)] (D2 1):=by
 refine DR Try.func12 Z Z Try.ntmps12 Z Z Z fun F hF=>?_;refine AF (AI (AE Z Z (AG (AF (DQ (AF (AI (AB Z Z ?_))))))))
 first | refine J (Dl Z Z Z) ?_ | refine J (Ds Z Z Z) ?_ | refine J (Dg Z Z Z) ?_ | refine J (Dm Try.underlying23 Z Z Z) ?_ | refine J (Dp Try.underlying23 Z Z Z) ?_ | refine J (Do Try.underlying23 Z Z) ?_ | refine J (Dh Try.underlying23 Z Z) ?_ | refine J (Dr Try.underlying23 Z Z) ?_ | refine J (Dn Try.underlying23 Z Z Z) ?_ | refine J (Dq Try.underlying23 Z Z) ?_
 refine AE Z Z (AG (GS rfl (rfl) (AF (AI (AE Z Z (AG (B3 ?_)))))));exact ⟨_,[],[],BO rfl,rfl,rfl,rfl,rfl⟩
theorem hasN (x:St):As Try.prog 33 [.d Eb,.d (AP x)] (CS false):=by
 refine DR Try.func33 Z Z Try.ntmps33 Z Z Z fun F hF=>(AF (AI (AE Z Z (AG (AF (AF (AI (AB Z Z ?_))))))))
 first | refine J (Dl Z Z Z) ?_ | refine J (Ds Z Z Z) ?_ | refine J (Dg Z Z Z) ?_ | refine J (Dm Try.underlying23 Z Z Z) ?_ | refine J (Dp Try.underlying23 Z Z Z) ?_ | refine J (Do Try.underlying23 Z Z) ?_ | refine J (Dh Try.underlying23 Z Z) ?_ | refine J (Dr Try.underlying23 Z Z) ?_ | refine J (Dn Try.underlying23 Z Z Z) ?_ | refine J (Dq Try.underlying23 Z Z) ?_
 refine AG (GS rfl (rfl) (AF (AI (AE Z Z (AG (B3 ?_))))));exact ⟨_,[],[],BO rfl,rfl,rfl,rfl,rfl⟩
theorem lenN:As Try.prog 13 [.d Eb] (D2 0):=by
 refine DR Try.func13 Z Z Try.ntmps13 Z Z Z fun F hF=>(AF (AI (AE Z Z (AG (AF (AF (AI (AB Z Z ?_))))))))
 first | refine J (Dl Z Z Z) ?_ | refine J (Ds Z Z Z) ?_ | refine J (Dg Z Z Z) ?_ | refine J (Dm Try.underlying23 Z Z Z) ?_ | refine J (Dp Try.underlying23 Z Z Z) ?_ | refine J (Do Try.underlying23 Z Z) ?_ | refine J (Dh Try.underlying23 Z Z) ?_ | refine J (Dr Try.underlying23 Z Z) ?_ | refine J (Dn Try.underlying23 Z Z Z) ?_ | refine J (Dq Try.underlying23 Z Z) ?_
 refine AG (GS rfl (rfl) (AF (AI (AE Z Z (AG (B3 ?_))))));exact ⟨_,[],[],BO rfl,rfl,rfl,rfl,rfl⟩
theorem linkN (x:St) (l:Lk):As Try.prog 29 [.d Eb,.d (AP x),.d (lkD l)] (D2 1):=by
 refine KG Try.func29 Z Z Try.ntmps29 Z Z Z fun F Fi hF hrnd hlo hR hD=>?_
 first | refine AF ?_ | refine BB hR ?_
 refine AI (U (C2 910 Z Z Z Z Z Z Z) (U (C2 911 Z Z Z Z Z Z Z) (U (C2 912 Z Z Z Z Z Z Z) (U (BR 913 zl25 Z Z Z Z) (AG ?_)))))
 first | refine AF ?_ | refine BB hR ?_
 refine DQ ?_
 first | refine AF ?_ | refine BB hR ?_
 refine AI ?_
 first | refine J (A9 Z Z Aa rfl) ?_ | refine J (A7 Z Z Z Aa rfl) ?_ | refine J (A8 Z Z (rfl) rfl Aa rfl) ?_
 first | refine J (Dl Z Z Z) ?_ | refine J (Ds Z Z Z) ?_ | refine J (Dg Z Z Z) ?_ | refine J (Dm Try.underlying23 Z Z Z) ?_ | refine J (Dp Try.underlying23 Z Z Z) ?_ | refine J (Do Try.underlying23 Z Z) ?_ | refine J (Dh Try.underlying23 Z Z) ?_ | refine J (Dr Try.underlying23 Z Z) ?_ | refine J (Dn Try.underlying23 Z Z Z) ?_ | refine J (Dq Try.underlying23 Z Z) ?_
 refine AE Z Z (AG (GS rfl (rfl) ?_))
 first | refine AF ?_ | refine BB hR ?_
 refine AI (U (Gb Z Z Z Z Z Z Z FN) (AG (B3 ?_)));exact ⟨_,[],[],BO rfl,rfl,rfl,rfl,rfl⟩
theorem unlinkN (x:St) (l:Lk):As Try.prog 30 [.d Eb,.d (AP x),.d (lkD l)] (D2 1):=by
 refine DR Try.func30 Z Z Try.ntmps30 Z Z Z fun F hF=>?_;refine AF (AI (U (C2 910 Z Z Z Z Z Z Z) (AE Z Z (AG (AF (AF (AI (AB Z Z ?_))))))))
 first | refine J (Dl Z Z Z) ?_ | refine J (Ds Z Z Z) ?_ | refine J (Dg Z Z Z) ?_ | refine J (Dm Try.underlying23 Z Z Z) ?_ | refine J (Dp Try.underlying23 Z Z Z) ?_ | refine J (Do Try.underlying23 Z Z) ?_ | refine J (Dh Try.underlying23 Z Z) ?_ | refine J (Dr Try.underlying23 Z Z) ?_ | refine J (Dn Try.underlying23 Z Z Z) ?_ | refine J (Dq Try.underlying23 Z Z) ?_
 refine AG (GS rfl (rfl) (AF (AI (AE Z Z (AG (B3 ?_))))));exact ⟨_,[],[],BO rfl,rfl,rfl,rfl,rfl⟩
theorem removeN (x:St):As Try.prog 26 [.d Eb,.d (AP x)] (D2 1):=by
 refine DR Try.func26 Z Z Try.ntmps26 Z Z Z fun F hF=>(AF (AI (AE Z Z (AG (AF (AF (AI (AB Z Z ?_))))))))
 first | refine J (Dl Z Z Z) ?_ | refine J (Ds Z Z Z) ?_ | refine J (Dg Z Z Z) ?_ | refine J (Dm Try.underlying23 Z Z Z) ?_ | refine J (Dp Try.underlying23 Z Z Z) ?_ | refine J (Do Try.underlying23 Z Z) ?_ | refine J (Dh Try.underlying23 Z Z) ?_ | refine J (Dr Try.underlying23 Z Z) ?_ | refine J (Dn Try.underlying23 Z Z Z) ?_ | refine J (Dq Try.underlying23 Z Z) ?_
 refine AG (GS rfl (rfl) (AF (AI (AE Z Z (AG (B3 ?_))))));exact ⟨_,[],[],BO rfl,rfl,rfl,rfl,rfl⟩
theorem linksN (x:St):As Try.prog 32 [.d Eb,.d (AP x)] (.sl (some true) []):=by
 refine DR Try.func32 Z Z Try.ntmps32 Z Z Z fun F hF=>(AF (AI (AE Z Z (AG (AF (AF (AI (AB Z Z ?_))))))))
 first | refine J (Dl Z Z Z) ?_ | refine J (Ds Z Z Z) ?_ | refine J (Dg Z Z Z) ?_ | refine J (Dm Try.underlying23 Z Z Z) ?_ | refine J (Dp Try.underlying23 Z Z Z) ?_ | refine J (Do Try.underlying23 Z Z) ?_ | refine J (Dh Try.underlying23 Z Z) ?_ | refine J (Dr Try.underlying23 Z Z) ?_ | refine J (Dn Try.underlying23 Z Z Z) ?_ | refine J (Dq Try.underlying23 Z Z) ?_
 refine AG (GS rfl (rfl) (AF (AI (AE Z Z (AG (B3 ?_))))));exact ⟨_,[],[],BO rfl,rfl,rfl,rfl,rfl⟩
theorem groupN (x:St):As Try.prog 21 [.d Eb,.d (AP x)] (.sl (some true) []):=by
 refine DR Try.func21 Z Z Try.ntmps21 Z Z Z fun F hF=>(AF ?_);refine AI (AE Z Z (AG (AF (AF (AI (AB Z Z (AB Z Z (J (H1 (hasN x) Z Z) ?_))))))))
 first | refine J (KQ Z Z) ?_ | refine J (BN Z Z) ?_
 refine AG (GS rfl (rfl) (AF (AI (AE Z Z (AG (B3 ?_))))));exact ⟨_,[],[],BO rfl,rfl,rfl,rfl,rfl⟩
theorem Jz (x:St) (b:Bool):As Try.prog 41 [.d Eb,.d (AP x),.d (CS b)] (.sl (some true) []):=by
 refine DR Try.func41 Z Z Try.ntmps41 Z Z Z fun F hF=>(AF ?_);refine AI (AE Z Z (AG (AF (AF (AI (AB Z Z (AB Z Z (J (H1 (hasN x) Z Z) ?_))))))))
 first | refine J (KQ Z Z) ?_ | refine J (BN Z Z) ?_
 refine AG (GS rfl (rfl) (AF (AI (AE Z Z (AG (B3 ?_))))));exact ⟨_,[],[],BO rfl,rfl,rfl,rfl,rfl⟩
theorem beforeN (x:St):As Try.prog 23 [.d Eb,.d (AP x)] (.sl (some true) []):=by
 refine DR Try.func23 Z Z Try.ntmps23 Z Z Z fun F hF=>(AF (AI (AE Z Z ?_)));refine AG (AF (AI (AB Z Z (AB Z Z (J (H1 (Jz x false) Z Z) (AE Z Z (AG (B3 ?_))))))));exact ⟨_,[],[],BO rfl,rfl,rfl,rfl,rfl⟩
theorem behindN (x:St):As Try.prog 24 [.d Eb,.d (AP x)] (.sl (some true) []):=by
 refine DR Try.func24 Z Z Try.ntmps24 Z Z Z fun F hF=>(AF (AI (AE Z Z ?_)));refine AG (AF (AI (AB Z Z (AB Z Z (J (H1 (Jz x true) Z Z) (AE Z Z (AG (B3 ?_))))))));exact ⟨_,[],[],BO rfl,rfl,rfl,rfl,rfl⟩
theorem groupsN:As Try.prog 19 [.d Eb] (.sl (some true) []):=by
 refine DR Try.func19 Z Z Try.ntmps19 Z Z Z fun F hF=>(AF (AI (AE Z Z (AG (AF (AF (AI (AB Z Z ?_))))))))
 first | refine J (Dl Z Z Z) ?_ | refine J (Ds Z Z Z) ?_ | refine J (Dg Z Z Z) ?_ | refine J (Dm Try.underlying23 Z Z Z) ?_ | refine J (Dp Try.underlying23 Z Z Z) ?_ | refine J (Do Try.underlying23 Z Z) ?_ | refine J (Dh Try.underlying23 Z Z) ?_ | refine J (Dr Try.underlying23 Z Z) ?_ | refine J (Dn Try.underlying23 Z Z Z) ?_ | refine J (Dq Try.underlying23 Z Z) ?_
 refine AG (GS rfl (rfl) (AF (AI (AE Z Z (AG (B3 ?_))))));exact ⟨_,[],[],BO rfl,rfl,rfl,rfl,rfl⟩
theorem cloneN:As Try.prog 25 [.d Eb] Eb:=by
 refine DR Try.func25 Z Z Try.ntmps25 Z Z Z fun F hF=>(AF (AI (AE Z Z (AG (AF (AF (AI (AB Z Z ?_))))))))
 first | refine J (Dl Z Z Z) ?_ | refine J (Ds Z Z Z) ?_ | refine J (Dg Z Z Z) ?_ | refine J (Dm Try.underlying23 Z Z Z) ?_ | refine J (Dp Try.underlying23 Z Z Z) ?_ | refine J (Do Try.underlying23 Z Z) ?_ | refine J (Dh Try.underlying23 Z Z) ?_ | refine J (Dr Try.underlying23 Z Z) ?_ | refine J (Dn Try.underlying23 Z Z Z) ?_ | refine J (Dq Try.underlying23 Z Z) ?_
 refine AG (GS rfl (rfl) (AF (AI (AE Z Z (AG (B3 ?_))))));exact ⟨_,[],[],BO rfl,rfl,rfl,rfl,rfl⟩
theorem OD (p:Option Addr):As Try.prog 28 [.d Eb,.d (.raw (.pointer p))] (CS p.isNone):=by
 refine DR Try.func28 Z Z Try.ntmps28 Z Z Z fun F hF=>(AF (AI (AE Z Z (AG (AF (AF (AI (AB Z Z ?_))))))))
 first | refine J (Dl Z Z Z) ?_ | refine J (Ds Z Z Z) ?_ | refine J (Dg Z Z Z) ?_ | refine J (Dm Try.underlying23 Z Z Z) ?_ | refine J (Dp Try.underlying23 Z Z Z) ?_ | refine J (Do Try.underlying23 Z Z) ?_ | refine J (Dh Try.underlying23 Z Z) ?_ | refine J (Dr Try.underlying23 Z Z) ?_ | refine J (Dn Try.underlying23 Z Z Z) ?_ | refine J (Dq Try.underlying23 Z Z) ?_
 refine AB Z Z (Hk 7 rfl (rfl) (Ee Z Z Z Z (Ee Z Z Z Z (J (GC Z Z Z Z) (AG ?_)))));refine GS Z Z (AF (AI (AB Z Z (AB Z Z (J (Mt Try.underlying23 Z Z Z) (AE Z Z (AG (B3 ?_))))))));exact ⟨_,[],[],BO rfl,rfl,rfl,rfl,rfl⟩
theorem equalN2 (a:Addr):As Try.prog 28 [.d (.raw (.pointer (some a))),.d Eb] (CS false):=by
 refine DR Try.func28 Z Z Try.ntmps28 Z Z Z fun F hF=>(AF (AI (AE Z Z (AG (AF (AF (AI (AB Z Z ?_))))))))
 first | refine J (Dl Z Z Z) ?_ | refine J (Ds Z Z Z) ?_ | refine J (Dg Z Z Z) ?_ | refine J (Dm Try.underlying23 Z Z Z) ?_ | refine J (Dp Try.underlying23 Z Z Z) ?_ | refine J (Do Try.underlying23 Z Z) ?_ | refine J (Dh Try.underlying23 Z Z) ?_ | refine J (Dr Try.underlying23 Z Z) ?_ | refine J (Dn Try.underlying23 Z Z Z) ?_ | refine J (Dq Try.underlying23 Z Z) ?_
 refine AB Z Z (Ft 7 rfl (rfl) (AT Z Z Z (AB Z Z (AT Z Z Z ?_))))
 first | refine J (Dl Z Z Z) ?_ | refine J (Ds Z Z Z) ?_ | refine J (Dg Z Z Z) ?_ | refine J (Dm Try.underlying23 Z Z Z) ?_ | refine J (Dp Try.underlying23 Z Z Z) ?_ | refine J (Do Try.underlying23 Z Z) ?_ | refine J (Dh Try.underlying23 Z Z) ?_ | refine J (Dr Try.underlying23 Z Z) ?_ | refine J (Dn Try.underlying23 Z Z Z) ?_ | refine J (Dq Try.underlying23 Z Z) ?_
 refine J (Me Z Z Z Z) (AG ?_);refine GS rfl (rfl) (AF (AI (AB Z Z (AB Z Z (J (Mu Try.underlying23 Z Z Z) (AE Z Z (AG (B3 ?_))))))));exact ⟨_,[],[],BO rfl,rfl,rfl,rfl,rfl⟩
structure OpL where
 k:Int
 x:St
 l:Lk
abbrev opD (o:OpL):D:= .agg [D2 o.k,AP o.x,D2 o.l.t,AP o.l.r]
section
variable {H:Type} {enc:TypeId×Value ->H} {P:Program} {w:World}
theorem CB.asC {α β:Type} {t:TypeId} {k:Nat} {emb:α ->D} {Q:α ->Prop} {emb':β ->D} {Q':β ->Prop} (h:CB enc P w t k emb Q) (f:α ->β) (he:∀a,Q a ->(emb a).cells=(emb' (f a)).cells) (hq:∀a,Q a ->Q' (f a)):CB enc P w t k emb' Q':=fun fuel cs x hx hlt hw=>by
 obtain ⟨a,h1,h2,h3⟩:=h fuel cs x hx hlt hw;exact ⟨f a,hq a h1,by rw [←he a h1];exact h2,by unfold Kz at h3⊢;rw [←he a h1];exact h3⟩
theorem oLk:CB enc Try.prog w 39 2 lkD (fun _=>True):=
 (NV Try.underlying39 (by kernel_rfl) (HA rfl (by kernel_rfl) (LK Try.underlying3) (HA rfl (by kernel_rfl) (J1 Try.underlying9) NW))).asQ (fun a=>(⟨a.1,a.2.1⟩:Lk)) (fun _ _=>rfl) (fun _ _=>trivial)
theorem oOp:CB enc Try.prog w 41 4 opD (fun _=>True):=
 (NV Try.underlying41 (by kernel_rfl) (HA rfl (by kernel_rfl) (LK Try.underlying3) (HA rfl (by kernel_rfl) (J1 Try.underlying9) (HA rfl (by kernel_rfl) oLk NW)))).asC (fun a=>(⟨a.1,a.2.1,a.2.2.1⟩:OpL)) (fun _ _=>rfl) (fun _ _=>trivial)
end
end Go.Proofs.Ytlmedakidpaeeaa
