/- Layer 27: Link, walked. -/
import Derived.Test.YtlmedakidpaeeaaMg19
namespace Go.Proofs.Ytlmedakidpaeeaa
open Go.RowKit
set_option maxRecDepth 100000
theorem EF {s:AS}:∀(i:Nat) a v,([]:List AV)[i]?=some a ->([]:List Value)[i]?=some v ->HS s a v:=fun i a v h=>by simp at h
theorem II {s:AS} {a:AV} {v:Value} {ars:List AV} {vs:List Value} (h:HS s a v) (hr:∀(i:Nat) a v,ars[i]?=some a ->vs[i]?=some v ->HS s a v):∀(i:Nat) a' v',(a::ars)[i]?=some a' ->(v::vs)[i]?=some v' ->HS s a' v':=fun i a' v' h1 h2=>by
 cases i with
 | zero=>simp at h1 h2;subst h1 h2;exact h
 | succ i=>exact hr i a' v' (by simpa using h1) (by simpa using h2)
theorem QK {w:Ws} {l:Lw} (h1:l.t≠0) (h2:l.t≠1):lnkW w l=(w,11):=by unfold lnkW;rw [if_pos ⟨h1,h2⟩]
theorem MI {w:Ws} {l:Lw} (ht:l.t=0∨l.t=1) (h:l.f∉w.R∨l.r∉w.R):lnkW w l=(w,9):=by unfold lnkW;rw [if_neg (by omega),if_pos h]
theorem KA {w:Ws} {l:Lw} (ht:l.t=0∨l.t=1) (h1:l.f∈w.R) (h2:l.r∈w.R) (h:l.f=l.r):lnkW w l=(w,26):=by unfold lnkW;rw [if_neg (by omega),if_neg fun hh=>hh.elim (· h1) (· h2),if_pos h]
theorem lnk7 {w:Ws} {l:Lw} (ht:l.t=0∨l.t=1) (h1:l.f∈w.R) (h2:l.r∈w.R) (h3:l.f≠l.r) (h:l∈w.K):lnkW w l=(w,7):=by unfold lnkW;rw [if_neg (by omega),if_neg fun hh=>hh.elim (· h1) (· h2),if_neg h3,if_pos h]
theorem NI {w:Ws} {l:Lw} (ht:l.t=0∨l.t=1) (h1:l.f∈w.R) (h2:l.r∈w.R) (h3:l.f≠l.r) (h4:l∉w.K):lnkW w l=if acyW (BR w l)=true then (BR w l,0) else (w,26):=by unfold lnkW;rw [if_neg (by omega),if_neg fun hh=>hh.elim (· h1) (· h2),if_neg h3,if_neg h4]
theorem Km {M:MF} {b:Nat} {w:Ws} (h:B4 M b w) (hw:Bc w) (hK:w.K.length≤999999) (l:Lw):AU Try.prog 29 [.d (pD b 0),.d (AW l.f),.d (lkD ⟨l.t,l.r⟩)] [(40,[.multi M])] fun r H'=>∃M',r= .d (Bh (lnkW w l).2)∧H'=[(40,[.multi M'])]∧B4 M' b (lnkW w l).1:=by
 have hrep:=h;obtain ⟨m,E,lk,hr,hl⟩:=h;refine Qz Try.func29 Z Z Try.ntmps29 Z Z Z fun F Fi hF hrnd hlo hR hD=>?_
 first | refine AG ?_ | refine CB hR ?_
 refine AH (U (JT 910 Z Z Z Z Z Z Z) (U (JT 911 Z Z Z Z Z Z Z) (U (JT 912 Z Z Z Z Z Z Z) (U (HQ 913 zl25 Z Z Z Z) (AF ?_)))))
 first | refine AG ?_ | refine CB hR ?_
 refine B7 ?_
 first | refine AG ?_ | refine CB hR ?_
 refine AH ?_
 first | refine J (AZ Z Z BE rfl) ?_ | refine J (AX Z Z Z BE rfl) ?_ | refine J (AY Z Z (rfl) rfl BE rfl) ?_
 first | refine J (EN Z Z Z) ?_ | refine J (EY Z Z Z) ?_ | refine J (Dy Z Z Z) ?_ | refine J (EP Try.underlying23 Z Z Z) ?_ | refine J (ES Try.underlying23 Z Z Z) ?_ | refine J (ER Try.underlying23 Z Z) ?_ | refine J (EX Try.underlying23 Z Z) ?_ | refine J (EW Try.underlying23 Z Z) ?_ | refine J (EQ Try.underlying23 Z Z Z) ?_ | refine J (EV Try.underlying23 Z Z) ?_
 refine AD Z Z (AF (DX rfl (rfl) ?_))
 first | refine AG ?_ | refine CB hR ?_
 refine AH ?_
 first | refine J (A5 rfl Hr Z Z Z) ?_ | refine J (A7 rfl Hr Z Z Z) ?_ | refine J (A8 rfl Hr Z Z Z) ?_ | refine J (A6 rfl Hr Z Z Z) ?_ | refine J (A4 rfl Hr Z Z Z) ?_
 first | refine J (AZ Z Z Bv rfl) ?_ | refine J (AX Z Z Z Bv rfl) ?_ | refine J (AY Z Z (rfl) rfl Bv rfl) ?_
 first | refine J (IP Z Z Z) ?_ | refine J (iOq Z Z Z) ?_ | refine J (Ho Z Z Z) ?_ | refine J (IJ Try.underlying3 Z Z Z) ?_ | refine J (IL Try.underlying3 Z Z Z) ?_ | refine J (st_neqN Try.underlying3 Z Z) ?_ | refine J (IN Try.underlying3 Z Z) ?_ | refine J (st_neqMz Try.underlying3 Z Z) ?_ | refine J (IK Try.underlying3 Z Z Z) ?_ | refine J (st_neqFN Try.underlying3 Z Z) ?_
 refine AC Z Z ?_
 first | refine Hq 16 rfl (fun h16=>?_) (fun h16=>?_) | refine HP 16 rfl (fun h16=>?_) (fun h16=>?_)
 ·refine A3 Z Z Z ?_
  first | refine J (A5 rfl Hr Z Z Z) ?_ | refine J (A7 rfl Hr Z Z Z) ?_ | refine J (A8 rfl Hr Z Z Z) ?_ | refine J (A6 rfl Hr Z Z Z) ?_ | refine J (A4 rfl Hr Z Z Z) ?_
  refine A3 Z Z Z ?_
  first | refine J (AZ Z Z Bv rfl) ?_ | refine J (AX Z Z Z Bv rfl) ?_ | refine J (AY Z Z (rfl) rfl Bv rfl) ?_
  refine A3 Z Z Z ?_
  first | refine J (IP Z Z Z) ?_ | refine J (iOq Z Z Z) ?_ | refine J (Ho Z Z Z) ?_ | refine J (IJ Try.underlying3 Z Z Z) ?_ | refine J (IL Try.underlying3 Z Z Z) ?_ | refine J (st_neqN Try.underlying3 Z Z) ?_ | refine J (IN Try.underlying3 Z Z) ?_ | refine J (st_neqMz Try.underlying3 Z Z) ?_ | refine J (IK Try.underlying3 Z Z Z) ?_ | refine J (st_neqFN Try.underlying3 Z Z) ?_
  refine J (GS Z Z Z Z) (AD Z Z (AF ?_))
  first | refine BC rfl (fun h12=>?_) (fun h12=>?_) | refine Ax rfl (fun h12=>?_) (fun h12=>?_)
  ·first | refine AG ?_ | refine CB hR ?_
   refine AH (U (Bq Z Z Z Z Z Z Z Gw) (AF (At ?_)));exact ⟨_,[40],_,As rfl,rfl,rfl,M,by rw [QK h16 h12],rfl,by rw [QK h16 h12];exact hrep⟩
  ·first | refine AG ?_ | refine CB hR ?_
   refine AH ?_
   first | refine J (AZ Z Z BE rfl) ?_ | refine J (AX Z Z Z BE rfl) ?_ | refine J (AY Z Z (rfl) rfl BE rfl) ?_
   first | refine J (AZ Z Z AQ rfl) ?_ | refine J (AX Z Z Z AQ rfl) ?_ | refine J (AY Z Z (rfl) rfl AQ rfl) ?_
   refine U (GR (In hrep l.f) rfl [40] ⟨rfl,trivial⟩ Z Z Z Z Z Z Z Z Z) ?_
   first | refine J (ET Z Z) ?_ | refine J (EO Z Z) ?_
   refine AC Z Z ?_
   first | refine Hq 26 rfl (fun h26=>?_) (fun h26=>?_) | refine HP 26 rfl (fun h26=>?_) (fun h26=>?_)
   ·refine Aw Z Z Z Z (Aw Z Z Z Z (Aw Z Z Z Z (Aw Z Z Z Z (Aw Z Z Z Z (J (GS Z Z Z Z) (AD Z Z (AF (JG Z Z ?_))))))))
    first | refine AG ?_ | refine CB hR ?_
    have h9:lnkW w l=(w,9):=MI (by first | exact .inl (Classical.not_not.1 h16) | exact .inr (Classical.not_not.1 h12)) (by first | exact .inl h26 | exact .inr h21);refine AH (U (Bq Z Z Z Z Z Z Z Gw) (AF (At ?_)));exact ⟨_,[40],_,As rfl,rfl,rfl,M,by rw [h9],rfl,by rw [h9];exact hrep⟩
   ·refine A3 Z Z Z ?_
    first | refine J (AZ Z Z BE rfl) ?_ | refine J (AX Z Z Z BE rfl) ?_ | refine J (AY Z Z (rfl) rfl BE rfl) ?_
    refine A3 Z Z Z ?_
    first | refine J (A5 rfl CD Z Z Z) ?_ | refine J (A7 rfl CD Z Z Z) ?_ | refine J (A8 rfl CD Z Z Z) ?_ | refine J (A6 rfl CD Z Z Z) ?_ | refine J (A4 rfl CD Z Z Z) ?_
    refine A3 Z Z Z ?_
    first | refine J (AZ Z Z AQ rfl) ?_ | refine J (AX Z Z Z AQ rfl) ?_ | refine J (AY Z Z (rfl) rfl AQ rfl) ?_
    refine A3 Z Z Z (U (GR (In hrep l.r) rfl [40] ⟨rfl,trivial⟩ Z Z Z Z Z Z Z Z Z) (A3 Z Z Z ?_))
    first | refine J (ET Z Z) ?_ | refine J (EO Z Z) ?_
    refine J (En Z Z Z Z) (AD Z Z (AF ?_))
    first | refine BC rfl (fun h21=>?_) (fun h21=>?_) | refine Ax rfl (fun h21=>?_) (fun h21=>?_)
    ·first | refine AG ?_ | refine CB hR ?_
     have h9:lnkW w l=(w,9):=MI (by first | exact .inl (Classical.not_not.1 h16) | exact .inr (Classical.not_not.1 h12)) (by first | exact .inl h26 | exact .inr h21);refine AH (U (Bq Z Z Z Z Z Z Z Gw) (AF (At ?_)));exact ⟨_,[40],_,As rfl,rfl,rfl,M,by rw [h9],rfl,by rw [h9];exact hrep⟩
    ·first | refine AG ?_ | refine CB hR ?_
     have ht:l.t=0∨l.t=1:=by first | exact .inl (Classical.not_not.1 h16) | exact .inr (Classical.not_not.1 h12)
     have hfR:l.f∈w.R:=Classical.not_not.1 h26;have hrR:l.r∈w.R:=Classical.not_not.1 h21;refine AH ?_
     first | refine J (AZ Z Z AQ rfl) ?_ | refine J (AX Z Z Z AQ rfl) ?_ | refine J (AY Z Z (rfl) rfl AQ rfl) ?_
     first | refine J (A5 rfl CD Z Z Z) ?_ | refine J (A7 rfl CD Z Z Z) ?_ | refine J (A8 rfl CD Z Z Z) ?_ | refine J (A6 rfl CD Z Z Z) ?_ | refine J (A4 rfl CD Z Z Z) ?_
     first | refine J (AZ Z Z AQ rfl) ?_ | refine J (AX Z Z Z AQ rfl) ?_ | refine J (AY Z Z (rfl) rfl AQ rfl) ?_
     first | refine J (EN Z Z Z) ?_ | refine J (EY Z Z Z) ?_ | refine J (Dy Z Z Z) ?_ | refine J (EP Try.underlying9 Z Z Z) ?_ | refine J (ES Try.underlying9 Z Z Z) ?_ | refine J (ER Try.underlying9 Z Z) ?_ | refine J (EX Try.underlying9 Z Z) ?_ | refine J (EW Try.underlying9 Z Z) ?_ | refine J (EQ Try.underlying9 Z Z Z) ?_ | refine J (EV Try.underlying9 Z Z) ?_
     refine AD Z Z (AF ?_)
     first | refine BC rfl (fun h33=>?_) (fun h33=>?_) | refine Ax rfl (fun h33=>?_) (fun h33=>?_)
     ·first | refine AG ?_ | refine CB hR ?_
      refine AH (U (Bq Z Z Z Z Z Z Z Gw) (AF (At ?_)));exact ⟨_,[40],_,As rfl,rfl,rfl,M,by rw [KA ht hfR hrR h33],rfl,by rw [KA ht hfR hrR h33];exact hrep⟩
     ·first | refine AG ?_ | refine CB hR ?_
      obtain ⟨hd,hm⟩:=hl.at hfR;refine F1 [[],[0],[0,1],[0,1,2],[],[0,1,2,3,4],[],[0,1,2,3,4,5,6],[0,1,2,3,4,5,6,7]] mixed rfl (D1 ?_)
      first | refine AE [3] [] Z Z (fun _=>AB (AZ Z Z BE rfl)) ?_ | refine AI [3] Z Z (fun _=>AB (AZ Z Z BE rfl)) ?_ | refine AE [3] [] Z Z (fun _=>AB (AX Z Z Z BE rfl)) ?_ | refine AI [3] Z Z (fun _=>AB (AX Z Z Z BE rfl)) ?_ | refine AE [3] [] Z Z (fun _=>AB (AY Z Z (rfl) rfl BE rfl)) ?_ | refine AI [3] Z Z (fun _=>AB (AY Z Z (rfl) rfl BE rfl)) ?_
      first | refine AE [39] [] Z Z (fun _=>AB (FB Z Z)) ?_ | refine AI [39] Z Z (fun _=>AB (FB Z Z)) ?_ | refine AE [39] [] Z Z (fun _=>AB (Ez Z Z)) ?_ | refine AI [39] Z Z (fun _=>AB (Ez Z Z)) ?_ | refine AE [39] [] Z Z (fun _=>AB (FC Z Z)) ?_ | refine AI [39] Z Z (fun _=>AB (FC Z Z)) ?_ | refine AE [39] [] Z Z (fun _=>AB (FA Z Z)) ?_ | refine AI [39] Z Z (fun _=>AB (FA Z Z)) ?_
      first | refine AE [40] [] Z Z (fun _=>AB (A5 rfl A2 Z Z Z)) ?_ | refine AI [40] Z Z (fun _=>AB (A5 rfl A2 Z Z Z)) ?_ | refine AE [40] [] Z Z (fun _=>AB (A7 rfl A2 Z Z Z)) ?_ | refine AI [40] Z Z (fun _=>AB (A7 rfl A2 Z Z Z)) ?_ | refine AE [40] [] Z Z (fun _=>AB (A8 rfl A2 Z Z Z)) ?_ | refine AI [40] Z Z (fun _=>AB (A8 rfl A2 Z Z Z)) ?_ | refine AE [40] [] Z Z (fun _=>AB (A6 rfl A2 Z Z Z)) ?_ | refine AI [40] Z Z (fun _=>AB (A6 rfl A2 Z Z Z)) ?_ | refine AE [40] [] Z Z (fun _=>AB (A4 rfl A2 Z Z Z)) ?_ | refine AI [40] Z Z (fun _=>AB (A4 rfl A2 Z Z Z)) ?_
      first | refine AE [41] [] Z Z (fun _=>AB (Fw (f:=40) Z Z (hr.cell) rfl Bn rfl)) ?_ | refine AI [41] Z Z (fun _=>AB (Fw (f:=40) Z Z (hr.cell) rfl Bn rfl)) ?_
      first | refine AE [4] [] Z Z (fun _=>AB (AZ Z Z AQ rfl)) ?_ | refine AI [4] Z Z (fun _=>AB (AZ Z Z AQ rfl)) ?_ | refine AE [4] [] Z Z (fun _=>AB (AX Z Z Z AQ rfl)) ?_ | refine AI [4] Z Z (fun _=>AB (AX Z Z Z AQ rfl)) ?_ | refine AE [4] [] Z Z (fun _=>AB (AY Z Z (rfl) rfl AQ rfl)) ?_ | refine AI [4] Z Z (fun _=>AB (AY Z Z (rfl) rfl AQ rfl)) ?_
      first | refine AE [42,43] [] Z Z (fun _=>AB (HR (f:=40) (eE E) l.f none (some hd) Z Z hr.top rfl Bx E0 Dz (KU hl.kd hm) rfl)) ?_ | refine AI [42,43] Z Z (fun _=>AB (HR (f:=40) (eE E) l.f none (some hd) Z Z hr.top rfl Bx E0 Dz (KU hl.kd hm) rfl)) ?_
      first | refine AE [5] [] Z Z (fun _=>AB (BX Z Z Ap rfl)) ?_ | refine AI [5] Z Z (fun _=>AB (BX Z Z Ap rfl)) ?_ | refine AE [5] [] Z Z (fun _=>AB (BY Z Z Ap Z Z Z)) ?_ | refine AI [5] Z Z (fun _=>AB (BY Z Z Ap Z Z Z)) ?_ | refine AE [5] [] Z Z (fun _=>AB (BZ Z Z (rfl) rfl Ap rfl)) ?_ | refine AI [5] Z Z (fun _=>AB (BZ Z Z (rfl) rfl Ap rfl)) ?_
      refine D2 7 Z Z Z (BQ 8 Z Z (J (HR (f:=40) (Ci (lk hd)) ⟨l.t,l.r⟩ false _ Z Z (hr.sub _ hm) rfl FM Hk za4 (Hz _ _) rfl) (AF ⟨rfl,?_⟩)));refine BQ 9 Z Z (AD Z Z (AF ⟨rfl,?_⟩));refine Ei ?_
      first | refine BC rfl (fun h38=>?_) (fun h38=>?_) | refine Ax rfl (fun h38=>?_) (fun h38=>?_)
      ·first | refine AG ?_ | refine CB hR ?_
       refine AH (U (Bq Z Z Z Z Z Z Z Gw) (AF (At ?_)));have h7:=lnk7 ht hfR hrR h33 ((hl.ls _ hm _).1 h38);exact ⟨_,[40],_,As rfl,rfl,rfl,M,by rw [h7],rfl,by rw [h7];exact hrep⟩
      ·refine Aj ?_
       first | refine AG ?_ | refine CB hR ?_
       refine Cu 921 910 0 Z Z Z Z Z fun u3=>(Cu 922 911 0 Z Z Z Z Z fun u4=>(Cu 923 912 0 Z Z Z Z Z fun u5=>(Cu 924 913 0 Z Z Z Z Z fun u6=>(F1 [[],[0],[0,1],[0,1,2],[],[0,1,2,3,4],[],[0,1,2,3,4,5,6]] mixed rfl (D1 ?_)))))
       first | refine AE [3] [] Z Z (fun _=>AB (AZ Z Z BE rfl)) ?_ | refine AI [3] Z Z (fun _=>AB (AZ Z Z BE rfl)) ?_ | refine AE [3] [] Z Z (fun _=>AB (AX Z Z Z BE rfl)) ?_ | refine AI [3] Z Z (fun _=>AB (AX Z Z Z BE rfl)) ?_ | refine AE [3] [] Z Z (fun _=>AB (AY Z Z (rfl) rfl BE rfl)) ?_ | refine AI [3] Z Z (fun _=>AB (AY Z Z (rfl) rfl BE rfl)) ?_
       first | refine AE [47] [] Z Z (fun _=>AB (FB Z Z)) ?_ | refine AI [47] Z Z (fun _=>AB (FB Z Z)) ?_ | refine AE [47] [] Z Z (fun _=>AB (Ez Z Z)) ?_ | refine AI [47] Z Z (fun _=>AB (Ez Z Z)) ?_ | refine AE [47] [] Z Z (fun _=>AB (FC Z Z)) ?_ | refine AI [47] Z Z (fun _=>AB (FC Z Z)) ?_ | refine AE [47] [] Z Z (fun _=>AB (FA Z Z)) ?_ | refine AI [47] Z Z (fun _=>AB (FA Z Z)) ?_
       first | refine AE [48] [] Z Z (fun _=>AB (A5 rfl A2 Z Z Z)) ?_ | refine AI [48] Z Z (fun _=>AB (A5 rfl A2 Z Z Z)) ?_ | refine AE [48] [] Z Z (fun _=>AB (A7 rfl A2 Z Z Z)) ?_ | refine AI [48] Z Z (fun _=>AB (A7 rfl A2 Z Z Z)) ?_ | refine AE [48] [] Z Z (fun _=>AB (A8 rfl A2 Z Z Z)) ?_ | refine AI [48] Z Z (fun _=>AB (A8 rfl A2 Z Z Z)) ?_ | refine AE [48] [] Z Z (fun _=>AB (A6 rfl A2 Z Z Z)) ?_ | refine AI [48] Z Z (fun _=>AB (A6 rfl A2 Z Z Z)) ?_ | refine AE [48] [] Z Z (fun _=>AB (A4 rfl A2 Z Z Z)) ?_ | refine AI [48] Z Z (fun _=>AB (A4 rfl A2 Z Z Z)) ?_
       first | refine AE [49] [] Z Z (fun _=>AB (Fw (f:=40) Z Z (hr.cell) rfl Bn rfl)) ?_ | refine AI [49] Z Z (fun _=>AB (Fw (f:=40) Z Z (hr.cell) rfl Bn rfl)) ?_
       first | refine AE [4] [] Z Z (fun _=>AB (AZ Z Z AQ rfl)) ?_ | refine AI [4] Z Z (fun _=>AB (AZ Z Z AQ rfl)) ?_ | refine AE [4] [] Z Z (fun _=>AB (AX Z Z Z AQ rfl)) ?_ | refine AI [4] Z Z (fun _=>AB (AX Z Z Z AQ rfl)) ?_ | refine AE [4] [] Z Z (fun _=>AB (AY Z Z (rfl) rfl AQ rfl)) ?_ | refine AI [4] Z Z (fun _=>AB (AY Z Z (rfl) rfl AQ rfl)) ?_
       first | refine AE [50,51] [] Z Z (fun _=>AB (HR (f:=40) (eE E) l.f none (some hd) Z Z hr.top rfl Bx E0 Dz (KU hl.kd hm) rfl)) ?_ | refine AI [50,51] Z Z (fun _=>AB (HR (f:=40) (eE E) l.f none (some hd) Z Z hr.top rfl Bx E0 Dz (KU hl.kd hm) rfl)) ?_
       first | refine AE [5] [] Z Z (fun _=>AB (BX Z Z Ap rfl)) ?_ | refine AI [5] Z Z (fun _=>AB (BX Z Z Ap rfl)) ?_ | refine AE [5] [] Z Z (fun _=>AB (BY Z Z Ap Z Z Z)) ?_ | refine AI [5] Z Z (fun _=>AB (BY Z Z Ap Z Z Z)) ?_ | refine AE [5] [] Z Z (fun _=>AB (BZ Z Z (rfl) rfl Ap rfl)) ?_ | refine AI [5] Z Z (fun _=>AB (BZ Z Z (rfl) rfl Ap rfl)) ?_
       refine D2 7 Z Z Z (BQ 8 Z Z (U (FE (f:=40) (Ci (lk hd)) (⟨l.t,l.r⟩) (true) Z Z (hr.sub _ hm) rfl FM Hk Z Z) (AF ⟨rfl,?_⟩)));refine Ei ?_;have hnK:l∉w.K:=fun hh=>h38 ((hl.ls _ hm _).2 hh);rw [Kl h38];have hrep1:B4 _ b (BR w l):=LP hr hl hm (l:=⟨l.t,l.r⟩) hnK;have hok1:=hw.with_ ht hfR hrR h33 hnK;have hK1:(BR w l).K.length≤1000000:=by show (w.K++ [l]).length≤_;rw [List.length_append,List.length_singleton];omega
       have h0:=NI ht hfR hrR h33 hnK
       obtain ⟨M1,hM1⟩:∃M1,BD M hd (.map none (CI (lk hd++ [⟨l.t,l.r⟩])))=M1:=⟨_,rfl⟩
       rw [hM1] at hrep1⊢;refine Nr (xs:=[6,3,4,5]) (ars:=[.ptr 913 0 0,.ptr 910 0 0,.ptr 911 0 0,.ptr 912 0 0]) [.pointer (some ⟨u6,0,none⟩),.pointer (some ⟨u3,0,none⟩),.pointer (some ⟨u4,0,none⟩),.pointer (some ⟨u5,0,none⟩)] hD hlo hrnd Z Z Z ?_ ?_
       ·exact (II ⟨913,0,u6,924,0,rfl,rfl,rfl⟩ (II ⟨910,0,u3,921,0,rfl,rfl,rfl⟩ (II ⟨911,0,u4,922,0,rfl,rfl,rfl⟩ (II ⟨912,0,u5,923,0,rfl,rfl,rfl⟩ EF))))
       refine AG (AG (AH ?_))
       first | refine J (AZ Z Z BE rfl) ?_ | refine J (AX Z Z Z BE rfl) ?_ | refine J (AY Z Z (rfl) rfl BE rfl) ?_
       refine U (GR (G7 hrep1 hok1 hK1) rfl [40] ⟨rfl,trivial⟩ Z Z Z Z Z Z Z Z Z) (AC Z Z ?_)
       first | refine J (B9 Z Z Z) ?_ | refine J (B8 Z Z Z) ?_
       first | refine J (B9 Z Z Z) ?_ | refine J (B8 Z Z Z) ?_
       refine AD Z Z (AD Z Z (AF (AG (AH (AC Z Z ?_)))))
       first | refine J (ET Z Z) ?_ | refine J (EO Z Z) ?_
       refine AF ?_
       first | refine BC rfl (fun h61=>?_) (fun h61=>?_) | refine Ax rfl (fun h61=>?_) (fun h61=>?_)
       ·refine AG (AH (U (Bq Z Z Z Z Z Z Z Gw) (AF (At ?_))));have hac:acyW (BR w l)=false:=by simpa using h61
        have h0':lnkW w l=(w,26):=by rw [h0,hac];rfl
        refine ⟨_,HLk b l 26++ [(40,[.multi M1])],_,[910,911,912,913,40],_,_,_,KZ hrep1 l hfR 26,rfl,?_,⟨rfl,rfl,rfl,rfl,rfl,trivial⟩,rfl,rfl,rfl,rfl,fun r H' ⟨e1,M',e2,h3⟩=>?_⟩
        ·exact (II ⟨913,0,u6,924,0,rfl,rfl,rfl⟩ (II ⟨910,0,u3,921,0,rfl,rfl,rfl⟩ (II ⟨911,0,u4,922,0,rfl,rfl,rfl⟩ (II ⟨912,0,u5,923,0,rfl,rfl,rfl⟩ EF))))
        ·subst e1 e2;exact ⟨⟨rfl,rfl,rfl⟩,_,[40],_,As rfl,rfl,rfl,M',by rw [h0'],rfl,by rw [h0'];rw [if_neg (by decide),Ji hnK] at h3;exact h3⟩
       ·refine Aj (AG (AH (U (Bq Z Z Z Z Z Z Z Gw) (AF (At ?_)))));have hac:acyW (BR w l)=true:=by simpa using h61
        have h0':lnkW w l=(BR w l,0):=by rw [h0,hac];rfl
        refine ⟨_,HLk b l 0++ [(40,[.multi M1])],_,[910,911,912,913,40],_,_,_,KZ hrep1 l hfR 0,rfl,?_,⟨rfl,rfl,rfl,rfl,rfl,trivial⟩,rfl,rfl,rfl,rfl,fun r H' ⟨e1,M',e2,h3⟩=>?_⟩
        ·exact (II ⟨913,0,u6,924,0,rfl,rfl,rfl⟩ (II ⟨910,0,u3,921,0,rfl,rfl,rfl⟩ (II ⟨911,0,u4,922,0,rfl,rfl,rfl⟩ (II ⟨912,0,u5,923,0,rfl,rfl,rfl⟩ EF))))
        ·subst e1 e2;exact ⟨⟨rfl,rfl,rfl⟩,_,[40],_,As rfl,rfl,rfl,M',by rw [h0'],rfl,by rw [h0'];rw [if_pos rfl] at h3;exact h3⟩
 ·refine Aw Z Z Z Z (Aw Z Z Z Z (Aw Z Z Z Z (J (En Z Z Z Z) (AD Z Z (AF (DX Z Z ?_))))))
  first | refine AG ?_ | refine CB hR ?_
  refine AH ?_
  first | refine J (AZ Z Z BE rfl) ?_ | refine J (AX Z Z Z BE rfl) ?_ | refine J (AY Z Z (rfl) rfl BE rfl) ?_
  first | refine J (AZ Z Z AQ rfl) ?_ | refine J (AX Z Z Z AQ rfl) ?_ | refine J (AY Z Z (rfl) rfl AQ rfl) ?_
  refine U (GR (In hrep l.f) rfl [40] ⟨rfl,trivial⟩ Z Z Z Z Z Z Z Z Z) ?_
  first | refine J (ET Z Z) ?_ | refine J (EO Z Z) ?_
  refine AC Z Z ?_
  first | refine Hq 26 rfl (fun h26=>?_) (fun h26=>?_) | refine HP 26 rfl (fun h26=>?_) (fun h26=>?_)
  ·refine Aw Z Z Z Z (Aw Z Z Z Z (Aw Z Z Z Z (Aw Z Z Z Z (Aw Z Z Z Z (J (GS Z Z Z Z) (AD Z Z (AF (JG Z Z ?_))))))))
   first | refine AG ?_ | refine CB hR ?_
   have h9:lnkW w l=(w,9):=MI (by first | exact .inl (Classical.not_not.1 h16) | exact .inr (Classical.not_not.1 h12)) (by first | exact .inl h26 | exact .inr h21);refine AH (U (Bq Z Z Z Z Z Z Z Gw) (AF (At ?_)));exact ⟨_,[40],_,As rfl,rfl,rfl,M,by rw [h9],rfl,by rw [h9];exact hrep⟩
  ·refine A3 Z Z Z ?_
   first | refine J (AZ Z Z BE rfl) ?_ | refine J (AX Z Z Z BE rfl) ?_ | refine J (AY Z Z (rfl) rfl BE rfl) ?_
   refine A3 Z Z Z ?_
   first | refine J (A5 rfl CD Z Z Z) ?_ | refine J (A7 rfl CD Z Z Z) ?_ | refine J (A8 rfl CD Z Z Z) ?_ | refine J (A6 rfl CD Z Z Z) ?_ | refine J (A4 rfl CD Z Z Z) ?_
   refine A3 Z Z Z ?_
   first | refine J (AZ Z Z AQ rfl) ?_ | refine J (AX Z Z Z AQ rfl) ?_ | refine J (AY Z Z (rfl) rfl AQ rfl) ?_
   refine A3 Z Z Z (U (GR (In hrep l.r) rfl [40] ⟨rfl,trivial⟩ Z Z Z Z Z Z Z Z Z) (A3 Z Z Z ?_))
   first | refine J (ET Z Z) ?_ | refine J (EO Z Z) ?_
   refine J (En Z Z Z Z) (AD Z Z (AF ?_))
   first | refine BC rfl (fun h21=>?_) (fun h21=>?_) | refine Ax rfl (fun h21=>?_) (fun h21=>?_)
   ·first | refine AG ?_ | refine CB hR ?_
    have h9:lnkW w l=(w,9):=MI (by first | exact .inl (Classical.not_not.1 h16) | exact .inr (Classical.not_not.1 h12)) (by first | exact .inl h26 | exact .inr h21);refine AH (U (Bq Z Z Z Z Z Z Z Gw) (AF (At ?_)));exact ⟨_,[40],_,As rfl,rfl,rfl,M,by rw [h9],rfl,by rw [h9];exact hrep⟩
   ·first | refine AG ?_ | refine CB hR ?_
    have ht:l.t=0∨l.t=1:=by first | exact .inl (Classical.not_not.1 h16) | exact .inr (Classical.not_not.1 h12)
    have hfR:l.f∈w.R:=Classical.not_not.1 h26;have hrR:l.r∈w.R:=Classical.not_not.1 h21;refine AH ?_
    first | refine J (AZ Z Z AQ rfl) ?_ | refine J (AX Z Z Z AQ rfl) ?_ | refine J (AY Z Z (rfl) rfl AQ rfl) ?_
    first | refine J (A5 rfl CD Z Z Z) ?_ | refine J (A7 rfl CD Z Z Z) ?_ | refine J (A8 rfl CD Z Z Z) ?_ | refine J (A6 rfl CD Z Z Z) ?_ | refine J (A4 rfl CD Z Z Z) ?_
    first | refine J (AZ Z Z AQ rfl) ?_ | refine J (AX Z Z Z AQ rfl) ?_ | refine J (AY Z Z (rfl) rfl AQ rfl) ?_
    first | refine J (EN Z Z Z) ?_ | refine J (EY Z Z Z) ?_ | refine J (Dy Z Z Z) ?_ | refine J (EP Try.underlying9 Z Z Z) ?_ | refine J (ES Try.underlying9 Z Z Z) ?_ | refine J (ER Try.underlying9 Z Z) ?_ | refine J (EX Try.underlying9 Z Z) ?_ | refine J (EW Try.underlying9 Z Z) ?_ | refine J (EQ Try.underlying9 Z Z Z) ?_ | refine J (EV Try.underlying9 Z Z) ?_
    refine AD Z Z (AF ?_)
    first | refine BC rfl (fun h33=>?_) (fun h33=>?_) | refine Ax rfl (fun h33=>?_) (fun h33=>?_)
    ·first | refine AG ?_ | refine CB hR ?_
     refine AH (U (Bq Z Z Z Z Z Z Z Gw) (AF (At ?_)));exact ⟨_,[40],_,As rfl,rfl,rfl,M,by rw [KA ht hfR hrR h33],rfl,by rw [KA ht hfR hrR h33];exact hrep⟩
    ·first | refine AG ?_ | refine CB hR ?_
     obtain ⟨hd,hm⟩:=hl.at hfR;refine F1 [[],[0],[0,1],[0,1,2],[],[0,1,2,3,4],[],[0,1,2,3,4,5,6],[0,1,2,3,4,5,6,7]] mixed rfl (D1 ?_)
     first | refine AE [3] [] Z Z (fun _=>AB (AZ Z Z BE rfl)) ?_ | refine AI [3] Z Z (fun _=>AB (AZ Z Z BE rfl)) ?_ | refine AE [3] [] Z Z (fun _=>AB (AX Z Z Z BE rfl)) ?_ | refine AI [3] Z Z (fun _=>AB (AX Z Z Z BE rfl)) ?_ | refine AE [3] [] Z Z (fun _=>AB (AY Z Z (rfl) rfl BE rfl)) ?_ | refine AI [3] Z Z (fun _=>AB (AY Z Z (rfl) rfl BE rfl)) ?_
     first | refine AE [39] [] Z Z (fun _=>AB (FB Z Z)) ?_ | refine AI [39] Z Z (fun _=>AB (FB Z Z)) ?_ | refine AE [39] [] Z Z (fun _=>AB (Ez Z Z)) ?_ | refine AI [39] Z Z (fun _=>AB (Ez Z Z)) ?_ | refine AE [39] [] Z Z (fun _=>AB (FC Z Z)) ?_ | refine AI [39] Z Z (fun _=>AB (FC Z Z)) ?_ | refine AE [39] [] Z Z (fun _=>AB (FA Z Z)) ?_ | refine AI [39] Z Z (fun _=>AB (FA Z Z)) ?_
     first | refine AE [40] [] Z Z (fun _=>AB (A5 rfl A2 Z Z Z)) ?_ | refine AI [40] Z Z (fun _=>AB (A5 rfl A2 Z Z Z)) ?_ | refine AE [40] [] Z Z (fun _=>AB (A7 rfl A2 Z Z Z)) ?_ | refine AI [40] Z Z (fun _=>AB (A7 rfl A2 Z Z Z)) ?_ | refine AE [40] [] Z Z (fun _=>AB (A8 rfl A2 Z Z Z)) ?_ | refine AI [40] Z Z (fun _=>AB (A8 rfl A2 Z Z Z)) ?_ | refine AE [40] [] Z Z (fun _=>AB (A6 rfl A2 Z Z Z)) ?_ | refine AI [40] Z Z (fun _=>AB (A6 rfl A2 Z Z Z)) ?_ | refine AE [40] [] Z Z (fun _=>AB (A4 rfl A2 Z Z Z)) ?_ | refine AI [40] Z Z (fun _=>AB (A4 rfl A2 Z Z Z)) ?_
     first | refine AE [41] [] Z Z (fun _=>AB (Fw (f:=40) Z Z (hr.cell) rfl Bn rfl)) ?_ | refine AI [41] Z Z (fun _=>AB (Fw (f:=40) Z Z (hr.cell) rfl Bn rfl)) ?_
     first | refine AE [4] [] Z Z (fun _=>AB (AZ Z Z AQ rfl)) ?_ | refine AI [4] Z Z (fun _=>AB (AZ Z Z AQ rfl)) ?_ | refine AE [4] [] Z Z (fun _=>AB (AX Z Z Z AQ rfl)) ?_ | refine AI [4] Z Z (fun _=>AB (AX Z Z Z AQ rfl)) ?_ | refine AE [4] [] Z Z (fun _=>AB (AY Z Z (rfl) rfl AQ rfl)) ?_ | refine AI [4] Z Z (fun _=>AB (AY Z Z (rfl) rfl AQ rfl)) ?_
     first | refine AE [42,43] [] Z Z (fun _=>AB (HR (f:=40) (eE E) l.f none (some hd) Z Z hr.top rfl Bx E0 Dz (KU hl.kd hm) rfl)) ?_ | refine AI [42,43] Z Z (fun _=>AB (HR (f:=40) (eE E) l.f none (some hd) Z Z hr.top rfl Bx E0 Dz (KU hl.kd hm) rfl)) ?_
     first | refine AE [5] [] Z Z (fun _=>AB (BX Z Z Ap rfl)) ?_ | refine AI [5] Z Z (fun _=>AB (BX Z Z Ap rfl)) ?_ | refine AE [5] [] Z Z (fun _=>AB (BY Z Z Ap Z Z Z)) ?_ | refine AI [5] Z Z (fun _=>AB (BY Z Z Ap Z Z Z)) ?_ | refine AE [5] [] Z Z (fun _=>AB (BZ Z Z (rfl) rfl Ap rfl)) ?_ | refine AI [5] Z Z (fun _=>AB (BZ Z Z (rfl) rfl Ap rfl)) ?_
     refine D2 7 Z Z Z (BQ 8 Z Z (J (HR (f:=40) (Ci (lk hd)) ⟨l.t,l.r⟩ false _ Z Z (hr.sub _ hm) rfl FM Hk za4 (Hz _ _) rfl) (AF ⟨rfl,?_⟩)));refine BQ 9 Z Z (AD Z Z (AF ⟨rfl,?_⟩));refine Ei ?_
     first | refine BC rfl (fun h38=>?_) (fun h38=>?_) | refine Ax rfl (fun h38=>?_) (fun h38=>?_)
     ·first | refine AG ?_ | refine CB hR ?_
      refine AH (U (Bq Z Z Z Z Z Z Z Gw) (AF (At ?_)));have h7:=lnk7 ht hfR hrR h33 ((hl.ls _ hm _).1 h38);exact ⟨_,[40],_,As rfl,rfl,rfl,M,by rw [h7],rfl,by rw [h7];exact hrep⟩
     ·refine Aj ?_
      first | refine AG ?_ | refine CB hR ?_
      refine Cu 921 910 0 Z Z Z Z Z fun u3=>(Cu 922 911 0 Z Z Z Z Z fun u4=>(Cu 923 912 0 Z Z Z Z Z fun u5=>(Cu 924 913 0 Z Z Z Z Z fun u6=>(F1 [[],[0],[0,1],[0,1,2],[],[0,1,2,3,4],[],[0,1,2,3,4,5,6]] mixed rfl (D1 ?_)))))
      first | refine AE [3] [] Z Z (fun _=>AB (AZ Z Z BE rfl)) ?_ | refine AI [3] Z Z (fun _=>AB (AZ Z Z BE rfl)) ?_ | refine AE [3] [] Z Z (fun _=>AB (AX Z Z Z BE rfl)) ?_ | refine AI [3] Z Z (fun _=>AB (AX Z Z Z BE rfl)) ?_ | refine AE [3] [] Z Z (fun _=>AB (AY Z Z (rfl) rfl BE rfl)) ?_ | refine AI [3] Z Z (fun _=>AB (AY Z Z (rfl) rfl BE rfl)) ?_
      first | refine AE [47] [] Z Z (fun _=>AB (FB Z Z)) ?_ | refine AI [47] Z Z (fun _=>AB (FB Z Z)) ?_ | refine AE [47] [] Z Z (fun _=>AB (Ez Z Z)) ?_ | refine AI [47] Z Z (fun _=>AB (Ez Z Z)) ?_ | refine AE [47] [] Z Z (fun _=>AB (FC Z Z)) ?_ | refine AI [47] Z Z (fun _=>AB (FC Z Z)) ?_ | refine AE [47] [] Z Z (fun _=>AB (FA Z Z)) ?_ | refine AI [47] Z Z (fun _=>AB (FA Z Z)) ?_
      first | refine AE [48] [] Z Z (fun _=>AB (A5 rfl A2 Z Z Z)) ?_ | refine AI [48] Z Z (fun _=>AB (A5 rfl A2 Z Z Z)) ?_ | refine AE [48] [] Z Z (fun _=>AB (A7 rfl A2 Z Z Z)) ?_ | refine AI [48] Z Z (fun _=>AB (A7 rfl A2 Z Z Z)) ?_ | refine AE [48] [] Z Z (fun _=>AB (A8 rfl A2 Z Z Z)) ?_ | refine AI [48] Z Z (fun _=>AB (A8 rfl A2 Z Z Z)) ?_ | refine AE [48] [] Z Z (fun _=>AB (A6 rfl A2 Z Z Z)) ?_ | refine AI [48] Z Z (fun _=>AB (A6 rfl A2 Z Z Z)) ?_ | refine AE [48] [] Z Z (fun _=>AB (A4 rfl A2 Z Z Z)) ?_ | refine AI [48] Z Z (fun _=>AB (A4 rfl A2 Z Z Z)) ?_
      first | refine AE [49] [] Z Z (fun _=>AB (Fw (f:=40) Z Z (hr.cell) rfl Bn rfl)) ?_ | refine AI [49] Z Z (fun _=>AB (Fw (f:=40) Z Z (hr.cell) rfl Bn rfl)) ?_
      first | refine AE [4] [] Z Z (fun _=>AB (AZ Z Z AQ rfl)) ?_ | refine AI [4] Z Z (fun _=>AB (AZ Z Z AQ rfl)) ?_ | refine AE [4] [] Z Z (fun _=>AB (AX Z Z Z AQ rfl)) ?_ | refine AI [4] Z Z (fun _=>AB (AX Z Z Z AQ rfl)) ?_ | refine AE [4] [] Z Z (fun _=>AB (AY Z Z (rfl) rfl AQ rfl)) ?_ | refine AI [4] Z Z (fun _=>AB (AY Z Z (rfl) rfl AQ rfl)) ?_
      first | refine AE [50,51] [] Z Z (fun _=>AB (HR (f:=40) (eE E) l.f none (some hd) Z Z hr.top rfl Bx E0 Dz (KU hl.kd hm) rfl)) ?_ | refine AI [50,51] Z Z (fun _=>AB (HR (f:=40) (eE E) l.f none (some hd) Z Z hr.top rfl Bx E0 Dz (KU hl.kd hm) rfl)) ?_
      first | refine AE [5] [] Z Z (fun _=>AB (BX Z Z Ap rfl)) ?_ | refine AI [5] Z Z (fun _=>AB (BX Z Z Ap rfl)) ?_ | refine AE [5] [] Z Z (fun _=>AB (BY Z Z Ap Z Z Z)) ?_ | refine AI [5] Z Z (fun _=>AB (BY Z Z Ap Z Z Z)) ?_ | refine AE [5] [] Z Z (fun _=>AB (BZ Z Z (rfl) rfl Ap rfl)) ?_ | refine AI [5] Z Z (fun _=>AB (BZ Z Z (rfl) rfl Ap rfl)) ?_
      refine D2 7 Z Z Z (BQ 8 Z Z (U (FE (f:=40) (Ci (lk hd)) (⟨l.t,l.r⟩) (true) Z Z (hr.sub _ hm) rfl FM Hk Z Z) (AF ⟨rfl,?_⟩)));refine Ei ?_;have hnK:l∉w.K:=fun hh=>h38 ((hl.ls _ hm _).2 hh);rw [Kl h38];have hrep1:B4 _ b (BR w l):=LP hr hl hm (l:=⟨l.t,l.r⟩) hnK;have hok1:=hw.with_ ht hfR hrR h33 hnK;have hK1:(BR w l).K.length≤1000000:=by show (w.K++ [l]).length≤_;rw [List.length_append,List.length_singleton];omega
      have h0:=NI ht hfR hrR h33 hnK
      obtain ⟨M1,hM1⟩:∃M1,BD M hd (.map none (CI (lk hd++ [⟨l.t,l.r⟩])))=M1:=⟨_,rfl⟩
      rw [hM1] at hrep1⊢;refine Nr (xs:=[6,3,4,5]) (ars:=[.ptr 913 0 0,.ptr 910 0 0,.ptr 911 0 0,.ptr 912 0 0]) [.pointer (some ⟨u6,0,none⟩),.pointer (some ⟨u3,0,none⟩),.pointer (some ⟨u4,0,none⟩),.pointer (some ⟨u5,0,none⟩)] hD hlo hrnd Z Z Z ?_ ?_
      ·exact (II ⟨913,0,u6,924,0,rfl,rfl,rfl⟩ (II ⟨910,0,u3,921,0,rfl,rfl,rfl⟩ (II ⟨911,0,u4,922,0,rfl,rfl,rfl⟩ (II ⟨912,0,u5,923,0,rfl,rfl,rfl⟩ EF))))
      refine AG (AG (AH ?_))
      first | refine J (AZ Z Z BE rfl) ?_ | refine J (AX Z Z Z BE rfl) ?_ | refine J (AY Z Z (rfl) rfl BE rfl) ?_
      refine U (GR (G7 hrep1 hok1 hK1) rfl [40] ⟨rfl,trivial⟩ Z Z Z Z Z Z Z Z Z) (AC Z Z ?_)
      first | refine J (B9 Z Z Z) ?_ | refine J (B8 Z Z Z) ?_
      first | refine J (B9 Z Z Z) ?_ | refine J (B8 Z Z Z) ?_
      refine AD Z Z (AD Z Z (AF (AG (AH (AC Z Z ?_)))))
      first | refine J (ET Z Z) ?_ | refine J (EO Z Z) ?_
      refine AF ?_
      first | refine BC rfl (fun h61=>?_) (fun h61=>?_) | refine Ax rfl (fun h61=>?_) (fun h61=>?_)
      ·refine AG (AH (U (Bq Z Z Z Z Z Z Z Gw) (AF (At ?_))));have hac:acyW (BR w l)=false:=by simpa using h61
       have h0':lnkW w l=(w,26):=by rw [h0,hac];rfl
       refine ⟨_,HLk b l 26++ [(40,[.multi M1])],_,[910,911,912,913,40],_,_,_,KZ hrep1 l hfR 26,rfl,?_,⟨rfl,rfl,rfl,rfl,rfl,trivial⟩,rfl,rfl,rfl,rfl,fun r H' ⟨e1,M',e2,h3⟩=>?_⟩
       ·exact (II ⟨913,0,u6,924,0,rfl,rfl,rfl⟩ (II ⟨910,0,u3,921,0,rfl,rfl,rfl⟩ (II ⟨911,0,u4,922,0,rfl,rfl,rfl⟩ (II ⟨912,0,u5,923,0,rfl,rfl,rfl⟩ EF))))
       ·subst e1 e2;exact ⟨⟨rfl,rfl,rfl⟩,_,[40],_,As rfl,rfl,rfl,M',by rw [h0'],rfl,by rw [h0'];rw [if_neg (by decide),Ji hnK] at h3;exact h3⟩
      ·refine Aj (AG (AH (U (Bq Z Z Z Z Z Z Z Gw) (AF (At ?_)))));have hac:acyW (BR w l)=true:=by simpa using h61
       have h0':lnkW w l=(BR w l,0):=by rw [h0,hac];rfl
       refine ⟨_,HLk b l 0++ [(40,[.multi M1])],_,[910,911,912,913,40],_,_,_,KZ hrep1 l hfR 0,rfl,?_,⟨rfl,rfl,rfl,rfl,rfl,trivial⟩,rfl,rfl,rfl,rfl,fun r H' ⟨e1,M',e2,h3⟩=>?_⟩
       ·exact (II ⟨913,0,u6,924,0,rfl,rfl,rfl⟩ (II ⟨910,0,u3,921,0,rfl,rfl,rfl⟩ (II ⟨911,0,u4,922,0,rfl,rfl,rfl⟩ (II ⟨912,0,u5,923,0,rfl,rfl,rfl⟩ EF))))
       ·subst e1 e2;exact ⟨⟨rfl,rfl,rfl⟩,_,[40],_,As rfl,rfl,rfl,M',by rw [h0'],rfl,by rw [h0'];rw [if_pos rfl] at h3;exact h3⟩
theorem unl9 {w:Ws} {l:Lw} (h:l∉w.K):unlW w l=(w,9):=by unfold unlW;rw [if_pos h]
theorem unl0 {w:Ws} {l:Lw} (h:l∈w.K):unlW w l=if acyW (CV w l)=true then (CV w l,0) else (w,26):=by unfold unlW;rw [if_neg fun hh=>hh h]
theorem Qq {M:MF} {b m:Nat} {E:List (St×Nat)} {lk:Nat ->List Lk} {w:Ws} (hr:LR M b m E lk) (hl:LW E lk w) {x:St} {hd:Nat} (hm:(x,hd)∈E) {l:Lk} (hin:l∈lk hd):B4 (BD M hd (.map none (CI ((lk hd).filter (fun y=>!decide (y=l))++ [l])))) b w:=by
 refine ⟨m,E,_,hr.set hm _,hl.set hr.nd hm rfl ?_ (fun l'=>?_) (fun l' hf=>Iff.rfl)⟩
 ·refine List.nodup_append.2 ⟨List.Nodup.sublist List.filter_sublist (hl.ld _ hm),by simp,fun a ha c hc e=>?_⟩;have:=(List.mem_filter.1 ha).2;rw [e,List.mem_singleton.1 hc] at this
  simp at this
 ·rw [←hl.ls _ hm l',List.mem_append,List.mem_filter,List.mem_singleton]
  constructor
  ·rintro (h | rfl)
   ·exact h.1
   ·exact hin
  ·intro h
   by_cases e:l'=l
   ·exact .inr e
   ·exact .inl ⟨h,by simp [e]⟩
theorem PK {M:MF} {b:Nat} {w:Ws} (h:B4 M b w) (hw:Bc w) (hK:w.K.length≤1000000) (l:Lw):AU Try.prog 30 [.d (pD b 0),.d (AW l.f),.d (lkD ⟨l.t,l.r⟩)] [(40,[.multi M])] fun r H'=>∃M',r= .d (Bh (unlW w l).2)∧H'=[(40,[.multi M'])]∧B4 M' b (unlW w l).1:=by
 have hrep:=h;obtain ⟨m,E,lk,hr,hl⟩:=h;refine DA Try.func30 Z Z Try.ntmps30 Z Z Z fun F hF=>?_;refine AG (AH (U (JT 910 Z Z Z Z Z Z Z) (AD Z Z (AF (AG (AG (AH (AC Z Z ?_))))))))
 by_cases hfR:l.f∈w.R
 ·first | refine J (EN Z Z Z) ?_ | refine J (EY Z Z Z) ?_ | refine J (Dy Z Z Z) ?_ | refine J (EP Try.underlying23 Z Z Z) ?_ | refine J (ES Try.underlying23 Z Z Z) ?_ | refine J (ER Try.underlying23 Z Z) ?_ | refine J (EX Try.underlying23 Z Z) ?_ | refine J (EW Try.underlying23 Z Z) ?_ | refine J (EQ Try.underlying23 Z Z Z) ?_ | refine J (EV Try.underlying23 Z Z) ?_
  refine AF (DX rfl (rfl) (Aj (AG (AG (F1 [[],[0],[0,1],[0,1,2],[],[0,1,2,3,4],[],[0,1,2,3,4,5,6],[0,1,2,3,4,5,6,7]] mixed rfl (D1 ?_))))))
  first | refine AE [0] [] Z Z (fun _=>AB (Ac Z Z)) ?_ | refine AI [0] Z Z (fun _=>AB (Ac Z Z)) ?_
  first | refine AE [11] [] Z Z (fun _=>AB (FB Z Z)) ?_ | refine AI [11] Z Z (fun _=>AB (FB Z Z)) ?_ | refine AE [11] [] Z Z (fun _=>AB (Ez Z Z)) ?_ | refine AI [11] Z Z (fun _=>AB (Ez Z Z)) ?_ | refine AE [11] [] Z Z (fun _=>AB (FC Z Z)) ?_ | refine AI [11] Z Z (fun _=>AB (FC Z Z)) ?_ | refine AE [11] [] Z Z (fun _=>AB (FA Z Z)) ?_ | refine AI [11] Z Z (fun _=>AB (FA Z Z)) ?_
  first | refine AE [12] [] Z Z (fun _=>AB (A5 rfl A2 Z Z Z)) ?_ | refine AI [12] Z Z (fun _=>AB (A5 rfl A2 Z Z Z)) ?_ | refine AE [12] [] Z Z (fun _=>AB (A7 rfl A2 Z Z Z)) ?_ | refine AI [12] Z Z (fun _=>AB (A7 rfl A2 Z Z Z)) ?_ | refine AE [12] [] Z Z (fun _=>AB (A8 rfl A2 Z Z Z)) ?_ | refine AI [12] Z Z (fun _=>AB (A8 rfl A2 Z Z Z)) ?_ | refine AE [12] [] Z Z (fun _=>AB (A6 rfl A2 Z Z Z)) ?_ | refine AI [12] Z Z (fun _=>AB (A6 rfl A2 Z Z Z)) ?_ | refine AE [12] [] Z Z (fun _=>AB (A4 rfl A2 Z Z Z)) ?_ | refine AI [12] Z Z (fun _=>AB (A4 rfl A2 Z Z Z)) ?_
  first | refine AE [13] [] Z Z (fun _=>AB (Fw (f:=40) Z Z (hr.cell) rfl Bn rfl)) ?_ | refine AI [13] Z Z (fun _=>AB (Fw (f:=40) Z Z (hr.cell) rfl Bn rfl)) ?_
  first | refine AE [1] [] Z Z (fun _=>AB (Ac Z Z)) ?_ | refine AI [1] Z Z (fun _=>AB (Ac Z Z)) ?_
  first | refine AE [14,15] [] Z Z (fun _=>AB (HR (f:=40) (eE E) (l.f) (none) _ Z Z (hr.top) rfl Bx E0 Dz Z Z)) ?_ | refine AI [14,15] Z Z (fun _=>AB (HR (f:=40) (eE E) (l.f) (none) _ Z Z (hr.top) rfl Bx E0 Dz Z Z)) ?_
  first | refine AE [5] [] Z Z (fun _=>AB (BX Z Z Ap rfl)) ?_ | refine AI [5] Z Z (fun _=>AB (BX Z Z Ap rfl)) ?_ | refine AE [5] [] Z Z (fun _=>AB (BY Z Z Ap Z Z Z)) ?_ | refine AI [5] Z Z (fun _=>AB (BY Z Z Ap Z Z Z)) ?_ | refine AE [5] [] Z Z (fun _=>AB (BZ Z Z (rfl) rfl Ap rfl)) ?_ | refine AI [5] Z Z (fun _=>AB (BZ Z Z (rfl) rfl Ap rfl)) ?_
  refine D2 7 Z Z Z (BQ 8 Z Z ?_);obtain ⟨hd,hm⟩:=hl.at hfR;rw [KU hl.kd hm];refine J (HR (f:=40) (Ci (lk hd)) ⟨l.t,l.r⟩ false _ Z Z (hr.sub _ hm) rfl FM Hk za4 (Hz _ _) rfl) (AF ⟨rfl,?_⟩);refine BQ 9 Z Z ?_
  first | refine J (ET Z Z) ?_ | refine J (EO Z Z) ?_
  refine AF ⟨rfl,?_⟩;refine Ei ?_
  first | refine BC rfl (fun h19=>?_) (fun h19=>?_) | refine Ax rfl (fun h19=>?_) (fun h19=>?_)
  ·refine AG (AH (AD Z Z (AF (At ?_))));have h9:unlW w l=(w,9):=unl9 fun hh=>by first | exact h19 ((hl.ls _ hm _).2 hh) | exact hfR (hw.lk l hh).1
   exact ⟨_,[40],_,As rfl,rfl,rfl,M,by rw [h9],rfl,by rw [h9];exact hrep⟩
  ·refine Aj (AG ?_);have hin:(⟨l.t,l.r⟩:Lk)∈lk hd:=Classical.not_not.1 h19;have hlK:l∈w.K:=(hl.ls _ hm _).1 hin;have h0:=unl0 hlK;refine F1 [[],[0],[0,1],[0,1,2],[],[0,1,2,3,4],[],[0,1,2,3,4,5,6]] mixed rfl (D1 ?_)
   first | refine AE [0] [] Z Z (fun _=>AB (Ac Z Z)) ?_ | refine AI [0] Z Z (fun _=>AB (Ac Z Z)) ?_
   first | refine AE [20] [] Z Z (fun _=>AB (FB Z Z)) ?_ | refine AI [20] Z Z (fun _=>AB (FB Z Z)) ?_ | refine AE [20] [] Z Z (fun _=>AB (Ez Z Z)) ?_ | refine AI [20] Z Z (fun _=>AB (Ez Z Z)) ?_ | refine AE [20] [] Z Z (fun _=>AB (FC Z Z)) ?_ | refine AI [20] Z Z (fun _=>AB (FC Z Z)) ?_ | refine AE [20] [] Z Z (fun _=>AB (FA Z Z)) ?_ | refine AI [20] Z Z (fun _=>AB (FA Z Z)) ?_
   first | refine AE [21] [] Z Z (fun _=>AB (A5 rfl A2 Z Z Z)) ?_ | refine AI [21] Z Z (fun _=>AB (A5 rfl A2 Z Z Z)) ?_ | refine AE [21] [] Z Z (fun _=>AB (A7 rfl A2 Z Z Z)) ?_ | refine AI [21] Z Z (fun _=>AB (A7 rfl A2 Z Z Z)) ?_ | refine AE [21] [] Z Z (fun _=>AB (A8 rfl A2 Z Z Z)) ?_ | refine AI [21] Z Z (fun _=>AB (A8 rfl A2 Z Z Z)) ?_ | refine AE [21] [] Z Z (fun _=>AB (A6 rfl A2 Z Z Z)) ?_ | refine AI [21] Z Z (fun _=>AB (A6 rfl A2 Z Z Z)) ?_ | refine AE [21] [] Z Z (fun _=>AB (A4 rfl A2 Z Z Z)) ?_ | refine AI [21] Z Z (fun _=>AB (A4 rfl A2 Z Z Z)) ?_
   first | refine AE [22] [] Z Z (fun _=>AB (Fw (f:=40) Z Z (hr.cell) rfl Bn rfl)) ?_ | refine AI [22] Z Z (fun _=>AB (Fw (f:=40) Z Z (hr.cell) rfl Bn rfl)) ?_
   first | refine AE [1] [] Z Z (fun _=>AB (Ac Z Z)) ?_ | refine AI [1] Z Z (fun _=>AB (Ac Z Z)) ?_
   first | refine AE [23,24] [] Z Z (fun _=>AB (HR (f:=40) (eE E) l.f none (some hd) Z Z hr.top rfl Bx E0 Dz (KU hl.kd hm) rfl)) ?_ | refine AI [23,24] Z Z (fun _=>AB (HR (f:=40) (eE E) l.f none (some hd) Z Z hr.top rfl Bx E0 Dz (KU hl.kd hm) rfl)) ?_
   first | refine AE [5] [] Z Z (fun _=>AB (BX Z Z Ap rfl)) ?_ | refine AI [5] Z Z (fun _=>AB (BX Z Z Ap rfl)) ?_ | refine AE [5] [] Z Z (fun _=>AB (BY Z Z Ap Z Z Z)) ?_ | refine AI [5] Z Z (fun _=>AB (BY Z Z Ap Z Z Z)) ?_ | refine AE [5] [] Z Z (fun _=>AB (BZ Z Z (rfl) rfl Ap rfl)) ?_ | refine AI [5] Z Z (fun _=>AB (BZ Z Z (rfl) rfl Ap rfl)) ?_
   refine D2 7 Z Z Z (BQ 8 Z Z (U (GY (f:=40) (Ci (lk hd)) (⟨l.t,l.r⟩) (true) Z Z (hr.sub _ hm) rfl FM Hk rfl) (AF ⟨rfl,?_⟩)));refine Ei (AG (AG ?_));rw [IA (hl.ld _ hm)];have hrep1:B4 _ b (CV w l):=L4 hr hl hm ⟨l.t,l.r⟩;have hr1:=hr.set hm ((lk hd).filter fun y=>!decide (y=⟨l.t,l.r⟩));have hK1:(CV w l).K.length≤1000000:=Nat.le_trans (List.length_filter_le _ _) hK
   obtain ⟨M1,hM1⟩:∃M1,BD M hd (.map none (CI ((lk hd).filter fun y=>!decide (y=⟨l.t,l.r⟩))))=M1:=⟨_,rfl⟩
   rw [hM1] at hrep1 hr1⊢;refine AH (AC Z Z (U (GR (G7 hrep1 (hw.sans l) hK1) rfl [40] ⟨rfl,trivial⟩ Z Z Z Z Z Z Z Z Z) (AC Z Z ?_)))
   first | refine J (B9 Z Z Z) ?_ | refine J (B8 Z Z Z) ?_
   first | refine J (B9 Z Z Z) ?_ | refine J (B8 Z Z Z) ?_
   refine AD Z Z (AD Z Z (AF (AG (AH (AC Z Z ?_)))))
   first | refine J (ET Z Z) ?_ | refine J (EO Z Z) ?_
   refine AF ?_
   first | refine BC rfl (fun h33=>?_) (fun h33=>?_) | refine Ax rfl (fun h33=>?_) (fun h33=>?_)
   ·refine AG (F1 [[],[0],[0,1],[0,1,2],[],[0,1,2,3,4],[],[0,1,2,3,4,5,6]] mixed rfl (D1 ?_))
    first | refine AE [0] [] Z Z (fun _=>AB (Ac Z Z)) ?_ | refine AI [0] Z Z (fun _=>AB (Ac Z Z)) ?_
    first | refine AE [34] [] Z Z (fun _=>AB (FB Z Z)) ?_ | refine AI [34] Z Z (fun _=>AB (FB Z Z)) ?_ | refine AE [34] [] Z Z (fun _=>AB (Ez Z Z)) ?_ | refine AI [34] Z Z (fun _=>AB (Ez Z Z)) ?_ | refine AE [34] [] Z Z (fun _=>AB (FC Z Z)) ?_ | refine AI [34] Z Z (fun _=>AB (FC Z Z)) ?_ | refine AE [34] [] Z Z (fun _=>AB (FA Z Z)) ?_ | refine AI [34] Z Z (fun _=>AB (FA Z Z)) ?_
    first | refine AE [35] [] Z Z (fun _=>AB (A5 rfl A2 Z Z Z)) ?_ | refine AI [35] Z Z (fun _=>AB (A5 rfl A2 Z Z Z)) ?_ | refine AE [35] [] Z Z (fun _=>AB (A7 rfl A2 Z Z Z)) ?_ | refine AI [35] Z Z (fun _=>AB (A7 rfl A2 Z Z Z)) ?_ | refine AE [35] [] Z Z (fun _=>AB (A8 rfl A2 Z Z Z)) ?_ | refine AI [35] Z Z (fun _=>AB (A8 rfl A2 Z Z Z)) ?_ | refine AE [35] [] Z Z (fun _=>AB (A6 rfl A2 Z Z Z)) ?_ | refine AI [35] Z Z (fun _=>AB (A6 rfl A2 Z Z Z)) ?_ | refine AE [35] [] Z Z (fun _=>AB (A4 rfl A2 Z Z Z)) ?_ | refine AI [35] Z Z (fun _=>AB (A4 rfl A2 Z Z Z)) ?_
    first | refine AE [36] [] Z Z (fun _=>AB (Fw (f:=40) Z Z (hr1.cell) rfl Bn rfl)) ?_ | refine AI [36] Z Z (fun _=>AB (Fw (f:=40) Z Z (hr1.cell) rfl Bn rfl)) ?_
    first | refine AE [1] [] Z Z (fun _=>AB (Ac Z Z)) ?_ | refine AI [1] Z Z (fun _=>AB (Ac Z Z)) ?_
    first | refine AE [37,38] [] Z Z (fun _=>AB (HR (f:=40) (eE E) l.f none (some hd) Z Z hr1.top rfl Bx E0 Dz (KU hl.kd hm) rfl)) ?_ | refine AI [37,38] Z Z (fun _=>AB (HR (f:=40) (eE E) l.f none (some hd) Z Z hr1.top rfl Bx E0 Dz (KU hl.kd hm) rfl)) ?_
    first | refine AE [5] [] Z Z (fun _=>AB (BX Z Z Ap rfl)) ?_ | refine AI [5] Z Z (fun _=>AB (BX Z Z Ap rfl)) ?_ | refine AE [5] [] Z Z (fun _=>AB (BY Z Z Ap Z Z Z)) ?_ | refine AI [5] Z Z (fun _=>AB (BY Z Z Ap Z Z Z)) ?_ | refine AE [5] [] Z Z (fun _=>AB (BZ Z Z (rfl) rfl Ap rfl)) ?_ | refine AI [5] Z Z (fun _=>AB (BZ Z Z (rfl) rfl Ap rfl)) ?_
    refine D2 7 Z Z Z (BQ 8 Z Z (U (FE (f:=40) (Ci ((lk hd).filter fun y=>!decide (y=⟨l.t,l.r⟩))) (⟨l.t,l.r⟩) (true) Z Z ((by rw [hr1.sub _ hm,Dl])) rfl FM Hk Z Z) (AF ⟨rfl,?_⟩)));refine Ei (AG ?_);have hac:acyW (CV w l)=false:=by simpa using h33
    have h26:unlW w l=(w,26):=by rw [h0,hac];rfl
    have hln:(⟨l.t,l.r⟩:Lk)∉(lk hd).filter fun y=>!decide (y=⟨l.t,l.r⟩):=fun hh=>by simpa using (List.mem_filter.1 hh).2
    rw [Kl hln,←hM1,Mg];refine AH (AD Z Z (AF (At ?_)));exact ⟨_,[40],_,As rfl,rfl,rfl,_,by rw [h26],rfl,by rw [h26];exact Qq hr hl hm hin⟩
   ·refine Aj (AG (AH (AD Z Z (AF (At ?_)))));have hac:acyW (CV w l)=true:=by simpa using h33
    have h00:unlW w l=(CV w l,0):=by rw [h0,if_pos hac]
    exact ⟨_,[40],_,As rfl,rfl,rfl,M1,by rw [h00],rfl,by rw [h00];exact hrep1⟩
 ·first | refine J (EN Z Z Z) ?_ | refine J (EY Z Z Z) ?_ | refine J (Dy Z Z Z) ?_ | refine J (EP Try.underlying23 Z Z Z) ?_ | refine J (ES Try.underlying23 Z Z Z) ?_ | refine J (ER Try.underlying23 Z Z) ?_ | refine J (EX Try.underlying23 Z Z) ?_ | refine J (EW Try.underlying23 Z Z) ?_ | refine J (EQ Try.underlying23 Z Z Z) ?_ | refine J (EV Try.underlying23 Z Z) ?_
  refine AF (DX rfl (rfl) (Aj (AG (AG (F1 [[],[0],[0,1],[0,1,2],[],[0,1,2,3,4],[],[0,1,2,3,4,5,6],[0,1,2,3,4,5,6,7]] mixed rfl (D1 ?_))))))
  first | refine AE [0] [] Z Z (fun _=>AB (Ac Z Z)) ?_ | refine AI [0] Z Z (fun _=>AB (Ac Z Z)) ?_
  first | refine AE [11] [] Z Z (fun _=>AB (FB Z Z)) ?_ | refine AI [11] Z Z (fun _=>AB (FB Z Z)) ?_ | refine AE [11] [] Z Z (fun _=>AB (Ez Z Z)) ?_ | refine AI [11] Z Z (fun _=>AB (Ez Z Z)) ?_ | refine AE [11] [] Z Z (fun _=>AB (FC Z Z)) ?_ | refine AI [11] Z Z (fun _=>AB (FC Z Z)) ?_ | refine AE [11] [] Z Z (fun _=>AB (FA Z Z)) ?_ | refine AI [11] Z Z (fun _=>AB (FA Z Z)) ?_
  first | refine AE [12] [] Z Z (fun _=>AB (A5 rfl A2 Z Z Z)) ?_ | refine AI [12] Z Z (fun _=>AB (A5 rfl A2 Z Z Z)) ?_ | refine AE [12] [] Z Z (fun _=>AB (A7 rfl A2 Z Z Z)) ?_ | refine AI [12] Z Z (fun _=>AB (A7 rfl A2 Z Z Z)) ?_ | refine AE [12] [] Z Z (fun _=>AB (A8 rfl A2 Z Z Z)) ?_ | refine AI [12] Z Z (fun _=>AB (A8 rfl A2 Z Z Z)) ?_ | refine AE [12] [] Z Z (fun _=>AB (A6 rfl A2 Z Z Z)) ?_ | refine AI [12] Z Z (fun _=>AB (A6 rfl A2 Z Z Z)) ?_ | refine AE [12] [] Z Z (fun _=>AB (A4 rfl A2 Z Z Z)) ?_ | refine AI [12] Z Z (fun _=>AB (A4 rfl A2 Z Z Z)) ?_
  first | refine AE [13] [] Z Z (fun _=>AB (Fw (f:=40) Z Z (hr.cell) rfl Bn rfl)) ?_ | refine AI [13] Z Z (fun _=>AB (Fw (f:=40) Z Z (hr.cell) rfl Bn rfl)) ?_
  first | refine AE [1] [] Z Z (fun _=>AB (Ac Z Z)) ?_ | refine AI [1] Z Z (fun _=>AB (Ac Z Z)) ?_
  first | refine AE [14,15] [] Z Z (fun _=>AB (HR (f:=40) (eE E) (l.f) (none) _ Z Z (hr.top) rfl Bx E0 Dz Z Z)) ?_ | refine AI [14,15] Z Z (fun _=>AB (HR (f:=40) (eE E) (l.f) (none) _ Z Z (hr.top) rfl Bx E0 Dz Z Z)) ?_
  first | refine AE [5] [] Z Z (fun _=>AB (BX Z Z Ap rfl)) ?_ | refine AI [5] Z Z (fun _=>AB (BX Z Z Ap rfl)) ?_ | refine AE [5] [] Z Z (fun _=>AB (BY Z Z Ap Z Z Z)) ?_ | refine AI [5] Z Z (fun _=>AB (BY Z Z Ap Z Z Z)) ?_ | refine AE [5] [] Z Z (fun _=>AB (BZ Z Z (rfl) rfl Ap rfl)) ?_ | refine AI [5] Z Z (fun _=>AB (BZ Z Z (rfl) rfl Ap rfl)) ?_
  refine D2 7 Z Z Z (BQ 8 Z Z ?_);rw [eE_none fun hh=>hfR ((hl.ks _).1 hh)];refine J (PP (eK:=lkD) ⟨l.t,l.r⟩ Z Z FM Hk za4 rfl) (AF ⟨rfl,?_⟩);refine BQ 9 Z Z ?_
  first | refine J (ET Z Z) ?_ | refine J (EO Z Z) ?_
  refine AF ⟨rfl,?_⟩;refine Ei (JG rfl (rfl) (AG (AH (AD Z Z (AF (At ?_))))));have h9:unlW w l=(w,9):=unl9 fun hh=>by first | exact h19 ((hl.ls _ hm _).2 hh) | exact hfR (hw.lk l hh).1
  exact ⟨_,[40],_,As rfl,rfl,rfl,M,by rw [h9],rfl,by rw [h9];exact hrep⟩
theorem Q1 {M:MF} {b:Nat} {w:Ws} (h:B4 M b w) (hw:Bc w) (hK:w.K.length≤1000000):AU Try.prog 19 [.d (pD b 0)] [(40,[.multi M])] fun r H'=>r= .d (IC (groupsW w))∧H'=[(40,[.multi M])]:=by
 refine DA Try.func19 Z Z Try.ntmps19 Z Z Z fun F hF=>(AG (AH (AD Z Z (AF (AG (AG (AH (AC Z Z ?_))))))))
 first | refine J (EN Z Z Z) ?_ | refine J (EY Z Z Z) ?_ | refine J (Dy Z Z Z) ?_ | refine J (EP Try.underlying23 Z Z Z) ?_ | refine J (ES Try.underlying23 Z Z Z) ?_ | refine J (ER Try.underlying23 Z Z) ?_ | refine J (EX Try.underlying23 Z Z) ?_ | refine J (EW Try.underlying23 Z Z) ?_ | refine J (EQ Try.underlying23 Z Z Z) ?_ | refine J (EV Try.underlying23 Z Z) ?_
 refine AF (DX rfl (rfl) (Aj (AG (AH (AC Z Z (U (GR (G7 h hw hK) rfl [40] ⟨rfl,trivial⟩ Z Z Z Z Z Z Z Z Z) (AC Z Z ?_)))))))
 first | refine J (B9 Z Z Z) ?_ | refine J (B8 Z Z Z) ?_
 first | refine J (B9 Z Z Z) ?_ | refine J (B8 Z Z Z) ?_
 refine AD Z Z (AD Z Z (AF (AG (AH (AC Z Z (AD Z Z (AF (At ?_))))))));exact ⟨_,[40],_,As rfl,rfl,rfl,rfl,rfl⟩
theorem FX {M:MF} {b:Nat} {w:Ws} (h:B4 M b w) (hw:Bc w) (hK:w.K.length≤1000000) (a:St):AU Try.prog 23 [.d (pD b 0),.d (AW a)] [(40,[.multi M])] fun r H'=>r= .d (if a∈w.R then stsD (cloW w a false) else .sl (some true) [])∧H'=[(40,[.multi M])]:=by
 refine DA Try.func23 Z Z Try.ntmps23 Z Z Z fun F hF=>(AG (AH (AD Z Z ?_)));refine AF (AG (AH (AC Z Z (AC Z Z (U (GR (cloF_c h hw hK a) rfl [40] ⟨rfl,trivial⟩ Z Z Z Z Z Z Z Z Z) (AD Z Z (AF (At ?_))))))));exact ⟨_,[40],_,As rfl,rfl,rfl,rfl,rfl⟩
abbrev sa:St:=[97]
abbrev sb:St:=[98]
abbrev sc:St:=[99]
abbrev w1:Ws:=⟨[sa],[]⟩
abbrev w2:Ws:=⟨[sa,sb],[]⟩
abbrev w3:Ws:=⟨[sa,sb,sc],[]⟩
abbrev w4:Ws:=⟨[sa,sb,sc],[⟨sa,0,sb⟩]⟩
abbrev w5:Ws:=⟨[sa,sb,sc],[⟨sa,0,sb⟩,⟨sc,1,sa⟩]⟩
theorem Kr:addW ⟨[],[]⟩ sa=(w1,0):=by unfold addW;rw [if_neg (by decide),if_neg (by decide),if_neg (by decide)];rfl
theorem NK:addW w1 sb=(w2,0):=by unfold addW;rw [if_neg (by decide),if_neg (by decide),if_neg (by decide)];rfl
theorem QW:addW w2 sc=(w3,0):=by unfold addW;rw [if_neg (by decide),if_neg (by decide),if_neg (by decide)];rfl
theorem k_ok1:Bc w1:=by have:=(Cv.nil.add sa).ok;rw [Kr] at this;exact this
theorem k_ok2:Bc w2:=by have:=((Cv.nil.add sa).add sb).ok;rw [Kr,NK] at this;exact this
theorem k_ok3:Bc w3:=by have:=(((Cv.nil.add sa).add sb).add sc).ok;rw [Kr,NK,QW] at this;exact this
theorem QR:Bc w4:=k_ok3.with_ (l:=⟨sa,0,sb⟩) (by decide) (by decide) (by decide) (by decide) (by decide)
theorem Gi:Bc w5:=QR.with_ (l:=⟨sc,1,sa⟩) (by decide) (by decide) (by decide) (by decide) (by decide)
theorem k_con {x y:St}:Gs w5 x y↔x=y∨(x=sa∧y=sb)∨(x=sb∧y=sa):=by
 constructor
 ·intro h;refine BL.closed (p:=fun y=>x=y∨(x=sa∧y=sb)∨(x=sb∧y=sa)) (fun p q hp hq=>?_) (.inl rfl) h
  simp [J6] at hq
  rcases hq with ⟨rfl,rfl⟩ | ⟨rfl,rfl⟩
  ·rcases hp with rfl | ⟨rfl,e⟩ | ⟨rfl,e⟩
   ·exact .inr (.inl ⟨rfl,rfl⟩)
   ·exact absurd e (by decide)
   ·exact .inl rfl
  ·rcases hp with rfl | ⟨rfl,e⟩ | ⟨rfl,e⟩
   ·exact .inr (.inr ⟨rfl,rfl⟩)
   ·exact .inl rfl
   ·exact absurd e (by decide)
 ·rintro (rfl | ⟨rfl,rfl⟩ | ⟨rfl,rfl⟩)
  ·exact .refl
  ·exact BL.one (.inl (by simp))
  ·exact BL.one (.inr (by simp))
theorem k_acy4:acyW w4=true:=by
 rw [FZ QR];rintro ⟨Y,⟨x,hx⟩,h⟩;obtain ⟨_,l,hl,ht,_⟩:=h x hx;rw [List.mem_singleton.1 hl] at ht;exact absurd ht (by decide)
theorem k_acy5:acyW w5=true:=by
 rw [FZ Gi];rintro ⟨Y,⟨x,hx⟩,h⟩
 have key:∀x,Y x ->Gs w5 x sc∧Y sa:=fun x hx=>by
  obtain ⟨_,l,hl,ht,hc,_,hy⟩:=h x hx;rcases List.mem_cons.1 hl with rfl | hl
  ·exact absurd ht (by decide)
  ·rw [List.mem_singleton.1 hl] at hc hy;exact ⟨hc,hy⟩
 have h1:=(key _ (key x hx).2).1;rw [k_con] at h1;exact absurd h1 (by decide)
theorem k_lnk1:lnkW w3 ⟨sa,0,sb⟩=(w4,0):=by rw [NI (by decide) (by decide) (by decide) (by decide) (by decide)];exact if_pos k_acy4
theorem k_lnk2:lnkW w4 ⟨sc,1,sa⟩=(w5,0):=by rw [NI (by decide) (by decide) (by decide) (by decide) (by decide)];exact if_pos k_acy5
theorem Kq {x y:St}:Gs (BR w5 ⟨sb,1,sc⟩) x y↔Gs w5 x y:=by
 constructor<;>refine BL.mono fun p q hq=>?_
 ·simp [J6,BR] at hq⊢;exact hq
 ·simp [J6,BR] at hq⊢;exact hq
theorem k_lnk3:lnkW w5 ⟨sb,1,sc⟩=(w5,26):=by
 rw [NI (by decide) (by decide) (by decide) (by decide) (by decide)];refine if_neg fun h=>?_;rw [FZ (Gi.with_ (l:=⟨sb,1,sc⟩) (by decide) (by decide) (by decide) (by decide) (by decide))] at h;refine h ⟨fun x=>x∈w5.R,⟨sa,by decide⟩,fun x hx=>⟨hx,?_⟩⟩;have hx':x=sa∨x=sb∨x=sc:=by simpa using hx
 rcases hx' with rfl | rfl | rfl
 ·exact ⟨⟨sb,1,sc⟩,by simp [BR],rfl,Kq.2 (k_con.2 (by decide)),fun hh=>absurd (k_con.1 (Kq.1 hh)) (by decide),by decide⟩
 ·exact ⟨⟨sb,1,sc⟩,by simp [BR],rfl,.refl,fun hh=>absurd (k_con.1 (Kq.1 hh)) (by decide),by decide⟩
 ·exact ⟨⟨sc,1,sa⟩,by simp [BR],rfl,.refl,fun hh=>absurd (k_con.1 (Kq.1 hh)) (by decide),by decide⟩
theorem k_cls:cls w5 sa=[sa,sb]∧cls w5 sc=[sc]:=by
 unfold cls;simp only [k_con]
 constructor<;>rfl
open Classical in
theorem Kp:parts w5=[[sa,sb],[sc]]:=by
 unfold parts
 have h1:J9 w5 sa:=fun x hx hc=>by
  rcases k_con.1 hc with rfl | ⟨_,rfl⟩ | ⟨e,_⟩
  ·decide
  ·decide
  ·exact absurd e (by decide)
 have h2:¬J9 w5 sb:=fun h=>h sa (by decide) (k_con.2 (by decide)) (by decide)
 have h3:J9 w5 sc:=fun x hx hc=>by
  rcases k_con.1 hc with rfl | ⟨e,_⟩ | ⟨e,_⟩
  ·decide
  ·exact absurd e (by decide)
  ·exact absurd e (by decide)
 show List.map _ (List.filter _ [sa,sb,sc])=_;rw [List.filter_cons_of_pos (p:=fun a=>decide (J9 w5 a)) (by exact decide_eq_true h1),List.filter_cons_of_neg (p:=fun a=>decide (J9 w5 a)) (by show ¬decide (J9 w5 sb)=true;rw [decide_eq_true_eq];exact h2),List.filter_cons_of_pos (p:=fun a=>decide (J9 w5 a)) (by exact decide_eq_true h3),List.filter_nil,List.map_cons,List.map_cons,k_cls.1,k_cls.2];rfl
theorem Nm:idx w5 sa=0∧idx w5 sb=0∧idx w5 sc=1:=by
 unfold idx;rw [Kp];decide
theorem QU:depL w5 0=[]:=by
 refine List.eq_nil_iff_forall_not_mem.2 fun k hk=>?_;obtain ⟨_,l,hl,ht,hf,_⟩:=(Bz Gi).1 hk;rcases List.mem_cons.1 hl with rfl | hl
 ·exact absurd ht (by decide)
 ·rw [List.mem_singleton.1 hl] at hf;rw [show idx w5 sc=1 from Nm.2.2] at hf;cases hf
theorem QT:depL w5 1=[0]:=by
 refine IY (Gl _ _) (by simp) fun k=>?_;rw [Bz Gi]
 constructor
 ·rintro ⟨_,l,hl,ht,hf,hr⟩;rcases List.mem_cons.1 hl with rfl | hl
  ·exact absurd ht (by decide)
  ·rw [List.mem_singleton.1 hl] at hr;rw [show idx w5 sa=0 from Nm.1] at hr;simp [←hr]
 ·intro hk;rw [List.mem_singleton.1 hk];exact ⟨by decide,⟨sc,1,sa⟩,by decide,rfl,Nm.2.2,Nm.1⟩
theorem k_ord:ordW w5=some [0,1]:=by
 unfold ordW;rw [Kp];have h0:HG 2 (depL w5) []=some 0:=Ea (by decide) (CX.2 ⟨by simp,by rw [QU];simp⟩) (fun j hj=>by omega)
 have h1:HG 2 (depL w5) [0]=some 1:=Ea (by decide) (CX.2 ⟨by simp,by rw [QT];simp⟩) (fun j hj=>by
  have:j=0:=by omega
  subst this
  rw [Bool.eq_false_iff];intro h;exact (CX.1 h).1 (by simp))
 show G0 2 (depL w5) 2 []=_;simp only [G0,h0,List.nil_append,h1]
 rfl
theorem QS:groupsW w5=[⟨[sa,sb],[]⟩,⟨[sc],[0]⟩]:=by
 rw [(Ku k_ord).1];unfold grpS Ew;rw [Kp]
 simp [List.range_succ,QU,QT]
theorem QV:cloW w5 sc false=[sa,sb,sc]:=by
 refine Hv (Qn Gi _ _) Gi.srt fun x=>?_;rw [FO];refine ⟨fun h=>h.1,fun h=>⟨h,?_⟩⟩;have h1:BL (Stp w5 false) sc sa:=BL.one (.inr (show (⟨sc,1,sa⟩:Lw)∈w5.K by decide));have hx:x=sa∨x=sb∨x=sc:=by simpa using h
 rcases hx with rfl | rfl | rfl
 ·exact h1
 ·exact h1.tail (.inl (.inl (by decide)))
 ·exact .refl
theorem D0 {l:List St} {k:Nat} (h:k<l.length):(l.map AW)[k]?=some (AW (l.getD k [])):=by
 rw [List.getElem?_map,List.getElem?_eq_getElem h,List.getD_eq_getElem?_getD,List.getElem?_eq_getElem h];rfl
theorem take_eq {l l':List St} {k:Nat} (h1:k<l.length) (h2:k<l'.length) (h:l.take k=l'.take k) (e:l.getD k []=l'.getD k []):l.take (k+1)=l'.take (k+1):=by
 rw [List.take_succ_eq_append_getElem h1,List.take_succ_eq_append_getElem h2,h];rw [List.getD_eq_getElem?_getD,List.getElem?_eq_getElem h1,List.getD_eq_getElem?_getD,List.getElem?_eq_getElem h2] at e;exact congrArg (fun x=>l'.take k++ [x]) e
theorem Kh (l l':List St) (hl:l.length≤1000000):B3 Try.prog 20 [.d (stsD l),.d (stsD l')] (Am (decide (l=l'))):=by
 refine DA Try.func20 Z Z Try.ntmps20 Z Z Z fun F hF=>(AG (AH ?_));refine AD Z Z (AF (AG (AG (AH (AC Z Z (J (Cd rfl (List.length_map ..) Try.underlying32 rfl) (AC Z Z (J (Cd rfl (List.length_map ..) Try.underlying32 rfl) ?_))))))))
 first | refine J (IP Z Z Z) ?_ | refine J (iOq Z Z Z) ?_ | refine J (Ho Z Z Z) ?_ | refine J (IJ Try.underlying3 Z Z Z) ?_ | refine J (IL Try.underlying3 Z Z Z) ?_ | refine J (st_neqN Try.underlying3 Z Z) ?_ | refine J (IN Try.underlying3 Z Z) ?_ | refine J (st_neqMz Try.underlying3 Z Z) ?_ | refine J (IK Try.underlying3 Z Z Z) ?_ | refine J (st_neqFN Try.underlying3 Z Z) ?_
 refine AF ?_
 first | refine BC rfl (fun h10=>?_) (fun h10=>?_) | refine Ax rfl (fun h10=>?_) (fun h10=>?_)
 ·refine AG (AH (AD Z Z (AF (At ?_))));exact ⟨_,[],[],As rfl,rfl,rfl,by rw [decide_eq_false fun e=>h10 (by rw [e])],rfl⟩
 ·refine Aj (AG (AG ?_));have hll:l.length=l'.length:=Int.ofNat.inj (Classical.not_not.1 h10);refine AH (AD Z Z (AF (B7 (NZ (α:=Nat) (fun k=>⟨26,[(0,.d (stsD l)),(1,.d (stsD l')),(5,(.d (natD k)))],[]⟩) (fun k=>k≤l.length∧l.take k=l'.take k) (fun k=>l.length - k) (0) (⟨Nat.zero_le _,rfl⟩) (Fe ⟨rfl,rfl,rfl,trivial⟩) ?_))));rintro k ⟨hk,he⟩;refine AG (AG (AH (AC Z Z (AC Z Z (J (Cd rfl (List.length_map ..) Try.underlying32 rfl) ?_)))))
  first | refine J (El Z Z Z) ?_ | refine J (Em Z Z Z) ?_
  refine AF ?_
  first | refine BC rfl (fun h14=>?_) (fun h14=>?_) | refine Ax rfl (fun h14=>?_) (fun h14=>?_)
  ·refine Aj (AG (B7 (AG ?_)));have hkl:k<l.length:=Gt h14;have hkl':k<l'.length:=by omega
   refine F1 [[],[],[0,1],[0,1,2],[],[],[4,5],[4,5,6],[0,1,2,3,4,5,6,7]] mixed rfl (D1 ?_)
   first | refine AE [0] [] Z Z (fun _=>AB (Ac Z Z)) ?_ | refine AI [0] Z Z (fun _=>AB (Ac Z Z)) ?_
   first | refine AE [5] [] Z Z (fun _=>AB (Ac Z Z)) ?_ | refine AI [5] Z Z (fun _=>AB (Ac Z Z)) ?_
   first | refine AE [17,18] [] Z Z (fun _=>AB (BO (k) Z Z (rfl) (D0 hkl) Try.underlying32 rfl Bl rfl)) ?_ | refine AI [17,18] Z Z (fun _=>AB (BO (k) Z Z (rfl) (D0 hkl) Try.underlying32 rfl Bl rfl)) ?_ | refine AE [17,18] [] Z Z (fun _=>AB (BP (k) Z Z (rfl) (D0 hkl) rfl Try.underlying32 Bl rfl)) ?_ | refine AI [17,18] Z Z (fun _=>AB (BP (k) Z Z (rfl) (D0 hkl) rfl Try.underlying32 Bl rfl)) ?_
   first | refine AE [19] [] Z Z (fun _=>AB (AZ Z Z AQ rfl)) ?_ | refine AI [19] Z Z (fun _=>AB (AZ Z Z AQ rfl)) ?_ | refine AE [19] [] Z Z (fun _=>AB (AX Z Z Z AQ rfl)) ?_ | refine AI [19] Z Z (fun _=>AB (AX Z Z Z AQ rfl)) ?_ | refine AE [19] [] Z Z (fun _=>AB (AY Z Z (rfl) rfl AQ rfl)) ?_ | refine AI [19] Z Z (fun _=>AB (AY Z Z (rfl) rfl AQ rfl)) ?_
   first | refine AE [1] [] Z Z (fun _=>AB (Ac Z Z)) ?_ | refine AI [1] Z Z (fun _=>AB (Ac Z Z)) ?_
   first | refine AE [5] [] Z Z (fun _=>AB (Ac Z Z)) ?_ | refine AI [5] Z Z (fun _=>AB (Ac Z Z)) ?_
   first | refine AE [21,22] [] Z Z (fun _=>AB (BO (k) Z Z (rfl) (D0 hkl') Try.underlying32 rfl Bl rfl)) ?_ | refine AI [21,22] Z Z (fun _=>AB (BO (k) Z Z (rfl) (D0 hkl') Try.underlying32 rfl Bl rfl)) ?_ | refine AE [21,22] [] Z Z (fun _=>AB (BP (k) Z Z (rfl) (D0 hkl') rfl Try.underlying32 Bl rfl)) ?_ | refine AI [21,22] Z Z (fun _=>AB (BP (k) Z Z (rfl) (D0 hkl') rfl Try.underlying32 Bl rfl)) ?_
   first | refine AE [23] [] Z Z (fun _=>AB (AZ Z Z AQ rfl)) ?_ | refine AI [23] Z Z (fun _=>AB (AZ Z Z AQ rfl)) ?_ | refine AE [23] [] Z Z (fun _=>AB (AX Z Z Z AQ rfl)) ?_ | refine AI [23] Z Z (fun _=>AB (AX Z Z Z AQ rfl)) ?_ | refine AE [23] [] Z Z (fun _=>AB (AY Z Z (rfl) rfl AQ rfl)) ?_ | refine AI [23] Z Z (fun _=>AB (AY Z Z (rfl) rfl AQ rfl)) ?_
   refine D2 8 Z Z Z (BQ 9 Z Z ?_)
   first | refine J (IP Z Z Z) ?_ | refine J (iOq Z Z Z) ?_ | refine J (Ho Z Z Z) ?_ | refine J (IJ Try.underlying9 Z Z Z) ?_ | refine J (IL Try.underlying9 Z Z Z) ?_ | refine J (st_neqN Try.underlying9 Z Z) ?_ | refine J (IN Try.underlying9 Z Z) ?_ | refine J (st_neqMz Try.underlying9 Z Z) ?_ | refine J (IK Try.underlying9 Z Z Z) ?_ | refine J (st_neqFN Try.underlying9 Z Z) ?_
   refine AF ⟨rfl,?_⟩;refine Ei ?_
   first | refine BC rfl (fun h25=>?_) (fun h25=>?_) | refine Ax rfl (fun h25=>?_) (fun h25=>?_)
   ·refine AG (AH (AD Z Z (AF (At ?_))));exact ⟨_,[],[],As rfl,rfl,rfl,by rw [decide_eq_false fun e=>h25 (by rw [e])],rfl⟩
   ·refine Aj (AH (AC Z Z (J (C5 Z Z (IntWalk.i64_in _ (by omega)) rfl) (AD Z Z (AF ?_)))));exact ⟨k+1,⟨hkl,take_eq hkl (by omega) he (Classical.not_not.1 h25)⟩,by omega,⟨rfl,rfl,fun _ _=>Has.get (l:=[(0,_),(1,_),(5,_)]) ⟨rfl,rfl,rfl,trivial⟩⟩⟩
  ·refine D3 (AG ?_);have hke:k=l.length:=by have:=h14;omega
   refine AH (AD Z Z (AF (At ?_)));exact ⟨_,[],[],As rfl,rfl,rfl,by rw [decide_eq_true (by have h1:=he;rw [hke,List.take_length,hll,List.take_length] at h1;exact h1)],rfl⟩
theorem known_p:B3 Try.prog 10 [] (.raw (.bool true)):=by
 refine DA Try.func10 Z Z Try.ntmps10 Z Z Z fun F hF=>(AG (AH (AD Z Z (AF (AG (AH ?_))))));refine He (JF QC rfl [40] ⟨rfl,trivial⟩ Z Z Z Z (fun r H' ⟨b,M,e1,e2,_⟩=>by subst e1 e2;exact ⟨rfl,rfl,rfl⟩) rfl) rfl ?_;rintro _ ⟨r,H',⟨b,M0,e1,e2,h0⟩,rfl⟩;subst e1 e2;refine AD Z Z (AF (AG (AG (AH (AC Z Z ?_)))))
 first | refine J (EN Z Z Z) ?_ | refine J (EY Z Z Z) ?_ | refine J (Dy Z Z Z) ?_ | refine J (EP Try.underlying23 Z Z Z) ?_ | refine J (ES Try.underlying23 Z Z Z) ?_ | refine J (ER Try.underlying23 Z Z) ?_ | refine J (EX Try.underlying23 Z Z) ?_ | refine J (EW Try.underlying23 Z Z) ?_ | refine J (EQ Try.underlying23 Z Z Z) ?_ | refine J (EV Try.underlying23 Z Z) ?_
 refine AC Z Z (E9 6 rfl (rfl) (A3 Z Z Z (AC Z Z (A3 Z Z Z ?_))));refine He (JF (Nw h0 Cv.nil.ok sa) rfl [40] ⟨rfl,trivial⟩ Z Z Z Z (fun r H' ⟨M,e1,e2,_⟩=>by subst e1 e2;exact ⟨rfl,rfl,rfl⟩) rfl) rfl ?_;rintro _ ⟨r,H',⟨M1,e1,e2,h1⟩,rfl⟩;subst e1 e2;rw [Kr] at h1⊢;refine A3 Z Z Z ?_
 first | refine J (IP Z Z Z) ?_ | refine J (iOq Z Z Z) ?_ | refine J (Ho Z Z Z) ?_ | refine J (IJ Try.underlying25 Z Z Z) ?_ | refine J (IL Try.underlying25 Z Z Z) ?_ | refine J (st_neqN Try.underlying25 Z Z) ?_ | refine J (IN Try.underlying25 Z Z) ?_ | refine J (st_neqMz Try.underlying25 Z Z) ?_ | refine J (IK Try.underlying25 Z Z Z) ?_ | refine J (st_neqFN Try.underlying25 Z Z) ?_
 refine J (En Z Z Z Z) (AC Z Z (E9 11 rfl (rfl) (A3 Z Z Z (AC Z Z (A3 Z Z Z ?_)))));refine He (JF (Nw h1 k_ok1 sb) rfl [40] ⟨rfl,trivial⟩ Z Z Z Z (fun r H' ⟨M,e1,e2,_⟩=>by subst e1 e2;exact ⟨rfl,rfl,rfl⟩) rfl) rfl ?_;rintro _ ⟨r,H',⟨M2,e1,e2,h2⟩,rfl⟩;subst e1 e2;rw [NK] at h2⊢;refine A3 Z Z Z ?_
 first | refine J (IP Z Z Z) ?_ | refine J (iOq Z Z Z) ?_ | refine J (Ho Z Z Z) ?_ | refine J (IJ Try.underlying25 Z Z Z) ?_ | refine J (IL Try.underlying25 Z Z Z) ?_ | refine J (st_neqN Try.underlying25 Z Z) ?_ | refine J (IN Try.underlying25 Z Z) ?_ | refine J (st_neqMz Try.underlying25 Z Z) ?_ | refine J (IK Try.underlying25 Z Z Z) ?_ | refine J (st_neqFN Try.underlying25 Z Z) ?_
 refine J (En Z Z Z Z) (AC Z Z (E9 16 rfl (rfl) (A3 Z Z Z (AC Z Z (A3 Z Z Z ?_)))));refine He (JF (Nw h2 k_ok2 sc) rfl [40] ⟨rfl,trivial⟩ Z Z Z Z (fun r H' ⟨M,e1,e2,_⟩=>by subst e1 e2;exact ⟨rfl,rfl,rfl⟩) rfl) rfl ?_;rintro _ ⟨r,H',⟨M3,e1,e2,h3⟩,rfl⟩;subst e1 e2;rw [QW] at h3⊢;refine A3 Z Z Z ?_
 first | refine J (IP Z Z Z) ?_ | refine J (iOq Z Z Z) ?_ | refine J (Ho Z Z Z) ?_ | refine J (IJ Try.underlying25 Z Z Z) ?_ | refine J (IL Try.underlying25 Z Z Z) ?_ | refine J (st_neqN Try.underlying25 Z Z) ?_ | refine J (IN Try.underlying25 Z Z) ?_ | refine J (st_neqMz Try.underlying25 Z Z) ?_ | refine J (IK Try.underlying25 Z Z Z) ?_ | refine J (st_neqFN Try.underlying25 Z Z) ?_
 refine J (En Z Z Z Z) (AC Z Z (E9 21 rfl (rfl) (A3 Z Z Z (AC Z Z (A3 Z Z Z (J (Me LM P9 Z Z Z) (A3 Z Z Z ?_)))))));refine He (JF (Km h3 k_ok3 (by decide) ⟨sa,0,sb⟩) rfl [40] ⟨rfl,trivial⟩ Z Z Z Z (fun r H' ⟨M,e1,e2,_⟩=>by subst e1 e2;exact ⟨rfl,rfl,rfl⟩) rfl) rfl ?_;rintro _ ⟨r,H',⟨M4,e1,e2,h4⟩,rfl⟩;subst e1 e2;rw [k_lnk1] at h4⊢;refine A3 Z Z Z ?_
 first | refine J (IP Z Z Z) ?_ | refine J (iOq Z Z Z) ?_ | refine J (Ho Z Z Z) ?_ | refine J (IJ Try.underlying25 Z Z Z) ?_ | refine J (IL Try.underlying25 Z Z Z) ?_ | refine J (st_neqN Try.underlying25 Z Z) ?_ | refine J (IN Try.underlying25 Z Z) ?_ | refine J (st_neqMz Try.underlying25 Z Z) ?_ | refine J (IK Try.underlying25 Z Z Z) ?_ | refine J (st_neqFN Try.underlying25 Z Z) ?_
 refine J (En Z Z Z Z) (AC Z Z (E9 27 rfl (rfl) (A3 Z Z Z (AC Z Z (A3 Z Z Z (J (Me LM P9 Z Z Z) (A3 Z Z Z ?_)))))));refine He (JF (Km h4 QR (by decide) ⟨sc,1,sa⟩) rfl [40] ⟨rfl,trivial⟩ Z Z Z Z (fun r H' ⟨M,e1,e2,_⟩=>by subst e1 e2;exact ⟨rfl,rfl,rfl⟩) rfl) rfl ?_;rintro _ ⟨r,H',⟨M5,e1,e2,h5⟩,rfl⟩;subst e1 e2;rw [k_lnk2] at h5⊢;refine A3 Z Z Z ?_
 first | refine J (IP Z Z Z) ?_ | refine J (iOq Z Z Z) ?_ | refine J (Ho Z Z Z) ?_ | refine J (IJ Try.underlying25 Z Z Z) ?_ | refine J (IL Try.underlying25 Z Z Z) ?_ | refine J (st_neqN Try.underlying25 Z Z) ?_ | refine J (IN Try.underlying25 Z Z) ?_ | refine J (st_neqMz Try.underlying25 Z Z) ?_ | refine J (IK Try.underlying25 Z Z Z) ?_ | refine J (st_neqFN Try.underlying25 Z Z) ?_
 refine J (En Z Z Z Z) (AF ?_);refine DX rfl (rfl) (Aj (AG (AH (AC Z Z (U (GR (Q1 h5 Gi (by decide)) rfl [40] ⟨rfl,trivial⟩ Z Z Z Z Z Z Z Z Z) (AD Z Z (AF (AG ?_))))))));rw [QS];refine AH (AC Z Z ?_)
 first | refine J (JS rfl Try.underlying47 rfl) ?_ | refine J (Cd Z Z Try.underlying47 rfl) ?_ | refine J (JO rfl Try.underlying47 rfl) ?_ | refine J (JQ rfl Try.underlying47 rfl) ?_ | refine J (JN rfl Try.underlying47 rfl) ?_ | refine J (JE rfl Try.underlying47 rfl) ?_
 first | refine J (EN Z Z Z) ?_ | refine J (EY Z Z Z) ?_ | refine J (Dy Z Z Z) ?_ | refine J (EP Try.underlying3 Z Z Z) ?_ | refine J (ES Try.underlying3 Z Z Z) ?_ | refine J (ER Try.underlying3 Z Z) ?_ | refine J (EX Try.underlying3 Z Z) ?_ | refine J (EW Try.underlying3 Z Z) ?_ | refine J (EQ Try.underlying3 Z Z Z) ?_ | refine J (EV Try.underlying3 Z Z) ?_
 refine AC Z Z (HE 38 rfl (rfl) (A3 Z Z Z (AC Z Z (A3 Z Z Z ?_))))
 first | refine J (BO (0) Z Z (rfl) (rfl) Try.underlying47 rfl K0 rfl) ?_ | refine J (BP (0) Z Z (rfl) (rfl) rfl Try.underlying47 K0 rfl) ?_
 refine A3 Z Z Z ?_
 first | refine J (A5 rfl Ds Z Z Z) ?_ | refine J (A7 rfl Ds Z Z Z) ?_ | refine J (A8 rfl Ds Z Z Z) ?_ | refine J (A6 rfl Ds Z Z Z) ?_ | refine J (A4 rfl Ds Z Z Z) ?_
 refine A3 Z Z Z ?_
 first | refine J (AZ Z Z AN rfl) ?_ | refine J (AX Z Z Z AN rfl) ?_ | refine J (AY Z Z (rfl) rfl AN rfl) ?_
 refine A3 Z Z Z (U (Gp 12 Bf Z Z Z Z Z Z Z Z) ?_);refine Fa (emb:=AW) 43 12 [sa,sb] Z Z Z Z Z Z Z (A3 Z Z Z (J (DL (Kh [sa,sb] [sa,sb] (by decide)) Z Z) (J (GS Z Z Z Z) (AC Z Z (HE 46 rfl (rfl) (A3 Z Z Z (AC Z Z (A3 Z Z Z ?_))))))))
 first | refine J (BO (1) Z Z (rfl) (rfl) Try.underlying47 rfl K0 rfl) ?_ | refine J (BP (1) Z Z (rfl) (rfl) rfl Try.underlying47 K0 rfl) ?_
 refine A3 Z Z Z ?_
 first | refine J (A5 rfl Ds Z Z Z) ?_ | refine J (A7 rfl Ds Z Z Z) ?_ | refine J (A8 rfl Ds Z Z Z) ?_ | refine J (A6 rfl Ds Z Z Z) ?_ | refine J (A4 rfl Ds Z Z Z) ?_
 refine A3 Z Z Z ?_
 first | refine J (AZ Z Z AN rfl) ?_ | refine J (AX Z Z Z AN rfl) ?_ | refine J (AY Z Z (rfl) rfl AN rfl) ?_
 refine A3 Z Z Z (U (Gp 13 Bf Z Z Z Z Z Z Z Z) ?_);refine Fa (emb:=AW) 51 13 [sc] Z Z Z Z Z Z Z (A3 Z Z Z (J (DL (Kh [sc] [sc] (by decide)) Z Z) (J (GS Z Z Z Z) (AC Z Z (HE 54 rfl (rfl) (A3 Z Z Z (AC Z Z (A3 Z Z Z ?_))))))))
 first | refine J (BO (1) Z Z (rfl) (rfl) Try.underlying47 rfl K0 rfl) ?_ | refine J (BP (1) Z Z (rfl) (rfl) rfl Try.underlying47 K0 rfl) ?_
 refine A3 Z Z Z ?_
 first | refine J (A5 rfl GV Z Z Z) ?_ | refine J (A7 rfl GV Z Z Z) ?_ | refine J (A8 rfl GV Z Z Z) ?_ | refine J (A6 rfl GV Z Z Z) ?_ | refine J (A4 rfl GV Z Z Z) ?_
 refine A3 Z Z Z ?_
 first | refine J (AZ Z Z Ay rfl) ?_ | refine J (AX Z Z Z Ay rfl) ?_ | refine J (AY Z Z (rfl) rfl Ay rfl) ?_
 refine A3 Z Z Z ?_
 first | refine J (JS rfl Try.underlying49 rfl) ?_ | refine J (Cd Z Z Try.underlying49 rfl) ?_ | refine J (JO rfl Try.underlying49 rfl) ?_ | refine J (JQ rfl Try.underlying49 rfl) ?_ | refine J (JN rfl Try.underlying49 rfl) ?_ | refine J (JE rfl Try.underlying49 rfl) ?_
 refine A3 Z Z Z ?_
 first | refine J (EN Z Z Z) ?_ | refine J (EY Z Z Z) ?_ | refine J (Dy Z Z Z) ?_ | refine J (EP Try.underlying3 Z Z Z) ?_ | refine J (ES Try.underlying3 Z Z Z) ?_ | refine J (ER Try.underlying3 Z Z) ?_ | refine J (EX Try.underlying3 Z Z) ?_ | refine J (EW Try.underlying3 Z Z) ?_ | refine J (EQ Try.underlying3 Z Z Z) ?_ | refine J (EV Try.underlying3 Z Z) ?_
 refine J (GS Z Z Z Z) (AC Z Z (HE 62 rfl (rfl) (A3 Z Z Z (AC Z Z (A3 Z Z Z ?_)))))
 first | refine J (BO (1) Z Z (rfl) (rfl) Try.underlying47 rfl K0 rfl) ?_ | refine J (BP (1) Z Z (rfl) (rfl) rfl Try.underlying47 K0 rfl) ?_
 refine A3 Z Z Z ?_
 first | refine J (A5 rfl GV Z Z Z) ?_ | refine J (A7 rfl GV Z Z Z) ?_ | refine J (A8 rfl GV Z Z Z) ?_ | refine J (A6 rfl GV Z Z Z) ?_ | refine J (A4 rfl GV Z Z Z) ?_
 refine A3 Z Z Z ?_
 first | refine J (AZ Z Z Ay rfl) ?_ | refine J (AX Z Z Z Ay rfl) ?_ | refine J (AY Z Z (rfl) rfl Ay rfl) ?_
 refine A3 Z Z Z ?_
 first | refine J (BO (0) Z Z (rfl) (rfl) Try.underlying49 rfl Et rfl) ?_ | refine J (BP (0) Z Z (rfl) (rfl) rfl Try.underlying49 Et rfl) ?_
 refine A3 Z Z Z ?_
 first | refine J (AZ Z Z Bv rfl) ?_ | refine J (AX Z Z Z Bv rfl) ?_ | refine J (AY Z Z (rfl) rfl Bv rfl) ?_
 refine A3 Z Z Z ?_
 first | refine J (EN Z Z Z) ?_ | refine J (EY Z Z Z) ?_ | refine J (Dy Z Z Z) ?_ | refine J (EP Try.underlying3 Z Z Z) ?_ | refine J (ES Try.underlying3 Z Z Z) ?_ | refine J (ER Try.underlying3 Z Z) ?_ | refine J (EX Try.underlying3 Z Z) ?_ | refine J (EW Try.underlying3 Z Z) ?_ | refine J (EQ Try.underlying3 Z Z Z) ?_ | refine J (EV Try.underlying3 Z Z) ?_
 refine J (GS Z Z Z Z) (AC Z Z (HE 71 rfl (rfl) (A3 Z Z Z (AC Z Z (A3 Z Z Z (U (GR (FX h5 Gi (by decide) sc) rfl [40] ⟨rfl,trivial⟩ Z Z Z Z Z Z Z Z Z) ?_))))));rw [if_pos (show sc∈w5.R by decide),QV];refine A3 Z Z Z (U (Gp 14 Bf Z Z Z Z Z Z Z Z) (Fa (emb:=AW) 74 14 [sa,sb,sc] Z Z Z Z Z Z Z (A3 Z Z Z ?_)));refine J (DL (Kh [sa,sb,sc] [sa,sb,sc] (by decide)) Z Z) (J (GS Z Z Z Z) (AC Z Z (HE 77 rfl (rfl) (A3 Z Z Z (AC Z Z (A3 Z Z Z (J (Me LM P9 Z Z Z) (A3 Z Z Z ?_))))))));refine He (JF (Km h5 Gi (by decide) ⟨sb,1,sc⟩) rfl [40] ⟨rfl,trivial⟩ Z Z Z Z (fun r H' ⟨M,e1,e2,_⟩=>by subst e1 e2;exact ⟨rfl,rfl,rfl⟩) rfl) rfl ?_;rintro _ ⟨r,H',⟨M6,e1,e2,h6⟩,rfl⟩;subst e1 e2;rw [k_lnk3] at h6⊢;refine A3 Z Z Z ?_
 first | refine J (EN Z Z Z) ?_ | refine J (EY Z Z Z) ?_ | refine J (Dy Z Z Z) ?_ | refine J (EP Try.underlying25 Z Z Z) ?_ | refine J (ES Try.underlying25 Z Z Z) ?_ | refine J (ER Try.underlying25 Z Z) ?_ | refine J (EX Try.underlying25 Z Z) ?_ | refine J (EW Try.underlying25 Z Z) ?_ | refine J (EQ Try.underlying25 Z Z Z) ?_ | refine J (EV Try.underlying25 Z Z) ?_
 refine J (GS Z Z Z Z) (AD Z Z (AF (At ?_)));exact ⟨_,[],[],As rfl,rfl,rfl,by simp,rfl⟩
section
variable {P:Program} {F:Fr} {s:AS} {d:Nat} {ty T T' E K:TypeId} {pos:String} {aft:Array Edge} {g:Option (Nat×Bool)} {x y:Operand}
end
structure JI where
 k:Int
 x:St
 l:Lk
abbrev opD (o:JI):D:= .agg [Bh o.k,AW o.x,Bh o.l.t,AW o.l.r]
section
variable {H:Type} {enc:TypeId×Value ->H} {P:Program} {w:World}
theorem C2.asC {α β:Type} {t:TypeId} {k:Nat} {emb:α ->D} {Q:α ->Prop} {emb':β ->D} {Q':β ->Prop} (h:C2 enc P w t k emb Q) (f:α ->β) (he:∀a,Q a ->(emb a).cells=(emb' (f a)).cells) (hq:∀a,Q a ->Q' (f a)):C2 enc P w t k emb' Q':=fun fuel cs x hx hlt hw=>by
 obtain ⟨a,h1,h2,h3⟩:=h fuel cs x hx hlt hw;exact ⟨f a,hq a h1,by rw [←he a h1];exact h2,by unfold J7 at h3⊢;rw [←he a h1];exact h3⟩
theorem oLk:C2 enc Try.prog w 39 2 lkD (fun _=>True):=
 (Pf Try.underlying39 (by kernel_rfl) (Id rfl (by kernel_rfl) (Nh Try.underlying3) (Id rfl (by kernel_rfl) (Ic Try.underlying9) Pg))).asQ (fun a=>(⟨a.1,a.2.1⟩:Lk)) (fun _ _=>rfl) (fun _ _=>trivial)
theorem oOp:C2 enc Try.prog w 41 4 opD (fun _=>True):=
 (Pf Try.underlying41 (by kernel_rfl) (Id rfl (by kernel_rfl) (Nh Try.underlying3) (Id rfl (by kernel_rfl) (Ic Try.underlying9) (Id rfl (by kernel_rfl) oLk Pg)))).asC (fun a=>(⟨a.1,a.2.1,a.2.2.1⟩:JI)) (fun _ _=>rfl) (fun _ _=>trivial)
end
theorem pt69:De Try.prog 69=true:=by kernel_rfl
theorem QF {M:MF} {r:Nat} {bs:Option (List Nat×Nat)} {es:List (D×D)} (hr:M r=some (.map bs es)):AU Try.prog 42 [.d (mD r)] [(40,[.multi M])] fun x H'=>x= .map 6 0∧H'=[(40,[.multi M]),(6,[.map none es])]:=by
 refine DA Try.func42 Z Z Try.ntmps42 Z Z Z fun F hF=>(AG (AH (AD Z Z (AF (AG (AG (AH (AC Z Z ?_))))))))
 first | refine J (EN Z Z Z) ?_ | refine J (EY Z Z Z) ?_ | refine J (Dy Z Z Z) ?_ | refine J (EP Try.underlying69 Z Z Z) ?_ | refine J (ES Try.underlying69 Z Z Z) ?_ | refine J (ER Try.underlying69 Z Z) ?_ | refine J (EX Try.underlying69 Z Z) ?_ | refine J (EW Try.underlying69 Z Z) ?_ | refine J (EQ Try.underlying69 Z Z Z) ?_ | refine J (EV Try.underlying69 Z Z) ?_
 refine AF (DX rfl (rfl) (Aj (AG (AH (AC Z Z ?_)))))
 first | refine J (K7 pt69 Z Z) ?_ | refine J (JV pt69 Z Z) ?_
 refine o_clone 6 (f:=40) (M:=M) (bs:=bs) (es:=es) (r:=r) Try.func66 Z Z (by kernel_rfl) (by kernel_rfl) Z Z hr Z Z Z pt69 Z Z ?_;skip;refine AD Z Z (AF (At ?_));exact ⟨_,[40,6],_,As rfl,rfl,rfl,rfl,rfl⟩
theorem AU.byX (l:List (Nat×Nat)) {P:Program} {f:FuncId} {args:List AV} {H:Hp} {R:AV ->Hp ->Prop} (h:AU P f args H R) (hl:JB l=true):
  AU P f (Fl (BS l) args) (Cx (BS l) H) fun r H'=>∃r0 H0,R r0 H0∧r=r0.ren (BS l)∧H'=Cx (BS l) H0:=
 (h.ren (CM hl)).mono fun r H' h=>⟨_,_,h,by rw [AV.ren_ren (CM hl)],by rw [EH (CM hl)]⟩
theorem new41_c:AU Try.prog 11 [] [] fun r H'=>∃b M,r= .d (pD b 0)∧H'=[(41,[.multi M])]∧B4 M b ⟨[],[]⟩:=
 (QC.byX [(40,41)] rfl).mono fun r H' ⟨r0,H0,⟨b,M,e1,e2,h⟩,e3,e4⟩=>⟨b,M,by rw [e3,e1];rfl,by rw [e4,e2];rfl,h⟩
def lkO (lk:Nat ->List Lk):Option Nat ->List Lk
 | none=> []
 | some h=>lk h
def kL (lk:Nat ->List Lk) (e:St×Option Nat):St×List Lk:=(e.1,lkO lk e.2)
def kE (lk:Nat ->List Lk) (E:List (St×Nat)):List (St×List Lk):=(eE E).map (kL lk)
theorem Kt (lk:Nat ->List Lk) (E:List (St×Nat)):(kE lk E).map Prod.fst=E.map Prod.fst:=by unfold kE;rw [List.map_map,←GO];rfl
theorem QX {lk:Nat ->List Lk} {E:List (St×Nat)} {x:St} {L:List Lk}:(x,L)∈kE lk E↔∃p∈E,p.1=x∧lk p.2=L:=by
 unfold kE;rw [List.mem_map]
 constructor
 ·rintro ⟨e,he,h⟩;obtain ⟨p,hp,rfl⟩:=List.mem_map.1 he;injection h with h1 h2
  exact ⟨p,hp,h1,h2⟩
 ·rintro ⟨p,hp,h1,h2⟩;exact ⟨(p.1,some p.2),List.mem_map.2 ⟨p,hp,rfl⟩,by rw [←h1,←h2];rfl⟩
theorem kE_snoc {lk:Nat ->List Lk} {E:List (St×Nat)} {x:St} {h:Nat} {L:List Lk} (hn:∀p∈E,p.2≠h):kE (Al lk h L) (E++ [(x,h)])=kE lk E++ [(x,L)]:=by
 unfold kE;rw [show eE (E++ [(x,h)])=eE E++ [(x,some h)] from List.map_append ..,List.map_append];refine congr (congrArg _ ?_) ?_
 ·rw [List.map_map,List.map_map];refine List.map_congr_left fun p hp=>?_;show (p.1,Al lk h L p.2)=(p.1,lk p.2)
  rw [EU (hn p hp)]
 ·show [(x,Al lk h L h)]=_;rw [Dl]
theorem LR.put {N:MF} {b m:Nat} {E:List (St×Nat)} {lk:Nat ->List Lk} (h:LR N b m E lk) {x:St} {h2:Nat} {L:List Lk} (hb:N h2=none):LR (BD (BD N h2 (.map none (CI L))) m (.map none (CS (E++ [(x,h2)])))) b m (E++ [(x,h2)]) (Al lk h2 L):=by
 have h1:b≠h2:=fun e=>by have:=h.cell;rw [e,hb] at this;cases this
 have h3:b≠m:=fun e=>by have:=h.cell;rw [e,h.top] at this;cases this
 have h4:h2≠m:=fun e=>by have:=h.top;rw [←e,hb] at this;cases this
 have h5:∀p∈E,p.2≠h2:=fun p hp e=>by have:=h.sub p hp;rw [e,hb] at this;cases this
 have h6:∀p∈E,p.2≠m:=fun p hp e=>h.ne (by rw [←e];exact List.mem_map_of_mem hp);refine ⟨by rw [Dk h3,Dk h1];exact h.cell,DW _ _ _,fun p hp=>?_,?_,?_⟩
 ·rcases List.mem_append.1 hp with hp | hp
  ·rw [Dk (h6 p hp),Dk (h5 p hp),EU (h5 p hp)];exact h.sub p hp
  ·rw [List.mem_singleton.1 hp,Dk h4,DW,Dl]
 ·rw [List.map_append,List.nodup_append];refine ⟨h.nd,by simp,fun a ha c hc e=>?_⟩;obtain ⟨p,hp,rfl⟩:=List.mem_map.1 ha;exact h5 p hp (by rw [e];simpa using hc)
 ·rw [List.map_append,List.mem_append];rintro (hh | hh)
  ·exact h.ne hh
  ·exact h4 (List.mem_singleton.1 hh).symm
theorem LW.kE {E E1:List (St×Nat)} {lk lk1:Nat ->List Lk} {w:Ws} (h:LW E lk w) (hp:(kE lk1 E1).Perm (kE lk E)):LW E1 lk1 w:=by
 have hf:=hp.map Prod.fst;rw [Kt,Kt] at hf;have key:∀p∈E1,∃q∈E,q.1=p.1∧lk q.2=lk1 p.2:=fun p hp1=>QX.1 (hp.mem_iff.1 (QX.2 ⟨p,hp1,rfl,rfl⟩));refine ⟨hf.nodup_iff.2 h.kd,fun x=>hf.mem_iff.trans (h.ks x),fun p hp1=>?_,fun p hp1 l=>?_⟩
 ·obtain ⟨q,hq,_,e⟩:=key p hp1;rw [←e];exact h.ld q hq
 ·obtain ⟨q,hq,e1,e⟩:=key p hp1;rw [←e,←e1];exact h.ls q hq l
theorem B4.empty {N:MF} {b:Nat} (h:B4 N b ⟨[],[]⟩):∃m lk,LR N b m [] lk:=by
 obtain ⟨m,E,lk,hr,hl⟩:=h
 have hE:E=[]:=by
  cases E with
  | nil=>rfl
  | cons p r=>exact absurd ((hl.ks p.1).1 (by simp)) (by simp)
 subst hE;exact ⟨m,lk,hr⟩
theorem Nu {M:MF} {b:Nat} {w:Ws} (h:B4 M b w):AU Try.prog 25 [.d (pD b 0)] [(40,[.multi M])] fun r H'=>∃b1 M1,r= .d (pD b1 0)∧H'=[(40,[.multi M]),(41,[.multi M1])]∧B4 M1 b1 w:=by
 obtain ⟨m,E,lk,hr,hl⟩:=h;have hbm:b≠m:=fun e=>by subst e;have:=hr.cell;rw [hr.top] at this;cases this
 have hpm:∀p∈E,p.2≠m:=fun p hp e=>hr.ne (by rw [←e];exact List.mem_map_of_mem hp);refine DA Try.func25 Z Z Try.ntmps25 Z Z Z fun F hF=>(AG (AH (AD Z Z (AF (AG (AG (AH (AC Z Z ?_))))))))
 first | refine J (EN Z Z Z) ?_ | refine J (EY Z Z Z) ?_ | refine J (Dy Z Z Z) ?_ | refine J (EP Try.underlying23 Z Z Z) ?_ | refine J (ES Try.underlying23 Z Z Z) ?_ | refine J (ER Try.underlying23 Z Z) ?_ | refine J (EX Try.underlying23 Z Z) ?_ | refine J (EW Try.underlying23 Z Z) ?_ | refine J (EQ Try.underlying23 Z Z Z) ?_ | refine J (EV Try.underlying23 Z Z) ?_
 refine AF (DX rfl (rfl) (Aj (AG (AH ?_))));refine He (JF new41_c rfl [41] ⟨rfl,trivial⟩ Z Z Z Z (fun r H' ⟨b,M,e1,e2,_⟩=>by subst e1 e2;exact ⟨rfl,rfl,rfl⟩) rfl) rfl ?_;rintro _ ⟨r,H',⟨b1,N0,e1,e2,hn⟩,rfl⟩;subst e1 e2;refine AD Z Z (AF (AG (AG ?_)));obtain ⟨m1,lk0,hr0⟩:=hn.empty;refine Zcu 40 m rfl hr.top (fun _ _=>rfl) fun B c hB hBn=>?_
 obtain ⟨M1,hM1⟩:∃M1,BD M m (.map (some (B,c)) (CS E))=M1:=⟨_,rfl⟩
 rw [hM1];have h1b:M1 b=some (.cells 68 [mD m]):=by rw [←hM1,Dk hbm];exact hr.cell
 have h1m:M1 m=some (.map (some (B,c)) (CS E)):=by rw [←hM1,DW]
 have h1s:∀p∈E,M1 p.2=some (.map none (CI (lk p.2))):=fun p hp=>by rw [←hM1,Dk (hpm p hp)];exact hr.sub p hp
 refine AH (AC Z Z ?_)
 first | refine J (FB Z Z) ?_ | refine J (Ez Z Z) ?_ | refine J (FC Z Z) ?_ | refine J (FA Z Z) ?_
 first | refine J (A5 rfl A2 Z Z Z) ?_ | refine J (A7 rfl A2 Z Z Z) ?_ | refine J (A8 rfl A2 Z Z Z) ?_ | refine J (A6 rfl A2 Z Z Z) ?_ | refine J (A4 rfl A2 Z Z Z) ?_
 refine J (Fw (f:=40) Z Z (h1b) rfl Bn rfl) (U (Zcq 1 (f:=40) Z Z (h1m) rfl Bx Z Z Z Z) (AF (B7 (Ex (α:=List Nat×List (St×Nat)×(Nat ->List Lk)×MF) (fun q=>⟨27,[(3,(.d (pD b1 0))),(13,(.ptr 1 0 0))],[(1,[.iter 40 m c q.1]),(40,[.multi M1]),(41,[.multi q.2.2.2])]⟩) (fun q=>LR q.2.2.2 b1 m1 q.2.1 q.2.2.1∧(kE q.2.2.1 q.2.1++(B6 (eE E) B q.1).map (kL lk)).Perm (kE lk E)) (fun q=>(B6 (eE E) B q.1).length) (([],[],lk0,N0)) (⟨hr0,by show ([]++(B6 (eE E) B []).map _).Perm _;rw [Zct (by simpa [Aa] using hB)];exact List.Perm.refl _⟩) (BB hF [1,40,41] Z Z ⟨rfl,rfl,trivial⟩) ?_))));rintro ⟨seen,E1,lk1,N⟩ ⟨hr1,hP⟩;dsimp only at hr1 hP⊢;refine AG (AH (DC (eE E) Z Z Z (h1m) rfl (fun hl14=>?_) (fun j14 b14 k14 v14 hm14 hb14 hB14 hp14=>⟨_,rfl,?_⟩)))
 ·rw [hl14] at hP;refine CY 40 m rfl h1m rfl ?_;rw [show BD M1 m (.map none (CS E))=M by rw [←hM1,Mg];exact CF hr.top]
  first | refine J (B9 Z Z Z) ?_ | refine J (B8 Z Z Z) ?_
  refine AF ?_;refine AG (DX Z Z (D3 (AG (AH (AC Z Z (AD Z Z (AF (At ?_))))))));exact ⟨_,[40,41],_,As rfl,rfl,rfl,b1,N,rfl,rfl,m1,E1,lk1,hr1,hl.kE (by simpa using hP)⟩
 ·first | refine J (B9 Z Z Z) ?_ | refine J (B8 Z Z Z) ?_
  refine AF (AG (JG Z Z (Aj (B7 (AG ?_)))));obtain ⟨hd,hpe,hve⟩:=FP hm14;subst hve
  have hkn:k14∉E1.map Prod.fst:=fun hh=>by
   have h1:=(hP.map Prod.fst).nodup_iff.2 (by rw [Kt];exact hl.kd);rw [List.map_append,Kt] at h1;exact (List.nodup_append.1 h1).2.2 _ hh _ (List.mem_map.2 ⟨(k14,lk hd),(hp14.map (kL lk)).mem_iff.2 (by simp [kL,lkO]),rfl⟩) rfl
  refine AH (J (Zcs (eE E) j14 b14 Z Z Z (h1m) hm14 hb14 rfl) ?_)
  first | refine J (B9 Z Z Z) ?_ | refine J (B8 Z Z Z) ?_
  first | refine J (B9 Z Z Z) ?_ | refine J (B8 Z Z Z) ?_
  refine AD Z Z (AD Z Z (AF (Ny 1 40 95 96 rfl h1m Z Z Z Z Z Z Z Z Z Z (F1 [[],[0],[0,1],[0,1,2],[],[],[5],[0,1,2,3,4,5,6]] mixed rfl (D1 ?_)))))
  first | refine AE [3] [] Z Z (fun _=>AB (Ac Z Z)) ?_ | refine AI [3] Z Z (fun _=>AB (Ac Z Z)) ?_
  first | refine AE [19] [] Z Z (fun _=>AB (FB Z Z)) ?_ | refine AI [19] Z Z (fun _=>AB (FB Z Z)) ?_ | refine AE [19] [] Z Z (fun _=>AB (Ez Z Z)) ?_ | refine AI [19] Z Z (fun _=>AB (Ez Z Z)) ?_ | refine AE [19] [] Z Z (fun _=>AB (FC Z Z)) ?_ | refine AI [19] Z Z (fun _=>AB (FC Z Z)) ?_ | refine AE [19] [] Z Z (fun _=>AB (FA Z Z)) ?_ | refine AI [19] Z Z (fun _=>AB (FA Z Z)) ?_
  first | refine AE [20] [] Z Z (fun _=>AB (A5 rfl A2 Z Z Z)) ?_ | refine AI [20] Z Z (fun _=>AB (A5 rfl A2 Z Z Z)) ?_ | refine AE [20] [] Z Z (fun _=>AB (A7 rfl A2 Z Z Z)) ?_ | refine AI [20] Z Z (fun _=>AB (A7 rfl A2 Z Z Z)) ?_ | refine AE [20] [] Z Z (fun _=>AB (A8 rfl A2 Z Z Z)) ?_ | refine AI [20] Z Z (fun _=>AB (A8 rfl A2 Z Z Z)) ?_ | refine AE [20] [] Z Z (fun _=>AB (A6 rfl A2 Z Z Z)) ?_ | refine AI [20] Z Z (fun _=>AB (A6 rfl A2 Z Z Z)) ?_ | refine AE [20] [] Z Z (fun _=>AB (A4 rfl A2 Z Z Z)) ?_ | refine AI [20] Z Z (fun _=>AB (A4 rfl A2 Z Z Z)) ?_
  refine AE [21] [41] Z Z (fun _=>AB (Fw (f:=41) Z Z hr1.cell rfl Bn rfl)) ?_
  first | refine AE [4] [] Z Z (fun _=>AB (Ac Z Z)) ?_ | refine AI [4] Z Z (fun _=>AB (Ac Z Z)) ?_
  first | refine AE [5] [] Z Z (fun _=>AB (Ac Z Z)) ?_ | refine AI [5] Z Z (fun _=>AB (Ac Z Z)) ?_
  refine Bt [24] [40,6] [(25,_)] Z Z (fun _=>Hf (GR (QF (h1s _ hpe)) rfl [40,6] ⟨rfl,rfl,trivial⟩ Z Z Z Z Z Z Z Z Z)) (.inr ⟨25,_,rfl,rfl,rfl,rfl,rfl⟩) Z Z Z Z Z (D2 7 Z Z Z (BQ 8 Z Z (HF 25 6 41 hF Z Z Z Z Z Z Z Z Z Z (fun _=>rfl) fun b2 hb2=>?_)));have h5:∀p∈E1,p.2≠b2:=fun p hp e=>by have:=hr1.sub p hp;rw [e,hb2] at this;cases this
  refine U (FE (f:=41) (eE E1) k14 (some b2) Z Z (by rw [Dk (fun e=>by have:=hr1.top;rw [e,hb2] at this;cases this)];exact hr1.top) rfl Bx E0 Z Z) ?_;rw [Q7 hkn];refine HD 1 40 95 96 rfl h1m Z Z Z Z Z Z Z (AF ⟨rfl,?_⟩);refine Ei ?_;exact ⟨(seen++ [b14],E1++ [(k14,b2)],Al lk1 b2 (lk hd),_),⟨hr1.put hb2,by show (kE _ _++_).Perm _;rw [kE_snoc h5];exact DK hP (y:=[(k14,lk hd)]) (by simpa [kL,lkO] using hp14.map (kL lk))⟩,by show (B6 (eE E) B (seen++ [b14])).length<(B6 (eE E) B seen).length;rw [hp14.length_eq];exact Nat.lt_succ_self _,BB hF [1,40,41] rfl (rfl) ⟨rfl,rfl,trivial⟩⟩
theorem lkM_has (l:List Lk) (a:Lk):Gd (Ci l) a=decide (a∈l):=by
 rw [Bool.eq_iff_iff,By,Nl,decide_eq_true_eq]
theorem lkM_val {l:List Lk} {k:Lk} {v:Bool} {j:Nat} (h:(Ci l)[j]?=some (k,v)):v=true:=by
 obtain ⟨x,_,e⟩:=List.mem_map.1 (List.mem_of_getElem? h);injection e with _ e
 exact e.symm
def Fq (l1 l2:List Lk):Prop:=l1.length=l2.length∧∀x∈l1,x∈l2
noncomputable instance (l1 l2:List Lk):Decidable (Fq l1 l2):=Classical.propDecidable _
theorem QD {M N:MF} {h1 h2:Nat} {l1 l2:List Lk} (hM:M h1=some (.map none (CI l1))) (hN:N h2=some (.map none (CI l2))):AU Try.prog 45 [.d (mD h1),.d (mD h2)] [(40,[.multi M]),(41,[.multi N])] fun r H'=>r= .d (Am (decide (Fq l1 l2)))∧H'=[(40,[.multi M]),(41,[.multi N])]:=by
 refine DA Try.func45 Z Z Try.ntmps45 Z Z Z fun F hF=>(AG (AH ?_));refine AD Z Z (AF (AG (AG (AH (AC Z Z (J (FG (f:=40) (n:=l1.length) Z Z hM (by simp [Aa]) FM rfl) (AC Z Z (J (FG (f:=41) (n:=l2.length) Z Z hN (by simp [Aa]) FM rfl) ?_))))))))
 first | refine J (IP Z Z Z) ?_ | refine J (iOq Z Z Z) ?_ | refine J (Ho Z Z Z) ?_ | refine J (IJ Try.underlying3 Z Z Z) ?_ | refine J (IL Try.underlying3 Z Z Z) ?_ | refine J (st_neqN Try.underlying3 Z Z) ?_ | refine J (IN Try.underlying3 Z Z) ?_ | refine J (st_neqMz Try.underlying3 Z Z) ?_ | refine J (IK Try.underlying3 Z Z Z) ?_ | refine J (st_neqFN Try.underlying3 Z Z) ?_
 refine AF ?_
 first | refine BC rfl (fun h13=>?_) (fun h13=>?_) | refine Ax rfl (fun h13=>?_) (fun h13=>?_)
 ·refine AG (AH (AD Z Z (AF (At ?_))));exact ⟨_,[40,41],_,As rfl,rfl,rfl,by rw [decide_eq_false fun hh:Fq l1 l2=>h13 (congrArg Int.ofNat hh.1)],rfl⟩
 ·refine Aj (AG (AG ?_));have hll:l1.length=l2.length:=Int.ofNat.inj (Classical.not_not.1 h13);refine Zcu 40 h1 rfl hM (fun _ _=>rfl) fun B c hB hBn=>?_
  obtain ⟨M1,hM1⟩:∃M1,BD M h1 (.map (some (B,c)) (CI l1))=M1:=⟨_,rfl⟩
  rw [hM1];have h1m:M1 h1=some (.map (some (B,c)) (CI l1)):=by rw [←hM1,DW]
  refine AH (AC Z Z (U (Zcq 1 (f:=40) Z Z (h1m) rfl FM Z Z Z Z) (AF (B7 (Ex (α:=List Nat×List Lk) (fun q=>⟨34,[(1,.d (mD h2)),(15,(.ptr 1 0 0))],[(1,[.iter 40 h1 c q.1]),(40,[.multi M1]),(41,[.multi N])]⟩) (fun q=>(q.2++(B6 (Ci l1) B q.1).map Prod.fst).Perm l1∧∀x∈q.2,x∈l2) (fun q=>(B6 (Ci l1) B q.1).length) (([],[])) (⟨by show ([]++(B6 (Ci l1) B []).map Prod.fst).Perm _;rw [Zct (by simpa [Aa] using hB),Nl];exact List.Perm.refl _,fun x hx=>by cases hx⟩) (BB hF [1,40,41] Z Z ⟨rfl,rfl,trivial⟩) ?_)))));rintro ⟨seen,acc⟩ ⟨hP,hA⟩;dsimp only at hP hA⊢;refine AG (AH (DC (Ci l1) Z Z Z (h1m) rfl (fun hl16=>?_) (fun j16 b16 k16 v16 hm16 hb16 hB16 hp16=>⟨_,rfl,?_⟩)))
  ·rw [hl16] at hP;refine CY 40 h1 rfl h1m rfl ?_;rw [show BD M1 h1 (.map none (CI l1))=M by rw [←hM1,Mg];exact CF hM]
   first | refine J (B9 Z Z Z) ?_ | refine J (B8 Z Z Z) ?_
   refine AF (AG (DX Z Z (D3 (AG ?_))))
   have hs:Fq l1 l2:=⟨hll,fun x hx=>hA x ((show acc.Perm l1 by simpa using hP).mem_iff.2 hx)⟩
   refine AH (AD Z Z (AF (At ?_)));exact ⟨_,[40,41],_,As rfl,rfl,rfl,by rw [decide_eq_true hs],rfl⟩
  ·first | refine J (B9 Z Z Z) ?_ | refine J (B8 Z Z Z) ?_
   refine AF (AG (JG Z Z (Aj (B7 (AG ?_)))));have hvt:=lkM_val hm16;subst hvt;have hk1:k16∈l1:=MK hm16;refine AH (J (Zcs (Ci l1) j16 b16 Z Z Z (h1m) hm16 hb16 rfl) ?_)
   first | refine J (B9 Z Z Z) ?_ | refine J (B8 Z Z Z) ?_
   first | refine J (B9 Z Z Z) ?_ | refine J (B8 Z Z Z) ?_
   refine U (HQ 5 LM Z Z Z Z) (U (Bq Z Z Z Z Z Z Z sz39) (AD Z Z (AF (AG (AH (AC Z Z ?_))))))
   first | refine J (BX Z Z Ap rfl) ?_ | refine J (BY Z Z Ap Z Z Z) ?_ | refine J (BZ Z Z (rfl) rfl Ap rfl) ?_
   refine J (Fz (f:=41) (Ci l2) k16 false Z Z hN rfl FM Hk za4 rfl) ?_;rw [Hz,lkM_has];refine AC Z Z ?_
   first | refine J (B9 Z Z Z) ?_ | refine J (B8 Z Z Z) ?_
   first | refine J (B9 Z Z Z) ?_ | refine J (B8 Z Z Z) ?_
   refine AD Z Z (AD Z Z (AF (AG (AH (AC Z Z ?_)))))
   first | refine J (ET Z Z) ?_ | refine J (EO Z Z) ?_
   refine AC Z Z ?_
   first | refine Hq 29 rfl (fun h29=>?_) (fun h29=>?_) | refine HP 29 rfl (fun h29=>?_) (fun h29=>?_)
   ·refine Aw Z Z Z Z (Aw Z Z Z Z (Aw Z Z Z Z (J (GS Z Z Z Z) (AF (JG Z Z (AG (IH 40 h1 rfl h1m rfl ?_)))))));rw [show BD M1 h1 (.map none (CI l1))=M by rw [←hM1,Mg];exact CF hM];refine AH (AD Z Z (AF (At ?_)));exact ⟨_,[40,41],_,As rfl,rfl,rfl,by rw [decide_eq_false fun hh:Fq l1 l2=>by first | exact h29 (hh.2 _ hk1) | exact h33 (by simp [hh.2 _ hk1])],rfl⟩
   ·refine A3 Z Z Z (AC Z Z (A3 Z Z Z (AC Z Z (A3 Z Z Z ?_))))
    first | refine J (IP Z Z Z) ?_ | refine J (iOq Z Z Z) ?_ | refine J (Ho Z Z Z) ?_ | refine J (IJ Try.underlying4 Z Z Z) ?_ | refine J (IL Try.underlying4 Z Z Z) ?_ | refine J (st_neqN Try.underlying4 Z Z) ?_ | refine J (IN Try.underlying4 Z Z) ?_ | refine J (st_neqMz Try.underlying4 Z Z) ?_ | refine J (IK Try.underlying4 Z Z Z) ?_ | refine J (st_neqFN Try.underlying4 Z Z) ?_
    refine J (En Z Z Z Z) (AF ?_)
    first | refine BC rfl (fun h33=>?_) (fun h33=>?_) | refine Ax rfl (fun h33=>?_) (fun h33=>?_)
    ·refine AG (IH 40 h1 rfl h1m rfl ?_);rw [show BD M1 h1 (.map none (CI l1))=M by rw [←hM1,Mg];exact CF hM];refine AH (AD Z Z (AF (At ?_)));exact ⟨_,[40,41],_,As rfl,rfl,rfl,by rw [decide_eq_false fun hh:Fq l1 l2=>by first | exact h29 (hh.2 _ hk1) | exact h33 (by simp [hh.2 _ hk1])],rfl⟩
    ·refine Aj ?_;exact ⟨(seen++ [b16],acc++ [k16]),⟨DK hP (y:=[k16]) (by simpa using hp16.map Prod.fst),fun x hx=>(List.mem_append.1 hx).elim (hA x) fun e=>by rw [List.mem_singleton.1 e];exact Classical.not_not.1 h29⟩,by show (B6 (Ci l1) B (seen++ [b16])).length<(B6 (Ci l1) B seen).length;rw [hp16.length_eq];exact Nat.lt_succ_self _,BB hF [1,40,41] rfl (rfl) ⟨rfl,rfl,trivial⟩⟩
theorem Q5 {M N:MF} {h1 h2:Nat} {l1 l2:List Lk} (hM:M h1=some (.map none (CI l1))) (hN:N h2=some (.map none (CI l2))):AU Try.prog 44 [.d (mD h1),.d (mD h2)] [(40,[.multi M]),(41,[.multi N])] fun r H'=>r= .d (Am (decide (Fq l1 l2)))∧H'=[(40,[.multi M]),(41,[.multi N])]:=by
 refine DA Try.func44 Z Z Try.ntmps44 Z Z Z fun F hF=>(AG (AH (AD Z Z ?_)));refine AF (AG (AH (AC Z Z (AC Z Z (U (GR (QD hM hN) rfl [40,41] ⟨rfl,rfl,trivial⟩ Z Z Z Z Z Z Z Z Z) (AD Z Z (AF (At ?_))))))));exact ⟨_,[40,41],_,As rfl,rfl,rfl,rfl,rfl⟩
def HX (E E2:List (St×Nat)) (lk lk2:Nat ->List Lk):Prop:=E.length=E2.length∧∀x∈E.map Prod.fst,∃p∈E,∃q∈E2,p.1=x∧q.1=x∧Fq (lk p.2) (lk2 q.2)
noncomputable instance (E E2:List (St×Nat)) (lk lk2:Nat ->List Lk):Decidable (HX E E2 lk lk2):=Classical.propDecidable _
theorem eE_has (E:List (St×Nat)) (x:St):Gd (eE E) x=decide (x∈E.map Prod.fst):=by
 rw [Bool.eq_iff_iff,By,GO,decide_eq_true_eq]
theorem IB {E:List (St×Nat)} (hn:(E.map Prod.fst).Nodup) {p q:St×Nat} (hp:p∈E) (hq:q∈E) (e:p.1=q.1):p=q:=by
 have h1:=KU hn hp;have h2:=KU hn hq;rw [e,h2] at h1;injection h1 with h1
 exact Prod.ext e h1.symm
theorem Q6 {M N:MF} {b b2 m m2:Nat} {E E2:List (St×Nat)} {lk lk2:Nat ->List Lk} (hr:LR M b m E lk) (hr2:LR N b2 m2 E2 lk2) (hk1:(E.map Prod.fst).Nodup) (hk2:(E2.map Prod.fst).Nodup):AU Try.prog 43 [.d (mD m),.d (mD m2),.d (.raw (.func (.func 44) ⟨[]⟩ ⟨[]⟩))] [(40,[.multi M]),(41,[.multi N])] fun r H'=>r= .d (Am (decide (HX E E2 lk lk2)))∧H'=[(40,[.multi M]),(41,[.multi N])]:=by
 have hpm:∀p∈E,p.2≠m:=fun p hp e=>hr.ne (by rw [←e];exact List.mem_map_of_mem hp);refine DA Try.func43 Z Z Try.ntmps43 Z Z Z fun F hF=>(AG (AH ?_));refine AD Z Z (AF (AG (AG (AH (AC Z Z (J (FG (f:=40) (n:=E.length) Z Z hr.top (by simp [Aa]) Bx rfl) (AC Z Z (J (FG (f:=41) (n:=E2.length) Z Z hr2.top (by simp [Aa]) Bx rfl) ?_))))))))
 first | refine J (IP Z Z Z) ?_ | refine J (iOq Z Z Z) ?_ | refine J (Ho Z Z Z) ?_ | refine J (IJ Try.underlying3 Z Z Z) ?_ | refine J (IL Try.underlying3 Z Z Z) ?_ | refine J (st_neqN Try.underlying3 Z Z) ?_ | refine J (IN Try.underlying3 Z Z) ?_ | refine J (st_neqMz Try.underlying3 Z Z) ?_ | refine J (IK Try.underlying3 Z Z Z) ?_ | refine J (st_neqFN Try.underlying3 Z Z) ?_
 refine AF ?_
 first | refine BC rfl (fun h15=>?_) (fun h15=>?_) | refine Ax rfl (fun h15=>?_) (fun h15=>?_)
 ·refine AG (AH (AD Z Z (AF (At ?_))));exact ⟨_,[40,41],_,As rfl,rfl,rfl,by rw [decide_eq_false fun hh:HX E E2 lk lk2=>h15 (congrArg Int.ofNat hh.1)],rfl⟩
 ·refine Aj (AG (AG ?_));have hll:E.length=E2.length:=Int.ofNat.inj (Classical.not_not.1 h15);refine Zcu 40 m rfl hr.top (fun _ _=>rfl) fun B c hB hBn=>?_
  obtain ⟨M1,hM1⟩:∃M1,BD M m (.map (some (B,c)) (CS E))=M1:=⟨_,rfl⟩
  rw [hM1];have h1m:M1 m=some (.map (some (B,c)) (CS E)):=by rw [←hM1,DW]
  have h1s:∀p∈E,M1 p.2=some (.map none (CI (lk p.2))):=fun p hp=>by rw [←hM1,Dk (hpm p hp)];exact hr.sub p hp
  refine AH (AC Z Z (U (Zcq 1 (f:=40) Z Z (h1m) rfl Bx Z Z Z Z) (AF (B7 (Ex (α:=List Nat×List St) (fun q=>⟨38,[(1,.d (mD m2)),(2,.d (.raw (.func (.func 44) ⟨[]⟩ ⟨[]⟩))),(17,(.ptr 1 0 0))],[(1,[.iter 40 m c q.1]),(40,[.multi M1]),(41,[.multi N])]⟩) (fun q=>(q.2++(B6 (eE E) B q.1).map Prod.fst).Perm (E.map Prod.fst)∧∀x∈q.2,∃p∈E,∃q∈E2,p.1=x∧q.1=x∧Fq (lk p.2) (lk2 q.2)) (fun q=>(B6 (eE E) B q.1).length) (([],[])) (⟨by show ([]++(B6 (eE E) B []).map Prod.fst).Perm _;rw [Zct (by simpa [Aa] using hB),GO];exact List.Perm.refl _,fun x hx=>by cases hx⟩) (BB hF [1,40,41] Z Z ⟨rfl,rfl,rfl,trivial⟩) ?_)))));rintro ⟨seen,acc⟩ ⟨hP,hA⟩;dsimp only at hP hA⊢;refine AG (AH (DC (eE E) Z Z Z (h1m) rfl (fun hl18=>?_) (fun j18 b18 k18 v18 hm18 hb18 hB18 hp18=>⟨_,rfl,?_⟩)))
  ·rw [hl18] at hP;refine CY 40 m rfl h1m rfl ?_;rw [show BD M1 m (.map none (CS E))=M by rw [←hM1,Mg];exact CF hr.top]
   first | refine J (B9 Z Z Z) ?_ | refine J (B8 Z Z Z) ?_
   refine AF (AG (DX Z Z (D3 (AG ?_))))
   have hs:HX E E2 lk lk2:=⟨hll,fun x hx=>hA x ((show acc.Perm (E.map Prod.fst) by simpa using hP).mem_iff.2 hx)⟩
   refine AH (AD Z Z (AF (At ?_)));exact ⟨_,[40,41],_,As rfl,rfl,rfl,by rw [decide_eq_true hs],rfl⟩
  ·first | refine J (B9 Z Z Z) ?_ | refine J (B8 Z Z Z) ?_
   refine AF (AG (JG Z Z (Aj (B7 (AG ?_)))));obtain ⟨hd,hpe,hve⟩:=FP hm18;subst hve;refine AH (J (Zcs (eE E) j18 b18 Z Z Z (h1m) hm18 hb18 rfl) ?_)
   first | refine J (B9 Z Z Z) ?_ | refine J (B8 Z Z Z) ?_
   first | refine J (B9 Z Z Z) ?_ | refine J (B8 Z Z Z) ?_
   refine AD Z Z (AD Z Z (AF (AG (AH (AC Z Z (AC Z Z (J (Fz (f:=41) (eE E2) k18 none Z Z hr2.top rfl Bx E0 Dz rfl) ?_)))))));rw [eE_has];refine AC Z Z ?_
   first | refine J (B9 Z Z Z) ?_ | refine J (B8 Z Z Z) ?_
   first | refine J (B9 Z Z Z) ?_ | refine J (B8 Z Z Z) ?_
   refine AD Z Z (AD Z Z (AF (AG (Ny 1 40 95 96 rfl h1m Z Z Z Z Z Z Z Z Z Z (AH (AC Z Z ?_))))))
   first | refine J (ET Z Z) ?_ | refine J (EO Z Z) ?_
   refine AC Z Z ?_
   first | refine Hq 31 rfl (fun h31=>?_) (fun h31=>?_) | refine HP 31 rfl (fun h31=>?_) (fun h31=>?_)
   ·refine Aw Z Z Z Z (Aw Z Z Z Z ?_);refine Aw Z Z Z Z (Aw Z Z Z Z (Aw Z Z Z Z (J (GS Z Z Z Z) (HD 1 40 95 96 rfl h1m Z Z Z Z Z Z Z (AF (JG Z Z (AG (IH 40 m rfl h1m rfl ?_))))))));rw [show BD M1 m (.map none (CS E))=M by rw [←hM1,Mg];exact CF hr.top];refine AH (AD Z Z (AF (At ?_)));exact ⟨_,[40,41],_,As rfl,rfl,rfl,by rw [decide_eq_false fun hh:HX E E2 lk lk2=>by first | exact h31 (by obtain ⟨p,hp,q,hq,e1,e2,_⟩:=hh.2 k18 (List.mem_map_of_mem (f:=Prod.fst) hpe);rw [←e2];exact List.mem_map_of_mem hq) | exact h37 (by obtain ⟨p,hp,q,hq,e1,e2,e3⟩:=hh.2 k18 (List.mem_map_of_mem (f:=Prod.fst) hpe);rw [IB hk1 hp hpe e1,IB hk2 hq hm2 e2] at e3;exact e3)],rfl⟩
   ·refine A3 Z Z Z (AC Z Z (A3 Z Z Z (AC Z Z (A3 Z Z Z (AC Z Z ?_)))));obtain ⟨q2,hq2,hq2e⟩:=List.mem_map.1 (Classical.not_not.1 h31);have hm2:(k18,q2.2)∈E2:=by rw [←hq2e];exact hq2
    rw [KU hk2 hm2];refine A3 Z Z Z (U (Je (Q5 (h1s _ hpe) (hr2.sub _ hm2)) rfl [40,41] ⟨rfl,rfl,trivial⟩ Z Z Z Z Z Z Z Z Z) (A3 Z Z Z ?_))
    first | refine J (ET Z Z) ?_ | refine J (EO Z Z) ?_
    refine J (En Z Z Z Z) (HD 1 40 95 96 rfl h1m Z Z Z Z Z Z Z (AF ?_))
    first | refine BC rfl (fun h37=>?_) (fun h37=>?_) | refine Ax rfl (fun h37=>?_) (fun h37=>?_)
    ·refine AG (IH 40 m rfl h1m rfl ?_);rw [show BD M1 m (.map none (CS E))=M by rw [←hM1,Mg];exact CF hr.top];refine AH (AD Z Z (AF (At ?_)));exact ⟨_,[40,41],_,As rfl,rfl,rfl,by rw [decide_eq_false fun hh:HX E E2 lk lk2=>by first | exact h31 (by obtain ⟨p,hp,q,hq,e1,e2,_⟩:=hh.2 k18 (List.mem_map_of_mem (f:=Prod.fst) hpe);rw [←e2];exact List.mem_map_of_mem hq) | exact h37 (by obtain ⟨p,hp,q,hq,e1,e2,e3⟩:=hh.2 k18 (List.mem_map_of_mem (f:=Prod.fst) hpe);rw [IB hk1 hp hpe e1,IB hk2 hq hm2 e2] at e3;exact e3)],rfl⟩
    ·refine Aj ?_;exact ⟨(seen++ [b18],acc++ [k18]),⟨DK hP (y:=[k18]) (by simpa using hp18.map Prod.fst),fun x hx=>(List.mem_append.1 hx).elim (hA x) fun e=>by rw [List.mem_singleton.1 e];exact ⟨_,hpe,_,hm2,rfl,rfl,Classical.not_not.1 h37⟩⟩,by show (B6 (eE E) B (seen++ [b18])).length<(B6 (eE E) B seen).length;rw [hp18.length_eq];exact Nat.lt_succ_self _,BB hF [1,40,41] rfl (rfl) ⟨rfl,rfl,rfl,trivial⟩⟩
def L5 (w w2:Ws):Prop:=w.R=w2.R∧∀l,l∈w.K↔l∈w2.K
noncomputable instance (w w2:Ws):Decidable (L5 w w2):=Classical.propDecidable _
theorem Jj {l1 l2:List Lk} (h1:l1.Nodup) (h2:l2.Nodup):Fq l1 l2↔∀x,x∈l1↔x∈l2:=by
 constructor
 ·rintro ⟨hl,hs⟩ x;refine ⟨hs x,fun hx=>Classical.byContradiction fun hn=>?_⟩;have:=(List.nodup_cons.2 ⟨hn,h1⟩).length_le_of_subset (l₂:=l2) fun y hy=>(List.mem_cons.1 hy).elim (fun e=>e▸hx) (hs y);rw [List.length_cons] at this;omega
 ·intro h;exact ⟨((List.perm_ext_iff_of_nodup h1 h2).2 h).length_eq,fun x hx=>(h x).1 hx⟩
theorem OV {E E2:List (St×Nat)} {lk lk2:Nat ->List Lk} {w w2:Ws} (h:LW E lk w) (h2:LW E2 lk2 w2) (hw:Bc w) (hw2:Bc w2):HX E E2 lk lk2↔L5 w w2:=by
 constructor
 ·rintro ⟨hl,hs⟩
  have hsub:∀x∈E.map Prod.fst,x∈E2.map Prod.fst:=fun x hx=>by
   obtain ⟨p,_,q,hq,_,e,_⟩:=hs x hx;rw [←e];exact List.mem_map_of_mem hq
  have hR:w.R=w2.R:=Hv hw.srt hw2.srt fun x=>by
   rw [←h.ks x,←h2.ks x];refine ⟨hsub x,fun hx=>Classical.byContradiction fun hn=>?_⟩;have:=(List.nodup_cons.2 ⟨hn,h.kd⟩).length_le_of_subset (l₂:=E2.map Prod.fst) fun y hy=>(List.mem_cons.1 hy).elim (fun e=>e▸hx) (hsub y);rw [List.length_cons,List.length_map,List.length_map] at this;omega
  have key:∀x∈w.R,∀t r,(⟨x,t,r⟩:Lw)∈w.K↔(⟨x,t,r⟩:Lw)∈w2.K:=fun x hx t r=>by
   obtain ⟨p,hp,q,hq,e1,e2,hL⟩:=hs x ((h.ks x).2 hx);have h3:=(Jj (h.ld p hp) (h2.ld q hq)).1 hL ⟨t,r⟩;have h4:=h.ls p hp ⟨t,r⟩;have h5:=h2.ls q hq ⟨t,r⟩;rw [e1] at h4;rw [e2] at h5;exact h4.symm.trans (h3.trans h5)
  exact ⟨hR,fun l=>⟨fun hl=>(key l.f (hw.lk l hl).1 l.t l.r).1 hl,fun hl=>(key l.f (by rw [hR];exact (hw2.lk l hl).1) l.t l.r).2 hl⟩⟩
 ·rintro ⟨hR,hK⟩;refine ⟨by rw [h.len hw,h2.len hw2,hR],fun x hx=>?_⟩;obtain ⟨p,hp,e1⟩:=List.mem_map.1 hx;obtain ⟨q,hq,e2⟩:=List.mem_map.1 ((h2.ks x).2 (by rw [←hR];exact (h.ks x).1 hx));refine ⟨p,hp,q,hq,e1,e2,(Jj (h.ld p hp) (h2.ld q hq)).2 fun l=>?_⟩;rw [h.ls p hp l,h2.ls q hq l,e1,e2];exact hK _
theorem equal_c {M N:MF} {b b2:Nat} {w w2:Ws} (h:B4 M b w) (h2:B4 N b2 w2) (hw:Bc w) (hw2:Bc w2):AU Try.prog 28 [.d (pD b 0),.d (pD b2 0)] [(40,[.multi M]),(41,[.multi N])] fun r H'=>r= .d (Am (decide (L5 w w2)))∧H'=[(40,[.multi M]),(41,[.multi N])]:=by
 obtain ⟨m,E,lk,hr,hl⟩:=h;obtain ⟨m2,E2,lk2,hr2,hl2⟩:=h2;refine DA Try.func28 Z Z Try.ntmps28 Z Z Z fun F hF=>(AG (AH (AD Z Z (AF (AG (AG (AH (AC Z Z ?_))))))))
 first | refine J (EN Z Z Z) ?_ | refine J (EY Z Z Z) ?_ | refine J (Dy Z Z Z) ?_ | refine J (EP Try.underlying23 Z Z Z) ?_ | refine J (ES Try.underlying23 Z Z Z) ?_ | refine J (ER Try.underlying23 Z Z) ?_ | refine J (EX Try.underlying23 Z Z) ?_ | refine J (EW Try.underlying23 Z Z) ?_ | refine J (EQ Try.underlying23 Z Z Z) ?_ | refine J (EV Try.underlying23 Z Z) ?_
 refine AC Z Z (E9 7 rfl (rfl) (A3 Z Z Z (AC Z Z (A3 Z Z Z ?_))))
 first | refine J (EN Z Z Z) ?_ | refine J (EY Z Z Z) ?_ | refine J (Dy Z Z Z) ?_ | refine J (EP Try.underlying23 Z Z Z) ?_ | refine J (ES Try.underlying23 Z Z Z) ?_ | refine J (ER Try.underlying23 Z Z) ?_ | refine J (EX Try.underlying23 Z Z) ?_ | refine J (EW Try.underlying23 Z Z) ?_ | refine J (EQ Try.underlying23 Z Z Z) ?_ | refine J (EV Try.underlying23 Z Z) ?_
 refine J (En Z Z Z Z) (AF (DX rfl (rfl) (Aj (AG (F1 [[],[0],[0,1],[0,1,2],[],[4],[4,5],[4,5,6],[0,1,2,3,4,5,6,7],[0,1,2,3,4,5,6,7,8]] mixed rfl (D1 ?_))))))
 first | refine AE [0] [] Z Z (fun _=>AB (Ac Z Z)) ?_ | refine AI [0] Z Z (fun _=>AB (Ac Z Z)) ?_
 first | refine AE [14] [] Z Z (fun _=>AB (FB Z Z)) ?_ | refine AI [14] Z Z (fun _=>AB (FB Z Z)) ?_ | refine AE [14] [] Z Z (fun _=>AB (Ez Z Z)) ?_ | refine AI [14] Z Z (fun _=>AB (Ez Z Z)) ?_ | refine AE [14] [] Z Z (fun _=>AB (FC Z Z)) ?_ | refine AI [14] Z Z (fun _=>AB (FC Z Z)) ?_ | refine AE [14] [] Z Z (fun _=>AB (FA Z Z)) ?_ | refine AI [14] Z Z (fun _=>AB (FA Z Z)) ?_
 first | refine AE [15] [] Z Z (fun _=>AB (A5 rfl A2 Z Z Z)) ?_ | refine AI [15] Z Z (fun _=>AB (A5 rfl A2 Z Z Z)) ?_ | refine AE [15] [] Z Z (fun _=>AB (A7 rfl A2 Z Z Z)) ?_ | refine AI [15] Z Z (fun _=>AB (A7 rfl A2 Z Z Z)) ?_ | refine AE [15] [] Z Z (fun _=>AB (A8 rfl A2 Z Z Z)) ?_ | refine AI [15] Z Z (fun _=>AB (A8 rfl A2 Z Z Z)) ?_ | refine AE [15] [] Z Z (fun _=>AB (A6 rfl A2 Z Z Z)) ?_ | refine AI [15] Z Z (fun _=>AB (A6 rfl A2 Z Z Z)) ?_ | refine AE [15] [] Z Z (fun _=>AB (A4 rfl A2 Z Z Z)) ?_ | refine AI [15] Z Z (fun _=>AB (A4 rfl A2 Z Z Z)) ?_
 refine AE [16] [40] Z Z (fun _=>AB (Fw (f:=40) Z Z (hr.cell) rfl Bn rfl)) ?_
 first | refine AE [1] [] Z Z (fun _=>AB (Ac Z Z)) ?_ | refine AI [1] Z Z (fun _=>AB (Ac Z Z)) ?_
 first | refine AE [18] [] Z Z (fun _=>AB (FB Z Z)) ?_ | refine AI [18] Z Z (fun _=>AB (FB Z Z)) ?_ | refine AE [18] [] Z Z (fun _=>AB (Ez Z Z)) ?_ | refine AI [18] Z Z (fun _=>AB (Ez Z Z)) ?_ | refine AE [18] [] Z Z (fun _=>AB (FC Z Z)) ?_ | refine AI [18] Z Z (fun _=>AB (FC Z Z)) ?_ | refine AE [18] [] Z Z (fun _=>AB (FA Z Z)) ?_ | refine AI [18] Z Z (fun _=>AB (FA Z Z)) ?_
 first | refine AE [19] [] Z Z (fun _=>AB (A5 rfl A2 Z Z Z)) ?_ | refine AI [19] Z Z (fun _=>AB (A5 rfl A2 Z Z Z)) ?_ | refine AE [19] [] Z Z (fun _=>AB (A7 rfl A2 Z Z Z)) ?_ | refine AI [19] Z Z (fun _=>AB (A7 rfl A2 Z Z Z)) ?_ | refine AE [19] [] Z Z (fun _=>AB (A8 rfl A2 Z Z Z)) ?_ | refine AI [19] Z Z (fun _=>AB (A8 rfl A2 Z Z Z)) ?_ | refine AE [19] [] Z Z (fun _=>AB (A6 rfl A2 Z Z Z)) ?_ | refine AI [19] Z Z (fun _=>AB (A6 rfl A2 Z Z Z)) ?_ | refine AE [19] [] Z Z (fun _=>AB (A4 rfl A2 Z Z Z)) ?_ | refine AI [19] Z Z (fun _=>AB (A4 rfl A2 Z Z Z)) ?_
 refine AE [20] [41] Z Z (fun _=>AB (Fw (f:=41) Z Z hr2.cell rfl Bn rfl)) (D2 8 Z Z Z (BQ 9 Z Z (U (GR (Q6 hr hr2 hl.kd hl2.kd) rfl [40,41] ⟨rfl,rfl,trivial⟩ Z Z Z Z Z Z Z Z Z) (AF ⟨rfl,?_⟩))));refine BQ 10 Z Z (AD Z Z (AF ⟨rfl,?_⟩));refine Ei (At ?_);exact ⟨_,[40,41],_,As rfl,rfl,rfl,by rw [show decide (HX E E2 lk lk2)=decide (L5 w w2) from decide_eq_decide.2 (OV hl hl2 hw hw2)],rfl⟩
end Go.Proofs.Ytlmedakidpaeeaa
