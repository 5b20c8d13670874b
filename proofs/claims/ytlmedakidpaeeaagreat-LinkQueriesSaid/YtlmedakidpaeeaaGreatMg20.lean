/- Layer 27: Link, walked. -/
import Derived.Test.YtlmedakidpaeeaaGreatMg19
namespace Go.Proofs.YtlmedakidpaeeaaGreat
open Go.RowKit
set_option maxRecDepth 100000
theorem E5 {s:AS}:∀(i:Nat) a v,([]:List AV)[i]? =some a ->([]:List Value)[i]? =some v ->II s a v:=fun i a v h=>by simp at h
theorem Iv {s:AS} {a:AV} {v:Value} {ars:List AV} {vs:List Value} (h:II s a v) (hr:∀(i:Nat) a v,ars[i]? =some a ->vs[i]? =some v ->II s a v):∀(i:Nat) a' v',(a::ars)[i]? =some a' ->(v::vs)[i]? =some v' ->II s a' v':=fun i a' v' h1 h2=>by
 cases i with
 | zero=>simp at h1 h2;subst h1 h2;exact h
 | succ i=>exact hr i a' v' (by simpa using h1) (by simpa using h2)
theorem R7 {w:Ws} {l:Lw} (h1:l.t≠0) (h2:l.t≠1):lnkW w l=(w,11):=by unfold lnkW;rw [if_pos ⟨h1,h2⟩]
theorem Mw {w:Ws} {l:Lw} (ht:l.t=0∨l.t=1) (h:l.f∉w.R∨l.r∉w.R):lnkW w l=(w,9):=by unfold lnkW;rw [if_neg (by omega),if_pos h]
theorem Kj {w:Ws} {l:Lw} (ht:l.t=0∨l.t=1) (h1:l.f∈w.R) (h2:l.r∈w.R) (h:l.f=l.r):lnkW w l=(w,26):=by unfold lnkW;rw [if_neg (by omega),if_neg fun hh=>hh.elim (· h1) (· h2),if_pos h]
theorem lnk7 {w:Ws} {l:Lw} (ht:l.t=0∨l.t=1) (h1:l.f∈w.R) (h2:l.r∈w.R) (h3:l.f≠l.r) (h:l∈w.K):lnkW w l=(w,7):=by unfold lnkW;rw [if_neg (by omega),if_neg fun hh=>hh.elim (· h1) (· h2),if_neg h3,if_pos h]
theorem OB {w:Ws} {l:Lw} (ht:l.t=0∨l.t=1) (h1:l.f∈w.R) (h2:l.r∈w.R) (h3:l.f≠l.r) (h4:l∉w.K):lnkW w l=if acyW (B3 w l)=true then (B3 w l,0) else (w,26):=by unfold lnkW;rw [if_neg (by omega),if_neg fun hh=>hh.elim (· h1) (· h2),if_neg h3,if_neg h4]
theorem L6 {M:MF} {b:Nat} {w:Ws} (h:Bg M b w) (hw:B1 w) (hK:w.K.length≤999999) (l:Lw):AQ Tryz.prog 19 [.d (pD b 0),.d (AU l.f),.d (KG ⟨l.t,l.r⟩)] [(40,[.multi M])] fun r H'=>∃M',r= .d (B7 (lnkW w l).2)∧H'=[(40,[.multi M'])]∧Bg M' b (lnkW w l).1:=by
 have hrep:=h;obtain ⟨m,E,lk,hr,hl⟩:=h;refine SX Tryz.func19 Z Z Tryz.ntmps19 Z Z Z fun F Fi hF hrnd hlo hR hD=>?_
 first | refine AE ?_ | refine CM hR ?_
 refine AH (U (Gl 910 Z Z Z Z Z Z Z) (U (Gl 911 Z Z Z Z Z Z Z) (U (Gl 912 Z Z Z Z Z Z Z) (U (HZ 913 zl47 Z Z Z Z) (AF ?_)))))
 first | refine AE ?_ | refine CM hR ?_
 refine BH ?_
 first | refine AE ?_ | refine CM hR ?_
 refine AH ?_
 first | refine J (AZ Z Z BL rfl) ?_ | refine J (AX Z Z Z BL rfl) ?_ | refine J (AY Z Z (rfl) rfl BL rfl) ?_
 first | refine J (FW Z Z Z) ?_ | refine J (FV Z Z Z) ?_ | refine J (FL Z Z Z) ?_ | refine J (FO Tryz.underlying24 Z Z Z) ?_ | refine J (FR Tryz.underlying24 Z Z Z) ?_ | refine J (FQ Tryz.underlying24 Z Z) ?_ | refine J (FU Tryz.underlying24 Z Z) ?_ | refine J (FT Tryz.underlying24 Z Z) ?_ | refine J (FP Tryz.underlying24 Z Z Z) ?_ | refine J (fSq Tryz.underlying24 Z Z) ?_
 refine AD Z Z (AF (DM rfl (rfl) ?_))
 first | refine AE ?_ | refine CM hR ?_
 refine AH ?_
 first | refine J (A2 rfl Dh Z Z Z) ?_ | refine J (A4 rfl Dh Z Z Z) ?_ | refine J (A5 rfl Dh Z Z Z) ?_ | refine J (A3 rfl Dh Z Z Z) ?_ | refine J (A1 rfl Dh Z Z Z) ?_
 first | refine J (AZ Z Z BV rfl) ?_ | refine J (AX Z Z Z BV rfl) ?_ | refine J (AY Z Z (rfl) rfl BV rfl) ?_
 first | refine J (I8 Z Z Z) ?_ | refine J (I7 Z Z Z) ?_ | refine J (IF Z Z Z) ?_ | refine J (I2 Tryz.underlying3 Z Z Z) ?_ | refine J (I4 Tryz.underlying3 Z Z Z) ?_ | refine J (st_neqN Tryz.underlying3 Z Z) ?_ | refine J (st_neqPr Tryz.underlying3 Z Z) ?_ | refine J (st_neqMz Tryz.underlying3 Z Z) ?_ | refine J (I3 Tryz.underlying3 Z Z Z) ?_ | refine J (st_neqFN Tryz.underlying3 Z Z) ?_
 refine AC Z Z ?_
 first | refine It 16 rfl (fun h16=>?_) (fun h16=>?_) | refine I5 16 rfl (fun h16=>?_) (fun h16=>?_)
 ·refine Aa Z Z Z ?_
  first | refine J (A2 rfl Dh Z Z Z) ?_ | refine J (A4 rfl Dh Z Z Z) ?_ | refine J (A5 rfl Dh Z Z Z) ?_ | refine J (A3 rfl Dh Z Z Z) ?_ | refine J (A1 rfl Dh Z Z Z) ?_
  refine Aa Z Z Z ?_
  first | refine J (AZ Z Z BV rfl) ?_ | refine J (AX Z Z Z BV rfl) ?_ | refine J (AY Z Z (rfl) rfl BV rfl) ?_
  refine Aa Z Z Z ?_
  first | refine J (I8 Z Z Z) ?_ | refine J (I7 Z Z Z) ?_ | refine J (IF Z Z Z) ?_ | refine J (I2 Tryz.underlying3 Z Z Z) ?_ | refine J (I4 Tryz.underlying3 Z Z Z) ?_ | refine J (st_neqN Tryz.underlying3 Z Z) ?_ | refine J (st_neqPr Tryz.underlying3 Z Z) ?_ | refine J (st_neqMz Tryz.underlying3 Z Z) ?_ | refine J (I3 Tryz.underlying3 Z Z Z) ?_ | refine J (st_neqFN Tryz.underlying3 Z Z) ?_
  refine J (GZ Z Z Z Z) (AD Z Z (AF ?_))
  first | refine Az rfl (fun h12=>?_) (fun h12=>?_) | refine Aw rfl (fun h12=>?_) (fun h12=>?_)
  ·first | refine AE ?_ | refine CM hR ?_
   refine AH (U (Bu Z Z Z Z Z Z Z H7) (AF (Aq ?_)));exact ⟨_,[40],_,An rfl,rfl,rfl,M,by rw [R7 h16 h12],rfl,by rw [R7 h16 h12];exact hrep⟩
  ·first | refine AE ?_ | refine CM hR ?_
   refine AH ?_
   first | refine J (AZ Z Z BL rfl) ?_ | refine J (AX Z Z Z BL rfl) ?_ | refine J (AY Z Z (rfl) rfl BL rfl) ?_
   first | refine J (AZ Z Z AR rfl) ?_ | refine J (AX Z Z Z AR rfl) ?_ | refine J (AY Z Z (rfl) rfl AR rfl) ?_
   refine U (Fn (GX hrep l.f) rfl [40] ⟨rfl,trivial⟩ Z Z Z Z Z Z Z Z Z) ?_
   first | refine J (ET Z Z) ?_ | refine J (EQ Z Z) ?_
   refine AC Z Z ?_
   first | refine It 26 rfl (fun h26=>?_) (fun h26=>?_) | refine I5 26 rfl (fun h26=>?_) (fun h26=>?_)
   ·refine BA Z Z Z Z (BA Z Z Z Z (BA Z Z Z Z (BA Z Z Z Z (BA Z Z Z Z (J (GZ Z Z Z Z) (AD Z Z (AF (IH Z Z ?_))))))))
    first | refine AE ?_ | refine CM hR ?_
    have h9:lnkW w l=(w,9):=Mw (by first | exact .inl (Classical.not_not.1 h16) | exact .inr (Classical.not_not.1 h12)) (by first | exact .inl h26 | exact .inr h21);refine AH (U (Bu Z Z Z Z Z Z Z H7) (AF (Aq ?_)));exact ⟨_,[40],_,An rfl,rfl,rfl,M,by rw [h9],rfl,by rw [h9];exact hrep⟩
   ·refine Aa Z Z Z ?_
    first | refine J (AZ Z Z BL rfl) ?_ | refine J (AX Z Z Z BL rfl) ?_ | refine J (AY Z Z (rfl) rfl BL rfl) ?_
    refine Aa Z Z Z ?_
    first | refine J (A2 rfl Bd Z Z Z) ?_ | refine J (A4 rfl Bd Z Z Z) ?_ | refine J (A5 rfl Bd Z Z Z) ?_ | refine J (A3 rfl Bd Z Z Z) ?_ | refine J (A1 rfl Bd Z Z Z) ?_
    refine Aa Z Z Z ?_
    first | refine J (AZ Z Z AR rfl) ?_ | refine J (AX Z Z Z AR rfl) ?_ | refine J (AY Z Z (rfl) rfl AR rfl) ?_
    refine Aa Z Z Z (U (Fn (GX hrep l.r) rfl [40] ⟨rfl,trivial⟩ Z Z Z Z Z Z Z Z Z) (Aa Z Z Z ?_))
    first | refine J (ET Z Z) ?_ | refine J (EQ Z Z) ?_
    refine J (Fo Z Z Z Z) (AD Z Z (AF ?_))
    first | refine Az rfl (fun h21=>?_) (fun h21=>?_) | refine Aw rfl (fun h21=>?_) (fun h21=>?_)
    ·first | refine AE ?_ | refine CM hR ?_
     have h9:lnkW w l=(w,9):=Mw (by first | exact .inl (Classical.not_not.1 h16) | exact .inr (Classical.not_not.1 h12)) (by first | exact .inl h26 | exact .inr h21);refine AH (U (Bu Z Z Z Z Z Z Z H7) (AF (Aq ?_)));exact ⟨_,[40],_,An rfl,rfl,rfl,M,by rw [h9],rfl,by rw [h9];exact hrep⟩
    ·first | refine AE ?_ | refine CM hR ?_
     have ht:l.t=0∨l.t=1:=by first | exact .inl (Classical.not_not.1 h16) | exact .inr (Classical.not_not.1 h12)
     have hfR:l.f∈w.R:=Classical.not_not.1 h26;have hrR:l.r∈w.R:=Classical.not_not.1 h21;refine AH ?_
     first | refine J (AZ Z Z AR rfl) ?_ | refine J (AX Z Z Z AR rfl) ?_ | refine J (AY Z Z (rfl) rfl AR rfl) ?_
     first | refine J (A2 rfl Bd Z Z Z) ?_ | refine J (A4 rfl Bd Z Z Z) ?_ | refine J (A5 rfl Bd Z Z Z) ?_ | refine J (A3 rfl Bd Z Z Z) ?_ | refine J (A1 rfl Bd Z Z Z) ?_
     first | refine J (AZ Z Z AR rfl) ?_ | refine J (AX Z Z Z AR rfl) ?_ | refine J (AY Z Z (rfl) rfl AR rfl) ?_
     first | refine J (FW Z Z Z) ?_ | refine J (FV Z Z Z) ?_ | refine J (FL Z Z Z) ?_ | refine J (FO Tryz.underlying9 Z Z Z) ?_ | refine J (FR Tryz.underlying9 Z Z Z) ?_ | refine J (FQ Tryz.underlying9 Z Z) ?_ | refine J (FU Tryz.underlying9 Z Z) ?_ | refine J (FT Tryz.underlying9 Z Z) ?_ | refine J (FP Tryz.underlying9 Z Z Z) ?_ | refine J (fSq Tryz.underlying9 Z Z) ?_
     refine AD Z Z (AF ?_)
     first | refine Az rfl (fun h33=>?_) (fun h33=>?_) | refine Aw rfl (fun h33=>?_) (fun h33=>?_)
     ·first | refine AE ?_ | refine CM hR ?_
      refine AH (U (Bu Z Z Z Z Z Z Z H7) (AF (Aq ?_)));exact ⟨_,[40],_,An rfl,rfl,rfl,M,by rw [Kj ht hfR hrR h33],rfl,by rw [Kj ht hfR hrR h33];exact hrep⟩
     ·first | refine AE ?_ | refine CM hR ?_
      obtain ⟨hd,hm⟩:=hl.at hfR;refine FK [[],[0],[0,1],[0,1,2],[],[0,1,2,3,4],[],[0,1,2,3,4,5,6],[0,1,2,3,4,5,6,7]] mixed rfl (D1 ?_)
      first | refine AG [3] [] Z Z (fun _=>AB (AZ Z Z BL rfl)) ?_ | refine AI [3] Z Z (fun _=>AB (AZ Z Z BL rfl)) ?_ | refine AG [3] [] Z Z (fun _=>AB (AX Z Z Z BL rfl)) ?_ | refine AI [3] Z Z (fun _=>AB (AX Z Z Z BL rfl)) ?_ | refine AG [3] [] Z Z (fun _=>AB (AY Z Z (rfl) rfl BL rfl)) ?_ | refine AI [3] Z Z (fun _=>AB (AY Z Z (rfl) rfl BL rfl)) ?_
      first | refine AG [39] [] Z Z (fun _=>AB (GP Z Z)) ?_ | refine AI [39] Z Z (fun _=>AB (GP Z Z)) ?_ | refine AG [39] [] Z Z (fun _=>AB (GR Z Z)) ?_ | refine AI [39] Z Z (fun _=>AB (GR Z Z)) ?_ | refine AG [39] [] Z Z (fun _=>AB (GQ Z Z)) ?_ | refine AI [39] Z Z (fun _=>AB (GQ Z Z)) ?_ | refine AG [39] [] Z Z (fun _=>AB (GS Z Z)) ?_ | refine AI [39] Z Z (fun _=>AB (GS Z Z)) ?_
      first | refine AG [40] [] Z Z (fun _=>AB (A2 rfl Ac Z Z Z)) ?_ | refine AI [40] Z Z (fun _=>AB (A2 rfl Ac Z Z Z)) ?_ | refine AG [40] [] Z Z (fun _=>AB (A4 rfl Ac Z Z Z)) ?_ | refine AI [40] Z Z (fun _=>AB (A4 rfl Ac Z Z Z)) ?_ | refine AG [40] [] Z Z (fun _=>AB (A5 rfl Ac Z Z Z)) ?_ | refine AI [40] Z Z (fun _=>AB (A5 rfl Ac Z Z Z)) ?_ | refine AG [40] [] Z Z (fun _=>AB (A3 rfl Ac Z Z Z)) ?_ | refine AI [40] Z Z (fun _=>AB (A3 rfl Ac Z Z Z)) ?_ | refine AG [40] [] Z Z (fun _=>AB (A1 rfl Ac Z Z Z)) ?_ | refine AI [40] Z Z (fun _=>AB (A1 rfl Ac Z Z Z)) ?_
      first | refine AG [41] [] Z Z (fun _=>AB (Gi (f:=40) Z Z (hr.cell) rfl CB rfl)) ?_ | refine AI [41] Z Z (fun _=>AB (Gi (f:=40) Z Z (hr.cell) rfl CB rfl)) ?_
      first | refine AG [4] [] Z Z (fun _=>AB (AZ Z Z AR rfl)) ?_ | refine AI [4] Z Z (fun _=>AB (AZ Z Z AR rfl)) ?_ | refine AG [4] [] Z Z (fun _=>AB (AX Z Z Z AR rfl)) ?_ | refine AI [4] Z Z (fun _=>AB (AX Z Z Z AR rfl)) ?_ | refine AG [4] [] Z Z (fun _=>AB (AY Z Z (rfl) rfl AR rfl)) ?_ | refine AI [4] Z Z (fun _=>AB (AY Z Z (rfl) rfl AR rfl)) ?_
      first | refine AG [42,43] [] Z Z (fun _=>AB (HY (f:=40) (eE E) l.f none (some hd) Z Z hr.top rfl Cc EU EX (Br hl.kd hm) rfl)) ?_ | refine AI [42,43] Z Z (fun _=>AB (HY (f:=40) (eE E) l.f none (some hd) Z Z hr.top rfl Cc EU EX (Br hl.kd hm) rfl)) ?_
      first | refine AG [5] [] Z Z (fun _=>AB (BN Z Z Am rfl)) ?_ | refine AI [5] Z Z (fun _=>AB (BN Z Z Am rfl)) ?_ | refine AG [5] [] Z Z (fun _=>AB (BO Z Z Am Z Z Z)) ?_ | refine AI [5] Z Z (fun _=>AB (BO Z Z Am Z Z Z)) ?_ | refine AG [5] [] Z Z (fun _=>AB (BP Z Z (rfl) rfl Am rfl)) ?_ | refine AI [5] Z Z (fun _=>AB (BP Z Z (rfl) rfl Am rfl)) ?_
      refine D2 7 Z Z Z (BY 8 Z Z (J (HY (f:=40) (DL (lk hd)) ⟨l.t,l.r⟩ false _ Z Z (hr.sub _ hm) rfl G8 J4 za4 (L5 _ _) rfl) (AF ⟨rfl,?_⟩)));refine BY 9 Z Z (AD Z Z (AF ⟨rfl,?_⟩));refine Eg ?_
      first | refine Az rfl (fun h38=>?_) (fun h38=>?_) | refine Aw rfl (fun h38=>?_) (fun h38=>?_)
      ·first | refine AE ?_ | refine CM hR ?_
       refine AH (U (Bu Z Z Z Z Z Z Z H7) (AF (Aq ?_)));have h7:=lnk7 ht hfR hrR h33 ((hl.ls _ hm _).1 h38);exact ⟨_,[40],_,An rfl,rfl,rfl,M,by rw [h7],rfl,by rw [h7];exact hrep⟩
      ·refine Ai ?_
       first | refine AE ?_ | refine CM hR ?_
       refine DF 921 910 0 Z Z Z Z Z fun u3=>(DF 922 911 0 Z Z Z Z Z fun u4=>(DF 923 912 0 Z Z Z Z Z fun u5=>(DF 924 913 0 Z Z Z Z Z fun u6=>(FK [[],[0],[0,1],[0,1,2],[],[0,1,2,3,4],[],[0,1,2,3,4,5,6]] mixed rfl (D1 ?_)))))
       first | refine AG [3] [] Z Z (fun _=>AB (AZ Z Z BL rfl)) ?_ | refine AI [3] Z Z (fun _=>AB (AZ Z Z BL rfl)) ?_ | refine AG [3] [] Z Z (fun _=>AB (AX Z Z Z BL rfl)) ?_ | refine AI [3] Z Z (fun _=>AB (AX Z Z Z BL rfl)) ?_ | refine AG [3] [] Z Z (fun _=>AB (AY Z Z (rfl) rfl BL rfl)) ?_ | refine AI [3] Z Z (fun _=>AB (AY Z Z (rfl) rfl BL rfl)) ?_
       first | refine AG [47] [] Z Z (fun _=>AB (GP Z Z)) ?_ | refine AI [47] Z Z (fun _=>AB (GP Z Z)) ?_ | refine AG [47] [] Z Z (fun _=>AB (GR Z Z)) ?_ | refine AI [47] Z Z (fun _=>AB (GR Z Z)) ?_ | refine AG [47] [] Z Z (fun _=>AB (GQ Z Z)) ?_ | refine AI [47] Z Z (fun _=>AB (GQ Z Z)) ?_ | refine AG [47] [] Z Z (fun _=>AB (GS Z Z)) ?_ | refine AI [47] Z Z (fun _=>AB (GS Z Z)) ?_
       first | refine AG [48] [] Z Z (fun _=>AB (A2 rfl Ac Z Z Z)) ?_ | refine AI [48] Z Z (fun _=>AB (A2 rfl Ac Z Z Z)) ?_ | refine AG [48] [] Z Z (fun _=>AB (A4 rfl Ac Z Z Z)) ?_ | refine AI [48] Z Z (fun _=>AB (A4 rfl Ac Z Z Z)) ?_ | refine AG [48] [] Z Z (fun _=>AB (A5 rfl Ac Z Z Z)) ?_ | refine AI [48] Z Z (fun _=>AB (A5 rfl Ac Z Z Z)) ?_ | refine AG [48] [] Z Z (fun _=>AB (A3 rfl Ac Z Z Z)) ?_ | refine AI [48] Z Z (fun _=>AB (A3 rfl Ac Z Z Z)) ?_ | refine AG [48] [] Z Z (fun _=>AB (A1 rfl Ac Z Z Z)) ?_ | refine AI [48] Z Z (fun _=>AB (A1 rfl Ac Z Z Z)) ?_
       first | refine AG [49] [] Z Z (fun _=>AB (Gi (f:=40) Z Z (hr.cell) rfl CB rfl)) ?_ | refine AI [49] Z Z (fun _=>AB (Gi (f:=40) Z Z (hr.cell) rfl CB rfl)) ?_
       first | refine AG [4] [] Z Z (fun _=>AB (AZ Z Z AR rfl)) ?_ | refine AI [4] Z Z (fun _=>AB (AZ Z Z AR rfl)) ?_ | refine AG [4] [] Z Z (fun _=>AB (AX Z Z Z AR rfl)) ?_ | refine AI [4] Z Z (fun _=>AB (AX Z Z Z AR rfl)) ?_ | refine AG [4] [] Z Z (fun _=>AB (AY Z Z (rfl) rfl AR rfl)) ?_ | refine AI [4] Z Z (fun _=>AB (AY Z Z (rfl) rfl AR rfl)) ?_
       first | refine AG [50,51] [] Z Z (fun _=>AB (HY (f:=40) (eE E) l.f none (some hd) Z Z hr.top rfl Cc EU EX (Br hl.kd hm) rfl)) ?_ | refine AI [50,51] Z Z (fun _=>AB (HY (f:=40) (eE E) l.f none (some hd) Z Z hr.top rfl Cc EU EX (Br hl.kd hm) rfl)) ?_
       first | refine AG [5] [] Z Z (fun _=>AB (BN Z Z Am rfl)) ?_ | refine AI [5] Z Z (fun _=>AB (BN Z Z Am rfl)) ?_ | refine AG [5] [] Z Z (fun _=>AB (BO Z Z Am Z Z Z)) ?_ | refine AI [5] Z Z (fun _=>AB (BO Z Z Am Z Z Z)) ?_ | refine AG [5] [] Z Z (fun _=>AB (BP Z Z (rfl) rfl Am rfl)) ?_ | refine AI [5] Z Z (fun _=>AB (BP Z Z (rfl) rfl Am rfl)) ?_
       refine D2 7 Z Z Z (BY 8 Z Z (U (F3 (f:=40) (DL (lk hd)) (⟨l.t,l.r⟩) (true) Z Z (hr.sub _ hm) rfl G8 J4 Z Z) (AF ⟨rfl,?_⟩)));refine Eg ?_;have hnK:l∉w.K:=fun hh=>h38 ((hl.ls _ hm _).2 hh);rw [L4 h38];have hrep1:Bg _ b (B3 w l):=MA hr hl hm (l:=⟨l.t,l.r⟩) hnK;have hok1:=hw.with_ ht hfR hrR h33 hnK;have hK1:(B3 w l).K.length≤1000000:=by show (w.K++ [l]).length≤_;rw [List.length_append,List.length_singleton];omega
       have h0:=OB ht hfR hrR h33 hnK
       obtain ⟨M1,hM1⟩:∃M1,BU M hd (.map none (DJ (lk hd++ [⟨l.t,l.r⟩])))=M1:=⟨_,rfl⟩
       rw [hM1] at hrep1⊢;refine Ol (xs:=[6,3,4,5]) (ars:=[.ptr 913 0 0,.ptr 910 0 0,.ptr 911 0 0,.ptr 912 0 0]) [.pointer (some ⟨u6,0,none⟩),.pointer (some ⟨u3,0,none⟩),.pointer (some ⟨u4,0,none⟩),.pointer (some ⟨u5,0,none⟩)] hD hlo hrnd Z Z Z ?_ ?_
       ·exact (Iv ⟨913,0,u6,924,0,rfl,rfl,rfl⟩ (Iv ⟨910,0,u3,921,0,rfl,rfl,rfl⟩ (Iv ⟨911,0,u4,922,0,rfl,rfl,rfl⟩ (Iv ⟨912,0,u5,923,0,rfl,rfl,rfl⟩ E5))))
       refine AE (AE (AH ?_))
       first | refine J (AZ Z Z BL rfl) ?_ | refine J (AX Z Z Z BL rfl) ?_ | refine J (AY Z Z (rfl) rfl BL rfl) ?_
       refine U (Fn (HC hrep1 hok1 hK1) rfl [40] ⟨rfl,trivial⟩ Z Z Z Z Z Z Z Z Z) (AC Z Z ?_)
       first | refine J (Bn Z Z Z) ?_ | refine J (Bm Z Z Z) ?_
       first | refine J (Bn Z Z Z) ?_ | refine J (Bm Z Z Z) ?_
       refine AD Z Z (AD Z Z (AF (AE (AH (AC Z Z ?_)))))
       first | refine J (ET Z Z) ?_ | refine J (EQ Z Z) ?_
       refine AF ?_
       first | refine Az rfl (fun h61=>?_) (fun h61=>?_) | refine Aw rfl (fun h61=>?_) (fun h61=>?_)
       ·refine AE (AH (U (Bu Z Z Z Z Z Z Z H7) (AF (Aq ?_))));have hac:acyW (B3 w l)=false:=by simpa using h61
        have h0':lnkW w l=(w,26):=by rw [h0,hac];rfl
        refine ⟨_,HLk b l 26++ [(40,[.multi M1])],_,[910,911,912,913,40],_,_,_,LG hrep1 l hfR 26,rfl,?_,⟨rfl,rfl,rfl,rfl,rfl,trivial⟩,rfl,rfl,rfl,rfl,fun r H' ⟨e1,M',e2,h3⟩=>?_⟩
        ·exact (Iv ⟨913,0,u6,924,0,rfl,rfl,rfl⟩ (Iv ⟨910,0,u3,921,0,rfl,rfl,rfl⟩ (Iv ⟨911,0,u4,922,0,rfl,rfl,rfl⟩ (Iv ⟨912,0,u5,923,0,rfl,rfl,rfl⟩ E5))))
        ·subst e1 e2;exact ⟨⟨rfl,rfl,rfl⟩,_,[40],_,An rfl,rfl,rfl,M',by rw [h0'],rfl,by rw [h0'];rw [if_neg (by decide),KY hnK] at h3;exact h3⟩
       ·refine Ai (AE (AH (U (Bu Z Z Z Z Z Z Z H7) (AF (Aq ?_)))));have hac:acyW (B3 w l)=true:=by simpa using h61
        have h0':lnkW w l=(B3 w l,0):=by rw [h0,hac];rfl
        refine ⟨_,HLk b l 0++ [(40,[.multi M1])],_,[910,911,912,913,40],_,_,_,LG hrep1 l hfR 0,rfl,?_,⟨rfl,rfl,rfl,rfl,rfl,trivial⟩,rfl,rfl,rfl,rfl,fun r H' ⟨e1,M',e2,h3⟩=>?_⟩
        ·exact (Iv ⟨913,0,u6,924,0,rfl,rfl,rfl⟩ (Iv ⟨910,0,u3,921,0,rfl,rfl,rfl⟩ (Iv ⟨911,0,u4,922,0,rfl,rfl,rfl⟩ (Iv ⟨912,0,u5,923,0,rfl,rfl,rfl⟩ E5))))
        ·subst e1 e2;exact ⟨⟨rfl,rfl,rfl⟩,_,[40],_,An rfl,rfl,rfl,M',by rw [h0'],rfl,by rw [h0'];rw [if_pos rfl] at h3;exact h3⟩
 ·refine BA Z Z Z Z (BA Z Z Z Z (BA Z Z Z Z (J (Fo Z Z Z Z) (AD Z Z (AF (DM Z Z ?_))))))
  first | refine AE ?_ | refine CM hR ?_
  refine AH ?_
  first | refine J (AZ Z Z BL rfl) ?_ | refine J (AX Z Z Z BL rfl) ?_ | refine J (AY Z Z (rfl) rfl BL rfl) ?_
  first | refine J (AZ Z Z AR rfl) ?_ | refine J (AX Z Z Z AR rfl) ?_ | refine J (AY Z Z (rfl) rfl AR rfl) ?_
  refine U (Fn (GX hrep l.f) rfl [40] ⟨rfl,trivial⟩ Z Z Z Z Z Z Z Z Z) ?_
  first | refine J (ET Z Z) ?_ | refine J (EQ Z Z) ?_
  refine AC Z Z ?_
  first | refine It 26 rfl (fun h26=>?_) (fun h26=>?_) | refine I5 26 rfl (fun h26=>?_) (fun h26=>?_)
  ·refine BA Z Z Z Z (BA Z Z Z Z (BA Z Z Z Z (BA Z Z Z Z (BA Z Z Z Z (J (GZ Z Z Z Z) (AD Z Z (AF (IH Z Z ?_))))))))
   first | refine AE ?_ | refine CM hR ?_
   have h9:lnkW w l=(w,9):=Mw (by first | exact .inl (Classical.not_not.1 h16) | exact .inr (Classical.not_not.1 h12)) (by first | exact .inl h26 | exact .inr h21);refine AH (U (Bu Z Z Z Z Z Z Z H7) (AF (Aq ?_)));exact ⟨_,[40],_,An rfl,rfl,rfl,M,by rw [h9],rfl,by rw [h9];exact hrep⟩
  ·refine Aa Z Z Z ?_
   first | refine J (AZ Z Z BL rfl) ?_ | refine J (AX Z Z Z BL rfl) ?_ | refine J (AY Z Z (rfl) rfl BL rfl) ?_
   refine Aa Z Z Z ?_
   first | refine J (A2 rfl Bd Z Z Z) ?_ | refine J (A4 rfl Bd Z Z Z) ?_ | refine J (A5 rfl Bd Z Z Z) ?_ | refine J (A3 rfl Bd Z Z Z) ?_ | refine J (A1 rfl Bd Z Z Z) ?_
   refine Aa Z Z Z ?_
   first | refine J (AZ Z Z AR rfl) ?_ | refine J (AX Z Z Z AR rfl) ?_ | refine J (AY Z Z (rfl) rfl AR rfl) ?_
   refine Aa Z Z Z (U (Fn (GX hrep l.r) rfl [40] ⟨rfl,trivial⟩ Z Z Z Z Z Z Z Z Z) (Aa Z Z Z ?_))
   first | refine J (ET Z Z) ?_ | refine J (EQ Z Z) ?_
   refine J (Fo Z Z Z Z) (AD Z Z (AF ?_))
   first | refine Az rfl (fun h21=>?_) (fun h21=>?_) | refine Aw rfl (fun h21=>?_) (fun h21=>?_)
   ·first | refine AE ?_ | refine CM hR ?_
    have h9:lnkW w l=(w,9):=Mw (by first | exact .inl (Classical.not_not.1 h16) | exact .inr (Classical.not_not.1 h12)) (by first | exact .inl h26 | exact .inr h21);refine AH (U (Bu Z Z Z Z Z Z Z H7) (AF (Aq ?_)));exact ⟨_,[40],_,An rfl,rfl,rfl,M,by rw [h9],rfl,by rw [h9];exact hrep⟩
   ·first | refine AE ?_ | refine CM hR ?_
    have ht:l.t=0∨l.t=1:=by first | exact .inl (Classical.not_not.1 h16) | exact .inr (Classical.not_not.1 h12)
    have hfR:l.f∈w.R:=Classical.not_not.1 h26;have hrR:l.r∈w.R:=Classical.not_not.1 h21;refine AH ?_
    first | refine J (AZ Z Z AR rfl) ?_ | refine J (AX Z Z Z AR rfl) ?_ | refine J (AY Z Z (rfl) rfl AR rfl) ?_
    first | refine J (A2 rfl Bd Z Z Z) ?_ | refine J (A4 rfl Bd Z Z Z) ?_ | refine J (A5 rfl Bd Z Z Z) ?_ | refine J (A3 rfl Bd Z Z Z) ?_ | refine J (A1 rfl Bd Z Z Z) ?_
    first | refine J (AZ Z Z AR rfl) ?_ | refine J (AX Z Z Z AR rfl) ?_ | refine J (AY Z Z (rfl) rfl AR rfl) ?_
    first | refine J (FW Z Z Z) ?_ | refine J (FV Z Z Z) ?_ | refine J (FL Z Z Z) ?_ | refine J (FO Tryz.underlying9 Z Z Z) ?_ | refine J (FR Tryz.underlying9 Z Z Z) ?_ | refine J (FQ Tryz.underlying9 Z Z) ?_ | refine J (FU Tryz.underlying9 Z Z) ?_ | refine J (FT Tryz.underlying9 Z Z) ?_ | refine J (FP Tryz.underlying9 Z Z Z) ?_ | refine J (fSq Tryz.underlying9 Z Z) ?_
    refine AD Z Z (AF ?_)
    first | refine Az rfl (fun h33=>?_) (fun h33=>?_) | refine Aw rfl (fun h33=>?_) (fun h33=>?_)
    ·first | refine AE ?_ | refine CM hR ?_
     refine AH (U (Bu Z Z Z Z Z Z Z H7) (AF (Aq ?_)));exact ⟨_,[40],_,An rfl,rfl,rfl,M,by rw [Kj ht hfR hrR h33],rfl,by rw [Kj ht hfR hrR h33];exact hrep⟩
    ·first | refine AE ?_ | refine CM hR ?_
     obtain ⟨hd,hm⟩:=hl.at hfR;refine FK [[],[0],[0,1],[0,1,2],[],[0,1,2,3,4],[],[0,1,2,3,4,5,6],[0,1,2,3,4,5,6,7]] mixed rfl (D1 ?_)
     first | refine AG [3] [] Z Z (fun _=>AB (AZ Z Z BL rfl)) ?_ | refine AI [3] Z Z (fun _=>AB (AZ Z Z BL rfl)) ?_ | refine AG [3] [] Z Z (fun _=>AB (AX Z Z Z BL rfl)) ?_ | refine AI [3] Z Z (fun _=>AB (AX Z Z Z BL rfl)) ?_ | refine AG [3] [] Z Z (fun _=>AB (AY Z Z (rfl) rfl BL rfl)) ?_ | refine AI [3] Z Z (fun _=>AB (AY Z Z (rfl) rfl BL rfl)) ?_
     first | refine AG [39] [] Z Z (fun _=>AB (GP Z Z)) ?_ | refine AI [39] Z Z (fun _=>AB (GP Z Z)) ?_ | refine AG [39] [] Z Z (fun _=>AB (GR Z Z)) ?_ | refine AI [39] Z Z (fun _=>AB (GR Z Z)) ?_ | refine AG [39] [] Z Z (fun _=>AB (GQ Z Z)) ?_ | refine AI [39] Z Z (fun _=>AB (GQ Z Z)) ?_ | refine AG [39] [] Z Z (fun _=>AB (GS Z Z)) ?_ | refine AI [39] Z Z (fun _=>AB (GS Z Z)) ?_
     first | refine AG [40] [] Z Z (fun _=>AB (A2 rfl Ac Z Z Z)) ?_ | refine AI [40] Z Z (fun _=>AB (A2 rfl Ac Z Z Z)) ?_ | refine AG [40] [] Z Z (fun _=>AB (A4 rfl Ac Z Z Z)) ?_ | refine AI [40] Z Z (fun _=>AB (A4 rfl Ac Z Z Z)) ?_ | refine AG [40] [] Z Z (fun _=>AB (A5 rfl Ac Z Z Z)) ?_ | refine AI [40] Z Z (fun _=>AB (A5 rfl Ac Z Z Z)) ?_ | refine AG [40] [] Z Z (fun _=>AB (A3 rfl Ac Z Z Z)) ?_ | refine AI [40] Z Z (fun _=>AB (A3 rfl Ac Z Z Z)) ?_ | refine AG [40] [] Z Z (fun _=>AB (A1 rfl Ac Z Z Z)) ?_ | refine AI [40] Z Z (fun _=>AB (A1 rfl Ac Z Z Z)) ?_
     first | refine AG [41] [] Z Z (fun _=>AB (Gi (f:=40) Z Z (hr.cell) rfl CB rfl)) ?_ | refine AI [41] Z Z (fun _=>AB (Gi (f:=40) Z Z (hr.cell) rfl CB rfl)) ?_
     first | refine AG [4] [] Z Z (fun _=>AB (AZ Z Z AR rfl)) ?_ | refine AI [4] Z Z (fun _=>AB (AZ Z Z AR rfl)) ?_ | refine AG [4] [] Z Z (fun _=>AB (AX Z Z Z AR rfl)) ?_ | refine AI [4] Z Z (fun _=>AB (AX Z Z Z AR rfl)) ?_ | refine AG [4] [] Z Z (fun _=>AB (AY Z Z (rfl) rfl AR rfl)) ?_ | refine AI [4] Z Z (fun _=>AB (AY Z Z (rfl) rfl AR rfl)) ?_
     first | refine AG [42,43] [] Z Z (fun _=>AB (HY (f:=40) (eE E) l.f none (some hd) Z Z hr.top rfl Cc EU EX (Br hl.kd hm) rfl)) ?_ | refine AI [42,43] Z Z (fun _=>AB (HY (f:=40) (eE E) l.f none (some hd) Z Z hr.top rfl Cc EU EX (Br hl.kd hm) rfl)) ?_
     first | refine AG [5] [] Z Z (fun _=>AB (BN Z Z Am rfl)) ?_ | refine AI [5] Z Z (fun _=>AB (BN Z Z Am rfl)) ?_ | refine AG [5] [] Z Z (fun _=>AB (BO Z Z Am Z Z Z)) ?_ | refine AI [5] Z Z (fun _=>AB (BO Z Z Am Z Z Z)) ?_ | refine AG [5] [] Z Z (fun _=>AB (BP Z Z (rfl) rfl Am rfl)) ?_ | refine AI [5] Z Z (fun _=>AB (BP Z Z (rfl) rfl Am rfl)) ?_
     refine D2 7 Z Z Z (BY 8 Z Z (J (HY (f:=40) (DL (lk hd)) ⟨l.t,l.r⟩ false _ Z Z (hr.sub _ hm) rfl G8 J4 za4 (L5 _ _) rfl) (AF ⟨rfl,?_⟩)));refine BY 9 Z Z (AD Z Z (AF ⟨rfl,?_⟩));refine Eg ?_
     first | refine Az rfl (fun h38=>?_) (fun h38=>?_) | refine Aw rfl (fun h38=>?_) (fun h38=>?_)
     ·first | refine AE ?_ | refine CM hR ?_
      refine AH (U (Bu Z Z Z Z Z Z Z H7) (AF (Aq ?_)));have h7:=lnk7 ht hfR hrR h33 ((hl.ls _ hm _).1 h38);exact ⟨_,[40],_,An rfl,rfl,rfl,M,by rw [h7],rfl,by rw [h7];exact hrep⟩
     ·refine Ai ?_
      first | refine AE ?_ | refine CM hR ?_
      refine DF 921 910 0 Z Z Z Z Z fun u3=>(DF 922 911 0 Z Z Z Z Z fun u4=>(DF 923 912 0 Z Z Z Z Z fun u5=>(DF 924 913 0 Z Z Z Z Z fun u6=>(FK [[],[0],[0,1],[0,1,2],[],[0,1,2,3,4],[],[0,1,2,3,4,5,6]] mixed rfl (D1 ?_)))))
      first | refine AG [3] [] Z Z (fun _=>AB (AZ Z Z BL rfl)) ?_ | refine AI [3] Z Z (fun _=>AB (AZ Z Z BL rfl)) ?_ | refine AG [3] [] Z Z (fun _=>AB (AX Z Z Z BL rfl)) ?_ | refine AI [3] Z Z (fun _=>AB (AX Z Z Z BL rfl)) ?_ | refine AG [3] [] Z Z (fun _=>AB (AY Z Z (rfl) rfl BL rfl)) ?_ | refine AI [3] Z Z (fun _=>AB (AY Z Z (rfl) rfl BL rfl)) ?_
      first | refine AG [47] [] Z Z (fun _=>AB (GP Z Z)) ?_ | refine AI [47] Z Z (fun _=>AB (GP Z Z)) ?_ | refine AG [47] [] Z Z (fun _=>AB (GR Z Z)) ?_ | refine AI [47] Z Z (fun _=>AB (GR Z Z)) ?_ | refine AG [47] [] Z Z (fun _=>AB (GQ Z Z)) ?_ | refine AI [47] Z Z (fun _=>AB (GQ Z Z)) ?_ | refine AG [47] [] Z Z (fun _=>AB (GS Z Z)) ?_ | refine AI [47] Z Z (fun _=>AB (GS Z Z)) ?_
      first | refine AG [48] [] Z Z (fun _=>AB (A2 rfl Ac Z Z Z)) ?_ | refine AI [48] Z Z (fun _=>AB (A2 rfl Ac Z Z Z)) ?_ | refine AG [48] [] Z Z (fun _=>AB (A4 rfl Ac Z Z Z)) ?_ | refine AI [48] Z Z (fun _=>AB (A4 rfl Ac Z Z Z)) ?_ | refine AG [48] [] Z Z (fun _=>AB (A5 rfl Ac Z Z Z)) ?_ | refine AI [48] Z Z (fun _=>AB (A5 rfl Ac Z Z Z)) ?_ | refine AG [48] [] Z Z (fun _=>AB (A3 rfl Ac Z Z Z)) ?_ | refine AI [48] Z Z (fun _=>AB (A3 rfl Ac Z Z Z)) ?_ | refine AG [48] [] Z Z (fun _=>AB (A1 rfl Ac Z Z Z)) ?_ | refine AI [48] Z Z (fun _=>AB (A1 rfl Ac Z Z Z)) ?_
      first | refine AG [49] [] Z Z (fun _=>AB (Gi (f:=40) Z Z (hr.cell) rfl CB rfl)) ?_ | refine AI [49] Z Z (fun _=>AB (Gi (f:=40) Z Z (hr.cell) rfl CB rfl)) ?_
      first | refine AG [4] [] Z Z (fun _=>AB (AZ Z Z AR rfl)) ?_ | refine AI [4] Z Z (fun _=>AB (AZ Z Z AR rfl)) ?_ | refine AG [4] [] Z Z (fun _=>AB (AX Z Z Z AR rfl)) ?_ | refine AI [4] Z Z (fun _=>AB (AX Z Z Z AR rfl)) ?_ | refine AG [4] [] Z Z (fun _=>AB (AY Z Z (rfl) rfl AR rfl)) ?_ | refine AI [4] Z Z (fun _=>AB (AY Z Z (rfl) rfl AR rfl)) ?_
      first | refine AG [50,51] [] Z Z (fun _=>AB (HY (f:=40) (eE E) l.f none (some hd) Z Z hr.top rfl Cc EU EX (Br hl.kd hm) rfl)) ?_ | refine AI [50,51] Z Z (fun _=>AB (HY (f:=40) (eE E) l.f none (some hd) Z Z hr.top rfl Cc EU EX (Br hl.kd hm) rfl)) ?_
      first | refine AG [5] [] Z Z (fun _=>AB (BN Z Z Am rfl)) ?_ | refine AI [5] Z Z (fun _=>AB (BN Z Z Am rfl)) ?_ | refine AG [5] [] Z Z (fun _=>AB (BO Z Z Am Z Z Z)) ?_ | refine AI [5] Z Z (fun _=>AB (BO Z Z Am Z Z Z)) ?_ | refine AG [5] [] Z Z (fun _=>AB (BP Z Z (rfl) rfl Am rfl)) ?_ | refine AI [5] Z Z (fun _=>AB (BP Z Z (rfl) rfl Am rfl)) ?_
      refine D2 7 Z Z Z (BY 8 Z Z (U (F3 (f:=40) (DL (lk hd)) (⟨l.t,l.r⟩) (true) Z Z (hr.sub _ hm) rfl G8 J4 Z Z) (AF ⟨rfl,?_⟩)));refine Eg ?_;have hnK:l∉w.K:=fun hh=>h38 ((hl.ls _ hm _).2 hh);rw [L4 h38];have hrep1:Bg _ b (B3 w l):=MA hr hl hm (l:=⟨l.t,l.r⟩) hnK;have hok1:=hw.with_ ht hfR hrR h33 hnK;have hK1:(B3 w l).K.length≤1000000:=by show (w.K++ [l]).length≤_;rw [List.length_append,List.length_singleton];omega
      have h0:=OB ht hfR hrR h33 hnK
      obtain ⟨M1,hM1⟩:∃M1,BU M hd (.map none (DJ (lk hd++ [⟨l.t,l.r⟩])))=M1:=⟨_,rfl⟩
      rw [hM1] at hrep1⊢;refine Ol (xs:=[6,3,4,5]) (ars:=[.ptr 913 0 0,.ptr 910 0 0,.ptr 911 0 0,.ptr 912 0 0]) [.pointer (some ⟨u6,0,none⟩),.pointer (some ⟨u3,0,none⟩),.pointer (some ⟨u4,0,none⟩),.pointer (some ⟨u5,0,none⟩)] hD hlo hrnd Z Z Z ?_ ?_
      ·exact (Iv ⟨913,0,u6,924,0,rfl,rfl,rfl⟩ (Iv ⟨910,0,u3,921,0,rfl,rfl,rfl⟩ (Iv ⟨911,0,u4,922,0,rfl,rfl,rfl⟩ (Iv ⟨912,0,u5,923,0,rfl,rfl,rfl⟩ E5))))
      refine AE (AE (AH ?_))
      first | refine J (AZ Z Z BL rfl) ?_ | refine J (AX Z Z Z BL rfl) ?_ | refine J (AY Z Z (rfl) rfl BL rfl) ?_
      refine U (Fn (HC hrep1 hok1 hK1) rfl [40] ⟨rfl,trivial⟩ Z Z Z Z Z Z Z Z Z) (AC Z Z ?_)
      first | refine J (Bn Z Z Z) ?_ | refine J (Bm Z Z Z) ?_
      first | refine J (Bn Z Z Z) ?_ | refine J (Bm Z Z Z) ?_
      refine AD Z Z (AD Z Z (AF (AE (AH (AC Z Z ?_)))))
      first | refine J (ET Z Z) ?_ | refine J (EQ Z Z) ?_
      refine AF ?_
      first | refine Az rfl (fun h61=>?_) (fun h61=>?_) | refine Aw rfl (fun h61=>?_) (fun h61=>?_)
      ·refine AE (AH (U (Bu Z Z Z Z Z Z Z H7) (AF (Aq ?_))));have hac:acyW (B3 w l)=false:=by simpa using h61
       have h0':lnkW w l=(w,26):=by rw [h0,hac];rfl
       refine ⟨_,HLk b l 26++ [(40,[.multi M1])],_,[910,911,912,913,40],_,_,_,LG hrep1 l hfR 26,rfl,?_,⟨rfl,rfl,rfl,rfl,rfl,trivial⟩,rfl,rfl,rfl,rfl,fun r H' ⟨e1,M',e2,h3⟩=>?_⟩
       ·exact (Iv ⟨913,0,u6,924,0,rfl,rfl,rfl⟩ (Iv ⟨910,0,u3,921,0,rfl,rfl,rfl⟩ (Iv ⟨911,0,u4,922,0,rfl,rfl,rfl⟩ (Iv ⟨912,0,u5,923,0,rfl,rfl,rfl⟩ E5))))
       ·subst e1 e2;exact ⟨⟨rfl,rfl,rfl⟩,_,[40],_,An rfl,rfl,rfl,M',by rw [h0'],rfl,by rw [h0'];rw [if_neg (by decide),KY hnK] at h3;exact h3⟩
      ·refine Ai (AE (AH (U (Bu Z Z Z Z Z Z Z H7) (AF (Aq ?_)))));have hac:acyW (B3 w l)=true:=by simpa using h61
       have h0':lnkW w l=(B3 w l,0):=by rw [h0,hac];rfl
       refine ⟨_,HLk b l 0++ [(40,[.multi M1])],_,[910,911,912,913,40],_,_,_,LG hrep1 l hfR 0,rfl,?_,⟨rfl,rfl,rfl,rfl,rfl,trivial⟩,rfl,rfl,rfl,rfl,fun r H' ⟨e1,M',e2,h3⟩=>?_⟩
       ·exact (Iv ⟨913,0,u6,924,0,rfl,rfl,rfl⟩ (Iv ⟨910,0,u3,921,0,rfl,rfl,rfl⟩ (Iv ⟨911,0,u4,922,0,rfl,rfl,rfl⟩ (Iv ⟨912,0,u5,923,0,rfl,rfl,rfl⟩ E5))))
       ·subst e1 e2;exact ⟨⟨rfl,rfl,rfl⟩,_,[40],_,An rfl,rfl,rfl,M',by rw [h0'],rfl,by rw [h0'];rw [if_pos rfl] at h3;exact h3⟩
theorem unl9 {w:Ws} {l:Lw} (h:l∉w.K):unlW w l=(w,9):=by unfold unlW;rw [if_pos h]
theorem unl0 {w:Ws} {l:Lw} (h:l∈w.K):unlW w l=if acyW (C8 w l)=true then (C8 w l,0) else (w,26):=by unfold unlW;rw [if_neg fun hh=>hh h]
theorem SO {M:MF} {b m:Nat} {E:List (St×Nat)} {lk:Nat ->List Lk} {w:Ws} (hr:LR M b m E lk) (hl:LW E lk w) {x:St} {hd:Nat} (hm:(x,hd)∈E) {l:Lk} (hin:l∈lk hd):Bg (BU M hd (.map none (DJ ((lk hd).filter (fun y=>!decide (y=l))++ [l])))) b w:=by
 refine ⟨m,E,_,hr.set hm _,hl.set hr.nd hm rfl ?_ (fun l'=>?_) (fun l' hf=>Iff.rfl)⟩
 ·refine List.nodup_append.2 ⟨List.Nodup.sublist List.filter_sublist (hl.ld _ hm),by simp,fun a ha c hc e=>?_⟩;have:=(List.mem_filter.1 ha).2;rw [e,List.mem_singleton.1 hc] at this
  simp at this
 ·rw [←hl.ls _ hm l',List.mem_append,List.mem_filter,List.mem_singleton]
  constructor
  ·rintro (h | rfl)
   ·exact h.1
   ·exact hin
  ·intro h
   by_cases e:l'=l
   ·exact .inr e
   ·exact .inl ⟨h,by simp [e]⟩
theorem QV {M:MF} {b:Nat} {w:Ws} (h:Bg M b w) (hw:B1 w) (hK:w.K.length≤1000000) (l:Lw):AQ Tryz.prog 35 [.d (pD b 0),.d (AU l.f),.d (KG ⟨l.t,l.r⟩)] [(40,[.multi M])] fun r H'=>∃M',r= .d (B7 (unlW w l).2)∧H'=[(40,[.multi M'])]∧Bg M' b (unlW w l).1:=by
 have hrep:=h;obtain ⟨m,E,lk,hr,hl⟩:=h;refine CP Tryz.func35 Z Z Tryz.ntmps35 Z Z Z fun F hF=>?_;refine AE (AH (U (Gl 910 Z Z Z Z Z Z Z) (AD Z Z (AF (AE (AE (AH (AC Z Z ?_))))))))
 by_cases hfR:l.f∈w.R
 ·first | refine J (FW Z Z Z) ?_ | refine J (FV Z Z Z) ?_ | refine J (FL Z Z Z) ?_ | refine J (FO Tryz.underlying24 Z Z Z) ?_ | refine J (FR Tryz.underlying24 Z Z Z) ?_ | refine J (FQ Tryz.underlying24 Z Z) ?_ | refine J (FU Tryz.underlying24 Z Z) ?_ | refine J (FT Tryz.underlying24 Z Z) ?_ | refine J (FP Tryz.underlying24 Z Z Z) ?_ | refine J (fSq Tryz.underlying24 Z Z) ?_
  refine AF (DM rfl (rfl) (Ai (AE (AE (FK [[],[0],[0,1],[0,1,2],[],[0,1,2,3,4],[],[0,1,2,3,4,5,6],[0,1,2,3,4,5,6,7]] mixed rfl (D1 ?_))))))
  first | refine AG [0] [] Z Z (fun _=>AB (A8 Z Z)) ?_ | refine AI [0] Z Z (fun _=>AB (A8 Z Z)) ?_
  first | refine AG [11] [] Z Z (fun _=>AB (GP Z Z)) ?_ | refine AI [11] Z Z (fun _=>AB (GP Z Z)) ?_ | refine AG [11] [] Z Z (fun _=>AB (GR Z Z)) ?_ | refine AI [11] Z Z (fun _=>AB (GR Z Z)) ?_ | refine AG [11] [] Z Z (fun _=>AB (GQ Z Z)) ?_ | refine AI [11] Z Z (fun _=>AB (GQ Z Z)) ?_ | refine AG [11] [] Z Z (fun _=>AB (GS Z Z)) ?_ | refine AI [11] Z Z (fun _=>AB (GS Z Z)) ?_
  first | refine AG [12] [] Z Z (fun _=>AB (A2 rfl Ac Z Z Z)) ?_ | refine AI [12] Z Z (fun _=>AB (A2 rfl Ac Z Z Z)) ?_ | refine AG [12] [] Z Z (fun _=>AB (A4 rfl Ac Z Z Z)) ?_ | refine AI [12] Z Z (fun _=>AB (A4 rfl Ac Z Z Z)) ?_ | refine AG [12] [] Z Z (fun _=>AB (A5 rfl Ac Z Z Z)) ?_ | refine AI [12] Z Z (fun _=>AB (A5 rfl Ac Z Z Z)) ?_ | refine AG [12] [] Z Z (fun _=>AB (A3 rfl Ac Z Z Z)) ?_ | refine AI [12] Z Z (fun _=>AB (A3 rfl Ac Z Z Z)) ?_ | refine AG [12] [] Z Z (fun _=>AB (A1 rfl Ac Z Z Z)) ?_ | refine AI [12] Z Z (fun _=>AB (A1 rfl Ac Z Z Z)) ?_
  first | refine AG [13] [] Z Z (fun _=>AB (Gi (f:=40) Z Z (hr.cell) rfl CB rfl)) ?_ | refine AI [13] Z Z (fun _=>AB (Gi (f:=40) Z Z (hr.cell) rfl CB rfl)) ?_
  first | refine AG [1] [] Z Z (fun _=>AB (A8 Z Z)) ?_ | refine AI [1] Z Z (fun _=>AB (A8 Z Z)) ?_
  first | refine AG [14,15] [] Z Z (fun _=>AB (HY (f:=40) (eE E) (l.f) (none) _ Z Z (hr.top) rfl Cc EU EX Z Z)) ?_ | refine AI [14,15] Z Z (fun _=>AB (HY (f:=40) (eE E) (l.f) (none) _ Z Z (hr.top) rfl Cc EU EX Z Z)) ?_
  first | refine AG [5] [] Z Z (fun _=>AB (BN Z Z Am rfl)) ?_ | refine AI [5] Z Z (fun _=>AB (BN Z Z Am rfl)) ?_ | refine AG [5] [] Z Z (fun _=>AB (BO Z Z Am Z Z Z)) ?_ | refine AI [5] Z Z (fun _=>AB (BO Z Z Am Z Z Z)) ?_ | refine AG [5] [] Z Z (fun _=>AB (BP Z Z (rfl) rfl Am rfl)) ?_ | refine AI [5] Z Z (fun _=>AB (BP Z Z (rfl) rfl Am rfl)) ?_
  refine D2 7 Z Z Z (BY 8 Z Z ?_);obtain ⟨hd,hm⟩:=hl.at hfR;rw [Br hl.kd hm];refine J (HY (f:=40) (DL (lk hd)) ⟨l.t,l.r⟩ false _ Z Z (hr.sub _ hm) rfl G8 J4 za4 (L5 _ _) rfl) (AF ⟨rfl,?_⟩);refine BY 9 Z Z ?_
  first | refine J (ET Z Z) ?_ | refine J (EQ Z Z) ?_
  refine AF ⟨rfl,?_⟩;refine Eg ?_
  first | refine Az rfl (fun h19=>?_) (fun h19=>?_) | refine Aw rfl (fun h19=>?_) (fun h19=>?_)
  ·refine AE (AH (AD Z Z (AF (Aq ?_))));have h9:unlW w l=(w,9):=unl9 fun hh=>by first | exact h19 ((hl.ls _ hm _).2 hh) | exact hfR (hw.lk l hh).1
   exact ⟨_,[40],_,An rfl,rfl,rfl,M,by rw [h9],rfl,by rw [h9];exact hrep⟩
  ·refine Ai (AE ?_);have hin:(⟨l.t,l.r⟩:Lk)∈lk hd:=Classical.not_not.1 h19;have hlK:l∈w.K:=(hl.ls _ hm _).1 hin;have h0:=unl0 hlK;refine FK [[],[0],[0,1],[0,1,2],[],[0,1,2,3,4],[],[0,1,2,3,4,5,6]] mixed rfl (D1 ?_)
   first | refine AG [0] [] Z Z (fun _=>AB (A8 Z Z)) ?_ | refine AI [0] Z Z (fun _=>AB (A8 Z Z)) ?_
   first | refine AG [20] [] Z Z (fun _=>AB (GP Z Z)) ?_ | refine AI [20] Z Z (fun _=>AB (GP Z Z)) ?_ | refine AG [20] [] Z Z (fun _=>AB (GR Z Z)) ?_ | refine AI [20] Z Z (fun _=>AB (GR Z Z)) ?_ | refine AG [20] [] Z Z (fun _=>AB (GQ Z Z)) ?_ | refine AI [20] Z Z (fun _=>AB (GQ Z Z)) ?_ | refine AG [20] [] Z Z (fun _=>AB (GS Z Z)) ?_ | refine AI [20] Z Z (fun _=>AB (GS Z Z)) ?_
   first | refine AG [21] [] Z Z (fun _=>AB (A2 rfl Ac Z Z Z)) ?_ | refine AI [21] Z Z (fun _=>AB (A2 rfl Ac Z Z Z)) ?_ | refine AG [21] [] Z Z (fun _=>AB (A4 rfl Ac Z Z Z)) ?_ | refine AI [21] Z Z (fun _=>AB (A4 rfl Ac Z Z Z)) ?_ | refine AG [21] [] Z Z (fun _=>AB (A5 rfl Ac Z Z Z)) ?_ | refine AI [21] Z Z (fun _=>AB (A5 rfl Ac Z Z Z)) ?_ | refine AG [21] [] Z Z (fun _=>AB (A3 rfl Ac Z Z Z)) ?_ | refine AI [21] Z Z (fun _=>AB (A3 rfl Ac Z Z Z)) ?_ | refine AG [21] [] Z Z (fun _=>AB (A1 rfl Ac Z Z Z)) ?_ | refine AI [21] Z Z (fun _=>AB (A1 rfl Ac Z Z Z)) ?_
   first | refine AG [22] [] Z Z (fun _=>AB (Gi (f:=40) Z Z (hr.cell) rfl CB rfl)) ?_ | refine AI [22] Z Z (fun _=>AB (Gi (f:=40) Z Z (hr.cell) rfl CB rfl)) ?_
   first | refine AG [1] [] Z Z (fun _=>AB (A8 Z Z)) ?_ | refine AI [1] Z Z (fun _=>AB (A8 Z Z)) ?_
   first | refine AG [23,24] [] Z Z (fun _=>AB (HY (f:=40) (eE E) l.f none (some hd) Z Z hr.top rfl Cc EU EX (Br hl.kd hm) rfl)) ?_ | refine AI [23,24] Z Z (fun _=>AB (HY (f:=40) (eE E) l.f none (some hd) Z Z hr.top rfl Cc EU EX (Br hl.kd hm) rfl)) ?_
   first | refine AG [5] [] Z Z (fun _=>AB (BN Z Z Am rfl)) ?_ | refine AI [5] Z Z (fun _=>AB (BN Z Z Am rfl)) ?_ | refine AG [5] [] Z Z (fun _=>AB (BO Z Z Am Z Z Z)) ?_ | refine AI [5] Z Z (fun _=>AB (BO Z Z Am Z Z Z)) ?_ | refine AG [5] [] Z Z (fun _=>AB (BP Z Z (rfl) rfl Am rfl)) ?_ | refine AI [5] Z Z (fun _=>AB (BP Z Z (rfl) rfl Am rfl)) ?_
   refine D2 7 Z Z Z (BY 8 Z Z (U (Gq (f:=40) (DL (lk hd)) (⟨l.t,l.r⟩) (true) Z Z (hr.sub _ hm) rfl G8 J4 rfl) (AF ⟨rfl,?_⟩)));refine Eg (AE (AE ?_));rw [Io (hl.ld _ hm)];have hrep1:Bg _ b (C8 w l):=MO hr hl hm ⟨l.t,l.r⟩;have hr1:=hr.set hm ((lk hd).filter fun y=>!decide (y=⟨l.t,l.r⟩));have hK1:(C8 w l).K.length≤1000000:=Nat.le_trans (List.length_filter_le _ _) hK
   obtain ⟨M1,hM1⟩:∃M1,BU M hd (.map none (DJ ((lk hd).filter fun y=>!decide (y=⟨l.t,l.r⟩))))=M1:=⟨_,rfl⟩
   rw [hM1] at hrep1 hr1⊢;refine AH (AC Z Z (U (Fn (HC hrep1 (hw.sans l) hK1) rfl [40] ⟨rfl,trivial⟩ Z Z Z Z Z Z Z Z Z) (AC Z Z ?_)))
   first | refine J (Bn Z Z Z) ?_ | refine J (Bm Z Z Z) ?_
   first | refine J (Bn Z Z Z) ?_ | refine J (Bm Z Z Z) ?_
   refine AD Z Z (AD Z Z (AF (AE (AH (AC Z Z ?_)))))
   first | refine J (ET Z Z) ?_ | refine J (EQ Z Z) ?_
   refine AF ?_
   first | refine Az rfl (fun h33=>?_) (fun h33=>?_) | refine Aw rfl (fun h33=>?_) (fun h33=>?_)
   ·refine AE (FK [[],[0],[0,1],[0,1,2],[],[0,1,2,3,4],[],[0,1,2,3,4,5,6]] mixed rfl (D1 ?_))
    first | refine AG [0] [] Z Z (fun _=>AB (A8 Z Z)) ?_ | refine AI [0] Z Z (fun _=>AB (A8 Z Z)) ?_
    first | refine AG [34] [] Z Z (fun _=>AB (GP Z Z)) ?_ | refine AI [34] Z Z (fun _=>AB (GP Z Z)) ?_ | refine AG [34] [] Z Z (fun _=>AB (GR Z Z)) ?_ | refine AI [34] Z Z (fun _=>AB (GR Z Z)) ?_ | refine AG [34] [] Z Z (fun _=>AB (GQ Z Z)) ?_ | refine AI [34] Z Z (fun _=>AB (GQ Z Z)) ?_ | refine AG [34] [] Z Z (fun _=>AB (GS Z Z)) ?_ | refine AI [34] Z Z (fun _=>AB (GS Z Z)) ?_
    first | refine AG [35] [] Z Z (fun _=>AB (A2 rfl Ac Z Z Z)) ?_ | refine AI [35] Z Z (fun _=>AB (A2 rfl Ac Z Z Z)) ?_ | refine AG [35] [] Z Z (fun _=>AB (A4 rfl Ac Z Z Z)) ?_ | refine AI [35] Z Z (fun _=>AB (A4 rfl Ac Z Z Z)) ?_ | refine AG [35] [] Z Z (fun _=>AB (A5 rfl Ac Z Z Z)) ?_ | refine AI [35] Z Z (fun _=>AB (A5 rfl Ac Z Z Z)) ?_ | refine AG [35] [] Z Z (fun _=>AB (A3 rfl Ac Z Z Z)) ?_ | refine AI [35] Z Z (fun _=>AB (A3 rfl Ac Z Z Z)) ?_ | refine AG [35] [] Z Z (fun _=>AB (A1 rfl Ac Z Z Z)) ?_ | refine AI [35] Z Z (fun _=>AB (A1 rfl Ac Z Z Z)) ?_
    first | refine AG [36] [] Z Z (fun _=>AB (Gi (f:=40) Z Z (hr1.cell) rfl CB rfl)) ?_ | refine AI [36] Z Z (fun _=>AB (Gi (f:=40) Z Z (hr1.cell) rfl CB rfl)) ?_
    first | refine AG [1] [] Z Z (fun _=>AB (A8 Z Z)) ?_ | refine AI [1] Z Z (fun _=>AB (A8 Z Z)) ?_
    first | refine AG [37,38] [] Z Z (fun _=>AB (HY (f:=40) (eE E) l.f none (some hd) Z Z hr1.top rfl Cc EU EX (Br hl.kd hm) rfl)) ?_ | refine AI [37,38] Z Z (fun _=>AB (HY (f:=40) (eE E) l.f none (some hd) Z Z hr1.top rfl Cc EU EX (Br hl.kd hm) rfl)) ?_
    first | refine AG [5] [] Z Z (fun _=>AB (BN Z Z Am rfl)) ?_ | refine AI [5] Z Z (fun _=>AB (BN Z Z Am rfl)) ?_ | refine AG [5] [] Z Z (fun _=>AB (BO Z Z Am Z Z Z)) ?_ | refine AI [5] Z Z (fun _=>AB (BO Z Z Am Z Z Z)) ?_ | refine AG [5] [] Z Z (fun _=>AB (BP Z Z (rfl) rfl Am rfl)) ?_ | refine AI [5] Z Z (fun _=>AB (BP Z Z (rfl) rfl Am rfl)) ?_
    refine D2 7 Z Z Z (BY 8 Z Z (U (F3 (f:=40) (DL ((lk hd).filter fun y=>!decide (y=⟨l.t,l.r⟩))) (⟨l.t,l.r⟩) (true) Z Z ((by rw [hr1.sub _ hm,Di])) rfl G8 J4 Z Z) (AF ⟨rfl,?_⟩)));refine Eg (AE ?_);have hac:acyW (C8 w l)=false:=by simpa using h33
    have h26:unlW w l=(w,26):=by rw [h0,hac];rfl
    have hln:(⟨l.t,l.r⟩:Lk)∉(lk hd).filter fun y=>!decide (y=⟨l.t,l.r⟩):=fun hh=>by simpa using (List.mem_filter.1 hh).2
    rw [L4 hln,←hM1,SY];refine AH (AD Z Z (AF (Aq ?_)));exact ⟨_,[40],_,An rfl,rfl,rfl,_,by rw [h26],rfl,by rw [h26];exact SO hr hl hm hin⟩
   ·refine Ai (AE (AH (AD Z Z (AF (Aq ?_)))));have hac:acyW (C8 w l)=true:=by simpa using h33
    have h00:unlW w l=(C8 w l,0):=by rw [h0,if_pos hac]
    exact ⟨_,[40],_,An rfl,rfl,rfl,M1,by rw [h00],rfl,by rw [h00];exact hrep1⟩
 ·first | refine J (FW Z Z Z) ?_ | refine J (FV Z Z Z) ?_ | refine J (FL Z Z Z) ?_ | refine J (FO Tryz.underlying24 Z Z Z) ?_ | refine J (FR Tryz.underlying24 Z Z Z) ?_ | refine J (FQ Tryz.underlying24 Z Z) ?_ | refine J (FU Tryz.underlying24 Z Z) ?_ | refine J (FT Tryz.underlying24 Z Z) ?_ | refine J (FP Tryz.underlying24 Z Z Z) ?_ | refine J (fSq Tryz.underlying24 Z Z) ?_
  refine AF (DM rfl (rfl) (Ai (AE (AE (FK [[],[0],[0,1],[0,1,2],[],[0,1,2,3,4],[],[0,1,2,3,4,5,6],[0,1,2,3,4,5,6,7]] mixed rfl (D1 ?_))))))
  first | refine AG [0] [] Z Z (fun _=>AB (A8 Z Z)) ?_ | refine AI [0] Z Z (fun _=>AB (A8 Z Z)) ?_
  first | refine AG [11] [] Z Z (fun _=>AB (GP Z Z)) ?_ | refine AI [11] Z Z (fun _=>AB (GP Z Z)) ?_ | refine AG [11] [] Z Z (fun _=>AB (GR Z Z)) ?_ | refine AI [11] Z Z (fun _=>AB (GR Z Z)) ?_ | refine AG [11] [] Z Z (fun _=>AB (GQ Z Z)) ?_ | refine AI [11] Z Z (fun _=>AB (GQ Z Z)) ?_ | refine AG [11] [] Z Z (fun _=>AB (GS Z Z)) ?_ | refine AI [11] Z Z (fun _=>AB (GS Z Z)) ?_
  first | refine AG [12] [] Z Z (fun _=>AB (A2 rfl Ac Z Z Z)) ?_ | refine AI [12] Z Z (fun _=>AB (A2 rfl Ac Z Z Z)) ?_ | refine AG [12] [] Z Z (fun _=>AB (A4 rfl Ac Z Z Z)) ?_ | refine AI [12] Z Z (fun _=>AB (A4 rfl Ac Z Z Z)) ?_ | refine AG [12] [] Z Z (fun _=>AB (A5 rfl Ac Z Z Z)) ?_ | refine AI [12] Z Z (fun _=>AB (A5 rfl Ac Z Z Z)) ?_ | refine AG [12] [] Z Z (fun _=>AB (A3 rfl Ac Z Z Z)) ?_ | refine AI [12] Z Z (fun _=>AB (A3 rfl Ac Z Z Z)) ?_ | refine AG [12] [] Z Z (fun _=>AB (A1 rfl Ac Z Z Z)) ?_ | refine AI [12] Z Z (fun _=>AB (A1 rfl Ac Z Z Z)) ?_
  first | refine AG [13] [] Z Z (fun _=>AB (Gi (f:=40) Z Z (hr.cell) rfl CB rfl)) ?_ | refine AI [13] Z Z (fun _=>AB (Gi (f:=40) Z Z (hr.cell) rfl CB rfl)) ?_
  first | refine AG [1] [] Z Z (fun _=>AB (A8 Z Z)) ?_ | refine AI [1] Z Z (fun _=>AB (A8 Z Z)) ?_
  first | refine AG [14,15] [] Z Z (fun _=>AB (HY (f:=40) (eE E) (l.f) (none) _ Z Z (hr.top) rfl Cc EU EX Z Z)) ?_ | refine AI [14,15] Z Z (fun _=>AB (HY (f:=40) (eE E) (l.f) (none) _ Z Z (hr.top) rfl Cc EU EX Z Z)) ?_
  first | refine AG [5] [] Z Z (fun _=>AB (BN Z Z Am rfl)) ?_ | refine AI [5] Z Z (fun _=>AB (BN Z Z Am rfl)) ?_ | refine AG [5] [] Z Z (fun _=>AB (BO Z Z Am Z Z Z)) ?_ | refine AI [5] Z Z (fun _=>AB (BO Z Z Am Z Z Z)) ?_ | refine AG [5] [] Z Z (fun _=>AB (BP Z Z (rfl) rfl Am rfl)) ?_ | refine AI [5] Z Z (fun _=>AB (BP Z Z (rfl) rfl Am rfl)) ?_
  refine D2 7 Z Z Z (BY 8 Z Z ?_);rw [On fun hh=>hfR ((hl.ks _).1 hh)];refine J (Q0 (eK:=KG) ⟨l.t,l.r⟩ Z Z G8 J4 za4 rfl) (AF ⟨rfl,?_⟩);refine BY 9 Z Z ?_
  first | refine J (ET Z Z) ?_ | refine J (EQ Z Z) ?_
  refine AF ⟨rfl,?_⟩;refine Eg (IH rfl (rfl) (AE (AH (AD Z Z (AF (Aq ?_))))));have h9:unlW w l=(w,9):=unl9 fun hh=>by first | exact h19 ((hl.ls _ hm _).2 hh) | exact hfR (hw.lk l hh).1
  exact ⟨_,[40],_,An rfl,rfl,rfl,M,by rw [h9],rfl,by rw [h9];exact hrep⟩
theorem Rt {M:MF} {b:Nat} {w:Ws} (h:Bg M b w) (hw:B1 w) (hK:w.K.length≤1000000):AQ Tryz.prog 20 [.d (pD b 0)] [(40,[.multi M])] fun r H'=>r= .d (Ip (groupsW w))∧H'=[(40,[.multi M])]:=by
 refine CP Tryz.func20 Z Z Tryz.ntmps20 Z Z Z fun F hF=>(AE (AH (AD Z Z (AF (AE (AE (AH (AC Z Z ?_))))))))
 first | refine J (FW Z Z Z) ?_ | refine J (FV Z Z Z) ?_ | refine J (FL Z Z Z) ?_ | refine J (FO Tryz.underlying24 Z Z Z) ?_ | refine J (FR Tryz.underlying24 Z Z Z) ?_ | refine J (FQ Tryz.underlying24 Z Z) ?_ | refine J (FU Tryz.underlying24 Z Z) ?_ | refine J (FT Tryz.underlying24 Z Z) ?_ | refine J (FP Tryz.underlying24 Z Z Z) ?_ | refine J (fSq Tryz.underlying24 Z Z) ?_
 refine AF (DM rfl (rfl) (Ai (AE (AH (AC Z Z (U (Fn (HC h hw hK) rfl [40] ⟨rfl,trivial⟩ Z Z Z Z Z Z Z Z Z) (AC Z Z ?_)))))))
 first | refine J (Bn Z Z Z) ?_ | refine J (Bm Z Z Z) ?_
 first | refine J (Bn Z Z Z) ?_ | refine J (Bm Z Z Z) ?_
 refine AD Z Z (AD Z Z (AF (AE (AH (AC Z Z (AD Z Z (AF (Aq ?_))))))));exact ⟨_,[40],_,An rfl,rfl,rfl,rfl,rfl⟩
theorem NX {M:MF} {b:Nat} {w:Ws} (h:Bg M b w) (hw:B1 w) (hK:w.K.length≤1000000) (a:St):AQ Tryz.prog 14 [.d (pD b 0),.d (AU a)] [(40,[.multi M])] fun r H'=>r= .d (if a∈w.R then stsD (cloW w a false) else .sl (some true) [])∧H'=[(40,[.multi M])]:=by
 refine CP Tryz.func14 Z Z Tryz.ntmps14 Z Z Z fun F hF=>(AE (AH (AD Z Z ?_)));refine AF (AE (AH (AC Z Z (AC Z Z (U (Fn (cloF_c h hw hK a) rfl [40] ⟨rfl,trivial⟩ Z Z Z Z Z Z Z Z Z) (AD Z Z (AF (Aq ?_))))))));exact ⟨_,[40],_,An rfl,rfl,rfl,rfl,rfl⟩
theorem SN {M:MF} {b:Nat} {w:Ws} (h:Bg M b w) (hw:B1 w) (hK:w.K.length≤1000000) (a:St):AQ Tryz.prog 16 [.d (pD b 0),.d (AU a)] [(40,[.multi M])] fun r H'=>r= .d (if a∈w.R then stsD (cloW w a true) else .sl (some true) [])∧H'=[(40,[.multi M])]:=by
 refine CP Tryz.func16 Z Z Tryz.ntmps16 Z Z Z fun F hF=>(AE (AH (AD Z Z ?_)));refine AF (AE (AH (AC Z Z (AC Z Z (U (Fn (cloT_c h hw hK a) rfl [40] ⟨rfl,trivial⟩ Z Z Z Z Z Z Z Z Z) (AD Z Z (AF (Aq ?_))))))));exact ⟨_,[40],_,An rfl,rfl,rfl,rfl,rfl⟩
abbrev sa:St:=[97]
abbrev sb:St:=[98]
abbrev sc:St:=[99]
abbrev w1:Ws:=⟨[sa],[]⟩
abbrev w2:Ws:=⟨[sa,sb],[]⟩
abbrev w3:Ws:=⟨[sa,sb,sc],[]⟩
abbrev w4:Ws:=⟨[sa,sb,sc],[⟨sa,0,sb⟩]⟩
abbrev w5:Ws:=⟨[sa,sb,sc],[⟨sa,0,sb⟩,⟨sc,1,sa⟩]⟩
theorem Lb:addW ⟨[],[]⟩ sa=(w1,0):=by unfold addW;rw [if_neg (by decide),if_neg (by decide),if_neg (by decide)];rfl
theorem OD:addW w1 sb=(w2,0):=by unfold addW;rw [if_neg (by decide),if_neg (by decide),if_neg (by decide)];rfl
theorem Rn:addW w2 sc=(w3,0):=by unfold addW;rw [if_neg (by decide),if_neg (by decide),if_neg (by decide)];rfl
theorem k_ok1:B1 w1:=by have:=(DH.nil.add sa).ok;rw [Lb] at this;exact this
theorem k_ok2:B1 w2:=by have:=((DH.nil.add sa).add sb).ok;rw [Lb,OD] at this;exact this
theorem k_ok3:B1 w3:=by have:=(((DH.nil.add sa).add sb).add sc).ok;rw [Lb,OD,Rn] at this;exact this
theorem Rg:B1 w4:=k_ok3.with_ (l:=⟨sa,0,sb⟩) (by decide) (by decide) (by decide) (by decide) (by decide)
theorem HT:B1 w5:=Rg.with_ (l:=⟨sc,1,sa⟩) (by decide) (by decide) (by decide) (by decide) (by decide)
theorem k_con {x y:St}:Gm w5 x y↔x=y∨(x=sa∧y=sb)∨(x=sb∧y=sa):=by
 constructor
 ·intro h;refine BM.closed (p:=fun y=>x=y∨(x=sa∧y=sb)∨(x=sb∧y=sa)) (fun p q hp hq=>?_) (.inl rfl) h
  simp [KN] at hq
  rcases hq with ⟨rfl,rfl⟩ | ⟨rfl,rfl⟩
  ·rcases hp with rfl | ⟨rfl,e⟩ | ⟨rfl,e⟩
   ·exact .inr (.inl ⟨rfl,rfl⟩)
   ·exact absurd e (by decide)
   ·exact .inl rfl
  ·rcases hp with rfl | ⟨rfl,e⟩ | ⟨rfl,e⟩
   ·exact .inr (.inr ⟨rfl,rfl⟩)
   ·exact .inl rfl
   ·exact absurd e (by decide)
 ·rintro (rfl | ⟨rfl,rfl⟩ | ⟨rfl,rfl⟩)
  ·exact .refl
  ·exact BM.one (.inl (by simp))
  ·exact BM.one (.inr (by simp))
theorem k_acy4:acyW w4=true:=by
 rw [Fm Rg];rintro ⟨Y,⟨x,hx⟩,h⟩;obtain ⟨_,l,hl,ht,_⟩:=h x hx;rw [List.mem_singleton.1 hl] at ht;exact absurd ht (by decide)
theorem k_acy5:acyW w5=true:=by
 rw [Fm HT];rintro ⟨Y,⟨x,hx⟩,h⟩
 have key:∀x,Y x ->Gm w5 x sc∧Y sa:=fun x hx=>by
  obtain ⟨_,l,hl,ht,hc,_,hy⟩:=h x hx;rcases List.mem_cons.1 hl with rfl | hl
  ·exact absurd ht (by decide)
  ·rw [List.mem_singleton.1 hl] at hc hy;exact ⟨hc,hy⟩
 have h1:=(key _ (key x hx).2).1;rw [k_con] at h1;exact absurd h1 (by decide)
theorem k_lnk1:lnkW w3 ⟨sa,0,sb⟩=(w4,0):=by rw [OB (by decide) (by decide) (by decide) (by decide) (by decide)];exact if_pos k_acy4
theorem k_lnk2:lnkW w4 ⟨sc,1,sa⟩=(w5,0):=by rw [OB (by decide) (by decide) (by decide) (by decide) (by decide)];exact if_pos k_acy5
theorem La {x y:St}:Gm (B3 w5 ⟨sb,1,sc⟩) x y↔Gm w5 x y:=by
 constructor<;>refine BM.mono fun p q hq=>?_
 ·simp [KN,B3] at hq⊢;exact hq
 ·simp [KN,B3] at hq⊢;exact hq
theorem k_lnk3:lnkW w5 ⟨sb,1,sc⟩=(w5,26):=by
 rw [OB (by decide) (by decide) (by decide) (by decide) (by decide)];refine if_neg fun h=>?_;rw [Fm (HT.with_ (l:=⟨sb,1,sc⟩) (by decide) (by decide) (by decide) (by decide) (by decide))] at h;refine h ⟨fun x=>x∈w5.R,⟨sa,by decide⟩,fun x hx=>⟨hx,?_⟩⟩;have hx':x=sa∨x=sb∨x=sc:=by simpa using hx
 rcases hx' with rfl | rfl | rfl
 ·exact ⟨⟨sb,1,sc⟩,by simp [B3],rfl,La.2 (k_con.2 (by decide)),fun hh=>absurd (k_con.1 (La.1 hh)) (by decide),by decide⟩
 ·exact ⟨⟨sb,1,sc⟩,by simp [B3],rfl,.refl,fun hh=>absurd (k_con.1 (La.1 hh)) (by decide),by decide⟩
 ·exact ⟨⟨sc,1,sa⟩,by simp [B3],rfl,.refl,fun hh=>absurd (k_con.1 (La.1 hh)) (by decide),by decide⟩
theorem k_cls:cls w5 sa=[sa,sb]∧cls w5 sc=[sc]:=by
 unfold cls;simp only [k_con]
 constructor<;>rfl
open Classical in
theorem L9:parts w5=[[sa,sb],[sc]]:=by
 unfold parts
 have h1:KQ w5 sa:=fun x hx hc=>by
  rcases k_con.1 hc with rfl | ⟨_,rfl⟩ | ⟨e,_⟩
  ·decide
  ·decide
  ·exact absurd e (by decide)
 have h2:¬KQ w5 sb:=fun h=>h sa (by decide) (k_con.2 (by decide)) (by decide)
 have h3:KQ w5 sc:=fun x hx hc=>by
  rcases k_con.1 hc with rfl | ⟨e,_⟩ | ⟨e,_⟩
  ·decide
  ·exact absurd e (by decide)
  ·exact absurd e (by decide)
 show List.map _ (List.filter _ [sa,sb,sc])=_;rw [List.filter_cons_of_pos (p:=fun a=>decide (KQ w5 a)) (by exact decide_eq_true h1),List.filter_cons_of_neg (p:=fun a=>decide (KQ w5 a)) (by show ¬decide (KQ w5 sb)=true;rw [decide_eq_true_eq];exact h2),List.filter_cons_of_pos (p:=fun a=>decide (KQ w5 a)) (by exact decide_eq_true h3),List.filter_nil,List.map_cons,List.map_cons,k_cls.1,k_cls.2];rfl
theorem Oh:idx w5 sa=0∧idx w5 sb=0∧idx w5 sc=1:=by
 unfold idx;rw [L9];decide
theorem Rl:depL w5 0=[]:=by
 refine List.eq_nil_iff_forall_not_mem.2 fun k hk=>?_;obtain ⟨_,l,hl,ht,hf,_⟩:=(CK HT).1 hk;rcases List.mem_cons.1 hl with rfl | hl
 ·exact absurd ht (by decide)
 ·rw [List.mem_singleton.1 hl] at hf;rw [show idx w5 sc=1 from Oh.2.2] at hf;cases hf
theorem Rk:depL w5 1=[0]:=by
 refine JH (Ff _ _) (by simp) fun k=>?_;rw [CK HT]
 constructor
 ·rintro ⟨_,l,hl,ht,hf,hr⟩;rcases List.mem_cons.1 hl with rfl | hl
  ·exact absurd ht (by decide)
  ·rw [List.mem_singleton.1 hl] at hr;rw [show idx w5 sa=0 from Oh.1] at hr;simp [←hr]
 ·intro hk;rw [List.mem_singleton.1 hk];exact ⟨by decide,⟨sc,1,sa⟩,by decide,rfl,Oh.2.2,Oh.1⟩
theorem k_ord:ordW w5=some [0,1]:=by
 unfold ordW;rw [L9];have h0:Hj 2 (depL w5) []=some 0:=Ep (by decide) (Ca.2 ⟨by simp,by rw [Rl];simp⟩) (fun j hj=>by omega)
 have h1:Hj 2 (depL w5) [0]=some 1:=Ep (by decide) (Ca.2 ⟨by simp,by rw [Rk];simp⟩) (fun j hj=>by
  have:j=0:=by omega
  subst this
  rw [Bool.eq_false_iff];intro h;exact (Ca.1 h).1 (by simp))
 show Gt 2 (depL w5) 2 []=_;simp only [Gt,h0,List.nil_append,h1]
 rfl
theorem Rj:groupsW w5=[⟨[sa,sb],[]⟩,⟨[sc],[0]⟩]:=by
 rw [(Ld k_ord).1];unfold grpS FN;rw [L9]
 simp [List.range_succ,Rl,Rk]
theorem Rm:cloW w5 sc false=[sa,sb,sc]:=by
 refine Ii (NU HT _ _) HT.srt fun x=>?_;rw [J1];refine ⟨fun h=>h.1,fun h=>⟨h,?_⟩⟩;have h1:BM (Stp w5 false) sc sa:=BM.one (.inr (show (⟨sc,1,sa⟩:Lw)∈w5.K by decide));have hx:x=sa∨x=sb∨x=sc:=by simpa using h
 rcases hx with rfl | rfl | rfl
 ·exact h1
 ·exact h1.tail (.inl (.inl (by decide)))
 ·exact .refl
theorem Dg {l:List St} {k:Nat} (h:k<l.length):(l.map AU)[k]? =some (AU (l.getD k [])):=by
 rw [List.getElem?_map,List.getElem?_eq_getElem h,List.getD_eq_getElem?_getD,List.getElem?_eq_getElem h];rfl
theorem take_eq {l l':List St} {k:Nat} (h1:k<l.length) (h2:k<l'.length) (h:l.take k=l'.take k) (e:l.getD k []=l'.getD k []):l.take (k+1)=l'.take (k+1):=by
 rw [List.take_succ_eq_append_getElem h1,List.take_succ_eq_append_getElem h2,h];rw [List.getD_eq_getElem?_getD,List.getElem?_eq_getElem h1,List.getD_eq_getElem?_getD,List.getElem?_eq_getElem h2] at e;exact congrArg (fun x=>l'.take k++ [x]) e
theorem GE (l l':List St) (hl:l.length≤1000000):Ak Tryz.prog 11 [.d (stsD l),.d (stsD l')] (Ad (decide (l=l'))):=by
 refine CP Tryz.func11 Z Z Tryz.ntmps11 Z Z Z fun F hF=>(AE (AH ?_));refine AD Z Z (AF (AE (AE (AH (AC Z Z (J (Bs rfl (List.length_map ..) Tryz.underlying25 rfl) (AC Z Z (J (Bs rfl (List.length_map ..) Tryz.underlying25 rfl) ?_))))))))
 first | refine J (I8 Z Z Z) ?_ | refine J (I7 Z Z Z) ?_ | refine J (IF Z Z Z) ?_ | refine J (I2 Tryz.underlying3 Z Z Z) ?_ | refine J (I4 Tryz.underlying3 Z Z Z) ?_ | refine J (st_neqN Tryz.underlying3 Z Z) ?_ | refine J (st_neqPr Tryz.underlying3 Z Z) ?_ | refine J (st_neqMz Tryz.underlying3 Z Z) ?_ | refine J (I3 Tryz.underlying3 Z Z Z) ?_ | refine J (st_neqFN Tryz.underlying3 Z Z) ?_
 refine AF ?_
 first | refine Az rfl (fun h10=>?_) (fun h10=>?_) | refine Aw rfl (fun h10=>?_) (fun h10=>?_)
 ·refine AE (AH (AD Z Z (AF (Aq ?_))));exact ⟨_,[],[],An rfl,rfl,rfl,by rw [decide_eq_false fun e=>h10 (by rw [e])],rfl⟩
 ·refine Ai (AE (AE ?_));have hll:l.length=l'.length:=Int.ofNat.inj (Classical.not_not.1 h10);refine AH (AD Z Z (AF (BH (Ls (α:=Nat) (fun k=>⟨26,[(0,.d (stsD l)),(1,.d (stsD l')),(5,(.d (natD k)))],[]⟩) (fun k=>k≤l.length∧l.take k=l'.take k) (fun k=>l.length - k) (0) (⟨Nat.zero_le _,rfl⟩) (Ec ⟨rfl,rfl,rfl,trivial⟩) ?_))));rintro k ⟨hk,he⟩;refine AE (AE (AH (AC Z Z (AC Z Z (J (Bs rfl (List.length_map ..) Tryz.underlying25 rfl) ?_)))))
  first | refine J (D3 Z Z Z) ?_ | refine J (D4 Z Z Z) ?_
  refine AF ?_
  first | refine Az rfl (fun h14=>?_) (fun h14=>?_) | refine Aw rfl (fun h14=>?_) (fun h14=>?_)
  ·refine Ai (AE (BH (AE ?_)));have hkl:k<l.length:=F1 h14;have hkl':k<l'.length:=by omega
   refine FK [[],[],[0,1],[0,1,2],[],[],[4,5],[4,5,6],[0,1,2,3,4,5,6,7]] mixed rfl (D1 ?_)
   first | refine AG [0] [] Z Z (fun _=>AB (A8 Z Z)) ?_ | refine AI [0] Z Z (fun _=>AB (A8 Z Z)) ?_
   first | refine AG [5] [] Z Z (fun _=>AB (A8 Z Z)) ?_ | refine AI [5] Z Z (fun _=>AB (A8 Z Z)) ?_
   first | refine AG [17,18] [] Z Z (fun _=>AB (BE (k) Z Z (rfl) (Dg hkl) Tryz.underlying25 rfl DW rfl)) ?_ | refine AI [17,18] Z Z (fun _=>AB (BE (k) Z Z (rfl) (Dg hkl) Tryz.underlying25 rfl DW rfl)) ?_ | refine AG [17,18] [] Z Z (fun _=>AB (BF (k) Z Z (rfl) (Dg hkl) rfl Tryz.underlying25 DW rfl)) ?_ | refine AI [17,18] Z Z (fun _=>AB (BF (k) Z Z (rfl) (Dg hkl) rfl Tryz.underlying25 DW rfl)) ?_
   first | refine AG [19] [] Z Z (fun _=>AB (AZ Z Z AR rfl)) ?_ | refine AI [19] Z Z (fun _=>AB (AZ Z Z AR rfl)) ?_ | refine AG [19] [] Z Z (fun _=>AB (AX Z Z Z AR rfl)) ?_ | refine AI [19] Z Z (fun _=>AB (AX Z Z Z AR rfl)) ?_ | refine AG [19] [] Z Z (fun _=>AB (AY Z Z (rfl) rfl AR rfl)) ?_ | refine AI [19] Z Z (fun _=>AB (AY Z Z (rfl) rfl AR rfl)) ?_
   first | refine AG [1] [] Z Z (fun _=>AB (A8 Z Z)) ?_ | refine AI [1] Z Z (fun _=>AB (A8 Z Z)) ?_
   first | refine AG [5] [] Z Z (fun _=>AB (A8 Z Z)) ?_ | refine AI [5] Z Z (fun _=>AB (A8 Z Z)) ?_
   first | refine AG [21,22] [] Z Z (fun _=>AB (BE (k) Z Z (rfl) (Dg hkl') Tryz.underlying25 rfl DW rfl)) ?_ | refine AI [21,22] Z Z (fun _=>AB (BE (k) Z Z (rfl) (Dg hkl') Tryz.underlying25 rfl DW rfl)) ?_ | refine AG [21,22] [] Z Z (fun _=>AB (BF (k) Z Z (rfl) (Dg hkl') rfl Tryz.underlying25 DW rfl)) ?_ | refine AI [21,22] Z Z (fun _=>AB (BF (k) Z Z (rfl) (Dg hkl') rfl Tryz.underlying25 DW rfl)) ?_
   first | refine AG [23] [] Z Z (fun _=>AB (AZ Z Z AR rfl)) ?_ | refine AI [23] Z Z (fun _=>AB (AZ Z Z AR rfl)) ?_ | refine AG [23] [] Z Z (fun _=>AB (AX Z Z Z AR rfl)) ?_ | refine AI [23] Z Z (fun _=>AB (AX Z Z Z AR rfl)) ?_ | refine AG [23] [] Z Z (fun _=>AB (AY Z Z (rfl) rfl AR rfl)) ?_ | refine AI [23] Z Z (fun _=>AB (AY Z Z (rfl) rfl AR rfl)) ?_
   refine D2 8 Z Z Z (BY 9 Z Z ?_)
   first | refine J (I8 Z Z Z) ?_ | refine J (I7 Z Z Z) ?_ | refine J (IF Z Z Z) ?_ | refine J (I2 Tryz.underlying9 Z Z Z) ?_ | refine J (I4 Tryz.underlying9 Z Z Z) ?_ | refine J (st_neqN Tryz.underlying9 Z Z) ?_ | refine J (st_neqPr Tryz.underlying9 Z Z) ?_ | refine J (st_neqMz Tryz.underlying9 Z Z) ?_ | refine J (I3 Tryz.underlying9 Z Z Z) ?_ | refine J (st_neqFN Tryz.underlying9 Z Z) ?_
   refine AF ⟨rfl,?_⟩;refine Eg ?_
   first | refine Az rfl (fun h25=>?_) (fun h25=>?_) | refine Aw rfl (fun h25=>?_) (fun h25=>?_)
   ·refine AE (AH (AD Z Z (AF (Aq ?_))));exact ⟨_,[],[],An rfl,rfl,rfl,by rw [decide_eq_false fun e=>h25 (by rw [e])],rfl⟩
   ·refine Ai (AH (AC Z Z (J (CG Z Z (IntWalk.i64_in _ (by omega)) rfl) (AD Z Z (AF ?_)))));exact ⟨k+1,⟨hkl,take_eq hkl (by omega) he (Classical.not_not.1 h25)⟩,by omega,⟨rfl,rfl,fun _ _=>Has.get (l:=[(0,_),(1,_),(5,_)]) ⟨rfl,rfl,rfl,trivial⟩⟩⟩
  ·refine C5 (AE ?_);have hke:k=l.length:=by have:=h14;omega
   refine AH (AD Z Z (AF (Aq ?_)));exact ⟨_,[],[],An rfl,rfl,rfl,by rw [decide_eq_true (by have h1:=he;rw [hke,List.take_length,hll,List.take_length] at h1;exact h1)],rfl⟩
theorem known_p:Ak Tryz.prog 4 [] (.raw (.bool true)):=by
 refine CP Tryz.func4 Z Z Tryz.ntmps4 Z Z Z fun F hF=>(AE (AH (AD Z Z (AF (AE (AH ?_))))));refine H1 (If RW rfl [40] ⟨rfl,trivial⟩ Z Z Z Z (fun r H' ⟨b,M,e1,e2,_⟩=>by subst e1 e2;exact ⟨rfl,rfl,rfl⟩) rfl) rfl ?_;rintro _ ⟨r,H',⟨b,M0,e1,e2,h0⟩,rfl⟩;subst e1 e2;refine AD Z Z (AF (AE (AE (AH (AC Z Z ?_)))))
 first | refine J (FW Z Z Z) ?_ | refine J (FV Z Z Z) ?_ | refine J (FL Z Z Z) ?_ | refine J (FO Tryz.underlying24 Z Z Z) ?_ | refine J (FR Tryz.underlying24 Z Z Z) ?_ | refine J (FQ Tryz.underlying24 Z Z) ?_ | refine J (FU Tryz.underlying24 Z Z) ?_ | refine J (FT Tryz.underlying24 Z Z) ?_ | refine J (FP Tryz.underlying24 Z Z Z) ?_ | refine J (fSq Tryz.underlying24 Z Z) ?_
 refine AC Z Z (Eo 6 rfl (rfl) (Aa Z Z Z (AC Z Z (Aa Z Z Z ?_))));refine H1 (If (Ot h0 DH.nil.ok sa) rfl [40] ⟨rfl,trivial⟩ Z Z Z Z (fun r H' ⟨M,e1,e2,_⟩=>by subst e1 e2;exact ⟨rfl,rfl,rfl⟩) rfl) rfl ?_;rintro _ ⟨r,H',⟨M1,e1,e2,h1⟩,rfl⟩;subst e1 e2;rw [Lb] at h1⊢;refine Aa Z Z Z ?_
 first | refine J (I8 Z Z Z) ?_ | refine J (I7 Z Z Z) ?_ | refine J (IF Z Z Z) ?_ | refine J (I2 Tryz.underlying47 Z Z Z) ?_ | refine J (I4 Tryz.underlying47 Z Z Z) ?_ | refine J (st_neqN Tryz.underlying47 Z Z) ?_ | refine J (st_neqPr Tryz.underlying47 Z Z) ?_ | refine J (st_neqMz Tryz.underlying47 Z Z) ?_ | refine J (I3 Tryz.underlying47 Z Z Z) ?_ | refine J (st_neqFN Tryz.underlying47 Z Z) ?_
 refine J (Fo Z Z Z Z) (AC Z Z (Eo 11 rfl (rfl) (Aa Z Z Z (AC Z Z (Aa Z Z Z ?_)))));refine H1 (If (Ot h1 k_ok1 sb) rfl [40] ⟨rfl,trivial⟩ Z Z Z Z (fun r H' ⟨M,e1,e2,_⟩=>by subst e1 e2;exact ⟨rfl,rfl,rfl⟩) rfl) rfl ?_;rintro _ ⟨r,H',⟨M2,e1,e2,h2⟩,rfl⟩;subst e1 e2;rw [OD] at h2⊢;refine Aa Z Z Z ?_
 first | refine J (I8 Z Z Z) ?_ | refine J (I7 Z Z Z) ?_ | refine J (IF Z Z Z) ?_ | refine J (I2 Tryz.underlying47 Z Z Z) ?_ | refine J (I4 Tryz.underlying47 Z Z Z) ?_ | refine J (st_neqN Tryz.underlying47 Z Z) ?_ | refine J (st_neqPr Tryz.underlying47 Z Z) ?_ | refine J (st_neqMz Tryz.underlying47 Z Z) ?_ | refine J (I3 Tryz.underlying47 Z Z Z) ?_ | refine J (st_neqFN Tryz.underlying47 Z Z) ?_
 refine J (Fo Z Z Z Z) (AC Z Z (Eo 16 rfl (rfl) (Aa Z Z Z (AC Z Z (Aa Z Z Z ?_)))));refine H1 (If (Ot h2 k_ok2 sc) rfl [40] ⟨rfl,trivial⟩ Z Z Z Z (fun r H' ⟨M,e1,e2,_⟩=>by subst e1 e2;exact ⟨rfl,rfl,rfl⟩) rfl) rfl ?_;rintro _ ⟨r,H',⟨M3,e1,e2,h3⟩,rfl⟩;subst e1 e2;rw [Rn] at h3⊢;refine Aa Z Z Z ?_
 first | refine J (I8 Z Z Z) ?_ | refine J (I7 Z Z Z) ?_ | refine J (IF Z Z Z) ?_ | refine J (I2 Tryz.underlying47 Z Z Z) ?_ | refine J (I4 Tryz.underlying47 Z Z Z) ?_ | refine J (st_neqN Tryz.underlying47 Z Z) ?_ | refine J (st_neqPr Tryz.underlying47 Z Z) ?_ | refine J (st_neqMz Tryz.underlying47 Z Z) ?_ | refine J (I3 Tryz.underlying47 Z Z Z) ?_ | refine J (st_neqFN Tryz.underlying47 Z Z) ?_
 refine J (Fo Z Z Z Z) (AC Z Z (Eo 21 rfl (rfl) (Aa Z Z Z (AC Z Z (Aa Z Z Z (J (LE Iw Ns Z Z Z) (Aa Z Z Z ?_)))))));refine H1 (If (L6 h3 k_ok3 (by decide) ⟨sa,0,sb⟩) rfl [40] ⟨rfl,trivial⟩ Z Z Z Z (fun r H' ⟨M,e1,e2,_⟩=>by subst e1 e2;exact ⟨rfl,rfl,rfl⟩) rfl) rfl ?_;rintro _ ⟨r,H',⟨M4,e1,e2,h4⟩,rfl⟩;subst e1 e2;rw [k_lnk1] at h4⊢;refine Aa Z Z Z ?_
 first | refine J (I8 Z Z Z) ?_ | refine J (I7 Z Z Z) ?_ | refine J (IF Z Z Z) ?_ | refine J (I2 Tryz.underlying47 Z Z Z) ?_ | refine J (I4 Tryz.underlying47 Z Z Z) ?_ | refine J (st_neqN Tryz.underlying47 Z Z) ?_ | refine J (st_neqPr Tryz.underlying47 Z Z) ?_ | refine J (st_neqMz Tryz.underlying47 Z Z) ?_ | refine J (I3 Tryz.underlying47 Z Z Z) ?_ | refine J (st_neqFN Tryz.underlying47 Z Z) ?_
 refine J (Fo Z Z Z Z) (AC Z Z (Eo 27 rfl (rfl) (Aa Z Z Z (AC Z Z (Aa Z Z Z (J (LE Iw Ns Z Z Z) (Aa Z Z Z ?_)))))));refine H1 (If (L6 h4 Rg (by decide) ⟨sc,1,sa⟩) rfl [40] ⟨rfl,trivial⟩ Z Z Z Z (fun r H' ⟨M,e1,e2,_⟩=>by subst e1 e2;exact ⟨rfl,rfl,rfl⟩) rfl) rfl ?_;rintro _ ⟨r,H',⟨M5,e1,e2,h5⟩,rfl⟩;subst e1 e2;rw [k_lnk2] at h5⊢;refine Aa Z Z Z ?_
 first | refine J (I8 Z Z Z) ?_ | refine J (I7 Z Z Z) ?_ | refine J (IF Z Z Z) ?_ | refine J (I2 Tryz.underlying47 Z Z Z) ?_ | refine J (I4 Tryz.underlying47 Z Z Z) ?_ | refine J (st_neqN Tryz.underlying47 Z Z) ?_ | refine J (st_neqPr Tryz.underlying47 Z Z) ?_ | refine J (st_neqMz Tryz.underlying47 Z Z) ?_ | refine J (I3 Tryz.underlying47 Z Z Z) ?_ | refine J (st_neqFN Tryz.underlying47 Z Z) ?_
 refine J (Fo Z Z Z Z) (AF ?_);refine DM rfl (rfl) (Ai (AE (AH (AC Z Z (U (Fn (Rt h5 HT (by decide)) rfl [40] ⟨rfl,trivial⟩ Z Z Z Z Z Z Z Z Z) (AD Z Z (AF (AE ?_))))))));rw [Rj];refine AH (AC Z Z ?_)
 first | refine J (IB rfl Tryz.underlying50 rfl) ?_ | refine J (Bs Z Z Tryz.underlying50 rfl) ?_ | refine J (IE rfl Tryz.underlying50 rfl) ?_ | refine J (IG rfl Tryz.underlying50 rfl) ?_ | refine J (ID rfl Tryz.underlying50 rfl) ?_ | refine J (H4 rfl Tryz.underlying50 rfl) ?_
 first | refine J (FW Z Z Z) ?_ | refine J (FV Z Z Z) ?_ | refine J (FL Z Z Z) ?_ | refine J (FO Tryz.underlying3 Z Z Z) ?_ | refine J (FR Tryz.underlying3 Z Z Z) ?_ | refine J (FQ Tryz.underlying3 Z Z) ?_ | refine J (FU Tryz.underlying3 Z Z) ?_ | refine J (FT Tryz.underlying3 Z Z) ?_ | refine J (FP Tryz.underlying3 Z Z Z) ?_ | refine J (fSq Tryz.underlying3 Z Z) ?_
 refine AC Z Z (Hh 38 rfl (rfl) (Aa Z Z Z (AC Z Z (Aa Z Z Z ?_))))
 first | refine J (BE (0) Z Z (rfl) (rfl) Tryz.underlying50 rfl LH rfl) ?_ | refine J (BF (0) Z Z (rfl) (rfl) rfl Tryz.underlying50 LH rfl) ?_
 refine Aa Z Z Z ?_
 first | refine J (A2 rfl EM Z Z Z) ?_ | refine J (A4 rfl EM Z Z Z) ?_ | refine J (A5 rfl EM Z Z Z) ?_ | refine J (A3 rfl EM Z Z Z) ?_ | refine J (A1 rfl EM Z Z Z) ?_
 refine Aa Z Z Z ?_
 first | refine J (AZ Z Z AW rfl) ?_ | refine J (AX Z Z Z AW rfl) ?_ | refine J (AY Z Z (rfl) rfl AW rfl) ?_
 refine Aa Z Z Z (U (Fq 12 Ba Z Z Z Z Z Z Z Z) ?_);refine GD (emb:=AU) 43 12 [sa,sb] Z Z Z Z Z Z Z (Aa Z Z Z (J (Bz (GE [sa,sb] [sa,sb] (by decide)) Z Z) (J (GZ Z Z Z Z) (AC Z Z (Hh 46 rfl (rfl) (Aa Z Z Z (AC Z Z (Aa Z Z Z ?_))))))))
 first | refine J (BE (1) Z Z (rfl) (rfl) Tryz.underlying50 rfl LH rfl) ?_ | refine J (BF (1) Z Z (rfl) (rfl) rfl Tryz.underlying50 LH rfl) ?_
 refine Aa Z Z Z ?_
 first | refine J (A2 rfl EM Z Z Z) ?_ | refine J (A4 rfl EM Z Z Z) ?_ | refine J (A5 rfl EM Z Z Z) ?_ | refine J (A3 rfl EM Z Z Z) ?_ | refine J (A1 rfl EM Z Z Z) ?_
 refine Aa Z Z Z ?_
 first | refine J (AZ Z Z AW rfl) ?_ | refine J (AX Z Z Z AW rfl) ?_ | refine J (AY Z Z (rfl) rfl AW rfl) ?_
 refine Aa Z Z Z (U (Fq 13 Ba Z Z Z Z Z Z Z Z) ?_);refine GD (emb:=AU) 51 13 [sc] Z Z Z Z Z Z Z (Aa Z Z Z (J (Bz (GE [sc] [sc] (by decide)) Z Z) (J (GZ Z Z Z Z) (AC Z Z (Hh 54 rfl (rfl) (Aa Z Z Z (AC Z Z (Aa Z Z Z ?_))))))))
 first | refine J (BE (1) Z Z (rfl) (rfl) Tryz.underlying50 rfl LH rfl) ?_ | refine J (BF (1) Z Z (rfl) (rfl) rfl Tryz.underlying50 LH rfl) ?_
 refine Aa Z Z Z ?_
 first | refine J (A2 rfl Gk Z Z Z) ?_ | refine J (A4 rfl Gk Z Z Z) ?_ | refine J (A5 rfl Gk Z Z Z) ?_ | refine J (A3 rfl Gk Z Z Z) ?_ | refine J (A1 rfl Gk Z Z Z) ?_
 refine Aa Z Z Z ?_
 first | refine J (AZ Z Z Av rfl) ?_ | refine J (AX Z Z Z Av rfl) ?_ | refine J (AY Z Z (rfl) rfl Av rfl) ?_
 refine Aa Z Z Z ?_
 first | refine J (IB rfl Tryz.underlying52 rfl) ?_ | refine J (Bs Z Z Tryz.underlying52 rfl) ?_ | refine J (IE rfl Tryz.underlying52 rfl) ?_ | refine J (IG rfl Tryz.underlying52 rfl) ?_ | refine J (ID rfl Tryz.underlying52 rfl) ?_ | refine J (H4 rfl Tryz.underlying52 rfl) ?_
 refine Aa Z Z Z ?_
 first | refine J (FW Z Z Z) ?_ | refine J (FV Z Z Z) ?_ | refine J (FL Z Z Z) ?_ | refine J (FO Tryz.underlying3 Z Z Z) ?_ | refine J (FR Tryz.underlying3 Z Z Z) ?_ | refine J (FQ Tryz.underlying3 Z Z) ?_ | refine J (FU Tryz.underlying3 Z Z) ?_ | refine J (FT Tryz.underlying3 Z Z) ?_ | refine J (FP Tryz.underlying3 Z Z Z) ?_ | refine J (fSq Tryz.underlying3 Z Z) ?_
 refine J (GZ Z Z Z Z) (AC Z Z (Hh 62 rfl (rfl) (Aa Z Z Z (AC Z Z (Aa Z Z Z ?_)))))
 first | refine J (BE (1) Z Z (rfl) (rfl) Tryz.underlying50 rfl LH rfl) ?_ | refine J (BF (1) Z Z (rfl) (rfl) rfl Tryz.underlying50 LH rfl) ?_
 refine Aa Z Z Z ?_
 first | refine J (A2 rfl Gk Z Z Z) ?_ | refine J (A4 rfl Gk Z Z Z) ?_ | refine J (A5 rfl Gk Z Z Z) ?_ | refine J (A3 rfl Gk Z Z Z) ?_ | refine J (A1 rfl Gk Z Z Z) ?_
 refine Aa Z Z Z ?_
 first | refine J (AZ Z Z Av rfl) ?_ | refine J (AX Z Z Z Av rfl) ?_ | refine J (AY Z Z (rfl) rfl Av rfl) ?_
 refine Aa Z Z Z ?_
 first | refine J (BE (0) Z Z (rfl) (rfl) Tryz.underlying52 rfl Dn rfl) ?_ | refine J (BF (0) Z Z (rfl) (rfl) rfl Tryz.underlying52 Dn rfl) ?_
 refine Aa Z Z Z ?_
 first | refine J (AZ Z Z BV rfl) ?_ | refine J (AX Z Z Z BV rfl) ?_ | refine J (AY Z Z (rfl) rfl BV rfl) ?_
 refine Aa Z Z Z ?_
 first | refine J (FW Z Z Z) ?_ | refine J (FV Z Z Z) ?_ | refine J (FL Z Z Z) ?_ | refine J (FO Tryz.underlying3 Z Z Z) ?_ | refine J (FR Tryz.underlying3 Z Z Z) ?_ | refine J (FQ Tryz.underlying3 Z Z) ?_ | refine J (FU Tryz.underlying3 Z Z) ?_ | refine J (FT Tryz.underlying3 Z Z) ?_ | refine J (FP Tryz.underlying3 Z Z Z) ?_ | refine J (fSq Tryz.underlying3 Z Z) ?_
 refine J (GZ Z Z Z Z) (AC Z Z (Hh 71 rfl (rfl) (Aa Z Z Z (AC Z Z (Aa Z Z Z (U (Fn (NX h5 HT (by decide) sc) rfl [40] ⟨rfl,trivial⟩ Z Z Z Z Z Z Z Z Z) ?_))))));rw [if_pos (show sc∈w5.R by decide),Rm];refine Aa Z Z Z (U (Fq 14 Ba Z Z Z Z Z Z Z Z) (GD (emb:=AU) 74 14 [sa,sb,sc] Z Z Z Z Z Z Z (Aa Z Z Z ?_)));refine J (Bz (GE [sa,sb,sc] [sa,sb,sc] (by decide)) Z Z) (J (GZ Z Z Z Z) (AC Z Z (Hh 77 rfl (rfl) (Aa Z Z Z (AC Z Z (Aa Z Z Z (J (LE Iw Ns Z Z Z) (Aa Z Z Z ?_))))))));refine H1 (If (L6 h5 HT (by decide) ⟨sb,1,sc⟩) rfl [40] ⟨rfl,trivial⟩ Z Z Z Z (fun r H' ⟨M,e1,e2,_⟩=>by subst e1 e2;exact ⟨rfl,rfl,rfl⟩) rfl) rfl ?_;rintro _ ⟨r,H',⟨M6,e1,e2,h6⟩,rfl⟩;subst e1 e2;rw [k_lnk3] at h6⊢;refine Aa Z Z Z ?_
 first | refine J (FW Z Z Z) ?_ | refine J (FV Z Z Z) ?_ | refine J (FL Z Z Z) ?_ | refine J (FO Tryz.underlying47 Z Z Z) ?_ | refine J (FR Tryz.underlying47 Z Z Z) ?_ | refine J (FQ Tryz.underlying47 Z Z) ?_ | refine J (FU Tryz.underlying47 Z Z) ?_ | refine J (FT Tryz.underlying47 Z Z) ?_ | refine J (FP Tryz.underlying47 Z Z Z) ?_ | refine J (fSq Tryz.underlying47 Z Z) ?_
 refine J (GZ Z Z Z Z) (AD Z Z (AF (Aq ?_)));exact ⟨_,[],[],An rfl,rfl,rfl,by simp,rfl⟩
section
variable {P:Program} {F:Fr} {s:AS} {d:Nat} {ty T T' E K:TypeId} {pos:String} {aft:Array Edge} {g:Option (Nat×Bool)} {x y:Operand}
end
structure Js where
 k:Int
 x:St
 l:Lk
abbrev opD (o:Js):D:= .agg [B7 o.k,AU o.x,B7 o.l.t,AU o.l.r]
section
variable {H:Type} {enc:TypeId×Value ->H} {P:Program} {w:World}
theorem Cf.asC {α β:Type} {t:TypeId} {k:Nat} {emb:α ->D} {Q:α ->Prop} {emb':β ->D} {Q':β ->Prop} (h:Cf enc P w t k emb Q) (f:α ->β) (he:∀a,Q a ->(emb a).cells=(emb' (f a)).cells) (hq:∀a,Q a ->Q' (f a)):Cf enc P w t k emb' Q':=fun fuel cs x hx hlt hw=>by
 obtain ⟨a,h1,h2,h3⟩:=h fuel cs x hx hlt hw;exact ⟨f a,hq a h1,by rw [←he a h1];exact h2,by unfold KO at h3⊢;rw [←he a h1];exact h3⟩
theorem oLk:Cf enc Tryz.prog w 42 2 KG (fun _=>True):=
 (RA Tryz.underlying42 (by kernel_rfl) (JW rfl (by kernel_rfl) (Ob Tryz.underlying3) (JW rfl (by kernel_rfl) (JV Tryz.underlying9) RB))).asQ (fun a=>(⟨a.1,a.2.1⟩:Lk)) (fun _ _=>rfl) (fun _ _=>trivial)
theorem oOp:Cf enc Tryz.prog w 57 4 opD (fun _=>True):=
 (RA Tryz.underlying57 (by kernel_rfl) (JW rfl (by kernel_rfl) (Ob Tryz.underlying3) (JW rfl (by kernel_rfl) (JV Tryz.underlying9) (JW rfl (by kernel_rfl) oLk RB)))).asC (fun a=>(⟨a.1,a.2.1,a.2.2.1⟩:Js)) (fun _ _=>rfl) (fun _ _=>trivial)
end
theorem pt64:Dt Tryz.prog 64=true:=by kernel_rfl
theorem R0 {M:MF} {r:Nat} {bs:Option (List Nat×Nat)} {es:List (D×D)} (hr:M r=some (.map bs es)):AQ Tryz.prog 66 [.d (mD r)] [(40,[.multi M])] fun x H'=>x= .map 6 0∧H'=[(40,[.multi M]),(6,[.map none es])]:=by
 refine CP Tryz.func66 Z Z Tryz.ntmps66 Z Z Z fun F hF=>(AE (AH (AD Z Z (AF (AE (AE (AH (AC Z Z ?_))))))))
 first | refine J (FW Z Z Z) ?_ | refine J (FV Z Z Z) ?_ | refine J (FL Z Z Z) ?_ | refine J (FO Tryz.underlying64 Z Z Z) ?_ | refine J (FR Tryz.underlying64 Z Z Z) ?_ | refine J (FQ Tryz.underlying64 Z Z) ?_ | refine J (FU Tryz.underlying64 Z Z) ?_ | refine J (FT Tryz.underlying64 Z Z) ?_ | refine J (FP Tryz.underlying64 Z Z Z) ?_ | refine J (fSq Tryz.underlying64 Z Z) ?_
 refine AF (DM rfl (rfl) (Ai (AE (AH (AC Z Z ?_)))))
 first | refine J (LK pt64 Z Z) ?_ | refine J (Jz pt64 Z Z) ?_
 refine o_clone 6 (f:=40) (M:=M) (bs:=bs) (es:=es) (r:=r) Tryz.func98 Z Z (by kernel_rfl) (by kernel_rfl) Z Z hr Z Z Z pt64 Z Z ?_;skip;refine AD Z Z (AF (Aq ?_));exact ⟨_,[40,6],_,An rfl,rfl,rfl,rfl,rfl⟩
theorem AQ.byX (l:List (Nat×Nat)) {P:Program} {f:FuncId} {args:List AV} {H:Hp} {R:AV ->Hp ->Prop} (h:AQ P f args H R) (hl:Jl l=true):
  AQ P f (GN (B4 l) args) (DK (B4 l) H) fun r H'=>∃r0 H0,R r0 H0∧r=r0.ren (B4 l)∧H'=DK (B4 l) H0:=
 (h.ren (CU hl)).mono fun r H' h=>⟨_,_,h,by rw [AV.ren_ren (CU hl)],by rw [E7 (CU hl)]⟩
theorem new41_c:AQ Tryz.prog 17 [] [] fun r H'=>∃b M,r= .d (pD b 0)∧H'=[(41,[.multi M])]∧Bg M b ⟨[],[]⟩:=
 (RW.byX [(40,41)] rfl).mono fun r H' ⟨r0,H0,⟨b,M,e1,e2,h⟩,e3,e4⟩=>⟨b,M,by rw [e3,e1];rfl,by rw [e4,e2];rfl,h⟩
def lkO (lk:Nat ->List Lk):Option Nat ->List Lk
 | none=> []
 | some h=>lk h
def kL (lk:Nat ->List Lk) (e:St×Option Nat):St×List Lk:=(e.1,lkO lk e.2)
def kE (lk:Nat ->List Lk) (E:List (St×Nat)):List (St×List Lk):=(eE E).map (kL lk)
theorem Lc (lk:Nat ->List Lk) (E:List (St×Nat)):(kE lk E).map Prod.fst=E.map Prod.fst:=by unfold kE;rw [List.map_map,←Jh];rfl
theorem Ro {lk:Nat ->List Lk} {E:List (St×Nat)} {x:St} {L:List Lk}:(x,L)∈kE lk E↔∃p∈E,p.1=x∧lk p.2=L:=by
 unfold kE;rw [List.mem_map]
 constructor
 ·rintro ⟨e,he,h⟩;obtain ⟨p,hp,rfl⟩:=List.mem_map.1 he;injection h with h1 h2
  exact ⟨p,hp,h1,h2⟩
 ·rintro ⟨p,hp,h1,h2⟩;exact ⟨(p.1,some p.2),List.mem_map.2 ⟨p,hp,rfl⟩,by rw [←h1,←h2];rfl⟩
theorem kE_snoc {lk:Nat ->List Lk} {E:List (St×Nat)} {x:St} {h:Nat} {L:List Lk} (hn:∀p∈E,p.2≠h):kE (Ap lk h L) (E++ [(x,h)])=kE lk E++ [(x,L)]:=by
 unfold kE;rw [show eE (E++ [(x,h)])=eE E++ [(x,some h)] from List.map_append ..,List.map_append];refine congr (congrArg _ ?_) ?_
 ·rw [List.map_map,List.map_map];refine List.map_congr_left fun p hp=>?_;show (p.1,Ap lk h L p.2)=(p.1,lk p.2)
  rw [EV (hn p hp)]
 ·show [(x,Ap lk h L h)]=_;rw [Di]
theorem LR.put {N:MF} {b m:Nat} {E:List (St×Nat)} {lk:Nat ->List Lk} (h:LR N b m E lk) {x:St} {h2:Nat} {L:List Lk} (hb:N h2=none):LR (BU (BU N h2 (.map none (DJ L))) m (.map none (DI (E++ [(x,h2)])))) b m (E++ [(x,h2)]) (Ap lk h2 L):=by
 have h1:b≠h2:=fun e=>by have:=h.cell;rw [e,hb] at this;cases this
 have h3:b≠m:=fun e=>by have:=h.cell;rw [e,h.top] at this;cases this
 have h4:h2≠m:=fun e=>by have:=h.top;rw [←e,hb] at this;cases this
 have h5:∀p∈E,p.2≠h2:=fun p hp e=>by have:=h.sub p hp;rw [e,hb] at this;cases this
 have h6:∀p∈E,p.2≠m:=fun p hp e=>h.ne (by rw [←e];exact List.mem_map_of_mem hp);refine ⟨by rw [ER h3,ER h1];exact h.cell,D9 _ _ _,fun p hp=>?_,?_,?_⟩
 ·rcases List.mem_append.1 hp with hp | hp
  ·rw [ER (h6 p hp),ER (h5 p hp),EV (h5 p hp)];exact h.sub p hp
  ·rw [List.mem_singleton.1 hp,ER h4,D9,Di]
 ·rw [List.map_append,List.nodup_append];refine ⟨h.nd,by simp,fun a ha c hc e=>?_⟩;obtain ⟨p,hp,rfl⟩:=List.mem_map.1 ha;exact h5 p hp (by rw [e];simpa using hc)
 ·rw [List.map_append,List.mem_append];rintro (hh | hh)
  ·exact h.ne hh
  ·exact h4 (List.mem_singleton.1 hh).symm
theorem LW.kE {E E1:List (St×Nat)} {lk lk1:Nat ->List Lk} {w:Ws} (h:LW E lk w) (hp:(kE lk1 E1).Perm (kE lk E)):LW E1 lk1 w:=by
 have hf:=hp.map Prod.fst;rw [Lc,Lc] at hf;have key:∀p∈E1,∃q∈E,q.1=p.1∧lk q.2=lk1 p.2:=fun p hp1=>Ro.1 (hp.mem_iff.1 (Ro.2 ⟨p,hp1,rfl,rfl⟩));refine ⟨hf.nodup_iff.2 h.kd,fun x=>hf.mem_iff.trans (h.ks x),fun p hp1=>?_,fun p hp1 l=>?_⟩
 ·obtain ⟨q,hq,_,e⟩:=key p hp1;rw [←e];exact h.ld q hq
 ·obtain ⟨q,hq,e1,e⟩:=key p hp1;rw [←e,←e1];exact h.ls q hq l
theorem Bg.empty {N:MF} {b:Nat} (h:Bg N b ⟨[],[]⟩):∃m lk,LR N b m [] lk:=by
 obtain ⟨m,E,lk,hr,hl⟩:=h
 have hE:E=[]:=by
  cases E with
  | nil=>rfl
  | cons p r=>exact absurd ((hl.ks p.1).1 (by simp)) (by simp)
 subst hE;exact ⟨m,lk,hr⟩
theorem clone_c {M:MF} {b:Nat} {w:Ws} (h:Bg M b w):AQ Tryz.prog 55 [.d (pD b 0)] [(40,[.multi M])] fun r H'=>∃b1 M1,r= .d (pD b1 0)∧H'=[(40,[.multi M]),(41,[.multi M1])]∧Bg M1 b1 w:=by
 obtain ⟨m,E,lk,hr,hl⟩:=h;have hbm:b≠m:=fun e=>by subst e;have:=hr.cell;rw [hr.top] at this;cases this
 have hpm:∀p∈E,p.2≠m:=fun p hp e=>hr.ne (by rw [←e];exact List.mem_map_of_mem hp);refine CP Tryz.func55 Z Z Tryz.ntmps55 Z Z Z fun F hF=>(AE (AH (AD Z Z (AF (AE (AE (AH (AC Z Z ?_))))))))
 first | refine J (FW Z Z Z) ?_ | refine J (FV Z Z Z) ?_ | refine J (FL Z Z Z) ?_ | refine J (FO Tryz.underlying24 Z Z Z) ?_ | refine J (FR Tryz.underlying24 Z Z Z) ?_ | refine J (FQ Tryz.underlying24 Z Z) ?_ | refine J (FU Tryz.underlying24 Z Z) ?_ | refine J (FT Tryz.underlying24 Z Z) ?_ | refine J (FP Tryz.underlying24 Z Z Z) ?_ | refine J (fSq Tryz.underlying24 Z Z) ?_
 refine AF (DM rfl (rfl) (Ai (AE (AH ?_))));refine H1 (If new41_c rfl [41] ⟨rfl,trivial⟩ Z Z Z Z (fun r H' ⟨b,M,e1,e2,_⟩=>by subst e1 e2;exact ⟨rfl,rfl,rfl⟩) rfl) rfl ?_;rintro _ ⟨r,H',⟨b1,N0,e1,e2,hn⟩,rfl⟩;subst e1 e2;refine AD Z Z (AF (AE (AE ?_)));obtain ⟨m1,lk0,hr0⟩:=hn.empty;refine C4 40 m rfl hr.top (fun _ _=>rfl) fun B c hB hBn=>?_
 obtain ⟨M1,hM1⟩:∃M1,BU M m (.map (some (B,c)) (DI E))=M1:=⟨_,rfl⟩
 rw [hM1];have h1b:M1 b=some (.cells 67 [mD m]):=by rw [←hM1,ER hbm];exact hr.cell
 have h1m:M1 m=some (.map (some (B,c)) (DI E)):=by rw [←hM1,D9]
 have h1s:∀p∈E,M1 p.2=some (.map none (DJ (lk p.2))):=fun p hp=>by rw [←hM1,ER (hpm p hp)];exact hr.sub p hp
 refine AH (AC Z Z ?_)
 first | refine J (GP Z Z) ?_ | refine J (GR Z Z) ?_ | refine J (GQ Z Z) ?_ | refine J (GS Z Z) ?_
 first | refine J (A2 rfl Ac Z Z Z) ?_ | refine J (A4 rfl Ac Z Z Z) ?_ | refine J (A5 rfl Ac Z Z Z) ?_ | refine J (A3 rfl Ac Z Z Z) ?_ | refine J (A1 rfl Ac Z Z Z) ?_
 refine J (Gi (f:=40) Z Z (h1b) rfl CB rfl) (U (CV 1 (f:=40) Z Z (h1m) rfl Cc Z Z Z Z) (AF (BH (Db (α:=List Nat×List (St×Nat)×(Nat ->List Lk)×MF) (fun q=>⟨27,[(3,(.d (pD b1 0))),(13,(.ptr 1 0 0))],[(1,[.iter 40 m c q.1]),(40,[.multi M1]),(41,[.multi q.2.2.2])]⟩) (fun q=>LR q.2.2.2 b1 m1 q.2.1 q.2.2.1∧(kE q.2.2.1 q.2.1++(Bi (eE E) B q.1).map (kL lk)).Perm (kE lk E)) (fun q=>(Bi (eE E) B q.1).length) (([],[],lk0,N0)) (⟨hr0,by show ([]++(Bi (eE E) B []).map _).Perm _;rw [CZ (by simpa [Ae] using hB)];exact List.Perm.refl _⟩) (At hF [1,40,41] Z Z ⟨rfl,rfl,trivial⟩) ?_))));rintro ⟨seen,E1,lk1,N⟩ ⟨hr1,hP⟩;dsimp only at hr1 hP⊢;refine AE (AH (Dv (eE E) Z Z Z (h1m) rfl (fun hl14=>?_) (fun j14 b14 k14 v14 hm14 hb14 hB14 hp14=>⟨_,rfl,?_⟩)))
 ·rw [hl14] at hP;refine Cq 40 m rfl h1m rfl ?_;rw [show BU M1 m (.map none (DI E))=M by rw [←hM1,SY];exact Es hr.top]
  first | refine J (Bn Z Z Z) ?_ | refine J (Bm Z Z Z) ?_
  refine AF ?_;refine AE (DM Z Z (C5 (AE (AH (AC Z Z (AD Z Z (AF (Aq ?_))))))));exact ⟨_,[40,41],_,An rfl,rfl,rfl,b1,N,rfl,rfl,m1,E1,lk1,hr1,hl.kE (by simpa using hP)⟩
 ·first | refine J (Bn Z Z Z) ?_ | refine J (Bm Z Z Z) ?_
  refine AF (AE (IH Z Z (Ai (BH (AE ?_)))));obtain ⟨hd,hpe,hve⟩:=HQ hm14;subst hve
  have hkn:k14∉E1.map Prod.fst:=fun hh=>by
   have h1:=(hP.map Prod.fst).nodup_iff.2 (by rw [Lc];exact hl.kd);rw [List.map_append,Lc] at h1;exact (List.nodup_append.1 h1).2.2 _ hh _ (List.mem_map.2 ⟨(k14,lk hd),(hp14.map (kL lk)).mem_iff.2 (by simp [kL,lkO]),rfl⟩) rfl
  refine AH (J (CX (eE E) j14 b14 Z Z Z (h1m) hm14 hb14 rfl) ?_)
  first | refine J (Bn Z Z Z) ?_ | refine J (Bm Z Z Z) ?_
  first | refine J (Bn Z Z Z) ?_ | refine J (Bm Z Z Z) ?_
  refine AD Z Z (AD Z Z (AF (a_alias 1 40 95 96 rfl h1m Z Z Z Z Z Z Z Z Z Z (FK [[],[0],[0,1],[0,1,2],[],[],[5],[0,1,2,3,4,5,6]] mixed rfl (D1 ?_)))))
  first | refine AG [3] [] Z Z (fun _=>AB (A8 Z Z)) ?_ | refine AI [3] Z Z (fun _=>AB (A8 Z Z)) ?_
  first | refine AG [19] [] Z Z (fun _=>AB (GP Z Z)) ?_ | refine AI [19] Z Z (fun _=>AB (GP Z Z)) ?_ | refine AG [19] [] Z Z (fun _=>AB (GR Z Z)) ?_ | refine AI [19] Z Z (fun _=>AB (GR Z Z)) ?_ | refine AG [19] [] Z Z (fun _=>AB (GQ Z Z)) ?_ | refine AI [19] Z Z (fun _=>AB (GQ Z Z)) ?_ | refine AG [19] [] Z Z (fun _=>AB (GS Z Z)) ?_ | refine AI [19] Z Z (fun _=>AB (GS Z Z)) ?_
  first | refine AG [20] [] Z Z (fun _=>AB (A2 rfl Ac Z Z Z)) ?_ | refine AI [20] Z Z (fun _=>AB (A2 rfl Ac Z Z Z)) ?_ | refine AG [20] [] Z Z (fun _=>AB (A4 rfl Ac Z Z Z)) ?_ | refine AI [20] Z Z (fun _=>AB (A4 rfl Ac Z Z Z)) ?_ | refine AG [20] [] Z Z (fun _=>AB (A5 rfl Ac Z Z Z)) ?_ | refine AI [20] Z Z (fun _=>AB (A5 rfl Ac Z Z Z)) ?_ | refine AG [20] [] Z Z (fun _=>AB (A3 rfl Ac Z Z Z)) ?_ | refine AI [20] Z Z (fun _=>AB (A3 rfl Ac Z Z Z)) ?_ | refine AG [20] [] Z Z (fun _=>AB (A1 rfl Ac Z Z Z)) ?_ | refine AI [20] Z Z (fun _=>AB (A1 rfl Ac Z Z Z)) ?_
  refine AG [21] [41] Z Z (fun _=>AB (Gi (f:=41) Z Z hr1.cell rfl CB rfl)) ?_
  first | refine AG [4] [] Z Z (fun _=>AB (A8 Z Z)) ?_ | refine AI [4] Z Z (fun _=>AB (A8 Z Z)) ?_
  first | refine AG [5] [] Z Z (fun _=>AB (A8 Z Z)) ?_ | refine AI [5] Z Z (fun _=>AB (A8 Z Z)) ?_
  refine Bo [24] [40,6] [(25,_)] Z Z (fun _=>I1 (Fn (R0 (h1s _ hpe)) rfl [40,6] ⟨rfl,rfl,trivial⟩ Z Z Z Z Z Z Z Z Z)) (.inr ⟨25,_,rfl,rfl,rfl,rfl,rfl⟩) Z Z Z Z Z (D2 7 Z Z Z (BY 8 Z Z (Hi 25 6 41 hF Z Z Z Z Z Z Z Z Z Z (fun _=>rfl) fun b2 hb2=>?_)));have h5:∀p∈E1,p.2≠b2:=fun p hp e=>by have:=hr1.sub p hp;rw [e,hb2] at this;cases this
  refine U (F3 (f:=41) (eE E1) k14 (some b2) Z Z (by rw [ER (fun e=>by have:=hr1.top;rw [e,hb2] at this;cases this)];exact hr1.top) rfl Cc EU Z Z) ?_;rw [Rw hkn];refine Pj 1 40 95 96 rfl h1m Z Z Z Z Z Z Z (AF ⟨rfl,?_⟩);refine Eg ?_;exact ⟨(seen++ [b14],E1++ [(k14,b2)],Ap lk1 b2 (lk hd),_),⟨hr1.put hb2,by show (kE _ _++_).Perm _;rw [kE_snoc h5];exact E8 hP (y:=[(k14,lk hd)]) (by simpa [kL,lkO] using hp14.map (kL lk))⟩,by show (Bi (eE E) B (seen++ [b14])).length<(Bi (eE E) B seen).length;rw [hp14.length_eq];exact Nat.lt_succ_self _,At hF [1,40,41] rfl (rfl) ⟨rfl,rfl,trivial⟩⟩
def sameL (l1 l2:List Lk):Prop:=l1.length=l2.length∧∀x∈l1,x∈l2
noncomputable instance (l1 l2:List Lk):Decidable (sameL l1 l2):=Classical.propDecidable _
def sameE (E E2:List (St×Nat)) (lk lk2:Nat ->List Lk):Prop:=E.length=E2.length∧∀x∈E.map Prod.fst,∃p∈E,∃q∈E2,p.1=x∧q.1=x∧sameL (lk p.2) (lk2 q.2)
noncomputable instance (E E2:List (St×Nat)) (lk lk2:Nat ->List Lk):Decidable (sameE E E2 lk lk2):=Classical.propDecidable _
def sameW (w w2:Ws):Prop:=w.R=w2.R∧∀l,l∈w.K↔l∈w2.K
noncomputable instance (w w2:Ws):Decidable (sameW w w2):=Classical.propDecidable _
theorem eE_del {E:List (St×Nat)} {x:St} (hn:(E.map Prod.fst).Nodup):Nz (eE E) x=eE (E.filter fun p=>!decide (p.1=x)):=by
 unfold Nz
 induction E with
 | nil=>rfl
 | cons p r ih=>
  obtain ⟨h1,h2⟩:p.1∉r.map Prod.fst∧(r.map Prod.fst).Nodup:=List.nodup_cons.1 hn;show List.eraseIdx ((p.1,some p.2)::eE r) (if x=p.1 then 0 else Df (eE r) x+1)=_
  by_cases e:x=p.1
  ·subst e;rw [if_pos rfl,List.filter_cons,List.filter_eq_self.2 fun y hy=>by simp;exact fun e=>h1 (by rw [←e];exact List.mem_map_of_mem hy)]
   simp
  ·have e':¬p.1=x:=fun h=>e h.symm;rw [if_neg e,List.eraseIdx_cons_succ,ih h2,List.filter_cons]
   simp [e']
def PV (l:Lk) (L:List Lk):List Lk:=L.filter fun y=>!decide (y=l)
def KK (x:St) (L:List Lk):List Lk:=PV ⟨1,x⟩ (PV ⟨0,x⟩ L)
theorem Ms {l y:Lk} {L:List Lk}:y∈PV l L↔y∈L∧y≠l:=by unfold PV;rw [List.mem_filter];simp
theorem RZ {x:St} {L:List Lk} {l:Lk}:l∈KK x L↔l∈L∧l≠⟨0,x⟩∧l≠⟨1,x⟩:=by unfold KK;rw [Ms,Ms,and_assoc]
theorem LN {l:Lk} {L:List Lk} (h:L.Nodup):(PV l L).Nodup:=List.Nodup.sublist List.filter_sublist h
theorem cutL_nd {x:St} {L:List Lk} (h:L.Nodup):(KK x L).Nodup:=LN (LN h)
abbrev cutE (x:St) (E:List (St×Nat)):List (St×Nat):=E.filter fun p=>!decide (p.1=x)
theorem F8 {x:St} {E:List (St×Nat)} {p:St×Nat}:p∈cutE x E↔p∈E∧p.1≠x:=by rw [List.mem_filter];simp
theorem LW.cut {E:List (St×Nat)} {lk lk':Nat ->List Lk} {w:Ws} (h:LW E lk w) (hw:B1 w) (x:St) (hk:∀p∈cutE x E,lk' p.2=KK x (lk p.2)):LW (cutE x E) lk' (FA w x):=by
 have hm:∀p∈cutE x E,p∈E∧p.1≠x:=fun p hp=>F8.1 hp;refine ⟨List.Nodup.sublist (List.Sublist.map _ List.filter_sublist) h.kd,fun y=>?_,fun p hp=>?_,fun p hp l=>?_⟩
 ·show y∈(cutE x E).map Prod.fst↔y∈w.R.filter _;rw [List.mem_map,List.mem_filter,←h.ks y,List.mem_map]
  constructor
  ·rintro ⟨p,hp,rfl⟩;exact ⟨⟨p,(hm p hp).1,rfl⟩,by simpa using (hm p hp).2⟩
  ·rintro ⟨⟨p,hp,rfl⟩,hy⟩;exact ⟨p,F8.2 ⟨hp,by simpa using hy⟩,rfl⟩
 ·rw [hk p hp];exact cutL_nd (h.ld p (hm p hp).1)
 ·rw [hk p hp,RZ,h.ls p (hm p hp).1 l];show _↔_∈w.K.filter _;rw [List.mem_filter];refine and_congr_right fun hK=>?_;have ht:=(hw.lk _ hK).2.2.2;have h1:p.1≠x:=(hm p hp).2;simp only [Bool.and_eq_true,Bool.not_eq_true',decide_eq_false_iff_not]
  constructor
  ·rintro ⟨g1,g2⟩;refine ⟨h1,fun e=>?_⟩;rcases ht with ht | ht
   ·exact g1 (Lk.eq_iff.2 ⟨ht,e⟩)
   ·exact g2 (Lk.eq_iff.2 ⟨ht,e⟩)
  ·rintro ⟨_,g⟩;exact ⟨fun e=>g (by rw [e]),fun e=>g (by rw [e])⟩
theorem LR.del {N:MF} {b m:Nat} {E:List (St×Nat)} {lk:Nat ->List Lk} (h:LR N b m E lk) (x:St):LR (BU N m (.map none (DI (cutE x E)))) b m (cutE x E) lk:=by
 have h3:b≠m:=fun e=>by have:=h.cell;rw [e,h.top] at this;cases this
 have h6:∀p∈E,p.2≠m:=fun p hp e=>h.ne (by rw [←e];exact List.mem_map_of_mem hp);refine ⟨by rw [ER h3];exact h.cell,D9 _ _ _,fun p hp=>?_,List.Nodup.sublist (List.Sublist.map _ List.filter_sublist) h.nd,fun hh=>h.ne ?_⟩
 ·have hp':=(F8.1 hp).1;rw [ER (h6 p hp')];exact h.sub p hp'
 ·obtain ⟨p,hp,e⟩:=List.mem_map.1 hh;rw [←e];exact List.mem_map_of_mem (F8.1 hp).1
structure LC (N:MF) (b m:Nat) (bs:Option (List Nat×Nat)) (E:List (St×Nat)) (lk:Nat ->List Lk):Prop where
 cell:N b=some (.cells 67 [mD m])
 top:N m=some (.map bs (DI E))
 sub:∀p∈E,N p.2=some (.map none (DJ (lk p.2)))
theorem LC.set {M:MF} {b m:Nat} {bs:Option (List Nat×Nat)} {E:List (St×Nat)} {lk:Nat ->List Lk} (h:LC M b m bs E lk) (hne:m∉E.map Prod.snd) {x:St} {hd:Nat} (hm:(x,hd)∈E) (L:List Lk):LC (BU M hd (.map none (DJ L))) b m bs E (Ap lk hd L):=by
 have h1:b≠hd:=fun e=>by have:=h.sub _ hm;rw [←e,h.cell] at this;cases this
 have h2:m≠hd:=fun e=>hne (by rw [e];exact List.mem_map.2 ⟨_,hm,rfl⟩);refine ⟨by rw [ER h1];exact h.cell,by rw [ER h2];exact h.top,fun p hp=>?_⟩
 by_cases e:p.2=hd
 ·rw [e,D9,Di]
 ·rw [ER e,EV e];exact h.sub p hp
theorem LR.lc {N:MF} {b m:Nat} {E:List (St×Nat)} {lk:Nat ->List Lk} (h:LR N b m E lk) (bs:Option (List Nat×Nat)):LC (BU N m (.map bs (DI E))) b m bs E lk:=by
 have h3:b≠m:=fun e=>by have:=h.cell;rw [e,h.top] at this;cases this
 have h6:∀p∈E,p.2≠m:=fun p hp e=>h.ne (by rw [←e];exact List.mem_map_of_mem hp);exact ⟨by rw [ER h3];exact h.cell,D9 _ _ _,fun p hp=>by rw [ER (h6 p hp)];exact h.sub p hp⟩
theorem LC.lr {N:MF} {b m:Nat} {bs:Option (List Nat×Nat)} {E:List (St×Nat)} {lk:Nat ->List Lk} (h:LC N b m bs E lk) (hnd:(E.map Prod.snd).Nodup) (hne:m∉E.map Prod.snd):LR (BU N m (.map none (DI E))) b m E lk:=by
 have h3:b≠m:=fun e=>by have:=h.cell;rw [e,h.top] at this;cases this
 have h6:∀p∈E,p.2≠m:=fun p hp e=>hne (by rw [←e];exact List.mem_map_of_mem hp);exact ⟨by rw [ER h3];exact h.cell,D9 _ _ _,fun p hp=>by rw [ER (h6 p hp)];exact h.sub p hp,hnd,hne⟩
def hdL (e:St×Option Nat):Nat:=e.2.getD 0
theorem eE_hd (E:List (St×Nat)):(eE E).map hdL=E.map Prod.snd:=by rw [List.map_map];rfl
theorem SA {x:St} {dn:List Nat} {hd:Nat} {lk1 lk2:Nat ->List Lk} (hD:∀h∈dn,lk2 h=KK x (lk1 h)):∀h∈dn++ [hd],Ap lk2 hd (KK x (lk1 hd)) h=KK x (lk1 h):=fun h hh=>by
 by_cases e:h=hd
 ·rw [e,Di]
 ·rw [EV e];exact hD h ((List.mem_append.1 hh).resolve_right fun e2=>e (List.mem_singleton.1 e2))
theorem Rz {dn:List Nat} {hd:Nat} {lk1 lk2:Nat ->List Lk} {L:List Lk} (hU:∀h,h∉dn ->lk2 h=lk1 h):∀h,h∉dn++ [hd] ->Ap lk2 hd L h=lk1 h:=fun h hh=>by
 rw [EV fun e=>hh (by rw [e];simp)];exact hU h fun e=>hh (List.mem_append_left _ e)
theorem un_r {M N:MF} {i:Nat} {o:A7} (hd:∀i m m',M i=some m ->N i=some m' ->False) (h:N i=some o):munion M N i=some o:=by
 refine HK ?_ h
 cases hm:M i with
 | none=>rfl
 | some m=>exact (hd i m o hm h).elim
theorem rem9 {w:Ws} {x:St} (h:x∉w.R):remW w x=(w,9):=by unfold remW;rw [if_pos h]
theorem rem0 {w:Ws} {x:St} (h:x∈w.R):remW w x=if acyW (FA w x)=true then (FA w x,0) else (w,26):=by unfold remW;rw [if_neg fun hh=>hh h]
theorem Qq {M:MF} {b:Nat} {w:Ws} (h:Bg M b w) (hw:B1 w) (hK:w.K.length≤1000000) (x:St):AQ Tryz.prog 36 [.d (pD b 0),.d (AU x)] [(40,[.multi M])] fun r H'=>∃M',r= .d (B7 (remW w x).2)∧H'=[(40,[.multi M'])]∧Bg M' b (remW w x).1:=by
 have hrep:=h;obtain ⟨m,E,lk,hr,hl⟩:=h;refine CP Tryz.func36 Z Z Tryz.ntmps36 Z Z Z fun F hF=>(AE (AH (AD Z Z (AF (AE (AE (AH (AC Z Z ?_))))))))
 first | refine J (FW Z Z Z) ?_ | refine J (FV Z Z Z) ?_ | refine J (FL Z Z Z) ?_ | refine J (FO Tryz.underlying24 Z Z Z) ?_ | refine J (FR Tryz.underlying24 Z Z Z) ?_ | refine J (FQ Tryz.underlying24 Z Z) ?_ | refine J (FU Tryz.underlying24 Z Z) ?_ | refine J (FT Tryz.underlying24 Z Z) ?_ | refine J (FP Tryz.underlying24 Z Z Z) ?_ | refine J (fSq Tryz.underlying24 Z Z) ?_
 refine AF (DM rfl (rfl) (Ai (AE (AE (AH (AC Z Z (AC Z Z (U (Fn (GX hrep x) rfl [40] ⟨rfl,trivial⟩ Z Z Z Z Z Z Z Z Z) ?_))))))))
 first | refine J (ET Z Z) ?_ | refine J (EQ Z Z) ?_
 refine AF ?_
 first | refine Az rfl (fun h15=>?_) (fun h15=>?_) | refine Aw rfl (fun h15=>?_) (fun h15=>?_)
 ·refine AE (AH (AD Z Z (AF (Aq ?_))));exact ⟨_,[40],_,An rfl,rfl,rfl,M,by rw [rem9 h15],rfl,by rw [rem9 h15];exact hrep⟩
 ·refine Ai (AE (AH (AC Z Z ?_)));refine H1 (If (clone_c hrep) rfl [40,41] ⟨rfl,rfl,trivial⟩ Z Z Z Z (fun r H' ⟨b1,M1,e1,e2,_⟩=>by subst e1 e2;exact ⟨rfl,rfl,rfl⟩) rfl) rfl ?_;rintro _ ⟨r,H',⟨b1,N0,e1,e2,hc⟩,rfl⟩;subst e1 e2;refine AD Z Z (AF (AE ?_));have hxR:x∈w.R:=Classical.not_not.1 h15;obtain ⟨m1,E1,lk1,hr1,hl1⟩:=hc;refine AH (AC Z Z ?_)
  first | refine J (GP Z Z) ?_ | refine J (GR Z Z) ?_ | refine J (GQ Z Z) ?_ | refine J (GS Z Z) ?_
  first | refine J (A2 rfl Ac Z Z Z) ?_ | refine J (A4 rfl Ac Z Z Z) ?_ | refine J (A5 rfl Ac Z Z Z) ?_ | refine J (A3 rfl Ac Z Z Z) ?_ | refine J (A1 rfl Ac Z Z Z) ?_
  refine J (Gi (f:=41) Z Z hr1.cell rfl CB rfl) (AC Z Z (U (Gq (f:=41) (eE E1) x none Z Z hr1.top rfl Cc EU rfl) (AF (AE (AE ?_)))));rw [eE_del hl1.kd];have hr2:=hr1.del x
  obtain ⟨N1,hN1⟩:∃N1,BU N0 m1 (.map none (DI (cutE x E1)))=N1:=⟨_,rfl⟩
  rw [hN1] at hr2⊢;refine C4 41 m1 rfl hr2.top (fun _ _=>rfl) fun B c hB hBn=>?_;have hc2:=hr2.lc (some (B,c))
  obtain ⟨N2,hN2⟩:∃N2,BU N1 m1 (.map (some (B,c)) (DI (cutE x E1)))=N2:=⟨_,rfl⟩
  rw [hN2] at hc2⊢;refine AH (AC Z Z ?_)
  first | refine J (GP Z Z) ?_ | refine J (GR Z Z) ?_ | refine J (GQ Z Z) ?_ | refine J (GS Z Z) ?_
  first | refine J (A2 rfl Ac Z Z Z) ?_ | refine J (A4 rfl Ac Z Z Z) ?_ | refine J (A5 rfl Ac Z Z Z) ?_ | refine J (A3 rfl Ac Z Z Z) ?_ | refine J (A1 rfl Ac Z Z Z) ?_
  refine J (Gi (f:=41) Z Z hc2.cell rfl CB rfl) (U (CV 1 (f:=41) Z Z hc2.top rfl Cc Z Z Z Z) (AF (BH (Db (α:=List Nat×List Nat×(Nat ->List Lk)×MF) (fun q=>⟨52,[(0,.d (pD b 0)),(1,.d (AU x)),(5,(.d (pD b1 0))),(27,(.ptr 1 0 0))],[(1,[.iter 41 m1 c q.1]),(40,[.multi M]),(41,[.multi q.2.2.2])]⟩) (fun q=>LC q.2.2.2 b1 m1 (some (B,c)) (cutE x E1) q.2.2.1∧(q.2.1++(Bi (eE (cutE x E1)) B q.1).map hdL).Perm ((cutE x E1).map Prod.snd)∧(∀h∈q.2.1,q.2.2.1 h=KK x (lk1 h))∧∀h,h∉q.2.1 ->q.2.2.1 h=lk1 h) (fun q=>(Bi (eE (cutE x E1)) B q.1).length) (([],[],lk1,N2)) (⟨hc2,by show ([]++(Bi (eE (cutE x E1)) B []).map hdL).Perm _;rw [CZ (by simpa [Ae] using hB),eE_hd];exact List.Perm.refl _,fun h hh=>(by cases hh),fun _ _=>rfl⟩) (At hF [1,40,41] Z Z ⟨rfl,rfl,rfl,rfl,trivial⟩) ?_))));rintro ⟨seen,dn,lk2,N⟩ ⟨hC,hP,hD,hU⟩;dsimp only at hC hP hD hU⊢;refine AE (AH (Dv (eE (cutE x E1)) Z Z Z (hC.top) rfl (fun hl28=>?_) (fun j28 b28 k28 v28 hm28 hb28 hB28 hp28=>⟨_,rfl,?_⟩)))
  ·rw [hl28] at hP;refine Cq 41 m1 rfl hC.top rfl ?_
   first | refine J (Bn Z Z Z) ?_ | refine J (Bm Z Z Z) ?_
   refine AF (AE (DM Z Z (C5 (AE (AE ?_)))));refine a_only [40,41] hF Z Z ?_;have hr3:=hC.lr hr2.nd hr2.ne;have hP':dn.Perm ((cutE x E1).map Prod.snd):=by simpa using hP
   have hrep3:Bg _ b1 (FA w x):=⟨m1,_,lk2,hr3,hl1.cut hw x fun p hp=>hD p.2 (hP'.mem_iff.2 (List.mem_map_of_mem hp))⟩
   obtain ⟨N3,hN3⟩:∃N3,BU N m1 (.map none (DI (cutE x E1)))=N3:=⟨_,rfl⟩
   rw [hN3] at hr3 hrep3⊢;have hK3:(FA w x).K.length≤1000000:=Nat.le_trans (List.length_filter_le _ _) hK;have ho:=(HC hrep3 (hw.cut x) hK3).by [(40,41)] rfl;refine AH (AC Z Z (U (Fn ho rfl [41] ⟨rfl,trivial⟩ Z Z Z Z Z Z Z Z Z) (AC Z Z ?_)))
   first | refine J (Bn Z Z Z) ?_ | refine J (Bm Z Z Z) ?_
   first | refine J (Bn Z Z Z) ?_ | refine J (Bm Z Z Z) ?_
   refine AD Z Z (AD Z Z (AF (AE (AH (AC Z Z ?_)))))
   first | refine J (ET Z Z) ?_ | refine J (EQ Z Z) ?_
   refine AF ?_
   first | refine Az rfl (fun h44=>?_) (fun h44=>?_) | refine Aw rfl (fun h44=>?_) (fun h44=>?_)
   ·refine AE (AH (AD Z Z (AF (Aq ?_))));have hac:acyW (FA w x)=false:=by simpa using h44
    have h26:remW w x=(w,26):=by rw [rem0 hxR,hac];rfl
    exact ⟨_,[40],_,An rfl,rfl,rfl,M,by rw [h26],rfl,by rw [h26];exact hrep⟩
   ·refine Ai (AE (AH (AC Z Z (AC Z Z ?_))))
    first | refine J (GP Z Z) ?_ | refine J (GR Z Z) ?_ | refine J (GQ Z Z) ?_ | refine J (GS Z Z) ?_
    first | refine J (A2 rfl Ac Z Z Z) ?_ | refine J (A4 rfl Ac Z Z Z) ?_ | refine J (A5 rfl Ac Z Z Z) ?_ | refine J (A3 rfl Ac Z Z Z) ?_ | refine J (A1 rfl Ac Z Z Z) ?_
    refine J (Gi (f:=41) Z Z hr3.cell rfl CB rfl) ?_
    first | refine J (GP Z Z) ?_ | refine J (GR Z Z) ?_ | refine J (GQ Z Z) ?_ | refine J (GS Z Z) ?_
    first | refine J (A2 rfl Ac Z Z Z) ?_ | refine J (A4 rfl Ac Z Z Z) ?_ | refine J (A5 rfl Ac Z Z Z) ?_ | refine J (A3 rfl Ac Z Z Z) ?_ | refine J (A1 rfl Ac Z Z Z) ?_
    refine U (PG (f:=40) Z Z Z Z (hr.cell) (by exact Nat.zero_lt_one) rfl sz65) (AF (AE (a_merge 41 40 Z Z Z Z Z Z Z Z Z fun hdis=>(AH (AD Z Z (AF (Aq ?_)))))));have hac:acyW (FA w x)=true:=by simpa using h44
    have h00:remW w x=(FA w x,0):=by rw [rem0 hxR,if_pos hac]
    exact ⟨_,[40],_,An rfl,rfl,rfl,_,by rw [h00],rfl,by rw [h00];exact ⟨m1,_,lk2,⟨HL (D9 _ _ _),un_r hdis hr3.top,fun p hp=>un_r hdis (hr3.sub p hp),hr3.nd,hr3.ne⟩,hl1.cut hw x fun p hp=>hD p.2 (hP'.mem_iff.2 (List.mem_map_of_mem hp))⟩⟩
  ·first | refine J (Bn Z Z Z) ?_ | refine J (Bm Z Z Z) ?_
   refine AF (AE (IH Z Z (Ai (BH (AE ?_)))));obtain ⟨hd,hpe,hve⟩:=HQ hm28;subst hve
   have hdn:hd∉dn:=fun hh=>by
    have h1:=hP.nodup_iff.2 hr2.nd;exact (List.nodup_append.1 h1).2.2 _ hh _ ((hp28.map hdL).mem_iff.2 (by simp [hdL])) rfl
   have hlk:=hU hd hdn;have hsub:=hC.sub _ hpe;have hE1:(k28,hd)∈E1:=(F8.1 hpe).1;have hnd:=hl1.ld _ hE1;rw [show lk2 (k28,hd).2=lk1 hd from hlk] at hsub;refine AH (J (CX (eE (cutE x E1)) j28 b28 Z Z Z (hC.top) hm28 hb28 rfl) ?_)
   first | refine J (Bn Z Z Z) ?_ | refine J (Bm Z Z Z) ?_
   refine AD Z Z (AF (AE (AH (AC Z Z (AC Z Z (J (LE Iw Ns Z Z Z) (U (Gq (f:=41) (DL (lk1 hd)) ⟨0,x⟩ true Z Z hsub rfl G8 J4 rfl) (AF ?_))))))));rw [Io hnd];refine AH (AC Z Z (AC Z Z (J (LE Iw Ns Z Z Z) (U (Gq (f:=41) (DL (PV ⟨0,x⟩ (lk1 hd))) ⟨1,x⟩ true Z Z (by exact D9 _ _ _) rfl G8 J4 rfl) ?_))));rw [Io (LN hnd)];refine AF ?_;exact ⟨(seen++ [b28],dn++ [hd],Ap lk2 hd (KK x (lk1 hd)),_),⟨by have:=hC.set hr2.ne hpe (KK x (lk1 hd));rw [←SY] at this;exact this,E8 hP (y:=[hd]) (by simpa [hdL] using hp28.map hdL),by exact SA hD,by exact Rz hU⟩,by show (Bi (eE (cutE x E1)) B (seen++ [b28])).length<(Bi (eE (cutE x E1)) B seen).length;rw [hp28.length_eq];exact Nat.lt_succ_self _,At hF [1,40,41] rfl (rfl) ⟨rfl,rfl,rfl,rfl,trivial⟩⟩
abbrev Mv (l:Lw):D:= .agg [AU l.f,B7 l.t,AU l.r]
abbrev LY (l:List Lw):D:= .sl none (l.map Mv)
abbrev Jw (w:Ws):D:= .agg [stsD w.R,LY w.K]
def lwC (l:Lw):List Value:=[LI l.f,.int .i64 l.t,LI l.r]
abbrev lwT:List TypeDesc:=[.string,.int .i64,.string]
theorem Lw.eq_iff {a b:Lw}:a=b↔a.f=b.f∧a.t=b.t∧a.r=b.r:=by cases a;cases b;simp
theorem R3 (a b:Lw):BD (lwC a) (lwC b)=decide (a=b):=by
 simp only [lwC,BD,Jf,Je,Lw.eq_iff,Bool.and_true,Bool.decide_and,Bool.and_assoc]
theorem HP (a:Lw):Ar lwT (lwC a):=D6 trivial (D6 rfl (D6 trivial Ka))
theorem Jx (l:List St) (x:St) (hl:l.length≤2000000):Ak Tryz.prog 10 [.d (stsD l),.d (AU x)] (Ad (decide (x∈l))):=by
 refine CP Tryz.func10 Z Z Tryz.ntmps10 Z Z Z fun F hF=>(AE (AH ?_));refine AD Z Z (AF (AE (AE (AH (AD Z Z (AF (BH (Ls (α:=Nat) (fun k=>⟨18,[(0,.d (stsD l)),(1,.d (AU x)),(5,(.d (natD k)))],[]⟩) (fun k=>k≤l.length∧x∉l.take k) (fun k=>l.length - k) (0) (⟨Nat.zero_le _,by simp⟩) (Ec ⟨rfl,rfl,rfl,trivial⟩) ?_))))))));rintro k ⟨hk,hx⟩;refine AE (AE (AH (AC Z Z (AC Z Z (J (Bs rfl (List.length_map ..) Tryz.underlying25 rfl) ?_)))))
 first | refine J (D3 Z Z Z) ?_ | refine J (D4 Z Z Z) ?_
 refine AF ?_
 first | refine Az rfl (fun h9=>?_) (fun h9=>?_) | refine Aw rfl (fun h9=>?_) (fun h9=>?_)
 ·refine Ai (AE (BH (AE ?_)));have hkl:k<l.length:=F1 h9;refine AH (AC Z Z (AC Z Z ?_))
  first | refine J (BE (k) Z Z (rfl) (Dg hkl) Tryz.underlying25 rfl DW rfl) ?_ | refine J (BF (k) Z Z (rfl) (Dg hkl) rfl Tryz.underlying25 DW rfl) ?_
  first | refine J (AZ Z Z AR rfl) ?_ | refine J (AX Z Z Z AR rfl) ?_ | refine J (AY Z Z (rfl) rfl AR rfl) ?_
  refine AC Z Z ?_
  first | refine J (FW Z Z Z) ?_ | refine J (FV Z Z Z) ?_ | refine J (FL Z Z Z) ?_ | refine J (FO Tryz.underlying9 Z Z Z) ?_ | refine J (FR Tryz.underlying9 Z Z Z) ?_ | refine J (FQ Tryz.underlying9 Z Z) ?_ | refine J (FU Tryz.underlying9 Z Z) ?_ | refine J (FT Tryz.underlying9 Z Z) ?_ | refine J (FP Tryz.underlying9 Z Z Z) ?_ | refine J (fSq Tryz.underlying9 Z Z) ?_
  refine AF ?_
  first | refine Az rfl (fun h17=>?_) (fun h17=>?_) | refine Aw rfl (fun h17=>?_) (fun h17=>?_)
  ·refine AE (AH (AD Z Z (AF (Aq ?_))));exact ⟨_,[],[],An rfl,rfl,rfl,by rw [decide_eq_true (by rw [←h17,List.getD_eq_getElem?_getD,List.getElem?_eq_getElem hkl];exact List.getElem_mem hkl)],rfl⟩
  ·refine Ai (AH (AC Z Z (J (CG Z Z (IntWalk.i64_in _ (by omega)) rfl) (AD Z Z (AF ?_)))));exact ⟨k+1,⟨hkl,fun hm=>by rw [List.take_succ_eq_append_getElem hkl] at hm;exact (List.mem_append.1 hm).elim hx fun e=>h17 (by rw [List.mem_singleton.1 e,List.getD_eq_getElem?_getD,List.getElem?_eq_getElem hkl];rfl)⟩,by omega,⟨rfl,rfl,fun _ _=>Has.get (l:=[(0,_),(1,_),(5,_)]) ⟨rfl,rfl,rfl,trivial⟩⟩⟩
 ·refine C5 (AE (AH (AD Z Z (AF (Aq ?_)))));exact ⟨_,[],[],An rfl,rfl,rfl,by rw [decide_eq_false (by rw [←List.take_of_length_le (i:=k) (l:=l) (by have:=h9;omega)];exact hx)],rfl⟩
theorem BJ {l:List Lw} {k:Nat} (h:k<l.length):(l.map Mv)[k]? =some (Mv l[k]):=by
 rw [List.getElem?_map,List.getElem?_eq_getElem h];rfl
theorem Ll (w:Ws) (l:Lw) (hl:w.K.length≤2000000):Ak Tryz.prog 29 [.d (Jw w),.d (Mv l)] (Ad (decide (l∈w.K))):=by
 refine CP Tryz.func29 Z Z Tryz.ntmps29 Z Z Z fun F hF=>(AE (AH (U (Gl 20 Z Z Z Z Z Z Z) (U (Gl 21 Z Z Z Z Z Z Z) ?_))));refine AD Z Z (AF (AE (AE (AH (AD Z Z (AF (BH (Db (α:=Nat) (fun k=>⟨20,[(2,(.ptr 20 0 0)),(3,(.ptr 21 0 0)),(5,(.d (natD k)))],[(20,[.blk 28 [.d (stsD w.R),.d (LY w.K)]]),(21,[.blk 44 [.d (AU l.f),.d (B7 l.t),.d (AU l.r)]])]⟩) (fun k=>k≤w.K.length∧l∉w.K.take k) (fun k=>w.K.length - k) (0) (⟨Nat.zero_le _,by simp⟩) (At hF [20,21] Z Z ⟨rfl,rfl,rfl,trivial⟩) ?_))))))));rintro k ⟨hk,hx⟩;refine AE (AE (AH (AC Z Z ?_)))
 first | refine J (A2 rfl A0 Z Z Z) ?_ | refine J (A4 rfl A0 Z Z Z) ?_ | refine J (A5 rfl A0 Z Z Z) ?_ | refine J (A3 rfl A0 Z Z Z) ?_ | refine J (A1 rfl A0 Z Z Z) ?_
 first | refine J (AZ Z Z A6 rfl) ?_ | refine J (AX Z Z Z A6 rfl) ?_ | refine J (AY Z Z (rfl) rfl A6 rfl) ?_
 refine J (Bs rfl (List.length_map ..) Tryz.underlying26 rfl) ?_
 first | refine J (D3 Z Z Z) ?_ | refine J (D4 Z Z Z) ?_
 refine AF ?_
 first | refine Az rfl (fun h10=>?_) (fun h10=>?_) | refine Aw rfl (fun h10=>?_) (fun h10=>?_)
 ·refine Ai (AE (BH (AE ?_)));have hkl:k<w.K.length:=F1 h10;refine FK [[],[0],[],[0,1,2],[0,1,2,3],[],[0,1,2,3,4,5]] mixed rfl (D1 ?_)
  first | refine AG [2] [] Z Z (fun _=>AB (A2 rfl A0 Z Z Z)) ?_ | refine AI [2] Z Z (fun _=>AB (A2 rfl A0 Z Z Z)) ?_ | refine AG [2] [] Z Z (fun _=>AB (A4 rfl A0 Z Z Z)) ?_ | refine AI [2] Z Z (fun _=>AB (A4 rfl A0 Z Z Z)) ?_ | refine AG [2] [] Z Z (fun _=>AB (A5 rfl A0 Z Z Z)) ?_ | refine AI [2] Z Z (fun _=>AB (A5 rfl A0 Z Z Z)) ?_ | refine AG [2] [] Z Z (fun _=>AB (A3 rfl A0 Z Z Z)) ?_ | refine AI [2] Z Z (fun _=>AB (A3 rfl A0 Z Z Z)) ?_ | refine AG [2] [] Z Z (fun _=>AB (A1 rfl A0 Z Z Z)) ?_ | refine AI [2] Z Z (fun _=>AB (A1 rfl A0 Z Z Z)) ?_
  first | refine AG [13] [20] Z Z (fun _=>AB (AZ Z Z A6 rfl)) ?_ | refine AG [13] [20] Z Z (fun _=>AB (AX Z Z Z A6 rfl)) ?_ | refine AG [13] [20] Z Z (fun _=>AB (AY Z Z (rfl) rfl A6 rfl)) ?_
  first | refine AG [5] [] Z Z (fun _=>AB (A8 Z Z)) ?_ | refine AI [5] Z Z (fun _=>AB (A8 Z Z)) ?_
  first | refine AG [14,15] [] Z Z (fun _=>AB (BE (k) Z Z (rfl) (BJ hkl) Tryz.underlying26 rfl BB rfl)) ?_ | refine AI [14,15] Z Z (fun _=>AB (BE (k) Z Z (rfl) (BJ hkl) Tryz.underlying26 rfl BB rfl)) ?_ | refine AG [14,15] [] Z Z (fun _=>AB (BF (k) Z Z (rfl) (BJ hkl) rfl Tryz.underlying26 BB rfl)) ?_ | refine AI [14,15] Z Z (fun _=>AB (BF (k) Z Z (rfl) (BJ hkl) rfl Tryz.underlying26 BB rfl)) ?_
  first | refine AG [16] [] Z Z (fun _=>AB (BN Z Z Au rfl)) ?_ | refine AI [16] Z Z (fun _=>AB (BN Z Z Au rfl)) ?_ | refine AG [16] [] Z Z (fun _=>AB (BO Z Z Au Z Z Z)) ?_ | refine AI [16] Z Z (fun _=>AB (BO Z Z Au Z Z Z)) ?_ | refine AG [16] [] Z Z (fun _=>AB (BP Z Z (rfl) rfl Au rfl)) ?_ | refine AI [16] Z Z (fun _=>AB (BP Z Z (rfl) rfl Au rfl)) ?_
  first | refine AG [3] [21] Z Z (fun _=>AB (BN Z Z Au rfl)) ?_ | refine AG [3] [21] Z Z (fun _=>AB (BO Z Z Au Z Z Z)) ?_ | refine AG [3] [21] Z Z (fun _=>AB (BP Z Z (rfl) rfl Au rfl)) ?_
  refine D2 6 Z Z Z (BY 7 Z Z (J (Q2 (la:=lwC w.K[k]) (lb:=lwC l) (ds:=lwT) (by kernel_rfl) (by kernel_rfl) (by kernel_rfl) Z Z Z Z (HP _) (HP _) (R3 _ _) rfl) (AF ⟨rfl,?_⟩)));refine Eg ?_
  first | refine Az rfl (fun h19=>?_) (fun h19=>?_) | refine Aw rfl (fun h19=>?_) (fun h19=>?_)
  ·refine AE (AH (AD Z Z (AF (Aq ?_))));exact ⟨_,[],[],An rfl,rfl,rfl,by rw [decide_eq_true (by rw [←h19];exact List.getElem_mem hkl)],rfl⟩
  ·refine Ai (AH (AC Z Z (J (CG Z Z (IntWalk.i64_in _ (by omega)) rfl) (AD Z Z (AF ?_)))));exact ⟨k+1,⟨hkl,fun hm=>by rw [List.take_succ_eq_append_getElem hkl] at hm;exact (List.mem_append.1 hm).elim hx fun e=>h19 (List.mem_singleton.1 e).symm⟩,by omega,At hF [20,21] rfl (rfl) ⟨rfl,rfl,rfl,trivial⟩⟩
 ·refine C5 (AE (AH (AD Z Z (AF (Aq ?_)))));exact ⟨_,[],[],An rfl,rfl,rfl,by rw [decide_eq_false (by rw [←List.take_of_length_le (i:=k) (l:=w.K) (by have:=h10;omega)];exact hx)],rfl⟩
end Go.Proofs.YtlmedakidpaeeaaGreat
