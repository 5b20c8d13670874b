/- Layer 27: Link, walked. -/
import Derived.Test.YtlmedakidpaeeaaMg19
namespace Go.Proofs.Ytlmedakidpaeeaa
open Go.RowKit
set_option maxRecDepth 100000
theorem EK {s:AS}:∀(i:Nat) a v,([]:List AV)[i]?=some a ->([]:List Value)[i]?=some v ->H1 s a v:=fun i a v h=>by simp at h
theorem iOq {s:AS} {a:AV} {v:Value} {ars:List AV} {vs:List Value} (h:H1 s a v) (hr:∀(i:Nat) a v,ars[i]?=some a ->vs[i]?=some v ->H1 s a v):∀(i:Nat) a' v',(a::ars)[i]?=some a' ->(v::vs)[i]?=some v' ->H1 s a' v':=fun i a' v' h1 h2=>by
 cases i with
 | zero=>simp at h1 h2;subst h1 h2;exact h
 | succ i=>exact hr i a' v' (by simpa using h1) (by simpa using h2)
theorem QR {w:Ws} {l:Lw} (h1:l.t≠0) (h2:l.t≠1):lnkW w l=(w,11):=by unfold lnkW;rw [if_pos ⟨h1,h2⟩]
theorem MK {w:Ws} {l:Lw} (ht:l.t=0∨l.t=1) (h:l.f∉w.R∨l.r∉w.R):lnkW w l=(w,9):=by unfold lnkW;rw [if_neg (by omega),if_pos h]
theorem KG {w:Ws} {l:Lw} (ht:l.t=0∨l.t=1) (h1:l.f∈w.R) (h2:l.r∈w.R) (h:l.f=l.r):lnkW w l=(w,26):=by unfold lnkW;rw [if_neg (by omega),if_neg fun hh=>hh.elim (· h1) (· h2),if_pos h]
theorem lnk7 {w:Ws} {l:Lw} (ht:l.t=0∨l.t=1) (h1:l.f∈w.R) (h2:l.r∈w.R) (h3:l.f≠l.r) (h:l∈w.K):lnkW w l=(w,7):=by unfold lnkW;rw [if_neg (by omega),if_neg fun hh=>hh.elim (· h1) (· h2),if_neg h3,if_pos h]
theorem NN {w:Ws} {l:Lw} (ht:l.t=0∨l.t=1) (h1:l.f∈w.R) (h2:l.r∈w.R) (h3:l.f≠l.r) (h4:l∉w.K):lnkW w l=if acyW (BB w l)=true then (BB w l,0) else (w,26):=by unfold lnkW;rw [if_neg (by omega),if_neg fun hh=>hh.elim (· h1) (· h2),if_neg h3,if_neg h4]
theorem Ip {M:MF} {b:Nat} {w:Ws} (h:BU M b w) (hw:B7 w) (hK:w.K.length≤999999) (l:Lw):AR Try.prog 29 [.d (pD b 0),.d (AU l.f),.d (lkD ⟨l.t,l.r⟩)] [(40,[.multi M])] fun r H'=>∃M',r= .d (Bt (lnkW w l).2)∧H'=[(40,[.multi M'])]∧BU M' b (lnkW w l).1:=by
 have hrep:=h;obtain ⟨m,E,lk,hr,hl⟩:=h;refine RE Try.func29 Z Z Try.ntmps29 Z Z Z fun F Fi hF hrnd hlo hR hD=>?_
 first | refine AF ?_ | refine By hR ?_
 refine AI (U (IT 910 Z Z Z Z Z Z Z) (U (IT 911 Z Z Z Z Z Z Z) (U (IT 912 Z Z Z Z Z Z Z) (U (Hm 913 zl25 Z Z Z Z) (AG ?_)))))
 first | refine AF ?_ | refine By hR ?_
 refine Bc ?_
 first | refine AF ?_ | refine By hR ?_
 refine AI ?_
 first | refine J (AY Z Z BE rfl) ?_ | refine J (AW Z Z Z BE rfl) ?_ | refine J (AX Z Z (rfl) rfl BE rfl) ?_
 first | refine J (Er Z Z Z) ?_ | refine J (FF Z Z Z) ?_ | refine J (En Z Z Z) ?_ | refine J (Et Try.underlying23 Z Z Z) ?_ | refine J (Ew Try.underlying23 Z Z Z) ?_ | refine J (Ev Try.underlying23 Z Z) ?_ | refine J (FE Try.underlying23 Z Z) ?_ | refine J (Ez Try.underlying23 Z Z) ?_ | refine J (Eu Try.underlying23 Z Z Z) ?_ | refine J (Ey Try.underlying23 Z Z) ?_
 refine AD Z Z (AG (D0 rfl (rfl) ?_))
 first | refine AF ?_ | refine By hR ?_
 refine AI ?_
 first | refine J (A4 rfl Hx Z Z Z) ?_ | refine J (A6 rfl Hx Z Z Z) ?_ | refine J (A7 rfl Hx Z Z Z) ?_ | refine J (A5 rfl Hx Z Z Z) ?_ | refine J (A3 rfl Hx Z Z Z) ?_
 first | refine J (AY Z Z Be rfl) ?_ | refine J (AW Z Z Z Be rfl) ?_ | refine J (AX Z Z (rfl) rfl Be rfl) ?_
 first | refine J (Gt Z Z Z) ?_ | refine J (Gs Z Z Z) ?_ | refine J (GY Z Z Z) ?_ | refine J (Gu Try.underlying3 Z Z Z) ?_ | refine J (Gw Try.underlying3 Z Z Z) ?_ | refine J (st_neqN Try.underlying3 Z Z) ?_ | refine J (Gr Try.underlying3 Z Z) ?_ | refine J (st_neqMz Try.underlying3 Z Z) ?_ | refine J (Gv Try.underlying3 Z Z Z) ?_ | refine J (st_neqFN Try.underlying3 Z Z) ?_
 refine AC Z Z ?_
 first | refine JU 16 rfl (fun h16=>?_) (fun h16=>?_) | refine IR 16 rfl (fun h16=>?_) (fun h16=>?_)
 ·refine A1 Z Z Z ?_
  first | refine J (A4 rfl Hx Z Z Z) ?_ | refine J (A6 rfl Hx Z Z Z) ?_ | refine J (A7 rfl Hx Z Z Z) ?_ | refine J (A5 rfl Hx Z Z Z) ?_ | refine J (A3 rfl Hx Z Z Z) ?_
  refine A1 Z Z Z ?_
  first | refine J (AY Z Z Be rfl) ?_ | refine J (AW Z Z Z Be rfl) ?_ | refine J (AX Z Z (rfl) rfl Be rfl) ?_
  refine A1 Z Z Z ?_
  first | refine J (Gt Z Z Z) ?_ | refine J (Gs Z Z Z) ?_ | refine J (GY Z Z Z) ?_ | refine J (Gu Try.underlying3 Z Z Z) ?_ | refine J (Gw Try.underlying3 Z Z Z) ?_ | refine J (st_neqN Try.underlying3 Z Z) ?_ | refine J (Gr Try.underlying3 Z Z) ?_ | refine J (st_neqMz Try.underlying3 Z Z) ?_ | refine J (Gv Try.underlying3 Z Z Z) ?_ | refine J (st_neqFN Try.underlying3 Z Z) ?_
  refine J (Fp Z Z Z Z) (AD Z Z (AG ?_))
  first | refine BC rfl (fun h12=>?_) (fun h12=>?_) | refine Az rfl (fun h12=>?_) (fun h12=>?_)
  ·first | refine AF ?_ | refine By hR ?_
   refine AI (U (Bq Z Z Z Z Z Z Z HE) (AG (At ?_)));exact ⟨_,[40],_,Ar rfl,rfl,rfl,M,by rw [QR h16 h12],rfl,by rw [QR h16 h12];exact hrep⟩
  ·first | refine AF ?_ | refine By hR ?_
   refine AI ?_
   first | refine J (AY Z Z BE rfl) ?_ | refine J (AW Z Z Z BE rfl) ?_ | refine J (AX Z Z (rfl) rfl BE rfl) ?_
   first | refine J (AY Z Z AZ rfl) ?_ | refine J (AW Z Z Z AZ rfl) ?_ | refine J (AX Z Z (rfl) rfl AZ rfl) ?_
   refine U (F5 (Iu hrep l.f) rfl [40] ⟨rfl,trivial⟩ Z Z Z Z Z Z Z Z Z) ?_
   first | refine J (EZ Z Z) ?_ | refine J (EY Z Z) ?_
   refine AC Z Z ?_
   first | refine JU 26 rfl (fun h26=>?_) (fun h26=>?_) | refine IR 26 rfl (fun h26=>?_) (fun h26=>?_)
   ·refine BA Z Z Z Z (BA Z Z Z Z (BA Z Z Z Z (BA Z Z Z Z (BA Z Z Z Z (J (Fp Z Z Z Z) (AD Z Z (AG (JM Z Z ?_))))))))
    first | refine AF ?_ | refine By hR ?_
    have h9:lnkW w l=(w,9):=MK (by first | exact .inl (Classical.not_not.1 h16) | exact .inr (Classical.not_not.1 h12)) (by first | exact .inl h26 | exact .inr h21);refine AI (U (Bq Z Z Z Z Z Z Z HE) (AG (At ?_)));exact ⟨_,[40],_,Ar rfl,rfl,rfl,M,by rw [h9],rfl,by rw [h9];exact hrep⟩
   ·refine A1 Z Z Z ?_
    first | refine J (AY Z Z BE rfl) ?_ | refine J (AW Z Z Z BE rfl) ?_ | refine J (AX Z Z (rfl) rfl BE rfl) ?_
    refine A1 Z Z Z ?_
    first | refine J (A4 rfl CB Z Z Z) ?_ | refine J (A6 rfl CB Z Z Z) ?_ | refine J (A7 rfl CB Z Z Z) ?_ | refine J (A5 rfl CB Z Z Z) ?_ | refine J (A3 rfl CB Z Z Z) ?_
    refine A1 Z Z Z ?_
    first | refine J (AY Z Z AZ rfl) ?_ | refine J (AW Z Z Z AZ rfl) ?_ | refine J (AX Z Z (rfl) rfl AZ rfl) ?_
    refine A1 Z Z Z (U (F5 (Iu hrep l.r) rfl [40] ⟨rfl,trivial⟩ Z Z Z Z Z Z Z Z Z) (A1 Z Z Z ?_))
    first | refine J (EZ Z Z) ?_ | refine J (EY Z Z) ?_
    refine J (Fo Z Z Z Z) (AD Z Z (AG ?_))
    first | refine BC rfl (fun h21=>?_) (fun h21=>?_) | refine Az rfl (fun h21=>?_) (fun h21=>?_)
    ·first | refine AF ?_ | refine By hR ?_
     have h9:lnkW w l=(w,9):=MK (by first | exact .inl (Classical.not_not.1 h16) | exact .inr (Classical.not_not.1 h12)) (by first | exact .inl h26 | exact .inr h21);refine AI (U (Bq Z Z Z Z Z Z Z HE) (AG (At ?_)));exact ⟨_,[40],_,Ar rfl,rfl,rfl,M,by rw [h9],rfl,by rw [h9];exact hrep⟩
    ·first | refine AF ?_ | refine By hR ?_
     have ht:l.t=0∨l.t=1:=by first | exact .inl (Classical.not_not.1 h16) | exact .inr (Classical.not_not.1 h12)
     have hfR:l.f∈w.R:=Classical.not_not.1 h26;have hrR:l.r∈w.R:=Classical.not_not.1 h21;refine AI ?_
     first | refine J (AY Z Z AZ rfl) ?_ | refine J (AW Z Z Z AZ rfl) ?_ | refine J (AX Z Z (rfl) rfl AZ rfl) ?_
     first | refine J (A4 rfl CB Z Z Z) ?_ | refine J (A6 rfl CB Z Z Z) ?_ | refine J (A7 rfl CB Z Z Z) ?_ | refine J (A5 rfl CB Z Z Z) ?_ | refine J (A3 rfl CB Z Z Z) ?_
     first | refine J (AY Z Z AZ rfl) ?_ | refine J (AW Z Z Z AZ rfl) ?_ | refine J (AX Z Z (rfl) rfl AZ rfl) ?_
     first | refine J (Er Z Z Z) ?_ | refine J (FF Z Z Z) ?_ | refine J (En Z Z Z) ?_ | refine J (Et Try.underlying9 Z Z Z) ?_ | refine J (Ew Try.underlying9 Z Z Z) ?_ | refine J (Ev Try.underlying9 Z Z) ?_ | refine J (FE Try.underlying9 Z Z) ?_ | refine J (Ez Try.underlying9 Z Z) ?_ | refine J (Eu Try.underlying9 Z Z Z) ?_ | refine J (Ey Try.underlying9 Z Z) ?_
     refine AD Z Z (AG ?_)
     first | refine BC rfl (fun h33=>?_) (fun h33=>?_) | refine Az rfl (fun h33=>?_) (fun h33=>?_)
     ·first | refine AF ?_ | refine By hR ?_
      refine AI (U (Bq Z Z Z Z Z Z Z HE) (AG (At ?_)));exact ⟨_,[40],_,Ar rfl,rfl,rfl,M,by rw [KG ht hfR hrR h33],rfl,by rw [KG ht hfR hrR h33];exact hrep⟩
     ·first | refine AF ?_ | refine By hR ?_
      obtain ⟨hd,hm⟩:=hl.at hfR;refine FH [[],[0],[0,1],[0,1,2],[],[0,1,2,3,4],[],[0,1,2,3,4,5,6],[0,1,2,3,4,5,6,7]] mixed rfl (Dk ?_)
      first | refine AE [3] [] Z Z (fun _=>AB (AY Z Z BE rfl)) ?_ | refine AH [3] Z Z (fun _=>AB (AY Z Z BE rfl)) ?_ | refine AE [3] [] Z Z (fun _=>AB (AW Z Z Z BE rfl)) ?_ | refine AH [3] Z Z (fun _=>AB (AW Z Z Z BE rfl)) ?_ | refine AE [3] [] Z Z (fun _=>AB (AX Z Z (rfl) rfl BE rfl)) ?_ | refine AH [3] Z Z (fun _=>AB (AX Z Z (rfl) rfl BE rfl)) ?_
      first | refine AE [39] [] Z Z (fun _=>AB (FC Z Z)) ?_ | refine AH [39] Z Z (fun _=>AB (FC Z Z)) ?_ | refine AE [39] [] Z Z (fun _=>AB (FA Z Z)) ?_ | refine AH [39] Z Z (fun _=>AB (FA Z Z)) ?_ | refine AE [39] [] Z Z (fun _=>AB (FD Z Z)) ?_ | refine AH [39] Z Z (fun _=>AB (FD Z Z)) ?_ | refine AE [39] [] Z Z (fun _=>AB (FB Z Z)) ?_ | refine AH [39] Z Z (fun _=>AB (FB Z Z)) ?_
      first | refine AE [40] [] Z Z (fun _=>AB (A4 rfl A0 Z Z Z)) ?_ | refine AH [40] Z Z (fun _=>AB (A4 rfl A0 Z Z Z)) ?_ | refine AE [40] [] Z Z (fun _=>AB (A6 rfl A0 Z Z Z)) ?_ | refine AH [40] Z Z (fun _=>AB (A6 rfl A0 Z Z Z)) ?_ | refine AE [40] [] Z Z (fun _=>AB (A7 rfl A0 Z Z Z)) ?_ | refine AH [40] Z Z (fun _=>AB (A7 rfl A0 Z Z Z)) ?_ | refine AE [40] [] Z Z (fun _=>AB (A5 rfl A0 Z Z Z)) ?_ | refine AH [40] Z Z (fun _=>AB (A5 rfl A0 Z Z Z)) ?_ | refine AE [40] [] Z Z (fun _=>AB (A3 rfl A0 Z Z Z)) ?_ | refine AH [40] Z Z (fun _=>AB (A3 rfl A0 Z Z Z)) ?_
      first | refine AE [41] [] Z Z (fun _=>AB (Fu (f:=40) Z Z (hr.cell) rfl Bk rfl)) ?_ | refine AH [41] Z Z (fun _=>AB (Fu (f:=40) Z Z (hr.cell) rfl Bk rfl)) ?_
      first | refine AE [4] [] Z Z (fun _=>AB (AY Z Z AZ rfl)) ?_ | refine AH [4] Z Z (fun _=>AB (AY Z Z AZ rfl)) ?_ | refine AE [4] [] Z Z (fun _=>AB (AW Z Z Z AZ rfl)) ?_ | refine AH [4] Z Z (fun _=>AB (AW Z Z Z AZ rfl)) ?_ | refine AE [4] [] Z Z (fun _=>AB (AX Z Z (rfl) rfl AZ rfl)) ?_ | refine AH [4] Z Z (fun _=>AB (AX Z Z (rfl) rfl AZ rfl)) ?_
      first | refine AE [42,43] [] Z Z (fun _=>AB (HY (f:=40) (eE E) l.f none (some hd) Z Z hr.top rfl Bs EX EB (KY hl.kd hm) rfl)) ?_ | refine AH [42,43] Z Z (fun _=>AB (HY (f:=40) (eE E) l.f none (some hd) Z Z hr.top rfl Bs EX EB (KY hl.kd hm) rfl)) ?_
      first | refine AE [5] [] Z Z (fun _=>AB (BS Z Z Aj rfl)) ?_ | refine AH [5] Z Z (fun _=>AB (BS Z Z Aj rfl)) ?_ | refine AE [5] [] Z Z (fun _=>AB (BQ Z Z Aj Z Z Z)) ?_ | refine AH [5] Z Z (fun _=>AB (BQ Z Z Aj Z Z Z)) ?_ | refine AE [5] [] Z Z (fun _=>AB (BR Z Z (rfl) rfl Aj rfl)) ?_ | refine AH [5] Z Z (fun _=>AB (BR Z Z (rfl) rfl Aj rfl)) ?_
      refine Dl 7 Z Z Z (B9 8 Z Z (J (HY (f:=40) (Cg (lk hd)) ⟨l.t,l.r⟩ false _ Z Z (hr.sub _ hm) rfl FQ Hs za4 (IG _ _) rfl) (AG ⟨rfl,?_⟩)));refine B9 9 Z Z (AD Z Z (AG ⟨rfl,?_⟩));refine Em ?_
      first | refine BC rfl (fun h38=>?_) (fun h38=>?_) | refine Az rfl (fun h38=>?_) (fun h38=>?_)
      ·first | refine AF ?_ | refine By hR ?_
       refine AI (U (Bq Z Z Z Z Z Z Z HE) (AG (At ?_)));have h7:=lnk7 ht hfR hrR h33 ((hl.ls _ hm _).1 h38);exact ⟨_,[40],_,Ar rfl,rfl,rfl,M,by rw [h7],rfl,by rw [h7];exact hrep⟩
      ·refine Ak ?_
       first | refine AF ?_ | refine By hR ?_
       refine Ct 921 910 0 Z Z Z Z Z fun u3=>(Ct 922 911 0 Z Z Z Z Z fun u4=>(Ct 923 912 0 Z Z Z Z Z fun u5=>(Ct 924 913 0 Z Z Z Z Z fun u6=>(FH [[],[0],[0,1],[0,1,2],[],[0,1,2,3,4],[],[0,1,2,3,4,5,6]] mixed rfl (Dk ?_)))))
       first | refine AE [3] [] Z Z (fun _=>AB (AY Z Z BE rfl)) ?_ | refine AH [3] Z Z (fun _=>AB (AY Z Z BE rfl)) ?_ | refine AE [3] [] Z Z (fun _=>AB (AW Z Z Z BE rfl)) ?_ | refine AH [3] Z Z (fun _=>AB (AW Z Z Z BE rfl)) ?_ | refine AE [3] [] Z Z (fun _=>AB (AX Z Z (rfl) rfl BE rfl)) ?_ | refine AH [3] Z Z (fun _=>AB (AX Z Z (rfl) rfl BE rfl)) ?_
       first | refine AE [47] [] Z Z (fun _=>AB (FC Z Z)) ?_ | refine AH [47] Z Z (fun _=>AB (FC Z Z)) ?_ | refine AE [47] [] Z Z (fun _=>AB (FA Z Z)) ?_ | refine AH [47] Z Z (fun _=>AB (FA Z Z)) ?_ | refine AE [47] [] Z Z (fun _=>AB (FD Z Z)) ?_ | refine AH [47] Z Z (fun _=>AB (FD Z Z)) ?_ | refine AE [47] [] Z Z (fun _=>AB (FB Z Z)) ?_ | refine AH [47] Z Z (fun _=>AB (FB Z Z)) ?_
       first | refine AE [48] [] Z Z (fun _=>AB (A4 rfl A0 Z Z Z)) ?_ | refine AH [48] Z Z (fun _=>AB (A4 rfl A0 Z Z Z)) ?_ | refine AE [48] [] Z Z (fun _=>AB (A6 rfl A0 Z Z Z)) ?_ | refine AH [48] Z Z (fun _=>AB (A6 rfl A0 Z Z Z)) ?_ | refine AE [48] [] Z Z (fun _=>AB (A7 rfl A0 Z Z Z)) ?_ | refine AH [48] Z Z (fun _=>AB (A7 rfl A0 Z Z Z)) ?_ | refine AE [48] [] Z Z (fun _=>AB (A5 rfl A0 Z Z Z)) ?_ | refine AH [48] Z Z (fun _=>AB (A5 rfl A0 Z Z Z)) ?_ | refine AE [48] [] Z Z (fun _=>AB (A3 rfl A0 Z Z Z)) ?_ | refine AH [48] Z Z (fun _=>AB (A3 rfl A0 Z Z Z)) ?_
       first | refine AE [49] [] Z Z (fun _=>AB (Fu (f:=40) Z Z (hr.cell) rfl Bk rfl)) ?_ | refine AH [49] Z Z (fun _=>AB (Fu (f:=40) Z Z (hr.cell) rfl Bk rfl)) ?_
       first | refine AE [4] [] Z Z (fun _=>AB (AY Z Z AZ rfl)) ?_ | refine AH [4] Z Z (fun _=>AB (AY Z Z AZ rfl)) ?_ | refine AE [4] [] Z Z (fun _=>AB (AW Z Z Z AZ rfl)) ?_ | refine AH [4] Z Z (fun _=>AB (AW Z Z Z AZ rfl)) ?_ | refine AE [4] [] Z Z (fun _=>AB (AX Z Z (rfl) rfl AZ rfl)) ?_ | refine AH [4] Z Z (fun _=>AB (AX Z Z (rfl) rfl AZ rfl)) ?_
       first | refine AE [50,51] [] Z Z (fun _=>AB (HY (f:=40) (eE E) l.f none (some hd) Z Z hr.top rfl Bs EX EB (KY hl.kd hm) rfl)) ?_ | refine AH [50,51] Z Z (fun _=>AB (HY (f:=40) (eE E) l.f none (some hd) Z Z hr.top rfl Bs EX EB (KY hl.kd hm) rfl)) ?_
       first | refine AE [5] [] Z Z (fun _=>AB (BS Z Z Aj rfl)) ?_ | refine AH [5] Z Z (fun _=>AB (BS Z Z Aj rfl)) ?_ | refine AE [5] [] Z Z (fun _=>AB (BQ Z Z Aj Z Z Z)) ?_ | refine AH [5] Z Z (fun _=>AB (BQ Z Z Aj Z Z Z)) ?_ | refine AE [5] [] Z Z (fun _=>AB (BR Z Z (rfl) rfl Aj rfl)) ?_ | refine AH [5] Z Z (fun _=>AB (BR Z Z (rfl) rfl Aj rfl)) ?_
       refine Dl 7 Z Z Z (B9 8 Z Z (U (FK (f:=40) (Cg (lk hd)) (⟨l.t,l.r⟩) (true) Z Z (hr.sub _ hm) rfl FQ Hs Z Z) (AG ⟨rfl,?_⟩)));refine Em ?_;have hnK:l∉w.K:=fun hh=>h38 ((hl.ls _ hm _).2 hh);rw [Kp h38];have hrep1:BU _ b (BB w l):=LT hr hl hm (l:=⟨l.t,l.r⟩) hnK;have hok1:=hw.with_ ht hfR hrR h33 hnK;have hK1:(BB w l).K.length≤1000000:=by show (w.K++ [l]).length≤_;rw [List.length_append,List.length_singleton];omega
       have h0:=NN ht hfR hrR h33 hnK
       obtain ⟨M1,hM1⟩:∃M1,BD M hd (.map none (CF (lk hd++ [⟨l.t,l.r⟩])))=M1:=⟨_,rfl⟩
       rw [hM1] at hrep1⊢;refine Nv (xs:=[6,3,4,5]) (ars:=[.ptr 913 0 0,.ptr 910 0 0,.ptr 911 0 0,.ptr 912 0 0]) [.pointer (some ⟨u6,0,none⟩),.pointer (some ⟨u3,0,none⟩),.pointer (some ⟨u4,0,none⟩),.pointer (some ⟨u5,0,none⟩)] hD hlo hrnd Z Z Z ?_ ?_
       ·exact (iOq ⟨913,0,u6,924,0,rfl,rfl,rfl⟩ (iOq ⟨910,0,u3,921,0,rfl,rfl,rfl⟩ (iOq ⟨911,0,u4,922,0,rfl,rfl,rfl⟩ (iOq ⟨912,0,u5,923,0,rfl,rfl,rfl⟩ EK))))
       refine AF (AF (AI ?_))
       first | refine J (AY Z Z BE rfl) ?_ | refine J (AW Z Z Z BE rfl) ?_ | refine J (AX Z Z (rfl) rfl BE rfl) ?_
       refine U (F5 (Ga hrep1 hok1 hK1) rfl [40] ⟨rfl,trivial⟩ Z Z Z Z Z Z Z Z Z) (AC Z Z ?_)
       first | refine J (B5 Z Z Z) ?_ | refine J (B6 Z Z Z) ?_
       first | refine J (B5 Z Z Z) ?_ | refine J (B6 Z Z Z) ?_
       refine AD Z Z (AD Z Z (AG (AF (AI (AC Z Z ?_)))))
       first | refine J (EZ Z Z) ?_ | refine J (EY Z Z) ?_
       refine AG ?_
       first | refine BC rfl (fun h61=>?_) (fun h61=>?_) | refine Az rfl (fun h61=>?_) (fun h61=>?_)
       ·refine AF (AI (U (Bq Z Z Z Z Z Z Z HE) (AG (At ?_))));have hac:acyW (BB w l)=false:=by simpa using h61
        have h0':lnkW w l=(w,26):=by rw [h0,hac];rfl
        refine ⟨_,HLk b l 26++ [(40,[.multi M1])],_,[910,911,912,913,40],_,_,_,K8 hrep1 l hfR 26,rfl,?_,⟨rfl,rfl,rfl,rfl,rfl,trivial⟩,rfl,rfl,rfl,rfl,fun r H' ⟨e1,M',e2,h3⟩=>?_⟩
        ·exact (iOq ⟨913,0,u6,924,0,rfl,rfl,rfl⟩ (iOq ⟨910,0,u3,921,0,rfl,rfl,rfl⟩ (iOq ⟨911,0,u4,922,0,rfl,rfl,rfl⟩ (iOq ⟨912,0,u5,923,0,rfl,rfl,rfl⟩ EK))))
        ·subst e1 e2;exact ⟨⟨rfl,rfl,rfl⟩,_,[40],_,Ar rfl,rfl,rfl,M',by rw [h0'],rfl,by rw [h0'];rw [if_neg (by decide),HH hnK] at h3;exact h3⟩
       ·refine Ak (AF (AI (U (Bq Z Z Z Z Z Z Z HE) (AG (At ?_)))));have hac:acyW (BB w l)=true:=by simpa using h61
        have h0':lnkW w l=(BB w l,0):=by rw [h0,hac];rfl
        refine ⟨_,HLk b l 0++ [(40,[.multi M1])],_,[910,911,912,913,40],_,_,_,K8 hrep1 l hfR 0,rfl,?_,⟨rfl,rfl,rfl,rfl,rfl,trivial⟩,rfl,rfl,rfl,rfl,fun r H' ⟨e1,M',e2,h3⟩=>?_⟩
        ·exact (iOq ⟨913,0,u6,924,0,rfl,rfl,rfl⟩ (iOq ⟨910,0,u3,921,0,rfl,rfl,rfl⟩ (iOq ⟨911,0,u4,922,0,rfl,rfl,rfl⟩ (iOq ⟨912,0,u5,923,0,rfl,rfl,rfl⟩ EK))))
        ·subst e1 e2;exact ⟨⟨rfl,rfl,rfl⟩,_,[40],_,Ar rfl,rfl,rfl,M',by rw [h0'],rfl,by rw [h0'];rw [if_pos rfl] at h3;exact h3⟩
 ·refine BA Z Z Z Z (BA Z Z Z Z (BA Z Z Z Z (J (Fo Z Z Z Z) (AD Z Z (AG (D0 Z Z ?_))))))
  first | refine AF ?_ | refine By hR ?_
  refine AI ?_
  first | refine J (AY Z Z BE rfl) ?_ | refine J (AW Z Z Z BE rfl) ?_ | refine J (AX Z Z (rfl) rfl BE rfl) ?_
  first | refine J (AY Z Z AZ rfl) ?_ | refine J (AW Z Z Z AZ rfl) ?_ | refine J (AX Z Z (rfl) rfl AZ rfl) ?_
  refine U (F5 (Iu hrep l.f) rfl [40] ⟨rfl,trivial⟩ Z Z Z Z Z Z Z Z Z) ?_
  first | refine J (EZ Z Z) ?_ | refine J (EY Z Z) ?_
  refine AC Z Z ?_
  first | refine JU 26 rfl (fun h26=>?_) (fun h26=>?_) | refine IR 26 rfl (fun h26=>?_) (fun h26=>?_)
  ·refine BA Z Z Z Z (BA Z Z Z Z (BA Z Z Z Z (BA Z Z Z Z (BA Z Z Z Z (J (Fp Z Z Z Z) (AD Z Z (AG (JM Z Z ?_))))))))
   first | refine AF ?_ | refine By hR ?_
   have h9:lnkW w l=(w,9):=MK (by first | exact .inl (Classical.not_not.1 h16) | exact .inr (Classical.not_not.1 h12)) (by first | exact .inl h26 | exact .inr h21);refine AI (U (Bq Z Z Z Z Z Z Z HE) (AG (At ?_)));exact ⟨_,[40],_,Ar rfl,rfl,rfl,M,by rw [h9],rfl,by rw [h9];exact hrep⟩
  ·refine A1 Z Z Z ?_
   first | refine J (AY Z Z BE rfl) ?_ | refine J (AW Z Z Z BE rfl) ?_ | refine J (AX Z Z (rfl) rfl BE rfl) ?_
   refine A1 Z Z Z ?_
   first | refine J (A4 rfl CB Z Z Z) ?_ | refine J (A6 rfl CB Z Z Z) ?_ | refine J (A7 rfl CB Z Z Z) ?_ | refine J (A5 rfl CB Z Z Z) ?_ | refine J (A3 rfl CB Z Z Z) ?_
   refine A1 Z Z Z ?_
   first | refine J (AY Z Z AZ rfl) ?_ | refine J (AW Z Z Z AZ rfl) ?_ | refine J (AX Z Z (rfl) rfl AZ rfl) ?_
   refine A1 Z Z Z (U (F5 (Iu hrep l.r) rfl [40] ⟨rfl,trivial⟩ Z Z Z Z Z Z Z Z Z) (A1 Z Z Z ?_))
   first | refine J (EZ Z Z) ?_ | refine J (EY Z Z) ?_
   refine J (Fo Z Z Z Z) (AD Z Z (AG ?_))
   first | refine BC rfl (fun h21=>?_) (fun h21=>?_) | refine Az rfl (fun h21=>?_) (fun h21=>?_)
   ·first | refine AF ?_ | refine By hR ?_
    have h9:lnkW w l=(w,9):=MK (by first | exact .inl (Classical.not_not.1 h16) | exact .inr (Classical.not_not.1 h12)) (by first | exact .inl h26 | exact .inr h21);refine AI (U (Bq Z Z Z Z Z Z Z HE) (AG (At ?_)));exact ⟨_,[40],_,Ar rfl,rfl,rfl,M,by rw [h9],rfl,by rw [h9];exact hrep⟩
   ·first | refine AF ?_ | refine By hR ?_
    have ht:l.t=0∨l.t=1:=by first | exact .inl (Classical.not_not.1 h16) | exact .inr (Classical.not_not.1 h12)
    have hfR:l.f∈w.R:=Classical.not_not.1 h26;have hrR:l.r∈w.R:=Classical.not_not.1 h21;refine AI ?_
    first | refine J (AY Z Z AZ rfl) ?_ | refine J (AW Z Z Z AZ rfl) ?_ | refine J (AX Z Z (rfl) rfl AZ rfl) ?_
    first | refine J (A4 rfl CB Z Z Z) ?_ | refine J (A6 rfl CB Z Z Z) ?_ | refine J (A7 rfl CB Z Z Z) ?_ | refine J (A5 rfl CB Z Z Z) ?_ | refine J (A3 rfl CB Z Z Z) ?_
    first | refine J (AY Z Z AZ rfl) ?_ | refine J (AW Z Z Z AZ rfl) ?_ | refine J (AX Z Z (rfl) rfl AZ rfl) ?_
    first | refine J (Er Z Z Z) ?_ | refine J (FF Z Z Z) ?_ | refine J (En Z Z Z) ?_ | refine J (Et Try.underlying9 Z Z Z) ?_ | refine J (Ew Try.underlying9 Z Z Z) ?_ | refine J (Ev Try.underlying9 Z Z) ?_ | refine J (FE Try.underlying9 Z Z) ?_ | refine J (Ez Try.underlying9 Z Z) ?_ | refine J (Eu Try.underlying9 Z Z Z) ?_ | refine J (Ey Try.underlying9 Z Z) ?_
    refine AD Z Z (AG ?_)
    first | refine BC rfl (fun h33=>?_) (fun h33=>?_) | refine Az rfl (fun h33=>?_) (fun h33=>?_)
    ·first | refine AF ?_ | refine By hR ?_
     refine AI (U (Bq Z Z Z Z Z Z Z HE) (AG (At ?_)));exact ⟨_,[40],_,Ar rfl,rfl,rfl,M,by rw [KG ht hfR hrR h33],rfl,by rw [KG ht hfR hrR h33];exact hrep⟩
    ·first | refine AF ?_ | refine By hR ?_
     obtain ⟨hd,hm⟩:=hl.at hfR;refine FH [[],[0],[0,1],[0,1,2],[],[0,1,2,3,4],[],[0,1,2,3,4,5,6],[0,1,2,3,4,5,6,7]] mixed rfl (Dk ?_)
     first | refine AE [3] [] Z Z (fun _=>AB (AY Z Z BE rfl)) ?_ | refine AH [3] Z Z (fun _=>AB (AY Z Z BE rfl)) ?_ | refine AE [3] [] Z Z (fun _=>AB (AW Z Z Z BE rfl)) ?_ | refine AH [3] Z Z (fun _=>AB (AW Z Z Z BE rfl)) ?_ | refine AE [3] [] Z Z (fun _=>AB (AX Z Z (rfl) rfl BE rfl)) ?_ | refine AH [3] Z Z (fun _=>AB (AX Z Z (rfl) rfl BE rfl)) ?_
     first | refine AE [39] [] Z Z (fun _=>AB (FC Z Z)) ?_ | refine AH [39] Z Z (fun _=>AB (FC Z Z)) ?_ | refine AE [39] [] Z Z (fun _=>AB (FA Z Z)) ?_ | refine AH [39] Z Z (fun _=>AB (FA Z Z)) ?_ | refine AE [39] [] Z Z (fun _=>AB (FD Z Z)) ?_ | refine AH [39] Z Z (fun _=>AB (FD Z Z)) ?_ | refine AE [39] [] Z Z (fun _=>AB (FB Z Z)) ?_ | refine AH [39] Z Z (fun _=>AB (FB Z Z)) ?_
     first | refine AE [40] [] Z Z (fun _=>AB (A4 rfl A0 Z Z Z)) ?_ | refine AH [40] Z Z (fun _=>AB (A4 rfl A0 Z Z Z)) ?_ | refine AE [40] [] Z Z (fun _=>AB (A6 rfl A0 Z Z Z)) ?_ | refine AH [40] Z Z (fun _=>AB (A6 rfl A0 Z Z Z)) ?_ | refine AE [40] [] Z Z (fun _=>AB (A7 rfl A0 Z Z Z)) ?_ | refine AH [40] Z Z (fun _=>AB (A7 rfl A0 Z Z Z)) ?_ | refine AE [40] [] Z Z (fun _=>AB (A5 rfl A0 Z Z Z)) ?_ | refine AH [40] Z Z (fun _=>AB (A5 rfl A0 Z Z Z)) ?_ | refine AE [40] [] Z Z (fun _=>AB (A3 rfl A0 Z Z Z)) ?_ | refine AH [40] Z Z (fun _=>AB (A3 rfl A0 Z Z Z)) ?_
     first | refine AE [41] [] Z Z (fun _=>AB (Fu (f:=40) Z Z (hr.cell) rfl Bk rfl)) ?_ | refine AH [41] Z Z (fun _=>AB (Fu (f:=40) Z Z (hr.cell) rfl Bk rfl)) ?_
     first | refine AE [4] [] Z Z (fun _=>AB (AY Z Z AZ rfl)) ?_ | refine AH [4] Z Z (fun _=>AB (AY Z Z AZ rfl)) ?_ | refine AE [4] [] Z Z (fun _=>AB (AW Z Z Z AZ rfl)) ?_ | refine AH [4] Z Z (fun _=>AB (AW Z Z Z AZ rfl)) ?_ | refine AE [4] [] Z Z (fun _=>AB (AX Z Z (rfl) rfl AZ rfl)) ?_ | refine AH [4] Z Z (fun _=>AB (AX Z Z (rfl) rfl AZ rfl)) ?_
     first | refine AE [42,43] [] Z Z (fun _=>AB (HY (f:=40) (eE E) l.f none (some hd) Z Z hr.top rfl Bs EX EB (KY hl.kd hm) rfl)) ?_ | refine AH [42,43] Z Z (fun _=>AB (HY (f:=40) (eE E) l.f none (some hd) Z Z hr.top rfl Bs EX EB (KY hl.kd hm) rfl)) ?_
     first | refine AE [5] [] Z Z (fun _=>AB (BS Z Z Aj rfl)) ?_ | refine AH [5] Z Z (fun _=>AB (BS Z Z Aj rfl)) ?_ | refine AE [5] [] Z Z (fun _=>AB (BQ Z Z Aj Z Z Z)) ?_ | refine AH [5] Z Z (fun _=>AB (BQ Z Z Aj Z Z Z)) ?_ | refine AE [5] [] Z Z (fun _=>AB (BR Z Z (rfl) rfl Aj rfl)) ?_ | refine AH [5] Z Z (fun _=>AB (BR Z Z (rfl) rfl Aj rfl)) ?_
     refine Dl 7 Z Z Z (B9 8 Z Z (J (HY (f:=40) (Cg (lk hd)) ⟨l.t,l.r⟩ false _ Z Z (hr.sub _ hm) rfl FQ Hs za4 (IG _ _) rfl) (AG ⟨rfl,?_⟩)));refine B9 9 Z Z (AD Z Z (AG ⟨rfl,?_⟩));refine Em ?_
     first | refine BC rfl (fun h38=>?_) (fun h38=>?_) | refine Az rfl (fun h38=>?_) (fun h38=>?_)
     ·first | refine AF ?_ | refine By hR ?_
      refine AI (U (Bq Z Z Z Z Z Z Z HE) (AG (At ?_)));have h7:=lnk7 ht hfR hrR h33 ((hl.ls _ hm _).1 h38);exact ⟨_,[40],_,Ar rfl,rfl,rfl,M,by rw [h7],rfl,by rw [h7];exact hrep⟩
     ·refine Ak ?_
      first | refine AF ?_ | refine By hR ?_
      refine Ct 921 910 0 Z Z Z Z Z fun u3=>(Ct 922 911 0 Z Z Z Z Z fun u4=>(Ct 923 912 0 Z Z Z Z Z fun u5=>(Ct 924 913 0 Z Z Z Z Z fun u6=>(FH [[],[0],[0,1],[0,1,2],[],[0,1,2,3,4],[],[0,1,2,3,4,5,6]] mixed rfl (Dk ?_)))))
      first | refine AE [3] [] Z Z (fun _=>AB (AY Z Z BE rfl)) ?_ | refine AH [3] Z Z (fun _=>AB (AY Z Z BE rfl)) ?_ | refine AE [3] [] Z Z (fun _=>AB (AW Z Z Z BE rfl)) ?_ | refine AH [3] Z Z (fun _=>AB (AW Z Z Z BE rfl)) ?_ | refine AE [3] [] Z Z (fun _=>AB (AX Z Z (rfl) rfl BE rfl)) ?_ | refine AH [3] Z Z (fun _=>AB (AX Z Z (rfl) rfl BE rfl)) ?_
      first | refine AE [47] [] Z Z (fun _=>AB (FC Z Z)) ?_ | refine AH [47] Z Z (fun _=>AB (FC Z Z)) ?_ | refine AE [47] [] Z Z (fun _=>AB (FA Z Z)) ?_ | refine AH [47] Z Z (fun _=>AB (FA Z Z)) ?_ | refine AE [47] [] Z Z (fun _=>AB (FD Z Z)) ?_ | refine AH [47] Z Z (fun _=>AB (FD Z Z)) ?_ | refine AE [47] [] Z Z (fun _=>AB (FB Z Z)) ?_ | refine AH [47] Z Z (fun _=>AB (FB Z Z)) ?_
      first | refine AE [48] [] Z Z (fun _=>AB (A4 rfl A0 Z Z Z)) ?_ | refine AH [48] Z Z (fun _=>AB (A4 rfl A0 Z Z Z)) ?_ | refine AE [48] [] Z Z (fun _=>AB (A6 rfl A0 Z Z Z)) ?_ | refine AH [48] Z Z (fun _=>AB (A6 rfl A0 Z Z Z)) ?_ | refine AE [48] [] Z Z (fun _=>AB (A7 rfl A0 Z Z Z)) ?_ | refine AH [48] Z Z (fun _=>AB (A7 rfl A0 Z Z Z)) ?_ | refine AE [48] [] Z Z (fun _=>AB (A5 rfl A0 Z Z Z)) ?_ | refine AH [48] Z Z (fun _=>AB (A5 rfl A0 Z Z Z)) ?_ | refine AE [48] [] Z Z (fun _=>AB (A3 rfl A0 Z Z Z)) ?_ | refine AH [48] Z Z (fun _=>AB (A3 rfl A0 Z Z Z)) ?_
      first | refine AE [49] [] Z Z (fun _=>AB (Fu (f:=40) Z Z (hr.cell) rfl Bk rfl)) ?_ | refine AH [49] Z Z (fun _=>AB (Fu (f:=40) Z Z (hr.cell) rfl Bk rfl)) ?_
      first | refine AE [4] [] Z Z (fun _=>AB (AY Z Z AZ rfl)) ?_ | refine AH [4] Z Z (fun _=>AB (AY Z Z AZ rfl)) ?_ | refine AE [4] [] Z Z (fun _=>AB (AW Z Z Z AZ rfl)) ?_ | refine AH [4] Z Z (fun _=>AB (AW Z Z Z AZ rfl)) ?_ | refine AE [4] [] Z Z (fun _=>AB (AX Z Z (rfl) rfl AZ rfl)) ?_ | refine AH [4] Z Z (fun _=>AB (AX Z Z (rfl) rfl AZ rfl)) ?_
      first | refine AE [50,51] [] Z Z (fun _=>AB (HY (f:=40) (eE E) l.f none (some hd) Z Z hr.top rfl Bs EX EB (KY hl.kd hm) rfl)) ?_ | refine AH [50,51] Z Z (fun _=>AB (HY (f:=40) (eE E) l.f none (some hd) Z Z hr.top rfl Bs EX EB (KY hl.kd hm) rfl)) ?_
      first | refine AE [5] [] Z Z (fun _=>AB (BS Z Z Aj rfl)) ?_ | refine AH [5] Z Z (fun _=>AB (BS Z Z Aj rfl)) ?_ | refine AE [5] [] Z Z (fun _=>AB (BQ Z Z Aj Z Z Z)) ?_ | refine AH [5] Z Z (fun _=>AB (BQ Z Z Aj Z Z Z)) ?_ | refine AE [5] [] Z Z (fun _=>AB (BR Z Z (rfl) rfl Aj rfl)) ?_ | refine AH [5] Z Z (fun _=>AB (BR Z Z (rfl) rfl Aj rfl)) ?_
      refine Dl 7 Z Z Z (B9 8 Z Z (U (FK (f:=40) (Cg (lk hd)) (⟨l.t,l.r⟩) (true) Z Z (hr.sub _ hm) rfl FQ Hs Z Z) (AG ⟨rfl,?_⟩)));refine Em ?_;have hnK:l∉w.K:=fun hh=>h38 ((hl.ls _ hm _).2 hh);rw [Kp h38];have hrep1:BU _ b (BB w l):=LT hr hl hm (l:=⟨l.t,l.r⟩) hnK;have hok1:=hw.with_ ht hfR hrR h33 hnK;have hK1:(BB w l).K.length≤1000000:=by show (w.K++ [l]).length≤_;rw [List.length_append,List.length_singleton];omega
      have h0:=NN ht hfR hrR h33 hnK
      obtain ⟨M1,hM1⟩:∃M1,BD M hd (.map none (CF (lk hd++ [⟨l.t,l.r⟩])))=M1:=⟨_,rfl⟩
      rw [hM1] at hrep1⊢;refine Nv (xs:=[6,3,4,5]) (ars:=[.ptr 913 0 0,.ptr 910 0 0,.ptr 911 0 0,.ptr 912 0 0]) [.pointer (some ⟨u6,0,none⟩),.pointer (some ⟨u3,0,none⟩),.pointer (some ⟨u4,0,none⟩),.pointer (some ⟨u5,0,none⟩)] hD hlo hrnd Z Z Z ?_ ?_
      ·exact (iOq ⟨913,0,u6,924,0,rfl,rfl,rfl⟩ (iOq ⟨910,0,u3,921,0,rfl,rfl,rfl⟩ (iOq ⟨911,0,u4,922,0,rfl,rfl,rfl⟩ (iOq ⟨912,0,u5,923,0,rfl,rfl,rfl⟩ EK))))
      refine AF (AF (AI ?_))
      first | refine J (AY Z Z BE rfl) ?_ | refine J (AW Z Z Z BE rfl) ?_ | refine J (AX Z Z (rfl) rfl BE rfl) ?_
      refine U (F5 (Ga hrep1 hok1 hK1) rfl [40] ⟨rfl,trivial⟩ Z Z Z Z Z Z Z Z Z) (AC Z Z ?_)
      first | refine J (B5 Z Z Z) ?_ | refine J (B6 Z Z Z) ?_
      first | refine J (B5 Z Z Z) ?_ | refine J (B6 Z Z Z) ?_
      refine AD Z Z (AD Z Z (AG (AF (AI (AC Z Z ?_)))))
      first | refine J (EZ Z Z) ?_ | refine J (EY Z Z) ?_
      refine AG ?_
      first | refine BC rfl (fun h61=>?_) (fun h61=>?_) | refine Az rfl (fun h61=>?_) (fun h61=>?_)
      ·refine AF (AI (U (Bq Z Z Z Z Z Z Z HE) (AG (At ?_))));have hac:acyW (BB w l)=false:=by simpa using h61
       have h0':lnkW w l=(w,26):=by rw [h0,hac];rfl
       refine ⟨_,HLk b l 26++ [(40,[.multi M1])],_,[910,911,912,913,40],_,_,_,K8 hrep1 l hfR 26,rfl,?_,⟨rfl,rfl,rfl,rfl,rfl,trivial⟩,rfl,rfl,rfl,rfl,fun r H' ⟨e1,M',e2,h3⟩=>?_⟩
       ·exact (iOq ⟨913,0,u6,924,0,rfl,rfl,rfl⟩ (iOq ⟨910,0,u3,921,0,rfl,rfl,rfl⟩ (iOq ⟨911,0,u4,922,0,rfl,rfl,rfl⟩ (iOq ⟨912,0,u5,923,0,rfl,rfl,rfl⟩ EK))))
       ·subst e1 e2;exact ⟨⟨rfl,rfl,rfl⟩,_,[40],_,Ar rfl,rfl,rfl,M',by rw [h0'],rfl,by rw [h0'];rw [if_neg (by decide),HH hnK] at h3;exact h3⟩
      ·refine Ak (AF (AI (U (Bq Z Z Z Z Z Z Z HE) (AG (At ?_)))));have hac:acyW (BB w l)=true:=by simpa using h61
       have h0':lnkW w l=(BB w l,0):=by rw [h0,hac];rfl
       refine ⟨_,HLk b l 0++ [(40,[.multi M1])],_,[910,911,912,913,40],_,_,_,K8 hrep1 l hfR 0,rfl,?_,⟨rfl,rfl,rfl,rfl,rfl,trivial⟩,rfl,rfl,rfl,rfl,fun r H' ⟨e1,M',e2,h3⟩=>?_⟩
       ·exact (iOq ⟨913,0,u6,924,0,rfl,rfl,rfl⟩ (iOq ⟨910,0,u3,921,0,rfl,rfl,rfl⟩ (iOq ⟨911,0,u4,922,0,rfl,rfl,rfl⟩ (iOq ⟨912,0,u5,923,0,rfl,rfl,rfl⟩ EK))))
       ·subst e1 e2;exact ⟨⟨rfl,rfl,rfl⟩,_,[40],_,Ar rfl,rfl,rfl,M',by rw [h0'],rfl,by rw [h0'];rw [if_pos rfl] at h3;exact h3⟩
theorem unl9 {w:Ws} {l:Lw} (h:l∉w.K):unlW w l=(w,9):=by unfold unlW;rw [if_pos h]
theorem unl0 {w:Ws} {l:Lw} (h:l∈w.K):unlW w l=if acyW (CT w l)=true then (CT w l,0) else (w,26):=by unfold unlW;rw [if_neg fun hh=>hh h]
theorem Qx {M:MF} {b m:Nat} {E:List (St×Nat)} {lk:Nat ->List Lk} {w:Ws} (hr:LR M b m E lk) (hl:LW E lk w) {x:St} {hd:Nat} (hm:(x,hd)∈E) {l:Lk} (hin:l∈lk hd):BU (BD M hd (.map none (CF ((lk hd).filter (fun y=>!decide (y=l))++ [l])))) b w:=by
 refine ⟨m,E,_,hr.set hm _,hl.set hr.nd hm rfl ?_ (fun l'=>?_) (fun l' hf=>Iff.rfl)⟩
 ·refine List.nodup_append.2 ⟨List.Nodup.sublist List.filter_sublist (hl.ld _ hm),by simp,fun a ha c hc e=>?_⟩;have:=(List.mem_filter.1 ha).2;rw [e,List.mem_singleton.1 hc] at this
  simp at this
 ·rw [←hl.ls _ hm l',List.mem_append,List.mem_filter,List.mem_singleton]
  constructor
  ·rintro (h | rfl)
   ·exact h.1
   ·exact hin
  ·intro h
   by_cases e:l'=l
   ·exact .inr e
   ·exact .inl ⟨h,by simp [e]⟩
theorem LV {M:MF} {b:Nat} {w:Ws} (h:BU M b w) (hw:B7 w) (hK:w.K.length≤1000000) (l:Lw):AR Try.prog 30 [.d (pD b 0),.d (AU l.f),.d (lkD ⟨l.t,l.r⟩)] [(40,[.multi M])] fun r H'=>∃M',r= .d (Bt (unlW w l).2)∧H'=[(40,[.multi M'])]∧BU M' b (unlW w l).1:=by
 have hrep:=h;obtain ⟨m,E,lk,hr,hl⟩:=h;refine DA Try.func30 Z Z Try.ntmps30 Z Z Z fun F hF=>?_;refine AF (AI (U (IT 910 Z Z Z Z Z Z Z) (AD Z Z (AG (AF (AF (AI (AC Z Z ?_))))))))
 by_cases hfR:l.f∈w.R
 ·first | refine J (Er Z Z Z) ?_ | refine J (FF Z Z Z) ?_ | refine J (En Z Z Z) ?_ | refine J (Et Try.underlying23 Z Z Z) ?_ | refine J (Ew Try.underlying23 Z Z Z) ?_ | refine J (Ev Try.underlying23 Z Z) ?_ | refine J (FE Try.underlying23 Z Z) ?_ | refine J (Ez Try.underlying23 Z Z) ?_ | refine J (Eu Try.underlying23 Z Z Z) ?_ | refine J (Ey Try.underlying23 Z Z) ?_
  refine AG (D0 rfl (rfl) (Ak (AF (AF (FH [[],[0],[0,1],[0,1,2],[],[0,1,2,3,4],[],[0,1,2,3,4,5,6],[0,1,2,3,4,5,6,7]] mixed rfl (Dk ?_))))))
  first | refine AE [0] [] Z Z (fun _=>AB (Ac Z Z)) ?_ | refine AH [0] Z Z (fun _=>AB (Ac Z Z)) ?_
  first | refine AE [11] [] Z Z (fun _=>AB (FC Z Z)) ?_ | refine AH [11] Z Z (fun _=>AB (FC Z Z)) ?_ | refine AE [11] [] Z Z (fun _=>AB (FA Z Z)) ?_ | refine AH [11] Z Z (fun _=>AB (FA Z Z)) ?_ | refine AE [11] [] Z Z (fun _=>AB (FD Z Z)) ?_ | refine AH [11] Z Z (fun _=>AB (FD Z Z)) ?_ | refine AE [11] [] Z Z (fun _=>AB (FB Z Z)) ?_ | refine AH [11] Z Z (fun _=>AB (FB Z Z)) ?_
  first | refine AE [12] [] Z Z (fun _=>AB (A4 rfl A0 Z Z Z)) ?_ | refine AH [12] Z Z (fun _=>AB (A4 rfl A0 Z Z Z)) ?_ | refine AE [12] [] Z Z (fun _=>AB (A6 rfl A0 Z Z Z)) ?_ | refine AH [12] Z Z (fun _=>AB (A6 rfl A0 Z Z Z)) ?_ | refine AE [12] [] Z Z (fun _=>AB (A7 rfl A0 Z Z Z)) ?_ | refine AH [12] Z Z (fun _=>AB (A7 rfl A0 Z Z Z)) ?_ | refine AE [12] [] Z Z (fun _=>AB (A5 rfl A0 Z Z Z)) ?_ | refine AH [12] Z Z (fun _=>AB (A5 rfl A0 Z Z Z)) ?_ | refine AE [12] [] Z Z (fun _=>AB (A3 rfl A0 Z Z Z)) ?_ | refine AH [12] Z Z (fun _=>AB (A3 rfl A0 Z Z Z)) ?_
  first | refine AE [13] [] Z Z (fun _=>AB (Fu (f:=40) Z Z (hr.cell) rfl Bk rfl)) ?_ | refine AH [13] Z Z (fun _=>AB (Fu (f:=40) Z Z (hr.cell) rfl Bk rfl)) ?_
  first | refine AE [1] [] Z Z (fun _=>AB (Ac Z Z)) ?_ | refine AH [1] Z Z (fun _=>AB (Ac Z Z)) ?_
  first | refine AE [14,15] [] Z Z (fun _=>AB (HY (f:=40) (eE E) (l.f) (none) _ Z Z (hr.top) rfl Bs EX EB Z Z)) ?_ | refine AH [14,15] Z Z (fun _=>AB (HY (f:=40) (eE E) (l.f) (none) _ Z Z (hr.top) rfl Bs EX EB Z Z)) ?_
  first | refine AE [5] [] Z Z (fun _=>AB (BS Z Z Aj rfl)) ?_ | refine AH [5] Z Z (fun _=>AB (BS Z Z Aj rfl)) ?_ | refine AE [5] [] Z Z (fun _=>AB (BQ Z Z Aj Z Z Z)) ?_ | refine AH [5] Z Z (fun _=>AB (BQ Z Z Aj Z Z Z)) ?_ | refine AE [5] [] Z Z (fun _=>AB (BR Z Z (rfl) rfl Aj rfl)) ?_ | refine AH [5] Z Z (fun _=>AB (BR Z Z (rfl) rfl Aj rfl)) ?_
  refine Dl 7 Z Z Z (B9 8 Z Z ?_);obtain ⟨hd,hm⟩:=hl.at hfR;rw [KY hl.kd hm];refine J (HY (f:=40) (Cg (lk hd)) ⟨l.t,l.r⟩ false _ Z Z (hr.sub _ hm) rfl FQ Hs za4 (IG _ _) rfl) (AG ⟨rfl,?_⟩);refine B9 9 Z Z ?_
  first | refine J (EZ Z Z) ?_ | refine J (EY Z Z) ?_
  refine AG ⟨rfl,?_⟩;refine Em ?_
  first | refine BC rfl (fun h19=>?_) (fun h19=>?_) | refine Az rfl (fun h19=>?_) (fun h19=>?_)
  ·refine AF (AI (AD Z Z (AG (At ?_))));have h9:unlW w l=(w,9):=unl9 fun hh=>by first | exact h19 ((hl.ls _ hm _).2 hh) | exact hfR (hw.lk l hh).1
   exact ⟨_,[40],_,Ar rfl,rfl,rfl,M,by rw [h9],rfl,by rw [h9];exact hrep⟩
  ·refine Ak (AF ?_);have hin:(⟨l.t,l.r⟩:Lk)∈lk hd:=Classical.not_not.1 h19;have hlK:l∈w.K:=(hl.ls _ hm _).1 hin;have h0:=unl0 hlK;refine FH [[],[0],[0,1],[0,1,2],[],[0,1,2,3,4],[],[0,1,2,3,4,5,6]] mixed rfl (Dk ?_)
   first | refine AE [0] [] Z Z (fun _=>AB (Ac Z Z)) ?_ | refine AH [0] Z Z (fun _=>AB (Ac Z Z)) ?_
   first | refine AE [20] [] Z Z (fun _=>AB (FC Z Z)) ?_ | refine AH [20] Z Z (fun _=>AB (FC Z Z)) ?_ | refine AE [20] [] Z Z (fun _=>AB (FA Z Z)) ?_ | refine AH [20] Z Z (fun _=>AB (FA Z Z)) ?_ | refine AE [20] [] Z Z (fun _=>AB (FD Z Z)) ?_ | refine AH [20] Z Z (fun _=>AB (FD Z Z)) ?_ | refine AE [20] [] Z Z (fun _=>AB (FB Z Z)) ?_ | refine AH [20] Z Z (fun _=>AB (FB Z Z)) ?_
   first | refine AE [21] [] Z Z (fun _=>AB (A4 rfl A0 Z Z Z)) ?_ | refine AH [21] Z Z (fun _=>AB (A4 rfl A0 Z Z Z)) ?_ | refine AE [21] [] Z Z (fun _=>AB (A6 rfl A0 Z Z Z)) ?_ | refine AH [21] Z Z (fun _=>AB (A6 rfl A0 Z Z Z)) ?_ | refine AE [21] [] Z Z (fun _=>AB (A7 rfl A0 Z Z Z)) ?_ | refine AH [21] Z Z (fun _=>AB (A7 rfl A0 Z Z Z)) ?_ | refine AE [21] [] Z Z (fun _=>AB (A5 rfl A0 Z Z Z)) ?_ | refine AH [21] Z Z (fun _=>AB (A5 rfl A0 Z Z Z)) ?_ | refine AE [21] [] Z Z (fun _=>AB (A3 rfl A0 Z Z Z)) ?_ | refine AH [21] Z Z (fun _=>AB (A3 rfl A0 Z Z Z)) ?_
   first | refine AE [22] [] Z Z (fun _=>AB (Fu (f:=40) Z Z (hr.cell) rfl Bk rfl)) ?_ | refine AH [22] Z Z (fun _=>AB (Fu (f:=40) Z Z (hr.cell) rfl Bk rfl)) ?_
   first | refine AE [1] [] Z Z (fun _=>AB (Ac Z Z)) ?_ | refine AH [1] Z Z (fun _=>AB (Ac Z Z)) ?_
   first | refine AE [23,24] [] Z Z (fun _=>AB (HY (f:=40) (eE E) l.f none (some hd) Z Z hr.top rfl Bs EX EB (KY hl.kd hm) rfl)) ?_ | refine AH [23,24] Z Z (fun _=>AB (HY (f:=40) (eE E) l.f none (some hd) Z Z hr.top rfl Bs EX EB (KY hl.kd hm) rfl)) ?_
   first | refine AE [5] [] Z Z (fun _=>AB (BS Z Z Aj rfl)) ?_ | refine AH [5] Z Z (fun _=>AB (BS Z Z Aj rfl)) ?_ | refine AE [5] [] Z Z (fun _=>AB (BQ Z Z Aj Z Z Z)) ?_ | refine AH [5] Z Z (fun _=>AB (BQ Z Z Aj Z Z Z)) ?_ | refine AE [5] [] Z Z (fun _=>AB (BR Z Z (rfl) rfl Aj rfl)) ?_ | refine AH [5] Z Z (fun _=>AB (BR Z Z (rfl) rfl Aj rfl)) ?_
   refine Dl 7 Z Z Z (B9 8 Z Z (U (G1 (f:=40) (Cg (lk hd)) (⟨l.t,l.r⟩) (true) Z Z (hr.sub _ hm) rfl FQ Hs rfl) (AG ⟨rfl,?_⟩)));refine Em (AF (AF ?_));rw [IH (hl.ld _ hm)];have hrep1:BU _ b (CT w l):=L8 hr hl hm ⟨l.t,l.r⟩;have hr1:=hr.set hm ((lk hd).filter fun y=>!decide (y=⟨l.t,l.r⟩));have hK1:(CT w l).K.length≤1000000:=Nat.le_trans (List.length_filter_le _ _) hK
   obtain ⟨M1,hM1⟩:∃M1,BD M hd (.map none (CF ((lk hd).filter fun y=>!decide (y=⟨l.t,l.r⟩))))=M1:=⟨_,rfl⟩
   rw [hM1] at hrep1 hr1⊢;refine AI (AC Z Z (U (F5 (Ga hrep1 (hw.sans l) hK1) rfl [40] ⟨rfl,trivial⟩ Z Z Z Z Z Z Z Z Z) (AC Z Z ?_)))
   first | refine J (B5 Z Z Z) ?_ | refine J (B6 Z Z Z) ?_
   first | refine J (B5 Z Z Z) ?_ | refine J (B6 Z Z Z) ?_
   refine AD Z Z (AD Z Z (AG (AF (AI (AC Z Z ?_)))))
   first | refine J (EZ Z Z) ?_ | refine J (EY Z Z) ?_
   refine AG ?_
   first | refine BC rfl (fun h33=>?_) (fun h33=>?_) | refine Az rfl (fun h33=>?_) (fun h33=>?_)
   ·refine AF (FH [[],[0],[0,1],[0,1,2],[],[0,1,2,3,4],[],[0,1,2,3,4,5,6]] mixed rfl (Dk ?_))
    first | refine AE [0] [] Z Z (fun _=>AB (Ac Z Z)) ?_ | refine AH [0] Z Z (fun _=>AB (Ac Z Z)) ?_
    first | refine AE [34] [] Z Z (fun _=>AB (FC Z Z)) ?_ | refine AH [34] Z Z (fun _=>AB (FC Z Z)) ?_ | refine AE [34] [] Z Z (fun _=>AB (FA Z Z)) ?_ | refine AH [34] Z Z (fun _=>AB (FA Z Z)) ?_ | refine AE [34] [] Z Z (fun _=>AB (FD Z Z)) ?_ | refine AH [34] Z Z (fun _=>AB (FD Z Z)) ?_ | refine AE [34] [] Z Z (fun _=>AB (FB Z Z)) ?_ | refine AH [34] Z Z (fun _=>AB (FB Z Z)) ?_
    first | refine AE [35] [] Z Z (fun _=>AB (A4 rfl A0 Z Z Z)) ?_ | refine AH [35] Z Z (fun _=>AB (A4 rfl A0 Z Z Z)) ?_ | refine AE [35] [] Z Z (fun _=>AB (A6 rfl A0 Z Z Z)) ?_ | refine AH [35] Z Z (fun _=>AB (A6 rfl A0 Z Z Z)) ?_ | refine AE [35] [] Z Z (fun _=>AB (A7 rfl A0 Z Z Z)) ?_ | refine AH [35] Z Z (fun _=>AB (A7 rfl A0 Z Z Z)) ?_ | refine AE [35] [] Z Z (fun _=>AB (A5 rfl A0 Z Z Z)) ?_ | refine AH [35] Z Z (fun _=>AB (A5 rfl A0 Z Z Z)) ?_ | refine AE [35] [] Z Z (fun _=>AB (A3 rfl A0 Z Z Z)) ?_ | refine AH [35] Z Z (fun _=>AB (A3 rfl A0 Z Z Z)) ?_
    first | refine AE [36] [] Z Z (fun _=>AB (Fu (f:=40) Z Z (hr1.cell) rfl Bk rfl)) ?_ | refine AH [36] Z Z (fun _=>AB (Fu (f:=40) Z Z (hr1.cell) rfl Bk rfl)) ?_
    first | refine AE [1] [] Z Z (fun _=>AB (Ac Z Z)) ?_ | refine AH [1] Z Z (fun _=>AB (Ac Z Z)) ?_
    first | refine AE [37,38] [] Z Z (fun _=>AB (HY (f:=40) (eE E) l.f none (some hd) Z Z hr1.top rfl Bs EX EB (KY hl.kd hm) rfl)) ?_ | refine AH [37,38] Z Z (fun _=>AB (HY (f:=40) (eE E) l.f none (some hd) Z Z hr1.top rfl Bs EX EB (KY hl.kd hm) rfl)) ?_
    first | refine AE [5] [] Z Z (fun _=>AB (BS Z Z Aj rfl)) ?_ | refine AH [5] Z Z (fun _=>AB (BS Z Z Aj rfl)) ?_ | refine AE [5] [] Z Z (fun _=>AB (BQ Z Z Aj Z Z Z)) ?_ | refine AH [5] Z Z (fun _=>AB (BQ Z Z Aj Z Z Z)) ?_ | refine AE [5] [] Z Z (fun _=>AB (BR Z Z (rfl) rfl Aj rfl)) ?_ | refine AH [5] Z Z (fun _=>AB (BR Z Z (rfl) rfl Aj rfl)) ?_
    refine Dl 7 Z Z Z (B9 8 Z Z (U (FK (f:=40) (Cg ((lk hd).filter fun y=>!decide (y=⟨l.t,l.r⟩))) (⟨l.t,l.r⟩) (true) Z Z ((by rw [hr1.sub _ hm,Dn])) rfl FQ Hs Z Z) (AG ⟨rfl,?_⟩)));refine Em (AF ?_);have hac:acyW (CT w l)=false:=by simpa using h33
    have h26:unlW w l=(w,26):=by rw [h0,hac];rfl
    have hln:(⟨l.t,l.r⟩:Lk)∉(lk hd).filter fun y=>!decide (y=⟨l.t,l.r⟩):=fun hh=>by simpa using (List.mem_filter.1 hh).2
    rw [Kp hln,←hM1,Ml];refine AI (AD Z Z (AG (At ?_)));exact ⟨_,[40],_,Ar rfl,rfl,rfl,_,by rw [h26],rfl,by rw [h26];exact Qx hr hl hm hin⟩
   ·refine Ak (AF (AI (AD Z Z (AG (At ?_)))));have hac:acyW (CT w l)=true:=by simpa using h33
    have h00:unlW w l=(CT w l,0):=by rw [h0,if_pos hac]
    exact ⟨_,[40],_,Ar rfl,rfl,rfl,M1,by rw [h00],rfl,by rw [h00];exact hrep1⟩
 ·first | refine J (Er Z Z Z) ?_ | refine J (FF Z Z Z) ?_ | refine J (En Z Z Z) ?_ | refine J (Et Try.underlying23 Z Z Z) ?_ | refine J (Ew Try.underlying23 Z Z Z) ?_ | refine J (Ev Try.underlying23 Z Z) ?_ | refine J (FE Try.underlying23 Z Z) ?_ | refine J (Ez Try.underlying23 Z Z) ?_ | refine J (Eu Try.underlying23 Z Z Z) ?_ | refine J (Ey Try.underlying23 Z Z) ?_
  refine AG (D0 rfl (rfl) (Ak (AF (AF (FH [[],[0],[0,1],[0,1,2],[],[0,1,2,3,4],[],[0,1,2,3,4,5,6],[0,1,2,3,4,5,6,7]] mixed rfl (Dk ?_))))))
  first | refine AE [0] [] Z Z (fun _=>AB (Ac Z Z)) ?_ | refine AH [0] Z Z (fun _=>AB (Ac Z Z)) ?_
  first | refine AE [11] [] Z Z (fun _=>AB (FC Z Z)) ?_ | refine AH [11] Z Z (fun _=>AB (FC Z Z)) ?_ | refine AE [11] [] Z Z (fun _=>AB (FA Z Z)) ?_ | refine AH [11] Z Z (fun _=>AB (FA Z Z)) ?_ | refine AE [11] [] Z Z (fun _=>AB (FD Z Z)) ?_ | refine AH [11] Z Z (fun _=>AB (FD Z Z)) ?_ | refine AE [11] [] Z Z (fun _=>AB (FB Z Z)) ?_ | refine AH [11] Z Z (fun _=>AB (FB Z Z)) ?_
  first | refine AE [12] [] Z Z (fun _=>AB (A4 rfl A0 Z Z Z)) ?_ | refine AH [12] Z Z (fun _=>AB (A4 rfl A0 Z Z Z)) ?_ | refine AE [12] [] Z Z (fun _=>AB (A6 rfl A0 Z Z Z)) ?_ | refine AH [12] Z Z (fun _=>AB (A6 rfl A0 Z Z Z)) ?_ | refine AE [12] [] Z Z (fun _=>AB (A7 rfl A0 Z Z Z)) ?_ | refine AH [12] Z Z (fun _=>AB (A7 rfl A0 Z Z Z)) ?_ | refine AE [12] [] Z Z (fun _=>AB (A5 rfl A0 Z Z Z)) ?_ | refine AH [12] Z Z (fun _=>AB (A5 rfl A0 Z Z Z)) ?_ | refine AE [12] [] Z Z (fun _=>AB (A3 rfl A0 Z Z Z)) ?_ | refine AH [12] Z Z (fun _=>AB (A3 rfl A0 Z Z Z)) ?_
  first | refine AE [13] [] Z Z (fun _=>AB (Fu (f:=40) Z Z (hr.cell) rfl Bk rfl)) ?_ | refine AH [13] Z Z (fun _=>AB (Fu (f:=40) Z Z (hr.cell) rfl Bk rfl)) ?_
  first | refine AE [1] [] Z Z (fun _=>AB (Ac Z Z)) ?_ | refine AH [1] Z Z (fun _=>AB (Ac Z Z)) ?_
  first | refine AE [14,15] [] Z Z (fun _=>AB (HY (f:=40) (eE E) (l.f) (none) _ Z Z (hr.top) rfl Bs EX EB Z Z)) ?_ | refine AH [14,15] Z Z (fun _=>AB (HY (f:=40) (eE E) (l.f) (none) _ Z Z (hr.top) rfl Bs EX EB Z Z)) ?_
  first | refine AE [5] [] Z Z (fun _=>AB (BS Z Z Aj rfl)) ?_ | refine AH [5] Z Z (fun _=>AB (BS Z Z Aj rfl)) ?_ | refine AE [5] [] Z Z (fun _=>AB (BQ Z Z Aj Z Z Z)) ?_ | refine AH [5] Z Z (fun _=>AB (BQ Z Z Aj Z Z Z)) ?_ | refine AE [5] [] Z Z (fun _=>AB (BR Z Z (rfl) rfl Aj rfl)) ?_ | refine AH [5] Z Z (fun _=>AB (BR Z Z (rfl) rfl Aj rfl)) ?_
  refine Dl 7 Z Z Z (B9 8 Z Z ?_);rw [eE_none fun hh=>hfR ((hl.ks _).1 hh)];refine J (PU (eK:=lkD) ⟨l.t,l.r⟩ Z Z FQ Hs za4 rfl) (AG ⟨rfl,?_⟩);refine B9 9 Z Z ?_
  first | refine J (EZ Z Z) ?_ | refine J (EY Z Z) ?_
  refine AG ⟨rfl,?_⟩;refine Em (JM rfl (rfl) (AF (AI (AD Z Z (AG (At ?_))))));have h9:unlW w l=(w,9):=unl9 fun hh=>by first | exact h19 ((hl.ls _ hm _).2 hh) | exact hfR (hw.lk l hh).1
  exact ⟨_,[40],_,Ar rfl,rfl,rfl,M,by rw [h9],rfl,by rw [h9];exact hrep⟩
theorem MX {M:MF} {b:Nat} {w:Ws} (h:BU M b w) (hw:B7 w) (hK:w.K.length≤1000000):AR Try.prog 19 [.d (pD b 0)] [(40,[.multi M])] fun r H'=>r= .d (DF (groupsW w))∧H'=[(40,[.multi M])]:=by
 refine DA Try.func19 Z Z Try.ntmps19 Z Z Z fun F hF=>(AF (AI (AD Z Z (AG (AF (AF (AI (AC Z Z ?_))))))))
 first | refine J (Er Z Z Z) ?_ | refine J (FF Z Z Z) ?_ | refine J (En Z Z Z) ?_ | refine J (Et Try.underlying23 Z Z Z) ?_ | refine J (Ew Try.underlying23 Z Z Z) ?_ | refine J (Ev Try.underlying23 Z Z) ?_ | refine J (FE Try.underlying23 Z Z) ?_ | refine J (Ez Try.underlying23 Z Z) ?_ | refine J (Eu Try.underlying23 Z Z Z) ?_ | refine J (Ey Try.underlying23 Z Z) ?_
 refine AG (D0 rfl (rfl) (Ak (AF (AI (AC Z Z (U (F5 (Ga h hw hK) rfl [40] ⟨rfl,trivial⟩ Z Z Z Z Z Z Z Z Z) (AC Z Z ?_)))))))
 first | refine J (B5 Z Z Z) ?_ | refine J (B6 Z Z Z) ?_
 first | refine J (B5 Z Z Z) ?_ | refine J (B6 Z Z Z) ?_
 refine AD Z Z (AD Z Z (AG (AF (AI (AC Z Z (AD Z Z (AG (At ?_))))))));exact ⟨_,[40],_,Ar rfl,rfl,rfl,rfl,rfl⟩
theorem Qw {M:MF} {b:Nat} {w:Ws} (h:BU M b w) (hw:B7 w) (hK:w.K.length≤1000000) (a:St):AR Try.prog 23 [.d (pD b 0),.d (AU a)] [(40,[.multi M])] fun r H'=>r= .d (if a∈w.R then stsD (cloW w a false) else .sl (some true) [])∧H'=[(40,[.multi M])]:=by
 refine DA Try.func23 Z Z Try.ntmps23 Z Z Z fun F hF=>(AF (AI (AD Z Z ?_)));refine AG (AF (AI (AC Z Z (AC Z Z (U (F5 (cloF_c h hw hK a) rfl [40] ⟨rfl,trivial⟩ Z Z Z Z Z Z Z Z Z) (AD Z Z (AG (At ?_))))))));exact ⟨_,[40],_,Ar rfl,rfl,rfl,rfl,rfl⟩
abbrev sa:St:=[97]
abbrev sb:St:=[98]
abbrev sc:St:=[99]
abbrev w1:Ws:=⟨[sa],[]⟩
abbrev w2:Ws:=⟨[sa,sb],[]⟩
abbrev w3:Ws:=⟨[sa,sb,sc],[]⟩
abbrev w4:Ws:=⟨[sa,sb,sc],[⟨sa,0,sb⟩]⟩
abbrev w5:Ws:=⟨[sa,sb,sc],[⟨sa,0,sb⟩,⟨sc,1,sa⟩]⟩
theorem Kv:addW ⟨[],[]⟩ sa=(w1,0):=by unfold addW;rw [if_neg (by decide),if_neg (by decide),if_neg (by decide)];rfl
theorem NP:addW w1 sb=(w2,0):=by unfold addW;rw [if_neg (by decide),if_neg (by decide),if_neg (by decide)];rfl
theorem Q3:addW w2 sc=(w3,0):=by unfold addW;rw [if_neg (by decide),if_neg (by decide),if_neg (by decide)];rfl
theorem k_ok1:B7 w1:=by have:=(Cu.nil.add sa).ok;rw [Kv] at this;exact this
theorem k_ok2:B7 w2:=by have:=((Cu.nil.add sa).add sb).ok;rw [Kv,NP] at this;exact this
theorem k_ok3:B7 w3:=by have:=(((Cu.nil.add sa).add sb).add sc).ok;rw [Kv,NP,Q3] at this;exact this
theorem QY:B7 w4:=k_ok3.with_ (l:=⟨sa,0,sb⟩) (by decide) (by decide) (by decide) (by decide) (by decide)
theorem Gl:B7 w5:=QY.with_ (l:=⟨sc,1,sa⟩) (by decide) (by decide) (by decide) (by decide) (by decide)
theorem k_con {x y:St}:HA w5 x y↔x=y∨(x=sa∧y=sb)∨(x=sb∧y=sa):=by
 constructor
 ·intro h;refine BT.closed (p:=fun y=>x=y∨(x=sa∧y=sb)∨(x=sb∧y=sa)) (fun p q hp hq=>?_) (.inl rfl) h
  simp [Jb] at hq
  rcases hq with ⟨rfl,rfl⟩ | ⟨rfl,rfl⟩
  ·rcases hp with rfl | ⟨rfl,e⟩ | ⟨rfl,e⟩
   ·exact .inr (.inl ⟨rfl,rfl⟩)
   ·exact absurd e (by decide)
   ·exact .inl rfl
  ·rcases hp with rfl | ⟨rfl,e⟩ | ⟨rfl,e⟩
   ·exact .inr (.inr ⟨rfl,rfl⟩)
   ·exact .inl rfl
   ·exact absurd e (by decide)
 ·rintro (rfl | ⟨rfl,rfl⟩ | ⟨rfl,rfl⟩)
  ·exact .refl
  ·exact BT.one (.inl (by simp))
  ·exact BT.one (.inr (by simp))
theorem k_acy4:acyW w4=true:=by
 rw [F3 QY];rintro ⟨Y,⟨x,hx⟩,h⟩;obtain ⟨_,l,hl,ht,_⟩:=h x hx;rw [List.mem_singleton.1 hl] at ht;exact absurd ht (by decide)
theorem k_acy5:acyW w5=true:=by
 rw [F3 Gl];rintro ⟨Y,⟨x,hx⟩,h⟩
 have key:∀x,Y x ->HA w5 x sc∧Y sa:=fun x hx=>by
  obtain ⟨_,l,hl,ht,hc,_,hy⟩:=h x hx;rcases List.mem_cons.1 hl with rfl | hl
  ·exact absurd ht (by decide)
  ·rw [List.mem_singleton.1 hl] at hc hy;exact ⟨hc,hy⟩
 have h1:=(key _ (key x hx).2).1;rw [k_con] at h1;exact absurd h1 (by decide)
theorem k_lnk1:lnkW w3 ⟨sa,0,sb⟩=(w4,0):=by rw [NN (by decide) (by decide) (by decide) (by decide) (by decide)];exact if_pos k_acy4
theorem k_lnk2:lnkW w4 ⟨sc,1,sa⟩=(w5,0):=by rw [NN (by decide) (by decide) (by decide) (by decide) (by decide)];exact if_pos k_acy5
theorem Ku {x y:St}:HA (BB w5 ⟨sb,1,sc⟩) x y↔HA w5 x y:=by
 constructor<;>refine BT.mono fun p q hq=>?_
 ·simp [Jb,BB] at hq⊢;exact hq
 ·simp [Jb,BB] at hq⊢;exact hq
theorem k_lnk3:lnkW w5 ⟨sb,1,sc⟩=(w5,26):=by
 rw [NN (by decide) (by decide) (by decide) (by decide) (by decide)];refine if_neg fun h=>?_;rw [F3 (Gl.with_ (l:=⟨sb,1,sc⟩) (by decide) (by decide) (by decide) (by decide) (by decide))] at h;refine h ⟨fun x=>x∈w5.R,⟨sa,by decide⟩,fun x hx=>⟨hx,?_⟩⟩;have hx':x=sa∨x=sb∨x=sc:=by simpa using hx
 rcases hx' with rfl | rfl | rfl
 ·exact ⟨⟨sb,1,sc⟩,by simp [BB],rfl,Ku.2 (k_con.2 (by decide)),fun hh=>absurd (k_con.1 (Ku.1 hh)) (by decide),by decide⟩
 ·exact ⟨⟨sb,1,sc⟩,by simp [BB],rfl,.refl,fun hh=>absurd (k_con.1 (Ku.1 hh)) (by decide),by decide⟩
 ·exact ⟨⟨sc,1,sa⟩,by simp [BB],rfl,.refl,fun hh=>absurd (k_con.1 (Ku.1 hh)) (by decide),by decide⟩
theorem k_cls:cls w5 sa=[sa,sb]∧cls w5 sc=[sc]:=by
 unfold cls;simp only [k_con]
 constructor<;>rfl
open Classical in
theorem Kt:parts w5=[[sa,sb],[sc]]:=by
 unfold parts
 have h1:Jd w5 sa:=fun x hx hc=>by
  rcases k_con.1 hc with rfl | ⟨_,rfl⟩ | ⟨e,_⟩
  ·decide
  ·decide
  ·exact absurd e (by decide)
 have h2:¬Jd w5 sb:=fun h=>h sa (by decide) (k_con.2 (by decide)) (by decide)
 have h3:Jd w5 sc:=fun x hx hc=>by
  rcases k_con.1 hc with rfl | ⟨e,_⟩ | ⟨e,_⟩
  ·decide
  ·exact absurd e (by decide)
  ·exact absurd e (by decide)
 show List.map _ (List.filter _ [sa,sb,sc])=_;rw [List.filter_cons_of_pos (p:=fun a=>decide (Jd w5 a)) (by exact decide_eq_true h1),List.filter_cons_of_neg (p:=fun a=>decide (Jd w5 a)) (by show ¬decide (Jd w5 sb)=true;rw [decide_eq_true_eq];exact h2),List.filter_cons_of_pos (p:=fun a=>decide (Jd w5 a)) (by exact decide_eq_true h3),List.filter_nil,List.map_cons,List.map_cons,k_cls.1,k_cls.2];rfl
theorem Ns:idx w5 sa=0∧idx w5 sb=0∧idx w5 sc=1:=by
 unfold idx;rw [Kt];decide
theorem Q1:depL w5 0=[]:=by
 refine List.eq_nil_iff_forall_not_mem.2 fun k hk=>?_;obtain ⟨_,l,hl,ht,hf,_⟩:=(Bw Gl).1 hk;rcases List.mem_cons.1 hl with rfl | hl
 ·exact absurd ht (by decide)
 ·rw [List.mem_singleton.1 hl] at hf;rw [show idx w5 sc=1 from Ns.2.2] at hf;cases hf
theorem Q0:depL w5 1=[0]:=by
 refine I2 (Gn _ _) (by simp) fun k=>?_;rw [Bw Gl]
 constructor
 ·rintro ⟨_,l,hl,ht,hf,hr⟩;rcases List.mem_cons.1 hl with rfl | hl
  ·exact absurd ht (by decide)
  ·rw [List.mem_singleton.1 hl] at hr;rw [show idx w5 sa=0 from Ns.1] at hr;simp [←hr]
 ·intro hk;rw [List.mem_singleton.1 hk];exact ⟨by decide,⟨sc,1,sa⟩,by decide,rfl,Ns.2.2,Ns.1⟩
theorem k_ord:ordW w5=some [0,1]:=by
 unfold ordW;rw [Kt];have h0:HP 2 (depL w5) []=some 0:=E8 (by decide) (CV.2 ⟨by simp,by rw [Q1];simp⟩) (fun j hj=>by omega)
 have h1:HP 2 (depL w5) [0]=some 1:=E8 (by decide) (CV.2 ⟨by simp,by rw [Q0];simp⟩) (fun j hj=>by
  have:j=0:=by omega
  subst this
  rw [Bool.eq_false_iff];intro h;exact (CV.1 h).1 (by simp))
 show G3 2 (depL w5) 2 []=_;simp only [G3,h0,List.nil_append,h1]
 rfl
theorem QZ:groupsW w5=[⟨[sa,sb],[]⟩,⟨[sc],[0]⟩]:=by
 rw [(IJ k_ord).1];unfold grpS ES;rw [Kt]
 simp [List.range_succ,Q1,Q0]
theorem Q2:cloW w5 sc false=[sa,sb,sc]:=by
 refine IB (Qt Gl _ _) Gl.srt fun x=>?_;rw [MI];refine ⟨fun h=>h.1,fun h=>⟨h,?_⟩⟩;have h1:BT (Stp w5 false) sc sa:=BT.one (.inr (show (⟨sc,1,sa⟩:Lw)∈w5.K by decide));have hx:x=sa∨x=sb∨x=sc:=by simpa using h
 rcases hx with rfl | rfl | rfl
 ·exact h1
 ·exact h1.tail (.inl (.inl (by decide)))
 ·exact .refl
theorem D3 {l:List St} {k:Nat} (h:k<l.length):(l.map AU)[k]?=some (AU (l.getD k [])):=by
 rw [List.getElem?_map,List.getElem?_eq_getElem h,List.getD_eq_getElem?_getD,List.getElem?_eq_getElem h];rfl
theorem take_eq {l l':List St} {k:Nat} (h1:k<l.length) (h2:k<l'.length) (h:l.take k=l'.take k) (e:l.getD k []=l'.getD k []):l.take (k+1)=l'.take (k+1):=by
 rw [List.take_succ_eq_append_getElem h1,List.take_succ_eq_append_getElem h2,h];rw [List.getD_eq_getElem?_getD,List.getElem?_eq_getElem h1,List.getD_eq_getElem?_getD,List.getElem?_eq_getElem h2] at e;exact congrArg (fun x=>l'.take k++ [x]) e
theorem IF (l l':List St) (hl:l.length≤1000000):Ba Try.prog 20 [.d (stsD l),.d (stsD l')] (An (decide (l=l'))):=by
 refine DA Try.func20 Z Z Try.ntmps20 Z Z Z fun F hF=>(AF (AI ?_));refine AD Z Z (AG (AF (AF (AI (AC Z Z (J (CJ rfl (List.length_map ..) Try.underlying32 rfl) (AC Z Z (J (CJ rfl (List.length_map ..) Try.underlying32 rfl) ?_))))))))
 first | refine J (Gt Z Z Z) ?_ | refine J (Gs Z Z Z) ?_ | refine J (GY Z Z Z) ?_ | refine J (Gu Try.underlying3 Z Z Z) ?_ | refine J (Gw Try.underlying3 Z Z Z) ?_ | refine J (st_neqN Try.underlying3 Z Z) ?_ | refine J (Gr Try.underlying3 Z Z) ?_ | refine J (st_neqMz Try.underlying3 Z Z) ?_ | refine J (Gv Try.underlying3 Z Z Z) ?_ | refine J (st_neqFN Try.underlying3 Z Z) ?_
 refine AG ?_
 first | refine BC rfl (fun h10=>?_) (fun h10=>?_) | refine Az rfl (fun h10=>?_) (fun h10=>?_)
 ·refine AF (AI (AD Z Z (AG (At ?_))));exact ⟨_,[],[],Ar rfl,rfl,rfl,by rw [decide_eq_false fun e=>h10 (by rw [e])],rfl⟩
 ·refine Ak (AF (AF ?_));have hll:l.length=l'.length:=Int.ofNat.inj (Classical.not_not.1 h10);refine AI (AD Z Z (AG (Bc (N8 (α:=Nat) (fun k=>⟨26,[(0,.d (stsD l)),(1,.d (stsD l')),(5,(.d (natD k)))],[]⟩) (fun k=>k≤l.length∧l.take k=l'.take k) (fun k=>l.length - k) (0) (⟨Nat.zero_le _,rfl⟩) (Fh ⟨rfl,rfl,rfl,trivial⟩) ?_))));rintro k ⟨hk,he⟩;refine AF (AF (AI (AC Z Z (AC Z Z (J (CJ rfl (List.length_map ..) Try.underlying32 rfl) ?_)))))
  first | refine J (Es Z Z Z) ?_ | refine J (Ex Z Z Z) ?_
  refine AG ?_
  first | refine BC rfl (fun h14=>?_) (fun h14=>?_) | refine Az rfl (fun h14=>?_) (fun h14=>?_)
  ·refine Ak (AF (Bc (AF ?_)));have hkl:k<l.length:=Hl h14;have hkl':k<l'.length:=by omega
   refine FH [[],[],[0,1],[0,1,2],[],[],[4,5],[4,5,6],[0,1,2,3,4,5,6,7]] mixed rfl (Dk ?_)
   first | refine AE [0] [] Z Z (fun _=>AB (Ac Z Z)) ?_ | refine AH [0] Z Z (fun _=>AB (Ac Z Z)) ?_
   first | refine AE [5] [] Z Z (fun _=>AB (Ac Z Z)) ?_ | refine AH [5] Z Z (fun _=>AB (Ac Z Z)) ?_
   first | refine AE [17,18] [] Z Z (fun _=>AB (BN (k) Z Z (rfl) (D3 hkl) Try.underlying32 rfl EW rfl)) ?_ | refine AH [17,18] Z Z (fun _=>AB (BN (k) Z Z (rfl) (D3 hkl) Try.underlying32 rfl EW rfl)) ?_ | refine AE [17,18] [] Z Z (fun _=>AB (BO (k) Z Z (rfl) (D3 hkl) rfl Try.underlying32 EW rfl)) ?_ | refine AH [17,18] Z Z (fun _=>AB (BO (k) Z Z (rfl) (D3 hkl) rfl Try.underlying32 EW rfl)) ?_
   first | refine AE [19] [] Z Z (fun _=>AB (AY Z Z AZ rfl)) ?_ | refine AH [19] Z Z (fun _=>AB (AY Z Z AZ rfl)) ?_ | refine AE [19] [] Z Z (fun _=>AB (AW Z Z Z AZ rfl)) ?_ | refine AH [19] Z Z (fun _=>AB (AW Z Z Z AZ rfl)) ?_ | refine AE [19] [] Z Z (fun _=>AB (AX Z Z (rfl) rfl AZ rfl)) ?_ | refine AH [19] Z Z (fun _=>AB (AX Z Z (rfl) rfl AZ rfl)) ?_
   first | refine AE [1] [] Z Z (fun _=>AB (Ac Z Z)) ?_ | refine AH [1] Z Z (fun _=>AB (Ac Z Z)) ?_
   first | refine AE [5] [] Z Z (fun _=>AB (Ac Z Z)) ?_ | refine AH [5] Z Z (fun _=>AB (Ac Z Z)) ?_
   first | refine AE [21,22] [] Z Z (fun _=>AB (BN (k) Z Z (rfl) (D3 hkl') Try.underlying32 rfl EW rfl)) ?_ | refine AH [21,22] Z Z (fun _=>AB (BN (k) Z Z (rfl) (D3 hkl') Try.underlying32 rfl EW rfl)) ?_ | refine AE [21,22] [] Z Z (fun _=>AB (BO (k) Z Z (rfl) (D3 hkl') rfl Try.underlying32 EW rfl)) ?_ | refine AH [21,22] Z Z (fun _=>AB (BO (k) Z Z (rfl) (D3 hkl') rfl Try.underlying32 EW rfl)) ?_
   first | refine AE [23] [] Z Z (fun _=>AB (AY Z Z AZ rfl)) ?_ | refine AH [23] Z Z (fun _=>AB (AY Z Z AZ rfl)) ?_ | refine AE [23] [] Z Z (fun _=>AB (AW Z Z Z AZ rfl)) ?_ | refine AH [23] Z Z (fun _=>AB (AW Z Z Z AZ rfl)) ?_ | refine AE [23] [] Z Z (fun _=>AB (AX Z Z (rfl) rfl AZ rfl)) ?_ | refine AH [23] Z Z (fun _=>AB (AX Z Z (rfl) rfl AZ rfl)) ?_
   refine Dl 8 Z Z Z (B9 9 Z Z ?_)
   first | refine J (Gt Z Z Z) ?_ | refine J (Gs Z Z Z) ?_ | refine J (GY Z Z Z) ?_ | refine J (Gu Try.underlying9 Z Z Z) ?_ | refine J (Gw Try.underlying9 Z Z Z) ?_ | refine J (st_neqN Try.underlying9 Z Z) ?_ | refine J (Gr Try.underlying9 Z Z) ?_ | refine J (st_neqMz Try.underlying9 Z Z) ?_ | refine J (Gv Try.underlying9 Z Z Z) ?_ | refine J (st_neqFN Try.underlying9 Z Z) ?_
   refine AG ⟨rfl,?_⟩;refine Em ?_
   first | refine BC rfl (fun h25=>?_) (fun h25=>?_) | refine Az rfl (fun h25=>?_) (fun h25=>?_)
   ·refine AF (AI (AD Z Z (AG (At ?_))));exact ⟨_,[],[],Ar rfl,rfl,rfl,by rw [decide_eq_false fun e=>h25 (by rw [e])],rfl⟩
   ·refine Ak (AI (AC Z Z (J (Cz Z Z (IntWalk.i64_in _ (by omega)) rfl) (AD Z Z (AG ?_)))));exact ⟨k+1,⟨hkl,take_eq hkl (by omega) he (Classical.not_not.1 h25)⟩,by omega,⟨rfl,rfl,fun _ _=>Has.get (l:=[(0,_),(1,_),(5,_)]) ⟨rfl,rfl,rfl,trivial⟩⟩⟩
  ·refine ET (AF ?_);have hke:k=l.length:=by have:=h14;omega
   refine AI (AD Z Z (AG (At ?_)));exact ⟨_,[],[],Ar rfl,rfl,rfl,by rw [decide_eq_true (by have h1:=he;rw [hke,List.take_length,hll,List.take_length] at h1;exact h1)],rfl⟩
theorem known_p:Ba Try.prog 10 [] (.raw (.bool true)):=by
 refine DA Try.func10 Z Z Try.ntmps10 Z Z Z fun F hF=>(AF (AI (AD Z Z (AG (AF (AI ?_))))));refine HZ (IS QI rfl [40] ⟨rfl,trivial⟩ Z Z Z Z (fun r H' ⟨b,M,e1,e2,_⟩=>by subst e1 e2;exact ⟨rfl,rfl,rfl⟩) rfl) rfl ?_;rintro _ ⟨r,H',⟨b,M0,e1,e2,h0⟩,rfl⟩;subst e1 e2;refine AD Z Z (AG (AF (AF (AI (AC Z Z ?_)))))
 first | refine J (Er Z Z Z) ?_ | refine J (FF Z Z Z) ?_ | refine J (En Z Z Z) ?_ | refine J (Et Try.underlying23 Z Z Z) ?_ | refine J (Ew Try.underlying23 Z Z Z) ?_ | refine J (Ev Try.underlying23 Z Z) ?_ | refine J (FE Try.underlying23 Z Z) ?_ | refine J (Ez Try.underlying23 Z Z) ?_ | refine J (Eu Try.underlying23 Z Z Z) ?_ | refine J (Ey Try.underlying23 Z Z) ?_
 refine AC Z Z (Ds 6 rfl (rfl) (A1 Z Z Z (AC Z Z (A1 Z Z Z ?_))));refine HZ (IS (OA h0 Cu.nil.ok sa) rfl [40] ⟨rfl,trivial⟩ Z Z Z Z (fun r H' ⟨M,e1,e2,_⟩=>by subst e1 e2;exact ⟨rfl,rfl,rfl⟩) rfl) rfl ?_;rintro _ ⟨r,H',⟨M1,e1,e2,h1⟩,rfl⟩;subst e1 e2;rw [Kv] at h1⊢;refine A1 Z Z Z ?_
 first | refine J (Gt Z Z Z) ?_ | refine J (Gs Z Z Z) ?_ | refine J (GY Z Z Z) ?_ | refine J (Gu Try.underlying25 Z Z Z) ?_ | refine J (Gw Try.underlying25 Z Z Z) ?_ | refine J (st_neqN Try.underlying25 Z Z) ?_ | refine J (Gr Try.underlying25 Z Z) ?_ | refine J (st_neqMz Try.underlying25 Z Z) ?_ | refine J (Gv Try.underlying25 Z Z Z) ?_ | refine J (st_neqFN Try.underlying25 Z Z) ?_
 refine J (Fo Z Z Z Z) (AC Z Z (Ds 11 rfl (rfl) (A1 Z Z Z (AC Z Z (A1 Z Z Z ?_)))));refine HZ (IS (OA h1 k_ok1 sb) rfl [40] ⟨rfl,trivial⟩ Z Z Z Z (fun r H' ⟨M,e1,e2,_⟩=>by subst e1 e2;exact ⟨rfl,rfl,rfl⟩) rfl) rfl ?_;rintro _ ⟨r,H',⟨M2,e1,e2,h2⟩,rfl⟩;subst e1 e2;rw [NP] at h2⊢;refine A1 Z Z Z ?_
 first | refine J (Gt Z Z Z) ?_ | refine J (Gs Z Z Z) ?_ | refine J (GY Z Z Z) ?_ | refine J (Gu Try.underlying25 Z Z Z) ?_ | refine J (Gw Try.underlying25 Z Z Z) ?_ | refine J (st_neqN Try.underlying25 Z Z) ?_ | refine J (Gr Try.underlying25 Z Z) ?_ | refine J (st_neqMz Try.underlying25 Z Z) ?_ | refine J (Gv Try.underlying25 Z Z Z) ?_ | refine J (st_neqFN Try.underlying25 Z Z) ?_
 refine J (Fo Z Z Z Z) (AC Z Z (Ds 16 rfl (rfl) (A1 Z Z Z (AC Z Z (A1 Z Z Z ?_)))));refine HZ (IS (OA h2 k_ok2 sc) rfl [40] ⟨rfl,trivial⟩ Z Z Z Z (fun r H' ⟨M,e1,e2,_⟩=>by subst e1 e2;exact ⟨rfl,rfl,rfl⟩) rfl) rfl ?_;rintro _ ⟨r,H',⟨M3,e1,e2,h3⟩,rfl⟩;subst e1 e2;rw [Q3] at h3⊢;refine A1 Z Z Z ?_
 first | refine J (Gt Z Z Z) ?_ | refine J (Gs Z Z Z) ?_ | refine J (GY Z Z Z) ?_ | refine J (Gu Try.underlying25 Z Z Z) ?_ | refine J (Gw Try.underlying25 Z Z Z) ?_ | refine J (st_neqN Try.underlying25 Z Z) ?_ | refine J (Gr Try.underlying25 Z Z) ?_ | refine J (st_neqMz Try.underlying25 Z Z) ?_ | refine J (Gv Try.underlying25 Z Z Z) ?_ | refine J (st_neqFN Try.underlying25 Z Z) ?_
 refine J (Fo Z Z Z Z) (AC Z Z (Ds 21 rfl (rfl) (A1 Z Z Z (AC Z Z (A1 Z Z Z (J (Mj LQ Pf Z Z Z) (A1 Z Z Z ?_)))))));refine HZ (IS (Ip h3 k_ok3 (by decide) ⟨sa,0,sb⟩) rfl [40] ⟨rfl,trivial⟩ Z Z Z Z (fun r H' ⟨M,e1,e2,_⟩=>by subst e1 e2;exact ⟨rfl,rfl,rfl⟩) rfl) rfl ?_;rintro _ ⟨r,H',⟨M4,e1,e2,h4⟩,rfl⟩;subst e1 e2;rw [k_lnk1] at h4⊢;refine A1 Z Z Z ?_
 first | refine J (Gt Z Z Z) ?_ | refine J (Gs Z Z Z) ?_ | refine J (GY Z Z Z) ?_ | refine J (Gu Try.underlying25 Z Z Z) ?_ | refine J (Gw Try.underlying25 Z Z Z) ?_ | refine J (st_neqN Try.underlying25 Z Z) ?_ | refine J (Gr Try.underlying25 Z Z) ?_ | refine J (st_neqMz Try.underlying25 Z Z) ?_ | refine J (Gv Try.underlying25 Z Z Z) ?_ | refine J (st_neqFN Try.underlying25 Z Z) ?_
 refine J (Fo Z Z Z Z) (AC Z Z (Ds 27 rfl (rfl) (A1 Z Z Z (AC Z Z (A1 Z Z Z (J (Mj LQ Pf Z Z Z) (A1 Z Z Z ?_)))))));refine HZ (IS (Ip h4 QY (by decide) ⟨sc,1,sa⟩) rfl [40] ⟨rfl,trivial⟩ Z Z Z Z (fun r H' ⟨M,e1,e2,_⟩=>by subst e1 e2;exact ⟨rfl,rfl,rfl⟩) rfl) rfl ?_;rintro _ ⟨r,H',⟨M5,e1,e2,h5⟩,rfl⟩;subst e1 e2;rw [k_lnk2] at h5⊢;refine A1 Z Z Z ?_
 first | refine J (Gt Z Z Z) ?_ | refine J (Gs Z Z Z) ?_ | refine J (GY Z Z Z) ?_ | refine J (Gu Try.underlying25 Z Z Z) ?_ | refine J (Gw Try.underlying25 Z Z Z) ?_ | refine J (st_neqN Try.underlying25 Z Z) ?_ | refine J (Gr Try.underlying25 Z Z) ?_ | refine J (st_neqMz Try.underlying25 Z Z) ?_ | refine J (Gv Try.underlying25 Z Z Z) ?_ | refine J (st_neqFN Try.underlying25 Z Z) ?_
 refine J (Fo Z Z Z Z) (AG ?_);refine D0 rfl (rfl) (Ak (AF (AI (AC Z Z (U (F5 (MX h5 Gl (by decide)) rfl [40] ⟨rfl,trivial⟩ Z Z Z Z Z Z Z Z Z) (AD Z Z (AG (AF ?_))))))));rw [QZ];refine AI (AC Z Z ?_)
 first | refine J (JY rfl Try.underlying47 rfl) ?_ | refine J (CJ Z Z Try.underlying47 rfl) ?_ | refine J (JT rfl Try.underlying47 rfl) ?_ | refine J (JW rfl Try.underlying47 rfl) ?_ | refine J (JS rfl Try.underlying47 rfl) ?_ | refine J (JL rfl Try.underlying47 rfl) ?_
 first | refine J (Er Z Z Z) ?_ | refine J (FF Z Z Z) ?_ | refine J (En Z Z Z) ?_ | refine J (Et Try.underlying3 Z Z Z) ?_ | refine J (Ew Try.underlying3 Z Z Z) ?_ | refine J (Ev Try.underlying3 Z Z) ?_ | refine J (FE Try.underlying3 Z Z) ?_ | refine J (Ez Try.underlying3 Z Z) ?_ | refine J (Eu Try.underlying3 Z Z Z) ?_ | refine J (Ey Try.underlying3 Z Z) ?_
 refine AC Z Z (Cy 38 rfl (rfl) (A1 Z Z Z (AC Z Z (A1 Z Z Z ?_))))
 first | refine J (BN (0) Z Z (rfl) (rfl) Try.underlying47 rfl DN rfl) ?_ | refine J (BO (0) Z Z (rfl) (rfl) rfl Try.underlying47 DN rfl) ?_
 refine A1 Z Z Z ?_
 first | refine J (A4 rfl K0 Z Z Z) ?_ | refine J (A6 rfl K0 Z Z Z) ?_ | refine J (A7 rfl K0 Z Z Z) ?_ | refine J (A5 rfl K0 Z Z Z) ?_ | refine J (A3 rfl K0 Z Z Z) ?_
 refine A1 Z Z Z ?_
 first | refine J (AY Z Z AT rfl) ?_ | refine J (AW Z Z Z AT rfl) ?_ | refine J (AX Z Z (rfl) rfl AT rfl) ?_
 refine A1 Z Z Z (U (Gx 12 Bg Z Z Z Z Z Z Z Z) ?_);refine Fd (emb:=AU) 43 12 [sa,sb] Z Z Z Z Z Z Z (A1 Z Z Z (J (DZ (IF [sa,sb] [sa,sb] (by decide)) Z Z) (J (Fp Z Z Z Z) (AC Z Z (Cy 46 rfl (rfl) (A1 Z Z Z (AC Z Z (A1 Z Z Z ?_))))))))
 first | refine J (BN (1) Z Z (rfl) (rfl) Try.underlying47 rfl DN rfl) ?_ | refine J (BO (1) Z Z (rfl) (rfl) rfl Try.underlying47 DN rfl) ?_
 refine A1 Z Z Z ?_
 first | refine J (A4 rfl K0 Z Z Z) ?_ | refine J (A6 rfl K0 Z Z Z) ?_ | refine J (A7 rfl K0 Z Z Z) ?_ | refine J (A5 rfl K0 Z Z Z) ?_ | refine J (A3 rfl K0 Z Z Z) ?_
 refine A1 Z Z Z ?_
 first | refine J (AY Z Z AT rfl) ?_ | refine J (AW Z Z Z AT rfl) ?_ | refine J (AX Z Z (rfl) rfl AT rfl) ?_
 refine A1 Z Z Z (U (Gx 13 Bg Z Z Z Z Z Z Z Z) ?_);refine Fd (emb:=AU) 51 13 [sc] Z Z Z Z Z Z Z (A1 Z Z Z (J (DZ (IF [sc] [sc] (by decide)) Z Z) (J (Fp Z Z Z Z) (AC Z Z (Cy 54 rfl (rfl) (A1 Z Z Z (AC Z Z (A1 Z Z Z ?_))))))))
 first | refine J (BN (1) Z Z (rfl) (rfl) Try.underlying47 rfl DN rfl) ?_ | refine J (BO (1) Z Z (rfl) (rfl) rfl Try.underlying47 DN rfl) ?_
 refine A1 Z Z Z ?_
 first | refine J (A4 rfl Cb Z Z Z) ?_ | refine J (A6 rfl Cb Z Z Z) ?_ | refine J (A7 rfl Cb Z Z Z) ?_ | refine J (A5 rfl Cb Z Z Z) ?_ | refine J (A3 rfl Cb Z Z Z) ?_
 refine A1 Z Z Z ?_
 first | refine J (AY Z Z Ab rfl) ?_ | refine J (AW Z Z Z Ab rfl) ?_ | refine J (AX Z Z (rfl) rfl Ab rfl) ?_
 refine A1 Z Z Z ?_
 first | refine J (JY rfl Try.underlying49 rfl) ?_ | refine J (CJ Z Z Try.underlying49 rfl) ?_ | refine J (JT rfl Try.underlying49 rfl) ?_ | refine J (JW rfl Try.underlying49 rfl) ?_ | refine J (JS rfl Try.underlying49 rfl) ?_ | refine J (JL rfl Try.underlying49 rfl) ?_
 refine A1 Z Z Z ?_
 first | refine J (Er Z Z Z) ?_ | refine J (FF Z Z Z) ?_ | refine J (En Z Z Z) ?_ | refine J (Et Try.underlying3 Z Z Z) ?_ | refine J (Ew Try.underlying3 Z Z Z) ?_ | refine J (Ev Try.underlying3 Z Z) ?_ | refine J (FE Try.underlying3 Z Z) ?_ | refine J (Ez Try.underlying3 Z Z) ?_ | refine J (Eu Try.underlying3 Z Z Z) ?_ | refine J (Ey Try.underlying3 Z Z) ?_
 refine J (Fp Z Z Z Z) (AC Z Z (Cy 62 rfl (rfl) (A1 Z Z Z (AC Z Z (A1 Z Z Z ?_)))))
 first | refine J (BN (1) Z Z (rfl) (rfl) Try.underlying47 rfl DN rfl) ?_ | refine J (BO (1) Z Z (rfl) (rfl) rfl Try.underlying47 DN rfl) ?_
 refine A1 Z Z Z ?_
 first | refine J (A4 rfl Cb Z Z Z) ?_ | refine J (A6 rfl Cb Z Z Z) ?_ | refine J (A7 rfl Cb Z Z Z) ?_ | refine J (A5 rfl Cb Z Z Z) ?_ | refine J (A3 rfl Cb Z Z Z) ?_
 refine A1 Z Z Z ?_
 first | refine J (AY Z Z Ab rfl) ?_ | refine J (AW Z Z Z Ab rfl) ?_ | refine J (AX Z Z (rfl) rfl Ab rfl) ?_
 refine A1 Z Z Z ?_
 first | refine J (BN (0) Z Z (rfl) (rfl) Try.underlying49 rfl D1 rfl) ?_ | refine J (BO (0) Z Z (rfl) (rfl) rfl Try.underlying49 D1 rfl) ?_
 refine A1 Z Z Z ?_
 first | refine J (AY Z Z Be rfl) ?_ | refine J (AW Z Z Z Be rfl) ?_ | refine J (AX Z Z (rfl) rfl Be rfl) ?_
 refine A1 Z Z Z ?_
 first | refine J (Er Z Z Z) ?_ | refine J (FF Z Z Z) ?_ | refine J (En Z Z Z) ?_ | refine J (Et Try.underlying3 Z Z Z) ?_ | refine J (Ew Try.underlying3 Z Z Z) ?_ | refine J (Ev Try.underlying3 Z Z) ?_ | refine J (FE Try.underlying3 Z Z) ?_ | refine J (Ez Try.underlying3 Z Z) ?_ | refine J (Eu Try.underlying3 Z Z Z) ?_ | refine J (Ey Try.underlying3 Z Z) ?_
 refine J (Fp Z Z Z Z) (AC Z Z (Cy 71 rfl (rfl) (A1 Z Z Z (AC Z Z (A1 Z Z Z (U (F5 (Qw h5 Gl (by decide) sc) rfl [40] ⟨rfl,trivial⟩ Z Z Z Z Z Z Z Z Z) ?_))))));rw [if_pos (show sc∈w5.R by decide),Q2];refine A1 Z Z Z (U (Gx 14 Bg Z Z Z Z Z Z Z Z) (Fd (emb:=AU) 74 14 [sa,sb,sc] Z Z Z Z Z Z Z (A1 Z Z Z ?_)));refine J (DZ (IF [sa,sb,sc] [sa,sb,sc] (by decide)) Z Z) (J (Fp Z Z Z Z) (AC Z Z (Cy 77 rfl (rfl) (A1 Z Z Z (AC Z Z (A1 Z Z Z (J (Mj LQ Pf Z Z Z) (A1 Z Z Z ?_))))))));refine HZ (IS (Ip h5 Gl (by decide) ⟨sb,1,sc⟩) rfl [40] ⟨rfl,trivial⟩ Z Z Z Z (fun r H' ⟨M,e1,e2,_⟩=>by subst e1 e2;exact ⟨rfl,rfl,rfl⟩) rfl) rfl ?_;rintro _ ⟨r,H',⟨M6,e1,e2,h6⟩,rfl⟩;subst e1 e2;rw [k_lnk3] at h6⊢;refine A1 Z Z Z ?_
 first | refine J (Er Z Z Z) ?_ | refine J (FF Z Z Z) ?_ | refine J (En Z Z Z) ?_ | refine J (Et Try.underlying25 Z Z Z) ?_ | refine J (Ew Try.underlying25 Z Z Z) ?_ | refine J (Ev Try.underlying25 Z Z) ?_ | refine J (FE Try.underlying25 Z Z) ?_ | refine J (Ez Try.underlying25 Z Z) ?_ | refine J (Eu Try.underlying25 Z Z Z) ?_ | refine J (Ey Try.underlying25 Z Z) ?_
 refine J (Fp Z Z Z Z) (AD Z Z (AG (At ?_)));exact ⟨_,[],[],Ar rfl,rfl,rfl,by simp,rfl⟩
section
variable {P:Program} {F:Fr} {s:AS} {d:Nat} {ty T T' E K:TypeId} {pos:String} {aft:Array Edge} {g:Option (Nat×Bool)} {x y:Operand}
end
structure JO where
 k:Int
 x:St
 l:Lk
abbrev opD (o:JO):D:= .agg [Bt o.k,AU o.x,Bt o.l.t,AU o.l.r]
section
variable {H:Type} {enc:TypeId×Value ->H} {P:Program} {w:World}
theorem C1.asC {α β:Type} {t:TypeId} {k:Nat} {emb:α ->D} {Q:α ->Prop} {emb':β ->D} {Q':β ->Prop} (h:C1 enc P w t k emb Q) (f:α ->β) (he:∀a,Q a ->(emb a).cells=(emb' (f a)).cells) (hq:∀a,Q a ->Q' (f a)):C1 enc P w t k emb' Q':=fun fuel cs x hx hlt hw=>by
 obtain ⟨a,h1,h2,h3⟩:=h fuel cs x hx hlt hw;exact ⟨f a,hq a h1,by rw [←he a h1];exact h2,by unfold H4 at h3⊢;rw [←he a h1];exact h3⟩
theorem oLk:C1 enc Try.prog w 39 2 lkD (fun _=>True):=
 (Pm Try.underlying39 (by kernel_rfl) (Ij rfl (by kernel_rfl) (Nm Try.underlying3) (Ij rfl (by kernel_rfl) (Ii Try.underlying9) Pn))).asQ (fun a=>(⟨a.1,a.2.1⟩:Lk)) (fun _ _=>rfl) (fun _ _=>trivial)
theorem oOp:C1 enc Try.prog w 41 4 opD (fun _=>True):=
 (Pm Try.underlying41 (by kernel_rfl) (Ij rfl (by kernel_rfl) (Nm Try.underlying3) (Ij rfl (by kernel_rfl) (Ii Try.underlying9) (Ij rfl (by kernel_rfl) oLk Pn)))).asC (fun a=>(⟨a.1,a.2.1,a.2.2.1⟩:JO)) (fun _ _=>rfl) (fun _ _=>trivial)
end
theorem pt69:De Try.prog 69=true:=by kernel_rfl
theorem QL {M:MF} {r:Nat} {bs:Option (List Nat×Nat)} {es:List (D×D)} (hr:M r=some (.map bs es)):AR Try.prog 42 [.d (mD r)] [(40,[.multi M])] fun x H'=>x= .map 6 0∧H'=[(40,[.multi M]),(6,[.map none es])]:=by
 refine DA Try.func42 Z Z Try.ntmps42 Z Z Z fun F hF=>(AF (AI (AD Z Z (AG (AF (AF (AI (AC Z Z ?_))))))))
 first | refine J (Er Z Z Z) ?_ | refine J (FF Z Z Z) ?_ | refine J (En Z Z Z) ?_ | refine J (Et Try.underlying69 Z Z Z) ?_ | refine J (Ew Try.underlying69 Z Z Z) ?_ | refine J (Ev Try.underlying69 Z Z) ?_ | refine J (FE Try.underlying69 Z Z) ?_ | refine J (Ez Try.underlying69 Z Z) ?_ | refine J (Eu Try.underlying69 Z Z Z) ?_ | refine J (Ey Try.underlying69 Z Z) ?_
 refine AG (D0 rfl (rfl) (Ak (AF (AI (AC Z Z ?_)))))
 first | refine J (Kc pt69 Z Z) ?_ | refine J (J1 pt69 Z Z) ?_
 refine o_clone 6 (f:=40) (M:=M) (bs:=bs) (es:=es) (r:=r) Try.func66 Z Z (by kernel_rfl) (by kernel_rfl) Z Z hr Z Z Z pt69 Z Z ?_;skip;refine AD Z Z (AG (At ?_));exact ⟨_,[40,6],_,Ar rfl,rfl,rfl,rfl,rfl⟩
theorem AR.byX (l:List (Nat×Nat)) {P:Program} {f:FuncId} {args:List AV} {H:Hp} {R:AV ->Hp ->Prop} (h:AR P f args H R) (hl:JI l=true):
  AR P f (Fs (BV l) args) (Cw (BV l) H) fun r H'=>∃r0 H0,R r0 H0∧r=r0.ren (BV l)∧H'=Cw (BV l) H0:=
 (h.ren (CK hl)).mono fun r H' h=>⟨_,_,h,by rw [AV.ren_ren (CK hl)],by rw [EM (CK hl)]⟩
theorem new41_c:AR Try.prog 11 [] [] fun r H'=>∃b M,r= .d (pD b 0)∧H'=[(41,[.multi M])]∧BU M b ⟨[],[]⟩:=
 (QI.byX [(40,41)] rfl).mono fun r H' ⟨r0,H0,⟨b,M,e1,e2,h⟩,e3,e4⟩=>⟨b,M,by rw [e3,e1];rfl,by rw [e4,e2];rfl,h⟩
def lkO (lk:Nat ->List Lk):Option Nat ->List Lk
 | none=> []
 | some h=>lk h
def kL (lk:Nat ->List Lk) (e:St×Option Nat):St×List Lk:=(e.1,lkO lk e.2)
def kE (lk:Nat ->List Lk) (E:List (St×Nat)):List (St×List Lk):=(eE E).map (kL lk)
theorem Kw (lk:Nat ->List Lk) (E:List (St×Nat)):(kE lk E).map Prod.fst=E.map Prod.fst:=by unfold kE;rw [List.map_map,←GT];rfl
theorem Q4 {lk:Nat ->List Lk} {E:List (St×Nat)} {x:St} {L:List Lk}:(x,L)∈kE lk E↔∃p∈E,p.1=x∧lk p.2=L:=by
 unfold kE;rw [List.mem_map]
 constructor
 ·rintro ⟨e,he,h⟩;obtain ⟨p,hp,rfl⟩:=List.mem_map.1 he;injection h with h1 h2
  exact ⟨p,hp,h1,h2⟩
 ·rintro ⟨p,hp,h1,h2⟩;exact ⟨(p.1,some p.2),List.mem_map.2 ⟨p,hp,rfl⟩,by rw [←h1,←h2];rfl⟩
theorem kE_snoc {lk:Nat ->List Lk} {E:List (St×Nat)} {x:St} {h:Nat} {L:List Lk} (hn:∀p∈E,p.2≠h):kE (Am lk h L) (E++ [(x,h)])=kE lk E++ [(x,L)]:=by
 unfold kE;rw [show eE (E++ [(x,h)])=eE E++ [(x,some h)] from List.map_append ..,List.map_append];refine congr (congrArg _ ?_) ?_
 ·rw [List.map_map,List.map_map];refine List.map_congr_left fun p hp=>?_;show (p.1,Am lk h L p.2)=(p.1,lk p.2)
  rw [EU (hn p hp)]
 ·show [(x,Am lk h L h)]=_;rw [Dn]
theorem LR.put {N:MF} {b m:Nat} {E:List (St×Nat)} {lk:Nat ->List Lk} (h:LR N b m E lk) {x:St} {h2:Nat} {L:List Lk} (hb:N h2=none):LR (BD (BD N h2 (.map none (CF L))) m (.map none (CP (E++ [(x,h2)])))) b m (E++ [(x,h2)]) (Am lk h2 L):=by
 have h1:b≠h2:=fun e=>by have:=h.cell;rw [e,hb] at this;cases this
 have h3:b≠m:=fun e=>by have:=h.cell;rw [e,h.top] at this;cases this
 have h4:h2≠m:=fun e=>by have:=h.top;rw [←e,hb] at this;cases this
 have h5:∀p∈E,p.2≠h2:=fun p hp e=>by have:=h.sub p hp;rw [e,hb] at this;cases this
 have h6:∀p∈E,p.2≠m:=fun p hp e=>h.ne (by rw [←e];exact List.mem_map_of_mem hp);refine ⟨by rw [Do h3,Do h1];exact h.cell,DX _ _ _,fun p hp=>?_,?_,?_⟩
 ·rcases List.mem_append.1 hp with hp | hp
  ·rw [Do (h6 p hp),Do (h5 p hp),EU (h5 p hp)];exact h.sub p hp
  ·rw [List.mem_singleton.1 hp,Do h4,DX,Dn]
 ·rw [List.map_append,List.nodup_append];refine ⟨h.nd,by simp,fun a ha c hc e=>?_⟩;obtain ⟨p,hp,rfl⟩:=List.mem_map.1 ha;exact h5 p hp (by rw [e];simpa using hc)
 ·rw [List.map_append,List.mem_append];rintro (hh | hh)
  ·exact h.ne hh
  ·exact h4 (List.mem_singleton.1 hh).symm
theorem LW.kE {E E1:List (St×Nat)} {lk lk1:Nat ->List Lk} {w:Ws} (h:LW E lk w) (hp:(kE lk1 E1).Perm (kE lk E)):LW E1 lk1 w:=by
 have hf:=hp.map Prod.fst;rw [Kw,Kw] at hf;have key:∀p∈E1,∃q∈E,q.1=p.1∧lk q.2=lk1 p.2:=fun p hp1=>Q4.1 (hp.mem_iff.1 (Q4.2 ⟨p,hp1,rfl,rfl⟩));refine ⟨hf.nodup_iff.2 h.kd,fun x=>hf.mem_iff.trans (h.ks x),fun p hp1=>?_,fun p hp1 l=>?_⟩
 ·obtain ⟨q,hq,_,e⟩:=key p hp1;rw [←e];exact h.ld q hq
 ·obtain ⟨q,hq,e1,e⟩:=key p hp1;rw [←e,←e1];exact h.ls q hq l
theorem BU.empty {N:MF} {b:Nat} (h:BU N b ⟨[],[]⟩):∃m lk,LR N b m [] lk:=by
 obtain ⟨m,E,lk,hr,hl⟩:=h
 have hE:E=[]:=by
  cases E with
  | nil=>rfl
  | cons p r=>exact absurd ((hl.ks p.1).1 (by simp)) (by simp)
 subst hE;exact ⟨m,lk,hr⟩
theorem Ny {M:MF} {b:Nat} {w:Ws} (h:BU M b w):AR Try.prog 25 [.d (pD b 0)] [(40,[.multi M])] fun r H'=>∃b1 M1,r= .d (pD b1 0)∧H'=[(40,[.multi M]),(41,[.multi M1])]∧BU M1 b1 w:=by
 obtain ⟨m,E,lk,hr,hl⟩:=h;have hbm:b≠m:=fun e=>by subst e;have:=hr.cell;rw [hr.top] at this;cases this
 have hpm:∀p∈E,p.2≠m:=fun p hp e=>hr.ne (by rw [←e];exact List.mem_map_of_mem hp);refine DA Try.func25 Z Z Try.ntmps25 Z Z Z fun F hF=>(AF (AI (AD Z Z (AG (AF (AF (AI (AC Z Z ?_))))))))
 first | refine J (Er Z Z Z) ?_ | refine J (FF Z Z Z) ?_ | refine J (En Z Z Z) ?_ | refine J (Et Try.underlying23 Z Z Z) ?_ | refine J (Ew Try.underlying23 Z Z Z) ?_ | refine J (Ev Try.underlying23 Z Z) ?_ | refine J (FE Try.underlying23 Z Z) ?_ | refine J (Ez Try.underlying23 Z Z) ?_ | refine J (Eu Try.underlying23 Z Z Z) ?_ | refine J (Ey Try.underlying23 Z Z) ?_
 refine AG (D0 rfl (rfl) (Ak (AF (AI ?_))));refine HZ (IS new41_c rfl [41] ⟨rfl,trivial⟩ Z Z Z Z (fun r H' ⟨b,M,e1,e2,_⟩=>by subst e1 e2;exact ⟨rfl,rfl,rfl⟩) rfl) rfl ?_;rintro _ ⟨r,H',⟨b1,N0,e1,e2,hn⟩,rfl⟩;subst e1 e2;refine AD Z Z (AG (AF (AF ?_)));obtain ⟨m1,lk0,hr0⟩:=hn.empty;refine Zcx 40 m rfl hr.top (fun _ _=>rfl) fun B c hB hBn=>?_
 obtain ⟨M1,hM1⟩:∃M1,BD M m (.map (some (B,c)) (CP E))=M1:=⟨_,rfl⟩
 rw [hM1];have h1b:M1 b=some (.cells 68 [mD m]):=by rw [←hM1,Do hbm];exact hr.cell
 have h1m:M1 m=some (.map (some (B,c)) (CP E)):=by rw [←hM1,DX]
 have h1s:∀p∈E,M1 p.2=some (.map none (CF (lk p.2))):=fun p hp=>by rw [←hM1,Do (hpm p hp)];exact hr.sub p hp
 refine AI (AC Z Z ?_)
 first | refine J (FC Z Z) ?_ | refine J (FA Z Z) ?_ | refine J (FD Z Z) ?_ | refine J (FB Z Z) ?_
 first | refine J (A4 rfl A0 Z Z Z) ?_ | refine J (A6 rfl A0 Z Z Z) ?_ | refine J (A7 rfl A0 Z Z Z) ?_ | refine J (A5 rfl A0 Z Z Z) ?_ | refine J (A3 rfl A0 Z Z Z) ?_
 refine J (Fu (f:=40) Z Z (h1b) rfl Bk rfl) (U (Zct 1 (f:=40) Z Z (h1m) rfl Bs Z Z Z Z) (AG (Bc (F4 (α:=List Nat×List (St×Nat)×(Nat ->List Lk)×MF) (fun q=>⟨27,[(3,(.d (pD b1 0))),(13,(.ptr 1 0 0))],[(1,[.iter 40 m c q.1]),(40,[.multi M1]),(41,[.multi q.2.2.2])]⟩) (fun q=>LR q.2.2.2 b1 m1 q.2.1 q.2.2.1∧(kE q.2.2.1 q.2.1++(B4 (eE E) B q.1).map (kL lk)).Perm (kE lk E)) (fun q=>(B4 (eE E) B q.1).length) (([],[],lk0,N0)) (⟨hr0,by show ([]++(B4 (eE E) B []).map _).Perm _;rw [Zcw (by simpa [Aa] using hB)];exact List.Perm.refl _⟩) (BK hF [1,40,41] Z Z ⟨rfl,rfl,trivial⟩) ?_))));rintro ⟨seen,E1,lk1,N⟩ ⟨hr1,hP⟩;dsimp only at hr1 hP⊢;refine AF (AI (DC (eE E) Z Z Z (h1m) rfl (fun hl14=>?_) (fun j14 b14 k14 v14 hm14 hb14 hB14 hp14=>⟨_,rfl,?_⟩)))
 ·rw [hl14] at hP;refine CX 40 m rfl h1m rfl ?_;rw [show BD M1 m (.map none (CP E))=M by rw [←hM1,Ml];exact CD hr.top]
  first | refine J (B5 Z Z Z) ?_ | refine J (B6 Z Z Z) ?_
  refine AG ?_;refine AF (D0 Z Z (ET (AF (AI (AC Z Z (AD Z Z (AG (At ?_))))))));exact ⟨_,[40,41],_,Ar rfl,rfl,rfl,b1,N,rfl,rfl,m1,E1,lk1,hr1,hl.kE (by simpa using hP)⟩
 ·first | refine J (B5 Z Z Z) ?_ | refine J (B6 Z Z Z) ?_
  refine AG (AF (JM Z Z (Ak (Bc (AF ?_)))));obtain ⟨hd,hpe,hve⟩:=fSq hm14;subst hve
  have hkn:k14∉E1.map Prod.fst:=fun hh=>by
   have h1:=(hP.map Prod.fst).nodup_iff.2 (by rw [Kw];exact hl.kd);rw [List.map_append,Kw] at h1;exact (List.nodup_append.1 h1).2.2 _ hh _ (List.mem_map.2 ⟨(k14,lk hd),(hp14.map (kL lk)).mem_iff.2 (by simp [kL,lkO]),rfl⟩) rfl
  refine AI (J (Zcv (eE E) j14 b14 Z Z Z (h1m) hm14 hb14 rfl) ?_)
  first | refine J (B5 Z Z Z) ?_ | refine J (B6 Z Z Z) ?_
  first | refine J (B5 Z Z Z) ?_ | refine J (B6 Z Z Z) ?_
  refine AD Z Z (AD Z Z (AG (OC 1 40 95 96 rfl h1m Z Z Z Z Z Z Z Z Z Z (FH [[],[0],[0,1],[0,1,2],[],[],[5],[0,1,2,3,4,5,6]] mixed rfl (Dk ?_)))))
  first | refine AE [3] [] Z Z (fun _=>AB (Ac Z Z)) ?_ | refine AH [3] Z Z (fun _=>AB (Ac Z Z)) ?_
  first | refine AE [19] [] Z Z (fun _=>AB (FC Z Z)) ?_ | refine AH [19] Z Z (fun _=>AB (FC Z Z)) ?_ | refine AE [19] [] Z Z (fun _=>AB (FA Z Z)) ?_ | refine AH [19] Z Z (fun _=>AB (FA Z Z)) ?_ | refine AE [19] [] Z Z (fun _=>AB (FD Z Z)) ?_ | refine AH [19] Z Z (fun _=>AB (FD Z Z)) ?_ | refine AE [19] [] Z Z (fun _=>AB (FB Z Z)) ?_ | refine AH [19] Z Z (fun _=>AB (FB Z Z)) ?_
  first | refine AE [20] [] Z Z (fun _=>AB (A4 rfl A0 Z Z Z)) ?_ | refine AH [20] Z Z (fun _=>AB (A4 rfl A0 Z Z Z)) ?_ | refine AE [20] [] Z Z (fun _=>AB (A6 rfl A0 Z Z Z)) ?_ | refine AH [20] Z Z (fun _=>AB (A6 rfl A0 Z Z Z)) ?_ | refine AE [20] [] Z Z (fun _=>AB (A7 rfl A0 Z Z Z)) ?_ | refine AH [20] Z Z (fun _=>AB (A7 rfl A0 Z Z Z)) ?_ | refine AE [20] [] Z Z (fun _=>AB (A5 rfl A0 Z Z Z)) ?_ | refine AH [20] Z Z (fun _=>AB (A5 rfl A0 Z Z Z)) ?_ | refine AE [20] [] Z Z (fun _=>AB (A3 rfl A0 Z Z Z)) ?_ | refine AH [20] Z Z (fun _=>AB (A3 rfl A0 Z Z Z)) ?_
  refine AE [21] [41] Z Z (fun _=>AB (Fu (f:=41) Z Z hr1.cell rfl Bk rfl)) ?_
  first | refine AE [4] [] Z Z (fun _=>AB (Ac Z Z)) ?_ | refine AH [4] Z Z (fun _=>AB (Ac Z Z)) ?_
  first | refine AE [5] [] Z Z (fun _=>AB (Ac Z Z)) ?_ | refine AH [5] Z Z (fun _=>AB (Ac Z Z)) ?_
  refine CA [24] [40,6] [(25,_)] Z Z (fun _=>IP (F5 (QL (h1s _ hpe)) rfl [40,6] ⟨rfl,rfl,trivial⟩ Z Z Z Z Z Z Z Z Z)) (.inr ⟨25,_,rfl,rfl,rfl,rfl,rfl⟩) Z Z Z Z Z (Dl 7 Z Z Z (B9 8 Z Z (HO 25 6 41 hF Z Z Z Z Z Z Z Z Z Z (fun _=>rfl) fun b2 hb2=>?_)));have h5:∀p∈E1,p.2≠b2:=fun p hp e=>by have:=hr1.sub p hp;rw [e,hb2] at this;cases this
  refine U (FK (f:=41) (eE E1) k14 (some b2) Z Z (by rw [Do (fun e=>by have:=hr1.top;rw [e,hb2] at this;cases this)];exact hr1.top) rfl Bs EX Z Z) ?_;rw [Qc hkn];refine HM 1 40 95 96 rfl h1m Z Z Z Z Z Z Z (AG ⟨rfl,?_⟩);refine Em ?_;exact ⟨(seen++ [b14],E1++ [(k14,b2)],Am lk1 b2 (lk hd),_),⟨hr1.put hb2,by show (kE _ _++_).Perm _;rw [kE_snoc h5];exact DL hP (y:=[(k14,lk hd)]) (by simpa [kL,lkO] using hp14.map (kL lk))⟩,by show (B4 (eE E) B (seen++ [b14])).length<(B4 (eE E) B seen).length;rw [hp14.length_eq];exact Nat.lt_succ_self _,BK hF [1,40,41] rfl (rfl) ⟨rfl,rfl,trivial⟩⟩
theorem lkM_has (l:List Lk) (a:Lk):Gg (Cg l) a=decide (a∈l):=by
 rw [Bool.eq_iff_iff,Bv,Nr,decide_eq_true_eq]
theorem lkM_val {l:List Lk} {k:Lk} {v:Bool} {j:Nat} (h:(Cg l)[j]?=some (k,v)):v=true:=by
 obtain ⟨x,_,e⟩:=List.mem_map.1 (List.mem_of_getElem? h);injection e with _ e
 exact e.symm
def Fy (l1 l2:List Lk):Prop:=l1.length=l2.length∧∀x∈l1,x∈l2
noncomputable instance (l1 l2:List Lk):Decidable (Fy l1 l2):=Classical.propDecidable _
theorem QJ {M N:MF} {h1 h2:Nat} {l1 l2:List Lk} (hM:M h1=some (.map none (CF l1))) (hN:N h2=some (.map none (CF l2))):AR Try.prog 45 [.d (mD h1),.d (mD h2)] [(40,[.multi M]),(41,[.multi N])] fun r H'=>r= .d (An (decide (Fy l1 l2)))∧H'=[(40,[.multi M]),(41,[.multi N])]:=by
 refine DA Try.func45 Z Z Try.ntmps45 Z Z Z fun F hF=>(AF (AI ?_));refine AD Z Z (AG (AF (AF (AI (AC Z Z (J (EE (f:=40) (n:=l1.length) Z Z hM (by simp [Aa]) FQ rfl) (AC Z Z (J (EE (f:=41) (n:=l2.length) Z Z hN (by simp [Aa]) FQ rfl) ?_))))))))
 first | refine J (Gt Z Z Z) ?_ | refine J (Gs Z Z Z) ?_ | refine J (GY Z Z Z) ?_ | refine J (Gu Try.underlying3 Z Z Z) ?_ | refine J (Gw Try.underlying3 Z Z Z) ?_ | refine J (st_neqN Try.underlying3 Z Z) ?_ | refine J (Gr Try.underlying3 Z Z) ?_ | refine J (st_neqMz Try.underlying3 Z Z) ?_ | refine J (Gv Try.underlying3 Z Z Z) ?_ | refine J (st_neqFN Try.underlying3 Z Z) ?_
 refine AG ?_
 first | refine BC rfl (fun h13=>?_) (fun h13=>?_) | refine Az rfl (fun h13=>?_) (fun h13=>?_)
 ·refine AF (AI (AD Z Z (AG (At ?_))));exact ⟨_,[40,41],_,Ar rfl,rfl,rfl,by rw [decide_eq_false fun hh:Fy l1 l2=>h13 (congrArg Int.ofNat hh.1)],rfl⟩
 ·refine Ak (AF (AF ?_));have hll:l1.length=l2.length:=Int.ofNat.inj (Classical.not_not.1 h13);refine Zcx 40 h1 rfl hM (fun _ _=>rfl) fun B c hB hBn=>?_
  obtain ⟨M1,hM1⟩:∃M1,BD M h1 (.map (some (B,c)) (CF l1))=M1:=⟨_,rfl⟩
  rw [hM1];have h1m:M1 h1=some (.map (some (B,c)) (CF l1)):=by rw [←hM1,DX]
  refine AI (AC Z Z (U (Zct 1 (f:=40) Z Z (h1m) rfl FQ Z Z Z Z) (AG (Bc (F4 (α:=List Nat×List Lk) (fun q=>⟨34,[(1,.d (mD h2)),(15,(.ptr 1 0 0))],[(1,[.iter 40 h1 c q.1]),(40,[.multi M1]),(41,[.multi N])]⟩) (fun q=>(q.2++(B4 (Cg l1) B q.1).map Prod.fst).Perm l1∧∀x∈q.2,x∈l2) (fun q=>(B4 (Cg l1) B q.1).length) (([],[])) (⟨by show ([]++(B4 (Cg l1) B []).map Prod.fst).Perm _;rw [Zcw (by simpa [Aa] using hB),Nr];exact List.Perm.refl _,fun x hx=>by cases hx⟩) (BK hF [1,40,41] Z Z ⟨rfl,rfl,trivial⟩) ?_)))));rintro ⟨seen,acc⟩ ⟨hP,hA⟩;dsimp only at hP hA⊢;refine AF (AI (DC (Cg l1) Z Z Z (h1m) rfl (fun hl16=>?_) (fun j16 b16 k16 v16 hm16 hb16 hB16 hp16=>⟨_,rfl,?_⟩)))
  ·rw [hl16] at hP;refine CX 40 h1 rfl h1m rfl ?_;rw [show BD M1 h1 (.map none (CF l1))=M by rw [←hM1,Ml];exact CD hM]
   first | refine J (B5 Z Z Z) ?_ | refine J (B6 Z Z Z) ?_
   refine AG (AF (D0 Z Z (ET (AF ?_))))
   have hs:Fy l1 l2:=⟨hll,fun x hx=>hA x ((show acc.Perm l1 by simpa using hP).mem_iff.2 hx)⟩
   refine AI (AD Z Z (AG (At ?_)));exact ⟨_,[40,41],_,Ar rfl,rfl,rfl,by rw [decide_eq_true hs],rfl⟩
  ·first | refine J (B5 Z Z Z) ?_ | refine J (B6 Z Z Z) ?_
   refine AG (AF (JM Z Z (Ak (Bc (AF ?_)))));have hvt:=lkM_val hm16;subst hvt;have hk1:k16∈l1:=MM hm16;refine AI (J (Zcv (Cg l1) j16 b16 Z Z Z (h1m) hm16 hb16 rfl) ?_)
   first | refine J (B5 Z Z Z) ?_ | refine J (B6 Z Z Z) ?_
   first | refine J (B5 Z Z Z) ?_ | refine J (B6 Z Z Z) ?_
   refine U (Hm 5 LQ Z Z Z Z) (U (Bq Z Z Z Z Z Z Z sz39) (AD Z Z (AG (AF (AI (AC Z Z ?_))))))
   first | refine J (BS Z Z Aj rfl) ?_ | refine J (BQ Z Z Aj Z Z Z) ?_ | refine J (BR Z Z (rfl) rfl Aj rfl) ?_
   refine J (GG (f:=41) (Cg l2) k16 false Z Z hN rfl FQ Hs za4 rfl) ?_;rw [IG,lkM_has];refine AC Z Z ?_
   first | refine J (B5 Z Z Z) ?_ | refine J (B6 Z Z Z) ?_
   first | refine J (B5 Z Z Z) ?_ | refine J (B6 Z Z Z) ?_
   refine AD Z Z (AD Z Z (AG (AF (AI (AC Z Z ?_)))))
   first | refine J (EZ Z Z) ?_ | refine J (EY Z Z) ?_
   refine AC Z Z ?_
   first | refine JU 29 rfl (fun h29=>?_) (fun h29=>?_) | refine IR 29 rfl (fun h29=>?_) (fun h29=>?_)
   ·refine BA Z Z Z Z (BA Z Z Z Z (BA Z Z Z Z (J (Fp Z Z Z Z) (AG (JM Z Z (AF (IN 40 h1 rfl h1m rfl ?_)))))));rw [show BD M1 h1 (.map none (CF l1))=M by rw [←hM1,Ml];exact CD hM];refine AI (AD Z Z (AG (At ?_)));exact ⟨_,[40,41],_,Ar rfl,rfl,rfl,by rw [decide_eq_false fun hh:Fy l1 l2=>by first | exact h29 (hh.2 _ hk1) | exact h33 (by simp [hh.2 _ hk1])],rfl⟩
   ·refine A1 Z Z Z (AC Z Z (A1 Z Z Z (AC Z Z (A1 Z Z Z ?_))))
    first | refine J (Gt Z Z Z) ?_ | refine J (Gs Z Z Z) ?_ | refine J (GY Z Z Z) ?_ | refine J (Gu Try.underlying4 Z Z Z) ?_ | refine J (Gw Try.underlying4 Z Z Z) ?_ | refine J (st_neqN Try.underlying4 Z Z) ?_ | refine J (Gr Try.underlying4 Z Z) ?_ | refine J (st_neqMz Try.underlying4 Z Z) ?_ | refine J (Gv Try.underlying4 Z Z Z) ?_ | refine J (st_neqFN Try.underlying4 Z Z) ?_
    refine J (Fo Z Z Z Z) (AG ?_)
    first | refine BC rfl (fun h33=>?_) (fun h33=>?_) | refine Az rfl (fun h33=>?_) (fun h33=>?_)
    ·refine AF (IN 40 h1 rfl h1m rfl ?_);rw [show BD M1 h1 (.map none (CF l1))=M by rw [←hM1,Ml];exact CD hM];refine AI (AD Z Z (AG (At ?_)));exact ⟨_,[40,41],_,Ar rfl,rfl,rfl,by rw [decide_eq_false fun hh:Fy l1 l2=>by first | exact h29 (hh.2 _ hk1) | exact h33 (by simp [hh.2 _ hk1])],rfl⟩
    ·refine Ak ?_;exact ⟨(seen++ [b16],acc++ [k16]),⟨DL hP (y:=[k16]) (by simpa using hp16.map Prod.fst),fun x hx=>(List.mem_append.1 hx).elim (hA x) fun e=>by rw [List.mem_singleton.1 e];exact Classical.not_not.1 h29⟩,by show (B4 (Cg l1) B (seen++ [b16])).length<(B4 (Cg l1) B seen).length;rw [hp16.length_eq];exact Nat.lt_succ_self _,BK hF [1,40,41] rfl (rfl) ⟨rfl,rfl,trivial⟩⟩
theorem Qa {M N:MF} {h1 h2:Nat} {l1 l2:List Lk} (hM:M h1=some (.map none (CF l1))) (hN:N h2=some (.map none (CF l2))):AR Try.prog 44 [.d (mD h1),.d (mD h2)] [(40,[.multi M]),(41,[.multi N])] fun r H'=>r= .d (An (decide (Fy l1 l2)))∧H'=[(40,[.multi M]),(41,[.multi N])]:=by
 refine DA Try.func44 Z Z Try.ntmps44 Z Z Z fun F hF=>(AF (AI (AD Z Z ?_)));refine AG (AF (AI (AC Z Z (AC Z Z (U (F5 (QJ hM hN) rfl [40,41] ⟨rfl,rfl,trivial⟩ Z Z Z Z Z Z Z Z Z) (AD Z Z (AG (At ?_))))))));exact ⟨_,[40,41],_,Ar rfl,rfl,rfl,rfl,rfl⟩
def H8 (E E2:List (St×Nat)) (lk lk2:Nat ->List Lk):Prop:=E.length=E2.length∧∀x∈E.map Prod.fst,∃p∈E,∃q∈E2,p.1=x∧q.1=x∧Fy (lk p.2) (lk2 q.2)
noncomputable instance (E E2:List (St×Nat)) (lk lk2:Nat ->List Lk):Decidable (H8 E E2 lk lk2):=Classical.propDecidable _
theorem eE_has (E:List (St×Nat)) (x:St):Gg (eE E) x=decide (x∈E.map Prod.fst):=by
 rw [Bool.eq_iff_iff,Bv,GT,decide_eq_true_eq]
theorem II {E:List (St×Nat)} (hn:(E.map Prod.fst).Nodup) {p q:St×Nat} (hp:p∈E) (hq:q∈E) (e:p.1=q.1):p=q:=by
 have h1:=KY hn hp;have h2:=KY hn hq;rw [e,h2] at h1;injection h1 with h1
 exact Prod.ext e h1.symm
theorem Qb {M N:MF} {b b2 m m2:Nat} {E E2:List (St×Nat)} {lk lk2:Nat ->List Lk} (hr:LR M b m E lk) (hr2:LR N b2 m2 E2 lk2) (hk1:(E.map Prod.fst).Nodup) (hk2:(E2.map Prod.fst).Nodup):AR Try.prog 43 [.d (mD m),.d (mD m2),.d (.raw (.func (.func 44) ⟨[]⟩ ⟨[]⟩))] [(40,[.multi M]),(41,[.multi N])] fun r H'=>r= .d (An (decide (H8 E E2 lk lk2)))∧H'=[(40,[.multi M]),(41,[.multi N])]:=by
 have hpm:∀p∈E,p.2≠m:=fun p hp e=>hr.ne (by rw [←e];exact List.mem_map_of_mem hp);refine DA Try.func43 Z Z Try.ntmps43 Z Z Z fun F hF=>(AF (AI ?_));refine AD Z Z (AG (AF (AF (AI (AC Z Z (J (EE (f:=40) (n:=E.length) Z Z hr.top (by simp [Aa]) Bs rfl) (AC Z Z (J (EE (f:=41) (n:=E2.length) Z Z hr2.top (by simp [Aa]) Bs rfl) ?_))))))))
 first | refine J (Gt Z Z Z) ?_ | refine J (Gs Z Z Z) ?_ | refine J (GY Z Z Z) ?_ | refine J (Gu Try.underlying3 Z Z Z) ?_ | refine J (Gw Try.underlying3 Z Z Z) ?_ | refine J (st_neqN Try.underlying3 Z Z) ?_ | refine J (Gr Try.underlying3 Z Z) ?_ | refine J (st_neqMz Try.underlying3 Z Z) ?_ | refine J (Gv Try.underlying3 Z Z Z) ?_ | refine J (st_neqFN Try.underlying3 Z Z) ?_
 refine AG ?_
 first | refine BC rfl (fun h15=>?_) (fun h15=>?_) | refine Az rfl (fun h15=>?_) (fun h15=>?_)
 ·refine AF (AI (AD Z Z (AG (At ?_))));exact ⟨_,[40,41],_,Ar rfl,rfl,rfl,by rw [decide_eq_false fun hh:H8 E E2 lk lk2=>h15 (congrArg Int.ofNat hh.1)],rfl⟩
 ·refine Ak (AF (AF ?_));have hll:E.length=E2.length:=Int.ofNat.inj (Classical.not_not.1 h15);refine Zcx 40 m rfl hr.top (fun _ _=>rfl) fun B c hB hBn=>?_
  obtain ⟨M1,hM1⟩:∃M1,BD M m (.map (some (B,c)) (CP E))=M1:=⟨_,rfl⟩
  rw [hM1];have h1m:M1 m=some (.map (some (B,c)) (CP E)):=by rw [←hM1,DX]
  have h1s:∀p∈E,M1 p.2=some (.map none (CF (lk p.2))):=fun p hp=>by rw [←hM1,Do (hpm p hp)];exact hr.sub p hp
  refine AI (AC Z Z (U (Zct 1 (f:=40) Z Z (h1m) rfl Bs Z Z Z Z) (AG (Bc (F4 (α:=List Nat×List St) (fun q=>⟨38,[(1,.d (mD m2)),(2,.d (.raw (.func (.func 44) ⟨[]⟩ ⟨[]⟩))),(17,(.ptr 1 0 0))],[(1,[.iter 40 m c q.1]),(40,[.multi M1]),(41,[.multi N])]⟩) (fun q=>(q.2++(B4 (eE E) B q.1).map Prod.fst).Perm (E.map Prod.fst)∧∀x∈q.2,∃p∈E,∃q∈E2,p.1=x∧q.1=x∧Fy (lk p.2) (lk2 q.2)) (fun q=>(B4 (eE E) B q.1).length) (([],[])) (⟨by show ([]++(B4 (eE E) B []).map Prod.fst).Perm _;rw [Zcw (by simpa [Aa] using hB),GT];exact List.Perm.refl _,fun x hx=>by cases hx⟩) (BK hF [1,40,41] Z Z ⟨rfl,rfl,rfl,trivial⟩) ?_)))));rintro ⟨seen,acc⟩ ⟨hP,hA⟩;dsimp only at hP hA⊢;refine AF (AI (DC (eE E) Z Z Z (h1m) rfl (fun hl18=>?_) (fun j18 b18 k18 v18 hm18 hb18 hB18 hp18=>⟨_,rfl,?_⟩)))
  ·rw [hl18] at hP;refine CX 40 m rfl h1m rfl ?_;rw [show BD M1 m (.map none (CP E))=M by rw [←hM1,Ml];exact CD hr.top]
   first | refine J (B5 Z Z Z) ?_ | refine J (B6 Z Z Z) ?_
   refine AG (AF (D0 Z Z (ET (AF ?_))))
   have hs:H8 E E2 lk lk2:=⟨hll,fun x hx=>hA x ((show acc.Perm (E.map Prod.fst) by simpa using hP).mem_iff.2 hx)⟩
   refine AI (AD Z Z (AG (At ?_)));exact ⟨_,[40,41],_,Ar rfl,rfl,rfl,by rw [decide_eq_true hs],rfl⟩
  ·first | refine J (B5 Z Z Z) ?_ | refine J (B6 Z Z Z) ?_
   refine AG (AF (JM Z Z (Ak (Bc (AF ?_)))));obtain ⟨hd,hpe,hve⟩:=fSq hm18;subst hve;refine AI (J (Zcv (eE E) j18 b18 Z Z Z (h1m) hm18 hb18 rfl) ?_)
   first | refine J (B5 Z Z Z) ?_ | refine J (B6 Z Z Z) ?_
   first | refine J (B5 Z Z Z) ?_ | refine J (B6 Z Z Z) ?_
   refine AD Z Z (AD Z Z (AG (AF (AI (AC Z Z (AC Z Z (J (GG (f:=41) (eE E2) k18 none Z Z hr2.top rfl Bs EX EB rfl) ?_)))))));rw [eE_has];refine AC Z Z ?_
   first | refine J (B5 Z Z Z) ?_ | refine J (B6 Z Z Z) ?_
   first | refine J (B5 Z Z Z) ?_ | refine J (B6 Z Z Z) ?_
   refine AD Z Z (AD Z Z (AG (AF (OC 1 40 95 96 rfl h1m Z Z Z Z Z Z Z Z Z Z (AI (AC Z Z ?_))))))
   first | refine J (EZ Z Z) ?_ | refine J (EY Z Z) ?_
   refine AC Z Z ?_
   first | refine JU 31 rfl (fun h31=>?_) (fun h31=>?_) | refine IR 31 rfl (fun h31=>?_) (fun h31=>?_)
   ·refine BA Z Z Z Z (BA Z Z Z Z ?_);refine BA Z Z Z Z (BA Z Z Z Z (BA Z Z Z Z (J (Fp Z Z Z Z) (HM 1 40 95 96 rfl h1m Z Z Z Z Z Z Z (AG (JM Z Z (AF (IN 40 m rfl h1m rfl ?_))))))));rw [show BD M1 m (.map none (CP E))=M by rw [←hM1,Ml];exact CD hr.top];refine AI (AD Z Z (AG (At ?_)));exact ⟨_,[40,41],_,Ar rfl,rfl,rfl,by rw [decide_eq_false fun hh:H8 E E2 lk lk2=>by first | exact h31 (by obtain ⟨p,hp,q,hq,e1,e2,_⟩:=hh.2 k18 (List.mem_map_of_mem (f:=Prod.fst) hpe);rw [←e2];exact List.mem_map_of_mem hq) | exact h37 (by obtain ⟨p,hp,q,hq,e1,e2,e3⟩:=hh.2 k18 (List.mem_map_of_mem (f:=Prod.fst) hpe);rw [II hk1 hp hpe e1,II hk2 hq hm2 e2] at e3;exact e3)],rfl⟩
   ·refine A1 Z Z Z (AC Z Z (A1 Z Z Z (AC Z Z (A1 Z Z Z (AC Z Z ?_)))));obtain ⟨q2,hq2,hq2e⟩:=List.mem_map.1 (Classical.not_not.1 h31);have hm2:(k18,q2.2)∈E2:=by rw [←hq2e];exact hq2
    rw [KY hk2 hm2];refine A1 Z Z Z (U (Ji (Qa (h1s _ hpe) (hr2.sub _ hm2)) rfl [40,41] ⟨rfl,rfl,trivial⟩ Z Z Z Z Z Z Z Z Z) (A1 Z Z Z ?_))
    first | refine J (EZ Z Z) ?_ | refine J (EY Z Z) ?_
    refine J (Fo Z Z Z Z) (HM 1 40 95 96 rfl h1m Z Z Z Z Z Z Z (AG ?_))
    first | refine BC rfl (fun h37=>?_) (fun h37=>?_) | refine Az rfl (fun h37=>?_) (fun h37=>?_)
    ·refine AF (IN 40 m rfl h1m rfl ?_);rw [show BD M1 m (.map none (CP E))=M by rw [←hM1,Ml];exact CD hr.top];refine AI (AD Z Z (AG (At ?_)));exact ⟨_,[40,41],_,Ar rfl,rfl,rfl,by rw [decide_eq_false fun hh:H8 E E2 lk lk2=>by first | exact h31 (by obtain ⟨p,hp,q,hq,e1,e2,_⟩:=hh.2 k18 (List.mem_map_of_mem (f:=Prod.fst) hpe);rw [←e2];exact List.mem_map_of_mem hq) | exact h37 (by obtain ⟨p,hp,q,hq,e1,e2,e3⟩:=hh.2 k18 (List.mem_map_of_mem (f:=Prod.fst) hpe);rw [II hk1 hp hpe e1,II hk2 hq hm2 e2] at e3;exact e3)],rfl⟩
    ·refine Ak ?_;exact ⟨(seen++ [b18],acc++ [k18]),⟨DL hP (y:=[k18]) (by simpa using hp18.map Prod.fst),fun x hx=>(List.mem_append.1 hx).elim (hA x) fun e=>by rw [List.mem_singleton.1 e];exact ⟨_,hpe,_,hm2,rfl,rfl,Classical.not_not.1 h37⟩⟩,by show (B4 (eE E) B (seen++ [b18])).length<(B4 (eE E) B seen).length;rw [hp18.length_eq];exact Nat.lt_succ_self _,BK hF [1,40,41] rfl (rfl) ⟨rfl,rfl,rfl,trivial⟩⟩
def I4 (w w2:Ws):Prop:=w.R=w2.R∧∀l,l∈w.K↔l∈w2.K
noncomputable instance (w w2:Ws):Decidable (I4 w w2):=Classical.propDecidable _
theorem Jn {l1 l2:List Lk} (h1:l1.Nodup) (h2:l2.Nodup):Fy l1 l2↔∀x,x∈l1↔x∈l2:=by
 constructor
 ·rintro ⟨hl,hs⟩ x;refine ⟨hs x,fun hx=>Classical.byContradiction fun hn=>?_⟩;have:=(List.nodup_cons.2 ⟨hn,h1⟩).length_le_of_subset (l₂:=l2) fun y hy=>(List.mem_cons.1 hy).elim (fun e=>e▸hx) (hs y);rw [List.length_cons] at this;omega
 ·intro h;exact ⟨((List.perm_ext_iff_of_nodup h1 h2).2 h).length_eq,fun x hx=>(h x).1 hx⟩
theorem O0 {E E2:List (St×Nat)} {lk lk2:Nat ->List Lk} {w w2:Ws} (h:LW E lk w) (h2:LW E2 lk2 w2) (hw:B7 w) (hw2:B7 w2):H8 E E2 lk lk2↔I4 w w2:=by
 constructor
 ·rintro ⟨hl,hs⟩
  have hsub:∀x∈E.map Prod.fst,x∈E2.map Prod.fst:=fun x hx=>by
   obtain ⟨p,_,q,hq,_,e,_⟩:=hs x hx;rw [←e];exact List.mem_map_of_mem hq
  have hR:w.R=w2.R:=IB hw.srt hw2.srt fun x=>by
   rw [←h.ks x,←h2.ks x];refine ⟨hsub x,fun hx=>Classical.byContradiction fun hn=>?_⟩;have:=(List.nodup_cons.2 ⟨hn,h.kd⟩).length_le_of_subset (l₂:=E2.map Prod.fst) fun y hy=>(List.mem_cons.1 hy).elim (fun e=>e▸hx) (hsub y);rw [List.length_cons,List.length_map,List.length_map] at this;omega
  have key:∀x∈w.R,∀t r,(⟨x,t,r⟩:Lw)∈w.K↔(⟨x,t,r⟩:Lw)∈w2.K:=fun x hx t r=>by
   obtain ⟨p,hp,q,hq,e1,e2,hL⟩:=hs x ((h.ks x).2 hx);have h3:=(Jn (h.ld p hp) (h2.ld q hq)).1 hL ⟨t,r⟩;have h4:=h.ls p hp ⟨t,r⟩;have h5:=h2.ls q hq ⟨t,r⟩;rw [e1] at h4;rw [e2] at h5;exact h4.symm.trans (h3.trans h5)
  exact ⟨hR,fun l=>⟨fun hl=>(key l.f (hw.lk l hl).1 l.t l.r).1 hl,fun hl=>(key l.f (by rw [hR];exact (hw2.lk l hl).1) l.t l.r).2 hl⟩⟩
 ·rintro ⟨hR,hK⟩;refine ⟨by rw [h.len hw,h2.len hw2,hR],fun x hx=>?_⟩;obtain ⟨p,hp,e1⟩:=List.mem_map.1 hx;obtain ⟨q,hq,e2⟩:=List.mem_map.1 ((h2.ks x).2 (by rw [←hR];exact (h.ks x).1 hx));refine ⟨p,hp,q,hq,e1,e2,(Jn (h.ld p hp) (h2.ld q hq)).2 fun l=>?_⟩;rw [h.ls p hp l,h2.ls q hq l,e1,e2];exact hK _
theorem equal_c {M N:MF} {b b2:Nat} {w w2:Ws} (h:BU M b w) (h2:BU N b2 w2) (hw:B7 w) (hw2:B7 w2):AR Try.prog 28 [.d (pD b 0),.d (pD b2 0)] [(40,[.multi M]),(41,[.multi N])] fun r H'=>r= .d (An (decide (I4 w w2)))∧H'=[(40,[.multi M]),(41,[.multi N])]:=by
 obtain ⟨m,E,lk,hr,hl⟩:=h;obtain ⟨m2,E2,lk2,hr2,hl2⟩:=h2;refine DA Try.func28 Z Z Try.ntmps28 Z Z Z fun F hF=>(AF (AI (AD Z Z (AG (AF (AF (AI (AC Z Z ?_))))))))
 first | refine J (Er Z Z Z) ?_ | refine J (FF Z Z Z) ?_ | refine J (En Z Z Z) ?_ | refine J (Et Try.underlying23 Z Z Z) ?_ | refine J (Ew Try.underlying23 Z Z Z) ?_ | refine J (Ev Try.underlying23 Z Z) ?_ | refine J (FE Try.underlying23 Z Z) ?_ | refine J (Ez Try.underlying23 Z Z) ?_ | refine J (Eu Try.underlying23 Z Z Z) ?_ | refine J (Ey Try.underlying23 Z Z) ?_
 refine AC Z Z (Ds 7 rfl (rfl) (A1 Z Z Z (AC Z Z (A1 Z Z Z ?_))))
 first | refine J (Er Z Z Z) ?_ | refine J (FF Z Z Z) ?_ | refine J (En Z Z Z) ?_ | refine J (Et Try.underlying23 Z Z Z) ?_ | refine J (Ew Try.underlying23 Z Z Z) ?_ | refine J (Ev Try.underlying23 Z Z) ?_ | refine J (FE Try.underlying23 Z Z) ?_ | refine J (Ez Try.underlying23 Z Z) ?_ | refine J (Eu Try.underlying23 Z Z Z) ?_ | refine J (Ey Try.underlying23 Z Z) ?_
 refine J (Fo Z Z Z Z) (AG (D0 rfl (rfl) (Ak (AF (FH [[],[0],[0,1],[0,1,2],[],[4],[4,5],[4,5,6],[0,1,2,3,4,5,6,7],[0,1,2,3,4,5,6,7,8]] mixed rfl (Dk ?_))))))
 first | refine AE [0] [] Z Z (fun _=>AB (Ac Z Z)) ?_ | refine AH [0] Z Z (fun _=>AB (Ac Z Z)) ?_
 first | refine AE [14] [] Z Z (fun _=>AB (FC Z Z)) ?_ | refine AH [14] Z Z (fun _=>AB (FC Z Z)) ?_ | refine AE [14] [] Z Z (fun _=>AB (FA Z Z)) ?_ | refine AH [14] Z Z (fun _=>AB (FA Z Z)) ?_ | refine AE [14] [] Z Z (fun _=>AB (FD Z Z)) ?_ | refine AH [14] Z Z (fun _=>AB (FD Z Z)) ?_ | refine AE [14] [] Z Z (fun _=>AB (FB Z Z)) ?_ | refine AH [14] Z Z (fun _=>AB (FB Z Z)) ?_
 first | refine AE [15] [] Z Z (fun _=>AB (A4 rfl A0 Z Z Z)) ?_ | refine AH [15] Z Z (fun _=>AB (A4 rfl A0 Z Z Z)) ?_ | refine AE [15] [] Z Z (fun _=>AB (A6 rfl A0 Z Z Z)) ?_ | refine AH [15] Z Z (fun _=>AB (A6 rfl A0 Z Z Z)) ?_ | refine AE [15] [] Z Z (fun _=>AB (A7 rfl A0 Z Z Z)) ?_ | refine AH [15] Z Z (fun _=>AB (A7 rfl A0 Z Z Z)) ?_ | refine AE [15] [] Z Z (fun _=>AB (A5 rfl A0 Z Z Z)) ?_ | refine AH [15] Z Z (fun _=>AB (A5 rfl A0 Z Z Z)) ?_ | refine AE [15] [] Z Z (fun _=>AB (A3 rfl A0 Z Z Z)) ?_ | refine AH [15] Z Z (fun _=>AB (A3 rfl A0 Z Z Z)) ?_
 refine AE [16] [40] Z Z (fun _=>AB (Fu (f:=40) Z Z (hr.cell) rfl Bk rfl)) ?_
 first | refine AE [1] [] Z Z (fun _=>AB (Ac Z Z)) ?_ | refine AH [1] Z Z (fun _=>AB (Ac Z Z)) ?_
 first | refine AE [18] [] Z Z (fun _=>AB (FC Z Z)) ?_ | refine AH [18] Z Z (fun _=>AB (FC Z Z)) ?_ | refine AE [18] [] Z Z (fun _=>AB (FA Z Z)) ?_ | refine AH [18] Z Z (fun _=>AB (FA Z Z)) ?_ | refine AE [18] [] Z Z (fun _=>AB (FD Z Z)) ?_ | refine AH [18] Z Z (fun _=>AB (FD Z Z)) ?_ | refine AE [18] [] Z Z (fun _=>AB (FB Z Z)) ?_ | refine AH [18] Z Z (fun _=>AB (FB Z Z)) ?_
 first | refine AE [19] [] Z Z (fun _=>AB (A4 rfl A0 Z Z Z)) ?_ | refine AH [19] Z Z (fun _=>AB (A4 rfl A0 Z Z Z)) ?_ | refine AE [19] [] Z Z (fun _=>AB (A6 rfl A0 Z Z Z)) ?_ | refine AH [19] Z Z (fun _=>AB (A6 rfl A0 Z Z Z)) ?_ | refine AE [19] [] Z Z (fun _=>AB (A7 rfl A0 Z Z Z)) ?_ | refine AH [19] Z Z (fun _=>AB (A7 rfl A0 Z Z Z)) ?_ | refine AE [19] [] Z Z (fun _=>AB (A5 rfl A0 Z Z Z)) ?_ | refine AH [19] Z Z (fun _=>AB (A5 rfl A0 Z Z Z)) ?_ | refine AE [19] [] Z Z (fun _=>AB (A3 rfl A0 Z Z Z)) ?_ | refine AH [19] Z Z (fun _=>AB (A3 rfl A0 Z Z Z)) ?_
 refine AE [20] [41] Z Z (fun _=>AB (Fu (f:=41) Z Z hr2.cell rfl Bk rfl)) (Dl 8 Z Z Z (B9 9 Z Z (U (F5 (Qb hr hr2 hl.kd hl2.kd) rfl [40,41] ⟨rfl,rfl,trivial⟩ Z Z Z Z Z Z Z Z Z) (AG ⟨rfl,?_⟩))));refine B9 10 Z Z (AD Z Z (AG ⟨rfl,?_⟩));refine Em (At ?_);exact ⟨_,[40,41],_,Ar rfl,rfl,rfl,by rw [show decide (H8 E E2 lk lk2)=decide (I4 w w2) from decide_eq_decide.2 (O0 hl hl2 hw hw2)],rfl⟩
end Go.Proofs.Ytlmedakidpaeeaa
