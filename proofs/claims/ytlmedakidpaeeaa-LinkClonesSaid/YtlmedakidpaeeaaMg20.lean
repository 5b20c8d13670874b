/- Layer 27: Link, walked. -/
import Derived.Test.YtlmedakidpaeeaaMg19
namespace Go.Proofs.Ytlmedakidpaeeaa
open Go.RowKit
set_option maxRecDepth 100000
theorem EQ {s:AS}:∀(i:Nat) a v,([]:List AV)[i]?=some a ->([]:List Value)[i]?=some v ->H9 s a v:=fun i a v h=>by simp at h
theorem IX {s:AS} {a:AV} {v:Value} {ars:List AV} {vs:List Value} (h:H9 s a v) (hr:∀(i:Nat) a v,ars[i]?=some a ->vs[i]?=some v ->H9 s a v):∀(i:Nat) a' v',(a::ars)[i]?=some a' ->(v::vs)[i]?=some v' ->H9 s a' v':=fun i a' v' h1 h2=>by
 cases i with
 | zero=>simp at h1 h2;subst h1 h2;exact h
 | succ i=>exact hr i a' v' (by simpa using h1) (by simpa using h2)
theorem Q4 {w:Ws} {l:Lw} (h1:l.t≠0) (h2:l.t≠1):lnkW w l=(w,11):=by unfold lnkW;rw [if_pos ⟨h1,h2⟩]
theorem MN {w:Ws} {l:Lw} (ht:l.t=0∨l.t=1) (h:l.f∉w.R∨l.r∉w.R):lnkW w l=(w,9):=by unfold lnkW;rw [if_neg (by omega),if_pos h]
theorem KK {w:Ws} {l:Lw} (ht:l.t=0∨l.t=1) (h1:l.f∈w.R) (h2:l.r∈w.R) (h:l.f=l.r):lnkW w l=(w,26):=by unfold lnkW;rw [if_neg (by omega),if_neg fun hh=>hh.elim (· h1) (· h2),if_pos h]
theorem lnk7 {w:Ws} {l:Lw} (ht:l.t=0∨l.t=1) (h1:l.f∈w.R) (h2:l.r∈w.R) (h3:l.f≠l.r) (h:l∈w.K):lnkW w l=(w,7):=by unfold lnkW;rw [if_neg (by omega),if_neg fun hh=>hh.elim (· h1) (· h2),if_neg h3,if_pos h]
theorem NQ {w:Ws} {l:Lw} (ht:l.t=0∨l.t=1) (h1:l.f∈w.R) (h2:l.r∈w.R) (h3:l.f≠l.r) (h4:l∉w.K):lnkW w l=if acyW (BW w l)=true then (BW w l,0) else (w,26):=by unfold lnkW;rw [if_neg (by omega),if_neg fun hh=>hh.elim (· h1) (· h2),if_neg h3,if_neg h4]
theorem Ku {M:MF} {b:Nat} {w:Ws} (h:BR M b w) (hw:BV w) (hK:w.K.length≤999999) (l:Lw):AR Try.prog 29 [.d (pD b 0),.d (AZ l.f),.d (lkD ⟨l.t,l.r⟩)] [(40,[.multi M])] fun r H'=>∃M',r= .d (Bv (lnkW w l).2)∧H'=[(40,[.multi M'])]∧BR M' b (lnkW w l).1:=by
 have hrep:=h;obtain ⟨m,E,lk,hr,hl⟩:=h;refine RY Try.func29 Z Z Try.ntmps29 Z Z Z fun F Fi hF hrnd hlo hR hD=>?_
 first | refine AG ?_ | refine CA hR ?_
 refine AI (U (IG 910 Z Z Z Z Z Z Z) (U (IG 911 Z Z Z Z Z Z Z) (U (IG 912 Z Z Z Z Z Z Z) (U (HG 913 zl25 Z Z Z Z) (AF ?_)))))
 first | refine AG ?_ | refine CA hR ?_
 refine B7 ?_
 first | refine AG ?_ | refine CA hR ?_
 refine AI ?_
 first | refine J (AX Z Z BG rfl) ?_ | refine J (AU Z Z Z BG rfl) ?_ | refine J (AW Z Z (rfl) rfl BG rfl) ?_
 first | refine J (EZ Z Z Z) ?_ | refine J (Ea Z Z Z) ?_ | refine J (EF Z Z Z) ?_ | refine J (E0 Try.underlying23 Z Z Z) ?_ | refine J (E5 Try.underlying23 Z Z Z) ?_ | refine J (E4 Try.underlying23 Z Z) ?_ | refine J (E9 Try.underlying23 Z Z) ?_ | refine J (E8 Try.underlying23 Z Z) ?_ | refine J (E3 Try.underlying23 Z Z Z) ?_ | refine J (E7 Try.underlying23 Z Z) ?_
 refine AE Z Z (AF (D4 rfl (rfl) ?_))
 first | refine AG ?_ | refine CA hR ?_
 refine AI ?_
 first | refine J (A1 rfl IF Z Z Z) ?_ | refine J (A3 rfl IF Z Z Z) ?_ | refine J (A4 rfl IF Z Z Z) ?_ | refine J (A2 rfl IF Z Z Z) ?_ | refine J (A0 rfl IF Z Z Z) ?_
 first | refine J (AX Z Z Bf rfl) ?_ | refine J (AU Z Z Z Bf rfl) ?_ | refine J (AW Z Z (rfl) rfl Bf rfl) ?_
 first | refine J (G3 Z Z Z) ?_ | refine J (G0 Z Z Z) ?_ | refine J (GX Z Z Z) ?_ | refine J (G4 Try.underlying3 Z Z Z) ?_ | refine J (G6 Try.underlying3 Z Z Z) ?_ | refine J (st_neqN Try.underlying3 Z Z) ?_ | refine J (GZ Try.underlying3 Z Z) ?_ | refine J (st_neqMz Try.underlying3 Z Z) ?_ | refine J (G5 Try.underlying3 Z Z Z) ?_ | refine J (st_neqFN Try.underlying3 Z Z) ?_
 refine AC Z Z ?_
 first | refine JQ 16 rfl (fun h16=>?_) (fun h16=>?_) | refine ID 16 rfl (fun h16=>?_) (fun h16=>?_)
 ·refine A8 Z Z Z ?_
  first | refine J (A1 rfl IF Z Z Z) ?_ | refine J (A3 rfl IF Z Z Z) ?_ | refine J (A4 rfl IF Z Z Z) ?_ | refine J (A2 rfl IF Z Z Z) ?_ | refine J (A0 rfl IF Z Z Z) ?_
  refine A8 Z Z Z ?_
  first | refine J (AX Z Z Bf rfl) ?_ | refine J (AU Z Z Z Bf rfl) ?_ | refine J (AW Z Z (rfl) rfl Bf rfl) ?_
  refine A8 Z Z Z ?_
  first | refine J (G3 Z Z Z) ?_ | refine J (G0 Z Z Z) ?_ | refine J (GX Z Z Z) ?_ | refine J (G4 Try.underlying3 Z Z Z) ?_ | refine J (G6 Try.underlying3 Z Z Z) ?_ | refine J (st_neqN Try.underlying3 Z Z) ?_ | refine J (GZ Try.underlying3 Z Z) ?_ | refine J (st_neqMz Try.underlying3 Z Z) ?_ | refine J (G5 Try.underlying3 Z Z Z) ?_ | refine J (st_neqFN Try.underlying3 Z Z) ?_
  refine J (G1 Z Z Z Z) (AE Z Z (AF ?_))
  first | refine BA rfl (fun h12=>?_) (fun h12=>?_) | refine Az rfl (fun h12=>?_) (fun h12=>?_)
  ·first | refine AG ?_ | refine CA hR ?_
   refine AI (U (Bm Z Z Z Z Z Z Z HK) (AF (Au ?_)));exact ⟨_,[40],_,Aq rfl,rfl,rfl,M,by rw [Q4 h16 h12],rfl,by rw [Q4 h16 h12];exact hrep⟩
  ·first | refine AG ?_ | refine CA hR ?_
   refine AI ?_
   first | refine J (AX Z Z BG rfl) ?_ | refine J (AU Z Z Z BG rfl) ?_ | refine J (AW Z Z (rfl) rfl BG rfl) ?_
   first | refine J (AX Z Z AY rfl) ?_ | refine J (AU Z Z Z AY rfl) ?_ | refine J (AW Z Z (rfl) rfl AY rfl) ?_
   refine U (GD (Iz hrep l.f) rfl [40] ⟨rfl,trivial⟩ Z Z Z Z Z Z Z Z Z) ?_
   first | refine J (EG Z Z) ?_ | refine J (EE Z Z) ?_
   refine AC Z Z ?_
   first | refine JQ 26 rfl (fun h26=>?_) (fun h26=>?_) | refine ID 26 rfl (fun h26=>?_) (fun h26=>?_)
   ·refine Ay Z Z Z Z (Ay Z Z Z Z (Ay Z Z Z Z (Ay Z Z Z Z (Ay Z Z Z Z (J (G1 Z Z Z Z) (AE Z Z (AF (IE Z Z ?_))))))))
    first | refine AG ?_ | refine CA hR ?_
    have h9:lnkW w l=(w,9):=MN (by first | exact .inl (Classical.not_not.1 h16) | exact .inr (Classical.not_not.1 h12)) (by first | exact .inl h26 | exact .inr h21);refine AI (U (Bm Z Z Z Z Z Z Z HK) (AF (Au ?_)));exact ⟨_,[40],_,Aq rfl,rfl,rfl,M,by rw [h9],rfl,by rw [h9];exact hrep⟩
   ·refine A8 Z Z Z ?_
    first | refine J (AX Z Z BG rfl) ?_ | refine J (AU Z Z Z BG rfl) ?_ | refine J (AW Z Z (rfl) rfl BG rfl) ?_
    refine A8 Z Z Z ?_
    first | refine J (A1 rfl CC Z Z Z) ?_ | refine J (A3 rfl CC Z Z Z) ?_ | refine J (A4 rfl CC Z Z Z) ?_ | refine J (A2 rfl CC Z Z Z) ?_ | refine J (A0 rfl CC Z Z Z) ?_
    refine A8 Z Z Z ?_
    first | refine J (AX Z Z AY rfl) ?_ | refine J (AU Z Z Z AY rfl) ?_ | refine J (AW Z Z (rfl) rfl AY rfl) ?_
    refine A8 Z Z Z (U (GD (Iz hrep l.r) rfl [40] ⟨rfl,trivial⟩ Z Z Z Z Z Z Z Z Z) (A8 Z Z Z ?_))
    first | refine J (EG Z Z) ?_ | refine J (EE Z Z) ?_
    refine J (Ey Z Z Z Z) (AE Z Z (AF ?_))
    first | refine BA rfl (fun h21=>?_) (fun h21=>?_) | refine Az rfl (fun h21=>?_) (fun h21=>?_)
    ·first | refine AG ?_ | refine CA hR ?_
     have h9:lnkW w l=(w,9):=MN (by first | exact .inl (Classical.not_not.1 h16) | exact .inr (Classical.not_not.1 h12)) (by first | exact .inl h26 | exact .inr h21);refine AI (U (Bm Z Z Z Z Z Z Z HK) (AF (Au ?_)));exact ⟨_,[40],_,Aq rfl,rfl,rfl,M,by rw [h9],rfl,by rw [h9];exact hrep⟩
    ·first | refine AG ?_ | refine CA hR ?_
     have ht:l.t=0∨l.t=1:=by first | exact .inl (Classical.not_not.1 h16) | exact .inr (Classical.not_not.1 h12)
     have hfR:l.f∈w.R:=Classical.not_not.1 h26;have hrR:l.r∈w.R:=Classical.not_not.1 h21;refine AI ?_
     first | refine J (AX Z Z AY rfl) ?_ | refine J (AU Z Z Z AY rfl) ?_ | refine J (AW Z Z (rfl) rfl AY rfl) ?_
     first | refine J (A1 rfl CC Z Z Z) ?_ | refine J (A3 rfl CC Z Z Z) ?_ | refine J (A4 rfl CC Z Z Z) ?_ | refine J (A2 rfl CC Z Z Z) ?_ | refine J (A0 rfl CC Z Z Z) ?_
     first | refine J (AX Z Z AY rfl) ?_ | refine J (AU Z Z Z AY rfl) ?_ | refine J (AW Z Z (rfl) rfl AY rfl) ?_
     first | refine J (EZ Z Z Z) ?_ | refine J (Ea Z Z Z) ?_ | refine J (EF Z Z Z) ?_ | refine J (E0 Try.underlying9 Z Z Z) ?_ | refine J (E5 Try.underlying9 Z Z Z) ?_ | refine J (E4 Try.underlying9 Z Z) ?_ | refine J (E9 Try.underlying9 Z Z) ?_ | refine J (E8 Try.underlying9 Z Z) ?_ | refine J (E3 Try.underlying9 Z Z Z) ?_ | refine J (E7 Try.underlying9 Z Z) ?_
     refine AE Z Z (AF ?_)
     first | refine BA rfl (fun h33=>?_) (fun h33=>?_) | refine Az rfl (fun h33=>?_) (fun h33=>?_)
     ·first | refine AG ?_ | refine CA hR ?_
      refine AI (U (Bm Z Z Z Z Z Z Z HK) (AF (Au ?_)));exact ⟨_,[40],_,Aq rfl,rfl,rfl,M,by rw [KK ht hfR hrR h33],rfl,by rw [KK ht hfR hrR h33];exact hrep⟩
     ·first | refine AG ?_ | refine CA hR ?_
      obtain ⟨hd,hm⟩:=hl.at hfR;refine Ee [[],[0],[0,1],[0,1,2],[],[0,1,2,3,4],[],[0,1,2,3,4,5,6],[0,1,2,3,4,5,6,7]] mixed rfl (DL ?_)
      first | refine AD [3] [] Z Z (fun _=>AB (AX Z Z BG rfl)) ?_ | refine AH [3] Z Z (fun _=>AB (AX Z Z BG rfl)) ?_ | refine AD [3] [] Z Z (fun _=>AB (AU Z Z Z BG rfl)) ?_ | refine AH [3] Z Z (fun _=>AB (AU Z Z Z BG rfl)) ?_ | refine AD [3] [] Z Z (fun _=>AB (AW Z Z (rfl) rfl BG rfl)) ?_ | refine AH [3] Z Z (fun _=>AB (AW Z Z (rfl) rfl BG rfl)) ?_
      first | refine AD [39] [] Z Z (fun _=>AB (FJ Z Z)) ?_ | refine AH [39] Z Z (fun _=>AB (FJ Z Z)) ?_ | refine AD [39] [] Z Z (fun _=>AB (FG Z Z)) ?_ | refine AH [39] Z Z (fun _=>AB (FG Z Z)) ?_ | refine AD [39] [] Z Z (fun _=>AB (FK Z Z)) ?_ | refine AH [39] Z Z (fun _=>AB (FK Z Z)) ?_ | refine AD [39] [] Z Z (fun _=>AB (FH Z Z)) ?_ | refine AH [39] Z Z (fun _=>AB (FH Z Z)) ?_
      first | refine AD [40] [] Z Z (fun _=>AB (A1 rfl A5 Z Z Z)) ?_ | refine AH [40] Z Z (fun _=>AB (A1 rfl A5 Z Z Z)) ?_ | refine AD [40] [] Z Z (fun _=>AB (A3 rfl A5 Z Z Z)) ?_ | refine AH [40] Z Z (fun _=>AB (A3 rfl A5 Z Z Z)) ?_ | refine AD [40] [] Z Z (fun _=>AB (A4 rfl A5 Z Z Z)) ?_ | refine AH [40] Z Z (fun _=>AB (A4 rfl A5 Z Z Z)) ?_ | refine AD [40] [] Z Z (fun _=>AB (A2 rfl A5 Z Z Z)) ?_ | refine AH [40] Z Z (fun _=>AB (A2 rfl A5 Z Z Z)) ?_ | refine AD [40] [] Z Z (fun _=>AB (A0 rfl A5 Z Z Z)) ?_ | refine AH [40] Z Z (fun _=>AB (A0 rfl A5 Z Z Z)) ?_
      first | refine AD [41] [] Z Z (fun _=>AB (Ft (f:=40) Z Z (hr.cell) rfl Bk rfl)) ?_ | refine AH [41] Z Z (fun _=>AB (Ft (f:=40) Z Z (hr.cell) rfl Bk rfl)) ?_
      first | refine AD [4] [] Z Z (fun _=>AB (AX Z Z AY rfl)) ?_ | refine AH [4] Z Z (fun _=>AB (AX Z Z AY rfl)) ?_ | refine AD [4] [] Z Z (fun _=>AB (AU Z Z Z AY rfl)) ?_ | refine AH [4] Z Z (fun _=>AB (AU Z Z Z AY rfl)) ?_ | refine AD [4] [] Z Z (fun _=>AB (AW Z Z (rfl) rfl AY rfl)) ?_ | refine AH [4] Z Z (fun _=>AB (AW Z Z (rfl) rfl AY rfl)) ?_
      first | refine AD [42,43] [] Z Z (fun _=>AB (H8 (f:=40) (eE E) l.f none (some hd) Z Z hr.top rfl Bu Ec EH (K5 hl.kd hm) rfl)) ?_ | refine AH [42,43] Z Z (fun _=>AB (H8 (f:=40) (eE E) l.f none (some hd) Z Z hr.top rfl Bu Ec EH (K5 hl.kd hm) rfl)) ?_
      first | refine AD [5] [] Z Z (fun _=>AB (BN Z Z As rfl)) ?_ | refine AH [5] Z Z (fun _=>AB (BN Z Z As rfl)) ?_ | refine AD [5] [] Z Z (fun _=>AB (BO Z Z As Z Z Z)) ?_ | refine AH [5] Z Z (fun _=>AB (BO Z Z As Z Z Z)) ?_ | refine AD [5] [] Z Z (fun _=>AB (BP Z Z (rfl) rfl As rfl)) ?_ | refine AH [5] Z Z (fun _=>AB (BP Z Z (rfl) rfl As rfl)) ?_
      refine DM 7 Z Z Z (BI 8 Z Z (J (H8 (f:=40) (Ck (lk hd)) ⟨l.t,l.r⟩ false _ Z Z (hr.sub _ hm) rfl FT Hw za4 (IP _ _) rfl) (AF ⟨rfl,?_⟩)));refine BI 9 Z Z (AE Z Z (AF ⟨rfl,?_⟩));refine ED ?_
      first | refine BA rfl (fun h38=>?_) (fun h38=>?_) | refine Az rfl (fun h38=>?_) (fun h38=>?_)
      ·first | refine AG ?_ | refine CA hR ?_
       refine AI (U (Bm Z Z Z Z Z Z Z HK) (AF (Au ?_)));have h7:=lnk7 ht hfR hrR h33 ((hl.ls _ hm _).1 h38);exact ⟨_,[40],_,Aq rfl,rfl,rfl,M,by rw [h7],rfl,by rw [h7];exact hrep⟩
      ·refine Ai ?_
       first | refine AG ?_ | refine CA hR ?_
       refine Cz 921 910 0 Z Z Z Z Z fun u3=>(Cz 922 911 0 Z Z Z Z Z fun u4=>(Cz 923 912 0 Z Z Z Z Z fun u5=>(Cz 924 913 0 Z Z Z Z Z fun u6=>(Ee [[],[0],[0,1],[0,1,2],[],[0,1,2,3,4],[],[0,1,2,3,4,5,6]] mixed rfl (DL ?_)))))
       first | refine AD [3] [] Z Z (fun _=>AB (AX Z Z BG rfl)) ?_ | refine AH [3] Z Z (fun _=>AB (AX Z Z BG rfl)) ?_ | refine AD [3] [] Z Z (fun _=>AB (AU Z Z Z BG rfl)) ?_ | refine AH [3] Z Z (fun _=>AB (AU Z Z Z BG rfl)) ?_ | refine AD [3] [] Z Z (fun _=>AB (AW Z Z (rfl) rfl BG rfl)) ?_ | refine AH [3] Z Z (fun _=>AB (AW Z Z (rfl) rfl BG rfl)) ?_
       first | refine AD [47] [] Z Z (fun _=>AB (FJ Z Z)) ?_ | refine AH [47] Z Z (fun _=>AB (FJ Z Z)) ?_ | refine AD [47] [] Z Z (fun _=>AB (FG Z Z)) ?_ | refine AH [47] Z Z (fun _=>AB (FG Z Z)) ?_ | refine AD [47] [] Z Z (fun _=>AB (FK Z Z)) ?_ | refine AH [47] Z Z (fun _=>AB (FK Z Z)) ?_ | refine AD [47] [] Z Z (fun _=>AB (FH Z Z)) ?_ | refine AH [47] Z Z (fun _=>AB (FH Z Z)) ?_
       first | refine AD [48] [] Z Z (fun _=>AB (A1 rfl A5 Z Z Z)) ?_ | refine AH [48] Z Z (fun _=>AB (A1 rfl A5 Z Z Z)) ?_ | refine AD [48] [] Z Z (fun _=>AB (A3 rfl A5 Z Z Z)) ?_ | refine AH [48] Z Z (fun _=>AB (A3 rfl A5 Z Z Z)) ?_ | refine AD [48] [] Z Z (fun _=>AB (A4 rfl A5 Z Z Z)) ?_ | refine AH [48] Z Z (fun _=>AB (A4 rfl A5 Z Z Z)) ?_ | refine AD [48] [] Z Z (fun _=>AB (A2 rfl A5 Z Z Z)) ?_ | refine AH [48] Z Z (fun _=>AB (A2 rfl A5 Z Z Z)) ?_ | refine AD [48] [] Z Z (fun _=>AB (A0 rfl A5 Z Z Z)) ?_ | refine AH [48] Z Z (fun _=>AB (A0 rfl A5 Z Z Z)) ?_
       first | refine AD [49] [] Z Z (fun _=>AB (Ft (f:=40) Z Z (hr.cell) rfl Bk rfl)) ?_ | refine AH [49] Z Z (fun _=>AB (Ft (f:=40) Z Z (hr.cell) rfl Bk rfl)) ?_
       first | refine AD [4] [] Z Z (fun _=>AB (AX Z Z AY rfl)) ?_ | refine AH [4] Z Z (fun _=>AB (AX Z Z AY rfl)) ?_ | refine AD [4] [] Z Z (fun _=>AB (AU Z Z Z AY rfl)) ?_ | refine AH [4] Z Z (fun _=>AB (AU Z Z Z AY rfl)) ?_ | refine AD [4] [] Z Z (fun _=>AB (AW Z Z (rfl) rfl AY rfl)) ?_ | refine AH [4] Z Z (fun _=>AB (AW Z Z (rfl) rfl AY rfl)) ?_
       first | refine AD [50,51] [] Z Z (fun _=>AB (H8 (f:=40) (eE E) l.f none (some hd) Z Z hr.top rfl Bu Ec EH (K5 hl.kd hm) rfl)) ?_ | refine AH [50,51] Z Z (fun _=>AB (H8 (f:=40) (eE E) l.f none (some hd) Z Z hr.top rfl Bu Ec EH (K5 hl.kd hm) rfl)) ?_
       first | refine AD [5] [] Z Z (fun _=>AB (BN Z Z As rfl)) ?_ | refine AH [5] Z Z (fun _=>AB (BN Z Z As rfl)) ?_ | refine AD [5] [] Z Z (fun _=>AB (BO Z Z As Z Z Z)) ?_ | refine AH [5] Z Z (fun _=>AB (BO Z Z As Z Z Z)) ?_ | refine AD [5] [] Z Z (fun _=>AB (BP Z Z (rfl) rfl As rfl)) ?_ | refine AH [5] Z Z (fun _=>AB (BP Z Z (rfl) rfl As rfl)) ?_
       refine DM 7 Z Z Z (BI 8 Z Z (U (FN (f:=40) (Ck (lk hd)) (⟨l.t,l.r⟩) (true) Z Z (hr.sub _ hm) rfl FT Hw Z Z) (AF ⟨rfl,?_⟩)));refine ED ?_;have hnK:l∉w.K:=fun hh=>h38 ((hl.ls _ hm _).2 hh);rw [Kt h38];have hrep1:BR _ b (BW w l):=LY hr hl hm (l:=⟨l.t,l.r⟩) hnK;have hok1:=hw.with_ ht hfR hrR h33 hnK;have hK1:(BW w l).K.length≤1000000:=by show (w.K++ [l]).length≤_;rw [List.length_append,List.length_singleton];omega
       have h0:=NQ ht hfR hrR h33 hnK
       obtain ⟨M1,hM1⟩:∃M1,BD M hd (.map none (CI (lk hd++ [⟨l.t,l.r⟩])))=M1:=⟨_,rfl⟩
       rw [hM1] at hrep1⊢;refine Nz (xs:=[6,3,4,5]) (ars:=[.ptr 913 0 0,.ptr 910 0 0,.ptr 911 0 0,.ptr 912 0 0]) [.pointer (some ⟨u6,0,none⟩),.pointer (some ⟨u3,0,none⟩),.pointer (some ⟨u4,0,none⟩),.pointer (some ⟨u5,0,none⟩)] hD hlo hrnd Z Z Z ?_ ?_
       ·exact (IX ⟨913,0,u6,924,0,rfl,rfl,rfl⟩ (IX ⟨910,0,u3,921,0,rfl,rfl,rfl⟩ (IX ⟨911,0,u4,922,0,rfl,rfl,rfl⟩ (IX ⟨912,0,u5,923,0,rfl,rfl,rfl⟩ EQ))))
       refine AG (AG (AI ?_))
       first | refine J (AX Z Z BG rfl) ?_ | refine J (AU Z Z Z BG rfl) ?_ | refine J (AW Z Z (rfl) rfl BG rfl) ?_
       refine U (GD (Gj hrep1 hok1 hK1) rfl [40] ⟨rfl,trivial⟩ Z Z Z Z Z Z Z Z Z) (AC Z Z ?_)
       first | refine J (B4 Z Z Z) ?_ | refine J (B5 Z Z Z) ?_
       first | refine J (B4 Z Z Z) ?_ | refine J (B5 Z Z Z) ?_
       refine AE Z Z (AE Z Z (AF (AG (AI (AC Z Z ?_)))))
       first | refine J (EG Z Z) ?_ | refine J (EE Z Z) ?_
       refine AF ?_
       first | refine BA rfl (fun h61=>?_) (fun h61=>?_) | refine Az rfl (fun h61=>?_) (fun h61=>?_)
       ·refine AG (AI (U (Bm Z Z Z Z Z Z Z HK) (AF (Au ?_))));have hac:acyW (BW w l)=false:=by simpa using h61
        have h0':lnkW w l=(w,26):=by rw [h0,hac];rfl
        refine ⟨_,HLk b l 26++ [(40,[.multi M1])],_,[910,911,912,913,40],_,_,_,Kc hrep1 l hfR 26,rfl,?_,⟨rfl,rfl,rfl,rfl,rfl,trivial⟩,rfl,rfl,rfl,rfl,fun r H' ⟨e1,M',e2,h3⟩=>?_⟩
        ·exact (IX ⟨913,0,u6,924,0,rfl,rfl,rfl⟩ (IX ⟨910,0,u3,921,0,rfl,rfl,rfl⟩ (IX ⟨911,0,u4,922,0,rfl,rfl,rfl⟩ (IX ⟨912,0,u5,923,0,rfl,rfl,rfl⟩ EQ))))
        ·subst e1 e2;exact ⟨⟨rfl,rfl,rfl⟩,_,[40],_,Aq rfl,rfl,rfl,M',by rw [h0'],rfl,by rw [h0'];rw [if_neg (by decide),Jq hnK] at h3;exact h3⟩
       ·refine Ai (AG (AI (U (Bm Z Z Z Z Z Z Z HK) (AF (Au ?_)))));have hac:acyW (BW w l)=true:=by simpa using h61
        have h0':lnkW w l=(BW w l,0):=by rw [h0,hac];rfl
        refine ⟨_,HLk b l 0++ [(40,[.multi M1])],_,[910,911,912,913,40],_,_,_,Kc hrep1 l hfR 0,rfl,?_,⟨rfl,rfl,rfl,rfl,rfl,trivial⟩,rfl,rfl,rfl,rfl,fun r H' ⟨e1,M',e2,h3⟩=>?_⟩
        ·exact (IX ⟨913,0,u6,924,0,rfl,rfl,rfl⟩ (IX ⟨910,0,u3,921,0,rfl,rfl,rfl⟩ (IX ⟨911,0,u4,922,0,rfl,rfl,rfl⟩ (IX ⟨912,0,u5,923,0,rfl,rfl,rfl⟩ EQ))))
        ·subst e1 e2;exact ⟨⟨rfl,rfl,rfl⟩,_,[40],_,Aq rfl,rfl,rfl,M',by rw [h0'],rfl,by rw [h0'];rw [if_pos rfl] at h3;exact h3⟩
 ·refine Ay Z Z Z Z (Ay Z Z Z Z (Ay Z Z Z Z (J (Ey Z Z Z Z) (AE Z Z (AF (D4 Z Z ?_))))))
  first | refine AG ?_ | refine CA hR ?_
  refine AI ?_
  first | refine J (AX Z Z BG rfl) ?_ | refine J (AU Z Z Z BG rfl) ?_ | refine J (AW Z Z (rfl) rfl BG rfl) ?_
  first | refine J (AX Z Z AY rfl) ?_ | refine J (AU Z Z Z AY rfl) ?_ | refine J (AW Z Z (rfl) rfl AY rfl) ?_
  refine U (GD (Iz hrep l.f) rfl [40] ⟨rfl,trivial⟩ Z Z Z Z Z Z Z Z Z) ?_
  first | refine J (EG Z Z) ?_ | refine J (EE Z Z) ?_
  refine AC Z Z ?_
  first | refine JQ 26 rfl (fun h26=>?_) (fun h26=>?_) | refine ID 26 rfl (fun h26=>?_) (fun h26=>?_)
  ·refine Ay Z Z Z Z (Ay Z Z Z Z (Ay Z Z Z Z (Ay Z Z Z Z (Ay Z Z Z Z (J (G1 Z Z Z Z) (AE Z Z (AF (IE Z Z ?_))))))))
   first | refine AG ?_ | refine CA hR ?_
   have h9:lnkW w l=(w,9):=MN (by first | exact .inl (Classical.not_not.1 h16) | exact .inr (Classical.not_not.1 h12)) (by first | exact .inl h26 | exact .inr h21);refine AI (U (Bm Z Z Z Z Z Z Z HK) (AF (Au ?_)));exact ⟨_,[40],_,Aq rfl,rfl,rfl,M,by rw [h9],rfl,by rw [h9];exact hrep⟩
  ·refine A8 Z Z Z ?_
   first | refine J (AX Z Z BG rfl) ?_ | refine J (AU Z Z Z BG rfl) ?_ | refine J (AW Z Z (rfl) rfl BG rfl) ?_
   refine A8 Z Z Z ?_
   first | refine J (A1 rfl CC Z Z Z) ?_ | refine J (A3 rfl CC Z Z Z) ?_ | refine J (A4 rfl CC Z Z Z) ?_ | refine J (A2 rfl CC Z Z Z) ?_ | refine J (A0 rfl CC Z Z Z) ?_
   refine A8 Z Z Z ?_
   first | refine J (AX Z Z AY rfl) ?_ | refine J (AU Z Z Z AY rfl) ?_ | refine J (AW Z Z (rfl) rfl AY rfl) ?_
   refine A8 Z Z Z (U (GD (Iz hrep l.r) rfl [40] ⟨rfl,trivial⟩ Z Z Z Z Z Z Z Z Z) (A8 Z Z Z ?_))
   first | refine J (EG Z Z) ?_ | refine J (EE Z Z) ?_
   refine J (Ey Z Z Z Z) (AE Z Z (AF ?_))
   first | refine BA rfl (fun h21=>?_) (fun h21=>?_) | refine Az rfl (fun h21=>?_) (fun h21=>?_)
   ·first | refine AG ?_ | refine CA hR ?_
    have h9:lnkW w l=(w,9):=MN (by first | exact .inl (Classical.not_not.1 h16) | exact .inr (Classical.not_not.1 h12)) (by first | exact .inl h26 | exact .inr h21);refine AI (U (Bm Z Z Z Z Z Z Z HK) (AF (Au ?_)));exact ⟨_,[40],_,Aq rfl,rfl,rfl,M,by rw [h9],rfl,by rw [h9];exact hrep⟩
   ·first | refine AG ?_ | refine CA hR ?_
    have ht:l.t=0∨l.t=1:=by first | exact .inl (Classical.not_not.1 h16) | exact .inr (Classical.not_not.1 h12)
    have hfR:l.f∈w.R:=Classical.not_not.1 h26;have hrR:l.r∈w.R:=Classical.not_not.1 h21;refine AI ?_
    first | refine J (AX Z Z AY rfl) ?_ | refine J (AU Z Z Z AY rfl) ?_ | refine J (AW Z Z (rfl) rfl AY rfl) ?_
    first | refine J (A1 rfl CC Z Z Z) ?_ | refine J (A3 rfl CC Z Z Z) ?_ | refine J (A4 rfl CC Z Z Z) ?_ | refine J (A2 rfl CC Z Z Z) ?_ | refine J (A0 rfl CC Z Z Z) ?_
    first | refine J (AX Z Z AY rfl) ?_ | refine J (AU Z Z Z AY rfl) ?_ | refine J (AW Z Z (rfl) rfl AY rfl) ?_
    first | refine J (EZ Z Z Z) ?_ | refine J (Ea Z Z Z) ?_ | refine J (EF Z Z Z) ?_ | refine J (E0 Try.underlying9 Z Z Z) ?_ | refine J (E5 Try.underlying9 Z Z Z) ?_ | refine J (E4 Try.underlying9 Z Z) ?_ | refine J (E9 Try.underlying9 Z Z) ?_ | refine J (E8 Try.underlying9 Z Z) ?_ | refine J (E3 Try.underlying9 Z Z Z) ?_ | refine J (E7 Try.underlying9 Z Z) ?_
    refine AE Z Z (AF ?_)
    first | refine BA rfl (fun h33=>?_) (fun h33=>?_) | refine Az rfl (fun h33=>?_) (fun h33=>?_)
    ·first | refine AG ?_ | refine CA hR ?_
     refine AI (U (Bm Z Z Z Z Z Z Z HK) (AF (Au ?_)));exact ⟨_,[40],_,Aq rfl,rfl,rfl,M,by rw [KK ht hfR hrR h33],rfl,by rw [KK ht hfR hrR h33];exact hrep⟩
    ·first | refine AG ?_ | refine CA hR ?_
     obtain ⟨hd,hm⟩:=hl.at hfR;refine Ee [[],[0],[0,1],[0,1,2],[],[0,1,2,3,4],[],[0,1,2,3,4,5,6],[0,1,2,3,4,5,6,7]] mixed rfl (DL ?_)
     first | refine AD [3] [] Z Z (fun _=>AB (AX Z Z BG rfl)) ?_ | refine AH [3] Z Z (fun _=>AB (AX Z Z BG rfl)) ?_ | refine AD [3] [] Z Z (fun _=>AB (AU Z Z Z BG rfl)) ?_ | refine AH [3] Z Z (fun _=>AB (AU Z Z Z BG rfl)) ?_ | refine AD [3] [] Z Z (fun _=>AB (AW Z Z (rfl) rfl BG rfl)) ?_ | refine AH [3] Z Z (fun _=>AB (AW Z Z (rfl) rfl BG rfl)) ?_
     first | refine AD [39] [] Z Z (fun _=>AB (FJ Z Z)) ?_ | refine AH [39] Z Z (fun _=>AB (FJ Z Z)) ?_ | refine AD [39] [] Z Z (fun _=>AB (FG Z Z)) ?_ | refine AH [39] Z Z (fun _=>AB (FG Z Z)) ?_ | refine AD [39] [] Z Z (fun _=>AB (FK Z Z)) ?_ | refine AH [39] Z Z (fun _=>AB (FK Z Z)) ?_ | refine AD [39] [] Z Z (fun _=>AB (FH Z Z)) ?_ | refine AH [39] Z Z (fun _=>AB (FH Z Z)) ?_
     first | refine AD [40] [] Z Z (fun _=>AB (A1 rfl A5 Z Z Z)) ?_ | refine AH [40] Z Z (fun _=>AB (A1 rfl A5 Z Z Z)) ?_ | refine AD [40] [] Z Z (fun _=>AB (A3 rfl A5 Z Z Z)) ?_ | refine AH [40] Z Z (fun _=>AB (A3 rfl A5 Z Z Z)) ?_ | refine AD [40] [] Z Z (fun _=>AB (A4 rfl A5 Z Z Z)) ?_ | refine AH [40] Z Z (fun _=>AB (A4 rfl A5 Z Z Z)) ?_ | refine AD [40] [] Z Z (fun _=>AB (A2 rfl A5 Z Z Z)) ?_ | refine AH [40] Z Z (fun _=>AB (A2 rfl A5 Z Z Z)) ?_ | refine AD [40] [] Z Z (fun _=>AB (A0 rfl A5 Z Z Z)) ?_ | refine AH [40] Z Z (fun _=>AB (A0 rfl A5 Z Z Z)) ?_
     first | refine AD [41] [] Z Z (fun _=>AB (Ft (f:=40) Z Z (hr.cell) rfl Bk rfl)) ?_ | refine AH [41] Z Z (fun _=>AB (Ft (f:=40) Z Z (hr.cell) rfl Bk rfl)) ?_
     first | refine AD [4] [] Z Z (fun _=>AB (AX Z Z AY rfl)) ?_ | refine AH [4] Z Z (fun _=>AB (AX Z Z AY rfl)) ?_ | refine AD [4] [] Z Z (fun _=>AB (AU Z Z Z AY rfl)) ?_ | refine AH [4] Z Z (fun _=>AB (AU Z Z Z AY rfl)) ?_ | refine AD [4] [] Z Z (fun _=>AB (AW Z Z (rfl) rfl AY rfl)) ?_ | refine AH [4] Z Z (fun _=>AB (AW Z Z (rfl) rfl AY rfl)) ?_
     first | refine AD [42,43] [] Z Z (fun _=>AB (H8 (f:=40) (eE E) l.f none (some hd) Z Z hr.top rfl Bu Ec EH (K5 hl.kd hm) rfl)) ?_ | refine AH [42,43] Z Z (fun _=>AB (H8 (f:=40) (eE E) l.f none (some hd) Z Z hr.top rfl Bu Ec EH (K5 hl.kd hm) rfl)) ?_
     first | refine AD [5] [] Z Z (fun _=>AB (BN Z Z As rfl)) ?_ | refine AH [5] Z Z (fun _=>AB (BN Z Z As rfl)) ?_ | refine AD [5] [] Z Z (fun _=>AB (BO Z Z As Z Z Z)) ?_ | refine AH [5] Z Z (fun _=>AB (BO Z Z As Z Z Z)) ?_ | refine AD [5] [] Z Z (fun _=>AB (BP Z Z (rfl) rfl As rfl)) ?_ | refine AH [5] Z Z (fun _=>AB (BP Z Z (rfl) rfl As rfl)) ?_
     refine DM 7 Z Z Z (BI 8 Z Z (J (H8 (f:=40) (Ck (lk hd)) ⟨l.t,l.r⟩ false _ Z Z (hr.sub _ hm) rfl FT Hw za4 (IP _ _) rfl) (AF ⟨rfl,?_⟩)));refine BI 9 Z Z (AE Z Z (AF ⟨rfl,?_⟩));refine ED ?_
     first | refine BA rfl (fun h38=>?_) (fun h38=>?_) | refine Az rfl (fun h38=>?_) (fun h38=>?_)
     ·first | refine AG ?_ | refine CA hR ?_
      refine AI (U (Bm Z Z Z Z Z Z Z HK) (AF (Au ?_)));have h7:=lnk7 ht hfR hrR h33 ((hl.ls _ hm _).1 h38);exact ⟨_,[40],_,Aq rfl,rfl,rfl,M,by rw [h7],rfl,by rw [h7];exact hrep⟩
     ·refine Ai ?_
      first | refine AG ?_ | refine CA hR ?_
      refine Cz 921 910 0 Z Z Z Z Z fun u3=>(Cz 922 911 0 Z Z Z Z Z fun u4=>(Cz 923 912 0 Z Z Z Z Z fun u5=>(Cz 924 913 0 Z Z Z Z Z fun u6=>(Ee [[],[0],[0,1],[0,1,2],[],[0,1,2,3,4],[],[0,1,2,3,4,5,6]] mixed rfl (DL ?_)))))
      first | refine AD [3] [] Z Z (fun _=>AB (AX Z Z BG rfl)) ?_ | refine AH [3] Z Z (fun _=>AB (AX Z Z BG rfl)) ?_ | refine AD [3] [] Z Z (fun _=>AB (AU Z Z Z BG rfl)) ?_ | refine AH [3] Z Z (fun _=>AB (AU Z Z Z BG rfl)) ?_ | refine AD [3] [] Z Z (fun _=>AB (AW Z Z (rfl) rfl BG rfl)) ?_ | refine AH [3] Z Z (fun _=>AB (AW Z Z (rfl) rfl BG rfl)) ?_
      first | refine AD [47] [] Z Z (fun _=>AB (FJ Z Z)) ?_ | refine AH [47] Z Z (fun _=>AB (FJ Z Z)) ?_ | refine AD [47] [] Z Z (fun _=>AB (FG Z Z)) ?_ | refine AH [47] Z Z (fun _=>AB (FG Z Z)) ?_ | refine AD [47] [] Z Z (fun _=>AB (FK Z Z)) ?_ | refine AH [47] Z Z (fun _=>AB (FK Z Z)) ?_ | refine AD [47] [] Z Z (fun _=>AB (FH Z Z)) ?_ | refine AH [47] Z Z (fun _=>AB (FH Z Z)) ?_
      first | refine AD [48] [] Z Z (fun _=>AB (A1 rfl A5 Z Z Z)) ?_ | refine AH [48] Z Z (fun _=>AB (A1 rfl A5 Z Z Z)) ?_ | refine AD [48] [] Z Z (fun _=>AB (A3 rfl A5 Z Z Z)) ?_ | refine AH [48] Z Z (fun _=>AB (A3 rfl A5 Z Z Z)) ?_ | refine AD [48] [] Z Z (fun _=>AB (A4 rfl A5 Z Z Z)) ?_ | refine AH [48] Z Z (fun _=>AB (A4 rfl A5 Z Z Z)) ?_ | refine AD [48] [] Z Z (fun _=>AB (A2 rfl A5 Z Z Z)) ?_ | refine AH [48] Z Z (fun _=>AB (A2 rfl A5 Z Z Z)) ?_ | refine AD [48] [] Z Z (fun _=>AB (A0 rfl A5 Z Z Z)) ?_ | refine AH [48] Z Z (fun _=>AB (A0 rfl A5 Z Z Z)) ?_
      first | refine AD [49] [] Z Z (fun _=>AB (Ft (f:=40) Z Z (hr.cell) rfl Bk rfl)) ?_ | refine AH [49] Z Z (fun _=>AB (Ft (f:=40) Z Z (hr.cell) rfl Bk rfl)) ?_
      first | refine AD [4] [] Z Z (fun _=>AB (AX Z Z AY rfl)) ?_ | refine AH [4] Z Z (fun _=>AB (AX Z Z AY rfl)) ?_ | refine AD [4] [] Z Z (fun _=>AB (AU Z Z Z AY rfl)) ?_ | refine AH [4] Z Z (fun _=>AB (AU Z Z Z AY rfl)) ?_ | refine AD [4] [] Z Z (fun _=>AB (AW Z Z (rfl) rfl AY rfl)) ?_ | refine AH [4] Z Z (fun _=>AB (AW Z Z (rfl) rfl AY rfl)) ?_
      first | refine AD [50,51] [] Z Z (fun _=>AB (H8 (f:=40) (eE E) l.f none (some hd) Z Z hr.top rfl Bu Ec EH (K5 hl.kd hm) rfl)) ?_ | refine AH [50,51] Z Z (fun _=>AB (H8 (f:=40) (eE E) l.f none (some hd) Z Z hr.top rfl Bu Ec EH (K5 hl.kd hm) rfl)) ?_
      first | refine AD [5] [] Z Z (fun _=>AB (BN Z Z As rfl)) ?_ | refine AH [5] Z Z (fun _=>AB (BN Z Z As rfl)) ?_ | refine AD [5] [] Z Z (fun _=>AB (BO Z Z As Z Z Z)) ?_ | refine AH [5] Z Z (fun _=>AB (BO Z Z As Z Z Z)) ?_ | refine AD [5] [] Z Z (fun _=>AB (BP Z Z (rfl) rfl As rfl)) ?_ | refine AH [5] Z Z (fun _=>AB (BP Z Z (rfl) rfl As rfl)) ?_
      refine DM 7 Z Z Z (BI 8 Z Z (U (FN (f:=40) (Ck (lk hd)) (⟨l.t,l.r⟩) (true) Z Z (hr.sub _ hm) rfl FT Hw Z Z) (AF ⟨rfl,?_⟩)));refine ED ?_;have hnK:l∉w.K:=fun hh=>h38 ((hl.ls _ hm _).2 hh);rw [Kt h38];have hrep1:BR _ b (BW w l):=LY hr hl hm (l:=⟨l.t,l.r⟩) hnK;have hok1:=hw.with_ ht hfR hrR h33 hnK;have hK1:(BW w l).K.length≤1000000:=by show (w.K++ [l]).length≤_;rw [List.length_append,List.length_singleton];omega
      have h0:=NQ ht hfR hrR h33 hnK
      obtain ⟨M1,hM1⟩:∃M1,BD M hd (.map none (CI (lk hd++ [⟨l.t,l.r⟩])))=M1:=⟨_,rfl⟩
      rw [hM1] at hrep1⊢;refine Nz (xs:=[6,3,4,5]) (ars:=[.ptr 913 0 0,.ptr 910 0 0,.ptr 911 0 0,.ptr 912 0 0]) [.pointer (some ⟨u6,0,none⟩),.pointer (some ⟨u3,0,none⟩),.pointer (some ⟨u4,0,none⟩),.pointer (some ⟨u5,0,none⟩)] hD hlo hrnd Z Z Z ?_ ?_
      ·exact (IX ⟨913,0,u6,924,0,rfl,rfl,rfl⟩ (IX ⟨910,0,u3,921,0,rfl,rfl,rfl⟩ (IX ⟨911,0,u4,922,0,rfl,rfl,rfl⟩ (IX ⟨912,0,u5,923,0,rfl,rfl,rfl⟩ EQ))))
      refine AG (AG (AI ?_))
      first | refine J (AX Z Z BG rfl) ?_ | refine J (AU Z Z Z BG rfl) ?_ | refine J (AW Z Z (rfl) rfl BG rfl) ?_
      refine U (GD (Gj hrep1 hok1 hK1) rfl [40] ⟨rfl,trivial⟩ Z Z Z Z Z Z Z Z Z) (AC Z Z ?_)
      first | refine J (B4 Z Z Z) ?_ | refine J (B5 Z Z Z) ?_
      first | refine J (B4 Z Z Z) ?_ | refine J (B5 Z Z Z) ?_
      refine AE Z Z (AE Z Z (AF (AG (AI (AC Z Z ?_)))))
      first | refine J (EG Z Z) ?_ | refine J (EE Z Z) ?_
      refine AF ?_
      first | refine BA rfl (fun h61=>?_) (fun h61=>?_) | refine Az rfl (fun h61=>?_) (fun h61=>?_)
      ·refine AG (AI (U (Bm Z Z Z Z Z Z Z HK) (AF (Au ?_))));have hac:acyW (BW w l)=false:=by simpa using h61
       have h0':lnkW w l=(w,26):=by rw [h0,hac];rfl
       refine ⟨_,HLk b l 26++ [(40,[.multi M1])],_,[910,911,912,913,40],_,_,_,Kc hrep1 l hfR 26,rfl,?_,⟨rfl,rfl,rfl,rfl,rfl,trivial⟩,rfl,rfl,rfl,rfl,fun r H' ⟨e1,M',e2,h3⟩=>?_⟩
       ·exact (IX ⟨913,0,u6,924,0,rfl,rfl,rfl⟩ (IX ⟨910,0,u3,921,0,rfl,rfl,rfl⟩ (IX ⟨911,0,u4,922,0,rfl,rfl,rfl⟩ (IX ⟨912,0,u5,923,0,rfl,rfl,rfl⟩ EQ))))
       ·subst e1 e2;exact ⟨⟨rfl,rfl,rfl⟩,_,[40],_,Aq rfl,rfl,rfl,M',by rw [h0'],rfl,by rw [h0'];rw [if_neg (by decide),Jq hnK] at h3;exact h3⟩
      ·refine Ai (AG (AI (U (Bm Z Z Z Z Z Z Z HK) (AF (Au ?_)))));have hac:acyW (BW w l)=true:=by simpa using h61
       have h0':lnkW w l=(BW w l,0):=by rw [h0,hac];rfl
       refine ⟨_,HLk b l 0++ [(40,[.multi M1])],_,[910,911,912,913,40],_,_,_,Kc hrep1 l hfR 0,rfl,?_,⟨rfl,rfl,rfl,rfl,rfl,trivial⟩,rfl,rfl,rfl,rfl,fun r H' ⟨e1,M',e2,h3⟩=>?_⟩
       ·exact (IX ⟨913,0,u6,924,0,rfl,rfl,rfl⟩ (IX ⟨910,0,u3,921,0,rfl,rfl,rfl⟩ (IX ⟨911,0,u4,922,0,rfl,rfl,rfl⟩ (IX ⟨912,0,u5,923,0,rfl,rfl,rfl⟩ EQ))))
       ·subst e1 e2;exact ⟨⟨rfl,rfl,rfl⟩,_,[40],_,Aq rfl,rfl,rfl,M',by rw [h0'],rfl,by rw [h0'];rw [if_pos rfl] at h3;exact h3⟩
theorem unl9 {w:Ws} {l:Lw} (h:l∉w.K):unlW w l=(w,9):=by unfold unlW;rw [if_pos h]
theorem unl0 {w:Ws} {l:Lw} (h:l∈w.K):unlW w l=if acyW (CV w l)=true then (CV w l,0) else (w,26):=by unfold unlW;rw [if_neg fun hh=>hh h]
theorem RO {M:MF} {b m:Nat} {E:List (St×Nat)} {lk:Nat ->List Lk} {w:Ws} (hr:LR M b m E lk) (hl:LW E lk w) {x:St} {hd:Nat} (hm:(x,hd)∈E) {l:Lk} (hin:l∈lk hd):BR (BD M hd (.map none (CI ((lk hd).filter (fun y=>!decide (y=l))++ [l])))) b w:=by
 refine ⟨m,E,_,hr.set hm _,hl.set hr.nd hm rfl ?_ (fun l'=>?_) (fun l' hf=>Iff.rfl)⟩
 ·refine List.nodup_append.2 ⟨List.Nodup.sublist List.filter_sublist (hl.ld _ hm),by simp,fun a ha c hc e=>?_⟩;have:=(List.mem_filter.1 ha).2;rw [e,List.mem_singleton.1 hc] at this
  simp at this
 ·rw [←hl.ls _ hm l',List.mem_append,List.mem_filter,List.mem_singleton]
  constructor
  ·rintro (h | rfl)
   ·exact h.1
   ·exact hin
  ·intro h
   by_cases e:l'=l
   ·exact .inr e
   ·exact .inl ⟨h,by simp [e]⟩
theorem PT {M:MF} {b:Nat} {w:Ws} (h:BR M b w) (hw:BV w) (hK:w.K.length≤1000000) (l:Lw):AR Try.prog 30 [.d (pD b 0),.d (AZ l.f),.d (lkD ⟨l.t,l.r⟩)] [(40,[.multi M])] fun r H'=>∃M',r= .d (Bv (unlW w l).2)∧H'=[(40,[.multi M'])]∧BR M' b (unlW w l).1:=by
 have hrep:=h;obtain ⟨m,E,lk,hr,hl⟩:=h;refine DA Try.func30 Z Z Try.ntmps30 Z Z Z fun F hF=>?_;refine AG (AI (U (IG 910 Z Z Z Z Z Z Z) (AE Z Z (AF (AG (AG (AI (AC Z Z ?_))))))))
 by_cases hfR:l.f∈w.R
 ·first | refine J (EZ Z Z Z) ?_ | refine J (Ea Z Z Z) ?_ | refine J (EF Z Z Z) ?_ | refine J (E0 Try.underlying23 Z Z Z) ?_ | refine J (E5 Try.underlying23 Z Z Z) ?_ | refine J (E4 Try.underlying23 Z Z) ?_ | refine J (E9 Try.underlying23 Z Z) ?_ | refine J (E8 Try.underlying23 Z Z) ?_ | refine J (E3 Try.underlying23 Z Z Z) ?_ | refine J (E7 Try.underlying23 Z Z) ?_
  refine AF (D4 rfl (rfl) (Ai (AG (AG (Ee [[],[0],[0,1],[0,1,2],[],[0,1,2,3,4],[],[0,1,2,3,4,5,6],[0,1,2,3,4,5,6,7]] mixed rfl (DL ?_))))))
  first | refine AD [0] [] Z Z (fun _=>AB (A9 Z Z)) ?_ | refine AH [0] Z Z (fun _=>AB (A9 Z Z)) ?_
  first | refine AD [11] [] Z Z (fun _=>AB (FJ Z Z)) ?_ | refine AH [11] Z Z (fun _=>AB (FJ Z Z)) ?_ | refine AD [11] [] Z Z (fun _=>AB (FG Z Z)) ?_ | refine AH [11] Z Z (fun _=>AB (FG Z Z)) ?_ | refine AD [11] [] Z Z (fun _=>AB (FK Z Z)) ?_ | refine AH [11] Z Z (fun _=>AB (FK Z Z)) ?_ | refine AD [11] [] Z Z (fun _=>AB (FH Z Z)) ?_ | refine AH [11] Z Z (fun _=>AB (FH Z Z)) ?_
  first | refine AD [12] [] Z Z (fun _=>AB (A1 rfl A5 Z Z Z)) ?_ | refine AH [12] Z Z (fun _=>AB (A1 rfl A5 Z Z Z)) ?_ | refine AD [12] [] Z Z (fun _=>AB (A3 rfl A5 Z Z Z)) ?_ | refine AH [12] Z Z (fun _=>AB (A3 rfl A5 Z Z Z)) ?_ | refine AD [12] [] Z Z (fun _=>AB (A4 rfl A5 Z Z Z)) ?_ | refine AH [12] Z Z (fun _=>AB (A4 rfl A5 Z Z Z)) ?_ | refine AD [12] [] Z Z (fun _=>AB (A2 rfl A5 Z Z Z)) ?_ | refine AH [12] Z Z (fun _=>AB (A2 rfl A5 Z Z Z)) ?_ | refine AD [12] [] Z Z (fun _=>AB (A0 rfl A5 Z Z Z)) ?_ | refine AH [12] Z Z (fun _=>AB (A0 rfl A5 Z Z Z)) ?_
  first | refine AD [13] [] Z Z (fun _=>AB (Ft (f:=40) Z Z (hr.cell) rfl Bk rfl)) ?_ | refine AH [13] Z Z (fun _=>AB (Ft (f:=40) Z Z (hr.cell) rfl Bk rfl)) ?_
  first | refine AD [1] [] Z Z (fun _=>AB (A9 Z Z)) ?_ | refine AH [1] Z Z (fun _=>AB (A9 Z Z)) ?_
  first | refine AD [14,15] [] Z Z (fun _=>AB (H8 (f:=40) (eE E) (l.f) (none) _ Z Z (hr.top) rfl Bu Ec EH Z Z)) ?_ | refine AH [14,15] Z Z (fun _=>AB (H8 (f:=40) (eE E) (l.f) (none) _ Z Z (hr.top) rfl Bu Ec EH Z Z)) ?_
  first | refine AD [5] [] Z Z (fun _=>AB (BN Z Z As rfl)) ?_ | refine AH [5] Z Z (fun _=>AB (BN Z Z As rfl)) ?_ | refine AD [5] [] Z Z (fun _=>AB (BO Z Z As Z Z Z)) ?_ | refine AH [5] Z Z (fun _=>AB (BO Z Z As Z Z Z)) ?_ | refine AD [5] [] Z Z (fun _=>AB (BP Z Z (rfl) rfl As rfl)) ?_ | refine AH [5] Z Z (fun _=>AB (BP Z Z (rfl) rfl As rfl)) ?_
  refine DM 7 Z Z Z (BI 8 Z Z ?_);obtain ⟨hd,hm⟩:=hl.at hfR;rw [K5 hl.kd hm];refine J (H8 (f:=40) (Ck (lk hd)) ⟨l.t,l.r⟩ false _ Z Z (hr.sub _ hm) rfl FT Hw za4 (IP _ _) rfl) (AF ⟨rfl,?_⟩);refine BI 9 Z Z ?_
  first | refine J (EG Z Z) ?_ | refine J (EE Z Z) ?_
  refine AF ⟨rfl,?_⟩;refine ED ?_
  first | refine BA rfl (fun h19=>?_) (fun h19=>?_) | refine Az rfl (fun h19=>?_) (fun h19=>?_)
  ·refine AG (AI (AE Z Z (AF (Au ?_))));have h9:unlW w l=(w,9):=unl9 fun hh=>by first | exact h19 ((hl.ls _ hm _).2 hh) | exact hfR (hw.lk l hh).1
   exact ⟨_,[40],_,Aq rfl,rfl,rfl,M,by rw [h9],rfl,by rw [h9];exact hrep⟩
  ·refine Ai (AG ?_);have hin:(⟨l.t,l.r⟩:Lk)∈lk hd:=Classical.not_not.1 h19;have hlK:l∈w.K:=(hl.ls _ hm _).1 hin;have h0:=unl0 hlK;refine Ee [[],[0],[0,1],[0,1,2],[],[0,1,2,3,4],[],[0,1,2,3,4,5,6]] mixed rfl (DL ?_)
   first | refine AD [0] [] Z Z (fun _=>AB (A9 Z Z)) ?_ | refine AH [0] Z Z (fun _=>AB (A9 Z Z)) ?_
   first | refine AD [20] [] Z Z (fun _=>AB (FJ Z Z)) ?_ | refine AH [20] Z Z (fun _=>AB (FJ Z Z)) ?_ | refine AD [20] [] Z Z (fun _=>AB (FG Z Z)) ?_ | refine AH [20] Z Z (fun _=>AB (FG Z Z)) ?_ | refine AD [20] [] Z Z (fun _=>AB (FK Z Z)) ?_ | refine AH [20] Z Z (fun _=>AB (FK Z Z)) ?_ | refine AD [20] [] Z Z (fun _=>AB (FH Z Z)) ?_ | refine AH [20] Z Z (fun _=>AB (FH Z Z)) ?_
   first | refine AD [21] [] Z Z (fun _=>AB (A1 rfl A5 Z Z Z)) ?_ | refine AH [21] Z Z (fun _=>AB (A1 rfl A5 Z Z Z)) ?_ | refine AD [21] [] Z Z (fun _=>AB (A3 rfl A5 Z Z Z)) ?_ | refine AH [21] Z Z (fun _=>AB (A3 rfl A5 Z Z Z)) ?_ | refine AD [21] [] Z Z (fun _=>AB (A4 rfl A5 Z Z Z)) ?_ | refine AH [21] Z Z (fun _=>AB (A4 rfl A5 Z Z Z)) ?_ | refine AD [21] [] Z Z (fun _=>AB (A2 rfl A5 Z Z Z)) ?_ | refine AH [21] Z Z (fun _=>AB (A2 rfl A5 Z Z Z)) ?_ | refine AD [21] [] Z Z (fun _=>AB (A0 rfl A5 Z Z Z)) ?_ | refine AH [21] Z Z (fun _=>AB (A0 rfl A5 Z Z Z)) ?_
   first | refine AD [22] [] Z Z (fun _=>AB (Ft (f:=40) Z Z (hr.cell) rfl Bk rfl)) ?_ | refine AH [22] Z Z (fun _=>AB (Ft (f:=40) Z Z (hr.cell) rfl Bk rfl)) ?_
   first | refine AD [1] [] Z Z (fun _=>AB (A9 Z Z)) ?_ | refine AH [1] Z Z (fun _=>AB (A9 Z Z)) ?_
   first | refine AD [23,24] [] Z Z (fun _=>AB (H8 (f:=40) (eE E) l.f none (some hd) Z Z hr.top rfl Bu Ec EH (K5 hl.kd hm) rfl)) ?_ | refine AH [23,24] Z Z (fun _=>AB (H8 (f:=40) (eE E) l.f none (some hd) Z Z hr.top rfl Bu Ec EH (K5 hl.kd hm) rfl)) ?_
   first | refine AD [5] [] Z Z (fun _=>AB (BN Z Z As rfl)) ?_ | refine AH [5] Z Z (fun _=>AB (BN Z Z As rfl)) ?_ | refine AD [5] [] Z Z (fun _=>AB (BO Z Z As Z Z Z)) ?_ | refine AH [5] Z Z (fun _=>AB (BO Z Z As Z Z Z)) ?_ | refine AD [5] [] Z Z (fun _=>AB (BP Z Z (rfl) rfl As rfl)) ?_ | refine AH [5] Z Z (fun _=>AB (BP Z Z (rfl) rfl As rfl)) ?_
   refine DM 7 Z Z Z (BI 8 Z Z (U (Ga (f:=40) (Ck (lk hd)) (⟨l.t,l.r⟩) (true) Z Z (hr.sub _ hm) rfl FT Hw rfl) (AF ⟨rfl,?_⟩)));refine ED (AG (AG ?_));rw [IQ (hl.ld _ hm)];have hrep1:BR _ b (CV w l):=La hr hl hm ⟨l.t,l.r⟩;have hr1:=hr.set hm ((lk hd).filter fun y=>!decide (y=⟨l.t,l.r⟩));have hK1:(CV w l).K.length≤1000000:=Nat.le_trans (List.length_filter_le _ _) hK
   obtain ⟨M1,hM1⟩:∃M1,BD M hd (.map none (CI ((lk hd).filter fun y=>!decide (y=⟨l.t,l.r⟩))))=M1:=⟨_,rfl⟩
   rw [hM1] at hrep1 hr1⊢;refine AI (AC Z Z (U (GD (Gj hrep1 (hw.sans l) hK1) rfl [40] ⟨rfl,trivial⟩ Z Z Z Z Z Z Z Z Z) (AC Z Z ?_)))
   first | refine J (B4 Z Z Z) ?_ | refine J (B5 Z Z Z) ?_
   first | refine J (B4 Z Z Z) ?_ | refine J (B5 Z Z Z) ?_
   refine AE Z Z (AE Z Z (AF (AG (AI (AC Z Z ?_)))))
   first | refine J (EG Z Z) ?_ | refine J (EE Z Z) ?_
   refine AF ?_
   first | refine BA rfl (fun h33=>?_) (fun h33=>?_) | refine Az rfl (fun h33=>?_) (fun h33=>?_)
   ·refine AG (Ee [[],[0],[0,1],[0,1,2],[],[0,1,2,3,4],[],[0,1,2,3,4,5,6]] mixed rfl (DL ?_))
    first | refine AD [0] [] Z Z (fun _=>AB (A9 Z Z)) ?_ | refine AH [0] Z Z (fun _=>AB (A9 Z Z)) ?_
    first | refine AD [34] [] Z Z (fun _=>AB (FJ Z Z)) ?_ | refine AH [34] Z Z (fun _=>AB (FJ Z Z)) ?_ | refine AD [34] [] Z Z (fun _=>AB (FG Z Z)) ?_ | refine AH [34] Z Z (fun _=>AB (FG Z Z)) ?_ | refine AD [34] [] Z Z (fun _=>AB (FK Z Z)) ?_ | refine AH [34] Z Z (fun _=>AB (FK Z Z)) ?_ | refine AD [34] [] Z Z (fun _=>AB (FH Z Z)) ?_ | refine AH [34] Z Z (fun _=>AB (FH Z Z)) ?_
    first | refine AD [35] [] Z Z (fun _=>AB (A1 rfl A5 Z Z Z)) ?_ | refine AH [35] Z Z (fun _=>AB (A1 rfl A5 Z Z Z)) ?_ | refine AD [35] [] Z Z (fun _=>AB (A3 rfl A5 Z Z Z)) ?_ | refine AH [35] Z Z (fun _=>AB (A3 rfl A5 Z Z Z)) ?_ | refine AD [35] [] Z Z (fun _=>AB (A4 rfl A5 Z Z Z)) ?_ | refine AH [35] Z Z (fun _=>AB (A4 rfl A5 Z Z Z)) ?_ | refine AD [35] [] Z Z (fun _=>AB (A2 rfl A5 Z Z Z)) ?_ | refine AH [35] Z Z (fun _=>AB (A2 rfl A5 Z Z Z)) ?_ | refine AD [35] [] Z Z (fun _=>AB (A0 rfl A5 Z Z Z)) ?_ | refine AH [35] Z Z (fun _=>AB (A0 rfl A5 Z Z Z)) ?_
    first | refine AD [36] [] Z Z (fun _=>AB (Ft (f:=40) Z Z (hr1.cell) rfl Bk rfl)) ?_ | refine AH [36] Z Z (fun _=>AB (Ft (f:=40) Z Z (hr1.cell) rfl Bk rfl)) ?_
    first | refine AD [1] [] Z Z (fun _=>AB (A9 Z Z)) ?_ | refine AH [1] Z Z (fun _=>AB (A9 Z Z)) ?_
    first | refine AD [37,38] [] Z Z (fun _=>AB (H8 (f:=40) (eE E) l.f none (some hd) Z Z hr1.top rfl Bu Ec EH (K5 hl.kd hm) rfl)) ?_ | refine AH [37,38] Z Z (fun _=>AB (H8 (f:=40) (eE E) l.f none (some hd) Z Z hr1.top rfl Bu Ec EH (K5 hl.kd hm) rfl)) ?_
    first | refine AD [5] [] Z Z (fun _=>AB (BN Z Z As rfl)) ?_ | refine AH [5] Z Z (fun _=>AB (BN Z Z As rfl)) ?_ | refine AD [5] [] Z Z (fun _=>AB (BO Z Z As Z Z Z)) ?_ | refine AH [5] Z Z (fun _=>AB (BO Z Z As Z Z Z)) ?_ | refine AD [5] [] Z Z (fun _=>AB (BP Z Z (rfl) rfl As rfl)) ?_ | refine AH [5] Z Z (fun _=>AB (BP Z Z (rfl) rfl As rfl)) ?_
    refine DM 7 Z Z Z (BI 8 Z Z (U (FN (f:=40) (Ck ((lk hd).filter fun y=>!decide (y=⟨l.t,l.r⟩))) (⟨l.t,l.r⟩) (true) Z Z ((by rw [hr1.sub _ hm,Ds])) rfl FT Hw Z Z) (AF ⟨rfl,?_⟩)));refine ED (AG ?_);have hac:acyW (CV w l)=false:=by simpa using h33
    have h26:unlW w l=(w,26):=by rw [h0,hac];rfl
    have hln:(⟨l.t,l.r⟩:Lk)∉(lk hd).filter fun y=>!decide (y=⟨l.t,l.r⟩):=fun hh=>by simpa using (List.mem_filter.1 hh).2
    rw [Kt hln,←hM1,Mn];refine AI (AE Z Z (AF (Au ?_)));exact ⟨_,[40],_,Aq rfl,rfl,rfl,_,by rw [h26],rfl,by rw [h26];exact RO hr hl hm hin⟩
   ·refine Ai (AG (AI (AE Z Z (AF (Au ?_)))));have hac:acyW (CV w l)=true:=by simpa using h33
    have h00:unlW w l=(CV w l,0):=by rw [h0,if_pos hac]
    exact ⟨_,[40],_,Aq rfl,rfl,rfl,M1,by rw [h00],rfl,by rw [h00];exact hrep1⟩
 ·first | refine J (EZ Z Z Z) ?_ | refine J (Ea Z Z Z) ?_ | refine J (EF Z Z Z) ?_ | refine J (E0 Try.underlying23 Z Z Z) ?_ | refine J (E5 Try.underlying23 Z Z Z) ?_ | refine J (E4 Try.underlying23 Z Z) ?_ | refine J (E9 Try.underlying23 Z Z) ?_ | refine J (E8 Try.underlying23 Z Z) ?_ | refine J (E3 Try.underlying23 Z Z Z) ?_ | refine J (E7 Try.underlying23 Z Z) ?_
  refine AF (D4 rfl (rfl) (Ai (AG (AG (Ee [[],[0],[0,1],[0,1,2],[],[0,1,2,3,4],[],[0,1,2,3,4,5,6],[0,1,2,3,4,5,6,7]] mixed rfl (DL ?_))))))
  first | refine AD [0] [] Z Z (fun _=>AB (A9 Z Z)) ?_ | refine AH [0] Z Z (fun _=>AB (A9 Z Z)) ?_
  first | refine AD [11] [] Z Z (fun _=>AB (FJ Z Z)) ?_ | refine AH [11] Z Z (fun _=>AB (FJ Z Z)) ?_ | refine AD [11] [] Z Z (fun _=>AB (FG Z Z)) ?_ | refine AH [11] Z Z (fun _=>AB (FG Z Z)) ?_ | refine AD [11] [] Z Z (fun _=>AB (FK Z Z)) ?_ | refine AH [11] Z Z (fun _=>AB (FK Z Z)) ?_ | refine AD [11] [] Z Z (fun _=>AB (FH Z Z)) ?_ | refine AH [11] Z Z (fun _=>AB (FH Z Z)) ?_
  first | refine AD [12] [] Z Z (fun _=>AB (A1 rfl A5 Z Z Z)) ?_ | refine AH [12] Z Z (fun _=>AB (A1 rfl A5 Z Z Z)) ?_ | refine AD [12] [] Z Z (fun _=>AB (A3 rfl A5 Z Z Z)) ?_ | refine AH [12] Z Z (fun _=>AB (A3 rfl A5 Z Z Z)) ?_ | refine AD [12] [] Z Z (fun _=>AB (A4 rfl A5 Z Z Z)) ?_ | refine AH [12] Z Z (fun _=>AB (A4 rfl A5 Z Z Z)) ?_ | refine AD [12] [] Z Z (fun _=>AB (A2 rfl A5 Z Z Z)) ?_ | refine AH [12] Z Z (fun _=>AB (A2 rfl A5 Z Z Z)) ?_ | refine AD [12] [] Z Z (fun _=>AB (A0 rfl A5 Z Z Z)) ?_ | refine AH [12] Z Z (fun _=>AB (A0 rfl A5 Z Z Z)) ?_
  first | refine AD [13] [] Z Z (fun _=>AB (Ft (f:=40) Z Z (hr.cell) rfl Bk rfl)) ?_ | refine AH [13] Z Z (fun _=>AB (Ft (f:=40) Z Z (hr.cell) rfl Bk rfl)) ?_
  first | refine AD [1] [] Z Z (fun _=>AB (A9 Z Z)) ?_ | refine AH [1] Z Z (fun _=>AB (A9 Z Z)) ?_
  first | refine AD [14,15] [] Z Z (fun _=>AB (H8 (f:=40) (eE E) (l.f) (none) _ Z Z (hr.top) rfl Bu Ec EH Z Z)) ?_ | refine AH [14,15] Z Z (fun _=>AB (H8 (f:=40) (eE E) (l.f) (none) _ Z Z (hr.top) rfl Bu Ec EH Z Z)) ?_
  first | refine AD [5] [] Z Z (fun _=>AB (BN Z Z As rfl)) ?_ | refine AH [5] Z Z (fun _=>AB (BN Z Z As rfl)) ?_ | refine AD [5] [] Z Z (fun _=>AB (BO Z Z As Z Z Z)) ?_ | refine AH [5] Z Z (fun _=>AB (BO Z Z As Z Z Z)) ?_ | refine AD [5] [] Z Z (fun _=>AB (BP Z Z (rfl) rfl As rfl)) ?_ | refine AH [5] Z Z (fun _=>AB (BP Z Z (rfl) rfl As rfl)) ?_
  refine DM 7 Z Z Z (BI 8 Z Z ?_);rw [eE_none fun hh=>hfR ((hl.ks _).1 hh)];refine J (PY (eK:=lkD) ⟨l.t,l.r⟩ Z Z FT Hw za4 rfl) (AF ⟨rfl,?_⟩);refine BI 9 Z Z ?_
  first | refine J (EG Z Z) ?_ | refine J (EE Z Z) ?_
  refine AF ⟨rfl,?_⟩;refine ED (IE rfl (rfl) (AG (AI (AE Z Z (AF (Au ?_))))));have h9:unlW w l=(w,9):=unl9 fun hh=>by first | exact h19 ((hl.ls _ hm _).2 hh) | exact hfR (hw.lk l hh).1
  exact ⟨_,[40],_,Aq rfl,rfl,rfl,M,by rw [h9],rfl,by rw [h9];exact hrep⟩
theorem MZ {M:MF} {b:Nat} {w:Ws} (h:BR M b w) (hw:BV w) (hK:w.K.length≤1000000):AR Try.prog 19 [.d (pD b 0)] [(40,[.multi M])] fun r H'=>r= .d (DJ (groupsW w))∧H'=[(40,[.multi M])]:=by
 refine DA Try.func19 Z Z Try.ntmps19 Z Z Z fun F hF=>(AG (AI (AE Z Z (AF (AG (AG (AI (AC Z Z ?_))))))))
 first | refine J (EZ Z Z Z) ?_ | refine J (Ea Z Z Z) ?_ | refine J (EF Z Z Z) ?_ | refine J (E0 Try.underlying23 Z Z Z) ?_ | refine J (E5 Try.underlying23 Z Z Z) ?_ | refine J (E4 Try.underlying23 Z Z) ?_ | refine J (E9 Try.underlying23 Z Z) ?_ | refine J (E8 Try.underlying23 Z Z) ?_ | refine J (E3 Try.underlying23 Z Z Z) ?_ | refine J (E7 Try.underlying23 Z Z) ?_
 refine AF (D4 rfl (rfl) (Ai (AG (AI (AC Z Z (U (GD (Gj h hw hK) rfl [40] ⟨rfl,trivial⟩ Z Z Z Z Z Z Z Z Z) (AC Z Z ?_)))))))
 first | refine J (B4 Z Z Z) ?_ | refine J (B5 Z Z Z) ?_
 first | refine J (B4 Z Z Z) ?_ | refine J (B5 Z Z Z) ?_
 refine AE Z Z (AE Z Z (AF (AG (AI (AC Z Z (AE Z Z (AF (Au ?_))))))));exact ⟨_,[40],_,Aq rfl,rfl,rfl,rfl,rfl⟩
theorem RN {M:MF} {b:Nat} {w:Ws} (h:BR M b w) (hw:BV w) (hK:w.K.length≤1000000) (a:St):AR Try.prog 23 [.d (pD b 0),.d (AZ a)] [(40,[.multi M])] fun r H'=>r= .d (if a∈w.R then stsD (cloW w a false) else .sl (some true) [])∧H'=[(40,[.multi M])]:=by
 refine DA Try.func23 Z Z Try.ntmps23 Z Z Z fun F hF=>(AG (AI (AE Z Z ?_)));refine AF (AG (AI (AC Z Z (AC Z Z (U (GD (cloF_c h hw hK a) rfl [40] ⟨rfl,trivial⟩ Z Z Z Z Z Z Z Z Z) (AE Z Z (AF (Au ?_))))))));exact ⟨_,[40],_,Aq rfl,rfl,rfl,rfl,rfl⟩
abbrev sa:St:=[97]
abbrev sb:St:=[98]
abbrev sc:St:=[99]
abbrev w1:Ws:=⟨[sa],[]⟩
abbrev w2:Ws:=⟨[sa,sb],[]⟩
abbrev w3:Ws:=⟨[sa,sb,sc],[]⟩
abbrev w4:Ws:=⟨[sa,sb,sc],[⟨sa,0,sb⟩]⟩
abbrev w5:Ws:=⟨[sa,sb,sc],[⟨sa,0,sb⟩,⟨sc,1,sa⟩]⟩
theorem Kz:addW ⟨[],[]⟩ sa=(w1,0):=by unfold addW;rw [if_neg (by decide),if_neg (by decide),if_neg (by decide)];rfl
theorem NS:addW w1 sb=(w2,0):=by unfold addW;rw [if_neg (by decide),if_neg (by decide),if_neg (by decide)];rfl
theorem Qg:addW w2 sc=(w3,0):=by unfold addW;rw [if_neg (by decide),if_neg (by decide),if_neg (by decide)];rfl
theorem k_ok1:BV w1:=by have:=(C8.nil.add sa).ok;rw [Kz] at this;exact this
theorem k_ok2:BV w2:=by have:=((C8.nil.add sa).add sb).ok;rw [Kz,NS] at this;exact this
theorem k_ok3:BV w3:=by have:=(((C8.nil.add sa).add sb).add sc).ok;rw [Kz,NS,Qg] at this;exact this
theorem Qb:BV w4:=k_ok3.with_ (l:=⟨sa,0,sb⟩) (by decide) (by decide) (by decide) (by decide) (by decide)
theorem Gv:BV w5:=Qb.with_ (l:=⟨sc,1,sa⟩) (by decide) (by decide) (by decide) (by decide) (by decide)
theorem k_con {x y:St}:HF w5 x y↔x=y∨(x=sa∧y=sb)∨(x=sb∧y=sa):=by
 constructor
 ·intro h;refine BU.closed (p:=fun y=>x=y∨(x=sa∧y=sb)∨(x=sb∧y=sa)) (fun p q hp hq=>?_) (.inl rfl) h
  simp [Jd] at hq
  rcases hq with ⟨rfl,rfl⟩ | ⟨rfl,rfl⟩
  ·rcases hp with rfl | ⟨rfl,e⟩ | ⟨rfl,e⟩
   ·exact .inr (.inl ⟨rfl,rfl⟩)
   ·exact absurd e (by decide)
   ·exact .inl rfl
  ·rcases hp with rfl | ⟨rfl,e⟩ | ⟨rfl,e⟩
   ·exact .inr (.inr ⟨rfl,rfl⟩)
   ·exact .inl rfl
   ·exact absurd e (by decide)
 ·rintro (rfl | ⟨rfl,rfl⟩ | ⟨rfl,rfl⟩)
  ·exact .refl
  ·exact BU.one (.inl (by simp))
  ·exact BU.one (.inr (by simp))
theorem k_acy4:acyW w4=true:=by
 rw [F6 Qb];rintro ⟨Y,⟨x,hx⟩,h⟩;obtain ⟨_,l,hl,ht,_⟩:=h x hx;rw [List.mem_singleton.1 hl] at ht;exact absurd ht (by decide)
theorem k_acy5:acyW w5=true:=by
 rw [F6 Gv];rintro ⟨Y,⟨x,hx⟩,h⟩
 have key:∀x,Y x ->HF w5 x sc∧Y sa:=fun x hx=>by
  obtain ⟨_,l,hl,ht,hc,_,hy⟩:=h x hx;rcases List.mem_cons.1 hl with rfl | hl
  ·exact absurd ht (by decide)
  ·rw [List.mem_singleton.1 hl] at hc hy;exact ⟨hc,hy⟩
 have h1:=(key _ (key x hx).2).1;rw [k_con] at h1;exact absurd h1 (by decide)
theorem k_lnk1:lnkW w3 ⟨sa,0,sb⟩=(w4,0):=by rw [NQ (by decide) (by decide) (by decide) (by decide) (by decide)];exact if_pos k_acy4
theorem k_lnk2:lnkW w4 ⟨sc,1,sa⟩=(w5,0):=by rw [NQ (by decide) (by decide) (by decide) (by decide) (by decide)];exact if_pos k_acy5
theorem Ky {x y:St}:HF (BW w5 ⟨sb,1,sc⟩) x y↔HF w5 x y:=by
 constructor<;>refine BU.mono fun p q hq=>?_
 ·simp [Jd,BW] at hq⊢;exact hq
 ·simp [Jd,BW] at hq⊢;exact hq
theorem k_lnk3:lnkW w5 ⟨sb,1,sc⟩=(w5,26):=by
 rw [NQ (by decide) (by decide) (by decide) (by decide) (by decide)];refine if_neg fun h=>?_;rw [F6 (Gv.with_ (l:=⟨sb,1,sc⟩) (by decide) (by decide) (by decide) (by decide) (by decide))] at h;refine h ⟨fun x=>x∈w5.R,⟨sa,by decide⟩,fun x hx=>⟨hx,?_⟩⟩;have hx':x=sa∨x=sb∨x=sc:=by simpa using hx
 rcases hx' with rfl | rfl | rfl
 ·exact ⟨⟨sb,1,sc⟩,by simp [BW],rfl,Ky.2 (k_con.2 (by decide)),fun hh=>absurd (k_con.1 (Ky.1 hh)) (by decide),by decide⟩
 ·exact ⟨⟨sb,1,sc⟩,by simp [BW],rfl,.refl,fun hh=>absurd (k_con.1 (Ky.1 hh)) (by decide),by decide⟩
 ·exact ⟨⟨sc,1,sa⟩,by simp [BW],rfl,.refl,fun hh=>absurd (k_con.1 (Ky.1 hh)) (by decide),by decide⟩
theorem k_cls:cls w5 sa=[sa,sb]∧cls w5 sc=[sc]:=by
 unfold cls;simp only [k_con]
 constructor<;>rfl
open Classical in
theorem Kx:parts w5=[[sa,sb],[sc]]:=by
 unfold parts
 have h1:Jg w5 sa:=fun x hx hc=>by
  rcases k_con.1 hc with rfl | ⟨_,rfl⟩ | ⟨e,_⟩
  ·decide
  ·decide
  ·exact absurd e (by decide)
 have h2:¬Jg w5 sb:=fun h=>h sa (by decide) (k_con.2 (by decide)) (by decide)
 have h3:Jg w5 sc:=fun x hx hc=>by
  rcases k_con.1 hc with rfl | ⟨e,_⟩ | ⟨e,_⟩
  ·decide
  ·exact absurd e (by decide)
  ·exact absurd e (by decide)
 show List.map _ (List.filter _ [sa,sb,sc])=_;rw [List.filter_cons_of_pos (p:=fun a=>decide (Jg w5 a)) (by exact decide_eq_true h1),List.filter_cons_of_neg (p:=fun a=>decide (Jg w5 a)) (by show ¬decide (Jg w5 sb)=true;rw [decide_eq_true_eq];exact h2),List.filter_cons_of_pos (p:=fun a=>decide (Jg w5 a)) (by exact decide_eq_true h3),List.filter_nil,List.map_cons,List.map_cons,k_cls.1,k_cls.2];rfl
theorem Nw:idx w5 sa=0∧idx w5 sb=0∧idx w5 sc=1:=by
 unfold idx;rw [Kx];decide
theorem Qe:depL w5 0=[]:=by
 refine List.eq_nil_iff_forall_not_mem.2 fun k hk=>?_;obtain ⟨_,l,hl,ht,hf,_⟩:=(By Gv).1 hk;rcases List.mem_cons.1 hl with rfl | hl
 ·exact absurd ht (by decide)
 ·rw [List.mem_singleton.1 hl] at hf;rw [show idx w5 sc=1 from Nw.2.2] at hf;cases hf
theorem Qd:depL w5 1=[0]:=by
 refine I8 (Gy _ _) (by simp) fun k=>?_;rw [By Gv]
 constructor
 ·rintro ⟨_,l,hl,ht,hf,hr⟩;rcases List.mem_cons.1 hl with rfl | hl
  ·exact absurd ht (by decide)
  ·rw [List.mem_singleton.1 hl] at hr;rw [show idx w5 sa=0 from Nw.1] at hr;simp [←hr]
 ·intro hk;rw [List.mem_singleton.1 hk];exact ⟨by decide,⟨sc,1,sa⟩,by decide,rfl,Nw.2.2,Nw.1⟩
theorem k_ord:ordW w5=some [0,1]:=by
 unfold ordW;rw [Kx];have h0:HW 2 (depL w5) []=some 0:=Em (by decide) (CY.2 ⟨by simp,by rw [Qe];simp⟩) (fun j hj=>by omega)
 have h1:HW 2 (depL w5) [0]=some 1:=Em (by decide) (CY.2 ⟨by simp,by rw [Qd];simp⟩) (fun j hj=>by
  have:j=0:=by omega
  subst this
  rw [Bool.eq_false_iff];intro h;exact (CY.1 h).1 (by simp))
 show Gc 2 (depL w5) 2 []=_;simp only [Gc,h0,List.nil_append,h1]
 rfl
theorem Qc:groupsW w5=[⟨[sa,sb],[]⟩,⟨[sc],[0]⟩]:=by
 rw [(IS k_ord).1];unfold grpS EY;rw [Kx]
 simp [List.range_succ,Qe,Qd]
theorem Qf:cloW w5 sc false=[sa,sb,sc]:=by
 refine IK (RK Gv _ _) Gv.srt fun x=>?_;rw [ML];refine ⟨fun h=>h.1,fun h=>⟨h,?_⟩⟩;have h1:BU (Stp w5 false) sc sa:=BU.one (.inr (show (⟨sc,1,sa⟩:Lw)∈w5.K by decide));have hx:x=sa∨x=sb∨x=sc:=by simpa using h
 rcases hx with rfl | rfl | rfl
 ·exact h1
 ·exact h1.tail (.inl (.inl (by decide)))
 ·exact .refl
theorem CT {l:List St} {k:Nat} (h:k<l.length):(l.map AZ)[k]?=some (AZ (l.getD k [])):=by
 rw [List.getElem?_map,List.getElem?_eq_getElem h,List.getD_eq_getElem?_getD,List.getElem?_eq_getElem h];rfl
theorem Ng {l l':List St} {k:Nat} (h1:k<l.length) (h2:k<l'.length) (h:l.take k=l'.take k) (e:l.getD k []=l'.getD k []):l.take (k+1)=l'.take (k+1):=by
 rw [List.take_succ_eq_append_getElem h1,List.take_succ_eq_append_getElem h2,h];rw [List.getD_eq_getElem?_getD,List.getElem?_eq_getElem h1,List.getD_eq_getElem?_getD,List.getElem?_eq_getElem h2] at e;exact congrArg (fun x=>l'.take k++ [x]) e
theorem iOq (l l':List St) (hl:l.length≤1000000):B3 Try.prog 20 [.d (stsD l),.d (stsD l')] (Ak (decide (l=l'))):=by
 refine DA Try.func20 Z Z Try.ntmps20 Z Z Z fun F hF=>(AG (AI ?_));refine AE Z Z (AF (AG (AG (AI (AC Z Z (J (Br rfl (List.length_map ..) Try.underlying32 rfl) (AC Z Z (J (Br rfl (List.length_map ..) Try.underlying32 rfl) ?_))))))))
 first | refine J (G3 Z Z Z) ?_ | refine J (G0 Z Z Z) ?_ | refine J (GX Z Z Z) ?_ | refine J (G4 Try.underlying3 Z Z Z) ?_ | refine J (G6 Try.underlying3 Z Z Z) ?_ | refine J (st_neqN Try.underlying3 Z Z) ?_ | refine J (GZ Try.underlying3 Z Z) ?_ | refine J (st_neqMz Try.underlying3 Z Z) ?_ | refine J (G5 Try.underlying3 Z Z Z) ?_ | refine J (st_neqFN Try.underlying3 Z Z) ?_
 refine AF ?_
 first | refine BA rfl (fun h10=>?_) (fun h10=>?_) | refine Az rfl (fun h10=>?_) (fun h10=>?_)
 ·refine AG (AI (AE Z Z (AF (Au ?_))));exact ⟨_,[],[],Aq rfl,rfl,rfl,by rw [decide_eq_false fun e=>h10 (by rw [e])],rfl⟩
 ·refine Ai (AG (AG ?_));have hll:l.length=l'.length:=Int.ofNat.inj (Classical.not_not.1 h10);refine AI (AE Z Z (AF (B7 (Na (α:=Nat) (fun k=>⟨26,[(0,.d (stsD l)),(1,.d (stsD l')),(5,(.d (natD k)))],[]⟩) (fun k=>k≤l.length∧l.take k=l'.take k) (fun k=>l.length - k) (0) (⟨Nat.zero_le _,rfl⟩) (Fj ⟨rfl,rfl,rfl,trivial⟩) ?_))));rintro k ⟨hk,he⟩;refine AG (AG (AI (AC Z Z (AC Z Z (J (Br rfl (List.length_map ..) Try.underlying32 rfl) ?_)))))
  first | refine J (Ed Z Z Z) ?_ | refine J (Ef Z Z Z) ?_
  refine AF ?_
  first | refine BA rfl (fun h14=>?_) (fun h14=>?_) | refine Az rfl (fun h14=>?_) (fun h14=>?_)
  ·refine Ai (AG (B7 (AG ?_)));have hkl:k<l.length:=HB h14;have hkl':k<l'.length:=by omega
   refine Ee [[],[],[0,1],[0,1,2],[],[],[4,5],[4,5,6],[0,1,2,3,4,5,6,7]] mixed rfl (DL ?_)
   first | refine AD [0] [] Z Z (fun _=>AB (A9 Z Z)) ?_ | refine AH [0] Z Z (fun _=>AB (A9 Z Z)) ?_
   first | refine AD [5] [] Z Z (fun _=>AB (A9 Z Z)) ?_ | refine AH [5] Z Z (fun _=>AB (A9 Z Z)) ?_
   first | refine AD [17,18] [] Z Z (fun _=>AB (BE (k) Z Z (rfl) (CT hkl) Try.underlying32 rfl DO rfl)) ?_ | refine AH [17,18] Z Z (fun _=>AB (BE (k) Z Z (rfl) (CT hkl) Try.underlying32 rfl DO rfl)) ?_ | refine AD [17,18] [] Z Z (fun _=>AB (BF (k) Z Z (rfl) (CT hkl) rfl Try.underlying32 DO rfl)) ?_ | refine AH [17,18] Z Z (fun _=>AB (BF (k) Z Z (rfl) (CT hkl) rfl Try.underlying32 DO rfl)) ?_
   first | refine AD [19] [] Z Z (fun _=>AB (AX Z Z AY rfl)) ?_ | refine AH [19] Z Z (fun _=>AB (AX Z Z AY rfl)) ?_ | refine AD [19] [] Z Z (fun _=>AB (AU Z Z Z AY rfl)) ?_ | refine AH [19] Z Z (fun _=>AB (AU Z Z Z AY rfl)) ?_ | refine AD [19] [] Z Z (fun _=>AB (AW Z Z (rfl) rfl AY rfl)) ?_ | refine AH [19] Z Z (fun _=>AB (AW Z Z (rfl) rfl AY rfl)) ?_
   first | refine AD [1] [] Z Z (fun _=>AB (A9 Z Z)) ?_ | refine AH [1] Z Z (fun _=>AB (A9 Z Z)) ?_
   first | refine AD [5] [] Z Z (fun _=>AB (A9 Z Z)) ?_ | refine AH [5] Z Z (fun _=>AB (A9 Z Z)) ?_
   first | refine AD [21,22] [] Z Z (fun _=>AB (BE (k) Z Z (rfl) (CT hkl') Try.underlying32 rfl DO rfl)) ?_ | refine AH [21,22] Z Z (fun _=>AB (BE (k) Z Z (rfl) (CT hkl') Try.underlying32 rfl DO rfl)) ?_ | refine AD [21,22] [] Z Z (fun _=>AB (BF (k) Z Z (rfl) (CT hkl') rfl Try.underlying32 DO rfl)) ?_ | refine AH [21,22] Z Z (fun _=>AB (BF (k) Z Z (rfl) (CT hkl') rfl Try.underlying32 DO rfl)) ?_
   first | refine AD [23] [] Z Z (fun _=>AB (AX Z Z AY rfl)) ?_ | refine AH [23] Z Z (fun _=>AB (AX Z Z AY rfl)) ?_ | refine AD [23] [] Z Z (fun _=>AB (AU Z Z Z AY rfl)) ?_ | refine AH [23] Z Z (fun _=>AB (AU Z Z Z AY rfl)) ?_ | refine AD [23] [] Z Z (fun _=>AB (AW Z Z (rfl) rfl AY rfl)) ?_ | refine AH [23] Z Z (fun _=>AB (AW Z Z (rfl) rfl AY rfl)) ?_
   refine DM 8 Z Z Z (BI 9 Z Z ?_)
   first | refine J (G3 Z Z Z) ?_ | refine J (G0 Z Z Z) ?_ | refine J (GX Z Z Z) ?_ | refine J (G4 Try.underlying9 Z Z Z) ?_ | refine J (G6 Try.underlying9 Z Z Z) ?_ | refine J (st_neqN Try.underlying9 Z Z) ?_ | refine J (GZ Try.underlying9 Z Z) ?_ | refine J (st_neqMz Try.underlying9 Z Z) ?_ | refine J (G5 Try.underlying9 Z Z Z) ?_ | refine J (st_neqFN Try.underlying9 Z Z) ?_
   refine AF ⟨rfl,?_⟩;refine ED ?_
   first | refine BA rfl (fun h25=>?_) (fun h25=>?_) | refine Az rfl (fun h25=>?_) (fun h25=>?_)
   ·refine AG (AI (AE Z Z (AF (Au ?_))));exact ⟨_,[],[],Aq rfl,rfl,rfl,by rw [decide_eq_false fun e=>h25 (by rw [e])],rfl⟩
   ·refine Ai (AI (AC Z Z (J (Cm Z Z (IntWalk.i64_in _ (by omega)) rfl) (AE Z Z (AF ?_)))));exact ⟨k+1,⟨hkl,Ng hkl (by omega) he (Classical.not_not.1 h25)⟩,by omega,⟨rfl,rfl,fun _ _=>Has.get (l:=[(0,_),(1,_),(5,_)]) ⟨rfl,rfl,rfl,trivial⟩⟩⟩
  ·refine Dq (AG ?_);have hke:k=l.length:=by have:=h14;omega
   refine AI (AE Z Z (AF (Au ?_)));exact ⟨_,[],[],Aq rfl,rfl,rfl,by rw [decide_eq_true (by have h1:=he;rw [hke,List.take_length,hll,List.take_length] at h1;exact h1)],rfl⟩
theorem known_p:B3 Try.prog 10 [] (.raw (.bool true)):=by
 refine DA Try.func10 Z Z Try.ntmps10 Z Z Z fun F hF=>(AG (AI (AE Z Z (AF (AG (AI ?_))))));refine H7 (IZ QW rfl [40] ⟨rfl,trivial⟩ Z Z Z Z (fun r H' ⟨b,M,e1,e2,_⟩=>by subst e1 e2;exact ⟨rfl,rfl,rfl⟩) rfl) rfl ?_;rintro _ ⟨r,H',⟨b,M0,e1,e2,h0⟩,rfl⟩;subst e1 e2;refine AE Z Z (AF (AG (AG (AI (AC Z Z ?_)))))
 first | refine J (EZ Z Z Z) ?_ | refine J (Ea Z Z Z) ?_ | refine J (EF Z Z Z) ?_ | refine J (E0 Try.underlying23 Z Z Z) ?_ | refine J (E5 Try.underlying23 Z Z Z) ?_ | refine J (E4 Try.underlying23 Z Z) ?_ | refine J (E9 Try.underlying23 Z Z) ?_ | refine J (E8 Try.underlying23 Z Z) ?_ | refine J (E3 Try.underlying23 Z Z Z) ?_ | refine J (E7 Try.underlying23 Z Z) ?_
 refine AC Z Z (CZ 6 rfl (rfl) (A8 Z Z Z (AC Z Z (A8 Z Z Z ?_))));refine H7 (IZ (OF h0 C8.nil.ok sa) rfl [40] ⟨rfl,trivial⟩ Z Z Z Z (fun r H' ⟨M,e1,e2,_⟩=>by subst e1 e2;exact ⟨rfl,rfl,rfl⟩) rfl) rfl ?_;rintro _ ⟨r,H',⟨M1,e1,e2,h1⟩,rfl⟩;subst e1 e2;rw [Kz] at h1⊢;refine A8 Z Z Z ?_
 first | refine J (G3 Z Z Z) ?_ | refine J (G0 Z Z Z) ?_ | refine J (GX Z Z Z) ?_ | refine J (G4 Try.underlying25 Z Z Z) ?_ | refine J (G6 Try.underlying25 Z Z Z) ?_ | refine J (st_neqN Try.underlying25 Z Z) ?_ | refine J (GZ Try.underlying25 Z Z) ?_ | refine J (st_neqMz Try.underlying25 Z Z) ?_ | refine J (G5 Try.underlying25 Z Z Z) ?_ | refine J (st_neqFN Try.underlying25 Z Z) ?_
 refine J (Ey Z Z Z Z) (AC Z Z (CZ 11 rfl (rfl) (A8 Z Z Z (AC Z Z (A8 Z Z Z ?_)))));refine H7 (IZ (OF h1 k_ok1 sb) rfl [40] ⟨rfl,trivial⟩ Z Z Z Z (fun r H' ⟨M,e1,e2,_⟩=>by subst e1 e2;exact ⟨rfl,rfl,rfl⟩) rfl) rfl ?_;rintro _ ⟨r,H',⟨M2,e1,e2,h2⟩,rfl⟩;subst e1 e2;rw [NS] at h2⊢;refine A8 Z Z Z ?_
 first | refine J (G3 Z Z Z) ?_ | refine J (G0 Z Z Z) ?_ | refine J (GX Z Z Z) ?_ | refine J (G4 Try.underlying25 Z Z Z) ?_ | refine J (G6 Try.underlying25 Z Z Z) ?_ | refine J (st_neqN Try.underlying25 Z Z) ?_ | refine J (GZ Try.underlying25 Z Z) ?_ | refine J (st_neqMz Try.underlying25 Z Z) ?_ | refine J (G5 Try.underlying25 Z Z Z) ?_ | refine J (st_neqFN Try.underlying25 Z Z) ?_
 refine J (Ey Z Z Z Z) (AC Z Z (CZ 16 rfl (rfl) (A8 Z Z Z (AC Z Z (A8 Z Z Z ?_)))));refine H7 (IZ (OF h2 k_ok2 sc) rfl [40] ⟨rfl,trivial⟩ Z Z Z Z (fun r H' ⟨M,e1,e2,_⟩=>by subst e1 e2;exact ⟨rfl,rfl,rfl⟩) rfl) rfl ?_;rintro _ ⟨r,H',⟨M3,e1,e2,h3⟩,rfl⟩;subst e1 e2;rw [Qg] at h3⊢;refine A8 Z Z Z ?_
 first | refine J (G3 Z Z Z) ?_ | refine J (G0 Z Z Z) ?_ | refine J (GX Z Z Z) ?_ | refine J (G4 Try.underlying25 Z Z Z) ?_ | refine J (G6 Try.underlying25 Z Z Z) ?_ | refine J (st_neqN Try.underlying25 Z Z) ?_ | refine J (GZ Try.underlying25 Z Z) ?_ | refine J (st_neqMz Try.underlying25 Z Z) ?_ | refine J (G5 Try.underlying25 Z Z Z) ?_ | refine J (st_neqFN Try.underlying25 Z Z) ?_
 refine J (Ey Z Z Z Z) (AC Z Z (CZ 21 rfl (rfl) (A8 Z Z Z (AC Z Z (A8 Z Z Z (J (Ml LV Pu Z Z Z) (A8 Z Z Z ?_)))))));refine H7 (IZ (Ku h3 k_ok3 (by decide) ⟨sa,0,sb⟩) rfl [40] ⟨rfl,trivial⟩ Z Z Z Z (fun r H' ⟨M,e1,e2,_⟩=>by subst e1 e2;exact ⟨rfl,rfl,rfl⟩) rfl) rfl ?_;rintro _ ⟨r,H',⟨M4,e1,e2,h4⟩,rfl⟩;subst e1 e2;rw [k_lnk1] at h4⊢;refine A8 Z Z Z ?_
 first | refine J (G3 Z Z Z) ?_ | refine J (G0 Z Z Z) ?_ | refine J (GX Z Z Z) ?_ | refine J (G4 Try.underlying25 Z Z Z) ?_ | refine J (G6 Try.underlying25 Z Z Z) ?_ | refine J (st_neqN Try.underlying25 Z Z) ?_ | refine J (GZ Try.underlying25 Z Z) ?_ | refine J (st_neqMz Try.underlying25 Z Z) ?_ | refine J (G5 Try.underlying25 Z Z Z) ?_ | refine J (st_neqFN Try.underlying25 Z Z) ?_
 refine J (Ey Z Z Z Z) (AC Z Z (CZ 27 rfl (rfl) (A8 Z Z Z (AC Z Z (A8 Z Z Z (J (Ml LV Pu Z Z Z) (A8 Z Z Z ?_)))))));refine H7 (IZ (Ku h4 Qb (by decide) ⟨sc,1,sa⟩) rfl [40] ⟨rfl,trivial⟩ Z Z Z Z (fun r H' ⟨M,e1,e2,_⟩=>by subst e1 e2;exact ⟨rfl,rfl,rfl⟩) rfl) rfl ?_;rintro _ ⟨r,H',⟨M5,e1,e2,h5⟩,rfl⟩;subst e1 e2;rw [k_lnk2] at h5⊢;refine A8 Z Z Z ?_
 first | refine J (G3 Z Z Z) ?_ | refine J (G0 Z Z Z) ?_ | refine J (GX Z Z Z) ?_ | refine J (G4 Try.underlying25 Z Z Z) ?_ | refine J (G6 Try.underlying25 Z Z Z) ?_ | refine J (st_neqN Try.underlying25 Z Z) ?_ | refine J (GZ Try.underlying25 Z Z) ?_ | refine J (st_neqMz Try.underlying25 Z Z) ?_ | refine J (G5 Try.underlying25 Z Z Z) ?_ | refine J (st_neqFN Try.underlying25 Z Z) ?_
 refine J (Ey Z Z Z Z) (AF ?_);refine D4 rfl (rfl) (Ai (AG (AI (AC Z Z (U (GD (MZ h5 Gv (by decide)) rfl [40] ⟨rfl,trivial⟩ Z Z Z Z Z Z Z Z Z) (AE Z Z (AF (AG ?_))))))));rw [Qc];refine AI (AC Z Z ?_)
 first | refine J (J0 rfl Try.underlying47 rfl) ?_ | refine J (Br Z Z Try.underlying47 rfl) ?_ | refine J (JW rfl Try.underlying47 rfl) ?_ | refine J (JY rfl Try.underlying47 rfl) ?_ | refine J (JV rfl Try.underlying47 rfl) ?_ | refine J (JP rfl Try.underlying47 rfl) ?_
 first | refine J (EZ Z Z Z) ?_ | refine J (Ea Z Z Z) ?_ | refine J (EF Z Z Z) ?_ | refine J (E0 Try.underlying3 Z Z Z) ?_ | refine J (E5 Try.underlying3 Z Z Z) ?_ | refine J (E4 Try.underlying3 Z Z) ?_ | refine J (E9 Try.underlying3 Z Z) ?_ | refine J (E8 Try.underlying3 Z Z) ?_ | refine J (E3 Try.underlying3 Z Z Z) ?_ | refine J (E7 Try.underlying3 Z Z) ?_
 refine AC Z Z (GM 38 rfl (rfl) (A8 Z Z Z (AC Z Z (A8 Z Z Z ?_))))
 first | refine J (BE (0) Z Z (rfl) (rfl) Try.underlying47 rfl DV rfl) ?_ | refine J (BF (0) Z Z (rfl) (rfl) rfl Try.underlying47 DV rfl) ?_
 refine A8 Z Z Z ?_
 first | refine J (A1 rfl K7 Z Z Z) ?_ | refine J (A3 rfl K7 Z Z Z) ?_ | refine J (A4 rfl K7 Z Z Z) ?_ | refine J (A2 rfl K7 Z Z Z) ?_ | refine J (A0 rfl K7 Z Z Z) ?_
 refine A8 Z Z Z ?_
 first | refine J (AX Z Z AL rfl) ?_ | refine J (AU Z Z Z AL rfl) ?_ | refine J (AW Z Z (rfl) rfl AL rfl) ?_
 refine A8 Z Z Z (U (HC 12 Bg Z Z Z Z Z Z Z Z) ?_);refine Fe (emb:=AZ) 43 12 [sa,sb] Z Z Z Z Z Z Z (A8 Z Z Z (J (DE (iOq [sa,sb] [sa,sb] (by decide)) Z Z) (J (G1 Z Z Z Z) (AC Z Z (GM 46 rfl (rfl) (A8 Z Z Z (AC Z Z (A8 Z Z Z ?_))))))))
 first | refine J (BE (1) Z Z (rfl) (rfl) Try.underlying47 rfl DV rfl) ?_ | refine J (BF (1) Z Z (rfl) (rfl) rfl Try.underlying47 DV rfl) ?_
 refine A8 Z Z Z ?_
 first | refine J (A1 rfl K7 Z Z Z) ?_ | refine J (A3 rfl K7 Z Z Z) ?_ | refine J (A4 rfl K7 Z Z Z) ?_ | refine J (A2 rfl K7 Z Z Z) ?_ | refine J (A0 rfl K7 Z Z Z) ?_
 refine A8 Z Z Z ?_
 first | refine J (AX Z Z AL rfl) ?_ | refine J (AU Z Z Z AL rfl) ?_ | refine J (AW Z Z (rfl) rfl AL rfl) ?_
 refine A8 Z Z Z (U (HC 13 Bg Z Z Z Z Z Z Z Z) ?_);refine Fe (emb:=AZ) 51 13 [sc] Z Z Z Z Z Z Z (A8 Z Z Z (J (DE (iOq [sc] [sc] (by decide)) Z Z) (J (G1 Z Z Z Z) (AC Z Z (GM 54 rfl (rfl) (A8 Z Z Z (AC Z Z (A8 Z Z Z ?_))))))))
 first | refine J (BE (1) Z Z (rfl) (rfl) Try.underlying47 rfl DV rfl) ?_ | refine J (BF (1) Z Z (rfl) (rfl) rfl Try.underlying47 DV rfl) ?_
 refine A8 Z Z Z ?_
 first | refine J (A1 rfl Cf Z Z Z) ?_ | refine J (A3 rfl Cf Z Z Z) ?_ | refine J (A4 rfl Cf Z Z Z) ?_ | refine J (A2 rfl Cf Z Z Z) ?_ | refine J (A0 rfl Cf Z Z Z) ?_
 refine A8 Z Z Z ?_
 first | refine J (AX Z Z Ae rfl) ?_ | refine J (AU Z Z Z Ae rfl) ?_ | refine J (AW Z Z (rfl) rfl Ae rfl) ?_
 refine A8 Z Z Z ?_
 first | refine J (J0 rfl Try.underlying49 rfl) ?_ | refine J (Br Z Z Try.underlying49 rfl) ?_ | refine J (JW rfl Try.underlying49 rfl) ?_ | refine J (JY rfl Try.underlying49 rfl) ?_ | refine J (JV rfl Try.underlying49 rfl) ?_ | refine J (JP rfl Try.underlying49 rfl) ?_
 refine A8 Z Z Z ?_
 first | refine J (EZ Z Z Z) ?_ | refine J (Ea Z Z Z) ?_ | refine J (EF Z Z Z) ?_ | refine J (E0 Try.underlying3 Z Z Z) ?_ | refine J (E5 Try.underlying3 Z Z Z) ?_ | refine J (E4 Try.underlying3 Z Z) ?_ | refine J (E9 Try.underlying3 Z Z) ?_ | refine J (E8 Try.underlying3 Z Z) ?_ | refine J (E3 Try.underlying3 Z Z Z) ?_ | refine J (E7 Try.underlying3 Z Z) ?_
 refine J (G1 Z Z Z Z) (AC Z Z (GM 62 rfl (rfl) (A8 Z Z Z (AC Z Z (A8 Z Z Z ?_)))))
 first | refine J (BE (1) Z Z (rfl) (rfl) Try.underlying47 rfl DV rfl) ?_ | refine J (BF (1) Z Z (rfl) (rfl) rfl Try.underlying47 DV rfl) ?_
 refine A8 Z Z Z ?_
 first | refine J (A1 rfl Cf Z Z Z) ?_ | refine J (A3 rfl Cf Z Z Z) ?_ | refine J (A4 rfl Cf Z Z Z) ?_ | refine J (A2 rfl Cf Z Z Z) ?_ | refine J (A0 rfl Cf Z Z Z) ?_
 refine A8 Z Z Z ?_
 first | refine J (AX Z Z Ae rfl) ?_ | refine J (AU Z Z Z Ae rfl) ?_ | refine J (AW Z Z (rfl) rfl Ae rfl) ?_
 refine A8 Z Z Z ?_
 first | refine J (BE (0) Z Z (rfl) (rfl) Try.underlying49 rfl D7 rfl) ?_ | refine J (BF (0) Z Z (rfl) (rfl) rfl Try.underlying49 D7 rfl) ?_
 refine A8 Z Z Z ?_
 first | refine J (AX Z Z Bf rfl) ?_ | refine J (AU Z Z Z Bf rfl) ?_ | refine J (AW Z Z (rfl) rfl Bf rfl) ?_
 refine A8 Z Z Z ?_
 first | refine J (EZ Z Z Z) ?_ | refine J (Ea Z Z Z) ?_ | refine J (EF Z Z Z) ?_ | refine J (E0 Try.underlying3 Z Z Z) ?_ | refine J (E5 Try.underlying3 Z Z Z) ?_ | refine J (E4 Try.underlying3 Z Z) ?_ | refine J (E9 Try.underlying3 Z Z) ?_ | refine J (E8 Try.underlying3 Z Z) ?_ | refine J (E3 Try.underlying3 Z Z Z) ?_ | refine J (E7 Try.underlying3 Z Z) ?_
 refine J (G1 Z Z Z Z) (AC Z Z (GM 71 rfl (rfl) (A8 Z Z Z (AC Z Z (A8 Z Z Z (U (GD (RN h5 Gv (by decide) sc) rfl [40] ⟨rfl,trivial⟩ Z Z Z Z Z Z Z Z Z) ?_))))));rw [if_pos (show sc∈w5.R by decide),Qf];refine A8 Z Z Z (U (HC 14 Bg Z Z Z Z Z Z Z Z) (Fe (emb:=AZ) 74 14 [sa,sb,sc] Z Z Z Z Z Z Z (A8 Z Z Z ?_)));refine J (DE (iOq [sa,sb,sc] [sa,sb,sc] (by decide)) Z Z) (J (G1 Z Z Z Z) (AC Z Z (GM 77 rfl (rfl) (A8 Z Z Z (AC Z Z (A8 Z Z Z (J (Ml LV Pu Z Z Z) (A8 Z Z Z ?_))))))));refine H7 (IZ (Ku h5 Gv (by decide) ⟨sb,1,sc⟩) rfl [40] ⟨rfl,trivial⟩ Z Z Z Z (fun r H' ⟨M,e1,e2,_⟩=>by subst e1 e2;exact ⟨rfl,rfl,rfl⟩) rfl) rfl ?_;rintro _ ⟨r,H',⟨M6,e1,e2,h6⟩,rfl⟩;subst e1 e2;rw [k_lnk3] at h6⊢;refine A8 Z Z Z ?_
 first | refine J (EZ Z Z Z) ?_ | refine J (Ea Z Z Z) ?_ | refine J (EF Z Z Z) ?_ | refine J (E0 Try.underlying25 Z Z Z) ?_ | refine J (E5 Try.underlying25 Z Z Z) ?_ | refine J (E4 Try.underlying25 Z Z) ?_ | refine J (E9 Try.underlying25 Z Z) ?_ | refine J (E8 Try.underlying25 Z Z) ?_ | refine J (E3 Try.underlying25 Z Z Z) ?_ | refine J (E7 Try.underlying25 Z Z) ?_
 refine J (G1 Z Z Z Z) (AE Z Z (AF (Au ?_)));exact ⟨_,[],[],Aq rfl,rfl,rfl,by simp,rfl⟩
section
variable {P:Program} {F:Fr} {s:AS} {d:Nat} {ty T T' E K:TypeId} {pos:String} {aft:Array Edge} {g:Option (Nat×Bool)} {x y:Operand}
theorem P1 {p:Option Addr} (hT:P.underlying T=some (.pointer E)) (hx:s.ev x=some (.d (.raw (.pointer p)))) (hy:s.ev y=some (.d (.raw (.pointer none)))) (hd:Nat.blt d s.n=true):AA P F ⟨some d,.binOp .eql T x y T',ty,pos,aft,g⟩ s d (.d (.raw (.bool p.isNone))):=
 Bl _ hd fun ρ act w hs=>by
  have hv:=hs.raw hx;have hc:=hs.raw hy;have hp:P.pointee T=E:=by unfold Program.pointee;rw [hT]
  exact ⟨.bool p.isNone,by simp [execOp,hv,hc,Cy,binOp,run_equal_pointer_nil w T p (by rw [hp];exact hT)],.d (.raw rfl)⟩
end
abbrev nilS:D:= .raw (.pointer none)
theorem equalN2 (a:Addr):B3 Try.prog 28 [.d (.raw (.pointer (some a))),.d nilS] (Ak false):=by
 refine DA Try.func28 Z Z Try.ntmps28 Z Z Z fun F hF=>(AG (AI (AE Z Z (AF (AG (AG (AI (AC Z Z ?_))))))))
 first | refine J (EZ Z Z Z) ?_ | refine J (Ea Z Z Z) ?_ | refine J (EF Z Z Z) ?_ | refine J (E0 Try.underlying23 Z Z Z) ?_ | refine J (E5 Try.underlying23 Z Z Z) ?_ | refine J (E4 Try.underlying23 Z Z) ?_ | refine J (E9 Try.underlying23 Z Z) ?_ | refine J (E8 Try.underlying23 Z Z) ?_ | refine J (E3 Try.underlying23 Z Z Z) ?_ | refine J (E7 Try.underlying23 Z Z) ?_
 refine AC Z Z (CZ 7 rfl (rfl) (A8 Z Z Z (AC Z Z (A8 Z Z Z ?_))))
 first | refine J (EZ Z Z Z) ?_ | refine J (Ea Z Z Z) ?_ | refine J (EF Z Z Z) ?_ | refine J (E0 Try.underlying23 Z Z Z) ?_ | refine J (E5 Try.underlying23 Z Z Z) ?_ | refine J (E4 Try.underlying23 Z Z) ?_ | refine J (E9 Try.underlying23 Z Z) ?_ | refine J (E8 Try.underlying23 Z Z) ?_ | refine J (E3 Try.underlying23 Z Z Z) ?_ | refine J (E7 Try.underlying23 Z Z) ?_
 refine J (Ey Z Z Z Z) (AF ?_);refine IE rfl (rfl) (AG (AI (AC Z Z (AC Z Z (J (P1 Try.underlying23 Z Z Z) (AE Z Z (AF (Au ?_))))))));exact ⟨_,[],[],Aq rfl,rfl,rfl,rfl,rfl⟩
structure Hs where
 k:Int
 x:St
 l:Lk
abbrev opD (o:Hs):D:= .agg [Bv o.k,AZ o.x,Bv o.l.t,AZ o.l.r]
section
variable {H:Type} {enc:TypeId×Value ->H} {P:Program} {w:World}
theorem C4.asC {α β:Type} {t:TypeId} {k:Nat} {emb:α ->D} {Q:α ->Prop} {emb':β ->D} {Q':β ->Prop} (h:C4 enc P w t k emb Q) (f:α ->β) (he:∀a,Q a ->(emb a).cells=(emb' (f a)).cells) (hq:∀a,Q a ->Q' (f a)):C4 enc P w t k emb' Q':=fun fuel cs x hx hlt hw=>by
 obtain ⟨a,h1,h2,h3⟩:=h fuel cs x hx hlt hw;exact ⟨f a,hq a h1,by rw [←he a h1];exact h2,by unfold Je at h3⊢;rw [←he a h1];exact h3⟩
theorem oLk:C4 enc Try.prog w 39 2 lkD (fun _=>True):=
 (Pz Try.underlying39 (by kernel_rfl) (Io rfl (by kernel_rfl) (Nq Try.underlying3) (Io rfl (by kernel_rfl) (Lt Try.underlying9) QB))).asQ (fun a=>(⟨a.1,a.2.1⟩:Lk)) (fun _ _=>rfl) (fun _ _=>trivial)
theorem oOp:C4 enc Try.prog w 41 4 opD (fun _=>True):=
 (Pz Try.underlying41 (by kernel_rfl) (Io rfl (by kernel_rfl) (Nq Try.underlying3) (Io rfl (by kernel_rfl) (Lt Try.underlying9) (Io rfl (by kernel_rfl) oLk QB)))).asC (fun a=>(⟨a.1,a.2.1,a.2.2.1⟩:Hs)) (fun _ _=>rfl) (fun _ _=>trivial)
end
theorem pt69:Dk Try.prog 69=true:=by kernel_rfl
theorem QZ {M:MF} {r:Nat} {bs:Option (List Nat×Nat)} {es:List (D×D)} (hr:M r=some (.map bs es)):AR Try.prog 42 [.d (mD r)] [(40,[.multi M])] fun x H'=>x= .map 6 0∧H'=[(40,[.multi M]),(6,[.map none es])]:=by
 refine DA Try.func42 Z Z Try.ntmps42 Z Z Z fun F hF=>(AG (AI (AE Z Z (AF (AG (AG (AI (AC Z Z ?_))))))))
 first | refine J (EZ Z Z Z) ?_ | refine J (Ea Z Z Z) ?_ | refine J (EF Z Z Z) ?_ | refine J (E0 Try.underlying69 Z Z Z) ?_ | refine J (E5 Try.underlying69 Z Z Z) ?_ | refine J (E4 Try.underlying69 Z Z) ?_ | refine J (E9 Try.underlying69 Z Z) ?_ | refine J (E8 Try.underlying69 Z Z) ?_ | refine J (E3 Try.underlying69 Z Z Z) ?_ | refine J (E7 Try.underlying69 Z Z) ?_
 refine AF (D4 rfl (rfl) (Ai (AG (AI (AC Z Z ?_)))))
 first | refine J (Kg pt69 Z Z) ?_ | refine J (J3 pt69 Z Z) ?_
 refine o_clone 6 (f:=40) (M:=M) (bs:=bs) (es:=es) (r:=r) Try.func66 Z Z (by kernel_rfl) (by kernel_rfl) Z Z hr Z Z Z pt69 Z Z ?_;skip;refine AE Z Z (AF (Au ?_));exact ⟨_,[40,6],_,Aq rfl,rfl,rfl,rfl,rfl⟩
theorem AR.byX (l:List (Nat×Nat)) {P:Program} {f:FuncId} {args:List AV} {H:Hp} {R:AV ->Hp ->Prop} (h:AR P f args H R) (hl:JM l=true):
  AR P f (Fq (BX l) args) (DC (BX l) H) fun r H'=>∃r0 H0,R r0 H0∧r=r0.ren (BX l)∧H'=DC (BX l) H0:=
 (h.ren (CL hl)).mono fun r H' h=>⟨_,_,h,by rw [AV.ren_ren (CL hl)],by rw [ES (CL hl)]⟩
theorem new41_c:AR Try.prog 11 [] [] fun r H'=>∃b M,r= .d (pD b 0)∧H'=[(41,[.multi M])]∧BR M b ⟨[],[]⟩:=
 (QW.byX [(40,41)] rfl).mono fun r H' ⟨r0,H0,⟨b,M,e1,e2,h⟩,e3,e4⟩=>⟨b,M,by rw [e3,e1];rfl,by rw [e4,e2];rfl,h⟩
def lkO (lk:Nat ->List Lk):Option Nat ->List Lk
 | none=> []
 | some h=>lk h
def kL (lk:Nat ->List Lk) (e:St×Option Nat):St×List Lk:=(e.1,lkO lk e.2)
def kE (lk:Nat ->List Lk) (E:List (St×Nat)):List (St×List Lk):=(eE E).map (kL lk)
theorem LA (lk:Nat ->List Lk) (E:List (St×Nat)):(kE lk E).map Prod.fst=E.map Prod.fst:=by unfold kE;rw [List.map_map,←GU];rfl
theorem Qh {lk:Nat ->List Lk} {E:List (St×Nat)} {x:St} {L:List Lk}:(x,L)∈kE lk E↔∃p∈E,p.1=x∧lk p.2=L:=by
 unfold kE;rw [List.mem_map]
 constructor
 ·rintro ⟨e,he,h⟩;obtain ⟨p,hp,rfl⟩:=List.mem_map.1 he;injection h with h1 h2
  exact ⟨p,hp,h1,h2⟩
 ·rintro ⟨p,hp,h1,h2⟩;exact ⟨(p.1,some p.2),List.mem_map.2 ⟨p,hp,rfl⟩,by rw [←h1,←h2];rfl⟩
theorem kE_snoc {lk:Nat ->List Lk} {E:List (St×Nat)} {x:St} {h:Nat} {L:List Lk} (hn:∀p∈E,p.2≠h):kE (An lk h L) (E++ [(x,h)])=kE lk E++ [(x,L)]:=by
 unfold kE;rw [show eE (E++ [(x,h)])=eE E++ [(x,some h)] from List.map_append ..,List.map_append];refine congr (congrArg _ ?_) ?_
 ·rw [List.map_map,List.map_map];refine List.map_congr_left fun p hp=>?_;show (p.1,An lk h L p.2)=(p.1,lk p.2)
  rw [E6 (hn p hp)]
 ·show [(x,An lk h L h)]=_;rw [Ds]
theorem LR.put {N:MF} {b m:Nat} {E:List (St×Nat)} {lk:Nat ->List Lk} (h:LR N b m E lk) {x:St} {h2:Nat} {L:List Lk} (hb:N h2=none):LR (BD (BD N h2 (.map none (CI L))) m (.map none (CR (E++ [(x,h2)])))) b m (E++ [(x,h2)]) (An lk h2 L):=by
 have h1:b≠h2:=fun e=>by have:=h.cell;rw [e,hb] at this;cases this
 have h3:b≠m:=fun e=>by have:=h.cell;rw [e,h.top] at this;cases this
 have h4:h2≠m:=fun e=>by have:=h.top;rw [←e,hb] at this;cases this
 have h5:∀p∈E,p.2≠h2:=fun p hp e=>by have:=h.sub p hp;rw [e,hb] at this;cases this
 have h6:∀p∈E,p.2≠m:=fun p hp e=>h.ne (by rw [←e];exact List.mem_map_of_mem hp);refine ⟨by rw [Dr h3,Dr h1];exact h.cell,D3 _ _ _,fun p hp=>?_,?_,?_⟩
 ·rcases List.mem_append.1 hp with hp | hp
  ·rw [Dr (h6 p hp),Dr (h5 p hp),E6 (h5 p hp)];exact h.sub p hp
  ·rw [List.mem_singleton.1 hp,Dr h4,D3,Ds]
 ·rw [List.map_append,List.nodup_append];refine ⟨h.nd,by simp,fun a ha c hc e=>?_⟩;obtain ⟨p,hp,rfl⟩:=List.mem_map.1 ha;exact h5 p hp (by rw [e];simpa using hc)
 ·rw [List.map_append,List.mem_append];rintro (hh | hh)
  ·exact h.ne hh
  ·exact h4 (List.mem_singleton.1 hh).symm
theorem LW.kE {E E1:List (St×Nat)} {lk lk1:Nat ->List Lk} {w:Ws} (h:LW E lk w) (hp:(kE lk1 E1).Perm (kE lk E)):LW E1 lk1 w:=by
 have hf:=hp.map Prod.fst;rw [LA,LA] at hf;have key:∀p∈E1,∃q∈E,q.1=p.1∧lk q.2=lk1 p.2:=fun p hp1=>Qh.1 (hp.mem_iff.1 (Qh.2 ⟨p,hp1,rfl,rfl⟩));refine ⟨hf.nodup_iff.2 h.kd,fun x=>hf.mem_iff.trans (h.ks x),fun p hp1=>?_,fun p hp1 l=>?_⟩
 ·obtain ⟨q,hq,_,e⟩:=key p hp1;rw [←e];exact h.ld q hq
 ·obtain ⟨q,hq,e1,e⟩:=key p hp1;rw [←e,←e1];exact h.ls q hq l
theorem BR.empty {N:MF} {b:Nat} (h:BR N b ⟨[],[]⟩):∃m lk,LR N b m [] lk:=by
 obtain ⟨m,E,lk,hr,hl⟩:=h
 have hE:E=[]:=by
  cases E with
  | nil=>rfl
  | cons p r=>exact absurd ((hl.ks p.1).1 (by simp)) (by simp)
 subst hE;exact ⟨m,lk,hr⟩
theorem OD {M:MF} {b:Nat} {w:Ws} (h:BR M b w):AR Try.prog 25 [.d (pD b 0)] [(40,[.multi M])] fun r H'=>∃b1 M1,r= .d (pD b1 0)∧H'=[(40,[.multi M]),(41,[.multi M1])]∧BR M1 b1 w:=by
 obtain ⟨m,E,lk,hr,hl⟩:=h;have hbm:b≠m:=fun e=>by subst e;have:=hr.cell;rw [hr.top] at this;cases this
 have hpm:∀p∈E,p.2≠m:=fun p hp e=>hr.ne (by rw [←e];exact List.mem_map_of_mem hp);refine DA Try.func25 Z Z Try.ntmps25 Z Z Z fun F hF=>(AG (AI (AE Z Z (AF (AG (AG (AI (AC Z Z ?_))))))))
 first | refine J (EZ Z Z Z) ?_ | refine J (Ea Z Z Z) ?_ | refine J (EF Z Z Z) ?_ | refine J (E0 Try.underlying23 Z Z Z) ?_ | refine J (E5 Try.underlying23 Z Z Z) ?_ | refine J (E4 Try.underlying23 Z Z) ?_ | refine J (E9 Try.underlying23 Z Z) ?_ | refine J (E8 Try.underlying23 Z Z) ?_ | refine J (E3 Try.underlying23 Z Z Z) ?_ | refine J (E7 Try.underlying23 Z Z) ?_
 refine AF (D4 rfl (rfl) (Ai (AG (AI ?_))));refine H7 (IZ new41_c rfl [41] ⟨rfl,trivial⟩ Z Z Z Z (fun r H' ⟨b,M,e1,e2,_⟩=>by subst e1 e2;exact ⟨rfl,rfl,rfl⟩) rfl) rfl ?_;rintro _ ⟨r,H',⟨b1,N0,e1,e2,hn⟩,rfl⟩;subst e1 e2;refine AE Z Z (AF (AG (AG ?_)));obtain ⟨m1,lk0,hr0⟩:=hn.empty;refine Zcx 40 m rfl hr.top (fun _ _=>rfl) fun B c hB hBn=>?_
 obtain ⟨M1,hM1⟩:∃M1,BD M m (.map (some (B,c)) (CR E))=M1:=⟨_,rfl⟩
 rw [hM1];have h1b:M1 b=some (.cells 68 [mD m]):=by rw [←hM1,Dr hbm];exact hr.cell
 have h1m:M1 m=some (.map (some (B,c)) (CR E)):=by rw [←hM1,D3]
 have h1s:∀p∈E,M1 p.2=some (.map none (CI (lk p.2))):=fun p hp=>by rw [←hM1,Dr (hpm p hp)];exact hr.sub p hp
 refine AI (AC Z Z ?_)
 first | refine J (FJ Z Z) ?_ | refine J (FG Z Z) ?_ | refine J (FK Z Z) ?_ | refine J (FH Z Z) ?_
 first | refine J (A1 rfl A5 Z Z Z) ?_ | refine J (A3 rfl A5 Z Z Z) ?_ | refine J (A4 rfl A5 Z Z Z) ?_ | refine J (A2 rfl A5 Z Z Z) ?_ | refine J (A0 rfl A5 Z Z Z) ?_
 refine J (Ft (f:=40) Z Z (h1b) rfl Bk rfl) (U (Zct 1 (f:=40) Z Z (h1m) rfl Bu Z Z Z Z) (AF (B7 (FC (α:=List Nat×List (St×Nat)×(Nat ->List Lk)×MF) (fun q=>⟨27,[(3,(.d (pD b1 0))),(13,(.ptr 1 0 0))],[(1,[.iter 40 m c q.1]),(40,[.multi M1]),(41,[.multi q.2.2.2])]⟩) (fun q=>LR q.2.2.2 b1 m1 q.2.1 q.2.2.1∧(kE q.2.2.1 q.2.1++(Ba (eE E) B q.1).map (kL lk)).Perm (kE lk E)) (fun q=>(Ba (eE E) B q.1).length) (([],[],lk0,N0)) (⟨hr0,by show ([]++(Ba (eE E) B []).map _).Perm _;rw [Zcw (by simpa [Ad] using hB)];exact List.Perm.refl _⟩) (BC hF [1,40,41] Z Z ⟨rfl,rfl,trivial⟩) ?_))));rintro ⟨seen,E1,lk1,N⟩ ⟨hr1,hP⟩;dsimp only at hr1 hP⊢;refine AG (AI (DG (eE E) Z Z Z (h1m) rfl (fun hl14=>?_) (fun j14 b14 k14 v14 hm14 hb14 hB14 hp14=>⟨_,rfl,?_⟩)))
 ·rw [hl14] at hP;refine C1 40 m rfl h1m rfl ?_;rw [show BD M1 m (.map none (CR E))=M by rw [←hM1,Mn];exact CE hr.top]
  first | refine J (B4 Z Z Z) ?_ | refine J (B5 Z Z Z) ?_
  refine AF ?_;refine AG (D4 Z Z (Dq (AG (AI (AC Z Z (AE Z Z (AF (Au ?_))))))));exact ⟨_,[40,41],_,Aq rfl,rfl,rfl,b1,N,rfl,rfl,m1,E1,lk1,hr1,hl.kE (by simpa using hP)⟩
 ·first | refine J (B4 Z Z Z) ?_ | refine J (B5 Z Z Z) ?_
  refine AF (AG (IE Z Z (Ai (B7 (AG ?_)))));obtain ⟨hd,hpe,hve⟩:=FV hm14;subst hve
  have hkn:k14∉E1.map Prod.fst:=fun hh=>by
   have h1:=(hP.map Prod.fst).nodup_iff.2 (by rw [LA];exact hl.kd);rw [List.map_append,LA] at h1;exact (List.nodup_append.1 h1).2.2 _ hh _ (List.mem_map.2 ⟨(k14,lk hd),(hp14.map (kL lk)).mem_iff.2 (by simp [kL,lkO]),rfl⟩) rfl
  refine AI (J (Zcv (eE E) j14 b14 Z Z Z (h1m) hm14 hb14 rfl) ?_)
  first | refine J (B4 Z Z Z) ?_ | refine J (B5 Z Z Z) ?_
  first | refine J (B4 Z Z Z) ?_ | refine J (B5 Z Z Z) ?_
  refine AE Z Z (AE Z Z (AF (OH 1 40 95 96 rfl h1m Z Z Z Z Z Z Z Z Z Z (Ee [[],[0],[0,1],[0,1,2],[],[],[5],[0,1,2,3,4,5,6]] mixed rfl (DL ?_)))))
  first | refine AD [3] [] Z Z (fun _=>AB (A9 Z Z)) ?_ | refine AH [3] Z Z (fun _=>AB (A9 Z Z)) ?_
  first | refine AD [19] [] Z Z (fun _=>AB (FJ Z Z)) ?_ | refine AH [19] Z Z (fun _=>AB (FJ Z Z)) ?_ | refine AD [19] [] Z Z (fun _=>AB (FG Z Z)) ?_ | refine AH [19] Z Z (fun _=>AB (FG Z Z)) ?_ | refine AD [19] [] Z Z (fun _=>AB (FK Z Z)) ?_ | refine AH [19] Z Z (fun _=>AB (FK Z Z)) ?_ | refine AD [19] [] Z Z (fun _=>AB (FH Z Z)) ?_ | refine AH [19] Z Z (fun _=>AB (FH Z Z)) ?_
  first | refine AD [20] [] Z Z (fun _=>AB (A1 rfl A5 Z Z Z)) ?_ | refine AH [20] Z Z (fun _=>AB (A1 rfl A5 Z Z Z)) ?_ | refine AD [20] [] Z Z (fun _=>AB (A3 rfl A5 Z Z Z)) ?_ | refine AH [20] Z Z (fun _=>AB (A3 rfl A5 Z Z Z)) ?_ | refine AD [20] [] Z Z (fun _=>AB (A4 rfl A5 Z Z Z)) ?_ | refine AH [20] Z Z (fun _=>AB (A4 rfl A5 Z Z Z)) ?_ | refine AD [20] [] Z Z (fun _=>AB (A2 rfl A5 Z Z Z)) ?_ | refine AH [20] Z Z (fun _=>AB (A2 rfl A5 Z Z Z)) ?_ | refine AD [20] [] Z Z (fun _=>AB (A0 rfl A5 Z Z Z)) ?_ | refine AH [20] Z Z (fun _=>AB (A0 rfl A5 Z Z Z)) ?_
  refine AD [21] [41] Z Z (fun _=>AB (Ft (f:=41) Z Z hr1.cell rfl Bk rfl)) ?_
  first | refine AD [4] [] Z Z (fun _=>AB (A9 Z Z)) ?_ | refine AH [4] Z Z (fun _=>AB (A9 Z Z)) ?_
  first | refine AD [5] [] Z Z (fun _=>AB (A9 Z Z)) ?_ | refine AH [5] Z Z (fun _=>AB (A9 Z Z)) ?_
  refine Bp [24] [40,6] [(25,_)] Z Z (fun _=>IC (GD (QZ (h1s _ hpe)) rfl [40,6] ⟨rfl,rfl,trivial⟩ Z Z Z Z Z Z Z Z Z)) (.inr ⟨25,_,rfl,rfl,rfl,rfl,rfl⟩) Z Z Z Z Z (DM 7 Z Z Z (BI 8 Z Z (HU 25 6 41 hF Z Z Z Z Z Z Z Z Z Z (fun _=>rfl) fun b2 hb2=>?_)));have h5:∀p∈E1,p.2≠b2:=fun p hp e=>by have:=hr1.sub p hp;rw [e,hb2] at this;cases this
  refine U (FN (f:=41) (eE E1) k14 (some b2) Z Z (by rw [Dr (fun e=>by have:=hr1.top;rw [e,hb2] at this;cases this)];exact hr1.top) rfl Bu Ec Z Z) ?_;rw [Qt hkn];refine HT 1 40 95 96 rfl h1m Z Z Z Z Z Z Z (AF ⟨rfl,?_⟩);refine ED ?_;exact ⟨(seen++ [b14],E1++ [(k14,b2)],An lk1 b2 (lk hd),_),⟨hr1.put hb2,by show (kE _ _++_).Perm _;rw [kE_snoc h5];exact DT hP (y:=[(k14,lk hd)]) (by simpa [kL,lkO] using hp14.map (kL lk))⟩,by show (Ba (eE E) B (seen++ [b14])).length<(Ba (eE E) B seen).length;rw [hp14.length_eq];exact Nat.lt_succ_self _,BC hF [1,40,41] rfl (rfl) ⟨rfl,rfl,trivial⟩⟩
theorem lkM_has (l:List Lk) (a:Lk):Gq (Ck l) a=decide (a∈l):=by
 rw [Bool.eq_iff_iff,Bx,Nv,decide_eq_true_eq]
theorem lkM_val {l:List Lk} {k:Lk} {v:Bool} {j:Nat} (h:(Ck l)[j]?=some (k,v)):v=true:=by
 obtain ⟨x,_,e⟩:=List.mem_map.1 (List.mem_of_getElem? h);injection e with _ e
 exact e.symm
def Fx (l1 l2:List Lk):Prop:=l1.length=l2.length∧∀x∈l1,x∈l2
noncomputable instance (l1 l2:List Lk):Decidable (Fx l1 l2):=Classical.propDecidable _
theorem QX {M N:MF} {h1 h2:Nat} {l1 l2:List Lk} (hM:M h1=some (.map none (CI l1))) (hN:N h2=some (.map none (CI l2))):AR Try.prog 45 [.d (mD h1),.d (mD h2)] [(40,[.multi M]),(41,[.multi N])] fun r H'=>r= .d (Ak (decide (Fx l1 l2)))∧H'=[(40,[.multi M]),(41,[.multi N])]:=by
 refine DA Try.func45 Z Z Try.ntmps45 Z Z Z fun F hF=>(AG (AI ?_));refine AE Z Z (AF (AG (AG (AI (AC Z Z (J (EK (f:=40) (n:=l1.length) Z Z hM (by simp [Ad]) FT rfl) (AC Z Z (J (EK (f:=41) (n:=l2.length) Z Z hN (by simp [Ad]) FT rfl) ?_))))))))
 first | refine J (G3 Z Z Z) ?_ | refine J (G0 Z Z Z) ?_ | refine J (GX Z Z Z) ?_ | refine J (G4 Try.underlying3 Z Z Z) ?_ | refine J (G6 Try.underlying3 Z Z Z) ?_ | refine J (st_neqN Try.underlying3 Z Z) ?_ | refine J (GZ Try.underlying3 Z Z) ?_ | refine J (st_neqMz Try.underlying3 Z Z) ?_ | refine J (G5 Try.underlying3 Z Z Z) ?_ | refine J (st_neqFN Try.underlying3 Z Z) ?_
 refine AF ?_
 first | refine BA rfl (fun h13=>?_) (fun h13=>?_) | refine Az rfl (fun h13=>?_) (fun h13=>?_)
 ·refine AG (AI (AE Z Z (AF (Au ?_))));exact ⟨_,[40,41],_,Aq rfl,rfl,rfl,by rw [decide_eq_false fun hh:Fx l1 l2=>h13 (congrArg Int.ofNat hh.1)],rfl⟩
 ·refine Ai (AG (AG ?_));have hll:l1.length=l2.length:=Int.ofNat.inj (Classical.not_not.1 h13);refine Zcx 40 h1 rfl hM (fun _ _=>rfl) fun B c hB hBn=>?_
  obtain ⟨M1,hM1⟩:∃M1,BD M h1 (.map (some (B,c)) (CI l1))=M1:=⟨_,rfl⟩
  rw [hM1];have h1m:M1 h1=some (.map (some (B,c)) (CI l1)):=by rw [←hM1,D3]
  refine AI (AC Z Z (U (Zct 1 (f:=40) Z Z (h1m) rfl FT Z Z Z Z) (AF (B7 (FC (α:=List Nat×List Lk) (fun q=>⟨34,[(1,.d (mD h2)),(15,(.ptr 1 0 0))],[(1,[.iter 40 h1 c q.1]),(40,[.multi M1]),(41,[.multi N])]⟩) (fun q=>(q.2++(Ba (Ck l1) B q.1).map Prod.fst).Perm l1∧∀x∈q.2,x∈l2) (fun q=>(Ba (Ck l1) B q.1).length) (([],[])) (⟨by show ([]++(Ba (Ck l1) B []).map Prod.fst).Perm _;rw [Zcw (by simpa [Ad] using hB),Nv];exact List.Perm.refl _,fun x hx=>by cases hx⟩) (BC hF [1,40,41] Z Z ⟨rfl,rfl,trivial⟩) ?_)))));rintro ⟨seen,acc⟩ ⟨hP,hA⟩;dsimp only at hP hA⊢;refine AG (AI (DG (Ck l1) Z Z Z (h1m) rfl (fun hl16=>?_) (fun j16 b16 k16 v16 hm16 hb16 hB16 hp16=>⟨_,rfl,?_⟩)))
  ·rw [hl16] at hP;refine C1 40 h1 rfl h1m rfl ?_;rw [show BD M1 h1 (.map none (CI l1))=M by rw [←hM1,Mn];exact CE hM]
   first | refine J (B4 Z Z Z) ?_ | refine J (B5 Z Z Z) ?_
   refine AF (AG (D4 Z Z (Dq (AG ?_))))
   have hs:Fx l1 l2:=⟨hll,fun x hx=>hA x ((show acc.Perm l1 by simpa using hP).mem_iff.2 hx)⟩
   refine AI (AE Z Z (AF (Au ?_)));exact ⟨_,[40,41],_,Aq rfl,rfl,rfl,by rw [decide_eq_true hs],rfl⟩
  ·first | refine J (B4 Z Z Z) ?_ | refine J (B5 Z Z Z) ?_
   refine AF (AG (IE Z Z (Ai (B7 (AG ?_)))));have hvt:=lkM_val hm16;subst hvt;have hk1:k16∈l1:=MP hm16;refine AI (J (Zcv (Ck l1) j16 b16 Z Z Z (h1m) hm16 hb16 rfl) ?_)
   first | refine J (B4 Z Z Z) ?_ | refine J (B5 Z Z Z) ?_
   first | refine J (B4 Z Z Z) ?_ | refine J (B5 Z Z Z) ?_
   refine U (HG 5 LV Z Z Z Z) (U (Bm Z Z Z Z Z Z Z sz39) (AE Z Z (AF (AG (AI (AC Z Z ?_))))))
   first | refine J (BN Z Z As rfl) ?_ | refine J (BO Z Z As Z Z Z) ?_ | refine J (BP Z Z (rfl) rfl As rfl) ?_
   refine J (GG (f:=41) (Ck l2) k16 false Z Z hN rfl FT Hw za4 rfl) ?_;rw [IP,lkM_has];refine AC Z Z ?_
   first | refine J (B4 Z Z Z) ?_ | refine J (B5 Z Z Z) ?_
   first | refine J (B4 Z Z Z) ?_ | refine J (B5 Z Z Z) ?_
   refine AE Z Z (AE Z Z (AF (AG (AI (AC Z Z ?_)))))
   first | refine J (EG Z Z) ?_ | refine J (EE Z Z) ?_
   refine AC Z Z ?_
   first | refine JQ 29 rfl (fun h29=>?_) (fun h29=>?_) | refine ID 29 rfl (fun h29=>?_) (fun h29=>?_)
   ·refine Ay Z Z Z Z (Ay Z Z Z Z (Ay Z Z Z Z (J (G1 Z Z Z Z) (AF (IE Z Z (AG (IW 40 h1 rfl h1m rfl ?_)))))));rw [show BD M1 h1 (.map none (CI l1))=M by rw [←hM1,Mn];exact CE hM];refine AI (AE Z Z (AF (Au ?_)));exact ⟨_,[40,41],_,Aq rfl,rfl,rfl,by rw [decide_eq_false fun hh:Fx l1 l2=>by first | exact h29 (hh.2 _ hk1) | exact h33 (by simp [hh.2 _ hk1])],rfl⟩
   ·refine A8 Z Z Z (AC Z Z (A8 Z Z Z (AC Z Z (A8 Z Z Z ?_))))
    first | refine J (G3 Z Z Z) ?_ | refine J (G0 Z Z Z) ?_ | refine J (GX Z Z Z) ?_ | refine J (G4 Try.underlying4 Z Z Z) ?_ | refine J (G6 Try.underlying4 Z Z Z) ?_ | refine J (st_neqN Try.underlying4 Z Z) ?_ | refine J (GZ Try.underlying4 Z Z) ?_ | refine J (st_neqMz Try.underlying4 Z Z) ?_ | refine J (G5 Try.underlying4 Z Z Z) ?_ | refine J (st_neqFN Try.underlying4 Z Z) ?_
    refine J (Ey Z Z Z Z) (AF ?_)
    first | refine BA rfl (fun h33=>?_) (fun h33=>?_) | refine Az rfl (fun h33=>?_) (fun h33=>?_)
    ·refine AG (IW 40 h1 rfl h1m rfl ?_);rw [show BD M1 h1 (.map none (CI l1))=M by rw [←hM1,Mn];exact CE hM];refine AI (AE Z Z (AF (Au ?_)));exact ⟨_,[40,41],_,Aq rfl,rfl,rfl,by rw [decide_eq_false fun hh:Fx l1 l2=>by first | exact h29 (hh.2 _ hk1) | exact h33 (by simp [hh.2 _ hk1])],rfl⟩
    ·refine Ai ?_;exact ⟨(seen++ [b16],acc++ [k16]),⟨DT hP (y:=[k16]) (by simpa using hp16.map Prod.fst),fun x hx=>(List.mem_append.1 hx).elim (hA x) fun e=>by rw [List.mem_singleton.1 e];exact Classical.not_not.1 h29⟩,by show (Ba (Ck l1) B (seen++ [b16])).length<(Ba (Ck l1) B seen).length;rw [hp16.length_eq];exact Nat.lt_succ_self _,BC hF [1,40,41] rfl (rfl) ⟨rfl,rfl,trivial⟩⟩
theorem Qq {M N:MF} {h1 h2:Nat} {l1 l2:List Lk} (hM:M h1=some (.map none (CI l1))) (hN:N h2=some (.map none (CI l2))):AR Try.prog 44 [.d (mD h1),.d (mD h2)] [(40,[.multi M]),(41,[.multi N])] fun r H'=>r= .d (Ak (decide (Fx l1 l2)))∧H'=[(40,[.multi M]),(41,[.multi N])]:=by
 refine DA Try.func44 Z Z Try.ntmps44 Z Z Z fun F hF=>(AG (AI (AE Z Z ?_)));refine AF (AG (AI (AC Z Z (AC Z Z (U (GD (QX hM hN) rfl [40,41] ⟨rfl,rfl,trivial⟩ Z Z Z Z Z Z Z Z Z) (AE Z Z (AF (Au ?_))))))));exact ⟨_,[40,41],_,Aq rfl,rfl,rfl,rfl,rfl⟩
def He (E E2:List (St×Nat)) (lk lk2:Nat ->List Lk):Prop:=E.length=E2.length∧∀x∈E.map Prod.fst,∃p∈E,∃q∈E2,p.1=x∧q.1=x∧Fx (lk p.2) (lk2 q.2)
noncomputable instance (E E2:List (St×Nat)) (lk lk2:Nat ->List Lk):Decidable (He E E2 lk lk2):=Classical.propDecidable _
theorem eE_has (E:List (St×Nat)) (x:St):Gq (eE E) x=decide (x∈E.map Prod.fst):=by
 rw [Bool.eq_iff_iff,Bx,GU,decide_eq_true_eq]
theorem IR {E:List (St×Nat)} (hn:(E.map Prod.fst).Nodup) {p q:St×Nat} (hp:p∈E) (hq:q∈E) (e:p.1=q.1):p=q:=by
 have h1:=K5 hn hp;have h2:=K5 hn hq;rw [e,h2] at h1;injection h1 with h1
 exact Prod.ext e h1.symm
theorem Qr {M N:MF} {b b2 m m2:Nat} {E E2:List (St×Nat)} {lk lk2:Nat ->List Lk} (hr:LR M b m E lk) (hr2:LR N b2 m2 E2 lk2) (hk1:(E.map Prod.fst).Nodup) (hk2:(E2.map Prod.fst).Nodup):AR Try.prog 43 [.d (mD m),.d (mD m2),.d (.raw (.func (.func 44) ⟨[]⟩ ⟨[]⟩))] [(40,[.multi M]),(41,[.multi N])] fun r H'=>r= .d (Ak (decide (He E E2 lk lk2)))∧H'=[(40,[.multi M]),(41,[.multi N])]:=by
 have hpm:∀p∈E,p.2≠m:=fun p hp e=>hr.ne (by rw [←e];exact List.mem_map_of_mem hp);refine DA Try.func43 Z Z Try.ntmps43 Z Z Z fun F hF=>(AG (AI ?_));refine AE Z Z (AF (AG (AG (AI (AC Z Z (J (EK (f:=40) (n:=E.length) Z Z hr.top (by simp [Ad]) Bu rfl) (AC Z Z (J (EK (f:=41) (n:=E2.length) Z Z hr2.top (by simp [Ad]) Bu rfl) ?_))))))))
 first | refine J (G3 Z Z Z) ?_ | refine J (G0 Z Z Z) ?_ | refine J (GX Z Z Z) ?_ | refine J (G4 Try.underlying3 Z Z Z) ?_ | refine J (G6 Try.underlying3 Z Z Z) ?_ | refine J (st_neqN Try.underlying3 Z Z) ?_ | refine J (GZ Try.underlying3 Z Z) ?_ | refine J (st_neqMz Try.underlying3 Z Z) ?_ | refine J (G5 Try.underlying3 Z Z Z) ?_ | refine J (st_neqFN Try.underlying3 Z Z) ?_
 refine AF ?_
 first | refine BA rfl (fun h15=>?_) (fun h15=>?_) | refine Az rfl (fun h15=>?_) (fun h15=>?_)
 ·refine AG (AI (AE Z Z (AF (Au ?_))));exact ⟨_,[40,41],_,Aq rfl,rfl,rfl,by rw [decide_eq_false fun hh:He E E2 lk lk2=>h15 (congrArg Int.ofNat hh.1)],rfl⟩
 ·refine Ai (AG (AG ?_));have hll:E.length=E2.length:=Int.ofNat.inj (Classical.not_not.1 h15);refine Zcx 40 m rfl hr.top (fun _ _=>rfl) fun B c hB hBn=>?_
  obtain ⟨M1,hM1⟩:∃M1,BD M m (.map (some (B,c)) (CR E))=M1:=⟨_,rfl⟩
  rw [hM1];have h1m:M1 m=some (.map (some (B,c)) (CR E)):=by rw [←hM1,D3]
  have h1s:∀p∈E,M1 p.2=some (.map none (CI (lk p.2))):=fun p hp=>by rw [←hM1,Dr (hpm p hp)];exact hr.sub p hp
  refine AI (AC Z Z (U (Zct 1 (f:=40) Z Z (h1m) rfl Bu Z Z Z Z) (AF (B7 (FC (α:=List Nat×List St) (fun q=>⟨38,[(1,.d (mD m2)),(2,.d (.raw (.func (.func 44) ⟨[]⟩ ⟨[]⟩))),(17,(.ptr 1 0 0))],[(1,[.iter 40 m c q.1]),(40,[.multi M1]),(41,[.multi N])]⟩) (fun q=>(q.2++(Ba (eE E) B q.1).map Prod.fst).Perm (E.map Prod.fst)∧∀x∈q.2,∃p∈E,∃q∈E2,p.1=x∧q.1=x∧Fx (lk p.2) (lk2 q.2)) (fun q=>(Ba (eE E) B q.1).length) (([],[])) (⟨by show ([]++(Ba (eE E) B []).map Prod.fst).Perm _;rw [Zcw (by simpa [Ad] using hB),GU];exact List.Perm.refl _,fun x hx=>by cases hx⟩) (BC hF [1,40,41] Z Z ⟨rfl,rfl,rfl,trivial⟩) ?_)))));rintro ⟨seen,acc⟩ ⟨hP,hA⟩;dsimp only at hP hA⊢;refine AG (AI (DG (eE E) Z Z Z (h1m) rfl (fun hl18=>?_) (fun j18 b18 k18 v18 hm18 hb18 hB18 hp18=>⟨_,rfl,?_⟩)))
  ·rw [hl18] at hP;refine C1 40 m rfl h1m rfl ?_;rw [show BD M1 m (.map none (CR E))=M by rw [←hM1,Mn];exact CE hr.top]
   first | refine J (B4 Z Z Z) ?_ | refine J (B5 Z Z Z) ?_
   refine AF (AG (D4 Z Z (Dq (AG ?_))))
   have hs:He E E2 lk lk2:=⟨hll,fun x hx=>hA x ((show acc.Perm (E.map Prod.fst) by simpa using hP).mem_iff.2 hx)⟩
   refine AI (AE Z Z (AF (Au ?_)));exact ⟨_,[40,41],_,Aq rfl,rfl,rfl,by rw [decide_eq_true hs],rfl⟩
  ·first | refine J (B4 Z Z Z) ?_ | refine J (B5 Z Z Z) ?_
   refine AF (AG (IE Z Z (Ai (B7 (AG ?_)))));obtain ⟨hd,hpe,hve⟩:=FV hm18;subst hve;refine AI (J (Zcv (eE E) j18 b18 Z Z Z (h1m) hm18 hb18 rfl) ?_)
   first | refine J (B4 Z Z Z) ?_ | refine J (B5 Z Z Z) ?_
   first | refine J (B4 Z Z Z) ?_ | refine J (B5 Z Z Z) ?_
   refine AE Z Z (AE Z Z (AF (AG (AI (AC Z Z (AC Z Z (J (GG (f:=41) (eE E2) k18 none Z Z hr2.top rfl Bu Ec EH rfl) ?_)))))));rw [eE_has];refine AC Z Z ?_
   first | refine J (B4 Z Z Z) ?_ | refine J (B5 Z Z Z) ?_
   first | refine J (B4 Z Z Z) ?_ | refine J (B5 Z Z Z) ?_
   refine AE Z Z (AE Z Z (AF (AG (OH 1 40 95 96 rfl h1m Z Z Z Z Z Z Z Z Z Z (AI (AC Z Z ?_))))))
   first | refine J (EG Z Z) ?_ | refine J (EE Z Z) ?_
   refine AC Z Z ?_
   first | refine JQ 31 rfl (fun h31=>?_) (fun h31=>?_) | refine ID 31 rfl (fun h31=>?_) (fun h31=>?_)
   ·refine Ay Z Z Z Z (Ay Z Z Z Z ?_);refine Ay Z Z Z Z (Ay Z Z Z Z (Ay Z Z Z Z (J (G1 Z Z Z Z) (HT 1 40 95 96 rfl h1m Z Z Z Z Z Z Z (AF (IE Z Z (AG (IW 40 m rfl h1m rfl ?_))))))));rw [show BD M1 m (.map none (CR E))=M by rw [←hM1,Mn];exact CE hr.top];refine AI (AE Z Z (AF (Au ?_)));exact ⟨_,[40,41],_,Aq rfl,rfl,rfl,by rw [decide_eq_false fun hh:He E E2 lk lk2=>by first | exact h31 (by obtain ⟨p,hp,q,hq,e1,e2,_⟩:=hh.2 k18 (List.mem_map_of_mem (f:=Prod.fst) hpe);rw [←e2];exact List.mem_map_of_mem hq) | exact h37 (by obtain ⟨p,hp,q,hq,e1,e2,e3⟩:=hh.2 k18 (List.mem_map_of_mem (f:=Prod.fst) hpe);rw [IR hk1 hp hpe e1,IR hk2 hq hm2 e2] at e3;exact e3)],rfl⟩
   ·refine A8 Z Z Z (AC Z Z (A8 Z Z Z (AC Z Z (A8 Z Z Z (AC Z Z ?_)))));obtain ⟨q2,hq2,hq2e⟩:=List.mem_map.1 (Classical.not_not.1 h31);have hm2:(k18,q2.2)∈E2:=by rw [←hq2e];exact hq2
    rw [K5 hk2 hm2];refine A8 Z Z Z (U (Jm (Qq (h1s _ hpe) (hr2.sub _ hm2)) rfl [40,41] ⟨rfl,rfl,trivial⟩ Z Z Z Z Z Z Z Z Z) (A8 Z Z Z ?_))
    first | refine J (EG Z Z) ?_ | refine J (EE Z Z) ?_
    refine J (Ey Z Z Z Z) (HT 1 40 95 96 rfl h1m Z Z Z Z Z Z Z (AF ?_))
    first | refine BA rfl (fun h37=>?_) (fun h37=>?_) | refine Az rfl (fun h37=>?_) (fun h37=>?_)
    ·refine AG (IW 40 m rfl h1m rfl ?_);rw [show BD M1 m (.map none (CR E))=M by rw [←hM1,Mn];exact CE hr.top];refine AI (AE Z Z (AF (Au ?_)));exact ⟨_,[40,41],_,Aq rfl,rfl,rfl,by rw [decide_eq_false fun hh:He E E2 lk lk2=>by first | exact h31 (by obtain ⟨p,hp,q,hq,e1,e2,_⟩:=hh.2 k18 (List.mem_map_of_mem (f:=Prod.fst) hpe);rw [←e2];exact List.mem_map_of_mem hq) | exact h37 (by obtain ⟨p,hp,q,hq,e1,e2,e3⟩:=hh.2 k18 (List.mem_map_of_mem (f:=Prod.fst) hpe);rw [IR hk1 hp hpe e1,IR hk2 hq hm2 e2] at e3;exact e3)],rfl⟩
    ·refine Ai ?_;exact ⟨(seen++ [b18],acc++ [k18]),⟨DT hP (y:=[k18]) (by simpa using hp18.map Prod.fst),fun x hx=>(List.mem_append.1 hx).elim (hA x) fun e=>by rw [List.mem_singleton.1 e];exact ⟨_,hpe,_,hm2,rfl,rfl,Classical.not_not.1 h37⟩⟩,by show (Ba (eE E) B (seen++ [b18])).length<(Ba (eE E) B seen).length;rw [hp18.length_eq];exact Nat.lt_succ_self _,BC hF [1,40,41] rfl (rfl) ⟨rfl,rfl,rfl,trivial⟩⟩
def Dg (w w2:Ws):Prop:=w.R=w2.R∧∀l,l∈w.K↔l∈w2.K
noncomputable instance (w w2:Ws):Decidable (Dg w w2):=Classical.propDecidable _
theorem Jr {l1 l2:List Lk} (h1:l1.Nodup) (h2:l2.Nodup):Fx l1 l2↔∀x,x∈l1↔x∈l2:=by
 constructor
 ·rintro ⟨hl,hs⟩ x;refine ⟨hs x,fun hx=>Classical.byContradiction fun hn=>?_⟩;have:=(List.nodup_cons.2 ⟨hn,h1⟩).length_le_of_subset (l₂:=l2) fun y hy=>(List.mem_cons.1 hy).elim (fun e=>e▸hx) (hs y);rw [List.length_cons] at this;omega
 ·intro h;exact ⟨((List.perm_ext_iff_of_nodup h1 h2).2 h).length_eq,fun x hx=>(h x).1 hx⟩
theorem O5 {E E2:List (St×Nat)} {lk lk2:Nat ->List Lk} {w w2:Ws} (h:LW E lk w) (h2:LW E2 lk2 w2) (hw:BV w) (hw2:BV w2):He E E2 lk lk2↔Dg w w2:=by
 constructor
 ·rintro ⟨hl,hs⟩
  have hsub:∀x∈E.map Prod.fst,x∈E2.map Prod.fst:=fun x hx=>by
   obtain ⟨p,_,q,hq,_,e,_⟩:=hs x hx;rw [←e];exact List.mem_map_of_mem hq
  have hR:w.R=w2.R:=IK hw.srt hw2.srt fun x=>by
   rw [←h.ks x,←h2.ks x];refine ⟨hsub x,fun hx=>Classical.byContradiction fun hn=>?_⟩;have:=(List.nodup_cons.2 ⟨hn,h.kd⟩).length_le_of_subset (l₂:=E2.map Prod.fst) fun y hy=>(List.mem_cons.1 hy).elim (fun e=>e▸hx) (hsub y);rw [List.length_cons,List.length_map,List.length_map] at this;omega
  have key:∀x∈w.R,∀t r,(⟨x,t,r⟩:Lw)∈w.K↔(⟨x,t,r⟩:Lw)∈w2.K:=fun x hx t r=>by
   obtain ⟨p,hp,q,hq,e1,e2,hL⟩:=hs x ((h.ks x).2 hx);have h3:=(Jr (h.ld p hp) (h2.ld q hq)).1 hL ⟨t,r⟩;have h4:=h.ls p hp ⟨t,r⟩;have h5:=h2.ls q hq ⟨t,r⟩;rw [e1] at h4;rw [e2] at h5;exact h4.symm.trans (h3.trans h5)
  exact ⟨hR,fun l=>⟨fun hl=>(key l.f (hw.lk l hl).1 l.t l.r).1 hl,fun hl=>(key l.f (by rw [hR];exact (hw2.lk l hl).1) l.t l.r).2 hl⟩⟩
 ·rintro ⟨hR,hK⟩;refine ⟨by rw [h.len hw,h2.len hw2,hR],fun x hx=>?_⟩;obtain ⟨p,hp,e1⟩:=List.mem_map.1 hx;obtain ⟨q,hq,e2⟩:=List.mem_map.1 ((h2.ks x).2 (by rw [←hR];exact (h.ks x).1 hx));refine ⟨p,hp,q,hq,e1,e2,(Jr (h.ld p hp) (h2.ld q hq)).2 fun l=>?_⟩;rw [h.ls p hp l,h2.ls q hq l,e1,e2];exact hK _
theorem OB {M N:MF} {b b2:Nat} {w w2:Ws} (h:BR M b w) (h2:BR N b2 w2) (hw:BV w) (hw2:BV w2):AR Try.prog 28 [.d (pD b 0),.d (pD b2 0)] [(40,[.multi M]),(41,[.multi N])] fun r H'=>r= .d (Ak (decide (Dg w w2)))∧H'=[(40,[.multi M]),(41,[.multi N])]:=by
 obtain ⟨m,E,lk,hr,hl⟩:=h;obtain ⟨m2,E2,lk2,hr2,hl2⟩:=h2;refine DA Try.func28 Z Z Try.ntmps28 Z Z Z fun F hF=>(AG (AI (AE Z Z (AF (AG (AG (AI (AC Z Z ?_))))))))
 first | refine J (EZ Z Z Z) ?_ | refine J (Ea Z Z Z) ?_ | refine J (EF Z Z Z) ?_ | refine J (E0 Try.underlying23 Z Z Z) ?_ | refine J (E5 Try.underlying23 Z Z Z) ?_ | refine J (E4 Try.underlying23 Z Z) ?_ | refine J (E9 Try.underlying23 Z Z) ?_ | refine J (E8 Try.underlying23 Z Z) ?_ | refine J (E3 Try.underlying23 Z Z Z) ?_ | refine J (E7 Try.underlying23 Z Z) ?_
 refine AC Z Z (CZ 7 rfl (rfl) (A8 Z Z Z (AC Z Z (A8 Z Z Z ?_))))
 first | refine J (EZ Z Z Z) ?_ | refine J (Ea Z Z Z) ?_ | refine J (EF Z Z Z) ?_ | refine J (E0 Try.underlying23 Z Z Z) ?_ | refine J (E5 Try.underlying23 Z Z Z) ?_ | refine J (E4 Try.underlying23 Z Z) ?_ | refine J (E9 Try.underlying23 Z Z) ?_ | refine J (E8 Try.underlying23 Z Z) ?_ | refine J (E3 Try.underlying23 Z Z Z) ?_ | refine J (E7 Try.underlying23 Z Z) ?_
 refine J (Ey Z Z Z Z) (AF (D4 rfl (rfl) (Ai (AG (Ee [[],[0],[0,1],[0,1,2],[],[4],[4,5],[4,5,6],[0,1,2,3,4,5,6,7],[0,1,2,3,4,5,6,7,8]] mixed rfl (DL ?_))))))
 first | refine AD [0] [] Z Z (fun _=>AB (A9 Z Z)) ?_ | refine AH [0] Z Z (fun _=>AB (A9 Z Z)) ?_
 first | refine AD [14] [] Z Z (fun _=>AB (FJ Z Z)) ?_ | refine AH [14] Z Z (fun _=>AB (FJ Z Z)) ?_ | refine AD [14] [] Z Z (fun _=>AB (FG Z Z)) ?_ | refine AH [14] Z Z (fun _=>AB (FG Z Z)) ?_ | refine AD [14] [] Z Z (fun _=>AB (FK Z Z)) ?_ | refine AH [14] Z Z (fun _=>AB (FK Z Z)) ?_ | refine AD [14] [] Z Z (fun _=>AB (FH Z Z)) ?_ | refine AH [14] Z Z (fun _=>AB (FH Z Z)) ?_
 first | refine AD [15] [] Z Z (fun _=>AB (A1 rfl A5 Z Z Z)) ?_ | refine AH [15] Z Z (fun _=>AB (A1 rfl A5 Z Z Z)) ?_ | refine AD [15] [] Z Z (fun _=>AB (A3 rfl A5 Z Z Z)) ?_ | refine AH [15] Z Z (fun _=>AB (A3 rfl A5 Z Z Z)) ?_ | refine AD [15] [] Z Z (fun _=>AB (A4 rfl A5 Z Z Z)) ?_ | refine AH [15] Z Z (fun _=>AB (A4 rfl A5 Z Z Z)) ?_ | refine AD [15] [] Z Z (fun _=>AB (A2 rfl A5 Z Z Z)) ?_ | refine AH [15] Z Z (fun _=>AB (A2 rfl A5 Z Z Z)) ?_ | refine AD [15] [] Z Z (fun _=>AB (A0 rfl A5 Z Z Z)) ?_ | refine AH [15] Z Z (fun _=>AB (A0 rfl A5 Z Z Z)) ?_
 refine AD [16] [40] Z Z (fun _=>AB (Ft (f:=40) Z Z (hr.cell) rfl Bk rfl)) ?_
 first | refine AD [1] [] Z Z (fun _=>AB (A9 Z Z)) ?_ | refine AH [1] Z Z (fun _=>AB (A9 Z Z)) ?_
 first | refine AD [18] [] Z Z (fun _=>AB (FJ Z Z)) ?_ | refine AH [18] Z Z (fun _=>AB (FJ Z Z)) ?_ | refine AD [18] [] Z Z (fun _=>AB (FG Z Z)) ?_ | refine AH [18] Z Z (fun _=>AB (FG Z Z)) ?_ | refine AD [18] [] Z Z (fun _=>AB (FK Z Z)) ?_ | refine AH [18] Z Z (fun _=>AB (FK Z Z)) ?_ | refine AD [18] [] Z Z (fun _=>AB (FH Z Z)) ?_ | refine AH [18] Z Z (fun _=>AB (FH Z Z)) ?_
 first | refine AD [19] [] Z Z (fun _=>AB (A1 rfl A5 Z Z Z)) ?_ | refine AH [19] Z Z (fun _=>AB (A1 rfl A5 Z Z Z)) ?_ | refine AD [19] [] Z Z (fun _=>AB (A3 rfl A5 Z Z Z)) ?_ | refine AH [19] Z Z (fun _=>AB (A3 rfl A5 Z Z Z)) ?_ | refine AD [19] [] Z Z (fun _=>AB (A4 rfl A5 Z Z Z)) ?_ | refine AH [19] Z Z (fun _=>AB (A4 rfl A5 Z Z Z)) ?_ | refine AD [19] [] Z Z (fun _=>AB (A2 rfl A5 Z Z Z)) ?_ | refine AH [19] Z Z (fun _=>AB (A2 rfl A5 Z Z Z)) ?_ | refine AD [19] [] Z Z (fun _=>AB (A0 rfl A5 Z Z Z)) ?_ | refine AH [19] Z Z (fun _=>AB (A0 rfl A5 Z Z Z)) ?_
 refine AD [20] [41] Z Z (fun _=>AB (Ft (f:=41) Z Z hr2.cell rfl Bk rfl)) (DM 8 Z Z Z (BI 9 Z Z (U (GD (Qr hr hr2 hl.kd hl2.kd) rfl [40,41] ⟨rfl,rfl,trivial⟩ Z Z Z Z Z Z Z Z Z) (AF ⟨rfl,?_⟩))));refine BI 10 Z Z (AE Z Z (AF ⟨rfl,?_⟩));refine ED (Au ?_);exact ⟨_,[40,41],_,Aq rfl,rfl,rfl,by rw [show decide (He E E2 lk lk2)=decide (Dg w w2) from decide_eq_decide.2 (O5 hl hl2 hw hw2)],rfl⟩
end Go.Proofs.Ytlmedakidpaeeaa
