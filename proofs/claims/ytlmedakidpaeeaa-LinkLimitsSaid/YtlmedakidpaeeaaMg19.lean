/- Layer 27: Link, walked. -/
import Derived.Test.YtlmedakidpaeeaaMg18
namespace Go.Proofs.Ytlmedakidpaeeaa
open Go.RowKit
set_option maxRecDepth 100000
theorem DA {s:AS}:∀(i:Nat) a v,([]:List AV)[i]?=some a ->([]:List Value)[i]?=some v ->Fx s a v:=fun i a v h=>by simp at h
theorem Gm {s:AS} {a:AV} {v:Value} {ars:List AV} {vs:List Value} (h:Fx s a v) (hr:∀(i:Nat) a v,ars[i]?=some a ->vs[i]?=some v ->Fx s a v):∀(i:Nat) a' v',(a::ars)[i]?=some a' ->(v::vs)[i]?=some v' ->Fx s a' v':=fun i a' v' h1 h2=>by
 cases i with
 | zero=>simp at h1 h2;subst h1 h2;exact h
 | succ i=>exact hr i a' v' (by simpa using h1) (by simpa using h2)
theorem lnk11 {w:Ws} {l:Lw} (h1:l.t≠0) (h2:l.t≠1):lnkW w l=(w,11):=by unfold lnkW;rw [if_pos ⟨h1,h2⟩]
theorem lnk9 {w:Ws} {l:Lw} (ht:l.t=0∨l.t=1) (h:l.f∉w.R∨l.r∉w.R):lnkW w l=(w,9):=by unfold lnkW;rw [if_neg (by omega),if_pos h]
theorem L4 {w:Ws} {l:Lw} (ht:l.t=0∨l.t=1) (h1:l.f∈w.R) (h2:l.r∈w.R) (h:l.f=l.r):lnkW w l=(w,26):=by unfold lnkW;rw [if_neg (by omega),if_neg fun hh=>hh.elim (· h1) (· h2),if_pos h]
theorem lnk7 {w:Ws} {l:Lw} (ht:l.t=0∨l.t=1) (h1:l.f∈w.R) (h2:l.r∈w.R) (h3:l.f≠l.r) (h:l∈w.K):lnkW w l=(w,7):=by unfold lnkW;rw [if_neg (by omega),if_neg fun hh=>hh.elim (· h1) (· h2),if_neg h3,if_pos h]
theorem Nk {w:Ws} {l:Lw} (ht:l.t=0∨l.t=1) (h1:l.f∈w.R) (h2:l.r∈w.R) (h3:l.f≠l.r) (h4:l∉w.K):lnkW w l=if acyW (BD w l)=true then (BD w l,0) else (w,26):=by unfold lnkW;rw [if_neg (by omega),if_neg fun hh=>hh.elim (· h1) (· h2),if_neg h3,if_neg h4]
theorem Kx {M:MF} {b:Nat} {w:Ws} (h:CL M b w) (hw:B8 w) (hK:w.K.length≤999999) (l:Lw):AO Try.prog 29 [.d (pD b 0),.d (AP l.f),.d (lkD ⟨l.t,l.r⟩)] [(40,[.multi M])] fun r H'=>∃M',r= .d (G1 (lnkW w l).2)∧H'=[(40,[.multi M'])]∧CL M' b (lnkW w l).1:=by
 have hrep:=h;obtain ⟨m,E,lk,hr,hl⟩:=h;refine O0 Try.func29 Z Z Try.ntmps29 Z Z Z fun F Fi hF hrnd hlo hR hD=>?_
 first | refine AF ?_ | refine BN hR ?_
 refine AI (U (Fd 910 Z Z Z Z Z Z Z) (U (Fd 911 Z Z Z Z Z Z Z) (U (Fd 912 Z Z Z Z Z Z Z) (U (B1 913 zl25 Z Z Z Z) (AG ?_)))))
 first | refine AF ?_ | refine BN hR ?_
 refine CR ?_
 first | refine AF ?_ | refine BN hR ?_
 refine AI ?_
 first | refine J (Af Z Z A8 rfl) ?_ | refine J (Ad Z Z Z A8 rfl) ?_ | refine J (Ae Z Z (rfl) rfl A8 rfl) ?_
 first | refine J (G2 Z Z Z) ?_ | refine J (Ga Z Z Z) ?_ | refine J (GO Z Z Z) ?_ | refine J (G3 Try.underlying23 Z Z Z) ?_ | refine J (G6 Try.underlying23 Z Z Z) ?_ | refine J (G5 Try.underlying23 Z Z) ?_ | refine J (G9 Try.underlying23 Z Z) ?_ | refine J (G8 Try.underlying23 Z Z) ?_ | refine J (G4 Try.underlying23 Z Z Z) ?_ | refine J (G7 Try.underlying23 Z Z) ?_
 refine AE Z Z (AG (F6 rfl (rfl) ?_))
 first | refine AF ?_ | refine BN hR ?_
 refine AI ?_
 first | refine J (Cq rfl Ie Z Z Z) ?_ | refine J (Cs rfl Ie Z Z Z) ?_ | refine J (Ct rfl Ie Z Z Z) ?_ | refine J (Cr rfl Ie Z Z Z) ?_ | refine J (Cp rfl Ie Z Z Z) ?_
 first | refine J (Af Z Z Co rfl) ?_ | refine J (Ad Z Z Z Co rfl) ?_ | refine J (Ae Z Z (rfl) rfl Co rfl) ?_
 first | refine J (GM Z Z Z) ?_ | refine J (GS Z Z Z) ?_ | refine J (Fv Z Z Z) ?_ | refine J (GP Try.underlying3 Z Z Z) ?_ | refine J (GT Try.underlying3 Z Z Z) ?_ | refine J (st_neqN Try.underlying3 Z Z) ?_ | refine J (st_neqPr Try.underlying3 Z Z) ?_ | refine J (st_neqMz Try.underlying3 Z Z) ?_ | refine J (GQ Try.underlying3 Z Z Z) ?_ | refine J (st_neqFN Try.underlying3 Z Z) ?_
 refine AB Z Z ?_
 first | refine B3 16 rfl (fun h16=>?_) (fun h16=>?_) | refine O1 16 rfl (fun h16=>?_) (fun h16=>?_)
 ·refine A4 Z Z Z ?_
  first | refine J (Cq rfl Ie Z Z Z) ?_ | refine J (Cs rfl Ie Z Z Z) ?_ | refine J (Ct rfl Ie Z Z Z) ?_ | refine J (Cr rfl Ie Z Z Z) ?_ | refine J (Cp rfl Ie Z Z Z) ?_
  refine A4 Z Z Z ?_
  first | refine J (Af Z Z Co rfl) ?_ | refine J (Ad Z Z Z Co rfl) ?_ | refine J (Ae Z Z (rfl) rfl Co rfl) ?_
  refine A4 Z Z Z ?_
  first | refine J (GM Z Z Z) ?_ | refine J (GS Z Z Z) ?_ | refine J (Fv Z Z Z) ?_ | refine J (GP Try.underlying3 Z Z Z) ?_ | refine J (GT Try.underlying3 Z Z Z) ?_ | refine J (st_neqN Try.underlying3 Z Z) ?_ | refine J (st_neqPr Try.underlying3 Z Z) ?_ | refine J (st_neqMz Try.underlying3 Z Z) ?_ | refine J (GQ Try.underlying3 Z Z Z) ?_ | refine J (st_neqFN Try.underlying3 Z Z) ?_
  refine J (JR Z Z Z Z) (AE Z Z (AG ?_))
  first | refine Ap rfl (fun h12=>?_) (fun h12=>?_) | refine CO rfl (fun h12=>?_) (fun h12=>?_)
  ·first | refine AF ?_ | refine BN hR ?_
   refine AI (U (Hh Z Z Z Z Z Z Z Fc) (AG (Bc ?_)));exact ⟨_,[40],_,BX rfl,rfl,rfl,M,by rw [lnk11 h16 h12],rfl,by rw [lnk11 h16 h12];exact hrep⟩
  ·first | refine AF ?_ | refine BN hR ?_
   refine AI ?_
   first | refine J (Af Z Z A8 rfl) ?_ | refine J (Ad Z Z Z A8 rfl) ?_ | refine J (Ae Z Z (rfl) rfl A8 rfl) ?_
   first | refine J (Af Z Z As rfl) ?_ | refine J (Ad Z Z Z As rfl) ?_ | refine J (Ae Z Z (rfl) rfl As rfl) ?_
   refine U (Gp (I0 hrep l.f) rfl [40] ⟨rfl,trivial⟩ Z Z Z Z Z Z Z Z Z) ?_
   first | refine J (BZ Z Z) ?_ | refine J (CT Z Z) ?_
   refine AB Z Z ?_
   first | refine B3 26 rfl (fun h26=>?_) (fun h26=>?_) | refine O1 26 rfl (fun h26=>?_) (fun h26=>?_)
   ·refine Dc Z Z Z Z (Dc Z Z Z Z (Dc Z Z Z Z (Dc Z Z Z Z (Dc Z Z Z Z (J (JR Z Z Z Z) (AE Z Z (AG (Bj Z Z ?_))))))))
    first | refine AF ?_ | refine BN hR ?_
    have h9:lnkW w l=(w,9):=lnk9 (by first | exact .inl (Classical.not_not.1 h16) | exact .inr (Classical.not_not.1 h12)) (by first | exact .inl h26 | exact .inr h21);refine AI (U (Hh Z Z Z Z Z Z Z Fc) (AG (Bc ?_)));exact ⟨_,[40],_,BX rfl,rfl,rfl,M,by rw [h9],rfl,by rw [h9];exact hrep⟩
   ·refine A4 Z Z Z ?_
    first | refine J (Af Z Z A8 rfl) ?_ | refine J (Ad Z Z Z A8 rfl) ?_ | refine J (Ae Z Z (rfl) rfl A8 rfl) ?_
    refine A4 Z Z Z ?_
    first | refine J (Cq rfl BY Z Z Z) ?_ | refine J (Cs rfl BY Z Z Z) ?_ | refine J (Ct rfl BY Z Z Z) ?_ | refine J (Cr rfl BY Z Z Z) ?_ | refine J (Cp rfl BY Z Z Z) ?_
    refine A4 Z Z Z ?_
    first | refine J (Af Z Z As rfl) ?_ | refine J (Ad Z Z Z As rfl) ?_ | refine J (Ae Z Z (rfl) rfl As rfl) ?_
    refine A4 Z Z Z (U (Gp (I0 hrep l.r) rfl [40] ⟨rfl,trivial⟩ Z Z Z Z Z Z Z Z Z) (A4 Z Z Z ?_))
    first | refine J (BZ Z Z) ?_ | refine J (CT Z Z) ?_
    refine J (JW Z Z Z Z) (AE Z Z (AG ?_))
    first | refine Ap rfl (fun h21=>?_) (fun h21=>?_) | refine CO rfl (fun h21=>?_) (fun h21=>?_)
    ·first | refine AF ?_ | refine BN hR ?_
     have h9:lnkW w l=(w,9):=lnk9 (by first | exact .inl (Classical.not_not.1 h16) | exact .inr (Classical.not_not.1 h12)) (by first | exact .inl h26 | exact .inr h21);refine AI (U (Hh Z Z Z Z Z Z Z Fc) (AG (Bc ?_)));exact ⟨_,[40],_,BX rfl,rfl,rfl,M,by rw [h9],rfl,by rw [h9];exact hrep⟩
    ·first | refine AF ?_ | refine BN hR ?_
     have ht:l.t=0∨l.t=1:=by first | exact .inl (Classical.not_not.1 h16) | exact .inr (Classical.not_not.1 h12)
     have hfR:l.f∈w.R:=Classical.not_not.1 h26;have hrR:l.r∈w.R:=Classical.not_not.1 h21;refine AI ?_
     first | refine J (Af Z Z As rfl) ?_ | refine J (Ad Z Z Z As rfl) ?_ | refine J (Ae Z Z (rfl) rfl As rfl) ?_
     first | refine J (Cq rfl BY Z Z Z) ?_ | refine J (Cs rfl BY Z Z Z) ?_ | refine J (Ct rfl BY Z Z Z) ?_ | refine J (Cr rfl BY Z Z Z) ?_ | refine J (Cp rfl BY Z Z Z) ?_
     first | refine J (Af Z Z As rfl) ?_ | refine J (Ad Z Z Z As rfl) ?_ | refine J (Ae Z Z (rfl) rfl As rfl) ?_
     first | refine J (G2 Z Z Z) ?_ | refine J (Ga Z Z Z) ?_ | refine J (GO Z Z Z) ?_ | refine J (G3 Try.underlying9 Z Z Z) ?_ | refine J (G6 Try.underlying9 Z Z Z) ?_ | refine J (G5 Try.underlying9 Z Z) ?_ | refine J (G9 Try.underlying9 Z Z) ?_ | refine J (G8 Try.underlying9 Z Z) ?_ | refine J (G4 Try.underlying9 Z Z Z) ?_ | refine J (G7 Try.underlying9 Z Z) ?_
     refine AE Z Z (AG ?_)
     first | refine Ap rfl (fun h33=>?_) (fun h33=>?_) | refine CO rfl (fun h33=>?_) (fun h33=>?_)
     ·first | refine AF ?_ | refine BN hR ?_
      refine AI (U (Hh Z Z Z Z Z Z Z Fc) (AG (Bc ?_)));exact ⟨_,[40],_,BX rfl,rfl,rfl,M,by rw [L4 ht hfR hrR h33],rfl,by rw [L4 ht hfR hrR h33];exact hrep⟩
     ·first | refine AF ?_ | refine BN hR ?_
      obtain ⟨hd,hm⟩:=hl.at hfR;refine BI [[],[0],[0,1],[0,1,2],[],[0,1,2,3,4],[],[0,1,2,3,4,5,6],[0,1,2,3,4,5,6,7]] mixed rfl (Mc ?_)
      first | refine AN [3] [] Z Z (fun _=>AD (Af Z Z A8 rfl)) ?_ | refine AQ [3] Z Z (fun _=>AD (Af Z Z A8 rfl)) ?_ | refine AN [3] [] Z Z (fun _=>AD (Ad Z Z Z A8 rfl)) ?_ | refine AQ [3] Z Z (fun _=>AD (Ad Z Z Z A8 rfl)) ?_ | refine AN [3] [] Z Z (fun _=>AD (Ae Z Z (rfl) rfl A8 rfl)) ?_ | refine AQ [3] Z Z (fun _=>AD (Ae Z Z (rfl) rfl A8 rfl)) ?_
      first | refine AN [39] [] Z Z (fun _=>AD (JZ Z Z)) ?_ | refine AQ [39] Z Z (fun _=>AD (JZ Z Z)) ?_ | refine AN [39] [] Z Z (fun _=>AD (JX Z Z)) ?_ | refine AQ [39] Z Z (fun _=>AD (JX Z Z)) ?_ | refine AN [39] [] Z Z (fun _=>AD (J0 Z Z)) ?_ | refine AQ [39] Z Z (fun _=>AD (J0 Z Z)) ?_ | refine AN [39] [] Z Z (fun _=>AD (JY Z Z)) ?_ | refine AQ [39] Z Z (fun _=>AD (JY Z Z)) ?_
      first | refine AN [40] [] Z Z (fun _=>AD (Cq rfl Ar Z Z Z)) ?_ | refine AQ [40] Z Z (fun _=>AD (Cq rfl Ar Z Z Z)) ?_ | refine AN [40] [] Z Z (fun _=>AD (Cs rfl Ar Z Z Z)) ?_ | refine AQ [40] Z Z (fun _=>AD (Cs rfl Ar Z Z Z)) ?_ | refine AN [40] [] Z Z (fun _=>AD (Ct rfl Ar Z Z Z)) ?_ | refine AQ [40] Z Z (fun _=>AD (Ct rfl Ar Z Z Z)) ?_ | refine AN [40] [] Z Z (fun _=>AD (Cr rfl Ar Z Z Z)) ?_ | refine AQ [40] Z Z (fun _=>AD (Cr rfl Ar Z Z Z)) ?_ | refine AN [40] [] Z Z (fun _=>AD (Cp rfl Ar Z Z Z)) ?_ | refine AQ [40] Z Z (fun _=>AD (Cp rfl Ar Z Z Z)) ?_
      first | refine AN [41] [] Z Z (fun _=>AD (JU (f:=40) Z Z (hr.cell) rfl Ch rfl)) ?_ | refine AQ [41] Z Z (fun _=>AD (JU (f:=40) Z Z (hr.cell) rfl Ch rfl)) ?_
      first | refine AN [4] [] Z Z (fun _=>AD (Af Z Z As rfl)) ?_ | refine AQ [4] Z Z (fun _=>AD (Af Z Z As rfl)) ?_ | refine AN [4] [] Z Z (fun _=>AD (Ad Z Z Z As rfl)) ?_ | refine AQ [4] Z Z (fun _=>AD (Ad Z Z Z As rfl)) ?_ | refine AN [4] [] Z Z (fun _=>AD (Ae Z Z (rfl) rfl As rfl)) ?_ | refine AQ [4] Z Z (fun _=>AD (Ae Z Z (rfl) rfl As rfl)) ?_
      first | refine AN [42,43] [] Z Z (fun _=>AD (JV (f:=40) (eE E) l.f none (some hd) Z Z hr.top rfl Dy FV Gq (CE hl.kd hm) rfl)) ?_ | refine AQ [42,43] Z Z (fun _=>AD (JV (f:=40) (eE E) l.f none (some hd) Z Z hr.top rfl Dy FV Gq (CE hl.kd hm) rfl)) ?_
      first | refine AN [5] [] Z Z (fun _=>AD (O4 Z Z BW rfl)) ?_ | refine AQ [5] Z Z (fun _=>AD (O4 Z Z BW rfl)) ?_ | refine AN [5] [] Z Z (fun _=>AD (O5 Z Z BW Z Z Z)) ?_ | refine AQ [5] Z Z (fun _=>AD (O5 Z Z BW Z Z Z)) ?_ | refine AN [5] [] Z Z (fun _=>AD (O6 Z Z (rfl) rfl BW rfl)) ?_ | refine AQ [5] Z Z (fun _=>AD (O6 Z Z (rfl) rfl BW rfl)) ?_
      refine Me 7 Z Z Z (JI 8 Z Z (J (JV (f:=40) (D8 (lk hd)) ⟨l.t,l.r⟩ false _ Z Z (hr.sub _ hm) rfl Kv Ns za4 (L6 _ _) rfl) (AG ⟨rfl,?_⟩)));refine JI 9 Z Z (AE Z Z (AG ⟨rfl,?_⟩));refine Md ?_
      first | refine Ap rfl (fun h38=>?_) (fun h38=>?_) | refine CO rfl (fun h38=>?_) (fun h38=>?_)
      ·first | refine AF ?_ | refine BN hR ?_
       refine AI (U (Hh Z Z Z Z Z Z Z Fc) (AG (Bc ?_)));have h7:=lnk7 ht hfR hrR h33 ((hl.ls _ hm _).1 h38);exact ⟨_,[40],_,BX rfl,rfl,rfl,M,by rw [h7],rfl,by rw [h7];exact hrep⟩
      ·refine BP ?_
       first | refine AF ?_ | refine BN hR ?_
       refine Bx 921 910 0 Z Z Z Z Z fun u3=>(Bx 922 911 0 Z Z Z Z Z fun u4=>(Bx 923 912 0 Z Z Z Z Z fun u5=>(Bx 924 913 0 Z Z Z Z Z fun u6=>(BI [[],[0],[0,1],[0,1,2],[],[0,1,2,3,4],[],[0,1,2,3,4,5,6]] mixed rfl (Mc ?_)))))
       first | refine AN [3] [] Z Z (fun _=>AD (Af Z Z A8 rfl)) ?_ | refine AQ [3] Z Z (fun _=>AD (Af Z Z A8 rfl)) ?_ | refine AN [3] [] Z Z (fun _=>AD (Ad Z Z Z A8 rfl)) ?_ | refine AQ [3] Z Z (fun _=>AD (Ad Z Z Z A8 rfl)) ?_ | refine AN [3] [] Z Z (fun _=>AD (Ae Z Z (rfl) rfl A8 rfl)) ?_ | refine AQ [3] Z Z (fun _=>AD (Ae Z Z (rfl) rfl A8 rfl)) ?_
       first | refine AN [47] [] Z Z (fun _=>AD (JZ Z Z)) ?_ | refine AQ [47] Z Z (fun _=>AD (JZ Z Z)) ?_ | refine AN [47] [] Z Z (fun _=>AD (JX Z Z)) ?_ | refine AQ [47] Z Z (fun _=>AD (JX Z Z)) ?_ | refine AN [47] [] Z Z (fun _=>AD (J0 Z Z)) ?_ | refine AQ [47] Z Z (fun _=>AD (J0 Z Z)) ?_ | refine AN [47] [] Z Z (fun _=>AD (JY Z Z)) ?_ | refine AQ [47] Z Z (fun _=>AD (JY Z Z)) ?_
       first | refine AN [48] [] Z Z (fun _=>AD (Cq rfl Ar Z Z Z)) ?_ | refine AQ [48] Z Z (fun _=>AD (Cq rfl Ar Z Z Z)) ?_ | refine AN [48] [] Z Z (fun _=>AD (Cs rfl Ar Z Z Z)) ?_ | refine AQ [48] Z Z (fun _=>AD (Cs rfl Ar Z Z Z)) ?_ | refine AN [48] [] Z Z (fun _=>AD (Ct rfl Ar Z Z Z)) ?_ | refine AQ [48] Z Z (fun _=>AD (Ct rfl Ar Z Z Z)) ?_ | refine AN [48] [] Z Z (fun _=>AD (Cr rfl Ar Z Z Z)) ?_ | refine AQ [48] Z Z (fun _=>AD (Cr rfl Ar Z Z Z)) ?_ | refine AN [48] [] Z Z (fun _=>AD (Cp rfl Ar Z Z Z)) ?_ | refine AQ [48] Z Z (fun _=>AD (Cp rfl Ar Z Z Z)) ?_
       first | refine AN [49] [] Z Z (fun _=>AD (JU (f:=40) Z Z (hr.cell) rfl Ch rfl)) ?_ | refine AQ [49] Z Z (fun _=>AD (JU (f:=40) Z Z (hr.cell) rfl Ch rfl)) ?_
       first | refine AN [4] [] Z Z (fun _=>AD (Af Z Z As rfl)) ?_ | refine AQ [4] Z Z (fun _=>AD (Af Z Z As rfl)) ?_ | refine AN [4] [] Z Z (fun _=>AD (Ad Z Z Z As rfl)) ?_ | refine AQ [4] Z Z (fun _=>AD (Ad Z Z Z As rfl)) ?_ | refine AN [4] [] Z Z (fun _=>AD (Ae Z Z (rfl) rfl As rfl)) ?_ | refine AQ [4] Z Z (fun _=>AD (Ae Z Z (rfl) rfl As rfl)) ?_
       first | refine AN [50,51] [] Z Z (fun _=>AD (JV (f:=40) (eE E) l.f none (some hd) Z Z hr.top rfl Dy FV Gq (CE hl.kd hm) rfl)) ?_ | refine AQ [50,51] Z Z (fun _=>AD (JV (f:=40) (eE E) l.f none (some hd) Z Z hr.top rfl Dy FV Gq (CE hl.kd hm) rfl)) ?_
       first | refine AN [5] [] Z Z (fun _=>AD (O4 Z Z BW rfl)) ?_ | refine AQ [5] Z Z (fun _=>AD (O4 Z Z BW rfl)) ?_ | refine AN [5] [] Z Z (fun _=>AD (O5 Z Z BW Z Z Z)) ?_ | refine AQ [5] Z Z (fun _=>AD (O5 Z Z BW Z Z Z)) ?_ | refine AN [5] [] Z Z (fun _=>AD (O6 Z Z (rfl) rfl BW rfl)) ?_ | refine AQ [5] Z Z (fun _=>AD (O6 Z Z (rfl) rfl BW rfl)) ?_
       refine Me 7 Z Z Z (JI 8 Z Z (U (Gu (f:=40) (D8 (lk hd)) (⟨l.t,l.r⟩) (true) Z Z (hr.sub _ hm) rfl Kv Ns Z Z) (AG ⟨rfl,?_⟩)));refine Md ?_;have hnK:l∉w.K:=fun hh=>h38 ((hl.ls _ hm _).2 hh);rw [L5 h38];have hrep1:CL _ b (BD w l):=J3 hr hl hm (l:=⟨l.t,l.r⟩) hnK;have hok1:=hw.with_ ht hfR hrR h33 hnK;have hK1:(BD w l).K.length≤1000000:=by show (w.K++ [l]).length≤_;rw [List.length_append,List.length_singleton];omega
       have h0:=Nk ht hfR hrR h33 hnK
       obtain ⟨M1,hM1⟩:∃M1,Ax M hd (.map none (Ec (lk hd++ [⟨l.t,l.r⟩])))=M1:=⟨_,rfl⟩
       rw [hM1] at hrep1⊢;refine Ld (xs:=[6,3,4,5]) (ars:=[.ptr 913 0 0,.ptr 910 0 0,.ptr 911 0 0,.ptr 912 0 0]) [.pointer (some ⟨u6,0,none⟩),.pointer (some ⟨u3,0,none⟩),.pointer (some ⟨u4,0,none⟩),.pointer (some ⟨u5,0,none⟩)] hD hlo hrnd Z Z Z ?_ ?_
       ·exact (Gm ⟨913,0,u6,924,0,rfl,rfl,rfl⟩ (Gm ⟨910,0,u3,921,0,rfl,rfl,rfl⟩ (Gm ⟨911,0,u4,922,0,rfl,rfl,rfl⟩ (Gm ⟨912,0,u5,923,0,rfl,rfl,rfl⟩ DA))))
       refine AF (AF (AI ?_))
       first | refine J (Af Z Z A8 rfl) ?_ | refine J (Ad Z Z Z A8 rfl) ?_ | refine J (Ae Z Z (rfl) rfl A8 rfl) ?_
       refine U (Gp (It hrep1 hok1 hK1) rfl [40] ⟨rfl,trivial⟩ Z Z Z Z Z Z Z Z Z) (AB Z Z ?_)
       first | refine J (Df Z Z Z) ?_ | refine J (De Z Z Z) ?_
       first | refine J (Df Z Z Z) ?_ | refine J (De Z Z Z) ?_
       refine AE Z Z (AE Z Z (AG (AF (AI (AB Z Z ?_)))))
       first | refine J (BZ Z Z) ?_ | refine J (CT Z Z) ?_
       refine AG ?_
       first | refine Ap rfl (fun h61=>?_) (fun h61=>?_) | refine CO rfl (fun h61=>?_) (fun h61=>?_)
       ·refine AF (AI (U (Hh Z Z Z Z Z Z Z Fc) (AG (Bc ?_))));have hac:acyW (BD w l)=false:=by simpa using h61
        have h0':lnkW w l=(w,26):=by rw [h0,hac];rfl
        refine ⟨_,HLk b l 26++ [(40,[.multi M1])],_,[910,911,912,913,40],_,_,_,Ij hrep1 l hfR 26,rfl,?_,⟨rfl,rfl,rfl,rfl,rfl,trivial⟩,rfl,rfl,rfl,rfl,fun r H' ⟨e1,M',e2,h3⟩=>?_⟩
        ·exact (Gm ⟨913,0,u6,924,0,rfl,rfl,rfl⟩ (Gm ⟨910,0,u3,921,0,rfl,rfl,rfl⟩ (Gm ⟨911,0,u4,922,0,rfl,rfl,rfl⟩ (Gm ⟨912,0,u5,923,0,rfl,rfl,rfl⟩ DA))))
        ·subst e1 e2;exact ⟨⟨rfl,rfl,rfl⟩,_,[40],_,BX rfl,rfl,rfl,M',by rw [h0'],rfl,by rw [h0'];rw [if_neg (by decide),IE hnK] at h3;exact h3⟩
       ·refine BP (AF (AI (U (Hh Z Z Z Z Z Z Z Fc) (AG (Bc ?_)))));have hac:acyW (BD w l)=true:=by simpa using h61
        have h0':lnkW w l=(BD w l,0):=by rw [h0,hac];rfl
        refine ⟨_,HLk b l 0++ [(40,[.multi M1])],_,[910,911,912,913,40],_,_,_,Ij hrep1 l hfR 0,rfl,?_,⟨rfl,rfl,rfl,rfl,rfl,trivial⟩,rfl,rfl,rfl,rfl,fun r H' ⟨e1,M',e2,h3⟩=>?_⟩
        ·exact (Gm ⟨913,0,u6,924,0,rfl,rfl,rfl⟩ (Gm ⟨910,0,u3,921,0,rfl,rfl,rfl⟩ (Gm ⟨911,0,u4,922,0,rfl,rfl,rfl⟩ (Gm ⟨912,0,u5,923,0,rfl,rfl,rfl⟩ DA))))
        ·subst e1 e2;exact ⟨⟨rfl,rfl,rfl⟩,_,[40],_,BX rfl,rfl,rfl,M',by rw [h0'],rfl,by rw [h0'];rw [if_pos rfl] at h3;exact h3⟩
 ·refine Dc Z Z Z Z (Dc Z Z Z Z (Dc Z Z Z Z (J (JW Z Z Z Z) (AE Z Z (AG (F6 Z Z ?_))))))
  first | refine AF ?_ | refine BN hR ?_
  refine AI ?_
  first | refine J (Af Z Z A8 rfl) ?_ | refine J (Ad Z Z Z A8 rfl) ?_ | refine J (Ae Z Z (rfl) rfl A8 rfl) ?_
  first | refine J (Af Z Z As rfl) ?_ | refine J (Ad Z Z Z As rfl) ?_ | refine J (Ae Z Z (rfl) rfl As rfl) ?_
  refine U (Gp (I0 hrep l.f) rfl [40] ⟨rfl,trivial⟩ Z Z Z Z Z Z Z Z Z) ?_
  first | refine J (BZ Z Z) ?_ | refine J (CT Z Z) ?_
  refine AB Z Z ?_
  first | refine B3 26 rfl (fun h26=>?_) (fun h26=>?_) | refine O1 26 rfl (fun h26=>?_) (fun h26=>?_)
  ·refine Dc Z Z Z Z (Dc Z Z Z Z (Dc Z Z Z Z (Dc Z Z Z Z (Dc Z Z Z Z (J (JR Z Z Z Z) (AE Z Z (AG (Bj Z Z ?_))))))))
   first | refine AF ?_ | refine BN hR ?_
   have h9:lnkW w l=(w,9):=lnk9 (by first | exact .inl (Classical.not_not.1 h16) | exact .inr (Classical.not_not.1 h12)) (by first | exact .inl h26 | exact .inr h21);refine AI (U (Hh Z Z Z Z Z Z Z Fc) (AG (Bc ?_)));exact ⟨_,[40],_,BX rfl,rfl,rfl,M,by rw [h9],rfl,by rw [h9];exact hrep⟩
  ·refine A4 Z Z Z ?_
   first | refine J (Af Z Z A8 rfl) ?_ | refine J (Ad Z Z Z A8 rfl) ?_ | refine J (Ae Z Z (rfl) rfl A8 rfl) ?_
   refine A4 Z Z Z ?_
   first | refine J (Cq rfl BY Z Z Z) ?_ | refine J (Cs rfl BY Z Z Z) ?_ | refine J (Ct rfl BY Z Z Z) ?_ | refine J (Cr rfl BY Z Z Z) ?_ | refine J (Cp rfl BY Z Z Z) ?_
   refine A4 Z Z Z ?_
   first | refine J (Af Z Z As rfl) ?_ | refine J (Ad Z Z Z As rfl) ?_ | refine J (Ae Z Z (rfl) rfl As rfl) ?_
   refine A4 Z Z Z (U (Gp (I0 hrep l.r) rfl [40] ⟨rfl,trivial⟩ Z Z Z Z Z Z Z Z Z) (A4 Z Z Z ?_))
   first | refine J (BZ Z Z) ?_ | refine J (CT Z Z) ?_
   refine J (JW Z Z Z Z) (AE Z Z (AG ?_))
   first | refine Ap rfl (fun h21=>?_) (fun h21=>?_) | refine CO rfl (fun h21=>?_) (fun h21=>?_)
   ·first | refine AF ?_ | refine BN hR ?_
    have h9:lnkW w l=(w,9):=lnk9 (by first | exact .inl (Classical.not_not.1 h16) | exact .inr (Classical.not_not.1 h12)) (by first | exact .inl h26 | exact .inr h21);refine AI (U (Hh Z Z Z Z Z Z Z Fc) (AG (Bc ?_)));exact ⟨_,[40],_,BX rfl,rfl,rfl,M,by rw [h9],rfl,by rw [h9];exact hrep⟩
   ·first | refine AF ?_ | refine BN hR ?_
    have ht:l.t=0∨l.t=1:=by first | exact .inl (Classical.not_not.1 h16) | exact .inr (Classical.not_not.1 h12)
    have hfR:l.f∈w.R:=Classical.not_not.1 h26;have hrR:l.r∈w.R:=Classical.not_not.1 h21;refine AI ?_
    first | refine J (Af Z Z As rfl) ?_ | refine J (Ad Z Z Z As rfl) ?_ | refine J (Ae Z Z (rfl) rfl As rfl) ?_
    first | refine J (Cq rfl BY Z Z Z) ?_ | refine J (Cs rfl BY Z Z Z) ?_ | refine J (Ct rfl BY Z Z Z) ?_ | refine J (Cr rfl BY Z Z Z) ?_ | refine J (Cp rfl BY Z Z Z) ?_
    first | refine J (Af Z Z As rfl) ?_ | refine J (Ad Z Z Z As rfl) ?_ | refine J (Ae Z Z (rfl) rfl As rfl) ?_
    first | refine J (G2 Z Z Z) ?_ | refine J (Ga Z Z Z) ?_ | refine J (GO Z Z Z) ?_ | refine J (G3 Try.underlying9 Z Z Z) ?_ | refine J (G6 Try.underlying9 Z Z Z) ?_ | refine J (G5 Try.underlying9 Z Z) ?_ | refine J (G9 Try.underlying9 Z Z) ?_ | refine J (G8 Try.underlying9 Z Z) ?_ | refine J (G4 Try.underlying9 Z Z Z) ?_ | refine J (G7 Try.underlying9 Z Z) ?_
    refine AE Z Z (AG ?_)
    first | refine Ap rfl (fun h33=>?_) (fun h33=>?_) | refine CO rfl (fun h33=>?_) (fun h33=>?_)
    ·first | refine AF ?_ | refine BN hR ?_
     refine AI (U (Hh Z Z Z Z Z Z Z Fc) (AG (Bc ?_)));exact ⟨_,[40],_,BX rfl,rfl,rfl,M,by rw [L4 ht hfR hrR h33],rfl,by rw [L4 ht hfR hrR h33];exact hrep⟩
    ·first | refine AF ?_ | refine BN hR ?_
     obtain ⟨hd,hm⟩:=hl.at hfR;refine BI [[],[0],[0,1],[0,1,2],[],[0,1,2,3,4],[],[0,1,2,3,4,5,6],[0,1,2,3,4,5,6,7]] mixed rfl (Mc ?_)
     first | refine AN [3] [] Z Z (fun _=>AD (Af Z Z A8 rfl)) ?_ | refine AQ [3] Z Z (fun _=>AD (Af Z Z A8 rfl)) ?_ | refine AN [3] [] Z Z (fun _=>AD (Ad Z Z Z A8 rfl)) ?_ | refine AQ [3] Z Z (fun _=>AD (Ad Z Z Z A8 rfl)) ?_ | refine AN [3] [] Z Z (fun _=>AD (Ae Z Z (rfl) rfl A8 rfl)) ?_ | refine AQ [3] Z Z (fun _=>AD (Ae Z Z (rfl) rfl A8 rfl)) ?_
     first | refine AN [39] [] Z Z (fun _=>AD (JZ Z Z)) ?_ | refine AQ [39] Z Z (fun _=>AD (JZ Z Z)) ?_ | refine AN [39] [] Z Z (fun _=>AD (JX Z Z)) ?_ | refine AQ [39] Z Z (fun _=>AD (JX Z Z)) ?_ | refine AN [39] [] Z Z (fun _=>AD (J0 Z Z)) ?_ | refine AQ [39] Z Z (fun _=>AD (J0 Z Z)) ?_ | refine AN [39] [] Z Z (fun _=>AD (JY Z Z)) ?_ | refine AQ [39] Z Z (fun _=>AD (JY Z Z)) ?_
     first | refine AN [40] [] Z Z (fun _=>AD (Cq rfl Ar Z Z Z)) ?_ | refine AQ [40] Z Z (fun _=>AD (Cq rfl Ar Z Z Z)) ?_ | refine AN [40] [] Z Z (fun _=>AD (Cs rfl Ar Z Z Z)) ?_ | refine AQ [40] Z Z (fun _=>AD (Cs rfl Ar Z Z Z)) ?_ | refine AN [40] [] Z Z (fun _=>AD (Ct rfl Ar Z Z Z)) ?_ | refine AQ [40] Z Z (fun _=>AD (Ct rfl Ar Z Z Z)) ?_ | refine AN [40] [] Z Z (fun _=>AD (Cr rfl Ar Z Z Z)) ?_ | refine AQ [40] Z Z (fun _=>AD (Cr rfl Ar Z Z Z)) ?_ | refine AN [40] [] Z Z (fun _=>AD (Cp rfl Ar Z Z Z)) ?_ | refine AQ [40] Z Z (fun _=>AD (Cp rfl Ar Z Z Z)) ?_
     first | refine AN [41] [] Z Z (fun _=>AD (JU (f:=40) Z Z (hr.cell) rfl Ch rfl)) ?_ | refine AQ [41] Z Z (fun _=>AD (JU (f:=40) Z Z (hr.cell) rfl Ch rfl)) ?_
     first | refine AN [4] [] Z Z (fun _=>AD (Af Z Z As rfl)) ?_ | refine AQ [4] Z Z (fun _=>AD (Af Z Z As rfl)) ?_ | refine AN [4] [] Z Z (fun _=>AD (Ad Z Z Z As rfl)) ?_ | refine AQ [4] Z Z (fun _=>AD (Ad Z Z Z As rfl)) ?_ | refine AN [4] [] Z Z (fun _=>AD (Ae Z Z (rfl) rfl As rfl)) ?_ | refine AQ [4] Z Z (fun _=>AD (Ae Z Z (rfl) rfl As rfl)) ?_
     first | refine AN [42,43] [] Z Z (fun _=>AD (JV (f:=40) (eE E) l.f none (some hd) Z Z hr.top rfl Dy FV Gq (CE hl.kd hm) rfl)) ?_ | refine AQ [42,43] Z Z (fun _=>AD (JV (f:=40) (eE E) l.f none (some hd) Z Z hr.top rfl Dy FV Gq (CE hl.kd hm) rfl)) ?_
     first | refine AN [5] [] Z Z (fun _=>AD (O4 Z Z BW rfl)) ?_ | refine AQ [5] Z Z (fun _=>AD (O4 Z Z BW rfl)) ?_ | refine AN [5] [] Z Z (fun _=>AD (O5 Z Z BW Z Z Z)) ?_ | refine AQ [5] Z Z (fun _=>AD (O5 Z Z BW Z Z Z)) ?_ | refine AN [5] [] Z Z (fun _=>AD (O6 Z Z (rfl) rfl BW rfl)) ?_ | refine AQ [5] Z Z (fun _=>AD (O6 Z Z (rfl) rfl BW rfl)) ?_
     refine Me 7 Z Z Z (JI 8 Z Z (J (JV (f:=40) (D8 (lk hd)) ⟨l.t,l.r⟩ false _ Z Z (hr.sub _ hm) rfl Kv Ns za4 (L6 _ _) rfl) (AG ⟨rfl,?_⟩)));refine JI 9 Z Z (AE Z Z (AG ⟨rfl,?_⟩));refine Md ?_
     first | refine Ap rfl (fun h38=>?_) (fun h38=>?_) | refine CO rfl (fun h38=>?_) (fun h38=>?_)
     ·first | refine AF ?_ | refine BN hR ?_
      refine AI (U (Hh Z Z Z Z Z Z Z Fc) (AG (Bc ?_)));have h7:=lnk7 ht hfR hrR h33 ((hl.ls _ hm _).1 h38);exact ⟨_,[40],_,BX rfl,rfl,rfl,M,by rw [h7],rfl,by rw [h7];exact hrep⟩
     ·refine BP ?_
      first | refine AF ?_ | refine BN hR ?_
      refine Bx 921 910 0 Z Z Z Z Z fun u3=>(Bx 922 911 0 Z Z Z Z Z fun u4=>(Bx 923 912 0 Z Z Z Z Z fun u5=>(Bx 924 913 0 Z Z Z Z Z fun u6=>(BI [[],[0],[0,1],[0,1,2],[],[0,1,2,3,4],[],[0,1,2,3,4,5,6]] mixed rfl (Mc ?_)))))
      first | refine AN [3] [] Z Z (fun _=>AD (Af Z Z A8 rfl)) ?_ | refine AQ [3] Z Z (fun _=>AD (Af Z Z A8 rfl)) ?_ | refine AN [3] [] Z Z (fun _=>AD (Ad Z Z Z A8 rfl)) ?_ | refine AQ [3] Z Z (fun _=>AD (Ad Z Z Z A8 rfl)) ?_ | refine AN [3] [] Z Z (fun _=>AD (Ae Z Z (rfl) rfl A8 rfl)) ?_ | refine AQ [3] Z Z (fun _=>AD (Ae Z Z (rfl) rfl A8 rfl)) ?_
      first | refine AN [47] [] Z Z (fun _=>AD (JZ Z Z)) ?_ | refine AQ [47] Z Z (fun _=>AD (JZ Z Z)) ?_ | refine AN [47] [] Z Z (fun _=>AD (JX Z Z)) ?_ | refine AQ [47] Z Z (fun _=>AD (JX Z Z)) ?_ | refine AN [47] [] Z Z (fun _=>AD (J0 Z Z)) ?_ | refine AQ [47] Z Z (fun _=>AD (J0 Z Z)) ?_ | refine AN [47] [] Z Z (fun _=>AD (JY Z Z)) ?_ | refine AQ [47] Z Z (fun _=>AD (JY Z Z)) ?_
      first | refine AN [48] [] Z Z (fun _=>AD (Cq rfl Ar Z Z Z)) ?_ | refine AQ [48] Z Z (fun _=>AD (Cq rfl Ar Z Z Z)) ?_ | refine AN [48] [] Z Z (fun _=>AD (Cs rfl Ar Z Z Z)) ?_ | refine AQ [48] Z Z (fun _=>AD (Cs rfl Ar Z Z Z)) ?_ | refine AN [48] [] Z Z (fun _=>AD (Ct rfl Ar Z Z Z)) ?_ | refine AQ [48] Z Z (fun _=>AD (Ct rfl Ar Z Z Z)) ?_ | refine AN [48] [] Z Z (fun _=>AD (Cr rfl Ar Z Z Z)) ?_ | refine AQ [48] Z Z (fun _=>AD (Cr rfl Ar Z Z Z)) ?_ | refine AN [48] [] Z Z (fun _=>AD (Cp rfl Ar Z Z Z)) ?_ | refine AQ [48] Z Z (fun _=>AD (Cp rfl Ar Z Z Z)) ?_
      first | refine AN [49] [] Z Z (fun _=>AD (JU (f:=40) Z Z (hr.cell) rfl Ch rfl)) ?_ | refine AQ [49] Z Z (fun _=>AD (JU (f:=40) Z Z (hr.cell) rfl Ch rfl)) ?_
      first | refine AN [4] [] Z Z (fun _=>AD (Af Z Z As rfl)) ?_ | refine AQ [4] Z Z (fun _=>AD (Af Z Z As rfl)) ?_ | refine AN [4] [] Z Z (fun _=>AD (Ad Z Z Z As rfl)) ?_ | refine AQ [4] Z Z (fun _=>AD (Ad Z Z Z As rfl)) ?_ | refine AN [4] [] Z Z (fun _=>AD (Ae Z Z (rfl) rfl As rfl)) ?_ | refine AQ [4] Z Z (fun _=>AD (Ae Z Z (rfl) rfl As rfl)) ?_
      first | refine AN [50,51] [] Z Z (fun _=>AD (JV (f:=40) (eE E) l.f none (some hd) Z Z hr.top rfl Dy FV Gq (CE hl.kd hm) rfl)) ?_ | refine AQ [50,51] Z Z (fun _=>AD (JV (f:=40) (eE E) l.f none (some hd) Z Z hr.top rfl Dy FV Gq (CE hl.kd hm) rfl)) ?_
      first | refine AN [5] [] Z Z (fun _=>AD (O4 Z Z BW rfl)) ?_ | refine AQ [5] Z Z (fun _=>AD (O4 Z Z BW rfl)) ?_ | refine AN [5] [] Z Z (fun _=>AD (O5 Z Z BW Z Z Z)) ?_ | refine AQ [5] Z Z (fun _=>AD (O5 Z Z BW Z Z Z)) ?_ | refine AN [5] [] Z Z (fun _=>AD (O6 Z Z (rfl) rfl BW rfl)) ?_ | refine AQ [5] Z Z (fun _=>AD (O6 Z Z (rfl) rfl BW rfl)) ?_
      refine Me 7 Z Z Z (JI 8 Z Z (U (Gu (f:=40) (D8 (lk hd)) (⟨l.t,l.r⟩) (true) Z Z (hr.sub _ hm) rfl Kv Ns Z Z) (AG ⟨rfl,?_⟩)));refine Md ?_;have hnK:l∉w.K:=fun hh=>h38 ((hl.ls _ hm _).2 hh);rw [L5 h38];have hrep1:CL _ b (BD w l):=J3 hr hl hm (l:=⟨l.t,l.r⟩) hnK;have hok1:=hw.with_ ht hfR hrR h33 hnK;have hK1:(BD w l).K.length≤1000000:=by show (w.K++ [l]).length≤_;rw [List.length_append,List.length_singleton];omega
      have h0:=Nk ht hfR hrR h33 hnK
      obtain ⟨M1,hM1⟩:∃M1,Ax M hd (.map none (Ec (lk hd++ [⟨l.t,l.r⟩])))=M1:=⟨_,rfl⟩
      rw [hM1] at hrep1⊢;refine Ld (xs:=[6,3,4,5]) (ars:=[.ptr 913 0 0,.ptr 910 0 0,.ptr 911 0 0,.ptr 912 0 0]) [.pointer (some ⟨u6,0,none⟩),.pointer (some ⟨u3,0,none⟩),.pointer (some ⟨u4,0,none⟩),.pointer (some ⟨u5,0,none⟩)] hD hlo hrnd Z Z Z ?_ ?_
      ·exact (Gm ⟨913,0,u6,924,0,rfl,rfl,rfl⟩ (Gm ⟨910,0,u3,921,0,rfl,rfl,rfl⟩ (Gm ⟨911,0,u4,922,0,rfl,rfl,rfl⟩ (Gm ⟨912,0,u5,923,0,rfl,rfl,rfl⟩ DA))))
      refine AF (AF (AI ?_))
      first | refine J (Af Z Z A8 rfl) ?_ | refine J (Ad Z Z Z A8 rfl) ?_ | refine J (Ae Z Z (rfl) rfl A8 rfl) ?_
      refine U (Gp (It hrep1 hok1 hK1) rfl [40] ⟨rfl,trivial⟩ Z Z Z Z Z Z Z Z Z) (AB Z Z ?_)
      first | refine J (Df Z Z Z) ?_ | refine J (De Z Z Z) ?_
      first | refine J (Df Z Z Z) ?_ | refine J (De Z Z Z) ?_
      refine AE Z Z (AE Z Z (AG (AF (AI (AB Z Z ?_)))))
      first | refine J (BZ Z Z) ?_ | refine J (CT Z Z) ?_
      refine AG ?_
      first | refine Ap rfl (fun h61=>?_) (fun h61=>?_) | refine CO rfl (fun h61=>?_) (fun h61=>?_)
      ·refine AF (AI (U (Hh Z Z Z Z Z Z Z Fc) (AG (Bc ?_))));have hac:acyW (BD w l)=false:=by simpa using h61
       have h0':lnkW w l=(w,26):=by rw [h0,hac];rfl
       refine ⟨_,HLk b l 26++ [(40,[.multi M1])],_,[910,911,912,913,40],_,_,_,Ij hrep1 l hfR 26,rfl,?_,⟨rfl,rfl,rfl,rfl,rfl,trivial⟩,rfl,rfl,rfl,rfl,fun r H' ⟨e1,M',e2,h3⟩=>?_⟩
       ·exact (Gm ⟨913,0,u6,924,0,rfl,rfl,rfl⟩ (Gm ⟨910,0,u3,921,0,rfl,rfl,rfl⟩ (Gm ⟨911,0,u4,922,0,rfl,rfl,rfl⟩ (Gm ⟨912,0,u5,923,0,rfl,rfl,rfl⟩ DA))))
       ·subst e1 e2;exact ⟨⟨rfl,rfl,rfl⟩,_,[40],_,BX rfl,rfl,rfl,M',by rw [h0'],rfl,by rw [h0'];rw [if_neg (by decide),IE hnK] at h3;exact h3⟩
      ·refine BP (AF (AI (U (Hh Z Z Z Z Z Z Z Fc) (AG (Bc ?_)))));have hac:acyW (BD w l)=true:=by simpa using h61
       have h0':lnkW w l=(BD w l,0):=by rw [h0,hac];rfl
       refine ⟨_,HLk b l 0++ [(40,[.multi M1])],_,[910,911,912,913,40],_,_,_,Ij hrep1 l hfR 0,rfl,?_,⟨rfl,rfl,rfl,rfl,rfl,trivial⟩,rfl,rfl,rfl,rfl,fun r H' ⟨e1,M',e2,h3⟩=>?_⟩
       ·exact (Gm ⟨913,0,u6,924,0,rfl,rfl,rfl⟩ (Gm ⟨910,0,u3,921,0,rfl,rfl,rfl⟩ (Gm ⟨911,0,u4,922,0,rfl,rfl,rfl⟩ (Gm ⟨912,0,u5,923,0,rfl,rfl,rfl⟩ DA))))
       ·subst e1 e2;exact ⟨⟨rfl,rfl,rfl⟩,_,[40],_,BX rfl,rfl,rfl,M',by rw [h0'],rfl,by rw [h0'];rw [if_pos rfl] at h3;exact h3⟩
theorem OD {M:MF} {b:Nat} {w:Ws} (h:CL M b w) (hw:B8 w) (hK:w.K.length≤1000000):AO Try.prog 19 [.d (pD b 0)] [(40,[.multi M])] fun r H'=>r= .d (Lc (groupsW w))∧H'=[(40,[.multi M])]:=by
 refine Fu Try.func19 Z Z Try.ntmps19 Z Z Z fun F hF=>(AF (AI (AE Z Z (AG (AF (AF (AI (AB Z Z ?_))))))))
 first | refine J (G2 Z Z Z) ?_ | refine J (Ga Z Z Z) ?_ | refine J (GO Z Z Z) ?_ | refine J (G3 Try.underlying23 Z Z Z) ?_ | refine J (G6 Try.underlying23 Z Z Z) ?_ | refine J (G5 Try.underlying23 Z Z) ?_ | refine J (G9 Try.underlying23 Z Z) ?_ | refine J (G8 Try.underlying23 Z Z) ?_ | refine J (G4 Try.underlying23 Z Z Z) ?_ | refine J (G7 Try.underlying23 Z Z) ?_
 refine AG (F6 rfl (rfl) (BP (AF (AI (AB Z Z (U (Gp (It h hw hK) rfl [40] ⟨rfl,trivial⟩ Z Z Z Z Z Z Z Z Z) (AB Z Z ?_)))))))
 first | refine J (Df Z Z Z) ?_ | refine J (De Z Z Z) ?_
 first | refine J (Df Z Z Z) ?_ | refine J (De Z Z Z) ?_
 refine AE Z Z (AE Z Z (AG (AF (AI (AB Z Z (AE Z Z (AG (Bc ?_))))))));exact ⟨_,[40],_,BX rfl,rfl,rfl,rfl,rfl⟩
theorem OS {M:MF} {b:Nat} {w:Ws} (h:CL M b w) (hw:B8 w) (hK:w.K.length≤1000000) (a:St):AO Try.prog 23 [.d (pD b 0),.d (AP a)] [(40,[.multi M])] fun r H'=>r= .d (if a∈w.R then stsD (cloW w a false) else .sl (some true) [])∧H'=[(40,[.multi M])]:=by
 refine Fu Try.func23 Z Z Try.ntmps23 Z Z Z fun F hF=>(AF (AI (AE Z Z ?_)));refine AG (AF (AI (AB Z Z (AB Z Z (U (Gp (cloF_c h hw hK a) rfl [40] ⟨rfl,trivial⟩ Z Z Z Z Z Z Z Z Z) (AE Z Z (AG (Bc ?_))))))));exact ⟨_,[40],_,BX rfl,rfl,rfl,rfl,rfl⟩
abbrev sa:St:=[97]
abbrev sb:St:=[98]
abbrev sc:St:=[99]
abbrev w1:Ws:=⟨[sa],[]⟩
abbrev w2:Ws:=⟨[sa,sb],[]⟩
abbrev w3:Ws:=⟨[sa,sb,sc],[]⟩
abbrev w4:Ws:=⟨[sa,sb,sc],[⟨sa,0,sb⟩]⟩
abbrev w5:Ws:=⟨[sa,sb,sc],[⟨sa,0,sb⟩,⟨sc,1,sa⟩]⟩
theorem JD:addW ⟨[],[]⟩ sa=(w1,0):=by unfold addW;rw [if_neg (by decide),if_neg (by decide),if_neg (by decide)];rfl
theorem Kz:addW w1 sb=(w2,0):=by unfold addW;rw [if_neg (by decide),if_neg (by decide),if_neg (by decide)];rfl
theorem Nz:addW w2 sc=(w3,0):=by unfold addW;rw [if_neg (by decide),if_neg (by decide),if_neg (by decide)];rfl
theorem k_ok1:B8 w1:=by have:=(DI.nil.add sa).ok;rw [JD] at this;exact this
theorem k_ok2:B8 w2:=by have:=((DI.nil.add sa).add sb).ok;rw [JD,Kz] at this;exact this
theorem k_ok3:B8 w3:=by have:=(((DI.nil.add sa).add sb).add sc).ok;rw [JD,Kz,Nz] at this;exact this
theorem Nu:B8 w4:=k_ok3.with_ (l:=⟨sa,0,sb⟩) (by decide) (by decide) (by decide) (by decide) (by decide)
theorem FY:B8 w5:=Nu.with_ (l:=⟨sc,1,sa⟩) (by decide) (by decide) (by decide) (by decide) (by decide)
theorem k_con {x y:St}:F9 w5 x y↔x=y∨(x=sa∧y=sb)∨(x=sb∧y=sa):=by
 constructor
 ·intro h;refine Aq.closed (p:=fun y=>x=y∨(x=sa∧y=sb)∨(x=sb∧y=sa)) (fun p q hp hq=>?_) (.inl rfl) h
  simp [Ii] at hq
  rcases hq with ⟨rfl,rfl⟩ | ⟨rfl,rfl⟩
  ·rcases hp with rfl | ⟨rfl,e⟩ | ⟨rfl,e⟩
   ·exact .inr (.inl ⟨rfl,rfl⟩)
   ·exact absurd e (by decide)
   ·exact .inl rfl
  ·rcases hp with rfl | ⟨rfl,e⟩ | ⟨rfl,e⟩
   ·exact .inr (.inr ⟨rfl,rfl⟩)
   ·exact .inl rfl
   ·exact absurd e (by decide)
 ·rintro (rfl | ⟨rfl,rfl⟩ | ⟨rfl,rfl⟩)
  ·exact .refl
  ·exact Aq.one (.inl (by simp))
  ·exact Aq.one (.inr (by simp))
theorem k_acy4:acyW w4=true:=by
 rw [EH Nu];rintro ⟨Y,⟨x,hx⟩,h⟩;obtain ⟨_,l,hl,ht,_⟩:=h x hx;rw [List.mem_singleton.1 hl] at ht;exact absurd ht (by decide)
theorem k_acy5:acyW w5=true:=by
 rw [EH FY];rintro ⟨Y,⟨x,hx⟩,h⟩
 have key:∀x,Y x ->F9 w5 x sc∧Y sa:=fun x hx=>by
  obtain ⟨_,l,hl,ht,hc,_,hy⟩:=h x hx;rcases List.mem_cons.1 hl with rfl | hl
  ·exact absurd ht (by decide)
  ·rw [List.mem_singleton.1 hl] at hc hy;exact ⟨hc,hy⟩
 have h1:=(key _ (key x hx).2).1;rw [k_con] at h1;exact absurd h1 (by decide)
theorem k_lnk1:lnkW w3 ⟨sa,0,sb⟩=(w4,0):=by rw [Nk (by decide) (by decide) (by decide) (by decide) (by decide)];exact if_pos k_acy4
theorem k_lnk2:lnkW w4 ⟨sc,1,sa⟩=(w5,0):=by rw [Nk (by decide) (by decide) (by decide) (by decide) (by decide)];exact if_pos k_acy5
theorem JC {x y:St}:F9 (BD w5 ⟨sb,1,sc⟩) x y↔F9 w5 x y:=by
 constructor<;>refine Aq.mono fun p q hq=>?_
 ·simp [Ii,BD] at hq⊢;exact hq
 ·simp [Ii,BD] at hq⊢;exact hq
theorem k_lnk3:lnkW w5 ⟨sb,1,sc⟩=(w5,26):=by
 rw [Nk (by decide) (by decide) (by decide) (by decide) (by decide)];refine if_neg fun h=>?_;rw [EH (FY.with_ (l:=⟨sb,1,sc⟩) (by decide) (by decide) (by decide) (by decide) (by decide))] at h;refine h ⟨fun x=>x∈w5.R,⟨sa,by decide⟩,fun x hx=>⟨hx,?_⟩⟩;have hx':x=sa∨x=sb∨x=sc:=by simpa using hx
 rcases hx' with rfl | rfl | rfl
 ·exact ⟨⟨sb,1,sc⟩,by simp [BD],rfl,JC.2 (k_con.2 (by decide)),fun hh=>absurd (k_con.1 (JC.1 hh)) (by decide),by decide⟩
 ·exact ⟨⟨sb,1,sc⟩,by simp [BD],rfl,.refl,fun hh=>absurd (k_con.1 (JC.1 hh)) (by decide),by decide⟩
 ·exact ⟨⟨sc,1,sa⟩,by simp [BD],rfl,.refl,fun hh=>absurd (k_con.1 (JC.1 hh)) (by decide),by decide⟩
theorem k_cls:cls w5 sa=[sa,sb]∧cls w5 sc=[sc]:=by
 unfold cls;simp only [k_con]
 constructor<;>rfl
open Classical in
theorem JB:parts w5=[[sa,sb],[sc]]:=by
 unfold parts
 have h1:K6 w5 sa:=fun x hx hc=>by
  rcases k_con.1 hc with rfl | ⟨_,rfl⟩ | ⟨e,_⟩
  ·decide
  ·decide
  ·exact absurd e (by decide)
 have h2:¬K6 w5 sb:=fun h=>h sa (by decide) (k_con.2 (by decide)) (by decide)
 have h3:K6 w5 sc:=fun x hx hc=>by
  rcases k_con.1 hc with rfl | ⟨e,_⟩ | ⟨e,_⟩
  ·decide
  ·exact absurd e (by decide)
  ·exact absurd e (by decide)
 show List.map _ (List.filter _ [sa,sb,sc])=_;rw [List.filter_cons_of_pos (p:=fun a=>decide (K6 w5 a)) (by exact decide_eq_true h1),List.filter_cons_of_neg (p:=fun a=>decide (K6 w5 a)) (by show ¬decide (K6 w5 sb)=true;rw [decide_eq_true_eq];exact h2),List.filter_cons_of_pos (p:=fun a=>decide (K6 w5 a)) (by exact decide_eq_true h3),List.filter_nil,List.map_cons,List.map_cons,k_cls.1,k_cls.2];rfl
theorem L8:idx w5 sa=0∧idx w5 sb=0∧idx w5 sc=1:=by
 unfold idx;rw [JB];decide
theorem Nx:depL w5 0=[]:=by
 refine List.eq_nil_iff_forall_not_mem.2 fun k hk=>?_;obtain ⟨_,l,hl,ht,hf,_⟩:=(Bw FY).1 hk;rcases List.mem_cons.1 hl with rfl | hl
 ·exact absurd ht (by decide)
 ·rw [List.mem_singleton.1 hl] at hf;rw [show idx w5 sc=1 from L8.2.2] at hf;cases hf
theorem Nw:depL w5 1=[0]:=by
 refine HA (F3 _ _) (by simp) fun k=>?_;rw [Bw FY]
 constructor
 ·rintro ⟨_,l,hl,ht,hf,hr⟩;rcases List.mem_cons.1 hl with rfl | hl
  ·exact absurd ht (by decide)
  ·rw [List.mem_singleton.1 hl] at hr;rw [show idx w5 sa=0 from L8.1] at hr;simp [←hr]
 ·intro hk;rw [List.mem_singleton.1 hk];exact ⟨by decide,⟨sc,1,sa⟩,by decide,rfl,L8.2.2,L8.1⟩
theorem k_ord:ordW w5=some [0,1]:=by
 unfold ordW;rw [JB];have h0:Fm 2 (depL w5) [] =some 0:=El (by decide) (Bt.2 ⟨by simp,by rw [Nx];simp⟩) (fun j hj=>by omega)
 have h1:Fm 2 (depL w5) [0] =some 1:=El (by decide) (Bt.2 ⟨by simp,by rw [Nw];simp⟩) (fun j hj=>by
  have:j=0:=by omega
  subst this
  rw [Bool.eq_false_iff];intro h;exact (Bt.1 h).1 (by simp))
 show FG 2 (depL w5) 2 [] =_;simp only [FG,h0,List.nil_append,h1]
 rfl
theorem Nv:groupsW w5=[⟨[sa,sb],[]⟩,⟨[sc],[0]⟩]:=by
 rw [(Lb k_ord).1];unfold grpS F4;rw [JB]
 simp [List.range_succ,Nx,Nw]
theorem Ny:cloW w5 sc false=[sa,sb,sc]:=by
 refine LP (OP FY _ _) FY.srt fun x=>?_;rw [KA];refine ⟨fun h=>h.1,fun h=>⟨h,?_⟩⟩;have h1:Aq (Stp w5 false) sc sa:=Aq.one (.inr (show (⟨sc,1,sa⟩:Lw)∈w5.K by decide));have hx:x=sa∨x=sb∨x=sc:=by simpa using h
 rcases hx with rfl | rfl | rfl
 ·exact h1
 ·exact h1.tail (.inl (.inl (by decide)))
 ·exact .refl
theorem KN {l:List St} {k:Nat} (h:k<l.length):(l.map AP)[k]?=some (AP (l.getD k [])):=by
 rw [List.getElem?_map,List.getElem?_eq_getElem h,List.getD_eq_getElem?_getD,List.getElem?_eq_getElem h];rfl
theorem take_eq {l l':List St} {k:Nat} (h1:k<l.length) (h2:k<l'.length) (h:l.take k=l'.take k) (e:l.getD k [] =l'.getD k []):l.take (k+1)=l'.take (k+1):=by
 rw [List.take_succ_eq_append_getElem h1,List.take_succ_eq_append_getElem h2,h];rw [List.getD_eq_getElem?_getD,List.getElem?_eq_getElem h1,List.getD_eq_getElem?_getD,List.getElem?_eq_getElem h2] at e;exact congrArg (fun x=>l'.take k++ [x]) e
theorem Iw (l l':List St) (hl:l.length≤1000000):Ex Try.prog 20 [.d (stsD l),.d (stsD l')] (D9 (decide (l=l'))):=by
 refine Fu Try.func20 Z Z Try.ntmps20 Z Z Z fun F hF=>(AF (AI ?_));refine AE Z Z (AG (AF (AF (AI (AB Z Z (J (EZ rfl (List.length_map ..) Try.underlying32 rfl) (AB Z Z (J (EZ rfl (List.length_map ..) Try.underlying32 rfl) ?_))))))))
 first | refine J (GM Z Z Z) ?_ | refine J (GS Z Z Z) ?_ | refine J (Fv Z Z Z) ?_ | refine J (GP Try.underlying3 Z Z Z) ?_ | refine J (GT Try.underlying3 Z Z Z) ?_ | refine J (st_neqN Try.underlying3 Z Z) ?_ | refine J (st_neqPr Try.underlying3 Z Z) ?_ | refine J (st_neqMz Try.underlying3 Z Z) ?_ | refine J (GQ Try.underlying3 Z Z Z) ?_ | refine J (st_neqFN Try.underlying3 Z Z) ?_
 refine AG ?_
 first | refine Ap rfl (fun h10=>?_) (fun h10=>?_) | refine CO rfl (fun h10=>?_) (fun h10=>?_)
 ·refine AF (AI (AE Z Z (AG (Bc ?_))));exact ⟨_,[],[],BX rfl,rfl,rfl,by rw [decide_eq_false fun e=>h10 (by rw [e])],rfl⟩
 ·refine BP (AF (AF ?_));have hll:l.length=l'.length:=Int.ofNat.inj (Classical.not_not.1 h10);refine AI (AE Z Z (AG (CR (OY (α:=Nat) (fun k=>⟨26,[(0,.d (stsD l)),(1,.d (stsD l')),(5,(.d (natD k)))],[]⟩) (fun k=>k≤l.length∧l.take k=l'.take k) (fun k=>l.length - k) (0) (⟨Nat.zero_le _,rfl⟩) (Fo ⟨rfl,rfl,rfl,trivial⟩) ?_))));rintro k ⟨hk,he⟩;refine AF (AF (AI (AB Z Z (AB Z Z (J (EZ rfl (List.length_map ..) Try.underlying32 rfl) ?_)))))
  first | refine J (Gk Z Z Z) ?_ | refine J (Gl Z Z Z) ?_
  refine AG ?_
  first | refine Ap rfl (fun h14=>?_) (fun h14=>?_) | refine CO rfl (fun h14=>?_) (fun h14=>?_)
  ·refine BP (AF (CR (AF ?_)));have hkl:k<l.length:=B5 h14;have hkl':k<l'.length:=by omega
   refine BI [[],[],[0,1],[0,1,2],[],[],[4,5],[4,5,6],[0,1,2,3,4,5,6,7]] mixed rfl (Mc ?_)
   first | refine AN [0] [] Z Z (fun _=>AD (By Z Z)) ?_ | refine AQ [0] Z Z (fun _=>AD (By Z Z)) ?_
   first | refine AN [5] [] Z Z (fun _=>AD (By Z Z)) ?_ | refine AQ [5] Z Z (fun _=>AD (By Z Z)) ?_
   first | refine AN [17,18] [] Z Z (fun _=>AD (Dj (k) Z Z (rfl) (KN hkl) Try.underlying32 rfl Mm rfl)) ?_ | refine AQ [17,18] Z Z (fun _=>AD (Dj (k) Z Z (rfl) (KN hkl) Try.underlying32 rfl Mm rfl)) ?_ | refine AN [17,18] [] Z Z (fun _=>AD (Dk (k) Z Z (rfl) (KN hkl) rfl Try.underlying32 Mm rfl)) ?_ | refine AQ [17,18] Z Z (fun _=>AD (Dk (k) Z Z (rfl) (KN hkl) rfl Try.underlying32 Mm rfl)) ?_
   first | refine AN [19] [] Z Z (fun _=>AD (Af Z Z As rfl)) ?_ | refine AQ [19] Z Z (fun _=>AD (Af Z Z As rfl)) ?_ | refine AN [19] [] Z Z (fun _=>AD (Ad Z Z Z As rfl)) ?_ | refine AQ [19] Z Z (fun _=>AD (Ad Z Z Z As rfl)) ?_ | refine AN [19] [] Z Z (fun _=>AD (Ae Z Z (rfl) rfl As rfl)) ?_ | refine AQ [19] Z Z (fun _=>AD (Ae Z Z (rfl) rfl As rfl)) ?_
   first | refine AN [1] [] Z Z (fun _=>AD (By Z Z)) ?_ | refine AQ [1] Z Z (fun _=>AD (By Z Z)) ?_
   first | refine AN [5] [] Z Z (fun _=>AD (By Z Z)) ?_ | refine AQ [5] Z Z (fun _=>AD (By Z Z)) ?_
   first | refine AN [21,22] [] Z Z (fun _=>AD (Dj (k) Z Z (rfl) (KN hkl') Try.underlying32 rfl Mm rfl)) ?_ | refine AQ [21,22] Z Z (fun _=>AD (Dj (k) Z Z (rfl) (KN hkl') Try.underlying32 rfl Mm rfl)) ?_ | refine AN [21,22] [] Z Z (fun _=>AD (Dk (k) Z Z (rfl) (KN hkl') rfl Try.underlying32 Mm rfl)) ?_ | refine AQ [21,22] Z Z (fun _=>AD (Dk (k) Z Z (rfl) (KN hkl') rfl Try.underlying32 Mm rfl)) ?_
   first | refine AN [23] [] Z Z (fun _=>AD (Af Z Z As rfl)) ?_ | refine AQ [23] Z Z (fun _=>AD (Af Z Z As rfl)) ?_ | refine AN [23] [] Z Z (fun _=>AD (Ad Z Z Z As rfl)) ?_ | refine AQ [23] Z Z (fun _=>AD (Ad Z Z Z As rfl)) ?_ | refine AN [23] [] Z Z (fun _=>AD (Ae Z Z (rfl) rfl As rfl)) ?_ | refine AQ [23] Z Z (fun _=>AD (Ae Z Z (rfl) rfl As rfl)) ?_
   refine Me 8 Z Z Z (JI 9 Z Z ?_)
   first | refine J (GM Z Z Z) ?_ | refine J (GS Z Z Z) ?_ | refine J (Fv Z Z Z) ?_ | refine J (GP Try.underlying9 Z Z Z) ?_ | refine J (GT Try.underlying9 Z Z Z) ?_ | refine J (st_neqN Try.underlying9 Z Z) ?_ | refine J (st_neqPr Try.underlying9 Z Z) ?_ | refine J (st_neqMz Try.underlying9 Z Z) ?_ | refine J (GQ Try.underlying9 Z Z Z) ?_ | refine J (st_neqFN Try.underlying9 Z Z) ?_
   refine AG ⟨rfl,?_⟩;refine Md ?_
   first | refine Ap rfl (fun h25=>?_) (fun h25=>?_) | refine CO rfl (fun h25=>?_) (fun h25=>?_)
   ·refine AF (AI (AE Z Z (AG (Bc ?_))));exact ⟨_,[],[],BX rfl,rfl,rfl,by rw [decide_eq_false fun e=>h25 (by rw [e])],rfl⟩
   ·refine BP (AI (AB Z Z (J (E9 Z Z (IntWalk.i64_in _ (by omega)) rfl) (AE Z Z (AG ?_)))));exact ⟨k+1,⟨hkl,take_eq hkl (by omega) he (Classical.not_not.1 h25)⟩,by omega,⟨rfl,rfl,fun _ _=>Has.get (l:=[(0,_),(1,_),(5,_)]) ⟨rfl,rfl,rfl,trivial⟩⟩⟩
  ·refine Gj (AF ?_);have hke:k=l.length:=by have:=h14;omega
   refine AI (AE Z Z (AG (Bc ?_)));exact ⟨_,[],[],BX rfl,rfl,rfl,by rw [decide_eq_true (by have h1:=he;rw [hke,List.take_length,hll,List.take_length] at h1;exact h1)],rfl⟩
theorem known_p:Ex Try.prog 10 [] (.raw (.bool true)):=by
 refine Fu Try.func10 Z Z Try.ntmps10 Z Z Z fun F hF=>(AF (AI (AE Z Z (AG (AF (AI ?_))))));refine F5 (GR IT rfl [40] ⟨rfl,trivial⟩ Z Z Z Z (fun r H' ⟨b,M,e1,e2,_⟩=>by subst e1 e2;exact ⟨rfl,rfl,rfl⟩) rfl) rfl ?_;rintro _ ⟨r,H',⟨b,M0,e1,e2,h0⟩,rfl⟩;subst e1 e2;refine AE Z Z (AG (AF (AF (AI (AB Z Z ?_)))))
 first | refine J (G2 Z Z Z) ?_ | refine J (Ga Z Z Z) ?_ | refine J (GO Z Z Z) ?_ | refine J (G3 Try.underlying23 Z Z Z) ?_ | refine J (G6 Try.underlying23 Z Z Z) ?_ | refine J (G5 Try.underlying23 Z Z) ?_ | refine J (G9 Try.underlying23 Z Z) ?_ | refine J (G8 Try.underlying23 Z Z) ?_ | refine J (G4 Try.underlying23 Z Z Z) ?_ | refine J (G7 Try.underlying23 Z Z) ?_
 refine AB Z Z (Ej 6 rfl (rfl) (A4 Z Z Z (AB Z Z (A4 Z Z Z ?_))));refine F5 (GR (Da h0 DI.nil.ok sa) rfl [40] ⟨rfl,trivial⟩ Z Z Z Z (fun r H' ⟨M,e1,e2,_⟩=>by subst e1 e2;exact ⟨rfl,rfl,rfl⟩) rfl) rfl ?_;rintro _ ⟨r,H',⟨M1,e1,e2,h1⟩,rfl⟩;subst e1 e2;rw [JD] at h1⊢;refine A4 Z Z Z ?_
 first | refine J (GM Z Z Z) ?_ | refine J (GS Z Z Z) ?_ | refine J (Fv Z Z Z) ?_ | refine J (GP Try.underlying25 Z Z Z) ?_ | refine J (GT Try.underlying25 Z Z Z) ?_ | refine J (st_neqN Try.underlying25 Z Z) ?_ | refine J (st_neqPr Try.underlying25 Z Z) ?_ | refine J (st_neqMz Try.underlying25 Z Z) ?_ | refine J (GQ Try.underlying25 Z Z Z) ?_ | refine J (st_neqFN Try.underlying25 Z Z) ?_
 refine J (JW Z Z Z Z) (AB Z Z (Ej 11 rfl (rfl) (A4 Z Z Z (AB Z Z (A4 Z Z Z ?_)))));refine F5 (GR (Da h1 k_ok1 sb) rfl [40] ⟨rfl,trivial⟩ Z Z Z Z (fun r H' ⟨M,e1,e2,_⟩=>by subst e1 e2;exact ⟨rfl,rfl,rfl⟩) rfl) rfl ?_;rintro _ ⟨r,H',⟨M2,e1,e2,h2⟩,rfl⟩;subst e1 e2;rw [Kz] at h2⊢;refine A4 Z Z Z ?_
 first | refine J (GM Z Z Z) ?_ | refine J (GS Z Z Z) ?_ | refine J (Fv Z Z Z) ?_ | refine J (GP Try.underlying25 Z Z Z) ?_ | refine J (GT Try.underlying25 Z Z Z) ?_ | refine J (st_neqN Try.underlying25 Z Z) ?_ | refine J (st_neqPr Try.underlying25 Z Z) ?_ | refine J (st_neqMz Try.underlying25 Z Z) ?_ | refine J (GQ Try.underlying25 Z Z Z) ?_ | refine J (st_neqFN Try.underlying25 Z Z) ?_
 refine J (JW Z Z Z Z) (AB Z Z (Ej 16 rfl (rfl) (A4 Z Z Z (AB Z Z (A4 Z Z Z ?_)))));refine F5 (GR (Da h2 k_ok2 sc) rfl [40] ⟨rfl,trivial⟩ Z Z Z Z (fun r H' ⟨M,e1,e2,_⟩=>by subst e1 e2;exact ⟨rfl,rfl,rfl⟩) rfl) rfl ?_;rintro _ ⟨r,H',⟨M3,e1,e2,h3⟩,rfl⟩;subst e1 e2;rw [Nz] at h3⊢;refine A4 Z Z Z ?_
 first | refine J (GM Z Z Z) ?_ | refine J (GS Z Z Z) ?_ | refine J (Fv Z Z Z) ?_ | refine J (GP Try.underlying25 Z Z Z) ?_ | refine J (GT Try.underlying25 Z Z Z) ?_ | refine J (st_neqN Try.underlying25 Z Z) ?_ | refine J (st_neqPr Try.underlying25 Z Z) ?_ | refine J (st_neqMz Try.underlying25 Z Z) ?_ | refine J (GQ Try.underlying25 Z Z Z) ?_ | refine J (st_neqFN Try.underlying25 Z Z) ?_
 refine J (JW Z Z Z Z) (AB Z Z (Ej 21 rfl (rfl) (A4 Z Z Z (AB Z Z (A4 Z Z Z (J (Ds Mq pl39 Z Z Z) (A4 Z Z Z ?_)))))));refine F5 (GR (Kx h3 k_ok3 (by decide) ⟨sa,0,sb⟩) rfl [40] ⟨rfl,trivial⟩ Z Z Z Z (fun r H' ⟨M,e1,e2,_⟩=>by subst e1 e2;exact ⟨rfl,rfl,rfl⟩) rfl) rfl ?_;rintro _ ⟨r,H',⟨M4,e1,e2,h4⟩,rfl⟩;subst e1 e2;rw [k_lnk1] at h4⊢;refine A4 Z Z Z ?_
 first | refine J (GM Z Z Z) ?_ | refine J (GS Z Z Z) ?_ | refine J (Fv Z Z Z) ?_ | refine J (GP Try.underlying25 Z Z Z) ?_ | refine J (GT Try.underlying25 Z Z Z) ?_ | refine J (st_neqN Try.underlying25 Z Z) ?_ | refine J (st_neqPr Try.underlying25 Z Z) ?_ | refine J (st_neqMz Try.underlying25 Z Z) ?_ | refine J (GQ Try.underlying25 Z Z Z) ?_ | refine J (st_neqFN Try.underlying25 Z Z) ?_
 refine J (JW Z Z Z Z) (AB Z Z (Ej 27 rfl (rfl) (A4 Z Z Z (AB Z Z (A4 Z Z Z (J (Ds Mq pl39 Z Z Z) (A4 Z Z Z ?_)))))));refine F5 (GR (Kx h4 Nu (by decide) ⟨sc,1,sa⟩) rfl [40] ⟨rfl,trivial⟩ Z Z Z Z (fun r H' ⟨M,e1,e2,_⟩=>by subst e1 e2;exact ⟨rfl,rfl,rfl⟩) rfl) rfl ?_;rintro _ ⟨r,H',⟨M5,e1,e2,h5⟩,rfl⟩;subst e1 e2;rw [k_lnk2] at h5⊢;refine A4 Z Z Z ?_
 first | refine J (GM Z Z Z) ?_ | refine J (GS Z Z Z) ?_ | refine J (Fv Z Z Z) ?_ | refine J (GP Try.underlying25 Z Z Z) ?_ | refine J (GT Try.underlying25 Z Z Z) ?_ | refine J (st_neqN Try.underlying25 Z Z) ?_ | refine J (st_neqPr Try.underlying25 Z Z) ?_ | refine J (st_neqMz Try.underlying25 Z Z) ?_ | refine J (GQ Try.underlying25 Z Z Z) ?_ | refine J (st_neqFN Try.underlying25 Z Z) ?_
 refine J (JW Z Z Z Z) (AG ?_);refine F6 rfl (rfl) (BP (AF (AI (AB Z Z (U (Gp (OD h5 FY (by decide)) rfl [40] ⟨rfl,trivial⟩ Z Z Z Z Z Z Z Z Z) (AE Z Z (AG (AF ?_))))))));rw [Nv];refine AI (AB Z Z ?_)
 first | refine J (Id rfl Try.underlying47 rfl) ?_ | refine J (EZ Z Z Try.underlying47 rfl) ?_ | refine J (Ih rfl Try.underlying47 rfl) ?_ | refine J (Ib rfl Try.underlying47 rfl) ?_ | refine J (Ig rfl Try.underlying47 rfl) ?_ | refine J (Hw rfl Try.underlying47 rfl) ?_
 first | refine J (G2 Z Z Z) ?_ | refine J (Ga Z Z Z) ?_ | refine J (GO Z Z Z) ?_ | refine J (G3 Try.underlying3 Z Z Z) ?_ | refine J (G6 Try.underlying3 Z Z Z) ?_ | refine J (G5 Try.underlying3 Z Z) ?_ | refine J (G9 Try.underlying3 Z Z) ?_ | refine J (G8 Try.underlying3 Z Z) ?_ | refine J (G4 Try.underlying3 Z Z Z) ?_ | refine J (G7 Try.underlying3 Z Z) ?_
 refine AB Z Z (Ci 38 rfl (rfl) (A4 Z Z Z (AB Z Z (A4 Z Z Z ?_))))
 first | refine J (Dj (0) Z Z (rfl) (rfl) Try.underlying47 rfl Ik rfl) ?_ | refine J (Dk (0) Z Z (rfl) (rfl) rfl Try.underlying47 Ik rfl) ?_
 refine A4 Z Z Z ?_
 first | refine J (Cq rfl Ck Z Z Z) ?_ | refine J (Cs rfl Ck Z Z Z) ?_ | refine J (Ct rfl Ck Z Z Z) ?_ | refine J (Cr rfl Ck Z Z Z) ?_ | refine J (Cp rfl Ck Z Z Z) ?_
 refine A4 Z Z Z ?_
 first | refine J (Af Z Z CG rfl) ?_ | refine J (Ad Z Z Z CG rfl) ?_ | refine J (Ae Z Z (rfl) rfl CG rfl) ?_
 refine A4 Z Z Z (U (K8 12 EX Z Z Z Z Z Z Z Z) ?_);refine Fl (emb:=AP) 43 12 [sa,sb] Z Z Z Z Z Z Z (A4 Z Z Z (J (FC (Iw [sa,sb] [sa,sb] (by decide)) Z Z) (J (JR Z Z Z Z) (AB Z Z (Ci 46 rfl (rfl) (A4 Z Z Z (AB Z Z (A4 Z Z Z ?_))))))))
 first | refine J (Dj (1) Z Z (rfl) (rfl) Try.underlying47 rfl Ik rfl) ?_ | refine J (Dk (1) Z Z (rfl) (rfl) rfl Try.underlying47 Ik rfl) ?_
 refine A4 Z Z Z ?_
 first | refine J (Cq rfl Ck Z Z Z) ?_ | refine J (Cs rfl Ck Z Z Z) ?_ | refine J (Ct rfl Ck Z Z Z) ?_ | refine J (Cr rfl Ck Z Z Z) ?_ | refine J (Cp rfl Ck Z Z Z) ?_
 refine A4 Z Z Z ?_
 first | refine J (Af Z Z CG rfl) ?_ | refine J (Ad Z Z Z CG rfl) ?_ | refine J (Ae Z Z (rfl) rfl CG rfl) ?_
 refine A4 Z Z Z (U (K8 13 EX Z Z Z Z Z Z Z Z) ?_);refine Fl (emb:=AP) 51 13 [sc] Z Z Z Z Z Z Z (A4 Z Z Z (J (FC (Iw [sc] [sc] (by decide)) Z Z) (J (JR Z Z Z Z) (AB Z Z (Ci 54 rfl (rfl) (A4 Z Z Z (AB Z Z (A4 Z Z Z ?_))))))))
 first | refine J (Dj (1) Z Z (rfl) (rfl) Try.underlying47 rfl Ik rfl) ?_ | refine J (Dk (1) Z Z (rfl) (rfl) rfl Try.underlying47 Ik rfl) ?_
 refine A4 Z Z Z ?_
 first | refine J (Cq rfl Ey Z Z Z) ?_ | refine J (Cs rfl Ey Z Z Z) ?_ | refine J (Ct rfl Ey Z Z Z) ?_ | refine J (Cr rfl Ey Z Z Z) ?_ | refine J (Cp rfl Ey Z Z Z) ?_
 refine A4 Z Z Z ?_
 first | refine J (Af Z Z A7 rfl) ?_ | refine J (Ad Z Z Z A7 rfl) ?_ | refine J (Ae Z Z (rfl) rfl A7 rfl) ?_
 refine A4 Z Z Z ?_
 first | refine J (Id rfl Try.underlying49 rfl) ?_ | refine J (EZ Z Z Try.underlying49 rfl) ?_ | refine J (Ih rfl Try.underlying49 rfl) ?_ | refine J (Ib rfl Try.underlying49 rfl) ?_ | refine J (Ig rfl Try.underlying49 rfl) ?_ | refine J (Hw rfl Try.underlying49 rfl) ?_
 refine A4 Z Z Z ?_
 first | refine J (G2 Z Z Z) ?_ | refine J (Ga Z Z Z) ?_ | refine J (GO Z Z Z) ?_ | refine J (G3 Try.underlying3 Z Z Z) ?_ | refine J (G6 Try.underlying3 Z Z Z) ?_ | refine J (G5 Try.underlying3 Z Z) ?_ | refine J (G9 Try.underlying3 Z Z) ?_ | refine J (G8 Try.underlying3 Z Z) ?_ | refine J (G4 Try.underlying3 Z Z Z) ?_ | refine J (G7 Try.underlying3 Z Z) ?_
 refine J (JR Z Z Z Z) (AB Z Z (Ci 62 rfl (rfl) (A4 Z Z Z (AB Z Z (A4 Z Z Z ?_)))))
 first | refine J (Dj (1) Z Z (rfl) (rfl) Try.underlying47 rfl Ik rfl) ?_ | refine J (Dk (1) Z Z (rfl) (rfl) rfl Try.underlying47 Ik rfl) ?_
 refine A4 Z Z Z ?_
 first | refine J (Cq rfl Ey Z Z Z) ?_ | refine J (Cs rfl Ey Z Z Z) ?_ | refine J (Ct rfl Ey Z Z Z) ?_ | refine J (Cr rfl Ey Z Z Z) ?_ | refine J (Cp rfl Ey Z Z Z) ?_
 refine A4 Z Z Z ?_
 first | refine J (Af Z Z A7 rfl) ?_ | refine J (Ad Z Z Z A7 rfl) ?_ | refine J (Ae Z Z (rfl) rfl A7 rfl) ?_
 refine A4 Z Z Z ?_
 first | refine J (Dj (0) Z Z (rfl) (rfl) Try.underlying49 rfl Dn rfl) ?_ | refine J (Dk (0) Z Z (rfl) (rfl) rfl Try.underlying49 Dn rfl) ?_
 refine A4 Z Z Z ?_
 first | refine J (Af Z Z Co rfl) ?_ | refine J (Ad Z Z Z Co rfl) ?_ | refine J (Ae Z Z (rfl) rfl Co rfl) ?_
 refine A4 Z Z Z ?_
 first | refine J (G2 Z Z Z) ?_ | refine J (Ga Z Z Z) ?_ | refine J (GO Z Z Z) ?_ | refine J (G3 Try.underlying3 Z Z Z) ?_ | refine J (G6 Try.underlying3 Z Z Z) ?_ | refine J (G5 Try.underlying3 Z Z) ?_ | refine J (G9 Try.underlying3 Z Z) ?_ | refine J (G8 Try.underlying3 Z Z) ?_ | refine J (G4 Try.underlying3 Z Z Z) ?_ | refine J (G7 Try.underlying3 Z Z) ?_
 refine J (JR Z Z Z Z) (AB Z Z (Ci 71 rfl (rfl) (A4 Z Z Z (AB Z Z (A4 Z Z Z (U (Gp (OS h5 FY (by decide) sc) rfl [40] ⟨rfl,trivial⟩ Z Z Z Z Z Z Z Z Z) ?_))))));rw [if_pos (show sc∈w5.R by decide),Ny];refine A4 Z Z Z (U (K8 14 EX Z Z Z Z Z Z Z Z) (Fl (emb:=AP) 74 14 [sa,sb,sc] Z Z Z Z Z Z Z (A4 Z Z Z ?_)));refine J (FC (Iw [sa,sb,sc] [sa,sb,sc] (by decide)) Z Z) (J (JR Z Z Z Z) (AB Z Z (Ci 77 rfl (rfl) (A4 Z Z Z (AB Z Z (A4 Z Z Z (J (Ds Mq pl39 Z Z Z) (A4 Z Z Z ?_))))))));refine F5 (GR (Kx h5 FY (by decide) ⟨sb,1,sc⟩) rfl [40] ⟨rfl,trivial⟩ Z Z Z Z (fun r H' ⟨M,e1,e2,_⟩=>by subst e1 e2;exact ⟨rfl,rfl,rfl⟩) rfl) rfl ?_;rintro _ ⟨r,H',⟨M6,e1,e2,h6⟩,rfl⟩;subst e1 e2;rw [k_lnk3] at h6⊢;refine A4 Z Z Z ?_
 first | refine J (G2 Z Z Z) ?_ | refine J (Ga Z Z Z) ?_ | refine J (GO Z Z Z) ?_ | refine J (G3 Try.underlying25 Z Z Z) ?_ | refine J (G6 Try.underlying25 Z Z Z) ?_ | refine J (G5 Try.underlying25 Z Z) ?_ | refine J (G9 Try.underlying25 Z Z) ?_ | refine J (G8 Try.underlying25 Z Z) ?_ | refine J (G4 Try.underlying25 Z Z Z) ?_ | refine J (G7 Try.underlying25 Z Z) ?_
 refine J (JR Z Z Z Z) (AE Z Z (AG (Bc ?_)));exact ⟨_,[],[],BX rfl,rfl,rfl,by simp,rfl⟩
end Go.Proofs.Ytlmedakidpaeeaa
