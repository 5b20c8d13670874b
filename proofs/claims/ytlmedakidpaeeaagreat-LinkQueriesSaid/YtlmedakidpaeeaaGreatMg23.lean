/- Layer 27: a reference's links, in order. -/
import Derived.Test.YtlmedakidpaeeaaGreatMg22
namespace Go.Proofs.YtlmedakidpaeeaaGreat
open Go.RowKit
set_option maxRecDepth 100000
def HE (a b:Lk):Int:=EK [EP a.t b.t,EO a.r b.r]
theorem HD:PC HE:=PC.lex (cmpI_pc.comap Lk.t)<| PC.lex (cmpS_pc.comap Lk.r) PC.last
theorem Pd {a b:Lk}:HE a b=0↔a=b:=by
 unfold HE;simp only [EK];rw [Lk.eq_iff]
 constructor
 ·intro h
  split at h
  ·rename_i h1
   split at h
   ·rename_i h2
    exact ⟨Hv.1 h1,Hu.1 h2⟩
   ·contradiction
  ·contradiction
 ·rintro ⟨h1,h2⟩;rw [h1,h2]
  simp [Hv,Hu]
theorem R9 (a b:Lk):Ak Tryz.prog 25 [.d (KG a),.d (KG b)] (B7 (HE a b)):=by
 refine CP Tryz.func25 Z Z Tryz.ntmps25 Z Z Z fun F hF=>?_;refine AE (AH (U (Gl 1 Z Z Z Z Z Z Z) (U (Gl 2 Z Z Z Z Z Z Z) (AD Z Z (AF (AE (FK [[],[0],[],[2],[0,1,2,3],[],[5],[],[7],[0,1,2,3,4,5,6,7,8],[0,1,2,3,4,5,6,7,8,9],[0,1,2,3,4,5,6,7,8,9,10],[0,1,2,3,4,5,6,7,8,9,10,11]] mixed rfl (D1 ?_))))))))
 first | refine AG [2] [] Z Z (fun _=>AB (A2 rfl Dh Z Z Z)) ?_ | refine AI [2] Z Z (fun _=>AB (A2 rfl Dh Z Z Z)) ?_ | refine AG [2] [] Z Z (fun _=>AB (A4 rfl Dh Z Z Z)) ?_ | refine AI [2] Z Z (fun _=>AB (A4 rfl Dh Z Z Z)) ?_ | refine AG [2] [] Z Z (fun _=>AB (A5 rfl Dh Z Z Z)) ?_ | refine AI [2] Z Z (fun _=>AB (A5 rfl Dh Z Z Z)) ?_ | refine AG [2] [] Z Z (fun _=>AB (A3 rfl Dh Z Z Z)) ?_ | refine AI [2] Z Z (fun _=>AB (A3 rfl Dh Z Z Z)) ?_ | refine AG [2] [] Z Z (fun _=>AB (A1 rfl Dh Z Z Z)) ?_ | refine AI [2] Z Z (fun _=>AB (A1 rfl Dh Z Z Z)) ?_
 first | refine AG [5] [] Z Z (fun _=>AB (AZ Z Z BV rfl)) ?_ | refine AI [5] Z Z (fun _=>AB (AZ Z Z BV rfl)) ?_ | refine AG [5] [] Z Z (fun _=>AB (AX Z Z Z BV rfl)) ?_ | refine AI [5] Z Z (fun _=>AB (AX Z Z Z BV rfl)) ?_ | refine AG [5] [] Z Z (fun _=>AB (AY Z Z (rfl) rfl BV rfl)) ?_ | refine AI [5] Z Z (fun _=>AB (AY Z Z (rfl) rfl BV rfl)) ?_
 first | refine AG [3] [] Z Z (fun _=>AB (A2 rfl Dh Z Z Z)) ?_ | refine AI [3] Z Z (fun _=>AB (A2 rfl Dh Z Z Z)) ?_ | refine AG [3] [] Z Z (fun _=>AB (A4 rfl Dh Z Z Z)) ?_ | refine AI [3] Z Z (fun _=>AB (A4 rfl Dh Z Z Z)) ?_ | refine AG [3] [] Z Z (fun _=>AB (A5 rfl Dh Z Z Z)) ?_ | refine AI [3] Z Z (fun _=>AB (A5 rfl Dh Z Z Z)) ?_ | refine AG [3] [] Z Z (fun _=>AB (A3 rfl Dh Z Z Z)) ?_ | refine AI [3] Z Z (fun _=>AB (A3 rfl Dh Z Z Z)) ?_ | refine AG [3] [] Z Z (fun _=>AB (A1 rfl Dh Z Z Z)) ?_ | refine AI [3] Z Z (fun _=>AB (A1 rfl Dh Z Z Z)) ?_
 first | refine AG [7] [] Z Z (fun _=>AB (AZ Z Z BV rfl)) ?_ | refine AI [7] Z Z (fun _=>AB (AZ Z Z BV rfl)) ?_ | refine AG [7] [] Z Z (fun _=>AB (AX Z Z Z BV rfl)) ?_ | refine AI [7] Z Z (fun _=>AB (AX Z Z Z BV rfl)) ?_ | refine AG [7] [] Z Z (fun _=>AB (AY Z Z (rfl) rfl BV rfl)) ?_ | refine AI [7] Z Z (fun _=>AB (AY Z Z (rfl) rfl BV rfl)) ?_
 first | refine AG [6,8] [] Z Z (fun _=>AB (Bz (SJ a.t b.t) Z Z)) ?_ | refine AI [6,8] Z Z (fun _=>AB (Bz (SJ a.t b.t) Z Z)) ?_
 first | refine AG [2] [] Z Z (fun _=>AB (A2 rfl Bd Z Z Z)) ?_ | refine AI [2] Z Z (fun _=>AB (A2 rfl Bd Z Z Z)) ?_ | refine AG [2] [] Z Z (fun _=>AB (A4 rfl Bd Z Z Z)) ?_ | refine AI [2] Z Z (fun _=>AB (A4 rfl Bd Z Z Z)) ?_ | refine AG [2] [] Z Z (fun _=>AB (A5 rfl Bd Z Z Z)) ?_ | refine AI [2] Z Z (fun _=>AB (A5 rfl Bd Z Z Z)) ?_ | refine AG [2] [] Z Z (fun _=>AB (A3 rfl Bd Z Z Z)) ?_ | refine AI [2] Z Z (fun _=>AB (A3 rfl Bd Z Z Z)) ?_ | refine AG [2] [] Z Z (fun _=>AB (A1 rfl Bd Z Z Z)) ?_ | refine AI [2] Z Z (fun _=>AB (A1 rfl Bd Z Z Z)) ?_
 first | refine AG [10] [] Z Z (fun _=>AB (AZ Z Z AR rfl)) ?_ | refine AI [10] Z Z (fun _=>AB (AZ Z Z AR rfl)) ?_ | refine AG [10] [] Z Z (fun _=>AB (AX Z Z Z AR rfl)) ?_ | refine AI [10] Z Z (fun _=>AB (AX Z Z Z AR rfl)) ?_ | refine AG [10] [] Z Z (fun _=>AB (AY Z Z (rfl) rfl AR rfl)) ?_ | refine AI [10] Z Z (fun _=>AB (AY Z Z (rfl) rfl AR rfl)) ?_
 first | refine AG [3] [] Z Z (fun _=>AB (A2 rfl Bd Z Z Z)) ?_ | refine AI [3] Z Z (fun _=>AB (A2 rfl Bd Z Z Z)) ?_ | refine AG [3] [] Z Z (fun _=>AB (A4 rfl Bd Z Z Z)) ?_ | refine AI [3] Z Z (fun _=>AB (A4 rfl Bd Z Z Z)) ?_ | refine AG [3] [] Z Z (fun _=>AB (A5 rfl Bd Z Z Z)) ?_ | refine AI [3] Z Z (fun _=>AB (A5 rfl Bd Z Z Z)) ?_ | refine AG [3] [] Z Z (fun _=>AB (A3 rfl Bd Z Z Z)) ?_ | refine AI [3] Z Z (fun _=>AB (A3 rfl Bd Z Z Z)) ?_ | refine AG [3] [] Z Z (fun _=>AB (A1 rfl Bd Z Z Z)) ?_ | refine AI [3] Z Z (fun _=>AB (A1 rfl Bd Z Z Z)) ?_
 first | refine AG [12] [] Z Z (fun _=>AB (AZ Z Z AR rfl)) ?_ | refine AI [12] Z Z (fun _=>AB (AZ Z Z AR rfl)) ?_ | refine AG [12] [] Z Z (fun _=>AB (AX Z Z Z AR rfl)) ?_ | refine AI [12] Z Z (fun _=>AB (AX Z Z Z AR rfl)) ?_ | refine AG [12] [] Z Z (fun _=>AB (AY Z Z (rfl) rfl AR rfl)) ?_ | refine AI [12] Z Z (fun _=>AB (AY Z Z (rfl) rfl AR rfl)) ?_
 refine D2 9 Z Z Z (BY 10 Z Z (J (Bz (cmpS_p a.r b.r) Z Z) (AF ⟨rfl,?_⟩)));refine BY 11 Z Z (U (Fq 3 Dc Z Z Z Z Z Z Z Z) (AF ⟨rfl,?_⟩));refine BY 12 Z Z (J (PR [3] (or_p [EP a.t b.t,EO a.r b.r] (by simp)) (by exact ⟨.inr ⟨_,_,rfl,.own Z Z (by simp) (List.take_of_length_le (by simp)),rfl⟩,trivial⟩) Z Z) (AF ⟨rfl,?_⟩));refine BY 13 Z Z (AD Z Z (AF ⟨rfl,?_⟩));refine Eg (Aq ?_);exact ⟨_,[],[],An rfl,rfl,rfl,rfl,rfl⟩
theorem lk_agg (x:Lk):∃cs,KG x= .agg cs:=⟨_,rfl⟩
theorem lk_one {ys m:List Lk} (hn:ys.Nodup) (hs:ys.Pairwise fun a b=>¬HE b a<0) (hm:m.Pairwise fun a b=>HE a b<0) (h:∀x,x∈ys↔x∈m):ys=m:=by
 refine Ih (R:=fun a b=>HE a b<0) (fun x hx=>?_) HD.trans ?_ hm h
 ·have:=HD.refl x;omega
 ·refine List.Pairwise.imp₂ (R:=fun a b=>¬HE b a<0) (S:=fun a b=>a≠b) (fun {a b} h1 h2=>?_) hs hn;have h3:=HD.anti a b;have h4:HE a b≠0:=fun e=>h2 (Pd.1 e);omega
abbrev KL:FuncId:=43
abbrev hVl (q:List Lk):Hp:=[(920,[.rowD 42 2 (q.map KG)]),(1,[.blk 32 [.own 920 0 q.length]])]
abbrev lpL (l:Nat) (A B:Code) (v:D):ED:=⟨l,13,[(2,.ptr 1 0 0),(6,.fn KL [.d (.ptr v)])],.ready,none, #[7],A,B⟩
def IK (M:MF) (v:D) (L:List Lk):Prop:=∀(l:Nat) (A B:Code),
  (∀(q:List Lk) x,q.length<L.length ->Ft Tryz.prog l [.d (KG x)] ((900,[.loop (lpL l A B v)])::hVl q) fun r H'=>r= .d (.raw (.bool true))∧H'=(900,[.loop (lpL l A B v)])::hVl (q++ [x]))→
  AQ Tryz.prog KL [.d (.raw (CR l)),.d (.ptr v)] ((900,[.loop (lpL l A B v)])::(hVl []++ [(40,[.multi M])])) fun r H'=>r= .tup []∧∃its:List Lk,its.Perm L∧H'=(900,[.loop (lpL l A B v)])::(hVl its++ [(40,[.multi M])])
theorem keysL_c {M:MF} {m:Nat} {L:List Lk} (hm:M m=some (.map none (DJ L))):IK M (mD m) L:=by
 intro l A B hY;refine CP Tryz.func43 Z Z Tryz.ntmps43 Z Z Z fun F hF=>(AE (C4 40 m rfl hm (fun _ _=>rfl) fun Bb c hB hBn=>?_))
 obtain ⟨M1,hM1⟩:∃M1,BU M m (.map (some (Bb,c)) (DJ L))=M1:=⟨_,rfl⟩
 have h1m:M1 m=some (.map (some (Bb,c)) (DJ L)):=by rw [←hM1,D9]
 rw [hM1];refine AH ?_
 first | refine J (AZ Z Z Pg rfl) ?_ | refine J (AX Z Z Z Pg rfl) ?_ | refine J (AY Z Z (rfl) rfl Pg rfl) ?_
 refine U (CV 2 (f:=40) Z Z (h1m) rfl G8 Z Z Z Z) (AF (BH (Db (α:=List Nat×List Lk) (fun q=>⟨14,[(0,.d (.raw (CR l))),(5,(.ptr 2 0 0))],[(900,[.loop (lpL l A B (mD m))]),(920,[.rowD 42 2 (q.2.map KG)]),(1,[.blk 32 [.own 920 0 q.2.length]]),(2,[.iter 40 m c q.1]),(40,[.multi M1])]⟩) (fun q=>(q.2++(Bi (DL L) Bb q.1).map Prod.fst).Perm L) (fun q=>(Bi (DL L) Bb q.1).length) (([],[])) (by show ([]++(Bi (DL L) Bb []).map Prod.fst).Perm _;rw [CZ (by simpa [Ae] using hB),lkM_fst];exact List.Perm.refl _) (At hF [900,920,1,2,40] Z Z ⟨rfl,rfl,trivial⟩) ?_)));rintro ⟨seen,acc⟩ hP;dsimp only at hP⊢;refine AE (AH (Dv (DL L) Z Z Z (h1m) rfl (fun hl6=>?_) (fun j6 b6 k6 v6 hm6 hb6 hB6 hp6=>⟨_,rfl,?_⟩)))
 ·rw [hl6] at hP;refine Cq 40 m rfl h1m rfl ?_;rw [show BU M1 m (.map none (DJ L))=M by rw [←hM1,SY];exact Es hm]
  first | refine J (Bn Z Z Z) ?_ | refine J (Bm Z Z Z) ?_
  refine AF (AE (DM Z Z (C5 ?_)));exact ⟨_,[900,920,1,40],_,An rfl,rfl,rfl,rfl,acc,by simpa using hP,rfl⟩
 ·first | refine J (Bn Z Z Z) ?_ | refine J (Bm Z Z Z) ?_
  refine AF (AE (IH Z Z (Ai (BH (AE (AH (J (CX (DL L) j6 b6 Z Z Z (h1m) hm6 hb6 rfl) ?_)))))))
  first | refine J (Bn Z Z Z) ?_ | refine J (Bm Z Z Z) ?_
  refine U (HZ 3 Iw Z Z Z Z) (U (Bu Z Z Z Z Z Z Z ME) (AF (AE ?_)));have hlt:acc.length<L.length:=by have h1:=hP.length_eq;have h2:=hp6.length_eq;simp at h1 h2;omega
  refine AH (AC Z Z ?_)
  first | refine J (BN Z Z Am rfl) ?_ | refine J (BO Z Z Am Z Z Z) ?_ | refine J (BP Z Z (rfl) rfl Am rfl) ?_
  refine Mh Z Z (hY acc k6 hlt) [900,920,1] ⟨rfl,rfl,rfl,trivial⟩ Z Z Z Z (fun r H' ⟨e1,e2⟩=>by subst e1 e2;exact ⟨rfl,rfl,rfl⟩) rfl fun r H' ⟨e1,e2⟩=>?_;subst e1 e2
  first | refine J (ET Z Z) ?_ | refine J (EQ Z Z) ?_
  refine AF (DM rfl (rfl) (Ai ?_));exact ⟨(seen++ [b6],acc++ [k6]),E8 hP (y:=[k6]) (by simpa using hp6.map Prod.fst),by show (Bi (DL L) Bb (seen++ [b6])).length<(Bi (DL L) Bb seen).length;rw [hp6.length_eq];exact Nat.lt_succ_self _,At hF [900,920,1,2,40] rfl (rfl) ⟨rfl,rfl,trivial⟩⟩
theorem keysZ_c {M:MF}:IK M (.raw (.map none)) []:=by
 intro l A B hY;refine CP Tryz.func43 Z Z Tryz.ntmps43 Z Z Z fun F hF=>(AE (AH ?_))
 first | refine J (AZ Z Z Pg rfl) ?_ | refine J (AX Z Z Z Pg rfl) ?_ | refine J (AY Z Z (rfl) rfl Pg rfl) ?_
 refine U (PL 2 rfl G8 Z Z Z Z) (AF (BH (Db (α:=Nat) (fun q=>⟨14,[(0,.d (.raw (CR l))),(5,(.ptr 2 0 0))],[(900,[.loop (lpL l A B (.raw (.map none)))]),(920,[.rowD 42 2 []]),(1,[.blk 32 [.own 920 0 0]]),(2,[.itz]),(40,[.multi M])]⟩) (fun q=>True) (fun q=>0) (0) (trivial) (At hF [900,920,1,2,40] Z Z ⟨rfl,rfl,trivial⟩) ?_)));rintro q -;refine AE (AH (J (QY Z Z Z) ?_))
 first | refine J (Bn Z Z Z) ?_ | refine J (Bm Z Z Z) ?_
 refine AF (AE (DM Z Z (C5 ?_)));exact ⟨_,[900,920,1,40],_,An rfl,rfl,rfl,rfl,[],List.Perm.refl _,rfl⟩
theorem keysM_c (mv:Option Nat):AQ Tryz.prog 24 [.d (.raw (.map mv))] [] fun r H'=>r= .fn KL [.d (.ptr (.raw (.map mv)))]∧H'=[]:=by
 refine CP Tryz.func24 Z Z Tryz.ntmps24 Z Z Z fun F hF=>(AE (AH (U (Gl 1 Z Z Z Z Z Z Z) ?_)));refine AD Z Z (AF (AE (AH (Kf 1 1 (.raw (.map mv)) [] hF Z Z Z (by intro c hc;simp [D.cells] at hc;subst hc;rfl) Z Z Z (J (Do Z Z) (AD Z Z (AF (Aq ?_))))))));exact ⟨_,[],[],An rfl,rfl,rfl,rfl,rfl⟩
theorem QF {M:MF} {v:D} {L:List Lk} (hk:IK M v L) (hL:L.length≤1000000):AQ Tryz.prog 57 [.d (.sl (some true) []),.fn KL [.d (.ptr v)]] [(40,[.multi M])] fun r H'=>∃its:List Lk,its.Perm L∧r= .own 920 0 its.length∧H'=[(40,[.multi M]),(920,[.rowD 42 2 (its.map KG)])]:=by
 refine Jo Tryz.func57 Z Z Tryz.ntmps57 Z Z Z fun F hF hFl=>(AE (AH (U (Gl 1 Z Z Z Z Z Z Z) ?_)));refine AD Z Z (AF (AE (AE (DG 1 0 0 920 sl32 Z Z Z Z Z Z Z (AH (AC Z Z (AF (BH ?_))))))));refine SV [2,6] rfl ?_;refine Ov (γ:=List Lk) hFl 900 Z Z Z Z Z [1,920,40] (CHr:=hVl []++ [(40,[.multi M])]) (fun its=>its.Perm L) (fun its=>hVl its++ [(40,[.multi M])]) (fun _=> .ready) (fun _=>none) ⟨rfl,rfl,rfl,trivial⟩ Z Z Z (fun _=>rfl) (fun _=>rfl) rfl (fun _ _=>by simp) (fun _ _=>⟨rfl,rfl⟩) [920,1,40] hF Z Z (fun _ _=>rfl) (fun l A B hA hB=>?_) (fun its hits=>?_)
 ·refine (hk l A B fun q x hq=>?_).mono (fun r H' ⟨e1,its,e2,e3⟩=>⟨e1,its,e2,by rw [e3]⟩);refine Lz (lf:=900) Z Z Z Z fun F hF hr=>?_;show B9 _ _ A _ _;rw [hA];refine AH (U (HZ 2 Iw Z Z Z Z) (U (Bu Z Z Z Z Z Z Z ME) (AF (⟨rfl,_,_,rfl,rfl,rfl,rfl,?_⟩))));show B9 _ _ B _ _;rw [hB];refine BH (AH ?_)
  first | refine J (AZ Z Z Ph rfl) ?_ | refine J (AX Z Z Z Ph rfl) ?_ | refine J (AY Z Z (rfl) rfl Ph rfl) ?_
  first | refine J (BN Z Z Am rfl) ?_ | refine J (BO Z Z Am Z Z Z) ?_ | refine J (BP Z Z (rfl) rfl Am rfl) ?_
  refine U (Fq 30 sl32 Z Z Z Z Z Z Z Z) ?_
  first | refine U (IC (q) ([x]) Z Z Z Z Z Z Z Z sl32 (by simp only [List.length_singleton];omega) Z Z Z Z) ?_ | refine U (Iu (q) ([x]) Z Z Z Z Z Z (fun _=>rfl) sl32 (by simp only [List.length_singleton];omega) Z Z Z Z) ?_
  refine U (Bu Z Z Z Z Z Z Z sz32) (AF ?_);exact ⟨none,_,_,[900,920,1],_,rfl,rfl,rfl,rfl,rfl,rfl,rfl,rfl⟩
 ·refine AE (AH ?_)
  first | refine J (AZ Z Z Ph rfl) ?_ | refine J (AX Z Z Z Ph rfl) ?_ | refine J (AY Z Z (rfl) rfl Ph rfl) ?_
  refine AD Z Z (AF (Aq ?_));exact ⟨_,[40,920],_,An rfl,rfl,rfl,its,hits,rfl,rfl⟩
theorem OQ {M:MF} {v:D} {L:List Lk} (hk:IK M v L) (hL:L.length≤1000000):AQ Tryz.prog 41 [.fn KL [.d (.ptr v)]] [(40,[.multi M])] fun r H'=>∃its:List Lk,its.Perm L∧r= .own 920 0 its.length∧H'=[(40,[.multi M]),(920,[.rowD 42 2 (its.map KG)])]:=by
 refine CP Tryz.func41 Z Z Tryz.ntmps41 Z Z Z fun F hF=>(AE (AH (AD Z Z (AF (AE (AH (AC Z Z ?_)))))));refine H1 (If (QF hk hL) rfl [40,920] ⟨rfl,rfl,trivial⟩ Z Z Z Z (fun r H' ⟨its,h1,h2,h3⟩=>by subst h2 h3;exact ⟨rfl,rfl,rfl⟩) rfl) rfl ?_;rintro _ ⟨r,H',⟨its,hits,e1,e2⟩,rfl⟩;subst e1 e2;refine AD Z Z (AF (Aq ?_));exact ⟨_,[40,920],_,An rfl,rfl,rfl,its,hits,rfl,rfl⟩
theorem PS {M:MF} {v:D} {L L0:List Lk} (hk:IK M v L) (hL:L.length≤1000000) (hn:L.Nodup) (hL0:L0.Pairwise fun a b=>HE a b<0) (hm:∀x,x∈L↔x∈L0):AQ Tryz.prog 23 [.fn KL [.d (.ptr v)],.d (.raw (.func (.func 25) #[] #[]))] [(40,[.multi M])] fun r H'=>r= .d (.sl none (L0.map KG))∧H'=[(40,[.multi M])]:=by
 refine CP Tryz.func23 Z Z Tryz.ntmps23 Z Z Z fun F hF=>(AE (AH (AD Z Z (AF (AE (AH (AC Z Z ?_)))))));refine H1 (If (OQ hk hL) rfl [40,920] ⟨rfl,rfl,trivial⟩ Z Z Z Z (fun r H' ⟨its,h1,h2,h3⟩=>by subst h2 h3;exact ⟨rfl,rfl,rfl⟩) rfl) rfl ?_;rintro _ ⟨r,H',⟨its,hits,e1,e2⟩,rfl⟩;subst e1 e2;refine AD Z Z (AF (AE ?_));have hil:its.length≤1000000:=by rw [hits.length_eq];exact hL
 have hl0:its.length=L0.length:=by rw [hits.length_eq];exact ((List.perm_ext_iff_of_nodup hn (List.Pairwise.imp (fun {a b} (h:HE a b<0) e=>by subst e;have:=HD.refl a;omega) hL0)).2 hm).length_eq
 refine AH (AC Z Z (AC Z Z ?_));refine U (st_sort laysK (k:=2) (by decide) Tryz.isAgg42 Tryz.sizeOf42 Tryz.func25 Z Z lk_agg HE HD.swo its L0 (by omega) (fun x _ y _=>R9 x y) (fun ys g1 g2=>lk_one (g1.nodup_iff.2 (hits.nodup_iff.2 hn)) g2 hL0 fun x=>(g1.mem_iff.trans hits.mem_iff).trans (hm x)) Z Z Z fa_raw Z Z Z Z Z) (AF (AE (OY (emb:=KG) 5 920 L0 Z Z Z hl0 Z Z Z (AH (AC Z Z (AD Z Z (AF (Aq ?_))))))));exact ⟨_,[40],_,An rfl,rfl,rfl,rfl,rfl⟩
def K5 (w:Ws) (x:St) (t k:Nat):List Lw:=((w.R.take k).filter fun r=>decide ((⟨x,(t:Int),r⟩:Lw)∈w.K)).map fun r=>⟨x,(t:Int),r⟩
def Qd (w:Ws) (x:St) (t:Nat):List Lw:=(List.range t).flatMap fun u=>K5 w x u w.R.length
def rl (w:Ws) (x:St):List Lw:=Qd w x 2
def R2 (l:Lw):Lk:=⟨l.t,l.r⟩
theorem Gw (w:Ws) (x:St) (t:Nat):Qd w x (t+1)=Qd w x t++K5 w x t w.R.length:=by unfold Qd;rw [List.range_succ,List.flatMap_append];simp
theorem Qe (w:Ws) (x:St) (t:Nat):K5 w x t 0=[]:=rfl
theorem rlK_hit {w:Ws} {x:St} {t k:Nat} (hk:k<w.R.length) (h:(⟨x,(t:Int),w.R[k]⟩:Lw)∈w.K):K5 w x t (k+1)=K5 w x t k++ [⟨x,(t:Int),w.R[k]⟩]:=by
 unfold K5;rw [List.take_succ_eq_append_getElem hk,List.filter_append,List.map_append]
 simp [h]
theorem Qf {w:Ws} {x:St} {t k:Nat} (hk:k<w.R.length) (h:(⟨x,(t:Int),w.R[k]⟩:Lw)∉w.K):K5 w x t (k+1)=K5 w x t k:=by
 unfold K5;rw [List.take_succ_eq_append_getElem hk,List.filter_append,List.map_append]
 simp [h]
theorem O6 (w:Ws) (x:St) (t k:Nat):(K5 w x t k).length≤w.R.length:=by
 unfold K5;rw [List.length_map];exact Nat.le_trans (List.length_filter_le _ _) (by rw [List.length_take];omega)
theorem LQ (w:Ws) (x:St):∀t,(Qd w x t).length≤t*w.R.length
 | 0=>by simp [Qd]
 | t+1=>by rw [Gw,List.length_append,Nat.succ_mul];exact Nat.add_le_add (LQ w x t) (O6 w x t _)
theorem Qc (w:Ws) (x:St):rl w x=K5 w x 0 w.R.length++K5 w x 1 w.R.length:=by
 unfold rl;rw [Gw,Gw]
 rfl
theorem GG {w:Ws} {x:St} {t:Nat} {l:Lw}:l∈K5 w x t w.R.length↔l∈w.K∧l.f=x∧l.t=t∧l.r∈w.R:=by
 unfold K5;rw [List.take_length,List.mem_map]
 constructor
 ·rintro ⟨r,hr,rfl⟩;obtain ⟨h1,h2⟩:=List.mem_filter.1 hr;exact ⟨by simpa using h2,rfl,rfl,h1⟩
 ·rintro ⟨h1,h2,h3,h4⟩;have e:(⟨x,(t:Int),l.r⟩:Lw)=l:=by rw [←h2,←h3]
  exact ⟨l.r,List.mem_filter.2 ⟨h4,by rw [e];simpa using h1⟩,e⟩
theorem rl_mem {w:Ws} (hw:B1 w) {x:St} (l:Lk):l∈(rl w x).map R2↔(⟨x,l.t,l.r⟩:Lw)∈w.K:=by
 rw [List.mem_map]
 constructor
 ·rintro ⟨a,ha,rfl⟩;rw [Qc,List.mem_append,GG,GG] at ha;rcases ha with ⟨h1,h2,_⟩ | ⟨h1,h2,_⟩
  all_goals
   have e:(⟨x,(R2 a).t,(R2 a).r⟩:Lw)=a:=by rw [←h2];rfl
   rw [e];exact h1
 ·intro h;have h2:=hw.lk _ h;refine ⟨⟨x,l.t,l.r⟩,?_,rfl⟩;rw [Qc,List.mem_append,GG,GG];rcases h2.2.2.2 with ht | ht
  ·exact .inl ⟨h,rfl,ht,h2.2.1⟩
  ·exact .inr ⟨h,rfl,ht,h2.2.1⟩
theorem O5 {w:Ws} (hw:B1 w) (x:St) (t:Nat):((K5 w x t w.R.length).map R2).Pairwise fun a b=>HE a b<0:=by
 unfold K5;rw [List.take_length,List.map_map,List.pairwise_map];refine List.Pairwise.imp (fun {a b} (h:a<b)=>?_) (List.Pairwise.sublist List.filter_sublist hw.srt);show EK [EP t t,EO a b]<0;have h1:EO a b<0:=HX.2 (by unfold KE;rw [L1];exact decide_eq_true h);simp only [EK];rw [if_pos (Hv.2 rfl),if_neg (by omega)];exact h1
theorem rl_srt {w:Ws} (hw:B1 w) (x:St):((rl w x).map R2).Pairwise fun a b=>HE a b<0:=by
 rw [Qc,List.map_append,List.pairwise_append];refine ⟨O5 hw x 0,O5 hw x 1,fun a ha b hb=>?_⟩;obtain ⟨p,hp,rfl⟩:=List.mem_map.1 ha;obtain ⟨q,hq,rfl⟩:=List.mem_map.1 hb;have h1:=(GG.1 hp).2.2.1;have h2:=(GG.1 hq).2.2.1;show EK [EP p.t q.t,EO p.r q.r]<0;rw [h1,h2];have e:EP ((0:Nat):Int) ((1:Nat):Int)= -1:=by decide
 simp only [EK];rw [e,if_neg (by decide)]
 decide
theorem links_c {M:MF} {b:Nat} {w:Ws} (h:Bg M b w) (hw:B1 w) (hK:w.K.length≤1000000) (x:St):AQ Tryz.prog 7 [.d (pD b 0),.d (AU x)] [(40,[.multi M])] fun r H'=>r= .d (.sl none (((rl w x).map R2).map KG))∧H'=[(40,[.multi M])]:=by
 obtain ⟨m,E,lk,hr,hl⟩:=h
 obtain ⟨mv,L,hmv,hk,hn,hm⟩:∃mv L,CJ (eE E) x none=mv∧IK M (.raw (.map mv)) L∧L.Nodup∧∀l:Lk,l∈L↔(⟨x,l.t,l.r⟩:Lw)∈w.K:=by
  by_cases hx:x∈w.R
  ·obtain ⟨n,hn⟩:=hl.at hx;exact ⟨_,_,Br hl.kd hn,keysL_c (hr.sub _ hn),hl.ld _ hn,fun l=>hl.ls _ hn l⟩
  ·refine ⟨_,[],On (fun hh=>hx ((hl.ks x).1 hh)),keysZ_c,List.nodup_nil,fun l=>⟨fun hh=>(by cases hh),fun hh=>absurd (hw.lk _ hh).1 hx⟩⟩
 have hL:L.length≤1000000:=by
  have h1:(L.map fun l:Lk=>(⟨x,l.t,l.r⟩:Lw)).Nodup:=by
   rw [List.Nodup,List.pairwise_map];exact List.Pairwise.imp (fun {a b} (h:a≠b) (e:(⟨x,a.t,a.r⟩:Lw)=⟨x,b.t,b.r⟩)=>h (by injection e with _ e1 e2;exact Lk.eq_iff.2 ⟨e1,e2⟩)) hn
  have h2:=h1.length_le_of_subset (l₂:=w.K) fun y hy=>by
   obtain ⟨l,hl,rfl⟩:=List.mem_map.1 hy;exact (hm l).1 hl
  rw [List.length_map] at h2;omega
 refine CP Tryz.func7 Z Z Tryz.ntmps7 Z Z Z fun F hF=>(AE (AH (AD Z Z (AF (AE (AE (AH (AC Z Z ?_))))))))
 first | refine J (FW Z Z Z) ?_ | refine J (FV Z Z Z) ?_ | refine J (FL Z Z Z) ?_ | refine J (FO Tryz.underlying24 Z Z Z) ?_ | refine J (FR Tryz.underlying24 Z Z Z) ?_ | refine J (FQ Tryz.underlying24 Z Z) ?_ | refine J (FU Tryz.underlying24 Z Z) ?_ | refine J (FT Tryz.underlying24 Z Z) ?_ | refine J (FP Tryz.underlying24 Z Z Z) ?_ | refine J (fSq Tryz.underlying24 Z Z) ?_
 refine AF (DM rfl (rfl) (Ai (AE (AH (AC Z Z ?_)))))
 first | refine J (GP Z Z) ?_ | refine J (GR Z Z) ?_ | refine J (GQ Z Z) ?_ | refine J (GS Z Z) ?_
 first | refine J (A2 rfl Ac Z Z Z) ?_ | refine J (A4 rfl Ac Z Z Z) ?_ | refine J (A5 rfl Ac Z Z Z) ?_ | refine J (A3 rfl Ac Z Z Z) ?_ | refine J (A1 rfl Ac Z Z Z) ?_
 refine J (Gi (f:=40) Z Z (hr.cell) rfl CB rfl) (AC Z Z (J (HY (f:=40) (eE E) (x) (none) _ Z Z (hr.top) rfl Cc EU EX Z Z) ?_));rw [hmv];refine U (Fn (keysM_c mv) rfl [] trivial Z Z Z Z Z Z Z Z Z) (U (Fn (PS hk hL hn (rl_srt hw x) fun l=>(hm l).trans (rl_mem hw l).symm) rfl [40] ⟨rfl,trivial⟩ Z Z Z Z Z Z Z Z Z) (AD Z Z (AF (Aq ?_))));exact ⟨_,[40],_,An rfl,rfl,rfl,rfl,rfl⟩
theorem Nq (w:Ws) (hw:B1 w) (hK:w.K.length≤1000000) (x:St):Ak Tryz.prog 8 [.d (Jw w),.d (AU x)] (LY (rl w x)):=by
 have hfew:=hw.few;refine CP Tryz.func8 Z Z Tryz.ntmps8 Z Z Z fun F hF=>(AE (AH (U (Gl 20 Z Z Z Z Z Z Z) (AD Z Z (AF (AE (AH (AD Z Z ?_))))))));refine AF (AE (AE (AH (AD Z Z (AF (BH (EC 5 1 De Z Z Z Z (Db (α:=Nat×List Lw) (fun q=>⟨36,[(1,.d (AU x)),(2,(.ptr 20 0 0)),(5,(.own 1 0 q.2.length)),(6,(.d (natD q.1)))],[FE 20 w,(1,[.rowD 44 3 (q.2.map Mv)])]⟩) (fun q=>q.1≤2∧q.2=Qd w x q.1) (fun q=>2 - q.1) ((0,[])) (⟨Nat.zero_le _,rfl⟩) (At hF [20,1] Z Z ⟨rfl,rfl,rfl,rfl,trivial⟩) ?_))))))));rintro ⟨t,out⟩ ⟨ht,ho⟩;dsimp only at ht ho⊢;refine AE (AE (AH (AC Z Z ?_)))
 first | refine J (D3 Z Z Z) ?_ | refine J (D4 Z Z Z) ?_
 refine AF ?_
 first | refine Az rfl (fun h10=>?_) (fun h10=>?_) | refine Aw rfl (fun h10=>?_) (fun h10=>?_)
 ·refine Ai (AE (BH (AE ?_)));have ht2:t<2:=F1 h10;refine AH (AD Z Z (AF (BH (Db (α:=Nat×List Lw) (fun q=>⟨36,[(1,.d (AU x)),(2,(.ptr 20 0 0)),(5,(.own 1 0 q.2.length)),(6,(.d (natD t))),(7,(.d (natD q.1)))],[FE 20 w,(1,[.rowD 44 3 (q.2.map Mv)])]⟩) (fun q=>q.1≤w.R.length∧q.2=Qd w x t++K5 w x t q.1) (fun q=>w.R.length - q.1) ((0,out)) (⟨Nat.zero_le _,by show out=_;rw [Qe,List.append_nil];exact ho⟩) (At hF [20,1] Z Z ⟨rfl,rfl,rfl,rfl,rfl,trivial⟩) ?_))));rintro ⟨k,out2⟩ ⟨hk,ho2⟩;dsimp only at hk ho2⊢;refine AE (AE (AH (AC Z Z ?_)))
  first | refine J (A2 rfl Ag Z Z Z) ?_ | refine J (A4 rfl Ag Z Z Z) ?_ | refine J (A5 rfl Ag Z Z Z) ?_ | refine J (A3 rfl Ag Z Z Z) ?_ | refine J (A1 rfl Ag Z Z Z) ?_
  first | refine J (AZ Z Z AW rfl) ?_ | refine J (AX Z Z Z AW rfl) ?_ | refine J (AY Z Z (rfl) rfl AW rfl) ?_
  refine J (Bs rfl (List.length_map ..) Tryz.underlying25 rfl) ?_
  first | refine J (D3 Z Z Z) ?_ | refine J (D4 Z Z Z) ?_
  refine AF ?_
  first | refine Az rfl (fun h17=>?_) (fun h17=>?_) | refine Aw rfl (fun h17=>?_) (fun h17=>?_)
  ·refine Ai (AE (BH (AE ?_)));have hkl:k<w.R.length:=F1 h17;have hol:out2.length≤3*4096:=by rw [ho2,List.length_append];have h1:=LQ w x t;have h2:=O6 w x t k;have h3:t*w.R.length≤2*4096:=Nat.mul_le_mul (by omega) hfew;omega
   refine AH (AC Z Z (AC Z Z ?_))
   first | refine J (A2 rfl Ag Z Z Z) ?_ | refine J (A4 rfl Ag Z Z Z) ?_ | refine J (A5 rfl Ag Z Z Z) ?_ | refine J (A3 rfl Ag Z Z Z) ?_ | refine J (A1 rfl Ag Z Z Z) ?_
   first | refine J (AZ Z Z AW rfl) ?_ | refine J (AX Z Z Z AW rfl) ?_ | refine J (AY Z Z (rfl) rfl AW rfl) ?_
   refine AC Z Z ?_
   first | refine J (BE (k) Z Z (rfl) (CL hkl) Tryz.underlying25 rfl DW rfl) ?_ | refine J (BF (k) Z Z (rfl) (CL hkl) rfl Tryz.underlying25 DW rfl) ?_
   first | refine J (AZ Z Z AR rfl) ?_ | refine J (AX Z Z Z AR rfl) ?_ | refine J (AY Z Z (rfl) rfl AR rfl) ?_
   refine J (LE Oz pl44 Z Z Z) (U (HZ 26 Oz Z Z Z Z) (U (Bu Z Z Z Z Z Z Z BB) (AF (AE (AH ?_)))))
   first | refine J (BN Z Z AL rfl) ?_ | refine J (BO Z Z AL Z Z Z) ?_ | refine J (BP Z Z (rfl) rfl AL rfl) ?_
   first | refine J (BN Z Z Au rfl) ?_ | refine J (BO Z Z Au Z Z Z) ?_ | refine J (BP Z Z (rfl) rfl Au rfl) ?_
   refine J (Bz (Ll w ⟨x,(t:Int),w.R[k]⟩ (by omega)) Z Z) (AF ?_)
   first | refine Az rfl (fun h30=>?_) (fun h30=>?_) | refine Aw rfl (fun h30=>?_) (fun h30=>?_)
   ·refine AH (AC Z Z ?_)
    first | refine J (BN Z Z Au rfl) ?_ | refine J (BO Z Z Au Z Z Z) ?_ | refine J (BP Z Z (rfl) rfl Au rfl) ?_
    refine U (Fq 30 De Z Z Z Z Z Z Z Z) ?_
    first | refine U (IC (out2) ([⟨x,(t:Int),w.R[k]⟩]) Z Z Z Z Z Z Z Z De (by simp only [List.length_singleton];omega) Z Z Z Z) ?_ | refine U (Iu (out2) ([⟨x,(t:Int),w.R[k]⟩]) Z Z Z Z Z Z (fun _=>rfl) De (by simp only [List.length_singleton];omega) Z Z Z Z) ?_
    refine AD Z Z (AF (AH (AC Z Z (J (CG Z Z (IntWalk.i64_in _ (by omega)) rfl) (AD Z Z (AF ?_))))));exact ⟨(k+1,out2++ [⟨x,(t:Int),w.R[k]⟩]),⟨hkl,by show _=Qd w x t++K5 w x t (k+1);rw [rlK_hit hkl h30,ho2,List.append_assoc]⟩,by show w.R.length - (k+1)<w.R.length - k;omega,At hF [20,1] rfl (rfl) ⟨rfl,rfl,rfl,rfl,rfl,trivial⟩⟩
   ·refine Ai (AH (AC Z Z (J (CG Z Z (IntWalk.i64_in _ (by omega)) rfl) (AD Z Z (AF ?_)))));exact ⟨(k+1,out2),⟨hkl,by show _=Qd w x t++K5 w x t (k+1);rw [Qf hkl h30,ho2]⟩,by show w.R.length - (k+1)<w.R.length - k;omega,At hF [20,1] rfl (rfl) ⟨rfl,rfl,rfl,rfl,rfl,trivial⟩⟩
  ·refine C5 (AH (AC Z Z (J (CG Z Z (IntWalk.i64_in _ (by omega)) rfl) (AD Z Z (AF ?_)))));exact ⟨(t+1,out2),⟨ht2,by show out2=Qd w x (t+1);rw [Gw,ho2,show k=w.R.length by (have:=h17;omega)]⟩,by show 2 - (t+1)<2 - t;omega,At hF [20,1] rfl (rfl) ⟨rfl,rfl,rfl,rfl,trivial⟩⟩
 ·refine C5 (AE ?_);have hte:t=2:=by have:=h10;omega
  refine OY (emb:=Mv) 5 1 out Z Z Z Z Z Z Z ?_;rw [ho,hte];refine AH (AC Z Z (AD Z Z (AF (Aq ?_))));exact ⟨_,[],[],An rfl,rfl,rfl,rfl,rfl⟩
def lnA (back:Bool) (l:Lw):St:=match back with
 | false=>l.f
 | true=>l.r
def lnB (back:Bool) (l:Lw):St:=match back with
 | false=>l.r
 | true=>l.f
theorem aft_ln {w:Ws} {back:Bool} {l:Lw} (h:l∈w.K) (ht:l.t=1):Aft w back (lnA back l) (lnB back l):=by
 have e:(⟨l.f,1,l.r⟩:Lw)=l:=by rw [←ht]
 cases back with
 | false=>show (⟨l.f,1,l.r⟩:Lw)∈w.K;rw [e];exact h
 | true=>show (⟨l.f,1,l.r⟩:Lw)∈w.K;rw [e];exact h
theorem J8 (g:List St):∀out:List St,(g.foldl BI out).length=out.length+g.length:=by
 induction g with
 | nil=>intro out;rfl
 | cons a r ih=>intro out;show (r.foldl BI (BI out a)).length=_;rw [ih,DE,List.length_cons];omega
theorem Kl {out g:List St} {j:Nat} (h:j<g.length):BI ((g.take j).foldl BI out) g[j]=(g.take (j+1)).foldl BI out:=by rw [List.take_succ_eq_append_getElem h,List.foldl_append];rfl
theorem mem_insL (g:List St):∀(out:List St) {x:St},x∈g.foldl BI out↔x∈out∨x∈g:=by
 induction g with
 | nil=>intro out x;simp
 | cons a r ih=>
  intro out x;show x∈r.foldl BI (BI out a)↔_;rw [ih,LD,List.mem_cons]
  constructor
  ·rintro ((h | h) | h)
   ·exact .inr (.inl h)
   ·exact .inl h
   ·exact .inr (.inr h)
  ·rintro (h | h | h)
   ·exact .inl (.inr h)
   ·exact .inl (.inl h)
   ·exact .inr h
theorem Q4 (g:List St):∀{out:List St},Fu out ->g.Nodup ->(∀x∈g,x∉out) ->Fu (g.foldl BI out):=by
 induction g with
 | nil=>intro out h _ _;exact h
 | cons a r ih=>
  intro out h hn hd;obtain ⟨h1,h2⟩:=List.nodup_cons.1 hn;refine ih (JG h (hd a (by simp))) h2 fun x hx hm=>?_;rcases LD.1 hm with e | hm
  ·exact h1 (e▸hx)
  ·exact hd x (List.mem_cons_of_mem _ hx) hm
structure IL (w:Ws) (back:Bool) (a:St) (out:List St):Prop where
 srt:Fu out
 ha:a∈out
 con:∀y∈out,y∈w.R∧BM (Stp w back) a y
 cl:∀y∈out,∀z∈cls w y,z∈out
def QC (back:Bool) (out:List St) (l:Lw):Prop:=l.t=1 ->lnA back l∈out ->lnB back l∈out
structure Gj (w:Ws) (back:Bool) (a:St) (out0:List St) (k:Nat) (out:List St) (grew:Bool):Prop where
 g:IL w back a out
 no:grew=false ->out=out0∧∀l∈w.K.take k,QC back out l
 yes:grew=true ->out0.length<out.length
theorem NS {w:Ws} {back:Bool} {a b:St} (h:Gm w a b):BM (Stp w back) a b:=BM.mono (fun _ _=>Or.inl) h
theorem IL.zero {w:Ws} (hw:B1 w) {back:Bool} {a:St} (h:a∈w.R):IL w back a (cls w a):=
 ⟨FC hw a,QQ h,fun y hy=>⟨(Jq.1 hy).1,NS (Jq.1 hy).2⟩,fun y hy z hz=>by rw [Hw (Jq.1 hy).2];exact hz⟩
theorem IL.len {w:Ws} {back:Bool} {a:St} {out:List St} (h:IL w back a out):out.length≤w.R.length:=(DX h.srt).length_le_of_subset fun y hy=>(h.con y hy).1
theorem Gj.zero {w:Ws} {back:Bool} {a:St} {out:List St} (h:IL w back a out):Gj w back a out 0 out false:=⟨h,fun _=>⟨rfl,fun l hl=>by simp at hl⟩,fun e=>by cases e⟩
theorem Gj.le {w:Ws} {back:Bool} {a:St} {out0 out:List St} {k:Nat} {grew:Bool} (h:Gj w back a out0 k out grew):out0.length≤out.length:=by
 cases hg:grew with
 | false=>rw [(h.no hg).1];exact Nat.le_refl _
 | true=>exact Nat.le_of_lt (h.yes hg)
theorem Gj.pass {w:Ws} {back:Bool} {a:St} {out0 out:List St} {k:Nat} {grew:Bool} (h:Gj w back a out0 k out grew) (hk:k<w.K.length) (hc:QC back out w.K[k]):Gj w back a out0 (k+1) out grew:=by
 refine ⟨h.g,fun e=>⟨(h.no e).1,fun l hl=>?_⟩,h.yes⟩;rw [List.take_succ_eq_append_getElem hk] at hl;rcases List.mem_append.1 hl with hl | hl
 ·exact (h.no e).2 l hl
 ·rw [List.mem_singleton.1 hl];exact hc
theorem Gj.ins {w:Ws} (hw:B1 w) {back:Bool} {a:St} {out0 out:List St} {k k2:Nat} {grew:Bool} (h:Gj w back a out0 k out grew) {l:Lw} (hl:l∈w.K) (ht:l.t=1) (hA:lnA back l∈out) (hB:lnB back l∉out) (hR:lnB back l∈w.R):Gj w back a out0 k2 ((cls w (lnB back l)).foldl BI out) true:=by
 have hdis:∀x∈cls w (lnB back l),x∉out:=fun x hx ho=>hB (h.g.cl x ho _ (by rw [←Hw (Jq.1 hx).2];exact QQ hR));refine ⟨⟨Q4 _ h.g.srt (DX (FC hw _)) hdis,(mem_insL _ _).2 (.inl h.g.ha),fun y hy=>?_,fun y hy z hz=>?_⟩,(fun e=>by cases e),fun _=>?_⟩
 ·rcases (mem_insL _ _).1 hy with hy | hy
  ·exact h.g.con y hy
  ·exact ⟨(Jq.1 hy).1,((h.g.con _ hA).2.tail (.inr (aft_ln hl ht))).trans (NS (Jq.1 hy).2)⟩
 ·refine (mem_insL _ _).2 ?_;rcases (mem_insL _ _).1 hy with hy | hy
  ·exact .inl (h.g.cl y hy z hz)
  ·exact .inr (by rw [Hw (Jq.1 hy).2];exact hz)
 ·have h1:=h.le;have h2:0<(cls w (lnB back l)).length:=List.length_pos_of_mem (QQ hR);rw [J8];omega
theorem IL.fin {w:Ws} (hw:B1 w) {back:Bool} {a:St} {out:List St} (h:IL w back a out) (hc:∀l∈w.K,QC back out l):out=cloW w a back:=by
 refine Ii h.srt (NU hw a back) fun x=>?_;rw [J1];refine ⟨h.con x,fun ⟨_,hx⟩=>?_⟩;refine BM.closed (p:=fun y=>y∈out) (fun p q hp hq=>?_) h.ha hx;rcases hq with hq | hq
 ·exact h.cl p hp q (Jq.2 ⟨(hq.mem hw).2,BM.one hq⟩)
 ·cases back with
  | false=>exact hc _ (show (⟨p,1,q⟩:Lw)∈w.K from hq) rfl hp
  | true=>exact hc _ (show (⟨q,1,p⟩:Lw)∈w.K from hq) rfl hp
theorem NT {w:Ws} (hw:B1 w) {back:Bool} {a:St} {out0 out:List St} {k:Nat} {grew:Bool} (h:Gj w back a out0 k out grew) (hk:¬k<w.K.length):IL w back a out∧(grew=false ->∀l∈w.K,QC back out l):=
 ⟨h.g,fun e=>by have:=(h.no e).2;rw [List.take_of_length_le (by omega)] at this;exact this⟩
set_option maxHeartbeats 1000000 in
theorem P6 (w:Ws) (hw:B1 w) (a:St) (hl:w.K.length≤2000000) (haR:a∈w.R):Ak Tryz.prog 15 [.d (Jw w),.d (AU a),.d (Ad false)] (stsD (cloW w a false)):=by
 have hfew:=hw.few;have hmem:=fun {x:St} (h:x∈w.R)=>Cm w hw x hl;have hm0:=Cm w hw a hl;rw [if_pos haR] at hm0;have hcl:0<(cls w a).length:=List.length_pos_of_mem (QQ haR);refine CP Tryz.func15 Z Z Tryz.ntmps15 Z Z Z fun F hF=>(AE (AH (U (Gl 20 Z Z Z Z Z Z Z) (AD Z Z (AF (AE (AH ?_)))))))
 first | refine J (BN Z Z AL rfl) ?_ | refine J (BO Z Z AL Z Z Z) ?_ | refine J (BP Z Z (rfl) rfl AL rfl) ?_
 refine AC Z Z (J (Bz (hm0) Z Z) (AD Z Z (AF (AE (AE (AH (AC Z Z (J (Bs rfl (List.length_map ..) Tryz.underlying25 rfl) ?_))))))))
 first | refine J (FW Z Z Z) ?_ | refine J (FV Z Z Z) ?_ | refine J (FL Z Z Z) ?_ | refine J (FO Tryz.underlying3 Z Z Z) ?_ | refine J (FR Tryz.underlying3 Z Z Z) ?_ | refine J (FQ Tryz.underlying3 Z Z) ?_ | refine J (FU Tryz.underlying3 Z Z) ?_ | refine J (FT Tryz.underlying3 Z Z) ?_ | refine J (FP Tryz.underlying3 Z Z Z) ?_ | refine J (fSq Tryz.underlying3 Z Z) ?_
 refine AF ?_;refine DM rfl (decide_eq_false (by omega)) (Ai (AE (AE (AH (AD Z Z (AF (BH (Db (α:=List St×Bool) (fun q=>⟨77,[(2,.d (Ad false)),(3,(.ptr 20 0 0)),(7,(.d (stsD q.1))),(8,(.d (Ad q.2)))],[FE 20 w]⟩) (fun q=>IL w false a q.1∧(q.2=false ->∀l∈w.K,QC false q.1 l)) (fun q=>2*(w.R.length - q.1.length)+(if q.2 then 1 else 0)) ((cls w a,true)) (⟨IL.zero hw haR,fun e=>by cases e⟩) (At hF [20] Z Z ⟨rfl,rfl,rfl,rfl,trivial⟩) ?_))))))));rintro ⟨out0,gr⟩ ⟨hG0,hC0⟩;dsimp only at hG0 hC0⊢;refine AE (AE (AH (AC Z Z (AF ?_))))
 first | refine Az rfl (fun h20=>?_) (fun h20=>?_) | refine Aw rfl (fun h20=>?_) (fun h20=>?_)
 ·refine Ai (BH (AE ?_));refine AH (AD Z Z (AF (AE (AH (AD Z Z (AF (BH (Db (α:=Nat×List St×Bool) (fun q=>⟨77,[(2,.d (Ad false)),(3,(.ptr 20 0 0)),(7,(.d (stsD q.2.1))),(8,(.d (Ad q.2.2))),(9,(.d (natD q.1)))],[FE 20 w]⟩) (fun q=>q.1≤w.K.length∧Gj w false a out0 q.1 q.2.1 q.2.2) (fun q=>w.K.length - q.1) ((0,out0,false)) (⟨Nat.zero_le _,Gj.zero hG0⟩) (At hF [20] Z Z ⟨rfl,rfl,rfl,rfl,rfl,trivial⟩) ?_))))))));rintro ⟨k,out,grew⟩ ⟨hk,hI⟩;dsimp only at hk hI⊢;refine AE (AE (AH (AC Z Z ?_)))
  first | refine J (A2 rfl A0 Z Z Z) ?_ | refine J (A4 rfl A0 Z Z Z) ?_ | refine J (A5 rfl A0 Z Z Z) ?_ | refine J (A3 rfl A0 Z Z Z) ?_ | refine J (A1 rfl A0 Z Z Z) ?_
  first | refine J (AZ Z Z A6 rfl) ?_ | refine J (AX Z Z Z A6 rfl) ?_ | refine J (AY Z Z (rfl) rfl A6 rfl) ?_
  refine J (Bs rfl (List.length_map ..) Tryz.underlying26 rfl) ?_
  first | refine J (D3 Z Z Z) ?_ | refine J (D4 Z Z Z) ?_
  refine AF ?_
  first | refine Az rfl (fun h25=>?_) (fun h25=>?_) | refine Aw rfl (fun h25=>?_) (fun h25=>?_)
  ·refine Ai (AE (BH (AE ?_)));have hkl:k<w.K.length:=F1 h25;have hol:=hI.g.len;have hlk:=hw.lk _ (List.getElem_mem hkl);have hbR:lnB false w.K[k]∈w.R:=hlk.2.1;have hmb:=hmem hbR;rw [if_pos hbR] at hmb;refine FK [[],[0],[],[0,1,2],[0,1,2,3],[0,1,2,3,4],[],[6],[],[6,7,8],[6,7,8,9],[6,7,8,9,10],[0,1,2,3,4,5],[0,1,2,3,4,5,6,7,8,9,10,11,12]] mixed rfl (D1 ?_)
   first | refine AG [3] [] Z Z (fun _=>AB (A2 rfl A0 Z Z Z)) ?_ | refine AI [3] Z Z (fun _=>AB (A2 rfl A0 Z Z Z)) ?_ | refine AG [3] [] Z Z (fun _=>AB (A4 rfl A0 Z Z Z)) ?_ | refine AI [3] Z Z (fun _=>AB (A4 rfl A0 Z Z Z)) ?_ | refine AG [3] [] Z Z (fun _=>AB (A5 rfl A0 Z Z Z)) ?_ | refine AI [3] Z Z (fun _=>AB (A5 rfl A0 Z Z Z)) ?_ | refine AG [3] [] Z Z (fun _=>AB (A3 rfl A0 Z Z Z)) ?_ | refine AI [3] Z Z (fun _=>AB (A3 rfl A0 Z Z Z)) ?_ | refine AG [3] [] Z Z (fun _=>AB (A1 rfl A0 Z Z Z)) ?_ | refine AI [3] Z Z (fun _=>AB (A1 rfl A0 Z Z Z)) ?_
   first | refine AG [28] [] Z Z (fun _=>AB (AZ Z Z A6 rfl)) ?_ | refine AI [28] Z Z (fun _=>AB (AZ Z Z A6 rfl)) ?_ | refine AG [28] [] Z Z (fun _=>AB (AX Z Z Z A6 rfl)) ?_ | refine AI [28] Z Z (fun _=>AB (AX Z Z Z A6 rfl)) ?_ | refine AG [28] [] Z Z (fun _=>AB (AY Z Z (rfl) rfl A6 rfl)) ?_ | refine AI [28] Z Z (fun _=>AB (AY Z Z (rfl) rfl A6 rfl)) ?_
   first | refine AG [9] [] Z Z (fun _=>AB (A8 Z Z)) ?_ | refine AI [9] Z Z (fun _=>AB (A8 Z Z)) ?_
   first | refine AG [29,30] [] Z Z (fun _=>AB (BE (k) Z Z (rfl) (BJ hkl) Tryz.underlying26 rfl BB rfl)) ?_ | refine AI [29,30] Z Z (fun _=>AB (BE (k) Z Z (rfl) (BJ hkl) Tryz.underlying26 rfl BB rfl)) ?_ | refine AG [29,30] [] Z Z (fun _=>AB (BF (k) Z Z (rfl) (BJ hkl) rfl Tryz.underlying26 BB rfl)) ?_ | refine AI [29,30] Z Z (fun _=>AB (BF (k) Z Z (rfl) (BJ hkl) rfl Tryz.underlying26 BB rfl)) ?_
   first | refine AG [31] [] Z Z (fun _=>AB (A2 rfl Be Z Z Z)) ?_ | refine AI [31] Z Z (fun _=>AB (A2 rfl Be Z Z Z)) ?_ | refine AG [31] [] Z Z (fun _=>AB (A4 rfl Be Z Z Z)) ?_ | refine AI [31] Z Z (fun _=>AB (A4 rfl Be Z Z Z)) ?_ | refine AG [31] [] Z Z (fun _=>AB (A5 rfl Be Z Z Z)) ?_ | refine AI [31] Z Z (fun _=>AB (A5 rfl Be Z Z Z)) ?_ | refine AG [31] [] Z Z (fun _=>AB (A3 rfl Be Z Z Z)) ?_ | refine AI [31] Z Z (fun _=>AB (A3 rfl Be Z Z Z)) ?_ | refine AG [31] [] Z Z (fun _=>AB (A1 rfl Be Z Z Z)) ?_ | refine AI [31] Z Z (fun _=>AB (A1 rfl Be Z Z Z)) ?_
   first | refine AG [32] [] Z Z (fun _=>AB (AZ Z Z AR rfl)) ?_ | refine AI [32] Z Z (fun _=>AB (AZ Z Z AR rfl)) ?_ | refine AG [32] [] Z Z (fun _=>AB (AX Z Z Z AR rfl)) ?_ | refine AI [32] Z Z (fun _=>AB (AX Z Z Z AR rfl)) ?_ | refine AG [32] [] Z Z (fun _=>AB (AY Z Z (rfl) rfl AR rfl)) ?_ | refine AI [32] Z Z (fun _=>AB (AY Z Z (rfl) rfl AR rfl)) ?_
   first | refine AG [3] [] Z Z (fun _=>AB (A2 rfl A0 Z Z Z)) ?_ | refine AI [3] Z Z (fun _=>AB (A2 rfl A0 Z Z Z)) ?_ | refine AG [3] [] Z Z (fun _=>AB (A4 rfl A0 Z Z Z)) ?_ | refine AI [3] Z Z (fun _=>AB (A4 rfl A0 Z Z Z)) ?_ | refine AG [3] [] Z Z (fun _=>AB (A5 rfl A0 Z Z Z)) ?_ | refine AI [3] Z Z (fun _=>AB (A5 rfl A0 Z Z Z)) ?_ | refine AG [3] [] Z Z (fun _=>AB (A3 rfl A0 Z Z Z)) ?_ | refine AI [3] Z Z (fun _=>AB (A3 rfl A0 Z Z Z)) ?_ | refine AG [3] [] Z Z (fun _=>AB (A1 rfl A0 Z Z Z)) ?_ | refine AI [3] Z Z (fun _=>AB (A1 rfl A0 Z Z Z)) ?_
   first | refine AG [34] [] Z Z (fun _=>AB (AZ Z Z A6 rfl)) ?_ | refine AI [34] Z Z (fun _=>AB (AZ Z Z A6 rfl)) ?_ | refine AG [34] [] Z Z (fun _=>AB (AX Z Z Z A6 rfl)) ?_ | refine AI [34] Z Z (fun _=>AB (AX Z Z Z A6 rfl)) ?_ | refine AG [34] [] Z Z (fun _=>AB (AY Z Z (rfl) rfl A6 rfl)) ?_ | refine AI [34] Z Z (fun _=>AB (AY Z Z (rfl) rfl A6 rfl)) ?_
   first | refine AG [9] [] Z Z (fun _=>AB (A8 Z Z)) ?_ | refine AI [9] Z Z (fun _=>AB (A8 Z Z)) ?_
   first | refine AG [35,36] [] Z Z (fun _=>AB (BE (k) Z Z (rfl) (BJ hkl) Tryz.underlying26 rfl BB rfl)) ?_ | refine AI [35,36] Z Z (fun _=>AB (BE (k) Z Z (rfl) (BJ hkl) Tryz.underlying26 rfl BB rfl)) ?_ | refine AG [35,36] [] Z Z (fun _=>AB (BF (k) Z Z (rfl) (BJ hkl) rfl Tryz.underlying26 BB rfl)) ?_ | refine AI [35,36] Z Z (fun _=>AB (BF (k) Z Z (rfl) (BJ hkl) rfl Tryz.underlying26 BB rfl)) ?_
   first | refine AG [37] [] Z Z (fun _=>AB (A2 rfl Bf Z Z Z)) ?_ | refine AI [37] Z Z (fun _=>AB (A2 rfl Bf Z Z Z)) ?_ | refine AG [37] [] Z Z (fun _=>AB (A4 rfl Bf Z Z Z)) ?_ | refine AI [37] Z Z (fun _=>AB (A4 rfl Bf Z Z Z)) ?_ | refine AG [37] [] Z Z (fun _=>AB (A5 rfl Bf Z Z Z)) ?_ | refine AI [37] Z Z (fun _=>AB (A5 rfl Bf Z Z Z)) ?_ | refine AG [37] [] Z Z (fun _=>AB (A3 rfl Bf Z Z Z)) ?_ | refine AI [37] Z Z (fun _=>AB (A3 rfl Bf Z Z Z)) ?_ | refine AG [37] [] Z Z (fun _=>AB (A1 rfl Bf Z Z Z)) ?_ | refine AI [37] Z Z (fun _=>AB (A1 rfl Bf Z Z Z)) ?_
   first | refine AG [38] [] Z Z (fun _=>AB (AZ Z Z AR rfl)) ?_ | refine AI [38] Z Z (fun _=>AB (AZ Z Z AR rfl)) ?_ | refine AG [38] [] Z Z (fun _=>AB (AX Z Z Z AR rfl)) ?_ | refine AI [38] Z Z (fun _=>AB (AX Z Z Z AR rfl)) ?_ | refine AG [38] [] Z Z (fun _=>AB (AY Z Z (rfl) rfl AR rfl)) ?_ | refine AI [38] Z Z (fun _=>AB (AY Z Z (rfl) rfl AR rfl)) ?_
   first | refine AG [33] [] Z Z (fun _=>AB (Zct Z Z)) ?_ | refine AI [33] Z Z (fun _=>AB (Zct Z Z)) ?_
   refine D2 13 Z Z Z (BY 14 Z Z (AD Z Z (AF ⟨rfl,?_⟩)));refine Eg (AE ?_);refine AE (AH (AC Z Z (AF (DM rfl (rfl) (Ai (AE (AE (AH ?_))))))))
   first | refine J (A2 rfl A0 Z Z Z) ?_ | refine J (A4 rfl A0 Z Z Z) ?_ | refine J (A5 rfl A0 Z Z Z) ?_ | refine J (A3 rfl A0 Z Z Z) ?_ | refine J (A1 rfl A0 Z Z Z) ?_
   first | refine J (AZ Z Z A6 rfl) ?_ | refine J (AX Z Z Z A6 rfl) ?_ | refine J (AY Z Z (rfl) rfl A6 rfl) ?_
   refine AC Z Z ?_
   first | refine J (BE (k) Z Z (rfl) (BJ hkl) Tryz.underlying26 rfl BB rfl) ?_ | refine J (BF (k) Z Z (rfl) (BJ hkl) rfl Tryz.underlying26 BB rfl) ?_
   first | refine J (A2 rfl Eh Z Z Z) ?_ | refine J (A4 rfl Eh Z Z Z) ?_ | refine J (A5 rfl Eh Z Z Z) ?_ | refine J (A3 rfl Eh Z Z Z) ?_ | refine J (A1 rfl Eh Z Z Z) ?_
   first | refine J (AZ Z Z BV rfl) ?_ | refine J (AX Z Z Z BV rfl) ?_ | refine J (AY Z Z (rfl) rfl BV rfl) ?_
   first | refine J (I8 Z Z Z) ?_ | refine J (I7 Z Z Z) ?_ | refine J (IF Z Z Z) ?_ | refine J (I2 Tryz.underlying3 Z Z Z) ?_ | refine J (I4 Tryz.underlying3 Z Z Z) ?_ | refine J (st_neqN Tryz.underlying3 Z Z) ?_ | refine J (st_neqPr Tryz.underlying3 Z Z) ?_ | refine J (st_neqMz Tryz.underlying3 Z Z) ?_ | refine J (I3 Tryz.underlying3 Z Z Z) ?_ | refine J (st_neqFN Tryz.underlying3 Z Z) ?_
   refine AC Z Z ?_
   first | refine It 50 rfl (fun h50=>?_) (fun h50=>?_) | refine I5 50 rfl (fun h50=>?_) (fun h50=>?_)
   ·refine BA Z Z Z Z (BA Z Z Z Z (BA Z Z Z Z (BA Z Z Z Z (J (GZ Z Z Z Z) (AC Z Z (BA Z Z Z Z (BA Z Z Z Z (BA Z Z Z Z ?_))))))));refine J (GZ Z Z Z Z) (AF (IH Z Z (C5 (AH (AC Z Z (J (CG Z Z (IntWalk.i64_in _ (by omega)) rfl) (AD Z Z (AF ?_))))))));exact ⟨(k+1,_,_),⟨hkl,by first | exact hI.pass hkl (fun e=>absurd e h50) | exact hI.pass hkl (fun _ hA=>absurd hA h56) | exact hI.pass hkl (fun _ _=>h60) | exact hins⟩,by show w.K.length - (k+1)<w.K.length - k;omega,At hF [20] rfl (rfl) ⟨rfl,rfl,rfl,rfl,rfl,trivial⟩⟩
   ·refine Aa Z Z Z (AC Z Z (Aa Z Z Z (AC Z Z (Aa Z Z Z (J (Bz (Jx out (lnA false w.K[k]) (by omega)) Z Z) (Aa Z Z Z ?_))))))
    first | refine J (ET Z Z) ?_ | refine J (EQ Z Z) ?_
    refine J (Fo Z Z Z Z) (AC Z Z ?_)
    first | refine It 56 rfl (fun h56=>?_) (fun h56=>?_) | refine I5 56 rfl (fun h56=>?_) (fun h56=>?_)
    ·refine BA Z Z Z Z (BA Z Z Z Z (BA Z Z Z Z ?_));refine J (GZ Z Z Z Z) (AF (IH Z Z (C5 (AH (AC Z Z (J (CG Z Z (IntWalk.i64_in _ (by omega)) rfl) (AD Z Z (AF ?_))))))));exact ⟨(k+1,_,_),⟨hkl,by first | exact hI.pass hkl (fun e=>absurd e h50) | exact hI.pass hkl (fun _ hA=>absurd hA h56) | exact hI.pass hkl (fun _ _=>h60) | exact hins⟩,by show w.K.length - (k+1)<w.K.length - k;omega,At hF [20] rfl (rfl) ⟨rfl,rfl,rfl,rfl,rfl,trivial⟩⟩
    ·refine Aa Z Z Z (AC Z Z (Aa Z Z Z (AC Z Z (Aa Z Z Z (J (Bz (Jx out (lnB false w.K[k]) (by omega)) Z Z) (J (Fo Z Z Z Z) (AF ?_)))))))
     first | refine Az rfl (fun h60=>?_) (fun h60=>?_) | refine Aw rfl (fun h60=>?_) (fun h60=>?_)
     ·refine C5 (AH (AC Z Z (J (CG Z Z (IntWalk.i64_in _ (by omega)) rfl) (AD Z Z (AF ?_)))));exact ⟨(k+1,_,_),⟨hkl,by first | exact hI.pass hkl (fun e=>absurd e h50) | exact hI.pass hkl (fun _ hA=>absurd hA h56) | exact hI.pass hkl (fun _ _=>h60) | exact hins⟩,by show w.K.length - (k+1)<w.K.length - k;omega,At hF [20] rfl (rfl) ⟨rfl,rfl,rfl,rfl,rfl,trivial⟩⟩
     ·refine Ai (AE (AH ?_))
      first | refine J (BN Z Z AL rfl) ?_ | refine J (BO Z Z AL Z Z Z) ?_ | refine J (BP Z Z (rfl) rfl AL rfl) ?_
      refine AC Z Z (J (Bz (hmb) Z Z) (AD Z Z (AF (AE (AE ?_)))));have hgl:(cls w (lnB false w.K[k])).length≤w.R.length:=List.length_filter_le _ _;refine AH (AD Z Z (AF (BH (Db (α:=Nat) (fun j=>⟨77,[(2,.d (Ad false)),(3,(.ptr 20 0 0)),(7,(.d (stsD (((cls w (lnB false w.K[k])).take j).foldl BI out)))),(8,(.d (Ad grew))),(9,(.d (natD k))),(12,(.d (stsD (cls w (lnB false w.K[k]))))),(13,(.d (natD j)))],[FE 20 w]⟩) (fun j=>j≤(cls w (lnB false w.K[k])).length) (fun j=>(cls w (lnB false w.K[k])).length - j) (0) (Nat.zero_le _) (At hF [20] Z Z ⟨rfl,rfl,rfl,rfl,rfl,rfl,rfl,trivial⟩) ?_))));rintro j hj;refine AE (AE (AH (AC Z Z (AC Z Z (J (Bs rfl (List.length_map ..) Tryz.underlying25 rfl) ?_)))))
      first | refine J (D3 Z Z Z) ?_ | refine J (D4 Z Z Z) ?_
      refine AF ?_
      first | refine Az rfl (fun h67=>?_) (fun h67=>?_) | refine Aw rfl (fun h67=>?_) (fun h67=>?_)
      ·refine Ai (AE (BH ?_));have hjl:j<(cls w (lnB false w.K[k])).length:=F1 h67;refine AH (AC Z Z (AC Z Z (AC Z Z ?_)))
       first | refine J (BE (j) Z Z (rfl) (CL hjl) Tryz.underlying25 rfl DW rfl) ?_ | refine J (BF (j) Z Z (rfl) (CL hjl) rfl Tryz.underlying25 DW rfl) ?_
       first | refine J (AZ Z Z AR rfl) ?_ | refine J (AX Z Z Z AR rfl) ?_ | refine J (AY Z Z (rfl) rfl AR rfl) ?_
       refine J (Bz (DD (((cls w (lnB false w.K[k])).take j).foldl BI out) (cls w (lnB false w.K[k]))[j] (by rw [J8,List.length_take];omega)) Z Z) ?_;rw [Kl hjl];refine AD Z Z (AF (AH (AC Z Z (J (CG Z Z (IntWalk.i64_in _ (by omega)) rfl) (AD Z Z (AF ?_))))));exact ⟨j+1,hjl,by omega,At hF [20] rfl (rfl) ⟨rfl,rfl,rfl,rfl,rfl,rfl,rfl,trivial⟩⟩
      ·refine C5 ?_;have hje:j=(cls w (lnB false w.K[k])).length:=by have:=h67;omega
       have hins:=hI.ins hw (k2:=k+1) (List.getElem_mem hkl) (Classical.not_not.1 h50) (Classical.not_not.1 h56) h60 hbR;rw [hje,List.take_length];refine AH (AD Z Z (AF (AH (AC Z Z (J (CG Z Z (IntWalk.i64_in _ (by omega)) rfl) (AD Z Z (AF ?_)))))));exact ⟨(k+1,_,_),⟨hkl,by first | exact hI.pass hkl (fun e=>absurd e h50) | exact hI.pass hkl (fun _ hA=>absurd hA h56) | exact hI.pass hkl (fun _ _=>h60) | exact hins⟩,by show w.K.length - (k+1)<w.K.length - k;omega,At hF [20] rfl (rfl) ⟨rfl,rfl,rfl,rfl,rfl,trivial⟩⟩
  ·refine C5 ?_;exact ⟨(out,grew),NT hw hI (by have:=h25;omega),by have h1:=hI.g.len;have h2:=hI.le;show 2*(w.R.length - out.length)+(if grew then 1 else 0)<2*(w.R.length - out0.length)+(if gr then 1 else 0);rw [show gr=true from h20];cases hgr:grew with | false=>rw [(hI.no hgr).1];simp | true=>have h3:=hI.yes hgr;simp;omega,At hF [20] rfl (rfl) ⟨rfl,rfl,rfl,rfl,trivial⟩⟩
 ·refine C5 (AE ?_);have hfin:=hG0.fin hw (hC0 (by simpa using h20));rw [hfin];refine AH (AC Z Z (AD Z Z (AF (Aq ?_))));exact ⟨_,[],[],An rfl,rfl,rfl,rfl,rfl⟩
set_option maxHeartbeats 1000000 in
theorem P4 (w:Ws) (hw:B1 w) (a:St) (hl:w.K.length≤2000000) (haR:a∈w.R):Ak Tryz.prog 15 [.d (Jw w),.d (AU a),.d (Ad true)] (stsD (cloW w a true)):=by
 have hfew:=hw.few;have hmem:=fun {x:St} (h:x∈w.R)=>Cm w hw x hl;have hm0:=Cm w hw a hl;rw [if_pos haR] at hm0;have hcl:0<(cls w a).length:=List.length_pos_of_mem (QQ haR);refine CP Tryz.func15 Z Z Tryz.ntmps15 Z Z Z fun F hF=>(AE (AH (U (Gl 20 Z Z Z Z Z Z Z) (AD Z Z (AF (AE (AH ?_)))))))
 first | refine J (BN Z Z AL rfl) ?_ | refine J (BO Z Z AL Z Z Z) ?_ | refine J (BP Z Z (rfl) rfl AL rfl) ?_
 refine AC Z Z (J (Bz (hm0) Z Z) (AD Z Z (AF (AE (AE (AH (AC Z Z (J (Bs rfl (List.length_map ..) Tryz.underlying25 rfl) ?_))))))))
 first | refine J (FW Z Z Z) ?_ | refine J (FV Z Z Z) ?_ | refine J (FL Z Z Z) ?_ | refine J (FO Tryz.underlying3 Z Z Z) ?_ | refine J (FR Tryz.underlying3 Z Z Z) ?_ | refine J (FQ Tryz.underlying3 Z Z) ?_ | refine J (FU Tryz.underlying3 Z Z) ?_ | refine J (FT Tryz.underlying3 Z Z) ?_ | refine J (FP Tryz.underlying3 Z Z Z) ?_ | refine J (fSq Tryz.underlying3 Z Z) ?_
 refine AF ?_;refine DM rfl (decide_eq_false (by omega)) (Ai (AE (AE (AH (AD Z Z (AF (BH (Db (α:=List St×Bool) (fun q=>⟨77,[(2,.d (Ad true)),(3,(.ptr 20 0 0)),(7,(.d (stsD q.1))),(8,(.d (Ad q.2)))],[FE 20 w]⟩) (fun q=>IL w true a q.1∧(q.2=false ->∀l∈w.K,QC true q.1 l)) (fun q=>2*(w.R.length - q.1.length)+(if q.2 then 1 else 0)) ((cls w a,true)) (⟨IL.zero hw haR,fun e=>by cases e⟩) (At hF [20] Z Z ⟨rfl,rfl,rfl,rfl,trivial⟩) ?_))))))));rintro ⟨out0,gr⟩ ⟨hG0,hC0⟩;dsimp only at hG0 hC0⊢;refine AE (AE (AH (AC Z Z (AF ?_))))
 first | refine Az rfl (fun h20=>?_) (fun h20=>?_) | refine Aw rfl (fun h20=>?_) (fun h20=>?_)
 ·refine Ai (BH (AE ?_));refine AH (AD Z Z (AF (AE (AH (AD Z Z (AF (BH (Db (α:=Nat×List St×Bool) (fun q=>⟨77,[(2,.d (Ad true)),(3,(.ptr 20 0 0)),(7,(.d (stsD q.2.1))),(8,(.d (Ad q.2.2))),(9,(.d (natD q.1)))],[FE 20 w]⟩) (fun q=>q.1≤w.K.length∧Gj w true a out0 q.1 q.2.1 q.2.2) (fun q=>w.K.length - q.1) ((0,out0,false)) (⟨Nat.zero_le _,Gj.zero hG0⟩) (At hF [20] Z Z ⟨rfl,rfl,rfl,rfl,rfl,trivial⟩) ?_))))))));rintro ⟨k,out,grew⟩ ⟨hk,hI⟩;dsimp only at hk hI⊢;refine AE (AE (AH (AC Z Z ?_)))
  first | refine J (A2 rfl A0 Z Z Z) ?_ | refine J (A4 rfl A0 Z Z Z) ?_ | refine J (A5 rfl A0 Z Z Z) ?_ | refine J (A3 rfl A0 Z Z Z) ?_ | refine J (A1 rfl A0 Z Z Z) ?_
  first | refine J (AZ Z Z A6 rfl) ?_ | refine J (AX Z Z Z A6 rfl) ?_ | refine J (AY Z Z (rfl) rfl A6 rfl) ?_
  refine J (Bs rfl (List.length_map ..) Tryz.underlying26 rfl) ?_
  first | refine J (D3 Z Z Z) ?_ | refine J (D4 Z Z Z) ?_
  refine AF ?_
  first | refine Az rfl (fun h25=>?_) (fun h25=>?_) | refine Aw rfl (fun h25=>?_) (fun h25=>?_)
  ·refine Ai (AE (BH (AE ?_)));have hkl:k<w.K.length:=F1 h25;have hol:=hI.g.len;have hlk:=hw.lk _ (List.getElem_mem hkl);have hbR:lnB true w.K[k]∈w.R:=hlk.1;have hmb:=hmem hbR;rw [if_pos hbR] at hmb;refine FK [[],[0],[],[0,1,2],[0,1,2,3],[0,1,2,3,4],[],[6],[],[6,7,8],[6,7,8,9],[6,7,8,9,10],[0,1,2,3,4,5],[0,1,2,3,4,5,6,7,8,9,10,11,12]] mixed rfl (D1 ?_)
   first | refine AG [3] [] Z Z (fun _=>AB (A2 rfl A0 Z Z Z)) ?_ | refine AI [3] Z Z (fun _=>AB (A2 rfl A0 Z Z Z)) ?_ | refine AG [3] [] Z Z (fun _=>AB (A4 rfl A0 Z Z Z)) ?_ | refine AI [3] Z Z (fun _=>AB (A4 rfl A0 Z Z Z)) ?_ | refine AG [3] [] Z Z (fun _=>AB (A5 rfl A0 Z Z Z)) ?_ | refine AI [3] Z Z (fun _=>AB (A5 rfl A0 Z Z Z)) ?_ | refine AG [3] [] Z Z (fun _=>AB (A3 rfl A0 Z Z Z)) ?_ | refine AI [3] Z Z (fun _=>AB (A3 rfl A0 Z Z Z)) ?_ | refine AG [3] [] Z Z (fun _=>AB (A1 rfl A0 Z Z Z)) ?_ | refine AI [3] Z Z (fun _=>AB (A1 rfl A0 Z Z Z)) ?_
   first | refine AG [28] [] Z Z (fun _=>AB (AZ Z Z A6 rfl)) ?_ | refine AI [28] Z Z (fun _=>AB (AZ Z Z A6 rfl)) ?_ | refine AG [28] [] Z Z (fun _=>AB (AX Z Z Z A6 rfl)) ?_ | refine AI [28] Z Z (fun _=>AB (AX Z Z Z A6 rfl)) ?_ | refine AG [28] [] Z Z (fun _=>AB (AY Z Z (rfl) rfl A6 rfl)) ?_ | refine AI [28] Z Z (fun _=>AB (AY Z Z (rfl) rfl A6 rfl)) ?_
   first | refine AG [9] [] Z Z (fun _=>AB (A8 Z Z)) ?_ | refine AI [9] Z Z (fun _=>AB (A8 Z Z)) ?_
   first | refine AG [29,30] [] Z Z (fun _=>AB (BE (k) Z Z (rfl) (BJ hkl) Tryz.underlying26 rfl BB rfl)) ?_ | refine AI [29,30] Z Z (fun _=>AB (BE (k) Z Z (rfl) (BJ hkl) Tryz.underlying26 rfl BB rfl)) ?_ | refine AG [29,30] [] Z Z (fun _=>AB (BF (k) Z Z (rfl) (BJ hkl) rfl Tryz.underlying26 BB rfl)) ?_ | refine AI [29,30] Z Z (fun _=>AB (BF (k) Z Z (rfl) (BJ hkl) rfl Tryz.underlying26 BB rfl)) ?_
   first | refine AG [31] [] Z Z (fun _=>AB (A2 rfl Be Z Z Z)) ?_ | refine AI [31] Z Z (fun _=>AB (A2 rfl Be Z Z Z)) ?_ | refine AG [31] [] Z Z (fun _=>AB (A4 rfl Be Z Z Z)) ?_ | refine AI [31] Z Z (fun _=>AB (A4 rfl Be Z Z Z)) ?_ | refine AG [31] [] Z Z (fun _=>AB (A5 rfl Be Z Z Z)) ?_ | refine AI [31] Z Z (fun _=>AB (A5 rfl Be Z Z Z)) ?_ | refine AG [31] [] Z Z (fun _=>AB (A3 rfl Be Z Z Z)) ?_ | refine AI [31] Z Z (fun _=>AB (A3 rfl Be Z Z Z)) ?_ | refine AG [31] [] Z Z (fun _=>AB (A1 rfl Be Z Z Z)) ?_ | refine AI [31] Z Z (fun _=>AB (A1 rfl Be Z Z Z)) ?_
   first | refine AG [32] [] Z Z (fun _=>AB (AZ Z Z AR rfl)) ?_ | refine AI [32] Z Z (fun _=>AB (AZ Z Z AR rfl)) ?_ | refine AG [32] [] Z Z (fun _=>AB (AX Z Z Z AR rfl)) ?_ | refine AI [32] Z Z (fun _=>AB (AX Z Z Z AR rfl)) ?_ | refine AG [32] [] Z Z (fun _=>AB (AY Z Z (rfl) rfl AR rfl)) ?_ | refine AI [32] Z Z (fun _=>AB (AY Z Z (rfl) rfl AR rfl)) ?_
   first | refine AG [3] [] Z Z (fun _=>AB (A2 rfl A0 Z Z Z)) ?_ | refine AI [3] Z Z (fun _=>AB (A2 rfl A0 Z Z Z)) ?_ | refine AG [3] [] Z Z (fun _=>AB (A4 rfl A0 Z Z Z)) ?_ | refine AI [3] Z Z (fun _=>AB (A4 rfl A0 Z Z Z)) ?_ | refine AG [3] [] Z Z (fun _=>AB (A5 rfl A0 Z Z Z)) ?_ | refine AI [3] Z Z (fun _=>AB (A5 rfl A0 Z Z Z)) ?_ | refine AG [3] [] Z Z (fun _=>AB (A3 rfl A0 Z Z Z)) ?_ | refine AI [3] Z Z (fun _=>AB (A3 rfl A0 Z Z Z)) ?_ | refine AG [3] [] Z Z (fun _=>AB (A1 rfl A0 Z Z Z)) ?_ | refine AI [3] Z Z (fun _=>AB (A1 rfl A0 Z Z Z)) ?_
   first | refine AG [34] [] Z Z (fun _=>AB (AZ Z Z A6 rfl)) ?_ | refine AI [34] Z Z (fun _=>AB (AZ Z Z A6 rfl)) ?_ | refine AG [34] [] Z Z (fun _=>AB (AX Z Z Z A6 rfl)) ?_ | refine AI [34] Z Z (fun _=>AB (AX Z Z Z A6 rfl)) ?_ | refine AG [34] [] Z Z (fun _=>AB (AY Z Z (rfl) rfl A6 rfl)) ?_ | refine AI [34] Z Z (fun _=>AB (AY Z Z (rfl) rfl A6 rfl)) ?_
   first | refine AG [9] [] Z Z (fun _=>AB (A8 Z Z)) ?_ | refine AI [9] Z Z (fun _=>AB (A8 Z Z)) ?_
   first | refine AG [35,36] [] Z Z (fun _=>AB (BE (k) Z Z (rfl) (BJ hkl) Tryz.underlying26 rfl BB rfl)) ?_ | refine AI [35,36] Z Z (fun _=>AB (BE (k) Z Z (rfl) (BJ hkl) Tryz.underlying26 rfl BB rfl)) ?_ | refine AG [35,36] [] Z Z (fun _=>AB (BF (k) Z Z (rfl) (BJ hkl) rfl Tryz.underlying26 BB rfl)) ?_ | refine AI [35,36] Z Z (fun _=>AB (BF (k) Z Z (rfl) (BJ hkl) rfl Tryz.underlying26 BB rfl)) ?_
   first | refine AG [37] [] Z Z (fun _=>AB (A2 rfl Bf Z Z Z)) ?_ | refine AI [37] Z Z (fun _=>AB (A2 rfl Bf Z Z Z)) ?_ | refine AG [37] [] Z Z (fun _=>AB (A4 rfl Bf Z Z Z)) ?_ | refine AI [37] Z Z (fun _=>AB (A4 rfl Bf Z Z Z)) ?_ | refine AG [37] [] Z Z (fun _=>AB (A5 rfl Bf Z Z Z)) ?_ | refine AI [37] Z Z (fun _=>AB (A5 rfl Bf Z Z Z)) ?_ | refine AG [37] [] Z Z (fun _=>AB (A3 rfl Bf Z Z Z)) ?_ | refine AI [37] Z Z (fun _=>AB (A3 rfl Bf Z Z Z)) ?_ | refine AG [37] [] Z Z (fun _=>AB (A1 rfl Bf Z Z Z)) ?_ | refine AI [37] Z Z (fun _=>AB (A1 rfl Bf Z Z Z)) ?_
   first | refine AG [38] [] Z Z (fun _=>AB (AZ Z Z AR rfl)) ?_ | refine AI [38] Z Z (fun _=>AB (AZ Z Z AR rfl)) ?_ | refine AG [38] [] Z Z (fun _=>AB (AX Z Z Z AR rfl)) ?_ | refine AI [38] Z Z (fun _=>AB (AX Z Z Z AR rfl)) ?_ | refine AG [38] [] Z Z (fun _=>AB (AY Z Z (rfl) rfl AR rfl)) ?_ | refine AI [38] Z Z (fun _=>AB (AY Z Z (rfl) rfl AR rfl)) ?_
   first | refine AG [33] [] Z Z (fun _=>AB (Zct Z Z)) ?_ | refine AI [33] Z Z (fun _=>AB (Zct Z Z)) ?_
   refine D2 13 Z Z Z (BY 14 Z Z (AD Z Z (AF ⟨rfl,?_⟩)));refine Eg (AE (AE (AH (AC Z Z (AF (IH rfl (rfl) ?_))))));refine AH (AC Z Z (AC Z Z (AD Z Z (AD Z Z (AF (AE (AE (AH ?_))))))))
   first | refine J (A2 rfl A0 Z Z Z) ?_ | refine J (A4 rfl A0 Z Z Z) ?_ | refine J (A5 rfl A0 Z Z Z) ?_ | refine J (A3 rfl A0 Z Z Z) ?_ | refine J (A1 rfl A0 Z Z Z) ?_
   first | refine J (AZ Z Z A6 rfl) ?_ | refine J (AX Z Z Z A6 rfl) ?_ | refine J (AY Z Z (rfl) rfl A6 rfl) ?_
   refine AC Z Z ?_
   first | refine J (BE (k) Z Z (rfl) (BJ hkl) Tryz.underlying26 rfl BB rfl) ?_ | refine J (BF (k) Z Z (rfl) (BJ hkl) rfl Tryz.underlying26 BB rfl) ?_
   first | refine J (A2 rfl Eh Z Z Z) ?_ | refine J (A4 rfl Eh Z Z Z) ?_ | refine J (A5 rfl Eh Z Z Z) ?_ | refine J (A3 rfl Eh Z Z Z) ?_ | refine J (A1 rfl Eh Z Z Z) ?_
   first | refine J (AZ Z Z BV rfl) ?_ | refine J (AX Z Z Z BV rfl) ?_ | refine J (AY Z Z (rfl) rfl BV rfl) ?_
   first | refine J (I8 Z Z Z) ?_ | refine J (I7 Z Z Z) ?_ | refine J (IF Z Z Z) ?_ | refine J (I2 Tryz.underlying3 Z Z Z) ?_ | refine J (I4 Tryz.underlying3 Z Z Z) ?_ | refine J (st_neqN Tryz.underlying3 Z Z) ?_ | refine J (st_neqPr Tryz.underlying3 Z Z) ?_ | refine J (st_neqMz Tryz.underlying3 Z Z) ?_ | refine J (I3 Tryz.underlying3 Z Z Z) ?_ | refine J (st_neqFN Tryz.underlying3 Z Z) ?_
   refine AC Z Z ?_
   first | refine It 50 rfl (fun h50=>?_) (fun h50=>?_) | refine I5 50 rfl (fun h50=>?_) (fun h50=>?_)
   ·refine BA Z Z Z Z (BA Z Z Z Z (BA Z Z Z Z (BA Z Z Z Z (J (GZ Z Z Z Z) (AC Z Z (BA Z Z Z Z (BA Z Z Z Z (BA Z Z Z Z ?_))))))));refine J (GZ Z Z Z Z) (AF (IH Z Z (C5 (AH (AC Z Z (J (CG Z Z (IntWalk.i64_in _ (by omega)) rfl) (AD Z Z (AF ?_))))))));exact ⟨(k+1,_,_),⟨hkl,by first | exact hI.pass hkl (fun e=>absurd e h50) | exact hI.pass hkl (fun _ hA=>absurd hA h56) | exact hI.pass hkl (fun _ _=>h60) | exact hins⟩,by show w.K.length - (k+1)<w.K.length - k;omega,At hF [20] rfl (rfl) ⟨rfl,rfl,rfl,rfl,rfl,trivial⟩⟩
   ·refine Aa Z Z Z (AC Z Z (Aa Z Z Z (AC Z Z (Aa Z Z Z (J (Bz (Jx out (lnA true w.K[k]) (by omega)) Z Z) (Aa Z Z Z ?_))))))
    first | refine J (ET Z Z) ?_ | refine J (EQ Z Z) ?_
    refine J (Fo Z Z Z Z) (AC Z Z ?_)
    first | refine It 56 rfl (fun h56=>?_) (fun h56=>?_) | refine I5 56 rfl (fun h56=>?_) (fun h56=>?_)
    ·refine BA Z Z Z Z (BA Z Z Z Z (BA Z Z Z Z ?_));refine J (GZ Z Z Z Z) (AF (IH Z Z (C5 (AH (AC Z Z (J (CG Z Z (IntWalk.i64_in _ (by omega)) rfl) (AD Z Z (AF ?_))))))));exact ⟨(k+1,_,_),⟨hkl,by first | exact hI.pass hkl (fun e=>absurd e h50) | exact hI.pass hkl (fun _ hA=>absurd hA h56) | exact hI.pass hkl (fun _ _=>h60) | exact hins⟩,by show w.K.length - (k+1)<w.K.length - k;omega,At hF [20] rfl (rfl) ⟨rfl,rfl,rfl,rfl,rfl,trivial⟩⟩
    ·refine Aa Z Z Z (AC Z Z (Aa Z Z Z (AC Z Z (Aa Z Z Z (J (Bz (Jx out (lnB true w.K[k]) (by omega)) Z Z) (J (Fo Z Z Z Z) (AF ?_)))))))
     first | refine Az rfl (fun h60=>?_) (fun h60=>?_) | refine Aw rfl (fun h60=>?_) (fun h60=>?_)
     ·refine C5 (AH (AC Z Z (J (CG Z Z (IntWalk.i64_in _ (by omega)) rfl) (AD Z Z (AF ?_)))));exact ⟨(k+1,_,_),⟨hkl,by first | exact hI.pass hkl (fun e=>absurd e h50) | exact hI.pass hkl (fun _ hA=>absurd hA h56) | exact hI.pass hkl (fun _ _=>h60) | exact hins⟩,by show w.K.length - (k+1)<w.K.length - k;omega,At hF [20] rfl (rfl) ⟨rfl,rfl,rfl,rfl,rfl,trivial⟩⟩
     ·refine Ai (AE (AH ?_))
      first | refine J (BN Z Z AL rfl) ?_ | refine J (BO Z Z AL Z Z Z) ?_ | refine J (BP Z Z (rfl) rfl AL rfl) ?_
      refine AC Z Z (J (Bz (hmb) Z Z) (AD Z Z (AF (AE (AE ?_)))));have hgl:(cls w (lnB true w.K[k])).length≤w.R.length:=List.length_filter_le _ _;refine AH (AD Z Z (AF (BH (Db (α:=Nat) (fun j=>⟨77,[(2,.d (Ad true)),(3,(.ptr 20 0 0)),(7,(.d (stsD (((cls w (lnB true w.K[k])).take j).foldl BI out)))),(8,(.d (Ad grew))),(9,(.d (natD k))),(12,(.d (stsD (cls w (lnB true w.K[k]))))),(13,(.d (natD j)))],[FE 20 w]⟩) (fun j=>j≤(cls w (lnB true w.K[k])).length) (fun j=>(cls w (lnB true w.K[k])).length - j) (0) (Nat.zero_le _) (At hF [20] Z Z ⟨rfl,rfl,rfl,rfl,rfl,rfl,rfl,trivial⟩) ?_))));rintro j hj;refine AE (AE (AH (AC Z Z (AC Z Z (J (Bs rfl (List.length_map ..) Tryz.underlying25 rfl) ?_)))))
      first | refine J (D3 Z Z Z) ?_ | refine J (D4 Z Z Z) ?_
      refine AF ?_
      first | refine Az rfl (fun h67=>?_) (fun h67=>?_) | refine Aw rfl (fun h67=>?_) (fun h67=>?_)
      ·refine Ai (AE (BH ?_));have hjl:j<(cls w (lnB true w.K[k])).length:=F1 h67;refine AH (AC Z Z (AC Z Z (AC Z Z ?_)))
       first | refine J (BE (j) Z Z (rfl) (CL hjl) Tryz.underlying25 rfl DW rfl) ?_ | refine J (BF (j) Z Z (rfl) (CL hjl) rfl Tryz.underlying25 DW rfl) ?_
       first | refine J (AZ Z Z AR rfl) ?_ | refine J (AX Z Z Z AR rfl) ?_ | refine J (AY Z Z (rfl) rfl AR rfl) ?_
       refine J (Bz (DD (((cls w (lnB true w.K[k])).take j).foldl BI out) (cls w (lnB true w.K[k]))[j] (by rw [J8,List.length_take];omega)) Z Z) ?_;rw [Kl hjl];refine AD Z Z (AF (AH (AC Z Z (J (CG Z Z (IntWalk.i64_in _ (by omega)) rfl) (AD Z Z (AF ?_))))));exact ⟨j+1,hjl,by omega,At hF [20] rfl (rfl) ⟨rfl,rfl,rfl,rfl,rfl,rfl,rfl,trivial⟩⟩
      ·refine C5 ?_;have hje:j=(cls w (lnB true w.K[k])).length:=by have:=h67;omega
       have hins:=hI.ins hw (k2:=k+1) (List.getElem_mem hkl) (Classical.not_not.1 h50) (Classical.not_not.1 h56) h60 hbR;rw [hje,List.take_length];refine AH (AD Z Z (AF (AH (AC Z Z (J (CG Z Z (IntWalk.i64_in _ (by omega)) rfl) (AD Z Z (AF ?_)))))));exact ⟨(k+1,_,_),⟨hkl,by first | exact hI.pass hkl (fun e=>absurd e h50) | exact hI.pass hkl (fun _ hA=>absurd hA h56) | exact hI.pass hkl (fun _ _=>h60) | exact hins⟩,by show w.K.length - (k+1)<w.K.length - k;omega,At hF [20] rfl (rfl) ⟨rfl,rfl,rfl,rfl,rfl,trivial⟩⟩
  ·refine C5 ?_;exact ⟨(out,grew),NT hw hI (by have:=h25;omega),by have h1:=hI.g.len;have h2:=hI.le;show 2*(w.R.length - out.length)+(if grew then 1 else 0)<2*(w.R.length - out0.length)+(if gr then 1 else 0);rw [show gr=true from h20];cases hgr:grew with | false=>rw [(hI.no hgr).1];simp | true=>have h3:=hI.yes hgr;simp;omega,At hF [20] rfl (rfl) ⟨rfl,rfl,rfl,rfl,trivial⟩⟩
 ·refine C5 (AE ?_);have hfin:=hG0.fin hw (hC0 (by simpa using h20));rw [hfin];refine AH (AC Z Z (AD Z Z (AF (Aq ?_))));exact ⟨_,[],[],An rfl,rfl,rfl,rfl,rfl⟩
theorem P5 (w:Ws) (hw:B1 w) (a:St) (hl:w.K.length≤2000000) (haR:a∉w.R) (back:Bool):Ak Tryz.prog 15 [.d (Jw w),.d (AU a),.d (Ad back)] (.sl (some true) []):=by
 have hm0:=Cm w hw a hl;rw [if_neg haR] at hm0;refine CP Tryz.func15 Z Z Tryz.ntmps15 Z Z Z fun F hF=>(AE (AH (U (Gl 20 Z Z Z Z Z Z Z) (AD Z Z (AF (AE (AH ?_)))))))
 first | refine J (BN Z Z AL rfl) ?_ | refine J (BO Z Z AL Z Z Z) ?_ | refine J (BP Z Z (rfl) rfl AL rfl) ?_
 refine AC Z Z (J (Bz (hm0) Z Z) (AD Z Z (AF (AE (AE (AH (AC Z Z ?_)))))))
 first | refine J (IB rfl Tryz.underlying25 rfl) ?_ | refine J (Bs Z Z Tryz.underlying25 rfl) ?_ | refine J (IE rfl Tryz.underlying25 rfl) ?_ | refine J (IG rfl Tryz.underlying25 rfl) ?_ | refine J (ID rfl Tryz.underlying25 rfl) ?_ | refine J (H4 rfl Tryz.underlying25 rfl) ?_
 first | refine J (FW Z Z Z) ?_ | refine J (FV Z Z Z) ?_ | refine J (FL Z Z Z) ?_ | refine J (FO Tryz.underlying3 Z Z Z) ?_ | refine J (FR Tryz.underlying3 Z Z Z) ?_ | refine J (FQ Tryz.underlying3 Z Z) ?_ | refine J (FU Tryz.underlying3 Z Z) ?_ | refine J (FT Tryz.underlying3 Z Z) ?_ | refine J (FP Tryz.underlying3 Z Z Z) ?_ | refine J (fSq Tryz.underlying3 Z Z) ?_
 refine AF (IH rfl ((by simp)) (AE (AH (AD Z Z (AF (Aq ?_))))));exact ⟨_,[],[],An rfl,rfl,rfl,rfl,rfl⟩
end Go.Proofs.YtlmedakidpaeeaaGreat
