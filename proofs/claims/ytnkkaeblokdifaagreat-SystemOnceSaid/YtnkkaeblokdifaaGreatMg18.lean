/- Layer 28: what slices.Values feeds to a loop. -/
import Derived.Test.YtnkkaeblokdifaaGreatMg17
namespace Go.Proofs.YtnkkaeblokdifaaGreat
open Go.RowKit
set_option maxRecDepth 100000
theorem Y2 {hp:Hp} {f:Nat} {o:AM} (h:hfam hp f=none) (hm:RU o=true:=by rfl):DD hp f o=some ((f,[o])::hp):=by simp only [DD,h,hm]
theorem RD {hp:Hp} {f:Nat} {x:List AM}:∀{nm:List Nat},memB f nm=false ->At ((f,x)::hp) nm=At hp nm
 | [],_=>rfl
 | g::r,h=>by
  have h1:Nat.beq f g=false:=by
   cases hb:Nat.beq f g with
   | false=>rfl
   | true=>
    have e:=Nat.eq_of_beq_eq_true hb;subst e
    simp [memB] at h
  have h2:memB f r=false:=by
   cases hb:memB f r with
   | false=>rfl
   | true=>simp [memB,hb] at h
  simp only [At];rw [RD h2];simp only [hfam,h1]
theorem OK (l:List Nat):I3 l l=true:=by
 have key:∀(l m:List Nat),(∀x∈l,x∈m) ->I3 l m=true:=fun l=>by
  induction l with
  | nil=>intro m _;rfl
  | cons a r ih=>intro m h;simp only [I3,Bool.and_eq_true];exact ⟨Ez.2 (h a (by simp)),ih m fun x hx=>h x (by simp [hx])⟩
 exact key l l fun x hx=>hx
theorem Td {α β:Type} {step:β ->α ->β×Bool} {b:β} {x:α} {r:List α}:CA step b (x::r)=if (step b x).2=true then CA step (step b x).1 r else (step b x).1:=by
 simp only [CA]
 generalize step b x=y
 obtain ⟨y1,y2⟩:=y
 cases y2<;>rfl
def encI (x:AT):List AV:=[.d (Aw x)]
section
variable {β:Type}
theorem seqV_c (its:List AT) (hits:its.length≤1000000) (l:Nat) (H:β ->Hp) (N:List Nat) (step:β ->AT ->β×Bool) (st0:β) (hN:∀st,hpN (H st)=N) (hI:∀st,DV N (H st)=true) (hP:∀st,At (H st) N=some (H st))
  (hk:∀st,Aa 990 (H st)=some (H st)) (hz:∀st,hfam (H st) 990=none) (hm:memB 990 N=false)
  (hfe:Cv Tryz.prog l encI H step st0 its):
  A8 Tryz.prog 212 [.d (.raw (CK l)),.d (.ptr (.sl none (its.map Aw)))] (H st0) fun r H'=>r= .tup []∧H'=H (CA step st0 its):=by
 refine BY Tryz.func212 Z Z Tryz.ntmps212 Z Z Z fun F hF=>(AF (AJ ?_))
 first | refine J (A0 Z Z Bf rfl) ?_ | refine J (AY Z Z Z Bf rfl) ?_ | refine J (AZ Z Z (rfl) rfl Bf rfl) ?_
 first | refine J (Cc rfl Tryz.underlying29 rfl) ?_ | refine J (C8 Z Z Tryz.underlying29 rfl) ?_ | refine J (Cd rfl Tryz.underlying29 rfl) ?_ | refine J (Cb rfl Tryz.underlying29 rfl) ?_ | refine J (CW rfl Tryz.underlying29 rfl) ?_ | refine J (C9 rfl Tryz.underlying29 rfl) ?_
 refine AC Z Z (AH (Au (Dz (α:=Nat×β) (fun p=>⟨16,[(0,.d (.raw (CK l))),(5,(.d (.sl none (its.map Aw)))),(6,(.d (AG (its.length:Int)))),(7,(.d (AG (p.1:Int))))],H p.2⟩) (fun p=>p.1≤its.length∧Cv Tryz.prog l encI H step p.2 (its.drop p.1)∧CA step p.2 (its.drop p.1)=CA step st0 its) (fun p=>its.length - p.1) ((0,st0)) (⟨Nat.zero_le _,hfe,rfl⟩) (Ti ⟨rfl,rfl,rfl,rfl,trivial⟩) ?_)));rintro ⟨k,st⟩ ⟨hk0,hfd,hfin⟩;dsimp only at hk0 hfd hfin⊢;refine AF (AJ ?_)
 first | refine J (C7 Z Z Z) ?_ | refine J (Ca Z Z Z) ?_
 refine AH (AF ?_)
 first | refine BJ rfl (fun h8=>?_) (fun h8=>?_) | refine BB rfl (fun h8=>?_) (fun h8=>?_)
 ·have hk1:k<its.length:=DZ h8;refine Am (AF (Au (AF (AJ ?_))));have hA:its.drop k=its[k]::its.drop (k+1):=List.drop_eq_getElem_cons hk1;rw [hA] at hfd
  first | refine J (CY (k) Z Z (rfl) (A2 hk1) Tryz.underlying29 rfl Br rfl) ?_ | refine J (CZ (k) Z Z (rfl) (A2 hk1) rfl Tryz.underlying29 Br rfl) ?_
  first | refine J (An Z Z A7 rfl) ?_ | refine J (Ao Z Z A7 Z Z Z) ?_ | refine J (Ap Z Z (rfl) rfl A7 rfl) ?_
  refine U (Cm 990 Da rfl (hk _) (Y2 (hz _)) rfl) (U (Bj Z Z Z Z Z Z Z Br) (AH (AF (AJ (AC Z Z ?_)))))
  first | refine J (An Z Z A7 rfl) ?_ | refine J (Ao Z Z A7 Z Z Z) ?_ | refine J (Ap Z Z (rfl) rfl A7 rfl) ?_
  refine TJ [0,5,6,7,11,12] rfl (o_only N (hF.trans (hN st0)) (OK N) ((RD hm).trans (hP _)) (RP hfd.1 Z Z (by rw [hN,hN]) (by rw [hN];exact hI _) Z Z ?_))
  first | refine J (F2 Z Z) ?_ | refine J (FT Z Z) ?_
  refine AH ?_
  first | refine BJ rfl (fun h14=>?_) (fun h14=>?_) | refine BB rfl (fun h14=>?_) (fun h14=>?_)
  ·have hgo:(step st its[k]).2=false:=by simpa using h14
   refine Af ?_;exact ⟨_,N,_,Ae rfl,hP _,by rw [←hN st0];exact ZD _,rfl,by rw [←hfin,hA,Td,if_neg (by rw [hgo];decide)]⟩
  ·have hgo:(step st its[k]).2=true:=by simpa using h14
   refine Am (AJ (J (Bi Z Z (A6 (k+1) (by omega)) rfl) (AC Z Z (AH ?_))));exact ⟨(k+1,(step st its[k]).1),⟨by show k+1≤_;omega,hfd.2 hgo,by rw [←hfin,hA,Td,if_pos hgo]⟩,by show its.length - (k+1)<its.length - k;omega,⟨rfl,rfl,fun _ _=>MT.get (l:=[(0,_),(5,_),(6,_),(7,_)]) ⟨rfl,rfl,rfl,rfl,trivial⟩⟩⟩
 ·refine C6 ?_;exact ⟨_,N,_,Ae rfl,hP _,by rw [←hN st0];exact ZD _,rfl,by rw [←hfin,List.drop_of_length_le (by have h:=h8;omega)];rfl⟩
end
theorem SR.freezeB {F:Fr} {s:AS} {ρ:Nat ->Nat ->Value} {act:Act} {w:World} (h:SR F s ρ act w) (t f:Nat) (x:D) {T:TypeId} {cs:List AV} {hp':Hp} (nm:List Nat) {pn:List Nat} (hF:F.pn=pn) (ht:get s.env t=some (.ptr f 0 0)) (hone:hfam s.hp f=some [.blk T cs]) (hcs:cs=x.cells.map .d) (hx1:∀c∈x.cells,c.one=true) (hf:memB f nm=false) (hsub:I3 pn nm=true) (hpt:At s.hp nm=some hp'):SR F ⟨s.n,(t,.d (.ptr x))::s.env,hp'⟩ ρ act w:=by
 have h1:=h.only nm hF hsub hpt;refine ⟨h1.size,h1.defs,fun t' a ha=>?_,h1.heap⟩;rcases K7 ha with ⟨rfl,rfl⟩ | ⟨_,ha⟩
 ·have hr:=h.env t _ ht;have ho:hget s.hp f 0=some (.blk T cs):=by simp [hget,hone,gl,isM]
  obtain ⟨b,us,e1,e2,e3,e4,e5⟩:=h.heap.sim f 0 _ ho;show A3 _ _ _ _ (act.tmps.getD t undef)
  generalize act.tmps.getD t undef=v at hr
  cases hr with
  | @ptr _ _ _ b' hb=>
   rw [e1] at hb;injection hb with hb;injection hb with hb;injection hb with hb;subst hb
   have hO:∀b',F.O ρ hp' b' ->F.O ρ s.hp b':=fun b' hb'=>hb'.imp id fun ⟨f',i',o',q1,q2⟩=>by
    obtain ⟨m1,_⟩:=Do hpt;refine ⟨f',i',o',?_,q2⟩;simp only [hget] at q1⊢
    cases hh:hfam hp' f' with
    | none=>rw [hh] at q1;cases q1
    | some l=>rw [(m1 f' l hh).2];rw [hh] at q1;exact q1
   have hnO:¬F.O ρ hp' b:=fun hb'=>by
    rcases hb' with hb' | ⟨f',i',o',q1,q2⟩
    ·exact h.heap.notOf ⟨f,0,_,ho,by rw [e1];rfl⟩ hb'
    ·obtain ⟨m1,_⟩:=Do hpt;simp only [hget] at q1
     cases hh:hfam hp' f' with
     | none=>rw [hh] at q1;cases q1
     | some l=>
      have q3:hget s.hp f' i'=some o':=by simp only [hget];rw [(m1 f' l hh).2];rw [hh] at q1;exact q1
      obtain ⟨e1',_⟩:=h.heap.inj f' i' f 0 _ _ b q3 ho q2 (by rw [e1];rfl);have:=Ez.2 (m1 f' l hh).1;rw [e1',hf] at this;cases this
   have hlen:us.length=x.cells.length:=by rw [e3,hcs,List.length_map]
   refine .d (.ptr (fun j=>us.getD j undef) (h.heap.ltO (.inr ⟨f,0,_,ho,by rw [e1];rfl⟩)) hnO hx1 (fun j c hj=>?_) (fun j c hj=>?_))
   ·have hj':j<us.length:=by rw [hlen];exact (List.getElem?_eq_some_iff.1 hj).1
    rw [Nat.zero_add,cell_of_row w b j us.toArray T (0,0) e2]
    simp [hj']
   ·have hj':j<us.length:=by rw [hlen];exact (List.getElem?_eq_some_iff.1 hj).1
    have hc:=e4 j (.d c) us[j] (by rw [hcs,List.getElem?_map,hj];rfl) (List.getElem?_eq_getElem hj');have hg:us.getD j undef=us[j]:=by simp [hj']
    rw [hg]
    cases hc with
    | d hc=>exact hc.mono (Nat.le_refl _) (fun _ _ _=>rfl) fun b' _=>hO b'
 ·exact h1.env t' a ha
theorem GL {P:Program} {F:Fr} {Q:Exit ->AS ->Prop} {ops:Array Oper} {l':List Oper} {sn:Nat} {env:List (Nat×AV)} {hp hp':Hp} (t f:Nat) (x:D) {T:TypeId} {cs:List AV} (nm:List Nat) {pn:List Nat} (hF:F.pn=pn) (ht:get env t=some (.ptr f 0 0)) (hone:hfam hp f=some [.blk T cs]) (hcs:cs=x.cells.map .d) (hx1:∀c∈x.cells,c.one=true) (hf:memB f nm=false) (hsub:I3 pn nm=true) (hpt:At hp nm=some hp')
  (h:Av P F ops l' Q ⟨sn,(t,.d (.ptr x))::env,hp'⟩):Av P F ops l' Q ⟨sn,env,hp⟩:=fun ρ act w hs=>h ρ act w (hs.freezeB t f x nm hF ht hone hcs hx1 hf hsub hpt)
theorem PN {P:Program} {F:Fr} {Q:Exit ->AS ->Prop} {c:Code} {sn:Nat} {env:List (Nat×AV)} {hp hp':Hp} (t f:Nat) (x:D) {T:TypeId} {cs:List AV} (nm:List Nat) {pn:List Nat} (hF:F.pn=pn) (ht:get env t=some (.ptr f 0 0)) (hone:hfam hp f=some [.blk T cs]) (hcs:cs=x.cells.map .d) (hx1:∀c∈x.cells,c.one=true) (hf:memB f nm=false) (hsub:I3 pn nm=true) (hpt:At hp nm=some hp')
  (h:By P F c Q ⟨sn,(t,.d (.ptr x))::env,hp'⟩):By P F c Q ⟨sn,env,hp⟩:=fun ρ act w hs=>h ρ act w (hs.freezeB t f x nm hF ht hone hcs hx1 hf hsub hpt)
theorem W9 (its:List AT):A8 Tryz.prog 183 [.d (.sl none (its.map Aw))] [] fun r H'=>r= .fn 212 [.d (.ptr (.sl none (its.map Aw)))]∧H'=[]:=by
 refine BY Tryz.func183 Z Z Tryz.ntmps183 Z Z Z fun F hF=>(AF (AJ (U (CJ 1 Z Z Z Z Z Z Z) ?_)));refine AD Z Z (AH (AF (AJ (GL 1 1 (.sl none (its.map Aw)) [] hF Z Z Z (by intro c hc;simp [D.cells] at hc;subst hc;rfl) Z Z Z (J (Zdl Z Z) (AD Z Z (AH (Af ?_))))))));exact ⟨_,[],[],Ae rfl,rfl,rfl,rfl,rfl⟩
abbrev hV (q:List AT):Hp:=[(920,[.rowD 49 6 (q.map Aw)]),(1,[.blk 29 [.own 920 0 q.length]])]
def UA (q:List AT) (x:AT):List AT×Bool:=(q++ [x],true)
theorem Rq:∀(l q:List AT),CA UA q l=q++l
 | [],q=>by simp [CA]
 | x::l,q=>by rw [Td];show (if true=true then CA UA (q++ [x]) l else _)=_;rw [if_pos rfl,Rq l];simp
theorem PB {P:Program} {l:Nat} {H:List AT ->Hp} {n:Nat} (hY:∀q x,q.length<n ->Eg P l (encI x) (H q) fun v H'=>v= .d (.raw (.bool true))∧H'=H (q++ [x])):∀(xs q:List AT),q.length+xs.length≤n ->Cv P l encI H UA q xs
 | [],_,_=>trivial
 | x::xs,q,h=>⟨hY q x (by simp at h;omega),fun _=>PB hY xs (q++ [x]) (by simp at h⊢;omega)⟩
theorem Yo (its:List AT) (hits:its.length≤1000000):A8 Tryz.prog 239 [.d (.sl (some true) []),.fn 212 [.d (.ptr (.sl none (its.map Aw)))]] [] fun r H'=>r= .own 920 0 its.length∧H'=[(920,[.rowD 49 6 (its.map Aw)])]:=by
 refine Hy Tryz.func239 Z Z Tryz.ntmps239 Z Z Z fun F hF hFl=>(AF (AJ (U (CJ 1 Z Z Z Z Z Z Z) ?_)));refine AD Z Z (AH (AF (AF (Yx 1 0 0 920 I5 Z Z Z Z Z Z Z (AJ (AC Z Z (AH (Au ?_))))))));refine QW [2,6] rfl ?_;refine MR (γ:=Unit) hFl 900 Z Z Z Z Z [1,920] (CHr:=hV []) (fun _=>True) (fun _=>hV its) (fun _=> .ready) (fun _=>none) ⟨rfl,rfl,trivial⟩ Z Z Z (fun _=>rfl) (fun _=>rfl) rfl (fun _ _=>by simp) (fun _ _=>⟨rfl,rfl⟩) [920,1] hF Z Z (fun _ _=>rfl) (fun l A B hA hB=>?_) (fun _ _=>?_)
 ·refine (seqV_c its hits l (fun q:List AT=>(900,[.loop ⟨l,13,[(2,.ptr 1 0 0),(6,.fn 212 [.d (.ptr (.sl none (its.map Aw)))])],.ready,none, #[7],A,B⟩])::hV q) [900,920,1] UA [] (fun _=>rfl) (fun _=>rfl) (fun _=>rfl) (fun _=>rfl) (fun _=>rfl) rfl ?_).mono (fun r H' ⟨e1,e2⟩=>⟨e1,(),trivial,by rw [e2,Rq];rfl⟩);refine PB (n:=its.length) (fun q x hq=>?_) its [] (by simp);refine Jb (lf:=900) Z Z Z Z fun F hF hr=>?_;show By _ _ A _ _;rw [hA];refine AJ (U (Cm 2 Da Z Z Z Z) (U (Bj Z Z Z Z Z Z Z Br) (AH (⟨rfl,_,_,rfl,rfl,rfl,rfl,?_⟩))));show By _ _ B _ _;rw [hB];refine Au (AJ ?_)
  first | refine J (A0 Z Z Bf rfl) ?_ | refine J (AY Z Z Z Bf rfl) ?_ | refine J (AZ Z Z (rfl) rfl Bf rfl) ?_
  first | refine J (An Z Z A7 rfl) ?_ | refine J (Ao Z Z A7 Z Z Z) ?_ | refine J (Ap Z Z (rfl) rfl A7 rfl) ?_
  refine U (Fg 30 I5 Z Z Z Z Z Z Z Z) ?_
  first | refine U (Ib (q) ([x]) Z Z Z Z Z Z Z Z I5 (by simp only [List.length_singleton];omega) Z Z Z Z) ?_ | refine U (Ka (q) ([x]) Z Z Z Z Z Z (fun _=>rfl) I5 (by simp only [List.length_singleton];omega) Z Z Z Z) ?_
  refine U (Bj Z Z Z Z Z Z Z sz29) (AH ?_);exact ⟨none,_,_,[900,920,1],_,rfl,rfl,rfl,rfl,rfl,rfl,rfl,rfl⟩
 ·refine AF (AJ ?_)
  first | refine J (A0 Z Z Bf rfl) ?_ | refine J (AY Z Z Z Bf rfl) ?_ | refine J (AZ Z Z (rfl) rfl Bf rfl) ?_
  refine AD Z Z (AH (Af ?_));exact ⟨_,[920],_,Ae rfl,rfl,rfl,rfl,rfl⟩
theorem insO_perm (l:List AT) (x:AT):(Nz l x).Perm (x::l):=by
 induction l with
 | nil=>exact List.Perm.refl _
 | cons a l ih=>
  simp only [Nz];split
  ·exact List.Perm.refl _
  ·exact (List.Perm.cons a ih).trans (List.Perm.swap x a l)
theorem Rh {l:List AT} (h:l.Pairwise fun a b=>¬Iz b a<0) (x:AT):(Nz l x).Pairwise fun a b=>¬Iz b a<0:=by
 induction l with
 | nil=>simp [Nz]
 | cons a l ih=>
  rw [List.pairwise_cons] at h;simp only [Nz]
  split
  ·rename_i hall
   exact List.pairwise_cons.2 ⟨fun y hy=>by have h1:=hall y hy;have h2:=EE.anti x y;omega,List.pairwise_cons.2 h⟩
  ·rename_i hn
   refine List.pairwise_cons.2 ⟨fun y hy=>?_,ih h.2⟩;rcases List.mem_cons.1 ((insO_perm l x).mem_iff.1 hy) with rfl | hy
   ·intro hlt;refine hn fun z hz=>?_;rcases List.mem_cons.1 hz with rfl | hz
    ·exact hlt
    ·have h1:=h.1 z hz;have h2:=EE.anti a z
     by_cases e:Iz a z=0
     ·have h3:=EE.eqv a z y e;have h4:=EE.anti a y;have h5:=EE.anti z y;omega
     ·exact EE.trans _ _ _ hlt (by omega)
   ·exact h.1 y hy
theorem S2 (l:List AT):(sortO l).Perm l:=by
 induction l using ZB with
 | h0=>exact List.Perm.refl _
 | h1 l x ih=>
  rw [Iq];exact (insO_perm _ x).trans ((List.Perm.cons x ih).trans (List.perm_append_comm (l₁:=[x]) (l₂:=l)))
theorem Jn (l:List AT):(sortO l).Pairwise fun a b=>¬Iz b a<0:=by
 induction l using ZB with
 | h0=>exact List.Pairwise.nil
 | h1 l x ih=>rw [Iq];exact Rh ih x
theorem Va {a b:AT} (h:Iz a b=0):a.sq=b.sq:=by
 unfold Iz at h;simp only [Bk] at h
 split at h
 ·split at h
  ·rename_i h2;exact IY.1 h2
  ·contradiction
 ·contradiction
theorem OL {l:List AT} (hn:(l.map AT.sq).Nodup) (h:l.Pairwise fun a b=>¬Iz b a<0):l.Pairwise fun a b=>Iz a b<0:=by
 rw [List.Nodup,List.pairwise_map] at hn;refine (h.and hn).imp fun {a b} ⟨g1,g2⟩=>?_;have h1:=EE.anti a b;have h2:Iz a b≠0:=fun e=>g2 (Va e);omega
theorem US {its ys:List AT} (hn:(its.map AT.sq).Nodup) (h1:ys.Perm its) (h2:ys.Pairwise fun a b=>¬Iz b a<0):ys=sortO its:=
 Di (R:=fun a b=>Iz a b<0) (fun x=>by rw [EE.refl];omega) (fun x y z=>EE.trans x y z) (OL ((h1.map _).nodup_iff.2 hn) h2) (OL (((S2 its).map _).nodup_iff.2 hn) (Jn its)) fun x=>by rw [h1.mem_iff,(S2 its).mem_iff]
theorem YR (x:AT):∃cs,Aw x= .agg cs:=⟨_,rfl⟩
abbrev seqA (its:List AT):AV:= .fn 212 [.d (.ptr (.sl none (its.map Aw)))]
theorem WG (its:List AT) (hits:its.length≤1000000):A8 Tryz.prog 211 [seqA its] [] fun r H'=>r= .own 920 0 its.length∧H'=[(920,[.rowD 49 6 (its.map Aw)])]:=by
 refine BY Tryz.func211 Z Z Tryz.ntmps211 Z Z Z fun F hF=>(AF (AJ ?_));refine AD Z Z (AH (AF (AJ (AC Z Z (U (HQ (Yo its hits) rfl [920] ⟨rfl,trivial⟩ Z Z Z Z Z Z Z Z Z) (AD Z Z (AH (Af ?_))))))));exact ⟨_,[920],_,Ae rfl,rfl,rfl,rfl,rfl⟩
theorem VM (its:List AT) (hits:its.length≤1000000) (hn:(its.map AT.sq).Nodup):AU Tryz.prog 182 [seqA its,.d (.raw (.func (.func 184) #[] #[]))] (.sl none ((sortO its).map Aw)):=by
 refine BY Tryz.func182 Z Z Tryz.ntmps182 Z Z Z fun F hF=>(AF (AJ (AD Z Z (AH (AF ?_)))));refine AJ (AC Z Z (U (HQ (WG its hits) rfl [920] ⟨rfl,trivial⟩ Z Z Z Z Z Z Z Z Z) (AD Z Z (AH (AF (AJ (AC Z Z (AC Z Z ?_))))))));refine U (P4 laysI (k:=6) (by decide) Tryz.isAgg49 Tryz.sizeOf49 Tryz.func184 Z Z YR Iz EE.swo its (sortO its) (by omega) (fun x _ y _=>order_p x y) (fun ys g1 g2=>US hn g1 g2) Z Z Z QH Z Z Z Z Z) (AH (AF (WV (emb:=Aw) 5 920 (sortO its) Z Z Z (ON its).symm Z Z Z (AJ (AC Z Z (AD Z Z (AH (Af ?_))))))));exact ⟨_,[],[],Ae rfl,rfl,rfl,rfl,rfl⟩
theorem He {l:List AT} (h:D7 l=0):(l.map AT.sq).Nodup:=by
 have h0:=PP.1 h;rw [List.Nodup,List.pairwise_map,List.pairwise_iff_getElem];intro i j hi hj hij e;have:=h0 j (List.mem_range.2 hj);unfold NR at this;rw [Bg itm0 hj] at this
 split at this
 ·contradiction
 ·split at this
  ·cases this
  ·rename_i hn
   exact hn (.inr (NH hj hij e))
theorem Ia {p:Prb} (h:Ak p=0):Ce p.ro=0∧D7 p.it=0∧HB p.it=0:=by
 unfold Ak at h
 split at h; · cases h
 have h3:=Hi h;exact ⟨h3 _ (by simp),h3 _ (by simp),h3 _ (by simp)⟩
def ordP (p:Prb):List AT:=if Ak p=0 then sortO p.it else []
theorem Kt (p:Prb) (hb:Cz p):AU Tryz.prog 140 [.d (CI p)] (.sl none ((ordP p).map Aw)):=by
 have hck:=FJ p hb;obtain ⟨_,g2,_⟩:=hb
 by_cases hE:Ak p=0
 ·rw [hE] at hck;have hR:ordP p=sortO p.it:=if_pos hE;rw [hR];refine BY Tryz.func140 Z Z Tryz.ntmps140 Z Z Z fun F hF=>(AF (AJ (U (CJ 1 Z Z Z Z Z Z Z) (AD Z Z (AH (AF (AF (AJ ?_))))))))
  first | refine J (An Z Z AW rfl) ?_ | refine J (Ao Z Z AW Z Z Z) ?_ | refine J (Ap Z Z (rfl) rfl AW rfl) ?_
  refine J (BF (hck) Z Z) ?_
  first | refine J (E9 Z Z Z) ?_ | refine J (Ed Z Z Z) ?_ | refine J (EU Z Z Z) ?_ | refine J (Ea Tryz.underlying34 Z Z Z) ?_ | refine J (Ec Tryz.underlying34 Z Z Z) ?_ | refine J (st_neqN Tryz.underlying34 Z Z) ?_ | refine J (Eb Tryz.underlying34 Z Z Z) ?_ | refine J (st_neqFN Tryz.underlying34 Z Z) ?_
  refine AH (Ey rfl ((by decide)) (Am (AF (AJ ?_))))
  first | refine J (AO rfl Bw Z Z Z) ?_ | refine J (AQ rfl Bw Z Z Z) ?_ | refine J (AR rfl Bw Z Z Z) ?_ | refine J (AP rfl Bw Z Z Z) ?_ | refine J (AN rfl Bw Z Z Z) ?_
  first | refine J (A0 Z Z Bf rfl) ?_ | refine J (AY Z Z Z Bf rfl) ?_ | refine J (AZ Z Z (rfl) rfl Bf rfl) ?_
  refine U (HQ (W9 p.it) rfl [] trivial Z Z Z Z Z Z Z Z Z) (J (BF (VM p.it (by omega) (He (Ia hE).2.1)) Z Z) (AD Z Z (AH (Af ?_))));exact ⟨_,[],[],Ae rfl,rfl,rfl,rfl,rfl⟩
 ·have hR:ordP p=[]:=if_neg hE;rw [hR];refine BY Tryz.func140 Z Z Tryz.ntmps140 Z Z Z fun F hF=>?_;refine AF (AJ (U (CJ 1 Z Z Z Z Z Z Z) (AD Z Z (S4 2 rfl (AH (AF (AF (AJ ?_))))))))
  first | refine J (An Z Z AW rfl) ?_ | refine J (Ao Z Z AW Z Z Z) ?_ | refine J (Ap Z Z (rfl) rfl AW rfl) ?_
  refine J (BF (hck) Z Z) ?_
  first | refine J (E9 Z Z Z) ?_ | refine J (Ed Z Z Z) ?_ | refine J (EU Z Z Z) ?_ | refine J (Ea Tryz.underlying34 Z Z Z) ?_ | refine J (Ec Tryz.underlying34 Z Z Z) ?_ | refine J (st_neqN Tryz.underlying34 Z Z) ?_ | refine J (Eb Tryz.underlying34 Z Z Z) ?_ | refine J (st_neqFN Tryz.underlying34 Z Z) ?_
  refine AH (Dg rfl ((by simpa using hE)) (AF (AJ (AD Z Z (S4 2 rfl (AH (Af ?_)))))));exact ⟨_,[],[],Ae rfl,rfl,rfl,rfl,rfl⟩
theorem FK (p:Prb):(ordP p).length≤p.it.length:=by unfold ordP;split<;>simp [ON]
theorem H8 {p:Prb} {i:AT} (h:i∈ordP p):i∈p.it:=by
 unfold ordP at h;split at h
 ·exact (S2 _).mem_iff.1 h
 ·cases h
theorem L4 (p:Prb) (hb:Cz p):AU Tryz.prog 79 [.d (CI p)] (.sl none (((ordP p).map AT.id).map AG)):=by
 have hso:=Kt p hb;have hlen:=FK p;have hb2:=hb.2.1
 obtain ⟨S,hS⟩:∃S,ordP p=S:=⟨_,rfl⟩
 rw [hS] at hso hlen⊢;refine BY Tryz.func79 Z Z Tryz.ntmps79 Z Z Z fun F hF=>(AF (AJ (U (CJ 1 Z Z Z Z Z Z Z) (AD Z Z ?_))));refine AH (AF (AJ (AD Z Z (AH (AF (AF (EO 3 900 DA Z Z Z Z (AJ ?_))))))))
 first | refine J (An Z Z AW rfl) ?_ | refine J (Ao Z Z AW Z Z Z) ?_ | refine J (Ap Z Z (rfl) rfl AW rfl) ?_
 refine J (BF (hso) Z Z) ?_
 first | refine J (Cc rfl Tryz.underlying29 rfl) ?_ | refine J (C8 Z Z Tryz.underlying29 rfl) ?_ | refine J (Cd rfl Tryz.underlying29 rfl) ?_ | refine J (Cb rfl Tryz.underlying29 rfl) ?_ | refine J (CW rfl Tryz.underlying29 rfl) ?_ | refine J (C9 rfl Tryz.underlying29 rfl) ?_
 refine AC Z Z (AH (Au (De (α:=Nat×List Int) (fun q=>⟨20,[(3,(.own 900 0 q.2.length)),(7,(.d (.sl none (S.map Aw)))),(8,(.d (AG (S.length:Int)))),(9,(.d (AG (q.1:Int))))],[(900,[.rowD 3 1 (q.2.map AG)])]⟩) (fun q=>q.1≤S.length∧q.2=(S.take q.1).map AT.id) (fun q=>S.length - q.1) ((0,[])) (⟨Nat.zero_le _,rfl⟩) (BP hF [900] Z Z ⟨rfl,rfl,rfl,rfl,trivial⟩) ?_)));rintro ⟨k,acc⟩ ⟨hk0,hA⟩;dsimp only at hk0 hA⊢;refine AF (AJ ?_)
 first | refine J (C7 Z Z Z) ?_ | refine J (Ca Z Z Z) ?_
 refine AH (AF ?_)
 first | refine BJ rfl (fun h10=>?_) (fun h10=>?_) | refine BB rfl (fun h10=>?_) (fun h10=>?_)
 ·have hk1:k<S.length:=DZ h10;refine Am (AF (Au (AF (AJ ?_))));have hal:acc.length≤100000:=by rw [hA,List.length_map,List.length_take];omega
  first | refine J (CY (k) Z Z (rfl) (A2 hk1) Tryz.underlying29 rfl Br rfl) ?_ | refine J (CZ (k) Z Z (rfl) (A2 hk1) rfl Tryz.underlying29 Br rfl) ?_
  first | refine J (An Z Z A7 rfl) ?_ | refine J (Ao Z Z A7 Z Z Z) ?_ | refine J (Ap Z Z (rfl) rfl A7 rfl) ?_
  refine U (Cm 2 Da Z Z Z Z) (U (Bj Z Z Z Z Z Z Z Br) (AH (AJ (AC Z Z ?_))))
  first | refine J (AO rfl B4 Z Z Z) ?_ | refine J (AQ rfl B4 Z Z Z) ?_ | refine J (AR rfl B4 Z Z Z) ?_ | refine J (AP rfl B4 Z Z Z) ?_ | refine J (AN rfl B4 Z Z Z) ?_
  first | refine J (A0 Z Z A9 rfl) ?_ | refine J (AY Z Z Z A9 rfl) ?_ | refine J (AZ Z Z (rfl) rfl A9 rfl) ?_
  refine U (Fg 3 DA Z Z Z Z Z Z Z Z) ?_
  first | refine U (Ib (acc) ([S[k].id]) Z Z Z Z Z Z Z Z DA (by simp only [List.length_singleton];omega) Z Z Z Z) ?_ | refine U (Ka (acc) ([S[k].id]) Z Z Z Z Z Z (fun _=>rfl) DA (by simp only [List.length_singleton];omega) Z Z Z Z) ?_
  refine AD Z Z (AH (AJ (J (Bi Z Z (A6 (k+1) (by omega)) rfl) (AC Z Z (AH ?_)))));exact ⟨(k+1,_),⟨by show k+1≤_;omega,by show _=(S.take (k+1)).map AT.id;rw [CU hk1,←hA]⟩,by show S.length - (k+1)<S.length - k;omega,BP hF [900] rfl (rfl) ⟨rfl,rfl,rfl,rfl,trivial⟩⟩
 ·refine C6 (AF (WV (emb:=AG) 3 900 acc Z Z Z Z Z Z Z (AJ (AC Z Z (AD Z Z (AH (Af ?_)))))));exact ⟨_,[],[],Ae rfl,rfl,rfl,by rw [hA,List.take_of_length_le (by have h:=h10;omega)],rfl⟩
theorem UL (p:Prb) (r:A4) (hb:Cz p):AU Tryz.prog 115 [.d (CI p),.d (D5 r)] (.sl none ((qIds (ordP p) r).map AG)):=by
 have hso:=Kt p hb;have hlen:=FK p;have hb2:=hb.2.1;have hmem:∀i∈ordP p,i.po.length≤100000∧i.pa.length≤100000∧i.af.length≤100000:=fun i hi=>hb.2.2 i (H8 hi)
 obtain ⟨S,hS⟩:∃S,ordP p=S:=⟨_,rfl⟩
 rw [hS] at hso hlen hmem⊢;refine BY Tryz.func115 Z Z Tryz.ntmps115 Z Z Z fun F hF=>(AF (AJ (U (CJ 1 Z Z Z Z Z Z Z) (U (CJ 2 Z Z Z Z Z Z Z) (AD Z Z ?_)))));refine AH (AF (AJ (AD Z Z (AH (AF (AF (EO 5 900 DA Z Z Z Z (AJ ?_))))))))
 first | refine J (An Z Z AW rfl) ?_ | refine J (Ao Z Z AW Z Z Z) ?_ | refine J (Ap Z Z (rfl) rfl AW rfl) ?_
 refine J (BF (hso) Z Z) ?_
 first | refine J (Cc rfl Tryz.underlying29 rfl) ?_ | refine J (C8 Z Z Tryz.underlying29 rfl) ?_ | refine J (Cd rfl Tryz.underlying29 rfl) ?_ | refine J (Cb rfl Tryz.underlying29 rfl) ?_ | refine J (CW rfl Tryz.underlying29 rfl) ?_ | refine J (C9 rfl Tryz.underlying29 rfl) ?_
 refine AC Z Z (AH (Au (De (α:=Nat×List Int) (fun q=>⟨26,[(3,(.ptr 2 0 0)),(5,(.own 900 0 q.2.length)),(9,(.d (.sl none (S.map Aw)))),(10,(.d (AG (S.length:Int)))),(11,(.d (AG (q.1:Int))))],[(2,[.blk 53 [.d (AG r.k),.d (As r.acc.o),.d (AG r.acc.k),.d (As r.acc.a),.d (As r.f),.d (As r.t)]]),(900,[.rowD 3 1 (q.2.map AG)])]⟩) (fun q=>q.1≤S.length∧q.2=qIds (S.take q.1) r) (fun q=>S.length - q.1) ((0,[])) (⟨Nat.zero_le _,rfl⟩) (BP hF [2,900] Z Z ⟨rfl,rfl,rfl,rfl,rfl,trivial⟩) ?_)));rintro ⟨k,acc⟩ ⟨hk0,hA⟩;dsimp only at hk0 hA⊢;refine AF (AJ ?_)
 first | refine J (C7 Z Z Z) ?_ | refine J (Ca Z Z Z) ?_
 refine AH (AF ?_)
 first | refine BJ rfl (fun h12=>?_) (fun h12=>?_) | refine BB rfl (fun h12=>?_) (fun h12=>?_)
 ·have hk1:k<S.length:=DZ h12;refine Am (AF (Au (AF (AJ ?_))));have hgi:=hmem _ (List.getElem_mem hk1);have hal:acc.length≤100000:=by rw [hA];unfold qIds;rw [List.length_map];have:=List.length_filter_le (fun i=>decide (CM i r<0)) (S.take k);rw [List.length_take] at this;omega
  first | refine J (CY (k) Z Z (rfl) (A2 hk1) Tryz.underlying29 rfl Br rfl) ?_ | refine J (CZ (k) Z Z (rfl) (A2 hk1) rfl Tryz.underlying29 Br rfl) ?_
  first | refine J (An Z Z A7 rfl) ?_ | refine J (Ao Z Z A7 Z Z Z) ?_ | refine J (Ap Z Z (rfl) rfl A7 rfl) ?_
  refine U (Cm 3 Da Z Z Z Z) (U (Bj Z Z Z Z Z Z Z Br) (AH (AF (AJ ?_))))
  first | refine J (An Z Z A7 rfl) ?_ | refine J (Ao Z Z A7 Z Z Z) ?_ | refine J (Ap Z Z (rfl) rfl A7 rfl) ?_
  first | refine J (An Z Z Ab rfl) ?_ | refine J (Ao Z Z Ab Z Z Z) ?_ | refine J (Ap Z Z (rfl) rfl Ab rfl) ?_
  refine J (BF (KY S[k] r (by omega) (by omega) (by omega)) Z Z) ?_
  first | refine J (C7 Z Z Z) ?_ | refine J (Ca Z Z Z) ?_
  refine AH ?_
  first | refine BJ rfl (fun h18=>?_) (fun h18=>?_) | refine BB rfl (fun h18=>?_) (fun h18=>?_)
  ·refine AJ (AC Z Z ?_)
   first | refine J (AO rfl B4 Z Z Z) ?_ | refine J (AQ rfl B4 Z Z Z) ?_ | refine J (AR rfl B4 Z Z Z) ?_ | refine J (AP rfl B4 Z Z Z) ?_ | refine J (AN rfl B4 Z Z Z) ?_
   first | refine J (A0 Z Z A9 rfl) ?_ | refine J (AY Z Z Z A9 rfl) ?_ | refine J (AZ Z Z (rfl) rfl A9 rfl) ?_
   refine U (Fg 4 DA Z Z Z Z Z Z Z Z) ?_
   first | refine U (Ib (acc) ([S[k].id]) Z Z Z Z Z Z Z Z DA (by simp only [List.length_singleton];omega) Z Z Z Z) ?_ | refine U (Ka (acc) ([S[k].id]) Z Z Z Z Z Z (fun _=>rfl) DA (by simp only [List.length_singleton];omega) Z Z Z Z) ?_
   refine AD Z Z (AH (AJ (J (Bi Z Z (A6 (k+1) (by omega)) rfl) (AC Z Z (AH ?_)))));exact ⟨(k+1,_),⟨by show k+1≤_;omega,by show _=qIds (S.take (k+1)) r;unfold qIds;rw [E7 hk1,if_pos (by simpa using h18),List.map_append,hA];rfl⟩,by show S.length - (k+1)<S.length - k;omega,BP hF [2,900] rfl (rfl) ⟨rfl,rfl,rfl,rfl,rfl,trivial⟩⟩
  ·refine Am (AJ (J (Bi Z Z (A6 (k+1) (by omega)) rfl) (AC Z Z (AH ?_))));exact ⟨(k+1,_),⟨by show k+1≤_;omega,by show _=qIds (S.take (k+1)) r;unfold qIds;rw [E7 hk1,if_neg (by simpa using h18),List.append_nil,hA];rfl⟩,by show S.length - (k+1)<S.length - k;omega,BP hF [2,900] rfl (rfl) ⟨rfl,rfl,rfl,rfl,rfl,trivial⟩⟩
 ·refine C6 (AF (WV (emb:=AG) 5 900 acc Z Z Z Z Z Z Z (AJ (AC Z Z (AD Z Z (AH (Af ?_)))))));exact ⟨_,[],[],Ae rfl,rfl,rfl,by rw [hA,List.take_of_length_le (by have h:=h12;omega)],rfl⟩
def NP (l:List AT) (id:Int):AT×Bool:=match l.find? fun x=>decide (x.id=id) with
 | some x=>(x,true)
 | none=>(itm0,false)
theorem Rg {l:List AT} {id:Int} {k:Nat} (hk:k<l.length) (h0:id∉(l.take k).map AT.id) (h:l[k].id=id):NP l id=(l[k],true):=by
 have:l.find? (fun x=>decide (x.id=id))=some l[k]:=by
  rw [List.find?_eq_some_iff_getElem];refine ⟨by simp [h],k,hk,rfl,fun j hj=>?_⟩;simp only [Bool.not_eq_true',decide_eq_false_iff_not];intro e;exact h0 (NH hk hj e)
 unfold NP;rw [this]
theorem YT {l:List AT} {id:Int} (h:id∉l.map AT.id):NP l id=(itm0,false):=by
 have:l.find? (fun x=>decide (x.id=id))=none:=by
  rw [List.find?_eq_none];intro x hx e;exact h (List.mem_map.2 ⟨x,hx,by simpa using e⟩)
 unfold NP;rw [this]
theorem Vu:∀w O v,AX w O (.agg [AG 0,AG 0,AG 0,.sl (some true) [],.sl (some true) [],.sl (some true) []]) v ->AX w O (Aw itm0) v:=fun w O v h=>h.aggMono rfl (by simp [D.one]) fun i c c' hc hc' v hv=>by
 match i,hc,hc' with
 | 0,hc,hc'=>injection hc with hc;injection hc' with hc';subst hc hc';exact hv
 | 1,hc,hc'=>injection hc with hc;injection hc' with hc';subst hc hc';exact hv
 | 2,hc,hc'=>injection hc with hc;injection hc' with hc';subst hc hc';exact hv
 | 3,hc,hc'=>injection hc with hc;injection hc' with hc';subst hc hc';exact hv.anyNil
 | 4,hc,hc'=>injection hc with hc;injection hc' with hc';subst hc hc';exact hv.anyNil
 | 5,hc,hc'=>injection hc with hc;injection hc' with hc';subst hc hc';exact hv.anyNil
theorem item_p (p:Prb) (id:Int) (hb:Cz p):AU Tryz.prog 80 [.d (CI p),.d (AG id)] (.tup [Aw (NP (ordP p) id).1,BE (NP (ordP p) id).2]):=by
 have hso:=Kt p hb;have hlen:=FK p;have hb2:=hb.2.1;have hmem:∀i∈ordP p,i.po.length≤100000∧i.pa.length≤100000∧i.af.length≤100000:=fun i hi=>hb.2.2 i (H8 hi)
 obtain ⟨S,hS⟩:∃S,ordP p=S:=⟨_,rfl⟩
 rw [hS] at hso hlen hmem⊢;refine BY Tryz.func80 Z Z Tryz.ntmps80 Z Z Z fun F hF=>?_;refine AF (AJ (U (CJ 1 Z Z Z Z Z Z Z) (U (Cm 2 Da Z Z Z Z) (AD Z Z (AH (AF (AF (AJ ?_))))))))
 first | refine J (An Z Z AW rfl) ?_ | refine J (Ao Z Z AW Z Z Z) ?_ | refine J (Ap Z Z (rfl) rfl AW rfl) ?_
 refine J (BF (hso) Z Z) ?_
 first | refine J (Cc rfl Tryz.underlying29 rfl) ?_ | refine J (C8 Z Z Tryz.underlying29 rfl) ?_ | refine J (Cd rfl Tryz.underlying29 rfl) ?_ | refine J (Cb rfl Tryz.underlying29 rfl) ?_ | refine J (CW rfl Tryz.underlying29 rfl) ?_ | refine J (C9 rfl Tryz.underlying29 rfl) ?_
 refine AC Z Z (AH (Au (De (α:=Nat) (fun k=>⟨23,[(1,.d (AG id)),(4,(.ptr 2 0 0)),(9,(.d (.sl none (S.map Aw)))),(10,(.d (AG (S.length:Int)))),(11,(.d (AG (k:Int))))],[(2,[.blk 49 [.d (AG 0),.d (AG 0),.d (AG 0),HP,HP,HP]])]⟩) (fun k=>k≤S.length∧id∉(S.take k).map AT.id) (fun k=>S.length - k) (0) (⟨Nat.zero_le _,by simp⟩) (BP hF [2] Z Z ⟨rfl,rfl,rfl,rfl,rfl,trivial⟩) ?_)));rintro k ⟨hk0,hk⟩;refine AF (AJ ?_)
 first | refine J (C7 Z Z Z) ?_ | refine J (Ca Z Z Z) ?_
 refine AH (AF ?_)
 first | refine BJ rfl (fun h12=>?_) (fun h12=>?_) | refine BB rfl (fun h12=>?_) (fun h12=>?_)
 ·have hk1:k<S.length:=DZ h12;refine Am (AF (Au (AF (AJ ?_))));have hgi:=hmem _ (List.getElem_mem hk1)
  first | refine J (CY (k) Z Z (rfl) (A2 hk1) Tryz.underlying29 rfl Br rfl) ?_ | refine J (CZ (k) Z Z (rfl) (A2 hk1) rfl Tryz.underlying29 Br rfl) ?_
  first | refine J (An Z Z A7 rfl) ?_ | refine J (Ao Z Z A7 Z Z Z) ?_ | refine J (Ap Z Z (rfl) rfl A7 rfl) ?_
  refine U (Cm 3 Da Z Z Z Z) (U (Bj Z Z Z Z Z Z Z Br) (AH (AF (AJ ?_))))
  first | refine J (AO rfl B4 Z Z Z) ?_ | refine J (AQ rfl B4 Z Z Z) ?_ | refine J (AR rfl B4 Z Z Z) ?_ | refine J (AP rfl B4 Z Z Z) ?_ | refine J (AN rfl B4 Z Z Z) ?_
  first | refine J (A0 Z Z A9 rfl) ?_ | refine J (AY Z Z Z A9 rfl) ?_ | refine J (AZ Z Z (rfl) rfl A9 rfl) ?_
  refine AC Z Z ?_
  first | refine J (EP Z Z Z) ?_ | refine J (EW Z Z Z) ?_ | refine J (EA Z Z Z) ?_ | refine J (EQ Tryz.underlying3 Z Z Z) ?_ | refine J (ET Tryz.underlying3 Z Z Z) ?_ | refine J (ES Tryz.underlying3 Z Z) ?_ | refine J (ER Tryz.underlying3 Z Z Z) ?_ | refine J (EV Tryz.underlying3 Z Z) ?_
  refine AH ?_
  first | refine BJ rfl (fun h18=>?_) (fun h18=>?_) | refine BB rfl (fun h18=>?_) (fun h18=>?_)
  ·refine AF (AJ ?_)
   first | refine J (An Z Z A7 rfl) ?_ | refine J (Ao Z Z A7 Z Z Z) ?_ | refine J (Ap Z Z (rfl) rfl A7 rfl) ?_
   refine J (BF (clone_p S[k] (by omega) (by omega) (by omega)) Z Z) (U (Bj Z Z Z Z Z Z Z Br) (AD Z Z (AH (Af ?_))));exact ⟨_,[],[],Ae rfl,rfl,rfl,by rw [Rg hk1 hk h18],rfl⟩
  ·refine Am (AJ (J (Bi Z Z (A6 (k+1) (by omega)) rfl) (AC Z Z (AH ?_))));exact ⟨k+1,⟨by show k+1≤_;omega,Ve hk1 hk h18⟩,by show S.length - (k+1)<S.length - k;omega,BP hF [2] rfl (rfl) ⟨rfl,rfl,rfl,rfl,rfl,trivial⟩⟩
 ·refine C6 (AF (AJ (J (Cu Da X0 Z Z Z) (MI 22 (Aw itm0) rfl Vu (U (Bj Z Z Z Z Z Z Z Br) (AD Z Z (AH (Af ?_))))))));exact ⟨_,[],[],Ae rfl,rfl,rfl,by rw [YT (by rw [List.take_of_length_le (by have h:=h12;omega)] at hk;exact hk)],rfl⟩
theorem ML {l:List AT} (hn:(l.map AT.id).Nodup) {x y:AT} (hx:x∈l) (hy:y∈l) (h:x.id=y.id):x=y:=by
 induction l with
 | nil=>cases hx
 | cons a l ih=>
  rw [List.map_cons,List.nodup_cons] at hn;rcases List.mem_cons.1 hx with e1 | hx'<;>rcases List.mem_cons.1 hy with e2 | hy'
  ·rw [e1,e2]
  ·exact absurd (List.mem_map.2 ⟨y,hy',by rw [←h,e1]⟩) hn.1
  ·exact absurd (List.mem_map.2 ⟨x,hx',by rw [h,e2]⟩) hn.1
  ·exact ih hn.2 hx' hy'
theorem S0 {l:List AT} (h:D7 l=0):(l.map AT.id).Nodup:=by
 have h0:=PP.1 h;rw [List.Nodup,List.pairwise_map,List.pairwise_iff_getElem];intro i j hi hj hij e;have:=h0 j (List.mem_range.2 hj);unfold NR at this;rw [Bg itm0 hj] at this
 split at this
 ·contradiction
 ·split at this
  ·cases this
  ·rename_i hn
   exact hn (.inl (NH hj hij e))
theorem own_p (p:Prb) (h:Sml p):AU Tryz.prog 9 [.d (CI p)] (CI p):=by
 obtain ⟨g1,g2,g3⟩:=h;refine BY Tryz.func9 Z Z Tryz.ntmps9 Z Z Z fun F hF=>(AF (AJ (U (CJ 1 Z Z Z Z Z Z Z) (U (Cm 2 HS Z Z Z Z) (AH (AF (AJ (U (Cm 3 HS Z Z Z Z) ?_))))))));refine AH (AF (AF (Yx 3 0 0 901 Pa Z Z Z Z Z Z Z (AJ (AD Z Z (AH (Au (De (α:=List Roo) (fun acc=>⟨51,[(1,(.ptr 1 0 0)),(2,(.ptr 2 0 0)),(3,(.ptr 3 0 0)),(4,(.d (AG (acc.length:Int))))],[(901,[.rowD 74 7 (acc.map DT)]),(1,[Ml 25 p]),(2,[.blk 31 [HP,HP]]),(3,[.blk 31 [.own 901 0 acc.length,HP]])]⟩) (fun acc=>acc=p.ro.take acc.length∧acc.length≤p.ro.length) (fun acc=>p.ro.length - acc.length) ([]) (⟨by simp,Nat.zero_le _⟩) (BP hF [901,1,2,3] Z Z ⟨rfl,rfl,rfl,rfl,trivial⟩) ?_))))))));rintro acc ⟨hI,hk0⟩;refine AF (AF (AJ (AC Z Z ?_)))
 first | refine J (AO rfl J0 Z Z Z) ?_ | refine J (AQ rfl J0 Z Z Z) ?_ | refine J (AR rfl J0 Z Z Z) ?_ | refine J (AP rfl J0 Z Z Z) ?_ | refine J (AN rfl J0 Z Z Z) ?_
 first | refine J (A0 Z Z HO rfl) ?_ | refine J (AY Z Z Z HO rfl) ?_ | refine J (AZ Z Z (rfl) rfl HO rfl) ?_
 first | refine J (Cc rfl Tryz.underlying22 rfl) ?_ | refine J (C8 Z Z Tryz.underlying22 rfl) ?_ | refine J (Cd rfl Tryz.underlying22 rfl) ?_ | refine J (Cb rfl Tryz.underlying22 rfl) ?_ | refine J (CW rfl Tryz.underlying22 rfl) ?_ | refine J (C9 rfl Tryz.underlying22 rfl) ?_
 first | refine J (C7 Z Z Z) ?_ | refine J (Ca Z Z Z) ?_
 refine AH ?_
 first | refine BJ rfl (fun h10=>?_) (fun h10=>?_) | refine BB rfl (fun h10=>?_) (fun h10=>?_)
 ·have hk1:acc.length<p.ro.length:=DZ h10;refine Am (AF (Au (G8 [[],[0],[],[2],[],[2,3,4],[2,3,4,5],[2,3,4,5,6],[2,3,4,5,6,7],[],[9],[],[9,10,11],[9,10,11,12],[9,10,11,12,13],[2,3,4,5,6,7,8,9,10,11,12,13,14],[2,3,4,5,6,7,8,9,10,11,12,13,14,15],[0,1,2,3,4,5,6,7,8,9,10,11,12,13,14,15,16],[0,1,2,3,4,5,6,7,8,9,10,11,12,13,14,15,16,17],[0,1,2,3,4,5,6,7,8,9,10,11,12,13,14,15,16,17,18]] BC rfl (Hq ?_))))
  first | refine AE [3] [] Z Z (fun _=>AB (AO rfl G5 Z Z Z)) ?_ | refine AI [3] Z Z (fun _=>AB (AO rfl G5 Z Z Z)) ?_ | refine AE [3] [] Z Z (fun _=>AB (AQ rfl G5 Z Z Z)) ?_ | refine AI [3] Z Z (fun _=>AB (AQ rfl G5 Z Z Z)) ?_ | refine AE [3] [] Z Z (fun _=>AB (AR rfl G5 Z Z Z)) ?_ | refine AI [3] Z Z (fun _=>AB (AR rfl G5 Z Z Z)) ?_ | refine AE [3] [] Z Z (fun _=>AB (AP rfl G5 Z Z Z)) ?_ | refine AI [3] Z Z (fun _=>AB (AP rfl G5 Z Z Z)) ?_ | refine AE [3] [] Z Z (fun _=>AB (AN rfl G5 Z Z Z)) ?_ | refine AI [3] Z Z (fun _=>AB (AN rfl G5 Z Z Z)) ?_
  first | refine AE [13] [] Z Z (fun _=>AB (A0 Z Z Fn rfl)) ?_ | refine AI [13] Z Z (fun _=>AB (A0 Z Z Fn rfl)) ?_ | refine AE [13] [] Z Z (fun _=>AB (AY Z Z Z Fn rfl)) ?_ | refine AI [13] Z Z (fun _=>AB (AY Z Z Z Fn rfl)) ?_ | refine AE [13] [] Z Z (fun _=>AB (AZ Z Z (rfl) rfl Fn rfl)) ?_ | refine AI [13] Z Z (fun _=>AB (AZ Z Z (rfl) rfl Fn rfl)) ?_
  first | refine AE [1] [] Z Z (fun _=>AB (AO rfl J0 Z Z Z)) ?_ | refine AI [1] Z Z (fun _=>AB (AO rfl J0 Z Z Z)) ?_ | refine AE [1] [] Z Z (fun _=>AB (AQ rfl J0 Z Z Z)) ?_ | refine AI [1] Z Z (fun _=>AB (AQ rfl J0 Z Z Z)) ?_ | refine AE [1] [] Z Z (fun _=>AB (AR rfl J0 Z Z Z)) ?_ | refine AI [1] Z Z (fun _=>AB (AR rfl J0 Z Z Z)) ?_ | refine AE [1] [] Z Z (fun _=>AB (AP rfl J0 Z Z Z)) ?_ | refine AI [1] Z Z (fun _=>AB (AP rfl J0 Z Z Z)) ?_ | refine AE [1] [] Z Z (fun _=>AB (AN rfl J0 Z Z Z)) ?_ | refine AI [1] Z Z (fun _=>AB (AN rfl J0 Z Z Z)) ?_
  first | refine AE [15] [] Z Z (fun _=>AB (A0 Z Z HO rfl)) ?_ | refine AI [15] Z Z (fun _=>AB (A0 Z Z HO rfl)) ?_ | refine AE [15] [] Z Z (fun _=>AB (AY Z Z Z HO rfl)) ?_ | refine AI [15] Z Z (fun _=>AB (AY Z Z Z HO rfl)) ?_ | refine AE [15] [] Z Z (fun _=>AB (AZ Z Z (rfl) rfl HO rfl)) ?_ | refine AI [15] Z Z (fun _=>AB (AZ Z Z (rfl) rfl HO rfl)) ?_
  first | refine AE [4] [] Z Z (fun _=>AB (B7 Z Z)) ?_ | refine AI [4] Z Z (fun _=>AB (B7 Z Z)) ?_
  first | refine AE [16,17] [] Z Z (fun _=>AB (CY (acc.length) Z Z (rfl) (A2 hk1) Tryz.underlying22 rfl Qf rfl)) ?_ | refine AI [16,17] Z Z (fun _=>AB (CY (acc.length) Z Z (rfl) (A2 hk1) Tryz.underlying22 rfl Qf rfl)) ?_ | refine AE [16,17] [] Z Z (fun _=>AB (CZ (acc.length) Z Z (rfl) (A2 hk1) rfl Tryz.underlying22 Qf rfl)) ?_ | refine AI [16,17] Z Z (fun _=>AB (CZ (acc.length) Z Z (rfl) (A2 hk1) rfl Tryz.underlying22 Qf rfl)) ?_
  first | refine AE [18] [] Z Z (fun _=>AB (AO rfl Ft Z Z Z)) ?_ | refine AI [18] Z Z (fun _=>AB (AO rfl Ft Z Z Z)) ?_ | refine AE [18] [] Z Z (fun _=>AB (AQ rfl Ft Z Z Z)) ?_ | refine AI [18] Z Z (fun _=>AB (AQ rfl Ft Z Z Z)) ?_ | refine AE [18] [] Z Z (fun _=>AB (AR rfl Ft Z Z Z)) ?_ | refine AI [18] Z Z (fun _=>AB (AR rfl Ft Z Z Z)) ?_ | refine AE [18] [] Z Z (fun _=>AB (AP rfl Ft Z Z Z)) ?_ | refine AI [18] Z Z (fun _=>AB (AP rfl Ft Z Z Z)) ?_ | refine AE [18] [] Z Z (fun _=>AB (AN rfl Ft Z Z Z)) ?_ | refine AI [18] Z Z (fun _=>AB (AN rfl Ft Z Z Z)) ?_
  first | refine AE [19] [] Z Z (fun _=>AB (An Z Z VT rfl)) ?_ | refine AI [19] Z Z (fun _=>AB (An Z Z VT rfl)) ?_ | refine AE [19] [] Z Z (fun _=>AB (Ao Z Z VT Z Z Z)) ?_ | refine AI [19] Z Z (fun _=>AB (Ao Z Z VT Z Z Z)) ?_ | refine AE [19] [] Z Z (fun _=>AB (Ap Z Z (rfl) rfl VT rfl)) ?_ | refine AI [19] Z Z (fun _=>AB (Ap Z Z (rfl) rfl VT rfl)) ?_
  first | refine AE [20] [] Z Z (fun _=>AB (BF (RG p.ro[acc.length].r) Z Z)) ?_ | refine AI [20] Z Z (fun _=>AB (BF (RG p.ro[acc.length].r) Z Z)) ?_
  first | refine AE [1] [] Z Z (fun _=>AB (AO rfl J0 Z Z Z)) ?_ | refine AI [1] Z Z (fun _=>AB (AO rfl J0 Z Z Z)) ?_ | refine AE [1] [] Z Z (fun _=>AB (AQ rfl J0 Z Z Z)) ?_ | refine AI [1] Z Z (fun _=>AB (AQ rfl J0 Z Z Z)) ?_ | refine AE [1] [] Z Z (fun _=>AB (AR rfl J0 Z Z Z)) ?_ | refine AI [1] Z Z (fun _=>AB (AR rfl J0 Z Z Z)) ?_ | refine AE [1] [] Z Z (fun _=>AB (AP rfl J0 Z Z Z)) ?_ | refine AI [1] Z Z (fun _=>AB (AP rfl J0 Z Z Z)) ?_ | refine AE [1] [] Z Z (fun _=>AB (AN rfl J0 Z Z Z)) ?_ | refine AI [1] Z Z (fun _=>AB (AN rfl J0 Z Z Z)) ?_
  first | refine AE [22] [] Z Z (fun _=>AB (A0 Z Z HO rfl)) ?_ | refine AI [22] Z Z (fun _=>AB (A0 Z Z HO rfl)) ?_ | refine AE [22] [] Z Z (fun _=>AB (AY Z Z Z HO rfl)) ?_ | refine AI [22] Z Z (fun _=>AB (AY Z Z Z HO rfl)) ?_ | refine AE [22] [] Z Z (fun _=>AB (AZ Z Z (rfl) rfl HO rfl)) ?_ | refine AI [22] Z Z (fun _=>AB (AZ Z Z (rfl) rfl HO rfl)) ?_
  first | refine AE [4] [] Z Z (fun _=>AB (B7 Z Z)) ?_ | refine AI [4] Z Z (fun _=>AB (B7 Z Z)) ?_
  first | refine AE [23,24] [] Z Z (fun _=>AB (CY (acc.length) Z Z (rfl) (A2 hk1) Tryz.underlying22 rfl Qf rfl)) ?_ | refine AI [23,24] Z Z (fun _=>AB (CY (acc.length) Z Z (rfl) (A2 hk1) Tryz.underlying22 rfl Qf rfl)) ?_ | refine AE [23,24] [] Z Z (fun _=>AB (CZ (acc.length) Z Z (rfl) (A2 hk1) rfl Tryz.underlying22 Qf rfl)) ?_ | refine AI [23,24] Z Z (fun _=>AB (CZ (acc.length) Z Z (rfl) (A2 hk1) rfl Tryz.underlying22 Qf rfl)) ?_
  first | refine AE [25] [] Z Z (fun _=>AB (AO rfl Fs Z Z Z)) ?_ | refine AI [25] Z Z (fun _=>AB (AO rfl Fs Z Z Z)) ?_ | refine AE [25] [] Z Z (fun _=>AB (AQ rfl Fs Z Z Z)) ?_ | refine AI [25] Z Z (fun _=>AB (AQ rfl Fs Z Z Z)) ?_ | refine AE [25] [] Z Z (fun _=>AB (AR rfl Fs Z Z Z)) ?_ | refine AI [25] Z Z (fun _=>AB (AR rfl Fs Z Z Z)) ?_ | refine AE [25] [] Z Z (fun _=>AB (AP rfl Fs Z Z Z)) ?_ | refine AI [25] Z Z (fun _=>AB (AP rfl Fs Z Z Z)) ?_ | refine AE [25] [] Z Z (fun _=>AB (AN rfl Fs Z Z Z)) ?_ | refine AI [25] Z Z (fun _=>AB (AN rfl Fs Z Z Z)) ?_
  first | refine AE [26] [] Z Z (fun _=>AB (A0 Z Z Be rfl)) ?_ | refine AI [26] Z Z (fun _=>AB (A0 Z Z Be rfl)) ?_ | refine AE [26] [] Z Z (fun _=>AB (AY Z Z Z Be rfl)) ?_ | refine AI [26] Z Z (fun _=>AB (AY Z Z Z Be rfl)) ?_ | refine AE [26] [] Z Z (fun _=>AB (AZ Z Z (rfl) rfl Be rfl)) ?_ | refine AI [26] Z Z (fun _=>AB (AZ Z Z (rfl) rfl Be rfl)) ?_
  first | refine AE [21,27] [] Z Z (fun _=>AB (Cu Lp Qz Z Z Z)) ?_ | refine AI [21,27] Z Z (fun _=>AB (Cu Lp Qz Z Z Z)) ?_
  refine Fw [28] [50] [(29,_)] Z Z (fun _=>Fx (Fg 50 Pa Z Z Z Z Z Z Z Z)) (.inr ⟨29,_,rfl,rfl,rfl,rfl,rfl⟩) Z Z Z Z Z (GZ 17 Z Z Z (BD 18 Z Z ?_))
  first | refine U (Ib (acc) ([p.ro[acc.length]]) Z Z Z Z Z Z Z Z Pa (by simp only [List.length_singleton];omega) Z Z Z Z) ?_ | refine U (Ka (acc) ([p.ro[acc.length]]) Z Z Z Z Z Z (fun _=>rfl) Pa (by simp only [List.length_singleton];omega) Z Z Z Z) ?_
  refine AH ⟨rfl,?_⟩;refine BD 19 Z Z ?_
  first | refine J (AO rfl G5 Z Z Z) ?_ | refine J (AQ rfl G5 Z Z Z) ?_ | refine J (AR rfl G5 Z Z Z) ?_ | refine J (AP rfl G5 Z Z Z) ?_ | refine J (AN rfl G5 Z Z Z) ?_
  refine AH ⟨rfl,?_⟩;refine BD 20 Z Z (U (Bj Z Z Z Z Z Z Z sz28) (AH ⟨rfl,?_⟩));refine GY (AJ (AC Z Z (J (Bi Z Z (Q8 acc p.ro[acc.length] (by omega)) rfl) (AD Z Z (AH ?_)))));exact ⟨acc++ [p.ro[acc.length]],⟨MD hI hk1,by rw [List.length_append];show acc.length+1≤_;omega⟩,by rw [List.length_append];show p.ro.length - (acc.length+1)<p.ro.length - acc.length;omega,BP hF [901,1,2,3] rfl (rfl) ⟨rfl,rfl,rfl,rfl,trivial⟩⟩
 ·refine C6 (AF (AF ?_));have hacc:=P2 hI (fun h=>h10 (by omega));refine WU (ys:=p.ro.map DT) 3 0 0 901 Z Z Z (by simp) (by rw [hacc];exact List.take_of_length_le (by simp)) Z Z Z Z Z Z (Yx 3 0 1 902 I5 Z Z Z Z Z Z Z (AJ (AD Z Z (AH (Au (De (α:=List AT) (fun acc2=>⟨51,[(1,(.ptr 1 0 0)),(2,(.ptr 2 0 0)),(3,(.ptr 3 0 0)),(5,(.d (AG (acc2.length:Int))))],[(902,[.rowD 49 6 (acc2.map Aw)]),(1,[Ml 25 p]),(2,[.blk 31 [HP,HP]]),(3,[.blk 31 [.d (.sl none (p.ro.map DT)),.own 902 0 acc2.length]])]⟩) (fun acc2=>acc2=p.it.take acc2.length∧acc2.length≤p.it.length) (fun acc2=>p.it.length - acc2.length) ([]) (⟨by simp,Nat.zero_le _⟩) (BP hF [902,1,2,3] Z Z ⟨rfl,rfl,rfl,rfl,trivial⟩) ?_))))));rintro acc2 ⟨hJ,hk2⟩;refine AF (AF (AJ (AC Z Z ?_)))
  first | refine J (AO rfl G4 Z Z Z) ?_ | refine J (AQ rfl G4 Z Z Z) ?_ | refine J (AR rfl G4 Z Z Z) ?_ | refine J (AP rfl G4 Z Z Z) ?_ | refine J (AN rfl G4 Z Z Z) ?_
  first | refine J (A0 Z Z Ek rfl) ?_ | refine J (AY Z Z Z Ek rfl) ?_ | refine J (AZ Z Z (rfl) rfl Ek rfl) ?_
  first | refine J (Cc rfl Tryz.underlying23 rfl) ?_ | refine J (C8 Z Z Tryz.underlying23 rfl) ?_ | refine J (Cd rfl Tryz.underlying23 rfl) ?_ | refine J (Cb rfl Tryz.underlying23 rfl) ?_ | refine J (CW rfl Tryz.underlying23 rfl) ?_ | refine J (C9 rfl Tryz.underlying23 rfl) ?_
  first | refine J (C7 Z Z Z) ?_ | refine J (Ca Z Z Z) ?_
  refine AH ?_
  first | refine BJ rfl (fun h36=>?_) (fun h36=>?_) | refine BB rfl (fun h36=>?_) (fun h36=>?_)
  ·have hk3:acc2.length<p.it.length:=DZ h36;refine Am (AF (Au (G8 [[],[0],[],[2],[],[2,3,4],[2,3,4,5],[2,3,4,5,6],[2,3,4,5,6,7],[0,1,2,3,4,5,6,7,8],[0,1,2,3,4,5,6,7,8,9],[0,1,2,3,4,5,6,7,8,9,10]] BC rfl (Hq ?_))))
   first | refine AE [3] [] Z Z (fun _=>AB (AO rfl Bw Z Z Z)) ?_ | refine AI [3] Z Z (fun _=>AB (AO rfl Bw Z Z Z)) ?_ | refine AE [3] [] Z Z (fun _=>AB (AQ rfl Bw Z Z Z)) ?_ | refine AI [3] Z Z (fun _=>AB (AQ rfl Bw Z Z Z)) ?_ | refine AE [3] [] Z Z (fun _=>AB (AR rfl Bw Z Z Z)) ?_ | refine AI [3] Z Z (fun _=>AB (AR rfl Bw Z Z Z)) ?_ | refine AE [3] [] Z Z (fun _=>AB (AP rfl Bw Z Z Z)) ?_ | refine AI [3] Z Z (fun _=>AB (AP rfl Bw Z Z Z)) ?_ | refine AE [3] [] Z Z (fun _=>AB (AN rfl Bw Z Z Z)) ?_ | refine AI [3] Z Z (fun _=>AB (AN rfl Bw Z Z Z)) ?_
   first | refine AE [39] [] Z Z (fun _=>AB (A0 Z Z Bf rfl)) ?_ | refine AI [39] Z Z (fun _=>AB (A0 Z Z Bf rfl)) ?_ | refine AE [39] [] Z Z (fun _=>AB (AY Z Z Z Bf rfl)) ?_ | refine AI [39] Z Z (fun _=>AB (AY Z Z Z Bf rfl)) ?_ | refine AE [39] [] Z Z (fun _=>AB (AZ Z Z (rfl) rfl Bf rfl)) ?_ | refine AI [39] Z Z (fun _=>AB (AZ Z Z (rfl) rfl Bf rfl)) ?_
   first | refine AE [1] [] Z Z (fun _=>AB (AO rfl G4 Z Z Z)) ?_ | refine AI [1] Z Z (fun _=>AB (AO rfl G4 Z Z Z)) ?_ | refine AE [1] [] Z Z (fun _=>AB (AQ rfl G4 Z Z Z)) ?_ | refine AI [1] Z Z (fun _=>AB (AQ rfl G4 Z Z Z)) ?_ | refine AE [1] [] Z Z (fun _=>AB (AR rfl G4 Z Z Z)) ?_ | refine AI [1] Z Z (fun _=>AB (AR rfl G4 Z Z Z)) ?_ | refine AE [1] [] Z Z (fun _=>AB (AP rfl G4 Z Z Z)) ?_ | refine AI [1] Z Z (fun _=>AB (AP rfl G4 Z Z Z)) ?_ | refine AE [1] [] Z Z (fun _=>AB (AN rfl G4 Z Z Z)) ?_ | refine AI [1] Z Z (fun _=>AB (AN rfl G4 Z Z Z)) ?_
   first | refine AE [41] [] Z Z (fun _=>AB (A0 Z Z Ek rfl)) ?_ | refine AI [41] Z Z (fun _=>AB (A0 Z Z Ek rfl)) ?_ | refine AE [41] [] Z Z (fun _=>AB (AY Z Z Z Ek rfl)) ?_ | refine AI [41] Z Z (fun _=>AB (AY Z Z Z Ek rfl)) ?_ | refine AE [41] [] Z Z (fun _=>AB (AZ Z Z (rfl) rfl Ek rfl)) ?_ | refine AI [41] Z Z (fun _=>AB (AZ Z Z (rfl) rfl Ek rfl)) ?_
   first | refine AE [5] [] Z Z (fun _=>AB (B7 Z Z)) ?_ | refine AI [5] Z Z (fun _=>AB (B7 Z Z)) ?_
   have hgi:=g3 _ (List.getElem_mem hk3)
   first | refine AE [42,43] [] Z Z (fun _=>AB (CY (acc2.length) Z Z (rfl) (A2 hk3) Tryz.underlying23 rfl Nq rfl)) ?_ | refine AI [42,43] Z Z (fun _=>AB (CY (acc2.length) Z Z (rfl) (A2 hk3) Tryz.underlying23 rfl Nq rfl)) ?_ | refine AE [42,43] [] Z Z (fun _=>AB (CZ (acc2.length) Z Z (rfl) (A2 hk3) rfl Tryz.underlying23 Nq rfl)) ?_ | refine AI [42,43] Z Z (fun _=>AB (CZ (acc2.length) Z Z (rfl) (A2 hk3) rfl Tryz.underlying23 Nq rfl)) ?_
   first | refine AE [44] [] Z Z (fun _=>AB (An Z Z VS rfl)) ?_ | refine AI [44] Z Z (fun _=>AB (An Z Z VS rfl)) ?_ | refine AE [44] [] Z Z (fun _=>AB (Ao Z Z VS Z Z Z)) ?_ | refine AI [44] Z Z (fun _=>AB (Ao Z Z VS Z Z Z)) ?_ | refine AE [44] [] Z Z (fun _=>AB (Ap Z Z (rfl) rfl VS rfl)) ?_ | refine AI [44] Z Z (fun _=>AB (Ap Z Z (rfl) rfl VS rfl)) ?_
   first | refine AE [45] [] Z Z (fun _=>AB (BF (O9 p.it[acc2.length] (by omega) (by omega) (by omega)) Z Z)) ?_ | refine AI [45] Z Z (fun _=>AB (BF (O9 p.it[acc2.length] (by omega) (by omega) (by omega)) Z Z)) ?_
   refine Fw [46] [51] [(47,_)] Z Z (fun _=>Fx (Fg 51 I5 Z Z Z Z Z Z Z Z)) (.inr ⟨47,_,rfl,rfl,rfl,rfl,rfl⟩) Z Z Z Z Z (GZ 9 Z Z Z (BD 10 Z Z ?_))
   first | refine U (Ib (acc2) ([p.it[acc2.length]]) Z Z Z Z Z Z Z Z I5 (by simp only [List.length_singleton];omega) Z Z Z Z) ?_ | refine U (Ka (acc2) ([p.it[acc2.length]]) Z Z Z Z Z Z (fun _=>rfl) I5 (by simp only [List.length_singleton];omega) Z Z Z Z) ?_
   refine AH ⟨rfl,?_⟩;refine BD 11 Z Z ?_
   first | refine J (AO rfl Bw Z Z Z) ?_ | refine J (AQ rfl Bw Z Z Z) ?_ | refine J (AR rfl Bw Z Z Z) ?_ | refine J (AP rfl Bw Z Z Z) ?_ | refine J (AN rfl Bw Z Z Z) ?_
   refine AH ⟨rfl,?_⟩;refine BD 12 Z Z (U (Bj Z Z Z Z Z Z Z sz29) (AH ⟨rfl,?_⟩));refine GY (AJ (AC Z Z (J (Bi Z Z (Q8 acc2 p.it[acc2.length] (by omega)) rfl) (AD Z Z (AH ?_)))));exact ⟨acc2++ [p.it[acc2.length]],⟨MD hJ hk3,by rw [List.length_append];show acc2.length+1≤_;omega⟩,by rw [List.length_append];show p.it.length - (acc2.length+1)<p.it.length - acc2.length;omega,BP hF [902,1,2,3] rfl (rfl) ⟨rfl,rfl,rfl,rfl,trivial⟩⟩
  ·refine C6 (AF ?_);have hacc2:=P2 hJ (fun h=>h36 (by omega));refine WU (ys:=p.it.map Aw) 3 0 1 902 Z Z Z (by simp) (by rw [hacc2];exact List.take_of_length_le (by simp)) Z Z Z Z Z Z (AJ ?_)
   first | refine J (An Z Z AW rfl) ?_ | refine J (Ao Z Z AW Z Z Z) ?_ | refine J (Ap Z Z (rfl) rfl AW rfl) ?_
   refine U (Bj Z Z Z Z Z Z Z M0) (AH (Af ?_));exact ⟨_,[],[],Ae rfl,rfl,rfl,rfl,rfl⟩
theorem sml_B {p:Prb} (h:Sml p):Cz p:=⟨by have:=h.2.1;omega,by have:=h.1;omega,fun i hi=>by have:=h.2.2 i hi;omega⟩
def G2 (ids l:List Int) (k:Nat):Int:=if l.getD k 0∉ids then 9 else if l.getD k 0∈l.take k then 7 else 0
def Ls (ids l:List Int):Int:=Bk ((List.range l.length).map (G2 ids l))
def Bn (p:Prb) (l:List Int):Int:=if Ak p≠0 then Ak p else Ls (p.it.map AT.id) l
theorem Kg {ids l:List Int} (h:Ls ids l=0):l.Nodup∧∀x∈l,x∈ids:=by
 have h0:=PP.1 h;refine ⟨List.pairwise_iff_getElem.2 fun i j hi hj hij e=>?_,fun x hx=>?_⟩
 ·have:=h0 j (List.mem_range.2 hj);unfold G2 at this;rw [Bg 0 hj] at this
  split at this
  ·cases this
  ·split at this
   ·cases this
   ·rename_i hn;exact hn (by rw [←e,List.mem_take_iff_getElem];exact ⟨i,by omega,rfl⟩)
 ·obtain ⟨j,hj,rfl⟩:=List.getElem_of_mem hx;have:=h0 j (List.mem_range.2 hj);unfold G2 at this;rw [Bg 0 hj] at this
  split at this
  ·cases this
  ·rename_i hn;exact Decidable.not_not.1 hn
theorem T7 (p:Prb) (l:List Int) (hb:Cz p) (hl:l.length≤100000) (hE:Bn p l≠0):AU Tryz.prog 89 [.d (CI p),.d (.sl none (l.map AG))] (.tup [.raw (.map none),AG (Bn p l)]):=by
 have hck:=FJ p hb;have hb2:=hb.2.1
 by_cases h0:Ak p=0
 ·have hnd:=S0 (Ia h0).2.1;rw [h0] at hck;have hC:Bn p l=Ls (p.it.map AT.id) l:=if_neg (fun h=>h h0);rw [hC] at hE⊢
  obtain ⟨E0,hE0⟩:∃e,Ls (p.it.map AT.id) l=e:=⟨_,rfl⟩
  rw [hE0] at hE⊢;refine BY Tryz.func89 Z Z Tryz.ntmps89 Z Z Z fun F hF=>?_;refine AF (AJ (U (CJ 1 Z Z Z Z Z Z Z) (AD Z Z (AD Z Z (AH (AF (AF (AJ ?_))))))))
  first | refine J (An Z Z AW rfl) ?_ | refine J (Ao Z Z AW Z Z Z) ?_ | refine J (Ap Z Z (rfl) rfl AW rfl) ?_
  refine J (BF (hck) Z Z) (AD Z Z (AH (AF (AJ (AC Z Z ?_)))))
  first | refine J (E9 Z Z Z) ?_ | refine J (Ed Z Z Z) ?_ | refine J (EU Z Z Z) ?_ | refine J (Ea Tryz.underlying34 Z Z Z) ?_ | refine J (Ec Tryz.underlying34 Z Z Z) ?_ | refine J (st_neqN Tryz.underlying34 Z Z) ?_ | refine J (Eb Tryz.underlying34 Z Z Z) ?_ | refine J (st_neqFN Tryz.underlying34 Z Z) ?_
  refine AH (Ey rfl ((by decide)) ?_);refine Am (AF (AJ (U (S3 2 Z Z Z Z) (AD Z Z (AH (AF (AF (AJ ?_))))))))
  first | refine J (AO rfl Bw Z Z Z) ?_ | refine J (AQ rfl Bw Z Z Z) ?_ | refine J (AR rfl Bw Z Z Z) ?_ | refine J (AP rfl Bw Z Z Z) ?_ | refine J (AN rfl Bw Z Z Z) ?_
  first | refine J (A0 Z Z Bf rfl) ?_ | refine J (AY Z Z Z Bf rfl) ?_ | refine J (AZ Z Z (rfl) rfl Bf rfl) ?_
  first | refine J (Cc rfl Tryz.underlying29 rfl) ?_ | refine J (C8 Z Z Tryz.underlying29 rfl) ?_ | refine J (Cd rfl Tryz.underlying29 rfl) ?_ | refine J (Cb rfl Tryz.underlying29 rfl) ?_ | refine J (CW rfl Tryz.underlying29 rfl) ?_ | refine J (C9 rfl Tryz.underlying29 rfl) ?_
  refine AC Z Z (AH (Au (De (α:=Nat) (fun k=>⟨50,[(1,.d (.sl none (l.map AG))),(7,(.map 2 0)),(20,(.d (.sl none (p.it.map Aw)))),(21,(.d (AG (p.it.length:Int)))),(22,(.d (AG (k:Int))))],[(2,[B5 AG BE (Ag ((p.it.take k).map AT.id))])]⟩) (fun k=>k≤p.it.length) (fun k=>p.it.length - k) (0) (Nat.zero_le _) (BP hF [2] Z Z ⟨rfl,rfl,rfl,rfl,rfl,trivial⟩) ?_)));rintro k hk0;refine AF (AJ ?_)
  first | refine J (C7 Z Z Z) ?_ | refine J (Ca Z Z Z) ?_
  refine AH (AF ?_)
  first | refine BJ rfl (fun h23=>?_) (fun h23=>?_) | refine BB rfl (fun h23=>?_) (fun h23=>?_)
  ·have hk1:k<p.it.length:=DZ h23;refine Am (AF (Au (AF (AJ ?_))));have hnk:p.it[k].id∉(p.it.take k).map AT.id:=fun h=>by rw [List.Nodup,List.pairwise_map,List.pairwise_iff_getElem] at hnd;obtain ⟨x,hx,e⟩:=List.mem_map.1 h;obtain ⟨j,hj,rfl⟩:=List.mem_take_iff_getElem.1 hx;exact hnd j k (by omega) hk1 (by omega) e
   first | refine J (CY (k) Z Z (rfl) (A2 hk1) Tryz.underlying29 rfl Br rfl) ?_ | refine J (CZ (k) Z Z (rfl) (A2 hk1) rfl Tryz.underlying29 Br rfl) ?_
   first | refine J (An Z Z A7 rfl) ?_ | refine J (Ao Z Z A7 Z Z Z) ?_ | refine J (Ap Z Z (rfl) rfl A7 rfl) ?_
   refine U (Cm 3 Da Z Z Z Z) (U (Bj Z Z Z Z Z Z Z Br) (AH (AJ (AC Z Z ?_))))
   first | refine J (AO rfl B4 Z Z Z) ?_ | refine J (AQ rfl B4 Z Z Z) ?_ | refine J (AR rfl B4 Z Z Z) ?_ | refine J (AP rfl B4 Z Z Z) ?_ | refine J (AN rfl B4 Z Z Z) ?_
   first | refine J (A0 Z Z A9 rfl) ?_ | refine J (AY Z Z Z A9 rfl) ?_ | refine J (AZ Z Z (rfl) rfl A9 rfl) ?_
   first | refine U (DE (Ag ((p.it.take k).map AT.id)) (p.it[k].id) (true) Z Z Z DP GO Z Z) ?_ | refine U (WZ (Ag ((p.it.take k).map AT.id)) (p.it[k].id) (true) Z Z Z DP GO Z Z) ?_
   refine AH (AJ (J (Bi Z Z (A6 (k+1) (by omega)) rfl) (AC Z Z (AH ?_))));exact ⟨k+1,by show k+1≤_;omega,by show p.it.length - (k+1)<p.it.length - k;omega,BP hF [2] rfl (by rw [CU hk1,←D3 hnk];rfl) ⟨rfl,rfl,rfl,rfl,rfl,trivial⟩⟩
  ·refine C6 (AF ?_);rw [List.take_of_length_le (show p.it.length≤k by have h:=h23;omega)];refine AJ (U (S3 4 Z Z Z Z) (AD Z Z (AH (AF (AF (AJ (AC Z Z ?_)))))))
   first | refine J (Cc rfl Tryz.underlying33 rfl) ?_ | refine J (C8 Z Z Tryz.underlying33 rfl) ?_ | refine J (Cd rfl Tryz.underlying33 rfl) ?_ | refine J (Cb rfl Tryz.underlying33 rfl) ?_ | refine J (CW rfl Tryz.underlying33 rfl) ?_ | refine J (C9 rfl Tryz.underlying33 rfl) ?_
   refine AC Z Z (AH (Au (De (α:=Nat) (fun k=>⟨50,[(7,(.map 2 0)),(10,(.map 4 0)),(31,(.d (.sl none (l.map AG)))),(32,(.d (AG (l.length:Int)))),(33,(.d (AG (k:Int))))],[(2,[B5 AG BE (Ag (p.it.map AT.id))]),(4,[B5 AG BE (Ag (l.take k))])]⟩) (fun k=>k≤l.length∧E0=Bk (((List.range l.length).drop k).map (G2 (p.it.map AT.id) l))) (fun k=>l.length - k) (0) (⟨Nat.zero_le _,hE0.symm⟩) (BP hF [2,4] Z Z ⟨rfl,rfl,rfl,rfl,rfl,trivial⟩) ?_)));rintro k ⟨hk0,hk⟩;refine AF (AJ ?_)
   first | refine J (C7 Z Z Z) ?_ | refine J (Ca Z Z Z) ?_
   refine AH (AF ?_)
   first | refine BJ rfl (fun h34=>?_) (fun h34=>?_) | refine BB rfl (fun h34=>?_) (fun h34=>?_)
   ·have hk1:k<l.length:=DZ h34;refine Am (AF (Au (AF (AJ ?_))));have hEc:=E1 hk1 hk;have hgd:=Bg 0 hk1
    first | refine J (CY (k) Z Z (rfl) (A2 hk1) Tryz.underlying33 rfl Dh rfl) ?_ | refine J (CZ (k) Z Z (rfl) (A2 hk1) rfl Tryz.underlying33 Dh rfl) ?_
    first | refine J (A0 Z Z A9 rfl) ?_ | refine J (AY Z Z Z A9 rfl) ?_ | refine J (AZ Z Z (rfl) rfl A9 rfl) ?_
    refine AD Z Z (AH (AF (Au (AF (AJ (AC Z Z (AC Z Z (J (IC (Ag (p.it.map AT.id)) (l[k]) (false) _ Z Z Z DP GO Tn Z Z) ?_))))))));rw [WT]
    first | refine J (F2 Z Z) ?_ | refine J (FT Z Z) ?_
    refine AD Z Z (AH ?_)
    first | refine BJ rfl (fun h37=>?_) (fun h37=>?_) | refine BB rfl (fun h37=>?_) (fun h37=>?_)
    ·refine AF (AJ (AD Z Z (AD Z Z (AH (Af ?_)))));exact ⟨_,[],[],Ae rfl,rfl,rfl,by rw [hEc.2 9 (by unfold G2;rw [hgd,if_pos (by simp_all)]) (by decide)],rfl⟩
    ·refine AF (AJ (AC Z Z (AC Z Z (J (IC (Ag (l.take k)) (l[k]) (false) _ Z Z Z DP GO Tn Z Z) ?_))));rw [WT];refine AD Z Z (AH ?_)
     first | refine BJ rfl (fun h42=>?_) (fun h42=>?_) | refine BB rfl (fun h42=>?_) (fun h42=>?_)
     ·refine AF (AJ (AD Z Z (AD Z Z (AH (Af ?_)))));exact ⟨_,[],[],Ae rfl,rfl,rfl,by rw [hEc.2 7 (by unfold G2;rw [hgd,if_neg (by simp_all),if_pos (by simp_all)]) (by decide)],rfl⟩
     ·refine Am (AJ (AC Z Z (AC Z Z ?_)))
      first | refine U (DE (Ag (l.take k)) (l[k]) (true) Z Z Z DP GO Z Z) ?_ | refine U (WZ (Ag (l.take k)) (l[k]) (true) Z Z Z DP GO Z Z) ?_
      refine AH (AJ (J (Bi Z Z (A6 (k+1) (by omega)) rfl) (AC Z Z (AH ?_))));exact ⟨k+1,⟨by show k+1≤_;omega,hEc.1 (by unfold G2;rw [hgd,if_neg (by simp_all),if_neg (by simp_all)])⟩,by show l.length - (k+1)<l.length - k;omega,BP hF [2,4] rfl (by rw [List.take_succ_eq_append_getElem hk1,←D3 (by simp_all)];rfl) ⟨rfl,rfl,rfl,rfl,rfl,trivial⟩⟩
   ·refine C6 (AF (AJ (AC Z Z (AD Z Z (AD Z Z (AH (Af ?_)))))));exact absurd (by rw [hk,List.drop_of_length_le (by have h:=h34;simp only [List.length_range];omega)];rfl) hE
 ·have hC:Bn p l=Ak p:=if_pos h0;rw [hC];refine BY Tryz.func89 Z Z Tryz.ntmps89 Z Z Z fun F hF=>?_;refine AF (AJ (U (CJ 1 Z Z Z Z Z Z Z) (AD Z Z (AD Z Z (AH (AF (AF (AJ ?_))))))))
  first | refine J (An Z Z AW rfl) ?_ | refine J (Ao Z Z AW Z Z Z) ?_ | refine J (Ap Z Z (rfl) rfl AW rfl) ?_
  refine J (BF (hck) Z Z) (AD Z Z (AH (AF (AJ (AC Z Z ?_)))))
  first | refine J (E9 Z Z Z) ?_ | refine J (Ed Z Z Z) ?_ | refine J (EU Z Z Z) ?_ | refine J (Ea Tryz.underlying34 Z Z Z) ?_ | refine J (Ec Tryz.underlying34 Z Z Z) ?_ | refine J (st_neqN Tryz.underlying34 Z Z) ?_ | refine J (Eb Tryz.underlying34 Z Z Z) ?_ | refine J (st_neqFN Tryz.underlying34 Z Z) ?_
  refine AH (Dg rfl ((decide_eq_true h0)) (AF (AJ (AC Z Z (AD Z Z (AD Z Z (AH (Af ?_))))))));exact ⟨_,[],[],Ae rfl,rfl,rfl,rfl,rfl⟩
theorem WI (p:Prb) (l:List Int) (hb:Cz p) (hl:l.length≤100000) (hE:Bn p l=0):A8 Tryz.prog 89 [.d (CI p),.d (.sl none (l.map AG))] [] fun r H'=>r= .tup [.map 4 0,.d (AG 0)]∧H'=[(4,[B5 AG BE (Ag l)])]:=by
 have hck:=FJ p hb;have hb2:=hb.2.1
 have h0:Ak p=0:=by
  unfold Bn at hE;split at hE
  ·exact hE
  ·rename_i h;simpa using h
 have hnd:=S0 (Ia h0).2.1;rw [h0] at hck;have hC:Bn p l=Ls (p.it.map AT.id) l:=if_neg (fun h=>h h0);rw [hC] at hE;refine BY Tryz.func89 Z Z Tryz.ntmps89 Z Z Z fun F hF=>?_;refine AF (AJ (U (CJ 1 Z Z Z Z Z Z Z) (AD Z Z (AD Z Z (AH (AF (AF (AJ ?_))))))))
 first | refine J (An Z Z AW rfl) ?_ | refine J (Ao Z Z AW Z Z Z) ?_ | refine J (Ap Z Z (rfl) rfl AW rfl) ?_
 refine J (BF (hck) Z Z) (AD Z Z (AH (AF (AJ (AC Z Z ?_)))))
 first | refine J (E9 Z Z Z) ?_ | refine J (Ed Z Z Z) ?_ | refine J (EU Z Z Z) ?_ | refine J (Ea Tryz.underlying34 Z Z Z) ?_ | refine J (Ec Tryz.underlying34 Z Z Z) ?_ | refine J (st_neqN Tryz.underlying34 Z Z) ?_ | refine J (Eb Tryz.underlying34 Z Z Z) ?_ | refine J (st_neqFN Tryz.underlying34 Z Z) ?_
 refine AH (Ey rfl ((by decide)) ?_);refine Am (AF (AJ (U (S3 2 Z Z Z Z) (AD Z Z (AH (AF (AF (AJ ?_))))))))
 first | refine J (AO rfl Bw Z Z Z) ?_ | refine J (AQ rfl Bw Z Z Z) ?_ | refine J (AR rfl Bw Z Z Z) ?_ | refine J (AP rfl Bw Z Z Z) ?_ | refine J (AN rfl Bw Z Z Z) ?_
 first | refine J (A0 Z Z Bf rfl) ?_ | refine J (AY Z Z Z Bf rfl) ?_ | refine J (AZ Z Z (rfl) rfl Bf rfl) ?_
 first | refine J (Cc rfl Tryz.underlying29 rfl) ?_ | refine J (C8 Z Z Tryz.underlying29 rfl) ?_ | refine J (Cd rfl Tryz.underlying29 rfl) ?_ | refine J (Cb rfl Tryz.underlying29 rfl) ?_ | refine J (CW rfl Tryz.underlying29 rfl) ?_ | refine J (C9 rfl Tryz.underlying29 rfl) ?_
 refine AC Z Z (AH (Au (De (α:=Nat) (fun k=>⟨50,[(1,.d (.sl none (l.map AG))),(7,(.map 2 0)),(20,(.d (.sl none (p.it.map Aw)))),(21,(.d (AG (p.it.length:Int)))),(22,(.d (AG (k:Int))))],[(2,[B5 AG BE (Ag ((p.it.take k).map AT.id))])]⟩) (fun k=>k≤p.it.length) (fun k=>p.it.length - k) (0) (Nat.zero_le _) (BP hF [2] Z Z ⟨rfl,rfl,rfl,rfl,rfl,trivial⟩) ?_)));rintro k hk0;refine AF (AJ ?_)
 first | refine J (C7 Z Z Z) ?_ | refine J (Ca Z Z Z) ?_
 refine AH (AF ?_)
 first | refine BJ rfl (fun h23=>?_) (fun h23=>?_) | refine BB rfl (fun h23=>?_) (fun h23=>?_)
 ·have hk1:k<p.it.length:=DZ h23;refine Am (AF (Au (AF (AJ ?_))));have hnk:p.it[k].id∉(p.it.take k).map AT.id:=fun h=>by rw [List.Nodup,List.pairwise_map,List.pairwise_iff_getElem] at hnd;obtain ⟨x,hx,e⟩:=List.mem_map.1 h;obtain ⟨j,hj,rfl⟩:=List.mem_take_iff_getElem.1 hx;exact hnd j k (by omega) hk1 (by omega) e
  first | refine J (CY (k) Z Z (rfl) (A2 hk1) Tryz.underlying29 rfl Br rfl) ?_ | refine J (CZ (k) Z Z (rfl) (A2 hk1) rfl Tryz.underlying29 Br rfl) ?_
  first | refine J (An Z Z A7 rfl) ?_ | refine J (Ao Z Z A7 Z Z Z) ?_ | refine J (Ap Z Z (rfl) rfl A7 rfl) ?_
  refine U (Cm 3 Da Z Z Z Z) (U (Bj Z Z Z Z Z Z Z Br) (AH (AJ (AC Z Z ?_))))
  first | refine J (AO rfl B4 Z Z Z) ?_ | refine J (AQ rfl B4 Z Z Z) ?_ | refine J (AR rfl B4 Z Z Z) ?_ | refine J (AP rfl B4 Z Z Z) ?_ | refine J (AN rfl B4 Z Z Z) ?_
  first | refine J (A0 Z Z A9 rfl) ?_ | refine J (AY Z Z Z A9 rfl) ?_ | refine J (AZ Z Z (rfl) rfl A9 rfl) ?_
  first | refine U (DE (Ag ((p.it.take k).map AT.id)) (p.it[k].id) (true) Z Z Z DP GO Z Z) ?_ | refine U (WZ (Ag ((p.it.take k).map AT.id)) (p.it[k].id) (true) Z Z Z DP GO Z Z) ?_
  refine AH (AJ (J (Bi Z Z (A6 (k+1) (by omega)) rfl) (AC Z Z (AH ?_))));exact ⟨k+1,by show k+1≤_;omega,by show p.it.length - (k+1)<p.it.length - k;omega,BP hF [2] rfl (by rw [CU hk1,←D3 hnk];rfl) ⟨rfl,rfl,rfl,rfl,rfl,trivial⟩⟩
 ·refine C6 (AF ?_);rw [List.take_of_length_le (show p.it.length≤k by have h:=h23;omega)];refine AJ (U (S3 4 Z Z Z Z) (AD Z Z (AH (AF (AF (AJ (AC Z Z ?_)))))))
  first | refine J (Cc rfl Tryz.underlying33 rfl) ?_ | refine J (C8 Z Z Tryz.underlying33 rfl) ?_ | refine J (Cd rfl Tryz.underlying33 rfl) ?_ | refine J (Cb rfl Tryz.underlying33 rfl) ?_ | refine J (CW rfl Tryz.underlying33 rfl) ?_ | refine J (C9 rfl Tryz.underlying33 rfl) ?_
  refine AC Z Z (AH (Au (De (α:=Nat) (fun k=>⟨50,[(7,(.map 2 0)),(10,(.map 4 0)),(31,(.d (.sl none (l.map AG)))),(32,(.d (AG (l.length:Int)))),(33,(.d (AG (k:Int))))],[(2,[B5 AG BE (Ag (p.it.map AT.id))]),(4,[B5 AG BE (Ag (l.take k))])]⟩) (fun k=>k≤l.length) (fun k=>l.length - k) (0) (Nat.zero_le _) (BP hF [2,4] Z Z ⟨rfl,rfl,rfl,rfl,rfl,trivial⟩) ?_)));rintro k hk0;refine AF (AJ ?_)
  first | refine J (C7 Z Z Z) ?_ | refine J (Ca Z Z Z) ?_
  refine AH (AF ?_)
  first | refine BJ rfl (fun h34=>?_) (fun h34=>?_) | refine BB rfl (fun h34=>?_) (fun h34=>?_)
  ·have hk1:k<l.length:=DZ h34;refine Am (AF (Au (AF (AJ ?_))));have hz:=PP.1 hE k (List.mem_range.2 hk1);have hgd:=Bg 0 hk1;have hin:l[k]∈p.it.map AT.id:=(Kg hE).2 _ (List.getElem_mem hk1);have hnk:l[k]∉l.take k:=fun h=>by have hn2:=(Kg hE).1;rw [List.Nodup,List.pairwise_iff_getElem] at hn2;obtain ⟨j,hj,e⟩:=List.mem_take_iff_getElem.1 h;exact hn2 j k (by omega) hk1 (by omega) e
   first | refine J (CY (k) Z Z (rfl) (A2 hk1) Tryz.underlying33 rfl Dh rfl) ?_ | refine J (CZ (k) Z Z (rfl) (A2 hk1) rfl Tryz.underlying33 Dh rfl) ?_
   first | refine J (A0 Z Z A9 rfl) ?_ | refine J (AY Z Z Z A9 rfl) ?_ | refine J (AZ Z Z (rfl) rfl A9 rfl) ?_
   refine AD Z Z (AH (AF (Au (AF (AJ (AC Z Z (AC Z Z (J (IC (Ag (p.it.map AT.id)) (l[k]) (false) _ Z Z Z DP GO Tn Z Z) ?_))))))));rw [WT]
   first | refine J (F2 Z Z) ?_ | refine J (FT Z Z) ?_
   refine AD Z Z (AH ?_)
   first | refine BJ rfl (fun h37=>?_) (fun h37=>?_) | refine BB rfl (fun h37=>?_) (fun h37=>?_)
   ·refine AF (AJ (AD Z Z (AD Z Z (AH (Af ?_)))));exact absurd hin (by simp_all)
   ·refine AF (AJ (AC Z Z (AC Z Z (J (IC (Ag (l.take k)) (l[k]) (false) _ Z Z Z DP GO Tn Z Z) ?_))));rw [WT];refine AD Z Z (AH ?_)
    first | refine BJ rfl (fun h42=>?_) (fun h42=>?_) | refine BB rfl (fun h42=>?_) (fun h42=>?_)
    ·refine AF (AJ (AD Z Z (AD Z Z (AH (Af ?_)))));exact absurd hnk (by simp_all)
    ·refine Am (AJ (AC Z Z (AC Z Z ?_)))
     first | refine U (DE (Ag (l.take k)) (l[k]) (true) Z Z Z DP GO Z Z) ?_ | refine U (WZ (Ag (l.take k)) (l[k]) (true) Z Z Z DP GO Z Z) ?_
     refine AH (AJ (J (Bi Z Z (A6 (k+1) (by omega)) rfl) (AC Z Z (AH ?_))));exact ⟨k+1,by show k+1≤_;omega,by show l.length - (k+1)<l.length - k;omega,BP hF [2,4] rfl (by rw [List.take_succ_eq_append_getElem hk1,←D3 hnk];rfl) ⟨rfl,rfl,rfl,rfl,rfl,trivial⟩⟩
  ·refine C6 (AF (AJ (AC Z Z (AD Z Z (AD Z Z (AH (Af ?_)))))));exact ⟨_,[4],_,Ae rfl,rfl,rfl,rfl,by rw [List.take_of_length_le (show l.length≤k by have h:=h34;omega)]<;>rfl⟩
theorem DS (x:A4×Int) (l:List (A4×Int)) (r:A4):Ai (x::l) r=(if x.1=r then x.2 else 0)+Ai l r:=by simp [Ai]
theorem Rz {l m:List (A4×Int)} (h:l.Perm m) (r:A4):Ai l r=Ai m r:=by
 induction h with
 | nil=>rfl
 | cons x _ ih=>rw [DS,DS,ih]
 | swap x y l=>simp only [DS];omega
 | trans _ _ ih1 ih2=>rw [ih1,ih2]
theorem E8 {l:List (A4×Int)} {r:A4} (h:r∉l.map Prod.fst):Ai l r=0:=by
 induction l with
 | nil=>rfl
 | cons x l ih=>
  rw [List.map_cons,List.mem_cons] at h;rw [DS,if_neg (fun e=>h (.inl e.symm)),ih (fun h'=>h (.inr h'))];rfl
theorem T5 {l:List (A4×Int)} (hn:(l.map Prod.fst).Nodup) {r:A4} {v:Int} (h:(r,v)∈l):Ai l r=v:=by
 induction l with
 | nil=>cases h
 | cons x l ih=>
  rw [List.map_cons,List.nodup_cons] at hn;rw [DS];rcases List.mem_cons.1 h with h | h
  ·subst h;rw [if_pos rfl,E8 hn.1];show v+0=v;omega
  ·rw [if_neg (fun e=>hn.1 (by rw [e];exact List.mem_map.2 ⟨_,h,rfl⟩)),ih hn.2 h];omega
theorem Ry (c:List (A4×Int)) (r:A4):Ai (sumL c) r=Ai c r:=by
 by_cases h:r∈(sumL c).map Prod.fst
 ·obtain ⟨⟨r',v⟩,hx,e⟩:=List.mem_map.1 h;have e:r'=r:=e;subst e;rw [T5 (FG c) hx,((Fz c r' v).1 hx).2]
 ·rw [E8 h,E8 fun h'=>h ((II c r).2 h')]
theorem lft_sub {α β:Type} {m:List (α×β)} {B seen:List Nat} {x:α×β} (h:x∈DW m B seen):x∈m:=by
 unfold DW at h;obtain ⟨y,hy,rfl⟩:=List.mem_map.1 h;exact (List.of_mem_zip (a:=y.1) (b:=y.2) (List.mem_filter.1 hy).1).1
theorem U6 {α β:Type} {m:List (α×β)} {B seen:List Nat}:(DW m B seen).length≤m.length:=by
 unfold DW;rw [List.length_map];refine Nat.le_trans (List.length_filter_le _ _) ?_;rw [List.length_zip];omega
def HI (l:List AT) (r:A4):Int:=(l.map fun i=>Ai (ctr i) r).sum
theorem VC (l:List AT) (i:AT) (r:A4):HI (l++ [i]) r=HI l r+Ai (ctr i) r:=by simp [HI]
def Lv (l:List Int) (i:AT):Bool:=decide (i.id∈l)
theorem E6 {l:List AT} (h:D7 l=0):∀i∈l,BI i=0:=fun i hi=>by
 have h0:=PP.1 h;obtain ⟨j,hj,rfl⟩:=List.getElem_of_mem hi;have:=h0 j (List.mem_range.2 hj);unfold NR at this;rw [Bg itm0 hj] at this
 split at this
 ·contradiction
 ·rename_i hn;simpa using hn
theorem QN {i:AT} (h:BI i=0) (r:A4): -Mx≤Ai (ctr i) r∧Ai (ctr i) r≤Mx:=by
 have hb:=(G1 h).2.2.2.2.2.2.2.2;unfold QO at hb
 split at hb
 ·cases hb
 ·rename_i hn
  by_cases hr:r∈(sumL (ctr i)).map Prod.fst
  ·obtain ⟨⟨r',v⟩,hx,e⟩:=List.mem_map.1 hr;have e:r'=r:=e;subst e;have hv:=((Fz _ _ _).1 hx).2;rw [←hv];exact Decidable.not_not.1 fun hh=>hn ⟨_,hx,hh⟩
  ·rw [E8 fun h'=>hr ((II _ r).2 h')];simp only [Mx];omega
theorem bnd_E {i:AT} (h:BI i=0):Q5 (sumL (ctr i)):=fun x hx=>by
 have hv:=((Fz (ctr i) x.1 x.2).1 hx).2;rw [hv];simpa [Mx] using QN h x.1
theorem len_E {i:AT} (h:BI i=0):(sumL (ctr i)).length≤1280:=by
 have hb:=(G1 h).1;have h1:=hb.po;have h2:=hb.pa;have:=HV (ctr i);rw [JQ] at this;omega
theorem MW {l:List AT} (h:∀i∈l,BI i=0) (hl:l.length≤1000) (r:A4): -1000000000000000000≤HI l r∧HI l r≤1000000000000000000:=by
 have:=OJ (l:=l) (f:=fun i=>Ai (ctr i) r) (B:=1000000000000000) (fun i hi=>by simpa [Mx] using QN (h i hi) r) 1000 hl (by omega);unfold HI;omega
def totR (p:Prb) (l:List Int):List Roo:=p.ro.map fun x=>⟨x.r,x.n+HI (p.it.filter (Lv l)) x.r⟩
theorem Kn {l:List Roo} (h:Ce l=0):∀x∈l,-4000000000000000≤x.n∧x.n≤4000000000000000:=fun x hx=>by
 have h0:=PP.1 h;obtain ⟨j,hj,rfl⟩:=List.getElem_of_mem hx;have:=h0 j (List.mem_range.2 hj);unfold Lt at this;rw [Bg DC hj] at this
 split at this
 ·contradiction
 ·split at this
  ·cases this
  ·rename_i hn;simp only [Mx] at hn;omega
theorem Ro {α:Type} {p:α ->Bool} {l:List α} {k:Nat} (hk:k<l.length):(l.take (k+1)).filter p=(l.take k).filter p++(if p l[k] then [l[k]] else []):=E7 hk
theorem We (p:Prb) (l:List Int) (hb:Cz p) (hl:l.length≤100000) (h1000:p.it.length≤1000):AU Tryz.prog 38 [.d (CI p),.d (.sl none (l.map AG))] (.tup [.sl none ((if Bn p l=0 then totR p l else []).map DT),AG (Bn p l)]):=by
 by_cases hE:Bn p l=0
 ·have hc:=(WI p l hb hl hE).by [(4,40)] rfl
  have h0:Ak p=0:=by
   unfold Bn at hE;split at hE
   ·exact hE
   ·rename_i h;simpa using h
  have hck:=E6 (Ia h0).2.1;have hram:=Kn (Ia h0).1;have hb1:=hb.1;rw [if_pos hE,hE];refine BY Tryz.func38 Z Z Tryz.ntmps38 Z Z Z fun F hF=>(AF (AJ (U (CJ 1 Z Z Z Z Z Z Z) (AD Z Z (AD Z Z (AH (AF (AJ ?_))))))))
  first | refine J (An Z Z AW rfl) ?_ | refine J (Ao Z Z AW Z Z Z) ?_ | refine J (Ap Z Z (rfl) rfl AW rfl) ?_
  refine AC Z Z (U (HQ hc rfl [40] ⟨rfl,trivial⟩ Z Z Z Z Z Z Z Z Z) (AC Z Z ?_))
  first | refine J (BT Z Z Z) ?_ | refine J (BS Z Z Z) ?_
  first | refine J (BT Z Z Z) ?_ | refine J (BS Z Z Z) ?_
  refine AD Z Z (AD Z Z (AH (AF (AF (AJ (AC Z Z ?_))))))
  first | refine J (E9 Z Z Z) ?_ | refine J (Ed Z Z Z) ?_ | refine J (EU Z Z Z) ?_ | refine J (Ea Tryz.underlying34 Z Z Z) ?_ | refine J (Ec Tryz.underlying34 Z Z Z) ?_ | refine J (st_neqN Tryz.underlying34 Z Z) ?_ | refine J (Eb Tryz.underlying34 Z Z Z) ?_ | refine J (st_neqFN Tryz.underlying34 Z Z) ?_
  refine AH (Ey rfl ((by decide)) ?_);refine Am (AF (AJ (U (S3 2 Z Z Z Z) (AD Z Z (AH (AF (AF (AJ ?_))))))))
  first | refine J (AO rfl Bw Z Z Z) ?_ | refine J (AQ rfl Bw Z Z Z) ?_ | refine J (AR rfl Bw Z Z Z) ?_ | refine J (AP rfl Bw Z Z Z) ?_ | refine J (AN rfl Bw Z Z Z) ?_
  first | refine J (A0 Z Z Bf rfl) ?_ | refine J (AY Z Z Z Bf rfl) ?_ | refine J (AZ Z Z (rfl) rfl Bf rfl) ?_
  first | refine J (Cc rfl Tryz.underlying29 rfl) ?_ | refine J (C8 Z Z Tryz.underlying29 rfl) ?_ | refine J (Cd rfl Tryz.underlying29 rfl) ?_ | refine J (Cb rfl Tryz.underlying29 rfl) ?_ | refine J (CW rfl Tryz.underlying29 rfl) ?_ | refine J (C9 rfl Tryz.underlying29 rfl) ?_
  refine AC Z Z (AH (Au (De (α:=Nat×List (A4×Int)) (fun q=>⟨76,[(2,(.ptr 1 0 0)),(6,(.map 40 0)),(8,(.map 2 0)),(27,(.d (.sl none (p.it.map Aw)))),(28,(.d (AG (p.it.length:Int)))),(29,(.d (AG (q.1:Int))))],[(1,[Ml 31 p]),(40,[B5 AG BE (Ag l)]),(2,[B5 D5 AG q.2])]⟩) (fun q=>q.1≤p.it.length∧∀r,Ad q.2 r 0=HI ((p.it.take q.1).filter (Lv l)) r) (fun q=>p.it.length - q.1) ((0,[])) (⟨Nat.zero_le _,fun _=>rfl⟩) (BP hF [1,40,2] Z Z ⟨rfl,rfl,rfl,rfl,rfl,rfl,trivial⟩) ?_)));rintro ⟨k,M⟩ ⟨hk0,hM⟩;dsimp only at hk0 hM⊢;refine AF (AJ ?_)
  first | refine J (C7 Z Z Z) ?_ | refine J (Ca Z Z Z) ?_
  refine AH (AF ?_)
  first | refine BJ rfl (fun h30=>?_) (fun h30=>?_) | refine BB rfl (fun h30=>?_) (fun h30=>?_)
  ·have hk1:k<p.it.length:=DZ h30;refine Am (AF (Au (AF (AJ ?_))));have hci:=hck _ (List.getElem_mem hk1);have hs:=(P3 p.it[k] (G1 hci).1).by [(2,41)] rfl;have hEb:=bnd_E hci;have hEl:=len_E hci;have hEs:=fun r=>Ry (ctr p.it[k]) r;have hEn:=FG (ctr p.it[k]);have hT:=MW (l:=(p.it.take k).filter (Lv l)) (fun i hi=>hck i (List.mem_of_mem_take (List.mem_filter.1 hi).1)) (Nat.le_trans (List.length_filter_le _ _) (by rw [List.length_take];omega))
   obtain ⟨E,hEE⟩:∃E,sumL (ctr p.it[k])=E:=⟨_,rfl⟩
   rw [hEE] at hs hEb hEl hEs hEn
   first | refine J (CY (k) Z Z (rfl) (A2 hk1) Tryz.underlying29 rfl Br rfl) ?_ | refine J (CZ (k) Z Z (rfl) (A2 hk1) rfl Tryz.underlying29 Br rfl) ?_
   first | refine J (An Z Z A7 rfl) ?_ | refine J (Ao Z Z A7 Z Z Z) ?_ | refine J (Ap Z Z (rfl) rfl A7 rfl) ?_
   refine U (Cm 3 Da Z Z Z Z) (U (Bj Z Z Z Z Z Z Z Br) (AH (AF (AF (AJ (AC Z Z ?_))))))
   first | refine J (AO rfl B4 Z Z Z) ?_ | refine J (AQ rfl B4 Z Z Z) ?_ | refine J (AR rfl B4 Z Z Z) ?_ | refine J (AP rfl B4 Z Z Z) ?_ | refine J (AN rfl B4 Z Z Z) ?_
   first | refine J (A0 Z Z A9 rfl) ?_ | refine J (AY Z Z Z A9 rfl) ?_ | refine J (AZ Z Z (rfl) rfl A9 rfl) ?_
   refine J (IC (Ag l) (p.it[k].id) (false) _ Z Z Z DP GO Tn Z Z) ?_;rw [WT]
   first | refine J (F2 Z Z) ?_ | refine J (FT Z Z) ?_
   refine AH ?_
   first | refine BJ rfl (fun h37=>?_) (fun h37=>?_) | refine BB rfl (fun h37=>?_) (fun h37=>?_)
   ·refine C6 (AJ (J (Bi Z Z (A6 (k+1) (by omega)) rfl) (AC Z Z (AH ?_))));exact ⟨(k+1,M),⟨by show k+1≤_;omega,fun r=>by show Ad M r 0=HI ((p.it.take (k+1)).filter (Lv l)) r;rw [Ro hk1,if_neg (by unfold Lv;simpa using h37),List.append_nil];exact hM r⟩,by show p.it.length - (k+1)<p.it.length - k;omega,BP hF [1,40,2] rfl (rfl) ⟨rfl,rfl,rfl,rfl,rfl,rfl,trivial⟩⟩
   ·refine Am (AF (AJ ?_))
    first | refine J (An Z Z A7 rfl) ?_ | refine J (Ao Z Z A7 Z Z Z) ?_ | refine J (Ap Z Z (rfl) rfl A7 rfl) ?_
    refine U (HQ hs rfl [41] ⟨rfl,trivial⟩ Z Z Z Z Z Z Z Z Z) (U (HZ 4 Z Z Z El Z Z Z Z) (AH (Au (De (α:=List Nat×List (A4×Int)) (fun q=>⟨76,[(2,(.ptr 1 0 0)),(6,(.map 40 0)),(8,(.map 2 0)),(27,(.d (.sl none (p.it.map Aw)))),(28,(.d (AG (p.it.length:Int)))),(29,(.d (AG (k:Int)))),(40,(.ptr 4 0 0))],[(4,[.iter 41 0 E.length q.1]),(41,[B5 D5 AG E]),(1,[Ml 31 p]),(40,[B5 AG BE (Ag l)]),(2,[B5 D5 AG q.2])]⟩) (fun q=>∀r,Ad q.2 r 0+Ai (DW E (List.range E.length) q.1) r=HI ((p.it.take k).filter (Lv l)) r+Ai E r) (fun q=>(DW E (List.range E.length) q.1).length) (([],M)) (fun r=>by show Ad M r 0+Ai (DW E (List.range E.length) []) r=_;rw [GN (by simp),hM r]) (BP hF [4,41,1,40,2] Z Z ⟨rfl,rfl,rfl,rfl,rfl,rfl,rfl,trivial⟩) ?_))));rintro ⟨seen,N⟩ hI;dsimp only at hI⊢;refine AF (AJ (NA (E) Z Z Z Z (fun hl41=>?_) (fun j41 b41 k41 v41 hm41 hb41 hB41 hp41=>⟨_,rfl,?_⟩)))
    ·have hfin:∀r,Ad N r 0=HI ((p.it.take k).filter (Lv l)) r+Ai (ctr p.it[k]) r:=fun r=>by have h1:=hI r;rw [hl41] at h1;rw [←hEs r];have h2:Ai ([]:List (A4×Int)) r=0:=rfl;omega
     first | refine J (BT Z Z Z) ?_ | refine J (BS Z Z Z) ?_
     refine AH (AF (Ey Z Z (C6 (AJ (J (Bi Z Z (A6 (k+1) (by omega)) rfl) (AC Z Z (AH ?_)))))));exact ⟨(k+1,N),⟨by show k+1≤_;omega,fun r=>by show Ad N r 0=HI ((p.it.take (k+1)).filter (Lv l)) r;rw [Ro hk1,if_pos (by unfold Lv;simpa using h37),VC];exact hfin r⟩,by show p.it.length - (k+1)<p.it.length - k;omega,BP hF [1,40,2] rfl (rfl) ⟨rfl,rfl,rfl,rfl,rfl,rfl,trivial⟩⟩
    ·first | refine J (BT Z Z Z) ?_ | refine J (BS Z Z Z) ?_
     refine AH (AF (Dg Z Z (Am (Au (AF (AJ (J (H1 (E) j41 b41 Z Z Z hm41 hb41 rfl) ?_)))))))
     first | refine J (BT Z Z Z) ?_ | refine J (BS Z Z Z) ?_
     first | refine J (BT Z Z Z) ?_ | refine J (BS Z Z Z) ?_
     refine U (Cm 5 Gf Z Z Z Z) (U (Bj Z Z Z Z Z Z Z Wg) (AD Z Z (AH (G8 [[],[],[0,1],[],[0,1,2,3],[0,1,3],[0,1,3,5],[0,1,2,3,4,5,6]] BC rfl (WC 2 ([B5 D5 AG (BZ N k41 0)]) rfl ?_)))))
     first | refine AE [8] [] Z Z (fun _=>AB (B7 Z Z)) ?_ | refine AI [8] Z Z (fun _=>AB (B7 Z Z)) ?_
     first | refine AE [11] [] Z Z (fun _=>AB (An Z Z Ab rfl)) ?_ | refine AI [11] Z Z (fun _=>AB (An Z Z Ab rfl)) ?_ | refine AE [11] [] Z Z (fun _=>AB (Ao Z Z Ab Z Z Z)) ?_ | refine AI [11] Z Z (fun _=>AB (Ao Z Z Ab Z Z Z)) ?_ | refine AE [11] [] Z Z (fun _=>AB (Ap Z Z (rfl) rfl Ab rfl)) ?_ | refine AI [11] Z Z (fun _=>AB (Ap Z Z (rfl) rfl Ab rfl)) ?_
     refine IW [46,47] [] Z Z Z (fun _=>AB (IC (N) (k41) (0) _ Z Z Z El Ch Nk Z Z)) (fun _=>AB (IC (BZ (N) (k41) (0)) (k41) (0) _ Z Z Z El Ch Nk (Dq _ _ _ _) rfl)) ?_
     first | refine AE [12] [] Z Z (fun _=>AB (B7 Z Z)) ?_ | refine AI [12] Z Z (fun _=>AB (B7 Z Z)) ?_
     have hNb: -6000000000000000000≤Ad N k41 0+v41∧Ad N k41 0+v41≤6000000000000000000:=by {have h1:=hI k41;have h2:=Gx (l:=DW E (List.range E.length) seen) (fun x hx=>hEb x (lft_sub hx)) k41;have h3:=Gx hEb k41;have h4:=U6 (m:=E) (B:=List.range E.length) (seen:=seen);have h5:=hT k41;have h6:=hEb (k41,v41) (List.mem_of_getElem? hm41);simp only at h6;omega}
     first | refine AE [48,49] [] Z Z (fun _=>AB (Bi Z Z (IntWalk.i64_in _ (by omega)) rfl)) ?_ | refine AI [48,49] Z Z (fun _=>AB (Bi Z Z (IntWalk.i64_in _ (by omega)) rfl)) ?_
     refine Fw [46,47] [2] [(51,_)] Z Z (fun _=>Fx (Gi (N) (k41) (0) Z Z Z El Ch Nk Z Z)) (.inr ⟨51,_,rfl,rfl,rfl,rfl,rfl⟩) Z Z Z Z Z ?_ (hCn:=PI rfl)
     first | refine AE [51] [] Z Z (fun _=>AB (BT Z Z Z)) ?_ | refine AI [51] Z Z (fun _=>AB (BT Z Z Z)) ?_ | refine AE [51] [] Z Z (fun _=>AB (BS Z Z Z)) ?_ | refine AI [51] Z Z (fun _=>AB (BS Z Z Z)) ?_
     refine GZ 7 Z Z Z (BD 8 Z Z (U (Gj (N) (k41) (0) (Ad N k41 0+v41) Z Z Z Ch Z Z) (AH ⟨rfl,?_⟩)));refine GY ?_;exact ⟨(seen++ [b41],_),(fun r=>by show Ad (BO N k41 (Ad N k41 0+v41)) r 0+Ai (DW E (List.range E.length) (seen++ [b41])) r=_;have h1:=hI r;rw [Rz hp41,DS] at h1;rw [KJ];by_cases e:r=k41; · {rw [if_pos e];rw [if_pos e.symm] at h1;rw [e] at h1⊢;omega}; · {rw [if_neg e];rw [if_neg (fun h=>e h.symm)] at h1;omega}),by show (DW E (List.range E.length) (seen++ [b41])).length<(DW E (List.range E.length) seen).length;rw [hp41.length_eq];exact Nat.lt_succ_self _,BP hF [4,41,1,40,2] rfl (rfl) ⟨rfl,rfl,rfl,rfl,rfl,rfl,rfl,trivial⟩⟩
  ·refine C6 (AF ?_);have hfull:p.it.take k=p.it:=List.take_of_length_le (by have h:=h30;omega);rw [hfull] at hM;have hTb:=MW (l:=p.it.filter (Lv l)) (fun i hi=>hck i (List.mem_filter.1 hi).1) (Nat.le_trans (List.length_filter_le _ _) h1000);refine AJ (AD Z Z (AH (AF (AF (EO 13 900 Pa Z Z Z Z (AJ ?_))))))
   first | refine J (AO rfl G5 Z Z Z) ?_ | refine J (AQ rfl G5 Z Z Z) ?_ | refine J (AR rfl G5 Z Z Z) ?_ | refine J (AP rfl G5 Z Z Z) ?_ | refine J (AN rfl G5 Z Z Z) ?_
   first | refine J (A0 Z Z Fn rfl) ?_ | refine J (AY Z Z Z Fn rfl) ?_ | refine J (AZ Z Z (rfl) rfl Fn rfl) ?_
   first | refine J (Cc rfl Tryz.underlying28 rfl) ?_ | refine J (C8 Z Z Tryz.underlying28 rfl) ?_ | refine J (Cd rfl Tryz.underlying28 rfl) ?_ | refine J (Cb rfl Tryz.underlying28 rfl) ?_ | refine J (CW rfl Tryz.underlying28 rfl) ?_ | refine J (C9 rfl Tryz.underlying28 rfl) ?_
   refine AC Z Z (AH (Au (De (α:=List Roo) (fun acc=>⟨76,[(8,(.map 2 0)),(13,(.own 900 0 acc.length)),(55,(.d (.sl none (p.ro.map DT)))),(56,(.d (AG (p.ro.length:Int)))),(57,(.d (AG (acc.length:Int))))],[(900,[.rowD 74 7 (acc.map DT)]),(2,[B5 D5 AG M])]⟩) (fun acc=>acc.length≤p.ro.length∧acc=(totR p l).take acc.length) (fun acc=>p.ro.length - acc.length) ([]) (⟨Nat.zero_le _,by simp⟩) (BP hF [900,2] Z Z ⟨rfl,rfl,rfl,rfl,rfl,trivial⟩) ?_)));rintro acc ⟨ha0,hA⟩;refine AF (AJ ?_)
   first | refine J (C7 Z Z Z) ?_ | refine J (Ca Z Z Z) ?_
   refine AH (AF ?_)
   first | refine BJ rfl (fun h58=>?_) (fun h58=>?_) | refine BB rfl (fun h58=>?_) (fun h58=>?_)
   ·have ha1:acc.length<p.ro.length:=DZ h58;refine Am (AF (Au (AF (AJ ?_))))
    first | refine J (CY (acc.length) Z Z (rfl) (A2 ha1) Tryz.underlying28 rfl Jf rfl) ?_ | refine J (CZ (acc.length) Z Z (rfl) (A2 ha1) rfl Tryz.underlying28 Jf rfl) ?_
    first | refine J (An Z Z Is rfl) ?_ | refine J (Ao Z Z Is Z Z Z) ?_ | refine J (Ap Z Z (rfl) rfl Is rfl) ?_
    refine U (Cm 6 Lp Z Z Z Z) (U (Bj Z Z Z Z Z Z Z Jf) (AH (G8 [[],[],[1],[],[3],[],[],[6],[5,6,7],[3,4,5,6,7,8],[1,2,3,4,5,6,7,8,9],[1,2,3,4,5,6,7,8,9,10],[0,1,2,3,4,5,6,7,8,9,10,11],[0,1,2,3,4,5,6,7,8,9,10,11,12]] BC rfl (Hq ?_))))
    first | refine AE [13] [] Z Z (fun _=>AB (B7 Z Z)) ?_ | refine AI [13] Z Z (fun _=>AB (B7 Z Z)) ?_
    first | refine AE [15] [] Z Z (fun _=>AB (AO rfl C3 Z Z Z)) ?_ | refine AI [15] Z Z (fun _=>AB (AO rfl C3 Z Z Z)) ?_ | refine AE [15] [] Z Z (fun _=>AB (AQ rfl C3 Z Z Z)) ?_ | refine AI [15] Z Z (fun _=>AB (AQ rfl C3 Z Z Z)) ?_ | refine AE [15] [] Z Z (fun _=>AB (AR rfl C3 Z Z Z)) ?_ | refine AI [15] Z Z (fun _=>AB (AR rfl C3 Z Z Z)) ?_ | refine AE [15] [] Z Z (fun _=>AB (AP rfl C3 Z Z Z)) ?_ | refine AI [15] Z Z (fun _=>AB (AP rfl C3 Z Z Z)) ?_ | refine AE [15] [] Z Z (fun _=>AB (AN rfl C3 Z Z Z)) ?_ | refine AI [15] Z Z (fun _=>AB (AN rfl C3 Z Z Z)) ?_
    first | refine AE [62] [] Z Z (fun _=>AB (An Z Z Ab rfl)) ?_ | refine AI [62] Z Z (fun _=>AB (An Z Z Ab rfl)) ?_ | refine AE [62] [] Z Z (fun _=>AB (Ao Z Z Ab Z Z Z)) ?_ | refine AI [62] Z Z (fun _=>AB (Ao Z Z Ab Z Z Z)) ?_ | refine AE [62] [] Z Z (fun _=>AB (Ap Z Z (rfl) rfl Ab rfl)) ?_ | refine AI [62] Z Z (fun _=>AB (Ap Z Z (rfl) rfl Ab rfl)) ?_
    first | refine AE [15] [] Z Z (fun _=>AB (AO rfl IF Z Z Z)) ?_ | refine AI [15] Z Z (fun _=>AB (AO rfl IF Z Z Z)) ?_ | refine AE [15] [] Z Z (fun _=>AB (AQ rfl IF Z Z Z)) ?_ | refine AI [15] Z Z (fun _=>AB (AQ rfl IF Z Z Z)) ?_ | refine AE [15] [] Z Z (fun _=>AB (AR rfl IF Z Z Z)) ?_ | refine AI [15] Z Z (fun _=>AB (AR rfl IF Z Z Z)) ?_ | refine AE [15] [] Z Z (fun _=>AB (AP rfl IF Z Z Z)) ?_ | refine AI [15] Z Z (fun _=>AB (AP rfl IF Z Z Z)) ?_ | refine AE [15] [] Z Z (fun _=>AB (AN rfl IF Z Z Z)) ?_ | refine AI [15] Z Z (fun _=>AB (AN rfl IF Z Z Z)) ?_
    first | refine AE [64] [] Z Z (fun _=>AB (A0 Z Z Be rfl)) ?_ | refine AI [64] Z Z (fun _=>AB (A0 Z Z Be rfl)) ?_ | refine AE [64] [] Z Z (fun _=>AB (AY Z Z Z Be rfl)) ?_ | refine AI [64] Z Z (fun _=>AB (AY Z Z Z Be rfl)) ?_ | refine AE [64] [] Z Z (fun _=>AB (AZ Z Z (rfl) rfl Be rfl)) ?_ | refine AI [64] Z Z (fun _=>AB (AZ Z Z (rfl) rfl Be rfl)) ?_
    first | refine AE [8] [] Z Z (fun _=>AB (B7 Z Z)) ?_ | refine AI [8] Z Z (fun _=>AB (B7 Z Z)) ?_
    first | refine AE [15] [] Z Z (fun _=>AB (AO rfl C3 Z Z Z)) ?_ | refine AI [15] Z Z (fun _=>AB (AO rfl C3 Z Z Z)) ?_ | refine AE [15] [] Z Z (fun _=>AB (AQ rfl C3 Z Z Z)) ?_ | refine AI [15] Z Z (fun _=>AB (AQ rfl C3 Z Z Z)) ?_ | refine AE [15] [] Z Z (fun _=>AB (AR rfl C3 Z Z Z)) ?_ | refine AI [15] Z Z (fun _=>AB (AR rfl C3 Z Z Z)) ?_ | refine AE [15] [] Z Z (fun _=>AB (AP rfl C3 Z Z Z)) ?_ | refine AI [15] Z Z (fun _=>AB (AP rfl C3 Z Z Z)) ?_ | refine AE [15] [] Z Z (fun _=>AB (AN rfl C3 Z Z Z)) ?_ | refine AI [15] Z Z (fun _=>AB (AN rfl C3 Z Z Z)) ?_
    first | refine AE [67] [] Z Z (fun _=>AB (An Z Z Ab rfl)) ?_ | refine AI [67] Z Z (fun _=>AB (An Z Z Ab rfl)) ?_ | refine AE [67] [] Z Z (fun _=>AB (Ao Z Z Ab Z Z Z)) ?_ | refine AI [67] Z Z (fun _=>AB (Ao Z Z Ab Z Z Z)) ?_ | refine AE [67] [] Z Z (fun _=>AB (Ap Z Z (rfl) rfl Ab rfl)) ?_ | refine AI [67] Z Z (fun _=>AB (Ap Z Z (rfl) rfl Ab rfl)) ?_
    first | refine AE [66,68] [] Z Z (fun _=>AB (IC (M) (p.ro[acc.length].r) (0) _ Z Z Z El Ch Nk Z Z)) ?_ | refine AI [66,68] Z Z (fun _=>AB (IC (M) (p.ro[acc.length].r) (0) _ Z Z Z El Ch Nk Z Z)) ?_
    have hr1:=hram _ (List.getElem_mem ha1);have hr2:=hTb p.ro[acc.length].r;have hr3:=hM p.ro[acc.length].r
    first | refine AE [65,69] [] Z Z (fun _=>AB (Bi Z Z (IntWalk.i64_in _ (by omega)) rfl)) ?_ | refine AI [65,69] Z Z (fun _=>AB (Bi Z Z (IntWalk.i64_in _ (by omega)) rfl)) ?_
    first | refine AE [63,70] [] Z Z (fun _=>AB (Cu Lp Qz Z Z Z)) ?_ | refine AI [63,70] Z Z (fun _=>AB (Cu Lp Qz Z Z Z)) ?_
    refine Fw [71] [50] [(72,_)] Z Z (fun _=>Fx (Fg 50 Pa Z Z Z Z Z Z Z Z)) (.inr ⟨72,_,rfl,rfl,rfl,rfl,rfl⟩) Z Z Z Z Z (GZ 12 Z Z Z (BD 13 Z Z ?_))
    first | refine U (Ib (acc) ([⟨p.ro[acc.length].r,p.ro[acc.length].n+Ad M p.ro[acc.length].r 0⟩]) Z Z Z Z Z Z Z Z Pa (by simp only [List.length_singleton];omega) Z Z Z Z) ?_ | refine U (Ka (acc) ([⟨p.ro[acc.length].r,p.ro[acc.length].n+Ad M p.ro[acc.length].r 0⟩]) Z Z Z Z Z Z (fun _=>rfl) Pa (by simp only [List.length_singleton];omega) Z Z Z Z) ?_
    refine AH ⟨rfl,?_⟩;refine BD 14 Z Z (AD Z Z (AH ⟨rfl,?_⟩));refine GY (AJ (J (Bi Z Z (Q8 acc (⟨p.ro[acc.length].r,p.ro[acc.length].n+Ad M p.ro[acc.length].r 0⟩:Roo) (by omega)) rfl) (AC Z Z (AH ?_))));exact ⟨acc++ [⟨p.ro[acc.length].r,p.ro[acc.length].n+Ad M p.ro[acc.length].r 0⟩],⟨by rw [List.length_append];show acc.length+1≤_;omega,by rw [List.length_append];show _=(totR p l).take (acc.length+1);rw [List.take_succ_eq_append_getElem (by unfold totR;simpa using ha1),←hA];congr 1;unfold totR;simp [hM]⟩,by rw [List.length_append];show p.ro.length - (acc.length+1)<p.ro.length - acc.length;omega,BP hF [900,2] rfl (rfl) ⟨rfl,rfl,rfl,rfl,rfl,trivial⟩⟩
   ·refine C6 (AF ?_);have hfa:acc=totR p l:=by rw [hA];exact List.take_of_length_le (by unfold totR;rw [List.length_map];have h:=h58;omega)
    refine WV (emb:=DT) 13 900 acc Z Z Z Z Z Z Z (AJ (AC Z Z (AD Z Z (AD Z Z (AH (Af ?_))))));exact ⟨_,[],[],Ae rfl,rfl,rfl,by rw [hfa],rfl⟩
 ·have hc:=T7 p l hb hl hE;rw [if_neg hE];refine BY Tryz.func38 Z Z Tryz.ntmps38 Z Z Z fun F hF=>?_;refine AF (AJ (U (CJ 1 Z Z Z Z Z Z Z) (AD Z Z (S4 4 rfl (AD Z Z (AH (AF (AJ ?_))))))))
  first | refine J (An Z Z AW rfl) ?_ | refine J (Ao Z Z AW Z Z Z) ?_ | refine J (Ap Z Z (rfl) rfl AW rfl) ?_
  refine AC Z Z (J (BF (hc) Z Z) (AC Z Z ?_))
  first | refine J (BT Z Z Z) ?_ | refine J (BS Z Z Z) ?_
  first | refine J (BT Z Z Z) ?_ | refine J (BS Z Z Z) ?_
  refine AD Z Z (AD Z Z (AH (AF (AF (AJ (AC Z Z ?_))))))
  first | refine J (E9 Z Z Z) ?_ | refine J (Ed Z Z Z) ?_ | refine J (EU Z Z Z) ?_ | refine J (Ea Tryz.underlying34 Z Z Z) ?_ | refine J (Ec Tryz.underlying34 Z Z Z) ?_ | refine J (st_neqN Tryz.underlying34 Z Z) ?_ | refine J (Eb Tryz.underlying34 Z Z Z) ?_ | refine J (st_neqFN Tryz.underlying34 Z Z) ?_
  refine AH ?_;refine Dg rfl ((decide_eq_true hE)) (AF (AJ (AC Z Z (AD Z Z (S4 4 rfl (AD Z Z (AH (Af ?_))))))));exact ⟨_,[],[],Ae rfl,rfl,rfl,rfl,rfl⟩
def On (S:List Int) (x:Int):Bool:=decide (x∈S)
abbrev fnS (S:List Int):AV:= .fn 45 [.d (.ptr (.sl none (S.map AG)))]
theorem OP (S:List Int) (x:Int) (hS:S.length≤100000):AU Tryz.prog 45 [.d (AG x),.d (.ptr (.sl none (S.map AG)))] (BE (On S x)):=by
 refine BY Tryz.func45 Z Z Tryz.ntmps45 Z Z Z fun F hF=>(AF (AJ (AD Z Z (AH (AF (AJ ?_))))))
 first | refine J (A0 Z Z Aq rfl) ?_ | refine J (AY Z Z Z Aq rfl) ?_ | refine J (AZ Z Z (rfl) rfl Aq rfl) ?_
 refine AC Z Z (J (BF (JR S x (by omega)) Z Z) (AD Z Z (AH (Af ?_))));exact ⟨_,[],[],Ae rfl,rfl,rfl,rfl,rfl⟩
theorem YX (S l:List Int) (hS:S.length≤100000) (hl:l.length≤100000000):AU Tryz.prog 95 [.d (.sl none (l.map AG)),fnS S] (AG (WY (On S) l)):=by
 refine BY Tryz.func95 Z Z Tryz.ntmps95 Z Z Z fun F hF=>(AF (AJ (AD Z Z (AH (AF (AF (AJ (AC Z Z ?_))))))))
 first | refine J (Cc rfl Tryz.underlying33 rfl) ?_ | refine J (C8 Z Z Tryz.underlying33 rfl) ?_ | refine J (Cd rfl Tryz.underlying33 rfl) ?_ | refine J (Cb rfl Tryz.underlying33 rfl) ?_ | refine J (CW rfl Tryz.underlying33 rfl) ?_ | refine J (C9 rfl Tryz.underlying33 rfl) ?_
 refine AC Z Z (AH (Au (Dz (α:=Nat) (fun k=>⟨19,[(0,.d (.sl none (l.map AG))),(1,fnS S),(7,(.d (AG (l.length:Int)))),(8,(.d (AG (k:Int))))],[]⟩) (fun k=>k≤l.length∧∀x∈l.take k,On S x=false) (fun k=>l.length - k) (0) (⟨Nat.zero_le _,by simp⟩) (Ti ⟨rfl,rfl,rfl,rfl,trivial⟩) ?_)));rintro k ⟨hk0,hk⟩;refine AF (AJ ?_)
 first | refine J (C7 Z Z Z) ?_ | refine J (Ca Z Z Z) ?_
 refine AH (AF ?_)
 first | refine BJ rfl (fun h9=>?_) (fun h9=>?_) | refine BB rfl (fun h9=>?_) (fun h9=>?_)
 ·have hk1:k<l.length:=DZ h9;refine Am (AF (Au (AF ?_)));refine AJ (AC Z Z (AD Z Z (AH (AF (AJ (AC Z Z (AC Z Z (AC Z Z ?_))))))))
  first | refine J (CY (k) Z Z (rfl) (A2 hk1) Tryz.underlying33 rfl Dh rfl) ?_ | refine J (CZ (k) Z Z (rfl) (A2 hk1) rfl Tryz.underlying33 Dh rfl) ?_
  first | refine J (A0 Z Z A9 rfl) ?_ | refine J (AY Z Z Z A9 rfl) ?_ | refine J (AZ Z Z (rfl) rfl A9 rfl) ?_
  refine J (IJ (OP S l[k] hS) Z Z) (AH ?_)
  first | refine BJ rfl (fun h16=>?_) (fun h16=>?_) | refine BB rfl (fun h16=>?_) (fun h16=>?_)
  ·refine AF (AJ (AC Z Z (AD Z Z (AH (Af ?_)))));exact ⟨_,[],[],Ae rfl,rfl,rfl,Al (by unfold WY;rw [MN hk1 hk (by unfold On;simpa using h16)]),rfl⟩
  ·refine Am (AJ (J (Bi Z Z (A6 (k+1) (by omega)) rfl) (AC Z Z (AH ?_))));exact ⟨k+1,⟨by show k+1≤_;omega,by rw [List.take_succ_eq_append_getElem hk1];intro x hx;rcases List.mem_append.1 hx with hx | hx;exact hk x hx;rw [List.mem_singleton.1 hx];unfold On;simpa using h16⟩,by show l.length - (k+1)<l.length - k;omega,⟨rfl,rfl,fun _ _=>MT.get (l:=[(0,_),(1,_),(7,_),(8,_)]) ⟨rfl,rfl,rfl,rfl,trivial⟩⟩⟩
 ·refine C6 (AF (AJ (AD Z Z (AH (Af ?_)))));exact ⟨_,[],[],Ae rfl,rfl,rfl,Al (by unfold WY;rw [QG (fun x hx=>hk x (by rw [List.take_of_length_le (by have h:=h9;omega)];exact hx))]),rfl⟩
def GP (S l:List Int):List Int:=l.filter fun x=>!On S x
theorem Ra {S l:List Int} (h:∀x∈l,On S x=false):GP S l=l:=List.filter_eq_self.2 fun x hx=>by rw [h x hx];rfl
theorem kept_in {S l:List Int} {k:Nat} (hk:k<l.length) (h:On S l[k]=false):GP S (l.take (k+1))=GP S (l.take k)++ [l[k]]:=by
 unfold GP;rw [E7 hk,if_pos (by rw [h];rfl)]
theorem R9 {S l:List Int} {k:Nat} (hk:k<l.length) (h:On S l[k]=true):GP S (l.take (k+1))=GP S (l.take k):=by
 unfold GP;rw [E7 hk,if_neg (by rw [h];simp),List.append_nil]
theorem delI_c (S l:List Int) (hS:S.length≤100000) (hl:l.length≤100000):A8 Tryz.prog 44 [.own 930 0 l.length,fnS S] [(930,[.rowD 3 1 (l.map AG)])] fun r H'=>r= .own 930 0 (GP S l).length∧H'=[(930,[.rowD 3 1 ((GP S l++List.replicate (l.length - (GP S l).length) 0).map AG)])]:=by
 have hix:=YX S l hS (by omega)
 cases hfi:l.findIdx? (On S) with
 | none=>
  have hall:∀x∈l,On S x=false:=fun x hx=>by have:=List.findIdx?_eq_none_iff.1 hfi x hx;simpa using this
  have hix2:WY (On S) l= -1:=by unfold WY;rw [hfi]
  rw [hix2] at hix;have hkp:=Ra hall;refine BY Tryz.func44 Z Z Tryz.ntmps44 Z Z Z fun F hF=>(AF (AJ (AD Z Z (AH (AF (AJ ?_))))));refine AC Z Z (AC Z Z (J (DO [930] hix (by exact ⟨.inr ⟨_,_,rfl,.own Z Z (by simp) (List.take_of_length_le (by simp)),rfl⟩,.inl rfl,trivial⟩) Z Z) (AD Z Z (AH (AF (AF (AJ (AC Z Z ?_))))))))
  first | refine J (EP Z Z Z) ?_ | refine J (EW Z Z Z) ?_ | refine J (EA Z Z Z) ?_ | refine J (EQ Tryz.underlying3 Z Z Z) ?_ | refine J (ET Tryz.underlying3 Z Z Z) ?_ | refine J (ES Tryz.underlying3 Z Z) ?_ | refine J (ER Tryz.underlying3 Z Z Z) ?_ | refine J (EV Tryz.underlying3 Z Z) ?_
  refine AH (Dg rfl (rfl) (AF (AJ (AC Z Z (AD Z Z (AH (Af ?_)))))));exact ⟨_,[930],_,Ae rfl,rfl,rfl,by rw [hkp],by rw [hkp];simp⟩
 | some k0=>
  obtain ⟨hk0,hk0p,hk0n⟩:=List.findIdx?_eq_some_iff_getElem.1 hfi;have hix2:WY (On S) l=(k0:Int):=by unfold WY;rw [hfi]
  rw [hix2] at hix
  have hpre:∀x∈l.take k0,On S x=false:=fun x hx=>by
   obtain ⟨j,hj,rfl⟩:=List.mem_take_iff_getElem.1 hx;have:=hk0n j (by omega)
   simpa using this
  have hst:GP S (l.take (k0+1))=l.take k0:=by rw [R9 hk0 hk0p,Ra hpre]
  refine BY Tryz.func44 Z Z Tryz.ntmps44 Z Z Z fun F hF=>(AF (AJ (AD Z Z (AH (AF (AJ ?_))))));refine AC Z Z (AC Z Z (J (DO [930] hix (by exact ⟨.inr ⟨_,_,rfl,.own Z Z (by simp) (List.take_of_length_le (by simp)),rfl⟩,.inl rfl,trivial⟩) Z Z) (AD Z Z (AH (AF (AF (AJ (AC Z Z ?_))))))))
  first | refine J (EP Z Z Z) ?_ | refine J (EW Z Z Z) ?_ | refine J (EA Z Z Z) ?_ | refine J (EQ Tryz.underlying3 Z Z Z) ?_ | refine J (ET Tryz.underlying3 Z Z Z) ?_ | refine J (ES Tryz.underlying3 Z Z) ?_ | refine J (ER Tryz.underlying3 Z Z Z) ?_ | refine J (EV Tryz.underlying3 Z Z) ?_
  refine AH (Ey rfl ((decide_eq_false (by omega))) (Am ?_));refine AF (AF (AJ (AC Z Z (J (Bi Z Z (A6 (k0+1) (by omega)) rfl) (AD Z Z (AH (Au (De (α:=Nat×Nat×List Int) (fun q=>⟨42,[(0,(.own 930 0 l.length)),(1,(fnS S)),(5,(.d (AG (q.1:Int)))),(6,(.d (AG (q.2.1:Int))))],[(930,[.rowD 3 1 (q.2.2.map AG)])]⟩) (fun q=>q.2.1≤l.length∧q.1<q.2.1∧q.2.2.length=l.length∧q.2.2.take q.1=GP S (l.take q.2.1)∧q.2.2.drop q.2.1=l.drop q.2.1) (fun q=>l.length - q.2.1) ((k0,k0+1,l)) (⟨by show k0+1≤_;omega,Nat.lt_succ_self _,rfl,hst.symm,rfl⟩) (BP hF [930] Z Z ⟨rfl,rfl,rfl,rfl,trivial⟩) ?_))))))));rintro ⟨i,j,c⟩ ⟨hj0,hij,hcl,hct,hcd⟩;dsimp only at hj0 hij hcl hct hcd⊢;refine AF (AF (AJ (AC Z Z (AC Z Z ?_))))
  first | refine J (Cc rfl Tryz.underlying33 rfl) ?_ | refine J (C8 Z Z Tryz.underlying33 rfl) ?_ | refine J (Cd rfl Tryz.underlying33 rfl) ?_ | refine J (Cb rfl Tryz.underlying33 rfl) ?_ | refine J (CW rfl Tryz.underlying33 rfl) ?_ | refine J (C9 rfl Tryz.underlying33 rfl) ?_
  first | refine J (C7 Z Z Z) ?_ | refine J (Ca Z Z Z) ?_
  refine AH ?_
  first | refine BJ rfl (fun h19=>?_) (fun h19=>?_) | refine BB rfl (fun h19=>?_) (fun h19=>?_)
  ·have hj1:j<l.length:=DZ h19;refine Am (AF (Au (AF (AJ ?_))));have hjc:j<c.length:=by omega
   have hcj:c[j]=l[j]:=by have h1:(c.drop j)[0]?=(l.drop j)[0]?:=by {rw [hcd]};rw [List.getElem?_drop,List.getElem?_drop,Nat.add_zero,List.getElem?_eq_getElem hjc,List.getElem?_eq_getElem hj1] at h1;injection h1
   refine AC Z Z (AC Z Z ?_)
   first | refine J (CY (j) Z Z (rfl) (hj1) Tryz.underlying33 rfl Dh rfl) ?_ | refine J (CZ (j) Z Z (rfl) (hj1) rfl Tryz.underlying33 Dh rfl) ?_
   first | refine J (A0 Z Z A9 rfl) ?_ | refine J (AY Z Z Z A9 rfl) ?_ | refine J (AZ Z Z (A2 hjc) rfl A9 rfl) ?_
   refine AD Z Z (AH (AF (AJ (AC Z Z (AC Z Z (J (IJ (OP S c[j] hS) Z Z) ?_))))))
   first | refine J (F2 Z Z) ?_ | refine J (FT Z Z) ?_
   refine AH ?_
   first | refine BJ rfl (fun h29=>?_) (fun h29=>?_) | refine BB rfl (fun h29=>?_) (fun h29=>?_)
   ·have hkj:On S l[j]=false:=by rw [←hcj];unfold On;simpa using h29
    refine AF (AJ (AC Z Z (AC Z Z (AC Z Z ?_))))
    first | refine J (CY (i) Z Z (rfl) ((by omega)) Tryz.underlying33 rfl Dh rfl) ?_ | refine J (CZ (i) Z Z (rfl) ((by omega)) rfl Tryz.underlying33 Dh rfl) ?_
    refine U (VG (c) (c[j]) Z Z Z Z Z Z (by omega) rfl Dh) (AH (AJ ?_));refine AC Z Z (J (Bi Z Z (A6 (i+1) (by omega)) rfl) (AD Z Z (AH (AJ (AC Z Z (J (Bi Z Z (A6 (j+1) (by omega)) rfl) (AD Z Z (AH ?_))))))));exact ⟨(i+1,j+1,_),⟨by show j+1≤_;omega,by show i+1<j+1;omega,by show (c.set i c[j]).length=_;rw [List.length_set];exact hcl,by show (c.set i c[j]).take (i+1)=GP S (l.take (j+1));rw [kept_in hj1 hkj,←hct,List.take_succ_eq_append_getElem (by rw [List.length_set];omega),List.getElem_set_self,List.take_set_of_le (Nat.le_refl i),hcj],by show (c.set i c[j]).drop (j+1)=l.drop (j+1);rw [List.drop_set_of_lt (by omega),←List.tail_drop,←List.tail_drop,hcd]⟩,by show l.length - (j+1)<l.length - j;omega,BP hF [930] rfl (rfl) ⟨rfl,rfl,rfl,rfl,trivial⟩⟩
   ·have hkj:On S l[j]=true:=by rw [←hcj];unfold On;simpa using h29
    refine Am (AJ (AC Z Z (J (Bi Z Z (A6 (j+1) (by omega)) rfl) (AD Z Z (AH ?_)))));exact ⟨(i,j+1,c),⟨by show j+1≤_;omega,by show i<j+1;omega,hcl,by show c.take i=GP S (l.take (j+1));rw [R9 hj1 hkj,hct],by show c.drop (j+1)=l.drop (j+1);rw [←List.tail_drop,←List.tail_drop,hcd]⟩,by show l.length - (j+1)<l.length - j;omega,BP hF [930] rfl (rfl) ⟨rfl,rfl,rfl,rfl,trivial⟩⟩
  ·refine C6 (AF ?_);have hje:j=l.length:=by have h:=h19;omega
   have hfin:c.take i=GP S l:=by rw [hct,hje,List.take_length]
   have hil:i=(GP S l).length:=by rw [←hfin,List.length_take];omega
   refine AJ (AC Z Z (AC Z Z (RT (emb:=AG) (zd:=0) c i Z Z Z Z hcl.symm rfl (by omega) Tryz.underlying33 Dh Tryz.zeroValue3 Z Z Z Z Z Z (AH (AF (AJ (AC Z Z (AC Z Z ?_))))))))
   first | refine J (M6 (i) Z Z Z (by simp only [List.length_map,List.length_append,List.length_take,List.length_replicate];omega) Tryz.underlying33 Dh (by simp [D.cells,byteD]) (rfl) rfl) ?_ | refine J (VI (i) Z Z Z (by simp only [List.length_map,List.length_append,List.length_take,List.length_replicate];omega) rfl Tryz.underlying33 Dh rfl) ?_
   refine AD Z Z (AH (Af ?_));exact ⟨_,[930],_,Ae rfl,rfl,rfl,by rw [←hil],by rw [hfin,hcl,hil]⟩
end Go.Proofs.YtnkkaeblokdifaaGreat
