import Derived.Test.YteifpcnphnhaoaaGreatMg21
namespace Go.Proofs.YteifpcnphnhaoaaGreat
open Go.RowKit
set_option maxRecDepth 100000
theorem ZT {γ:Type} (f:γ ->AP) {l m ys:List γ} (hn:(l.map f).Nodup) (hm:m.Perm l) (hms:m.Pairwise fun a b=>¬Bh (f b) (f a)<0) (h1:ys.Perm l) (h2:ys.Pairwise fun a b=>¬Bh (f b) (f a)<0):ys=m:=by
 have st:∀{k:List γ},(k.map f).Nodup ->(k.Pairwise fun a b=>¬Bh (f b) (f a)<0) ->k.Pairwise fun a b=>Bh (f a) (f b)<0:=fun {k} hn h=>by
  rw [List.Nodup,ωy] at hn;refine (h.and hn).imp fun {a b} ⟨g1,g2⟩=>?_;have h1:=O5.anti (f a) (f b);have h2:Bh (f a) (f b)≠0:=fun e=>g2 (Du.1 e);omega
 exact Cw (R:=fun a b=>Bh (f a) (f b)<0) (fun x=>by rw [O5.refl];omega) (fun x y z=>O5.trans _ _ _) (st ((h1.map f).nodup_iff.2 hn) h2) (st ((hm.map f).nodup_iff.2 hn) hms) fun x=>by rw [h1.mem_iff,hm.mem_iff]
theorem Pq (rs:List AP):(Fz rs).Pairwise fun a b=>¬JK rs b a<0:=by
 have:=List.pairwise_mergeSort (le:=fun i j=>decide (JK rs i j≤0)) (fun a b c h1 h2=>?_) (fun a b=>?_) (List.range rs.length)
 ·refine List.Pairwise.imp (fun {a b} h=>?_) this;have h1:=(Pi rs).anti a b;have h2:JK rs a b≤0:=by simpa using h
  omega
 ·have h1':JK rs a b≤0:=by simpa using h1
  have h2':JK rs b c≤0:=by simpa using h2
  have:JK rs a c≤0:=by
   by_cases e1:JK rs a b=0
   ·rw [(Pi rs).eqv a b c e1];exact h2'
   ·by_cases e2:JK rs b c=0
    ·have a1:=(Pi rs).anti b c;have e3:=(Pi rs).eqv c b a (by omega);have a2:=(Pi rs).anti a c;have a3:=(Pi rs).anti a b;omega
    ·have:=(Pi rs).trans a b c (by omega) (by omega);omega
  simpa using this
 ·have h1:=(Pi rs).anti a b
  by_cases h:JK rs a b≤0
  ·simp [h]
  ·have:JK rs b a≤0:=by omega
   simp [this]
theorem XF (p:Prb):(Cp p).Perm p.ro:=by
 unfold Cp;refine ((YM (p.ro.map A2.r)).map _).trans (List.Perm.of_eq ?_);rw [ψ]
 apply χc (by simp)
 intro i h1 h2;simp only [ωd,ψu];exact CI DN (by simpa using h2)
theorem R3 (p:Prb):(Cp p).Pairwise fun a b=>¬Bh b.r a.r<0:=by
 unfold Cp;rw [ωy];refine χk (fun {a b} ha hb h=>?_) (Pq (p.ro.map A2.r));have ha':=ς.1 ((YM (p.ro.map A2.r)).mem_iff.1 ha);have hb':=ς.1 ((YM (p.ro.map A2.r)).mem_iff.1 hb);unfold JK at h;rw [Lu (by simpa using hb'),Lu (by simpa using ha')] at h;exact h
theorem XG {p:Prb} (hp:(p.ro.map A2.r).Nodup) {ys:List A2} (h1:ys.Perm p.ro) (h2:ys.Pairwise fun a b=>¬Bh b.r a.r<0):ys=Cp p:=
 ZT A2.r (l:=p.ro) hp (XF p) (R3 p) h1 h2
theorem ZX {p:Prb} (hp:Az p=0) {ys:List A2} (h1:ys.Perm p.ro) (h2:ys.Pairwise fun a b=>¬Bh b.r a.r<0):ys=Cp p:=XG (G7 hp) h1 h2
def largeS (p:Prb):List Int:=EQ (ordP p) (L0 p).2 (ordP p).length
theorem JA (p:Prb) (hf:GV p) (hE:Az p=0):AO Tryz.prog 39 [.d (CB p)] (.tup [.sl none ((largeS p).map AF),AF 0]):=by
 have hx:=U3 p hf hE;refine BB Tryz.func39 Z Z Tryz.ntmps39 Z Z Z fun F hF=>(AC (AE (V (CE 1 Z Z Z Z Z Z Z) (AB Z Z (AB Z Z (AD (AC (AE ?_))))))));refine J (BO Z Z B8 Z Z Z) (J (BZ (hx) Z Z) (goMv Z Z (J (D8 Z Z Z) (J (D8 Z Z Z) (J (D8 Z Z Z) (AB Z Z (AB Z Z (AB Z Z ?_))))))));refine AD (AC (AE (goMv Z Z (goMv Z Z (AB Z Z (AB Z Z (AD (A8 ?_))))))));exact ⟨_,[],[],A7 Z,Z,Z,Z,Z⟩
def Ux (l:List Int) (x:Int):List Int:=l.filter fun y=>decide (y≠x)
def overL (its:List AK) (x:A2) (l:List Int):Int:=max x.n 0+((its.filter fun i=>decide (i.id∈l)).map fun i=>CR i x.r).sum
theorem be (i:AK) (r:AP): -1000000000000000≤CR i r∧CR i r≤1000000000000000:=by
 unfold CR
 split
 ·rename_i h
  have:=MS h.1 r
  simpa [Mx] using this
 ·omega
def blkR (its:List AK) (l:List Int) (id:Int) (x:A2):Option OC:=if id∈JZ its x.r then (((JZ its x.r).takeWhile fun a=>decide (a≠id)).find? fun a=>decide (a∉l)).map fun a=>⟨id,1,x.r,a⟩ else none
def blockR (p:Prb) (l:List Int) (id:Int):Option OC:=match (Cp p).findSome? (blkR (BJ p.it) l id) with
 | some e=>some e
 | none=>((Bm p id).af.find? fun a=>decide (a∉l)).map fun a=>⟨id,2,EM,a⟩
theorem ON {l:List A2} (h:E1 l=0):∀x∈l,BN x.r=0:=fun x hx=>by
 have h0:=W4.1 h;obtain ⟨j,hj,rfl⟩:=ωu hx;have:=h0 j (ς.2 hj);unfold OO at this;rw [CI DN hj] at this
 split at this
 ·contradiction
 ·rename_i hv
  exact Classical.byContradiction fun h=>hv h
theorem Ij {l:List AK} (h:Fk l=0):∀x∈l,BH x=0:=fun x hx=>by
 have h0:=W4.1 h;obtain ⟨j,hj,rfl⟩:=ωu hx;have:=h0 j (ς.2 hj);unfold OU at this;rw [CI AY hj] at this
 split at this
 ·contradiction
 ·rename_i hv
  exact Classical.byContradiction fun h=>hv h
theorem on_mem {its:List AK} (hn:(its.map AK.id).Nodup) (on:Nat ->Bool) {i:Nat} (hi:i<its.length):(its.getD i AY).id∈EQ its on its.length↔on i=true:=by
 unfold EQ;rw [ϖ]
 constructor
 ·rintro ⟨j,hj,e⟩;obtain ⟨h1,h2⟩:=ωa.1 hj;have hj':=ς.1 h1;rw [CI AY hi,CI AY hj'] at e
  have:j=i:=by
   have h3:(its.map AK.id)[j]'(by simpa using hj')=(its.map AK.id)[i]'(by simpa using hi):=by
    rw [ωd,ωd];exact e
   exact (List.getElem_inj hn).1 h3
  rw [←this];exact h2
 ·intro h;exact ⟨i,ωa.2 ⟨ς.2 hi,h⟩,Z⟩
theorem Xg (its:List AK):its=(List.range its.length).map fun i=>its.getD i AY:=by
 apply χc (by simp)
 intro i h1 h2;simp only [ωd,ψu];rw [CI AY h1]
structure PVO (p:Prb) (ros:List A2) (its:List AK):Prop where
 e:Az p=0
 f:GV p
 s:SmO ros its
 hr:Cp p=ros
 hi:BJ p.it=its
 v:∀x∈its,BH x=0
 w:∀x∈ros,BN x.r=0
 up:ros.Pairwise fun a b=>Bh a.r b.r<0
theorem id_inj {its:List AK} (hn:(its.map AK.id).Nodup) {i j:Nat} (hi:i<its.length) (hj:j<its.length) (h:(its.getD i AY).id=(its.getD j AY).id):i=j:=by
 rw [CI AY hi,CI AY hj] at h
 have h3:(its.map AK.id)[i]'(by simpa using hi)=(its.map AK.id)[j]'(by simpa using hj):=by
  rw [ωd,ωd];exact h
 exact (List.getElem_inj hn).1 h3
def FewQ (p:Prb) (n:Nat):Prop:=p.it.length≤n∧p.ro.length≤30∧∀i∈p.it,i.po.length≤8∧i.pa.length≤8∧i.af.length≤8
instance (p:Prb) (n:Nat):Decidable (FewQ p n):=inferInstanceAs (Decidable (_∧_∧∀i∈p.it,_))
def bP (p:Prb) (l:List Int):Prop:=(∀id∈l,blockR p l id=none)∧∀x∈p.ro,¬overL p.it x l<0
noncomputable instance (p:Prb) (l:List Int):Decidable (bP p l):=Classical.propDecidable _
theorem bu (n:Nat) (on:Nat ->Bool):EV n on≤n:=by
 unfold EV;exact ωe (ωh _ _) (by simp)
def rsP (p:Prb):List AP:=p.ro.map A2.r
def dR (rs:List AP) (i:AK):List (AP×Int):=(AR i).filter fun d=>decide (d.1∈rs)
theorem bk (rs:List AP) (i:AK):((dR rs i).map Prod.fst).Nodup:=List.Nodup.sublist (List.Sublist.map _ ψi) (DC i)
theorem Dk {α β:Type} [DecidableEq α] {O:List (α×β)} {x:α} {v:β} (h:x∉O.map Prod.fst):Av O x v=O++ [(x,v)]:=by
 induction O with
 | nil=>rfl
 | cons a l ih=>
  obtain ⟨k,b⟩:=a;simp only [ωm,Φ,not_or] at h;simp only [Av,φk];rw [ϑ h.1,ih h.2]
theorem Gc {M:MF} {b:Nat} {x y:Af}:B1 (B1 M b x) b y=B1 M b y:=by
 funext i
 by_cases h:i=b
 ·rw [h,Fm,Fm]
 ·rw [Fs h,Fs h,Fs h]
theorem PL {M:MF} {b:Nat} {x:Af} (h:M b=some x):B1 M b x=M:=by
 funext i
 by_cases e:i=b
 ·rw [e,Fm,h]
 ·rw [Fs e]
theorem MD {α:Type} {l:List α} (hn:l.Nodup) {j:Nat} (hj:j<l.length):l[j]∉l.take j:=fun h=>by
 rw [←χw j l,χp] at hn;exact hn.2.2 _ h _ (by rw [χg hj];exact ωo ..) rfl
abbrev WF:FuncId:=119
structure Ie (N:MF) (b:Nat) (l:List Int):Prop where
 ex:∃m,N b=some (.cells 137 [mD m])∧N m=some (.map none (BQ AF Ak (BA l)))
abbrev Wd (b:Nat):D:= .fn WF [] [pD b 0]
theorem Fu (l:List Int) (hn:l.Nodup) (hl:l.length≤1000000):AN Tryz.prog 66 [.d (.sl none (l.map AF))] [] fun r H'=>∃b N,r= .d (Wd b)∧H'=[(41,[.multi N])]∧Ie N b l:=by
 refine BB Tryz.func66 Z Z Tryz.ntmps66 Z Z Z fun F hF=>(AC (AE (AB Z Z (AD ?_))));refine AC (I7 41 Z Z Z (AE (V (Ph 1 Z Z Z Z) (PH 6 1 41 hF Z Z Z Z Z Z Z Z Z Z (fun _=>rfl) fun m hm=>(MB 41 m Z (Fm _ _ _) Z (V (CO 2 zl137 Z Z Z Z) (V (Bi Z Z Z Z Z Z Z sz137) (AD ?_))))))));refine AC (AC (AE (goMv Z Z (J (Bz Z Tryz.underlying28 Z) (goMv Z Z (AD (A5 (B6 (α:=Nat×MF) (fun q=>⟨17,[(3,(.ptr 2 0 0)),(7,(.d (.sl none (l.map AF)))),(8,(.d (AF (l.length:Int)))),(9,(.d (AF (q.1:Int))))],[(2,[.blk 137 [.d (mD m)]]),(41,[.multi q.2])]⟩) (fun q=>q.1≤l.length∧q.2 m=some (.map none (BQ AF Ak (BA (l.take q.1))))) (fun q=>l.length - q.1) ((0,_)) (⟨Γ _,Fm _ _ _⟩) (A1 hF [2,41] Z Z ⟨Z,Z,Z,Z,trivial⟩) ?_))))))));rintro ⟨k,N⟩ ⟨hk,hN⟩;dsimp only at hk hN⊢;refine AC (AE (J (BT Z Z Z) (AD (AC (Ah Z (fun h10=>?_) (fun h10=>?_))))))
 ·refine A3 (AC (A5 (AC ?_)));have hkl:k<l.length:=Bf h10;refine AE (J (Bb (k) Z Z (Z) (Ag hkl) Tryz.underlying28 Z BD Z) (J (Cm Z Z Aq Z) (AB Z Z (AD ?_))));refine AE (J (A9 Z Z Z Rk Z) (goMv Z Z (V (RK (f:=41) (BA (l.take k)) l[k] true Z Z hN Z E9 HP Z Z) (AD (AE (J (Ay Z Z (AT (k+1) (by omega)) Z) (goMv Z Z (AD ?_))))))));exact ⟨(k+1,_),⟨hkl,by show B1 _ _ _ _=_;rw [Fm,φ hkl,c7 (MD hn hkl)]⟩,by show l.length - (k+1)<l.length - k;omega,A1 hF [2,41] Z (Z) ⟨Z,Z,Z,Z,trivial⟩⟩
 ·refine BF (AC ?_);have hke:k=l.length:=by have:=h10;omega
  rw [hke,ωt] at hN;refine D6 (ds:=[mD m]) 3 2 41 hF Z Z Z Z Z Z Z Z Z Z Z (fun _=>rfl) fun b hb=>(AE (J (YU (ds:=[]) (es:=[pD b 0]) Z Z Z Z Z) (AB Z Z (AD (A8 ?_)))));exact ⟨_,[41],_,A7 Z,Z,Z,b,_,Z,Z,⟨m,Fm _ _ _,by rw [Fs (fun e=>by rw [e,hb] at hN;cases hN)];exact hN⟩⟩
theorem IG {N:MF} {b:Nat} {l:List Int} (h:Ie N b l) (id:Int):AN Tryz.prog WF [.d (AF id),.d (pD b 0)] [(41,[.multi N])] fun r H'=>r= .d (Ak (decide (id∈l)))∧H'=[(41,[.multi N])]:=by
 obtain ⟨m,h1,h2⟩:=h;refine BB Tryz.func119 Z Z Tryz.ntmps119 Z Z Z fun F hF=>(AC (AE (AB Z Z ?_)));refine AD (AC (AE (J (EX (f:=41) Z Z h1 Z Rk Z) (goMv Z Z (J (RM (f:=41) (BA l) id false _ Z Z h2 Z E9 HP T3 (W7 l id) Z) (AB Z Z (AD (A8 ?_))))))));exact ⟨_,[41],_,A7 Z,Z,Z,Z,Z⟩
theorem Pc (p:Prb) (l:List Int) (hb:E7 p) (hl:l.length≤100000) (h1000:p.it.length≤1000):AO Tryz.prog 64 [.d (CB p),.d (.sl none (l.map AF))] (AF (C3 p l)):=by
 refine BB Tryz.func64 Z Z Tryz.ntmps64 Z Z Z fun F hF=>(AC (AE (V (CE 1 Z Z Z Z Z Z Z) (AB Z Z ?_))));refine AD (AC (AE (J (BO Z Z B8 Z Z Z) (goMv Z Z (J (BZ (Yb p l hb hl h1000) Z Z) (goMv Z Z (J (D8 Z Z Z) (J (D8 Z Z Z) ?_))))))));refine AB Z Z (AB Z Z (AD (AC (AE (goMv Z Z (AB Z Z (AD (A8 ?_))))))));exact ⟨_,[],[],A7 Z,Z,Z,Z,Z⟩
abbrev Cs (e:AK×Nat):D:= .agg [AF e.1.id,AF e.1.pr,AF e.1.sq,.sl none (e.1.po.map Br),.sl none (e.1.pa.map E3),.sl none (e.1.af.map AF),mD e.2]
abbrev Lk (m:List (AP×Int)):List (D×D):=BQ C4 AF m
def YO (rs:List AP) (M:MF) (E:List (AK×Nat)):Prop:=∀e∈E,M e.2=some (.map none (Lk (dR rs e.1)))
theorem YO.add {rs:List AP} {M:MF} {E:List (AK×Nat)} (h:YO rs M E) {i:AK} {b:Nat} (hb:M b=none):YO rs (B1 M b (.map none (Lk (dR rs i)))) (E++ [(i,b)]):=fun e he=>by
 rcases ν.1 he with he | he
 ·rw [Fs (fun e2=>by have:=h e he;rw [e2,hb] at this;cases this)];exact h e he
 ·rw [ξ.1 he,Fm]
def dK (rs:List AP) (i:AK) (j:Nat):List (AP×Int):=((AR i).take j).filter fun d=>decide (d.1∈rs)
theorem dK_end (rs:List AP) (i:AK):dK rs i (AR i).length=dR rs i:=by unfold dK dR;rw [ωt]
theorem dK_hit {rs:List AP} {i:AK} {j:Nat} (hj:j<(AR i).length) (h:((AR i)[j]).1∈rs):Av (dK rs i j) ((AR i)[j]).1 ((AR i)[j]).2=dK rs i (j+1):=by
 have hn:=DC i
 have hf:((AR i)[j]).1∉(dK rs i j).map Prod.fst:=fun hm=>by
  obtain ⟨d,hd,e⟩:=ϖ.1 hm;have h1:d∈(AR i).take j:=(ωa.1 hd).1;have h2:((AR i)[j]).1∈((AR i).map Prod.fst).take j:=by rw [←List.map_take,←e];exact χl h1
  have h3:=MD hn (j:=j) (by rw [ψ];exact hj);rw [ωd] at h3;exact h3 h2
 rw [Dk hf];unfold dK;rw [φ hj,ωz]
 simp [h]
theorem dK_miss {rs:List AP} {i:AK} {j:Nat} (hj:j<(AR i).length) (h:((AR i)[j]).1∉rs):dK rs i (j+1)=dK rs i j:=by
 unfold dK;rw [φ hj,ωz]
 simp [h]
def Sg (a b:AK):Int:=if GF a b<0 then -1 else 1
theorem Sf {a b:AK}:Sg a b<0↔GF a b<0:=by
 unfold Sg
 by_cases h:GF a b<0
 ·rw [κ h];exact ⟨fun _=>h,fun _=>by decide⟩
 ·rw [ϑ h];exact ⟨fun h2=>absurd h2 (by decide),fun h2=>absurd h2 h⟩
theorem bW:Go.Sort.SWO (ltOf Sg):=by
 have e:ltOf Sg=ltOf GF:=by
  funext a b
  exact decide_eq_decide.2 Sf
 rw [e];exact DZ.swo
theorem U5 (a b:AK):AO Tryz.prog 116 [.d (Al a),.d (Al b)] (AF (Sg a b)):=by
 refine BB Tryz.func116 Z Z Tryz.ntmps116 Z Z Z fun F hF=>(AC (AE (V (CE 1 Z Z Z Z Z Z Z) (V (CE 2 Z Z Z Z Z Z Z) (AB Z Z ?_)))));refine AD (AC (AC (AE (J (BO Z Z Bt Z Z Z) (J (BO Z Z Bt Z Z Z) (J (BZ (cL a b) Z Z) (AD (Ah Z (fun h7=>?_) (fun h7=>?_)))))))))
 ·refine AC (AE (AB Z Z (AD (A8 ?_))));exact ⟨_,[],[],A7 Z,Z,Z,Aj (by unfold Sg;rw [κ h7]),Z⟩
 ·refine A3 (AC (AE (AB Z Z (AD (A8 ?_)))));exact ⟨_,[],[],A7 Z,Z,Z,Aj (by unfold Sg;rw [ϑ h7]),Z⟩
theorem Xy (l:List AK) (hl:l.length≤1000000):AN Tryz.prog 114 [.d (.sl none (l.map Al))] [] fun r H'=>r= .own 20 0 l.length∧H'=[(20,[.rowD 55 6 (l.map Al)])]:=by
 refine BB Tryz.func114 Z Z Tryz.ntmps114 Z Z Z fun F hF=>(AC (AE (AB Z Z ?_)));skip;refine AD (AC (AC (AE (goMv Z Z (FJ 3 Z (fun h0=>?_) ?_)))))
 ·refine J (EE Tryz.underlying37 Z Z) (AD (D9 Z (Z) (AC (AE (AB Z Z (Vi 2 20 OK Z Z Z Z (AD (A8 ?_))))))));exact ⟨_,[20],_,A7 Z,Z,Z,by rw [List.map_eq_nil_iff.1 h0];rfl,by rw [List.map_eq_nil_iff.1 h0];rfl⟩
 ·refine J (EE Tryz.underlying37 Z Z) ?_;refine AD (Db Z (Z) (A3 (AC (AE (V (Dz 20 OK Z Z Z Z Z Z Z Z) (goMv Z Z (V (FC (([]:List AK)) (l) Z Z Z Z Z Z (fun _=>rfl) OK (by simp only [φq];omega) Z Z Z Z) (AB Z Z ?_))))))));skip;refine AD (A8 ?_);exact ⟨_,[20],_,A7 Z,Z,Z,by simp,Z⟩
theorem rs_put {p:Prb} (hn:(rsP p).Nodup) {k:Nat} (hk:k<p.ro.length):Av (BA ((rsP p).take k)) p.ro[k].r true=BA ((rsP p).take (k+1)):=by
 have hk':k<(rsP p).length:=by unfold rsP;rw [ψ];exact hk
 have e:(rsP p)[k]=p.ro[k].r:=ωd ..;rw [←e,c7 (MD hn hk'),φ hk']
set_option maxHeartbeats 4000000 in
theorem P7 (p:Prb) (hE:Az p=0) (hf:GV p) (g:FuncId) (caps:List D) (N:MF) (qp:Int ->Bool) (hq:∀id,AN Tryz.prog g (.d (AF id)::dL caps) [(41,[.multi N])] fun r H'=>r= .d (Ak (qp id))∧H'=[(41,[.multi N])]):
  AN Tryz.prog 65 [.d (CB p),.d (.fn g [] caps)] [(41,[.multi N])] fun r H'=>∃E M,r= .d (.sl none (E.map Cs))∧H'=[(41,[.multi N]),(40,[.multi M])]∧YO (rsP p) M E∧E.map Prod.fst=(ordP p).filter fun i=>qp i.id:=by
 have hO:ordP p=BJ p.it:=κ hE;rw [hO]
 obtain ⟨its,hits⟩:∃its,BJ p.it=its:=⟨_,Z⟩
 have hil:its.length=p.it.length:=by rw [←hits];exact DH p.it
 have hmem:∀i∈its,i∈p.it:=fun i hi=>by rw [←hits] at hi;exact (W5 p.it).mem_iff.1 hi
 have hi30:=hf.i;have hr100:=hf.r;have hrn:(rsP p).Nodup:=G7 hE;have hrl:(rsP p).length=p.ro.length:=ψ _;have hsq:=LU (O3 hE).2.1;rw [hits];refine BB Tryz.func65 Z Z Tryz.ntmps65 Z Z Z fun F hF=>(AC (AE ?_));refine V (CE 1 Z Z Z Z Z Z Z) (AB Z Z (AD (AC (AE (V (Ph 50 Z Z Z Z) (AB Z Z (AD (AC ?_))))))));refine AC (AE (J (A4 Z Dr Z Z Z) (J (A9 Z Z Z Mt Z) (J (Bz Z Tryz.underlying36 Z) (goMv Z Z (AD (A5 (B6 (α:=Nat) (fun k=>⟨76,[(1,.d (.fn g [] caps)),(2,(.ptr 1 0 0)),(5,(.map 50 0)),(19,(.d (.sl none (p.ro.map CZ)))),(20,(.d (AF (p.ro.length:Int)))),(21,(.d (AF (k:Int))))],[(1,[.blk 39 [.d (.sl none (p.ro.map CZ)),.d (.sl none (p.it.map Al))]]),(50,[BM C4 Ak (BA ((rsP p).take k))]),(41,[.multi N])]⟩) (fun k=>k≤p.ro.length) (fun k=>p.ro.length - k) (0) (Γ _) (A1 hF [1,50,41] Z Z ⟨Z,Z,Z,Z,Z,Z,trivial⟩) ?_))))))));rintro k hk;refine AC (AE (J (BT Z Z Z) (AD (AC (Ah Z (fun h22=>?_) (fun h22=>?_))))))
 ·refine A3 (AC (A5 (AC ?_)));have hkl:k<p.ro.length:=Bf h22;refine AE (J (Bb (k) Z Z (Z) (Ag hkl) Tryz.underlying36 Z Lc Z) ?_);refine J (GW Z Z ZP Z) (V (CO 2 Qn Z Z Z Z) (V (Bi Z Z Z Z Z Z Z Lc) (AD (AE (goMv Z Z (J (A4 Z Dp Z Z Z) (J (BO Z Z CY Z Z Z) (V (T9 (BA ((rsP p).take k)) (p.ro[k].r) (true) Z Z Z Vp CJ Z Z) ?_))))))));rw [rs_put hrn hkl];refine AD (AE (J (Ay Z Z (AT (k+1) (by omega)) Z) (goMv Z Z (AD ?_))));exact ⟨k+1,hkl,by omega,A1 hF [1,50,41] Z (Z) ⟨Z,Z,Z,Z,Z,Z,trivial⟩⟩
 ·refine BF (AC ?_);have hke:k=p.ro.length:=by have:=h22;omega
  rw [hke,←hrl,ωt];refine AE (AB Z Z (AD (AC (AE (J (A4 Z E6 Z Z Z) (J (A9 Z Z Z Kf Z) (V (Eu (Xy p.it (by omega)) Z [20] ⟨Z,trivial⟩ Z Z Z Z Z Z Z Z Z) (AB Z Z ?_))))))));refine AD (AC (AE (goMv Z Z (V (Lt laysI (k:=6) (by decide) Tryz.isAgg55 Tryz.sizeOf55 Tryz.func116 Z Z SO Sg bW p.it its (by omega) (fun x _ y _=>U5 x y) (fun ys g1 g2=>by rw [←hits];exact V3 hsq g1 (g2.imp fun {a b} h h2=>h (Sf.2 h2))) Z Z Z Ky Z Z Z Z Z) (AD (AC (AC (Lo (emb:=Al) 9 20 its Z Z Z hil.symm Z Z Z ?_))))))));refine I7 40 Z Z Z (AE (goMv Z Z (J (Bz Z Tryz.underlying37 Z) (goMv Z Z (AD (A5 (O4 8 30 ZL Z Z Z Z (B6 (α:=Nat×List (AK×Nat)×MF) (fun q=>⟨76,[(1,.d (.fn g [] caps)),(2,(.ptr 1 0 0)),(5,(.map 50 0)),(8,(.own 30 0 q.2.1.length)),(34,(.d (.sl none (its.map Al)))),(35,(.d (AF (its.length:Int)))),(36,(.d (AF (q.1:Int))))],[(50,[BM C4 Ak (BA (rsP p))]),(41,[.multi N]),(30,[.rowD 131 7 (q.2.1.map Cs)]),(40,[.multi q.2.2])]⟩) (fun q=>q.1≤its.length∧YO (rsP p) q.2.2 q.2.1∧q.2.1.map Prod.fst=(its.take q.1).filter fun i=>qp i.id) (fun q=>its.length - q.1) ((0,[],_)) (⟨Γ _,(fun e he=>by cases he),Z⟩) (A1 hF [50,41,30,40] Z Z ⟨Z,Z,Z,Z,Z,Z,Z,trivial⟩) ?_))))))));rintro ⟨k,E,M⟩ ⟨hk,hR,hEq⟩;dsimp only at hk hR hEq⊢;refine AC (AE (J (BT Z Z Z) (AD (AC (Ah Z (fun h37=>?_) (fun h37=>?_))))))
  ·refine A3 (AC (A5 (AC ?_)));have hkl:k<its.length:=Bf h37;have hki:=hmem _ (θ hkl);have hkx:=hf.x _ hki;have hEl:E.length≤30:=by have h1:(E.map Prod.fst).length≤its.length:=(by rw [hEq];exact ωe (ωh _ _) (by rw [Ω];omega));rw [ψ] at h1;omega
   refine AE (J (Bb (k) Z Z (Z) (Ag hkl) Tryz.underlying37 Z C8 Z) (J (GW Z Z Bt Z) (V (CO 2 EY Z Z Z Z) (V (Bi Z Z Z Z Z Z Z C8) (AD (AC ?_))))));refine AC (AE (goMv Z Z (J (A4 Z MV Z Z Z) (J (A9 Z Z Z Aq Z) (V (YV (hq its[k].id) Z [41] ⟨Z,trivial⟩ Z Z Z Z Z Z Z Z Z) (J (L7 Z Z) (AD (KP Z (fun h44=>?_) (fun h44=>?_)))))))))
   ·have hq44:¬qp its[k].id=true:=by simpa using h44
    refine BF (AE (J (Ay Z Z (AT (k+1) (by omega)) Z) (goMv Z Z (AD ?_))));exact ⟨(k+1,E,M),⟨hkl,hR,by show _=(its.take (k+1)).filter _;rw [φ hkl,ωz,hEq,φj,ϑ hq44];simp⟩,by show its.length - (k+1)<its.length - k;omega,A1 hF [50,41,30,40] Z (Z) ⟨Z,Z,Z,Z,Z,Z,Z,trivial⟩⟩
   ·have hq44:qp its[k].id=true:=by simpa using h44
    refine A3 (AC (AE (J (BO Z Z Bt Z Z Z) (V (Ph 51 Z Z Z Z) (PH 46 51 40 hF Z Z Z Z Z Z Z Z Z Z (fun _=>rfl) fun hh hb=>(MB 40 hh Z (Fm _ _ _) Z ?_))))));rw [Gc];refine J (Fe MW pl131 Z Z Z) (V (CO 3 MW Z Z Z Z) (V (Bi Z Z Z Z Z Z Z Gy) (AD (AC ?_))));refine AE (J (BO Z Z Bt Z Z Z) (J (BZ (Sl its[k] (by omega) (by omega) (by omega)) Z Z) (goMv Z Z (J (D8 Z Z Z) (J (D8 Z Z Z) (AB Z Z (AB Z Z (AD ?_))))))));refine AC (AC (AE (goMv Z Z (J (Bz Z Tryz.underlying215 Z) (goMv Z Z (AD (A5 (B6 (α:=Nat) (fun j=>⟨76,[(1,.d (.fn g [] caps)),(2,(.ptr 1 0 0)),(5,(.map 50 0)),(8,(.own 30 0 E.length)),(12,(.ptr 3 0 0)),(34,(.d (.sl none (its.map Al)))),(35,(.d (AF (its.length:Int)))),(36,(.d (AF (k:Int)))),(53,(.d (.sl none ((AR its[k]).map OV)))),(54,(.d (AF ((AR its[k]).length:Int)))),(55,(.d (AF (j:Int))))],[(3,[.blk 131 [.d (AF its[k].id),.d (AF its[k].pr),.d (AF its[k].sq),.d (.sl none (its[k].po.map Br)),.d (.sl none (its[k].pa.map E3)),.d (.sl none (its[k].af.map AF)),.d (mD hh)]]),(50,[BM C4 Ak (BA (rsP p))]),(41,[.multi N]),(30,[.rowD 131 7 (E.map Cs)]),(40,[.multi (B1 M hh (.map none (Lk (dK (rsP p) its[k] j))))])]⟩) (fun j=>j≤(AR its[k]).length) (fun j=>(AR its[k]).length - j) (0) (Γ _) (A1 hF [3,50,41,30,40] Z Z ⟨Z,Z,Z,Z,Z,Z,Z,Z,Z,Z,Z,trivial⟩) ?_))))))));rintro j hj;refine AC (AE (J (BT Z Z Z) (AD (AC (Ah Z (fun h56=>?_) (fun h56=>?_))))))
    ·refine A3 (AC (A5 (AC ?_)));have hdl:=MO (x:=its[k]) hkx;have hjl:j<(AR its[k]).length:=Bf h56;refine AE (J (Bb (j) Z Z (Z) (Ag hjl) Tryz.underlying215 Z VJ Z) (J (GW Z Z rw218 Z) (V (CO 4 Y0 Z Z Z Z) (V (Bi Z Z Z Z Z Z Z VJ) ?_))));refine AD (AC (AE (goMv Z Z (J (A4 Z Jo Z Z Z) (J (BO Z Z CY Z Z Z) (J (HQ (BA (rsP p)) ((AR its[k])[j]).1 false _ Z Z Z Vp CJ T3 (W7 _ _) Z) (AD (Ah Z (fun h62=>?_) (fun h62=>?_)))))))))
     ·refine AE (J (A4 Z MM Z Z Z) (J (A9 Z Z Z Vd Z) (J (A4 Z Jo Z Z Z) (J (BO Z Z CY Z Z Z) (J (A4 Z WI Z Z Z) (J (A9 Z Z Z Kg Z) (V (RK (f:=40) (dK (rsP p) its[k] j) ((AR its[k])[j]).1 ((AR its[k])[j]).2 Z Z (Fm _ _ _) Z Bv CJ Z Z) ?_)))))));rw [Gc,dK_hit hjl h62];refine AD (AE (J (Ay Z Z (AT (j+1) (by omega)) Z) (goMv Z Z (AD ?_))));exact ⟨j+1,hjl,by omega,A1 hF [3,50,41,30,40] Z (Z) ⟨Z,Z,Z,Z,Z,Z,Z,Z,Z,Z,Z,trivial⟩⟩
     ·refine A3 (AE (J (Ay Z Z (AT (j+1) (by omega)) Z) (goMv Z Z (AD ?_))));exact ⟨j+1,hjl,by omega,A1 hF [3,50,41,30,40] Z (by simp only [dK_miss hjl h62];rfl) ⟨Z,Z,Z,Z,Z,Z,Z,Z,Z,Z,Z,trivial⟩⟩
    ·refine BF ?_;have hje:j=(AR its[k]).length:=by have:=h56;omega
     rw [hje,dK_end];refine AE (goMv Z Z ?_);refine J (BO Z Z LO Z Z Z) (V (Dz 31 ZL Z Z Z Z Z Z Z Z) (V (I8 (E) ([(its[k],hh)]) Z Z Z Z Z Z Z Z ZL (by simp only [Ψ];omega) Z Z Z Z) (AB Z Z (AD (AE (J (Ay Z Z (AT (k+1) (by omega)) Z) (goMv Z Z (AD ?_))))))));exact ⟨(k+1,E++ [(its[k],hh)],_),⟨hkl,hR.add hb,by show _=(its.take (k+1)).filter _;rw [φ hkl,ωz,ωc,hEq,φj,κ hq44];rfl⟩,by show its.length - (k+1)<its.length - k;omega,A1 hF [50,41,30,40] Z (Z) ⟨Z,Z,Z,Z,Z,Z,Z,trivial⟩⟩
  ·refine BF (AC ?_);have hke:k=its.length:=by have:=h37;omega
   rw [hke,ωt] at hEq;refine Lo (emb:=Cs) 8 30 E Z Z Z Z Z Z Z (AE (goMv Z Z (AB Z Z (AD (A8 ?_)))));exact ⟨_,[41,40],_,A7 Z,Z,Z,E,M,Z,Z,hR,hEq⟩
abbrev AM (n:Nat):D:=AF (n:Int)
abbrev natsD (l:List Nat):D:= .sl none (l.map AM)
theorem Ks {l:List Nat} {k:Nat} (h:k<l.length):(l.map AM)[k]? =some (AM (nth l k)):=by rw [Ag h,Ny h]
theorem eqv {a b:D} (h:a=b):AV.d a=AV.d b:=by rw [h]
theorem swpJ {l j:List Nat} {a b:Nat} (ha:a<l.length) (hb:b<l.length):((l++j).set a (nth l b)).set b (nth l a)=IH l a b++j:=by
 rw [List.set_append_left _ _ ha,List.set_append_left _ _ (by simpa using hb)];rfl
theorem takeJ (l j:List Nat) {x:Nat}:((l++j).map AM).take l.length++ [AM x].take 1=(l++ [x]).map AM:=by
 rw [←List.map_take,List.take_left];simp
theorem popJ {l j:List Nat} (h:0<l.length):l.take (l.length - 1)++([nth l (l.length - 1)]++j)=l++j:=by
 have e:=χw (l.length - 1) l;rw [χg (by omega),show l.length - 1+1=l.length by omega,List.drop_length,←Ny (by omega)] at e;rw [←ψm,e]
theorem quo2 (j:Nat):Int.tdiv ((j:Int) - 1) 2=(((j - 1) / 2:Nat):Int):=by
 cases j with
 | zero=>rfl
 | succ j=>rw [show ((j+1:Nat):Int) - 1=(j:Int) by omega,Nat.add_sub_cancel];rfl
theorem AN.top {P:Program} {f:FuncId} {args:List AV} {CH H0:Hp} (h:AN P f args CH fun r H'=>(∃b:Bool,r= .d (Ak b))∧H'=H0):AN P f args CH fun r H'=>r= .top∧H'=H0:=
 ⟨h.1,fun F ρ vs h1 h2 h2' h3 h4 h5=>(h.2 F ρ vs h1 h2 h2' h3 h4 h5).mono fun e w' ⟨v,r,H',ρ',e1,⟨_,e3⟩,_,hh⟩=>⟨v,.top,H',ρ',e1,⟨Z,e3⟩,.top,hh⟩⟩
theorem bdec {p q:Prop} [Decidable p] [Decidable q] (h:p↔q):AV.d (Ak (decide p))=AV.d (Ak (decide q)):=by rw [decide_eq_decide.2 h]
theorem pt3:Ed Tryz.prog 3=true:=by kernel_rfl
theorem Z7:Ed Tryz.prog 321=true:=by kernel_rfl
theorem mLen:JM Tryz.prog 321 "Len" 223:=fun b w=>by kernel_rfl
theorem SB:JM Tryz.prog 321 "Less" 296:=fun b w=>by kernel_rfl
theorem SA:JM Tryz.prog 321 "Swap" 299:=fun b w=>by kernel_rfl
theorem mPush:JM Tryz.prog 321 "Push" 298:=fun b w=>by kernel_rfl
theorem mPop:JM Tryz.prog 321 "Pop" 297:=fun b w=>by kernel_rfl
abbrev Ji (g:List (List Nat)):D:= .sl none (g.map natsD)
structure GB (g:List (List Nat)):Prop where
 n:g.length≤65536
 e:∀l∈g,l.length≤1048576
 lt:∀l∈g,∀x∈l,x<g.length
theorem EI {g:List (List Nat)} {i:Nat} (h:i<g.length):sucs g i=g[i]:=by simp [sucs,h]
theorem S6 {g:List (List Nat)} {i:Nat} (h:i<g.length):(g.map natsD)[i]? =some (natsD (sucs g i)):=by rw [Ag h,EI h]
theorem GB.len {g:List (List Nat)} (h:GB g) {i:Nat} (hi:i<g.length):(sucs g i).length≤1048576:=by rw [EI hi];exact h.e _ (θ hi)
theorem GB.suc {g:List (List Nat)} (h:GB g) {i x:Nat} (hi:i<g.length) (hx:x∈sucs g i):x<g.length:=by rw [EI hi] at hx;exact h.lt _ (θ hi) x hx
def Q5 (g:List (List Nat)) (i j:Nat):Nat:=((List.range i).map fun a=>(sucs g a).count j).sum
theorem Pa (g:List (List Nat)) (i j:Nat):Q5 g (i+1) j=Q5 g i j+(sucs g i).count j:=by
 unfold Q5;rw [ψj,ωc,ψr];simp
theorem WR {g:List (List Nat)} (h:GB g) (j:Nat):∀i,i≤g.length ->Q5 g i j≤i*1048576
 | 0,_=>by simp [Q5]
 | i+1,hi=>by
  have:=WR h j i (by omega);have:=List.count_le_length (a:=j) (l:=sucs g i);have:=h.len (i:=i) (by omega);rw [Pa];omega
theorem bt (g:List (List Nat)) (j:Nat):Q5 g g.length j=LB g [] j:=by
 unfold Q5 LB
 congr 1
theorem Th {l:List Nat} {k:Nat} (h:k<l.length) (j:Nat):(l.take (k+1)).count j=(l.take k).count j+if nth l k=j then 1 else 0:=by
 rw [φ h,List.count_append,Ny h]
 by_cases e:l[k]=j
 ·subst e;simp
 ·rw [ϑ e,List.count_cons_of_ne e];rfl
theorem bd {l:List Nat} {k:Nat} (h:k<l.length):l.drop k=nth l k::l.drop (k+1):=by rw [Ny h];exact χg h
theorem rep0S (n:Nat):List.replicate n (D.raw (.int .i64 0))=(List.replicate n 0).map AM:=by rw [List.map_replicate];rfl
theorem nth_rep (n k:Nat):nth (List.replicate n 0) k=0:=by
 unfold nth;rw [ϱ,List.getElem?_replicate];split<;>rfl
theorem getset {w:List Nat} {y v:Nat} (h:y<w.length):((w.set y v).map AM)[y]? =some (AM v):=by
 rw [Ks (by simpa using h),Gb h,κ rfl]
theorem degS_le {g:List (List Nat)} (h:GB g) (done:List Nat) (j:Nat):LB g done j≤g.length*1048576:=by
 have key:∀n,n≤g.length ->((List.range n).map fun i=>if i∈done then 0 else (sucs g i).count j).sum≤n*1048576:=by
  intro n
  induction n with
  | zero=>intro _;exact Γ _
  | succ n ih=>
   intro hn;have h1:=ih (by omega);have h2:=List.count_le_length (a:=j) (l:=sucs g n);have h3:=h.len (i:=n) (by omega)
   have h4:(if n∈done then 0 else (sucs g n).count j)≤1048576:=by
    by_cases e:n∈done
    ·rw [κ e];exact Γ _
    ·rw [ϑ e];exact ωe h2 h3
   rw [ψj,ωc,ψr,φf,List.sum_singleton,Nat.succ_mul];exact Nat.add_le_add h1 h4
 exact key _ (υ _)
theorem oi_wle {g:List (List Nat)} {K:Nat ->Nat} {w q out ls:List Nat} {y:Nat} (hg:GB g) (h:OI g K w q out (y::ls)) (hy:y<g.length) (hl:ls.length≤1048576):nth w y≤69000000000:=by
 have h1:=degS_le hg out y;have h2:=hg.n;have h3:=List.count_le_length (a:=y) (l:=y::ls);rw [h.deg y hy];rw [ψo] at h3;omega
theorem oi_row {g:List (List Nat)} {K:Nat ->Nat} {w q out:List Nat} {x k:Nat} (h:OI g K w q out ((sucs g x).drop k)) (e:k=(sucs g x).length):OI g K w q out []:=by
 rw [e,List.drop_length] at h;exact h
noncomputable def ordG (g:List (List Nat)) (K:Nat ->Nat):List Nat:=Classical.epsilon fun out=>Ql g K out∧∀y,¬Cf g out y
theorem ordG_eq {g:List (List Nat)} {K:Nat ->Nat} (hK:∀a b,a<g.length ->b<g.length ->K a=K b ->a=b) {out:List Nat} (h1:Ql g K out) (h2:∀y,¬Cf g out y):ordG g K=out:=by
 have h:Ql g K (ordG g K)∧∀y,¬Cf g (ordG g K) y:=Classical.epsilon_spec (p:=fun out=>Ql g K out∧∀y,¬Cf g out y) ⟨out,h1,h2⟩;exact bJ hK h.1 h1 h.2 h2
structure FI (K:Nat ->Nat) (w:List Nat) (i:Nat) (l:List Nat):Prop where
 nd:l.Nodup
 mem:∀x,x∈l↔x<i∧nth w x=0
 hp:KO K l
theorem FI.le {K:Nat ->Nat} {w:List Nat} {i:Nat} {l:List Nat} (h:FI K w i l):l.length≤i:=by
 have:=Cr h.nd (m:=List.range i) fun x hx=>ς.2 ((h.mem x).1 hx).1
 rwa [ωf] at this
theorem fi_zero (K:Nat ->Nat) (w:List Nat):FI K w 0 []:=⟨.nil,fun x=>by simp,fun i h0 hi=>by simp at hi⟩
theorem fi_push {K:Nat ->Nat} {w:List Nat} {i:Nat} {l:List Nat} (h:FI K w i l) (hz:nth w i=0):FI K w (i+1) (LW K l i):=by
 have hp:=NQ K l i;refine ⟨hp.nodup_iff.2 (φa.2 ⟨fun hm=>φd _ ((h.mem i).1 hm).1,h.nd⟩),fun x=>?_,NR h.hp i⟩;rw [hp.mem_iff,Φ,h.mem]
 constructor
 ·rintro (rfl | ⟨h1,h2⟩)
  ·exact ⟨by omega,hz⟩
  ·exact ⟨by omega,h2⟩
 ·rintro ⟨h1,h2⟩
  by_cases e:x=i
  ·exact .inl e
  ·exact .inr ⟨by omega,h2⟩
theorem fi_skip {K:Nat ->Nat} {w:List Nat} {i:Nat} {l:List Nat} (h:FI K w i l) (hz:nth w i≠0):FI K w (i+1) l:=by
 refine ⟨h.nd,fun x=>?_,h.hp⟩;rw [h.mem]
 constructor
 ·rintro ⟨h1,h2⟩;exact ⟨by omega,h2⟩
 ·rintro ⟨h1,h2⟩
  by_cases e:x=i
  ·subst e;exact (hz h2).elim
  ·exact ⟨by omega,h2⟩
structure CW (g:List (List Nat)) (i k:Nat) (w:List Nat):Prop where
 len:w.length=g.length
 val:∀j,j<g.length ->nth w j=Q5 g i j+((sucs g i).take k).count j
theorem cw_zero (g:List (List Nat)):CW g 0 0 (List.replicate g.length 0):=⟨by simp,fun j _=>by rw [nth_rep];simp [Q5]⟩
theorem cw_step {g:List (List Nat)} {i k:Nat} {w:List Nat} (hg:GB g) (h:CW g i k w) (hi:i<g.length) (hk:k<(sucs g i).length):
  nth (sucs g i) k<w.length∧nth w (nth (sucs g i) k)≤100000000000∧CW g i (k+1) (w.set (nth (sucs g i) k) (nth w (nth (sucs g i) k)+1)):=by
 have hx:nth (sucs g i) k<g.length:=hg.suc hi (Ct hk);have hxw:nth (sucs g i) k<w.length:=by rw [h.len];exact hx
 refine ⟨hxw,?_,⟨by simpa using h.len,fun j hj=>?_⟩⟩
 ·rw [h.val _ hx];have:=WR hg (nth (sucs g i) k) i (by omega);have:=List.count_le_length (a:=nth (sucs g i) k) (l:=(sucs g i).take k);rw [Ω] at this;have:=hg.len hi;have:=hg.n;omega
 ·rw [Gb hxw,Th hk]
  by_cases e:nth (sucs g i) k=j
  ·rw [κ e.symm,κ e,e,h.val j hj];omega
  ·rw [ϑ fun e'=>e e'.symm,ϑ e,h.val j hj];omega
theorem cw_row {g:List (List Nat)} {i:Nat} {w:List Nat} (h:CW g i (sucs g i).length w):CW g (i+1) 0 w:=⟨h.len,fun j hj=>by rw [h.val j hj,ωt,Pa];simp⟩
theorem cw_end {g:List (List Nat)} {w:List Nat} (h:CW g g.length 0 w):w.length=g.length∧∀j,j<g.length ->nth w j=LB g [] j:=
 ⟨h.len,fun j hj=>by rw [h.val j hj,bt];simp⟩
def c9 (rs:List AP) (a b:AK):Prop:=(∃d∈dR rs a,d.2<0∧0<A6 (dR rs b) d.1 0)∨b.id∈a.af
noncomputable instance (rs:List AP) (a b:AK):Decidable (c9 rs a b):=Classical.propDecidable _
theorem iOq {α:Type} {acc rest:List α} {x:List α} {y:α} {all:List α} (h:(acc++x).Perm all) (hx:x.Perm (y::rest)):((acc++ [y])++rest).Perm all:=by
 refine List.Perm.trans ?_ h;rw [ψm];exact (List.Perm.append_left acc hx).symm
theorem aa {α β:Type} {m:List (α×β)} {j:Nat} {x:α×β} (h:m[j]? =some x):x∈m:=ζ h
set_option maxHeartbeats 1000000 in
theorem waits_c {rs:List AP} {M:MF} (a b:AK×Nat) (ha:M a.2=some (.map none (Lk (dR rs a.1)))) (hb:M b.2=some (.map none (Lk (dR rs b.1)))) (haf:a.1.af.length≤100000):
  AN Tryz.prog 132 [.d (Cs a),.d (Cs b)] [(40,[.multi M])] fun r H'=>r= .d (Ak (decide (c9 rs a.1 b.1)))∧H'=[(40,[.multi M])]:=by
 obtain ⟨a,ma⟩:=a;obtain ⟨b,mb⟩:=b;dsimp only at ha hb haf⊢
 obtain ⟨L,hL⟩:∃L,dR rs a=L:=⟨_,Z⟩
 have hWt:c9 rs a b↔((∃d∈L,d.2<0∧0<A6 (dR rs b) d.1 0)∨b.id∈a.af):=by rw [←hL];exact Iff.rfl
 rw [hL] at ha;refine BB Tryz.func132 Z Z Tryz.ntmps132 Z Z Z fun F hF=>(AC (Pg 40 ma Z ha (fun _ _=>rfl) fun B c hB hBn=>?_))
 obtain ⟨M1,hM1⟩:∃M1,B1 M ma (.map (some (B,c)) (Lk L))=M1:=⟨_,Z⟩
 rw [hM1];have h1a:M1 ma=some (.map (some (B,c)) (Lk L)):=by rw [←hM1,Fm]
 have h1b:∃bs,M1 mb=some (.map bs (Lk (dR rs b))):=by
  by_cases e:mb=ma
  ·subst e;rw [ha] at hb;injection hb with hb;injection hb with _ hb;exact ⟨_,by rw [h1a,hb]⟩
  ·exact ⟨none,by rw [←hM1,Fs e];exact hb⟩
 obtain ⟨bsb,h1b⟩:=h1b;have hback:B1 M1 ma (.map none (Lk L))=M:=by rw [←hM1,Gc];exact PL ha
 refine AE (V (CE 20 Z Z Z Z Z Z Z) (V (CE 21 Z Z Z Z Z Z Z) (AB Z Z (AD ?_))));refine AC (AC (AE (J (A4 Z MM Z Z Z) (J (A9 Z Z Z Vd Z) (V (Og 22 (f:=40) Z Z (h1a) Z Bv Z Z Z Z) (AD (A5 (B6 (α:=List Nat×List (AP×Int)) (fun q=>⟨31,[(2,(.ptr 20 0 0)),(3,(.ptr 21 0 0)),(9,(.ptr 22 0 0))],[(20,[.blk 131 [.d (AF a.id),.d (AF a.pr),.d (AF a.sq),.d (.sl none (a.po.map Br)),.d (.sl none (a.pa.map E3)),.d (.sl none (a.af.map AF)),.d (mD ma)]]),(21,[.blk 131 [.d (AF b.id),.d (AF b.pr),.d (AF b.sq),.d (.sl none (b.po.map Br)),.d (.sl none (b.pa.map E3)),.d (.sl none (b.af.map AF)),.d (mD mb)]]),(22,[.iter 40 ma c q.1]),(40,[.multi M1])]⟩) (fun q=>(q.2++Bs L B q.1).Perm L∧∀d∈q.2,¬(d.2<0∧0<A6 (dR rs b) d.1 0)) (fun q=>(Bs L B q.1).length) (([],[])) (⟨by show ([]++Bs L B []).Perm L;rw [DK (by simpa [BQ] using hB)];exact List.Perm.refl _,(fun d hd=>by cases hd)⟩) (A1 hF [20,21,22,40] Z Z ⟨Z,Z,Z,trivial⟩) ?_))))))));rintro ⟨seen,acc⟩ ⟨hP,hA⟩;dsimp only at hP hA⊢;refine AC (AE (Vg (L) Z Z Z (h1a) Z (fun hl10=>?_) (fun j10 b10 k10 v10 hm10 hb10 hB10 hp10=>⟨_,Z,?_⟩)))
 ·rw [hl10] at hP;refine MB 40 ma Z h1a Z ?_;rw [hback];refine J (Cu Z Z Z) (AD (AC (Db Z Z (BF (AC (AE (J (A4 Z IZ Z Z Z) ?_)))))));refine J (A4 Z Dq Z Z Z) (J (A9 Z Z Z BC Z) (J (A4 Z IZ Z Z Z) (J (A4 Z MV Z Z Z) (J (A9 Z Z Z Aq Z) (J (BZ (Nk a.af b.id (by omega)) Z Z) (AB Z Z (AD (A8 ?_))))))));exact ⟨_,[40],_,A7 Z,Z,Z,by rw [decide_eq_decide.2 (hWt.trans ⟨fun h=>h.resolve_left fun ⟨d,hd,hx⟩=>hA d ((show acc.Perm L by simpa using hP).mem_iff.2 hd) hx,.inr⟩)],Z⟩
 ·refine J (Cu Z Z Z) (AD (AC ?_));refine D9 Z Z (A3 (A5 (AC (AE (J (Ok (L) j10 b10 Z Z Z (h1a) hm10 hb10 Z) (J (Cu Z Z Z) (J (Cu Z Z Z) (V (CO 23 KQ Z Z Z Z) ?_))))))));refine V (Bi Z Z Z Z Z Z Z Yk) (AB Z Z (AD (AC (AE (goMv Z Z (J (BT Z Z Z) (goMv Z Z (Id 17 Z (fun h17=>?_) (fun h17=>?_)))))))))
  ·refine Ad Z Z Z (J (A4 Z MM Z Z Z) (Ad Z Z Z (J (A9 Z Z Z Vd Z) ?_)));refine Ad Z Z Z (J (BO Z Z CY Z Z Z) (Ad Z Z Z (J (RM (f:=40) (dR rs b) k10 0 _ Z Z h1b Z Bv CJ OD Z Z) (Ad Z Z Z (J (KK Z Z Z) (J (fSq Z Z Z Z) (AD (Ah Z (fun h23=>?_) (fun h23=>?_)))))))))
   ·refine AC (a_hideN 40 ma Z h1a Z ?_);rw [hback];refine AE (AB Z Z (AD (A8 ?_)));exact ⟨_,[40],_,A7 Z,Z,Z,by rw [ωi (hWt.2 (.inl ⟨_,aa hm10,h17,h23⟩))],Z⟩
   ·refine A3 ?_;exact ⟨(seen++ [b10],acc++ [(k10,v10)]),⟨iOq hP hp10,fun d hd=>(ν.1 hd).elim (hA d) fun e=>by rw [ξ.1 e];first | exact fun h=>h17 h.1 | exact fun h=>h23 h.2⟩,by show (Bs L B (seen++ [b10])).length<(Bs L B seen).length;rw [hp10.length_eq];exact χm _,A1 hF [20,21,22,40] Z (Z) ⟨Z,Z,Z,trivial⟩⟩
  ·refine Aa Z Z Z Z (Aa Z Z Z Z (Aa Z Z Z Z (Aa Z Z Z Z (Aa Z Z Z Z (J (DR Z Z Z Z) (AD (Db Z Z (A3 ?_))))))));exact ⟨(seen++ [b10],acc++ [(k10,v10)]),⟨iOq hP hp10,fun d hd=>(ν.1 hd).elim (hA d) fun e=>by rw [ξ.1 e];first | exact fun h=>h17 h.1 | exact fun h=>h23 h.2⟩,by show (Bs L B (seen++ [b10])).length<(Bs L B seen).length;rw [hp10.length_eq];exact χm _,A1 hF [20,21,22,40] Z (Z) ⟨Z,Z,Z,trivial⟩⟩
def D7 (E:List (AK×Nat)) (k:Nat):AK:=(E.getD k (AY,0)).1
noncomputable def toK (rs:List AP) (E:List (AK×Nat)) (a:AK) (k:Nat):List Nat:=(List.range k).filter fun j=>decide (c9 rs a (D7 E j))
noncomputable def grW (rs:List AP) (E:List (AK×Nat)):List (List Nat):=E.map fun e=>toK rs E e.1 E.length
theorem toK_hit {rs:List AP} {E:List (AK×Nat)} {a:AK} {k:Nat} (h:c9 rs a (D7 E k)):toK rs E a (k+1)=toK rs E a k++ [k]:=by
 unfold toK;rw [ψj,ωz];simp [h]
theorem Yc {rs:List AP} {E:List (AK×Nat)} {a:AK} {k:Nat} (h:¬c9 rs a (D7 E k)):toK rs E a (k+1)=toK rs E a k:=by
 unfold toK;rw [ψj,ωz];simp [h]
theorem VA (rs:List AP) (E:List (AK×Nat)) (a:AK) (k:Nat):(toK rs E a k).length≤k:=by
 unfold toK;exact ωe (ωh _ _) (by rw [ωf];exact υ _)
theorem D5 {E:List (AK×Nat)} {k:Nat} (hk:k<E.length):D7 E k=(E[k]).1:=by unfold D7;rw [ϱ,ω hk];rfl
theorem EF (rs:List AP) (E:List (AK×Nat)):(grW rs E).length=E.length:=ψ _
set_option maxHeartbeats 1000000 in
theorem graph_c {rs:List AP} {M:MF} (E:List (AK×Nat)) (hR:YO rs M E) (hEl:E.length≤1000) (haf:∀e∈E,e.1.af.length≤100000):
  AN Tryz.prog 77 [.d (.sl none (E.map Cs))] [(40,[.multi M])] fun r H'=>r= .d (Ji (grW rs E))∧H'=[(40,[.multi M])]:=by
 refine BB Tryz.func77 Z Z Tryz.ntmps77 Z Z Z fun F hF=>?_;refine AC (AE (AB Z Z (AD (AC (AE (AB Z Z (AD (AC ?_))))))));refine AC (AE (goMv Z Z (J (Bz Z Tryz.underlying122 Z) (goMv Z Z (AD (A5 (O4 3 10 VT Z Z Z Z (B6 (α:=Nat×List (List Nat)) (fun q=>⟨36,[(0,.d (.sl none (E.map Cs))),(3,(.own 10 0 q.2.length)),(9,(.d (.sl none (E.map Cs)))),(10,(.d (AF (E.length:Int)))),(11,(.d (AF (q.1:Int))))],[(10,[.rowD 28 1 (q.2.map natsD)]),(40,[.multi M])]⟩) (fun q=>q.1≤E.length∧q.2=(grW rs E).take q.1) (fun q=>E.length - q.1) ((0,[])) (⟨Γ _,Z⟩) (A1 hF [10,40] Z Z ⟨Z,Z,Z,Z,Z,trivial⟩) ?_))))))));rintro ⟨i,G⟩ ⟨hi,hG⟩;dsimp only at hi hG⊢;refine AC (AE (J (BT Z Z Z) (AD (AC (Ah Z (fun h12=>?_) (fun h12=>?_))))))
 ·refine A3 (AC (A5 (AC ?_)));have hil:i<E.length:=Bf h12;have hGl:G.length≤1000:=by rw [hG,Ω];omega
  have hei:=θ hil;refine AE (J (Bb (i) Z Z (Z) (Ag hil) Tryz.underlying122 Z Gy Z) ?_);refine J (GW Z Z LO Z) (V (CO 21 MW Z Z Z Z) (V (Bi Z Z Z Z Z Z Z Gy) (AD (AC (AE (AB Z Z (AD (AC ?_))))))));refine AC (AE (goMv Z Z (J (Bz Z Tryz.underlying122 Z) (goMv Z Z (AD (A5 (O4 6 11 B4 Z Z Z Z (B6 (α:=Nat×List Nat) (fun q=>⟨36,[(0,.d (.sl none (E.map Cs))),(3,(.own 10 0 G.length)),(5,(.ptr 21 0 0)),(6,(.own 11 0 q.2.length)),(9,(.d (.sl none (E.map Cs)))),(10,(.d (AF (E.length:Int)))),(11,(.d (AF (i:Int)))),(15,(.d (.sl none (E.map Cs)))),(16,(.d (AF (E.length:Int)))),(17,(.d (AF (q.1:Int))))],[(21,[.blk 131 [.d (AF (E[i]).1.id),.d (AF (E[i]).1.pr),.d (AF (E[i]).1.sq),.d (.sl none ((E[i]).1.po.map Br)),.d (.sl none ((E[i]).1.pa.map E3)),.d (.sl none ((E[i]).1.af.map AF)),.d (mD (E[i]).2)]]),(11,[.rowD 3 1 (q.2.map AM)]),(10,[.rowD 28 1 (G.map natsD)]),(40,[.multi M])]⟩) (fun q=>q.1≤E.length∧q.2=toK rs E (E[i]).1 q.1) (fun q=>E.length - q.1) ((0,[])) (⟨Γ _,Z⟩) (A1 hF [21,11,10,40] Z Z ⟨Z,Z,Z,Z,Z,Z,Z,Z,Z,Z,trivial⟩) ?_))))))));rintro ⟨k,T⟩ ⟨hk,hT⟩;dsimp only at hk hT⊢;refine AC (AE (J (BT Z Z Z) (AD (AC (Ah Z (fun h18=>?_) (fun h18=>?_))))))
  ·refine A3 (AC (A5 (AC ?_)));have hkl:k<E.length:=Bf h18;have hTl:T.length≤1000:=by have:=VA rs E (E[i]).1 k;rw [←hT] at this;omega
   have hek:=θ hkl;refine AE (goMv Z Z (J (Bb (k) Z Z (Z) (Ag hkl) Tryz.underlying122 Z Gy Z) (J (GW Z Z LO Z) (V (CO 22 MW Z Z Z Z) (AB Z Z ?_)))));refine V (Bi Z Z Z Z Z Z Z Gy) (AD (AC (AE (J (BO Z Z LO Z Z Z) (J (BO Z Z LO Z Z Z) (V (Eu (waits_c E[i] E[k] (hR _ hei) (hR _ hek) (haf _ hei)) Z [40] ⟨Z,trivial⟩ Z Z Z Z Z Z Z Z Z) (AD (Ah Z (fun h24=>?_) (fun h24=>?_)))))))))
   ·refine AE (goMv Z Z ?_);refine goMv Z Z (V (Dz 30 B4 Z Z Z Z Z Z Z Z) (V (I8 (T) ([k]) Z Z Z Z Z Z Z Z B4 (by simp only [Ψ];omega) Z Z Z Z) (AB Z Z (AD (AE (J (Ay Z Z (AT (k+1) (by omega)) Z) (goMv Z Z (AD ?_))))))));exact ⟨(k+1,T++ [k]),⟨hkl,by show _=toK rs E _ (k+1);rw [toK_hit (by rw [D5 hkl];exact h24),hT]⟩,by show E.length - (k+1)<E.length - k;omega,A1 hF [21,11,10,40] Z (Z) ⟨Z,Z,Z,Z,Z,Z,Z,Z,Z,Z,trivial⟩⟩
   ·refine A3 (AE (J (Ay Z Z (AT (k+1) (by omega)) Z) (goMv Z Z (AD ?_))));exact ⟨(k+1,T),⟨hkl,by show _=toK rs E _ (k+1);rw [Yc (by rw [D5 hkl];exact h24),hT]⟩,by show E.length - (k+1)<E.length - k;omega,A1 hF [21,11,10,40] Z (Z) ⟨Z,Z,Z,Z,Z,Z,Z,Z,Z,Z,trivial⟩⟩
  ·refine BF ?_;have hke:k=E.length:=by have:=h18;omega
   rw [hke] at hT;refine Lo (emb:=AM) 6 11 T Z Z Z Z Z Z Z ?_;rw [hT];refine AE (goMv Z Z ?_);refine goMv Z Z (V (Dz 31 VT Z Z Z Z Z Z Z Z) (V (I8 (G) ([toK rs E (E[i]).1 E.length]) Z Z Z Z Z Z Z Z VT (by simp only [Ψ];omega) Z Z Z Z) (AB Z Z (AD (AE (J (Ay Z Z (AT (i+1) (by omega)) Z) (goMv Z Z (AD ?_))))))));exact ⟨(i+1,G++ [toK rs E (E[i]).1 E.length]),⟨hil,by show _=(grW rs E).take (i+1);rw [hG,φ (by rw [EF];exact hil)];congr 1;simp [grW]⟩,by show E.length - (i+1)<E.length - i;omega,A1 hF [10,40] Z (Z) ⟨Z,Z,Z,Z,Z,trivial⟩⟩
 ·refine BF (AC ?_);have hie:i=E.length:=by have:=h12;omega
  refine Lo (emb:=natsD) 3 10 G Z Z Z Z Z Z Z ?_;rw [hG,hie,Ξ (by rw [EF];exact υ _)];refine AE (goMv Z Z (AB Z Z (AD (A8 ?_))));exact ⟨_,[40],_,A7 Z,Z,Z,Z,Z⟩
def Dm (E:List (AK×Nat)) (l:List Nat):List Int:=l.map fun k=>(D7 E k).id
theorem ids_p (E:List (AK×Nat)) (l:List Nat) (hl:∀k∈l,k<E.length) (hll:l.length≤1000000):AO Tryz.prog 78 [.d (.sl none (E.map Cs)),.d (natsD l)] (.sl none ((Dm E l).map AF)):=by
 refine BB Tryz.func78 Z Z Tryz.ntmps78 Z Z Z fun F hF=>?_;refine AC (AE (AB Z Z (AD (AC (AE (AB Z Z (AD (AC ?_))))))));refine AC (AE (goMv Z Z (J (JN Z (ψ ..) Tryz.underlying28 Z) (goMv Z Z (AD (A5 (O4 5 10 B4 Z Z Z Z (B6 (α:=Nat×List Int) (fun q=>⟨25,[(0,.d (.sl none (E.map Cs))),(5,(.own 10 0 q.2.length)),(8,(.d (natsD l))),(9,(.d (AF (l.length:Int)))),(10,(.d (AF (q.1:Int))))],[(10,[.rowD 3 1 (q.2.map AF)])]⟩) (fun q=>q.1≤l.length∧q.2=Dm E (l.take q.1)) (fun q=>l.length - q.1) ((0,[])) (⟨Γ _,Z⟩) (A1 hF [10] Z Z ⟨Z,Z,Z,Z,Z,trivial⟩) ?_))))))));rintro ⟨k,T⟩ ⟨hk,hT⟩;dsimp only at hk hT⊢;refine AC (AE (J (BT Z Z Z) (AD (AC (Ah Z (fun h11=>?_) (fun h11=>?_))))))
 ·refine A3 (AC (A5 (AC ?_)));have hkl:k<l.length:=Bf h11;have hTl:T.length≤1000000:=by rw [hT];unfold Dm;rw [ψ,Ω];omega
  have hlk:l[k]<E.length:=hl _ (θ hkl);have hgk:(l.map AM)[k]? =some (AM l[k]):=Ag hkl;have hgE:(E.map Cs)[l[k]]? =some (Cs E[l[k]]):=Ag hlk;refine AE (J (Bb (k) Z Z (Z) (hgk) Tryz.underlying28 Z BD Z) (J (Cm Z Z Aq Z) (AB Z Z ?_)));refine AD (AE (goMv Z Z (goMv Z Z (goMv Z Z (J (Bb (l[k]) Z Z (Z) (hgE) Tryz.underlying122 Z Gy Z) (J (Zcq Z IZ Z Z Z) (J (Zcd Z MV Z Z Z) (J (Cm Z Z Aq Z) ?_))))))));rw [show ((E[l[k]]).1.id:Int)=(D7 E l[k]).id by rw [D5 hlk]];refine V (Dz 30 B4 Z Z Z Z Z Z Z Z) (V (I8 (T) ([(D7 E l[k]).id]) Z Z Z Z Z Z Z Z B4 (by simp only [Ψ];omega) Z Z Z Z) (AB Z Z (AD (AE (J (Ay Z Z (AT (k+1) (by omega)) Z) (goMv Z Z (AD ?_)))))));exact ⟨(k+1,T++ [(D7 E l[k]).id]),⟨hkl,by show _=Dm E (l.take (k+1));rw [hT];unfold Dm;rw [φ hkl,ωc];rfl⟩,by show l.length - (k+1)<l.length - k;omega,A1 hF [10] Z (Z) ⟨Z,Z,Z,Z,Z,trivial⟩⟩
 ·refine BF (AC ?_);have hke:k=l.length:=by have:=h11;omega
  rw [hke,ωt] at hT;refine Lo (emb:=AF) 5 10 T Z Z Z Z Z Z Z ?_;rw [hT];refine AE (goMv Z Z (AB Z Z (AD (A8 ?_))));exact ⟨_,[],[],A7 Z,Z,Z,Z,Z⟩
end Go.Proofs.YteifpcnphnhaoaaGreat
namespace Go.Proofs.YteifpcnphnhaoaaGreat
noncomputable def dec (p:Prop):Bool:= @decide p (Classical.propDecidable p)
theorem Ca {p:Prop}:dec p=true↔p:= @decide_eq_true_iff p (Classical.propDecidable p)
theorem bi {p:Prop} (h:p):dec p=true:=Ca.2 h
theorem dec_f {p:Prop} (h:¬p):dec p=false:=by
 cases e:dec p with
 | false=>rfl
 | true=>exact absurd (Ca.1 e) h
theorem bj {p q:Prop} [Decidable p] (h:p↔q):decide p=dec q:=by
 by_cases e:p
 ·rw [ωi e,bi (h.1 e)]
 ·rw [ωp e,dec_f fun h2=>e (h.2 h2)]
def Lp (rs:List AP) (a b:AK):Prop:=b.id∈a.af∨a.id∈b.af∨∃r,r∈(dR rs a).map Prod.fst∧r∈(dR rs b).map Prod.fst
noncomputable instance (rs:List AP) (a b:AK):Decidable (Lp rs a b):=Classical.propDecidable _
theorem Lp.symm {rs:List AP} {a b:AK} (h:Lp rs a b):Lp rs b a:=by
 rcases h with h | h | ⟨r,h1,h2⟩
 ·exact .inr (.inl h)
 ·exact .inl h
 ·exact .inr (.inr ⟨r,h2,h1⟩)
noncomputable def nbI (rs:List AP) (E:List (AK×Nat)) (i:Nat):List Nat:=(List.range E.length).filter fun j=>decide (i<E.length∧Lp rs (D7 E i) (D7 E j))
theorem D2 {rs:List AP} {E:List (AK×Nat)} {i j:Nat}:j∈nbI rs E i↔i<E.length∧j<E.length∧Lp rs (D7 E i) (D7 E j):=by
 unfold nbI;rw [ωa,ς,ψe];exact ⟨fun h=>⟨h.2.1,h.1,h.2.2⟩,fun h=>⟨h.2.1,h.1,h.2.2⟩⟩
def Cn (rs:List AP) (E:List (AK×Nat)):Nat ->Nat ->Prop:=Rh (nbI rs E)
theorem Rh.sym {suc:Nat ->List Nat} (hs:∀i j,j∈suc i ->i∈suc j) {a b:Nat} (h:Rh suc a b):Rh suc b a:=by
 induction h with
 | refl=>exact .refl _
 | step _ e ih=>exact (Rh.one (hs _ _ e)).trans ih
theorem Cn.symm {rs:List AP} {E:List (AK×Nat)} {i j:Nat} (h:Cn rs E i j):Cn rs E j i:=
 Rh.sym (fun i j h=>D2.2 ⟨(D2.1 h).2.1,(D2.1 h).1,(D2.1 h).2.2.symm⟩) h
def D4 (f:Nat ->Nat) (a b:Nat):Nat ->Nat:=fun k=>if f k=max (f a) (f b) then min (f a) (f b) else f k
theorem Gg {f:Nat ->Nat} {a b i j:Nat} (h:f i=f j):D4 f a b i=D4 f a b j:=by unfold D4;rw [h]
theorem PT {f:Nat ->Nat} {a b:Nat}:D4 f a b a=D4 f a b b:=by
 unfold D4
 by_cases h:f a≤f b
 ·rw [Nat.max_eq_right h,Nat.min_eq_left h,κ rfl];split<;>rfl
 ·have h':f b≤f a:=by omega
  rw [Nat.max_eq_left h',Nat.min_eq_right h',κ rfl];split<;>rfl
structure UF (n:Nat) (C:Nat ->Nat ->Prop) (f:Nat ->Nat):Prop where
 le:∀k,k<n ->f k≤k
 ff:∀k,k<n ->f (f k)=f k
 snd:∀i j,i<n ->j<n ->f i=f j ->C i j
theorem UF.join {n:Nat} {C:Nat ->Nat ->Prop} {f:Nat ->Nat} (h:UF n C f) (ht:∀i j k,C i j ->C j k ->C i k) (hs:∀i j,C i j ->C j i) {a b:Nat} (ha:a<n) (hb:b<n) (hab:C a b):UF n C (D4 f a b):=by
 have hm:min (f a) (f b)=f a∨min (f a) (f b)=f b:=by omega
 have hM:max (f a) (f b)=f a∨max (f a) (f b)=f b:=by omega
 have hfm:f (min (f a) (f b))=min (f a) (f b):=by
  rcases hm with e | e
  ·rw [e];exact h.ff a ha
  ·rw [e];exact h.ff b hb
 have hcl:∀i,i<n ->f i=max (f a) (f b) ->C i a:=fun i hi e=>by
  rcases hM with e2 | e2
  ·exact h.snd i a hi ha (e.trans e2)
  ·exact ht _ _ _ (h.snd i b hi hb (e.trans e2)) (hs _ _ hab)
 have hcm:∀i,i<n ->f i=min (f a) (f b) ->C i a:=fun i hi e=>by
  rcases hm with e2 | e2
  ·exact h.snd i a hi ha (e.trans e2)
  ·exact ht _ _ _ (h.snd i b hi hb (e.trans e2)) (hs _ _ hab)
 refine ⟨fun k hk=>?_,fun k hk=>?_,fun i j hi hj e=>?_⟩
 ·have:=h.le k hk;unfold D4;split<;>omega
 ·by_cases e:f k=max (f a) (f b)
  ·have e1:D4 f a b k=min (f a) (f b):=κ e;rw [e1];unfold D4;rw [hfm]
   split<;>rfl
  ·have e1:D4 f a b k=f k:=ϑ e;rw [e1];unfold D4;rw [h.ff k hk,ϑ e]
 ·unfold D4 at e
  by_cases e1:f i=max (f a) (f b)<;>by_cases e2:f j=max (f a) (f b)
  ·exact h.snd i j hi hj (e1.trans e2.symm)
  ·rw [κ e1,ϑ e2] at e;exact ht _ _ _ (hcl i hi e1) (hs _ _ (hcm j hj e.symm))
  ·rw [ϑ e1,κ e2] at e;exact ht _ _ _ (hcm i hi e) (hs _ _ (hcl j hj e2))
  ·rw [ϑ e1,ϑ e2] at e;exact h.snd i j hi hj e
theorem UF.id (n:Nat) {C:Nat ->Nat ->Prop} (hr:∀i,C i i):UF n C (fun k=>k):=⟨fun _ _=>υ _,fun _ _=>rfl,fun i j _ _ (e:i=j)=>by subst e;exact hr i⟩
noncomputable def clsN (n:Nat) (C:Nat ->Nat ->Prop):List (List Nat):=((List.range n).filter fun k=>dec (∀j,j<k ->¬C k j)).map fun k=>(List.range n).filter fun j=>dec (C k j)
def Xd (n:Nat) (f:Nat ->Nat) (k:Nat):List Nat:=(List.range n).filter fun j=>decide (f j=k)
def Je (n m:Nat) (f:Nat ->Nat):List (List Nat):=((List.range m).filter fun k=>decide (f k=k)).map (Xd n f)
theorem ah {n m:Nat} {f:Nat ->Nat} (h:f m=m):Je n (m+1) f=Je n m f++ [Xd n f m]:=by
 unfold Je;rw [ψj,ωz,ωc];simp [h]
theorem Xc {n m:Nat} {f:Nat ->Nat} (h:¬f m=m):Je n (m+1) f=Je n m f:=by
 unfold Je;rw [ψj,ωz,ωc];simp [h]
theorem ae (n m:Nat) (f:Nat ->Nat):(Je n m f).length≤m:=by
 unfold Je;rw [ψ];exact ωe (ωh _ _) (by rw [ωf];exact υ _)
theorem lab_cls {n:Nat} {C:Nat ->Nat ->Prop} {f:Nat ->Nat} (h:UF n C f) (hc:∀i j,i<n ->j<n ->C i j ->f i=f j):Je n n f=clsN n C:=by
 have hle:∀k,k<n ->(f k=k↔∀j,j<k ->¬C k j):=fun k hk=>by
  constructor
  ·intro e j hj hC;have h1:=hc k j hk (by omega) hC;have h2:=h.le j (by omega);omega
  ·intro hn;have h1:=h.le k hk;rcases χn (f k) k with h2 | h2
   ·exact absurd (h.snd k (f k) hk (by omega) (h.ff k hk).symm) (hn _ h2)
   ·omega
 unfold Je clsN;rw [show ((List.range n).filter fun k=>decide (f k=k))=(List.range n).filter fun k=>dec (∀j,j<k ->¬C k j) from χx fun k hk=>bj (hle k (ς.1 hk))];refine ωj fun k hk=>?_;obtain ⟨hk1,hk2⟩:=ωa.1 hk;have hkn:=ς.1 hk1;have hfk:f k=k:=(hle k hkn).2 (Ca.1 hk2);unfold Xd;refine χx fun j hj=>bj ?_;have hjn:=ς.1 hj;exact ⟨fun e=>h.snd k j hkn hjn (by rw [hfk,e]),fun hC=>by rw [←hc k j hkn hjn hC,hfk]⟩
structure O6 (rs:List AP) (E:List (AK×Nat)) (P:Nat ->AP ->Prop) (U:List (AP×Nat)) (f:Nat ->Nat):Prop where
 ok:∀e∈U,e.2<E.length∧e.1∈(dR rs (D7 E e.2)).map Prod.fst
 has:∀k r,P k r ->r∈U.map Prod.fst∧f (A6 U r 0)=f k
theorem O6.keep {rs:List AP} {E:List (AK×Nat)} {P:Nat ->AP ->Prop} {U:List (AP×Nat)} {f f':Nat ->Nat} (h:O6 rs E P U f) (hf:∀i j,f i=f j ->f' i=f' j):O6 rs E P U f':=
 ⟨h.ok,fun k r hp=>⟨(h.has k r hp).1,hf _ _ (h.has k r hp).2⟩⟩
theorem O6.mono {rs:List AP} {E:List (AK×Nat)} {P P':Nat ->AP ->Prop} {U:List (AP×Nat)} {f:Nat ->Nat} (h:O6 rs E P U f) (hp:∀k r,P' k r ->P k r):O6 rs E P' U f:=⟨h.ok,fun k r h2=>h.has k r (hp k r h2)⟩
theorem mget_ok {U:List (AP×Nat)} {r:AP} (h:r∈U.map Prod.fst):(r,A6 U r 0)∈U:=Hg h
theorem O6.new {rs:List AP} {E:List (AK×Nat)} {P P':Nat ->AP ->Prop} {U:List (AP×Nat)} {f:Nat ->Nat} (h:O6 rs E P U f) {r:AP} {k:Nat} (hr:r∉U.map Prod.fst) (hk:k<E.length) (hu:r∈(dR rs (D7 E k)).map Prod.fst) (hp:∀i s,P' i s ->P i s∨(i=k∧s=r)):O6 rs E P' (Av U r k) f:=by
 rw [Dk hr];refine ⟨fun e he=>?_,fun i s hi=>?_⟩
 ·rcases ν.1 he with he | he
  ·exact h.ok e he
  ·rw [ξ.1 he];exact ⟨hk,hu⟩
 ·rw [←Dk hr,Hf];rcases hp i s hi with h1 | ⟨rfl,rfl⟩
  ·obtain ⟨h2,h3⟩:=h.has i s h1;have hne:s≠r:=fun e=>hr (by rw [←e];exact h2);rw [ϑ hne];exact ⟨by rw [Dk hr,ωc];exact ψp _ h2,h3⟩
  ·rw [κ rfl];exact ⟨by rw [Dk hr,ωc];simp,Z⟩
theorem O6.join {rs:List AP} {E:List (AK×Nat)} {P P':Nat ->AP ->Prop} {U:List (AP×Nat)} {f:Nat ->Nat} (h:O6 rs E P U f) {r:AP} {k:Nat} (hr:r∈U.map Prod.fst) (hp:∀i s,P' i s ->P i s∨(i=k∧s=r)):O6 rs E P' U (D4 f (A6 U r 0) k):=
 ⟨h.ok,fun i s hi=>(hp i s hi).elim (fun h1=>⟨(h.has i s h1).1,Gg (h.has i s h1).2⟩) fun ⟨e1,e2⟩=>by subst e1 e2;exact ⟨hr,PT⟩⟩
theorem O6.zero (rs:List AP) (E:List (AK×Nat)) (f:Nat ->Nat):O6 rs E (fun _ _=>False) [] f:=⟨fun e he=>(by cases he),fun k r h=>h.elim⟩
def Li (E:List (AK×Nat)) (k:Nat):List (Int×Nat):=(List.range k).map fun j=>((D7 E j).id,j)
theorem Zd (E:List (AK×Nat)) (k:Nat):Li E (k+1)=Li E k++ [((D7 E k).id,k)]:=by unfold Li;rw [ψj,ωc];rfl
theorem VZ {E:List (AK×Nat)} {k:Nat} {x:Int}:x∈(Li E k).map Prod.fst↔∃j,j<k∧(D7 E j).id=x:=by
 unfold Li;rw [ωv,ϖ];exact ⟨fun ⟨j,hj,e⟩=>⟨j,ς.1 hj,e⟩,fun ⟨j,hj,e⟩=>⟨j,ς.2 hj,e⟩⟩
def IdI (E:List (AK×Nat)):Prop:=∀i j,i<E.length ->j<E.length ->(D7 E i).id=(D7 E j).id ->i=j
theorem plc_put {E:List (AK×Nat)} (hi:IdI E) {k:Nat} (hk:k<E.length):Av (Li E k) (D7 E k).id k=Li E (k+1):=by
 rw [Dk fun hm=>by
  obtain ⟨j,hj,e⟩:=VZ.1 hm;have:=hi j k (by omega) hk e
  omega,Zd]
theorem VY {E:List (AK×Nat)} (hi:IdI E) {x:Int} (h:x∈(Li E E.length).map Prod.fst):A6 (Li E E.length) x 0<E.length∧(D7 E (A6 (Li E E.length) x 0)).id=x:=by
 have h1:(x,A6 (Li E E.length) x 0)∈Li E E.length:=Hg h;obtain ⟨j,hj,e⟩:=ϖ.1 h1;injection e with e1 e2
 rw [←e2];exact ⟨ς.1 hj,e1⟩
theorem Ze {E:List (AK×Nat)} (hi:IdI E) {j:Nat} (hj:j<E.length):(D7 E j).id∈(Li E E.length).map Prod.fst∧A6 (Li E E.length) (D7 E j).id 0=j:=by
 have h1:(D7 E j).id∈(Li E E.length).map Prod.fst:=VZ.2 ⟨j,hj,Z⟩;obtain ⟨h2,h3⟩:=VY hi h1;exact ⟨h1,hi _ _ h2 hj h3⟩
end Go.Proofs.YteifpcnphnhaoaaGreat
namespace Go.Proofs.YteifpcnphnhaoaaGreat
open Go.RowKit
abbrev rowN (n:Nat) (f:Nat ->Nat):List D:=(List.range n).map fun v=>AM (f v)
abbrev Df (n:Nat) (f:Nat ->Int):List D:=(List.range n).map fun v=>AF (f v)
theorem IB {n i:Nat} {f:Nat ->Nat} (h:i<n):(rowN n f)[i]? =some (AM (f i)):=by simp [h]
theorem RZ {n i:Nat} {f:Nat ->Int} (h:i<n):(Df n f)[i]? =some (AF (f i)):=by simp [h]
theorem Lv {n i:Nat} {f h:Nat ->D} (he:∀j,j<n ->j≠i ->f j=h j) {x:D} (hx:x=h i):((List.range n).map f).set i x=(List.range n).map h:=by
 refine χc (by simp) fun j h1 h2=>?_;rw [List.getElem_set];simp only [ψ,ωf] at h2;simp only [ωd,ψu]
 by_cases e:i=j
 ·subst e;rw [κ rfl];exact hx
 ·rw [ϑ e];exact he j h2 fun e'=>e e'.symm
theorem cZ {n i x:Nat} {f:Nat ->Nat}:(rowN n f).set i (AM x)=rowN n (At f i x):=
 Lv (fun j _ hne=>by rw [GU hne]) (by rw [KM])
theorem ZW {n i:Nat} {x:Int} {f:Nat ->Int}:(Df n f).set i (AF x)=Df n (At f i x):=
 Lv (fun j _ hne=>by rw [GU hne]) (by rw [KM])
theorem cY (n:Nat) (f:Nat ->Nat):(rowN n f).length=n:=by simp
theorem H3 (n:Nat) (f:Nat ->Int):(Df n f).length=n:=by simp
theorem repN (n:Nat):List.replicate n (D.raw (.int .i64 0))=rowN n (fun _=>0):=by
 refine χc (by simp) fun j h1 h2=>?_
 simp
theorem repI (n:Nat):List.replicate n (D.raw (.int .i64 0))=Df n (fun _=>0):=by
 refine χc (by simp) fun j h1 h2=>?_
 simp
abbrev S8 (f:Nat×Nat):D:= .agg [AM f.1,AM f.2]
def pend:Option Nat ->List (Nat×Nat)
 | none=> []
 | some v=> [(v,0)]
theorem FY {l j:List (Nat×Nat)} {x:Nat×Nat} {k:Nat} (h:k=l.length):((l++ [x]++j).map S8)[k]? =some (S8 x):=by
 subst h;simp
theorem setF {l j:List (Nat×Nat)} {x y:Nat×Nat} {k:Nat} (h:k=l.length):((l++ [x]++j).map S8).set k (S8 y)=(l++ [y]++j).map S8:=by
 subst h;simp
theorem takeF (l j:List (Nat×Nat)) {x:Nat×Nat}:((l++j).map S8).take l.length++ [S8 x].take 1=(l++ [x]).map S8:=by
 rw [←List.map_take,List.take_left];simp
theorem aU (a b:Nat):(if (b:Int)<(a:Int) then (b:Int) else (a:Int))=((min a b:Nat):Int):=by
 split<;>omega
def mu (n:Nat) (suc:Nat ->List Nat) (S:TS):Nat:=((List.range n).map fun v=>if S.idx v=0 then (suc v).length+1 else 0).sum+(S.cs.map fun f=>(suc f.1).length - f.2+1).sum
theorem aN {n:Nat} {suc:Nat ->List Nat} {S:TS} {v:Nat} (hv:v<n) (h0:S.idx v=0) {l:Nat ->Nat} {st:List Nat} {c:Nat}:
  mu n suc ⟨At S.idx v (S.clk+1),l,S.of,st,S.cs++ [(v,0)],S.cnt,c⟩=mu n suc S:=by
 unfold mu;dsimp only
 have:=VL (n:=n) (i:=v) (f:=fun v=>if S.idx v=0 then (suc v).length+1 else 0) (h:=fun u=>if At S.idx v (S.clk+1) u=0 then (suc u).length+1 else 0) (c:=(suc v).length+1) hv
  (fun k _ hne=>by rw [GU hne]) (by rw [KM,κ h0,ϑ (by omega)];omega)
 rw [this,ωc,ψr];simp only [ωm,List.map_nil,φe,List.sum_nil];omega
theorem Kj {n:Nat} {suc:Nat ->List Nat} {S:TS} {cs0:List (Nat×Nat)} {v k:Nat} (h:S.cs=cs0++ [(v,k)]) (hk:k<(suc v).length) {l:Nat ->Nat}:mu n suc {S with low:=l,cs:=cs0++ [(v,k+1)]}<mu n suc S:=by
 unfold mu;rw [h];dsimp only;rw [ωc,ωc,ψr,ψr];simp only [ωm,List.map_nil,φe,List.sum_nil];omega
theorem He {n:Nat} {suc:Nat ->List Nat} {S:TS} {cs0:List (Nat×Nat)} {v k:Nat} (h:S.cs=cs0++ [(v,k)]) {l:Nat ->Nat} {o:Nat ->Int} {st:List Nat} {c:Nat}:mu n suc ⟨S.idx,l,o,st,cs0,c,S.clk⟩<mu n suc S:=by
 unfold mu;rw [h];dsimp only;rw [ωc,ψr];simp only [ωm,List.map_nil,φe,List.sum_nil];omega
structure TH (n:Nat) (suc:Nat ->List Nat) (r:Nat) (S:TS) (p:Option Nat):Prop where
 ti:TI n suc S p
 k1:∀f∈S.cs,1≤f.2
 old:∀v,v<r ->S.idx v≠0
 rt:S.idx r≠0∨p=some r
structure TB (n:Nat) (suc:Nat ->List Nat) (r:Nat) (S:TS) (cs0:List (Nat×Nat)) (v k:Nat):Prop where
 ti:TI n suc S none
 hcs:S.cs=cs0++ [(v,k)]
 k1:∀f∈cs0,1≤f.2
 old:∀v,v<r ->S.idx v≠0
 rt:S.idx r≠0
theorem th_last {n:Nat} {suc:Nat ->List Nat} {r:Nat} {S:TS} {p:Option Nat} (h:TH n suc r S p) (hne:S.cs++pend p≠ []):∃cs0 v k,S.cs++pend p=cs0++ [(v,k)]∧v<n∧(k=0 ->S.cs=cs0∧p=some v)∧(k≠0 ->S.cs=cs0++ [(v,k)]∧p=none):=by
 cases p with
 | some v=>exact ⟨S.cs,v,0,Z,(h.ti.pnd v Z).1,fun _=>⟨Z,Z⟩,fun h=>(h Z).elim⟩
 | none=>
  rw [pend,ωk] at hne⊢;rcases List.eq_nil_or_concat S.cs with e | ⟨l,⟨v,k⟩,e⟩
  ·exact (hne e).elim
  ·rw [List.concat_eq_append] at e;have hm:(v,k)∈S.cs:=by rw [e];exact ψl _ (ξ.2 Z)
   have:=h.k1 _ hm;have hv:=h.ti.lt v ((h.ti.st v).1 (h.ti.csm _ hm)).1;exact ⟨l,v,k,e,hv,fun hk=>by dsimp only at this;omega,fun _=>⟨e,Z⟩⟩
theorem Yg {n:Nat} {suc:Nat ->List Nat} {r:Nat} {S:TS} {v:Nat} (h:TH n suc r S (some v)):
  TB n suc r ⟨At S.idx v (S.clk+1),At S.low v (S.clk+1),S.of,S.st++ [v],S.cs++ [(v,0)],S.cnt,S.clk+1⟩ S.cs v 0:=by
 refine ⟨Yd h.ti,Z,h.k1,fun w hw=>?_,?_⟩
 ·show At S.idx v (S.clk+1) w≠0
  by_cases e:w=v
  ·subst e;rw [KM];omega
  ·rw [GU e];exact h.old w hw
 ·show At S.idx v (S.clk+1) r≠0
  by_cases e:r=v
  ·subst e;rw [KM];omega
  ·rw [GU e];exact h.rt.resolve_right fun e'=>e (Option.some.inj e').symm
theorem tb_old {n:Nat} {suc:Nat ->List Nat} {r:Nat} {S:TS} {cs0:List (Nat×Nat)} {v k:Nat} (h:TH n suc r S none) (hcs:S.cs=cs0++ [(v,k)]):TB n suc r S cs0 v k:=
 ⟨h.ti,hcs,fun f hf=>h.k1 f (by rw [hcs];exact ψp _ hf),h.old,h.rt.resolve_right fun e=>by cases e⟩
theorem In {n:Nat} {suc:Nat ->List Nat} {r:Nat} {S:TS} {cs0:List (Nat×Nat)} {v k:Nat} (h:TB n suc r S cs0 v k):v<n∧v∈S.st∧S.idx v≠0∧k≤(suc v).length:=by
 have hm:(v,k)∈S.cs:=by rw [h.hcs];exact ψl _ (ξ.2 Z)
 have h1:=h.ti.csm _ hm;have h2:=((h.ti.st v).1 h1).1;exact ⟨h.ti.lt v h2,h1,h2,(h.ti.gry _ hm).1⟩
theorem Yi {n:Nat} {suc:Nat ->List Nat} {r:Nat} {S:TS} {cs0:List (Nat×Nat)} {v k j:Nat} (h:TB n suc r S cs0 v k) (hj:(suc v)[k]? =some j) (hjn:j<n) (h0:S.idx j=0):
  TH n suc r {S with cs:=cs0++ [(v,k+1)]} (some j):=by
 refine ⟨Tg h.ti h.hcs hj hjn (low':=S.low) (fun w=>υ _) (fun w hw=>(h.ti.lw w hw).2) (.inr Z) (fun x e=>⟨(Option.some.inj e).symm,h0⟩) (fun hm=>absurd h0 ((h.ti.st j).1 hm).1),fun f hf=>?_,h.old,.inl h.rt⟩;rcases ν.1 hf with hf | hf
 ·exact h.k1 f hf
 ·rw [ξ.1 hf];show 1≤k+1;omega
theorem Yj {n:Nat} {suc:Nat ->List Nat} {r:Nat} {S:TS} {cs0:List (Nat×Nat)} {v k j:Nat} (h:TB n suc r S cs0 v k) (hj:(suc v)[k]? =some j) (hjn:j<n) (h0:S.idx j≠0) (ho:S.of j<0):
  TH n suc r {S with low:=At S.low v (min (S.low v) (S.idx j)),cs:=cs0++ [(v,k+1)]} none:=by
 have hjs:j∈S.st:=(h.ti.st j).2 ⟨h0,ho⟩;refine ⟨Tg h.ti h.hcs hj hjn (fun w=>?_) (fun w hw=>?_) (.inl h0) (fun x e=>by cases e) (fun _=>by rw [KM];omega),fun f hf=>?_,h.old,.inl h.rt⟩
 ·by_cases e:w=v
  ·subst e;rw [KM];omega
  ·rw [GU e];exact υ _
 ·by_cases e:w=v
  ·subst e;rw [KM];rcases χn (S.idx j) (S.low w) with hl | hl
   ·exact ⟨j,hjs,by omega,Rh.one (ζ hj)⟩
   ·obtain ⟨y,hy,e1,e2⟩:=(h.ti.lw w hw).2;exact ⟨y,hy,by omega,e2⟩
  ·rw [GU e];exact (h.ti.lw w hw).2
 ·rcases ν.1 hf with hf | hf
  ·exact h.k1 f hf
  ·rw [ξ.1 hf];show 1≤k+1;omega
theorem VE {n:Nat} {suc:Nat ->List Nat} {r:Nat} {S:TS} {cs0:List (Nat×Nat)} {v k j:Nat} (h:TB n suc r S cs0 v k) (hj:(suc v)[k]? =some j) (hjn:j<n) (h0:S.idx j≠0) (ho:¬S.of j<0):
  TH n suc r {S with cs:=cs0++ [(v,k+1)]} none:=by
 refine ⟨Tg h.ti h.hcs hj hjn (low':=S.low) (fun w=>υ _) (fun w hw=>(h.ti.lw w hw).2) (.inl h0) (fun x e=>by cases e) (fun hm=>absurd ((h.ti.st j).1 hm).2 ho),fun f hf=>?_,h.old,.inl h.rt⟩;rcases ν.1 hf with hf | hf
 ·exact h.k1 f hf
 ·rw [ξ.1 hf];show 1≤k+1;omega
theorem maxNN (a b:Nat):(if (b:Int)>(a:Int) then (b:Int) else (a:Int))=((max a b:Nat):Int):=by split<;>omega
def UQ (f:Nat ->Nat) (a b k:Nat):Nat ->Nat:=fun j=>if j<k then D4 f a b j else f j
theorem aq (f:Nat ->Nat) (a b:Nat):UQ f a b 0=f:=by funext j;unfold UQ;rw [ϑ (by omega)]
theorem joK_at (f:Nat ->Nat) (a b k:Nat):UQ f a b k k=f k:=ϑ (by omega)
theorem joK_hit {f:Nat ->Nat} {a b k:Nat} (h:f k=max (f a) (f b)):At (UQ f a b k) k (min (f a) (f b))=UQ f a b (k+1):=by
 funext j
 by_cases e:j=k
 ·subst e;rw [KM];unfold UQ;rw [κ (by omega)];unfold D4;rw [κ h]
 ·rw [GU e];unfold UQ
  by_cases hj:j<k
  ·rw [κ hj,κ (by omega)]
  ·rw [ϑ hj,ϑ (by omega)]
theorem ar {f:Nat ->Nat} {a b k:Nat} (h:¬f k=max (f a) (f b)):UQ f a b (k+1)=UQ f a b k:=by
 funext j
 by_cases e:j=k
 ·subst e;unfold UQ;rw [κ (by omega),ϑ (by omega)];unfold D4;rw [ϑ h]
 ·unfold UQ
  by_cases hj:j<k
  ·rw [κ hj,κ (by omega)]
  ·rw [ϑ hj,ϑ (by omega)]
theorem Oo {n:Nat} {f h:Nat ->Nat} (e:∀j,j<n ->f j=h j):rowN n f=rowN n h:=ωj fun j hj=>by rw [e j (ς.1 hj)]
abbrev HJ (n:Nat) (f:Nat ->Nat):Hp:=[(930,[.blk 28 [.own 931 0 n]]),(931,[.rowD 3 1 (rowN n f)])]
set_option maxRecDepth 100000 in
theorem WA (n:Nat) (f:Nat ->Nat) (a b:Nat) (ha:a<n) (hb:b<n) (hn:n≤100000):AN Tryz.prog 67 [.d (AM a),.d (AM b),.ptr 930 0 0] (HJ n f) fun r H'=>r= .tup []∧H'=HJ n (D4 f a b):=by
 refine BB Tryz.func67 Z Z Tryz.ntmps67 Z Z Z fun F hF=>(AC (Cc [[],[],[0,1],[0,1,2],[],[],[4,5],[4,5,6],[0,1,2,3,4,5,6,7],[],[],[9,10],[9,10,11],[],[],[13,14],[13,14,15],[9,10,11,12,13,14,15,16],[0,1,2,3,4,5,6,7,8],[0,1,2,3,4,5,6,7,8,9,10,11,12,13,14,15,16,17,18]] mixed Z (Cj (As [2] Z Z (fun _=>AG (A9 Z Z Z BC Z)) (AI [0] [] Z Z (fun _=>AG (Ai Z Z)) (As [8,9] Z Z (fun _=>AG (Bu (a) Z Z (Z) (ha) Z Tryz.underlying28 BD Z)) (As [10] Z Z (fun _=>AG (CC Z Z (IB ha) Z Aq Z)) (As [2] Z Z (fun _=>AG (A9 Z Z Z BC Z)) ?_))))))));refine AI [1] [] Z Z (fun _=>AG (Ai Z Z)) (As [12,13] Z Z (fun _=>AG (Bu (b) Z Z (Z) (hb) Z Tryz.underlying28 BD Z)) (As [14] Z Z (fun _=>AG (CC Z Z (IB hb) Z Aq Z)) (AI [11,15] [] Z Z (fun _=>AG (Pp Z Z (maxNN _ _) Z)) (As [2] Z Z (fun _=>AG (A9 Z Z Z BC Z)) (AI [0] [] Z Z (fun _=>AG (Ai Z Z)) (As [17,18] Z Z (fun _=>AG (Bu (a) Z Z (Z) (ha) Z Tryz.underlying28 BD Z)) (As [19] Z Z (fun _=>AG (CC Z Z (IB ha) Z Aq Z)) (As [2] Z Z (fun _=>AG (A9 Z Z Z BC Z)) ?_))))))));refine AI [1] [] Z Z (fun _=>AG (Ai Z Z)) (As [21,22] Z Z (fun _=>AG (Bu (b) Z Z (Z) (hb) Z Tryz.underlying28 BD Z)) (As [23] Z Z (fun _=>AG (CC Z Z (IB hb) Z Aq Z)) (AI [20,24] [] Z Z (fun _=>AG (KY Z Z (aU _ _) Z)) (AI [16] [] Z Z (fun _=>AG (IK Z Z)) (C1 19 Z Z Z (Ae 20 Z Z (AB Z Z (AD ⟨Z,?_⟩))))))));refine C6 (AC (AE (J (A9 Z Z Z BC Z) (J (LJ Z Tryz.underlying28 Z) (goMv Z Z (AD (A5 ?_)))))));have e0:rowN n f=rowN n (UQ f a b 0):=(by rw [aq]);unfold HJ;rw [e0];refine B6 (α:=Nat) (fun k=>⟨42,[(2,(.ptr 930 0 0)),(5,(.d (AM (max (f a) (f b))))),(6,(.d (AM (min (f a) (f b))))),(27,(.d (AM n))),(28,(.d (AM k)))],[(930,[.blk 28 [.own 931 0 n]]),(931,[.rowD 3 1 (rowN n (UQ f a b k))])]⟩) (fun k=>k≤n) (fun k=>n - k) (0) (Γ _) (A1 hF [930,931] Z Z ⟨Z,Z,Z,Z,Z,trivial⟩) ?_;rintro k hk;refine AC (AE (J (BT Z Z Z) (AD (AC (Ah Z (fun h29=>?_) (fun h29=>?_))))))
 ·refine A3 (AC (A5 (AC ?_)));have hkl:k<n:=Bf h29;refine AE ?_;refine goMv Z Z (AB Z Z (AD (AC (AE (J (A9 Z Z Z BC Z) (goMv Z Z (J (Bu (k) Z Z (Z) (hkl) Z Tryz.underlying28 BD Z) (J (CC Z Z (IB hkl) Z Aq Z) ?_))))))));rw [joK_at];refine goMv Z Z (J (KJ Z Z Z) (AD (Ah Z (fun h36=>?_) (fun h36=>?_))))
  ·have h36n:f k=max (f a) (f b):=Int.ofNat.inj h36;refine AE (J (A9 Z Z Z BC Z) (goMv Z Z (goMv Z Z (J (Bu (k) Z Z (Z) (hkl) Z Tryz.underlying28 BD Z) (V (Qc Z Z Z Z Z (by rw [cY];exact hkl) cZ Z BD) ?_)))));rw [joK_hit h36n];refine AD (AE (J (Ay Z Z (AT (k+1) (by omega)) Z) (goMv Z Z (AD ?_))));exact ⟨k+1,hkl,by omega,A1 hF [930,931] Z (Z) ⟨Z,Z,Z,Z,Z,trivial⟩⟩
  ·have h36n:¬f k=max (f a) (f b):=fun e=>h36 (by rw [e]);refine A3 (AE (J (Ay Z Z (AT (k+1) (by omega)) Z) (goMv Z Z (AD ?_))));exact ⟨k+1,hkl,by omega,A1 hF [930,931] Z (by simp only [ar h36n];rfl) ⟨Z,Z,Z,Z,Z,trivial⟩⟩
 ·refine BF ?_;exact ⟨_,[930,931],_,A7 Z,Z,Z,Z,by rw [Oo (f:=D4 f a b) (h:=UQ f a b k) fun j hj=>by unfold UQ;rw [κ (by have:=h29;omega)]]⟩
end Go.Proofs.YteifpcnphnhaoaaGreat
