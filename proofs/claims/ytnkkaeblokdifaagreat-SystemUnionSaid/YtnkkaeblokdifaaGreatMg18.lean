/- Layer 28: Order, Queue, Item. -/
import Derived.Test.YtnkkaeblokdifaaGreatMg17
namespace Go.Proofs.YtnkkaeblokdifaaGreat
open Go.RowKit
set_option maxRecDepth 100000
theorem Ey (p:Prb):(ordP p).length≤p.it.length:=by unfold ordP;split<;>simp [Nk]
theorem HJ {p:Prb} {i:AU} (h:i∈ordP p):i∈p.it:=by
 unfold ordP at h;split at h
 ·exact (TD _).mem_iff.1 h
 ·cases h
theorem LB (p:Prb) (hb:Cu p):AT Tryz.prog 79 [.d (CT p)] (.sl none (((ordP p).map AU.id).map AF)):=by
 have hso:=KZ p hb;have hlen:=Ey p;have hb2:=hb.2.1
 obtain ⟨S,hS⟩:∃S,ordP p=S:=⟨_,rfl⟩
 rw [hS] at hso hlen⊢;refine B6 Tryz.func79 Z Z Tryz.ntmps79 Z Z Z fun F hF=>(AG (AJ (G (CV 1 Z Z Z Z Z Z Z) (AD Z Z ?_))));refine AI (AG (AJ (AD Z Z (AI (AG (AG (Du 3 900 CS Z Z Z Z (AJ ?_))))))))
 first | refine J (At Z Z A2 rfl) ?_ | refine J (Au Z Z A2 Z Z Z) ?_ | refine J (Av Z Z (rfl) rfl A2 rfl) ?_
 refine J (BO (hso) Z Z) ?_
 first | refine J (Co rfl Tryz.underlying29 rfl) ?_ | refine J (C1 Z Z Tryz.underlying29 rfl) ?_ | refine J (Cp rfl Tryz.underlying29 rfl) ?_ | refine J (Cn rfl Tryz.underlying29 rfl) ?_ | refine J (Ca rfl Tryz.underlying29 rfl) ?_ | refine J (Ck rfl Tryz.underlying29 rfl) ?_
 refine AC Z Z (AI (Aw (EN (α:=Nat×List Int) (fun q=>⟨20,[(3,(.own 900 0 q.2.length)),(7,(.d (.sl none (S.map BC)))),(8,(.d (AF (S.length:Int)))),(9,(.d (AF (q.1:Int))))],[(900,[.rowD 3 1 (q.2.map AF)])]⟩) (fun q=>q.1≤S.length∧q.2=(S.take q.1).map AU.id) (fun q=>S.length - q.1) ((0,[])) (⟨Nat.zero_le _,rfl⟩) (BS hF [900] Z Z ⟨rfl,rfl,rfl,rfl,trivial⟩) ?_)));rintro ⟨k,acc⟩ ⟨hk0,hA⟩;dsimp only at hk0 hA⊢;refine AG (AJ ?_)
 first | refine J (Cc Z Z Z) ?_ | refine J (Cb Z Z Z) ?_
 refine AI (AG ?_)
 first | refine BP rfl (fun h10=>?_) (fun h10=>?_) | refine BK rfl (fun h10=>?_) (fun h10=>?_)
 ·have hk1:k<S.length:=EF h10;refine An (AG (Aw (AG (AJ ?_))));have hal:acc.length≤100000:=by rw [hA,List.length_map,List.length_take];omega
  first | refine J (Ch (k) Z Z (rfl) (A3 hk1) Tryz.underlying29 rfl Cq rfl) ?_ | refine J (Cj (k) Z Z (rfl) (A3 hk1) rfl Tryz.underlying29 Cq rfl) ?_
  first | refine J (At Z Z Ag rfl) ?_ | refine J (Au Z Z Ag Z Z Z) ?_ | refine J (Av Z Z (rfl) rfl Ag rfl) ?_
  refine G (DT 2 FI Z Z Z Z) (G (CC Z Z Z Z Z Z Z Cq) (AI (AJ (AC Z Z ?_))))
  first | refine J (AO rfl Bq Z Z Z) ?_ | refine J (AQ rfl Bq Z Z Z) ?_ | refine J (AR rfl Bq Z Z Z) ?_ | refine J (AP rfl Bq Z Z Z) ?_ | refine J (AN rfl Bq Z Z Z) ?_
  first | refine J (A0 Z Z Aa rfl) ?_ | refine J (AX Z Z Z Aa rfl) ?_ | refine J (AZ Z Z (rfl) rfl Aa rfl) ?_
  refine G (Fg 3 CS Z Z Z Z Z Z Z Z) ?_
  first | refine G (IX (acc) ([S[k].id]) Z Z Z Z Z Z Z Z CS (by simp only [List.length_singleton];omega) Z Z Z Z) ?_ | refine G (Kp (acc) ([S[k].id]) Z Z Z Z Z Z (fun _=>rfl) CS (by simp only [List.length_singleton];omega) Z Z Z Z) ?_
  refine AD Z Z (AI (AJ (J (By Z Z (Ad (k+1) (by omega)) rfl) (AC Z Z (AI ?_)))));exact ⟨(k+1,_),⟨by show k+1≤_;omega,by show _=(S.take (k+1)).map AU.id;rw [Cd hk1,←hA]⟩,by show S.length - (k+1)<S.length - k;omega,BS hF [900] rfl (rfl) ⟨rfl,rfl,rfl,rfl,trivial⟩⟩
 ·refine Ct (AG (Vn (emb:=AF) 3 900 acc Z Z Z Z Z Z Z (AJ (AC Z Z (AD Z Z (AI (Af ?_)))))));exact ⟨_,[],[],Ae rfl,rfl,rfl,by rw [hA,List.take_of_length_le (by have h:=h10;omega)],rfl⟩
theorem Tc (p:Prb) (r:A5) (hb:Cu p):AT Tryz.prog 115 [.d (CT p),.d (E1 r)] (.sl none ((qIds (ordP p) r).map AF)):=by
 have hso:=KZ p hb;have hlen:=Ey p;have hb2:=hb.2.1;have hmem:∀i∈ordP p,i.po.length≤100000∧i.pa.length≤100000∧i.af.length≤100000:=fun i hi=>hb.2.2 i (HJ hi)
 obtain ⟨S,hS⟩:∃S,ordP p=S:=⟨_,rfl⟩
 rw [hS] at hso hlen hmem⊢;refine B6 Tryz.func115 Z Z Tryz.ntmps115 Z Z Z fun F hF=>(AG (AJ (G (CV 1 Z Z Z Z Z Z Z) (G (CV 2 Z Z Z Z Z Z Z) (AD Z Z ?_)))));refine AI (AG (AJ (AD Z Z (AI (AG (AG (Du 5 900 CS Z Z Z Z (AJ ?_))))))))
 first | refine J (At Z Z A2 rfl) ?_ | refine J (Au Z Z A2 Z Z Z) ?_ | refine J (Av Z Z (rfl) rfl A2 rfl) ?_
 refine J (BO (hso) Z Z) ?_
 first | refine J (Co rfl Tryz.underlying29 rfl) ?_ | refine J (C1 Z Z Tryz.underlying29 rfl) ?_ | refine J (Cp rfl Tryz.underlying29 rfl) ?_ | refine J (Cn rfl Tryz.underlying29 rfl) ?_ | refine J (Ca rfl Tryz.underlying29 rfl) ?_ | refine J (Ck rfl Tryz.underlying29 rfl) ?_
 refine AC Z Z (AI (Aw (EN (α:=Nat×List Int) (fun q=>⟨26,[(3,(.ptr 2 0 0)),(5,(.own 900 0 q.2.length)),(9,(.d (.sl none (S.map BC)))),(10,(.d (AF (S.length:Int)))),(11,(.d (AF (q.1:Int))))],[(2,[.blk 53 [.d (AF r.k),.d (Al r.acc.o),.d (AF r.acc.k),.d (Al r.acc.a),.d (Al r.f),.d (Al r.t)]]),(900,[.rowD 3 1 (q.2.map AF)])]⟩) (fun q=>q.1≤S.length∧q.2=qIds (S.take q.1) r) (fun q=>S.length - q.1) ((0,[])) (⟨Nat.zero_le _,rfl⟩) (BS hF [2,900] Z Z ⟨rfl,rfl,rfl,rfl,rfl,trivial⟩) ?_)));rintro ⟨k,acc⟩ ⟨hk0,hA⟩;dsimp only at hk0 hA⊢;refine AG (AJ ?_)
 first | refine J (Cc Z Z Z) ?_ | refine J (Cb Z Z Z) ?_
 refine AI (AG ?_)
 first | refine BP rfl (fun h12=>?_) (fun h12=>?_) | refine BK rfl (fun h12=>?_) (fun h12=>?_)
 ·have hk1:k<S.length:=EF h12;refine An (AG (Aw (AG (AJ ?_))));have hgi:=hmem _ (List.getElem_mem hk1);have hal:acc.length≤100000:=by rw [hA];unfold qIds;rw [List.length_map];have:=List.length_filter_le (fun i=>decide (CO i r<0)) (S.take k);rw [List.length_take] at this;omega
  first | refine J (Ch (k) Z Z (rfl) (A3 hk1) Tryz.underlying29 rfl Cq rfl) ?_ | refine J (Cj (k) Z Z (rfl) (A3 hk1) rfl Tryz.underlying29 Cq rfl) ?_
  first | refine J (At Z Z Ag rfl) ?_ | refine J (Au Z Z Ag Z Z Z) ?_ | refine J (Av Z Z (rfl) rfl Ag rfl) ?_
  refine G (DT 3 FI Z Z Z Z) (G (CC Z Z Z Z Z Z Z Cq) (AI (AG (AJ ?_))))
  first | refine J (At Z Z Ag rfl) ?_ | refine J (Au Z Z Ag Z Z Z) ?_ | refine J (Av Z Z (rfl) rfl Ag rfl) ?_
  first | refine J (At Z Z Ah rfl) ?_ | refine J (Au Z Z Ah Z Z Z) ?_ | refine J (Av Z Z (rfl) rfl Ah rfl) ?_
  refine J (BO (Jv S[k] r (by omega) (by omega) (by omega)) Z Z) ?_
  first | refine J (Cc Z Z Z) ?_ | refine J (Cb Z Z Z) ?_
  refine AI ?_
  first | refine BP rfl (fun h18=>?_) (fun h18=>?_) | refine BK rfl (fun h18=>?_) (fun h18=>?_)
  ·refine AJ (AC Z Z ?_)
   first | refine J (AO rfl Bq Z Z Z) ?_ | refine J (AQ rfl Bq Z Z Z) ?_ | refine J (AR rfl Bq Z Z Z) ?_ | refine J (AP rfl Bq Z Z Z) ?_ | refine J (AN rfl Bq Z Z Z) ?_
   first | refine J (A0 Z Z Aa rfl) ?_ | refine J (AX Z Z Z Aa rfl) ?_ | refine J (AZ Z Z (rfl) rfl Aa rfl) ?_
   refine G (Fg 4 CS Z Z Z Z Z Z Z Z) ?_
   first | refine G (IX (acc) ([S[k].id]) Z Z Z Z Z Z Z Z CS (by simp only [List.length_singleton];omega) Z Z Z Z) ?_ | refine G (Kp (acc) ([S[k].id]) Z Z Z Z Z Z (fun _=>rfl) CS (by simp only [List.length_singleton];omega) Z Z Z Z) ?_
   refine AD Z Z (AI (AJ (J (By Z Z (Ad (k+1) (by omega)) rfl) (AC Z Z (AI ?_)))));exact ⟨(k+1,_),⟨by show k+1≤_;omega,by show _=qIds (S.take (k+1)) r;unfold qIds;rw [Me hk1,if_pos (by simpa using h18),List.map_append,hA];rfl⟩,by show S.length - (k+1)<S.length - k;omega,BS hF [2,900] rfl (rfl) ⟨rfl,rfl,rfl,rfl,rfl,trivial⟩⟩
  ·refine An (AJ (J (By Z Z (Ad (k+1) (by omega)) rfl) (AC Z Z (AI ?_))));exact ⟨(k+1,_),⟨by show k+1≤_;omega,by show _=qIds (S.take (k+1)) r;unfold qIds;rw [Me hk1,if_neg (by simpa using h18),List.append_nil,hA];rfl⟩,by show S.length - (k+1)<S.length - k;omega,BS hF [2,900] rfl (rfl) ⟨rfl,rfl,rfl,rfl,rfl,trivial⟩⟩
 ·refine Ct (AG (Vn (emb:=AF) 5 900 acc Z Z Z Z Z Z Z (AJ (AC Z Z (AD Z Z (AI (Af ?_)))))));exact ⟨_,[],[],Ae rfl,rfl,rfl,by rw [hA,List.take_of_length_le (by have h:=h12;omega)],rfl⟩
def Mb (l:List AU) (id:Int):AU×Bool:=match l.find? fun x=>decide (x.id=id) with
 | some x=>(x,true)
 | none=>(itm0,false)
theorem RA {l:List AU} {id:Int} {k:Nat} (hk:k<l.length) (h0:id∉(l.take k).map AU.id) (h:l[k].id=id):Mb l id=(l[k],true):=by
 have:l.find? (fun x=>decide (x.id=id))=some l[k]:=by
  rw [List.find?_eq_some_iff_getElem];refine ⟨by simp [h],k,hk,rfl,fun j hj=>?_⟩;simp only [Bool.not_eq_true',decide_eq_false_iff_not];intro e;exact h0 (MY hk hj e)
 unfold Mb;rw [this]
theorem Xd {l:List AU} {id:Int} (h:id∉l.map AU.id):Mb l id=(itm0,false):=by
 have:l.find? (fun x=>decide (x.id=id))=none:=by
  rw [List.find?_eq_none];intro x hx e;exact h (List.mem_map.2 ⟨x,hx,by simpa using e⟩)
 unfold Mb;rw [this]
theorem VW:∀w O v,AY w O (.agg [AF 0,AF 0,AF 0,.sl (some true) [],.sl (some true) [],.sl (some true) []]) v ->AY w O (BC itm0) v:=fun w O v h=>h.aggMono rfl (by simp [D.one]) fun i c c' hc hc' v hv=>by
 match i,hc,hc' with
 | 0,hc,hc'=>injection hc with hc;injection hc' with hc';subst hc hc';exact hv
 | 1,hc,hc'=>injection hc with hc;injection hc' with hc';subst hc hc';exact hv
 | 2,hc,hc'=>injection hc with hc;injection hc' with hc';subst hc hc';exact hv
 | 3,hc,hc'=>injection hc with hc;injection hc' with hc';subst hc hc';exact hv.anyNil
 | 4,hc,hc'=>injection hc with hc;injection hc' with hc';subst hc hc';exact hv.anyNil
 | 5,hc,hc'=>injection hc with hc;injection hc' with hc';subst hc hc';exact hv.anyNil
theorem item_p (p:Prb) (id:Int) (hb:Cu p):AT Tryz.prog 80 [.d (CT p),.d (AF id)] (.tup [BC (Mb (ordP p) id).1,B5 (Mb (ordP p) id).2]):=by
 have hso:=KZ p hb;have hlen:=Ey p;have hb2:=hb.2.1;have hmem:∀i∈ordP p,i.po.length≤100000∧i.pa.length≤100000∧i.af.length≤100000:=fun i hi=>hb.2.2 i (HJ hi)
 obtain ⟨S,hS⟩:∃S,ordP p=S:=⟨_,rfl⟩
 rw [hS] at hso hlen hmem⊢;refine B6 Tryz.func80 Z Z Tryz.ntmps80 Z Z Z fun F hF=>?_;refine AG (AJ (G (CV 1 Z Z Z Z Z Z Z) (G (DT 2 FI Z Z Z Z) (AD Z Z (AI (AG (AG (AJ ?_))))))))
 first | refine J (At Z Z A2 rfl) ?_ | refine J (Au Z Z A2 Z Z Z) ?_ | refine J (Av Z Z (rfl) rfl A2 rfl) ?_
 refine J (BO (hso) Z Z) ?_
 first | refine J (Co rfl Tryz.underlying29 rfl) ?_ | refine J (C1 Z Z Tryz.underlying29 rfl) ?_ | refine J (Cp rfl Tryz.underlying29 rfl) ?_ | refine J (Cn rfl Tryz.underlying29 rfl) ?_ | refine J (Ca rfl Tryz.underlying29 rfl) ?_ | refine J (Ck rfl Tryz.underlying29 rfl) ?_
 refine AC Z Z (AI (Aw (EN (α:=Nat) (fun k=>⟨23,[(1,.d (AF id)),(4,(.ptr 2 0 0)),(9,(.d (.sl none (S.map BC)))),(10,(.d (AF (S.length:Int)))),(11,(.d (AF (k:Int))))],[(2,[.blk 49 [.d (AF 0),.d (AF 0),.d (AF 0),II,II,II]])]⟩) (fun k=>k≤S.length∧id∉(S.take k).map AU.id) (fun k=>S.length - k) (0) (⟨Nat.zero_le _,by simp⟩) (BS hF [2] Z Z ⟨rfl,rfl,rfl,rfl,rfl,trivial⟩) ?_)));rintro k ⟨hk0,hk⟩;refine AG (AJ ?_)
 first | refine J (Cc Z Z Z) ?_ | refine J (Cb Z Z Z) ?_
 refine AI (AG ?_)
 first | refine BP rfl (fun h12=>?_) (fun h12=>?_) | refine BK rfl (fun h12=>?_) (fun h12=>?_)
 ·have hk1:k<S.length:=EF h12;refine An (AG (Aw (AG (AJ ?_))));have hgi:=hmem _ (List.getElem_mem hk1)
  first | refine J (Ch (k) Z Z (rfl) (A3 hk1) Tryz.underlying29 rfl Cq rfl) ?_ | refine J (Cj (k) Z Z (rfl) (A3 hk1) rfl Tryz.underlying29 Cq rfl) ?_
  first | refine J (At Z Z Ag rfl) ?_ | refine J (Au Z Z Ag Z Z Z) ?_ | refine J (Av Z Z (rfl) rfl Ag rfl) ?_
  refine G (DT 3 FI Z Z Z Z) (G (CC Z Z Z Z Z Z Z Cq) (AI (AG (AJ ?_))))
  first | refine J (AO rfl Bq Z Z Z) ?_ | refine J (AQ rfl Bq Z Z Z) ?_ | refine J (AR rfl Bq Z Z Z) ?_ | refine J (AP rfl Bq Z Z Z) ?_ | refine J (AN rfl Bq Z Z Z) ?_
  first | refine J (A0 Z Z Aa rfl) ?_ | refine J (AX Z Z Z Aa rfl) ?_ | refine J (AZ Z Z (rfl) rfl Aa rfl) ?_
  refine AC Z Z ?_
  first | refine J (EX Z Z Z) ?_ | refine J (EY Z Z Z) ?_ | refine J (EO Z Z Z) ?_ | refine J (ER Tryz.underlying3 Z Z Z) ?_ | refine J (EU Tryz.underlying3 Z Z Z) ?_ | refine J (ET Tryz.underlying3 Z Z) ?_ | refine J (ES Tryz.underlying3 Z Z Z) ?_ | refine J (EW Tryz.underlying3 Z Z) ?_
  refine AI ?_
  first | refine BP rfl (fun h18=>?_) (fun h18=>?_) | refine BK rfl (fun h18=>?_) (fun h18=>?_)
  ·refine AG (AJ ?_)
   first | refine J (At Z Z Ag rfl) ?_ | refine J (Au Z Z Ag Z Z Z) ?_ | refine J (Av Z Z (rfl) rfl Ag rfl) ?_
   refine J (BO (clone_p S[k] (by omega) (by omega) (by omega)) Z Z) (G (CC Z Z Z Z Z Z Z Cq) (AD Z Z (AI (Af ?_))));exact ⟨_,[],[],Ae rfl,rfl,rfl,by rw [RA hk1 hk h18],rfl⟩
  ·refine An (AJ (J (By Z Z (Ad (k+1) (by omega)) rfl) (AC Z Z (AI ?_))));exact ⟨k+1,⟨by show k+1≤_;omega,VF hk1 hk h18⟩,by show S.length - (k+1)<S.length - k;omega,BS hF [2] rfl (rfl) ⟨rfl,rfl,rfl,rfl,rfl,trivial⟩⟩
 ·refine Ct (AG (AJ (J (DC FI Wo Z Z Z) (To 22 (BC itm0) rfl VW (G (CC Z Z Z Z Z Z Z Cq) (AD Z Z (AI (Af ?_))))))));exact ⟨_,[],[],Ae rfl,rfl,rfl,by rw [Xd (by rw [List.take_of_length_le (by have h:=h12;omega)] at hk;exact hk)],rfl⟩
theorem UA {l:List AU} (hn:(l.map AU.id).Nodup) {x y:AU} (hx:x∈l) (hy:y∈l) (h:x.id=y.id):x=y:=by
 induction l with
 | nil=>cases hx
 | cons a l ih=>
  rw [List.map_cons,List.nodup_cons] at hn;rcases List.mem_cons.1 hx with e1 | hx'<;>rcases List.mem_cons.1 hy with e2 | hy'
  ·rw [e1,e2]
  ·exact absurd (List.mem_map.2 ⟨y,hy',by rw [←h,e1]⟩) hn.1
  ·exact absurd (List.mem_map.2 ⟨x,hx',by rw [h,e2]⟩) hn.1
  ·exact ih hn.2 hx' hy'
theorem YV {l:List AU} (h:GZ l=0):(l.map AU.id).Nodup:=by
 have h0:=YU.1 h;rw [List.Nodup,List.pairwise_map,List.pairwise_iff_getElem];intro i j hi hj hij e;have:=h0 j (List.mem_range.2 hj);unfold P3 at this;rw [Bh itm0 hj] at this
 split at this
 ·contradiction
 ·split at this
  ·cases this
  ·rename_i hn
   exact hn (.inl (MY hj hij e))
theorem own_p (p:Prb) (h:Sml p):AT Tryz.prog 9 [.d (CT p)] (CT p):=by
 obtain ⟨g1,g2,g3⟩:=h;refine B6 Tryz.func9 Z Z Tryz.ntmps9 Z Z Z fun F hF=>(AG (AJ (G (CV 1 Z Z Z Z Z Z Z) (G (DT 2 Rp Z Z Z Z) (AI (AG (AJ (G (DT 3 Rp Z Z Z Z) ?_))))))));refine AI (AG (AG (Cs 3 0 0 901 WZ Z Z Z Z Z Z Z (AJ (AD Z Z (AI (Aw (EN (α:=List Roo) (fun acc=>⟨51,[(1,(.ptr 1 0 0)),(2,(.ptr 2 0 0)),(3,(.ptr 3 0 0)),(4,(.d (AF (acc.length:Int))))],[(901,[.rowD 74 7 (acc.map F6)]),(1,[QV 25 p]),(2,[.blk 31 [II,II]]),(3,[.blk 31 [.own 901 0 acc.length,II]])]⟩) (fun acc=>acc=p.ro.take acc.length∧acc.length≤p.ro.length) (fun acc=>p.ro.length - acc.length) ([]) (⟨by simp,Nat.zero_le _⟩) (BS hF [901,1,2,3] Z Z ⟨rfl,rfl,rfl,rfl,trivial⟩) ?_))))))));rintro acc ⟨hI,hk0⟩;refine AG (AG (AJ (AC Z Z ?_)))
 first | refine J (AO rfl JD Z Z Z) ?_ | refine J (AQ rfl JD Z Z Z) ?_ | refine J (AR rfl JD Z Z Z) ?_ | refine J (AP rfl JD Z Z Z) ?_ | refine J (AN rfl JD Z Z Z) ?_
 first | refine J (A0 Z Z Gq rfl) ?_ | refine J (AX Z Z Z Gq rfl) ?_ | refine J (AZ Z Z (rfl) rfl Gq rfl) ?_
 first | refine J (Co rfl Tryz.underlying22 rfl) ?_ | refine J (C1 Z Z Tryz.underlying22 rfl) ?_ | refine J (Cp rfl Tryz.underlying22 rfl) ?_ | refine J (Cn rfl Tryz.underlying22 rfl) ?_ | refine J (Ca rfl Tryz.underlying22 rfl) ?_ | refine J (Ck rfl Tryz.underlying22 rfl) ?_
 first | refine J (Cc Z Z Z) ?_ | refine J (Cb Z Z Z) ?_
 refine AI ?_
 first | refine BP rfl (fun h10=>?_) (fun h10=>?_) | refine BK rfl (fun h10=>?_) (fun h10=>?_)
 ·have hk1:acc.length<p.ro.length:=EF h10;refine An (AG (Aw (Gs [[],[0],[],[2],[],[2,3,4],[2,3,4,5],[2,3,4,5,6],[2,3,4,5,6,7],[],[9],[],[9,10,11],[9,10,11,12],[9,10,11,12,13],[2,3,4,5,6,7,8,9,10,11,12,13,14],[2,3,4,5,6,7,8,9,10,11,12,13,14,15],[0,1,2,3,4,5,6,7,8,9,10,11,12,13,14,15,16],[0,1,2,3,4,5,6,7,8,9,10,11,12,13,14,15,16,17],[0,1,2,3,4,5,6,7,8,9,10,11,12,13,14,15,16,17,18]] BF rfl (IK ?_))))
  first | refine AE [3] [] Z Z (fun _=>AB (AO rfl Hf Z Z Z)) ?_ | refine AH [3] Z Z (fun _=>AB (AO rfl Hf Z Z Z)) ?_ | refine AE [3] [] Z Z (fun _=>AB (AQ rfl Hf Z Z Z)) ?_ | refine AH [3] Z Z (fun _=>AB (AQ rfl Hf Z Z Z)) ?_ | refine AE [3] [] Z Z (fun _=>AB (AR rfl Hf Z Z Z)) ?_ | refine AH [3] Z Z (fun _=>AB (AR rfl Hf Z Z Z)) ?_ | refine AE [3] [] Z Z (fun _=>AB (AP rfl Hf Z Z Z)) ?_ | refine AH [3] Z Z (fun _=>AB (AP rfl Hf Z Z Z)) ?_ | refine AE [3] [] Z Z (fun _=>AB (AN rfl Hf Z Z Z)) ?_ | refine AH [3] Z Z (fun _=>AB (AN rfl Hf Z Z Z)) ?_
  first | refine AE [13] [] Z Z (fun _=>AB (A0 Z Z Gp rfl)) ?_ | refine AH [13] Z Z (fun _=>AB (A0 Z Z Gp rfl)) ?_ | refine AE [13] [] Z Z (fun _=>AB (AX Z Z Z Gp rfl)) ?_ | refine AH [13] Z Z (fun _=>AB (AX Z Z Z Gp rfl)) ?_ | refine AE [13] [] Z Z (fun _=>AB (AZ Z Z (rfl) rfl Gp rfl)) ?_ | refine AH [13] Z Z (fun _=>AB (AZ Z Z (rfl) rfl Gp rfl)) ?_
  first | refine AE [1] [] Z Z (fun _=>AB (AO rfl JD Z Z Z)) ?_ | refine AH [1] Z Z (fun _=>AB (AO rfl JD Z Z Z)) ?_ | refine AE [1] [] Z Z (fun _=>AB (AQ rfl JD Z Z Z)) ?_ | refine AH [1] Z Z (fun _=>AB (AQ rfl JD Z Z Z)) ?_ | refine AE [1] [] Z Z (fun _=>AB (AR rfl JD Z Z Z)) ?_ | refine AH [1] Z Z (fun _=>AB (AR rfl JD Z Z Z)) ?_ | refine AE [1] [] Z Z (fun _=>AB (AP rfl JD Z Z Z)) ?_ | refine AH [1] Z Z (fun _=>AB (AP rfl JD Z Z Z)) ?_ | refine AE [1] [] Z Z (fun _=>AB (AN rfl JD Z Z Z)) ?_ | refine AH [1] Z Z (fun _=>AB (AN rfl JD Z Z Z)) ?_
  first | refine AE [15] [] Z Z (fun _=>AB (A0 Z Z Gq rfl)) ?_ | refine AH [15] Z Z (fun _=>AB (A0 Z Z Gq rfl)) ?_ | refine AE [15] [] Z Z (fun _=>AB (AX Z Z Z Gq rfl)) ?_ | refine AH [15] Z Z (fun _=>AB (AX Z Z Z Gq rfl)) ?_ | refine AE [15] [] Z Z (fun _=>AB (AZ Z Z (rfl) rfl Gq rfl)) ?_ | refine AH [15] Z Z (fun _=>AB (AZ Z Z (rfl) rfl Gq rfl)) ?_
  first | refine AE [4] [] Z Z (fun _=>AB (Bb Z Z)) ?_ | refine AH [4] Z Z (fun _=>AB (Bb Z Z)) ?_
  first | refine AE [16,17] [] Z Z (fun _=>AB (Ch (acc.length) Z Z (rfl) (A3 hk1) Tryz.underlying22 rfl QG rfl)) ?_ | refine AH [16,17] Z Z (fun _=>AB (Ch (acc.length) Z Z (rfl) (A3 hk1) Tryz.underlying22 rfl QG rfl)) ?_ | refine AE [16,17] [] Z Z (fun _=>AB (Cj (acc.length) Z Z (rfl) (A3 hk1) rfl Tryz.underlying22 QG rfl)) ?_ | refine AH [16,17] Z Z (fun _=>AB (Cj (acc.length) Z Z (rfl) (A3 hk1) rfl Tryz.underlying22 QG rfl)) ?_
  first | refine AE [18] [] Z Z (fun _=>AB (AO rfl Fd Z Z Z)) ?_ | refine AH [18] Z Z (fun _=>AB (AO rfl Fd Z Z Z)) ?_ | refine AE [18] [] Z Z (fun _=>AB (AQ rfl Fd Z Z Z)) ?_ | refine AH [18] Z Z (fun _=>AB (AQ rfl Fd Z Z Z)) ?_ | refine AE [18] [] Z Z (fun _=>AB (AR rfl Fd Z Z Z)) ?_ | refine AH [18] Z Z (fun _=>AB (AR rfl Fd Z Z Z)) ?_ | refine AE [18] [] Z Z (fun _=>AB (AP rfl Fd Z Z Z)) ?_ | refine AH [18] Z Z (fun _=>AB (AP rfl Fd Z Z Z)) ?_ | refine AE [18] [] Z Z (fun _=>AB (AN rfl Fd Z Z Z)) ?_ | refine AH [18] Z Z (fun _=>AB (AN rfl Fd Z Z Z)) ?_
  first | refine AE [19] [] Z Z (fun _=>AB (At Z Z Ul rfl)) ?_ | refine AH [19] Z Z (fun _=>AB (At Z Z Ul rfl)) ?_ | refine AE [19] [] Z Z (fun _=>AB (Au Z Z Ul Z Z Z)) ?_ | refine AH [19] Z Z (fun _=>AB (Au Z Z Ul Z Z Z)) ?_ | refine AE [19] [] Z Z (fun _=>AB (Av Z Z (rfl) rfl Ul rfl)) ?_ | refine AH [19] Z Z (fun _=>AB (Av Z Z (rfl) rfl Ul rfl)) ?_
  first | refine AE [20] [] Z Z (fun _=>AB (BO (Q5 p.ro[acc.length].r) Z Z)) ?_ | refine AH [20] Z Z (fun _=>AB (BO (Q5 p.ro[acc.length].r) Z Z)) ?_
  first | refine AE [1] [] Z Z (fun _=>AB (AO rfl JD Z Z Z)) ?_ | refine AH [1] Z Z (fun _=>AB (AO rfl JD Z Z Z)) ?_ | refine AE [1] [] Z Z (fun _=>AB (AQ rfl JD Z Z Z)) ?_ | refine AH [1] Z Z (fun _=>AB (AQ rfl JD Z Z Z)) ?_ | refine AE [1] [] Z Z (fun _=>AB (AR rfl JD Z Z Z)) ?_ | refine AH [1] Z Z (fun _=>AB (AR rfl JD Z Z Z)) ?_ | refine AE [1] [] Z Z (fun _=>AB (AP rfl JD Z Z Z)) ?_ | refine AH [1] Z Z (fun _=>AB (AP rfl JD Z Z Z)) ?_ | refine AE [1] [] Z Z (fun _=>AB (AN rfl JD Z Z Z)) ?_ | refine AH [1] Z Z (fun _=>AB (AN rfl JD Z Z Z)) ?_
  first | refine AE [22] [] Z Z (fun _=>AB (A0 Z Z Gq rfl)) ?_ | refine AH [22] Z Z (fun _=>AB (A0 Z Z Gq rfl)) ?_ | refine AE [22] [] Z Z (fun _=>AB (AX Z Z Z Gq rfl)) ?_ | refine AH [22] Z Z (fun _=>AB (AX Z Z Z Gq rfl)) ?_ | refine AE [22] [] Z Z (fun _=>AB (AZ Z Z (rfl) rfl Gq rfl)) ?_ | refine AH [22] Z Z (fun _=>AB (AZ Z Z (rfl) rfl Gq rfl)) ?_
  first | refine AE [4] [] Z Z (fun _=>AB (Bb Z Z)) ?_ | refine AH [4] Z Z (fun _=>AB (Bb Z Z)) ?_
  first | refine AE [23,24] [] Z Z (fun _=>AB (Ch (acc.length) Z Z (rfl) (A3 hk1) Tryz.underlying22 rfl QG rfl)) ?_ | refine AH [23,24] Z Z (fun _=>AB (Ch (acc.length) Z Z (rfl) (A3 hk1) Tryz.underlying22 rfl QG rfl)) ?_ | refine AE [23,24] [] Z Z (fun _=>AB (Cj (acc.length) Z Z (rfl) (A3 hk1) rfl Tryz.underlying22 QG rfl)) ?_ | refine AH [23,24] Z Z (fun _=>AB (Cj (acc.length) Z Z (rfl) (A3 hk1) rfl Tryz.underlying22 QG rfl)) ?_
  first | refine AE [25] [] Z Z (fun _=>AB (AO rfl Fc Z Z Z)) ?_ | refine AH [25] Z Z (fun _=>AB (AO rfl Fc Z Z Z)) ?_ | refine AE [25] [] Z Z (fun _=>AB (AQ rfl Fc Z Z Z)) ?_ | refine AH [25] Z Z (fun _=>AB (AQ rfl Fc Z Z Z)) ?_ | refine AE [25] [] Z Z (fun _=>AB (AR rfl Fc Z Z Z)) ?_ | refine AH [25] Z Z (fun _=>AB (AR rfl Fc Z Z Z)) ?_ | refine AE [25] [] Z Z (fun _=>AB (AP rfl Fc Z Z Z)) ?_ | refine AH [25] Z Z (fun _=>AB (AP rfl Fc Z Z Z)) ?_ | refine AE [25] [] Z Z (fun _=>AB (AN rfl Fc Z Z Z)) ?_ | refine AH [25] Z Z (fun _=>AB (AN rfl Fc Z Z Z)) ?_
  first | refine AE [26] [] Z Z (fun _=>AB (A0 Z Z Be rfl)) ?_ | refine AH [26] Z Z (fun _=>AB (A0 Z Z Be rfl)) ?_ | refine AE [26] [] Z Z (fun _=>AB (AX Z Z Z Be rfl)) ?_ | refine AH [26] Z Z (fun _=>AB (AX Z Z Z Be rfl)) ?_ | refine AE [26] [] Z Z (fun _=>AB (AZ Z Z (rfl) rfl Be rfl)) ?_ | refine AH [26] Z Z (fun _=>AB (AZ Z Z (rfl) rfl Be rfl)) ?_
  first | refine AE [21,27] [] Z Z (fun _=>AB (DC Ol Uu Z Z Z)) ?_ | refine AH [21,27] Z Z (fun _=>AB (DC Ol Uu Z Z Z)) ?_
  refine G7 [28] [50] [(29,_)] Z Z (fun _=>G8 (Fg 50 WZ Z Z Z Z Z Z Z Z)) (.inr ⟨29,_,rfl,rfl,rfl,rfl,rfl⟩) Z Z Z Z Z (Gf 17 Z Z Z (BE 18 Z Z ?_))
  first | refine G (IX (acc) ([p.ro[acc.length]]) Z Z Z Z Z Z Z Z WZ (by simp only [List.length_singleton];omega) Z Z Z Z) ?_ | refine G (Kp (acc) ([p.ro[acc.length]]) Z Z Z Z Z Z (fun _=>rfl) WZ (by simp only [List.length_singleton];omega) Z Z Z Z) ?_
  refine AI ⟨rfl,?_⟩;refine BE 19 Z Z ?_
  first | refine J (AO rfl Hf Z Z Z) ?_ | refine J (AQ rfl Hf Z Z Z) ?_ | refine J (AR rfl Hf Z Z Z) ?_ | refine J (AP rfl Hf Z Z Z) ?_ | refine J (AN rfl Hf Z Z Z) ?_
  refine AI ⟨rfl,?_⟩;refine BE 20 Z Z (G (CC Z Z Z Z Z Z Z sz28) (AI ⟨rfl,?_⟩));refine Ge (AJ (AC Z Z (J (By Z Z (TL acc p.ro[acc.length] (by omega)) rfl) (AD Z Z (AI ?_)))));exact ⟨acc++ [p.ro[acc.length]],⟨L9 hI hk1,by rw [List.length_append];show acc.length+1≤_;omega⟩,by rw [List.length_append];show p.ro.length - (acc.length+1)<p.ro.length - acc.length;omega,BS hF [901,1,2,3] rfl (rfl) ⟨rfl,rfl,rfl,rfl,trivial⟩⟩
 ·refine Ct (AG (AG ?_));have hacc:=Oq hI (fun h=>h10 (by omega));refine YT (ys:=p.ro.map F6) 3 0 0 901 Z Z Z (by simp) (by rw [hacc];exact List.take_of_length_le (by simp)) Z Z Z Z Z Z (Cs 3 0 1 902 LV Z Z Z Z Z Z Z (AJ (AD Z Z (AI (Aw (EN (α:=List AU) (fun acc2=>⟨51,[(1,(.ptr 1 0 0)),(2,(.ptr 2 0 0)),(3,(.ptr 3 0 0)),(5,(.d (AF (acc2.length:Int))))],[(902,[.rowD 49 6 (acc2.map BC)]),(1,[QV 25 p]),(2,[.blk 31 [II,II]]),(3,[.blk 31 [.d (.sl none (p.ro.map F6)),.own 902 0 acc2.length]])]⟩) (fun acc2=>acc2=p.it.take acc2.length∧acc2.length≤p.it.length) (fun acc2=>p.it.length - acc2.length) ([]) (⟨by simp,Nat.zero_le _⟩) (BS hF [902,1,2,3] Z Z ⟨rfl,rfl,rfl,rfl,trivial⟩) ?_))))));rintro acc2 ⟨hJ,hk2⟩;refine AG (AG (AJ (AC Z Z ?_)))
  first | refine J (AO rfl GG Z Z Z) ?_ | refine J (AQ rfl GG Z Z Z) ?_ | refine J (AR rfl GG Z Z Z) ?_ | refine J (AP rfl GG Z Z Z) ?_ | refine J (AN rfl GG Z Z Z) ?_
  first | refine J (A0 Z Z E3 rfl) ?_ | refine J (AX Z Z Z E3 rfl) ?_ | refine J (AZ Z Z (rfl) rfl E3 rfl) ?_
  first | refine J (Co rfl Tryz.underlying23 rfl) ?_ | refine J (C1 Z Z Tryz.underlying23 rfl) ?_ | refine J (Cp rfl Tryz.underlying23 rfl) ?_ | refine J (Cn rfl Tryz.underlying23 rfl) ?_ | refine J (Ca rfl Tryz.underlying23 rfl) ?_ | refine J (Ck rfl Tryz.underlying23 rfl) ?_
  first | refine J (Cc Z Z Z) ?_ | refine J (Cb Z Z Z) ?_
  refine AI ?_
  first | refine BP rfl (fun h36=>?_) (fun h36=>?_) | refine BK rfl (fun h36=>?_) (fun h36=>?_)
  ·have hk3:acc2.length<p.it.length:=EF h36;refine An (AG (Aw (Gs [[],[0],[],[2],[],[2,3,4],[2,3,4,5],[2,3,4,5,6],[2,3,4,5,6,7],[0,1,2,3,4,5,6,7,8],[0,1,2,3,4,5,6,7,8,9],[0,1,2,3,4,5,6,7,8,9,10]] BF rfl (IK ?_))))
   first | refine AE [3] [] Z Z (fun _=>AB (AO rfl DK Z Z Z)) ?_ | refine AH [3] Z Z (fun _=>AB (AO rfl DK Z Z Z)) ?_ | refine AE [3] [] Z Z (fun _=>AB (AQ rfl DK Z Z Z)) ?_ | refine AH [3] Z Z (fun _=>AB (AQ rfl DK Z Z Z)) ?_ | refine AE [3] [] Z Z (fun _=>AB (AR rfl DK Z Z Z)) ?_ | refine AH [3] Z Z (fun _=>AB (AR rfl DK Z Z Z)) ?_ | refine AE [3] [] Z Z (fun _=>AB (AP rfl DK Z Z Z)) ?_ | refine AH [3] Z Z (fun _=>AB (AP rfl DK Z Z Z)) ?_ | refine AE [3] [] Z Z (fun _=>AB (AN rfl DK Z Z Z)) ?_ | refine AH [3] Z Z (fun _=>AB (AN rfl DK Z Z Z)) ?_
   first | refine AE [39] [] Z Z (fun _=>AB (A0 Z Z CU rfl)) ?_ | refine AH [39] Z Z (fun _=>AB (A0 Z Z CU rfl)) ?_ | refine AE [39] [] Z Z (fun _=>AB (AX Z Z Z CU rfl)) ?_ | refine AH [39] Z Z (fun _=>AB (AX Z Z Z CU rfl)) ?_ | refine AE [39] [] Z Z (fun _=>AB (AZ Z Z (rfl) rfl CU rfl)) ?_ | refine AH [39] Z Z (fun _=>AB (AZ Z Z (rfl) rfl CU rfl)) ?_
   first | refine AE [1] [] Z Z (fun _=>AB (AO rfl GG Z Z Z)) ?_ | refine AH [1] Z Z (fun _=>AB (AO rfl GG Z Z Z)) ?_ | refine AE [1] [] Z Z (fun _=>AB (AQ rfl GG Z Z Z)) ?_ | refine AH [1] Z Z (fun _=>AB (AQ rfl GG Z Z Z)) ?_ | refine AE [1] [] Z Z (fun _=>AB (AR rfl GG Z Z Z)) ?_ | refine AH [1] Z Z (fun _=>AB (AR rfl GG Z Z Z)) ?_ | refine AE [1] [] Z Z (fun _=>AB (AP rfl GG Z Z Z)) ?_ | refine AH [1] Z Z (fun _=>AB (AP rfl GG Z Z Z)) ?_ | refine AE [1] [] Z Z (fun _=>AB (AN rfl GG Z Z Z)) ?_ | refine AH [1] Z Z (fun _=>AB (AN rfl GG Z Z Z)) ?_
   first | refine AE [41] [] Z Z (fun _=>AB (A0 Z Z E3 rfl)) ?_ | refine AH [41] Z Z (fun _=>AB (A0 Z Z E3 rfl)) ?_ | refine AE [41] [] Z Z (fun _=>AB (AX Z Z Z E3 rfl)) ?_ | refine AH [41] Z Z (fun _=>AB (AX Z Z Z E3 rfl)) ?_ | refine AE [41] [] Z Z (fun _=>AB (AZ Z Z (rfl) rfl E3 rfl)) ?_ | refine AH [41] Z Z (fun _=>AB (AZ Z Z (rfl) rfl E3 rfl)) ?_
   first | refine AE [5] [] Z Z (fun _=>AB (Bb Z Z)) ?_ | refine AH [5] Z Z (fun _=>AB (Bb Z Z)) ?_
   have hgi:=g3 _ (List.getElem_mem hk3)
   first | refine AE [42,43] [] Z Z (fun _=>AB (Ch (acc2.length) Z Z (rfl) (A3 hk3) Tryz.underlying23 rfl NP rfl)) ?_ | refine AH [42,43] Z Z (fun _=>AB (Ch (acc2.length) Z Z (rfl) (A3 hk3) Tryz.underlying23 rfl NP rfl)) ?_ | refine AE [42,43] [] Z Z (fun _=>AB (Cj (acc2.length) Z Z (rfl) (A3 hk3) rfl Tryz.underlying23 NP rfl)) ?_ | refine AH [42,43] Z Z (fun _=>AB (Cj (acc2.length) Z Z (rfl) (A3 hk3) rfl Tryz.underlying23 NP rfl)) ?_
   first | refine AE [44] [] Z Z (fun _=>AB (At Z Z Uk rfl)) ?_ | refine AH [44] Z Z (fun _=>AB (At Z Z Uk rfl)) ?_ | refine AE [44] [] Z Z (fun _=>AB (Au Z Z Uk Z Z Z)) ?_ | refine AH [44] Z Z (fun _=>AB (Au Z Z Uk Z Z Z)) ?_ | refine AE [44] [] Z Z (fun _=>AB (Av Z Z (rfl) rfl Uk rfl)) ?_ | refine AH [44] Z Z (fun _=>AB (Av Z Z (rfl) rfl Uk rfl)) ?_
   first | refine AE [45] [] Z Z (fun _=>AB (BO (OD p.it[acc2.length] (by omega) (by omega) (by omega)) Z Z)) ?_ | refine AH [45] Z Z (fun _=>AB (BO (OD p.it[acc2.length] (by omega) (by omega) (by omega)) Z Z)) ?_
   refine G7 [46] [51] [(47,_)] Z Z (fun _=>G8 (Fg 51 LV Z Z Z Z Z Z Z Z)) (.inr ⟨47,_,rfl,rfl,rfl,rfl,rfl⟩) Z Z Z Z Z (Gf 9 Z Z Z (BE 10 Z Z ?_))
   first | refine G (IX (acc2) ([p.it[acc2.length]]) Z Z Z Z Z Z Z Z LV (by simp only [List.length_singleton];omega) Z Z Z Z) ?_ | refine G (Kp (acc2) ([p.it[acc2.length]]) Z Z Z Z Z Z (fun _=>rfl) LV (by simp only [List.length_singleton];omega) Z Z Z Z) ?_
   refine AI ⟨rfl,?_⟩;refine BE 11 Z Z ?_
   first | refine J (AO rfl DK Z Z Z) ?_ | refine J (AQ rfl DK Z Z Z) ?_ | refine J (AR rfl DK Z Z Z) ?_ | refine J (AP rfl DK Z Z Z) ?_ | refine J (AN rfl DK Z Z Z) ?_
   refine AI ⟨rfl,?_⟩;refine BE 12 Z Z (G (CC Z Z Z Z Z Z Z sz29) (AI ⟨rfl,?_⟩));refine Ge (AJ (AC Z Z (J (By Z Z (TL acc2 p.it[acc2.length] (by omega)) rfl) (AD Z Z (AI ?_)))));exact ⟨acc2++ [p.it[acc2.length]],⟨L9 hJ hk3,by rw [List.length_append];show acc2.length+1≤_;omega⟩,by rw [List.length_append];show p.it.length - (acc2.length+1)<p.it.length - acc2.length;omega,BS hF [902,1,2,3] rfl (rfl) ⟨rfl,rfl,rfl,rfl,trivial⟩⟩
  ·refine Ct (AG ?_);have hacc2:=Oq hJ (fun h=>h36 (by omega));refine YT (ys:=p.it.map BC) 3 0 1 902 Z Z Z (by simp) (by rw [hacc2];exact List.take_of_length_le (by simp)) Z Z Z Z Z Z (AJ ?_)
   first | refine J (At Z Z A2 rfl) ?_ | refine J (Au Z Z A2 Z Z Z) ?_ | refine J (Av Z Z (rfl) rfl A2 rfl) ?_
   refine G (CC Z Z Z Z Z Z Z sz31) (AI (Af ?_));exact ⟨_,[],[],Ae rfl,rfl,rfl,rfl,rfl⟩
theorem sml_B {p:Prb} (h:Sml p):Cu p:=⟨by have:=h.2.1;omega,by have:=h.1;omega,fun i hi=>by have:=h.2.2 i hi;omega⟩
def Mw (ids l:List Int) (k:Nat):Int:=if l.getD k 0∉ids then 9 else if l.getD k 0∈l.take k then 7 else 0
def W4 (ids l:List Int):Int:=Bi ((List.range l.length).map (Mw ids l))
def E7 (p:Prb) (l:List Int):Int:=if Ab p≠0 then Ab p else W4 (p.it.map AU.id) l
theorem W2 {ids l:List Int} (h:W4 ids l=0):l.Nodup∧∀x∈l,x∈ids:=by
 have h0:=YU.1 h;refine ⟨List.pairwise_iff_getElem.2 fun i j hi hj hij e=>?_,fun x hx=>?_⟩
 ·have:=h0 j (List.mem_range.2 hj);unfold Mw at this;rw [Bh 0 hj] at this
  split at this
  ·cases this
  ·split at this
   ·cases this
   ·rename_i hn;exact hn (by rw [←e,List.mem_take_iff_getElem];exact ⟨i,by omega,rfl⟩)
 ·obtain ⟨j,hj,rfl⟩:=List.getElem_of_mem hx;have:=h0 j (List.mem_range.2 hj);unfold Mw at this;rw [Bh 0 hj] at this
  split at this
  ·cases this
  ·rename_i hn;exact Decidable.not_not.1 hn
theorem RW (x:A5×Int) (l:List (A5×Int)) (r:A5):B8 (x::l) r=(if x.1=r then x.2 else 0)+B8 l r:=by simp [B8]
theorem LM {l:List (A5×Int)} {r:A5} (h:r∉l.map Prod.fst):B8 l r=0:=by
 induction l with
 | nil=>rfl
 | cons x l ih=>
  rw [List.map_cons,List.mem_cons] at h;rw [RW,if_neg (fun e=>h (.inl e.symm)),ih (fun h'=>h (.inr h'))];rfl
theorem lft_len {α β:Type} {m:List (α×β)} {B seen:List Nat}:(EJ m B seen).length≤m.length:=by
 unfold EJ;rw [List.length_map];refine Nat.le_trans (List.length_filter_le _ _) ?_;rw [List.length_zip];omega
theorem UM {i:AU} (h:B9 i=0) (r:A5): -Mx≤B8 (ctr i) r∧B8 (ctr i) r≤Mx:=by
 have hb:=(Mv h).2.2.2.2.2.2.2.2;unfold R4 at hb
 split at hb
 ·cases hb
 ·rename_i hn
  by_cases hr:r∈(sumL (ctr i)).map Prod.fst
  ·obtain ⟨⟨r',v⟩,hx,e⟩:=List.mem_map.1 hr;have e:r'=r:=e;subst e;have hv:=((Gz _ _ _).1 hx).2;rw [←hv];exact Decidable.not_not.1 fun hh=>hn ⟨_,hx,hh⟩
  ·rw [LM fun h'=>hr ((KL _ r).2 h')];simp only [Mx];omega
theorem bnd_E {i:AU} (h:B9 i=0):Pv (sumL (ctr i)):=fun x hx=>by
 have hv:=((Gz (ctr i) x.1 x.2).1 hx).2;rw [hv];simpa [Mx] using UM h x.1
theorem Ns {l:List Roo} (h:EH l=0):∀x∈l,-4000000000000000≤x.n∧x.n≤4000000000000000:=fun x hx=>by
 have h0:=YU.1 h;obtain ⟨j,hj,rfl⟩:=List.getElem_of_mem hx;have:=h0 j (List.mem_range.2 hj);unfold NT at this;rw [Bh DH hj] at this
 split at this
 ·contradiction
 ·split at this
  ·cases this
  ·rename_i hn;simp only [Mx] at hn;omega
theorem YE (l:List Int) (hl:l.length≤1000000):A6 Tryz.prog 94 [.d (.sl none (l.map AF))] [] fun r H'=>r= .own 20 0 l.length∧H'=[(20,[.rowD 3 1 (l.map AF)])]:=by
 refine B6 Tryz.func94 Z Z Tryz.ntmps94 Z Z Z fun F hF=>(AG (AJ (AD Z Z ?_)));skip;refine AI (AG (AG (AJ (AC Z Z (GV 3 rfl (fun h0=>?_) ?_)))))
 ·first | refine J (EX Z Z Z) ?_ | refine J (EY Z Z Z) ?_ | refine J (EO Z Z Z) ?_ | refine J (ER Tryz.underlying33 Z Z Z) ?_ | refine J (EU Tryz.underlying33 Z Z Z) ?_ | refine J (ET Tryz.underlying33 Z Z) ?_ | refine J (ES Tryz.underlying33 Z Z Z) ?_ | refine J (EW Tryz.underlying33 Z Z) ?_
  refine AI (EL rfl (rfl) (AG (AJ (AD Z Z (o_adopt 2 20 CS Z Z Z Z (AI (Af ?_)))))));exact ⟨_,[20],_,Ae rfl,rfl,rfl,by rw [←List.length_map (f:=AF),h0];rfl,by rw [h0]⟩
 ·first | refine J (EX Z Z Z) ?_ | refine J (EY Z Z Z) ?_ | refine J (EO Z Z Z) ?_ | refine J (ER Tryz.underlying33 Z Z Z) ?_ | refine J (EU Tryz.underlying33 Z Z Z) ?_ | refine J (ET Tryz.underlying33 Z Z) ?_ | refine J (ES Tryz.underlying33 Z Z Z) ?_ | refine J (EW Tryz.underlying33 Z Z) ?_
  refine AI (F4 rfl (rfl) (An (AG (AJ (G (Fg 20 CS Z Z Z Z Z Z Z Z) (AC Z Z ?_))))))
  first | refine G (IX (([]:List Int)) (l) Z Z Z Z Z Z Z Z CS (by simp only [List.length_nil];omega) Z Z Z Z) ?_ | refine G (Kp (([]:List Int)) (l) Z Z Z Z Z Z (fun _=>rfl) CS (by simp only [List.length_nil];omega) Z Z Z Z) ?_
  refine AD Z Z ?_;skip;refine AI (Af ?_);exact ⟨_,[20],_,Ae rfl,rfl,rfl,by simp,by simp⟩
def Ap (p:Prb) (id:Int):AU:=p.it.getD ((p.it.map AU.id).idxOf id) itm0
theorem Jk {p:Prb} {id:Int} (h:id∈p.it.map AU.id):∃hk:(p.it.map AU.id).idxOf id<p.it.length,Xa id (p.it.map AU.id)=(((p.it.map AU.id).idxOf id:Nat):Int)∧Ap p id=p.it[(p.it.map AU.id).idxOf id]∧(Ap p id).id=id:=by
 have hk:(p.it.map AU.id).idxOf id<(p.it.map AU.id).length:=List.idxOf_lt_length_iff.2 h;have hk':(p.it.map AU.id).idxOf id<p.it.length:=by simpa using hk
 have he:Ap p id=p.it[(p.it.map AU.id).idxOf id]:=Bh itm0 hk';refine ⟨hk',if_pos h,he,?_⟩;have h1:=List.getElem_idxOf hk;rw [List.getElem_map] at h1;rw [he];exact h1
theorem Q1 {α:Type} {l m:List α} (h:l.Perm m) (f:α ->Int):(l.map f).sum=(m.map f).sum:=by
 induction h with
 | nil=>rfl
 | cons x _ ih=>simp [ih]
 | swap x y l=>simp;omega
 | trans _ _ ih1 ih2=>rw [ih1,ih2]
end Go.Proofs.YtnkkaeblokdifaaGreat
