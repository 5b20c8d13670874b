/- Layer 28: Order, Queue, Item. -/
import Derived.Test.YtnkkaeblokdifaaGreatMg17
namespace Go.Proofs.YtnkkaeblokdifaaGreat
open Go.RowKit
set_option maxRecDepth 100000
theorem EK (p:Prb):(ordP p).length≤p.it.length:=by unfold ordP;split<;>simp [K3]
theorem HZ {p:Prb} {i:AT} (h:i∈ordP p):i∈p.it:=by
 unfold ordP at h;split at h
 ·exact (QD _).mem_iff.1 h
 ·cases h
theorem LS (p:Prb) (hb:D1 p):AU Tryz.prog 79 [.d (Cc p)] (.sl none (((ordP p).map AT.id).map AH)):=by
 have hso:=Kc p hb;have hlen:=EK p;have hb2:=hb.2.1
 obtain ⟨S,hS⟩:∃S,ordP p=S:=⟨_,rfl⟩
 rw [hS] at hso hlen⊢;refine B2 Tryz.func79 Z Z Tryz.ntmps79 Z Z Z fun F hF=>(AF (AJ (U (C5 1 Z Z Z Z Z Z Z) (AD Z Z ?_))));refine AG (AF (AJ (AD Z Z (AG (AF (AF (EA 3 900 C7 Z Z Z Z (AJ ?_))))))))
 first | refine J (Av Z Z A4 rfl) ?_ | refine J (Aw Z Z A4 Z Z Z) ?_ | refine J (Ax Z Z (rfl) rfl A4 rfl) ?_
 refine J (B1 (hso) Z Z) ?_
 first | refine J (Cz rfl Tryz.underlying29 rfl) ?_ | refine J (C9 Z Z Tryz.underlying29 rfl) ?_ | refine J (DB rfl Tryz.underlying29 rfl) ?_ | refine J (Cy rfl Tryz.underlying29 rfl) ?_ | refine J (Cr rfl Tryz.underlying29 rfl) ?_ | refine J (Cw rfl Tryz.underlying29 rfl) ?_
 refine AC Z Z (AG (Al (DG (α:=Nat×List Int) (fun q=>⟨20,[(3,(.own 900 0 q.2.length)),(7,(.d (.sl none (S.map BH)))),(8,(.d (AH (S.length:Int)))),(9,(.d (AH (q.1:Int))))],[(900,[.rowD 3 1 (q.2.map AH)])]⟩) (fun q=>q.1≤S.length∧q.2=(S.take q.1).map AT.id) (fun q=>S.length - q.1) ((0,[])) (⟨Nat.zero_le _,rfl⟩) (BA hF [900] Z Z ⟨rfl,rfl,rfl,rfl,trivial⟩) ?_)));rintro ⟨k,acc⟩ ⟨hk0,hA⟩;dsimp only at hk0 hA⊢;refine AF (AJ ?_)
 first | refine J (CD Z Z Z) ?_ | refine J (CE Z Z Z) ?_
 refine AG (AF ?_)
 first | refine Ay rfl (fun h10=>?_) (fun h10=>?_) | refine At rfl (fun h10=>?_) (fun h10=>?_)
 ·have hk1:k<S.length:=DA h10;refine Ak (AF (Al (AF (AJ ?_))));have hal:acc.length≤100000:=by rw [hA,List.length_map,List.length_take];omega
  first | refine J (CT (k) Z Z (rfl) (A0 hk1) Tryz.underlying29 rfl C6 rfl) ?_ | refine J (CU (k) Z Z (rfl) (A0 hk1) rfl Tryz.underlying29 C6 rfl) ?_
  first | refine J (Av Z Z Af rfl) ?_ | refine J (Aw Z Z Af Z Z Z) ?_ | refine J (Ax Z Z (rfl) rfl Af rfl) ?_
  refine U (DO 2 FG Z Z Z Z) (U (CF Z Z Z Z Z Z Z C6) (AG (AJ (AC Z Z ?_))))
  first | refine J (AM rfl Bm Z Z Z) ?_ | refine J (AO rfl Bm Z Z Z) ?_ | refine J (AP rfl Bm Z Z Z) ?_ | refine J (AN rfl Bm Z Z Z) ?_ | refine J (AL rfl Bm Z Z Z) ?_
  first | refine J (AY Z Z Ab rfl) ?_ | refine J (AW Z Z Z Ab rfl) ?_ | refine J (AX Z Z (rfl) rfl Ab rfl) ?_
  refine U (Fq 3 C7 Z Z Z Z Z Z Z Z) ?_
  first | refine U (If (acc) ([S[k].id]) Z Z Z Z Z Z Z Z C7 (by simp only [List.length_singleton];omega) Z Z Z Z) ?_ | refine U (LD (acc) ([S[k].id]) Z Z Z Z Z Z (fun _=>rfl) C7 (by simp only [List.length_singleton];omega) Z Z Z Z) ?_
  refine AD Z Z (AG (AJ (J (Bi Z Z (Ac (k+1) (by omega)) rfl) (AC Z Z (AG ?_)))));exact ⟨(k+1,_),⟨by show k+1≤_;omega,by show _=(S.take (k+1)).map AT.id;rw [Cp hk1,←hA]⟩,by show S.length - (k+1)<S.length - k;omega,BA hF [900] rfl (rfl) ⟨rfl,rfl,rfl,rfl,trivial⟩⟩
 ·refine CW (AF (WK (emb:=AH) 3 900 acc Z Z Z Z Z Z Z (AJ (AC Z Z (AD Z Z (AG (Ae ?_)))))));exact ⟨_,[],[],Aa rfl,rfl,rfl,by rw [hA,List.take_of_length_le (by have h:=h10;omega)],rfl⟩
theorem Ty (p:Prb) (r:A5) (hb:D1 p):AU Tryz.prog 115 [.d (Cc p),.d (EX r)] (.sl none ((qIds (ordP p) r).map AH)):=by
 have hso:=Kc p hb;have hlen:=EK p;have hb2:=hb.2.1;have hmem:∀i∈ordP p,i.po.length≤100000∧i.pa.length≤100000∧i.af.length≤100000:=fun i hi=>hb.2.2 i (HZ hi)
 obtain ⟨S,hS⟩:∃S,ordP p=S:=⟨_,rfl⟩
 rw [hS] at hso hlen hmem⊢;refine B2 Tryz.func115 Z Z Tryz.ntmps115 Z Z Z fun F hF=>(AF (AJ (U (C5 1 Z Z Z Z Z Z Z) (U (C5 2 Z Z Z Z Z Z Z) (AD Z Z ?_)))));refine AG (AF (AJ (AD Z Z (AG (AF (AF (EA 5 900 C7 Z Z Z Z (AJ ?_))))))))
 first | refine J (Av Z Z A4 rfl) ?_ | refine J (Aw Z Z A4 Z Z Z) ?_ | refine J (Ax Z Z (rfl) rfl A4 rfl) ?_
 refine J (B1 (hso) Z Z) ?_
 first | refine J (Cz rfl Tryz.underlying29 rfl) ?_ | refine J (C9 Z Z Tryz.underlying29 rfl) ?_ | refine J (DB rfl Tryz.underlying29 rfl) ?_ | refine J (Cy rfl Tryz.underlying29 rfl) ?_ | refine J (Cr rfl Tryz.underlying29 rfl) ?_ | refine J (Cw rfl Tryz.underlying29 rfl) ?_
 refine AC Z Z (AG (Al (DG (α:=Nat×List Int) (fun q=>⟨26,[(3,(.ptr 2 0 0)),(5,(.own 900 0 q.2.length)),(9,(.d (.sl none (S.map BH)))),(10,(.d (AH (S.length:Int)))),(11,(.d (AH (q.1:Int))))],[(2,[.blk 53 [.d (AH r.k),.d (Am r.acc.o),.d (AH r.acc.k),.d (Am r.acc.a),.d (Am r.f),.d (Am r.t)]]),(900,[.rowD 3 1 (q.2.map AH)])]⟩) (fun q=>q.1≤S.length∧q.2=qIds (S.take q.1) r) (fun q=>S.length - q.1) ((0,[])) (⟨Nat.zero_le _,rfl⟩) (BA hF [2,900] Z Z ⟨rfl,rfl,rfl,rfl,rfl,trivial⟩) ?_)));rintro ⟨k,acc⟩ ⟨hk0,hA⟩;dsimp only at hk0 hA⊢;refine AF (AJ ?_)
 first | refine J (CD Z Z Z) ?_ | refine J (CE Z Z Z) ?_
 refine AG (AF ?_)
 first | refine Ay rfl (fun h12=>?_) (fun h12=>?_) | refine At rfl (fun h12=>?_) (fun h12=>?_)
 ·have hk1:k<S.length:=DA h12;refine Ak (AF (Al (AF (AJ ?_))));have hgi:=hmem _ (List.getElem_mem hk1);have hal:acc.length≤100000:=by rw [hA];unfold qIds;rw [List.length_map];have:=List.length_filter_le (fun i=>decide (CJ i r<0)) (S.take k);rw [List.length_take] at this;omega
  first | refine J (CT (k) Z Z (rfl) (A0 hk1) Tryz.underlying29 rfl C6 rfl) ?_ | refine J (CU (k) Z Z (rfl) (A0 hk1) rfl Tryz.underlying29 C6 rfl) ?_
  first | refine J (Av Z Z Af rfl) ?_ | refine J (Aw Z Z Af Z Z Z) ?_ | refine J (Ax Z Z (rfl) rfl Af rfl) ?_
  refine U (DO 3 FG Z Z Z Z) (U (CF Z Z Z Z Z Z Z C6) (AG (AF (AJ ?_))))
  first | refine J (Av Z Z Af rfl) ?_ | refine J (Aw Z Z Af Z Z Z) ?_ | refine J (Ax Z Z (rfl) rfl Af rfl) ?_
  first | refine J (Av Z Z Ah rfl) ?_ | refine J (Aw Z Z Ah Z Z Z) ?_ | refine J (Ax Z Z (rfl) rfl Ah rfl) ?_
  refine J (B1 (KO S[k] r (by omega) (by omega) (by omega)) Z Z) ?_
  first | refine J (CD Z Z Z) ?_ | refine J (CE Z Z Z) ?_
  refine AG ?_
  first | refine Ay rfl (fun h18=>?_) (fun h18=>?_) | refine At rfl (fun h18=>?_) (fun h18=>?_)
  ·refine AJ (AC Z Z ?_)
   first | refine J (AM rfl Bm Z Z Z) ?_ | refine J (AO rfl Bm Z Z Z) ?_ | refine J (AP rfl Bm Z Z Z) ?_ | refine J (AN rfl Bm Z Z Z) ?_ | refine J (AL rfl Bm Z Z Z) ?_
   first | refine J (AY Z Z Ab rfl) ?_ | refine J (AW Z Z Z Ab rfl) ?_ | refine J (AX Z Z (rfl) rfl Ab rfl) ?_
   refine U (Fq 4 C7 Z Z Z Z Z Z Z Z) ?_
   first | refine U (If (acc) ([S[k].id]) Z Z Z Z Z Z Z Z C7 (by simp only [List.length_singleton];omega) Z Z Z Z) ?_ | refine U (LD (acc) ([S[k].id]) Z Z Z Z Z Z (fun _=>rfl) C7 (by simp only [List.length_singleton];omega) Z Z Z Z) ?_
   refine AD Z Z (AG (AJ (J (Bi Z Z (Ac (k+1) (by omega)) rfl) (AC Z Z (AG ?_)))));exact ⟨(k+1,_),⟨by show k+1≤_;omega,by show _=qIds (S.take (k+1)) r;unfold qIds;rw [My hk1,if_pos (by simpa using h18),List.map_append,hA];rfl⟩,by show S.length - (k+1)<S.length - k;omega,BA hF [2,900] rfl (rfl) ⟨rfl,rfl,rfl,rfl,rfl,trivial⟩⟩
  ·refine Ak (AJ (J (Bi Z Z (Ac (k+1) (by omega)) rfl) (AC Z Z (AG ?_))));exact ⟨(k+1,_),⟨by show k+1≤_;omega,by show _=qIds (S.take (k+1)) r;unfold qIds;rw [My hk1,if_neg (by simpa using h18),List.append_nil,hA];rfl⟩,by show S.length - (k+1)<S.length - k;omega,BA hF [2,900] rfl (rfl) ⟨rfl,rfl,rfl,rfl,rfl,trivial⟩⟩
 ·refine CW (AF (WK (emb:=AH) 5 900 acc Z Z Z Z Z Z Z (AJ (AC Z Z (AD Z Z (AG (Ae ?_)))))));exact ⟨_,[],[],Aa rfl,rfl,rfl,by rw [hA,List.take_of_length_le (by have h:=h12;omega)],rfl⟩
def Mu (l:List AT) (id:Int):AT×Bool:=match l.find? fun x=>decide (x.id=id) with
 | some x=>(x,true)
 | none=>(itm0,false)
theorem RZ {l:List AT} {id:Int} {k:Nat} (hk:k<l.length) (h0:id∉(l.take k).map AT.id) (h:l[k].id=id):Mu l id=(l[k],true):=by
 have:l.find? (fun x=>decide (x.id=id))=some l[k]:=by
  rw [List.find?_eq_some_iff_getElem];refine ⟨by simp [h],k,hk,rfl,fun j hj=>?_⟩;simp only [Bool.not_eq_true',decide_eq_false_iff_not];intro e;exact h0 (Mn hk hj e)
 unfold Mu;rw [this]
theorem YF {l:List AT} {id:Int} (h:id∉l.map AT.id):Mu l id=(itm0,false):=by
 have:l.find? (fun x=>decide (x.id=id))=none:=by
  rw [List.find?_eq_none];intro x hx e;exact h (List.mem_map.2 ⟨x,hx,by simpa using e⟩)
 unfold Mu;rw [this]
theorem Vh:∀w O v,A1 w O (.agg [AH 0,AH 0,AH 0,.sl (some true) [],.sl (some true) [],.sl (some true) []]) v ->A1 w O (BH itm0) v:=fun w O v h=>h.aggMono rfl (by simp [D.one]) fun i c c' hc hc' v hv=>by
 match i,hc,hc' with
 | 0,hc,hc'=>injection hc with hc;injection hc' with hc';subst hc hc';exact hv
 | 1,hc,hc'=>injection hc with hc;injection hc' with hc';subst hc hc';exact hv
 | 2,hc,hc'=>injection hc with hc;injection hc' with hc';subst hc hc';exact hv
 | 3,hc,hc'=>injection hc with hc;injection hc' with hc';subst hc hc';exact hv.anyNil
 | 4,hc,hc'=>injection hc with hc;injection hc' with hc';subst hc hc';exact hv.anyNil
 | 5,hc,hc'=>injection hc with hc;injection hc' with hc';subst hc hc';exact hv.anyNil
theorem item_p (p:Prb) (id:Int) (hb:D1 p):AU Tryz.prog 80 [.d (Cc p),.d (AH id)] (.tup [BH (Mu (ordP p) id).1,BJ (Mu (ordP p) id).2]):=by
 have hso:=Kc p hb;have hlen:=EK p;have hb2:=hb.2.1;have hmem:∀i∈ordP p,i.po.length≤100000∧i.pa.length≤100000∧i.af.length≤100000:=fun i hi=>hb.2.2 i (HZ hi)
 obtain ⟨S,hS⟩:∃S,ordP p=S:=⟨_,rfl⟩
 rw [hS] at hso hlen hmem⊢;refine B2 Tryz.func80 Z Z Tryz.ntmps80 Z Z Z fun F hF=>?_;refine AF (AJ (U (C5 1 Z Z Z Z Z Z Z) (U (DO 2 FG Z Z Z Z) (AD Z Z (AG (AF (AF (AJ ?_))))))))
 first | refine J (Av Z Z A4 rfl) ?_ | refine J (Aw Z Z A4 Z Z Z) ?_ | refine J (Ax Z Z (rfl) rfl A4 rfl) ?_
 refine J (B1 (hso) Z Z) ?_
 first | refine J (Cz rfl Tryz.underlying29 rfl) ?_ | refine J (C9 Z Z Tryz.underlying29 rfl) ?_ | refine J (DB rfl Tryz.underlying29 rfl) ?_ | refine J (Cy rfl Tryz.underlying29 rfl) ?_ | refine J (Cr rfl Tryz.underlying29 rfl) ?_ | refine J (Cw rfl Tryz.underlying29 rfl) ?_
 refine AC Z Z (AG (Al (DG (α:=Nat) (fun k=>⟨23,[(1,.d (AH id)),(4,(.ptr 2 0 0)),(9,(.d (.sl none (S.map BH)))),(10,(.d (AH (S.length:Int)))),(11,(.d (AH (k:Int))))],[(2,[.blk 49 [.d (AH 0),.d (AH 0),.d (AH 0),I1,I1,I1]])]⟩) (fun k=>k≤S.length∧id∉(S.take k).map AT.id) (fun k=>S.length - k) (0) (⟨Nat.zero_le _,by simp⟩) (BA hF [2] Z Z ⟨rfl,rfl,rfl,rfl,rfl,trivial⟩) ?_)));rintro k ⟨hk0,hk⟩;refine AF (AJ ?_)
 first | refine J (CD Z Z Z) ?_ | refine J (CE Z Z Z) ?_
 refine AG (AF ?_)
 first | refine Ay rfl (fun h12=>?_) (fun h12=>?_) | refine At rfl (fun h12=>?_) (fun h12=>?_)
 ·have hk1:k<S.length:=DA h12;refine Ak (AF (Al (AF (AJ ?_))));have hgi:=hmem _ (List.getElem_mem hk1)
  first | refine J (CT (k) Z Z (rfl) (A0 hk1) Tryz.underlying29 rfl C6 rfl) ?_ | refine J (CU (k) Z Z (rfl) (A0 hk1) rfl Tryz.underlying29 C6 rfl) ?_
  first | refine J (Av Z Z Af rfl) ?_ | refine J (Aw Z Z Af Z Z Z) ?_ | refine J (Ax Z Z (rfl) rfl Af rfl) ?_
  refine U (DO 3 FG Z Z Z Z) (U (CF Z Z Z Z Z Z Z C6) (AG (AF (AJ ?_))))
  first | refine J (AM rfl Bm Z Z Z) ?_ | refine J (AO rfl Bm Z Z Z) ?_ | refine J (AP rfl Bm Z Z Z) ?_ | refine J (AN rfl Bm Z Z Z) ?_ | refine J (AL rfl Bm Z Z Z) ?_
  first | refine J (AY Z Z Ab rfl) ?_ | refine J (AW Z Z Z Ab rfl) ?_ | refine J (AX Z Z (rfl) rfl Ab rfl) ?_
  refine AC Z Z ?_
  first | refine J (Ea Z Z Z) ?_ | refine J (E9 Z Z Z) ?_ | refine J (EV Z Z Z) ?_ | refine J (E4 Tryz.underlying3 Z Z Z) ?_ | refine J (E7 Tryz.underlying3 Z Z Z) ?_ | refine J (E6 Tryz.underlying3 Z Z) ?_ | refine J (E5 Tryz.underlying3 Z Z Z) ?_ | refine J (E8 Tryz.underlying3 Z Z) ?_
  refine AG ?_
  first | refine Ay rfl (fun h18=>?_) (fun h18=>?_) | refine At rfl (fun h18=>?_) (fun h18=>?_)
  ·refine AF (AJ ?_)
   first | refine J (Av Z Z Af rfl) ?_ | refine J (Aw Z Z Af Z Z Z) ?_ | refine J (Ax Z Z (rfl) rfl Af rfl) ?_
   refine J (B1 (clone_p S[k] (by omega) (by omega) (by omega)) Z Z) (U (CF Z Z Z Z Z Z Z C6) (AD Z Z (AG (Ae ?_))));exact ⟨_,[],[],Aa rfl,rfl,rfl,by rw [RZ hk1 hk h18],rfl⟩
  ·refine Ak (AJ (J (Bi Z Z (Ac (k+1) (by omega)) rfl) (AC Z Z (AG ?_))));exact ⟨k+1,⟨by show k+1≤_;omega,V2 hk1 hk h18⟩,by show S.length - (k+1)<S.length - k;omega,BA hF [2] rfl (rfl) ⟨rfl,rfl,rfl,rfl,rfl,trivial⟩⟩
 ·refine CW (AF (AJ (J (DH FG XP Z Z Z) (UO 22 (BH itm0) rfl Vh (U (CF Z Z Z Z Z Z Z C6) (AD Z Z (AG (Ae ?_))))))));exact ⟨_,[],[],Aa rfl,rfl,rfl,by rw [YF (by rw [List.take_of_length_le (by have h:=h12;omega)] at hk;exact hk)],rfl⟩
theorem Pd {l:List AT} (hn:(l.map AT.id).Nodup) {x y:AT} (hx:x∈l) (hy:y∈l) (h:x.id=y.id):x=y:=by
 induction l with
 | nil=>cases hx
 | cons a l ih=>
  rw [List.map_cons,List.nodup_cons] at hn;rcases List.mem_cons.1 hx with e1 | hx'<;>rcases List.mem_cons.1 hy with e2 | hy'
  ·rw [e1,e2]
  ·exact absurd (List.mem_map.2 ⟨y,hy',by rw [←h,e1]⟩) hn.1
  ·exact absurd (List.mem_map.2 ⟨x,hx',by rw [h,e2]⟩) hn.1
  ·exact ih hn.2 hx' hy'
theorem WP {l:List AT} (h:Fj l=0):(l.map AT.id).Nodup:=by
 have h0:=Uh.1 h;rw [List.Nodup,List.pairwise_map,List.pairwise_iff_getElem];intro i j hi hj hij e;have:=h0 j (List.mem_range.2 hj);unfold Nn at this;rw [Bd itm0 hj] at this
 split at this
 ·contradiction
 ·split at this
  ·cases this
  ·rename_i hn
   exact hn (.inl (Mn hj hij e))
theorem own_p (p:Prb) (h:Sml p):AU Tryz.prog 9 [.d (Cc p)] (Cc p):=by
 obtain ⟨g1,g2,g3⟩:=h;refine B2 Tryz.func9 Z Z Tryz.ntmps9 Z Z Z fun F hF=>(AF (AJ (U (C5 1 Z Z Z Z Z Z Z) (U (DO 2 SM Z Z Z Z) (AG (AF (AJ (U (DO 3 SM Z Z Z Z) ?_))))))));refine AG (AF (AF (Cv 3 0 0 901 Wj Z Z Z Z Z Z Z (AJ (AD Z Z (AG (Al (DG (α:=List Roo) (fun acc=>⟨51,[(1,(.ptr 1 0 0)),(2,(.ptr 2 0 0)),(3,(.ptr 3 0 0)),(4,(.d (AH (acc.length:Int))))],[(901,[.rowD 74 7 (acc.map Ff)]),(1,[HV 25 p]),(2,[.blk 31 [I1,I1]]),(3,[.blk 31 [.own 901 0 acc.length,I1]])]⟩) (fun acc=>acc=p.ro.take acc.length∧acc.length≤p.ro.length) (fun acc=>p.ro.length - acc.length) ([]) (⟨by simp,Nat.zero_le _⟩) (BA hF [901,1,2,3] Z Z ⟨rfl,rfl,rfl,rfl,trivial⟩) ?_))))))));rintro acc ⟨hI,hk0⟩;refine AF (AF (AJ (AC Z Z ?_)))
 first | refine J (AM rfl DN Z Z Z) ?_ | refine J (AO rfl DN Z Z Z) ?_ | refine J (AP rfl DN Z Z Z) ?_ | refine J (AN rfl DN Z Z Z) ?_ | refine J (AL rfl DN Z Z Z) ?_
 first | refine J (AY Z Z C8 rfl) ?_ | refine J (AW Z Z Z C8 rfl) ?_ | refine J (AX Z Z (rfl) rfl C8 rfl) ?_
 first | refine J (Cz rfl Tryz.underlying22 rfl) ?_ | refine J (C9 Z Z Tryz.underlying22 rfl) ?_ | refine J (DB rfl Tryz.underlying22 rfl) ?_ | refine J (Cy rfl Tryz.underlying22 rfl) ?_ | refine J (Cr rfl Tryz.underlying22 rfl) ?_ | refine J (Cw rfl Tryz.underlying22 rfl) ?_
 first | refine J (CD Z Z Z) ?_ | refine J (CE Z Z Z) ?_
 refine AG ?_
 first | refine Ay rfl (fun h10=>?_) (fun h10=>?_) | refine At rfl (fun h10=>?_) (fun h10=>?_)
 ·have hk1:acc.length<p.ro.length:=DA h10;refine Ak (AF (Al (Gp [[],[0],[],[2],[],[2,3,4],[2,3,4,5],[2,3,4,5,6],[2,3,4,5,6,7],[],[9],[],[9,10,11],[9,10,11,12],[9,10,11,12,13],[2,3,4,5,6,7,8,9,10,11,12,13,14],[2,3,4,5,6,7,8,9,10,11,12,13,14,15],[0,1,2,3,4,5,6,7,8,9,10,11,12,13,14,15,16],[0,1,2,3,4,5,6,7,8,9,10,11,12,13,14,15,16,17],[0,1,2,3,4,5,6,7,8,9,10,11,12,13,14,15,16,17,18]] BF rfl (Hh ?_))))
  first | refine AE [3] [] Z Z (fun _=>AB (AM rfl Hr Z Z Z)) ?_ | refine AI [3] Z Z (fun _=>AB (AM rfl Hr Z Z Z)) ?_ | refine AE [3] [] Z Z (fun _=>AB (AO rfl Hr Z Z Z)) ?_ | refine AI [3] Z Z (fun _=>AB (AO rfl Hr Z Z Z)) ?_ | refine AE [3] [] Z Z (fun _=>AB (AP rfl Hr Z Z Z)) ?_ | refine AI [3] Z Z (fun _=>AB (AP rfl Hr Z Z Z)) ?_ | refine AE [3] [] Z Z (fun _=>AB (AN rfl Hr Z Z Z)) ?_ | refine AI [3] Z Z (fun _=>AB (AN rfl Hr Z Z Z)) ?_ | refine AE [3] [] Z Z (fun _=>AB (AL rfl Hr Z Z Z)) ?_ | refine AI [3] Z Z (fun _=>AB (AL rfl Hr Z Z Z)) ?_
  first | refine AE [13] [] Z Z (fun _=>AB (AY Z Z HF rfl)) ?_ | refine AI [13] Z Z (fun _=>AB (AY Z Z HF rfl)) ?_ | refine AE [13] [] Z Z (fun _=>AB (AW Z Z Z HF rfl)) ?_ | refine AI [13] Z Z (fun _=>AB (AW Z Z Z HF rfl)) ?_ | refine AE [13] [] Z Z (fun _=>AB (AX Z Z (rfl) rfl HF rfl)) ?_ | refine AI [13] Z Z (fun _=>AB (AX Z Z (rfl) rfl HF rfl)) ?_
  first | refine AE [1] [] Z Z (fun _=>AB (AM rfl DN Z Z Z)) ?_ | refine AI [1] Z Z (fun _=>AB (AM rfl DN Z Z Z)) ?_ | refine AE [1] [] Z Z (fun _=>AB (AO rfl DN Z Z Z)) ?_ | refine AI [1] Z Z (fun _=>AB (AO rfl DN Z Z Z)) ?_ | refine AE [1] [] Z Z (fun _=>AB (AP rfl DN Z Z Z)) ?_ | refine AI [1] Z Z (fun _=>AB (AP rfl DN Z Z Z)) ?_ | refine AE [1] [] Z Z (fun _=>AB (AN rfl DN Z Z Z)) ?_ | refine AI [1] Z Z (fun _=>AB (AN rfl DN Z Z Z)) ?_ | refine AE [1] [] Z Z (fun _=>AB (AL rfl DN Z Z Z)) ?_ | refine AI [1] Z Z (fun _=>AB (AL rfl DN Z Z Z)) ?_
  first | refine AE [15] [] Z Z (fun _=>AB (AY Z Z C8 rfl)) ?_ | refine AI [15] Z Z (fun _=>AB (AY Z Z C8 rfl)) ?_ | refine AE [15] [] Z Z (fun _=>AB (AW Z Z Z C8 rfl)) ?_ | refine AI [15] Z Z (fun _=>AB (AW Z Z Z C8 rfl)) ?_ | refine AE [15] [] Z Z (fun _=>AB (AX Z Z (rfl) rfl C8 rfl)) ?_ | refine AI [15] Z Z (fun _=>AB (AX Z Z (rfl) rfl C8 rfl)) ?_
  first | refine AE [4] [] Z Z (fun _=>AB (Be Z Z)) ?_ | refine AI [4] Z Z (fun _=>AB (Be Z Z)) ?_
  first | refine AE [16,17] [] Z Z (fun _=>AB (CT (acc.length) Z Z (rfl) (A0 hk1) Tryz.underlying22 rfl IX rfl)) ?_ | refine AI [16,17] Z Z (fun _=>AB (CT (acc.length) Z Z (rfl) (A0 hk1) Tryz.underlying22 rfl IX rfl)) ?_ | refine AE [16,17] [] Z Z (fun _=>AB (CU (acc.length) Z Z (rfl) (A0 hk1) rfl Tryz.underlying22 IX rfl)) ?_ | refine AI [16,17] Z Z (fun _=>AB (CU (acc.length) Z Z (rfl) (A0 hk1) rfl Tryz.underlying22 IX rfl)) ?_
  first | refine AE [18] [] Z Z (fun _=>AB (AM rfl Fn Z Z Z)) ?_ | refine AI [18] Z Z (fun _=>AB (AM rfl Fn Z Z Z)) ?_ | refine AE [18] [] Z Z (fun _=>AB (AO rfl Fn Z Z Z)) ?_ | refine AI [18] Z Z (fun _=>AB (AO rfl Fn Z Z Z)) ?_ | refine AE [18] [] Z Z (fun _=>AB (AP rfl Fn Z Z Z)) ?_ | refine AI [18] Z Z (fun _=>AB (AP rfl Fn Z Z Z)) ?_ | refine AE [18] [] Z Z (fun _=>AB (AN rfl Fn Z Z Z)) ?_ | refine AI [18] Z Z (fun _=>AB (AN rfl Fn Z Z Z)) ?_ | refine AE [18] [] Z Z (fun _=>AB (AL rfl Fn Z Z Z)) ?_ | refine AI [18] Z Z (fun _=>AB (AL rfl Fn Z Z Z)) ?_
  first | refine AE [19] [] Z Z (fun _=>AB (Av Z Z VH rfl)) ?_ | refine AI [19] Z Z (fun _=>AB (Av Z Z VH rfl)) ?_ | refine AE [19] [] Z Z (fun _=>AB (Aw Z Z VH Z Z Z)) ?_ | refine AI [19] Z Z (fun _=>AB (Aw Z Z VH Z Z Z)) ?_ | refine AE [19] [] Z Z (fun _=>AB (Ax Z Z (rfl) rfl VH rfl)) ?_ | refine AI [19] Z Z (fun _=>AB (Ax Z Z (rfl) rfl VH rfl)) ?_
  first | refine AE [20] [] Z Z (fun _=>AB (B1 (Qo p.ro[acc.length].r) Z Z)) ?_ | refine AI [20] Z Z (fun _=>AB (B1 (Qo p.ro[acc.length].r) Z Z)) ?_
  first | refine AE [1] [] Z Z (fun _=>AB (AM rfl DN Z Z Z)) ?_ | refine AI [1] Z Z (fun _=>AB (AM rfl DN Z Z Z)) ?_ | refine AE [1] [] Z Z (fun _=>AB (AO rfl DN Z Z Z)) ?_ | refine AI [1] Z Z (fun _=>AB (AO rfl DN Z Z Z)) ?_ | refine AE [1] [] Z Z (fun _=>AB (AP rfl DN Z Z Z)) ?_ | refine AI [1] Z Z (fun _=>AB (AP rfl DN Z Z Z)) ?_ | refine AE [1] [] Z Z (fun _=>AB (AN rfl DN Z Z Z)) ?_ | refine AI [1] Z Z (fun _=>AB (AN rfl DN Z Z Z)) ?_ | refine AE [1] [] Z Z (fun _=>AB (AL rfl DN Z Z Z)) ?_ | refine AI [1] Z Z (fun _=>AB (AL rfl DN Z Z Z)) ?_
  first | refine AE [22] [] Z Z (fun _=>AB (AY Z Z C8 rfl)) ?_ | refine AI [22] Z Z (fun _=>AB (AY Z Z C8 rfl)) ?_ | refine AE [22] [] Z Z (fun _=>AB (AW Z Z Z C8 rfl)) ?_ | refine AI [22] Z Z (fun _=>AB (AW Z Z Z C8 rfl)) ?_ | refine AE [22] [] Z Z (fun _=>AB (AX Z Z (rfl) rfl C8 rfl)) ?_ | refine AI [22] Z Z (fun _=>AB (AX Z Z (rfl) rfl C8 rfl)) ?_
  first | refine AE [4] [] Z Z (fun _=>AB (Be Z Z)) ?_ | refine AI [4] Z Z (fun _=>AB (Be Z Z)) ?_
  first | refine AE [23,24] [] Z Z (fun _=>AB (CT (acc.length) Z Z (rfl) (A0 hk1) Tryz.underlying22 rfl IX rfl)) ?_ | refine AI [23,24] Z Z (fun _=>AB (CT (acc.length) Z Z (rfl) (A0 hk1) Tryz.underlying22 rfl IX rfl)) ?_ | refine AE [23,24] [] Z Z (fun _=>AB (CU (acc.length) Z Z (rfl) (A0 hk1) rfl Tryz.underlying22 IX rfl)) ?_ | refine AI [23,24] Z Z (fun _=>AB (CU (acc.length) Z Z (rfl) (A0 hk1) rfl Tryz.underlying22 IX rfl)) ?_
  first | refine AE [25] [] Z Z (fun _=>AB (AM rfl JR Z Z Z)) ?_ | refine AI [25] Z Z (fun _=>AB (AM rfl JR Z Z Z)) ?_ | refine AE [25] [] Z Z (fun _=>AB (AO rfl JR Z Z Z)) ?_ | refine AI [25] Z Z (fun _=>AB (AO rfl JR Z Z Z)) ?_ | refine AE [25] [] Z Z (fun _=>AB (AP rfl JR Z Z Z)) ?_ | refine AI [25] Z Z (fun _=>AB (AP rfl JR Z Z Z)) ?_ | refine AE [25] [] Z Z (fun _=>AB (AN rfl JR Z Z Z)) ?_ | refine AI [25] Z Z (fun _=>AB (AN rfl JR Z Z Z)) ?_ | refine AE [25] [] Z Z (fun _=>AB (AL rfl JR Z Z Z)) ?_ | refine AI [25] Z Z (fun _=>AB (AL rfl JR Z Z Z)) ?_
  first | refine AE [26] [] Z Z (fun _=>AB (AY Z Z BI rfl)) ?_ | refine AI [26] Z Z (fun _=>AB (AY Z Z BI rfl)) ?_ | refine AE [26] [] Z Z (fun _=>AB (AW Z Z Z BI rfl)) ?_ | refine AI [26] Z Z (fun _=>AB (AW Z Z Z BI rfl)) ?_ | refine AE [26] [] Z Z (fun _=>AB (AX Z Z (rfl) rfl BI rfl)) ?_ | refine AI [26] Z Z (fun _=>AB (AX Z Z (rfl) rfl BI rfl)) ?_
  first | refine AE [21,27] [] Z Z (fun _=>AB (DH PI VQ Z Z Z)) ?_ | refine AI [21,27] Z Z (fun _=>AB (DH PI VQ Z Z Z)) ?_
  refine Gn [28] [50] [(29,_)] Z Z (fun _=>Gq (Fq 50 Wj Z Z Z Z Z Z Z Z)) (.inr ⟨29,_,rfl,rfl,rfl,rfl,rfl⟩) Z Z Z Z Z (GR 17 Z Z Z (BC 18 Z Z ?_))
  first | refine U (If (acc) ([p.ro[acc.length]]) Z Z Z Z Z Z Z Z Wj (by simp only [List.length_singleton];omega) Z Z Z Z) ?_ | refine U (LD (acc) ([p.ro[acc.length]]) Z Z Z Z Z Z (fun _=>rfl) Wj (by simp only [List.length_singleton];omega) Z Z Z Z) ?_
  refine AG ⟨rfl,?_⟩;refine BC 19 Z Z ?_
  first | refine J (AM rfl Hr Z Z Z) ?_ | refine J (AO rfl Hr Z Z Z) ?_ | refine J (AP rfl Hr Z Z Z) ?_ | refine J (AN rfl Hr Z Z Z) ?_ | refine J (AL rfl Hr Z Z Z) ?_
  refine AG ⟨rfl,?_⟩;refine BC 20 Z Z (U (CF Z Z Z Z Z Z Z sz28) (AG ⟨rfl,?_⟩));refine GQ (AJ (AC Z Z (J (Bi Z Z (T9 acc p.ro[acc.length] (by omega)) rfl) (AD Z Z (AG ?_)))));exact ⟨acc++ [p.ro[acc.length]],⟨Lr hI hk1,by rw [List.length_append];show acc.length+1≤_;omega⟩,by rw [List.length_append];show p.ro.length - (acc.length+1)<p.ro.length - acc.length;omega,BA hF [901,1,2,3] rfl (rfl) ⟨rfl,rfl,rfl,rfl,trivial⟩⟩
 ·refine CW (AF (AF ?_));have hacc:=PL hI (fun h=>h10 (by omega));refine Yu (ys:=p.ro.map Ff) 3 0 0 901 Z Z Z (by simp) (by rw [hacc];exact List.take_of_length_le (by simp)) Z Z Z Z Z Z (Cv 3 0 1 902 Lg Z Z Z Z Z Z Z (AJ (AD Z Z (AG (Al (DG (α:=List AT) (fun acc2=>⟨51,[(1,(.ptr 1 0 0)),(2,(.ptr 2 0 0)),(3,(.ptr 3 0 0)),(5,(.d (AH (acc2.length:Int))))],[(902,[.rowD 49 6 (acc2.map BH)]),(1,[HV 25 p]),(2,[.blk 31 [I1,I1]]),(3,[.blk 31 [.d (.sl none (p.ro.map Ff)),.own 902 0 acc2.length]])]⟩) (fun acc2=>acc2=p.it.take acc2.length∧acc2.length≤p.it.length) (fun acc2=>p.it.length - acc2.length) ([]) (⟨by simp,Nat.zero_le _⟩) (BA hF [902,1,2,3] Z Z ⟨rfl,rfl,rfl,rfl,trivial⟩) ?_))))));rintro acc2 ⟨hJ,hk2⟩;refine AF (AF (AJ (AC Z Z ?_)))
  first | refine J (AM rfl G0 Z Z Z) ?_ | refine J (AO rfl G0 Z Z Z) ?_ | refine J (AP rfl G0 Z Z Z) ?_ | refine J (AN rfl G0 Z Z Z) ?_ | refine J (AL rfl G0 Z Z Z) ?_
  first | refine J (AY Z Z EZ rfl) ?_ | refine J (AW Z Z Z EZ rfl) ?_ | refine J (AX Z Z (rfl) rfl EZ rfl) ?_
  first | refine J (Cz rfl Tryz.underlying23 rfl) ?_ | refine J (C9 Z Z Tryz.underlying23 rfl) ?_ | refine J (DB rfl Tryz.underlying23 rfl) ?_ | refine J (Cy rfl Tryz.underlying23 rfl) ?_ | refine J (Cr rfl Tryz.underlying23 rfl) ?_ | refine J (Cw rfl Tryz.underlying23 rfl) ?_
  first | refine J (CD Z Z Z) ?_ | refine J (CE Z Z Z) ?_
  refine AG ?_
  first | refine Ay rfl (fun h36=>?_) (fun h36=>?_) | refine At rfl (fun h36=>?_) (fun h36=>?_)
  ·have hk3:acc2.length<p.it.length:=DA h36;refine Ak (AF (Al (Gp [[],[0],[],[2],[],[2,3,4],[2,3,4,5],[2,3,4,5,6],[2,3,4,5,6,7],[0,1,2,3,4,5,6,7,8],[0,1,2,3,4,5,6,7,8,9],[0,1,2,3,4,5,6,7,8,9,10]] BF rfl (Hh ?_))))
   first | refine AE [3] [] Z Z (fun _=>AB (AM rfl CP Z Z Z)) ?_ | refine AI [3] Z Z (fun _=>AB (AM rfl CP Z Z Z)) ?_ | refine AE [3] [] Z Z (fun _=>AB (AO rfl CP Z Z Z)) ?_ | refine AI [3] Z Z (fun _=>AB (AO rfl CP Z Z Z)) ?_ | refine AE [3] [] Z Z (fun _=>AB (AP rfl CP Z Z Z)) ?_ | refine AI [3] Z Z (fun _=>AB (AP rfl CP Z Z Z)) ?_ | refine AE [3] [] Z Z (fun _=>AB (AN rfl CP Z Z Z)) ?_ | refine AI [3] Z Z (fun _=>AB (AN rfl CP Z Z Z)) ?_ | refine AE [3] [] Z Z (fun _=>AB (AL rfl CP Z Z Z)) ?_ | refine AI [3] Z Z (fun _=>AB (AL rfl CP Z Z Z)) ?_
   first | refine AE [39] [] Z Z (fun _=>AB (AY Z Z Bh rfl)) ?_ | refine AI [39] Z Z (fun _=>AB (AY Z Z Bh rfl)) ?_ | refine AE [39] [] Z Z (fun _=>AB (AW Z Z Z Bh rfl)) ?_ | refine AI [39] Z Z (fun _=>AB (AW Z Z Z Bh rfl)) ?_ | refine AE [39] [] Z Z (fun _=>AB (AX Z Z (rfl) rfl Bh rfl)) ?_ | refine AI [39] Z Z (fun _=>AB (AX Z Z (rfl) rfl Bh rfl)) ?_
   first | refine AE [1] [] Z Z (fun _=>AB (AM rfl G0 Z Z Z)) ?_ | refine AI [1] Z Z (fun _=>AB (AM rfl G0 Z Z Z)) ?_ | refine AE [1] [] Z Z (fun _=>AB (AO rfl G0 Z Z Z)) ?_ | refine AI [1] Z Z (fun _=>AB (AO rfl G0 Z Z Z)) ?_ | refine AE [1] [] Z Z (fun _=>AB (AP rfl G0 Z Z Z)) ?_ | refine AI [1] Z Z (fun _=>AB (AP rfl G0 Z Z Z)) ?_ | refine AE [1] [] Z Z (fun _=>AB (AN rfl G0 Z Z Z)) ?_ | refine AI [1] Z Z (fun _=>AB (AN rfl G0 Z Z Z)) ?_ | refine AE [1] [] Z Z (fun _=>AB (AL rfl G0 Z Z Z)) ?_ | refine AI [1] Z Z (fun _=>AB (AL rfl G0 Z Z Z)) ?_
   first | refine AE [41] [] Z Z (fun _=>AB (AY Z Z EZ rfl)) ?_ | refine AI [41] Z Z (fun _=>AB (AY Z Z EZ rfl)) ?_ | refine AE [41] [] Z Z (fun _=>AB (AW Z Z Z EZ rfl)) ?_ | refine AI [41] Z Z (fun _=>AB (AW Z Z Z EZ rfl)) ?_ | refine AE [41] [] Z Z (fun _=>AB (AX Z Z (rfl) rfl EZ rfl)) ?_ | refine AI [41] Z Z (fun _=>AB (AX Z Z (rfl) rfl EZ rfl)) ?_
   first | refine AE [5] [] Z Z (fun _=>AB (Be Z Z)) ?_ | refine AI [5] Z Z (fun _=>AB (Be Z Z)) ?_
   have hgi:=g3 _ (List.getElem_mem hk3)
   first | refine AE [42,43] [] Z Z (fun _=>AB (CT (acc2.length) Z Z (rfl) (A0 hk3) Tryz.underlying23 rfl Nb rfl)) ?_ | refine AI [42,43] Z Z (fun _=>AB (CT (acc2.length) Z Z (rfl) (A0 hk3) Tryz.underlying23 rfl Nb rfl)) ?_ | refine AE [42,43] [] Z Z (fun _=>AB (CU (acc2.length) Z Z (rfl) (A0 hk3) rfl Tryz.underlying23 Nb rfl)) ?_ | refine AI [42,43] Z Z (fun _=>AB (CU (acc2.length) Z Z (rfl) (A0 hk3) rfl Tryz.underlying23 Nb rfl)) ?_
   first | refine AE [44] [] Z Z (fun _=>AB (Av Z Z VG rfl)) ?_ | refine AI [44] Z Z (fun _=>AB (Av Z Z VG rfl)) ?_ | refine AE [44] [] Z Z (fun _=>AB (Aw Z Z VG Z Z Z)) ?_ | refine AI [44] Z Z (fun _=>AB (Aw Z Z VG Z Z Z)) ?_ | refine AE [44] [] Z Z (fun _=>AB (Ax Z Z (rfl) rfl VG rfl)) ?_ | refine AI [44] Z Z (fun _=>AB (Ax Z Z (rfl) rfl VG rfl)) ?_
   first | refine AE [45] [] Z Z (fun _=>AB (B1 (OW p.it[acc2.length] (by omega) (by omega) (by omega)) Z Z)) ?_ | refine AI [45] Z Z (fun _=>AB (B1 (OW p.it[acc2.length] (by omega) (by omega) (by omega)) Z Z)) ?_
   refine Gn [46] [51] [(47,_)] Z Z (fun _=>Gq (Fq 51 Lg Z Z Z Z Z Z Z Z)) (.inr ⟨47,_,rfl,rfl,rfl,rfl,rfl⟩) Z Z Z Z Z (GR 9 Z Z Z (BC 10 Z Z ?_))
   first | refine U (If (acc2) ([p.it[acc2.length]]) Z Z Z Z Z Z Z Z Lg (by simp only [List.length_singleton];omega) Z Z Z Z) ?_ | refine U (LD (acc2) ([p.it[acc2.length]]) Z Z Z Z Z Z (fun _=>rfl) Lg (by simp only [List.length_singleton];omega) Z Z Z Z) ?_
   refine AG ⟨rfl,?_⟩;refine BC 11 Z Z ?_
   first | refine J (AM rfl CP Z Z Z) ?_ | refine J (AO rfl CP Z Z Z) ?_ | refine J (AP rfl CP Z Z Z) ?_ | refine J (AN rfl CP Z Z Z) ?_ | refine J (AL rfl CP Z Z Z) ?_
   refine AG ⟨rfl,?_⟩;refine BC 12 Z Z (U (CF Z Z Z Z Z Z Z sz29) (AG ⟨rfl,?_⟩));refine GQ (AJ (AC Z Z (J (Bi Z Z (T9 acc2 p.it[acc2.length] (by omega)) rfl) (AD Z Z (AG ?_)))));exact ⟨acc2++ [p.it[acc2.length]],⟨Lr hJ hk3,by rw [List.length_append];show acc2.length+1≤_;omega⟩,by rw [List.length_append];show p.it.length - (acc2.length+1)<p.it.length - acc2.length;omega,BA hF [902,1,2,3] rfl (rfl) ⟨rfl,rfl,rfl,rfl,trivial⟩⟩
  ·refine CW (AF ?_);have hacc2:=PL hJ (fun h=>h36 (by omega));refine Yu (ys:=p.it.map BH) 3 0 1 902 Z Z Z (by simp) (by rw [hacc2];exact List.take_of_length_le (by simp)) Z Z Z Z Z Z (AJ ?_)
   first | refine J (Av Z Z A4 rfl) ?_ | refine J (Aw Z Z A4 Z Z Z) ?_ | refine J (Ax Z Z (rfl) rfl A4 rfl) ?_
   refine U (CF Z Z Z Z Z Z Z sz31) (AG (Ae ?_));exact ⟨_,[],[],Aa rfl,rfl,rfl,rfl,rfl⟩
def NQ (ids l:List Int) (k:Nat):Int:=if l.getD k 0∉ids then 9 else if l.getD k 0∈l.take k then 7 else 0
def Wo (ids l:List Int):Int:=Bl ((List.range l.length).map (NQ ids l))
def E3 (p:Prb) (l:List Int):Int:=if Ao p≠0 then Ao p else Wo (p.it.map AT.id) l
theorem Wm {ids l:List Int} (h:Wo ids l=0):l.Nodup∧∀x∈l,x∈ids:=by
 have h0:=Uh.1 h;refine ⟨List.pairwise_iff_getElem.2 fun i j hi hj hij e=>?_,fun x hx=>?_⟩
 ·have:=h0 j (List.mem_range.2 hj);unfold NQ at this;rw [Bd 0 hj] at this
  split at this
  ·cases this
  ·split at this
   ·cases this
   ·rename_i hn;exact hn (by rw [←e,List.mem_take_iff_getElem];exact ⟨i,by omega,rfl⟩)
 ·obtain ⟨j,hj,rfl⟩:=List.getElem_of_mem hx;have:=h0 j (List.mem_range.2 hj);unfold NQ at this;rw [Bd 0 hj] at this
  split at this
  ·cases this
  ·rename_i hn;exact Decidable.not_not.1 hn
theorem Re (x:A5×Int) (l:List (A5×Int)) (r:A5):BZ (x::l) r=(if x.1=r then x.2 else 0)+BZ l r:=by simp [BZ]
theorem L5 {l:List (A5×Int)} {r:A5} (h:r∉l.map Prod.fst):BZ l r=0:=by
 induction l with
 | nil=>rfl
 | cons x l ih=>
  rw [List.map_cons,List.mem_cons] at h;rw [Re,if_neg (fun e=>h (.inl e.symm)),ih (fun h'=>h (.inr h'))];rfl
theorem lft_len {α β:Type} {m:List (α×β)} {B seen:List Nat}:(EP m B seen).length≤m.length:=by
 unfold EP;rw [List.length_map];refine Nat.le_trans (List.length_filter_le _ _) ?_;rw [List.length_zip];omega
def Ij (l:List AT) (r:A5):Int:=(l.map fun i=>BZ (ctr i) r).sum
def KE (l:List Int) (i:AT):Bool:=decide (i.id∈l)
theorem F4 {l:List AT} (h:Fj l=0):∀i∈l,BV i=0:=fun i hi=>by
 have h0:=Uh.1 h;obtain ⟨j,hj,rfl⟩:=List.getElem_of_mem hi;have:=h0 j (List.mem_range.2 hj);unfold Nn at this;rw [Bd itm0 hj] at this
 split at this
 ·contradiction
 ·rename_i hn;simpa using hn
theorem Pr {i:AT} (h:BV i=0) (r:A5): -Mx≤BZ (ctr i) r∧BZ (ctr i) r≤Mx:=by
 have hb:=(Hl h).2.2.2.2.2.2.2.2;unfold Ps at hb
 split at hb
 ·cases hb
 ·rename_i hn
  by_cases hr:r∈(sumL (ctr i)).map Prod.fst
  ·obtain ⟨⟨r',v⟩,hx,e⟩:=List.mem_map.1 hr;have e:r'=r:=e;subst e;have hv:=((HO _ _ _).1 hx).2;rw [←hv];exact Decidable.not_not.1 fun hh=>hn ⟨_,hx,hh⟩
  ·rw [L5 fun h'=>hr ((K2 _ r).2 h')];simp only [Mx];omega
theorem bnd_E {i:AT} (h:BV i=0):QL (sumL (ctr i)):=fun x hx=>by
 have hv:=((HO (ctr i) x.1 x.2).1 hx).2;rw [hv];simpa [Mx] using Pr h x.1
def Na (p:Prb) (l:List Int):List Roo:=p.ro.map fun x=>⟨x.r,x.n+Ij (p.it.filter (KE l)) x.r⟩
theorem OL {l:List Roo} (h:D9 l=0):∀x∈l,-4000000000000000≤x.n∧x.n≤4000000000000000:=fun x hx=>by
 have h0:=Uh.1 h;obtain ⟨j,hj,rfl⟩:=List.getElem_of_mem hx;have:=h0 j (List.mem_range.2 hj);unfold MY at this;rw [Bd DD hj] at this
 split at this
 ·contradiction
 ·split at this
  ·cases this
  ·rename_i hn;simp only [Mx] at hn;omega
def inS (S:List Int) (x:Int):Bool:=decide (x∈S)
def Nk (S l:List Int):List Int:=l.filter fun x=>!inS S x
theorem YC {S l:List Int} (h:∀x∈l,inS S x=false):Nk S l=l:=List.filter_eq_self.2 fun x hx=>by rw [h x hx];rfl
theorem Y7 (l:List Int) (hl:l.length≤1000000):A2 Tryz.prog 94 [.d (.sl none (l.map AH))] [] fun r H'=>r= .own 20 0 l.length∧H'=[(20,[.rowD 3 1 (l.map AH)])]:=by
 refine B2 Tryz.func94 Z Z Tryz.ntmps94 Z Z Z fun F hF=>(AF (AJ (AD Z Z ?_)));skip;refine AG (AF (AF (AJ (AC Z Z (Gc 3 rfl (fun h0=>?_) ?_)))))
 ·first | refine J (Ea Z Z Z) ?_ | refine J (E9 Z Z Z) ?_ | refine J (EV Z Z Z) ?_ | refine J (E4 Tryz.underlying33 Z Z Z) ?_ | refine J (E7 Tryz.underlying33 Z Z Z) ?_ | refine J (E6 Tryz.underlying33 Z Z) ?_ | refine J (E5 Tryz.underlying33 Z Z Z) ?_ | refine J (E8 Tryz.underlying33 Z Z) ?_
  refine AG (EB rfl (rfl) (AF (AJ (AD Z Z (o_adopt 2 20 C7 Z Z Z Z (AG (Ae ?_)))))));exact ⟨_,[20],_,Aa rfl,rfl,rfl,by rw [←List.length_map (f:=AH),h0];rfl,by rw [h0]⟩
 ·first | refine J (Ea Z Z Z) ?_ | refine J (E9 Z Z Z) ?_ | refine J (EV Z Z Z) ?_ | refine J (E4 Tryz.underlying33 Z Z Z) ?_ | refine J (E7 Tryz.underlying33 Z Z Z) ?_ | refine J (E6 Tryz.underlying33 Z Z) ?_ | refine J (E5 Tryz.underlying33 Z Z Z) ?_ | refine J (E8 Tryz.underlying33 Z Z) ?_
  refine AG (Fs rfl (rfl) (Ak (AF (AJ (U (Fq 20 C7 Z Z Z Z Z Z Z Z) (AC Z Z ?_))))))
  first | refine U (If (([]:List Int)) (l) Z Z Z Z Z Z Z Z C7 (by simp only [List.length_nil];omega) Z Z Z Z) ?_ | refine U (LD (([]:List Int)) (l) Z Z Z Z Z Z (fun _=>rfl) C7 (by simp only [List.length_nil];omega) Z Z Z Z) ?_
  refine AD Z Z ?_;skip;refine AG (Ae ?_);exact ⟨_,[20],_,Aa rfl,rfl,rfl,by simp,by simp⟩
def FU (l:List Int) (i:AT):AT:=⟨i.id,i.pr,i.sq,i.po,i.pa,Nk l i.af⟩
def Cs (l:List Int) (its:List AT):List AT:=(its.filter fun i=>!KE l i).map (FU l)
def itmOf (p:Prb) (id:Int):AT:=p.it.getD ((p.it.map AT.id).idxOf id) itm0
theorem GD {p:Prb} {id:Int} (h:id∈p.it.map AT.id):∃hk:(p.it.map AT.id).idxOf id<p.it.length,ixI id (p.it.map AT.id)=(((p.it.map AT.id).idxOf id:Nat):Int)∧itmOf p id=p.it[(p.it.map AT.id).idxOf id]∧(itmOf p id).id=id:=by
 have hk:(p.it.map AT.id).idxOf id<(p.it.map AT.id).length:=List.idxOf_lt_length_iff.2 h;have hk':(p.it.map AT.id).idxOf id<p.it.length:=by simpa using hk
 have he:itmOf p id=p.it[(p.it.map AT.id).idxOf id]:=Bd itm0 hk';refine ⟨hk',if_pos h,he,?_⟩;have h1:=List.getElem_idxOf hk;rw [List.getElem_map] at h1;rw [he];exact h1
theorem LN {l:List Roo} (h:D9 l=0):∀x∈l,B4 x.r=0:=fun x hx=>by
 have h0:=Uh.1 h;obtain ⟨j,hj,rfl⟩:=List.getElem_of_mem hx;have:=h0 j (List.mem_range.2 hj);unfold MY at this;rw [Bd DD hj] at this
 split at this
 ·contradiction
 ·rename_i hn;simpa using hn
theorem XR {α:Type} {l m:List α} (h:l.Perm m) (f:α ->Int):(l.map f).sum=(m.map f).sum:=by
 induction h with
 | nil=>rfl
 | cons x _ ih=>simp [ih]
 | swap x y l=>simp;omega
 | trans _ _ ih1 ih2=>rw [ih1,ih2]
end Go.Proofs.YtnkkaeblokdifaaGreat
