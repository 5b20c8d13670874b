/- Layer 27: the laws' play. -/
import Derived.Test.YtlmedakidpaeeaaMg22
namespace Go.Proofs.Ytlmedakidpaeeaa
open Go.RowKit
theorem MW {w:Ws} (hw:B7 w):(groupsW w).length≤1000000∧∀g∈groupsW w,g.m.length≤1000000∧g.a.length≤1000000:=by
 have hfew:=hw.few;have hpn:(parts w).length≤4096:=by unfold parts;rw [List.length_map];exact Nat.le_trans (List.length_filter_le _ _) hfew
 cases ho:ordW w with
 | none=>rw [(Kx ho).1];exact ⟨by simp,fun g hg=>by simp at hg⟩
 | some ord=>
  rw [(IJ ho).1];obtain ⟨hgo,hl⟩:=Jx ho;refine ⟨by rw [FW];omega,fun g hg=>?_⟩;obtain ⟨p,hp,rfl⟩:=List.mem_map.1 hg;have hp:=List.mem_range.1 hp
  constructor
  ·show ((parts w).getD (ord.getD p 0) []).length≤_
   by_cases hi:ord.getD p 0<(parts w).length
   ·have h1:=(EI (Id hw (List.mem_of_getElem? (Fl hi)))).length_le_of_subset (l₂:=w.R) fun y hy=>((Ko hw hi).1 hy).1;omega
   ·rw [List.getD_eq_getElem?_getD,List.getElem?_eq_none (by omega)];exact Nat.zero_le _
  ·show (ES (depL w) ord (ord.getD p 0) p).length≤_;have:=Mf w ord (ord.getD p 0) p;unfold aftT at this;unfold ES;omega
noncomputable def opsW (l:List JO):Ws:=l.foldl (fun w o=>(opW w o).1) ⟨[],[]⟩
theorem Oa (l:List JO) (o:JO):opsW (l++ [o])=(opW (opsW l) o).1:=by unfold opsW;rw [List.foldl_append];rfl
theorem HL {l:List JO} {k:Nat} (hk:k<l.length):opsW (l.take (k+1))=(opW (opsW (l.take k)) l[k]).1:=by rw [List.take_succ_eq_append_getElem hk,Oa]
theorem Lq (l:List JO):∀k,k≤l.length ->Cu (opsW (l.take k)) k:=by
 intro k
 induction k with
 | zero=>intro _;exact Cu.nil
 | succ k ih=>intro hk;rw [HL (by omega)];exact (ih (by omega)).op _
theorem Ot {l:List JO} {k:Nat} (h:k<l.length):(l.map opD)[k]?=some (opD l[k]):=by
 rw [List.getElem?_map,List.getElem?_eq_getElem h];rfl
set_option maxRecDepth 100000 in
set_option maxHeartbeats 4000000 in
theorem play_c (l:List JO) (hl:l.length≤1000):AR Try.prog 18 [.d (Pk l)] [] fun r H'=>∃b M,r= .d (.tup [pD b 0,LM (opsW l)])∧H'=[(40,[.multi M])]∧BU M b (opsW l):=by
 refine DA Try.func18 Z Z Try.ntmps18 Z Z Z fun F hF=>(AF (AI (AD Z Z (U (Hm 20 EA Z Z Z Z) (AG (AF (AI ?_)))))));refine HZ (IS QI rfl [40] ⟨rfl,trivial⟩ Z Z Z Z (fun r H' ⟨b,M,e1,e2,_⟩=>by subst e1 e2;exact ⟨rfl,rfl,rfl⟩) rfl) rfl ?_;rintro _ ⟨r,H',⟨b,M0,e1,e2,h0⟩,rfl⟩;subst e1 e2;refine J (Mj EA Lo Z Z Z) (U (Hm 25 EA Z Z Z Z) (AD Z Z (U (Bq Z Z Z Z Z Z Z Bf) (AG ?_))));refine AF (AF (OB 25 0 0 (stsD []) Z Z (fun _ _ _ h=>h.anyNil) Z Z (OB 25 0 1 (QM []) Z Z (fun _ _ _ h=>h.anyNil) Z Z (AI (AD Z Z (AG (Bc (F4 (α:=Nat×MF) (fun q=>⟨32,[(0,.d (Pk l)),(3,(.ptr 20 0 0)),(4,(.d (pD b 0))),(5,(.ptr 25 0 0)),(6,(.d (natD q.1)))],[(20,[.blk 35 [.d (.sl (some true) []),.d (.sl (some true) [])]]),(25,[.blk 35 [.d (stsD (opsW (l.take q.1)).R),.d (QM (opsW (l.take q.1)).K)]]),(40,[.multi q.2])]⟩) (fun q=>q.1≤l.length∧BU q.2 b (opsW (l.take q.1))) (fun q=>l.length - q.1) ((0,M0)) (⟨Nat.zero_le _,h0⟩) (BK hF [20,25,40] Z Z ⟨rfl,rfl,rfl,rfl,rfl,trivial⟩) ?_))))))));rintro ⟨k,M⟩ ⟨hk,hR⟩;dsimp only at hk hR⊢;refine AF (AF (AI (AC Z Z (AC Z Z (J (CJ rfl (List.length_map ..) Try.underlying30 rfl) ?_)))))
 first | refine J (Es Z Z Z) ?_ | refine J (Ex Z Z Z) ?_
 refine AG ?_
 first | refine BC rfl (fun h12=>?_) (fun h12=>?_) | refine Az rfl (fun h12=>?_) (fun h12=>?_)
 ·refine Ak (AF (Bc (AF ?_)));have hkl:k<l.length:=Hl h12;have hInv:=Lq l k hk;have hnK:=hInv.nK;refine AI (AC Z Z (AC Z Z (AC Z Z ?_)))
  first | refine J (BN (k) Z Z (rfl) (Ot hkl) Try.underlying30 rfl LY rfl) ?_ | refine J (BO (k) Z Z (rfl) (Ot hkl) rfl Try.underlying30 LY rfl) ?_
  first | refine J (BS Z Z Kh rfl) ?_ | refine J (BQ Z Z Kh Z Z Z) ?_ | refine J (BR Z Z (rfl) rfl Kh rfl) ?_
  refine HZ (IS (do_c hR hInv.ok (by omega) l[k]) rfl [40] ⟨rfl,trivial⟩ Z Z Z Z (fun r H' ⟨M,e1,e2,_⟩=>by subst e1 e2;exact ⟨rfl,rfl,rfl⟩) rfl) rfl ?_;rintro _ ⟨r,H',⟨M1,e1,e2,h1⟩,rfl⟩;subst e1 e2;refine AG (FH [[],[],[],[1,2],[1,2,3],[0,1,2,3,4],[0,1,2,3,4,5],[0,1,2,3,4,5,6],[0,1,2,3,4,5,6],[0,1,2,3,4,5,6,7]] mixed rfl (Dk ?_))
  first | refine AE [5] [25] Z Z (fun _=>AB (BS Z Z AL rfl)) ?_ | refine AE [5] [25] Z Z (fun _=>AB (BQ Z Z AL Z Z Z)) ?_ | refine AE [5] [25] Z Z (fun _=>AB (BR Z Z (rfl) rfl AL rfl)) ?_
  first | refine AE [0] [] Z Z (fun _=>AB (Ac Z Z)) ?_ | refine AH [0] Z Z (fun _=>AB (Ac Z Z)) ?_
  first | refine AE [6] [] Z Z (fun _=>AB (Ac Z Z)) ?_ | refine AH [6] Z Z (fun _=>AB (Ac Z Z)) ?_
  first | refine AE [23,24] [] Z Z (fun _=>AB (BN (k) Z Z (rfl) (Ot hkl) Try.underlying30 rfl LY rfl)) ?_ | refine AH [23,24] Z Z (fun _=>AB (BN (k) Z Z (rfl) (Ot hkl) Try.underlying30 rfl LY rfl)) ?_ | refine AE [23,24] [] Z Z (fun _=>AB (BO (k) Z Z (rfl) (Ot hkl) rfl Try.underlying30 LY rfl)) ?_ | refine AH [23,24] Z Z (fun _=>AB (BO (k) Z Z (rfl) (Ot hkl) rfl Try.underlying30 LY rfl)) ?_
  first | refine AE [25] [] Z Z (fun _=>AB (BS Z Z Kh rfl)) ?_ | refine AH [25] Z Z (fun _=>AB (BS Z Z Kh rfl)) ?_ | refine AE [25] [] Z Z (fun _=>AB (BQ Z Z Kh Z Z Z)) ?_ | refine AH [25] Z Z (fun _=>AB (BQ Z Z Kh Z Z Z)) ?_ | refine AE [25] [] Z Z (fun _=>AB (BR Z Z (rfl) rfl Kh rfl)) ?_ | refine AH [25] Z Z (fun _=>AB (BR Z Z (rfl) rfl Kh rfl)) ?_
  refine Dl 5 Z Z Z (B9 6 Z Z (J (DZ (model_p (opsW (l.take k)) hInv.ok (by omega) l[k]) Z Z) (AG ⟨rfl,?_⟩)));refine B9 7 Z Z (AC Z Z (AG ⟨rfl,?_⟩));refine Dk ?_
  first | refine AE [21] [] Z Z (fun _=>AB (B5 Z Z Z)) ?_ | refine AH [21] Z Z (fun _=>AB (B5 Z Z Z)) ?_ | refine AE [21] [] Z Z (fun _=>AB (B6 Z Z Z)) ?_ | refine AH [21] Z Z (fun _=>AB (B6 Z Z Z)) ?_
  first | refine AE [21] [] Z Z (fun _=>AB (B5 Z Z Z)) ?_ | refine AH [21] Z Z (fun _=>AB (B5 Z Z Z)) ?_ | refine AE [21] [] Z Z (fun _=>AB (B6 Z Z Z)) ?_ | refine AH [21] Z Z (fun _=>AB (B6 Z Z Z)) ?_
  refine CA [5,28] [25] [] Z Z (fun _=>IP (Bq Z Z Z Z Z Z Z Bf)) (.inl ⟨rfl,rfl⟩) Z Z Z Z Z (Dl 10 Z Z Z (Em (AI (AC Z Z (J (Cz Z Z (IntWalk.i64_in _ (by omega)) rfl) (AD Z Z (AG ?_)))))));exact ⟨(k+1,M1),⟨hkl,by show BU M1 b (opsW (l.take (k+1)));rw [HL hkl];exact h1⟩,by show l.length - (k+1)<l.length - k;omega,BK hF [20,25,40] rfl (by simp only [HL hkl];rfl) ⟨rfl,rfl,rfl,rfl,rfl,trivial⟩⟩
 ·refine ET (AF ?_);have hke:k=l.length:=by have:=h12;omega
  rw [hke,List.take_length] at hR;rw [hke,List.take_length];refine FH [[],[],[0],[0,1,2]] mixed rfl (Dk ?_)
  first | refine AE [4] [] Z Z (fun _=>AB (Ac Z Z)) ?_ | refine AH [4] Z Z (fun _=>AB (Ac Z Z)) ?_
  first | refine AE [5] [25] Z Z (fun _=>AB (BS Z Z AL rfl)) ?_ | refine AE [5] [25] Z Z (fun _=>AB (BQ Z Z AL Z Z Z)) ?_ | refine AE [5] [25] Z Z (fun _=>AB (BR Z Z (rfl) rfl AL rfl)) ?_
  first | refine AE [30] [] Z Z (fun _=>AB (EH Z Z)) ?_ | refine AH [30] Z Z (fun _=>AB (EH Z Z)) ?_
  refine Dl 3 Z Z Z (B9 4 Z Z (U (Bq Z Z Z Z Z Z Z Bf) (AG ⟨rfl,?_⟩)));refine Em (At ?_);exact ⟨_,[40],_,Ar rfl,rfl,rfl,b,M,rfl,rfl,hR⟩
end Go.Proofs.Ytlmedakidpaeeaa
