/- Proved here: linkLimits_holds, the given statement Rows.LinkLimitsSaid: the law girolaw27.LinkLimits returns true and does not panic, at every input that the statement speaks of; no condition beyond the statement. -/
/- 'girolaw27.LinkLimits': for every input the law returns true, and each argument reads behind the call as it read before. No condition. -/
import Derived.Test.YtlmedakidpaeeaaMg19
namespace Go.Proofs.Ytlmedakidpaeeaa
open Go.RowKit
section
variable {P:Program} {F:Fr} {s:AS} {d:Nat} {ty T T' E K:TypeId} {pos:String} {aft:Array Edge} {g:Option (Nat×Bool)} {x y:Operand}
theorem st_catS (a b:List UInt8) (hx:s.ev x=some (.d (AP a))) (hy:s.ev y=some (.d (AP b))) (hl:a.length+b.length≤1000000) (hd:Nat.blt d s.n=true):AA P F ⟨some d,.binOp .add T x y T',ty,pos,aft,g⟩ s d (.d (AP (a++b))):=
 BF _ hd fun _ act _ hs=>by
  have h1:=hs.raw hx;have h2:=hs.raw hy
  have he:(⟨a.toArray⟩:ByteArray)++⟨b.toArray⟩=⟨(a++b).toArray⟩:=by
   apply ByteArray.ext;simp
  refine ⟨.string ⟨(a++b).toArray⟩,?_,.d (.raw rfl)⟩;simp only [execOp,eqGuard,binOp,Op.stringOp,h1,h2,J6]
  simp [he]
  have z1:(⟨a.toArray⟩:ByteArray).size=a.length:=by show a.toArray.size=_;simp
  have z2:(⟨b.toArray⟩:ByteArray).size=b.length:=by show b.toArray.size=_;simp
  rw [z1,z2];omega
end
theorem Jl (a b:Nat) (h:a≤1000000):IntKind.i64.wrap ((a:Int).tdiv (b:Int))=((a / b:Nat):Int):=by
 rw [←Int.ofNat_tdiv];have:a / b≤a:=Nat.div_le_self _ _
 obtain ⟨q,hq⟩:∃q,a / b=q:=⟨_,rfl⟩
 rw [hq] at this⊢;exact IntWalk.i64_in _ (by omega)
theorem GV {x:Int} {n:Nat} (hn:n<256) (h:x=(n:Int)):AV.d (.raw (.int .u8 x))= .d (Ba (UInt8.ofNat n)):=by
 subst h;unfold Ba;rw [UInt8.toNat_ofNat',Nat.mod_eq_of_lt hn]
def HR (j:Nat):St:=[UInt8.ofNat (97+j % 16),UInt8.ofNat (97+j / 16 % 16),UInt8.ofNat (97+j / 256)]
theorem nmL_inj {i j:Nat} (hi:i<4096) (hj:j<4096) (h:HR i=HR j):i=j:=by
 unfold HR at h;simp only [List.cons.injEq,and_true] at h;obtain ⟨h1,h2,h3⟩:=h;have g1:=congrArg UInt8.toNat h1;have g2:=congrArg UInt8.toNat h2;have g3:=congrArg UInt8.toNat h3;simp only [UInt8.toNat_ofNat'] at g1 g2 g3;omega
theorem FQ (j:Nat):(HR j).length=3:=rfl
structure LN (k:Nat) (M:MF) (b:Nat) (w:Ws):Prop where
 rep:CL M b w
 ok:B8 w
 len:w.R.length=k
 mem:∀x,x∈w.R↔∃j,j<k∧x=HR j
theorem LN.add {k:Nat} {M M':MF} {b:Nat} {w:Ws} (h:LN k M b w) (hk:k<4096) (hr:CL M' b (addW w (HR k)).1):(addW w (HR k)).2=0∧LN (k+1) M' b (addW w (HR k)).1:=by
 have h1:¬((HR k).length<1∨64<(HR k).length):=by rw [FQ];omega
 have h2:¬HR k∈w.R:=fun hh=>by
  obtain ⟨j,hj,e⟩:=(h.mem _).1 hh;have:=nmL_inj hk (by omega) e;omega
 have h3:¬4096≤w.R.length:=by rw [h.len];omega
 rw [JP h1 h2 h3] at hr⊢;refine ⟨rfl,hr,h.ok.add h2 h3,by show (DX w.R _).length=_;rw [HY,h.len],fun x=>?_⟩;show x∈DX w.R _↔_;rw [mem_insS,h.mem]
 constructor
 ·rintro (rfl | ⟨j,hj,rfl⟩)
  ·exact ⟨k,by omega,rfl⟩
  ·exact ⟨j,by omega,rfl⟩
 ·rintro ⟨j,hj,rfl⟩
  by_cases e:j=k
  ·exact .inl (by rw [e])
  ·exact .inr ⟨j,by omega,rfl⟩
set_option maxRecDepth 100000 in
theorem law1_p (z y:Nat) (hz:z≤255) (hy:y≤255):Ex Try.prog 3 [.d (.raw (.int .u8 (z:Int))),.d (.raw (.int .u8 (y:Int)))] (.raw (.bool true)):=by
 refine Fu Try.func3 Z Z Try.ntmps3 Z Z Z fun F hF=>(AF (AI (AE Z Z (AG (AF (AF (AI (J (FC (known_p) Z Z) ?_))))))))
 first | refine J (BZ Z Z) ?_ | refine J (CT Z Z) ?_
 refine AG (F6 rfl (rfl) (BP (AF (AI ?_))));refine F5 (GR IT rfl [40] ⟨rfl,trivial⟩ Z Z Z Z (fun r H' ⟨b,M,e1,e2,_⟩=>by subst e1 e2;exact ⟨rfl,rfl,rfl⟩) rfl) rfl ?_;rintro _ ⟨r,H',⟨b,M0,e1,e2,h0⟩,rfl⟩;subst e1 e2;refine AE Z Z (AG (AF (AI (AE Z Z ?_))));refine AG (AF (AF (a_as 6 (.d (AP (List.replicate 0 120))) Z Z (AI (AE Z Z (AG (CR (If (α:=Nat) (fun k=>⟨79,[(0,.d (.raw (.int .u8 (z:Int)))),(1,.d (.raw (.int .u8 (y:Int)))),(5,(.d (pD b 0))),(6,(.d (AP (List.replicate k 120)))),(7,(.d (natD k)))],[(40,[.multi M0])]⟩) (fun k=>k≤z % 80) (fun k=>z % 80 - k) (0) (Nat.zero_le _) (CP hF [40] Z Z ⟨rfl,rfl,rfl,rfl,rfl,trivial⟩) ?_))))))));rintro k hk;refine AF (AF (AI (AB Z Z (AB Z Z (J (Be Z Z (by omega) ((Int.ofNat_tmod z 80).symm) rfl) (J (BG rfl Try.underlying5 Try.underlying3 (IntWalk.i64_in _ (by omega)) rfl) ?_))))))
 first | refine J (Gk Z Z Z) ?_ | refine J (Gl Z Z Z) ?_
 refine AG ?_
 first | refine Ap rfl (fun h18=>?_) (fun h18=>?_) | refine CO rfl (fun h18=>?_) (fun h18=>?_)
 ·refine BP (AF (CR (AI (AB Z Z ?_))));refine J (st_catS (List.replicate k 120) [120] Z Z (by simp;omega) rfl) (Ek 22 (.d (AP (List.replicate (k+1) 120))) rfl (by rw [List.replicate_succ']) (AE Z Z (AG (AI (AB Z Z (J (E9 Z Z (IntWalk.i64_in _ (by omega)) rfl) (AE Z Z (AG ?_))))))));exact ⟨k+1,by omega,by omega,CP hF [40] rfl (rfl) ⟨rfl,rfl,rfl,rfl,rfl,trivial⟩⟩
 ·refine Gj (AF ?_);have hke:k=z % 80:=by have:=h18;omega
  refine AI (AB Z Z (AB Z Z ?_));refine F5 (GR (Da h0 DI.nil.ok (List.replicate k 120)) rfl [40] ⟨rfl,trivial⟩ Z Z Z Z (fun r H' ⟨M,e1,e2,_⟩=>by subst e1 e2;exact ⟨rfl,rfl,rfl⟩) rfl) rfl ?_;rintro _ ⟨r,H',⟨M1,e1,e2,h1⟩,rfl⟩;subst e1 e2;refine AE Z Z (AG (AF (AF ?_)))
  obtain ⟨c,hc⟩:∃c,(addW ⟨[],[]⟩ (List.replicate k 120)).2=c:=⟨_,rfl⟩
  have hc6:(k<1∨64<k) ->c=6:=fun h=>by rw [←hc,Hf (by simpa using h)]
  have hc0:¬(k<1∨64<k) ->c=0:=fun h=>by rw [←hc,JP (by simpa using h) (by simp) (by simp)]
  rw [hc];have hkl:(List.replicate k (120:UInt8)).length=k:=List.length_replicate;have hcc:c=0↔(1≤k∧k≤64):=by omega
  have hc06:c=0∨c=6:=if h:k<1∨64<k then .inr (hc6 h) else .inl (hc0 h)
  refine AI (AB Z Z ?_)
  first | refine J (G2 Z Z Z) ?_ | refine J (Ga Z Z Z) ?_ | refine J (GO Z Z Z) ?_ | refine J (G3 Try.underlying25 Z Z Z) ?_ | refine J (G6 Try.underlying25 Z Z Z) ?_ | refine J (G5 Try.underlying25 Z Z) ?_ | refine J (G9 Try.underlying25 Z Z) ?_ | refine J (G8 Try.underlying25 Z Z) ?_ | refine J (G4 Try.underlying25 Z Z Z) ?_ | refine J (G7 Try.underlying25 Z Z) ?_
  refine AB Z Z ?_
  first | refine J (Id rfl Try.underlying9 rfl) ?_ | refine J (EZ Z Z Try.underlying9 rfl) ?_ | refine J (Ih rfl Try.underlying9 rfl) ?_ | refine J (Ib rfl Try.underlying9 rfl) ?_ | refine J (Ig rfl Try.underlying9 rfl) ?_ | refine J (Hw rfl Try.underlying9 rfl) ?_
  refine J (Kg Z Z Z) (AB Z Z ?_)
  first | refine B3 31 rfl (fun h31=>?_) (fun h31=>?_) | refine O1 31 rfl (fun h31=>?_) (fun h31=>?_)
  ·refine A4 Z Z Z (AB Z Z (A4 Z Z Z ?_))
   first | refine J (Id rfl Try.underlying9 rfl) ?_ | refine J (EZ Z Z Try.underlying9 rfl) ?_ | refine J (Ih rfl Try.underlying9 rfl) ?_ | refine J (Ib rfl Try.underlying9 rfl) ?_ | refine J (Ig rfl Try.underlying9 rfl) ?_ | refine J (Hw rfl Try.underlying9 rfl) ?_
   refine A4 Z Z Z (J (st_leq Z Z Z) (J (JR Z Z Z Z) ?_))
   first | refine J (GM Z Z Z) ?_ | refine J (GS Z Z Z) ?_ | refine J (Fv Z Z Z) ?_ | refine J (GP Try.underlying4 Z Z Z) ?_ | refine J (GT Try.underlying4 Z Z Z) ?_ | refine J (st_neqN Try.underlying4 Z Z) ?_ | refine J (st_neqPr Try.underlying4 Z Z) ?_ | refine J (st_neqMz Try.underlying4 Z Z) ?_ | refine J (GQ Try.underlying4 Z Z Z) ?_ | refine J (st_neqFN Try.underlying4 Z Z) ?_
   refine AB Z Z (Ej 37 rfl (decide_eq_false (Classical.not_not.2 (decide_eq_decide.2 (by rw [hkl] at h31⊢;omega)))) (A4 Z Z Z (AB Z Z (A4 Z Z Z ?_))))
   first | refine J (GM Z Z Z) ?_ | refine J (GS Z Z Z) ?_ | refine J (Fv Z Z Z) ?_ | refine J (GP Try.underlying25 Z Z Z) ?_ | refine J (GT Try.underlying25 Z Z Z) ?_ | refine J (st_neqN Try.underlying25 Z Z) ?_ | refine J (st_neqPr Try.underlying25 Z Z) ?_ | refine J (st_neqMz Try.underlying25 Z Z) ?_ | refine J (GQ Try.underlying25 Z Z Z) ?_ | refine J (st_neqFN Try.underlying25 Z Z) ?_
   refine A4 Z Z Z (AB Z Z ?_)
   first | refine B3 40 rfl (fun h40=>?_) (fun h40=>?_) | refine O1 40 rfl (fun h40=>?_) (fun h40=>?_)
   ·refine A4 Z Z Z (AB Z Z (A4 Z Z Z ?_))
    first | refine J (GM Z Z Z) ?_ | refine J (GS Z Z Z) ?_ | refine J (Fv Z Z Z) ?_ | refine J (GP Try.underlying25 Z Z Z) ?_ | refine J (GT Try.underlying25 Z Z Z) ?_ | refine J (st_neqN Try.underlying25 Z Z) ?_ | refine J (st_neqPr Try.underlying25 Z Z) ?_ | refine J (st_neqMz Try.underlying25 Z Z) ?_ | refine J (GQ Try.underlying25 Z Z Z) ?_ | refine J (st_neqFN Try.underlying25 Z Z) ?_
    refine A4 Z Z Z (J (JR Z Z Z Z) (J (JW Z Z Z Z) (AG (F6 rfl (decide_eq_false (by omega)) (BP (AF (AF ?_)))))));refine JQ [] hF Z Z ?_;refine AI (AB Z Z (J (Be Z Z (by omega) ((Int.ofNat_tmod y 16).symm) rfl) ?_))
    first | refine J (GM Z Z Z) ?_ | refine J (GS Z Z Z) ?_ | refine J (Fv Z Z Z) ?_ | refine J (GP Try.underlying5 Z Z Z) ?_ | refine J (GT Try.underlying5 Z Z Z) ?_ | refine J (st_neqN Try.underlying5 Z Z) ?_ | refine J (st_neqPr Try.underlying5 Z Z) ?_ | refine J (st_neqMz Try.underlying5 Z Z) ?_ | refine J (GQ Try.underlying5 Z Z Z) ?_ | refine J (st_neqFN Try.underlying5 Z Z) ?_
    refine AG ?_
    first | refine Ap rfl (fun h47=>?_) (fun h47=>?_) | refine CO rfl (fun h47=>?_) (fun h47=>?_)
    ·refine AF (AI (AE Z Z (AG (Bc ?_))));exact ⟨_,[],[],BX rfl,rfl,rfl,rfl,rfl⟩
    ·refine BP (AF (AI ?_));refine F5 (GR IT rfl [40] ⟨rfl,trivial⟩ Z Z Z Z (fun r H' ⟨b,M,e1,e2,_⟩=>by subst e1 e2;exact ⟨rfl,rfl,rfl⟩) rfl) rfl ?_;rintro _ ⟨r,H',⟨b2,M2,e1,e2,h2⟩,rfl⟩;subst e1 e2;refine AE Z Z (AG (AF (AF (AI (AE Z Z (AG (CR (If (α:=Nat×MF×Ws) (fun q=>⟨79,[(9,(.d (pD b2 0))),(10,(.d (natD q.1)))],[(40,[.multi q.2.1])]⟩) (fun q=>q.1≤4096∧LN q.1 q.2.1 b2 q.2.2) (fun q=>4096 - q.1) ((0,M2,⟨[],[]⟩)) (⟨Nat.zero_le _,h2,DI.nil.ok,rfl,fun x=>by simp⟩) (CP hF [40] Z Z ⟨rfl,rfl,trivial⟩) ?_))))))));rintro ⟨j,M,w⟩ ⟨hj,hL⟩;dsimp only at hj hL⊢;refine AF (AF (AI (AB Z Z ?_)))
     first | refine J (Gk Z Z Z) ?_ | refine J (Gl Z Z Z) ?_
     refine AG ?_
     first | refine Ap rfl (fun h50=>?_) (fun h50=>?_) | refine CO rfl (fun h50=>?_) (fun h50=>?_)
     ·refine BP (AF (CR (AF ?_)));have hjl:j<4096:=by have:=h50;omega
      refine AI (AB Z Z ?_);refine AB Z Z (J (Be Z Z (by omega) ((Int.ofNat_tmod j 16).symm) rfl) (J (BG rfl Try.underlying3 Try.underlying5 (IntWalk.u8_in _ (by omega)) rfl) (J (E9 Z Z (IntWalk.u8_in _ (by omega)) rfl) (Ek 57 (.d (Ba (UInt8.ofNat (97+j % 16)))) rfl (GV (by omega) (by omega)) (AB Z Z (J (Dq Z Z (by omega) (Jl j 16 (by omega)) rfl) (J (Be Z Z (by omega) ((Int.ofNat_tmod (j / 16) 16).symm) rfl) (J (BG rfl Try.underlying3 Try.underlying5 (IntWalk.u8_in _ (by omega)) rfl) ?_))))))));refine J (E9 Z Z (IntWalk.u8_in _ (by omega)) rfl) (Ek 62 (.d (Ba (UInt8.ofNat (97+j / 16 % 16)))) rfl (GV (by omega) (by omega)) (AB Z Z (J (Dq Z Z (by omega) (Jl j 256 (by omega)) rfl) (J (BG rfl Try.underlying3 Try.underlying5 (IntWalk.u8_in _ (by omega)) rfl) (J (E9 Z Z (IntWalk.u8_in _ (by omega)) rfl) (Ek 66 (.d (Ba (UInt8.ofNat (97+j / 256)))) rfl (GV (by omega) (by omega)) (U (K8 20 sl27 Z Z Z Z Z Z Z Z) (J (DM (HR j) Z Z Z Z Try.underlying27 Try.underlying5 Try.underlying9 rfl) ?_))))))));refine F5 (GR (Da hL.rep hL.ok (HR j)) rfl [40] ⟨rfl,trivial⟩ Z Z Z Z (fun r H' ⟨M,e1,e2,_⟩=>by subst e1 e2;exact ⟨rfl,rfl,rfl⟩) rfl) rfl ?_;rintro _ ⟨r,H',⟨M',e1,e2,h3⟩,rfl⟩;subst e1 e2;rw [(hL.add hjl h3).1]
      first | refine J (GM Z Z Z) ?_ | refine J (GS Z Z Z) ?_ | refine J (Fv Z Z Z) ?_ | refine J (GP Try.underlying25 Z Z Z) ?_ | refine J (GT Try.underlying25 Z Z Z) ?_ | refine J (st_neqN Try.underlying25 Z Z) ?_ | refine J (st_neqPr Try.underlying25 Z Z) ?_ | refine J (st_neqMz Try.underlying25 Z Z) ?_ | refine J (GQ Try.underlying25 Z Z Z) ?_ | refine J (st_neqFN Try.underlying25 Z Z) ?_
      refine AG (F6 rfl (rfl) (BP (AI (AB Z Z (J (E9 Z Z (IntWalk.i64_in _ (by omega)) rfl) (AE Z Z (AG ?_)))))));exact ⟨(j+1,M',(addW w (HR j)).1),⟨hjl,(hL.add hjl h3).2⟩,by show 4096 - (j+1)<4096 - j;omega,CP hF [40] rfl (rfl) ⟨rfl,rfl,trivial⟩⟩
     ·refine Gj (AF ?_);have hje:j=4096:=by have:=h50;omega
      subst hje;refine AI (AB Z Z ?_);refine F5 (GR (Da hL.rep hL.ok [122]) rfl [40] ⟨rfl,trivial⟩ Z Z Z Z (fun r H' ⟨M,e1,e2,_⟩=>by subst e1 e2;exact ⟨rfl,rfl,rfl⟩) rfl) rfl ?_;rintro _ ⟨r,H',⟨M4,e1,e2,h4⟩,rfl⟩;subst e1 e2;have hz8:addW w [122] =(w,8):=Ft (by decide) (fun hh=>by obtain ⟨i,_,e⟩:=(hL.mem _).1 hh;exact absurd (congrArg List.length e) (by rw [FQ];decide)) (by rw [hL.len];exact Nat.le_refl _);rw [hz8] at h4⊢
      first | refine J (G2 Z Z Z) ?_ | refine J (Ga Z Z Z) ?_ | refine J (GO Z Z Z) ?_ | refine J (G3 Try.underlying25 Z Z Z) ?_ | refine J (G6 Try.underlying25 Z Z Z) ?_ | refine J (G5 Try.underlying25 Z Z) ?_ | refine J (G9 Try.underlying25 Z Z) ?_ | refine J (G8 Try.underlying25 Z Z) ?_ | refine J (G4 Try.underlying25 Z Z Z) ?_ | refine J (G7 Try.underlying25 Z Z) ?_
      refine AB Z Z (Ci 74 rfl (rfl) (A4 Z Z Z (AB Z Z (A4 Z Z Z (U (Gp (L7 h4 hL.ok) rfl [40] ⟨rfl,trivial⟩ Z Z Z Z Z Z Z Z Z) ?_)))));rw [hL.len];refine A4 Z Z Z ?_
      first | refine J (G2 Z Z Z) ?_ | refine J (Ga Z Z Z) ?_ | refine J (GO Z Z Z) ?_ | refine J (G3 Try.underlying3 Z Z Z) ?_ | refine J (G6 Try.underlying3 Z Z Z) ?_ | refine J (G5 Try.underlying3 Z Z) ?_ | refine J (G9 Try.underlying3 Z Z) ?_ | refine J (G8 Try.underlying3 Z Z) ?_ | refine J (G4 Try.underlying3 Z Z Z) ?_ | refine J (G7 Try.underlying3 Z Z) ?_
      refine J (JR Z Z Z Z) (AE Z Z (AG (Bc ?_)));exact ⟨_,[],[],BX rfl,rfl,rfl,rfl,rfl⟩
   ·refine Dc Z Z Z Z ?_;refine Dc Z Z Z Z (A4 Z Z Z (J (JW Z Z Z Z) (J (JW Z Z Z Z) (AG (F6 Z Z (BP (AF (AF ?_))))))));refine JQ [] hF Z Z ?_;refine AI (AB Z Z (J (Be Z Z (by omega) ((Int.ofNat_tmod y 16).symm) rfl) ?_))
    first | refine J (GM Z Z Z) ?_ | refine J (GS Z Z Z) ?_ | refine J (Fv Z Z Z) ?_ | refine J (GP Try.underlying5 Z Z Z) ?_ | refine J (GT Try.underlying5 Z Z Z) ?_ | refine J (st_neqN Try.underlying5 Z Z) ?_ | refine J (st_neqPr Try.underlying5 Z Z) ?_ | refine J (st_neqMz Try.underlying5 Z Z) ?_ | refine J (GQ Try.underlying5 Z Z Z) ?_ | refine J (st_neqFN Try.underlying5 Z Z) ?_
    refine AG ?_
    first | refine Ap rfl (fun h47=>?_) (fun h47=>?_) | refine CO rfl (fun h47=>?_) (fun h47=>?_)
    ·refine AF (AI (AE Z Z (AG (Bc ?_))));exact ⟨_,[],[],BX rfl,rfl,rfl,rfl,rfl⟩
    ·refine BP (AF (AI ?_));refine F5 (GR IT rfl [40] ⟨rfl,trivial⟩ Z Z Z Z (fun r H' ⟨b,M,e1,e2,_⟩=>by subst e1 e2;exact ⟨rfl,rfl,rfl⟩) rfl) rfl ?_;rintro _ ⟨r,H',⟨b2,M2,e1,e2,h2⟩,rfl⟩;subst e1 e2;refine AE Z Z (AG (AF (AF (AI (AE Z Z (AG (CR (If (α:=Nat×MF×Ws) (fun q=>⟨79,[(9,(.d (pD b2 0))),(10,(.d (natD q.1)))],[(40,[.multi q.2.1])]⟩) (fun q=>q.1≤4096∧LN q.1 q.2.1 b2 q.2.2) (fun q=>4096 - q.1) ((0,M2,⟨[],[]⟩)) (⟨Nat.zero_le _,h2,DI.nil.ok,rfl,fun x=>by simp⟩) (CP hF [40] Z Z ⟨rfl,rfl,trivial⟩) ?_))))))));rintro ⟨j,M,w⟩ ⟨hj,hL⟩;dsimp only at hj hL⊢;refine AF (AF (AI (AB Z Z ?_)))
     first | refine J (Gk Z Z Z) ?_ | refine J (Gl Z Z Z) ?_
     refine AG ?_
     first | refine Ap rfl (fun h50=>?_) (fun h50=>?_) | refine CO rfl (fun h50=>?_) (fun h50=>?_)
     ·refine BP (AF (CR (AF ?_)));have hjl:j<4096:=by have:=h50;omega
      refine AI (AB Z Z ?_);refine AB Z Z (J (Be Z Z (by omega) ((Int.ofNat_tmod j 16).symm) rfl) (J (BG rfl Try.underlying3 Try.underlying5 (IntWalk.u8_in _ (by omega)) rfl) (J (E9 Z Z (IntWalk.u8_in _ (by omega)) rfl) (Ek 57 (.d (Ba (UInt8.ofNat (97+j % 16)))) rfl (GV (by omega) (by omega)) (AB Z Z (J (Dq Z Z (by omega) (Jl j 16 (by omega)) rfl) (J (Be Z Z (by omega) ((Int.ofNat_tmod (j / 16) 16).symm) rfl) (J (BG rfl Try.underlying3 Try.underlying5 (IntWalk.u8_in _ (by omega)) rfl) ?_))))))));refine J (E9 Z Z (IntWalk.u8_in _ (by omega)) rfl) (Ek 62 (.d (Ba (UInt8.ofNat (97+j / 16 % 16)))) rfl (GV (by omega) (by omega)) (AB Z Z (J (Dq Z Z (by omega) (Jl j 256 (by omega)) rfl) (J (BG rfl Try.underlying3 Try.underlying5 (IntWalk.u8_in _ (by omega)) rfl) (J (E9 Z Z (IntWalk.u8_in _ (by omega)) rfl) (Ek 66 (.d (Ba (UInt8.ofNat (97+j / 256)))) rfl (GV (by omega) (by omega)) (U (K8 20 sl27 Z Z Z Z Z Z Z Z) (J (DM (HR j) Z Z Z Z Try.underlying27 Try.underlying5 Try.underlying9 rfl) ?_))))))));refine F5 (GR (Da hL.rep hL.ok (HR j)) rfl [40] ⟨rfl,trivial⟩ Z Z Z Z (fun r H' ⟨M,e1,e2,_⟩=>by subst e1 e2;exact ⟨rfl,rfl,rfl⟩) rfl) rfl ?_;rintro _ ⟨r,H',⟨M',e1,e2,h3⟩,rfl⟩;subst e1 e2;rw [(hL.add hjl h3).1]
      first | refine J (GM Z Z Z) ?_ | refine J (GS Z Z Z) ?_ | refine J (Fv Z Z Z) ?_ | refine J (GP Try.underlying25 Z Z Z) ?_ | refine J (GT Try.underlying25 Z Z Z) ?_ | refine J (st_neqN Try.underlying25 Z Z) ?_ | refine J (st_neqPr Try.underlying25 Z Z) ?_ | refine J (st_neqMz Try.underlying25 Z Z) ?_ | refine J (GQ Try.underlying25 Z Z Z) ?_ | refine J (st_neqFN Try.underlying25 Z Z) ?_
      refine AG (F6 rfl (rfl) (BP (AI (AB Z Z (J (E9 Z Z (IntWalk.i64_in _ (by omega)) rfl) (AE Z Z (AG ?_)))))));exact ⟨(j+1,M',(addW w (HR j)).1),⟨hjl,(hL.add hjl h3).2⟩,by show 4096 - (j+1)<4096 - j;omega,CP hF [40] rfl (rfl) ⟨rfl,rfl,trivial⟩⟩
     ·refine Gj (AF ?_);have hje:j=4096:=by have:=h50;omega
      subst hje;refine AI (AB Z Z ?_);refine F5 (GR (Da hL.rep hL.ok [122]) rfl [40] ⟨rfl,trivial⟩ Z Z Z Z (fun r H' ⟨M,e1,e2,_⟩=>by subst e1 e2;exact ⟨rfl,rfl,rfl⟩) rfl) rfl ?_;rintro _ ⟨r,H',⟨M4,e1,e2,h4⟩,rfl⟩;subst e1 e2;have hz8:addW w [122] =(w,8):=Ft (by decide) (fun hh=>by obtain ⟨i,_,e⟩:=(hL.mem _).1 hh;exact absurd (congrArg List.length e) (by rw [FQ];decide)) (by rw [hL.len];exact Nat.le_refl _);rw [hz8] at h4⊢
      first | refine J (G2 Z Z Z) ?_ | refine J (Ga Z Z Z) ?_ | refine J (GO Z Z Z) ?_ | refine J (G3 Try.underlying25 Z Z Z) ?_ | refine J (G6 Try.underlying25 Z Z Z) ?_ | refine J (G5 Try.underlying25 Z Z) ?_ | refine J (G9 Try.underlying25 Z Z) ?_ | refine J (G8 Try.underlying25 Z Z) ?_ | refine J (G4 Try.underlying25 Z Z Z) ?_ | refine J (G7 Try.underlying25 Z Z) ?_
      refine AB Z Z (Ci 74 rfl (rfl) (A4 Z Z Z (AB Z Z (A4 Z Z Z (U (Gp (L7 h4 hL.ok) rfl [40] ⟨rfl,trivial⟩ Z Z Z Z Z Z Z Z Z) ?_)))));rw [hL.len];refine A4 Z Z Z ?_
      first | refine J (G2 Z Z Z) ?_ | refine J (Ga Z Z Z) ?_ | refine J (GO Z Z Z) ?_ | refine J (G3 Try.underlying3 Z Z Z) ?_ | refine J (G6 Try.underlying3 Z Z Z) ?_ | refine J (G5 Try.underlying3 Z Z) ?_ | refine J (G9 Try.underlying3 Z Z) ?_ | refine J (G8 Try.underlying3 Z Z) ?_ | refine J (G4 Try.underlying3 Z Z Z) ?_ | refine J (G7 Try.underlying3 Z Z) ?_
      refine J (JR Z Z Z Z) (AE Z Z (AG (Bc ?_)));exact ⟨_,[],[],BX rfl,rfl,rfl,rfl,rfl⟩
  ·refine Dc Z Z Z Z (Dc Z Z Z Z (Dc Z Z Z Z (J (JW Z Z Z Z) ?_)))
   first | refine J (GM Z Z Z) ?_ | refine J (GS Z Z Z) ?_ | refine J (Fv Z Z Z) ?_ | refine J (GP Try.underlying4 Z Z Z) ?_ | refine J (GT Try.underlying4 Z Z Z) ?_ | refine J (st_neqN Try.underlying4 Z Z) ?_ | refine J (st_neqPr Try.underlying4 Z Z) ?_ | refine J (st_neqMz Try.underlying4 Z Z) ?_ | refine J (GQ Try.underlying4 Z Z Z) ?_ | refine J (st_neqFN Try.underlying4 Z Z) ?_
   refine AB Z Z (Ej 37 rfl (decide_eq_false (Classical.not_not.2 (decide_eq_false (by rw [hkl] at h31;omega)))) (A4 Z Z Z (AB Z Z (A4 Z Z Z ?_))))
   first | refine J (GM Z Z Z) ?_ | refine J (GS Z Z Z) ?_ | refine J (Fv Z Z Z) ?_ | refine J (GP Try.underlying25 Z Z Z) ?_ | refine J (GT Try.underlying25 Z Z Z) ?_ | refine J (st_neqN Try.underlying25 Z Z) ?_ | refine J (st_neqPr Try.underlying25 Z Z) ?_ | refine J (st_neqMz Try.underlying25 Z Z) ?_ | refine J (GQ Try.underlying25 Z Z Z) ?_ | refine J (st_neqFN Try.underlying25 Z Z) ?_
   refine A4 Z Z Z (AB Z Z ?_)
   first | refine B3 40 rfl (fun h40=>?_) (fun h40=>?_) | refine O1 40 rfl (fun h40=>?_) (fun h40=>?_)
   ·refine A4 Z Z Z (AB Z Z (A4 Z Z Z ?_))
    first | refine J (GM Z Z Z) ?_ | refine J (GS Z Z Z) ?_ | refine J (Fv Z Z Z) ?_ | refine J (GP Try.underlying25 Z Z Z) ?_ | refine J (GT Try.underlying25 Z Z Z) ?_ | refine J (st_neqN Try.underlying25 Z Z) ?_ | refine J (st_neqPr Try.underlying25 Z Z) ?_ | refine J (st_neqMz Try.underlying25 Z Z) ?_ | refine J (GQ Try.underlying25 Z Z Z) ?_ | refine J (st_neqFN Try.underlying25 Z Z) ?_
    refine A4 Z Z Z (J (JR Z Z Z Z) (J (JW Z Z Z Z) (AG (F6 rfl (decide_eq_false (by omega)) (BP (AF (AF ?_)))))));refine JQ [] hF Z Z ?_;refine AI (AB Z Z (J (Be Z Z (by omega) ((Int.ofNat_tmod y 16).symm) rfl) ?_))
    first | refine J (GM Z Z Z) ?_ | refine J (GS Z Z Z) ?_ | refine J (Fv Z Z Z) ?_ | refine J (GP Try.underlying5 Z Z Z) ?_ | refine J (GT Try.underlying5 Z Z Z) ?_ | refine J (st_neqN Try.underlying5 Z Z) ?_ | refine J (st_neqPr Try.underlying5 Z Z) ?_ | refine J (st_neqMz Try.underlying5 Z Z) ?_ | refine J (GQ Try.underlying5 Z Z Z) ?_ | refine J (st_neqFN Try.underlying5 Z Z) ?_
    refine AG ?_
    first | refine Ap rfl (fun h47=>?_) (fun h47=>?_) | refine CO rfl (fun h47=>?_) (fun h47=>?_)
    ·refine AF (AI (AE Z Z (AG (Bc ?_))));exact ⟨_,[],[],BX rfl,rfl,rfl,rfl,rfl⟩
    ·refine BP (AF (AI ?_));refine F5 (GR IT rfl [40] ⟨rfl,trivial⟩ Z Z Z Z (fun r H' ⟨b,M,e1,e2,_⟩=>by subst e1 e2;exact ⟨rfl,rfl,rfl⟩) rfl) rfl ?_;rintro _ ⟨r,H',⟨b2,M2,e1,e2,h2⟩,rfl⟩;subst e1 e2;refine AE Z Z (AG (AF (AF (AI (AE Z Z (AG (CR (If (α:=Nat×MF×Ws) (fun q=>⟨79,[(9,(.d (pD b2 0))),(10,(.d (natD q.1)))],[(40,[.multi q.2.1])]⟩) (fun q=>q.1≤4096∧LN q.1 q.2.1 b2 q.2.2) (fun q=>4096 - q.1) ((0,M2,⟨[],[]⟩)) (⟨Nat.zero_le _,h2,DI.nil.ok,rfl,fun x=>by simp⟩) (CP hF [40] Z Z ⟨rfl,rfl,trivial⟩) ?_))))))));rintro ⟨j,M,w⟩ ⟨hj,hL⟩;dsimp only at hj hL⊢;refine AF (AF (AI (AB Z Z ?_)))
     first | refine J (Gk Z Z Z) ?_ | refine J (Gl Z Z Z) ?_
     refine AG ?_
     first | refine Ap rfl (fun h50=>?_) (fun h50=>?_) | refine CO rfl (fun h50=>?_) (fun h50=>?_)
     ·refine BP (AF (CR (AF ?_)));have hjl:j<4096:=by have:=h50;omega
      refine AI (AB Z Z ?_);refine AB Z Z (J (Be Z Z (by omega) ((Int.ofNat_tmod j 16).symm) rfl) (J (BG rfl Try.underlying3 Try.underlying5 (IntWalk.u8_in _ (by omega)) rfl) (J (E9 Z Z (IntWalk.u8_in _ (by omega)) rfl) (Ek 57 (.d (Ba (UInt8.ofNat (97+j % 16)))) rfl (GV (by omega) (by omega)) (AB Z Z (J (Dq Z Z (by omega) (Jl j 16 (by omega)) rfl) (J (Be Z Z (by omega) ((Int.ofNat_tmod (j / 16) 16).symm) rfl) (J (BG rfl Try.underlying3 Try.underlying5 (IntWalk.u8_in _ (by omega)) rfl) ?_))))))));refine J (E9 Z Z (IntWalk.u8_in _ (by omega)) rfl) (Ek 62 (.d (Ba (UInt8.ofNat (97+j / 16 % 16)))) rfl (GV (by omega) (by omega)) (AB Z Z (J (Dq Z Z (by omega) (Jl j 256 (by omega)) rfl) (J (BG rfl Try.underlying3 Try.underlying5 (IntWalk.u8_in _ (by omega)) rfl) (J (E9 Z Z (IntWalk.u8_in _ (by omega)) rfl) (Ek 66 (.d (Ba (UInt8.ofNat (97+j / 256)))) rfl (GV (by omega) (by omega)) (U (K8 20 sl27 Z Z Z Z Z Z Z Z) (J (DM (HR j) Z Z Z Z Try.underlying27 Try.underlying5 Try.underlying9 rfl) ?_))))))));refine F5 (GR (Da hL.rep hL.ok (HR j)) rfl [40] ⟨rfl,trivial⟩ Z Z Z Z (fun r H' ⟨M,e1,e2,_⟩=>by subst e1 e2;exact ⟨rfl,rfl,rfl⟩) rfl) rfl ?_;rintro _ ⟨r,H',⟨M',e1,e2,h3⟩,rfl⟩;subst e1 e2;rw [(hL.add hjl h3).1]
      first | refine J (GM Z Z Z) ?_ | refine J (GS Z Z Z) ?_ | refine J (Fv Z Z Z) ?_ | refine J (GP Try.underlying25 Z Z Z) ?_ | refine J (GT Try.underlying25 Z Z Z) ?_ | refine J (st_neqN Try.underlying25 Z Z) ?_ | refine J (st_neqPr Try.underlying25 Z Z) ?_ | refine J (st_neqMz Try.underlying25 Z Z) ?_ | refine J (GQ Try.underlying25 Z Z Z) ?_ | refine J (st_neqFN Try.underlying25 Z Z) ?_
      refine AG (F6 rfl (rfl) (BP (AI (AB Z Z (J (E9 Z Z (IntWalk.i64_in _ (by omega)) rfl) (AE Z Z (AG ?_)))))));exact ⟨(j+1,M',(addW w (HR j)).1),⟨hjl,(hL.add hjl h3).2⟩,by show 4096 - (j+1)<4096 - j;omega,CP hF [40] rfl (rfl) ⟨rfl,rfl,trivial⟩⟩
     ·refine Gj (AF ?_);have hje:j=4096:=by have:=h50;omega
      subst hje;refine AI (AB Z Z ?_);refine F5 (GR (Da hL.rep hL.ok [122]) rfl [40] ⟨rfl,trivial⟩ Z Z Z Z (fun r H' ⟨M,e1,e2,_⟩=>by subst e1 e2;exact ⟨rfl,rfl,rfl⟩) rfl) rfl ?_;rintro _ ⟨r,H',⟨M4,e1,e2,h4⟩,rfl⟩;subst e1 e2;have hz8:addW w [122] =(w,8):=Ft (by decide) (fun hh=>by obtain ⟨i,_,e⟩:=(hL.mem _).1 hh;exact absurd (congrArg List.length e) (by rw [FQ];decide)) (by rw [hL.len];exact Nat.le_refl _);rw [hz8] at h4⊢
      first | refine J (G2 Z Z Z) ?_ | refine J (Ga Z Z Z) ?_ | refine J (GO Z Z Z) ?_ | refine J (G3 Try.underlying25 Z Z Z) ?_ | refine J (G6 Try.underlying25 Z Z Z) ?_ | refine J (G5 Try.underlying25 Z Z) ?_ | refine J (G9 Try.underlying25 Z Z) ?_ | refine J (G8 Try.underlying25 Z Z) ?_ | refine J (G4 Try.underlying25 Z Z Z) ?_ | refine J (G7 Try.underlying25 Z Z) ?_
      refine AB Z Z (Ci 74 rfl (rfl) (A4 Z Z Z (AB Z Z (A4 Z Z Z (U (Gp (L7 h4 hL.ok) rfl [40] ⟨rfl,trivial⟩ Z Z Z Z Z Z Z Z Z) ?_)))));rw [hL.len];refine A4 Z Z Z ?_
      first | refine J (G2 Z Z Z) ?_ | refine J (Ga Z Z Z) ?_ | refine J (GO Z Z Z) ?_ | refine J (G3 Try.underlying3 Z Z Z) ?_ | refine J (G6 Try.underlying3 Z Z Z) ?_ | refine J (G5 Try.underlying3 Z Z) ?_ | refine J (G9 Try.underlying3 Z Z) ?_ | refine J (G8 Try.underlying3 Z Z) ?_ | refine J (G4 Try.underlying3 Z Z Z) ?_ | refine J (G7 Try.underlying3 Z Z) ?_
      refine J (JR Z Z Z Z) (AE Z Z (AG (Bc ?_)));exact ⟨_,[],[],BX rfl,rfl,rfl,rfl,rfl⟩
   ·refine Dc Z Z Z Z ?_;refine Dc Z Z Z Z (A4 Z Z Z (J (JW Z Z Z Z) (J (JW Z Z Z Z) (AG (F6 Z Z (BP (AF (AF ?_))))))));refine JQ [] hF Z Z ?_;refine AI (AB Z Z (J (Be Z Z (by omega) ((Int.ofNat_tmod y 16).symm) rfl) ?_))
    first | refine J (GM Z Z Z) ?_ | refine J (GS Z Z Z) ?_ | refine J (Fv Z Z Z) ?_ | refine J (GP Try.underlying5 Z Z Z) ?_ | refine J (GT Try.underlying5 Z Z Z) ?_ | refine J (st_neqN Try.underlying5 Z Z) ?_ | refine J (st_neqPr Try.underlying5 Z Z) ?_ | refine J (st_neqMz Try.underlying5 Z Z) ?_ | refine J (GQ Try.underlying5 Z Z Z) ?_ | refine J (st_neqFN Try.underlying5 Z Z) ?_
    refine AG ?_
    first | refine Ap rfl (fun h47=>?_) (fun h47=>?_) | refine CO rfl (fun h47=>?_) (fun h47=>?_)
    ·refine AF (AI (AE Z Z (AG (Bc ?_))));exact ⟨_,[],[],BX rfl,rfl,rfl,rfl,rfl⟩
    ·refine BP (AF (AI ?_));refine F5 (GR IT rfl [40] ⟨rfl,trivial⟩ Z Z Z Z (fun r H' ⟨b,M,e1,e2,_⟩=>by subst e1 e2;exact ⟨rfl,rfl,rfl⟩) rfl) rfl ?_;rintro _ ⟨r,H',⟨b2,M2,e1,e2,h2⟩,rfl⟩;subst e1 e2;refine AE Z Z (AG (AF (AF (AI (AE Z Z (AG (CR (If (α:=Nat×MF×Ws) (fun q=>⟨79,[(9,(.d (pD b2 0))),(10,(.d (natD q.1)))],[(40,[.multi q.2.1])]⟩) (fun q=>q.1≤4096∧LN q.1 q.2.1 b2 q.2.2) (fun q=>4096 - q.1) ((0,M2,⟨[],[]⟩)) (⟨Nat.zero_le _,h2,DI.nil.ok,rfl,fun x=>by simp⟩) (CP hF [40] Z Z ⟨rfl,rfl,trivial⟩) ?_))))))));rintro ⟨j,M,w⟩ ⟨hj,hL⟩;dsimp only at hj hL⊢;refine AF (AF (AI (AB Z Z ?_)))
     first | refine J (Gk Z Z Z) ?_ | refine J (Gl Z Z Z) ?_
     refine AG ?_
     first | refine Ap rfl (fun h50=>?_) (fun h50=>?_) | refine CO rfl (fun h50=>?_) (fun h50=>?_)
     ·refine BP (AF (CR (AF ?_)));have hjl:j<4096:=by have:=h50;omega
      refine AI (AB Z Z ?_);refine AB Z Z (J (Be Z Z (by omega) ((Int.ofNat_tmod j 16).symm) rfl) (J (BG rfl Try.underlying3 Try.underlying5 (IntWalk.u8_in _ (by omega)) rfl) (J (E9 Z Z (IntWalk.u8_in _ (by omega)) rfl) (Ek 57 (.d (Ba (UInt8.ofNat (97+j % 16)))) rfl (GV (by omega) (by omega)) (AB Z Z (J (Dq Z Z (by omega) (Jl j 16 (by omega)) rfl) (J (Be Z Z (by omega) ((Int.ofNat_tmod (j / 16) 16).symm) rfl) (J (BG rfl Try.underlying3 Try.underlying5 (IntWalk.u8_in _ (by omega)) rfl) ?_))))))));refine J (E9 Z Z (IntWalk.u8_in _ (by omega)) rfl) (Ek 62 (.d (Ba (UInt8.ofNat (97+j / 16 % 16)))) rfl (GV (by omega) (by omega)) (AB Z Z (J (Dq Z Z (by omega) (Jl j 256 (by omega)) rfl) (J (BG rfl Try.underlying3 Try.underlying5 (IntWalk.u8_in _ (by omega)) rfl) (J (E9 Z Z (IntWalk.u8_in _ (by omega)) rfl) (Ek 66 (.d (Ba (UInt8.ofNat (97+j / 256)))) rfl (GV (by omega) (by omega)) (U (K8 20 sl27 Z Z Z Z Z Z Z Z) (J (DM (HR j) Z Z Z Z Try.underlying27 Try.underlying5 Try.underlying9 rfl) ?_))))))));refine F5 (GR (Da hL.rep hL.ok (HR j)) rfl [40] ⟨rfl,trivial⟩ Z Z Z Z (fun r H' ⟨M,e1,e2,_⟩=>by subst e1 e2;exact ⟨rfl,rfl,rfl⟩) rfl) rfl ?_;rintro _ ⟨r,H',⟨M',e1,e2,h3⟩,rfl⟩;subst e1 e2;rw [(hL.add hjl h3).1]
      first | refine J (GM Z Z Z) ?_ | refine J (GS Z Z Z) ?_ | refine J (Fv Z Z Z) ?_ | refine J (GP Try.underlying25 Z Z Z) ?_ | refine J (GT Try.underlying25 Z Z Z) ?_ | refine J (st_neqN Try.underlying25 Z Z) ?_ | refine J (st_neqPr Try.underlying25 Z Z) ?_ | refine J (st_neqMz Try.underlying25 Z Z) ?_ | refine J (GQ Try.underlying25 Z Z Z) ?_ | refine J (st_neqFN Try.underlying25 Z Z) ?_
      refine AG (F6 rfl (rfl) (BP (AI (AB Z Z (J (E9 Z Z (IntWalk.i64_in _ (by omega)) rfl) (AE Z Z (AG ?_)))))));exact ⟨(j+1,M',(addW w (HR j)).1),⟨hjl,(hL.add hjl h3).2⟩,by show 4096 - (j+1)<4096 - j;omega,CP hF [40] rfl (rfl) ⟨rfl,rfl,trivial⟩⟩
     ·refine Gj (AF ?_);have hje:j=4096:=by have:=h50;omega
      subst hje;refine AI (AB Z Z ?_);refine F5 (GR (Da hL.rep hL.ok [122]) rfl [40] ⟨rfl,trivial⟩ Z Z Z Z (fun r H' ⟨M,e1,e2,_⟩=>by subst e1 e2;exact ⟨rfl,rfl,rfl⟩) rfl) rfl ?_;rintro _ ⟨r,H',⟨M4,e1,e2,h4⟩,rfl⟩;subst e1 e2;have hz8:addW w [122] =(w,8):=Ft (by decide) (fun hh=>by obtain ⟨i,_,e⟩:=(hL.mem _).1 hh;exact absurd (congrArg List.length e) (by rw [FQ];decide)) (by rw [hL.len];exact Nat.le_refl _);rw [hz8] at h4⊢
      first | refine J (G2 Z Z Z) ?_ | refine J (Ga Z Z Z) ?_ | refine J (GO Z Z Z) ?_ | refine J (G3 Try.underlying25 Z Z Z) ?_ | refine J (G6 Try.underlying25 Z Z Z) ?_ | refine J (G5 Try.underlying25 Z Z) ?_ | refine J (G9 Try.underlying25 Z Z) ?_ | refine J (G8 Try.underlying25 Z Z) ?_ | refine J (G4 Try.underlying25 Z Z Z) ?_ | refine J (G7 Try.underlying25 Z Z) ?_
      refine AB Z Z (Ci 74 rfl (rfl) (A4 Z Z Z (AB Z Z (A4 Z Z Z (U (Gp (L7 h4 hL.ok) rfl [40] ⟨rfl,trivial⟩ Z Z Z Z Z Z Z Z Z) ?_)))));rw [hL.len];refine A4 Z Z Z ?_
      first | refine J (G2 Z Z Z) ?_ | refine J (Ga Z Z Z) ?_ | refine J (GO Z Z Z) ?_ | refine J (G3 Try.underlying3 Z Z Z) ?_ | refine J (G6 Try.underlying3 Z Z Z) ?_ | refine J (G5 Try.underlying3 Z Z) ?_ | refine J (G9 Try.underlying3 Z Z) ?_ | refine J (G8 Try.underlying3 Z Z) ?_ | refine J (G4 Try.underlying3 Z Z Z) ?_ | refine J (G7 Try.underlying3 Z Z) ?_
      refine J (JR Z Z Z Z) (AE Z Z (AG (Bc ?_)));exact ⟨_,[],[],BX rfl,rfl,rfl,rfl,rfl⟩
theorem law1_i (z y:Int) (hz:IntKind.u8.min≤z∧z≤IntKind.u8.max) (hy:IntKind.u8.min≤y∧y≤IntKind.u8.max):Ex Try.prog 3 [.d (.raw (.int .u8 z)),.d (.raw (.int .u8 y))] (.raw (.bool true)):=by
 have h1:IntKind.u8.min=0:=rfl;have h2:IntKind.u8.max=255:=rfl;obtain ⟨n,rfl⟩:=Int.eq_ofNat_of_zero_le (show 0≤z by omega);obtain ⟨m,rfl⟩:=Int.eq_ofNat_of_zero_le (show 0≤y by omega);exact law1_p n m (by omega) (by omega)
end Go.Proofs.Ytlmedakidpaeeaa
namespace Go.Proofs.Ytlmedakidpaeeaa
open Go.ChangeShapes Go.WideShapes Go.ChangeAt Go.RowKit
set_option maxRecDepth 100000 in
theorem linkLimits_lifted (os:Os) (started:os.Started) (H:Type) (enc:TypeId×Value ->H):
  ReturnsInHanded {} Try.checked os 3 .any (Rows.linkLimitsSpec.pre6 enc Try.prog Try.f3 Rows.linkLimitsRow.domain false) (Rows.linkLimitsSpec.post enc Try.prog Try.f3 false true false false):=by
 refine returnsInHanded_of_change_sized (C:=Try.checked) Try.own started (by kernel_rfl) Try.func3
  (ChangeSpec.witness6 (enc:=enc) (C:=Try.checked) false ⟨#[], #[.int .u8 0,.int .u8 0],[]⟩ 8 (by kernel_rfl) (by kernel_rfl) (by kernel_rfl) (by kernel_rfl)) ?_
 intro W base args ds gs before hval0 hW _ hwt _;have hW':=hW;obtain ⟨p,q,hA0,hV,rfl,_,_⟩:=hW;have hlt:∀x∈p++q,x.block<W.heap.size:=fun x hx=>hW'.lt x hx;have hA:DataW.TrodAll enc Try.prog W 0 (fun _=>true) true Try.f3.params.toList args.toList ds p:=hA0;rw [Try.params3] at hA;obtain ⟨v0,v1,d0,d1,p0,p1,rfl,rfl,rfl,h0,h1⟩:=trodAll_two hA;obtain ⟨rfl,rfl⟩:=trodVars_none hV;have hwz:∀n∈DataW.weightsEach Try.prog ([5,5]:List TypeId) ([d0,d1]),n≤reachBytes:=fun n hn=>of_decide_eq_true (List.all_eq_true.1 hwt n (by rw [Try.params3];exact hn));have hval:∀(j:Nat) t v,Try.f3.params[j]?=some t ->(#[v0,v1]:Array Value)[j]?=some v ->Value.okWide Try.prog W .any base t v:=hval0;rw [Try.params3] at hval;obtain ⟨n0,g0⟩:=h0;have hv0:v0.oneCell'=true:=by obtain ⟨_,e⟩:=okWide_int Try.underlying5 (hval 0 5 v0 Z Z);rw [e];rfl
 obtain ⟨a0,q0,_,r0⟩:=(L0 Try.underlying5) _ _ _ g0 (fun x hx=>hlt x (by simp [hx])) (fun n hn=>hwz n (DataW.weights_mem_each (j:=0) (t:=5) rfl rfl n hn));obtain ⟨n1,g1⟩:=h1;have hv1:v1.oneCell'=true:=by obtain ⟨_,e⟩:=okWide_int Try.underlying5 (hval 1 5 v1 Z Z);rw [e];rfl
 obtain ⟨a1,q1,_,r1⟩:=(L0 Try.underlying5) _ _ _ g1 (fun x hx=>hlt x (by simp [hx])) (fun n hn=>hwz n (DataW.weights_mem_each (j:=1) (t:=5) rfl rfl n hn));refine (M8 (law1_i a0 a1 q0 q1) (vs:=[v0,v1]) rfl (fun i a v ha hv=>?_)).mono fun e W' ⟨he,hb⟩=>?_
 ·rcases i with _ | _ | i
  ·simp at ha hv;subst ha hv;exact K4.arg1 Z Z hv0 r0
  ·simp at ha hv;subst ha hv;exact K4.arg1 Z Z hv1 r1
  ·simp at ha
 subst he;exact ⟨_,rfl,Nr (tb:=4) Try.laidOut (by kernel_rfl) Z Z Try.underlying4 hW' ⟨rfl,rfl,rfl⟩ hb⟩
theorem linkLimits_holds:Rows.LinkLimitsSaid:=
 OpenClaim.holds_of_wide 3 Try.f3 Z Z Z Z Z Z Z ⟨rfl,rfl,rfl,rfl,rfl⟩ Z Z Z Z Z (by kernel_rfl) Try.func3 (by kernel_rfl)
  (of_decide_eq_true (by kernel_rfl)) (by unfold Func.isWrapper;first | (rw [if_pos (by decide+kernel)];kernel_rfl) | (rw [if_neg (by decide+kernel)];exact ⟨rfl,rfl⟩))
  (fun os started H enc _=>linkLimits_lifted os started H enc)
#print axioms linkLimits_holds
end Go.Proofs.Ytlmedakidpaeeaa
