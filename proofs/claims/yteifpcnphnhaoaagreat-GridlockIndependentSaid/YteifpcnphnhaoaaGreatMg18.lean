import Derived.Test.YteifpcnphnhaoaaGreatMg17
import Derived.Shelf.SlLaysF
import Derived.Shelf.SlLaysF0
import Derived.Shelf.SlLaysNS
import Derived.Test.YteifpcnphnhaoaaGreatProg
open Go.Proofs.Tryz
namespace Go.Proofs.YteifpcnphnhaoaaGreat
open Go.Shelf Go.Proofs Go.Proofs.Tryz
theorem qm {P:Program} {i:FuncId} {B:Func} (b:(((P.funcs[i]?.map Func.name).getD "")== "runtime.NumGoroutine")=false) (a:P.funcs[i]? =some {B with name:=(P.funcs[i]?.map Func.name).getD "" }):Bears P i B:=⟨_,b,a⟩
def th:Go.Shelf.Ren:=⟨λx=>match x with
 | 6=>115
 | 15=>137
 | 14=>160
 | 28=>191
 | 29=>192
 | 20=>201
 | 21=>202
 | 22=>203
 | 23=>204
 | 24=>205
 | 25=>206
 | 26=>207
 | 27=>208
 | 46=>240
 | 47=>226
 | 48=>227
 | 49=>241
 | 50=>242
 | 57=>268
 | x=>x,
 λx=>match x with
 | 22=>37
 | 24=>55
 | 25=>214
 | 3=>3
 | 39=>242
 | 0=>0
 | 53=>292
 | 55=>294
 | 4=>4
 | 46=>286
 | 45=>285
 | 50=>132
 | 5=>5
 | 9=>9
 | 66=>327
 | 70=>331
 | 76=>360
 | 77=>361
 | x=>x,λx=>x⟩
theorem nL:SlLaysF0.n6 prog th:=by
 constructor<;>first | kernel_rfl | (intro w;kernel_rfl) | exact qm (by kernel_rfl) (by kernel_rfl)
def tj:Go.Shelf.Ren:=⟨λx=>match x with
 | 6=>161
 | 15=>137
 | 14=>209
 | 28=>191
 | 29=>192
 | 20=>243
 | 21=>244
 | 22=>245
 | 23=>246
 | 24=>247
 | 25=>248
 | 26=>249
 | 27=>250
 | 46=>269
 | 47=>226
 | 48=>227
 | 49=>270
 | 50=>271
 | 57=>277
 | x=>x,
 λx=>match x with
 | 22=>215
 | 24=>218
 | 25=>267
 | 3=>3
 | 39=>242
 | 0=>0
 | 53=>292
 | 55=>294
 | 4=>4
 | 46=>286
 | 45=>285
 | 50=>132
 | 5=>5
 | 9=>9
 | 66=>327
 | 70=>331
 | 76=>360
 | 77=>361
 | x=>x,λx=>x⟩
theorem sX:SlLaysF0.n6 prog tj:=by
 constructor<;>first | kernel_rfl | (intro w;kernel_rfl) | exact qm (by kernel_rfl) (by kernel_rfl)
def rk:Go.Shelf.Ren:=⟨λx=>match x with
 | 6=>174
 | 15=>137
 | 14=>212
 | 28=>191
 | 29=>192
 | 20=>251
 | 21=>252
 | 22=>253
 | 23=>254
 | 24=>255
 | 25=>256
 | 26=>257
 | 27=>258
 | 46=>272
 | 47=>226
 | 48=>227
 | 49=>273
 | 50=>274
 | 57=>278
 | x=>x,
 λx=>match x with
 | 22=>227
 | 24=>233
 | 25=>276
 | 3=>3
 | 39=>242
 | 0=>0
 | 53=>292
 | 55=>294
 | 4=>4
 | 46=>286
 | 45=>285
 | 50=>132
 | 5=>5
 | 9=>9
 | 66=>327
 | 70=>331
 | 76=>360
 | 77=>361
 | x=>x,λx=>x⟩
theorem oi:SlLaysF0.n6 prog rk:=by
 constructor<;>first | kernel_rfl | (intro w;kernel_rfl) | exact qm (by kernel_rfl) (by kernel_rfl)
def tg:Go.Shelf.Ren:=⟨λx=>match x with
 | 53=>128
 | 64=>137
 | 63=>177
 | 78=>191
 | 79=>192
 | 70=>213
 | 71=>214
 | 72=>215
 | 73=>216
 | 74=>217
 | 75=>218
 | 59=>219
 | 76=>220
 | 77=>221
 | 88=>259
 | 89=>226
 | 90=>227
 | 91=>260
 | 92=>261
 | 68=>211
 | 96=>275
 | x=>x,
 λx=>match x with
 | 22=>28
 | 23=>3
 | 3=>3
 | 51=>242
 | 0=>0
 | 67=>292
 | 69=>294
 | 4=>4
 | 61=>286
 | 60=>285
 | 44=>132
 | 5=>5
 | 9=>9
 | 75=>327
 | 79=>331
 | 83=>360
 | 84=>361
 | x=>x,λx=>x⟩
theorem nK:SlLaysN.n53 prog tg:=by
 constructor<;>first | kernel_rfl | (intro w;kernel_rfl) | exact qm (by kernel_rfl) (by kernel_rfl)
def rf:Go.Shelf.Ren:=⟨λx=>match x with
 | 6=>141
 | 15=>137
 | 14=>195
 | 28=>191
 | 29=>192
 | 20=>231
 | 21=>232
 | 22=>233
 | 23=>234
 | 24=>235
 | 25=>236
 | 26=>237
 | 27=>238
 | 46=>265
 | 47=>226
 | 48=>227
 | 49=>266
 | 50=>267
 | 57=>276
 | x=>x,
 λx=>match x with
 | 22=>177
 | 24=>186
 | 25=>251
 | 3=>3
 | 39=>242
 | 0=>0
 | 53=>292
 | 55=>294
 | 4=>4
 | 46=>286
 | 45=>285
 | 50=>132
 | 5=>5
 | 9=>9
 | 66=>327
 | 70=>331
 | 76=>360
 | 77=>361
 | x=>x,λx=>x⟩
theorem oh:SlLaysF.n6 prog rf:=by
 constructor<;>first | kernel_rfl | (intro w;kernel_rfl) | exact qm (by kernel_rfl) (by kernel_rfl)
def rl:Go.Shelf.Ren:=⟨λx=>match x with
 | 6=>83
 | 15=>137
 | 14=>136
 | 28=>191
 | 29=>192
 | 20=>183
 | 21=>184
 | 22=>185
 | 23=>186
 | 24=>187
 | 25=>188
 | 26=>189
 | 27=>190
 | 46=>225
 | 47=>226
 | 48=>227
 | 49=>228
 | 50=>229
 | 57=>264
 | x=>x,
 λx=>match x with
 | 22=>29
 | 24=>28
 | 25=>154
 | 3=>3
 | 39=>242
 | 0=>0
 | 53=>292
 | 55=>294
 | 4=>4
 | 46=>286
 | 45=>285
 | 50=>132
 | 5=>5
 | 9=>9
 | 66=>327
 | 70=>331
 | 76=>360
 | 77=>361
 | x=>x,λx=>x⟩
theorem oj:SlLaysF.n6 prog rl:=by
 constructor<;>first | kernel_rfl | (intro w;kernel_rfl) | exact qm (by kernel_rfl) (by kernel_rfl)
end Go.Proofs.YteifpcnphnhaoaaGreat
namespace Go.Proofs.YteifpcnphnhaoaaGreat
open Go.RowKit
variable {a:Type} {c:a ->a ->Int} {i:eR} {f:List AM} {g:AM}
set_option maxRecDepth 100000
def RP (i:eR):Int:=if ∃x∈ew (fX i),¬(-Mx<=x.2/\x.2<=Mx) then 12 else 0
theorem ln {j:Nat} {v:Int} (b:(ew (fX i))[j]? =some (g,v)) (a:¬(-Mx<=v/\v<=Mx)):(12:Int)=RP i:=by
 unfold RP;rw [ϱ ⟨_,ϑ b,a⟩]
theorem qK (h:∀x∈ew (fX i),-Mx<=x.2/\x.2<=Mx):(0:Int)=RP i:=by grind [RP]
theorem ZF (i:eR) (v:qe i):AK prog 172 [.d (Af i)] (AF (RP i)):=by
 obtain ⟨M,a⟩:∃M,ew (fX i)=M:=⟨_,Z⟩
 have l:=(QO i v).by [(2,20)] rfl;rw [a] at l;refine As func172 Z Z ntmps172 Z Z Z λF r=>(AC (AE (V (Bz 1 Z Z Z Z Z Z Z) (AB Z Z (AD ?_)))));refine AC (AC (AE (J (BE Z Z Bs Z Z Z) (V (EX l Z [20] ⟨Z,trivial⟩ Z Z Z Z Z Z Z Z Z) (V (Fy 2 Z Z Z Bq Z Z Z Z) (AD (A0 (BX (α:=List Nat) (λseen=>⟨15,[(7,(.ptr 2 0 0))],[(2,[.iter 20 0 M.length seen]),(20,[BB CC AF M])]⟩) (λseen=>∀x∈M,x∈Bi M (List.range M.length) seen\/(-Mx<=x.2/\x.2<=Mx)) (λseen=>(Bi M (List.range M.length) seen).length) ([]) (λx c=> .inl (by rw [mH (by simp)];exact c)) (AY r [2,20] Z Z ⟨Z,trivial⟩) ?_))))))));intro seen o;refine AC (AE (Kn (M) Z Z Z Z (λj=>?_) (λu s y t g k w f=>⟨_,Z,?_⟩)))
 .refine J (Cf Z Z Z) ?_;refine AD (AC (D3 Z Z (BC (AC (AE (AB Z Z (AD (A4 ?_))))))));exact ⟨_,[],[],A3 Z,Z,Z,Ax (qK λx c=>by rw [a] at c;exact (o x c).elim (λh=>by rw [j] at h;cases h) id),Z⟩
 .refine J (Cf Z Z Z) ?_;refine AD (AC (DO Z Z (AZ (A0 (AC (AE (J (Fz (M) u s Z Z Z g k Z) (J (Cf Z Z Z) ?_))))))));refine AB Z Z (AD (AC (AE (dd Z Z (J (BT (G0 t (-1000000000000000) 1000000000000000) Z Z) (J (OX Z Z) (AD (Ac Z (λb=>?_) (λb=>?_)))))))))
  .refine AC (AE (AB Z Z (AD (A4 ?_))));exact ⟨_,[],[],A3 Z,Z,Z,Ax (ln (by rw [a];exact g) (by simpa [Mx] using b)),Z⟩
  .refine AZ ?_;exact ⟨seen++ [s],λx c=>(o x c).elim (λh=>(fP.1 (f.mem_iff.1 h)).elim (λe=> .inr (by rw [e];simpa [Mx] using b)) .inl) .inr,by rw [f.length_eq];exact iC _,AY r [2,20] Z (Z) ⟨Z,trivial⟩⟩
theorem RT {b:Type} {l:List b} {f:b ->Int}:Bd (l.map f)=0↔∀x∈l,f x=0:=by
 induction l with
 | nil=>simp [Bd]
 | cons a l c=>
  grind [Bd]
def R5 (i:eR):List (FuncId×Int):=[(168,Mw i),(169,Uz i),(170,UE i),(171,UA i),(172,RP i)]
def Aq (i:eR):Int:=if ¬(0<=i.id/\i.id<=1000000000)\/¬(0<=i.sq/\i.sq<=1000000000)\/¬(0<=i.pr/\i.pr<=2) then 2 else if 256<i.po.length\/256<i.pa.length\/256<i.af.length then 8 else Bd ((R5 i).map Prod.snd)
theorem Ux (h:Mw i=0):∀p∈i.po,-Mx<=p.d/\p.d<=Mx:=λp a=>by
 have:=RT.1 h p a;unfold SW at this
 split at this; · cases this
 split at this; · cases this
 split at this; · cases this
 rename_i h;exact Decidable.of_not_not h
theorem nC (h:Uz i=0):∀p∈i.pa,0<=p.n/\p.n<=Mx:=λp a=>by
 have:=RT.1 h p a;unfold Rf at this
 split at this; · cases this
 split at this; · cases this
 split at this; · cases this
 rename_i h;exact Decidable.of_not_not h
theorem sj (i:eR) (b:i.po.length<=256) (g:i.pa.length<=256) (f:i.af.length<=256) {k:Nat} (c:k<(R5 i).length) (a:∀j,j<k ->((R5 i)[j]?).map Prod.snd=some 0):AK prog (R5 i)[k].1 [.d (Af i)] (AF (R5 i)[k].2):=by
 match k,c with
 | 0,_=>exact Uw i (by omega)
 | 1,_=>exact Uy i (by omega)
 | 2,_=>exact ly i (by omega)
 | 3,_=>exact Vf i b (Ux (by have:=a 0 (by omega);simpa [R5] using this))
 | 4,_=>exact ZF i ⟨b,g,f,Ux (by have:=a 0 (by omega);simpa [R5] using this),nC (by have:=a 1 (by omega);simpa [R5] using this)⟩
def uh (i:eR) (p:FuncId×Int):D:= .fn p.1 [Af i] []
theorem KO (i:eR) (B:i.po.length<=140737488355328) (A:i.pa.length<=140737488355328) (z:i.af.length<=140737488355328):AK prog 123 [.d (Af i)] (AF (Aq i)):=by
 refine As func123 Z Z ntmps123 Z Z Z λF u=>(AC (AE (V (Bz 1 Z Z Z Z Z Z Z) (AB Z Z (AD (AC ?_))))));refine A0 (AC (AE (J (AU Z OY Z Z Z) (J (A2 Z Z Z Aw Z) (J (BT (H4 _ _ _) Z Z) (J (OX Z Z) (dd Z Z (Ij 11 Z (λt=>?_) (λt=>?_)))))))))
 .refine A9 Z Z Z Z ?_;refine A9 Z Z Z Z (A9 Z Z Z Z (A9 Z Z Z Z (J (Ff Z Z Z Z) (dd Z Z (A9 Z Z Z Z (A9 Z Z Z Z (A9 Z Z Z Z (A9 Z Z Z Z ?_))))))));refine J (Ff Z Z Z Z) (AB Z Z (AD (DO Z Z (AC (AE (AB Z Z (AD (A4 ?_))))))));exact ⟨_,[],[],A3 Z,Z,Z,Ax (by unfold Aq;rw [ϱ (by omega)]),Z⟩
 .refine Ad Z Z Z (J (AU Z Nv Z Z Z) ?_);refine Ad Z Z Z (J (A2 Z Z Z Aw Z) (Ad Z Z Z (J (BT (H4 _ _ _) Z Z) (Ad Z Z Z (J (OX Z Z) (J (EA Z Z Z Z) (dd Z Z (Ij 17 Z (λs=>?_) (λs=>?_)))))))))
  .refine A9 Z Z Z Z (A9 Z Z Z Z (A9 Z Z Z Z (A9 Z Z Z Z ?_)));refine J (Ff Z Z Z Z) (AB Z Z (AD (DO Z Z (AC (AE (AB Z Z (AD (A4 ?_))))))));exact ⟨_,[],[],A3 Z,Z,Z,Ax (by unfold Aq;rw [ϱ (by omega)]),Z⟩
  .refine Ad Z Z Z (J (AU Z V1 Z Z Z) (Ad Z Z Z ?_));refine J (A2 Z Z Z Aw Z) (Ad Z Z Z (J (BT (H4 _ _ _) Z Z) (Ad Z Z Z (J (OX Z Z) (J (EA Z Z Z Z) (AB Z Z (AD (Ac Z (λy=>?_) (λy=>?_)))))))))
   .refine AC (AE (AB Z Z (AD (A4 ?_))));exact ⟨_,[],[],A3 Z,Z,Z,Ax (by unfold Aq;rw [ϱ (by omega)]),Z⟩
   .refine AC (AE (J (AU Z Fn Z Z Z) (J (A2 Z Z Z VC Z) (J (CB Z T1 Z) (J (Ot Z Z Z) (dd Z Z (Ij 28 Z (λo=>?_) (λo=>?_))))))))
    .refine A9 Z Z Z Z ?_;refine A9 Z Z Z Z (A9 Z Z Z Z (A9 Z Z Z Z (J (Ff Z Z Z Z) (dd Z Z (A9 Z Z Z Z (A9 Z Z Z Z (A9 Z Z Z Z (A9 Z Z Z Z ?_))))))));refine J (Ff Z Z Z Z) (AB Z Z (AD (DO Z Z (AC (AE (AB Z Z (AD (A4 ?_))))))));exact ⟨_,[],[],A3 Z,Z,Z,Ax (by unfold Aq;rw [θ (by omega),ϱ (by omega)]),Z⟩
    .refine Ad Z Z Z (J (AU Z Gu Z Z Z) ?_);refine Ad Z Z Z (J (A2 Z Z Z YN Z) (Ad Z Z Z (J (CB Z ch Z) (Ad Z Z Z (J (Ot Z Z Z) (J (EA Z Z Z Z) (dd Z Z (Ij 34 Z (λl=>?_) (λl=>?_)))))))))
     .refine A9 Z Z Z Z (A9 Z Z Z Z (A9 Z Z Z Z (A9 Z Z Z Z ?_)));refine J (Ff Z Z Z Z) (AB Z Z (AD (DO Z Z (AC (AE (AB Z Z (AD (A4 ?_))))))));exact ⟨_,[],[],A3 Z,Z,Z,Ax (by unfold Aq;rw [θ (by omega),ϱ (by omega)]),Z⟩
     .refine Ad Z Z Z (J (AU Z Do Z Z Z) (Ad Z Z Z ?_));refine J (A2 Z Z Z BG Z) (Ad Z Z Z (J (CB Z E0 Z) (Ad Z Z Z (J (Ot Z Z Z) (J (EA Z Z Z Z) (AB Z Z (AD (Ac Z (λr=>?_) (λr=>?_)))))))))
      .refine AC (AE (AB Z Z (AD (A4 ?_))));exact ⟨_,[],[],A3 Z,Z,Z,Ax (by unfold Aq;rw [θ (by omega),ϱ (by omega)]),Z⟩
      .refine AZ (AC ?_);refine AC (AE (J (BE Z Z Bs Z Z Z) (J (RW (ds:=[Af i]) (es:=[]) Z Z Z Z Z) (J (BE Z Z Bs Z Z Z) (J (RW (ds:=[Af i]) (es:=[]) Z Z Z Z Z) (J (BE Z Z Bs Z Z Z) (J (RW (ds:=[Af i]) (es:=[]) Z Z Z Z Z) (J (BE Z Z Bs Z Z Z) ?_))))))));refine J (RW (ds:=[Af i]) (es:=[]) Z Z Z Z Z) (J (BE Z Z Bs Z Z Z) (J (RW (ds:=[Af i]) (es:=[]) Z Z Z Z Z) (V (D6 2 rU Z Z Z Z Z Z Z Z) (J (QD Z underlying273 Z) (dd Z Z (AD (A0 (BX (α:=Nat) (λk=>⟨62,[(50,(.own 2 0 5)),(51,(.d (AF 5))),(52,(.d (AF (k:Int))))],[(2,[.rowD 146 1 ((R5 i).map (uh i))])]⟩) (λk=>k<=5/\Bd ((R5 i).map Prod.snd)=Bd (((R5 i).drop k).map Prod.snd)/\∀j,j<k ->((R5 i)[j]?).map Prod.snd=some 0) (λk=>5 - k) (0) (⟨υ _,Z,λj h=>absurd h (Nat.not_lt_zero j)⟩) (AY u [2] Z Z ⟨Z,Z,Z,trivial⟩) ?_))))))));rintro k ⟨w,g,f⟩;refine AC (AE (J (BN Z Z Z) (AD (AC (Ac Z (λc=>?_) (λc=>?_))))))
       .have a:k<(R5 i).length:=by show k<5;have h:=c;omega
        refine AZ (AC (A0 (AC (AE ?_))));have v:=Dm a g;refine J (Ce (k) Z Z (Z) (by show k<5;exact a) Z underlying273 rR Z) (J (D1 Z Z (Ab a) Z sK Z) (AB Z Z (AD (AC (AE (dd Z Z ?_))))));refine J (K6 (sj i (by omega) (by omega) (by omega) a f) Z Z) (AB Z Z (AD (AC (AE (dd Z Z (J (D7 Z Z Z) (AD (Ac Z (λb=>?_) (λb=>?_)))))))))
        .refine AC (AE (dd Z Z (AB Z Z (AD (A4 ?_)))));exact ⟨_,[],[],A3 Z,Z,Z,Ax (by unfold Aq;rw [θ (by omega),θ (by omega)];exact v.2 _ Z (by simpa using b)),Z⟩
        .refine AZ (AE (J (Ar Z Z (AO (k+1) (by omega)) Z) (dd Z Z (AD ?_))));exact ⟨k+1,⟨by show k+1<=_;omega,v.1 (by simpa using b),λj x=>(Nat.lt_succ_iff_lt_or_eq.1 x).elim (f j) λh=>by subst h;rw [ω a];show some _=_;congr 1;simpa using b⟩,by show 5 - (k+1)<5 - k;omega,AY u [2] Z (Z) ⟨Z,Z,Z,trivial⟩⟩
       .refine BC (AC (AE (AB Z Z (AD (A4 ?_)))));exact ⟨_,[],[],A3 Z,Z,Z,Ax (by unfold Aq;rw [θ (by omega),θ (by omega),g,GM (by have h:=c;show ¬k<5;omega)]),Z⟩
theorem sI (l:List Int) (j:l.length<=140737488355328):AK prog 165 [.d (.sl none (l.map AF))] (AF (Bd l)):=by
 refine As func165 Z Z ntmps165 Z Z Z λF o=>(AC (AE (AB Z Z (AD (AC (AE (AB Z Z (AD ?_))))))));refine AC (AC (AE (dd Z Z (J (CB Z E0 Z) (dd Z Z (AD (A0 (HD (α:=Nat) (λk=>⟨18,[(3,(.d (AF 0))),(6,(.d (.sl none (l.map AF)))),(7,(.d (AF (l.length:Int)))),(8,(.d (AF (k:Int))))],[]⟩) (λk=>k<=l.length/\Bd (l.map id)=Bd ((l.drop k).map id)) (λk=>l.length - k) (0) (⟨υ _,Z⟩) (eF ⟨Z,Z,Z,Z,trivial⟩) ?_))))))));rintro k ⟨i,c⟩;refine AC (AE (J (BN Z Z Z) (AD (AC (Ac Z (λf=>?_) (λf=>?_))))))
 .have b:k<l.length:=Ba f;refine AZ (AC (A0 (AC (AE ?_))));have g:=Dm b c;refine J (Bh (k) Z Z (Z) (Ab b) E0 Z BU Z) (J (D2 Z Z Aw Z) ?_);refine AB Z Z (AD (AC (AE (dd Z Z (dd Z Z (J (D7 Z Z Z) (AD (Ac Z (λa=>?_) (λa=>?_)))))))))
  .refine AC (AE (dd Z Z (AB Z Z (AD (A4 ?_)))));exact ⟨_,[],[],A3 Z,Z,Z,Ax ((g.2 l[k] Z (by simpa using a)).trans (by rw [List.map_id])),Z⟩
  .refine AZ (AE (J (Ar Z Z (AO (k+1) (by omega)) Z) (dd Z Z (AD ?_))));exact ⟨k+1,⟨by show k+1<=_;omega,g.1 (by simpa using a)⟩,by show l.length - (k+1)<l.length - k;omega,⟨Z,Z,λ_ _=>R8.get (l:=[(3,_),(6,_),(7,_),(8,_)]) ⟨Z,Z,Z,Z,trivial⟩⟩⟩
 .refine BC (AC (AE (dd Z Z (AB Z Z (AD (A4 ?_))))));exact ⟨_,[],[],A3 Z,Z,Z,Ax (by rw [List.map_id] at c;rw [c,GM (by have h:=f;omega)]),Z⟩
def Bc (a b:AM):Int:=Bd [FV a.k b.k,HU a.acc.o b.acc.o,FV a.acc.k b.acc.k,HU a.acc.a b.acc.a,HU a.f b.f,HU a.t b.t]
def Gc (a b:eR):Int:=Bd [FV b.pr a.pr,FV a.sq b.sq]
set_option maxHeartbeats 2000000 in
theorem LL (a b:AM):AK prog 143 [.d (CC a),.d (CC b)] (AF (Bc a b)):=by
 refine As func143 Z Z ntmps143 Z Z Z λF c=>(AC (AE (V (Bz 1 Z Z Z Z Z Z Z) ?_)));refine V (Bz 2 Z Z Z Z Z Z Z) (AB Z Z (AD (AC (DB [[],[0],[],[2],[0,1,2,3],[],[5],[5,6],[],[8],[8,9],rg 11,[],[12],[12,13],[],[15],[15,16],rg 18,[],[19],[19,20],[],[22],[22,23],rg 25,[],[26],[],[28],rg 30,[],[31],[],[33],rg 35,rg 36,rg 37,rg 38] mixed Z (DP (AQ [2] Z (AU Z VZ Z Z Z) (Az [5] Z Z (λ_=>A5 (A2 Z Z Z Aw Z)) (AQ [3] Z (AU Z VZ Z Z Z) ?_))))))));refine Az [7] Z Z (λ_=>A5 (A2 Z Z Z Aw Z)) (AQ [6,8] Z (BT (RL a.k b.k) Z Z) (AQ [2] Z (AU Z EV Z Z Z) (AQ [10] Z (AU Z Qq Z Z Z) (Az [11] Z Z (λ_=>A5 (A2 Z Z Z IN Z)) (AQ [3] Z (AU Z EV Z Z Z) (AQ [13] Z (AU Z Qq Z Z Z) (Az [14] Z Z (λ_=>A5 (A2 Z Z Z IN Z)) (AQ [12,15] Z (BT (RK a.acc.o b.acc.o) Z Z) ?_))))))));refine AQ [2] Z (AU Z EV Z Z Z) (AQ [17] Z (AU Z Nu Z Z Z) (Az [18] Z Z (λ_=>A5 (A2 Z Z Z Aw Z)) (AQ [3] Z (AU Z EV Z Z Z) (AQ [20] Z (AU Z Nu Z Z Z) (Az [21] Z Z (λ_=>A5 (A2 Z Z Z Aw Z)) (AQ [19,22] Z (BT (RL a.acc.k b.acc.k) Z Z) (AQ [2] Z (AU Z EV Z Z Z) (AQ [24] Z (AU Z Nt Z Z Z) ?_))))))));refine Az [25] Z Z (λ_=>A5 (A2 Z Z Z IN Z)) (AQ [3] Z (AU Z EV Z Z Z) (AQ [27] Z (AU Z Nt Z Z Z) (Az [28] Z Z (λ_=>A5 (A2 Z Z Z IN Z)) (AQ [26,29] Z (BT (RK a.acc.a b.acc.a) Z Z) (AQ [2] Z (AU Z LE Z Z Z) (Az [31] Z Z (λ_=>A5 (A2 Z Z Z IN Z)) (AQ [3] Z (AU Z LE Z Z Z) (Az [33] Z Z (λ_=>A5 (A2 Z Z Z IN Z)) ?_))))))));refine AQ [32,34] Z (BT (RK a.f b.f) Z Z) (AQ [2] Z (AU Z LD Z Z Z) (Az [36] Z Z (λ_=>A5 (A2 Z Z Z IN Z)) (AQ [3] Z (AU Z LD Z Z Z) (Az [38] Z Z (λ_=>A5 (A2 Z Z Z IN Z)) (Cg 35 Z Z Z (Ag 36 Z Z (J (BT (RK a.t b.t) Z Z) (AD ⟨Z,?_⟩))))))));refine Ag 37 Z Z (V (D6 3 BV Z Z Z Z Z Z Z Z) (AD ⟨Z,?_⟩));refine Ag 38 Z Z (J (IG [3] (sI [FV a.k b.k,HU a.acc.o b.acc.o,FV a.acc.k b.acc.k,HU a.acc.a b.acc.a,HU a.f b.f,HU a.t b.t] (by simp)) (by exact ⟨.inr ⟨_,_,Z,.own Z Z (by simp) (ς (by simp)),Z⟩,trivial⟩) Z Z) (AD ⟨Z,?_⟩));refine Ag 39 Z Z (AB Z Z (AD ⟨Z,?_⟩));refine Cr (A4 ?_);exact ⟨_,[],[],A3 Z,Z,Z,Z,Z⟩
theorem WU (a b:eR):AK prog 122 [.d (Af a),.d (Af b)] (AF (Gc a b)):=by
 refine As func122 Z Z ntmps122 Z Z Z λF c=>(AC (AE (V (Bz 1 Z Z Z Z Z Z Z) (V (Bz 2 Z Z Z Z Z Z Z) ?_))));refine AB Z Z (AD (AC (DB [[],[0],[],[2],[0,1,2,3],[],[5],[],[7],rg 9,rg 10,rg 11,rg 12] mixed Z (DP (AQ [3] Z (AU Z V1 Z Z Z) (Az [5] Z Z (λ_=>A5 (A2 Z Z Z Aw Z)) (AQ [2] Z (AU Z V1 Z Z Z) (Az [7] Z Z (λ_=>A5 (A2 Z Z Z Aw Z)) ?_))))))));refine AQ [6,8] Z (BT (RL b.pr a.pr) Z Z) (AQ [2] Z (AU Z Nv Z Z Z) (Az [10] Z Z (λ_=>A5 (A2 Z Z Z Aw Z)) (AQ [3] Z (AU Z Nv Z Z Z) (Az [12] Z Z (λ_=>A5 (A2 Z Z Z Aw Z)) (Cg 9 Z Z Z (Ag 10 Z Z (J (BT (RL a.sq b.sq) Z Z) (AD ⟨Z,?_⟩))))))));refine Ag 11 Z Z (V (D6 3 BV Z Z Z Z Z Z Z Z) (AD ⟨Z,?_⟩));refine Ag 12 Z Z (J (IG [3] (sI [FV b.pr a.pr,FV a.sq b.sq] (by simp)) (by exact ⟨.inr ⟨_,_,Z,.own Z Z (by simp) (ς (by simp)),Z⟩,trivial⟩) Z Z) (AD ⟨Z,?_⟩));refine Ag 13 Z Z (AB Z Z (AD ⟨Z,?_⟩));refine Cr (A4 ?_);exact ⟨_,[],[],A3 Z,Z,Z,Z,Z⟩
theorem dl (a b:eR):AK prog 117 [.d (Af a),.d (Af b)] (.raw (.bool (decide (Gc a b<0)))):=by
 refine As func117 Z Z ntmps117 Z Z Z λF c=>(AC (AE (V (Bz 1 Z Z Z Z Z Z Z) (V (Bz 2 Z Z Z Z Z Z Z) (AB Z Z (AD ?_))))));refine AC (AE (J (BE Z Z Bs Z Z Z) (J (BE Z Z Bs Z Z Z) (J (BT (WU a b) Z Z) (J (BN Z Z Z) (AB Z Z (AD (A4 ?_))))))));exact ⟨_,[],[],A3 Z,Z,Z,Z,Z⟩
def Oj (x:AM×Int):D:= .agg [AF x.1.k,Aj x.1.acc.o,AF x.1.acc.k,Aj x.1.acc.a,Aj x.1.f,Aj x.1.t,AF x.2]
theorem Yr (a b:AM×Int):AK prog 162 [.d (Oj a),.d (Oj b)] (AF (Bc a.1 b.1)):=by
 refine As func162 Z Z ntmps162 Z Z Z λF c=>(AC (AE (V (Bz 1 Z Z Z Z Z Z Z) (V (Bz 2 Z Z Z Z Z Z Z) (AB Z Z (AD (AC ?_)))))));refine AE (J (AU Z Jw Z Z Z) (J (BE Z Z CQ Z Z Z) (J (AU Z Jw Z Z Z) (J (BE Z Z CQ Z Z Z) (J (BT (LL a.1 b.1) Z Z) (AB Z Z (AD (A4 ?_))))))));exact ⟨_,[],[],A3 Z,Z,Z,Z,Z⟩
theorem Ku:∀a b c:List UInt8,Qb a b=true ->Qb b c=true ->Qb a c=true
 | [],[],_,h,_=>by simp [Qb,Op.bytesLess] at h
 | [],_::_,[],_,h=>by simp [Qb,Op.bytesLess] at h
 | [],_::_,_::_,_,_=>by simp [Qb,Op.bytesLess]
 | _::_,[],_,h,_=>by simp [Qb,Op.bytesLess] at h
 | _::_,_::_,[],_,h=>by simp [Qb,Op.bytesLess] at h
 | a::x,b::y,c::z,g,f=>by
  simp only [Qb,Op.bytesLess,Bool.or_eq_true,gR,fV,beq_iff_eq] at g f⊢;rcases g with g | ⟨rfl,g⟩<;>rcases f with f | ⟨rfl,f⟩
  .exact .inl (UInt8.lt_trans g f)
  .exact .inl g
  .exact .inl f
  .exact .inr ⟨Z,Ku x y z g f⟩
theorem VK (a:List UInt8):Qb a a=false:=by grind [IR,Qb]
structure PC {γ:Type} (c:γ ->γ ->Int):Prop where
 anti:∀x y,c y x= - c x y
 trans:∀x y z,c x y<0 ->c y z<0 ->c x z<0
 eqv:∀x y z,c x y=0 ->c x z=c y z
theorem gQ:PC FV:=⟨λx y=>by unfold FV;split<;>split<;>first | omega | rfl,λx y z=>by unfold FV;split<;>split<;>(try split)<;>(try split)<;>(try split)<;>(try split)<;>first | omega | simp,λx y z h=>by
 have:x=y:=by
  unfold FV at h;split at h; · cases h
  split at h; · cases h
  omega
 rw [this]⟩
theorem Pw {a b:List UInt8}:HU a b=0↔a=b:=by grind [HU,IR,Qb]
theorem OL {a b:List UInt8}:HU a b<0↔Qb a b=true:=by grind [HU]
theorem gP:PC HU:=⟨λx y=>by
 unfold HU
 by_cases b:Qb x y=true
 .have a:¬Qb y x=true:=λa=>by have:=Ku x y x b a;rw [VK] at this;cases this
  rw [θ a,ϱ b,ϱ b];rfl
 .by_cases a:Qb y x=true
  .rw [ϱ a,θ b,ϱ a]
  .rw [θ a,θ b,θ b,θ a];rfl,λx y z b a=>OL.2 (Ku x y z (OL.1 b) (OL.1 a)),λx y z h=>by rw [Pw.1 h]⟩
theorem PC.comap {b:Type} (h:PC c) (f:b ->a):PC λx y=>c (f x) (f y):=⟨λ_ _=>h.anti _ _,λ_ _ _=>h.trans _ _ _,λ_ _ _=>h.eqv _ _ _⟩
theorem PC.rev (h:PC c):PC λx y=>c y x:=⟨λx y=>h.anti y x,λx y z b f=>h.trans _ _ _ f b,λx y z b=>by
 have e:c x y=0:=by have:=h.anti y x;omega
 have:=h.eqv x y z e
 rw [h.anti x z,h.anti y z,this]⟩
theorem PC.zero:PC λ_ _:a=>(0:Int):=⟨λ_ _=>rfl,λ_ _ _ h=>by omega,λ_ _ _ _=>rfl⟩
theorem PC.lex {r:a ->a ->List Int} (h:PC c) (k:PC λx y=>Bd (r x y)):PC λx y=>Bd (c x y::r x y):=by
 have l:∀x y,c x y=0↔c y x=0:=λx y=>by have:=h.anti x y;omega
 refine ⟨λx y=>?_,λx y z=>?_,λx y z=>?_⟩
 .simp only [Bd]
  by_cases e:c x y=0
  .rw [ϱ e,ϱ ((l x y).1 e)];exact k.anti x y
  .rw [θ e,θ (λo=>e ((l x y).2 o))];exact h.anti x y
 .simp only [Bd];intro b g
  by_cases f:c x y=0<;>by_cases i:c y z=0
  .have j:c x z=0:=by rw [h.eqv x y z f];exact i
   rw [ϱ f] at b;rw [ϱ i] at g;rw [ϱ j];exact k.trans x y z b g
  .rw [θ i] at g;have j:c x z=c y z:=h.eqv x y z f;omega
  .rw [θ f] at b;have j:c z x=c y x:=(h.eqv y z x i).symm;have s:c x z=c x y:=by rw [h.anti z x,h.anti y x,j]
   omega
  .rw [θ f] at b;rw [θ i] at g;have:=h.trans x y z b g;omega
 .simp only [Bd];intro b
  have f:c x y=0:=by
   omega
  rw [ϱ f] at b;rw [h.eqv x y z f];rw [k.eqv x y z b]
theorem PC.last:PC λx y:a=>Bd ((λ_ _:a=>([]:List Int)) x y):=PC.zero
theorem MV:PC Bc:=
 PC.lex (gQ.comap AM.k)<| PC.lex (gP.comap λr:AM=>r.acc.o)<| PC.lex (gQ.comap λr:AM=>r.acc.k)<| PC.lex (gP.comap λr:AM=>r.acc.a)<| PC.lex (gP.comap AM.f)<| PC.lex (gP.comap AM.t) PC.last
theorem C1:PC Gc:=PC.lex (gQ.comap eR.pr).rev<| PC.lex (gQ.comap eR.sq) PC.last
theorem PC.refl (h:PC c) (x:a):c x x=0:=by have:=h.anti x x;omega
theorem PC.swo (h:PC c):Go.Sort.SWO (ltOf c):=by
 refine ⟨λx=>?_,λx y z f b=>?_,λx y z f b=>?_⟩
 .simp [ltOf,h.refl]
 .simp only [ltOf,gR] at*;exact h.trans x y z f b
 .simp only [ltOf,decide_eq_false_iff_not] at*;have k:=h.anti x y;have j:=h.anti y z;have i:=h.anti x z
  by_cases e:c x y=0
  .rw [h.eqv x y z e];exact b
  .by_cases g:c y z=0
   .have:=h.eqv y z x g;omega
   .have:=h.trans z y x (by omega) (by omega);omega
theorem Px {a b:Int}:FV a b=0↔a=b:=by grind [FV]
theorem DK {a b:AM}:Bc a b=0↔a=b:=by grind [Bc,Bd,AM.eq_iff,US.eq_iff,Px,Pw]
theorem mP {k:Type} {R:k ->k ->Prop} (c:∀x,¬R x x) (o:∀x y z,R x y ->R y z ->R x z):∀{l m:List k},l.Pairwise R ->m.Pairwise R ->(∀x,x∈l↔x∈m) ->l=m
 | [],[],_,_,_=>rfl
 | [],b::m,_,_,h=>by have:=(h b).2 (by simp);cases this
 | a::l,[],_,_,h=>by have:=(h a).1 (by simp);cases this
 | a::l,b::m,j,i,h=>by
  rw [iK] at j i
  have e:a=b:=by
   rcases fP.1 ((h a).1 (by simp)) with e | g
   .exact e
   .rcases fP.1 ((h b).2 (by simp)) with e | r
    .exact e.symm
    .exact absurd (o _ _ _ (j.1 b r) (i.1 a g)) (c a)
  subst e
  congr 1
  refine mP c o j.2 i.2 λx=>⟨λf=>?_,λf=>?_⟩
  .rcases fP.1 ((h x).1 (by simp [f])) with e | g
   .subst e;exact absurd (j.1 x f) (c x)
   .exact g
  .rcases fP.1 ((h x).2 (by simp [f])) with e | g
   .subst e;exact absurd (i.1 x f) (c x)
   .exact g
abbrev UH:US:=⟨[],0,[]⟩
def Cb (r:AM):Int:=
 if r.k=0 then (if r.acc.o≠ []/\r.acc.a≠ []/\0<=r.acc.k/\r.acc.k<5/\r.f=[]/\r.t=[] then 0 else 3)
 else if r.k=1 then (if r.f≠ []/\r.t≠ []/\r.f≠r.t/\r.acc=UH then 0 else 3)
 else if r.k=2 then (if r.f≠ []/\r.t=[]/\r.acc=UH then 0 else 3) else 11
theorem Vp (r:AM):AK prog 124 [.d (CC r)] (AF (Cb r)):=by
 refine As func124 Z Z ntmps124 Z Z Z λF v=>(AC (AE (V (Bz 1 Z Z Z Z Z Z Z) (AB Z Z ?_))));refine AD (AC (AE (AB Z Z (AD (AC (AC (AE (J (AU Z VZ Z Z Z) ?_))))))));refine J (A2 Z Z Z Aw Z) (AD (A0 (AC (AE (J (Li Z Z Z) (AB Z Z (AD (Ac Z (λu=>?_) (λu=>?_)))))))));refine AE (J (AU Z EV Z Z Z) (J (AU Z Qq Z Z Z) (J (A2 Z Z Z IN Z) (J (Ew Z Z Z) (dd Z Z (Ij 12 Z (λt=>?_) (λt=>?_)))))));refine Ad Z Z Z (J (AU Z EV Z Z Z) ?_);refine Ad Z Z Z (J (AU Z Nt Z Z Z) (Ad Z Z Z (J (A2 Z Z Z IN Z) (Ad Z Z Z (J (Ew Z Z Z) (J (Ff Z Z Z Z) (dd Z Z (Ij 18 Z (λs=>?_) (λs=>?_)))))))));refine Ad Z Z Z (J (AU Z EV Z Z Z) ?_);refine Ad Z Z Z (J (AU Z Nu Z Z Z) (Ad Z Z Z (J (A2 Z Z Z Aw Z) (Ad Z Z Z (J (ES Z Z Z) (J (Ff Z Z Z Z) (dd Z Z (Ij 24 Z (λo=>?_) (λo=>?_)))))))));refine Ad Z Z Z (J (AU Z EV Z Z Z) ?_);refine Ad Z Z Z (J (AU Z Nu Z Z Z) (Ad Z Z Z (J (A2 Z Z Z Aw Z) (Ad Z Z Z (J (BN Z Z Z) (J (Ff Z Z Z Z) (dd Z Z (Ij 30 Z (λl=>?_) (λl=>?_)))))))));refine Ad Z Z Z (J (AU Z LE Z Z Z) (Ad Z Z Z (J (A2 Z Z Z IN Z) (Ad Z Z Z (J (ED Z Z Z) (J (Ff Z Z Z Z) (dd Z Z (Ij 35 Z (λk=>?_) (λk=>?_)))))))));refine Ad Z Z Z (J (AU Z LD Z Z Z) (Ad Z Z Z (J (A2 Z Z Z IN Z) (Ad Z Z Z (J (ED Z Z Z) (J (Ff Z Z Z Z) ?_))))));refine AB Z Z (AD (AC (AC (AE (dd Z Z (J (OX Z Z) (AD (Ac Z (λa=>?_) (λa=>?_)))))))))
 rotate_left
 refine AZ ?_
 rotate_left
 refine A9 Z Z Z Z (A9 Z Z Z Z (A9 Z Z Z Z (J (EA Z Z Z Z) ?_)));refine AB Z Z (AD (AC (AC (AE (dd Z Z (J (Dv Z Z) (AD (DO Z Z ?_))))))))
 rotate_left
 refine A9 Z Z Z Z (A9 Z Z Z Z (A9 Z Z Z Z (J (EA Z Z Z Z) (dd Z Z (A9 Z Z Z Z (A9 Z Z Z Z (A9 Z Z Z Z (J (EA Z Z Z Z) ?_))))))));refine AB Z Z (AD (AC (AC (AE (dd Z Z (J (Dv Z Z) (AD (DO Z Z ?_))))))))
 rotate_left
 refine A9 Z Z Z Z (A9 Z Z Z Z (A9 Z Z Z Z (A9 Z Z Z Z (J (EA Z Z Z Z) (dd Z Z ?_)))));refine A9 Z Z Z Z (A9 Z Z Z Z (A9 Z Z Z Z (J (EA Z Z Z Z) (dd Z Z (A9 Z Z Z Z (A9 Z Z Z Z (A9 Z Z Z Z (J (EA Z Z Z Z) ?_))))))));refine AB Z Z (AD (AC (AC (AE (dd Z Z (J (Dv Z Z) (AD (DO Z Z ?_))))))))
 rotate_left
 refine A9 Z Z Z Z (A9 Z Z Z Z (A9 Z Z Z Z ?_));refine A9 Z Z Z Z (J (EA Z Z Z Z) (dd Z Z (A9 Z Z Z Z (A9 Z Z Z Z (A9 Z Z Z Z (A9 Z Z Z Z (J (EA Z Z Z Z) (dd Z Z ?_))))))));refine A9 Z Z Z Z (A9 Z Z Z Z (A9 Z Z Z Z (J (EA Z Z Z Z) (dd Z Z (A9 Z Z Z Z (A9 Z Z Z Z (A9 Z Z Z Z (J (EA Z Z Z Z) ?_))))))));refine AB Z Z (AD (AC (AC (AE (dd Z Z (J (Dv Z Z) (AD (DO Z Z ?_))))))))
 rotate_left
 refine A9 Z Z Z Z (A9 Z Z Z Z (A9 Z Z Z Z (A9 Z Z Z Z (J (EA Z Z Z Z) (dd Z Z (A9 Z Z Z Z (A9 Z Z Z Z (A9 Z Z Z Z ?_))))))));refine A9 Z Z Z Z (J (EA Z Z Z Z) (dd Z Z (A9 Z Z Z Z (A9 Z Z Z Z (A9 Z Z Z Z (A9 Z Z Z Z (J (EA Z Z Z Z) (dd Z Z ?_))))))));refine A9 Z Z Z Z (A9 Z Z Z Z (A9 Z Z Z Z (J (EA Z Z Z Z) (dd Z Z (A9 Z Z Z Z (A9 Z Z Z Z (A9 Z Z Z Z (J (EA Z Z Z Z) ?_))))))));refine AB Z Z (AD (AC (AC (AE (dd Z Z (J (Dv Z Z) (AD (DO Z Z ?_))))))))
 rotate_left
 refine AC (AE (J (Li Z Z Z) (AB Z Z (AD (Ac Z (λj=>?_) (λj=>?_))))));refine AE (J (AU Z LE Z Z Z) (J (A2 Z Z Z IN Z) (J (Ew Z Z Z) (dd Z Z (Ij 45 Z (λi=>?_) (λi=>?_))))));refine Ad Z Z Z (J (AU Z LD Z Z Z) (Ad Z Z Z (J (A2 Z Z Z IN Z) (Ad Z Z Z (J (Ew Z Z Z) (J (Ff Z Z Z Z) (dd Z Z (Ij 50 Z (λh=>?_) (λh=>?_)))))))));refine Ad Z Z Z (J (AU Z LE Z Z Z) (Ad Z Z Z (J (A2 Z Z Z IN Z) ?_)));refine Ad Z Z Z (J (AU Z LD Z Z Z) (Ad Z Z Z (J (A2 Z Z Z IN Z) (Ad Z Z Z (J (Ew Z Z Z) (J (Ff Z Z Z Z) (dd Z Z (Ij 57 Z (λg=>?_) (λg=>?_)))))))));refine Ad Z Z Z (J (AU Z EV Z Z Z) (Ad Z Z Z (J (BE Z Z oE Z Z Z) (Ad Z Z Z (J (Fe ZX bH Z Z Z) (Ad Z Z Z (J (SC (la:=UJ r.acc) (lb:=UJ UH) (ds:=qU) (by kernel_rfl) (by kernel_rfl) (by kernel_rfl) Z Z Z Z (I4 _) (I4 _) (XN _ _) Z) (J (Ff Z Z Z Z) ?_))))))));refine AB Z Z (AD (AC (AC (AE (dd Z Z (J (OX Z Z) (AD (Ac Z (λa=>?_) (λa=>?_)))))))))
 rotate_left
 refine AZ ?_
 rotate_left
 refine A9 Z Z Z Z (A9 Z Z Z Z (A9 Z Z Z Z (A9 Z Z Z Z (J (EA Z Z Z Z) ?_))));refine AB Z Z (AD (AC (AC (AE (dd Z Z (J (Dv Z Z) (AD (DO Z Z ?_))))))))
 rotate_left
 refine A9 Z Z Z Z (A9 Z Z Z Z (A9 Z Z Z Z ?_));refine A9 Z Z Z Z (A9 Z Z Z Z (J (EA Z Z Z Z) (dd Z Z (A9 Z Z Z Z (A9 Z Z Z Z (A9 Z Z Z Z (A9 Z Z Z Z (J (EA Z Z Z Z) ?_))))))));refine AB Z Z (AD (AC (AC (AE (dd Z Z (J (Dv Z Z) (AD (DO Z Z ?_))))))))
 rotate_left
 refine A9 Z Z Z Z (A9 Z Z Z Z (A9 Z Z Z Z (J (EA Z Z Z Z) (dd Z Z (A9 Z Z Z Z (A9 Z Z Z Z (A9 Z Z Z Z ?_)))))));refine A9 Z Z Z Z (A9 Z Z Z Z (J (EA Z Z Z Z) (dd Z Z (A9 Z Z Z Z (A9 Z Z Z Z (A9 Z Z Z Z (A9 Z Z Z Z (J (EA Z Z Z Z) ?_))))))));refine AB Z Z (AD (AC (AC (AE (dd Z Z (J (Dv Z Z) (AD (DO Z Z ?_))))))))
 rotate_left
 refine AC (AE (J (Li Z Z Z) (AB Z Z (AD (Ac Z (λf=>?_) (λf=>?_))))));refine AE (J (AU Z LE Z Z Z) (J (A2 Z Z Z IN Z) (J (Ew Z Z Z) (dd Z Z (Ij 68 Z (λc=>?_) (λc=>?_))))));refine Ad Z Z Z (J (AU Z LD Z Z Z) (Ad Z Z Z (J (A2 Z Z Z IN Z) (Ad Z Z Z (J (ED Z Z Z) (J (Ff Z Z Z Z) (dd Z Z (Ij 73 Z (λb=>?_) (λb=>?_)))))))));refine Ad Z Z Z (J (AU Z EV Z Z Z) (Ad Z Z Z (J (BE Z Z oE Z Z Z) (Ad Z Z Z (J (Fe ZX bH Z Z Z) (Ad Z Z Z (J (SC (la:=UJ r.acc) (lb:=UJ UH) (ds:=qU) (by kernel_rfl) (by kernel_rfl) (by kernel_rfl) Z Z Z Z (I4 _) (I4 _) (XN _ _) Z) (J (Ff Z Z Z Z) ?_))))))));refine AB Z Z (AD (AC (AC (AE (dd Z Z (J (OX Z Z) (AD (Ac Z (λa=>?_) (λa=>?_)))))))))
 rotate_left
 refine AZ ?_
 rotate_left
 refine A9 Z Z Z Z (A9 Z Z Z Z (A9 Z Z Z Z (A9 Z Z Z Z (J (EA Z Z Z Z) ?_))));refine AB Z Z (AD (AC (AC (AE (dd Z Z (J (Dv Z Z) (AD (DO Z Z ?_))))))))
 rotate_left
 refine A9 Z Z Z Z ?_;refine A9 Z Z Z Z (A9 Z Z Z Z (J (EA Z Z Z Z) (dd Z Z (A9 Z Z Z Z (A9 Z Z Z Z (A9 Z Z Z Z (A9 Z Z Z Z (J (EA Z Z Z Z) ?_))))))));refine AB Z Z (AD (AC (AC (AE (dd Z Z (J (Dv Z Z) (AD (DO Z Z ?_))))))))
 rotate_left
 all_goals
  refine AC (AE (AB Z Z (AD (A4 ?_))));exact ⟨_,[],[],A3 Z,Z,Z,Ax (by unfold Cb;simp_all<;>(intros;omega)),Z⟩
def Qg:List AM ->AM ->List AM
 | [],r=> [r]
 | a::l,r=>if Bc a r<0 then a::Qg l r else if a=r then a::l else r::a::l
def ZS (l:List AM):Prop:=l.Pairwise λa b=>Bc a b<0
theorem iG {x:AM}:x∈Qg f g↔x=g\/x∈f:=by
 induction f with
 | nil=>simp [Qg]
 | cons a f b=>
  grind [Qg]
theorem c6 (h:ZS f) (r:AM):ZS (Qg f r):=by
 induction f with
 | nil=>simp [Qg,ZS]
 | cons a f g=>
  simp only [ZS,iK] at h;simp only [Qg]
  split
  .rename_i j
   refine iK.2 ⟨λx b=>?_,g h.2⟩;rcases iG.1 b with rfl | b
   all_goals (grind)
  .split
   .exact iK.2 h
   .rename_i j i
    have c:Bc r a<0:=by
     have:=MV.anti a r;have k:Bc a r≠0:=λe=>i (DK.1 e);omega
    refine iK.2 ⟨λx b=>?_,iK.2 h⟩;rcases fP.1 b with rfl | b
    .exact c
    .exact MV.trans _ _ _ c (h.1 x b)
def Rq (c:List (AM×Int)):List AM:=(c.map Prod.fst).foldl Qg []
theorem Oy (c:List (AM×Int)) (x:AM×Int):Rq (c++ [x])=Qg (Rq c) x.1:=by simp [Rq]
theorem Zd (c:List (AM×Int)) (r:AM):r∈Rq c↔r∈c.map Prod.fst:=by
 induction c using ZU with
 | h0=>simp [Rq]
 | h1 l x a=>rw [Oy,iG,a];simp only [fU,gA,List.map_nil,ν,ζ];exact or_comm
theorem Zc (c:List (AM×Int)):ZS (Rq c):=by
 induction c using ZU with
 | h0=>simp [Rq,ZS]
 | h1 l x a=>rw [Oy];exact c6 a _
def LI (c:List (AM×Int)):List (AM×Int):=((Rq c).map λr=>(r,Al c r)).filter λx=>decide (x.2≠0)
def dO (i:eR):List (AM×Int):=LI (fX i)
theorem KM (c:List (AM×Int)):(LI c).Pairwise λa b=>Bc a.1 b.1<0:=by
 unfold LI;refine List.Pairwise.filter _ ?_;rw [fz];exact Zc c
theorem Eu (c:List (AM×Int)) (a:AM) (b:Int):(a,b)∈ew c↔a∈c.map Prod.fst/\b=Al c a:=by
 constructor
 .intro h;refine ⟨(IE c a).1 (κ.2 ⟨_,h,Z⟩),?_⟩;rw [<-JQ,mQ (Et c) h]
 .rintro ⟨h,rfl⟩;rw [<-JQ];exact Hh ((IE c a).2 h)
theorem GR (c:List (AM×Int)) (x:AM×Int):x∈LI c↔x∈ew c/\x.2≠0:=by grind [LI,Eu,Zd]
theorem XC {c f g:List (AM×Int)} (l:f.Perm ((ew c).filter λx=>decide (x.2≠0))) (k:g.Perm f) (j:g.Pairwise λa b=>¬Bc b.1 a.1<0):g=LI c:=by
 have h:=k.trans l;refine mP (R:=λa b=>Bc a.1 b.1<0) (λx=>by rw [MV.refl];omega) (λx y z=>MV.trans x.1 y.1 z.1) ?_ (KM c) λx=>?_
 .have i:(g.map Prod.fst).Nodup:=by
   refine ((h.map Prod.fst).nodup_iff).2 ?_;exact (Et c).sublist (List.Sublist.map _ gE)
  rw [List.Nodup,fz] at i;refine (j.and i).imp λ{a b} ⟨s,o⟩=>?_;have:=MV.anti a.1 b.1;have r:Bc a.1 b.1≠0:=λe=>o (DK.1 e);omega
 .rw [h.mem_iff,GR,Γ,gR]
theorem dS (x:AM×Int):∃a,Oj x= .agg a:=⟨_,Z⟩
theorem Xs {c f:List (AM×Int)} (g:f.Perm ((ew c).filter λx=>decide (x.2≠0))):f.length=(LI c).length:=by
 have k:=List.pairwise_mergeSort (le:=λa b:AM×Int=>decide (¬Bc b.1 a.1<0)) (λa b d g j=>by
  have:=MV.swo.ntrans d.1 b.1 a.1;simp only [ltOf,decide_eq_false_iff_not] at this;simp only [gR] at g j⊢
  exact this j g) (λa b=>by have:=MV.anti a.1 b.1;simp only [Bool.or_eq_true,gR];omega) f
 have i:=List.mergeSort_perm f (λa b:AM×Int=>decide (¬Bc b.1 a.1<0));rw [<-XC g i (k.imp λ{a b} h=>by simpa using h)];exact i.length_eq.symm
section
variable {F:Fr} {s:AS} {d:Nat} {x y:Operand} {ty:TypeId} {pos:String} {aft:Array Edge} {gd:Option (Nat×Bool)} {at_:Array TypeId} {f n:Nat} {row:List D} {hp':Hp}
theorem Zy (c g:List (AM×Int)) (v:g.Perm ((ew c).filter λx=>decide (x.2≠0))) (i:g.length<4611686018427387904) (l:s.ev x=some (.own f 0 n)) (j:s.ev y=some (.d (.raw (.func (.func 162) #[] #[])))) (o:dr s.hp f 0=some (.rowD 218 7 row)) (h:row=g.map Oj) (r:n=g.length) (t:BL s.hp f 0 (.rowD 218 7 ((LI c).map Oj))=some hp') (u:Nat.blt d s.n=true):
  AH prog F ⟨some d,.call {callee:= .value (.func 161),args:= #[x,y],argTypes:=at_},ty,pos,aft,gd⟩ s ⟨s.n,(d,.d (.tup []))::s.env,hp'⟩ (λ_ _=>true):=
 Lz sX (k:=7) (by decide) isAgg218 sizeOf218 func162 Z Z dS (λa b=>Bc a.1 b.1) (MV.comap Prod.fst).swo g (LI c) i (λx _ y _=>Yr x y) (λA z w=>XC v z w) Z l j LF o h r t u
end
variable {a:Type} {c:List a} {f:a ->Bool} {g:List a} {h:Type} {i:a ->h} {k:Nat} {j:List Int} {o:ee} {s:Int} {t:h} {x:a} {A:List a} {u:Nat}
def eS (i:eR):List (AM×Int):=if Aq i=0 then dO i else []
theorem Jp (h:Bd j=0):∀x∈j,x=0:=by
 have:=(RT (l:=j) (f:=id)).1 (by rw [List.map_id];exact h);exact this
theorem GV {i:eR} (h:Aq i=0):qe i/\(0<=i.id/\i.id<=1000000000)/\(0<=i.sq/\i.sq<=1000000000)/\(0<=i.pr/\i.pr<=2)/\Mw i=0/\Uz i=0/\UE i=0/\UA i=0/\RP i=0:=by
 unfold Aq at h
 split at h; · cases h
 split at h; · cases h
 rename_i g f
 have a:=Jp h;have c:=a (Mw i) (by simp [R5]);have b:=a (Uz i) (by simp [R5]);exact ⟨⟨by omega,by omega,by omega,Ux c,nC b⟩,by omega,by omega,by omega,c,b,a _ (by simp [R5]),a _ (by simp [R5]),a _ (by simp [R5])⟩
theorem JG (i:eR):(fX i).length=i.po.length+4*i.pa.length:=by simp [fX,JH,Lb]
theorem H6 (c:List (AM×Int)):(ew c).length<=c.length:=by
 induction c using ZU with
 | h0=>simp [ew]
 | h1 l x a=>
  grind [dz,Jg,ew]
theorem o8 {B X:List a} (i:(g++A.filter f).Perm X) (c:A.Perm (x::B)) (b:f x=true):((g++ [x])++B.filter f).Perm X:=by
 have h:=c.filter f;rw [List.filter_cons_of_pos b] at h;rw [io];exact (List.Perm.append_left g h.symm).trans i
theorem kV {B X:List a} (i:(g++A.filter f).Perm X) (c:A.Perm (x::B)) (b:¬f x=true):(g++B.filter f).Perm X:=by
 have h:=c.filter f;rw [List.filter_cons_of_neg b] at h;exact (List.Perm.append_left g h.symm).trans i
theorem W6 {M:List a} (b:(g++A.filter f).Perm (M.filter f)):g.length<=M.length:=by
 have h:=b.length_eq
 grind
theorem T4 (i:eR) (H:i.po.length<=140737488355328) (G:i.pa.length<=140737488355328) (E:i.af.length<=140737488355328):AK prog 118 [.d (Af i)] (.tup [.sl none ((eS i).map Oj),AF (Aq i)]):=by
 by_cases t:Aq i=0
 .have z:=(GV t).1;have A:eS i=dO i:=ϱ t
  obtain ⟨M,g⟩:∃M,ew (fX i)=M:=⟨_,Z⟩
  have B:=(QO i z).by [(2,20)] rfl;have C:M.length<=1280:=by rw [<-g];have N:=H6 (fX i);have L:=JG i;have K:=z.po;have I:=z.pa;omega
  rw [g] at B;rw [A];have c:=KO i H G E;rw [t] at c⊢;refine As func118 Z Z ntmps118 Z Z Z λF u=>(AC (AE (V (Bz 1 Z Z Z Z Z Z Z) (AB Z Z (AB Z Z (AD (AC ?_)))))));refine AC (AE (J (BE Z Z Bs Z Z Z) (J (BT (c) Z Z) (AB Z Z (AD (AC (AE (dd Z Z ?_))))))));refine J (D7 Z Z Z) (AD (D3 Z (by decide) (AZ (AC (AE (AB Z Z (AD (AC ?_))))))));refine AC (Ou 5 900 aQ Z Z Z Z (AE (J (BE Z Z Bs Z Z Z) (V (EX B Z [20] ⟨Z,trivial⟩ Z Z Z Z Z Z Z Z Z) (V (Fy 2 Z Z Z Bq Z Z Z Z) (AD (A0 (BX (α:=List Nat×List (AM×Int)) (λq=>⟨32,[(5,(.own 900 0 q.2.length)),(15,(.ptr 2 0 0))],[(2,[.iter 20 0 M.length q.1]),(20,[BB CC AF M]),(900,[.rowD 218 7 (q.2.map Oj)])]⟩) (λq=>(q.2++(Bi M (List.range M.length) q.1).filter (λx=>decide (x.2≠0))).Perm (M.filter λx=>decide (x.2≠0))) (λq=>(Bi M (List.range M.length) q.1).length) (([],[])) (by rw [mH (by simp)];exact List.Perm.refl _) (AY u [2,20,900] Z Z ⟨Z,Z,trivial⟩) ?_))))))));rintro ⟨seen,k⟩ l;dsimp only at l⊢;refine AC (AE (Kn (M) Z Z Z Z (λr=>?_) (λy b w v o s D a=>⟨_,Z,?_⟩)))
  .refine J (Cf Z Z Z) (AD (AC (D3 Z Z (BC (AC ?_)))));have f:k.Perm ((ew (fX i)).filter λx=>decide (x.2≠0)):=by have h:=l;rw [r,List.filter_nil,gN] at h;rw [g];exact h
   refine AE (dd Z Z (V (Zy (fX i) k f (by have:=W6 l;omega) Z Z Z Z Z Z Z) ?_));refine AD (AC (Ls (emb:=Oj) 5 900 (dO i) Z Z Z (Xs f) Z Z Z (AE (dd Z Z (AB Z Z (AB Z Z (AD (A4 ?_))))))));exact ⟨_,[],[],A3 Z,Z,Z,Z,Z⟩
  .refine J (Cf Z Z Z) (AD (AC ?_));refine DO Z Z (AZ (A0 (AC (AE (J (Fz (M) y b Z Z Z o s Z) (J (Cf Z Z Z) (J (Cf Z Z Z) (V (Bn 3 JM Z Z Z Z) ?_))))))));refine V (B1 Z Z Z Z Z Z Z Xd) (AB Z Z (AD (AC (AE (dd Z Z (J (D7 Z Z Z) (AD (Ac Z (λj=>?_) (λj=>?_)))))))))
   .refine AE (dd Z Z (J (BE Z Z CQ Z Z Z) (dd Z Z (J (Fe ZZ sA Z Z Z) (V (D6 4 aQ Z Z Z Z Z Z Z Z) (V (H1 (k) ([(w,v)]) Z Z Z Z Z Z Z Z aQ (by have:=W6 l;simp only [Φ];omega) Z Z Z Z) (AB Z Z (AD ?_))))))));exact ⟨(seen++ [b],_),o8 l a (by simpa using j),by show (Bi M (List.range M.length) (seen++ [b])).length<(Bi M (List.range M.length) seen).length;rw [a.length_eq];exact iC _,AY u [2,20,900] Z (Z) ⟨Z,Z,trivial⟩⟩
   .refine AZ ?_;exact ⟨(seen++ [b],_),kV l a (by simpa using j),by show (Bi M (List.range M.length) (seen++ [b])).length<(Bi M (List.range M.length) seen).length;rw [a.length_eq];exact iC _,AY u [2,20,900] Z (Z) ⟨Z,Z,trivial⟩⟩
 .have c:=KO i H G E;have A:eS i=[]:=θ t;rw [A];refine As func118 Z Z ntmps118 Z Z Z λF u=>(AC ?_);refine AE (V (Bz 1 Z Z Z Z Z Z Z) (AB Z Z (XY 2 Z (AB Z Z (AD (AC (AC (AE ?_))))))));refine J (BE Z Z Bs Z Z Z) (J (BT (c) Z Z) (AB Z Z (AD (AC (AE (dd Z Z (J (D7 Z Z Z) (AD ?_))))))));refine DO Z ((by simpa using t)) (AC (AE (dd Z Z (AB Z Z (XY 2 Z (AB Z Z (AD (A4 ?_))))))));exact ⟨_,[],[],A3 Z,Z,Z,Z,Z⟩
def Be (i:eR) (r:AM):Int:=if Aq i=0/\Cb r=0 then Al (fX i) r else 0
theorem XD (i:eR) (r:AM) (l:i.po.length<=140737488355328) (k:i.pa.length<=140737488355328) (j:i.af.length<=140737488355328):AK prog 70 [.d (Af i),.d (CC r)] (AF (Be i r)):=by
 by_cases c:Aq i=0
 .have o:=(GV c).1
  obtain ⟨M,b⟩:∃M,ew (fX i)=M:=⟨_,Z⟩
  have g:=(QO i o).by [(2,20)] rfl;rw [b] at g;have a:=KO i l k j;rw [c] at a;refine As func70 Z Z ntmps70 Z Z Z λF t=>(AC (AE (V (Bz 1 Z Z Z Z Z Z Z) (V (Bz 2 Z Z Z Z Z Z Z) (AB Z Z ?_)))));refine AD (AC (AC (AE (J (BE Z Z Bs Z Z Z) (J (BT (a) Z Z) (J (D7 Z Z Z) (dd Z Z (It 8 Z (by decide) ?_))))))));refine Ad Z Z Z (J (BE Z Z CQ Z Z Z) (Ad Z Z Z (J (BT (Vp r) Z Z) (Ad Z Z Z (J (D7 Z Z Z) (J (EA Z Z Z Z) (AD (Ac Z (λf=>?_) (λf=>?_)))))))))
  .refine AC (AE (AB Z Z (AD (A4 ?_))));exact ⟨_,[],[],A3 Z,Z,Z,Ax (by rw [Be,θ];simp_all),Z⟩
  .refine AZ (AC ?_);refine DB [[],[0],[],[0,1,2],[0,1,2,3]] mixed Z (DP (Az [2] Z Z (λ_=>A5 (BE Z Z Bs Z Z Z)) (Fp [13] [20] [(14,_)] Z Z (λ_=>Fs (EX g Z [20] ⟨Z,trivial⟩ Z Z Z Z Z Z Z Z Z)) (.inr ⟨14,_,Z,Z,Z,Z,Z⟩) Z Z Z Z Z (Az [3] Z Z (λ_=>A5 (BE Z Z CQ Z Z Z)) (Cg 3 Z Z Z (Ag 4 Z Z (J (HY (M) (r) (0) _ Z Z Z Bq By O1 Z Z) (AD ⟨Z,?_⟩))))))));refine Ag 5 Z Z (AB Z Z (AD ⟨Z,?_⟩));refine Cr (A4 ?_);exact ⟨_,[],[],A3 Z,Z,Z,Ax (by rw [Be,ϱ ⟨c,by simpa using f⟩,<-b,JQ]),Z⟩
 .have a:=KO i l k j;have s:Be i r=0:=θ λh=>c h.1;rw [s];refine As func70 Z Z ntmps70 Z Z Z λF t=>(AC (AE (V (Bz 1 Z Z Z Z Z Z Z) (V (Bz 2 Z Z Z Z Z Z Z) (AB Z Z (AD (AC ?_)))))));refine AC (AE (J (BE Z Z Bs Z Z Z) (J (BT (a) Z Z) (J (D7 Z Z Z) (dd Z Z (He 8 Z ((by simpa using c)) (A9 Z Z Z Z (A9 Z Z Z Z ?_))))))));refine A9 Z Z Z Z (J (Ff Z Z Z Z) (AD (DO Z Z (AC (AE (AB Z Z (AD (A4 ?_))))))));exact ⟨_,[],[],A3 Z,Z,Z,Z,Z⟩
theorem bL (r:AM):AK prog 47 [.d (CC r)] (CC r):=by
 refine As func47 Z Z ntmps47 Z Z Z λF a=>(AC ?_);refine AE (V (Bz 1 Z Z Z Z Z Z Z) (V (Bn 2 JM Z Z Z Z) (AD (AC (AE (J (AU Z pX Z Z Z) (J (A2 Z Z Z Aw Z) (J (AU Z pW Z Z Z) ?_))))))));refine J (BE Z Z rX Z Z Z) (J (AU Z pU Z Z Z) (J (A2 Z Z Z IN Z) (J (AU Z pT Z Z Z) (J (A2 Z Z Z IN Z) (J (Fe JM SU Z Z Z) (V (B1 Z Z Z Z Z Z Z Xd) (AD (A4 ?_))))))));exact ⟨_,[],[],A3 Z,Z,Z,Z,Z⟩
theorem Ly (h:g=c.take g.length) (b:g.length<c.length):g++ [c[g.length]]=c.take (g++ [c[g.length]]).length:=by
 rw [Δ,Φ,χ b,<-h]
theorem QM (h:g=c.take g.length) (b:¬g.length<c.length):g=c:=by grind
theorem Rg (b:List a) (x:a) (h:b.length<9223372036854775807):IntKind.i64.wrap ((b.length:Int)+1)=(((b++ [x]).length:Nat):Int):=by
 rw [Δ];exact AO (b.length+1) (by omega)
abbrev I6:AV:= .d (.sl (some true) [])
theorem YI (i:eR) (x:i.po.length<=10000) (w:i.pa.length<=10000) (v:i.af.length<=10000):AK prog 48 [.d (Af i)] (Af i):=by
 refine As func48 Z Z ntmps48 Z Z Z λF o=>(AC (AE (V (Bz 1 Z Z Z Z Z Z Z) (V (Bn 2 E4 Z Z Z Z) (AD (AC ?_))))));refine DB [[],[0],[],[2],[],[4],[],[],[7],[6,7,8],rg 10,[],rg 12] mixed Z (DP (AQ [1] Z (AU Z p0 Z Z Z) (Az [6] Z Z (λ_=>A5 (A2 Z Z Z Aw Z)) (AQ [1] Z (AU Z pZ Z Z Z) (Az [8] Z Z (λ_=>A5 (A2 Z Z Z Aw Z)) (AQ [1] Z (AU Z pY Z Z Z) (Az [10] Z Z (λ_=>A5 (A2 Z Z Z Aw Z)) (Fp [] [3] [(12,_)] Z Z (λ_=>Fs (D6 3 BV Z Z Z Z Z Z Z Z)) (.inr ⟨12,_,Z,Z,Z,Z,Z⟩) Z Z Z Z Z ?_))))))));refine AQ [1] Z (AU Z cr Z Z Z) (Az [13] Z Z (λ_=>A5 (A2 Z Z Z BG Z)) (Fp [12,14] [3] [(15,_)] Z Z (λ_=>Fs (Ex (([]:List Int)) (i.af) Z Z Z Z Z Z (λ_=>rfl) BV (by simp only [List.length_nil];omega) Z Z Z Z)) (.inr ⟨15,_,Z,Z,Z,Z,Z⟩) Z Z Z Z Z (AQ [7,9,11,15] Z (Fe E4 oR Z Z Z) (Fp [] [4] [(3,_)] Z Z (λ_=>Fs (Bn 4 E4 Z Z Z Z)) (.inr ⟨3,_,Z,Z,Z,Z,Z⟩) Z Z Z Z Z (Cg 12 Z Z Z (Ag 13 Z Z (V (B1 Z Z Z Z Z Z Z CY) (AD ⟨Z,?_⟩))))))));refine Cr ?_;refine AC (AC (jN (ys:=i.af.map AF) 4 0 5 3 Z Z Z (by simp) (ς (by simp)) Z Z Z Z Z Z (Cp 4 0 3 901 Xt Z Z Z Z Z Z Z (AE (AB Z Z (AD (A0 (BX (α:=List FP) (λb=>⟨60,[(1,(.ptr 1 0 0)),(2,(.ptr 2 0 0)),(3,(.ptr 4 0 0)),(4,(.d (AF (b.length:Int))))],[(901,[.rowD 158 4 (b.map CF)]),(1,[.blk 93 [.d (AF i.id),.d (AF i.pr),.d (AF i.sq),.d (.sl none (i.po.map CF)),.d (.sl none (i.pa.map Fk)),.d (.sl none (i.af.map AF))]]),(2,[.blk 55 [.d (AF 0),.d (AF 0),.d (AF 0),I6,I6,I6]]),(4,[.blk 55 [.d (AF i.id),.d (AF i.pr),.d (AF i.sq),.own 901 0 b.length,I6,.d (.sl none (i.af.map AF))]])]⟩) (λb=>b=i.po.take b.length/\b.length<=i.po.length) (λb=>i.po.length - b.length) ([]) (⟨by simp,υ _⟩) (AY o [901,1,2,4] Z Z ⟨Z,Z,Z,Z,trivial⟩) ?_))))))));rintro b ⟨s,u⟩;refine AC ?_;refine AC (AE (dd Z Z (J (AU Z Qo Z Z Z) (J (A2 Z Z Z kQ Z) (J (CB Z underlying90 Z) (J (BN Z Z Z) (AD (Ac Z (λj=>?_) (λj=>?_)))))))))
 .have c:b.length<i.po.length:=Ba j;refine AZ (AC (A0 (DB [[],[0],[],[2],[],[2,3,4],[2,3,4,5],[2,3,4,5,6],[],[8],[],[8,9,10],[8,9,10,11],[8,9,10,11,12],[2,3,4,5,6,7,8,9,10,11,12,13],[2,3,4,5,6,7,8,9,10,11,12,13,14],rg 16,rg 17,rg 18] mixed Z (DP (AQ [3] Z (AU Z Fn Z Z Z) (Az [24] Z Z (λ_=>A5 (A2 Z Z Z VC Z)) ?_))))));refine AQ [1] Z (AU Z Qo Z Z Z) (Az [26] Z Z (λ_=>A5 (A2 Z Z Z kQ Z)) (Av 4 Z Z (AQ [27,28] Z (Bh (b.length) Z Z (Z) (Ab c) underlying90 Z md Z) (AQ [29] Z (De Z lE Z Z Z) (AQ [30] Z (GW Z Z rX Z) (AQ [1] Z (AU Z Qo Z Z Z) (Az [32] Z Z (λ_=>A5 (A2 Z Z Z kQ Z)) (Av 4 Z Z ?_))))))));refine AQ [33,34] Z (Bh (b.length) Z Z (Z) (Ab c) underlying90 Z md Z) (AQ [35] Z (mO Z lD Z Z Z) (AQ [36] Z (D2 Z Z Km Z) (AQ [31,37] Z (Fe Ox bI Z Z Z) (Fp [38] [5] [(39,_)] Z Z (λ_=>Fs (D6 5 Xt Z Z Z Z Z Z Z Z)) (.inr ⟨39,_,Z,Z,Z,Z,Z⟩) Z Z Z Z Z (Cg 16 Z Z Z (Ag 17 Z Z (V (H1 (b) ([i.po[b.length]]) Z Z Z Z Z Z Z Z Xt (by simp only [Φ];omega) Z Z Z Z) (AD ⟨Z,?_⟩))))))));refine Ag 18 Z Z (J (AU Z Fn Z Z Z) (AD ⟨Z,?_⟩));refine Ag 19 Z Z (V (B1 Z Z Z Z Z Z Z ns) (AD ⟨Z,?_⟩));refine Cr (AE (dd Z Z (J (Ar Z Z (Rg b i.po[b.length] (by omega)) Z) (AB Z Z (AD ?_)))));exact ⟨b++ [i.po[b.length]],⟨Ly s c,by rw [Δ];show b.length+1<=_;omega⟩,by rw [Δ];show i.po.length - (b.length+1)<i.po.length - b.length;omega,AY o [901,1,2,4] Z (Z) ⟨Z,Z,Z,Z,trivial⟩⟩
 .refine BC (AC (AC ?_));have l:=QM s (λh=>j (by omega));refine jN (ys:=i.po.map CF) 4 0 3 901 Z Z Z (by simp) (by rw [l];exact ς (by simp)) Z Z Z Z Z Z (Cp 4 0 4 902 aN Z Z Z Z Z Z Z (AE (AB Z Z (AD (A0 (BX (α:=List O6) (λa=>⟨60,[(1,(.ptr 1 0 0)),(2,(.ptr 2 0 0)),(3,(.ptr 4 0 0)),(5,(.d (AF (a.length:Int))))],[(902,[.rowD 161 3 (a.map Fk)]),(1,[.blk 93 [.d (AF i.id),.d (AF i.pr),.d (AF i.sq),.d (.sl none (i.po.map CF)),.d (.sl none (i.pa.map Fk)),.d (.sl none (i.af.map AF))]]),(2,[.blk 55 [.d (AF 0),.d (AF 0),.d (AF 0),I6,I6,I6]]),(4,[.blk 55 [.d (AF i.id),.d (AF i.pr),.d (AF i.sq),.d (.sl none (i.po.map CF)),.own 902 0 a.length,.d (.sl none (i.af.map AF))]])]⟩) (λa=>a=i.pa.take a.length/\a.length<=i.pa.length) (λa=>i.pa.length - a.length) ([]) (⟨by simp,υ _⟩) (AY o [902,1,2,4] Z Z ⟨Z,Z,Z,Z,trivial⟩) ?_))))));rintro a ⟨r,t⟩;refine AC ?_;refine AC (AE (dd Z Z (J (AU Z VY Z Z Z) (J (A2 Z Z Z oU Z) (J (CB Z underlying91 Z) (J (BN Z Z Z) (AD (Ac Z (λg=>?_) (λg=>?_)))))))))
  .have k:a.length<i.pa.length:=Ba g;refine AZ (AC (A0 (DB [[],[0],[],[2],[],[2,3,4],[2,3,4,5],[2,3,4,5,6],rg 8,rg 9,rg 10] mixed Z (DP (AQ [3] Z (AU Z Gu Z Z Z) (Az [49] Z Z (λ_=>A5 (A2 Z Z Z YN Z)) (AQ [1] Z (AU Z VY Z Z Z) ?_)))))));refine Az [51] Z Z (λ_=>A5 (A2 Z Z Z oU Z)) (Av 5 Z Z (AQ [52,53] Z (Bh (a.length) Z Z (Z) (Ab k) underlying91 Z rM Z) (AQ [54] Z (GW Z Z rY Z) (Fp [55] [6] [(56,_)] Z Z (λ_=>Fs (D6 6 aN Z Z Z Z Z Z Z Z)) (.inr ⟨56,_,Z,Z,Z,Z,Z⟩) Z Z Z Z Z (Cg 8 Z Z Z (Ag 9 Z Z (V (H1 (a) ([i.pa[a.length]]) Z Z Z Z Z Z Z Z aN (by simp only [Φ];omega) Z Z Z Z) (AD ⟨Z,?_⟩))))))));refine Ag 10 Z Z (J (AU Z Gu Z Z Z) (AD ⟨Z,?_⟩));refine Ag 11 Z Z (V (B1 Z Z Z Z Z Z Z nq) (AD ⟨Z,?_⟩));refine Cr (AE (dd Z Z (J (Ar Z Z (Rg a i.pa[a.length] (by omega)) Z) (AB Z Z (AD ?_)))));exact ⟨a++ [i.pa[a.length]],⟨Ly r k,by rw [Δ];show a.length+1<=_;omega⟩,by rw [Δ];show i.pa.length - (a.length+1)<i.pa.length - a.length;omega,AY o [902,1,2,4] Z (Z) ⟨Z,Z,Z,Z,trivial⟩⟩
  .refine BC (AC ?_);have f:=QM r (λh=>g (by omega));refine jN (ys:=i.pa.map Fk) 4 0 4 902 Z Z Z (by simp) (by rw [f];exact ς (by simp)) Z Z Z Z Z Z (AE (J (BE Z Z Bs Z Z Z) (V (B1 Z Z Z Z Z Z Z CY) (AD (A4 ?_)))));exact ⟨_,[],[],A3 Z,Z,Z,Z,Z⟩
def pd (r:AM) (p:FP):Int:=if p.acc=r.acc then p.d else 0
theorem T7 {l:List (AM×Int)} {r:AM} (h:∀x∈l,x.1≠r):Al l r=0:=by
 induction l with
 | nil=>rfl
 | cons x l a=>
  grind [Al]
theorem PD {l:List a} {f:a ->Int} {B:Int} (h:∀x∈l,-B<=f x/\f x<=B) (n:Nat) (b:l.length<=n) (i:0<=B): -(n*B)<=(l.map f).sum/\(l.map f).sum<=n*B:=by
 induction l generalizing n with
 | nil=>have:=Int.mul_nonneg (Int.natCast_nonneg n) i;simp only [List.map_nil,List.sum_nil];omega
 | cons x l c=>
  obtain ⟨m,rfl⟩:∃m,n=m+1:=⟨n - 1,by simp at b;omega⟩
  have j:=c (λy g=>h y (by simp [g])) m (by simpa using b)
  grind
deriving instance DecidableEq for FP
deriving instance DecidableEq for O6
deriving instance DecidableEq for eR
deriving instance DecidableEq for eY
theorem FP.eq_iff {x y:FP}:x=y↔x.acc=y.acc/\x.d=y.d:=by cases x;cases y;simp
theorem O6.eq_iff {x y:O6}:x=y↔x.f=y.f/\x.t=y.t/\x.n=y.n:=by cases x;cases y;simp
theorem eY.eq_iff {x y:eY}:x=y↔x.r=y.r/\x.n=y.n:=by cases x;cases y;simp
theorem eR.eq_iff {x y:eR}:x=y↔x.id=y.id/\x.pr=y.pr/\x.sq=y.sq/\x.po=y.po/\x.pa=y.pa/\x.af=y.af:=by cases x;cases y;simp
theorem EO (b:k<c.length):(c.take (k+1)).filter f=(c.take k).filter f++(if f c[k] then [c[k]] else []):=by
 rw [χ b,iJ]
 grind
abbrev Aa (b:Bool):D:= .raw (.bool b)
def At {α:Type} (l:List α):List (α×Bool):=l.map λa=>(a,true)
theorem XZ [DecidableEq a] (l:List a) (c:a):A1 (At l) c false=decide (c∈l):=by
 induction l with
 | nil=>rfl
 | cons b l f=>
  grind [At,A1]
theorem ZT [DecidableEq a] {f:a} (h:f∉c):BA (At c) f true=At (c++ [f]):=by
 induction c with
 | nil=>rfl
 | cons b c g=>
  grind [At,BA]
def Ha:eY:=⟨⟨0,UH,[],[]⟩,0⟩
def Ms (l:List eY) (k:Nat):Int:=if Cb (l.getD k Ha).r≠0 then Cb (l.getD k Ha).r else if ¬(-4*Mx<=(l.getD k Ha).n/\(l.getD k Ha).n<=4*Mx) then 12 else if (l.getD k Ha).r∈(l.take k).map eY.r then 7 else 0
def Cv (l:List eY):Int:=Bd ((List.range l.length).map (Ms l))
theorem EQ (d:a) (h:k<c.length):c.getD k d=c[k]:=by rw [Ψ,ω h];rfl
theorem Db (b:k<c.length):(c.take (k+1)).map i=(c.take k).map i++ [i c[k]]:=by rw [χ b,fU];rfl
theorem js (p:ee) (u:p.ro.length<=100000):AK prog 129 [.d (Bf p)] (AF (Cv p.ro)):=by
 refine As func129 Z Z ntmps129 Z Z Z λF s=>(AC (AE ?_));refine V (Bz 1 Z Z Z Z Z Z Z) (AB Z Z (AD (AC (AE (V (O4 2 Z Z Z Z) (AB Z Z (AD (AC ?_))))))));refine AC (AE (J (AU Z Dp Z Z Z) (J (A2 Z Z Z Ob Z) (J (CB Z S1 Z) (dd Z Z (AD (A0 (BX (α:=Nat) (λk=>⟨35,[(3,(.map 2 0)),(9,(.d (.sl none (p.ro.map Bt)))),(10,(.d (AF (p.ro.length:Int)))),(11,(.d (AF (k:Int))))],[(2,[BB CC Aa (At ((p.ro.take k).map eY.r))])]⟩) (λk=>k<=p.ro.length/\Cv p.ro=Bd (((List.range p.ro.length).drop k).map (Ms p.ro))) (λk=>p.ro.length - k) (0) (⟨υ _,Z⟩) (AY s [2] Z Z ⟨Z,Z,Z,Z,trivial⟩) ?_))))))));rintro k ⟨t,o⟩;refine AC (AE (J (BN Z Z Z) (AD (AC (Ac Z (λi=>?_) (λi=>?_))))))
 .have b:k<p.ro.length:=Ba i;refine AZ (AC (A0 (AC (AE ?_))));have j:=EI b o;have c:=EQ Ha b;refine J (Bh (k) Z Z (Z) (Ab b) S1 Z Ln Z) ?_;refine J (GW Z Z Ui Z) (V (Bn 3 QI Z Z Z Z) (V (B1 Z Z Z Z Z Z Z Ln) (AD (AC (AC (AE (J (AU Z EU Z Z Z) (J (BE Z Z CQ Z Z Z) ?_))))))));refine J (BT (Vp p.ro[k].r) Z Z) (AB Z Z (AD (AC (AE (dd Z Z (J (D7 Z Z Z) (AD (Ac Z (λa=>?_) (λa=>?_)))))))))
  .refine AC (AE (dd Z Z (AB Z Z (AD (A4 ?_)))));exact ⟨_,[],[],A3 Z,Z,Z,Ax (j.2 _ (by unfold Ms;rw [c,ϱ a]) a),Z⟩
  .refine AZ (AC (A0 ?_));refine AC (AE (J (AU Z Qp Z Z Z) (J (A2 Z Z Z Km Z) (J (BT (G0 _ _ _) Z Z) (J (OX Z Z) (AB Z Z (AD (Ac Z (λl=>?_) (λl=>?_)))))))))
   .refine AC (AE (AB Z Z (AD (A4 ?_))));exact ⟨_,[],[],A3 Z,Z,Z,Ax (j.2 12 (by unfold Ms;rw [c,θ a,ϱ (by simp only [Mx];omega)]) (by decide)),Z⟩
   .refine AC (AE (dd Z Z (J (AU Z EU Z Z Z) (J (BE Z Z CQ Z Z Z) (J (HY (At ((p.ro.take k).map eY.r)) (p.ro[k].r) (false) _ Z Z Z P9 By Rd Z Z) ?_)))));rw [XZ];refine AB Z Z (AD (Ac Z (λg=>?_) (λg=>?_)))
    .refine AC (AE (AB Z Z (AD (A4 ?_))));exact ⟨_,[],[],A3 Z,Z,Z,Ax (j.2 7 (by unfold Ms;rw [c,θ a,θ (by simp only [Mx];omega),ϱ g]) (by decide)),Z⟩
    .have f:p.ro[k].r∉(p.ro.take k).map eY.r:=g;refine AZ (AE ?_);refine dd Z Z (J (AU Z EU Z Z Z) (J (BE Z Z CQ Z Z Z) (V (UO (At ((p.ro.take k).map eY.r)) (p.ro[k].r) (true) Z Z Z P9 By Z Z) (AD (AE (J (Ar Z Z (AO (k+1) (by omega)) Z) (dd Z Z (AD ?_))))))));exact ⟨k+1,⟨by show k+1<=_;omega,j.1 (by unfold Ms;rw [c,θ a,θ (by simp only [Mx];omega),θ f])⟩,by show p.ro.length - (k+1)<p.ro.length - k;omega,AY s [2] Z (by rw [Db b,<-ZT f];rfl) ⟨Z,Z,Z,Z,trivial⟩⟩
 .refine BC (AC (AE (AB Z Z (AD (A4 ?_)))));exact ⟨_,[],[],A3 Z,Z,Z,Ax (by rw [o,List.drop_of_length_le (by have h:=i;simp only [gI];omega)];rfl),Z⟩
theorem PR {a b:Bool} (h:a=b):AV.d (.raw (.bool a))= .d (.raw (.bool b)):=by rw [h]
theorem F6 {b:Type} {p:b ->Bool}:∀{l:List b} {k:Nat} (c:k<l.length),(∀x∈l.take k,p x=false) ->p l[k]=true ->l.findIdx? p=some k
 | a::l,0,_,_,h=>by simp at h;simp [List.findIdx?_cons,h]
 | a::l,k+1,c,f,h=>by
  have i:p a=false:=f a (by simp);have:=F6 (l:=l) (k:=k) (by simpa using c) (λx g=>f x (by simp [g])) (by simpa using h)
  simp [List.findIdx?_cons,i,this]
theorem Gt (h:∀x∈c,f x=false):c.findIdx? f=none:=by
 rw [List.findIdx?_eq_none_iff];exact h
def s6 (p:Int ->Bool) (l:List Int):Int:=match l.findIdx? p with
 | some k=>k
 | none=> -1
theorem pC {p:Int ->Bool}:0<=s6 p j↔j.any p=true:=by grind [s6]
abbrev HM (S:List Int):Hp:=[(910,[.blk 137 [.map 911 0]]),(911,[BB AF Aa (At S)])]
def Id (S:List Int) (x:Int):Bool:=!decide (x∈S)
theorem qJ (S:List Int) (x:Int):AJ prog 131 [.d (AF x),.ptr 910 0 0] (HM S) λr a=>r= .d (Aa (Id S x))/\a=HM S:=by
 refine As func131 Z Z ntmps131 Z Z Z λF b=>?_;refine AC (AE (AB Z Z (AD (AC (AE (J (A2 Z Z Z P2 Z) (dd Z Z (J (HY (At S) (x) (false) _ Z Z Z EL HS Rd Z Z) ?_))))))));rw [XZ];refine J (OX Z Z) (AB Z Z (AD (A4 ?_)));exact ⟨_,[910,911],_,A3 Z,Z,Z,by first | exact PR (by unfold Id;simp) | rfl,rfl⟩
theorem c8 (S l:List Int) (s:l.length<=100000000):AJ prog 138 [.d (.sl none (l.map AF)),.fn 131 [.ptr 910 0 0]] (HM S) λr o=>r= .d (AF (s6 (Id S) l))/\o=HM S:=by
 refine As func138 Z Z ntmps138 Z Z Z λF i=>(AC (AE (AB Z Z (AD ?_))));refine AC (AC (AE (dd Z Z (J (CB Z E0 Z) (dd Z Z (AD (A0 (BX (α:=Nat) (λk=>⟨19,[(0,.d (.sl none (l.map AF))),(1,.fn 131 [.ptr 910 0 0]),(7,(.d (AF (l.length:Int)))),(8,(.d (AF (k:Int))))],HM S⟩) (λk=>k<=l.length/\∀x∈l.take k,Id S x=false) (λk=>l.length - k) (0) (⟨υ _,by simp⟩) (AY i [910,911] Z Z ⟨Z,Z,Z,Z,trivial⟩) ?_))))))));rintro k ⟨j,f⟩;refine AC (AE (J (BN Z Z Z) (AD (AC (Ac Z (λg=>?_) (λg=>?_))))))
 .have b:k<l.length:=Ba g;refine AZ (AC (A0 (AC (AE (dd Z Z (AB Z Z (AD (AC ?_))))))));refine AE (dd Z Z (dd Z Z (dd Z Z (J (Bh (k) Z Z (Z) (Ab b) E0 Z BU Z) (J (D2 Z Z Aw Z) (V (UZ (qJ S l[k]) Z [910,911] ⟨Z,Z,trivial⟩ Z Z Z Z Z Z Z Z Z) (AD (JJ Z (λc=>?_) (λc=>?_)))))))))
  .refine AC (AE (dd Z Z (AB Z Z (AD (A4 ?_)))));exact ⟨_,[910,911],_,A3 Z,Z,Z,Ax (by unfold s6;rw [F6 b f (by simpa using c)]),Z⟩
  .refine AZ (AE (J (Ar Z Z (AO (k+1) (by omega)) Z) (dd Z Z (AD ?_))));exact ⟨k+1,⟨by show k+1<=_;omega,by rw [χ b];intro x a;rcases ν.1 a with a | a;exact f x a;rw [ζ.1 a];simpa using c⟩,by show l.length - (k+1)<l.length - k;omega,AY i [910,911] Z (Z) ⟨Z,Z,Z,Z,trivial⟩⟩
 .refine BC (AC (AE (AB Z Z (AD (A4 ?_)))));exact ⟨_,[910,911],_,A3 Z,Z,Z,Ax (by unfold s6;rw [Gt (λx a=>f x (by rw [ς (by have h:=g;omega)];exact a))]),Z⟩
theorem Tb (S l:List Int) (a:l.length<=100000000):AJ prog 130 [.d (.sl none (l.map AF)),.fn 131 [.ptr 910 0 0]] (HM S) λr b=>r= .d (Aa (l.any (Id S)))/\b=HM S:=by
 refine As func130 Z Z ntmps130 Z Z Z λF c=>(AC (AE (AB Z Z (AD ?_))));refine AC (AE (dd Z Z (dd Z Z (V (EX (c8 S l a) Z [910,911] ⟨Z,Z,trivial⟩ Z Z Z Z Z Z Z Z Z) (J (ES Z Z Z) (AB Z Z (AD (A4 ?_))))))));exact ⟨_,[910,911],_,A3 Z,Z,Z,PR (by rw [Bool.eq_iff_iff,gR];exact pC),Z⟩
def eT:eR:=⟨0,0,0,[],[],[]⟩
def Ng (l:List eR) (k:Nat):Int:=if Aq (l.getD k eT)≠0 then Aq (l.getD k eT) else if (l.getD k eT).id∈(l.take k).map eR.id\/(l.getD k eT).sq∈(l.take k).map eR.sq then 7 else 0
def Dl (l:List eR):Int:=Bd ((List.range l.length).map (Ng l))
def Qy (S:List Int) (i:eR):Int:=if i.af.any (Id S)=true then 9 else 0
def Hy (l:List eR):Int:=Bd (l.map (Qy (l.map eR.id)))
def A6 (p:ee):Int:=if 4096<p.it.length\/16384<p.ro.length then 8 else Bd [Cv p.ro,Dl p.it,Hy p.it]
theorem oM (h:¬(4096<o.it.length\/16384<o.ro.length)) (a:Cv o.ro≠0):Cv o.ro=A6 o:=by grind [A6,Bd]
theorem Uv (h:¬(4096<o.it.length\/16384<o.ro.length)) (c:Cv o.ro=0) (b:s=Dl o.it) (a:s≠0):s=A6 o:=by grind [A6,Bd]
theorem ax (h:¬(4096<o.it.length\/16384<o.ro.length)) (c:Cv o.ro=0) (b:Dl o.it=0) (a:s=Hy o.it):s=A6 o:=by grind [A6,Bd]
def EY (p:ee):Prop:=p.ro.length<=100000/\p.it.length<=100000/\∀i∈p.it,i.po.length<=100000/\i.pa.length<=100000/\i.af.length<=100000
theorem FD (p:ee) (G:EY p):AK prog 75 [.d (Bf p)] (AF (A6 p)):=by
 obtain ⟨H,I,E⟩:=G;refine As func75 Z Z ntmps75 Z Z Z λF v=>(AC (AE (V (Bz 1 Z Z Z Z Z Z Z) (AB Z Z (AD ?_)))));refine AC (AC (AE (J (AU Z Cy Z Z Z) (J (A2 Z Z Z Is Z) (J (CB Z F0 Z) (J (Ot Z Z Z) (dd Z Z (Ij 15 Z (λB=>?_) (λB=>?_)))))))))
 .refine A9 Z Z Z Z (A9 Z Z Z Z (A9 Z Z Z Z ?_));refine A9 Z Z Z Z (J (Ff Z Z Z Z) (AD (DO Z Z (AC (AE (AB Z Z (AD (A4 ?_))))))));exact ⟨_,[],[],A3 Z,Z,Z,Ax (by unfold A6;rw [ϱ (by omega)]),Z⟩
 .refine Ad Z Z Z (J (AU Z Dp Z Z Z) ?_);refine Ad Z Z Z (J (A2 Z Z Z Ob Z) (Ad Z Z Z (J (CB Z S1 Z) (Ad Z Z Z (J (Ot Z Z Z) (J (EA Z Z Z Z) (AD (Ac Z (λA=>?_) (λA=>?_)))))))))
  .refine AC (AE (AB Z Z (AD (A4 ?_))));exact ⟨_,[],[],A3 Z,Z,Z,Ax (by unfold A6;rw [ϱ (by omega)]),Z⟩
  .refine AZ (AC (AC ?_));have c:¬(4096<p.it.length\/16384<p.ro.length):=by omega
   refine AE (J (BE Z Z BM Z Z Z) ?_);refine J (BT (js p H) Z Z) (AB Z Z (AD (AC (AE (dd Z Z (J (D7 Z Z Z) (AD (Ac Z (λs=>?_) (λs=>?_)))))))))
   .refine AC (AE (dd Z Z (AB Z Z (AD (A4 ?_)))));exact ⟨_,[],[],A3 Z,Z,Z,Ax (oM c s),Z⟩
   .refine AZ (AC ?_);have f:Cv p.ro=0:=by simpa using s
    refine AE (V (O4 2 Z Z Z Z) (V (O4 3 Z Z Z Z) (V (Bn 4 Z2 Z Z Z Z) (V (B1 Z Z Z Z Z Z Z Zp) (AB Z Z (AD (AC ?_)))))));refine AC (AE (J (AU Z Cy Z Z Z) (J (A2 Z Z Z Is Z) (J (CB Z F0 Z) (dd Z Z (AD (A0 (BX (α:=Nat) (λk=>⟨69,[(1,(.ptr 1 0 0)),(4,(.ptr 4 0 0)),(5,(.map 3 0)),(29,(.d (.sl none (p.it.map Af)))),(30,(.d (AF (p.it.length:Int)))),(31,(.d (AF (k:Int))))],[(1,[.blk 39 [.d (.sl none (p.ro.map Bt)),.d (.sl none (p.it.map Af))]]),(4,[.blk 137 [.map 2 0]]),(2,[BB AF Aa (At ((p.it.take k).map eR.id))]),(3,[BB AF Aa (At ((p.it.take k).map eR.sq))])]⟩) (λk=>k<=p.it.length/\Dl p.it=Bd (((List.range p.it.length).drop k).map (Ng p.it))) (λk=>p.it.length - k) (0) (⟨υ _,Z⟩) (AY v [1,4,2,3] Z Z ⟨Z,Z,Z,Z,Z,Z,trivial⟩) ?_))))))));rintro k ⟨w,t⟩;refine AC (AE (J (BN Z Z Z) (AD (AC (Ac Z (λi=>?_) (λi=>?_))))))
    .have a:k<p.it.length:=Ba i;refine AZ (AC (A0 (AC (AE ?_))));have l:=EI a t;have g:=EQ eT a;have x:=E _ (ξ a);refine J (Bh (k) Z Z (Z) (Ab a) F0 Z CY Z) (J (GW Z Z Bs Z) (V (Bn 5 E4 Z Z Z Z) (V (B1 Z Z Z Z Z Z Z CY) (AD (AC (AC (AE (J (BE Z Z Bs Z Z Z) ?_))))))));refine J (BT (KO p.it[k] (by omega) (by omega) (by omega)) Z Z) (AB Z Z (AD (AC (AE (dd Z Z (J (D7 Z Z Z) (AD (Ac Z (λb=>?_) (λb=>?_)))))))))
     .refine AC (AE (dd Z Z (AB Z Z (AD (A4 ?_)))));exact ⟨_,[],[],A3 Z,Z,Z,Ax (Uv c f (l.2 _ (by unfold Ng;rw [g,ϱ b]) b) b),Z⟩
     .refine AZ (AC (AC (AE (J (A2 Z Z Z P2 Z) (J (AU Z OY Z Z Z) (J (A2 Z Z Z Aw Z) (J (HY (At ((p.it.take k).map eR.id)) (p.it[k].id) (false) _ Z Z Z EL HS Rd Z Z) ?_)))))));rw [XZ];refine dd Z Z (Ij 44 Z (λz=>?_) (λz=>?_))
      .refine A9 Z Z Z Z (A9 Z Z Z Z (A9 Z Z Z Z ?_));refine A9 Z Z Z Z (J (Ff Z Z Z Z) (AD (DO Z Z (AC (AE (AB Z Z (AD (A4 ?_))))))));exact ⟨_,[],[],A3 Z,Z,Z,Ax (Uv c f (l.2 7 (by unfold Ng;rw [g,θ b,ϱ (by simp_all)]) (by decide)) (by decide)),Z⟩
      .refine Ad Z Z Z (dd Z Z (Ad Z Z Z (J (AU Z Nv Z Z Z) (Ad Z Z Z (J (A2 Z Z Z Aw Z) (Ad Z Z Z (J (HY (At ((p.it.take k).map eR.sq)) (p.it[k].sq) (false) _ Z Z Z EL HS Rd Z Z) ?_)))))));rw [XZ];refine J (EA Z Z Z Z) (AD (Ac Z (λy=>?_) (λy=>?_)))
       .refine AC (AE (AB Z Z (AD (A4 ?_))));exact ⟨_,[],[],A3 Z,Z,Z,Ax (Uv c f (l.2 7 (by unfold Ng;rw [g,θ b,ϱ (by simp_all)]) (by decide)) (by decide)),Z⟩
       .refine AZ ?_;have D:p.it[k].id∉(p.it.take k).map eR.id:=by simp_all
        have C:p.it[k].sq∉(p.it.take k).map eR.sq:=by simp_all
        refine DB [[],[],[1],[],[],[4],[0,1,2],rg 7] mixed Z (DP (CK [4] [4,2] Z Z (λ_=>A5 (A2 Z Z Z P2 Z)) (AQ [7] Z (AU Z OY Z Z Z) ?_)));refine CK [51] [5] Z Z (λ_=>A5 (A2 Z Z Z Aw Z)) (Av 5 Z Z (AQ [7] Z (AU Z Nv Z Z Z) (CK [54] [5] Z Z (λ_=>A5 (A2 Z Z Z Aw Z)) (Fp [50,52] [2] [] Z Z (λ_=>Fs (UO (At ((p.it.take k).map eR.id)) (p.it[k].id) (true) Z Z Z EL HS Z Z)) (.inl ⟨Z,Z⟩) Z Z Z Z Z (Cg 7 Z Z Z (Ag 8 Z Z (V (UO (At ((p.it.take k).map eR.sq)) (p.it[k].sq) (true) Z Z Z EL HS Z Z) (AD ⟨Z,?_⟩))))))));refine Cr (AE (J (Ar Z Z (AO (k+1) (by omega)) Z) (dd Z Z (AD ?_))));exact ⟨k+1,⟨by show k+1<=_;omega,l.1 (by unfold Ng;rw [g,θ b,θ (by rintro (h | h);exact D h;exact C h)])⟩,by show p.it.length - (k+1)<p.it.length - k;omega,AY v [1,4,2,3] Z (by rw [Db a,Db a,<-ZT D,<-ZT C];rfl) ⟨Z,Z,Z,Z,Z,Z,trivial⟩⟩
    .refine BC (AC (AC ?_));have u:Dl p.it=0:=by rw [t,List.drop_of_length_le (by have h:=i;simp only [gI];omega)];rfl
     have j:p.it.take k=p.it:=ς (by have h:=i;omega);rw [j];refine AE (J (AU Z Cy Z Z Z) (J (A2 Z Z Z Is Z) (J (CB Z F0 Z) (dd Z Z (AD (A0 (BX (α:=Nat) (λk=>⟨69,[(4,(.ptr 4 0 0)),(58,(.d (.sl none (p.it.map Af)))),(59,(.d (AF (p.it.length:Int)))),(60,(.d (AF (k:Int))))],[(4,[.blk 137 [.map 2 0]]),(2,[BB AF Aa (At (p.it.map eR.id))])]⟩) (λk=>k<=p.it.length/\Hy p.it=Bd ((p.it.drop k).map (Qy (p.it.map eR.id)))) (λk=>p.it.length - k) (0) (⟨υ _,Z⟩) (AY v [4,2] Z Z ⟨Z,Z,Z,Z,trivial⟩) ?_)))))));rintro k ⟨w,t⟩;refine AC (AE (J (BN Z Z Z) (AD (AC (Ac Z (λr=>?_) (λr=>?_))))))
     .have a:k<p.it.length:=Ba r;refine AZ (AC (A0 (AC (AE ?_))));have l:=Dm a t;have x:=E _ (ξ a);refine J (Bh (k) Z Z (Z) (Ab a) F0 Z CY Z) (J (GW Z Z Bs Z) (V (Bn 6 E4 Z Z Z Z) (V (B1 Z Z Z Z Z Z Z CY) ?_)));refine AD (AC (AE (J (AU Z Do Z Z Z) (J (A2 Z Z Z BG Z) (J (qX Z Z) (V (EX ((Tb (p.it.map eR.id) p.it[k].af (by omega)).by [(910,4),(911,2)] Z) Z [4,2] ⟨Z,Z,trivial⟩ Z Z Z Z Z Z Z Z Z) (AD (JJ Z (λo=>?_) (λo=>?_)))))))))
      .refine AC (AE (AB Z Z (AD (A4 ?_))));exact ⟨_,[],[],A3 Z,Z,Z,Ax (ax c f u (l.2 9 (by unfold Qy;rw [ϱ (by simpa using o)]) (by decide))),Z⟩
      .refine AZ (AE (J (Ar Z Z (AO (k+1) (by omega)) Z) (dd Z Z (AD ?_))));exact ⟨k+1,⟨by show k+1<=_;omega,l.1 (by unfold Qy;rw [θ (by simpa using o)])⟩,by show p.it.length - (k+1)<p.it.length - k;omega,AY v [4,2] Z (Z) ⟨Z,Z,Z,Z,trivial⟩⟩
     .refine BC (AC (AE (AB Z Z (AD (A4 ?_)))));exact ⟨_,[],[],A3 Z,Z,Z,Ax (ax c f u (by rw [t,GM (by have h:=r;omega)])),Z⟩
abbrev Mv (T:TypeId) (p:ee):AI:= .blk T [.d (.sl none (p.ro.map Bt)),.d (.sl none (p.it.map Af))]
theorem NS (o:k<c.length) (j:u<k) (g:i c[u]=t):t∈(c.take k).map i:=by grind [iY]
theorem YS (j:u<c.length) (g:t∉(c.take u).map i) (k:i c[u]≠t):t∉(c.take (u+1)).map i:=by grind [Db]
def tD (p:ee):Prop:=p.it.length<=12/\p.ro.length<=24/\∀i∈p.it,i.po.length<=12/\i.pa.length<=12/\i.af.length<=12
instance (p:ee):Decidable (tD p):=inferInstanceAs (Decidable (_/\_/\∀i∈p.it,_))
theorem jm (p:ee):AK prog 11 [.d (Bf p)] (Aa (decide (tD p))):=by
 refine As func11 Z Z ntmps11 Z Z Z λF s=>(AC (AE (V (Bz 1 Z Z Z Z Z Z Z) (AB Z Z (AD ?_)))));refine AC (AC (AE (J (AU Z JD Z Z Z) (J (A2 Z Z Z VD Z) (J (CB Z an Z) (J (Ot Z Z Z) (dd Z Z (Ij 8 Z (λu=>?_) (λu=>?_)))))))))
 .refine A9 Z Z Z Z (A9 Z Z Z Z (A9 Z Z Z Z ?_));refine A9 Z Z Z Z (J (Ff Z Z Z Z) (AD (DO Z Z (AC (AE (AB Z Z (AD (A4 ?_))))))));exact ⟨_,[],[],A3 Z,Z,Z,Mp (λh=>by have f:=h.1;have v:=h.2.1;omega),Z⟩
 .refine Ad Z Z Z (J (AU Z Qr Z Z Z) ?_);refine Ad Z Z Z (J (A2 Z Z Z kR Z) (Ad Z Z Z (J (CB Z underlying22 Z) (Ad Z Z Z (J (Ot Z Z Z) (J (EA Z Z Z Z) (AD (Ac Z (λo=>?_) (λo=>?_)))))))))
  .refine AC (AE (AB Z Z (AD (A4 ?_))));exact ⟨_,[],[],A3 Z,Z,Z,Mp (λh=>by have f:=h.1;have v:=h.2.1;omega),Z⟩
  .refine AZ (AC (AC (AE (AB Z Z (AD (A0 (BX (α:=Nat) (λk=>⟨49,[(1,(.ptr 1 0 0)),(3,(.d (AF (k:Int))))],[(1,[Mv 25 p])]⟩) (λk=>k<=p.it.length/\∀i∈p.it.take k,i.po.length<=12/\i.pa.length<=12/\i.af.length<=12) (λk=>p.it.length - k) (0) (⟨υ _,by simp⟩) (AY s [1] Z Z ⟨Z,Z,trivial⟩) ?_)))))));rintro k ⟨t,r⟩;refine AC ?_;refine AC (AE (dd Z Z (J (AU Z JD Z Z Z) (J (A2 Z Z Z VD Z) (J (CB Z an Z) (J (BN Z Z Z) (AD (Ac Z (λc=>?_) (λc=>?_)))))))))
   .have a:k<p.it.length:=Ba c;refine AZ (AC (A0 (AC (AE (J (AU Z JD Z Z Z) ?_)))));refine J (A2 Z Z Z VD Z) (dd Z Z (J (Bh (k) Z Z (Z) (Ab a) an Z jc Z) (J (mO Z Qo Z Z Z) (J (D2 Z Z kQ Z) (J (CB Z underlying90 Z) (J (Ot Z Z Z) (dd Z Z (Ij 29 Z (λl=>?_) (λl=>?_)))))))))
    .refine A9 Z Z Z Z (A9 Z Z Z Z (A9 Z Z Z Z (A9 Z Z Z Z (A9 Z Z Z Z (A9 Z Z Z Z (A9 Z Z Z Z (A9 Z Z Z Z ?_)))))));refine J (Ff Z Z Z Z) (dd Z Z (A9 Z Z Z Z (A9 Z Z Z Z (A9 Z Z Z Z (A9 Z Z Z Z (A9 Z Z Z Z (A9 Z Z Z Z (A9 Z Z Z Z ?_))))))));refine A9 Z Z Z Z (J (Ff Z Z Z Z) (AD (DO Z Z (AC (AE (AB Z Z (AD (A4 ?_))))))));exact ⟨_,[],[],A3 Z,Z,Z,Mp (λh=>by have f:=h.2.2 _ (ξ a);omega),Z⟩
    .refine Ad Z Z Z ?_;refine J (AU Z JD Z Z Z) (Ad Z Z Z (J (A2 Z Z Z VD Z) (Ad Z Z Z (dd Z Z (Ad Z Z Z (J (Bh (k) Z Z (Z) (Ab a) an Z jc Z) (Ad Z Z Z (J (mO Z VY Z Z Z) ?_))))))));refine Ad Z Z Z (J (D2 Z Z oU Z) (Ad Z Z Z (J (CB Z underlying91 Z) (Ad Z Z Z (J (Ot Z Z Z) (J (EA Z Z Z Z) (dd Z Z (Ij 39 Z (λj=>?_) (λj=>?_)))))))))
     .refine A9 Z Z Z Z (A9 Z Z Z Z (A9 Z Z Z Z (A9 Z Z Z Z (A9 Z Z Z Z (A9 Z Z Z Z (A9 Z Z Z Z ?_))))));refine A9 Z Z Z Z (J (Ff Z Z Z Z) (AD (DO Z Z (AC (AE (AB Z Z (AD (A4 ?_))))))));exact ⟨_,[],[],A3 Z,Z,Z,Mp (λh=>by have f:=h.2.2 _ (ξ a);omega),Z⟩
     .refine Ad Z Z Z ?_;refine J (AU Z JD Z Z Z) (Ad Z Z Z (J (A2 Z Z Z VD Z) (Ad Z Z Z (dd Z Z (Ad Z Z Z (J (Bh (k) Z Z (Z) (Ab a) an Z jc Z) (Ad Z Z Z (J (mO Z cr Z Z Z) ?_))))))));refine Ad Z Z Z (J (D2 Z Z BG Z) (Ad Z Z Z (J (CB Z E0 Z) (Ad Z Z Z (J (Ot Z Z Z) (J (EA Z Z Z Z) (AD (Ac Z (λg=>?_) (λg=>?_)))))))))
      .refine AC (AE (AB Z Z (AD (A4 ?_))));exact ⟨_,[],[],A3 Z,Z,Z,Mp (λh=>by have f:=h.2.2 _ (ξ a);omega),Z⟩
      .refine AZ (AE (dd Z Z (J (Ar Z Z (AO (k+1) (by omega)) Z) (AB Z Z (AD ?_)))));exact ⟨k+1,⟨by show k+1<=_;omega,by rw [χ a];intro i b;rcases ν.1 b with b | b;exact r i b;rw [ζ.1 b];omega⟩,by show p.it.length - (k+1)<p.it.length - k;omega,AY s [1] Z (Z) ⟨Z,Z,trivial⟩⟩
   .refine BC (AC (AE (AB Z Z (AD (A4 ?_)))));exact ⟨_,[],[],A3 Z,Z,Z,oG ⟨by omega,by omega,λi b=>r i (by rw [ς (by have h:=c;omega)];exact b)⟩,Z⟩
def Oh:List eR ->eR ->List eR
 | [],x=> [x]
 | a::l,x=>if ∀y∈a::l,Gc x y<0 then x::a::l else a::Oh l x
def eX (l:List eR):List eR:=l.foldl Oh []
theorem c7 (l:List eR) (x:eR):(Oh l x).length=l.length+1:=by
 induction l with
 | nil=>rfl
 | cons a l b=>
  grind [Oh]
theorem Im (l:List eR) (x:eR):eX (l++ [x])=Oh (eX l) x:=by simp [eX]
theorem jO (l:List eR):(eX l).length=l.length:=by
 induction l using ZU with
 | h0=>rfl
 | h1 l x a=>rw [Im,c7,a];simp
def ez (l:List eR) (r:AM):List Int:=(l.filter λi=>decide (Be i r<0)).map eR.id
theorem Tn (l:List FP) (b:l.length<=1000000):AK prog 86 [.d (.sl none (l.map CF))] (.sl none (l.map CF)):=by
 refine As func86 Z Z ntmps86 Z Z Z λF c=>(AC ?_);refine AE (AB Z Z (XY 2 Z (AD (AC (AC (AE (dd Z Z (FF 3 Z (λa=>?_) ?_))))))))
 .refine J (Dy T1 Z Z) (AD (DO Z (Z) (AC (AE (AB Z Z (XY 2 Z (AD (A4 ?_))))))));exact ⟨_,[],[],A3 Z,Z,Z,by first | (rw [a];done) | (rw [a]),rfl⟩
 .refine J (Dy T1 Z Z) (AD ?_);refine D3 Z (Z) (AZ (AC (AE (V (D6 20 Xt Z Z Z Z Z Z Z Z) (dd Z Z (V (Ex (([]:List FP)) (l) Z Z Z Z Z Z (λ_=>rfl) Xt (by simp only [List.length_nil];omega) Z Z Z Z) (mI (emb:=CF) 7 20 ([]++l) Z Z Z Z Z Z Z (AB Z Z ?_))))))));skip;refine AD (A4 ?_);exact ⟨_,[],[],A3 Z,Z,Z,Z,Z⟩
theorem Tm (l:List O6) (b:l.length<=1000000):AK prog 87 [.d (.sl none (l.map Fk))] (.sl none (l.map Fk)):=by
 refine As func87 Z Z ntmps87 Z Z Z λF c=>(AC ?_);refine AE (AB Z Z (XY 2 Z (AD (AC (AC (AE (dd Z Z (FF 3 Z (λa=>?_) ?_))))))))
 .refine J (Dy ch Z Z) (AD (DO Z (Z) (AC (AE (AB Z Z (XY 2 Z (AD (A4 ?_))))))));exact ⟨_,[],[],A3 Z,Z,Z,by first | (rw [a];done) | (rw [a]),rfl⟩
 .refine J (Dy ch Z Z) (AD ?_);refine D3 Z (Z) (AZ (AC (AE (V (D6 20 aN Z Z Z Z Z Z Z Z) (dd Z Z (V (Ex (([]:List O6)) (l) Z Z Z Z Z Z (λ_=>rfl) aN (by simp only [List.length_nil];omega) Z Z Z Z) (mI (emb:=Fk) 7 20 ([]++l) Z Z Z Z Z Z Z (AB Z Z ?_))))))));skip;refine AD (A4 ?_);exact ⟨_,[],[],A3 Z,Z,Z,Z,Z⟩
theorem d7 (l:List Int) (b:l.length<=1000000):AK prog 89 [.d (.sl none (l.map AF))] (.sl none (l.map AF)):=by
 refine As func89 Z Z ntmps89 Z Z Z λF c=>(AC ?_);refine AE (AB Z Z (XY 2 Z (AD (AC (AC (AE (dd Z Z (FF 3 Z (λa=>?_) ?_))))))))
 .refine J (Dy E0 Z Z) (AD (DO Z (Z) (AC (AE (AB Z Z (XY 2 Z (AD (A4 ?_))))))));exact ⟨_,[],[],A3 Z,Z,Z,by first | (rw [a];done) | (rw [a]),rfl⟩
 .refine J (Dy E0 Z Z) (AD ?_);refine D3 Z (Z) (AZ (AC (AE (V (D6 20 BV Z Z Z Z Z Z Z Z) (dd Z Z (V (Ex (([]:List Int)) (l) Z Z Z Z Z Z (λ_=>rfl) BV (by simp only [List.length_nil];omega) Z Z Z Z) (mI (emb:=AF) 7 20 ([]++l) Z Z Z Z Z Z Z (AB Z Z ?_))))))));skip;refine AD (A4 ?_);exact ⟨_,[],[],A3 Z,Z,Z,Z,Z⟩
theorem lc (i:eR) (c:i.po.length<=1000000) (b:i.pa.length<=1000000) (a:i.af.length<=1000000):AK prog 69 [.d (Af i)] (Af i):=by
 refine As func69 Z Z ntmps69 Z Z Z λF f=>(AC (AE (V (Bz 1 Z Z Z Z Z Z Z) (V (Bn 2 E4 Z Z Z Z) ?_))));refine AD (AC (DB [[],[0],[0,1],[],[3],rg 5,[],[6],rg 8,[0,1,2,3,4,6,7],rg 10,rg 11,rg 12,rg 13,rg 14] mixed Z (DP (AQ [1] Z (AU Z Fn Z Z Z) (CK [3] [1] Z Z (λ_=>A5 (A2 Z Z Z VC Z)) (AQ [4] Z (BT (Tn i.po c) Z Z) (AQ [1] Z (AU Z Gu Z Z Z) (CK [6] [1] Z Z (λ_=>A5 (A2 Z Z Z YN Z)) ?_))))))));refine AQ [7] Z (BT (Tm i.pa b) Z Z) (AQ [1] Z (AU Z Do Z Z Z) (CK [9] [1] Z Z (λ_=>A5 (A2 Z Z Z BG Z)) (AQ [10] Z (BT (d7 i.af a) Z Z) (AQ [1] Z (AU Z Fn Z Z Z) (Cg 10 Z Z Z (Ag 11 Z Z (V (B1 Z Z Z Z Z Z Z ns) (AD ⟨Z,?_⟩))))))));refine Ag 12 Z Z (J (AU Z Gu Z Z Z) (AD ⟨Z,?_⟩));refine Ag 13 Z Z (V (B1 Z Z Z Z Z Z Z nq) (AD ⟨Z,?_⟩));refine Ag 14 Z Z (J (AU Z Do Z Z Z) (AD ⟨Z,?_⟩));refine Ag 15 Z Z (V (B1 Z Z Z Z Z Z Z CZ) (AD ⟨Z,?_⟩));refine Cr (AC (AE (J (BE Z Z Bs Z Z Z) (V (B1 Z Z Z Z Z Z Z CY) (AD (A4 ?_))))));exact ⟨_,[],[],A3 Z,Z,Z,Z,Z⟩
end Go.Proofs.YteifpcnphnhaoaaGreat
