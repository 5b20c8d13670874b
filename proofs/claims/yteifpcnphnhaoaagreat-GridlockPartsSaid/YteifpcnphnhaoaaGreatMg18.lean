import Derived.Test.YteifpcnphnhaoaaGreatMg17
import Derived.Shelf.SlLaysF
import Derived.Shelf.SlLaysF0
import Derived.Shelf.SlLaysNS
import Derived.Test.YteifpcnphnhaoaaGreatProg
open Go.Proofs.Tryz
namespace Go.Proofs.YteifpcnphnhaoaaGreat
open Go.Shelf Go.Proofs Go.Proofs.Tryz
theorem rJ {P:Program} {i:FuncId} {B:Func} (b:(((P.funcs[i]?.map Func.name).getD "")== "runtime.NumGoroutine")=false) (a:P.funcs[i]? =some {B with name:=(P.funcs[i]?.map Func.name).getD "" }):Bears P i B:=⟨_,b,a⟩
def uT:Go.Shelf.Ren:=⟨λx=>match x with
 | 6=>115
 | 15=>137
 | 14=>160
 | 28=>191
 | 29=>192
 | 20=>201
 | 21=>202
 | 22=>203
 | 23=>204
 | 24=>205
 | 25=>206
 | 26=>207
 | 27=>208
 | 46=>240
 | 47=>226
 | 48=>227
 | 49=>241
 | 50=>242
 | 57=>268
 | x=>x,
 λx=>match x with
 | 22=>37
 | 24=>55
 | 25=>214
 | 3=>3
 | 39=>242
 | 0=>0
 | 53=>292
 | 55=>294
 | 4=>4
 | 46=>286
 | 45=>285
 | 50=>132
 | 5=>5
 | 9=>9
 | 66=>327
 | 70=>331
 | 76=>360
 | 77=>361
 | x=>x,λx=>x⟩
theorem nw:SlLaysF0.n6 prog uT:=by
 constructor<;>first | kernel_rfl | (intro w;kernel_rfl) | exact rJ (by kernel_rfl) (by kernel_rfl)
def uU:Go.Shelf.Ren:=⟨λx=>match x with
 | 6=>161
 | 15=>137
 | 14=>209
 | 28=>191
 | 29=>192
 | 20=>243
 | 21=>244
 | 22=>245
 | 23=>246
 | 24=>247
 | 25=>248
 | 26=>249
 | 27=>250
 | 46=>269
 | 47=>226
 | 48=>227
 | 49=>270
 | 50=>271
 | 57=>277
 | x=>x,
 λx=>match x with
 | 22=>215
 | 24=>218
 | 25=>267
 | 3=>3
 | 39=>242
 | 0=>0
 | 53=>292
 | 55=>294
 | 4=>4
 | 46=>286
 | 45=>285
 | 50=>132
 | 5=>5
 | 9=>9
 | 66=>327
 | 70=>331
 | 76=>360
 | 77=>361
 | x=>x,λx=>x⟩
theorem su:SlLaysF0.n6 prog uU:=by
 constructor<;>first | kernel_rfl | (intro w;kernel_rfl) | exact rJ (by kernel_rfl) (by kernel_rfl)
def sO:Go.Shelf.Ren:=⟨λx=>match x with
 | 6=>174
 | 15=>137
 | 14=>212
 | 28=>191
 | 29=>192
 | 20=>251
 | 21=>252
 | 22=>253
 | 23=>254
 | 24=>255
 | 25=>256
 | 26=>257
 | 27=>258
 | 46=>272
 | 47=>226
 | 48=>227
 | 49=>273
 | 50=>274
 | 57=>278
 | x=>x,
 λx=>match x with
 | 22=>227
 | 24=>233
 | 25=>276
 | 3=>3
 | 39=>242
 | 0=>0
 | 53=>292
 | 55=>294
 | 4=>4
 | 46=>286
 | 45=>285
 | 50=>132
 | 5=>5
 | 9=>9
 | 66=>327
 | 70=>331
 | 76=>360
 | 77=>361
 | x=>x,λx=>x⟩
theorem p8:SlLaysF0.n6 prog sO:=by
 constructor<;>first | kernel_rfl | (intro w;kernel_rfl) | exact rJ (by kernel_rfl) (by kernel_rfl)
def uS:Go.Shelf.Ren:=⟨λx=>match x with
 | 53=>128
 | 64=>137
 | 63=>177
 | 78=>191
 | 79=>192
 | 70=>213
 | 71=>214
 | 72=>215
 | 73=>216
 | 74=>217
 | 75=>218
 | 59=>219
 | 76=>220
 | 77=>221
 | 88=>259
 | 89=>226
 | 90=>227
 | 91=>260
 | 92=>261
 | 68=>211
 | 96=>275
 | x=>x,
 λx=>match x with
 | 22=>28
 | 23=>3
 | 3=>3
 | 51=>242
 | 0=>0
 | 67=>292
 | 69=>294
 | 4=>4
 | 61=>286
 | 60=>285
 | 44=>132
 | 5=>5
 | 9=>9
 | 75=>327
 | 79=>331
 | 83=>360
 | 84=>361
 | x=>x,λx=>x⟩
theorem nv:SlLaysN.n53 prog uS:=by
 constructor<;>first | kernel_rfl | (intro w;kernel_rfl) | exact rJ (by kernel_rfl) (by kernel_rfl)
def sN:Go.Shelf.Ren:=⟨λx=>match x with
 | 6=>141
 | 15=>137
 | 14=>195
 | 28=>191
 | 29=>192
 | 20=>231
 | 21=>232
 | 22=>233
 | 23=>234
 | 24=>235
 | 25=>236
 | 26=>237
 | 27=>238
 | 46=>265
 | 47=>226
 | 48=>227
 | 49=>266
 | 50=>267
 | 57=>276
 | x=>x,
 λx=>match x with
 | 22=>177
 | 24=>186
 | 25=>251
 | 3=>3
 | 39=>242
 | 0=>0
 | 53=>292
 | 55=>294
 | 4=>4
 | 46=>286
 | 45=>285
 | 50=>132
 | 5=>5
 | 9=>9
 | 66=>327
 | 70=>331
 | 76=>360
 | 77=>361
 | x=>x,λx=>x⟩
theorem pZ:SlLaysF.n6 prog sN:=by
 constructor<;>first | kernel_rfl | (intro w;kernel_rfl) | exact rJ (by kernel_rfl) (by kernel_rfl)
def sP:Go.Shelf.Ren:=⟨λx=>match x with
 | 6=>83
 | 15=>137
 | 14=>136
 | 28=>191
 | 29=>192
 | 20=>183
 | 21=>184
 | 22=>185
 | 23=>186
 | 24=>187
 | 25=>188
 | 26=>189
 | 27=>190
 | 46=>225
 | 47=>226
 | 48=>227
 | 49=>228
 | 50=>229
 | 57=>264
 | x=>x,
 λx=>match x with
 | 22=>29
 | 24=>28
 | 25=>154
 | 3=>3
 | 39=>242
 | 0=>0
 | 53=>292
 | 55=>294
 | 4=>4
 | 46=>286
 | 45=>285
 | 50=>132
 | 5=>5
 | 9=>9
 | 66=>327
 | 70=>331
 | 76=>360
 | 77=>361
 | x=>x,λx=>x⟩
theorem p9:SlLaysF.n6 prog sP:=by
 constructor<;>first | kernel_rfl | (intro w;kernel_rfl) | exact rJ (by kernel_rfl) (by kernel_rfl)
end Go.Proofs.YteifpcnphnhaoaaGreat
namespace Go.Proofs.YteifpcnphnhaoaaGreat
open Go.RowKit
variable {a:Type} {c:a ->a ->Int} {i:AI} {f:List AT} {g:AT}
set_option maxRecDepth 100000
def MP (i:AI):Int:=if ∃x∈fq (gN i),¬(-Mx<=x.2/\x.2<=Mx) then 12 else 0
theorem md {j:Nat} {v:Int} (b:(fq (gN i))[j]? =some (g,v)) (a:¬(-Mx<=v/\v<=Mx)):(12:Int)=MP i:=by
 unfold MP;rw [ϱ ⟨_,ϑ b,a⟩]
theorem ei (h:∀x∈fq (gN i),-Mx<=x.2/\x.2<=Mx):(0:Int)=MP i:=by grind [MP]
theorem Zg (i:AI) (v:jL i):AK prog 172 [.d (Ag i)] (AF (MP i)):=by
 obtain ⟨M,a⟩:∃M,fq (gN i)=M:=⟨_,Z⟩
 have l:=(RB i v).by [(2,20)] rfl;rw [a] at l;refine At func172 Z Z ntmps172 Z Z Z λF r=>(AC (AE (V (Bo 1 Z Z Z Z Z Z Z) (AB Z Z (AD ?_)))));refine AC (AC (AE (J (Ay Z Z CP Z Z Z) (V (FE l Z [20] ⟨Z,trivial⟩ Z Z Z Z Z Z Z Z Z) (V (Gg 2 Z Z Z CL Z Z Z Z) (AD (AZ (BO (α:=List Nat) (λseen=>⟨15,[(7,(.ptr 2 0 0))],[(2,[.iter 20 0 M.length seen]),(20,[BT Bc AF M])]⟩) (λseen=>∀x∈M,x∈Bz M (List.range M.length) seen\/(-Mx<=x.2/\x.2<=Mx)) (λseen=>(Bz M (List.range M.length) seen).length) ([]) (λx c=> .inl (by rw [nG (by simp)];exact c)) (AY r [2,20] Z Z ⟨Z,trivial⟩) ?_))))))));intro seen o;refine AC (AE (Lk (M) Z Z Z Z (λj=>?_) (λu s y t g k w f=>⟨_,Z,?_⟩)))
 .refine J (DC Z Z Z) ?_;refine AD (AC (Cm Z Z (Aw (AC (AE (AB Z Z (AD (A4 ?_))))))));exact ⟨_,[],[],A2 Z,Z,Z,Ab (ei λx c=>by rw [a] at c;exact (o x c).elim (λh=>by rw [j] at h;cases h) id),Z⟩
 .refine J (DC Z Z Z) ?_;refine AD (AC (Bx Z Z (AX (AZ (AC (AE (J (Gh (M) u s Z Z Z g k Z) (J (DC Z Z Z) ?_))))))));refine AB Z Z (AD (AC (AE (fZ Z Z (J (As (HK t (-1000000000000000) 1000000000000000) Z Z) (J (Jw Z Z) (AD (A9 Z (λb=>?_) (λb=>?_)))))))))
  .refine AC (AE (AB Z Z (AD (A4 ?_))));exact ⟨_,[],[],A2 Z,Z,Z,Ab (md (by rw [a];exact g) (by simpa [Mx] using b)),Z⟩
  .refine AX ?_;exact ⟨seen++ [s],λx c=>(o x c).elim (λh=>(Υ.1 (f.mem_iff.1 h)).elim (λe=> .inr (by rw [e];simpa [Mx] using b)) .inl) .inr,by rw [f.length_eq];exact io _,AY r [2,20] Z (Z) ⟨Z,trivial⟩⟩
theorem Ul {b:Type} {l:List b} {f:b ->Int}:BM (l.map f)=0↔∀x∈l,f x=0:=by
 induction l with
 | nil=>simp [BM]
 | cons a l c=>
  grind [BM]
def Ra (i:AI):List (FuncId×Int):=[(168,Ff i),(169,KO i),(170,NC i),(171,LJ i),(172,MP i)]
def Ar (i:AI):Int:=if ¬(0<=i.id/\i.id<=1000000000)\/¬(0<=i.sq/\i.sq<=1000000000)\/¬(0<=i.pr/\i.pr<=2) then 2 else if 256<i.po.length\/256<i.pa.length\/256<i.af.length then 8 else BM ((Ra i).map Prod.snd)
theorem RU (h:Ff i=0):∀p∈i.po,-Mx<=p.d/\p.d<=Mx:=λp a=>by
 have:=Ul.1 h p a;unfold IU at this
 split at this; · cases this
 split at this; · cases this
 split at this; · cases this
 rename_i h;exact Decidable.of_not_not h
theorem bv (h:KO i=0):∀p∈i.pa,0<=p.n/\p.n<=Mx:=λp a=>by
 have:=Ul.1 h p a;unfold JS at this
 split at this; · cases this
 split at this; · cases this
 split at this; · cases this
 rename_i h;exact Decidable.of_not_not h
theorem tM (i:AI) (b:i.po.length<=256) (g:i.pa.length<=256) (f:i.af.length<=256) {k:Nat} (c:k<(Ra i).length) (a:∀j,j<k ->((Ra i)[j]?).map Prod.snd=some 0):AK prog (Ra i)[k].1 [.d (Ag i)] (AF (Ra i)[k].2):=by
 match k,c with
 | 0,_=>exact V9 i (by omega)
 | 1,_=>exact Va i (by omega)
 | 2,_=>exact mp i (by omega)
 | 3,_=>exact WQ i b (RU (by have:=a 0 (by omega);simpa [Ra] using this))
 | 4,_=>exact Zg i ⟨b,g,f,RU (by have:=a 0 (by omega);simpa [Ra] using this),bv (by have:=a 1 (by omega);simpa [Ra] using this)⟩
def vO (i:AI) (p:FuncId×Int):D:= .fn p.1 [Ag i] []
theorem LG (i:AI) (B:i.po.length<=140737488355328) (A:i.pa.length<=140737488355328) (z:i.af.length<=140737488355328):AK prog 123 [.d (Ag i)] (AF (Ar i)):=by
 refine At func123 Z Z ntmps123 Z Z Z λF u=>(AC (AE (V (Bo 1 Z Z Z Z Z Z Z) (AB Z Z (AD (AC ?_))))));refine AZ (AC (AE (J (AN Z PQ Z Z Z) (J (AP Z Z Z An Z) (J (As (IL _ _ _) Z Z) (J (Jw Z Z) (fZ Z Z (C3 11 Z (λt=>?_) (λt=>?_)))))))))
 .refine AL Z Z Z Z ?_;refine AL Z Z Z Z (AL Z Z Z Z (AL Z Z Z Z (J (B5 Z Z Z Z) (fZ Z Z (AL Z Z Z Z (AL Z Z Z Z (AL Z Z Z Z (AL Z Z Z Z ?_))))))));refine J (B5 Z Z Z Z) (AB Z Z (AD (Bx Z Z (AC (AE (AB Z Z (AD (A4 ?_))))))));exact ⟨_,[],[],A2 Z,Z,Z,Ab (by unfold Ar;rw [ϱ (by omega)]),Z⟩
 .refine AQ Z Z Z (J (AN Z On Z Z Z) ?_);refine AQ Z Z Z (J (AP Z Z Z An Z) (AQ Z Z Z (J (As (IL _ _ _) Z Z) (AQ Z Z Z (J (Jw Z Z) (J (Bk Z Z Z Z) (fZ Z Z (C3 17 Z (λs=>?_) (λs=>?_)))))))))
  .refine AL Z Z Z Z (AL Z Z Z Z (AL Z Z Z Z (AL Z Z Z Z ?_)));refine J (B5 Z Z Z Z) (AB Z Z (AD (Bx Z Z (AC (AE (AB Z Z (AD (A4 ?_))))))));exact ⟨_,[],[],A2 Z,Z,Z,Ab (by unfold Ar;rw [ϱ (by omega)]),Z⟩
  .refine AQ Z Z Z (J (AN Z WB Z Z Z) (AQ Z Z Z ?_));refine J (AP Z Z Z An Z) (AQ Z Z Z (J (As (IL _ _ _) Z Z) (AQ Z Z Z (J (Jw Z Z) (J (Bk Z Z Z Z) (AB Z Z (AD (A9 Z (λy=>?_) (λy=>?_)))))))))
   .refine AC (AE (AB Z Z (AD (A4 ?_))));exact ⟨_,[],[],A2 Z,Z,Z,Ab (by unfold Ar;rw [ϱ (by omega)]),Z⟩
   .refine AC (AE (J (AN Z G3 Z Z Z) (J (AP Z Z Z Vd Z) (J (Ba Z fW Z) (J (HF Z Z Z) (fZ Z Z (C3 28 Z (λo=>?_) (λo=>?_))))))))
    .refine AL Z Z Z Z ?_;refine AL Z Z Z Z (AL Z Z Z Z (AL Z Z Z Z (J (B5 Z Z Z Z) (fZ Z Z (AL Z Z Z Z (AL Z Z Z Z (AL Z Z Z Z (AL Z Z Z Z ?_))))))));refine J (B5 Z Z Z Z) (AB Z Z (AD (Bx Z Z (AC (AE (AB Z Z (AD (A4 ?_))))))));exact ⟨_,[],[],A2 Z,Z,Z,Ab (by unfold Ar;rw [θ (by omega),ϱ (by omega)]),Z⟩
    .refine AQ Z Z Z (J (AN Z Hj Z Z Z) ?_);refine AQ Z Z Z (J (AP Z Z Z Yu Z) (AQ Z Z Z (J (Ba Z fY Z) (AQ Z Z Z (J (HF Z Z Z) (J (Bk Z Z Z Z) (fZ Z Z (C3 34 Z (λl=>?_) (λl=>?_)))))))))
     .refine AL Z Z Z Z (AL Z Z Z Z (AL Z Z Z Z (AL Z Z Z Z ?_)));refine J (B5 Z Z Z Z) (AB Z Z (AD (Bx Z Z (AC (AE (AB Z Z (AD (A4 ?_))))))));exact ⟨_,[],[],A2 Z,Z,Z,Ab (by unfold Ar;rw [θ (by omega),ϱ (by omega)]),Z⟩
     .refine AQ Z Z Z (J (AN Z EV Z Z Z) (AQ Z Z Z ?_));refine J (AP Z Z Z BL Z) (AQ Z Z Z (J (Ba Z ch Z) (AQ Z Z Z (J (HF Z Z Z) (J (Bk Z Z Z Z) (AB Z Z (AD (A9 Z (λr=>?_) (λr=>?_)))))))))
      .refine AC (AE (AB Z Z (AD (A4 ?_))));exact ⟨_,[],[],A2 Z,Z,Z,Ab (by unfold Ar;rw [θ (by omega),ϱ (by omega)]),Z⟩
      .refine AX (AC ?_);refine AC (AE (J (Ay Z Z CP Z Z Z) (J (Xy (ds:=[Ag i]) (es:=[]) Z Z Z Z Z) (J (Ay Z Z CP Z Z Z) (J (Xy (ds:=[Ag i]) (es:=[]) Z Z Z Z Z) (J (Ay Z Z CP Z Z Z) (J (Xy (ds:=[Ag i]) (es:=[]) Z Z Z Z Z) (J (Ay Z Z CP Z Z Z) ?_))))))));refine J (Xy (ds:=[Ag i]) (es:=[]) Z Z Z Z Z) (J (Ay Z Z CP Z Z Z) (J (Xy (ds:=[Ag i]) (es:=[]) Z Z Z Z Z) (V (C5 2 sE Z Z Z Z Z Z Z Z) (J (Qp Z underlying273 Z) (fZ Z Z (AD (AZ (BO (α:=Nat) (λk=>⟨62,[(50,(.own 2 0 5)),(51,(.d (AF 5))),(52,(.d (AF (k:Int))))],[(2,[.rowD 146 1 ((Ra i).map (vO i))])]⟩) (λk=>k<=5/\BM ((Ra i).map Prod.snd)=BM (((Ra i).drop k).map Prod.snd)/\∀j,j<k ->((Ra i)[j]?).map Prod.snd=some 0) (λk=>5 - k) (0) (⟨ζ _,Z,λj h=>absurd h (Nat.not_lt_zero j)⟩) (AY u [2] Z Z Qs) ?_))))))));rintro k ⟨w,g,f⟩;refine AC (AE (J (BB Z Z Z) (AD (AC (A9 Z (λc=>?_) (λc=>?_))))))
       .have a:k<(Ra i).length:=by show k<5;have h:=c;omega
        refine AX (AC (AZ (AC (AE ?_))));have v:=kB a g;refine J (DB (k) Z Z (Z) (by show k<5;exact a) Z underlying273 sD Z) (J (EA Z Z (A5 a) Z se Z) (AB Z Z (AD (AC (AE (fZ Z Z ?_))))));refine J (LX (tM i (by omega) (by omega) (by omega) a f) Z Z) (AB Z Z (AD (AC (AE (fZ Z Z (J (Cw Z Z Z) (AD (A9 Z (λb=>?_) (λb=>?_)))))))))
        .refine AC (AE (fZ Z Z (AB Z Z (AD (A4 ?_)))));exact ⟨_,[],[],A2 Z,Z,Z,Ab (by unfold Ar;rw [θ (by omega),θ (by omega)];exact v.2 _ Z (by simpa using b)),Z⟩
        .refine AX (AE (J (Al Z Z (AM (k+1) (by omega)) Z) (fZ Z Z (AD ?_))));exact ⟨k+1,⟨by show k+1<=_;omega,v.1 (by simpa using b),λj x=>(Nat.lt_succ_iff_lt_or_eq.1 x).elim (f j) λh=>by subst h;rw [ω a];show some _=_;congr 1;simpa using b⟩,by show 5 - (k+1)<5 - k;omega,AY u [2] Z (Z) Qs⟩
       .refine Aw (AC (AE (AB Z Z (AD (A4 ?_)))));exact ⟨_,[],[],A2 Z,Z,Z,Ab (by unfold Ar;rw [θ (by omega),θ (by omega),g,DK (by have h:=c;show ¬k<5;omega)]),Z⟩
theorem sa (l:List Int) (j:l.length<=140737488355328):AK prog 165 [.d (.sl none (l.map AF))] (AF (BM l)):=by
 refine At func165 Z Z ntmps165 Z Z Z λF o=>(AC (AE (AB Z Z (AD (AC (AE (AB Z Z (AD ?_))))))));refine AC (AC (AE (fZ Z Z (J (Ba Z ch Z) (fZ Z Z (AD (AZ (G7 (α:=Nat) (λk=>⟨18,[(3,(.d (AF 0))),(6,(.d (.sl none (l.map AF)))),(7,(.d (AF (l.length:Int)))),(8,(.d (AF (k:Int))))],[]⟩) (λk=>k<=l.length/\BM (l.map id)=BM ((l.drop k).map id)) (λk=>l.length - k) (0) (⟨ζ _,Z⟩) (Zz E0) ?_))))))));rintro k ⟨i,c⟩;refine AC (AE (J (BB Z Z Z) (AD (AC (A9 Z (λf=>?_) (λf=>?_))))))
 .have b:k<l.length:=BR f;refine AX (AC (AZ (AC (AE ?_))));have g:=kB b c;refine J (BJ (k) Z Z (Z) (A5 b) ch Z BU Z) (J (CI Z Z An Z) ?_);refine AB Z Z (AD (AC (AE (fZ Z Z (fZ Z Z (J (Cw Z Z Z) (AD (A9 Z (λa=>?_) (λa=>?_)))))))))
  .refine AC (AE (fZ Z Z (AB Z Z (AD (A4 ?_)))));exact ⟨_,[],[],A2 Z,Z,Z,Ab ((g.2 l[k] Z (by simpa using a)).trans (by rw [List.map_id])),Z⟩
  .refine AX (AE (J (Al Z Z (AM (k+1) (by omega)) Z) (fZ Z Z (AD ?_))));exact ⟨k+1,⟨by show k+1<=_;omega,g.1 (by simpa using a)⟩,by show l.length - (k+1)<l.length - k;omega,⟨Z,Z,λ_ _=>SU.get (l:=[(3,_),(6,_),(7,_),(8,_)]) E0⟩⟩
 .refine Aw (AC (AE (fZ Z Z (AB Z Z (AD (A4 ?_))))));exact ⟨_,[],[],A2 Z,Z,Z,Ab (by rw [List.map_id] at c;rw [c,DK (by have h:=f;omega)]),Z⟩
def Bf (a b:AT):Int:=BM [Dz a.k b.k,Df a.acc.o b.acc.o,Dz a.acc.k b.acc.k,Df a.acc.a b.acc.a,Df a.f b.f,Df a.t b.t]
def EP (a b:AI):Int:=BM [Dz b.pr a.pr,Dz a.sq b.sq]
set_option maxHeartbeats 2000000 in
theorem MM (a b:AT):AK prog 143 [.d (Bc a),.d (Bc b)] (AF (Bf a b)):=by
 refine At func143 Z Z ntmps143 Z Z Z λF c=>(AC (AE (V (Bo 1 Z Z Z Z Z Z Z) ?_)));refine V (Bo 2 Z Z Z Z Z Z Z) (AB Z Z (AD (AC (CZ [[],[0],[],[2],[0,1,2,3],[],[5],[5,6],[],[8],[8,9],rg 11,[],[12],[12,13],[],[15],[15,16],rg 18,[],[19],[19,20],[],[22],[22,23],rg 25,[],[26],[],[28],rg 30,[],[31],[],[33],rg 35,rg 36,rg 37,rg 38] mixed Z (CG (AU [2] Z (AN Z WA Z Z Z) (Au [5] Z Z (λ_=>Ae (AP Z Z Z An Z)) (AU [3] Z (AN Z WA Z Z Z) ?_))))))));refine Au [7] Z Z (λ_=>Ae (AP Z Z Z An Z)) (AU [6,8] Z (As (SC a.k b.k) Z Z) (AU [2] Z (AN Z Ey Z Z Z) (AU [10] Z (AN Z Rl Z Z Z) (Au [11] Z Z (λ_=>Ae (AP Z Z Z CK Z)) (AU [3] Z (AN Z Ey Z Z Z) (AU [13] Z (AN Z Rl Z Z Z) (Au [14] Z Z (λ_=>Ae (AP Z Z Z CK Z)) (AU [12,15] Z (As (SB a.acc.o b.acc.o) Z Z) ?_))))))));refine AU [2] Z (AN Z Ey Z Z Z) (AU [17] Z (AN Z Om Z Z Z) (Au [18] Z Z (λ_=>Ae (AP Z Z Z An Z)) (AU [3] Z (AN Z Ey Z Z Z) (AU [20] Z (AN Z Om Z Z Z) (Au [21] Z Z (λ_=>Ae (AP Z Z Z An Z)) (AU [19,22] Z (As (SC a.acc.k b.acc.k) Z Z) (AU [2] Z (AN Z Ey Z Z Z) (AU [24] Z (AN Z Ol Z Z Z) ?_))))))));refine Au [25] Z Z (λ_=>Ae (AP Z Z Z CK Z)) (AU [3] Z (AN Z Ey Z Z Z) (AU [27] Z (AN Z Ol Z Z Z) (Au [28] Z Z (λ_=>Ae (AP Z Z Z CK Z)) (AU [26,29] Z (As (SB a.acc.a b.acc.a) Z Z) (AU [2] Z (AN Z ME Z Z Z) (Au [31] Z Z (λ_=>Ae (AP Z Z Z CK Z)) (AU [3] Z (AN Z ME Z Z Z) (Au [33] Z Z (λ_=>Ae (AP Z Z Z CK Z)) ?_))))))));refine AU [32,34] Z (As (SB a.f b.f) Z Z) (AU [2] Z (AN Z MD Z Z Z) (Au [36] Z Z (λ_=>Ae (AP Z Z Z CK Z)) (AU [3] Z (AN Z MD Z Z Z) (Au [38] Z Z (λ_=>Ae (AP Z Z Z CK Z)) (CB 35 Z Z Z (Ad 36 Z Z (J (As (SB a.t b.t) Z Z) (AD ⟨Z,?_⟩))))))));refine Ad 37 Z Z (V (C5 3 BP Z Z Z Z Z Z Z Z) (AD ⟨Z,?_⟩));refine Ad 38 Z Z (J (EK [3] (sa [Dz a.k b.k,Df a.acc.o b.acc.o,Dz a.acc.k b.acc.k,Df a.acc.a b.acc.a,Df a.f b.f,Df a.t b.t] (by simp)) (by exact ⟨.inr ⟨_,_,Z,.own Z Z (by simp) (κ (by simp)),Z⟩,trivial⟩) Z Z) (AD ⟨Z,?_⟩));refine Ad 39 Z Z (AB Z Z (AD ⟨Z,?_⟩));refine CM (A4 ?_);exact ⟨_,[],[],A2 Z,Z,Z,Z,Z⟩
theorem Wv (a b:AI):AK prog 122 [.d (Ag a),.d (Ag b)] (AF (EP a b)):=by
 refine At func122 Z Z ntmps122 Z Z Z λF c=>(AC (AE (V (Bo 1 Z Z Z Z Z Z Z) (V (Bo 2 Z Z Z Z Z Z Z) ?_))));refine AB Z Z (AD (AC (CZ [[],[0],[],[2],[0,1,2,3],[],[5],[],[7],rg 9,rg 10,rg 11,rg 12] mixed Z (CG (AU [3] Z (AN Z WB Z Z Z) (Au [5] Z Z (λ_=>Ae (AP Z Z Z An Z)) (AU [2] Z (AN Z WB Z Z Z) (Au [7] Z Z (λ_=>Ae (AP Z Z Z An Z)) ?_))))))));refine AU [6,8] Z (As (SC b.pr a.pr) Z Z) (AU [2] Z (AN Z On Z Z Z) (Au [10] Z Z (λ_=>Ae (AP Z Z Z An Z)) (AU [3] Z (AN Z On Z Z Z) (Au [12] Z Z (λ_=>Ae (AP Z Z Z An Z)) (CB 9 Z Z Z (Ad 10 Z Z (J (As (SC a.sq b.sq) Z Z) (AD ⟨Z,?_⟩))))))));refine Ad 11 Z Z (V (C5 3 BP Z Z Z Z Z Z Z Z) (AD ⟨Z,?_⟩));refine Ad 12 Z Z (J (EK [3] (sa [Dz b.pr a.pr,Dz a.sq b.sq] (by simp)) (by exact ⟨.inr ⟨_,_,Z,.own Z Z (by simp) (κ (by simp)),Z⟩,trivial⟩) Z Z) (AD ⟨Z,?_⟩));refine Ad 13 Z Z (AB Z Z (AD ⟨Z,?_⟩));refine CM (A4 ?_);exact ⟨_,[],[],A2 Z,Z,Z,Z,Z⟩
theorem ep (a b:AI):AK prog 117 [.d (Ag a),.d (Ag b)] (.raw (.bool (decide (EP a b<0)))):=by
 refine At func117 Z Z ntmps117 Z Z Z λF c=>(AC (AE (V (Bo 1 Z Z Z Z Z Z Z) (V (Bo 2 Z Z Z Z Z Z Z) (AB Z Z (AD ?_))))));refine AC (AE (J (Ay Z Z CP Z Z Z) (J (Ay Z Z CP Z Z Z) (J (As (Wv a b) Z Z) (J (BB Z Z Z) (AB Z Z (AD (A4 ?_))))))));exact ⟨_,[],[],A2 Z,Z,Z,Z,Z⟩
def Pg (x:AT×Int):D:= .agg [AF x.1.k,Am x.1.acc.o,AF x.1.acc.k,Am x.1.acc.a,Am x.1.f,Am x.1.t,AF x.2]
theorem Z6 (a b:AT×Int):AK prog 162 [.d (Pg a),.d (Pg b)] (AF (Bf a.1 b.1)):=by
 refine At func162 Z Z ntmps162 Z Z Z λF c=>(AC (AE (V (Bo 1 Z Z Z Z Z Z Z) (V (Bo 2 Z Z Z Z Z Z Z) (AB Z Z (AD (AC ?_)))))));refine AE (J (AN Z Kn Z Z Z) (J (Ay Z Z Cc Z Z Z) (J (AN Z Kn Z Z Z) (J (Ay Z Z Cc Z Z Z) (J (As (MM a.1 b.1) Z Z) (AB Z Z (AD (A4 ?_))))))));exact ⟨_,[],[],A2 Z,Z,Z,Z,Z⟩
theorem Lq:∀a b c:List UInt8,R2 a b=true ->R2 b c=true ->R2 a c=true
 | [],[],_,h,_=>by simp [R2,Op.bytesLess] at h
 | [],_::_,[],_,h=>by simp [R2,Op.bytesLess] at h
 | [],_::_,_::_,_,_=>by simp [R2,Op.bytesLess]
 | _::_,[],_,h,_=>by simp [R2,Op.bytesLess] at h
 | _::_,_::_,[],_,h=>by simp [R2,Op.bytesLess] at h
 | a::x,b::y,c::z,g,f=>by
  simp only [R2,Op.bytesLess,Bool.or_eq_true,iz,gW,beq_iff_eq] at g f⊢;rcases g with g | ⟨rfl,g⟩<;>rcases f with f | ⟨rfl,f⟩
  .exact .inl (UInt8.lt_trans g f)
  .exact .inl g
  .exact .inl f
  .exact .inr ⟨Z,Lq x y z g f⟩
theorem Vk (a:List UInt8):R2 a a=false:=by grind [JH,R2]
structure PC {γ:Type} (c:γ ->γ ->Int):Prop where
 anti:∀x y,c y x= - c x y
 trans:∀x y z,c x y<0 ->c y z<0 ->c x z<0
 eqv:∀x y z,c x y=0 ->c x z=c y z
theorem iF:PC Dz:=⟨λx y=>by unfold Dz;split<;>split<;>first | omega | rfl,λx y z=>by unfold Dz;split<;>split<;>(try split)<;>(try split)<;>(try split)<;>(try split)<;>first | omega | simp,λx y z h=>by
 have:x=y:=by
  unfold Dz at h;split at h; · cases h
  split at h; · cases h
  omega
 rw [this]⟩
theorem Qj {a b:List UInt8}:Df a b=0↔a=b:=by grind [Df,JH,R2]
theorem PB {a b:List UInt8}:Df a b<0↔R2 a b=true:=by grind [Df]
theorem iE:PC Df:=⟨λx y=>by
 unfold Df
 by_cases b:R2 x y=true
 .have a:¬R2 y x=true:=λa=>by have:=Lq x y x b a;rw [Vk] at this;cases this
  rw [θ a,ϱ b,ϱ b];rfl
 .by_cases a:R2 y x=true
  .rw [ϱ a,θ b,ϱ a]
  .rw [θ a,θ b,θ b,θ a];rfl,λx y z b a=>PB.2 (Lq x y z (PB.1 b) (PB.1 a)),λx y z h=>by rw [Qj.1 h]⟩
theorem PC.comap {b:Type} (h:PC c) (f:b ->a):PC λx y=>c (f x) (f y):=⟨λ_ _=>h.anti _ _,λ_ _ _=>h.trans _ _ _,λ_ _ _=>h.eqv _ _ _⟩
theorem PC.rev (h:PC c):PC λx y=>c y x:=⟨λx y=>h.anti y x,λx y z b f=>h.trans _ _ _ f b,λx y z b=>by
 have e:c x y=0:=by have:=h.anti y x;omega
 have:=h.eqv x y z e
 rw [h.anti x z,h.anti y z,this]⟩
theorem PC.zero:PC λ_ _:a=>(0:Int):=⟨λ_ _=>rfl,λ_ _ _ h=>by omega,λ_ _ _ _=>rfl⟩
theorem PC.lex {r:a ->a ->List Int} (h:PC c) (k:PC λx y=>BM (r x y)):PC λx y=>BM (c x y::r x y):=by
 have l:∀x y,c x y=0↔c y x=0:=λx y=>by have:=h.anti x y;omega
 refine ⟨λx y=>?_,λx y z=>?_,λx y z=>?_⟩
 .simp only [BM]
  by_cases e:c x y=0
  .rw [ϱ e,ϱ ((l x y).1 e)];exact k.anti x y
  .rw [θ e,θ (λo=>e ((l x y).2 o))];exact h.anti x y
 .simp only [BM];intro b g
  by_cases f:c x y=0<;>by_cases i:c y z=0
  .have j:c x z=0:=by rw [h.eqv x y z f];exact i
   rw [ϱ f] at b;rw [ϱ i] at g;rw [ϱ j];exact k.trans x y z b g
  .rw [θ i] at g;have j:c x z=c y z:=h.eqv x y z f;omega
  .rw [θ f] at b;have j:c z x=c y x:=(h.eqv y z x i).symm;have s:c x z=c x y:=by rw [h.anti z x,h.anti y x,j]
   omega
  .rw [θ f] at b;rw [θ i] at g;have:=h.trans x y z b g;omega
 .simp only [BM];intro b
  have f:c x y=0:=by
   omega
  rw [ϱ f] at b;rw [h.eqv x y z f];rw [k.eqv x y z b]
theorem PC.last:PC λx y:a=>BM ((λ_ _:a=>([]:List Int)) x y):=PC.zero
theorem PZ:PC Bf:=
 PC.lex (iF.comap AT.k)<| PC.lex (iE.comap λr:AT=>r.acc.o)<| PC.lex (iF.comap λr:AT=>r.acc.k)<| PC.lex (iE.comap λr:AT=>r.acc.a)<| PC.lex (iE.comap AT.f)<| PC.lex (iE.comap AT.t) PC.last
theorem Dp:PC EP:=PC.lex (iF.comap AI.pr).rev<| PC.lex (iF.comap AI.sq) PC.last
theorem PC.refl (h:PC c) (x:a):c x x=0:=by have:=h.anti x x;omega
theorem PC.swo (h:PC c):Go.Sort.SWO (ltOf c):=by
 refine ⟨λx=>?_,λx y z f b=>?_,λx y z f b=>?_⟩
 .simp [ltOf,h.refl]
 .simp only [ltOf,iz] at*;exact h.trans x y z f b
 .simp only [ltOf,decide_eq_false_iff_not] at*;have k:=h.anti x y;have j:=h.anti y z;have i:=h.anti x z
  by_cases e:c x y=0
  .rw [h.eqv x y z e];exact b
  .by_cases g:c y z=0
   .have:=h.eqv y z x g;omega
   .have:=h.trans z y x (by omega) (by omega);omega
theorem Qk {a b:Int}:Dz a b=0↔a=b:=by grind [Dz]
theorem EY {a b:AT}:Bf a b=0↔a=b:=by grind [Bf,BM,AT.eq_iff,Ut.eq_iff,Qk,Qj]
theorem DP {k:Type} {R:k ->k ->Prop} (c:∀x,¬R x x) (o:∀x y z,R x y ->R y z ->R x z):∀{l m:List k},l.Pairwise R ->m.Pairwise R ->(∀x,x∈l↔x∈m) ->l=m
 | [],[],_,_,_=>rfl
 | [],b::m,_,_,h=>by have:=(h b).2 (by simp);cases this
 | a::l,[],_,_,h=>by have:=(h a).1 (by simp);cases this
 | a::l,b::m,j,i,h=>by
  rw [jA] at j i
  have e:a=b:=by
   rcases Υ.1 ((h a).1 (by simp)) with e | g
   .exact e
   .rcases Υ.1 ((h b).2 (by simp)) with e | r
    .exact e.symm
    .exact absurd (o _ _ _ (j.1 b r) (i.1 a g)) (c a)
  subst e
  congr 1
  refine DP c o j.2 i.2 λx=>⟨λf=>?_,λf=>?_⟩
  .rcases Υ.1 ((h x).1 (by simp [f])) with e | g
   .subst e;exact absurd (j.1 x f) (c x)
   .exact g
  .rcases Υ.1 ((h x).2 (by simp [f])) with e | g
   .subst e;exact absurd (i.1 x f) (c x)
   .exact g
abbrev SI:Ut:=⟨[],0,[]⟩
def CF (r:AT):Int:=
 if r.k=0 then (if r.acc.o≠ []/\r.acc.a≠ []/\0<=r.acc.k/\r.acc.k<5/\r.f=[]/\r.t=[] then 0 else 3)
 else if r.k=1 then (if r.f≠ []/\r.t≠ []/\r.f≠r.t/\r.acc=SI then 0 else 3)
 else if r.k=2 then (if r.f≠ []/\r.t=[]/\r.acc=SI then 0 else 3) else 11
theorem W2 (r:AT):AK prog 124 [.d (Bc r)] (AF (CF r)):=by
 refine At func124 Z Z ntmps124 Z Z Z λF v=>(AC (AE (V (Bo 1 Z Z Z Z Z Z Z) (AB Z Z ?_))));refine AD (AC (AE (AB Z Z (AD (AC (AC (AE (J (AN Z WA Z Z Z) ?_))))))));refine J (AP Z Z Z An Z) (AD (AZ (AC (AE (J (GF Z Z Z) (AB Z Z (AD (A9 Z (λu=>?_) (λu=>?_)))))))));refine AE (J (AN Z Ey Z Z Z) (J (AN Z Rl Z Z Z) (J (AP Z Z Z CK Z) (J (DE Z Z Z) (fZ Z Z (C3 12 Z (λt=>?_) (λt=>?_)))))));refine AQ Z Z Z (J (AN Z Ey Z Z Z) ?_);refine AQ Z Z Z (J (AN Z Ol Z Z Z) (AQ Z Z Z (J (AP Z Z Z CK Z) (AQ Z Z Z (J (DE Z Z Z) (J (B5 Z Z Z Z) (fZ Z Z (C3 18 Z (λs=>?_) (λs=>?_)))))))));refine AQ Z Z Z (J (AN Z Ey Z Z Z) ?_);refine AQ Z Z Z (J (AN Z Om Z Z Z) (AQ Z Z Z (J (AP Z Z Z An Z) (AQ Z Z Z (J (EJ Z Z Z) (J (B5 Z Z Z Z) (fZ Z Z (C3 24 Z (λo=>?_) (λo=>?_)))))))));refine AQ Z Z Z (J (AN Z Ey Z Z Z) ?_);refine AQ Z Z Z (J (AN Z Om Z Z Z) (AQ Z Z Z (J (AP Z Z Z An Z) (AQ Z Z Z (J (BB Z Z Z) (J (B5 Z Z Z Z) (fZ Z Z (C3 30 Z (λl=>?_) (λl=>?_)))))))));refine AQ Z Z Z (J (AN Z ME Z Z Z) (AQ Z Z Z (J (AP Z Z Z CK Z) (AQ Z Z Z (J (Jx Z Z Z) (J (B5 Z Z Z Z) (fZ Z Z (C3 35 Z (λk=>?_) (λk=>?_)))))))));refine AQ Z Z Z (J (AN Z MD Z Z Z) (AQ Z Z Z (J (AP Z Z Z CK Z) (AQ Z Z Z (J (Jx Z Z Z) (J (B5 Z Z Z Z) ?_))))));refine AB Z Z (AD (AC (AC (AE (fZ Z Z (J (Jw Z Z) (AD (A9 Z (λa=>?_) (λa=>?_)))))))))
 rotate_left
 refine AX ?_
 rotate_left
 refine AL Z Z Z Z (AL Z Z Z Z (AL Z Z Z Z (J (Bk Z Z Z Z) ?_)));refine AB Z Z (AD (AC (AC (AE (fZ Z Z (J (E4 Z Z) (AD (Bx Z Z ?_))))))))
 rotate_left
 refine AL Z Z Z Z (AL Z Z Z Z (AL Z Z Z Z (J (Bk Z Z Z Z) (fZ Z Z (AL Z Z Z Z (AL Z Z Z Z (AL Z Z Z Z (J (Bk Z Z Z Z) ?_))))))));refine AB Z Z (AD (AC (AC (AE (fZ Z Z (J (E4 Z Z) (AD (Bx Z Z ?_))))))))
 rotate_left
 refine AL Z Z Z Z (AL Z Z Z Z (AL Z Z Z Z (AL Z Z Z Z (J (Bk Z Z Z Z) (fZ Z Z ?_)))));refine AL Z Z Z Z (AL Z Z Z Z (AL Z Z Z Z (J (Bk Z Z Z Z) (fZ Z Z (AL Z Z Z Z (AL Z Z Z Z (AL Z Z Z Z (J (Bk Z Z Z Z) ?_))))))));refine AB Z Z (AD (AC (AC (AE (fZ Z Z (J (E4 Z Z) (AD (Bx Z Z ?_))))))))
 rotate_left
 refine AL Z Z Z Z (AL Z Z Z Z (AL Z Z Z Z ?_));refine AL Z Z Z Z (J (Bk Z Z Z Z) (fZ Z Z (AL Z Z Z Z (AL Z Z Z Z (AL Z Z Z Z (AL Z Z Z Z (J (Bk Z Z Z Z) (fZ Z Z ?_))))))));refine AL Z Z Z Z (AL Z Z Z Z (AL Z Z Z Z (J (Bk Z Z Z Z) (fZ Z Z (AL Z Z Z Z (AL Z Z Z Z (AL Z Z Z Z (J (Bk Z Z Z Z) ?_))))))));refine AB Z Z (AD (AC (AC (AE (fZ Z Z (J (E4 Z Z) (AD (Bx Z Z ?_))))))))
 rotate_left
 refine AL Z Z Z Z (AL Z Z Z Z (AL Z Z Z Z (AL Z Z Z Z (J (Bk Z Z Z Z) (fZ Z Z (AL Z Z Z Z (AL Z Z Z Z (AL Z Z Z Z ?_))))))));refine AL Z Z Z Z (J (Bk Z Z Z Z) (fZ Z Z (AL Z Z Z Z (AL Z Z Z Z (AL Z Z Z Z (AL Z Z Z Z (J (Bk Z Z Z Z) (fZ Z Z ?_))))))));refine AL Z Z Z Z (AL Z Z Z Z (AL Z Z Z Z (J (Bk Z Z Z Z) (fZ Z Z (AL Z Z Z Z (AL Z Z Z Z (AL Z Z Z Z (J (Bk Z Z Z Z) ?_))))))));refine AB Z Z (AD (AC (AC (AE (fZ Z Z (J (E4 Z Z) (AD (Bx Z Z ?_))))))))
 rotate_left
 refine AC (AE (J (GF Z Z Z) (AB Z Z (AD (A9 Z (λj=>?_) (λj=>?_))))));refine AE (J (AN Z ME Z Z Z) (J (AP Z Z Z CK Z) (J (DE Z Z Z) (fZ Z Z (C3 45 Z (λi=>?_) (λi=>?_))))));refine AQ Z Z Z (J (AN Z MD Z Z Z) (AQ Z Z Z (J (AP Z Z Z CK Z) (AQ Z Z Z (J (DE Z Z Z) (J (B5 Z Z Z Z) (fZ Z Z (C3 50 Z (λh=>?_) (λh=>?_)))))))));refine AQ Z Z Z (J (AN Z ME Z Z Z) (AQ Z Z Z (J (AP Z Z Z CK Z) ?_)));refine AQ Z Z Z (J (AN Z MD Z Z Z) (AQ Z Z Z (J (AP Z Z Z CK Z) (AQ Z Z Z (J (DE Z Z Z) (J (B5 Z Z Z Z) (fZ Z Z (C3 57 Z (λg=>?_) (λg=>?_)))))))));refine AQ Z Z Z (J (AN Z Ey Z Z Z) (AQ Z Z Z (J (Ay Z Z ou Z Z Z) (AQ Z Z Z (J (FD aC br Z Z Z) (AQ Z Z Z (J (Fb (la:=ND r.acc) (lb:=ND SI) (ds:=fE) (by kernel_rfl) (by kernel_rfl) (by kernel_rfl) Z Z Z Z (Db _) (Db _) (N9 _ _) Z) (J (B5 Z Z Z Z) ?_))))))));refine AB Z Z (AD (AC (AC (AE (fZ Z Z (J (Jw Z Z) (AD (A9 Z (λa=>?_) (λa=>?_)))))))))
 rotate_left
 refine AX ?_
 rotate_left
 refine AL Z Z Z Z (AL Z Z Z Z (AL Z Z Z Z (AL Z Z Z Z (J (Bk Z Z Z Z) ?_))));refine AB Z Z (AD (AC (AC (AE (fZ Z Z (J (E4 Z Z) (AD (Bx Z Z ?_))))))))
 rotate_left
 refine AL Z Z Z Z (AL Z Z Z Z (AL Z Z Z Z ?_));refine AL Z Z Z Z (AL Z Z Z Z (J (Bk Z Z Z Z) (fZ Z Z (AL Z Z Z Z (AL Z Z Z Z (AL Z Z Z Z (AL Z Z Z Z (J (Bk Z Z Z Z) ?_))))))));refine AB Z Z (AD (AC (AC (AE (fZ Z Z (J (E4 Z Z) (AD (Bx Z Z ?_))))))))
 rotate_left
 refine AL Z Z Z Z (AL Z Z Z Z (AL Z Z Z Z (J (Bk Z Z Z Z) (fZ Z Z (AL Z Z Z Z (AL Z Z Z Z (AL Z Z Z Z ?_)))))));refine AL Z Z Z Z (AL Z Z Z Z (J (Bk Z Z Z Z) (fZ Z Z (AL Z Z Z Z (AL Z Z Z Z (AL Z Z Z Z (AL Z Z Z Z (J (Bk Z Z Z Z) ?_))))))));refine AB Z Z (AD (AC (AC (AE (fZ Z Z (J (E4 Z Z) (AD (Bx Z Z ?_))))))))
 rotate_left
 refine AC (AE (J (GF Z Z Z) (AB Z Z (AD (A9 Z (λf=>?_) (λf=>?_))))));refine AE (J (AN Z ME Z Z Z) (J (AP Z Z Z CK Z) (J (DE Z Z Z) (fZ Z Z (C3 68 Z (λc=>?_) (λc=>?_))))));refine AQ Z Z Z (J (AN Z MD Z Z Z) (AQ Z Z Z (J (AP Z Z Z CK Z) (AQ Z Z Z (J (Jx Z Z Z) (J (B5 Z Z Z Z) (fZ Z Z (C3 73 Z (λb=>?_) (λb=>?_)))))))));refine AQ Z Z Z (J (AN Z Ey Z Z Z) (AQ Z Z Z (J (Ay Z Z ou Z Z Z) (AQ Z Z Z (J (FD aC br Z Z Z) (AQ Z Z Z (J (Fb (la:=ND r.acc) (lb:=ND SI) (ds:=fE) (by kernel_rfl) (by kernel_rfl) (by kernel_rfl) Z Z Z Z (Db _) (Db _) (N9 _ _) Z) (J (B5 Z Z Z Z) ?_))))))));refine AB Z Z (AD (AC (AC (AE (fZ Z Z (J (Jw Z Z) (AD (A9 Z (λa=>?_) (λa=>?_)))))))))
 rotate_left
 refine AX ?_
 rotate_left
 refine AL Z Z Z Z (AL Z Z Z Z (AL Z Z Z Z (AL Z Z Z Z (J (Bk Z Z Z Z) ?_))));refine AB Z Z (AD (AC (AC (AE (fZ Z Z (J (E4 Z Z) (AD (Bx Z Z ?_))))))))
 rotate_left
 refine AL Z Z Z Z ?_;refine AL Z Z Z Z (AL Z Z Z Z (J (Bk Z Z Z Z) (fZ Z Z (AL Z Z Z Z (AL Z Z Z Z (AL Z Z Z Z (AL Z Z Z Z (J (Bk Z Z Z Z) ?_))))))));refine AB Z Z (AD (AC (AC (AE (fZ Z Z (J (E4 Z Z) (AD (Bx Z Z ?_))))))))
 rotate_left
 all_goals
  refine AC (AE (AB Z Z (AD (A4 ?_))));exact ⟨_,[],[],A2 Z,Z,Z,Ab (by unfold CF;simp_all<;>(intros;omega)),Z⟩
def C7:List AT ->AT ->List AT
 | [],r=> [r]
 | a::l,r=>if Bf a r<0 then a::C7 l r else if a=r then a::l else r::a::l
def Zv (l:List AT):Prop:=l.Pairwise λa b=>Bf a b<0
theorem ir {x:AT}:x∈C7 f g↔x=g\/x∈f:=by
 induction f with
 | nil=>simp [C7]
 | cons a f b=>
  grind [C7]
theorem dJ (h:Zv f) (r:AT):Zv (C7 f r):=by
 induction f with
 | nil=>simp [C7,Zv]
 | cons a f g=>
  simp only [Zv,jA] at h;simp only [C7]
  split
  .rename_i j
   refine jA.2 ⟨λx b=>?_,g h.2⟩;rcases ir.1 b with rfl | b
   all_goals (grind)
  .split
   .exact jA.2 h
   .rename_i j i
    have c:Bf r a<0:=by
     have:=PZ.anti a r;have k:Bf a r≠0:=λe=>i (EY.1 e);omega
    refine jA.2 ⟨λx b=>?_,jA.2 h⟩;rcases Υ.1 b with rfl | b
    .exact c
    .exact PZ.trans _ _ _ c (h.1 x b)
def gI (c:List (AT×Int)):List AT:=(c.map Prod.fst).foldl C7 []
theorem Iv (c:List (AT×Int)) (x:AT×Int):gI (c++ [x])=C7 (gI c) x.1:=by simp [gI]
theorem Jz (c:List (AT×Int)) (r:AT):r∈gI c↔r∈c.map Prod.fst:=by
 induction c using Zp with
 | h0=>simp [gI]
 | h1 l x a=>rw [Iv,ir,a];simp only [Ω,iV,List.map_nil,υ,η];exact or_comm
theorem aT (c:List (AT×Int)):Zv (gI c):=by
 induction c using Zp with
 | h0=>simp [gI,Zv]
 | h1 l x a=>rw [Iv];exact dJ a _
def NB (c:List (AT×Int)):List (AT×Int):=((gI c).map λr=>(r,Ai c r)).filter λx=>decide (x.2≠0)
def eD (i:AI):List (AT×Int):=NB (gN i)
theorem Ox (c:List (AT×Int)):(NB c).Pairwise λa b=>Bf a.1 b.1<0:=by
 unfold NB;refine List.Pairwise.filter _ ?_;rw [iW];exact aT c
theorem F9 (c:List (AT×Int)) (a:AT) (b:Int):(a,b)∈fq c↔a∈c.map Prod.fst/\b=Ai c a:=by
 constructor
 .intro h;refine ⟨(Ix c a).1 (Θ.2 ⟨_,h,Z⟩),?_⟩;rw [<-KC,D7 (F8 c) h]
 .rintro ⟨h,rfl⟩;rw [<-KC];exact I2 ((Ix c a).2 h)
theorem LE (c:List (AT×Int)) (x:AT×Int):x∈NB c↔x∈fq c/\x.2≠0:=by grind [NB,F9,Jz]
theorem Xj {c f g:List (AT×Int)} (l:f.Perm ((fq c).filter λx=>decide (x.2≠0))) (k:g.Perm f) (j:g.Pairwise λa b=>¬Bf b.1 a.1<0):g=NB c:=by
 have h:=k.trans l;refine DP (R:=λa b=>Bf a.1 b.1<0) (λx=>by rw [PZ.refl];omega) (λx y z=>PZ.trans x.1 y.1 z.1) ?_ (Ox c) λx=>?_
 .have i:(g.map Prod.fst).Nodup:=by
   refine ((h.map Prod.fst).nodup_iff).2 ?_;exact (F8 c).sublist (List.Sublist.map _ iw)
  rw [List.Nodup,iW] at i;refine (j.and i).imp λ{a b} ⟨s,o⟩=>?_;have:=PZ.anti a.1 b.1;have r:Bf a.1 b.1≠0:=λe=>o (EY.1 e);omega
 .rw [h.mem_iff,LE,gS,iz]
theorem eG (x:AT×Int):∃a,Pg x= .agg a:=⟨_,Z⟩
theorem Y6 {c f:List (AT×Int)} (g:f.Perm ((fq c).filter λx=>decide (x.2≠0))):f.length=(NB c).length:=by
 have k:=List.pairwise_mergeSort (le:=λa b:AT×Int=>decide (¬Bf b.1 a.1<0)) (λa b d g j=>by
  have:=PZ.swo.ntrans d.1 b.1 a.1;simp only [ltOf,decide_eq_false_iff_not] at this;simp only [iz] at g j⊢
  exact this j g) (λa b=>by have:=PZ.anti a.1 b.1;simp only [Bool.or_eq_true,iz];omega) f
 have i:=List.mergeSort_perm f (λa b:AT×Int=>decide (¬Bf b.1 a.1<0));rw [<-Xj g i (k.imp λ{a b} h=>by simpa using h)];exact i.length_eq.symm
section
variable {F:Fr} {s:AS} {d:Nat} {x y:Operand} {ty:TypeId} {pos:String} {aft:Array Edge} {gd:Option (Nat×Bool)} {at_:Array TypeId} {f n:Nat} {row:List D} {hp':Hp}
theorem ao (c g:List (AT×Int)) (v:g.Perm ((fq c).filter λx=>decide (x.2≠0))) (i:g.length<4611686018427387904) (l:s.ev x=some (.own f 0 n)) (j:s.ev y=some (.d (.raw (.func (.func 162) #[] #[])))) (o:fb s.hp f 0=some (.rowD 218 7 row)) (h:row=g.map Pg) (r:n=g.length) (t:B1 s.hp f 0 (.rowD 218 7 ((NB c).map Pg))=some hp') (u:Nat.blt d s.n=true):
  AH prog F ⟨some d,.call {callee:= .value (.func 161),args:= #[x,y],argTypes:=at_},ty,pos,aft,gd⟩ s ⟨s.n,(d,.d (.tup []))::s.env,hp'⟩ (λ_ _=>true):=
 NK su (k:=7) (by decide) isAgg218 sizeOf218 func162 Z Z eG (λa b=>Bf a.1 b.1) (PZ.comap Prod.fst).swo g (NB c) i (λx _ y _=>Z6 x y) (λA z w=>Xj v z w) Z l j MG o h r t u
end
variable {a:Type} {c:a ->Bool} {f:List a} {x:a} {A:List a}
def A0 (i:AI):List (AT×Int):=if Ar i=0 then eD i else []
theorem Gu {l:List Int} (h:BM l=0):∀x∈l,x=0:=by
 have:=(Ul (l:=l) (f:=id)).1 (by rw [List.map_id];exact h);exact this
theorem Fp {i:AI} (h:Ar i=0):jL i/\(0<=i.id/\i.id<=1000000000)/\(0<=i.sq/\i.sq<=1000000000)/\(0<=i.pr/\i.pr<=2)/\Ff i=0/\KO i=0/\NC i=0/\LJ i=0/\MP i=0:=by
 unfold Ar at h
 split at h; · cases h
 split at h; · cases h
 rename_i g f
 have a:=Gu h;have c:=a (Ff i) (by simp [Ra]);have b:=a (KO i) (by simp [Ra]);exact ⟨⟨by omega,by omega,by omega,RU c,bv b⟩,by omega,by omega,by omega,c,b,a _ (by simp [Ra]),a _ (by simp [Ra]),a _ (by simp [Ra])⟩
theorem Hq (i:AI):(gN i).length=i.po.length+4*i.pa.length:=by simp [gN,Dy,Ig]
theorem IN (c:List (AT×Int)):(fq c).length<=c.length:=by
 induction c using Zp with
 | h0=>simp [fq]
 | h1 l x a=>
  grind [fD,K5,fq]
theorem pP {B X:List a} (i:(f++A.filter c).Perm X) (g:A.Perm (x::B)) (b:c x=true):((f++ [x])++B.filter c).Perm X:=by
 have h:=g.filter c;rw [List.filter_cons_of_pos b] at h;rw [ji];exact (List.Perm.append_left f h.symm).trans i
theorem lM {B X:List a} (i:(f++A.filter c).Perm X) (g:A.Perm (x::B)) (b:¬c x=true):(f++B.filter c).Perm X:=by
 have h:=g.filter c;rw [List.filter_cons_of_neg b] at h;exact (List.Perm.append_left f h.symm).trans i
theorem XJ {M:List a} (b:(f++A.filter c).Perm (M.filter c)):f.length<=M.length:=by
 have h:=b.length_eq
 grind
theorem UM (i:AI) (H:i.po.length<=140737488355328) (G:i.pa.length<=140737488355328) (E:i.af.length<=140737488355328):AK prog 118 [.d (Ag i)] (.tup [.sl none ((A0 i).map Pg),AF (Ar i)]):=by
 by_cases t:Ar i=0
 .have z:=(Fp t).1;have A:A0 i=eD i:=ϱ t
  obtain ⟨M,g⟩:∃M,fq (gN i)=M:=⟨_,Z⟩
  have B:=(RB i z).by [(2,20)] rfl;have C:M.length<=1280:=by rw [<-g];have N:=IN (gN i);have L:=Hq i;have K:=z.po;have I:=z.pa;omega
  rw [g] at B;rw [A];have c:=LG i H G E;rw [t] at c⊢;refine At func118 Z Z ntmps118 Z Z Z λF u=>(AC (AE (V (Bo 1 Z Z Z Z Z Z Z) (AB Z Z (AB Z Z (AD (AC ?_)))))));refine AC (AE (J (Ay Z Z CP Z Z Z) (J (As (c) Z Z) (AB Z Z (AD (AC (AE (fZ Z Z ?_))))))));refine J (Cw Z Z Z) (AD (Cm Z (by decide) (AX (AC (AE (AB Z Z (AD (AC ?_))))))));refine AC (NG 5 900 bG Z Z Z Z (AE (J (Ay Z Z CP Z Z Z) (V (FE B Z [20] ⟨Z,trivial⟩ Z Z Z Z Z Z Z Z Z) (V (Gg 2 Z Z Z CL Z Z Z Z) (AD (AZ (BO (α:=List Nat×List (AT×Int)) (λq=>⟨32,[(5,(.own 900 0 q.2.length)),(15,(.ptr 2 0 0))],[(2,[.iter 20 0 M.length q.1]),(20,[BT Bc AF M]),(900,[.rowD 218 7 (q.2.map Pg)])]⟩) (λq=>(q.2++(Bz M (List.range M.length) q.1).filter (λx=>decide (x.2≠0))).Perm (M.filter λx=>decide (x.2≠0))) (λq=>(Bz M (List.range M.length) q.1).length) (([],[])) (by rw [nG (by simp)];exact List.Perm.refl _) (AY u [2,20,900] Z Z ⟨Z,Z,trivial⟩) ?_))))))));rintro ⟨seen,k⟩ l;dsimp only at l⊢;refine AC (AE (Lk (M) Z Z Z Z (λr=>?_) (λy b w v o s D a=>⟨_,Z,?_⟩)))
  .refine J (DC Z Z Z) (AD (AC (Cm Z Z (Aw (AC ?_)))));have f:k.Perm ((fq (gN i)).filter λx=>decide (x.2≠0)):=by have h:=l;rw [r,List.filter_nil,iC] at h;rw [g];exact h
   refine AE (fZ Z Z (V (ao (gN i) k f (by have:=XJ l;omega) Z Z Z Z Z Z Z) ?_));refine AD (AC (LL (emb:=Pg) 5 900 (eD i) Z Z Z (Y6 f) Z Z Z (AE (fZ Z Z (AB Z Z (AB Z Z (AD (A4 ?_))))))));exact ⟨_,[],[],A2 Z,Z,Z,Z,Z⟩
  .refine J (DC Z Z Z) (AD (AC ?_));refine Bx Z Z (AX (AZ (AC (AE (J (Gh (M) y b Z Z Z o s Z) (J (DC Z Z Z) (J (DC Z Z Z) (V (By 3 Jy Z Z Z Z) ?_))))))));refine V (B3 Z Z Z Z Z Z Z YS) (AB Z Z (AD (AC (AE (fZ Z Z (J (Cw Z Z Z) (AD (A9 Z (λj=>?_) (λj=>?_)))))))))
   .refine AE (fZ Z Z (J (Ay Z Z Cc Z Z Z) (fZ Z Z (J (FD aF sY Z Z Z) (V (C5 4 bG Z Z Z Z Z Z Z Z) (V (F2 (k) ([(w,v)]) Z Z Z Z Z Z Z Z bG (by have:=XJ l;simp only [ς];omega) Z Z Z Z) (AB Z Z (AD ?_))))))));exact ⟨(seen++ [b],_),pP l a (by simpa using j),by show (Bz M (List.range M.length) (seen++ [b])).length<(Bz M (List.range M.length) seen).length;rw [a.length_eq];exact io _,AY u [2,20,900] Z (Z) ⟨Z,Z,trivial⟩⟩
   .refine AX ?_;exact ⟨(seen++ [b],_),lM l a (by simpa using j),by show (Bz M (List.range M.length) (seen++ [b])).length<(Bz M (List.range M.length) seen).length;rw [a.length_eq];exact io _,AY u [2,20,900] Z (Z) ⟨Z,Z,trivial⟩⟩
 .have c:=LG i H G E;have A:A0 i=[]:=θ t;rw [A];refine At func118 Z Z ntmps118 Z Z Z λF u=>(AC ?_);refine AE (V (Bo 1 Z Z Z Z Z Z Z) (AB Z Z (Xv 2 Z (AB Z Z (AD (AC (AC (AE ?_))))))));refine J (Ay Z Z CP Z Z Z) (J (As (c) Z Z) (AB Z Z (AD (AC (AE (fZ Z Z (J (Cw Z Z Z) (AD ?_))))))));refine Bx Z ((by simpa using t)) (AC (AE (fZ Z Z (AB Z Z (Xv 2 Z (AB Z Z (AD (A4 ?_))))))));exact ⟨_,[],[],A2 Z,Z,Z,Z,Z⟩
def Bw (i:AI) (r:AT):Int:=if Ar i=0/\CF r=0 then Ai (gN i) r else 0
theorem Xk (i:AI) (r:AT) (l:i.po.length<=140737488355328) (k:i.pa.length<=140737488355328) (j:i.af.length<=140737488355328):AK prog 70 [.d (Ag i),.d (Bc r)] (AF (Bw i r)):=by
 by_cases c:Ar i=0
 .have o:=(Fp c).1
  obtain ⟨M,b⟩:∃M,fq (gN i)=M:=⟨_,Z⟩
  have g:=(RB i o).by [(2,20)] rfl;rw [b] at g;have a:=LG i l k j;rw [c] at a;refine At func70 Z Z ntmps70 Z Z Z λF t=>(AC (AE (V (Bo 1 Z Z Z Z Z Z Z) (V (Bo 2 Z Z Z Z Z Z Z) (AB Z Z ?_)))));refine AD (AC (AC (AE (J (Ay Z Z CP Z Z Z) (J (As (a) Z Z) (J (Cw Z Z Z) (fZ Z Z (Dr 8 Z (by decide) ?_))))))));refine AQ Z Z Z (J (Ay Z Z Cc Z Z Z) (AQ Z Z Z (J (As (W2 r) Z Z) (AQ Z Z Z (J (Cw Z Z Z) (J (Bk Z Z Z Z) (AD (A9 Z (λf=>?_) (λf=>?_)))))))))
  .refine AC (AE (AB Z Z (AD (A4 ?_))));exact ⟨_,[],[],A2 Z,Z,Z,Ab (by rw [Bw,θ];simp_all),Z⟩
  .refine AX (AC ?_);refine CZ [[],[0],[],[0,1,2],[0,1,2,3]] mixed Z (CG (Au [2] Z Z (λ_=>Ae (Ay Z Z CP Z Z Z)) (HC [13] [20] [(14,_)] Z Z (λ_=>HD (FE g Z [20] ⟨Z,trivial⟩ Z Z Z Z Z Z Z Z Z)) (.inr ⟨14,_,Z,Z,Z,Z,Z⟩) Z Z Z Z Z (Au [3] Z Z (λ_=>Ae (Ay Z Z Cc Z Z Z)) (CB 3 Z Z Z (Ad 4 Z Z (J (II (M) (r) (0) _ Z Z Z CL CV PU Z Z) (AD ⟨Z,?_⟩))))))));refine Ad 5 Z Z (AB Z Z (AD ⟨Z,?_⟩));refine CM (A4 ?_);exact ⟨_,[],[],A2 Z,Z,Z,Ab (by rw [Bw,ϱ ⟨c,by simpa using f⟩,<-b,KC]),Z⟩
 .have a:=LG i l k j;have s:Bw i r=0:=θ λh=>c h.1;rw [s];refine At func70 Z Z ntmps70 Z Z Z λF t=>(AC (AE (V (Bo 1 Z Z Z Z Z Z Z) (V (Bo 2 Z Z Z Z Z Z Z) (AB Z Z (AD (AC ?_)))))));refine AC (AE (J (Ay Z Z CP Z Z Z) (J (As (a) Z Z) (J (Cw Z Z Z) (fZ Z Z (Et 8 Z ((by simpa using c)) (AL Z Z Z Z (AL Z Z Z Z ?_))))))));refine AL Z Z Z Z (J (B5 Z Z Z Z) (AD (Bx Z Z (AC (AE (AB Z Z (AD (A4 ?_))))))));exact ⟨_,[],[],A2 Z,Z,Z,Z,Z⟩
theorem QI (a b:Int):AK prog 199 [.d (AF a),.d (AF b)] (AF (Dz a b)):=by
 refine At func199 Z Z ntmps199 Z Z Z λF g=>(AC (AE (AB Z Z ?_)));refine AD (AC (AC (AE (fZ Z Z (fZ Z Z (J (BB Z Z Z) (AD (A9 Z (λf=>?_) (λf=>?_)))))))))
 rotate_left
 refine AX (AC (AC (AE (fZ Z Z (fZ Z Z (J (HF Z Z Z) (AD (A9 Z (λc=>?_) (λc=>?_)))))))))
 rotate_left
 refine AX ?_
 all_goals
  refine AC (AE (AB Z Z (AD (A4 ?_))));exact ⟨_,[],[],A2 Z,Z,Z,Ab (by unfold Dz;(repeat' split)<;>omega),Z⟩
theorem JC (a b:List UInt8):AK prog 200 [.d (Am a),.d (Am b)] (AF (Df a b)):=by
 refine At func200 Z Z ntmps200 Z Z Z λF g=>(AC (AE (AB Z Z ?_)));refine AD (AC (AC (AE (fZ Z Z (fZ Z Z (J (Wh Z Z Z) (AD (Iq Z (λf=>?_) (λf=>?_)))))))));rw [oN] at f
 rotate_left
 rw [oN] at f;refine AX (AC (AC (AE (fZ Z Z (fZ Z Z (J (Wj Z Z Z) (AD (Iq Z (λc=>?_) (λc=>?_)))))))));rw [oN] at c
 rotate_left
 rw [oN] at c;refine AX ?_
 all_goals
  refine AC (AE (AB Z Z (AD (A4 ?_))));exact ⟨_,[],[],A2 Z,Z,Z,by first | exact Ab (by unfold Df;rw [ϱ f]) | exact Ab (by unfold Df;rw [θ (by rw [f];decide),ϱ c]) | exact Ab (by unfold Df;rw [θ (by rw [f];decide),θ (by rw [c];decide)]),Z⟩
set_option maxHeartbeats 2000000 in
theorem RO (a b:AT):AK prog 158 [.d (Bc a),.d (Bc b)] (AF (Bf a b)):=by
 obtain ⟨l,i⟩:∃l,[Dz a.k b.k,Df a.acc.o b.acc.o,Dz a.acc.k b.acc.k,Df a.acc.a b.acc.a,Df a.f b.f,Df a.t b.t]=l:=⟨_,Z⟩
 have s:l.length=6:=by rw [<-i];rfl
 have v:Bf a b=BM (l.map id):=by rw [<-i];rfl
 have t:[AF (Dz a.k b.k),AF (Df a.acc.o b.acc.o),AF (Dz a.acc.k b.acc.k),AF (Df a.acc.a b.acc.a),AF (Df a.f b.f),AF (Df a.t b.t)]=l.map AF:=by rw [<-i];rfl
 rw [v];refine At func158 Z Z ntmps158 Z Z Z λF o=>(AC (AE (V (Bo 1 Z Z Z Z Z Z Z) ?_)));refine V (Bo 2 Z Z Z Z Z Z Z) (AB Z Z (AD (AC (CZ [[],[0],[],[2],[0,1,2,3],[],[5],[5,6],[],[8],[8,9],rg 11,[],[12],[12,13],[],[15],[15,16],rg 18,[],[19],[19,20],[],[22],[22,23],rg 25,[],[26],[],[28],rg 30,[],[31],[],[33],rg 35,rg 36,rg 37] mixed Z (CG (AU [2] Z (AN Z G1 Z Z Z) (Au [7] Z Z (λ_=>Ae (AP Z Z Z An Z)) (AU [3] Z (AN Z G1 Z Z Z) ?_))))))));refine Au [9] Z Z (λ_=>Ae (AP Z Z Z An Z)) (AU [8,10] Z (As (QI a.k b.k) Z Z) (AU [2] Z (AN Z EU Z Z Z) (AU [12] Z (AN Z Rj Z Z Z) (Au [13] Z Z (λ_=>Ae (AP Z Z Z CK Z)) (AU [3] Z (AN Z EU Z Z Z) (AU [15] Z (AN Z Rj Z Z Z) (Au [16] Z Z (λ_=>Ae (AP Z Z Z CK Z)) (AU [14,17] Z (As (JC a.acc.o b.acc.o) Z Z) ?_))))))));refine AU [2] Z (AN Z EU Z Z Z) (AU [19] Z (AN Z MB Z Z Z) (Au [20] Z Z (λ_=>Ae (AP Z Z Z An Z)) (AU [3] Z (AN Z EU Z Z Z) (AU [22] Z (AN Z MB Z Z Z) (Au [23] Z Z (λ_=>Ae (AP Z Z Z An Z)) (AU [21,24] Z (As (QI a.acc.k b.acc.k) Z Z) (AU [2] Z (AN Z EU Z Z Z) (AU [26] Z (AN Z MA Z Z Z) ?_))))))));refine Au [27] Z Z (λ_=>Ae (AP Z Z Z CK Z)) (AU [3] Z (AN Z EU Z Z Z) (AU [29] Z (AN Z MA Z Z Z) (Au [30] Z Z (λ_=>Ae (AP Z Z Z CK Z)) (AU [28,31] Z (As (JC a.acc.a b.acc.a) Z Z) (AU [2] Z (AN Z Ew Z Z Z) (Au [33] Z Z (λ_=>Ae (AP Z Z Z CK Z)) (AU [3] Z (AN Z Ew Z Z Z) (Au [35] Z Z (λ_=>Ae (AP Z Z Z CK Z)) ?_))))))));refine AU [34,36] Z (As (JC a.f b.f) Z Z) (AU [2] Z (AN Z Ev Z Z Z) (Au [38] Z Z (λ_=>Ae (AP Z Z Z CK Z)) (AU [3] Z (AN Z Ev Z Z Z) (Au [40] Z Z (λ_=>Ae (AP Z Z Z CK Z)) (CB 35 Z Z Z (Ad 36 Z Z (J (As (JC a.t b.t) Z Z) (AD ⟨Z,?_⟩))))))));refine Ad 37 Z Z (V (C5 3 BP Z Z Z Z Z Z Z Z) ?_);rw [t];refine Ux (emb:=AF) 43 3 l Z Z Z s.symm Z Z Z (AD ⟨Z,?_⟩);refine Ad 38 Z Z (AB Z Z (AD ⟨Z,?_⟩));refine CM (AC (AC (AE (AB Z Z (AD (AZ (BO (α:=Nat) (λk=>⟨59,[(5,(.d (.sl none (l.map AF)))),(6,(.d (AF (k:Int))))],[]⟩) (λk=>k<=l.length/\BM (l.map id)=BM ((l.drop k).map id)) (λk=>l.length - k) (0) (⟨ζ _,Z⟩) (AY o [] Z Z ⟨Z,Z,trivial⟩) ?_)))))));rintro k ⟨u,j⟩;refine AC (AC (AE (fZ Z Z (fZ Z Z (J (Ba Z ch Z) (J (BB Z Z Z) (AD (A9 Z (λg=>?_) (λg=>?_)))))))))
 .have c:k<l.length:=BR g;refine AX (AC (AZ (AC (AE ?_))));have r:=kB c j;refine fZ Z Z (fZ Z Z (J (BJ (k) Z Z (Z) (A5 c) ch Z BU Z) (J (CI Z Z An Z) (J (Cw Z Z Z) (AD (A9 Z (λf=>?_) (λf=>?_)))))))
  .refine AC (AE (fZ Z Z (fZ Z Z (J (BJ (k) Z Z (Z) (A5 c) ch Z BU Z) (J (CI Z Z An Z) (AB Z Z (AD (A4 ?_))))))));exact ⟨_,[],[],A2 Z,Z,Z,Ab (r.2 l[k] Z (by simpa using f)),Z⟩
  .refine AX (AE (fZ Z Z (J (Al Z Z (AM (k+1) (by omega)) Z) (AB Z Z (AD ?_)))));exact ⟨k+1,⟨by show k+1<=_;omega,r.1 (by simpa using f)⟩,by show l.length - (k+1)<l.length - k;omega,AY o [] Z (Z) ⟨Z,Z,trivial⟩⟩
 .refine Aw (AC (AE (AB Z Z (AD (A4 ?_)))));exact ⟨_,[],[],A2 Z,Z,Z,Ab (by rw [j,DK (by have h:=g;omega)]),Z⟩
theorem TA (a b:AI):AK prog 109 [.d (Ag a),.d (Ag b)] (.raw (.bool (decide (EP a b<0)))):=by
 have c:EP a b<0↔b.pr<a.pr\/a.pr=b.pr/\a.sq<b.sq:=by
  unfold EP Dz;simp only [BM]
  repeat' split
  all_goals omega
 refine At func109 Z Z ntmps109 Z Z Z λF h=>(AC (AE (V (Bo 1 Z Z Z Z Z Z Z) (V (Bo 2 Z Z Z Z Z Z Z) (AB Z Z (AD ?_))))));refine AC (AE (J (AN Z Jr Z Z Z) (J (AP Z Z Z An Z) (J (AN Z Jr Z Z Z) (J (AP Z Z Z An Z) (J (HF Z Z Z) (fZ Z Z (C3 10 Z (λg=>?_) (λg=>?_)))))))))
 .refine AL Z Z Z Z (AL Z Z Z Z (AL Z Z Z Z (AL Z Z Z Z (AL Z Z Z Z (AL Z Z Z Z (Jv Z Z Z ?_))))));refine Jv Z Z Z (Jv Z Z Z (Jv Z Z Z (Jv Z Z Z (AL Z Z Z Z (J (B5 Z Z Z Z) (AB Z Z (AD (A4 ?_))))))));exact ⟨_,[],[],A2 Z,Z,Z,by first | exact Yg (by rw [c];omega) | exact J9 (by rw [c];omega) | exact V1 (by rw [c];omega),Z⟩
 .refine AQ Z Z Z (J (AN Z Jr Z Z Z) (AQ Z Z Z (J (AP Z Z Z An Z) ?_)));refine AQ Z Z Z (J (AN Z Jr Z Z Z) (AQ Z Z Z (J (AP Z Z Z An Z) (AQ Z Z Z (J (GF Z Z Z) (AQ Z Z Z (fZ Z Z (C3 16 Z (λf=>?_) (λf=>?_)))))))));refine AQ Z Z Z (J (AN Z MC Z Z Z) (AQ Z Z Z ?_));refine J (AP Z Z Z An Z) (AQ Z Z Z (J (AN Z MC Z Z Z) (AQ Z Z Z (J (AP Z Z Z An Z) (AQ Z Z Z (J (BB Z Z Z) (AQ Z Z Z (J (B5 Z Z Z Z) ?_))))))))
  rotate_left
  refine AL Z Z Z Z (AL Z Z Z Z (AL Z Z Z Z (AL Z Z Z Z (AL Z Z Z Z (AQ Z Z Z (J (Bk Z Z Z Z) ?_))))))
  all_goals
   refine J (Bk Z Z Z Z) (AB Z Z (AD (A4 ?_)));exact ⟨_,[],[],A2 Z,Z,Z,by first | exact Yg (by rw [c];omega) | exact J9 (by rw [c];omega) | exact V1 (by rw [c];omega),Z⟩
theorem bx (r:AT):AK prog 47 [.d (Bc r)] (Bc r):=by
 refine At func47 Z Z ntmps47 Z Z Z λF a=>(AC ?_);refine AE (V (Bo 1 Z Z Z Z Z Z Z) (V (By 2 Jy Z Z Z Z) (AD (AC (AE (J (AN Z G1 Z Z Z) (J (AP Z Z Z An Z) (J (AN Z EU Z Z Z) ?_))))))));refine J (Ay Z Z Ya Z Z Z) (J (AN Z Ew Z Z Z) (J (AP Z Z Z CK Z) (J (AN Z Ev Z Z Z) (J (AP Z Z Z CK Z) (J (FD Jy TK Z Z Z) (V (B3 Z Z Z Z Z Z Z YS) (AD (A4 ?_))))))));exact ⟨_,[],[],A2 Z,Z,Z,Z,Z⟩
theorem NJ {l:List a} (h:f=l.take f.length) (b:f.length<l.length):f++ [l[f.length]]=l.take (f++ [l[f.length]]).length:=by
 rw [Δ,ς,ψ b,<-h]
theorem Qy {l:List a} (h:f=l.take f.length) (b:¬f.length<l.length):f=l:=by grind
theorem SZ (b:List a) (x:a) (h:b.length<9223372036854775807):IntKind.i64.wrap ((b.length:Int)+1)=(((b++ [x]).length:Nat):Int):=by
 rw [Δ];exact AM (b.length+1) (by omega)
abbrev JW:AV:= .d (.sl (some true) [])
theorem Yn (i:AI) (x:i.po.length<=10000) (w:i.pa.length<=10000) (v:i.af.length<=10000):AK prog 48 [.d (Ag i)] (Ag i):=by
 refine At func48 Z Z ntmps48 Z Z Z λF o=>(AC (AE (V (Bo 1 Z Z Z Z Z Z Z) (V (By 2 FG Z Z Z Z) (AD (AC ?_))))));refine CZ [[],[0],[],[2],[],[4],[],[],[7],[6,7,8],rg 10,[],rg 12] mixed Z (CG (AU [1] Z (AN Z Hi Z Z Z) (Au [6] Z Z (λ_=>Ae (AP Z Z Z An Z)) (AU [1] Z (AN Z Jr Z Z Z) (Au [8] Z Z (λ_=>Ae (AP Z Z Z An Z)) (AU [1] Z (AN Z MC Z Z Z) (Au [10] Z Z (λ_=>Ae (AP Z Z Z An Z)) (HC [] [3] [(12,_)] Z Z (λ_=>HD (C5 3 BP Z Z Z Z Z Z Z Z)) (.inr ⟨12,_,Z,Z,Z,Z,Z⟩) Z Z Z Z Z ?_))))))));refine AU [1] Z (AN Z Cz Z Z Z) (Au [13] Z Z (λ_=>Ae (AP Z Z Z BL Z)) (HC [12,14] [3] [(15,_)] Z Z (λ_=>HD (Qq (([]:List Int)) (i.af) Z Z Z Z Z Z (λ_=>rfl) BP (by simp only [jB];omega) Z Z Z Z)) (.inr ⟨15,_,Z,Z,Z,Z,Z⟩) Z Z Z Z Z (AU [7,9,11,15] Z (FD FG pC Z Z Z) (HC [] [4] [(3,_)] Z Z (λ_=>HD (By 4 FG Z Z Z Z)) (.inr ⟨3,_,Z,Z,Z,Z,Z⟩) Z Z Z Z Z (CB 12 Z Z Z (Ad 13 Z Z (V (B3 Z Z Z Z Z Z Z Co) (AD ⟨Z,?_⟩))))))));refine CM ?_;refine AC (AC (Zy (ys:=i.af.map AF) 4 0 5 3 Z Z Z (by simp) (κ (by simp)) Z Z Z Z Z Z (Zw 4 0 3 901 Y7 Z Z Z Z Z Z Z (AE (AB Z Z (AD (AZ (BO (α:=List FT) (λb=>⟨60,[(1,(.ptr 1 0 0)),(2,(.ptr 2 0 0)),(3,(.ptr 4 0 0)),(4,(.d (AF (b.length:Int))))],[(901,[.rowD 158 4 (b.map B7)]),(1,[.blk 93 [.d (AF i.id),.d (AF i.pr),.d (AF i.sq),.d (.sl none (i.po.map B7)),.d (.sl none (i.pa.map Cp)),.d (.sl none (i.af.map AF))]]),(2,[.blk 55 [.d (AF 0),.d (AF 0),.d (AF 0),JW,JW,JW]]),(4,[.blk 55 [.d (AF i.id),.d (AF i.pr),.d (AF i.sq),.own 901 0 b.length,JW,.d (.sl none (i.af.map AF))]])]⟩) (λb=>b=i.po.take b.length/\b.length<=i.po.length) (λb=>i.po.length - b.length) ([]) (⟨by simp,ζ _⟩) (AY o [901,1,2,4] Z Z E0) ?_))))))));rintro b ⟨s,u⟩;refine AC ?_;refine AC (AE (fZ Z Z (J (AN Z Cj Z Z Z) (J (AP Z Z Z IX Z) (J (Ba Z dr Z) (J (BB Z Z Z) (AD (A9 Z (λj=>?_) (λj=>?_)))))))))
 .have c:b.length<i.po.length:=BR j;refine AX (AC (AZ (CZ [[],[0],[],[2],[],[2,3,4],[2,3,4,5],[2,3,4,5,6],[],[8],[],[8,9,10],[8,9,10,11],[8,9,10,11,12],[2,3,4,5,6,7,8,9,10,11,12,13],[2,3,4,5,6,7,8,9,10,11,12,13,14],rg 16,rg 17,rg 18] mixed Z (CG (AU [3] Z (AN Z G3 Z Z Z) (Au [24] Z Z (λ_=>Ae (AP Z Z Z Vd Z)) ?_))))));refine AU [1] Z (AN Z Cj Z Z Z) (Au [26] Z Z (λ_=>Ae (AP Z Z Z IX Z)) (Av 4 Z Z (AU [27,28] Z (BJ (b.length) Z Z (Z) (A5 c) dr Z J3 Z) (AU [29] Z (WX Z FO Z Z Z) (AU [30] Z (DM Z Z Ya Z) (AU [1] Z (AN Z Cj Z Z Z) (Au [32] Z Z (λ_=>Ae (AP Z Z Z IX Z)) (Av 4 Z Z ?_))))))));refine AU [33,34] Z (BJ (b.length) Z Z (Z) (A5 c) dr Z J3 Z) (AU [35] Z (Nc Z Ko Z Z Z) (AU [36] Z (CI Z Z GE Z) (AU [31,37] Z (FD Pq bt Z Z Z) (HC [38] [5] [(39,_)] Z Z (λ_=>HD (C5 5 Y7 Z Z Z Z Z Z Z Z)) (.inr ⟨39,_,Z,Z,Z,Z,Z⟩) Z Z Z Z Z (CB 16 Z Z Z (Ad 17 Z Z (V (F2 (b) ([i.po[b.length]]) Z Z Z Z Z Z Z Z Y7 (by simp only [ς];omega) Z Z Z Z) (AD ⟨Z,?_⟩))))))));refine Ad 18 Z Z (J (AN Z G3 Z Z Z) (AD ⟨Z,?_⟩));refine Ad 19 Z Z (V (B3 Z Z Z Z Z Z Z og) (AD ⟨Z,?_⟩));refine CM (AE (fZ Z Z (J (Al Z Z (SZ b i.po[b.length] (by omega)) Z) (AB Z Z (AD ?_)))));exact ⟨b++ [i.po[b.length]],⟨NJ s c,by rw [Δ];show b.length+1<=_;omega⟩,by rw [Δ];show i.po.length - (b.length+1)<i.po.length - b.length;omega,AY o [901,1,2,4] Z (Z) E0⟩
 .refine Aw (AC (AC ?_));have l:=Qy s (λh=>j (by omega));refine Zy (ys:=i.po.map B7) 4 0 3 901 Z Z Z (by simp) (by rw [l];exact κ (by simp)) Z Z Z Z Z Z (Zw 4 0 4 902 bD Z Z Z Z Z Z Z (AE (AB Z Z (AD (AZ (BO (α:=List MW) (λa=>⟨60,[(1,(.ptr 1 0 0)),(2,(.ptr 2 0 0)),(3,(.ptr 4 0 0)),(5,(.d (AF (a.length:Int))))],[(902,[.rowD 161 3 (a.map Cp)]),(1,[.blk 93 [.d (AF i.id),.d (AF i.pr),.d (AF i.sq),.d (.sl none (i.po.map B7)),.d (.sl none (i.pa.map Cp)),.d (.sl none (i.af.map AF))]]),(2,[.blk 55 [.d (AF 0),.d (AF 0),.d (AF 0),JW,JW,JW]]),(4,[.blk 55 [.d (AF i.id),.d (AF i.pr),.d (AF i.sq),.d (.sl none (i.po.map B7)),.own 902 0 a.length,.d (.sl none (i.af.map AF))]])]⟩) (λa=>a=i.pa.take a.length/\a.length<=i.pa.length) (λa=>i.pa.length - a.length) ([]) (⟨by simp,ζ _⟩) (AY o [902,1,2,4] Z Z E0) ?_))))));rintro a ⟨r,t⟩;refine AC ?_;refine AC (AE (fZ Z Z (J (AN Z G2 Z Z Z) (J (AP Z Z Z P9 Z) (J (Ba Z fV Z) (J (BB Z Z Z) (AD (A9 Z (λg=>?_) (λg=>?_)))))))))
  .have k:a.length<i.pa.length:=BR g;refine AX (AC (AZ (CZ [[],[0],[],[2],[],[2,3,4],[2,3,4,5],[2,3,4,5,6],rg 8,rg 9,rg 10] mixed Z (CG (AU [3] Z (AN Z Hj Z Z Z) (Au [49] Z Z (λ_=>Ae (AP Z Z Z Yu Z)) (AU [1] Z (AN Z G2 Z Z Z) ?_)))))));refine Au [51] Z Z (λ_=>Ae (AP Z Z Z P9 Z)) (Av 5 Z Z (AU [52,53] Z (BJ (a.length) Z Z (Z) (A5 k) fV Z Nq Z) (AU [54] Z (DM Z Z Wo Z) (HC [55] [6] [(56,_)] Z Z (λ_=>HD (C5 6 bD Z Z Z Z Z Z Z Z)) (.inr ⟨56,_,Z,Z,Z,Z,Z⟩) Z Z Z Z Z (CB 8 Z Z Z (Ad 9 Z Z (V (F2 (a) ([i.pa[a.length]]) Z Z Z Z Z Z Z Z bD (by simp only [ς];omega) Z Z Z Z) (AD ⟨Z,?_⟩))))))));refine Ad 10 Z Z (J (AN Z Hj Z Z Z) (AD ⟨Z,?_⟩));refine Ad 11 Z Z (V (B3 Z Z Z Z Z Z Z oe) (AD ⟨Z,?_⟩));refine CM (AE (fZ Z Z (J (Al Z Z (SZ a i.pa[a.length] (by omega)) Z) (AB Z Z (AD ?_)))));exact ⟨a++ [i.pa[a.length]],⟨NJ r k,by rw [Δ];show a.length+1<=_;omega⟩,by rw [Δ];show i.pa.length - (a.length+1)<i.pa.length - a.length;omega,AY o [902,1,2,4] Z (Z) E0⟩
  .refine Aw (AC ?_);have f:=Qy r (λh=>g (by omega));refine Zy (ys:=i.pa.map Cp) 4 0 4 902 Z Z Z (by simp) (by rw [f];exact κ (by simp)) Z Z Z Z Z Z (AE (J (Ay Z Z CP Z Z Z) (V (B3 Z Z Z Z Z Z Z Co) (AD (A4 ?_)))));exact ⟨_,[],[],A2 Z,Z,Z,Z,Z⟩
end Go.Proofs.YteifpcnphnhaoaaGreat
