import Derived.Test.YteifpcnphnhaoaaGreatMg16
import Derived.Shelf.SlLaysF
import Derived.Shelf.SlLaysF0
import Derived.Shelf.SlLaysNS
import Derived.Test.YteifpcnphnhaoaaGreatProg
open Go.Proofs.Tryz
set_option maxHeartbeats 2000000
namespace Go.Proofs.YteifpcnphnhaoaaGreat
open Go.Shelf Go.Proofs Go.Proofs.Tryz
theorem vH{P:Program}{i:FuncId}{B:Func}(b:(((P.funcs[i]?.map Func.name).getD "")== "runtime.NumGoroutine")=false)(a:P.funcs[i]? =some {B with name:=(P.funcs[i]?.map Func.name).getD "" }):Bears P i B:=⟨_,b,a⟩
def xi:Go.Shelf.Ren:=⟨λx=>match x with
 | 6=>115
 | 15=>137
 | 14=>160
 | 28=>191
 | 29=>192
 | 20=>201
 | 21=>202
 | 22=>203
 | 23=>204
 | 24=>205
 | 25=>206
 | 26=>207
 | 27=>208
 | 46=>240
 | 47=>226
 | 48=>227
 | 49=>241
 | 50=>242
 | 57=>268
 | x=>x,
 λx=>match x with
 | 22=>37
 | 24=>55
 | 25=>214
 | 3=>3
 | 39=>242
 | 0=>0
 | 53=>292
 | 55=>294
 | 4=>4
 | 46=>286
 | 45=>285
 | 50=>132
 | 5=>5
 | 9=>9
 | 66=>327
 | 70=>331
 | 76=>360
 | 77=>361
 | x=>x,λx=>x⟩
theorem sE:SlLaysF0.n6 prog xi:=by
 constructor<;>first | kernel_rfl | (intro w;kernel_rfl) | exact vH (by kernel_rfl) (by kernel_rfl)
def xj:Go.Shelf.Ren:=⟨λx=>match x with
 | 6=>161
 | 15=>137
 | 14=>209
 | 28=>191
 | 29=>192
 | 20=>243
 | 21=>244
 | 22=>245
 | 23=>246
 | 24=>247
 | 25=>248
 | 26=>249
 | 27=>250
 | 46=>269
 | 47=>226
 | 48=>227
 | 49=>270
 | 50=>271
 | 57=>277
 | x=>x,
 λx=>match x with
 | 22=>215
 | 24=>218
 | 25=>267
 | 3=>3
 | 39=>242
 | 0=>0
 | 53=>292
 | 55=>294
 | 4=>4
 | 46=>286
 | 45=>285
 | 50=>132
 | 5=>5
 | 9=>9
 | 66=>327
 | 70=>331
 | 76=>360
 | 77=>361
 | x=>x,λx=>x⟩
theorem w9:SlLaysF0.n6 prog xj:=by
 constructor<;>first | kernel_rfl | (intro w;kernel_rfl) | exact vH (by kernel_rfl) (by kernel_rfl)
def vy:Go.Shelf.Ren:=⟨λx=>match x with
 | 6=>174
 | 15=>137
 | 14=>212
 | 28=>191
 | 29=>192
 | 20=>251
 | 21=>252
 | 22=>253
 | 23=>254
 | 24=>255
 | 25=>256
 | 26=>257
 | 27=>258
 | 46=>272
 | 47=>226
 | 48=>227
 | 49=>273
 | 50=>274
 | 57=>278
 | x=>x,
 λx=>match x with
 | 22=>227
 | 24=>233
 | 25=>276
 | 3=>3
 | 39=>242
 | 0=>0
 | 53=>292
 | 55=>294
 | 4=>4
 | 46=>286
 | 45=>285
 | 50=>132
 | 5=>5
 | 9=>9
 | 66=>327
 | 70=>331
 | 76=>360
 | 77=>361
 | x=>x,λx=>x⟩
theorem th:SlLaysF0.n6 prog vy:=by
 constructor<;>first | kernel_rfl | (intro w;kernel_rfl) | exact vH (by kernel_rfl) (by kernel_rfl)
def xh:Go.Shelf.Ren:=⟨λx=>match x with
 | 53=>128
 | 64=>137
 | 63=>177
 | 78=>191
 | 79=>192
 | 70=>213
 | 71=>214
 | 72=>215
 | 73=>216
 | 74=>217
 | 75=>218
 | 59=>219
 | 76=>220
 | 77=>221
 | 88=>259
 | 89=>226
 | 90=>227
 | 91=>260
 | 92=>261
 | 68=>211
 | 96=>275
 | x=>x,
 λx=>match x with
 | 22=>28
 | 23=>3
 | 3=>3
 | 51=>242
 | 0=>0
 | 67=>292
 | 69=>294
 | 4=>4
 | 61=>286
 | 60=>285
 | 44=>132
 | 5=>5
 | 9=>9
 | 75=>327
 | 79=>331
 | 83=>360
 | 84=>361
 | x=>x,λx=>x⟩
theorem sD:SlLaysN.n53 prog xh:=by
 constructor<;>first | kernel_rfl | (intro w;kernel_rfl) | exact vH (by kernel_rfl) (by kernel_rfl)
def vw:Go.Shelf.Ren:=⟨λx=>match x with
 | 6=>141
 | 15=>137
 | 14=>195
 | 28=>191
 | 29=>192
 | 20=>231
 | 21=>232
 | 22=>233
 | 23=>234
 | 24=>235
 | 25=>236
 | 26=>237
 | 27=>238
 | 46=>265
 | 47=>226
 | 48=>227
 | 49=>266
 | 50=>267
 | 57=>276
 | x=>x,
 λx=>match x with
 | 22=>177
 | 24=>186
 | 25=>251
 | 3=>3
 | 39=>242
 | 0=>0
 | 53=>292
 | 55=>294
 | 4=>4
 | 46=>286
 | 45=>285
 | 50=>132
 | 5=>5
 | 9=>9
 | 66=>327
 | 70=>331
 | 76=>360
 | 77=>361
 | x=>x,λx=>x⟩
theorem tg:SlLaysF.n6 prog vw:=by
 constructor<;>first | kernel_rfl | (intro w;kernel_rfl) | exact vH (by kernel_rfl) (by kernel_rfl)
def vz:Go.Shelf.Ren:=⟨λx=>match x with
 | 6=>83
 | 15=>137
 | 14=>136
 | 28=>191
 | 29=>192
 | 20=>183
 | 21=>184
 | 22=>185
 | 23=>186
 | 24=>187
 | 25=>188
 | 26=>189
 | 27=>190
 | 46=>225
 | 47=>226
 | 48=>227
 | 49=>228
 | 50=>229
 | 57=>264
 | x=>x,
 λx=>match x with
 | 22=>29
 | 24=>28
 | 25=>154
 | 3=>3
 | 39=>242
 | 0=>0
 | 53=>292
 | 55=>294
 | 4=>4
 | 46=>286
 | 45=>285
 | 50=>132
 | 5=>5
 | 9=>9
 | 66=>327
 | 70=>331
 | 76=>360
 | 77=>361
 | x=>x,λx=>x⟩
theorem tj:SlLaysF.n6 prog vz:=by
 constructor<;>first | kernel_rfl | (intro w;kernel_rfl) | exact vH (by kernel_rfl) (by kernel_rfl)
end Go.Proofs.YteifpcnphnhaoaaGreat
namespace Go.Proofs.YteifpcnphnhaoaaGreat
open Go.RowKit
variable{a:Type}{c:a->a->Int}{i:dr}{f:List AW}{g:AW}
set_option maxRecDepth 100000
def NG(i:dr):Int:=if ∃x∈jb (jt i),¬(-Mx<=x.2/\x.2<=Mx) then 12 else 0
theorem qT{j:Nat}{v:Int}(b:(jb (jt i))[j]? =some (g,v))(a:¬(-Mx<=v/\v<=Mx)):(12:Int)=NG i:=by
 unfold NG;rw[ϱ ⟨_,ϖ b,a⟩]
theorem iq(h:∀x∈jb (jt i),-Mx<=x.2/\x.2<=Mx):(0:Int)=NG i:=by grind[NG]
theorem bt(i:dr)(v:m0 i):AI prog 172 [.d (Ah i)] (AE (NG i)):=by
 obtain ⟨M,a⟩:∃M,jb (jt i)=M:=⟨_,Z⟩
 have l:=(S6 i v).by [(2,20)] rfl;rw[a] at l;refine Av func172 Z Z ntmps172 Z Z Z λF r=>(AD (AF (V (Ba 1 Z Z Z Z Z Z Z) (AB Z Z (AC ?_)))));refine AD (AD (AF (J (Ar Z Z Cc Z Z Z) (V (F8 l Z [20] ⟨Z,trivial⟩ Z Z Z Z Z Z Z Z Z) (V (Gz 2 Z Z Z C6 Z Z Z Z) (AC (AX (BC (α:=List Nat) (λseen=>⟨15,[(7,(.ptr 2 0 0))],[(2,[.iter 20 0 M.length seen]),(20,[B6 Bn AE M])]⟩) (λseen=>∀x∈M,x∈CX M (List.range M.length) seen\/(-Mx<=x.2/\x.2<=Mx)) (λseen=>(CX M (List.range M.length) seen).length) ([]) (λx c=> .inl (by rw[Dn (by simp)];exact c)) (AR r [2,20] Z Z ⟨Z,trivial⟩) ?_))))))));intro seen o;refine AD (AF (Me (M) Z Z Z Z (λj=>?_) (λu s y t g k w f=>⟨_,Z,?_⟩)))
 .refine J (D6 Z Z Z) ?_;refine AC (AD (Cr Z Z (Aq (AD (AF (AB Z Z (AC (A5 ?_))))))));exact ⟨_,[],[],A2 Z,Z,Z,Ae (iq λx c=>by rw[a] at c;exact (o x c).elim (λh=>by rw[j] at h;cases h) id),Z⟩
 .refine J (D6 Z Z Z) ?_;refine AC (AD (CM Z Z (AU (AX (AD (AF (J (HB (M) u s Z Z Z g k Z) (J (D6 Z Z Z) ?_))))))));refine AB Z Z (AC (AD (AF (cl Z Z (J (Ak (H5 t (-1000000000000000) 1000000000000000) Z Z) (J (JQ Z Z) (AC (A4 Z (λb=>?_) (λb=>?_)))))))))
  .refine AD (AF (AB Z Z (AC (A5 ?_))));exact ⟨_,[],[],A2 Z,Z,Z,Ae (qT (by rw[a];exact g) (by simpa [Mx] using b)),Z⟩
  .refine AU ?_;exact ⟨seen++ [s],λx c=>(o x c).elim (λh=>(ju.1 (f.mem_iff.1 h)).elim (λe=> .inr (by rw[e];simpa [Mx] using b)) .inl) .inr,by rw[f.length_eq];exact mS _,AR r [2,20] Z (Z) ⟨Z,trivial⟩⟩
theorem Tr{b:Type}{l:List b}{f:b->Int}:BP (l.map f)=0↔∀x∈l,f x=0:=by
 induction l with
 | nil=>simp[BP]
 | cons a l c=>
  grind[BP]
def TA(i:dr):List (FuncId×Int):=[(168,Fy i),(169,LG i),(170,Nu i),(171,Lz i),(172,NG i)]
def Az(i:dr):Int:=if ¬(0<=i.id/\i.id<=1000000000)\/¬(0<=i.sq/\i.sq<=1000000000)\/¬(0<=i.pr/\i.pr<=2) then 2 else if 256<i.po.length\/256<i.pa.length\/256<i.af.length then 8 else BP ((TA i).map Prod.snd)
theorem Si(h:Fy i=0):∀p∈i.po,-Mx<=p.d/\p.d<=Mx:=λp a=>by
 have:=Tr.1 h p a;unfold Ig at this
 split at this; · cases this
 split at this; · cases this
 split at this; · cases this
 rename_i h;exact Decidable.of_not_not h
theorem ew(h:LG i=0):∀p∈i.pa,0<=p.n/\p.n<=Mx:=λp a=>by
 have:=Tr.1 h p a;unfold Jp at this
 split at this; · cases this
 split at this; · cases this
 split at this; · cases this
 rename_i h;exact Decidable.of_not_not h
theorem wv(i:dr)(b:i.po.length<=256)(g:i.pa.length<=256)(f:i.af.length<=256){k:Nat}(c:k<(TA i).length)(a:∀j,j<k->((TA i)[j]?).map Prod.snd=some 0):AI prog (TA i)[k].1 [.d (Ah i)] (AE (TA i)[k].2):=by
 match k,c with
 | 0,_=>exact XL i (by omega)
 | 1,_=>exact XN i (by omega)
 | 2,_=>exact q8 i (by omega)
 | 3,_=>exact Xr i b (Si (by have:=a 0 (by omega);simpa [TA] using this))
 | 4,_=>exact bt i ⟨b,g,f,Si (by have:=a 0 (by omega);simpa [TA] using this),ew (by have:=a 1 (by omega);simpa [TA] using this)⟩
def ya(i:dr)(p:FuncId×Int):D:= .fn p.1 [Ah i] []
theorem Lu(i:dr)(B:i.po.length<=140737488355328)(A:i.pa.length<=140737488355328)(z:i.af.length<=140737488355328):AI prog 123 [.d (Ah i)] (AE (Az i)):=by
 refine Av func123 Z Z ntmps123 Z Z Z λF u=>(AD (AF (V (Ba 1 Z Z Z Z Z Z Z) (AB Z Z (AC (AD ?_))))));refine AX (AD (AF (J (AL Z QU Z Z Z) (J (AQ Z Z Z Ag Z) (J (Ak (I7 _ _ _) Z Z) (J (JQ Z Z) (cl Z Z (C5 11 Z (λt=>?_) (λt=>?_)))))))))
 .refine AN Z Z Z Z ?_;refine AN Z Z Z Z (AN Z Z Z Z (AN Z Z Z Z (J (B4 Z Z Z Z) (cl Z Z (AN Z Z Z Z (AN Z Z Z Z (AN Z Z Z Z (AN Z Z Z Z ?_))))))));refine J (B4 Z Z Z Z) (AB Z Z (AC (CM Z Z (AD (AF (AB Z Z (AC (A5 ?_))))))));exact ⟨_,[],[],A2 Z,Z,Z,Ae (by unfold Az;rw[ϱ (by omega)]),Z⟩
 .refine AT Z Z Z (J (AL Z Pp Z Z Z) ?_);refine AT Z Z Z (J (AQ Z Z Z Ag Z) (AT Z Z Z (J (Ak (I7 _ _ _) Z Z) (AT Z Z Z (J (JQ Z Z) (J (Br Z Z Z Z) (cl Z Z (C5 17 Z (λs=>?_) (λs=>?_)))))))))
  .refine AN Z Z Z Z (AN Z Z Z Z (AN Z Z Z Z (AN Z Z Z Z ?_)));refine J (B4 Z Z Z Z) (AB Z Z (AC (CM Z Z (AD (AF (AB Z Z (AC (A5 ?_))))))));exact ⟨_,[],[],A2 Z,Z,Z,Ae (by unfold Az;rw[ϱ (by omega)]),Z⟩
  .refine AT Z Z Z (J (AL Z Xa Z Z Z) (AT Z Z Z ?_));refine J (AQ Z Z Z Ag Z) (AT Z Z Z (J (Ak (I7 _ _ _) Z Z) (AT Z Z Z (J (JQ Z Z) (J (Br Z Z Z Z) (AB Z Z (AC (A4 Z (λy=>?_) (λy=>?_)))))))))
   .refine AD (AF (AB Z Z (AC (A5 ?_))));exact ⟨_,[],[],A2 Z,Z,Z,Ae (by unfold Az;rw[ϱ (by omega)]),Z⟩
   .refine AD (AF (J (AL Z JC Z Z Z) (J (AQ Z Z Z aq Z) (J (BW Z cB Z) (J (H1 Z Z Z) (cl Z Z (C5 28 Z (λo=>?_) (λo=>?_))))))))
    .refine AN Z Z Z Z ?_;refine AN Z Z Z Z (AN Z Z Z Z (AN Z Z Z Z (J (B4 Z Z Z Z) (cl Z Z (AN Z Z Z Z (AN Z Z Z Z (AN Z Z Z Z (AN Z Z Z Z ?_))))))));refine J (B4 Z Z Z Z) (AB Z Z (AC (CM Z Z (AD (AF (AB Z Z (AC (A5 ?_))))))));exact ⟨_,[],[],A2 Z,Z,Z,Ae (by unfold Az;rw[υ (by omega),ϱ (by omega)]),Z⟩
    .refine AT Z Z Z (J (AL Z Kf Z Z Z) ?_);refine AT Z Z Z (J (AQ Z Z Z fI Z) (AT Z Z Z (J (BW Z cX Z) (AT Z Z Z (J (H1 Z Z Z) (J (Br Z Z Z Z) (cl Z Z (C5 34 Z (λl=>?_) (λl=>?_)))))))))
     .refine AN Z Z Z Z (AN Z Z Z Z (AN Z Z Z Z (AN Z Z Z Z ?_)));refine J (B4 Z Z Z Z) (AB Z Z (AC (CM Z Z (AD (AF (AB Z Z (AC (A5 ?_))))))));exact ⟨_,[],[],A2 Z,Z,Z,Ae (by unfold Az;rw[υ (by omega),ϱ (by omega)]),Z⟩
     .refine AT Z Z Z (J (AL Z GL Z Z Z) (AT Z Z Z ?_));refine J (AQ Z Z Z BJ Z) (AT Z Z Z (J (BW Z E0 Z) (AT Z Z Z (J (H1 Z Z Z) (J (Br Z Z Z Z) (AB Z Z (AC (A4 Z (λr=>?_) (λr=>?_)))))))))
      .refine AD (AF (AB Z Z (AC (A5 ?_))));exact ⟨_,[],[],A2 Z,Z,Z,Ae (by unfold Az;rw[υ (by omega),ϱ (by omega)]),Z⟩
      .refine AU (AD ?_);refine AD (AF (J (Ar Z Z Cc Z Z Z) (J (W0 (ds:=[Ah i]) (es:=[]) Z Z Z Z Z) (J (Ar Z Z Cc Z Z Z) (J (W0 (ds:=[Ah i]) (es:=[]) Z Z Z Z Z) (J (Ar Z Z Cc Z Z Z) (J (W0 (ds:=[Ah i]) (es:=[]) Z Z Z Z Z) (J (Ar Z Z Cc Z Z Z) ?_))))))));refine J (W0 (ds:=[Ah i]) (es:=[]) Z Z Z Z Z) (J (Ar Z Z Cc Z Z Z) (J (W0 (ds:=[Ah i]) (es:=[]) Z Z Z Z Z) (V (CB 2 vo Z Z Z Z Z Z Z Z) (J (QT Z underlying273 Z) (cl Z Z (AC (AX (BC (α:=Nat) (λk=>⟨62,[(50,(.own 2 0 5)),(51,(.d (AE 5))),(52,(.d (AE (k:Int))))],[(2,[.rowD 146 1 ((TA i).map (ya i))])]⟩) (λk=>k<=5/\BP ((TA i).map Prod.snd)=BP (((TA i).drop k).map Prod.snd)/\∀j,j<k->((TA i)[j]?).map Prod.snd=some 0) (λk=>5-k) (0) (⟨κ _,Z,λj h=>absurd h (nI j)⟩) (AR u [2] Z Z ⟨Z,Z,Z,trivial⟩) ?_))))))));rintro k ⟨w,g,f⟩;refine AD (AF (J (At Z Z Z) (AC (AD (A4 Z (λc=>?_) (λc=>?_))))))
       .have a:k<(TA i).length:=by show k<5;have h:=c;omega
        refine AU (AD (AX (AD (AF ?_))));have v:=nO a g;refine J (DO (k) Z Z (Z) (by show k<5;exact a) Z underlying273 vm Z) (J (ED Z Z (AP a) Z wU Z) (AB Z Z (AC (AD (AF (cl Z Z ?_))))));refine J (MQ (wv i (by omega) (by omega) (by omega) a f) Z Z) (AB Z Z (AC (AD (AF (cl Z Z (J (DP Z Z Z) (AC (A4 Z (λb=>?_) (λb=>?_)))))))))
        .refine AD (AF (cl Z Z (AB Z Z (AC (A5 ?_)))));exact ⟨_,[],[],A2 Z,Z,Z,Ae (by unfold Az;rw[υ (by omega),υ (by omega)];exact v.2 _ Z (by simpa using b)),Z⟩
        .refine AU (AF (J (Ac Z Z (AJ (k+1) (by omega)) Z) (cl Z Z (AC ?_))));exact ⟨k+1,⟨by show k+1<=_;omega,v.1 (by simpa using b),λj x=>(Nat.lt_succ_iff_lt_or_eq.1 x).elim (f j) λh=>by subst h;rw[ω a];show some _=_;congr 1;simpa using b⟩,by show 5-(k+1)<5-k;omega,AR u [2] Z (Z) ⟨Z,Z,Z,trivial⟩⟩
       .refine Aq (AD (AF (AB Z Z (AC (A5 ?_)))));exact ⟨_,[],[],A2 Z,Z,Z,Ae (by unfold Az;rw[υ (by omega),υ (by omega),g,DZ (by have h:=c;show ¬k<5;omega)]),Z⟩
theorem wS(l:List Int)(j:l.length<=140737488355328):AI prog 165 [.d (.sl none (l.map AE))] (AE (BP l)):=by
 refine Av func165 Z Z ntmps165 Z Z Z λF o=>(AD (AF (AB Z Z (AC (AD (AF (AB Z Z (AC ?_))))))));refine AD (AD (AF (cl Z Z (J (BW Z E0 Z) (cl Z Z (AC (AX (FR (α:=Nat) (λk=>⟨18,[(3,(.d (AE 0))),(6,(.d (.sl none (l.map AE)))),(7,(.d (AE (l.length:Int)))),(8,(.d (AE (k:Int))))],[]⟩) (λk=>k<=l.length/\BP (l.map id)=BP ((l.drop k).map id)) (λk=>l.length-k) (0) (⟨κ _,Z⟩) (Zm ⟨Z,Z,Z,Z,trivial⟩) ?_))))))));rintro k ⟨i,c⟩;refine AD (AF (J (At Z Z Z) (AC (AD (A4 Z (λf=>?_) (λf=>?_))))))
 .have b:k<l.length:=BG f;refine AU (AD (AX (AD (AF ?_))));have g:=nO b c;refine J (Al (k) Z Z (Z) (AP b) E0 Z BE Z) (J (BZ Z Z Ag Z) ?_);refine AB Z Z (AC (AD (AF (cl Z Z (cl Z Z (J (DP Z Z Z) (AC (A4 Z (λa=>?_) (λa=>?_)))))))))
  .refine AD (AF (cl Z Z (AB Z Z (AC (A5 ?_)))));exact ⟨_,[],[],A2 Z,Z,Z,Ae ((g.2 l[k] Z (by simpa using a)).trans (by rw[List.map_id])),Z⟩
  .refine AU (AF (J (Ac Z Z (AJ (k+1) (by omega)) Z) (cl Z Z (AC ?_))));exact ⟨k+1,⟨by show k+1<=_;omega,g.1 (by simpa using a)⟩,by show l.length-(k+1)<l.length-k;omega,⟨Z,Z,λ_ _=>SW.get (l:=[(3,_),(6,_),(7,_),(8,_)]) ⟨Z,Z,Z,Z,trivial⟩⟩⟩
 .refine Aq (AD (AF (cl Z Z (AB Z Z (AC (A5 ?_))))));exact ⟨_,[],[],A2 Z,Z,Z,Ae (by rw[List.map_id] at c;rw[c,DZ (by have h:=f;omega)]),Z⟩
def BV(a b:AW):Int:=BP [DC a.k b.k,EA a.acc.o b.acc.o,DC a.acc.k b.acc.k,EA a.acc.a b.acc.a,EA a.f b.f,EA a.t b.t]
def E8(a b:dr):Int:=BP [DC b.pr a.pr,DC a.sq b.sq]
theorem NE(a b:AW):AI prog 143 [.d (Bn a),.d (Bn b)] (AE (BV a b)):=by
 refine Av func143 Z Z ntmps143 Z Z Z λF c=>(AD (AF (V (Ba 1 Z Z Z Z Z Z Z) ?_)));refine V (Ba 2 Z Z Z Z Z Z Z) (AB Z Z (AC (AD (Bm [[],[0],[],[2],[0,1,2,3],[],[5],[5,6],[],[8],[8,9],rg 11,[],[12],[12,13],[],[15],[15,16],rg 18,[],[19],[19,20],[],[22],[22,23],rg 25,[],[26],[],[28],rg 30,[],[31],[],[33],rg 35,rg 36,rg 37,rg 38] mixed Z (BY (AK [2] Z (AL Z TJ Z Z Z) (Ay [5] Z Z (λ_=>A9 (AQ Z Z Z Ag Z)) (AK [3] Z (AL Z TJ Z Z Z) ?_))))))));refine Ay [7] Z Z (λ_=>A9 (AQ Z Z Z Ag Z)) (AK [6,8] Z (Ak (T7 a.k b.k) Z Z) (AK [2] Z (AL Z Ee Z Z Z) (AK [10] Z (AL Z TK Z Z Z) (Ay [11] Z Z (λ_=>A9 (AQ Z Z Z CZ Z)) (AK [3] Z (AL Z Ee Z Z Z) (AK [13] Z (AL Z TK Z Z Z) (Ay [14] Z Z (λ_=>A9 (AQ Z Z Z CZ Z)) (AK [12,15] Z (Ak (T6 a.acc.o b.acc.o) Z Z) ?_))))))));refine AK [2] Z (AL Z Ee Z Z Z) (AK [17] Z (AL Z Pn Z Z Z) (Ay [18] Z Z (λ_=>A9 (AQ Z Z Z Ag Z)) (AK [3] Z (AL Z Ee Z Z Z) (AK [20] Z (AL Z Pn Z Z Z) (Ay [21] Z Z (λ_=>A9 (AQ Z Z Z Ag Z)) (AK [19,22] Z (Ak (T7 a.acc.k b.acc.k) Z Z) (AK [2] Z (AL Z Ee Z Z Z) (AK [24] Z (AL Z Pm Z Z Z) ?_))))))));refine Ay [25] Z Z (λ_=>A9 (AQ Z Z Z CZ Z)) (AK [3] Z (AL Z Ee Z Z Z) (AK [27] Z (AL Z Pm Z Z Z) (Ay [28] Z Z (λ_=>A9 (AQ Z Z Z CZ Z)) (AK [26,29] Z (Ak (T6 a.acc.a b.acc.a) Z Z) (AK [2] Z (AL Z Ke Z Z Z) (Ay [31] Z Z (λ_=>A9 (AQ Z Z Z CZ Z)) (AK [3] Z (AL Z Ke Z Z Z) (Ay [33] Z Z (λ_=>A9 (AQ Z Z Z CZ Z)) ?_))))))));refine AK [32,34] Z (Ak (T6 a.f b.f) Z Z) (AK [2] Z (AL Z Kd Z Z Z) (Ay [36] Z Z (λ_=>A9 (AQ Z Z Z CZ Z)) (AK [3] Z (AL Z Kd Z Z Z) (Ay [38] Z Z (λ_=>A9 (AQ Z Z Z CZ Z)) (BR 35 Z Z Z (AZ 36 Z Z (J (Ak (T6 a.t b.t) Z Z) (AC ⟨Z,?_⟩))))))));refine AZ 37 Z Z (V (CB 3 Ap Z Z Z Z Z Z Z Z) (AC ⟨Z,?_⟩));refine AZ 38 Z Z (J (qp [3] (wS [DC a.k b.k,EA a.acc.o b.acc.o,DC a.acc.k b.acc.k,EA a.acc.a b.acc.a,EA a.f b.f,EA a.t b.t] (by simp)) (by exact ⟨.inr ⟨_,_,Z,.own Z Z (by simp) (ζ (by simp)),Z⟩,trivial⟩) Z Z) (AC ⟨Z,?_⟩));refine AZ 39 Z Z (AB Z Z (AC ⟨Z,?_⟩));refine Bb (A5 ?_);exact ⟨_,[],[],A2 Z,Z,Z,Z,Z⟩
theorem Yd(a b:dr):AI prog 122 [.d (Ah a),.d (Ah b)] (AE (E8 a b)):=by
 refine Av func122 Z Z ntmps122 Z Z Z λF c=>(AD (AF (V (Ba 1 Z Z Z Z Z Z Z) (V (Ba 2 Z Z Z Z Z Z Z) ?_))));refine AB Z Z (AC (AD (Bm [[],[0],[],[2],[0,1,2,3],[],[5],[],[7],rg 9,rg 10,rg 11,rg 12] mixed Z (BY (AK [3] Z (AL Z Xa Z Z Z) (Ay [5] Z Z (λ_=>A9 (AQ Z Z Z Ag Z)) (AK [2] Z (AL Z Xa Z Z Z) (Ay [7] Z Z (λ_=>A9 (AQ Z Z Z Ag Z)) ?_))))))));refine AK [6,8] Z (Ak (T7 b.pr a.pr) Z Z) (AK [2] Z (AL Z Pp Z Z Z) (Ay [10] Z Z (λ_=>A9 (AQ Z Z Z Ag Z)) (AK [3] Z (AL Z Pp Z Z Z) (Ay [12] Z Z (λ_=>A9 (AQ Z Z Z Ag Z)) (BR 9 Z Z Z (AZ 10 Z Z (J (Ak (T7 a.sq b.sq) Z Z) (AC ⟨Z,?_⟩))))))));refine AZ 11 Z Z (V (CB 3 Ap Z Z Z Z Z Z Z Z) (AC ⟨Z,?_⟩));refine AZ 12 Z Z (J (qp [3] (wS [DC b.pr a.pr,DC a.sq b.sq] (by simp)) (by exact ⟨.inr ⟨_,_,Z,.own Z Z (by simp) (ζ (by simp)),Z⟩,trivial⟩) Z Z) (AC ⟨Z,?_⟩));refine AZ 13 Z Z (AB Z Z (AC ⟨Z,?_⟩));refine Bb (A5 ?_);exact ⟨_,[],[],A2 Z,Z,Z,Z,Z⟩
theorem jA(a b:dr):AI prog 117 [.d (Ah a),.d (Ah b)] (.raw (.bool (decide (E8 a b<0)))):=by
 refine Av func117 Z Z ntmps117 Z Z Z λF c=>(AD (AF (V (Ba 1 Z Z Z Z Z Z Z) (V (Ba 2 Z Z Z Z Z Z Z) (AB Z Z (AC ?_))))));refine AD (AF (J (Ar Z Z Cc Z Z Z) (J (Ar Z Z Cc Z Z Z) (J (Ak (Yd a b) Z Z) (J (At Z Z Z) (AB Z Z (AC (A5 ?_))))))));exact ⟨_,[],[],A2 Z,Z,Z,Z,Z⟩
def Qc(x:AW×Int):D:= .agg [AE x.1.k,Am x.1.acc.o,AE x.1.acc.k,Am x.1.acc.a,Am x.1.f,Am x.1.t,AE x.2]
theorem bf(a b:AW×Int):AI prog 162 [.d (Qc a),.d (Qc b)] (AE (BV a.1 b.1)):=by
 refine Av func162 Z Z ntmps162 Z Z Z λF c=>(AD (AF (V (Ba 1 Z Z Z Z Z Z Z) (V (Ba 2 Z Z Z Z Z Z Z) (AB Z Z (AC (AD ?_)))))));refine AF (J (AL Z L9 Z Z Z) (J (Ar Z Z Cw Z Z Z) (J (AL Z L9 Z Z Z) (J (Ar Z Z Cw Z Z Z) (J (Ak (NE a.1 b.1) Z Z) (AB Z Z (AC (A5 ?_))))))));exact ⟨_,[],[],A2 Z,Z,Z,Z,Z⟩
theorem Mj:∀a b c:List UInt8,Sq a b=true->Sq b c=true->Sq a c=true
 | [],[],_,h,_=>by simp[Sq,Op.bytesLess] at h
 | [],_::_,[],_,h=>by simp[Sq,Op.bytesLess] at h
 | [],_::_,_::_,_,_=>by simp[Sq,Op.bytesLess]
 | _::_,[],_,h,_=>by simp[Sq,Op.bytesLess] at h
 | _::_,_::_,[],_,h=>by simp[Sq,Op.bytesLess] at h
 | a::x,b::y,c::z,g,f=>by
  simp only[Sq,Op.bytesLess,Bool.or_eq_true,lh,kQ,beq_iff_eq] at g f⊢;rcases g with g | ⟨rfl,g⟩<;>rcases f with f | ⟨rfl,f⟩
  .exact .inl (UInt8.lt_trans g f)
  .exact .inl g
  .exact .inl f
  .exact .inr ⟨Z,Mj x y z g f⟩
theorem XY(a:List UInt8):Sq a a=false:=by grind[Jb,Sq]
structure PC {γ:Type} (c:γ->γ->Int):Prop where
 anti:∀x y,c y x= - c x y
 trans:∀x y z,c x y<0->c y z<0->c x z<0
 eqv:∀x y z,c x y=0->c x z=c y z
theorem k6:PC DC:=⟨λx y=>by unfold DC;split<;>split<;>first | omega | rfl,λx y z=>by unfold DC;split<;>split<;>(try split)<;>(try split)<;>(try split)<;>(try split)<;>first | omega | simp,λx y z h=>by
 have:x=y:=by
  unfold DC at h;split at h; · cases h
  split at h; · cases h
  omega
 rw[this]⟩
theorem SH{a b:List UInt8}:EA a b=0↔a=b:=by grind[EA,Jb,Sq]
theorem Pz{a b:List UInt8}:EA a b<0↔Sq a b=true:=by grind[EA]
theorem lK:PC EA:=⟨λx y=>by
 unfold EA
 by_cases b:Sq x y=true
 .have a:¬Sq y x=true:=λa=>by have:=Mj x y x b a;rw[XY] at this;cases this
  rw[υ a,ϱ b,ϱ b];rfl
 .by_cases a:Sq y x=true
  .rw[ϱ a,υ b,ϱ a]
  .rw[υ a,υ b,υ b,υ a];rfl,λx y z b a=>Pz.2 (Mj x y z (Pz.1 b) (Pz.1 a)),λx y z h=>by rw[SH.1 h]⟩
theorem PC.comap{b:Type}(h:PC c)(f:b->a):PC λx y=>c (f x) (f y):=⟨λ_ _=>h.anti _ _,λ_ _ _=>h.trans _ _ _,λ_ _ _=>h.eqv _ _ _⟩
theorem PC.rev(h:PC c):PC λx y=>c y x:=⟨λx y=>h.anti y x,λx y z b f=>h.trans _ _ _ f b,λx y z b=>by
 have e:c x y=0:=by have:=h.anti y x;omega
 have:=h.eqv x y z e
 rw[h.anti x z,h.anti y z,this]⟩
theorem PC.zero:PC λ_ _:a=>(0:Int):=⟨λ_ _=>rfl,λ_ _ _ h=>by omega,λ_ _ _ _=>rfl⟩
theorem PC.lex{r:a->a->List Int}(h:PC c)(k:PC λx y=>BP (r x y)):PC λx y=>BP (c x y::r x y):=by
 have l:∀x y,c x y=0↔c y x=0:=λx y=>by have:=h.anti x y;omega
 refine ⟨λx y=>?_,λx y z=>?_,λx y z=>?_⟩
 .simp only[BP]
  by_cases e:c x y=0
  .rw[ϱ e,ϱ ((l x y).1 e)];exact k.anti x y
  .rw[υ e,υ (λo=>e ((l x y).2 o))];exact h.anti x y
 .simp only[BP];intro b g
  by_cases f:c x y=0<;>by_cases i:c y z=0
  .have j:c x z=0:=by rw[h.eqv x y z f];exact i
   rw[ϱ f] at b;rw[ϱ i] at g;rw[ϱ j];exact k.trans x y z b g
  .rw[υ i] at g;have j:c x z=c y z:=h.eqv x y z f;omega
  .rw[υ f] at b;have j:c z x=c y x:=(h.eqv y z x i).symm;have s:c x z=c x y:=by rw[h.anti z x,h.anti y x,j]
   omega
  .rw[υ f] at b;rw[υ i] at g;have:=h.trans x y z b g;omega
 .simp only[BP];intro b
  have f:c x y=0:=by
   omega
  rw[ϱ f] at b;rw[h.eqv x y z f];rw[k.eqv x y z b]
theorem PC.last:PC λx y:a=>BP ((λ_ _:a=>([]:List Int)) x y):=PC.zero
theorem NM:PC BV:=
 PC.lex (k6.comap AW.k)<| PC.lex (lK.comap λr:AW=>r.acc.o)<| PC.lex (k6.comap λr:AW=>r.acc.k)<| PC.lex (lK.comap λr:AW=>r.acc.a)<| PC.lex (lK.comap AW.f)<| PC.lex (lK.comap AW.t) PC.last
theorem EO:PC E8:=PC.lex (k6.comap dr.pr).rev<| PC.lex (k6.comap dr.sq) PC.last
theorem PC.refl(h:PC c)(x:a):c x x=0:=by have:=h.anti x x;omega
theorem PC.swo(h:PC c):Go.Sort.SWO (ltOf c):=by
 refine ⟨λx=>?_,λx y z f b=>?_,λx y z f b=>?_⟩
 .simp[ltOf,h.refl]
 .simp only[ltOf,lh] at*;exact h.trans x y z f b
 .simp only[ltOf,decide_eq_false_iff_not] at*;have k:=h.anti x y;have j:=h.anti y z;have i:=h.anti x z
  by_cases e:c x y=0
  .rw[h.eqv x y z e];exact b
  .by_cases g:c y z=0
   .have:=h.eqv y z x g;omega
   .have:=h.trans z y x (by omega) (by omega);omega
theorem SJ{a b:Int}:DC a b=0↔a=b:=by grind[DC]
theorem Ds{a b:AW}:BV a b=0↔a=b:=by grind[BV,BP,AW.eq_iff,W3.eq_iff,SJ,SH]
theorem sR{k:Type}{R:k->k->Prop}(c:∀x,¬R x x)(o:∀x y z,R x y->R y z->R x z):∀{l m:List k},l.Pairwise R->m.Pairwise R->(∀x,x∈l↔x∈m)->l=m
 | [],[],_,_,_=>rfl
 | [],b::m,_,_,h=>by have:=(h b).2 (by simp);cases this
 | a::l,[],_,_,h=>by have:=(h a).1 (by simp);cases this
 | a::l,b::m,j,i,h=>by
  rw[mC] at j i
  have e:a=b:=by
   rcases ju.1 ((h a).1 (by simp)) with e | g
   .exact e
   .rcases ju.1 ((h b).2 (by simp)) with e | r
    .exact e.symm
    .exact absurd (o _ _ _ (j.1 b r) (i.1 a g)) (c a)
  subst e
  congr 1
  refine sR c o j.2 i.2 λx=>⟨λf=>?_,λf=>?_⟩
  .rcases ju.1 ((h x).1 (by simp[f])) with e | g
   .subst e;exact absurd (j.1 x f) (c x)
   .exact g
  .rcases ju.1 ((h x).2 (by simp[f])) with e | g
   .subst e;exact absurd (i.1 x f) (c x)
   .exact g
abbrev Tj:W3:=⟨[],0,[]⟩
def Bs(r:AW):Int:=
 if r.k=0 then (if r.acc.o≠ []/\r.acc.a≠ []/\0<=r.acc.k/\r.acc.k<5/\r.f=[]/\r.t=[] then 0 else 3)
 else if r.k=1 then (if r.f≠ []/\r.t≠ []/\r.f≠r.t/\r.acc=Tj then 0 else 3)
 else if r.k=2 then (if r.f≠ []/\r.t=[]/\r.acc=Tj then 0 else 3) else 11
theorem YG(r:AW):AI prog 124 [.d (Bn r)] (AE (Bs r)):=by
 refine Av func124 Z Z ntmps124 Z Z Z λF v=>(AD (AF (V (Ba 1 Z Z Z Z Z Z Z) (AB Z Z ?_))));refine AC (AD (AF (AB Z Z (AC (AD (AD (AF (J (AL Z TJ Z Z Z) ?_))))))));refine J (AQ Z Z Z Ag Z) (AC (AX (AD (AF (J (GW Z Z Z) (AB Z Z (AC (A4 Z (λu=>?_) (λu=>?_)))))))));refine AF (J (AL Z Ee Z Z Z) (J (AL Z TK Z Z Z) (J (AQ Z Z Z CZ Z) (J (DU Z Z Z) (cl Z Z (C5 12 Z (λt=>?_) (λt=>?_)))))));refine AT Z Z Z (J (AL Z Ee Z Z Z) ?_);refine AT Z Z Z (J (AL Z Pm Z Z Z) (AT Z Z Z (J (AQ Z Z Z CZ Z) (AT Z Z Z (J (DU Z Z Z) (J (B4 Z Z Z Z) (cl Z Z (C5 18 Z (λs=>?_) (λs=>?_)))))))));refine AT Z Z Z (J (AL Z Ee Z Z Z) ?_);refine AT Z Z Z (J (AL Z Pn Z Z Z) (AT Z Z Z (J (AQ Z Z Z Ag Z) (AT Z Z Z (J (EH Z Z Z) (J (B4 Z Z Z Z) (cl Z Z (C5 24 Z (λo=>?_) (λo=>?_)))))))));refine AT Z Z Z (J (AL Z Ee Z Z Z) ?_);refine AT Z Z Z (J (AL Z Pn Z Z Z) (AT Z Z Z (J (AQ Z Z Z Ag Z) (AT Z Z Z (J (At Z Z Z) (J (B4 Z Z Z Z) (cl Z Z (C5 30 Z (λl=>?_) (λl=>?_)))))))));refine AT Z Z Z (J (AL Z Ke Z Z Z) (AT Z Z Z (J (AQ Z Z Z CZ Z) (AT Z Z Z (J (Kn Z Z Z) (J (B4 Z Z Z Z) (cl Z Z (C5 35 Z (λk=>?_) (λk=>?_)))))))));refine AT Z Z Z (J (AL Z Kd Z Z Z) (AT Z Z Z (J (AQ Z Z Z CZ Z) (AT Z Z Z (J (Kn Z Z Z) (J (B4 Z Z Z Z) ?_))))));refine AB Z Z (AC (AD (AD (AF (cl Z Z (J (JQ Z Z) (AC (A4 Z (λa=>?_) (λa=>?_)))))))))
 rotate_left
 refine AU ?_
 rotate_left
 refine AN Z Z Z Z (AN Z Z Z Z (AN Z Z Z Z (J (Br Z Z Z Z) ?_)));refine AB Z Z (AC (AD (AD (AF (cl Z Z (J (Ek Z Z) (AC (CM Z Z ?_))))))))
 rotate_left
 refine AN Z Z Z Z (AN Z Z Z Z (AN Z Z Z Z (J (Br Z Z Z Z) (cl Z Z (AN Z Z Z Z (AN Z Z Z Z (AN Z Z Z Z (J (Br Z Z Z Z) ?_))))))));refine AB Z Z (AC (AD (AD (AF (cl Z Z (J (Ek Z Z) (AC (CM Z Z ?_))))))))
 rotate_left
 refine AN Z Z Z Z (AN Z Z Z Z (AN Z Z Z Z (AN Z Z Z Z (J (Br Z Z Z Z) (cl Z Z ?_)))));refine AN Z Z Z Z (AN Z Z Z Z (AN Z Z Z Z (J (Br Z Z Z Z) (cl Z Z (AN Z Z Z Z (AN Z Z Z Z (AN Z Z Z Z (J (Br Z Z Z Z) ?_))))))));refine AB Z Z (AC (AD (AD (AF (cl Z Z (J (Ek Z Z) (AC (CM Z Z ?_))))))))
 rotate_left
 refine AN Z Z Z Z (AN Z Z Z Z (AN Z Z Z Z ?_));refine AN Z Z Z Z (J (Br Z Z Z Z) (cl Z Z (AN Z Z Z Z (AN Z Z Z Z (AN Z Z Z Z (AN Z Z Z Z (J (Br Z Z Z Z) (cl Z Z ?_))))))));refine AN Z Z Z Z (AN Z Z Z Z (AN Z Z Z Z (J (Br Z Z Z Z) (cl Z Z (AN Z Z Z Z (AN Z Z Z Z (AN Z Z Z Z (J (Br Z Z Z Z) ?_))))))));refine AB Z Z (AC (AD (AD (AF (cl Z Z (J (Ek Z Z) (AC (CM Z Z ?_))))))))
 rotate_left
 refine AN Z Z Z Z (AN Z Z Z Z (AN Z Z Z Z (AN Z Z Z Z (J (Br Z Z Z Z) (cl Z Z (AN Z Z Z Z (AN Z Z Z Z (AN Z Z Z Z ?_))))))));refine AN Z Z Z Z (J (Br Z Z Z Z) (cl Z Z (AN Z Z Z Z (AN Z Z Z Z (AN Z Z Z Z (AN Z Z Z Z (J (Br Z Z Z Z) (cl Z Z ?_))))))));refine AN Z Z Z Z (AN Z Z Z Z (AN Z Z Z Z (J (Br Z Z Z Z) (cl Z Z (AN Z Z Z Z (AN Z Z Z Z (AN Z Z Z Z (J (Br Z Z Z Z) ?_))))))));refine AB Z Z (AC (AD (AD (AF (cl Z Z (J (Ek Z Z) (AC (CM Z Z ?_))))))))
 rotate_left
 refine AD (AF (J (GW Z Z Z) (AB Z Z (AC (A4 Z (λj=>?_) (λj=>?_))))));refine AF (J (AL Z Ke Z Z Z) (J (AQ Z Z Z CZ Z) (J (DU Z Z Z) (cl Z Z (C5 45 Z (λi=>?_) (λi=>?_))))));refine AT Z Z Z (J (AL Z Kd Z Z Z) (AT Z Z Z (J (AQ Z Z Z CZ Z) (AT Z Z Z (J (DU Z Z Z) (J (B4 Z Z Z Z) (cl Z Z (C5 50 Z (λh=>?_) (λh=>?_)))))))));refine AT Z Z Z (J (AL Z Ke Z Z Z) (AT Z Z Z (J (AQ Z Z Z CZ Z) ?_)));refine AT Z Z Z (J (AL Z Kd Z Z Z) (AT Z Z Z (J (AQ Z Z Z CZ Z) (AT Z Z Z (J (DU Z Z Z) (J (B4 Z Z Z Z) (cl Z Z (C5 57 Z (λg=>?_) (λg=>?_)))))))));refine AT Z Z Z (J (AL Z Ee Z Z Z) (AT Z Z Z (J (Ar Z Z nz Z Z Z) (AT Z Z Z (J (Dx cY et Z Z Z) (AT Z Z Z (J (Ft (la:=Nv r.acc) (lb:=Nv Tj) (ds:=jN) (by kernel_rfl) (by kernel_rfl) (by kernel_rfl) Z Z Z Z (Dv _) (Dv _) (O1 _ _) Z) (J (B4 Z Z Z Z) ?_))))))));refine AB Z Z (AC (AD (AD (AF (cl Z Z (J (JQ Z Z) (AC (A4 Z (λa=>?_) (λa=>?_)))))))))
 rotate_left
 refine AU ?_
 rotate_left
 refine AN Z Z Z Z (AN Z Z Z Z (AN Z Z Z Z (AN Z Z Z Z (J (Br Z Z Z Z) ?_))));refine AB Z Z (AC (AD (AD (AF (cl Z Z (J (Ek Z Z) (AC (CM Z Z ?_))))))))
 rotate_left
 refine AN Z Z Z Z (AN Z Z Z Z (AN Z Z Z Z ?_));refine AN Z Z Z Z (AN Z Z Z Z (J (Br Z Z Z Z) (cl Z Z (AN Z Z Z Z (AN Z Z Z Z (AN Z Z Z Z (AN Z Z Z Z (J (Br Z Z Z Z) ?_))))))));refine AB Z Z (AC (AD (AD (AF (cl Z Z (J (Ek Z Z) (AC (CM Z Z ?_))))))))
 rotate_left
 refine AN Z Z Z Z (AN Z Z Z Z (AN Z Z Z Z (J (Br Z Z Z Z) (cl Z Z (AN Z Z Z Z (AN Z Z Z Z (AN Z Z Z Z ?_)))))));refine AN Z Z Z Z (AN Z Z Z Z (J (Br Z Z Z Z) (cl Z Z (AN Z Z Z Z (AN Z Z Z Z (AN Z Z Z Z (AN Z Z Z Z (J (Br Z Z Z Z) ?_))))))));refine AB Z Z (AC (AD (AD (AF (cl Z Z (J (Ek Z Z) (AC (CM Z Z ?_))))))))
 rotate_left
 refine AD (AF (J (GW Z Z Z) (AB Z Z (AC (A4 Z (λf=>?_) (λf=>?_))))));refine AF (J (AL Z Ke Z Z Z) (J (AQ Z Z Z CZ Z) (J (DU Z Z Z) (cl Z Z (C5 68 Z (λc=>?_) (λc=>?_))))));refine AT Z Z Z (J (AL Z Kd Z Z Z) (AT Z Z Z (J (AQ Z Z Z CZ Z) (AT Z Z Z (J (Kn Z Z Z) (J (B4 Z Z Z Z) (cl Z Z (C5 73 Z (λb=>?_) (λb=>?_)))))))));refine AT Z Z Z (J (AL Z Ee Z Z Z) (AT Z Z Z (J (Ar Z Z nz Z Z Z) (AT Z Z Z (J (Dx cY et Z Z Z) (AT Z Z Z (J (Ft (la:=Nv r.acc) (lb:=Nv Tj) (ds:=jN) (by kernel_rfl) (by kernel_rfl) (by kernel_rfl) Z Z Z Z (Dv _) (Dv _) (O1 _ _) Z) (J (B4 Z Z Z Z) ?_))))))));refine AB Z Z (AC (AD (AD (AF (cl Z Z (J (JQ Z Z) (AC (A4 Z (λa=>?_) (λa=>?_)))))))))
 rotate_left
 refine AU ?_
 rotate_left
 refine AN Z Z Z Z (AN Z Z Z Z (AN Z Z Z Z (AN Z Z Z Z (J (Br Z Z Z Z) ?_))));refine AB Z Z (AC (AD (AD (AF (cl Z Z (J (Ek Z Z) (AC (CM Z Z ?_))))))))
 rotate_left
 refine AN Z Z Z Z ?_;refine AN Z Z Z Z (AN Z Z Z Z (J (Br Z Z Z Z) (cl Z Z (AN Z Z Z Z (AN Z Z Z Z (AN Z Z Z Z (AN Z Z Z Z (J (Br Z Z Z Z) ?_))))))));refine AB Z Z (AC (AD (AD (AF (cl Z Z (J (Ek Z Z) (AC (CM Z Z ?_))))))))
 rotate_left
 all_goals
  refine AD (AF (AB Z Z (AC (A5 ?_))));exact ⟨_,[],[],A2 Z,Z,Z,Ae (by unfold Bs;simp_all<;>(intros;omega)),Z⟩
def Cp:List AW->AW->List AW
 | [],r=> [r]
 | a::l,r=>if BV a r<0 then a::Cp l r else if a=r then a::l else r::a::l
def cN(l:List AW):Prop:=l.Pairwise λa b=>BV a b<0
theorem mJ{x:AW}:x∈Cp f g↔x=g\/x∈f:=by
 induction f with
 | nil=>simp[Cp]
 | cons a f b=>
  grind[Cp]
theorem gU(h:cN f)(r:AW):cN (Cp f r):=by
 induction f with
 | nil=>simp[Cp,cN]
 | cons a f g=>
  simp only[cN,mC] at h;simp only[Cp]
  split
  .rename_i j
   refine mC.2 ⟨λx b=>?_,g h.2⟩;rcases mJ.1 b with rfl | b
   all_goals (grind)
  .split
   .exact mC.2 h
   .rename_i j i
    have c:BV r a<0:=by
     have:=NM.anti a r;have k:BV a r≠0:=λe=>i (Ds.1 e);omega
    refine mC.2 ⟨λx b=>?_,mC.2 h⟩;rcases ju.1 b with rfl | b
    .exact c
    .exact NM.trans _ _ _ c (h.1 x b)
def jv(c:List (AW×Int)):List AW:=(c.map Prod.fst).foldl Cp []
theorem JX(c:List (AW×Int))(x:AW×Int):jv (c++ [x])=Cp (jv c) x.1:=by simp[jv]
theorem Kp(c:List (AW×Int))(r:AW):r∈jv c↔r∈c.map Prod.fst:=by
 induction c using cK with
 | h0=>simp[jv]
 | h1 l x a=>rw[JX,mJ,a];simp only[kA,k7,List.map_nil,ν,ξ];exact or_comm
theorem cq(c:List (AW×Int)):cN (jv c):=by
 induction c using cK with
 | h0=>simp[jv,cN]
 | h1 l x a=>rw[JX];exact gU a _
def NA(c:List (AW×Int)):List (AW×Int):=((jv c).map λr=>(r,Ai c r)).filter λx=>decide (x.2≠0)
def iV(i:dr):List (AW×Int):=NA (jt i)
theorem Lt(c:List (AW×Int)):(NA c).Pairwise λa b=>BV a.1 b.1<0:=by
 unfold NA;refine List.Pairwise.filter _ ?_;rw[lA];exact cq c
theorem EG(c:List (AW×Int))(a:AW)(b:Int):(a,b)∈jb c↔a∈c.map Prod.fst/\b=Ai c a:=by
 constructor
 .intro h;refine ⟨(JZ c a).1 (Γ.2 ⟨_,h,Z⟩),?_⟩;rw[<-Ks,jT (Fq c) h]
 .rintro ⟨h,rfl⟩;rw[<-Ks];exact Iq ((JZ c a).2 h)
theorem HU(c:List (AW×Int))(x:AW×Int):x∈NA c↔x∈jb c/\x.2≠0:=by grind[NA,EG,Kp]
theorem ZZ{c f g:List (AW×Int)}(l:f.Perm ((jb c).filter λx=>decide (x.2≠0)))(k:g.Perm f)(j:g.Pairwise λa b=>¬BV b.1 a.1<0):g=NA c:=by
 have h:=k.trans l;refine sR (R:=λa b=>BV a.1 b.1<0) (λx=>by rw[NM.refl];omega) (λx y z=>NM.trans x.1 y.1 z.1) ?_ (Lt c) λx=>?_
 .have i:(g.map Prod.fst).Nodup:=by
   refine ((h.map Prod.fst).nodup_iff).2 ?_;exact (Fq c).sublist (List.Sublist.map _ lp)
  rw[List.Nodup,lA] at i;refine (j.and i).imp λ{a b} ⟨s,o⟩=>?_;have:=NM.anti a.1 b.1;have r:BV a.1 b.1≠0:=λe=>o (Ds.1 e);omega
 .rw[h.mem_iff,HU,Φ,lh]
theorem iW(x:AW×Int):∃a,Qc x= .agg a:=⟨_,Z⟩
theorem aQ{c f:List (AW×Int)}(g:f.Perm ((jb c).filter λx=>decide (x.2≠0))):f.length=(NA c).length:=by
 have k:=List.pairwise_mergeSort (le:=λa b:AW×Int=>decide (¬BV b.1 a.1<0)) (λa b d g j=>by
  have:=NM.swo.ntrans d.1 b.1 a.1;simp only[ltOf,decide_eq_false_iff_not] at this;simp only[lh] at g j⊢
  exact this j g) (λa b=>by have:=NM.anti a.1 b.1;simp only[Bool.or_eq_true,lh];omega) f
 have i:=List.mergeSort_perm f (λa b:AW×Int=>decide (¬BV b.1 a.1<0));rw[<-ZZ g i (k.imp λ{a b} h=>by simpa using h)];exact i.length_eq.symm
section
variable{F:Fr}{s:AS}{d:Nat}{x y:Operand}{ty:TypeId}{pos:String}{aft:Array Edge}{gd:Option (Nat×Bool)}{at_:Array TypeId}{f n:Nat}{row:List D}{hp':Hp}
theorem dP(c g:List (AW×Int))(v:g.Perm ((jb c).filter λx=>decide (x.2≠0)))(i:g.length<4611686018427387904)(l:s.ev x=some (.own f 0 n))(j:s.ev y=some (.d (.raw (.func (.func 162) #[] #[]))))(o:dd s.hp f 0=some (.rowD 218 7 row))(h:row=g.map Qc)(r:n=g.length)(t:Be s.hp f 0 (.rowD 218 7 ((NA c).map Qc))=some hp')(u:Nat.blt d s.n=true):
  AH prog F ⟨some d,.call {callee:= .value (.func 161),args:= #[x,y],argTypes:=at_},ty,pos,aft,gd⟩ s ⟨s.n,(d,.d (.tup []))::s.env,hp'⟩ (λ_ _=>true):=
 OB w9 (k:=7) (by decide) isAgg218 sizeOf218 func162 Z Z iW (λa b=>BV a.1 b.1) (NM.comap Prod.fst).swo g (NA c) i (λx _ y _=>bf x y) (λA z w=>ZZ v z w) Z l j My o h r t u
end
variable{a:Type}{c:List a}{i:dr}{f:a->Bool}{k:Nat}{g:List Int}{h:Int}{j:List a}{o:Type}{s:a->o}{t:iB}{u:AW}{x:a}{w:o}{y:Int}{z:Bool}{A:List a}{B:Nat}
def ea(i:dr):List (AW×Int):=if Az i=0 then iV i else []
theorem Iy(h:BP g=0):∀x∈g,x=0:=by
 have:=(Tr (l:=g) (f:=id)).1 (by rw[List.map_id];exact h);exact this
theorem FD(h:Az i=0):m0 i/\(0<=i.id/\i.id<=1000000000)/\(0<=i.sq/\i.sq<=1000000000)/\(0<=i.pr/\i.pr<=2)/\Fy i=0/\LG i=0/\Nu i=0/\Lz i=0/\NG i=0:=by
 unfold Az at h
 split at h; · cases h
 split at h; · cases h
 rename_i g f
 have a:=Iy h;have c:=a (Fy i) (by simp[TA]);have b:=a (LG i) (by simp[TA]);exact ⟨⟨by omega,by omega,by omega,Si c,ew b⟩,by omega,by omega,by omega,c,b,a _ (by simp[TA]),a _ (by simp[TA]),a _ (by simp[TA])⟩
theorem ID(i:dr):(jt i).length=i.po.length+4*i.pa.length:=by simp[jt,EX,JF]
theorem I9(c:List (AW×Int)):(jb c).length<=c.length:=by
 induction c using cK with
 | h0=>simp[jb]
 | h1 l x a=>
  grind[jM,LR,jb]
theorem tX{B X:List a}(g:(j++A.filter f).Perm X)(c:A.Perm (x::B))(b:f x=true):((j++ [x])++B.filter f).Perm X:=by
 have h:=c.filter f;rw[List.filter_cons_of_pos b] at h;rw[lm];exact (List.Perm.append_left j h.symm).trans g
theorem oe{B X:List a}(g:(j++A.filter f).Perm X)(c:A.Perm (x::B))(b:¬f x=true):(j++B.filter f).Perm X:=by
 have h:=c.filter f;rw[List.filter_cons_of_neg b] at h;exact (List.Perm.append_left j h.symm).trans g
theorem Yr{M:List a}(b:(j++A.filter f).Perm (M.filter f)):j.length<=M.length:=by
 have h:=b.length_eq
 grind
theorem Vr(i:dr)(H:i.po.length<=140737488355328)(G:i.pa.length<=140737488355328)(E:i.af.length<=140737488355328):AI prog 118 [.d (Ah i)] (.tup [.sl none ((ea i).map Qc),AE (Az i)]):=by
 by_cases t:Az i=0
 .have z:=(FD t).1;have A:ea i=iV i:=ϱ t
  obtain ⟨M,g⟩:∃M,jb (jt i)=M:=⟨_,Z⟩
  have B:=(S6 i z).by [(2,20)] rfl;have C:M.length<=1280:=by rw[<-g];have N:=I9 (jt i);have L:=ID i;have K:=z.po;have I:=z.pa;omega
  rw[g] at B;rw[A];have c:=Lu i H G E;rw[t] at c⊢;refine Av func118 Z Z ntmps118 Z Z Z λF u=>(AD (AF (V (Ba 1 Z Z Z Z Z Z Z) (AB Z Z (AB Z Z (AC (AD ?_)))))));refine AD (AF (J (Ar Z Z Cc Z Z Z) (J (Ak (c) Z Z) (AB Z Z (AC (AD (AF (cl Z Z ?_))))))));refine J (DP Z Z Z) (AC (Cr Z (by decide) (AU (AD (AF (AB Z Z (AC (AD ?_))))))));refine AD (IY 5 900 dc Z Z Z Z (AF (J (Ar Z Z Cc Z Z Z) (V (F8 B Z [20] ⟨Z,trivial⟩ Z Z Z Z Z Z Z Z Z) (V (Gz 2 Z Z Z C6 Z Z Z Z) (AC (AX (BC (α:=List Nat×List (AW×Int)) (λq=>⟨32,[(5,(.own 900 0 q.2.length)),(15,(.ptr 2 0 0))],[(2,[.iter 20 0 M.length q.1]),(20,[B6 Bn AE M]),(900,[.rowD 218 7 (q.2.map Qc)])]⟩) (λq=>(q.2++(CX M (List.range M.length) q.1).filter (λx=>decide (x.2≠0))).Perm (M.filter λx=>decide (x.2≠0))) (λq=>(CX M (List.range M.length) q.1).length) (([],[])) (by rw[Dn (by simp)];exact List.Perm.refl _) (AR u [2,20,900] Z Z ⟨Z,Z,trivial⟩) ?_))))))));rintro ⟨seen,k⟩ l;dsimp only at l⊢;refine AD (AF (Me (M) Z Z Z Z (λr=>?_) (λy b w v o s D a=>⟨_,Z,?_⟩)))
  .refine J (D6 Z Z Z) (AC (AD (Cr Z Z (Aq (AD ?_)))));have f:k.Perm ((jb (jt i)).filter λx=>decide (x.2≠0)):=by have h:=l;rw[r,List.filter_nil,kZ] at h;rw[g];exact h
   refine AF (cl Z Z (V (dP (jt i) k f (by have:=Yr l;omega) Z Z Z Z Z Z Z) ?_));refine AC (AD (Fi (emb:=Qc) 5 900 (iV i) Z Z Z (aQ f) Z Z Z (AF (cl Z Z (AB Z Z (AB Z Z (AC (A5 ?_))))))));exact ⟨_,[],[],A2 Z,Z,Z,Z,Z⟩
  .refine J (D6 Z Z Z) (AC (AD ?_));refine CM Z Z (AU (AX (AD (AF (J (HB (M) y b Z Z Z o s Z) (J (D6 Z Z Z) (J (D6 Z Z Z) (V (CF 3 MI Z Z Z Z) ?_))))))));refine V (Bc Z Z Z Z Z Z Z dA) (AB Z Z (AC (AD (AF (cl Z Z (J (DP Z Z Z) (AC (A4 Z (λj=>?_) (λj=>?_)))))))))
   .refine AF (cl Z Z (J (Ar Z Z Cw Z Z Z) (cl Z Z (J (Dx c6 wI Z Z Z) (V (CB 4 dc Z Z Z Z Z Z Z Z) (V (DQ (k) ([(w,v)]) Z Z Z Z Z Z Z Z dc (by have:=Yr l;simp only[η];omega) Z Z Z Z) (AB Z Z (AC ?_))))))));exact ⟨(seen++ [b],_),tX l a (by simpa using j),by show (CX M (List.range M.length) (seen++ [b])).length<(CX M (List.range M.length) seen).length;rw[a.length_eq];exact mS _,AR u [2,20,900] Z (Z) ⟨Z,Z,trivial⟩⟩
   .refine AU ?_;exact ⟨(seen++ [b],_),oe l a (by simpa using j),by show (CX M (List.range M.length) (seen++ [b])).length<(CX M (List.range M.length) seen).length;rw[a.length_eq];exact mS _,AR u [2,20,900] Z (Z) ⟨Z,Z,trivial⟩⟩
 .have c:=Lu i H G E;have A:ea i=[]:=υ t;rw[A];refine Av func118 Z Z ntmps118 Z Z Z λF u=>(AD ?_);refine AF (V (Ba 1 Z Z Z Z Z Z Z) (AB Z Z (Zg 2 Z (AB Z Z (AC (AD (AD (AF ?_))))))));refine J (Ar Z Z Cc Z Z Z) (J (Ak (c) Z Z) (AB Z Z (AC (AD (AF (cl Z Z (J (DP Z Z Z) (AC ?_))))))));refine CM Z ((by simpa using t)) (AD (AF (cl Z Z (AB Z Z (Zg 2 Z (AB Z Z (AC (A5 ?_))))))));exact ⟨_,[],[],A2 Z,Z,Z,Z,Z⟩
def BN(i:dr)(r:AW):Int:=if Az i=0/\Bs r=0 then Ai (jt i) r else 0
theorem Z0(i:dr)(r:AW)(l:i.po.length<=140737488355328)(k:i.pa.length<=140737488355328)(j:i.af.length<=140737488355328):AI prog 70 [.d (Ah i),.d (Bn r)] (AE (BN i r)):=by
 by_cases c:Az i=0
 .have o:=(FD c).1
  obtain ⟨M,b⟩:∃M,jb (jt i)=M:=⟨_,Z⟩
  have g:=(S6 i o).by [(2,20)] rfl;rw[b] at g;have a:=Lu i l k j;rw[c] at a;refine Av func70 Z Z ntmps70 Z Z Z λF t=>(AD (AF (V (Ba 1 Z Z Z Z Z Z Z) (V (Ba 2 Z Z Z Z Z Z Z) (AB Z Z ?_)))));refine AC (AD (AD (AF (J (Ar Z Z Cc Z Z Z) (J (Ak (a) Z Z) (J (DP Z Z Z) (cl Z Z (Il 8 Z (by decide) ?_))))))));refine AT Z Z Z (J (Ar Z Z Cw Z Z Z) (AT Z Z Z (J (Ak (YG r) Z Z) (AT Z Z Z (J (DP Z Z Z) (J (Br Z Z Z Z) (AC (A4 Z (λf=>?_) (λf=>?_)))))))))
  .refine AD (AF (AB Z Z (AC (A5 ?_))));exact ⟨_,[],[],A2 Z,Z,Z,Ae (by rw[BN,υ];simp_all),Z⟩
  .refine AU (AD ?_);refine Bm [[],[0],[],[0,1,2],[0,1,2,3]] mixed Z (BY (Ay [2] Z Z (λ_=>A9 (Ar Z Z Cc Z Z Z)) (Cq [13] [20] [(14,_)] Z Z (λ_=>Cd (F8 g Z [20] ⟨Z,trivial⟩ Z Z Z Z Z Z Z Z Z)) (.inr ⟨14,_,Z,Z,Z,Z,Z⟩) Z Z Z Z Z (Ay [3] Z Z (λ_=>A9 (Ar Z Z Cw Z Z Z)) (BR 3 Z Z Z (AZ 4 Z Z (J (I4 (M) (r) (0) _ Z Z Z C6 Ck QQ Z Z) (AC ⟨Z,?_⟩))))))));refine AZ 5 Z Z (AB Z Z (AC ⟨Z,?_⟩));refine Bb (A5 ?_);exact ⟨_,[],[],A2 Z,Z,Z,Ae (by rw[BN,ϱ ⟨c,by simpa using f⟩,<-b,Ks]),Z⟩
 .have a:=Lu i l k j;have s:BN i r=0:=υ λh=>c h.1;rw[s];refine Av func70 Z Z ntmps70 Z Z Z λF t=>(AD (AF (V (Ba 1 Z Z Z Z Z Z Z) (V (Ba 2 Z Z Z Z Z Z Z) (AB Z Z (AC (AD ?_)))))));refine AD (AF (J (Ar Z Z Cc Z Z Z) (J (Ak (a) Z Z) (J (DP Z Z Z) (cl Z Z (DK 8 Z ((by simpa using c)) (AN Z Z Z Z (AN Z Z Z Z ?_))))))));refine AN Z Z Z Z (J (B4 Z Z Z Z) (AC (CM Z Z (AD (AF (AB Z Z (AC (A5 ?_))))))));exact ⟨_,[],[],A2 Z,Z,Z,Z,Z⟩
theorem RO(a b:Int):AI prog 199 [.d (AE a),.d (AE b)] (AE (DC a b)):=by
 refine Av func199 Z Z ntmps199 Z Z Z λF g=>(AD (AF (AB Z Z ?_)));refine AC (AD (AD (AF (cl Z Z (cl Z Z (J (At Z Z Z) (AC (A4 Z (λf=>?_) (λf=>?_)))))))))
 rotate_left
 refine AU (AD (AD (AF (cl Z Z (cl Z Z (J (H1 Z Z Z) (AC (A4 Z (λc=>?_) (λc=>?_)))))))))
 rotate_left
 refine AU ?_
 all_goals
  refine AD (AF (AB Z Z (AC (A5 ?_))));exact ⟨_,[],[],A2 Z,Z,Z,Ae (by unfold DC;(repeat' split)<;>omega),Z⟩
theorem J3(a b:List UInt8):AI prog 200 [.d (Am a),.d (Am b)] (AE (EA a b)):=by
 refine Av func200 Z Z ntmps200 Z Z Z λF g=>(AD (AF (AB Z Z ?_)));refine AC (AD (AD (AF (cl Z Z (cl Z Z (J (YX Z Z Z) (AC (Jo Z (λf=>?_) (λf=>?_)))))))));rw[sS] at f
 rotate_left
 rw[sS] at f;refine AU (AD (AD (AF (cl Z Z (cl Z Z (J (YZ Z Z Z) (AC (Jo Z (λc=>?_) (λc=>?_)))))))));rw[sS] at c
 rotate_left
 rw[sS] at c;refine AU ?_
 all_goals
  refine AD (AF (AB Z Z (AC (A5 ?_))));exact ⟨_,[],[],A2 Z,Z,Z,by first | exact Ae (by unfold EA;rw[ϱ f]) | exact Ae (by unfold EA;rw[υ (by rw[f];decide),ϱ c]) | exact Ae (by unfold EA;rw[υ (by rw[f];decide),υ (by rw[c];decide)]),Z⟩
theorem Hg(a b:AW):AI prog 158 [.d (Bn a),.d (Bn b)] (AE (BV a b)):=by
 obtain ⟨l,i⟩:∃l,[DC a.k b.k,EA a.acc.o b.acc.o,DC a.acc.k b.acc.k,EA a.acc.a b.acc.a,EA a.f b.f,EA a.t b.t]=l:=⟨_,Z⟩
 have s:l.length=6:=by rw[<-i];rfl
 have v:BV a b=BP (l.map id):=by rw[<-i];rfl
 have t:[AE (DC a.k b.k),AE (EA a.acc.o b.acc.o),AE (DC a.acc.k b.acc.k),AE (EA a.acc.a b.acc.a),AE (EA a.f b.f),AE (EA a.t b.t)]=l.map AE:=by rw[<-i];rfl
 rw[v];refine Av func158 Z Z ntmps158 Z Z Z λF o=>(AD (AF (V (Ba 1 Z Z Z Z Z Z Z) ?_)));refine V (Ba 2 Z Z Z Z Z Z Z) (AB Z Z (AC (AD (Bm [[],[0],[],[2],[0,1,2,3],[],[5],[5,6],[],[8],[8,9],rg 11,[],[12],[12,13],[],[15],[15,16],rg 18,[],[19],[19,20],[],[22],[22,23],rg 25,[],[26],[],[28],rg 30,[],[31],[],[33],rg 35,rg 36,rg 37] mixed Z (BY (AK [2] Z (AL Z Gk Z Z Z) (Ay [7] Z Z (λ_=>A9 (AQ Z Z Z Ag Z)) (AK [3] Z (AL Z Gk Z Z Z) ?_))))))));refine Ay [9] Z Z (λ_=>A9 (AQ Z Z Z Ag Z)) (AK [8,10] Z (Ak (RO a.k b.k) Z Z) (AK [2] Z (AL Z Ed Z Z Z) (AK [12] Z (AL Z TF Z Z Z) (Ay [13] Z Z (λ_=>A9 (AQ Z Z Z CZ Z)) (AK [3] Z (AL Z Ed Z Z Z) (AK [15] Z (AL Z TF Z Z Z) (Ay [16] Z Z (λ_=>A9 (AQ Z Z Z CZ Z)) (AK [14,17] Z (Ak (J3 a.acc.o b.acc.o) Z Z) ?_))))))));refine AK [2] Z (AL Z Ed Z Z Z) (AK [19] Z (AL Z Mv Z Z Z) (Ay [20] Z Z (λ_=>A9 (AQ Z Z Z Ag Z)) (AK [3] Z (AL Z Ed Z Z Z) (AK [22] Z (AL Z Mv Z Z Z) (Ay [23] Z Z (λ_=>A9 (AQ Z Z Z Ag Z)) (AK [21,24] Z (Ak (RO a.acc.k b.acc.k) Z Z) (AK [2] Z (AL Z Ed Z Z Z) (AK [26] Z (AL Z Mu Z Z Z) ?_))))))));refine Ay [27] Z Z (λ_=>A9 (AQ Z Z Z CZ Z)) (AK [3] Z (AL Z Ed Z Z Z) (AK [29] Z (AL Z Mu Z Z Z) (Ay [30] Z Z (λ_=>A9 (AQ Z Z Z CZ Z)) (AK [28,31] Z (Ak (J3 a.acc.a b.acc.a) Z Z) (AK [2] Z (AL Z FN Z Z Z) (Ay [33] Z Z (λ_=>A9 (AQ Z Z Z CZ Z)) (AK [3] Z (AL Z FN Z Z Z) (Ay [35] Z Z (λ_=>A9 (AQ Z Z Z CZ Z)) ?_))))))));refine AK [34,36] Z (Ak (J3 a.f b.f) Z Z) (AK [2] Z (AL Z FM Z Z Z) (Ay [38] Z Z (λ_=>A9 (AQ Z Z Z CZ Z)) (AK [3] Z (AL Z FM Z Z Z) (Ay [40] Z Z (λ_=>A9 (AQ Z Z Z CZ Z)) (BR 35 Z Z Z (AZ 36 Z Z (J (Ak (J3 a.t b.t) Z Z) (AC ⟨Z,?_⟩))))))));refine AZ 37 Z Z (V (CB 3 Ap Z Z Z Z Z Z Z Z) ?_);rw[t];refine WY (emb:=AE) 43 3 l Z Z Z s.symm Z Z Z (AC ⟨Z,?_⟩);refine AZ 38 Z Z (AB Z Z (AC ⟨Z,?_⟩));refine Bb (AD (AD (AF (AB Z Z (AC (AX (BC (α:=Nat) (λk=>⟨59,[(5,(.d (.sl none (l.map AE)))),(6,(.d (AE (k:Int))))],[]⟩) (λk=>k<=l.length/\BP (l.map id)=BP ((l.drop k).map id)) (λk=>l.length-k) (0) (⟨κ _,Z⟩) (AR o [] Z Z ⟨Z,Z,trivial⟩) ?_)))))));rintro k ⟨u,j⟩;refine AD (AD (AF (cl Z Z (cl Z Z (J (BW Z E0 Z) (J (At Z Z Z) (AC (A4 Z (λg=>?_) (λg=>?_)))))))))
 .have c:k<l.length:=BG g;refine AU (AD (AX (AD (AF ?_))));have r:=nO c j;refine cl Z Z (cl Z Z (J (Al (k) Z Z (Z) (AP c) E0 Z BE Z) (J (BZ Z Z Ag Z) (J (DP Z Z Z) (AC (A4 Z (λf=>?_) (λf=>?_)))))))
  .refine AD (AF (cl Z Z (cl Z Z (J (Al (k) Z Z (Z) (AP c) E0 Z BE Z) (J (BZ Z Z Ag Z) (AB Z Z (AC (A5 ?_))))))));exact ⟨_,[],[],A2 Z,Z,Z,Ae (r.2 l[k] Z (by simpa using f)),Z⟩
  .refine AU (AF (cl Z Z (J (Ac Z Z (AJ (k+1) (by omega)) Z) (AB Z Z (AC ?_)))));exact ⟨k+1,⟨by show k+1<=_;omega,r.1 (by simpa using f)⟩,by show l.length-(k+1)<l.length-k;omega,AR o [] Z (Z) ⟨Z,Z,trivial⟩⟩
 .refine Aq (AD (AF (AB Z Z (AC (A5 ?_)))));exact ⟨_,[],[],A2 Z,Z,Z,Ae (by rw[j,DZ (by have h:=g;omega)]),Z⟩
theorem U6(a b:dr):AI prog 109 [.d (Ah a),.d (Ah b)] (.raw (.bool (decide (E8 a b<0)))):=by
 have c:E8 a b<0↔b.pr<a.pr\/a.pr=b.pr/\a.sq<b.sq:=by
  unfold E8 DC;simp only[BP]
  repeat' split
  all_goals omega
 refine Av func109 Z Z ntmps109 Z Z Z λF h=>(AD (AF (V (Ba 1 Z Z Z Z Z Z Z) (V (Ba 2 Z Z Z Z Z Z Z) (AB Z Z (AC ?_))))));refine AD (AF (J (AL Z Kc Z Z Z) (J (AQ Z Z Z Ag Z) (J (AL Z Kc Z Z Z) (J (AQ Z Z Z Ag Z) (J (H1 Z Z Z) (cl Z Z (C5 10 Z (λg=>?_) (λg=>?_)))))))))
 .refine AN Z Z Z Z (AN Z Z Z Z (AN Z Z Z Z (AN Z Z Z Z (AN Z Z Z Z (AN Z Z Z Z (Ko Z Z Z ?_))))));refine Ko Z Z Z (Ko Z Z Z (Ko Z Z Z (Ko Z Z Z (AN Z Z Z Z (J (B4 Z Z Z Z) (AB Z Z (AC (A5 ?_))))))));exact ⟨_,[],[],A2 Z,Z,Z,by first | exact Sf (by rw[c];omega) | exact Hf (by rw[c];omega) | exact XD (by rw[c];omega),Z⟩
 .refine AT Z Z Z (J (AL Z Kc Z Z Z) (AT Z Z Z (J (AQ Z Z Z Ag Z) ?_)));refine AT Z Z Z (J (AL Z Kc Z Z Z) (AT Z Z Z (J (AQ Z Z Z Ag Z) (AT Z Z Z (J (GW Z Z Z) (AT Z Z Z (cl Z Z (C5 16 Z (λf=>?_) (λf=>?_)))))))));refine AT Z Z Z (J (AL Z Mw Z Z Z) (AT Z Z Z ?_));refine J (AQ Z Z Z Ag Z) (AT Z Z Z (J (AL Z Mw Z Z Z) (AT Z Z Z (J (AQ Z Z Z Ag Z) (AT Z Z Z (J (At Z Z Z) (AT Z Z Z (J (B4 Z Z Z Z) ?_))))))))
  rotate_left
  refine AN Z Z Z Z (AN Z Z Z Z (AN Z Z Z Z (AN Z Z Z Z (AN Z Z Z Z (AT Z Z Z (J (Br Z Z Z Z) ?_))))))
  all_goals
   refine J (Br Z Z Z Z) (AB Z Z (AC (A5 ?_)));exact ⟨_,[],[],A2 Z,Z,Z,by first | exact Sf (by rw[c];omega) | exact Hf (by rw[c];omega) | exact XD (by rw[c];omega),Z⟩
theorem fA(r:AW):AI prog 47 [.d (Bn r)] (Bn r):=by
 refine Av func47 Z Z ntmps47 Z Z Z λF a=>(AD ?_);refine AF (V (Ba 1 Z Z Z Z Z Z Z) (V (CF 2 MI Z Z Z Z) (AC (AD (AF (J (AL Z Gk Z Z Z) (J (AQ Z Z Z Ag Z) (J (AL Z Ed Z Z Z) ?_))))))));refine J (Ar Z Z aU Z Z Z) (J (AL Z FN Z Z Z) (J (AQ Z Z Z CZ Z) (J (AL Z FM Z Z Z) (J (AQ Z Z Z CZ Z) (J (Dx MI Ue Z Z Z) (V (Bc Z Z Z Z Z Z Z dA) (AC (A5 ?_))))))));exact ⟨_,[],[],A2 Z,Z,Z,Z,Z⟩
theorem cA(r:AW):AI prog 60 [.d (Bn r)] (Bn r):=by
 refine Av func60 Z Z ntmps60 Z Z Z λF a=>(AD ?_);refine AF (V (Ba 1 Z Z Z Z Z Z Z) (V (CF 2 SZ Z Z Z Z) (AC (AD (AF (J (AL Z TJ Z Z Z) (J (AQ Z Z Z Ag Z) (J (AL Z Ee Z Z Z) ?_))))))));refine J (Ar Z Z nz Z Z Z) (J (AL Z Ke Z Z Z) (J (AQ Z Z Z CZ Z) (J (AL Z Kd Z Z Z) (J (AQ Z Z Z CZ Z) (J (Dx SZ ah Z Z Z) (V (Bc Z Z Z Z Z Z Z KN) (AC (A5 ?_))))))));exact ⟨_,[],[],A2 Z,Z,Z,Z,Z⟩
theorem OA(h:j=c.take j.length)(b:j.length<c.length):j++ [c[j.length]]=c.take (j++ [c[j.length]]).length:=by
 rw[Δ,η,ψ b,<-h]
theorem S3(h:j=c.take j.length)(b:¬j.length<c.length):j=c:=by grind
theorem Ty(b:List a)(x:a)(h:b.length<9223372036854775807):IntKind.i64.wrap ((b.length:Int)+1)=(((b++ [x]).length:Nat):Int):=by
 rw[Δ];exact AJ (b.length+1) (by omega)
abbrev Gg:AV:= .d (.sl (some true) [])
theorem aj(i:dr)(x:i.po.length<=10000)(w:i.pa.length<=10000)(v:i.af.length<=10000):AI prog 48 [.d (Ah i)] (Ah i):=by
 refine Av func48 Z Z ntmps48 Z Z Z λF o=>(AD (AF (V (Ba 1 Z Z Z Z Z Z Z) (V (CF 2 Fk Z Z Z Z) (AC (AD ?_))))));refine Bm [[],[0],[],[2],[],[4],[],[],[7],[6,7,8],rg 10,[],rg 12] mixed Z (BY (AK [1] Z (AL Z ST Z Z Z) (Ay [6] Z Z (λ_=>A9 (AQ Z Z Z Ag Z)) (AK [1] Z (AL Z Kc Z Z Z) (Ay [8] Z Z (λ_=>A9 (AQ Z Z Z Ag Z)) (AK [1] Z (AL Z Mw Z Z Z) (Ay [10] Z Z (λ_=>A9 (AQ Z Z Z Ag Z)) (Cq [] [3] [(12,_)] Z Z (λ_=>Cd (CB 3 Ap Z Z Z Z Z Z Z Z)) (.inr ⟨12,_,Z,Z,Z,Z,Z⟩) Z Z Z Z Z ?_))))))));refine AK [1] Z (AL Z Tk Z Z Z) (Ay [13] Z Z (λ_=>A9 (AQ Z Z Z BJ Z)) (Cq [12,14] [3] [(15,_)] Z Z (λ_=>Cd (JR (([]:List Int)) (i.af) Z Z Z Z Z Z (λ_=>rfl) Ap (by simp only[lX];omega) Z Z Z Z)) (.inr ⟨15,_,Z,Z,Z,Z,Z⟩) Z Z Z Z Z (AK [7,9,11,15] Z (Dx Fk tL Z Z Z) (Cq [] [4] [(3,_)] Z Z (λ_=>Cd (CF 4 Fk Z Z Z Z)) (.inr ⟨3,_,Z,Z,Z,Z,Z⟩) Z Z Z Z Z (BR 12 Z Z Z (AZ 13 Z Z (V (Bc Z Z Z Z Z Z Z DT) (AC ⟨Z,?_⟩))))))));refine Bb ?_;refine AD (AD (qk (ys:=i.af.map AE) 4 0 5 3 Z Z Z (by simp) (ζ (by simp)) Z Z Z Z Z Z (D3 4 0 3 901 aR Z Z Z Z Z Z Z (AF (AB Z Z (AC (AX (BC (α:=List Fa) (λb=>⟨60,[(1,(.ptr 1 0 0)),(2,(.ptr 2 0 0)),(3,(.ptr 4 0 0)),(4,(.d (AE (b.length:Int))))],[(901,[.rowD 158 4 (b.map B9)]),(1,[.blk 93 [.d (AE i.id),.d (AE i.pr),.d (AE i.sq),.d (.sl none (i.po.map B9)),.d (.sl none (i.pa.map Co)),.d (.sl none (i.af.map AE))]]),(2,[.blk 55 [.d (AE 0),.d (AE 0),.d (AE 0),Gg,Gg,Gg]]),(4,[.blk 55 [.d (AE i.id),.d (AE i.pr),.d (AE i.sq),.own 901 0 b.length,Gg,.d (.sl none (i.af.map AE))]])]⟩) (λb=>b=i.po.take b.length/\b.length<=i.po.length) (λb=>i.po.length-b.length) ([]) (⟨by simp,κ _⟩) (AR o [901,1,2,4] Z Z ⟨Z,Z,Z,Z,trivial⟩) ?_))))))));rintro b ⟨s,u⟩;refine AD ?_;refine AD (AF (cl Z Z (J (AL Z DB Z Z Z) (J (AQ Z Z Z Ik Z) (J (BW Z R5 Z) (J (At Z Z Z) (AC (A4 Z (λj=>?_) (λj=>?_)))))))))
 .have c:b.length<i.po.length:=BG j;refine AU (AD (AX (Bm [[],[0],[],[2],[],[2,3,4],[2,3,4,5],[2,3,4,5,6],[],[8],[],[8,9,10],[8,9,10,11],[8,9,10,11,12],[2,3,4,5,6,7,8,9,10,11,12,13],[2,3,4,5,6,7,8,9,10,11,12,13,14],rg 16,rg 17,rg 18] mixed Z (BY (AK [3] Z (AL Z JC Z Z Z) (Ay [24] Z Z (λ_=>A9 (AQ Z Z Z aq Z)) ?_))))));refine AK [1] Z (AL Z DB Z Z Z) (Ay [26] Z Z (λ_=>A9 (AQ Z Z Z Ik Z)) (A7 4 Z Z (AK [27,28] Z (Al (b.length) Z Z (Z) (AP c) R5 Z KC Z) (AK [29] Z (Jy Z F5 Z Z Z) (AK [30] Z (CT Z Z aU Z) (AK [1] Z (AL Z DB Z Z Z) (Ay [32] Z Z (λ_=>A9 (AQ Z Z Z Ik Z)) (A7 4 Z Z ?_))))))));refine AK [33,34] Z (Al (b.length) Z Z (Z) (AP c) R5 Z KC Z) (AK [35] Z (IJ Z La Z Z Z) (AK [36] Z (BZ Z Z FK Z) (AK [31,37] Z (Dx Qk eu Z Z Z) (Cq [38] [5] [(39,_)] Z Z (λ_=>Cd (CB 5 aR Z Z Z Z Z Z Z Z)) (.inr ⟨39,_,Z,Z,Z,Z,Z⟩) Z Z Z Z Z (BR 16 Z Z Z (AZ 17 Z Z (V (DQ (b) ([i.po[b.length]]) Z Z Z Z Z Z Z Z aR (by simp only[η];omega) Z Z Z Z) (AC ⟨Z,?_⟩))))))));refine AZ 18 Z Z (J (AL Z JC Z Z Z) (AC ⟨Z,?_⟩));refine AZ 19 Z Z (V (Bc Z Z Z Z Z Z Z vb) (AC ⟨Z,?_⟩));refine Bb (AF (cl Z Z (J (Ac Z Z (Ty b i.po[b.length] (by omega)) Z) (AB Z Z (AC ?_)))));exact ⟨b++ [i.po[b.length]],⟨OA s c,by rw[Δ];show b.length+1<=_;omega⟩,by rw[Δ];show i.po.length-(b.length+1)<i.po.length-b.length;omega,AR o [901,1,2,4] Z (Z) ⟨Z,Z,Z,Z,trivial⟩⟩
 .refine Aq (AD (AD ?_));have l:=S3 s (λh=>j (by omega));refine qk (ys:=i.po.map B9) 4 0 3 901 Z Z Z (by simp) (by rw[l];exact ζ (by simp)) Z Z Z Z Z Z (D3 4 0 4 902 d9 Z Z Z Z Z Z Z (AF (AB Z Z (AC (AX (BC (α:=List NN) (λa=>⟨60,[(1,(.ptr 1 0 0)),(2,(.ptr 2 0 0)),(3,(.ptr 4 0 0)),(5,(.d (AE (a.length:Int))))],[(902,[.rowD 161 3 (a.map Co)]),(1,[.blk 93 [.d (AE i.id),.d (AE i.pr),.d (AE i.sq),.d (.sl none (i.po.map B9)),.d (.sl none (i.pa.map Co)),.d (.sl none (i.af.map AE))]]),(2,[.blk 55 [.d (AE 0),.d (AE 0),.d (AE 0),Gg,Gg,Gg]]),(4,[.blk 55 [.d (AE i.id),.d (AE i.pr),.d (AE i.sq),.d (.sl none (i.po.map B9)),.own 902 0 a.length,.d (.sl none (i.af.map AE))]])]⟩) (λa=>a=i.pa.take a.length/\a.length<=i.pa.length) (λa=>i.pa.length-a.length) ([]) (⟨by simp,κ _⟩) (AR o [902,1,2,4] Z Z ⟨Z,Z,Z,Z,trivial⟩) ?_))))));rintro a ⟨r,t⟩;refine AD ?_;refine AD (AF (cl Z Z (J (AL Z Gl Z Z Z) (J (AQ Z Z Z Q3 Z) (J (BW Z an Z) (J (At Z Z Z) (AC (A4 Z (λg=>?_) (λg=>?_)))))))))
  .have k:a.length<i.pa.length:=BG g;refine AU (AD (AX (Bm [[],[0],[],[2],[],[2,3,4],[2,3,4,5],[2,3,4,5,6],rg 8,rg 9,rg 10] mixed Z (BY (AK [3] Z (AL Z Kf Z Z Z) (Ay [49] Z Z (λ_=>A9 (AQ Z Z Z fI Z)) (AK [1] Z (AL Z Gl Z Z Z) ?_)))))));refine Ay [51] Z Z (λ_=>A9 (AQ Z Z Z Q3 Z)) (A7 5 Z Z (AK [52,53] Z (Al (a.length) Z Z (Z) (AP k) an Z Oh Z) (AK [54] Z (CT Z Z Y5 Z) (Cq [55] [6] [(56,_)] Z Z (λ_=>Cd (CB 6 d9 Z Z Z Z Z Z Z Z)) (.inr ⟨56,_,Z,Z,Z,Z,Z⟩) Z Z Z Z Z (BR 8 Z Z Z (AZ 9 Z Z (V (DQ (a) ([i.pa[a.length]]) Z Z Z Z Z Z Z Z d9 (by simp only[η];omega) Z Z Z Z) (AC ⟨Z,?_⟩))))))));refine AZ 10 Z Z (J (AL Z Kf Z Z Z) (AC ⟨Z,?_⟩));refine AZ 11 Z Z (V (Bc Z Z Z Z Z Z Z va) (AC ⟨Z,?_⟩));refine Bb (AF (cl Z Z (J (Ac Z Z (Ty a i.pa[a.length] (by omega)) Z) (AB Z Z (AC ?_)))));exact ⟨a++ [i.pa[a.length]],⟨OA r k,by rw[Δ];show a.length+1<=_;omega⟩,by rw[Δ];show i.pa.length-(a.length+1)<i.pa.length-a.length;omega,AR o [902,1,2,4] Z (Z) ⟨Z,Z,Z,Z,trivial⟩⟩
  .refine Aq (AD ?_);have f:=S3 r (λh=>g (by omega));refine qk (ys:=i.pa.map Co) 4 0 4 902 Z Z Z (by simp) (by rw[f];exact ζ (by simp)) Z Z Z Z Z Z (AF (J (Ar Z Z Cc Z Z Z) (V (Bc Z Z Z Z Z Z Z DT) (AC (A5 ?_)))));exact ⟨_,[],[],A2 Z,Z,Z,Z,Z⟩
theorem Ml:∀{l:List AW} {r:AW} {k:Nat},(∀x∈l.take k,BV x r<0)->l[k]? =some r->Cp l r=l
 | [],_,_,_,h=>by simp at h
 | a::l,r,0,_,h=>by
  simp at h;subst h
  simp[Cp,NM.refl]
 | a::l,r,k+1,b,h=>by
  have f:BV a r<0:=b a (by simp);simp only[Cp,ϱ f];rw[Ml (k:=k) (λx c=>b x (by simp[c])) (by simpa using h)]
theorem Ix:∀{l:List AW} {r:AW} {k:Nat},k<=l.length->(∀x∈l.take k,BV x r<0)->(∀x,l[k]? =some x->¬BV x r<0/\x≠r)->Cp l r=(l.take k++ [r])++l.drop k
 | [],r,0,_,_,_=>rfl
 | [],r,k+1,h,_,_=>by simp at h
 | a::l,r,0,_,_,h=>by
  obtain ⟨b,f⟩:=h a rfl
  simp[Cp,υ b,υ f]
 | a::l,r,k+1,g,b,h=>by
  have f:BV a r<0:=b a (by simp);simp only[Cp,ϱ f];rw[Ix (k:=k) (by simpa using g) (λx c=>b x (by simp[c])) (λx c=>h x (by simpa using c))]
  simp
theorem LZ(l:List AW)(r:AW):(Cp l r).length<=l.length+1:=by
 induction l with
 | nil=>simp[Cp]
 | cons a l b=>
  grind[Cp]
theorem Ob(c:List (AW×Int)):(jv c).length<=c.length:=by
 induction c using cK with
 | h0=>simp[jv]
 | h1 l x a=>rw[JX];have:=LZ (jv l) x.1;simp only[Δ,η];omega
def pd(r:AW)(p:Fa):Int:=if p.acc=r.acc then p.d else 0
def xR(r:AW)(p:NN):Int:=if p.f=r.f/\(r.k=2\/p.t=r.t) then p.n else 0
def xQ(r:AW)(p:NN):Int:=if p.t=r.f/\(r.k=2\/p.f=r.t) then p.n else 0
def yd(r:AW)(p:NN):Int:= - xR r p+xQ r p
def M6(i:dr)(r:AW):Int:=if r.k=0 then (i.po.map (pd r)).sum else (i.pa.map (yd r)).sum
theorem JG{l:List (AW×Int)}(h:∀x∈l,x.1≠u):Ai l u=0:=by
 induction l with
 | nil=>rfl
 | cons x l a=>
  grind[Ai]
theorem Vv(l:List a)(f:a->List (AW×Int))(r:AW):Ai (l.flatMap f) r=(l.map λb=>Ai (f b) r).sum:=by
 induction l with
 | nil=>rfl
 | cons b l c=>rw[List.flatMap_cons,Gq,c];rfl
theorem RQ(h:Bs u=0):M6 i u=Ai (jt i) u:=by
 unfold M6 jt;rw[Gq];unfold Bs at h
 split at h
 .rename_i a
  split at h
  .rename_i c
   rw[ϱ a]
   have w:Ai (HX i.pa) u=0:=JG λx o e=>by
    obtain ⟨p,_,y⟩:=mO.1 o;simp only[ND,ju,List.not_mem_nil,or_false] at y;rw[<-e] at a;rcases y with rfl | rfl | rfl | rfl<;>simp at a
   rw[w,Int.add_zero];unfold Ai EX;rw[jy]
   congr 1
   apply kT
   intro p _;simp only[pd,Function.comp,HK]
   have e:(({k:=0,acc:=p.acc,f:=[],t:=[]}:AW)=u)↔p.acc=u.acc:=by
    rw[AW.eq_iff];simp[a,c.2.2.2.2.1,c.2.2.2.2.2]
   by_cases l:p.acc=u.acc
   .rw[ϱ l,ϱ (e.2 l)]
   .rw[υ l,υ (λh=>l (e.1 h))]
  .cases h
 .rename_i a
  rw[υ a]
  have w:Ai (EX i.po) u=0:=JG λx o e=>by
   obtain ⟨p,_,rfl⟩:=Γ.1 o;rw[<-e] at a;simp at a
  rw[w,Int.zero_add];unfold HX;rw[Vv]
  congr 1
  apply kT
  intro p _;simp only[yd,xR,xQ,ND,Ai,k7,List.map_nil,lW,List.sum_nil,CU,DX,AW.eq_iff]
  split at h
  .rename_i v
   split at h
   .rename_i c
    have g:(qd=u.acc)=True:=eq_true c.2.2.2.symm;simp only[v,g];have A:¬(1:Int)=2:=by decide
    have z:¬(2:Int)=1:=by decide
    simp only[A,z,false_and,false_or,true_and,if_false]
    by_cases b:p.f=u.f/\p.t=u.t
    .by_cases j:p.t=u.f/\p.f=u.t
     .rw[ϱ b,ϱ j,ϱ b];omega
     .rw[ϱ b,υ j,ϱ b];omega
    .by_cases j:p.t=u.f/\p.f=u.t
     .rw[υ b,ϱ j,υ b];omega
     .rw[υ b,υ j,υ b];omega
   .cases h
  .split at h
   .rename_i s
    split at h
    .rename_i c
     have g:(qd=u.acc)=True:=eq_true c.2.2.symm;simp only[s,g,c.2.1]
     by_cases C:p.f=u.f<;>by_cases B:p.t=u.f<;>simp[C,B]<;>omega
    .cases h
   .cases h
theorem Iw(l:List AW)(r:AW)(s:l.length<=100000):AI prog 152 [.d (.sl none (l.map Bn)),.d (Bn r)] (.sl none ((Cp l r).map Bn)):=by
 refine Av func152 Z Z ntmps152 Z Z Z λF o=>(AD (AF (V (Ba 1 Z Z Z Z Z Z Z) ?_)));refine AB Z Z (AC (AD (AF (AB Z Z (AC (AD (AX (BC (α:=Nat) (λk=>⟨49,[(0,.d (.sl none (l.map Bn))),(3,(.ptr 1 0 0)),(5,(.d (AE (k:Int))))],[(1,[.blk 98 [.d (AE r.k),.d (Am r.acc.o),.d (AE r.acc.k),.d (Am r.acc.a),.d (Am r.f),.d (Am r.t)]])]⟩) (λk=>k<=l.length/\∀x∈l.take k,BV x r<0) (λk=>l.length-k) (0) (⟨κ _,by simp⟩) (AR o [1] Z Z ⟨Z,Z,Z,trivial⟩) ?_))))))));rintro k ⟨h,i⟩;refine AD (AD ?_);refine Bm [[],[],[1],[0,1,2],[0,1,2,3],rg 5,rg 5,rg 7,rg 8,rg 5,rg 10,rg 11,rg 12] mixed Z (BY (A7 5 Z Z (A7 0 Z Z (AK [8] Z (BW Z Ri Z) (BR 3 Z Z Z (AZ 4 Z Z (J (At Z Z Z) (AC ⟨Z,?_⟩))))))));refine AZ 5 Z Z (cl Z Z (C5 11 Z (λj=>?_) (λj=>?_)))
 .refine AC ⟨Z,?_⟩;refine BY ?_
  try have a:k<l.length:=BG j
  refine A1 [0,11] [] Z Z (λ_=>BO Z Z Z (FF Z Z)) ?_;refine A1 [5,11] [] Z Z (λ_=>BO Z Z Z (FF Z Z)) (A1 [12,13,11] [] Z Z (λ_=>BO Z Z Z (Al (k) Z Z (Z) (AP a) Ri Z KN Z)) (A1 [14,11] [] Z Z (λ_=>BO Z Z Z (CT Z Z C4 Z)) (Ay [3,11] Z Z (λ_=>BO Z Z Z (Ar Z Z C4 Z Z Z)) (BR 10 Z Z Z (AZ 11 Z Z (AT Z Z Z (J (Ak (Hg l[k] r) Z Z) (AC ⟨Z,?_⟩))))))));refine AZ 12 Z Z (AT Z Z Z (J (At Z Z Z) (AC ⟨Z,?_⟩)));refine AZ 13 Z Z (J (B4 Z Z Z Z) (AC ⟨Z,?_⟩));refine Bb (A4 Z (λg=>?_) (λg=>?_))
  .refine AU (AX (AF (cl Z Z (J (Ac Z Z (AJ (k+1) (by omega)) Z) (AB Z Z (AC ?_))))));exact ⟨k+1,⟨by show k+1<=_;omega,by rw[ψ a];intro x b;rcases ν.1 b with b | b;exact i x b;rw[ξ.1 b];exact g⟩,by show l.length-(k+1)<l.length-k;omega,AR o [1] Z (Z) ⟨Z,Z,Z,trivial⟩⟩
  .refine Aq (AD (AD ?_));refine Bm [[],[],[1],[0,1,2],[0,1,2,3],rg 5,rg 5,rg 7,rg 8,rg 5,rg 10,rg 11] mixed Z (BY (A7 5 Z Z (A7 0 Z Z (AK [23] Z (BW Z Ri Z) (BR 3 Z Z Z (AZ 4 Z Z (J (At Z Z Z) (AC ⟨Z,?_⟩))))))));refine AZ 5 Z Z (cl Z Z (C5 26 Z (λf=>?_) (λf=>?_)))
   .refine AC ⟨Z,?_⟩;refine BY ?_
    try have a:k<l.length:=BG f
    refine A1 [0,26] [] Z Z (λ_=>BO Z Z Z (FF Z Z)) ?_;refine A1 [5,26] [] Z Z (λ_=>BO Z Z Z (FF Z Z)) (A1 [27,28,26] [] Z Z (λ_=>BO Z Z Z (Al (k) Z Z (Z) (AP a) Ri Z KN Z)) (A1 [29,26] [] Z Z (λ_=>BO Z Z Z (CT Z Z C4 Z)) (Ay [3,26] Z Z (λ_=>BO Z Z Z (Ar Z Z C4 Z Z Z)) (BR 10 Z Z Z (AZ 11 Z Z (AT Z Z Z (J (Ft (la:=LB l[k]) (lb:=LB r) (ds:=aX) (by kernel_rfl) (by kernel_rfl) (by kernel_rfl) Z Z Z Z (qo _) (qo _) (LA _ _) Z) (AC ⟨Z,?_⟩))))))));refine AZ 12 Z Z (J (B4 Z Z Z Z) (AC ⟨Z,?_⟩));refine Bb (A4 Z (λc=>?_) (λc=>?_))
    .refine AD (AF (cl Z Z (AB Z Z (AC (A5 ?_)))));exact ⟨_,[],[],A2 Z,Z,Z,by rw[Ml i ((ω a).trans (by rw[c]))],Z⟩
    .refine AU (AD (AF (V (CB 20 Di Z Z Z Z Z Z Z Z) (cl Z Z (cl Z Z ?_)))));refine J (Xx (l) (k) Z Z Z (Z) (by omega) Ri KN (λ_=>rfl) Z) (V (JR (([]:List AW)) (l.take k) Z Z Z Z Z Z (λ_=>rfl) Di (by simp only[lX,θ];omega) Z Z Z Z) (AB Z Z (AC (AD (AF (cl Z Z (J (Ar Z Z C4 Z Z Z) (V (CB 21 Di Z Z Z Z Z Z Z Z) ?_))))))));refine V (DQ (([]++l.take k)) ([r]) Z Z Z Z Z Z Z Z Di (by simp only[kP,η,θ];omega) Z Z Z Z) ?_;refine AB Z Z (AC (AD (AF (cl Z Z (cl Z Z (cl Z Z (J (cW (l) (k) Z Z Z (Z) (by omega) Ri KN (λ_=>rfl) Z) ?_)))))));refine V (JR ((([]++l.take k)++ [r])) (l.drop k) Z Z Z Z Z Z (λ_=>rfl) Di (by simp only[kP,Δ,η,θ,l4];omega) Z Z Z Z) ?_;refine WY (emb:=Bn) 48 20 ((([]++l.take k)++ [r])++l.drop k) Z Z Z Z Z Z Z (AB Z Z (AC (A5 ?_)));exact ⟨_,[],[],A2 Z,Z,Z,by rw[Ix h i λx b=>by first | (exact absurd (φ.1 b).1 (by omega)) | (rw[ω a] at b;injection b with b;subst b;exact ⟨g,c⟩)];rfl,Z⟩
   .refine AC ⟨Z,?_⟩;refine BY ?_
    try have a:k<l.length:=BG f
    refine A1 [0,26] [] Z Z (λ_=>CL Z Z Z Z) (A1 [5,26] [] Z Z (λ_=>CL Z Z Z Z) (A1 [27,28,26] [] Z Z (λ_=>CL Z Z Z Z) (A1 [29,26] [] Z Z (λ_=>CL Z Z Z Z) (A1 [3,26] [] Z Z (λ_=>CL Z Z Z Z) (BR 10 Z Z Z (AZ 11 Z Z (AN Z Z Z Z (AC ⟨Z,?_⟩))))))));refine AZ 12 Z Z (J (Br Z Z Z Z) (AC ⟨Z,?_⟩));refine Bb (Cr Z Z (AU (AD (AF (V (CB 20 Di Z Z Z Z Z Z Z Z) (cl Z Z (cl Z Z ?_)))))));refine J (Xx (l) (k) Z Z Z (Z) (by omega) Ri KN (λ_=>rfl) Z) (V (JR (([]:List AW)) (l.take k) Z Z Z Z Z Z (λ_=>rfl) Di (by simp only[lX,θ];omega) Z Z Z Z) (AB Z Z (AC (AD (AF (cl Z Z (J (Ar Z Z C4 Z Z Z) (V (CB 21 Di Z Z Z Z Z Z Z Z) ?_))))))));refine V (DQ (([]++l.take k)) ([r]) Z Z Z Z Z Z Z Z Di (by simp only[kP,η,θ];omega) Z Z Z Z) ?_;refine AB Z Z (AC (AD (AF (cl Z Z (cl Z Z (cl Z Z (J (cW (l) (k) Z Z Z (Z) (by omega) Ri KN (λ_=>rfl) Z) ?_)))))));refine V (JR ((([]++l.take k)++ [r])) (l.drop k) Z Z Z Z Z Z (λ_=>rfl) Di (by simp only[kP,Δ,η,θ,l4];omega) Z Z Z Z) ?_;refine WY (emb:=Bn) 48 20 ((([]++l.take k)++ [r])++l.drop k) Z Z Z Z Z Z Z (AB Z Z (AC (A5 ?_)));exact ⟨_,[],[],A2 Z,Z,Z,by rw[Ix h i λx b=>by first | (exact absurd (φ.1 b).1 (by omega)) | (rw[ω a] at b;injection b with b;subst b;exact ⟨g,c⟩)];rfl,Z⟩
 .refine AC ⟨Z,?_⟩;refine BY ?_
  try have a:k<l.length:=BG j
  refine A1 [0,11] [] Z Z (λ_=>CL Z Z Z Z) (A1 [5,11] [] Z Z (λ_=>CL Z Z Z Z) (A1 [12,13,11] [] Z Z (λ_=>CL Z Z Z Z) (A1 [14,11] [] Z Z (λ_=>CL Z Z Z Z) (A1 [3,11] [] Z Z (λ_=>CL Z Z Z Z) (BR 10 Z Z Z (AZ 11 Z Z (AN Z Z Z Z (AC ⟨Z,?_⟩))))))));refine AZ 12 Z Z (AN Z Z Z Z (AC ⟨Z,?_⟩));refine AZ 13 Z Z (J (Br Z Z Z Z) (AC ⟨Z,?_⟩));refine Bb (Cr Z Z (Aq (AD (AD ?_))));refine Bm [[],[],[1],[0,1,2],[0,1,2,3],rg 5,rg 5,rg 7,rg 8,rg 5,rg 10,rg 11] mixed Z (BY (A7 5 Z Z (A7 0 Z Z (AK [23] Z (BW Z Ri Z) (BR 3 Z Z Z (AZ 4 Z Z (J (At Z Z Z) (AC ⟨Z,?_⟩))))))));refine AZ 5 Z Z (cl Z Z (C5 26 Z (λf=>?_) (λf=>?_)))
  .refine AC ⟨Z,?_⟩;refine BY ?_
   try have a:k<l.length:=BG f
   refine A1 [0,26] [] Z Z (λ_=>BO Z Z Z (FF Z Z)) ?_;refine A1 [5,26] [] Z Z (λ_=>BO Z Z Z (FF Z Z)) (A1 [27,28,26] [] Z Z (λ_=>BO Z Z Z (Al (k) Z Z (Z) (AP a) Ri Z KN Z)) (A1 [29,26] [] Z Z (λ_=>BO Z Z Z (CT Z Z C4 Z)) (Ay [3,26] Z Z (λ_=>BO Z Z Z (Ar Z Z C4 Z Z Z)) (BR 10 Z Z Z (AZ 11 Z Z (AT Z Z Z (J (Ft (la:=LB l[k]) (lb:=LB r) (ds:=aX) (by kernel_rfl) (by kernel_rfl) (by kernel_rfl) Z Z Z Z (qo _) (qo _) (LA _ _) Z) (AC ⟨Z,?_⟩))))))));refine AZ 12 Z Z (J (B4 Z Z Z Z) (AC ⟨Z,?_⟩));refine Bb (A4 Z (λc=>?_) (λc=>?_))
   .refine AD (AF (cl Z Z (AB Z Z (AC (A5 ?_)))));exact ⟨_,[],[],A2 Z,Z,Z,by rw[Ml i ((ω a).trans (by rw[c]))],Z⟩
   .refine AU (AD (AF (V (CB 20 Di Z Z Z Z Z Z Z Z) (cl Z Z (cl Z Z ?_)))));refine J (Xx (l) (k) Z Z Z (Z) (by omega) Ri KN (λ_=>rfl) Z) (V (JR (([]:List AW)) (l.take k) Z Z Z Z Z Z (λ_=>rfl) Di (by simp only[lX,θ];omega) Z Z Z Z) (AB Z Z (AC (AD (AF (cl Z Z (J (Ar Z Z C4 Z Z Z) (V (CB 21 Di Z Z Z Z Z Z Z Z) ?_))))))));refine V (DQ (([]++l.take k)) ([r]) Z Z Z Z Z Z Z Z Di (by simp only[kP,η,θ];omega) Z Z Z Z) ?_;refine AB Z Z (AC (AD (AF (cl Z Z (cl Z Z (cl Z Z (J (cW (l) (k) Z Z Z (Z) (by omega) Ri KN (λ_=>rfl) Z) ?_)))))));refine V (JR ((([]++l.take k)++ [r])) (l.drop k) Z Z Z Z Z Z (λ_=>rfl) Di (by simp only[kP,Δ,η,θ,l4];omega) Z Z Z Z) ?_;refine WY (emb:=Bn) 48 20 ((([]++l.take k)++ [r])++l.drop k) Z Z Z Z Z Z Z (AB Z Z (AC (A5 ?_)));exact ⟨_,[],[],A2 Z,Z,Z,by rw[Ix h i λx b=>by first | (exact absurd (φ.1 b).1 (by omega)) | (rw[ω a] at b;injection b with b;subst b;exact ⟨g,c⟩)];rfl,Z⟩
  .refine AC ⟨Z,?_⟩;refine BY ?_
   try have a:k<l.length:=BG f
   refine A1 [0,26] [] Z Z (λ_=>CL Z Z Z Z) (A1 [5,26] [] Z Z (λ_=>CL Z Z Z Z) (A1 [27,28,26] [] Z Z (λ_=>CL Z Z Z Z) (A1 [29,26] [] Z Z (λ_=>CL Z Z Z Z) (A1 [3,26] [] Z Z (λ_=>CL Z Z Z Z) (BR 10 Z Z Z (AZ 11 Z Z (AN Z Z Z Z (AC ⟨Z,?_⟩))))))));refine AZ 12 Z Z (J (Br Z Z Z Z) (AC ⟨Z,?_⟩));refine Bb (Cr Z Z (AU (AD (AF (V (CB 20 Di Z Z Z Z Z Z Z Z) (cl Z Z (cl Z Z ?_)))))));refine J (Xx (l) (k) Z Z Z (Z) (by omega) Ri KN (λ_=>rfl) Z) (V (JR (([]:List AW)) (l.take k) Z Z Z Z Z Z (λ_=>rfl) Di (by simp only[lX,θ];omega) Z Z Z Z) (AB Z Z (AC (AD (AF (cl Z Z (J (Ar Z Z C4 Z Z Z) (V (CB 21 Di Z Z Z Z Z Z Z Z) ?_))))))));refine V (DQ (([]++l.take k)) ([r]) Z Z Z Z Z Z Z Z Di (by simp only[kP,η,θ];omega) Z Z Z Z) ?_;refine AB Z Z (AC (AD (AF (cl Z Z (cl Z Z (cl Z Z (J (cW (l) (k) Z Z Z (Z) (by omega) Ri KN (λ_=>rfl) Z) ?_)))))));refine V (JR ((([]++l.take k)++ [r])) (l.drop k) Z Z Z Z Z Z (λ_=>rfl) Di (by simp only[kP,Δ,η,θ,l4];omega) Z Z Z Z) ?_;refine WY (emb:=Bn) 48 20 ((([]++l.take k)++ [r])++l.drop k) Z Z Z Z Z Z Z (AB Z Z (AC (A5 ?_)));exact ⟨_,[],[],A2 Z,Z,Z,by rw[Ix h i λx b=>by first | (exact absurd (φ.1 b).1 (by omega)) | (rw[ω a] at b;injection b with b;subst b;exact ⟨g,c⟩)];rfl,Z⟩
theorem JY{l:List a}{f:a->Int}{B:Int}(h:∀x∈l,-B<=f x/\f x<=B)(n:Nat)(b:l.length<=n)(i:0<=B): -(n*B)<=(l.map f).sum/\(l.map f).sum<=n*B:=by
 induction l generalizing n with
 | nil=>have:=Int.mul_nonneg (Int.natCast_nonneg n) i;simp only[List.map_nil,List.sum_nil];omega
 | cons x l c=>
  obtain ⟨m,rfl⟩:∃m,n=m+1:=⟨n-1,by simp at b;omega⟩
  have j:=c (λy g=>h y (by simp[g])) m (by simpa using b)
  grind
theorem Oi{f:a->Int}(b:k<c.length):((c.take (k+1)).map f).sum=((c.take k).map f).sum+f c[k]:=by
 rw[ψ b,kA,mj];simp
theorem xr(a:m0 i)(r:AW)(k:Nat): -256000000000000000<=((i.po.take k).map (pd r)).sum/\((i.po.take k).map (pd r)).sum<=256000000000000000:=by
 have h:=JY (l:=i.po.take k) (f:=pd r) (B:=Mx) (λx b=>by
  have:=a.d x (lL b);simp only[Mx] at this;unfold pd;split
  .simp only[Mx];omega
  .simp only[Mx];omega) 256 (by have:=a.po;rw[θ];omega) (by decide)
 grind
theorem xY(a:m0 i)(r:AW)(k:Nat): -512000000000000000<=((i.pa.take k).map (yd r)).sum/\((i.pa.take k).map (yd r)).sum<=512000000000000000:=by
 have h:=JY (l:=i.pa.take k) (f:=yd r) (B:=2*Mx) (λx b=>by
  have:=a.n x (lL b);simp only[Mx] at this
  unfold yd xR xQ;simp only[Mx];(repeat' split)<;>omega) 256 (by have:=a.pa;rw[θ];omega) (by decide)
 grind
theorem U7(i:dr)(r:AW)(v:m0 i):AI prog 103 [.d (Ah i),.d (Bn r)] (AE (M6 i r)):=by
 have B:=v.po;have C:=v.pa;refine Av func103 Z Z ntmps103 Z Z Z λF w=>?_;refine AD (AF (V (Ba 1 Z Z Z Z Z Z Z) (V (Ba 2 Z Z Z Z Z Z Z) (AB Z Z (AC (AD (AF (AB Z Z ?_))))))));refine AC (AD (AD (AF (J (AL Z Gk Z Z Z) (J (AQ Z Z Z Ag Z) (J (GW Z Z Z) (AC (A4 Z (λu=>?_) (λu=>?_)))))))))
 .refine AD (AD (AF (AB Z Z (AC (AX (BC (α:=Nat×Int) (λq=>⟨92,[(2,(.ptr 1 0 0)),(3,(.ptr 2 0 0)),(5,(.d (AE q.2))),(6,(.d (AE (q.1:Int))))],[(1,[.blk 93 [.d (AE i.id),.d (AE i.pr),.d (AE i.sq),.d (.sl none (i.po.map B9)),.d (.sl none (i.pa.map Co)),.d (.sl none (i.af.map AE))]]),(2,[.blk 98 [.d (AE r.k),.d (Am r.acc.o),.d (AE r.acc.k),.d (Am r.acc.a),.d (Am r.f),.d (Am r.t)]])]⟩) (λq=>q.1<=i.po.length/\q.2=((i.po.take q.1).map (pd r)).sum) (λq=>i.po.length-q.1) ((0,0)) (⟨κ _,Z⟩) (AR w [1,2] Z Z ⟨Z,Z,Z,Z,trivial⟩) ?_))))));rintro ⟨k,n⟩ ⟨j,g⟩;dsimp only at j g⊢;have x:=xr v r k;refine AD ?_;refine AD (AF (cl Z Z (J (AL Z DB Z Z Z) (J (AQ Z Z Z Ik Z) (J (BW Z R5 Z) (J (At Z Z Z) (AC (A4 Z (λt=>?_) (λt=>?_)))))))))
  .have a:k<i.po.length:=BG t;refine AU (AD (AX (AD (Bm [[],[0],[],[0,1,2],[0,1,2,3],rg 5,[],[6],rg 8] mixed Z (BY (AK [2] Z (AL Z DB Z Z Z) (Ay [19] Z Z (λ_=>A9 (AQ Z Z Z Ik Z)) (A7 6 Z Z ?_))))))));refine AK [20,21] Z (Al (k) Z Z (Z) (AP a) R5 Z KC Z) (AK [22] Z (Jy Z F5 Z Z Z) (AK [23] Z (CT Z Z aU Z) (AK [3] Z (AL Z Ed Z Z Z) (Ay [25] Z Z (λ_=>A9 (Ar Z Z aU Z Z Z)) (BR 8 Z Z Z (AZ 9 Z Z (J (Ft (la:=Nv i.po[k].acc) (lb:=Nv r.acc) (ds:=jN) (by kernel_rfl) (by kernel_rfl) (by kernel_rfl) Z Z Z Z (Dv _) (Dv _) (O1 _ _) Z) (AC ⟨Z,?_⟩))))))));refine Bb (A4 Z (λs=>?_) (λs=>?_))
   .refine AF (cl Z Z (J (AL Z DB Z Z Z) (J (AQ Z Z Z Ik Z) (cl Z Z (J (Al (k) Z Z (Z) (AP a) R5 Z KC Z) (J (IJ Z La Z Z Z) (J (BZ Z Z FK Z) ?_)))))));have l:=v.d _ (ϑ a);simp only[Mx] at l;refine J (Ac Z Z (Ξ _ (by omega)) Z) (AB Z Z (AC (AF (cl Z Z (J (Ac Z Z (AJ (k+1) (by omega)) Z) (AB Z Z (AC ?_)))))));exact ⟨(k+1,_),⟨by show k+1<=_;omega,by show _=((i.po.take (k+1)).map (pd r)).sum;rw[Oi a,<-g];unfold pd;rw[ϱ s]⟩,by show i.po.length-(k+1)<i.po.length-k;omega,AR w [1,2] Z (Z) ⟨Z,Z,Z,Z,trivial⟩⟩
   .refine AU (AF (cl Z Z (J (Ac Z Z (AJ (k+1) (by omega)) Z) (AB Z Z (AC ?_)))));exact ⟨(k+1,_),⟨by show k+1<=_;omega,by show _=((i.po.take (k+1)).map (pd r)).sum;rw[Oi a,<-g];unfold pd;rw[υ s];exact (Int.add_zero _).symm⟩,by show i.po.length-(k+1)<i.po.length-k;omega,AR w [1,2] Z (Z) ⟨Z,Z,Z,Z,trivial⟩⟩
  .refine Aq (AD (AF (cl Z Z (AB Z Z (AC (A5 ?_))))));exact ⟨_,[],[],A2 Z,Z,Z,Ae (by unfold M6;rw[ϱ u,g,ζ (by have h:=t;omega)]),Z⟩
 .refine AU (AD (AD (AF (AB Z Z (AC (AX (BC (α:=Nat×Int) (λq=>⟨92,[(2,(.ptr 1 0 0)),(3,(.ptr 2 0 0)),(5,(.d (AE q.2))),(7,(.d (AE (q.1:Int))))],[(1,[.blk 93 [.d (AE i.id),.d (AE i.pr),.d (AE i.sq),.d (.sl none (i.po.map B9)),.d (.sl none (i.pa.map Co)),.d (.sl none (i.af.map AE))]]),(2,[.blk 98 [.d (AE r.k),.d (Am r.acc.o),.d (AE r.acc.k),.d (Am r.acc.a),.d (Am r.f),.d (Am r.t)]])]⟩) (λq=>q.1<=i.pa.length/\q.2=((i.pa.take q.1).map (yd r)).sum) (λq=>i.pa.length-q.1) ((0,0)) (⟨κ _,Z⟩) (AR w [1,2] Z Z ⟨Z,Z,Z,Z,trivial⟩) ?_)))))));rintro ⟨k,n⟩ ⟨j,g⟩;dsimp only at j g⊢;have x:=xY v r k;refine AD ?_;refine AD (AF (cl Z Z (J (AL Z Gl Z Z Z) (J (AQ Z Z Z Q3 Z) (J (BW Z an Z) (J (At Z Z Z) (AC (A4 Z (λo=>?_) (λo=>?_)))))))))
  .have a:k<i.pa.length:=BG o;refine AU (AD (AX (AD (AF ?_))));have l:=v.n _ (ϑ a);simp only[Mx] at l;refine J (AL Z Gl Z Z Z) (J (AQ Z Z Z Q3 Z) (cl Z Z (J (Al (k) Z Z (Z) (AP a) an Z Oh Z) (J (CT Z Z Y5 Z) (V (CF 3 c7 Z Z Z Z) (V (Bc Z Z Z Z Z Z Z Oh) (AC (AD ?_))))))));refine AD (AF (J (AL Z Es Z Z Z) (J (AQ Z Z Z CZ Z) (J (AL Z FN Z Z Z) (J (AQ Z Z Z CZ Z) (J (Kn Z Z Z) (cl Z Z (C5 54 Z (λA=>?_) (λA=>?_)))))))));refine AT Z Z Z (J (AL Z Gk Z Z Z) (AT Z Z Z (J (AQ Z Z Z Ag Z) (AT Z Z Z (J (GW Z Z Z) (AT Z Z Z (cl Z Z (C5 58 Z (λz=>?_) (λz=>?_)))))))));refine AN Z Z Z Z (AN Z Z Z Z (AN Z Z Z Z (AN Z Z Z Z (AN Z Z Z Z (AT Z Z Z (J (B4 Z Z Z Z) (J (B4 Z Z Z Z) ?_)))))));refine AC (CM Z Z (AF (cl Z Z (J (AL Z D5 Z Z Z) (J (AQ Z Z Z FK Z) (J (MC Z Z (Ξ _ (by omega)) Z) (AB Z Z (AC ?_))))))));refine AD (AF (J (AL Z Er Z Z Z) (J (AQ Z Z Z CZ Z) (J (AL Z FN Z Z Z) (J (AQ Z Z Z CZ Z) (J (Kn Z Z Z) (cl Z Z (C5 75 Z (λf=>?_) (λf=>?_)))))))));refine AT Z Z Z (J (AL Z Gk Z Z Z) (AT Z Z Z (J (AQ Z Z Z Ag Z) (AT Z Z Z (J (GW Z Z Z) (AT Z Z Z (cl Z Z (C5 79 Z (λc=>?_) (λc=>?_)))))))));refine AN Z Z Z Z (AN Z Z Z Z (AN Z Z Z Z (AN Z Z Z Z (AN Z Z Z Z (AT Z Z Z (J (B4 Z Z Z Z) (J (B4 Z Z Z Z) ?_)))))));refine AC (CM Z Z (AF (cl Z Z (J (AL Z D5 Z Z Z) (J (AQ Z Z Z FK Z) (J (Ac Z Z (Ξ _ (by omega)) Z) (AB Z Z (AC ?_))))))))
   rotate_left
   refine AT Z Z Z (J (AL Z Es Z Z Z) (AT Z Z Z (J (AQ Z Z Z CZ Z) (AT Z Z Z (J (AL Z FM Z Z Z) ?_)))));refine AT Z Z Z (J (AQ Z Z Z CZ Z) (AT Z Z Z (J (Kn Z Z Z) (AT Z Z Z (J (Br Z Z Z Z) (J (B4 Z Z Z Z) (AC (A4 Z (λb=>?_) (λb=>?_)))))))));refine AF (cl Z Z (J (AL Z D5 Z Z Z) (J (AQ Z Z Z FK Z) (J (Ac Z Z (Ξ _ (by omega)) Z) (AB Z Z (AC ?_))))))
   rotate_left
   refine AU ?_
   rotate_left
   refine AN Z Z Z Z (AN Z Z Z Z (AN Z Z Z Z (AN Z Z Z Z (Ko Z Z Z ?_))));refine Ko Z Z Z (Ko Z Z Z (Ko Z Z Z (Ko Z Z Z (AN Z Z Z Z (J (Br Z Z Z Z) (AC (Cr Z Z (AU ?_))))))))
   rotate_left
   refine AT Z Z Z (J (AL Z Er Z Z Z) (AT Z Z Z (J (AQ Z Z Z CZ Z) (AT Z Z Z (J (AL Z FM Z Z Z) ?_)))));refine AT Z Z Z (J (AQ Z Z Z CZ Z) (AT Z Z Z (J (Kn Z Z Z) (AT Z Z Z (J (Br Z Z Z Z) (J (B4 Z Z Z Z) (AC (A4 Z (λy=>?_) (λy=>?_)))))))));refine AF (cl Z Z (J (AL Z D5 Z Z Z) (J (AQ Z Z Z FK Z) (J (MC Z Z (Ξ _ (by omega)) Z) (AB Z Z (AC ?_))))));refine AD (AF (J (AL Z Er Z Z Z) (J (AQ Z Z Z CZ Z) (J (AL Z FN Z Z Z) (J (AQ Z Z Z CZ Z) (J (Kn Z Z Z) (cl Z Z (C5 75 Z (λf=>?_) (λf=>?_)))))))));refine AT Z Z Z (J (AL Z Gk Z Z Z) (AT Z Z Z (J (AQ Z Z Z Ag Z) (AT Z Z Z (J (GW Z Z Z) (AT Z Z Z (cl Z Z (C5 79 Z (λc=>?_) (λc=>?_)))))))));refine AN Z Z Z Z (AN Z Z Z Z (AN Z Z Z Z (AN Z Z Z Z (AN Z Z Z Z (AT Z Z Z (J (B4 Z Z Z Z) (J (B4 Z Z Z Z) ?_)))))));refine AC (CM Z Z (AF (cl Z Z (J (AL Z D5 Z Z Z) (J (AQ Z Z Z FK Z) (J (Ac Z Z (Ξ _ (by omega)) Z) (AB Z Z (AC ?_))))))))
   rotate_left
   refine AT Z Z Z (J (AL Z Es Z Z Z) (AT Z Z Z (J (AQ Z Z Z CZ Z) (AT Z Z Z (J (AL Z FM Z Z Z) ?_)))));refine AT Z Z Z (J (AQ Z Z Z CZ Z) (AT Z Z Z (J (Kn Z Z Z) (AT Z Z Z (J (Br Z Z Z Z) (J (B4 Z Z Z Z) (AC (A4 Z (λb=>?_) (λb=>?_)))))))));refine AF (cl Z Z (J (AL Z D5 Z Z Z) (J (AQ Z Z Z FK Z) (J (Ac Z Z (Ξ _ (by omega)) Z) (AB Z Z (AC ?_))))))
   rotate_left
   refine AU ?_
   rotate_left
   refine AN Z Z Z Z (AN Z Z Z Z (AN Z Z Z Z (AN Z Z Z Z (Ko Z Z Z ?_))));refine Ko Z Z Z (Ko Z Z Z (Ko Z Z Z (Ko Z Z Z (AN Z Z Z Z (J (Br Z Z Z Z) (AC (Cr Z Z (AU ?_))))))))
   rotate_left
   refine AU ?_;refine AD (AF (J (AL Z Er Z Z Z) (J (AQ Z Z Z CZ Z) (J (AL Z FN Z Z Z) (J (AQ Z Z Z CZ Z) (J (Kn Z Z Z) (cl Z Z (C5 75 Z (λf=>?_) (λf=>?_)))))))));refine AT Z Z Z (J (AL Z Gk Z Z Z) (AT Z Z Z (J (AQ Z Z Z Ag Z) (AT Z Z Z (J (GW Z Z Z) (AT Z Z Z (cl Z Z (C5 79 Z (λc=>?_) (λc=>?_)))))))));refine AN Z Z Z Z (AN Z Z Z Z (AN Z Z Z Z (AN Z Z Z Z (AN Z Z Z Z (AT Z Z Z (J (B4 Z Z Z Z) (J (B4 Z Z Z Z) ?_)))))));refine AC (CM Z Z (AF (cl Z Z (J (AL Z D5 Z Z Z) (J (AQ Z Z Z FK Z) (J (Ac Z Z (Ξ _ (by omega)) Z) (AB Z Z (AC ?_))))))))
   rotate_left
   refine AT Z Z Z (J (AL Z Es Z Z Z) (AT Z Z Z (J (AQ Z Z Z CZ Z) (AT Z Z Z (J (AL Z FM Z Z Z) ?_)))));refine AT Z Z Z (J (AQ Z Z Z CZ Z) (AT Z Z Z (J (Kn Z Z Z) (AT Z Z Z (J (Br Z Z Z Z) (J (B4 Z Z Z Z) (AC (A4 Z (λb=>?_) (λb=>?_)))))))));refine AF (cl Z Z (J (AL Z D5 Z Z Z) (J (AQ Z Z Z FK Z) (J (Ac Z Z (Ξ _ (by omega)) Z) (AB Z Z (AC ?_))))))
   rotate_left
   refine AU ?_
   rotate_left
   refine AN Z Z Z Z (AN Z Z Z Z (AN Z Z Z Z (AN Z Z Z Z (Ko Z Z Z ?_))));refine Ko Z Z Z (Ko Z Z Z (Ko Z Z Z (Ko Z Z Z (AN Z Z Z Z (J (Br Z Z Z Z) (AC (Cr Z Z (AU ?_))))))))
   rotate_left
   refine AN Z Z Z Z (AN Z Z Z Z (AN Z Z Z Z (AN Z Z Z Z (Ko Z Z Z ?_))));refine Ko Z Z Z (Ko Z Z Z (Ko Z Z Z (Ko Z Z Z (AN Z Z Z Z (J (Br Z Z Z Z) (AC (Cr Z Z (AU ?_))))))));refine AD (AF (J (AL Z Er Z Z Z) (J (AQ Z Z Z CZ Z) (J (AL Z FN Z Z Z) (J (AQ Z Z Z CZ Z) (J (Kn Z Z Z) (cl Z Z (C5 75 Z (λf=>?_) (λf=>?_)))))))));refine AT Z Z Z (J (AL Z Gk Z Z Z) (AT Z Z Z (J (AQ Z Z Z Ag Z) (AT Z Z Z (J (GW Z Z Z) (AT Z Z Z (cl Z Z (C5 79 Z (λc=>?_) (λc=>?_)))))))));refine AN Z Z Z Z (AN Z Z Z Z (AN Z Z Z Z (AN Z Z Z Z (AN Z Z Z Z (AT Z Z Z (J (B4 Z Z Z Z) (J (B4 Z Z Z Z) ?_)))))));refine AC (CM Z Z (AF (cl Z Z (J (AL Z D5 Z Z Z) (J (AQ Z Z Z FK Z) (J (Ac Z Z (Ξ _ (by omega)) Z) (AB Z Z (AC ?_))))))))
   rotate_left
   refine AT Z Z Z (J (AL Z Es Z Z Z) (AT Z Z Z (J (AQ Z Z Z CZ Z) (AT Z Z Z (J (AL Z FM Z Z Z) ?_)))));refine AT Z Z Z (J (AQ Z Z Z CZ Z) (AT Z Z Z (J (Kn Z Z Z) (AT Z Z Z (J (Br Z Z Z Z) (J (B4 Z Z Z Z) (AC (A4 Z (λb=>?_) (λb=>?_)))))))));refine AF (cl Z Z (J (AL Z D5 Z Z Z) (J (AQ Z Z Z FK Z) (J (Ac Z Z (Ξ _ (by omega)) Z) (AB Z Z (AC ?_))))))
   rotate_left
   refine AU ?_
   rotate_left
   refine AN Z Z Z Z (AN Z Z Z Z (AN Z Z Z Z (AN Z Z Z Z (Ko Z Z Z ?_))));refine Ko Z Z Z (Ko Z Z Z (Ko Z Z Z (Ko Z Z Z (AN Z Z Z Z (J (Br Z Z Z Z) (AC (Cr Z Z (AU ?_))))))))
   all_goals
    refine AF (cl Z Z (J (Ac Z Z (AJ (k+1) (by omega)) Z) (AB Z Z (AC ?_))));exact ⟨(k+1,_),⟨by show k+1<=_;omega,by show _=((i.pa.take (k+1)).map (yd r)).sum;rw[Oi a,<-g];unfold yd xR xQ;(repeat' split)<;>first | omega | (exfalso;simp_all;done)⟩,by show i.pa.length-(k+1)<i.pa.length-k;omega,AR w [1,2] Z (Z) ⟨Z,Z,Z,Z,trivial⟩⟩
  .refine Aq (AD (AF (cl Z Z (AB Z Z (AC (A5 ?_))))));exact ⟨_,[],[],A2 Z,Z,Z,Ae (by unfold M6;rw[υ u,g,ζ (by have h:=o;omega)]),Z⟩
def FJ(i:dr):Int:=BP [Fy i,LG i,Nu i]
theorem Dk(a:h=Fy i)(b:h≠0):h=FJ i:=by grind[FJ,BP]
theorem GC(b:Fy i=0)(a:h=LG i)(c:h≠0):h=FJ i:=by grind[FJ,BP]
theorem Hh(c:Fy i=0)(b:LG i=0)(a:h=Nu i):h=FJ i:=by grind[FJ,BP]
theorem oZ(i:dr)(M:i.po.length<=1000)(L:i.pa.length<=1000)(K:i.af.length<=1000):AI prog 101 [.d (Ah i)] (AE (FJ i)):=by
 refine Av func101 Z Z ntmps101 Z Z Z λF s=>(AD (AF (V (Ba 1 Z Z Z Z Z Z Z) ?_)));refine AB Z Z (AC (AD (AD (AF (AB Z Z (AC (AX (BC (α:=Nat) (λk=>⟨121,[(1,(.ptr 1 0 0)),(3,(.d (AE (k:Int))))],[(1,[.blk 93 [.d (AE i.id),.d (AE i.pr),.d (AE i.sq),.d (.sl none (i.po.map B9)),.d (.sl none (i.pa.map Co)),.d (.sl none (i.af.map AE))]])]⟩) (λk=>k<=i.po.length/\Fy i=BP ((i.po.drop k).map Ig)) (λk=>i.po.length-k) (0) (⟨κ _,Z⟩) (AR s [1] Z Z ⟨Z,Z,trivial⟩) ?_))))))));rintro k ⟨t,j⟩;refine AD ?_;refine AD (AF (cl Z Z (J (AL Z DB Z Z Z) (J (AQ Z Z Z Ik Z) (J (BW Z R5 Z) (J (At Z Z Z) (AC (A4 Z (λr=>?_) (λr=>?_)))))))))
 .have a:k<i.po.length:=BG r;refine AU (AD (AX (AD (AF ?_))));have c:=nO a j;refine J (AL Z DB Z Z Z) (J (AQ Z Z Z Ik Z) (cl Z Z (J (Al (k) Z Z (Z) (AP a) R5 Z KC Z) (J (CT Z Z vq Z) (V (CF 2 vT Z Z Z Z) (V (Bc Z Z Z Z Z Z Z KC) (AC ?_)))))));refine AX (AD (AF (J (AL Z F5 Z Z Z) (J (AL Z TF Z Z Z) (J (AQ Z Z Z CZ Z) (J (Kn Z Z Z) (cl Z Z (C5 25 Z (λH=>?_) (λH=>?_)))))))))
  .refine AN Z Z Z Z (AN Z Z Z Z (AN Z Z Z Z (AN Z Z Z Z ?_)));refine J (B4 Z Z Z Z) (AB Z Z (AC (CM Z Z (AD (AF (AB Z Z (AC (A5 ?_))))))));exact ⟨_,[],[],A2 Z,Z,Z,Ae (Dk (c.2 6 (by unfold Ig;rw[ϱ (by simp_all)]) (by decide)) (by decide)),Z⟩
  .refine AT Z Z Z (J (AL Z F5 Z Z Z) (AT Z Z Z ?_));refine J (AL Z Mu Z Z Z) (AT Z Z Z (J (AQ Z Z Z CZ Z) (AT Z Z Z (J (Kn Z Z Z) (J (Br Z Z Z Z) (AB Z Z (AC (A4 Z (λI=>?_) (λI=>?_)))))))))
   .refine AD (AF (AB Z Z (AC (A5 ?_))));exact ⟨_,[],[],A2 Z,Z,Z,Ae (Dk (c.2 6 (by unfold Ig;rw[ϱ (by simp_all)]) (by decide)) (by decide)),Z⟩
   .refine AD (AF (J (AL Z F5 Z Z Z) (J (AL Z Mv Z Z Z) (J (AQ Z Z Z Ag Z) (J (At Z Z Z) (cl Z Z (C5 36 Z (λE=>?_) (λE=>?_))))))))
    .refine AN Z Z Z Z (AN Z Z Z Z (AN Z Z Z Z (AN Z Z Z Z ?_)));refine J (B4 Z Z Z Z) (AB Z Z (AC (CM Z Z (AD (AF (AB Z Z (AC (A5 ?_))))))));exact ⟨_,[],[],A2 Z,Z,Z,Ae (Dk (c.2 11 (by unfold Ig;rw[υ (by simp_all),ϱ (by omega)]) (by decide)) (by decide)),Z⟩
    .refine AT Z Z Z (J (AL Z F5 Z Z Z) (AT Z Z Z ?_));refine J (AL Z Mv Z Z Z) (AT Z Z Z (J (AQ Z Z Z Ag Z) (AT Z Z Z (J (H1 Z Z Z) (J (Br Z Z Z Z) (AB Z Z (AC (A4 Z (λG=>?_) (λG=>?_)))))))))
     .refine AD (AF (AB Z Z (AC (A5 ?_))));exact ⟨_,[],[],A2 Z,Z,Z,Ae (Dk (c.2 11 (by unfold Ig;rw[υ (by simp_all),ϱ (by omega)]) (by decide)) (by decide)),Z⟩
     .refine AD (AF (J (AL Z La Z Z Z) (J (AQ Z Z Z FK Z) (J (At Z Z Z) (cl Z Z (C5 46 Z (λC=>?_) (λC=>?_)))))))
      .refine AN Z Z Z Z (AN Z Z Z Z (AN Z Z Z Z ?_));refine J (B4 Z Z Z Z) (AB Z Z (AC (CM Z Z (AD (AF (AB Z Z (AC (A5 ?_))))))));exact ⟨_,[],[],A2 Z,Z,Z,Ae (Dk (c.2 12 (by unfold Ig;rw[υ (by simp_all),υ (by omega),ϱ (by simp only[Mx];omega)]) (by decide)) (by decide)),Z⟩
      .refine AT Z Z Z ?_;refine J (AL Z La Z Z Z) (AT Z Z Z (J (AQ Z Z Z FK Z) (AT Z Z Z (J (H1 Z Z Z) (J (Br Z Z Z Z) (AB Z Z (AC (A4 Z (λD=>?_) (λD=>?_)))))))))
       .refine AD (AF (AB Z Z (AC (A5 ?_))));exact ⟨_,[],[],A2 Z,Z,Z,Ae (Dk (c.2 12 (by unfold Ig;rw[υ (by simp_all),υ (by omega),ϱ (by simp only[Mx];omega)]) (by decide)) (by decide)),Z⟩
       .refine AU (AF (cl Z Z (J (Ac Z Z (AJ (k+1) (by omega)) Z) (AB Z Z (AC ?_)))));exact ⟨k+1,⟨by show k+1<=_;omega,c.1 (by unfold Ig;rw[υ (by simp_all),υ (by omega),υ (by simp only[Mx];omega)])⟩,by show i.po.length-(k+1)<i.po.length-k;omega,AR s [1] Z (Z) ⟨Z,Z,trivial⟩⟩
 .refine Aq (AD (AD ?_));have b:Fy i=0:=by rw[j,DZ (by have h:=r;omega)]
  refine AF (AB Z Z (AC (AX (BC (α:=Nat) (λk=>⟨121,[(1,(.ptr 1 0 0)),(5,(.d (AE (k:Int))))],[(1,[.blk 93 [.d (AE i.id),.d (AE i.pr),.d (AE i.sq),.d (.sl none (i.po.map B9)),.d (.sl none (i.pa.map Co)),.d (.sl none (i.af.map AE))]])]⟩) (λk=>k<=i.pa.length/\LG i=BP ((i.pa.drop k).map Jp)) (λk=>i.pa.length-k) (0) (⟨κ _,Z⟩) (AR s [1] Z Z ⟨Z,Z,trivial⟩) ?_))));rintro k ⟨t,j⟩;refine AD ?_;refine AD (AF (cl Z Z (J (AL Z Gl Z Z Z) (J (AQ Z Z Z Q3 Z) (J (BW Z an Z) (J (At Z Z Z) (AC (A4 Z (λo=>?_) (λo=>?_)))))))))
  .have a:k<i.pa.length:=BG o;refine AU (AD (AX (AD (AF ?_))));have c:=nO a j;refine J (AL Z Gl Z Z Z) (J (AQ Z Z Z Q3 Z) (cl Z Z (J (Al (k) Z Z (Z) (AP a) an Z Oh Z) (J (CT Z Z Y5 Z) (V (CF 3 c7 Z Z Z Z) (V (Bc Z Z Z Z Z Z Z Oh) ?_))))));refine AC (AX (AD (AF (J (AL Z Es Z Z Z) (J (AQ Z Z Z CZ Z) (J (Kn Z Z Z) (cl Z Z (C5 67 Z (λA=>?_) (λA=>?_)))))))))
   .refine AN Z Z Z Z (AN Z Z Z Z (AN Z Z Z Z ?_));refine J (B4 Z Z Z Z) (AB Z Z (AC (CM Z Z (AD (AF (AB Z Z (AC (A5 ?_))))))));exact ⟨_,[],[],A2 Z,Z,Z,Ae (GC b (c.2 6 (by unfold Jp;rw[ϱ (by simp_all)]) (by decide)) (by decide)),Z⟩
   .refine AT Z Z Z ?_;refine J (AL Z Er Z Z Z) (AT Z Z Z (J (AQ Z Z Z CZ Z) (AT Z Z Z (J (Kn Z Z Z) (J (Br Z Z Z Z) (AB Z Z (AC (A4 Z (λB=>?_) (λB=>?_)))))))))
    .refine AD (AF (AB Z Z (AC (A5 ?_))));exact ⟨_,[],[],A2 Z,Z,Z,Ae (GC b (c.2 6 (by unfold Jp;rw[ϱ (by simp_all)]) (by decide)) (by decide)),Z⟩
    .refine AD ?_;refine AF (J (AL Z Es Z Z Z) (J (AQ Z Z Z CZ Z) (J (AL Z Er Z Z Z) (J (AQ Z Z Z CZ Z) (J (Kn Z Z Z) (AB Z Z (AC (A4 Z (λz=>?_) (λz=>?_)))))))))
     .refine AD (AF (AB Z Z (AC (A5 ?_))));exact ⟨_,[],[],A2 Z,Z,Z,Ae (GC b (c.2 7 (by unfold Jp;rw[υ (by simp_all),ϱ (by simp_all)]) (by decide)) (by decide)),Z⟩
     .refine AD (AF (J (AL Z D5 Z Z Z) (J (AQ Z Z Z FK Z) (J (At Z Z Z) (cl Z Z (C5 82 Z (λx=>?_) (λx=>?_)))))))
      .refine AN Z Z Z Z (AN Z Z Z Z (AN Z Z Z Z ?_));refine J (B4 Z Z Z Z) (AB Z Z (AC (CM Z Z (AD (AF (AB Z Z (AC (A5 ?_))))))));exact ⟨_,[],[],A2 Z,Z,Z,Ae (GC b (c.2 2 (by unfold Jp;rw[υ (by simp_all),υ (by simp_all),ϱ (by simp only[Mx];omega)]) (by decide)) (by decide)),Z⟩
      .refine AT Z Z Z ?_;refine J (AL Z D5 Z Z Z) (AT Z Z Z (J (AQ Z Z Z FK Z) (AT Z Z Z (J (H1 Z Z Z) (J (Br Z Z Z Z) (AB Z Z (AC (A4 Z (λy=>?_) (λy=>?_)))))))))
       .refine AD (AF (AB Z Z (AC (A5 ?_))));exact ⟨_,[],[],A2 Z,Z,Z,Ae (GC b (c.2 2 (by unfold Jp;rw[υ (by simp_all),υ (by simp_all),ϱ (by simp only[Mx];omega)]) (by decide)) (by decide)),Z⟩
       .refine AU (AF (cl Z Z (J (Ac Z Z (AJ (k+1) (by omega)) Z) (AB Z Z (AC ?_)))));exact ⟨k+1,⟨by show k+1<=_;omega,c.1 (by unfold Jp;rw[υ (by simp_all),υ (by simp_all),υ (by simp only[Mx];omega)])⟩,by show i.pa.length-(k+1)<i.pa.length-k;omega,AR s [1] Z (Z) ⟨Z,Z,trivial⟩⟩
  .refine Aq (AD (AD ?_));have f:LG i=0:=by rw[j,DZ (by have h:=o;omega)]
   refine AF (AB Z Z (AC (AX (BC (α:=Nat) (λk=>⟨121,[(1,(.ptr 1 0 0)),(7,(.d (AE (k:Int))))],[(1,[.blk 93 [.d (AE i.id),.d (AE i.pr),.d (AE i.sq),.d (.sl none (i.po.map B9)),.d (.sl none (i.pa.map Co)),.d (.sl none (i.af.map AE))]])]⟩) (λk=>k<=i.af.length/\Nu i=BP (((List.range i.af.length).drop k).map (NK i.id i.af))) (λk=>i.af.length-k) (0) (⟨κ _,Z⟩) (AR s [1] Z Z ⟨Z,Z,trivial⟩) ?_))));rintro k ⟨t,j⟩;refine AD ?_;refine AD (AF (cl Z Z (J (AL Z Tk Z Z Z) (J (AQ Z Z Z BJ Z) (J (BW Z E0 Z) (J (At Z Z Z) (AC (A4 Z (λl=>?_) (λl=>?_)))))))))
   .have a:k<i.af.length:=BG l;refine AU (AD (AX (AD (AD (AF ?_)))));have c:=sT a j;have g:i.af.getD k 0=i.af[k]:=by rw[Ψ,ω a];rfl
    refine J (AL Z Tk Z Z Z) (J (AQ Z Z Z BJ Z) (cl Z Z (J (Al (k) Z Z (Z) (AP a) E0 Z BE Z) (J (BZ Z Z Ag Z) (J (Ak (Ie i.af[k]) Z Z) (J (JQ Z Z) (AC (A4 Z (λw=>?_) (λw=>?_)))))))))
    .refine AD (AF (AB Z Z (AC (A5 ?_))));exact ⟨_,[],[],A2 Z,Z,Z,Ae (Hh b f (c.2 2 (by unfold NK;rw[g,ϱ (by simp_all)]) (by decide))),Z⟩
    .refine AU (AD (Bm [[],[0],[],[0,1,2],[0,1,2,3],[],[5],rg 7,rg 8,rg 9,rg 10,rg 9,rg 12,rg 9,[0,1,2,3,4,5,6,7,8,13],rg 9,[0,1,2,3,4,5,6,7,8,13,14,15],[0,1,2,3,4,5,6,7,8,13,14,15,16],rg 18,rg 19] mixed Z (BY (AK [1] Z (AL Z Tk Z Z Z) (Ay [101] Z Z (λ_=>A9 (AQ Z Z Z BJ Z)) ?_)))));refine A7 7 Z Z (AK [102,103] Z (Al (k) Z Z (Z) (AP a) E0 Z BE Z) (AK [104] Z (BZ Z Z Ag Z) (AK [1] Z (AL Z ST Z Z Z) (Ay [106] Z Z (λ_=>A9 (AQ Z Z Z Ag Z)) (BR 7 Z Z Z (AZ 8 Z Z (J (GW Z Z Z) (AC ⟨Z,?_⟩))))))));refine AZ 9 Z Z (cl Z Z (C5 109 Z (λv=>?_) (λv=>?_)))
     .refine AC ⟨Z,?_⟩;refine BY (A1 [1,109] [] Z Z (λ_=>CL Z Z Z Z) (A1 [110,109] [] Z Z (λ_=>CL Z Z Z Z) (A1 [7,109] [] Z Z (λ_=>CL Z Z Z Z) (A1 [111,112,109] [] Z Z (λ_=>CL Z Z Z Z) ?_))));refine A1 [1,109] [] Z Z (λ_=>CL Z Z Z Z) (A1 [114,109] [] Z Z (λ_=>CL Z Z Z Z) (A1 [7,109] [] Z Z (λ_=>CL Z Z Z Z) (A1 [115,116,109] [] Z Z (λ_=>CL Z Z Z Z) (A1 [117,109] [] Z Z (λ_=>CL Z Z Z Z) (BR 18 Z Z Z (AZ 19 Z Z (AN Z Z Z Z (AC ⟨Z,?_⟩))))))));refine AZ 20 Z Z (J (B4 Z Z Z Z) (AC ⟨Z,?_⟩));refine Bb (CM Z Z (AD (AF (AB Z Z (AC (A5 ?_))))));exact ⟨_,[],[],A2 Z,Z,Z,Ae (Hh b f (c.2 7 (by unfold NK;rw[g,υ (by simp_all),ϱ (by simp_all)]) (by decide))),Z⟩
     .refine AC ⟨Z,?_⟩;refine BY (A1 [1,109] [] Z Z (λ_=>BO Z Z Z (AL Z Tk Z Z Z)) (Ay [110,109] Z Z (λ_=>BO Z Z Z (AQ Z Z Z BJ Z)) (A1 [7,109] [] Z Z (λ_=>BO Z Z Z (FF Z Z)) (A1 [111,112,109] [] Z Z (λ_=>BO Z Z Z (Xx (i.af) (k) Z Z Z (Z) (by omega) E0 BE (λ_=>rfl) Z)) (A1 [1,109] [] Z Z (λ_=>BO Z Z Z (AL Z Tk Z Z Z)) ?_)))));refine Ay [114,109] Z Z (λ_=>BO Z Z Z (AQ Z Z Z BJ Z)) (A1 [7,109] [] Z Z (λ_=>BO Z Z Z (FF Z Z)) (A1 [115,116,109] [] Z Z (λ_=>BO Z Z Z (Al (k) Z Z (Z) (AP a) E0 Z BE Z)) (A1 [117,109] [] Z Z (λ_=>BO Z Z Z (BZ Z Z Ag Z)) (BR 18 Z Z Z (AZ 19 Z Z (AT Z Z Z (J (Ak (wm (i.af.take k) i.af[k] (by rw[θ];omega)) Z Z) (AC ⟨Z,?_⟩))))))));refine AZ 20 Z Z (J (Br Z Z Z Z) (AC ⟨Z,?_⟩));refine Bb (A4 Z (λu=>?_) (λu=>?_))
      .refine AD (AF (AB Z Z (AC (A5 ?_))));exact ⟨_,[],[],A2 Z,Z,Z,Ae (Hh b f (c.2 7 (by unfold NK;rw[g,υ (by simp_all),ϱ (by simp_all)]) (by decide))),Z⟩
      .refine AU (AF (cl Z Z (J (Ac Z Z (AJ (k+1) (by omega)) Z) (AB Z Z (AC ?_)))));exact ⟨k+1,⟨by show k+1<=_;omega,c.1 (by unfold NK;rw[g,υ (by simp_all),υ (by simp_all)])⟩,by show i.af.length-(k+1)<i.af.length-k;omega,AR s [1] Z (Z) ⟨Z,Z,trivial⟩⟩
   .refine Aq (AD (AF (AB Z Z (AC (A5 ?_)))));exact ⟨_,[],[],A2 Z,Z,Z,Ae (Hh b f (by rw[j,nB (by have h:=l;simp only[kj];omega)];rfl)),Z⟩
theorem v7(c:List (AW×Int))(p:NN):jv (c++ND p)=Cp (Cp (Cp (Cp (jv c) (CU p.f p.t)) (CU p.t p.f)) (DX p.f)) (DX p.t):=by grind[ND,jv]
theorem v6{l:List Fa}(a:k<l.length):jv (EX (l.take (k+1)))=Cp (jv (EX (l.take k))) (HK l[k]):=by rw[SD a,JX]
theorem v5{c:List (AW×Int)}{l:List NN}(a:k<l.length):jv (c++HX (l.take (k+1)))=Cp (Cp (Cp (Cp (jv (c++HX (l.take k))) (CU l[k].f l[k].t)) (CU l[k].t l[k].f)) (DX l[k].f)) (DX l[k].t):=by rw[SC a,<-lm,v7]
theorem aA(i:dr)(A:i.po.length<=1000)(z:i.pa.length<=1000):AI prog 102 [.d (Ah i)] (.sl none ((jv (jt i)).map Bn)):=by
 refine Av func102 Z Z ntmps102 Z Z Z λF r=>(AD (AF ?_));refine V (Ba 1 Z Z Z Z Z Z Z) (AB Z Z (AC (AD (AF (AB Z Z (AC (AD (AD ?_))))))));refine JP 3 Z ?_;refine AF (AB Z Z (AC (AX (BC (α:=Nat×List AW) (λq=>⟨60,[(1,(.ptr 1 0 0)),(3,(.d (.sl none (q.2.map Bn)))),(4,(.d (AE (q.1:Int))))],[(1,[.blk 93 [.d (AE i.id),.d (AE i.pr),.d (AE i.sq),.d (.sl none (i.po.map B9)),.d (.sl none (i.pa.map Co)),.d (.sl none (i.af.map AE))]])]⟩) (λq=>q.1<=i.po.length/\q.2=jv (EX (i.po.take q.1))) (λq=>i.po.length-q.1) ((0,[])) (⟨κ _,Z⟩) (AR r [1] Z Z ⟨Z,Z,Z,trivial⟩) ?_))));rintro ⟨k,L⟩ ⟨u,o⟩;dsimp only at u o⊢;refine AD ?_;refine AD (AF (cl Z Z (J (AL Z DB Z Z Z) (J (AQ Z Z Z Ik Z) (J (BW Z R5 Z) (J (At Z Z Z) (AC (A4 Z (λb=>?_) (λb=>?_)))))))))
 .have j:k<i.po.length:=BG b;refine AU (AD (AX (AF ?_)));have g:L.length<=1000:=by rw[o];have:=Ob (EX (i.po.take k));simp only[EX,χ,θ] at this;simp only[EX];omega
  refine cl Z Z (J (AL Z DB Z Z Z) (J (AQ Z Z Z Ik Z) (cl Z Z (J (Al (k) Z Z (Z) (AP j) R5 Z KC Z) (J (Jy Z F5 Z Z Z) (J (CT Z Z aU Z) ?_))))));refine J (Dx SZ ah Z Z Z) (J (Ak (Iw L (HK i.po[k]) (by omega)) Z Z) (AB Z Z (AC (AF (cl Z Z (J (Ac Z Z (AJ (k+1) (by omega)) Z) (AB Z Z (AC ?_))))))));exact ⟨(k+1,_),⟨by show k+1<=_;omega,by show _=jv (EX (i.po.take (k+1)));rw[v6 j,<-o]⟩,by show i.po.length-(k+1)<i.po.length-k;omega,AR r [1] Z (Z) ⟨Z,Z,Z,trivial⟩⟩
 .refine Aq (AD (AD ?_));have v:L=jv (EX i.po++HX (i.pa.take 0)):=by rw[o,ζ (by have h:=b;omega)];simp[HX]
  refine AF (AB Z Z (AC (AX (BC (α:=Nat×List AW) (λq=>⟨60,[(1,(.ptr 1 0 0)),(3,(.d (.sl none (q.2.map Bn)))),(5,(.d (AE (q.1:Int))))],[(1,[.blk 93 [.d (AE i.id),.d (AE i.pr),.d (AE i.sq),.d (.sl none (i.po.map B9)),.d (.sl none (i.pa.map Co)),.d (.sl none (i.af.map AE))]])]⟩) (λq=>q.1<=i.pa.length/\q.2=jv (EX i.po++HX (i.pa.take q.1))) (λq=>i.pa.length-q.1) ((0,L)) (⟨κ _,v⟩) (AR r [1] Z Z ⟨Z,Z,Z,trivial⟩) ?_))));rintro ⟨m,N⟩ ⟨s,l⟩;dsimp only at s l⊢;refine AD ?_;refine AD (AF (cl Z Z (J (AL Z Gl Z Z Z) (J (AQ Z Z Z Q3 Z) (J (BW Z an Z) (J (At Z Z Z) (AC (A4 Z (λa=>?_) (λa=>?_)))))))))
  .have c:m<i.pa.length:=BG a;refine AU (AD (AX (AD (AF ?_))));have g:N.length<=5000:=by rw[l];have:=Ob (EX i.po++HX (i.pa.take m));rw[Δ,JF] at this;simp only[EX,χ,θ] at this⊢;omega
   have y:=LZ N (CU i.pa[m].f i.pa[m].t);have x:=LZ (Cp N (CU i.pa[m].f i.pa[m].t)) (CU i.pa[m].t i.pa[m].f);have w:=LZ (Cp (Cp N (CU i.pa[m].f i.pa[m].t)) (CU i.pa[m].t i.pa[m].f)) (DX i.pa[m].f);refine J (AL Z Gl Z Z Z) (J (AQ Z Z Z Q3 Z) (cl Z Z (J (Al (m) Z Z (Z) (AP c) an Z Oh Z) (J (CT Z Z Y5 Z) (V (CF 2 c7 Z Z Z Z) (V (Bc Z Z Z Z Z Z Z Oh) ?_))))));refine AC (AD (AF (cl Z Z (J (AL Z Es Z Z Z) (J (AQ Z Z Z CZ Z) (J (AL Z Er Z Z Z) (J (AQ Z Z Z CZ Z) (J (Dx SZ ah Z Z Z) ?_))))))));refine J (Ak (Iw N (CU i.pa[m].f i.pa[m].t) (by omega)) Z Z) (AB Z Z (AC (AD (AF (cl Z Z (J (AL Z Er Z Z Z) (J (AQ Z Z Z CZ Z) (J (AL Z Es Z Z Z) ?_))))))));refine J (AQ Z Z Z CZ Z) (J (Dx SZ ah Z Z Z) (J (Ak (Iw (Cp N (CU i.pa[m].f i.pa[m].t)) (CU i.pa[m].t i.pa[m].f) (by omega)) Z Z) (AB Z Z (AC (AD (AF (cl Z Z (J (AL Z Es Z Z Z) ?_))))))));refine J (AQ Z Z Z CZ Z) (J (Dx SZ ah Z Z Z) (J (Ak (Iw (Cp (Cp N (CU i.pa[m].f i.pa[m].t)) (CU i.pa[m].t i.pa[m].f)) (DX i.pa[m].f) (by omega)) Z Z) (AB Z Z (AC (AF (cl Z Z (J (AL Z Er Z Z Z) (J (AQ Z Z Z CZ Z) ?_))))))));refine J (Dx SZ ah Z Z Z) (J (Ak (Iw (Cp (Cp (Cp N (CU i.pa[m].f i.pa[m].t)) (CU i.pa[m].t i.pa[m].f)) (DX i.pa[m].f)) (DX i.pa[m].t) (by omega)) Z Z) (AB Z Z (AC (AF (cl Z Z (J (Ac Z Z (AJ (m+1) (by omega)) Z) (AB Z Z (AC ?_))))))));exact ⟨(m+1,_),⟨by show m+1<=_;omega,by show _=jv (EX i.po++HX (i.pa.take (m+1)));rw[v5 c,<-l]⟩,by show i.pa.length-(m+1)<i.pa.length-m;omega,AR r [1] Z (Z) ⟨Z,Z,Z,trivial⟩⟩
  .refine Aq (AD (AF (cl Z Z (AB Z Z (AC (A5 ?_))))));exact ⟨_,[],[],A2 Z,Z,Z,by rw[l,ζ (by have h:=a;omega)]<;>rfl,Z⟩
theorem Ui(h:FJ i=0):Fy i=0/\LG i=0/\Nu i=0:=by
 have a:=Iy h
 simp_all
theorem Lv(h:¬(0<=i.id/\i.id<=1000000000)\/¬(0<=i.sq/\i.sq<=1000000000)\/¬(0<=i.pr/\i.pr<=2)):Az i=2:=ϱ h
theorem QB(h:¬(¬(0<=i.id/\i.id<=1000000000)\/¬(0<=i.sq/\i.sq<=1000000000)\/¬(0<=i.pr/\i.pr<=2)))(a:256<i.po.length\/256<i.pa.length\/256<i.af.length):Az i=8:=by unfold Az;rw[υ h,ϱ a]
theorem ip{i:dr}(h:¬(¬(0<=i.id/\i.id<=1000000000)\/¬(0<=i.sq/\i.sq<=1000000000)\/¬(0<=i.pr/\i.pr<=2)))(a:¬(256<i.po.length\/256<i.pa.length\/256<i.af.length)):Az i=if FJ i=0 then BP [Lz i,NG i] else FJ i:=by grind[Az,TA,FJ,BP]
theorem aB(g:Fy i=0)(f:LG i=0)(c:u∈jv (jt i)):Bs u=0:=by
 obtain ⟨x,a,rfl⟩:=Γ.1 ((Kp _ _).1 c);rcases ν.1 a with a | a
 .obtain ⟨p,b,rfl⟩:=Γ.1 a;have:=Tr.1 g p b
  grind[Ig,Bs]
 .obtain ⟨p,b,a⟩:=mO.1 a;have:=Tr.1 f p b;unfold Jp at this
  split at this; · cases this
  split at this; · cases this
  grind[ND,Bs]
theorem qS{i:dr}(h:∀r∈jv (jt i),-Mx<=Ai (jt i) r/\Ai (jt i) r<=Mx):(0:Int)=NG i:=by grind[iq,EG,Kp]
theorem Nk{i:dr}{r:AW}(a:r∈jv (jt i))(h:¬(-Mx<=Ai (jt i) r/\Ai (jt i) r<=Mx)):(12:Int)=NG i:=by
 unfold NG;rw[ϱ];exact ⟨(r,Ai (jt i) r),(EG _ _ _).2 ⟨(Kp _ _).1 a,Z⟩,h⟩
theorem jC(a:k<i.po.length)(h:Bw i.po i.po[k].acc.a≠0):(14:Int)=Lz i:=by
 unfold Lz;rw[ϱ ⟨_,ϑ a,h⟩]
theorem qZ(h:∀p∈i.po,Bw i.po p.acc.a=0):Lz i=0:=by grind[Lz]
theorem KR(i:dr)(g1:i.po.length<=1000)(g2:i.pa.length<=1000)(g3:i.af.length<=1000):AI prog 50 [.d (Ah i)] (AE (Az i)):=by
 refine Av func50 Z Z ntmps50 Z Z Z λF t=>(AD (AF (V (Ba 1 Z Z Z Z Z Z Z) (AB Z Z (AC ?_)))));refine AD (AD (AF (J (AL Z ST Z Z Z) (J (AQ Z Z Z Ag Z) (J (Ak (Ie i.id) Z Z) (J (JQ Z Z) (cl Z Z (C5 14 Z (λU=>?_) (λU=>?_)))))))))
 .refine AN Z Z Z Z (AN Z Z Z Z (AN Z Z Z Z (AN Z Z Z Z ?_)));refine J (B4 Z Z Z Z) (cl Z Z (AN Z Z Z Z (AN Z Z Z Z (AN Z Z Z Z (J (B4 Z Z Z Z) (cl Z Z (AN Z Z Z Z (AN Z Z Z Z ?_))))))));refine AN Z Z Z Z (J (B4 Z Z Z Z) (AC (CM Z Z (AD (AF (AB Z Z (AC (A5 ?_))))))));exact ⟨_,[],[],A2 Z,Z,Z,Ae (Lv (by omega)).symm,Z⟩
 .refine AT Z Z Z (J (AL Z Mw Z Z Z) ?_);refine AT Z Z Z (J (AQ Z Z Z Ag Z) (AT Z Z Z (J (Ak (Ie i.sq) Z Z) (AT Z Z Z (J (JQ Z Z) (J (Br Z Z Z Z) (cl Z Z (C5 20 Z (λS=>?_) (λS=>?_)))))))))
  .refine AN Z Z Z Z (AN Z Z Z Z (AN Z Z Z Z (J (B4 Z Z Z Z) (cl Z Z (AN Z Z Z Z (AN Z Z Z Z ?_))))));refine AN Z Z Z Z (J (B4 Z Z Z Z) (AC (CM Z Z (AD (AF (AB Z Z (AC (A5 ?_))))))));exact ⟨_,[],[],A2 Z,Z,Z,Ae (Lv (by omega)).symm,Z⟩
  .refine AT Z Z Z (J (AL Z Kc Z Z Z) (AT Z Z Z (J (AQ Z Z Z Ag Z) (AT Z Z Z (J (At Z Z Z) (J (Br Z Z Z Z) (cl Z Z (C5 25 Z (λR=>?_) (λR=>?_)))))))))
   .refine AN Z Z Z Z (AN Z Z Z Z ?_);refine AN Z Z Z Z (J (B4 Z Z Z Z) (AC (CM Z Z (AD (AF (AB Z Z (AC (A5 ?_))))))));exact ⟨_,[],[],A2 Z,Z,Z,Ae (Lv (by omega)).symm,Z⟩
   .refine AT Z Z Z (J (AL Z Kc Z Z Z) (AT Z Z Z (J (AQ Z Z Z Ag Z) (AT Z Z Z (J (H1 Z Z Z) (J (Br Z Z Z Z) (AC (A4 Z (λQ=>?_) (λQ=>?_)))))))))
    .refine AD (AF (AB Z Z (AC (A5 ?_))));exact ⟨_,[],[],A2 Z,Z,Z,Ae (Lv (by omega)).symm,Z⟩
    .refine AU ?_;refine AD (AD (AF (J (AL Z DB Z Z Z) (J (AQ Z Z Z Ik Z) (J (BW Z R5 Z) (J (H1 Z Z Z) (cl Z Z (C5 34 Z (λP=>?_) (λP=>?_)))))))))
     .refine AN Z Z Z Z (AN Z Z Z Z (AN Z Z Z Z (AN Z Z Z Z (J (B4 Z Z Z Z) (cl Z Z (AN Z Z Z Z (AN Z Z Z Z (AN Z Z Z Z ?_))))))));refine AN Z Z Z Z (J (B4 Z Z Z Z) (AC (CM Z Z (AD (AF (AB Z Z (AC (A5 ?_))))))));exact ⟨_,[],[],A2 Z,Z,Z,Ae (QB (by omega) (by omega)).symm,Z⟩
     .refine AT Z Z Z (J (AL Z Gl Z Z Z) ?_);refine AT Z Z Z (J (AQ Z Z Z Q3 Z) (AT Z Z Z (J (BW Z an Z) (AT Z Z Z (J (H1 Z Z Z) (J (Br Z Z Z Z) (cl Z Z (C5 40 Z (λO=>?_) (λO=>?_)))))))))
      .refine AN Z Z Z Z (AN Z Z Z Z (AN Z Z Z Z ?_));refine AN Z Z Z Z (J (B4 Z Z Z Z) (AC (CM Z Z (AD (AF (AB Z Z (AC (A5 ?_))))))));exact ⟨_,[],[],A2 Z,Z,Z,Ae (QB (by omega) (by omega)).symm,Z⟩
      .refine AT Z Z Z (J (AL Z Tk Z Z Z) ?_);refine AT Z Z Z (J (AQ Z Z Z BJ Z) (AT Z Z Z (J (BW Z E0 Z) (AT Z Z Z (J (H1 Z Z Z) (J (Br Z Z Z Z) (AC (A4 Z (λN=>?_) (λN=>?_)))))))))
       .refine AD (AF (AB Z Z (AC (A5 ?_))));exact ⟨_,[],[],A2 Z,Z,Z,Ae (QB (by omega) (by omega)).symm,Z⟩
       .refine AU (AD (AD ?_));have a:=ip (i:=i) (by omega) (by omega);refine AF (J (Ar Z Z Ev Z Z Z) ?_);refine J (Ak (oZ i g1 g2 g3) Z Z) (AB Z Z (AC (AD (AF (cl Z Z (J (DP Z Z Z) (AC (A4 Z (λz=>?_) (λz=>?_)))))))))
        .refine AD (AF (cl Z Z (AB Z Z (AC (A5 ?_)))));exact ⟨_,[],[],A2 Z,Z,Z,Ae (by rw[a,υ z]),Z⟩
        .refine AU (AD (AD ?_));have W:FJ i=0:=by simpa using z
         obtain ⟨C,B,hz3⟩:=Ui W;rw[ϱ W] at a
         have M:m0 i:=⟨by omega,by omega,by omega,Si C,ew B⟩
         refine AF (AB Z Z (AC (AX (BC (α:=Nat) (λk=>⟨110,[(1,(.ptr 1 0 0)),(4,(.d (AE (k:Int))))],[(1,[.blk 93 [.d (AE i.id),.d (AE i.pr),.d (AE i.sq),.d (.sl none (i.po.map B9)),.d (.sl none (i.pa.map Co)),.d (.sl none (i.af.map AE))]])]⟩) (λk=>k<=i.po.length/\∀p∈i.po.take k,Bw i.po p.acc.a=0) (λk=>i.po.length-k) (0) (⟨κ _,by simp⟩) (AR t [1] Z Z ⟨Z,Z,trivial⟩) ?_))));rintro k ⟨hk0,X⟩;refine AD ?_;refine AD (AF (cl Z Z (J (AL Z DB Z Z Z) (J (AQ Z Z Z Ik Z) (J (BW Z R5 Z) (J (At Z Z Z) (AC (A4 Z (λy=>?_) (λy=>?_)))))))))
         .have o:k<i.po.length:=BG y;refine AU (AD (AX (AD (AF ?_))));refine AB Z Z (AC (AD (AD (AF (AB Z Z (AC (AX (BC (α:=Nat×Int) (λq=>⟨110,[(1,(.ptr 1 0 0)),(4,(.d (AE (k:Int)))),(5,(.d (AE q.2))),(6,(.d (AE (q.1:Int))))],[(1,[.blk 93 [.d (AE i.id),.d (AE i.pr),.d (AE i.sq),.d (.sl none (i.po.map B9)),.d (.sl none (i.pa.map Co)),.d (.sl none (i.af.map AE))]])]⟩) (λq=>q.1<=i.po.length/\q.2=Bw (i.po.take q.1) i.po[k].acc.a) (λq=>i.po.length-q.1) ((0,0)) (⟨κ _,Z⟩) (AR t [1] Z Z ⟨Z,Z,Z,Z,trivial⟩) ?_))))))));rintro ⟨m,n⟩ ⟨I,E⟩;dsimp only at I E⊢;refine AD ?_;refine AD (AF (cl Z Z (J (AL Z DB Z Z Z) (J (AQ Z Z Z Ik Z) (J (BW Z R5 Z) (J (At Z Z Z) (AC (A4 Z (λx=>?_) (λx=>?_)))))))))
          .have b:m<i.po.length:=BG x;refine AU (AD (AX (AD (Bm [[],[0],[],[0,1,2],[0,1,2,3],rg 5,rg 6,[],[7],[],[7,8,9],[7,8,9,10],[7,8,9,10,11],[7,8,9,10,11,12],rg 14] mixed Z (BY ?_)))));refine AK [1] Z (AL Z DB Z Z Z) (Ay [65] Z Z (λ_=>A9 (AQ Z Z Z Ik Z)) (A7 6 Z Z (AK [66,67] Z (Al (m) Z Z (Z) (AP b) R5 Z KC Z) (AK [68] Z (Jy Z F5 Z Z Z) (AK [69] Z (IJ Z Mu Z Z Z) (AK [70] Z (BZ Z Z CZ Z) (AK [1] Z (AL Z DB Z Z Z) (Ay [72] Z Z (λ_=>A9 (AQ Z Z Z Ik Z)) ?_))))))));refine A7 4 Z Z (AK [73,74] Z (Al (k) Z Z (Z) (AP o) R5 Z KC Z) (AK [75] Z (Jy Z F5 Z Z Z) (AK [76] Z (IJ Z Mu Z Z Z) (AK [77] Z (BZ Z Z CZ Z) (BR 14 Z Z Z (AZ 15 Z Z (J (Kn Z Z Z) (AC ⟨Z,?_⟩))))))));refine Bb (A4 Z (λw=>?_) (λw=>?_))
           .refine AF (cl Z Z (J (AL Z DB Z Z Z) (J (AQ Z Z Z Ik Z) (cl Z Z (J (Al (m) Z Z (Z) (AP b) R5 Z KC Z) (J (IJ Z La Z Z Z) (J (BZ Z Z FK Z) ?_)))))));have L:=M.d _ (ϑ b);have K:=JM (i.po.take m) i.po[k].acc.a (S4 M.d);rw[<-E,θ] at K;simp only[Mx] at L;refine J (Ac Z Z (Ξ _ (by omega)) Z) (AB Z Z (AC (AF (cl Z Z (J (Ac Z Z (AJ (m+1) (by omega)) Z) (AB Z Z (AC ?_)))))));exact ⟨(m+1,_),⟨by show m+1<=_;omega,by show _=Bw (i.po.take (m+1)) _;rw[ψ b,Gr,<-E,ϱ w]⟩,by show i.po.length-(m+1)<i.po.length-m;omega,AR t [1] Z (Z) ⟨Z,Z,Z,Z,trivial⟩⟩
           .refine AU (AF (cl Z Z (J (Ac Z Z (AJ (m+1) (by omega)) Z) (AB Z Z (AC ?_)))));exact ⟨(m+1,_),⟨by show m+1<=_;omega,by show _=Bw (i.po.take (m+1)) _;rw[ψ b,Gr,<-E,υ w];exact (Int.add_zero _).symm⟩,by show i.po.length-(m+1)<i.po.length-m;omega,AR t [1] Z (Z) ⟨Z,Z,Z,Z,trivial⟩⟩
          .refine Aq (AD ?_);have hS:n=Bw i.po i.po[k].acc.a:=by rw[E,ζ (by have h:=x;omega)]
           refine AF (cl Z Z (J (DP Z Z Z) (AC (A4 Z (λv=>?_) (λv=>?_)))))
           .refine AD (AF (AB Z Z (AC (A5 ?_))));exact ⟨_,[],[],A2 Z,Z,Z,Ae (by have h:=jC o (by rw[<-hS];exact v);rw[a,BP,υ (by rw[<-h];decide),<-h]),Z⟩
           .refine AU (AF (cl Z Z (J (Ac Z Z (AJ (k+1) (by omega)) Z) (AB Z Z (AC ?_)))));exact ⟨k+1,⟨by show k+1<=_;omega,by rw[ψ o];intro p l;rcases ν.1 l with l | l;exact X p l;rw[ξ.1 l];simpa [hS] using v⟩,by show i.po.length-(k+1)<i.po.length-k;omega,AR t [1] Z (Z) ⟨Z,Z,trivial⟩⟩
         .refine Aq (AD ?_);have s:Lz i=0:=qZ (λp l=>X p (by rw[ζ (by have h:=y;omega)];exact l))
          obtain ⟨T,A⟩:∃T,jv (jt i)=T:=⟨_,Z⟩
          have D:=aA i g1 g2;rw[A] at D;have hTl:T.length<=5000:=by rw[<-A];have h1:=Ob (jt i);have h2:=ID i;omega
          refine AF (J (Ar Z Z Ev Z Z Z) (J (Ak (D) Z Z) ?_));refine AB Z Z (AC (AD (AD (AF (AB Z Z (AC (AX (BC (α:=Nat) (λj=>⟨110,[(1,(.ptr 1 0 0)),(7,(.d (.sl none (T.map Bn)))),(8,(.d (AE (j:Int))))],[(1,[.blk 93 [.d (AE i.id),.d (AE i.pr),.d (AE i.sq),.d (.sl none (i.po.map B9)),.d (.sl none (i.pa.map Co)),.d (.sl none (i.af.map AE))]])]⟩) (λj=>j<=T.length/\∀r∈T.take j,-Mx<=Ai (jt i) r/\Ai (jt i) r<=Mx) (λj=>T.length-j) (0) (⟨κ _,by simp⟩) (AR t [1] Z Z ⟨Z,Z,Z,trivial⟩) ?_))))))));rintro j ⟨hj0,Y⟩;refine AD (AD (AF (cl Z Z (cl Z Z (J (BW Z Ri Z) (J (At Z Z Z) (AC (A4 Z (λu=>?_) (λu=>?_)))))))))
          .have c:j<T.length:=BG u;refine AU (AD (AX (AD (Bm [[],[],[],[1,2],[1,2,3],rg 5,rg 6] mixed Z (BY ?_)))));have f:M6 i T[j]=Ai (jt i) T[j]:=RQ (aB C B (by rw[A];exact ϑ c));refine Ay [1] Z Z (λ_=>A9 (Ar Z Z Ev Z Z Z)) (A7 7 Z Z (A7 8 Z Z (AK [99,100] Z (Al (j) Z Z (Z) (AP c) Ri Z KN Z) (AK [101] Z (CT Z Z C4 Z) (BR 5 Z Z Z (AZ 6 Z Z (J (Ak (U7 i T[j] M) Z Z) (AC ⟨Z,?_⟩))))))));refine AZ 7 Z Z (AB Z Z (AC ⟨Z,?_⟩));refine Bb (AD (AF (cl Z Z (J (At Z Z Z) (cl Z Z (C5 106 Z (λH=>?_) (λH=>?_)))))))
           .refine AN Z Z Z Z ?_;refine AN Z Z Z Z (J (B4 Z Z Z Z) (AC (CM Z Z (AD (AF (AB Z Z (AC (A5 ?_))))))));exact ⟨_,[],[],A2 Z,Z,Z,Ae (by have h:=Nk (i:=i) (r:=T[j]) (by rw[A];exact ϑ c) (by rw[<-f];simp only[Mx];omega);rw[a,BP,ϱ s,BP,υ (by rw[<-h];decide),<-h]),Z⟩
           .refine AT Z Z Z (cl Z Z (AT Z Z Z (J (H1 Z Z Z) (J (Br Z Z Z Z) (AC (A4 Z (λG=>?_) (λG=>?_)))))))
            .refine AD (AF (AB Z Z (AC (A5 ?_))));exact ⟨_,[],[],A2 Z,Z,Z,Ae (by have h:=Nk (i:=i) (r:=T[j]) (by rw[A];exact ϑ c) (by rw[<-f];simp only[Mx];omega);rw[a,BP,ϱ s,BP,υ (by rw[<-h];decide),<-h]),Z⟩
            .refine AU (AF (cl Z Z (J (Ac Z Z (AJ (j+1) (by omega)) Z) (AB Z Z (AC ?_)))));exact ⟨j+1,⟨by show j+1<=_;omega,by rw[ψ c];intro r g;rcases ν.1 g with g | g;exact Y r g;rw[ξ.1 g,<-f];simp only[Mx];omega⟩,by show T.length-(j+1)<T.length-j;omega,AR t [1] Z (Z) ⟨Z,Z,Z,trivial⟩⟩
          .refine Aq (AD (AF (AB Z Z (AC (A5 ?_)))));exact ⟨_,[],[],A2 Z,Z,Z,Ae (by have h:=qS (i:=i) (λr g=>Y r (by rw[ζ (by have h:=u;omega),<-A];exact g));rw[a,BP,ϱ s,BP,ϱ h.symm];rfl),Z⟩
deriving instance DecidableEq for Fa
deriving instance DecidableEq for NN
deriving instance DecidableEq for dr
deriving instance DecidableEq for gf
theorem Fa.eq_iff{x y:Fa}:x=y↔x.acc=y.acc/\x.d=y.d:=by cases x;cases y;simp
theorem NN.eq_iff{x y:NN}:x=y↔x.f=y.f/\x.t=y.t/\x.n=y.n:=by cases x;cases y;simp
theorem gf.eq_iff{x y:gf}:x=y↔x.r=y.r/\x.n=y.n:=by cases x;cases y;simp
theorem dr.eq_iff{x y:dr}:x=y↔x.id=y.id/\x.pr=y.pr/\x.sq=y.sq/\x.po=y.po/\x.pa=y.pa/\x.af=y.af:=by cases x;cases y;simp
theorem y9{p:Prop}[Decidable p](h:z=decide p):(!z)=decide (¬p):=by rw[h];simp
abbrev pA(T:TypeId)(i:dr):AM:= .blk T [.d (AE i.id),.d (AE i.pr),.d (AE i.sq),.d (.sl none (i.po.map B9)),.d (.sl none (i.pa.map Co)),.d (.sl none (i.af.map AE))]
theorem Ox(r:AW):AI prog 49 [.d (Bn r)] (AE (Bs r)):=by
 refine Av func49 Z Z ntmps49 Z Z Z λF x=>(AD (AF (V (Ba 1 Z Z Z Z Z Z Z) (AB Z Z (AC (AD (AF (J (AL Z Ed Z Z Z) ?_))))))));refine J (Ar Z Z aU Z Z Z) (J (Dx xV xn Z Z Z) (J (Ft (la:=Nv r.acc) (lb:=Nv Tj) (ds:=jN) (by kernel_rfl) (by kernel_rfl) (by kernel_rfl) Z Z Z Z (Dv _) (Dv _) (O1 _ _) Z) (AB Z Z (AC (AD (AD (AF (J (AL Z Gk Z Z Z) ?_))))))));refine J (AQ Z Z Z Ag Z) (AC (AX (AD (AF (J (GW Z Z Z) (AB Z Z (AC (A4 Z (λw=>?_) (λw=>?_)))))))));refine AD (AF (J (AL Z Ed Z Z Z) (J (AL Z TF Z Z Z) (J (AQ Z Z Z CZ Z) (J (Kn Z Z Z) (cl Z Z (C5 16 Z (λv=>?_) (λv=>?_))))))));refine AN Z Z Z Z (AN Z Z Z Z ?_);refine AN Z Z Z Z (AN Z Z Z Z (J (B4 Z Z Z Z) (cl Z Z (AN Z Z Z Z (AN Z Z Z Z (AN Z Z Z Z (AN Z Z Z Z (J (B4 Z Z Z Z) ?_))))))));refine cl Z Z (AN Z Z Z Z (AN Z Z Z Z (AN Z Z Z Z (AN Z Z Z Z (J (B4 Z Z Z Z) (cl Z Z (AN Z Z Z Z (AN Z Z Z Z ?_))))))));refine AN Z Z Z Z (J (B4 Z Z Z Z) (cl Z Z (AN Z Z Z Z (AN Z Z Z Z (AN Z Z Z Z (J (B4 Z Z Z Z) (AC (CM Z Z ?_))))))))
 rotate_left
 refine AT Z Z Z (J (AL Z Ed Z Z Z) ?_);refine AT Z Z Z (J (AL Z Mu Z Z Z) (AT Z Z Z (J (AQ Z Z Z CZ Z) (AT Z Z Z (J (Kn Z Z Z) (J (Br Z Z Z Z) (cl Z Z (C5 22 Z (λu=>?_) (λu=>?_)))))))));refine AN Z Z Z Z (AN Z Z Z Z (AN Z Z Z Z (AN Z Z Z Z (J (B4 Z Z Z Z) ?_))));refine cl Z Z (AN Z Z Z Z (AN Z Z Z Z (AN Z Z Z Z (AN Z Z Z Z (J (B4 Z Z Z Z) (cl Z Z (AN Z Z Z Z (AN Z Z Z Z ?_))))))));refine AN Z Z Z Z (J (B4 Z Z Z Z) (cl Z Z (AN Z Z Z Z (AN Z Z Z Z (AN Z Z Z Z (J (B4 Z Z Z Z) (AC (CM Z Z ?_))))))))
 rotate_left
 refine AT Z Z Z (J (AL Z Ed Z Z Z) ?_);refine AT Z Z Z (J (AL Z Mv Z Z Z) (AT Z Z Z (J (AQ Z Z Z Ag Z) (AT Z Z Z (J (At Z Z Z) (J (Br Z Z Z Z) (cl Z Z (C5 28 Z (λt=>?_) (λt=>?_)))))))));refine AN Z Z Z Z (AN Z Z Z Z (AN Z Z Z Z (AN Z Z Z Z (J (B4 Z Z Z Z) (cl Z Z (AN Z Z Z Z (AN Z Z Z Z ?_)))))));refine AN Z Z Z Z (J (B4 Z Z Z Z) (cl Z Z (AN Z Z Z Z (AN Z Z Z Z (AN Z Z Z Z (J (B4 Z Z Z Z) (AC (CM Z Z ?_))))))))
 rotate_left
 refine AT Z Z Z (J (AL Z Ed Z Z Z) ?_);refine AT Z Z Z (J (AL Z Mv Z Z Z) (AT Z Z Z (J (AQ Z Z Z Ag Z) (AT Z Z Z (J (H1 Z Z Z) (J (Br Z Z Z Z) (cl Z Z (C5 34 Z (λs=>?_) (λs=>?_)))))))));refine AN Z Z Z Z (AN Z Z Z Z ?_);refine AN Z Z Z Z (J (B4 Z Z Z Z) (cl Z Z (AN Z Z Z Z (AN Z Z Z Z (AN Z Z Z Z (J (B4 Z Z Z Z) (AC (CM Z Z ?_))))))))
 rotate_left
 refine AT Z Z Z (J (AL Z FN Z Z Z) (AT Z Z Z (J (AQ Z Z Z CZ Z) (AT Z Z Z (J (DU Z Z Z) (J (Br Z Z Z Z) (cl Z Z (C5 39 Z (λo=>?_) (λo=>?_)))))))));refine AN Z Z Z Z (AN Z Z Z Z (AN Z Z Z Z (J (B4 Z Z Z Z) (AC (CM Z Z ?_)))))
 rotate_left
 refine AT Z Z Z (J (AL Z FM Z Z Z) (AT Z Z Z (J (AQ Z Z Z CZ Z) (AT Z Z Z (J (DU Z Z Z) (J (Br Z Z Z Z) (AC (A4 Z (λl=>?_) (λl=>?_)))))))))
 rotate_left
 refine AU ?_
 rotate_left
 refine AD (AF (J (GW Z Z Z) (AB Z Z (AC (A4 Z (λk=>?_) (λk=>?_))))));refine AD (AF (cl Z Z (J (JQ Z Z) (cl Z Z (C5 48 Z (λj=>?_) (λj=>?_))))));refine AN Z Z Z Z (AN Z Z Z Z (AN Z Z Z Z (J (B4 Z Z Z Z) (cl Z Z (AN Z Z Z Z (AN Z Z Z Z (AN Z Z Z Z (J (B4 Z Z Z Z) ?_))))))));refine cl Z Z (AN Z Z Z Z (AN Z Z Z Z (AN Z Z Z Z (AN Z Z Z Z (AN Z Z Z Z (J (B4 Z Z Z Z) (AC (CM Z Z ?_))))))))
 rotate_left
 refine AT Z Z Z (J (AL Z FN Z Z Z) (AT Z Z Z (J (AQ Z Z Z CZ Z) (AT Z Z Z (J (Kn Z Z Z) (J (Br Z Z Z Z) (cl Z Z (C5 53 Z (λi=>?_) (λi=>?_)))))))));refine AN Z Z Z Z (AN Z Z Z Z (AN Z Z Z Z (J (B4 Z Z Z Z) ?_)));refine cl Z Z (AN Z Z Z Z (AN Z Z Z Z (AN Z Z Z Z (AN Z Z Z Z (AN Z Z Z Z (J (B4 Z Z Z Z) (AC (CM Z Z ?_))))))))
 rotate_left
 refine AT Z Z Z (J (AL Z FM Z Z Z) (AT Z Z Z (J (AQ Z Z Z CZ Z) (AT Z Z Z (J (Kn Z Z Z) (J (Br Z Z Z Z) (cl Z Z (C5 58 Z (λh=>?_) (λh=>?_)))))))));refine AN Z Z Z Z (AN Z Z Z Z (AN Z Z Z Z (AN Z Z Z Z (AN Z Z Z Z (J (B4 Z Z Z Z) (AC (CM Z Z ?_)))))))
 rotate_left
 refine AT Z Z Z (J (AL Z FN Z Z Z) (AT Z Z Z (J (AQ Z Z Z CZ Z) ?_)));refine AT Z Z Z (J (AL Z FM Z Z Z) (AT Z Z Z (J (AQ Z Z Z CZ Z) (AT Z Z Z (J (Kn Z Z Z) (J (Br Z Z Z Z) (AC (A4 Z (λg=>?_) (λg=>?_)))))))))
 rotate_left
 refine AU ?_
 rotate_left
 refine AD (AF (J (GW Z Z Z) (AB Z Z (AC (A4 Z (λf=>?_) (λf=>?_))))));refine AD (AF (cl Z Z (J (JQ Z Z) (cl Z Z (C5 69 Z (λc=>?_) (λc=>?_))))));refine AN Z Z Z Z (AN Z Z Z Z ?_);refine AN Z Z Z Z (J (B4 Z Z Z Z) (cl Z Z (AN Z Z Z Z (AN Z Z Z Z (AN Z Z Z Z (J (B4 Z Z Z Z) (AC (CM Z Z ?_))))))))
 rotate_left
 refine AT Z Z Z (J (AL Z FN Z Z Z) (AT Z Z Z (J (AQ Z Z Z CZ Z) (AT Z Z Z (J (Kn Z Z Z) (J (Br Z Z Z Z) (cl Z Z (C5 74 Z (λb=>?_) (λb=>?_)))))))));refine AN Z Z Z Z (AN Z Z Z Z (AN Z Z Z Z (J (B4 Z Z Z Z) (AC (CM Z Z ?_)))))
 rotate_left
 refine AT Z Z Z (J (AL Z FM Z Z Z) (AT Z Z Z (J (AQ Z Z Z CZ Z) (AT Z Z Z (J (DU Z Z Z) (J (Br Z Z Z Z) (AC (A4 Z (λa=>?_) (λa=>?_)))))))))
 rotate_left
 refine AU ?_
 rotate_left
 all_goals
  refine AD (AF (AB Z Z (AC (A5 ?_))));exact ⟨_,[],[],A2 Z,Z,Z,Ae (by unfold Bs;simp_all<;>(intros;omega)),Z⟩
theorem sQ(i:dr)(r:AW)(j:i.po.length<=1000)(g:i.pa.length<=1000)(f:i.af.length<=1000):AI prog 94 [.d (Ah i),.d (Bn r)] (AE (BN i r)):=by
 by_cases c:Az i=0
 .have k:=(FD c).1;have a:=KR i j g f;rw[c] at a;refine Av func94 Z Z ntmps94 Z Z Z λF o=>(AD (AF (V (Ba 1 Z Z Z Z Z Z Z) (V (Ba 2 Z Z Z Z Z Z Z) (AB Z Z ?_)))));refine AC (AD (AD (AF (J (Ar Z Z Ev Z Z Z) (J (Ak (a) Z Z) (J (DP Z Z Z) (cl Z Z (Il 8 Z (by decide) ?_))))))));refine AT Z Z Z (J (Ar Z Z C4 Z Z Z) (AT Z Z Z (J (Ak (Ox r) Z Z) (AT Z Z Z (J (DP Z Z Z) (J (Br Z Z Z Z) (AC (A4 Z (λb=>?_) (λb=>?_)))))))))
  .refine AD (AF (AB Z Z (AC (A5 ?_))));exact ⟨_,[],[],A2 Z,Z,Z,Ae (by rw[BN,υ];simp_all),Z⟩
  .refine AU (AD (AF (J (Ar Z Z Ev Z Z Z) (J (Ar Z Z C4 Z Z Z) (J (Ak (U7 i r k) Z Z) (AB Z Z (AC (A5 ?_))))))));exact ⟨_,[],[],A2 Z,Z,Z,Ae (by rw[BN,ϱ ⟨c,by simpa using b⟩,RQ (by simpa using b)]),Z⟩
 .have a:=KR i j g f;have l:BN i r=0:=υ λh=>c h.1;rw[l];refine Av func94 Z Z ntmps94 Z Z Z λF o=>(AD (AF (V (Ba 1 Z Z Z Z Z Z Z) (V (Ba 2 Z Z Z Z Z Z Z) (AB Z Z (AC (AD ?_)))))));refine AD (AF (J (Ar Z Z Ev Z Z Z) (J (Ak (a) Z Z) (J (DP Z Z Z) (cl Z Z (DK 8 Z ((by simpa using c)) (AN Z Z Z Z (AN Z Z Z Z ?_))))))));refine AN Z Z Z Z (J (B4 Z Z Z Z) (AC (CM Z Z (AD (AF (AB Z Z (AC (A5 ?_))))))));exact ⟨_,[],[],A2 Z,Z,Z,Z,Z⟩
theorem cT(b:k<c.length):(c.take (k+1)).filter f=(c.take k).filter f++(if f c[k] then [c[k]] else []):=by
 rw[ψ b,mB]
 grind
abbrev Aj(b:Bool):D:= .raw (.bool b)
def Aw{α:Type}(l:List α):List (α×Bool):=l.map λa=>(a,true)
theorem Zh[DecidableEq a](l:List a)(c:a):Af (Aw l) c false=decide (c∈l):=by
 induction l with
 | nil=>rfl
 | cons b l f=>
  grind[Aw,Af]
theorem jU[DecidableEq a]{f:a}(h:f∉c):B2 (Aw c) f true=Aw (c++ [f]):=by
 induction c with
 | nil=>rfl
 | cons b c g=>
  grind[Aw,B2]
def IU:gf:=⟨⟨0,Tj,[],[]⟩,0⟩
def If(l:List gf)(k:Nat):Int:=if Bs (l.getD k IU).r≠0 then Bs (l.getD k IU).r else if ¬(-4*Mx<=(l.getD k IU).n/\(l.getD k IU).n<=4*Mx) then 12 else if (l.getD k IU).r∈(l.take k).map gf.r then 7 else 0
def Db(l:List gf):Int:=BP ((List.range l.length).map (If l))
theorem EC(d:a)(h:k<c.length):c.getD k d=c[k]:=by rw[Ψ,ω h];rfl
theorem EE(b:k<c.length):(c.take (k+1)).map s=(c.take k).map s++ [s c[k]]:=by rw[ψ b,kA];rfl
theorem oG(p:iB)(u:p.ro.length<=100000):AI prog 129 [.d (BM p)] (AE (Db p.ro)):=by
 refine Av func129 Z Z ntmps129 Z Z Z λF s=>(AD (AF ?_));refine V (Ba 1 Z Z Z Z Z Z Z) (AB Z Z (AC (AD (AF (V (SV 2 Z Z Z Z) (AB Z Z (AC (AD ?_))))))));refine AD (AF (J (AL Z Gm Z Z Z) (J (AQ Z Z Z Uo Z) (J (BW Z b0 Z) (cl Z Z (AC (AX (BC (α:=Nat) (λk=>⟨35,[(3,(.map 2 0)),(9,(.d (.sl none (p.ro.map BT)))),(10,(.d (AE (p.ro.length:Int)))),(11,(.d (AE (k:Int))))],[(2,[B6 Bn Aj (Aw ((p.ro.take k).map gf.r))])]⟩) (λk=>k<=p.ro.length/\Db p.ro=BP (((List.range p.ro.length).drop k).map (If p.ro))) (λk=>p.ro.length-k) (0) (⟨κ _,Z⟩) (AR s [2] Z Z ⟨Z,Z,Z,Z,trivial⟩) ?_))))))));rintro k ⟨t,o⟩;refine AD (AF (J (At Z Z Z) (AC (AD (A4 Z (λi=>?_) (λi=>?_))))))
 .have b:k<p.ro.length:=BG i;refine AU (AD (AX (AD (AF ?_))));have j:=sT b o;have c:=EC IU b;refine J (Al (k) Z Z (Z) (AP b) b0 Z QY Z) ?_;refine J (CT Z Z dm Z) (V (CF 3 Tu Z Z Z Z) (V (Bc Z Z Z Z Z Z Z QY) (AC (AD (AD (AF (J (AL Z GK Z Z Z) (J (Ar Z Z Cw Z Z Z) ?_))))))));refine J (Ak (YG p.ro[k].r) Z Z) (AB Z Z (AC (AD (AF (cl Z Z (J (DP Z Z Z) (AC (A4 Z (λa=>?_) (λa=>?_)))))))))
  .refine AD (AF (cl Z Z (AB Z Z (AC (A5 ?_)))));exact ⟨_,[],[],A2 Z,Z,Z,Ae (j.2 _ (by unfold If;rw[c,ϱ a]) a),Z⟩
  .refine AU (AD (AX ?_));refine AD (AF (J (AL Z TG Z Z Z) (J (AQ Z Z Z FK Z) (J (Ak (H5 _ _ _) Z Z) (J (JQ Z Z) (AB Z Z (AC (A4 Z (λl=>?_) (λl=>?_)))))))))
   .refine AD (AF (AB Z Z (AC (A5 ?_))));exact ⟨_,[],[],A2 Z,Z,Z,Ae (j.2 12 (by unfold If;rw[c,υ a,ϱ (by simp only[Mx];omega)]) (by decide)),Z⟩
   .refine AD (AF (cl Z Z (J (AL Z GK Z Z Z) (J (Ar Z Z Cw Z Z Z) (J (I4 (Aw ((p.ro.take k).map gf.r)) (p.ro[k].r) (false) _ Z Z Z Yy Ck W4 Z Z) ?_)))));rw[Zh];refine AB Z Z (AC (A4 Z (λg=>?_) (λg=>?_)))
    .refine AD (AF (AB Z Z (AC (A5 ?_))));exact ⟨_,[],[],A2 Z,Z,Z,Ae (j.2 7 (by unfold If;rw[c,υ a,υ (by simp only[Mx];omega),ϱ g]) (by decide)),Z⟩
    .have f:p.ro[k].r∉(p.ro.take k).map gf.r:=g;refine AU (AF ?_);refine cl Z Z (J (AL Z GK Z Z Z) (J (Ar Z Z Cw Z Z Z) (V (Wa (Aw ((p.ro.take k).map gf.r)) (p.ro[k].r) (true) Z Z Z Yy Ck Z Z) (AC (AF (J (Ac Z Z (AJ (k+1) (by omega)) Z) (cl Z Z (AC ?_))))))));exact ⟨k+1,⟨by show k+1<=_;omega,j.1 (by unfold If;rw[c,υ a,υ (by simp only[Mx];omega),υ f])⟩,by show p.ro.length-(k+1)<p.ro.length-k;omega,AR s [2] Z (by rw[EE b,<-jU f];rfl) ⟨Z,Z,Z,Z,trivial⟩⟩
 .refine Aq (AD (AF (AB Z Z (AC (A5 ?_)))));exact ⟨_,[],[],A2 Z,Z,Z,Ae (by rw[o,nB (by have h:=i;simp only[kj];omega)];rfl),Z⟩
theorem RK{a:Bool}(h:a=z):AV.d (.raw (.bool a))= .d (.raw (.bool z)):=by rw[h]
theorem Hz{b:Type}{p:b->Bool}:∀{l:List b} {k:Nat} (c:k<l.length),(∀x∈l.take k,p x=false)->p l[k]=true->l.findIdx? p=some k
 | a::l,0,_,_,h=>by simp at h;simp[List.findIdx?_cons,h]
 | a::l,k+1,c,f,h=>by
  have i:p a=false:=f a (by simp);have:=Hz (l:=l) (k:=k) (by simpa using c) (λx g=>f x (by simp[g])) (by simpa using h)
  simp[List.findIdx?_cons,i,this]
theorem Ji(h:∀x∈c,f x=false):c.findIdx? f=none:=by
 rw[List.findIdx?_eq_none_iff];exact h
def wh(p:Int->Bool)(l:List Int):Int:=match l.findIdx? p with
 | some k=>k
 | none=> -1
theorem uA{p:Int->Bool}:0<=wh p g↔g.any p=true:=by grind[wh]
abbrev HM(S:List Int):Hp:=[(910,[.blk 137 [.map 911 0]]),(911,[B6 AE Aj (Aw S)])]
def Im(S:List Int)(x:Int):Bool:=!decide (x∈S)
theorem uc(S:List Int)(x:Int):AO prog 131 [.d (AE x),.ptr 910 0 0] (HM S) λr a=>r= .d (Aj (Im S x))/\a=HM S:=by
 refine Av func131 Z Z ntmps131 Z Z Z λF b=>?_;refine AD (AF (AB Z Z (AC (AD (AF (J (AQ Z Z Z Uq Z) (cl Z Z (J (I4 (Aw S) (x) (false) _ Z Z Z FU I2 W4 Z Z) ?_))))))));rw[Zh];refine J (JQ Z Z) (AB Z Z (AC (A5 ?_)));exact ⟨_,[910,911],_,A2 Z,Z,Z,by first | exact RK (by unfold Im;simp) | rfl,rfl⟩
theorem gW(S l:List Int)(s:l.length<=100000000):AO prog 138 [.d (.sl none (l.map AE)),.fn 131 [.ptr 910 0 0]] (HM S) λr o=>r= .d (AE (wh (Im S) l))/\o=HM S:=by
 refine Av func138 Z Z ntmps138 Z Z Z λF i=>(AD (AF (AB Z Z (AC ?_))));refine AD (AD (AF (cl Z Z (J (BW Z E0 Z) (cl Z Z (AC (AX (BC (α:=Nat) (λk=>⟨19,[(0,.d (.sl none (l.map AE))),(1,.fn 131 [.ptr 910 0 0]),(7,(.d (AE (l.length:Int)))),(8,(.d (AE (k:Int))))],HM S⟩) (λk=>k<=l.length/\∀x∈l.take k,Im S x=false) (λk=>l.length-k) (0) (⟨κ _,by simp⟩) (AR i [910,911] Z Z ⟨Z,Z,Z,Z,trivial⟩) ?_))))))));rintro k ⟨j,f⟩;refine AD (AF (J (At Z Z Z) (AC (AD (A4 Z (λg=>?_) (λg=>?_))))))
 .have b:k<l.length:=BG g;refine AU (AD (AX (AD (AF (cl Z Z (AB Z Z (AC (AD ?_))))))));refine AF (cl Z Z (cl Z Z (cl Z Z (J (Al (k) Z Z (Z) (AP b) E0 Z BE Z) (J (BZ Z Z Ag Z) (V (cQ (uc S l[k]) Z [910,911] ⟨Z,Z,trivial⟩ Z Z Z Z Z Z Z Z Z) (AC (Jo Z (λc=>?_) (λc=>?_)))))))))
  .refine AD (AF (cl Z Z (AB Z Z (AC (A5 ?_)))));exact ⟨_,[910,911],_,A2 Z,Z,Z,Ae (by unfold wh;rw[Hz b f (by simpa using c)]),Z⟩
  .refine AU (AF (J (Ac Z Z (AJ (k+1) (by omega)) Z) (cl Z Z (AC ?_))));exact ⟨k+1,⟨by show k+1<=_;omega,by rw[ψ b];intro x a;rcases ν.1 a with a | a;exact f x a;rw[ξ.1 a];simpa using c⟩,by show l.length-(k+1)<l.length-k;omega,AR i [910,911] Z (Z) ⟨Z,Z,Z,Z,trivial⟩⟩
 .refine Aq (AD (AF (AB Z Z (AC (A5 ?_)))));exact ⟨_,[910,911],_,A2 Z,Z,Z,Ae (by unfold wh;rw[Ji (λx a=>f x (by rw[ζ (by have h:=g;omega)];exact a))]),Z⟩
theorem Vw(S l:List Int)(a:l.length<=100000000):AO prog 130 [.d (.sl none (l.map AE)),.fn 131 [.ptr 910 0 0]] (HM S) λr b=>r= .d (Aj (l.any (Im S)))/\b=HM S:=by
 refine Av func130 Z Z ntmps130 Z Z Z λF c=>(AD (AF (AB Z Z (AC ?_))));refine AD (AF (cl Z Z (cl Z Z (V (F8 (gW S l a) Z [910,911] ⟨Z,Z,trivial⟩ Z Z Z Z Z Z Z Z Z) (J (EH Z Z Z) (AB Z Z (AC (A5 ?_))))))));exact ⟨_,[910,911],_,A2 Z,Z,Z,RK (by rw[nH,lh];exact uA),Z⟩
def ey:dr:=⟨0,0,0,[],[],[]⟩
def K7(l:List dr)(k:Nat):Int:=if Az (l.getD k ey)≠0 then Az (l.getD k ey) else if (l.getD k ey).id∈(l.take k).map dr.id\/(l.getD k ey).sq∈(l.take k).map dr.sq then 7 else 0
def FL(l:List dr):Int:=BP ((List.range l.length).map (K7 l))
def Qb(S:List Int)(i:dr):Int:=if i.af.any (Im S)=true then 9 else 0
def QK(l:List dr):Int:=BP (l.map (Qb (l.map dr.id)))
def Ad(p:iB):Int:=if 4096<p.it.length\/16384<p.ro.length then 8 else BP [Db p.ro,FL p.it,QK p.it]
theorem PA(h:¬(4096<t.it.length\/16384<t.ro.length))(a:Db t.ro≠0):Db t.ro=Ad t:=by grind[Ad,BP]
theorem M9(a:¬(4096<t.it.length\/16384<t.ro.length))(f:Db t.ro=0)(c:h=FL t.it)(b:h≠0):h=Ad t:=by grind[Ad,BP]
theorem Sh(a:¬(4096<t.it.length\/16384<t.ro.length))(f:Db t.ro=0)(c:FL t.it=0)(b:h=QK t.it):h=Ad t:=by grind[Ad,BP]
def FE(p:iB):Prop:=p.ro.length<=100000/\p.it.length<=100000/\∀i∈p.it,i.po.length<=100000/\i.pa.length<=100000/\i.af.length<=100000
theorem GA(p:iB)(G:FE p):AI prog 75 [.d (BM p)] (AE (Ad p)):=by
 obtain ⟨H,I,E⟩:=G;refine Av func75 Z Z ntmps75 Z Z Z λF v=>(AD (AF (V (Ba 1 Z Z Z Z Z Z Z) (AB Z Z (AC ?_)))));refine AD (AD (AF (J (AL Z FO Z Z Z) (J (AQ Z Z Z Md Z) (J (BW Z Qs Z) (J (H1 Z Z Z) (cl Z Z (C5 15 Z (λB=>?_) (λB=>?_)))))))))
 .refine AN Z Z Z Z (AN Z Z Z Z (AN Z Z Z Z ?_));refine AN Z Z Z Z (J (B4 Z Z Z Z) (AC (CM Z Z (AD (AF (AB Z Z (AC (A5 ?_))))))));exact ⟨_,[],[],A2 Z,Z,Z,Ae (by unfold Ad;rw[ϱ (by omega)]),Z⟩
 .refine AT Z Z Z (J (AL Z Gm Z Z Z) ?_);refine AT Z Z Z (J (AQ Z Z Z Uo Z) (AT Z Z Z (J (BW Z b0 Z) (AT Z Z Z (J (H1 Z Z Z) (J (Br Z Z Z Z) (AC (A4 Z (λA=>?_) (λA=>?_)))))))))
  .refine AD (AF (AB Z Z (AC (A5 ?_))));exact ⟨_,[],[],A2 Z,Z,Z,Ae (by unfold Ad;rw[ϱ (by omega)]),Z⟩
  .refine AU (AD (AD ?_));have c:¬(4096<p.it.length\/16384<p.ro.length):=by omega
   refine AF (J (Ar Z Z CG Z Z Z) ?_);refine J (Ak (oG p H) Z Z) (AB Z Z (AC (AD (AF (cl Z Z (J (DP Z Z Z) (AC (A4 Z (λs=>?_) (λs=>?_)))))))))
   .refine AD (AF (cl Z Z (AB Z Z (AC (A5 ?_)))));exact ⟨_,[],[],A2 Z,Z,Z,Ae (PA c s),Z⟩
   .refine AU (AD ?_);have f:Db p.ro=0:=by simpa using s
    refine AF (V (SV 2 Z Z Z Z) (V (SV 3 Z Z Z Z) (V (CF 4 rL Z Z Z Z) (V (Bc Z Z Z Z Z Z Z rT) (AB Z Z (AC (AD ?_)))))));refine AD (AF (J (AL Z FO Z Z Z) (J (AQ Z Z Z Md Z) (J (BW Z Qs Z) (cl Z Z (AC (AX (BC (α:=Nat) (λk=>⟨69,[(1,(.ptr 1 0 0)),(4,(.ptr 4 0 0)),(5,(.map 3 0)),(29,(.d (.sl none (p.it.map Ah)))),(30,(.d (AE (p.it.length:Int)))),(31,(.d (AE (k:Int))))],[(1,[.blk 39 [.d (.sl none (p.ro.map BT)),.d (.sl none (p.it.map Ah))]]),(4,[.blk 137 [.map 2 0]]),(2,[B6 AE Aj (Aw ((p.it.take k).map dr.id))]),(3,[B6 AE Aj (Aw ((p.it.take k).map dr.sq))])]⟩) (λk=>k<=p.it.length/\FL p.it=BP (((List.range p.it.length).drop k).map (K7 p.it))) (λk=>p.it.length-k) (0) (⟨κ _,Z⟩) (AR v [1,4,2,3] Z Z ⟨Z,Z,Z,Z,Z,Z,trivial⟩) ?_))))))));rintro k ⟨w,t⟩;refine AD (AF (J (At Z Z Z) (AC (AD (A4 Z (λi=>?_) (λi=>?_))))))
    .have a:k<p.it.length:=BG i;refine AU (AD (AX (AD (AF ?_))));have l:=sT a t;have g:=EC ey a;have x:=E _ (ϑ a);refine J (Al (k) Z Z (Z) (AP a) Qs Z DT Z) (J (CT Z Z Cc Z) (V (CF 5 Fk Z Z Z Z) (V (Bc Z Z Z Z Z Z Z DT) (AC (AD (AD (AF (J (Ar Z Z Cc Z Z Z) ?_))))))));refine J (Ak (Lu p.it[k] (by omega) (by omega) (by omega)) Z Z) (AB Z Z (AC (AD (AF (cl Z Z (J (DP Z Z Z) (AC (A4 Z (λb=>?_) (λb=>?_)))))))))
     .refine AD (AF (cl Z Z (AB Z Z (AC (A5 ?_)))));exact ⟨_,[],[],A2 Z,Z,Z,Ae (M9 c f (l.2 _ (by unfold K7;rw[g,ϱ b]) b) b),Z⟩
     .refine AU (AD (AD (AF (J (AQ Z Z Z Uq Z) (J (AL Z QU Z Z Z) (J (AQ Z Z Z Ag Z) (J (I4 (Aw ((p.it.take k).map dr.id)) (p.it[k].id) (false) _ Z Z Z FU I2 W4 Z Z) ?_)))))));rw[Zh];refine cl Z Z (C5 44 Z (λz=>?_) (λz=>?_))
      .refine AN Z Z Z Z (AN Z Z Z Z (AN Z Z Z Z ?_));refine AN Z Z Z Z (J (B4 Z Z Z Z) (AC (CM Z Z (AD (AF (AB Z Z (AC (A5 ?_))))))));exact ⟨_,[],[],A2 Z,Z,Z,Ae (M9 c f (l.2 7 (by unfold K7;rw[g,υ b,ϱ (by simp_all)]) (by decide)) (by decide)),Z⟩
      .refine AT Z Z Z (cl Z Z (AT Z Z Z (J (AL Z Pp Z Z Z) (AT Z Z Z (J (AQ Z Z Z Ag Z) (AT Z Z Z (J (I4 (Aw ((p.it.take k).map dr.sq)) (p.it[k].sq) (false) _ Z Z Z FU I2 W4 Z Z) ?_)))))));rw[Zh];refine J (Br Z Z Z Z) (AC (A4 Z (λy=>?_) (λy=>?_)))
       .refine AD (AF (AB Z Z (AC (A5 ?_))));exact ⟨_,[],[],A2 Z,Z,Z,Ae (M9 c f (l.2 7 (by unfold K7;rw[g,υ b,ϱ (by simp_all)]) (by decide)) (by decide)),Z⟩
       .refine AU ?_;have D:p.it[k].id∉(p.it.take k).map dr.id:=by simp_all
        have C:p.it[k].sq∉(p.it.take k).map dr.sq:=by simp_all
        refine Bm [[],[],[1],[],[],[4],[0,1,2],rg 7] mixed Z (BY (A1 [4] [4,2] Z Z (λ_=>A9 (AQ Z Z Z Uq Z)) (AK [7] Z (AL Z QU Z Z Z) ?_)));refine A1 [51] [5] Z Z (λ_=>A9 (AQ Z Z Z Ag Z)) (A7 5 Z Z (AK [7] Z (AL Z Pp Z Z Z) (A1 [54] [5] Z Z (λ_=>A9 (AQ Z Z Z Ag Z)) (Cq [50,52] [2] [] Z Z (λ_=>Cd (Wa (Aw ((p.it.take k).map dr.id)) (p.it[k].id) (true) Z Z Z FU I2 Z Z)) (.inl ⟨Z,Z⟩) Z Z Z Z Z (BR 7 Z Z Z (AZ 8 Z Z (V (Wa (Aw ((p.it.take k).map dr.sq)) (p.it[k].sq) (true) Z Z Z FU I2 Z Z) (AC ⟨Z,?_⟩))))))));refine Bb (AF (J (Ac Z Z (AJ (k+1) (by omega)) Z) (cl Z Z (AC ?_))));exact ⟨k+1,⟨by show k+1<=_;omega,l.1 (by unfold K7;rw[g,υ b,υ (by rintro (h | h);exact D h;exact C h)])⟩,by show p.it.length-(k+1)<p.it.length-k;omega,AR v [1,4,2,3] Z (by rw[EE a,EE a,<-jU D,<-jU C];rfl) ⟨Z,Z,Z,Z,Z,Z,trivial⟩⟩
    .refine Aq (AD (AD ?_));have u:FL p.it=0:=by rw[t,nB (by have h:=i;simp only[kj];omega)];rfl
     have j:p.it.take k=p.it:=ζ (by have h:=i;omega);rw[j];refine AF (J (AL Z FO Z Z Z) (J (AQ Z Z Z Md Z) (J (BW Z Qs Z) (cl Z Z (AC (AX (BC (α:=Nat) (λk=>⟨69,[(4,(.ptr 4 0 0)),(58,(.d (.sl none (p.it.map Ah)))),(59,(.d (AE (p.it.length:Int)))),(60,(.d (AE (k:Int))))],[(4,[.blk 137 [.map 2 0]]),(2,[B6 AE Aj (Aw (p.it.map dr.id))])]⟩) (λk=>k<=p.it.length/\QK p.it=BP ((p.it.drop k).map (Qb (p.it.map dr.id)))) (λk=>p.it.length-k) (0) (⟨κ _,Z⟩) (AR v [4,2] Z Z ⟨Z,Z,Z,Z,trivial⟩) ?_)))))));rintro k ⟨w,t⟩;refine AD (AF (J (At Z Z Z) (AC (AD (A4 Z (λr=>?_) (λr=>?_))))))
     .have a:k<p.it.length:=BG r;refine AU (AD (AX (AD (AF ?_))));have l:=nO a t;have x:=E _ (ϑ a);refine J (Al (k) Z Z (Z) (AP a) Qs Z DT Z) (J (CT Z Z Cc Z) (V (CF 6 Fk Z Z Z Z) (V (Bc Z Z Z Z Z Z Z DT) ?_)));refine AC (AD (AF (J (AL Z GL Z Z Z) (J (AQ Z Z Z BJ Z) (J (ut Z Z) (V (F8 ((Vw (p.it.map dr.id) p.it[k].af (by omega)).by [(910,4),(911,2)] Z) Z [4,2] ⟨Z,Z,trivial⟩ Z Z Z Z Z Z Z Z Z) (AC (Jo Z (λo=>?_) (λo=>?_)))))))))
      .refine AD (AF (AB Z Z (AC (A5 ?_))));exact ⟨_,[],[],A2 Z,Z,Z,Ae (Sh c f u (l.2 9 (by unfold Qb;rw[ϱ (by simpa using o)]) (by decide))),Z⟩
      .refine AU (AF (J (Ac Z Z (AJ (k+1) (by omega)) Z) (cl Z Z (AC ?_))));exact ⟨k+1,⟨by show k+1<=_;omega,l.1 (by unfold Qb;rw[υ (by simpa using o)])⟩,by show p.it.length-(k+1)<p.it.length-k;omega,AR v [4,2] Z (Z) ⟨Z,Z,Z,Z,trivial⟩⟩
     .refine Aq (AD (AF (AB Z Z (AC (A5 ?_)))));exact ⟨_,[],[],A2 Z,Z,Z,Ae (Sh c f u (by rw[t,DZ (by have h:=r;omega)])),Z⟩
abbrev B3(T:TypeId)(p:iB):AM:= .blk T [.d (.sl none (p.ro.map BT)),.d (.sl none (p.it.map Ah))]
theorem Gh(i:k<c.length)(g:B<k)(h:s c[B]=w):w∈(c.take k).map s:=by grind[nD]
theorem HP(g:B<c.length)(h:w∉(c.take B).map s)(i:s c[B]≠w):w∉(c.take (B+1)).map s:=by grind[EE]
theorem tz(h:0<=St y g):y∈g:=by grind[St]
theorem oz(h:St y g<0):y∉g:=by grind[St]
theorem Pg(p:iB)(id:Int)(j:p.it.length<=100000):AI prog 51 [.d (BM p),.d (AE id)] (AE (St id (p.it.map dr.id))):=by
 refine Av func51 Z Z ntmps51 Z Z Z λF g=>(AD (AF (V (Ba 1 Z Z Z Z Z Z Z) ?_)));refine AB Z Z (AC (AD (AD (AF (AB Z Z (AC (AX (BC (α:=Nat) (λk=>⟨22,[(1,.d (AE id)),(2,(.ptr 1 0 0)),(5,(.d (AE (k:Int))))],[(1,[B3 25 p])]⟩) (λk=>k<=p.it.length/\id∉(p.it.take k).map dr.id) (λk=>p.it.length-k) (0) (⟨κ _,by simp⟩) (AR g [1] Z Z ⟨Z,Z,Z,trivial⟩) ?_))))))));rintro k ⟨i,f⟩;refine AD ?_;refine AD (AF (cl Z Z (J (AL Z JS Z Z Z) (J (AQ Z Z Z DE Z) (J (BW Z No Z) (J (At Z Z Z) (AC (A4 Z (λc=>?_) (λc=>?_)))))))))
 .have a:k<p.it.length:=BG c;refine AU (AD (AX (AD (AF (J (AL Z JS Z Z Z) ?_)))));refine J (AQ Z Z Z DE Z) (cl Z Z (J (Al (k) Z Z (Z) (AP a) No Z CP Z) (J (IJ Z ST Z Z Z) (J (BZ Z Z Ag Z) (cl Z Z (J (GW Z Z Z) (AC (A4 Z (λb=>?_) (λb=>?_)))))))))
  .refine AD (AF (cl Z Z (AB Z Z (AC (A5 ?_)))));exact ⟨_,[],[],A2 Z,Z,Z,Ae (VY (l:=p.it.map dr.id) (by simpa using a) (by rw[<-List.map_take];exact f) (by rw[kR];exact b.symm)).symm,Z⟩
  .refine AU (AF (cl Z Z (J (Ac Z Z (AJ (k+1) (by omega)) Z) (AB Z Z (AC ?_)))));exact ⟨k+1,⟨by show k+1<=_;omega,HP a f b⟩,by show p.it.length-(k+1)<p.it.length-k;omega,AR g [1] Z (Z) ⟨Z,Z,Z,trivial⟩⟩
 .refine Aq (AD (AF (AB Z Z (AC (A5 ?_)))));exact ⟨_,[],[],A2 Z,Z,Z,Ae (by unfold St;rw[υ (by rw[ζ (by have h:=c;omega)] at f;exact f)]),Z⟩
def xK(p:iB):Prop:=p.it.length<=12/\p.ro.length<=24/\∀i∈p.it,i.po.length<=12/\i.pa.length<=12/\i.af.length<=12
instance (p:iB):Decidable (xK p):=inferInstanceAs (Decidable (_/\_/\∀i∈p.it,_))
theorem nv(p:iB):AI prog 11 [.d (BM p)] (Aj (decide (xK p))):=by
 refine Av func11 Z Z ntmps11 Z Z Z λF s=>(AD (AF (V (Ba 1 Z Z Z Z Z Z Z) (AB Z Z (AC ?_)))));refine AD (AD (AF (J (AL Z JS Z Z Z) (J (AQ Z Z Z DE Z) (J (BW Z No Z) (J (H1 Z Z Z) (cl Z Z (C5 8 Z (λu=>?_) (λu=>?_)))))))))
 .refine AN Z Z Z Z (AN Z Z Z Z (AN Z Z Z Z ?_));refine AN Z Z Z Z (J (B4 Z Z Z Z) (AC (CM Z Z (AD (AF (AB Z Z (AC (A5 ?_))))))));exact ⟨_,[],[],A2 Z,Z,Z,Hf (λh=>by have f:=h.1;have v:=h.2.1;omega),Z⟩
 .refine AT Z Z Z (J (AL Z Kj Z Z Z) ?_);refine AT Z Z Z (J (AQ Z Z Z Dy Z) (AT Z Z Z (J (BW Z F0 Z) (AT Z Z Z (J (H1 Z Z Z) (J (Br Z Z Z Z) (AC (A4 Z (λo=>?_) (λo=>?_)))))))))
  .refine AD (AF (AB Z Z (AC (A5 ?_))));exact ⟨_,[],[],A2 Z,Z,Z,Hf (λh=>by have f:=h.1;have v:=h.2.1;omega),Z⟩
  .refine AU (AD (AD (AF (AB Z Z (AC (AX (BC (α:=Nat) (λk=>⟨49,[(1,(.ptr 1 0 0)),(3,(.d (AE (k:Int))))],[(1,[B3 25 p])]⟩) (λk=>k<=p.it.length/\∀i∈p.it.take k,i.po.length<=12/\i.pa.length<=12/\i.af.length<=12) (λk=>p.it.length-k) (0) (⟨κ _,by simp⟩) (AR s [1] Z Z ⟨Z,Z,trivial⟩) ?_)))))));rintro k ⟨t,r⟩;refine AD ?_;refine AD (AF (cl Z Z (J (AL Z JS Z Z Z) (J (AQ Z Z Z DE Z) (J (BW Z No Z) (J (At Z Z Z) (AC (A4 Z (λc=>?_) (λc=>?_)))))))))
   .have a:k<p.it.length:=BG c;refine AU (AD (AX (AD (AF (J (AL Z JS Z Z Z) ?_)))));refine J (AQ Z Z Z DE Z) (cl Z Z (J (Al (k) Z Z (Z) (AP a) No Z CP Z) (J (IJ Z DB Z Z Z) (J (BZ Z Z Ik Z) (J (BW Z R5 Z) (J (H1 Z Z Z) (cl Z Z (C5 29 Z (λl=>?_) (λl=>?_)))))))))
    .refine AN Z Z Z Z (AN Z Z Z Z (AN Z Z Z Z (AN Z Z Z Z (AN Z Z Z Z (AN Z Z Z Z (AN Z Z Z Z (AN Z Z Z Z ?_)))))));refine J (B4 Z Z Z Z) (cl Z Z (AN Z Z Z Z (AN Z Z Z Z (AN Z Z Z Z (AN Z Z Z Z (AN Z Z Z Z (AN Z Z Z Z (AN Z Z Z Z ?_))))))));refine AN Z Z Z Z (J (B4 Z Z Z Z) (AC (CM Z Z (AD (AF (AB Z Z (AC (A5 ?_))))))));exact ⟨_,[],[],A2 Z,Z,Z,Hf (λh=>by have f:=h.2.2 _ (ϑ a);omega),Z⟩
    .refine AT Z Z Z ?_;refine J (AL Z JS Z Z Z) (AT Z Z Z (J (AQ Z Z Z DE Z) (AT Z Z Z (cl Z Z (AT Z Z Z (J (Al (k) Z Z (Z) (AP a) No Z CP Z) (AT Z Z Z (J (IJ Z Gl Z Z Z) ?_))))))));refine AT Z Z Z (J (BZ Z Z Q3 Z) (AT Z Z Z (J (BW Z an Z) (AT Z Z Z (J (H1 Z Z Z) (J (Br Z Z Z Z) (cl Z Z (C5 39 Z (λj=>?_) (λj=>?_)))))))))
     .refine AN Z Z Z Z (AN Z Z Z Z (AN Z Z Z Z (AN Z Z Z Z (AN Z Z Z Z (AN Z Z Z Z (AN Z Z Z Z ?_))))));refine AN Z Z Z Z (J (B4 Z Z Z Z) (AC (CM Z Z (AD (AF (AB Z Z (AC (A5 ?_))))))));exact ⟨_,[],[],A2 Z,Z,Z,Hf (λh=>by have f:=h.2.2 _ (ϑ a);omega),Z⟩
     .refine AT Z Z Z ?_;refine J (AL Z JS Z Z Z) (AT Z Z Z (J (AQ Z Z Z DE Z) (AT Z Z Z (cl Z Z (AT Z Z Z (J (Al (k) Z Z (Z) (AP a) No Z CP Z) (AT Z Z Z (J (IJ Z Tk Z Z Z) ?_))))))));refine AT Z Z Z (J (BZ Z Z BJ Z) (AT Z Z Z (J (BW Z E0 Z) (AT Z Z Z (J (H1 Z Z Z) (J (Br Z Z Z Z) (AC (A4 Z (λg=>?_) (λg=>?_)))))))))
      .refine AD (AF (AB Z Z (AC (A5 ?_))));exact ⟨_,[],[],A2 Z,Z,Z,Hf (λh=>by have f:=h.2.2 _ (ϑ a);omega),Z⟩
      .refine AU (AF (cl Z Z (J (Ac Z Z (AJ (k+1) (by omega)) Z) (AB Z Z (AC ?_)))));exact ⟨k+1,⟨by show k+1<=_;omega,by rw[ψ a];intro i b;rcases ν.1 b with b | b;exact r i b;rw[ξ.1 b];omega⟩,by show p.it.length-(k+1)<p.it.length-k;omega,AR s [1] Z (Z) ⟨Z,Z,trivial⟩⟩
   .refine Aq (AD (AF (AB Z Z (AC (A5 ?_)))));exact ⟨_,[],[],A2 Z,Z,Z,Sf ⟨by omega,by omega,λi b=>r i (by rw[ζ (by have h:=c;omega)];exact b)⟩,Z⟩
theorem U5(p:iB)(g1:p.ro.length<=1000)(g2:p.it.length<=1000)(g3:∀i∈p.it,i.po.length<=1000/\i.pa.length<=1000/\i.af.length<=1000):AI prog 14 [.d (BM p)] (AE (Ad p)):=by
 refine Av func14 Z Z ntmps14 Z Z Z λF t=>(AD (AF (V (Ba 1 Z Z Z Z Z Z Z) (AB Z Z (AC ?_)))));refine AD (AD (AF (J (AL Z JS Z Z Z) (J (AQ Z Z Z DE Z) (J (BW Z No Z) (J (H1 Z Z Z) (cl Z Z (C5 15 Z (λY=>?_) (λY=>?_)))))))))
 .refine AN Z Z Z Z (AN Z Z Z Z (AN Z Z Z Z ?_));refine AN Z Z Z Z (J (B4 Z Z Z Z) (AC (CM Z Z (AD (AF (AB Z Z (AC (A5 ?_))))))));exact ⟨_,[],[],A2 Z,Z,Z,Ae (by unfold Ad;rw[ϱ (by omega)]),Z⟩
 .refine AT Z Z Z (J (AL Z Kj Z Z Z) ?_);refine AT Z Z Z (J (AQ Z Z Z Dy Z) (AT Z Z Z (J (BW Z F0 Z) (AT Z Z Z (J (H1 Z Z Z) (J (Br Z Z Z Z) (AC (A4 Z (λX=>?_) (λX=>?_)))))))))
  .refine AD (AF (AB Z Z (AC (A5 ?_))));exact ⟨_,[],[],A2 Z,Z,Z,Ae (by unfold Ad;rw[ϱ (by omega)]),Z⟩
  .refine AU (AD (AD ?_));have c:¬(4096<p.it.length\/16384<p.ro.length):=by omega
   refine AF (AB Z Z (AC (AX (BC (α:=Nat) (λk=>⟨151,[(1,(.ptr 1 0 0)),(3,(.d (AE (k:Int))))],[(1,[B3 25 p])]⟩) (λk=>k<=p.ro.length/\Db p.ro=BP (((List.range p.ro.length).drop k).map (If p.ro))) (λk=>p.ro.length-k) (0) (⟨κ _,Z⟩) (AR t [1] Z Z ⟨Z,Z,trivial⟩) ?_))));rintro k ⟨O,C⟩;refine AD ?_;refine AD (AF (cl Z Z (J (AL Z Kj Z Z Z) (J (AQ Z Z Z Dy Z) (J (BW Z F0 Z) (J (At Z Z Z) (AC (A4 Z (λL=>?_) (λL=>?_)))))))))
   .have a:k<p.ro.length:=BG L;refine AU (AD (AX (AD (AD (AF ?_)))));have s:=sT a C;have b:=EC IU a;refine J (AL Z Kj Z Z Z) (J (AQ Z Z Z Dy Z) (cl Z Z (J (Al (k) Z Z (Z) (AP a) F0 Z Bd Z) (J (Jy Z QS Z Z Z) (J (CT Z Z C4 Z) ?_)))));refine J (Ak (Ox p.ro[k].r) Z Z) (AB Z Z (AC (AD (AF (cl Z Z (J (DP Z Z Z) (AC (A4 Z (λf=>?_) (λf=>?_)))))))))
    .refine AD (AF (cl Z Z (AB Z Z (AC (A5 ?_)))));exact ⟨_,[],[],A2 Z,Z,Z,Ae (by have h:=s.2 _ (by unfold If;rw[b,ϱ f]) f;rw[h];exact PA c (by rw[<-h];exact f)),Z⟩
    .refine AU (AD (AD (AF ?_)));refine J (AL Z Kj Z Z Z) (J (AQ Z Z Z Dy Z) (cl Z Z (J (Al (k) Z Z (Z) (AP a) F0 Z Bd Z) (J (IJ Z Jl Z Z Z) (J (BZ Z Z FK Z) (J (At Z Z Z) (cl Z Z (C5 45 Z (λW=>?_) (λW=>?_)))))))))
     .refine AN Z Z Z Z (AN Z Z Z Z (AN Z Z Z Z (AN Z Z Z Z (AN Z Z Z Z (AN Z Z Z Z ?_)))));refine AN Z Z Z Z (J (B4 Z Z Z Z) (AC (CM Z Z (AD (AF (AB Z Z (AC (A5 ?_))))))));exact ⟨_,[],[],A2 Z,Z,Z,Ae (by have h:=s.2 12 (by unfold If;rw[b,υ f,ϱ (by simp only[Mx];omega)]) (by decide);rw[h];exact PA c (by rw[<-h];decide)),Z⟩
     .refine AT Z Z Z (J (AL Z Kj Z Z Z) (AT Z Z Z (J (AQ Z Z Z Dy Z) (AT Z Z Z (cl Z Z (AT Z Z Z (J (Al (k) Z Z (Z) (AP a) F0 Z Bd Z) ?_)))))));refine AT Z Z Z (J (IJ Z Jl Z Z Z) (AT Z Z Z (J (BZ Z Z FK Z) (AT Z Z Z (J (H1 Z Z Z) (J (Br Z Z Z Z) (AC (A4 Z (λU=>?_) (λU=>?_)))))))))
      .refine AD (AF (AB Z Z (AC (A5 ?_))));exact ⟨_,[],[],A2 Z,Z,Z,Ae (by have h:=s.2 12 (by unfold If;rw[b,υ f,ϱ (by simp only[Mx];omega)]) (by decide);rw[h];exact PA c (by rw[<-h];decide)),Z⟩
      .refine AU (AD (AF (AB Z Z (AC (AX (BC (α:=Nat) (λm=>⟨151,[(1,(.ptr 1 0 0)),(3,(.d (AE (k:Int)))),(5,(.d (AE (m:Int))))],[(1,[B3 25 p])]⟩) (λm=>m<=k/\p.ro[k].r∉(p.ro.take m).map gf.r) (λm=>k-m) (0) (⟨κ _,by simp⟩) (AR t [1] Z Z ⟨Z,Z,Z,trivial⟩) ?_))))));rintro m ⟨T,hm⟩;refine AD (AD (AF (cl Z Z (cl Z Z (J (At Z Z Z) (AC (A4 Z (λK=>?_) (λK=>?_))))))))
       .have o:m<k:=BG K;refine AU (AD (AX (AD (Bm [[],[0],[],[0,1,2],[0,1,2,3],rg 5,[],[6],[],[6,7,8],[6,7,8,9],[6,7,8,9,10],rg 12] mixed Z (BY ?_)))));have g:m<p.ro.length:=by omega
        refine AK [1] Z (AL Z Kj Z Z Z) (Ay [59] Z Z (λ_=>A9 (AQ Z Z Z Dy Z)) (A7 5 Z Z (AK [60,61] Z (Al (m) Z Z (Z) (AP g) F0 Z Bd Z) (AK [62] Z (Jy Z QS Z Z Z) (AK [63] Z (CT Z Z C4 Z) (AK [1] Z (AL Z Kj Z Z Z) ?_))))));refine Ay [65] Z Z (λ_=>A9 (AQ Z Z Z Dy Z)) (A7 3 Z Z (AK [66,67] Z (Al (k) Z Z (Z) (AP a) F0 Z Bd Z) (AK [68] Z (Jy Z QS Z Z Z) (AK [69] Z (CT Z Z C4 Z) (BR 12 Z Z Z (AZ 13 Z Z (J (Ft (la:=LB p.ro[m].r) (lb:=LB p.ro[k].r) (ds:=aX) (by kernel_rfl) (by kernel_rfl) (by kernel_rfl) Z Z Z Z (qo _) (qo _) (LA _ _) Z) (AC ⟨Z,?_⟩))))))));refine Bb (A4 Z (λI=>?_) (λI=>?_))
        .refine AD (AF (AB Z Z (AC (A5 ?_))));exact ⟨_,[],[],A2 Z,Z,Z,Ae (by have h:=s.2 7 (by unfold If;rw[b,υ f,υ (by simp only[Mx];omega),ϱ (Gh a o I)]) (by decide);rw[h];exact PA c (by rw[<-h];decide)),Z⟩
        .refine AU (AF (cl Z Z (J (Ac Z Z (AJ (m+1) (by omega)) Z) (AB Z Z (AC ?_)))));exact ⟨m+1,⟨by show m+1<=_;omega,HP g hm I⟩,by show k-(m+1)<k-m;omega,AR t [1] Z (Z) ⟨Z,Z,Z,trivial⟩⟩
       .have v:p.ro[k].r∉(p.ro.take k).map gf.r:=by have e:m=k:=by {have h:=K;omega};subst e;exact hm
        refine Aq (AF (cl Z Z (J (Ac Z Z (AJ (k+1) (by omega)) Z) (AB Z Z (AC ?_)))));exact ⟨k+1,⟨by show k+1<=_;omega,s.1 (by unfold If;rw[b,υ f,υ (by simp only[Mx];omega),υ v])⟩,by show p.ro.length-(k+1)<p.ro.length-k;omega,AR t [1] Z (Z) ⟨Z,Z,trivial⟩⟩
   .refine Aq (AD (AD ?_));have u:Db p.ro=0:=by rw[C,nB (by have h:=L;simp only[kj];omega)];rfl
    refine AF (AB Z Z (AC (AX (BC (α:=Nat) (λk=>⟨151,[(1,(.ptr 1 0 0)),(6,(.d (AE (k:Int))))],[(1,[B3 25 p])]⟩) (λk=>k<=p.it.length/\FL p.it=BP (((List.range p.it.length).drop k).map (K7 p.it))) (λk=>p.it.length-k) (0) (⟨κ _,Z⟩) (AR t [1] Z Z ⟨Z,Z,trivial⟩) ?_))));rintro k ⟨O,C⟩;refine AD ?_;refine AD (AF (cl Z Z (J (AL Z JS Z Z Z) (J (AQ Z Z Z DE Z) (J (BW Z No Z) (J (At Z Z Z) (AC (A4 Z (λH=>?_) (λH=>?_)))))))))
    .have a:k<p.it.length:=BG H;refine AU (AD (AX (AD (AD (AF ?_)))));have s:=sT a C;have b:=EC ey a;have B:=g3 _ (ϑ a);refine J (AL Z JS Z Z Z) (J (AQ Z Z Z DE Z) (cl Z Z (J (Al (k) Z Z (Z) (AP a) No Z CP Z) (J (CT Z Z Ev Z) ?_))));refine J (Ak (KR p.it[k] B.1 B.2.1 B.2.2) Z Z) (AB Z Z (AC (AD (AF (cl Z Z (J (DP Z Z Z) (AC (A4 Z (λl=>?_) (λl=>?_)))))))))
     .refine AD (AF (cl Z Z (AB Z Z (AC (A5 ?_)))));exact ⟨_,[],[],A2 Z,Z,Z,Ae (M9 c u (s.2 _ (by unfold K7;rw[b,ϱ l]) l) l),Z⟩
     .refine AU (AD (AF (AB Z Z (AC (AX (BC (α:=Nat) (λm=>⟨151,[(1,(.ptr 1 0 0)),(6,(.d (AE (k:Int)))),(8,(.d (AE (m:Int))))],[(1,[B3 25 p])]⟩) (λm=>m<=k/\p.it[k].id∉(p.it.take m).map dr.id/\p.it[k].sq∉(p.it.take m).map dr.sq) (λm=>k-m) (0) (⟨κ _,by simp,by simp⟩) (AR t [1] Z Z ⟨Z,Z,Z,trivial⟩) ?_))))));rintro m ⟨T,N,M⟩;refine AD (AD (AF (cl Z Z (cl Z Z (J (At Z Z Z) (AC (A4 Z (λG=>?_) (λG=>?_))))))))
      .have o:m<k:=BG G;refine AU (AD (AX (AD (Bm [[],[0],[],[0,1,2],[0,1,2,3],rg 5,[],[6],[],[6,7,8],[6,7,8,9],[6,7,8,9,10],rg 12,rg 13,rg 14,rg 15,rg 14,rg 17,rg 18,rg 19,rg 14,[0,1,2,3,4,5,6,7,8,9,10,11,12,13,20],rg 14,[0,1,2,3,4,5,6,7,8,9,10,11,12,13,20,21,22],[0,1,2,3,4,5,6,7,8,9,10,11,12,13,20,21,22,23],[0,1,2,3,4,5,6,7,8,9,10,11,12,13,20,21,22,23,24],rg 26,rg 27] mixed Z (BY ?_)))));have g:m<p.it.length:=by omega
       refine AK [1] Z (AL Z JS Z Z Z) (Ay [93] Z Z (λ_=>A9 (AQ Z Z Z DE Z)) (A7 8 Z Z (AK [94,95] Z (Al (m) Z Z (Z) (AP g) No Z CP Z) (AK [96] Z (IJ Z ST Z Z Z) (AK [97] Z (BZ Z Z Ag Z) (AK [1] Z (AL Z JS Z Z Z) ?_))))));refine Ay [99] Z Z (λ_=>A9 (AQ Z Z Z DE Z)) (A7 6 Z Z (AK [100,101] Z (Al (k) Z Z (Z) (AP a) No Z CP Z) (AK [102] Z (IJ Z ST Z Z Z) (AK [103] Z (BZ Z Z Ag Z) (BR 12 Z Z Z (AZ 13 Z Z (J (GW Z Z Z) (AC ⟨Z,?_⟩))))))));refine AZ 14 Z Z (cl Z Z (C5 106 Z (λA=>?_) (λA=>?_)))
       .refine AC ⟨Z,?_⟩;refine BY (A1 [1,106] [] Z Z (λ_=>CL Z Z Z Z) (A1 [107,106] [] Z Z (λ_=>CL Z Z Z Z) (A1 [8,106] [] Z Z (λ_=>CL Z Z Z Z) (A1 [108,109,106] [] Z Z (λ_=>CL Z Z Z Z) (A1 [110,106] [] Z Z (λ_=>CL Z Z Z Z) (A1 [111,106] [] Z Z (λ_=>CL Z Z Z Z) (A1 [1,106] [] Z Z (λ_=>CL Z Z Z Z) ?_)))))));refine A1 [113,106] [] Z Z (λ_=>CL Z Z Z Z) (A1 [6,106] [] Z Z (λ_=>CL Z Z Z Z) (A1 [114,115,106] [] Z Z (λ_=>CL Z Z Z Z) (A1 [116,106] [] Z Z (λ_=>CL Z Z Z Z) (A1 [117,106] [] Z Z (λ_=>CL Z Z Z Z) (BR 26 Z Z Z (AZ 27 Z Z (AN Z Z Z Z (AC ⟨Z,?_⟩))))))));refine AZ 28 Z Z (J (B4 Z Z Z Z) (AC ⟨Z,?_⟩));refine Bb (CM Z Z (AD (AF (AB Z Z (AC (A5 ?_))))));exact ⟨_,[],[],A2 Z,Z,Z,Ae (M9 c u (s.2 7 (by unfold K7;rw[b,υ l,ϱ (by first | (exact .inl (Gh a o A)) | (exact .inr (Gh a o (by assumption))))]) (by decide)) (by decide)),rfl⟩
       .refine AC ⟨Z,?_⟩;refine BY (A1 [1,106] [] Z Z (λ_=>BO Z Z Z (AL Z JS Z Z Z)) (Ay [107,106] Z Z (λ_=>BO Z Z Z (AQ Z Z Z DE Z)) (A1 [8,106] [] Z Z (λ_=>BO Z Z Z (FF Z Z)) (A1 [108,109,106] [] Z Z (λ_=>BO Z Z Z (Al (m) Z Z (Z) (AP g) No Z CP Z)) (A1 [110,106] [] Z Z (λ_=>BO Z Z Z (IJ Z Mw Z Z Z)) (A1 [111,106] [] Z Z (λ_=>BO Z Z Z (BZ Z Z Ag Z)) (A1 [1,106] [] Z Z (λ_=>BO Z Z Z (AL Z JS Z Z Z)) (Ay [113,106] Z Z (λ_=>BO Z Z Z (AQ Z Z Z DE Z)) ?_))))))));refine A1 [6,106] [] Z Z (λ_=>BO Z Z Z (FF Z Z)) (A1 [114,115,106] [] Z Z (λ_=>BO Z Z Z (Al (k) Z Z (Z) (AP a) No Z CP Z)) (A1 [116,106] [] Z Z (λ_=>BO Z Z Z (IJ Z Mw Z Z Z)) (A1 [117,106] [] Z Z (λ_=>BO Z Z Z (BZ Z Z Ag Z)) (BR 26 Z Z Z (AZ 27 Z Z (AT Z Z Z (J (GW Z Z Z) (AC ⟨Z,?_⟩))))))));refine AZ 28 Z Z (J (Br Z Z Z Z) (AC ⟨Z,?_⟩));refine Bb (A4 Z (λR=>?_) (λR=>?_))
        .refine AD (AF (AB Z Z (AC (A5 ?_))));exact ⟨_,[],[],A2 Z,Z,Z,Ae (M9 c u (s.2 7 (by unfold K7;rw[b,υ l,ϱ (by first | (exact .inl (Gh a o A)) | (exact .inr (Gh a o (by assumption))))]) (by decide)) (by decide)),rfl⟩
        .refine AU (AF (cl Z Z (J (Ac Z Z (AJ (m+1) (by omega)) Z) (AB Z Z (AC ?_)))));exact ⟨m+1,⟨by show m+1<=_;omega,HP g N (by simp_all),HP g M (by simp_all)⟩,by show k-(m+1)<k-m;omega,AR t [1] Z (Z) ⟨Z,Z,Z,trivial⟩⟩
      .have v:¬(p.it[k].id∈(p.it.take k).map dr.id\/p.it[k].sq∈(p.it.take k).map dr.sq):=by have e:m=k:=by {have h:=G;omega};subst e;rintro (h | h);exact N h;exact M h
       refine Aq (AF (cl Z Z (J (Ac Z Z (AJ (k+1) (by omega)) Z) (AB Z Z (AC ?_)))));exact ⟨k+1,⟨by show k+1<=_;omega,s.1 (by unfold K7;rw[b,υ l,υ v])⟩,by show p.it.length-(k+1)<p.it.length-k;omega,AR t [1] Z (Z) ⟨Z,Z,trivial⟩⟩
    .refine Aq (AD (AD ?_));have P:FL p.it=0:=by rw[C,nB (by have h:=H;simp only[kj];omega)];rfl
     refine AF (AB Z Z (AC (AX (BC (α:=Nat) (λk=>⟨151,[(1,(.ptr 1 0 0)),(9,(.d (AE (k:Int))))],[(1,[B3 25 p])]⟩) (λk=>k<=p.it.length/\QK p.it=BP ((p.it.drop k).map (Qb (p.it.map dr.id)))) (λk=>p.it.length-k) (0) (⟨κ _,Z⟩) (AR t [1] Z Z ⟨Z,Z,trivial⟩) ?_))));rintro k ⟨O,C⟩;refine AD ?_;refine AD (AF (cl Z Z (J (AL Z JS Z Z Z) (J (AQ Z Z Z DE Z) (J (BW Z No Z) (J (At Z Z Z) (AC (A4 Z (λz=>?_) (λz=>?_)))))))))
     .have a:k<p.it.length:=BG z;refine AU (AD (AX (AD ?_)));have s:=nO a C;have B:=g3 _ (ϑ a);refine AF (AB Z Z (AC (AX (BC (α:=Nat) (λj=>⟨151,[(1,(.ptr 1 0 0)),(9,(.d (AE (k:Int)))),(10,(.d (AE (j:Int))))],[(1,[B3 25 p])]⟩) (λj=>j<=p.it[k].af.length/\∀x∈p.it[k].af.take j,x∈p.it.map dr.id) (λj=>p.it[k].af.length-j) (0) (⟨κ _,by simp⟩) (AR t [1] Z Z ⟨Z,Z,Z,trivial⟩) ?_))));rintro j ⟨hj0,hj⟩;refine AD (AD (AF (cl Z Z (J (AL Z JS Z Z Z) ?_))));refine J (AQ Z Z Z DE Z) (cl Z Z (J (Al (k) Z Z (Z) (AP a) No Z CP Z) (J (IJ Z Tk Z Z Z) (J (BZ Z Z BJ Z) (J (BW Z E0 Z) (J (At Z Z Z) (AC (A4 Z (λy=>?_) (λy=>?_)))))))))
      .have E:j<p.it[k].af.length:=BG y;refine AU (AD ?_);refine AX (AD (Bm [[],[],[1],[],[1,2,3],[1,2,3,4],[1,2,3,4,5],[],[1,2,3,4,5,6,7],[1,2,3,4,5,6,7,8],rg 10,rg 11] mixed Z (BY (Ay [1] Z Z (λ_=>A9 (Ar Z Z Bx Z Z Z)) (AK [1] Z (AL Z JS Z Z Z) (Ay [140] Z Z (λ_=>A9 (AQ Z Z Z DE Z)) (A7 9 Z Z (AK [141,142] Z (Al (k) Z Z (Z) (AP a) No Z CP Z) ?_))))))));refine AK [143] Z (IJ Z Tk Z Z Z) (AK [144] Z (BZ Z Z BJ Z) (A7 10 Z Z (AK [145,146] Z (Al (j) Z Z (Z) (AP E) E0 Z BE Z) (AK [147] Z (BZ Z Z Ag Z) (BR 10 Z Z Z (AZ 11 Z Z (J (Ak (Pg p p.it[k].af[j] (by omega)) Z Z) (AC ⟨Z,?_⟩))))))));refine AZ 12 Z Z (J (At Z Z Z) (AC ⟨Z,?_⟩));refine Bb (A4 Z (λw=>?_) (λw=>?_))
       .refine AD (AF (AB Z Z (AC (A5 ?_))));exact ⟨_,[],[],A2 Z,Z,Z,Ae (Sh c u P (s.2 9 (by unfold Qb;rw[ϱ (List.any_eq_true.2 ⟨_,ϑ E,by unfold Im;rw[kD (oz w)];rfl⟩)]) (by decide))),Z⟩
       .refine AU (AF (cl Z Z (J (Ac Z Z (AJ (j+1) (by omega)) Z) (AB Z Z (AC ?_)))));exact ⟨j+1,⟨by show j+1<=_;omega,by rw[ψ E];intro x D;rcases ν.1 D with D | D;exact hj x D;rw[ξ.1 D];exact tz (by simpa using w)⟩,by show p.it[k].af.length-(j+1)<p.it[k].af.length-j;omega,AR t [1] Z (Z) ⟨Z,Z,Z,trivial⟩⟩
      .have Q:¬p.it[k].af.any (Im (p.it.map dr.id))=true:=by rw[List.any_eq_true];rintro ⟨x,D,hn⟩;have S:=hj x (by rw[ζ (by have h:=y;omega)];exact D);simp[Im,S] at hn
       refine Aq (AF (cl Z Z (J (Ac Z Z (AJ (k+1) (by omega)) Z) (AB Z Z (AC ?_)))));exact ⟨k+1,⟨by show k+1<=_;omega,s.1 (by unfold Qb;rw[υ Q])⟩,by show p.it.length-(k+1)<p.it.length-k;omega,AR t [1] Z (Z) ⟨Z,Z,trivial⟩⟩
     .refine Aq (AD (AF (AB Z Z (AC (A5 ?_)))));exact ⟨_,[],[],A2 Z,Z,Z,Ae (Sh c u P (by rw[C,DZ (by have h:=z;omega)])),Z⟩
def Mm:List dr->dr->List dr
 | [],x=> [x]
 | a::l,x=>if ∀y∈a::l,E8 x y<0 then x::a::l else a::Mm l x
theorem Sw:∀{l:List dr} {x:dr} {k:Nat},k<=l.length->(∀y∈l.drop k,E8 x y<0)->(∀(_:0<k) y,l[k-1]? =some y->¬E8 x y<0)->Mm l x=(l.take k++ [x])++l.drop k
 | [],x,0,_,_,_=>rfl
 | [],x,k+1,h,_,_=>by simp at h
 | a::l,x,0,_,h,_=>by simp only[Mm];rw[ϱ (by simpa using h)];rfl
 | a::l,x,k+1,o,h,g=>by
  have b:k<=l.length:=by simpa using o
  have f:k<(a::l).length:=Nat.lt_succ_of_le b;have j:¬∀y∈a::l,E8 x y<0:=λc=>g (by omega) _ (ω f) (c _ (ϑ f));simp only[Mm]
  rw[υ j,Sw (k:=k) b (by simpa using h) λr y i=>g (by omega) y (by
   obtain ⟨m,rfl⟩:∃m,k=m+1:=⟨k-1,by omega⟩
   simpa using i)]
  simp
def fl(l:List dr):List dr:=l.foldl Mm []
theorem gV(l:List dr)(x:dr):(Mm l x).length=l.length+1:=by
 induction l with
 | nil=>rfl
 | cons a l b=>
  grind[Mm]
theorem Fu(l:List dr)(x:dr):fl (l++ [x])=Mm (fl l) x:=by simp[fl]
theorem O2(l:List dr):(fl l).length=l.length:=by
 induction l using cK with
 | h0=>rfl
 | h1 l x a=>rw[Fu,gV,a];simp
theorem Ey(l:List dr)(x:l.length<=1000):AI prog 61 [.d (.sl none (l.map Ah))] (.sl none ((fl l).map Ah)):=by
 refine Av func61 Z Z ntmps61 Z Z Z λF t=>(AD ?_);refine AF (AB Z Z (AC (AD (AF (AB Z Z (AC (AD (AD ?_))))))));refine JP 3 Z ?_;refine AF (AB Z Z (AC (AX (BC (α:=Nat×List dr) (λq=>⟨49,[(0,.d (.sl none (l.map Ah))),(3,(.d (.sl none (q.2.map Ah)))),(4,(.d (AE (q.1:Int))))],[]⟩) (λq=>q.1<=l.length/\q.2=fl (l.take q.1)) (λq=>l.length-q.1) ((0,[])) (⟨κ _,Z⟩) (AR t [] Z Z ⟨Z,Z,Z,trivial⟩) ?_))));rintro ⟨k,a⟩ ⟨v,s⟩;dsimp only at v s⊢;refine AD (AD (AF (cl Z Z (cl Z Z (J (BW Z No Z) (J (At Z Z Z) (AC (A4 Z (λo=>?_) (λo=>?_)))))))))
 .have g:k<l.length:=BG o;refine AU (AD (AX (AD ?_)));have w:a.length<=1000:=by rw[s,O2,θ];omega
  refine AF (cl Z Z (J (BW Z No Z) (AB Z Z (AC (AD (AX (BC (α:=Nat) (λm=>⟨49,[(0,.d (.sl none (l.map Ah))),(3,(.d (.sl none (a.map Ah)))),(4,(.d (AE (k:Int)))),(5,(.d (AE (m:Int))))],[]⟩) (λm=>m<=a.length/\∀y∈a.drop m,E8 l[k] y<0) (λm=>m) (a.length) (⟨Θ _,by simp⟩) (AR t [] Z Z ⟨Z,Z,Z,Z,trivial⟩) ?_)))))));rintro m ⟨r,u⟩;refine AD (AD (Bm [[],[0],[0,1],[0,1,2],[0,1,2],rg 5,rg 6,[0,1,2],[0,1,2],[0,1,2,8],[0,1,2,7,8,9],[0,1,2,7,8,9,10],rg 12,rg 13] mixed Z (AZ 1 Z Z (cl Z Z (AC ⟨Z,?_⟩)))));refine AZ 2 Z Z (J (H1 Z Z Z) (AC ⟨Z,?_⟩));refine AZ 3 Z Z (cl Z Z (C5 17 Z (λj=>?_) (λj=>?_)))
  .refine AC ⟨Z,?_⟩;refine BY ?_
   try have f:m-1<a.length:=by have h:=j;omega
   refine A1 [0,17] [] Z Z (λ_=>BO Z Z Z (FF Z Z)) (A1 [4,17] [] Z Z (λ_=>BO Z Z Z (FF Z Z)) (A1 [18,19,17] [] Z Z (λ_=>BO Z Z Z (Al (k) Z Z (Z) (AP g) No Z CP Z)) (A1 [20,17] [] Z Z (λ_=>BO Z Z Z (CT Z Z Ev Z)) (A1 [3,17] [] Z Z (λ_=>BO Z Z Z (FF Z Z)) ?_))));refine A1 [5,17] [] Z Z (λ_=>BO Z Z Z (FF Z Z)) (A1 [23,17] [] Z Z (λ_=>BO Z Z Z (MC Z Z (show IntKind.i64.wrap ((m:Int)-1)=((m-1:Nat):Int) from by rw[show ((m-1:Nat):Int)=(m:Int)-1 by omega];exact Ξ _ (by omega)) Z)) (A1 [22,24,17] [] Z Z (λ_=>BO Z Z Z (Al (m-1) Z Z (Z) (AP f) No Z CP Z)) (A1 [25,17] [] Z Z (λ_=>BO Z Z Z (CT Z Z Ev Z)) (BR 12 Z Z Z (AZ 13 Z Z (AT Z Z Z (J (Ak (U6 l[k] a[m-1]) Z Z) (AC ⟨Z,?_⟩))))))));refine AZ 14 Z Z (J (B4 Z Z Z Z) (AC ⟨Z,?_⟩));refine Bb (A4 Z (λi=>?_) (λi=>?_))
   .refine AU (AX (AF (cl Z Z (J (MC Z Z (show IntKind.i64.wrap ((m:Int)-1)=((m-1:Nat):Int) from by rw[show ((m-1:Nat):Int)=(m:Int)-1 by omega];exact Ξ _ (by omega)) Z) (AB Z Z (AC ?_))))));exact ⟨m-1,⟨by show m-1<=_;omega,by rw[mR f];intro y b;rcases ju.1 b with b | b;rw[b];exact i;exact u y (by rw[show m-1+1=m by omega] at b;exact b)⟩,by show m-1<m;omega,AR t [] Z (Z) ⟨Z,Z,Z,Z,trivial⟩⟩
   .refine Aq (AD ?_);have c:∀(h:0<m) y,a[m-1]? =some y->¬E8 l[k] y<0:=by first | (intro h y b;exact absurd h (by omega)) | (intro h y b;rw[ω f] at b;injection b with b;rw[<-b];exact i)
    refine AF (V (CB 20 MR Z Z Z Z Z Z Z Z) (cl Z Z (cl Z Z (J (Xx (a) (m) Z Z Z (Z) (by omega) No CP (λ_=>rfl) Z) (V (JR (([]:List dr)) (a.take m) Z Z Z Z Z Z (λ_=>rfl) MR (by simp only[lX,θ];omega) Z Z Z Z) (AB Z Z ?_))))));refine AC (AD (AF (cl Z Z (cl Z Z (cl Z Z (J (Al (k) Z Z (Z) (AP g) No Z CP Z) (J (CT Z Z Ev Z) (V (CB 21 MR Z Z Z Z Z Z Z Z) ?_))))))));refine V (DQ (([]++a.take m)) ([l[k]]) Z Z Z Z Z Z Z Z MR (by simp only[kP,η,θ];omega) Z Z Z Z) ?_;refine AB Z Z (AC (AF (cl Z Z (cl Z Z (cl Z Z (J (cW (a) (m) Z Z Z (Z) (by omega) No CP (λ_=>rfl) Z) ?_))))));refine V (JR ((([]++a.take m)++ [l[k]])) (a.drop m) Z Z Z Z Z Z (λ_=>rfl) MR (by simp only[kP,Δ,η,θ,l4];omega) Z Z Z Z) ?_;refine WY (emb:=Ah) 47 20 ((([]++a.take m)++ [l[k]])++a.drop m) Z Z Z Z Z Z Z (AB Z Z (AC (AF (cl Z Z (J (Ac Z Z (AJ (k+1) (by omega)) Z) (AB Z Z (AC ?_)))))));exact ⟨(k+1,_),⟨by show k+1<=_;omega,by show _=fl (l.take (k+1));rw[ψ g,Fu,<-s,Sw r u c];rfl⟩,by show l.length-(k+1)<l.length-k;omega,AR t [] Z (Z) ⟨Z,Z,Z,trivial⟩⟩
  .refine AC ⟨Z,?_⟩;refine BY ?_
   try have f:m-1<a.length:=by have h:=j;omega
   refine A1 [0,17] [] Z Z (λ_=>CL Z Z Z Z) (A1 [4,17] [] Z Z (λ_=>CL Z Z Z Z) (A1 [18,19,17] [] Z Z (λ_=>CL Z Z Z Z) (A1 [20,17] [] Z Z (λ_=>CL Z Z Z Z) ?_)));refine A1 [3,17] [] Z Z (λ_=>CL Z Z Z Z) (A1 [5,17] [] Z Z (λ_=>CL Z Z Z Z) (A1 [23,17] [] Z Z (λ_=>CL Z Z Z Z) (A1 [22,24,17] [] Z Z (λ_=>CL Z Z Z Z) (A1 [25,17] [] Z Z (λ_=>CL Z Z Z Z) (BR 12 Z Z Z (AZ 13 Z Z (AN Z Z Z Z (AC ⟨Z,?_⟩))))))));refine AZ 14 Z Z (J (Br Z Z Z Z) (AC ⟨Z,?_⟩));refine Bb (Cr Z Z (Aq (AD ?_)));have c:∀(h:0<m) y,a[m-1]? =some y->¬E8 l[k] y<0:=by first | (intro h y b;exact absurd h (by omega)) | (intro h y b;rw[ω f] at b;injection b with b;rw[<-b];exact i)
   refine AF (V (CB 20 MR Z Z Z Z Z Z Z Z) (cl Z Z (cl Z Z (J (Xx (a) (m) Z Z Z (Z) (by omega) No CP (λ_=>rfl) Z) (V (JR (([]:List dr)) (a.take m) Z Z Z Z Z Z (λ_=>rfl) MR (by simp only[lX,θ];omega) Z Z Z Z) (AB Z Z ?_))))));refine AC (AD (AF (cl Z Z (cl Z Z (cl Z Z (J (Al (k) Z Z (Z) (AP g) No Z CP Z) (J (CT Z Z Ev Z) (V (CB 21 MR Z Z Z Z Z Z Z Z) ?_))))))));refine V (DQ (([]++a.take m)) ([l[k]]) Z Z Z Z Z Z Z Z MR (by simp only[kP,η,θ];omega) Z Z Z Z) ?_;refine AB Z Z (AC (AF (cl Z Z (cl Z Z (cl Z Z (J (cW (a) (m) Z Z Z (Z) (by omega) No CP (λ_=>rfl) Z) ?_))))));refine V (JR ((([]++a.take m)++ [l[k]])) (a.drop m) Z Z Z Z Z Z (λ_=>rfl) MR (by simp only[kP,Δ,η,θ,l4];omega) Z Z Z Z) ?_;refine WY (emb:=Ah) 47 20 ((([]++a.take m)++ [l[k]])++a.drop m) Z Z Z Z Z Z Z (AB Z Z (AC (AF (cl Z Z (J (Ac Z Z (AJ (k+1) (by omega)) Z) (AB Z Z (AC ?_)))))));exact ⟨(k+1,_),⟨by show k+1<=_;omega,by show _=fl (l.take (k+1));rw[ψ g,Fu,<-s,Sw r u c];rfl⟩,by show l.length-(k+1)<l.length-k;omega,AR t [] Z (Z) ⟨Z,Z,Z,trivial⟩⟩
 .refine Aq (AD (AF (cl Z Z (AB Z Z (AC (A5 ?_))))));exact ⟨_,[],[],A2 Z,Z,Z,by rw[s,ζ (by have h:=o;omega)],Z⟩
def iC(l:List dr)(r:AW):List Int:=(l.filter λi=>decide (BN i r<0)).map dr.id
theorem KQ(p:iB)(r:AW)(v:p.it.length<=1000)(u:∀i∈fl p.it,i.po.length<=1000/\i.pa.length<=1000/\i.af.length<=1000):AI prog 154 [.d (BM p),.d (Bn r)] (.sl none ((iC (fl p.it) r).map AE)):=by
 obtain ⟨S,t⟩:∃S,fl p.it=S:=⟨_,Z⟩
 have j:=Ey p.it v;have x:S.length<=1000:=by rw[<-t,O2];exact v
 rw[t] at j u⊢;refine Av func154 Z Z ntmps154 Z Z Z λF s=>(AD (AF (V (Ba 1 Z Z Z Z Z Z Z) (V (Ba 2 Z Z Z Z Z Z Z) (AB Z Z (AC (AD ?_)))))));refine AF (AB Z Z (AC (AD (AF (J (AL Z JS Z Z Z) (J (AQ Z Z Z DE Z) (J (Ak (j) Z Z) (AB Z Z ?_))))))));refine AC (AD (AD (IY 5 900 Ap Z Z Z Z (AF (AB Z Z (AC (AX (BC (α:=Nat×List Int) (λq=>⟨33,[(3,(.ptr 2 0 0)),(5,(.own 900 0 q.2.length)),(6,(.d (.sl none (S.map Ah)))),(7,(.d (AE (q.1:Int))))],[(2,[.blk 98 [.d (AE r.k),.d (Am r.acc.o),.d (AE r.acc.k),.d (Am r.acc.a),.d (Am r.f),.d (Am r.t)]]),(900,[.rowD 3 1 (q.2.map AE)])]⟩) (λq=>q.1<=S.length/\q.2=iC (S.take q.1) r) (λq=>S.length-q.1) ((0,[])) (⟨κ _,Z⟩) (AR s [2,900] Z Z ⟨Z,Z,Z,Z,trivial⟩) ?_))))))));rintro ⟨k,g⟩ ⟨o,l⟩;dsimp only at o l⊢;refine AD (AD (AF (cl Z Z (cl Z Z (J (BW Z No Z) (J (At Z Z Z) (AC (A4 Z (λf=>?_) (λf=>?_)))))))))
 .have a:k<S.length:=BG f;refine AU (AD (AX (AD (Bm [[],[],[0,1],[0,1,2],[],rg 5,rg 6] mixed Z (BY ?_)))));have b:=u _ (ϑ a);have w:g.length<=1000:=by rw[l];unfold iC;rw[χ];have:=lB (λi=>decide (BN i r<0)) (S.take k);rw[θ] at this;omega
  refine A7 6 Z Z (A7 7 Z Z (AK [17,18] Z (Al (k) Z Z (Z) (AP a) No Z CP Z) (AK [19] Z (CT Z Z Ev Z) (Ay [3] Z Z (λ_=>A9 (Ar Z Z C4 Z Z Z)) (BR 5 Z Z Z (AZ 6 Z Z (J (Ak (sQ S[k] r b.1 b.2.1 b.2.2) Z Z) (AC ⟨Z,?_⟩))))))));refine AZ 7 Z Z (J (At Z Z Z) (AC ⟨Z,?_⟩));refine Bb (A4 Z (λc=>?_) (λc=>?_))
  .refine AF (cl Z Z (cl Z Z (cl Z Z (J (Al (k) Z Z (Z) (AP a) No Z CP Z) (J (IJ Z ST Z Z Z) (J (BZ Z Z Ag Z) ?_))))));refine V (CB 3 Ap Z Z Z Z Z Z Z Z) (V (DQ (g) ([S[k].id]) Z Z Z Z Z Z Z Z Ap (by simp only[η];omega) Z Z Z Z) (AB Z Z (AC (AF (cl Z Z (J (Ac Z Z (AJ (k+1) (by omega)) Z) (AB Z Z (AC ?_))))))));exact ⟨(k+1,_),⟨by show k+1<=_;omega,by show _=iC (S.take (k+1)) r;unfold iC;rw[cT a,ϱ (by simpa using c),kA,l];rfl⟩,by show S.length-(k+1)<S.length-k;omega,AR s [2,900] Z (Z) ⟨Z,Z,Z,Z,trivial⟩⟩
  .refine AU (AF (cl Z Z (J (Ac Z Z (AJ (k+1) (by omega)) Z) (AB Z Z (AC ?_)))));exact ⟨(k+1,_),⟨by show k+1<=_;omega,by show _=iC (S.take (k+1)) r;unfold iC;rw[cT a,υ (by simpa using c),kZ,l];rfl⟩,by show S.length-(k+1)<S.length-k;omega,AR s [2,900] Z (Z) ⟨Z,Z,Z,Z,trivial⟩⟩
 .refine Aq (AD (Fi (emb:=AE) 5 900 g Z Z Z Z Z Z Z (AF (cl Z Z (AB Z Z (AC (A5 ?_)))))));exact ⟨_,[],[],A2 Z,Z,Z,by rw[l,ζ (by have h:=f;omega)],Z⟩
theorem ic(l:List Fa)(b:l.length<=1000000):AI prog 86 [.d (.sl none (l.map B9))] (.sl none (l.map B9)):=by
 refine Av func86 Z Z ntmps86 Z Z Z λF c=>(AD ?_);refine AF (AB Z Z (Zg 2 Z (AC (AD (AD (AF (cl Z Z (GE 3 Z (λa=>?_) ?_))))))))
 .refine J (Em cB Z Z) (AC (CM Z (Z) (AD (AF (AB Z Z (Zg 2 Z (AC (A5 ?_))))))));exact ⟨_,[],[],A2 Z,Z,Z,by first | (rw[a];done) | (rw[a]),rfl⟩
 .refine J (Em cB Z Z) (AC ?_);refine Cr Z (Z) (AU (AD (AF (V (CB 20 aR Z Z Z Z Z Z Z Z) (cl Z Z (V (JR (([]:List Fa)) (l) Z Z Z Z Z Z (λ_=>rfl) aR (by simp only[lX];omega) Z Z Z Z) (WY (emb:=B9) 7 20 ([]++l) Z Z Z Z Z Z Z (AB Z Z ?_))))))));skip;refine AC (A5 ?_);exact ⟨_,[],[],A2 Z,Z,Z,Z,Z⟩
theorem ib(l:List NN)(b:l.length<=1000000):AI prog 87 [.d (.sl none (l.map Co))] (.sl none (l.map Co)):=by
 refine Av func87 Z Z ntmps87 Z Z Z λF c=>(AD ?_);refine AF (AB Z Z (Zg 2 Z (AC (AD (AD (AF (cl Z Z (GE 3 Z (λa=>?_) ?_))))))))
 .refine J (Em cX Z Z) (AC (CM Z (Z) (AD (AF (AB Z Z (Zg 2 Z (AC (A5 ?_))))))));exact ⟨_,[],[],A2 Z,Z,Z,by first | (rw[a];done) | (rw[a]),rfl⟩
 .refine J (Em cX Z Z) (AC ?_);refine Cr Z (Z) (AU (AD (AF (V (CB 20 d9 Z Z Z Z Z Z Z Z) (cl Z Z (V (JR (([]:List NN)) (l) Z Z Z Z Z Z (λ_=>rfl) d9 (by simp only[lX];omega) Z Z Z Z) (WY (emb:=Co) 7 20 ([]++l) Z Z Z Z Z Z Z (AB Z Z ?_))))))));skip;refine AC (A5 ?_);exact ⟨_,[],[],A2 Z,Z,Z,Z,Z⟩
theorem ie(l:List Int)(b:l.length<=1000000):AI prog 89 [.d (.sl none (l.map AE))] (.sl none (l.map AE)):=by
 refine Av func89 Z Z ntmps89 Z Z Z λF c=>(AD ?_);refine AF (AB Z Z (Zg 2 Z (AC (AD (AD (AF (cl Z Z (GE 3 Z (λa=>?_) ?_))))))))
 .refine J (Em E0 Z Z) (AC (CM Z (Z) (AD (AF (AB Z Z (Zg 2 Z (AC (A5 ?_))))))));exact ⟨_,[],[],A2 Z,Z,Z,by first | (rw[a];done) | (rw[a]),rfl⟩
 .refine J (Em E0 Z Z) (AC ?_);refine Cr Z (Z) (AU (AD (AF (V (CB 20 Ap Z Z Z Z Z Z Z Z) (cl Z Z (V (JR (([]:List Int)) (l) Z Z Z Z Z Z (λ_=>rfl) Ap (by simp only[lX];omega) Z Z Z Z) (WY (emb:=AE) 7 20 ([]++l) Z Z Z Z Z Z Z (AB Z Z ?_))))))));skip;refine AC (A5 ?_);exact ⟨_,[],[],A2 Z,Z,Z,Z,Z⟩
theorem qM(i:dr)(c:i.po.length<=1000000)(b:i.pa.length<=1000000)(a:i.af.length<=1000000):AI prog 69 [.d (Ah i)] (Ah i):=by
 refine Av func69 Z Z ntmps69 Z Z Z λF f=>(AD (AF (V (Ba 1 Z Z Z Z Z Z Z) (V (CF 2 Fk Z Z Z Z) ?_))));refine AC (AD (Bm [[],[0],[0,1],[],[3],rg 5,[],[6],rg 8,[0,1,2,3,4,6,7],rg 10,rg 11,rg 12,rg 13,rg 14] mixed Z (BY (AK [1] Z (AL Z JC Z Z Z) (A1 [3] [1] Z Z (λ_=>A9 (AQ Z Z Z aq Z)) (AK [4] Z (Ak (ic i.po c) Z Z) (AK [1] Z (AL Z Kf Z Z Z) (A1 [6] [1] Z Z (λ_=>A9 (AQ Z Z Z fI Z)) ?_))))))));refine AK [7] Z (Ak (ib i.pa b) Z Z) (AK [1] Z (AL Z GL Z Z Z) (A1 [9] [1] Z Z (λ_=>A9 (AQ Z Z Z BJ Z)) (AK [10] Z (Ak (ie i.af a) Z Z) (AK [1] Z (AL Z JC Z Z Z) (BR 10 Z Z Z (AZ 11 Z Z (V (Bc Z Z Z Z Z Z Z vb) (AC ⟨Z,?_⟩))))))));refine AZ 12 Z Z (J (AL Z Kf Z Z Z) (AC ⟨Z,?_⟩));refine AZ 13 Z Z (V (Bc Z Z Z Z Z Z Z va) (AC ⟨Z,?_⟩));refine AZ 14 Z Z (J (AL Z GL Z Z Z) (AC ⟨Z,?_⟩));refine AZ 15 Z Z (V (Bc Z Z Z Z Z Z Z D8) (AC ⟨Z,?_⟩));refine Bb (AD (AF (J (Ar Z Z Cc Z Z Z) (V (Bc Z Z Z Z Z Z Z DT) (AC (A5 ?_))))));exact ⟨_,[],[],A2 Z,Z,Z,Z,Z⟩
theorem wl{a:Hp}{f:Nat}{o:AM}(h:ek a f=none)(b:Ux o=true:=by rfl):Cu a f o=some ((f,[o])::a):=by simp only[Cu,h,b]
theorem ru{b:Hp}{f:Nat}{x:List AM}:∀{a:List Nat},iG f a=false->Bg ((f,x)::b) a=Bg b a
 | [],_=>rfl
 | g::r,h=>by
  have i:Nat.beq f g=false:=by
   cases hb:Nat.beq f g with
   | false=>rfl
   | true=>
    have e:=kn hb;subst e
    simp[iG] at h
  have c:iG f r=false:=by
   cases hb:iG f r with
   | false=>rfl
   | true=>simp[iG,hb] at h
  simp only[Bg];rw[ru c];simp only[ek,i]
theorem aI(l:List Nat):KO l l=true:=by
 have b:∀(l m:List Nat),(∀x∈l,x∈m)->KO l m=true:=λl=>by
  induction l with
  | nil=>intro m _;rfl
  | cons a r c=>intro m h;simp only[KO,kQ];exact ⟨Gb.2 (h a (by simp)),c m λx f=>h x (by simp[f])⟩
 grind
theorem Ef{step:o->a->o×Bool}{r:List a}:IW step w (x::r)=if (step w x).2=true then IW step (step w x).1 r else (step w x).1:=by grind[IW]
def encI(x:dr):List AV:=[.d (Ah x)]
section
variable{β:Type}
theorem tA(a:List dr)(y:a.length<=1000000)(l:Nat)(H:β->Hp)(N:List Nat)(step:β->dr->β×Bool)(b:β)(o:∀c,lZ (H c)=N)(C:∀c,GG N (H c)=true)(v:∀c,Bg (H c) N=some (H c))(B:∀c,Aa 990 (H c)=some (H c))(z:∀c,ek (H c) 990=none)(A:iG 990 N=false)(u:Nn prog l encI H step b a):
  AO prog 164 [.d (.raw (D7 l)),.d (.ptr (.sl none (a.map Ah)))] (H b) λr E=>r= .tup []/\E=H (IW step b a):=by
 refine Av func164 Z Z ntmps164 Z Z Z λF D=>(AD (AF (J (BZ Z Z Md Z) (J (BW Z Qs Z) (cl Z Z (AC (AX (FR (α:=Nat×β) (λp=>⟨16,[(0,.d (.raw (D7 l))),(5,(.d (.sl none (a.map Ah)))),(6,(.d (AE (a.length:Int)))),(7,(.d (AE (p.1:Int))))],H p.2⟩) (λp=>p.1<=a.length/\Nn prog l encI H step p.2 (a.drop p.1)/\IW step p.2 (a.drop p.1)=IW step b a) (λp=>a.length-p.1) ((0,b)) (⟨κ _,u,Z⟩) (Zm ⟨Z,Z,Z,Z,trivial⟩) ?_))))))));rintro ⟨k,c⟩ ⟨t,i,f⟩;dsimp only at t i f⊢;refine AD (AF (J (At Z Z Z) (AC (AD (A4 Z (λx=>?_) (λx=>?_))))))
 .have s:k<a.length:=BG x;refine AU (AD (AX (AD (AF ?_))));have w:a.drop k=a[k]::a.drop (k+1):=mR s;rw[w] at i;refine J (Al (k) Z Z (Z) (AP s) Qs Z DT Z) (J (CT Z Z Cc Z) (V (CF 990 Fk Z (B _) (wl (z _)) Z) (V (Bc Z Z Z Z Z Z Z DT) (AC (AD ?_)))));refine AF (cl Z Z (J (Ar Z Z Cc Z Z Z) (tW [0,5,6,7,11,12] Z (tV N (D.trans (o b)) (aI N) ((ru A).trans (v _)) (fO i.1 Z Z (by rw[o,o]) (by rw[o];exact C _) Z Z (J (QV Z Z) (AC (Jo Z (λj=>?_) (λj=>?_)))))))))
  .have g:(step c a[k]).2=false:=by simpa using j
   refine A5 ?_;exact ⟨_,N,_,A2 Z,v _,by rw[<-o b];exact FA _,Z,by rw[<-f,w,Ef,υ (by rw[g];decide)]⟩
  .have g:(step c a[k]).2=true:=by simpa using j
   refine AU (AF (J (Ac Z Z (AJ (k+1) (by omega)) Z) (cl Z Z (AC ?_))));exact ⟨(k+1,(step c a[k]).1),⟨by show k+1<=_;omega,i.2 g,by rw[<-f,w,Ef,ϱ g]⟩,by show a.length-(k+1)<a.length-k;omega,⟨Z,Z,λ_ _=>SW.get (l:=[(0,_),(5,_),(6,_),(7,_)]) ⟨Z,Z,Z,Z,trivial⟩⟩⟩
 .refine Aq ?_;exact ⟨_,N,_,A2 Z,v _,by rw[<-o b];exact FA _,Z,by rw[<-f,nB (by have h:=x;omega)];rfl⟩
end
variable{a:List dr}{M:MF}{c:Type}{f:List c}{g h:Nat->Nat}{i:List (AW×Int)}{j k o s:Nat}{t:dr}{u:List Nat}{w:List gf}{x:List AV}{y z:Nat}{T:TypeId}{A:c}{C:TypeId}{E:List D}{F:TypeId}{G:Hp}{H:AW}{I:Fr}{L:Type}{P:Au}
theorem SR.freezeB{s:AS}{H:Nat->Nat->Value}{y:Act}{w:World}(h:SR I s H y w)(t f:Nat)(g:D)(M:List Nat)(hF:I.pn=u)(ht:get s.env t=some (.ptr f 0 0))(K:ek s.hp f=some [.blk T x])(L:x=g.cells.map .d)(W:∀c∈g.cells,c.one=true)(hf:iG f M=false)(J:KO u M=true)(C:Bg s.hp M=some G):SR I ⟨s.n,(t,.d (.ptr g))::s.env,G⟩ H y w:=by
 have R:=h.only M hF J C;refine ⟨R.size,R.defs,λt' a Z=>?_,R.heap⟩;rcases NL Z with ⟨rfl,rfl⟩ | ⟨_,Z⟩
 .have hr:=h.env t _ ht;have P:dd s.hp f 0=some (.blk T x):=by simp[dd,K,gl,lQ]
  obtain ⟨b,z,S,e2,e3,e4,e5⟩:=h.heap.sim f 0 _ P;show A8 _ _ _ _ (y.tmps.getD t undef)
  generalize y.tmps.getD t undef=v at hr
  cases hr with
  | @ptr _ _ _ E B=>
   rw[S] at B;injection B with B;injection B with B;injection B with B;subst B
   have hO:∀E,I.O H G E->I.O H s.hp E:=λE k=>k.imp id λ⟨r,O,V,i,U⟩=>by
    obtain ⟨N,_⟩:=E7 C;refine ⟨r,O,V,?_,U⟩;simp only[dd] at i⊢
    cases hh:ek G r with
    | none=>rw[hh] at i;cases i
    | some l=>rw[(N r l hh).2];rw[hh] at i;exact i
   have X:¬I.O H G b:=λk=>by
    rcases k with k | ⟨r,O,V,i,U⟩
    .exact h.heap.notOf ⟨f,0,_,P,by rw[S];rfl⟩ k
    .obtain ⟨N,_⟩:=E7 C;simp only[dd] at i
     cases hh:ek G r with
     | none=>rw[hh] at i;cases i
     | some l=>
      have q3:dd s.hp r O=some V:=by simp only[dd];rw[(N r l hh).2];rw[hh] at i;exact i
      obtain ⟨e1',_⟩:=h.heap.inj r O f 0 _ _ b q3 P U (by rw[S];rfl);have:=Gb.2 (N r l hh).1
      grind
   have A:z.length=g.cells.length:=by rw[e3,L,χ]
   refine .d (.ptr (λj=>z.getD j undef) (h.heap.ltO (.inr ⟨f,0,_,P,by rw[S];rfl⟩)) X W (λj c Q=>?_) (λj c Q=>?_))
   .have o:j<z.length:=by rw[A];exact (φ.1 Q).1
    rw[lY,cell_of_row w b j z.toArray T (0,0) e2]
    simp[o]
   .have o:j<z.length:=by rw[A];exact (φ.1 Q).1
    have Y:=e4 j (.d c) z[j] (by rw[L,ς,Q];rfl) (ω o);have hg:z.getD j undef=z[j]:=by simp[o]
    rw[hg]
    cases Y with
    | d Y=>exact Y.mono (Θ _) (λ_ _ _=>rfl) λE _=>hO E
 .exact R.env t' a Z
theorem R6{P:Program}{Q:Exit->AS->Prop}{g:Array Oper}{z:List Oper}{y:Nat}{b:List (Nat×AV)}{r:Hp}(t f:Nat)(a:D)(k:List Nat)(H:I.pn=u)(B:get b t=some (.ptr f 0 0))(j:ek r f=some [.blk T x])(s:x=a.cells.map .d)(l:∀c∈a.cells,c.one=true)(E:iG f k=false)(i:KO u k=true)(o:Bg r k=some G)(h:Ao P I g z Q ⟨y,(t,.d (.ptr a))::b,G⟩):Ao P I g z Q ⟨y,b,r⟩:=λA v w C=>h A v w (C.freezeB t f a k H B j s l E i o)
theorem ce(a:List dr):AO prog 121 [.d (.sl none (a.map Ah))] [] λr g=>r= .fn 164 [.d (.ptr (.sl none (a.map Ah)))]/\g=[]:=by
 refine Av func121 Z Z ntmps121 Z Z Z λF f=>(AD (AF (V (Ba 1 Z Z Z Z Z Z Z) ?_)));refine AB Z Z (AC (AD (AF (R6 1 1 (.sl none (a.map Ah)) [] f Z Z Z (by intro c b;simp[D.cells] at b;subst b;rfl) Z Z Z (J (ut Z Z) (AB Z Z (AC (A5 ?_))))))));exact ⟨_,[],[],A2 Z,Z,Z,Z,Z⟩
abbrev hV(q:List dr):Hp:=[(920,[.rowD 55 6 (q.map Ah)]),(1,[.blk 37 [.own 920 0 q.length]])]
def YW(q:List dr)(x:dr):List dr×Bool:=(q++ [x],true)
theorem Vd:∀(l q:List dr),IW YW q l=q++l
 | [],q=>by simp[IW]
 | x::l,q=>by rw[Ef];show (if true=true then IW YW (q++ [x]) l else _)=_;rw[ϱ Z,Vd l];simp
theorem Rw{P:Program}{l:Nat}{H:List dr->Hp}{n:Nat}(b:∀q x,q.length<n->Gs P l (encI x) (H q) λv c=>v= .d (.raw (.bool true))/\c=H (q++ [x])):∀(a q:List dr),q.length+a.length<=n->Nn P l encI H YW q a
 | [],_,_=>trivial
 | x::a,q,h=>⟨b q x (by simp at h;omega),λ_=>Rw b a (q++ [x]) (by simp at h⊢;omega)⟩
theorem jD(a:List dr)(b:a.length<=1000000):AO prog 210 [.d (.sl (some true) []),.fn 164 [.d (.ptr (.sl none (a.map Ah)))]] [] λr g=>r= .own 920 0 a.length/\g=[(920,[.rowD 55 6 (a.map Ah)])]:=by
 refine QM func210 Z Z ntmps210 Z Z Z λF f c=>(AD (AF (V (Ba 1 Z Z Z Z Z Z Z) ?_)));refine AB Z Z (AC (AD (AD (D3 1 0 0 920 QZ Z Z Z Z Z Z Z (AF (cl Z Z (AC (AX ?_))))))));refine jP [2,6] Z ?_;refine Ze (γ:=Unit) c 900 Z Z Z Z Z [1,920] (CHr:=hV []) (λ_=>True) (λ_=>hV a) (λ_=> .ready) (λ_=>none) ⟨Z,Z,trivial⟩ Z Z Z (λ_=>rfl) (λ_=>rfl) Z (λ_ _=>by simp) (λ_ _=>⟨Z,Z⟩) [920,1] f Z Z (λ_ _=>rfl) (λl A B i h=>?_) (λ_ _=>?_)
 .refine (tA a b l (λq:List dr=>(900,[.loop ⟨l,13,[(2,.ptr 1 0 0),(6,.fn 164 [.d (.ptr (.sl none (a.map Ah)))])],.ready,none, #[7],A,B⟩])::hV q) [900,920,1] YW [] (λ_=>rfl) (λ_=>rfl) (λ_=>rfl) (λ_=>rfl) (λ_=>rfl) Z ?_).mono (λr g ⟨k,j⟩=>⟨k,(),trivial,by rw[j,Vd];rfl⟩);refine Rw (n:=a.length) (λq x s=>?_) a [] (by simp);refine Tx (lf:=900) Z Z Z Z λF f o=>?_;show CK _ _ A _ _;rw[i];refine AF (V (CF 2 Fk Z Z Z Z) (V (Bc Z Z Z Z Z Z Z DT) (AC (⟨Z,_,_,Z,Z,Z,Z,?_⟩))));show CK _ _ B _ _;rw[h];refine AX (AF (J (AQ Z Z Z Md Z) (J (Ar Z Z Cc Z Z Z) (V (CB 30 QZ Z Z Z Z Z Z Z Z) (V (DQ (q) ([x]) Z Z Z Z Z Z Z Z QZ (by simp only[η];omega) Z Z Z Z) (V (Bc Z Z Z Z Z Z Z sp) (AC ?_)))))));exact ⟨none,_,_,[900,920,1],_,Z,Z,Z,Z,Z,Z,Z,Z⟩
 .refine AD (AF (J (AQ Z Z Z Md Z) (AB Z Z (AC (A5 ?_)))));exact ⟨_,[920],_,A2 Z,Z,Z,Z,Z⟩
theorem lk(l:List dr)(x:dr):(Mm l x).Perm (x::l):=by
 induction l with
 | nil=>exact List.Perm.refl _
 | cons a l b=>
  grind[Mm]
theorem VX(h:a.Pairwise λc b=>¬E8 b c<0)(x:dr):(Mm a x).Pairwise λc b=>¬E8 b c<0:=by
 induction a with
 | nil=>simp[Mm]
 | cons c a k=>
  rw[mC] at h;simp only[Mm]
  split
  .rename_i g
   exact mC.2 ⟨λy i=>by have s:=g y i;have r:=EO.anti x y;omega,mC.2 h⟩
  .rename_i o
   refine mC.2 ⟨λy i=>?_,k h.2⟩;rcases ju.1 ((lk a x).mem_iff.1 i) with rfl | i
   .intro f;refine o λz j=>?_;rcases ju.1 j with rfl | j
    .exact f
    .have s:=h.1 z j;have r:=EO.anti c z
     by_cases e:E8 c z=0
     .have v:=EO.eqv c z y e;have u:=EO.anti c y;have t:=EO.anti z y;omega
     .exact EO.trans _ _ _ f (by omega)
   grind
theorem KI(l:List dr):(fl l).Perm l:=by
 induction l using cK with
 | h0=>exact List.Perm.refl _
 | h1 l x a=>
  grind[Fu,lk]
theorem Ku(l:List dr):(fl l).Pairwise λa b=>¬E8 b a<0:=by
 induction l using cK with
 | h0=>exact List.Pairwise.nil
 | h1 l x c=>rw[Fu];exact VX c x
theorem ao{a b:dr}(h:E8 a b=0):a.sq=b.sq:=by
 unfold E8 at h;simp only[BP] at h
 split at h
 .split at h
  .rename_i c;exact SJ.1 c
  omega
 omega
theorem Qp(f:(a.map dr.sq).Nodup)(h:a.Pairwise λc b=>¬E8 b c<0):a.Pairwise λc b=>E8 c b<0:=by
 rw[List.Nodup,lA] at f;refine (h.and f).imp λ{c b} ⟨j,i⟩=>?_;have g:=EO.anti c b
 grind[ao]
theorem Sl{c f:List dr}(g:(c.map dr.sq).Nodup)(h:f.Perm c)(i:f.Pairwise λa b=>¬E8 b a<0):f=fl c:=
 sR (R:=λa b=>E8 a b<0) (λx=>by rw[EO.refl];omega) (λx y z=>EO.trans x y z) (Qp ((h.map _).nodup_iff.2 g) i) (Qp (((KI c).map _).nodup_iff.2 g) (Ku c)) λx=>by rw[h.mem_iff,(KI c).mem_iff]
theorem VV(x:dr):∃a,Ah x= .agg a:=⟨_,Z⟩
abbrev vp(its:List dr):AV:= .fn 164 [.d (.ptr (.sl none (its.map Ah)))]
theorem bi(a:List dr)(b:a.length<=1000000):AO prog 163 [vp a] [] λr c=>r= .own 920 0 a.length/\c=[(920,[.rowD 55 6 (a.map Ah)])]:=by
 refine Av func163 Z Z ntmps163 Z Z Z λF f=>(AD (AF ?_));refine AB Z Z (AC (AD (AF (cl Z Z (V (F8 (jD a b) Z [920] ⟨Z,trivial⟩ Z Z Z Z Z Z Z Z Z) (AB Z Z (AC (A5 ?_))))))));exact ⟨_,[920],_,A2 Z,Z,Z,Z,Z⟩
theorem aN(a:List dr)(b:a.length<=1000000)(c:(a.map dr.sq).Nodup):AI prog 120 [vp a,.d (.raw (.func (.func 122) #[] #[]))] (.sl none ((fl a).map Ah)):=by
 refine Av func120 Z Z ntmps120 Z Z Z λF i=>(AD (AF (AB Z Z (AC (AD ?_)))));refine AF (cl Z Z (V (F8 (bi a b) Z [920] ⟨Z,trivial⟩ Z Z Z Z Z Z Z Z Z) (AB Z Z (AC (AD (AF (cl Z Z (cl Z Z ?_))))))));refine V (OB sE (k:=6) (by decide) isAgg55 sizeOf55 func122 Z Z VV E8 EO.swo a (fl a) (by omega) (λx _ y _=>Yd x y) (λh g f=>Sl c g f) Z Z Z My Z Z Z Z Z) (AC (AD (Fi (emb:=Ah) 5 920 (fl a) Z Z Z (O2 a).symm Z Z Z (AF (cl Z Z (AB Z Z (AC (A5 ?_))))))));exact ⟨_,[],[],A2 Z,Z,Z,Z,Z⟩
theorem Iv(h:FL a=0):(a.map dr.sq).Nodup:=by
 have f:=Tr.1 h;rw[List.Nodup,lA,lc];intro i j g b c e;have:=f j (Ω.2 b)
 grind[K7,Gh]
theorem HZ{p:iB}(h:Ad p=0):Db p.ro=0/\FL p.it=0/\QK p.it=0:=by
 unfold Ad at h
 split at h; · cases h
 have a:=Iy h
 simp_all
def hY(p:iB):List dr:=if Ad p=0 then fl p.it else []
theorem M8(p:iB)(f:FE p):AI prog 68 [.d (BM p)] (.sl none ((hY p).map Ah)):=by
 have a:=GA p f;obtain ⟨_,h,_⟩:=f
 by_cases b:Ad p=0
 rw[b] at a;have c:hY p=fl p.it:=ϱ b;rw[c];refine Av func68 Z Z ntmps68 Z Z Z λF g=>(AD (AF (V (Ba 1 Z Z Z Z Z Z Z) ?_)));refine AB Z Z (AC (AD (AD (AF (J (Ar Z Z CG Z Z Z) (J (Ak (a) Z Z) (J (DP Z Z Z) (AC ?_))))))));refine Cr Z ((by decide)) (AU (AD (AF (J (AL Z FO Z Z Z) (J (AQ Z Z Z Md Z) (V (F8 (ce p.it) Z [] trivial Z Z Z Z Z Z Z Z Z) (J (Ak (aN p.it (by omega) (Iv (HZ b).2.1)) Z Z) (AB Z Z ?_))))))))
 rotate_left
 have c:hY p=[]:=υ b;rw[c];refine Av func68 Z Z ntmps68 Z Z Z λF g=>?_;refine AD (AF (V (Ba 1 Z Z Z Z Z Z Z) (AB Z Z (Zg 2 Z (AC (AD (AD (AF ?_))))))));refine J (Ar Z Z CG Z Z Z) (J (Ak (a) Z Z) (J (DP Z Z Z) (AC (CM Z ((by simpa using b)) (AD (AF (AB Z Z (Zg 2 Z ?_))))))))
 all_goals
  refine AC (A5 ?_);exact ⟨_,[],[],A2 Z,Z,Z,Z,Z⟩
theorem DY(p:iB):(hY p).length<=p.it.length:=by unfold hY;split<;>simp[O2]
theorem Ij{p:iB}(h:t∈hY p):t∈p.it:=by grind[hY,KI]
theorem Ii(p:iB)(l:FE p):AI prog 33 [.d (BM p)] (.sl none (((hY p).map dr.id).map AE)):=by
 have c:=M8 p l;have f:=DY p;have r:=l.2.1
 obtain ⟨S,t⟩:∃S,hY p=S:=⟨_,Z⟩
 rw[t] at c f⊢;refine Av func33 Z Z ntmps33 Z Z Z λF o=>(AD (AF ?_));refine V (Ba 1 Z Z Z Z Z Z Z) (AB Z Z (AC (AD (AF (AB Z Z (AC (AD (AD ?_))))))));refine IY 3 900 Ap Z Z Z Z (AF (J (Ar Z Z CG Z Z Z) (J (Ak (c) Z Z) (J (BW Z Qs Z) (cl Z Z (AC (AX (BC (α:=Nat×List Int) (λq=>⟨20,[(3,(.own 900 0 q.2.length)),(7,(.d (.sl none (S.map Ah)))),(8,(.d (AE (S.length:Int)))),(9,(.d (AE (q.1:Int))))],[(900,[.rowD 3 1 (q.2.map AE)])]⟩) (λq=>q.1<=S.length/\q.2=(S.take q.1).map dr.id) (λq=>S.length-q.1) ((0,[])) (⟨κ _,Z⟩) (AR o [900] Z Z ⟨Z,Z,Z,Z,trivial⟩) ?_))))))));rintro ⟨k,b⟩ ⟨j,i⟩;dsimp only at j i⊢;refine AD (AF (J (At Z Z Z) (AC (AD (A4 Z (λa=>?_) (λa=>?_))))))
 .have g:k<S.length:=BG a;refine AU (AD (AX (AD (AF ?_))));have s:b.length<=100000:=by rw[i,χ,θ];omega
  refine J (Al (k) Z Z (Z) (AP g) Qs Z DT Z) (J (CT Z Z Cc Z) (V (CF 2 Fk Z Z Z Z) (V (Bc Z Z Z Z Z Z Z DT) (AC (AF (cl Z Z (J (AL Z QU Z Z Z) ?_)))))));refine J (AQ Z Z Z Ag Z) (V (CB 3 Ap Z Z Z Z Z Z Z Z) (V (DQ (b) ([S[k].id]) Z Z Z Z Z Z Z Z Ap (by simp only[η];omega) Z Z Z Z) (AB Z Z (AC (AF (J (Ac Z Z (AJ (k+1) (by omega)) Z) (cl Z Z (AC ?_))))))));exact ⟨(k+1,_),⟨by show k+1<=_;omega,by show _=(S.take (k+1)).map dr.id;rw[EE g,<-i]⟩,by show S.length-(k+1)<S.length-k;omega,AR o [900] Z (Z) ⟨Z,Z,Z,Z,trivial⟩⟩
 .refine Aq (AD (Fi (emb:=AE) 3 900 b Z Z Z Z Z Z Z (AF (cl Z Z (AB Z Z (AC (A5 ?_)))))));exact ⟨_,[],[],A2 Z,Z,Z,by rw[i,ζ (by have h:=a;omega)],Z⟩
theorem oP(p:iB)(r:AW)(t:FE p):AI prog 173 [.d (BM p),.d (Bn r)] (.sl none ((iC (hY p) r).map AE)):=by
 have j:=M8 p t;have l:=DY p;have x:=t.2.1;have b:∀i∈hY p,i.po.length<=100000/\i.pa.length<=100000/\i.af.length<=100000:=λi v=>t.2.2 i (Ij v)
 obtain ⟨S,z⟩:∃S,hY p=S:=⟨_,Z⟩
 rw[z] at j l b⊢;refine Av func173 Z Z ntmps173 Z Z Z λF u=>(AD (AF (V (Ba 1 Z Z Z Z Z Z Z) ?_)));refine V (Ba 2 Z Z Z Z Z Z Z) (AB Z Z (AC (AD (AF (AB Z Z (AC (AD (AD ?_))))))));refine IY 5 900 Ap Z Z Z Z (AF (J (Ar Z Z CG Z Z Z) (J (Ak (j) Z Z) (J (BW Z Qs Z) (cl Z Z (AC (AX (BC (α:=Nat×List Int) (λq=>⟨26,[(3,(.ptr 2 0 0)),(5,(.own 900 0 q.2.length)),(9,(.d (.sl none (S.map Ah)))),(10,(.d (AE (S.length:Int)))),(11,(.d (AE (q.1:Int))))],[(2,[.blk 64 [.d (AE r.k),.d (Am r.acc.o),.d (AE r.acc.k),.d (Am r.acc.a),.d (Am r.f),.d (Am r.t)]]),(900,[.rowD 3 1 (q.2.map AE)])]⟩) (λq=>q.1<=S.length/\q.2=iC (S.take q.1) r) (λq=>S.length-q.1) ((0,[])) (⟨κ _,Z⟩) (AR u [2,900] Z Z ⟨Z,Z,Z,Z,Z,trivial⟩) ?_))))))));rintro ⟨k,g⟩ ⟨s,o⟩;dsimp only at s o⊢;refine AD (AF (J (At Z Z Z) (AC (AD (A4 Z (λf=>?_) (λf=>?_))))))
 .have a:k<S.length:=BG f;refine AU (AD (AX (AD (AF ?_))));have w:=b _ (ϑ a);have y:g.length<=100000:=by rw[o];unfold iC;rw[χ];have:=lB (λi=>decide (BN i r<0)) (S.take k);rw[θ] at this;omega
  refine J (Al (k) Z Z (Z) (AP a) Qs Z DT Z) (J (CT Z Z Cc Z) (V (CF 3 Fk Z Z Z Z) (V (Bc Z Z Z Z Z Z Z DT) ?_)));refine AC (AD (AF (J (Ar Z Z Cc Z Z Z) (J (Ar Z Z Cw Z Z Z) (J (Ak (Z0 S[k] r (by omega) (by omega) (by omega)) Z Z) (J (At Z Z Z) (AC (A4 Z (λc=>?_) (λc=>?_)))))))))
  .refine AF (cl Z Z (J (AL Z QU Z Z Z) ?_));refine J (AQ Z Z Z Ag Z) (V (CB 4 Ap Z Z Z Z Z Z Z Z) (V (DQ (g) ([S[k].id]) Z Z Z Z Z Z Z Z Ap (by simp only[η];omega) Z Z Z Z) (AB Z Z (AC (AF (J (Ac Z Z (AJ (k+1) (by omega)) Z) (cl Z Z (AC ?_))))))));exact ⟨(k+1,_),⟨by show k+1<=_;omega,by show _=iC (S.take (k+1)) r;unfold iC;rw[cT a,ϱ (by simpa using c),kA,o];rfl⟩,by show S.length-(k+1)<S.length-k;omega,AR u [2,900] Z (Z) ⟨Z,Z,Z,Z,Z,trivial⟩⟩
  .refine AU (AF (J (Ac Z Z (AJ (k+1) (by omega)) Z) (cl Z Z (AC ?_))));exact ⟨(k+1,_),⟨by show k+1<=_;omega,by show _=iC (S.take (k+1)) r;unfold iC;rw[cT a,υ (by simpa using c),kZ,o];rfl⟩,by show S.length-(k+1)<S.length-k;omega,AR u [2,900] Z (Z) ⟨Z,Z,Z,Z,Z,trivial⟩⟩
 .refine Aq (AD (Fi (emb:=AE) 5 900 g Z Z Z Z Z Z Z (AF (cl Z Z (AB Z Z (AC (A5 ?_)))))));exact ⟨_,[],[],A2 Z,Z,Z,by rw[o,ζ (by have h:=f;omega)],Z⟩
def P6(l:List dr)(id:Int):dr×Bool:=match l.find? λx=>decide (x.id=id) with
 | some x=>(x,true)
 | none=>(ey,false)
theorem VW{id:Int}(b:y<a.length)(c:id∉(a.take y).map dr.id)(h:a[y].id=id):P6 a id=(a[y],true):=by
 have:a.find? (λx=>decide (x.id=id))=some a[y]:=by
  grind[List.find?_eq_some_iff_getElem,Gh]
 unfold P6;rw[this]
theorem gR{id:Int}(h:id∉a.map dr.id):P6 a id=(ey,false):=by grind[P6]
theorem bS:∀w O v,A0 w O (.agg [AE 0,AE 0,AE 0,.sl (some true) [],.sl (some true) [],.sl (some true) []]) v->A0 w O (Ah ey) v:=λw O v h=>h.aggMono Z (by simp[D.one]) λi c g b a v f=>by
 match i,b,a with
 | 0,b,a=>injection b with b;injection a with a;subst b a;exact f
 | 1,b,a=>injection b with b;injection a with a;subst b a;exact f
 | 2,b,a=>injection b with b;injection a with a;subst b a;exact f
 | 3,b,a=>injection b with b;injection a with a;subst b a;exact f.anyNil
 | 4,b,a=>injection b with b;injection a with a;subst b a;exact f.anyNil
 | 5,b,a=>injection b with b;injection a with a;subst b a;exact f.anyNil
theorem uB(p:iB)(id:Int)(o:FE p):AI prog 24 [.d (BM p),.d (AE id)] (.tup [Ah (P6 (hY p) id).1,Aj (P6 (hY p) id).2]):=by
 have g:=M8 p o;have j:=DY p;have v:=o.2.1;have b:∀i∈hY p,i.po.length<=100000/\i.pa.length<=100000/\i.af.length<=100000:=λi t=>o.2.2 i (Ij t)
 obtain ⟨S,w⟩:∃S,hY p=S:=⟨_,Z⟩
 rw[w] at g j b⊢;refine Av func24 Z Z ntmps24 Z Z Z λF r=>(AD (AF (V (Ba 1 Z Z Z Z Z Z Z) (V (CF 2 Fk Z Z Z Z) (AB Z Z (AC (AD ?_)))))));refine AD (AF (J (Ar Z Z CG Z Z Z) (J (Ak (g) Z Z) (J (BW Z Qs Z) (cl Z Z (AC (AX (BC (α:=Nat) (λk=>⟨23,[(1,.d (AE id)),(4,(.ptr 2 0 0)),(9,(.d (.sl none (S.map Ah)))),(10,(.d (AE (S.length:Int)))),(11,(.d (AE (k:Int))))],[(2,[.blk 55 [.d (AE 0),.d (AE 0),.d (AE 0),Gg,Gg,Gg]])]⟩) (λk=>k<=S.length/\id∉(S.take k).map dr.id) (λk=>S.length-k) (0) (⟨κ _,by simp⟩) (AR r [2] Z Z ⟨Z,Z,Z,Z,Z,trivial⟩) ?_))))))));rintro k ⟨s,l⟩;refine AD (AF (J (At Z Z Z) (AC (AD (A4 Z (λf=>?_) (λf=>?_))))))
 .have a:k<S.length:=BG f;refine AU (AD (AX (AD (AF ?_))));have u:=b _ (ϑ a);refine J (Al (k) Z Z (Z) (AP a) Qs Z DT Z) (J (CT Z Z Cc Z) (V (CF 3 Fk Z Z Z Z) (V (Bc Z Z Z Z Z Z Z DT) ?_)));refine AC (AD (AF (J (AL Z QU Z Z Z) (J (AQ Z Z Z Ag Z) (cl Z Z (J (GW Z Z Z) (AC (A4 Z (λc=>?_) (λc=>?_)))))))))
  .refine AD (AF (J (Ar Z Z Cc Z Z Z) (J (Ak (qM S[k] (by omega) (by omega) (by omega)) Z Z) (V (Bc Z Z Z Z Z Z Z DT) (AB Z Z (AC (A5 ?_)))))));exact ⟨_,[],[],A2 Z,Z,Z,by rw[VW a l c],Z⟩
  .refine AU (AF (J (Ac Z Z (AJ (k+1) (by omega)) Z) (cl Z Z (AC ?_))));exact ⟨k+1,⟨by show k+1<=_;omega,HP a l c⟩,by show S.length-(k+1)<S.length-k;omega,AR r [2] Z (Z) ⟨Z,Z,Z,Z,Z,trivial⟩⟩
 .refine Aq (AD (AF (J (Dx Fk tL Z Z Z) (Yn 22 (Ah ey) Z bS (V (Bc Z Z Z Z Z Z Z DT) (AB Z Z (AC (A5 ?_))))))));exact ⟨_,[],[],A2 Z,Z,Z,by rw[gR (by rw[ζ (by have h:=f;omega)] at l;exact l)],Z⟩
theorem OR(i:(a.map dr.id).Nodup){x y:dr}(c:x∈a)(g:y∈a)(h:x.id=y.id):x=y:=by
 induction a with
 | nil=>cases c
 | cons b a f=>
  grind
theorem Xy(h:FL a=0):(a.map dr.id).Nodup:=by
 have f:=Tr.1 h;rw[List.Nodup,lA,lc];intro i j g b c e;have:=f j (Ω.2 b)
 grind[K7,Gh]
theorem wR(p:iB)(h:xK p):AI prog 13 [.d (BM p)] (BM p):=by
 obtain ⟨y,x,w⟩:=h;refine Av func13 Z Z ntmps13 Z Z Z λF l=>(AD (AF (V (Ba 1 Z Z Z Z Z Z Z) (V (CF 2 s7 Z Z Z Z) (AC (AD (AF (V (CF 3 s7 Z Z Z Z) ?_))))))));refine AC (AD (AD (D3 3 0 0 901 S9 Z Z Z Z Z Z Z (AF (AB Z Z (AC (AX (BC (α:=List gf) (λb=>⟨51,[(1,(.ptr 1 0 0)),(2,(.ptr 2 0 0)),(3,(.ptr 3 0 0)),(4,(.d (AE (b.length:Int))))],[(901,[.rowD 88 7 (b.map BT)]),(1,[B3 25 p]),(2,[.blk 39 [Gg,Gg]]),(3,[.blk 39 [.own 901 0 b.length,Gg]])]⟩) (λb=>b=p.ro.take b.length/\b.length<=p.ro.length) (λb=>p.ro.length-b.length) ([]) (⟨by simp,κ _⟩) (AR l [901,1,2,3] Z Z ⟨Z,Z,Z,Z,trivial⟩) ?_))))))));rintro b ⟨s,u⟩;refine AD ?_;refine AD (AF (cl Z Z (J (AL Z Kj Z Z Z) (J (AQ Z Z Z Dy Z) (J (BW Z F0 Z) (J (At Z Z Z) (AC (A4 Z (λj=>?_) (λj=>?_)))))))))
 .have f:b.length<p.ro.length:=BG j;refine AU (AD (AX (Bm [[],[0],[],[2],[],[2,3,4],[2,3,4,5],[2,3,4,5,6],[2,3,4,5,6,7],[],[9],[],[9,10,11],[9,10,11,12],[9,10,11,12,13],[2,3,4,5,6,7,8,9,10,11,12,13,14],[2,3,4,5,6,7,8,9,10,11,12,13,14,15],rg 17,rg 18,rg 19] mixed Z (BY (AK [3] Z (AL Z Gm Z Z Z) (Ay [13] Z Z (λ_=>A9 (AQ Z Z Z Uo Z)) (AK [1] Z (AL Z Kj Z Z Z) ?_)))))));refine Ay [15] Z Z (λ_=>A9 (AQ Z Z Z Dy Z)) (A7 4 Z Z (AK [16,17] Z (Al (b.length) Z Z (Z) (AP f) F0 Z Bd Z) (AK [18] Z (Jy Z QS Z Z Z) (AK [19] Z (CT Z Z C4 Z) (AK [20] Z (Ak (fA p.ro[b.length].r) Z Z) (AK [1] Z (AL Z Kj Z Z Z) (Ay [22] Z Z (λ_=>A9 (AQ Z Z Z Dy Z)) (A7 4 Z Z ?_))))))));refine AK [23,24] Z (Al (b.length) Z Z (Z) (AP f) F0 Z Bd Z) (AK [25] Z (IJ Z Jl Z Z Z) (AK [26] Z (BZ Z Z FK Z) (AK [21,27] Z (Dx Tu tK Z Z Z) (Cq [28] [50] [(29,_)] Z Z (λ_=>Cd (CB 50 S9 Z Z Z Z Z Z Z Z)) (.inr ⟨29,_,Z,Z,Z,Z,Z⟩) Z Z Z Z Z (BR 17 Z Z Z (AZ 18 Z Z (V (DQ (b) ([p.ro[b.length]]) Z Z Z Z Z Z Z Z S9 (by simp only[η];omega) Z Z Z Z) (AC ⟨Z,?_⟩))))))));refine AZ 19 Z Z (J (AL Z Gm Z Z Z) (AC ⟨Z,?_⟩));refine AZ 20 Z Z (V (Bc Z Z Z Z Z Z Z vd) (AC ⟨Z,?_⟩));refine Bb (AF (cl Z Z (J (Ac Z Z (Ty b p.ro[b.length] (by omega)) Z) (AB Z Z (AC ?_)))));exact ⟨b++ [p.ro[b.length]],⟨OA s f,by rw[Δ];show b.length+1<=_;omega⟩,by rw[Δ];show p.ro.length-(b.length+1)<p.ro.length-b.length;omega,AR l [901,1,2,3] Z (Z) ⟨Z,Z,Z,Z,trivial⟩⟩
 .refine Aq (AD (AD ?_));have k:=S3 s (λh=>j (by omega));refine qk (ys:=p.ro.map BT) 3 0 0 901 Z Z Z (by simp) (by rw[k];exact ζ (by simp)) Z Z Z Z Z Z (D3 3 0 1 902 QZ Z Z Z Z Z Z Z (AF (AB Z Z (AC (AX (BC (α:=List dr) (λa=>⟨51,[(1,(.ptr 1 0 0)),(2,(.ptr 2 0 0)),(3,(.ptr 3 0 0)),(5,(.d (AE (a.length:Int))))],[(902,[.rowD 55 6 (a.map Ah)]),(1,[B3 25 p]),(2,[.blk 39 [Gg,Gg]]),(3,[.blk 39 [.d (.sl none (p.ro.map BT)),.own 902 0 a.length]])]⟩) (λa=>a=p.it.take a.length/\a.length<=p.it.length) (λa=>p.it.length-a.length) ([]) (⟨by simp,κ _⟩) (AR l [902,1,2,3] Z Z ⟨Z,Z,Z,Z,trivial⟩) ?_))))));rintro a ⟨o,t⟩;refine AD ?_;refine AD (AF (cl Z Z (J (AL Z JS Z Z Z) (J (AQ Z Z Z DE Z) (J (BW Z No Z) (J (At Z Z Z) (AC (A4 Z (λi=>?_) (λi=>?_)))))))))
  .have c:a.length<p.it.length:=BG i;refine AU ?_;refine AD (AX (Bm [[],[0],[],[2],[],[2,3,4],[2,3,4,5],[2,3,4,5,6],[2,3,4,5,6,7],rg 9,rg 10,rg 11] mixed Z (BY (AK [3] Z (AL Z FO Z Z Z) (Ay [39] Z Z (λ_=>A9 (AQ Z Z Z Md Z)) (AK [1] Z (AL Z JS Z Z Z) (Ay [41] Z Z (λ_=>A9 (AQ Z Z Z DE Z)) (A7 5 Z Z ?_))))))));have v:=w _ (ϑ c);refine AK [42,43] Z (Al (a.length) Z Z (Z) (AP c) No Z CP Z) (AK [44] Z (CT Z Z Ev Z) (AK [45] Z (Ak (aj p.it[a.length] (by omega) (by omega) (by omega)) Z Z) (Cq [46] [51] [(47,_)] Z Z (λ_=>Cd (CB 51 QZ Z Z Z Z Z Z Z Z)) (.inr ⟨47,_,Z,Z,Z,Z,Z⟩) Z Z Z Z Z (BR 9 Z Z Z (AZ 10 Z Z (V (DQ (a) ([p.it[a.length]]) Z Z Z Z Z Z Z Z QZ (by simp only[η];omega) Z Z Z Z) (AC ⟨Z,?_⟩)))))));refine AZ 11 Z Z (J (AL Z FO Z Z Z) (AC ⟨Z,?_⟩));refine AZ 12 Z Z (V (Bc Z Z Z Z Z Z Z sp) (AC ⟨Z,?_⟩));refine Bb (AF (cl Z Z (J (Ac Z Z (Ty a p.it[a.length] (by omega)) Z) (AB Z Z (AC ?_)))));exact ⟨a++ [p.it[a.length]],⟨OA o c,by rw[Δ];show a.length+1<=_;omega⟩,by rw[Δ];show p.it.length-(a.length+1)<p.it.length-a.length;omega,AR l [902,1,2,3] Z (Z) ⟨Z,Z,Z,Z,trivial⟩⟩
  .refine Aq (AD ?_);have g:=S3 o (λh=>i (by omega));refine qk (ys:=p.it.map Ah) 3 0 1 902 Z Z Z (by simp) (by rw[g];exact ζ (by simp)) Z Z Z Z Z Z (AF (J (Ar Z Z CG Z Z Z) (V (Bc Z Z Z Z Z Z Z x1) (AC (A5 ?_)))));exact ⟨_,[],[],A2 Z,Z,Z,Z,Z⟩
def IQ(ids l:List Int)(k:Nat):Int:=if l.getD k 0∉ids then 9 else if l.getD k 0∈l.take k then 7 else 0
def Sc(ids l:List Int):Int:=BP ((List.range l.length).map (IQ ids l))
def EZ(p:iB)(l:List Int):Int:=if Ad p≠0 then Ad p else Sc (p.it.map dr.id) l
theorem Sb{a l:List Int}(h:Sc a l=0):l.Nodup/\∀x∈l,x∈a:=by
 have c:=Tr.1 h;refine ⟨lc.2 λi j k b g e=>?_,λx f=>?_⟩
 .have:=c j (Ω.2 b)
  grind[IQ,nD]
 .obtain ⟨j,b,rfl⟩:=km f;have:=c j (Ω.2 b)
  grind[IQ]
theorem Xm(p:iB)(l:List Int)(C:FE p)(H:l.length<=100000)(w:EZ p l≠0):AI prog 159 [.d (BM p),.d (.sl none (l.map AE))] (.tup [.raw (.map none),AE (EZ p l)]):=by
 have c:=GA p C;have E:=C.2.1
 by_cases t:Ad p=0
 .have o:=Xy (HZ t).2.1;rw[t] at c;have y:EZ p l=Sc (p.it.map dr.id) l:=υ (λh=>h t);rw[y] at w⊢
  obtain ⟨G,s⟩:∃e,Sc (p.it.map dr.id) l=e:=⟨_,Z⟩
  rw[s] at w⊢;refine Av func159 Z Z ntmps159 Z Z Z λF r=>(AD (AF (V (Ba 1 Z Z Z Z Z Z Z) (AB Z Z (AB Z Z (AC (AD (AD ?_))))))));refine AF (J (Ar Z Z CG Z Z Z) (J (Ak (c) Z Z) (AB Z Z (AC (AD (AF (cl Z Z (J (DP Z Z Z) ?_))))))));refine AC (Cr Z ((by decide)) (AU (AD (AF (V (SV 2 Z Z Z Z) (AB Z Z (AC (AD ?_))))))));refine AD (AF (J (AL Z FO Z Z Z) (J (AQ Z Z Z Md Z) (J (BW Z Qs Z) (cl Z Z (AC (AX (BC (α:=Nat) (λk=>⟨50,[(1,.d (.sl none (l.map AE))),(7,(.map 2 0)),(20,(.d (.sl none (p.it.map Ah)))),(21,(.d (AE (p.it.length:Int)))),(22,(.d (AE (k:Int))))],[(2,[B6 AE Aj (Aw ((p.it.take k).map dr.id))])]⟩) (λk=>k<=p.it.length) (λk=>p.it.length-k) (0) (κ _) (AR r [2] Z Z ⟨Z,Z,Z,Z,Z,trivial⟩) ?_))))))));rintro k v;refine AD (AF (J (At Z Z Z) (AC (AD (A4 Z (λi=>?_) (λi=>?_))))))
  .have a:k<p.it.length:=BG i;refine AU (AD (AX (AD (AF ?_))));have u:p.it[k].id∉(p.it.take k).map dr.id:=λh=>by rw[List.Nodup,lA,lc] at o;obtain ⟨x,D,e⟩:=Γ.1 h;obtain ⟨j,I,rfl⟩:=nD.1 D;exact o j k (by omega) a (by omega) e
   refine J (Al (k) Z Z (Z) (AP a) Qs Z DT Z) (J (CT Z Z Cc Z) (V (CF 3 Fk Z Z Z Z) (V (Bc Z Z Z Z Z Z Z DT) (AC (AF ?_)))));refine cl Z Z (J (AL Z QU Z Z Z) (J (AQ Z Z Z Ag Z) (V (Wa (Aw ((p.it.take k).map dr.id)) (p.it[k].id) (true) Z Z Z FU I2 Z Z) (AC (AF (J (Ac Z Z (AJ (k+1) (by omega)) Z) (cl Z Z (AC ?_))))))));exact ⟨k+1,by show k+1<=_;omega,by show p.it.length-(k+1)<p.it.length-k;omega,AR r [2] Z (by rw[EE a,<-jU u];rfl) ⟨Z,Z,Z,Z,Z,trivial⟩⟩
  .refine Aq (AD ?_);rw[ζ (show p.it.length<=k by have h:=i;omega)];refine AF (V (SV 4 Z Z Z Z) (AB Z Z (AC ?_)));refine AD (AD (AF (cl Z Z (J (BW Z E0 Z) (cl Z Z (AC (AX (BC (α:=Nat) (λk=>⟨50,[(7,(.map 2 0)),(10,(.map 4 0)),(31,(.d (.sl none (l.map AE)))),(32,(.d (AE (l.length:Int)))),(33,(.d (AE (k:Int))))],[(2,[B6 AE Aj (Aw (p.it.map dr.id))]),(4,[B6 AE Aj (Aw (l.take k))])]⟩) (λk=>k<=l.length/\G=BP (((List.range l.length).drop k).map (IQ (p.it.map dr.id) l))) (λk=>l.length-k) (0) (⟨κ _,s.symm⟩) (AR r [2,4] Z Z ⟨Z,Z,Z,Z,Z,trivial⟩) ?_))))))));rintro k ⟨v,B⟩;refine AD (AF (J (At Z Z Z) (AC (AD (A4 Z (λg=>?_) (λg=>?_))))))
   .have a:k<l.length:=BG g;refine AU (AD (AX (AD (AF ?_))));have f:=sT a B;have b:=EC 0 a;refine J (Al (k) Z Z (Z) (AP a) E0 Z BE Z) (J (BZ Z Z Ag Z) ?_);refine AB Z Z (AC (AD (AX (AD (AF (cl Z Z (cl Z Z (J (I4 (Aw (p.it.map dr.id)) (l[k]) (false) _ Z Z Z FU I2 W4 Z Z) ?_))))))));rw[Zh];refine J (JQ Z Z) (AB Z Z (AC (A4 Z (λA=>?_) (λA=>?_))))
    .refine AD (AF (AB Z Z (AB Z Z (AC (A5 ?_)))));exact ⟨_,[],[],A2 Z,Z,Z,by rw[f.2 9 (by unfold IQ;rw[b,ϱ (by simp_all)]) (by decide)],Z⟩
    .refine AD (AF (cl Z Z (cl Z Z (J (I4 (Aw (l.take k)) (l[k]) (false) _ Z Z Z FU I2 W4 Z Z) ?_))));rw[Zh];refine AB Z Z (AC (A4 Z (λz=>?_) (λz=>?_)))
     .refine AD (AF (AB Z Z (AB Z Z (AC (A5 ?_)))));exact ⟨_,[],[],A2 Z,Z,Z,by rw[f.2 7 (by unfold IQ;rw[b,υ (by simp_all),ϱ (by simp_all)]) (by decide)],Z⟩
     .refine AU ?_;refine AF (cl Z Z (cl Z Z (V (Wa (Aw (l.take k)) (l[k]) (true) Z Z Z FU I2 Z Z) (AC (AF (J (Ac Z Z (AJ (k+1) (by omega)) Z) (cl Z Z (AC ?_))))))));exact ⟨k+1,⟨by show k+1<=_;omega,f.1 (by unfold IQ;rw[b,υ (by simp_all),υ (by simp_all)])⟩,by show l.length-(k+1)<l.length-k;omega,AR r [2,4] Z (by rw[ψ a,<-jU (by simp_all)];rfl) ⟨Z,Z,Z,Z,Z,trivial⟩⟩
   .refine Aq (AD (AF (cl Z Z (AB Z Z (AB Z Z (AC (A5 ?_)))))));exact absurd (by rw[B,nB (by have h:=g;simp only[kj];omega)];rfl) w
 .have y:EZ p l=Ad p:=ϱ t;rw[y];refine Av func159 Z Z ntmps159 Z Z Z λF r=>(AD (AF (V (Ba 1 Z Z Z Z Z Z Z) (AB Z Z (AB Z Z (AC (AD (AD ?_))))))));refine AF (J (Ar Z Z CG Z Z Z) (J (Ak (c) Z Z) (AB Z Z (AC (AD (AF (cl Z Z (J (DP Z Z Z) ?_))))))));refine AC (CM Z ((Υ t)) (AD (AF (cl Z Z (AB Z Z (AB Z Z (AC (A5 ?_))))))));exact ⟨_,[],[],A2 Z,Z,Z,Z,Z⟩
theorem bp(p:iB)(l:List Int)(A:FE p)(K:l.length<=100000)(c:EZ p l=0):AO prog 159 [.d (BM p),.d (.sl none (l.map AE))] [] λr H=>r= .tup [.map 4 0,.d (AE 0)]/\H=[(4,[B6 AE Aj (Aw l)])]:=by
 have s:=GA p A;have E:=A.2.1
 have z:Ad p=0:=by
  unfold EZ at c;split at c
  .exact c
  .rename_i h;simpa using h
 have i:=Xy (HZ z).2.1;rw[z] at s;have G:EZ p l=Sc (p.it.map dr.id) l:=υ (λh=>h z);rw[G] at c;refine Av func159 Z Z ntmps159 Z Z Z λF t=>(AD (AF (V (Ba 1 Z Z Z Z Z Z Z) (AB Z Z (AB Z Z (AC (AD (AD ?_))))))));refine AF (J (Ar Z Z CG Z Z Z) (J (Ak (s) Z Z) (AB Z Z (AC (AD (AF (cl Z Z (J (DP Z Z Z) ?_))))))));refine AC (Cr Z ((by decide)) (AU (AD (AF (V (SV 2 Z Z Z Z) (AB Z Z (AC (AD ?_))))))));refine AD (AF (J (AL Z FO Z Z Z) (J (AQ Z Z Z Md Z) (J (BW Z Qs Z) (cl Z Z (AC (AX (BC (α:=Nat) (λk=>⟨50,[(1,.d (.sl none (l.map AE))),(7,(.map 2 0)),(20,(.d (.sl none (p.it.map Ah)))),(21,(.d (AE (p.it.length:Int)))),(22,(.d (AE (k:Int))))],[(2,[B6 AE Aj (Aw ((p.it.take k).map dr.id))])]⟩) (λk=>k<=p.it.length) (λk=>p.it.length-k) (0) (κ _) (AR t [2] Z Z ⟨Z,Z,Z,Z,Z,trivial⟩) ?_))))))));rintro k u;refine AD (AF (J (At Z Z Z) (AC (AD (A4 Z (λg=>?_) (λg=>?_))))))
 .have a:k<p.it.length:=BG g;refine AU (AD (AX (AD (AF ?_))));have b:p.it[k].id∉(p.it.take k).map dr.id:=λh=>by rw[List.Nodup,lA,lc] at i;obtain ⟨x,B,e⟩:=Γ.1 h;obtain ⟨j,C,rfl⟩:=nD.1 B;exact i j k (by omega) a (by omega) e
  refine J (Al (k) Z Z (Z) (AP a) Qs Z DT Z) (J (CT Z Z Cc Z) (V (CF 3 Fk Z Z Z Z) (V (Bc Z Z Z Z Z Z Z DT) (AC (AF ?_)))));refine cl Z Z (J (AL Z QU Z Z Z) (J (AQ Z Z Z Ag Z) (V (Wa (Aw ((p.it.take k).map dr.id)) (p.it[k].id) (true) Z Z Z FU I2 Z Z) (AC (AF (J (Ac Z Z (AJ (k+1) (by omega)) Z) (cl Z Z (AC ?_))))))));exact ⟨k+1,by show k+1<=_;omega,by show p.it.length-(k+1)<p.it.length-k;omega,AR t [2] Z (by rw[EE a,<-jU b];rfl) ⟨Z,Z,Z,Z,Z,trivial⟩⟩
 .refine Aq (AD ?_);rw[ζ (show p.it.length<=k by have h:=g;omega)];refine AF (V (SV 4 Z Z Z Z) (AB Z Z (AC ?_)));refine AD (AD (AF (cl Z Z (J (BW Z E0 Z) (cl Z Z (AC (AX (BC (α:=Nat) (λk=>⟨50,[(7,(.map 2 0)),(10,(.map 4 0)),(31,(.d (.sl none (l.map AE)))),(32,(.d (AE (l.length:Int)))),(33,(.d (AE (k:Int))))],[(2,[B6 AE Aj (Aw (p.it.map dr.id))]),(4,[B6 AE Aj (Aw (l.take k))])]⟩) (λk=>k<=l.length) (λk=>l.length-k) (0) (κ _) (AR t [2,4] Z Z ⟨Z,Z,Z,Z,Z,trivial⟩) ?_))))))));rintro k u;refine AD (AF (J (At Z Z Z) (AC (AD (A4 Z (λf=>?_) (λf=>?_))))))
  .have a:k<l.length:=BG f;refine AU (AD (AX (AD (AF ?_))));have I:=Tr.1 c k (Ω.2 a);have D:=EC 0 a;have v:l[k]∈p.it.map dr.id:=(Sb c).2 _ (ϑ a);have b:l[k]∉l.take k:=λh=>by have o:=(Sb c).1;rw[List.Nodup,lc] at o;obtain ⟨j,C,e⟩:=nD.1 h;exact o j k (by omega) a (by omega) e
   refine J (Al (k) Z Z (Z) (AP a) E0 Z BE Z) (J (BZ Z Z Ag Z) ?_);refine AB Z Z (AC (AD (AX (AD (AF (cl Z Z (cl Z Z (J (I4 (Aw (p.it.map dr.id)) (l[k]) (false) _ Z Z Z FU I2 W4 Z Z) ?_))))))));rw[Zh];refine J (JQ Z Z) (AB Z Z (AC (A4 Z (λy=>?_) (λy=>?_))))
   .refine AD (AF (AB Z Z (AB Z Z (AC (A5 ?_)))));exact absurd v (by simp_all)
   .refine AD (AF (cl Z Z (cl Z Z (J (I4 (Aw (l.take k)) (l[k]) (false) _ Z Z Z FU I2 W4 Z Z) ?_))));rw[Zh];refine AB Z Z (AC (A4 Z (λw=>?_) (λw=>?_)))
    .refine AD (AF (AB Z Z (AB Z Z (AC (A5 ?_)))));exact absurd b (by simp_all)
    .refine AU ?_;refine AF (cl Z Z (cl Z Z (V (Wa (Aw (l.take k)) (l[k]) (true) Z Z Z FU I2 Z Z) (AC (AF (J (Ac Z Z (AJ (k+1) (by omega)) Z) (cl Z Z (AC ?_))))))));exact ⟨k+1,by show k+1<=_;omega,by show l.length-(k+1)<l.length-k;omega,AR t [2,4] Z (by rw[ψ a,<-jU b];rfl) ⟨Z,Z,Z,Z,Z,trivial⟩⟩
  .refine Aq (AD (AF (cl Z Z (AB Z Z (AB Z Z (AC (A5 ?_)))))));exact ⟨_,[4],_,A2 Z,Z,Z,Z,by rw[ζ (show l.length<=k by have h:=f;omega)]<;>rfl⟩
theorem Dr(x:AW×Int)(l:List (AW×Int))(r:AW):Ai (x::l) r=(if x.1=r then x.2 else 0)+Ai l r:=by simp[Ai]
theorem Vu{m:List (AW×Int)}(h:i.Perm m)(r:AW):Ai i r=Ai m r:=by
 induction h with
 | nil=>rfl
 | cons x _ c=>rw[Dr,Dr,c]
 | swap x y i=>simp only[Dr];omega
 | trans _ _ b a=>rw[b,a]
theorem G8(h:H∉i.map Prod.fst):Ai i H=0:=by
 induction i with
 | nil=>rfl
 | cons x i a=>
  grind[Dr]
theorem Xj(b:(i.map Prod.fst).Nodup){v:Int}(h:(H,v)∈i):Ai i H=v:=by
 induction i with
 | nil=>cases h
 | cons x i a=>
  grind[Dr,G8]
theorem Vt(c:List (AW×Int))(r:AW):Ai (jb c) r=Ai c r:=by grind[Xj,Fq,EG,G8,JZ]
theorem oq{m:List (c×L)}{B seen:List Nat}{x:c×L}(h:x∈CX m B seen):x∈m:=by
 unfold CX at h;obtain ⟨y,f,rfl⟩:=Γ.1 h;exact (List.of_mem_zip (a:=y.1) (b:=y.2) (Φ.1 f).1).1
theorem ZG{m:List (c×L)}{B seen:List Nat}:(CX m B seen).length<=m.length:=by grind[CX]
def GS(l:List dr)(r:AW):Int:=(l.map λi=>Ai (jt i) r).sum
theorem aC(l:List dr)(i:dr)(r:AW):GS (l++ [i]) r=GS l r+Ai (jt i) r:=by simp[GS]
def Jv(l:List Int)(i:dr):Bool:=decide (i.id∈l)
theorem G4(h:FL a=0):∀i∈a,Az i=0:=λi f=>by
 have g:=Tr.1 h;obtain ⟨j,b,rfl⟩:=km f;have:=g j (Ω.2 b);unfold K7 at this;rw[EC ey b] at this
 split at this
 .contradiction
 .rename_i c;simpa using c
theorem O0(h:Az t=0)(r:AW): -Mx<=Ai (jt t) r/\Ai (jt t) r<=Mx:=by
 have a:=(FD h).2.2.2.2.2.2.2.2;unfold NG at a
 split at a
 .cases a
 .rename_i c
  by_cases b:r∈(jb (jt t)).map Prod.fst
  .grind[EG]
  grind[G8,JZ]
theorem sM(h:Az t=0):QW (jb (jt t)):=λx a=>by
 have b:=((EG (jt t) x.1 x.2).1 a).2;rw[b];simpa [Mx] using O0 h x.1
theorem w8(h:Az t=0):(jb (jt t)).length<=1280:=by
 have a:=(FD h).1;have c:=a.po;have b:=a.pa;have:=I9 (jt t);rw[ID] at this;omega
theorem Oc{l:List dr}(h:∀i∈l,Az i=0)(a:l.length<=1000)(r:AW): -1000000000000000000<=GS l r/\GS l r<=1000000000000000000:=by
 have:=JY (l:=l) (f:=λi=>Ai (jt i) r) (B:=1000000000000000) (λi b=>by simpa [Mx] using O0 (h i b) r) 1000 a (by omega);unfold GS;omega
def Jr(p:iB)(l:List Int):List gf:=p.ro.map λx=>⟨x.r,x.n+GS (p.it.filter (Jv l)) x.r⟩
theorem HF(h:Db w=0):∀x∈w,-4000000000000000<=x.n/\x.n<=4000000000000000:=λx b=>by
 have f:=Tr.1 h;obtain ⟨j,a,rfl⟩:=km b;have:=f j (Ω.2 a);unfold If at this;rw[EC IU a] at this
 split at this
 .contradiction
 .split at this
  .cases this
  .rename_i c;simp only[Mx] at c;omega
theorem Vb{p:c->Bool}(a:y<f.length):(f.take (y+1)).filter p=(f.take y).filter p++(if p f[y] then [f[y]] else []):=cT a
theorem cr(p:iB)(l:List Int)(Y:FE p)(hl:l.length<=100000)(G:p.it.length<=1000):AI prog 113 [.d (BM p),.d (.sl none (l.map AE))] (.tup [.sl none ((if EZ p l=0 then Jr p l else []).map BT),AE (EZ p l)]):=by
 by_cases j:EZ p l=0
 .have X:=(bp p l Y hl j).by [(4,40)] rfl
  have h0:Ad p=0:=by
   unfold EZ at j;split at j
   .exact j
   .rename_i h;simpa using h
  have w:=G4 (HZ h0).2.1;have K:=HF (HZ h0).1;have hb1:=Y.1;rw[ϱ j,j];refine Av func113 Z Z ntmps113 Z Z Z λF u=>(AD (AF (V (Ba 1 Z Z Z Z Z Z Z) (AB Z Z ?_))));refine AB Z Z (AC (AD (AF (J (Ar Z Z CG Z Z Z) (cl Z Z (V (F8 X Z [40] ⟨Z,trivial⟩ Z Z Z Z Z Z Z Z Z) (cl Z Z (J (D6 Z Z Z) ?_))))))));refine J (D6 Z Z Z) (AB Z Z (AB Z Z (AC (AD (AD (AF (cl Z Z (J (DP Z Z Z) ?_))))))));refine AC (Cr Z ((by decide)) (AU (AD (AF (V (SV 2 Z Z Z Z) (AB Z Z (AC (AD ?_))))))));refine AD (AF (J (AL Z FO Z Z Z) (J (AQ Z Z Z Md Z) (J (BW Z Qs Z) (cl Z Z (AC (AX (BC (α:=Nat×List (AW×Int)) (λq=>⟨76,[(2,(.ptr 1 0 0)),(6,(.map 40 0)),(8,(.map 2 0)),(27,(.d (.sl none (p.it.map Ah)))),(28,(.d (AE (p.it.length:Int)))),(29,(.d (AE (q.1:Int))))],[(1,[B3 39 p]),(40,[B6 AE Aj (Aw l)]),(2,[B6 Bn AE q.2])]⟩) (λq=>q.1<=p.it.length/\∀r,Af q.2 r 0=GS ((p.it.take q.1).filter (Jv l)) r) (λq=>p.it.length-q.1) ((0,[])) (⟨κ _,λ_=>rfl⟩) (AR u [1,40,2] Z Z ⟨Z,Z,Z,Z,Z,Z,trivial⟩) ?_))))))));rintro ⟨k,M⟩ ⟨T,I⟩;dsimp only at T I⊢;refine AD (AF (J (At Z Z Z) (AC (AD (A4 Z (λD=>?_) (λD=>?_))))))
  .have f:k<p.it.length:=BG D;refine AU (AD (AX (AD (AF ?_))));have y:=w _ (ϑ f);have hs:=(S6 p.it[k] (FD y).1).by [(2,41)] rfl;have g:=sM y;have hEl:=w8 y;have Q:=λr=>Vt (jt p.it[k]) r;have hEn:=Fq (jt p.it[k]);have hT:=Oc (l:=(p.it.take k).filter (Jv l)) (λi U=>w i (lL (Φ.1 U).1)) (jq (lB _ _) (by rw[θ];omega))
   obtain ⟨E,hEE⟩:∃E,jb (jt p.it[k])=E:=⟨_,Z⟩
   rw[hEE] at hs g hEl Q hEn;refine J (Al (k) Z Z (Z) (AP f) Qs Z DT Z) (J (CT Z Z Cc Z) (V (CF 3 Fk Z Z Z Z) ?_));refine V (Bc Z Z Z Z Z Z Z DT) (AC (AD (AD (AF (cl Z Z (J (AL Z QU Z Z Z) (J (AQ Z Z Z Ag Z) (J (I4 (Aw l) (p.it[k].id) (false) _ Z Z Z FU I2 W4 Z Z) ?_))))))));rw[Zh];refine J (JQ Z Z) (AC (A4 Z (λC=>?_) (λC=>?_)))
   .refine Aq (AF (J (Ac Z Z (AJ (k+1) (by omega)) Z) (cl Z Z (AC ?_))));exact ⟨(k+1,M),⟨by show k+1<=_;omega,λr=>by show Af M r 0=GS ((p.it.take (k+1)).filter (Jv l)) r;rw[Vb f,υ (by unfold Jv;simpa using C),kZ];exact I r⟩,by show p.it.length-(k+1)<p.it.length-k;omega,AR u [1,40,2] Z (Z) ⟨Z,Z,Z,Z,Z,Z,trivial⟩⟩
   .refine AU (AD (AF (J (Ar Z Z Cc Z Z Z) (V (F8 hs Z [41] ⟨Z,trivial⟩ Z Z Z Z Z Z Z Z Z) (V (Gz 4 Z Z Z C6 Z Z Z Z) (AC (AX (BC (α:=List Nat×List (AW×Int)) (λq=>⟨76,[(2,(.ptr 1 0 0)),(6,(.map 40 0)),(8,(.map 2 0)),(27,(.d (.sl none (p.it.map Ah)))),(28,(.d (AE (p.it.length:Int)))),(29,(.d (AE (k:Int)))),(40,(.ptr 4 0 0))],[(4,[.iter 41 0 E.length q.1]),(41,[B6 Bn AE E]),(1,[B3 39 p]),(40,[B6 AE Aj (Aw l)]),(2,[B6 Bn AE q.2])]⟩) (λq=>∀r,Af q.2 r 0+Ai (CX E (List.range E.length) q.1) r=GS ((p.it.take k).filter (Jv l)) r+Ai E r) (λq=>(CX E (List.range E.length) q.1).length) (([],M)) (λr=>by show Af M r 0+Ai (CX E (List.range E.length) []) r=_;rw[Dn (by simp),I r]) (AR u [4,41,1,40,2] Z Z ⟨Z,Z,Z,Z,Z,Z,Z,trivial⟩) ?_))))))));rintro ⟨seen,N⟩ R;dsimp only at R⊢;refine AD (AF (Me (E) Z Z Z Z (λL=>?_) (λS o b c t P hB41 s=>⟨_,Z,?_⟩)))
    .have O:∀r,Af N r 0=GS ((p.it.take k).filter (Jv l)) r+Ai (jt p.it[k]) r:=λr=>by have H:=R r;rw[L] at H;rw[<-Q r];have h2:Ai ([]:List (AW×Int)) r=0:=rfl;omega
     refine J (D6 Z Z Z) (AC (AD (Cr Z Z (Aq (AF (J (Ac Z Z (AJ (k+1) (by omega)) Z) (cl Z Z (AC ?_))))))));exact ⟨(k+1,N),⟨by show k+1<=_;omega,λr=>by show Af N r 0=GS ((p.it.take (k+1)).filter (Jv l)) r;rw[Vb f,ϱ (by unfold Jv;simpa using C),aC];exact O r⟩,by show p.it.length-(k+1)<p.it.length-k;omega,AR u [1,40,2] Z (Z) ⟨Z,Z,Z,Z,Z,Z,trivial⟩⟩
    .refine J (D6 Z Z Z) (AC (AD ?_));refine CM Z Z (AU (AX (AD (AF (J (HB (E) S o Z Z Z t P Z) (J (D6 Z Z Z) (J (D6 Z Z Z) (V (CF 5 MI Z Z Z Z) ?_))))))));refine V (Bc Z Z Z Z Z Z Z dA) (AB Z Z (AC (Bm [[],[],[0,1],[],[0,1,2,3],[0,1,3],[0,1,3,5],rg 7] mixed Z (bd 2 ([B6 Bn AE (Bl N b 0)]) Z (A7 8 Z Z (Ay [11] Z Z (λ_=>A9 (Ar Z Z Cw Z Z Z)) (Jm [46,47] [] Z Z Z (λ_=>A9 (I4 (N) (b) (0) _ Z Z Z C6 Ck QQ Z Z)) (λ_=>A9 (I4 (Bl (N) (b) (0)) (b) (0) _ Z Z Z C6 Ck QQ (Eb _ _ _ _) Z)) (A7 12 Z Z ?_))))))))
     have hNb: -6000000000000000000<=Af N b 0+c/\Af N b 0+c<=6000000000000000000:=by {have H:=R b;have h2:=IE (l:=CX E (List.range E.length) seen) (λx hx=>g x (oq hx)) b;have h3:=IE g b;have h4:=ZG (m:=E) (B:=List.range E.length) (seen:=seen);have h5:=hT b;have h6:=g (b,c) (ϖ t);simp only at h6;omega}
     refine AK [48,49] Z (Ac Z Z (Ξ _ (by omega)) Z) (Cq [46,47] [2] [(51,_)] Z Z (λ_=>Cd (H6 (N) (b) (0) Z Z Z C6 Ck QQ Z Z)) (.inr ⟨51,_,Z,Z,Z,Z,Z⟩) Z Z Z Z Z ?_ (hCn:=SL Z));refine AK [51] Z (D6 Z Z Z) (BR 7 Z Z Z (AZ 8 Z Z (V (H8 (N) (b) (0) (Af N b 0+c) Z Z Z Ck Z Z) (AC ⟨Z,?_⟩))));refine Bb ?_;exact ⟨(seen++ [o],_),(λr=>by show Af (B2 N b (Af N b 0+c)) r 0+Ai (CX E (List.range E.length) (seen++ [o])) r=_;have H:=R r;rw[Vu s,Dr] at H;rw[Ip];by_cases e:r=b; · {rw[ϱ e];rw[ϱ e.symm] at H;rw[e] at H⊢;omega}; · {rw[υ e];rw[υ (λh=>e h.symm)] at H;omega}),by show (CX E (List.range E.length) (seen++ [o])).length<(CX E (List.range E.length) seen).length;rw[s.length_eq];exact mS _,AR u [4,41,1,40,2] Z (Z) ⟨Z,Z,Z,Z,Z,Z,Z,trivial⟩⟩
  .refine Aq (AD ?_);have v:p.it.take k=p.it:=ζ (by have h:=D;omega);rw[v] at I;have hTb:=Oc (l:=p.it.filter (Jv l)) (λi U=>w i (Φ.1 U).1) (jq (lB _ _) G);refine AF (AB Z Z (AC (AD (AD ?_))));refine IY 13 900 S9 Z Z Z Z (AF (J (AL Z Gm Z Z Z) (J (AQ Z Z Z Uo Z) (J (BW Z b0 Z) (cl Z Z (AC (AX (BC (α:=List gf) (λa=>⟨76,[(8,(.map 2 0)),(13,(.own 900 0 a.length)),(55,(.d (.sl none (p.ro.map BT)))),(56,(.d (AE (p.ro.length:Int)))),(57,(.d (AE (a.length:Int))))],[(900,[.rowD 88 7 (a.map BT)]),(2,[B6 Bn AE M])]⟩) (λa=>a.length<=p.ro.length/\a=(Jr p l).take a.length) (λa=>p.ro.length-a.length) ([]) (⟨κ _,by simp⟩) (AR u [900,2] Z Z ⟨Z,Z,Z,Z,Z,trivial⟩) ?_))))))));rintro a ⟨ha0,hA⟩;refine AD (AF (J (At Z Z Z) (AC (AD (A4 Z (λA=>?_) (λA=>?_))))))
   .have z:a.length<p.ro.length:=BG A;refine AU (AD (AX ?_));refine AD (AF (J (Al (a.length) Z Z (Z) (AP z) b0 Z QY Z) (J (CT Z Z dm Z) (V (CF 6 Tu Z Z Z Z) (V (Bc Z Z Z Z Z Z Z QY) (AC (Bm [[],[],[1],[],[3],[],[],[6],[5,6,7],[3,4,5,6,7,8],[1,2,3,4,5,6,7,8,9],[1,2,3,4,5,6,7,8,9,10],rg 12,rg 13] mixed Z (BY ?_))))))));refine A7 13 Z Z (AK [15] Z (AL Z GK Z Z Z) (Ay [62] Z Z (λ_=>A9 (Ar Z Z Cw Z Z Z)) (AK [15] Z (AL Z TG Z Z Z) (Ay [64] Z Z (λ_=>A9 (AQ Z Z Z FK Z)) (A7 8 Z Z (AK [15] Z (AL Z GK Z Z Z) (Ay [67] Z Z (λ_=>A9 (Ar Z Z Cw Z Z Z)) (Ay [66,68] Z Z (λ_=>A9 (I4 (M) (p.ro[a.length].r) (0) _ Z Z Z C6 Ck QQ Z Z)) ?_))))))));have hr1:=K _ (ϑ z);have hr2:=hTb p.ro[a.length].r;have hr3:=I p.ro[a.length].r;refine AK [65,69] Z (Ac Z Z (Ξ _ (by omega)) Z) (AK [63,70] Z (Dx Tu tK Z Z Z) (Cq [71] [50] [(72,_)] Z Z (λ_=>Cd (CB 50 S9 Z Z Z Z Z Z Z Z)) (.inr ⟨72,_,Z,Z,Z,Z,Z⟩) Z Z Z Z Z (BR 12 Z Z Z (AZ 13 Z Z (V (DQ (a) ([⟨p.ro[a.length].r,p.ro[a.length].n+Af M p.ro[a.length].r 0⟩]) Z Z Z Z Z Z Z Z S9 (by simp only[η];omega) Z Z Z Z) (AC ⟨Z,?_⟩))))));refine AZ 14 Z Z (AB Z Z (AC ⟨Z,?_⟩));refine Bb (AF (J (Ac Z Z (Ty a (⟨p.ro[a.length].r,p.ro[a.length].n+Af M p.ro[a.length].r 0⟩:gf) (by omega)) Z) (cl Z Z (AC ?_))));exact ⟨a++ [⟨p.ro[a.length].r,p.ro[a.length].n+Af M p.ro[a.length].r 0⟩],⟨by rw[Δ];show a.length+1<=_;omega,by rw[Δ];show _=(Jr p l).take (a.length+1);rw[ψ (by unfold Jr;simpa using z),<-hA];congr 1;unfold Jr;simp[I]⟩,by rw[Δ];show p.ro.length-(a.length+1)<p.ro.length-a.length;omega,AR u [900,2] Z (Z) ⟨Z,Z,Z,Z,Z,trivial⟩⟩
   .refine Aq (AD ?_);have W:a=Jr p l:=by rw[hA];exact ζ (by unfold Jr;rw[χ];have h:=A;omega)
    refine Fi (emb:=BT) 13 900 a Z Z Z Z Z Z Z (AF (cl Z Z (AB Z Z (AB Z Z (AC (A5 ?_))))));exact ⟨_,[],[],A2 Z,Z,Z,by rw[W],Z⟩
 .have X:=Xm p l Y hl j;rw[υ j];refine Av func113 Z Z ntmps113 Z Z Z λF u=>(AD (AF (V (Ba 1 Z Z Z Z Z Z Z) (AB Z Z (Zg 4 Z (AB Z Z ?_))))));refine AC (AD (AF (J (Ar Z Z CG Z Z Z) (cl Z Z (J (Ak (X) Z Z) (cl Z Z (J (DI Z Z Z) (J (DI Z Z Z) ?_))))))));refine AB Z Z (AB Z Z (AC (AD (AD (AF (cl Z Z (J (DP Z Z Z) (AC ?_))))))));refine CM Z ((Υ j)) (AD (AF (cl Z Z (AB Z Z (Zg 4 Z (AB Z Z (AC (A5 ?_))))))));exact ⟨_,[],[],A2 Z,Z,Z,Z,Z⟩
def vF(S:List Int)(x:Int):Bool:=decide (x∈S)
def Q9(S l:List Int):List Int:=l.filter λx=>!vF S x
theorem gL{S l:List Int}(h:∀x∈l,vF S x=false):Q9 S l=l:=rE.2 λx a=>by rw[h x a];rfl
theorem ig(l:List Int)(c:l.length<=1000000):AO prog 89 [.d (.sl none (l.map AE))] [] λr b=>r= .own 20 0 l.length/\b=[(20,[.rowD 3 1 (l.map AE)])]:=by
 refine Av func89 Z Z ntmps89 Z Z Z λF g=>(AD (AF (AB Z Z ?_)));skip;refine AC (AD (AD (AF (cl Z Z (GE 3 Z (λa=>?_) ?_)))))
 .refine J (Em E0 Z Z) (AC (CM Z (Z) (AD (AF (AB Z Z (Yq 2 20 Ap Z Z Z Z (AC (A5 ?_))))))));exact ⟨_,[20],_,A2 Z,Z,Z,by rw[<-χ (f:=AE),a];rfl,by rw[a]⟩
 .refine J (Em E0 Z Z) ?_;refine AC (Cr Z (Z) (AU (AD (AF (V (CB 20 Ap Z Z Z Z Z Z Z Z) (cl Z Z (V (JR (([]:List Int)) (l) Z Z Z Z Z Z (λ_=>rfl) Ap (by simp only[lX];omega) Z Z Z Z) (AB Z Z ?_))))))));skip;refine AC (A5 ?_);exact ⟨_,[20],_,A2 Z,Z,Z,by simp,by simp⟩
def GZ(l:List Int)(i:dr):dr:=⟨i.id,i.pr,i.sq,i.po,i.pa,Q9 l i.af⟩
def EI(l:List Int)(its:List dr):List dr:=(its.filter λi=>!Jv l i).map (GZ l)
def hG(p:iB)(id:Int):dr:=p.it.getD ((p.it.map dr.id).idxOf id) ey
theorem Zf{p:iB}{id:Int}(h:id∈p.it.map dr.id):∃b:(p.it.map dr.id).idxOf id<p.it.length,St id (p.it.map dr.id)=(((p.it.map dr.id).idxOf id:Nat):Int)/\hG p id=p.it[(p.it.map dr.id).idxOf id]/\(hG p id).id=id:=by
 have b:(p.it.map dr.id).idxOf id<(p.it.map dr.id).length:=List.idxOf_lt_length_iff.2 h;have a:(p.it.map dr.id).idxOf id<p.it.length:=by simpa using b
 have c:hG p id=p.it[(p.it.map dr.id).idxOf id]:=EC ey a;refine ⟨a,ϱ h,c,?_⟩;have f:=nJ b
 grind
theorem U1(h:Db w=0):∀x∈w,Bs x.r=0:=λx b=>by
 have f:=Tr.1 h;obtain ⟨j,a,rfl⟩:=km b;have:=f j (Ω.2 a);unfold If at this;rw[EC IU a] at this
 split at this
 .contradiction
 .rename_i c;simpa using c
theorem Uh{m:List c}(h:f.Perm m)(a:c->Int):(f.map a).sum=(m.map a).sum:=by
 induction h with
 | nil=>rfl
 | cons x _ i=>simp[i]
 | swap x y f=>simp;omega
 | trans _ _ g b=>rw[g,b]
abbrev Hd:=Option (Nat×Nat)
def yD:Hd->Nat->Value
 | none,_=> .slice none 0 0
 | some (b,c),n=>sV b n c
abbrev jj(h:Hd)(n:Nat):D:= .raw (yD h n)
structure Nd where
 it:dr
 eh:Hd
 ef:List (Nat×Int)
 ph:Hd
 pl:List (Nat×Nat)
 on:Bool
structure Po where
 r:AW
 room:Int
 sum:Int
 qh:Hd
 q:List Nat
 mi:Nat
structure ji where
 nd:List Nd
 po:List Po
 nh:Hd
 mh:Hd
abbrev yY(x:Nd):List D:=[AE x.it.id,AE x.it.pr,AE x.it.sq,.sl none (x.it.po.map B9),.sl none (x.it.pa.map Co),.sl none (x.it.af.map AE),jj x.eh x.ef.length,jj x.ph x.pl.length,Aj x.on]
abbrev oU(y:Po):List D:=[AE y.r.k,Am y.r.acc.o,AE y.r.acc.k,Am y.r.acc.a,Am y.r.f,Am y.r.t,AE y.room,AE y.sum,jj y.qh y.q.length,AE (y.mi:Int)]
abbrev iK(pb:Nat->Nat)(e:Nat×Int):D:= .agg [pD (pb e.1) 0,AE e.2]
abbrev nL(pb:Nat->Nat)(e:Nat×Nat):D:= .agg [pD (pb e.1) 0,AE (e.2:Int)]
abbrev B5(b:Nat):D:=pD b 0
def B1(M:MF)(h:Hd)(t:TypeId)(k:Nat)(xs:List D):Prop:=match h with
 | none=>xs=[]
 | some (b,c)=>xs.length<=c/\M b=some (.row t k c xs)
abbrev W8(x:Nd):Au:= .cells 184 (yY x)
abbrev W6(y:Po):Au:= .cells 190 (oU y)
variable{K:Hd}
theorem XB{g:Au}(i:M o=some (.cells C E)){f:List D}(a:B1 M K F y f):B1 (Bf M o g) K F y f:=by
 match K,a with
 | none,a=>exact a
 | some (j,c),a=>
  grind[B1,Bf]
abbrev M7(v:Value):D:= .raw v
def Ce:Po:=⟨⟨0,Tj,[],[]⟩,0,0,none,[],0⟩
def CV:Nd:=⟨ey,none,[],none,[],false⟩
structure jm where
 h:Hd
 t:TypeId
 k:Nat
 xs:List D
inductive RI where
 | e (i:Nat)
 | p (i:Nat)
 | q (j:Nat)
 | n
 | m
def Ct(nb pb:Nat->Nat)(N:ji):RI->jm
 | .e i=>⟨(N.nd.getD i CV).eh,188,2,(N.nd.getD i CV).ef.map (iK pb)⟩
 | .p i=>⟨(N.nd.getD i CV).ph,254,2,(N.nd.getD i CV).pl.map (nL pb)⟩
 | .q j=>⟨(N.po.getD j Ce).qh,176,1,(N.po.getD j Ce).q.map λi=>B5 (nb i)⟩
 | .n=>⟨N.nh,176,1,(List.range N.nd.length).map λi=>B5 (nb i)⟩
 | .m=>⟨N.mh,186,1,(List.range N.po.length).map λj=>B5 (pb j)⟩
def FX(M:MF)(R:RI->jm):Prop:=(∀r,B1 M (R r).h (R r).t (R r).k (R r).xs)/\∀r r' b c c',(R r).h=some (b,c)->(R r').h=some (b,c')->r=r'
def Bq(M:MF):Hd->MF
 | none=>M
 | some (b,_)=>FV M b
variable{R:RI->jm}
theorem FX.blk(h:FX M R){r:RI}{c:Nat}(a:(R r).h=some (o,c)):M o=some (.row (R r).t (R r).k c (R r).xs):=by
 have:=h.1 r;rw[a] at this;exact this.2
theorem K0{h:Hd}(f:M o=some P)(a:∀c,h≠some (o,c)):Bq M h o=some P:=by
 match h,a with
 | none,_=>exact f
 | some (g,c),a=>
  show FV M g o=_;rw[Hl (λe=>a c (by rw[e]))];exact f
theorem lj{a:Nat}{v:Au}(i:Bq M K o=none)(g:M a=some P)(f:∀c,K≠some (a,c)):Bf (Bq M K) o v a=some P:=by grind[K0,Gt]
theorem FX.upd{R':RI->jm}(h:FX M R)(a:RI)(x:∀r,r≠a->R' r=R r){b cap:Nat}(w:Bq M (R a).h b=none)(z:(R' a).h=some (b,cap))(v:(R' a).xs.length<=cap):FX (Bf (Bq M (R a).h) b (.row (R' a).t (R' a).k cap (R' a).xs)) R':=by
 have l:∀r,r≠a->∀i c,(R r).h=some (i,c)->i≠b:=λr u i c j e=>by
  have f:=h.blk j;have y:=K0 (h:=(R a).h) f λo g=>u (h.2 r a i c o j g)
  grind
 refine ⟨λr=>?_,λr s B c o f y=>?_⟩
 .by_cases e:r=a
  .subst e;rw[z];exact ⟨v,Fj _ _ _⟩
  .rw[x r e];have f:=h.1 r
   cases hh:(R r).h with
   | none=>rw[hh] at f;exact f
   | some p=>
    obtain ⟨i,c⟩:=p;rw[hh] at f;exact ⟨f.1,lj w f.2 λo g=>e (h.2 r a i c o hh g)⟩
 .by_cases e:r=a<;>by_cases A:s=a
  all_goals (grind[FX])
theorem FX.cells(h:FX M R){a:List D}(c:M o=some (.cells F E)):FX (Bf M o (.cells C a)) R:=
 ⟨λr=>XB c (h.1 r),h.2⟩
structure Cb (wb mv:Nat) (nb pb:Nat->Nat) (N:ji) (M:MF):Prop where
 n:∀(i:Nat) x,N.nd[i]? =some x->M (nb i)=some (W8 x)
 p:∀(j:Nat) y,N.po[j]? =some y->M (pb j)=some (W6 y)
 rs:FX M (Ct nb pb N)
 w:M wb=some (.cells 180 [jj N.nh N.nd.length,jj N.mh N.po.length,M7 (.map (some mv))])
 ni:∀i j:Nat,i<N.nd.length->j<N.nd.length->nb i=nb j->i=j
 pi:∀i j:Nat,i<N.po.length->j<N.po.length->pb i=pb j->i=j
 e:∀x∈N.nd,(∀e∈x.ef,e.1<N.po.length)/\∀e∈x.pl,e.1<N.po.length
 q:∀y∈N.po,∀i∈y.q,i<N.nd.length
theorem Hw{d:c}(h:f[s]? =some A):f.getD s d=A:=by rw[Ψ,h];rfl
variable{N:ji}
theorem Cb.nn(a:Cb j k h g N M)(i:Nat)(x:Nd)(b:N.nd[i]? =some x):M (h i)=some (W8 x)/\B1 M x.eh 188 2 (x.ef.map (iK g))/\B1 M x.ph 254 2 (x.pl.map (nL g)):=by
 have f:B1 M (N.nd.getD i CV).eh 188 2 ((N.nd.getD i CV).ef.map (iK g)):=a.rs.1 (.e i);have c:B1 M (N.nd.getD i CV).ph 254 2 ((N.nd.getD i CV).pl.map (nL g)):=a.rs.1 (.p i);rw[Hw b] at f c;exact ⟨a.n i x b,f,c⟩
theorem Cb.pp(b:Cb j k h g N M)(a:Nat)(y:Po)(c:N.po[a]? =some y):M (g a)=some (W6 y)/\B1 M y.qh 176 1 (y.q.map λi=>B5 (h i)):=by
 have f:B1 M (N.po.getD a Ce).qh 176 1 ((N.po.getD a Ce).q.map λi=>B5 (h i)):=b.rs.1 (.q a);rw[Hw c] at f;exact ⟨b.p a y c,f⟩
theorem FC(a:s<f.length)(k:Nat)(d:c):(f.set s A).getD k d=if k=s then A else f.getD k d:=by grind
theorem Rs(a:f[s]? =some A)(k:Nat)(d:c):f.getD k d=if k=s then A else f.getD k d:=by grind
variable{B:Po}
theorem Cb.setPo(f:Cb j k h g N M){y':Po}(u:N.po[z]? =some B)(F:y'.q=B.q)(E:y'.qh=B.qh):Cb j k h g {N with po:=N.po.set z y'} (Bf M (g z) (W6 y')):=by
 have I:=f.p z B u;have w:=(φ.1 u).1
 have J:Ct h g {N with po:=N.po.set z y'}=Ct h g N:=funext λr=>by
  cases r with
  | e i=>rfl
  | p i=>rfl
  | n=>rfl
  | m=>show (⟨_,_,_,(List.range (N.po.set z y').length).map _⟩:jm)=_;rw[kq];rfl
  | q c=>
   show (⟨((N.po.set z y').getD c Ce).qh,_,_,((N.po.set z y').getD c Ce).q.map _⟩:jm)=⟨(N.po.getD c Ce).qh,_,_,(N.po.getD c Ce).q.map _⟩
   grind
 have s:∀(b:Nat) (t:TypeId) (C:List D),t≠190->M b=some (.cells t C)->Bf M (g z) (W6 y') b=some (.cells t C):=λb t C L O=>by
  grind[Gt]
 refine ⟨λi x v=>s _ _ _ (by decide) (f.n i x v),λi a o=>?_,by rw[J];exact f.rs.cells I,?_,f.ni,λi c H G=>f.pi i c (by simpa using H) (by simpa using G),λx v=>?_,λa o=>?_⟩
 .have A:i<N.po.length:=by have:=(φ.1 o).1;rw[kq] at this;exact this
  have l:(N.po.set z y')[i]? =some a:=o
  clear o
  rw[nF] at l
  split at l
  .grind[Fj]
  .rename_i e
   rw[Gt]
   .exact f.p i a l
   .intro K;exact e (f.pi i z A w K).symm
 .show Bf M (g z) (W6 y') j=some (.cells _ [jj N.nh N.nd.length,jj N.mh (N.po.set z y').length,_]);rw[kq];exact s _ _ _ (by decide) f.w
 .have:=f.e x v
  simpa using this
 .rcases nC o with o | rfl
  .exact f.q a o
  .rw[F];exact f.q B (ϖ u)
theorem Cb.setNd(f:Cb j k h g N M){x x':Nd}(w:N.nd[s]? =some x)(J:x'.ef=x.ef)(Q:x'.eh=x.eh)(I:x'.pl=x.pl)(P:x'.ph=x.ph):Cb j k h g {N with nd:=N.nd.set s x'} (Bf M (h s) (W8 x')):=by
 have G:=f.n s x w;have B:=(φ.1 w).1
 have H:Ct h g {N with nd:=N.nd.set s x'}=Ct h g N:=funext λr=>by
  cases r with
  | q c=>rfl
  | m=>rfl
  | n=>show (⟨_,_,_,(List.range (N.nd.set s x').length).map _⟩:jm)=_;rw[kq];rfl
  | e a=>
   show (⟨((N.nd.set s x').getD a CV).eh,_,_,((N.nd.set s x').getD a CV).ef.map _⟩:jm)=⟨(N.nd.getD a CV).eh,_,_,(N.nd.getD a CV).ef.map _⟩
   grind
  | p a=>
   show (⟨((N.nd.set s x').getD a CV).ph,_,_,((N.nd.set s x').getD a CV).pl.map _⟩:jm)=⟨(N.nd.getD a CV).ph,_,_,(N.nd.getD a CV).pl.map _⟩
   grind
 have u:∀(b:Nat) (t:TypeId) (C:List D),t≠184->M b=some (.cells t C)->Bf M (h s) (W8 x') b=some (.cells t C):=λb t C L O=>by
  grind[Gt]
 refine ⟨λc z o=>?_,λc y v=>u _ _ _ (by decide) (f.p c y v),by rw[H];exact f.rs.cells G,?_,λc a F E=>f.ni c a (by simpa using F) (by simpa using E),f.pi,λz o=>?_,λy v=>?_⟩
 .have A:c<N.nd.length:=by have:=(φ.1 o).1;rw[kq] at this;exact this
  have l:(N.nd.set s x')[c]? =some z:=o
  clear o
  rw[nF] at l
  split at l
  .grind[Fj]
  .rename_i e
   rw[Gt]
   .exact f.n c z l
   .intro K;exact e (f.ni c s A B K).symm
 .show Bf M (h s) (W8 x') j=some (.cells _ [jj N.nh (N.nd.set s x').length,jj N.mh N.po.length,_]);rw[kq];exact u _ _ _ (by decide) f.w
 .rcases nC o with o | rfl
  .exact f.e z o
  .rw[J,I];exact f.e x (ϖ w)
 .have:=f.q y v
  simpa using this
abbrev HN(M:MF):Hp:=[(40,[.multi M])]
def jL(y:Po)(c:Int):Int:=max y.room 0+c
def Q2(y:Po)(c:Int):Bool:=decide (c<0/\jL y c<0)
theorem q9(a:Cb j k h g N M)(b:N.po[z]? =some B)(c:Int)(s: -1000000000000000000<=B.room/\B.room<=1000000000000000000)(t: -2000000000000000000<=c/\c<=2000000000000000000):
  AO prog 198 [.d (pD (g z) 0),.d (AE c)] (HN M) λr o=>r= .d (AE (jL B c))/\o=HN M:=by
 have i:=a.p z B b;have l:(if 0>B.room then 0 else B.room)=max B.room 0:=by rw[Int.max_def];split<;>split<;>omega
 refine Av func198 Z Z ntmps198 Z Z Z λF u=>(AD (AF (AB Z Z (AC (AD (AF (cl Z Z ?_)))))));refine J (EB Z Z) (J (Cs Z TN Z Z Z) (J (Eh (f:=40) Z Z (i) Z FK Z) (J (MP Z Z (l) Z) (cl Z Z (J (Ac Z Z (Ξ _ (by omega)) Z) (AB Z Z (AC (A5 ?_))))))));exact ⟨_,[40],_,A2 Z,Z,Z,Z,Z⟩
theorem NY(a:Cb j k h g N M)(b:N.po[z]? =some B)(c:Int)(f: -1000000000000000000<=B.room/\B.room<=1000000000000000000)(i: -2000000000000000000<=c/\c<=2000000000000000000):
  AO prog 150 [.d (pD (g z) 0),.d (AE c)] (HN M) λr s=>r= .d (Aj (Q2 B c))/\s=HN M:=by
 have l:=q9 a b c f i;refine Av func150 Z Z ntmps150 Z Z Z λF t=>(AD ?_);refine AF (AB Z Z (AC (AD (AF (cl Z Z (J (At Z Z Z) (cl Z Z (C5 7 Z (λo=>?_) (λo=>?_)))))))));refine AT Z Z Z (cl Z Z (AT Z Z Z (cl Z Z (AT Z Z Z (V (F8 l Z [40] ⟨Z,trivial⟩ Z Z Z Z Z Z Z Z Z) (AT Z Z Z (J (At Z Z Z) (J (B4 Z Z Z Z) ?_))))))))
 rotate_left
 refine AN Z Z Z Z (AN Z Z Z Z (AN Z Z Z Z (AN Z Z Z Z (J (Br Z Z Z Z) ?_))))
 all_goals
  refine AB Z Z (AC (A5 ?_));exact ⟨_,[40],_,A2 Z,Z,Z,RK (by unfold Q2;first | exact (kD (by omega)).symm | exact decide_eq_decide.2 ⟨λa=>⟨by omega,a⟩,λa=>a.2⟩),Z⟩
end Go.Proofs.YteifpcnphnhaoaaGreat
