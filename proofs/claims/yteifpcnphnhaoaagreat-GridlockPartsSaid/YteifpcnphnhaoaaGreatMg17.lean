import Derived.Test.YteifpcnphnhaoaaGreatMg16
import Derived.Shelf.SlLaysF
import Derived.Shelf.SlLaysF0
import Derived.Shelf.SlLaysNS
import Derived.Test.YteifpcnphnhaoaaGreatProg
open Go.Proofs.Tryz
set_option maxHeartbeats 2000000
namespace Go.Proofs.YteifpcnphnhaoaaGreat
open Go.Shelf Go.Proofs Go.Proofs.Tryz
theorem r9{P:Program}{i:FuncId}{B:Func}(b:(((P.funcs[i]?.map Func.name).getD "")== "runtime.NumGoroutine")=false)(a:P.funcs[i]? =some {B with name:=(P.funcs[i]?.map Func.name).getD "" }):Bears P i B:=⟨_,b,a⟩
def ug:Go.Shelf.Ren:=⟨λx=>match x with
 | 6=>115
 | 15=>137
 | 14=>160
 | 28=>191
 | 29=>192
 | 20=>201
 | 21=>202
 | 22=>203
 | 23=>204
 | 24=>205
 | 25=>206
 | 26=>207
 | 27=>208
 | 46=>240
 | 47=>226
 | 48=>227
 | 49=>241
 | 50=>242
 | 57=>268
 | x=>x,
 λx=>match x with
 | 22=>37
 | 24=>55
 | 25=>214
 | 3=>3
 | 39=>242
 | 0=>0
 | 53=>292
 | 55=>294
 | 4=>4
 | 46=>286
 | 45=>285
 | 50=>132
 | 5=>5
 | 9=>9
 | 66=>327
 | 70=>331
 | 76=>360
 | 77=>361
 | x=>x,λx=>x⟩
theorem oV:SlLaysF0.n6 prog ug:=by
 constructor<;>first | kernel_rfl | (intro w;kernel_rfl) | exact r9 (by kernel_rfl) (by kernel_rfl)
def uh:Go.Shelf.Ren:=⟨λx=>match x with
 | 6=>161
 | 15=>137
 | 14=>209
 | 28=>191
 | 29=>192
 | 20=>243
 | 21=>244
 | 22=>245
 | 23=>246
 | 24=>247
 | 25=>248
 | 26=>249
 | 27=>250
 | 46=>269
 | 47=>226
 | 48=>227
 | 49=>270
 | 50=>271
 | 57=>277
 | x=>x,
 λx=>match x with
 | 22=>215
 | 24=>218
 | 25=>267
 | 3=>3
 | 39=>242
 | 0=>0
 | 53=>292
 | 55=>294
 | 4=>4
 | 46=>286
 | 45=>285
 | 50=>132
 | 5=>5
 | 9=>9
 | 66=>327
 | 70=>331
 | 76=>360
 | 77=>361
 | x=>x,λx=>x⟩
theorem tQ:SlLaysF0.n6 prog uh:=by
 constructor<;>first | kernel_rfl | (intro w;kernel_rfl) | exact r9 (by kernel_rfl) (by kernel_rfl)
def sc:Go.Shelf.Ren:=⟨λx=>match x with
 | 6=>174
 | 15=>137
 | 14=>212
 | 28=>191
 | 29=>192
 | 20=>251
 | 21=>252
 | 22=>253
 | 23=>254
 | 24=>255
 | 25=>256
 | 26=>257
 | 27=>258
 | 46=>272
 | 47=>226
 | 48=>227
 | 49=>273
 | 50=>274
 | 57=>278
 | x=>x,
 λx=>match x with
 | 22=>227
 | 24=>233
 | 25=>276
 | 3=>3
 | 39=>242
 | 0=>0
 | 53=>292
 | 55=>294
 | 4=>4
 | 46=>286
 | 45=>285
 | 50=>132
 | 5=>5
 | 9=>9
 | 66=>327
 | 70=>331
 | 76=>360
 | 77=>361
 | x=>x,λx=>x⟩
theorem qF:SlLaysF0.n6 prog sc:=by
 constructor<;>first | kernel_rfl | (intro w;kernel_rfl) | exact r9 (by kernel_rfl) (by kernel_rfl)
def ue:Go.Shelf.Ren:=⟨λx=>match x with
 | 53=>128
 | 64=>137
 | 63=>177
 | 78=>191
 | 79=>192
 | 70=>213
 | 71=>214
 | 72=>215
 | 73=>216
 | 74=>217
 | 75=>218
 | 59=>219
 | 76=>220
 | 77=>221
 | 88=>259
 | 89=>226
 | 90=>227
 | 91=>260
 | 92=>261
 | 68=>211
 | 96=>275
 | x=>x,
 λx=>match x with
 | 22=>28
 | 23=>3
 | 3=>3
 | 51=>242
 | 0=>0
 | 67=>292
 | 69=>294
 | 4=>4
 | 61=>286
 | 60=>285
 | 44=>132
 | 5=>5
 | 9=>9
 | 75=>327
 | 79=>331
 | 83=>360
 | 84=>361
 | x=>x,λx=>x⟩
theorem oU:SlLaysN.n53 prog ue:=by
 constructor<;>first | kernel_rfl | (intro w;kernel_rfl) | exact r9 (by kernel_rfl) (by kernel_rfl)
def sa:Go.Shelf.Ren:=⟨λx=>match x with
 | 6=>141
 | 15=>137
 | 14=>195
 | 28=>191
 | 29=>192
 | 20=>231
 | 21=>232
 | 22=>233
 | 23=>234
 | 24=>235
 | 25=>236
 | 26=>237
 | 27=>238
 | 46=>265
 | 47=>226
 | 48=>227
 | 49=>266
 | 50=>267
 | 57=>276
 | x=>x,
 λx=>match x with
 | 22=>177
 | 24=>186
 | 25=>251
 | 3=>3
 | 39=>242
 | 0=>0
 | 53=>292
 | 55=>294
 | 4=>4
 | 46=>286
 | 45=>285
 | 50=>132
 | 5=>5
 | 9=>9
 | 66=>327
 | 70=>331
 | 76=>360
 | 77=>361
 | x=>x,λx=>x⟩
theorem qE:SlLaysF.n6 prog sa:=by
 constructor<;>first | kernel_rfl | (intro w;kernel_rfl) | exact r9 (by kernel_rfl) (by kernel_rfl)
def sd:Go.Shelf.Ren:=⟨λx=>match x with
 | 6=>83
 | 15=>137
 | 14=>136
 | 28=>191
 | 29=>192
 | 20=>183
 | 21=>184
 | 22=>185
 | 23=>186
 | 24=>187
 | 25=>188
 | 26=>189
 | 27=>190
 | 46=>225
 | 47=>226
 | 48=>227
 | 49=>228
 | 50=>229
 | 57=>264
 | x=>x,
 λx=>match x with
 | 22=>29
 | 24=>28
 | 25=>154
 | 3=>3
 | 39=>242
 | 0=>0
 | 53=>292
 | 55=>294
 | 4=>4
 | 46=>286
 | 45=>285
 | 50=>132
 | 5=>5
 | 9=>9
 | 66=>327
 | 70=>331
 | 76=>360
 | 77=>361
 | x=>x,λx=>x⟩
theorem qG:SlLaysF.n6 prog sd:=by
 constructor<;>first | kernel_rfl | (intro w;kernel_rfl) | exact r9 (by kernel_rfl) (by kernel_rfl)
end Go.Proofs.YteifpcnphnhaoaaGreat
namespace Go.Proofs.YteifpcnphnhaoaaGreat
open Go.RowKit
variable{a:Type}{c:a->a->Int}{i:AJ}{f:List AU}{g:AU}
set_option maxRecDepth 100000
def M7(i:AJ):Int:=if ∃x∈gH (gf i),¬(-Mx<=x.2/\x.2<=Mx) then 12 else 0
theorem nC{j:Nat}{v:Int}(b:(gH (gf i))[j]? =some (g,v))(a:¬(-Mx<=v/\v<=Mx)):(12:Int)=M7 i:=by
 unfold M7;rw[ς ⟨_,ξ b,a⟩]
theorem fQ(h:∀x∈gH (gf i),-Mx<=x.2/\x.2<=Mx):(0:Int)=M7 i:=by grind[M7]
theorem aC(i:AJ)(v:j0 i):AL prog 172 [.d (Af i)] (AF (M7 i)):=by
 obtain ⟨M,a⟩:∃M,gH (gf i)=M:=⟨_,Z⟩
 have l:=(RW i v).by [(2,20)] rfl;rw[a] at l;refine Av func172 Z Z ntmps172 Z Z Z λF r=>(AC (AE (V (Bh 1 Z Z Z Z Z Z Z) (AB Z Z (AD ?_)))));refine AC (AC (AE (J (Ay Z Z CM Z Z Z) (V (FH l Z [20] ⟨Z,trivial⟩ Z Z Z Z Z Z Z Z Z) (V (Gt 2 Z Z Z CP Z Z Z Z) (AD (AZ (BM (α:=List Nat) (λseen=>⟨15,[(7,(.ptr 2 0 0))],[(2,[.iter 20 0 M.length seen]),(20,[BY Bc AF M])]⟩) (λseen=>∀x∈M,x∈CC M (List.range M.length) seen\/(-Mx<=x.2/\x.2<=Mx)) (λseen=>(CC M (List.range M.length) seen).length) ([]) (λx c=> .inl (by rw[nX (by simp)];exact c)) (AX r [2,20] Z Z ⟨Z,trivial⟩) ?_))))))));intro seen o;refine AC (AE (Lz (M) Z Z Z Z (λj=>?_) (λu s y t g k w f=>⟨_,Z,?_⟩)))
 .refine J (DC Z Z Z) ?_;refine AD (AC (Cr Z Z (Aw (AC (AE (AB Z Z (AD (A2 ?_))))))));exact ⟨_,[],[],A0 Z,Z,Z,Ae (fQ λx c=>by rw[a] at c;exact (o x c).elim (λh=>by rw[j] at h;cases h) id),Z⟩
 .refine J (DC Z Z Z) ?_;refine AD (AC (Bw Z Z (AW (AZ (AC (AE (J (Gu (M) u s Z Z Z g k Z) (J (DC Z Z Z) ?_))))))));refine AB Z Z (AD (AC (AE (ek Z Z (J (Au (HZ t (-1000000000000000) 1000000000000000) Z Z) (J (KH Z Z) (AD (A6 Z (λb=>?_) (λb=>?_)))))))))
  .refine AC (AE (AB Z Z (AD (A2 ?_))));exact ⟨_,[],[],A0 Z,Z,Z,Ae (nC (by rw[a];exact g) (by simpa [Mx] using b)),Z⟩
  .refine AW ?_;exact ⟨seen++ [s],λx c=>(o x c).elim (λh=>(Υ.1 (f.mem_iff.1 h)).elim (λe=> .inr (by rw[e];simpa [Mx] using b)) .inl) .inr,by rw[f.length_eq];exact jG _,AX r [2,20] Z (Z) ⟨Z,trivial⟩⟩
theorem VI{b:Type}{l:List b}{f:b->Int}:BO (l.map f)=0↔∀x∈l,f x=0:=by
 induction l with
 | nil=>simp[BO]
 | cons a l c=>
  grind[BO]
def Rt(i:AJ):List (FuncId×Int):=[(168,Fk i),(169,Ka i),(170,NQ i),(171,L1 i),(172,M7 i)]
def Ax(i:AJ):Int:=if ¬(0<=i.id/\i.id<=1000000000)\/¬(0<=i.sq/\i.sq<=1000000000)\/¬(0<=i.pr/\i.pr<=2) then 2 else if 256<i.po.length\/256<i.pa.length\/256<i.af.length then 8 else BO ((Rt i).map Prod.snd)
theorem Rb(h:Fk i=0):∀p∈i.po,-Mx<=p.d/\p.d<=Mx:=λp a=>by
 have:=VI.1 h p a;unfold I8 at this
 split at this; · cases this
 split at this; · cases this
 split at this; · cases this
 rename_i h;exact Decidable.of_not_not h
theorem cW(h:Ka i=0):∀p∈i.pa,0<=p.n/\p.n<=Mx:=λp a=>by
 have:=VI.1 h p a;unfold J6 at this
 split at this; · cases this
 split at this; · cases this
 split at this; · cases this
 rename_i h;exact Decidable.of_not_not h
theorem tk(i:AJ)(b:i.po.length<=256)(g:i.pa.length<=256)(f:i.af.length<=256){k:Nat}(c:k<(Rt i).length)(a:∀j,j<k->((Rt i)[j]?).map Prod.snd=some 0):AL prog (Rt i)[k].1 [.d (Af i)] (AF (Rt i)[k].2):=by
 match k,c with
 | 0,_=>exact Vw i (by omega)
 | 1,_=>exact Vx i (by omega)
 | 2,_=>exact nK i (by omega)
 | 3,_=>exact Wb i b (Rb (by have:=a 0 (by omega);simpa [Rt] using this))
 | 4,_=>exact aC i ⟨b,g,f,Rb (by have:=a 0 (by omega);simpa [Rt] using this),cW (by have:=a 1 (by omega);simpa [Rt] using this)⟩
def vf(i:AJ)(p:FuncId×Int):D:= .fn p.1 [Af i] []
theorem LY(i:AJ)(B:i.po.length<=140737488355328)(A:i.pa.length<=140737488355328)(z:i.af.length<=140737488355328):AL prog 123 [.d (Af i)] (AF (Ax i)):=by
 refine Av func123 Z Z ntmps123 Z Z Z λF u=>(AC (AE (V (Bh 1 Z Z Z Z Z Z Z) (AB Z Z (AD (AC ?_))))));refine AZ (AC (AE (J (AK Z Nr Z Z Z) (J (AO Z Z Z Am Z) (J (Au (IY _ _ _) Z Z) (J (KH Z Z) (ek Z Z (CU 11 Z (λt=>?_) (λt=>?_)))))))))
 .refine AI Z Z Z Z ?_;refine AI Z Z Z Z (AI Z Z Z Z (AI Z Z Z Z (J (BZ Z Z Z Z) (ek Z Z (AI Z Z Z Z (AI Z Z Z Z (AI Z Z Z Z (AI Z Z Z Z ?_))))))));refine J (BZ Z Z Z Z) (AB Z Z (AD (Bw Z Z (AC (AE (AB Z Z (AD (A2 ?_))))))));exact ⟨_,[],[],A0 Z,Z,Z,Ae (by unfold Ax;rw[ς (by omega)]),Z⟩
 .refine AQ Z Z Z (J (AK Z MS Z Z Z) ?_);refine AQ Z Z Z (J (AO Z Z Z Am Z) (AQ Z Z Z (J (Au (IY _ _ _) Z Z) (AQ Z Z Z (J (KH Z Z) (J (Be Z Z Z Z) (ek Z Z (CU 17 Z (λs=>?_) (λs=>?_)))))))))
  .refine AI Z Z Z Z (AI Z Z Z Z (AI Z Z Z Z (AI Z Z Z Z ?_)));refine J (BZ Z Z Z Z) (AB Z Z (AD (Bw Z Z (AC (AE (AB Z Z (AD (A2 ?_))))))));exact ⟨_,[],[],A0 Z,Z,Z,Ae (by unfold Ax;rw[ς (by omega)]),Z⟩
  .refine AQ Z Z Z (J (AK Z SC Z Z Z) (AQ Z Z Z ?_));refine J (AO Z Z Z Am Z) (AQ Z Z Z (J (Au (IY _ _ _) Z Z) (AQ Z Z Z (J (KH Z Z) (J (Be Z Z Z Z) (AB Z Z (AD (A6 Z (λy=>?_) (λy=>?_)))))))))
   .refine AC (AE (AB Z Z (AD (A2 ?_))));exact ⟨_,[],[],A0 Z,Z,Z,Ae (by unfold Ax;rw[ς (by omega)]),Z⟩
   .refine AC (AE (J (AK Z EZ Z Z Z) (J (AO Z Z Z Pp Z) (J (BS Z dd Z) (J (HV Z Z Z) (ek Z Z (CU 28 Z (λo=>?_) (λo=>?_))))))))
    .refine AI Z Z Z Z ?_;refine AI Z Z Z Z (AI Z Z Z Z (AI Z Z Z Z (J (BZ Z Z Z Z) (ek Z Z (AI Z Z Z Z (AI Z Z Z Z (AI Z Z Z Z (AI Z Z Z Z ?_))))))));refine J (BZ Z Z Z Z) (AB Z Z (AD (Bw Z Z (AC (AE (AB Z Z (AD (A2 ?_))))))));exact ⟨_,[],[],A0 Z,Z,Z,Ae (by unfold Ax;rw[κ (by omega),ς (by omega)]),Z⟩
    .refine AQ Z Z Z (J (AK Z Fx Z Z Z) ?_);refine AQ Z Z Z (J (AO Z Z Z Tb Z) (AQ Z Z Z (J (BS Z dr Z) (AQ Z Z Z (J (HV Z Z Z) (J (Be Z Z Z Z) (ek Z Z (CU 34 Z (λl=>?_) (λl=>?_)))))))))
     .refine AI Z Z Z Z (AI Z Z Z Z (AI Z Z Z Z (AI Z Z Z Z ?_)));refine J (BZ Z Z Z Z) (AB Z Z (AD (Bw Z Z (AC (AE (AB Z Z (AD (A2 ?_))))))));exact ⟨_,[],[],A0 Z,Z,Z,Ae (by unfold Ax;rw[κ (by omega),ς (by omega)]),Z⟩
     .refine AQ Z Z Z (J (AK Z Dz Z Z Z) (AQ Z Z Z ?_));refine J (AO Z Z Z BH Z) (AQ Z Z Z (J (BS Z E0 Z) (AQ Z Z Z (J (HV Z Z Z) (J (Be Z Z Z Z) (AB Z Z (AD (A6 Z (λr=>?_) (λr=>?_)))))))))
      .refine AC (AE (AB Z Z (AD (A2 ?_))));exact ⟨_,[],[],A0 Z,Z,Z,Ae (by unfold Ax;rw[κ (by omega),ς (by omega)]),Z⟩
      .refine AW (AC ?_);refine AC (AE (J (Ay Z Z CM Z Z Z) (J (YS (ds:=[Af i]) (es:=[]) Z Z Z Z Z) (J (Ay Z Z CM Z Z Z) (J (YS (ds:=[Af i]) (es:=[]) Z Z Z Z Z) (J (Ay Z Z CM Z Z Z) (J (YS (ds:=[Af i]) (es:=[]) Z Z Z Z Z) (J (Ay Z Z CM Z Z Z) ?_))))))));refine J (YS (ds:=[Af i]) (es:=[]) Z Z Z Z Z) (J (Ay Z Z CM Z Z Z) (J (YS (ds:=[Af i]) (es:=[]) Z Z Z Z Z) (V (C1 2 sZ Z Z Z Z Z Z Z Z) (J (RL Z underlying273 Z) (ek Z Z (AD (AZ (BM (α:=Nat) (λk=>⟨62,[(50,(.own 2 0 5)),(51,(.d (AF 5))),(52,(.d (AF (k:Int))))],[(2,[.rowD 146 1 ((Rt i).map (vf i))])]⟩) (λk=>k<=5/\BO ((Rt i).map Prod.snd)=BO (((Rt i).drop k).map Prod.snd)/\∀j,j<k->((Rt i)[j]?).map Prod.snd=some 0) (λk=>5-k) (0) (⟨ζ _,Z,λj h=>absurd h (Nat.not_lt_zero j)⟩) (AX u [2] Z Z ⟨Z,Z,Z,trivial⟩) ?_))))))));rintro k ⟨w,g,f⟩;refine AC (AE (J (Az Z Z Z) (AD (AC (A6 Z (λc=>?_) (λc=>?_))))))
       .have a:k<(Rt i).length:=by show k<5;have h:=c;omega
        refine AW (AC (AZ (AC (AE ?_))));have v:=kR a g;refine J (DB (k) Z Z (Z) (by show k<5;exact a) Z underlying273 sY Z) (J (EC Z Z (A1 a) Z tE Z) (AB Z Z (AD (AC (AE (ek Z Z ?_))))));refine J (Lg (tk i (by omega) (by omega) (by omega) a f) Z Z) (AB Z Z (AD (AC (AE (ek Z Z (J (C6 Z Z Z) (AD (A6 Z (λb=>?_) (λb=>?_)))))))))
        .refine AC (AE (ek Z Z (AB Z Z (AD (A2 ?_)))));exact ⟨_,[],[],A0 Z,Z,Z,Ae (by unfold Ax;rw[κ (by omega),κ (by omega)];exact v.2 _ Z (by simpa using b)),Z⟩
        .refine AW (AE (J (Aj Z Z (AN (k+1) (by omega)) Z) (ek Z Z (AD ?_))));exact ⟨k+1,⟨by show k+1<=_;omega,v.1 (by simpa using b),λj x=>(Nat.lt_succ_iff_lt_or_eq.1 x).elim (f j) λh=>by subst h;rw[ω a];show some _=_;congr 1;simpa using b⟩,by show 5-(k+1)<5-k;omega,AX u [2] Z (Z) ⟨Z,Z,Z,trivial⟩⟩
       .refine Aw (AC (AE (AB Z Z (AD (A2 ?_)))));exact ⟨_,[],[],A0 Z,Z,Z,Ae (by unfold Ax;rw[κ (by omega),κ (by omega),g,DL (by have h:=c;show ¬k<5;omega)]),Z⟩
theorem tB(l:List Int)(j:l.length<=140737488355328):AL prog 165 [.d (.sl none (l.map AF))] (AF (BO l)):=by
 refine Av func165 Z Z ntmps165 Z Z Z λF o=>(AC (AE (AB Z Z (AD (AC (AE (AB Z Z (AD ?_))))))));refine AC (AC (AE (ek Z Z (J (BS Z E0 Z) (ek Z Z (AD (AZ (Gi (α:=Nat) (λk=>⟨18,[(3,(.d (AF 0))),(6,(.d (.sl none (l.map AF)))),(7,(.d (AF (l.length:Int)))),(8,(.d (AF (k:Int))))],[]⟩) (λk=>k<=l.length/\BO (l.map id)=BO ((l.drop k).map id)) (λk=>l.length-k) (0) (⟨ζ _,Z⟩) (aV ⟨Z,Z,Z,Z,trivial⟩) ?_))))))));rintro k ⟨i,c⟩;refine AC (AE (J (Az Z Z Z) (AD (AC (A6 Z (λf=>?_) (λf=>?_))))))
 .have b:k<l.length:=BQ f;refine AW (AC (AZ (AC (AE ?_))));have g:=kR b c;refine J (BC (k) Z Z (Z) (A1 b) E0 Z BW Z) (J (CG Z Z Am Z) ?_);refine AB Z Z (AD (AC (AE (ek Z Z (ek Z Z (J (C6 Z Z Z) (AD (A6 Z (λa=>?_) (λa=>?_)))))))))
  .refine AC (AE (ek Z Z (AB Z Z (AD (A2 ?_)))));exact ⟨_,[],[],A0 Z,Z,Z,Ae ((g.2 l[k] Z (by simpa using a)).trans (by rw[List.map_id])),Z⟩
  .refine AW (AE (J (Aj Z Z (AN (k+1) (by omega)) Z) (ek Z Z (AD ?_))));exact ⟨k+1,⟨by show k+1<=_;omega,g.1 (by simpa using a)⟩,by show l.length-(k+1)<l.length-k;omega,⟨Z,Z,λ_ _=>Sd.get (l:=[(3,_),(6,_),(7,_),(8,_)]) ⟨Z,Z,Z,Z,trivial⟩⟩⟩
 .refine Aw (AC (AE (ek Z Z (AB Z Z (AD (A2 ?_))))));exact ⟨_,[],[],A0 Z,Z,Z,Ae (by rw[List.map_id] at c;rw[c,DL (by have h:=f;omega)]),Z⟩
def Bk(a b:AU):Int:=BO [EB a.k b.k,Dg a.acc.o b.acc.o,EB a.acc.k b.acc.k,Dg a.acc.a b.acc.a,Dg a.f b.f,Dg a.t b.t]
def ES(a b:AJ):Int:=BO [EB b.pr a.pr,EB a.sq b.sq]
theorem MZ(a b:AU):AL prog 143 [.d (Bc a),.d (Bc b)] (AF (Bk a b)):=by
 refine Av func143 Z Z ntmps143 Z Z Z λF c=>(AC (AE (V (Bh 1 Z Z Z Z Z Z Z) ?_)));refine V (Bh 2 Z Z Z Z Z Z Z) (AB Z Z (AD (AC (CK [[],[0],[],[2],[0,1,2,3],[],[5],[5,6],[],[8],[8,9],rg 11,[],[12],[12,13],[],[15],[15,16],rg 18,[],[19],[19,20],[],[22],[22,23],rg 25,[],[26],[],[28],rg 30,[],[31],[],[33],rg 35,rg 36,rg 37,rg 38] mixed Z (By (AR [2] Z (AK Z SA Z Z Z) (Ao [5] Z Z (λ_=>Aa (AO Z Z Z Am Z)) (AR [3] Z (AK Z SA Z Z Z) ?_))))))));refine Ao [7] Z Z (λ_=>Aa (AO Z Z Z Am Z)) (AR [6,8] Z (Au (ST a.k b.k) Z Z) (AR [2] Z (AK Z EY Z Z Z) (AR [10] Z (AK Z SB Z Z Z) (Ao [11] Z Z (λ_=>Aa (AO Z Z Z CJ Z)) (AR [3] Z (AK Z EY Z Z Z) (AR [13] Z (AK Z SB Z Z Z) (Ao [14] Z Z (λ_=>Aa (AO Z Z Z CJ Z)) (AR [12,15] Z (Au (SS a.acc.o b.acc.o) Z Z) ?_))))))));refine AR [2] Z (AK Z EY Z Z Z) (AR [17] Z (AK Z PE Z Z Z) (Ao [18] Z Z (λ_=>Aa (AO Z Z Z Am Z)) (AR [3] Z (AK Z EY Z Z Z) (AR [20] Z (AK Z PE Z Z Z) (Ao [21] Z Z (λ_=>Aa (AO Z Z Z Am Z)) (AR [19,22] Z (Au (ST a.acc.k b.acc.k) Z Z) (AR [2] Z (AK Z EY Z Z Z) (AR [24] Z (AK Z PD Z Z Z) ?_))))))));refine Ao [25] Z Z (λ_=>Aa (AO Z Z Z CJ Z)) (AR [3] Z (AK Z EY Z Z Z) (AR [27] Z (AK Z PD Z Z Z) (Ao [28] Z Z (λ_=>Aa (AO Z Z Z CJ Z)) (AR [26,29] Z (Au (SS a.acc.a b.acc.a) Z Z) (AR [2] Z (AK Z KE Z Z Z) (Ao [31] Z Z (λ_=>Aa (AO Z Z Z CJ Z)) (AR [3] Z (AK Z KE Z Z Z) (Ao [33] Z Z (λ_=>Aa (AO Z Z Z CJ Z)) ?_))))))));refine AR [32,34] Z (Au (SS a.f b.f) Z Z) (AR [2] Z (AK Z KD Z Z Z) (Ao [36] Z Z (λ_=>Aa (AO Z Z Z CJ Z)) (AR [3] Z (AK Z KD Z Z Z) (Ao [38] Z Z (λ_=>Aa (AO Z Z Z CJ Z)) (Bu 35 Z Z Z (Ab 36 Z Z (J (Au (SS a.t b.t) Z Z) (AD ⟨Z,?_⟩))))))));refine Ab 37 Z Z (V (C1 3 BR Z Z Z Z Z Z Z Z) (AD ⟨Z,?_⟩));refine Ab 38 Z Z (J (EO [3] (tB [EB a.k b.k,Dg a.acc.o b.acc.o,EB a.acc.k b.acc.k,Dg a.acc.a b.acc.a,Dg a.f b.f,Dg a.t b.t] (by simp)) (by exact ⟨.inr ⟨_,_,Z,.own Z Z (by simp) (η (by simp)),Z⟩,trivial⟩) Z Z) (AD ⟨Z,?_⟩));refine Ab 39 Z Z (AB Z Z (AD ⟨Z,?_⟩));refine Bz (A2 ?_);exact ⟨_,[],[],A0 Z,Z,Z,Z,Z⟩
theorem XP(a b:AJ):AL prog 122 [.d (Af a),.d (Af b)] (AF (ES a b)):=by
 refine Av func122 Z Z ntmps122 Z Z Z λF c=>(AC (AE (V (Bh 1 Z Z Z Z Z Z Z) (V (Bh 2 Z Z Z Z Z Z Z) ?_))));refine AB Z Z (AD (AC (CK [[],[0],[],[2],[0,1,2,3],[],[5],[],[7],rg 9,rg 10,rg 11,rg 12] mixed Z (By (AR [3] Z (AK Z SC Z Z Z) (Ao [5] Z Z (λ_=>Aa (AO Z Z Z Am Z)) (AR [2] Z (AK Z SC Z Z Z) (Ao [7] Z Z (λ_=>Aa (AO Z Z Z Am Z)) ?_))))))));refine AR [6,8] Z (Au (ST b.pr a.pr) Z Z) (AR [2] Z (AK Z MS Z Z Z) (Ao [10] Z Z (λ_=>Aa (AO Z Z Z Am Z)) (AR [3] Z (AK Z MS Z Z Z) (Ao [12] Z Z (λ_=>Aa (AO Z Z Z Am Z)) (Bu 9 Z Z Z (Ab 10 Z Z (J (Au (ST a.sq b.sq) Z Z) (AD ⟨Z,?_⟩))))))));refine Ab 11 Z Z (V (C1 3 BR Z Z Z Z Z Z Z Z) (AD ⟨Z,?_⟩));refine Ab 12 Z Z (J (EO [3] (tB [EB b.pr a.pr,EB a.sq b.sq] (by simp)) (by exact ⟨.inr ⟨_,_,Z,.own Z Z (by simp) (η (by simp)),Z⟩,trivial⟩) Z Z) (AD ⟨Z,?_⟩));refine Ab 13 Z Z (AB Z Z (AD ⟨Z,?_⟩));refine Bz (A2 ?_);exact ⟨_,[],[],A0 Z,Z,Z,Z,Z⟩
theorem fU(a b:AJ):AL prog 117 [.d (Af a),.d (Af b)] (.raw (.bool (decide (ES a b<0)))):=by
 refine Av func117 Z Z ntmps117 Z Z Z λF c=>(AC (AE (V (Bh 1 Z Z Z Z Z Z Z) (V (Bh 2 Z Z Z Z Z Z Z) (AB Z Z (AD ?_))))));refine AC (AE (J (Ay Z Z CM Z Z Z) (J (Ay Z Z CM Z Z Z) (J (Au (XP a b) Z Z) (J (Az Z Z Z) (AB Z Z (AD (A2 ?_))))))));exact ⟨_,[],[],A0 Z,Z,Z,Z,Z⟩
def Px(x:AU×Int):D:= .agg [AF x.1.k,An x.1.acc.o,AF x.1.acc.k,An x.1.acc.a,An x.1.f,An x.1.t,AF x.2]
theorem Zs(a b:AU×Int):AL prog 162 [.d (Px a),.d (Px b)] (AF (Bk a.1 b.1)):=by
 refine Av func162 Z Z ntmps162 Z Z Z λF c=>(AC (AE (V (Bh 1 Z Z Z Z Z Z Z) (V (Bh 2 Z Z Z Z Z Z Z) (AB Z Z (AD (AC ?_)))))));refine AE (J (AK Z LG Z Z Z) (J (Ay Z Z C9 Z Z Z) (J (AK Z LG Z Z Z) (J (Ay Z Z C9 Z Z Z) (J (Au (MZ a.1 b.1) Z Z) (AB Z Z (AD (A2 ?_))))))));exact ⟨_,[],[],A0 Z,Z,Z,Z,Z⟩
theorem MG:∀a b c:List UInt8,Rl a b=true->Rl b c=true->Rl a c=true
 | [],[],_,h,_=>by simp[Rl,Op.bytesLess] at h
 | [],_::_,[],_,h=>by simp[Rl,Op.bytesLess] at h
 | [],_::_,_::_,_,_=>by simp[Rl,Op.bytesLess]
 | _::_,[],_,h,_=>by simp[Rl,Op.bytesLess] at h
 | _::_,_::_,[],_,h=>by simp[Rl,Op.bytesLess] at h
 | a::x,b::y,c::z,g,f=>by
  simp only[Rl,Op.bytesLess,Bool.or_eq_true,jP,gq,beq_iff_eq] at g f⊢;rcases g with g | ⟨rfl,g⟩<;>rcases f with f | ⟨rfl,f⟩
  .exact .inl (UInt8.lt_trans g f)
  .exact .inl g
  .exact .inl f
  .exact .inr ⟨Z,MG x y z g f⟩
theorem WH(a:List UInt8):Rl a a=false:=by grind[JT,Rl]
structure PC {γ:Type} (c:γ->γ->Int):Prop where
 anti:∀x y,c y x= - c x y
 trans:∀x y z,c x y<0->c y z<0->c x z<0
 eqv:∀x y z,c x y=0->c x z=c y z
theorem iU:PC EB:=⟨λx y=>by unfold EB;split<;>split<;>first | omega | rfl,λx y z=>by unfold EB;split<;>split<;>(try split)<;>(try split)<;>(try split)<;>(try split)<;>first | omega | simp,λx y z h=>by
 have:x=y:=by
  unfold EB at h;split at h; · cases h
  split at h; · cases h
  omega
 rw[this]⟩
theorem RC{a b:List UInt8}:Dg a b=0↔a=b:=by grind[Dg,JT,Rl]
theorem PR{a b:List UInt8}:Dg a b<0↔Rl a b=true:=by grind[Dg]
theorem iT:PC Dg:=⟨λx y=>by
 unfold Dg
 by_cases b:Rl x y=true
 .have a:¬Rl y x=true:=λa=>by have:=MG x y x b a;rw[WH] at this;cases this
  rw[κ a,ς b,ς b];rfl
 .by_cases a:Rl y x=true
  .rw[ς a,κ b,ς a]
  .rw[κ a,κ b,κ b,κ a];rfl,λx y z b a=>PR.2 (MG x y z (PR.1 b) (PR.1 a)),λx y z h=>by rw[RC.1 h]⟩
theorem PC.comap{b:Type}(h:PC c)(f:b->a):PC λx y=>c (f x) (f y):=⟨λ_ _=>h.anti _ _,λ_ _ _=>h.trans _ _ _,λ_ _ _=>h.eqv _ _ _⟩
theorem PC.rev(h:PC c):PC λx y=>c y x:=⟨λx y=>h.anti y x,λx y z b f=>h.trans _ _ _ f b,λx y z b=>by
 have e:c x y=0:=by have:=h.anti y x;omega
 have:=h.eqv x y z e
 rw[h.anti x z,h.anti y z,this]⟩
theorem PC.zero:PC λ_ _:a=>(0:Int):=⟨λ_ _=>rfl,λ_ _ _ h=>by omega,λ_ _ _ _=>rfl⟩
theorem PC.lex{r:a->a->List Int}(h:PC c)(k:PC λx y=>BO (r x y)):PC λx y=>BO (c x y::r x y):=by
 have l:∀x y,c x y=0↔c y x=0:=λx y=>by have:=h.anti x y;omega
 refine ⟨λx y=>?_,λx y z=>?_,λx y z=>?_⟩
 .simp only[BO]
  by_cases e:c x y=0
  .rw[ς e,ς ((l x y).1 e)];exact k.anti x y
  .rw[κ e,κ (λo=>e ((l x y).2 o))];exact h.anti x y
 .simp only[BO];intro b g
  by_cases f:c x y=0<;>by_cases i:c y z=0
  .have j:c x z=0:=by rw[h.eqv x y z f];exact i
   rw[ς f] at b;rw[ς i] at g;rw[ς j];exact k.trans x y z b g
  .rw[κ i] at g;have j:c x z=c y z:=h.eqv x y z f;omega
  .rw[κ f] at b;have j:c z x=c y x:=(h.eqv y z x i).symm;have s:c x z=c x y:=by rw[h.anti z x,h.anti y x,j]
   omega
  .rw[κ f] at b;rw[κ i] at g;have:=h.trans x y z b g;omega
 .simp only[BO];intro b
  have f:c x y=0:=by
   omega
  rw[ς f] at b;rw[h.eqv x y z f];rw[k.eqv x y z b]
theorem PC.last:PC λx y:a=>BO ((λ_ _:a=>([]:List Int)) x y):=PC.zero
theorem Pd:PC Bk:=
 PC.lex (iU.comap AU.k)<| PC.lex (iT.comap λr:AU=>r.acc.o)<| PC.lex (iU.comap λr:AU=>r.acc.k)<| PC.lex (iT.comap λr:AU=>r.acc.a)<| PC.lex (iT.comap AU.f)<| PC.lex (iT.comap AU.t) PC.last
theorem Dq:PC ES:=PC.lex (iU.comap AJ.pr).rev<| PC.lex (iU.comap AJ.sq) PC.last
theorem PC.refl(h:PC c)(x:a):c x x=0:=by have:=h.anti x x;omega
theorem PC.swo(h:PC c):Go.Sort.SWO (ltOf c):=by
 refine ⟨λx=>?_,λx y z f b=>?_,λx y z f b=>?_⟩
 .simp[ltOf,h.refl]
 .simp only[ltOf,jP] at*;exact h.trans x y z f b
 .simp only[ltOf,decide_eq_false_iff_not] at*;have k:=h.anti x y;have j:=h.anti y z;have i:=h.anti x z
  by_cases e:c x y=0
  .rw[h.eqv x y z e];exact b
  .by_cases g:c y z=0
   .have:=h.eqv y z x g;omega
   .have:=h.trans z y x (by omega) (by omega);omega
theorem RD{a b:Int}:EB a b=0↔a=b:=by grind[EB]
theorem E3{a b:AU}:Bk a b=0↔a=b:=by grind[Bk,BO,AU.eq_iff,S8.eq_iff,RD,RC]
theorem DP{k:Type}{R:k->k->Prop}(c:∀x,¬R x x)(o:∀x y z,R x y->R y z->R x z):∀{l m:List k},l.Pairwise R->m.Pairwise R->(∀x,x∈l↔x∈m)->l=m
 | [],[],_,_,_=>rfl
 | [],b::m,_,_,h=>by have:=(h b).2 (by simp);cases this
 | a::l,[],_,_,h=>by have:=(h a).1 (by simp);cases this
 | a::l,b::m,j,i,h=>by
  rw[jQ] at j i
  have e:a=b:=by
   rcases Υ.1 ((h a).1 (by simp)) with e | g
   .exact e
   .rcases Υ.1 ((h b).2 (by simp)) with e | r
    .exact e.symm
    .exact absurd (o _ _ _ (j.1 b r) (i.1 a g)) (c a)
  subst e
  congr 1
  refine DP c o j.2 i.2 λx=>⟨λf=>?_,λf=>?_⟩
  .rcases Υ.1 ((h x).1 (by simp[f])) with e | g
   .subst e;exact absurd (j.1 x f) (c x)
   .exact g
  .rcases Υ.1 ((h x).2 (by simp[f])) with e | g
   .subst e;exact absurd (i.1 x f) (c x)
   .exact g
abbrev SZ:S8:=⟨[],0,[]⟩
def CL(r:AU):Int:=
 if r.k=0 then (if r.acc.o≠ []/\r.acc.a≠ []/\0<=r.acc.k/\r.acc.k<5/\r.f=[]/\r.t=[] then 0 else 3)
 else if r.k=1 then (if r.f≠ []/\r.t≠ []/\r.f≠r.t/\r.acc=SZ then 0 else 3)
 else if r.k=2 then (if r.f≠ []/\r.t=[]/\r.acc=SZ then 0 else 3) else 11
theorem Wo(r:AU):AL prog 124 [.d (Bc r)] (AF (CL r)):=by
 refine Av func124 Z Z ntmps124 Z Z Z λF v=>(AC (AE (V (Bh 1 Z Z Z Z Z Z Z) (AB Z Z ?_))));refine AD (AC (AE (AB Z Z (AD (AC (AC (AE (J (AK Z SA Z Z Z) ?_))))))));refine J (AO Z Z Z Am Z) (AD (AZ (AC (AE (J (GR Z Z Z) (AB Z Z (AD (A6 Z (λu=>?_) (λu=>?_)))))))));refine AE (J (AK Z EY Z Z Z) (J (AK Z SB Z Z Z) (J (AO Z Z Z CJ Z) (J (DE Z Z Z) (ek Z Z (CU 12 Z (λt=>?_) (λt=>?_)))))));refine AQ Z Z Z (J (AK Z EY Z Z Z) ?_);refine AQ Z Z Z (J (AK Z PD Z Z Z) (AQ Z Z Z (J (AO Z Z Z CJ Z) (AQ Z Z Z (J (DE Z Z Z) (J (BZ Z Z Z Z) (ek Z Z (CU 18 Z (λs=>?_) (λs=>?_)))))))));refine AQ Z Z Z (J (AK Z EY Z Z Z) ?_);refine AQ Z Z Z (J (AK Z PE Z Z Z) (AQ Z Z Z (J (AO Z Z Z Am Z) (AQ Z Z Z (J (EN Z Z Z) (J (BZ Z Z Z Z) (ek Z Z (CU 24 Z (λo=>?_) (λo=>?_)))))))));refine AQ Z Z Z (J (AK Z EY Z Z Z) ?_);refine AQ Z Z Z (J (AK Z PE Z Z Z) (AQ Z Z Z (J (AO Z Z Z Am Z) (AQ Z Z Z (J (Az Z Z Z) (J (BZ Z Z Z Z) (ek Z Z (CU 30 Z (λl=>?_) (λl=>?_)))))))));refine AQ Z Z Z (J (AK Z KE Z Z Z) (AQ Z Z Z (J (AO Z Z Z CJ Z) (AQ Z Z Z (J (KK Z Z Z) (J (BZ Z Z Z Z) (ek Z Z (CU 35 Z (λk=>?_) (λk=>?_)))))))));refine AQ Z Z Z (J (AK Z KD Z Z Z) (AQ Z Z Z (J (AO Z Z Z CJ Z) (AQ Z Z Z (J (KK Z Z Z) (J (BZ Z Z Z Z) ?_))))));refine AB Z Z (AD (AC (AC (AE (ek Z Z (J (KH Z Z) (AD (A6 Z (λa=>?_) (λa=>?_)))))))))
 rotate_left
 refine AW ?_
 rotate_left
 refine AI Z Z Z Z (AI Z Z Z Z (AI Z Z Z Z (J (Be Z Z Z Z) ?_)));refine AB Z Z (AD (AC (AC (AE (ek Z Z (J (E9 Z Z) (AD (Bw Z Z ?_))))))))
 rotate_left
 refine AI Z Z Z Z (AI Z Z Z Z (AI Z Z Z Z (J (Be Z Z Z Z) (ek Z Z (AI Z Z Z Z (AI Z Z Z Z (AI Z Z Z Z (J (Be Z Z Z Z) ?_))))))));refine AB Z Z (AD (AC (AC (AE (ek Z Z (J (E9 Z Z) (AD (Bw Z Z ?_))))))))
 rotate_left
 refine AI Z Z Z Z (AI Z Z Z Z (AI Z Z Z Z (AI Z Z Z Z (J (Be Z Z Z Z) (ek Z Z ?_)))));refine AI Z Z Z Z (AI Z Z Z Z (AI Z Z Z Z (J (Be Z Z Z Z) (ek Z Z (AI Z Z Z Z (AI Z Z Z Z (AI Z Z Z Z (J (Be Z Z Z Z) ?_))))))));refine AB Z Z (AD (AC (AC (AE (ek Z Z (J (E9 Z Z) (AD (Bw Z Z ?_))))))))
 rotate_left
 refine AI Z Z Z Z (AI Z Z Z Z (AI Z Z Z Z ?_));refine AI Z Z Z Z (J (Be Z Z Z Z) (ek Z Z (AI Z Z Z Z (AI Z Z Z Z (AI Z Z Z Z (AI Z Z Z Z (J (Be Z Z Z Z) (ek Z Z ?_))))))));refine AI Z Z Z Z (AI Z Z Z Z (AI Z Z Z Z (J (Be Z Z Z Z) (ek Z Z (AI Z Z Z Z (AI Z Z Z Z (AI Z Z Z Z (J (Be Z Z Z Z) ?_))))))));refine AB Z Z (AD (AC (AC (AE (ek Z Z (J (E9 Z Z) (AD (Bw Z Z ?_))))))))
 rotate_left
 refine AI Z Z Z Z (AI Z Z Z Z (AI Z Z Z Z (AI Z Z Z Z (J (Be Z Z Z Z) (ek Z Z (AI Z Z Z Z (AI Z Z Z Z (AI Z Z Z Z ?_))))))));refine AI Z Z Z Z (J (Be Z Z Z Z) (ek Z Z (AI Z Z Z Z (AI Z Z Z Z (AI Z Z Z Z (AI Z Z Z Z (J (Be Z Z Z Z) (ek Z Z ?_))))))));refine AI Z Z Z Z (AI Z Z Z Z (AI Z Z Z Z (J (Be Z Z Z Z) (ek Z Z (AI Z Z Z Z (AI Z Z Z Z (AI Z Z Z Z (J (Be Z Z Z Z) ?_))))))));refine AB Z Z (AD (AC (AC (AE (ek Z Z (J (E9 Z Z) (AD (Bw Z Z ?_))))))))
 rotate_left
 refine AC (AE (J (GR Z Z Z) (AB Z Z (AD (A6 Z (λj=>?_) (λj=>?_))))));refine AE (J (AK Z KE Z Z Z) (J (AO Z Z Z CJ Z) (J (DE Z Z Z) (ek Z Z (CU 45 Z (λi=>?_) (λi=>?_))))));refine AQ Z Z Z (J (AK Z KD Z Z Z) (AQ Z Z Z (J (AO Z Z Z CJ Z) (AQ Z Z Z (J (DE Z Z Z) (J (BZ Z Z Z Z) (ek Z Z (CU 50 Z (λh=>?_) (λh=>?_)))))))));refine AQ Z Z Z (J (AK Z KE Z Z Z) (AQ Z Z Z (J (AO Z Z Z CJ Z) ?_)));refine AQ Z Z Z (J (AK Z KD Z Z Z) (AQ Z Z Z (J (AO Z Z Z CJ Z) (AQ Z Z Z (J (DE Z Z Z) (J (BZ Z Z Z Z) (ek Z Z (CU 57 Z (λg=>?_) (λg=>?_)))))))));refine AQ Z Z Z (J (AK Z EY Z Z Z) (AQ Z Z Z (J (Ay Z Z bh Z Z Z) (AQ Z Z Z (J (E5 aY cT Z Z Z) (AQ Z Z Z (J (Fg (la:=NR r.acc) (lb:=NR SZ) (ds:=fe) (by kernel_rfl) (by kernel_rfl) (by kernel_rfl) Z Z Z Z (Dc _) (Dc _) (Nn _ _) Z) (J (BZ Z Z Z Z) ?_))))))));refine AB Z Z (AD (AC (AC (AE (ek Z Z (J (KH Z Z) (AD (A6 Z (λa=>?_) (λa=>?_)))))))))
 rotate_left
 refine AW ?_
 rotate_left
 refine AI Z Z Z Z (AI Z Z Z Z (AI Z Z Z Z (AI Z Z Z Z (J (Be Z Z Z Z) ?_))));refine AB Z Z (AD (AC (AC (AE (ek Z Z (J (E9 Z Z) (AD (Bw Z Z ?_))))))))
 rotate_left
 refine AI Z Z Z Z (AI Z Z Z Z (AI Z Z Z Z ?_));refine AI Z Z Z Z (AI Z Z Z Z (J (Be Z Z Z Z) (ek Z Z (AI Z Z Z Z (AI Z Z Z Z (AI Z Z Z Z (AI Z Z Z Z (J (Be Z Z Z Z) ?_))))))));refine AB Z Z (AD (AC (AC (AE (ek Z Z (J (E9 Z Z) (AD (Bw Z Z ?_))))))))
 rotate_left
 refine AI Z Z Z Z (AI Z Z Z Z (AI Z Z Z Z (J (Be Z Z Z Z) (ek Z Z (AI Z Z Z Z (AI Z Z Z Z (AI Z Z Z Z ?_)))))));refine AI Z Z Z Z (AI Z Z Z Z (J (Be Z Z Z Z) (ek Z Z (AI Z Z Z Z (AI Z Z Z Z (AI Z Z Z Z (AI Z Z Z Z (J (Be Z Z Z Z) ?_))))))));refine AB Z Z (AD (AC (AC (AE (ek Z Z (J (E9 Z Z) (AD (Bw Z Z ?_))))))))
 rotate_left
 refine AC (AE (J (GR Z Z Z) (AB Z Z (AD (A6 Z (λf=>?_) (λf=>?_))))));refine AE (J (AK Z KE Z Z Z) (J (AO Z Z Z CJ Z) (J (DE Z Z Z) (ek Z Z (CU 68 Z (λc=>?_) (λc=>?_))))));refine AQ Z Z Z (J (AK Z KD Z Z Z) (AQ Z Z Z (J (AO Z Z Z CJ Z) (AQ Z Z Z (J (KK Z Z Z) (J (BZ Z Z Z Z) (ek Z Z (CU 73 Z (λb=>?_) (λb=>?_)))))))));refine AQ Z Z Z (J (AK Z EY Z Z Z) (AQ Z Z Z (J (Ay Z Z bh Z Z Z) (AQ Z Z Z (J (E5 aY cT Z Z Z) (AQ Z Z Z (J (Fg (la:=NR r.acc) (lb:=NR SZ) (ds:=fe) (by kernel_rfl) (by kernel_rfl) (by kernel_rfl) Z Z Z Z (Dc _) (Dc _) (Nn _ _) Z) (J (BZ Z Z Z Z) ?_))))))));refine AB Z Z (AD (AC (AC (AE (ek Z Z (J (KH Z Z) (AD (A6 Z (λa=>?_) (λa=>?_)))))))))
 rotate_left
 refine AW ?_
 rotate_left
 refine AI Z Z Z Z (AI Z Z Z Z (AI Z Z Z Z (AI Z Z Z Z (J (Be Z Z Z Z) ?_))));refine AB Z Z (AD (AC (AC (AE (ek Z Z (J (E9 Z Z) (AD (Bw Z Z ?_))))))))
 rotate_left
 refine AI Z Z Z Z ?_;refine AI Z Z Z Z (AI Z Z Z Z (J (Be Z Z Z Z) (ek Z Z (AI Z Z Z Z (AI Z Z Z Z (AI Z Z Z Z (AI Z Z Z Z (J (Be Z Z Z Z) ?_))))))));refine AB Z Z (AD (AC (AC (AE (ek Z Z (J (E9 Z Z) (AD (Bw Z Z ?_))))))))
 rotate_left
 all_goals
  refine AC (AE (AB Z Z (AD (A2 ?_))));exact ⟨_,[],[],A0 Z,Z,Z,Ae (by unfold CL;simp_all<;>(intros;omega)),Z⟩
def Cb:List AU->AU->List AU
 | [],r=> [r]
 | a::l,r=>if Bk a r<0 then a::Cb l r else if a=r then a::l else r::a::l
def aT(l:List AU):Prop:=l.Pairwise λa b=>Bk a b<0
theorem jJ{x:AU}:x∈Cb f g↔x=g\/x∈f:=by
 induction f with
 | nil=>simp[Cb]
 | cons a f b=>
  grind[Cb]
theorem dj(h:aT f)(r:AU):aT (Cb f r):=by
 induction f with
 | nil=>simp[Cb,aT]
 | cons a f g=>
  simp only[aT,jQ] at h;simp only[Cb]
  split
  .rename_i j
   refine jQ.2 ⟨λx b=>?_,g h.2⟩;rcases jJ.1 b with rfl | b
   all_goals (grind)
  .split
   .exact jQ.2 h
   .rename_i j i
    have c:Bk r a<0:=by
     have:=Pd.anti a r;have k:Bk a r≠0:=λe=>i (E3.1 e);omega
    refine jQ.2 ⟨λx b=>?_,jQ.2 h⟩;rcases Υ.1 b with rfl | b
    .exact c
    .exact Pd.trans _ _ _ c (h.1 x b)
def gX(c:List (AU×Int)):List AU:=(c.map Prod.fst).foldl Cb []
theorem JH(c:List (AU×Int))(x:AU×Int):gX (c++ [x])=Cb (gX c) x.1:=by simp[gX]
theorem KO(c:List (AU×Int))(r:AU):r∈gX c↔r∈c.map Prod.fst:=by
 induction c using aN with
 | h0=>simp[gX]
 | h1 l x a=>rw[JH,jJ,a];simp only[Ω,ie,List.map_nil,ϖ,θ];exact or_comm
theorem ar(c:List (AU×Int)):aT (gX c):=by
 induction c using aN with
 | h0=>simp[gX,aT]
 | h1 l x a=>rw[JH];exact dj a _
def NP(c:List (AU×Int)):List (AU×Int):=((gX c).map λr=>(r,Ai c r)).filter λx=>decide (x.2≠0)
def eo(i:AJ):List (AU×Int):=NP (gf i)
theorem PN(c:List (AU×Int)):(NP c).Pairwise λa b=>Bk a.1 b.1<0:=by
 unfold NP;refine List.Pairwise.filter _ ?_;rw[ig];exact ar c
theorem Fe(c:List (AU×Int))(a:AU)(b:Int):(a,b)∈gH c↔a∈c.map Prod.fst/\b=Ai c a:=by
 constructor
 .intro h;refine ⟨(JJ c a).1 (Θ.2 ⟨_,h,Z⟩),?_⟩;rw[<-KW,D8 (Fd c) h]
 .rintro ⟨h,rfl⟩;rw[<-KW];exact Ie ((JJ c a).2 h)
theorem LW(c:List (AU×Int))(x:AU×Int):x∈NP c↔x∈gH c/\x.2≠0:=by grind[NP,Fe,KO]
theorem YD{c f g:List (AU×Int)}(l:f.Perm ((gH c).filter λx=>decide (x.2≠0)))(k:g.Perm f)(j:g.Pairwise λa b=>¬Bk b.1 a.1<0):g=NP c:=by
 have h:=k.trans l;refine DP (R:=λa b=>Bk a.1 b.1<0) (λx=>by rw[Pd.refl];omega) (λx y z=>Pd.trans x.1 y.1 z.1) ?_ (PN c) λx=>?_
 .have i:(g.map Prod.fst).Nodup:=by
   refine ((h.map Prod.fst).nodup_iff).2 ?_;exact (Fd c).sublist (List.Sublist.map _ jM)
  rw[List.Nodup,ig] at i;refine (j.and i).imp λ{a b} ⟨s,o⟩=>?_;have:=Pd.anti a.1 b.1;have r:Bk a.1 b.1≠0:=λe=>o (E3.1 e);omega
 .rw[h.mem_iff,LW,gk,jP]
theorem et(x:AU×Int):∃a,Px x= .agg a:=⟨_,Z⟩
theorem Yp{c f:List (AU×Int)}(g:f.Perm ((gH c).filter λx=>decide (x.2≠0))):f.length=(NP c).length:=by
 have k:=List.pairwise_mergeSort (le:=λa b:AU×Int=>decide (¬Bk b.1 a.1<0)) (λa b d g j=>by
  have:=Pd.swo.ntrans d.1 b.1 a.1;simp only[ltOf,decide_eq_false_iff_not] at this;simp only[jP] at g j⊢
  exact this j g) (λa b=>by have:=Pd.anti a.1 b.1;simp only[Bool.or_eq_true,jP];omega) f
 have i:=List.mergeSort_perm f (λa b:AU×Int=>decide (¬Bk b.1 a.1<0));rw[<-YD g i (k.imp λ{a b} h=>by simpa using h)];exact i.length_eq.symm
section
variable{F:Fr}{s:AS}{d:Nat}{x y:Operand}{ty:TypeId}{pos:String}{aft:Array Edge}{gd:Option (Nat×Bool)}{at_:Array TypeId}{f n:Nat}{row:List D}{hp':Hp}
theorem bN(c g:List (AU×Int))(v:g.Perm ((gH c).filter λx=>decide (x.2≠0)))(i:g.length<4611686018427387904)(l:s.ev x=some (.own f 0 n))(j:s.ev y=some (.d (.raw (.func (.func 162) #[] #[]))))(o:ey s.hp f 0=some (.rowD 218 7 row))(h:row=g.map Px)(r:n=g.length)(t:B6 s.hp f 0 (.rowD 218 7 ((NP c).map Px))=some hp')(u:Nat.blt d s.n=true):
  AG prog F ⟨some d,.call {callee:= .value (.func 161),args:= #[x,y],argTypes:=at_},ty,pos,aft,gd⟩ s ⟨s.n,(d,.d (.tup []))::s.env,hp'⟩ (λ_ _=>true):=
 NV tQ (k:=7) (by decide) isAgg218 sizeOf218 func162 Z Z et (λa b=>Bk a.1 b.1) (Pd.comap Prod.fst).swo g (NP c) i (λx _ y _=>Zs x y) (λA z w=>YD v z w) Z l j MT o h r t u
end
variable{a:Type}{c:List a}{i:AJ}{k:Nat}{f:a->Bool}{g:List Int}{h:Int}{j:List a}{o:Type}{s:a->o}{t:gB}{u:o}{x:a}{w:AU}{y z:List a}{A:Int}{B:Bool}{C:List a}{E:Nat}
def A3(i:AJ):List (AU×Int):=if Ax i=0 then eo i else []
theorem HK(h:BO g=0):∀x∈g,x=0:=by
 have:=(VI (l:=g) (f:=id)).1 (by rw[List.map_id];exact h);exact this
theorem GC(h:Ax i=0):j0 i/\(0<=i.id/\i.id<=1000000000)/\(0<=i.sq/\i.sq<=1000000000)/\(0<=i.pr/\i.pr<=2)/\Fk i=0/\Ka i=0/\NQ i=0/\L1 i=0/\M7 i=0:=by
 unfold Ax at h
 split at h; · cases h
 split at h; · cases h
 rename_i g f
 have a:=HK h;have c:=a (Fk i) (by simp[Rt]);have b:=a (Ka i) (by simp[Rt]);exact ⟨⟨by omega,by omega,by omega,Rb c,cW b⟩,by omega,by omega,by omega,c,b,a _ (by simp[Rt]),a _ (by simp[Rt]),a _ (by simp[Rt])⟩
theorem Hz(i:AJ):(gf i).length=i.po.length+4*i.pa.length:=by simp[gf,EA,Is]
theorem I1(c:List (AU×Int)):(gH c).length<=c.length:=by
 induction c using aN with
 | h0=>simp[gH]
 | h1 l x a=>
  grind[fc,Kp,gH]
theorem pu{B X:List a}(g:(j++C.filter f).Perm X)(c:C.Perm (x::B))(b:f x=true):((j++ [x])++B.filter f).Perm X:=by
 have h:=c.filter f;rw[List.filter_cons_of_pos b] at h;rw[jx];exact (List.Perm.append_left j h.symm).trans g
theorem l6{B X:List a}(g:(j++C.filter f).Perm X)(c:C.Perm (x::B))(b:¬f x=true):(j++B.filter f).Perm X:=by
 have h:=c.filter f;rw[List.filter_cons_of_neg b] at h;exact (List.Perm.append_left j h.symm).trans g
theorem X3{M:List a}(b:(j++C.filter f).Perm (M.filter f)):j.length<=M.length:=by
 have h:=b.length_eq
 grind
theorem U7(i:AJ)(H:i.po.length<=140737488355328)(G:i.pa.length<=140737488355328)(E:i.af.length<=140737488355328):AL prog 118 [.d (Af i)] (.tup [.sl none ((A3 i).map Px),AF (Ax i)]):=by
 by_cases t:Ax i=0
 .have z:=(GC t).1;have A:A3 i=eo i:=ς t
  obtain ⟨M,g⟩:∃M,gH (gf i)=M:=⟨_,Z⟩
  have B:=(RW i z).by [(2,20)] rfl;have C:M.length<=1280:=by rw[<-g];have N:=I1 (gf i);have L:=Hz i;have K:=z.po;have I:=z.pa;omega
  rw[g] at B;rw[A];have c:=LY i H G E;rw[t] at c⊢;refine Av func118 Z Z ntmps118 Z Z Z λF u=>(AC (AE (V (Bh 1 Z Z Z Z Z Z Z) (AB Z Z (AB Z Z (AD (AC ?_)))))));refine AC (AE (J (Ay Z Z CM Z Z Z) (J (Au (c) Z Z) (AB Z Z (AD (AC (AE (ek Z Z ?_))))))));refine J (C6 Z Z Z) (AD (Cr Z (by decide) (AW (AC (AE (AB Z Z (AD (AC ?_))))))));refine AC (NF 5 900 ba Z Z Z Z (AE (J (Ay Z Z CM Z Z Z) (V (FH B Z [20] ⟨Z,trivial⟩ Z Z Z Z Z Z Z Z Z) (V (Gt 2 Z Z Z CP Z Z Z Z) (AD (AZ (BM (α:=List Nat×List (AU×Int)) (λq=>⟨32,[(5,(.own 900 0 q.2.length)),(15,(.ptr 2 0 0))],[(2,[.iter 20 0 M.length q.1]),(20,[BY Bc AF M]),(900,[.rowD 218 7 (q.2.map Px)])]⟩) (λq=>(q.2++(CC M (List.range M.length) q.1).filter (λx=>decide (x.2≠0))).Perm (M.filter λx=>decide (x.2≠0))) (λq=>(CC M (List.range M.length) q.1).length) (([],[])) (by rw[nX (by simp)];exact List.Perm.refl _) (AX u [2,20,900] Z Z ⟨Z,Z,trivial⟩) ?_))))))));rintro ⟨seen,k⟩ l;dsimp only at l⊢;refine AC (AE (Lz (M) Z Z Z Z (λr=>?_) (λy b w v o s D a=>⟨_,Z,?_⟩)))
  .refine J (DC Z Z Z) (AD (AC (Cr Z Z (Aw (AC ?_)))));have f:k.Perm ((gH (gf i)).filter λx=>decide (x.2≠0)):=by have h:=l;rw[r,List.filter_nil,iR] at h;rw[g];exact h
   refine AE (ek Z Z (V (bN (gf i) k f (by have:=X3 l;omega) Z Z Z Z Z Z Z) ?_));refine AD (AC (KL (emb:=Px) 5 900 (eo i) Z Z Z (Yp f) Z Z Z (AE (ek Z Z (AB Z Z (AB Z Z (AD (A2 ?_))))))));exact ⟨_,[],[],A0 Z,Z,Z,Z,Z⟩
  .refine J (DC Z Z Z) (AD (AC ?_));refine Bw Z Z (AW (AZ (AC (AE (J (Gu (M) y b Z Z Z o s Z) (J (DC Z Z Z) (J (DC Z Z Z) (V (Bx 3 KM Z Z Z Z) ?_))))))));refine V (B3 Z Z Z Z Z Z Z Yb) (AB Z Z (AD (AC (AE (ek Z Z (J (C6 Z Z Z) (AD (A6 Z (λj=>?_) (λj=>?_)))))))))
   .refine AE (ek Z Z (J (Ay Z Z C9 Z Z Z) (ek Z Z (J (E5 a8 sm Z Z Z) (V (C1 4 ba Z Z Z Z Z Z Z Z) (V (Ev (k) ([(w,v)]) Z Z Z Z Z Z Z Z ba (by have:=X3 l;simp only[υ];omega) Z Z Z Z) (AB Z Z (AD ?_))))))));exact ⟨(seen++ [b],_),pu l a (by simpa using j),by show (CC M (List.range M.length) (seen++ [b])).length<(CC M (List.range M.length) seen).length;rw[a.length_eq];exact jG _,AX u [2,20,900] Z (Z) ⟨Z,Z,trivial⟩⟩
   .refine AW ?_;exact ⟨(seen++ [b],_),l6 l a (by simpa using j),by show (CC M (List.range M.length) (seen++ [b])).length<(CC M (List.range M.length) seen).length;rw[a.length_eq];exact jG _,AX u [2,20,900] Z (Z) ⟨Z,Z,trivial⟩⟩
 .have c:=LY i H G E;have A:A3 i=[]:=κ t;rw[A];refine Av func118 Z Z ntmps118 Z Z Z λF u=>(AC ?_);refine AE (V (Bh 1 Z Z Z Z Z Z Z) (AB Z Z (YP 2 Z (AB Z Z (AD (AC (AC (AE ?_))))))));refine J (Ay Z Z CM Z Z Z) (J (Au (c) Z Z) (AB Z Z (AD (AC (AE (ek Z Z (J (C6 Z Z Z) (AD ?_))))))));refine Bw Z ((by simpa using t)) (AC (AE (ek Z Z (AB Z Z (YP 2 Z (AB Z Z (AD (A2 ?_))))))));exact ⟨_,[],[],A0 Z,Z,Z,Z,Z⟩
def CB(i:AJ)(r:AU):Int:=if Ax i=0/\CL r=0 then Ai (gf i) r else 0
theorem YE(i:AJ)(r:AU)(l:i.po.length<=140737488355328)(k:i.pa.length<=140737488355328)(j:i.af.length<=140737488355328):AL prog 70 [.d (Af i),.d (Bc r)] (AF (CB i r)):=by
 by_cases c:Ax i=0
 .have o:=(GC c).1
  obtain ⟨M,b⟩:∃M,gH (gf i)=M:=⟨_,Z⟩
  have g:=(RW i o).by [(2,20)] rfl;rw[b] at g;have a:=LY i l k j;rw[c] at a;refine Av func70 Z Z ntmps70 Z Z Z λF t=>(AC (AE (V (Bh 1 Z Z Z Z Z Z Z) (V (Bh 2 Z Z Z Z Z Z Z) (AB Z Z ?_)))));refine AD (AC (AC (AE (J (Ay Z Z CM Z Z Z) (J (Au (a) Z Z) (J (C6 Z Z Z) (ek Z Z (Ds 8 Z (by decide) ?_))))))));refine AQ Z Z Z (J (Ay Z Z C9 Z Z Z) (AQ Z Z Z (J (Au (Wo r) Z Z) (AQ Z Z Z (J (C6 Z Z Z) (J (Be Z Z Z Z) (AD (A6 Z (λf=>?_) (λf=>?_)))))))))
  .refine AC (AE (AB Z Z (AD (A2 ?_))));exact ⟨_,[],[],A0 Z,Z,Z,Ae (by rw[CB,κ];simp_all),Z⟩
  .refine AW (AC ?_);refine CK [[],[0],[],[0,1,2],[0,1,2,3]] mixed Z (By (Ao [2] Z Z (λ_=>Aa (Ay Z Z CM Z Z Z)) (F6 [13] [20] [(14,_)] Z Z (λ_=>F7 (FH g Z [20] ⟨Z,trivial⟩ Z Z Z Z Z Z Z Z Z)) (.inr ⟨14,_,Z,Z,Z,Z,Z⟩) Z Z Z Z Z (Ao [3] Z Z (λ_=>Aa (Ay Z Z C9 Z Z Z)) (Bu 3 Z Z Z (Ab 4 Z Z (J (IV (M) (r) (0) _ Z Z Z CP CY P9 Z Z) (AD ⟨Z,?_⟩))))))));refine Ab 5 Z Z (AB Z Z (AD ⟨Z,?_⟩));refine Bz (A2 ?_);exact ⟨_,[],[],A0 Z,Z,Z,Ae (by rw[CB,ς ⟨c,by simpa using f⟩,<-b,KW]),Z⟩
 .have a:=LY i l k j;have s:CB i r=0:=κ λh=>c h.1;rw[s];refine Av func70 Z Z ntmps70 Z Z Z λF t=>(AC (AE (V (Bh 1 Z Z Z Z Z Z Z) (V (Bh 2 Z Z Z Z Z Z Z) (AB Z Z (AD (AC ?_)))))));refine AC (AE (J (Ay Z Z CM Z Z Z) (J (Au (a) Z Z) (J (C6 Z Z Z) (ek Z Z (Ey 8 Z ((by simpa using c)) (AI Z Z Z Z (AI Z Z Z Z ?_))))))));refine AI Z Z Z Z (J (BZ Z Z Z Z) (AD (Bw Z Z (AC (AE (AB Z Z (AD (A2 ?_))))))));exact ⟨_,[],[],A0 Z,Z,Z,Z,Z⟩
theorem Q0(a b:Int):AL prog 199 [.d (AF a),.d (AF b)] (AF (EB a b)):=by
 refine Av func199 Z Z ntmps199 Z Z Z λF g=>(AC (AE (AB Z Z ?_)));refine AD (AC (AC (AE (ek Z Z (ek Z Z (J (Az Z Z Z) (AD (A6 Z (λf=>?_) (λf=>?_)))))))))
 rotate_left
 refine AW (AC (AC (AE (ek Z Z (ek Z Z (J (HV Z Z Z) (AD (A6 Z (λc=>?_) (λc=>?_)))))))))
 rotate_left
 refine AW ?_
 all_goals
  refine AC (AE (AB Z Z (AD (A2 ?_))));exact ⟨_,[],[],A0 Z,Z,Z,Ae (by unfold EB;(repeat' split)<;>omega),Z⟩
theorem JO(a b:List UInt8):AL prog 200 [.d (An a),.d (An b)] (AF (Dg a b)):=by
 refine Av func200 Z Z ntmps200 Z Z Z λF g=>(AC (AE (AB Z Z ?_)));refine AD (AC (AC (AE (ek Z Z (ek Z Z (J (XC Z Z Z) (AD (JC Z (λf=>?_) (λf=>?_)))))))));rw[o8] at f
 rotate_left
 rw[o8] at f;refine AW (AC (AC (AE (ek Z Z (ek Z Z (J (XE Z Z Z) (AD (JC Z (λc=>?_) (λc=>?_)))))))));rw[o8] at c
 rotate_left
 rw[o8] at c;refine AW ?_
 all_goals
  refine AC (AE (AB Z Z (AD (A2 ?_))));exact ⟨_,[],[],A0 Z,Z,Z,by first | exact Ae (by unfold Dg;rw[ς f]) | exact Ae (by unfold Dg;rw[κ (by rw[f];decide),ς c]) | exact Ae (by unfold Dg;rw[κ (by rw[f];decide),κ (by rw[c];decide)]),Z⟩
theorem R7(a b:AU):AL prog 158 [.d (Bc a),.d (Bc b)] (AF (Bk a b)):=by
 obtain ⟨l,i⟩:∃l,[EB a.k b.k,Dg a.acc.o b.acc.o,EB a.acc.k b.acc.k,Dg a.acc.a b.acc.a,Dg a.f b.f,Dg a.t b.t]=l:=⟨_,Z⟩
 have s:l.length=6:=by rw[<-i];rfl
 have v:Bk a b=BO (l.map id):=by rw[<-i];rfl
 have t:[AF (EB a.k b.k),AF (Dg a.acc.o b.acc.o),AF (EB a.acc.k b.acc.k),AF (Dg a.acc.a b.acc.a),AF (Dg a.f b.f),AF (Dg a.t b.t)]=l.map AF:=by rw[<-i];rfl
 rw[v];refine Av func158 Z Z ntmps158 Z Z Z λF o=>(AC (AE (V (Bh 1 Z Z Z Z Z Z Z) ?_)));refine V (Bh 2 Z Z Z Z Z Z Z) (AB Z Z (AD (AC (CK [[],[0],[],[2],[0,1,2,3],[],[5],[5,6],[],[8],[8,9],rg 11,[],[12],[12,13],[],[15],[15,16],rg 18,[],[19],[19,20],[],[22],[22,23],rg 25,[],[26],[],[28],rg 30,[],[31],[],[33],rg 35,rg 36,rg 37] mixed Z (By (AR [2] Z (AK Z Ge Z Z Z) (Ao [7] Z Z (λ_=>Aa (AO Z Z Z Am Z)) (AR [3] Z (AK Z Ge Z Z Z) ?_))))))));refine Ao [9] Z Z (λ_=>Aa (AO Z Z Z Am Z)) (AR [8,10] Z (Au (Q0 a.k b.k) Z Z) (AR [2] Z (AK Z EW Z Z Z) (AR [12] Z (AK Z Rz Z Z Z) (Ao [13] Z Z (λ_=>Aa (AO Z Z Z CJ Z)) (AR [3] Z (AK Z EW Z Z Z) (AR [15] Z (AK Z Rz Z Z Z) (Ao [16] Z Z (λ_=>Aa (AO Z Z Z CJ Z)) (AR [14,17] Z (Au (JO a.acc.o b.acc.o) Z Z) ?_))))))));refine AR [2] Z (AK Z EW Z Z Z) (AR [19] Z (AK Z MR Z Z Z) (Ao [20] Z Z (λ_=>Aa (AO Z Z Z Am Z)) (AR [3] Z (AK Z EW Z Z Z) (AR [22] Z (AK Z MR Z Z Z) (Ao [23] Z Z (λ_=>Aa (AO Z Z Z Am Z)) (AR [21,24] Z (Au (Q0 a.acc.k b.acc.k) Z Z) (AR [2] Z (AK Z EW Z Z Z) (AR [26] Z (AK Z MQ Z Z Z) ?_))))))));refine Ao [27] Z Z (λ_=>Aa (AO Z Z Z CJ Z)) (AR [3] Z (AK Z EW Z Z Z) (AR [29] Z (AK Z MQ Z Z Z) (Ao [30] Z Z (λ_=>Aa (AO Z Z Z CJ Z)) (AR [28,31] Z (Au (JO a.acc.a b.acc.a) Z Z) (AR [2] Z (AK Z FC Z Z Z) (Ao [33] Z Z (λ_=>Aa (AO Z Z Z CJ Z)) (AR [3] Z (AK Z FC Z Z Z) (Ao [35] Z Z (λ_=>Aa (AO Z Z Z CJ Z)) ?_))))))));refine AR [34,36] Z (Au (JO a.f b.f) Z Z) (AR [2] Z (AK Z FB Z Z Z) (Ao [38] Z Z (λ_=>Aa (AO Z Z Z CJ Z)) (AR [3] Z (AK Z FB Z Z Z) (Ao [40] Z Z (λ_=>Aa (AO Z Z Z CJ Z)) (Bu 35 Z Z Z (Ab 36 Z Z (J (Au (JO a.t b.t) Z Z) (AD ⟨Z,?_⟩))))))));refine Ab 37 Z Z (V (C1 3 BR Z Z Z Z Z Z Z Z) ?_);rw[t];refine VS (emb:=AF) 43 3 l Z Z Z s.symm Z Z Z (AD ⟨Z,?_⟩);refine Ab 38 Z Z (AB Z Z (AD ⟨Z,?_⟩));refine Bz (AC (AC (AE (AB Z Z (AD (AZ (BM (α:=Nat) (λk=>⟨59,[(5,(.d (.sl none (l.map AF)))),(6,(.d (AF (k:Int))))],[]⟩) (λk=>k<=l.length/\BO (l.map id)=BO ((l.drop k).map id)) (λk=>l.length-k) (0) (⟨ζ _,Z⟩) (AX o [] Z Z ⟨Z,Z,trivial⟩) ?_)))))));rintro k ⟨u,j⟩;refine AC (AC (AE (ek Z Z (ek Z Z (J (BS Z E0 Z) (J (Az Z Z Z) (AD (A6 Z (λg=>?_) (λg=>?_)))))))))
 .have c:k<l.length:=BQ g;refine AW (AC (AZ (AC (AE ?_))));have r:=kR c j;refine ek Z Z (ek Z Z (J (BC (k) Z Z (Z) (A1 c) E0 Z BW Z) (J (CG Z Z Am Z) (J (C6 Z Z Z) (AD (A6 Z (λf=>?_) (λf=>?_)))))))
  .refine AC (AE (ek Z Z (ek Z Z (J (BC (k) Z Z (Z) (A1 c) E0 Z BW Z) (J (CG Z Z Am Z) (AB Z Z (AD (A2 ?_))))))));exact ⟨_,[],[],A0 Z,Z,Z,Ae (r.2 l[k] Z (by simpa using f)),Z⟩
  .refine AW (AE (ek Z Z (J (Aj Z Z (AN (k+1) (by omega)) Z) (AB Z Z (AD ?_)))));exact ⟨k+1,⟨by show k+1<=_;omega,r.1 (by simpa using f)⟩,by show l.length-(k+1)<l.length-k;omega,AX o [] Z (Z) ⟨Z,Z,trivial⟩⟩
 .refine Aw (AC (AE (AB Z Z (AD (A2 ?_)))));exact ⟨_,[],[],A0 Z,Z,Z,Ae (by rw[j,DL (by have h:=g;omega)]),Z⟩
theorem TX(a b:AJ):AL prog 109 [.d (Af a),.d (Af b)] (.raw (.bool (decide (ES a b<0)))):=by
 have c:ES a b<0↔b.pr<a.pr\/a.pr=b.pr/\a.sq<b.sq:=by
  unfold ES EB;simp only[BO]
  repeat' split
  all_goals omega
 refine Av func109 Z Z ntmps109 Z Z Z λF h=>(AC (AE (V (Bh 1 Z Z Z Z Z Z Z) (V (Bh 2 Z Z Z Z Z Z Z) (AB Z Z (AD ?_))))));refine AC (AE (J (AK Z Hu Z Z Z) (J (AO Z Z Z Am Z) (J (AK Z Hu Z Z Z) (J (AO Z Z Z Am Z) (J (HV Z Z Z) (ek Z Z (CU 10 Z (λg=>?_) (λg=>?_)))))))))
 .refine AI Z Z Z Z (AI Z Z Z Z (AI Z Z Z Z (AI Z Z Z Z (AI Z Z Z Z (AI Z Z Z Z (KJ Z Z Z ?_))))));refine KJ Z Z Z (KJ Z Z Z (KJ Z Z Z (KJ Z Z Z (AI Z Z Z Z (J (BZ Z Z Z Z) (AB Z Z (AD (A2 ?_))))))));exact ⟨_,[],[],A0 Z,Z,Z,by first | exact TR (by rw[c];omega) | exact EF (by rw[c];omega) | exact Vo (by rw[c];omega),Z⟩
 .refine AQ Z Z Z (J (AK Z Hu Z Z Z) (AQ Z Z Z (J (AO Z Z Z Am Z) ?_)));refine AQ Z Z Z (J (AK Z Hu Z Z Z) (AQ Z Z Z (J (AO Z Z Z Am Z) (AQ Z Z Z (J (GR Z Z Z) (AQ Z Z Z (ek Z Z (CU 16 Z (λf=>?_) (λf=>?_)))))))));refine AQ Z Z Z (J (AK Z Iq Z Z Z) (AQ Z Z Z ?_));refine J (AO Z Z Z Am Z) (AQ Z Z Z (J (AK Z Iq Z Z Z) (AQ Z Z Z (J (AO Z Z Z Am Z) (AQ Z Z Z (J (Az Z Z Z) (AQ Z Z Z (J (BZ Z Z Z Z) ?_))))))))
  rotate_left
  refine AI Z Z Z Z (AI Z Z Z Z (AI Z Z Z Z (AI Z Z Z Z (AI Z Z Z Z (AQ Z Z Z (J (Be Z Z Z Z) ?_))))))
  all_goals
   refine J (Be Z Z Z Z) (AB Z Z (AD (A2 ?_)));exact ⟨_,[],[],A0 Z,Z,Z,by first | exact TR (by rw[c];omega) | exact EF (by rw[c];omega) | exact Vo (by rw[c];omega),Z⟩
theorem cY(r:AU):AL prog 47 [.d (Bc r)] (Bc r):=by
 refine Av func47 Z Z ntmps47 Z Z Z λF a=>(AC ?_);refine AE (V (Bh 1 Z Z Z Z Z Z Z) (V (Bx 2 KM Z Z Z Z) (AD (AC (AE (J (AK Z Ge Z Z Z) (J (AO Z Z Z Am Z) (J (AK Z EW Z Z Z) ?_))))))));refine J (Ay Z Z Yu Z Z Z) (J (AK Z FC Z Z Z) (J (AO Z Z Z CJ Z) (J (AK Z FB Z Z Z) (J (AO Z Z Z CJ Z) (J (E5 KM T6 Z Z Z) (V (B3 Z Z Z Z Z Z Z Yb) (AD (A2 ?_))))))));exact ⟨_,[],[],A0 Z,Z,Z,Z,Z⟩
theorem aH(r:AU):AL prog 60 [.d (Bc r)] (Bc r):=by
 refine Av func60 Z Z ntmps60 Z Z Z λF a=>(AC ?_);refine AE (V (Bh 1 Z Z Z Z Z Z Z) (V (Bx 2 Sf Z Z Z Z) (AD (AC (AE (J (AK Z SA Z Z Z) (J (AO Z Z Z Am Z) (J (AK Z EY Z Z Z) ?_))))))));refine J (Ay Z Z bh Z Z Z) (J (AK Z KE Z Z Z) (J (AO Z Z Z CJ Z) (J (AK Z KD Z Z Z) (J (AO Z Z Z CJ Z) (J (E5 Sf ZH Z Z Z) (V (B3 Z Z Z Z Z Z Z KR) (AD (A2 ?_))))))));exact ⟨_,[],[],A0 Z,Z,Z,Z,Z⟩
theorem GS(h:j=c.take j.length)(b:j.length<c.length):j++ [c[j.length]]=c.take (j++ [c[j.length]]).length:=by
 rw[Δ,υ,ψ b,<-h]
theorem I0(h:j=c.take j.length)(b:¬j.length<c.length):j=c:=by grind
theorem KN(b:List a)(x:a)(h:b.length<9223372036854775807):IntKind.i64.wrap ((b.length:Int)+1)=(((b++ [x]).length:Nat):Int):=by
 rw[Δ];exact AN (b.length+1) (by omega)
abbrev Ez:AV:= .d (.sl (some true) [])
theorem ZJ(i:AJ)(x:i.po.length<=10000)(w:i.pa.length<=10000)(v:i.af.length<=10000):AL prog 48 [.d (Af i)] (Af i):=by
 refine Av func48 Z Z ntmps48 Z Z Z λF o=>(AC (AE (V (Bh 1 Z Z Z Z Z Z Z) (V (Bx 2 FK Z Z Z Z) (AD (AC ?_))))));refine CK [[],[0],[],[2],[],[4],[],[],[7],[6,7,8],rg 10,[],rg 12] mixed Z (By (AR [1] Z (AK Z Fw Z Z Z) (Ao [6] Z Z (λ_=>Aa (AO Z Z Z Am Z)) (AR [1] Z (AK Z Hu Z Z Z) (Ao [8] Z Z (λ_=>Aa (AO Z Z Z Am Z)) (AR [1] Z (AK Z Iq Z Z Z) (Ao [10] Z Z (λ_=>Aa (AO Z Z Z Am Z)) (F6 [] [3] [(12,_)] Z Z (λ_=>F7 (C1 3 BR Z Z Z Z Z Z Z Z)) (.inr ⟨12,_,Z,Z,Z,Z,Z⟩) Z Z Z Z Z ?_))))))));refine AR [1] Z (AK Z QB Z Z Z) (Ao [13] Z Z (λ_=>Aa (AO Z Z Z BH Z)) (F6 [12,14] [3] [(15,_)] Z Z (λ_=>F7 (QD (([]:List Int)) (i.af) Z Z Z Z Z Z (λ_=>rfl) BR (by simp only[jO];omega) Z Z Z Z)) (.inr ⟨15,_,Z,Z,Z,Z,Z⟩) Z Z Z Z Z (AR [7,9,11,15] Z (E5 FK pX Z Z Z) (F6 [] [4] [(3,_)] Z Z (λ_=>F7 (Bx 4 FK Z Z Z Z)) (.inr ⟨3,_,Z,Z,Z,Z,Z⟩) Z Z Z Z Z (Bu 12 Z Z Z (Ab 13 Z Z (V (B3 Z Z Z Z Z Z Z Ch) (AD ⟨Z,?_⟩))))))));refine Bz ?_;refine AC (AC (VR (ys:=i.af.map AF) 4 0 5 3 Z Z Z (by simp) (η (by simp)) Z Z Z Z Z Z (Wh 4 0 3 901 Yq Z Z Z Z Z Z Z (AE (AB Z Z (AD (AZ (BM (α:=List ED) (λb=>⟨60,[(1,(.ptr 1 0 0)),(2,(.ptr 2 0 0)),(3,(.ptr 4 0 0)),(4,(.d (AF (b.length:Int))))],[(901,[.rowD 158 4 (b.map BT)]),(1,[.blk 93 [.d (AF i.id),.d (AF i.pr),.d (AF i.sq),.d (.sl none (i.po.map BT)),.d (.sl none (i.pa.map C4)),.d (.sl none (i.af.map AF))]]),(2,[.blk 55 [.d (AF 0),.d (AF 0),.d (AF 0),Ez,Ez,Ez]]),(4,[.blk 55 [.d (AF i.id),.d (AF i.pr),.d (AF i.sq),.own 901 0 b.length,Ez,.d (.sl none (i.af.map AF))]])]⟩) (λb=>b=i.po.take b.length/\b.length<=i.po.length) (λb=>i.po.length-b.length) ([]) (⟨by simp,ζ _⟩) (AX o [901,1,2,4] Z Z ⟨Z,Z,Z,Z,trivial⟩) ?_))))))));rintro b ⟨s,u⟩;refine AC ?_;refine AC (AE (ek Z Z (J (AK Z Ns Z Z Z) (J (AO Z Z Z Fn Z) (J (BS Z Qs Z) (J (Az Z Z Z) (AD (A6 Z (λj=>?_) (λj=>?_)))))))))
 .have c:b.length<i.po.length:=BQ j;refine AW (AC (AZ (CK [[],[0],[],[2],[],[2,3,4],[2,3,4,5],[2,3,4,5,6],[],[8],[],[8,9,10],[8,9,10,11],[8,9,10,11,12],[2,3,4,5,6,7,8,9,10,11,12,13],[2,3,4,5,6,7,8,9,10,11,12,13,14],rg 16,rg 17,rg 18] mixed Z (By (AR [3] Z (AK Z EZ Z Z Z) (Ao [24] Z Z (λ_=>Aa (AO Z Z Z Pp Z)) ?_))))));refine AR [1] Z (AK Z Ns Z Z Z) (Ao [26] Z Z (λ_=>Aa (AO Z Z Z Fn Z)) (Ap 4 Z Z (AR [27,28] Z (BC (b.length) Z Z (Z) (A1 c) Qs Z IG Z) (AR [29] Z (VK Z FR Z Z Z) (AR [30] Z (C7 Z Z Yu Z) (AR [1] Z (AK Z Ns Z Z Z) (Ao [32] Z Z (λ_=>Aa (AO Z Z Z Fn Z)) (Ap 4 Z Z ?_))))))));refine AR [33,34] Z (BC (b.length) Z Z (Z) (A1 c) Qs Z IG Z) (AR [35] Z (ND Z LH Z Z Z) (AR [36] Z (CG Z Z Fo Z) (AR [31,37] Z (E5 QH cU Z Z Z) (F6 [38] [5] [(39,_)] Z Z (λ_=>F7 (C1 5 Yq Z Z Z Z Z Z Z Z)) (.inr ⟨39,_,Z,Z,Z,Z,Z⟩) Z Z Z Z Z (Bu 16 Z Z Z (Ab 17 Z Z (V (Ev (b) ([i.po[b.length]]) Z Z Z Z Z Z Z Z Yq (by simp only[υ];omega) Z Z Z Z) (AD ⟨Z,?_⟩))))))));refine Ab 18 Z Z (J (AK Z EZ Z Z Z) (AD ⟨Z,?_⟩));refine Ab 19 Z Z (V (B3 Z Z Z Z Z Z Z pC) (AD ⟨Z,?_⟩));refine Bz (AE (ek Z Z (J (Aj Z Z (KN b i.po[b.length] (by omega)) Z) (AB Z Z (AD ?_)))));exact ⟨b++ [i.po[b.length]],⟨GS s c,by rw[Δ];show b.length+1<=_;omega⟩,by rw[Δ];show i.po.length-(b.length+1)<i.po.length-b.length;omega,AX o [901,1,2,4] Z (Z) ⟨Z,Z,Z,Z,trivial⟩⟩
 .refine Aw (AC (AC ?_));have l:=I0 s (λh=>j (by omega));refine VR (ys:=i.po.map BT) 4 0 3 901 Z Z Z (by simp) (by rw[l];exact η (by simp)) Z Z Z Z Z Z (Wh 4 0 4 902 bZ Z Z Z Z Z Z Z (AE (AB Z Z (AD (AZ (BM (α:=List Jk) (λa=>⟨60,[(1,(.ptr 1 0 0)),(2,(.ptr 2 0 0)),(3,(.ptr 4 0 0)),(5,(.d (AF (a.length:Int))))],[(902,[.rowD 161 3 (a.map C4)]),(1,[.blk 93 [.d (AF i.id),.d (AF i.pr),.d (AF i.sq),.d (.sl none (i.po.map BT)),.d (.sl none (i.pa.map C4)),.d (.sl none (i.af.map AF))]]),(2,[.blk 55 [.d (AF 0),.d (AF 0),.d (AF 0),Ez,Ez,Ez]]),(4,[.blk 55 [.d (AF i.id),.d (AF i.pr),.d (AF i.sq),.d (.sl none (i.po.map BT)),.own 902 0 a.length,.d (.sl none (i.af.map AF))]])]⟩) (λa=>a=i.pa.take a.length/\a.length<=i.pa.length) (λa=>i.pa.length-a.length) ([]) (⟨by simp,ζ _⟩) (AX o [902,1,2,4] Z Z ⟨Z,Z,Z,Z,trivial⟩) ?_))))));rintro a ⟨r,t⟩;refine AC ?_;refine AC (AE (ek Z Z (J (AK Z Cp Z Z Z) (J (AO Z Z Z Ja Z) (J (BS Z b0 Z) (J (Az Z Z Z) (AD (A6 Z (λg=>?_) (λg=>?_)))))))))
  .have k:a.length<i.pa.length:=BQ g;refine AW (AC (AZ (CK [[],[0],[],[2],[],[2,3,4],[2,3,4,5],[2,3,4,5,6],rg 8,rg 9,rg 10] mixed Z (By (AR [3] Z (AK Z Fx Z Z Z) (Ao [49] Z Z (λ_=>Aa (AO Z Z Z Tb Z)) (AR [1] Z (AK Z Cp Z Z Z) ?_)))))));refine Ao [51] Z Z (λ_=>Aa (AO Z Z Z Ja Z)) (Ap 5 Z Z (AR [52,53] Z (BC (a.length) Z Z (Z) (A1 k) b0 Z KV Z) (AR [54] Z (C7 Z Z QR Z) (F6 [55] [6] [(56,_)] Z Z (λ_=>F7 (C1 6 bZ Z Z Z Z Z Z Z Z)) (.inr ⟨56,_,Z,Z,Z,Z,Z⟩) Z Z Z Z Z (Bu 8 Z Z Z (Ab 9 Z Z (V (Ev (a) ([i.pa[a.length]]) Z Z Z Z Z Z Z Z bZ (by simp only[υ];omega) Z Z Z Z) (AD ⟨Z,?_⟩))))))));refine Ab 10 Z Z (J (AK Z Fx Z Z Z) (AD ⟨Z,?_⟩));refine Ab 11 Z Z (V (B3 Z Z Z Z Z Z Z pB) (AD ⟨Z,?_⟩));refine Bz (AE (ek Z Z (J (Aj Z Z (KN a i.pa[a.length] (by omega)) Z) (AB Z Z (AD ?_)))));exact ⟨a++ [i.pa[a.length]],⟨GS r k,by rw[Δ];show a.length+1<=_;omega⟩,by rw[Δ];show i.pa.length-(a.length+1)<i.pa.length-a.length;omega,AX o [902,1,2,4] Z (Z) ⟨Z,Z,Z,Z,trivial⟩⟩
  .refine Aw (AC ?_);have f:=I0 r (λh=>g (by omega));refine VR (ys:=i.pa.map C4) 4 0 4 902 Z Z Z (by simp) (by rw[f];exact η (by simp)) Z Z Z Z Z Z (AE (J (Ay Z Z CM Z Z Z) (V (B3 Z Z Z Z Z Z Z Ch) (AD (A2 ?_)))));exact ⟨_,[],[],A0 Z,Z,Z,Z,Z⟩
theorem MK:∀{l:List AU} {r:AU} {k:Nat},(∀x∈l.take k,Bk x r<0)->l[k]? =some r->Cb l r=l
 | [],_,_,_,h=>by simp at h
 | a::l,r,0,_,h=>by
  simp at h;subst h
  simp[Cb,Pd.refl]
 | a::l,r,k+1,b,h=>by
  have f:Bk a r<0:=b a (by simp);simp only[Cb,ς f];rw[MK (k:=k) (λx c=>b x (by simp[c])) (by simpa using h)]
theorem Im:∀{l:List AU} {r:AU} {k:Nat},k<=l.length->(∀x∈l.take k,Bk x r<0)->(∀x,l[k]? =some x->¬Bk x r<0/\x≠r)->Cb l r=(l.take k++ [r])++l.drop k
 | [],r,0,_,_,_=>rfl
 | [],r,k+1,h,_,_=>by simp at h
 | a::l,r,0,_,_,h=>by
  obtain ⟨b,f⟩:=h a rfl
  simp[Cb,κ b,κ f]
 | a::l,r,k+1,g,b,h=>by
  have f:Bk a r<0:=b a (by simp);simp only[Cb,ς f];rw[Im (k:=k) (by simpa using g) (λx c=>b x (by simp[c])) (λx c=>h x (by simpa using c))]
  simp
theorem Ky(l:List AU)(r:AU):(Cb l r).length<=l.length+1:=by
 induction l with
 | nil=>simp[Cb]
 | cons a l b=>
  grind[Cb]
theorem Ny(c:List (AU×Int)):(gX c).length<=c.length:=by
 induction c using aN with
 | h0=>simp[gX]
 | h1 l x a=>rw[JH];have:=Ky (gX l) x.1;simp only[Δ,υ];omega
def pd(r:AU)(p:ED):Int:=if p.acc=r.acc then p.d else 0
def uK(r:AU)(p:Jk):Int:=if p.f=r.f/\(r.k=2\/p.t=r.t) then p.n else 0
def uJ(r:AU)(p:Jk):Int:=if p.t=r.f/\(r.k=2\/p.f=r.t) then p.n else 0
def yd(r:AU)(p:Jk):Int:= - uK r p+uJ r p
def Lr(i:AJ)(r:AU):Int:=if r.k=0 then (i.po.map (pd r)).sum else (i.pa.map (yd r)).sum
theorem It{l:List (AU×Int)}(h:∀x∈l,x.1≠w):Ai l w=0:=by
 induction l with
 | nil=>rfl
 | cons x l a=>
  grind[Ai]
theorem Ub(l:List a)(f:a->List (AU×Int))(r:AU):Ai (l.flatMap f) r=(l.map λb=>Ai (f b) r).sum:=by
 induction l with
 | nil=>rfl
 | cons b l c=>rw[List.flatMap_cons,Gg,c];rfl
theorem Q1(h:CL w=0):Lr i w=Ai (gf i) w:=by
 unfold Lr gf;rw[Gg];unfold CL at h
 split at h
 .rename_i a
  split at h
  .rename_i c
   rw[ς a]
   have v:Ai (HT i.pa) w=0:=It λx o e=>by
    obtain ⟨p,_,y⟩:=ja.1 o;simp only[MY,Υ,List.not_mem_nil,or_false] at y;rw[<-e] at a;rcases y with rfl | rfl | rfl | rfl<;>simp at a
   rw[v,Int.add_zero];unfold Ai EA;rw[gw]
   congr 1
   apply hQ
   intro p _;simp only[pd,Function.comp,Gy]
   have e:(({k:=0,acc:=p.acc,f:=[],t:=[]}:AU)=w)↔p.acc=w.acc:=by
    rw[AU.eq_iff];simp[a,c.2.2.2.2.1,c.2.2.2.2.2]
   by_cases l:p.acc=w.acc
   .rw[ς l,ς (e.2 l)]
   .rw[κ l,κ (λh=>l (e.1 h))]
  .cases h
 .rename_i a
  rw[κ a]
  have v:Ai (EA i.po) w=0:=It λx o e=>by
   obtain ⟨p,_,rfl⟩:=Θ.1 o;rw[<-e] at a;simp at a
  rw[v,Int.zero_add];unfold HT;rw[Ub]
  congr 1
  apply hQ
  intro p _;simp only[yd,uK,uJ,MY,Ai,ie,List.map_nil,List.sum_cons,List.sum_nil,CI,DH,AU.eq_iff]
  split at h
  .rename_i u
   split at h
   .rename_i c
    have g:(nN=w.acc)=True:=eq_true c.2.2.2.symm;simp only[u,g];have A:¬(1:Int)=2:=by decide
    have z:¬(2:Int)=1:=by decide
    simp only[A,z,false_and,false_or,true_and,if_false]
    by_cases b:p.f=w.f/\p.t=w.t
    .by_cases j:p.t=w.f/\p.f=w.t
     .rw[ς b,ς j,ς b];omega
     .rw[ς b,κ j,ς b];omega
    .by_cases j:p.t=w.f/\p.f=w.t
     .rw[κ b,ς j,κ b];omega
     .rw[κ b,κ j,κ b];omega
   .cases h
  .split at h
   .rename_i s
    split at h
    .rename_i c
     have g:(nN=w.acc)=True:=eq_true c.2.2.symm;simp only[s,g,c.2.1]
     by_cases C:p.f=w.f<;>by_cases B:p.t=w.f<;>simp[C,B]<;>omega
    .cases h
   .cases h
theorem Il(l:List AU)(r:AU)(s:l.length<=100000):AL prog 152 [.d (.sl none (l.map Bc)),.d (Bc r)] (.sl none ((Cb l r).map Bc)):=by
 refine Av func152 Z Z ntmps152 Z Z Z λF o=>(AC (AE (V (Bh 1 Z Z Z Z Z Z Z) ?_)));refine AB Z Z (AD (AC (AE (AB Z Z (AD (AC (AZ (BM (α:=Nat) (λk=>⟨49,[(0,.d (.sl none (l.map Bc))),(3,(.ptr 1 0 0)),(5,(.d (AF (k:Int))))],[(1,[.blk 98 [.d (AF r.k),.d (An r.acc.o),.d (AF r.acc.k),.d (An r.acc.a),.d (An r.f),.d (An r.t)]])]⟩) (λk=>k<=l.length/\∀x∈l.take k,Bk x r<0) (λk=>l.length-k) (0) (⟨ζ _,by simp⟩) (AX o [1] Z Z ⟨Z,Z,Z,trivial⟩) ?_))))))));rintro k ⟨h,i⟩;refine AC (AC ?_);refine CK [[],[],[1],[0,1,2],[0,1,2,3],rg 5,rg 5,rg 7,rg 8,rg 5,rg 10,rg 11,rg 12] mixed Z (By (Ap 5 Z Z (Ap 0 Z Z (AR [8] Z (BS Z ch Z) (Bu 3 Z Z Z (Ab 4 Z Z (J (Az Z Z Z) (AD ⟨Z,?_⟩))))))));refine Ab 5 Z Z (ek Z Z (CU 11 Z (λj=>?_) (λj=>?_)))
 .refine AD ⟨Z,?_⟩;refine By ?_
  try have a:k<l.length:=BQ j
  refine Aq [0,11] [] Z Z (λ_=>Cq Z Z Z (Pe Z Z)) ?_;refine Aq [5,11] [] Z Z (λ_=>Cq Z Z Z (Pe Z Z)) (Aq [12,13,11] [] Z Z (λ_=>Cq Z Z Z (BC (k) Z Z (Z) (A1 a) ch Z KR Z)) (Aq [14,11] [] Z Z (λ_=>Cq Z Z Z (C7 Z Z G7 Z)) (Ao [3,11] Z Z (λ_=>Cq Z Z Z (Ay Z Z G7 Z Z Z)) (Bu 10 Z Z Z (Ab 11 Z Z (AQ Z Z Z (J (Au (R7 l[k] r) Z Z) (AD ⟨Z,?_⟩))))))));refine Ab 12 Z Z (AQ Z Z Z (J (Az Z Z Z) (AD ⟨Z,?_⟩)));refine Ab 13 Z Z (J (BZ Z Z Z Z) (AD ⟨Z,?_⟩));refine Bz (A6 Z (λg=>?_) (λg=>?_))
  .refine AW (AZ (AE (ek Z Z (J (Aj Z Z (AN (k+1) (by omega)) Z) (AB Z Z (AD ?_))))));exact ⟨k+1,⟨by show k+1<=_;omega,by rw[ψ a];intro x b;rcases ϖ.1 b with b | b;exact i x b;rw[θ.1 b];exact g⟩,by show l.length-(k+1)<l.length-k;omega,AX o [1] Z (Z) ⟨Z,Z,Z,trivial⟩⟩
  .refine Aw (AC (AC ?_));refine CK [[],[],[1],[0,1,2],[0,1,2,3],rg 5,rg 5,rg 7,rg 8,rg 5,rg 10,rg 11] mixed Z (By (Ap 5 Z Z (Ap 0 Z Z (AR [23] Z (BS Z ch Z) (Bu 3 Z Z Z (Ab 4 Z Z (J (Az Z Z Z) (AD ⟨Z,?_⟩))))))));refine Ab 5 Z Z (ek Z Z (CU 26 Z (λf=>?_) (λf=>?_)))
   .refine AD ⟨Z,?_⟩;refine By ?_
    try have a:k<l.length:=BQ f
    refine Aq [0,26] [] Z Z (λ_=>Cq Z Z Z (Pe Z Z)) ?_;refine Aq [5,26] [] Z Z (λ_=>Cq Z Z Z (Pe Z Z)) (Aq [27,28,26] [] Z Z (λ_=>Cq Z Z Z (BC (k) Z Z (Z) (A1 a) ch Z KR Z)) (Aq [29,26] [] Z Z (λ_=>Cq Z Z Z (C7 Z Z G7 Z)) (Ao [3,26] Z Z (λ_=>Cq Z Z Z (Ay Z Z G7 Z Z Z)) (Bu 10 Z Z Z (Ab 11 Z Z (AQ Z Z Z (J (Fg (la:=NN l[k]) (lb:=NN r) (ds:=br) (by kernel_rfl) (by kernel_rfl) (by kernel_rfl) Z Z Z Z (EQ _) (EQ _) (NW _ _) Z) (AD ⟨Z,?_⟩))))))));refine Ab 12 Z Z (J (BZ Z Z Z Z) (AD ⟨Z,?_⟩));refine Bz (A6 Z (λc=>?_) (λc=>?_))
    .refine AC (AE (ek Z Z (AB Z Z (AD (A2 ?_)))));exact ⟨_,[],[],A0 Z,Z,Z,by rw[MK i ((ω a).trans (by rw[c]))],Z⟩
    .refine AW (AC (AE (V (C1 20 D4 Z Z Z Z Z Z Z Z) (ek Z Z (ek Z Z ?_)))));refine J (kS (l) (k) Z Z Z (Z) (by omega) ch KR (λ_=>rfl) Z) (V (QD (([]:List AU)) (l.take k) Z Z Z Z Z Z (λ_=>rfl) D4 (by simp only[jO,ϱ];omega) Z Z Z Z) (AB Z Z (AD (AC (AE (ek Z Z (J (Ay Z Z G7 Z Z Z) (V (C1 21 D4 Z Z Z Z Z Z Z Z) ?_))))))));refine V (Ev (([]++l.take k)) ([r]) Z Z Z Z Z Z Z Z D4 (by simp only[jR,υ,ϱ];omega) Z Z Z Z) ?_;refine AB Z Z (AD (AC (AE (ek Z Z (ek Z Z (ek Z Z (J (D2 (l) (k) Z Z Z (Z) (by omega) ch KR (λ_=>rfl) Z) ?_)))))));refine V (QD ((([]++l.take k)++ [r])) (l.drop k) Z Z Z Z Z Z (λ_=>rfl) D4 (by simp only[jR,Δ,υ,ϱ,jT];omega) Z Z Z Z) ?_;refine VS (emb:=Bc) 48 20 ((([]++l.take k)++ [r])++l.drop k) Z Z Z Z Z Z Z (AB Z Z (AD (A2 ?_)));exact ⟨_,[],[],A0 Z,Z,Z,by rw[Im h i λx b=>by first | (exact absurd (φ.1 b).1 (by omega)) | (rw[ω a] at b;injection b with b;subst b;exact ⟨g,c⟩)];rfl,Z⟩
   .refine AD ⟨Z,?_⟩;refine By ?_
    try have a:k<l.length:=BQ f
    refine Aq [0,26] [] Z Z (λ_=>EJ Z Z Z Z) (Aq [5,26] [] Z Z (λ_=>EJ Z Z Z Z) (Aq [27,28,26] [] Z Z (λ_=>EJ Z Z Z Z) (Aq [29,26] [] Z Z (λ_=>EJ Z Z Z Z) (Aq [3,26] [] Z Z (λ_=>EJ Z Z Z Z) (Bu 10 Z Z Z (Ab 11 Z Z (AI Z Z Z Z (AD ⟨Z,?_⟩))))))));refine Ab 12 Z Z (J (Be Z Z Z Z) (AD ⟨Z,?_⟩));refine Bz (Cr Z Z (AW (AC (AE (V (C1 20 D4 Z Z Z Z Z Z Z Z) (ek Z Z (ek Z Z ?_)))))));refine J (kS (l) (k) Z Z Z (Z) (by omega) ch KR (λ_=>rfl) Z) (V (QD (([]:List AU)) (l.take k) Z Z Z Z Z Z (λ_=>rfl) D4 (by simp only[jO,ϱ];omega) Z Z Z Z) (AB Z Z (AD (AC (AE (ek Z Z (J (Ay Z Z G7 Z Z Z) (V (C1 21 D4 Z Z Z Z Z Z Z Z) ?_))))))));refine V (Ev (([]++l.take k)) ([r]) Z Z Z Z Z Z Z Z D4 (by simp only[jR,υ,ϱ];omega) Z Z Z Z) ?_;refine AB Z Z (AD (AC (AE (ek Z Z (ek Z Z (ek Z Z (J (D2 (l) (k) Z Z Z (Z) (by omega) ch KR (λ_=>rfl) Z) ?_)))))));refine V (QD ((([]++l.take k)++ [r])) (l.drop k) Z Z Z Z Z Z (λ_=>rfl) D4 (by simp only[jR,Δ,υ,ϱ,jT];omega) Z Z Z Z) ?_;refine VS (emb:=Bc) 48 20 ((([]++l.take k)++ [r])++l.drop k) Z Z Z Z Z Z Z (AB Z Z (AD (A2 ?_)));exact ⟨_,[],[],A0 Z,Z,Z,by rw[Im h i λx b=>by first | (exact absurd (φ.1 b).1 (by omega)) | (rw[ω a] at b;injection b with b;subst b;exact ⟨g,c⟩)];rfl,Z⟩
 .refine AD ⟨Z,?_⟩;refine By ?_
  try have a:k<l.length:=BQ j
  refine Aq [0,11] [] Z Z (λ_=>EJ Z Z Z Z) (Aq [5,11] [] Z Z (λ_=>EJ Z Z Z Z) (Aq [12,13,11] [] Z Z (λ_=>EJ Z Z Z Z) (Aq [14,11] [] Z Z (λ_=>EJ Z Z Z Z) (Aq [3,11] [] Z Z (λ_=>EJ Z Z Z Z) (Bu 10 Z Z Z (Ab 11 Z Z (AI Z Z Z Z (AD ⟨Z,?_⟩))))))));refine Ab 12 Z Z (AI Z Z Z Z (AD ⟨Z,?_⟩));refine Ab 13 Z Z (J (Be Z Z Z Z) (AD ⟨Z,?_⟩));refine Bz (Cr Z Z (Aw (AC (AC ?_))));refine CK [[],[],[1],[0,1,2],[0,1,2,3],rg 5,rg 5,rg 7,rg 8,rg 5,rg 10,rg 11] mixed Z (By (Ap 5 Z Z (Ap 0 Z Z (AR [23] Z (BS Z ch Z) (Bu 3 Z Z Z (Ab 4 Z Z (J (Az Z Z Z) (AD ⟨Z,?_⟩))))))));refine Ab 5 Z Z (ek Z Z (CU 26 Z (λf=>?_) (λf=>?_)))
  .refine AD ⟨Z,?_⟩;refine By ?_
   try have a:k<l.length:=BQ f
   refine Aq [0,26] [] Z Z (λ_=>Cq Z Z Z (Pe Z Z)) ?_;refine Aq [5,26] [] Z Z (λ_=>Cq Z Z Z (Pe Z Z)) (Aq [27,28,26] [] Z Z (λ_=>Cq Z Z Z (BC (k) Z Z (Z) (A1 a) ch Z KR Z)) (Aq [29,26] [] Z Z (λ_=>Cq Z Z Z (C7 Z Z G7 Z)) (Ao [3,26] Z Z (λ_=>Cq Z Z Z (Ay Z Z G7 Z Z Z)) (Bu 10 Z Z Z (Ab 11 Z Z (AQ Z Z Z (J (Fg (la:=NN l[k]) (lb:=NN r) (ds:=br) (by kernel_rfl) (by kernel_rfl) (by kernel_rfl) Z Z Z Z (EQ _) (EQ _) (NW _ _) Z) (AD ⟨Z,?_⟩))))))));refine Ab 12 Z Z (J (BZ Z Z Z Z) (AD ⟨Z,?_⟩));refine Bz (A6 Z (λc=>?_) (λc=>?_))
   .refine AC (AE (ek Z Z (AB Z Z (AD (A2 ?_)))));exact ⟨_,[],[],A0 Z,Z,Z,by rw[MK i ((ω a).trans (by rw[c]))],Z⟩
   .refine AW (AC (AE (V (C1 20 D4 Z Z Z Z Z Z Z Z) (ek Z Z (ek Z Z ?_)))));refine J (kS (l) (k) Z Z Z (Z) (by omega) ch KR (λ_=>rfl) Z) (V (QD (([]:List AU)) (l.take k) Z Z Z Z Z Z (λ_=>rfl) D4 (by simp only[jO,ϱ];omega) Z Z Z Z) (AB Z Z (AD (AC (AE (ek Z Z (J (Ay Z Z G7 Z Z Z) (V (C1 21 D4 Z Z Z Z Z Z Z Z) ?_))))))));refine V (Ev (([]++l.take k)) ([r]) Z Z Z Z Z Z Z Z D4 (by simp only[jR,υ,ϱ];omega) Z Z Z Z) ?_;refine AB Z Z (AD (AC (AE (ek Z Z (ek Z Z (ek Z Z (J (D2 (l) (k) Z Z Z (Z) (by omega) ch KR (λ_=>rfl) Z) ?_)))))));refine V (QD ((([]++l.take k)++ [r])) (l.drop k) Z Z Z Z Z Z (λ_=>rfl) D4 (by simp only[jR,Δ,υ,ϱ,jT];omega) Z Z Z Z) ?_;refine VS (emb:=Bc) 48 20 ((([]++l.take k)++ [r])++l.drop k) Z Z Z Z Z Z Z (AB Z Z (AD (A2 ?_)));exact ⟨_,[],[],A0 Z,Z,Z,by rw[Im h i λx b=>by first | (exact absurd (φ.1 b).1 (by omega)) | (rw[ω a] at b;injection b with b;subst b;exact ⟨g,c⟩)];rfl,Z⟩
  .refine AD ⟨Z,?_⟩;refine By ?_
   try have a:k<l.length:=BQ f
   refine Aq [0,26] [] Z Z (λ_=>EJ Z Z Z Z) (Aq [5,26] [] Z Z (λ_=>EJ Z Z Z Z) (Aq [27,28,26] [] Z Z (λ_=>EJ Z Z Z Z) (Aq [29,26] [] Z Z (λ_=>EJ Z Z Z Z) (Aq [3,26] [] Z Z (λ_=>EJ Z Z Z Z) (Bu 10 Z Z Z (Ab 11 Z Z (AI Z Z Z Z (AD ⟨Z,?_⟩))))))));refine Ab 12 Z Z (J (Be Z Z Z Z) (AD ⟨Z,?_⟩));refine Bz (Cr Z Z (AW (AC (AE (V (C1 20 D4 Z Z Z Z Z Z Z Z) (ek Z Z (ek Z Z ?_)))))));refine J (kS (l) (k) Z Z Z (Z) (by omega) ch KR (λ_=>rfl) Z) (V (QD (([]:List AU)) (l.take k) Z Z Z Z Z Z (λ_=>rfl) D4 (by simp only[jO,ϱ];omega) Z Z Z Z) (AB Z Z (AD (AC (AE (ek Z Z (J (Ay Z Z G7 Z Z Z) (V (C1 21 D4 Z Z Z Z Z Z Z Z) ?_))))))));refine V (Ev (([]++l.take k)) ([r]) Z Z Z Z Z Z Z Z D4 (by simp only[jR,υ,ϱ];omega) Z Z Z Z) ?_;refine AB Z Z (AD (AC (AE (ek Z Z (ek Z Z (ek Z Z (J (D2 (l) (k) Z Z Z (Z) (by omega) ch KR (λ_=>rfl) Z) ?_)))))));refine V (QD ((([]++l.take k)++ [r])) (l.drop k) Z Z Z Z Z Z (λ_=>rfl) D4 (by simp only[jR,Δ,υ,ϱ,jT];omega) Z Z Z Z) ?_;refine VS (emb:=Bc) 48 20 ((([]++l.take k)++ [r])++l.drop k) Z Z Z Z Z Z Z (AB Z Z (AD (A2 ?_)));exact ⟨_,[],[],A0 Z,Z,Z,by rw[Im h i λx b=>by first | (exact absurd (φ.1 b).1 (by omega)) | (rw[ω a] at b;injection b with b;subst b;exact ⟨g,c⟩)];rfl,Z⟩
theorem JI{l:List a}{f:a->Int}{B:Int}(h:∀x∈l,-B<=f x/\f x<=B)(n:Nat)(b:l.length<=n)(i:0<=B): -(n*B)<=(l.map f).sum/\(l.map f).sum<=n*B:=by
 induction l generalizing n with
 | nil=>have:=Int.mul_nonneg (Int.natCast_nonneg n) i;simp only[List.map_nil,List.sum_nil];omega
 | cons x l c=>
  obtain ⟨m,rfl⟩:∃m,n=m+1:=⟨n-1,by simp at b;omega⟩
  have j:=c (λy g=>h y (by simp[g])) m (by simpa using b)
  grind
theorem OE{f:a->Int}(b:k<c.length):((c.take (k+1)).map f).sum=((c.take k).map f).sum+f c[k]:=by
 rw[ψ b,Ω,ji];simp
theorem ur(a:j0 i)(r:AU)(k:Nat): -256000000000000000<=((i.po.take k).map (pd r)).sum/\((i.po.take k).map (pd r)).sum<=256000000000000000:=by
 have h:=JI (l:=i.po.take k) (f:=pd r) (B:=Mx) (λx b=>by
  have:=a.d x (i8 b);simp only[Mx] at this;unfold pd;split
  .simp only[Mx];omega
  .simp only[Mx];omega) 256 (by have:=a.po;rw[ϱ];omega) (by decide)
 grind
theorem uV(a:j0 i)(r:AU)(k:Nat): -512000000000000000<=((i.pa.take k).map (yd r)).sum/\((i.pa.take k).map (yd r)).sum<=512000000000000000:=by
 have h:=JI (l:=i.pa.take k) (f:=yd r) (B:=2*Mx) (λx b=>by
  have:=a.n x (i8 b);simp only[Mx] at this
  unfold yd uK uJ;simp only[Mx];(repeat' split)<;>omega) 256 (by have:=a.pa;rw[ϱ];omega) (by decide)
 grind
theorem TY(i:AJ)(r:AU)(v:j0 i):AL prog 103 [.d (Af i),.d (Bc r)] (AF (Lr i r)):=by
 have B:=v.po;have C:=v.pa;refine Av func103 Z Z ntmps103 Z Z Z λF w=>?_;refine AC (AE (V (Bh 1 Z Z Z Z Z Z Z) (V (Bh 2 Z Z Z Z Z Z Z) (AB Z Z (AD (AC (AE (AB Z Z ?_))))))));refine AD (AC (AC (AE (J (AK Z Ge Z Z Z) (J (AO Z Z Z Am Z) (J (GR Z Z Z) (AD (A6 Z (λu=>?_) (λu=>?_)))))))))
 .refine AC (AC (AE (AB Z Z (AD (AZ (BM (α:=Nat×Int) (λq=>⟨92,[(2,(.ptr 1 0 0)),(3,(.ptr 2 0 0)),(5,(.d (AF q.2))),(6,(.d (AF (q.1:Int))))],[(1,[.blk 93 [.d (AF i.id),.d (AF i.pr),.d (AF i.sq),.d (.sl none (i.po.map BT)),.d (.sl none (i.pa.map C4)),.d (.sl none (i.af.map AF))]]),(2,[.blk 98 [.d (AF r.k),.d (An r.acc.o),.d (AF r.acc.k),.d (An r.acc.a),.d (An r.f),.d (An r.t)]])]⟩) (λq=>q.1<=i.po.length/\q.2=((i.po.take q.1).map (pd r)).sum) (λq=>i.po.length-q.1) ((0,0)) (⟨ζ _,Z⟩) (AX w [1,2] Z Z ⟨Z,Z,Z,Z,trivial⟩) ?_))))));rintro ⟨k,n⟩ ⟨j,g⟩;dsimp only at j g⊢;have x:=ur v r k;refine AC ?_;refine AC (AE (ek Z Z (J (AK Z Ns Z Z Z) (J (AO Z Z Z Fn Z) (J (BS Z Qs Z) (J (Az Z Z Z) (AD (A6 Z (λt=>?_) (λt=>?_)))))))))
  .have a:k<i.po.length:=BQ t;refine AW (AC (AZ (AC (CK [[],[0],[],[0,1,2],[0,1,2,3],rg 5,[],[6],rg 8] mixed Z (By (AR [2] Z (AK Z Ns Z Z Z) (Ao [19] Z Z (λ_=>Aa (AO Z Z Z Fn Z)) (Ap 6 Z Z ?_))))))));refine AR [20,21] Z (BC (k) Z Z (Z) (A1 a) Qs Z IG Z) (AR [22] Z (VK Z FR Z Z Z) (AR [23] Z (C7 Z Z Yu Z) (AR [3] Z (AK Z EW Z Z Z) (Ao [25] Z Z (λ_=>Aa (Ay Z Z Yu Z Z Z)) (Bu 8 Z Z Z (Ab 9 Z Z (J (Fg (la:=NR i.po[k].acc) (lb:=NR r.acc) (ds:=fe) (by kernel_rfl) (by kernel_rfl) (by kernel_rfl) Z Z Z Z (Dc _) (Dc _) (Nn _ _) Z) (AD ⟨Z,?_⟩))))))));refine Bz (A6 Z (λs=>?_) (λs=>?_))
   .refine AE (ek Z Z (J (AK Z Ns Z Z Z) (J (AO Z Z Z Fn Z) (ek Z Z (J (BC (k) Z Z (Z) (A1 a) Qs Z IG Z) (J (ND Z LH Z Z Z) (J (CG Z Z Fo Z) ?_)))))));have l:=v.d _ (ϑ a);simp only[Mx] at l;refine J (Aj Z Z (Ξ _ (by omega)) Z) (AB Z Z (AD (AE (ek Z Z (J (Aj Z Z (AN (k+1) (by omega)) Z) (AB Z Z (AD ?_)))))));exact ⟨(k+1,_),⟨by show k+1<=_;omega,by show _=((i.po.take (k+1)).map (pd r)).sum;rw[OE a,<-g];unfold pd;rw[ς s]⟩,by show i.po.length-(k+1)<i.po.length-k;omega,AX w [1,2] Z (Z) ⟨Z,Z,Z,Z,trivial⟩⟩
   .refine AW (AE (ek Z Z (J (Aj Z Z (AN (k+1) (by omega)) Z) (AB Z Z (AD ?_)))));exact ⟨(k+1,_),⟨by show k+1<=_;omega,by show _=((i.po.take (k+1)).map (pd r)).sum;rw[OE a,<-g];unfold pd;rw[κ s];exact (Int.add_zero _).symm⟩,by show i.po.length-(k+1)<i.po.length-k;omega,AX w [1,2] Z (Z) ⟨Z,Z,Z,Z,trivial⟩⟩
  .refine Aw (AC (AE (ek Z Z (AB Z Z (AD (A2 ?_))))));exact ⟨_,[],[],A0 Z,Z,Z,Ae (by unfold Lr;rw[ς u,g,η (by have h:=t;omega)]),Z⟩
 .refine AW (AC (AC (AE (AB Z Z (AD (AZ (BM (α:=Nat×Int) (λq=>⟨92,[(2,(.ptr 1 0 0)),(3,(.ptr 2 0 0)),(5,(.d (AF q.2))),(7,(.d (AF (q.1:Int))))],[(1,[.blk 93 [.d (AF i.id),.d (AF i.pr),.d (AF i.sq),.d (.sl none (i.po.map BT)),.d (.sl none (i.pa.map C4)),.d (.sl none (i.af.map AF))]]),(2,[.blk 98 [.d (AF r.k),.d (An r.acc.o),.d (AF r.acc.k),.d (An r.acc.a),.d (An r.f),.d (An r.t)]])]⟩) (λq=>q.1<=i.pa.length/\q.2=((i.pa.take q.1).map (yd r)).sum) (λq=>i.pa.length-q.1) ((0,0)) (⟨ζ _,Z⟩) (AX w [1,2] Z Z ⟨Z,Z,Z,Z,trivial⟩) ?_)))))));rintro ⟨k,n⟩ ⟨j,g⟩;dsimp only at j g⊢;have x:=uV v r k;refine AC ?_;refine AC (AE (ek Z Z (J (AK Z Cp Z Z Z) (J (AO Z Z Z Ja Z) (J (BS Z b0 Z) (J (Az Z Z Z) (AD (A6 Z (λo=>?_) (λo=>?_)))))))))
  .have a:k<i.pa.length:=BQ o;refine AW (AC (AZ (AC (AE ?_))));have l:=v.n _ (ϑ a);simp only[Mx] at l;refine J (AK Z Cp Z Z Z) (J (AO Z Z Z Ja Z) (ek Z Z (J (BC (k) Z Z (Z) (A1 a) b0 Z KV Z) (J (C7 Z Z QR Z) (V (Bx 3 a9 Z Z Z Z) (V (B3 Z Z Z Z Z Z Z KV) (AD (AC ?_))))))));refine AC (AE (J (AK Z Eg Z Z Z) (J (AO Z Z Z CJ Z) (J (AK Z FC Z Z Z) (J (AO Z Z Z CJ Z) (J (KK Z Z Z) (ek Z Z (CU 54 Z (λA=>?_) (λA=>?_)))))))));refine AQ Z Z Z (J (AK Z Ge Z Z Z) (AQ Z Z Z (J (AO Z Z Z Am Z) (AQ Z Z Z (J (GR Z Z Z) (AQ Z Z Z (ek Z Z (CU 58 Z (λz=>?_) (λz=>?_)))))))));refine AI Z Z Z Z (AI Z Z Z Z (AI Z Z Z Z (AI Z Z Z Z (AI Z Z Z Z (AQ Z Z Z (J (BZ Z Z Z Z) (J (BZ Z Z Z Z) ?_)))))));refine AD (Bw Z Z (AE (ek Z Z (J (AK Z DN Z Z Z) (J (AO Z Z Z Fo Z) (J (P4 Z Z (Ξ _ (by omega)) Z) (AB Z Z (AD ?_))))))));refine AC (AE (J (AK Z Ef Z Z Z) (J (AO Z Z Z CJ Z) (J (AK Z FC Z Z Z) (J (AO Z Z Z CJ Z) (J (KK Z Z Z) (ek Z Z (CU 75 Z (λf=>?_) (λf=>?_)))))))));refine AQ Z Z Z (J (AK Z Ge Z Z Z) (AQ Z Z Z (J (AO Z Z Z Am Z) (AQ Z Z Z (J (GR Z Z Z) (AQ Z Z Z (ek Z Z (CU 79 Z (λc=>?_) (λc=>?_)))))))));refine AI Z Z Z Z (AI Z Z Z Z (AI Z Z Z Z (AI Z Z Z Z (AI Z Z Z Z (AQ Z Z Z (J (BZ Z Z Z Z) (J (BZ Z Z Z Z) ?_)))))));refine AD (Bw Z Z (AE (ek Z Z (J (AK Z DN Z Z Z) (J (AO Z Z Z Fo Z) (J (Aj Z Z (Ξ _ (by omega)) Z) (AB Z Z (AD ?_))))))))
   rotate_left
   refine AQ Z Z Z (J (AK Z Eg Z Z Z) (AQ Z Z Z (J (AO Z Z Z CJ Z) (AQ Z Z Z (J (AK Z FB Z Z Z) ?_)))));refine AQ Z Z Z (J (AO Z Z Z CJ Z) (AQ Z Z Z (J (KK Z Z Z) (AQ Z Z Z (J (Be Z Z Z Z) (J (BZ Z Z Z Z) (AD (A6 Z (λb=>?_) (λb=>?_)))))))));refine AE (ek Z Z (J (AK Z DN Z Z Z) (J (AO Z Z Z Fo Z) (J (Aj Z Z (Ξ _ (by omega)) Z) (AB Z Z (AD ?_))))))
   rotate_left
   refine AW ?_
   rotate_left
   refine AI Z Z Z Z (AI Z Z Z Z (AI Z Z Z Z (AI Z Z Z Z (KJ Z Z Z ?_))));refine KJ Z Z Z (KJ Z Z Z (KJ Z Z Z (KJ Z Z Z (AI Z Z Z Z (J (Be Z Z Z Z) (AD (Cr Z Z (AW ?_))))))))
   rotate_left
   refine AQ Z Z Z (J (AK Z Ef Z Z Z) (AQ Z Z Z (J (AO Z Z Z CJ Z) (AQ Z Z Z (J (AK Z FB Z Z Z) ?_)))));refine AQ Z Z Z (J (AO Z Z Z CJ Z) (AQ Z Z Z (J (KK Z Z Z) (AQ Z Z Z (J (Be Z Z Z Z) (J (BZ Z Z Z Z) (AD (A6 Z (λy=>?_) (λy=>?_)))))))));refine AE (ek Z Z (J (AK Z DN Z Z Z) (J (AO Z Z Z Fo Z) (J (P4 Z Z (Ξ _ (by omega)) Z) (AB Z Z (AD ?_))))));refine AC (AE (J (AK Z Ef Z Z Z) (J (AO Z Z Z CJ Z) (J (AK Z FC Z Z Z) (J (AO Z Z Z CJ Z) (J (KK Z Z Z) (ek Z Z (CU 75 Z (λf=>?_) (λf=>?_)))))))));refine AQ Z Z Z (J (AK Z Ge Z Z Z) (AQ Z Z Z (J (AO Z Z Z Am Z) (AQ Z Z Z (J (GR Z Z Z) (AQ Z Z Z (ek Z Z (CU 79 Z (λc=>?_) (λc=>?_)))))))));refine AI Z Z Z Z (AI Z Z Z Z (AI Z Z Z Z (AI Z Z Z Z (AI Z Z Z Z (AQ Z Z Z (J (BZ Z Z Z Z) (J (BZ Z Z Z Z) ?_)))))));refine AD (Bw Z Z (AE (ek Z Z (J (AK Z DN Z Z Z) (J (AO Z Z Z Fo Z) (J (Aj Z Z (Ξ _ (by omega)) Z) (AB Z Z (AD ?_))))))))
   rotate_left
   refine AQ Z Z Z (J (AK Z Eg Z Z Z) (AQ Z Z Z (J (AO Z Z Z CJ Z) (AQ Z Z Z (J (AK Z FB Z Z Z) ?_)))));refine AQ Z Z Z (J (AO Z Z Z CJ Z) (AQ Z Z Z (J (KK Z Z Z) (AQ Z Z Z (J (Be Z Z Z Z) (J (BZ Z Z Z Z) (AD (A6 Z (λb=>?_) (λb=>?_)))))))));refine AE (ek Z Z (J (AK Z DN Z Z Z) (J (AO Z Z Z Fo Z) (J (Aj Z Z (Ξ _ (by omega)) Z) (AB Z Z (AD ?_))))))
   rotate_left
   refine AW ?_
   rotate_left
   refine AI Z Z Z Z (AI Z Z Z Z (AI Z Z Z Z (AI Z Z Z Z (KJ Z Z Z ?_))));refine KJ Z Z Z (KJ Z Z Z (KJ Z Z Z (KJ Z Z Z (AI Z Z Z Z (J (Be Z Z Z Z) (AD (Cr Z Z (AW ?_))))))))
   rotate_left
   refine AW ?_;refine AC (AE (J (AK Z Ef Z Z Z) (J (AO Z Z Z CJ Z) (J (AK Z FC Z Z Z) (J (AO Z Z Z CJ Z) (J (KK Z Z Z) (ek Z Z (CU 75 Z (λf=>?_) (λf=>?_)))))))));refine AQ Z Z Z (J (AK Z Ge Z Z Z) (AQ Z Z Z (J (AO Z Z Z Am Z) (AQ Z Z Z (J (GR Z Z Z) (AQ Z Z Z (ek Z Z (CU 79 Z (λc=>?_) (λc=>?_)))))))));refine AI Z Z Z Z (AI Z Z Z Z (AI Z Z Z Z (AI Z Z Z Z (AI Z Z Z Z (AQ Z Z Z (J (BZ Z Z Z Z) (J (BZ Z Z Z Z) ?_)))))));refine AD (Bw Z Z (AE (ek Z Z (J (AK Z DN Z Z Z) (J (AO Z Z Z Fo Z) (J (Aj Z Z (Ξ _ (by omega)) Z) (AB Z Z (AD ?_))))))))
   rotate_left
   refine AQ Z Z Z (J (AK Z Eg Z Z Z) (AQ Z Z Z (J (AO Z Z Z CJ Z) (AQ Z Z Z (J (AK Z FB Z Z Z) ?_)))));refine AQ Z Z Z (J (AO Z Z Z CJ Z) (AQ Z Z Z (J (KK Z Z Z) (AQ Z Z Z (J (Be Z Z Z Z) (J (BZ Z Z Z Z) (AD (A6 Z (λb=>?_) (λb=>?_)))))))));refine AE (ek Z Z (J (AK Z DN Z Z Z) (J (AO Z Z Z Fo Z) (J (Aj Z Z (Ξ _ (by omega)) Z) (AB Z Z (AD ?_))))))
   rotate_left
   refine AW ?_
   rotate_left
   refine AI Z Z Z Z (AI Z Z Z Z (AI Z Z Z Z (AI Z Z Z Z (KJ Z Z Z ?_))));refine KJ Z Z Z (KJ Z Z Z (KJ Z Z Z (KJ Z Z Z (AI Z Z Z Z (J (Be Z Z Z Z) (AD (Cr Z Z (AW ?_))))))))
   rotate_left
   refine AI Z Z Z Z (AI Z Z Z Z (AI Z Z Z Z (AI Z Z Z Z (KJ Z Z Z ?_))));refine KJ Z Z Z (KJ Z Z Z (KJ Z Z Z (KJ Z Z Z (AI Z Z Z Z (J (Be Z Z Z Z) (AD (Cr Z Z (AW ?_))))))));refine AC (AE (J (AK Z Ef Z Z Z) (J (AO Z Z Z CJ Z) (J (AK Z FC Z Z Z) (J (AO Z Z Z CJ Z) (J (KK Z Z Z) (ek Z Z (CU 75 Z (λf=>?_) (λf=>?_)))))))));refine AQ Z Z Z (J (AK Z Ge Z Z Z) (AQ Z Z Z (J (AO Z Z Z Am Z) (AQ Z Z Z (J (GR Z Z Z) (AQ Z Z Z (ek Z Z (CU 79 Z (λc=>?_) (λc=>?_)))))))));refine AI Z Z Z Z (AI Z Z Z Z (AI Z Z Z Z (AI Z Z Z Z (AI Z Z Z Z (AQ Z Z Z (J (BZ Z Z Z Z) (J (BZ Z Z Z Z) ?_)))))));refine AD (Bw Z Z (AE (ek Z Z (J (AK Z DN Z Z Z) (J (AO Z Z Z Fo Z) (J (Aj Z Z (Ξ _ (by omega)) Z) (AB Z Z (AD ?_))))))))
   rotate_left
   refine AQ Z Z Z (J (AK Z Eg Z Z Z) (AQ Z Z Z (J (AO Z Z Z CJ Z) (AQ Z Z Z (J (AK Z FB Z Z Z) ?_)))));refine AQ Z Z Z (J (AO Z Z Z CJ Z) (AQ Z Z Z (J (KK Z Z Z) (AQ Z Z Z (J (Be Z Z Z Z) (J (BZ Z Z Z Z) (AD (A6 Z (λb=>?_) (λb=>?_)))))))));refine AE (ek Z Z (J (AK Z DN Z Z Z) (J (AO Z Z Z Fo Z) (J (Aj Z Z (Ξ _ (by omega)) Z) (AB Z Z (AD ?_))))))
   rotate_left
   refine AW ?_
   rotate_left
   refine AI Z Z Z Z (AI Z Z Z Z (AI Z Z Z Z (AI Z Z Z Z (KJ Z Z Z ?_))));refine KJ Z Z Z (KJ Z Z Z (KJ Z Z Z (KJ Z Z Z (AI Z Z Z Z (J (Be Z Z Z Z) (AD (Cr Z Z (AW ?_))))))))
   all_goals
    refine AE (ek Z Z (J (Aj Z Z (AN (k+1) (by omega)) Z) (AB Z Z (AD ?_))));exact ⟨(k+1,_),⟨by show k+1<=_;omega,by show _=((i.pa.take (k+1)).map (yd r)).sum;rw[OE a,<-g];unfold yd uK uJ;(repeat' split)<;>first | omega | (exfalso;simp_all;done)⟩,by show i.pa.length-(k+1)<i.pa.length-k;omega,AX w [1,2] Z (Z) ⟨Z,Z,Z,Z,trivial⟩⟩
  .refine Aw (AC (AE (ek Z Z (AB Z Z (AD (A2 ?_))))));exact ⟨_,[],[],A0 Z,Z,Z,Ae (by unfold Lr;rw[κ u,g,η (by have h:=o;omega)]),Z⟩
def Ex(i:AJ):Int:=BO [Fk i,Ka i,NQ i]
theorem D6(a:h=Fk i)(b:h≠0):h=Ex i:=by grind[Ex,BO]
theorem Fm(b:Fk i=0)(a:h=Ka i)(c:h≠0):h=Ex i:=by grind[Ex,BO]
theorem Hc(c:Fk i=0)(b:Ka i=0)(a:h=NQ i):h=Ex i:=by grind[Ex,BO]
theorem lT(i:AJ)(M:i.po.length<=1000)(L:i.pa.length<=1000)(K:i.af.length<=1000):AL prog 101 [.d (Af i)] (AF (Ex i)):=by
 refine Av func101 Z Z ntmps101 Z Z Z λF s=>(AC (AE (V (Bh 1 Z Z Z Z Z Z Z) ?_)));refine AB Z Z (AD (AC (AC (AE (AB Z Z (AD (AZ (BM (α:=Nat) (λk=>⟨121,[(1,(.ptr 1 0 0)),(3,(.d (AF (k:Int))))],[(1,[.blk 93 [.d (AF i.id),.d (AF i.pr),.d (AF i.sq),.d (.sl none (i.po.map BT)),.d (.sl none (i.pa.map C4)),.d (.sl none (i.af.map AF))]])]⟩) (λk=>k<=i.po.length/\Fk i=BO ((i.po.drop k).map I8)) (λk=>i.po.length-k) (0) (⟨ζ _,Z⟩) (AX s [1] Z Z ⟨Z,Z,trivial⟩) ?_))))))));rintro k ⟨t,j⟩;refine AC ?_;refine AC (AE (ek Z Z (J (AK Z Ns Z Z Z) (J (AO Z Z Z Fn Z) (J (BS Z Qs Z) (J (Az Z Z Z) (AD (A6 Z (λr=>?_) (λr=>?_)))))))))
 .have a:k<i.po.length:=BQ r;refine AW (AC (AZ (AC (AE ?_))));have c:=kR a j;refine J (AK Z Ns Z Z Z) (J (AO Z Z Z Fn Z) (ek Z Z (J (BC (k) Z Z (Z) (A1 a) Qs Z IG Z) (J (C7 Z Z bj Z) (V (Bx 2 nj Z Z Z Z) (V (B3 Z Z Z Z Z Z Z IG) (AD ?_)))))));refine AZ (AC (AE (J (AK Z FR Z Z Z) (J (AK Z Rz Z Z Z) (J (AO Z Z Z CJ Z) (J (KK Z Z Z) (ek Z Z (CU 25 Z (λH=>?_) (λH=>?_)))))))))
  .refine AI Z Z Z Z (AI Z Z Z Z (AI Z Z Z Z (AI Z Z Z Z ?_)));refine J (BZ Z Z Z Z) (AB Z Z (AD (Bw Z Z (AC (AE (AB Z Z (AD (A2 ?_))))))));exact ⟨_,[],[],A0 Z,Z,Z,Ae (D6 (c.2 6 (by unfold I8;rw[ς (by simp_all)]) (by decide)) (by decide)),Z⟩
  .refine AQ Z Z Z (J (AK Z FR Z Z Z) (AQ Z Z Z ?_));refine J (AK Z MQ Z Z Z) (AQ Z Z Z (J (AO Z Z Z CJ Z) (AQ Z Z Z (J (KK Z Z Z) (J (Be Z Z Z Z) (AB Z Z (AD (A6 Z (λI=>?_) (λI=>?_)))))))))
   .refine AC (AE (AB Z Z (AD (A2 ?_))));exact ⟨_,[],[],A0 Z,Z,Z,Ae (D6 (c.2 6 (by unfold I8;rw[ς (by simp_all)]) (by decide)) (by decide)),Z⟩
   .refine AC (AE (J (AK Z FR Z Z Z) (J (AK Z MR Z Z Z) (J (AO Z Z Z Am Z) (J (Az Z Z Z) (ek Z Z (CU 36 Z (λE=>?_) (λE=>?_))))))))
    .refine AI Z Z Z Z (AI Z Z Z Z (AI Z Z Z Z (AI Z Z Z Z ?_)));refine J (BZ Z Z Z Z) (AB Z Z (AD (Bw Z Z (AC (AE (AB Z Z (AD (A2 ?_))))))));exact ⟨_,[],[],A0 Z,Z,Z,Ae (D6 (c.2 11 (by unfold I8;rw[κ (by simp_all),ς (by omega)]) (by decide)) (by decide)),Z⟩
    .refine AQ Z Z Z (J (AK Z FR Z Z Z) (AQ Z Z Z ?_));refine J (AK Z MR Z Z Z) (AQ Z Z Z (J (AO Z Z Z Am Z) (AQ Z Z Z (J (HV Z Z Z) (J (Be Z Z Z Z) (AB Z Z (AD (A6 Z (λG=>?_) (λG=>?_)))))))))
     .refine AC (AE (AB Z Z (AD (A2 ?_))));exact ⟨_,[],[],A0 Z,Z,Z,Ae (D6 (c.2 11 (by unfold I8;rw[κ (by simp_all),ς (by omega)]) (by decide)) (by decide)),Z⟩
     .refine AC (AE (J (AK Z LH Z Z Z) (J (AO Z Z Z Fo Z) (J (Az Z Z Z) (ek Z Z (CU 46 Z (λC=>?_) (λC=>?_)))))))
      .refine AI Z Z Z Z (AI Z Z Z Z (AI Z Z Z Z ?_));refine J (BZ Z Z Z Z) (AB Z Z (AD (Bw Z Z (AC (AE (AB Z Z (AD (A2 ?_))))))));exact ⟨_,[],[],A0 Z,Z,Z,Ae (D6 (c.2 12 (by unfold I8;rw[κ (by simp_all),κ (by omega),ς (by simp only[Mx];omega)]) (by decide)) (by decide)),Z⟩
      .refine AQ Z Z Z ?_;refine J (AK Z LH Z Z Z) (AQ Z Z Z (J (AO Z Z Z Fo Z) (AQ Z Z Z (J (HV Z Z Z) (J (Be Z Z Z Z) (AB Z Z (AD (A6 Z (λD=>?_) (λD=>?_)))))))))
       .refine AC (AE (AB Z Z (AD (A2 ?_))));exact ⟨_,[],[],A0 Z,Z,Z,Ae (D6 (c.2 12 (by unfold I8;rw[κ (by simp_all),κ (by omega),ς (by simp only[Mx];omega)]) (by decide)) (by decide)),Z⟩
       .refine AW (AE (ek Z Z (J (Aj Z Z (AN (k+1) (by omega)) Z) (AB Z Z (AD ?_)))));exact ⟨k+1,⟨by show k+1<=_;omega,c.1 (by unfold I8;rw[κ (by simp_all),κ (by omega),κ (by simp only[Mx];omega)])⟩,by show i.po.length-(k+1)<i.po.length-k;omega,AX s [1] Z (Z) ⟨Z,Z,trivial⟩⟩
 .refine Aw (AC (AC ?_));have b:Fk i=0:=by rw[j,DL (by have h:=r;omega)]
  refine AE (AB Z Z (AD (AZ (BM (α:=Nat) (λk=>⟨121,[(1,(.ptr 1 0 0)),(5,(.d (AF (k:Int))))],[(1,[.blk 93 [.d (AF i.id),.d (AF i.pr),.d (AF i.sq),.d (.sl none (i.po.map BT)),.d (.sl none (i.pa.map C4)),.d (.sl none (i.af.map AF))]])]⟩) (λk=>k<=i.pa.length/\Ka i=BO ((i.pa.drop k).map J6)) (λk=>i.pa.length-k) (0) (⟨ζ _,Z⟩) (AX s [1] Z Z ⟨Z,Z,trivial⟩) ?_))));rintro k ⟨t,j⟩;refine AC ?_;refine AC (AE (ek Z Z (J (AK Z Cp Z Z Z) (J (AO Z Z Z Ja Z) (J (BS Z b0 Z) (J (Az Z Z Z) (AD (A6 Z (λo=>?_) (λo=>?_)))))))))
  .have a:k<i.pa.length:=BQ o;refine AW (AC (AZ (AC (AE ?_))));have c:=kR a j;refine J (AK Z Cp Z Z Z) (J (AO Z Z Z Ja Z) (ek Z Z (J (BC (k) Z Z (Z) (A1 a) b0 Z KV Z) (J (C7 Z Z QR Z) (V (Bx 3 a9 Z Z Z Z) (V (B3 Z Z Z Z Z Z Z KV) ?_))))));refine AD (AZ (AC (AE (J (AK Z Eg Z Z Z) (J (AO Z Z Z CJ Z) (J (KK Z Z Z) (ek Z Z (CU 67 Z (λA=>?_) (λA=>?_)))))))))
   .refine AI Z Z Z Z (AI Z Z Z Z (AI Z Z Z Z ?_));refine J (BZ Z Z Z Z) (AB Z Z (AD (Bw Z Z (AC (AE (AB Z Z (AD (A2 ?_))))))));exact ⟨_,[],[],A0 Z,Z,Z,Ae (Fm b (c.2 6 (by unfold J6;rw[ς (by simp_all)]) (by decide)) (by decide)),Z⟩
   .refine AQ Z Z Z ?_;refine J (AK Z Ef Z Z Z) (AQ Z Z Z (J (AO Z Z Z CJ Z) (AQ Z Z Z (J (KK Z Z Z) (J (Be Z Z Z Z) (AB Z Z (AD (A6 Z (λB=>?_) (λB=>?_)))))))))
    .refine AC (AE (AB Z Z (AD (A2 ?_))));exact ⟨_,[],[],A0 Z,Z,Z,Ae (Fm b (c.2 6 (by unfold J6;rw[ς (by simp_all)]) (by decide)) (by decide)),Z⟩
    .refine AC ?_;refine AE (J (AK Z Eg Z Z Z) (J (AO Z Z Z CJ Z) (J (AK Z Ef Z Z Z) (J (AO Z Z Z CJ Z) (J (KK Z Z Z) (AB Z Z (AD (A6 Z (λz=>?_) (λz=>?_)))))))))
     .refine AC (AE (AB Z Z (AD (A2 ?_))));exact ⟨_,[],[],A0 Z,Z,Z,Ae (Fm b (c.2 7 (by unfold J6;rw[κ (by simp_all),ς (by simp_all)]) (by decide)) (by decide)),Z⟩
     .refine AC (AE (J (AK Z DN Z Z Z) (J (AO Z Z Z Fo Z) (J (Az Z Z Z) (ek Z Z (CU 82 Z (λx=>?_) (λx=>?_)))))))
      .refine AI Z Z Z Z (AI Z Z Z Z (AI Z Z Z Z ?_));refine J (BZ Z Z Z Z) (AB Z Z (AD (Bw Z Z (AC (AE (AB Z Z (AD (A2 ?_))))))));exact ⟨_,[],[],A0 Z,Z,Z,Ae (Fm b (c.2 2 (by unfold J6;rw[κ (by simp_all),κ (by simp_all),ς (by simp only[Mx];omega)]) (by decide)) (by decide)),Z⟩
      .refine AQ Z Z Z ?_;refine J (AK Z DN Z Z Z) (AQ Z Z Z (J (AO Z Z Z Fo Z) (AQ Z Z Z (J (HV Z Z Z) (J (Be Z Z Z Z) (AB Z Z (AD (A6 Z (λy=>?_) (λy=>?_)))))))))
       .refine AC (AE (AB Z Z (AD (A2 ?_))));exact ⟨_,[],[],A0 Z,Z,Z,Ae (Fm b (c.2 2 (by unfold J6;rw[κ (by simp_all),κ (by simp_all),ς (by simp only[Mx];omega)]) (by decide)) (by decide)),Z⟩
       .refine AW (AE (ek Z Z (J (Aj Z Z (AN (k+1) (by omega)) Z) (AB Z Z (AD ?_)))));exact ⟨k+1,⟨by show k+1<=_;omega,c.1 (by unfold J6;rw[κ (by simp_all),κ (by simp_all),κ (by simp only[Mx];omega)])⟩,by show i.pa.length-(k+1)<i.pa.length-k;omega,AX s [1] Z (Z) ⟨Z,Z,trivial⟩⟩
  .refine Aw (AC (AC ?_));have f:Ka i=0:=by rw[j,DL (by have h:=o;omega)]
   refine AE (AB Z Z (AD (AZ (BM (α:=Nat) (λk=>⟨121,[(1,(.ptr 1 0 0)),(7,(.d (AF (k:Int))))],[(1,[.blk 93 [.d (AF i.id),.d (AF i.pr),.d (AF i.sq),.d (.sl none (i.po.map BT)),.d (.sl none (i.pa.map C4)),.d (.sl none (i.af.map AF))]])]⟩) (λk=>k<=i.af.length/\NQ i=BO (((List.range i.af.length).drop k).map (Mb i.id i.af))) (λk=>i.af.length-k) (0) (⟨ζ _,Z⟩) (AX s [1] Z Z ⟨Z,Z,trivial⟩) ?_))));rintro k ⟨t,j⟩;refine AC ?_;refine AC (AE (ek Z Z (J (AK Z QB Z Z Z) (J (AO Z Z Z BH Z) (J (BS Z E0 Z) (J (Az Z Z Z) (AD (A6 Z (λl=>?_) (λl=>?_)))))))))
   .have a:k<i.af.length:=BQ l;refine AW (AC (AZ (AC (AC (AE ?_)))));have c:=nW a j;have g:i.af.getD k 0=i.af[k]:=by rw[Φ,ω a];rfl
    refine J (AK Z QB Z Z Z) (J (AO Z Z Z BH Z) (ek Z Z (J (BC (k) Z Z (Z) (A1 a) E0 Z BW Z) (J (CG Z Z Am Z) (J (Au (I7 i.af[k]) Z Z) (J (KH Z Z) (AD (A6 Z (λw=>?_) (λw=>?_)))))))))
    .refine AC (AE (AB Z Z (AD (A2 ?_))));exact ⟨_,[],[],A0 Z,Z,Z,Ae (Hc b f (c.2 2 (by unfold Mb;rw[g,ς (by simp_all)]) (by decide))),Z⟩
    .refine AW (AC (CK [[],[0],[],[0,1,2],[0,1,2,3],[],[5],rg 7,rg 8,rg 9,rg 10,rg 9,rg 12,rg 9,[0,1,2,3,4,5,6,7,8,13],rg 9,[0,1,2,3,4,5,6,7,8,13,14,15],[0,1,2,3,4,5,6,7,8,13,14,15,16],rg 18,rg 19] mixed Z (By (AR [1] Z (AK Z QB Z Z Z) (Ao [101] Z Z (λ_=>Aa (AO Z Z Z BH Z)) ?_)))));refine Ap 7 Z Z (AR [102,103] Z (BC (k) Z Z (Z) (A1 a) E0 Z BW Z) (AR [104] Z (CG Z Z Am Z) (AR [1] Z (AK Z Fw Z Z Z) (Ao [106] Z Z (λ_=>Aa (AO Z Z Z Am Z)) (Bu 7 Z Z Z (Ab 8 Z Z (J (GR Z Z Z) (AD ⟨Z,?_⟩))))))));refine Ab 9 Z Z (ek Z Z (CU 109 Z (λv=>?_) (λv=>?_)))
     .refine AD ⟨Z,?_⟩;refine By (Aq [1,109] [] Z Z (λ_=>EJ Z Z Z Z) (Aq [110,109] [] Z Z (λ_=>EJ Z Z Z Z) (Aq [7,109] [] Z Z (λ_=>EJ Z Z Z Z) (Aq [111,112,109] [] Z Z (λ_=>EJ Z Z Z Z) ?_))));refine Aq [1,109] [] Z Z (λ_=>EJ Z Z Z Z) (Aq [114,109] [] Z Z (λ_=>EJ Z Z Z Z) (Aq [7,109] [] Z Z (λ_=>EJ Z Z Z Z) (Aq [115,116,109] [] Z Z (λ_=>EJ Z Z Z Z) (Aq [117,109] [] Z Z (λ_=>EJ Z Z Z Z) (Bu 18 Z Z Z (Ab 19 Z Z (AI Z Z Z Z (AD ⟨Z,?_⟩))))))));refine Ab 20 Z Z (J (BZ Z Z Z Z) (AD ⟨Z,?_⟩));refine Bz (Bw Z Z (AC (AE (AB Z Z (AD (A2 ?_))))));exact ⟨_,[],[],A0 Z,Z,Z,Ae (Hc b f (c.2 7 (by unfold Mb;rw[g,κ (by simp_all),ς (by simp_all)]) (by decide))),Z⟩
     .refine AD ⟨Z,?_⟩;refine By (Aq [1,109] [] Z Z (λ_=>Cq Z Z Z (AK Z QB Z Z Z)) (Ao [110,109] Z Z (λ_=>Cq Z Z Z (AO Z Z Z BH Z)) (Aq [7,109] [] Z Z (λ_=>Cq Z Z Z (Pe Z Z)) (Aq [111,112,109] [] Z Z (λ_=>Cq Z Z Z (kS (i.af) (k) Z Z Z (Z) (by omega) E0 BW (λ_=>rfl) Z)) (Aq [1,109] [] Z Z (λ_=>Cq Z Z Z (AK Z QB Z Z Z)) ?_)))));refine Ao [114,109] Z Z (λ_=>Cq Z Z Z (AO Z Z Z BH Z)) (Aq [7,109] [] Z Z (λ_=>Cq Z Z Z (Pe Z Z)) (Aq [115,116,109] [] Z Z (λ_=>Cq Z Z Z (BC (k) Z Z (Z) (A1 a) E0 Z BW Z)) (Aq [117,109] [] Z Z (λ_=>Cq Z Z Z (CG Z Z Am Z)) (Bu 18 Z Z Z (Ab 19 Z Z (AQ Z Z Z (J (Au (td (i.af.take k) i.af[k] (by rw[ϱ];omega)) Z Z) (AD ⟨Z,?_⟩))))))));refine Ab 20 Z Z (J (Be Z Z Z Z) (AD ⟨Z,?_⟩));refine Bz (A6 Z (λu=>?_) (λu=>?_))
      .refine AC (AE (AB Z Z (AD (A2 ?_))));exact ⟨_,[],[],A0 Z,Z,Z,Ae (Hc b f (c.2 7 (by unfold Mb;rw[g,κ (by simp_all),ς (by simp_all)]) (by decide))),Z⟩
      .refine AW (AE (ek Z Z (J (Aj Z Z (AN (k+1) (by omega)) Z) (AB Z Z (AD ?_)))));exact ⟨k+1,⟨by show k+1<=_;omega,c.1 (by unfold Mb;rw[g,κ (by simp_all),κ (by simp_all)])⟩,by show i.af.length-(k+1)<i.af.length-k;omega,AX s [1] Z (Z) ⟨Z,Z,trivial⟩⟩
   .refine Aw (AC (AE (AB Z Z (AD (A2 ?_)))));exact ⟨_,[],[],A0 Z,Z,Z,Ae (Hc b f (by rw[j,kI (by have h:=l;simp only[iF];omega)];rfl)),Z⟩
theorem sJ(c:List (AU×Int))(p:Jk):gX (c++MY p)=Cb (Cb (Cb (Cb (gX c) (CI p.f p.t)) (CI p.t p.f)) (DH p.f)) (DH p.t):=by grind[MY,gX]
theorem sI{l:List ED}(a:k<l.length):gX (EA (l.take (k+1)))=Cb (gX (EA (l.take k))) (Gy l[k]):=by rw[Qz a,JH]
theorem sH{c:List (AU×Int)}{l:List Jk}(a:k<l.length):gX (c++HT (l.take (k+1)))=Cb (Cb (Cb (Cb (gX (c++HT (l.take k))) (CI l[k].f l[k].t)) (CI l[k].t l[k].f)) (DH l[k].f)) (DH l[k].t):=by rw[Qy a,<-jx,sJ]
theorem Y8(i:AJ)(A:i.po.length<=1000)(z:i.pa.length<=1000):AL prog 102 [.d (Af i)] (.sl none ((gX (gf i)).map Bc)):=by
 refine Av func102 Z Z ntmps102 Z Z Z λF r=>(AC (AE ?_));refine V (Bh 1 Z Z Z Z Z Z Z) (AB Z Z (AD (AC (AE (AB Z Z (AD (AC (AC ?_))))))));refine VF 3 Z ?_;refine AE (AB Z Z (AD (AZ (BM (α:=Nat×List AU) (λq=>⟨60,[(1,(.ptr 1 0 0)),(3,(.d (.sl none (q.2.map Bc)))),(4,(.d (AF (q.1:Int))))],[(1,[.blk 93 [.d (AF i.id),.d (AF i.pr),.d (AF i.sq),.d (.sl none (i.po.map BT)),.d (.sl none (i.pa.map C4)),.d (.sl none (i.af.map AF))]])]⟩) (λq=>q.1<=i.po.length/\q.2=gX (EA (i.po.take q.1))) (λq=>i.po.length-q.1) ((0,[])) (⟨ζ _,Z⟩) (AX r [1] Z Z ⟨Z,Z,Z,trivial⟩) ?_))));rintro ⟨k,L⟩ ⟨u,o⟩;dsimp only at u o⊢;refine AC ?_;refine AC (AE (ek Z Z (J (AK Z Ns Z Z Z) (J (AO Z Z Z Fn Z) (J (BS Z Qs Z) (J (Az Z Z Z) (AD (A6 Z (λb=>?_) (λb=>?_)))))))))
 .have j:k<i.po.length:=BQ b;refine AW (AC (AZ (AE ?_)));have g:L.length<=1000:=by rw[o];have:=Ny (EA (i.po.take k));simp only[EA,χ,ϱ] at this;simp only[EA];omega
  refine ek Z Z (J (AK Z Ns Z Z Z) (J (AO Z Z Z Fn Z) (ek Z Z (J (BC (k) Z Z (Z) (A1 j) Qs Z IG Z) (J (VK Z FR Z Z Z) (J (C7 Z Z Yu Z) ?_))))));refine J (E5 Sf ZH Z Z Z) (J (Au (Il L (Gy i.po[k]) (by omega)) Z Z) (AB Z Z (AD (AE (ek Z Z (J (Aj Z Z (AN (k+1) (by omega)) Z) (AB Z Z (AD ?_))))))));exact ⟨(k+1,_),⟨by show k+1<=_;omega,by show _=gX (EA (i.po.take (k+1)));rw[sI j,<-o]⟩,by show i.po.length-(k+1)<i.po.length-k;omega,AX r [1] Z (Z) ⟨Z,Z,Z,trivial⟩⟩
 .refine Aw (AC (AC ?_));have v:L=gX (EA i.po++HT (i.pa.take 0)):=by rw[o,η (by have h:=b;omega)];simp[HT]
  refine AE (AB Z Z (AD (AZ (BM (α:=Nat×List AU) (λq=>⟨60,[(1,(.ptr 1 0 0)),(3,(.d (.sl none (q.2.map Bc)))),(5,(.d (AF (q.1:Int))))],[(1,[.blk 93 [.d (AF i.id),.d (AF i.pr),.d (AF i.sq),.d (.sl none (i.po.map BT)),.d (.sl none (i.pa.map C4)),.d (.sl none (i.af.map AF))]])]⟩) (λq=>q.1<=i.pa.length/\q.2=gX (EA i.po++HT (i.pa.take q.1))) (λq=>i.pa.length-q.1) ((0,L)) (⟨ζ _,v⟩) (AX r [1] Z Z ⟨Z,Z,Z,trivial⟩) ?_))));rintro ⟨m,N⟩ ⟨s,l⟩;dsimp only at s l⊢;refine AC ?_;refine AC (AE (ek Z Z (J (AK Z Cp Z Z Z) (J (AO Z Z Z Ja Z) (J (BS Z b0 Z) (J (Az Z Z Z) (AD (A6 Z (λa=>?_) (λa=>?_)))))))))
  .have c:m<i.pa.length:=BQ a;refine AW (AC (AZ (AC (AE ?_))));have g:N.length<=5000:=by rw[l];have:=Ny (EA i.po++HT (i.pa.take m));rw[Δ,Is] at this;simp only[EA,χ,ϱ] at this⊢;omega
   have y:=Ky N (CI i.pa[m].f i.pa[m].t);have x:=Ky (Cb N (CI i.pa[m].f i.pa[m].t)) (CI i.pa[m].t i.pa[m].f);have w:=Ky (Cb (Cb N (CI i.pa[m].f i.pa[m].t)) (CI i.pa[m].t i.pa[m].f)) (DH i.pa[m].f);refine J (AK Z Cp Z Z Z) (J (AO Z Z Z Ja Z) (ek Z Z (J (BC (m) Z Z (Z) (A1 c) b0 Z KV Z) (J (C7 Z Z QR Z) (V (Bx 2 a9 Z Z Z Z) (V (B3 Z Z Z Z Z Z Z KV) ?_))))));refine AD (AC (AE (ek Z Z (J (AK Z Eg Z Z Z) (J (AO Z Z Z CJ Z) (J (AK Z Ef Z Z Z) (J (AO Z Z Z CJ Z) (J (E5 Sf ZH Z Z Z) ?_))))))));refine J (Au (Il N (CI i.pa[m].f i.pa[m].t) (by omega)) Z Z) (AB Z Z (AD (AC (AE (ek Z Z (J (AK Z Ef Z Z Z) (J (AO Z Z Z CJ Z) (J (AK Z Eg Z Z Z) ?_))))))));refine J (AO Z Z Z CJ Z) (J (E5 Sf ZH Z Z Z) (J (Au (Il (Cb N (CI i.pa[m].f i.pa[m].t)) (CI i.pa[m].t i.pa[m].f) (by omega)) Z Z) (AB Z Z (AD (AC (AE (ek Z Z (J (AK Z Eg Z Z Z) ?_))))))));refine J (AO Z Z Z CJ Z) (J (E5 Sf ZH Z Z Z) (J (Au (Il (Cb (Cb N (CI i.pa[m].f i.pa[m].t)) (CI i.pa[m].t i.pa[m].f)) (DH i.pa[m].f) (by omega)) Z Z) (AB Z Z (AD (AE (ek Z Z (J (AK Z Ef Z Z Z) (J (AO Z Z Z CJ Z) ?_))))))));refine J (E5 Sf ZH Z Z Z) (J (Au (Il (Cb (Cb (Cb N (CI i.pa[m].f i.pa[m].t)) (CI i.pa[m].t i.pa[m].f)) (DH i.pa[m].f)) (DH i.pa[m].t) (by omega)) Z Z) (AB Z Z (AD (AE (ek Z Z (J (Aj Z Z (AN (m+1) (by omega)) Z) (AB Z Z (AD ?_))))))));exact ⟨(m+1,_),⟨by show m+1<=_;omega,by show _=gX (EA i.po++HT (i.pa.take (m+1)));rw[sH c,<-l]⟩,by show i.pa.length-(m+1)<i.pa.length-m;omega,AX r [1] Z (Z) ⟨Z,Z,Z,trivial⟩⟩
  .refine Aw (AC (AE (ek Z Z (AB Z Z (AD (A2 ?_))))));exact ⟨_,[],[],A0 Z,Z,Z,by rw[l,η (by have h:=a;omega)]<;>rfl,Z⟩
theorem T8(h:Ex i=0):Fk i=0/\Ka i=0/\NQ i=0:=by
 have a:=HK h
 simp_all
theorem LZ(h:¬(0<=i.id/\i.id<=1000000000)\/¬(0<=i.sq/\i.sq<=1000000000)\/¬(0<=i.pr/\i.pr<=2)):Ax i=2:=ς h
theorem PS(h:¬(¬(0<=i.id/\i.id<=1000000000)\/¬(0<=i.sq/\i.sq<=1000000000)\/¬(0<=i.pr/\i.pr<=2)))(a:256<i.po.length\/256<i.pa.length\/256<i.af.length):Ax i=8:=by unfold Ax;rw[κ h,ς a]
theorem fP{i:AJ}(h:¬(¬(0<=i.id/\i.id<=1000000000)\/¬(0<=i.sq/\i.sq<=1000000000)\/¬(0<=i.pr/\i.pr<=2)))(a:¬(256<i.po.length\/256<i.pa.length\/256<i.af.length)):Ax i=if Ex i=0 then BO [L1 i,M7 i] else Ex i:=by grind[Ax,Rt,Ex,BO]
theorem Y9(g:Fk i=0)(f:Ka i=0)(c:w∈gX (gf i)):CL w=0:=by
 obtain ⟨x,a,rfl⟩:=Θ.1 ((KO _ _).1 c);rcases ϖ.1 a with a | a
 .obtain ⟨p,b,rfl⟩:=Θ.1 a;have:=VI.1 g p b
  grind[I8,CL]
 .obtain ⟨p,b,a⟩:=ja.1 a;have:=VI.1 f p b;unfold J6 at this
  split at this; · cases this
  split at this; · cases this
  grind[MY,CL]
theorem nB{i:AJ}(h:∀r∈gX (gf i),-Mx<=Ai (gf i) r/\Ai (gf i) r<=Mx):(0:Int)=M7 i:=by grind[fQ,Fe,KO]
theorem NB{i:AJ}{r:AU}(a:r∈gX (gf i))(h:¬(-Mx<=Ai (gf i) r/\Ai (gf i) r<=Mx)):(12:Int)=M7 i:=by
 unfold M7;rw[ς];exact ⟨(r,Ai (gf i) r),(Fe _ _ _).2 ⟨(KO _ _).1 a,Z⟩,h⟩
theorem fV(a:k<i.po.length)(h:Bo i.po i.po[k].acc.a≠0):(14:Int)=L1 i:=by
 unfold L1;rw[ς ⟨_,ϑ a,h⟩]
theorem nF(h:∀p∈i.po,Bo i.po p.acc.a=0):L1 i=0:=by grind[L1]
theorem Jn(i:AJ)(g1:i.po.length<=1000)(g2:i.pa.length<=1000)(g3:i.af.length<=1000):AL prog 50 [.d (Af i)] (AF (Ax i)):=by
 refine Av func50 Z Z ntmps50 Z Z Z λF t=>(AC (AE (V (Bh 1 Z Z Z Z Z Z Z) (AB Z Z (AD ?_)))));refine AC (AC (AE (J (AK Z Fw Z Z Z) (J (AO Z Z Z Am Z) (J (Au (I7 i.id) Z Z) (J (KH Z Z) (ek Z Z (CU 14 Z (λU=>?_) (λU=>?_)))))))))
 .refine AI Z Z Z Z (AI Z Z Z Z (AI Z Z Z Z (AI Z Z Z Z ?_)));refine J (BZ Z Z Z Z) (ek Z Z (AI Z Z Z Z (AI Z Z Z Z (AI Z Z Z Z (J (BZ Z Z Z Z) (ek Z Z (AI Z Z Z Z (AI Z Z Z Z ?_))))))));refine AI Z Z Z Z (J (BZ Z Z Z Z) (AD (Bw Z Z (AC (AE (AB Z Z (AD (A2 ?_))))))));exact ⟨_,[],[],A0 Z,Z,Z,Ae (LZ (by omega)).symm,Z⟩
 .refine AQ Z Z Z (J (AK Z Iq Z Z Z) ?_);refine AQ Z Z Z (J (AO Z Z Z Am Z) (AQ Z Z Z (J (Au (I7 i.sq) Z Z) (AQ Z Z Z (J (KH Z Z) (J (Be Z Z Z Z) (ek Z Z (CU 20 Z (λS=>?_) (λS=>?_)))))))))
  .refine AI Z Z Z Z (AI Z Z Z Z (AI Z Z Z Z (J (BZ Z Z Z Z) (ek Z Z (AI Z Z Z Z (AI Z Z Z Z ?_))))));refine AI Z Z Z Z (J (BZ Z Z Z Z) (AD (Bw Z Z (AC (AE (AB Z Z (AD (A2 ?_))))))));exact ⟨_,[],[],A0 Z,Z,Z,Ae (LZ (by omega)).symm,Z⟩
  .refine AQ Z Z Z (J (AK Z Hu Z Z Z) (AQ Z Z Z (J (AO Z Z Z Am Z) (AQ Z Z Z (J (Az Z Z Z) (J (Be Z Z Z Z) (ek Z Z (CU 25 Z (λR=>?_) (λR=>?_)))))))))
   .refine AI Z Z Z Z (AI Z Z Z Z ?_);refine AI Z Z Z Z (J (BZ Z Z Z Z) (AD (Bw Z Z (AC (AE (AB Z Z (AD (A2 ?_))))))));exact ⟨_,[],[],A0 Z,Z,Z,Ae (LZ (by omega)).symm,Z⟩
   .refine AQ Z Z Z (J (AK Z Hu Z Z Z) (AQ Z Z Z (J (AO Z Z Z Am Z) (AQ Z Z Z (J (HV Z Z Z) (J (Be Z Z Z Z) (AD (A6 Z (λQ=>?_) (λQ=>?_)))))))))
    .refine AC (AE (AB Z Z (AD (A2 ?_))));exact ⟨_,[],[],A0 Z,Z,Z,Ae (LZ (by omega)).symm,Z⟩
    .refine AW ?_;refine AC (AC (AE (J (AK Z Ns Z Z Z) (J (AO Z Z Z Fn Z) (J (BS Z Qs Z) (J (HV Z Z Z) (ek Z Z (CU 34 Z (λP=>?_) (λP=>?_)))))))))
     .refine AI Z Z Z Z (AI Z Z Z Z (AI Z Z Z Z (AI Z Z Z Z (J (BZ Z Z Z Z) (ek Z Z (AI Z Z Z Z (AI Z Z Z Z (AI Z Z Z Z ?_))))))));refine AI Z Z Z Z (J (BZ Z Z Z Z) (AD (Bw Z Z (AC (AE (AB Z Z (AD (A2 ?_))))))));exact ⟨_,[],[],A0 Z,Z,Z,Ae (PS (by omega) (by omega)).symm,Z⟩
     .refine AQ Z Z Z (J (AK Z Cp Z Z Z) ?_);refine AQ Z Z Z (J (AO Z Z Z Ja Z) (AQ Z Z Z (J (BS Z b0 Z) (AQ Z Z Z (J (HV Z Z Z) (J (Be Z Z Z Z) (ek Z Z (CU 40 Z (λO=>?_) (λO=>?_)))))))))
      .refine AI Z Z Z Z (AI Z Z Z Z (AI Z Z Z Z ?_));refine AI Z Z Z Z (J (BZ Z Z Z Z) (AD (Bw Z Z (AC (AE (AB Z Z (AD (A2 ?_))))))));exact ⟨_,[],[],A0 Z,Z,Z,Ae (PS (by omega) (by omega)).symm,Z⟩
      .refine AQ Z Z Z (J (AK Z QB Z Z Z) ?_);refine AQ Z Z Z (J (AO Z Z Z BH Z) (AQ Z Z Z (J (BS Z E0 Z) (AQ Z Z Z (J (HV Z Z Z) (J (Be Z Z Z Z) (AD (A6 Z (λN=>?_) (λN=>?_)))))))))
       .refine AC (AE (AB Z Z (AD (A2 ?_))));exact ⟨_,[],[],A0 Z,Z,Z,Ae (PS (by omega) (by omega)).symm,Z⟩
       .refine AW (AC (AC ?_));have a:=fP (i:=i) (by omega) (by omega);refine AE (J (Ay Z Z G8 Z Z Z) ?_);refine J (Au (lT i g1 g2 g3) Z Z) (AB Z Z (AD (AC (AE (ek Z Z (J (C6 Z Z Z) (AD (A6 Z (λz=>?_) (λz=>?_)))))))))
        .refine AC (AE (ek Z Z (AB Z Z (AD (A2 ?_)))));exact ⟨_,[],[],A0 Z,Z,Z,Ae (by rw[a,κ z]),Z⟩
        .refine AW (AC (AC ?_));have W:Ex i=0:=by simpa using z
         obtain ⟨C,B,hz3⟩:=T8 W;rw[ς W] at a
         have M:j0 i:=⟨by omega,by omega,by omega,Rb C,cW B⟩
         refine AE (AB Z Z (AD (AZ (BM (α:=Nat) (λk=>⟨110,[(1,(.ptr 1 0 0)),(4,(.d (AF (k:Int))))],[(1,[.blk 93 [.d (AF i.id),.d (AF i.pr),.d (AF i.sq),.d (.sl none (i.po.map BT)),.d (.sl none (i.pa.map C4)),.d (.sl none (i.af.map AF))]])]⟩) (λk=>k<=i.po.length/\∀p∈i.po.take k,Bo i.po p.acc.a=0) (λk=>i.po.length-k) (0) (⟨ζ _,by simp⟩) (AX t [1] Z Z ⟨Z,Z,trivial⟩) ?_))));rintro k ⟨hk0,X⟩;refine AC ?_;refine AC (AE (ek Z Z (J (AK Z Ns Z Z Z) (J (AO Z Z Z Fn Z) (J (BS Z Qs Z) (J (Az Z Z Z) (AD (A6 Z (λy=>?_) (λy=>?_)))))))))
         .have o:k<i.po.length:=BQ y;refine AW (AC (AZ (AC (AE ?_))));refine AB Z Z (AD (AC (AC (AE (AB Z Z (AD (AZ (BM (α:=Nat×Int) (λq=>⟨110,[(1,(.ptr 1 0 0)),(4,(.d (AF (k:Int)))),(5,(.d (AF q.2))),(6,(.d (AF (q.1:Int))))],[(1,[.blk 93 [.d (AF i.id),.d (AF i.pr),.d (AF i.sq),.d (.sl none (i.po.map BT)),.d (.sl none (i.pa.map C4)),.d (.sl none (i.af.map AF))]])]⟩) (λq=>q.1<=i.po.length/\q.2=Bo (i.po.take q.1) i.po[k].acc.a) (λq=>i.po.length-q.1) ((0,0)) (⟨ζ _,Z⟩) (AX t [1] Z Z ⟨Z,Z,Z,Z,trivial⟩) ?_))))))));rintro ⟨m,n⟩ ⟨I,E⟩;dsimp only at I E⊢;refine AC ?_;refine AC (AE (ek Z Z (J (AK Z Ns Z Z Z) (J (AO Z Z Z Fn Z) (J (BS Z Qs Z) (J (Az Z Z Z) (AD (A6 Z (λx=>?_) (λx=>?_)))))))))
          .have b:m<i.po.length:=BQ x;refine AW (AC (AZ (AC (CK [[],[0],[],[0,1,2],[0,1,2,3],rg 5,rg 6,[],[7],[],[7,8,9],[7,8,9,10],[7,8,9,10,11],[7,8,9,10,11,12],rg 14] mixed Z (By ?_)))));refine AR [1] Z (AK Z Ns Z Z Z) (Ao [65] Z Z (λ_=>Aa (AO Z Z Z Fn Z)) (Ap 6 Z Z (AR [66,67] Z (BC (m) Z Z (Z) (A1 b) Qs Z IG Z) (AR [68] Z (VK Z FR Z Z Z) (AR [69] Z (ND Z MQ Z Z Z) (AR [70] Z (CG Z Z CJ Z) (AR [1] Z (AK Z Ns Z Z Z) (Ao [72] Z Z (λ_=>Aa (AO Z Z Z Fn Z)) ?_))))))));refine Ap 4 Z Z (AR [73,74] Z (BC (k) Z Z (Z) (A1 o) Qs Z IG Z) (AR [75] Z (VK Z FR Z Z Z) (AR [76] Z (ND Z MQ Z Z Z) (AR [77] Z (CG Z Z CJ Z) (Bu 14 Z Z Z (Ab 15 Z Z (J (KK Z Z Z) (AD ⟨Z,?_⟩))))))));refine Bz (A6 Z (λw=>?_) (λw=>?_))
           .refine AE (ek Z Z (J (AK Z Ns Z Z Z) (J (AO Z Z Z Fn Z) (ek Z Z (J (BC (m) Z Z (Z) (A1 b) Qs Z IG Z) (J (ND Z LH Z Z Z) (J (CG Z Z Fo Z) ?_)))))));have L:=M.d _ (ϑ b);have K:=Iz (i.po.take m) i.po[k].acc.a (RT M.d);rw[<-E,ϱ] at K;simp only[Mx] at L;refine J (Aj Z Z (Ξ _ (by omega)) Z) (AB Z Z (AD (AE (ek Z Z (J (Aj Z Z (AN (m+1) (by omega)) Z) (AB Z Z (AD ?_)))))));exact ⟨(m+1,_),⟨by show m+1<=_;omega,by show _=Bo (i.po.take (m+1)) _;rw[ψ b,Gh,<-E,ς w]⟩,by show i.po.length-(m+1)<i.po.length-m;omega,AX t [1] Z (Z) ⟨Z,Z,Z,Z,trivial⟩⟩
           .refine AW (AE (ek Z Z (J (Aj Z Z (AN (m+1) (by omega)) Z) (AB Z Z (AD ?_)))));exact ⟨(m+1,_),⟨by show m+1<=_;omega,by show _=Bo (i.po.take (m+1)) _;rw[ψ b,Gh,<-E,κ w];exact (Int.add_zero _).symm⟩,by show i.po.length-(m+1)<i.po.length-m;omega,AX t [1] Z (Z) ⟨Z,Z,Z,Z,trivial⟩⟩
          .refine Aw (AC ?_);have hS:n=Bo i.po i.po[k].acc.a:=by rw[E,η (by have h:=x;omega)]
           refine AE (ek Z Z (J (C6 Z Z Z) (AD (A6 Z (λv=>?_) (λv=>?_)))))
           .refine AC (AE (AB Z Z (AD (A2 ?_))));exact ⟨_,[],[],A0 Z,Z,Z,Ae (by have h:=fV o (by rw[<-hS];exact v);rw[a,BO,κ (by rw[<-h];decide),<-h]),Z⟩
           .refine AW (AE (ek Z Z (J (Aj Z Z (AN (k+1) (by omega)) Z) (AB Z Z (AD ?_)))));exact ⟨k+1,⟨by show k+1<=_;omega,by rw[ψ o];intro p l;rcases ϖ.1 l with l | l;exact X p l;rw[θ.1 l];simpa [hS] using v⟩,by show i.po.length-(k+1)<i.po.length-k;omega,AX t [1] Z (Z) ⟨Z,Z,trivial⟩⟩
         .refine Aw (AC ?_);have s:L1 i=0:=nF (λp l=>X p (by rw[η (by have h:=y;omega)];exact l))
          obtain ⟨T,A⟩:∃T,gX (gf i)=T:=⟨_,Z⟩
          have D:=Y8 i g1 g2;rw[A] at D;have hTl:T.length<=5000:=by rw[<-A];have h1:=Ny (gf i);have h2:=Hz i;omega
          refine AE (J (Ay Z Z G8 Z Z Z) (J (Au (D) Z Z) ?_));refine AB Z Z (AD (AC (AC (AE (AB Z Z (AD (AZ (BM (α:=Nat) (λj=>⟨110,[(1,(.ptr 1 0 0)),(7,(.d (.sl none (T.map Bc)))),(8,(.d (AF (j:Int))))],[(1,[.blk 93 [.d (AF i.id),.d (AF i.pr),.d (AF i.sq),.d (.sl none (i.po.map BT)),.d (.sl none (i.pa.map C4)),.d (.sl none (i.af.map AF))]])]⟩) (λj=>j<=T.length/\∀r∈T.take j,-Mx<=Ai (gf i) r/\Ai (gf i) r<=Mx) (λj=>T.length-j) (0) (⟨ζ _,by simp⟩) (AX t [1] Z Z ⟨Z,Z,Z,trivial⟩) ?_))))))));rintro j ⟨hj0,Y⟩;refine AC (AC (AE (ek Z Z (ek Z Z (J (BS Z ch Z) (J (Az Z Z Z) (AD (A6 Z (λu=>?_) (λu=>?_)))))))))
          .have c:j<T.length:=BQ u;refine AW (AC (AZ (AC (CK [[],[],[],[1,2],[1,2,3],rg 5,rg 6] mixed Z (By ?_)))));have f:Lr i T[j]=Ai (gf i) T[j]:=Q1 (Y9 C B (by rw[A];exact ϑ c));refine Ao [1] Z Z (λ_=>Aa (Ay Z Z G8 Z Z Z)) (Ap 7 Z Z (Ap 8 Z Z (AR [99,100] Z (BC (j) Z Z (Z) (A1 c) ch Z KR Z) (AR [101] Z (C7 Z Z G7 Z) (Bu 5 Z Z Z (Ab 6 Z Z (J (Au (TY i T[j] M) Z Z) (AD ⟨Z,?_⟩))))))));refine Ab 7 Z Z (AB Z Z (AD ⟨Z,?_⟩));refine Bz (AC (AE (ek Z Z (J (Az Z Z Z) (ek Z Z (CU 106 Z (λH=>?_) (λH=>?_)))))))
           .refine AI Z Z Z Z ?_;refine AI Z Z Z Z (J (BZ Z Z Z Z) (AD (Bw Z Z (AC (AE (AB Z Z (AD (A2 ?_))))))));exact ⟨_,[],[],A0 Z,Z,Z,Ae (by have h:=NB (i:=i) (r:=T[j]) (by rw[A];exact ϑ c) (by rw[<-f];simp only[Mx];omega);rw[a,BO,ς s,BO,κ (by rw[<-h];decide),<-h]),Z⟩
           .refine AQ Z Z Z (ek Z Z (AQ Z Z Z (J (HV Z Z Z) (J (Be Z Z Z Z) (AD (A6 Z (λG=>?_) (λG=>?_)))))))
            .refine AC (AE (AB Z Z (AD (A2 ?_))));exact ⟨_,[],[],A0 Z,Z,Z,Ae (by have h:=NB (i:=i) (r:=T[j]) (by rw[A];exact ϑ c) (by rw[<-f];simp only[Mx];omega);rw[a,BO,ς s,BO,κ (by rw[<-h];decide),<-h]),Z⟩
            .refine AW (AE (ek Z Z (J (Aj Z Z (AN (j+1) (by omega)) Z) (AB Z Z (AD ?_)))));exact ⟨j+1,⟨by show j+1<=_;omega,by rw[ψ c];intro r g;rcases ϖ.1 g with g | g;exact Y r g;rw[θ.1 g,<-f];simp only[Mx];omega⟩,by show T.length-(j+1)<T.length-j;omega,AX t [1] Z (Z) ⟨Z,Z,Z,trivial⟩⟩
          .refine Aw (AC (AE (AB Z Z (AD (A2 ?_)))));exact ⟨_,[],[],A0 Z,Z,Z,Ae (by have h:=nB (i:=i) (λr g=>Y r (by rw[η (by have h:=u;omega),<-A];exact g));rw[a,BO,ς s,BO,ς h.symm];rfl),Z⟩
deriving instance DecidableEq for ED
deriving instance DecidableEq for Jk
deriving instance DecidableEq for AJ
deriving instance DecidableEq for Ad
theorem ED.eq_iff{x y:ED}:x=y↔x.acc=y.acc/\x.d=y.d:=by cases x;cases y;simp
theorem Jk.eq_iff{x y:Jk}:x=y↔x.f=y.f/\x.t=y.t/\x.n=y.n:=by cases x;cases y;simp
theorem Ad.eq_iff{x y:Ad}:x=y↔x.r=y.r/\x.n=y.n:=by cases x;cases y;simp
theorem AJ.eq_iff{x y:AJ}:x=y↔x.id=y.id/\x.pr=y.pr/\x.sq=y.sq/\x.po=y.po/\x.pa=y.pa/\x.af=y.af:=by cases x;cases y;simp
def Q4(x:ED):List Value:=[Gr x.acc.o,.int .i64 x.acc.k,Gr x.acc.a,.int .i64 x.d]
def ZI(x:Jk):List Value:=[Gr x.f,Gr x.t,.int .i64 x.n]
def ZA(x:Ad):List Value:=[.int .i64 x.r.k,Gr x.r.acc.o,.int .i64 x.r.acc.k,Gr x.r.acc.a,Gr x.r.f,Gr x.r.t,.int .i64 x.n]
abbrev oH:List TypeDesc:=[.string,.int .i64,.string,.int .i64]
abbrev sy:List TypeDesc:=[.string,.string,.int .i64]
abbrev s6:List TypeDesc:=[.int .i64,.string,.int .i64,.string,.string,.string,.int .i64]
theorem cL(a b:ED):BV (Q4 a) (Q4 b)=decide (a=b):=by grind[Q4,BV,GA,Fz,ED.eq_iff,S8.eq_iff]
theorem lS(a b:Jk):BV (ZI a) (ZI b)=decide (a=b):=by grind[ZI,BV,GA,Fz,Jk.eq_iff]
theorem lF(a b:Ad):BV (ZA a) (ZA b)=decide (a=b):=by simp[*,ZA,BV,GA,Fz,Ad.eq_iff,AU.eq_iff,S8.eq_iff,Bool.and_assoc]
theorem OW(a:ED):BE oH (Q4 a):=P3 trivial (P3 Z (P3 trivial (P3 Z Gz)))
theorem Q6(a:Jk):BE sy (ZI a):=P3 trivial (P3 trivial (P3 Z Gz))
theorem QV(a:Ad):BE s6 (ZA a):=P3 Z (P3 trivial (P3 Z (P3 trivial (P3 trivial (P3 trivial (P3 Z Gz))))))
theorem uz{p:Prop}[Decidable p](h:B=decide p):(!B)=decide (¬p):=by rw[h];simp
theorem KQ(g:k<z.length)(f:k<y.length)(h:z.take k=y.take k)(c:z[k]=y[k]):z.take (k+1)=y.take (k+1):=by
 rw[ψ g,ψ f,h,c]
theorem OA(c:z.length=y.length)(f:¬k<z.length)(h:z.take k=y.take k):z=y:=by grind[η]
theorem Tq(g:k<z.length)(f:k<y.length)(c:z[k]≠y[k]):z≠y:=by grind
abbrev Zf(T:TypeId)(i:AJ):AM:= .blk T [.d (AF i.id),.d (AF i.pr),.d (AF i.sq),.d (.sl none (i.po.map BT)),.d (.sl none (i.pa.map C4)),.d (.sl none (i.af.map AF))]
theorem Vh(a b:AJ)(K:a.po.length<=100000000)(I:a.pa.length<=100000000)(H:a.af.length<=100000000):AL prog 91 [.d (Af a),.d (Af b)] (.raw (.bool (decide (a=b)))):=by
 refine Av func91 Z Z ntmps91 Z Z Z λF t=>(AC (AE (V (Bh 1 Z Z Z Z Z Z Z) (V (Bh 2 Z Z Z Z Z Z Z) (AB Z Z (AD (AC ?_)))))));refine AC (AE (J (AK Z Fw Z Z Z) (J (AO Z Z Z Am Z) (J (AK Z Fw Z Z Z) (J (AO Z Z Z Am Z) (J (C6 Z Z Z) (ek Z Z (CU 13 Z (λG=>?_) (λG=>?_)))))))))
 .refine AI Z Z Z Z (AI Z Z Z Z ?_);refine AI Z Z Z Z (AI Z Z Z Z (AI Z Z Z Z (J (BZ Z Z Z Z) (ek Z Z (AI Z Z Z Z (AI Z Z Z Z (AI Z Z Z Z (AI Z Z Z Z ?_))))))));refine AI Z Z Z Z (J (BZ Z Z Z Z) (ek Z Z (AI Z Z Z Z (AI Z Z Z Z (AI Z Z Z Z (AI Z Z Z Z (AI Z Z Z Z (AI Z Z Z Z ?_))))))));refine AI Z Z Z Z (J (BZ Z Z Z Z) (ek Z Z (AI Z Z Z Z (AI Z Z Z Z (AI Z Z Z Z (AI Z Z Z Z (AI Z Z Z Z (AI Z Z Z Z ?_))))))));refine AI Z Z Z Z (J (BZ Z Z Z Z) (ek Z Z (AI Z Z Z Z (AI Z Z Z Z (AI Z Z Z Z (AI Z Z Z Z (AI Z Z Z Z (AI Z Z Z Z ?_))))))));refine AI Z Z Z Z (J (BZ Z Z Z Z) (AD (Bw Z Z (AC (AE (AB Z Z (AD (A2 ?_))))))));exact ⟨_,[],[],A0 Z,Z,Z,EF (λh=>by subst h;simp_all),Z⟩
 .refine AQ Z Z Z (J (AK Z Hu Z Z Z) (AQ Z Z Z (J (AO Z Z Z Am Z) ?_)));refine AQ Z Z Z (J (AK Z Hu Z Z Z) (AQ Z Z Z (J (AO Z Z Z Am Z) (AQ Z Z Z (J (C6 Z Z Z) (J (Be Z Z Z Z) (ek Z Z (CU 20 Z (λE=>?_) (λE=>?_)))))))))
  .refine AI Z Z Z Z (AI Z Z Z Z (AI Z Z Z Z (AI Z Z Z Z ?_)));refine AI Z Z Z Z (J (BZ Z Z Z Z) (ek Z Z (AI Z Z Z Z (AI Z Z Z Z (AI Z Z Z Z (AI Z Z Z Z (AI Z Z Z Z (AI Z Z Z Z ?_))))))));refine AI Z Z Z Z (J (BZ Z Z Z Z) (ek Z Z (AI Z Z Z Z (AI Z Z Z Z (AI Z Z Z Z (AI Z Z Z Z (AI Z Z Z Z (AI Z Z Z Z ?_))))))));refine AI Z Z Z Z (J (BZ Z Z Z Z) (ek Z Z (AI Z Z Z Z (AI Z Z Z Z (AI Z Z Z Z (AI Z Z Z Z (AI Z Z Z Z (AI Z Z Z Z ?_))))))));refine AI Z Z Z Z (J (BZ Z Z Z Z) (AD (Bw Z Z (AC (AE (AB Z Z (AD (A2 ?_))))))));exact ⟨_,[],[],A0 Z,Z,Z,EF (λh=>by subst h;simp_all),Z⟩
  .refine AQ Z Z Z (J (AK Z Iq Z Z Z) (AQ Z Z Z (J (AO Z Z Z Am Z) ?_)));refine AQ Z Z Z (J (AK Z Iq Z Z Z) (AQ Z Z Z (J (AO Z Z Z Am Z) (AQ Z Z Z (J (C6 Z Z Z) (J (Be Z Z Z Z) (ek Z Z (CU 27 Z (λD=>?_) (λD=>?_)))))))))
   .refine AI Z Z Z Z (AI Z Z Z Z (AI Z Z Z Z (AI Z Z Z Z (AI Z Z Z Z (AI Z Z Z Z ?_)))));refine AI Z Z Z Z (J (BZ Z Z Z Z) (ek Z Z (AI Z Z Z Z (AI Z Z Z Z (AI Z Z Z Z (AI Z Z Z Z (AI Z Z Z Z (AI Z Z Z Z ?_))))))));refine AI Z Z Z Z (J (BZ Z Z Z Z) (ek Z Z (AI Z Z Z Z (AI Z Z Z Z (AI Z Z Z Z (AI Z Z Z Z (AI Z Z Z Z (AI Z Z Z Z ?_))))))));refine AI Z Z Z Z (J (BZ Z Z Z Z) (AD (Bw Z Z (AC (AE (AB Z Z (AD (A2 ?_))))))));exact ⟨_,[],[],A0 Z,Z,Z,EF (λh=>by subst h;simp_all),Z⟩
   .refine AQ Z Z Z (J (AK Z Ns Z Z Z) (AQ Z Z Z (J (AO Z Z Z Fn Z) (AQ Z Z Z (J (BS Z Qs Z) (AQ Z Z Z (J (AK Z Ns Z Z Z) ?_)))))));refine AQ Z Z Z (J (AO Z Z Z Fn Z) (AQ Z Z Z (J (BS Z Qs Z) (AQ Z Z Z (J (C6 Z Z Z) (J (Be Z Z Z Z) (ek Z Z (CU 36 Z (λC=>?_) (λC=>?_)))))))))
    .refine AI Z Z Z Z (AI Z Z Z Z (AI Z Z Z Z (AI Z Z Z Z (AI Z Z Z Z (AI Z Z Z Z ?_)))));refine AI Z Z Z Z (J (BZ Z Z Z Z) (ek Z Z (AI Z Z Z Z (AI Z Z Z Z (AI Z Z Z Z (AI Z Z Z Z (AI Z Z Z Z (AI Z Z Z Z ?_))))))));refine AI Z Z Z Z (J (BZ Z Z Z Z) (AD (Bw Z Z (AC (AE (AB Z Z (AD (A2 ?_))))))));exact ⟨_,[],[],A0 Z,Z,Z,EF (λh=>by subst h;simp_all),Z⟩
    .refine AQ Z Z Z (J (AK Z Cp Z Z Z) (AQ Z Z Z (J (AO Z Z Z Ja Z) (AQ Z Z Z (J (BS Z b0 Z) (AQ Z Z Z (J (AK Z Cp Z Z Z) ?_)))))));refine AQ Z Z Z (J (AO Z Z Z Ja Z) (AQ Z Z Z (J (BS Z b0 Z) (AQ Z Z Z (J (C6 Z Z Z) (J (Be Z Z Z Z) (ek Z Z (CU 45 Z (λB=>?_) (λB=>?_)))))))))
     .refine AI Z Z Z Z (AI Z Z Z Z (AI Z Z Z Z (AI Z Z Z Z (AI Z Z Z Z (AI Z Z Z Z ?_)))));refine AI Z Z Z Z (J (BZ Z Z Z Z) (AD (Bw Z Z (AC (AE (AB Z Z (AD (A2 ?_))))))));exact ⟨_,[],[],A0 Z,Z,Z,EF (λh=>by subst h;simp_all),Z⟩
     .refine AQ Z Z Z (J (AK Z QB Z Z Z) (AQ Z Z Z (J (AO Z Z Z BH Z) (AQ Z Z Z (J (BS Z E0 Z) (AQ Z Z Z (J (AK Z QB Z Z Z) ?_)))))));refine AQ Z Z Z (J (AO Z Z Z BH Z) (AQ Z Z Z (J (BS Z E0 Z) (AQ Z Z Z (J (C6 Z Z Z) (J (Be Z Z Z Z) (AD (A6 Z (λA=>?_) (λA=>?_)))))))))
      .refine AC (AE (AB Z Z (AD (A2 ?_))));exact ⟨_,[],[],A0 Z,Z,Z,EF (λh=>by subst h;simp_all),Z⟩
      .refine AW (AC (AC ?_));have w:a.po.length=b.po.length:=by omega
       have y:a.pa.length=b.pa.length:=by omega
       have z:a.af.length=b.af.length:=by omega
       refine AE (AB Z Z (AD (AZ (BM (α:=Nat) (λk=>⟨108,[(2,(.ptr 1 0 0)),(3,(.ptr 2 0 0)),(5,(.d (AF (k:Int))))],[(1,[Zf 93 a]),(2,[Zf 93 b])]⟩) (λk=>k<=a.po.length/\a.po.take k=b.po.take k) (λk=>a.po.length-k) (0) (⟨ζ _,by simp⟩) (AX t [1,2] Z Z ⟨Z,Z,Z,trivial⟩) ?_))));rintro k ⟨u,i⟩;refine AC ?_;refine AC (AE (ek Z Z (J (AK Z Ns Z Z Z) (J (AO Z Z Z Fn Z) (J (BS Z Qs Z) (J (Az Z Z Z) (AD (A6 Z (λs=>?_) (λs=>?_)))))))))
       .have f:k<a.po.length:=BQ s;refine AW (AC (AZ (AC (CK [[],[0],[],[0,1,2],[0,1,2,3],[],[5],[],[5,6,7],[5,6,7,8],rg 10] mixed Z (By ?_)))));have c:k<b.po.length:=by omega
        refine AR [2] Z (AK Z Ns Z Z Z) (Ao [61] Z Z (λ_=>Aa (AO Z Z Z Fn Z)) (Ap 5 Z Z (AR [62,63] Z (BC (k) Z Z (Z) (A1 f) Qs Z IG Z) (AR [64] Z (C7 Z Z bj Z) ?_))));refine AR [3] Z (AK Z Ns Z Z Z) (Ao [66] Z Z (λ_=>Aa (AO Z Z Z Fn Z)) (Ap 5 Z Z (AR [67,68] Z (BC (k) Z Z (Z) (A1 c) Qs Z IG Z) (AR [69] Z (C7 Z Z bj Z) (Bu 10 Z Z Z (Ab 11 Z Z (J (OF (la:=Q4 a.po[k]) (lb:=Q4 b.po[k]) (ds:=oH) (by kernel_rfl) (by kernel_rfl) (by kernel_rfl) Z Z Z Z (OW _) (OW _) (uz (cL _ _)) Z) (AD ⟨Z,?_⟩))))))));refine Bz (A6 Z (λr=>?_) (λr=>?_))
        .refine AC (AE (AB Z Z (AD (A2 ?_))));exact ⟨_,[],[],A0 Z,Z,Z,EF (λh=>Tq f c r (by rw[h])),Z⟩
        .refine AW (AE (ek Z Z (J (Aj Z Z (AN (k+1) (by omega)) Z) (AB Z Z (AD ?_)))));exact ⟨k+1,⟨by show k+1<=_;omega,KQ f c i (by simpa using r)⟩,by show a.po.length-(k+1)<a.po.length-k;omega,AX t [1,2] Z (Z) ⟨Z,Z,Z,trivial⟩⟩
       .refine Aw (AC (AC ?_));have x:=OA w (by have h:=s;omega) i;refine AE (AB Z Z (AD (AZ (BM (α:=Nat) (λk=>⟨108,[(2,(.ptr 1 0 0)),(3,(.ptr 2 0 0)),(6,(.d (AF (k:Int))))],[(1,[Zf 93 a]),(2,[Zf 93 b])]⟩) (λk=>k<=a.pa.length/\a.pa.take k=b.pa.take k) (λk=>a.pa.length-k) (0) (⟨ζ _,by simp⟩) (AX t [1,2] Z Z ⟨Z,Z,Z,trivial⟩) ?_))));rintro k ⟨u,i⟩;refine AC ?_;refine AC (AE (ek Z Z (J (AK Z Cp Z Z Z) (J (AO Z Z Z Ja Z) (J (BS Z b0 Z) (J (Az Z Z Z) (AD (A6 Z (λo=>?_) (λo=>?_)))))))))
        .have f:k<a.pa.length:=BQ o;refine AW (AC (AZ (AC (CK [[],[0],[],[0,1,2],[0,1,2,3],[],[5],[],[5,6,7],[5,6,7,8],rg 10] mixed Z (By ?_)))));have c:k<b.pa.length:=by omega
         refine AR [2] Z (AK Z Cp Z Z Z) (Ao [79] Z Z (λ_=>Aa (AO Z Z Z Ja Z)) (Ap 6 Z Z (AR [80,81] Z (BC (k) Z Z (Z) (A1 f) b0 Z KV Z) (AR [82] Z (C7 Z Z QR Z) ?_))));refine AR [3] Z (AK Z Cp Z Z Z) (Ao [84] Z Z (λ_=>Aa (AO Z Z Z Ja Z)) (Ap 6 Z Z (AR [85,86] Z (BC (k) Z Z (Z) (A1 c) b0 Z KV Z) (AR [87] Z (C7 Z Z QR Z) (Bu 10 Z Z Z (Ab 11 Z Z (J (OF (la:=ZI a.pa[k]) (lb:=ZI b.pa[k]) (ds:=sy) (by kernel_rfl) (by kernel_rfl) (by kernel_rfl) Z Z Z Z (Q6 _) (Q6 _) (uz (lS _ _)) Z) (AD ⟨Z,?_⟩))))))));refine Bz (A6 Z (λl=>?_) (λl=>?_))
         .refine AC (AE (AB Z Z (AD (A2 ?_))));exact ⟨_,[],[],A0 Z,Z,Z,EF (λh=>Tq f c l (by rw[h])),Z⟩
         .refine AW (AE (ek Z Z (J (Aj Z Z (AN (k+1) (by omega)) Z) (AB Z Z (AD ?_)))));exact ⟨k+1,⟨by show k+1<=_;omega,KQ f c i (by simpa using l)⟩,by show a.pa.length-(k+1)<a.pa.length-k;omega,AX t [1,2] Z (Z) ⟨Z,Z,Z,trivial⟩⟩
        .refine Aw (AC (AC ?_));have v:=OA y (by have h:=o;omega) i;refine AE (AB Z Z (AD (AZ (BM (α:=Nat) (λk=>⟨108,[(2,(.ptr 1 0 0)),(3,(.ptr 2 0 0)),(7,(.d (AF (k:Int))))],[(1,[Zf 93 a]),(2,[Zf 93 b])]⟩) (λk=>k<=a.af.length/\a.af.take k=b.af.take k) (λk=>a.af.length-k) (0) (⟨ζ _,by simp⟩) (AX t [1,2] Z Z ⟨Z,Z,Z,trivial⟩) ?_))));rintro k ⟨u,i⟩;refine AC ?_;refine AC (AE (ek Z Z (J (AK Z QB Z Z Z) (J (AO Z Z Z BH Z) (J (BS Z E0 Z) (J (Az Z Z Z) (AD (A6 Z (λj=>?_) (λj=>?_)))))))))
         .have f:k<a.af.length:=BQ j;refine AW (AC (AZ (AC (CK [[],[0],[],[0,1,2],[0,1,2,3],[],[5],[],[5,6,7],[5,6,7,8],rg 10] mixed Z (By ?_)))));have c:k<b.af.length:=by omega
          refine AR [2] Z (AK Z QB Z Z Z) (Ao [97] Z Z (λ_=>Aa (AO Z Z Z BH Z)) (Ap 7 Z Z (AR [98,99] Z (BC (k) Z Z (Z) (A1 f) E0 Z BW Z) (AR [100] Z (CG Z Z Am Z) ?_))));refine AR [3] Z (AK Z QB Z Z Z) (Ao [102] Z Z (λ_=>Aa (AO Z Z Z BH Z)) (Ap 7 Z Z (AR [103,104] Z (BC (k) Z Z (Z) (A1 c) E0 Z BW Z) (AR [105] Z (CG Z Z Am Z) (Bu 10 Z Z Z (Ab 11 Z Z (J (C6 Z Z Z) (AD ⟨Z,?_⟩))))))));refine Bz (A6 Z (λg=>?_) (λg=>?_))
          .refine AC (AE (AB Z Z (AD (A2 ?_))));exact ⟨_,[],[],A0 Z,Z,Z,EF (λh=>Tq f c g (by rw[h])),Z⟩
          .refine AW (AE (ek Z Z (J (Aj Z Z (AN (k+1) (by omega)) Z) (AB Z Z (AD ?_)))));exact ⟨k+1,⟨by show k+1<=_;omega,KQ f c i (by simpa using g)⟩,by show a.af.length-(k+1)<a.af.length-k;omega,AX t [1,2] Z (Z) ⟨Z,Z,Z,trivial⟩⟩
         .refine Aw (AC (AE (AB Z Z (AD (A2 ?_)))));exact ⟨_,[],[],A0 Z,Z,Z,TR (AJ.eq_iff.2 ⟨by omega,by omega,by omega,x,v,OA z (by have h:=j;omega) i⟩),Z⟩
def vr(p:gB):Prop:=p.ro.length<=100000000/\p.it.length<=100000000/\∀i∈p.it,i.po.length<=100000000/\i.pa.length<=100000000/\i.af.length<=100000000
abbrev lK(p:gB):AM:= .blk 25 [.d (.sl none (p.ro.map Bj)),.d (.sl none (p.it.map Af))]
theorem pO(p q:gB)(h:vr p):AL prog 36 [.d (Bf p),.d (Bf q)] (.raw (.bool (decide (p.ro=q.ro/\p.it=q.it)))):=by
 obtain ⟨B,A,z⟩:=h;refine Av func36 Z Z ntmps36 Z Z Z λF o=>?_;refine AC (AE (V (Bh 1 Z Z Z Z Z Z Z) (V (Bh 2 Z Z Z Z Z Z Z) (AB Z Z (AD (AC (AC (AE ?_))))))));refine J (AK Z P5 Z Z Z) (J (AO Z Z Z GQ Z) (J (BS Z Ri Z) (J (AK Z P5 Z Z Z) (J (AO Z Z Z GQ Z) (J (BS Z Ri Z) (J (C6 Z Z Z) (ek Z Z (CU 14 Z (λx=>?_) (λx=>?_)))))))))
 .refine AI Z Z Z Z (AI Z Z Z Z (AI Z Z Z Z (AI Z Z Z Z (AI Z Z Z Z (AI Z Z Z Z ?_)))));refine AI Z Z Z Z (J (BZ Z Z Z Z) (AD (Bw Z Z (AC (AE (AB Z Z (AD (A2 ?_))))))));exact ⟨_,[],[],A0 Z,Z,Z,EF (λ⟨y,w⟩=>by rw[y,w] at*;simp_all),Z⟩
 .refine AQ Z Z Z (J (AK Z J5 Z Z Z) (AQ Z Z Z (J (AO Z Z Z DI Z) (AQ Z Z Z (J (BS Z F0 Z) (AQ Z Z Z (J (AK Z J5 Z Z Z) ?_)))))));refine AQ Z Z Z (J (AO Z Z Z DI Z) (AQ Z Z Z (J (BS Z F0 Z) (AQ Z Z Z (J (C6 Z Z Z) (J (Be Z Z Z Z) (AD (A6 Z (λv=>?_) (λv=>?_)))))))))
  .refine AC (AE (AB Z Z (AD (A2 ?_))));exact ⟨_,[],[],A0 Z,Z,Z,EF (λ⟨y,w⟩=>by rw[y,w] at*;simp_all),Z⟩
  .refine AW (AC (AC ?_));have r:p.ro.length=q.ro.length:=by omega
   have u:p.it.length=q.it.length:=by omega
   refine AE (AB Z Z (AD (AZ (BM (α:=Nat) (λk=>⟨60,[(2,(.ptr 1 0 0)),(3,(.ptr 2 0 0)),(5,(.d (AF (k:Int))))],[(1,[lK p]),(2,[lK q])]⟩) (λk=>k<=p.ro.length/\p.ro.take k=q.ro.take k) (λk=>p.ro.length-k) (0) (⟨ζ _,by simp⟩) (AX o [1,2] Z Z ⟨Z,Z,Z,trivial⟩) ?_))));rintro k ⟨t,l⟩;refine AC ?_;refine AC (AE (ek Z Z (J (AK Z P5 Z Z Z) (J (AO Z Z Z GQ Z) (J (BS Z Ri Z) (J (Az Z Z Z) (AD (A6 Z (λj=>?_) (λj=>?_)))))))))
   .have a:k<p.ro.length:=BQ j;refine AW (AC (AZ (AC (CK [[],[0],[],[0,1,2],[0,1,2,3],[],[5],[],[5,6,7],[5,6,7,8],rg 10] mixed Z (By ?_)))));have b:k<q.ro.length:=by omega
    refine AR [2] Z (AK Z P5 Z Z Z) (Ao [30] Z Z (λ_=>Aa (AO Z Z Z GQ Z)) (Ap 5 Z Z (AR [31,32] Z (BC (k) Z Z (Z) (A1 a) Ri Z IH Z) (AR [33] Z (C7 Z Z bp Z) ?_))));refine AR [3] Z (AK Z P5 Z Z Z) (Ao [35] Z Z (λ_=>Aa (AO Z Z Z GQ Z)) (Ap 5 Z Z (AR [36,37] Z (BC (k) Z Z (Z) (A1 b) Ri Z IH Z) (AR [38] Z (C7 Z Z bp Z) (Bu 10 Z Z Z (Ab 11 Z Z (J (OF (la:=ZA p.ro[k]) (lb:=ZA q.ro[k]) (ds:=s6) (by kernel_rfl) (by kernel_rfl) (by kernel_rfl) Z Z Z Z (QV _) (QV _) (uz (lF _ _)) Z) (AD ⟨Z,?_⟩))))))));refine Bz (A6 Z (λi=>?_) (λi=>?_))
    .refine AC (AE (AB Z Z (AD (A2 ?_))));exact ⟨_,[],[],A0 Z,Z,Z,EF (λh=>Tq a b i h.1),Z⟩
    .refine AW (AE (ek Z Z (J (Aj Z Z (AN (k+1) (by omega)) Z) (AB Z Z (AD ?_)))));exact ⟨k+1,⟨by show k+1<=_;omega,KQ a b l (by simpa using i)⟩,by show p.ro.length-(k+1)<p.ro.length-k;omega,AX o [1,2] Z (Z) ⟨Z,Z,Z,trivial⟩⟩
   .refine Aw (AC (AC ?_));have s:=OA r (by have h:=j;omega) l;refine AE (AB Z Z (AD (AZ (BM (α:=Nat) (λk=>⟨60,[(2,(.ptr 1 0 0)),(3,(.ptr 2 0 0)),(6,(.d (AF (k:Int))))],[(1,[lK p]),(2,[lK q])]⟩) (λk=>k<=p.it.length/\p.it.take k=q.it.take k) (λk=>p.it.length-k) (0) (⟨ζ _,by simp⟩) (AX o [1,2] Z Z ⟨Z,Z,Z,trivial⟩) ?_))));rintro k ⟨t,l⟩;refine AC ?_;refine AC (AE (ek Z Z (J (AK Z J5 Z Z Z) (J (AO Z Z Z DI Z) (J (BS Z F0 Z) (J (Az Z Z Z) (AD (A6 Z (λg=>?_) (λg=>?_)))))))))
    .have a:k<p.it.length:=BQ g;refine AW (AC (AZ (AC (CK [[],[0],[],[0,1,2],[0,1,2,3],[],[5],[],[5,6,7],[5,6,7,8],rg 10,rg 11] mixed Z (By ?_)))));have b:k<q.it.length:=by omega
     have c:=z _ (ϑ a);refine AR [2] Z (AK Z J5 Z Z Z) (Ao [48] Z Z (λ_=>Aa (AO Z Z Z DI Z)) (Ap 6 Z Z (AR [49,50] Z (BC (k) Z Z (Z) (A1 a) F0 Z Cz Z) (AR [51] Z (C7 Z Z G8 Z) ?_))));refine AR [3] Z (AK Z J5 Z Z Z) (Ao [53] Z Z (λ_=>Aa (AO Z Z Z DI Z)) (Ap 6 Z Z (AR [54,55] Z (BC (k) Z Z (Z) (A1 b) F0 Z Cz Z) (AR [56] Z (C7 Z Z G8 Z) (Bu 10 Z Z Z (Ab 11 Z Z (J (Au (Vh p.it[k] q.it[k] c.1 c.2.1 c.2.2) Z Z) (AD ⟨Z,?_⟩))))))));refine Ab 12 Z Z (J (KH Z Z) (AD ⟨Z,?_⟩));refine Bz (A6 Z (λf=>?_) (λf=>?_))
     .refine AC (AE (AB Z Z (AD (A2 ?_))));exact ⟨_,[],[],A0 Z,Z,Z,EF (λh=>Tq a b f h.2),Z⟩
     .refine AW (AE (ek Z Z (J (Aj Z Z (AN (k+1) (by omega)) Z) (AB Z Z (AD ?_)))));exact ⟨k+1,⟨by show k+1<=_;omega,KQ a b l (by simpa using f)⟩,by show p.it.length-(k+1)<p.it.length-k;omega,AX o [1,2] Z (Z) ⟨Z,Z,Z,trivial⟩⟩
    .refine Aw (AC (AE (AB Z Z (AD (A2 ?_)))));exact ⟨_,[],[],A0 Z,Z,Z,TR ⟨s,OA u (by have h:=g;omega) l⟩,Z⟩
theorem OS(r:AU):AL prog 49 [.d (Bc r)] (AF (CL r)):=by
 refine Av func49 Z Z ntmps49 Z Z Z λF x=>(AC (AE (V (Bh 1 Z Z Z Z Z Z Z) (AB Z Z (AD (AC (AE (J (AK Z EW Z Z Z) ?_))))))));refine J (Ay Z Z Yu Z Z Z) (J (E5 uR uk Z Z Z) (J (Fg (la:=NR r.acc) (lb:=NR SZ) (ds:=fe) (by kernel_rfl) (by kernel_rfl) (by kernel_rfl) Z Z Z Z (Dc _) (Dc _) (Nn _ _) Z) (AB Z Z (AD (AC (AC (AE (J (AK Z Ge Z Z Z) ?_))))))));refine J (AO Z Z Z Am Z) (AD (AZ (AC (AE (J (GR Z Z Z) (AB Z Z (AD (A6 Z (λw=>?_) (λw=>?_)))))))));refine AC (AE (J (AK Z EW Z Z Z) (J (AK Z Rz Z Z Z) (J (AO Z Z Z CJ Z) (J (KK Z Z Z) (ek Z Z (CU 16 Z (λv=>?_) (λv=>?_))))))));refine AI Z Z Z Z (AI Z Z Z Z ?_);refine AI Z Z Z Z (AI Z Z Z Z (J (BZ Z Z Z Z) (ek Z Z (AI Z Z Z Z (AI Z Z Z Z (AI Z Z Z Z (AI Z Z Z Z (J (BZ Z Z Z Z) ?_))))))));refine ek Z Z (AI Z Z Z Z (AI Z Z Z Z (AI Z Z Z Z (AI Z Z Z Z (J (BZ Z Z Z Z) (ek Z Z (AI Z Z Z Z (AI Z Z Z Z ?_))))))));refine AI Z Z Z Z (J (BZ Z Z Z Z) (ek Z Z (AI Z Z Z Z (AI Z Z Z Z (AI Z Z Z Z (J (BZ Z Z Z Z) (AD (Bw Z Z ?_))))))))
 rotate_left
 refine AQ Z Z Z (J (AK Z EW Z Z Z) ?_);refine AQ Z Z Z (J (AK Z MQ Z Z Z) (AQ Z Z Z (J (AO Z Z Z CJ Z) (AQ Z Z Z (J (KK Z Z Z) (J (Be Z Z Z Z) (ek Z Z (CU 22 Z (λu=>?_) (λu=>?_)))))))));refine AI Z Z Z Z (AI Z Z Z Z (AI Z Z Z Z (AI Z Z Z Z (J (BZ Z Z Z Z) ?_))));refine ek Z Z (AI Z Z Z Z (AI Z Z Z Z (AI Z Z Z Z (AI Z Z Z Z (J (BZ Z Z Z Z) (ek Z Z (AI Z Z Z Z (AI Z Z Z Z ?_))))))));refine AI Z Z Z Z (J (BZ Z Z Z Z) (ek Z Z (AI Z Z Z Z (AI Z Z Z Z (AI Z Z Z Z (J (BZ Z Z Z Z) (AD (Bw Z Z ?_))))))))
 rotate_left
 refine AQ Z Z Z (J (AK Z EW Z Z Z) ?_);refine AQ Z Z Z (J (AK Z MR Z Z Z) (AQ Z Z Z (J (AO Z Z Z Am Z) (AQ Z Z Z (J (Az Z Z Z) (J (Be Z Z Z Z) (ek Z Z (CU 28 Z (λt=>?_) (λt=>?_)))))))));refine AI Z Z Z Z (AI Z Z Z Z (AI Z Z Z Z (AI Z Z Z Z (J (BZ Z Z Z Z) (ek Z Z (AI Z Z Z Z (AI Z Z Z Z ?_)))))));refine AI Z Z Z Z (J (BZ Z Z Z Z) (ek Z Z (AI Z Z Z Z (AI Z Z Z Z (AI Z Z Z Z (J (BZ Z Z Z Z) (AD (Bw Z Z ?_))))))))
 rotate_left
 refine AQ Z Z Z (J (AK Z EW Z Z Z) ?_);refine AQ Z Z Z (J (AK Z MR Z Z Z) (AQ Z Z Z (J (AO Z Z Z Am Z) (AQ Z Z Z (J (HV Z Z Z) (J (Be Z Z Z Z) (ek Z Z (CU 34 Z (λs=>?_) (λs=>?_)))))))));refine AI Z Z Z Z (AI Z Z Z Z ?_);refine AI Z Z Z Z (J (BZ Z Z Z Z) (ek Z Z (AI Z Z Z Z (AI Z Z Z Z (AI Z Z Z Z (J (BZ Z Z Z Z) (AD (Bw Z Z ?_))))))))
 rotate_left
 refine AQ Z Z Z (J (AK Z FC Z Z Z) (AQ Z Z Z (J (AO Z Z Z CJ Z) (AQ Z Z Z (J (DE Z Z Z) (J (Be Z Z Z Z) (ek Z Z (CU 39 Z (λo=>?_) (λo=>?_)))))))));refine AI Z Z Z Z (AI Z Z Z Z (AI Z Z Z Z (J (BZ Z Z Z Z) (AD (Bw Z Z ?_)))))
 rotate_left
 refine AQ Z Z Z (J (AK Z FB Z Z Z) (AQ Z Z Z (J (AO Z Z Z CJ Z) (AQ Z Z Z (J (DE Z Z Z) (J (Be Z Z Z Z) (AD (A6 Z (λl=>?_) (λl=>?_)))))))))
 rotate_left
 refine AW ?_
 rotate_left
 refine AC (AE (J (GR Z Z Z) (AB Z Z (AD (A6 Z (λk=>?_) (λk=>?_))))));refine AC (AE (ek Z Z (J (KH Z Z) (ek Z Z (CU 48 Z (λj=>?_) (λj=>?_))))));refine AI Z Z Z Z (AI Z Z Z Z (AI Z Z Z Z (J (BZ Z Z Z Z) (ek Z Z (AI Z Z Z Z (AI Z Z Z Z (AI Z Z Z Z (J (BZ Z Z Z Z) ?_))))))));refine ek Z Z (AI Z Z Z Z (AI Z Z Z Z (AI Z Z Z Z (AI Z Z Z Z (AI Z Z Z Z (J (BZ Z Z Z Z) (AD (Bw Z Z ?_))))))))
 rotate_left
 refine AQ Z Z Z (J (AK Z FC Z Z Z) (AQ Z Z Z (J (AO Z Z Z CJ Z) (AQ Z Z Z (J (KK Z Z Z) (J (Be Z Z Z Z) (ek Z Z (CU 53 Z (λi=>?_) (λi=>?_)))))))));refine AI Z Z Z Z (AI Z Z Z Z (AI Z Z Z Z (J (BZ Z Z Z Z) ?_)));refine ek Z Z (AI Z Z Z Z (AI Z Z Z Z (AI Z Z Z Z (AI Z Z Z Z (AI Z Z Z Z (J (BZ Z Z Z Z) (AD (Bw Z Z ?_))))))))
 rotate_left
 refine AQ Z Z Z (J (AK Z FB Z Z Z) (AQ Z Z Z (J (AO Z Z Z CJ Z) (AQ Z Z Z (J (KK Z Z Z) (J (Be Z Z Z Z) (ek Z Z (CU 58 Z (λh=>?_) (λh=>?_)))))))));refine AI Z Z Z Z (AI Z Z Z Z (AI Z Z Z Z (AI Z Z Z Z (AI Z Z Z Z (J (BZ Z Z Z Z) (AD (Bw Z Z ?_)))))))
 rotate_left
 refine AQ Z Z Z (J (AK Z FC Z Z Z) (AQ Z Z Z (J (AO Z Z Z CJ Z) ?_)));refine AQ Z Z Z (J (AK Z FB Z Z Z) (AQ Z Z Z (J (AO Z Z Z CJ Z) (AQ Z Z Z (J (KK Z Z Z) (J (Be Z Z Z Z) (AD (A6 Z (λg=>?_) (λg=>?_)))))))))
 rotate_left
 refine AW ?_
 rotate_left
 refine AC (AE (J (GR Z Z Z) (AB Z Z (AD (A6 Z (λf=>?_) (λf=>?_))))));refine AC (AE (ek Z Z (J (KH Z Z) (ek Z Z (CU 69 Z (λc=>?_) (λc=>?_))))));refine AI Z Z Z Z (AI Z Z Z Z ?_);refine AI Z Z Z Z (J (BZ Z Z Z Z) (ek Z Z (AI Z Z Z Z (AI Z Z Z Z (AI Z Z Z Z (J (BZ Z Z Z Z) (AD (Bw Z Z ?_))))))))
 rotate_left
 refine AQ Z Z Z (J (AK Z FC Z Z Z) (AQ Z Z Z (J (AO Z Z Z CJ Z) (AQ Z Z Z (J (KK Z Z Z) (J (Be Z Z Z Z) (ek Z Z (CU 74 Z (λb=>?_) (λb=>?_)))))))));refine AI Z Z Z Z (AI Z Z Z Z (AI Z Z Z Z (J (BZ Z Z Z Z) (AD (Bw Z Z ?_)))))
 rotate_left
 refine AQ Z Z Z (J (AK Z FB Z Z Z) (AQ Z Z Z (J (AO Z Z Z CJ Z) (AQ Z Z Z (J (DE Z Z Z) (J (Be Z Z Z Z) (AD (A6 Z (λa=>?_) (λa=>?_)))))))))
 rotate_left
 refine AW ?_
 rotate_left
 all_goals
  refine AC (AE (AB Z Z (AD (A2 ?_))));exact ⟨_,[],[],A0 Z,Z,Z,Ae (by unfold CL;simp_all<;>(intros;omega)),Z⟩
theorem Jm(i:AJ)(r:AU)(j:i.po.length<=1000)(g:i.pa.length<=1000)(f:i.af.length<=1000):AL prog 94 [.d (Af i),.d (Bc r)] (AF (CB i r)):=by
 by_cases c:Ax i=0
 .have k:=(GC c).1;have a:=Jn i j g f;rw[c] at a;refine Av func94 Z Z ntmps94 Z Z Z λF o=>(AC (AE (V (Bh 1 Z Z Z Z Z Z Z) (V (Bh 2 Z Z Z Z Z Z Z) (AB Z Z ?_)))));refine AD (AC (AC (AE (J (Ay Z Z G8 Z Z Z) (J (Au (a) Z Z) (J (C6 Z Z Z) (ek Z Z (Ds 8 Z (by decide) ?_))))))));refine AQ Z Z Z (J (Ay Z Z G7 Z Z Z) (AQ Z Z Z (J (Au (OS r) Z Z) (AQ Z Z Z (J (C6 Z Z Z) (J (Be Z Z Z Z) (AD (A6 Z (λb=>?_) (λb=>?_)))))))))
  .refine AC (AE (AB Z Z (AD (A2 ?_))));exact ⟨_,[],[],A0 Z,Z,Z,Ae (by rw[CB,κ];simp_all),Z⟩
  .refine AW (AC (AE (J (Ay Z Z G8 Z Z Z) (J (Ay Z Z G7 Z Z Z) (J (Au (TY i r k) Z Z) (AB Z Z (AD (A2 ?_))))))));exact ⟨_,[],[],A0 Z,Z,Z,Ae (by rw[CB,ς ⟨c,by simpa using b⟩,Q1 (by simpa using b)]),Z⟩
 .have a:=Jn i j g f;have l:CB i r=0:=κ λh=>c h.1;rw[l];refine Av func94 Z Z ntmps94 Z Z Z λF o=>(AC (AE (V (Bh 1 Z Z Z Z Z Z Z) (V (Bh 2 Z Z Z Z Z Z Z) (AB Z Z (AD (AC ?_)))))));refine AC (AE (J (Ay Z Z G8 Z Z Z) (J (Au (a) Z Z) (J (C6 Z Z Z) (ek Z Z (Ey 8 Z ((by simpa using c)) (AI Z Z Z Z (AI Z Z Z Z ?_))))))));refine AI Z Z Z Z (J (BZ Z Z Z Z) (AD (Bw Z Z (AC (AE (AB Z Z (AD (A2 ?_))))))));exact ⟨_,[],[],A0 Z,Z,Z,Z,Z⟩
theorem Es(b:k<c.length):(c.take (k+1)).filter f=(c.take k).filter f++(if f c[k] then [c[k]] else []):=by
 rw[ψ b,i7]
 grind
abbrev Ah(b:Bool):D:= .raw (.bool b)
def BP{α:Type}(l:List α):List (α×Bool):=l.map λa=>(a,true)
theorem YQ[DecidableEq a](l:List a)(c:a):Ac (BP l) c false=decide (c∈l):=by
 induction l with
 | nil=>rfl
 | cons b l f=>
  grind[BP,Ac]
theorem aU[DecidableEq a]{f:a}(h:f∉c):BX (BP c) f true=BP (c++ [f]):=by
 induction c with
 | nil=>rfl
 | cons b c g=>
  grind[BP,BX]
def I5:Ad:=⟨⟨0,SZ,[],[]⟩,0⟩
def J9(l:List Ad)(k:Nat):Int:=if CL (l.getD k I5).r≠0 then CL (l.getD k I5).r else if ¬(-4*Mx<=(l.getD k I5).n/\(l.getD k I5).n<=4*Mx) then 12 else if (l.getD k I5).r∈(l.take k).map Ad.r then 7 else 0
def Dn(l:List Ad):Int:=BO ((List.range l.length).map (J9 l))
theorem FG(d:a)(h:k<c.length):c.getD k d=c[k]:=by rw[Φ,ω h];rfl
theorem EL(b:k<c.length):(c.take (k+1)).map s=(c.take k).map s++ [s c[k]]:=by rw[ψ b,Ω];rfl
theorem lE(p:gB)(u:p.ro.length<=100000):AL prog 129 [.d (Bf p)] (AF (Dn p.ro)):=by
 refine Av func129 Z Z ntmps129 Z Z Z λF s=>(AC (AE ?_));refine V (Bh 1 Z Z Z Z Z Z Z) (AB Z Z (AD (AC (AE (V (Pc 2 Z Z Z Z) (AB Z Z (AD (AC ?_))))))));refine AC (AE (J (AK Z DW Z Z Z) (J (AO Z Z Z NO Z) (J (BS Z an Z) (ek Z Z (AD (AZ (BM (α:=Nat) (λk=>⟨35,[(3,(.map 2 0)),(9,(.d (.sl none (p.ro.map Bj)))),(10,(.d (AF (p.ro.length:Int)))),(11,(.d (AF (k:Int))))],[(2,[BY Bc Ah (BP ((p.ro.take k).map Ad.r))])]⟩) (λk=>k<=p.ro.length/\Dn p.ro=BO (((List.range p.ro.length).drop k).map (J9 p.ro))) (λk=>p.ro.length-k) (0) (⟨ζ _,Z⟩) (AX s [2] Z Z ⟨Z,Z,Z,Z,trivial⟩) ?_))))))));rintro k ⟨t,o⟩;refine AC (AE (J (Az Z Z Z) (AD (AC (A6 Z (λi=>?_) (λi=>?_))))))
 .have b:k<p.ro.length:=BQ i;refine AW (AC (AZ (AC (AE ?_))));have j:=nW b o;have c:=FG I5 b;refine J (BC (k) Z Z (Z) (A1 b) an Z KS Z) ?_;refine J (C7 Z Z Vi Z) (V (Bx 3 RP Z Z Z Z) (V (B3 Z Z Z Z Z Z Z KS) (AD (AC (AC (AE (J (AK Z EX Z Z Z) (J (Ay Z Z C9 Z Z Z) ?_))))))));refine J (Au (Wo p.ro[k].r) Z Z) (AB Z Z (AD (AC (AE (ek Z Z (J (C6 Z Z Z) (AD (A6 Z (λa=>?_) (λa=>?_)))))))))
  .refine AC (AE (ek Z Z (AB Z Z (AD (A2 ?_)))));exact ⟨_,[],[],A0 Z,Z,Z,Ae (j.2 _ (by unfold J9;rw[c,ς a]) a),Z⟩
  .refine AW (AC (AZ ?_));refine AC (AE (J (AK Z PB Z Z Z) (J (AO Z Z Z Fo Z) (J (Au (HZ _ _ _) Z Z) (J (KH Z Z) (AB Z Z (AD (A6 Z (λl=>?_) (λl=>?_)))))))))
   .refine AC (AE (AB Z Z (AD (A2 ?_))));exact ⟨_,[],[],A0 Z,Z,Z,Ae (j.2 12 (by unfold J9;rw[c,κ a,ς (by simp only[Mx];omega)]) (by decide)),Z⟩
   .refine AC (AE (ek Z Z (J (AK Z EX Z Z Z) (J (Ay Z Z C9 Z Z Z) (J (IV (BP ((p.ro.take k).map Ad.r)) (p.ro[k].r) (false) _ Z Z Z Qe CY Sh Z Z) ?_)))));rw[YQ];refine AB Z Z (AD (A6 Z (λg=>?_) (λg=>?_)))
    .refine AC (AE (AB Z Z (AD (A2 ?_))));exact ⟨_,[],[],A0 Z,Z,Z,Ae (j.2 7 (by unfold J9;rw[c,κ a,κ (by simp only[Mx];omega),ς g]) (by decide)),Z⟩
    .have f:p.ro[k].r∉(p.ro.take k).map Ad.r:=g;refine AW (AE ?_);refine ek Z Z (J (AK Z EX Z Z Z) (J (Ay Z Z C9 Z Z Z) (V (VH (BP ((p.ro.take k).map Ad.r)) (p.ro[k].r) (true) Z Z Z Qe CY Z Z) (AD (AE (J (Aj Z Z (AN (k+1) (by omega)) Z) (ek Z Z (AD ?_))))))));exact ⟨k+1,⟨by show k+1<=_;omega,j.1 (by unfold J9;rw[c,κ a,κ (by simp only[Mx];omega),κ f])⟩,by show p.ro.length-(k+1)<p.ro.length-k;omega,AX s [2] Z (by rw[EL b,<-aU f];rfl) ⟨Z,Z,Z,Z,trivial⟩⟩
 .refine Aw (AC (AE (AB Z Z (AD (A2 ?_)))));exact ⟨_,[],[],A0 Z,Z,Z,Ae (by rw[o,kI (by have h:=i;simp only[iF];omega)];rfl),Z⟩
theorem QW{a:Bool}(h:a=B):AV.d (.raw (.bool a))= .d (.raw (.bool B)):=by rw[h]
theorem G1{b:Type}{p:b->Bool}:∀{l:List b} {k:Nat} (c:k<l.length),(∀x∈l.take k,p x=false)->p l[k]=true->l.findIdx? p=some k
 | a::l,0,_,_,h=>by simp at h;simp[List.findIdx?_cons,h]
 | a::l,k+1,c,f,h=>by
  have i:p a=false:=f a (by simp);have:=G1 (l:=l) (k:=k) (by simpa using c) (λx g=>f x (by simp[g])) (by simpa using h)
  simp[List.findIdx?_cons,i,this]
theorem Ht(h:∀x∈c,f x=false):c.findIdx? f=none:=by
 rw[List.findIdx?_eq_none_iff];exact h
def tW(p:Int->Bool)(l:List Int):Int:=match l.findIdx? p with
 | some k=>k
 | none=> -1
theorem qR{p:Int->Bool}:0<=tW p g↔g.any p=true:=by grind[tW]
abbrev HM(S:List Int):Hp:=[(910,[.blk 137 [.map 911 0]]),(911,[BY AF Ah (BP S)])]
def Ib(S:List Int)(x:Int):Bool:=!decide (x∈S)
theorem rD(S:List Int)(x:Int):AP prog 131 [.d (AF x),.ptr 910 0 0] (HM S) λr a=>r= .d (Ah (Ib S x))/\a=HM S:=by
 refine Av func131 Z Z ntmps131 Z Z Z λF b=>?_;refine AC (AE (AB Z Z (AD (AC (AE (J (AO Z Z Z Q8 Z) (ek Z Z (J (IV (BP S) (x) (false) _ Z Z Z Eo IS Sh Z Z) ?_))))))));rw[YQ];refine J (KH Z Z) (AB Z Z (AD (A2 ?_)));exact ⟨_,[910,911],_,A0 Z,Z,Z,by first | exact QW (by unfold Ib;simp) | rfl,rfl⟩
theorem dm(S l:List Int)(s:l.length<=100000000):AP prog 138 [.d (.sl none (l.map AF)),.fn 131 [.ptr 910 0 0]] (HM S) λr o=>r= .d (AF (tW (Ib S) l))/\o=HM S:=by
 refine Av func138 Z Z ntmps138 Z Z Z λF i=>(AC (AE (AB Z Z (AD ?_))));refine AC (AC (AE (ek Z Z (J (BS Z E0 Z) (ek Z Z (AD (AZ (BM (α:=Nat) (λk=>⟨19,[(0,.d (.sl none (l.map AF))),(1,.fn 131 [.ptr 910 0 0]),(7,(.d (AF (l.length:Int)))),(8,(.d (AF (k:Int))))],HM S⟩) (λk=>k<=l.length/\∀x∈l.take k,Ib S x=false) (λk=>l.length-k) (0) (⟨ζ _,by simp⟩) (AX i [910,911] Z Z ⟨Z,Z,Z,Z,trivial⟩) ?_))))))));rintro k ⟨j,f⟩;refine AC (AE (J (Az Z Z Z) (AD (AC (A6 Z (λg=>?_) (λg=>?_))))))
 .have b:k<l.length:=BQ g;refine AW (AC (AZ (AC (AE (ek Z Z (AB Z Z (AD (AC ?_))))))));refine AE (ek Z Z (ek Z Z (ek Z Z (J (BC (k) Z Z (Z) (A1 b) E0 Z BW Z) (J (CG Z Z Am Z) (V (VT (rD S l[k]) Z [910,911] ⟨Z,Z,trivial⟩ Z Z Z Z Z Z Z Z Z) (AD (JC Z (λc=>?_) (λc=>?_)))))))))
  .refine AC (AE (ek Z Z (AB Z Z (AD (A2 ?_)))));exact ⟨_,[910,911],_,A0 Z,Z,Z,Ae (by unfold tW;rw[G1 b f (by simpa using c)]),Z⟩
  .refine AW (AE (J (Aj Z Z (AN (k+1) (by omega)) Z) (ek Z Z (AD ?_))));exact ⟨k+1,⟨by show k+1<=_;omega,by rw[ψ b];intro x a;rcases ϖ.1 a with a | a;exact f x a;rw[θ.1 a];simpa using c⟩,by show l.length-(k+1)<l.length-k;omega,AX i [910,911] Z (Z) ⟨Z,Z,Z,Z,trivial⟩⟩
 .refine Aw (AC (AE (AB Z Z (AD (A2 ?_)))));exact ⟨_,[910,911],_,A0 Z,Z,Z,Ae (by unfold tW;rw[Ht (λx a=>f x (by rw[η (by have h:=g;omega)];exact a))]),Z⟩
theorem Uc(S l:List Int)(a:l.length<=100000000):AP prog 130 [.d (.sl none (l.map AF)),.fn 131 [.ptr 910 0 0]] (HM S) λr b=>r= .d (Ah (l.any (Ib S)))/\b=HM S:=by
 refine Av func130 Z Z ntmps130 Z Z Z λF c=>(AC (AE (AB Z Z (AD ?_))));refine AC (AE (ek Z Z (ek Z Z (V (FH (dm S l a) Z [910,911] ⟨Z,Z,trivial⟩ Z Z Z Z Z Z Z Z Z) (J (EN Z Z Z) (AB Z Z (AD (A2 ?_))))))));exact ⟨_,[910,911],_,A0 Z,Z,Z,QW (by rw[kJ,jP];exact qR),Z⟩
def Ag:AJ:=⟨0,0,0,[],[],[]⟩
def Jy(l:List AJ)(k:Nat):Int:=if Ax (l.getD k Ag)≠0 then Ax (l.getD k Ag) else if (l.getD k Ag).id∈(l.take k).map AJ.id\/(l.getD k Ag).sq∈(l.take k).map AJ.sq then 7 else 0
def FA(l:List AJ):Int:=BO ((List.range l.length).map (Jy l))
def Pw(S:List Int)(i:AJ):Int:=if i.af.any (Ib S)=true then 9 else 0
def P1(l:List AJ):Int:=BO (l.map (Pw (l.map AJ.id)))
def BB(p:gB):Int:=if 4096<p.it.length\/16384<p.ro.length then 8 else BO [Dn p.ro,FA p.it,P1 p.it]
theorem OV(h:¬(4096<t.it.length\/16384<t.ro.length))(a:Dn t.ro≠0):Dn t.ro=BB t:=by grind[BB,BO]
theorem Lu(a:¬(4096<t.it.length\/16384<t.ro.length))(f:Dn t.ro=0)(c:h=FA t.it)(b:h≠0):h=BB t:=by grind[BB,BO]
theorem R9(a:¬(4096<t.it.length\/16384<t.ro.length))(f:Dn t.ro=0)(c:FA t.it=0)(b:h=P1 t.it):h=BB t:=by grind[BB,BO]
def E6(p:gB):Prop:=p.ro.length<=100000/\p.it.length<=100000/\∀i∈p.it,i.po.length<=100000/\i.pa.length<=100000/\i.af.length<=100000
theorem HC(p:gB)(G:E6 p):AL prog 75 [.d (Bf p)] (AF (BB p)):=by
 obtain ⟨H,I,E⟩:=G;refine Av func75 Z Z ntmps75 Z Z Z λF v=>(AC (AE (V (Bh 1 Z Z Z Z Z Z Z) (AB Z Z (AD ?_)))));refine AC (AC (AE (J (AK Z Cc Z Z Z) (J (AO Z Z Z IR Z) (J (BS Z No Z) (J (HV Z Z Z) (ek Z Z (CU 15 Z (λB=>?_) (λB=>?_)))))))))
 .refine AI Z Z Z Z (AI Z Z Z Z (AI Z Z Z Z ?_));refine AI Z Z Z Z (J (BZ Z Z Z Z) (AD (Bw Z Z (AC (AE (AB Z Z (AD (A2 ?_))))))));exact ⟨_,[],[],A0 Z,Z,Z,Ae (by unfold BB;rw[ς (by omega)]),Z⟩
 .refine AQ Z Z Z (J (AK Z DW Z Z Z) ?_);refine AQ Z Z Z (J (AO Z Z Z NO Z) (AQ Z Z Z (J (BS Z an Z) (AQ Z Z Z (J (HV Z Z Z) (J (Be Z Z Z Z) (AD (A6 Z (λA=>?_) (λA=>?_)))))))))
  .refine AC (AE (AB Z Z (AD (A2 ?_))));exact ⟨_,[],[],A0 Z,Z,Z,Ae (by unfold BB;rw[ς (by omega)]),Z⟩
  .refine AW (AC (AC ?_));have c:¬(4096<p.it.length\/16384<p.ro.length):=by omega
   refine AE (J (Ay Z Z Bp Z Z Z) ?_);refine J (Au (lE p H) Z Z) (AB Z Z (AD (AC (AE (ek Z Z (J (C6 Z Z Z) (AD (A6 Z (λs=>?_) (λs=>?_)))))))))
   .refine AC (AE (ek Z Z (AB Z Z (AD (A2 ?_)))));exact ⟨_,[],[],A0 Z,Z,Z,Ae (OV c s),Z⟩
   .refine AW (AC ?_);have f:Dn p.ro=0:=by simpa using s
    refine AE (V (Pc 2 Z Z Z Z) (V (Pc 3 Z Z Z Z) (V (Bx 4 ac Z Z Z Z) (V (B3 Z Z Z Z Z Z Z bE) (AB Z Z (AD (AC ?_)))))));refine AC (AE (J (AK Z Cc Z Z Z) (J (AO Z Z Z IR Z) (J (BS Z No Z) (ek Z Z (AD (AZ (BM (α:=Nat) (λk=>⟨69,[(1,(.ptr 1 0 0)),(4,(.ptr 4 0 0)),(5,(.map 3 0)),(29,(.d (.sl none (p.it.map Af)))),(30,(.d (AF (p.it.length:Int)))),(31,(.d (AF (k:Int))))],[(1,[.blk 39 [.d (.sl none (p.ro.map Bj)),.d (.sl none (p.it.map Af))]]),(4,[.blk 137 [.map 2 0]]),(2,[BY AF Ah (BP ((p.it.take k).map AJ.id))]),(3,[BY AF Ah (BP ((p.it.take k).map AJ.sq))])]⟩) (λk=>k<=p.it.length/\FA p.it=BO (((List.range p.it.length).drop k).map (Jy p.it))) (λk=>p.it.length-k) (0) (⟨ζ _,Z⟩) (AX v [1,4,2,3] Z Z ⟨Z,Z,Z,Z,Z,Z,trivial⟩) ?_))))))));rintro k ⟨w,t⟩;refine AC (AE (J (Az Z Z Z) (AD (AC (A6 Z (λi=>?_) (λi=>?_))))))
    .have a:k<p.it.length:=BQ i;refine AW (AC (AZ (AC (AE ?_))));have l:=nW a t;have g:=FG Ag a;have x:=E _ (ϑ a);refine J (BC (k) Z Z (Z) (A1 a) No Z Ch Z) (J (C7 Z Z CM Z) (V (Bx 5 FK Z Z Z Z) (V (B3 Z Z Z Z Z Z Z Ch) (AD (AC (AC (AE (J (Ay Z Z CM Z Z Z) ?_))))))));refine J (Au (LY p.it[k] (by omega) (by omega) (by omega)) Z Z) (AB Z Z (AD (AC (AE (ek Z Z (J (C6 Z Z Z) (AD (A6 Z (λb=>?_) (λb=>?_)))))))))
     .refine AC (AE (ek Z Z (AB Z Z (AD (A2 ?_)))));exact ⟨_,[],[],A0 Z,Z,Z,Ae (Lu c f (l.2 _ (by unfold Jy;rw[g,ς b]) b) b),Z⟩
     .refine AW (AC (AC (AE (J (AO Z Z Z Q8 Z) (J (AK Z Nr Z Z Z) (J (AO Z Z Z Am Z) (J (IV (BP ((p.it.take k).map AJ.id)) (p.it[k].id) (false) _ Z Z Z Eo IS Sh Z Z) ?_)))))));rw[YQ];refine ek Z Z (CU 44 Z (λz=>?_) (λz=>?_))
      .refine AI Z Z Z Z (AI Z Z Z Z (AI Z Z Z Z ?_));refine AI Z Z Z Z (J (BZ Z Z Z Z) (AD (Bw Z Z (AC (AE (AB Z Z (AD (A2 ?_))))))));exact ⟨_,[],[],A0 Z,Z,Z,Ae (Lu c f (l.2 7 (by unfold Jy;rw[g,κ b,ς (by simp_all)]) (by decide)) (by decide)),Z⟩
      .refine AQ Z Z Z (ek Z Z (AQ Z Z Z (J (AK Z MS Z Z Z) (AQ Z Z Z (J (AO Z Z Z Am Z) (AQ Z Z Z (J (IV (BP ((p.it.take k).map AJ.sq)) (p.it[k].sq) (false) _ Z Z Z Eo IS Sh Z Z) ?_)))))));rw[YQ];refine J (Be Z Z Z Z) (AD (A6 Z (λy=>?_) (λy=>?_)))
       .refine AC (AE (AB Z Z (AD (A2 ?_))));exact ⟨_,[],[],A0 Z,Z,Z,Ae (Lu c f (l.2 7 (by unfold Jy;rw[g,κ b,ς (by simp_all)]) (by decide)) (by decide)),Z⟩
       .refine AW ?_;have D:p.it[k].id∉(p.it.take k).map AJ.id:=by simp_all
        have C:p.it[k].sq∉(p.it.take k).map AJ.sq:=by simp_all
        refine CK [[],[],[1],[],[],[4],[0,1,2],rg 7] mixed Z (By (Aq [4] [4,2] Z Z (λ_=>Aa (AO Z Z Z Q8 Z)) (AR [7] Z (AK Z Nr Z Z Z) ?_)));refine Aq [51] [5] Z Z (λ_=>Aa (AO Z Z Z Am Z)) (Ap 5 Z Z (AR [7] Z (AK Z MS Z Z Z) (Aq [54] [5] Z Z (λ_=>Aa (AO Z Z Z Am Z)) (F6 [50,52] [2] [] Z Z (λ_=>F7 (VH (BP ((p.it.take k).map AJ.id)) (p.it[k].id) (true) Z Z Z Eo IS Z Z)) (.inl ⟨Z,Z⟩) Z Z Z Z Z (Bu 7 Z Z Z (Ab 8 Z Z (V (VH (BP ((p.it.take k).map AJ.sq)) (p.it[k].sq) (true) Z Z Z Eo IS Z Z) (AD ⟨Z,?_⟩))))))));refine Bz (AE (J (Aj Z Z (AN (k+1) (by omega)) Z) (ek Z Z (AD ?_))));exact ⟨k+1,⟨by show k+1<=_;omega,l.1 (by unfold Jy;rw[g,κ b,κ (by rintro (h | h);exact D h;exact C h)])⟩,by show p.it.length-(k+1)<p.it.length-k;omega,AX v [1,4,2,3] Z (by rw[EL a,EL a,<-aU D,<-aU C];rfl) ⟨Z,Z,Z,Z,Z,Z,trivial⟩⟩
    .refine Aw (AC (AC ?_));have u:FA p.it=0:=by rw[t,kI (by have h:=i;simp only[iF];omega)];rfl
     have j:p.it.take k=p.it:=η (by have h:=i;omega);rw[j];refine AE (J (AK Z Cc Z Z Z) (J (AO Z Z Z IR Z) (J (BS Z No Z) (ek Z Z (AD (AZ (BM (α:=Nat) (λk=>⟨69,[(4,(.ptr 4 0 0)),(58,(.d (.sl none (p.it.map Af)))),(59,(.d (AF (p.it.length:Int)))),(60,(.d (AF (k:Int))))],[(4,[.blk 137 [.map 2 0]]),(2,[BY AF Ah (BP (p.it.map AJ.id))])]⟩) (λk=>k<=p.it.length/\P1 p.it=BO ((p.it.drop k).map (Pw (p.it.map AJ.id)))) (λk=>p.it.length-k) (0) (⟨ζ _,Z⟩) (AX v [4,2] Z Z ⟨Z,Z,Z,Z,trivial⟩) ?_)))))));rintro k ⟨w,t⟩;refine AC (AE (J (Az Z Z Z) (AD (AC (A6 Z (λr=>?_) (λr=>?_))))))
     .have a:k<p.it.length:=BQ r;refine AW (AC (AZ (AC (AE ?_))));have l:=kR a t;have x:=E _ (ϑ a);refine J (BC (k) Z Z (Z) (A1 a) No Z Ch Z) (J (C7 Z Z CM Z) (V (Bx 6 FK Z Z Z Z) (V (B3 Z Z Z Z Z Z Z Ch) ?_)));refine AD (AC (AE (J (AK Z Dz Z Z Z) (J (AO Z Z Z BH Z) (J (rP Z Z) (V (FH ((Uc (p.it.map AJ.id) p.it[k].af (by omega)).by [(910,4),(911,2)] Z) Z [4,2] ⟨Z,Z,trivial⟩ Z Z Z Z Z Z Z Z Z) (AD (JC Z (λo=>?_) (λo=>?_)))))))))
      .refine AC (AE (AB Z Z (AD (A2 ?_))));exact ⟨_,[],[],A0 Z,Z,Z,Ae (R9 c f u (l.2 9 (by unfold Pw;rw[ς (by simpa using o)]) (by decide))),Z⟩
      .refine AW (AE (J (Aj Z Z (AN (k+1) (by omega)) Z) (ek Z Z (AD ?_))));exact ⟨k+1,⟨by show k+1<=_;omega,l.1 (by unfold Pw;rw[κ (by simpa using o)])⟩,by show p.it.length-(k+1)<p.it.length-k;omega,AX v [4,2] Z (Z) ⟨Z,Z,Z,Z,trivial⟩⟩
     .refine Aw (AC (AE (AB Z Z (AD (A2 ?_)))));exact ⟨_,[],[],A0 Z,Z,Z,Ae (R9 c f u (by rw[t,DL (by have h:=r;omega)])),Z⟩
abbrev Do(T:TypeId)(p:gB):AM:= .blk T [.d (.sl none (p.ro.map Bj)),.d (.sl none (p.it.map Af))]
theorem Gc(i:k<c.length)(g:E<k)(h:s c[E]=u):u∈(c.take k).map s:=by grind[jh]
theorem HE(g:E<c.length)(h:u∉(c.take E).map s)(i:s c[E]≠u):u∉(c.take (E+1)).map s:=by grind[EL]
theorem WN(h:0<=WO A g):A∈g:=by grind[WO]
theorem Xn(h:WO A g<0):A∉g:=by grind[WO]
theorem WX(p:gB)(id:Int)(j:p.it.length<=100000):AL prog 51 [.d (Bf p),.d (AF id)] (AF (WO id (p.it.map AJ.id))):=by
 refine Av func51 Z Z ntmps51 Z Z Z λF g=>(AC (AE (V (Bh 1 Z Z Z Z Z Z Z) ?_)));refine AB Z Z (AD (AC (AC (AE (AB Z Z (AD (AZ (BM (α:=Nat) (λk=>⟨22,[(1,.d (AF id)),(2,(.ptr 1 0 0)),(5,(.d (AF (k:Int))))],[(1,[Do 25 p])]⟩) (λk=>k<=p.it.length/\id∉(p.it.take k).map AJ.id) (λk=>p.it.length-k) (0) (⟨ζ _,by simp⟩) (AX g [1] Z Z ⟨Z,Z,Z,trivial⟩) ?_))))))));rintro k ⟨i,f⟩;refine AC ?_;refine AC (AE (ek Z Z (J (AK Z J5 Z Z Z) (J (AO Z Z Z DI Z) (J (BS Z F0 Z) (J (Az Z Z Z) (AD (A6 Z (λc=>?_) (λc=>?_)))))))))
 .have a:k<p.it.length:=BQ c;refine AW (AC (AZ (AC (AE (J (AK Z J5 Z Z Z) ?_)))));refine J (AO Z Z Z DI Z) (ek Z Z (J (BC (k) Z Z (Z) (A1 a) F0 Z Cz Z) (J (ND Z Fw Z Z Z) (J (CG Z Z Am Z) (ek Z Z (J (GR Z Z Z) (AD (A6 Z (λb=>?_) (λb=>?_)))))))))
  .refine AC (AE (ek Z Z (AB Z Z (AD (A2 ?_)))));exact ⟨_,[],[],A0 Z,Z,Z,Ae (UM (l:=p.it.map AJ.id) (by simpa using a) (by rw[<-List.map_take];exact f) (by rw[iC];exact b.symm)).symm,Z⟩
  .refine AW (AE (ek Z Z (J (Aj Z Z (AN (k+1) (by omega)) Z) (AB Z Z (AD ?_)))));exact ⟨k+1,⟨by show k+1<=_;omega,HE a f b⟩,by show p.it.length-(k+1)<p.it.length-k;omega,AX g [1] Z (Z) ⟨Z,Z,Z,trivial⟩⟩
 .refine Aw (AC (AE (AB Z Z (AD (A2 ?_)))));exact ⟨_,[],[],A0 Z,Z,Z,Ae (by unfold WO;rw[κ (by rw[η (by have h:=c;omega)] at f;exact f)]),Z⟩
def rp(p:gB):Prop:=p.it.length<=12/\p.ro.length<=24/\∀i∈p.it,i.po.length<=12/\i.pa.length<=12/\i.af.length<=12
instance (p:gB):Decidable (rp p):=inferInstanceAs (Decidable (_/\_/\∀i∈p.it,_))
theorem kx(p:gB):AL prog 11 [.d (Bf p)] (Ah (decide (rp p))):=by
 refine Av func11 Z Z ntmps11 Z Z Z λF s=>(AC (AE (V (Bh 1 Z Z Z Z Z Z Z) (AB Z Z (AD ?_)))));refine AC (AC (AE (J (AK Z J5 Z Z Z) (J (AO Z Z Z DI Z) (J (BS Z F0 Z) (J (HV Z Z Z) (ek Z Z (CU 8 Z (λu=>?_) (λu=>?_)))))))))
 .refine AI Z Z Z Z (AI Z Z Z Z (AI Z Z Z Z ?_));refine AI Z Z Z Z (J (BZ Z Z Z Z) (AD (Bw Z Z (AC (AE (AB Z Z (AD (A2 ?_))))))));exact ⟨_,[],[],A0 Z,Z,Z,EF (λh=>by have f:=h.1;have v:=h.2.1;omega),Z⟩
 .refine AQ Z Z Z (J (AK Z P5 Z Z Z) ?_);refine AQ Z Z Z (J (AO Z Z Z GQ Z) (AQ Z Z Z (J (BS Z Ri Z) (AQ Z Z Z (J (HV Z Z Z) (J (Be Z Z Z Z) (AD (A6 Z (λo=>?_) (λo=>?_)))))))))
  .refine AC (AE (AB Z Z (AD (A2 ?_))));exact ⟨_,[],[],A0 Z,Z,Z,EF (λh=>by have f:=h.1;have v:=h.2.1;omega),Z⟩
  .refine AW (AC (AC (AE (AB Z Z (AD (AZ (BM (α:=Nat) (λk=>⟨49,[(1,(.ptr 1 0 0)),(3,(.d (AF (k:Int))))],[(1,[Do 25 p])]⟩) (λk=>k<=p.it.length/\∀i∈p.it.take k,i.po.length<=12/\i.pa.length<=12/\i.af.length<=12) (λk=>p.it.length-k) (0) (⟨ζ _,by simp⟩) (AX s [1] Z Z ⟨Z,Z,trivial⟩) ?_)))))));rintro k ⟨t,r⟩;refine AC ?_;refine AC (AE (ek Z Z (J (AK Z J5 Z Z Z) (J (AO Z Z Z DI Z) (J (BS Z F0 Z) (J (Az Z Z Z) (AD (A6 Z (λc=>?_) (λc=>?_)))))))))
   .have a:k<p.it.length:=BQ c;refine AW (AC (AZ (AC (AE (J (AK Z J5 Z Z Z) ?_)))));refine J (AO Z Z Z DI Z) (ek Z Z (J (BC (k) Z Z (Z) (A1 a) F0 Z Cz Z) (J (ND Z Ns Z Z Z) (J (CG Z Z Fn Z) (J (BS Z Qs Z) (J (HV Z Z Z) (ek Z Z (CU 29 Z (λl=>?_) (λl=>?_)))))))))
    .refine AI Z Z Z Z (AI Z Z Z Z (AI Z Z Z Z (AI Z Z Z Z (AI Z Z Z Z (AI Z Z Z Z (AI Z Z Z Z (AI Z Z Z Z ?_)))))));refine J (BZ Z Z Z Z) (ek Z Z (AI Z Z Z Z (AI Z Z Z Z (AI Z Z Z Z (AI Z Z Z Z (AI Z Z Z Z (AI Z Z Z Z (AI Z Z Z Z ?_))))))));refine AI Z Z Z Z (J (BZ Z Z Z Z) (AD (Bw Z Z (AC (AE (AB Z Z (AD (A2 ?_))))))));exact ⟨_,[],[],A0 Z,Z,Z,EF (λh=>by have f:=h.2.2 _ (ϑ a);omega),Z⟩
    .refine AQ Z Z Z ?_;refine J (AK Z J5 Z Z Z) (AQ Z Z Z (J (AO Z Z Z DI Z) (AQ Z Z Z (ek Z Z (AQ Z Z Z (J (BC (k) Z Z (Z) (A1 a) F0 Z Cz Z) (AQ Z Z Z (J (ND Z Cp Z Z Z) ?_))))))));refine AQ Z Z Z (J (CG Z Z Ja Z) (AQ Z Z Z (J (BS Z b0 Z) (AQ Z Z Z (J (HV Z Z Z) (J (Be Z Z Z Z) (ek Z Z (CU 39 Z (λj=>?_) (λj=>?_)))))))))
     .refine AI Z Z Z Z (AI Z Z Z Z (AI Z Z Z Z (AI Z Z Z Z (AI Z Z Z Z (AI Z Z Z Z (AI Z Z Z Z ?_))))));refine AI Z Z Z Z (J (BZ Z Z Z Z) (AD (Bw Z Z (AC (AE (AB Z Z (AD (A2 ?_))))))));exact ⟨_,[],[],A0 Z,Z,Z,EF (λh=>by have f:=h.2.2 _ (ϑ a);omega),Z⟩
     .refine AQ Z Z Z ?_;refine J (AK Z J5 Z Z Z) (AQ Z Z Z (J (AO Z Z Z DI Z) (AQ Z Z Z (ek Z Z (AQ Z Z Z (J (BC (k) Z Z (Z) (A1 a) F0 Z Cz Z) (AQ Z Z Z (J (ND Z QB Z Z Z) ?_))))))));refine AQ Z Z Z (J (CG Z Z BH Z) (AQ Z Z Z (J (BS Z E0 Z) (AQ Z Z Z (J (HV Z Z Z) (J (Be Z Z Z Z) (AD (A6 Z (λg=>?_) (λg=>?_)))))))))
      .refine AC (AE (AB Z Z (AD (A2 ?_))));exact ⟨_,[],[],A0 Z,Z,Z,EF (λh=>by have f:=h.2.2 _ (ϑ a);omega),Z⟩
      .refine AW (AE (ek Z Z (J (Aj Z Z (AN (k+1) (by omega)) Z) (AB Z Z (AD ?_)))));exact ⟨k+1,⟨by show k+1<=_;omega,by rw[ψ a];intro i b;rcases ϖ.1 b with b | b;exact r i b;rw[θ.1 b];omega⟩,by show p.it.length-(k+1)<p.it.length-k;omega,AX s [1] Z (Z) ⟨Z,Z,trivial⟩⟩
   .refine Aw (AC (AE (AB Z Z (AD (A2 ?_)))));exact ⟨_,[],[],A0 Z,Z,Z,TR ⟨by omega,by omega,λi b=>r i (by rw[η (by have h:=c;omega)];exact b)⟩,Z⟩
theorem TW(p:gB)(g1:p.ro.length<=1000)(g2:p.it.length<=1000)(g3:∀i∈p.it,i.po.length<=1000/\i.pa.length<=1000/\i.af.length<=1000):AL prog 14 [.d (Bf p)] (AF (BB p)):=by
 refine Av func14 Z Z ntmps14 Z Z Z λF t=>(AC (AE (V (Bh 1 Z Z Z Z Z Z Z) (AB Z Z (AD ?_)))));refine AC (AC (AE (J (AK Z J5 Z Z Z) (J (AO Z Z Z DI Z) (J (BS Z F0 Z) (J (HV Z Z Z) (ek Z Z (CU 15 Z (λY=>?_) (λY=>?_)))))))))
 .refine AI Z Z Z Z (AI Z Z Z Z (AI Z Z Z Z ?_));refine AI Z Z Z Z (J (BZ Z Z Z Z) (AD (Bw Z Z (AC (AE (AB Z Z (AD (A2 ?_))))))));exact ⟨_,[],[],A0 Z,Z,Z,Ae (by unfold BB;rw[ς (by omega)]),Z⟩
 .refine AQ Z Z Z (J (AK Z P5 Z Z Z) ?_);refine AQ Z Z Z (J (AO Z Z Z GQ Z) (AQ Z Z Z (J (BS Z Ri Z) (AQ Z Z Z (J (HV Z Z Z) (J (Be Z Z Z Z) (AD (A6 Z (λX=>?_) (λX=>?_)))))))))
  .refine AC (AE (AB Z Z (AD (A2 ?_))));exact ⟨_,[],[],A0 Z,Z,Z,Ae (by unfold BB;rw[ς (by omega)]),Z⟩
  .refine AW (AC (AC ?_));have c:¬(4096<p.it.length\/16384<p.ro.length):=by omega
   refine AE (AB Z Z (AD (AZ (BM (α:=Nat) (λk=>⟨151,[(1,(.ptr 1 0 0)),(3,(.d (AF (k:Int))))],[(1,[Do 25 p])]⟩) (λk=>k<=p.ro.length/\Dn p.ro=BO (((List.range p.ro.length).drop k).map (J9 p.ro))) (λk=>p.ro.length-k) (0) (⟨ζ _,Z⟩) (AX t [1] Z Z ⟨Z,Z,trivial⟩) ?_))));rintro k ⟨O,C⟩;refine AC ?_;refine AC (AE (ek Z Z (J (AK Z P5 Z Z Z) (J (AO Z Z Z GQ Z) (J (BS Z Ri Z) (J (Az Z Z Z) (AD (A6 Z (λL=>?_) (λL=>?_)))))))))
   .have a:k<p.ro.length:=BQ L;refine AW (AC (AZ (AC (AC (AE ?_)))));have s:=nW a C;have b:=FG I5 a;refine J (AK Z P5 Z Z Z) (J (AO Z Z Z GQ Z) (ek Z Z (J (BC (k) Z Z (Z) (A1 a) Ri Z IH Z) (J (VK Z J0 Z Z Z) (J (C7 Z Z G7 Z) ?_)))));refine J (Au (OS p.ro[k].r) Z Z) (AB Z Z (AD (AC (AE (ek Z Z (J (C6 Z Z Z) (AD (A6 Z (λf=>?_) (λf=>?_)))))))))
    .refine AC (AE (ek Z Z (AB Z Z (AD (A2 ?_)))));exact ⟨_,[],[],A0 Z,Z,Z,Ae (by have h:=s.2 _ (by unfold J9;rw[b,ς f]) f;rw[h];exact OV c (by rw[<-h];exact f)),Z⟩
    .refine AW (AC (AC (AE ?_)));refine J (AK Z P5 Z Z Z) (J (AO Z Z Z GQ Z) (ek Z Z (J (BC (k) Z Z (Z) (A1 a) Ri Z IH Z) (J (ND Z SH Z Z Z) (J (CG Z Z Fo Z) (J (Az Z Z Z) (ek Z Z (CU 45 Z (λW=>?_) (λW=>?_)))))))))
     .refine AI Z Z Z Z (AI Z Z Z Z (AI Z Z Z Z (AI Z Z Z Z (AI Z Z Z Z (AI Z Z Z Z ?_)))));refine AI Z Z Z Z (J (BZ Z Z Z Z) (AD (Bw Z Z (AC (AE (AB Z Z (AD (A2 ?_))))))));exact ⟨_,[],[],A0 Z,Z,Z,Ae (by have h:=s.2 12 (by unfold J9;rw[b,κ f,ς (by simp only[Mx];omega)]) (by decide);rw[h];exact OV c (by rw[<-h];decide)),Z⟩
     .refine AQ Z Z Z (J (AK Z P5 Z Z Z) (AQ Z Z Z (J (AO Z Z Z GQ Z) (AQ Z Z Z (ek Z Z (AQ Z Z Z (J (BC (k) Z Z (Z) (A1 a) Ri Z IH Z) ?_)))))));refine AQ Z Z Z (J (ND Z SH Z Z Z) (AQ Z Z Z (J (CG Z Z Fo Z) (AQ Z Z Z (J (HV Z Z Z) (J (Be Z Z Z Z) (AD (A6 Z (λU=>?_) (λU=>?_)))))))))
      .refine AC (AE (AB Z Z (AD (A2 ?_))));exact ⟨_,[],[],A0 Z,Z,Z,Ae (by have h:=s.2 12 (by unfold J9;rw[b,κ f,ς (by simp only[Mx];omega)]) (by decide);rw[h];exact OV c (by rw[<-h];decide)),Z⟩
      .refine AW (AC (AE (AB Z Z (AD (AZ (BM (α:=Nat) (λm=>⟨151,[(1,(.ptr 1 0 0)),(3,(.d (AF (k:Int)))),(5,(.d (AF (m:Int))))],[(1,[Do 25 p])]⟩) (λm=>m<=k/\p.ro[k].r∉(p.ro.take m).map Ad.r) (λm=>k-m) (0) (⟨ζ _,by simp⟩) (AX t [1] Z Z ⟨Z,Z,Z,trivial⟩) ?_))))));rintro m ⟨T,hm⟩;refine AC (AC (AE (ek Z Z (ek Z Z (J (Az Z Z Z) (AD (A6 Z (λK=>?_) (λK=>?_))))))))
       .have o:m<k:=BQ K;refine AW (AC (AZ (AC (CK [[],[0],[],[0,1,2],[0,1,2,3],rg 5,[],[6],[],[6,7,8],[6,7,8,9],[6,7,8,9,10],rg 12] mixed Z (By ?_)))));have g:m<p.ro.length:=by omega
        refine AR [1] Z (AK Z P5 Z Z Z) (Ao [59] Z Z (λ_=>Aa (AO Z Z Z GQ Z)) (Ap 5 Z Z (AR [60,61] Z (BC (m) Z Z (Z) (A1 g) Ri Z IH Z) (AR [62] Z (VK Z J0 Z Z Z) (AR [63] Z (C7 Z Z G7 Z) (AR [1] Z (AK Z P5 Z Z Z) ?_))))));refine Ao [65] Z Z (λ_=>Aa (AO Z Z Z GQ Z)) (Ap 3 Z Z (AR [66,67] Z (BC (k) Z Z (Z) (A1 a) Ri Z IH Z) (AR [68] Z (VK Z J0 Z Z Z) (AR [69] Z (C7 Z Z G7 Z) (Bu 12 Z Z Z (Ab 13 Z Z (J (Fg (la:=NN p.ro[m].r) (lb:=NN p.ro[k].r) (ds:=br) (by kernel_rfl) (by kernel_rfl) (by kernel_rfl) Z Z Z Z (EQ _) (EQ _) (NW _ _) Z) (AD ⟨Z,?_⟩))))))));refine Bz (A6 Z (λI=>?_) (λI=>?_))
        .refine AC (AE (AB Z Z (AD (A2 ?_))));exact ⟨_,[],[],A0 Z,Z,Z,Ae (by have h:=s.2 7 (by unfold J9;rw[b,κ f,κ (by simp only[Mx];omega),ς (Gc a o I)]) (by decide);rw[h];exact OV c (by rw[<-h];decide)),Z⟩
        .refine AW (AE (ek Z Z (J (Aj Z Z (AN (m+1) (by omega)) Z) (AB Z Z (AD ?_)))));exact ⟨m+1,⟨by show m+1<=_;omega,HE g hm I⟩,by show k-(m+1)<k-m;omega,AX t [1] Z (Z) ⟨Z,Z,Z,trivial⟩⟩
       .have v:p.ro[k].r∉(p.ro.take k).map Ad.r:=by have e:m=k:=by {have h:=K;omega};subst e;exact hm
        refine Aw (AE (ek Z Z (J (Aj Z Z (AN (k+1) (by omega)) Z) (AB Z Z (AD ?_)))));exact ⟨k+1,⟨by show k+1<=_;omega,s.1 (by unfold J9;rw[b,κ f,κ (by simp only[Mx];omega),κ v])⟩,by show p.ro.length-(k+1)<p.ro.length-k;omega,AX t [1] Z (Z) ⟨Z,Z,trivial⟩⟩
   .refine Aw (AC (AC ?_));have u:Dn p.ro=0:=by rw[C,kI (by have h:=L;simp only[iF];omega)];rfl
    refine AE (AB Z Z (AD (AZ (BM (α:=Nat) (λk=>⟨151,[(1,(.ptr 1 0 0)),(6,(.d (AF (k:Int))))],[(1,[Do 25 p])]⟩) (λk=>k<=p.it.length/\FA p.it=BO (((List.range p.it.length).drop k).map (Jy p.it))) (λk=>p.it.length-k) (0) (⟨ζ _,Z⟩) (AX t [1] Z Z ⟨Z,Z,trivial⟩) ?_))));rintro k ⟨O,C⟩;refine AC ?_;refine AC (AE (ek Z Z (J (AK Z J5 Z Z Z) (J (AO Z Z Z DI Z) (J (BS Z F0 Z) (J (Az Z Z Z) (AD (A6 Z (λH=>?_) (λH=>?_)))))))))
    .have a:k<p.it.length:=BQ H;refine AW (AC (AZ (AC (AC (AE ?_)))));have s:=nW a C;have b:=FG Ag a;have B:=g3 _ (ϑ a);refine J (AK Z J5 Z Z Z) (J (AO Z Z Z DI Z) (ek Z Z (J (BC (k) Z Z (Z) (A1 a) F0 Z Cz Z) (J (C7 Z Z G8 Z) ?_))));refine J (Au (Jn p.it[k] B.1 B.2.1 B.2.2) Z Z) (AB Z Z (AD (AC (AE (ek Z Z (J (C6 Z Z Z) (AD (A6 Z (λl=>?_) (λl=>?_)))))))))
     .refine AC (AE (ek Z Z (AB Z Z (AD (A2 ?_)))));exact ⟨_,[],[],A0 Z,Z,Z,Ae (Lu c u (s.2 _ (by unfold Jy;rw[b,ς l]) l) l),Z⟩
     .refine AW (AC (AE (AB Z Z (AD (AZ (BM (α:=Nat) (λm=>⟨151,[(1,(.ptr 1 0 0)),(6,(.d (AF (k:Int)))),(8,(.d (AF (m:Int))))],[(1,[Do 25 p])]⟩) (λm=>m<=k/\p.it[k].id∉(p.it.take m).map AJ.id/\p.it[k].sq∉(p.it.take m).map AJ.sq) (λm=>k-m) (0) (⟨ζ _,by simp,by simp⟩) (AX t [1] Z Z ⟨Z,Z,Z,trivial⟩) ?_))))));rintro m ⟨T,N,M⟩;refine AC (AC (AE (ek Z Z (ek Z Z (J (Az Z Z Z) (AD (A6 Z (λG=>?_) (λG=>?_))))))))
      .have o:m<k:=BQ G;refine AW (AC (AZ (AC (CK [[],[0],[],[0,1,2],[0,1,2,3],rg 5,[],[6],[],[6,7,8],[6,7,8,9],[6,7,8,9,10],rg 12,rg 13,rg 14,rg 15,rg 14,rg 17,rg 18,rg 19,rg 14,[0,1,2,3,4,5,6,7,8,9,10,11,12,13,20],rg 14,[0,1,2,3,4,5,6,7,8,9,10,11,12,13,20,21,22],[0,1,2,3,4,5,6,7,8,9,10,11,12,13,20,21,22,23],[0,1,2,3,4,5,6,7,8,9,10,11,12,13,20,21,22,23,24],rg 26,rg 27] mixed Z (By ?_)))));have g:m<p.it.length:=by omega
       refine AR [1] Z (AK Z J5 Z Z Z) (Ao [93] Z Z (λ_=>Aa (AO Z Z Z DI Z)) (Ap 8 Z Z (AR [94,95] Z (BC (m) Z Z (Z) (A1 g) F0 Z Cz Z) (AR [96] Z (ND Z Fw Z Z Z) (AR [97] Z (CG Z Z Am Z) (AR [1] Z (AK Z J5 Z Z Z) ?_))))));refine Ao [99] Z Z (λ_=>Aa (AO Z Z Z DI Z)) (Ap 6 Z Z (AR [100,101] Z (BC (k) Z Z (Z) (A1 a) F0 Z Cz Z) (AR [102] Z (ND Z Fw Z Z Z) (AR [103] Z (CG Z Z Am Z) (Bu 12 Z Z Z (Ab 13 Z Z (J (GR Z Z Z) (AD ⟨Z,?_⟩))))))));refine Ab 14 Z Z (ek Z Z (CU 106 Z (λA=>?_) (λA=>?_)))
       .refine AD ⟨Z,?_⟩;refine By (Aq [1,106] [] Z Z (λ_=>EJ Z Z Z Z) (Aq [107,106] [] Z Z (λ_=>EJ Z Z Z Z) (Aq [8,106] [] Z Z (λ_=>EJ Z Z Z Z) (Aq [108,109,106] [] Z Z (λ_=>EJ Z Z Z Z) (Aq [110,106] [] Z Z (λ_=>EJ Z Z Z Z) (Aq [111,106] [] Z Z (λ_=>EJ Z Z Z Z) (Aq [1,106] [] Z Z (λ_=>EJ Z Z Z Z) ?_)))))));refine Aq [113,106] [] Z Z (λ_=>EJ Z Z Z Z) (Aq [6,106] [] Z Z (λ_=>EJ Z Z Z Z) (Aq [114,115,106] [] Z Z (λ_=>EJ Z Z Z Z) (Aq [116,106] [] Z Z (λ_=>EJ Z Z Z Z) (Aq [117,106] [] Z Z (λ_=>EJ Z Z Z Z) (Bu 26 Z Z Z (Ab 27 Z Z (AI Z Z Z Z (AD ⟨Z,?_⟩))))))));refine Ab 28 Z Z (J (BZ Z Z Z Z) (AD ⟨Z,?_⟩));refine Bz (Bw Z Z (AC (AE (AB Z Z (AD (A2 ?_))))));exact ⟨_,[],[],A0 Z,Z,Z,Ae (Lu c u (s.2 7 (by unfold Jy;rw[b,κ l,ς (by first | (exact .inl (Gc a o A)) | (exact .inr (Gc a o (by assumption))))]) (by decide)) (by decide)),rfl⟩
       .refine AD ⟨Z,?_⟩;refine By (Aq [1,106] [] Z Z (λ_=>Cq Z Z Z (AK Z J5 Z Z Z)) (Ao [107,106] Z Z (λ_=>Cq Z Z Z (AO Z Z Z DI Z)) (Aq [8,106] [] Z Z (λ_=>Cq Z Z Z (Pe Z Z)) (Aq [108,109,106] [] Z Z (λ_=>Cq Z Z Z (BC (m) Z Z (Z) (A1 g) F0 Z Cz Z)) (Aq [110,106] [] Z Z (λ_=>Cq Z Z Z (ND Z Iq Z Z Z)) (Aq [111,106] [] Z Z (λ_=>Cq Z Z Z (CG Z Z Am Z)) (Aq [1,106] [] Z Z (λ_=>Cq Z Z Z (AK Z J5 Z Z Z)) (Ao [113,106] Z Z (λ_=>Cq Z Z Z (AO Z Z Z DI Z)) ?_))))))));refine Aq [6,106] [] Z Z (λ_=>Cq Z Z Z (Pe Z Z)) (Aq [114,115,106] [] Z Z (λ_=>Cq Z Z Z (BC (k) Z Z (Z) (A1 a) F0 Z Cz Z)) (Aq [116,106] [] Z Z (λ_=>Cq Z Z Z (ND Z Iq Z Z Z)) (Aq [117,106] [] Z Z (λ_=>Cq Z Z Z (CG Z Z Am Z)) (Bu 26 Z Z Z (Ab 27 Z Z (AQ Z Z Z (J (GR Z Z Z) (AD ⟨Z,?_⟩))))))));refine Ab 28 Z Z (J (Be Z Z Z Z) (AD ⟨Z,?_⟩));refine Bz (A6 Z (λR=>?_) (λR=>?_))
        .refine AC (AE (AB Z Z (AD (A2 ?_))));exact ⟨_,[],[],A0 Z,Z,Z,Ae (Lu c u (s.2 7 (by unfold Jy;rw[b,κ l,ς (by first | (exact .inl (Gc a o A)) | (exact .inr (Gc a o (by assumption))))]) (by decide)) (by decide)),rfl⟩
        .refine AW (AE (ek Z Z (J (Aj Z Z (AN (m+1) (by omega)) Z) (AB Z Z (AD ?_)))));exact ⟨m+1,⟨by show m+1<=_;omega,HE g N (by simp_all),HE g M (by simp_all)⟩,by show k-(m+1)<k-m;omega,AX t [1] Z (Z) ⟨Z,Z,Z,trivial⟩⟩
      .have v:¬(p.it[k].id∈(p.it.take k).map AJ.id\/p.it[k].sq∈(p.it.take k).map AJ.sq):=by have e:m=k:=by {have h:=G;omega};subst e;rintro (h | h);exact N h;exact M h
       refine Aw (AE (ek Z Z (J (Aj Z Z (AN (k+1) (by omega)) Z) (AB Z Z (AD ?_)))));exact ⟨k+1,⟨by show k+1<=_;omega,s.1 (by unfold Jy;rw[b,κ l,κ v])⟩,by show p.it.length-(k+1)<p.it.length-k;omega,AX t [1] Z (Z) ⟨Z,Z,trivial⟩⟩
    .refine Aw (AC (AC ?_));have P:FA p.it=0:=by rw[C,kI (by have h:=H;simp only[iF];omega)];rfl
     refine AE (AB Z Z (AD (AZ (BM (α:=Nat) (λk=>⟨151,[(1,(.ptr 1 0 0)),(9,(.d (AF (k:Int))))],[(1,[Do 25 p])]⟩) (λk=>k<=p.it.length/\P1 p.it=BO ((p.it.drop k).map (Pw (p.it.map AJ.id)))) (λk=>p.it.length-k) (0) (⟨ζ _,Z⟩) (AX t [1] Z Z ⟨Z,Z,trivial⟩) ?_))));rintro k ⟨O,C⟩;refine AC ?_;refine AC (AE (ek Z Z (J (AK Z J5 Z Z Z) (J (AO Z Z Z DI Z) (J (BS Z F0 Z) (J (Az Z Z Z) (AD (A6 Z (λz=>?_) (λz=>?_)))))))))
     .have a:k<p.it.length:=BQ z;refine AW (AC (AZ (AC ?_)));have s:=kR a C;have B:=g3 _ (ϑ a);refine AE (AB Z Z (AD (AZ (BM (α:=Nat) (λj=>⟨151,[(1,(.ptr 1 0 0)),(9,(.d (AF (k:Int)))),(10,(.d (AF (j:Int))))],[(1,[Do 25 p])]⟩) (λj=>j<=p.it[k].af.length/\∀x∈p.it[k].af.take j,x∈p.it.map AJ.id) (λj=>p.it[k].af.length-j) (0) (⟨ζ _,by simp⟩) (AX t [1] Z Z ⟨Z,Z,Z,trivial⟩) ?_))));rintro j ⟨hj0,hj⟩;refine AC (AC (AE (ek Z Z (J (AK Z J5 Z Z Z) ?_))));refine J (AO Z Z Z DI Z) (ek Z Z (J (BC (k) Z Z (Z) (A1 a) F0 Z Cz Z) (J (ND Z QB Z Z Z) (J (CG Z Z BH Z) (J (BS Z E0 Z) (J (Az Z Z Z) (AD (A6 Z (λy=>?_) (λy=>?_)))))))))
      .have E:j<p.it[k].af.length:=BQ y;refine AW (AC ?_);refine AZ (AC (CK [[],[],[1],[],[1,2,3],[1,2,3,4],[1,2,3,4,5],[],[1,2,3,4,5,6,7],[1,2,3,4,5,6,7,8],rg 10,rg 11] mixed Z (By (Ao [1] Z Z (λ_=>Aa (Ay Z Z EE Z Z Z)) (AR [1] Z (AK Z J5 Z Z Z) (Ao [140] Z Z (λ_=>Aa (AO Z Z Z DI Z)) (Ap 9 Z Z (AR [141,142] Z (BC (k) Z Z (Z) (A1 a) F0 Z Cz Z) ?_))))))));refine AR [143] Z (ND Z QB Z Z Z) (AR [144] Z (CG Z Z BH Z) (Ap 10 Z Z (AR [145,146] Z (BC (j) Z Z (Z) (A1 E) E0 Z BW Z) (AR [147] Z (CG Z Z Am Z) (Bu 10 Z Z Z (Ab 11 Z Z (J (Au (WX p p.it[k].af[j] (by omega)) Z Z) (AD ⟨Z,?_⟩))))))));refine Ab 12 Z Z (J (Az Z Z Z) (AD ⟨Z,?_⟩));refine Bz (A6 Z (λw=>?_) (λw=>?_))
       .refine AC (AE (AB Z Z (AD (A2 ?_))));exact ⟨_,[],[],A0 Z,Z,Z,Ae (R9 c u P (s.2 9 (by unfold Pw;rw[ς (List.any_eq_true.2 ⟨_,ϑ E,by unfold Ib;rw[gp (Xn w)];rfl⟩)]) (by decide))),Z⟩
       .refine AW (AE (ek Z Z (J (Aj Z Z (AN (j+1) (by omega)) Z) (AB Z Z (AD ?_)))));exact ⟨j+1,⟨by show j+1<=_;omega,by rw[ψ E];intro x D;rcases ϖ.1 D with D | D;exact hj x D;rw[θ.1 D];exact WN (by simpa using w)⟩,by show p.it[k].af.length-(j+1)<p.it[k].af.length-j;omega,AX t [1] Z (Z) ⟨Z,Z,Z,trivial⟩⟩
      .have Q:¬p.it[k].af.any (Ib (p.it.map AJ.id))=true:=by rw[List.any_eq_true];rintro ⟨x,D,hn⟩;have S:=hj x (by rw[η (by have h:=y;omega)];exact D);simp[Ib,S] at hn
       refine Aw (AE (ek Z Z (J (Aj Z Z (AN (k+1) (by omega)) Z) (AB Z Z (AD ?_)))));exact ⟨k+1,⟨by show k+1<=_;omega,s.1 (by unfold Pw;rw[κ Q])⟩,by show p.it.length-(k+1)<p.it.length-k;omega,AX t [1] Z (Z) ⟨Z,Z,trivial⟩⟩
     .refine Aw (AC (AE (AB Z Z (AD (A2 ?_)))));exact ⟨_,[],[],A0 Z,Z,Z,Ae (R9 c u P (by rw[C,DL (by have h:=z;omega)])),Z⟩
def ML:List AJ->AJ->List AJ
 | [],x=> [x]
 | a::l,x=>if ∀y∈a::l,ES x y<0 then x::a::l else a::ML l x
theorem Rr:∀{l:List AJ} {x:AJ} {k:Nat},k<=l.length->(∀y∈l.drop k,ES x y<0)->(∀(_:0<k) y,l[k-1]? =some y->¬ES x y<0)->ML l x=(l.take k++ [x])++l.drop k
 | [],x,0,_,_,_=>rfl
 | [],x,k+1,h,_,_=>by simp at h
 | a::l,x,0,_,h,_=>by simp only[ML];rw[ς (by simpa using h)];rfl
 | a::l,x,k+1,o,h,g=>by
  have b:k<=l.length:=by simpa using o
  have f:k<(a::l).length:=Nat.lt_succ_of_le b;have j:¬∀y∈a::l,ES x y<0:=λc=>g (by omega) _ (ω f) (c _ (ϑ f));simp only[ML]
  rw[κ j,Rr (k:=k) b (by simpa using h) λr y i=>g (by omega) y (by
   obtain ⟨m,rfl⟩:∃m,k=m+1:=⟨k-1,by omega⟩
   simpa using i)]
  simp
def BN(l:List AJ):List AJ:=l.foldl ML []
theorem dl(l:List AJ)(x:AJ):(ML l x).length=l.length+1:=by
 induction l with
 | nil=>rfl
 | cons a l b=>
  grind[ML]
theorem Fh(l:List AJ)(x:AJ):BN (l++ [x])=ML (BN l) x:=by simp[BN]
theorem aW(l:List AJ):(BN l).length=l.length:=by
 induction l using aN with
 | h0=>rfl
 | h1 l x a=>rw[Fh,dl,a];simp
theorem TV(l:List AJ)(x:l.length<=1000):AL prog 61 [.d (.sl none (l.map Af))] (.sl none ((BN l).map Af)):=by
 refine Av func61 Z Z ntmps61 Z Z Z λF t=>(AC ?_);refine AE (AB Z Z (AD (AC (AE (AB Z Z (AD (AC (AC ?_))))))));refine VF 3 Z ?_;refine AE (AB Z Z (AD (AZ (BM (α:=Nat×List AJ) (λq=>⟨49,[(0,.d (.sl none (l.map Af))),(3,(.d (.sl none (q.2.map Af)))),(4,(.d (AF (q.1:Int))))],[]⟩) (λq=>q.1<=l.length/\q.2=BN (l.take q.1)) (λq=>l.length-q.1) ((0,[])) (⟨ζ _,Z⟩) (AX t [] Z Z ⟨Z,Z,Z,trivial⟩) ?_))));rintro ⟨k,a⟩ ⟨v,s⟩;dsimp only at v s⊢;refine AC (AC (AE (ek Z Z (ek Z Z (J (BS Z F0 Z) (J (Az Z Z Z) (AD (A6 Z (λo=>?_) (λo=>?_)))))))))
 .have g:k<l.length:=BQ o;refine AW (AC (AZ (AC ?_)));have w:a.length<=1000:=by rw[s,aW,ϱ];omega
  refine AE (ek Z Z (J (BS Z F0 Z) (AB Z Z (AD (AC (AZ (BM (α:=Nat) (λm=>⟨49,[(0,.d (.sl none (l.map Af))),(3,(.d (.sl none (a.map Af)))),(4,(.d (AF (k:Int)))),(5,(.d (AF (m:Int))))],[]⟩) (λm=>m<=a.length/\∀y∈a.drop m,ES l[k] y<0) (λm=>m) (a.length) (⟨Γ _,by simp⟩) (AX t [] Z Z ⟨Z,Z,Z,Z,trivial⟩) ?_)))))));rintro m ⟨r,u⟩;refine AC (AC (CK [[],[0],[0,1],[0,1,2],[0,1,2],rg 5,rg 6,[0,1,2],[0,1,2],[0,1,2,8],[0,1,2,7,8,9],[0,1,2,7,8,9,10],rg 12,rg 13] mixed Z (Ab 1 Z Z (ek Z Z (AD ⟨Z,?_⟩)))));refine Ab 2 Z Z (J (HV Z Z Z) (AD ⟨Z,?_⟩));refine Ab 3 Z Z (ek Z Z (CU 17 Z (λj=>?_) (λj=>?_)))
  .refine AD ⟨Z,?_⟩;refine By ?_
   try have f:m-1<a.length:=by have h:=j;omega
   refine Aq [0,17] [] Z Z (λ_=>Cq Z Z Z (Pe Z Z)) (Aq [4,17] [] Z Z (λ_=>Cq Z Z Z (Pe Z Z)) (Aq [18,19,17] [] Z Z (λ_=>Cq Z Z Z (BC (k) Z Z (Z) (A1 g) F0 Z Cz Z)) (Aq [20,17] [] Z Z (λ_=>Cq Z Z Z (C7 Z Z G8 Z)) (Aq [3,17] [] Z Z (λ_=>Cq Z Z Z (Pe Z Z)) ?_))));refine Aq [5,17] [] Z Z (λ_=>Cq Z Z Z (Pe Z Z)) (Aq [23,17] [] Z Z (λ_=>Cq Z Z Z (P4 Z Z (show IntKind.i64.wrap ((m:Int)-1)=((m-1:Nat):Int) from by rw[show ((m-1:Nat):Int)=(m:Int)-1 by omega];exact Ξ _ (by omega)) Z)) (Aq [22,24,17] [] Z Z (λ_=>Cq Z Z Z (BC (m-1) Z Z (Z) (A1 f) F0 Z Cz Z)) (Aq [25,17] [] Z Z (λ_=>Cq Z Z Z (C7 Z Z G8 Z)) (Bu 12 Z Z Z (Ab 13 Z Z (AQ Z Z Z (J (Au (TX l[k] a[m-1]) Z Z) (AD ⟨Z,?_⟩))))))));refine Ab 14 Z Z (J (BZ Z Z Z Z) (AD ⟨Z,?_⟩));refine Bz (A6 Z (λi=>?_) (λi=>?_))
   .refine AW (AZ (AE (ek Z Z (J (P4 Z Z (show IntKind.i64.wrap ((m:Int)-1)=((m-1:Nat):Int) from by rw[show ((m-1:Nat):Int)=(m:Int)-1 by omega];exact Ξ _ (by omega)) Z) (AB Z Z (AD ?_))))));exact ⟨m-1,⟨by show m-1<=_;omega,by rw[kY f];intro y b;rcases Υ.1 b with b | b;rw[b];exact i;exact u y (by rw[show m-1+1=m by omega] at b;exact b)⟩,by show m-1<m;omega,AX t [] Z (Z) ⟨Z,Z,Z,Z,trivial⟩⟩
   .refine Aw (AC ?_);have c:∀(h:0<m) y,a[m-1]? =some y->¬ES l[k] y<0:=by first | (intro h y b;exact absurd h (by omega)) | (intro h y b;rw[ω f] at b;injection b with b;rw[<-b];exact i)
    refine AE (V (C1 20 J7 Z Z Z Z Z Z Z Z) (ek Z Z (ek Z Z (J (kS (a) (m) Z Z Z (Z) (by omega) F0 Cz (λ_=>rfl) Z) (V (QD (([]:List AJ)) (a.take m) Z Z Z Z Z Z (λ_=>rfl) J7 (by simp only[jO,ϱ];omega) Z Z Z Z) (AB Z Z ?_))))));refine AD (AC (AE (ek Z Z (ek Z Z (ek Z Z (J (BC (k) Z Z (Z) (A1 g) F0 Z Cz Z) (J (C7 Z Z G8 Z) (V (C1 21 J7 Z Z Z Z Z Z Z Z) ?_))))))));refine V (Ev (([]++a.take m)) ([l[k]]) Z Z Z Z Z Z Z Z J7 (by simp only[jR,υ,ϱ];omega) Z Z Z Z) ?_;refine AB Z Z (AD (AE (ek Z Z (ek Z Z (ek Z Z (J (D2 (a) (m) Z Z Z (Z) (by omega) F0 Cz (λ_=>rfl) Z) ?_))))));refine V (QD ((([]++a.take m)++ [l[k]])) (a.drop m) Z Z Z Z Z Z (λ_=>rfl) J7 (by simp only[jR,Δ,υ,ϱ,jT];omega) Z Z Z Z) ?_;refine VS (emb:=Af) 47 20 ((([]++a.take m)++ [l[k]])++a.drop m) Z Z Z Z Z Z Z (AB Z Z (AD (AE (ek Z Z (J (Aj Z Z (AN (k+1) (by omega)) Z) (AB Z Z (AD ?_)))))));exact ⟨(k+1,_),⟨by show k+1<=_;omega,by show _=BN (l.take (k+1));rw[ψ g,Fh,<-s,Rr r u c];rfl⟩,by show l.length-(k+1)<l.length-k;omega,AX t [] Z (Z) ⟨Z,Z,Z,trivial⟩⟩
  .refine AD ⟨Z,?_⟩;refine By ?_
   try have f:m-1<a.length:=by have h:=j;omega
   refine Aq [0,17] [] Z Z (λ_=>EJ Z Z Z Z) (Aq [4,17] [] Z Z (λ_=>EJ Z Z Z Z) (Aq [18,19,17] [] Z Z (λ_=>EJ Z Z Z Z) (Aq [20,17] [] Z Z (λ_=>EJ Z Z Z Z) ?_)));refine Aq [3,17] [] Z Z (λ_=>EJ Z Z Z Z) (Aq [5,17] [] Z Z (λ_=>EJ Z Z Z Z) (Aq [23,17] [] Z Z (λ_=>EJ Z Z Z Z) (Aq [22,24,17] [] Z Z (λ_=>EJ Z Z Z Z) (Aq [25,17] [] Z Z (λ_=>EJ Z Z Z Z) (Bu 12 Z Z Z (Ab 13 Z Z (AI Z Z Z Z (AD ⟨Z,?_⟩))))))));refine Ab 14 Z Z (J (Be Z Z Z Z) (AD ⟨Z,?_⟩));refine Bz (Cr Z Z (Aw (AC ?_)));have c:∀(h:0<m) y,a[m-1]? =some y->¬ES l[k] y<0:=by first | (intro h y b;exact absurd h (by omega)) | (intro h y b;rw[ω f] at b;injection b with b;rw[<-b];exact i)
   refine AE (V (C1 20 J7 Z Z Z Z Z Z Z Z) (ek Z Z (ek Z Z (J (kS (a) (m) Z Z Z (Z) (by omega) F0 Cz (λ_=>rfl) Z) (V (QD (([]:List AJ)) (a.take m) Z Z Z Z Z Z (λ_=>rfl) J7 (by simp only[jO,ϱ];omega) Z Z Z Z) (AB Z Z ?_))))));refine AD (AC (AE (ek Z Z (ek Z Z (ek Z Z (J (BC (k) Z Z (Z) (A1 g) F0 Z Cz Z) (J (C7 Z Z G8 Z) (V (C1 21 J7 Z Z Z Z Z Z Z Z) ?_))))))));refine V (Ev (([]++a.take m)) ([l[k]]) Z Z Z Z Z Z Z Z J7 (by simp only[jR,υ,ϱ];omega) Z Z Z Z) ?_;refine AB Z Z (AD (AE (ek Z Z (ek Z Z (ek Z Z (J (D2 (a) (m) Z Z Z (Z) (by omega) F0 Cz (λ_=>rfl) Z) ?_))))));refine V (QD ((([]++a.take m)++ [l[k]])) (a.drop m) Z Z Z Z Z Z (λ_=>rfl) J7 (by simp only[jR,Δ,υ,ϱ,jT];omega) Z Z Z Z) ?_;refine VS (emb:=Af) 47 20 ((([]++a.take m)++ [l[k]])++a.drop m) Z Z Z Z Z Z Z (AB Z Z (AD (AE (ek Z Z (J (Aj Z Z (AN (k+1) (by omega)) Z) (AB Z Z (AD ?_)))))));exact ⟨(k+1,_),⟨by show k+1<=_;omega,by show _=BN (l.take (k+1));rw[ψ g,Fh,<-s,Rr r u c];rfl⟩,by show l.length-(k+1)<l.length-k;omega,AX t [] Z (Z) ⟨Z,Z,Z,trivial⟩⟩
 .refine Aw (AC (AE (ek Z Z (AB Z Z (AD (A2 ?_))))));exact ⟨_,[],[],A0 Z,Z,Z,by rw[s,η (by have h:=o;omega)],Z⟩
theorem Wc(i:AJ)(x:i.po.length<=10000)(w:i.pa.length<=10000)(v:i.af.length<=10000):AL prog 93 [.d (Af i)] (Af i):=by
 refine Av func93 Z Z ntmps93 Z Z Z λF o=>(AC (AE (V (Bh 1 Z Z Z Z Z Z Z) (V (Bx 2 VW Z Z Z Z) (AD (AC ?_))))));refine CK [[],[0],[],[2],[],[4],[],[],[7],[6,7,8],rg 10,[],rg 12] mixed Z (By (AR [1] Z (AK Z Nr Z Z Z) (Ao [6] Z Z (λ_=>Aa (AO Z Z Z Am Z)) (AR [1] Z (AK Z SC Z Z Z) (Ao [8] Z Z (λ_=>Aa (AO Z Z Z Am Z)) (AR [1] Z (AK Z MS Z Z Z) (Ao [10] Z Z (λ_=>Aa (AO Z Z Z Am Z)) (F6 [] [3] [(12,_)] Z Z (λ_=>F7 (C1 3 BR Z Z Z Z Z Z Z Z)) (.inr ⟨12,_,Z,Z,Z,Z,Z⟩) Z Z Z Z Z ?_))))))));refine AR [1] Z (AK Z Dz Z Z Z) (Ao [13] Z Z (λ_=>Aa (AO Z Z Z BH Z)) (F6 [12,14] [3] [(15,_)] Z Z (λ_=>F7 (QD (([]:List Int)) (i.af) Z Z Z Z Z Z (λ_=>rfl) BR (by simp only[jO];omega) Z Z Z Z)) (.inr ⟨15,_,Z,Z,Z,Z,Z⟩) Z Z Z Z Z (AR [7,9,11,15] Z (E5 VW ul Z Z Z) (F6 [] [4] [(3,_)] Z Z (λ_=>F7 (Bx 4 VW Z Z Z Z)) (.inr ⟨3,_,Z,Z,Z,Z,Z⟩) Z Z Z Z Z (Bu 12 Z Z Z (Ab 13 Z Z (V (B3 Z Z Z Z Z Z Z Cz) (AD ⟨Z,?_⟩))))))));refine Bz ?_;refine AC (AC (VR (ys:=i.af.map AF) 4 0 5 3 Z Z Z (by simp) (η (by simp)) Z Z Z Z Z Z (Wh 4 0 3 901 pK Z Z Z Z Z Z Z (AE (AB Z Z (AD (AZ (BM (α:=List ED) (λb=>⟨60,[(1,(.ptr 1 0 0)),(2,(.ptr 2 0 0)),(3,(.ptr 4 0 0)),(4,(.d (AF (b.length:Int))))],[(901,[.rowD 192 4 (b.map BT)]),(1,[.blk 55 [.d (AF i.id),.d (AF i.pr),.d (AF i.sq),.d (.sl none (i.po.map BT)),.d (.sl none (i.pa.map C4)),.d (.sl none (i.af.map AF))]]),(2,[.blk 93 [.d (AF 0),.d (AF 0),.d (AF 0),Ez,Ez,Ez]]),(4,[.blk 93 [.d (AF i.id),.d (AF i.pr),.d (AF i.sq),.own 901 0 b.length,Ez,.d (.sl none (i.af.map AF))]])]⟩) (λb=>b=i.po.take b.length/\b.length<=i.po.length) (λb=>i.po.length-b.length) ([]) (⟨by simp,ζ _⟩) (AX o [901,1,2,4] Z Z ⟨Z,Z,Z,Z,trivial⟩) ?_))))))));rintro b ⟨s,u⟩;refine AC ?_;refine AC (AE (ek Z Z (J (AK Z EZ Z Z Z) (J (AO Z Z Z Pp Z) (J (BS Z dd Z) (J (Az Z Z Z) (AD (A6 Z (λj=>?_) (λj=>?_)))))))))
 .have c:b.length<i.po.length:=BQ j;refine AW (AC (AZ (CK [[],[0],[],[2],[],[2,3,4],[2,3,4,5],[2,3,4,5,6],[],[8],[],[8,9,10],[8,9,10,11],[8,9,10,11,12],[2,3,4,5,6,7,8,9,10,11,12,13],[2,3,4,5,6,7,8,9,10,11,12,13,14],rg 16,rg 17,rg 18] mixed Z (By (AR [3] Z (AK Z Ns Z Z Z) (Ao [24] Z Z (λ_=>Aa (AO Z Z Z Fn Z)) ?_))))));refine AR [1] Z (AK Z EZ Z Z Z) (Ao [26] Z Z (λ_=>Aa (AO Z Z Z Pp Z)) (Ap 4 Z Z (AR [27,28] Z (BC (b.length) Z Z (Z) (A1 c) dd Z Mh Z) (AR [29] Z (VK Z JY Z Z Z) (AR [30] Z (C7 Z Z bh Z) (AR [1] Z (AK Z EZ Z Z Z) (Ao [32] Z Z (λ_=>Aa (AO Z Z Z Pp Z)) (Ap 4 Z Z ?_))))))));refine AR [33,34] Z (BC (b.length) Z Z (Z) (A1 c) dd Z Mh Z) (AR [35] Z (ND Z Ng Z Z Z) (AR [36] Z (CG Z Z Fo Z) (AR [31,37] Z (E5 nj so Z Z Z) (F6 [38] [5] [(39,_)] Z Z (λ_=>F7 (C1 5 pK Z Z Z Z Z Z Z Z)) (.inr ⟨39,_,Z,Z,Z,Z,Z⟩) Z Z Z Z Z (Bu 16 Z Z Z (Ab 17 Z Z (V (Ev (b) ([i.po[b.length]]) Z Z Z Z Z Z Z Z pK (by simp only[υ];omega) Z Z Z Z) (AD ⟨Z,?_⟩))))))));refine Ab 18 Z Z (J (AK Z Ns Z Z Z) (AD ⟨Z,?_⟩));refine Ab 19 Z Z (V (B3 Z Z Z Z Z Z Z uY) (AD ⟨Z,?_⟩));refine Bz (AE (ek Z Z (J (Aj Z Z (KN b i.po[b.length] (by omega)) Z) (AB Z Z (AD ?_)))));exact ⟨b++ [i.po[b.length]],⟨GS s c,by rw[Δ];show b.length+1<=_;omega⟩,by rw[Δ];show i.po.length-(b.length+1)<i.po.length-b.length;omega,AX o [901,1,2,4] Z (Z) ⟨Z,Z,Z,Z,trivial⟩⟩
 .refine Aw (AC (AC ?_));have l:=I0 s (λh=>j (by omega));refine VR (ys:=i.po.map BT) 4 0 3 901 Z Z Z (by simp) (by rw[l];exact η (by simp)) Z Z Z Z Z Z (Wh 4 0 4 902 pJ Z Z Z Z Z Z Z (AE (AB Z Z (AD (AZ (BM (α:=List Jk) (λa=>⟨60,[(1,(.ptr 1 0 0)),(2,(.ptr 2 0 0)),(3,(.ptr 4 0 0)),(5,(.d (AF (a.length:Int))))],[(902,[.rowD 193 3 (a.map C4)]),(1,[.blk 55 [.d (AF i.id),.d (AF i.pr),.d (AF i.sq),.d (.sl none (i.po.map BT)),.d (.sl none (i.pa.map C4)),.d (.sl none (i.af.map AF))]]),(2,[.blk 93 [.d (AF 0),.d (AF 0),.d (AF 0),Ez,Ez,Ez]]),(4,[.blk 93 [.d (AF i.id),.d (AF i.pr),.d (AF i.sq),.d (.sl none (i.po.map BT)),.own 902 0 a.length,.d (.sl none (i.af.map AF))]])]⟩) (λa=>a=i.pa.take a.length/\a.length<=i.pa.length) (λa=>i.pa.length-a.length) ([]) (⟨by simp,ζ _⟩) (AX o [902,1,2,4] Z Z ⟨Z,Z,Z,Z,trivial⟩) ?_))))));rintro a ⟨r,t⟩;refine AC ?_;refine AC (AE (ek Z Z (J (AK Z Fx Z Z Z) (J (AO Z Z Z Tb Z) (J (BS Z dr Z) (J (Az Z Z Z) (AD (A6 Z (λg=>?_) (λg=>?_)))))))))
  .have k:a.length<i.pa.length:=BQ g;refine AW (AC (AZ (CK [[],[0],[],[2],[],[2,3,4],[2,3,4,5],[2,3,4,5,6],rg 8,rg 9,rg 10] mixed Z (By (AR [3] Z (AK Z Cp Z Z Z) (Ao [49] Z Z (λ_=>Aa (AO Z Z Z Ja Z)) (AR [1] Z (AK Z Fx Z Z Z) ?_)))))));refine Ao [51] Z Z (λ_=>Aa (AO Z Z Z Tb Z)) (Ap 5 Z Z (AR [52,53] Z (BC (a.length) Z Z (Z) (A1 k) dr Z Sr Z) (AR [54] Z (C7 Z Z bm Z) (F6 [55] [6] [(56,_)] Z Z (λ_=>F7 (C1 6 pJ Z Z Z Z Z Z Z Z)) (.inr ⟨56,_,Z,Z,Z,Z,Z⟩) Z Z Z Z Z (Bu 8 Z Z Z (Ab 9 Z Z (V (Ev (a) ([i.pa[a.length]]) Z Z Z Z Z Z Z Z pJ (by simp only[υ];omega) Z Z Z Z) (AD ⟨Z,?_⟩))))))));refine Ab 10 Z Z (J (AK Z Cp Z Z Z) (AD ⟨Z,?_⟩));refine Ab 11 Z Z (V (B3 Z Z Z Z Z Z Z uX) (AD ⟨Z,?_⟩));refine Bz (AE (ek Z Z (J (Aj Z Z (KN a i.pa[a.length] (by omega)) Z) (AB Z Z (AD ?_)))));exact ⟨a++ [i.pa[a.length]],⟨GS r k,by rw[Δ];show a.length+1<=_;omega⟩,by rw[Δ];show i.pa.length-(a.length+1)<i.pa.length-a.length;omega,AX o [902,1,2,4] Z (Z) ⟨Z,Z,Z,Z,trivial⟩⟩
  .refine Aw (AC ?_);have f:=I0 r (λh=>g (by omega));refine VR (ys:=i.pa.map C4) 4 0 4 902 Z Z Z (by simp) (by rw[f];exact η (by simp)) Z Z Z Z Z Z (AE (J (Ay Z Z G8 Z Z Z) (V (B3 Z Z Z Z Z Z Z Cz) (AD (A2 ?_)))));exact ⟨_,[],[],A0 Z,Z,Z,Z,Z⟩
def K8(l:List AJ)(r:AU):List Int:=(l.filter λi=>decide (CB i r<0)).map AJ.id
theorem Um(l:List ED)(b:l.length<=1000000):AL prog 86 [.d (.sl none (l.map BT))] (.sl none (l.map BT)):=by
 refine Av func86 Z Z ntmps86 Z Z Z λF c=>(AC ?_);refine AE (AB Z Z (YP 2 Z (AD (AC (AC (AE (ek Z Z (Fq 3 Z (λa=>?_) ?_))))))))
 .refine J (Eb dd Z Z) (AD (Bw Z (Z) (AC (AE (AB Z Z (YP 2 Z (AD (A2 ?_))))))));exact ⟨_,[],[],A0 Z,Z,Z,by first | (rw[a];done) | (rw[a]),rfl⟩
 .refine J (Eb dd Z Z) (AD ?_);refine Cr Z (Z) (AW (AC (AE (V (C1 20 Yq Z Z Z Z Z Z Z Z) (ek Z Z (V (QD (([]:List ED)) (l) Z Z Z Z Z Z (λ_=>rfl) Yq (by simp only[jO];omega) Z Z Z Z) (VS (emb:=BT) 7 20 ([]++l) Z Z Z Z Z Z Z (AB Z Z ?_))))))));skip;refine AD (A2 ?_);exact ⟨_,[],[],A0 Z,Z,Z,Z,Z⟩
theorem Ul(l:List Jk)(b:l.length<=1000000):AL prog 87 [.d (.sl none (l.map C4))] (.sl none (l.map C4)):=by
 refine Av func87 Z Z ntmps87 Z Z Z λF c=>(AC ?_);refine AE (AB Z Z (YP 2 Z (AD (AC (AC (AE (ek Z Z (Fq 3 Z (λa=>?_) ?_))))))))
 .refine J (Eb dr Z Z) (AD (Bw Z (Z) (AC (AE (AB Z Z (YP 2 Z (AD (A2 ?_))))))));exact ⟨_,[],[],A0 Z,Z,Z,by first | (rw[a];done) | (rw[a]),rfl⟩
 .refine J (Eb dr Z Z) (AD ?_);refine Cr Z (Z) (AW (AC (AE (V (C1 20 bZ Z Z Z Z Z Z Z Z) (ek Z Z (V (QD (([]:List Jk)) (l) Z Z Z Z Z Z (λ_=>rfl) bZ (by simp only[jO];omega) Z Z Z Z) (VS (emb:=C4) 7 20 ([]++l) Z Z Z Z Z Z Z (AB Z Z ?_))))))));skip;refine AD (A2 ?_);exact ⟨_,[],[],A0 Z,Z,Z,Z,Z⟩
theorem fI(l:List Int)(b:l.length<=1000000):AL prog 89 [.d (.sl none (l.map AF))] (.sl none (l.map AF)):=by
 refine Av func89 Z Z ntmps89 Z Z Z λF c=>(AC ?_);refine AE (AB Z Z (YP 2 Z (AD (AC (AC (AE (ek Z Z (Fq 3 Z (λa=>?_) ?_))))))))
 .refine J (Eb E0 Z Z) (AD (Bw Z (Z) (AC (AE (AB Z Z (YP 2 Z (AD (A2 ?_))))))));exact ⟨_,[],[],A0 Z,Z,Z,by first | (rw[a];done) | (rw[a]),rfl⟩
 .refine J (Eb E0 Z Z) (AD ?_);refine Cr Z (Z) (AW (AC (AE (V (C1 20 BR Z Z Z Z Z Z Z Z) (ek Z Z (V (QD (([]:List Int)) (l) Z Z Z Z Z Z (λ_=>rfl) BR (by simp only[jO];omega) Z Z Z Z) (VS (emb:=AF) 7 20 ([]++l) Z Z Z Z Z Z Z (AB Z Z ?_))))))));skip;refine AD (A2 ?_);exact ⟨_,[],[],A0 Z,Z,Z,Z,Z⟩
theorem mq(i:AJ)(c:i.po.length<=1000000)(b:i.pa.length<=1000000)(a:i.af.length<=1000000):AL prog 69 [.d (Af i)] (Af i):=by
 refine Av func69 Z Z ntmps69 Z Z Z λF f=>(AC (AE (V (Bh 1 Z Z Z Z Z Z Z) (V (Bx 2 FK Z Z Z Z) ?_))));refine AD (AC (CK [[],[0],[0,1],[],[3],rg 5,[],[6],rg 8,[0,1,2,3,4,6,7],rg 10,rg 11,rg 12,rg 13,rg 14] mixed Z (By (AR [1] Z (AK Z EZ Z Z Z) (Aq [3] [1] Z Z (λ_=>Aa (AO Z Z Z Pp Z)) (AR [4] Z (Au (Um i.po c) Z Z) (AR [1] Z (AK Z Fx Z Z Z) (Aq [6] [1] Z Z (λ_=>Aa (AO Z Z Z Tb Z)) ?_))))))));refine AR [7] Z (Au (Ul i.pa b) Z Z) (AR [1] Z (AK Z Dz Z Z Z) (Aq [9] [1] Z Z (λ_=>Aa (AO Z Z Z BH Z)) (AR [10] Z (Au (fI i.af a) Z Z) (AR [1] Z (AK Z EZ Z Z Z) (Bu 10 Z Z Z (Ab 11 Z Z (V (B3 Z Z Z Z Z Z Z pC) (AD ⟨Z,?_⟩))))))));refine Ab 12 Z Z (J (AK Z Fx Z Z Z) (AD ⟨Z,?_⟩));refine Ab 13 Z Z (V (B3 Z Z Z Z Z Z Z pB) (AD ⟨Z,?_⟩));refine Ab 14 Z Z (J (AK Z Dz Z Z Z) (AD ⟨Z,?_⟩));refine Ab 15 Z Z (V (B3 Z Z Z Z Z Z Z DD) (AD ⟨Z,?_⟩));refine Bz (AC (AE (J (Ay Z Z CM Z Z Z) (V (B3 Z Z Z Z Z Z Z Ch) (AD (A2 ?_))))));exact ⟨_,[],[],A0 Z,Z,Z,Z,Z⟩
theorem tc{a:Hp}{f:Nat}{o:AM}(h:fl a f=none)(b:Tk o=true:=by rfl):Cf a f o=some ((f,[o])::a):=by simp only[Cf,h,b]
theorem oN{b:Hp}{f:Nat}{x:List AM}:∀{a:List Nat},gA f a=false->Ba ((f,x)::b) a=Ba b a
 | [],_=>rfl
 | g::r,h=>by
  have i:Nat.beq f g=false:=by
   cases hb:Nat.beq f g with
   | false=>rfl
   | true=>
    have e:=iG hb;subst e
    simp[gA] at h
  have c:gA f r=false:=by
   cases hb:gA f r with
   | false=>rfl
   | true=>simp[gA,hb] at h
  simp only[Ba];rw[oN c];simp only[fl,i]
theorem Yh(l:List Nat):KX l l=true:=by
 have b:∀(l m:List Nat),(∀x∈l,x∈m)->KX l m=true:=λl=>by
  induction l with
  | nil=>intro m _;rfl
  | cons a r c=>intro m h;simp only[KX,gq];exact ⟨G5.2 (h a (by simp)),c m λx f=>h x (by simp[f])⟩
 grind
theorem E1{step:o->a->o×Bool}{r:List a}:IT step u (x::r)=if (step u x).2=true then IT step (step u x).1 r else (step u x).1:=by grind[IT]
def encI(x:AJ):List AV:=[.d (Af x)]
section
variable{β:Type}
theorem pN(a:List AJ)(y:a.length<=1000000)(l:Nat)(H:β->Hp)(N:List Nat)(step:β->AJ->β×Bool)(b:β)(o:∀c,iZ (H c)=N)(C:∀c,Fv N (H c)=true)(v:∀c,Ba (H c) N=some (H c))(B:∀c,A8 990 (H c)=some (H c))(z:∀c,fl (H c) 990=none)(A:gA 990 N=false)(u:NH prog l encI H step b a):
  AP prog 164 [.d (.raw (DO l)),.d (.ptr (.sl none (a.map Af)))] (H b) λr E=>r= .tup []/\E=H (IT step b a):=by
 refine Av func164 Z Z ntmps164 Z Z Z λF D=>(AC (AE (J (CG Z Z IR Z) (J (BS Z No Z) (ek Z Z (AD (AZ (Gi (α:=Nat×β) (λp=>⟨16,[(0,.d (.raw (DO l))),(5,(.d (.sl none (a.map Af)))),(6,(.d (AF (a.length:Int)))),(7,(.d (AF (p.1:Int))))],H p.2⟩) (λp=>p.1<=a.length/\NH prog l encI H step p.2 (a.drop p.1)/\IT step p.2 (a.drop p.1)=IT step b a) (λp=>a.length-p.1) ((0,b)) (⟨ζ _,u,Z⟩) (aV ⟨Z,Z,Z,Z,trivial⟩) ?_))))))));rintro ⟨k,c⟩ ⟨t,i,f⟩;dsimp only at t i f⊢;refine AC (AE (J (Az Z Z Z) (AD (AC (A6 Z (λx=>?_) (λx=>?_))))))
 .have s:k<a.length:=BQ x;refine AW (AC (AZ (AC (AE ?_))));have w:a.drop k=a[k]::a.drop (k+1):=kY s;rw[w] at i;refine J (BC (k) Z Z (Z) (A1 s) No Z Ch Z) (J (C7 Z Z CM Z) (V (Bx 990 FK Z (B _) (tc (z _)) Z) (V (B3 Z Z Z Z Z Z Z Ch) (AD (AC ?_)))));refine AE (ek Z Z (J (Ay Z Z CM Z Z Z) (pt [0,5,6,7,11,12] Z (pq N (D.trans (o b)) (Yh N) ((oN A).trans (v _)) (ci i.1 Z Z (by rw[o,o]) (by rw[o];exact C _) Z Z (J (NE Z Z) (AD (JC Z (λj=>?_) (λj=>?_)))))))))
  .have g:(step c a[k]).2=false:=by simpa using j
   refine A2 ?_;exact ⟨_,N,_,A0 Z,v _,by rw[<-o b];exact En _,Z,by rw[<-f,w,E1,κ (by rw[g];decide)]⟩
  .have g:(step c a[k]).2=true:=by simpa using j
   refine AW (AE (J (Aj Z Z (AN (k+1) (by omega)) Z) (ek Z Z (AD ?_))));exact ⟨(k+1,(step c a[k]).1),⟨by show k+1<=_;omega,i.2 g,by rw[<-f,w,E1,ς g]⟩,by show a.length-(k+1)<a.length-k;omega,⟨Z,Z,λ_ _=>Sd.get (l:=[(0,_),(5,_),(6,_),(7,_)]) ⟨Z,Z,Z,Z,trivial⟩⟩⟩
 .refine Aw ?_;exact ⟨_,N,_,A0 Z,v _,by rw[<-o b];exact En _,Z,by rw[<-f,kI (by have h:=x;omega)];rfl⟩
end
variable{a:List AJ}{c:List Nat}{f:List AV}{T:TypeId}{g:Hp}{F:Fr}
theorem SR.freezeB{s:AS}{H:Nat->Nat->Value}{z:Act}{w:World}(h:SR F s H z w)(t i:Nat)(x:D)(L:List Nat)(hF:F.pn=c)(ht:get s.env t=some (.ptr i 0 0))(J:fl s.hp i=some [.blk T f])(K:f=x.cells.map .d)(V:∀k∈x.cells,k.one=true)(hf:gA i L=false)(I:KX c L=true)(E:Ba s.hp L=some g):SR F ⟨s.n,(t,.d (.ptr x))::s.env,g⟩ H z w:=by
 have Q:=h.only L hF I E;refine ⟨Q.size,Q.defs,λt' a Y=>?_,Q.heap⟩;rcases Mc Y with ⟨rfl,rfl⟩ | ⟨_,Y⟩
 .have Z:=h.env t _ ht;have O:ey s.hp i 0=some (.blk T f):=by simp[ey,J,gl,iY]
  obtain ⟨b,A,R,e2,e3,e4,e5⟩:=h.heap.sim i 0 _ O;show A7 _ _ _ _ (z.tmps.getD t undef)
  generalize z.tmps.getD t undef=v at Z
  cases Z with
  | @ptr _ _ _ G C=>
   rw[R] at C;injection C with C;injection C with C;injection C with C;subst C
   have hO:∀G,F.O H g G->F.O H s.hp G:=λG r=>r.imp id λ⟨y,N,U,o,S⟩=>by
    obtain ⟨M,_⟩:=ER E;refine ⟨y,N,U,?_,S⟩;simp only[ey] at o⊢
    cases hh:fl g y with
    | none=>rw[hh] at o;cases o
    | some l=>rw[(M y l hh).2];rw[hh] at o;exact o
   have W:¬F.O H g b:=λr=>by
    rcases r with r | ⟨y,N,U,o,S⟩
    .exact h.heap.notOf ⟨i,0,_,O,by rw[R];rfl⟩ r
    .obtain ⟨M,_⟩:=ER E;simp only[ey] at o
     cases hh:fl g y with
     | none=>rw[hh] at o;cases o
     | some l=>
      have q3:ey s.hp y N=some U:=by simp only[ey];rw[(M y l hh).2];rw[hh] at o;exact o
      obtain ⟨e1',_⟩:=h.heap.inj y N i 0 _ _ b q3 O S (by rw[R];rfl);have:=G5.2 (M y l hh).1
      grind
   have B:A.length=x.cells.length:=by rw[e3,K,χ]
   refine .d (.ptr (λj=>A.getD j undef) (h.heap.ltO (.inr ⟨i,0,_,O,by rw[R];rfl⟩)) W V (λj k P=>?_) (λj k P=>?_))
   .have u:j<A.length:=by rw[B];exact (φ.1 P).1
    rw[i9,cell_of_row w b j A.toArray T (0,0) e2]
    simp[u]
   .have u:j<A.length:=by rw[B];exact (φ.1 P).1
    have X:=e4 j (.d k) A[j] (by rw[K,ν,P];rfl) (ω u);have hg:A.getD j undef=A[j]:=by simp[u]
    rw[hg]
    cases X with
    | d X=>exact X.mono (Γ _) (λ_ _ _=>rfl) λG _=>hO G
 .exact Q.env t' a Y
theorem Qb{P:Program}{Q:Exit->AS->Prop}{j:Array Oper}{A:List Oper}{z:Nat}{i:List (Nat×AV)}{u:Hp}(t a:Nat)(x:D)(o:List Nat)(H:F.pn=c)(C:get i t=some (.ptr a 0 0))(l:fl u a=some [.blk T f])(v:f=x.cells.map .d)(r:∀b∈x.cells,b.one=true)(G:gA a o=false)(k:KX c o=true)(s:Ba u o=some g)(h:Ak P F j A Q ⟨z,(t,.d (.ptr x))::i,g⟩):Ak P F j A Q ⟨z,i,u⟩:=λB y w E=>h B y w (E.freezeB t a x o H C l v r G k s)
theorem aj(a:List AJ):AP prog 121 [.d (.sl none (a.map Af))] [] λr g=>r= .fn 164 [.d (.ptr (.sl none (a.map Af)))]/\g=[]:=by
 refine Av func121 Z Z ntmps121 Z Z Z λF f=>(AC (AE (V (Bh 1 Z Z Z Z Z Z Z) ?_)));refine AB Z Z (AD (AC (AE (Qb 1 1 (.sl none (a.map Af)) [] f Z Z Z (by intro c b;simp[D.cells] at b;subst b;rfl) Z Z Z (J (rP Z Z) (AB Z Z (AD (A2 ?_))))))));exact ⟨_,[],[],A0 Z,Z,Z,Z,Z⟩
abbrev hV(q:List AJ):Hp:=[(920,[.rowD 55 6 (q.map Af)]),(1,[.blk 37 [.own 920 0 q.length]])]
def XB(q:List AJ)(x:AJ):List AJ×Bool:=(q++ [x],true)
theorem UY:∀(l q:List AJ),IT XB q l=q++l
 | [],q=>by simp[IT]
 | x::l,q=>by rw[E1];show (if true=true then IT XB (q++ [x]) l else _)=_;rw[ς Z,UY l];simp
theorem Qv{P:Program}{l:Nat}{H:List AJ->Hp}{n:Nat}(b:∀q x,q.length<n->Gk P l (encI x) (H q) λv c=>v= .d (.raw (.bool true))/\c=H (q++ [x])):∀(a q:List AJ),q.length+a.length<=n->NH P l encI H XB q a
 | [],_,_=>trivial
 | x::a,q,h=>⟨b q x (by simp at h;omega),λ_=>Qv b a (q++ [x]) (by simp at h⊢;omega)⟩
theorem fW(a:List AJ)(b:a.length<=1000000):AP prog 210 [.d (.sl (some true) []),.fn 164 [.d (.ptr (.sl none (a.map Af)))]] [] λr g=>r= .own 920 0 a.length/\g=[(920,[.rowD 55 6 (a.map Af)])]:=by
 refine P2 func210 Z Z ntmps210 Z Z Z λF f c=>(AC (AE (V (Bh 1 Z Z Z Z Z Z Z) ?_)));refine AB Z Z (AD (AC (AC (Wh 1 0 0 920 Lh Z Z Z Z Z Z Z (AE (ek Z Z (AD (AZ ?_))))))));refine fh [2,6] Z ?_;refine YN (γ:=Unit) c 900 Z Z Z Z Z [1,920] (CHr:=hV []) (λ_=>True) (λ_=>hV a) (λ_=> .ready) (λ_=>none) ⟨Z,Z,trivial⟩ Z Z Z (λ_=>rfl) (λ_=>rfl) Z (λ_ _=>by simp) (λ_ _=>⟨Z,Z⟩) [920,1] f Z Z (λ_ _=>rfl) (λl A B i h=>?_) (λ_ _=>?_)
 .refine (pN a b l (λq:List AJ=>(900,[.loop ⟨l,13,[(2,.ptr 1 0 0),(6,.fn 164 [.d (.ptr (.sl none (a.map Af)))])],.ready,none, #[7],A,B⟩])::hV q) [900,920,1] XB [] (λ_=>rfl) (λ_=>rfl) (λ_=>rfl) (λ_=>rfl) (λ_=>rfl) Z ?_).mono (λr g ⟨k,j⟩=>⟨k,(),trivial,by rw[j,UY];rfl⟩);refine Qv (n:=a.length) (λq x s=>?_) a [] (by simp);refine Si (lf:=900) Z Z Z Z λF f o=>?_;show CD _ _ A _ _;rw[i];refine AE (V (Bx 2 FK Z Z Z Z) (V (B3 Z Z Z Z Z Z Z Ch) (AD (⟨Z,_,_,Z,Z,Z,Z,?_⟩))));show CD _ _ B _ _;rw[h];refine AZ (AE (J (AO Z Z Z IR Z) (J (Ay Z Z CM Z Z Z) (V (C1 30 Lh Z Z Z Z Z Z Z Z) (V (Ev (q) ([x]) Z Z Z Z Z Z Z Z Lh (by simp only[υ];omega) Z Z Z Z) (V (B3 Z Z Z Z Z Z Z kn) (AD ?_)))))));exact ⟨none,_,_,[900,920,1],_,Z,Z,Z,Z,Z,Z,Z,Z⟩
 .refine AC (AE (J (AO Z Z Z IR Z) (AB Z Z (AD (A2 ?_)))));exact ⟨_,[920],_,A0 Z,Z,Z,Z,Z⟩
theorem io(l:List AJ)(x:AJ):(ML l x).Perm (x::l):=by
 induction l with
 | nil=>exact List.Perm.refl _
 | cons a l b=>
  grind[ML]
theorem UL(h:a.Pairwise λc b=>¬ES b c<0)(x:AJ):(ML a x).Pairwise λc b=>¬ES b c<0:=by
 induction a with
 | nil=>simp[ML]
 | cons c a k=>
  rw[jQ] at h;simp only[ML]
  split
  .rename_i g
   exact jQ.2 ⟨λy i=>by have s:=g y i;have r:=Dq.anti x y;omega,jQ.2 h⟩
  .rename_i o
   refine jQ.2 ⟨λy i=>?_,k h.2⟩;rcases Υ.1 ((io a x).mem_iff.1 i) with rfl | i
   .intro f;refine o λz j=>?_;rcases Υ.1 j with rfl | j
    .exact f
    .have s:=h.1 z j;have r:=Dq.anti c z
     by_cases e:ES c z=0
     .have v:=Dq.eqv c z y e;have u:=Dq.anti c y;have t:=Dq.anti z y;omega
     .exact Dq.trans _ _ _ f (by omega)
   grind
theorem aQ(l:List AJ):(BN l).Perm l:=by
 induction l using aN with
 | h0=>exact List.Perm.refl _
 | h1 l x a=>
  grind[Fh,io]
theorem R0(l:List AJ):(BN l).Pairwise λa b=>¬ES b a<0:=by
 induction l using aN with
 | h0=>exact List.Pairwise.nil
 | h1 l x c=>rw[Fh];exact UL c x
theorem ZO{a b:AJ}(h:ES a b=0):a.sq=b.sq:=by
 unfold ES at h;simp only[BO] at h
 split at h
 .split at h
  .rename_i c;exact RD.1 c
  omega
 omega
theorem QK(f:(a.map AJ.sq).Nodup)(h:a.Pairwise λc b=>¬ES b c<0):a.Pairwise λc b=>ES c b<0:=by
 rw[List.Nodup,ig] at f;refine (h.and f).imp λ{c b} ⟨j,i⟩=>?_;have g:=Dq.anti c b
 grind[ZO]
theorem XQ{c f:List AJ}(g:(c.map AJ.sq).Nodup)(h:f.Perm c)(i:f.Pairwise λa b=>¬ES b a<0):f=BN c:=
 DP (R:=λa b=>ES a b<0) (λx=>by rw[Dq.refl];omega) (λx y z=>Dq.trans x y z) (QK ((h.map _).nodup_iff.2 g) i) (QK (((aQ c).map _).nodup_iff.2 g) (R0 c)) λx=>by rw[h.mem_iff,(aQ c).mem_iff]
theorem UG(x:AJ):∃a,Af x= .agg a:=⟨_,Z⟩
abbrev s4(its:List AJ):AV:= .fn 164 [.d (.ptr (.sl none (its.map Af)))]
theorem Zu(a:List AJ)(b:a.length<=1000000):AP prog 163 [s4 a] [] λr c=>r= .own 920 0 a.length/\c=[(920,[.rowD 55 6 (a.map Af)])]:=by
 refine Av func163 Z Z ntmps163 Z Z Z λF f=>(AC (AE ?_));refine AB Z Z (AD (AC (AE (ek Z Z (V (FH (fW a b) Z [920] ⟨Z,trivial⟩ Z Z Z Z Z Z Z Z Z) (AB Z Z (AD (A2 ?_))))))));exact ⟨_,[920],_,A0 Z,Z,Z,Z,Z⟩
theorem Ym(a:List AJ)(b:a.length<=1000000)(c:(a.map AJ.sq).Nodup):AL prog 120 [s4 a,.d (.raw (.func (.func 122) #[] #[]))] (.sl none ((BN a).map Af)):=by
 refine Av func120 Z Z ntmps120 Z Z Z λF i=>(AC (AE (AB Z Z (AD (AC ?_)))));refine AE (ek Z Z (V (FH (Zu a b) Z [920] ⟨Z,trivial⟩ Z Z Z Z Z Z Z Z Z) (AB Z Z (AD (AC (AE (ek Z Z (ek Z Z ?_))))))));refine V (NV oV (k:=6) (by decide) isAgg55 sizeOf55 func122 Z Z UG ES Dq.swo a (BN a) (by omega) (λx _ y _=>XP x y) (λh g f=>XQ c g f) Z Z Z MT Z Z Z Z Z) (AD (AC (KL (emb:=Af) 5 920 (BN a) Z Z Z (aW a).symm Z Z Z (AE (ek Z Z (AB Z Z (AD (A2 ?_))))))));exact ⟨_,[],[],A0 Z,Z,Z,Z,Z⟩
theorem Mq(h:FA a=0):(a.map AJ.sq).Nodup:=by
 have f:=VI.1 h;rw[List.Nodup,ig,ia];intro i j g b c e;have:=f j (Ψ.2 b)
 grind[Jy,Gc]
theorem P6{p:gB}(h:BB p=0):Dn p.ro=0/\FA p.it=0/\P1 p.it=0:=by
 unfold BB at h
 split at h; · cases h
 have a:=HK h
 simp_all
def gC(p:gB):List AJ:=if BB p=0 then BN p.it else []
theorem Lt(p:gB)(f:E6 p):AL prog 68 [.d (Bf p)] (.sl none ((gC p).map Af)):=by
 have a:=HC p f;obtain ⟨_,h,_⟩:=f
 by_cases b:BB p=0
 rw[b] at a;have c:gC p=BN p.it:=ς b;rw[c];refine Av func68 Z Z ntmps68 Z Z Z λF g=>(AC (AE (V (Bh 1 Z Z Z Z Z Z Z) ?_)));refine AB Z Z (AD (AC (AC (AE (J (Ay Z Z Bp Z Z Z) (J (Au (a) Z Z) (J (C6 Z Z Z) (AD ?_))))))));refine Cr Z ((by decide)) (AW (AC (AE (J (AK Z Cc Z Z Z) (J (AO Z Z Z IR Z) (V (FH (aj p.it) Z [] trivial Z Z Z Z Z Z Z Z Z) (J (Au (Ym p.it (by omega) (Mq (P6 b).2.1)) Z Z) (AB Z Z ?_))))))))
 rotate_left
 have c:gC p=[]:=κ b;rw[c];refine Av func68 Z Z ntmps68 Z Z Z λF g=>?_;refine AC (AE (V (Bh 1 Z Z Z Z Z Z Z) (AB Z Z (YP 2 Z (AD (AC (AC (AE ?_))))))));refine J (Ay Z Z Bp Z Z Z) (J (Au (a) Z Z) (J (C6 Z Z Z) (AD (Bw Z ((by simpa using b)) (AC (AE (AB Z Z (YP 2 Z ?_))))))))
 all_goals
  refine AD (A2 ?_);exact ⟨_,[],[],A0 Z,Z,Z,Z,Z⟩
theorem Dp(p:gB):(gC p).length<=p.it.length:=by unfold gC;split<;>simp[aW]
theorem Ia{p:gB}{i:AJ}(h:i∈gC p):i∈p.it:=by grind[gC,aQ]
theorem I9(p:gB)(l:E6 p):AL prog 33 [.d (Bf p)] (.sl none (((gC p).map AJ.id).map AF)):=by
 have c:=Lt p l;have f:=Dp p;have r:=l.2.1
 obtain ⟨S,t⟩:∃S,gC p=S:=⟨_,Z⟩
 rw[t] at c f⊢;refine Av func33 Z Z ntmps33 Z Z Z λF o=>(AC (AE ?_));refine V (Bh 1 Z Z Z Z Z Z Z) (AB Z Z (AD (AC (AE (AB Z Z (AD (AC (AC ?_))))))));refine NF 3 900 BR Z Z Z Z (AE (J (Ay Z Z Bp Z Z Z) (J (Au (c) Z Z) (J (BS Z No Z) (ek Z Z (AD (AZ (BM (α:=Nat×List Int) (λq=>⟨20,[(3,(.own 900 0 q.2.length)),(7,(.d (.sl none (S.map Af)))),(8,(.d (AF (S.length:Int)))),(9,(.d (AF (q.1:Int))))],[(900,[.rowD 3 1 (q.2.map AF)])]⟩) (λq=>q.1<=S.length/\q.2=(S.take q.1).map AJ.id) (λq=>S.length-q.1) ((0,[])) (⟨ζ _,Z⟩) (AX o [900] Z Z ⟨Z,Z,Z,Z,trivial⟩) ?_))))))));rintro ⟨k,b⟩ ⟨j,i⟩;dsimp only at j i⊢;refine AC (AE (J (Az Z Z Z) (AD (AC (A6 Z (λa=>?_) (λa=>?_))))))
 .have g:k<S.length:=BQ a;refine AW (AC (AZ (AC (AE ?_))));have s:b.length<=100000:=by rw[i,χ,ϱ];omega
  refine J (BC (k) Z Z (Z) (A1 g) No Z Ch Z) (J (C7 Z Z CM Z) (V (Bx 2 FK Z Z Z Z) (V (B3 Z Z Z Z Z Z Z Ch) (AD (AE (ek Z Z (J (AK Z Nr Z Z Z) ?_)))))));refine J (AO Z Z Z Am Z) (V (C1 3 BR Z Z Z Z Z Z Z Z) (V (Ev (b) ([S[k].id]) Z Z Z Z Z Z Z Z BR (by simp only[υ];omega) Z Z Z Z) (AB Z Z (AD (AE (J (Aj Z Z (AN (k+1) (by omega)) Z) (ek Z Z (AD ?_))))))));exact ⟨(k+1,_),⟨by show k+1<=_;omega,by show _=(S.take (k+1)).map AJ.id;rw[EL g,<-i]⟩,by show S.length-(k+1)<S.length-k;omega,AX o [900] Z (Z) ⟨Z,Z,Z,Z,trivial⟩⟩
 .refine Aw (AC (KL (emb:=AF) 3 900 b Z Z Z Z Z Z Z (AE (ek Z Z (AB Z Z (AD (A2 ?_)))))));exact ⟨_,[],[],A0 Z,Z,Z,by rw[i,η (by have h:=a;omega)],Z⟩
theorem lJ(p:gB)(r:AU)(t:E6 p):AL prog 173 [.d (Bf p),.d (Bc r)] (.sl none ((K8 (gC p) r).map AF)):=by
 have j:=Lt p t;have l:=Dp p;have x:=t.2.1;have b:∀i∈gC p,i.po.length<=100000/\i.pa.length<=100000/\i.af.length<=100000:=λi v=>t.2.2 i (Ia v)
 obtain ⟨S,z⟩:∃S,gC p=S:=⟨_,Z⟩
 rw[z] at j l b⊢;refine Av func173 Z Z ntmps173 Z Z Z λF u=>(AC (AE (V (Bh 1 Z Z Z Z Z Z Z) ?_)));refine V (Bh 2 Z Z Z Z Z Z Z) (AB Z Z (AD (AC (AE (AB Z Z (AD (AC (AC ?_))))))));refine NF 5 900 BR Z Z Z Z (AE (J (Ay Z Z Bp Z Z Z) (J (Au (j) Z Z) (J (BS Z No Z) (ek Z Z (AD (AZ (BM (α:=Nat×List Int) (λq=>⟨26,[(3,(.ptr 2 0 0)),(5,(.own 900 0 q.2.length)),(9,(.d (.sl none (S.map Af)))),(10,(.d (AF (S.length:Int)))),(11,(.d (AF (q.1:Int))))],[(2,[.blk 64 [.d (AF r.k),.d (An r.acc.o),.d (AF r.acc.k),.d (An r.acc.a),.d (An r.f),.d (An r.t)]]),(900,[.rowD 3 1 (q.2.map AF)])]⟩) (λq=>q.1<=S.length/\q.2=K8 (S.take q.1) r) (λq=>S.length-q.1) ((0,[])) (⟨ζ _,Z⟩) (AX u [2,900] Z Z ⟨Z,Z,Z,Z,Z,trivial⟩) ?_))))))));rintro ⟨k,g⟩ ⟨s,o⟩;dsimp only at s o⊢;refine AC (AE (J (Az Z Z Z) (AD (AC (A6 Z (λf=>?_) (λf=>?_))))))
 .have a:k<S.length:=BQ f;refine AW (AC (AZ (AC (AE ?_))));have w:=b _ (ϑ a);have y:g.length<=100000:=by rw[o];unfold K8;rw[χ];have:=iI (λi=>decide (CB i r<0)) (S.take k);rw[ϱ] at this;omega
  refine J (BC (k) Z Z (Z) (A1 a) No Z Ch Z) (J (C7 Z Z CM Z) (V (Bx 3 FK Z Z Z Z) (V (B3 Z Z Z Z Z Z Z Ch) ?_)));refine AD (AC (AE (J (Ay Z Z CM Z Z Z) (J (Ay Z Z C9 Z Z Z) (J (Au (YE S[k] r (by omega) (by omega) (by omega)) Z Z) (J (Az Z Z Z) (AD (A6 Z (λc=>?_) (λc=>?_)))))))))
  .refine AE (ek Z Z (J (AK Z Nr Z Z Z) ?_));refine J (AO Z Z Z Am Z) (V (C1 4 BR Z Z Z Z Z Z Z Z) (V (Ev (g) ([S[k].id]) Z Z Z Z Z Z Z Z BR (by simp only[υ];omega) Z Z Z Z) (AB Z Z (AD (AE (J (Aj Z Z (AN (k+1) (by omega)) Z) (ek Z Z (AD ?_))))))));exact ⟨(k+1,_),⟨by show k+1<=_;omega,by show _=K8 (S.take (k+1)) r;unfold K8;rw[Es a,ς (by simpa using c),Ω,o];rfl⟩,by show S.length-(k+1)<S.length-k;omega,AX u [2,900] Z (Z) ⟨Z,Z,Z,Z,Z,trivial⟩⟩
  .refine AW (AE (J (Aj Z Z (AN (k+1) (by omega)) Z) (ek Z Z (AD ?_))));exact ⟨(k+1,_),⟨by show k+1<=_;omega,by show _=K8 (S.take (k+1)) r;unfold K8;rw[Es a,κ (by simpa using c),iR,o];rfl⟩,by show S.length-(k+1)<S.length-k;omega,AX u [2,900] Z (Z) ⟨Z,Z,Z,Z,Z,trivial⟩⟩
 .refine Aw (AC (KL (emb:=AF) 5 900 g Z Z Z Z Z Z Z (AE (ek Z Z (AB Z Z (AD (A2 ?_)))))));exact ⟨_,[],[],A0 Z,Z,Z,by rw[o,η (by have h:=f;omega)],Z⟩
def Ol(l:List AJ)(id:Int):AJ×Bool:=match l.find? λx=>decide (x.id=id) with
 | some x=>(x,true)
 | none=>(Ag,false)
theorem UI{id:Int}{k:Nat}(b:k<a.length)(c:id∉(a.take k).map AJ.id)(h:a[k].id=id):Ol a id=(a[k],true):=by
 have:a.find? (λx=>decide (x.id=id))=some a[k]:=by
  grind[List.find?_eq_some_iff_getElem,Gc]
 unfold Ol;rw[this]
theorem dg{id:Int}(h:id∉a.map AJ.id):Ol a id=(Ag,false):=by grind[Ol]
theorem Zg:∀w O v,AY w O (.agg [AF 0,AF 0,AF 0,.sl (some true) [],.sl (some true) [],.sl (some true) []]) v->AY w O (Af Ag) v:=λw O v h=>h.aggMono Z (by simp[D.one]) λi c g b a v f=>by
 match i,b,a with
 | 0,b,a=>injection b with b;injection a with a;subst b a;exact f
 | 1,b,a=>injection b with b;injection a with a;subst b a;exact f
 | 2,b,a=>injection b with b;injection a with a;subst b a;exact f
 | 3,b,a=>injection b with b;injection a with a;subst b a;exact f.anyNil
 | 4,b,a=>injection b with b;injection a with a;subst b a;exact f.anyNil
 | 5,b,a=>injection b with b;injection a with a;subst b a;exact f.anyNil
theorem qT(p:gB)(id:Int)(o:E6 p):AL prog 24 [.d (Bf p),.d (AF id)] (.tup [Af (Ol (gC p) id).1,Ah (Ol (gC p) id).2]):=by
 have g:=Lt p o;have j:=Dp p;have v:=o.2.1;have b:∀i∈gC p,i.po.length<=100000/\i.pa.length<=100000/\i.af.length<=100000:=λi t=>o.2.2 i (Ia t)
 obtain ⟨S,w⟩:∃S,gC p=S:=⟨_,Z⟩
 rw[w] at g j b⊢;refine Av func24 Z Z ntmps24 Z Z Z λF r=>(AC (AE (V (Bh 1 Z Z Z Z Z Z Z) (V (Bx 2 FK Z Z Z Z) (AB Z Z (AD (AC ?_)))))));refine AC (AE (J (Ay Z Z Bp Z Z Z) (J (Au (g) Z Z) (J (BS Z No Z) (ek Z Z (AD (AZ (BM (α:=Nat) (λk=>⟨23,[(1,.d (AF id)),(4,(.ptr 2 0 0)),(9,(.d (.sl none (S.map Af)))),(10,(.d (AF (S.length:Int)))),(11,(.d (AF (k:Int))))],[(2,[.blk 55 [.d (AF 0),.d (AF 0),.d (AF 0),Ez,Ez,Ez]])]⟩) (λk=>k<=S.length/\id∉(S.take k).map AJ.id) (λk=>S.length-k) (0) (⟨ζ _,by simp⟩) (AX r [2] Z Z ⟨Z,Z,Z,Z,Z,trivial⟩) ?_))))))));rintro k ⟨s,l⟩;refine AC (AE (J (Az Z Z Z) (AD (AC (A6 Z (λf=>?_) (λf=>?_))))))
 .have a:k<S.length:=BQ f;refine AW (AC (AZ (AC (AE ?_))));have u:=b _ (ϑ a);refine J (BC (k) Z Z (Z) (A1 a) No Z Ch Z) (J (C7 Z Z CM Z) (V (Bx 3 FK Z Z Z Z) (V (B3 Z Z Z Z Z Z Z Ch) ?_)));refine AD (AC (AE (J (AK Z Nr Z Z Z) (J (AO Z Z Z Am Z) (ek Z Z (J (GR Z Z Z) (AD (A6 Z (λc=>?_) (λc=>?_)))))))))
  .refine AC (AE (J (Ay Z Z CM Z Z Z) (J (Au (mq S[k] (by omega) (by omega) (by omega)) Z Z) (V (B3 Z Z Z Z Z Z Z Ch) (AB Z Z (AD (A2 ?_)))))));exact ⟨_,[],[],A0 Z,Z,Z,by rw[UI a l c],Z⟩
  .refine AW (AE (J (Aj Z Z (AN (k+1) (by omega)) Z) (ek Z Z (AD ?_))));exact ⟨k+1,⟨by show k+1<=_;omega,HE a l c⟩,by show S.length-(k+1)<S.length-k;omega,AX r [2] Z (Z) ⟨Z,Z,Z,Z,Z,trivial⟩⟩
 .refine Aw (AC (AE (J (E5 FK pX Z Z Z) (X0 22 (Af Ag) Z Zg (V (B3 Z Z Z Z Z Z Z Ch) (AB Z Z (AD (A2 ?_))))))));exact ⟨_,[],[],A0 Z,Z,Z,by rw[dg (by rw[η (by have h:=f;omega)] at l;exact l)],Z⟩
theorem mB(i:(a.map AJ.id).Nodup){x y:AJ}(c:x∈a)(g:y∈a)(h:x.id=y.id):x=y:=by
 induction a with
 | nil=>cases c
 | cons b a f=>
  grind
theorem Da(h:FA a=0):(a.map AJ.id).Nodup:=by
 have f:=VI.1 h;rw[List.Nodup,ig,ia];intro i j g b c e;have:=f j (Ψ.2 b)
 grind[Jy,Gc]
theorem sz(p:gB)(h:rp p):AL prog 13 [.d (Bf p)] (Bf p):=by
 obtain ⟨y,x,w⟩:=h;refine Av func13 Z Z ntmps13 Z Z Z λF l=>(AC (AE (V (Bh 1 Z Z Z Z Z Z Z) (V (Bx 2 Ph Z Z Z Z) (AD (AC (AE (V (Bx 3 Ph Z Z Z Z) ?_))))))));refine AD (AC (AC (Wh 3 0 0 901 NL Z Z Z Z Z Z Z (AE (AB Z Z (AD (AZ (BM (α:=List Ad) (λb=>⟨51,[(1,(.ptr 1 0 0)),(2,(.ptr 2 0 0)),(3,(.ptr 3 0 0)),(4,(.d (AF (b.length:Int))))],[(901,[.rowD 88 7 (b.map Bj)]),(1,[Do 25 p]),(2,[.blk 39 [Ez,Ez]]),(3,[.blk 39 [.own 901 0 b.length,Ez]])]⟩) (λb=>b=p.ro.take b.length/\b.length<=p.ro.length) (λb=>p.ro.length-b.length) ([]) (⟨by simp,ζ _⟩) (AX l [901,1,2,3] Z Z ⟨Z,Z,Z,Z,trivial⟩) ?_))))))));rintro b ⟨s,u⟩;refine AC ?_;refine AC (AE (ek Z Z (J (AK Z P5 Z Z Z) (J (AO Z Z Z GQ Z) (J (BS Z Ri Z) (J (Az Z Z Z) (AD (A6 Z (λj=>?_) (λj=>?_)))))))))
 .have f:b.length<p.ro.length:=BQ j;refine AW (AC (AZ (CK [[],[0],[],[2],[],[2,3,4],[2,3,4,5],[2,3,4,5,6],[2,3,4,5,6,7],[],[9],[],[9,10,11],[9,10,11,12],[9,10,11,12,13],[2,3,4,5,6,7,8,9,10,11,12,13,14],[2,3,4,5,6,7,8,9,10,11,12,13,14,15],rg 17,rg 18,rg 19] mixed Z (By (AR [3] Z (AK Z DW Z Z Z) (Ao [13] Z Z (λ_=>Aa (AO Z Z Z NO Z)) (AR [1] Z (AK Z P5 Z Z Z) ?_)))))));refine Ao [15] Z Z (λ_=>Aa (AO Z Z Z GQ Z)) (Ap 4 Z Z (AR [16,17] Z (BC (b.length) Z Z (Z) (A1 f) Ri Z IH Z) (AR [18] Z (VK Z J0 Z Z Z) (AR [19] Z (C7 Z Z G7 Z) (AR [20] Z (Au (cY p.ro[b.length].r) Z Z) (AR [1] Z (AK Z P5 Z Z Z) (Ao [22] Z Z (λ_=>Aa (AO Z Z Z GQ Z)) (Ap 4 Z Z ?_))))))));refine AR [23,24] Z (BC (b.length) Z Z (Z) (A1 f) Ri Z IH Z) (AR [25] Z (ND Z SH Z Z Z) (AR [26] Z (CG Z Z Fo Z) (AR [21,27] Z (E5 RP pW Z Z Z) (F6 [28] [50] [(29,_)] Z Z (λ_=>F7 (C1 50 NL Z Z Z Z Z Z Z Z)) (.inr ⟨29,_,Z,Z,Z,Z,Z⟩) Z Z Z Z Z (Bu 17 Z Z Z (Ab 18 Z Z (V (Ev (b) ([p.ro[b.length]]) Z Z Z Z Z Z Z Z NL (by simp only[υ];omega) Z Z Z Z) (AD ⟨Z,?_⟩))))))));refine Ab 19 Z Z (J (AK Z DW Z Z Z) (AD ⟨Z,?_⟩));refine Ab 20 Z Z (V (B3 Z Z Z Z Z Z Z pE) (AD ⟨Z,?_⟩));refine Bz (AE (ek Z Z (J (Aj Z Z (KN b p.ro[b.length] (by omega)) Z) (AB Z Z (AD ?_)))));exact ⟨b++ [p.ro[b.length]],⟨GS s f,by rw[Δ];show b.length+1<=_;omega⟩,by rw[Δ];show p.ro.length-(b.length+1)<p.ro.length-b.length;omega,AX l [901,1,2,3] Z (Z) ⟨Z,Z,Z,Z,trivial⟩⟩
 .refine Aw (AC (AC ?_));have k:=I0 s (λh=>j (by omega));refine VR (ys:=p.ro.map Bj) 3 0 0 901 Z Z Z (by simp) (by rw[k];exact η (by simp)) Z Z Z Z Z Z (Wh 3 0 1 902 Lh Z Z Z Z Z Z Z (AE (AB Z Z (AD (AZ (BM (α:=List AJ) (λa=>⟨51,[(1,(.ptr 1 0 0)),(2,(.ptr 2 0 0)),(3,(.ptr 3 0 0)),(5,(.d (AF (a.length:Int))))],[(902,[.rowD 55 6 (a.map Af)]),(1,[Do 25 p]),(2,[.blk 39 [Ez,Ez]]),(3,[.blk 39 [.d (.sl none (p.ro.map Bj)),.own 902 0 a.length]])]⟩) (λa=>a=p.it.take a.length/\a.length<=p.it.length) (λa=>p.it.length-a.length) ([]) (⟨by simp,ζ _⟩) (AX l [902,1,2,3] Z Z ⟨Z,Z,Z,Z,trivial⟩) ?_))))));rintro a ⟨o,t⟩;refine AC ?_;refine AC (AE (ek Z Z (J (AK Z J5 Z Z Z) (J (AO Z Z Z DI Z) (J (BS Z F0 Z) (J (Az Z Z Z) (AD (A6 Z (λi=>?_) (λi=>?_)))))))))
  .have c:a.length<p.it.length:=BQ i;refine AW ?_;refine AC (AZ (CK [[],[0],[],[2],[],[2,3,4],[2,3,4,5],[2,3,4,5,6],[2,3,4,5,6,7],rg 9,rg 10,rg 11] mixed Z (By (AR [3] Z (AK Z Cc Z Z Z) (Ao [39] Z Z (λ_=>Aa (AO Z Z Z IR Z)) (AR [1] Z (AK Z J5 Z Z Z) (Ao [41] Z Z (λ_=>Aa (AO Z Z Z DI Z)) (Ap 5 Z Z ?_))))))));have v:=w _ (ϑ c);refine AR [42,43] Z (BC (a.length) Z Z (Z) (A1 c) F0 Z Cz Z) (AR [44] Z (C7 Z Z G8 Z) (AR [45] Z (Au (ZJ p.it[a.length] (by omega) (by omega) (by omega)) Z Z) (F6 [46] [51] [(47,_)] Z Z (λ_=>F7 (C1 51 Lh Z Z Z Z Z Z Z Z)) (.inr ⟨47,_,Z,Z,Z,Z,Z⟩) Z Z Z Z Z (Bu 9 Z Z Z (Ab 10 Z Z (V (Ev (a) ([p.it[a.length]]) Z Z Z Z Z Z Z Z Lh (by simp only[υ];omega) Z Z Z Z) (AD ⟨Z,?_⟩)))))));refine Ab 11 Z Z (J (AK Z Cc Z Z Z) (AD ⟨Z,?_⟩));refine Ab 12 Z Z (V (B3 Z Z Z Z Z Z Z kn) (AD ⟨Z,?_⟩));refine Bz (AE (ek Z Z (J (Aj Z Z (KN a p.it[a.length] (by omega)) Z) (AB Z Z (AD ?_)))));exact ⟨a++ [p.it[a.length]],⟨GS o c,by rw[Δ];show a.length+1<=_;omega⟩,by rw[Δ];show p.it.length-(a.length+1)<p.it.length-a.length;omega,AX l [902,1,2,3] Z (Z) ⟨Z,Z,Z,Z,trivial⟩⟩
  .refine Aw (AC ?_);have g:=I0 o (λh=>i (by omega));refine VR (ys:=p.it.map Af) 3 0 1 902 Z Z Z (by simp) (by rw[g];exact η (by simp)) Z Z Z Z Z Z (AE (J (Ay Z Z Bp Z Z Z) (V (B3 Z Z Z Z Z Z Z Yc) (AD (A2 ?_)))));exact ⟨_,[],[],A0 Z,Z,Z,Z,Z⟩
def Eu(ids l:List Int)(k:Nat):Int:=if l.getD k 0∉ids then 9 else if l.getD k 0∈l.take k then 7 else 0
def K0(ids l:List Int):Int:=BO ((List.range l.length).map (Eu ids l))
def CZ(p:gB)(l:List Int):Int:=if BB p≠0 then BB p else K0 (p.it.map AJ.id) l
theorem R2{a l:List Int}(h:K0 a l=0):l.Nodup/\∀x∈l,x∈a:=by
 have c:=VI.1 h;refine ⟨ia.2 λi j k b g e=>?_,λx f=>?_⟩
 .have:=c j (Ψ.2 b)
  grind[Eu,jh]
 .obtain ⟨j,b,rfl⟩:=iN f;have:=c j (Ψ.2 b)
  grind[Eu]
theorem W8(p:gB)(l:List Int)(C:E6 p)(H:l.length<=100000)(w:CZ p l≠0):AL prog 159 [.d (Bf p),.d (.sl none (l.map AF))] (.tup [.raw (.map none),AF (CZ p l)]):=by
 have c:=HC p C;have E:=C.2.1
 by_cases t:BB p=0
 .have o:=Da (P6 t).2.1;rw[t] at c;have y:CZ p l=K0 (p.it.map AJ.id) l:=κ (λh=>h t);rw[y] at w⊢
  obtain ⟨G,s⟩:∃e,K0 (p.it.map AJ.id) l=e:=⟨_,Z⟩
  rw[s] at w⊢;refine Av func159 Z Z ntmps159 Z Z Z λF r=>(AC (AE (V (Bh 1 Z Z Z Z Z Z Z) (AB Z Z (AB Z Z (AD (AC (AC ?_))))))));refine AE (J (Ay Z Z Bp Z Z Z) (J (Au (c) Z Z) (AB Z Z (AD (AC (AE (ek Z Z (J (C6 Z Z Z) ?_))))))));refine AD (Cr Z ((by decide)) (AW (AC (AE (V (Pc 2 Z Z Z Z) (AB Z Z (AD (AC ?_))))))));refine AC (AE (J (AK Z Cc Z Z Z) (J (AO Z Z Z IR Z) (J (BS Z No Z) (ek Z Z (AD (AZ (BM (α:=Nat) (λk=>⟨50,[(1,.d (.sl none (l.map AF))),(7,(.map 2 0)),(20,(.d (.sl none (p.it.map Af)))),(21,(.d (AF (p.it.length:Int)))),(22,(.d (AF (k:Int))))],[(2,[BY AF Ah (BP ((p.it.take k).map AJ.id))])]⟩) (λk=>k<=p.it.length) (λk=>p.it.length-k) (0) (ζ _) (AX r [2] Z Z ⟨Z,Z,Z,Z,Z,trivial⟩) ?_))))))));rintro k v;refine AC (AE (J (Az Z Z Z) (AD (AC (A6 Z (λi=>?_) (λi=>?_))))))
  .have a:k<p.it.length:=BQ i;refine AW (AC (AZ (AC (AE ?_))));have u:p.it[k].id∉(p.it.take k).map AJ.id:=λh=>by rw[List.Nodup,ig,ia] at o;obtain ⟨x,D,e⟩:=Θ.1 h;obtain ⟨j,I,rfl⟩:=jh.1 D;exact o j k (by omega) a (by omega) e
   refine J (BC (k) Z Z (Z) (A1 a) No Z Ch Z) (J (C7 Z Z CM Z) (V (Bx 3 FK Z Z Z Z) (V (B3 Z Z Z Z Z Z Z Ch) (AD (AE ?_)))));refine ek Z Z (J (AK Z Nr Z Z Z) (J (AO Z Z Z Am Z) (V (VH (BP ((p.it.take k).map AJ.id)) (p.it[k].id) (true) Z Z Z Eo IS Z Z) (AD (AE (J (Aj Z Z (AN (k+1) (by omega)) Z) (ek Z Z (AD ?_))))))));exact ⟨k+1,by show k+1<=_;omega,by show p.it.length-(k+1)<p.it.length-k;omega,AX r [2] Z (by rw[EL a,<-aU u];rfl) ⟨Z,Z,Z,Z,Z,trivial⟩⟩
  .refine Aw (AC ?_);rw[η (show p.it.length<=k by have h:=i;omega)];refine AE (V (Pc 4 Z Z Z Z) (AB Z Z (AD ?_)));refine AC (AC (AE (ek Z Z (J (BS Z E0 Z) (ek Z Z (AD (AZ (BM (α:=Nat) (λk=>⟨50,[(7,(.map 2 0)),(10,(.map 4 0)),(31,(.d (.sl none (l.map AF)))),(32,(.d (AF (l.length:Int)))),(33,(.d (AF (k:Int))))],[(2,[BY AF Ah (BP (p.it.map AJ.id))]),(4,[BY AF Ah (BP (l.take k))])]⟩) (λk=>k<=l.length/\G=BO (((List.range l.length).drop k).map (Eu (p.it.map AJ.id) l))) (λk=>l.length-k) (0) (⟨ζ _,s.symm⟩) (AX r [2,4] Z Z ⟨Z,Z,Z,Z,Z,trivial⟩) ?_))))))));rintro k ⟨v,B⟩;refine AC (AE (J (Az Z Z Z) (AD (AC (A6 Z (λg=>?_) (λg=>?_))))))
   .have a:k<l.length:=BQ g;refine AW (AC (AZ (AC (AE ?_))));have f:=nW a B;have b:=FG 0 a;refine J (BC (k) Z Z (Z) (A1 a) E0 Z BW Z) (J (CG Z Z Am Z) ?_);refine AB Z Z (AD (AC (AZ (AC (AE (ek Z Z (ek Z Z (J (IV (BP (p.it.map AJ.id)) (l[k]) (false) _ Z Z Z Eo IS Sh Z Z) ?_))))))));rw[YQ];refine J (KH Z Z) (AB Z Z (AD (A6 Z (λA=>?_) (λA=>?_))))
    .refine AC (AE (AB Z Z (AB Z Z (AD (A2 ?_)))));exact ⟨_,[],[],A0 Z,Z,Z,by rw[f.2 9 (by unfold Eu;rw[b,ς (by simp_all)]) (by decide)],Z⟩
    .refine AC (AE (ek Z Z (ek Z Z (J (IV (BP (l.take k)) (l[k]) (false) _ Z Z Z Eo IS Sh Z Z) ?_))));rw[YQ];refine AB Z Z (AD (A6 Z (λz=>?_) (λz=>?_)))
     .refine AC (AE (AB Z Z (AB Z Z (AD (A2 ?_)))));exact ⟨_,[],[],A0 Z,Z,Z,by rw[f.2 7 (by unfold Eu;rw[b,κ (by simp_all),ς (by simp_all)]) (by decide)],Z⟩
     .refine AW ?_;refine AE (ek Z Z (ek Z Z (V (VH (BP (l.take k)) (l[k]) (true) Z Z Z Eo IS Z Z) (AD (AE (J (Aj Z Z (AN (k+1) (by omega)) Z) (ek Z Z (AD ?_))))))));exact ⟨k+1,⟨by show k+1<=_;omega,f.1 (by unfold Eu;rw[b,κ (by simp_all),κ (by simp_all)])⟩,by show l.length-(k+1)<l.length-k;omega,AX r [2,4] Z (by rw[ψ a,<-aU (by simp_all)];rfl) ⟨Z,Z,Z,Z,Z,trivial⟩⟩
   .refine Aw (AC (AE (ek Z Z (AB Z Z (AB Z Z (AD (A2 ?_)))))));exact absurd (by rw[B,kI (by have h:=g;simp only[iF];omega)];rfl) w
 .have y:CZ p l=BB p:=ς t;rw[y];refine Av func159 Z Z ntmps159 Z Z Z λF r=>(AC (AE (V (Bh 1 Z Z Z Z Z Z Z) (AB Z Z (AB Z Z (AD (AC (AC ?_))))))));refine AE (J (Ay Z Z Bp Z Z Z) (J (Au (c) Z Z) (AB Z Z (AD (AC (AE (ek Z Z (J (C6 Z Z Z) ?_))))))));refine AD (Bw Z ((gi t)) (AC (AE (ek Z Z (AB Z Z (AB Z Z (AD (A2 ?_))))))));exact ⟨_,[],[],A0 Z,Z,Z,Z,Z⟩
theorem aA(p:gB)(l:List Int)(A:E6 p)(K:l.length<=100000)(c:CZ p l=0):AP prog 159 [.d (Bf p),.d (.sl none (l.map AF))] [] λr H=>r= .tup [.map 4 0,.d (AF 0)]/\H=[(4,[BY AF Ah (BP l)])]:=by
 have s:=HC p A;have E:=A.2.1
 have z:BB p=0:=by
  unfold CZ at c;split at c
  .exact c
  .rename_i h;simpa using h
 have i:=Da (P6 z).2.1;rw[z] at s;have G:CZ p l=K0 (p.it.map AJ.id) l:=κ (λh=>h z);rw[G] at c;refine Av func159 Z Z ntmps159 Z Z Z λF t=>(AC (AE (V (Bh 1 Z Z Z Z Z Z Z) (AB Z Z (AB Z Z (AD (AC (AC ?_))))))));refine AE (J (Ay Z Z Bp Z Z Z) (J (Au (s) Z Z) (AB Z Z (AD (AC (AE (ek Z Z (J (C6 Z Z Z) ?_))))))));refine AD (Cr Z ((by decide)) (AW (AC (AE (V (Pc 2 Z Z Z Z) (AB Z Z (AD (AC ?_))))))));refine AC (AE (J (AK Z Cc Z Z Z) (J (AO Z Z Z IR Z) (J (BS Z No Z) (ek Z Z (AD (AZ (BM (α:=Nat) (λk=>⟨50,[(1,.d (.sl none (l.map AF))),(7,(.map 2 0)),(20,(.d (.sl none (p.it.map Af)))),(21,(.d (AF (p.it.length:Int)))),(22,(.d (AF (k:Int))))],[(2,[BY AF Ah (BP ((p.it.take k).map AJ.id))])]⟩) (λk=>k<=p.it.length) (λk=>p.it.length-k) (0) (ζ _) (AX t [2] Z Z ⟨Z,Z,Z,Z,Z,trivial⟩) ?_))))))));rintro k u;refine AC (AE (J (Az Z Z Z) (AD (AC (A6 Z (λg=>?_) (λg=>?_))))))
 .have a:k<p.it.length:=BQ g;refine AW (AC (AZ (AC (AE ?_))));have b:p.it[k].id∉(p.it.take k).map AJ.id:=λh=>by rw[List.Nodup,ig,ia] at i;obtain ⟨x,B,e⟩:=Θ.1 h;obtain ⟨j,C,rfl⟩:=jh.1 B;exact i j k (by omega) a (by omega) e
  refine J (BC (k) Z Z (Z) (A1 a) No Z Ch Z) (J (C7 Z Z CM Z) (V (Bx 3 FK Z Z Z Z) (V (B3 Z Z Z Z Z Z Z Ch) (AD (AE ?_)))));refine ek Z Z (J (AK Z Nr Z Z Z) (J (AO Z Z Z Am Z) (V (VH (BP ((p.it.take k).map AJ.id)) (p.it[k].id) (true) Z Z Z Eo IS Z Z) (AD (AE (J (Aj Z Z (AN (k+1) (by omega)) Z) (ek Z Z (AD ?_))))))));exact ⟨k+1,by show k+1<=_;omega,by show p.it.length-(k+1)<p.it.length-k;omega,AX t [2] Z (by rw[EL a,<-aU b];rfl) ⟨Z,Z,Z,Z,Z,trivial⟩⟩
 .refine Aw (AC ?_);rw[η (show p.it.length<=k by have h:=g;omega)];refine AE (V (Pc 4 Z Z Z Z) (AB Z Z (AD ?_)));refine AC (AC (AE (ek Z Z (J (BS Z E0 Z) (ek Z Z (AD (AZ (BM (α:=Nat) (λk=>⟨50,[(7,(.map 2 0)),(10,(.map 4 0)),(31,(.d (.sl none (l.map AF)))),(32,(.d (AF (l.length:Int)))),(33,(.d (AF (k:Int))))],[(2,[BY AF Ah (BP (p.it.map AJ.id))]),(4,[BY AF Ah (BP (l.take k))])]⟩) (λk=>k<=l.length) (λk=>l.length-k) (0) (ζ _) (AX t [2,4] Z Z ⟨Z,Z,Z,Z,Z,trivial⟩) ?_))))))));rintro k u;refine AC (AE (J (Az Z Z Z) (AD (AC (A6 Z (λf=>?_) (λf=>?_))))))
  .have a:k<l.length:=BQ f;refine AW (AC (AZ (AC (AE ?_))));have I:=VI.1 c k (Ψ.2 a);have D:=FG 0 a;have v:l[k]∈p.it.map AJ.id:=(R2 c).2 _ (ϑ a);have b:l[k]∉l.take k:=λh=>by have o:=(R2 c).1;rw[List.Nodup,ia] at o;obtain ⟨j,C,e⟩:=jh.1 h;exact o j k (by omega) a (by omega) e
   refine J (BC (k) Z Z (Z) (A1 a) E0 Z BW Z) (J (CG Z Z Am Z) ?_);refine AB Z Z (AD (AC (AZ (AC (AE (ek Z Z (ek Z Z (J (IV (BP (p.it.map AJ.id)) (l[k]) (false) _ Z Z Z Eo IS Sh Z Z) ?_))))))));rw[YQ];refine J (KH Z Z) (AB Z Z (AD (A6 Z (λy=>?_) (λy=>?_))))
   .refine AC (AE (AB Z Z (AB Z Z (AD (A2 ?_)))));exact absurd v (by simp_all)
   .refine AC (AE (ek Z Z (ek Z Z (J (IV (BP (l.take k)) (l[k]) (false) _ Z Z Z Eo IS Sh Z Z) ?_))));rw[YQ];refine AB Z Z (AD (A6 Z (λw=>?_) (λw=>?_)))
    .refine AC (AE (AB Z Z (AB Z Z (AD (A2 ?_)))));exact absurd b (by simp_all)
    .refine AW ?_;refine AE (ek Z Z (ek Z Z (V (VH (BP (l.take k)) (l[k]) (true) Z Z Z Eo IS Z Z) (AD (AE (J (Aj Z Z (AN (k+1) (by omega)) Z) (ek Z Z (AD ?_))))))));exact ⟨k+1,by show k+1<=_;omega,by show l.length-(k+1)<l.length-k;omega,AX t [2,4] Z (by rw[ψ a,<-aU b];rfl) ⟨Z,Z,Z,Z,Z,trivial⟩⟩
  .refine Aw (AC (AE (ek Z Z (AB Z Z (AB Z Z (AD (A2 ?_)))))));exact ⟨_,[4],_,A0 Z,Z,Z,Z,by rw[η (show l.length<=k by have h:=f;omega)]<;>rfl⟩
end Go.Proofs.YteifpcnphnhaoaaGreat
