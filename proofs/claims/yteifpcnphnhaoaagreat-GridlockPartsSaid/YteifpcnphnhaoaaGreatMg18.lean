import Derived.Test.YteifpcnphnhaoaaGreatMg17
import Derived.Shelf.SlLaysF
import Derived.Shelf.SlLaysF0
import Derived.Shelf.SlLaysNS
import Derived.Test.YteifpcnphnhaoaaGreatProg
open Go.Proofs.Tryz
namespace Go.Proofs.YteifpcnphnhaoaaGreat
open Go.Shelf Go.Proofs Go.Proofs.Tryz
theorem brs {P:Program} {i:FuncId} {B:Func} (b:(((P.funcs[i]?.map Func.name).getD "")== "runtime.NumGoroutine")=false) (a:P.funcs[i]? =some {B with name:=(P.funcs[i]?.map Func.name).getD "" }):Bears P i B:=⟨_,b,a⟩
def renI:Go.Shelf.Ren:=⟨λx=>match x with
 | 6=>115
 | 15=>137
 | 14=>160
 | 28=>191
 | 29=>192
 | 20=>201
 | 21=>202
 | 22=>203
 | 23=>204
 | 24=>205
 | 25=>206
 | 26=>207
 | 27=>208
 | 46=>240
 | 47=>226
 | 48=>227
 | 49=>241
 | 50=>242
 | 57=>268
 | x=>x,
 λx=>match x with
 | 22=>37
 | 24=>55
 | 25=>214
 | 3=>3
 | 39=>242
 | 0=>0
 | 53=>292
 | 55=>294
 | 4=>4
 | 46=>286
 | 45=>285
 | 50=>132
 | 5=>5
 | 9=>9
 | 66=>327
 | 70=>331
 | 76=>360
 | 77=>361
 | x=>x,λx=>x⟩
theorem laysI:SlLaysF0.n6 prog renI:=by
 constructor<;>first | kernel_rfl | (intro w;kernel_rfl) | exact brs (by kernel_rfl) (by kernel_rfl)
def renD:Go.Shelf.Ren:=⟨λx=>match x with
 | 6=>161
 | 15=>137
 | 14=>209
 | 28=>191
 | 29=>192
 | 20=>243
 | 21=>244
 | 22=>245
 | 23=>246
 | 24=>247
 | 25=>248
 | 26=>249
 | 27=>250
 | 46=>269
 | 47=>226
 | 48=>227
 | 49=>270
 | 50=>271
 | 57=>277
 | x=>x,
 λx=>match x with
 | 22=>215
 | 24=>218
 | 25=>267
 | 3=>3
 | 39=>242
 | 0=>0
 | 53=>292
 | 55=>294
 | 4=>4
 | 46=>286
 | 45=>285
 | 50=>132
 | 5=>5
 | 9=>9
 | 66=>327
 | 70=>331
 | 76=>360
 | 77=>361
 | x=>x,λx=>x⟩
theorem laysD:SlLaysF0.n6 prog renD:=by
 constructor<;>first | kernel_rfl | (intro w;kernel_rfl) | exact brs (by kernel_rfl) (by kernel_rfl)
def renLn:Go.Shelf.Ren:=⟨λx=>match x with
 | 6=>174
 | 15=>137
 | 14=>212
 | 28=>191
 | 29=>192
 | 20=>251
 | 21=>252
 | 22=>253
 | 23=>254
 | 24=>255
 | 25=>256
 | 26=>257
 | 27=>258
 | 46=>272
 | 47=>226
 | 48=>227
 | 49=>273
 | 50=>274
 | 57=>278
 | x=>x,
 λx=>match x with
 | 22=>227
 | 24=>233
 | 25=>276
 | 3=>3
 | 39=>242
 | 0=>0
 | 53=>292
 | 55=>294
 | 4=>4
 | 46=>286
 | 45=>285
 | 50=>132
 | 5=>5
 | 9=>9
 | 66=>327
 | 70=>331
 | 76=>360
 | 77=>361
 | x=>x,λx=>x⟩
theorem laysLn:SlLaysF0.n6 prog renLn:=by
 constructor<;>first | kernel_rfl | (intro w;kernel_rfl) | exact brs (by kernel_rfl) (by kernel_rfl)
def renS:Go.Shelf.Ren:=⟨λx=>match x with
 | 53=>128
 | 64=>137
 | 63=>177
 | 78=>191
 | 79=>192
 | 70=>213
 | 71=>214
 | 72=>215
 | 73=>216
 | 74=>217
 | 75=>218
 | 59=>219
 | 76=>220
 | 77=>221
 | 88=>259
 | 89=>226
 | 90=>227
 | 91=>260
 | 92=>261
 | 68=>211
 | 96=>275
 | x=>x,
 λx=>match x with
 | 22=>28
 | 23=>3
 | 3=>3
 | 51=>242
 | 0=>0
 | 67=>292
 | 69=>294
 | 4=>4
 | 61=>286
 | 60=>285
 | 44=>132
 | 5=>5
 | 9=>9
 | 75=>327
 | 79=>331
 | 83=>360
 | 84=>361
 | x=>x,λx=>x⟩
theorem laysS:SlLaysN.n53 prog renS:=by
 constructor<;>first | kernel_rfl | (intro w;kernel_rfl) | exact brs (by kernel_rfl) (by kernel_rfl)
def renPo:Go.Shelf.Ren:=⟨λx=>match x with
 | 6=>141
 | 15=>137
 | 14=>195
 | 28=>191
 | 29=>192
 | 20=>231
 | 21=>232
 | 22=>233
 | 23=>234
 | 24=>235
 | 25=>236
 | 26=>237
 | 27=>238
 | 46=>265
 | 47=>226
 | 48=>227
 | 49=>266
 | 50=>267
 | 57=>276
 | x=>x,
 λx=>match x with
 | 22=>177
 | 24=>186
 | 25=>251
 | 3=>3
 | 39=>242
 | 0=>0
 | 53=>292
 | 55=>294
 | 4=>4
 | 46=>286
 | 45=>285
 | 50=>132
 | 5=>5
 | 9=>9
 | 66=>327
 | 70=>331
 | 76=>360
 | 77=>361
 | x=>x,λx=>x⟩
theorem laysPo:SlLaysF.n6 prog renPo:=by
 constructor<;>first | kernel_rfl | (intro w;kernel_rfl) | exact brs (by kernel_rfl) (by kernel_rfl)
def renCi:Go.Shelf.Ren:=⟨λx=>match x with
 | 6=>83
 | 15=>137
 | 14=>136
 | 28=>191
 | 29=>192
 | 20=>183
 | 21=>184
 | 22=>185
 | 23=>186
 | 24=>187
 | 25=>188
 | 26=>189
 | 27=>190
 | 46=>225
 | 47=>226
 | 48=>227
 | 49=>228
 | 50=>229
 | 57=>264
 | x=>x,
 λx=>match x with
 | 22=>29
 | 24=>28
 | 25=>154
 | 3=>3
 | 39=>242
 | 0=>0
 | 53=>292
 | 55=>294
 | 4=>4
 | 46=>286
 | 45=>285
 | 50=>132
 | 5=>5
 | 9=>9
 | 66=>327
 | 70=>331
 | 76=>360
 | 77=>361
 | x=>x,λx=>x⟩
theorem laysCi:SlLaysF.n6 prog renCi:=by
 constructor<;>first | kernel_rfl | (intro w;kernel_rfl) | exact brs (by kernel_rfl) (by kernel_rfl)
end Go.Proofs.YteifpcnphnhaoaaGreat
namespace Go.Proofs.YteifpcnphnhaoaaGreat
open Go.RowKit
variable {a:Type} {c:a ->a ->Int} {i:AJ} {d:List AW} {e:AW}
set_option maxRecDepth 100000
def Mk (i:AJ):Int:=if ∃x∈sumL (ctr i),¬(-Mx<=x.2/\x.2<=Mx) then 12 else 0
theorem bnd_bad {j:Nat} {v:Int} (b:(sumL (ctr i))[j]? =some (e,v)) (a:¬(-Mx<=v/\v<=Mx)):(12:Int)=Mk i:=by
 unfold Mk;rw [ς ⟨_,ξ b,a⟩]
theorem f9 (h:∀x∈sumL (ctr i),-Mx<=x.2/\x.2<=Mx):(0:Int)=Mk i:=by grind [Mk]
theorem aV (i:AJ) (r:ItmB i):AM prog 172 [.d (Af i)] (AF (Mk i)):=by
 obtain ⟨M,a⟩:∃M,sumL (ctr i)=M:=⟨_,Z⟩
 have l:=(R8 i r).by [(2,20)] rfl;rw [a] at l;refine Ax func172 Z Z ntmps172 Z Z Z λF n=>(AD (AE (V (Bi 1 Z Z Z Z Z Z Z) (AB Z Z (AC ?_)))));refine AD (AD (AE (J (BA Z Z CO Z Z Z) (V (FG l Z [20] ⟨Z,trivial⟩ Z Z Z Z Z Z Z Z Z) (V (Gs 2 Z Z Z CQ Z Z Z Z) (AC (A2 (BO (α:=List Nat) (λseen=>⟨15,[(7,(.ptr 2 0 0))],[(2,[.iter 20 0 M.length seen]),(20,[B1 Bd AF M])]⟩) (λseen=>∀x∈M,x∈CE M (List.range M.length) seen\/(-Mx<=x.2/\x.2<=Mx)) (λseen=>(CE M (List.range M.length) seen).length) ([]) (λx c=> .inl (by rw [ZcM (by simp)];exact c)) (AU n [2,20] Z Z ⟨Z,trivial⟩) ?_))))))));intro seen m;refine AD (AE (MM (M) Z Z Z Z (λj=>?_) (λq o t p g k s f=>⟨_,Z,?_⟩)))
 .refine J (DG Z Z Z) ?_;refine AC (AD (Cu Z Z (Ar (AD (AE (AB Z Z (AC (AZ ?_))))))));exact ⟨_,[],[],AY Z,Z,Z,A0 (f9 λx c=>by rw [a] at c;exact (m x c).elim (λh=>by rw [j] at h;cases h) id),Z⟩
 .refine J (DG Z Z Z) ?_;refine AC (AD (Bz Z Z (AX (A2 (AD (AE (J (Gt (M) q o Z Z Z g k Z) (J (DG Z Z Z) ?_))))))));refine AB Z Z (AC (AD (AE (goMv Z Z (J (Aw (HX p (-1000000000000000) 1000000000000000) Z Z) (J (Je Z Z) (AC (A7 Z (λb=>?_) (λb=>?_)))))))))
  .refine AD (AE (AB Z Z (AC (AZ ?_))));exact ⟨_,[],[],AY Z,Z,Z,A0 (bnd_bad (by rw [a];exact g) (by simpa [Mx] using b)),Z⟩
  .refine AX ?_;exact ⟨seen++ [o],λx c=>(m x c).elim (λh=>(Υ.1 (f.mem_iff.1 h)).elim (λe=> .inr (by rw [e];simpa [Mx] using b)) .inl) .inr,by rw [f.length_eq];exact ψp _,AU n [2,20] Z (Z) ⟨Z,trivial⟩⟩
theorem V1 {b:Type} {l:List b} {f:b ->Int}:BQ (l.map f)=0↔∀x∈l,f x=0:=by
 induction l with
 | nil=>simp [BQ]
 | cons a l c=>
  grind [BQ]
def SE (i:AJ):List (FuncId×Int):=[(168,Fj i),(169,Kh i),(170,N9 i),(171,La i),(172,Mk i)]
def Ay (i:AJ):Int:=if ¬(0<=i.id/\i.id<=1000000000)\/¬(0<=i.sq/\i.sq<=1000000000)\/¬(0<=i.pr/\i.pr<=2) then 2 else if 256<i.po.length\/256<i.pa.length\/256<i.af.length then 8 else BQ ((SE i).map Prod.snd)
theorem Rq (h:Fj i=0):∀p∈i.po,-Mx<=p.d/\p.d<=Mx:=λp a=>by
 have:=V1.1 h p a;unfold I5 at this
 split at this; · cases this
 split at this; · cases this
 split at this; · cases this
 rename_i h;exact Decidable.of_not_not h
theorem cn (h:Kh i=0):∀p∈i.pa,0<=p.n/\p.n<=Mx:=λp a=>by
 have:=V1.1 h p a;unfold J7 at this
 split at this; · cases this
 split at this; · cases this
 split at this; · cases this
 rename_i h;exact Decidable.of_not_not h
theorem fns_p (i:AJ) (b:i.po.length<=256) (f:i.pa.length<=256) (e:i.af.length<=256) {k:Nat} (c:k<(SE i).length) (a:∀j,j<k ->((SE i)[j]?).map Prod.snd=some 0):AM prog (SE i)[k].1 [.d (Af i)] (AF (SE i)[k].2):=by
 match k,c with
 | 0,_=>exact WN i (by omega)
 | 1,_=>exact WO i (by omega)
 | 2,_=>exact after_p i (by omega)
 | 3,_=>exact Ws i b (Rq (by have:=a 0 (by omega);simpa [SE] using this))
 | 4,_=>exact aV i ⟨b,f,e,Rq (by have:=a 0 (by omega);simpa [SE] using this),cn (by have:=a 1 (by omega);simpa [SE] using this)⟩
def fnD (i:AJ) (p:FuncId×Int):D:= .fn p.1 [Af i] []
theorem L7 (i:AJ) (w:i.po.length<=140737488355328) (v:i.pa.length<=140737488355328) (u:i.af.length<=140737488355328):AM prog 123 [.d (Af i)] (AF (Ay i)):=by
 refine Ax func123 Z Z ntmps123 Z Z Z λF p=>(AD (AE (V (Bi 1 Z Z Z Z Z Z Z) (AB Z Z (AC (AD ?_))))));refine A2 (AD (AE (J (AL Z OG Z Z Z) (J (AQ Z Z Z Ai Z) (J (Aw (IU _ _ _) Z Z) (J (Je Z Z) (goMv Z Z (CX 11 Z (λo=>?_) (λo=>?_)))))))))
 .refine AI Z Z Z Z ?_;refine AI Z Z Z Z (AI Z Z Z Z (AI Z Z Z Z (J (BY Z Z Z Z) (goMv Z Z (AI Z Z Z Z (AI Z Z Z Z (AI Z Z Z Z (AI Z Z Z Z ?_))))))));refine J (BY Z Z Z Z) (AB Z Z (AC (Bz Z Z (AD (AE (AB Z Z (AC (AZ ?_))))))));exact ⟨_,[],[],AY Z,Z,Z,A0 (by unfold Ay;rw [ς (by omega)]),Z⟩
 .refine AR Z Z Z (J (AL Z M9 Z Z Z) ?_);refine AR Z Z Z (J (AQ Z Z Z Ai Z) (AR Z Z Z (J (Aw (IU _ _ _) Z Z) (AR Z Z Z (J (Je Z Z) (J (Bf Z Z Z Z) (goMv Z Z (CX 17 Z (λn=>?_) (λn=>?_)))))))))
  .refine AI Z Z Z Z (AI Z Z Z Z (AI Z Z Z Z (AI Z Z Z Z ?_)));refine J (BY Z Z Z Z) (AB Z Z (AC (Bz Z Z (AD (AE (AB Z Z (AC (AZ ?_))))))));exact ⟨_,[],[],AY Z,Z,Z,A0 (by unfold Ay;rw [ς (by omega)]),Z⟩
  .refine AR Z Z Z (J (AL Z SN Z Z Z) (AR Z Z Z ?_));refine J (AQ Z Z Z Ai Z) (AR Z Z Z (J (Aw (IU _ _ _) Z Z) (AR Z Z Z (J (Je Z Z) (J (Bf Z Z Z Z) (AB Z Z (AC (A7 Z (λt=>?_) (λt=>?_)))))))))
   .refine AD (AE (AB Z Z (AC (AZ ?_))));exact ⟨_,[],[],AY Z,Z,Z,A0 (by unfold Ay;rw [ς (by omega)]),Z⟩
   .refine AD (AE (J (AL Z E1 Z Z Z) (J (AQ Z Z Z QE Z) (J (BU Z underlying52 Z) (J (Gi Z Z Z) (goMv Z Z (CX 28 Z (λl=>?_) (λl=>?_))))))))
    .refine AI Z Z Z Z ?_;refine AI Z Z Z Z (AI Z Z Z Z (AI Z Z Z Z (J (BY Z Z Z Z) (goMv Z Z (AI Z Z Z Z (AI Z Z Z Z (AI Z Z Z Z (AI Z Z Z Z ?_))))))));refine J (BY Z Z Z Z) (AB Z Z (AC (Bz Z Z (AD (AE (AB Z Z (AC (AZ ?_))))))));exact ⟨_,[],[],AY Z,Z,Z,A0 (by unfold Ay;rw [η (by omega),ς (by omega)]),Z⟩
    .refine AR Z Z Z (J (AL Z Fw Z Z Z) ?_);refine AR Z Z Z (J (AQ Z Z Z To Z) (AR Z Z Z (J (BU Z underlying53 Z) (AR Z Z Z (J (Gi Z Z Z) (J (Bf Z Z Z Z) (goMv Z Z (CX 34 Z (λg=>?_) (λg=>?_)))))))))
     .refine AI Z Z Z Z (AI Z Z Z Z (AI Z Z Z Z (AI Z Z Z Z ?_)));refine J (BY Z Z Z Z) (AB Z Z (AC (Bz Z Z (AD (AE (AB Z Z (AC (AZ ?_))))))));exact ⟨_,[],[],AY Z,Z,Z,A0 (by unfold Ay;rw [η (by omega),ς (by omega)]),Z⟩
     .refine AR Z Z Z (J (AL Z EA Z Z Z) (AR Z Z Z ?_));refine J (AQ Z Z Z BF Z) (AR Z Z Z (J (BU Z underlying28 Z) (AR Z Z Z (J (Gi Z Z Z) (J (Bf Z Z Z Z) (AB Z Z (AC (A7 Z (λm=>?_) (λm=>?_)))))))))
      .refine AD (AE (AB Z Z (AC (AZ ?_))));exact ⟨_,[],[],AY Z,Z,Z,A0 (by unfold Ay;rw [η (by omega),ς (by omega)]),Z⟩
      .refine AX (AD ?_);refine AD (AE (J (BA Z Z CO Z Z Z) (J (Yd (ds:=[Af i]) (es:=[]) Z Z Z Z Z) (J (BA Z Z CO Z Z Z) (J (Yd (ds:=[Af i]) (es:=[]) Z Z Z Z Z) (J (BA Z Z CO Z Z Z) (J (Yd (ds:=[Af i]) (es:=[]) Z Z Z Z Z) (J (BA Z Z CO Z Z Z) ?_))))))));refine J (Yd (ds:=[Af i]) (es:=[]) Z Z Z Z Z) (J (BA Z Z CO Z Z Z) (J (Yd (ds:=[Af i]) (es:=[]) Z Z Z Z Z) (V (C1 2 sl273 Z Z Z Z Z Z Z Z) (J (Lc Z underlying273 Z) (goMv Z Z (AC (A2 (BO (α:=Nat) (λk=>⟨62,[(50,(.own 2 0 5)),(51,(.d (AF 5))),(52,(.d (AF (k:Int))))],[(2,[.rowD 146 1 ((SE i).map (fnD i))])]⟩) (λk=>k<=5/\BQ ((SE i).map Prod.snd)=BQ (((SE i).drop k).map Prod.snd)/\∀j,j<k ->((SE i)[j]?).map Prod.snd=some 0) (λk=>5 - k) (0) (⟨ζ _,Z,λj h=>absurd h (Nat.not_lt_zero j)⟩) (AU p [2] Z Z ⟨Z,Z,Z,trivial⟩) ?_))))))));rintro k ⟨r,f,e⟩;refine AD (AE (J (Az Z Z Z) (AC (AD (A7 Z (λc=>?_) (λc=>?_))))))
       .have a:k<(SE i).length:=by show k<5;have h:=c;omega
        refine AX (AD (A2 (AD (AE ?_))));have q:=Zcx a f;refine J (CM (k) Z Z (Z) (by show k<5;exact a) Z underlying273 sz146 Z) (J (CY Z Z (A3 a) Z on146 Z) (AB Z Z (AC (AD (AE (goMv Z Z ?_))))));refine J (Lr (fns_p i (by omega) (by omega) (by omega) a e) Z Z) (AB Z Z (AC (AD (AE (goMv Z Z (J (C7 Z Z Z) (AC (A7 Z (λb=>?_) (λb=>?_)))))))))
        .refine AD (AE (goMv Z Z (AB Z Z (AC (AZ ?_)))));exact ⟨_,[],[],AY Z,Z,Z,A0 (by unfold Ay;rw [η (by omega),η (by omega)];exact q.2 _ Z (by simpa using b)),Z⟩
        .refine AX (AE (J (Ah Z Z (AK (k+1) (by omega)) Z) (goMv Z Z (AC ?_))));exact ⟨k+1,⟨by show k+1<=_;omega,q.1 (by simpa using b),λj s=>(Nat.lt_succ_iff_lt_or_eq.1 s).elim (e j) λh=>by subst h;rw [ω a];show some _=_;congr 1;simpa using b⟩,by show 5 - (k+1)<5 - k;omega,AU p [2] Z (Z) ⟨Z,Z,Z,trivial⟩⟩
       .refine Ar (AD (AE (AB Z Z (AC (AZ ?_)))));exact ⟨_,[],[],AY Z,Z,Z,A0 (by unfold Ay;rw [η (by omega),η (by omega),f,DP (by have h:=c;show ¬k<5;omega)]),Z⟩
theorem or_p (l:List Int) (i:l.length<=140737488355328):AM prog 165 [.d (.sl none (l.map AF))] (AF (BQ l)):=by
 refine Ax func165 Z Z ntmps165 Z Z Z λF j=>(AD (AE (AB Z Z (AC (AD (AE (AB Z Z (AC ?_))))))));refine AD (AD (AE (goMv Z Z (J (BU Z underlying28 Z) (goMv Z Z (AC (A2 (Gh (α:=Nat) (λk=>⟨18,[(3,(.d (AF 0))),(6,(.d (.sl none (l.map AF)))),(7,(.d (AF (l.length:Int)))),(8,(.d (AF (k:Int))))],[]⟩) (λk=>k<=l.length/\BQ (l.map id)=BQ ((l.drop k).map id)) (λk=>l.length - k) (0) (⟨ζ _,Z⟩) (al ⟨Z,Z,Z,Z,trivial⟩) ?_))))))));rintro k ⟨g,c⟩;refine AD (AE (J (Az Z Z Z) (AC (AD (A7 Z (λe=>?_) (λe=>?_))))))
 .have b:k<l.length:=BR e;refine AX (AD (A2 (AD (AE ?_))));have f:=Zcx b c;refine J (BC (k) Z Z (Z) (A3 b) underlying28 Z BD Z) (J (CF Z Z Ai Z) ?_);refine AB Z Z (AC (AD (AE (goMv Z Z (goMv Z Z (J (C7 Z Z Z) (AC (A7 Z (λa=>?_) (λa=>?_)))))))))
  .refine AD (AE (goMv Z Z (AB Z Z (AC (AZ ?_)))));exact ⟨_,[],[],AY Z,Z,Z,A0 ((f.2 l[k] Z (by simpa using a)).trans (by rw [List.map_id])),Z⟩
  .refine AX (AE (J (Ah Z Z (AK (k+1) (by omega)) Z) (goMv Z Z (AC ?_))));exact ⟨k+1,⟨by show k+1<=_;omega,f.1 (by simpa using a)⟩,by show l.length - (k+1)<l.length - k;omega,⟨Z,Z,λ_ _=>Sr.get (l:=[(3,_),(6,_),(7,_),(8,_)]) ⟨Z,Z,Z,Z,trivial⟩⟩⟩
 .refine Ar (AD (AE (goMv Z Z (AB Z Z (AC (AZ ?_))))));exact ⟨_,[],[],AY Z,Z,Z,A0 (by rw [List.map_id] at c;rw [c,DP (by have h:=e;omega)]),Z⟩
def Bm (a b:AW):Int:=BQ [Cf a.k b.k,CS a.acc.o b.acc.o,Cf a.acc.k b.acc.k,CS a.acc.a b.acc.a,CS a.f b.f,CS a.t b.t]
def ES (a b:AJ):Int:=BQ [Cf b.pr a.pr,Cf a.sq b.sq]
set_option maxHeartbeats 2000000 in
theorem Mh (a b:AW):AM prog 143 [.d (Bd a),.d (Bd b)] (AF (Bm a b)):=by
 refine Ax func143 Z Z ntmps143 Z Z Z λF c=>(AD (AE (V (Bi 1 Z Z Z Z Z Z Z) ?_)));refine V (Bi 2 Z Z Z Z Z Z Z) (AB Z Z (AC (AD (CD [[],[0],[],[2],[0,1,2,3],[],[5],[5,6],[],[8],[8,9],rg 11,[],[12],[12,13],[],[15],[15,16],rg 18,[],[19],[19,20],[],[22],[22,23],rg 25,[],[26],[],[28],rg 30,[],[31],[],[33],rg 35,rg 36,rg 37,rg 38] mixed Z (Bt (AP [2] Z (AL Z SL Z Z Z) (Aj [5] Z Z (λ_=>A8 (AQ Z Z Z Ai Z)) (AP [3] Z (AL Z SL Z Z Z) ?_))))))));refine Aj [7] Z Z (λ_=>A8 (AQ Z Z Z Ai Z)) (AP [6,8] Z (Aw (S6 a.k b.k) Z Z) (AP [2] Z (AL Z EZ Z Z Z) (AP [10] Z (AL Z SM Z Z Z) (Aj [11] Z Z (λ_=>A8 (AQ Z Z Z CL Z)) (AP [3] Z (AL Z EZ Z Z Z) (AP [13] Z (AL Z SM Z Z Z) (Aj [14] Z Z (λ_=>A8 (AQ Z Z Z CL Z)) (AP [12,15] Z (Aw (S5 a.acc.o b.acc.o) Z Z) ?_))))))));refine AP [2] Z (AL Z EZ Z Z Z) (AP [17] Z (AL Z PX Z Z Z) (Aj [18] Z Z (λ_=>A8 (AQ Z Z Z Ai Z)) (AP [3] Z (AL Z EZ Z Z Z) (AP [20] Z (AL Z PX Z Z Z) (Aj [21] Z Z (λ_=>A8 (AQ Z Z Z Ai Z)) (AP [19,22] Z (Aw (S6 a.acc.k b.acc.k) Z Z) (AP [2] Z (AL Z EZ Z Z Z) (AP [24] Z (AL Z PW Z Z Z) ?_))))))));refine Aj [25] Z Z (λ_=>A8 (AQ Z Z Z CL Z)) (AP [3] Z (AL Z EZ Z Z Z) (AP [27] Z (AL Z PW Z Z Z) (Aj [28] Z Z (λ_=>A8 (AQ Z Z Z CL Z)) (AP [26,29] Z (Aw (S5 a.acc.a b.acc.a) Z Z) (AP [2] Z (AL Z KH Z Z Z) (Aj [31] Z Z (λ_=>A8 (AQ Z Z Z CL Z)) (AP [3] Z (AL Z KH Z Z Z) (Aj [33] Z Z (λ_=>A8 (AQ Z Z Z CL Z)) ?_))))))));refine AP [32,34] Z (Aw (S5 a.f b.f) Z Z) (AP [2] Z (AL Z KG Z Z Z) (Aj [36] Z Z (λ_=>A8 (AQ Z Z Z CL Z)) (AP [3] Z (AL Z KG Z Z Z) (Aj [38] Z Z (λ_=>A8 (AQ Z Z Z CL Z)) (Bk 35 Z Z Z (Ab 36 Z Z (J (Aw (S5 a.t b.t) Z Z) (AC ⟨Z,?_⟩))))))));refine Ab 37 Z Z (V (C1 3 BT Z Z Z Z Z Z Z Z) (AC ⟨Z,?_⟩));refine Ab 38 Z Z (J (EN [3] (or_p [Cf a.k b.k,CS a.acc.o b.acc.o,Cf a.acc.k b.acc.k,CS a.acc.a b.acc.a,CS a.f b.f,CS a.t b.t] (by simp)) (by exact ⟨.inr ⟨_,_,Z,.own Z Z (by simp) (θ (by simp)),Z⟩,trivial⟩) Z Z) (AC ⟨Z,?_⟩));refine Ab 39 Z Z (AB Z Z (AC ⟨Z,?_⟩));refine Bx (AZ ?_);exact ⟨_,[],[],AY Z,Z,Z,Z,Z⟩
theorem X9 (a b:AJ):AM prog 122 [.d (Af a),.d (Af b)] (AF (ES a b)):=by
 refine Ax func122 Z Z ntmps122 Z Z Z λF c=>(AD (AE (V (Bi 1 Z Z Z Z Z Z Z) (V (Bi 2 Z Z Z Z Z Z Z) ?_))));refine AB Z Z (AC (AD (CD [[],[0],[],[2],[0,1,2,3],[],[5],[],[7],rg 9,rg 10,rg 11,rg 12] mixed Z (Bt (AP [3] Z (AL Z SN Z Z Z) (Aj [5] Z Z (λ_=>A8 (AQ Z Z Z Ai Z)) (AP [2] Z (AL Z SN Z Z Z) (Aj [7] Z Z (λ_=>A8 (AQ Z Z Z Ai Z)) ?_))))))));refine AP [6,8] Z (Aw (S6 b.pr a.pr) Z Z) (AP [2] Z (AL Z M9 Z Z Z) (Aj [10] Z Z (λ_=>A8 (AQ Z Z Z Ai Z)) (AP [3] Z (AL Z M9 Z Z Z) (Aj [12] Z Z (λ_=>A8 (AQ Z Z Z Ai Z)) (Bk 9 Z Z Z (Ab 10 Z Z (J (Aw (S6 a.sq b.sq) Z Z) (AC ⟨Z,?_⟩))))))));refine Ab 11 Z Z (V (C1 3 BT Z Z Z Z Z Z Z Z) (AC ⟨Z,?_⟩));refine Ab 12 Z Z (J (EN [3] (or_p [Cf b.pr a.pr,Cf a.sq b.sq] (by simp)) (by exact ⟨.inr ⟨_,_,Z,.own Z Z (by simp) (θ (by simp)),Z⟩,trivial⟩) Z Z) (AC ⟨Z,?_⟩));refine Ab 13 Z Z (AB Z Z (AC ⟨Z,?_⟩));refine Bx (AZ ?_);exact ⟨_,[],[],AY Z,Z,Z,Z,Z⟩
theorem fg (a b:AJ):AM prog 117 [.d (Af a),.d (Af b)] (.raw (.bool (decide (ES a b<0)))):=by
 refine Ax func117 Z Z ntmps117 Z Z Z λF c=>(AD (AE (V (Bi 1 Z Z Z Z Z Z Z) (V (Bi 2 Z Z Z Z Z Z Z) (AB Z Z (AC ?_))))));refine AD (AE (J (BA Z Z CO Z Z Z) (J (BA Z Z CO Z Z Z) (J (Aw (X9 a b) Z Z) (J (Az Z Z Z) (AB Z Z (AC (AZ ?_))))))));exact ⟨_,[],[],AY Z,Z,Z,Z,Z⟩
def QL (x:AW×Int):D:= .agg [AF x.1.k,Aq x.1.acc.o,AF x.1.acc.k,Aq x.1.acc.a,Aq x.1.f,Aq x.1.t,AF x.2]
theorem aL (a b:AW×Int):AM prog 162 [.d (QL a),.d (QL b)] (AF (Bm a.1 b.1)):=by
 refine Ax func162 Z Z ntmps162 Z Z Z λF c=>(AD (AE (V (Bi 1 Z Z Z Z Z Z Z) (V (Bi 2 Z Z Z Z Z Z Z) (AB Z Z (AC (AD ?_)))))));refine AE (J (AL Z LO Z Z Z) (J (BA Z Z Cc Z Z Z) (J (AL Z LO Z Z Z) (J (BA Z Z Cc Z Z Z) (J (Aw (Mh a.1 b.1) Z Z) (AB Z Z (AC (AZ ?_))))))));exact ⟨_,[],[],AY Z,Z,Z,Z,Z⟩
theorem MT:∀a b c:List UInt8,Rx a b=true ->Rx b c=true ->Rx a c=true
 | [],[],_,h,_=>by simp [Rx,Op.bytesLess] at h
 | [],_::_,[],_,h=>by simp [Rx,Op.bytesLess] at h
 | [],_::_,_::_,_,_=>by simp [Rx,Op.bytesLess]
 | _::_,[],_,h,_=>by simp [Rx,Op.bytesLess] at h
 | _::_,_::_,[],_,h=>by simp [Rx,Op.bytesLess] at h
 | a::x,b::y,c::z,e,d=>by
  simp only [Rx,Op.bytesLess,Bool.or_eq_true,ψv,ωd,beq_iff_eq] at e d⊢;rcases e with e | ⟨rfl,e⟩<;>rcases d with d | ⟨rfl,d⟩
  .exact .inl (UInt8.lt_trans e d)
  .exact .inl e
  .exact .inl d
  .exact .inr ⟨Z,MT x y z e d⟩
theorem WW (a:List UInt8):Rx a a=false:=by grind [JT,Rx]
structure PC {γ:Type} (c:γ ->γ ->Int):Prop where
 anti:∀x y,c y x= - c x y
 trans:∀x y z,c x y<0 ->c y z<0 ->c x z<0
 eqv:∀x y z,c x y=0 ->c x z=c y z
theorem cmpI_pc:PC Cf:=⟨λx y=>by unfold Cf;split<;>split<;>first | omega | rfl,λx y z=>by unfold Cf;split<;>split<;>(try split)<;>(try split)<;>(try split)<;>(try split)<;>first | omega | simp,λx y z h=>by
 have:x=y:=by
  unfold Cf at h;split at h; · cases h
  split at h; · cases h
  omega
 rw [this]⟩
theorem RQ {a b:List UInt8}:CS a b=0↔a=b:=by grind [CS,JT,Rx]
theorem P7 {a b:List UInt8}:CS a b<0↔Rx a b=true:=by grind [CS]
theorem cmpS_pc:PC CS:=⟨λx y=>by
 unfold CS
 by_cases b:Rx x y=true
 .have a:¬Rx y x=true:=λa=>by have:=MT x y x b a;rw [WW] at this;cases this
  rw [η a,ς b,ς b];rfl
 .by_cases a:Rx y x=true
  .rw [ς a,η b,ς a]
  .rw [η a,η b,η b,η a];rfl,λx y z b a=>P7.2 (MT x y z (P7.1 b) (P7.1 a)),λx y z h=>by rw [RQ.1 h]⟩
theorem PC.comap {b:Type} (h:PC c) (f:b ->a):PC λx y=>c (f x) (f y):=⟨λ_ _=>h.anti _ _,λ_ _ _=>h.trans _ _ _,λ_ _ _=>h.eqv _ _ _⟩
theorem PC.rev (h:PC c):PC λx y=>c y x:=⟨λx y=>h.anti y x,λx y z b d=>h.trans _ _ _ d b,λx y z b=>by
 have e:c x y=0:=by have:=h.anti y x;omega
 have:=h.eqv x y z e
 rw [h.anti x z,h.anti y z,this]⟩
theorem PC.zero:PC λ_ _:a=>(0:Int):=⟨λ_ _=>rfl,λ_ _ _ h=>by omega,λ_ _ _ _=>rfl⟩
theorem PC.lex {r:a ->a ->List Int} (h:PC c) (j:PC λx y=>BQ (r x y)):PC λx y=>BQ (c x y::r x y):=by
 have k:∀x y,c x y=0↔c y x=0:=λx y=>by have:=h.anti x y;omega
 refine ⟨λx y=>?_,λx y z=>?_,λx y z=>?_⟩
 .simp only [BQ]
  by_cases e:c x y=0
  .rw [ς e,ς ((k x y).1 e)];exact j.anti x y
  .rw [η e,η (λl=>e ((k x y).2 l))];exact h.anti x y
 .simp only [BQ];intro b f
  by_cases d:c x y=0<;>by_cases g:c y z=0
  .have i:c x z=0:=by rw [h.eqv x y z d];exact g
   rw [ς d] at b;rw [ς g] at f;rw [ς i];exact j.trans x y z b f
  .rw [η g] at f;have i:c x z=c y z:=h.eqv x y z d;omega
  .rw [η d] at b;have i:c z x=c y x:=(h.eqv y z x g).symm;have m:c x z=c x y:=by rw [h.anti z x,h.anti y x,i]
   omega
  .rw [η d] at b;rw [η g] at f;have:=h.trans x y z b f;omega
 .simp only [BQ];intro b
  have d:c x y=0:=by
   omega
  rw [ς d] at b;rw [h.eqv x y z d];rw [j.eqv x y z b]
theorem PC.last:PC λx y:a=>BQ ((λ_ _:a=>([]:List Int)) x y):=PC.zero
theorem Pu:PC Bm:=
 PC.lex (cmpI_pc.comap AW.k)<| PC.lex (cmpS_pc.comap λr:AW=>r.acc.o)<| PC.lex (cmpI_pc.comap λr:AW=>r.acc.k)<| PC.lex (cmpS_pc.comap λr:AW=>r.acc.a)<| PC.lex (cmpS_pc.comap AW.f)<| PC.lex (cmpS_pc.comap AW.t) PC.last
theorem Ds:PC ES:=PC.lex (cmpI_pc.comap AJ.pr).rev<| PC.lex (cmpI_pc.comap AJ.sq) PC.last
theorem PC.refl (h:PC c) (x:a):c x x=0:=by have:=h.anti x x;omega
theorem PC.swo (h:PC c):Go.Sort.SWO (ltOf c):=by
 refine ⟨λx=>?_,λx y z d b=>?_,λx y z d b=>?_⟩
 .simp [ltOf,h.refl]
 .simp only [ltOf,ψv] at*;exact h.trans x y z d b
 .simp only [ltOf,decide_eq_false_iff_not] at*;have j:=h.anti x y;have i:=h.anti y z;have g:=h.anti x z
  by_cases e:c x y=0
  .rw [h.eqv x y z e];exact b
  .by_cases f:c y z=0
   .have:=h.eqv y z x f;omega
   .have:=h.trans z y x (by omega) (by omega);omega
theorem RT {a b:Int}:Cf a b=0↔a=b:=by grind [Cf]
theorem E4 {a b:AW}:Bm a b=0↔a=b:=by grind [Bm,BQ,AW.eq_iff,Sl.eq_iff,RT,RQ]
theorem DV {j:Type} {R:j ->j ->Prop} (c:∀x,¬R x x) (k:∀x y z,R x y ->R y z ->R x z):∀{l m:List j},l.Pairwise R ->m.Pairwise R ->(∀x,x∈l↔x∈m) ->l=m
 | [],[],_,_,_=>rfl
 | [],b::m,_,_,h=>by have:=(h b).2 (by simp);cases this
 | a::l,[],_,_,h=>by have:=(h a).1 (by simp);cases this
 | a::l,b::m,i,g,h=>by
  rw [ψr] at i g
  have e:a=b:=by
   rcases Υ.1 ((h a).1 (by simp)) with e | f
   .exact e
   .rcases Υ.1 ((h b).2 (by simp)) with e | n
    .exact e.symm
    .exact absurd (k _ _ _ (i.1 b n) (g.1 a f)) (c a)
  subst e
  congr 1
  refine DV c k i.2 g.2 λx=>⟨λd=>?_,λd=>?_⟩
  .rcases Υ.1 ((h x).1 (by simp [d])) with e | f
   .subst e;exact absurd (i.1 x d) (c x)
   .exact f
  .rcases Υ.1 ((h x).2 (by simp [d])) with e | f
   .subst e;exact absurd (g.1 x d) (c x)
   .exact f
abbrev Sc:Sl:=⟨[],0,[]⟩
def Al (r:AW):Int:=
 if r.k=0 then (if r.acc.o≠ []/\r.acc.a≠ []/\0<=r.acc.k/\r.acc.k<5/\r.f=[]/\r.t=[] then 0 else 3)
 else if r.k=1 then (if r.f≠ []/\r.t≠ []/\r.f≠r.t/\r.acc=Sc then 0 else 3)
 else if r.k=2 then (if r.f≠ []/\r.t=[]/\r.acc=Sc then 0 else 3) else 11
theorem XH (r:AW):AM prog 124 [.d (Bd r)] (AF (Al r)):=by
 refine Ax func124 Z Z ntmps124 Z Z Z λF p=>(AD (AE (V (Bi 1 Z Z Z Z Z Z Z) (AB Z Z ?_))));refine AC (AD (AE (AB Z Z (AC (AD (AD (AE (J (AL Z SL Z Z Z) ?_))))))));refine J (AQ Z Z Z Ai Z) (AC (A2 (AD (AE (J (FC Z Z Z) (AB Z Z (AC (A7 Z (λo=>?_) (λo=>?_)))))))))
 .refine AE (J (AL Z EZ Z Z Z) (J (AL Z SM Z Z Z) (J (AQ Z Z Z CL Z) (J (DH Z Z Z) (goMv Z Z (CX 12 Z (λn=>?_) (λn=>?_)))))))
  .refine AR Z Z Z (J (AL Z EZ Z Z Z) ?_);refine AR Z Z Z (J (AL Z PW Z Z Z) (AR Z Z Z (J (AQ Z Z Z CL Z) (AR Z Z Z (J (DH Z Z Z) (J (BY Z Z Z Z) (goMv Z Z (CX 18 Z (λm=>?_) (λm=>?_)))))))))
   .refine AR Z Z Z (J (AL Z EZ Z Z Z) ?_);refine AR Z Z Z (J (AL Z PX Z Z Z) (AR Z Z Z (J (AQ Z Z Z Ai Z) (AR Z Z Z (J (EM Z Z Z) (J (BY Z Z Z Z) (goMv Z Z (CX 24 Z (λl=>?_) (λl=>?_)))))))))
    .refine AR Z Z Z (J (AL Z EZ Z Z Z) ?_);refine AR Z Z Z (J (AL Z PX Z Z Z) (AR Z Z Z (J (AQ Z Z Z Ai Z) (AR Z Z Z (J (Az Z Z Z) (J (BY Z Z Z Z) (goMv Z Z (CX 30 Z (λk=>?_) (λk=>?_)))))))))
     .refine AR Z Z Z (J (AL Z KH Z Z Z) (AR Z Z Z (J (AQ Z Z Z CL Z) (AR Z Z Z (J (KO Z Z Z) (J (BY Z Z Z Z) (goMv Z Z (CX 35 Z (λj=>?_) (λj=>?_)))))))))
      .refine AR Z Z Z (J (AL Z KG Z Z Z) (AR Z Z Z (J (AQ Z Z Z CL Z) (AR Z Z Z (J (KO Z Z Z) (J (BY Z Z Z Z) ?_))))));refine AB Z Z (AC (AD (AD (AE (goMv Z Z (J (Je Z Z) (AC (A7 Z (λa=>?_) (λa=>?_)))))))))
       .refine AD (AE (AB Z Z (AC (AZ ?_))));exact ⟨_,[],[],AY Z,Z,Z,A0 (by unfold Al;simp_all<;>(intros;omega)),Z⟩
       .refine AX (AD (AE (AB Z Z (AC (AZ ?_)))));exact ⟨_,[],[],AY Z,Z,Z,A0 (by unfold Al;simp_all<;>(intros;omega)),Z⟩
      .refine AI Z Z Z Z (AI Z Z Z Z (AI Z Z Z Z (J (Bf Z Z Z Z) (AB Z Z (AC (AD (AD (AE ?_))))))));refine goMv Z Z (J (E9 Z Z) (AC (Bz Z Z (AD (AE (AB Z Z (AC (AZ ?_))))))));exact ⟨_,[],[],AY Z,Z,Z,A0 (by unfold Al;simp_all<;>(intros;omega)),Z⟩
     .refine AI Z Z Z Z (AI Z Z Z Z (AI Z Z Z Z (J (Bf Z Z Z Z) (goMv Z Z ?_))));refine AI Z Z Z Z (AI Z Z Z Z (AI Z Z Z Z (J (Bf Z Z Z Z) (AB Z Z (AC (AD (AD (AE ?_))))))));refine goMv Z Z (J (E9 Z Z) (AC (Bz Z Z (AD (AE (AB Z Z (AC (AZ ?_))))))));exact ⟨_,[],[],AY Z,Z,Z,A0 (by unfold Al;simp_all<;>(intros;omega)),Z⟩
    .refine AI Z Z Z Z (AI Z Z Z Z ?_);refine AI Z Z Z Z (AI Z Z Z Z (J (Bf Z Z Z Z) (goMv Z Z (AI Z Z Z Z (AI Z Z Z Z (AI Z Z Z Z (J (Bf Z Z Z Z) (goMv Z Z ?_))))))));refine AI Z Z Z Z (AI Z Z Z Z (AI Z Z Z Z (J (Bf Z Z Z Z) (AB Z Z (AC (AD (AD (AE ?_))))))));refine goMv Z Z (J (E9 Z Z) (AC (Bz Z Z (AD (AE (AB Z Z (AC (AZ ?_))))))));exact ⟨_,[],[],AY Z,Z,Z,A0 (by unfold Al;simp_all<;>(intros;omega)),Z⟩
   .refine AI Z Z Z Z (AI Z Z Z Z (AI Z Z Z Z (AI Z Z Z Z (J (Bf Z Z Z Z) (goMv Z Z (AI Z Z Z Z (AI Z Z Z Z ?_)))))));refine AI Z Z Z Z (AI Z Z Z Z (J (Bf Z Z Z Z) (goMv Z Z (AI Z Z Z Z (AI Z Z Z Z (AI Z Z Z Z (J (Bf Z Z Z Z) (goMv Z Z ?_))))))));refine AI Z Z Z Z (AI Z Z Z Z (AI Z Z Z Z (J (Bf Z Z Z Z) (AB Z Z (AC (AD (AD (AE ?_))))))));refine goMv Z Z (J (E9 Z Z) (AC (Bz Z Z (AD (AE (AB Z Z (AC (AZ ?_))))))));exact ⟨_,[],[],AY Z,Z,Z,A0 (by unfold Al;simp_all<;>(intros;omega)),Z⟩
  .refine AI Z Z Z Z (AI Z Z Z Z (AI Z Z Z Z (AI Z Z Z Z (J (Bf Z Z Z Z) ?_))));refine goMv Z Z (AI Z Z Z Z (AI Z Z Z Z (AI Z Z Z Z (AI Z Z Z Z (J (Bf Z Z Z Z) (goMv Z Z (AI Z Z Z Z (AI Z Z Z Z ?_))))))));refine AI Z Z Z Z (AI Z Z Z Z (J (Bf Z Z Z Z) (goMv Z Z (AI Z Z Z Z (AI Z Z Z Z (AI Z Z Z Z (J (Bf Z Z Z Z) (goMv Z Z ?_))))))));refine AI Z Z Z Z (AI Z Z Z Z (AI Z Z Z Z (J (Bf Z Z Z Z) (AB Z Z (AC (AD (AD (AE ?_))))))));refine goMv Z Z (J (E9 Z Z) (AC (Bz Z Z (AD (AE (AB Z Z (AC (AZ ?_))))))));exact ⟨_,[],[],AY Z,Z,Z,A0 (by unfold Al;simp_all<;>(intros;omega)),Z⟩
 .refine AD (AE (J (FC Z Z Z) (AB Z Z (AC (A7 Z (λi=>?_) (λi=>?_))))))
  .refine AE (J (AL Z KH Z Z Z) (J (AQ Z Z Z CL Z) (J (DH Z Z Z) (goMv Z Z (CX 45 Z (λh=>?_) (λh=>?_))))))
   .refine AR Z Z Z (J (AL Z KG Z Z Z) (AR Z Z Z (J (AQ Z Z Z CL Z) (AR Z Z Z (J (DH Z Z Z) (J (BY Z Z Z Z) (goMv Z Z (CX 50 Z (λg=>?_) (λg=>?_)))))))))
    .refine AR Z Z Z (J (AL Z KH Z Z Z) (AR Z Z Z (J (AQ Z Z Z CL Z) ?_)));refine AR Z Z Z (J (AL Z KG Z Z Z) (AR Z Z Z (J (AQ Z Z Z CL Z) (AR Z Z Z (J (DH Z Z Z) (J (BY Z Z Z Z) (goMv Z Z (CX 57 Z (λf=>?_) (λf=>?_)))))))))
     .refine AR Z Z Z (J (AL Z EZ Z Z Z) (AR Z Z Z (J (BA Z Z cC Z Z Z) (AR Z Z Z (J (EI ar ce Z Z Z) (AR Z Z Z (J (Fe (la:=Na r.acc) (lb:=Na Sc) (ds:=fv) (by kernel_rfl) (by kernel_rfl) (by kernel_rfl) Z Z Z Z (Dh _) (Dh _) (OD _ _) Z) (J (BY Z Z Z Z) ?_))))))));refine AB Z Z (AC (AD (AD (AE (goMv Z Z (J (Je Z Z) (AC (A7 Z (λa=>?_) (λa=>?_)))))))))
      .refine AD (AE (AB Z Z (AC (AZ ?_))));exact ⟨_,[],[],AY Z,Z,Z,A0 (by unfold Al;simp_all<;>(intros;omega)),Z⟩
      .refine AX (AD (AE (AB Z Z (AC (AZ ?_)))));exact ⟨_,[],[],AY Z,Z,Z,A0 (by unfold Al;simp_all<;>(intros;omega)),Z⟩
     .refine AI Z Z Z Z ?_;refine AI Z Z Z Z (AI Z Z Z Z (AI Z Z Z Z (J (Bf Z Z Z Z) (AB Z Z (AC (AD (AD (AE ?_))))))));refine goMv Z Z (J (E9 Z Z) (AC (Bz Z Z (AD (AE (AB Z Z (AC (AZ ?_))))))));exact ⟨_,[],[],AY Z,Z,Z,A0 (by unfold Al;simp_all<;>(intros;omega)),Z⟩
    .refine AI Z Z Z Z (AI Z Z Z Z (AI Z Z Z Z (AI Z Z Z Z (AI Z Z Z Z (J (Bf Z Z Z Z) (goMv Z Z (AI Z Z Z Z ?_)))))));refine AI Z Z Z Z (AI Z Z Z Z (AI Z Z Z Z (J (Bf Z Z Z Z) (AB Z Z (AC (AD (AD (AE ?_))))))));refine goMv Z Z (J (E9 Z Z) (AC (Bz Z Z (AD (AE (AB Z Z (AC (AZ ?_))))))));exact ⟨_,[],[],AY Z,Z,Z,A0 (by unfold Al;simp_all<;>(intros;omega)),Z⟩
   .refine AI Z Z Z Z (AI Z Z Z Z (AI Z Z Z Z (J (Bf Z Z Z Z) ?_)));refine goMv Z Z (AI Z Z Z Z (AI Z Z Z Z (AI Z Z Z Z (AI Z Z Z Z (AI Z Z Z Z (J (Bf Z Z Z Z) (goMv Z Z (AI Z Z Z Z ?_))))))));refine AI Z Z Z Z (AI Z Z Z Z (AI Z Z Z Z (J (Bf Z Z Z Z) (AB Z Z (AC (AD (AD (AE ?_))))))));refine goMv Z Z (J (E9 Z Z) (AC (Bz Z Z (AD (AE (AB Z Z (AC (AZ ?_))))))));exact ⟨_,[],[],AY Z,Z,Z,A0 (by unfold Al;simp_all<;>(intros;omega)),Z⟩
  .refine AD (AE (J (FC Z Z Z) (AB Z Z (AC (A7 Z (λe=>?_) (λe=>?_))))))
   .refine AE (J (AL Z KH Z Z Z) (J (AQ Z Z Z CL Z) (J (DH Z Z Z) (goMv Z Z (CX 68 Z (λc=>?_) (λc=>?_))))))
    .refine AR Z Z Z (J (AL Z KG Z Z Z) (AR Z Z Z (J (AQ Z Z Z CL Z) (AR Z Z Z (J (KO Z Z Z) (J (BY Z Z Z Z) (goMv Z Z (CX 73 Z (λb=>?_) (λb=>?_)))))))))
     .refine AR Z Z Z (J (AL Z EZ Z Z Z) (AR Z Z Z (J (BA Z Z cC Z Z Z) (AR Z Z Z (J (EI ar ce Z Z Z) (AR Z Z Z (J (Fe (la:=Na r.acc) (lb:=Na Sc) (ds:=fv) (by kernel_rfl) (by kernel_rfl) (by kernel_rfl) Z Z Z Z (Dh _) (Dh _) (OD _ _) Z) (J (BY Z Z Z Z) ?_))))))));refine AB Z Z (AC (AD (AD (AE (goMv Z Z (J (Je Z Z) (AC (A7 Z (λa=>?_) (λa=>?_)))))))))
      .refine AD (AE (AB Z Z (AC (AZ ?_))));exact ⟨_,[],[],AY Z,Z,Z,A0 (by unfold Al;simp_all<;>(intros;omega)),Z⟩
      .refine AX (AD (AE (AB Z Z (AC (AZ ?_)))));exact ⟨_,[],[],AY Z,Z,Z,A0 (by unfold Al;simp_all<;>(intros;omega)),Z⟩
     .refine AI Z Z Z Z ?_;refine AI Z Z Z Z (AI Z Z Z Z (AI Z Z Z Z (J (Bf Z Z Z Z) (AB Z Z (AC (AD (AD (AE ?_))))))));refine goMv Z Z (J (E9 Z Z) (AC (Bz Z Z (AD (AE (AB Z Z (AC (AZ ?_))))))));exact ⟨_,[],[],AY Z,Z,Z,A0 (by unfold Al;simp_all<;>(intros;omega)),Z⟩
    .refine AI Z Z Z Z (AI Z Z Z Z (AI Z Z Z Z (J (Bf Z Z Z Z) (goMv Z Z (AI Z Z Z Z ?_)))));refine AI Z Z Z Z (AI Z Z Z Z (AI Z Z Z Z (J (Bf Z Z Z Z) (AB Z Z (AC (AD (AD (AE ?_))))))));refine goMv Z Z (J (E9 Z Z) (AC (Bz Z Z (AD (AE (AB Z Z (AC (AZ ?_))))))));exact ⟨_,[],[],AY Z,Z,Z,A0 (by unfold Al;simp_all<;>(intros;omega)),Z⟩
   .refine AD (AE (AB Z Z (AC (AZ ?_))));exact ⟨_,[],[],AY Z,Z,Z,A0 (by unfold Al;simp_all<;>(intros;omega)),Z⟩
def Ce:List AW ->AW ->List AW
 | [],r=> [r]
 | a::l,r=>if Bm a r<0 then a::Ce l r else if a=r then a::l else r::a::l
def ak (l:List AW):Prop:=l.Pairwise λa b=>Bm a b<0
theorem insR_mem {x:AW}:x∈Ce d e↔x=e\/x∈d:=by
 induction d with
 | nil=>simp [Ce]
 | cons a d b=>
  grind [Ce]
theorem eC (h:ak d) (r:AW):ak (Ce d r):=by
 induction d with
 | nil=>simp [Ce,ak]
 | cons a d f=>
  simp only [ak,ψr] at h;simp only [Ce]
  split
  .rename_i i
   refine ψr.2 ⟨λx b=>?_,f h.2⟩;rcases insR_mem.1 b with rfl | b
   all_goals (grind)
  .split
   .exact ψr.2 h
   .rename_i i g
    have c:Bm r a<0:=by
     have:=Pu.anti a r;have j:Bm a r≠0:=λe=>g (E4.1 e);omega
    refine ψr.2 ⟨λx b=>?_,ψr.2 h⟩;rcases Υ.1 b with rfl | b
    .exact c
    .exact Pu.trans _ _ _ c (h.1 x b)
def touL (c:List (AW×Int)):List AW:=(c.map Prod.fst).foldl Ce []
theorem JG (c:List (AW×Int)) (x:AW×Int):touL (c++ [x])=Ce (touL c) x.1:=by simp [touL]
theorem KS (c:List (AW×Int)) (r:AW):r∈touL c↔r∈c.map Prod.fst:=by
 induction c using ac with
 | h0=>simp [touL]
 | h1 l x a=>rw [JG,insR_mem,a];simp only [Ω,ψq,List.map_nil,ϖ,κ];exact or_comm
theorem bL (c:List (AW×Int)):ak (touL c):=by
 induction c using ac with
 | h0=>simp [touL,ak]
 | h1 l x a=>rw [JG];exact eC a _
def N8 (c:List (AW×Int)):List (AW×Int):=((touL c).map λr=>(r,An c r)).filter λx=>decide (x.2≠0)
def fE (i:AJ):List (AW×Int):=N8 (ctr i)
theorem P3 (c:List (AW×Int)):(N8 c).Pairwise λa b=>Bm a.1 b.1<0:=by
 unfold N8;refine List.Pairwise.filter _ ?_;rw [ψc];exact bL c
theorem Fc (c:List (AW×Int)) (a:AW) (b:Int):(a,b)∈sumL c↔a∈c.map Prod.fst/\b=An c a:=by
 constructor
 .intro h;refine ⟨(JJ c a).1 (Ξ.2 ⟨_,h,Z⟩),?_⟩;rw [<-K4,Dc (Fb c) h]
 .rintro ⟨h,rfl⟩;rw [<-K4];exact Ic ((JJ c a).2 h)
theorem L5 (c:List (AW×Int)) (x:AW×Int):x∈N8 c↔x∈sumL c/\x.2≠0:=by grind [N8,Fc,KS]
theorem YY {c d f:List (AW×Int)} (k:d.Perm ((sumL c).filter λx=>decide (x.2≠0))) (j:f.Perm d) (i:f.Pairwise λa b=>¬Bm b.1 a.1<0):f=N8 c:=by
 have g:=j.trans k;refine DV (R:=λa b=>Bm a.1 b.1<0) (λx=>by rw [Pu.refl];omega) (λx y z=>Pu.trans x.1 y.1 z.1) ?_ (P3 c) λx=>?_
 .have h:(f.map Prod.fst).Nodup:=by
   refine ((g.map Prod.fst).nodup_iff).2 ?_;exact (Fb c).sublist (List.Sublist.map _ ψj)
  rw [List.Nodup,ψc] at h;refine (i.and h).imp λ{a b} ⟨n,l⟩=>?_;have:=Pu.anti a.1 b.1;have m:Bm a.1 b.1≠0:=λe=>l (E4.1 e);omega
 .rw [g.mem_iff,L5,ωc,ψv]
theorem fH (x:AW×Int):∃a,QL x= .agg a:=⟨_,Z⟩
theorem ZJ {c e:List (AW×Int)} (f:e.Perm ((sumL c).filter λx=>decide (x.2≠0))):e.length=(N8 c).length:=by
 have j:=List.pairwise_mergeSort (le:=λa b:AW×Int=>decide (¬Bm b.1 a.1<0)) (λa b d f i=>by
  have:=Pu.swo.ntrans d.1 b.1 a.1;simp only [ltOf,decide_eq_false_iff_not] at this;simp only [ψv] at f i⊢
  exact this i f) (λa b=>by have:=Pu.anti a.1 b.1;simp only [Bool.or_eq_true,ψv];omega) e
 have g:=List.mergeSort_perm e (λa b:AW×Int=>decide (¬Bm b.1 a.1<0));rw [<-YY f g (j.imp λ{a b} h=>by simpa using h)];exact g.length_eq.symm
section
variable {F:Fr} {s:AS} {d:Nat} {x y:Operand} {ty:TypeId} {pos:String} {aft:Array Edge} {gd:Option (Nat×Bool)} {at_:Array TypeId} {f n:Nat} {row:List D} {hp':Hp}
theorem be (c e:List (AW×Int)) (q:e.Perm ((sumL c).filter λx=>decide (x.2≠0))) (h:e.length<4611686018427387904) (j:s.ev x=some (.own f 0 n)) (i:s.ev y=some (.d (.raw (.func (.func 162) #[] #[])))) (l:hget s.hp f 0=some (.rowD 218 7 row)) (g:row=e.map QL) (m:n=e.length) (o:B7 s.hp f 0 (.rowD 218 7 ((N8 c).map QL))=some hp') (p:Nat.blt d s.n=true):
  AG prog F ⟨some d,.call {callee:= .value (.func 161),args:= #[x,y],argTypes:=at_},ty,pos,aft,gd⟩ s ⟨s.n,(d,.d (.tup []))::s.env,hp'⟩ (λ_ _=>true):=
 Nf laysD (k:=7) (by decide) isAgg218 sizeOf218 func162 Z Z fH (λa b=>Bm a.1 b.1) (Pu.comap Prod.fst).swo e (N8 c) h (λx _ y _=>aL x y) (λu t r=>YY q t r) Z j i Ma l g m o p
end
variable {a:Type} {p:a ->Bool} {c:List a} {x:a} {A:List a}
def A4 (i:AJ):List (AW×Int):=if Ay i=0 then fE i else []
theorem HI {l:List Int} (h:BQ l=0):∀x∈l,x=0:=by
 have:=(V1 (l:=l) (f:=id)).1 (by rw [List.map_id];exact h);exact this
theorem GA {i:AJ} (h:Ay i=0):ItmB i/\(0<=i.id/\i.id<=1000000000)/\(0<=i.sq/\i.sq<=1000000000)/\(0<=i.pr/\i.pr<=2)/\Fj i=0/\Kh i=0/\N9 i=0/\La i=0/\Mk i=0:=by
 unfold Ay at h
 split at h; · cases h
 split at h; · cases h
 rename_i e d
 have a:=HI h;have c:=a (Fj i) (by simp [SE]);have b:=a (Kh i) (by simp [SE]);exact ⟨⟨by omega,by omega,by omega,Rq c,cn b⟩,by omega,by omega,by omega,c,b,a _ (by simp [SE]),a _ (by simp [SE]),a _ (by simp [SE])⟩
theorem Hx (i:AJ):(ctr i).length=i.po.length+4*i.pa.length:=by simp [ctr,EB,Iq]
theorem IX (c:List (AW×Int)):(sumL c).length<=c.length:=by
 induction c using ac with
 | h0=>simp [sumL]
 | h1 l x a=>
  grind [fu,Kw,sumL]
theorem nxt_in {B X:List a} (e:(c++A.filter p).Perm X) (d:A.Perm (x::B)) (b:p x=true):((c++ [x])++B.filter p).Perm X:=by
 have h:=d.filter p;rw [List.filter_cons_of_pos b] at h;rw [ψi];exact (List.Perm.append_left c h.symm).trans e
theorem nxt_out {B X:List a} (e:(c++A.filter p).Perm X) (d:A.Perm (x::B)) (b:¬p x=true):(c++B.filter p).Perm X:=by
 have h:=d.filter p;rw [List.filter_cons_of_neg b] at h;exact (List.Perm.append_left c h.symm).trans e
theorem Xo {M:List a} (b:(c++A.filter p).Perm (M.filter p)):c.length<=M.length:=by
 have h:=b.length_eq
 grind
theorem Up (i:AJ) (C:i.po.length<=140737488355328) (B:i.pa.length<=140737488355328) (A:i.af.length<=140737488355328):AM prog 118 [.d (Af i)] (.tup [.sl none ((A4 i).map QL),AF (Ay i)]):=by
 by_cases o:Ay i=0
 .have u:=(GA o).1;have v:A4 i=fE i:=ς o
  obtain ⟨M,f⟩:∃M,sumL (ctr i)=M:=⟨_,Z⟩
  have w:=(R8 i u).by [(2,20)] rfl;have y:M.length<=1280:=by rw [<-f];have H:=IX (ctr i);have G:=Hx i;have E:=u.po;have D:=u.pa;omega
  rw [f] at w;rw [v];have c:=L7 i C B A;rw [o] at c⊢;refine Ax func118 Z Z ntmps118 Z Z Z λF p=>(AD (AE (V (Bi 1 Z Z Z Z Z Z Z) (AB Z Z (AB Z Z (AC (AD ?_)))))));refine AD (AE (J (BA Z Z CO Z Z Z) (J (Aw (c) Z Z) (AB Z Z (AC (AD (AE (goMv Z Z ?_))))))));refine J (C7 Z Z Z) (AC (Cu Z (by decide) (AX (AD (AE (AB Z Z (AC (AD ?_))))))));refine AD (NR 5 900 bv Z Z Z Z (AE (J (BA Z Z CO Z Z Z) (V (FG w Z [20] ⟨Z,trivial⟩ Z Z Z Z Z Z Z Z Z) (V (Gs 2 Z Z Z CQ Z Z Z Z) (AC (A2 (BO (α:=List Nat×List (AW×Int)) (λq=>⟨32,[(5,(.own 900 0 q.2.length)),(15,(.ptr 2 0 0))],[(2,[.iter 20 0 M.length q.1]),(20,[B1 Bd AF M]),(900,[.rowD 218 7 (q.2.map QL)])]⟩) (λq=>(q.2++(CE M (List.range M.length) q.1).filter (λx=>decide (x.2≠0))).Perm (M.filter λx=>decide (x.2≠0))) (λq=>(CE M (List.range M.length) q.1).length) (([],[])) (by rw [ZcM (by simp)];exact List.Perm.refl _) (AU p [2,20,900] Z Z ⟨Z,Z,trivial⟩) ?_))))))));rintro ⟨seen,j⟩ k;dsimp only at k⊢;refine AD (AE (MM (M) Z Z Z Z (λm=>?_) (λt b s r l n z a=>⟨_,Z,?_⟩)))
  .refine J (DG Z Z Z) (AC (AD (Cu Z Z (Ar (AD ?_)))));have e:j.Perm ((sumL (ctr i)).filter λx=>decide (x.2≠0)):=by have h:=k;rw [m,List.filter_nil,ωi] at h;rw [f];exact h
   refine AE (goMv Z Z (V (be (ctr i) j e (by have:=Xo k;omega) Z Z Z Z Z Z Z) ?_));refine AC (AD (KP (emb:=QL) 5 900 (fE i) Z Z Z (ZJ e) Z Z Z (AE (goMv Z Z (AB Z Z (AB Z Z (AC (AZ ?_))))))));exact ⟨_,[],[],AY Z,Z,Z,Z,Z⟩
  .refine J (DG Z Z Z) (AC (AD ?_));refine Bz Z Z (AX (A2 (AD (AE (J (Gt (M) t b Z Z Z l n Z) (J (DG Z Z Z) (J (DG Z Z Z) (V (CA 3 KQ Z Z Z Z) ?_))))))));refine V (B4 Z Z Z Z Z Z Z Yv) (AB Z Z (AC (AD (AE (goMv Z Z (J (C7 Z Z Z) (AC (A7 Z (λg=>?_) (λg=>?_)))))))))
   .refine AE (goMv Z Z (J (BA Z Z Cc Z Z Z) (goMv Z Z (J (EI ax pl218 Z Z Z) (V (C1 4 bv Z Z Z Z Z Z Z Z) (V (Eu (j) ([(s,r)]) Z Z Z Z Z Z Z Z bv (by have:=Xo k;simp only [υ];omega) Z Z Z Z) (AB Z Z (AC ?_))))))));exact ⟨(seen++ [b],_),nxt_in k a (by simpa using g),by show (CE M (List.range M.length) (seen++ [b])).length<(CE M (List.range M.length) seen).length;rw [a.length_eq];exact ψp _,AU p [2,20,900] Z (Z) ⟨Z,Z,trivial⟩⟩
   .refine AX ?_;exact ⟨(seen++ [b],_),nxt_out k a (by simpa using g),by show (CE M (List.range M.length) (seen++ [b])).length<(CE M (List.range M.length) seen).length;rw [a.length_eq];exact ψp _,AU p [2,20,900] Z (Z) ⟨Z,Z,trivial⟩⟩
 .have c:=L7 i C B A;have v:A4 i=[]:=η o;rw [v];refine Ax func118 Z Z ntmps118 Z Z Z λF p=>(AD ?_);refine AE (V (Bi 1 Z Z Z Z Z Z Z) (AB Z Z (Yb 2 Z (AB Z Z (AC (AD (AD (AE ?_))))))));refine J (BA Z Z CO Z Z Z) (J (Aw (c) Z Z) (AB Z Z (AC (AD (AE (goMv Z Z (J (C7 Z Z Z) (AC ?_))))))));refine Bz Z ((by simpa using o)) (AD (AE (goMv Z Z (AB Z Z (Yb 2 Z (AB Z Z (AC (AZ ?_))))))));exact ⟨_,[],[],AY Z,Z,Z,Z,Z⟩
def CC (i:AJ) (r:AW):Int:=if Ay i=0/\Al r=0 then An (ctr i) r else 0
theorem YZ (i:AJ) (r:AW) (k:i.po.length<=140737488355328) (j:i.pa.length<=140737488355328) (g:i.af.length<=140737488355328):AM prog 70 [.d (Af i),.d (Bd r)] (AF (CC i r)):=by
 by_cases c:Ay i=0
 .have l:=(GA c).1
  obtain ⟨M,b⟩:∃M,sumL (ctr i)=M:=⟨_,Z⟩
  have f:=(R8 i l).by [(2,20)] rfl;rw [b] at f;have a:=L7 i k j g;rw [c] at a;refine Ax func70 Z Z ntmps70 Z Z Z λF n=>(AD (AE (V (Bi 1 Z Z Z Z Z Z Z) (V (Bi 2 Z Z Z Z Z Z Z) (AB Z Z ?_)))));refine AC (AD (AD (AE (J (BA Z Z CO Z Z Z) (J (Aw (a) Z Z) (J (C7 Z Z Z) (goMv Z Z (Du 8 Z (by decide) ?_))))))));refine AR Z Z Z (J (BA Z Z Cc Z Z Z) (AR Z Z Z (J (Aw (XH r) Z Z) (AR Z Z Z (J (C7 Z Z Z) (J (Bf Z Z Z Z) (AC (A7 Z (λe=>?_) (λe=>?_)))))))))
  .refine AD (AE (AB Z Z (AC (AZ ?_))));exact ⟨_,[],[],AY Z,Z,Z,A0 (by rw [CC,η];simp_all),Z⟩
  .refine AX (AD ?_);refine CD [[],[0],[],[0,1,2],[0,1,2,3]] mixed Z (Bt (Aj [2] Z Z (λ_=>A8 (BA Z Z CO Z Z Z)) (F5 [13] [20] [(14,_)] Z Z (λ_=>F6 (FG f Z [20] ⟨Z,trivial⟩ Z Z Z Z Z Z Z Z Z)) (.inr ⟨14,_,Z,Z,Z,Z,Z⟩) Z Z Z Z Z (Aj [3] Z Z (λ_=>A8 (BA Z Z Cc Z Z Z)) (Bk 3 Z Z Z (Ab 4 Z Z (J (IR (M) (r) (0) _ Z Z Z CQ C4 Pp Z Z) (AC ⟨Z,?_⟩))))))));refine Ab 5 Z Z (AB Z Z (AC ⟨Z,?_⟩));refine Bx (AZ ?_);exact ⟨_,[],[],AY Z,Z,Z,A0 (by rw [CC,ς ⟨c,by simpa using e⟩,<-b,K4]),Z⟩
 .have a:=L7 i k j g;have m:CC i r=0:=η λh=>c h.1;rw [m];refine Ax func70 Z Z ntmps70 Z Z Z λF n=>(AD (AE (V (Bi 1 Z Z Z Z Z Z Z) (V (Bi 2 Z Z Z Z Z Z Z) (AB Z Z (AC (AD ?_)))))));refine AD (AE (J (BA Z Z CO Z Z Z) (J (Aw (a) Z Z) (J (C7 Z Z Z) (goMv Z Z (EU 8 Z ((by simpa using c)) (AI Z Z Z Z (AI Z Z Z Z ?_))))))));refine AI Z Z Z Z (J (BY Z Z Z Z) (AC (Bz Z Z (AD (AE (AB Z Z (AC (AZ ?_))))))));exact ⟨_,[],[],AY Z,Z,Z,Z,Z⟩
theorem Qd (a b:Int):AM prog 199 [.d (AF a),.d (AF b)] (AF (Cf a b)):=by
 refine Ax func199 Z Z ntmps199 Z Z Z λF f=>(AD (AE (AB Z Z ?_)));refine AC (AD (AD (AE (goMv Z Z (goMv Z Z (J (Az Z Z Z) (AC (A7 Z (λe=>?_) (λe=>?_)))))))))
 .refine AD (AE (AB Z Z (AC (AZ ?_))));exact ⟨_,[],[],AY Z,Z,Z,A0 (by unfold Cf;(repeat' split)<;>omega),Z⟩
 .refine AX (AD (AD (AE (goMv Z Z (goMv Z Z (J (Gi Z Z Z) (AC (A7 Z (λc=>?_) (λc=>?_)))))))))
  .refine AD (AE (AB Z Z (AC (AZ ?_))));exact ⟨_,[],[],AY Z,Z,Z,A0 (by unfold Cf;(repeat' split)<;>omega),Z⟩
  .refine AX (AD (AE (AB Z Z (AC (AZ ?_)))));exact ⟨_,[],[],AY Z,Z,Z,A0 (by unfold Cf;(repeat' split)<;>omega),Z⟩
theorem JO (a b:List UInt8):AM prog 200 [.d (Aq a),.d (Aq b)] (AF (CS a b)):=by
 refine Ax func200 Z Z ntmps200 Z Z Z λF f=>(AD (AE (AB Z Z ?_)));refine AC (AD (AD (AE (goMv Z Z (goMv Z Z (J (XW Z Z Z) (AC (JC Z (λe=>?_) (λe=>?_)))))))))
 .rw [ZcD] at e;refine AD (AE (AB Z Z (AC (AZ ?_))));exact ⟨_,[],[],AY Z,Z,Z,by first | exact A0 (by unfold CS;rw [ς e]) | exact A0 (by unfold CS;rw [η (by rw [e];decide),ς c]) | exact A0 (by unfold CS;rw [η (by rw [e];decide),η (by rw [c];decide)]),Z⟩
 .rw [ZcD] at e;refine AX (AD (AD (AE (goMv Z Z (goMv Z Z (J (XY Z Z Z) (AC (JC Z (λc=>?_) (λc=>?_)))))))))
  .rw [ZcD] at c;refine AD (AE (AB Z Z (AC (AZ ?_))));exact ⟨_,[],[],AY Z,Z,Z,by first | exact A0 (by unfold CS;rw [ς e]) | exact A0 (by unfold CS;rw [η (by rw [e];decide),ς c]) | exact A0 (by unfold CS;rw [η (by rw [e];decide),η (by rw [c];decide)]),Z⟩
  .rw [ZcD] at c;refine AX (AD (AE (AB Z Z (AC (AZ ?_)))));exact ⟨_,[],[],AY Z,Z,Z,by first | exact A0 (by unfold CS;rw [ς e]) | exact A0 (by unfold CS;rw [η (by rw [e];decide),ς c]) | exact A0 (by unfold CS;rw [η (by rw [e];decide),η (by rw [c];decide)]),Z⟩
set_option maxHeartbeats 2000000 in
theorem Rm (a b:AW):AM prog 158 [.d (Bd a),.d (Bd b)] (AF (Bm a b)):=by
 obtain ⟨l,g⟩:∃l,[Cf a.k b.k,CS a.acc.o b.acc.o,Cf a.acc.k b.acc.k,CS a.acc.a b.acc.a,CS a.f b.f,CS a.t b.t]=l:=⟨_,Z⟩
 have n:l.length=6:=by rw [<-g];rfl
 have q:Bm a b=BQ (l.map id):=by rw [<-g];rfl
 have o:[AF (Cf a.k b.k),AF (CS a.acc.o b.acc.o),AF (Cf a.acc.k b.acc.k),AF (CS a.acc.a b.acc.a),AF (CS a.f b.f),AF (CS a.t b.t)]=l.map AF:=by rw [<-g];rfl
 rw [q];refine Ax func158 Z Z ntmps158 Z Z Z λF j=>(AD (AE (V (Bi 1 Z Z Z Z Z Z Z) ?_)));refine V (Bi 2 Z Z Z Z Z Z Z) (AB Z Z (AC (AD (CD [[],[0],[],[2],[0,1,2,3],[],[5],[5,6],[],[8],[8,9],rg 11,[],[12],[12,13],[],[15],[15,16],rg 18,[],[19],[19,20],[],[22],[22,23],rg 25,[],[26],[],[28],rg 30,[],[31],[],[33],rg 35,rg 36,rg 37] mixed Z (Bt (AP [2] Z (AL Z Gd Z Z Z) (Aj [7] Z Z (λ_=>A8 (AQ Z Z Z Ai Z)) (AP [3] Z (AL Z Gd Z Z Z) ?_))))))));refine Aj [9] Z Z (λ_=>A8 (AQ Z Z Z Ai Z)) (AP [8,10] Z (Aw (Qd a.k b.k) Z Z) (AP [2] Z (AL Z EX Z Z Z) (AP [12] Z (AL Z SK Z Z Z) (Aj [13] Z Z (λ_=>A8 (AQ Z Z Z CL Z)) (AP [3] Z (AL Z EX Z Z Z) (AP [15] Z (AL Z SK Z Z Z) (Aj [16] Z Z (λ_=>A8 (AQ Z Z Z CL Z)) (AP [14,17] Z (Aw (JO a.acc.o b.acc.o) Z Z) ?_))))))));refine AP [2] Z (AL Z EX Z Z Z) (AP [19] Z (AL Z M8 Z Z Z) (Aj [20] Z Z (λ_=>A8 (AQ Z Z Z Ai Z)) (AP [3] Z (AL Z EX Z Z Z) (AP [22] Z (AL Z M8 Z Z Z) (Aj [23] Z Z (λ_=>A8 (AQ Z Z Z Ai Z)) (AP [21,24] Z (Aw (Qd a.acc.k b.acc.k) Z Z) (AP [2] Z (AL Z EX Z Z Z) (AP [26] Z (AL Z M7 Z Z Z) ?_))))))));refine Aj [27] Z Z (λ_=>A8 (AQ Z Z Z CL Z)) (AP [3] Z (AL Z EX Z Z Z) (AP [29] Z (AL Z M7 Z Z Z) (Aj [30] Z Z (λ_=>A8 (AQ Z Z Z CL Z)) (AP [28,31] Z (Aw (JO a.acc.a b.acc.a) Z Z) (AP [2] Z (AL Z FA Z Z Z) (Aj [33] Z Z (λ_=>A8 (AQ Z Z Z CL Z)) (AP [3] Z (AL Z FA Z Z Z) (Aj [35] Z Z (λ_=>A8 (AQ Z Z Z CL Z)) ?_))))))));refine AP [34,36] Z (Aw (JO a.f b.f) Z Z) (AP [2] Z (AL Z Ez Z Z Z) (Aj [38] Z Z (λ_=>A8 (AQ Z Z Z CL Z)) (AP [3] Z (AL Z Ez Z Z Z) (Aj [40] Z Z (λ_=>A8 (AQ Z Z Z CL Z)) (Bk 35 Z Z Z (Ab 36 Z Z (J (Aw (JO a.t b.t) Z Z) (AC ⟨Z,?_⟩))))))));refine Ab 37 Z Z (V (C1 3 BT Z Z Z Z Z Z Z Z) ?_);rw [o];refine Vb (emb:=AF) 43 3 l Z Z Z n.symm Z Z Z (AC ⟨Z,?_⟩);refine Ab 38 Z Z (AB Z Z (AC ⟨Z,?_⟩));refine Bx (AD (AD (AE (AB Z Z (AC (A2 (BO (α:=Nat) (λk=>⟨59,[(5,(.d (.sl none (l.map AF)))),(6,(.d (AF (k:Int))))],[]⟩) (λk=>k<=l.length/\BQ (l.map id)=BQ ((l.drop k).map id)) (λk=>l.length - k) (0) (⟨ζ _,Z⟩) (AU j [] Z Z ⟨Z,Z,trivial⟩) ?_)))))));rintro k ⟨p,i⟩;refine AD (AD (AE (goMv Z Z (goMv Z Z (J (BU Z underlying28 Z) (J (Az Z Z Z) (AC (A7 Z (λf=>?_) (λf=>?_)))))))))
 .have c:k<l.length:=BR f;refine AX (AD (A2 (AD (AE ?_))));have m:=Zcx c i;refine goMv Z Z (goMv Z Z (J (BC (k) Z Z (Z) (A3 c) underlying28 Z BD Z) (J (CF Z Z Ai Z) (J (C7 Z Z Z) (AC (A7 Z (λe=>?_) (λe=>?_)))))))
  .refine AD (AE (goMv Z Z (goMv Z Z (J (BC (k) Z Z (Z) (A3 c) underlying28 Z BD Z) (J (CF Z Z Ai Z) (AB Z Z (AC (AZ ?_))))))));exact ⟨_,[],[],AY Z,Z,Z,A0 (m.2 l[k] Z (by simpa using e)),Z⟩
  .refine AX (AE (goMv Z Z (J (Ah Z Z (AK (k+1) (by omega)) Z) (AB Z Z (AC ?_)))));exact ⟨k+1,⟨by show k+1<=_;omega,m.1 (by simpa using e)⟩,by show l.length - (k+1)<l.length - k;omega,AU j [] Z (Z) ⟨Z,Z,trivial⟩⟩
 .refine Ar (AD (AE (AB Z Z (AC (AZ ?_)))));exact ⟨_,[],[],AY Z,Z,Z,A0 (by rw [i,DP (by have h:=f;omega)]),Z⟩
theorem Td (a b:AJ):AM prog 109 [.d (Af a),.d (Af b)] (.raw (.bool (decide (ES a b<0)))):=by
 have c:ES a b<0↔b.pr<a.pr\/a.pr=b.pr/\a.sq<b.sq:=by
  unfold ES Cf;simp only [BQ]
  repeat' split
  all_goals omega
 refine Ax func109 Z Z ntmps109 Z Z Z λF g=>(AD (AE (V (Bi 1 Z Z Z Z Z Z Z) (V (Bi 2 Z Z Z Z Z Z Z) (AB Z Z (AC ?_))))));refine AD (AE (J (AL Z Hs Z Z Z) (J (AQ Z Z Z Ai Z) (J (AL Z Hs Z Z Z) (J (AQ Z Z Z Ai Z) (J (Gi Z Z Z) (goMv Z Z (CX 10 Z (λf=>?_) (λf=>?_)))))))))
 .refine AI Z Z Z Z (AI Z Z Z Z (AI Z Z Z Z (AI Z Z Z Z (AI Z Z Z Z (AI Z Z Z Z (KN Z Z Z ?_))))));refine KN Z Z Z (KN Z Z Z (KN Z Z Z (KN Z Z Z (AI Z Z Z Z (J (BY Z Z Z Z) (AB Z Z (AC (AZ ?_))))))));exact ⟨_,[],[],AY Z,Z,Z,by first | exact Rg (by rw [c];omega) | exact DK (by rw [c];omega) | exact O6 (by rw [c];omega),Z⟩
 .refine AR Z Z Z (J (AL Z Hs Z Z Z) (AR Z Z Z (J (AQ Z Z Z Ai Z) ?_)));refine AR Z Z Z (J (AL Z Hs Z Z Z) (AR Z Z Z (J (AQ Z Z Z Ai Z) (AR Z Z Z (J (FC Z Z Z) (AR Z Z Z (goMv Z Z (CX 16 Z (λe=>?_) (λe=>?_)))))))))
  .refine AR Z Z Z (J (AL Z Io Z Z Z) (AR Z Z Z (J (AQ Z Z Z Ai Z) (AR Z Z Z (J (AL Z Io Z Z Z) (AR Z Z Z ?_))))));refine J (AQ Z Z Z Ai Z) (AR Z Z Z (J (Az Z Z Z) (AR Z Z Z (J (BY Z Z Z Z) (J (Bf Z Z Z Z) (AB Z Z (AC (AZ ?_))))))));exact ⟨_,[],[],AY Z,Z,Z,by first | exact Rg (by rw [c];omega) | exact DK (by rw [c];omega) | exact O6 (by rw [c];omega),Z⟩
  .refine AI Z Z Z Z (AI Z Z Z Z ?_);refine AI Z Z Z Z (AI Z Z Z Z (AI Z Z Z Z (AR Z Z Z (J (Bf Z Z Z Z) (J (Bf Z Z Z Z) (AB Z Z (AC (AZ ?_))))))));exact ⟨_,[],[],AY Z,Z,Z,by first | exact Rg (by rw [c];omega) | exact DK (by rw [c];omega) | exact O6 (by rw [c];omega),Z⟩
theorem cp (r:AW):AM prog 47 [.d (Bd r)] (Bd r):=by
 refine Ax func47 Z Z ntmps47 Z Z Z λF a=>(AD ?_);refine AE (V (Bi 1 Z Z Z Z Z Z Z) (V (CA 2 KQ Z Z Z Z) (AC (AD (AE (J (AL Z Gd Z Z Z) (J (AQ Z Z Z Ai Z) (J (AL Z EX Z Z Z) ?_))))))));refine J (BA Z Z ZO Z Z Z) (J (AL Z FA Z Z Z) (J (AQ Z Z Z CL Z) (J (AL Z Ez Z Z Z) (J (AQ Z Z Z CL Z) (J (EI KQ Tk Z Z Z) (V (B4 Z Z Z Z Z Z Z Yv) (AC (AZ ?_))))))));exact ⟨_,[],[],AY Z,Z,Z,Z,Z⟩
theorem aZ (r:AW):AM prog 60 [.d (Bd r)] (Bd r):=by
 refine Ax func60 Z Z ntmps60 Z Z Z λF a=>(AD ?_);refine AE (V (Bi 1 Z Z Z Z Z Z Z) (V (CA 2 St Z Z Z Z) (AC (AD (AE (J (AL Z SL Z Z Z) (J (AQ Z Z Z Ai Z) (J (AL Z EZ Z Z Z) ?_))))))));refine J (BA Z Z cC Z Z Z) (J (AL Z KH Z Z Z) (J (AQ Z Z Z CL Z) (J (AL Z KG Z Z Z) (J (AQ Z Z Z CL Z) (J (EI St Z1 Z Z Z) (V (B4 Z Z Z Z Z Z Z KX) (AC (AZ ?_))))))));exact ⟨_,[],[],AY Z,Z,Z,Z,Z⟩
theorem GR {l:List a} (h:c=l.take c.length) (b:c.length<l.length):c++ [l[c.length]]=l.take (c++ [l[c.length]]).length:=by
 rw [Δ,υ,ψ b,<-h]
theorem IW {l:List a} (h:c=l.take c.length) (b:¬c.length<l.length):c=l:=by grind
theorem KR (b:List a) (x:a) (h:b.length<9223372036854775807):IntKind.i64.wrap ((b.length:Int)+1)=(((b++ [x]).length:Nat):Int):=by
 rw [Δ];exact AK (b.length+1) (by omega)
abbrev Ex:AV:= .d (.sl (some true) [])
theorem Z3 (i:AJ) (s:i.po.length<=10000) (r:i.pa.length<=10000) (q:i.af.length<=10000):AM prog 48 [.d (Af i)] (Af i):=by
 refine Ax func48 Z Z ntmps48 Z Z Z λF l=>(AD (AE (V (Bi 1 Z Z Z Z Z Z Z) (V (CA 2 FJ Z Z Z Z) (AC (AD ?_))))));refine CD [[],[0],[],[2],[],[4],[],[],[7],[6,7,8],rg 10,[],rg 12] mixed Z (Bt (AP [1] Z (AL Z Fv Z Z Z) (Aj [6] Z Z (λ_=>A8 (AQ Z Z Z Ai Z)) (AP [1] Z (AL Z Hs Z Z Z) (Aj [8] Z Z (λ_=>A8 (AQ Z Z Z Ai Z)) (AP [1] Z (AL Z Io Z Z Z) (Aj [10] Z Z (λ_=>A8 (AQ Z Z Z Ai Z)) (F5 [] [3] [(12,_)] Z Z (λ_=>F6 (C1 3 BT Z Z Z Z Z Z Z Z)) (.inr ⟨12,_,Z,Z,Z,Z,Z⟩) Z Z Z Z Z ?_))))))));refine AP [1] Z (AL Z QP Z Z Z) (Aj [13] Z Z (λ_=>A8 (AQ Z Z Z BF Z)) (F5 [12,14] [3] [(15,_)] Z Z (λ_=>F6 (QR (([]:List Int)) (i.af) Z Z Z Z Z Z (λ_=>rfl) BT (by simp only [χc];omega) Z Z Z Z)) (.inr ⟨15,_,Z,Z,Z,Z,Z⟩) Z Z Z Z Z (AP [7,9,11,15] Z (EI FJ pl55 Z Z Z) (F5 [] [4] [(3,_)] Z Z (λ_=>F6 (CA 4 FJ Z Z Z Z)) (.inr ⟨3,_,Z,Z,Z,Z,Z⟩) Z Z Z Z Z (Bk 12 Z Z Z (Ab 13 Z Z (V (B4 Z Z Z Z Z Z Z Cm) (AC ⟨Z,?_⟩))))))));refine Bx ?_;refine AD (AD (Va (ys:=i.af.map AF) 4 0 5 3 Z Z Z (by simp) (θ (by simp)) Z Z Z Z Z Z (XA 4 0 3 901 ZK Z Z Z Z Z Z Z (AE (AB Z Z (AC (A2 (BO (α:=List EC) (λb=>⟨60,[(1,(.ptr 1 0 0)),(2,(.ptr 2 0 0)),(3,(.ptr 4 0 0)),(4,(.d (AF (b.length:Int))))],[(901,[.rowD 158 4 (b.map BV)]),(1,[.blk 93 [.d (AF i.id),.d (AF i.pr),.d (AF i.sq),.d (.sl none (i.po.map BV)),.d (.sl none (i.pa.map C8)),.d (.sl none (i.af.map AF))]]),(2,[.blk 55 [.d (AF 0),.d (AF 0),.d (AF 0),Ex,Ex,Ex]]),(4,[.blk 55 [.d (AF i.id),.d (AF i.pr),.d (AF i.sq),.own 901 0 b.length,Ex,.d (.sl none (i.af.map AF))]])]⟩) (λb=>b=i.po.take b.length/\b.length<=i.po.length) (λb=>i.po.length - b.length) ([]) (⟨by simp,ζ _⟩) (AU l [901,1,2,4] Z Z ⟨Z,Z,Z,Z,trivial⟩) ?_))))))));rintro b ⟨n,p⟩;refine AD ?_;refine AD (AE (goMv Z Z (J (AL Z OH Z Z Z) (J (AQ Z Z Z Fm Z) (J (BU Z underlying90 Z) (J (Az Z Z Z) (AC (A7 Z (λg=>?_) (λg=>?_)))))))))
 .have c:b.length<i.po.length:=BR g;refine AX (AD (A2 (CD [[],[0],[],[2],[],[2,3,4],[2,3,4,5],[2,3,4,5,6],[],[8],[],[8,9,10],[8,9,10,11],[8,9,10,11,12],[2,3,4,5,6,7,8,9,10,11,12,13],[2,3,4,5,6,7,8,9,10,11,12,13,14],rg 16,rg 17,rg 18] mixed Z (Bt (AP [3] Z (AL Z E1 Z Z Z) (Aj [24] Z Z (λ_=>A8 (AQ Z Z Z QE Z)) ?_))))));refine AP [1] Z (AL Z OH Z Z Z) (Aj [26] Z Z (λ_=>A8 (AQ Z Z Z Fm Z)) (Ak 4 Z Z (AP [27,28] Z (BC (b.length) Z Z (Z) (A3 c) underlying90 Z IE Z) (AP [29] Z (V3 Z FQ Z Z Z) (AP [30] Z (Ca Z Z ZO Z) (AP [1] Z (AL Z OH Z Z Z) (Aj [32] Z Z (λ_=>A8 (AQ Z Z Z Fm Z)) (Ak 4 Z Z ?_))))))));refine AP [33,34] Z (BC (b.length) Z Z (Z) (A3 c) underlying90 Z IE Z) (AP [35] Z (NP Z LP Z Z Z) (AP [36] Z (CF Z Z Fn Z) (AP [31,37] Z (EI QV ci Z Z Z) (F5 [38] [5] [(39,_)] Z Z (λ_=>F6 (C1 5 ZK Z Z Z Z Z Z Z Z)) (.inr ⟨39,_,Z,Z,Z,Z,Z⟩) Z Z Z Z Z (Bk 16 Z Z Z (Ab 17 Z Z (V (Eu (b) ([i.po[b.length]]) Z Z Z Z Z Z Z Z ZK (by simp only [υ];omega) Z Z Z Z) (AC ⟨Z,?_⟩))))))));refine Ab 18 Z Z (J (AL Z E1 Z Z Z) (AC ⟨Z,?_⟩));refine Ab 19 Z Z (V (B4 Z Z Z Z Z Z Z sz52) (AC ⟨Z,?_⟩));refine Bx (AE (goMv Z Z (J (Ah Z Z (KR b i.po[b.length] (by omega)) Z) (AB Z Z (AC ?_)))));exact ⟨b++ [i.po[b.length]],⟨GR n c,by rw [Δ];show b.length+1<=_;omega⟩,by rw [Δ];show i.po.length - (b.length+1)<i.po.length - b.length;omega,AU l [901,1,2,4] Z (Z) ⟨Z,Z,Z,Z,trivial⟩⟩
 .refine Ar (AD (AD ?_));have k:=IW n (λh=>g (by omega));refine Va (ys:=i.po.map BV) 4 0 3 901 Z Z Z (by simp) (by rw [k];exact θ (by simp)) Z Z Z Z Z Z (XA 4 0 4 902 bt Z Z Z Z Z Z Z (AE (AB Z Z (AC (A2 (BO (α:=List Jl) (λa=>⟨60,[(1,(.ptr 1 0 0)),(2,(.ptr 2 0 0)),(3,(.ptr 4 0 0)),(5,(.d (AF (a.length:Int))))],[(902,[.rowD 161 3 (a.map C8)]),(1,[.blk 93 [.d (AF i.id),.d (AF i.pr),.d (AF i.sq),.d (.sl none (i.po.map BV)),.d (.sl none (i.pa.map C8)),.d (.sl none (i.af.map AF))]]),(2,[.blk 55 [.d (AF 0),.d (AF 0),.d (AF 0),Ex,Ex,Ex]]),(4,[.blk 55 [.d (AF i.id),.d (AF i.pr),.d (AF i.sq),.d (.sl none (i.po.map BV)),.own 902 0 a.length,.d (.sl none (i.af.map AF))]])]⟩) (λa=>a=i.pa.take a.length/\a.length<=i.pa.length) (λa=>i.pa.length - a.length) ([]) (⟨by simp,ζ _⟩) (AU l [902,1,2,4] Z Z ⟨Z,Z,Z,Z,trivial⟩) ?_))))));rintro a ⟨m,o⟩;refine AD ?_;refine AD (AE (goMv Z Z (J (AL Z Cs Z Z Z) (J (AQ Z Z Z Jb Z) (J (BU Z underlying91 Z) (J (Az Z Z Z) (AC (A7 Z (λf=>?_) (λf=>?_)))))))))
  .have j:a.length<i.pa.length:=BR f;refine AX (AD (A2 (CD [[],[0],[],[2],[],[2,3,4],[2,3,4,5],[2,3,4,5,6],rg 8,rg 9,rg 10] mixed Z (Bt (AP [3] Z (AL Z Fw Z Z Z) (Aj [49] Z Z (λ_=>A8 (AQ Z Z Z To Z)) (AP [1] Z (AL Z Cs Z Z Z) ?_)))))));refine Aj [51] Z Z (λ_=>A8 (AQ Z Z Z Jb Z)) (Ak 5 Z Z (AP [52,53] Z (BC (a.length) Z Z (Z) (A3 j) underlying91 Z K0 Z) (AP [54] Z (Ca Z Z Q5 Z) (F5 [55] [6] [(56,_)] Z Z (λ_=>F6 (C1 6 bt Z Z Z Z Z Z Z Z)) (.inr ⟨56,_,Z,Z,Z,Z,Z⟩) Z Z Z Z Z (Bk 8 Z Z Z (Ab 9 Z Z (V (Eu (a) ([i.pa[a.length]]) Z Z Z Z Z Z Z Z bt (by simp only [υ];omega) Z Z Z Z) (AC ⟨Z,?_⟩))))))));refine Ab 10 Z Z (J (AL Z Fw Z Z Z) (AC ⟨Z,?_⟩));refine Ab 11 Z Z (V (B4 Z Z Z Z Z Z Z sz53) (AC ⟨Z,?_⟩));refine Bx (AE (goMv Z Z (J (Ah Z Z (KR a i.pa[a.length] (by omega)) Z) (AB Z Z (AC ?_)))));exact ⟨a++ [i.pa[a.length]],⟨GR m j,by rw [Δ];show a.length+1<=_;omega⟩,by rw [Δ];show i.pa.length - (a.length+1)<i.pa.length - a.length;omega,AU l [902,1,2,4] Z (Z) ⟨Z,Z,Z,Z,trivial⟩⟩
  .refine Ar (AD ?_);have e:=IW m (λh=>f (by omega));refine Va (ys:=i.pa.map C8) 4 0 4 902 Z Z Z (by simp) (by rw [e];exact θ (by simp)) Z Z Z Z Z Z (AE (J (BA Z Z CO Z Z Z) (V (B4 Z Z Z Z Z Z Z Cm) (AC (AZ ?_)))));exact ⟨_,[],[],AY Z,Z,Z,Z,Z⟩
end Go.Proofs.YteifpcnphnhaoaaGreat
