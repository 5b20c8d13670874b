import Derived.Test.YteifpcnphnhaoaaGreatMg16
import Derived.Shelf.SlLaysF
import Derived.Shelf.SlLaysF0
import Derived.Shelf.SlLaysNS
import Derived.Test.YteifpcnphnhaoaaGreatProg
open Go.Proofs.Tryz
set_option maxHeartbeats 2000000
namespace Go.Proofs.YteifpcnphnhaoaaGreat
open Go.Shelf Go.Proofs Go.Proofs.Tryz
theorem vA{P:Program}{i:FuncId}{B:Func}(b:(((P.funcs[i]?.map Func.name).getD "")== "runtime.NumGoroutine")=false)(a:P.funcs[i]? =some {B with name:=(P.funcs[i]?.map Func.name).getD "" }):Bears P i B:=⟨_,b,a⟩
def xd:Go.Shelf.Ren:=⟨λx=>match x with
 | 6=>115
 | 15=>137
 | 14=>160
 | 28=>191
 | 29=>192
 | 20=>201
 | 21=>202
 | 22=>203
 | 23=>204
 | 24=>205
 | 25=>206
 | 26=>207
 | 27=>208
 | 46=>240
 | 47=>226
 | 48=>227
 | 49=>241
 | 50=>242
 | 57=>268
 | x=>x,
 λx=>match x with
 | 22=>37
 | 24=>55
 | 25=>214
 | 3=>3
 | 39=>242
 | 0=>0
 | 53=>292
 | 55=>294
 | 4=>4
 | 46=>286
 | 45=>285
 | 50=>132
 | 5=>5
 | 9=>9
 | 66=>327
 | 70=>331
 | 76=>360
 | 77=>361
 | x=>x,λx=>x⟩
theorem ry:SlLaysF0.n6 prog xd:=by
 constructor<;>first | kernel_rfl | (intro w;kernel_rfl) | exact vA (by kernel_rfl) (by kernel_rfl)
def xe:Go.Shelf.Ren:=⟨λx=>match x with
 | 6=>161
 | 15=>137
 | 14=>209
 | 28=>191
 | 29=>192
 | 20=>243
 | 21=>244
 | 22=>245
 | 23=>246
 | 24=>247
 | 25=>248
 | 26=>249
 | 27=>250
 | 46=>269
 | 47=>226
 | 48=>227
 | 49=>270
 | 50=>271
 | 57=>277
 | x=>x,
 λx=>match x with
 | 22=>215
 | 24=>218
 | 25=>267
 | 3=>3
 | 39=>242
 | 0=>0
 | 53=>292
 | 55=>294
 | 4=>4
 | 46=>286
 | 45=>285
 | 50=>132
 | 5=>5
 | 9=>9
 | 66=>327
 | 70=>331
 | 76=>360
 | 77=>361
 | x=>x,λx=>x⟩
theorem wZ:SlLaysF0.n6 prog xe:=by
 constructor<;>first | kernel_rfl | (intro w;kernel_rfl) | exact vA (by kernel_rfl) (by kernel_rfl)
def vo:Go.Shelf.Ren:=⟨λx=>match x with
 | 6=>174
 | 15=>137
 | 14=>212
 | 28=>191
 | 29=>192
 | 20=>251
 | 21=>252
 | 22=>253
 | 23=>254
 | 24=>255
 | 25=>256
 | 26=>257
 | 27=>258
 | 46=>272
 | 47=>226
 | 48=>227
 | 49=>273
 | 50=>274
 | 57=>278
 | x=>x,
 λx=>match x with
 | 22=>227
 | 24=>233
 | 25=>276
 | 3=>3
 | 39=>242
 | 0=>0
 | 53=>292
 | 55=>294
 | 4=>4
 | 46=>286
 | 45=>285
 | 50=>132
 | 5=>5
 | 9=>9
 | 66=>327
 | 70=>331
 | 76=>360
 | 77=>361
 | x=>x,λx=>x⟩
theorem tZ:SlLaysF0.n6 prog vo:=by
 constructor<;>first | kernel_rfl | (intro w;kernel_rfl) | exact vA (by kernel_rfl) (by kernel_rfl)
def xc:Go.Shelf.Ren:=⟨λx=>match x with
 | 53=>128
 | 64=>137
 | 63=>177
 | 78=>191
 | 79=>192
 | 70=>213
 | 71=>214
 | 72=>215
 | 73=>216
 | 74=>217
 | 75=>218
 | 59=>219
 | 76=>220
 | 77=>221
 | 88=>259
 | 89=>226
 | 90=>227
 | 91=>260
 | 92=>261
 | 68=>211
 | 96=>275
 | x=>x,
 λx=>match x with
 | 22=>28
 | 23=>3
 | 3=>3
 | 51=>242
 | 0=>0
 | 67=>292
 | 69=>294
 | 4=>4
 | 61=>286
 | 60=>285
 | 44=>132
 | 5=>5
 | 9=>9
 | 75=>327
 | 79=>331
 | 83=>360
 | 84=>361
 | x=>x,λx=>x⟩
theorem rx:SlLaysN.n53 prog xc:=by
 constructor<;>first | kernel_rfl | (intro w;kernel_rfl) | exact vA (by kernel_rfl) (by kernel_rfl)
def vn:Go.Shelf.Ren:=⟨λx=>match x with
 | 6=>141
 | 15=>137
 | 14=>195
 | 28=>191
 | 29=>192
 | 20=>231
 | 21=>232
 | 22=>233
 | 23=>234
 | 24=>235
 | 25=>236
 | 26=>237
 | 27=>238
 | 46=>265
 | 47=>226
 | 48=>227
 | 49=>266
 | 50=>267
 | 57=>276
 | x=>x,
 λx=>match x with
 | 22=>177
 | 24=>186
 | 25=>251
 | 3=>3
 | 39=>242
 | 0=>0
 | 53=>292
 | 55=>294
 | 4=>4
 | 46=>286
 | 45=>285
 | 50=>132
 | 5=>5
 | 9=>9
 | 66=>327
 | 70=>331
 | 76=>360
 | 77=>361
 | x=>x,λx=>x⟩
theorem tY:SlLaysF.n6 prog vn:=by
 constructor<;>first | kernel_rfl | (intro w;kernel_rfl) | exact vA (by kernel_rfl) (by kernel_rfl)
def vp:Go.Shelf.Ren:=⟨λx=>match x with
 | 6=>83
 | 15=>137
 | 14=>136
 | 28=>191
 | 29=>192
 | 20=>183
 | 21=>184
 | 22=>185
 | 23=>186
 | 24=>187
 | 25=>188
 | 26=>189
 | 27=>190
 | 46=>225
 | 47=>226
 | 48=>227
 | 49=>228
 | 50=>229
 | 57=>264
 | x=>x,
 λx=>match x with
 | 22=>29
 | 24=>28
 | 25=>154
 | 3=>3
 | 39=>242
 | 0=>0
 | 53=>292
 | 55=>294
 | 4=>4
 | 46=>286
 | 45=>285
 | 50=>132
 | 5=>5
 | 9=>9
 | 66=>327
 | 70=>331
 | 76=>360
 | 77=>361
 | x=>x,λx=>x⟩
theorem ta:SlLaysF.n6 prog vp:=by
 constructor<;>first | kernel_rfl | (intro w;kernel_rfl) | exact vA (by kernel_rfl) (by kernel_rfl)
end Go.Proofs.YteifpcnphnhaoaaGreat
namespace Go.Proofs.YteifpcnphnhaoaaGreat
open Go.RowKit
variable{a:Type}{c:a->a->Int}{i:cl}{f:List AW}{g:AW}
set_option maxRecDepth 100000
def NK(i:cl):Int:=if ∃x∈jb (js i),¬(-Mx<=x.2/\x.2<=Mx) then 12 else 0
theorem qO{j:Nat}{v:Int}(b:(jb (js i))[j]? =some (g,v))(a:¬(-Mx<=v/\v<=Mx)):(12:Int)=NK i:=by
 unfold NK;rw[ϱ ⟨_,ϖ b,a⟩]
theorem iq(h:∀x∈jb (js i),-Mx<=x.2/\x.2<=Mx):(0:Int)=NK i:=by grind[NK]
theorem br(i:cl)(v:mT i):AI prog 172 [.d (Ah i)] (AE (NK i)):=by
 obtain ⟨M,a⟩:∃M,jb (js i)=M:=⟨_,Z⟩
 have l:=(Sb i v).by [(2,20)] rfl;rw[a] at l;refine As func172 Z Z ntmps172 Z Z Z λF r=>(AD (AF (V (B7 1 Z Z Z Z Z Z Z) (AB Z Z (AC ?_)))));refine AD (AD (AF (J (Ap Z Z Cb Z Z Z) (V (FX l Z [20] ⟨Z,trivial⟩ Z Z Z Z Z Z Z Z Z) (V (HC 2 Z Z Z C4 Z Z Z Z) (AC (AX (BC (α:=List Nat) (λseen=>⟨15,[(7,(.ptr 2 0 0))],[(2,[.iter 20 0 M.length seen]),(20,[B5 Bm AE M])]⟩) (λseen=>∀x∈M,x∈CX M (List.range M.length) seen\/(-Mx<=x.2/\x.2<=Mx)) (λseen=>(CX M (List.range M.length) seen).length) ([]) (λx c=> .inl (by rw[Dl (by simp)];exact c)) (AR r [2,20] Z Z ⟨Z,trivial⟩) ?_))))))));intro seen o;refine AD (AF (Mg (M) Z Z Z Z (λj=>?_) (λu s y t g k w f=>⟨_,Z,?_⟩)))
 .refine J (D3 Z Z Z) ?_;refine AC (AD (Cq Z Z (Aq (AD (AF (AB Z Z (AC (A4 ?_))))))));exact ⟨_,[],[],A2 Z,Z,Z,Ae (iq λx c=>by rw[a] at c;exact (o x c).elim (λh=>by rw[j] at h;cases h) id),Z⟩
 .refine J (D3 Z Z Z) ?_;refine AC (AD (CM Z Z (AU (AX (AD (AF (J (HD (M) u s Z Z Z g k Z) (J (D3 Z Z Z) ?_))))))));refine AB Z Z (AC (AD (AF (ch Z Z (J (Aj (H7 t (-1000000000000000) 1000000000000000) Z Z) (J (Jq Z Z) (AC (A5 Z (λb=>?_) (λb=>?_)))))))))
  .refine AD (AF (AB Z Z (AC (A4 ?_))));exact ⟨_,[],[],A2 Z,Z,Z,Ae (qO (by rw[a];exact g) (by simpa [Mx] using b)),Z⟩
  .refine AU ?_;exact ⟨seen++ [s],λx c=>(o x c).elim (λh=>(jt.1 (f.mem_iff.1 h)).elim (λe=> .inr (by rw[e];simpa [Mx] using b)) .inl) .inr,by rw[f.length_eq];exact mN _,AR r [2,20] Z (Z) ⟨Z,trivial⟩⟩
theorem Tu{b:Type}{l:List b}{f:b->Int}:BM (l.map f)=0↔∀x∈l,f x=0:=by
 induction l with
 | nil=>simp[BM]
 | cons a l c=>
  grind[BM]
def TG(i:cl):List (FuncId×Int):=[(168,GA i),(169,LF i),(170,OA i),(171,Lz i),(172,NK i)]
def Aw(i:cl):Int:=if ¬(0<=i.id/\i.id<=1000000000)\/¬(0<=i.sq/\i.sq<=1000000000)\/¬(0<=i.pr/\i.pr<=2) then 2 else if 256<i.po.length\/256<i.pa.length\/256<i.af.length then 8 else BM ((TG i).map Prod.snd)
theorem So(h:GA i=0):∀p∈i.po,-Mx<=p.d/\p.d<=Mx:=λp a=>by
 have:=Tu.1 h p a;unfold Im at this
 split at this; · cases this
 split at this; · cases this
 split at this; · cases this
 rename_i h;exact Decidable.of_not_not h
theorem ew(h:LF i=0):∀p∈i.pa,0<=p.n/\p.n<=Mx:=λp a=>by
 have:=Tu.1 h p a;unfold Jt at this
 split at this; · cases this
 split at this; · cases this
 split at this; · cases this
 rename_i h;exact Decidable.of_not_not h
theorem wk(i:cl)(b:i.po.length<=256)(g:i.pa.length<=256)(f:i.af.length<=256){k:Nat}(c:k<(TG i).length)(a:∀j,j<k->((TG i)[j]?).map Prod.snd=some 0):AI prog (TG i)[k].1 [.d (Ah i)] (AE (TG i)[k].2):=by
 match k,c with
 | 0,_=>exact XR i (by omega)
 | 1,_=>exact XT i (by omega)
 | 2,_=>exact qZ i (by omega)
 | 3,_=>exact Xu i b (So (by have:=a 0 (by omega);simpa [TG] using this))
 | 4,_=>exact br i ⟨b,g,f,So (by have:=a 0 (by omega);simpa [TG] using this),ew (by have:=a 1 (by omega);simpa [TG] using this)⟩
def y5(i:cl)(p:FuncId×Int):D:= .fn p.1 [Ah i] []
theorem Lu(i:cl)(B:i.po.length<=140737488355328)(A:i.pa.length<=140737488355328)(z:i.af.length<=140737488355328):AI prog 123 [.d (Ah i)] (AE (Aw i)):=by
 refine As func123 Z Z ntmps123 Z Z Z λF u=>(AD (AF (V (B7 1 Z Z Z Z Z Z Z) (AB Z Z (AC (AD ?_))))));refine AX (AD (AF (J (AM Z QW Z Z Z) (J (AQ Z Z Z Ai Z) (J (Aj (Ic _ _ _) Z Z) (J (Jq Z Z) (ch Z Z (C7 11 Z (λt=>?_) (λt=>?_)))))))))
 .refine AN Z Z Z Z ?_;refine AN Z Z Z Z (AN Z Z Z Z (AN Z Z Z Z (J (B8 Z Z Z Z) (ch Z Z (AN Z Z Z Z (AN Z Z Z Z (AN Z Z Z Z (AN Z Z Z Z ?_))))))));refine J (B8 Z Z Z Z) (AB Z Z (AC (CM Z Z (AD (AF (AB Z Z (AC (A4 ?_))))))));exact ⟨_,[],[],A2 Z,Z,Z,Ae (by unfold Aw;rw[ϱ (by omega)]),Z⟩
 .refine AT Z Z Z (J (AM Z Pt Z Z Z) ?_);refine AT Z Z Z (J (AQ Z Z Z Ai Z) (AT Z Z Z (J (Aj (Ic _ _ _) Z Z) (AT Z Z Z (J (Jq Z Z) (J (Bx Z Z Z Z) (ch Z Z (C7 17 Z (λs=>?_) (λs=>?_)))))))))
  .refine AN Z Z Z Z (AN Z Z Z Z (AN Z Z Z Z (AN Z Z Z Z ?_)));refine J (B8 Z Z Z Z) (AB Z Z (AC (CM Z Z (AD (AF (AB Z Z (AC (A4 ?_))))))));exact ⟨_,[],[],A2 Z,Z,Z,Ae (by unfold Aw;rw[ϱ (by omega)]),Z⟩
  .refine AT Z Z Z (J (AM Z Xe Z Z Z) (AT Z Z Z ?_));refine J (AQ Z Z Z Ai Z) (AT Z Z Z (J (Aj (Ic _ _ _) Z Z) (AT Z Z Z (J (Jq Z Z) (J (Bx Z Z Z Z) (AB Z Z (AC (A5 Z (λy=>?_) (λy=>?_)))))))))
   .refine AD (AF (AB Z Z (AC (A4 ?_))));exact ⟨_,[],[],A2 Z,Z,Z,Ae (by unfold Aw;rw[ϱ (by omega)]),Z⟩
   .refine AD (AF (J (AM Z JI Z Z Z) (J (AQ Z Z Z au Z) (J (BU Z cB Z) (J (H4 Z Z Z) (ch Z Z (C7 28 Z (λo=>?_) (λo=>?_))))))))
    .refine AN Z Z Z Z ?_;refine AN Z Z Z Z (AN Z Z Z Z (AN Z Z Z Z (J (B8 Z Z Z Z) (ch Z Z (AN Z Z Z Z (AN Z Z Z Z (AN Z Z Z Z (AN Z Z Z Z ?_))))))));refine J (B8 Z Z Z Z) (AB Z Z (AC (CM Z Z (AD (AF (AB Z Z (AC (A4 ?_))))))));exact ⟨_,[],[],A2 Z,Z,Z,Ae (by unfold Aw;rw[ν (by omega),ϱ (by omega)]),Z⟩
    .refine AT Z Z Z (J (AM Z Kg Z Z Z) ?_);refine AT Z Z Z (J (AQ Z Z Z fK Z) (AT Z Z Z (J (BU Z cX Z) (AT Z Z Z (J (H4 Z Z Z) (J (Bx Z Z Z Z) (ch Z Z (C7 34 Z (λl=>?_) (λl=>?_)))))))))
     .refine AN Z Z Z Z (AN Z Z Z Z (AN Z Z Z Z (AN Z Z Z Z ?_)));refine J (B8 Z Z Z Z) (AB Z Z (AC (CM Z Z (AD (AF (AB Z Z (AC (A4 ?_))))))));exact ⟨_,[],[],A2 Z,Z,Z,Ae (by unfold Aw;rw[ν (by omega),ϱ (by omega)]),Z⟩
     .refine AT Z Z Z (J (AM Z GN Z Z Z) (AT Z Z Z ?_));refine J (AQ Z Z Z BL Z) (AT Z Z Z (J (BU Z E0 Z) (AT Z Z Z (J (H4 Z Z Z) (J (Bx Z Z Z Z) (AB Z Z (AC (A5 Z (λr=>?_) (λr=>?_)))))))))
      .refine AD (AF (AB Z Z (AC (A4 ?_))));exact ⟨_,[],[],A2 Z,Z,Z,Ae (by unfold Aw;rw[ν (by omega),ϱ (by omega)]),Z⟩
      .refine AU (AD ?_);refine AD (AF (J (Ap Z Z Cb Z Z Z) (J (cQ (ds:=[Ah i]) (es:=[]) Z Z Z Z Z) (J (Ap Z Z Cb Z Z Z) (J (cQ (ds:=[Ah i]) (es:=[]) Z Z Z Z Z) (J (Ap Z Z Cb Z Z Z) (J (cQ (ds:=[Ah i]) (es:=[]) Z Z Z Z Z) (J (Ap Z Z Cb Z Z Z) ?_))))))));refine J (cQ (ds:=[Ah i]) (es:=[]) Z Z Z Z Z) (J (Ap Z Z Cb Z Z Z) (J (cQ (ds:=[Ah i]) (es:=[]) Z Z Z Z Z) (V (CF 2 vg Z Z Z Z Z Z Z Z) (J (SZ Z underlying273 Z) (ch Z Z (AC (AX (BC (α:=Nat) (λk=>⟨62,[(50,(.own 2 0 5)),(51,(.d (AE 5))),(52,(.d (AE (k:Int))))],[(2,[.rowD 146 1 ((TG i).map (y5 i))])]⟩) (λk=>k<=5/\BM ((TG i).map Prod.snd)=BM (((TG i).drop k).map Prod.snd)/\∀j,j<k->((TG i)[j]?).map Prod.snd=some 0) (λk=>5-k) (0) (⟨κ _,Z,λj h=>absurd h (nH j)⟩) (AR u [2] Z Z ⟨Z,Z,Z,trivial⟩) ?_))))))));rintro k ⟨w,g,f⟩;refine AD (AF (J (At Z Z Z) (AC (AD (A5 Z (λc=>?_) (λc=>?_))))))
       .have a:k<(TG i).length:=by show k<5;have h:=c;omega
        refine AU (AD (AX (AD (AF ?_))));have v:=nN a g;refine J (D1 (k) Z Z (Z) (by show k<5;exact a) Z underlying273 vf Z) (J (E1 Z Z (AP a) Z wN Z) (AB Z Z (AC (AD (AF (ch Z Z ?_))))));refine J (MS (wk i (by omega) (by omega) (by omega) a f) Z Z) (AB Z Z (AC (AD (AF (ch Z Z (J (DJ Z Z Z) (AC (A5 Z (λb=>?_) (λb=>?_)))))))))
        .refine AD (AF (ch Z Z (AB Z Z (AC (A4 ?_)))));exact ⟨_,[],[],A2 Z,Z,Z,Ae (by unfold Aw;rw[ν (by omega),ν (by omega)];exact v.2 _ Z (by simpa using b)),Z⟩
        .refine AU (AF (J (Ad Z Z (AJ (k+1) (by omega)) Z) (ch Z Z (AC ?_))));exact ⟨k+1,⟨by show k+1<=_;omega,v.1 (by simpa using b),λj x=>(Nat.lt_succ_iff_lt_or_eq.1 x).elim (f j) λh=>by subst h;rw[ω a];show some _=_;congr 1;simpa using b⟩,by show 5-(k+1)<5-k;omega,AR u [2] Z (Z) ⟨Z,Z,Z,trivial⟩⟩
       .refine Aq (AD (AF (AB Z Z (AC (A4 ?_)))));exact ⟨_,[],[],A2 Z,Z,Z,Ae (by unfold Aw;rw[ν (by omega),ν (by omega),g,DX (by have h:=c;show ¬k<5;omega)]),Z⟩
theorem wK(l:List Int)(j:l.length<=140737488355328):AI prog 165 [.d (.sl none (l.map AE))] (AE (BM l)):=by
 refine As func165 Z Z ntmps165 Z Z Z λF o=>(AD (AF (AB Z Z (AC (AD (AF (AB Z Z (AC ?_))))))));refine AD (AD (AF (ch Z Z (J (BU Z E0 Z) (ch Z Z (AC (AX (FQ (α:=Nat) (λk=>⟨18,[(3,(.d (AE 0))),(6,(.d (.sl none (l.map AE)))),(7,(.d (AE (l.length:Int)))),(8,(.d (AE (k:Int))))],[]⟩) (λk=>k<=l.length/\BM (l.map id)=BM ((l.drop k).map id)) (λk=>l.length-k) (0) (⟨κ _,Z⟩) (Zn ⟨Z,Z,Z,Z,trivial⟩) ?_))))))));rintro k ⟨i,c⟩;refine AD (AF (J (At Z Z Z) (AC (AD (A5 Z (λf=>?_) (λf=>?_))))))
 .have b:k<l.length:=BF f;refine AU (AD (AX (AD (AF ?_))));have g:=nN b c;refine J (Al (k) Z Z (Z) (AP b) E0 Z BK Z) (J (BZ Z Z Ai Z) ?_);refine AB Z Z (AC (AD (AF (ch Z Z (ch Z Z (J (DJ Z Z Z) (AC (A5 Z (λa=>?_) (λa=>?_)))))))))
  .refine AD (AF (ch Z Z (AB Z Z (AC (A4 ?_)))));exact ⟨_,[],[],A2 Z,Z,Z,Ae ((g.2 l[k] Z (by simpa using a)).trans (by rw[List.map_id])),Z⟩
  .refine AU (AF (J (Ad Z Z (AJ (k+1) (by omega)) Z) (ch Z Z (AC ?_))));exact ⟨k+1,⟨by show k+1<=_;omega,g.1 (by simpa using a)⟩,by show l.length-(k+1)<l.length-k;omega,⟨Z,Z,λ_ _=>S3.get (l:=[(3,_),(6,_),(7,_),(8,_)]) ⟨Z,Z,Z,Z,trivial⟩⟩⟩
 .refine Aq (AD (AF (ch Z Z (AB Z Z (AC (A4 ?_))))));exact ⟨_,[],[],A2 Z,Z,Z,Ae (by rw[List.map_id] at c;rw[c,DX (by have h:=f;omega)]),Z⟩
def BT(a b:AW):Int:=BM [DF a.k b.k,Dv a.acc.o b.acc.o,DF a.acc.k b.acc.k,Dv a.acc.a b.acc.a,Dv a.f b.f,Dv a.t b.t]
def Eb(a b:cl):Int:=BM [DF b.pr a.pr,DF a.sq b.sq]
theorem NI(a b:AW):AI prog 143 [.d (Bm a),.d (Bm b)] (AE (BT a b)):=by
 refine As func143 Z Z ntmps143 Z Z Z λF c=>(AD (AF (V (B7 1 Z Z Z Z Z Z Z) ?_)));refine V (B7 2 Z Z Z Z Z Z Z) (AB Z Z (AC (AD (Bq [[],[0],[],[2],[0,1,2,3],[],[5],[5,6],[],[8],[8,9],rg 11,[],[12],[12,13],[],[15],[15,16],rg 18,[],[19],[19,20],[],[22],[22,23],rg 25,[],[26],[],[28],rg 30,[],[31],[],[33],rg 35,rg 36,rg 37,rg 38] mixed Z (B2 (AK [2] Z (AM Z TO Z Z Z) (Ay [5] Z Z (λ_=>Aa (AQ Z Z Z Ai Z)) (AK [3] Z (AM Z TO Z Z Z) ?_))))))));refine Ay [7] Z Z (λ_=>Aa (AQ Z Z Z Ai Z)) (AK [6,8] Z (Aj (Tb a.k b.k) Z Z) (AK [2] Z (AM Z Eh Z Z Z) (AK [10] Z (AM Z TP Z Z Z) (Ay [11] Z Z (λ_=>Aa (AQ Z Z Z CZ Z)) (AK [3] Z (AM Z Eh Z Z Z) (AK [13] Z (AM Z TP Z Z Z) (Ay [14] Z Z (λ_=>Aa (AQ Z Z Z CZ Z)) (AK [12,15] Z (Aj (Ta a.acc.o b.acc.o) Z Z) ?_))))))));refine AK [2] Z (AM Z Eh Z Z Z) (AK [17] Z (AM Z Ps Z Z Z) (Ay [18] Z Z (λ_=>Aa (AQ Z Z Z Ai Z)) (AK [3] Z (AM Z Eh Z Z Z) (AK [20] Z (AM Z Ps Z Z Z) (Ay [21] Z Z (λ_=>Aa (AQ Z Z Z Ai Z)) (AK [19,22] Z (Aj (Tb a.acc.k b.acc.k) Z Z) (AK [2] Z (AM Z Eh Z Z Z) (AK [24] Z (AM Z Pr Z Z Z) ?_))))))));refine Ay [25] Z Z (λ_=>Aa (AQ Z Z Z CZ Z)) (AK [3] Z (AM Z Eh Z Z Z) (AK [27] Z (AM Z Pr Z Z Z) (Ay [28] Z Z (λ_=>Aa (AQ Z Z Z CZ Z)) (AK [26,29] Z (Aj (Ta a.acc.a b.acc.a) Z Z) (AK [2] Z (AM Z Kf Z Z Z) (Ay [31] Z Z (λ_=>Aa (AQ Z Z Z CZ Z)) (AK [3] Z (AM Z Kf Z Z Z) (Ay [33] Z Z (λ_=>Aa (AQ Z Z Z CZ Z)) ?_))))))));refine AK [32,34] Z (Aj (Ta a.f b.f) Z Z) (AK [2] Z (AM Z Ke Z Z Z) (Ay [36] Z Z (λ_=>Aa (AQ Z Z Z CZ Z)) (AK [3] Z (AM Z Ke Z Z Z) (Ay [38] Z Z (λ_=>Aa (AQ Z Z Z CZ Z)) (BV 35 Z Z Z (A0 36 Z Z (J (Aj (Ta a.t b.t) Z Z) (AC ⟨Z,?_⟩))))))));refine A0 37 Z Z (V (CF 3 Ao Z Z Z Z Z Z Z Z) (AC ⟨Z,?_⟩));refine A0 38 Z Z (J (Fe [3] (wK [DF a.k b.k,Dv a.acc.o b.acc.o,DF a.acc.k b.acc.k,Dv a.acc.a b.acc.a,Dv a.f b.f,Dv a.t b.t] (by simp)) (by exact ⟨.inr ⟨_,_,Z,.own Z Z (by simp) (θ (by simp)),Z⟩,trivial⟩) Z Z) (AC ⟨Z,?_⟩));refine A0 39 Z Z (AB Z Z (AC ⟨Z,?_⟩));refine Bb (A4 ?_);exact ⟨_,[],[],A2 Z,Z,Z,Z,Z⟩
theorem Yi(a b:cl):AI prog 122 [.d (Ah a),.d (Ah b)] (AE (Eb a b)):=by
 refine As func122 Z Z ntmps122 Z Z Z λF c=>(AD (AF (V (B7 1 Z Z Z Z Z Z Z) (V (B7 2 Z Z Z Z Z Z Z) ?_))));refine AB Z Z (AC (AD (Bq [[],[0],[],[2],[0,1,2,3],[],[5],[],[7],rg 9,rg 10,rg 11,rg 12] mixed Z (B2 (AK [3] Z (AM Z Xe Z Z Z) (Ay [5] Z Z (λ_=>Aa (AQ Z Z Z Ai Z)) (AK [2] Z (AM Z Xe Z Z Z) (Ay [7] Z Z (λ_=>Aa (AQ Z Z Z Ai Z)) ?_))))))));refine AK [6,8] Z (Aj (Tb b.pr a.pr) Z Z) (AK [2] Z (AM Z Pt Z Z Z) (Ay [10] Z Z (λ_=>Aa (AQ Z Z Z Ai Z)) (AK [3] Z (AM Z Pt Z Z Z) (Ay [12] Z Z (λ_=>Aa (AQ Z Z Z Ai Z)) (BV 9 Z Z Z (A0 10 Z Z (J (Aj (Tb a.sq b.sq) Z Z) (AC ⟨Z,?_⟩))))))));refine A0 11 Z Z (V (CF 3 Ao Z Z Z Z Z Z Z Z) (AC ⟨Z,?_⟩));refine A0 12 Z Z (J (Fe [3] (wK [DF b.pr a.pr,DF a.sq b.sq] (by simp)) (by exact ⟨.inr ⟨_,_,Z,.own Z Z (by simp) (θ (by simp)),Z⟩,trivial⟩) Z Z) (AC ⟨Z,?_⟩));refine A0 13 Z Z (AB Z Z (AC ⟨Z,?_⟩));refine Bb (A4 ?_);exact ⟨_,[],[],A2 Z,Z,Z,Z,Z⟩
theorem jA(a b:cl):AI prog 117 [.d (Ah a),.d (Ah b)] (.raw (.bool (decide (Eb a b<0)))):=by
 refine As func117 Z Z ntmps117 Z Z Z λF c=>(AD (AF (V (B7 1 Z Z Z Z Z Z Z) (V (B7 2 Z Z Z Z Z Z Z) (AB Z Z (AC ?_))))));refine AD (AF (J (Ap Z Z Cb Z Z Z) (J (Ap Z Z Cb Z Z Z) (J (Aj (Yi a b) Z Z) (J (At Z Z Z) (AB Z Z (AC (A4 ?_))))))));exact ⟨_,[],[],A2 Z,Z,Z,Z,Z⟩
def Qe(x:AW×Int):D:= .agg [AE x.1.k,Ak x.1.acc.o,AE x.1.acc.k,Ak x.1.acc.a,Ak x.1.f,Ak x.1.t,AE x.2]
theorem bh(a b:AW×Int):AI prog 162 [.d (Qe a),.d (Qe b)] (AE (BT a.1 b.1)):=by
 refine As func162 Z Z ntmps162 Z Z Z λF c=>(AD (AF (V (B7 1 Z Z Z Z Z Z Z) (V (B7 2 Z Z Z Z Z Z Z) (AB Z Z (AC (AD ?_)))))));refine AF (J (AM Z L7 Z Z Z) (J (Ap Z Z Cw Z Z Z) (J (AM Z L7 Z Z Z) (J (Ap Z Z Cw Z Z Z) (J (Aj (NI a.1 b.1) Z Z) (AB Z Z (AC (A4 ?_))))))));exact ⟨_,[],[],A2 Z,Z,Z,Z,Z⟩
theorem Ml:∀a b c:List UInt8,Sw a b=true->Sw b c=true->Sw a c=true
 | [],[],_,h,_=>by simp[Sw,Op.bytesLess] at h
 | [],_::_,[],_,h=>by simp[Sw,Op.bytesLess] at h
 | [],_::_,_::_,_,_=>by simp[Sw,Op.bytesLess]
 | _::_,[],_,h,_=>by simp[Sw,Op.bytesLess] at h
 | _::_,_::_,[],_,h=>by simp[Sw,Op.bytesLess] at h
 | a::x,b::y,c::z,g,f=>by
  simp only[Sw,Op.bytesLess,Bool.or_eq_true,l6,kO,beq_iff_eq] at g f⊢;rcases g with g | ⟨rfl,g⟩<;>rcases f with f | ⟨rfl,f⟩
  .exact .inl (UInt8.lt_trans g f)
  .exact .inl g
  .exact .inl f
  .exact .inr ⟨Z,Ml x y z g f⟩
theorem X3(a:List UInt8):Sw a a=false:=by grind[Je,Sw]
structure PC {γ:Type} (c:γ->γ->Int):Prop where
 anti:∀x y,c y x= - c x y
 trans:∀x y z,c x y<0->c y z<0->c x z<0
 eqv:∀x y z,c x y=0->c x z=c y z
theorem kZ:PC DF:=⟨λx y=>by unfold DF;split<;>split<;>first | omega | rfl,λx y z=>by unfold DF;split<;>split<;>(try split)<;>(try split)<;>(try split)<;>(try split)<;>first | omega | simp,λx y z h=>by
 have:x=y:=by
  unfold DF at h;split at h; · cases h
  split at h; · cases h
  omega
 rw[this]⟩
theorem SM{a b:List UInt8}:Dv a b=0↔a=b:=by grind[Dv,Je,Sw]
theorem QD{a b:List UInt8}:Dv a b<0↔Sw a b=true:=by grind[Dv]
theorem lH:PC Dv:=⟨λx y=>by
 unfold Dv
 by_cases b:Sw x y=true
 .have a:¬Sw y x=true:=λa=>by have:=Ml x y x b a;rw[X3] at this;cases this
  rw[ν a,ϱ b,ϱ b];rfl
 .by_cases a:Sw y x=true
  .rw[ϱ a,ν b,ϱ a]
  .rw[ν a,ν b,ν b,ν a];rfl,λx y z b a=>QD.2 (Ml x y z (QD.1 b) (QD.1 a)),λx y z h=>by rw[SM.1 h]⟩
theorem PC.comap{b:Type}(h:PC c)(f:b->a):PC λx y=>c (f x) (f y):=⟨λ_ _=>h.anti _ _,λ_ _ _=>h.trans _ _ _,λ_ _ _=>h.eqv _ _ _⟩
theorem PC.rev(h:PC c):PC λx y=>c y x:=⟨λx y=>h.anti y x,λx y z b f=>h.trans _ _ _ f b,λx y z b=>by
 have e:c x y=0:=by have:=h.anti y x;omega
 have:=h.eqv x y z e
 rw[h.anti x z,h.anti y z,this]⟩
theorem PC.zero:PC λ_ _:a=>(0:Int):=⟨λ_ _=>rfl,λ_ _ _ h=>by omega,λ_ _ _ _=>rfl⟩
theorem PC.lex{r:a->a->List Int}(h:PC c)(k:PC λx y=>BM (r x y)):PC λx y=>BM (c x y::r x y):=by
 have l:∀x y,c x y=0↔c y x=0:=λx y=>by have:=h.anti x y;omega
 refine ⟨λx y=>?_,λx y z=>?_,λx y z=>?_⟩
 .simp only[BM]
  by_cases e:c x y=0
  .rw[ϱ e,ϱ ((l x y).1 e)];exact k.anti x y
  .rw[ν e,ν (λo=>e ((l x y).2 o))];exact h.anti x y
 .simp only[BM];intro b g
  by_cases f:c x y=0<;>by_cases i:c y z=0
  .have j:c x z=0:=by rw[h.eqv x y z f];exact i
   rw[ϱ f] at b;rw[ϱ i] at g;rw[ϱ j];exact k.trans x y z b g
  .rw[ν i] at g;have j:c x z=c y z:=h.eqv x y z f;omega
  .rw[ν f] at b;have j:c z x=c y x:=(h.eqv y z x i).symm;have s:c x z=c x y:=by rw[h.anti z x,h.anti y x,j]
   omega
  .rw[ν f] at b;rw[ν i] at g;have:=h.trans x y z b g;omega
 .simp only[BM];intro b
  have f:c x y=0:=by
   omega
  rw[ϱ f] at b;rw[h.eqv x y z f];rw[k.eqv x y z b]
theorem PC.last:PC λx y:a=>BM ((λ_ _:a=>([]:List Int)) x y):=PC.zero
theorem NQ:PC BT:=
 PC.lex (kZ.comap AW.k)<| PC.lex (lH.comap λr:AW=>r.acc.o)<| PC.lex (kZ.comap λr:AW=>r.acc.k)<| PC.lex (lH.comap λr:AW=>r.acc.a)<| PC.lex (lH.comap AW.f)<| PC.lex (lH.comap AW.t) PC.last
theorem EM:PC Eb:=PC.lex (kZ.comap cl.pr).rev<| PC.lex (kZ.comap cl.sq) PC.last
theorem PC.refl(h:PC c)(x:a):c x x=0:=by have:=h.anti x x;omega
theorem PC.swo(h:PC c):Go.Sort.SWO (ltOf c):=by
 refine ⟨λx=>?_,λx y z f b=>?_,λx y z f b=>?_⟩
 .simp[ltOf,h.refl]
 .simp only[ltOf,l6] at*;exact h.trans x y z f b
 .simp only[ltOf,decide_eq_false_iff_not] at*;have k:=h.anti x y;have j:=h.anti y z;have i:=h.anti x z
  by_cases e:c x y=0
  .rw[h.eqv x y z e];exact b
  .by_cases g:c y z=0
   .have:=h.eqv y z x g;omega
   .have:=h.trans z y x (by omega) (by omega);omega
theorem SO{a b:Int}:DF a b=0↔a=b:=by grind[DF]
theorem Dq{a b:AW}:BT a b=0↔a=b:=by grind[BT,BM,AW.eq_iff,W7.eq_iff,SO,SM]
theorem sI{k:Type}{R:k->k->Prop}(c:∀x,¬R x x)(o:∀x y z,R x y->R y z->R x z):∀{l m:List k},l.Pairwise R->m.Pairwise R->(∀x,x∈l↔x∈m)->l=m
 | [],[],_,_,_=>rfl
 | [],b::m,_,_,h=>by have:=(h b).2 (by simp);cases this
 | a::l,[],_,_,h=>by have:=(h a).1 (by simp);cases this
 | a::l,b::m,j,i,h=>by
  rw[lx] at j i
  have e:a=b:=by
   rcases jt.1 ((h a).1 (by simp)) with e | g
   .exact e
   .rcases jt.1 ((h b).2 (by simp)) with e | r
    .exact e.symm
    .exact absurd (o _ _ _ (j.1 b r) (i.1 a g)) (c a)
  subst e
  congr 1
  refine sI c o j.2 i.2 λx=>⟨λf=>?_,λf=>?_⟩
  .rcases jt.1 ((h x).1 (by simp[f])) with e | g
   .subst e;exact absurd (j.1 x f) (c x)
   .exact g
  .rcases jt.1 ((h x).2 (by simp[f])) with e | g
   .subst e;exact absurd (i.1 x f) (c x)
   .exact g
abbrev Tn:W7:=⟨[],0,[]⟩
def CD(r:AW):Int:=
 if r.k=0 then (if r.acc.o≠ []/\r.acc.a≠ []/\0<=r.acc.k/\r.acc.k<5/\r.f=[]/\r.t=[] then 0 else 3)
 else if r.k=1 then (if r.f≠ []/\r.t≠ []/\r.f≠r.t/\r.acc=Tn then 0 else 3)
 else if r.k=2 then (if r.f≠ []/\r.t=[]/\r.acc=Tn then 0 else 3) else 11
theorem YL(r:AW):AI prog 124 [.d (Bm r)] (AE (CD r)):=by
 refine As func124 Z Z ntmps124 Z Z Z λF v=>(AD (AF (V (B7 1 Z Z Z Z Z Z Z) (AB Z Z ?_))));refine AC (AD (AF (AB Z Z (AC (AD (AD (AF (J (AM Z TO Z Z Z) ?_))))))));refine J (AQ Z Z Z Ai Z) (AC (AX (AD (AF (J (Fa Z Z Z) (AB Z Z (AC (A5 Z (λu=>?_) (λu=>?_)))))))));refine AF (J (AM Z Eh Z Z Z) (J (AM Z TP Z Z Z) (J (AQ Z Z Z CZ Z) (J (DR Z Z Z) (ch Z Z (C7 12 Z (λt=>?_) (λt=>?_)))))));refine AT Z Z Z (J (AM Z Eh Z Z Z) ?_);refine AT Z Z Z (J (AM Z Pr Z Z Z) (AT Z Z Z (J (AQ Z Z Z CZ Z) (AT Z Z Z (J (DR Z Z Z) (J (B8 Z Z Z Z) (ch Z Z (C7 18 Z (λs=>?_) (λs=>?_)))))))));refine AT Z Z Z (J (AM Z Eh Z Z Z) ?_);refine AT Z Z Z (J (AM Z Ps Z Z Z) (AT Z Z Z (J (AQ Z Z Z Ai Z) (AT Z Z Z (J (EE Z Z Z) (J (B8 Z Z Z Z) (ch Z Z (C7 24 Z (λo=>?_) (λo=>?_)))))))));refine AT Z Z Z (J (AM Z Eh Z Z Z) ?_);refine AT Z Z Z (J (AM Z Ps Z Z Z) (AT Z Z Z (J (AQ Z Z Z Ai Z) (AT Z Z Z (J (At Z Z Z) (J (B8 Z Z Z Z) (ch Z Z (C7 30 Z (λl=>?_) (λl=>?_)))))))));refine AT Z Z Z (J (AM Z Kf Z Z Z) (AT Z Z Z (J (AQ Z Z Z CZ Z) (AT Z Z Z (J (Km Z Z Z) (J (B8 Z Z Z Z) (ch Z Z (C7 35 Z (λk=>?_) (λk=>?_)))))))));refine AT Z Z Z (J (AM Z Ke Z Z Z) (AT Z Z Z (J (AQ Z Z Z CZ Z) (AT Z Z Z (J (Km Z Z Z) (J (B8 Z Z Z Z) ?_))))));refine AB Z Z (AC (AD (AD (AF (ch Z Z (J (Jq Z Z) (AC (A5 Z (λa=>?_) (λa=>?_)))))))))
 rotate_left
 refine AU ?_
 rotate_left
 refine AN Z Z Z Z (AN Z Z Z Z (AN Z Z Z Z (J (Bx Z Z Z Z) ?_)));refine AB Z Z (AC (AD (AD (AF (ch Z Z (J (En Z Z) (AC (CM Z Z ?_))))))))
 rotate_left
 refine AN Z Z Z Z (AN Z Z Z Z (AN Z Z Z Z (J (Bx Z Z Z Z) (ch Z Z (AN Z Z Z Z (AN Z Z Z Z (AN Z Z Z Z (J (Bx Z Z Z Z) ?_))))))));refine AB Z Z (AC (AD (AD (AF (ch Z Z (J (En Z Z) (AC (CM Z Z ?_))))))))
 rotate_left
 refine AN Z Z Z Z (AN Z Z Z Z (AN Z Z Z Z (AN Z Z Z Z (J (Bx Z Z Z Z) (ch Z Z ?_)))));refine AN Z Z Z Z (AN Z Z Z Z (AN Z Z Z Z (J (Bx Z Z Z Z) (ch Z Z (AN Z Z Z Z (AN Z Z Z Z (AN Z Z Z Z (J (Bx Z Z Z Z) ?_))))))));refine AB Z Z (AC (AD (AD (AF (ch Z Z (J (En Z Z) (AC (CM Z Z ?_))))))))
 rotate_left
 refine AN Z Z Z Z (AN Z Z Z Z (AN Z Z Z Z ?_));refine AN Z Z Z Z (J (Bx Z Z Z Z) (ch Z Z (AN Z Z Z Z (AN Z Z Z Z (AN Z Z Z Z (AN Z Z Z Z (J (Bx Z Z Z Z) (ch Z Z ?_))))))));refine AN Z Z Z Z (AN Z Z Z Z (AN Z Z Z Z (J (Bx Z Z Z Z) (ch Z Z (AN Z Z Z Z (AN Z Z Z Z (AN Z Z Z Z (J (Bx Z Z Z Z) ?_))))))));refine AB Z Z (AC (AD (AD (AF (ch Z Z (J (En Z Z) (AC (CM Z Z ?_))))))))
 rotate_left
 refine AN Z Z Z Z (AN Z Z Z Z (AN Z Z Z Z (AN Z Z Z Z (J (Bx Z Z Z Z) (ch Z Z (AN Z Z Z Z (AN Z Z Z Z (AN Z Z Z Z ?_))))))));refine AN Z Z Z Z (J (Bx Z Z Z Z) (ch Z Z (AN Z Z Z Z (AN Z Z Z Z (AN Z Z Z Z (AN Z Z Z Z (J (Bx Z Z Z Z) (ch Z Z ?_))))))));refine AN Z Z Z Z (AN Z Z Z Z (AN Z Z Z Z (J (Bx Z Z Z Z) (ch Z Z (AN Z Z Z Z (AN Z Z Z Z (AN Z Z Z Z (J (Bx Z Z Z Z) ?_))))))));refine AB Z Z (AC (AD (AD (AF (ch Z Z (J (En Z Z) (AC (CM Z Z ?_))))))))
 rotate_left
 refine AD (AF (J (Fa Z Z Z) (AB Z Z (AC (A5 Z (λj=>?_) (λj=>?_))))));refine AF (J (AM Z Kf Z Z Z) (J (AQ Z Z Z CZ Z) (J (DR Z Z Z) (ch Z Z (C7 45 Z (λi=>?_) (λi=>?_))))));refine AT Z Z Z (J (AM Z Ke Z Z Z) (AT Z Z Z (J (AQ Z Z Z CZ Z) (AT Z Z Z (J (DR Z Z Z) (J (B8 Z Z Z Z) (ch Z Z (C7 50 Z (λh=>?_) (λh=>?_)))))))));refine AT Z Z Z (J (AM Z Kf Z Z Z) (AT Z Z Z (J (AQ Z Z Z CZ Z) ?_)));refine AT Z Z Z (J (AM Z Ke Z Z Z) (AT Z Z Z (J (AQ Z Z Z CZ Z) (AT Z Z Z (J (DR Z Z Z) (J (B8 Z Z Z Z) (ch Z Z (C7 57 Z (λg=>?_) (λg=>?_)))))))));refine AT Z Z Z (J (AM Z Eh Z Z Z) (AT Z Z Z (J (Ap Z Z ny Z Z Z) (AT Z Z Z (J (Dz cU et Z Z Z) (AT Z Z Z (J (Fv (la:=OB r.acc) (lb:=OB Tn) (ds:=jM) (by kernel_rfl) (by kernel_rfl) (by kernel_rfl) Z Z Z Z (Dt _) (Dt _) (O7 _ _) Z) (J (B8 Z Z Z Z) ?_))))))));refine AB Z Z (AC (AD (AD (AF (ch Z Z (J (Jq Z Z) (AC (A5 Z (λa=>?_) (λa=>?_)))))))))
 rotate_left
 refine AU ?_
 rotate_left
 refine AN Z Z Z Z (AN Z Z Z Z (AN Z Z Z Z (AN Z Z Z Z (J (Bx Z Z Z Z) ?_))));refine AB Z Z (AC (AD (AD (AF (ch Z Z (J (En Z Z) (AC (CM Z Z ?_))))))))
 rotate_left
 refine AN Z Z Z Z (AN Z Z Z Z (AN Z Z Z Z ?_));refine AN Z Z Z Z (AN Z Z Z Z (J (Bx Z Z Z Z) (ch Z Z (AN Z Z Z Z (AN Z Z Z Z (AN Z Z Z Z (AN Z Z Z Z (J (Bx Z Z Z Z) ?_))))))));refine AB Z Z (AC (AD (AD (AF (ch Z Z (J (En Z Z) (AC (CM Z Z ?_))))))))
 rotate_left
 refine AN Z Z Z Z (AN Z Z Z Z (AN Z Z Z Z (J (Bx Z Z Z Z) (ch Z Z (AN Z Z Z Z (AN Z Z Z Z (AN Z Z Z Z ?_)))))));refine AN Z Z Z Z (AN Z Z Z Z (J (Bx Z Z Z Z) (ch Z Z (AN Z Z Z Z (AN Z Z Z Z (AN Z Z Z Z (AN Z Z Z Z (J (Bx Z Z Z Z) ?_))))))));refine AB Z Z (AC (AD (AD (AF (ch Z Z (J (En Z Z) (AC (CM Z Z ?_))))))))
 rotate_left
 refine AD (AF (J (Fa Z Z Z) (AB Z Z (AC (A5 Z (λf=>?_) (λf=>?_))))));refine AF (J (AM Z Kf Z Z Z) (J (AQ Z Z Z CZ Z) (J (DR Z Z Z) (ch Z Z (C7 68 Z (λc=>?_) (λc=>?_))))));refine AT Z Z Z (J (AM Z Ke Z Z Z) (AT Z Z Z (J (AQ Z Z Z CZ Z) (AT Z Z Z (J (Km Z Z Z) (J (B8 Z Z Z Z) (ch Z Z (C7 73 Z (λb=>?_) (λb=>?_)))))))));refine AT Z Z Z (J (AM Z Eh Z Z Z) (AT Z Z Z (J (Ap Z Z ny Z Z Z) (AT Z Z Z (J (Dz cU et Z Z Z) (AT Z Z Z (J (Fv (la:=OB r.acc) (lb:=OB Tn) (ds:=jM) (by kernel_rfl) (by kernel_rfl) (by kernel_rfl) Z Z Z Z (Dt _) (Dt _) (O7 _ _) Z) (J (B8 Z Z Z Z) ?_))))))));refine AB Z Z (AC (AD (AD (AF (ch Z Z (J (Jq Z Z) (AC (A5 Z (λa=>?_) (λa=>?_)))))))))
 rotate_left
 refine AU ?_
 rotate_left
 refine AN Z Z Z Z (AN Z Z Z Z (AN Z Z Z Z (AN Z Z Z Z (J (Bx Z Z Z Z) ?_))));refine AB Z Z (AC (AD (AD (AF (ch Z Z (J (En Z Z) (AC (CM Z Z ?_))))))))
 rotate_left
 refine AN Z Z Z Z ?_;refine AN Z Z Z Z (AN Z Z Z Z (J (Bx Z Z Z Z) (ch Z Z (AN Z Z Z Z (AN Z Z Z Z (AN Z Z Z Z (AN Z Z Z Z (J (Bx Z Z Z Z) ?_))))))));refine AB Z Z (AC (AD (AD (AF (ch Z Z (J (En Z Z) (AC (CM Z Z ?_))))))))
 rotate_left
 all_goals
  refine AD (AF (AB Z Z (AC (A4 ?_))));exact ⟨_,[],[],A2 Z,Z,Z,Ae (by unfold CD;simp_all<;>(intros;omega)),Z⟩
def Cp:List AW->AW->List AW
 | [],r=> [r]
 | a::l,r=>if BT a r<0 then a::Cp l r else if a=r then a::l else r::a::l
def cK(l:List AW):Prop:=l.Pairwise λa b=>BT a b<0
theorem mB{x:AW}:x∈Cp f g↔x=g\/x∈f:=by
 induction f with
 | nil=>simp[Cp]
 | cons a f b=>
  grind[Cp]
theorem gW(h:cK f)(r:AW):cK (Cp f r):=by
 induction f with
 | nil=>simp[Cp,cK]
 | cons a f g=>
  simp only[cK,lx] at h;simp only[Cp]
  split
  .rename_i j
   refine lx.2 ⟨λx b=>?_,g h.2⟩;rcases mB.1 b with rfl | b
   all_goals (grind)
  .split
   .exact lx.2 h
   .rename_i j i
    have c:BT r a<0:=by
     have:=NQ.anti a r;have k:BT a r≠0:=λe=>i (Dq.1 e);omega
    refine lx.2 ⟨λx b=>?_,lx.2 h⟩;rcases jt.1 b with rfl | b
    .exact c
    .exact NQ.trans _ _ _ c (h.1 x b)
def ju(c:List (AW×Int)):List AW:=(c.map Prod.fst).foldl Cp []
theorem J1(c:List (AW×Int))(x:AW×Int):ju (c++ [x])=Cp (ju c) x.1:=by simp[ju]
theorem Ko(c:List (AW×Int))(r:AW):r∈ju c↔r∈c.map Prod.fst:=by
 induction c using cH with
 | h0=>simp[ju]
 | h1 l x a=>rw[J1,mB,a];simp only[jy,k6,List.map_nil,υ,ξ];exact or_comm
theorem cp(c:List (AW×Int)):cK (ju c):=by
 induction c using cH with
 | h0=>simp[ju,cK]
 | h1 l x a=>rw[J1];exact gW a _
def NE(c:List (AW×Int)):List (AW×Int):=((ju c).map λr=>(r,Ag c r)).filter λx=>decide (x.2≠0)
def iZ(i:cl):List (AW×Int):=NE (js i)
theorem Lt(c:List (AW×Int)):(NE c).Pairwise λa b=>BT a.1 b.1<0:=by
 unfold NE;refine List.Pairwise.filter _ ?_;rw[ky];exact cp c
theorem ED(c:List (AW×Int))(a:AW)(b:Int):(a,b)∈jb c↔a∈c.map Prod.fst/\b=Ag c a:=by
 constructor
 .intro h;refine ⟨(J3 c a).1 (Γ.2 ⟨_,h,Z⟩),?_⟩;rw[<-Ks,cR (Ft c) h]
 .rintro ⟨h,rfl⟩;rw[<-Ks];exact Iw ((J3 c a).2 h)
theorem HX(c:List (AW×Int))(x:AW×Int):x∈NE c↔x∈jb c/\x.2≠0:=by grind[NE,ED,Ko]
theorem Z4{c f g:List (AW×Int)}(l:f.Perm ((jb c).filter λx=>decide (x.2≠0)))(k:g.Perm f)(j:g.Pairwise λa b=>¬BT b.1 a.1<0):g=NE c:=by
 have h:=k.trans l;refine sI (R:=λa b=>BT a.1 b.1<0) (λx=>by rw[NQ.refl];omega) (λx y z=>NQ.trans x.1 y.1 z.1) ?_ (Lt c) λx=>?_
 .have i:(g.map Prod.fst).Nodup:=by
   refine ((h.map Prod.fst).nodup_iff).2 ?_;exact (Ft c).sublist (List.Sublist.map _ lj)
  rw[List.Nodup,ky] at i;refine (j.and i).imp λ{a b} ⟨s,o⟩=>?_;have:=NQ.anti a.1 b.1;have r:BT a.1 b.1≠0:=λe=>o (Dq.1 e);omega
 .rw[h.mem_iff,HX,Φ,l6]
theorem i3(x:AW×Int):∃a,Qe x= .agg a:=⟨_,Z⟩
theorem aU{c f:List (AW×Int)}(g:f.Perm ((jb c).filter λx=>decide (x.2≠0))):f.length=(NE c).length:=by
 have k:=List.pairwise_mergeSort (le:=λa b:AW×Int=>decide (¬BT b.1 a.1<0)) (λa b d g j=>by
  have:=NQ.swo.ntrans d.1 b.1 a.1;simp only[ltOf,decide_eq_false_iff_not] at this;simp only[l6] at g j⊢
  exact this j g) (λa b=>by have:=NQ.anti a.1 b.1;simp only[Bool.or_eq_true,l6];omega) f
 have i:=List.mergeSort_perm f (λa b:AW×Int=>decide (¬BT b.1 a.1<0));rw[<-Z4 g i (k.imp λ{a b} h=>by simpa using h)];exact i.length_eq.symm
section
variable{F:Fr}{s:AS}{d:Nat}{x y:Operand}{ty:TypeId}{pos:String}{aft:Array Edge}{gd:Option (Nat×Bool)}{at_:Array TypeId}{f n:Nat}{row:List D}{hp':Hp}
theorem dN(c g:List (AW×Int))(v:g.Perm ((jb c).filter λx=>decide (x.2≠0)))(i:g.length<4611686018427387904)(l:s.ev x=some (.own f 0 n))(j:s.ev y=some (.d (.raw (.func (.func 162) #[] #[]))))(o:cj s.hp f 0=some (.rowD 218 7 row))(h:row=g.map Qe)(r:n=g.length)(t:Ba s.hp f 0 (.rowD 218 7 ((NE c).map Qe))=some hp')(u:Nat.blt d s.n=true):
  AH prog F ⟨some d,.call {callee:= .value (.func 161),args:= #[x,y],argTypes:=at_},ty,pos,aft,gd⟩ s ⟨s.n,(d,.d (.tup []))::s.env,hp'⟩ (λ_ _=>true):=
 OJ wZ (k:=7) (by decide) isAgg218 sizeOf218 func162 Z Z i3 (λa b=>BT a.1 b.1) (NQ.comap Prod.fst).swo g (NE c) i (λx _ y _=>bh x y) (λA z w=>Z4 v z w) Z l j NB o h r t u
end
variable{a:Type}{c:List a}{i:cl}{f:a->Bool}{k:Nat}{g:List Int}{h:Int}{j:List a}{o:Type}{s:a->o}{t:hU}{u:AW}{x:a}{w:o}{y:Int}{z:Bool}{A:List a}{B:Nat}
def dd(i:cl):List (AW×Int):=if Aw i=0 then iZ i else []
theorem JE(h:BM g=0):∀x∈g,x=0:=by
 have:=(Tu (l:=g) (f:=id)).1 (by rw[List.map_id];exact h);exact this
theorem EY(h:Aw i=0):mT i/\(0<=i.id/\i.id<=1000000000)/\(0<=i.sq/\i.sq<=1000000000)/\(0<=i.pr/\i.pr<=2)/\GA i=0/\LF i=0/\OA i=0/\Lz i=0/\NK i=0:=by
 unfold Aw at h
 split at h; · cases h
 split at h; · cases h
 rename_i g f
 have a:=JE h;have c:=a (GA i) (by simp[TG]);have b:=a (LF i) (by simp[TG]);exact ⟨⟨by omega,by omega,by omega,So c,ew b⟩,by omega,by omega,by omega,c,b,a _ (by simp[TG]),a _ (by simp[TG]),a _ (by simp[TG])⟩
theorem IF(i:cl):(js i).length=i.po.length+4*i.pa.length:=by simp[js,EV,JM]
theorem Ie(c:List (AW×Int)):(jb c).length<=c.length:=by
 induction c using cH with
 | h0=>simp[jb]
 | h1 l x a=>
  grind[jL,LQ,jb]
theorem tQ{B X:List a}(g:(j++A.filter f).Perm X)(c:A.Perm (x::B))(b:f x=true):((j++ [x])++B.filter f).Perm X:=by
 have h:=c.filter f;rw[List.filter_cons_of_pos b] at h;rw[lh];exact (List.Perm.append_left j h.symm).trans g
theorem od{B X:List a}(g:(j++A.filter f).Perm X)(c:A.Perm (x::B))(b:¬f x=true):(j++B.filter f).Perm X:=by
 have h:=c.filter f;rw[List.filter_cons_of_neg b] at h;exact (List.Perm.append_left j h.symm).trans g
theorem Yw{M:List a}(b:(j++A.filter f).Perm (M.filter f)):j.length<=M.length:=by
 have h:=b.length_eq
 grind
theorem Vt(i:cl)(H:i.po.length<=140737488355328)(G:i.pa.length<=140737488355328)(E:i.af.length<=140737488355328):AI prog 118 [.d (Ah i)] (.tup [.sl none ((dd i).map Qe),AE (Aw i)]):=by
 by_cases t:Aw i=0
 .have z:=(EY t).1;have A:dd i=iZ i:=ϱ t
  obtain ⟨M,g⟩:∃M,jb (js i)=M:=⟨_,Z⟩
  have B:=(Sb i z).by [(2,20)] rfl;have C:M.length<=1280:=by rw[<-g];have N:=Ie (js i);have L:=IF i;have K:=z.po;have I:=z.pa;omega
  rw[g] at B;rw[A];have c:=Lu i H G E;rw[t] at c⊢;refine As func118 Z Z ntmps118 Z Z Z λF u=>(AD (AF (V (B7 1 Z Z Z Z Z Z Z) (AB Z Z (AB Z Z (AC (AD ?_)))))));refine AD (AF (J (Ap Z Z Cb Z Z Z) (J (Aj (c) Z Z) (AB Z Z (AC (AD (AF (ch Z Z ?_))))))));refine J (DJ Z Z Z) (AC (Cq Z (by decide) (AU (AD (AF (AB Z Z (AC (AD ?_))))))));refine AD (IU 5 900 da Z Z Z Z (AF (J (Ap Z Z Cb Z Z Z) (V (FX B Z [20] ⟨Z,trivial⟩ Z Z Z Z Z Z Z Z Z) (V (HC 2 Z Z Z C4 Z Z Z Z) (AC (AX (BC (α:=List Nat×List (AW×Int)) (λq=>⟨32,[(5,(.own 900 0 q.2.length)),(15,(.ptr 2 0 0))],[(2,[.iter 20 0 M.length q.1]),(20,[B5 Bm AE M]),(900,[.rowD 218 7 (q.2.map Qe)])]⟩) (λq=>(q.2++(CX M (List.range M.length) q.1).filter (λx=>decide (x.2≠0))).Perm (M.filter λx=>decide (x.2≠0))) (λq=>(CX M (List.range M.length) q.1).length) (([],[])) (by rw[Dl (by simp)];exact List.Perm.refl _) (AR u [2,20,900] Z Z ⟨Z,Z,trivial⟩) ?_))))))));rintro ⟨seen,k⟩ l;dsimp only at l⊢;refine AD (AF (Mg (M) Z Z Z Z (λr=>?_) (λy b w v o s D a=>⟨_,Z,?_⟩)))
  .refine J (D3 Z Z Z) (AC (AD (Cq Z Z (Aq (AD ?_)))));have f:k.Perm ((jb (js i)).filter λx=>decide (x.2≠0)):=by have h:=l;rw[r,List.filter_nil,kY] at h;rw[g];exact h
   refine AF (ch Z Z (V (dN (js i) k f (by have:=Yw l;omega) Z Z Z Z Z Z Z) ?_));refine AC (AD (Fb (emb:=Qe) 5 900 (iZ i) Z Z Z (aU f) Z Z Z (AF (ch Z Z (AB Z Z (AB Z Z (AC (A4 ?_))))))));exact ⟨_,[],[],A2 Z,Z,Z,Z,Z⟩
  .refine J (D3 Z Z Z) (AC (AD ?_));refine CM Z Z (AU (AX (AD (AF (J (HD (M) y b Z Z Z o s Z) (J (D3 Z Z Z) (J (D3 Z Z Z) (V (CP 3 MK Z Z Z Z) ?_))))))));refine V (Bi Z Z Z Z Z Z Z cz) (AB Z Z (AC (AD (AF (ch Z Z (J (DJ Z Z Z) (AC (A5 Z (λj=>?_) (λj=>?_)))))))))
   .refine AF (ch Z Z (J (Ap Z Z Cw Z Z Z) (ch Z Z (J (Dz cY wA Z Z Z) (V (CF 4 da Z Z Z Z Z Z Z Z) (V (DN (k) ([(w,v)]) Z Z Z Z Z Z Z Z da (by have:=Yw l;simp only[ζ];omega) Z Z Z Z) (AB Z Z (AC ?_))))))));exact ⟨(seen++ [b],_),tQ l a (by simpa using j),by show (CX M (List.range M.length) (seen++ [b])).length<(CX M (List.range M.length) seen).length;rw[a.length_eq];exact mN _,AR u [2,20,900] Z (Z) ⟨Z,Z,trivial⟩⟩
   .refine AU ?_;exact ⟨(seen++ [b],_),od l a (by simpa using j),by show (CX M (List.range M.length) (seen++ [b])).length<(CX M (List.range M.length) seen).length;rw[a.length_eq];exact mN _,AR u [2,20,900] Z (Z) ⟨Z,Z,trivial⟩⟩
 .have c:=Lu i H G E;have A:dd i=[]:=ν t;rw[A];refine As func118 Z Z ntmps118 Z Z Z λF u=>(AD ?_);refine AF (V (B7 1 Z Z Z Z Z Z Z) (AB Z Z (Zk 2 Z (AB Z Z (AC (AD (AD (AF ?_))))))));refine J (Ap Z Z Cb Z Z Z) (J (Aj (c) Z Z) (AB Z Z (AC (AD (AF (ch Z Z (J (DJ Z Z Z) (AC ?_))))))));refine CM Z ((by simpa using t)) (AD (AF (ch Z Z (AB Z Z (Zk 2 Z (AB Z Z (AC (A4 ?_))))))));exact ⟨_,[],[],A2 Z,Z,Z,Z,Z⟩
def BO(i:cl)(r:AW):Int:=if Aw i=0/\CD r=0 then Ag (js i) r else 0
theorem Z5(i:cl)(r:AW)(l:i.po.length<=140737488355328)(k:i.pa.length<=140737488355328)(j:i.af.length<=140737488355328):AI prog 70 [.d (Ah i),.d (Bm r)] (AE (BO i r)):=by
 by_cases c:Aw i=0
 .have o:=(EY c).1
  obtain ⟨M,b⟩:∃M,jb (js i)=M:=⟨_,Z⟩
  have g:=(Sb i o).by [(2,20)] rfl;rw[b] at g;have a:=Lu i l k j;rw[c] at a;refine As func70 Z Z ntmps70 Z Z Z λF t=>(AD (AF (V (B7 1 Z Z Z Z Z Z Z) (V (B7 2 Z Z Z Z Z Z Z) (AB Z Z ?_)))));refine AC (AD (AD (AF (J (Ap Z Z Cb Z Z Z) (J (Aj (a) Z Z) (J (DJ Z Z Z) (ch Z Z (Ir 8 Z (by decide) ?_))))))));refine AT Z Z Z (J (Ap Z Z Cw Z Z Z) (AT Z Z Z (J (Aj (YL r) Z Z) (AT Z Z Z (J (DJ Z Z Z) (J (Bx Z Z Z Z) (AC (A5 Z (λf=>?_) (λf=>?_)))))))))
  .refine AD (AF (AB Z Z (AC (A4 ?_))));exact ⟨_,[],[],A2 Z,Z,Z,Ae (by rw[BO,ν];simp_all),Z⟩
  .refine AU (AD ?_);refine Bq [[],[0],[],[0,1,2],[0,1,2,3]] mixed Z (B2 (Ay [2] Z Z (λ_=>Aa (Ap Z Z Cb Z Z Z)) (Cv [13] [20] [(14,_)] Z Z (λ_=>Cg (FX g Z [20] ⟨Z,trivial⟩ Z Z Z Z Z Z Z Z Z)) (.inr ⟨14,_,Z,Z,Z,Z,Z⟩) Z Z Z Z Z (Ay [3] Z Z (λ_=>Aa (Ap Z Z Cw Z Z Z)) (BV 3 Z Z Z (A0 4 Z Z (J (I8 (M) (r) (0) _ Z Z Z C4 Ck QU Z Z) (AC ⟨Z,?_⟩))))))));refine A0 5 Z Z (AB Z Z (AC ⟨Z,?_⟩));refine Bb (A4 ?_);exact ⟨_,[],[],A2 Z,Z,Z,Ae (by rw[BO,ϱ ⟨c,by simpa using f⟩,<-b,Ks]),Z⟩
 .have a:=Lu i l k j;have s:BO i r=0:=ν λh=>c h.1;rw[s];refine As func70 Z Z ntmps70 Z Z Z λF t=>(AD (AF (V (B7 1 Z Z Z Z Z Z Z) (V (B7 2 Z Z Z Z Z Z Z) (AB Z Z (AC (AD ?_)))))));refine AD (AF (J (Ap Z Z Cb Z Z Z) (J (Aj (a) Z Z) (J (DJ Z Z Z) (ch Z Z (Co 8 Z ((by simpa using c)) (AN Z Z Z Z (AN Z Z Z Z ?_))))))));refine AN Z Z Z Z (J (B8 Z Z Z Z) (AC (CM Z Z (AD (AF (AB Z Z (AC (A4 ?_))))))));exact ⟨_,[],[],A2 Z,Z,Z,Z,Z⟩
theorem RU(a b:Int):AI prog 199 [.d (AE a),.d (AE b)] (AE (DF a b)):=by
 refine As func199 Z Z ntmps199 Z Z Z λF g=>(AD (AF (AB Z Z ?_)));refine AC (AD (AD (AF (ch Z Z (ch Z Z (J (At Z Z Z) (AC (A5 Z (λf=>?_) (λf=>?_)))))))))
 rotate_left
 refine AU (AD (AD (AF (ch Z Z (ch Z Z (J (H4 Z Z Z) (AC (A5 Z (λc=>?_) (λc=>?_)))))))))
 rotate_left
 refine AU ?_
 all_goals
  refine AD (AF (AB Z Z (AC (A4 ?_))));exact ⟨_,[],[],A2 Z,Z,Z,Ae (by unfold DF;(repeat' split)<;>omega),Z⟩
theorem J7(a b:List UInt8):AI prog 200 [.d (Ak a),.d (Ak b)] (AE (Dv a b)):=by
 refine As func200 Z Z ntmps200 Z Z Z λF g=>(AD (AF (AB Z Z ?_)));refine AC (AD (AD (AF (ch Z Z (ch Z Z (J (Y2 Z Z Z) (AC (KB Z (λf=>?_) (λf=>?_)))))))));rw[sJ] at f
 rotate_left
 rw[sJ] at f;refine AU (AD (AD (AF (ch Z Z (ch Z Z (J (Y4 Z Z Z) (AC (KB Z (λc=>?_) (λc=>?_)))))))));rw[sJ] at c
 rotate_left
 rw[sJ] at c;refine AU ?_
 all_goals
  refine AD (AF (AB Z Z (AC (A4 ?_))));exact ⟨_,[],[],A2 Z,Z,Z,by first | exact Ae (by unfold Dv;rw[ϱ f]) | exact Ae (by unfold Dv;rw[ν (by rw[f];decide),ϱ c]) | exact Ae (by unfold Dv;rw[ν (by rw[f];decide),ν (by rw[c];decide)]),Z⟩
theorem Hi(a b:AW):AI prog 158 [.d (Bm a),.d (Bm b)] (AE (BT a b)):=by
 obtain ⟨l,i⟩:∃l,[DF a.k b.k,Dv a.acc.o b.acc.o,DF a.acc.k b.acc.k,Dv a.acc.a b.acc.a,Dv a.f b.f,Dv a.t b.t]=l:=⟨_,Z⟩
 have s:l.length=6:=by rw[<-i];rfl
 have v:BT a b=BM (l.map id):=by rw[<-i];rfl
 have t:[AE (DF a.k b.k),AE (Dv a.acc.o b.acc.o),AE (DF a.acc.k b.acc.k),AE (Dv a.acc.a b.acc.a),AE (Dv a.f b.f),AE (Dv a.t b.t)]=l.map AE:=by rw[<-i];rfl
 rw[v];refine As func158 Z Z ntmps158 Z Z Z λF o=>(AD (AF (V (B7 1 Z Z Z Z Z Z Z) ?_)));refine V (B7 2 Z Z Z Z Z Z Z) (AB Z Z (AC (AD (Bq [[],[0],[],[2],[0,1,2,3],[],[5],[5,6],[],[8],[8,9],rg 11,[],[12],[12,13],[],[15],[15,16],rg 18,[],[19],[19,20],[],[22],[22,23],rg 25,[],[26],[],[28],rg 30,[],[31],[],[33],rg 35,rg 36,rg 37] mixed Z (B2 (AK [2] Z (AM Z Gm Z Z Z) (Ay [7] Z Z (λ_=>Aa (AQ Z Z Z Ai Z)) (AK [3] Z (AM Z Gm Z Z Z) ?_))))))));refine Ay [9] Z Z (λ_=>Aa (AQ Z Z Z Ai Z)) (AK [8,10] Z (Aj (RU a.k b.k) Z Z) (AK [2] Z (AM Z Eg Z Z Z) (AK [12] Z (AM Z TM Z Z Z) (Ay [13] Z Z (λ_=>Aa (AQ Z Z Z CZ Z)) (AK [3] Z (AM Z Eg Z Z Z) (AK [15] Z (AM Z TM Z Z Z) (Ay [16] Z Z (λ_=>Aa (AQ Z Z Z CZ Z)) (AK [14,17] Z (Aj (J7 a.acc.o b.acc.o) Z Z) ?_))))))));refine AK [2] Z (AM Z Eg Z Z Z) (AK [19] Z (AM Z Mz Z Z Z) (Ay [20] Z Z (λ_=>Aa (AQ Z Z Z Ai Z)) (AK [3] Z (AM Z Eg Z Z Z) (AK [22] Z (AM Z Mz Z Z Z) (Ay [23] Z Z (λ_=>Aa (AQ Z Z Z Ai Z)) (AK [21,24] Z (Aj (RU a.acc.k b.acc.k) Z Z) (AK [2] Z (AM Z Eg Z Z Z) (AK [26] Z (AM Z My Z Z Z) ?_))))))));refine Ay [27] Z Z (λ_=>Aa (AQ Z Z Z CZ Z)) (AK [3] Z (AM Z Eg Z Z Z) (AK [29] Z (AM Z My Z Z Z) (Ay [30] Z Z (λ_=>Aa (AQ Z Z Z CZ Z)) (AK [28,31] Z (Aj (J7 a.acc.a b.acc.a) Z Z) (AK [2] Z (AM Z FM Z Z Z) (Ay [33] Z Z (λ_=>Aa (AQ Z Z Z CZ Z)) (AK [3] Z (AM Z FM Z Z Z) (Ay [35] Z Z (λ_=>Aa (AQ Z Z Z CZ Z)) ?_))))))));refine AK [34,36] Z (Aj (J7 a.f b.f) Z Z) (AK [2] Z (AM Z FL Z Z Z) (Ay [38] Z Z (λ_=>Aa (AQ Z Z Z CZ Z)) (AK [3] Z (AM Z FL Z Z Z) (Ay [40] Z Z (λ_=>Aa (AQ Z Z Z CZ Z)) (BV 35 Z Z Z (A0 36 Z Z (J (Aj (J7 a.t b.t) Z Z) (AC ⟨Z,?_⟩))))))));refine A0 37 Z Z (V (CF 3 Ao Z Z Z Z Z Z Z Z) ?_);rw[t];refine W3 (emb:=AE) 43 3 l Z Z Z s.symm Z Z Z (AC ⟨Z,?_⟩);refine A0 38 Z Z (AB Z Z (AC ⟨Z,?_⟩));refine Bb (AD (AD (AF (AB Z Z (AC (AX (BC (α:=Nat) (λk=>⟨59,[(5,(.d (.sl none (l.map AE)))),(6,(.d (AE (k:Int))))],[]⟩) (λk=>k<=l.length/\BM (l.map id)=BM ((l.drop k).map id)) (λk=>l.length-k) (0) (⟨κ _,Z⟩) (AR o [] Z Z ⟨Z,Z,trivial⟩) ?_)))))));rintro k ⟨u,j⟩;refine AD (AD (AF (ch Z Z (ch Z Z (J (BU Z E0 Z) (J (At Z Z Z) (AC (A5 Z (λg=>?_) (λg=>?_)))))))))
 .have c:k<l.length:=BF g;refine AU (AD (AX (AD (AF ?_))));have r:=nN c j;refine ch Z Z (ch Z Z (J (Al (k) Z Z (Z) (AP c) E0 Z BK Z) (J (BZ Z Z Ai Z) (J (DJ Z Z Z) (AC (A5 Z (λf=>?_) (λf=>?_)))))))
  .refine AD (AF (ch Z Z (ch Z Z (J (Al (k) Z Z (Z) (AP c) E0 Z BK Z) (J (BZ Z Z Ai Z) (AB Z Z (AC (A4 ?_))))))));exact ⟨_,[],[],A2 Z,Z,Z,Ae (r.2 l[k] Z (by simpa using f)),Z⟩
  .refine AU (AF (ch Z Z (J (Ad Z Z (AJ (k+1) (by omega)) Z) (AB Z Z (AC ?_)))));exact ⟨k+1,⟨by show k+1<=_;omega,r.1 (by simpa using f)⟩,by show l.length-(k+1)<l.length-k;omega,AR o [] Z (Z) ⟨Z,Z,trivial⟩⟩
 .refine Aq (AD (AF (AB Z Z (AC (A4 ?_)))));exact ⟨_,[],[],A2 Z,Z,Z,Ae (by rw[j,DX (by have h:=g;omega)]),Z⟩
theorem U7(a b:cl):AI prog 109 [.d (Ah a),.d (Ah b)] (.raw (.bool (decide (Eb a b<0)))):=by
 have c:Eb a b<0↔b.pr<a.pr\/a.pr=b.pr/\a.sq<b.sq:=by
  unfold Eb DF;simp only[BM]
  repeat' split
  all_goals omega
 refine As func109 Z Z ntmps109 Z Z Z λF h=>(AD (AF (V (B7 1 Z Z Z Z Z Z Z) (V (B7 2 Z Z Z Z Z Z Z) (AB Z Z (AC ?_))))));refine AD (AF (J (AM Z Kd Z Z Z) (J (AQ Z Z Z Ai Z) (J (AM Z Kd Z Z Z) (J (AQ Z Z Z Ai Z) (J (H4 Z Z Z) (ch Z Z (C7 10 Z (λg=>?_) (λg=>?_)))))))))
 .refine AN Z Z Z Z (AN Z Z Z Z (AN Z Z Z Z (AN Z Z Z Z (AN Z Z Z Z (AN Z Z Z Z (Kn Z Z Z ?_))))));refine Kn Z Z Z (Kn Z Z Z (Kn Z Z Z (Kn Z Z Z (AN Z Z Z Z (J (B8 Z Z Z Z) (AB Z Z (AC (A4 ?_))))))));exact ⟨_,[],[],A2 Z,Z,Z,by first | exact Sk (by rw[c];omega) | exact Hh (by rw[c];omega) | exact XJ (by rw[c];omega),Z⟩
 .refine AT Z Z Z (J (AM Z Kd Z Z Z) (AT Z Z Z (J (AQ Z Z Z Ai Z) ?_)));refine AT Z Z Z (J (AM Z Kd Z Z Z) (AT Z Z Z (J (AQ Z Z Z Ai Z) (AT Z Z Z (J (Fa Z Z Z) (AT Z Z Z (ch Z Z (C7 16 Z (λf=>?_) (λf=>?_)))))))));refine AT Z Z Z (J (AM Z NA Z Z Z) (AT Z Z Z ?_));refine J (AQ Z Z Z Ai Z) (AT Z Z Z (J (AM Z NA Z Z Z) (AT Z Z Z (J (AQ Z Z Z Ai Z) (AT Z Z Z (J (At Z Z Z) (AT Z Z Z (J (B8 Z Z Z Z) ?_))))))))
  rotate_left
  refine AN Z Z Z Z (AN Z Z Z Z (AN Z Z Z Z (AN Z Z Z Z (AN Z Z Z Z (AT Z Z Z (J (Bx Z Z Z Z) ?_))))))
  all_goals
   refine J (Bx Z Z Z Z) (AB Z Z (AC (A4 ?_)));exact ⟨_,[],[],A2 Z,Z,Z,by first | exact Sk (by rw[c];omega) | exact Hh (by rw[c];omega) | exact XJ (by rw[c];omega),Z⟩
theorem fA(r:AW):AI prog 47 [.d (Bm r)] (Bm r):=by
 refine As func47 Z Z ntmps47 Z Z Z λF a=>(AD ?_);refine AF (V (B7 1 Z Z Z Z Z Z Z) (V (CP 2 MK Z Z Z Z) (AC (AD (AF (J (AM Z Gm Z Z Z) (J (AQ Z Z Z Ai Z) (J (AM Z Eg Z Z Z) ?_))))))));refine J (Ap Z Z aY Z Z Z) (J (AM Z FM Z Z Z) (J (AQ Z Z Z CZ Z) (J (AM Z FL Z Z Z) (J (AQ Z Z Z CZ Z) (J (Dz MK Uf Z Z Z) (V (Bi Z Z Z Z Z Z Z cz) (AC (A4 ?_))))))));exact ⟨_,[],[],A2 Z,Z,Z,Z,Z⟩
theorem bx(r:AW):AI prog 60 [.d (Bm r)] (Bm r):=by
 refine As func60 Z Z ntmps60 Z Z Z λF a=>(AD ?_);refine AF (V (B7 1 Z Z Z Z Z Z Z) (V (CP 2 Tw Z Z Z Z) (AC (AD (AF (J (AM Z TO Z Z Z) (J (AQ Z Z Z Ai Z) (J (AM Z Eh Z Z Z) ?_))))))));refine J (Ap Z Z ny Z Z Z) (J (AM Z Kf Z Z Z) (J (AQ Z Z Z CZ Z) (J (AM Z Ke Z Z Z) (J (AQ Z Z Z CZ Z) (J (Dz Tw ak Z Z Z) (V (Bi Z Z Z Z Z Z Z Kq) (AC (A4 ?_))))))));exact ⟨_,[],[],A2 Z,Z,Z,Z,Z⟩
theorem OH(h:j=c.take j.length)(b:j.length<c.length):j++ [c[j.length]]=c.take (j++ [c[j.length]]).length:=by
 rw[Δ,ζ,ψ b,<-h]
theorem S8(h:j=c.take j.length)(b:¬j.length<c.length):j=c:=by grind
theorem UA(b:List a)(x:a)(h:b.length<9223372036854775807):IntKind.i64.wrap ((b.length:Int)+1)=(((b++ [x]).length:Nat):Int):=by
 rw[Δ];exact AJ (b.length+1) (by omega)
abbrev Gh:AV:= .d (.sl (some true) [])
theorem am(i:cl)(x:i.po.length<=10000)(w:i.pa.length<=10000)(v:i.af.length<=10000):AI prog 48 [.d (Ah i)] (Ah i):=by
 refine As func48 Z Z ntmps48 Z Z Z λF o=>(AD (AF (V (B7 1 Z Z Z Z Z Z Z) (V (CP 2 Fm Z Z Z Z) (AC (AD ?_))))));refine Bq [[],[0],[],[2],[],[4],[],[],[7],[6,7,8],rg 10,[],rg 12] mixed Z (B2 (AK [1] Z (AM Z QP Z Z Z) (Ay [6] Z Z (λ_=>Aa (AQ Z Z Z Ai Z)) (AK [1] Z (AM Z Kd Z Z Z) (Ay [8] Z Z (λ_=>Aa (AQ Z Z Z Ai Z)) (AK [1] Z (AM Z NA Z Z Z) (Ay [10] Z Z (λ_=>Aa (AQ Z Z Z Ai Z)) (Cv [] [3] [(12,_)] Z Z (λ_=>Cg (CF 3 Ao Z Z Z Z Z Z Z Z)) (.inr ⟨12,_,Z,Z,Z,Z,Z⟩) Z Z Z Z Z ?_))))))));refine AK [1] Z (AM Z DD Z Z Z) (Ay [13] Z Z (λ_=>Aa (AQ Z Z Z BL Z)) (Cv [12,14] [3] [(15,_)] Z Z (λ_=>Cg (Jr (([]:List Int)) (i.af) Z Z Z Z Z Z (λ_=>rfl) Ao (by simp only[lT];omega) Z Z Z Z)) (.inr ⟨15,_,Z,Z,Z,Z,Z⟩) Z Z Z Z Z (AK [7,9,11,15] Z (Dz Fm tE Z Z Z) (Cv [] [4] [(3,_)] Z Z (λ_=>Cg (CP 4 Fm Z Z Z Z)) (.inr ⟨3,_,Z,Z,Z,Z,Z⟩) Z Z Z Z Z (BV 12 Z Z Z (A0 13 Z Z (V (Bi Z Z Z Z Z Z Z DP) (AC ⟨Z,?_⟩))))))));refine Bb ?_;refine AD (AD (qe (ys:=i.af.map AE) 4 0 5 3 Z Z Z (by simp) (θ (by simp)) Z Z Z Z Z Z (D0 4 0 3 901 aV Z Z Z Z Z Z Z (AF (AB Z Z (AC (AX (BC (α:=List Fd) (λb=>⟨60,[(1,(.ptr 1 0 0)),(2,(.ptr 2 0 0)),(3,(.ptr 4 0 0)),(4,(.d (AE (b.length:Int))))],[(901,[.rowD 158 4 (b.map Bd)]),(1,[.blk 93 [.d (AE i.id),.d (AE i.pr),.d (AE i.sq),.d (.sl none (i.po.map Bd)),.d (.sl none (i.pa.map Cy)),.d (.sl none (i.af.map AE))]]),(2,[.blk 55 [.d (AE 0),.d (AE 0),.d (AE 0),Gh,Gh,Gh]]),(4,[.blk 55 [.d (AE i.id),.d (AE i.pr),.d (AE i.sq),.own 901 0 b.length,Gh,.d (.sl none (i.af.map AE))]])]⟩) (λb=>b=i.po.take b.length/\b.length<=i.po.length) (λb=>i.po.length-b.length) ([]) (⟨by simp,κ _⟩) (AR o [901,1,2,4] Z Z ⟨Z,Z,Z,Z,trivial⟩) ?_))))))));rintro b ⟨s,u⟩;refine AD ?_;refine AD (AF (ch Z Z (J (AM Z DE Z Z Z) (J (AQ Z Z Z Iq Z) (J (BU Z R5 Z) (J (At Z Z Z) (AC (A5 Z (λj=>?_) (λj=>?_)))))))))
 .have c:b.length<i.po.length:=BF j;refine AU (AD (AX (Bq [[],[0],[],[2],[],[2,3,4],[2,3,4,5],[2,3,4,5,6],[],[8],[],[8,9,10],[8,9,10,11],[8,9,10,11,12],[2,3,4,5,6,7,8,9,10,11,12,13],[2,3,4,5,6,7,8,9,10,11,12,13,14],rg 16,rg 17,rg 18] mixed Z (B2 (AK [3] Z (AM Z JI Z Z Z) (Ay [24] Z Z (λ_=>Aa (AQ Z Z Z au Z)) ?_))))));refine AK [1] Z (AM Z DE Z Z Z) (Ay [26] Z Z (λ_=>Aa (AQ Z Z Z Iq Z)) (A7 4 Z Z (AK [27,28] Z (Al (b.length) Z Z (Z) (AP c) R5 Z KF Z) (AK [29] Z (KL Z F7 Z Z Z) (AK [30] Z (CY Z Z aY Z) (AK [1] Z (AM Z DE Z Z Z) (Ay [32] Z Z (λ_=>Aa (AQ Z Z Z Iq Z)) (A7 4 Z Z ?_))))))));refine AK [33,34] Z (Al (b.length) Z Z (Z) (AP c) R5 Z KF Z) (AK [35] Z (Gw Z L8 Z Z Z) (AK [36] Z (BZ Z Z FJ Z) (AK [31,37] Z (Dz Qo eu Z Z Z) (Cv [38] [5] [(39,_)] Z Z (λ_=>Cg (CF 5 aV Z Z Z Z Z Z Z Z)) (.inr ⟨39,_,Z,Z,Z,Z,Z⟩) Z Z Z Z Z (BV 16 Z Z Z (A0 17 Z Z (V (DN (b) ([i.po[b.length]]) Z Z Z Z Z Z Z Z aV (by simp only[ζ];omega) Z Z Z Z) (AC ⟨Z,?_⟩))))))));refine A0 18 Z Z (J (AM Z JI Z Z Z) (AC ⟨Z,?_⟩));refine A0 19 Z Z (V (Bi Z Z Z Z Z Z Z v3) (AC ⟨Z,?_⟩));refine Bb (AF (ch Z Z (J (Ad Z Z (UA b i.po[b.length] (by omega)) Z) (AB Z Z (AC ?_)))));exact ⟨b++ [i.po[b.length]],⟨OH s c,by rw[Δ];show b.length+1<=_;omega⟩,by rw[Δ];show i.po.length-(b.length+1)<i.po.length-b.length;omega,AR o [901,1,2,4] Z (Z) ⟨Z,Z,Z,Z,trivial⟩⟩
 .refine Aq (AD (AD ?_));have l:=S8 s (λh=>j (by omega));refine qe (ys:=i.po.map Bd) 4 0 3 901 Z Z Z (by simp) (by rw[l];exact θ (by simp)) Z Z Z Z Z Z (D0 4 0 4 902 d7 Z Z Z Z Z Z Z (AF (AB Z Z (AC (AX (BC (α:=List NR) (λa=>⟨60,[(1,(.ptr 1 0 0)),(2,(.ptr 2 0 0)),(3,(.ptr 4 0 0)),(5,(.d (AE (a.length:Int))))],[(902,[.rowD 161 3 (a.map Cy)]),(1,[.blk 93 [.d (AE i.id),.d (AE i.pr),.d (AE i.sq),.d (.sl none (i.po.map Bd)),.d (.sl none (i.pa.map Cy)),.d (.sl none (i.af.map AE))]]),(2,[.blk 55 [.d (AE 0),.d (AE 0),.d (AE 0),Gh,Gh,Gh]]),(4,[.blk 55 [.d (AE i.id),.d (AE i.pr),.d (AE i.sq),.d (.sl none (i.po.map Bd)),.own 902 0 a.length,.d (.sl none (i.af.map AE))]])]⟩) (λa=>a=i.pa.take a.length/\a.length<=i.pa.length) (λa=>i.pa.length-a.length) ([]) (⟨by simp,κ _⟩) (AR o [902,1,2,4] Z Z ⟨Z,Z,Z,Z,trivial⟩) ?_))))));rintro a ⟨r,t⟩;refine AD ?_;refine AD (AF (ch Z Z (J (AM Z Gn Z Z Z) (J (AQ Z Z Z Q5 Z) (J (BU Z an Z) (J (At Z Z Z) (AC (A5 Z (λg=>?_) (λg=>?_)))))))))
  .have k:a.length<i.pa.length:=BF g;refine AU (AD (AX (Bq [[],[0],[],[2],[],[2,3,4],[2,3,4,5],[2,3,4,5,6],rg 8,rg 9,rg 10] mixed Z (B2 (AK [3] Z (AM Z Kg Z Z Z) (Ay [49] Z Z (λ_=>Aa (AQ Z Z Z fK Z)) (AK [1] Z (AM Z Gn Z Z Z) ?_)))))));refine Ay [51] Z Z (λ_=>Aa (AQ Z Z Z Q5 Z)) (A7 5 Z Z (AK [52,53] Z (Al (a.length) Z Z (Z) (AP k) an Z On Z) (AK [54] Z (CY Z Z Ya Z) (Cv [55] [6] [(56,_)] Z Z (λ_=>Cg (CF 6 d7 Z Z Z Z Z Z Z Z)) (.inr ⟨56,_,Z,Z,Z,Z,Z⟩) Z Z Z Z Z (BV 8 Z Z Z (A0 9 Z Z (V (DN (a) ([i.pa[a.length]]) Z Z Z Z Z Z Z Z d7 (by simp only[ζ];omega) Z Z Z Z) (AC ⟨Z,?_⟩))))))));refine A0 10 Z Z (J (AM Z Kg Z Z Z) (AC ⟨Z,?_⟩));refine A0 11 Z Z (V (Bi Z Z Z Z Z Z Z v1) (AC ⟨Z,?_⟩));refine Bb (AF (ch Z Z (J (Ad Z Z (UA a i.pa[a.length] (by omega)) Z) (AB Z Z (AC ?_)))));exact ⟨a++ [i.pa[a.length]],⟨OH r k,by rw[Δ];show a.length+1<=_;omega⟩,by rw[Δ];show i.pa.length-(a.length+1)<i.pa.length-a.length;omega,AR o [902,1,2,4] Z (Z) ⟨Z,Z,Z,Z,trivial⟩⟩
  .refine Aq (AD ?_);have f:=S8 r (λh=>g (by omega));refine qe (ys:=i.pa.map Cy) 4 0 4 902 Z Z Z (by simp) (by rw[f];exact θ (by simp)) Z Z Z Z Z Z (AF (J (Ap Z Z Cb Z Z Z) (V (Bi Z Z Z Z Z Z Z DP) (AC (A4 ?_)))));exact ⟨_,[],[],A2 Z,Z,Z,Z,Z⟩
theorem Mn:∀{l:List AW} {r:AW} {k:Nat},(∀x∈l.take k,BT x r<0)->l[k]? =some r->Cp l r=l
 | [],_,_,_,h=>by simp at h
 | a::l,r,0,_,h=>by
  simp at h;subst h
  simp[Cp,NQ.refl]
 | a::l,r,k+1,b,h=>by
  have f:BT a r<0:=b a (by simp);simp only[Cp,ϱ f];rw[Mn (k:=k) (λx c=>b x (by simp[c])) (by simpa using h)]
theorem JD:∀{l:List AW} {r:AW} {k:Nat},k<=l.length->(∀x∈l.take k,BT x r<0)->(∀x,l[k]? =some x->¬BT x r<0/\x≠r)->Cp l r=(l.take k++ [r])++l.drop k
 | [],r,0,_,_,_=>rfl
 | [],r,k+1,h,_,_=>by simp at h
 | a::l,r,0,_,_,h=>by
  obtain ⟨b,f⟩:=h a rfl
  simp[Cp,ν b,ν f]
 | a::l,r,k+1,g,b,h=>by
  have f:BT a r<0:=b a (by simp);simp only[Cp,ϱ f];rw[JD (k:=k) (by simpa using g) (λx c=>b x (by simp[c])) (λx c=>h x (by simpa using c))]
  simp
theorem LY(l:List AW)(r:AW):(Cp l r).length<=l.length+1:=by
 induction l with
 | nil=>simp[Cp]
 | cons a l b=>
  grind[Cp]
theorem Oh(c:List (AW×Int)):(ju c).length<=c.length:=by
 induction c using cH with
 | h0=>simp[ju]
 | h1 l x a=>rw[J1];have:=LY (ju l) x.1;simp only[Δ,ζ];omega
def pd(r:AW)(p:Fd):Int:=if p.acc=r.acc then p.d else 0
def xI(r:AW)(p:NR):Int:=if p.f=r.f/\(r.k=2\/p.t=r.t) then p.n else 0
def xH(r:AW)(p:NR):Int:=if p.t=r.f/\(r.k=2\/p.f=r.t) then p.n else 0
def yd(r:AW)(p:NR):Int:= - xI r p+xH r p
def M8(i:cl)(r:AW):Int:=if r.k=0 then (i.po.map (pd r)).sum else (i.pa.map (yd r)).sum
theorem JN{l:List (AW×Int)}(h:∀x∈l,x.1≠u):Ag l u=0:=by
 induction l with
 | nil=>rfl
 | cons x l a=>
  grind[Ag]
theorem Vz(l:List a)(f:a->List (AW×Int))(r:AW):Ag (l.flatMap f) r=(l.map λb=>Ag (f b) r).sum:=by
 induction l with
 | nil=>rfl
 | cons b l c=>rw[List.flatMap_cons,Gs,c];rfl
theorem RX(h:CD u=0):M8 i u=Ag (js i) u:=by
 unfold M8 js;rw[Gs];unfold CD at h
 split at h
 .rename_i a
  split at h
  .rename_i c
   rw[ϱ a]
   have w:Ag (HZ i.pa) u=0:=JN λx o e=>by
    obtain ⟨p,_,y⟩:=mI.1 o;simp only[NH,jt,List.not_mem_nil,or_false] at y;rw[<-e] at a;rcases y with rfl | rfl | rfl | rfl<;>simp at a
   rw[w,Int.add_zero];unfold Ag EV;rw[jw]
   congr 1
   apply kQ
   intro p _;simp only[pd,Function.comp,HP]
   have e:(({k:=0,acc:=p.acc,f:=[],t:=[]}:AW)=u)↔p.acc=u.acc:=by
    rw[AW.eq_iff];simp[a,c.2.2.2.2.1,c.2.2.2.2.2]
   by_cases l:p.acc=u.acc
   .rw[ϱ l,ϱ (e.2 l)]
   .rw[ν l,ν (λh=>l (e.1 h))]
  .cases h
 .rename_i a
  rw[ν a]
  have w:Ag (EV i.po) u=0:=JN λx o e=>by
   obtain ⟨p,_,rfl⟩:=Γ.1 o;rw[<-e] at a;simp at a
  rw[w,Int.zero_add];unfold HZ;rw[Vz]
  congr 1
  apply kQ
  intro p _;simp only[yd,xI,xH,NH,Ag,k6,List.map_nil,lS,List.sum_nil,CU,DV,AW.eq_iff]
  split at h
  .rename_i v
   split at h
   .rename_i c
    have g:(q6=u.acc)=True:=eq_true c.2.2.2.symm;simp only[v,g];have A:¬(1:Int)=2:=by decide
    have z:¬(2:Int)=1:=by decide
    simp only[A,z,false_and,false_or,true_and,if_false]
    by_cases b:p.f=u.f/\p.t=u.t
    .by_cases j:p.t=u.f/\p.f=u.t
     .rw[ϱ b,ϱ j,ϱ b];omega
     .rw[ϱ b,ν j,ϱ b];omega
    .by_cases j:p.t=u.f/\p.f=u.t
     .rw[ν b,ϱ j,ν b];omega
     .rw[ν b,ν j,ν b];omega
   .cases h
  .split at h
   .rename_i s
    split at h
    .rename_i c
     have g:(q6=u.acc)=True:=eq_true c.2.2.symm;simp only[s,g,c.2.1]
     by_cases C:p.f=u.f<;>by_cases B:p.t=u.f<;>simp[C,B]<;>omega
    .cases h
   .cases h
theorem JC(l:List AW)(r:AW)(s:l.length<=100000):AI prog 152 [.d (.sl none (l.map Bm)),.d (Bm r)] (.sl none ((Cp l r).map Bm)):=by
 refine As func152 Z Z ntmps152 Z Z Z λF o=>(AD (AF (V (B7 1 Z Z Z Z Z Z Z) ?_)));refine AB Z Z (AC (AD (AF (AB Z Z (AC (AD (AX (BC (α:=Nat) (λk=>⟨49,[(0,.d (.sl none (l.map Bm))),(3,(.ptr 1 0 0)),(5,(.d (AE (k:Int))))],[(1,[.blk 98 [.d (AE r.k),.d (Ak r.acc.o),.d (AE r.acc.k),.d (Ak r.acc.a),.d (Ak r.f),.d (Ak r.t)]])]⟩) (λk=>k<=l.length/\∀x∈l.take k,BT x r<0) (λk=>l.length-k) (0) (⟨κ _,by simp⟩) (AR o [1] Z Z ⟨Z,Z,Z,trivial⟩) ?_))))))));rintro k ⟨h,i⟩;refine AD (AD ?_);refine Bq [[],[],[1],[0,1,2],[0,1,2,3],rg 5,rg 5,rg 7,rg 8,rg 5,rg 10,rg 11,rg 12] mixed Z (B2 (A7 5 Z Z (A7 0 Z Z (AK [8] Z (BU Z Ri Z) (BV 3 Z Z Z (A0 4 Z Z (J (At Z Z Z) (AC ⟨Z,?_⟩))))))));refine A0 5 Z Z (ch Z Z (C7 11 Z (λj=>?_) (λj=>?_)))
 .refine AC ⟨Z,?_⟩;refine B2 ?_
  try have a:k<l.length:=BF j
  refine A1 [0,11] [] Z Z (λ_=>BR Z Z Z (FW Z Z)) ?_;refine A1 [5,11] [] Z Z (λ_=>BR Z Z Z (FW Z Z)) (A1 [12,13,11] [] Z Z (λ_=>BR Z Z Z (Al (k) Z Z (Z) (AP a) Ri Z Kq Z)) (A1 [14,11] [] Z Z (λ_=>BR Z Z Z (CY Z Z Cf Z)) (Ay [3,11] Z Z (λ_=>BR Z Z Z (Ap Z Z Cf Z Z Z)) (BV 10 Z Z Z (A0 11 Z Z (AT Z Z Z (J (Aj (Hi l[k] r) Z Z) (AC ⟨Z,?_⟩))))))));refine A0 12 Z Z (AT Z Z Z (J (At Z Z Z) (AC ⟨Z,?_⟩)));refine A0 13 Z Z (J (B8 Z Z Z Z) (AC ⟨Z,?_⟩));refine Bb (A5 Z (λg=>?_) (λg=>?_))
  .refine AU (AX (AF (ch Z Z (J (Ad Z Z (AJ (k+1) (by omega)) Z) (AB Z Z (AC ?_))))));exact ⟨k+1,⟨by show k+1<=_;omega,by rw[ψ a];intro x b;rcases υ.1 b with b | b;exact i x b;rw[ξ.1 b];exact g⟩,by show l.length-(k+1)<l.length-k;omega,AR o [1] Z (Z) ⟨Z,Z,Z,trivial⟩⟩
  .refine Aq (AD (AD ?_));refine Bq [[],[],[1],[0,1,2],[0,1,2,3],rg 5,rg 5,rg 7,rg 8,rg 5,rg 10,rg 11] mixed Z (B2 (A7 5 Z Z (A7 0 Z Z (AK [23] Z (BU Z Ri Z) (BV 3 Z Z Z (A0 4 Z Z (J (At Z Z Z) (AC ⟨Z,?_⟩))))))));refine A0 5 Z Z (ch Z Z (C7 26 Z (λf=>?_) (λf=>?_)))
   .refine AC ⟨Z,?_⟩;refine B2 ?_
    try have a:k<l.length:=BF f
    refine A1 [0,26] [] Z Z (λ_=>BR Z Z Z (FW Z Z)) ?_;refine A1 [5,26] [] Z Z (λ_=>BR Z Z Z (FW Z Z)) (A1 [27,28,26] [] Z Z (λ_=>BR Z Z Z (Al (k) Z Z (Z) (AP a) Ri Z Kq Z)) (A1 [29,26] [] Z Z (λ_=>BR Z Z Z (CY Z Z Cf Z)) (Ay [3,26] Z Z (λ_=>BR Z Z Z (Ap Z Z Cf Z Z Z)) (BV 10 Z Z Z (A0 11 Z Z (AT Z Z Z (J (Fv (la:=LA l[k]) (lb:=LA r) (ds:=a8) (by kernel_rfl) (by kernel_rfl) (by kernel_rfl) Z Z Z Z (qi _) (qi _) (Kz _ _) Z) (AC ⟨Z,?_⟩))))))));refine A0 12 Z Z (J (B8 Z Z Z Z) (AC ⟨Z,?_⟩));refine Bb (A5 Z (λc=>?_) (λc=>?_))
    .refine AD (AF (ch Z Z (AB Z Z (AC (A4 ?_)))));exact ⟨_,[],[],A2 Z,Z,Z,by rw[Mn i ((ω a).trans (by rw[c]))],Z⟩
    .refine AU (AD (AF (V (CF 20 Df Z Z Z Z Z Z Z Z) (ch Z Z (ch Z Z ?_)))));refine J (YD (l) (k) Z Z Z (Z) (by omega) Ri Kq (λ_=>rfl) Z) (V (Jr (([]:List AW)) (l.take k) Z Z Z Z Z Z (λ_=>rfl) Df (by simp only[lT,η];omega) Z Z Z Z) (AB Z Z (AC (AD (AF (ch Z Z (J (Ap Z Z Cf Z Z Z) (V (CF 21 Df Z Z Z Z Z Z Z Z) ?_))))))));refine V (DN (([]++l.take k)) ([r]) Z Z Z Z Z Z Z Z Df (by simp only[kN,ζ,η];omega) Z Z Z Z) ?_;refine AB Z Z (AC (AD (AF (ch Z Z (ch Z Z (ch Z Z (J (cT (l) (k) Z Z Z (Z) (by omega) Ri Kq (λ_=>rfl) Z) ?_)))))));refine V (Jr ((([]++l.take k)++ [r])) (l.drop k) Z Z Z Z Z Z (λ_=>rfl) Df (by simp only[kN,Δ,ζ,η,lX];omega) Z Z Z Z) ?_;refine W3 (emb:=Bm) 48 20 ((([]++l.take k)++ [r])++l.drop k) Z Z Z Z Z Z Z (AB Z Z (AC (A4 ?_)));exact ⟨_,[],[],A2 Z,Z,Z,by rw[JD h i λx b=>by first | (exact absurd (φ.1 b).1 (by omega)) | (rw[ω a] at b;injection b with b;subst b;exact ⟨g,c⟩)];rfl,Z⟩
   .refine AC ⟨Z,?_⟩;refine B2 ?_
    try have a:k<l.length:=BF f
    refine A1 [0,26] [] Z Z (λ_=>Bw Z Z Z Z) (A1 [5,26] [] Z Z (λ_=>Bw Z Z Z Z) (A1 [27,28,26] [] Z Z (λ_=>Bw Z Z Z Z) (A1 [29,26] [] Z Z (λ_=>Bw Z Z Z Z) (A1 [3,26] [] Z Z (λ_=>Bw Z Z Z Z) (BV 10 Z Z Z (A0 11 Z Z (AN Z Z Z Z (AC ⟨Z,?_⟩))))))));refine A0 12 Z Z (J (Bx Z Z Z Z) (AC ⟨Z,?_⟩));refine Bb (Cq Z Z (AU (AD (AF (V (CF 20 Df Z Z Z Z Z Z Z Z) (ch Z Z (ch Z Z ?_)))))));refine J (YD (l) (k) Z Z Z (Z) (by omega) Ri Kq (λ_=>rfl) Z) (V (Jr (([]:List AW)) (l.take k) Z Z Z Z Z Z (λ_=>rfl) Df (by simp only[lT,η];omega) Z Z Z Z) (AB Z Z (AC (AD (AF (ch Z Z (J (Ap Z Z Cf Z Z Z) (V (CF 21 Df Z Z Z Z Z Z Z Z) ?_))))))));refine V (DN (([]++l.take k)) ([r]) Z Z Z Z Z Z Z Z Df (by simp only[kN,ζ,η];omega) Z Z Z Z) ?_;refine AB Z Z (AC (AD (AF (ch Z Z (ch Z Z (ch Z Z (J (cT (l) (k) Z Z Z (Z) (by omega) Ri Kq (λ_=>rfl) Z) ?_)))))));refine V (Jr ((([]++l.take k)++ [r])) (l.drop k) Z Z Z Z Z Z (λ_=>rfl) Df (by simp only[kN,Δ,ζ,η,lX];omega) Z Z Z Z) ?_;refine W3 (emb:=Bm) 48 20 ((([]++l.take k)++ [r])++l.drop k) Z Z Z Z Z Z Z (AB Z Z (AC (A4 ?_)));exact ⟨_,[],[],A2 Z,Z,Z,by rw[JD h i λx b=>by first | (exact absurd (φ.1 b).1 (by omega)) | (rw[ω a] at b;injection b with b;subst b;exact ⟨g,c⟩)];rfl,Z⟩
 .refine AC ⟨Z,?_⟩;refine B2 ?_
  try have a:k<l.length:=BF j
  refine A1 [0,11] [] Z Z (λ_=>Bw Z Z Z Z) (A1 [5,11] [] Z Z (λ_=>Bw Z Z Z Z) (A1 [12,13,11] [] Z Z (λ_=>Bw Z Z Z Z) (A1 [14,11] [] Z Z (λ_=>Bw Z Z Z Z) (A1 [3,11] [] Z Z (λ_=>Bw Z Z Z Z) (BV 10 Z Z Z (A0 11 Z Z (AN Z Z Z Z (AC ⟨Z,?_⟩))))))));refine A0 12 Z Z (AN Z Z Z Z (AC ⟨Z,?_⟩));refine A0 13 Z Z (J (Bx Z Z Z Z) (AC ⟨Z,?_⟩));refine Bb (Cq Z Z (Aq (AD (AD ?_))));refine Bq [[],[],[1],[0,1,2],[0,1,2,3],rg 5,rg 5,rg 7,rg 8,rg 5,rg 10,rg 11] mixed Z (B2 (A7 5 Z Z (A7 0 Z Z (AK [23] Z (BU Z Ri Z) (BV 3 Z Z Z (A0 4 Z Z (J (At Z Z Z) (AC ⟨Z,?_⟩))))))));refine A0 5 Z Z (ch Z Z (C7 26 Z (λf=>?_) (λf=>?_)))
  .refine AC ⟨Z,?_⟩;refine B2 ?_
   try have a:k<l.length:=BF f
   refine A1 [0,26] [] Z Z (λ_=>BR Z Z Z (FW Z Z)) ?_;refine A1 [5,26] [] Z Z (λ_=>BR Z Z Z (FW Z Z)) (A1 [27,28,26] [] Z Z (λ_=>BR Z Z Z (Al (k) Z Z (Z) (AP a) Ri Z Kq Z)) (A1 [29,26] [] Z Z (λ_=>BR Z Z Z (CY Z Z Cf Z)) (Ay [3,26] Z Z (λ_=>BR Z Z Z (Ap Z Z Cf Z Z Z)) (BV 10 Z Z Z (A0 11 Z Z (AT Z Z Z (J (Fv (la:=LA l[k]) (lb:=LA r) (ds:=a8) (by kernel_rfl) (by kernel_rfl) (by kernel_rfl) Z Z Z Z (qi _) (qi _) (Kz _ _) Z) (AC ⟨Z,?_⟩))))))));refine A0 12 Z Z (J (B8 Z Z Z Z) (AC ⟨Z,?_⟩));refine Bb (A5 Z (λc=>?_) (λc=>?_))
   .refine AD (AF (ch Z Z (AB Z Z (AC (A4 ?_)))));exact ⟨_,[],[],A2 Z,Z,Z,by rw[Mn i ((ω a).trans (by rw[c]))],Z⟩
   .refine AU (AD (AF (V (CF 20 Df Z Z Z Z Z Z Z Z) (ch Z Z (ch Z Z ?_)))));refine J (YD (l) (k) Z Z Z (Z) (by omega) Ri Kq (λ_=>rfl) Z) (V (Jr (([]:List AW)) (l.take k) Z Z Z Z Z Z (λ_=>rfl) Df (by simp only[lT,η];omega) Z Z Z Z) (AB Z Z (AC (AD (AF (ch Z Z (J (Ap Z Z Cf Z Z Z) (V (CF 21 Df Z Z Z Z Z Z Z Z) ?_))))))));refine V (DN (([]++l.take k)) ([r]) Z Z Z Z Z Z Z Z Df (by simp only[kN,ζ,η];omega) Z Z Z Z) ?_;refine AB Z Z (AC (AD (AF (ch Z Z (ch Z Z (ch Z Z (J (cT (l) (k) Z Z Z (Z) (by omega) Ri Kq (λ_=>rfl) Z) ?_)))))));refine V (Jr ((([]++l.take k)++ [r])) (l.drop k) Z Z Z Z Z Z (λ_=>rfl) Df (by simp only[kN,Δ,ζ,η,lX];omega) Z Z Z Z) ?_;refine W3 (emb:=Bm) 48 20 ((([]++l.take k)++ [r])++l.drop k) Z Z Z Z Z Z Z (AB Z Z (AC (A4 ?_)));exact ⟨_,[],[],A2 Z,Z,Z,by rw[JD h i λx b=>by first | (exact absurd (φ.1 b).1 (by omega)) | (rw[ω a] at b;injection b with b;subst b;exact ⟨g,c⟩)];rfl,Z⟩
  .refine AC ⟨Z,?_⟩;refine B2 ?_
   try have a:k<l.length:=BF f
   refine A1 [0,26] [] Z Z (λ_=>Bw Z Z Z Z) (A1 [5,26] [] Z Z (λ_=>Bw Z Z Z Z) (A1 [27,28,26] [] Z Z (λ_=>Bw Z Z Z Z) (A1 [29,26] [] Z Z (λ_=>Bw Z Z Z Z) (A1 [3,26] [] Z Z (λ_=>Bw Z Z Z Z) (BV 10 Z Z Z (A0 11 Z Z (AN Z Z Z Z (AC ⟨Z,?_⟩))))))));refine A0 12 Z Z (J (Bx Z Z Z Z) (AC ⟨Z,?_⟩));refine Bb (Cq Z Z (AU (AD (AF (V (CF 20 Df Z Z Z Z Z Z Z Z) (ch Z Z (ch Z Z ?_)))))));refine J (YD (l) (k) Z Z Z (Z) (by omega) Ri Kq (λ_=>rfl) Z) (V (Jr (([]:List AW)) (l.take k) Z Z Z Z Z Z (λ_=>rfl) Df (by simp only[lT,η];omega) Z Z Z Z) (AB Z Z (AC (AD (AF (ch Z Z (J (Ap Z Z Cf Z Z Z) (V (CF 21 Df Z Z Z Z Z Z Z Z) ?_))))))));refine V (DN (([]++l.take k)) ([r]) Z Z Z Z Z Z Z Z Df (by simp only[kN,ζ,η];omega) Z Z Z Z) ?_;refine AB Z Z (AC (AD (AF (ch Z Z (ch Z Z (ch Z Z (J (cT (l) (k) Z Z Z (Z) (by omega) Ri Kq (λ_=>rfl) Z) ?_)))))));refine V (Jr ((([]++l.take k)++ [r])) (l.drop k) Z Z Z Z Z Z (λ_=>rfl) Df (by simp only[kN,Δ,ζ,η,lX];omega) Z Z Z Z) ?_;refine W3 (emb:=Bm) 48 20 ((([]++l.take k)++ [r])++l.drop k) Z Z Z Z Z Z Z (AB Z Z (AC (A4 ?_)));exact ⟨_,[],[],A2 Z,Z,Z,by rw[JD h i λx b=>by first | (exact absurd (φ.1 b).1 (by omega)) | (rw[ω a] at b;injection b with b;subst b;exact ⟨g,c⟩)];rfl,Z⟩
theorem J2{l:List a}{f:a->Int}{B:Int}(h:∀x∈l,-B<=f x/\f x<=B)(n:Nat)(b:l.length<=n)(i:0<=B): -(n*B)<=(l.map f).sum/\(l.map f).sum<=n*B:=by
 induction l generalizing n with
 | nil=>have:=Int.mul_nonneg (Int.natCast_nonneg n) i;simp only[List.map_nil,List.sum_nil];omega
 | cons x l c=>
  obtain ⟨m,rfl⟩:∃m,n=m+1:=⟨n-1,by simp at b;omega⟩
  have j:=c (λy g=>h y (by simp[g])) m (by simpa using b)
  grind
theorem Oo{f:a->Int}(b:k<c.length):((c.take (k+1)).map f).sum=((c.take k).map f).sum+f c[k]:=by
 rw[ψ b,jy,mc];simp
theorem xl(a:mT i)(r:AW)(k:Nat): -256000000000000000<=((i.po.take k).map (pd r)).sum/\((i.po.take k).map (pd r)).sum<=256000000000000000:=by
 have h:=J2 (l:=i.po.take k) (f:=pd r) (B:=Mx) (λx b=>by
  have:=a.d x (lI b);simp only[Mx] at this;unfold pd;split
  .simp only[Mx];omega
  .simp only[Mx];omega) 256 (by have:=a.po;rw[η];omega) (by decide)
 grind
theorem xS(a:mT i)(r:AW)(k:Nat): -512000000000000000<=((i.pa.take k).map (yd r)).sum/\((i.pa.take k).map (yd r)).sum<=512000000000000000:=by
 have h:=J2 (l:=i.pa.take k) (f:=yd r) (B:=2*Mx) (λx b=>by
  have:=a.n x (lI b);simp only[Mx] at this
  unfold yd xI xH;simp only[Mx];(repeat' split)<;>omega) 256 (by have:=a.pa;rw[η];omega) (by decide)
 grind
theorem U8(i:cl)(r:AW)(v:mT i):AI prog 103 [.d (Ah i),.d (Bm r)] (AE (M8 i r)):=by
 have B:=v.po;have C:=v.pa;refine As func103 Z Z ntmps103 Z Z Z λF w=>?_;refine AD (AF (V (B7 1 Z Z Z Z Z Z Z) (V (B7 2 Z Z Z Z Z Z Z) (AB Z Z (AC (AD (AF (AB Z Z ?_))))))));refine AC (AD (AD (AF (J (AM Z Gm Z Z Z) (J (AQ Z Z Z Ai Z) (J (Fa Z Z Z) (AC (A5 Z (λu=>?_) (λu=>?_)))))))))
 .refine AD (AD (AF (AB Z Z (AC (AX (BC (α:=Nat×Int) (λq=>⟨92,[(2,(.ptr 1 0 0)),(3,(.ptr 2 0 0)),(5,(.d (AE q.2))),(6,(.d (AE (q.1:Int))))],[(1,[.blk 93 [.d (AE i.id),.d (AE i.pr),.d (AE i.sq),.d (.sl none (i.po.map Bd)),.d (.sl none (i.pa.map Cy)),.d (.sl none (i.af.map AE))]]),(2,[.blk 98 [.d (AE r.k),.d (Ak r.acc.o),.d (AE r.acc.k),.d (Ak r.acc.a),.d (Ak r.f),.d (Ak r.t)]])]⟩) (λq=>q.1<=i.po.length/\q.2=((i.po.take q.1).map (pd r)).sum) (λq=>i.po.length-q.1) ((0,0)) (⟨κ _,Z⟩) (AR w [1,2] Z Z ⟨Z,Z,Z,Z,trivial⟩) ?_))))));rintro ⟨k,n⟩ ⟨j,g⟩;dsimp only at j g⊢;have x:=xl v r k;refine AD ?_;refine AD (AF (ch Z Z (J (AM Z DE Z Z Z) (J (AQ Z Z Z Iq Z) (J (BU Z R5 Z) (J (At Z Z Z) (AC (A5 Z (λt=>?_) (λt=>?_)))))))))
  .have a:k<i.po.length:=BF t;refine AU (AD (AX (AD (Bq [[],[0],[],[0,1,2],[0,1,2,3],rg 5,[],[6],rg 8] mixed Z (B2 (AK [2] Z (AM Z DE Z Z Z) (Ay [19] Z Z (λ_=>Aa (AQ Z Z Z Iq Z)) (A7 6 Z Z ?_))))))));refine AK [20,21] Z (Al (k) Z Z (Z) (AP a) R5 Z KF Z) (AK [22] Z (KL Z F7 Z Z Z) (AK [23] Z (CY Z Z aY Z) (AK [3] Z (AM Z Eg Z Z Z) (Ay [25] Z Z (λ_=>Aa (Ap Z Z aY Z Z Z)) (BV 8 Z Z Z (A0 9 Z Z (J (Fv (la:=OB i.po[k].acc) (lb:=OB r.acc) (ds:=jM) (by kernel_rfl) (by kernel_rfl) (by kernel_rfl) Z Z Z Z (Dt _) (Dt _) (O7 _ _) Z) (AC ⟨Z,?_⟩))))))));refine Bb (A5 Z (λs=>?_) (λs=>?_))
   .refine AF (ch Z Z (J (AM Z DE Z Z Z) (J (AQ Z Z Z Iq Z) (ch Z Z (J (Al (k) Z Z (Z) (AP a) R5 Z KF Z) (J (Gw Z L8 Z Z Z) (J (BZ Z Z FJ Z) ?_)))))));have l:=v.d _ (ϑ a);simp only[Mx] at l;refine J (Ad Z Z (Ξ _ (by omega)) Z) (AB Z Z (AC (AF (ch Z Z (J (Ad Z Z (AJ (k+1) (by omega)) Z) (AB Z Z (AC ?_)))))));exact ⟨(k+1,_),⟨by show k+1<=_;omega,by show _=((i.po.take (k+1)).map (pd r)).sum;rw[Oo a,<-g];unfold pd;rw[ϱ s]⟩,by show i.po.length-(k+1)<i.po.length-k;omega,AR w [1,2] Z (Z) ⟨Z,Z,Z,Z,trivial⟩⟩
   .refine AU (AF (ch Z Z (J (Ad Z Z (AJ (k+1) (by omega)) Z) (AB Z Z (AC ?_)))));exact ⟨(k+1,_),⟨by show k+1<=_;omega,by show _=((i.po.take (k+1)).map (pd r)).sum;rw[Oo a,<-g];unfold pd;rw[ν s];exact (Int.add_zero _).symm⟩,by show i.po.length-(k+1)<i.po.length-k;omega,AR w [1,2] Z (Z) ⟨Z,Z,Z,Z,trivial⟩⟩
  .refine Aq (AD (AF (ch Z Z (AB Z Z (AC (A4 ?_))))));exact ⟨_,[],[],A2 Z,Z,Z,Ae (by unfold M8;rw[ϱ u,g,θ (by have h:=t;omega)]),Z⟩
 .refine AU (AD (AD (AF (AB Z Z (AC (AX (BC (α:=Nat×Int) (λq=>⟨92,[(2,(.ptr 1 0 0)),(3,(.ptr 2 0 0)),(5,(.d (AE q.2))),(7,(.d (AE (q.1:Int))))],[(1,[.blk 93 [.d (AE i.id),.d (AE i.pr),.d (AE i.sq),.d (.sl none (i.po.map Bd)),.d (.sl none (i.pa.map Cy)),.d (.sl none (i.af.map AE))]]),(2,[.blk 98 [.d (AE r.k),.d (Ak r.acc.o),.d (AE r.acc.k),.d (Ak r.acc.a),.d (Ak r.f),.d (Ak r.t)]])]⟩) (λq=>q.1<=i.pa.length/\q.2=((i.pa.take q.1).map (yd r)).sum) (λq=>i.pa.length-q.1) ((0,0)) (⟨κ _,Z⟩) (AR w [1,2] Z Z ⟨Z,Z,Z,Z,trivial⟩) ?_)))))));rintro ⟨k,n⟩ ⟨j,g⟩;dsimp only at j g⊢;have x:=xS v r k;refine AD ?_;refine AD (AF (ch Z Z (J (AM Z Gn Z Z Z) (J (AQ Z Z Z Q5 Z) (J (BU Z an Z) (J (At Z Z Z) (AC (A5 Z (λo=>?_) (λo=>?_)))))))))
  .have a:k<i.pa.length:=BF o;refine AU (AD (AX (AD (AF ?_))));have l:=v.n _ (ϑ a);simp only[Mx] at l;refine J (AM Z Gn Z Z Z) (J (AQ Z Z Z Q5 Z) (ch Z Z (J (Al (k) Z Z (Z) (AP a) an Z On Z) (J (CY Z Z Ya Z) (V (CP 3 cZ Z Z Z Z) (V (Bi Z Z Z Z Z Z Z On) (AC (AD ?_))))))));refine AD (AF (J (AM Z Ev Z Z Z) (J (AQ Z Z Z CZ Z) (J (AM Z FM Z Z Z) (J (AQ Z Z Z CZ Z) (J (Km Z Z Z) (ch Z Z (C7 54 Z (λA=>?_) (λA=>?_)))))))));refine AT Z Z Z (J (AM Z Gm Z Z Z) (AT Z Z Z (J (AQ Z Z Z Ai Z) (AT Z Z Z (J (Fa Z Z Z) (AT Z Z Z (ch Z Z (C7 58 Z (λz=>?_) (λz=>?_)))))))));refine AN Z Z Z Z (AN Z Z Z Z (AN Z Z Z Z (AN Z Z Z Z (AN Z Z Z Z (AT Z Z Z (J (B8 Z Z Z Z) (J (B8 Z Z Z Z) ?_)))))));refine AC (CM Z Z (AF (ch Z Z (J (AM Z D2 Z Z Z) (J (AQ Z Z Z FJ Z) (J (ME Z Z (Ξ _ (by omega)) Z) (AB Z Z (AC ?_))))))));refine AD (AF (J (AM Z Eu Z Z Z) (J (AQ Z Z Z CZ Z) (J (AM Z FM Z Z Z) (J (AQ Z Z Z CZ Z) (J (Km Z Z Z) (ch Z Z (C7 75 Z (λf=>?_) (λf=>?_)))))))));refine AT Z Z Z (J (AM Z Gm Z Z Z) (AT Z Z Z (J (AQ Z Z Z Ai Z) (AT Z Z Z (J (Fa Z Z Z) (AT Z Z Z (ch Z Z (C7 79 Z (λc=>?_) (λc=>?_)))))))));refine AN Z Z Z Z (AN Z Z Z Z (AN Z Z Z Z (AN Z Z Z Z (AN Z Z Z Z (AT Z Z Z (J (B8 Z Z Z Z) (J (B8 Z Z Z Z) ?_)))))));refine AC (CM Z Z (AF (ch Z Z (J (AM Z D2 Z Z Z) (J (AQ Z Z Z FJ Z) (J (Ad Z Z (Ξ _ (by omega)) Z) (AB Z Z (AC ?_))))))))
   rotate_left
   refine AT Z Z Z (J (AM Z Ev Z Z Z) (AT Z Z Z (J (AQ Z Z Z CZ Z) (AT Z Z Z (J (AM Z FL Z Z Z) ?_)))));refine AT Z Z Z (J (AQ Z Z Z CZ Z) (AT Z Z Z (J (Km Z Z Z) (AT Z Z Z (J (Bx Z Z Z Z) (J (B8 Z Z Z Z) (AC (A5 Z (λb=>?_) (λb=>?_)))))))));refine AF (ch Z Z (J (AM Z D2 Z Z Z) (J (AQ Z Z Z FJ Z) (J (Ad Z Z (Ξ _ (by omega)) Z) (AB Z Z (AC ?_))))))
   rotate_left
   refine AU ?_
   rotate_left
   refine AN Z Z Z Z (AN Z Z Z Z (AN Z Z Z Z (AN Z Z Z Z (Kn Z Z Z ?_))));refine Kn Z Z Z (Kn Z Z Z (Kn Z Z Z (Kn Z Z Z (AN Z Z Z Z (J (Bx Z Z Z Z) (AC (Cq Z Z (AU ?_))))))))
   rotate_left
   refine AT Z Z Z (J (AM Z Eu Z Z Z) (AT Z Z Z (J (AQ Z Z Z CZ Z) (AT Z Z Z (J (AM Z FL Z Z Z) ?_)))));refine AT Z Z Z (J (AQ Z Z Z CZ Z) (AT Z Z Z (J (Km Z Z Z) (AT Z Z Z (J (Bx Z Z Z Z) (J (B8 Z Z Z Z) (AC (A5 Z (λy=>?_) (λy=>?_)))))))));refine AF (ch Z Z (J (AM Z D2 Z Z Z) (J (AQ Z Z Z FJ Z) (J (ME Z Z (Ξ _ (by omega)) Z) (AB Z Z (AC ?_))))));refine AD (AF (J (AM Z Eu Z Z Z) (J (AQ Z Z Z CZ Z) (J (AM Z FM Z Z Z) (J (AQ Z Z Z CZ Z) (J (Km Z Z Z) (ch Z Z (C7 75 Z (λf=>?_) (λf=>?_)))))))));refine AT Z Z Z (J (AM Z Gm Z Z Z) (AT Z Z Z (J (AQ Z Z Z Ai Z) (AT Z Z Z (J (Fa Z Z Z) (AT Z Z Z (ch Z Z (C7 79 Z (λc=>?_) (λc=>?_)))))))));refine AN Z Z Z Z (AN Z Z Z Z (AN Z Z Z Z (AN Z Z Z Z (AN Z Z Z Z (AT Z Z Z (J (B8 Z Z Z Z) (J (B8 Z Z Z Z) ?_)))))));refine AC (CM Z Z (AF (ch Z Z (J (AM Z D2 Z Z Z) (J (AQ Z Z Z FJ Z) (J (Ad Z Z (Ξ _ (by omega)) Z) (AB Z Z (AC ?_))))))))
   rotate_left
   refine AT Z Z Z (J (AM Z Ev Z Z Z) (AT Z Z Z (J (AQ Z Z Z CZ Z) (AT Z Z Z (J (AM Z FL Z Z Z) ?_)))));refine AT Z Z Z (J (AQ Z Z Z CZ Z) (AT Z Z Z (J (Km Z Z Z) (AT Z Z Z (J (Bx Z Z Z Z) (J (B8 Z Z Z Z) (AC (A5 Z (λb=>?_) (λb=>?_)))))))));refine AF (ch Z Z (J (AM Z D2 Z Z Z) (J (AQ Z Z Z FJ Z) (J (Ad Z Z (Ξ _ (by omega)) Z) (AB Z Z (AC ?_))))))
   rotate_left
   refine AU ?_
   rotate_left
   refine AN Z Z Z Z (AN Z Z Z Z (AN Z Z Z Z (AN Z Z Z Z (Kn Z Z Z ?_))));refine Kn Z Z Z (Kn Z Z Z (Kn Z Z Z (Kn Z Z Z (AN Z Z Z Z (J (Bx Z Z Z Z) (AC (Cq Z Z (AU ?_))))))))
   rotate_left
   refine AU ?_;refine AD (AF (J (AM Z Eu Z Z Z) (J (AQ Z Z Z CZ Z) (J (AM Z FM Z Z Z) (J (AQ Z Z Z CZ Z) (J (Km Z Z Z) (ch Z Z (C7 75 Z (λf=>?_) (λf=>?_)))))))));refine AT Z Z Z (J (AM Z Gm Z Z Z) (AT Z Z Z (J (AQ Z Z Z Ai Z) (AT Z Z Z (J (Fa Z Z Z) (AT Z Z Z (ch Z Z (C7 79 Z (λc=>?_) (λc=>?_)))))))));refine AN Z Z Z Z (AN Z Z Z Z (AN Z Z Z Z (AN Z Z Z Z (AN Z Z Z Z (AT Z Z Z (J (B8 Z Z Z Z) (J (B8 Z Z Z Z) ?_)))))));refine AC (CM Z Z (AF (ch Z Z (J (AM Z D2 Z Z Z) (J (AQ Z Z Z FJ Z) (J (Ad Z Z (Ξ _ (by omega)) Z) (AB Z Z (AC ?_))))))))
   rotate_left
   refine AT Z Z Z (J (AM Z Ev Z Z Z) (AT Z Z Z (J (AQ Z Z Z CZ Z) (AT Z Z Z (J (AM Z FL Z Z Z) ?_)))));refine AT Z Z Z (J (AQ Z Z Z CZ Z) (AT Z Z Z (J (Km Z Z Z) (AT Z Z Z (J (Bx Z Z Z Z) (J (B8 Z Z Z Z) (AC (A5 Z (λb=>?_) (λb=>?_)))))))));refine AF (ch Z Z (J (AM Z D2 Z Z Z) (J (AQ Z Z Z FJ Z) (J (Ad Z Z (Ξ _ (by omega)) Z) (AB Z Z (AC ?_))))))
   rotate_left
   refine AU ?_
   rotate_left
   refine AN Z Z Z Z (AN Z Z Z Z (AN Z Z Z Z (AN Z Z Z Z (Kn Z Z Z ?_))));refine Kn Z Z Z (Kn Z Z Z (Kn Z Z Z (Kn Z Z Z (AN Z Z Z Z (J (Bx Z Z Z Z) (AC (Cq Z Z (AU ?_))))))))
   rotate_left
   refine AN Z Z Z Z (AN Z Z Z Z (AN Z Z Z Z (AN Z Z Z Z (Kn Z Z Z ?_))));refine Kn Z Z Z (Kn Z Z Z (Kn Z Z Z (Kn Z Z Z (AN Z Z Z Z (J (Bx Z Z Z Z) (AC (Cq Z Z (AU ?_))))))));refine AD (AF (J (AM Z Eu Z Z Z) (J (AQ Z Z Z CZ Z) (J (AM Z FM Z Z Z) (J (AQ Z Z Z CZ Z) (J (Km Z Z Z) (ch Z Z (C7 75 Z (λf=>?_) (λf=>?_)))))))));refine AT Z Z Z (J (AM Z Gm Z Z Z) (AT Z Z Z (J (AQ Z Z Z Ai Z) (AT Z Z Z (J (Fa Z Z Z) (AT Z Z Z (ch Z Z (C7 79 Z (λc=>?_) (λc=>?_)))))))));refine AN Z Z Z Z (AN Z Z Z Z (AN Z Z Z Z (AN Z Z Z Z (AN Z Z Z Z (AT Z Z Z (J (B8 Z Z Z Z) (J (B8 Z Z Z Z) ?_)))))));refine AC (CM Z Z (AF (ch Z Z (J (AM Z D2 Z Z Z) (J (AQ Z Z Z FJ Z) (J (Ad Z Z (Ξ _ (by omega)) Z) (AB Z Z (AC ?_))))))))
   rotate_left
   refine AT Z Z Z (J (AM Z Ev Z Z Z) (AT Z Z Z (J (AQ Z Z Z CZ Z) (AT Z Z Z (J (AM Z FL Z Z Z) ?_)))));refine AT Z Z Z (J (AQ Z Z Z CZ Z) (AT Z Z Z (J (Km Z Z Z) (AT Z Z Z (J (Bx Z Z Z Z) (J (B8 Z Z Z Z) (AC (A5 Z (λb=>?_) (λb=>?_)))))))));refine AF (ch Z Z (J (AM Z D2 Z Z Z) (J (AQ Z Z Z FJ Z) (J (Ad Z Z (Ξ _ (by omega)) Z) (AB Z Z (AC ?_))))))
   rotate_left
   refine AU ?_
   rotate_left
   refine AN Z Z Z Z (AN Z Z Z Z (AN Z Z Z Z (AN Z Z Z Z (Kn Z Z Z ?_))));refine Kn Z Z Z (Kn Z Z Z (Kn Z Z Z (Kn Z Z Z (AN Z Z Z Z (J (Bx Z Z Z Z) (AC (Cq Z Z (AU ?_))))))))
   all_goals
    refine AF (ch Z Z (J (Ad Z Z (AJ (k+1) (by omega)) Z) (AB Z Z (AC ?_))));exact ⟨(k+1,_),⟨by show k+1<=_;omega,by show _=((i.pa.take (k+1)).map (yd r)).sum;rw[Oo a,<-g];unfold yd xI xH;(repeat' split)<;>first | omega | (exfalso;simp_all;done)⟩,by show i.pa.length-(k+1)<i.pa.length-k;omega,AR w [1,2] Z (Z) ⟨Z,Z,Z,Z,trivial⟩⟩
  .refine Aq (AD (AF (ch Z Z (AB Z Z (AC (A4 ?_))))));exact ⟨_,[],[],A2 Z,Z,Z,Ae (by unfold M8;rw[ν u,g,θ (by have h:=o;omega)]),Z⟩
def FH(i:cl):Int:=BM [GA i,LF i,OA i]
theorem Di(a:h=GA i)(b:h≠0):h=FH i:=by grind[FH,BM]
theorem GD(b:GA i=0)(a:h=LF i)(c:h≠0):h=FH i:=by grind[FH,BM]
theorem Hj(c:GA i=0)(b:LF i=0)(a:h=OA i):h=FH i:=by grind[FH,BM]
theorem oY(i:cl)(M:i.po.length<=1000)(L:i.pa.length<=1000)(K:i.af.length<=1000):AI prog 101 [.d (Ah i)] (AE (FH i)):=by
 refine As func101 Z Z ntmps101 Z Z Z λF s=>(AD (AF (V (B7 1 Z Z Z Z Z Z Z) ?_)));refine AB Z Z (AC (AD (AD (AF (AB Z Z (AC (AX (BC (α:=Nat) (λk=>⟨121,[(1,(.ptr 1 0 0)),(3,(.d (AE (k:Int))))],[(1,[.blk 93 [.d (AE i.id),.d (AE i.pr),.d (AE i.sq),.d (.sl none (i.po.map Bd)),.d (.sl none (i.pa.map Cy)),.d (.sl none (i.af.map AE))]])]⟩) (λk=>k<=i.po.length/\GA i=BM ((i.po.drop k).map Im)) (λk=>i.po.length-k) (0) (⟨κ _,Z⟩) (AR s [1] Z Z ⟨Z,Z,trivial⟩) ?_))))))));rintro k ⟨t,j⟩;refine AD ?_;refine AD (AF (ch Z Z (J (AM Z DE Z Z Z) (J (AQ Z Z Z Iq Z) (J (BU Z R5 Z) (J (At Z Z Z) (AC (A5 Z (λr=>?_) (λr=>?_)))))))))
 .have a:k<i.po.length:=BF r;refine AU (AD (AX (AD (AF ?_))));have c:=nN a j;refine J (AM Z DE Z Z Z) (J (AQ Z Z Z Iq Z) (ch Z Z (J (Al (k) Z Z (Z) (AP a) R5 Z KF Z) (J (CY Z Z vi Z) (V (CP 2 vL Z Z Z Z) (V (Bi Z Z Z Z Z Z Z KF) (AC ?_)))))));refine AX (AD (AF (J (AM Z F7 Z Z Z) (J (AM Z TM Z Z Z) (J (AQ Z Z Z CZ Z) (J (Km Z Z Z) (ch Z Z (C7 25 Z (λH=>?_) (λH=>?_)))))))))
  .refine AN Z Z Z Z (AN Z Z Z Z (AN Z Z Z Z (AN Z Z Z Z ?_)));refine J (B8 Z Z Z Z) (AB Z Z (AC (CM Z Z (AD (AF (AB Z Z (AC (A4 ?_))))))));exact ⟨_,[],[],A2 Z,Z,Z,Ae (Di (c.2 6 (by unfold Im;rw[ϱ (by simp_all)]) (by decide)) (by decide)),Z⟩
  .refine AT Z Z Z (J (AM Z F7 Z Z Z) (AT Z Z Z ?_));refine J (AM Z My Z Z Z) (AT Z Z Z (J (AQ Z Z Z CZ Z) (AT Z Z Z (J (Km Z Z Z) (J (Bx Z Z Z Z) (AB Z Z (AC (A5 Z (λI=>?_) (λI=>?_)))))))))
   .refine AD (AF (AB Z Z (AC (A4 ?_))));exact ⟨_,[],[],A2 Z,Z,Z,Ae (Di (c.2 6 (by unfold Im;rw[ϱ (by simp_all)]) (by decide)) (by decide)),Z⟩
   .refine AD (AF (J (AM Z F7 Z Z Z) (J (AM Z Mz Z Z Z) (J (AQ Z Z Z Ai Z) (J (At Z Z Z) (ch Z Z (C7 36 Z (λE=>?_) (λE=>?_))))))))
    .refine AN Z Z Z Z (AN Z Z Z Z (AN Z Z Z Z (AN Z Z Z Z ?_)));refine J (B8 Z Z Z Z) (AB Z Z (AC (CM Z Z (AD (AF (AB Z Z (AC (A4 ?_))))))));exact ⟨_,[],[],A2 Z,Z,Z,Ae (Di (c.2 11 (by unfold Im;rw[ν (by simp_all),ϱ (by omega)]) (by decide)) (by decide)),Z⟩
    .refine AT Z Z Z (J (AM Z F7 Z Z Z) (AT Z Z Z ?_));refine J (AM Z Mz Z Z Z) (AT Z Z Z (J (AQ Z Z Z Ai Z) (AT Z Z Z (J (H4 Z Z Z) (J (Bx Z Z Z Z) (AB Z Z (AC (A5 Z (λG=>?_) (λG=>?_)))))))))
     .refine AD (AF (AB Z Z (AC (A4 ?_))));exact ⟨_,[],[],A2 Z,Z,Z,Ae (Di (c.2 11 (by unfold Im;rw[ν (by simp_all),ϱ (by omega)]) (by decide)) (by decide)),Z⟩
     .refine AD (AF (J (AM Z L8 Z Z Z) (J (AQ Z Z Z FJ Z) (J (At Z Z Z) (ch Z Z (C7 46 Z (λC=>?_) (λC=>?_)))))))
      .refine AN Z Z Z Z (AN Z Z Z Z (AN Z Z Z Z ?_));refine J (B8 Z Z Z Z) (AB Z Z (AC (CM Z Z (AD (AF (AB Z Z (AC (A4 ?_))))))));exact ⟨_,[],[],A2 Z,Z,Z,Ae (Di (c.2 12 (by unfold Im;rw[ν (by simp_all),ν (by omega),ϱ (by simp only[Mx];omega)]) (by decide)) (by decide)),Z⟩
      .refine AT Z Z Z ?_;refine J (AM Z L8 Z Z Z) (AT Z Z Z (J (AQ Z Z Z FJ Z) (AT Z Z Z (J (H4 Z Z Z) (J (Bx Z Z Z Z) (AB Z Z (AC (A5 Z (λD=>?_) (λD=>?_)))))))))
       .refine AD (AF (AB Z Z (AC (A4 ?_))));exact ⟨_,[],[],A2 Z,Z,Z,Ae (Di (c.2 12 (by unfold Im;rw[ν (by simp_all),ν (by omega),ϱ (by simp only[Mx];omega)]) (by decide)) (by decide)),Z⟩
       .refine AU (AF (ch Z Z (J (Ad Z Z (AJ (k+1) (by omega)) Z) (AB Z Z (AC ?_)))));exact ⟨k+1,⟨by show k+1<=_;omega,c.1 (by unfold Im;rw[ν (by simp_all),ν (by omega),ν (by simp only[Mx];omega)])⟩,by show i.po.length-(k+1)<i.po.length-k;omega,AR s [1] Z (Z) ⟨Z,Z,trivial⟩⟩
 .refine Aq (AD (AD ?_));have b:GA i=0:=by rw[j,DX (by have h:=r;omega)]
  refine AF (AB Z Z (AC (AX (BC (α:=Nat) (λk=>⟨121,[(1,(.ptr 1 0 0)),(5,(.d (AE (k:Int))))],[(1,[.blk 93 [.d (AE i.id),.d (AE i.pr),.d (AE i.sq),.d (.sl none (i.po.map Bd)),.d (.sl none (i.pa.map Cy)),.d (.sl none (i.af.map AE))]])]⟩) (λk=>k<=i.pa.length/\LF i=BM ((i.pa.drop k).map Jt)) (λk=>i.pa.length-k) (0) (⟨κ _,Z⟩) (AR s [1] Z Z ⟨Z,Z,trivial⟩) ?_))));rintro k ⟨t,j⟩;refine AD ?_;refine AD (AF (ch Z Z (J (AM Z Gn Z Z Z) (J (AQ Z Z Z Q5 Z) (J (BU Z an Z) (J (At Z Z Z) (AC (A5 Z (λo=>?_) (λo=>?_)))))))))
  .have a:k<i.pa.length:=BF o;refine AU (AD (AX (AD (AF ?_))));have c:=nN a j;refine J (AM Z Gn Z Z Z) (J (AQ Z Z Z Q5 Z) (ch Z Z (J (Al (k) Z Z (Z) (AP a) an Z On Z) (J (CY Z Z Ya Z) (V (CP 3 cZ Z Z Z Z) (V (Bi Z Z Z Z Z Z Z On) ?_))))));refine AC (AX (AD (AF (J (AM Z Ev Z Z Z) (J (AQ Z Z Z CZ Z) (J (Km Z Z Z) (ch Z Z (C7 67 Z (λA=>?_) (λA=>?_)))))))))
   .refine AN Z Z Z Z (AN Z Z Z Z (AN Z Z Z Z ?_));refine J (B8 Z Z Z Z) (AB Z Z (AC (CM Z Z (AD (AF (AB Z Z (AC (A4 ?_))))))));exact ⟨_,[],[],A2 Z,Z,Z,Ae (GD b (c.2 6 (by unfold Jt;rw[ϱ (by simp_all)]) (by decide)) (by decide)),Z⟩
   .refine AT Z Z Z ?_;refine J (AM Z Eu Z Z Z) (AT Z Z Z (J (AQ Z Z Z CZ Z) (AT Z Z Z (J (Km Z Z Z) (J (Bx Z Z Z Z) (AB Z Z (AC (A5 Z (λB=>?_) (λB=>?_)))))))))
    .refine AD (AF (AB Z Z (AC (A4 ?_))));exact ⟨_,[],[],A2 Z,Z,Z,Ae (GD b (c.2 6 (by unfold Jt;rw[ϱ (by simp_all)]) (by decide)) (by decide)),Z⟩
    .refine AD ?_;refine AF (J (AM Z Ev Z Z Z) (J (AQ Z Z Z CZ Z) (J (AM Z Eu Z Z Z) (J (AQ Z Z Z CZ Z) (J (Km Z Z Z) (AB Z Z (AC (A5 Z (λz=>?_) (λz=>?_)))))))))
     .refine AD (AF (AB Z Z (AC (A4 ?_))));exact ⟨_,[],[],A2 Z,Z,Z,Ae (GD b (c.2 7 (by unfold Jt;rw[ν (by simp_all),ϱ (by simp_all)]) (by decide)) (by decide)),Z⟩
     .refine AD (AF (J (AM Z D2 Z Z Z) (J (AQ Z Z Z FJ Z) (J (At Z Z Z) (ch Z Z (C7 82 Z (λx=>?_) (λx=>?_)))))))
      .refine AN Z Z Z Z (AN Z Z Z Z (AN Z Z Z Z ?_));refine J (B8 Z Z Z Z) (AB Z Z (AC (CM Z Z (AD (AF (AB Z Z (AC (A4 ?_))))))));exact ⟨_,[],[],A2 Z,Z,Z,Ae (GD b (c.2 2 (by unfold Jt;rw[ν (by simp_all),ν (by simp_all),ϱ (by simp only[Mx];omega)]) (by decide)) (by decide)),Z⟩
      .refine AT Z Z Z ?_;refine J (AM Z D2 Z Z Z) (AT Z Z Z (J (AQ Z Z Z FJ Z) (AT Z Z Z (J (H4 Z Z Z) (J (Bx Z Z Z Z) (AB Z Z (AC (A5 Z (λy=>?_) (λy=>?_)))))))))
       .refine AD (AF (AB Z Z (AC (A4 ?_))));exact ⟨_,[],[],A2 Z,Z,Z,Ae (GD b (c.2 2 (by unfold Jt;rw[ν (by simp_all),ν (by simp_all),ϱ (by simp only[Mx];omega)]) (by decide)) (by decide)),Z⟩
       .refine AU (AF (ch Z Z (J (Ad Z Z (AJ (k+1) (by omega)) Z) (AB Z Z (AC ?_)))));exact ⟨k+1,⟨by show k+1<=_;omega,c.1 (by unfold Jt;rw[ν (by simp_all),ν (by simp_all),ν (by simp only[Mx];omega)])⟩,by show i.pa.length-(k+1)<i.pa.length-k;omega,AR s [1] Z (Z) ⟨Z,Z,trivial⟩⟩
  .refine Aq (AD (AD ?_));have f:LF i=0:=by rw[j,DX (by have h:=o;omega)]
   refine AF (AB Z Z (AC (AX (BC (α:=Nat) (λk=>⟨121,[(1,(.ptr 1 0 0)),(7,(.d (AE (k:Int))))],[(1,[.blk 93 [.d (AE i.id),.d (AE i.pr),.d (AE i.sq),.d (.sl none (i.po.map Bd)),.d (.sl none (i.pa.map Cy)),.d (.sl none (i.af.map AE))]])]⟩) (λk=>k<=i.af.length/\OA i=BM (((List.range i.af.length).drop k).map (NO i.id i.af))) (λk=>i.af.length-k) (0) (⟨κ _,Z⟩) (AR s [1] Z Z ⟨Z,Z,trivial⟩) ?_))));rintro k ⟨t,j⟩;refine AD ?_;refine AD (AF (ch Z Z (J (AM Z DD Z Z Z) (J (AQ Z Z Z BL Z) (J (BU Z E0 Z) (J (At Z Z Z) (AC (A5 Z (λl=>?_) (λl=>?_)))))))))
   .have a:k<i.af.length:=BF l;refine AU (AD (AX (AD (AD (AF ?_)))));have c:=sK a j;have g:i.af.getD k 0=i.af[k]:=by rw[Ψ,ω a];rfl
    refine J (AM Z DD Z Z Z) (J (AQ Z Z Z BL Z) (ch Z Z (J (Al (k) Z Z (Z) (AP a) E0 Z BK Z) (J (BZ Z Z Ai Z) (J (Aj (Ik i.af[k]) Z Z) (J (Jq Z Z) (AC (A5 Z (λw=>?_) (λw=>?_)))))))))
    .refine AD (AF (AB Z Z (AC (A4 ?_))));exact ⟨_,[],[],A2 Z,Z,Z,Ae (Hj b f (c.2 2 (by unfold NO;rw[g,ϱ (by simp_all)]) (by decide))),Z⟩
    .refine AU (AD (Bq [[],[0],[],[0,1,2],[0,1,2,3],[],[5],rg 7,rg 8,rg 9,rg 10,rg 9,rg 12,rg 9,[0,1,2,3,4,5,6,7,8,13],rg 9,[0,1,2,3,4,5,6,7,8,13,14,15],[0,1,2,3,4,5,6,7,8,13,14,15,16],rg 18,rg 19] mixed Z (B2 (AK [1] Z (AM Z DD Z Z Z) (Ay [101] Z Z (λ_=>Aa (AQ Z Z Z BL Z)) ?_)))));refine A7 7 Z Z (AK [102,103] Z (Al (k) Z Z (Z) (AP a) E0 Z BK Z) (AK [104] Z (BZ Z Z Ai Z) (AK [1] Z (AM Z QP Z Z Z) (Ay [106] Z Z (λ_=>Aa (AQ Z Z Z Ai Z)) (BV 7 Z Z Z (A0 8 Z Z (J (Fa Z Z Z) (AC ⟨Z,?_⟩))))))));refine A0 9 Z Z (ch Z Z (C7 109 Z (λv=>?_) (λv=>?_)))
     .refine AC ⟨Z,?_⟩;refine B2 (A1 [1,109] [] Z Z (λ_=>Bw Z Z Z Z) (A1 [110,109] [] Z Z (λ_=>Bw Z Z Z Z) (A1 [7,109] [] Z Z (λ_=>Bw Z Z Z Z) (A1 [111,112,109] [] Z Z (λ_=>Bw Z Z Z Z) ?_))));refine A1 [1,109] [] Z Z (λ_=>Bw Z Z Z Z) (A1 [114,109] [] Z Z (λ_=>Bw Z Z Z Z) (A1 [7,109] [] Z Z (λ_=>Bw Z Z Z Z) (A1 [115,116,109] [] Z Z (λ_=>Bw Z Z Z Z) (A1 [117,109] [] Z Z (λ_=>Bw Z Z Z Z) (BV 18 Z Z Z (A0 19 Z Z (AN Z Z Z Z (AC ⟨Z,?_⟩))))))));refine A0 20 Z Z (J (B8 Z Z Z Z) (AC ⟨Z,?_⟩));refine Bb (CM Z Z (AD (AF (AB Z Z (AC (A4 ?_))))));exact ⟨_,[],[],A2 Z,Z,Z,Ae (Hj b f (c.2 7 (by unfold NO;rw[g,ν (by simp_all),ϱ (by simp_all)]) (by decide))),Z⟩
     .refine AC ⟨Z,?_⟩;refine B2 (A1 [1,109] [] Z Z (λ_=>BR Z Z Z (AM Z DD Z Z Z)) (Ay [110,109] Z Z (λ_=>BR Z Z Z (AQ Z Z Z BL Z)) (A1 [7,109] [] Z Z (λ_=>BR Z Z Z (FW Z Z)) (A1 [111,112,109] [] Z Z (λ_=>BR Z Z Z (YD (i.af) (k) Z Z Z (Z) (by omega) E0 BK (λ_=>rfl) Z)) (A1 [1,109] [] Z Z (λ_=>BR Z Z Z (AM Z DD Z Z Z)) ?_)))));refine Ay [114,109] Z Z (λ_=>BR Z Z Z (AQ Z Z Z BL Z)) (A1 [7,109] [] Z Z (λ_=>BR Z Z Z (FW Z Z)) (A1 [115,116,109] [] Z Z (λ_=>BR Z Z Z (Al (k) Z Z (Z) (AP a) E0 Z BK Z)) (A1 [117,109] [] Z Z (λ_=>BR Z Z Z (BZ Z Z Ai Z)) (BV 18 Z Z Z (A0 19 Z Z (AT Z Z Z (J (Aj (wd (i.af.take k) i.af[k] (by rw[η];omega)) Z Z) (AC ⟨Z,?_⟩))))))));refine A0 20 Z Z (J (Bx Z Z Z Z) (AC ⟨Z,?_⟩));refine Bb (A5 Z (λu=>?_) (λu=>?_))
      .refine AD (AF (AB Z Z (AC (A4 ?_))));exact ⟨_,[],[],A2 Z,Z,Z,Ae (Hj b f (c.2 7 (by unfold NO;rw[g,ν (by simp_all),ϱ (by simp_all)]) (by decide))),Z⟩
      .refine AU (AF (ch Z Z (J (Ad Z Z (AJ (k+1) (by omega)) Z) (AB Z Z (AC ?_)))));exact ⟨k+1,⟨by show k+1<=_;omega,c.1 (by unfold NO;rw[g,ν (by simp_all),ν (by simp_all)])⟩,by show i.af.length-(k+1)<i.af.length-k;omega,AR s [1] Z (Z) ⟨Z,Z,trivial⟩⟩
   .refine Aq (AD (AF (AB Z Z (AC (A4 ?_)))));exact ⟨_,[],[],A2 Z,Z,Z,Ae (Hj b f (by rw[j,mx (by have h:=l;simp only[kp];omega)];rfl)),Z⟩
theorem vY(c:List (AW×Int))(p:NR):ju (c++NH p)=Cp (Cp (Cp (Cp (ju c) (CU p.f p.t)) (CU p.t p.f)) (DV p.f)) (DV p.t):=by grind[NH,ju]
theorem vX{l:List Fd}(a:k<l.length):ju (EV (l.take (k+1)))=Cp (ju (EV (l.take k))) (HP l[k]):=by rw[SI a,J1]
theorem vW{c:List (AW×Int)}{l:List NR}(a:k<l.length):ju (c++HZ (l.take (k+1)))=Cp (Cp (Cp (Cp (ju (c++HZ (l.take k))) (CU l[k].f l[k].t)) (CU l[k].t l[k].f)) (DV l[k].f)) (DV l[k].t):=by rw[SH a,<-lh,vY]
theorem aD(i:cl)(A:i.po.length<=1000)(z:i.pa.length<=1000):AI prog 102 [.d (Ah i)] (.sl none ((ju (js i)).map Bm)):=by
 refine As func102 Z Z ntmps102 Z Z Z λF r=>(AD (AF ?_));refine V (B7 1 Z Z Z Z Z Z Z) (AB Z Z (AC (AD (AF (AB Z Z (AC (AD (AD ?_))))))));refine JW 3 Z ?_;refine AF (AB Z Z (AC (AX (BC (α:=Nat×List AW) (λq=>⟨60,[(1,(.ptr 1 0 0)),(3,(.d (.sl none (q.2.map Bm)))),(4,(.d (AE (q.1:Int))))],[(1,[.blk 93 [.d (AE i.id),.d (AE i.pr),.d (AE i.sq),.d (.sl none (i.po.map Bd)),.d (.sl none (i.pa.map Cy)),.d (.sl none (i.af.map AE))]])]⟩) (λq=>q.1<=i.po.length/\q.2=ju (EV (i.po.take q.1))) (λq=>i.po.length-q.1) ((0,[])) (⟨κ _,Z⟩) (AR r [1] Z Z ⟨Z,Z,Z,trivial⟩) ?_))));rintro ⟨k,L⟩ ⟨u,o⟩;dsimp only at u o⊢;refine AD ?_;refine AD (AF (ch Z Z (J (AM Z DE Z Z Z) (J (AQ Z Z Z Iq Z) (J (BU Z R5 Z) (J (At Z Z Z) (AC (A5 Z (λb=>?_) (λb=>?_)))))))))
 .have j:k<i.po.length:=BF b;refine AU (AD (AX (AF ?_)));have g:L.length<=1000:=by rw[o];have:=Oh (EV (i.po.take k));simp only[EV,χ,η] at this;simp only[EV];omega
  refine ch Z Z (J (AM Z DE Z Z Z) (J (AQ Z Z Z Iq Z) (ch Z Z (J (Al (k) Z Z (Z) (AP j) R5 Z KF Z) (J (KL Z F7 Z Z Z) (J (CY Z Z aY Z) ?_))))));refine J (Dz Tw ak Z Z Z) (J (Aj (JC L (HP i.po[k]) (by omega)) Z Z) (AB Z Z (AC (AF (ch Z Z (J (Ad Z Z (AJ (k+1) (by omega)) Z) (AB Z Z (AC ?_))))))));exact ⟨(k+1,_),⟨by show k+1<=_;omega,by show _=ju (EV (i.po.take (k+1)));rw[vX j,<-o]⟩,by show i.po.length-(k+1)<i.po.length-k;omega,AR r [1] Z (Z) ⟨Z,Z,Z,trivial⟩⟩
 .refine Aq (AD (AD ?_));have v:L=ju (EV i.po++HZ (i.pa.take 0)):=by rw[o,θ (by have h:=b;omega)];simp[HZ]
  refine AF (AB Z Z (AC (AX (BC (α:=Nat×List AW) (λq=>⟨60,[(1,(.ptr 1 0 0)),(3,(.d (.sl none (q.2.map Bm)))),(5,(.d (AE (q.1:Int))))],[(1,[.blk 93 [.d (AE i.id),.d (AE i.pr),.d (AE i.sq),.d (.sl none (i.po.map Bd)),.d (.sl none (i.pa.map Cy)),.d (.sl none (i.af.map AE))]])]⟩) (λq=>q.1<=i.pa.length/\q.2=ju (EV i.po++HZ (i.pa.take q.1))) (λq=>i.pa.length-q.1) ((0,L)) (⟨κ _,v⟩) (AR r [1] Z Z ⟨Z,Z,Z,trivial⟩) ?_))));rintro ⟨m,N⟩ ⟨s,l⟩;dsimp only at s l⊢;refine AD ?_;refine AD (AF (ch Z Z (J (AM Z Gn Z Z Z) (J (AQ Z Z Z Q5 Z) (J (BU Z an Z) (J (At Z Z Z) (AC (A5 Z (λa=>?_) (λa=>?_)))))))))
  .have c:m<i.pa.length:=BF a;refine AU (AD (AX (AD (AF ?_))));have g:N.length<=5000:=by rw[l];have:=Oh (EV i.po++HZ (i.pa.take m));rw[Δ,JM] at this;simp only[EV,χ,η] at this⊢;omega
   have y:=LY N (CU i.pa[m].f i.pa[m].t);have x:=LY (Cp N (CU i.pa[m].f i.pa[m].t)) (CU i.pa[m].t i.pa[m].f);have w:=LY (Cp (Cp N (CU i.pa[m].f i.pa[m].t)) (CU i.pa[m].t i.pa[m].f)) (DV i.pa[m].f);refine J (AM Z Gn Z Z Z) (J (AQ Z Z Z Q5 Z) (ch Z Z (J (Al (m) Z Z (Z) (AP c) an Z On Z) (J (CY Z Z Ya Z) (V (CP 2 cZ Z Z Z Z) (V (Bi Z Z Z Z Z Z Z On) ?_))))));refine AC (AD (AF (ch Z Z (J (AM Z Ev Z Z Z) (J (AQ Z Z Z CZ Z) (J (AM Z Eu Z Z Z) (J (AQ Z Z Z CZ Z) (J (Dz Tw ak Z Z Z) ?_))))))));refine J (Aj (JC N (CU i.pa[m].f i.pa[m].t) (by omega)) Z Z) (AB Z Z (AC (AD (AF (ch Z Z (J (AM Z Eu Z Z Z) (J (AQ Z Z Z CZ Z) (J (AM Z Ev Z Z Z) ?_))))))));refine J (AQ Z Z Z CZ Z) (J (Dz Tw ak Z Z Z) (J (Aj (JC (Cp N (CU i.pa[m].f i.pa[m].t)) (CU i.pa[m].t i.pa[m].f) (by omega)) Z Z) (AB Z Z (AC (AD (AF (ch Z Z (J (AM Z Ev Z Z Z) ?_))))))));refine J (AQ Z Z Z CZ Z) (J (Dz Tw ak Z Z Z) (J (Aj (JC (Cp (Cp N (CU i.pa[m].f i.pa[m].t)) (CU i.pa[m].t i.pa[m].f)) (DV i.pa[m].f) (by omega)) Z Z) (AB Z Z (AC (AF (ch Z Z (J (AM Z Eu Z Z Z) (J (AQ Z Z Z CZ Z) ?_))))))));refine J (Dz Tw ak Z Z Z) (J (Aj (JC (Cp (Cp (Cp N (CU i.pa[m].f i.pa[m].t)) (CU i.pa[m].t i.pa[m].f)) (DV i.pa[m].f)) (DV i.pa[m].t) (by omega)) Z Z) (AB Z Z (AC (AF (ch Z Z (J (Ad Z Z (AJ (m+1) (by omega)) Z) (AB Z Z (AC ?_))))))));exact ⟨(m+1,_),⟨by show m+1<=_;omega,by show _=ju (EV i.po++HZ (i.pa.take (m+1)));rw[vW c,<-l]⟩,by show i.pa.length-(m+1)<i.pa.length-m;omega,AR r [1] Z (Z) ⟨Z,Z,Z,trivial⟩⟩
  .refine Aq (AD (AF (ch Z Z (AB Z Z (AC (A4 ?_))))));exact ⟨_,[],[],A2 Z,Z,Z,by rw[l,θ (by have h:=a;omega)]<;>rfl,Z⟩
theorem Uj(h:FH i=0):GA i=0/\LF i=0/\OA i=0:=by
 have a:=JE h
 simp_all
theorem Lv(h:¬(0<=i.id/\i.id<=1000000000)\/¬(0<=i.sq/\i.sq<=1000000000)\/¬(0<=i.pr/\i.pr<=2)):Aw i=2:=ϱ h
theorem QF(h:¬(¬(0<=i.id/\i.id<=1000000000)\/¬(0<=i.sq/\i.sq<=1000000000)\/¬(0<=i.pr/\i.pr<=2)))(a:256<i.po.length\/256<i.pa.length\/256<i.af.length):Aw i=8:=by unfold Aw;rw[ν h,ϱ a]
theorem ip{i:cl}(h:¬(¬(0<=i.id/\i.id<=1000000000)\/¬(0<=i.sq/\i.sq<=1000000000)\/¬(0<=i.pr/\i.pr<=2)))(a:¬(256<i.po.length\/256<i.pa.length\/256<i.af.length)):Aw i=if FH i=0 then BM [Lz i,NK i] else FH i:=by grind[Aw,TG,FH,BM]
theorem aF(g:GA i=0)(f:LF i=0)(c:u∈ju (js i)):CD u=0:=by
 obtain ⟨x,a,rfl⟩:=Γ.1 ((Ko _ _).1 c);rcases υ.1 a with a | a
 .obtain ⟨p,b,rfl⟩:=Γ.1 a;have:=Tu.1 g p b
  grind[Im,CD]
 .obtain ⟨p,b,a⟩:=mI.1 a;have:=Tu.1 f p b;unfold Jt at this
  split at this; · cases this
  split at this; · cases this
  grind[NH,CD]
theorem qN{i:cl}(h:∀r∈ju (js i),-Mx<=Ag (js i) r/\Ag (js i) r<=Mx):(0:Int)=NK i:=by grind[iq,ED,Ko]
theorem Np{i:cl}{r:AW}(a:r∈ju (js i))(h:¬(-Mx<=Ag (js i) r/\Ag (js i) r<=Mx)):(12:Int)=NK i:=by
 unfold NK;rw[ϱ];exact ⟨(r,Ag (js i) r),(ED _ _ _).2 ⟨(Ko _ _).1 a,Z⟩,h⟩
theorem jC(a:k<i.po.length)(h:Bv i.po i.po[k].acc.a≠0):(14:Int)=Lz i:=by
 unfold Lz;rw[ϱ ⟨_,ϑ a,h⟩]
theorem qU(h:∀p∈i.po,Bv i.po p.acc.a=0):Lz i=0:=by grind[Lz]
theorem KU(i:cl)(g1:i.po.length<=1000)(g2:i.pa.length<=1000)(g3:i.af.length<=1000):AI prog 50 [.d (Ah i)] (AE (Aw i)):=by
 refine As func50 Z Z ntmps50 Z Z Z λF t=>(AD (AF (V (B7 1 Z Z Z Z Z Z Z) (AB Z Z (AC ?_)))));refine AD (AD (AF (J (AM Z QP Z Z Z) (J (AQ Z Z Z Ai Z) (J (Aj (Ik i.id) Z Z) (J (Jq Z Z) (ch Z Z (C7 14 Z (λU=>?_) (λU=>?_)))))))))
 .refine AN Z Z Z Z (AN Z Z Z Z (AN Z Z Z Z (AN Z Z Z Z ?_)));refine J (B8 Z Z Z Z) (ch Z Z (AN Z Z Z Z (AN Z Z Z Z (AN Z Z Z Z (J (B8 Z Z Z Z) (ch Z Z (AN Z Z Z Z (AN Z Z Z Z ?_))))))));refine AN Z Z Z Z (J (B8 Z Z Z Z) (AC (CM Z Z (AD (AF (AB Z Z (AC (A4 ?_))))))));exact ⟨_,[],[],A2 Z,Z,Z,Ae (Lv (by omega)).symm,Z⟩
 .refine AT Z Z Z (J (AM Z NA Z Z Z) ?_);refine AT Z Z Z (J (AQ Z Z Z Ai Z) (AT Z Z Z (J (Aj (Ik i.sq) Z Z) (AT Z Z Z (J (Jq Z Z) (J (Bx Z Z Z Z) (ch Z Z (C7 20 Z (λS=>?_) (λS=>?_)))))))))
  .refine AN Z Z Z Z (AN Z Z Z Z (AN Z Z Z Z (J (B8 Z Z Z Z) (ch Z Z (AN Z Z Z Z (AN Z Z Z Z ?_))))));refine AN Z Z Z Z (J (B8 Z Z Z Z) (AC (CM Z Z (AD (AF (AB Z Z (AC (A4 ?_))))))));exact ⟨_,[],[],A2 Z,Z,Z,Ae (Lv (by omega)).symm,Z⟩
  .refine AT Z Z Z (J (AM Z Kd Z Z Z) (AT Z Z Z (J (AQ Z Z Z Ai Z) (AT Z Z Z (J (At Z Z Z) (J (Bx Z Z Z Z) (ch Z Z (C7 25 Z (λR=>?_) (λR=>?_)))))))))
   .refine AN Z Z Z Z (AN Z Z Z Z ?_);refine AN Z Z Z Z (J (B8 Z Z Z Z) (AC (CM Z Z (AD (AF (AB Z Z (AC (A4 ?_))))))));exact ⟨_,[],[],A2 Z,Z,Z,Ae (Lv (by omega)).symm,Z⟩
   .refine AT Z Z Z (J (AM Z Kd Z Z Z) (AT Z Z Z (J (AQ Z Z Z Ai Z) (AT Z Z Z (J (H4 Z Z Z) (J (Bx Z Z Z Z) (AC (A5 Z (λQ=>?_) (λQ=>?_)))))))))
    .refine AD (AF (AB Z Z (AC (A4 ?_))));exact ⟨_,[],[],A2 Z,Z,Z,Ae (Lv (by omega)).symm,Z⟩
    .refine AU ?_;refine AD (AD (AF (J (AM Z DE Z Z Z) (J (AQ Z Z Z Iq Z) (J (BU Z R5 Z) (J (H4 Z Z Z) (ch Z Z (C7 34 Z (λP=>?_) (λP=>?_)))))))))
     .refine AN Z Z Z Z (AN Z Z Z Z (AN Z Z Z Z (AN Z Z Z Z (J (B8 Z Z Z Z) (ch Z Z (AN Z Z Z Z (AN Z Z Z Z (AN Z Z Z Z ?_))))))));refine AN Z Z Z Z (J (B8 Z Z Z Z) (AC (CM Z Z (AD (AF (AB Z Z (AC (A4 ?_))))))));exact ⟨_,[],[],A2 Z,Z,Z,Ae (QF (by omega) (by omega)).symm,Z⟩
     .refine AT Z Z Z (J (AM Z Gn Z Z Z) ?_);refine AT Z Z Z (J (AQ Z Z Z Q5 Z) (AT Z Z Z (J (BU Z an Z) (AT Z Z Z (J (H4 Z Z Z) (J (Bx Z Z Z Z) (ch Z Z (C7 40 Z (λO=>?_) (λO=>?_)))))))))
      .refine AN Z Z Z Z (AN Z Z Z Z (AN Z Z Z Z ?_));refine AN Z Z Z Z (J (B8 Z Z Z Z) (AC (CM Z Z (AD (AF (AB Z Z (AC (A4 ?_))))))));exact ⟨_,[],[],A2 Z,Z,Z,Ae (QF (by omega) (by omega)).symm,Z⟩
      .refine AT Z Z Z (J (AM Z DD Z Z Z) ?_);refine AT Z Z Z (J (AQ Z Z Z BL Z) (AT Z Z Z (J (BU Z E0 Z) (AT Z Z Z (J (H4 Z Z Z) (J (Bx Z Z Z Z) (AC (A5 Z (λN=>?_) (λN=>?_)))))))))
       .refine AD (AF (AB Z Z (AC (A4 ?_))));exact ⟨_,[],[],A2 Z,Z,Z,Ae (QF (by omega) (by omega)).symm,Z⟩
       .refine AU (AD (AD ?_));have a:=ip (i:=i) (by omega) (by omega);refine AF (J (Ap Z Z F1 Z Z Z) ?_);refine J (Aj (oY i g1 g2 g3) Z Z) (AB Z Z (AC (AD (AF (ch Z Z (J (DJ Z Z Z) (AC (A5 Z (λz=>?_) (λz=>?_)))))))))
        .refine AD (AF (ch Z Z (AB Z Z (AC (A4 ?_)))));exact ⟨_,[],[],A2 Z,Z,Z,Ae (by rw[a,ν z]),Z⟩
        .refine AU (AD (AD ?_));have W:FH i=0:=by simpa using z
         obtain ⟨C,B,hz3⟩:=Uj W;rw[ϱ W] at a
         have M:mT i:=⟨by omega,by omega,by omega,So C,ew B⟩
         refine AF (AB Z Z (AC (AX (BC (α:=Nat) (λk=>⟨110,[(1,(.ptr 1 0 0)),(4,(.d (AE (k:Int))))],[(1,[.blk 93 [.d (AE i.id),.d (AE i.pr),.d (AE i.sq),.d (.sl none (i.po.map Bd)),.d (.sl none (i.pa.map Cy)),.d (.sl none (i.af.map AE))]])]⟩) (λk=>k<=i.po.length/\∀p∈i.po.take k,Bv i.po p.acc.a=0) (λk=>i.po.length-k) (0) (⟨κ _,by simp⟩) (AR t [1] Z Z ⟨Z,Z,trivial⟩) ?_))));rintro k ⟨hk0,X⟩;refine AD ?_;refine AD (AF (ch Z Z (J (AM Z DE Z Z Z) (J (AQ Z Z Z Iq Z) (J (BU Z R5 Z) (J (At Z Z Z) (AC (A5 Z (λy=>?_) (λy=>?_)))))))))
         .have o:k<i.po.length:=BF y;refine AU (AD (AX (AD (AF ?_))));refine AB Z Z (AC (AD (AD (AF (AB Z Z (AC (AX (BC (α:=Nat×Int) (λq=>⟨110,[(1,(.ptr 1 0 0)),(4,(.d (AE (k:Int)))),(5,(.d (AE q.2))),(6,(.d (AE (q.1:Int))))],[(1,[.blk 93 [.d (AE i.id),.d (AE i.pr),.d (AE i.sq),.d (.sl none (i.po.map Bd)),.d (.sl none (i.pa.map Cy)),.d (.sl none (i.af.map AE))]])]⟩) (λq=>q.1<=i.po.length/\q.2=Bv (i.po.take q.1) i.po[k].acc.a) (λq=>i.po.length-q.1) ((0,0)) (⟨κ _,Z⟩) (AR t [1] Z Z ⟨Z,Z,Z,Z,trivial⟩) ?_))))))));rintro ⟨m,n⟩ ⟨I,E⟩;dsimp only at I E⊢;refine AD ?_;refine AD (AF (ch Z Z (J (AM Z DE Z Z Z) (J (AQ Z Z Z Iq Z) (J (BU Z R5 Z) (J (At Z Z Z) (AC (A5 Z (λx=>?_) (λx=>?_)))))))))
          .have b:m<i.po.length:=BF x;refine AU (AD (AX (AD (Bq [[],[0],[],[0,1,2],[0,1,2,3],rg 5,rg 6,[],[7],[],[7,8,9],[7,8,9,10],[7,8,9,10,11],[7,8,9,10,11,12],rg 14] mixed Z (B2 ?_)))));refine AK [1] Z (AM Z DE Z Z Z) (Ay [65] Z Z (λ_=>Aa (AQ Z Z Z Iq Z)) (A7 6 Z Z (AK [66,67] Z (Al (m) Z Z (Z) (AP b) R5 Z KF Z) (AK [68] Z (KL Z F7 Z Z Z) (AK [69] Z (Gw Z My Z Z Z) (AK [70] Z (BZ Z Z CZ Z) (AK [1] Z (AM Z DE Z Z Z) (Ay [72] Z Z (λ_=>Aa (AQ Z Z Z Iq Z)) ?_))))))));refine A7 4 Z Z (AK [73,74] Z (Al (k) Z Z (Z) (AP o) R5 Z KF Z) (AK [75] Z (KL Z F7 Z Z Z) (AK [76] Z (Gw Z My Z Z Z) (AK [77] Z (BZ Z Z CZ Z) (BV 14 Z Z Z (A0 15 Z Z (J (Km Z Z Z) (AC ⟨Z,?_⟩))))))));refine Bb (A5 Z (λw=>?_) (λw=>?_))
           .refine AF (ch Z Z (J (AM Z DE Z Z Z) (J (AQ Z Z Z Iq Z) (ch Z Z (J (Al (m) Z Z (Z) (AP b) R5 Z KF Z) (J (Gw Z L8 Z Z Z) (J (BZ Z Z FJ Z) ?_)))))));have L:=M.d _ (ϑ b);have K:=JT (i.po.take m) i.po[k].acc.a (S9 M.d);rw[<-E,η] at K;simp only[Mx] at L;refine J (Ad Z Z (Ξ _ (by omega)) Z) (AB Z Z (AC (AF (ch Z Z (J (Ad Z Z (AJ (m+1) (by omega)) Z) (AB Z Z (AC ?_)))))));exact ⟨(m+1,_),⟨by show m+1<=_;omega,by show _=Bv (i.po.take (m+1)) _;rw[ψ b,Gt,<-E,ϱ w]⟩,by show i.po.length-(m+1)<i.po.length-m;omega,AR t [1] Z (Z) ⟨Z,Z,Z,Z,trivial⟩⟩
           .refine AU (AF (ch Z Z (J (Ad Z Z (AJ (m+1) (by omega)) Z) (AB Z Z (AC ?_)))));exact ⟨(m+1,_),⟨by show m+1<=_;omega,by show _=Bv (i.po.take (m+1)) _;rw[ψ b,Gt,<-E,ν w];exact (Int.add_zero _).symm⟩,by show i.po.length-(m+1)<i.po.length-m;omega,AR t [1] Z (Z) ⟨Z,Z,Z,Z,trivial⟩⟩
          .refine Aq (AD ?_);have hS:n=Bv i.po i.po[k].acc.a:=by rw[E,θ (by have h:=x;omega)]
           refine AF (ch Z Z (J (DJ Z Z Z) (AC (A5 Z (λv=>?_) (λv=>?_)))))
           .refine AD (AF (AB Z Z (AC (A4 ?_))));exact ⟨_,[],[],A2 Z,Z,Z,Ae (by have h:=jC o (by rw[<-hS];exact v);rw[a,BM,ν (by rw[<-h];decide),<-h]),Z⟩
           .refine AU (AF (ch Z Z (J (Ad Z Z (AJ (k+1) (by omega)) Z) (AB Z Z (AC ?_)))));exact ⟨k+1,⟨by show k+1<=_;omega,by rw[ψ o];intro p l;rcases υ.1 l with l | l;exact X p l;rw[ξ.1 l];simpa [hS] using v⟩,by show i.po.length-(k+1)<i.po.length-k;omega,AR t [1] Z (Z) ⟨Z,Z,trivial⟩⟩
         .refine Aq (AD ?_);have s:Lz i=0:=qU (λp l=>X p (by rw[θ (by have h:=y;omega)];exact l))
          obtain ⟨T,A⟩:∃T,ju (js i)=T:=⟨_,Z⟩
          have D:=aD i g1 g2;rw[A] at D;have hTl:T.length<=5000:=by rw[<-A];have h1:=Oh (js i);have h2:=IF i;omega
          refine AF (J (Ap Z Z F1 Z Z Z) (J (Aj (D) Z Z) ?_));refine AB Z Z (AC (AD (AD (AF (AB Z Z (AC (AX (BC (α:=Nat) (λj=>⟨110,[(1,(.ptr 1 0 0)),(7,(.d (.sl none (T.map Bm)))),(8,(.d (AE (j:Int))))],[(1,[.blk 93 [.d (AE i.id),.d (AE i.pr),.d (AE i.sq),.d (.sl none (i.po.map Bd)),.d (.sl none (i.pa.map Cy)),.d (.sl none (i.af.map AE))]])]⟩) (λj=>j<=T.length/\∀r∈T.take j,-Mx<=Ag (js i) r/\Ag (js i) r<=Mx) (λj=>T.length-j) (0) (⟨κ _,by simp⟩) (AR t [1] Z Z ⟨Z,Z,Z,trivial⟩) ?_))))))));rintro j ⟨hj0,Y⟩;refine AD (AD (AF (ch Z Z (ch Z Z (J (BU Z Ri Z) (J (At Z Z Z) (AC (A5 Z (λu=>?_) (λu=>?_)))))))))
          .have c:j<T.length:=BF u;refine AU (AD (AX (AD (Bq [[],[],[],[1,2],[1,2,3],rg 5,rg 6] mixed Z (B2 ?_)))));have f:M8 i T[j]=Ag (js i) T[j]:=RX (aF C B (by rw[A];exact ϑ c));refine Ay [1] Z Z (λ_=>Aa (Ap Z Z F1 Z Z Z)) (A7 7 Z Z (A7 8 Z Z (AK [99,100] Z (Al (j) Z Z (Z) (AP c) Ri Z Kq Z) (AK [101] Z (CY Z Z Cf Z) (BV 5 Z Z Z (A0 6 Z Z (J (Aj (U8 i T[j] M) Z Z) (AC ⟨Z,?_⟩))))))));refine A0 7 Z Z (AB Z Z (AC ⟨Z,?_⟩));refine Bb (AD (AF (ch Z Z (J (At Z Z Z) (ch Z Z (C7 106 Z (λH=>?_) (λH=>?_)))))))
           .refine AN Z Z Z Z ?_;refine AN Z Z Z Z (J (B8 Z Z Z Z) (AC (CM Z Z (AD (AF (AB Z Z (AC (A4 ?_))))))));exact ⟨_,[],[],A2 Z,Z,Z,Ae (by have h:=Np (i:=i) (r:=T[j]) (by rw[A];exact ϑ c) (by rw[<-f];simp only[Mx];omega);rw[a,BM,ϱ s,BM,ν (by rw[<-h];decide),<-h]),Z⟩
           .refine AT Z Z Z (ch Z Z (AT Z Z Z (J (H4 Z Z Z) (J (Bx Z Z Z Z) (AC (A5 Z (λG=>?_) (λG=>?_)))))))
            .refine AD (AF (AB Z Z (AC (A4 ?_))));exact ⟨_,[],[],A2 Z,Z,Z,Ae (by have h:=Np (i:=i) (r:=T[j]) (by rw[A];exact ϑ c) (by rw[<-f];simp only[Mx];omega);rw[a,BM,ϱ s,BM,ν (by rw[<-h];decide),<-h]),Z⟩
            .refine AU (AF (ch Z Z (J (Ad Z Z (AJ (j+1) (by omega)) Z) (AB Z Z (AC ?_)))));exact ⟨j+1,⟨by show j+1<=_;omega,by rw[ψ c];intro r g;rcases υ.1 g with g | g;exact Y r g;rw[ξ.1 g,<-f];simp only[Mx];omega⟩,by show T.length-(j+1)<T.length-j;omega,AR t [1] Z (Z) ⟨Z,Z,Z,trivial⟩⟩
          .refine Aq (AD (AF (AB Z Z (AC (A4 ?_)))));exact ⟨_,[],[],A2 Z,Z,Z,Ae (by have h:=qN (i:=i) (λr g=>Y r (by rw[θ (by have h:=u;omega),<-A];exact g));rw[a,BM,ϱ s,BM,ϱ h.symm];rfl),Z⟩
deriving instance DecidableEq for Fd
deriving instance DecidableEq for NR
deriving instance DecidableEq for cl
deriving instance DecidableEq for ey
theorem Fd.eq_iff{x y:Fd}:x=y↔x.acc=y.acc/\x.d=y.d:=by cases x;cases y;simp
theorem NR.eq_iff{x y:NR}:x=y↔x.f=y.f/\x.t=y.t/\x.n=y.n:=by cases x;cases y;simp
theorem ey.eq_iff{x y:ey}:x=y↔x.r=y.r/\x.n=y.n:=by cases x;cases y;simp
theorem cl.eq_iff{x y:cl}:x=y↔x.id=y.id/\x.pr=y.pr/\x.sq=y.sq/\x.po=y.po/\x.pa=y.pa/\x.af=y.af:=by cases x;cases y;simp
theorem y4{p:Prop}[Decidable p](h:z=decide p):(!z)=decide (¬p):=by rw[h];simp
abbrev oz(T:TypeId)(i:cl):AL:= .blk T [.d (AE i.id),.d (AE i.pr),.d (AE i.sq),.d (.sl none (i.po.map Bd)),.d (.sl none (i.pa.map Cy)),.d (.sl none (i.af.map AE))]
theorem PE(r:AW):AI prog 49 [.d (Bm r)] (AE (CD r)):=by
 refine As func49 Z Z ntmps49 Z Z Z λF x=>(AD (AF (V (B7 1 Z Z Z Z Z Z Z) (AB Z Z (AC (AD (AF (J (AM Z Eg Z Z Z) ?_))))))));refine J (Ap Z Z aY Z Z Z) (J (Dz xO xi Z Z Z) (J (Fv (la:=OB r.acc) (lb:=OB Tn) (ds:=jM) (by kernel_rfl) (by kernel_rfl) (by kernel_rfl) Z Z Z Z (Dt _) (Dt _) (O7 _ _) Z) (AB Z Z (AC (AD (AD (AF (J (AM Z Gm Z Z Z) ?_))))))));refine J (AQ Z Z Z Ai Z) (AC (AX (AD (AF (J (Fa Z Z Z) (AB Z Z (AC (A5 Z (λw=>?_) (λw=>?_)))))))));refine AD (AF (J (AM Z Eg Z Z Z) (J (AM Z TM Z Z Z) (J (AQ Z Z Z CZ Z) (J (Km Z Z Z) (ch Z Z (C7 16 Z (λv=>?_) (λv=>?_))))))));refine AN Z Z Z Z (AN Z Z Z Z ?_);refine AN Z Z Z Z (AN Z Z Z Z (J (B8 Z Z Z Z) (ch Z Z (AN Z Z Z Z (AN Z Z Z Z (AN Z Z Z Z (AN Z Z Z Z (J (B8 Z Z Z Z) ?_))))))));refine ch Z Z (AN Z Z Z Z (AN Z Z Z Z (AN Z Z Z Z (AN Z Z Z Z (J (B8 Z Z Z Z) (ch Z Z (AN Z Z Z Z (AN Z Z Z Z ?_))))))));refine AN Z Z Z Z (J (B8 Z Z Z Z) (ch Z Z (AN Z Z Z Z (AN Z Z Z Z (AN Z Z Z Z (J (B8 Z Z Z Z) (AC (CM Z Z ?_))))))))
 rotate_left
 refine AT Z Z Z (J (AM Z Eg Z Z Z) ?_);refine AT Z Z Z (J (AM Z My Z Z Z) (AT Z Z Z (J (AQ Z Z Z CZ Z) (AT Z Z Z (J (Km Z Z Z) (J (Bx Z Z Z Z) (ch Z Z (C7 22 Z (λu=>?_) (λu=>?_)))))))));refine AN Z Z Z Z (AN Z Z Z Z (AN Z Z Z Z (AN Z Z Z Z (J (B8 Z Z Z Z) ?_))));refine ch Z Z (AN Z Z Z Z (AN Z Z Z Z (AN Z Z Z Z (AN Z Z Z Z (J (B8 Z Z Z Z) (ch Z Z (AN Z Z Z Z (AN Z Z Z Z ?_))))))));refine AN Z Z Z Z (J (B8 Z Z Z Z) (ch Z Z (AN Z Z Z Z (AN Z Z Z Z (AN Z Z Z Z (J (B8 Z Z Z Z) (AC (CM Z Z ?_))))))))
 rotate_left
 refine AT Z Z Z (J (AM Z Eg Z Z Z) ?_);refine AT Z Z Z (J (AM Z Mz Z Z Z) (AT Z Z Z (J (AQ Z Z Z Ai Z) (AT Z Z Z (J (At Z Z Z) (J (Bx Z Z Z Z) (ch Z Z (C7 28 Z (λt=>?_) (λt=>?_)))))))));refine AN Z Z Z Z (AN Z Z Z Z (AN Z Z Z Z (AN Z Z Z Z (J (B8 Z Z Z Z) (ch Z Z (AN Z Z Z Z (AN Z Z Z Z ?_)))))));refine AN Z Z Z Z (J (B8 Z Z Z Z) (ch Z Z (AN Z Z Z Z (AN Z Z Z Z (AN Z Z Z Z (J (B8 Z Z Z Z) (AC (CM Z Z ?_))))))))
 rotate_left
 refine AT Z Z Z (J (AM Z Eg Z Z Z) ?_);refine AT Z Z Z (J (AM Z Mz Z Z Z) (AT Z Z Z (J (AQ Z Z Z Ai Z) (AT Z Z Z (J (H4 Z Z Z) (J (Bx Z Z Z Z) (ch Z Z (C7 34 Z (λs=>?_) (λs=>?_)))))))));refine AN Z Z Z Z (AN Z Z Z Z ?_);refine AN Z Z Z Z (J (B8 Z Z Z Z) (ch Z Z (AN Z Z Z Z (AN Z Z Z Z (AN Z Z Z Z (J (B8 Z Z Z Z) (AC (CM Z Z ?_))))))))
 rotate_left
 refine AT Z Z Z (J (AM Z FM Z Z Z) (AT Z Z Z (J (AQ Z Z Z CZ Z) (AT Z Z Z (J (DR Z Z Z) (J (Bx Z Z Z Z) (ch Z Z (C7 39 Z (λo=>?_) (λo=>?_)))))))));refine AN Z Z Z Z (AN Z Z Z Z (AN Z Z Z Z (J (B8 Z Z Z Z) (AC (CM Z Z ?_)))))
 rotate_left
 refine AT Z Z Z (J (AM Z FL Z Z Z) (AT Z Z Z (J (AQ Z Z Z CZ Z) (AT Z Z Z (J (DR Z Z Z) (J (Bx Z Z Z Z) (AC (A5 Z (λl=>?_) (λl=>?_)))))))))
 rotate_left
 refine AU ?_
 rotate_left
 refine AD (AF (J (Fa Z Z Z) (AB Z Z (AC (A5 Z (λk=>?_) (λk=>?_))))));refine AD (AF (ch Z Z (J (Jq Z Z) (ch Z Z (C7 48 Z (λj=>?_) (λj=>?_))))));refine AN Z Z Z Z (AN Z Z Z Z (AN Z Z Z Z (J (B8 Z Z Z Z) (ch Z Z (AN Z Z Z Z (AN Z Z Z Z (AN Z Z Z Z (J (B8 Z Z Z Z) ?_))))))));refine ch Z Z (AN Z Z Z Z (AN Z Z Z Z (AN Z Z Z Z (AN Z Z Z Z (AN Z Z Z Z (J (B8 Z Z Z Z) (AC (CM Z Z ?_))))))))
 rotate_left
 refine AT Z Z Z (J (AM Z FM Z Z Z) (AT Z Z Z (J (AQ Z Z Z CZ Z) (AT Z Z Z (J (Km Z Z Z) (J (Bx Z Z Z Z) (ch Z Z (C7 53 Z (λi=>?_) (λi=>?_)))))))));refine AN Z Z Z Z (AN Z Z Z Z (AN Z Z Z Z (J (B8 Z Z Z Z) ?_)));refine ch Z Z (AN Z Z Z Z (AN Z Z Z Z (AN Z Z Z Z (AN Z Z Z Z (AN Z Z Z Z (J (B8 Z Z Z Z) (AC (CM Z Z ?_))))))))
 rotate_left
 refine AT Z Z Z (J (AM Z FL Z Z Z) (AT Z Z Z (J (AQ Z Z Z CZ Z) (AT Z Z Z (J (Km Z Z Z) (J (Bx Z Z Z Z) (ch Z Z (C7 58 Z (λh=>?_) (λh=>?_)))))))));refine AN Z Z Z Z (AN Z Z Z Z (AN Z Z Z Z (AN Z Z Z Z (AN Z Z Z Z (J (B8 Z Z Z Z) (AC (CM Z Z ?_)))))))
 rotate_left
 refine AT Z Z Z (J (AM Z FM Z Z Z) (AT Z Z Z (J (AQ Z Z Z CZ Z) ?_)));refine AT Z Z Z (J (AM Z FL Z Z Z) (AT Z Z Z (J (AQ Z Z Z CZ Z) (AT Z Z Z (J (Km Z Z Z) (J (Bx Z Z Z Z) (AC (A5 Z (λg=>?_) (λg=>?_)))))))))
 rotate_left
 refine AU ?_
 rotate_left
 refine AD (AF (J (Fa Z Z Z) (AB Z Z (AC (A5 Z (λf=>?_) (λf=>?_))))));refine AD (AF (ch Z Z (J (Jq Z Z) (ch Z Z (C7 69 Z (λc=>?_) (λc=>?_))))));refine AN Z Z Z Z (AN Z Z Z Z ?_);refine AN Z Z Z Z (J (B8 Z Z Z Z) (ch Z Z (AN Z Z Z Z (AN Z Z Z Z (AN Z Z Z Z (J (B8 Z Z Z Z) (AC (CM Z Z ?_))))))))
 rotate_left
 refine AT Z Z Z (J (AM Z FM Z Z Z) (AT Z Z Z (J (AQ Z Z Z CZ Z) (AT Z Z Z (J (Km Z Z Z) (J (Bx Z Z Z Z) (ch Z Z (C7 74 Z (λb=>?_) (λb=>?_)))))))));refine AN Z Z Z Z (AN Z Z Z Z (AN Z Z Z Z (J (B8 Z Z Z Z) (AC (CM Z Z ?_)))))
 rotate_left
 refine AT Z Z Z (J (AM Z FL Z Z Z) (AT Z Z Z (J (AQ Z Z Z CZ Z) (AT Z Z Z (J (DR Z Z Z) (J (Bx Z Z Z Z) (AC (A5 Z (λa=>?_) (λa=>?_)))))))))
 rotate_left
 refine AU ?_
 rotate_left
 all_goals
  refine AD (AF (AB Z Z (AC (A4 ?_))));exact ⟨_,[],[],A2 Z,Z,Z,Ae (by unfold CD;simp_all<;>(intros;omega)),Z⟩
theorem E9(i:cl)(r:AW)(j:i.po.length<=1000)(g:i.pa.length<=1000)(f:i.af.length<=1000):AI prog 94 [.d (Ah i),.d (Bm r)] (AE (BO i r)):=by
 by_cases c:Aw i=0
 .have k:=(EY c).1;have a:=KU i j g f;rw[c] at a;refine As func94 Z Z ntmps94 Z Z Z λF o=>(AD (AF (V (B7 1 Z Z Z Z Z Z Z) (V (B7 2 Z Z Z Z Z Z Z) (AB Z Z ?_)))));refine AC (AD (AD (AF (J (Ap Z Z F1 Z Z Z) (J (Aj (a) Z Z) (J (DJ Z Z Z) (ch Z Z (Ir 8 Z (by decide) ?_))))))));refine AT Z Z Z (J (Ap Z Z Cf Z Z Z) (AT Z Z Z (J (Aj (PE r) Z Z) (AT Z Z Z (J (DJ Z Z Z) (J (Bx Z Z Z Z) (AC (A5 Z (λb=>?_) (λb=>?_)))))))))
  .refine AD (AF (AB Z Z (AC (A4 ?_))));exact ⟨_,[],[],A2 Z,Z,Z,Ae (by rw[BO,ν];simp_all),Z⟩
  .refine AU (AD (AF (J (Ap Z Z F1 Z Z Z) (J (Ap Z Z Cf Z Z Z) (J (Aj (U8 i r k) Z Z) (AB Z Z (AC (A4 ?_))))))));exact ⟨_,[],[],A2 Z,Z,Z,Ae (by rw[BO,ϱ ⟨c,by simpa using b⟩,RX (by simpa using b)]),Z⟩
 .have a:=KU i j g f;have l:BO i r=0:=ν λh=>c h.1;rw[l];refine As func94 Z Z ntmps94 Z Z Z λF o=>(AD (AF (V (B7 1 Z Z Z Z Z Z Z) (V (B7 2 Z Z Z Z Z Z Z) (AB Z Z (AC (AD ?_)))))));refine AD (AF (J (Ap Z Z F1 Z Z Z) (J (Aj (a) Z Z) (J (DJ Z Z Z) (ch Z Z (Co 8 Z ((by simpa using c)) (AN Z Z Z Z (AN Z Z Z Z ?_))))))));refine AN Z Z Z Z (J (B8 Z Z Z Z) (AC (CM Z Z (AD (AF (AB Z Z (AC (A4 ?_))))))));exact ⟨_,[],[],A2 Z,Z,Z,Z,Z⟩
theorem cO(b:k<c.length):(c.take (k+1)).filter f=(c.take k).filter f++(if f c[k] then [c[k]] else []):=by
 rw[ψ b,lv]
 grind
abbrev Am(b:Bool):D:= .raw (.bool b)
def Av{α:Type}(l:List α):List (α×Bool):=l.map λa=>(a,true)
theorem Zl[DecidableEq a](l:List a)(c:a):Af (Av l) c false=decide (c∈l):=by
 induction l with
 | nil=>rfl
 | cons b l f=>
  grind[Av,Af]
theorem jT[DecidableEq a]{f:a}(h:f∉c):B1 (Av c) f true=Av (c++ [f]):=by
 induction c with
 | nil=>rfl
 | cons b c g=>
  grind[Av,B1]
def IY:ey:=⟨⟨0,Tn,[],[]⟩,0⟩
def Il(l:List ey)(k:Nat):Int:=if CD (l.getD k IY).r≠0 then CD (l.getD k IY).r else if ¬(-4*Mx<=(l.getD k IY).n/\(l.getD k IY).n<=4*Mx) then 12 else if (l.getD k IY).r∈(l.take k).map ey.r then 7 else 0
def D7(l:List ey):Int:=BM ((List.range l.length).map (Il l))
theorem Dy(d:a)(h:k<c.length):c.getD k d=c[k]:=by rw[Ψ,ω h];rfl
theorem EB(b:k<c.length):(c.take (k+1)).map s=(c.take k).map s++ [s c[k]]:=by rw[ψ b,jy];rfl
theorem oF(p:hU)(u:p.ro.length<=100000):AI prog 129 [.d (BG p)] (AE (D7 p.ro)):=by
 refine As func129 Z Z ntmps129 Z Z Z λF s=>(AD (AF ?_));refine V (B7 1 Z Z Z Z Z Z Z) (AB Z Z (AC (AD (AF (V (S2 2 Z Z Z Z) (AB Z Z (AC (AD ?_))))))));refine AD (AF (J (AM Z Gp Z Z Z) (J (AQ Z Z Z Uo Z) (J (BU Z b0 Z) (ch Z Z (AC (AX (BC (α:=Nat) (λk=>⟨35,[(3,(.map 2 0)),(9,(.d (.sl none (p.ro.map BY)))),(10,(.d (AE (p.ro.length:Int)))),(11,(.d (AE (k:Int))))],[(2,[B5 Bm Am (Av ((p.ro.take k).map ey.r))])]⟩) (λk=>k<=p.ro.length/\D7 p.ro=BM (((List.range p.ro.length).drop k).map (Il p.ro))) (λk=>p.ro.length-k) (0) (⟨κ _,Z⟩) (AR s [2] Z Z ⟨Z,Z,Z,Z,trivial⟩) ?_))))))));rintro k ⟨t,o⟩;refine AD (AF (J (At Z Z Z) (AC (AD (A5 Z (λi=>?_) (λi=>?_))))))
 .have b:k<p.ro.length:=BF i;refine AU (AD (AX (AD (AF ?_))));have j:=sK b o;have c:=Dy IY b;refine J (Al (k) Z Z (Z) (AP b) b0 Z Q0 Z) ?_;refine J (CY Z Z dj Z) (V (CP 3 Tx Z Z Z Z) (V (Bi Z Z Z Z Z Z Z Q0) (AC (AD (AD (AF (J (AM Z GM Z Z Z) (J (Ap Z Z Cw Z Z Z) ?_))))))));refine J (Aj (YL p.ro[k].r) Z Z) (AB Z Z (AC (AD (AF (ch Z Z (J (DJ Z Z Z) (AC (A5 Z (λa=>?_) (λa=>?_)))))))))
  .refine AD (AF (ch Z Z (AB Z Z (AC (A4 ?_)))));exact ⟨_,[],[],A2 Z,Z,Z,Ae (j.2 _ (by unfold Il;rw[c,ϱ a]) a),Z⟩
  .refine AU (AD (AX ?_));refine AD (AF (J (AM Z TN Z Z Z) (J (AQ Z Z Z FJ Z) (J (Aj (H7 _ _ _) Z Z) (J (Jq Z Z) (AB Z Z (AC (A5 Z (λl=>?_) (λl=>?_)))))))))
   .refine AD (AF (AB Z Z (AC (A4 ?_))));exact ⟨_,[],[],A2 Z,Z,Z,Ae (j.2 12 (by unfold Il;rw[c,ν a,ϱ (by simp only[Mx];omega)]) (by decide)),Z⟩
   .refine AD (AF (ch Z Z (J (AM Z GM Z Z Z) (J (Ap Z Z Cw Z Z Z) (J (I8 (Av ((p.ro.take k).map ey.r)) (p.ro[k].r) (false) _ Z Z Z ZD Ck W8 Z Z) ?_)))));rw[Zl];refine AB Z Z (AC (A5 Z (λg=>?_) (λg=>?_)))
    .refine AD (AF (AB Z Z (AC (A4 ?_))));exact ⟨_,[],[],A2 Z,Z,Z,Ae (j.2 7 (by unfold Il;rw[c,ν a,ν (by simp only[Mx];omega),ϱ g]) (by decide)),Z⟩
    .have f:p.ro[k].r∉(p.ro.take k).map ey.r:=g;refine AU (AF ?_);refine ch Z Z (J (AM Z GM Z Z Z) (J (Ap Z Z Cw Z Z Z) (V (Wf (Av ((p.ro.take k).map ey.r)) (p.ro[k].r) (true) Z Z Z ZD Ck Z Z) (AC (AF (J (Ad Z Z (AJ (k+1) (by omega)) Z) (ch Z Z (AC ?_))))))));exact ⟨k+1,⟨by show k+1<=_;omega,j.1 (by unfold Il;rw[c,ν a,ν (by simp only[Mx];omega),ν f])⟩,by show p.ro.length-(k+1)<p.ro.length-k;omega,AR s [2] Z (by rw[EB b,<-jT f];rfl) ⟨Z,Z,Z,Z,trivial⟩⟩
 .refine Aq (AD (AF (AB Z Z (AC (A4 ?_)))));exact ⟨_,[],[],A2 Z,Z,Z,Ae (by rw[o,mx (by have h:=i;simp only[kp];omega)];rfl),Z⟩
theorem RO{a:Bool}(h:a=z):AV.d (.raw (.bool a))= .d (.raw (.bool z)):=by rw[h]
theorem IB{b:Type}{p:b->Bool}:∀{l:List b} {k:Nat} (c:k<l.length),(∀x∈l.take k,p x=false)->p l[k]=true->l.findIdx? p=some k
 | a::l,0,_,_,h=>by simp at h;simp[List.findIdx?_cons,h]
 | a::l,k+1,c,f,h=>by
  have i:p a=false:=f a (by simp);have:=IB (l:=l) (k:=k) (by simpa using c) (λx g=>f x (by simp[g])) (by simpa using h)
  simp[List.findIdx?_cons,i,this]
theorem Jk(h:∀x∈c,f x=false):c.findIdx? f=none:=by
 rw[List.findIdx?_eq_none_iff];exact h
def w8(p:Int->Bool)(l:List Int):Int:=match l.findIdx? p with
 | some k=>k
 | none=> -1
theorem tp{p:Int->Bool}:0<=w8 p g↔g.any p=true:=by grind[w8]
abbrev HM(S:List Int):Hp:=[(910,[.blk 137 [.map 911 0]]),(911,[B5 AE Am (Av S)])]
def Is(S:List Int)(x:Int):Bool:=!decide (x∈S)
theorem u5(S:List Int)(x:Int):AO prog 131 [.d (AE x),.ptr 910 0 0] (HM S) λr a=>r= .d (Am (Is S x))/\a=HM S:=by
 refine As func131 Z Z ntmps131 Z Z Z λF b=>?_;refine AD (AF (AB Z Z (AC (AD (AF (J (AQ Z Z Z Uq Z) (ch Z Z (J (I8 (Av S) (x) (false) _ Z Z Z FU I6 W8 Z Z) ?_))))))));rw[Zl];refine J (Jq Z Z) (AB Z Z (AC (A4 ?_)));exact ⟨_,[910,911],_,A2 Z,Z,Z,by first | exact RO (by unfold Is;simp) | rfl,rfl⟩
theorem gY(S l:List Int)(s:l.length<=100000000):AO prog 138 [.d (.sl none (l.map AE)),.fn 131 [.ptr 910 0 0]] (HM S) λr o=>r= .d (AE (w8 (Is S) l))/\o=HM S:=by
 refine As func138 Z Z ntmps138 Z Z Z λF i=>(AD (AF (AB Z Z (AC ?_))));refine AD (AD (AF (ch Z Z (J (BU Z E0 Z) (ch Z Z (AC (AX (BC (α:=Nat) (λk=>⟨19,[(0,.d (.sl none (l.map AE))),(1,.fn 131 [.ptr 910 0 0]),(7,(.d (AE (l.length:Int)))),(8,(.d (AE (k:Int))))],HM S⟩) (λk=>k<=l.length/\∀x∈l.take k,Is S x=false) (λk=>l.length-k) (0) (⟨κ _,by simp⟩) (AR i [910,911] Z Z ⟨Z,Z,Z,Z,trivial⟩) ?_))))))));rintro k ⟨j,f⟩;refine AD (AF (J (At Z Z Z) (AC (AD (A5 Z (λg=>?_) (λg=>?_))))))
 .have b:k<l.length:=BF g;refine AU (AD (AX (AD (AF (ch Z Z (AB Z Z (AC (AD ?_))))))));refine AF (ch Z Z (ch Z Z (ch Z Z (J (Al (k) Z Z (Z) (AP b) E0 Z BK Z) (J (BZ Z Z Ai Z) (V (cM (u5 S l[k]) Z [910,911] ⟨Z,Z,trivial⟩ Z Z Z Z Z Z Z Z Z) (AC (KB Z (λc=>?_) (λc=>?_)))))))))
  .refine AD (AF (ch Z Z (AB Z Z (AC (A4 ?_)))));exact ⟨_,[910,911],_,A2 Z,Z,Z,Ae (by unfold w8;rw[IB b f (by simpa using c)]),Z⟩
  .refine AU (AF (J (Ad Z Z (AJ (k+1) (by omega)) Z) (ch Z Z (AC ?_))));exact ⟨k+1,⟨by show k+1<=_;omega,by rw[ψ b];intro x a;rcases υ.1 a with a | a;exact f x a;rw[ξ.1 a];simpa using c⟩,by show l.length-(k+1)<l.length-k;omega,AR i [910,911] Z (Z) ⟨Z,Z,Z,Z,trivial⟩⟩
 .refine Aq (AD (AF (AB Z Z (AC (A4 ?_)))));exact ⟨_,[910,911],_,A2 Z,Z,Z,Ae (by unfold w8;rw[Jk (λx a=>f x (by rw[θ (by have h:=g;omega)];exact a))]),Z⟩
theorem WA(S l:List Int)(a:l.length<=100000000):AO prog 130 [.d (.sl none (l.map AE)),.fn 131 [.ptr 910 0 0]] (HM S) λr b=>r= .d (Am (l.any (Is S)))/\b=HM S:=by
 refine As func130 Z Z ntmps130 Z Z Z λF c=>(AD (AF (AB Z Z (AC ?_))));refine AD (AF (ch Z Z (ch Z Z (V (FX (gY S l a) Z [910,911] ⟨Z,Z,trivial⟩ Z Z Z Z Z Z Z Z Z) (J (EE Z Z Z) (AB Z Z (AC (A4 ?_))))))));exact ⟨_,[910,911],_,A2 Z,Z,Z,RO (by rw[nG,l6];exact tp),Z⟩
def ek:cl:=⟨0,0,0,[],[],[]⟩
def K8(l:List cl)(k:Nat):Int:=if Aw (l.getD k ek)≠0 then Aw (l.getD k ek) else if (l.getD k ek).id∈(l.take k).map cl.id\/(l.getD k ek).sq∈(l.take k).map cl.sq then 7 else 0
def FK(l:List cl):Int:=BM ((List.range l.length).map (K8 l))
def Qd(S:List Int)(i:cl):Int:=if i.af.any (Is S)=true then 9 else 0
def QN(l:List cl):Int:=BM (l.map (Qd (l.map cl.id)))
def Ac(p:hU):Int:=if 4096<p.it.length\/16384<p.ro.length then 8 else BM [D7 p.ro,FK p.it,QN p.it]
theorem PJ(h:¬(4096<t.it.length\/16384<t.ro.length))(a:D7 t.ro≠0):D7 t.ro=Ac t:=by grind[Ac,BM]
theorem Mb(a:¬(4096<t.it.length\/16384<t.ro.length))(f:D7 t.ro=0)(c:h=FK t.it)(b:h≠0):h=Ac t:=by grind[Ac,BM]
theorem Sm(a:¬(4096<t.it.length\/16384<t.ro.length))(f:D7 t.ro=0)(c:FK t.it=0)(b:h=QN t.it):h=Ac t:=by grind[Ac,BM]
def Ek(p:hU):Prop:=p.ro.length<=100000/\p.it.length<=100000/\∀i∈p.it,i.po.length<=100000/\i.pa.length<=100000/\i.af.length<=100000
theorem EL(p:hU)(G:Ek p):AI prog 75 [.d (BG p)] (AE (Ac p)):=by
 obtain ⟨H,I,E⟩:=G;refine As func75 Z Z ntmps75 Z Z Z λF v=>(AD (AF (V (B7 1 Z Z Z Z Z Z Z) (AB Z Z (AC ?_)))));refine AD (AD (AF (J (AM Z FN Z Z Z) (J (AQ Z Z Z Mf Z) (J (BU Z Qs Z) (J (H4 Z Z Z) (ch Z Z (C7 15 Z (λB=>?_) (λB=>?_)))))))))
 .refine AN Z Z Z Z (AN Z Z Z Z (AN Z Z Z Z ?_));refine AN Z Z Z Z (J (B8 Z Z Z Z) (AC (CM Z Z (AD (AF (AB Z Z (AC (A4 ?_))))))));exact ⟨_,[],[],A2 Z,Z,Z,Ae (by unfold Ac;rw[ϱ (by omega)]),Z⟩
 .refine AT Z Z Z (J (AM Z Gp Z Z Z) ?_);refine AT Z Z Z (J (AQ Z Z Z Uo Z) (AT Z Z Z (J (BU Z b0 Z) (AT Z Z Z (J (H4 Z Z Z) (J (Bx Z Z Z Z) (AC (A5 Z (λA=>?_) (λA=>?_)))))))))
  .refine AD (AF (AB Z Z (AC (A4 ?_))));exact ⟨_,[],[],A2 Z,Z,Z,Ae (by unfold Ac;rw[ϱ (by omega)]),Z⟩
  .refine AU (AD (AD ?_));have c:¬(4096<p.it.length\/16384<p.ro.length):=by omega
   refine AF (J (Ap Z Z Bp Z Z Z) ?_);refine J (Aj (oF p H) Z Z) (AB Z Z (AC (AD (AF (ch Z Z (J (DJ Z Z Z) (AC (A5 Z (λs=>?_) (λs=>?_)))))))))
   .refine AD (AF (ch Z Z (AB Z Z (AC (A4 ?_)))));exact ⟨_,[],[],A2 Z,Z,Z,Ae (PJ c s),Z⟩
   .refine AU (AD ?_);have f:D7 p.ro=0:=by simpa using s
    refine AF (V (S2 2 Z Z Z Z) (V (S2 3 Z Z Z Z) (V (CP 4 rF Z Z Z Z) (V (Bi Z Z Z Z Z Z Z rN) (AB Z Z (AC (AD ?_)))))));refine AD (AF (J (AM Z FN Z Z Z) (J (AQ Z Z Z Mf Z) (J (BU Z Qs Z) (ch Z Z (AC (AX (BC (α:=Nat) (λk=>⟨69,[(1,(.ptr 1 0 0)),(4,(.ptr 4 0 0)),(5,(.map 3 0)),(29,(.d (.sl none (p.it.map Ah)))),(30,(.d (AE (p.it.length:Int)))),(31,(.d (AE (k:Int))))],[(1,[.blk 39 [.d (.sl none (p.ro.map BY)),.d (.sl none (p.it.map Ah))]]),(4,[.blk 137 [.map 2 0]]),(2,[B5 AE Am (Av ((p.it.take k).map cl.id))]),(3,[B5 AE Am (Av ((p.it.take k).map cl.sq))])]⟩) (λk=>k<=p.it.length/\FK p.it=BM (((List.range p.it.length).drop k).map (K8 p.it))) (λk=>p.it.length-k) (0) (⟨κ _,Z⟩) (AR v [1,4,2,3] Z Z ⟨Z,Z,Z,Z,Z,Z,trivial⟩) ?_))))))));rintro k ⟨w,t⟩;refine AD (AF (J (At Z Z Z) (AC (AD (A5 Z (λi=>?_) (λi=>?_))))))
    .have a:k<p.it.length:=BF i;refine AU (AD (AX (AD (AF ?_))));have l:=sK a t;have g:=Dy ek a;have x:=E _ (ϑ a);refine J (Al (k) Z Z (Z) (AP a) Qs Z DP Z) (J (CY Z Z Cb Z) (V (CP 5 Fm Z Z Z Z) (V (Bi Z Z Z Z Z Z Z DP) (AC (AD (AD (AF (J (Ap Z Z Cb Z Z Z) ?_))))))));refine J (Aj (Lu p.it[k] (by omega) (by omega) (by omega)) Z Z) (AB Z Z (AC (AD (AF (ch Z Z (J (DJ Z Z Z) (AC (A5 Z (λb=>?_) (λb=>?_)))))))))
     .refine AD (AF (ch Z Z (AB Z Z (AC (A4 ?_)))));exact ⟨_,[],[],A2 Z,Z,Z,Ae (Mb c f (l.2 _ (by unfold K8;rw[g,ϱ b]) b) b),Z⟩
     .refine AU (AD (AD (AF (J (AQ Z Z Z Uq Z) (J (AM Z QW Z Z Z) (J (AQ Z Z Z Ai Z) (J (I8 (Av ((p.it.take k).map cl.id)) (p.it[k].id) (false) _ Z Z Z FU I6 W8 Z Z) ?_)))))));rw[Zl];refine ch Z Z (C7 44 Z (λz=>?_) (λz=>?_))
      .refine AN Z Z Z Z (AN Z Z Z Z (AN Z Z Z Z ?_));refine AN Z Z Z Z (J (B8 Z Z Z Z) (AC (CM Z Z (AD (AF (AB Z Z (AC (A4 ?_))))))));exact ⟨_,[],[],A2 Z,Z,Z,Ae (Mb c f (l.2 7 (by unfold K8;rw[g,ν b,ϱ (by simp_all)]) (by decide)) (by decide)),Z⟩
      .refine AT Z Z Z (ch Z Z (AT Z Z Z (J (AM Z Pt Z Z Z) (AT Z Z Z (J (AQ Z Z Z Ai Z) (AT Z Z Z (J (I8 (Av ((p.it.take k).map cl.sq)) (p.it[k].sq) (false) _ Z Z Z FU I6 W8 Z Z) ?_)))))));rw[Zl];refine J (Bx Z Z Z Z) (AC (A5 Z (λy=>?_) (λy=>?_)))
       .refine AD (AF (AB Z Z (AC (A4 ?_))));exact ⟨_,[],[],A2 Z,Z,Z,Ae (Mb c f (l.2 7 (by unfold K8;rw[g,ν b,ϱ (by simp_all)]) (by decide)) (by decide)),Z⟩
       .refine AU ?_;have D:p.it[k].id∉(p.it.take k).map cl.id:=by simp_all
        have C:p.it[k].sq∉(p.it.take k).map cl.sq:=by simp_all
        refine Bq [[],[],[1],[],[],[4],[0,1,2],rg 7] mixed Z (B2 (A1 [4] [4,2] Z Z (λ_=>Aa (AQ Z Z Z Uq Z)) (AK [7] Z (AM Z QW Z Z Z) ?_)));refine A1 [51] [5] Z Z (λ_=>Aa (AQ Z Z Z Ai Z)) (A7 5 Z Z (AK [7] Z (AM Z Pt Z Z Z) (A1 [54] [5] Z Z (λ_=>Aa (AQ Z Z Z Ai Z)) (Cv [50,52] [2] [] Z Z (λ_=>Cg (Wf (Av ((p.it.take k).map cl.id)) (p.it[k].id) (true) Z Z Z FU I6 Z Z)) (.inl ⟨Z,Z⟩) Z Z Z Z Z (BV 7 Z Z Z (A0 8 Z Z (V (Wf (Av ((p.it.take k).map cl.sq)) (p.it[k].sq) (true) Z Z Z FU I6 Z Z) (AC ⟨Z,?_⟩))))))));refine Bb (AF (J (Ad Z Z (AJ (k+1) (by omega)) Z) (ch Z Z (AC ?_))));exact ⟨k+1,⟨by show k+1<=_;omega,l.1 (by unfold K8;rw[g,ν b,ν (by rintro (h | h);exact D h;exact C h)])⟩,by show p.it.length-(k+1)<p.it.length-k;omega,AR v [1,4,2,3] Z (by rw[EB a,EB a,<-jT D,<-jT C];rfl) ⟨Z,Z,Z,Z,Z,Z,trivial⟩⟩
    .refine Aq (AD (AD ?_));have u:FK p.it=0:=by rw[t,mx (by have h:=i;simp only[kp];omega)];rfl
     have j:p.it.take k=p.it:=θ (by have h:=i;omega);rw[j];refine AF (J (AM Z FN Z Z Z) (J (AQ Z Z Z Mf Z) (J (BU Z Qs Z) (ch Z Z (AC (AX (BC (α:=Nat) (λk=>⟨69,[(4,(.ptr 4 0 0)),(58,(.d (.sl none (p.it.map Ah)))),(59,(.d (AE (p.it.length:Int)))),(60,(.d (AE (k:Int))))],[(4,[.blk 137 [.map 2 0]]),(2,[B5 AE Am (Av (p.it.map cl.id))])]⟩) (λk=>k<=p.it.length/\QN p.it=BM ((p.it.drop k).map (Qd (p.it.map cl.id)))) (λk=>p.it.length-k) (0) (⟨κ _,Z⟩) (AR v [4,2] Z Z ⟨Z,Z,Z,Z,trivial⟩) ?_)))))));rintro k ⟨w,t⟩;refine AD (AF (J (At Z Z Z) (AC (AD (A5 Z (λr=>?_) (λr=>?_))))))
     .have a:k<p.it.length:=BF r;refine AU (AD (AX (AD (AF ?_))));have l:=nN a t;have x:=E _ (ϑ a);refine J (Al (k) Z Z (Z) (AP a) Qs Z DP Z) (J (CY Z Z Cb Z) (V (CP 6 Fm Z Z Z Z) (V (Bi Z Z Z Z Z Z Z DP) ?_)));refine AC (AD (AF (J (AM Z GN Z Z Z) (J (AQ Z Z Z BL Z) (J (uk Z Z) (V (FX ((WA (p.it.map cl.id) p.it[k].af (by omega)).by [(910,4),(911,2)] Z) Z [4,2] ⟨Z,Z,trivial⟩ Z Z Z Z Z Z Z Z Z) (AC (KB Z (λo=>?_) (λo=>?_)))))))))
      .refine AD (AF (AB Z Z (AC (A4 ?_))));exact ⟨_,[],[],A2 Z,Z,Z,Ae (Sm c f u (l.2 9 (by unfold Qd;rw[ϱ (by simpa using o)]) (by decide))),Z⟩
      .refine AU (AF (J (Ad Z Z (AJ (k+1) (by omega)) Z) (ch Z Z (AC ?_))));exact ⟨k+1,⟨by show k+1<=_;omega,l.1 (by unfold Qd;rw[ν (by simpa using o)])⟩,by show p.it.length-(k+1)<p.it.length-k;omega,AR v [4,2] Z (Z) ⟨Z,Z,Z,Z,trivial⟩⟩
     .refine Aq (AD (AF (AB Z Z (AC (A4 ?_)))));exact ⟨_,[],[],A2 Z,Z,Z,Ae (Sm c f u (by rw[t,DX (by have h:=r;omega)])),Z⟩
abbrev B3(T:TypeId)(p:hU):AL:= .blk T [.d (.sl none (p.ro.map BY)),.d (.sl none (p.it.map Ah))]
theorem Gi(i:k<c.length)(g:B<k)(h:s c[B]=w):w∈(c.take k).map s:=by grind[mz]
theorem HR(g:B<c.length)(h:w∉(c.take B).map s)(i:s c[B]≠w):w∉(c.take (B+1)).map s:=by grind[EB]
theorem tn(h:0<=Sz y g):y∈g:=by grind[Sz]
theorem oy(h:Sz y g<0):y∉g:=by grind[Sz]
theorem Pk(p:hU)(id:Int)(j:p.it.length<=100000):AI prog 51 [.d (BG p),.d (AE id)] (AE (Sz id (p.it.map cl.id))):=by
 refine As func51 Z Z ntmps51 Z Z Z λF g=>(AD (AF (V (B7 1 Z Z Z Z Z Z Z) ?_)));refine AB Z Z (AC (AD (AD (AF (AB Z Z (AC (AX (BC (α:=Nat) (λk=>⟨22,[(1,.d (AE id)),(2,(.ptr 1 0 0)),(5,(.d (AE (k:Int))))],[(1,[B3 25 p])]⟩) (λk=>k<=p.it.length/\id∉(p.it.take k).map cl.id) (λk=>p.it.length-k) (0) (⟨κ _,by simp⟩) (AR g [1] Z Z ⟨Z,Z,Z,trivial⟩) ?_))))))));rintro k ⟨i,f⟩;refine AD ?_;refine AD (AF (ch Z Z (J (AM Z I7 Z Z Z) (J (AQ Z Z Z Cz Z) (J (BU Z F0 Z) (J (At Z Z Z) (AC (A5 Z (λc=>?_) (λc=>?_)))))))))
 .have a:k<p.it.length:=BF c;refine AU (AD (AX (AD (AF (J (AM Z I7 Z Z Z) ?_)))));refine J (AQ Z Z Z Cz Z) (ch Z Z (J (Al (k) Z Z (Z) (AP a) F0 Z CL Z) (J (Gw Z QP Z Z Z) (J (BZ Z Z Ai Z) (ch Z Z (J (Fa Z Z Z) (AC (A5 Z (λb=>?_) (λb=>?_)))))))))
  .refine AD (AF (ch Z Z (AB Z Z (AC (A4 ?_)))));exact ⟨_,[],[],A2 Z,Z,Z,Ae (VZ (l:=p.it.map cl.id) (by simpa using a) (by rw[<-List.map_take];exact f) (by rw[kT];exact b.symm)).symm,Z⟩
  .refine AU (AF (ch Z Z (J (Ad Z Z (AJ (k+1) (by omega)) Z) (AB Z Z (AC ?_)))));exact ⟨k+1,⟨by show k+1<=_;omega,HR a f b⟩,by show p.it.length-(k+1)<p.it.length-k;omega,AR g [1] Z (Z) ⟨Z,Z,Z,trivial⟩⟩
 .refine Aq (AD (AF (AB Z Z (AC (A4 ?_)))));exact ⟨_,[],[],A2 Z,Z,Z,Ae (by unfold Sz;rw[ν (by rw[θ (by have h:=c;omega)] at f;exact f)]),Z⟩
def xC(p:hU):Prop:=p.it.length<=12/\p.ro.length<=24/\∀i∈p.it,i.po.length<=12/\i.pa.length<=12/\i.af.length<=12
instance (p:hU):Decidable (xC p):=inferInstanceAs (Decidable (_/\_/\∀i∈p.it,_))
theorem nu(p:hU):AI prog 11 [.d (BG p)] (Am (decide (xC p))):=by
 refine As func11 Z Z ntmps11 Z Z Z λF s=>(AD (AF (V (B7 1 Z Z Z Z Z Z Z) (AB Z Z (AC ?_)))));refine AD (AD (AF (J (AM Z I7 Z Z Z) (J (AQ Z Z Z Cz Z) (J (BU Z F0 Z) (J (H4 Z Z Z) (ch Z Z (C7 8 Z (λu=>?_) (λu=>?_)))))))))
 .refine AN Z Z Z Z (AN Z Z Z Z (AN Z Z Z Z ?_));refine AN Z Z Z Z (J (B8 Z Z Z Z) (AC (CM Z Z (AD (AF (AB Z Z (AC (A4 ?_))))))));exact ⟨_,[],[],A2 Z,Z,Z,Hh (λh=>by have f:=h.1;have v:=h.2.1;omega),Z⟩
 .refine AT Z Z Z (J (AM Z MD Z Z Z) ?_);refine AT Z Z Z (J (AQ Z Z Z E3 Z) (AT Z Z Z (J (BU Z No Z) (AT Z Z Z (J (H4 Z Z Z) (J (Bx Z Z Z Z) (AC (A5 Z (λo=>?_) (λo=>?_)))))))))
  .refine AD (AF (AB Z Z (AC (A4 ?_))));exact ⟨_,[],[],A2 Z,Z,Z,Hh (λh=>by have f:=h.1;have v:=h.2.1;omega),Z⟩
  .refine AU (AD (AD (AF (AB Z Z (AC (AX (BC (α:=Nat) (λk=>⟨49,[(1,(.ptr 1 0 0)),(3,(.d (AE (k:Int))))],[(1,[B3 25 p])]⟩) (λk=>k<=p.it.length/\∀i∈p.it.take k,i.po.length<=12/\i.pa.length<=12/\i.af.length<=12) (λk=>p.it.length-k) (0) (⟨κ _,by simp⟩) (AR s [1] Z Z ⟨Z,Z,trivial⟩) ?_)))))));rintro k ⟨t,r⟩;refine AD ?_;refine AD (AF (ch Z Z (J (AM Z I7 Z Z Z) (J (AQ Z Z Z Cz Z) (J (BU Z F0 Z) (J (At Z Z Z) (AC (A5 Z (λc=>?_) (λc=>?_)))))))))
   .have a:k<p.it.length:=BF c;refine AU (AD (AX (AD (AF (J (AM Z I7 Z Z Z) ?_)))));refine J (AQ Z Z Z Cz Z) (ch Z Z (J (Al (k) Z Z (Z) (AP a) F0 Z CL Z) (J (Gw Z DE Z Z Z) (J (BZ Z Z Iq Z) (J (BU Z R5 Z) (J (H4 Z Z Z) (ch Z Z (C7 29 Z (λl=>?_) (λl=>?_)))))))))
    .refine AN Z Z Z Z (AN Z Z Z Z (AN Z Z Z Z (AN Z Z Z Z (AN Z Z Z Z (AN Z Z Z Z (AN Z Z Z Z (AN Z Z Z Z ?_)))))));refine J (B8 Z Z Z Z) (ch Z Z (AN Z Z Z Z (AN Z Z Z Z (AN Z Z Z Z (AN Z Z Z Z (AN Z Z Z Z (AN Z Z Z Z (AN Z Z Z Z ?_))))))));refine AN Z Z Z Z (J (B8 Z Z Z Z) (AC (CM Z Z (AD (AF (AB Z Z (AC (A4 ?_))))))));exact ⟨_,[],[],A2 Z,Z,Z,Hh (λh=>by have f:=h.2.2 _ (ϑ a);omega),Z⟩
    .refine AT Z Z Z ?_;refine J (AM Z I7 Z Z Z) (AT Z Z Z (J (AQ Z Z Z Cz Z) (AT Z Z Z (ch Z Z (AT Z Z Z (J (Al (k) Z Z (Z) (AP a) F0 Z CL Z) (AT Z Z Z (J (Gw Z Gn Z Z Z) ?_))))))));refine AT Z Z Z (J (BZ Z Z Q5 Z) (AT Z Z Z (J (BU Z an Z) (AT Z Z Z (J (H4 Z Z Z) (J (Bx Z Z Z Z) (ch Z Z (C7 39 Z (λj=>?_) (λj=>?_)))))))))
     .refine AN Z Z Z Z (AN Z Z Z Z (AN Z Z Z Z (AN Z Z Z Z (AN Z Z Z Z (AN Z Z Z Z (AN Z Z Z Z ?_))))));refine AN Z Z Z Z (J (B8 Z Z Z Z) (AC (CM Z Z (AD (AF (AB Z Z (AC (A4 ?_))))))));exact ⟨_,[],[],A2 Z,Z,Z,Hh (λh=>by have f:=h.2.2 _ (ϑ a);omega),Z⟩
     .refine AT Z Z Z ?_;refine J (AM Z I7 Z Z Z) (AT Z Z Z (J (AQ Z Z Z Cz Z) (AT Z Z Z (ch Z Z (AT Z Z Z (J (Al (k) Z Z (Z) (AP a) F0 Z CL Z) (AT Z Z Z (J (Gw Z DD Z Z Z) ?_))))))));refine AT Z Z Z (J (BZ Z Z BL Z) (AT Z Z Z (J (BU Z E0 Z) (AT Z Z Z (J (H4 Z Z Z) (J (Bx Z Z Z Z) (AC (A5 Z (λg=>?_) (λg=>?_)))))))))
      .refine AD (AF (AB Z Z (AC (A4 ?_))));exact ⟨_,[],[],A2 Z,Z,Z,Hh (λh=>by have f:=h.2.2 _ (ϑ a);omega),Z⟩
      .refine AU (AF (ch Z Z (J (Ad Z Z (AJ (k+1) (by omega)) Z) (AB Z Z (AC ?_)))));exact ⟨k+1,⟨by show k+1<=_;omega,by rw[ψ a];intro i b;rcases υ.1 b with b | b;exact r i b;rw[ξ.1 b];omega⟩,by show p.it.length-(k+1)<p.it.length-k;omega,AR s [1] Z (Z) ⟨Z,Z,trivial⟩⟩
   .refine Aq (AD (AF (AB Z Z (AC (A4 ?_)))));exact ⟨_,[],[],A2 Z,Z,Z,Sk ⟨by omega,by omega,λi b=>r i (by rw[θ (by have h:=c;omega)];exact b)⟩,Z⟩
theorem U6(p:hU)(g1:p.ro.length<=1000)(g2:p.it.length<=1000)(g3:∀i∈p.it,i.po.length<=1000/\i.pa.length<=1000/\i.af.length<=1000):AI prog 14 [.d (BG p)] (AE (Ac p)):=by
 refine As func14 Z Z ntmps14 Z Z Z λF t=>(AD (AF (V (B7 1 Z Z Z Z Z Z Z) (AB Z Z (AC ?_)))));refine AD (AD (AF (J (AM Z I7 Z Z Z) (J (AQ Z Z Z Cz Z) (J (BU Z F0 Z) (J (H4 Z Z Z) (ch Z Z (C7 15 Z (λY=>?_) (λY=>?_)))))))))
 .refine AN Z Z Z Z (AN Z Z Z Z (AN Z Z Z Z ?_));refine AN Z Z Z Z (J (B8 Z Z Z Z) (AC (CM Z Z (AD (AF (AB Z Z (AC (A4 ?_))))))));exact ⟨_,[],[],A2 Z,Z,Z,Ae (by unfold Ac;rw[ϱ (by omega)]),Z⟩
 .refine AT Z Z Z (J (AM Z MD Z Z Z) ?_);refine AT Z Z Z (J (AQ Z Z Z E3 Z) (AT Z Z Z (J (BU Z No Z) (AT Z Z Z (J (H4 Z Z Z) (J (Bx Z Z Z Z) (AC (A5 Z (λX=>?_) (λX=>?_)))))))))
  .refine AD (AF (AB Z Z (AC (A4 ?_))));exact ⟨_,[],[],A2 Z,Z,Z,Ae (by unfold Ac;rw[ϱ (by omega)]),Z⟩
  .refine AU (AD (AD ?_));have c:¬(4096<p.it.length\/16384<p.ro.length):=by omega
   refine AF (AB Z Z (AC (AX (BC (α:=Nat) (λk=>⟨151,[(1,(.ptr 1 0 0)),(3,(.d (AE (k:Int))))],[(1,[B3 25 p])]⟩) (λk=>k<=p.ro.length/\D7 p.ro=BM (((List.range p.ro.length).drop k).map (Il p.ro))) (λk=>p.ro.length-k) (0) (⟨κ _,Z⟩) (AR t [1] Z Z ⟨Z,Z,trivial⟩) ?_))));rintro k ⟨O,C⟩;refine AD ?_;refine AD (AF (ch Z Z (J (AM Z MD Z Z Z) (J (AQ Z Z Z E3 Z) (J (BU Z No Z) (J (At Z Z Z) (AC (A5 Z (λL=>?_) (λL=>?_)))))))))
   .have a:k<p.ro.length:=BF L;refine AU (AD (AX (AD (AD (AF ?_)))));have s:=sK a C;have b:=Dy IY a;refine J (AM Z MD Z Z Z) (J (AQ Z Z Z E3 Z) (ch Z Z (J (Al (k) Z Z (Z) (AP a) No Z Bc Z) (J (KL Z Qh Z Z Z) (J (CY Z Z Cf Z) ?_)))));refine J (Aj (PE p.ro[k].r) Z Z) (AB Z Z (AC (AD (AF (ch Z Z (J (DJ Z Z Z) (AC (A5 Z (λf=>?_) (λf=>?_)))))))))
    .refine AD (AF (ch Z Z (AB Z Z (AC (A4 ?_)))));exact ⟨_,[],[],A2 Z,Z,Z,Ae (by have h:=s.2 _ (by unfold Il;rw[b,ϱ f]) f;rw[h];exact PJ c (by rw[<-h];exact f)),Z⟩
    .refine AU (AD (AD (AF ?_)));refine J (AM Z MD Z Z Z) (J (AQ Z Z Z E3 Z) (ch Z Z (J (Al (k) Z Z (Z) (AP a) No Z Bc Z) (J (Gw Z Jn Z Z Z) (J (BZ Z Z FJ Z) (J (At Z Z Z) (ch Z Z (C7 45 Z (λW=>?_) (λW=>?_)))))))))
     .refine AN Z Z Z Z (AN Z Z Z Z (AN Z Z Z Z (AN Z Z Z Z (AN Z Z Z Z (AN Z Z Z Z ?_)))));refine AN Z Z Z Z (J (B8 Z Z Z Z) (AC (CM Z Z (AD (AF (AB Z Z (AC (A4 ?_))))))));exact ⟨_,[],[],A2 Z,Z,Z,Ae (by have h:=s.2 12 (by unfold Il;rw[b,ν f,ϱ (by simp only[Mx];omega)]) (by decide);rw[h];exact PJ c (by rw[<-h];decide)),Z⟩
     .refine AT Z Z Z (J (AM Z MD Z Z Z) (AT Z Z Z (J (AQ Z Z Z E3 Z) (AT Z Z Z (ch Z Z (AT Z Z Z (J (Al (k) Z Z (Z) (AP a) No Z Bc Z) ?_)))))));refine AT Z Z Z (J (Gw Z Jn Z Z Z) (AT Z Z Z (J (BZ Z Z FJ Z) (AT Z Z Z (J (H4 Z Z Z) (J (Bx Z Z Z Z) (AC (A5 Z (λU=>?_) (λU=>?_)))))))))
      .refine AD (AF (AB Z Z (AC (A4 ?_))));exact ⟨_,[],[],A2 Z,Z,Z,Ae (by have h:=s.2 12 (by unfold Il;rw[b,ν f,ϱ (by simp only[Mx];omega)]) (by decide);rw[h];exact PJ c (by rw[<-h];decide)),Z⟩
      .refine AU (AD (AF (AB Z Z (AC (AX (BC (α:=Nat) (λm=>⟨151,[(1,(.ptr 1 0 0)),(3,(.d (AE (k:Int)))),(5,(.d (AE (m:Int))))],[(1,[B3 25 p])]⟩) (λm=>m<=k/\p.ro[k].r∉(p.ro.take m).map ey.r) (λm=>k-m) (0) (⟨κ _,by simp⟩) (AR t [1] Z Z ⟨Z,Z,Z,trivial⟩) ?_))))));rintro m ⟨T,hm⟩;refine AD (AD (AF (ch Z Z (ch Z Z (J (At Z Z Z) (AC (A5 Z (λK=>?_) (λK=>?_))))))))
       .have o:m<k:=BF K;refine AU (AD (AX (AD (Bq [[],[0],[],[0,1,2],[0,1,2,3],rg 5,[],[6],[],[6,7,8],[6,7,8,9],[6,7,8,9,10],rg 12] mixed Z (B2 ?_)))));have g:m<p.ro.length:=by omega
        refine AK [1] Z (AM Z MD Z Z Z) (Ay [59] Z Z (λ_=>Aa (AQ Z Z Z E3 Z)) (A7 5 Z Z (AK [60,61] Z (Al (m) Z Z (Z) (AP g) No Z Bc Z) (AK [62] Z (KL Z Qh Z Z Z) (AK [63] Z (CY Z Z Cf Z) (AK [1] Z (AM Z MD Z Z Z) ?_))))));refine Ay [65] Z Z (λ_=>Aa (AQ Z Z Z E3 Z)) (A7 3 Z Z (AK [66,67] Z (Al (k) Z Z (Z) (AP a) No Z Bc Z) (AK [68] Z (KL Z Qh Z Z Z) (AK [69] Z (CY Z Z Cf Z) (BV 12 Z Z Z (A0 13 Z Z (J (Fv (la:=LA p.ro[m].r) (lb:=LA p.ro[k].r) (ds:=a8) (by kernel_rfl) (by kernel_rfl) (by kernel_rfl) Z Z Z Z (qi _) (qi _) (Kz _ _) Z) (AC ⟨Z,?_⟩))))))));refine Bb (A5 Z (λI=>?_) (λI=>?_))
        .refine AD (AF (AB Z Z (AC (A4 ?_))));exact ⟨_,[],[],A2 Z,Z,Z,Ae (by have h:=s.2 7 (by unfold Il;rw[b,ν f,ν (by simp only[Mx];omega),ϱ (Gi a o I)]) (by decide);rw[h];exact PJ c (by rw[<-h];decide)),Z⟩
        .refine AU (AF (ch Z Z (J (Ad Z Z (AJ (m+1) (by omega)) Z) (AB Z Z (AC ?_)))));exact ⟨m+1,⟨by show m+1<=_;omega,HR g hm I⟩,by show k-(m+1)<k-m;omega,AR t [1] Z (Z) ⟨Z,Z,Z,trivial⟩⟩
       .have v:p.ro[k].r∉(p.ro.take k).map ey.r:=by have e:m=k:=by {have h:=K;omega};subst e;exact hm
        refine Aq (AF (ch Z Z (J (Ad Z Z (AJ (k+1) (by omega)) Z) (AB Z Z (AC ?_)))));exact ⟨k+1,⟨by show k+1<=_;omega,s.1 (by unfold Il;rw[b,ν f,ν (by simp only[Mx];omega),ν v])⟩,by show p.ro.length-(k+1)<p.ro.length-k;omega,AR t [1] Z (Z) ⟨Z,Z,trivial⟩⟩
   .refine Aq (AD (AD ?_));have u:D7 p.ro=0:=by rw[C,mx (by have h:=L;simp only[kp];omega)];rfl
    refine AF (AB Z Z (AC (AX (BC (α:=Nat) (λk=>⟨151,[(1,(.ptr 1 0 0)),(6,(.d (AE (k:Int))))],[(1,[B3 25 p])]⟩) (λk=>k<=p.it.length/\FK p.it=BM (((List.range p.it.length).drop k).map (K8 p.it))) (λk=>p.it.length-k) (0) (⟨κ _,Z⟩) (AR t [1] Z Z ⟨Z,Z,trivial⟩) ?_))));rintro k ⟨O,C⟩;refine AD ?_;refine AD (AF (ch Z Z (J (AM Z I7 Z Z Z) (J (AQ Z Z Z Cz Z) (J (BU Z F0 Z) (J (At Z Z Z) (AC (A5 Z (λH=>?_) (λH=>?_)))))))))
    .have a:k<p.it.length:=BF H;refine AU (AD (AX (AD (AD (AF ?_)))));have s:=sK a C;have b:=Dy ek a;have B:=g3 _ (ϑ a);refine J (AM Z I7 Z Z Z) (J (AQ Z Z Z Cz Z) (ch Z Z (J (Al (k) Z Z (Z) (AP a) F0 Z CL Z) (J (CY Z Z F1 Z) ?_))));refine J (Aj (KU p.it[k] B.1 B.2.1 B.2.2) Z Z) (AB Z Z (AC (AD (AF (ch Z Z (J (DJ Z Z Z) (AC (A5 Z (λl=>?_) (λl=>?_)))))))))
     .refine AD (AF (ch Z Z (AB Z Z (AC (A4 ?_)))));exact ⟨_,[],[],A2 Z,Z,Z,Ae (Mb c u (s.2 _ (by unfold K8;rw[b,ϱ l]) l) l),Z⟩
     .refine AU (AD (AF (AB Z Z (AC (AX (BC (α:=Nat) (λm=>⟨151,[(1,(.ptr 1 0 0)),(6,(.d (AE (k:Int)))),(8,(.d (AE (m:Int))))],[(1,[B3 25 p])]⟩) (λm=>m<=k/\p.it[k].id∉(p.it.take m).map cl.id/\p.it[k].sq∉(p.it.take m).map cl.sq) (λm=>k-m) (0) (⟨κ _,by simp,by simp⟩) (AR t [1] Z Z ⟨Z,Z,Z,trivial⟩) ?_))))));rintro m ⟨T,N,M⟩;refine AD (AD (AF (ch Z Z (ch Z Z (J (At Z Z Z) (AC (A5 Z (λG=>?_) (λG=>?_))))))))
      .have o:m<k:=BF G;refine AU (AD (AX (AD (Bq [[],[0],[],[0,1,2],[0,1,2,3],rg 5,[],[6],[],[6,7,8],[6,7,8,9],[6,7,8,9,10],rg 12,rg 13,rg 14,rg 15,rg 14,rg 17,rg 18,rg 19,rg 14,[0,1,2,3,4,5,6,7,8,9,10,11,12,13,20],rg 14,[0,1,2,3,4,5,6,7,8,9,10,11,12,13,20,21,22],[0,1,2,3,4,5,6,7,8,9,10,11,12,13,20,21,22,23],[0,1,2,3,4,5,6,7,8,9,10,11,12,13,20,21,22,23,24],rg 26,rg 27] mixed Z (B2 ?_)))));have g:m<p.it.length:=by omega
       refine AK [1] Z (AM Z I7 Z Z Z) (Ay [93] Z Z (λ_=>Aa (AQ Z Z Z Cz Z)) (A7 8 Z Z (AK [94,95] Z (Al (m) Z Z (Z) (AP g) F0 Z CL Z) (AK [96] Z (Gw Z QP Z Z Z) (AK [97] Z (BZ Z Z Ai Z) (AK [1] Z (AM Z I7 Z Z Z) ?_))))));refine Ay [99] Z Z (λ_=>Aa (AQ Z Z Z Cz Z)) (A7 6 Z Z (AK [100,101] Z (Al (k) Z Z (Z) (AP a) F0 Z CL Z) (AK [102] Z (Gw Z QP Z Z Z) (AK [103] Z (BZ Z Z Ai Z) (BV 12 Z Z Z (A0 13 Z Z (J (Fa Z Z Z) (AC ⟨Z,?_⟩))))))));refine A0 14 Z Z (ch Z Z (C7 106 Z (λA=>?_) (λA=>?_)))
       .refine AC ⟨Z,?_⟩;refine B2 (A1 [1,106] [] Z Z (λ_=>Bw Z Z Z Z) (A1 [107,106] [] Z Z (λ_=>Bw Z Z Z Z) (A1 [8,106] [] Z Z (λ_=>Bw Z Z Z Z) (A1 [108,109,106] [] Z Z (λ_=>Bw Z Z Z Z) (A1 [110,106] [] Z Z (λ_=>Bw Z Z Z Z) (A1 [111,106] [] Z Z (λ_=>Bw Z Z Z Z) (A1 [1,106] [] Z Z (λ_=>Bw Z Z Z Z) ?_)))))));refine A1 [113,106] [] Z Z (λ_=>Bw Z Z Z Z) (A1 [6,106] [] Z Z (λ_=>Bw Z Z Z Z) (A1 [114,115,106] [] Z Z (λ_=>Bw Z Z Z Z) (A1 [116,106] [] Z Z (λ_=>Bw Z Z Z Z) (A1 [117,106] [] Z Z (λ_=>Bw Z Z Z Z) (BV 26 Z Z Z (A0 27 Z Z (AN Z Z Z Z (AC ⟨Z,?_⟩))))))));refine A0 28 Z Z (J (B8 Z Z Z Z) (AC ⟨Z,?_⟩));refine Bb (CM Z Z (AD (AF (AB Z Z (AC (A4 ?_))))));exact ⟨_,[],[],A2 Z,Z,Z,Ae (Mb c u (s.2 7 (by unfold K8;rw[b,ν l,ϱ (by first | (exact .inl (Gi a o A)) | (exact .inr (Gi a o (by assumption))))]) (by decide)) (by decide)),rfl⟩
       .refine AC ⟨Z,?_⟩;refine B2 (A1 [1,106] [] Z Z (λ_=>BR Z Z Z (AM Z I7 Z Z Z)) (Ay [107,106] Z Z (λ_=>BR Z Z Z (AQ Z Z Z Cz Z)) (A1 [8,106] [] Z Z (λ_=>BR Z Z Z (FW Z Z)) (A1 [108,109,106] [] Z Z (λ_=>BR Z Z Z (Al (m) Z Z (Z) (AP g) F0 Z CL Z)) (A1 [110,106] [] Z Z (λ_=>BR Z Z Z (Gw Z NA Z Z Z)) (A1 [111,106] [] Z Z (λ_=>BR Z Z Z (BZ Z Z Ai Z)) (A1 [1,106] [] Z Z (λ_=>BR Z Z Z (AM Z I7 Z Z Z)) (Ay [113,106] Z Z (λ_=>BR Z Z Z (AQ Z Z Z Cz Z)) ?_))))))));refine A1 [6,106] [] Z Z (λ_=>BR Z Z Z (FW Z Z)) (A1 [114,115,106] [] Z Z (λ_=>BR Z Z Z (Al (k) Z Z (Z) (AP a) F0 Z CL Z)) (A1 [116,106] [] Z Z (λ_=>BR Z Z Z (Gw Z NA Z Z Z)) (A1 [117,106] [] Z Z (λ_=>BR Z Z Z (BZ Z Z Ai Z)) (BV 26 Z Z Z (A0 27 Z Z (AT Z Z Z (J (Fa Z Z Z) (AC ⟨Z,?_⟩))))))));refine A0 28 Z Z (J (Bx Z Z Z Z) (AC ⟨Z,?_⟩));refine Bb (A5 Z (λR=>?_) (λR=>?_))
        .refine AD (AF (AB Z Z (AC (A4 ?_))));exact ⟨_,[],[],A2 Z,Z,Z,Ae (Mb c u (s.2 7 (by unfold K8;rw[b,ν l,ϱ (by first | (exact .inl (Gi a o A)) | (exact .inr (Gi a o (by assumption))))]) (by decide)) (by decide)),rfl⟩
        .refine AU (AF (ch Z Z (J (Ad Z Z (AJ (m+1) (by omega)) Z) (AB Z Z (AC ?_)))));exact ⟨m+1,⟨by show m+1<=_;omega,HR g N (by simp_all),HR g M (by simp_all)⟩,by show k-(m+1)<k-m;omega,AR t [1] Z (Z) ⟨Z,Z,Z,trivial⟩⟩
      .have v:¬(p.it[k].id∈(p.it.take k).map cl.id\/p.it[k].sq∈(p.it.take k).map cl.sq):=by have e:m=k:=by {have h:=G;omega};subst e;rintro (h | h);exact N h;exact M h
       refine Aq (AF (ch Z Z (J (Ad Z Z (AJ (k+1) (by omega)) Z) (AB Z Z (AC ?_)))));exact ⟨k+1,⟨by show k+1<=_;omega,s.1 (by unfold K8;rw[b,ν l,ν v])⟩,by show p.it.length-(k+1)<p.it.length-k;omega,AR t [1] Z (Z) ⟨Z,Z,trivial⟩⟩
    .refine Aq (AD (AD ?_));have P:FK p.it=0:=by rw[C,mx (by have h:=H;simp only[kp];omega)];rfl
     refine AF (AB Z Z (AC (AX (BC (α:=Nat) (λk=>⟨151,[(1,(.ptr 1 0 0)),(9,(.d (AE (k:Int))))],[(1,[B3 25 p])]⟩) (λk=>k<=p.it.length/\QN p.it=BM ((p.it.drop k).map (Qd (p.it.map cl.id)))) (λk=>p.it.length-k) (0) (⟨κ _,Z⟩) (AR t [1] Z Z ⟨Z,Z,trivial⟩) ?_))));rintro k ⟨O,C⟩;refine AD ?_;refine AD (AF (ch Z Z (J (AM Z I7 Z Z Z) (J (AQ Z Z Z Cz Z) (J (BU Z F0 Z) (J (At Z Z Z) (AC (A5 Z (λz=>?_) (λz=>?_)))))))))
     .have a:k<p.it.length:=BF z;refine AU (AD (AX (AD ?_)));have s:=nN a C;have B:=g3 _ (ϑ a);refine AF (AB Z Z (AC (AX (BC (α:=Nat) (λj=>⟨151,[(1,(.ptr 1 0 0)),(9,(.d (AE (k:Int)))),(10,(.d (AE (j:Int))))],[(1,[B3 25 p])]⟩) (λj=>j<=p.it[k].af.length/\∀x∈p.it[k].af.take j,x∈p.it.map cl.id) (λj=>p.it[k].af.length-j) (0) (⟨κ _,by simp⟩) (AR t [1] Z Z ⟨Z,Z,Z,trivial⟩) ?_))));rintro j ⟨hj0,hj⟩;refine AD (AD (AF (ch Z Z (J (AM Z I7 Z Z Z) ?_))));refine J (AQ Z Z Z Cz Z) (ch Z Z (J (Al (k) Z Z (Z) (AP a) F0 Z CL Z) (J (Gw Z DD Z Z Z) (J (BZ Z Z BL Z) (J (BU Z E0 Z) (J (At Z Z Z) (AC (A5 Z (λy=>?_) (λy=>?_)))))))))
      .have E:j<p.it[k].af.length:=BF y;refine AU (AD ?_);refine AX (AD (Bq [[],[],[1],[],[1,2,3],[1,2,3,4],[1,2,3,4,5],[],[1,2,3,4,5,6,7],[1,2,3,4,5,6,7,8],rg 10,rg 11] mixed Z (B2 (Ay [1] Z Z (λ_=>Aa (Ap Z Z By Z Z Z)) (AK [1] Z (AM Z I7 Z Z Z) (Ay [140] Z Z (λ_=>Aa (AQ Z Z Z Cz Z)) (A7 9 Z Z (AK [141,142] Z (Al (k) Z Z (Z) (AP a) F0 Z CL Z) ?_))))))));refine AK [143] Z (Gw Z DD Z Z Z) (AK [144] Z (BZ Z Z BL Z) (A7 10 Z Z (AK [145,146] Z (Al (j) Z Z (Z) (AP E) E0 Z BK Z) (AK [147] Z (BZ Z Z Ai Z) (BV 10 Z Z Z (A0 11 Z Z (J (Aj (Pk p p.it[k].af[j] (by omega)) Z Z) (AC ⟨Z,?_⟩))))))));refine A0 12 Z Z (J (At Z Z Z) (AC ⟨Z,?_⟩));refine Bb (A5 Z (λw=>?_) (λw=>?_))
       .refine AD (AF (AB Z Z (AC (A4 ?_))));exact ⟨_,[],[],A2 Z,Z,Z,Ae (Sm c u P (s.2 9 (by unfold Qd;rw[ϱ (List.any_eq_true.2 ⟨_,ϑ E,by unfold Is;rw[kC (oy w)];rfl⟩)]) (by decide))),Z⟩
       .refine AU (AF (ch Z Z (J (Ad Z Z (AJ (j+1) (by omega)) Z) (AB Z Z (AC ?_)))));exact ⟨j+1,⟨by show j+1<=_;omega,by rw[ψ E];intro x D;rcases υ.1 D with D | D;exact hj x D;rw[ξ.1 D];exact tn (by simpa using w)⟩,by show p.it[k].af.length-(j+1)<p.it[k].af.length-j;omega,AR t [1] Z (Z) ⟨Z,Z,Z,trivial⟩⟩
      .have Q:¬p.it[k].af.any (Is (p.it.map cl.id))=true:=by rw[List.any_eq_true];rintro ⟨x,D,hn⟩;have S:=hj x (by rw[θ (by have h:=y;omega)];exact D);simp[Is,S] at hn
       refine Aq (AF (ch Z Z (J (Ad Z Z (AJ (k+1) (by omega)) Z) (AB Z Z (AC ?_)))));exact ⟨k+1,⟨by show k+1<=_;omega,s.1 (by unfold Qd;rw[ν Q])⟩,by show p.it.length-(k+1)<p.it.length-k;omega,AR t [1] Z (Z) ⟨Z,Z,trivial⟩⟩
     .refine Aq (AD (AF (AB Z Z (AC (A4 ?_)))));exact ⟨_,[],[],A2 Z,Z,Z,Ae (Sm c u P (by rw[C,DX (by have h:=z;omega)])),Z⟩
def Mo:List cl->cl->List cl
 | [],x=> [x]
 | a::l,x=>if ∀y∈a::l,Eb x y<0 then x::a::l else a::Mo l x
theorem TC:∀{l:List cl} {x:cl} {k:Nat},k<=l.length->(∀y∈l.drop k,Eb x y<0)->(∀(_:0<k) y,l[k-1]? =some y->¬Eb x y<0)->Mo l x=(l.take k++ [x])++l.drop k
 | [],x,0,_,_,_=>rfl
 | [],x,k+1,h,_,_=>by simp at h
 | a::l,x,0,_,h,_=>by simp only[Mo];rw[ϱ (by simpa using h)];rfl
 | a::l,x,k+1,o,h,g=>by
  have b:k<=l.length:=by simpa using o
  have f:k<(a::l).length:=Nat.lt_succ_of_le b;have j:¬∀y∈a::l,Eb x y<0:=λc=>g (by omega) _ (ω f) (c _ (ϑ f));simp only[Mo]
  rw[ν j,TC (k:=k) b (by simpa using h) λr y i=>g (by omega) y (by
   obtain ⟨m,rfl⟩:∃m,k=m+1:=⟨k-1,by omega⟩
   simpa using i)]
  simp
def ea(l:List cl):List cl:=l.foldl Mo []
theorem gX(l:List cl)(x:cl):(Mo l x).length=l.length+1:=by
 induction l with
 | nil=>rfl
 | cons a l b=>
  grind[Mo]
theorem Fw(l:List cl)(x:cl):ea (l++ [x])=Mo (ea l) x:=by simp[ea]
theorem Nr(l:List cl):(ea l).length=l.length:=by
 induction l using cH with
 | h0=>rfl
 | h1 l x a=>rw[Fw,gX,a];simp
theorem Dg(l:List cl)(x:l.length<=1000):AI prog 61 [.d (.sl none (l.map Ah))] (.sl none ((ea l).map Ah)):=by
 refine As func61 Z Z ntmps61 Z Z Z λF t=>(AD ?_);refine AF (AB Z Z (AC (AD (AF (AB Z Z (AC (AD (AD ?_))))))));refine JW 3 Z ?_;refine AF (AB Z Z (AC (AX (BC (α:=Nat×List cl) (λq=>⟨49,[(0,.d (.sl none (l.map Ah))),(3,(.d (.sl none (q.2.map Ah)))),(4,(.d (AE (q.1:Int))))],[]⟩) (λq=>q.1<=l.length/\q.2=ea (l.take q.1)) (λq=>l.length-q.1) ((0,[])) (⟨κ _,Z⟩) (AR t [] Z Z ⟨Z,Z,Z,trivial⟩) ?_))));rintro ⟨k,a⟩ ⟨v,s⟩;dsimp only at v s⊢;refine AD (AD (AF (ch Z Z (ch Z Z (J (BU Z F0 Z) (J (At Z Z Z) (AC (A5 Z (λo=>?_) (λo=>?_)))))))))
 .have g:k<l.length:=BF o;refine AU (AD (AX (AD ?_)));have w:a.length<=1000:=by rw[s,Nr,η];omega
  refine AF (ch Z Z (J (BU Z F0 Z) (AB Z Z (AC (AD (AX (BC (α:=Nat) (λm=>⟨49,[(0,.d (.sl none (l.map Ah))),(3,(.d (.sl none (a.map Ah)))),(4,(.d (AE (k:Int)))),(5,(.d (AE (m:Int))))],[]⟩) (λm=>m<=a.length/\∀y∈a.drop m,Eb l[k] y<0) (λm=>m) (a.length) (⟨Θ _,by simp⟩) (AR t [] Z Z ⟨Z,Z,Z,Z,trivial⟩) ?_)))))));rintro m ⟨r,u⟩;refine AD (AD (Bq [[],[0],[0,1],[0,1,2],[0,1,2],rg 5,rg 6,[0,1,2],[0,1,2],[0,1,2,8],[0,1,2,7,8,9],[0,1,2,7,8,9,10],rg 12,rg 13] mixed Z (A0 1 Z Z (ch Z Z (AC ⟨Z,?_⟩)))));refine A0 2 Z Z (J (H4 Z Z Z) (AC ⟨Z,?_⟩));refine A0 3 Z Z (ch Z Z (C7 17 Z (λj=>?_) (λj=>?_)))
  .refine AC ⟨Z,?_⟩;refine B2 ?_
   try have f:m-1<a.length:=by have h:=j;omega
   refine A1 [0,17] [] Z Z (λ_=>BR Z Z Z (FW Z Z)) (A1 [4,17] [] Z Z (λ_=>BR Z Z Z (FW Z Z)) (A1 [18,19,17] [] Z Z (λ_=>BR Z Z Z (Al (k) Z Z (Z) (AP g) F0 Z CL Z)) (A1 [20,17] [] Z Z (λ_=>BR Z Z Z (CY Z Z F1 Z)) (A1 [3,17] [] Z Z (λ_=>BR Z Z Z (FW Z Z)) ?_))));refine A1 [5,17] [] Z Z (λ_=>BR Z Z Z (FW Z Z)) (A1 [23,17] [] Z Z (λ_=>BR Z Z Z (ME Z Z (show IntKind.i64.wrap ((m:Int)-1)=((m-1:Nat):Int) from by rw[show ((m-1:Nat):Int)=(m:Int)-1 by omega];exact Ξ _ (by omega)) Z)) (A1 [22,24,17] [] Z Z (λ_=>BR Z Z Z (Al (m-1) Z Z (Z) (AP f) F0 Z CL Z)) (A1 [25,17] [] Z Z (λ_=>BR Z Z Z (CY Z Z F1 Z)) (BV 12 Z Z Z (A0 13 Z Z (AT Z Z Z (J (Aj (U7 l[k] a[m-1]) Z Z) (AC ⟨Z,?_⟩))))))));refine A0 14 Z Z (J (B8 Z Z Z Z) (AC ⟨Z,?_⟩));refine Bb (A5 Z (λi=>?_) (λi=>?_))
   .refine AU (AX (AF (ch Z Z (J (ME Z Z (show IntKind.i64.wrap ((m:Int)-1)=((m-1:Nat):Int) from by rw[show ((m-1:Nat):Int)=(m:Int)-1 by omega];exact Ξ _ (by omega)) Z) (AB Z Z (AC ?_))))));exact ⟨m-1,⟨by show m-1<=_;omega,by rw[mM f];intro y b;rcases jt.1 b with b | b;rw[b];exact i;exact u y (by rw[show m-1+1=m by omega] at b;exact b)⟩,by show m-1<m;omega,AR t [] Z (Z) ⟨Z,Z,Z,Z,trivial⟩⟩
   .refine Aq (AD ?_);have c:∀(h:0<m) y,a[m-1]? =some y->¬Eb l[k] y<0:=by first | (intro h y b;exact absurd h (by omega)) | (intro h y b;rw[ω f] at b;injection b with b;rw[<-b];exact i)
    refine AF (V (CF 20 MT Z Z Z Z Z Z Z Z) (ch Z Z (ch Z Z (J (YD (a) (m) Z Z Z (Z) (by omega) F0 CL (λ_=>rfl) Z) (V (Jr (([]:List cl)) (a.take m) Z Z Z Z Z Z (λ_=>rfl) MT (by simp only[lT,η];omega) Z Z Z Z) (AB Z Z ?_))))));refine AC (AD (AF (ch Z Z (ch Z Z (ch Z Z (J (Al (k) Z Z (Z) (AP g) F0 Z CL Z) (J (CY Z Z F1 Z) (V (CF 21 MT Z Z Z Z Z Z Z Z) ?_))))))));refine V (DN (([]++a.take m)) ([l[k]]) Z Z Z Z Z Z Z Z MT (by simp only[kN,ζ,η];omega) Z Z Z Z) ?_;refine AB Z Z (AC (AF (ch Z Z (ch Z Z (ch Z Z (J (cT (a) (m) Z Z Z (Z) (by omega) F0 CL (λ_=>rfl) Z) ?_))))));refine V (Jr ((([]++a.take m)++ [l[k]])) (a.drop m) Z Z Z Z Z Z (λ_=>rfl) MT (by simp only[kN,Δ,ζ,η,lX];omega) Z Z Z Z) ?_;refine W3 (emb:=Ah) 47 20 ((([]++a.take m)++ [l[k]])++a.drop m) Z Z Z Z Z Z Z (AB Z Z (AC (AF (ch Z Z (J (Ad Z Z (AJ (k+1) (by omega)) Z) (AB Z Z (AC ?_)))))));exact ⟨(k+1,_),⟨by show k+1<=_;omega,by show _=ea (l.take (k+1));rw[ψ g,Fw,<-s,TC r u c];rfl⟩,by show l.length-(k+1)<l.length-k;omega,AR t [] Z (Z) ⟨Z,Z,Z,trivial⟩⟩
  .refine AC ⟨Z,?_⟩;refine B2 ?_
   try have f:m-1<a.length:=by have h:=j;omega
   refine A1 [0,17] [] Z Z (λ_=>Bw Z Z Z Z) (A1 [4,17] [] Z Z (λ_=>Bw Z Z Z Z) (A1 [18,19,17] [] Z Z (λ_=>Bw Z Z Z Z) (A1 [20,17] [] Z Z (λ_=>Bw Z Z Z Z) ?_)));refine A1 [3,17] [] Z Z (λ_=>Bw Z Z Z Z) (A1 [5,17] [] Z Z (λ_=>Bw Z Z Z Z) (A1 [23,17] [] Z Z (λ_=>Bw Z Z Z Z) (A1 [22,24,17] [] Z Z (λ_=>Bw Z Z Z Z) (A1 [25,17] [] Z Z (λ_=>Bw Z Z Z Z) (BV 12 Z Z Z (A0 13 Z Z (AN Z Z Z Z (AC ⟨Z,?_⟩))))))));refine A0 14 Z Z (J (Bx Z Z Z Z) (AC ⟨Z,?_⟩));refine Bb (Cq Z Z (Aq (AD ?_)));have c:∀(h:0<m) y,a[m-1]? =some y->¬Eb l[k] y<0:=by first | (intro h y b;exact absurd h (by omega)) | (intro h y b;rw[ω f] at b;injection b with b;rw[<-b];exact i)
   refine AF (V (CF 20 MT Z Z Z Z Z Z Z Z) (ch Z Z (ch Z Z (J (YD (a) (m) Z Z Z (Z) (by omega) F0 CL (λ_=>rfl) Z) (V (Jr (([]:List cl)) (a.take m) Z Z Z Z Z Z (λ_=>rfl) MT (by simp only[lT,η];omega) Z Z Z Z) (AB Z Z ?_))))));refine AC (AD (AF (ch Z Z (ch Z Z (ch Z Z (J (Al (k) Z Z (Z) (AP g) F0 Z CL Z) (J (CY Z Z F1 Z) (V (CF 21 MT Z Z Z Z Z Z Z Z) ?_))))))));refine V (DN (([]++a.take m)) ([l[k]]) Z Z Z Z Z Z Z Z MT (by simp only[kN,ζ,η];omega) Z Z Z Z) ?_;refine AB Z Z (AC (AF (ch Z Z (ch Z Z (ch Z Z (J (cT (a) (m) Z Z Z (Z) (by omega) F0 CL (λ_=>rfl) Z) ?_))))));refine V (Jr ((([]++a.take m)++ [l[k]])) (a.drop m) Z Z Z Z Z Z (λ_=>rfl) MT (by simp only[kN,Δ,ζ,η,lX];omega) Z Z Z Z) ?_;refine W3 (emb:=Ah) 47 20 ((([]++a.take m)++ [l[k]])++a.drop m) Z Z Z Z Z Z Z (AB Z Z (AC (AF (ch Z Z (J (Ad Z Z (AJ (k+1) (by omega)) Z) (AB Z Z (AC ?_)))))));exact ⟨(k+1,_),⟨by show k+1<=_;omega,by show _=ea (l.take (k+1));rw[ψ g,Fw,<-s,TC r u c];rfl⟩,by show l.length-(k+1)<l.length-k;omega,AR t [] Z (Z) ⟨Z,Z,Z,trivial⟩⟩
 .refine Aq (AD (AF (ch Z Z (AB Z Z (AC (A4 ?_))))));exact ⟨_,[],[],A2 Z,Z,Z,by rw[s,θ (by have h:=o;omega)],Z⟩
def hY(l:List cl)(r:AW):List Int:=(l.filter λi=>decide (BO i r<0)).map cl.id
theorem KS(p:hU)(r:AW)(v:p.it.length<=1000)(u:∀i∈ea p.it,i.po.length<=1000/\i.pa.length<=1000/\i.af.length<=1000):AI prog 154 [.d (BG p),.d (Bm r)] (.sl none ((hY (ea p.it) r).map AE)):=by
 obtain ⟨S,t⟩:∃S,ea p.it=S:=⟨_,Z⟩
 have j:=Dg p.it v;have x:S.length<=1000:=by rw[<-t,Nr];exact v
 rw[t] at j u⊢;refine As func154 Z Z ntmps154 Z Z Z λF s=>(AD (AF (V (B7 1 Z Z Z Z Z Z Z) (V (B7 2 Z Z Z Z Z Z Z) (AB Z Z (AC (AD ?_)))))));refine AF (AB Z Z (AC (AD (AF (J (AM Z I7 Z Z Z) (J (AQ Z Z Z Cz Z) (J (Aj (j) Z Z) (AB Z Z ?_))))))));refine AC (AD (AD (IU 5 900 Ao Z Z Z Z (AF (AB Z Z (AC (AX (BC (α:=Nat×List Int) (λq=>⟨33,[(3,(.ptr 2 0 0)),(5,(.own 900 0 q.2.length)),(6,(.d (.sl none (S.map Ah)))),(7,(.d (AE (q.1:Int))))],[(2,[.blk 98 [.d (AE r.k),.d (Ak r.acc.o),.d (AE r.acc.k),.d (Ak r.acc.a),.d (Ak r.f),.d (Ak r.t)]]),(900,[.rowD 3 1 (q.2.map AE)])]⟩) (λq=>q.1<=S.length/\q.2=hY (S.take q.1) r) (λq=>S.length-q.1) ((0,[])) (⟨κ _,Z⟩) (AR s [2,900] Z Z ⟨Z,Z,Z,Z,trivial⟩) ?_))))))));rintro ⟨k,g⟩ ⟨o,l⟩;dsimp only at o l⊢;refine AD (AD (AF (ch Z Z (ch Z Z (J (BU Z F0 Z) (J (At Z Z Z) (AC (A5 Z (λf=>?_) (λf=>?_)))))))))
 .have a:k<S.length:=BF f;refine AU (AD (AX (AD (Bq [[],[],[0,1],[0,1,2],[],rg 5,rg 6] mixed Z (B2 ?_)))));have b:=u _ (ϑ a);have w:g.length<=1000:=by rw[l];unfold hY;rw[χ];have:=lE (λi=>decide (BO i r<0)) (S.take k);rw[η] at this;omega
  refine A7 6 Z Z (A7 7 Z Z (AK [17,18] Z (Al (k) Z Z (Z) (AP a) F0 Z CL Z) (AK [19] Z (CY Z Z F1 Z) (Ay [3] Z Z (λ_=>Aa (Ap Z Z Cf Z Z Z)) (BV 5 Z Z Z (A0 6 Z Z (J (Aj (E9 S[k] r b.1 b.2.1 b.2.2) Z Z) (AC ⟨Z,?_⟩))))))));refine A0 7 Z Z (J (At Z Z Z) (AC ⟨Z,?_⟩));refine Bb (A5 Z (λc=>?_) (λc=>?_))
  .refine AF (ch Z Z (ch Z Z (ch Z Z (J (Al (k) Z Z (Z) (AP a) F0 Z CL Z) (J (Gw Z QP Z Z Z) (J (BZ Z Z Ai Z) ?_))))));refine V (CF 3 Ao Z Z Z Z Z Z Z Z) (V (DN (g) ([S[k].id]) Z Z Z Z Z Z Z Z Ao (by simp only[ζ];omega) Z Z Z Z) (AB Z Z (AC (AF (ch Z Z (J (Ad Z Z (AJ (k+1) (by omega)) Z) (AB Z Z (AC ?_))))))));exact ⟨(k+1,_),⟨by show k+1<=_;omega,by show _=hY (S.take (k+1)) r;unfold hY;rw[cO a,ϱ (by simpa using c),jy,l];rfl⟩,by show S.length-(k+1)<S.length-k;omega,AR s [2,900] Z (Z) ⟨Z,Z,Z,Z,trivial⟩⟩
  .refine AU (AF (ch Z Z (J (Ad Z Z (AJ (k+1) (by omega)) Z) (AB Z Z (AC ?_)))));exact ⟨(k+1,_),⟨by show k+1<=_;omega,by show _=hY (S.take (k+1)) r;unfold hY;rw[cO a,ν (by simpa using c),kY,l];rfl⟩,by show S.length-(k+1)<S.length-k;omega,AR s [2,900] Z (Z) ⟨Z,Z,Z,Z,trivial⟩⟩
 .refine Aq (AD (Fb (emb:=AE) 5 900 g Z Z Z Z Z Z Z (AF (ch Z Z (AB Z Z (AC (A4 ?_)))))));exact ⟨_,[],[],A2 Z,Z,Z,by rw[l,θ (by have h:=f;omega)],Z⟩
theorem ic(l:List Fd)(b:l.length<=1000000):AI prog 86 [.d (.sl none (l.map Bd))] (.sl none (l.map Bd)):=by
 refine As func86 Z Z ntmps86 Z Z Z λF c=>(AD ?_);refine AF (AB Z Z (Zk 2 Z (AC (AD (AD (AF (ch Z Z (GF 3 Z (λa=>?_) ?_))))))))
 .refine J (Ep cB Z Z) (AC (CM Z (Z) (AD (AF (AB Z Z (Zk 2 Z (AC (A4 ?_))))))));exact ⟨_,[],[],A2 Z,Z,Z,by first | (rw[a];done) | (rw[a]),rfl⟩
 .refine J (Ep cB Z Z) (AC ?_);refine Cq Z (Z) (AU (AD (AF (V (CF 20 aV Z Z Z Z Z Z Z Z) (ch Z Z (V (Jr (([]:List Fd)) (l) Z Z Z Z Z Z (λ_=>rfl) aV (by simp only[lT];omega) Z Z Z Z) (W3 (emb:=Bd) 7 20 ([]++l) Z Z Z Z Z Z Z (AB Z Z ?_))))))));skip;refine AC (A4 ?_);exact ⟨_,[],[],A2 Z,Z,Z,Z,Z⟩
theorem ib(l:List NR)(b:l.length<=1000000):AI prog 87 [.d (.sl none (l.map Cy))] (.sl none (l.map Cy)):=by
 refine As func87 Z Z ntmps87 Z Z Z λF c=>(AD ?_);refine AF (AB Z Z (Zk 2 Z (AC (AD (AD (AF (ch Z Z (GF 3 Z (λa=>?_) ?_))))))))
 .refine J (Ep cX Z Z) (AC (CM Z (Z) (AD (AF (AB Z Z (Zk 2 Z (AC (A4 ?_))))))));exact ⟨_,[],[],A2 Z,Z,Z,by first | (rw[a];done) | (rw[a]),rfl⟩
 .refine J (Ep cX Z Z) (AC ?_);refine Cq Z (Z) (AU (AD (AF (V (CF 20 d7 Z Z Z Z Z Z Z Z) (ch Z Z (V (Jr (([]:List NR)) (l) Z Z Z Z Z Z (λ_=>rfl) d7 (by simp only[lT];omega) Z Z Z Z) (W3 (emb:=Cy) 7 20 ([]++l) Z Z Z Z Z Z Z (AB Z Z ?_))))))));skip;refine AC (A4 ?_);exact ⟨_,[],[],A2 Z,Z,Z,Z,Z⟩
theorem ie(l:List Int)(b:l.length<=1000000):AI prog 89 [.d (.sl none (l.map AE))] (.sl none (l.map AE)):=by
 refine As func89 Z Z ntmps89 Z Z Z λF c=>(AD ?_);refine AF (AB Z Z (Zk 2 Z (AC (AD (AD (AF (ch Z Z (GF 3 Z (λa=>?_) ?_))))))))
 .refine J (Ep E0 Z Z) (AC (CM Z (Z) (AD (AF (AB Z Z (Zk 2 Z (AC (A4 ?_))))))));exact ⟨_,[],[],A2 Z,Z,Z,by first | (rw[a];done) | (rw[a]),rfl⟩
 .refine J (Ep E0 Z Z) (AC ?_);refine Cq Z (Z) (AU (AD (AF (V (CF 20 Ao Z Z Z Z Z Z Z Z) (ch Z Z (V (Jr (([]:List Int)) (l) Z Z Z Z Z Z (λ_=>rfl) Ao (by simp only[lT];omega) Z Z Z Z) (W3 (emb:=AE) 7 20 ([]++l) Z Z Z Z Z Z Z (AB Z Z ?_))))))));skip;refine AC (A4 ?_);exact ⟨_,[],[],A2 Z,Z,Z,Z,Z⟩
theorem qH(i:cl)(c:i.po.length<=1000000)(b:i.pa.length<=1000000)(a:i.af.length<=1000000):AI prog 69 [.d (Ah i)] (Ah i):=by
 refine As func69 Z Z ntmps69 Z Z Z λF f=>(AD (AF (V (B7 1 Z Z Z Z Z Z Z) (V (CP 2 Fm Z Z Z Z) ?_))));refine AC (AD (Bq [[],[0],[0,1],[],[3],rg 5,[],[6],rg 8,[0,1,2,3,4,6,7],rg 10,rg 11,rg 12,rg 13,rg 14] mixed Z (B2 (AK [1] Z (AM Z JI Z Z Z) (A1 [3] [1] Z Z (λ_=>Aa (AQ Z Z Z au Z)) (AK [4] Z (Aj (ic i.po c) Z Z) (AK [1] Z (AM Z Kg Z Z Z) (A1 [6] [1] Z Z (λ_=>Aa (AQ Z Z Z fK Z)) ?_))))))));refine AK [7] Z (Aj (ib i.pa b) Z Z) (AK [1] Z (AM Z GN Z Z Z) (A1 [9] [1] Z Z (λ_=>Aa (AQ Z Z Z BL Z)) (AK [10] Z (Aj (ie i.af a) Z Z) (AK [1] Z (AM Z JI Z Z Z) (BV 10 Z Z Z (A0 11 Z Z (V (Bi Z Z Z Z Z Z Z v3) (AC ⟨Z,?_⟩))))))));refine A0 12 Z Z (J (AM Z Kg Z Z Z) (AC ⟨Z,?_⟩));refine A0 13 Z Z (V (Bi Z Z Z Z Z Z Z v1) (AC ⟨Z,?_⟩));refine A0 14 Z Z (J (AM Z GN Z Z Z) (AC ⟨Z,?_⟩));refine A0 15 Z Z (V (Bi Z Z Z Z Z Z Z DQ) (AC ⟨Z,?_⟩));refine Bb (AD (AF (J (Ap Z Z Cb Z Z Z) (V (Bi Z Z Z Z Z Z Z DP) (AC (A4 ?_))))));exact ⟨_,[],[],A2 Z,Z,Z,Z,Z⟩
theorem wc{a:Hp}{f:Nat}{o:AL}(h:dr a f=none)(b:Ux o=true:=by rfl):Ct a f o=some ((f,[o])::a):=by simp only[Ct,h,b]
theorem rk{b:Hp}{f:Nat}{x:List AL}:∀{a:List Nat},iB f a=false->Be ((f,x)::b) a=Be b a
 | [],_=>rfl
 | g::r,h=>by
  have i:Nat.beq f g=false:=by
   cases hb:Nat.beq f g with
   | false=>rfl
   | true=>
    have e:=ki hb;subst e
    simp[iB] at h
  have c:iB f r=false:=by
   cases hb:iB f r with
   | false=>rfl
   | true=>simp[iB,hb] at h
  simp only[Be];rw[rk c];simp only[dr,i]
theorem aL(l:List Nat):KQ l l=true:=by
 have b:∀(l m:List Nat),(∀x∈l,x∈m)->KQ l m=true:=λl=>by
  induction l with
  | nil=>intro m _;rfl
  | cons a r c=>intro m h;simp only[KQ,kO];exact ⟨Gc.2 (h a (by simp)),c m λx f=>h x (by simp[f])⟩
 grind
theorem Ei{step:o->a->o×Bool}{r:List a}:I0 step w (x::r)=if (step w x).2=true then I0 step (step w x).1 r else (step w x).1:=by grind[I0]
def encI(x:cl):List AV:=[.d (Ah x)]
section
variable{β:Type}
theorem ss(a:List cl)(y:a.length<=1000000)(l:Nat)(H:β->Hp)(N:List Nat)(step:β->cl->β×Bool)(b:β)(o:∀c,lV (H c)=N)(C:∀c,GK N (H c)=true)(v:∀c,Be (H c) N=some (H c))(B:∀c,A9 990 (H c)=some (H c))(z:∀c,dr (H c) 990=none)(A:iB 990 N=false)(u:Nt prog l encI H step b a):
  AO prog 164 [.d (.raw (D4 l)),.d (.ptr (.sl none (a.map Ah)))] (H b) λr E=>r= .tup []/\E=H (I0 step b a):=by
 refine As func164 Z Z ntmps164 Z Z Z λF D=>(AD (AF (J (BZ Z Z Mf Z) (J (BU Z Qs Z) (ch Z Z (AC (AX (FQ (α:=Nat×β) (λp=>⟨16,[(0,.d (.raw (D4 l))),(5,(.d (.sl none (a.map Ah)))),(6,(.d (AE (a.length:Int)))),(7,(.d (AE (p.1:Int))))],H p.2⟩) (λp=>p.1<=a.length/\Nt prog l encI H step p.2 (a.drop p.1)/\I0 step p.2 (a.drop p.1)=I0 step b a) (λp=>a.length-p.1) ((0,b)) (⟨κ _,u,Z⟩) (Zn ⟨Z,Z,Z,Z,trivial⟩) ?_))))))));rintro ⟨k,c⟩ ⟨t,i,f⟩;dsimp only at t i f⊢;refine AD (AF (J (At Z Z Z) (AC (AD (A5 Z (λx=>?_) (λx=>?_))))))
 .have s:k<a.length:=BF x;refine AU (AD (AX (AD (AF ?_))));have w:a.drop k=a[k]::a.drop (k+1):=mM s;rw[w] at i;refine J (Al (k) Z Z (Z) (AP s) Qs Z DP Z) (J (CY Z Z Cb Z) (V (CP 990 Fm Z (B _) (wc (z _)) Z) (V (Bi Z Z Z Z Z Z Z DP) (AC (AD ?_)))));refine AF (ch Z Z (J (Ap Z Z Cb Z Z Z) (tP [0,5,6,7,11,12] Z (tO N (D.trans (o b)) (aL N) ((rk A).trans (v _)) (fP i.1 Z Z (by rw[o,o]) (by rw[o];exact C _) Z Z (J (QX Z Z) (AC (KB Z (λj=>?_) (λj=>?_)))))))))
  .have g:(step c a[k]).2=false:=by simpa using j
   refine A4 ?_;exact ⟨_,N,_,A2 Z,v _,by rw[<-o b];exact FB _,Z,by rw[<-f,w,Ei,ν (by rw[g];decide)]⟩
  .have g:(step c a[k]).2=true:=by simpa using j
   refine AU (AF (J (Ad Z Z (AJ (k+1) (by omega)) Z) (ch Z Z (AC ?_))));exact ⟨(k+1,(step c a[k]).1),⟨by show k+1<=_;omega,i.2 g,by rw[<-f,w,Ei,ϱ g]⟩,by show a.length-(k+1)<a.length-k;omega,⟨Z,Z,λ_ _=>S3.get (l:=[(0,_),(5,_),(6,_),(7,_)]) ⟨Z,Z,Z,Z,trivial⟩⟩⟩
 .refine Aq ?_;exact ⟨_,N,_,A2 Z,v _,by rw[<-o b];exact FB _,Z,by rw[<-f,mx (by have h:=x;omega)];rfl⟩
end
variable{a:List cl}{M:MF}{c:Type}{f:List c}{g h:Nat->Nat}{i:List (AW×Int)}{j k o s:Nat}{t:cl}{u:List Nat}{w:List ey}{x:List AV}{y z:Nat}{T:TypeId}{A:c}{C:TypeId}{E:List D}{F:TypeId}{G:Hp}{H:AW}{I:Fr}{L:Type}{P:Au}
theorem SR.freezeB{s:AS}{H:Nat->Nat->Value}{y:Act}{w:World}(h:SR I s H y w)(t f:Nat)(g:D)(M:List Nat)(hF:I.pn=u)(ht:get s.env t=some (.ptr f 0 0))(K:dr s.hp f=some [.blk T x])(L:x=g.cells.map .d)(W:∀c∈g.cells,c.one=true)(hf:iB f M=false)(J:KQ u M=true)(C:Be s.hp M=some G):SR I ⟨s.n,(t,.d (.ptr g))::s.env,G⟩ H y w:=by
 have R:=h.only M hF J C;refine ⟨R.size,R.defs,λt' a Z=>?_,R.heap⟩;rcases NP Z with ⟨rfl,rfl⟩ | ⟨_,Z⟩
 .have hr:=h.env t _ ht;have P:cj s.hp f 0=some (.blk T x):=by simp[cj,K,gl,lO]
  obtain ⟨b,z,S,e2,e3,e4,e5⟩:=h.heap.sim f 0 _ P;show A8 _ _ _ _ (y.tmps.getD t undef)
  generalize y.tmps.getD t undef=v at hr
  cases hr with
  | @ptr _ _ _ E B=>
   rw[S] at B;injection B with B;injection B with B;injection B with B;subst B
   have hO:∀E,I.O H G E->I.O H s.hp E:=λE k=>k.imp id λ⟨r,O,V,i,U⟩=>by
    obtain ⟨N,_⟩:=Ea C;refine ⟨r,O,V,?_,U⟩;simp only[cj] at i⊢
    cases hh:dr G r with
    | none=>rw[hh] at i;cases i
    | some l=>rw[(N r l hh).2];rw[hh] at i;exact i
   have X:¬I.O H G b:=λk=>by
    rcases k with k | ⟨r,O,V,i,U⟩
    .exact h.heap.notOf ⟨f,0,_,P,by rw[S];rfl⟩ k
    .obtain ⟨N,_⟩:=Ea C;simp only[cj] at i
     cases hh:dr G r with
     | none=>rw[hh] at i;cases i
     | some l=>
      have q3:cj s.hp r O=some V:=by simp only[cj];rw[(N r l hh).2];rw[hh] at i;exact i
      obtain ⟨e1',_⟩:=h.heap.inj r O f 0 _ _ b q3 P U (by rw[S];rfl);have:=Gc.2 (N r l hh).1
      grind
   have A:z.length=g.cells.length:=by rw[e3,L,χ]
   refine .d (.ptr (λj=>z.getD j undef) (h.heap.ltO (.inr ⟨f,0,_,P,by rw[S];rfl⟩)) X W (λj c Q=>?_) (λj c Q=>?_))
   .have o:j<z.length:=by rw[A];exact (φ.1 Q).1
    rw[lU,cell_of_row w b j z.toArray T (0,0) e2]
    simp[o]
   .have o:j<z.length:=by rw[A];exact (φ.1 Q).1
    have Y:=e4 j (.d c) z[j] (by rw[L,ς,Q];rfl) (ω o);have hg:z.getD j undef=z[j]:=by simp[o]
    rw[hg]
    cases Y with
    | d Y=>exact Y.mono (Θ _) (λ_ _ _=>rfl) λE _=>hO E
 .exact R.env t' a Z
theorem Rb{P:Program}{Q:Exit->AS->Prop}{g:Array Oper}{z:List Oper}{y:Nat}{b:List (Nat×AV)}{r:Hp}(t f:Nat)(a:D)(k:List Nat)(H:I.pn=u)(B:get b t=some (.ptr f 0 0))(j:dr r f=some [.blk T x])(s:x=a.cells.map .d)(l:∀c∈a.cells,c.one=true)(E:iB f k=false)(i:KQ u k=true)(o:Be r k=some G)(h:An P I g z Q ⟨y,(t,.d (.ptr a))::b,G⟩):An P I g z Q ⟨y,b,r⟩:=λA v w C=>h A v w (C.freezeB t f a k H B j s l E i o)
theorem cd(a:List cl):AO prog 121 [.d (.sl none (a.map Ah))] [] λr g=>r= .fn 164 [.d (.ptr (.sl none (a.map Ah)))]/\g=[]:=by
 refine As func121 Z Z ntmps121 Z Z Z λF f=>(AD (AF (V (B7 1 Z Z Z Z Z Z Z) ?_)));refine AB Z Z (AC (AD (AF (Rb 1 1 (.sl none (a.map Ah)) [] f Z Z Z (by intro c b;simp[D.cells] at b;subst b;rfl) Z Z Z (J (uk Z Z) (AB Z Z (AC (A4 ?_))))))));exact ⟨_,[],[],A2 Z,Z,Z,Z,Z⟩
abbrev hV(q:List cl):Hp:=[(920,[.rowD 55 6 (q.map Ah)]),(1,[.blk 37 [.own 920 0 q.length]])]
def Y1(q:List cl)(x:cl):List cl×Bool:=(q++ [x],true)
theorem Vf:∀(l q:List cl),I0 Y1 q l=q++l
 | [],q=>by simp[I0]
 | x::l,q=>by rw[Ei];show (if true=true then I0 Y1 (q++ [x]) l else _)=_;rw[ϱ Z,Vf l];simp
theorem SD{P:Program}{l:Nat}{H:List cl->Hp}{n:Nat}(b:∀q x,q.length<n->Gu P l (encI x) (H q) λv c=>v= .d (.raw (.bool true))/\c=H (q++ [x])):∀(a q:List cl),q.length+a.length<=n->Nt P l encI H Y1 q a
 | [],_,_=>trivial
 | x::a,q,h=>⟨b q x (by simp at h;omega),λ_=>SD b a (q++ [x]) (by simp at h⊢;omega)⟩
theorem jD(a:List cl)(b:a.length<=1000000):AO prog 210 [.d (.sl (some true) []),.fn 164 [.d (.ptr (.sl none (a.map Ah)))]] [] λr g=>r= .own 920 0 a.length/\g=[(920,[.rowD 55 6 (a.map Ah)])]:=by
 refine QO func210 Z Z ntmps210 Z Z Z λF f c=>(AD (AF (V (B7 1 Z Z Z Z Z Z Z) ?_)));refine AB Z Z (AC (AD (AD (D0 1 0 0 920 Q1 Z Z Z Z Z Z Z (AF (ch Z Z (AC (AX ?_))))))));refine jO [2,6] Z ?_;refine Zi (γ:=Unit) c 900 Z Z Z Z Z [1,920] (CHr:=hV []) (λ_=>True) (λ_=>hV a) (λ_=> .ready) (λ_=>none) ⟨Z,Z,trivial⟩ Z Z Z (λ_=>rfl) (λ_=>rfl) Z (λ_ _=>by simp) (λ_ _=>⟨Z,Z⟩) [920,1] f Z Z (λ_ _=>rfl) (λl A B i h=>?_) (λ_ _=>?_)
 .refine (ss a b l (λq:List cl=>(900,[.loop ⟨l,13,[(2,.ptr 1 0 0),(6,.fn 164 [.d (.ptr (.sl none (a.map Ah)))])],.ready,none, #[7],A,B⟩])::hV q) [900,920,1] Y1 [] (λ_=>rfl) (λ_=>rfl) (λ_=>rfl) (λ_=>rfl) (λ_=>rfl) Z ?_).mono (λr g ⟨k,j⟩=>⟨k,(),trivial,by rw[j,Vf];rfl⟩);refine SD (n:=a.length) (λq x s=>?_) a [] (by simp);refine Tz (lf:=900) Z Z Z Z λF f o=>?_;show CK _ _ A _ _;rw[i];refine AF (V (CP 2 Fm Z Z Z Z) (V (Bi Z Z Z Z Z Z Z DP) (AC (⟨Z,_,_,Z,Z,Z,Z,?_⟩))));show CK _ _ B _ _;rw[h];refine AX (AF (J (AQ Z Z Z Mf Z) (J (Ap Z Z Cb Z Z Z) (V (CF 30 Q1 Z Z Z Z Z Z Z Z) (V (DN (q) ([x]) Z Z Z Z Z Z Z Z Q1 (by simp only[ζ];omega) Z Z Z Z) (V (Bi Z Z Z Z Z Z Z sg) (AC ?_)))))));exact ⟨none,_,_,[900,920,1],_,Z,Z,Z,Z,Z,Z,Z,Z⟩
 .refine AD (AF (J (AQ Z Z Z Mf Z) (AB Z Z (AC (A4 ?_)))));exact ⟨_,[920],_,A2 Z,Z,Z,Z,Z⟩
theorem lc(l:List cl)(x:cl):(Mo l x).Perm (x::l):=by
 induction l with
 | nil=>exact List.Perm.refl _
 | cons a l b=>
  grind[Mo]
theorem VY(h:a.Pairwise λc b=>¬Eb b c<0)(x:cl):(Mo a x).Pairwise λc b=>¬Eb b c<0:=by
 induction a with
 | nil=>simp[Mo]
 | cons c a k=>
  rw[lx] at h;simp only[Mo]
  split
  .rename_i g
   exact lx.2 ⟨λy i=>by have s:=g y i;have r:=EM.anti x y;omega,lx.2 h⟩
  .rename_i o
   refine lx.2 ⟨λy i=>?_,k h.2⟩;rcases jt.1 ((lc a x).mem_iff.1 i) with rfl | i
   .intro f;refine o λz j=>?_;rcases jt.1 j with rfl | j
    .exact f
    .have s:=h.1 z j;have r:=EM.anti c z
     by_cases e:Eb c z=0
     .have v:=EM.eqv c z y e;have u:=EM.anti c y;have t:=EM.anti z y;omega
     .exact EM.trans _ _ _ f (by omega)
   grind
theorem Js(l:List cl):(ea l).Perm l:=by
 induction l using cH with
 | h0=>exact List.Perm.refl _
 | h1 l x a=>
  grind[Fw,lc]
theorem Ku(l:List cl):(ea l).Pairwise λa b=>¬Eb b a<0:=by
 induction l using cH with
 | h0=>exact List.Pairwise.nil
 | h1 l x c=>rw[Fw];exact VY c x
theorem aq{a b:cl}(h:Eb a b=0):a.sq=b.sq:=by
 unfold Eb at h;simp only[BM] at h
 split at h
 .split at h
  .rename_i c;exact SO.1 c
  omega
 omega
theorem Qv(f:(a.map cl.sq).Nodup)(h:a.Pairwise λc b=>¬Eb b c<0):a.Pairwise λc b=>Eb c b<0:=by
 rw[List.Nodup,ky] at f;refine (h.and f).imp λ{c b} ⟨j,i⟩=>?_;have g:=EM.anti c b
 grind[aq]
theorem Sr{c f:List cl}(g:(c.map cl.sq).Nodup)(h:f.Perm c)(i:f.Pairwise λa b=>¬Eb b a<0):f=ea c:=
 sI (R:=λa b=>Eb a b<0) (λx=>by rw[EM.refl];omega) (λx y z=>EM.trans x y z) (Qv ((h.map _).nodup_iff.2 g) i) (Qv (((Js c).map _).nodup_iff.2 g) (Ku c)) λx=>by rw[h.mem_iff,(Js c).mem_iff]
theorem VU(x:cl):∃a,Ah x= .agg a:=⟨_,Z⟩
abbrev vh(its:List cl):AV:= .fn 164 [.d (.ptr (.sl none (its.map Ah)))]
theorem bj(a:List cl)(b:a.length<=1000000):AO prog 163 [vh a] [] λr c=>r= .own 920 0 a.length/\c=[(920,[.rowD 55 6 (a.map Ah)])]:=by
 refine As func163 Z Z ntmps163 Z Z Z λF f=>(AD (AF ?_));refine AB Z Z (AC (AD (AF (ch Z Z (V (FX (jD a b) Z [920] ⟨Z,trivial⟩ Z Z Z Z Z Z Z Z Z) (AB Z Z (AC (A4 ?_))))))));exact ⟨_,[920],_,A2 Z,Z,Z,Z,Z⟩
theorem aR(a:List cl)(b:a.length<=1000000)(c:(a.map cl.sq).Nodup):AI prog 120 [vh a,.d (.raw (.func (.func 122) #[] #[]))] (.sl none ((ea a).map Ah)):=by
 refine As func120 Z Z ntmps120 Z Z Z λF i=>(AD (AF (AB Z Z (AC (AD ?_)))));refine AF (ch Z Z (V (FX (bj a b) Z [920] ⟨Z,trivial⟩ Z Z Z Z Z Z Z Z Z) (AB Z Z (AC (AD (AF (ch Z Z (ch Z Z ?_))))))));refine V (OJ ry (k:=6) (by decide) isAgg55 sizeOf55 func122 Z Z VU Eb EM.swo a (ea a) (by omega) (λx _ y _=>Yi x y) (λh g f=>Sr c g f) Z Z Z NB Z Z Z Z Z) (AC (AD (Fb (emb:=Ah) 5 920 (ea a) Z Z Z (Nr a).symm Z Z Z (AF (ch Z Z (AB Z Z (AC (A4 ?_))))))));exact ⟨_,[],[],A2 Z,Z,Z,Z,Z⟩
theorem JB(h:FK a=0):(a.map cl.sq).Nodup:=by
 have f:=Tu.1 h;rw[List.Nodup,ky,l4];intro i j g b c e;have:=f j (Ω.2 b)
 grind[K8,Gi]
theorem IL{p:hU}(h:Ac p=0):D7 p.ro=0/\FK p.it=0/\QN p.it=0:=by
 unfold Ac at h
 split at h; · cases h
 have a:=JE h
 simp_all
def hJ(p:hU):List cl:=if Ac p=0 then ea p.it else []
theorem Ma(p:hU)(f:Ek p):AI prog 68 [.d (BG p)] (.sl none ((hJ p).map Ah)):=by
 have a:=EL p f;obtain ⟨_,h,_⟩:=f
 by_cases b:Ac p=0
 rw[b] at a;have c:hJ p=ea p.it:=ϱ b;rw[c];refine As func68 Z Z ntmps68 Z Z Z λF g=>(AD (AF (V (B7 1 Z Z Z Z Z Z Z) ?_)));refine AB Z Z (AC (AD (AD (AF (J (Ap Z Z Bp Z Z Z) (J (Aj (a) Z Z) (J (DJ Z Z Z) (AC ?_))))))));refine Cq Z ((by decide)) (AU (AD (AF (J (AM Z FN Z Z Z) (J (AQ Z Z Z Mf Z) (V (FX (cd p.it) Z [] trivial Z Z Z Z Z Z Z Z Z) (J (Aj (aR p.it (by omega) (JB (IL b).2.1)) Z Z) (AB Z Z ?_))))))))
 rotate_left
 have c:hJ p=[]:=ν b;rw[c];refine As func68 Z Z ntmps68 Z Z Z λF g=>?_;refine AD (AF (V (B7 1 Z Z Z Z Z Z Z) (AB Z Z (Zk 2 Z (AC (AD (AD (AF ?_))))))));refine J (Ap Z Z Bp Z Z Z) (J (Aj (a) Z Z) (J (DJ Z Z Z) (AC (CM Z ((by simpa using b)) (AD (AF (AB Z Z (Zk 2 Z ?_))))))))
 all_goals
  refine AC (A4 ?_);exact ⟨_,[],[],A2 Z,Z,Z,Z,Z⟩
theorem DW(p:hU):(hJ p).length<=p.it.length:=by unfold hJ;split<;>simp[Nr]
theorem Ip{p:hU}(h:t∈hJ p):t∈p.it:=by grind[hJ,Js]
theorem Io(p:hU)(l:Ek p):AI prog 33 [.d (BG p)] (.sl none (((hJ p).map cl.id).map AE)):=by
 have c:=Ma p l;have f:=DW p;have r:=l.2.1
 obtain ⟨S,t⟩:∃S,hJ p=S:=⟨_,Z⟩
 rw[t] at c f⊢;refine As func33 Z Z ntmps33 Z Z Z λF o=>(AD (AF ?_));refine V (B7 1 Z Z Z Z Z Z Z) (AB Z Z (AC (AD (AF (AB Z Z (AC (AD (AD ?_))))))));refine IU 3 900 Ao Z Z Z Z (AF (J (Ap Z Z Bp Z Z Z) (J (Aj (c) Z Z) (J (BU Z Qs Z) (ch Z Z (AC (AX (BC (α:=Nat×List Int) (λq=>⟨20,[(3,(.own 900 0 q.2.length)),(7,(.d (.sl none (S.map Ah)))),(8,(.d (AE (S.length:Int)))),(9,(.d (AE (q.1:Int))))],[(900,[.rowD 3 1 (q.2.map AE)])]⟩) (λq=>q.1<=S.length/\q.2=(S.take q.1).map cl.id) (λq=>S.length-q.1) ((0,[])) (⟨κ _,Z⟩) (AR o [900] Z Z ⟨Z,Z,Z,Z,trivial⟩) ?_))))))));rintro ⟨k,b⟩ ⟨j,i⟩;dsimp only at j i⊢;refine AD (AF (J (At Z Z Z) (AC (AD (A5 Z (λa=>?_) (λa=>?_))))))
 .have g:k<S.length:=BF a;refine AU (AD (AX (AD (AF ?_))));have s:b.length<=100000:=by rw[i,χ,η];omega
  refine J (Al (k) Z Z (Z) (AP g) Qs Z DP Z) (J (CY Z Z Cb Z) (V (CP 2 Fm Z Z Z Z) (V (Bi Z Z Z Z Z Z Z DP) (AC (AF (ch Z Z (J (AM Z QW Z Z Z) ?_)))))));refine J (AQ Z Z Z Ai Z) (V (CF 3 Ao Z Z Z Z Z Z Z Z) (V (DN (b) ([S[k].id]) Z Z Z Z Z Z Z Z Ao (by simp only[ζ];omega) Z Z Z Z) (AB Z Z (AC (AF (J (Ad Z Z (AJ (k+1) (by omega)) Z) (ch Z Z (AC ?_))))))));exact ⟨(k+1,_),⟨by show k+1<=_;omega,by show _=(S.take (k+1)).map cl.id;rw[EB g,<-i]⟩,by show S.length-(k+1)<S.length-k;omega,AR o [900] Z (Z) ⟨Z,Z,Z,Z,trivial⟩⟩
 .refine Aq (AD (Fb (emb:=AE) 3 900 b Z Z Z Z Z Z Z (AF (ch Z Z (AB Z Z (AC (A4 ?_)))))));exact ⟨_,[],[],A2 Z,Z,Z,by rw[i,θ (by have h:=a;omega)],Z⟩
theorem oO(p:hU)(r:AW)(t:Ek p):AI prog 173 [.d (BG p),.d (Bm r)] (.sl none ((hY (hJ p) r).map AE)):=by
 have j:=Ma p t;have l:=DW p;have x:=t.2.1;have b:∀i∈hJ p,i.po.length<=100000/\i.pa.length<=100000/\i.af.length<=100000:=λi v=>t.2.2 i (Ip v)
 obtain ⟨S,z⟩:∃S,hJ p=S:=⟨_,Z⟩
 rw[z] at j l b⊢;refine As func173 Z Z ntmps173 Z Z Z λF u=>(AD (AF (V (B7 1 Z Z Z Z Z Z Z) ?_)));refine V (B7 2 Z Z Z Z Z Z Z) (AB Z Z (AC (AD (AF (AB Z Z (AC (AD (AD ?_))))))));refine IU 5 900 Ao Z Z Z Z (AF (J (Ap Z Z Bp Z Z Z) (J (Aj (j) Z Z) (J (BU Z Qs Z) (ch Z Z (AC (AX (BC (α:=Nat×List Int) (λq=>⟨26,[(3,(.ptr 2 0 0)),(5,(.own 900 0 q.2.length)),(9,(.d (.sl none (S.map Ah)))),(10,(.d (AE (S.length:Int)))),(11,(.d (AE (q.1:Int))))],[(2,[.blk 64 [.d (AE r.k),.d (Ak r.acc.o),.d (AE r.acc.k),.d (Ak r.acc.a),.d (Ak r.f),.d (Ak r.t)]]),(900,[.rowD 3 1 (q.2.map AE)])]⟩) (λq=>q.1<=S.length/\q.2=hY (S.take q.1) r) (λq=>S.length-q.1) ((0,[])) (⟨κ _,Z⟩) (AR u [2,900] Z Z ⟨Z,Z,Z,Z,Z,trivial⟩) ?_))))))));rintro ⟨k,g⟩ ⟨s,o⟩;dsimp only at s o⊢;refine AD (AF (J (At Z Z Z) (AC (AD (A5 Z (λf=>?_) (λf=>?_))))))
 .have a:k<S.length:=BF f;refine AU (AD (AX (AD (AF ?_))));have w:=b _ (ϑ a);have y:g.length<=100000:=by rw[o];unfold hY;rw[χ];have:=lE (λi=>decide (BO i r<0)) (S.take k);rw[η] at this;omega
  refine J (Al (k) Z Z (Z) (AP a) Qs Z DP Z) (J (CY Z Z Cb Z) (V (CP 3 Fm Z Z Z Z) (V (Bi Z Z Z Z Z Z Z DP) ?_)));refine AC (AD (AF (J (Ap Z Z Cb Z Z Z) (J (Ap Z Z Cw Z Z Z) (J (Aj (Z5 S[k] r (by omega) (by omega) (by omega)) Z Z) (J (At Z Z Z) (AC (A5 Z (λc=>?_) (λc=>?_)))))))))
  .refine AF (ch Z Z (J (AM Z QW Z Z Z) ?_));refine J (AQ Z Z Z Ai Z) (V (CF 4 Ao Z Z Z Z Z Z Z Z) (V (DN (g) ([S[k].id]) Z Z Z Z Z Z Z Z Ao (by simp only[ζ];omega) Z Z Z Z) (AB Z Z (AC (AF (J (Ad Z Z (AJ (k+1) (by omega)) Z) (ch Z Z (AC ?_))))))));exact ⟨(k+1,_),⟨by show k+1<=_;omega,by show _=hY (S.take (k+1)) r;unfold hY;rw[cO a,ϱ (by simpa using c),jy,o];rfl⟩,by show S.length-(k+1)<S.length-k;omega,AR u [2,900] Z (Z) ⟨Z,Z,Z,Z,Z,trivial⟩⟩
  .refine AU (AF (J (Ad Z Z (AJ (k+1) (by omega)) Z) (ch Z Z (AC ?_))));exact ⟨(k+1,_),⟨by show k+1<=_;omega,by show _=hY (S.take (k+1)) r;unfold hY;rw[cO a,ν (by simpa using c),kY,o];rfl⟩,by show S.length-(k+1)<S.length-k;omega,AR u [2,900] Z (Z) ⟨Z,Z,Z,Z,Z,trivial⟩⟩
 .refine Aq (AD (Fb (emb:=AE) 5 900 g Z Z Z Z Z Z Z (AF (ch Z Z (AB Z Z (AC (A4 ?_)))))));exact ⟨_,[],[],A2 Z,Z,Z,by rw[o,θ (by have h:=f;omega)],Z⟩
def Pb(l:List cl)(id:Int):cl×Bool:=match l.find? λx=>decide (x.id=id) with
 | some x=>(x,true)
 | none=>(ek,false)
theorem VV{id:Int}(b:y<a.length)(c:id∉(a.take y).map cl.id)(h:a[y].id=id):Pb a id=(a[y],true):=by
 have:a.find? (λx=>decide (x.id=id))=some a[y]:=by
  grind[List.find?_eq_some_iff_getElem,Gi]
 unfold Pb;rw[this]
theorem gS{id:Int}(h:id∉a.map cl.id):Pb a id=(ek,false):=by grind[Pb]
theorem bU:∀w O v,AZ w O (.agg [AE 0,AE 0,AE 0,.sl (some true) [],.sl (some true) [],.sl (some true) []]) v->AZ w O (Ah ek) v:=λw O v h=>h.aggMono Z (by simp[D.one]) λi c g b a v f=>by
 match i,b,a with
 | 0,b,a=>injection b with b;injection a with a;subst b a;exact f
 | 1,b,a=>injection b with b;injection a with a;subst b a;exact f
 | 2,b,a=>injection b with b;injection a with a;subst b a;exact f
 | 3,b,a=>injection b with b;injection a with a;subst b a;exact f.anyNil
 | 4,b,a=>injection b with b;injection a with a;subst b a;exact f.anyNil
 | 5,b,a=>injection b with b;injection a with a;subst b a;exact f.anyNil
theorem tq(p:hU)(id:Int)(o:Ek p):AI prog 24 [.d (BG p),.d (AE id)] (.tup [Ah (Pb (hJ p) id).1,Am (Pb (hJ p) id).2]):=by
 have g:=Ma p o;have j:=DW p;have v:=o.2.1;have b:∀i∈hJ p,i.po.length<=100000/\i.pa.length<=100000/\i.af.length<=100000:=λi t=>o.2.2 i (Ip t)
 obtain ⟨S,w⟩:∃S,hJ p=S:=⟨_,Z⟩
 rw[w] at g j b⊢;refine As func24 Z Z ntmps24 Z Z Z λF r=>(AD (AF (V (B7 1 Z Z Z Z Z Z Z) (V (CP 2 Fm Z Z Z Z) (AB Z Z (AC (AD ?_)))))));refine AD (AF (J (Ap Z Z Bp Z Z Z) (J (Aj (g) Z Z) (J (BU Z Qs Z) (ch Z Z (AC (AX (BC (α:=Nat) (λk=>⟨23,[(1,.d (AE id)),(4,(.ptr 2 0 0)),(9,(.d (.sl none (S.map Ah)))),(10,(.d (AE (S.length:Int)))),(11,(.d (AE (k:Int))))],[(2,[.blk 55 [.d (AE 0),.d (AE 0),.d (AE 0),Gh,Gh,Gh]])]⟩) (λk=>k<=S.length/\id∉(S.take k).map cl.id) (λk=>S.length-k) (0) (⟨κ _,by simp⟩) (AR r [2] Z Z ⟨Z,Z,Z,Z,Z,trivial⟩) ?_))))))));rintro k ⟨s,l⟩;refine AD (AF (J (At Z Z Z) (AC (AD (A5 Z (λf=>?_) (λf=>?_))))))
 .have a:k<S.length:=BF f;refine AU (AD (AX (AD (AF ?_))));have u:=b _ (ϑ a);refine J (Al (k) Z Z (Z) (AP a) Qs Z DP Z) (J (CY Z Z Cb Z) (V (CP 3 Fm Z Z Z Z) (V (Bi Z Z Z Z Z Z Z DP) ?_)));refine AC (AD (AF (J (AM Z QW Z Z Z) (J (AQ Z Z Z Ai Z) (ch Z Z (J (Fa Z Z Z) (AC (A5 Z (λc=>?_) (λc=>?_)))))))))
  .refine AD (AF (J (Ap Z Z Cb Z Z Z) (J (Aj (qH S[k] (by omega) (by omega) (by omega)) Z Z) (V (Bi Z Z Z Z Z Z Z DP) (AB Z Z (AC (A4 ?_)))))));exact ⟨_,[],[],A2 Z,Z,Z,by rw[VV a l c],Z⟩
  .refine AU (AF (J (Ad Z Z (AJ (k+1) (by omega)) Z) (ch Z Z (AC ?_))));exact ⟨k+1,⟨by show k+1<=_;omega,HR a l c⟩,by show S.length-(k+1)<S.length-k;omega,AR r [2] Z (Z) ⟨Z,Z,Z,Z,Z,trivial⟩⟩
 .refine Aq (AD (AF (J (Dz Fm tE Z Z Z) (Ys 22 (Ah ek) Z bU (V (Bi Z Z Z Z Z Z Z DP) (AB Z Z (AC (A4 ?_))))))));exact ⟨_,[],[],A2 Z,Z,Z,by rw[gS (by rw[θ (by have h:=f;omega)] at l;exact l)],Z⟩
theorem OX(i:(a.map cl.id).Nodup){x y:cl}(c:x∈a)(g:y∈a)(h:x.id=y.id):x=y:=by
 induction a with
 | nil=>cases c
 | cons b a f=>
  grind
theorem YE(h:FK a=0):(a.map cl.id).Nodup:=by
 have f:=Tu.1 h;rw[List.Nodup,ky,l4];intro i j g b c e;have:=f j (Ω.2 b)
 grind[K8,Gi]
theorem wJ(p:hU)(h:xC p):AI prog 13 [.d (BG p)] (BG p):=by
 obtain ⟨y,x,w⟩:=h;refine As func13 Z Z ntmps13 Z Z Z λF l=>(AD (AF (V (B7 1 Z Z Z Z Z Z Z) (V (CP 2 sW Z Z Z Z) (AC (AD (AF (V (CP 3 sW Z Z Z Z) ?_))))))));refine AC (AD (AD (D0 3 0 0 901 Se Z Z Z Z Z Z Z (AF (AB Z Z (AC (AX (BC (α:=List ey) (λb=>⟨51,[(1,(.ptr 1 0 0)),(2,(.ptr 2 0 0)),(3,(.ptr 3 0 0)),(4,(.d (AE (b.length:Int))))],[(901,[.rowD 88 7 (b.map BY)]),(1,[B3 25 p]),(2,[.blk 39 [Gh,Gh]]),(3,[.blk 39 [.own 901 0 b.length,Gh]])]⟩) (λb=>b=p.ro.take b.length/\b.length<=p.ro.length) (λb=>p.ro.length-b.length) ([]) (⟨by simp,κ _⟩) (AR l [901,1,2,3] Z Z ⟨Z,Z,Z,Z,trivial⟩) ?_))))))));rintro b ⟨s,u⟩;refine AD ?_;refine AD (AF (ch Z Z (J (AM Z MD Z Z Z) (J (AQ Z Z Z E3 Z) (J (BU Z No Z) (J (At Z Z Z) (AC (A5 Z (λj=>?_) (λj=>?_)))))))))
 .have f:b.length<p.ro.length:=BF j;refine AU (AD (AX (Bq [[],[0],[],[2],[],[2,3,4],[2,3,4,5],[2,3,4,5,6],[2,3,4,5,6,7],[],[9],[],[9,10,11],[9,10,11,12],[9,10,11,12,13],[2,3,4,5,6,7,8,9,10,11,12,13,14],[2,3,4,5,6,7,8,9,10,11,12,13,14,15],rg 17,rg 18,rg 19] mixed Z (B2 (AK [3] Z (AM Z Gp Z Z Z) (Ay [13] Z Z (λ_=>Aa (AQ Z Z Z Uo Z)) (AK [1] Z (AM Z MD Z Z Z) ?_)))))));refine Ay [15] Z Z (λ_=>Aa (AQ Z Z Z E3 Z)) (A7 4 Z Z (AK [16,17] Z (Al (b.length) Z Z (Z) (AP f) No Z Bc Z) (AK [18] Z (KL Z Qh Z Z Z) (AK [19] Z (CY Z Z Cf Z) (AK [20] Z (Aj (fA p.ro[b.length].r) Z Z) (AK [1] Z (AM Z MD Z Z Z) (Ay [22] Z Z (λ_=>Aa (AQ Z Z Z E3 Z)) (A7 4 Z Z ?_))))))));refine AK [23,24] Z (Al (b.length) Z Z (Z) (AP f) No Z Bc Z) (AK [25] Z (Gw Z Jn Z Z Z) (AK [26] Z (BZ Z Z FJ Z) (AK [21,27] Z (Dz Tx tD Z Z Z) (Cv [28] [50] [(29,_)] Z Z (λ_=>Cg (CF 50 Se Z Z Z Z Z Z Z Z)) (.inr ⟨29,_,Z,Z,Z,Z,Z⟩) Z Z Z Z Z (BV 17 Z Z Z (A0 18 Z Z (V (DN (b) ([p.ro[b.length]]) Z Z Z Z Z Z Z Z Se (by simp only[ζ];omega) Z Z Z Z) (AC ⟨Z,?_⟩))))))));refine A0 19 Z Z (J (AM Z Gp Z Z Z) (AC ⟨Z,?_⟩));refine A0 20 Z Z (V (Bi Z Z Z Z Z Z Z v5) (AC ⟨Z,?_⟩));refine Bb (AF (ch Z Z (J (Ad Z Z (UA b p.ro[b.length] (by omega)) Z) (AB Z Z (AC ?_)))));exact ⟨b++ [p.ro[b.length]],⟨OH s f,by rw[Δ];show b.length+1<=_;omega⟩,by rw[Δ];show p.ro.length-(b.length+1)<p.ro.length-b.length;omega,AR l [901,1,2,3] Z (Z) ⟨Z,Z,Z,Z,trivial⟩⟩
 .refine Aq (AD (AD ?_));have k:=S8 s (λh=>j (by omega));refine qe (ys:=p.ro.map BY) 3 0 0 901 Z Z Z (by simp) (by rw[k];exact θ (by simp)) Z Z Z Z Z Z (D0 3 0 1 902 Q1 Z Z Z Z Z Z Z (AF (AB Z Z (AC (AX (BC (α:=List cl) (λa=>⟨51,[(1,(.ptr 1 0 0)),(2,(.ptr 2 0 0)),(3,(.ptr 3 0 0)),(5,(.d (AE (a.length:Int))))],[(902,[.rowD 55 6 (a.map Ah)]),(1,[B3 25 p]),(2,[.blk 39 [Gh,Gh]]),(3,[.blk 39 [.d (.sl none (p.ro.map BY)),.own 902 0 a.length]])]⟩) (λa=>a=p.it.take a.length/\a.length<=p.it.length) (λa=>p.it.length-a.length) ([]) (⟨by simp,κ _⟩) (AR l [902,1,2,3] Z Z ⟨Z,Z,Z,Z,trivial⟩) ?_))))));rintro a ⟨o,t⟩;refine AD ?_;refine AD (AF (ch Z Z (J (AM Z I7 Z Z Z) (J (AQ Z Z Z Cz Z) (J (BU Z F0 Z) (J (At Z Z Z) (AC (A5 Z (λi=>?_) (λi=>?_)))))))))
  .have c:a.length<p.it.length:=BF i;refine AU ?_;refine AD (AX (Bq [[],[0],[],[2],[],[2,3,4],[2,3,4,5],[2,3,4,5,6],[2,3,4,5,6,7],rg 9,rg 10,rg 11] mixed Z (B2 (AK [3] Z (AM Z FN Z Z Z) (Ay [39] Z Z (λ_=>Aa (AQ Z Z Z Mf Z)) (AK [1] Z (AM Z I7 Z Z Z) (Ay [41] Z Z (λ_=>Aa (AQ Z Z Z Cz Z)) (A7 5 Z Z ?_))))))));have v:=w _ (ϑ c);refine AK [42,43] Z (Al (a.length) Z Z (Z) (AP c) F0 Z CL Z) (AK [44] Z (CY Z Z F1 Z) (AK [45] Z (Aj (am p.it[a.length] (by omega) (by omega) (by omega)) Z Z) (Cv [46] [51] [(47,_)] Z Z (λ_=>Cg (CF 51 Q1 Z Z Z Z Z Z Z Z)) (.inr ⟨47,_,Z,Z,Z,Z,Z⟩) Z Z Z Z Z (BV 9 Z Z Z (A0 10 Z Z (V (DN (a) ([p.it[a.length]]) Z Z Z Z Z Z Z Z Q1 (by simp only[ζ];omega) Z Z Z Z) (AC ⟨Z,?_⟩)))))));refine A0 11 Z Z (J (AM Z FN Z Z Z) (AC ⟨Z,?_⟩));refine A0 12 Z Z (V (Bi Z Z Z Z Z Z Z sg) (AC ⟨Z,?_⟩));refine Bb (AF (ch Z Z (J (Ad Z Z (UA a p.it[a.length] (by omega)) Z) (AB Z Z (AC ?_)))));exact ⟨a++ [p.it[a.length]],⟨OH o c,by rw[Δ];show a.length+1<=_;omega⟩,by rw[Δ];show p.it.length-(a.length+1)<p.it.length-a.length;omega,AR l [902,1,2,3] Z (Z) ⟨Z,Z,Z,Z,trivial⟩⟩
  .refine Aq (AD ?_);have g:=S8 o (λh=>i (by omega));refine qe (ys:=p.it.map Ah) 3 0 1 902 Z Z Z (by simp) (by rw[g];exact θ (by simp)) Z Z Z Z Z Z (AF (J (Ap Z Z Bp Z Z Z) (V (Bi Z Z Z Z Z Z Z xU) (AC (A4 ?_)))));exact ⟨_,[],[],A2 Z,Z,Z,Z,Z⟩
def IT(ids l:List Int)(k:Nat):Int:=if l.getD k 0∉ids then 9 else if l.getD k 0∈l.take k then 7 else 0
def Sh(ids l:List Int):Int:=BM ((List.range l.length).map (IT ids l))
def EX(p:hU)(l:List Int):Int:=if Ac p≠0 then Ac p else Sh (p.it.map cl.id) l
theorem Sg{a l:List Int}(h:Sh a l=0):l.Nodup/\∀x∈l,x∈a:=by
 have c:=Tu.1 h;refine ⟨l4.2 λi j k b g e=>?_,λx f=>?_⟩
 .have:=c j (Ω.2 b)
  grind[IT,mz]
 .obtain ⟨j,b,rfl⟩:=kh f;have:=c j (Ω.2 b)
  grind[IT]
theorem Xp(p:hU)(l:List Int)(C:Ek p)(H:l.length<=100000)(w:EX p l≠0):AI prog 159 [.d (BG p),.d (.sl none (l.map AE))] (.tup [.raw (.map none),AE (EX p l)]):=by
 have c:=EL p C;have E:=C.2.1
 by_cases t:Ac p=0
 .have o:=YE (IL t).2.1;rw[t] at c;have y:EX p l=Sh (p.it.map cl.id) l:=ν (λh=>h t);rw[y] at w⊢
  obtain ⟨G,s⟩:∃e,Sh (p.it.map cl.id) l=e:=⟨_,Z⟩
  rw[s] at w⊢;refine As func159 Z Z ntmps159 Z Z Z λF r=>(AD (AF (V (B7 1 Z Z Z Z Z Z Z) (AB Z Z (AB Z Z (AC (AD (AD ?_))))))));refine AF (J (Ap Z Z Bp Z Z Z) (J (Aj (c) Z Z) (AB Z Z (AC (AD (AF (ch Z Z (J (DJ Z Z Z) ?_))))))));refine AC (Cq Z ((by decide)) (AU (AD (AF (V (S2 2 Z Z Z Z) (AB Z Z (AC (AD ?_))))))));refine AD (AF (J (AM Z FN Z Z Z) (J (AQ Z Z Z Mf Z) (J (BU Z Qs Z) (ch Z Z (AC (AX (BC (α:=Nat) (λk=>⟨50,[(1,.d (.sl none (l.map AE))),(7,(.map 2 0)),(20,(.d (.sl none (p.it.map Ah)))),(21,(.d (AE (p.it.length:Int)))),(22,(.d (AE (k:Int))))],[(2,[B5 AE Am (Av ((p.it.take k).map cl.id))])]⟩) (λk=>k<=p.it.length) (λk=>p.it.length-k) (0) (κ _) (AR r [2] Z Z ⟨Z,Z,Z,Z,Z,trivial⟩) ?_))))))));rintro k v;refine AD (AF (J (At Z Z Z) (AC (AD (A5 Z (λi=>?_) (λi=>?_))))))
  .have a:k<p.it.length:=BF i;refine AU (AD (AX (AD (AF ?_))));have u:p.it[k].id∉(p.it.take k).map cl.id:=λh=>by rw[List.Nodup,ky,l4] at o;obtain ⟨x,D,e⟩:=Γ.1 h;obtain ⟨j,I,rfl⟩:=mz.1 D;exact o j k (by omega) a (by omega) e
   refine J (Al (k) Z Z (Z) (AP a) Qs Z DP Z) (J (CY Z Z Cb Z) (V (CP 3 Fm Z Z Z Z) (V (Bi Z Z Z Z Z Z Z DP) (AC (AF ?_)))));refine ch Z Z (J (AM Z QW Z Z Z) (J (AQ Z Z Z Ai Z) (V (Wf (Av ((p.it.take k).map cl.id)) (p.it[k].id) (true) Z Z Z FU I6 Z Z) (AC (AF (J (Ad Z Z (AJ (k+1) (by omega)) Z) (ch Z Z (AC ?_))))))));exact ⟨k+1,by show k+1<=_;omega,by show p.it.length-(k+1)<p.it.length-k;omega,AR r [2] Z (by rw[EB a,<-jT u];rfl) ⟨Z,Z,Z,Z,Z,trivial⟩⟩
  .refine Aq (AD ?_);rw[θ (show p.it.length<=k by have h:=i;omega)];refine AF (V (S2 4 Z Z Z Z) (AB Z Z (AC ?_)));refine AD (AD (AF (ch Z Z (J (BU Z E0 Z) (ch Z Z (AC (AX (BC (α:=Nat) (λk=>⟨50,[(7,(.map 2 0)),(10,(.map 4 0)),(31,(.d (.sl none (l.map AE)))),(32,(.d (AE (l.length:Int)))),(33,(.d (AE (k:Int))))],[(2,[B5 AE Am (Av (p.it.map cl.id))]),(4,[B5 AE Am (Av (l.take k))])]⟩) (λk=>k<=l.length/\G=BM (((List.range l.length).drop k).map (IT (p.it.map cl.id) l))) (λk=>l.length-k) (0) (⟨κ _,s.symm⟩) (AR r [2,4] Z Z ⟨Z,Z,Z,Z,Z,trivial⟩) ?_))))))));rintro k ⟨v,B⟩;refine AD (AF (J (At Z Z Z) (AC (AD (A5 Z (λg=>?_) (λg=>?_))))))
   .have a:k<l.length:=BF g;refine AU (AD (AX (AD (AF ?_))));have f:=sK a B;have b:=Dy 0 a;refine J (Al (k) Z Z (Z) (AP a) E0 Z BK Z) (J (BZ Z Z Ai Z) ?_);refine AB Z Z (AC (AD (AX (AD (AF (ch Z Z (ch Z Z (J (I8 (Av (p.it.map cl.id)) (l[k]) (false) _ Z Z Z FU I6 W8 Z Z) ?_))))))));rw[Zl];refine J (Jq Z Z) (AB Z Z (AC (A5 Z (λA=>?_) (λA=>?_))))
    .refine AD (AF (AB Z Z (AB Z Z (AC (A4 ?_)))));exact ⟨_,[],[],A2 Z,Z,Z,by rw[f.2 9 (by unfold IT;rw[b,ϱ (by simp_all)]) (by decide)],Z⟩
    .refine AD (AF (ch Z Z (ch Z Z (J (I8 (Av (l.take k)) (l[k]) (false) _ Z Z Z FU I6 W8 Z Z) ?_))));rw[Zl];refine AB Z Z (AC (A5 Z (λz=>?_) (λz=>?_)))
     .refine AD (AF (AB Z Z (AB Z Z (AC (A4 ?_)))));exact ⟨_,[],[],A2 Z,Z,Z,by rw[f.2 7 (by unfold IT;rw[b,ν (by simp_all),ϱ (by simp_all)]) (by decide)],Z⟩
     .refine AU ?_;refine AF (ch Z Z (ch Z Z (V (Wf (Av (l.take k)) (l[k]) (true) Z Z Z FU I6 Z Z) (AC (AF (J (Ad Z Z (AJ (k+1) (by omega)) Z) (ch Z Z (AC ?_))))))));exact ⟨k+1,⟨by show k+1<=_;omega,f.1 (by unfold IT;rw[b,ν (by simp_all),ν (by simp_all)])⟩,by show l.length-(k+1)<l.length-k;omega,AR r [2,4] Z (by rw[ψ a,<-jT (by simp_all)];rfl) ⟨Z,Z,Z,Z,Z,trivial⟩⟩
   .refine Aq (AD (AF (ch Z Z (AB Z Z (AB Z Z (AC (A4 ?_)))))));exact absurd (by rw[B,mx (by have h:=g;simp only[kp];omega)];rfl) w
 .have y:EX p l=Ac p:=ϱ t;rw[y];refine As func159 Z Z ntmps159 Z Z Z λF r=>(AD (AF (V (B7 1 Z Z Z Z Z Z Z) (AB Z Z (AB Z Z (AC (AD (AD ?_))))))));refine AF (J (Ap Z Z Bp Z Z Z) (J (Aj (c) Z Z) (AB Z Z (AC (AD (AF (ch Z Z (J (DJ Z Z Z) ?_))))))));refine AC (CM Z ((Υ t)) (AD (AF (ch Z Z (AB Z Z (AB Z Z (AC (A4 ?_))))))));exact ⟨_,[],[],A2 Z,Z,Z,Z,Z⟩
theorem bo(p:hU)(l:List Int)(A:Ek p)(K:l.length<=100000)(c:EX p l=0):AO prog 159 [.d (BG p),.d (.sl none (l.map AE))] [] λr H=>r= .tup [.map 4 0,.d (AE 0)]/\H=[(4,[B5 AE Am (Av l)])]:=by
 have s:=EL p A;have E:=A.2.1
 have z:Ac p=0:=by
  unfold EX at c;split at c
  .exact c
  .rename_i h;simpa using h
 have i:=YE (IL z).2.1;rw[z] at s;have G:EX p l=Sh (p.it.map cl.id) l:=ν (λh=>h z);rw[G] at c;refine As func159 Z Z ntmps159 Z Z Z λF t=>(AD (AF (V (B7 1 Z Z Z Z Z Z Z) (AB Z Z (AB Z Z (AC (AD (AD ?_))))))));refine AF (J (Ap Z Z Bp Z Z Z) (J (Aj (s) Z Z) (AB Z Z (AC (AD (AF (ch Z Z (J (DJ Z Z Z) ?_))))))));refine AC (Cq Z ((by decide)) (AU (AD (AF (V (S2 2 Z Z Z Z) (AB Z Z (AC (AD ?_))))))));refine AD (AF (J (AM Z FN Z Z Z) (J (AQ Z Z Z Mf Z) (J (BU Z Qs Z) (ch Z Z (AC (AX (BC (α:=Nat) (λk=>⟨50,[(1,.d (.sl none (l.map AE))),(7,(.map 2 0)),(20,(.d (.sl none (p.it.map Ah)))),(21,(.d (AE (p.it.length:Int)))),(22,(.d (AE (k:Int))))],[(2,[B5 AE Am (Av ((p.it.take k).map cl.id))])]⟩) (λk=>k<=p.it.length) (λk=>p.it.length-k) (0) (κ _) (AR t [2] Z Z ⟨Z,Z,Z,Z,Z,trivial⟩) ?_))))))));rintro k u;refine AD (AF (J (At Z Z Z) (AC (AD (A5 Z (λg=>?_) (λg=>?_))))))
 .have a:k<p.it.length:=BF g;refine AU (AD (AX (AD (AF ?_))));have b:p.it[k].id∉(p.it.take k).map cl.id:=λh=>by rw[List.Nodup,ky,l4] at i;obtain ⟨x,B,e⟩:=Γ.1 h;obtain ⟨j,C,rfl⟩:=mz.1 B;exact i j k (by omega) a (by omega) e
  refine J (Al (k) Z Z (Z) (AP a) Qs Z DP Z) (J (CY Z Z Cb Z) (V (CP 3 Fm Z Z Z Z) (V (Bi Z Z Z Z Z Z Z DP) (AC (AF ?_)))));refine ch Z Z (J (AM Z QW Z Z Z) (J (AQ Z Z Z Ai Z) (V (Wf (Av ((p.it.take k).map cl.id)) (p.it[k].id) (true) Z Z Z FU I6 Z Z) (AC (AF (J (Ad Z Z (AJ (k+1) (by omega)) Z) (ch Z Z (AC ?_))))))));exact ⟨k+1,by show k+1<=_;omega,by show p.it.length-(k+1)<p.it.length-k;omega,AR t [2] Z (by rw[EB a,<-jT b];rfl) ⟨Z,Z,Z,Z,Z,trivial⟩⟩
 .refine Aq (AD ?_);rw[θ (show p.it.length<=k by have h:=g;omega)];refine AF (V (S2 4 Z Z Z Z) (AB Z Z (AC ?_)));refine AD (AD (AF (ch Z Z (J (BU Z E0 Z) (ch Z Z (AC (AX (BC (α:=Nat) (λk=>⟨50,[(7,(.map 2 0)),(10,(.map 4 0)),(31,(.d (.sl none (l.map AE)))),(32,(.d (AE (l.length:Int)))),(33,(.d (AE (k:Int))))],[(2,[B5 AE Am (Av (p.it.map cl.id))]),(4,[B5 AE Am (Av (l.take k))])]⟩) (λk=>k<=l.length) (λk=>l.length-k) (0) (κ _) (AR t [2,4] Z Z ⟨Z,Z,Z,Z,Z,trivial⟩) ?_))))))));rintro k u;refine AD (AF (J (At Z Z Z) (AC (AD (A5 Z (λf=>?_) (λf=>?_))))))
  .have a:k<l.length:=BF f;refine AU (AD (AX (AD (AF ?_))));have I:=Tu.1 c k (Ω.2 a);have D:=Dy 0 a;have v:l[k]∈p.it.map cl.id:=(Sg c).2 _ (ϑ a);have b:l[k]∉l.take k:=λh=>by have o:=(Sg c).1;rw[List.Nodup,l4] at o;obtain ⟨j,C,e⟩:=mz.1 h;exact o j k (by omega) a (by omega) e
   refine J (Al (k) Z Z (Z) (AP a) E0 Z BK Z) (J (BZ Z Z Ai Z) ?_);refine AB Z Z (AC (AD (AX (AD (AF (ch Z Z (ch Z Z (J (I8 (Av (p.it.map cl.id)) (l[k]) (false) _ Z Z Z FU I6 W8 Z Z) ?_))))))));rw[Zl];refine J (Jq Z Z) (AB Z Z (AC (A5 Z (λy=>?_) (λy=>?_))))
   .refine AD (AF (AB Z Z (AB Z Z (AC (A4 ?_)))));exact absurd v (by simp_all)
   .refine AD (AF (ch Z Z (ch Z Z (J (I8 (Av (l.take k)) (l[k]) (false) _ Z Z Z FU I6 W8 Z Z) ?_))));rw[Zl];refine AB Z Z (AC (A5 Z (λw=>?_) (λw=>?_)))
    .refine AD (AF (AB Z Z (AB Z Z (AC (A4 ?_)))));exact absurd b (by simp_all)
    .refine AU ?_;refine AF (ch Z Z (ch Z Z (V (Wf (Av (l.take k)) (l[k]) (true) Z Z Z FU I6 Z Z) (AC (AF (J (Ad Z Z (AJ (k+1) (by omega)) Z) (ch Z Z (AC ?_))))))));exact ⟨k+1,by show k+1<=_;omega,by show l.length-(k+1)<l.length-k;omega,AR t [2,4] Z (by rw[ψ a,<-jT b];rfl) ⟨Z,Z,Z,Z,Z,trivial⟩⟩
  .refine Aq (AD (AF (ch Z Z (AB Z Z (AB Z Z (AC (A4 ?_)))))));exact ⟨_,[4],_,A2 Z,Z,Z,Z,by rw[θ (show l.length<=k by have h:=f;omega)]<;>rfl⟩
theorem Dp(x:AW×Int)(l:List (AW×Int))(r:AW):Ag (x::l) r=(if x.1=r then x.2 else 0)+Ag l r:=by simp[Ag]
theorem Vy{m:List (AW×Int)}(h:i.Perm m)(r:AW):Ag i r=Ag m r:=by
 induction h with
 | nil=>rfl
 | cons x _ c=>rw[Dp,Dp,c]
 | swap x y i=>simp only[Dp];omega
 | trans _ _ b a=>rw[b,a]
theorem G9(h:H∉i.map Prod.fst):Ag i H=0:=by
 induction i with
 | nil=>rfl
 | cons x i a=>
  grind[Dp]
theorem Xm(b:(i.map Prod.fst).Nodup){v:Int}(h:(H,v)∈i):Ag i H=v:=by
 induction i with
 | nil=>cases h
 | cons x i a=>
  grind[Dp,G9]
theorem Vx(c:List (AW×Int))(r:AW):Ag (jb c) r=Ag c r:=by grind[Xm,Ft,ED,G9,J3]
theorem oo{m:List (c×L)}{B seen:List Nat}{x:c×L}(h:x∈CX m B seen):x∈m:=by
 unfold CX at h;obtain ⟨y,f,rfl⟩:=Γ.1 h;exact (List.of_mem_zip (a:=y.1) (b:=y.2) (Φ.1 f).1).1
theorem ZL{m:List (c×L)}{B seen:List Nat}:(CX m B seen).length<=m.length:=by grind[CX]
def GU(l:List cl)(r:AW):Int:=(l.map λi=>Ag (js i) r).sum
theorem aG(l:List cl)(i:cl)(r:AW):GU (l++ [i]) r=GU l r+Ag (js i) r:=by simp[GU]
def Jz(l:List Int)(i:cl):Bool:=decide (i.id∈l)
theorem G4(h:FK a=0):∀i∈a,Aw i=0:=λi f=>by
 have g:=Tu.1 h;obtain ⟨j,b,rfl⟩:=kh f;have:=g j (Ω.2 b);unfold K8 at this;rw[Dy ek b] at this
 split at this
 .contradiction
 .rename_i c;simpa using c
theorem O6(h:Aw t=0)(r:AW): -Mx<=Ag (js t) r/\Ag (js t) r<=Mx:=by
 have a:=(EY h).2.2.2.2.2.2.2.2;unfold NK at a
 split at a
 .cases a
 .rename_i c
  by_cases b:r∈(jb (js t)).map Prod.fst
  .grind[ED]
  grind[G9,J3]
theorem sF(h:Aw t=0):QY (jb (js t)):=λx a=>by
 have b:=((ED (js t) x.1 x.2).1 a).2;rw[b];simpa [Mx] using O6 h x.1
theorem wY(h:Aw t=0):(jb (js t)).length<=1280:=by
 have a:=(EY h).1;have c:=a.po;have b:=a.pa;have:=Ie (js t);rw[IF] at this;omega
theorem Oi{l:List cl}(h:∀i∈l,Aw i=0)(a:l.length<=1000)(r:AW): -1000000000000000000<=GU l r/\GU l r<=1000000000000000000:=by
 have:=J2 (l:=l) (f:=λi=>Ag (js i) r) (B:=1000000000000000) (λi b=>by simpa [Mx] using O6 (h i b) r) 1000 a (by omega);unfold GU;omega
def Jv(p:hU)(l:List Int):List ey:=p.ro.map λx=>⟨x.r,x.n+GU (p.it.filter (Jz l)) x.r⟩
theorem HI(h:D7 w=0):∀x∈w,-4000000000000000<=x.n/\x.n<=4000000000000000:=λx b=>by
 have f:=Tu.1 h;obtain ⟨j,a,rfl⟩:=kh b;have:=f j (Ω.2 a);unfold Il at this;rw[Dy IY a] at this
 split at this
 .contradiction
 .split at this
  .cases this
  .rename_i c;simp only[Mx] at c;omega
theorem Vd{p:c->Bool}(a:y<f.length):(f.take (y+1)).filter p=(f.take y).filter p++(if p f[y] then [f[y]] else []):=cO a
theorem cq(p:hU)(l:List Int)(Y:Ek p)(hl:l.length<=100000)(G:p.it.length<=1000):AI prog 113 [.d (BG p),.d (.sl none (l.map AE))] (.tup [.sl none ((if EX p l=0 then Jv p l else []).map BY),AE (EX p l)]):=by
 by_cases j:EX p l=0
 .have X:=(bo p l Y hl j).by [(4,40)] rfl
  have h0:Ac p=0:=by
   unfold EX at j;split at j
   .exact j
   .rename_i h;simpa using h
  have w:=G4 (IL h0).2.1;have K:=HI (IL h0).1;have hb1:=Y.1;rw[ϱ j,j];refine As func113 Z Z ntmps113 Z Z Z λF u=>(AD (AF (V (B7 1 Z Z Z Z Z Z Z) (AB Z Z ?_))));refine AB Z Z (AC (AD (AF (J (Ap Z Z Bp Z Z Z) (ch Z Z (V (FX X Z [40] ⟨Z,trivial⟩ Z Z Z Z Z Z Z Z Z) (ch Z Z (J (D3 Z Z Z) ?_))))))));refine J (D3 Z Z Z) (AB Z Z (AB Z Z (AC (AD (AD (AF (ch Z Z (J (DJ Z Z Z) ?_))))))));refine AC (Cq Z ((by decide)) (AU (AD (AF (V (S2 2 Z Z Z Z) (AB Z Z (AC (AD ?_))))))));refine AD (AF (J (AM Z FN Z Z Z) (J (AQ Z Z Z Mf Z) (J (BU Z Qs Z) (ch Z Z (AC (AX (BC (α:=Nat×List (AW×Int)) (λq=>⟨76,[(2,(.ptr 1 0 0)),(6,(.map 40 0)),(8,(.map 2 0)),(27,(.d (.sl none (p.it.map Ah)))),(28,(.d (AE (p.it.length:Int)))),(29,(.d (AE (q.1:Int))))],[(1,[B3 39 p]),(40,[B5 AE Am (Av l)]),(2,[B5 Bm AE q.2])]⟩) (λq=>q.1<=p.it.length/\∀r,Af q.2 r 0=GU ((p.it.take q.1).filter (Jz l)) r) (λq=>p.it.length-q.1) ((0,[])) (⟨κ _,λ_=>rfl⟩) (AR u [1,40,2] Z Z ⟨Z,Z,Z,Z,Z,Z,trivial⟩) ?_))))))));rintro ⟨k,M⟩ ⟨T,I⟩;dsimp only at T I⊢;refine AD (AF (J (At Z Z Z) (AC (AD (A5 Z (λD=>?_) (λD=>?_))))))
  .have f:k<p.it.length:=BF D;refine AU (AD (AX (AD (AF ?_))));have y:=w _ (ϑ f);have hs:=(Sb p.it[k] (EY y).1).by [(2,41)] rfl;have g:=sF y;have hEl:=wY y;have Q:=λr=>Vx (js p.it[k]) r;have hEn:=Ft (js p.it[k]);have hT:=Oi (l:=(p.it.take k).filter (Jz l)) (λi U=>w i (lI (Φ.1 U).1)) (jp (lE _ _) (by rw[η];omega))
   obtain ⟨E,hEE⟩:∃E,jb (js p.it[k])=E:=⟨_,Z⟩
   rw[hEE] at hs g hEl Q hEn;refine J (Al (k) Z Z (Z) (AP f) Qs Z DP Z) (J (CY Z Z Cb Z) (V (CP 3 Fm Z Z Z Z) ?_));refine V (Bi Z Z Z Z Z Z Z DP) (AC (AD (AD (AF (ch Z Z (J (AM Z QW Z Z Z) (J (AQ Z Z Z Ai Z) (J (I8 (Av l) (p.it[k].id) (false) _ Z Z Z FU I6 W8 Z Z) ?_))))))));rw[Zl];refine J (Jq Z Z) (AC (A5 Z (λC=>?_) (λC=>?_)))
   .refine Aq (AF (J (Ad Z Z (AJ (k+1) (by omega)) Z) (ch Z Z (AC ?_))));exact ⟨(k+1,M),⟨by show k+1<=_;omega,λr=>by show Af M r 0=GU ((p.it.take (k+1)).filter (Jz l)) r;rw[Vd f,ν (by unfold Jz;simpa using C),kY];exact I r⟩,by show p.it.length-(k+1)<p.it.length-k;omega,AR u [1,40,2] Z (Z) ⟨Z,Z,Z,Z,Z,Z,trivial⟩⟩
   .refine AU (AD (AF (J (Ap Z Z Cb Z Z Z) (V (FX hs Z [41] ⟨Z,trivial⟩ Z Z Z Z Z Z Z Z Z) (V (HC 4 Z Z Z C4 Z Z Z Z) (AC (AX (BC (α:=List Nat×List (AW×Int)) (λq=>⟨76,[(2,(.ptr 1 0 0)),(6,(.map 40 0)),(8,(.map 2 0)),(27,(.d (.sl none (p.it.map Ah)))),(28,(.d (AE (p.it.length:Int)))),(29,(.d (AE (k:Int)))),(40,(.ptr 4 0 0))],[(4,[.iter 41 0 E.length q.1]),(41,[B5 Bm AE E]),(1,[B3 39 p]),(40,[B5 AE Am (Av l)]),(2,[B5 Bm AE q.2])]⟩) (λq=>∀r,Af q.2 r 0+Ag (CX E (List.range E.length) q.1) r=GU ((p.it.take k).filter (Jz l)) r+Ag E r) (λq=>(CX E (List.range E.length) q.1).length) (([],M)) (λr=>by show Af M r 0+Ag (CX E (List.range E.length) []) r=_;rw[Dl (by simp),I r]) (AR u [4,41,1,40,2] Z Z ⟨Z,Z,Z,Z,Z,Z,Z,trivial⟩) ?_))))))));rintro ⟨seen,N⟩ R;dsimp only at R⊢;refine AD (AF (Mg (E) Z Z Z Z (λL=>?_) (λS o b c t P hB41 s=>⟨_,Z,?_⟩)))
    .have O:∀r,Af N r 0=GU ((p.it.take k).filter (Jz l)) r+Ag (js p.it[k]) r:=λr=>by have H:=R r;rw[L] at H;rw[<-Q r];have h2:Ag ([]:List (AW×Int)) r=0:=rfl;omega
     refine J (D3 Z Z Z) (AC (AD (Cq Z Z (Aq (AF (J (Ad Z Z (AJ (k+1) (by omega)) Z) (ch Z Z (AC ?_))))))));exact ⟨(k+1,N),⟨by show k+1<=_;omega,λr=>by show Af N r 0=GU ((p.it.take (k+1)).filter (Jz l)) r;rw[Vd f,ϱ (by unfold Jz;simpa using C),aG];exact O r⟩,by show p.it.length-(k+1)<p.it.length-k;omega,AR u [1,40,2] Z (Z) ⟨Z,Z,Z,Z,Z,Z,trivial⟩⟩
    .refine J (D3 Z Z Z) (AC (AD ?_));refine CM Z Z (AU (AX (AD (AF (J (HD (E) S o Z Z Z t P Z) (J (D3 Z Z Z) (J (D3 Z Z Z) (V (CP 5 MK Z Z Z Z) ?_))))))));refine V (Bi Z Z Z Z Z Z Z cz) (AB Z Z (AC (Bq [[],[],[0,1],[],[0,1,2,3],[0,1,3],[0,1,3,5],rg 7] mixed Z (be 2 ([B5 Bm AE (Bl N b 0)]) Z (A7 8 Z Z (Ay [11] Z Z (λ_=>Aa (Ap Z Z Cw Z Z Z)) (Jo [46,47] [] Z Z Z (λ_=>Aa (I8 (N) (b) (0) _ Z Z Z C4 Ck QU Z Z)) (λ_=>Aa (I8 (Bl (N) (b) (0)) (b) (0) _ Z Z Z C4 Ck QU (Ee _ _ _ _) Z)) (A7 12 Z Z ?_))))))))
     have hNb: -6000000000000000000<=Af N b 0+c/\Af N b 0+c<=6000000000000000000:=by {have H:=R b;have h2:=IG (l:=CX E (List.range E.length) seen) (λx hx=>g x (oo hx)) b;have h3:=IG g b;have h4:=ZL (m:=E) (B:=List.range E.length) (seen:=seen);have h5:=hT b;have h6:=g (b,c) (ϖ t);simp only at h6;omega}
     refine AK [48,49] Z (Ad Z Z (Ξ _ (by omega)) Z) (Cv [46,47] [2] [(51,_)] Z Z (λ_=>Cg (H8 (N) (b) (0) Z Z Z C4 Ck QU Z Z)) (.inr ⟨51,_,Z,Z,Z,Z,Z⟩) Z Z Z Z Z ?_ (hCn:=SQ Z));refine AK [51] Z (D3 Z Z Z) (BV 7 Z Z Z (A0 8 Z Z (V (Ha (N) (b) (0) (Af N b 0+c) Z Z Z Ck Z Z) (AC ⟨Z,?_⟩))));refine Bb ?_;exact ⟨(seen++ [o],_),(λr=>by show Af (B1 N b (Af N b 0+c)) r 0+Ag (CX E (List.range E.length) (seen++ [o])) r=_;have H:=R r;rw[Vy s,Dp] at H;rw[Iv];by_cases e:r=b; · {rw[ϱ e];rw[ϱ e.symm] at H;rw[e] at H⊢;omega}; · {rw[ν e];rw[ν (λh=>e h.symm)] at H;omega}),by show (CX E (List.range E.length) (seen++ [o])).length<(CX E (List.range E.length) seen).length;rw[s.length_eq];exact mN _,AR u [4,41,1,40,2] Z (Z) ⟨Z,Z,Z,Z,Z,Z,Z,trivial⟩⟩
  .refine Aq (AD ?_);have v:p.it.take k=p.it:=θ (by have h:=D;omega);rw[v] at I;have hTb:=Oi (l:=p.it.filter (Jz l)) (λi U=>w i (Φ.1 U).1) (jp (lE _ _) G);refine AF (AB Z Z (AC (AD (AD ?_))));refine IU 13 900 Se Z Z Z Z (AF (J (AM Z Gp Z Z Z) (J (AQ Z Z Z Uo Z) (J (BU Z b0 Z) (ch Z Z (AC (AX (BC (α:=List ey) (λa=>⟨76,[(8,(.map 2 0)),(13,(.own 900 0 a.length)),(55,(.d (.sl none (p.ro.map BY)))),(56,(.d (AE (p.ro.length:Int)))),(57,(.d (AE (a.length:Int))))],[(900,[.rowD 88 7 (a.map BY)]),(2,[B5 Bm AE M])]⟩) (λa=>a.length<=p.ro.length/\a=(Jv p l).take a.length) (λa=>p.ro.length-a.length) ([]) (⟨κ _,by simp⟩) (AR u [900,2] Z Z ⟨Z,Z,Z,Z,Z,trivial⟩) ?_))))))));rintro a ⟨ha0,hA⟩;refine AD (AF (J (At Z Z Z) (AC (AD (A5 Z (λA=>?_) (λA=>?_))))))
   .have z:a.length<p.ro.length:=BF A;refine AU (AD (AX ?_));refine AD (AF (J (Al (a.length) Z Z (Z) (AP z) b0 Z Q0 Z) (J (CY Z Z dj Z) (V (CP 6 Tx Z Z Z Z) (V (Bi Z Z Z Z Z Z Z Q0) (AC (Bq [[],[],[1],[],[3],[],[],[6],[5,6,7],[3,4,5,6,7,8],[1,2,3,4,5,6,7,8,9],[1,2,3,4,5,6,7,8,9,10],rg 12,rg 13] mixed Z (B2 ?_))))))));refine A7 13 Z Z (AK [15] Z (AM Z GM Z Z Z) (Ay [62] Z Z (λ_=>Aa (Ap Z Z Cw Z Z Z)) (AK [15] Z (AM Z TN Z Z Z) (Ay [64] Z Z (λ_=>Aa (AQ Z Z Z FJ Z)) (A7 8 Z Z (AK [15] Z (AM Z GM Z Z Z) (Ay [67] Z Z (λ_=>Aa (Ap Z Z Cw Z Z Z)) (Ay [66,68] Z Z (λ_=>Aa (I8 (M) (p.ro[a.length].r) (0) _ Z Z Z C4 Ck QU Z Z)) ?_))))))));have hr1:=K _ (ϑ z);have hr2:=hTb p.ro[a.length].r;have hr3:=I p.ro[a.length].r;refine AK [65,69] Z (Ad Z Z (Ξ _ (by omega)) Z) (AK [63,70] Z (Dz Tx tD Z Z Z) (Cv [71] [50] [(72,_)] Z Z (λ_=>Cg (CF 50 Se Z Z Z Z Z Z Z Z)) (.inr ⟨72,_,Z,Z,Z,Z,Z⟩) Z Z Z Z Z (BV 12 Z Z Z (A0 13 Z Z (V (DN (a) ([⟨p.ro[a.length].r,p.ro[a.length].n+Af M p.ro[a.length].r 0⟩]) Z Z Z Z Z Z Z Z Se (by simp only[ζ];omega) Z Z Z Z) (AC ⟨Z,?_⟩))))));refine A0 14 Z Z (AB Z Z (AC ⟨Z,?_⟩));refine Bb (AF (J (Ad Z Z (UA a (⟨p.ro[a.length].r,p.ro[a.length].n+Af M p.ro[a.length].r 0⟩:ey) (by omega)) Z) (ch Z Z (AC ?_))));exact ⟨a++ [⟨p.ro[a.length].r,p.ro[a.length].n+Af M p.ro[a.length].r 0⟩],⟨by rw[Δ];show a.length+1<=_;omega,by rw[Δ];show _=(Jv p l).take (a.length+1);rw[ψ (by unfold Jv;simpa using z),<-hA];congr 1;unfold Jv;simp[I]⟩,by rw[Δ];show p.ro.length-(a.length+1)<p.ro.length-a.length;omega,AR u [900,2] Z (Z) ⟨Z,Z,Z,Z,Z,trivial⟩⟩
   .refine Aq (AD ?_);have W:a=Jv p l:=by rw[hA];exact θ (by unfold Jv;rw[χ];have h:=A;omega)
    refine Fb (emb:=BY) 13 900 a Z Z Z Z Z Z Z (AF (ch Z Z (AB Z Z (AB Z Z (AC (A4 ?_))))));exact ⟨_,[],[],A2 Z,Z,Z,by rw[W],Z⟩
 .have X:=Xp p l Y hl j;rw[ν j];refine As func113 Z Z ntmps113 Z Z Z λF u=>(AD (AF (V (B7 1 Z Z Z Z Z Z Z) (AB Z Z (Zk 4 Z (AB Z Z ?_))))));refine AC (AD (AF (J (Ap Z Z Bp Z Z Z) (ch Z Z (J (Aj (X) Z Z) (ch Z Z (J (Cc Z Z Z) (J (Cc Z Z Z) ?_))))))));refine AB Z Z (AB Z Z (AC (AD (AD (AF (ch Z Z (J (DJ Z Z Z) (AC ?_))))))));refine CM Z ((Υ j)) (AD (AF (ch Z Z (AB Z Z (Zk 4 Z (AB Z Z (AC (A4 ?_))))))));exact ⟨_,[],[],A2 Z,Z,Z,Z,Z⟩
def uy(S:List Int)(x:Int):Bool:=decide (x∈S)
def Qb(S l:List Int):List Int:=l.filter λx=>!uy S x
theorem gM{S l:List Int}(h:∀x∈l,uy S x=false):Qb S l=l:=qy.2 λx a=>by rw[h x a];rfl
theorem ig(l:List Int)(c:l.length<=1000000):AO prog 89 [.d (.sl none (l.map AE))] [] λr b=>r= .own 20 0 l.length/\b=[(20,[.rowD 3 1 (l.map AE)])]:=by
 refine As func89 Z Z ntmps89 Z Z Z λF g=>(AD (AF (AB Z Z ?_)));skip;refine AC (AD (AD (AF (ch Z Z (GF 3 Z (λa=>?_) ?_)))))
 .refine J (Ep E0 Z Z) (AC (CM Z (Z) (AD (AF (AB Z Z (Yv 2 20 Ao Z Z Z Z (AC (A4 ?_))))))));exact ⟨_,[20],_,A2 Z,Z,Z,by rw[<-χ (f:=AE),a];rfl,by rw[a]⟩
 .refine J (Ep E0 Z Z) ?_;refine AC (Cq Z (Z) (AU (AD (AF (V (CF 20 Ao Z Z Z Z Z Z Z Z) (ch Z Z (V (Jr (([]:List Int)) (l) Z Z Z Z Z Z (λ_=>rfl) Ao (by simp only[lT];omega) Z Z Z Z) (AB Z Z ?_))))))));skip;refine AC (A4 ?_);exact ⟨_,[20],_,A2 Z,Z,Z,by simp,by simp⟩
def GZ(l:List Int)(i:cl):cl:=⟨i.id,i.pr,i.sq,i.po,i.pa,Qb l i.af⟩
def EF(l:List Int)(its:List cl):List cl:=(its.filter λi=>!Jz l i).map (GZ l)
def hG(p:hU)(id:Int):cl:=p.it.getD ((p.it.map cl.id).idxOf id) ek
theorem Zj{p:hU}{id:Int}(h:id∈p.it.map cl.id):∃b:(p.it.map cl.id).idxOf id<p.it.length,Sz id (p.it.map cl.id)=(((p.it.map cl.id).idxOf id:Nat):Int)/\hG p id=p.it[(p.it.map cl.id).idxOf id]/\(hG p id).id=id:=by
 have b:(p.it.map cl.id).idxOf id<(p.it.map cl.id).length:=List.idxOf_lt_length_iff.2 h;have a:(p.it.map cl.id).idxOf id<p.it.length:=by simpa using b
 have c:hG p id=p.it[(p.it.map cl.id).idxOf id]:=Dy ek a;refine ⟨a,ϱ h,c,?_⟩;have f:=nI b
 grind
theorem U2(h:D7 w=0):∀x∈w,CD x.r=0:=λx b=>by
 have f:=Tu.1 h;obtain ⟨j,a,rfl⟩:=kh b;have:=f j (Ω.2 a);unfold Il at this;rw[Dy IY a] at this
 split at this
 .contradiction
 .rename_i c;simpa using c
theorem Ui{m:List c}(h:f.Perm m)(a:c->Int):(f.map a).sum=(m.map a).sum:=by
 induction h with
 | nil=>rfl
 | cons x _ i=>simp[i]
 | swap x y f=>simp;omega
 | trans _ _ g b=>rw[g,b]
abbrev Hd:=Option (Nat×Nat)
def xz:Hd->Nat->Value
 | none,_=> .slice none 0 0
 | some (b,c),n=>sV b n c
abbrev ji(h:Hd)(n:Nat):D:= .raw (xz h n)
structure Nd where
 it:cl
 eh:Hd
 ef:List (Nat×Int)
 ph:Hd
 pl:List (Nat×Nat)
 on:Bool
structure Po where
 r:AW
 room:Int
 sum:Int
 qh:Hd
 q:List Nat
 mi:Nat
structure jh where
 nd:List Nd
 po:List Po
 nh:Hd
 mh:Hd
abbrev yS(x:Nd):List D:=[AE x.it.id,AE x.it.pr,AE x.it.sq,.sl none (x.it.po.map Bd),.sl none (x.it.pa.map Cy),.sl none (x.it.af.map AE),ji x.eh x.ef.length,ji x.ph x.pl.length,Am x.on]
abbrev oT(y:Po):List D:=[AE y.r.k,Ak y.r.acc.o,AE y.r.acc.k,Ak y.r.acc.a,Ak y.r.f,Ak y.r.t,AE y.room,AE y.sum,ji y.qh y.q.length,AE (y.mi:Int)]
abbrev iN(pb:Nat->Nat)(e:Nat×Int):D:= .agg [pD (pb e.1) 0,AE e.2]
abbrev nK(pb:Nat->Nat)(e:Nat×Nat):D:= .agg [pD (pb e.1) 0,AE (e.2:Int)]
abbrev B4(b:Nat):D:=pD b 0
def BX(M:MF)(h:Hd)(t:TypeId)(k:Nat)(xs:List D):Prop:=match h with
 | none=>xs=[]
 | some (b,c)=>xs.length<=c/\M b=some (.row t k c xs)
abbrev Wc(x:Nd):Au:= .cells 184 (yS x)
abbrev Wa(y:Po):Au:= .cells 190 (oT y)
variable{K:Hd}
theorem XH{g:Au}(i:M o=some (.cells C E)){f:List D}(a:BX M K F y f):BX (Bh M o g) K F y f:=by
 match K,a with
 | none,a=>exact a
 | some (j,c),a=>
  grind[BX,Bh]
abbrev M9(v:Value):D:= .raw v
def Cd:Po:=⟨⟨0,Tn,[],[]⟩,0,0,none,[],0⟩
def CV:Nd:=⟨ek,none,[],none,[],false⟩
structure jl where
 h:Hd
 t:TypeId
 k:Nat
 xs:List D
inductive RI where
 | e (i:Nat)
 | p (i:Nat)
 | q (j:Nat)
 | n
 | m
def Cs(nb pb:Nat->Nat)(N:jh):RI->jl
 | .e i=>⟨(N.nd.getD i CV).eh,188,2,(N.nd.getD i CV).ef.map (iN pb)⟩
 | .p i=>⟨(N.nd.getD i CV).ph,254,2,(N.nd.getD i CV).pl.map (nK pb)⟩
 | .q j=>⟨(N.po.getD j Cd).qh,176,1,(N.po.getD j Cd).q.map λi=>B4 (nb i)⟩
 | .n=>⟨N.nh,176,1,(List.range N.nd.length).map λi=>B4 (nb i)⟩
 | .m=>⟨N.mh,186,1,(List.range N.po.length).map λj=>B4 (pb j)⟩
def FY(M:MF)(R:RI->jl):Prop:=(∀r,BX M (R r).h (R r).t (R r).k (R r).xs)/\∀r r' b c c',(R r).h=some (b,c)->(R r').h=some (b,c')->r=r'
def Bo(M:MF):Hd->MF
 | none=>M
 | some (b,_)=>FV M b
variable{R:RI->jl}
theorem FY.blk(h:FY M R){r:RI}{c:Nat}(a:(R r).h=some (o,c)):M o=some (.row (R r).t (R r).k c (R r).xs):=by
 have:=h.1 r;rw[a] at this;exact this.2
theorem K4{h:Hd}(f:M o=some P)(a:∀c,h≠some (o,c)):Bo M h o=some P:=by
 match h,a with
 | none,_=>exact f
 | some (g,c),a=>
  show FV M g o=_;rw[Hn (λe=>a c (by rw[e]))];exact f
theorem l9{a:Nat}{v:Au}(i:Bo M K o=none)(g:M a=some P)(f:∀c,K≠some (a,c)):Bh (Bo M K) o v a=some P:=by grind[K4,IV]
theorem FY.upd{R':RI->jl}(h:FY M R)(a:RI)(x:∀r,r≠a->R' r=R r){b cap:Nat}(w:Bo M (R a).h b=none)(z:(R' a).h=some (b,cap))(v:(R' a).xs.length<=cap):FY (Bh (Bo M (R a).h) b (.row (R' a).t (R' a).k cap (R' a).xs)) R':=by
 have l:∀r,r≠a->∀i c,(R r).h=some (i,c)->i≠b:=λr u i c j e=>by
  have f:=h.blk j;have y:=K4 (h:=(R a).h) f λo g=>u (h.2 r a i c o j g)
  grind
 refine ⟨λr=>?_,λr s B c o f y=>?_⟩
 .by_cases e:r=a
  .subst e;rw[z];exact ⟨v,H3 _ _ _⟩
  .rw[x r e];have f:=h.1 r
   cases hh:(R r).h with
   | none=>rw[hh] at f;exact f
   | some p=>
    obtain ⟨i,c⟩:=p;rw[hh] at f;exact ⟨f.1,l9 w f.2 λo g=>e (h.2 r a i c o hh g)⟩
 .by_cases e:r=a<;>by_cases A:s=a
  all_goals (grind[FY])
theorem FY.cells(h:FY M R){a:List D}(c:M o=some (.cells F E)):FY (Bh M o (.cells C a)) R:=
 ⟨λr=>XH c (h.1 r),h.2⟩
structure Ca (wb mv:Nat) (nb pb:Nat->Nat) (N:jh) (M:MF):Prop where
 n:∀(i:Nat) x,N.nd[i]? =some x->M (nb i)=some (Wc x)
 p:∀(j:Nat) y,N.po[j]? =some y->M (pb j)=some (Wa y)
 rs:FY M (Cs nb pb N)
 w:M wb=some (.cells 180 [ji N.nh N.nd.length,ji N.mh N.po.length,M9 (.map (some mv))])
 ni:∀i j:Nat,i<N.nd.length->j<N.nd.length->nb i=nb j->i=j
 pi:∀i j:Nat,i<N.po.length->j<N.po.length->pb i=pb j->i=j
 e:∀x∈N.nd,(∀e∈x.ef,e.1<N.po.length)/\∀e∈x.pl,e.1<N.po.length
 q:∀y∈N.po,∀i∈y.q,i<N.nd.length
theorem Hy{d:c}(h:f[s]? =some A):f.getD s d=A:=by rw[Ψ,h];rfl
variable{N:jh}
theorem Ca.nn(a:Ca j k h g N M)(i:Nat)(x:Nd)(b:N.nd[i]? =some x):M (h i)=some (Wc x)/\BX M x.eh 188 2 (x.ef.map (iN g))/\BX M x.ph 254 2 (x.pl.map (nK g)):=by
 have f:BX M (N.nd.getD i CV).eh 188 2 ((N.nd.getD i CV).ef.map (iN g)):=a.rs.1 (.e i);have c:BX M (N.nd.getD i CV).ph 254 2 ((N.nd.getD i CV).pl.map (nK g)):=a.rs.1 (.p i);rw[Hy b] at f c;exact ⟨a.n i x b,f,c⟩
theorem Ca.pp(b:Ca j k h g N M)(a:Nat)(y:Po)(c:N.po[a]? =some y):M (g a)=some (Wa y)/\BX M y.qh 176 1 (y.q.map λi=>B4 (h i)):=by
 have f:BX M (N.po.getD a Cd).qh 176 1 ((N.po.getD a Cd).q.map λi=>B4 (h i)):=b.rs.1 (.q a);rw[Hy c] at f;exact ⟨b.p a y c,f⟩
theorem FD(a:s<f.length)(k:Nat)(d:c):(f.set s A).getD k d=if k=s then A else f.getD k d:=by grind
theorem Rz(a:f[s]? =some A)(k:Nat)(d:c):f.getD k d=if k=s then A else f.getD k d:=by grind
variable{B:Po}
theorem Ca.setPo(f:Ca j k h g N M){y':Po}(u:N.po[z]? =some B)(F:y'.q=B.q)(E:y'.qh=B.qh):Ca j k h g {N with po:=N.po.set z y'} (Bh M (g z) (Wa y')):=by
 have I:=f.p z B u;have w:=(φ.1 u).1
 have J:Cs h g {N with po:=N.po.set z y'}=Cs h g N:=funext λr=>by
  cases r with
  | e i=>rfl
  | p i=>rfl
  | n=>rfl
  | m=>show (⟨_,_,_,(List.range (N.po.set z y').length).map _⟩:jl)=_;rw[kn];rfl
  | q c=>
   show (⟨((N.po.set z y').getD c Cd).qh,_,_,((N.po.set z y').getD c Cd).q.map _⟩:jl)=⟨(N.po.getD c Cd).qh,_,_,(N.po.getD c Cd).q.map _⟩
   grind
 have s:∀(b:Nat) (t:TypeId) (C:List D),t≠190->M b=some (.cells t C)->Bh M (g z) (Wa y') b=some (.cells t C):=λb t C L O=>by
  grind[IV]
 refine ⟨λi x v=>s _ _ _ (by decide) (f.n i x v),λi a o=>?_,by rw[J];exact f.rs.cells I,?_,f.ni,λi c H G=>f.pi i c (by simpa using H) (by simpa using G),λx v=>?_,λa o=>?_⟩
 .have A:i<N.po.length:=by have:=(φ.1 o).1;rw[kn] at this;exact this
  have l:(N.po.set z y')[i]? =some a:=o
  clear o
  rw[nC] at l
  split at l
  .grind[H3]
  .rename_i e
   rw[IV]
   .exact f.p i a l
   .intro K;exact e (f.pi i z A w K).symm
 .show Bh M (g z) (Wa y') j=some (.cells _ [ji N.nh N.nd.length,ji N.mh (N.po.set z y').length,_]);rw[kn];exact s _ _ _ (by decide) f.w
 .have:=f.e x v
  simpa using this
 .rcases my o with o | rfl
  .exact f.q a o
  .rw[F];exact f.q B (ϖ u)
theorem Ca.setNd(f:Ca j k h g N M){x x':Nd}(w:N.nd[s]? =some x)(J:x'.ef=x.ef)(Q:x'.eh=x.eh)(I:x'.pl=x.pl)(P:x'.ph=x.ph):Ca j k h g {N with nd:=N.nd.set s x'} (Bh M (h s) (Wc x')):=by
 have G:=f.n s x w;have B:=(φ.1 w).1
 have H:Cs h g {N with nd:=N.nd.set s x'}=Cs h g N:=funext λr=>by
  cases r with
  | q c=>rfl
  | m=>rfl
  | n=>show (⟨_,_,_,(List.range (N.nd.set s x').length).map _⟩:jl)=_;rw[kn];rfl
  | e a=>
   show (⟨((N.nd.set s x').getD a CV).eh,_,_,((N.nd.set s x').getD a CV).ef.map _⟩:jl)=⟨(N.nd.getD a CV).eh,_,_,(N.nd.getD a CV).ef.map _⟩
   grind
  | p a=>
   show (⟨((N.nd.set s x').getD a CV).ph,_,_,((N.nd.set s x').getD a CV).pl.map _⟩:jl)=⟨(N.nd.getD a CV).ph,_,_,(N.nd.getD a CV).pl.map _⟩
   grind
 have u:∀(b:Nat) (t:TypeId) (C:List D),t≠184->M b=some (.cells t C)->Bh M (h s) (Wc x') b=some (.cells t C):=λb t C L O=>by
  grind[IV]
 refine ⟨λc z o=>?_,λc y v=>u _ _ _ (by decide) (f.p c y v),by rw[H];exact f.rs.cells G,?_,λc a F E=>f.ni c a (by simpa using F) (by simpa using E),f.pi,λz o=>?_,λy v=>?_⟩
 .have A:c<N.nd.length:=by have:=(φ.1 o).1;rw[kn] at this;exact this
  have l:(N.nd.set s x')[c]? =some z:=o
  clear o
  rw[nC] at l
  split at l
  .grind[H3]
  .rename_i e
   rw[IV]
   .exact f.n c z l
   .intro K;exact e (f.ni c s A B K).symm
 .show Bh M (h s) (Wc x') j=some (.cells _ [ji N.nh (N.nd.set s x').length,ji N.mh N.po.length,_]);rw[kn];exact u _ _ _ (by decide) f.w
 .rcases my o with o | rfl
  .exact f.e z o
  .rw[J,I];exact f.e x (ϖ w)
 .have:=f.q y v
  simpa using this
abbrev HN(M:MF):Hp:=[(40,[.multi M])]
def jK(y:Po)(c:Int):Int:=max y.room 0+c
def Q4(y:Po)(c:Int):Bool:=decide (c<0/\jK y c<0)
theorem q0(a:Ca j k h g N M)(b:N.po[z]? =some B)(c:Int)(s: -1000000000000000000<=B.room/\B.room<=1000000000000000000)(t: -2000000000000000000<=c/\c<=2000000000000000000):
  AO prog 198 [.d (pD (g z) 0),.d (AE c)] (HN M) λr o=>r= .d (AE (jK B c))/\o=HN M:=by
 have i:=a.p z B b;have l:(if 0>B.room then 0 else B.room)=max B.room 0:=by rw[Int.max_def];split<;>split<;>omega
 refine As func198 Z Z ntmps198 Z Z Z λF u=>(AD (AF (AB Z Z (AC (AD (AF (ch Z Z ?_)))))));refine J (Dx Z Z) (J (Cr Z TR Z Z Z) (J (FE (f:=40) Z Z (i) Z FJ Z) (J (MR Z Z (l) Z) (ch Z Z (J (Ad Z Z (Ξ _ (by omega)) Z) (AB Z Z (AC (A4 ?_))))))));exact ⟨_,[40],_,A2 Z,Z,Z,Z,Z⟩
theorem N7(a:Ca j k h g N M)(b:N.po[z]? =some B)(c:Int)(f: -1000000000000000000<=B.room/\B.room<=1000000000000000000)(i: -2000000000000000000<=c/\c<=2000000000000000000):
  AO prog 150 [.d (pD (g z) 0),.d (AE c)] (HN M) λr s=>r= .d (Am (Q4 B c))/\s=HN M:=by
 have l:=q0 a b c f i;refine As func150 Z Z ntmps150 Z Z Z λF t=>(AD ?_);refine AF (AB Z Z (AC (AD (AF (ch Z Z (J (At Z Z Z) (ch Z Z (C7 7 Z (λo=>?_) (λo=>?_)))))))));refine AT Z Z Z (ch Z Z (AT Z Z Z (ch Z Z (AT Z Z Z (V (FX l Z [40] ⟨Z,trivial⟩ Z Z Z Z Z Z Z Z Z) (AT Z Z Z (J (At Z Z Z) (J (B8 Z Z Z Z) ?_))))))))
 rotate_left
 refine AN Z Z Z Z (AN Z Z Z Z (AN Z Z Z Z (AN Z Z Z Z (J (Bx Z Z Z Z) ?_))))
 all_goals
  refine AB Z Z (AC (A4 ?_));exact ⟨_,[40],_,A2 Z,Z,Z,RO (by unfold Q4;first | exact (kC (by omega)).symm | exact decide_eq_decide.2 ⟨λa=>⟨by omega,a⟩,λa=>a.2⟩),Z⟩
end Go.Proofs.YteifpcnphnhaoaaGreat
