import Derived.Test.YtnkkaeblokdifaaGreatMg17
import Derived.Shelf.SlLaysF
import Derived.Shelf.SlLaysF0
import Derived.Shelf.SlLaysNS
import Derived.Test.YtnkkaeblokdifaaGreatProg
open Go.Proofs.Tryz
namespace Go.Proofs.YtnkkaeblokdifaaGreat
open Go.Shelf Go.Proofs Go.Proofs.Tryz
theorem ol {P:Program} {i:FuncId} {B:Func} (b:(((P.funcs[i]?.map Func.name).getD "")== "runtime.NumGoroutine")=false) (a:P.funcs[i]? =some {B with name:=(P.funcs[i]?.map Func.name).getD "" }):Bears P i B:=⟨_,b,a⟩
def rq:Go.Shelf.Ren:=⟨λx=>match x with
 | 6=>147
 | 15=>72
 | 14=>185
 | 28=>133
 | 29=>134
 | 20=>213
 | 21=>214
 | 22=>215
 | 23=>216
 | 24=>217
 | 25=>218
 | 26=>219
 | 27=>220
 | 46=>240
 | 47=>170
 | 48=>171
 | 49=>241
 | 50=>242
 | 57=>250
 | x=>x,
 λx=>match x with
 | 22=>29
 | 24=>49
 | 25=>259
 | 3=>3
 | 39=>155
 | 0=>0
 | 53=>79
 | 55=>246
 | 4=>4
 | 46=>239
 | 45=>238
 | 50=>191
 | 5=>5
 | 9=>9
 | 66=>276
 | 70=>280
 | 76=>308
 | 77=>309
 | x=>x,λx=>x⟩
theorem lj:SlLaysF0.n6 prog rq:=by
 constructor<;>first | kernel_rfl | (intro w;kernel_rfl) | exact ol (by kernel_rfl) (by kernel_rfl)
def rr:Go.Shelf.Ren:=⟨λx=>match x with
 | 6=>31
 | 15=>72
 | 14=>71
 | 28=>133
 | 29=>134
 | 20=>125
 | 21=>126
 | 22=>127
 | 23=>128
 | 24=>129
 | 25=>130
 | 26=>131
 | 27=>132
 | 46=>169
 | 47=>170
 | 48=>171
 | 49=>172
 | 50=>173
 | 57=>207
 | x=>x,
 λx=>match x with
 | 22=>44
 | 24=>55
 | 25=>93
 | 3=>3
 | 39=>155
 | 0=>0
 | 53=>79
 | 55=>246
 | 4=>4
 | 46=>239
 | 45=>238
 | 50=>191
 | 5=>5
 | 9=>9
 | 66=>276
 | 70=>280
 | 76=>308
 | 77=>309
 | x=>x,λx=>x⟩
theorem qZ:SlLaysF0.n6 prog rr:=by
 constructor<;>first | kernel_rfl | (intro w;kernel_rfl) | exact ol (by kernel_rfl) (by kernel_rfl)
def pu:Go.Shelf.Ren:=⟨λx=>match x with
 | 6=>116
 | 15=>72
 | 14=>161
 | 28=>133
 | 29=>134
 | 20=>197
 | 21=>198
 | 22=>199
 | 23=>200
 | 24=>201
 | 25=>202
 | 26=>203
 | 27=>204
 | 46=>227
 | 47=>170
 | 48=>171
 | 49=>228
 | 50=>229
 | 57=>246
 | x=>x,
 λx=>match x with
 | 22=>213
 | 24=>218
 | 25=>220
 | 3=>3
 | 39=>155
 | 0=>0
 | 53=>79
 | 55=>246
 | 4=>4
 | 46=>239
 | 45=>238
 | 50=>191
 | 5=>5
 | 9=>9
 | 66=>276
 | 70=>280
 | 76=>308
 | 77=>309
 | x=>x,λx=>x⟩
theorem nN:SlLaysF0.n6 prog pu:=by
 constructor<;>first | kernel_rfl | (intro w;kernel_rfl) | exact ol (by kernel_rfl) (by kernel_rfl)
def rp:Go.Shelf.Ren:=⟨λx=>match x with
 | 53=>163
 | 64=>72
 | 63=>206
 | 78=>133
 | 79=>134
 | 70=>230
 | 71=>231
 | 72=>232
 | 73=>233
 | 74=>234
 | 75=>235
 | 59=>165
 | 76=>236
 | 77=>237
 | 88=>247
 | 89=>170
 | 90=>171
 | 91=>248
 | 92=>249
 | 68=>135
 | 96=>251
 | x=>x,
 λx=>match x with
 | 22=>33
 | 23=>3
 | 3=>3
 | 51=>155
 | 0=>0
 | 67=>79
 | 69=>246
 | 4=>4
 | 61=>239
 | 60=>238
 | 44=>191
 | 5=>5
 | 9=>9
 | 75=>276
 | 79=>280
 | 83=>308
 | 84=>309
 | x=>x,λx=>x⟩
theorem li:SlLaysN.n53 prog rp:=by
 constructor<;>first | kernel_rfl | (intro w;kernel_rfl) | exact ol (by kernel_rfl) (by kernel_rfl)
def pt:Go.Shelf.Ren:=⟨λx=>match x with
 | 6=>77
 | 15=>72
 | 14=>139
 | 28=>133
 | 29=>134
 | 20=>174
 | 21=>175
 | 22=>176
 | 23=>177
 | 24=>178
 | 25=>179
 | 26=>180
 | 27=>181
 | 46=>208
 | 47=>170
 | 48=>171
 | 49=>209
 | 50=>210
 | 57=>238
 | x=>x,
 λx=>match x with
 | 22=>100
 | 24=>109
 | 25=>161
 | 3=>3
 | 39=>155
 | 0=>0
 | 53=>79
 | 55=>246
 | 4=>4
 | 46=>239
 | 45=>238
 | 50=>191
 | 5=>5
 | 9=>9
 | 66=>276
 | 70=>280
 | 76=>308
 | 77=>309
 | x=>x,λx=>x⟩
theorem nM:SlLaysF.n6 prog pt:=by
 constructor<;>first | kernel_rfl | (intro w;kernel_rfl) | exact ol (by kernel_rfl) (by kernel_rfl)
def pv:Go.Shelf.Ren:=⟨λx=>match x with
 | 6=>106
 | 15=>72
 | 14=>155
 | 28=>133
 | 29=>134
 | 20=>189
 | 21=>190
 | 22=>191
 | 23=>192
 | 24=>193
 | 25=>194
 | 26=>195
 | 27=>196
 | 46=>224
 | 47=>170
 | 48=>171
 | 49=>225
 | 50=>226
 | 57=>245
 | x=>x,
 λx=>match x with
 | 22=>62
 | 24=>33
 | 25=>198
 | 3=>3
 | 39=>155
 | 0=>0
 | 53=>79
 | 55=>246
 | 4=>4
 | 46=>239
 | 45=>238
 | 50=>191
 | 5=>5
 | 9=>9
 | 66=>276
 | 70=>280
 | 76=>308
 | 77=>309
 | x=>x,λx=>x⟩
theorem nO:SlLaysF.n6 prog pv:=by
 constructor<;>first | kernel_rfl | (intro w;kernel_rfl) | exact ol (by kernel_rfl) (by kernel_rfl)
end Go.Proofs.YtnkkaeblokdifaaGreat
namespace Go.Proofs.YtnkkaeblokdifaaGreat
open Go.RowKit
variable {a:Type} {c:a ->a ->Int} {i:AG} {f:List AO} {g:AO}
set_option maxRecDepth 100000
def Na (i:AG):Int:=if ∃x∈dN (dq i),¬(-Mx<=x.2/\x.2<=Mx) then 12 else 0
theorem kZ {j:Nat} {v:Int} (b:(dN (dq i))[j]? =some (g,v)) (a:¬(-Mx<=v/\v<=Mx)):(12:Int)=Na i:=by
 unfold Na;rw [ϖ ⟨_,ϑ b,a⟩]
theorem cO (h:∀x∈dN (dq i),-Mx<=x.2/\x.2<=Mx):(0:Int)=Na i:=by grind [Na]
theorem YG (i:AG) (v:oc i):AM prog 70 [.d (Ap i)] (AF (Na i)):=by
 obtain ⟨M,a⟩:∃M,dN (dq i)=M:=⟨_,Z⟩
 have l:=(Pn i v).by [(2,20)] rfl;rw [a] at l;refine Av func70 Z Z ntmps70 Z Z Z λF r=>(AC (AE (V (CQ 1 Z Z Z Z Z Z Z) (AB Z Z (AD ?_)))));refine AC (AC (AE (J (B1 Z Z Bs Z Z Z) (V (Eh l Z [20] ⟨Z,trivial⟩ Z Z Z Z Z Z Z Z Z) (V (Fs 2 Z Z Z D8 Z Z Z Z) (AD (A2 (Bb (α:=List Nat) (λseen=>⟨15,[(7,(.ptr 2 0 0))],[(2,[.iter 20 0 M.length seen]),(20,[BD C4 AF M])]⟩) (λseen=>∀x∈M,x∈Bh M (List.range M.length) seen\/(-Mx<=x.2/\x.2<=Mx)) (λseen=>(Bh M (List.range M.length) seen).length) ([]) (λx c=> .inl (by rw [Co (by simp)];exact c)) (A0 r [2,20] Z Z ⟨Z,trivial⟩) ?_))))))));intro seen o;refine AC (AE (K7 (M) Z Z Z Z (λj=>?_) (λu s y t g k w f=>⟨_,Z,?_⟩)))
 .refine J (C8 Z Z Z) ?_;refine AD (AC (EV Z Z (BL (AC (AE (AB Z Z (AD (A6 ?_))))))));exact ⟨_,[],[],A4 Z,Z,Z,Ay (cO λx c=>by rw [a] at c;exact (o x c).elim (λh=>by rw [j] at h;cases h) id),Z⟩
 .refine J (C8 Z Z Z) ?_;refine AD (AC (Dt Z Z (AZ (A2 (AC (AE (J (Ft (M) u s Z Z Z g k Z) (J (C8 Z Z Z) ?_))))))));refine AB Z Z (AD (AC (AE (cl Z Z (J (B5 (GQ t (-1000000000000000) 1000000000000000) Z Z) (J (O2 Z Z) (AD (Ah Z (λb=>?_) (λb=>?_)))))))))
  .refine AC (AE (AB Z Z (AD (A6 ?_))));exact ⟨_,[],[],A4 Z,Z,Z,Ay (kZ (by rw [a];exact g) (by simpa [Mx] using b)),Z⟩
  .refine AZ ?_;exact ⟨seen++ [s],λx c=>(o x c).elim (λh=>(di.1 (f.mem_iff.1 h)).elim (λe=> .inr (by rw [e];simpa [Mx] using b)) .inl) .inr,by rw [f.length_eq];exact gA _,A0 r [2,20] Z (Z) ⟨Z,trivial⟩⟩
theorem Pc {b:Type} {l:List b} {f:b ->Int}:B7 (l.map f)=0↔∀x∈l,f x=0:=by
 induction l with
 | nil=>simp [B7]
 | cons a l c=>
  grind [B7]
def Qq (i:AG):List (FuncId×Int):=[(66,I7 i),(67,Rj i),(68,Qk i),(69,Nf i),(70,Na i)]
def Ak (i:AG):Int:=if ¬(0<=i.id/\i.id<=1000000000)\/¬(0<=i.sq/\i.sq<=1000000000)\/¬(0<=i.pr/\i.pr<=2) then 2 else if 256<i.po.length\/256<i.pa.length\/256<i.af.length then 8 else B7 ((Qq i).map Prod.snd)
theorem UM (h:I7 i=0):∀p∈i.po,-Mx<=p.d/\p.d<=Mx:=λp a=>by
 have:=Pc.1 h p a;unfold OG at this
 split at this; · cases this
 split at this; · cases this
 split at this; · cases this
 rename_i h;exact Decidable.of_not_not h
theorem l5 (h:Rj i=0):∀p∈i.pa,0<=p.n/\p.n<=Mx:=λp a=>by
 have:=Pc.1 h p a;unfold Qy at this
 split at this; · cases this
 split at this; · cases this
 split at this; · cases this
 rename_i h;exact Decidable.of_not_not h
theorem qo (i:AG) (b:i.po.length<=256) (g:i.pa.length<=256) (f:i.af.length<=256) {k:Nat} (c:k<(Qq i).length) (a:∀j,j<k ->((Qq i)[j]?).map Prod.snd=some 0):AM prog (Qq i)[k].1 [.d (Ap i)] (AF (Qq i)[k].2):=by
 match k,c with
 | 0,_=>exact UL i (by omega)
 | 1,_=>exact UO i (by omega)
 | 2,_=>exact kb i (by omega)
 | 3,_=>exact Uo i b (UM (by have:=a 0 (by omega);simpa [Qq] using this))
 | 4,_=>exact YG i ⟨b,g,f,UM (by have:=a 0 (by omega);simpa [Qq] using this),l5 (by have:=a 1 (by omega);simpa [Qq] using this)⟩
def sd (i:AG) (p:FuncId×Int):D:= .fn p.1 [Ap i] []
theorem Jz (i:AG) (B:i.po.length<=140737488355328) (A:i.pa.length<=140737488355328) (z:i.af.length<=140737488355328):AM prog 29 [.d (Ap i)] (AF (Ak i)):=by
 refine Av func29 Z Z ntmps29 Z Z Z λF u=>(AC (AE (V (CQ 1 Z Z Z Z Z Z Z) (AB Z Z (AD (AC ?_))))));refine A2 (AC (AE (J (A1 Z Ny Z Z Z) (J (A5 Z Z Z BE Z) (J (B5 (HQ _ _ _) Z Z) (J (O2 Z Z) (cl Z Z (Id 11 Z (λt=>?_) (λt=>?_)))))))))
 .refine A8 Z Z Z Z ?_;refine A8 Z Z Z Z (A8 Z Z Z Z (A8 Z Z Z Z (J (FL Z Z Z Z) (cl Z Z (A8 Z Z Z Z (A8 Z Z Z Z (A8 Z Z Z Z (A8 Z Z Z Z ?_))))))));refine J (FL Z Z Z Z) (AB Z Z (AD (Dt Z Z (AC (AE (AB Z Z (AD (A6 ?_))))))));exact ⟨_,[],[],A4 Z,Z,Z,Ay (by unfold Ak;rw [ϖ (by omega)]),Z⟩
 .refine Aa Z Z Z (J (A1 Z NO Z Z Z) ?_);refine Aa Z Z Z (J (A5 Z Z Z BE Z) (Aa Z Z Z (J (B5 (HQ _ _ _) Z Z) (Aa Z Z Z (J (O2 Z Z) (J (DT Z Z Z Z) (cl Z Z (Id 17 Z (λs=>?_) (λs=>?_)))))))))
  .refine A8 Z Z Z Z (A8 Z Z Z Z (A8 Z Z Z Z (A8 Z Z Z Z ?_)));refine J (FL Z Z Z Z) (AB Z Z (AD (Dt Z Z (AC (AE (AB Z Z (AD (A6 ?_))))))));exact ⟨_,[],[],A4 Z,Z,Z,Ay (by unfold Ak;rw [ϖ (by omega)]),Z⟩
  .refine Aa Z Z Z (J (A1 Z Ub Z Z Z) (Aa Z Z Z ?_));refine J (A5 Z Z Z BE Z) (Aa Z Z Z (J (B5 (HQ _ _ _) Z Z) (Aa Z Z Z (J (O2 Z Z) (J (DT Z Z Z Z) (AB Z Z (AD (Ah Z (λy=>?_) (λy=>?_)))))))))
   .refine AC (AE (AB Z Z (AD (A6 ?_))));exact ⟨_,[],[],A4 Z,Z,Z,Ay (by unfold Ak;rw [ϖ (by omega)]),Z⟩
   .refine AC (AE (J (A1 Z Kp Z Z Z) (J (A5 Z Z Z Zy Z) (J (CV Z b0 Z) (J (Pf Z Z Z) (cl Z Z (Id 28 Z (λo=>?_) (λo=>?_))))))))
    .refine A8 Z Z Z Z ?_;refine A8 Z Z Z Z (A8 Z Z Z Z (A8 Z Z Z Z (J (FL Z Z Z Z) (cl Z Z (A8 Z Z Z Z (A8 Z Z Z Z (A8 Z Z Z Z (A8 Z Z Z Z ?_))))))));refine J (FL Z Z Z Z) (AB Z Z (AD (Dt Z Z (AC (AE (AB Z Z (AD (A6 ?_))))))));exact ⟨_,[],[],A4 Z,Z,Z,Ay (by unfold Ak;rw [η (by omega),ϖ (by omega)]),Z⟩
    .refine Aa Z Z Z (J (A1 Z NN Z Z Z) ?_);refine Aa Z Z Z (J (A5 Z Z Z jK Z) (Aa Z Z Z (J (CV Z cL Z) (Aa Z Z Z (J (Pf Z Z Z) (J (DT Z Z Z Z) (cl Z Z (Id 34 Z (λl=>?_) (λl=>?_)))))))))
     .refine A8 Z Z Z Z (A8 Z Z Z Z (A8 Z Z Z Z (A8 Z Z Z Z ?_)));refine J (FL Z Z Z Z) (AB Z Z (AD (Dt Z Z (AC (AE (AB Z Z (AD (A6 ?_))))))));exact ⟨_,[],[],A4 Z,Z,Z,Ay (by unfold Ak;rw [η (by omega),ϖ (by omega)]),Z⟩
     .refine Aa Z Z Z (J (A1 Z FE Z Z Z) (Aa Z Z Z ?_));refine J (A5 Z Z Z BI Z) (Aa Z Z Z (J (CV Z E0 Z) (Aa Z Z Z (J (Pf Z Z Z) (J (DT Z Z Z Z) (AB Z Z (AD (Ah Z (λr=>?_) (λr=>?_)))))))))
      .refine AC (AE (AB Z Z (AD (A6 ?_))));exact ⟨_,[],[],A4 Z,Z,Z,Ay (by unfold Ak;rw [η (by omega),ϖ (by omega)]),Z⟩
      .refine AZ (AC ?_);refine AC (AE (J (B1 Z Z Bs Z Z Z) (J (YZ (ds:=[Ap i]) (es:=[]) Z Z Z Z Z) (J (B1 Z Z Bs Z Z Z) (J (YZ (ds:=[Ap i]) (es:=[]) Z Z Z Z Z) (J (B1 Z Z Bs Z Z Z) (J (YZ (ds:=[Ap i]) (es:=[]) Z Z Z Z Z) (J (B1 Z Z Bs Z Z Z) ?_))))))));refine J (YZ (ds:=[Ap i]) (es:=[]) Z Z Z Z Z) (J (B1 Z Z Bs Z Z Z) (J (YZ (ds:=[Ap i]) (es:=[]) Z Z Z Z Z) (V (EH 2 pY Z Z Z Z Z Z Z Z) (J (Qs Z underlying152 Z) (cl Z Z (AD (A2 (Bb (α:=Nat) (λk=>⟨62,[(50,(.own 2 0 5)),(51,(.d (AF 5))),(52,(.d (AF (k:Int))))],[(2,[.rowD 88 1 ((Qq i).map (sd i))])]⟩) (λk=>k<=5/\B7 ((Qq i).map Prod.snd)=B7 (((Qq i).drop k).map Prod.snd)/\∀j,j<k ->((Qq i)[j]?).map Prod.snd=some 0) (λk=>5 - k) (0) (⟨ϱ _,Z,λj h=>absurd h (Nat.not_lt_zero j)⟩) (A0 u [2] Z Z ⟨Z,Z,Z,trivial⟩) ?_))))))));rintro k ⟨w,g,f⟩;refine AC (AE (J (BW Z Z Z) (AD (AC (Ah Z (λc=>?_) (λc=>?_))))))
       .have a:k<(Qq i).length:=by show k<5;have h:=c;omega
        refine AZ (AC (A2 (AC (AE ?_))));have v:=Dc a g;refine J (C7 (k) Z Z (Z) (by show k<5;exact a) Z underlying152 rS Z) (J (DX Z Z (Aq a) Z rz Z) (AB Z Z (AD (AC (AE (cl Z Z ?_))))));refine J (KN (qo i (by omega) (by omega) (by omega) a f) Z Z) (AB Z Z (AD (AC (AE (cl Z Z (J (EO Z Z Z) (AD (Ah Z (λb=>?_) (λb=>?_)))))))))
        .refine AC (AE (cl Z Z (AB Z Z (AD (A6 ?_)))));exact ⟨_,[],[],A4 Z,Z,Z,Ay (by unfold Ak;rw [η (by omega),η (by omega)];exact v.2 _ Z (by simpa using b)),Z⟩
        .refine AZ (AE (J (Aw Z Z (AQ (k+1) (by omega)) Z) (cl Z Z (AD ?_))));exact ⟨k+1,⟨by show k+1<=_;omega,v.1 (by simpa using b),λj x=>(Nat.lt_succ_iff_lt_or_eq.1 x).elim (f j) λh=>by subst h;rw [ω a];show some _=_;congr 1;simpa using b⟩,by show 5 - (k+1)<5 - k;omega,A0 u [2] Z (Z) ⟨Z,Z,Z,trivial⟩⟩
       .refine BL (AC (AE (AB Z Z (AD (A6 ?_)))));exact ⟨_,[],[],A4 Z,Z,Z,Ay (by unfold Ak;rw [η (by omega),η (by omega),g,GE (by have h:=c;show ¬k<5;omega)]),Z⟩
theorem qN (l:List Int) (j:l.length<=140737488355328):AM prog 73 [.d (.sl none (l.map AF))] (AF (B7 l)):=by
 refine Av func73 Z Z ntmps73 Z Z Z λF o=>(AC (AE (AB Z Z (AD (AC (AE (AB Z Z (AD ?_))))))));refine AC (AC (AE (cl Z Z (J (CV Z E0 Z) (cl Z Z (AD (A2 (Hq (α:=Nat) (λk=>⟨18,[(3,(.d (AF 0))),(6,(.d (.sl none (l.map AF)))),(7,(.d (AF (l.length:Int)))),(8,(.d (AF (k:Int))))],[]⟩) (λk=>k<=l.length/\B7 (l.map id)=B7 ((l.drop k).map id)) (λk=>l.length - k) (0) (⟨ϱ _,Z⟩) (hG ⟨Z,Z,Z,Z,trivial⟩) ?_))))))));rintro k ⟨i,c⟩;refine AC (AE (J (BW Z Z Z) (AD (AC (Ah Z (λf=>?_) (λf=>?_))))))
 .have b:k<l.length:=Bi f;refine AZ (AC (A2 (AC (AE ?_))));have g:=Dc b c;refine J (Bq (k) Z Z (Z) (Aq b) E0 Z B4 Z) (J (EJ Z Z BE Z) ?_);refine AB Z Z (AD (AC (AE (cl Z Z (cl Z Z (J (EO Z Z Z) (AD (Ah Z (λa=>?_) (λa=>?_)))))))))
  .refine AC (AE (cl Z Z (AB Z Z (AD (A6 ?_)))));exact ⟨_,[],[],A4 Z,Z,Z,Ay ((g.2 l[k] Z (by simpa using a)).trans (by rw [List.map_id])),Z⟩
  .refine AZ (AE (J (Aw Z Z (AQ (k+1) (by omega)) Z) (cl Z Z (AD ?_))));exact ⟨k+1,⟨by show k+1<=_;omega,g.1 (by simpa using a)⟩,by show l.length - (k+1)<l.length - k;omega,⟨Z,Z,λ_ _=>Td.get (l:=[(3,_),(6,_),(7,_),(8,_)]) ⟨Z,Z,Z,Z,trivial⟩⟩⟩
 .refine BL (AC (AE (cl Z Z (AB Z Z (AD (A6 ?_))))));exact ⟨_,[],[],A4 Z,Z,Z,Ay (by rw [List.map_id] at c;rw [c,GE (by have h:=f;omega)]),Z⟩
def Ba (a b:AO):Int:=B7 [FT a.k b.k,HH a.acc.o b.acc.o,FT a.acc.k b.acc.k,HH a.acc.a b.acc.a,HH a.f b.f,HH a.t b.t]
def HE (a b:AG):Int:=B7 [FT b.pr a.pr,FT a.sq b.sq]
set_option maxHeartbeats 2000000 in
theorem Kv (a b:AO):AM prog 33 [.d (C4 a),.d (C4 b)] (AF (Ba a b)):=by
 refine Av func33 Z Z ntmps33 Z Z Z λF c=>(AC (AE (V (CQ 1 Z Z Z Z Z Z Z) ?_)));refine V (CQ 2 Z Z Z Z Z Z Z) (AB Z Z (AD (AC (Dr [[],[0],[],[2],[0,1,2,3],[],[5],[5,6],[],[8],[8,9],rg 11,[],[12],[12,13],[],[15],[15,16],rg 18,[],[19],[19,20],[],[22],[22,23],rg 25,[],[26],[],[28],rg 30,[],[31],[],[33],rg 35,rg 36,rg 37,rg 38] mixed Z (E6 (AX [2] Z (A1 Z Ua Z Z Z) (BQ [5] Z Z (λ_=>A9 (A5 Z Z Z BE Z)) (AX [3] Z (A1 Z Ua Z Z Z) ?_))))))));refine BQ [7] Z Z (λ_=>A9 (A5 Z Z Z BE Z)) (AX [6,8] Z (B5 (Qc a.k b.k) Z Z) (AX [2] Z (A1 Z EL Z Z Z) (AX [10] Z (A1 Z QX Z Z Z) (BQ [11] Z Z (λ_=>A9 (A5 Z Z Z H1 Z)) (AX [3] Z (A1 Z EL Z Z Z) (AX [13] Z (A1 Z QX Z Z Z) (BQ [14] Z Z (λ_=>A9 (A5 Z Z Z H1 Z)) (AX [12,15] Z (B5 (Qb a.acc.o b.acc.o) Z Z) ?_))))))));refine AX [2] Z (A1 Z EL Z Z Z) (AX [17] Z (A1 Z NM Z Z Z) (BQ [18] Z Z (λ_=>A9 (A5 Z Z Z BE Z)) (AX [3] Z (A1 Z EL Z Z Z) (AX [20] Z (A1 Z NM Z Z Z) (BQ [21] Z Z (λ_=>A9 (A5 Z Z Z BE Z)) (AX [19,22] Z (B5 (Qc a.acc.k b.acc.k) Z Z) (AX [2] Z (A1 Z EL Z Z Z) (AX [24] Z (A1 Z NL Z Z Z) ?_))))))));refine BQ [25] Z Z (λ_=>A9 (A5 Z Z Z H1 Z)) (AX [3] Z (A1 Z EL Z Z Z) (AX [27] Z (A1 Z NL Z Z Z) (BQ [28] Z Z (λ_=>A9 (A5 Z Z Z H1 Z)) (AX [26,29] Z (B5 (Qb a.acc.a b.acc.a) Z Z) (AX [2] Z (A1 Z Ko Z Z Z) (BQ [31] Z Z (λ_=>A9 (A5 Z Z Z H1 Z)) (AX [3] Z (A1 Z Ko Z Z Z) (BQ [33] Z Z (λ_=>A9 (A5 Z Z Z H1 Z)) ?_))))))));refine AX [32,34] Z (B5 (Qb a.f b.f) Z Z) (AX [2] Z (A1 Z Kn Z Z Z) (BQ [36] Z Z (λ_=>A9 (A5 Z Z Z H1 Z)) (AX [3] Z (A1 Z Kn Z Z Z) (BQ [38] Z Z (λ_=>A9 (A5 Z Z Z H1 Z)) (Dh 35 Z Z Z (An 36 Z Z (J (B5 (Qb a.t b.t) Z Z) (AD ⟨Z,?_⟩))))))));refine An 37 Z Z (V (EH 3 BX Z Z Z Z Z Z Z Z) (AD ⟨Z,?_⟩));refine An 38 Z Z (J (Hx [3] (qN [FT a.k b.k,HH a.acc.o b.acc.o,FT a.acc.k b.acc.k,HH a.acc.a b.acc.a,HH a.f b.f,HH a.t b.t] (by simp)) (by exact ⟨.inr ⟨_,_,Z,.own Z Z (by simp) (ς (by simp)),Z⟩,trivial⟩) Z Z) (AD ⟨Z,?_⟩));refine An 39 Z Z (AB Z Z (AD ⟨Z,?_⟩));refine Dg (A6 ?_);exact ⟨_,[],[],A4 Z,Z,Z,Z,Z⟩
theorem V3 (a b:AG):AM prog 184 [.d (Ap a),.d (Ap b)] (AF (HE a b)):=by
 refine Av func184 Z Z ntmps184 Z Z Z λF c=>(AC (AE (V (CQ 1 Z Z Z Z Z Z Z) (V (CQ 2 Z Z Z Z Z Z Z) ?_))));refine AB Z Z (AD (AC (Dr [[],[0],[],[2],[0,1,2,3],[],[5],[],[7],rg 9,rg 10,rg 11,rg 12] mixed Z (E6 (AX [3] Z (A1 Z Ub Z Z Z) (BQ [5] Z Z (λ_=>A9 (A5 Z Z Z BE Z)) (AX [2] Z (A1 Z Ub Z Z Z) (BQ [7] Z Z (λ_=>A9 (A5 Z Z Z BE Z)) ?_))))))));refine AX [6,8] Z (B5 (Qc b.pr a.pr) Z Z) (AX [2] Z (A1 Z NO Z Z Z) (BQ [10] Z Z (λ_=>A9 (A5 Z Z Z BE Z)) (AX [3] Z (A1 Z NO Z Z Z) (BQ [12] Z Z (λ_=>A9 (A5 Z Z Z BE Z)) (Dh 9 Z Z Z (An 10 Z Z (J (B5 (Qc a.sq b.sq) Z Z) (AD ⟨Z,?_⟩))))))));refine An 11 Z Z (V (EH 3 BX Z Z Z Z Z Z Z Z) (AD ⟨Z,?_⟩));refine An 12 Z Z (J (Hx [3] (qN [FT b.pr a.pr,FT a.sq b.sq] (by simp)) (by exact ⟨.inr ⟨_,_,Z,.own Z Z (by simp) (ς (by simp)),Z⟩,trivial⟩) Z Z) (AD ⟨Z,?_⟩));refine An 13 Z Z (AB Z Z (AD ⟨Z,?_⟩));refine Dg (A6 ?_);exact ⟨_,[],[],A4 Z,Z,Z,Z,Z⟩
theorem cS (a b:AG):AM prog 149 [.d (Ap a),.d (Ap b)] (.raw (.bool (decide (HE a b<0)))):=by
 refine Av func149 Z Z ntmps149 Z Z Z λF c=>(AC (AE (V (CQ 1 Z Z Z Z Z Z Z) (V (CQ 2 Z Z Z Z Z Z Z) (AB Z Z (AD ?_))))));refine AC (AE (J (B1 Z Z Bs Z Z Z) (J (B1 Z Z Bs Z Z Z) (J (B5 (V3 a b) Z Z) (J (BW Z Z Z) (AB Z Z (AD (A6 ?_))))))));exact ⟨_,[],[],A4 Z,Z,Z,Z,Z⟩
def OR (x:AO×Int):D:= .agg [AF x.1.k,Ae x.1.acc.o,AF x.1.acc.k,Ae x.1.acc.a,Ae x.1.f,Ae x.1.t,AF x.2]
theorem Xw (a b:AO×Int):AM prog 32 [.d (OR a),.d (OR b)] (AF (Ba a.1 b.1)):=by
 refine Av func32 Z Z ntmps32 Z Z Z λF c=>(AC (AE (V (CQ 1 Z Z Z Z Z Z Z) (V (CQ 2 Z Z Z Z Z Z Z) (AB Z Z (AD (AC ?_)))))));refine AE (J (A1 Z NK Z Z Z) (J (B1 Z Z CL Z Z Z) (J (A1 Z NK Z Z Z) (J (B1 Z Z CL Z Z Z) (J (B5 (Kv a.1 b.1) Z Z) (AB Z Z (AD (A6 ?_))))))));exact ⟨_,[],[],A4 Z,Z,Z,Z,Z⟩
theorem Kb:∀a b c:List UInt8,QL a b=true ->QL b c=true ->QL a c=true
 | [],[],_,h,_=>by simp [QL,Op.bytesLess] at h
 | [],_::_,[],_,h=>by simp [QL,Op.bytesLess] at h
 | [],_::_,_::_,_,_=>by simp [QL,Op.bytesLess]
 | _::_,[],_,h,_=>by simp [QL,Op.bytesLess] at h
 | _::_,_::_,[],_,h=>by simp [QL,Op.bytesLess] at h
 | a::x,b::y,c::z,g,f=>by
  simp only [QL,Op.bytesLess,Bool.or_eq_true,fI,eA,beq_iff_eq] at g f⊢;rcases g with g | ⟨rfl,g⟩<;>rcases f with f | ⟨rfl,f⟩
  .exact .inl (UInt8.lt_trans g f)
  .exact .inl g
  .exact .inl f
  .exact .inr ⟨Z,Kb x y z g f⟩
theorem UY (a:List UInt8):QL a a=false:=by grind [IG,QL]
structure PC {γ:Type} (c:γ ->γ ->Int):Prop where
 anti:∀x y,c y x= - c x y
 trans:∀x y z,c x y<0 ->c y z<0 ->c x z<0
 eqv:∀x y z,c x y=0 ->c x z=c y z
theorem ey:PC FT:=⟨λx y=>by unfold FT;split<;>split<;>first | omega | rfl,λx y z=>by unfold FT;split<;>split<;>(try split)<;>(try split)<;>(try split)<;>(try split)<;>first | omega | simp,λx y z h=>by
 have:x=y:=by
  unfold FT at h;split at h; · cases h
  split at h; · cases h
  omega
 rw [this]⟩
theorem P6 {a b:List UInt8}:HH a b=0↔a=b:=by grind [HH,IG,QL]
theorem N7 {a b:List UInt8}:HH a b<0↔QL a b=true:=by grind [HH]
theorem ew:PC HH:=⟨λx y=>by
 unfold HH
 by_cases b:QL x y=true
 .have a:¬QL y x=true:=λa=>by have:=Kb x y x b a;rw [UY] at this;cases this
  rw [η a,ϖ b,ϖ b];rfl
 .by_cases a:QL y x=true
  .rw [ϖ a,η b,ϖ a]
  .rw [η a,η b,η b,η a];rfl,λx y z b a=>N7.2 (Kb x y z (N7.1 b) (N7.1 a)),λx y z h=>by rw [P6.1 h]⟩
theorem PC.comap {b:Type} (h:PC c) (f:b ->a):PC λx y=>c (f x) (f y):=⟨λ_ _=>h.anti _ _,λ_ _ _=>h.trans _ _ _,λ_ _ _=>h.eqv _ _ _⟩
theorem PC.rev (h:PC c):PC λx y=>c y x:=⟨λx y=>h.anti y x,λx y z b f=>h.trans _ _ _ f b,λx y z b=>by
 have e:c x y=0:=by have:=h.anti y x;omega
 have:=h.eqv x y z e
 rw [h.anti x z,h.anti y z,this]⟩
theorem PC.zero:PC λ_ _:a=>(0:Int):=⟨λ_ _=>rfl,λ_ _ _ h=>by omega,λ_ _ _ _=>rfl⟩
theorem PC.lex {r:a ->a ->List Int} (h:PC c) (k:PC λx y=>B7 (r x y)):PC λx y=>B7 (c x y::r x y):=by
 have l:∀x y,c x y=0↔c y x=0:=λx y=>by have:=h.anti x y;omega
 refine ⟨λx y=>?_,λx y z=>?_,λx y z=>?_⟩
 .simp only [B7]
  by_cases e:c x y=0
  .rw [ϖ e,ϖ ((l x y).1 e)];exact k.anti x y
  .rw [η e,η (λo=>e ((l x y).2 o))];exact h.anti x y
 .simp only [B7];intro b g
  by_cases f:c x y=0<;>by_cases i:c y z=0
  .have j:c x z=0:=by rw [h.eqv x y z f];exact i
   rw [ϖ f] at b;rw [ϖ i] at g;rw [ϖ j];exact k.trans x y z b g
  .rw [η i] at g;have j:c x z=c y z:=h.eqv x y z f;omega
  .rw [η f] at b;have j:c z x=c y x:=(h.eqv y z x i).symm;have s:c x z=c x y:=by rw [h.anti z x,h.anti y x,j]
   omega
  .rw [η f] at b;rw [η i] at g;have:=h.trans x y z b g;omega
 .simp only [B7];intro b
  have f:c x y=0:=by
   omega
  rw [ϖ f] at b;rw [h.eqv x y z f];rw [k.eqv x y z b]
theorem PC.last:PC λx y:a=>B7 ((λ_ _:a=>([]:List Int)) x y):=PC.zero
theorem Ly:PC Ba:=
 PC.lex (ey.comap AO.k)<| PC.lex (ew.comap λr:AO=>r.acc.o)<| PC.lex (ey.comap λr:AO=>r.acc.k)<| PC.lex (ew.comap λr:AO=>r.acc.a)<| PC.lex (ew.comap AO.f)<| PC.lex (ew.comap AO.t) PC.last
theorem DI:PC HE:=PC.lex (ey.comap AG.pr).rev<| PC.lex (ey.comap AG.sq) PC.last
theorem PC.refl (h:PC c) (x:a):c x x=0:=by have:=h.anti x x;omega
theorem PC.swo (h:PC c):Go.Sort.SWO (ltOf c):=by
 refine ⟨λx=>?_,λx y z f b=>?_,λx y z f b=>?_⟩
 .simp [ltOf,h.refl]
 .simp only [ltOf,fI] at*;exact h.trans x y z f b
 .simp only [ltOf,decide_eq_false_iff_not] at*;have k:=h.anti x y;have j:=h.anti y z;have i:=h.anti x z
  by_cases e:c x y=0
  .rw [h.eqv x y z e];exact b
  .by_cases g:c y z=0
   .have:=h.eqv y z x g;omega
   .have:=h.trans z y x (by omega) (by omega);omega
theorem P7 {a b:Int}:FT a b=0↔a=b:=by grind [FT]
theorem Cr {a b:AO}:Ba a b=0↔a=b:=by grind [Ba,B7,AO.eq_iff,Uv.eq_iff,P7,P6]
theorem lx {k:Type} {R:k ->k ->Prop} (c:∀x,¬R x x) (o:∀x y z,R x y ->R y z ->R x z):∀{l m:List k},l.Pairwise R ->m.Pairwise R ->(∀x,x∈l↔x∈m) ->l=m
 | [],[],_,_,_=>rfl
 | [],b::m,_,_,h=>by have:=(h b).2 (by simp);cases this
 | a::l,[],_,_,h=>by have:=(h a).1 (by simp);cases this
 | a::l,b::m,j,i,h=>by
  rw [ga] at j i
  have e:a=b:=by
   rcases di.1 ((h a).1 (by simp)) with e | g
   .exact e
   .rcases di.1 ((h b).2 (by simp)) with e | r
    .exact e.symm
    .exact absurd (o _ _ _ (j.1 b r) (i.1 a g)) (c a)
  subst e
  congr 1
  refine lx c o j.2 i.2 λx=>⟨λf=>?_,λf=>?_⟩
  .rcases di.1 ((h x).1 (by simp [f])) with e | g
   .subst e;exact absurd (j.1 x f) (c x)
   .exact g
  .rcases di.1 ((h x).2 (by simp [f])) with e | g
   .subst e;exact absurd (i.1 x f) (c x)
   .exact g
abbrev TU:Uv:=⟨[],0,[]⟩
def Bj (r:AO):Int:=
 if r.k=0 then (if r.acc.o≠ []/\r.acc.a≠ []/\0<=r.acc.k/\r.acc.k<5/\r.f=[]/\r.t=[] then 0 else 3)
 else if r.k=1 then (if r.f≠ []/\r.t≠ []/\r.f≠r.t/\r.acc=TU then 0 else 3)
 else if r.k=2 then (if r.f≠ []/\r.t=[]/\r.acc=TU then 0 else 3) else 11
theorem Ux (r:AO):AM prog 167 [.d (C4 r)] (AF (Bj r)):=by
 refine Av func167 Z Z ntmps167 Z Z Z λF v=>(AC (AE (V (CQ 1 Z Z Z Z Z Z Z) (AB Z Z ?_))));refine AD (AC (AE (AB Z Z (AD (AC (AC (AE (J (A1 Z Ua Z Z Z) ?_))))))));refine J (A5 Z Z Z BE Z) (AD (A2 (AC (AE (J (MB Z Z Z) (AB Z Z (AD (Ah Z (λu=>?_) (λu=>?_)))))))));refine AE (J (A1 Z EL Z Z Z) (J (A1 Z QX Z Z Z) (J (A5 Z Z Z H1 Z) (J (Ep Z Z Z) (cl Z Z (Id 12 Z (λt=>?_) (λt=>?_)))))));refine Aa Z Z Z (J (A1 Z EL Z Z Z) ?_);refine Aa Z Z Z (J (A1 Z NL Z Z Z) (Aa Z Z Z (J (A5 Z Z Z H1 Z) (Aa Z Z Z (J (Ep Z Z Z) (J (FL Z Z Z Z) (cl Z Z (Id 18 Z (λs=>?_) (λs=>?_)))))))));refine Aa Z Z Z (J (A1 Z EL Z Z Z) ?_);refine Aa Z Z Z (J (A1 Z NM Z Z Z) (Aa Z Z Z (J (A5 Z Z Z BE Z) (Aa Z Z Z (J (D2 Z Z Z) (J (FL Z Z Z Z) (cl Z Z (Id 24 Z (λo=>?_) (λo=>?_)))))))));refine Aa Z Z Z (J (A1 Z EL Z Z Z) ?_);refine Aa Z Z Z (J (A1 Z NM Z Z Z) (Aa Z Z Z (J (A5 Z Z Z BE Z) (Aa Z Z Z (J (BW Z Z Z) (J (FL Z Z Z Z) (cl Z Z (Id 30 Z (λl=>?_) (λl=>?_)))))))));refine Aa Z Z Z (J (A1 Z Ko Z Z Z) (Aa Z Z Z (J (A5 Z Z Z H1 Z) (Aa Z Z Z (J (Dx Z Z Z) (J (FL Z Z Z Z) (cl Z Z (Id 35 Z (λk=>?_) (λk=>?_)))))))));refine Aa Z Z Z (J (A1 Z Kn Z Z Z) (Aa Z Z Z (J (A5 Z Z Z H1 Z) (Aa Z Z Z (J (Dx Z Z Z) (J (FL Z Z Z Z) ?_))))));refine AB Z Z (AD (AC (AC (AE (cl Z Z (J (O2 Z Z) (AD (Ah Z (λa=>?_) (λa=>?_)))))))))
 rotate_left
 refine AZ ?_
 rotate_left
 refine A8 Z Z Z Z (A8 Z Z Z Z (A8 Z Z Z Z (J (DT Z Z Z Z) ?_)));refine AB Z Z (AD (AC (AC (AE (cl Z Z (J (Dm Z Z) (AD (Dt Z Z ?_))))))))
 rotate_left
 refine A8 Z Z Z Z (A8 Z Z Z Z (A8 Z Z Z Z (J (DT Z Z Z Z) (cl Z Z (A8 Z Z Z Z (A8 Z Z Z Z (A8 Z Z Z Z (J (DT Z Z Z Z) ?_))))))));refine AB Z Z (AD (AC (AC (AE (cl Z Z (J (Dm Z Z) (AD (Dt Z Z ?_))))))))
 rotate_left
 refine A8 Z Z Z Z (A8 Z Z Z Z (A8 Z Z Z Z (A8 Z Z Z Z (J (DT Z Z Z Z) (cl Z Z ?_)))));refine A8 Z Z Z Z (A8 Z Z Z Z (A8 Z Z Z Z (J (DT Z Z Z Z) (cl Z Z (A8 Z Z Z Z (A8 Z Z Z Z (A8 Z Z Z Z (J (DT Z Z Z Z) ?_))))))));refine AB Z Z (AD (AC (AC (AE (cl Z Z (J (Dm Z Z) (AD (Dt Z Z ?_))))))))
 rotate_left
 refine A8 Z Z Z Z (A8 Z Z Z Z (A8 Z Z Z Z ?_));refine A8 Z Z Z Z (J (DT Z Z Z Z) (cl Z Z (A8 Z Z Z Z (A8 Z Z Z Z (A8 Z Z Z Z (A8 Z Z Z Z (J (DT Z Z Z Z) (cl Z Z ?_))))))));refine A8 Z Z Z Z (A8 Z Z Z Z (A8 Z Z Z Z (J (DT Z Z Z Z) (cl Z Z (A8 Z Z Z Z (A8 Z Z Z Z (A8 Z Z Z Z (J (DT Z Z Z Z) ?_))))))));refine AB Z Z (AD (AC (AC (AE (cl Z Z (J (Dm Z Z) (AD (Dt Z Z ?_))))))))
 rotate_left
 refine A8 Z Z Z Z (A8 Z Z Z Z (A8 Z Z Z Z (A8 Z Z Z Z (J (DT Z Z Z Z) (cl Z Z (A8 Z Z Z Z (A8 Z Z Z Z (A8 Z Z Z Z ?_))))))));refine A8 Z Z Z Z (J (DT Z Z Z Z) (cl Z Z (A8 Z Z Z Z (A8 Z Z Z Z (A8 Z Z Z Z (A8 Z Z Z Z (J (DT Z Z Z Z) (cl Z Z ?_))))))));refine A8 Z Z Z Z (A8 Z Z Z Z (A8 Z Z Z Z (J (DT Z Z Z Z) (cl Z Z (A8 Z Z Z Z (A8 Z Z Z Z (A8 Z Z Z Z (J (DT Z Z Z Z) ?_))))))));refine AB Z Z (AD (AC (AC (AE (cl Z Z (J (Dm Z Z) (AD (Dt Z Z ?_))))))))
 rotate_left
 refine AC (AE (J (MB Z Z Z) (AB Z Z (AD (Ah Z (λj=>?_) (λj=>?_))))));refine AE (J (A1 Z Ko Z Z Z) (J (A5 Z Z Z H1 Z) (J (Ep Z Z Z) (cl Z Z (Id 45 Z (λi=>?_) (λi=>?_))))));refine Aa Z Z Z (J (A1 Z Kn Z Z Z) (Aa Z Z Z (J (A5 Z Z Z H1 Z) (Aa Z Z Z (J (Ep Z Z Z) (J (FL Z Z Z Z) (cl Z Z (Id 50 Z (λh=>?_) (λh=>?_)))))))));refine Aa Z Z Z (J (A1 Z Ko Z Z Z) (Aa Z Z Z (J (A5 Z Z Z H1 Z) ?_)));refine Aa Z Z Z (J (A1 Z Kn Z Z Z) (Aa Z Z Z (J (A5 Z Z Z H1 Z) (Aa Z Z Z (J (Ep Z Z Z) (J (FL Z Z Z Z) (cl Z Z (Id 57 Z (λg=>?_) (λg=>?_)))))))));refine Aa Z Z Z (J (A1 Z EL Z Z Z) (Aa Z Z Z (J (B1 Z Z md Z Z Z) (Aa Z Z Z (J (FU Te XK Z Z Z) (Aa Z Z Z (J (RZ (la:=TV r.acc) (lb:=TV TU) (ds:=oX) (by kernel_rfl) (by kernel_rfl) (by kernel_rfl) Z Z Z Z (IR _) (IR _) (WT _ _) Z) (J (FL Z Z Z Z) ?_))))))));refine AB Z Z (AD (AC (AC (AE (cl Z Z (J (O2 Z Z) (AD (Ah Z (λa=>?_) (λa=>?_)))))))))
 rotate_left
 refine AZ ?_
 rotate_left
 refine A8 Z Z Z Z (A8 Z Z Z Z (A8 Z Z Z Z (A8 Z Z Z Z (J (DT Z Z Z Z) ?_))));refine AB Z Z (AD (AC (AC (AE (cl Z Z (J (Dm Z Z) (AD (Dt Z Z ?_))))))))
 rotate_left
 refine A8 Z Z Z Z (A8 Z Z Z Z (A8 Z Z Z Z ?_));refine A8 Z Z Z Z (A8 Z Z Z Z (J (DT Z Z Z Z) (cl Z Z (A8 Z Z Z Z (A8 Z Z Z Z (A8 Z Z Z Z (A8 Z Z Z Z (J (DT Z Z Z Z) ?_))))))));refine AB Z Z (AD (AC (AC (AE (cl Z Z (J (Dm Z Z) (AD (Dt Z Z ?_))))))))
 rotate_left
 refine A8 Z Z Z Z (A8 Z Z Z Z (A8 Z Z Z Z (J (DT Z Z Z Z) (cl Z Z (A8 Z Z Z Z (A8 Z Z Z Z (A8 Z Z Z Z ?_)))))));refine A8 Z Z Z Z (A8 Z Z Z Z (J (DT Z Z Z Z) (cl Z Z (A8 Z Z Z Z (A8 Z Z Z Z (A8 Z Z Z Z (A8 Z Z Z Z (J (DT Z Z Z Z) ?_))))))));refine AB Z Z (AD (AC (AC (AE (cl Z Z (J (Dm Z Z) (AD (Dt Z Z ?_))))))))
 rotate_left
 refine AC (AE (J (MB Z Z Z) (AB Z Z (AD (Ah Z (λf=>?_) (λf=>?_))))));refine AE (J (A1 Z Ko Z Z Z) (J (A5 Z Z Z H1 Z) (J (Ep Z Z Z) (cl Z Z (Id 68 Z (λc=>?_) (λc=>?_))))));refine Aa Z Z Z (J (A1 Z Kn Z Z Z) (Aa Z Z Z (J (A5 Z Z Z H1 Z) (Aa Z Z Z (J (Dx Z Z Z) (J (FL Z Z Z Z) (cl Z Z (Id 73 Z (λb=>?_) (λb=>?_)))))))));refine Aa Z Z Z (J (A1 Z EL Z Z Z) (Aa Z Z Z (J (B1 Z Z md Z Z Z) (Aa Z Z Z (J (FU Te XK Z Z Z) (Aa Z Z Z (J (RZ (la:=TV r.acc) (lb:=TV TU) (ds:=oX) (by kernel_rfl) (by kernel_rfl) (by kernel_rfl) Z Z Z Z (IR _) (IR _) (WT _ _) Z) (J (FL Z Z Z Z) ?_))))))));refine AB Z Z (AD (AC (AC (AE (cl Z Z (J (O2 Z Z) (AD (Ah Z (λa=>?_) (λa=>?_)))))))))
 rotate_left
 refine AZ ?_
 rotate_left
 refine A8 Z Z Z Z (A8 Z Z Z Z (A8 Z Z Z Z (A8 Z Z Z Z (J (DT Z Z Z Z) ?_))));refine AB Z Z (AD (AC (AC (AE (cl Z Z (J (Dm Z Z) (AD (Dt Z Z ?_))))))))
 rotate_left
 refine A8 Z Z Z Z ?_;refine A8 Z Z Z Z (A8 Z Z Z Z (J (DT Z Z Z Z) (cl Z Z (A8 Z Z Z Z (A8 Z Z Z Z (A8 Z Z Z Z (A8 Z Z Z Z (J (DT Z Z Z Z) ?_))))))));refine AB Z Z (AD (AC (AC (AE (cl Z Z (J (Dm Z Z) (AD (Dt Z Z ?_))))))))
 rotate_left
 all_goals
  refine AC (AE (AB Z Z (AD (A6 ?_))));exact ⟨_,[],[],A4 Z,Z,Z,Ay (by unfold Bj;simp_all<;>(intros;omega)),Z⟩
def QQ:List AO ->AO ->List AO
 | [],r=> [r]
 | a::l,r=>if Ba a r<0 then a::QQ l r else if a=r then a::l else r::a::l
def YU (l:List AO):Prop:=l.Pairwise λa b=>Ba a b<0
theorem fm {x:AO}:x∈QQ f g↔x=g\/x∈f:=by
 induction f with
 | nil=>simp [QQ]
 | cons a f b=>
  grind [QQ]
theorem bE (h:YU f) (r:AO):YU (QQ f r):=by
 induction f with
 | nil=>simp [QQ,YU]
 | cons a f g=>
  simp only [YU,ga] at h;simp only [QQ]
  split
  .rename_i j
   refine ga.2 ⟨λx b=>?_,g h.2⟩;rcases fm.1 b with rfl | b
   all_goals (grind)
  .split
   .exact ga.2 h
   .rename_i j i
    have c:Ba r a<0:=by
     have:=Ly.anti a r;have k:Ba a r≠0:=λe=>i (Cr.1 e);omega
    refine ga.2 ⟨λx b=>?_,ga.2 h⟩;rcases di.1 b with rfl | b
    .exact c
    .exact Ly.trans _ _ _ c (h.1 x b)
def RE (c:List (AO×Int)):List AO:=(c.map Prod.fst).foldl QQ []
theorem O5 (c:List (AO×Int)) (x:AO×Int):RE (c++ [x])=QQ (RE c) x.1:=by simp [RE]
theorem Yd (c:List (AO×Int)) (r:AO):r∈RE c↔r∈c.map Prod.fst:=by
 induction c using YV with
 | h0=>simp [RE]
 | h1 l x a=>rw [O5,fm,a];simp only [du,dz,List.map_nil,ν,ξ];exact or_comm
theorem Yc (c:List (AO×Int)):YU (RE c):=by
 induction c using YV with
 | h0=>simp [RE,YU]
 | h1 l x a=>rw [O5];exact bE a _
def Ks (c:List (AO×Int)):List (AO×Int):=((RE c).map λr=>(r,Ab c r)).filter λx=>decide (x.2≠0)
def bp (i:AG):List (AO×Int):=Ks (dq i)
theorem Jy (c:List (AO×Int)):(Ks c).Pairwise λa b=>Ba a.1 b.1<0:=by
 unfold Ks;refine List.Pairwise.filter _ ?_;rw [ep];exact Yc c
theorem Dv (c:List (AO×Int)) (a:AO) (b:Int):(a,b)∈dN c↔a∈c.map Prod.fst/\b=Ab c a:=by
 constructor
 .intro h;refine ⟨(Hv c a).1 (υ.2 ⟨_,h,Z⟩),?_⟩;rw [<-JG,cc (En c) h]
 .rintro ⟨h,rfl⟩;rw [<-JG];exact H6 ((Hv c a).2 h)
theorem GJ (c:List (AO×Int)) (x:AO×Int):x∈Ks c↔x∈dN c/\x.2≠0:=by grind [Ks,Dv,Yd]
theorem WK {c f g:List (AO×Int)} (l:f.Perm ((dN c).filter λx=>decide (x.2≠0))) (k:g.Perm f) (j:g.Pairwise λa b=>¬Ba b.1 a.1<0):g=Ks c:=by
 have h:=k.trans l;refine lx (R:=λa b=>Ba a.1 b.1<0) (λx=>by rw [Ly.refl];omega) (λx y z=>Ly.trans x.1 y.1 z.1) ?_ (Jy c) λx=>?_
 .have i:(g.map Prod.fst).Nodup:=by
   refine ((h.map Prod.fst).nodup_iff).2 ?_;exact (En c).sublist (List.Sublist.map _ fv)
  rw [List.Nodup,ep] at i;refine (j.and i).imp λ{a b} ⟨s,o⟩=>?_;have:=Ly.anti a.1 b.1;have r:Ba a.1 b.1≠0:=λe=>o (Cr.1 e);omega
 .rw [h.mem_iff,GJ,Ψ,fI]
theorem bt (x:AO×Int):∃a,OR x= .agg a:=⟨_,Z⟩
theorem Ws {c f:List (AO×Int)} (g:f.Perm ((dN c).filter λx=>decide (x.2≠0))):f.length=(Ks c).length:=by
 have k:=List.pairwise_mergeSort (le:=λa b:AO×Int=>decide (¬Ba b.1 a.1<0)) (λa b d g j=>by
  have:=Ly.swo.ntrans d.1 b.1 a.1;simp only [ltOf,decide_eq_false_iff_not] at this;simp only [fI] at g j⊢
  exact this j g) (λa b=>by have:=Ly.anti a.1 b.1;simp only [Bool.or_eq_true,fI];omega) f
 have i:=List.mergeSort_perm f (λa b:AO×Int=>decide (¬Ba b.1 a.1<0));rw [<-WK g i (k.imp λ{a b} h=>by simpa using h)];exact i.length_eq.symm
section
variable {F:Fr} {s:AS} {d:Nat} {x y:Operand} {ty:TypeId} {pos:String} {aft:Array Edge} {gd:Option (Nat×Bool)} {at_:Array TypeId} {f n:Nat} {row:List D} {hp':Hp}
theorem Yv (c g:List (AO×Int)) (v:g.Perm ((dN c).filter λx=>decide (x.2≠0))) (i:g.length<4611686018427387904) (l:s.ev x=some (.own f 0 n)) (j:s.ev y=some (.d (.raw (.func (.func 32) #[] #[])))) (o:cr s.hp f 0=some (.rowD 55 7 row)) (h:row=g.map OR) (r:n=g.length) (t:BH s.hp f 0 (.rowD 55 7 ((Ks c).map OR))=some hp') (u:Nat.blt d s.n=true):
  AH prog F ⟨some d,.call {callee:= .value (.func 31),args:= #[x,y],argTypes:=at_},ty,pos,aft,gd⟩ s ⟨s.n,(d,.d (.tup []))::s.env,hp'⟩ (λ_ _=>true):=
 La qZ (k:=7) (by decide) isAgg55 sizeOf55 func32 Z Z bt (λa b=>Ba a.1 b.1) (Ly.comap Prod.fst).swo g (Ks c) i (λx _ y _=>Xw x y) (λA z w=>WK v z w) Z l j Kq o h r t u
end
variable {a:Type} {c:List a} {f:a ->Bool} {g:Type} {h:a ->g} {k:Nat} {i:List Int} {j:dG} {o:g} {x:a} {s:List a} {t:Int} {A:List a} {u:Nat}
def ct (i:AG):List (AO×Int):=if Ak i=0 then bp i else []
theorem Jd (h:B7 i=0):∀x∈i,x=0:=by
 have:=(Pc (l:=i) (f:=id)).1 (by rw [List.map_id];exact h);exact this
theorem FG {i:AG} (h:Ak i=0):oc i/\(0<=i.id/\i.id<=1000000000)/\(0<=i.sq/\i.sq<=1000000000)/\(0<=i.pr/\i.pr<=2)/\I7 i=0/\Rj i=0/\Qk i=0/\Nf i=0/\Na i=0:=by
 unfold Ak at h
 split at h; · cases h
 split at h; · cases h
 rename_i g f
 have a:=Jd h;have c:=a (I7 i) (by simp [Qq]);have b:=a (Rj i) (by simp [Qq]);exact ⟨⟨by omega,by omega,by omega,UM c,l5 b⟩,by omega,by omega,by omega,c,b,a _ (by simp [Qq]),a _ (by simp [Qq]),a _ (by simp [Qq])⟩
theorem Ix (i:AG):(dq i).length=i.po.length+4*i.pa.length:=by simp [dq,Iy,LQ]
theorem HS (c:List (AO×Int)):(dN c).length<=c.length:=by
 induction c using YV with
 | h0=>simp [dN]
 | h1 l x a=>
  grind [c6,J5,dN]
theorem nD {B X:List a} (g:(s++A.filter f).Perm X) (c:A.Perm (x::B)) (b:f x=true):((s++ [x])++B.filter f).Perm X:=by
 have h:=c.filter f;rw [List.filter_cons_of_pos b] at h;rw [gn];exact (List.Perm.append_left s h.symm).trans g
theorem jO {B X:List a} (g:(s++A.filter f).Perm X) (c:A.Perm (x::B)) (b:¬f x=true):(s++B.filter f).Perm X:=by
 have h:=c.filter f;rw [List.filter_cons_of_neg b] at h;exact (List.Perm.append_left s h.symm).trans g
theorem Vf {M:List a} (b:(s++A.filter f).Perm (M.filter f)):s.length<=M.length:=by
 have h:=b.length_eq
 grind
theorem So (i:AG) (H:i.po.length<=140737488355328) (G:i.pa.length<=140737488355328) (E:i.af.length<=140737488355328):AM prog 13 [.d (Ap i)] (.tup [.sl none ((ct i).map OR),AF (Ak i)]):=by
 by_cases t:Ak i=0
 .have z:=(FG t).1;have A:ct i=bp i:=ϖ t
  obtain ⟨M,g⟩:∃M,dN (dq i)=M:=⟨_,Z⟩
  have B:=(Pn i z).by [(2,20)] rfl;have C:M.length<=1280:=by rw [<-g];have N:=HS (dq i);have L:=Ix i;have K:=z.po;have I:=z.pa;omega
  rw [g] at B;rw [A];have c:=Jz i H G E;rw [t] at c⊢;refine Av func13 Z Z ntmps13 Z Z Z λF u=>(AC (AE (V (CQ 1 Z Z Z Z Z Z Z) (AB Z Z (AB Z Z (AD (AC ?_)))))));refine AC (AE (J (B1 Z Z Bs Z Z Z) (J (B5 (c) Z Z) (AB Z Z (AD (AC (AE (cl Z Z ?_))))))));refine J (EO Z Z Z) (AD (EV Z (by decide) (AZ (AC (AE (AB Z Z (AD (AC ?_))))))));refine AC (O0 5 900 m8 Z Z Z Z (AE (J (B1 Z Z Bs Z Z Z) (V (Eh B Z [20] ⟨Z,trivial⟩ Z Z Z Z Z Z Z Z Z) (V (Fs 2 Z Z Z D8 Z Z Z Z) (AD (A2 (Bb (α:=List Nat×List (AO×Int)) (λq=>⟨32,[(5,(.own 900 0 q.2.length)),(15,(.ptr 2 0 0))],[(2,[.iter 20 0 M.length q.1]),(20,[BD C4 AF M]),(900,[.rowD 55 7 (q.2.map OR)])]⟩) (λq=>(q.2++(Bh M (List.range M.length) q.1).filter (λx=>decide (x.2≠0))).Perm (M.filter λx=>decide (x.2≠0))) (λq=>(Bh M (List.range M.length) q.1).length) (([],[])) (by rw [Co (by simp)];exact List.Perm.refl _) (A0 u [2,20,900] Z Z ⟨Z,Z,trivial⟩) ?_))))))));rintro ⟨seen,k⟩ l;dsimp only at l⊢;refine AC (AE (K7 (M) Z Z Z Z (λr=>?_) (λy b w v o s D a=>⟨_,Z,?_⟩)))
  .refine J (C8 Z Z Z) (AD (AC (EV Z Z (BL (AC ?_)))));have f:k.Perm ((dN (dq i)).filter λx=>decide (x.2≠0)):=by have h:=l;rw [r,List.filter_nil,en] at h;rw [g];exact h
   refine AE (cl Z Z (V (Yv (dq i) k f (by have:=Vf l;omega) Z Z Z Z Z Z Z) ?_));refine AD (AC (L6 (emb:=OR) 5 900 (bp i) Z Z Z (Ws f) Z Z Z (AE (cl Z Z (AB Z Z (AB Z Z (AD (A6 ?_))))))));exact ⟨_,[],[],A4 Z,Z,Z,Z,Z⟩
  .refine J (C8 Z Z Z) (AD (AC ?_));refine Dt Z Z (AZ (A2 (AC (AE (J (Ft (M) y b Z Z Z o s Z) (J (C8 Z Z Z) (J (C8 Z Z Z) (V (CE 3 LY Z Z Z Z) ?_))))))));refine V (Bk Z Z Z Z Z Z Z iT) (AB Z Z (AD (AC (AE (cl Z Z (J (EO Z Z Z) (AD (Ah Z (λj=>?_) (λj=>?_)))))))))
   .refine AE (cl Z Z (J (B1 Z Z CL Z Z Z) (cl Z Z (J (FU mI ry Z Z Z) (V (EH 4 m8 Z Z Z Z Z Z Z Z) (V (Ic (k) ([(w,v)]) Z Z Z Z Z Z Z Z m8 (by have:=Vf l;simp only [Φ];omega) Z Z Z Z) (AB Z Z (AD ?_))))))));exact ⟨(seen++ [b],_),nD l a (by simpa using j),by show (Bh M (List.range M.length) (seen++ [b])).length<(Bh M (List.range M.length) seen).length;rw [a.length_eq];exact gA _,A0 u [2,20,900] Z (Z) ⟨Z,Z,trivial⟩⟩
   .refine AZ ?_;exact ⟨(seen++ [b],_),jO l a (by simpa using j),by show (Bh M (List.range M.length) (seen++ [b])).length<(Bh M (List.range M.length) seen).length;rw [a.length_eq];exact gA _,A0 u [2,20,900] Z (Z) ⟨Z,Z,trivial⟩⟩
 .have c:=Jz i H G E;have A:ct i=[]:=η t;rw [A];refine Av func13 Z Z ntmps13 Z Z Z λF u=>(AC ?_);refine AE (V (CQ 1 Z Z Z Z Z Z Z) (AB Z Z (W3 2 Z (AB Z Z (AD (AC (AC (AE ?_))))))));refine J (B1 Z Z Bs Z Z Z) (J (B5 (c) Z Z) (AB Z Z (AD (AC (AE (cl Z Z (J (EO Z Z Z) (AD ?_))))))));refine Dt Z ((by simpa using t)) (AC (AE (cl Z Z (AB Z Z (W3 2 Z (AB Z Z (AD (A6 ?_))))))));exact ⟨_,[],[],A4 Z,Z,Z,Z,Z⟩
def BU (i:AG) (r:AO):Int:=if Ak i=0/\Bj r=0 then Ab (dq i) r else 0
theorem WL (i:AG) (r:AO) (l:i.po.length<=140737488355328) (k:i.pa.length<=140737488355328) (j:i.af.length<=140737488355328):AM prog 122 [.d (Ap i),.d (C4 r)] (AF (BU i r)):=by
 by_cases c:Ak i=0
 .have o:=(FG c).1
  obtain ⟨M,b⟩:∃M,dN (dq i)=M:=⟨_,Z⟩
  have g:=(Pn i o).by [(2,20)] rfl;rw [b] at g;have a:=Jz i l k j;rw [c] at a;refine Av func122 Z Z ntmps122 Z Z Z λF t=>(AC (AE (V (CQ 1 Z Z Z Z Z Z Z) (V (CQ 2 Z Z Z Z Z Z Z) (AB Z Z ?_)))));refine AD (AC (AC (AE (J (B1 Z Z Bs Z Z Z) (J (B5 (a) Z Z) (J (EO Z Z Z) (cl Z Z (Ex 8 Z (by decide) ?_))))))));refine Aa Z Z Z (J (B1 Z Z CL Z Z Z) (Aa Z Z Z (J (B5 (Ux r) Z Z) (Aa Z Z Z (J (EO Z Z Z) (J (DT Z Z Z Z) (AD (Ah Z (λf=>?_) (λf=>?_)))))))))
  .refine AC (AE (AB Z Z (AD (A6 ?_))));exact ⟨_,[],[],A4 Z,Z,Z,Ay (by rw [BU,η];simp_all),Z⟩
  .refine AZ (AC ?_);refine Dr [[],[0],[],[0,1,2],[0,1,2,3]] mixed Z (E6 (BQ [2] Z Z (λ_=>A9 (B1 Z Z Bs Z Z Z)) (IU [13] [20] [(14,_)] Z Z (λ_=>IV (Eh g Z [20] ⟨Z,trivial⟩ Z Z Z Z Z Z Z Z Z)) (.inr ⟨14,_,Z,Z,Z,Z,Z⟩) Z Z Z Z Z (BQ [3] Z Z (λ_=>A9 (B1 Z Z CL Z Z Z)) (Dh 3 Z Z Z (An 4 Z Z (J (HO (M) (r) (0) _ Z Z Z D8 Bv Nu Z Z) (AD ⟨Z,?_⟩))))))));refine An 5 Z Z (AB Z Z (AD ⟨Z,?_⟩));refine Dg (A6 ?_);exact ⟨_,[],[],A4 Z,Z,Z,Ay (by rw [BU,ϖ ⟨c,by simpa using f⟩,<-b,JG]),Z⟩
 .have a:=Jz i l k j;have s:BU i r=0:=η λh=>c h.1;rw [s];refine Av func122 Z Z ntmps122 Z Z Z λF t=>(AC (AE (V (CQ 1 Z Z Z Z Z Z Z) (V (CQ 2 Z Z Z Z Z Z Z) (AB Z Z (AD (AC ?_)))))));refine AC (AE (J (B1 Z Z Bs Z Z Z) (J (B5 (a) Z Z) (J (EO Z Z Z) (cl Z Z (G6 8 Z ((by simpa using c)) (A8 Z Z Z Z (A8 Z Z Z Z ?_))))))));refine A8 Z Z Z Z (J (FL Z Z Z Z) (AD (Dt Z Z (AC (AE (AB Z Z (AD (A6 ?_))))))));exact ⟨_,[],[],A4 Z,Z,Z,Z,Z⟩
theorem pJ (b:List a) (x:a) (h:b.length<9223372036854775807):IntKind.i64.wrap ((b.length:Int)+1)=(((b++ [x]).length:Nat):Int):=by
 rw [Ω];exact AQ (b.length+1) (by omega)
abbrev XV:AV:= .d (.sl (some true) [])
def pd (r:AO) (p:FM):Int:=if p.acc=r.acc then p.d else 0
theorem Sq {l:List (AO×Int)} {r:AO} (h:∀x∈l,x.1≠r):Ab l r=0:=by
 induction l with
 | nil=>rfl
 | cons x l a=>
  grind [Ab]
theorem O9 {l:List a} {f:a ->Int} {B:Int} (h:∀x∈l,-B<=f x/\f x<=B) (n:Nat) (b:l.length<=n) (i:0<=B): -(n*B)<=(l.map f).sum/\(l.map f).sum<=n*B:=by
 induction l generalizing n with
 | nil=>have:=Int.mul_nonneg (Int.natCast_nonneg n) i;simp only [List.map_nil,List.sum_nil];omega
 | cons x l c=>
  obtain ⟨m,rfl⟩:∃m,n=m+1:=⟨n - 1,by simp at b;omega⟩
  have j:=c (λy g=>h y (by simp [g])) m (by simpa using b)
  grind
deriving instance DecidableEq for FM
deriving instance DecidableEq for Ph
deriving instance DecidableEq for AG
deriving instance DecidableEq for cw
theorem FM.eq_iff {x y:FM}:x=y↔x.acc=y.acc/\x.d=y.d:=by cases x;cases y;simp
theorem Ph.eq_iff {x y:Ph}:x=y↔x.f=y.f/\x.t=y.t/\x.n=y.n:=by cases x;cases y;simp
theorem cw.eq_iff {x y:cw}:x=y↔x.r=y.r/\x.n=y.n:=by cases x;cases y;simp
theorem AG.eq_iff {x y:AG}:x=y↔x.id=y.id/\x.pr=y.pr/\x.sq=y.sq/\x.po=y.po/\x.pa=y.pa/\x.af=y.af:=by cases x;cases y;simp
theorem GF (b:k<c.length):(c.take (k+1)).filter f=(c.take k).filter f++(if f c[k] then [c[k]] else []):=by
 rw [φ b,fy]
 grind
abbrev Ac (b:Bool):D:= .raw (.bool b)
def BB {α:Type} (l:List α):List (α×Bool):=l.map λa=>(a,true)
theorem W4 [DecidableEq a] (l:List a) (c:a):AY (BB l) c false=decide (c∈l):=by
 induction l with
 | nil=>rfl
 | cons b l f=>
  grind [BB,AY]
theorem cb [DecidableEq a] {f:a} (h:f∉c):BA (BB c) f true=BB (c++ [f]):=by
 induction c with
 | nil=>rfl
 | cons b c g=>
  grind [BB,BA]
def HD:cw:=⟨⟨0,TU,[],[]⟩,0⟩
def L1 (l:List cw) (k:Nat):Int:=if Bj (l.getD k HD).r≠0 then Bj (l.getD k HD).r else if ¬(-4*Mx<=(l.getD k HD).n/\(l.getD k HD).n<=4*Mx) then 12 else if (l.getD k HD).r∈(l.take k).map cw.r then 7 else 0
def CY (l:List cw):Int:=B7 ((List.range l.length).map (L1 l))
theorem DW (d:a) (h:k<c.length):c.getD k d=c[k]:=by rw [Δ,ω h];rfl
theorem D0 (b:k<c.length):(c.take (k+1)).map h=(c.take k).map h++ [h c[k]]:=by rw [φ b,du];rfl
theorem ig (p:dG) (u:p.ro.length<=100000):AM prog 137 [.d (CM p)] (AF (CY p.ro)):=by
 refine Av func137 Z Z ntmps137 Z Z Z λF s=>(AC (AE ?_));refine V (CQ 1 Z Z Z Z Z Z Z) (AB Z Z (AD (AC (AE (V (Pd 2 Z Z Z Z) (AB Z Z (AD (AC ?_))))))));refine AC (AE (J (A1 Z Fj Z Z Z) (J (A5 Z Z Z Ro Z) (J (CV Z an Z) (cl Z Z (AD (A2 (Bb (α:=Nat) (λk=>⟨35,[(3,(.map 2 0)),(9,(.d (.sl none (p.ro.map Cv)))),(10,(.d (AF (p.ro.length:Int)))),(11,(.d (AF (k:Int))))],[(2,[BD C4 Ac (BB ((p.ro.take k).map cw.r))])]⟩) (λk=>k<=p.ro.length/\CY p.ro=B7 (((List.range p.ro.length).drop k).map (L1 p.ro))) (λk=>p.ro.length - k) (0) (⟨ϱ _,Z⟩) (A0 s [2] Z Z ⟨Z,Z,Z,Z,trivial⟩) ?_))))))));rintro k ⟨t,o⟩;refine AC (AE (J (BW Z Z Z) (AD (AC (Ah Z (λi=>?_) (λi=>?_))))))
 .have b:k<p.ro.length:=Bi i;refine AZ (AC (A2 (AC (AE ?_))));have j:=EB b o;have c:=DW HD b;refine J (Bq (k) Z Z (Z) (Aq b) an Z OA Z) ?_;refine J (IX Z Z ZR Z) (V (CE 3 Qv Z Z Z Z) (V (Bk Z Z Z Z Z Z Z OA) (AD (AC (AC (AE (J (A1 Z FD Z Z Z) (J (B1 Z Z CL Z Z Z) ?_))))))));refine J (B5 (Ux p.ro[k].r) Z Z) (AB Z Z (AD (AC (AE (cl Z Z (J (EO Z Z Z) (AD (Ah Z (λa=>?_) (λa=>?_)))))))))
  .refine AC (AE (cl Z Z (AB Z Z (AD (A6 ?_)))));exact ⟨_,[],[],A4 Z,Z,Z,Ay (j.2 _ (by unfold L1;rw [c,ϖ a]) a),Z⟩
  .refine AZ (AC (A2 ?_));refine AC (AE (J (A1 Z QW Z Z Z) (J (A5 Z Z Z L3 Z) (J (B5 (GQ _ _ _) Z Z) (J (O2 Z Z) (AB Z Z (AD (Ah Z (λl=>?_) (λl=>?_)))))))))
   .refine AC (AE (AB Z Z (AD (A6 ?_))));exact ⟨_,[],[],A4 Z,Z,Z,Ay (j.2 12 (by unfold L1;rw [c,η a,ϖ (by simp only [Mx];omega)]) (by decide)),Z⟩
   .refine AC (AE (cl Z Z (J (A1 Z FD Z Z Z) (J (B1 Z Z CL Z Z Z) (J (HO (BB ((p.ro.take k).map cw.r)) (p.ro[k].r) (false) _ Z Z Z Vk Bv T5 Z Z) ?_)))));rw [W4];refine AB Z Z (AD (Ah Z (λg=>?_) (λg=>?_)))
    .refine AC (AE (AB Z Z (AD (A6 ?_))));exact ⟨_,[],[],A4 Z,Z,Z,Ay (j.2 7 (by unfold L1;rw [c,η a,η (by simp only [Mx];omega),ϖ g]) (by decide)),Z⟩
    .have f:p.ro[k].r∉(p.ro.take k).map cw.r:=g;refine AZ (AE ?_);refine cl Z Z (J (A1 Z FD Z Z Z) (J (B1 Z Z CL Z Z Z) (V (Tc (BB ((p.ro.take k).map cw.r)) (p.ro[k].r) (true) Z Z Z Vk Bv Z Z) (AD (AE (J (Aw Z Z (AQ (k+1) (by omega)) Z) (cl Z Z (AD ?_))))))));exact ⟨k+1,⟨by show k+1<=_;omega,j.1 (by unfold L1;rw [c,η a,η (by simp only [Mx];omega),η f])⟩,by show p.ro.length - (k+1)<p.ro.length - k;omega,A0 s [2] Z (by rw [D0 b,<-cb f];rfl) ⟨Z,Z,Z,Z,trivial⟩⟩
 .refine BL (AC (AE (AB Z Z (AD (A6 ?_)))));exact ⟨_,[],[],A4 Z,Z,Z,Ay (by rw [o,List.drop_of_length_le (by have h:=i;simp only [eT];omega)];rfl),Z⟩
theorem On {a b:Bool} (h:a=b):AV.d (.raw (.bool a))= .d (.raw (.bool b)):=by rw [h]
theorem Gj {b:Type} {p:b ->Bool}:∀{l:List b} {k:Nat} (c:k<l.length),(∀x∈l.take k,p x=false) ->p l[k]=true ->l.findIdx? p=some k
 | a::l,0,_,_,h=>by simp at h;simp [List.findIdx?_cons,h]
 | a::l,k+1,c,f,h=>by
  have i:p a=false:=f a (by simp);have:=Gj (l:=l) (k:=k) (by simpa using c) (λx g=>f x (by simp [g])) (by simpa using h)
  simp [List.findIdx?_cons,i,this]
theorem IL (h:∀x∈c,f x=false):c.findIdx? f=none:=by
 rw [List.findIdx?_eq_none_iff];exact h
def qa (p:Int ->Bool) (l:List Int):Int:=match l.findIdx? p with
 | some k=>k
 | none=> -1
theorem nZ {p:Int ->Bool}:0<=qa p i↔i.any p=true:=by grind [qa]
abbrev HM (S:List Int):Hp:=[(910,[.blk 173 [.map 911 0]]),(911,[BD AF Ac (BB S)])]
def JY (S:List Int) (x:Int):Bool:=!decide (x∈S)
theorem oP (S:List Int) (x:Int):AK prog 138 [.d (AF x),.ptr 910 0 0] (HM S) λr a=>r= .d (Ac (JY S x))/\a=HM S:=by
 refine Av func138 Z Z ntmps138 Z Z Z λF b=>?_;refine AC (AE (AB Z Z (AD (AC (AE (J (A5 Z Z Z Rq Z) (cl Z Z (J (HO (BB S) (x) (false) _ Z Z Z ET HI T5 Z Z) ?_))))))));rw [W4];refine J (O2 Z Z) (AB Z Z (AD (A6 ?_)));exact ⟨_,[910,911],_,A4 Z,Z,Z,by first | exact On (by unfold JY;simp) | rfl,rfl⟩
theorem bG (S l:List Int) (s:l.length<=100000000):AK prog 95 [.d (.sl none (l.map AF)),.fn 138 [.ptr 910 0 0]] (HM S) λr o=>r= .d (AF (qa (JY S) l))/\o=HM S:=by
 refine Av func95 Z Z ntmps95 Z Z Z λF i=>(AC (AE (AB Z Z (AD ?_))));refine AC (AC (AE (cl Z Z (J (CV Z E0 Z) (cl Z Z (AD (A2 (Bb (α:=Nat) (λk=>⟨19,[(0,.d (.sl none (l.map AF))),(1,.fn 138 [.ptr 910 0 0]),(7,(.d (AF (l.length:Int)))),(8,(.d (AF (k:Int))))],HM S⟩) (λk=>k<=l.length/\∀x∈l.take k,JY S x=false) (λk=>l.length - k) (0) (⟨ϱ _,by simp⟩) (A0 i [910,911] Z Z ⟨Z,Z,Z,Z,trivial⟩) ?_))))))));rintro k ⟨j,f⟩;refine AC (AE (J (BW Z Z Z) (AD (AC (Ah Z (λg=>?_) (λg=>?_))))))
 .have b:k<l.length:=Bi g;refine AZ (AC (A2 (AC (AE (cl Z Z (AB Z Z (AD (AC ?_))))))));refine AE (cl Z Z (cl Z Z (cl Z Z (J (Bq (k) Z Z (Z) (Aq b) E0 Z B4 Z) (J (EJ Z Z BE Z) (V (Y0 (oP S l[k]) Z [910,911] ⟨Z,Z,trivial⟩ Z Z Z Z Z Z Z Z Z) (AD (KH Z (λc=>?_) (λc=>?_)))))))))
  .refine AC (AE (cl Z Z (AB Z Z (AD (A6 ?_)))));exact ⟨_,[910,911],_,A4 Z,Z,Z,Ay (by unfold qa;rw [Gj b f (by simpa using c)]),Z⟩
  .refine AZ (AE (J (Aw Z Z (AQ (k+1) (by omega)) Z) (cl Z Z (AD ?_))));exact ⟨k+1,⟨by show k+1<=_;omega,by rw [φ b];intro x a;rcases ν.1 a with a | a;exact f x a;rw [ξ.1 a];simpa using c⟩,by show l.length - (k+1)<l.length - k;omega,A0 i [910,911] Z (Z) ⟨Z,Z,Z,Z,trivial⟩⟩
 .refine BL (AC (AE (AB Z Z (AD (A6 ?_)))));exact ⟨_,[910,911],_,A4 Z,Z,Z,Ay (by unfold qa;rw [IL (λx a=>f x (by rw [ς (by have h:=g;omega)];exact a))]),Z⟩
theorem Su (S l:List Int) (a:l.length<=100000000):AK prog 84 [.d (.sl none (l.map AF)),.fn 138 [.ptr 910 0 0]] (HM S) λr b=>r= .d (Ac (l.any (JY S)))/\b=HM S:=by
 refine Av func84 Z Z ntmps84 Z Z Z λF c=>(AC (AE (AB Z Z (AD ?_))));refine AC (AE (cl Z Z (cl Z Z (V (Eh (bG S l a) Z [910,911] ⟨Z,Z,trivial⟩ Z Z Z Z Z Z Z Z Z) (J (D2 Z Z Z) (AB Z Z (AD (A6 ?_))))))));exact ⟨_,[910,911],_,A4 Z,Z,Z,On (by rw [gv,fI];exact nZ),Z⟩
def cv:AG:=⟨0,0,0,[],[],[]⟩
def Mw (l:List AG) (k:Nat):Int:=if Ak (l.getD k cv)≠0 then Ak (l.getD k cv) else if (l.getD k cv).id∈(l.take k).map AG.id\/(l.getD k cv).sq∈(l.take k).map AG.sq then 7 else 0
def Db (l:List AG):Int:=B7 ((List.range l.length).map (Mw l))
def Sc (S:List Int) (i:AG):Int:=if i.af.any (JY S)=true then 9 else 0
def Iz (l:List AG):Int:=B7 (l.map (Sc (l.map AG.id)))
def Ai (p:dG):Int:=if 4096<p.it.length\/16384<p.ro.length then 8 else B7 [CY p.ro,Db p.it,Iz p.it]
theorem mj (h:¬(4096<j.it.length\/16384<j.ro.length)) (a:CY j.ro≠0):CY j.ro=Ai j:=by grind [Ai,B7]
theorem UK (h:¬(4096<j.it.length\/16384<j.ro.length)) (c:CY j.ro=0) (b:t=Db j.it) (a:t≠0):t=Ai j:=by grind [Ai,B7]
theorem Zi (h:¬(4096<j.it.length\/16384<j.ro.length)) (c:CY j.ro=0) (b:Db j.it=0) (a:t=Iz j.it):t=Ai j:=by grind [Ai,B7]
def EP (p:dG):Prop:=p.ro.length<=100000/\p.it.length<=100000/\∀i∈p.it,i.po.length<=100000/\i.pa.length<=100000/\i.af.length<=100000
theorem Fz (p:dG) (G:EP p):AM prog 76 [.d (CM p)] (AF (Ai p)):=by
 obtain ⟨H,I,E⟩:=G;refine Av func76 Z Z ntmps76 Z Z Z λF v=>(AC (AE (V (CQ 1 Z Z Z Z Z Z Z) (AB Z Z (AD ?_)))));refine AC (AC (AE (J (A1 Z EM Z Z Z) (J (A5 Z Z Z K6 Z) (J (CV Z F0 Z) (J (Pf Z Z Z) (cl Z Z (Id 15 Z (λB=>?_) (λB=>?_)))))))))
 .refine A8 Z Z Z Z (A8 Z Z Z Z (A8 Z Z Z Z ?_));refine A8 Z Z Z Z (J (FL Z Z Z Z) (AD (Dt Z Z (AC (AE (AB Z Z (AD (A6 ?_))))))));exact ⟨_,[],[],A4 Z,Z,Z,Ay (by unfold Ai;rw [ϖ (by omega)]),Z⟩
 .refine Aa Z Z Z (J (A1 Z Fj Z Z Z) ?_);refine Aa Z Z Z (J (A5 Z Z Z Ro Z) (Aa Z Z Z (J (CV Z an Z) (Aa Z Z Z (J (Pf Z Z Z) (J (DT Z Z Z Z) (AD (Ah Z (λA=>?_) (λA=>?_)))))))))
  .refine AC (AE (AB Z Z (AD (A6 ?_))));exact ⟨_,[],[],A4 Z,Z,Z,Ay (by unfold Ai;rw [ϖ (by omega)]),Z⟩
  .refine AZ (AC (AC ?_));have c:¬(4096<p.it.length\/16384<p.ro.length):=by omega
   refine AE (J (B1 Z Z Bc Z Z Z) ?_);refine J (B5 (ig p H) Z Z) (AB Z Z (AD (AC (AE (cl Z Z (J (EO Z Z Z) (AD (Ah Z (λs=>?_) (λs=>?_)))))))))
   .refine AC (AE (cl Z Z (AB Z Z (AD (A6 ?_)))));exact ⟨_,[],[],A4 Z,Z,Z,Ay (mj c s),Z⟩
   .refine AZ (AC ?_);have f:CY p.ro=0:=by simpa using s
    refine AE (V (Pd 2 Z Z Z Z) (V (Pd 3 Z Z Z Z) (V (CE 4 lF Z Z Z Z) (V (Bk Z Z Z Z Z Z Z lN) (AB Z Z (AD (AC ?_)))))));refine AC (AE (J (A1 Z EM Z Z Z) (J (A5 Z Z Z K6 Z) (J (CV Z F0 Z) (cl Z Z (AD (A2 (Bb (α:=Nat) (λk=>⟨69,[(1,(.ptr 1 0 0)),(4,(.ptr 4 0 0)),(5,(.map 3 0)),(29,(.d (.sl none (p.it.map Ap)))),(30,(.d (AF (p.it.length:Int)))),(31,(.d (AF (k:Int))))],[(1,[.blk 31 [.d (.sl none (p.ro.map Cv)),.d (.sl none (p.it.map Ap))]]),(4,[.blk 173 [.map 2 0]]),(2,[BD AF Ac (BB ((p.it.take k).map AG.id))]),(3,[BD AF Ac (BB ((p.it.take k).map AG.sq))])]⟩) (λk=>k<=p.it.length/\Db p.it=B7 (((List.range p.it.length).drop k).map (Mw p.it))) (λk=>p.it.length - k) (0) (⟨ϱ _,Z⟩) (A0 v [1,4,2,3] Z Z ⟨Z,Z,Z,Z,Z,Z,trivial⟩) ?_))))))));rintro k ⟨w,t⟩;refine AC (AE (J (BW Z Z Z) (AD (AC (Ah Z (λi=>?_) (λi=>?_))))))
    .have a:k<p.it.length:=Bi i;refine AZ (AC (A2 (AC (AE ?_))));have l:=EB a t;have g:=DW cv a;have x:=E _ (θ a);refine J (Bq (k) Z Z (Z) (Aq a) F0 Z Cu Z) (J (IX Z Z Bs Z) (V (CE 5 Fc Z Z Z Z) (V (Bk Z Z Z Z Z Z Z Cu) (AD (AC (AC (AE (J (B1 Z Z Bs Z Z Z) ?_))))))));refine J (B5 (Jz p.it[k] (by omega) (by omega) (by omega)) Z Z) (AB Z Z (AD (AC (AE (cl Z Z (J (EO Z Z Z) (AD (Ah Z (λb=>?_) (λb=>?_)))))))))
     .refine AC (AE (cl Z Z (AB Z Z (AD (A6 ?_)))));exact ⟨_,[],[],A4 Z,Z,Z,Ay (UK c f (l.2 _ (by unfold Mw;rw [g,ϖ b]) b) b),Z⟩
     .refine AZ (AC (AC (AE (J (A5 Z Z Z Rq Z) (J (A1 Z Ny Z Z Z) (J (A5 Z Z Z BE Z) (J (HO (BB ((p.it.take k).map AG.id)) (p.it[k].id) (false) _ Z Z Z ET HI T5 Z Z) ?_)))))));rw [W4];refine cl Z Z (Id 44 Z (λz=>?_) (λz=>?_))
      .refine A8 Z Z Z Z (A8 Z Z Z Z (A8 Z Z Z Z ?_));refine A8 Z Z Z Z (J (FL Z Z Z Z) (AD (Dt Z Z (AC (AE (AB Z Z (AD (A6 ?_))))))));exact ⟨_,[],[],A4 Z,Z,Z,Ay (UK c f (l.2 7 (by unfold Mw;rw [g,η b,ϖ (by simp_all)]) (by decide)) (by decide)),Z⟩
      .refine Aa Z Z Z (cl Z Z (Aa Z Z Z (J (A1 Z NO Z Z Z) (Aa Z Z Z (J (A5 Z Z Z BE Z) (Aa Z Z Z (J (HO (BB ((p.it.take k).map AG.sq)) (p.it[k].sq) (false) _ Z Z Z ET HI T5 Z Z) ?_)))))));rw [W4];refine J (DT Z Z Z Z) (AD (Ah Z (λy=>?_) (λy=>?_)))
       .refine AC (AE (AB Z Z (AD (A6 ?_))));exact ⟨_,[],[],A4 Z,Z,Z,Ay (UK c f (l.2 7 (by unfold Mw;rw [g,η b,ϖ (by simp_all)]) (by decide)) (by decide)),Z⟩
       .refine AZ ?_;have D:p.it[k].id∉(p.it.take k).map AG.id:=by simp_all
        have C:p.it[k].sq∉(p.it.take k).map AG.sq:=by simp_all
        refine Dr [[],[],[1],[],[],[4],[0,1,2],rg 7] mixed Z (E6 (By [4] [4,2] Z Z (λ_=>A9 (A5 Z Z Z Rq Z)) (AX [7] Z (A1 Z Ny Z Z Z) ?_)));refine By [51] [5] Z Z (λ_=>A9 (A5 Z Z Z BE Z)) (At 5 Z Z (AX [7] Z (A1 Z NO Z Z Z) (By [54] [5] Z Z (λ_=>A9 (A5 Z Z Z BE Z)) (IU [50,52] [2] [] Z Z (λ_=>IV (Tc (BB ((p.it.take k).map AG.id)) (p.it[k].id) (true) Z Z Z ET HI Z Z)) (.inl ⟨Z,Z⟩) Z Z Z Z Z (Dh 7 Z Z Z (An 8 Z Z (V (Tc (BB ((p.it.take k).map AG.sq)) (p.it[k].sq) (true) Z Z Z ET HI Z Z) (AD ⟨Z,?_⟩))))))));refine Dg (AE (J (Aw Z Z (AQ (k+1) (by omega)) Z) (cl Z Z (AD ?_))));exact ⟨k+1,⟨by show k+1<=_;omega,l.1 (by unfold Mw;rw [g,η b,η (by rintro (h | h);exact D h;exact C h)])⟩,by show p.it.length - (k+1)<p.it.length - k;omega,A0 v [1,4,2,3] Z (by rw [D0 a,D0 a,<-cb D,<-cb C];rfl) ⟨Z,Z,Z,Z,Z,Z,trivial⟩⟩
    .refine BL (AC (AC ?_));have u:Db p.it=0:=by rw [t,List.drop_of_length_le (by have h:=i;simp only [eT];omega)];rfl
     have j:p.it.take k=p.it:=ς (by have h:=i;omega);rw [j];refine AE (J (A1 Z EM Z Z Z) (J (A5 Z Z Z K6 Z) (J (CV Z F0 Z) (cl Z Z (AD (A2 (Bb (α:=Nat) (λk=>⟨69,[(4,(.ptr 4 0 0)),(58,(.d (.sl none (p.it.map Ap)))),(59,(.d (AF (p.it.length:Int)))),(60,(.d (AF (k:Int))))],[(4,[.blk 173 [.map 2 0]]),(2,[BD AF Ac (BB (p.it.map AG.id))])]⟩) (λk=>k<=p.it.length/\Iz p.it=B7 ((p.it.drop k).map (Sc (p.it.map AG.id)))) (λk=>p.it.length - k) (0) (⟨ϱ _,Z⟩) (A0 v [4,2] Z Z ⟨Z,Z,Z,Z,trivial⟩) ?_)))))));rintro k ⟨w,t⟩;refine AC (AE (J (BW Z Z Z) (AD (AC (Ah Z (λr=>?_) (λr=>?_))))))
     .have a:k<p.it.length:=Bi r;refine AZ (AC (A2 (AC (AE ?_))));have l:=Dc a t;have x:=E _ (θ a);refine J (Bq (k) Z Z (Z) (Aq a) F0 Z Cu Z) (J (IX Z Z Bs Z) (V (CE 6 Fc Z Z Z Z) (V (Bk Z Z Z Z Z Z Z Cu) ?_)));refine AD (AC (AE (J (A1 Z FE Z Z Z) (J (A5 Z Z Z BI Z) (J (oZ Z Z) (V (Eh ((Su (p.it.map AG.id) p.it[k].af (by omega)).by [(910,4),(911,2)] Z) Z [4,2] ⟨Z,Z,trivial⟩ Z Z Z Z Z Z Z Z Z) (AD (KH Z (λo=>?_) (λo=>?_)))))))))
      .refine AC (AE (AB Z Z (AD (A6 ?_))));exact ⟨_,[],[],A4 Z,Z,Z,Ay (Zi c f u (l.2 9 (by unfold Sc;rw [ϖ (by simpa using o)]) (by decide))),Z⟩
      .refine AZ (AE (J (Aw Z Z (AQ (k+1) (by omega)) Z) (cl Z Z (AD ?_))));exact ⟨k+1,⟨by show k+1<=_;omega,l.1 (by unfold Sc;rw [η (by simpa using o)])⟩,by show p.it.length - (k+1)<p.it.length - k;omega,A0 v [4,2] Z (Z) ⟨Z,Z,Z,Z,trivial⟩⟩
     .refine BL (AC (AE (AB Z Z (AD (A6 ?_)))));exact ⟨_,[],[],A4 Z,Z,Z,Ay (Zi c f u (by rw [t,GE (by have h:=r;omega)])),Z⟩
abbrev VW (T:TypeId) (p:dG):AJ:= .blk T [.d (.sl none (p.ro.map Cv)),.d (.sl none (p.it.map Ap))]
theorem Mm (r:k<c.length) (j:u<k) (i:h c[u]=o):o∈(c.take k).map h:=by grind [gg]
theorem XU (j:u<c.length) (i:o∉(c.take u).map h) (k:h c[u]≠o):o∉(c.take (u+1)).map h:=by grind [D0]
def sk (p:dG):Prop:=p.it.length<=12/\p.ro.length<=24/\∀i∈p.it,i.po.length<=12/\i.pa.length<=12/\i.af.length<=12
instance (p:dG):Decidable (sk p):=inferInstanceAs (Decidable (_/\_/\∀i∈p.it,_))
def OP:List AG ->AG ->List AG
 | [],x=> [x]
 | a::l,x=>if ∀y∈a::l,HE x y<0 then x::a::l else a::OP l x
def dA (l:List AG):List AG:=l.foldl OP []
theorem bF (l:List AG) (x:AG):(OP l x).length=l.length+1:=by
 induction l with
 | nil=>rfl
 | cons a l b=>
  grind [OP]
theorem Ih (l:List AG) (x:AG):dA (l++ [x])=OP (dA l) x:=by simp [dA]
theorem kj (l:List AG):(dA l).length=l.length:=by
 induction l using YV with
 | h0=>rfl
 | h1 l x a=>rw [Ih,bF,a];simp
def dO (l:List AG) (r:AO):List Int:=(l.filter λi=>decide (BU i r<0)).map AG.id
theorem cF (l:List FM) (b:l.length<=1000000):AM prog 92 [.d (.sl none (l.map Ck))] (.sl none (l.map Ck)):=by
 refine Av func92 Z Z ntmps92 Z Z Z λF c=>(AC ?_);refine AE (AB Z Z (W3 2 Z (AD (AC (AC (AE (cl Z Z (Ey 3 Z (λa=>?_) ?_))))))))
 .refine J (Do b0 Z Z) (AD (Dt Z (Z) (AC (AE (AB Z Z (W3 2 Z (AD (A6 ?_))))))));exact ⟨_,[],[],A4 Z,Z,Z,by first | (rw [a];done) | (rw [a]),rfl⟩
 .refine J (Do b0 Z Z) (AD ?_);refine EV Z (Z) (AZ (AC (AE (V (EH 20 i7 Z Z Z Z Z Z Z Z) (cl Z Z (V (Fu (([]:List FM)) (l) Z Z Z Z Z Z (λ_=>rfl) i7 (by simp only [List.length_nil];omega) Z Z Z Z) (hJ (emb:=Ck) 7 20 ([]++l) Z Z Z Z Z Z Z (AB Z Z ?_))))))));skip;refine AD (A6 ?_);exact ⟨_,[],[],A4 Z,Z,Z,Z,Z⟩
theorem cE (l:List Ph) (b:l.length<=1000000):AM prog 93 [.d (.sl none (l.map I0))] (.sl none (l.map I0)):=by
 refine Av func93 Z Z ntmps93 Z Z Z λF c=>(AC ?_);refine AE (AB Z Z (W3 2 Z (AD (AC (AC (AE (cl Z Z (Ey 3 Z (λa=>?_) ?_))))))))
 .refine J (Do cL Z Z) (AD (Dt Z (Z) (AC (AE (AB Z Z (W3 2 Z (AD (A6 ?_))))))));exact ⟨_,[],[],A4 Z,Z,Z,by first | (rw [a];done) | (rw [a]),rfl⟩
 .refine J (Do cL Z Z) (AD ?_);refine EV Z (Z) (AZ (AC (AE (V (EH 20 pX Z Z Z Z Z Z Z Z) (cl Z Z (V (Fu (([]:List Ph)) (l) Z Z Z Z Z Z (λ_=>rfl) pX (by simp only [List.length_nil];omega) Z Z Z Z) (hJ (emb:=I0) 7 20 ([]++l) Z Z Z Z Z Z Z (AB Z Z ?_))))))));skip;refine AD (A6 ?_);exact ⟨_,[],[],A4 Z,Z,Z,Z,Z⟩
theorem cG (l:List Int) (b:l.length<=1000000):AM prog 94 [.d (.sl none (l.map AF))] (.sl none (l.map AF)):=by
 refine Av func94 Z Z ntmps94 Z Z Z λF c=>(AC ?_);refine AE (AB Z Z (W3 2 Z (AD (AC (AC (AE (cl Z Z (Ey 3 Z (λa=>?_) ?_))))))))
 .refine J (Do E0 Z Z) (AD (Dt Z (Z) (AC (AE (AB Z Z (W3 2 Z (AD (A6 ?_))))))));exact ⟨_,[],[],A4 Z,Z,Z,by first | (rw [a];done) | (rw [a]),rfl⟩
 .refine J (Do E0 Z Z) (AD ?_);refine EV Z (Z) (AZ (AC (AE (V (EH 20 BX Z Z Z Z Z Z Z Z) (cl Z Z (V (Fu (([]:List Int)) (l) Z Z Z Z Z Z (λ_=>rfl) BX (by simp only [List.length_nil];omega) Z Z Z Z) (hJ (emb:=AF) 7 20 ([]++l) Z Z Z Z Z Z Z (AB Z Z ?_))))))));skip;refine AD (A6 ?_);exact ⟨_,[],[],A4 Z,Z,Z,Z,Z⟩
theorem kR (i:AG) (c:i.po.length<=1000000) (b:i.pa.length<=1000000) (a:i.af.length<=1000000):AM prog 43 [.d (Ap i)] (Ap i):=by
 refine Av func43 Z Z ntmps43 Z Z Z λF f=>(AC (AE (V (CQ 1 Z Z Z Z Z Z Z) (V (CE 2 Fc Z Z Z Z) ?_))));refine AD (AC (Dr [[],[0],[0,1],[],[3],rg 5,[],[6],rg 8,[0,1,2,3,4,6,7],rg 10,rg 11,rg 12,rg 13,rg 14] mixed Z (E6 (AX [1] Z (A1 Z Kp Z Z Z) (By [3] [1] Z Z (λ_=>A9 (A5 Z Z Z Zy Z)) (AX [4] Z (B5 (cF i.po c) Z Z) (AX [1] Z (A1 Z NN Z Z Z) (By [6] [1] Z Z (λ_=>A9 (A5 Z Z Z jK Z)) ?_))))))));refine AX [7] Z (B5 (cE i.pa b) Z Z) (AX [1] Z (A1 Z FE Z Z Z) (By [9] [1] Z Z (λ_=>A9 (A5 Z Z Z BI Z)) (AX [10] Z (B5 (cG i.af a) Z Z) (AX [1] Z (A1 Z Kp Z Z Z) (Dh 10 Z Z Z (An 11 Z Z (V (Bk Z Z Z Z Z Z Z rW) (AD ⟨Z,?_⟩))))))));refine An 12 Z Z (J (A1 Z NN Z Z Z) (AD ⟨Z,?_⟩));refine An 13 Z Z (V (Bk Z Z Z Z Z Z Z rV) (AD ⟨Z,?_⟩));refine An 14 Z Z (J (A1 Z FE Z Z Z) (AD ⟨Z,?_⟩));refine An 15 Z Z (V (Bk Z Z Z Z Z Z Z Ca) (AD ⟨Z,?_⟩));refine Dg (AC (AE (J (B1 Z Z Bs Z Z Z) (V (Bk Z Z Z Z Z Z Z Cu) (AD (A6 ?_))))));exact ⟨_,[],[],A4 Z,Z,Z,Z,Z⟩
theorem qg {a:Hp} {f:Nat} {o:AJ} (h:cu a f=none) (b:Rx o=true:=by rfl):Bw a f o=some ((f,[o])::a):=by simp only [Bw,h,b]
theorem l6 {b:Hp} {f:Nat} {x:List AJ}:∀{a:List Nat},dB f a=false ->BN ((f,x)::b) a=BN b a
 | [],_=>rfl
 | g::r,h=>by
  have i:Nat.beq f g=false:=by
   cases hb:Nat.beq f g with
   | false=>rfl
   | true=>
    have e:=Υ hb;subst e
    simp [dB] at h
  have c:dB f r=false:=by
   cases hb:dB f r with
   | false=>rfl
   | true=>simp [dB,hb] at h
  simp only [BN];rw [l6 c];simp only [cu,i]
theorem Wj (l:List Nat):JH l l=true:=by
 have b:∀(l m:List Nat),(∀x∈l,x∈m) ->JH l m=true:=λl=>by
  induction l with
  | nil=>intro m _;rfl
  | cons a r c=>intro m h;simp only [JH,eA];exact ⟨Fl.2 (h a (by simp)),c m λx f=>h x (by simp [f])⟩
 grind
theorem Df {step:g ->a ->g×Bool} {r:List a}:HF step o (x::r)=if (step o x).2=true then HF step (step o x).1 r else (step o x).1:=by grind [HF]
def encI (x:AG):List AV:=[.d (Ap x)]
section
variable {β:Type}
theorem m9 (a:List AG) (y:a.length<=1000000) (l:Nat) (H:β ->Hp) (N:List Nat) (step:β ->AG ->β×Bool) (b:β) (o:∀c,fE (H c)=N) (C:∀c,cj N (H c)=true) (v:∀c,BN (H c) N=some (H c))
  (B:∀c,AR 990 (H c)=some (H c)) (z:∀c,cu (H c) 990=none) (A:dB 990 N=false)
  (u:LX prog l encI H step b a):
  AK prog 212 [.d (.raw (C9 l)),.d (.ptr (.sl none (a.map Ap)))] (H b) λr E=>r= .tup []/\E=H (HF step b a):=by
 refine Av func212 Z Z ntmps212 Z Z Z λF D=>(AC (AE (J (EJ Z Z K6 Z) (J (CV Z F0 Z) (cl Z Z (AD (A2 (Hq (α:=Nat×β) (λp=>⟨16,[(0,.d (.raw (C9 l))),(5,(.d (.sl none (a.map Ap)))),(6,(.d (AF (a.length:Int)))),(7,(.d (AF (p.1:Int))))],H p.2⟩) (λp=>p.1<=a.length/\LX prog l encI H step p.2 (a.drop p.1)/\HF step p.2 (a.drop p.1)=HF step b a) (λp=>a.length - p.1) ((0,b)) (⟨ϱ _,u,Z⟩) (hG ⟨Z,Z,Z,Z,trivial⟩) ?_))))))));rintro ⟨k,c⟩ ⟨t,i,f⟩;dsimp only at t i f⊢;refine AC (AE (J (BW Z Z Z) (AD (AC (Ah Z (λx=>?_) (λx=>?_))))))
 .have s:k<a.length:=Bi x;refine AZ (AC (A2 (AC (AE ?_))));have w:a.drop k=a[k]::a.drop (k+1):=lC s;rw [w] at i;refine J (Bq (k) Z Z (Z) (Aq s) F0 Z Cu Z) (J (IX Z Z Bs Z) (V (CE 990 Fc Z (B _) (qg (z _)) Z) (V (Bk Z Z Z Z Z Z Z Cu) (AD (AC ?_)))));refine AE (cl Z Z (J (B1 Z Z Bs Z Z Z) (nC [0,5,6,7,11,12] Z (nB N (D.trans (o b)) (Wj N) ((l6 A).trans (v _)) (aD i.1 Z Z (by rw [o,o]) (by rw [o];exact C _) Z Z (J (CF Z Z) (AD (KH Z (λj=>?_) (λj=>?_)))))))))
  .have g:(step c a[k]).2=false:=by simpa using j
   refine A6 ?_;exact ⟨_,N,_,A4 Z,v _,by rw [<-o b];exact ED _,Z,by rw [<-f,w,Df,η (by rw [g];decide)]⟩
  .have g:(step c a[k]).2=true:=by simpa using j
   refine AZ (AE (J (Aw Z Z (AQ (k+1) (by omega)) Z) (cl Z Z (AD ?_))));exact ⟨(k+1,(step c a[k]).1),⟨by show k+1<=_;omega,i.2 g,by rw [<-f,w,Df,ϖ g]⟩,by show a.length - (k+1)<a.length - k;omega,⟨Z,Z,λ_ _=>Td.get (l:=[(0,_),(5,_),(6,_),(7,_)]) ⟨Z,Z,Z,Z,trivial⟩⟩⟩
 .refine BL ?_;exact ⟨_,N,_,A4 Z,v _,by rw [<-o b];exact ED _,Z,by rw [<-f,List.drop_of_length_le (by have h:=x;omega)];rfl⟩
end
variable {a:List AG} {c:List Nat} {f:List AV} {T:TypeId} {g:Hp} {F:Fr}
theorem SR.freezeB {s:AS} {H:Nat ->Nat ->Value} {z:Act} {w:World} (h:SR F s H z w) (t i:Nat) (x:D) (L:List Nat) (hF:F.pn=c) (ht:get s.env t=some (.ptr i 0 0)) (J:cu s.hp i=some [.blk T f]) (K:f=x.cells.map .d) (V:∀k∈x.cells,k.one=true) (hf:dB i L=false) (I:JH c L=true) (E:BN s.hp L=some g):SR F ⟨s.n,(t,.d (.ptr x))::s.env,g⟩ H z w:=by
 have Q:=h.only L hF I E;refine ⟨Q.size,Q.defs,λt' a Y=>?_,Q.heap⟩;rcases Ky Y with ⟨rfl,rfl⟩ | ⟨_,Y⟩
 .have Z:=h.env t _ ht;have O:cr s.hp i 0=some (.blk T f):=by simp [cr,J,gl,eu]
  obtain ⟨b,A,R,e2,e3,e4,e5⟩:=h.heap.sim i 0 _ O;show AU _ _ _ _ (z.tmps.getD t undef)
  generalize z.tmps.getD t undef=v at Z
  cases Z with
  | @ptr _ _ _ G C=>
   rw [R] at C;injection C with C;injection C with C;injection C with C;subst C
   have hO:∀G,F.O H g G ->F.O H s.hp G:=λG r=>r.imp id λ⟨y,N,U,o,S⟩=>by
    obtain ⟨M,_⟩:=D6 E;refine ⟨y,N,U,?_,S⟩;simp only [cr] at o⊢
    cases hh:cu g y with
    | none=>rw [hh] at o;cases o
    | some l=>rw [(M y l hh).2];rw [hh] at o;exact o
   have W:¬F.O H g b:=λr=>by
    rcases r with r | ⟨y,N,U,o,S⟩
    .exact h.heap.notOf ⟨i,0,_,O,by rw [R];rfl⟩ r
    .obtain ⟨M,_⟩:=D6 E;simp only [cr] at o
     cases hh:cu g y with
     | none=>rw [hh] at o;cases o
     | some l=>
      have q3:cr s.hp y N=some U:=by simp only [cr];rw [(M y l hh).2];rw [hh] at o;exact o
      obtain ⟨e1',_⟩:=h.heap.inj y N i 0 _ _ b q3 O S (by rw [R];rfl);have:=Fl.2 (M y l hh).1
      grind
   have B:A.length=x.cells.length:=by rw [e3,K,ψ]
   refine .d (.ptr (λj=>A.getD j undef) (h.heap.ltO (.inr ⟨i,0,_,O,by rw [R];rfl⟩)) W V (λj k P=>?_) (λj k P=>?_))
   .have u:j<A.length:=by rw [B];exact (χ.1 P).1
    rw [fN,cell_of_row w b j A.toArray T (0,0) e2]
    simp [u]
   .have u:j<A.length:=by rw [B];exact (χ.1 P).1
    have X:=e4 j (.d k) A[j] (by rw [K,ζ,P];rfl) (ω u);have hg:A.getD j undef=A[j]:=by simp [u]
    rw [hg]
    cases X with
    | d X=>exact X.mono (κ _) (λ_ _ _=>rfl) λG _=>hO G
 .exact Q.env t' a Y
theorem PA {P:Program} {Q:Exit ->AS ->Prop} {j:Array Oper} {A:List Oper} {z:Nat} {i:List (Nat×AV)} {u:Hp} (t a:Nat) (x:D) (o:List Nat) (H:F.pn=c) (C:get i t=some (.ptr a 0 0)) (l:cu u a=some [.blk T f]) (v:f=x.cells.map .d) (r:∀b∈x.cells,b.one=true) (G:dB a o=false) (k:JH c o=true) (s:BN u o=some g)
  (h:A3 P F j A Q ⟨z,(t,.d (.ptr x))::i,g⟩):A3 P F j A Q ⟨z,i,u⟩:=λB y w E=>h B y w (E.freezeB t a x o H C l v r G k s)
theorem Y7 (a:List AG):AK prog 183 [.d (.sl none (a.map Ap))] [] λr g=>r= .fn 212 [.d (.ptr (.sl none (a.map Ap)))]/\g=[]:=by
 refine Av func183 Z Z ntmps183 Z Z Z λF f=>(AC (AE (V (CQ 1 Z Z Z Z Z Z Z) ?_)));refine AB Z Z (AD (AC (AE (PA 1 1 (.sl none (a.map Ap)) [] f Z Z Z (by intro c b;simp [D.cells] at b;subst b;rfl) Z Z Z (J (oZ Z Z) (AB Z Z (AD (A6 ?_))))))));exact ⟨_,[],[],A4 Z,Z,Z,Z,Z⟩
abbrev hV (q:List AG):Hp:=[(920,[.rowD 49 6 (q.map Ap)]),(1,[.blk 29 [.own 920 0 q.length]])]
def VN (q:List AG) (x:AG):List AG×Bool:=(q++ [x],true)
theorem Sb:∀(l q:List AG),HF VN q l=q++l
 | [],q=>by simp [HF]
 | x::l,q=>by rw [Df];show (if true=true then HF VN (q++ [x]) l else _)=_;rw [ϖ Z,Sb l];simp
theorem PZ {P:Program} {l:Nat} {H:List AG ->Hp} {n:Nat} (b:∀q x,q.length<n ->Fm P l (encI x) (H q) λv c=>v= .d (.raw (.bool true))/\c=H (q++ [x])):∀(a q:List AG),q.length+a.length<=n ->LX P l encI H VN q a
 | [],_,_=>trivial
 | x::a,q,h=>⟨b q x (by simp at h;omega),λ_=>PZ b a (q++ [x]) (by simp at h⊢;omega)⟩
theorem cU (a:List AG) (b:a.length<=1000000):AK prog 239 [.d (.sl (some true) []),.fn 212 [.d (.ptr (.sl none (a.map Ap)))]] [] λr g=>r= .own 920 0 a.length/\g=[(920,[.rowD 49 6 (a.map Ap)])]:=by
 refine Np func239 Z Z ntmps239 Z Z Z λF f c=>(AC (AE (V (CQ 1 Z Z Z Z Z Z Z) ?_)));refine AB Z Z (AD (AC (AC (GL 1 0 0 920 OB Z Z Z Z Z Z Z (AE (cl Z Z (AD (A2 ?_))))))));refine c8 [2,6] Z ?_;refine WV (γ:=Unit) c 900 Z Z Z Z Z [1,920] (CHr:=hV []) (λ_=>True) (λ_=>hV a) (λ_=> .ready) (λ_=>none) ⟨Z,Z,trivial⟩ Z Z Z (λ_=>rfl) (λ_=>rfl) Z (λ_ _=>by simp) (λ_ _=>⟨Z,Z⟩) [920,1] f Z Z (λ_ _=>rfl) (λl A B i h=>?_) (λ_ _=>?_)
 .refine (m9 a b l (λq:List AG=>(900,[.loop ⟨l,13,[(2,.ptr 1 0 0),(6,.fn 212 [.d (.ptr (.sl none (a.map Ap)))])],.ready,none, #[7],A,B⟩])::hV q) [900,920,1] VN [] (λ_=>rfl) (λ_=>rfl) (λ_=>rfl) (λ_=>rfl) (λ_=>rfl) Z ?_).mono (λr g ⟨k,j⟩=>⟨k,(),trivial,by rw [j,Sb];rfl⟩);refine PZ (n:=a.length) (λq x s=>?_) a [] (by simp);refine Qx (lf:=900) Z Z Z Z λF f o=>?_;show Bf _ _ A _ _;rw [i];refine AE (V (CE 2 Fc Z Z Z Z) (V (Bk Z Z Z Z Z Z Z Cu) (AD (⟨Z,_,_,Z,Z,Z,Z,?_⟩))));show Bf _ _ B _ _;rw [h];refine A2 (AE (J (A5 Z Z Z K6 Z) (J (B1 Z Z Bs Z Z Z) (V (EH 30 OB Z Z Z Z Z Z Z Z) (V (Ic (q) ([x]) Z Z Z Z Z Z Z Z OB (by simp only [Φ];omega) Z Z Z Z) (V (Bk Z Z Z Z Z Z Z mY) (AD ?_)))))));exact ⟨none,_,_,[900,920,1],_,Z,Z,Z,Z,Z,Z,Z,Z⟩
 .refine AC (AE (J (A5 Z Z Z K6 Z) (AB Z Z (AD (A6 ?_)))));exact ⟨_,[920],_,A4 Z,Z,Z,Z,Z⟩
theorem fQ (l:List AG) (x:AG):(OP l x).Perm (x::l):=by
 induction l with
 | nil=>exact List.Perm.refl _
 | cons a l b=>
  grind [OP]
theorem SS (h:a.Pairwise λc b=>¬HE b c<0) (x:AG):(OP a x).Pairwise λc b=>¬HE b c<0:=by
 induction a with
 | nil=>simp [OP]
 | cons c a k=>
  rw [ga] at h;simp only [OP]
  split
  .rename_i g
   exact ga.2 ⟨λy i=>by have s:=g y i;have r:=DI.anti x y;omega,ga.2 h⟩
  .rename_i o
   refine ga.2 ⟨λy i=>?_,k h.2⟩;rcases di.1 ((fQ a x).mem_iff.1 i) with rfl | i
   .intro f;refine o λz j=>?_;rcases di.1 j with rfl | j
    .exact f
    .have s:=h.1 z j;have r:=DI.anti c z
     by_cases e:HE c z=0
     .have v:=DI.eqv c z y e;have u:=DI.anti c y;have t:=DI.anti z y;omega
     .exact DI.trans _ _ _ f (by omega)
   grind
theorem KD (l:List AG):(dA l).Perm l:=by
 induction l using YV with
 | h0=>exact List.Perm.refl _
 | h1 l x a=>
  grind [Ih,fQ]
theorem JK (l:List AG):(dA l).Pairwise λa b=>¬HE b a<0:=by
 induction l using YV with
 | h0=>exact List.Pairwise.nil
 | h1 l x c=>rw [Ih];exact SS c x
theorem XN {a b:AG} (h:HE a b=0):a.sq=b.sq:=by
 unfold HE at h;simp only [B7] at h
 split at h
 .split at h
  .rename_i c;exact P7.1 c
  omega
 omega
theorem Oa (f:(a.map AG.sq).Nodup) (h:a.Pairwise λc b=>¬HE b c<0):a.Pairwise λc b=>HE c b<0:=by
 rw [List.Nodup,ep] at f;refine (h.and f).imp λ{c b} ⟨j,i⟩=>?_;have g:=DI.anti c b
 grind [XN]
theorem QF {c f:List AG} (g:(c.map AG.sq).Nodup) (h:f.Perm c) (i:f.Pairwise λa b=>¬HE b a<0):f=dA c:=
 lx (R:=λa b=>HE a b<0) (λx=>by rw [DI.refl];omega) (λx y z=>DI.trans x y z) (Oa ((h.map _).nodup_iff.2 g) i) (Oa (((KD c).map _).nodup_iff.2 g) (JK c)) λx=>by rw [h.mem_iff,(KD c).mem_iff]
theorem SO (x:AG):∃a,Ap x= .agg a:=⟨_,Z⟩
abbrev p8 (its:List AG):AV:= .fn 212 [.d (.ptr (.sl none (its.map Ap)))]
theorem YA (a:List AG) (b:a.length<=1000000):AK prog 211 [p8 a] [] λr c=>r= .own 920 0 a.length/\c=[(920,[.rowD 49 6 (a.map Ap)])]:=by
 refine Av func211 Z Z ntmps211 Z Z Z λF f=>(AC (AE ?_));refine AB Z Z (AD (AC (AE (cl Z Z (V (Eh (cU a b) Z [920] ⟨Z,trivial⟩ Z Z Z Z Z Z Z Z Z) (AB Z Z (AD (A6 ?_))))))));exact ⟨_,[920],_,A4 Z,Z,Z,Z,Z⟩
theorem Wp (a:List AG) (b:a.length<=1000000) (c:(a.map AG.sq).Nodup):AM prog 182 [p8 a,.d (.raw (.func (.func 184) #[] #[]))] (.sl none ((dA a).map Ap)):=by
 refine Av func182 Z Z ntmps182 Z Z Z λF i=>(AC (AE (AB Z Z (AD (AC ?_)))));refine AE (cl Z Z (V (Eh (YA a b) Z [920] ⟨Z,trivial⟩ Z Z Z Z Z Z Z Z Z) (AB Z Z (AD (AC (AE (cl Z Z (cl Z Z ?_))))))));refine V (La lj (k:=6) (by decide) isAgg49 sizeOf49 func184 Z Z SO HE DI.swo a (dA a) (by omega) (λx _ y _=>V3 x y) (λh g f=>QF c g f) Z Z Z Kq Z Z Z Z Z) (AD (AC (L6 (emb:=Ap) 5 920 (dA a) Z Z Z (kj a).symm Z Z Z (AE (cl Z Z (AB Z Z (AD (A6 ?_))))))));exact ⟨_,[],[],A4 Z,Z,Z,Z,Z⟩
theorem Hb (h:Db a=0):(a.map AG.sq).Nodup:=by
 have f:=Pc.1 h;rw [List.Nodup,ep,fR];intro i j g b c e;have:=f j (Γ.2 b)
 grind [Mw,Mm]
theorem JA {p:dG} (h:Ai p=0):CY p.ro=0/\Db p.it=0/\Iz p.it=0:=by
 unfold Ai at h
 split at h; · cases h
 have a:=Jd h
 simp_all
def dC (p:dG):List AG:=if Ai p=0 then dA p.it else []
theorem KZ (p:dG) (f:EP p):AM prog 140 [.d (CM p)] (.sl none ((dC p).map Ap)):=by
 have a:=Fz p f;obtain ⟨_,h,_⟩:=f
 by_cases b:Ai p=0
 rw [b] at a;have c:dC p=dA p.it:=ϖ b;rw [c];refine Av func140 Z Z ntmps140 Z Z Z λF g=>(AC (AE (V (CQ 1 Z Z Z Z Z Z Z) ?_)));refine AB Z Z (AD (AC (AC (AE (J (B1 Z Z Bc Z Z Z) (J (B5 (a) Z Z) (J (EO Z Z Z) (AD ?_))))))));refine EV Z ((by decide)) (AZ (AC (AE (J (A1 Z EM Z Z Z) (J (A5 Z Z Z K6 Z) (V (Eh (Y7 p.it) Z [] trivial Z Z Z Z Z Z Z Z Z) (J (B5 (Wp p.it (by omega) (Hb (JA b).2.1)) Z Z) (AB Z Z ?_))))))))
 rotate_left
 have c:dC p=[]:=η b;rw [c];refine Av func140 Z Z ntmps140 Z Z Z λF g=>?_;refine AC (AE (V (CQ 1 Z Z Z Z Z Z Z) (AB Z Z (W3 2 Z (AD (AC (AC (AE ?_))))))));refine J (B1 Z Z Bc Z Z Z) (J (B5 (a) Z Z) (J (EO Z Z Z) (AD (Dt Z ((by simpa using b)) (AC (AE (AB Z Z (W3 2 Z ?_))))))))
 all_goals
  refine AD (A6 ?_);exact ⟨_,[],[],A4 Z,Z,Z,Z,Z⟩
theorem DH (p:dG):(dC p).length<=p.it.length:=by unfold dC;split<;>simp [kj]
theorem HZ {p:dG} {i:AG} (h:i∈dC p):i∈p.it:=by grind [dC,KD]
theorem HY (p:dG) (l:EP p):AM prog 79 [.d (CM p)] (.sl none (((dC p).map AG.id).map AF)):=by
 have c:=KZ p l;have f:=DH p;have r:=l.2.1
 obtain ⟨S,t⟩:∃S,dC p=S:=⟨_,Z⟩
 rw [t] at c f⊢;refine Av func79 Z Z ntmps79 Z Z Z λF o=>(AC (AE ?_));refine V (CQ 1 Z Z Z Z Z Z Z) (AB Z Z (AD (AC (AE (AB Z Z (AD (AC (AC ?_))))))));refine O0 3 900 BX Z Z Z Z (AE (J (B1 Z Z Bc Z Z Z) (J (B5 (c) Z Z) (J (CV Z F0 Z) (cl Z Z (AD (A2 (Bb (α:=Nat×List Int) (λq=>⟨20,[(3,(.own 900 0 q.2.length)),(7,(.d (.sl none (S.map Ap)))),(8,(.d (AF (S.length:Int)))),(9,(.d (AF (q.1:Int))))],[(900,[.rowD 3 1 (q.2.map AF)])]⟩) (λq=>q.1<=S.length/\q.2=(S.take q.1).map AG.id) (λq=>S.length - q.1) ((0,[])) (⟨ϱ _,Z⟩) (A0 o [900] Z Z ⟨Z,Z,Z,Z,trivial⟩) ?_))))))));rintro ⟨k,b⟩ ⟨j,i⟩;dsimp only at j i⊢;refine AC (AE (J (BW Z Z Z) (AD (AC (Ah Z (λa=>?_) (λa=>?_))))))
 .have g:k<S.length:=Bi a;refine AZ (AC (A2 (AC (AE ?_))));have s:b.length<=100000:=by rw [i,ψ,Θ];omega
  refine J (Bq (k) Z Z (Z) (Aq g) F0 Z Cu Z) (J (IX Z Z Bs Z) (V (CE 2 Fc Z Z Z Z) (V (Bk Z Z Z Z Z Z Z Cu) (AD (AE (cl Z Z (J (A1 Z Ny Z Z Z) ?_)))))));refine J (A5 Z Z Z BE Z) (V (EH 3 BX Z Z Z Z Z Z Z Z) (V (Ic (b) ([S[k].id]) Z Z Z Z Z Z Z Z BX (by simp only [Φ];omega) Z Z Z Z) (AB Z Z (AD (AE (J (Aw Z Z (AQ (k+1) (by omega)) Z) (cl Z Z (AD ?_))))))));exact ⟨(k+1,_),⟨by show k+1<=_;omega,by show _=(S.take (k+1)).map AG.id;rw [D0 g,<-i]⟩,by show S.length - (k+1)<S.length - k;omega,A0 o [900] Z (Z) ⟨Z,Z,Z,Z,trivial⟩⟩
 .refine BL (AC (L6 (emb:=AF) 3 900 b Z Z Z Z Z Z Z (AE (cl Z Z (AB Z Z (AD (A6 ?_)))))));exact ⟨_,[],[],A4 Z,Z,Z,by rw [i,ς (by have h:=a;omega)],Z⟩
theorem ip (p:dG) (r:AO) (t:EP p):AM prog 115 [.d (CM p),.d (C4 r)] (.sl none ((dO (dC p) r).map AF)):=by
 have j:=KZ p t;have l:=DH p;have x:=t.2.1;have b:∀i∈dC p,i.po.length<=100000/\i.pa.length<=100000/\i.af.length<=100000:=λi v=>t.2.2 i (HZ v)
 obtain ⟨S,z⟩:∃S,dC p=S:=⟨_,Z⟩
 rw [z] at j l b⊢;refine Av func115 Z Z ntmps115 Z Z Z λF u=>(AC (AE (V (CQ 1 Z Z Z Z Z Z Z) ?_)));refine V (CQ 2 Z Z Z Z Z Z Z) (AB Z Z (AD (AC (AE (AB Z Z (AD (AC (AC ?_))))))));refine O0 5 900 BX Z Z Z Z (AE (J (B1 Z Z Bc Z Z Z) (J (B5 (j) Z Z) (J (CV Z F0 Z) (cl Z Z (AD (A2 (Bb (α:=Nat×List Int) (λq=>⟨26,[(3,(.ptr 2 0 0)),(5,(.own 900 0 q.2.length)),(9,(.d (.sl none (S.map Ap)))),(10,(.d (AF (S.length:Int)))),(11,(.d (AF (q.1:Int))))],[(2,[.blk 53 [.d (AF r.k),.d (Ae r.acc.o),.d (AF r.acc.k),.d (Ae r.acc.a),.d (Ae r.f),.d (Ae r.t)]]),(900,[.rowD 3 1 (q.2.map AF)])]⟩) (λq=>q.1<=S.length/\q.2=dO (S.take q.1) r) (λq=>S.length - q.1) ((0,[])) (⟨ϱ _,Z⟩) (A0 u [2,900] Z Z ⟨Z,Z,Z,Z,Z,trivial⟩) ?_))))))));rintro ⟨k,g⟩ ⟨s,o⟩;dsimp only at s o⊢;refine AC (AE (J (BW Z Z Z) (AD (AC (Ah Z (λf=>?_) (λf=>?_))))))
 .have a:k<S.length:=Bi f;refine AZ (AC (A2 (AC (AE ?_))));have w:=b _ (θ a);have y:g.length<=100000:=by rw [o];unfold dO;rw [ψ];have:=fx (λi=>decide (BU i r<0)) (S.take k);rw [Θ] at this;omega
  refine J (Bq (k) Z Z (Z) (Aq a) F0 Z Cu Z) (J (IX Z Z Bs Z) (V (CE 3 Fc Z Z Z Z) (V (Bk Z Z Z Z Z Z Z Cu) ?_)));refine AD (AC (AE (J (B1 Z Z Bs Z Z Z) (J (B1 Z Z CL Z Z Z) (J (B5 (WL S[k] r (by omega) (by omega) (by omega)) Z Z) (J (BW Z Z Z) (AD (Ah Z (λc=>?_) (λc=>?_)))))))))
  .refine AE (cl Z Z (J (A1 Z Ny Z Z Z) ?_));refine J (A5 Z Z Z BE Z) (V (EH 4 BX Z Z Z Z Z Z Z Z) (V (Ic (g) ([S[k].id]) Z Z Z Z Z Z Z Z BX (by simp only [Φ];omega) Z Z Z Z) (AB Z Z (AD (AE (J (Aw Z Z (AQ (k+1) (by omega)) Z) (cl Z Z (AD ?_))))))));exact ⟨(k+1,_),⟨by show k+1<=_;omega,by show _=dO (S.take (k+1)) r;unfold dO;rw [GF a,ϖ (by simpa using c),du,o];rfl⟩,by show S.length - (k+1)<S.length - k;omega,A0 u [2,900] Z (Z) ⟨Z,Z,Z,Z,Z,trivial⟩⟩
  .refine AZ (AE (J (Aw Z Z (AQ (k+1) (by omega)) Z) (cl Z Z (AD ?_))));exact ⟨(k+1,_),⟨by show k+1<=_;omega,by show _=dO (S.take (k+1)) r;unfold dO;rw [GF a,η (by simpa using c),en,o];rfl⟩,by show S.length - (k+1)<S.length - k;omega,A0 u [2,900] Z (Z) ⟨Z,Z,Z,Z,Z,trivial⟩⟩
 .refine BL (AC (L6 (emb:=AF) 5 900 g Z Z Z Z Z Z Z (AE (cl Z Z (AB Z Z (AD (A6 ?_)))))));exact ⟨_,[],[],A4 Z,Z,Z,by rw [o,ς (by have h:=f;omega)],Z⟩
def Mt (l:List AG) (id:Int):AG×Bool:=match l.find? λx=>decide (x.id=id) with
 | some x=>(x,true)
 | none=>(cv,false)
theorem SP {id:Int} {k:Nat} (b:k<a.length) (c:id∉(a.take k).map AG.id) (h:a[k].id=id):Mt a id=(a[k],true):=by
 have:a.find? (λx=>decide (x.id=id))=some a[k]:=by
  grind [List.find?_eq_some_iff_getElem,Mm]
 unfold Mt;rw [this]
theorem bC {id:Int} (h:id∉a.map AG.id):Mt a id=(cv,false):=by grind [Mt]
theorem Xf:∀w O v,AN w O (.agg [AF 0,AF 0,AF 0,.sl (some true) [],.sl (some true) [],.sl (some true) []]) v ->AN w O (Ap cv) v:=λw O v h=>h.aggMono Z (by simp [D.one]) λi c g b a v f=>by
 match i,b,a with
 | 0,b,a=>injection b with b;injection a with a;subst b a;exact f
 | 1,b,a=>injection b with b;injection a with a;subst b a;exact f
 | 2,b,a=>injection b with b;injection a with a;subst b a;exact f
 | 3,b,a=>injection b with b;injection a with a;subst b a;exact f.anyNil
 | 4,b,a=>injection b with b;injection a with a;subst b a;exact f.anyNil
 | 5,b,a=>injection b with b;injection a with a;subst b a;exact f.anyNil
theorem n4 (p:dG) (id:Int) (o:EP p):AM prog 80 [.d (CM p),.d (AF id)] (.tup [Ap (Mt (dC p) id).1,Ac (Mt (dC p) id).2]):=by
 have g:=KZ p o;have j:=DH p;have v:=o.2.1;have b:∀i∈dC p,i.po.length<=100000/\i.pa.length<=100000/\i.af.length<=100000:=λi t=>o.2.2 i (HZ t)
 obtain ⟨S,w⟩:∃S,dC p=S:=⟨_,Z⟩
 rw [w] at g j b⊢;refine Av func80 Z Z ntmps80 Z Z Z λF r=>(AC (AE (V (CQ 1 Z Z Z Z Z Z Z) (V (CE 2 Fc Z Z Z Z) (AB Z Z (AD (AC ?_)))))));refine AC (AE (J (B1 Z Z Bc Z Z Z) (J (B5 (g) Z Z) (J (CV Z F0 Z) (cl Z Z (AD (A2 (Bb (α:=Nat) (λk=>⟨23,[(1,.d (AF id)),(4,(.ptr 2 0 0)),(9,(.d (.sl none (S.map Ap)))),(10,(.d (AF (S.length:Int)))),(11,(.d (AF (k:Int))))],[(2,[.blk 49 [.d (AF 0),.d (AF 0),.d (AF 0),XV,XV,XV]])]⟩) (λk=>k<=S.length/\id∉(S.take k).map AG.id) (λk=>S.length - k) (0) (⟨ϱ _,by simp⟩) (A0 r [2] Z Z ⟨Z,Z,Z,Z,Z,trivial⟩) ?_))))))));rintro k ⟨s,l⟩;refine AC (AE (J (BW Z Z Z) (AD (AC (Ah Z (λf=>?_) (λf=>?_))))))
 .have a:k<S.length:=Bi f;refine AZ (AC (A2 (AC (AE ?_))));have u:=b _ (θ a);refine J (Bq (k) Z Z (Z) (Aq a) F0 Z Cu Z) (J (IX Z Z Bs Z) (V (CE 3 Fc Z Z Z Z) (V (Bk Z Z Z Z Z Z Z Cu) ?_)));refine AD (AC (AE (J (A1 Z Ny Z Z Z) (J (A5 Z Z Z BE Z) (cl Z Z (J (MB Z Z Z) (AD (Ah Z (λc=>?_) (λc=>?_)))))))))
  .refine AC (AE (J (B1 Z Z Bs Z Z Z) (J (B5 (kR S[k] (by omega) (by omega) (by omega)) Z Z) (V (Bk Z Z Z Z Z Z Z Cu) (AB Z Z (AD (A6 ?_)))))));exact ⟨_,[],[],A4 Z,Z,Z,by rw [SP a l c],Z⟩
  .refine AZ (AE (J (Aw Z Z (AQ (k+1) (by omega)) Z) (cl Z Z (AD ?_))));exact ⟨k+1,⟨by show k+1<=_;omega,XU a l c⟩,by show S.length - (k+1)<S.length - k;omega,A0 r [2] Z (Z) ⟨Z,Z,Z,Z,Z,trivial⟩⟩
 .refine BL (AC (AE (J (FU Fc mq Z Z Z) (Vb 22 (Ap cv) Z Xf (V (Bk Z Z Z Z Z Z Z Cu) (AB Z Z (AD (A6 ?_))))))));exact ⟨_,[],[],A4 Z,Z,Z,by rw [bC (by rw [ς (by have h:=f;omega)] at l;exact l)],Z⟩
theorem QR (i:(a.map AG.id).Nodup) {x y:AG} (c:x∈a) (g:y∈a) (h:x.id=y.id):x=y:=by
 induction a with
 | nil=>cases c
 | cons b a f=>
  grind
theorem WY (h:Db a=0):(a.map AG.id).Nodup:=by
 have f:=Pc.1 h;rw [List.Nodup,ep,fR];intro i j g b c e;have:=f j (Γ.2 b)
 grind [Mw,Mm]
end Go.Proofs.YtnkkaeblokdifaaGreat
