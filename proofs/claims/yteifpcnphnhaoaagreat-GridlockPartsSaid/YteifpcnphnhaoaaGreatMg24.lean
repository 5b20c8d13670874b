import Derived.Test.YteifpcnphnhaoaaGreatMg23
open Go.Proofs.Tryz
namespace Go.Proofs.YteifpcnphnhaoaaGreat
open Go.RowKit
variable {g:List (List Nat)} {w a:List Nat} {c:List AW} {K:Nat ->Nat} {E:List (AJ×Nat)} {k i:Nat} {d:List Nat} {j:Nat} {e:AJ} {M:MF} {f:AJ} {x:Nat} {h:Type} {m y:Nat}
set_option maxRecDepth 100000
abbrev Cx (e:AJ×Nat):D:= .agg [AF e.1.id,AF e.1.pr,AF e.1.sq,.sl none (e.1.po.map BV),.sl none (e.1.pa.map C8),.sl none (e.1.af.map AF),mD e.2]
abbrev KC (m:List (AW×Int)):List (D×D):=B5 Bd AF m
def XD (rs:List AW) (M:MF) (E:List (AJ×Nat)):Prop:=∀e∈E,M e.2=some (.map none (KC (dR rs e.1)))
theorem XD.add (h:XD c M E) (a:M m=none):XD c (B6 M m (.map none (KC (dR c e)))) (E++ [(e,m)]):=by grind [XD,B6]
def dK (rs:List AW) (i:AJ) (j:Nat):List (AW×Int):=((A4 i).take j).filter λd=>decide (d.1∈rs)
theorem dK_end (a:List AW) (i:AJ):dK a i (A4 i).length=dR a i:=by unfold dK dR;rw [ωl]
theorem dK_hit (l:j<(A4 e).length) (h:((A4 e)[j]).1∈c):BZ (dK c e j) ((A4 e)[j]).1 ((A4 e)[j]).2=dK c e (j+1):=by
 have k:=D3 e
 have m:((A4 e)[j]).1∉(dK c e j).map Prod.fst:=λb=>by
  obtain ⟨d,f,a⟩:=Ξ.1 b;have g:d∈(A4 e).take j:=(ωc.1 f).1;have n:((A4 e)[j]).1∈((A4 e).map Prod.fst).take j:=by rw [<-List.map_take,<-a];exact ψz g
  grind [Ks]
 grind [EV,dK,ψ]
theorem dK_miss (a:j<(A4 e).length) (h:((A4 e)[j]).1∉c):dK c e (j+1)=dK c e j:=by
 unfold dK;rw [ψ a,ωv]
 simp [h]
def Uk (a b:AJ):Int:=if ES a b<0 then -1 else 1
theorem Uj {b:AJ}:Uk f b<0↔ES f b<0:=by grind [Uk]
theorem ep:Go.Sort.SWO (ltOf Uk):=by
 have e:ltOf Uk=ltOf ES:=by
  funext a b
  exact decide_eq_decide.2 Uj
 rw [e];exact Ds.swo
theorem We (a b:AJ):AM prog 116 [.d (Af a),.d (Af b)] (AF (Uk a b)):=by
 refine Ax func116 Z Z ntmps116 Z Z Z λF e=>(AD (AE (V (Bi 1 Z Z Z Z Z Z Z) (V (Bi 2 Z Z Z Z Z Z Z) (AB Z Z ?_)))));refine AC (AD (AD (AE (J (BA Z Z CO Z Z Z) (J (BA Z Z CO Z Z Z) (J (Aw (fg a b) Z Z) (AC (A7 Z (λc=>?_) (λc=>?_)))))))))
 .refine AD (AE (AB Z Z (AC (AZ ?_))));exact ⟨_,[],[],AY Z,Z,Z,A0 (by unfold Uk;rw [ς c]),Z⟩
 .refine AX (AD (AE (AB Z Z (AC (AZ ?_)))));exact ⟨_,[],[],AY Z,Z,Z,A0 (by unfold Uk;rw [η c]),Z⟩
theorem aQ (l:List AJ) (c:l.length<=1000000):AT prog 114 [.d (.sl none (l.map Af))] [] λr b=>r= .own 20 0 l.length/\b=[(20,[.rowD 55 6 (l.map Af)])]:=by
 refine Ax func114 Z Z ntmps114 Z Z Z λF e=>(AD (AE (AB Z Z ?_)));skip;refine AC (AD (AD (AE (goMv Z Z (Fp 3 Z (λa=>?_) ?_)))))
 .refine J (Ea underlying37 Z Z) (AC (Bz Z (Z) (AD (AE (AB Z Z (Xn 2 20 Ls Z Z Z Z (AC (AZ ?_))))))));exact ⟨_,[20],_,AY Z,Z,Z,by rw [List.map_eq_nil_iff.1 a];rfl,by rw [List.map_eq_nil_iff.1 a];rfl⟩
 .refine J (Ea underlying37 Z Z) ?_;refine AC (Cu Z (Z) (AX (AD (AE (V (C1 20 Ls Z Z Z Z Z Z Z Z) (goMv Z Z (V (QR (([]:List AJ)) (l) Z Z Z Z Z Z (λ_=>rfl) Ls (by simp only [χc];omega) Z Z Z Z) (AB Z Z ?_))))))));skip;refine AC (AZ ?_);exact ⟨_,[20],_,AY Z,Z,Z,by simp,Z⟩
theorem rs_put {p:Prb} (a:(rsP p).Nodup) (b:k<p.ro.length):BZ (BS ((rsP p).take k)) p.ro[k].r true=BS ((rsP p).take (k+1)):=by grind [rsP,ao,Ks,ψ]
set_option maxHeartbeats 4000000 in
theorem Mc (p:Prb) (X:BE p=0) (W:GH p) (g:FuncId) (m:List D) (N:MF) (G:Int ->Bool) (hq:∀id,AT prog g (.d (AF id)::dL m) [(41,[.multi N])] λr Y=>r= .d (Am (G id))/\Y=[(41,[.multi N])]):
  AT prog 65 [.d (Bg p),.d (.fn g [] m)] [(41,[.multi N])] λr Y=>∃E M,r= .d (.sl none (E.map Cx))/\Y=[(41,[.multi N]),(40,[.multi M])]/\XD (rsP p) M E/\E.map Prod.fst=(ordP p).filter λi=>G i.id:=by
 have hO:ordP p=BP p.it:=ς X;rw [hO]
 obtain ⟨c,n⟩:∃c,BP p.it=c:=⟨_,Z⟩
 have U:c.length=p.it.length:=by rw [<-n];exact am p.it
 have H:∀i∈c,i∈p.it:=λi hi=>by rw [<-n] at hi;exact (ah p.it).mem_iff.1 hi
 have hi30:=W.i;have Q:=W.r;have O:(rsP p).Nodup:=H8 X;have P:(rsP p).length=p.ro.length:=χ _;have L:=NE (Pk X).2.1;rw [n];refine Ax func65 Z Z ntmps65 Z Z Z λF u=>(AD (AE ?_));refine V (Bi 1 Z Z Z Z Z Z Z) (AB Z Z (AC (AD (AE (V (Ps 50 Z Z Z Z) (AB Z Z (AC (AD ?_))))))));refine AD (AE (J (AL Z DF Z Z Z) (J (AQ Z Z Z ML Z) (J (BU Z underlying36 Z) (goMv Z Z (AC (A2 (BO (α:=Nat) (λk=>⟨76,[(1,.d (.fn g [] m)),(2,(.ptr 1 0 0)),(5,(.map 50 0)),(19,(.d (.sl none (p.ro.map Bl)))),(20,(.d (AF (p.ro.length:Int)))),(21,(.d (AF (k:Int))))],[(1,[.blk 39 [.d (.sl none (p.ro.map Bl)),.d (.sl none (p.it.map Af))]]),(50,[B1 Bd Am (BS ((rsP p).take k))]),(41,[.multi N])]⟩) (λk=>k<=p.ro.length) (λk=>p.ro.length - k) (0) (ζ _) (AU u [1,50,41] Z Z ⟨Z,Z,Z,Z,Z,Z,trivial⟩) ?_))))))));rintro k hk;refine AD (AE (J (Az Z Z Z) (AC (AD (A7 Z (λC=>?_) (λC=>?_))))))
 .refine AX (AD (A2 (AD ?_)));have l:k<p.ro.length:=BR C;refine AE (J (BC (k) Z Z (Z) (A3 l) underlying36 Z KY Z) ?_);refine J (Ca Z Z Vz Z) (V (CA 2 R3 Z Z Z Z) (V (B4 Z Z Z Z Z Z Z KY) (AC (AE (goMv Z Z (J (AL Z EY Z Z Z) (J (BA Z Z Cc Z Z Z) (V (VZ (BS ((rsP p).take k)) (p.ro[k].r) (true) Z Z Z Qr C4 Z Z) ?_))))))));rw [rs_put O l];refine AC (AE (J (Ah Z Z (AK (k+1) (by omega)) Z) (goMv Z Z (AC ?_))));exact ⟨k+1,l,by omega,AU u [1,50,41] Z (Z) ⟨Z,Z,Z,Z,Z,Z,trivial⟩⟩
 .refine Ar (AD ?_);have v:k=p.ro.length:=by have:=C;omega
  rw [v,<-P,ωl];refine AE (AB Z Z (AC (AD (AE (J (AL Z Sd Z Z Z) (J (AQ Z Z Z Hc Z) (V (FG (aQ p.it (by omega)) Z [20] ⟨Z,trivial⟩ Z Z Z Z Z Z Z Z Z) (AB Z Z ?_))))))));refine AC (AD (AE (goMv Z Z (V (Nf laysI (k:=6) (by decide) isAgg55 sizeOf55 func116 Z Z UW Uk ep p.it c (by omega) (λx _ y _=>We x y) (λys g1 g2=>by rw [<-n];exact Xa L g1 (g2.imp λ{a b} h h2=>h (Uj.2 h2))) Z Z Z Ma Z Z Z Z Z) (AC (AD (AD (KP (emb:=Af) 9 20 c Z Z Z U.symm Z Z Z ?_))))))));refine IA 40 Z Z Z (AE (goMv Z Z (J (BU Z underlying37 Z) (goMv Z Z (AC (A2 (NR 8 30 bx Z Z Z Z (BO (α:=Nat×List (AJ×Nat)×MF) (λq=>⟨76,[(1,.d (.fn g [] m)),(2,(.ptr 1 0 0)),(5,(.map 50 0)),(8,(.own 30 0 q.2.1.length)),(34,(.d (.sl none (c.map Af)))),(35,(.d (AF (c.length:Int)))),(36,(.d (AF (q.1:Int))))],[(50,[B1 Bd Am (BS (rsP p))]),(41,[.multi N]),(30,[.rowD 131 7 (q.2.1.map Cx)]),(40,[.multi q.2.2])]⟩) (λq=>q.1<=c.length/\XD (rsP p) q.2.2 q.2.1/\q.2.1.map Prod.fst=(c.take q.1).filter λi=>G i.id) (λq=>c.length - q.1) ((0,[],_)) (⟨ζ _,(λe he=>nomatch he),Z⟩) (AU u [50,41,30,40] Z Z ⟨Z,Z,Z,Z,Z,Z,Z,trivial⟩) ?_))))))));rintro ⟨k,E,M⟩ ⟨hk,K,o⟩;dsimp only at hk K o⊢;refine AD (AE (J (Az Z Z Z) (AC (AD (A7 Z (λB=>?_) (λB=>?_))))))
  .refine AX (AD (A2 (AD ?_)));have l:k<c.length:=BR B;have S:=H _ (ϑ l);have R:=W.x _ S;have hEl:E.length<=30:=by have h1:(E.map Prod.fst).length<=c.length:=(by rw [o];exact ωa (ωj _ _) (by rw [ϱ];omega));rw [χ] at h1;omega
   refine AE (J (BC (k) Z Z (Z) (A3 l) underlying37 Z Cm Z) (J (Ca Z Z CO Z) (V (CA 2 FJ Z Z Z Z) (V (B4 Z Z Z Z Z Z Z Cm) (AC (AD ?_))))));refine AD (AE (goMv Z Z (J (AL Z OG Z Z Z) (J (AQ Z Z Z Ai Z) (V (Vc (hq c[k].id) Z [41] ⟨Z,trivial⟩ Z Z Z Z Z Z Z Z Z) (J (NQ Z Z) (AC (JC Z (λA=>?_) (λA=>?_)))))))))
   .have s:¬G c[k].id=true:=by simpa using A
    refine Ar (AE (J (Ah Z Z (AK (k+1) (by omega)) Z) (goMv Z Z (AC ?_))));exact ⟨(k+1,E,M),⟨l,K,by show _=(c.take (k+1)).filter _;rw [ψ l,ωv,o,χe,η s];simp⟩,by show c.length - (k+1)<c.length - k;omega,AU u [50,41,30,40] Z (Z) ⟨Z,Z,Z,Z,Z,Z,Z,trivial⟩⟩
   .have s:G c[k].id=true:=by simpa using A
    refine AX (AD (AE (J (BA Z Z CO Z Z Z) (V (Ps 51 Z Z Z Z) (MN 46 51 40 u Z Z Z Z Z Z Z Z Z Z (λ_=>rfl) λI hb=>(JQ 40 I Z (GF _ _ _) Z ?_))))));rw [Fs];refine J (EI Mr pl131 Z Z Z) (V (CA 3 Mr Z Z Z Z) (V (B4 Z Z Z Z Z Z Z GU) (AC (AD ?_))));refine AE (J (BA Z Z CO Z Z Z) (J (Aw (Up c[k] (by omega) (by omega) (by omega)) Z Z) (goMv Z Z (J (Di Z Z Z) (J (Di Z Z Z) (AB Z Z (AB Z Z (AC ?_))))))));refine AD (AD (AE (goMv Z Z (J (BU Z underlying215 Z) (goMv Z Z (AC (A2 (BO (α:=Nat) (λj=>⟨76,[(1,.d (.fn g [] m)),(2,(.ptr 1 0 0)),(5,(.map 50 0)),(8,(.own 30 0 E.length)),(12,(.ptr 3 0 0)),(34,(.d (.sl none (c.map Af)))),(35,(.d (AF (c.length:Int)))),(36,(.d (AF (k:Int)))),(53,(.d (.sl none ((A4 c[k]).map QL)))),(54,(.d (AF ((A4 c[k]).length:Int)))),(55,(.d (AF (j:Int))))],[(3,[.blk 131 [.d (AF c[k].id),.d (AF c[k].pr),.d (AF c[k].sq),.d (.sl none (c[k].po.map BV)),.d (.sl none (c[k].pa.map C8)),.d (.sl none (c[k].af.map AF)),.d (mD I)]]),(50,[B1 Bd Am (BS (rsP p))]),(41,[.multi N]),(30,[.rowD 131 7 (E.map Cx)]),(40,[.multi (B6 M I (.map none (KC (dK (rsP p) c[k] j))))])]⟩) (λj=>j<=(A4 c[k]).length) (λj=>(A4 c[k]).length - j) (0) (ζ _) (AU u [3,50,41,30,40] Z Z ⟨Z,Z,Z,Z,Z,Z,Z,Z,Z,Z,Z,trivial⟩) ?_))))))));rintro j hj;refine AD (AE (J (Az Z Z Z) (AC (AD (A7 Z (λz=>?_) (λz=>?_))))))
    .refine AX (AD (A2 (AD ?_)));have hdl:=Nz (x:=c[k]) R;have t:j<(A4 c[k]).length:=BR z;refine AE (J (BC (j) Z Z (Z) (A3 t) underlying215 Z XR Z) (J (Ca Z Z rw218 Z) (V (CA 4 ax Z Z Z Z) (V (B4 Z Z Z Z Z Z Z XR) ?_))));refine AC (AD (AE (goMv Z Z (J (AL Z LO Z Z Z) (J (BA Z Z Cc Z Z Z) (J (IR (BS (rsP p)) ((A4 c[k])[j]).1 false _ Z Z Z Qr C4 Sv (Yc _ _) Z) (AC (A7 Z (λw=>?_) (λw=>?_)))))))))
     .refine AE (J (AL Z LY Z Z Z) (J (AQ Z Z Z Tq Z) (J (AL Z LO Z Z Z) (J (BA Z Z Cc Z Z Z) (J (AL Z YQ Z Z Z) (J (AQ Z Z Z Fn Z) (V (OV (f:=40) (dK (rsP p) c[k] j) ((A4 c[k])[j]).1 ((A4 c[k])[j]).2 Z Z (GF _ _ _) Z CQ C4 Z Z) ?_)))))));rw [Fs,dK_hit t w];refine AC (AE (J (Ah Z Z (AK (j+1) (by omega)) Z) (goMv Z Z (AC ?_))));exact ⟨j+1,t,by omega,AU u [3,50,41,30,40] Z (Z) ⟨Z,Z,Z,Z,Z,Z,Z,Z,Z,Z,Z,trivial⟩⟩
     .refine AX (AE (J (Ah Z Z (AK (j+1) (by omega)) Z) (goMv Z Z (AC ?_))));exact ⟨j+1,t,by omega,AU u [3,50,41,30,40] Z (by simp only [dK_miss t w];rfl) ⟨Z,Z,Z,Z,Z,Z,Z,Z,Z,Z,Z,trivial⟩⟩
    .refine Ar ?_;have T:j=(A4 c[k]).length:=by have:=z;omega
     rw [T,dK_end];refine AE (goMv Z Z ?_);refine J (BA Z Z K9 Z Z Z) (V (C1 31 bx Z Z Z Z Z Z Z Z) (V (Eu (E) ([(c[k],I)]) Z Z Z Z Z Z Z Z bx (by simp only [υ];omega) Z Z Z Z) (AB Z Z (AC (AE (J (Ah Z Z (AK (k+1) (by omega)) Z) (goMv Z Z (AC ?_))))))));exact ⟨(k+1,E++ [(c[k],I)],_),⟨l,K.add hb,by show _=(c.take (k+1)).filter _;rw [ψ l,ωv,Ω,o,χe,ς s];rfl⟩,by show c.length - (k+1)<c.length - k;omega,AU u [50,41,30,40] Z (Z) ⟨Z,Z,Z,Z,Z,Z,Z,trivial⟩⟩
  .refine Ar (AD ?_);have v:k=c.length:=by have:=B;omega
   rw [v,ωl] at o;refine KP (emb:=Cx) 8 30 E Z Z Z Z Z Z Z (AE (goMv Z Z (AB Z Z (AC (AZ ?_)))));exact ⟨_,[41,40],_,AY Z,Z,Z,E,M,Z,Z,K,o⟩
abbrev AO (n:Nat):D:=AF (n:Int)
abbrev natsD (l:List Nat):D:= .sl none (l.map AO)
theorem N6 (h:k<a.length):(a.map AO)[k]? =some (AO (nth a k)):=by rw [A3 h,QQ h]
theorem eqv {a b:D} (h:a=b):AV.d a=AV.d b:=by rw [h]
theorem swpJ {j:List Nat} {c:Nat} (e:c<a.length) (d:m<a.length):((a++j).set c (nth a m)).set m (nth a c)=JH a c m++j:=by
 rw [List.set_append_left _ _ e,List.set_append_left _ _ (by simpa using d)];rfl
theorem takeJ (l j:List Nat):((l++j).map AO).take l.length++ [AO x].take 1=(l++ [x]).map AO:=by
 rw [<-List.map_take,List.take_left];simp
theorem popJ {j:List Nat} (h:0<a.length):a.take (a.length - 1)++([nth a (a.length - 1)]++j)=a++j:=by grind [χy,χo,QQ]
theorem quo2 (j:Nat):Int.tdiv ((j:Int) - 1) 2=(((j - 1) / 2:Nat):Int):=by grind
theorem AT.top {P:Program} {f:FuncId} {a:List AV} {k j:Hp} (h:AT P f a k λr c=>(∃b:Bool,r= .d (Am b))/\c=j):AT P f a k λr c=>r= .top/\c=j:=
 ⟨h.1,λF l m t s i q p o=>(h.2 F l m t s i q p o).mono λe x ⟨v,r,c,g,w,⟨_,u⟩,_,n⟩=>⟨v,.top,c,g,w,⟨Z,u⟩,.top,n⟩⟩
theorem bdec {p q:Prop} [Decidable p] [Decidable q] (h:p↔q):AV.d (Am (decide p))=AV.d (Am (decide q)):=by rw [decide_eq_decide.2 h]
theorem pt3:FM prog 3=true:=by kernel_rfl
theorem cY:FM prog 321=true:=by kernel_rfl
theorem mLen:KM prog 321 "Len" 223:=λb w=>by kernel_rfl
theorem UJ:KM prog 321 "Less" 296:=λb w=>by kernel_rfl
theorem UI:KM prog 321 "Swap" 299:=λb w=>by kernel_rfl
theorem mPush:KM prog 321 "Push" 298:=λb w=>by kernel_rfl
theorem mPop:KM prog 321 "Pop" 297:=λb w=>by kernel_rfl
abbrev LJ (g:List (List Nat)):D:= .sl none (g.map natsD)
structure GB (g:List (List Nat)):Prop where
 n:g.length<=65536
 e:∀l∈g,l.length<=1048576
 lt:∀l∈g,∀x∈l,x<g.length
theorem Fd (h:i<g.length):sucs g i=g[i]:=by simp [sucs,h]
theorem Ub (h:i<g.length):(g.map natsD)[i]? =some (natsD (sucs g i)):=by rw [A3 h,Fd h]
theorem GB.len (h:GB g) {i:Nat} (a:i<g.length):(sucs g i).length<=1048576:=by rw [Fd a];exact h.e _ (ϑ a)
theorem GB.suc (h:GB g) (b:i<g.length) (a:x∈sucs g i):x<g.length:=by rw [Fd b] at a;exact h.lt _ (ϑ b) x a
def S4 (g:List (List Nat)) (i j:Nat):Nat:=((List.range i).map λa=>(sucs g a).count j).sum
theorem RP (g:List (List Nat)) (i j:Nat):S4 g (i+1) j=S4 g i j+(sucs g i).count j:=by
 unfold S4;rw [ωy,Ω,χt];simp
theorem Y2 {g:List (List Nat)} (h:GB g) (j:Nat):∀i,i<=g.length ->S4 g i j<=i*1048576
 | 0,_=>by simp [S4]
 | i+1,b=>by
  have:=Y2 h j i (by omega);have:=List.count_le_length (a:=j) (l:=sucs g i);have:=h.len (i:=i) (by omega);rw [RP];omega
theorem fO (g:List (List Nat)) (j:Nat):S4 g g.length j=Me g [] j:=by
 unfold S4 Me
 congr 1
theorem Vn (h:k<a.length) (j:Nat):(a.take (k+1)).count j=(a.take k).count j+if nth a k=j then 1 else 0:=by grind [ψ,QQ]
theorem fD (h:k<a.length):a.drop k=nth a k::a.drop (k+1):=by rw [QQ h];exact χo h
theorem rep0S (n:Nat):List.replicate n (D.raw (.int .i64 0))=(List.replicate n 0).map AO:=by rw [List.map_replicate];rfl
theorem nth_rep (n k:Nat):nth (List.replicate n 0) k=0:=by
 unfold nth;rw [Φ,List.getElem?_replicate];split<;>rfl
theorem getset {v:Nat} (h:y<w.length):((w.set y v).map AO)[y]? =some (AO v):=by grind
theorem degS_le (h:GB g) (done:List Nat) (j:Nat):Me g done j<=g.length*1048576:=by
 have b:∀n,n<=g.length ->((List.range n).map λi=>if i∈done then 0 else (sucs g i).count j).sum<=n*1048576:=by
  intro n
  induction n with
  | zero=>intro _;exact ζ _
  | succ n c=>
   intro o;have m:=c (by omega);have k:=List.count_le_length (a:=j) (l:=sucs g n);have f:=h.len (i:=n) (by omega)
   have d:(if n∈done then 0 else (sucs g n).count j)<=1048576:=by
    by_cases e:n∈done
    .rw [ς e];exact ζ _
    .rw [η e];exact ωa k f
   rw [ωy,Ω,χt,List.map_singleton,List.sum_singleton,Nat.succ_mul];exact Nat.add_le_add m d
 exact b _ (Γ _)
theorem oi_wle {q b:List Nat} (c:GB g) (h:OI g K w q d (y::b)) (e:y<g.length) (i:b.length<=1048576):nth w y<=69000000000:=by
 have k:=degS_le c d y;have j:=c.n;have f:=List.count_le_length (a:=y) (l:=y::b);rw [h.deg y e];rw [χq] at f;omega
theorem oi_row {q:List Nat} (h:OI g K w q d ((sucs g x).drop k)) (e:k=(sucs g x).length):OI g K w q d []:=by
 rw [e,List.drop_length] at h;exact h
noncomputable def ordG (g:List (List Nat)) (K:Nat ->Nat):List Nat:=Classical.epsilon λout=>R0 g K out/\∀y,¬DQ g out y
theorem ordG_eq (f:∀a b,a<g.length ->b<g.length ->K a=K b ->a=b) (e:R0 g K d) (c:∀y,¬DQ g d y):ordG g K=d:=by
 have h:R0 g K (ordG g K)/\∀y,¬DQ g (ordG g K) y:=Classical.epsilon_spec (p:=λd=>R0 g K d/\∀y,¬DQ g d y) ⟨d,e,c⟩;exact eP f h.1 e h.2 c
structure FI (K:Nat ->Nat) (w:List Nat) (i:Nat) (l:List Nat):Prop where
 nd:l.Nodup
 mem:∀x,x∈l↔x<i/\nth w x=0
 hp:JE K l
theorem FI.le (h:FI K w i a):a.length<=i:=by
 have:=DN h.nd (m:=List.range i) λx b=>Ψ.2 ((h.mem x).1 b).1
 grind
theorem fi_zero (K:Nat ->Nat) (w:List Nat):FI K w 0 []:=⟨.nil,λx=>by simp,λi b a=>by simp at a⟩
theorem fi_push (h:FI K w i a) (d:nth w i=0):FI K w (i+1) (NF K a i):=by
 have b:=PJ K a i;refine ⟨b.nodup_iff.2 (φh.2 ⟨λc=>φe _ ((h.mem i).1 c).1,h.nd⟩),λx=>?_,PL h.hp i⟩;rw [b.mem_iff,Υ,h.mem]
 grind
theorem fi_skip (h:FI K w i a) (b:nth w i≠0):FI K w (i+1) a:=by
 refine ⟨h.nd,λx=>?_,h.hp⟩;rw [h.mem]
 grind
structure CW (g:List (List Nat)) (i k:Nat) (w:List Nat):Prop where
 len:w.length=g.length
 val:∀j,j<g.length ->nth w j=S4 g i j+((sucs g i).take k).count j
theorem cw_zero (g:List (List Nat)):CW g 0 0 (List.replicate g.length 0):=⟨by simp,λj _=>by rw [nth_rep];simp [S4]⟩
theorem cw_step (c:GB g) (h:CW g i k w) (n:i<g.length) (f:k<(sucs g i).length):
  nth (sucs g i) k<w.length/\nth w (nth (sucs g i) k)<=100000000000/\CW g i (k+1) (w.set (nth (sucs g i) k) (nth w (nth (sucs g i) k)+1)):=by
 have d:nth (sucs g i) k<g.length:=c.suc n (DR f);have b:nth (sucs g i) k<w.length:=by rw [h.len];exact d
 refine ⟨b,?_,⟨by simpa using h.len,λj m=>?_⟩⟩
 .rw [h.val _ d];have:=Y2 c (nth (sucs g i) k) i (by omega);have:=List.count_le_length (a:=nth (sucs g i) k) (l:=(sucs g i).take k);rw [ϱ] at this;have:=c.len n;have:=c.n;omega
 .rw [Ko b,Vn f]
  by_cases e:nth (sucs g i) k=j
  .rw [ς e.symm,ς e,e,h.val j m];omega
  .rw [η λo=>e o.symm,η e,h.val j m];omega
theorem cw_row (h:CW g i (sucs g i).length w):CW g (i+1) 0 w:=⟨h.len,λj a=>by rw [h.val j a,ωl,RP];simp⟩
theorem cw_end (h:CW g g.length 0 w):w.length=g.length/\∀j,j<g.length ->nth w j=Me g [] j:=
 ⟨h.len,λj a=>by rw [h.val j a,fO];simp⟩
def ai (rs:List AW) (a b:AJ):Prop:=(∃d∈dR rs a,d.2<0/\0<Ad (dR rs b) d.1 0)\/b.id∈a.af
noncomputable instance (rs:List AW) (a b:AJ):Decidable (ai rs a b):=Classical.propDecidable _
theorem Gz {c b:List h} {x:List h} {y:h} {d:List h} (a:(c++x).Perm d) (e:x.Perm (y::b)):((c++ [y])++b).Perm d:=by
 refine List.Perm.trans ?_ a;rw [ψi];exact (List.Perm.append_left c e).symm
theorem df {b:Type} {m:List (h×b)} {x:h×b} (a:m[j]? =some x):x∈m:=ξ a
set_option maxHeartbeats 1000000 in
theorem waits_c (a b:AJ×Nat) (D:M a.2=some (.map none (KC (dR c a.1)))) (t:M b.2=some (.map none (KC (dR c b.1)))) (N:a.1.af.length<=100000):
  AT prog 132 [.d (Cx a),.d (Cx b)] [(40,[.multi M])] λr X=>r= .d (Am (decide (ai c a.1 b.1)))/\X=[(40,[.multi M])]:=by
 obtain ⟨a,m⟩:=a;obtain ⟨b,I⟩:=b;dsimp only at D t N⊢
 obtain ⟨L,P⟩:∃L,dR c a=L:=⟨_,Z⟩
 have E:ai c a b↔((∃d∈L,d.2<0/\0<Ad (dR c b) d.1 0)\/b.id∈a.af):=by rw [<-P];exact Iff.rfl
 rw [P] at D;refine Ax func132 Z Z ntmps132 Z Z Z λF O=>(AD (Mn 40 m Z D (λ_ _=>rfl) λB g T S=>?_))
 obtain ⟨y,n⟩:∃y,B6 M m (.map (some (B,g)) (KC L))=y:=⟨_,Z⟩
 rw [n];have j:y m=some (.map (some (B,g)) (KC L)):=by rw [<-n,GF]
 have w:∃W,y I=some (.map W (KC (dR c b))):=by
  by_cases e:I=m
  .subst e;rw [D] at t;injection t with t;injection t with _ t;exact ⟨_,by rw [j,t]⟩
  .exact ⟨none,by rw [<-n,IB e];exact t⟩
 obtain ⟨U,w⟩:=w;have k:B6 y m (.map none (KC L))=M:=by rw [<-n,Fs];exact MR D
 refine AE (V (Bi 20 Z Z Z Z Z Z Z) (V (Bi 21 Z Z Z Z Z Z Z) (AB Z Z (AC ?_))));refine AD (AD (AE (J (AL Z LY Z Z Z) (J (AQ Z Z Z Tq Z) (V (Lo 22 (f:=40) Z Z (j) Z CQ Z Z Z Z) (AC (A2 (BO (α:=List Nat×List (AW×Int)) (λq=>⟨31,[(2,(.ptr 20 0 0)),(3,(.ptr 21 0 0)),(9,(.ptr 22 0 0))],[(20,[.blk 131 [.d (AF a.id),.d (AF a.pr),.d (AF a.sq),.d (.sl none (a.po.map BV)),.d (.sl none (a.pa.map C8)),.d (.sl none (a.af.map AF)),.d (mD m)]]),(21,[.blk 131 [.d (AF b.id),.d (AF b.pr),.d (AF b.sq),.d (.sl none (b.po.map BV)),.d (.sl none (b.pa.map C8)),.d (.sl none (b.af.map AF)),.d (mD I)]]),(22,[.iter 40 m g q.1]),(40,[.multi y])]⟩) (λq=>(q.2++CE L B q.1).Perm L/\∀d∈q.2,¬(d.2<0/\0<Ad (dR c b) d.1 0)) (λq=>(CE L B q.1).length) (([],[])) (⟨by show ([]++CE L B []).Perm L;rw [ZcM (by simpa [B5] using T)];exact List.Perm.refl _,(λd v=>nomatch v)⟩) (AU O [20,21,22,40] Z Z ⟨Z,Z,Z,trivial⟩) ?_))))))));rintro ⟨seen,x⟩ ⟨G,H⟩;dsimp only at G H⊢;refine AD (AE (Ru (L) Z Z Z (j) Z (λA=>?_) (λK l u z s C Q i=>⟨_,Z,?_⟩)))
 .rw [A] at G;refine JQ 40 m Z j Z ?_;rw [k];refine J (DG Z Z Z) (AC (AD (Cu Z Z (Ar (AD (AE (J (AL Z JZ Z Z Z) ?_)))))));refine J (AL Z EA Z Z Z) (J (AQ Z Z Z BF Z) (J (AL Z JZ Z Z Z) (J (AL Z OG Z Z Z) (J (AQ Z Z Z Ai Z) (J (Aw (P4 a.af b.id (by omega)) Z Z) (AB Z Z (AC (AZ ?_))))))));exact ⟨_,[40],_,AY Z,Z,Z,by rw [decide_eq_decide.2 (E.trans ⟨λh=>h.resolve_left λ⟨d,v,R⟩=>H d ((show x.Perm L by simpa using G).mem_iff.2 v) R,.inr⟩)],Z⟩
 .refine J (DG Z Z Z) (AC (AD ?_));refine Bz Z Z (AX (A2 (AD (AE (J (Lq (L) K l Z Z Z (j) s C Z) (J (DG Z Z Z) (J (DG Z Z Z) (V (CA 23 KQ Z Z Z Z) ?_))))))));refine V (B4 Z Z Z Z Z Z Z Yv) (AB Z Z (AC (AD (AE (goMv Z Z (J (Az Z Z Z) (goMv Z Z (CX 17 Z (λp=>?_) (λp=>?_)))))))))
  .refine AR Z Z Z (J (AL Z LY Z Z Z) (AR Z Z Z (J (AQ Z Z Z Tq Z) ?_)));refine AR Z Z Z (J (BA Z Z Cc Z Z Z) (AR Z Z Z (J (TQ (f:=40) (dR c b) u 0 _ Z Z w Z CQ C4 Pp Z Z) (AR Z Z Z (J (Gi Z Z Z) (J (BY Z Z Z Z) (AC (A7 Z (λo=>?_) (λo=>?_)))))))))
   .refine AD (a_hideN 40 m Z j Z ?_);rw [k];refine AE (AB Z Z (AC (AZ ?_)));exact ⟨_,[40],_,AY Z,Z,Z,by rw [ωf (E.2 (.inl ⟨_,df s,p,o⟩))],Z⟩
   .refine AX ?_;exact ⟨(seen++ [l],x++ [(u,z)]),⟨Gz G i,λd v=>(ϖ.1 v).elim (H d) λe=>by rw [κ.1 e];first | exact λh=>p h.1 | exact λh=>o h.2⟩,by show (CE L B (seen++ [l])).length<(CE L B seen).length;rw [i.length_eq];exact ψp _,AU O [20,21,22,40] Z (Z) ⟨Z,Z,Z,trivial⟩⟩
  .refine AI Z Z Z Z (AI Z Z Z Z (AI Z Z Z Z (AI Z Z Z Z (AI Z Z Z Z (J (Bf Z Z Z Z) (AC (Cu Z Z (AX ?_))))))));exact ⟨(seen++ [l],x++ [(u,z)]),⟨Gz G i,λd v=>(ϖ.1 v).elim (H d) λe=>by rw [κ.1 e];first | exact λh=>p h.1 | exact λh=>o h.2⟩,by show (CE L B (seen++ [l])).length<(CE L B seen).length;rw [i.length_eq];exact ψp _,AU O [20,21,22,40] Z (Z) ⟨Z,Z,Z,trivial⟩⟩
def DO (E:List (AJ×Nat)) (k:Nat):AJ:=(E.getD k (Ag,0)).1
noncomputable def toK (rs:List AW) (E:List (AJ×Nat)) (a:AJ) (k:Nat):List Nat:=(List.range k).filter λj=>decide (ai rs a (DO E j))
noncomputable def grW (rs:List AW) (E:List (AJ×Nat)):List (List Nat):=E.map λe=>toK rs E e.1 E.length
theorem toK_hit (h:ai c f (DO E k)):toK c E f (k+1)=toK c E f k++ [k]:=by
 unfold toK;rw [ωy,ωv];simp [h]
theorem bN (h:¬ai c f (DO E k)):toK c E f (k+1)=toK c E f k:=by
 unfold toK;rw [ωy,ωv];simp [h]
theorem XJ (b:List AW) (E:List (AJ×Nat)) (a:AJ) (k:Nat):(toK b E a k).length<=k:=by grind [toK]
theorem Se (a:k<E.length):DO E k=(E[k]).1:=by unfold DO;rw [Φ,ω a];rfl
theorem Hm (a:List AW) (E:List (AJ×Nat)):(grW a E).length=E.length:=χ _
set_option maxHeartbeats 1000000 in
theorem graph_c (E:List (AJ×Nat)) (u:XD c M E) (z:E.length<=1000) (t:∀e∈E,e.1.af.length<=100000):
  AT prog 77 [.d (.sl none (E.map Cx))] [(40,[.multi M])] λr A=>r= .d (LJ (grW c E))/\A=[(40,[.multi M])]:=by
 refine Ax func77 Z Z ntmps77 Z Z Z λF m=>?_;refine AD (AE (AB Z Z (AC (AD (AE (AB Z Z (AC (AD ?_))))))));refine AD (AE (goMv Z Z (J (BU Z underlying122 Z) (goMv Z Z (AC (A2 (NR 3 10 X1 Z Z Z Z (BO (α:=Nat×List (List Nat)) (λq=>⟨36,[(0,.d (.sl none (E.map Cx))),(3,(.own 10 0 q.2.length)),(9,(.d (.sl none (E.map Cx)))),(10,(.d (AF (E.length:Int)))),(11,(.d (AF (q.1:Int))))],[(10,[.rowD 28 1 (q.2.map natsD)]),(40,[.multi M])]⟩) (λq=>q.1<=E.length/\q.2=(grW c E).take q.1) (λq=>E.length - q.1) ((0,[])) (⟨ζ _,Z⟩) (AU m [10,40] Z Z ⟨Z,Z,Z,Z,Z,trivial⟩) ?_))))))));rintro ⟨i,G⟩ ⟨w,n⟩;dsimp only at w n⊢;refine AD (AE (J (Az Z Z Z) (AC (AD (A7 Z (λh=>?_) (λh=>?_))))))
 .refine AX (AD (A2 (AD ?_)));have b:i<E.length:=BR h;have y:G.length<=1000:=by rw [n,ϱ];omega
  have l:=ϑ b;refine AE (J (BC (i) Z Z (Z) (A3 b) underlying122 Z GU Z) ?_);refine J (Ca Z Z K9 Z) (V (CA 21 Mr Z Z Z Z) (V (B4 Z Z Z Z Z Z Z GU) (AC (AD (AE (AB Z Z (AC (AD ?_))))))));refine AD (AE (goMv Z Z (J (BU Z underlying122 Z) (goMv Z Z (AC (A2 (NR 6 11 BT Z Z Z Z (BO (α:=Nat×List Nat) (λq=>⟨36,[(0,.d (.sl none (E.map Cx))),(3,(.own 10 0 G.length)),(5,(.ptr 21 0 0)),(6,(.own 11 0 q.2.length)),(9,(.d (.sl none (E.map Cx)))),(10,(.d (AF (E.length:Int)))),(11,(.d (AF (i:Int)))),(15,(.d (.sl none (E.map Cx)))),(16,(.d (AF (E.length:Int)))),(17,(.d (AF (q.1:Int))))],[(21,[.blk 131 [.d (AF (E[i]).1.id),.d (AF (E[i]).1.pr),.d (AF (E[i]).1.sq),.d (.sl none ((E[i]).1.po.map BV)),.d (.sl none ((E[i]).1.pa.map C8)),.d (.sl none ((E[i]).1.af.map AF)),.d (mD (E[i]).2)]]),(11,[.rowD 3 1 (q.2.map AO)]),(10,[.rowD 28 1 (G.map natsD)]),(40,[.multi M])]⟩) (λq=>q.1<=E.length/\q.2=toK c E (E[i]).1 q.1) (λq=>E.length - q.1) ((0,[])) (⟨ζ _,Z⟩) (AU m [21,11,10,40] Z Z ⟨Z,Z,Z,Z,Z,Z,Z,Z,Z,Z,trivial⟩) ?_))))))));rintro ⟨k,T⟩ ⟨v,j⟩;dsimp only at v j⊢;refine AD (AE (J (Az Z Z Z) (AC (AD (A7 Z (λg=>?_) (λg=>?_))))))
  .refine AX (AD (A2 (AD ?_)));have a:k<E.length:=BR g;have x:T.length<=1000:=by have:=XJ c E (E[i]).1 k;rw [<-j] at this;omega
   have s:=ϑ a;refine AE (goMv Z Z (J (BC (k) Z Z (Z) (A3 a) underlying122 Z GU Z) (J (Ca Z Z K9 Z) (V (CA 22 Mr Z Z Z Z) (AB Z Z ?_)))));refine V (B4 Z Z Z Z Z Z Z GU) (AC (AD (AE (J (BA Z Z K9 Z Z Z) (J (BA Z Z K9 Z Z Z) (V (FG (waits_c E[i] E[k] (u _ l) (u _ s) (t _ l)) Z [40] ⟨Z,trivial⟩ Z Z Z Z Z Z Z Z Z) (AC (A7 Z (λf=>?_) (λf=>?_)))))))))
   .refine AE (goMv Z Z ?_);refine goMv Z Z (V (C1 30 BT Z Z Z Z Z Z Z Z) (V (Eu (T) ([k]) Z Z Z Z Z Z Z Z BT (by simp only [υ];omega) Z Z Z Z) (AB Z Z (AC (AE (J (Ah Z Z (AK (k+1) (by omega)) Z) (goMv Z Z (AC ?_))))))));exact ⟨(k+1,T++ [k]),⟨a,by show _=toK c E _ (k+1);rw [toK_hit (by rw [Se a];exact f),j]⟩,by show E.length - (k+1)<E.length - k;omega,AU m [21,11,10,40] Z (Z) ⟨Z,Z,Z,Z,Z,Z,Z,Z,Z,Z,trivial⟩⟩
   .refine AX (AE (J (Ah Z Z (AK (k+1) (by omega)) Z) (goMv Z Z (AC ?_))));exact ⟨(k+1,T),⟨a,by show _=toK c E _ (k+1);rw [bN (by rw [Se a];exact f),j]⟩,by show E.length - (k+1)<E.length - k;omega,AU m [21,11,10,40] Z (Z) ⟨Z,Z,Z,Z,Z,Z,Z,Z,Z,Z,trivial⟩⟩
  .refine Ar ?_;have o:k=E.length:=by have:=g;omega
   rw [o] at j;refine KP (emb:=AO) 6 11 T Z Z Z Z Z Z Z ?_;rw [j];refine AE (goMv Z Z ?_);refine goMv Z Z (V (C1 31 X1 Z Z Z Z Z Z Z Z) (V (Eu (G) ([toK c E (E[i]).1 E.length]) Z Z Z Z Z Z Z Z X1 (by simp only [υ];omega) Z Z Z Z) (AB Z Z (AC (AE (J (Ah Z Z (AK (i+1) (by omega)) Z) (goMv Z Z (AC ?_))))))));exact ⟨(i+1,G++ [toK c E (E[i]).1 E.length]),⟨b,by show _=(grW c E).take (i+1);rw [n,ψ (by rw [Hm];exact b)];congr 1;simp [grW]⟩,by show E.length - (i+1)<E.length - i;omega,AU m [10,40] Z (Z) ⟨Z,Z,Z,Z,Z,trivial⟩⟩
 .refine Ar (AD ?_);have p:i=E.length:=by have:=h;omega
  refine KP (emb:=natsD) 3 10 G Z Z Z Z Z Z Z ?_;rw [n,p,θ (by rw [Hm];exact Γ _)];refine AE (goMv Z Z (AB Z Z (AC (AZ ?_))));exact ⟨_,[40],_,AY Z,Z,Z,Z,Z⟩
def BJ (E:List (AJ×Nat)) (l:List Nat):List Int:=l.map λk=>(DO E k).id
theorem ids_p (E:List (AJ×Nat)) (l:List Nat) (m:∀k∈l,k<E.length) (j:l.length<=1000000):AM prog 78 [.d (.sl none (E.map Cx)),.d (natsD l)] (.sl none ((BJ E l).map AF)):=by
 refine Ax func78 Z Z ntmps78 Z Z Z λF i=>?_;refine AD (AE (AB Z Z (AC (AD (AE (AB Z Z (AC (AD ?_))))))));refine AD (AE (goMv Z Z (J (IQ Z (χ ..) underlying28 Z) (goMv Z Z (AC (A2 (NR 5 10 BT Z Z Z Z (BO (α:=Nat×List Int) (λq=>⟨25,[(0,.d (.sl none (E.map Cx))),(5,(.own 10 0 q.2.length)),(8,(.d (natsD l))),(9,(.d (AF (l.length:Int)))),(10,(.d (AF (q.1:Int))))],[(10,[.rowD 3 1 (q.2.map AF)])]⟩) (λq=>q.1<=l.length/\q.2=BJ E (l.take q.1)) (λq=>l.length - q.1) ((0,[])) (⟨ζ _,Z⟩) (AU i [10] Z Z ⟨Z,Z,Z,Z,Z,trivial⟩) ?_))))))));rintro ⟨k,T⟩ ⟨n,e⟩;dsimp only at n e⊢;refine AD (AE (J (Az Z Z Z) (AC (AD (A7 Z (λb=>?_) (λb=>?_))))))
 .refine AX (AD (A2 (AD ?_)));have a:k<l.length:=BR b;have o:T.length<=1000000:=by rw [e];unfold BJ;rw [χ,ϱ];omega
  have c:l[k]<E.length:=m _ (ϑ a);have g:(l.map AO)[k]? =some (AO l[k]):=A3 a;have h:(E.map Cx)[l[k]]? =some (Cx E[l[k]]):=A3 c;refine AE (J (BC (k) Z Z (Z) (g) underlying28 Z BD Z) (J (CF Z Z Ai Z) (AB Z Z ?_)));refine AC (AE (goMv Z Z (goMv Z Z (goMv Z Z (J (BC (l[k]) Z Z (Z) (h) underlying122 Z GU Z) (J (V3 Z JZ Z Z Z) (J (NP Z OG Z Z Z) (J (CF Z Z Ai Z) ?_))))))));rw [show ((E[l[k]]).1.id:Int)=(DO E l[k]).id by rw [Se c]];refine V (C1 30 BT Z Z Z Z Z Z Z Z) (V (Eu (T) ([(DO E l[k]).id]) Z Z Z Z Z Z Z Z BT (by simp only [υ];omega) Z Z Z Z) (AB Z Z (AC (AE (J (Ah Z Z (AK (k+1) (by omega)) Z) (goMv Z Z (AC ?_)))))));exact ⟨(k+1,T++ [(DO E l[k]).id]),⟨a,by show _=BJ E (l.take (k+1));rw [e];unfold BJ;rw [ψ a,Ω];rfl⟩,by show l.length - (k+1)<l.length - k;omega,AU i [10] Z (Z) ⟨Z,Z,Z,Z,Z,trivial⟩⟩
 .refine Ar (AD ?_);have f:k=l.length:=by have:=b;omega
  rw [f,ωl] at e;refine KP (emb:=AF) 5 10 T Z Z Z Z Z Z Z ?_;rw [e];refine AE (goMv Z Z (AB Z Z (AC (AZ ?_))));exact ⟨_,[],[],AY Z,Z,Z,Z,Z⟩
end Go.Proofs.YteifpcnphnhaoaaGreat
namespace Go.Proofs.YteifpcnphnhaoaaGreat
variable {E:List (AJ×Nat)} {f:Nat ->Nat} {U:List (AW×Nat)} {a:List AW} {C:Nat ->Nat ->Prop} {P c:Nat ->AW ->Prop} {p:Prop} {k n j:Nat} {d:AW} {e g i:Nat}
noncomputable def dec (p:Prop):Bool:= @decide p (Classical.propDecidable p)
theorem FT:dec p=true↔p:= @decide_eq_true_iff p (Classical.propDecidable p)
theorem Y0 (h:p):dec p=true:=FT.2 h
theorem dec_f (h:¬p):dec p=false:=by grind [dec]
theorem Wj {q:Prop} [Decidable p] (h:p↔q):decide p=dec q:=by grind [Y0,dec_f]
def Jf (rs:List AW) (a b:AJ):Prop:=b.id∈a.af\/a.id∈b.af\/∃r,r∈(dR rs a).map Prod.fst/\r∈(dR rs b).map Prod.fst
noncomputable instance (rs:List AW) (a b:AJ):Decidable (Jf rs a b):=Classical.propDecidable _
theorem Jf.symm {c b:AJ} (h:Jf a c b):Jf a b c:=by grind [Jf]
noncomputable def nbI (rs:List AW) (E:List (AJ×Nat)) (i:Nat):List Nat:=(List.range E.length).filter λj=>decide (i<E.length/\Jf rs (DO E i) (DO E j))
theorem Eb:j∈nbI a E i↔i<E.length/\j<E.length/\Jf a (DO E i) (DO E j):=by grind [nbI]
def Cn (rs:List AW) (E:List (AJ×Nat)):Nat ->Nat ->Prop:=Rh (nbI rs E)
theorem Rh.sym {d:Nat ->List Nat} (k:∀i j,j∈d i ->i∈d j) (h:Rh d e g):Rh d g e:=by
 induction h with
 | refl=>exact .refl _
 | step _ c f=>exact (Rh.one (k _ _ c)).trans f
theorem Cn.symm (h:Cn a E i j):Cn a E j i:=
 Rh.sym (λi j h=>Eb.2 ⟨(Eb.1 h).2.1,(Eb.1 h).1,(Eb.1 h).2.2.symm⟩) h
def EF (f:Nat ->Nat) (a b:Nat):Nat ->Nat:=λk=>if f k=max (f a) (f b) then min (f a) (f b) else f k
theorem Hh (h:f i=f j):EF f e g i=EF f e g j:=by unfold EF;rw [h]
theorem Qv:EF f e g e=EF f e g g:=by grind [EF]
structure UF (n:Nat) (C:Nat ->Nat ->Prop) (f:Nat ->Nat):Prop where
 le:∀k,k<n ->f k<=k
 ff:∀k,k<n ->f (f k)=f k
 snd:∀i j,i<n ->j<n ->f i=f j ->C i j
theorem UF.join (h:UF n C f) (s:∀i j k,C i j ->C j k ->C i k) (t:∀i j,C i j ->C j i) (q:e<n) (p:g<n) (m:C e g):UF n C (EF f e g):=by
 have u:min (f e) (f g)=f e\/min (f e) (f g)=f g:=by omega
 have z:max (f e) (f g)=f e\/max (f e) (f g)=f g:=by omega
 have w:f (min (f e) (f g))=min (f e) (f g):=by
  rcases u with c | c
  .rw [c];exact h.ff e q
  .rw [c];exact h.ff g p
 have y:∀i,i<n ->f i=max (f e) (f g) ->C i e:=λi l c=>by
  rcases z with d | d
  .exact h.snd i e l q (c.trans d)
  .exact s _ _ _ (h.snd i g l p (c.trans d)) (t _ _ m)
 have x:∀i,i<n ->f i=min (f e) (f g) ->C i e:=λi l c=>by
  rcases u with d | d
  .exact h.snd i e l q (c.trans d)
  .exact s _ _ _ (h.snd i g l p (c.trans d)) (t _ _ m)
 refine ⟨λk o=>?_,λk o=>?_,λi j l v c=>?_⟩
 .have:=h.le k o;unfold EF;split<;>omega
 .by_cases c:f k=max (f e) (f g)
  .grind [EF]
  .have r:EF f e g k=f k:=η c;rw [r];unfold EF;rw [h.ff k o,η c]
 .unfold EF at c
  by_cases r:f i=max (f e) (f g)<;>by_cases d:f j=max (f e) (f g)
  .grind
  .grind
  .grind
  .rw [η r,η d] at c;exact h.snd i j l v c
theorem UF.id (n:Nat) (a:∀i,C i i):UF n C (λk=>k):=⟨λ_ _=>Γ _,λ_ _=>rfl,λi j _ _ (e:i=j)=>by subst e;exact a i⟩
noncomputable def clsN (n:Nat) (C:Nat ->Nat ->Prop):List (List Nat):=((List.range n).filter λk=>dec (∀j,j<k ->¬C k j)).map λk=>(List.range n).filter λj=>dec (C k j)
def Zt (n:Nat) (f:Nat ->Nat) (k:Nat):List Nat:=(List.range n).filter λj=>decide (f j=k)
def LB (n m:Nat) (f:Nat ->Nat):List (List Nat):=((List.range m).filter λk=>decide (f k=k)).map (Zt n f)
theorem dj {m:Nat} (h:f m=m):LB n (m+1) f=LB n m f++ [Zt n f m]:=by
 unfold LB;rw [ωy,ωv,Ω];simp [h]
theorem Zs {m:Nat} (h:¬f m=m):LB n (m+1) f=LB n m f:=by
 unfold LB;rw [ωy,ωv,Ω];simp [h]
theorem di (n m:Nat) (f:Nat ->Nat):(LB n m f).length<=m:=by grind [LB]
theorem lab_cls (h:UF n C f) (r:∀i j,i<n ->j<n ->C i j ->f i=f j):LB n n f=clsN n C:=by
 have c:∀k,k<n ->(f k=k↔∀j,j<k ->¬C k j):=λk a=>by
  constructor
  .intro e j q o;have t:=r k j a (by omega) o;have p:=h.le j (by omega);omega
  .intro s;have t:=h.le k a;rcases Nat.lt_or_ge (f k) k with p | p
   .exact absurd (h.snd k (f k) a (by omega) (h.ff k a).symm) (s _ p)
   .omega
 unfold LB clsN;rw [show ((List.range n).filter λk=>decide (f k=k))=(List.range n).filter λk=>dec (∀j,j<k ->¬C k j) from χr λk a=>Wj (c k (Ψ.1 a))];refine ωe λk a=>?_;obtain ⟨m,l⟩:=ωc.1 a;have b:=Ψ.1 m;have g:f k=k:=(c k b).2 (FT.1 l);unfold Zt;refine χr λj q=>Wj ?_;have d:=Ψ.1 q;exact ⟨λe=>h.snd k j b d (by rw [g,e]),λo=>by rw [<-r k j b d o,g]⟩
structure QU (rs:List AW) (E:List (AJ×Nat)) (P:Nat ->AW ->Prop) (U:List (AW×Nat)) (f:Nat ->Nat):Prop where
 ok:∀e∈U,e.2<E.length/\e.1∈(dR rs (DO E e.2)).map Prod.fst
 has:∀k r,P k r ->r∈U.map Prod.fst/\f (Ad U r 0)=f k
theorem QU.keep {b:Nat ->Nat} (h:QU a E P U f) (d:∀i j,f i=f j ->b i=b j):QU a E P U b:=
 ⟨h.ok,λk r c=>⟨(h.has k r c).1,d _ _ (h.has k r c).2⟩⟩
theorem QU.mono (h:QU a E P U f) (b:∀k r,c k r ->P k r):QU a E c U f:=⟨h.ok,λk r d=>h.has k r (b k r d)⟩
theorem mget_ok (h:d∈U.map Prod.fst):(d,Ad U d 0)∈U:=Ic h
theorem QU.new (h:QU a E P U f) (g:d∉U.map Prod.fst) (o:k<E.length) (n:d∈(dR a (DO E k)).map Prod.fst) (j:∀i s,c i s ->P i s\/(i=k/\s=d)):QU a E c (BZ U d k) f:=by
 rw [EV g];refine ⟨λe b=>?_,λi s l=>?_⟩
 .rcases ϖ.1 b with b | b
  .exact h.ok e b
  grind
 .rw [<-EV g,HF];rcases j i s l with m | ⟨rfl,rfl⟩
  .obtain ⟨q,p⟩:=h.has i s m
   grind [EV]
  grind [EV]
theorem QU.join (h:QU a E P U f) (e:d∈U.map Prod.fst) (g:∀i s,c i s ->P i s\/(i=k/\s=d)):QU a E c U (EF f (Ad U d 0) k):=
 ⟨h.ok,λi s j=>(g i s j).elim (λb=>⟨(h.has i s b).1,Hh (h.has i s b).2⟩) λ⟨m,l⟩=>by subst m l;exact ⟨e,Qv⟩⟩
theorem QU.zero (a:List AW) (E:List (AJ×Nat)) (f:Nat ->Nat):QU a E (λ_ _=>False) [] f:=⟨λe b=>(nomatch b),λk r h=>h.elim⟩
def Nk (E:List (AJ×Nat)) (k:Nat):List (Int×Nat):=(List.range k).map λj=>((DO E j).id,j)
theorem ca (E:List (AJ×Nat)) (k:Nat):Nk E (k+1)=Nk E k++ [((DO E k).id,k)]:=by unfold Nk;rw [ωy,Ω];rfl
theorem X6 {x:Int}:x∈(Nk E k).map Prod.fst↔∃j,j<k/\(DO E j).id=x:=by grind [Nk]
def IdI (E:List (AJ×Nat)):Prop:=∀i j,i<E.length ->j<E.length ->(DO E i).id=(DO E j).id ->i=j
theorem plc_put (c:IdI E) (b:k<E.length):BZ (Nk E k) (DO E k).id k=Nk E (k+1):=by
 rw [EV λa=>by
  obtain ⟨j,d,e⟩:=X6.1 a;have:=c j k (by omega) b e
  omega,ca]
theorem X5 (a:IdI E) {x:Int} (h:x∈(Nk E E.length).map Prod.fst):Ad (Nk E E.length) x 0<E.length/\(DO E (Ad (Nk E E.length) x 0)).id=x:=by grind [Nk,Ic]
theorem cb (b:IdI E) (a:j<E.length):(DO E j).id∈(Nk E E.length).map Prod.fst/\Ad (Nk E E.length) (DO E j).id 0=j:=by
 have c:(DO E j).id∈(Nk E E.length).map Prod.fst:=X6.2 ⟨j,a,Z⟩;obtain ⟨e,d⟩:=X5 b c;exact ⟨c,b _ _ e a d⟩
end Go.Proofs.YteifpcnphnhaoaaGreat
namespace Go.Proofs.YteifpcnphnhaoaaGreat
open Go.RowKit
variable {a:Nat ->List Nat} {c:List (Nat×Nat)} {n:Nat} {S:TS} {d k e:Nat} {f g:Nat ->Nat} {h:Nat ->Int} {i:Nat} {x:Nat×Nat} {j:Nat}
abbrev rowN (n:Nat) (f:Nat ->Nat):List D:=(List.range n).map λv=>AO (f v)
abbrev EQ (n:Nat) (f:Nat ->Int):List D:=(List.range n).map λv=>AF (f v)
theorem JB {f:Nat ->Nat} (h:i<n):(rowN n f)[i]? =some (AO (f i)):=by simp [h]
theorem T0 (a:i<n):(EQ n h)[i]? =some (AF (h i)):=by simp [a]
theorem Nh {f h:Nat ->D} (b:∀j,j<n ->j≠i ->f j=h j) {x:D} (a:x=h i):((List.range n).map f).set i x=(List.range n).map h:=by
 refine ψk (by simp) λj d c=>?_
 grind
theorem gC {x:Nat}:(rowN n f).set i (AO x)=rowN n (BL f i x):=by grind [Nh,HU,Lh]
theorem cM {x:Int}:(EQ n h).set i (AF x)=EQ n (BL h i x):=by grind [Nh,HU,Lh]
theorem gB (n:Nat) (f:Nat ->Nat):(rowN n f).length=n:=by simp
theorem I1 (n:Nat) (f:Nat ->Int):(EQ n f).length=n:=by simp
theorem repN (n:Nat):List.replicate n (D.raw (.int .i64 0))=rowN n (λ_=>0):=by
 refine ψk (by simp) λj b a=>?_
 simp
theorem repI (n:Nat):List.replicate n (D.raw (.int .i64 0))=EQ n (λ_=>0):=by
 refine ψk (by simp) λj b a=>?_
 simp
abbrev Ud (f:Nat×Nat):D:= .agg [AO f.1,AO f.2]
def pend:Option Nat ->List (Nat×Nat)
 | none=> []
 | some v=> [(v,0)]
theorem GQ {l j:List (Nat×Nat)} (h:k=l.length):((l++ [x]++j).map Ud)[k]? =some (Ud x):=by
 subst h;simp
theorem setF {l j:List (Nat×Nat)} {y:Nat×Nat} (h:k=l.length):((l++ [x]++j).map Ud).set k (Ud y)=(l++ [y]++j).map Ud:=by
 subst h;simp
theorem takeF (l j:List (Nat×Nat)) {x:Nat×Nat}:((l++j).map Ud).take l.length++ [Ud x].take 1=(l++ [x]).map Ud:=by
 rw [<-List.map_take,List.take_left];simp
theorem d5 (a b:Nat):(if (b:Int)<(a:Int) then (b:Int) else (a:Int))=((min a b:Nat):Int):=by
 split<;>omega
def mu (n:Nat) (suc:Nat ->List Nat) (S:TS):Nat:=((List.range n).map λv=>if S.idx v=0 then (suc v).length+1 else 0).sum+(S.cs.map λf=>(suc f.1).length - f.2+1).sum
theorem dT {n:Nat} {a:Nat ->List Nat} {S:TS} {v:Nat} (d:v<n) (e:S.idx v=0) {l:Nat ->Nat} {st:List Nat} {c:Nat}:
  mu n a ⟨BL S.idx v (S.clk+1),l,S.of,st,S.cs++ [(v,0)],S.cnt,c⟩=mu n a S:=by
 unfold mu;dsimp only
 have:=XS (n:=n) (i:=v) (f:=λv=>if S.idx v=0 then (a v).length+1 else 0) (h:=λu=>if BL S.idx v (S.clk+1) u=0 then (a u).length+1 else 0) (c:=(a v).length+1) d
  (λk _ b=>by rw [HU b]) (by rw [Lh,ς e,η (by omega)];omega)
 grind
theorem MP (h:S.cs=c++ [(e,k)]) (b:k<(a e).length):mu n a {S with low:=g,cs:=c++ [(e,k+1)]}<mu n a S:=by grind [mu]
theorem Ib (h:S.cs=c++ [(e,k)]) {o:Nat ->Int} {d:List Nat} {b:Nat}:mu n a ⟨S.idx,g,o,d,c,b,S.clk⟩<mu n a S:=by grind [mu]
structure TH (n:Nat) (suc:Nat ->List Nat) (r:Nat) (S:TS) (p:Option Nat):Prop where
 ti:TI n suc S p
 k1:∀f∈S.cs,1<=f.2
 old:∀v,v<r ->S.idx v≠0
 rt:S.idx r≠0\/p=some r
structure TB (n:Nat) (suc:Nat ->List Nat) (r:Nat) (S:TS) (cs0:List (Nat×Nat)) (v k:Nat):Prop where
 ti:TI n suc S none
 hcs:S.cs=cs0++ [(v,k)]
 k1:∀f∈cs0,1<=f.2
 old:∀v,v<r ->S.idx v≠0
 rt:S.idx r≠0
theorem th_last {p:Option Nat} (h:TH n a d S p) (c:S.cs++pend p≠ []):∃b v k,S.cs++pend p=b++ [(v,k)]/\v<n/\(k=0 ->S.cs=b/\p=some v)/\(k≠0 ->S.cs=b++ [(v,k)]/\p=none):=by
 cases p with
 | some v=>exact ⟨S.cs,v,0,Z,(h.ti.pnd v Z).1,λ_=>⟨Z,Z⟩,λh=>(h Z).elim⟩
 | none=>
  rw [pend,ωi] at c⊢;rcases List.eq_nil_or_concat S.cs with e | ⟨l,⟨v,k⟩,e⟩
  .grind
  .rw [List.concat_eq_append] at e;have f:(v,k)∈S.cs:=by rw [e];exact ψe _ (κ.2 Z)
   have:=h.k1 _ f;have g:=h.ti.lt v ((h.ti.st v).1 (h.ti.csm _ f)).1
   grind
theorem bR (h:TH n a d S (some e)):
  TB n a d ⟨BL S.idx e (S.clk+1),BL S.low e (S.clk+1),S.of,S.st++ [e],S.cs++ [(e,0)],S.cnt,S.clk+1⟩ S.cs e 0:=by
 refine ⟨bO h.ti,Z,h.k1,λw c=>?_,?_⟩
 .show BL S.idx e (S.clk+1) w≠0
  by_cases b:w=e
  .subst b;rw [Lh];omega
  .rw [HU b];exact h.old w c
 .show BL S.idx e (S.clk+1) d≠0
  by_cases b:d=e
  .subst b;rw [Lh];omega
  .rw [HU b];exact h.rt.resolve_right λf=>b (Option.some.inj f).symm
theorem tb_old (h:TH n a d S none) (g:S.cs=c++ [(e,k)]):TB n a d S c e k:=
 ⟨h.ti,g,λf i=>h.k1 f (by rw [g];exact ψo _ i),h.old,h.rt.resolve_right λb=>nomatch b⟩
theorem Jn (h:TB n a d S c e k):e<n/\e∈S.st/\S.idx e≠0/\k<=(a e).length:=by
 have b:(e,k)∈S.cs:=by rw [h.hcs];exact ψe _ (κ.2 Z)
 have g:=h.ti.csm _ b;have f:=((h.ti.st e).1 g).1;exact ⟨h.ti.lt e f,g,f,(h.ti.gry _ b).1⟩
theorem bT (h:TB n a d S c e k) (p:(a e)[k]? =some j) (i:j<n) (l:S.idx j=0):
  TH n a d {S with cs:=c++ [(e,k+1)]} (some j):=by
 refine ⟨Vm h.ti h.hcs p i (low':=S.low) (λw=>Γ _) (λw m=>(h.ti.lw w m).2) (.inr Z) (λx b=>⟨(Option.some.inj b).symm,l⟩) (λo=>absurd l ((h.ti.st j).1 o).1),λf g=>?_,h.old,.inl h.rt⟩;rcases ϖ.1 g with g | g
 .exact h.k1 f g
 grind
theorem bU (h:TB n a d S c e k) (o:(a e)[k]? =some j) (l:j<n) (p:S.idx j≠0) (q:S.of j<0):
  TH n a d {S with low:=BL S.low e (min (S.low e) (S.idx j)),cs:=c++ [(e,k+1)]} none:=by
 have i:j∈S.st:=(h.ti.st j).2 ⟨p,q⟩;refine ⟨Vm h.ti h.hcs o l (λw=>?_) (λw m=>?_) (.inl p) (λx b=>nomatch b) (λ_=>by rw [Lh];omega),λf g=>?_,h.old,.inl h.rt⟩
 .grind [Lh,HU]
 .by_cases b:w=e
  .subst b;rw [Lh];rcases Nat.lt_or_ge (S.idx j) (S.low w) with s | s
   .exact ⟨j,i,by omega,Rh.one (ξ o)⟩
   .obtain ⟨y,t,z,u⟩:=(h.ti.lw w m).2
    grind
  .rw [HU b];exact (h.ti.lw w m).2
 .rcases ϖ.1 g with g | g
  .exact h.k1 f g
  grind
theorem XN (h:TB n a d S c e k) (p:(a e)[k]? =some j) (i:j<n) (q:S.idx j≠0) (m:¬S.of j<0):
  TH n a d {S with cs:=c++ [(e,k+1)]} none:=by
 refine ⟨Vm h.ti h.hcs p i (low':=S.low) (λw=>Γ _) (λw l=>(h.ti.lw w l).2) (.inl q) (λx b=>nomatch b) (λo=>absurd ((h.ti.st j).1 o).2 m),λf g=>?_,h.old,.inl h.rt⟩;rcases ϖ.1 g with g | g
 .exact h.k1 f g
 grind
theorem maxNN (a b:Nat):(if (b:Int)>(a:Int) then (b:Int) else (a:Int))=((max a b:Nat):Int):=by split<;>omega
def Zw (f:Nat ->Nat) (a b k:Nat):Nat ->Nat:=λj=>if j<k then EF f a b j else f j
theorem dx (f:Nat ->Nat) (a b:Nat):Zw f a b 0=f:=by funext j;unfold Zw;rw [η (by omega)]
theorem joK_at (f:Nat ->Nat) (a b k:Nat):Zw f a b k k=f k:=η (by omega)
theorem joK_hit {a b:Nat} (h:f k=max (f a) (f b)):BL (Zw f a b k) k (min (f a) (f b))=Zw f a b (k+1):=by grind [Lh,Zw,EF,HU]
theorem dy {a b:Nat} (h:¬f k=max (f a) (f b)):Zw f a b (k+1)=Zw f a b k:=by grind [Zw,EF]
theorem Q7 {f h:Nat ->Nat} (e:∀j,j<n ->f j=h j):rowN n f=rowN n h:=by simp_all
abbrev HJ (n:Nat) (f:Nat ->Nat):Hp:=[(930,[.blk 28 [.own 931 0 n]]),(931,[.rowD 3 1 (rowN n f)])]
set_option maxRecDepth 100000 in
theorem YH (n:Nat) (f:Nat ->Nat) (a b:Nat) (o:a<n) (m:b<n) (t:n<=100000):AT prog 67 [.d (AO a),.d (AO b),.ptr 930 0 0] (HJ n f) λr s=>r= .tup []/\s=HJ n (EF f a b):=by
 refine Ax func67 Z Z ntmps67 Z Z Z λF p=>(AD (CD [[],[],[0,1],[0,1,2],[],[],[4,5],[4,5,6],rg 8,[],[],[9,10],[9,10,11],[],[],[13,14],[13,14,15],[9,10,11,12,13,14,15,16],rg 9,rg 19] mixed Z (Bt (Aj [2] Z Z (λ_=>A8 (AQ Z Z Z BF Z)) (Ak 0 Z Z (Aj [8,9] Z Z (λ_=>A8 (CM (a) Z Z (Z) (o) Z underlying28 BD Z)) (Aj [10] Z Z (λ_=>A8 (CY Z Z (JB o) Z Ai Z)) (Aj [2] Z Z (λ_=>A8 (AQ Z Z Z BF Z)) ?_))))))));refine Ak 1 Z Z (Aj [12,13] Z Z (λ_=>A8 (CM (b) Z Z (Z) (m) Z underlying28 BD Z)) (Aj [14] Z Z (λ_=>A8 (CY Z Z (JB m) Z Ai Z)) (AP [11,15] Z (R9 Z Z (maxNN _ _) Z) (Aj [2] Z Z (λ_=>A8 (AQ Z Z Z BF Z)) (Ak 0 Z Z (Aj [17,18] Z Z (λ_=>A8 (CM (a) Z Z (Z) (o) Z underlying28 BD Z)) (Aj [19] Z Z (λ_=>A8 (CY Z Z (JB o) Z Ai Z)) (Aj [2] Z Z (λ_=>A8 (AQ Z Z Z BF Z)) ?_))))))));refine Ak 1 Z Z (Aj [21,22] Z Z (λ_=>A8 (CM (b) Z Z (Z) (m) Z underlying28 BD Z)) (Aj [23] Z Z (λ_=>A8 (CY Z Z (JB m) Z Ai Z)) (AP [20,24] Z (Lp Z Z (d5 _ _) Z) (AP [16] Z (JK Z Z) (Bk 19 Z Z Z (Ab 20 Z Z (AB Z Z (AC ⟨Z,?_⟩))))))));refine Bx (AD (AE (J (AQ Z Z Z BF Z) (J (Lc Z underlying28 Z) (goMv Z Z (AC (A2 ?_)))))));have q:rowN n f=rowN n (Zw f a b 0):=(by rw [dx]);unfold HJ;rw [q];refine BO (α:=Nat) (λk=>⟨42,[(2,(.ptr 930 0 0)),(5,(.d (AO (max (f a) (f b))))),(6,(.d (AO (min (f a) (f b))))),(27,(.d (AO n))),(28,(.d (AO k)))],[(930,[.blk 28 [.own 931 0 n]]),(931,[.rowD 3 1 (rowN n (Zw f a b k))])]⟩) (λk=>k<=n) (λk=>n - k) (0) (ζ _) (AU p [930,931] Z Z ⟨Z,Z,Z,Z,Z,trivial⟩) ?_;rintro k u;refine AD (AE (J (Az Z Z Z) (AC (AD (A7 Z (λl=>?_) (λl=>?_))))))
 .refine AX (AD (A2 (AD ?_)));have c:k<n:=BR l;refine AE ?_;refine goMv Z Z (AB Z Z (AC (AD (AE (J (AQ Z Z Z BF Z) (goMv Z Z (J (CM (k) Z Z (Z) (c) Z underlying28 BD Z) (J (CY Z Z (JB c) Z Ai Z) ?_))))))));rw [joK_at];refine goMv Z Z (J (FC Z Z Z) (AC (A7 Z (λi=>?_) (λi=>?_))))
  .have g:f k=max (f a) (f b):=Int.ofNat.inj i;refine AE (J (AQ Z Z Z BF Z) (goMv Z Z (goMv Z Z (J (CM (k) Z Z (Z) (c) Z underlying28 BD Z) (V (Sg Z Z Z Z Z (by rw [gB];exact c) gC Z BD) ?_)))));rw [joK_hit g];refine AC (AE (J (Ah Z Z (AK (k+1) (by omega)) Z) (goMv Z Z (AC ?_))));exact ⟨k+1,c,by omega,AU p [930,931] Z (Z) ⟨Z,Z,Z,Z,Z,trivial⟩⟩
  .have g:¬f k=max (f a) (f b):=λe=>i (by rw [e]);refine AX (AE (J (Ah Z Z (AK (k+1) (by omega)) Z) (goMv Z Z (AC ?_))));exact ⟨k+1,c,by omega,AU p [930,931] Z (by simp only [dy g];rfl) ⟨Z,Z,Z,Z,Z,trivial⟩⟩
 .refine Ar ?_;exact ⟨_,[930,931],_,AY Z,Z,Z,Z,by rw [Q7 (f:=EF f a b) (h:=Zw f a b k) λj v=>by unfold Zw;rw [ς (by have:=l;omega)]]⟩
end Go.Proofs.YteifpcnphnhaoaaGreat
