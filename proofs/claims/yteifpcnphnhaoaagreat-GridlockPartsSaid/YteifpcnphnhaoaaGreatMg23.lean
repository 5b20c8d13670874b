import Derived.Test.YteifpcnphnhaoaaGreatMg22
open Go.Proofs.Tryz
namespace Go.Proofs.YteifpcnphnhaoaaGreat
open Go.RowKit
variable {g:List (List Nat)} {w a:List Nat} {c:List AT} {K:Nat ->Nat} {E:List (AI×Nat)} {k i:Nat} {f:List Nat} {j:Nat} {M:MF} {h o:AI} {x:Nat} {s:Type} {t y:Nat}
set_option maxRecDepth 100000
abbrev Cr (e:AI×Nat):D:= .agg [AF e.1.id,AF e.1.pr,AF e.1.sq,.sl none (e.1.po.map B7),.sl none (e.1.pa.map Cp),.sl none (e.1.af.map AF),mD e.2]
abbrev Jn (m:List (AT×Int)):List (D×D):=BY Bc AF m
def WY (rs:List AT) (M:MF) (E:List (AI×Nat)):Prop:=∀e∈E,M e.2=some (.map none (Jn (dR rs e.1)))
theorem WY.add (a:WY c M E) (f:M t=none):WY c (BZ M t (.map none (Jn (dR c h)))) (E++ [(h,t)]):=by grind [WY,BZ]
def dK (rs:List AT) (i:AI) (j:Nat):List (AT×Int):=((A0 i).take j).filter λd=>decide (d.1∈rs)
theorem q9 (a:List AT) (i:AI):dK a i (A0 i).length=dR a i:=by unfold dK dR;rw [gc]
theorem q8 (l:j<(A0 h).length) (a:((A0 h)[j]).1∈c):BS (dK c h j) ((A0 h)[j]).1 ((A0 h)[j]).2=dK c h (j+1):=by
 have k:=DY h
 have o:((A0 h)[j]).1∉(dK c h j).map Prod.fst:=λb=>by
  obtain ⟨d,f,e⟩:=Θ.1 b;have g:d∈(A0 h).take j:=(gS.1 f).1;have r:((A0 h)[j]).1∈((A0 h).map Prod.fst).take j:=by rw [<-List.map_take,<-e];exact jW g
  grind [KZ]
 grind [ER,dK,ψ]
theorem mH (b:j<(A0 h).length) (a:((A0 h)[j]).1∉c):dK c h (j+1)=dK c h j:=by
 unfold dK;rw [ψ b,iP]
 simp [a]
def UH (a b:AI):Int:=if EP a b<0 then -1 else 1
theorem UG {b:AI}:UH o b<0↔EP o b<0:=by grind [UH]
theorem dm:Go.Sort.SWO (ltOf UH):=by
 have e:ltOf UH=ltOf EP:=by
  funext a b
  exact decide_eq_decide.2 UG
 rw [e];exact Dp.swo
theorem WD (a b:AI):AK prog 116 [.d (Ag a),.d (Ag b)] (AF (UH a b)):=by
 refine At func116 Z Z ntmps116 Z Z Z λF f=>(AC (AE (V (Bo 1 Z Z Z Z Z Z Z) (V (Bo 2 Z Z Z Z Z Z Z) (AB Z Z ?_)))));refine AD (AC (AC (AE (J (Ay Z Z CP Z Z Z) (J (Ay Z Z CP Z Z Z) (J (As (ep a b) Z Z) (AD (A9 Z (λc=>?_) (λc=>?_)))))))))
 .refine AC (AE (AB Z Z (AD (A4 ?_))));exact ⟨_,[],[],A2 Z,Z,Z,Ab (by unfold UH;rw [ϱ c]),Z⟩
 .refine AX (AC (AE (AB Z Z (AD (A4 ?_)))));exact ⟨_,[],[],A2 Z,Z,Z,Ab (by unfold UH;rw [θ c]),Z⟩
theorem Zb (l:List AI) (c:l.length<=1000000):AO prog 114 [.d (.sl none (l.map Ag))] [] λr b=>r= .own 20 0 l.length/\b=[(20,[.rowD 55 6 (l.map Ag)])]:=by
 refine At func114 Z Z ntmps114 Z Z Z λF f=>(AC (AE (AB Z Z ?_)));skip;refine AD (AC (AC (AE (fZ Z Z (Fj 3 Z (λa=>?_) ?_)))))
 .refine J (E6 cl Z Z) (AD (Bx Z (Z) (AC (AE (AB Z Z (XI 2 20 LY Z Z Z Z (AD (A4 ?_))))))));exact ⟨_,[20],_,A2 Z,Z,Z,by rw [List.map_eq_nil_iff.1 a];rfl,by rw [List.map_eq_nil_iff.1 a];rfl⟩
 .refine J (E6 cl Z Z) ?_;refine AD (Cm Z (Z) (AX (AC (AE (V (C5 20 LY Z Z Z Z Z Z Z Z) (fZ Z Z (V (Qq (([]:List AI)) (l) Z Z Z Z Z Z (λ_=>rfl) LY (by simp only [jB];omega) Z Z Z Z) (AB Z Z ?_))))))));skip;refine AD (A4 ?_);exact ⟨_,[20],_,A2 Z,Z,Z,by simp,Z⟩
theorem ov {p:fj} (a:(ft p).Nodup) (b:k<p.ro.length):BS (BN ((ft p).take k)) p.ro[k].r true=BN ((ft p).take (k+1)):=by grind [ft,Zx,KZ,ψ]
set_option maxHeartbeats 4000000 in
theorem MI (p:fj) (hE:Az p=0) (Y:Fw p) (g:FuncId) (o:List D) (N:MF) (I:Int ->Bool) (hq:∀id,AO prog g (.d (AF id)::dL o) [(41,[.multi N])] λr H'=>r= .d (Ah (I id))/\H'=[(41,[.multi N])]):
  AO prog 65 [.d (Bq p),.d (.fn g [] o)] [(41,[.multi N])] λr H'=>∃E M,r= .d (.sl none (E.map Cr))/\H'=[(41,[.multi N]),(40,[.multi M])]/\WY (ft p) M E/\E.map Prod.fst=(fk p).filter λi=>I i.id:=by
 have hO:fk p=BK p.it:=ϱ hE;rw [hO]
 obtain ⟨c,s⟩:∃c,BK p.it=c:=⟨_,Z⟩
 have X:c.length=p.it.length:=by rw [<-s];exact aA p.it
 have K:∀i∈c,i∈p.it:=λi hi=>by rw [<-s] at hi;exact (Zs p.it).mem_iff.1 hi
 have hi30:=Y.i;have S:=Y.r;have Q:(ft p).Nodup:=HY hE;have R:(ft p).length=p.ro.length:=χ _;have P:=Md (PR hE).2.1;rw [s];refine At func65 Z Z ntmps65 Z Z Z λF w=>(AC (AE ?_));refine V (Bo 1 Z Z Z Z Z Z Z) (AB Z Z (AD (AC (AE (V (PY 50 Z Z Z Z) (AB Z Z (AD (AC ?_))))))));refine AC (AE (J (AN Z Dx Z Z Z) (J (AP Z Z Z ON Z) (J (Ba Z fU Z) (fZ Z Z (AD (AZ (BO (α:=Nat) (λk=>⟨76,[(1,.d (.fn g [] o)),(2,(.ptr 1 0 0)),(5,(.map 50 0)),(19,(.d (.sl none (p.ro.map Bv)))),(20,(.d (AF (p.ro.length:Int)))),(21,(.d (AF (k:Int))))],[(1,[.blk 39 [.d (.sl none (p.ro.map Bv)),.d (.sl none (p.it.map Ag))]]),(50,[BT Bc Ah (BN ((ft p).take k))]),(41,[.multi N])]⟩) (λk=>k<=p.ro.length) (λk=>p.ro.length - k) (0) (ζ _) (AY w [1,50,41] Z Z No) ?_))))))));rintro k hk;refine AC (AE (J (BB Z Z Z) (AD (AC (A9 Z (λH=>?_) (λH=>?_))))))
 .refine AX (AC (AZ (AC ?_)));have l:k<p.ro.length:=BR H;refine AE (J (BJ (k) Z Z (Z) (A5 l) fU Z Mu Z) ?_);refine J (DM Z Z VU Z) (V (By 2 Qw Z Z Z Z) (V (B3 Z Z Z Z Z Z Z Mu) (AD (AE (fZ Z Z (J (AN Z Ex Z Z Z) (J (Ay Z Z Cc Z Z Z) (V (Uo (BN ((ft p).take k)) (p.ro[k].r) (true) Z Z Z QV CV Z Z) ?_))))))));rw [ov Q l];refine AD (AE (J (Al Z Z (AM (k+1) (by omega)) Z) (fZ Z Z (AD ?_))));exact ⟨k+1,l,by omega,AY w [1,50,41] Z (Z) No⟩
 .refine Aw (AC ?_);have z:k=p.ro.length:=by have:=H;omega
  rw [z,<-R,gc];refine AE (AB Z Z (AD (AC (AE (J (AN Z DA Z Z Z) (J (AP Z Z Z JV Z) (V (FE (Zb p.it (by omega)) Z [20] ⟨Z,trivial⟩ Z Z Z Z Z Z Z Z Z) (AB Z Z ?_))))))));refine AD (AC (AE (fZ Z Z (V (NK nw (k:=6) (by decide) isAgg55 sizeOf55 func116 Z Z Tk UH dm p.it c (by omega) (λx _ y _=>WD x y) (λys g1 g2=>by rw [<-s];exact Ww P g1 (g2.imp λ{a b} h h2=>h (UG.2 h2))) Z Z Z MG Z Z Z Z Z) (AD (AC (AC (LL (emb:=Ag) 9 20 c Z Z Z X.symm Z Z Z ?_))))))));refine Ht 40 Z Z Z (AE (fZ Z Z (J (Ba Z cl Z) (fZ Z Z (AD (AZ (NG 8 30 bI Z Z Z Z (BO (α:=Nat×List (AI×Nat)×MF) (λq=>⟨76,[(1,.d (.fn g [] o)),(2,(.ptr 1 0 0)),(5,(.map 50 0)),(8,(.own 30 0 q.2.1.length)),(34,(.d (.sl none (c.map Ag)))),(35,(.d (AF (c.length:Int)))),(36,(.d (AF (q.1:Int))))],[(50,[BT Bc Ah (BN (ft p))]),(41,[.multi N]),(30,[.rowD 131 7 (q.2.1.map Cr)]),(40,[.multi q.2.2])]⟩) (λq=>q.1<=c.length/\WY (ft p) q.2.2 q.2.1/\q.2.1.map Prod.fst=(c.take q.1).filter λi=>I i.id) (λq=>c.length - q.1) ((0,[],_)) (⟨ζ _,(λe he=>nomatch he),Z⟩) (AY w [50,41,30,40] Z Z Ri) ?_))))))));rintro ⟨k,E,M⟩ ⟨hk,O,t⟩;dsimp only at hk O t⊢;refine AC (AE (J (BB Z Z Z) (AD (AC (A9 Z (λG=>?_) (λG=>?_))))))
  .refine AX (AC (AZ (AC ?_)));have l:k<c.length:=BR G;have U:=K _ (ξ l);have T:=Y.x _ U;have hEl:E.length<=30:=by have h1:(E.map Prod.fst).length<=c.length:=(by rw [t];exact gJ (gz _ _) (by rw [ϖ];omega));rw [χ] at h1;omega
   refine AE (J (BJ (k) Z Z (Z) (A5 l) cl Z Co Z) (J (DM Z Z CP Z) (V (By 2 FG Z Z Z Z) (V (B3 Z Z Z Z Z Z Z Co) (AD (AC ?_))))));refine AC (AE (fZ Z Z (J (AN Z PQ Z Z Z) (J (AP Z Z Z An Z) (V (Uy (hq c[k].id) Z [41] ⟨Z,trivial⟩ Z Z Z Z Z Z Z Z Z) (J (Mp Z Z) (AD (Iq Z (λC=>?_) (λC=>?_)))))))))
   .have u:¬I c[k].id=true:=by simpa using C
    refine Aw (AE (J (Al Z Z (AM (k+1) (by omega)) Z) (fZ Z Z (AD ?_))));exact ⟨(k+1,E,M),⟨l,O,by show _=(c.take (k+1)).filter _;rw [ψ l,iP,t,jD,θ u];simp⟩,by show c.length - (k+1)<c.length - k;omega,AY w [50,41,30,40] Z (Z) Ri⟩
   .have u:I c[k].id=true:=by simpa using C
    refine AX (AC (AE (J (Ay Z Z CP Z Z Z) (V (PY 51 Z Z Z Z) (Ll 46 51 40 w Z Z Z Z Z Z Z Z Z Z (λ_=>rfl) λL hb=>(JE 40 L Z (Fu _ _ _) Z ?_))))));rw [Fl];refine J (FD MX s6 Z Z Z) (V (By 3 MX Z Z Z Z) (V (B3 Z Z Z Z Z Z Z GH) (AD (AC ?_))));refine AE (J (Ay Z Z CP Z Z Z) (J (As (UM c[k] (by omega) (by omega) (by omega)) Z Z) (fZ Z Z (J (Dc Z Z Z) (J (Dc Z Z Z) (AB Z Z (AB Z Z (AD ?_))))))));refine AC (AC (AE (fZ Z Z (J (Ba Z underlying215 Z) (fZ Z Z (AD (AZ (BO (α:=Nat) (λj=>⟨76,[(1,.d (.fn g [] o)),(2,(.ptr 1 0 0)),(5,(.map 50 0)),(8,(.own 30 0 E.length)),(12,(.ptr 3 0 0)),(34,(.d (.sl none (c.map Ag)))),(35,(.d (AF (c.length:Int)))),(36,(.d (AF (k:Int)))),(53,(.d (.sl none ((A0 c[k]).map Pg)))),(54,(.d (AF ((A0 c[k]).length:Int)))),(55,(.d (AF (j:Int))))],[(3,[.blk 131 [.d (AF c[k].id),.d (AF c[k].pr),.d (AF c[k].sq),.d (.sl none (c[k].po.map B7)),.d (.sl none (c[k].pa.map Cp)),.d (.sl none (c[k].af.map AF)),.d (mD L)]]),(50,[BT Bc Ah (BN (ft p))]),(41,[.multi N]),(30,[.rowD 131 7 (E.map Cr)]),(40,[.multi (BZ M L (.map none (Jn (dK (ft p) c[k] j))))])]⟩) (λj=>j<=(A0 c[k]).length) (λj=>(A0 c[k]).length - j) (0) (ζ _) (AY w [3,50,41,30,40] Z Z an) ?_))))))));rintro j hj;refine AC (AE (J (BB Z Z Z) (AD (AC (A9 Z (λB=>?_) (λB=>?_))))))
    .refine AX (AC (AZ (AC ?_)));have hdl:=NZ (x:=c[k]) T;have v:j<(A0 c[k]).length:=BR B;refine AE (J (BJ (j) Z Z (Z) (A5 v) underlying215 Z Wb Z) (J (DM Z Z nc Z) (V (By 4 aF Z Z Z Z) (V (B3 Z Z Z Z Z Z Z Wb) ?_))));refine AD (AC (AE (fZ Z Z (J (AN Z Kn Z Z Z) (J (Ay Z Z Cc Z Z Z) (J (II (BN (ft p)) ((A0 c[k])[j]).1 false _ Z Z Z QV CV SX (Xw _ _) Z) (AD (A9 Z (λA=>?_) (λA=>?_)))))))))
     .refine AE (J (AN Z Ky Z Z Z) (J (AP Z Z Z TQ Z) (J (AN Z Kn Z Z Z) (J (Ay Z Z Cc Z Z Z) (J (AN Z Xb Z Z Z) (J (AP Z Z Z GE Z) (V (Ns (f:=40) (dK (ft p) c[k] j) ((A0 c[k])[j]).1 ((A0 c[k])[j]).2 Z Z (Fu _ _ _) Z CL CV Z Z) ?_)))))));rw [Fl,q8 v A];refine AD (AE (J (Al Z Z (AM (j+1) (by omega)) Z) (fZ Z Z (AD ?_))));exact ⟨j+1,v,by omega,AY w [3,50,41,30,40] Z (Z) an⟩
     .refine AX (AE (J (Al Z Z (AM (j+1) (by omega)) Z) (fZ Z Z (AD ?_))));exact ⟨j+1,v,by omega,AY w [3,50,41,30,40] Z (by simp only [mH v A];rfl) an⟩
    .refine Aw ?_;have W:j=(A0 c[k]).length:=by have:=B;omega
     rw [W,q9];refine AE (fZ Z Z ?_);refine J (Ay Z Z KH Z Z Z) (V (C5 31 bI Z Z Z Z Z Z Z Z) (V (F2 (E) ([(c[k],L)]) Z Z Z Z Z Z Z Z bI (by simp only [ς];omega) Z Z Z Z) (AB Z Z (AD (AE (J (Al Z Z (AM (k+1) (by omega)) Z) (fZ Z Z (AD ?_))))))));exact ⟨(k+1,E++ [(c[k],L)],_),⟨l,O.add hb,by show _=(c.take (k+1)).filter _;rw [ψ l,iP,Ω,t,jD,ϱ u];rfl⟩,by show c.length - (k+1)<c.length - k;omega,AY w [50,41,30,40] Z (Z) Ri⟩
  .refine Aw (AC ?_);have z:k=c.length:=by have:=G;omega
   rw [z,gc] at t;refine LL (emb:=Cr) 8 30 E Z Z Z Z Z Z Z (AE (fZ Z Z (AB Z Z (AD (A4 ?_)))));exact ⟨_,[41,40],_,A2 Z,Z,Z,E,M,Z,Z,O,t⟩
abbrev AR (n:Nat):D:=AF (n:Int)
abbrev fl (l:List Nat):D:= .sl none (l.map AR)
theorem Og (h:k<a.length):(a.map AR)[k]? =some (AR (fh a k)):=by rw [A5 h,Pm h]
theorem eqv {a b:D} (h:a=b):AV.d a=AV.d b:=by rw [h]
theorem uG {j:List Nat} {c:Nat} (g:c<a.length) (f:t<a.length):((a++j).set c (fh a t)).set t (fh a c)=M0 a c t++j:=by
 rw [List.set_append_left _ _ g,List.set_append_left _ _ (by simpa using f)];rfl
theorem nV (l j:List Nat):((l++j).map AR).take l.length++ [AR x].take 1=(l++ [x]).map AR:=by
 rw [<-List.map_take,List.take_left];simp
theorem uW {j:List Nat} (h:0<a.length):a.take (a.length - 1)++([fh a (a.length - 1)]++j)=a++j:=by grind [kH,kI,Pm]
theorem uV (j:Nat):Int.tdiv ((j:Int) - 1) 2=(((j - 1) / 2:Nat):Int):=by grind
theorem AO.top {P:Program} {f:FuncId} {a:List AV} {k j:Hp} (h:AO P f a k λr c=>(∃b:Bool,r= .d (Ah b))/\c=j):AO P f a k λr c=>r= .top/\c=j:=
 ⟨h.1,λF l o y x i w u t=>(h.2 F l o y x i w u t).mono λe B ⟨v,r,c,g,A,⟨_,z⟩,_,s⟩=>⟨v,.top,c,g,A,⟨Z,z⟩,.top,s⟩⟩
theorem uj {p q:Prop} [Decidable p] [Decidable q] (h:p↔q):AV.d (Ah (decide p))=AV.d (Ah (decide q)):=by rw [decide_eq_decide.2 h]
theorem sR:FK prog 3=true:=by kernel_rfl
theorem bd:FK prog 321=true:=by kernel_rfl
theorem sr:Ju prog 321 "Len" 223:=λb w=>by kernel_rfl
theorem ci:Ju prog 321 "Less" 296:=λb w=>by kernel_rfl
theorem cg:Ju prog 321 "Swap" 299:=λb w=>by kernel_rfl
theorem sp:Ju prog 321 "Push" 298:=λb w=>by kernel_rfl
theorem u7:Ju prog 321 "Pop" 297:=λb w=>by kernel_rfl
abbrev Mf (g:List (List Nat)):D:= .sl none (g.map fl)
structure GB (g:List (List Nat)):Prop where
 n:g.length<=65536
 e:∀l∈g,l.length<=1048576
 lt:∀l∈g,∀x∈l,x<g.length
theorem Fa (h:i<g.length):fe g i=g[i]:=by simp [fe,h]
theorem Z2 (h:i<g.length):(g.map fl)[i]? =some (fl (fe g i)):=by rw [A5 h,Fa h]
theorem GB.len (h:GB g) {i:Nat} (a:i<g.length):(fe g i).length<=1048576:=by rw [Fa a];exact h.e _ (ξ a)
theorem GB.suc (h:GB g) (b:i<g.length) (a:x∈fe g i):x<g.length:=by rw [Fa b] at a;exact h.lt _ (ξ b) x a
def SA (g:List (List Nat)) (i j:Nat):Nat:=((List.range i).map λa=>(fe g a).count j).sum
theorem Qi (g:List (List Nat)) (i j:Nat):SA g (i+1) j=SA g i j+(fe g i).count j:=by
 unfold SA;rw [hU,Ω,jY];simp
theorem Xn {g:List (List Nat)} (h:GB g) (j:Nat):∀i,i<=g.length ->SA g i j<=i*1048576
 | 0,_=>by simp [SA]
 | i+1,b=>by
  have:=Xn h j i (by omega);have:=List.count_le_length (a:=j) (l:=fe g i);have:=h.len (i:=i) (by omega);rw [Qi];omega
theorem eP (g:List (List Nat)) (j:Nat):SA g g.length j=MJ g [] j:=by
 unfold SA MJ
 congr 1
theorem VJ (h:k<a.length) (j:Nat):(a.take (k+1)).count j=(a.take k).count j+if fh a k=j then 1 else 0:=by grind [ψ,Pm]
theorem eA (h:k<a.length):a.drop k=fh a k::a.drop (k+1):=by rw [Pm h];exact kI h
theorem sM (n:Nat):List.replicate n (D.raw (.int .i64 0))=(List.replicate n 0).map AR:=by rw [List.map_replicate];rfl
theorem lN (n k:Nat):fh (List.replicate n 0) k=0:=by
 unfold fh;rw [Φ,List.getElem?_replicate];split<;>rfl
theorem qP {v:Nat} (h:y<w.length):((w.set y v).map AR)[y]? =some (AR v):=by grind
theorem mG (h:GB g) (done:List Nat) (j:Nat):MJ g done j<=g.length*1048576:=by
 have b:∀n,n<=g.length ->((List.range n).map λi=>if i∈done then 0 else (fe g i).count j).sum<=n*1048576:=by
  intro n
  induction n with
  | zero=>intro _;exact ζ _
  | succ n c=>
   intro s;have r:=c (by omega);have o:=List.count_le_length (a:=j) (l:=fe g n);have k:=h.len (i:=n) (by omega)
   have f:(if n∈done then 0 else (fe g n).count j)<=1048576:=by
    by_cases e:n∈done
    .rw [ϱ e];exact ζ _
    .rw [θ e];exact gJ o k
   rw [hU,Ω,jY,List.map_singleton,List.sum_singleton,Nat.succ_mul];exact Nat.add_le_add r f
 exact b _ (Γ _)
theorem pI {q b:List Nat} (c:GB g) (h:OI g K w q f (y::b)) (i:y<g.length) (k:b.length<=1048576):fh w y<=69000000000:=by
 have r:=mG c f y;have o:=c.n;have j:=List.count_le_length (a:=y) (l:=y::b);rw [h.deg y i];rw [jZ] at j;omega
theorem pJ {q:List Nat} (h:OI g K w q f ((fe g x).drop k)) (e:k=(fe g x).length):OI g K w q f []:=by
 rw [e,List.drop_length] at h;exact h
noncomputable def hG (g:List (List Nat)) (K:Nat ->Nat):List Nat:=Classical.epsilon λout=>Qt g K out/\∀y,¬DL g out y
theorem lF (j:∀a b,a<g.length ->b<g.length ->K a=K b ->a=b) (i:Qt g K f) (c:∀y,¬DL g f y):hG g K=f:=by
 have h:Qt g K (hG g K)/\∀y,¬DL g (hG g K) y:=Classical.epsilon_spec (p:=λf=>Qt g K f/\∀y,¬DL g f y) ⟨f,i,c⟩;exact dX j h.1 i h.2 c
structure FI (K:Nat ->Nat) (w:List Nat) (i:Nat) (l:List Nat):Prop where
 nd:l.Nodup
 mem:∀x,x∈l↔x<i/\fh w x=0
 hp:It K l
theorem FI.le (h:FI K w i a):a.length<=i:=by
 have:=DI h.nd (m:=List.range i) λx b=>Ψ.2 ((h.mem x).1 b).1
 grind
theorem lm (K:Nat ->Nat) (w:List Nat):FI K w 0 []:=⟨.nil,λx=>by simp,λi b a=>by simp at a⟩
theorem lp (h:FI K w i a) (f:fh w i=0):FI K w (i+1) (Me K a i):=by
 have b:=O9 K a i;refine ⟨b.nodup_iff.2 (jv.2 ⟨λc=>jk _ ((h.mem i).1 c).1,h.nd⟩),λx=>?_,Oa h.hp i⟩;rw [b.mem_iff,Υ,h.mem]
 grind
theorem ln (h:FI K w i a) (b:fh w i≠0):FI K w (i+1) a:=by
 refine ⟨h.nd,λx=>?_,h.hp⟩;rw [h.mem]
 grind
structure CW (g:List (List Nat)) (i k:Nat) (w:List Nat):Prop where
 len:w.length=g.length
 val:∀j,j<g.length ->fh w j=SA g i j+((fe g i).take k).count j
theorem mI (g:List (List Nat)):CW g 0 0 (List.replicate g.length 0):=⟨by simp,λj _=>by rw [lN];simp [SA]⟩
theorem mJ (c:GB g) (h:CW g i k w) (s:i<g.length) (o:k<(fe g i).length):
  fh (fe g i) k<w.length/\fh w (fh (fe g i) k)<=100000000000/\CW g i (k+1) (w.set (fh (fe g i) k) (fh w (fh (fe g i) k)+1)):=by
 have f:fh (fe g i) k<g.length:=c.suc s (Dt o);have b:fh (fe g i) k<w.length:=by rw [h.len];exact f
 refine ⟨b,?_,⟨by simpa using h.len,λj r=>?_⟩⟩
 .rw [h.val _ f];have:=Xn c (fh (fe g i) k) i (by omega);have:=List.count_le_length (a:=fh (fe g i) k) (l:=(fe g i).take k);rw [ϖ] at this;have:=c.len s;have:=c.n;omega
 .rw [KV b,VJ o]
  by_cases e:fh (fe g i) k=j
  .rw [ϱ e.symm,ϱ e,e,h.val j r];omega
  .rw [θ λt=>e t.symm,θ e,h.val j r];omega
theorem qa (h:CW g i (fe g i).length w):CW g (i+1) 0 w:=⟨h.len,λj a=>by rw [h.val j a,gc,Qi];simp⟩
theorem qd (h:CW g g.length 0 w):w.length=g.length/\∀j,j<g.length ->fh w j=MJ g [] j:=
 ⟨h.len,λj a=>by rw [h.val j a,eP];simp⟩
def Zt (rs:List AT) (a b:AI):Prop:=(∃d∈dR rs a,d.2<0/\0<Aa (dR rs b) d.1 0)\/b.id∈a.af
noncomputable instance (rs:List AT) (a b:AI):Decidable (Zt rs a b):=Classical.propDecidable _
theorem Gm {b a:List s} {x:List s} {y:s} {c:List s} (h:(b++x).Perm c) (f:x.Perm (y::a)):((b++ [y])++a).Perm c:=by
 refine List.Perm.trans ?_ h;rw [ji];exact (List.Perm.append_left b f).symm
theorem cr {a:Type} {m:List (s×a)} {x:s×a} (h:m[j]? =some x):x∈m:=ϑ h
set_option maxHeartbeats 1000000 in
theorem kO (a b:AI×Nat) (H:M a.2=some (.map none (Jn (dR c a.1)))) (w:M b.2=some (.map none (Jn (dR c b.1)))) (Q:a.1.af.length<=100000):
  AO prog 132 [.d (Cr a),.d (Cr b)] [(40,[.multi M])] λr H'=>r= .d (Ah (decide (Zt c a.1 b.1)))/\H'=[(40,[.multi M])]:=by
 obtain ⟨a,o⟩:=a;obtain ⟨b,O⟩:=b;dsimp only at H w Q⊢
 obtain ⟨L,S⟩:∃L,dR c a=L:=⟨_,Z⟩
 have I:Zt c a b↔((∃d∈L,d.2<0/\0<Aa (dR c b) d.1 0)\/b.id∈a.af):=by rw [<-S];exact Iff.rfl
 rw [S] at H;refine At func132 Z Z ntmps132 Z Z Z λF R=>(AC (MS 40 o Z H (λ_ _=>rfl) λB g X W=>?_))
 obtain ⟨C,s⟩:∃C,BZ M o (.map (some (B,g)) (Jn L))=C:=⟨_,Z⟩
 rw [s];have j:C o=some (.map (some (B,g)) (Jn L)):=by rw [<-s,Fu]
 have z:∃bs,C O=some (.map bs (Jn (dR c b))):=by
  by_cases e:O=o
  .subst e;rw [H] at w;injection w with w;injection w with _ w;exact ⟨_,by rw [j,w]⟩
  .exact ⟨none,by rw [<-s,Hu e];exact w⟩
 obtain ⟨Y,z⟩:=z;have k:BZ C o (.map none (Jn L))=M:=by rw [<-s,Fl];exact Lo H
 refine AE (V (Bo 20 Z Z Z Z Z Z Z) (V (Bo 21 Z Z Z Z Z Z Z) (AB Z Z (AD ?_))));refine AC (AC (AE (J (AN Z Ky Z Z Z) (J (AP Z Z Z TQ Z) (V (LV 22 (f:=40) Z Z (j) Z CL Z Z Z Z) (AD (AZ (BO (α:=List Nat×List (AT×Int)) (λq=>⟨31,[(2,(.ptr 20 0 0)),(3,(.ptr 21 0 0)),(9,(.ptr 22 0 0))],[(20,[.blk 131 [.d (AF a.id),.d (AF a.pr),.d (AF a.sq),.d (.sl none (a.po.map B7)),.d (.sl none (a.pa.map Cp)),.d (.sl none (a.af.map AF)),.d (mD o)]]),(21,[.blk 131 [.d (AF b.id),.d (AF b.pr),.d (AF b.sq),.d (.sl none (b.po.map B7)),.d (.sl none (b.pa.map Cp)),.d (.sl none (b.af.map AF)),.d (mD O)]]),(22,[.iter 40 o g q.1]),(40,[.multi C])]⟩) (λq=>(q.2++Bz L B q.1).Perm L/\∀d∈q.2,¬(d.2<0/\0<Aa (dR c b) d.1 0)) (λq=>(Bz L B q.1).length) (([],[])) (⟨by show ([]++Bz L B []).Perm L;rw [nG (by simpa [BY] using X)];exact List.Perm.refl _,(λd y=>nomatch y)⟩) (AY R [20,21,22,40] Z Z Qs) ?_))))))));rintro ⟨seen,A⟩ ⟨K,N⟩;dsimp only at K N⊢;refine AC (AE (RZ (L) Z Z Z (j) Z (λE=>?_) (λP l x D v G T i=>⟨_,Z,?_⟩)))
 .rw [E] at K;refine JE 40 o Z j Z ?_;rw [k];refine J (DC Z Z Z) (AD (AC (Cm Z Z (Aw (AC (AE (J (AN Z JM Z Z Z) ?_)))))));refine J (AN Z EV Z Z Z) (J (AP Z Z Z BL Z) (J (AN Z JM Z Z Z) (J (AN Z PQ Z Z Z) (J (AP Z Z Z An Z) (J (As (Oy a.af b.id (by omega)) Z Z) (AB Z Z (AD (A4 ?_))))))));exact ⟨_,[40],_,A2 Z,Z,Z,by rw [decide_eq_decide.2 (I.trans ⟨λh=>h.resolve_left λ⟨d,y,U⟩=>N d ((show A.Perm L by simpa using K).mem_iff.2 y) U,.inr⟩)],Z⟩
 .refine J (DC Z Z Z) (AD (AC ?_));refine Bx Z Z (AX (AZ (AC (AE (J (LW (L) P l Z Z Z (j) v G Z) (J (DC Z Z Z) (J (DC Z Z Z) (V (By 23 Jy Z Z Z Z) ?_))))))));refine V (B3 Z Z Z Z Z Z Z YS) (AB Z Z (AD (AC (AE (fZ Z Z (J (BB Z Z Z) (fZ Z Z (C3 17 Z (λu=>?_) (λu=>?_)))))))))
  .refine AQ Z Z Z (J (AN Z Ky Z Z Z) (AQ Z Z Z (J (AP Z Z Z TQ Z) ?_)));refine AQ Z Z Z (J (Ay Z Z Cc Z Z Z) (AQ Z Z Z (J (Sh (f:=40) (dR c b) x 0 _ Z Z z Z CL CV PU Z Z) (AQ Z Z Z (J (HF Z Z Z) (J (B5 Z Z Z Z) (AD (A9 Z (λt=>?_) (λt=>?_)))))))))
   .refine AC (nB 40 o Z j Z ?_);rw [k];refine AE (AB Z Z (AD (A4 ?_)));exact ⟨_,[40],_,A2 Z,Z,Z,by rw [gQ (I.2 (.inl ⟨_,cr v,u,t⟩))],Z⟩
   .refine AX ?_;exact ⟨(seen++ [l],A++ [(x,D)]),⟨Gm K i,λd y=>(υ.1 y).elim (N d) λe=>by rw [η.1 e];first | exact λh=>u h.1 | exact λh=>t h.2⟩,by show (Bz L B (seen++ [l])).length<(Bz L B seen).length;rw [i.length_eq];exact io _,AY R [20,21,22,40] Z (Z) Qs⟩
  .refine AL Z Z Z Z (AL Z Z Z Z (AL Z Z Z Z (AL Z Z Z Z (AL Z Z Z Z (J (Bk Z Z Z Z) (AD (Cm Z Z (AX ?_))))))));exact ⟨(seen++ [l],A++ [(x,D)]),⟨Gm K i,λd y=>(υ.1 y).elim (N d) λe=>by rw [η.1 e];first | exact λh=>u h.1 | exact λh=>t h.2⟩,by show (Bz L B (seen++ [l])).length<(Bz L B seen).length;rw [i.length_eq];exact io _,AY R [20,21,22,40] Z (Z) Qs⟩
def DJ (E:List (AI×Nat)) (k:Nat):AI:=(E.getD k (Af,0)).1
noncomputable def ik (rs:List AT) (E:List (AI×Nat)) (a:AI) (k:Nat):List Nat:=(List.range k).filter λj=>decide (Zt rs a (DJ E j))
noncomputable def i8 (rs:List AT) (E:List (AI×Nat)):List (List Nat):=E.map λe=>ik rs E e.1 E.length
theorem kR (h:Zt c o (DJ E k)):ik c E o (k+1)=ik c E o k++ [k]:=by
 unfold ik;rw [hU,iP];simp [h]
theorem aV (h:¬Zt c o (DJ E k)):ik c E o (k+1)=ik c E o k:=by
 unfold ik;rw [hU,iP];simp [h]
theorem W4 (b:List AT) (E:List (AI×Nat)) (a:AI) (k:Nat):(ik b E a k).length<=k:=by grind [ik]
theorem SJ (a:k<E.length):DJ E k=(E[k]).1:=by unfold DJ;rw [Φ,ω a];rfl
theorem Hc (a:List AT) (E:List (AI×Nat)):(i8 a E).length=E.length:=χ _
set_option maxHeartbeats 1000000 in
theorem li (E:List (AI×Nat)) (x:WY c M E) (C:E.length<=1000) (w:∀e∈E,e.1.af.length<=100000):
  AO prog 77 [.d (.sl none (E.map Cr))] [(40,[.multi M])] λr D=>r= .d (Mf (i8 c E))/\D=[(40,[.multi M])]:=by
 refine At func77 Z Z ntmps77 Z Z Z λF o=>?_;refine AC (AE (AB Z Z (AD (AC (AE (AB Z Z (AD (AC ?_))))))));refine AC (AE (fZ Z Z (J (Ba Z fT Z) (fZ Z Z (AD (AZ (NG 3 10 Wm Z Z Z Z (BO (α:=Nat×List (List Nat)) (λq=>⟨36,[(0,.d (.sl none (E.map Cr))),(3,(.own 10 0 q.2.length)),(9,(.d (.sl none (E.map Cr)))),(10,(.d (AF (E.length:Int)))),(11,(.d (AF (q.1:Int))))],[(10,[.rowD 28 1 (q.2.map fl)]),(40,[.multi M])]⟩) (λq=>q.1<=E.length/\q.2=(i8 c E).take q.1) (λq=>E.length - q.1) ((0,[])) (⟨ζ _,Z⟩) (AY o [10,40] Z Z F0) ?_))))))));rintro ⟨i,G⟩ ⟨z,s⟩;dsimp only at z s⊢;refine AC (AE (J (BB Z Z Z) (AD (AC (A9 Z (λh=>?_) (λh=>?_))))))
 .refine AX (AC (AZ (AC ?_)));have b:i<E.length:=BR h;have B:G.length<=1000:=by rw [s,ϖ];omega
  have l:=ξ b;refine AE (J (BJ (i) Z Z (Z) (A5 b) fT Z GH Z) ?_);refine J (DM Z Z KH Z) (V (By 21 MX Z Z Z Z) (V (B3 Z Z Z Z Z Z Z GH) (AD (AC (AE (AB Z Z (AD (AC ?_))))))));refine AC (AE (fZ Z Z (J (Ba Z fT Z) (fZ Z Z (AD (AZ (NG 6 11 BP Z Z Z Z (BO (α:=Nat×List Nat) (λq=>⟨36,[(0,.d (.sl none (E.map Cr))),(3,(.own 10 0 G.length)),(5,(.ptr 21 0 0)),(6,(.own 11 0 q.2.length)),(9,(.d (.sl none (E.map Cr)))),(10,(.d (AF (E.length:Int)))),(11,(.d (AF (i:Int)))),(15,(.d (.sl none (E.map Cr)))),(16,(.d (AF (E.length:Int)))),(17,(.d (AF (q.1:Int))))],[(21,[.blk 131 [.d (AF (E[i]).1.id),.d (AF (E[i]).1.pr),.d (AF (E[i]).1.sq),.d (.sl none ((E[i]).1.po.map B7)),.d (.sl none ((E[i]).1.pa.map Cp)),.d (.sl none ((E[i]).1.af.map AF)),.d (mD (E[i]).2)]]),(11,[.rowD 3 1 (q.2.map AR)]),(10,[.rowD 28 1 (G.map fl)]),(40,[.multi M])]⟩) (λq=>q.1<=E.length/\q.2=ik c E (E[i]).1 q.1) (λq=>E.length - q.1) ((0,[])) (⟨ζ _,Z⟩) (AY o [21,11,10,40] Z Z T1) ?_))))))));rintro ⟨k,T⟩ ⟨y,j⟩;dsimp only at y j⊢;refine AC (AE (J (BB Z Z Z) (AD (AC (A9 Z (λg=>?_) (λg=>?_))))))
  .refine AX (AC (AZ (AC ?_)));have a:k<E.length:=BR g;have A:T.length<=1000:=by have:=W4 c E (E[i]).1 k;rw [<-j] at this;omega
   have v:=ξ a;refine AE (fZ Z Z (J (BJ (k) Z Z (Z) (A5 a) fT Z GH Z) (J (DM Z Z KH Z) (V (By 22 MX Z Z Z Z) (AB Z Z ?_)))));refine V (B3 Z Z Z Z Z Z Z GH) (AD (AC (AE (J (Ay Z Z KH Z Z Z) (J (Ay Z Z KH Z Z Z) (V (FE (kO E[i] E[k] (x _ l) (x _ v) (w _ l)) Z [40] ⟨Z,trivial⟩ Z Z Z Z Z Z Z Z Z) (AD (A9 Z (λf=>?_) (λf=>?_)))))))))
   .refine AE (fZ Z Z ?_);refine fZ Z Z (V (C5 30 BP Z Z Z Z Z Z Z Z) (V (F2 (T) ([k]) Z Z Z Z Z Z Z Z BP (by simp only [ς];omega) Z Z Z Z) (AB Z Z (AD (AE (J (Al Z Z (AM (k+1) (by omega)) Z) (fZ Z Z (AD ?_))))))));exact ⟨(k+1,T++ [k]),⟨a,by show _=ik c E _ (k+1);rw [kR (by rw [SJ a];exact f),j]⟩,by show E.length - (k+1)<E.length - k;omega,AY o [21,11,10,40] Z (Z) T1⟩
   .refine AX (AE (J (Al Z Z (AM (k+1) (by omega)) Z) (fZ Z Z (AD ?_))));exact ⟨(k+1,T),⟨a,by show _=ik c E _ (k+1);rw [aV (by rw [SJ a];exact f),j]⟩,by show E.length - (k+1)<E.length - k;omega,AY o [21,11,10,40] Z (Z) T1⟩
  .refine Aw ?_;have t:k=E.length:=by have:=g;omega
   rw [t] at j;refine LL (emb:=AR) 6 11 T Z Z Z Z Z Z Z ?_;rw [j];refine AE (fZ Z Z ?_);refine fZ Z Z (V (C5 31 Wm Z Z Z Z Z Z Z Z) (V (F2 (G) ([ik c E (E[i]).1 E.length]) Z Z Z Z Z Z Z Z Wm (by simp only [ς];omega) Z Z Z Z) (AB Z Z (AD (AE (J (Al Z Z (AM (i+1) (by omega)) Z) (fZ Z Z (AD ?_))))))));exact ⟨(i+1,G++ [ik c E (E[i]).1 E.length]),⟨b,by show _=(i8 c E).take (i+1);rw [s,ψ (by rw [Hc];exact b)];congr 1;simp [i8]⟩,by show E.length - (i+1)<E.length - i;omega,AY o [10,40] Z (Z) F0⟩
 .refine Aw (AC ?_);have u:i=E.length:=by have:=h;omega
  refine LL (emb:=fl) 3 10 G Z Z Z Z Z Z Z ?_;rw [s,u,κ (by rw [Hc];exact Γ _)];refine AE (fZ Z Z (AB Z Z (AD (A4 ?_))));exact ⟨_,[40],_,A2 Z,Z,Z,Z,Z⟩
def BC (E:List (AI×Nat)) (l:List Nat):List Int:=l.map λk=>(DJ E k).id
theorem tE (E:List (AI×Nat)) (l:List Nat) (r:∀k∈l,k<E.length) (o:l.length<=1000000):AK prog 78 [.d (.sl none (E.map Cr)),.d (fl l)] (.sl none ((BC E l).map AF)):=by
 refine At func78 Z Z ntmps78 Z Z Z λF j=>?_;refine AC (AE (AB Z Z (AD (AC (AE (AB Z Z (AD (AC ?_))))))));refine AC (AE (fZ Z Z (J (JZ Z (χ ..) ch Z) (fZ Z Z (AD (AZ (NG 5 10 BP Z Z Z Z (BO (α:=Nat×List Int) (λq=>⟨25,[(0,.d (.sl none (E.map Cr))),(5,(.own 10 0 q.2.length)),(8,(.d (fl l))),(9,(.d (AF (l.length:Int)))),(10,(.d (AF (q.1:Int))))],[(10,[.rowD 3 1 (q.2.map AF)])]⟩) (λq=>q.1<=l.length/\q.2=BC E (l.take q.1)) (λq=>l.length - q.1) ((0,[])) (⟨ζ _,Z⟩) (AY j [10] Z Z F0) ?_))))))));rintro ⟨k,T⟩ ⟨s,f⟩;dsimp only at s f⊢;refine AC (AE (J (BB Z Z Z) (AD (AC (A9 Z (λb=>?_) (λb=>?_))))))
 .refine AX (AC (AZ (AC ?_)));have a:k<l.length:=BR b;have t:T.length<=1000000:=by rw [f];unfold BC;rw [χ,ϖ];omega
  have c:l[k]<E.length:=r _ (ξ a);have h:(l.map AR)[k]? =some (AR l[k]):=A5 a;have i:(E.map Cr)[l[k]]? =some (Cr E[l[k]]):=A5 c;refine AE (J (BJ (k) Z Z (Z) (h) ch Z BU Z) (J (CI Z Z An Z) (AB Z Z ?_)));refine AD (AE (fZ Z Z (fZ Z Z (fZ Z Z (J (BJ (l[k]) Z Z (Z) (i) fT Z GH Z) (J (WX Z JM Z Z Z) (J (Nc Z PQ Z Z Z) (J (CI Z Z An Z) ?_))))))));rw [show ((E[l[k]]).1.id:Int)=(DJ E l[k]).id by rw [SJ c]];refine V (C5 30 BP Z Z Z Z Z Z Z Z) (V (F2 (T) ([(DJ E l[k]).id]) Z Z Z Z Z Z Z Z BP (by simp only [ς];omega) Z Z Z Z) (AB Z Z (AD (AE (J (Al Z Z (AM (k+1) (by omega)) Z) (fZ Z Z (AD ?_)))))));exact ⟨(k+1,T++ [(DJ E l[k]).id]),⟨a,by show _=BC E (l.take (k+1));rw [f];unfold BC;rw [ψ a,Ω];rfl⟩,by show l.length - (k+1)<l.length - k;omega,AY j [10] Z (Z) F0⟩
 .refine Aw (AC ?_);have g:k=l.length:=by have:=b;omega
  rw [g,gc] at f;refine LL (emb:=AF) 5 10 T Z Z Z Z Z Z Z ?_;rw [f];refine AE (fZ Z Z (AB Z Z (AD (A4 ?_))));exact ⟨_,[],[],A2 Z,Z,Z,Z,Z⟩
end Go.Proofs.YteifpcnphnhaoaaGreat
namespace Go.Proofs.YteifpcnphnhaoaaGreat
variable {E:List (AI×Nat)} {f:Nat ->Nat} {U:List (AT×Nat)} {a:List AT} {C:Nat ->Nat ->Prop} {P c:Nat ->AT ->Prop} {g:Prop} {k h j:Nat} {i:AT} {o s t:Nat}
noncomputable def dec (p:Prop):Bool:= @decide p (Classical.propDecidable p)
theorem FQ:dec g=true↔g:= @decide_eq_true_iff g (Classical.propDecidable g)
theorem Xl (h:g):dec g=true:=FQ.2 h
theorem oF (h:¬g):dec g=false:=by grind [dec]
theorem WH {q:Prop} [Decidable g] (h:g↔q):decide g=dec q:=by grind [Xl,oF]
def J0 (rs:List AT) (a b:AI):Prop:=b.id∈a.af\/a.id∈b.af\/∃r,r∈(dR rs a).map Prod.fst/\r∈(dR rs b).map Prod.fst
noncomputable instance (rs:List AT) (a b:AI):Decidable (J0 rs a b):=Classical.propDecidable _
theorem J0.symm {c b:AI} (h:J0 a c b):J0 a b c:=by grind [J0]
noncomputable def pS (rs:List AT) (E:List (AI×Nat)) (i:Nat):List Nat:=(List.range E.length).filter λj=>decide (i<E.length/\J0 rs (DJ E i) (DJ E j))
theorem E7:j∈pS a E t↔t<E.length/\j<E.length/\J0 a (DJ E t) (DJ E j):=by grind [pS]
def Cn (rs:List AT) (E:List (AI×Nat)):Nat ->Nat ->Prop:=Rh (pS rs E)
theorem Rh.sym {c:Nat ->List Nat} (g:∀i j,j∈c i ->i∈c j) (h:Rh c s o):Rh c o s:=by
 induction h with
 | refl=>exact .refl _
 | step _ e f=>exact (Rh.one (g _ _ e)).trans f
theorem Cn.symm (h:Cn a E t j):Cn a E j t:=
 Rh.sym (λt j h=>E7.2 ⟨(E7.1 h).2.1,(E7.1 h).1,(E7.1 h).2.2.symm⟩) h
def ED (f:Nat ->Nat) (a b:Nat):Nat ->Nat:=λk=>if f k=max (f a) (f b) then min (f a) (f b) else f k
theorem H7 (h:f t=f j):ED f s o t=ED f s o j:=by unfold ED;rw [h]
theorem QZ:ED f s o s=ED f s o o:=by grind [ED]
structure UF (n:Nat) (C:Nat ->Nat ->Prop) (f:Nat ->Nat):Prop where
 le:∀k,k<n ->f k<=k
 ff:∀k,k<n ->f (f k)=f k
 snd:∀i j,i<n ->j<n ->f i=f j ->C i j
theorem UF.join (c:UF h C f) (x:∀i j k,C i j ->C j k ->C i k) (y:∀i j,C i j ->C j i) (v:s<h) (u:o<h) (r:C s o):UF h C (ED f s o):=by
 have z:min (f s) (f o)=f s\/min (f s) (f o)=f o:=by omega
 have F:max (f s) (f o)=f s\/max (f s) (f o)=f o:=by omega
 have B:f (min (f s) (f o))=min (f s) (f o):=by
  rcases z with e | e
  .rw [e];exact c.ff s v
  .rw [e];exact c.ff o u
 have E:∀i,i<h ->f i=max (f s) (f o) ->C i s:=λi l e=>by
  rcases F with g | g
  .exact c.snd i s l v (e.trans g)
  .exact x _ _ _ (c.snd i o l u (e.trans g)) (y _ _ r)
 have D:∀i,i<h ->f i=min (f s) (f o) ->C i s:=λi l e=>by
  rcases z with g | g
  .exact c.snd i s l v (e.trans g)
  .exact x _ _ _ (c.snd i o l u (e.trans g)) (y _ _ r)
 refine ⟨λk t=>?_,λk t=>?_,λi j l A e=>?_⟩
 .have:=c.le k t;unfold ED;split<;>omega
 .by_cases e:f k=max (f s) (f o)
  .grind [ED]
  .have w:ED f s o k=f k:=θ e;rw [w];unfold ED;rw [c.ff k t,θ e]
 .unfold ED at e
  by_cases w:f i=max (f s) (f o)<;>by_cases g:f j=max (f s) (f o)
  .grind
  .grind
  .grind
  .rw [θ w,θ g] at e;exact c.snd i j l A e
theorem UF.id (n:Nat) (a:∀i,C i i):UF n C (λk=>k):=⟨λ_ _=>Γ _,λ_ _=>rfl,λi j _ _ (e:i=j)=>by subst e;exact a i⟩
noncomputable def jJ (n:Nat) (C:Nat ->Nat ->Prop):List (List Nat):=((List.range n).filter λk=>dec (∀j,j<k ->¬C k j)).map λk=>(List.range n).filter λj=>dec (C k j)
def ZO (n:Nat) (f:Nat ->Nat) (k:Nat):List Nat:=(List.range n).filter λj=>decide (f j=k)
def K9 (n m:Nat) (f:Nat ->Nat):List (List Nat):=((List.range m).filter λk=>decide (f k=k)).map (ZO n f)
theorem cw {m:Nat} (a:f m=m):K9 h (m+1) f=K9 h m f++ [ZO h f m]:=by
 unfold K9;rw [hU,iP,Ω];simp [a]
theorem ZN {m:Nat} (a:¬f m=m):K9 h (m+1) f=K9 h m f:=by
 unfold K9;rw [hU,iP,Ω];simp [a]
theorem cv (n m:Nat) (f:Nat ->Nat):(K9 n m f).length<=m:=by grind [K9]
theorem l0 (a:UF h C f) (w:∀i j,i<h ->j<h ->C i j ->f i=f j):K9 h h f=jJ h C:=by
 have g:∀k,k<h ->(f k=k↔∀j,j<k ->¬C k j):=λk b=>by
  constructor
  .intro e j v t;have y:=w k j b (by omega) t;have u:=a.le j (by omega);omega
  .intro x;have y:=a.le k b;rcases Nat.lt_or_ge (f k) k with u | u
   .exact absurd (a.snd k (f k) b (by omega) (a.ff k b).symm) (x _ u)
   .omega
 unfold K9 jJ;rw [show ((List.range h).filter λk=>decide (f k=k))=(List.range h).filter λk=>dec (∀j,j<k ->¬C k j) from jj λk b=>WH (g k (Ψ.1 b))];refine gi λk b=>?_;obtain ⟨s,r⟩:=gS.1 b;have c:=Ψ.1 s;have o:f k=k:=(g k c).2 (FQ.1 r);unfold ZO;refine jj λj v=>WH ?_;have l:=Ψ.1 v;exact ⟨λe=>a.snd k j c l (by rw [o,e]),λt=>by rw [<-w k j c l t,o]⟩
structure Pp (rs:List AT) (E:List (AI×Nat)) (P:Nat ->AT ->Prop) (U:List (AT×Nat)) (f:Nat ->Nat):Prop where
 ok:∀e∈U,e.2<E.length/\e.1∈(dR rs (DJ E e.2)).map Prod.fst
 has:∀k r,P k r ->r∈U.map Prod.fst/\f (Aa U r 0)=f k
theorem Pp.keep {b:Nat ->Nat} (h:Pp a E P U f) (g:∀i j,f i=f j ->b i=b j):Pp a E P U b:=
 ⟨h.ok,λk r c=>⟨(h.has k r c).1,g _ _ (h.has k r c).2⟩⟩
theorem Pp.mono (h:Pp a E P U f) (b:∀k r,c k r ->P k r):Pp a E c U f:=⟨h.ok,λk r g=>h.has k r (b k r g)⟩
theorem lS (h:i∈U.map Prod.fst):(i,Aa U i 0)∈U:=I2 h
theorem Pp.new (h:Pp a E P U f) (j:i∉U.map Prod.fst) (v:k<E.length) (u:i∈(dR a (DJ E k)).map Prod.fst) (l:∀b s,c b s ->P b s\/(b=k/\s=i)):Pp a E c (BS U i k) f:=by
 rw [ER j];refine ⟨λe g=>?_,λb s o=>?_⟩
 .rcases υ.1 g with g | g
  .exact h.ok e g
  grind
 .rw [<-ER j,Gs];rcases l b s o with t | ⟨rfl,rfl⟩
  .obtain ⟨x,w⟩:=h.has b s t
   grind [ER]
  grind [ER]
theorem Pp.join (h:Pp a E P U f) (j:i∈U.map Prod.fst) (l:∀b s,c b s ->P b s\/(b=k/\s=i)):Pp a E c U (ED f (Aa U i 0) k):=
 ⟨h.ok,λb s o=>(l b s o).elim (λg=>⟨(h.has b s g).1,H7 (h.has b s g).2⟩) λ⟨u,t⟩=>by subst u t;exact ⟨j,QZ⟩⟩
theorem Pp.zero (a:List AT) (E:List (AI×Nat)) (f:Nat ->Nat):Pp a E (λ_ _=>False) [] f:=⟨λe b=>(nomatch b),λk r h=>h.elim⟩
def NO (E:List (AI×Nat)) (k:Nat):List (Int×Nat):=(List.range k).map λj=>((DJ E j).id,j)
theorem bk (E:List (AI×Nat)) (k:Nat):NO E (k+1)=NO E k++ [((DJ E k).id,k)]:=by unfold NO;rw [hU,Ω];rfl
theorem Ws {x:Int}:x∈(NO E k).map Prod.fst↔∃j,j<k/\(DJ E j).id=x:=by grind [NO]
def kD (E:List (AI×Nat)):Prop:=∀i j,i<E.length ->j<E.length ->(DJ E i).id=(DJ E j).id ->i=j
theorem kx (c:kD E) (b:k<E.length):BS (NO E k) (DJ E k).id k=NO E (k+1):=by
 rw [ER λa=>by
  obtain ⟨j,f,e⟩:=Ws.1 a;have:=c j k (by omega) b e
  omega,bk]
theorem Wr (a:kD E) {x:Int} (h:x∈(NO E E.length).map Prod.fst):Aa (NO E E.length) x 0<E.length/\(DJ E (Aa (NO E E.length) x 0)).id=x:=by grind [NO,I2]
theorem bm (b:kD E) (a:j<E.length):(DJ E j).id∈(NO E E.length).map Prod.fst/\Aa (NO E E.length) (DJ E j).id 0=j:=by
 have c:(DJ E j).id∈(NO E E.length).map Prod.fst:=Ws.2 ⟨j,a,Z⟩;obtain ⟨g,f⟩:=Wr b c;exact ⟨c,b _ _ g a f⟩
end Go.Proofs.YteifpcnphnhaoaaGreat
namespace Go.Proofs.YteifpcnphnhaoaaGreat
open Go.RowKit
variable {a:Nat ->List Nat} {c:List (Nat×Nat)} {f:Nat} {S:TS} {g k h:Nat} {i j:Nat ->Nat} {o:Nat ->Int} {s:Nat} {x:Nat×Nat} {t:Nat}
abbrev rowN (n:Nat) (f:Nat ->Nat):List D:=(List.range n).map λv=>AR (f v)
abbrev ID (n:Nat) (f:Nat ->Int):List D:=(List.range n).map λv=>AF (f v)
theorem Na {n i:Nat} {f:Nat ->Nat} (h:i<n):(rowN n f)[i]? =some (AR (f i)):=by simp [h]
theorem bT (h:s<f):(ID f o)[s]? =some (AF (o s)):=by simp [h]
theorem NM {a h:Nat ->D} (c:∀j,j<f ->j≠s ->a j=h j) {x:D} (b:x=h s):((List.range f).map a).set s x=(List.range f).map h:=by
 refine i7 (by simp) λj k g=>?_
 grind
theorem Dl {x:Nat}:(rowN f i).set s (AR x)=rowN f (BE i s x):=by grind [NM,HH,LO]
theorem bS {x:Int}:(ID f o).set s (AF x)=ID f (BE o s x):=by grind [NM,HH,LO]
theorem Dm (n:Nat) (f:Nat ->Nat):(rowN n f).length=n:=by simp
theorem Sp (n:Nat) (f:Nat ->Int):(ID n f).length=n:=by simp
theorem ox (n:Nat):List.replicate n (D.raw (.int .i64 0))=rowN n (λ_=>0):=by
 refine i7 (by simp) λj b a=>?_
 simp
theorem uQ (n:Nat):List.replicate n (D.raw (.int .i64 0))=ID n (λ_=>0):=by
 refine i7 (by simp) λj b a=>?_
 simp
abbrev Z4 (f:Nat×Nat):D:= .agg [AR f.1,AR f.2]
def pend:Option Nat ->List (Nat×Nat)
 | none=> []
 | some v=> [(v,0)]
theorem Lx {l j:List (Nat×Nat)} (h:k=l.length):((l++ [x]++j).map Z4)[k]? =some (Z4 x):=by
 subst h;simp
theorem uM {l j:List (Nat×Nat)} {y:Nat×Nat} (h:k=l.length):((l++ [x]++j).map Z4).set k (Z4 y)=(l++ [y]++j).map Z4:=by
 subst h;simp
theorem rn (l j:List (Nat×Nat)) {x:Nat×Nat}:((l++j).map Z4).take l.length++ [Z4 x].take 1=(l++ [x]).map Z4:=by
 rw [<-List.map_take,List.take_left];simp
theorem pT (a b:Nat):(if (b:Int)<(a:Int) then (b:Int) else (a:Int))=((min a b:Nat):Int):=by
 split<;>omega
def mu (n:Nat) (suc:Nat ->List Nat) (S:TS):Nat:=((List.range n).map λv=>if S.idx v=0 then (suc v).length+1 else 0).sum+(S.cs.map λf=>(suc f.1).length - f.2+1).sum
theorem cZ {n:Nat} {a:Nat ->List Nat} {S:TS} {v:Nat} (g:v<n) (j:S.idx v=0) {l:Nat ->Nat} {st:List Nat} {c:Nat}:
  mu n a ⟨BE S.idx v (S.clk+1),l,S.of,st,S.cs++ [(v,0)],S.cnt,c⟩=mu n a S:=by
 unfold mu;dsimp only
 have:=Wd (n:=n) (i:=v) (f:=λv=>if S.idx v=0 then (a v).length+1 else 0) (h:=λu=>if BE S.idx v (S.clk+1) u=0 then (a u).length+1 else 0) (c:=(a v).length+1) g
  (λk _ b=>by rw [HH b]) (by rw [LO,ϱ j,θ (by omega)];omega)
 grind
theorem Vh (b:S.cs=c++ [(h,k)]) (g:k<(a h).length):mu f a {S with low:=j,cs:=c++ [(h,k+1)]}<mu f a S:=by grind [mu]
theorem c6 (b:S.cs=c++ [(h,k)]) {o:Nat ->Int} {i:List Nat} {g:Nat}:mu f a ⟨S.idx,j,o,i,c,g,S.clk⟩<mu f a S:=by grind [mu]
structure TH (n:Nat) (suc:Nat ->List Nat) (r:Nat) (S:TS) (p:Option Nat):Prop where
 ti:TI n suc S p
 k1:∀f∈S.cs,1<=f.2
 old:∀v,v<r ->S.idx v≠0
 rt:S.idx r≠0\/p=some r
structure TB (n:Nat) (suc:Nat ->List Nat) (r:Nat) (S:TS) (cs0:List (Nat×Nat)) (v k:Nat):Prop where
 ti:TI n suc S none
 hcs:S.cs=cs0++ [(v,k)]
 k1:∀f∈cs0,1<=f.2
 old:∀v,v<r ->S.idx v≠0
 rt:S.idx r≠0
theorem kX {p:Option Nat} (h:TH f a g S p) (c:S.cs++pend p≠ []):∃b v k,S.cs++pend p=b++ [(v,k)]/\v<f/\(k=0 ->S.cs=b/\p=some v)/\(k≠0 ->S.cs=b++ [(v,k)]/\p=none):=by
 cases p with
 | some v=>exact ⟨S.cs,v,0,Z,(h.ti.pnd v Z).1,λ_=>⟨Z,Z⟩,λh=>(h Z).elim⟩
 | none=>
  rw [pend,iC] at c⊢;rcases List.eq_nil_or_concat S.cs with e | ⟨l,⟨v,k⟩,e⟩
  .grind
  .rw [List.concat_eq_append] at e;have i:(v,k)∈S.cs:=by rw [e];exact iy _ (η.2 Z)
   have:=h.k1 _ i;have j:=h.ti.lt v ((h.ti.st v).1 (h.ti.csm _ i)).1
   grind
theorem aZ (b:TH f a g S (some h)):
  TB f a g ⟨BE S.idx h (S.clk+1),BE S.low h (S.clk+1),S.of,S.st++ [h],S.cs++ [(h,0)],S.cnt,S.clk+1⟩ S.cs h 0:=by
 refine ⟨aW b.ti,Z,b.k1,λw c=>?_,?_⟩
 .show BE S.idx h (S.clk+1) w≠0
  by_cases e:w=h
  .subst e;rw [LO];omega
  .rw [HH e];exact b.old w c
 .show BE S.idx h (S.clk+1) g≠0
  by_cases e:g=h
  .subst e;rw [LO];omega
  .rw [HH e];exact b.rt.resolve_right λi=>e (Option.some.inj i).symm
theorem oa (b:TH f a g S none) (j:S.cs=c++ [(h,k)]):TB f a g S c h k:=
 ⟨b.ti,j,λi l=>b.k1 i (by rw [j];exact jN _ l),b.old,b.rt.resolve_right λe=>nomatch e⟩
theorem VI (b:TB f a g S c h k):h<f/\h∈S.st/\S.idx h≠0/\k<=(a h).length:=by
 have i:(h,k)∈S.cs:=by rw [b.hcs];exact iy _ (η.2 Z)
 have l:=b.ti.csm _ i;have j:=((b.ti.st h).1 l).1;exact ⟨b.ti.lt h j,l,j,(b.ti.gry _ i).1⟩
theorem ob (b:TB f a g S c h k) (z:(a h)[k]? =some t) (o:t<f) (s:S.idx t=0):
  TH f a g {S with cs:=c++ [(h,k+1)]} (some t):=by
 refine ⟨VH b.ti b.hcs z o (low':=S.low) (λw=>Γ _) (λw u=>(b.ti.lw w u).2) (.inr Z) (λx e=>⟨(Option.some.inj e).symm,s⟩) (λy=>absurd s ((b.ti.st t).1 y).1),λi l=>?_,b.old,.inl b.rt⟩;rcases υ.1 l with l | l
 .exact b.k1 i l
 grind
theorem oc (b:TB f a g S c h k) (z:(a h)[k]? =some t) (s:t<f) (A:S.idx t≠0) (B:S.of t<0):
  TH f a g {S with low:=BE S.low h (min (S.low h) (S.idx t)),cs:=c++ [(h,k+1)]} none:=by
 have o:t∈S.st:=(b.ti.st t).2 ⟨A,B⟩;refine ⟨VH b.ti b.hcs z s (λw=>?_) (λw u=>?_) (.inl A) (λx e=>nomatch e) (λ_=>by rw [LO];omega),λi l=>?_,b.old,.inl b.rt⟩
 .grind [LO,HH]
 .by_cases e:w=h
  .subst e;rw [LO];rcases Nat.lt_or_ge (S.idx t) (S.low w) with C | C
   .exact ⟨t,o,by omega,Rh.one (ϑ z)⟩
   .obtain ⟨y,D,F,E⟩:=(b.ti.lw w u).2
    grind
  .rw [HH e];exact (b.ti.lw w u).2
 .rcases υ.1 l with l | l
  .exact b.k1 i l
  grind
theorem k6 (b:TB f a g S c h k) (z:(a h)[k]? =some t) (o:t<f) (A:S.idx t≠0) (u:¬S.of t<0):
  TH f a g {S with cs:=c++ [(h,k+1)]} none:=by
 refine ⟨VH b.ti b.hcs z o (low':=S.low) (λw=>Γ _) (λw s=>(b.ti.lw w s).2) (.inl A) (λx e=>nomatch e) (λy=>absurd ((b.ti.st t).1 y).2 u),λi l=>?_,b.old,.inl b.rt⟩;rcases υ.1 l with l | l
 .exact b.k1 i l
 grind
theorem sm (a b:Nat):(if (b:Int)>(a:Int) then (b:Int) else (a:Int))=((max a b:Nat):Int):=by split<;>omega
def ZR (f:Nat ->Nat) (a b k:Nat):Nat ->Nat:=λj=>if j<k then ED f a b j else f j
theorem dE (f:Nat ->Nat) (a b:Nat):ZR f a b 0=f:=by funext j;unfold ZR;rw [θ (by omega)]
theorem pu (f:Nat ->Nat) (a b k:Nat):ZR f a b k k=f k:=θ (by omega)
theorem l5 {a b:Nat} (h:i k=max (i a) (i b)):BE (ZR i a b k) k (min (i a) (i b))=ZR i a b (k+1):=by grind [LO,ZR,ED,HH]
theorem dF {a b:Nat} (h:¬i k=max (i a) (i b)):ZR i a b (k+1)=ZR i a b k:=by grind [ZR,ED]
theorem QC {n:Nat} {f h:Nat ->Nat} (e:∀j,j<n ->f j=h j):rowN n f=rowN n h:=by simp_all
abbrev HJ (n:Nat) (f:Nat ->Nat):Hp:=[(930,[.blk 28 [.own 931 0 n]]),(931,[.rowD 3 1 (rowN n f)])]
set_option maxRecDepth 100000 in
theorem X2 (n:Nat) (f:Nat ->Nat) (a b:Nat) (s:a<n) (o:b<n) (w:n<=100000):AO prog 67 [.d (AR a),.d (AR b),.ptr 930 0 0] (HJ n f) λr v=>r= .tup []/\v=HJ n (ED f a b):=by
 refine At func67 Z Z ntmps67 Z Z Z λF t=>(AC (CZ [[],[],[0,1],[0,1,2],[],[],[4,5],[4,5,6],rg 8,[],[],[9,10],[9,10,11],[],[],[13,14],[13,14,15],[9,10,11,12,13,14,15,16],rg 9,rg 19] mixed Z (CG (Au [2] Z Z (λ_=>Ae (AP Z Z Z BL Z)) (Av 0 Z Z (Au [8,9] Z Z (λ_=>Ae (DB (a) Z Z (Z) (s) Z ch BU Z)) (Au [10] Z Z (λ_=>Ae (EA Z Z (Na s) Z An Z)) (Au [2] Z Z (λ_=>Ae (AP Z Z Z BL Z)) ?_))))))));refine Av 1 Z Z (Au [12,13] Z Z (λ_=>Ae (DB (b) Z Z (Z) (o) Z ch BU Z)) (Au [14] Z Z (λ_=>Ae (EA Z Z (Na o) Z An Z)) (AU [11,15] Z (RD Z Z (sm _ _) Z) (Au [2] Z Z (λ_=>Ae (AP Z Z Z BL Z)) (Av 0 Z Z (Au [17,18] Z Z (λ_=>Ae (DB (a) Z Z (Z) (s) Z ch BU Z)) (Au [19] Z Z (λ_=>Ae (EA Z Z (Na s) Z An Z)) (Au [2] Z Z (λ_=>Ae (AP Z Z Z BL Z)) ?_))))))));refine Av 1 Z Z (Au [21,22] Z Z (λ_=>Ae (DB (b) Z Z (Z) (o) Z ch BU Z)) (Au [23] Z Z (λ_=>Ae (EA Z Z (Na o) Z An Z)) (AU [20,24] Z (RC Z Z (pT _ _) Z) (AU [16] Z (Iy Z Z) (CB 19 Z Z Z (Ad 20 Z Z (AB Z Z (AD ⟨Z,?_⟩))))))));refine CM (AC (AE (J (AP Z Z Z BL Z) (J (Qp Z ch Z) (fZ Z Z (AD (AZ ?_)))))));have u:rowN n f=rowN n (ZR f a b 0):=(by rw [dE]);unfold HJ;rw [u];refine BO (α:=Nat) (λk=>⟨42,[(2,(.ptr 930 0 0)),(5,(.d (AR (max (f a) (f b))))),(6,(.d (AR (min (f a) (f b))))),(27,(.d (AR n))),(28,(.d (AR k)))],[(930,[.blk 28 [.own 931 0 n]]),(931,[.rowD 3 1 (rowN n (ZR f a b k))])]⟩) (λk=>k<=n) (λk=>n - k) (0) (ζ _) (AY t [930,931] Z Z F0) ?_;rintro k x;refine AC (AE (J (BB Z Z Z) (AD (AC (A9 Z (λl=>?_) (λl=>?_))))))
 .refine AX (AC (AZ (AC ?_)));have c:k<n:=BR l;refine AE ?_;refine fZ Z Z (AB Z Z (AD (AC (AE (J (AP Z Z Z BL Z) (fZ Z Z (J (DB (k) Z Z (Z) (c) Z ch BU Z) (J (EA Z Z (Na c) Z An Z) ?_))))))));rw [pu];refine fZ Z Z (J (GF Z Z Z) (AD (A9 Z (λi=>?_) (λi=>?_))))
  .have g:f k=max (f a) (f b):=Int.ofNat.inj i;refine AE (J (AP Z Z Z BL Z) (fZ Z Z (fZ Z Z (J (DB (k) Z Z (Z) (c) Z ch BU Z) (V (Xx Z Z Z Z Z (by rw [Dm];exact c) Dl Z BU) ?_)))));rw [l5 g];refine AD (AE (J (Al Z Z (AM (k+1) (by omega)) Z) (fZ Z Z (AD ?_))));exact ⟨k+1,c,by omega,AY t [930,931] Z (Z) F0⟩
  .have g:¬f k=max (f a) (f b):=λe=>i (by rw [e]);refine AX (AE (J (Al Z Z (AM (k+1) (by omega)) Z) (fZ Z Z (AD ?_))));exact ⟨k+1,c,by omega,AY t [930,931] Z (by simp only [dF g];rfl) F0⟩
 .refine Aw ?_;exact ⟨_,[930,931],_,A2 Z,Z,Z,Z,by rw [QC (f:=ED f a b) (h:=ZR f a b k) λj y=>by unfold ZR;rw [ϱ (by have:=l;omega)]]⟩
end Go.Proofs.YteifpcnphnhaoaaGreat
