import Derived.Test.YteifpcnphnhaoaaGreatMg25
open Go.Proofs.Tryz
set_option maxHeartbeats 4000000
namespace Go.Proofs.YteifpcnphnhaoaaGreat
open Go.RowKit Go.Shelf
variable {g:List (List Nat)} {x:List Nat} {a:ee} {c:List D} {M:MF} {i:Nat} {f:List AM} {E:List (eR×Nat)} {h:D} {j k o s:Nat} {t u:Int} {w:List Int} {y z:Nat} {N:MF} {A:Nat}
set_option maxRecDepth 100000
def Je (g:List (List Nat)) (i j:Nat):Prop:=Rh (eW g) i j/\Rh (eW g) j i
theorem P8 (g:List (List Nat)) (i:Nat):Je g i i:=⟨.refl i,.refl i⟩
theorem YZ (h:Je g i s):Je g s i:=⟨h.2,h.1⟩
theorem NP (h:Je g i s) (a:Je g s A):Je g i A:=⟨h.1.trans a.1,a.2.trans h.2⟩
noncomputable def fh (g:List (List Nat)) (i:Nat):List Nat:=(List.range g.length).filter λj=>dec (Je g i j)
noncomputable def iH (g:List (List Nat)):List Nat:=(List.range g.length).filter λi=>dec (∀j,j<i ->¬Je g i j)
noncomputable def fD (g:List (List Nat)):List (List Nat):=fv ((iH g).map (fh g))
theorem Tl:s∈fh g i↔s<g.length/\Je g i s:=by
 unfold fh;rw [Γ,Θ,U0]
theorem Np:i∈iH g↔i<g.length/\∀j,j<i ->¬Je g i j:=by
 unfold iH;rw [Γ,Θ,U0]
theorem l7 (h:Je g i s):fh g i=fh g s:=by grind [fh,U0,NP,YZ]
theorem Tk (g:List (List Nat)) (i:Nat):(fh g i).Pairwise (· < ·):=List.Pairwise.sublist gE iz
theorem TM (g:List (List Nat)):(iH g).Pairwise (· < ·):=List.Pairwise.sublist gE iz
theorem RM (h:i∈iH g):fW (fh g i)=(i:Int):=by
 obtain ⟨k,j⟩:=Np.1 h;have b:i∈fh g i:=Tl.2 ⟨k,P8 g i⟩;have c:=Tk g i;unfold fW
 cases hc:fh g i with
 | nil=>rw [hc] at b;cases b
 | cons a t=>
  rw [hc] at b c;show ((a:Nat):Int)=_;have f:a∈fh g i:=by rw [hc];exact fu
  rcases fP.1 b with e | e
  .rw [e]
  .have:=List.rel_of_pairwise_cons c e;exact absurd (Tl.1 f).2 (j a this)
theorem kq (i:Nat) (a:i<g.length):∃k,k∈iH g/\Je g i k:=by
 induction i using Nat.strongRecOn with
 | ind i b=>
  by_cases h:∀j,j<i ->¬Je g i j
  .exact ⟨i,Np.2 ⟨a,h⟩,P8 g i⟩
  grind [NP]
theorem SY (c:GT g) {v:Nat} (b:v<g.length):FU (jK g) g.length (jK g v)=fh g v:=by
 have f:=d5 g c;unfold FU fh
 exact iD λw a=>by
  rw [Bool.eq_iff_iff,decide_eq_true_iff,U0];rw [eq_comm];exact f.scc v w b (Θ.1 a)
theorem Ji {l:List (List Nat)}:x∈fv l↔x∈l/\2<=x.length:=by
 unfold fv Gx;rw [Γ];simp
theorem Tg (b:GT g):x∈fR g↔∃i,i∈iH g/\x=fh g i:=by
 have f:=d5 g b;unfold fR co;rw [κ]
 constructor
 .rintro ⟨c,j,rfl⟩;obtain ⟨v,k,rfl⟩:=f.use c (Θ.1 j)
  grind [kq,SY,l7]
 .rintro ⟨i,h,rfl⟩;have a:=(Np.1 h).1;exact ⟨jK g i,Θ.2 (f.lt i a),SY b a⟩
theorem OJ (f:GT g):(fR g).Nodup:=by
 have h:=d5 g f;unfold fR co;rw [List.Nodup,fz];refine iv (R:=λa b=>a<b) (λ{a b} j k i e=>?_) iz;obtain ⟨v,c,rfl⟩:=h.use a (Θ.1 j);have l:v∈FU (jK g) g.length (jK g v):=by unfold FU;rw [Γ];exact ⟨Θ.2 c,by simp⟩
 grind [FU]
theorem Tp (a:GT g):x∈fD g↔x∈fv (fR g):=by grind [fD,Ji,Tg]
theorem Lc (g:List (List Nat)):(fD g).Pairwise λa b=>fW a<fW b:=by grind [fD,fv,iv,TM,RM]
theorem db {y:List Nat} (b:x∈fD g) (a:y∈fD g) (h:fW x=fW y):x=y:=by
 unfold fD at b a;obtain ⟨i,f,rfl⟩:=κ.1 (Ji.1 b).1;obtain ⟨j,c,rfl⟩:=κ.1 (Ji.1 a).1;rw [RM f,RM c] at h;rw [Int.ofNat_inj.1 h]
theorem Tq (f:GT g) (c:List (List Nat)) (i:c.Perm (fv (fR g))) (o:c.Pairwise λa b=>¬fW b - fW a<0):c=fD g:=by
 have j:c.Nodup:=i.nodup_iff.2 (List.Nodup.sublist gE (OJ f));have k:∀x,x∈c↔x∈fD g:=λx=>by rw [i.mem_iff,Tp f]
 refine mP (R:=λa b=>fW a<fW b) (λx h=>by omega) (λx y z h t=>by omega) ?_ (Lc g) k;refine iv (λ{a b} s r l=>?_) (List.Pairwise.and o j)
 grind [db]
theorem lk:Go.Sort.SWO (ltOf λa b:List Nat=>fW a - fW b):=by
 refine ⟨λx=>?_,λx y z h c=>?_,λx y z h c=>?_⟩
 all_goals (grind [ltOf])
theorem AJ.fnArgA {P:Program} {f g:FuncId} {x:AV} {H:Hp} {R:AV ->Hp ->Prop} (h:AJ P f [x,.d (.fn g [] [])] H R):AJ P f [x,.d (.raw (.func (.func g) #[] #[]))] H R:=
 ⟨h.1,λF r vs y w k u t o=>h.2 F r vs y w k u t λi a v j l=>by
  rcases i with _ | _ | i
  .exact o 0 _ v j l
  .have e:a= .d (.fn g [] []):=by simpa using j.symm
   subst e;have:=o 1 _ v Z l
   cases this with
   | d s=>
    cases s with
    | raw _=>exact .d (.fn (us:=[]) (vs:=[]) Z Z (λi c v b=>by simp at b) λi c v b=>by simp at b)
  .simp at j⟩
theorem GX.l {N:MF} (h:GX M z w):GX (fF M N) z w:=by
 obtain ⟨m,c,a⟩:=h;exact ⟨m,Hg c,Hg a⟩
theorem GX.r {l:List Int} (j:∀i m a,M i=some m ->N i=some a ->False) (h:GX N z l):GX (fF M N) z l:=by
 obtain ⟨m,g,f⟩:=h
 have c:∀{i a},N i=some a ->M i=none:=λ{i a} h=>by
  cases e:M i with
  | none=>rfl
  | some x=>exact (j i _ _ e h).elim
 exact ⟨m,Jf (c g) g,Jf (c f) f⟩
theorem GX.put {g:Nat} {o:A7} (h:GX N z w) (f:N g=none):GX (BJ N g o) z w:=by
 obtain ⟨m,c,a⟩:=h;exact ⟨m,by rw [Ft (λe=>by rw [e,f] at c;cases c)];exact c,by rw [Ft (λe=>by rw [e,f] at a;cases a)];exact a⟩
abbrev ub:FuncId:=79
def s9 (L G:List Int) (id:Int):Bool:=decide (id∈L) && !decide (id∈G)
theorem lj {j i g h:Nat} {L G:List Int} (b:N j=some (.cells 124 [O2 g])) (a:N i=some (.cells 124 [O2 h])) (k:GX N g L) (l:GX N h G) (id:Int):
  AJ prog ub [.d (AF id),.d (pD j 0),.d (pD i 0)] [(41,[.multi N])] λr o=>r= .d (Aa (s9 L G id))/\o=[(41,[.multi N])]:=by
 refine As func79 Z Z ntmps79 Z Z Z λF s=>(AC (AE ?_));refine AB Z Z (AD (AC (AE (J (D4 (f:=41) Z Z b Z S3 Z) (dd Z Z (V (UZ (Da k id) Z [41] ⟨Z,trivial⟩ Z Z Z Z Z Z Z Z Z) (dd Z Z (Ij 8 Z (λc=>?_) (λc=>?_)))))))));refine Ad Z Z Z (J (D4 (f:=41) Z Z a Z S3 Z) (Ad Z Z Z (dd Z Z (Ad Z Z Z (V (UZ (Da l id) Z [41] ⟨Z,trivial⟩ Z Z Z Z Z Z Z Z Z) (Ad Z Z Z (J (OX Z Z) (J (Ff Z Z Z Z) ?_))))))))
 rotate_left
 refine A9 Z Z Z Z (A9 Z Z Z Z (A9 Z Z Z Z (A9 Z Z Z Z (J (EA Z Z Z Z) ?_))))
 all_goals
  refine AB Z Z (AD (A4 ?_));exact ⟨_,[41],_,A3 Z,Z,Z,by {unfold s9;simp [c]},Z⟩
theorem pQ (h:E.length<=1000):GT (gv f E):=by
 have a:∀l∈gv f E,l.length<=1000/\∀x∈l,x<E.length:=λl a=>by
  obtain ⟨e,_,rfl⟩:=κ.1 a;exact ⟨fO (Vr _ _ _ _) h,nc⟩
 refine ⟨⟨by rw [Gn];omega,λl b=>by have:=(a l b).1;omega,λl b x g=>by rw [Gn];exact (a l b).2 x g⟩,?_⟩
 have c:∀i,i<=(gv f E).length ->Il (gv f E) i<=i*1000:=λi k=>by
  induction i with
  | zero=>exact υ _
  | succ i j=>
   grind [Ev,Il,gT]
 grind [Gn]
noncomputable def gi (p:ee):List (eR×Nat):=((eX p.it).filter λi=>s9 (eU p) (CL p) i.id).map λi=>(i,0)
theorem cz (p:ee):(gi p).map Prod.fst=(eX p.it).filter λi=>s9 (eU p) (CL p) i.id:=by unfold gi;rw [fS];exact List.map_id _
noncomputable def iS (rs:List AM) (E:List (eR×Nat)):List (List Int):=(fD (gv rs E)).map (Cc E)
theorem ll (h:x∈fD g):2<=x.length/\x.length<=g.length/\∀k∈x,k<g.length:=by
 obtain ⟨b,a⟩:=Ji.1 h
 grind [fh]
theorem da (g:List (List Nat)):(fD g).length<=g.length:=by grind [fD,cJ,iH]
theorem XE (a:GT g) (h:x∈fR g):x.length<=g.length/\∀k∈x,k<g.length:=by grind [Tg,fh]
theorem lZ (a:GT g):gx g<=g.length:=by
 obtain ⟨b,cnt,h⟩:=aV g.length (eW g);have:=(RG a.gb (V9 a h)).2.1;have:=h.le;omega
theorem Th:(fR g).length=gx g:=by unfold fR;rw [UN]
theorem sh {l:List Nat} (h:0<l.length) (a:∀k∈l,k<y):l.getD 0 0<y:=by simp_all
theorem d9 (a:GT g):(fD g).length=(fv (fR g)).length:=by
 have c:(fD g).Nodup:=by
  grind [List.Pairwise.imp,Lc]
 have b:(fv (fR g)).Nodup:=List.Nodup.sublist gE (OJ a);exact ((jT c b).2 λx=>Tp a).length_eq
theorem PO {b:List eY} {a:List eR}:∀(f:Nat) (c:Nat ->Bool) (x:Int),x∈Lr b a f c ->∃i,i<a.length/\c i=true/\x=(a.getD i eT).id
 | 0,_,_,h=>by cases h
 | f+1,c,x,h=>by
  cases hn:Hf b a c with
  | none=>rw [IJ hn] at h;cases h
  | some i=>
   rw [II hn] at h;obtain ⟨r,k,_⟩:=NN hn;rcases fP.1 h with e | h
   .exact ⟨i,r,k,e⟩
   .obtain ⟨j,o,g,l⟩:=PO f _ x h;refine ⟨j,o,?_,l⟩;unfold Ah at g
    by_cases e:j=i
    .rw [e];exact k
    .simpa [e] using g
theorem Mm {b:List eY} {a:List eR} (g:(a.map eR.id).Nodup):∀(f:Nat) (k:Nat ->Bool),(Lr b a f k).Nodup
 | 0,_=>List.nodup_nil
 | f+1,k=>by
  cases hn:Hf b a k with
  | none=>rw [IJ hn];exact List.nodup_nil
  | some i=>
   rw [II hn];obtain ⟨t,u,_⟩:=NN hn;refine i5.2 ⟨λh=>?_,Mm g f _⟩;obtain ⟨j,s,r,o⟩:=PO f _ _ h;have l:j≠i:=λe=>by subst e;unfold Ah at r;simp at r
   rw [Ψ,Ψ,ω t,ω s] at o;have e:(a.map eR.id)[i]'(by simpa using t)=(a.map eR.id)[j]'(by simpa using s):=by rw [ft,ft];exact o
   rw [List.Nodup,gc] at g;rcases Nat.lt_trichotomy i j with c | c | c
   .exact g i j _ _ c e
   .exact l c.symm
   .exact g j i _ _ c e.symm
theorem TG (b:A6 a=0):(CL a).Nodup:=Mm (DW b) _ _
theorem Pj (b:CG a):(CL a).length<=30:=by
 have h:=SG (ros:=CD a) (its:=ea a) (ea a).length λ_=>true;have c:=DX a;have:=b.i;unfold CL;omega
theorem ZB (p:ee) (B:CG p) (v:A6 p=0):AK prog 30 [.d (Bf p)] (.tup [Qc (iS (er p) (gi p)),AF 0]):=by
 have hi30:=B.i;have hlk:=Gf p B v;have hgk:=TF p B v;have hO:ea p=eX p.it:=ϱ v;have hll:=IS v;have hgn:(CL p).Nodup:=TG v;have hgl:(CL p).length<=30:=Pj B;refine As func30 Z Z ntmps30 Z Z Z λF Y=>?_;refine AC (AE (V (Bz 1 Z Z Z Z Z Z Z) (AB Z Z (AB Z Z (AD (AC (AE (J (BE Z Z BM Z Z Z) ?_))))))));refine J (BT (hlk) Z Z) (dd Z Z (J (C6 Z Z Z) (J (C6 Z Z Z) (AB Z Z (AB Z Z (AD (AC (AC ?_))))))));refine AE (dd Z Z (J (D7 Z Z Z) (AD (D3 Z (fb (by decide)) (AZ (AC (AE (J (BE Z Z BM Z Z Z) ?_))))))));refine J (BT (hgk) Z Z) (dd Z Z (J (C6 Z Z Z) (J (C6 Z Z Z) (AB Z Z (AB Z Z (AD (AC (AC ?_))))))));refine AE (dd Z Z (J (D7 Z Z Z) (AD (D3 Z (fb (by decide)) (AZ (AC (AE (dd Z Z ?_))))))));refine RX (UY (Fv (eU p) (qW v) (by omega)) Z [41] ⟨Z,trivial⟩ Z Z Z Z (λr z ⟨b,N,i,h,_⟩=>by subst i h;exact ⟨Z,Z,Z⟩) Z) Z ?_;rintro _ ⟨r,z,⟨bl,N1,i,h,hWl⟩,rfl⟩;subst i h;refine dd Z Z ?_;refine RX (UY ((Fv (CL p) hgn (by omega)).byX [(41,42)] Z) Z [42] ⟨Z,trivial⟩ Z Z Z Z (λr z ⟨r0,H0,⟨b,N,i,h,_⟩,e3,e4⟩=>by subst e3 e4 i h;exact ⟨Z,Z,Z⟩) Z) Z ?_;rintro _ ⟨r,z,⟨r0,H0,⟨bg,N2,i,h,hWg⟩,e3,e4⟩,rfl⟩;subst e3 e4 i h;refine V (Bn 7 Z3 Z Z Z Z) (V (Bn 8 Z3 Z Z Z Z) (V (B1 Z Z Z Z Z Z Z Zq) (V (B1 Z Z Z Z Z Z Z Zq) (AD (AC (mC 42 41 Z Z Z Z Z Z Z Z Z λhdj=>?_))))));have Q:=hWl.l (N:=N2);have U:=GX.r hdj hWg;refine XX (ds:=[O2 bl]) 7 7 41 Y Z Z Z Z Z Z Z Z Z Z Z (λ_=>rfl) λb7 L=>?_;have P:=Q.put (o:= .cells 124 [O2 bl]) L;have S:=U.put (o:= .cells 124 [O2 bl]) L;refine XX (ds:=[O2 bg]) 8 8 41 Y Z Z Z Z Z Z Z Z Z Z Z (λ_=>rfl) λb8 s=>?_;have O:=P.put (o:= .cells 124 [O2 bg]) s;have R:=S.put (o:= .cells 124 [O2 bg]) s;have hq7:=EB (BJ (fF N1 N2) b7 (.cells 124 [O2 bl])) b8 (.cells 124 [O2 bg]);refine AE (J (BE Z Z BM Z Z Z) (J (RW (ds:=[]) (es:=[pD b7 0,pD b8 0]) Z Z Z Z Z) ?_));refine RX (UY (LH p v B ub [pD b7 0,pD b8 0] _ (s9 (eU p) (CL p)) (lj (by rw [Ft (λe=>by rw [<-e,EB] at s;cases s)];exact EB _ _ _) hq7 O R)) Z [41,40] ⟨Z,Z,trivial⟩ Z Z Z Z (λr z ⟨E,M,i,h,_⟩=>by subst i h;exact ⟨Z,Z,Z⟩) Z) Z ?_;rintro _ ⟨r,z,⟨E,M,i,h,hR,u⟩,rfl⟩;subst i h;refine AB Z Z (AD (AC ?_));have W:E.map Prod.fst=(gi p).map Prod.fst:=by rw [u,hO,cz]
 have K:=Yl (rs:=er p) (E:=E) (E':=gi p) W;have hn30:E.length<=30:=by have C:(E.map Prod.fst).length<=(eX p.it).length:=(by rw [u,hO];exact gM _ _);rw [ψ,jO] at C;omega
 have haf:∀e∈E,e.1.af.length<=100000:=λe he=>by have C:e.1∈E.map Prod.fst:=ie he;rw [u,hO] at C;have:=(B.x _ ((I9 p.it).mem_iff.1 (Γ.1 C).1)).2.2;omega
 have f:GT (gv (er p) E):=pQ (by omega)
 obtain ⟨g,t⟩:∃g,gv (er p) E=g:=⟨_,Z⟩
 have hgl2:g.length=E.length:=by rw [<-t,Gn]
 have G:=ko E hR (by omega) haf;rw [t] at f G;refine AE (dd Z Z (V (EX G Z [40] ⟨Z,trivial⟩ Z Z Z Z Z Z Z Z Z) ?_));refine RX (UY (RH g f) Z [10] ⟨Z,trivial⟩ Z Z Z Z (λr z ⟨i,h⟩=>by subst i h;exact ⟨Z,Z,Z⟩) Z) Z ?_;rintro _ ⟨r,z,⟨i,h⟩,rfl⟩;subst i h;refine dd Z Z (J (Cf Z Z Z) (J (Cf Z Z Z) (AB Z Z (AB Z Z (AD ?_)))));refine AC (AC (AE (dd Z Z (J (D7 Z Z Z) (AD (D3 Z (fb (by decide)) (AZ (AC ?_))))))));have hcl:gx g=(fR g).length:=Th.symm;have hca:∀c∈fR g,c.length<=100000:=λc hc=>by have:=(XE f hc).1;omega
 have hcn30:(fR g).length<=30:=by rw [Th];have:=lZ f;omega
 rw [hcl]
 obtain ⟨D,hjk⟩:∃D,(List.replicate ((fR g).length - (fv (fR g)).length) none).map eO=D:=⟨_,Z⟩
 have H:=(pz (fR g) (by omega) hca).fnArgA;rw [hjk] at H;have j:∀x∈fv (fR g),0<x.length/\x.getD 0 0<=100000:=λx A=>by have C:=Ji.1 A;have h2:=(XE f C.1).2;have h3:=sh (by omega) h2;exact ⟨by omega,by omega⟩
 refine AE (dd Z Z (V (EX H Z [10] ⟨Z,trivial⟩ Z Z Z Z Z Z Z Z Z) (AB Z Z (AD (AC (AE ?_))))));refine dd Z Z (V (Zz oj func84 Z Z (λ_=>rfl) (λa b=>fW a - fW b) lk (fv (fR g)) (fD g) D (by have:=cJ (fR g);omega) (λx A y hy=>li x y (j x A).1 (j y hy).1 (j x A).2 (j y hy).2) (λys g1 g2=>Tq f ys g1 g2) Z Z Z LF Z Z Z Z Z) (AD (AC (AE (AB Z Z (AD (AC (AC ?_))))))));have I:(fv (fR g)).length=(fD g).length:=(d9 f).symm;rw [I];have hc30:(fD g).length<=30:=by have:=da g;omega
 refine AE (dd Z Z (J (QD Z No Z) (dd Z Z (AD (A0 (Ou 11 11 SE Z Z Z Z (BX (α:=Nat×List (List Int)) (λq=>⟨64,[(9,(.d (.sl none (E.map C4)))),(11,(.own 11 0 q.2.length)),(50,(.own 10 0 (fD g).length)),(51,(.d (AF ((fD g).length:Int)))),(52,(.d (AF (q.1:Int))))],[(11,[.rowD 28 1 (q.2.map JL)]),(10,[.rowD 28 1 ((fD g).map en++D)])]⟩) (λq=>q.1<=(fD g).length/\q.2=((fD g).take q.1).map (Cc E)) (λq=>(fD g).length - q.1) ((0,[])) (⟨υ _,Z⟩) (AY Y [11,10] Z Z ⟨Z,Z,Z,Z,Z,trivial⟩) ?_)))))));rintro ⟨k,T⟩ ⟨hk,X⟩;dsimp only at hk X⊢;refine AC (AE (J (BN Z Z Z) (AD (AC (Ac Z (λw=>?_) (λw=>?_))))))
 .refine AZ (AC (A0 (AC ?_)));have l:k<(fD g).length:=Ba w;obtain ⟨hx2,hxl,hxm⟩:=ll (ξ l);have hTl:T.length<=30:=by rw [X,ψ,Ξ];omega
  refine AE (J (Ce (k) Z Z (Z) (l) Z No CZ Z) (J (D1 Z Z ((show ((fD g).map en++D)[k]? =some (en (fD g)[k]) from by rw [m5 (by rw [ψ];exact l)];exact Ab l)) Z BG Z) ?_));refine AB Z Z (AD (AE (dd Z Z (dd Z Z (dd Z Z ?_)))));refine J (BT (sc E (fD g)[k] (λx A=>by have:=hxm x A;omega) (by omega)) Z Z) (V (D6 30 SE Z Z Z Z Z Z Z Z) (V (H1 (T) ([Cc E (fD g)[k]]) Z Z Z Z Z Z Z Z SE (by simp only [Φ];omega) Z Z Z Z) (AB Z Z (AD (AE (J (Ar Z Z (AO (k+1) (by omega)) Z) (dd Z Z (AD ?_))))))));exact ⟨(k+1,T++ [Cc E (fD g)[k]]),⟨l,by show _=((fD g).take (k+1)).map _;rw [χ l,fU,X];rfl⟩,by show (fD g).length - (k+1)<(fD g).length - k;omega,AY Y [11,10] Z (Z) ⟨Z,Z,Z,Z,Z,trivial⟩⟩
 .refine BC (AC ?_);have hke:k=(fD g).length:=by have:=w;omega
  refine Ls (emb:=JL) 11 11 T Z Z Z Z Z Z Z ?_;rw [show T=iS (er p) (gi p) by rw [X,hke,fw,<-t];unfold iS;rw [K.1,K.2.1]];refine AE (dd Z Z (AB Z Z (AB Z Z (AD (A4 ?_)))));exact ⟨_,[],[],A3 Z,Z,Z,Z,Z⟩
abbrev Mu (p:ee):List D:=[.sl none (p.ro.map Bt),.sl none (p.it.map Af)]
theorem dp (s:M o=some (.cells 39 (Mu a))) (l:M k=some (.cells 32 c)) (A:c.length=5) (i:M j=some (.cells 33 [AF u])) (w:j≠k) (y:h.one=true) (z:AK prog 39 [.d (Bf a)] (.tup [h,AF t])):
  AJ prog 41 [.d (pD o 0),.d (pD k 0),.d (pD j 0)] [(41,[.multi M])] λr B=>r= .tup []/\B=[(41,[.multi (BJ (BJ M k (.cells 32 (c.set 0 h))) j (.cells 33 [AF t]))])]:=by
 refine As func41 Z Z ntmps41 Z Z Z λF C=>(AE ?_);refine J (DE (f:=41) (n:=2) Z Z s BM Z Z (λb g=>by rcases fP.1 g with rfl | g;rfl;rcases fP.1 g with rfl | g;rfl;cases g) Z) (J (BT (z) Z Z) (dd Z Z (J (C6 Z Z Z) (J (C6 Z Z Z) (J (CM Z gX Z Z Z) (V (Or (f:=41) (off:=0) Z Z y Z l (by omega) Z CZ) (V (Or (f:=41) (off:=0) Z Z Z Z (by rw [Ft w];exact i) (by simp) Z Zl) (AD ?_))))))));exact ⟨_,[41],_,A3 Z,Z,Z,Z,Z⟩
theorem qQ (s:M o=some (.cells 39 (Mu a))) (l:M k=some (.cells 32 c)) (A:c.length=5) (i:M j=some (.cells 33 [AF u])) (w:j≠k) (y:h.one=true) (z:AK prog 43 [.d (Bf a)] (.tup [h,AF t])):
  AJ prog 42 [.d (pD o 0),.d (pD k 0),.d (pD j 0)] [(41,[.multi M])] λr B=>r= .tup []/\B=[(41,[.multi (BJ (BJ M k (.cells 32 (c.set 1 h))) j (.cells 33 [AF t]))])]:=by
 refine As func42 Z Z ntmps42 Z Z Z λF C=>(AE ?_);refine J (DE (f:=41) (n:=2) Z Z s BM Z Z (λb g=>by rcases fP.1 g with rfl | g;rfl;rcases fP.1 g with rfl | g;rfl;cases g) Z) (J (BT (z) Z Z) (dd Z Z (J (C6 Z Z Z) (J (C6 Z Z Z) (J (CM Z jF Z Z Z) (V (Or (f:=41) (off:=1) Z Z y Z l (by omega) Z CZ) (V (Or (f:=41) (off:=0) Z Z Z Z (by rw [Ft w];exact i) (by simp) Z Zl) (AD ?_))))))));exact ⟨_,[41],_,A3 Z,Z,Z,Z,Z⟩
theorem qP {z:D} (w:M o=some (.cells 39 (Mu a))) (g:M k=some (.cells 32 c)) (C:c.length=5) (l:c[0]? =some z) (s:M j=some (.cells 33 [AF u])) (y:j≠k) (A:h.one=true) (B:AK prog 23 [.d (Bf a),.d z] (.tup [h,AF t])):
  AJ prog 44 [.d (pD o 0),.d (pD k 0),.d (pD j 0)] [(41,[.multi M])] λr E=>r= .tup []/\E=[(41,[.multi (BJ (BJ M k (.cells 32 (c.set 2 h))) j (.cells 33 [AF t]))])]:=by
 refine As func44 Z Z ntmps44 Z Z Z λF G=>(AE (J (DE (f:=41) (n:=2) Z Z w BM Z Z (λb i=>by rcases fP.1 i with rfl | i;rfl;rcases fP.1 i with rfl | i;rfl;cases i) Z) (J (CM Z gX Z Z Z) ?_)));refine J (D4 (f:=41) Z Z g l BG Z) (J (BT (B) Z Z) (dd Z Z (J (C6 Z Z Z) (J (C6 Z Z Z) (J (CM Z Nw Z Z Z) (V (Or (f:=41) (off:=2) Z Z A Z g (by omega) Z rK) (V (Or (f:=41) (off:=0) Z Z Z Z (by rw [Ft y];exact s) (by simp) Z Zl) (AD ?_))))))));exact ⟨_,[41],_,A3 Z,Z,Z,Z,Z⟩
theorem qO (s:M o=some (.cells 39 (Mu a))) (l:M k=some (.cells 32 c)) (A:c.length=5) (i:M j=some (.cells 33 [AF u])) (w:j≠k) (y:h.one=true) (z:AK prog 30 [.d (Bf a)] (.tup [h,AF t])):
  AJ prog 45 [.d (pD o 0),.d (pD k 0),.d (pD j 0)] [(41,[.multi M])] λr B=>r= .tup []/\B=[(41,[.multi (BJ (BJ M k (.cells 32 (c.set 3 h))) j (.cells 33 [AF t]))])]:=by
 refine As func45 Z Z ntmps45 Z Z Z λF C=>(AE ?_);refine J (DE (f:=41) (n:=2) Z Z s BM Z Z (λb g=>by rcases fP.1 g with rfl | g;rfl;rcases fP.1 g with rfl | g;rfl;cases g) Z) (J (BT (z) Z Z) (dd Z Z (J (C6 Z Z Z) (J (C6 Z Z Z) (J (CM Z jE Z Z Z) (V (Or (f:=41) (off:=3) Z Z y Z l (by omega) Z rK) (V (Or (f:=41) (off:=0) Z Z Z Z (by rw [Ft w];exact i) (by simp) Z Zl) (AD ?_))))))));exact ⟨_,[41],_,A3 Z,Z,Z,Z,Z⟩
theorem qN (s:M o=some (.cells 39 (Mu a))) (l:M k=some (.cells 32 c)) (A:c.length=5) (i:M j=some (.cells 33 [AF u])) (w:j≠k) (y:h.one=true) (z:AK prog 31 [.d (Bf a)] (.tup [h,AF t])):
  AJ prog 46 [.d (pD o 0),.d (pD k 0),.d (pD j 0)] [(41,[.multi M])] λr B=>r= .tup []/\B=[(41,[.multi (BJ (BJ M k (.cells 32 (c.set 4 h))) j (.cells 33 [AF t]))])]:=by
 refine As func46 Z Z ntmps46 Z Z Z λF C=>(AE ?_);refine J (DE (f:=41) (n:=2) Z Z s BM Z Z (λb g=>by rcases fP.1 g with rfl | g;rfl;rcases fP.1 g with rfl | g;rfl;cases g) Z) (J (BT (z) Z Z) (dd Z Z (J (C6 Z Z Z) (J (C6 Z Z Z) (J (CM Z gw Z Z Z) (V (Or (f:=41) (off:=4) Z Z y Z l (by omega) Z tR) (V (Or (f:=41) (off:=0) Z Z Z Z (by rw [Ft w];exact i) (by simp) Z Zl) (AD ?_))))))));exact ⟨_,[41],_,A3 Z,Z,Z,Z,Z⟩
abbrev Bg:D:= .sl (some true) []
def qS:List FuncId:=[41,42,44,45,46]
def u6 (b1 b4 b5:Nat) (g:FuncId):D:= .fn g [] [pD b1 0,pD b4 0,pD b5 0]
noncomputable def iO (p:ee):List D:=[JL (eU p),JL (CL p),Qc (ey (er p) (ek p (eU p))),Qc (iS (er p) (gi p)),.sl none ((iT p).map nT)]
noncomputable def iP (p:ee) (k:Nat):List D:=(iO p).take k++List.replicate (5 - k) Bg
theorem uP (i:CG a) (h:A6 a=0) (v:A<qS.length) (f:M o=some (.cells 39 (Mu a))) (c:M k=some (.cells 32 (iP a A))) (b:M j=some (.cells 33 [AF 0])) (g:j≠k):
  AJ prog qS[A] [.d (pD o 0),.d (pD k 0),.d (pD j 0)] [(41,[.multi M])] λr w=>r= .tup []/\w=[(41,[.multi (BJ (BJ M k (.cells 32 (iP a (A+1)))) j (.cells 33 [AF 0]))])]:=by
 have s:∀x∈eU a,x∈a.it.map eR.id:=λx t=>mG h t;have l:=qW h;have u:=IS h;have y:=i.i
 match A,v with
 | 0,_=>exact dp f c Z b g Z (Gf a i h)
 | 1,_=>exact qQ f c Z b g Z (TF a i h)
 | 2,_=>exact qP f c Z Z b g Z (dY a (eU a) i (by omega) (KN h l s) h l)
 | 3,_=>exact qO f c Z b g Z (ZB a i h)
 | 4,_=>exact qN f c Z b g Z (ZG a i h)
theorem RQ (p:ee) (C:CG p) (B:A6 p≠0):AK prog 12 [.d (Bf p)] (.tup [.agg [Bg,Bg,Bg,Bg,Bg],AF (A6 p)]):=by
 refine As func12 Z Z ntmps12 Z Z Z λF u=>(AC (AE ?_));refine V (Bz 1 Z Z Z Z Z Z Z) (V (Bn 2 Ra Z Z Z Z) (AB Z Z (AD (AC (AE (V (Bn 4 Ra Z Z Z Z) (AD (AC ?_))))))));refine AE (V (Bn 5 qt Z Z Z Z) (AD (AC (AC (Fc 41 Z Z Z (XX (ds:=Mu p) 1 1 41 u Z Z Z Z Z Z Z Z Z Z Z (λ_=>rfl) λg D=>(XX (ds:=[Bg,Bg,Bg,Bg,Bg]) 4 4 41 u Z Z Z Z Z Z Z Z Z Z Z (λ_=>rfl) λb l=>(XX (ds:=[AF 0]) 5 5 41 u Z Z Z Z Z Z Z Z Z Z Z (λ_=>rfl) λa c=>?_))))))));have t:b≠g:=λe=>by rw [e,EB] at l;cases l
 have s:a≠b:=λe=>by rw [e,EB] at c;cases c
 have x:a≠g:=λe=>by rw [e,Ft (Ne.symm t),EB] at c;cases c
 refine AE (J (RW (ds:=[]) (es:=[pD g 0,pD b 0,pD a 0]) Z Z Z Z Z) (J (RW (ds:=[]) (es:=[pD g 0,pD b 0,pD a 0]) Z Z Z Z Z) ?_));refine J (RW (ds:=[]) (es:=[pD g 0,pD b 0,pD a 0]) Z Z Z Z Z) (J (RW (ds:=[]) (es:=[pD g 0,pD b 0,pD a 0]) Z Z Z Z Z) (J (RW (ds:=[]) (es:=[pD g 0,pD b 0,pD a 0]) Z Z Z Z Z) (V (D6 20 rT Z Z Z Z Z Z Z Z) (J (QD Z underlying94 Z) (dd Z Z (AD (A0 (BX (α:=Nat×MF) (λq=>⟨27,[(2,(.ptr 2 0 0)),(4,(.d (pD b 0))),(5,(.d (pD a 0))),(13,(.own 20 0 5)),(14,(.d (AF 5))),(15,(.d (AF (q.1:Int))))],[(20,[.rowD 1 1 (qS.map (u6 g b a))]),(2,[.blk 32 [.d Bg,.d Bg,.d Bg,.d Bg,.d Bg]]),(41,[.multi q.2])]⟩) (λq=>q.1=0/\q.2 g=some (.cells 39 (Mu p))/\q.2 b=some (.cells 32 [Bg,Bg,Bg,Bg,Bg])/\q.2 a=some (.cells 33 [AF 0])) (λq=>5 - q.1) ((0,_)) (⟨Z,by show BJ _ _ _ _=_;rw [Ft (Ne.symm x),Ft (Ne.symm t)];exact EB _ _ _,by show BJ _ _ _ _=_;rw [Ft (Ne.symm s)];exact EB _ _ _,EB _ _ _⟩) (AY u [20,2,41] Z Z ⟨Z,Z,Z,Z,Z,Z,trivial⟩) ?_))))))));rintro ⟨k,M⟩ ⟨A,j,i,h⟩;dsimp only at A j i h⊢;subst A;refine AC ?_;refine AE (J (BN Z Z Z) (AD (AC (DO Z (Z) (AZ (AC (A0 (AC ?_))))))));have v:0<qS.length:=by decide
 have o:BJ (BJ M b (.cells 32 ([Bg,Bg,Bg,Bg,Bg].set 0 Bg))) a (.cells 33 [AF (A6 p)]) a=some (.cells 33 [AF (A6 p)]):=EB _ _ _;have w:AJ prog qS[0] _ _ _:=dp j i Z h s Z (Sq p C B);refine AE (J (Ce (0) Z Z (Z) (by decide) Z underlying94 uY Z) (J (D1 Z Z (Ab v) Z uZ Z) (AB Z Z (AD (AC (AE (dd Z Z ?_)))))));refine RX (PL w Z [41] ⟨Z,trivial⟩ Z Z Z Z (λr E ⟨z,y⟩=>by subst z y;exact ⟨Z,Z,Z⟩) Z) Z ?_;rintro _ ⟨r,E,⟨z,y⟩,rfl⟩;subst z y;refine AD (AC (AE (J (D4 (f:=41) Z Z o Z oW Z) (J (D7 Z Z Z) (AD (DO Z (Υ B) (AC ?_)))))));refine DB [[],[],[0],[0,1,2]] mixed Z (DP (AQ [] Z (Fe Ra tp Z Z Z) (CK [5] [41] Z Z (λ_=>A5 (D4 (f:=41) Z Z o Z oW Z)) (Fp [2,23] [2] [] Z Z (λ_=>Fs (B1 Z Z Z Z Z Z Z Zm)) (.inl ⟨Z,Z⟩) Z Z Z Z Z (Cg 3 Z Z Z (Ag 4 Z Z (AB Z Z (AD ⟨Z,?_⟩))))))));refine Cr (A4 ?_);exact ⟨_,[],_,A3 Z,Z,Z,Z,Z⟩
theorem OT (p:ee) (I:CG p) (N:A6 p=0):AK prog 12 [.d (Bf p)] (.tup [.agg (iO p),AF 0]):=by
 refine As func12 Z Z ntmps12 Z Z Z λF y=>(AC (AE ?_));refine V (Bz 1 Z Z Z Z Z Z Z) (V (Bn 2 Ra Z Z Z Z) (AB Z Z (AD (AC (AE (V (Bn 4 Ra Z Z Z Z) (AD (AC ?_))))))));refine AE (V (Bn 5 qt Z Z Z Z) (AD (AC (AC (Fc 41 Z Z Z (XX (ds:=Mu p) 1 1 41 y Z Z Z Z Z Z Z Z Z Z Z (λ_=>rfl) λg L=>(XX (ds:=[Bg,Bg,Bg,Bg,Bg]) 4 4 41 y Z Z Z Z Z Z Z Z Z Z Z (λ_=>rfl) λb w=>(XX (ds:=[AF 0]) 5 5 41 y Z Z Z Z Z Z Z Z Z Z Z (λ_=>rfl) λa h=>?_))))))));have o:b≠g:=λe=>by rw [e,EB] at w;cases w
 have l:a≠b:=λe=>by rw [e,EB] at h;cases h
 have z:a≠g:=λe=>by rw [e,Ft (Ne.symm o),EB] at h;cases h
 refine AE (J (RW (ds:=[]) (es:=[pD g 0,pD b 0,pD a 0]) Z Z Z Z Z) (J (RW (ds:=[]) (es:=[pD g 0,pD b 0,pD a 0]) Z Z Z Z Z) ?_));refine J (RW (ds:=[]) (es:=[pD g 0,pD b 0,pD a 0]) Z Z Z Z Z) (J (RW (ds:=[]) (es:=[pD g 0,pD b 0,pD a 0]) Z Z Z Z Z) (J (RW (ds:=[]) (es:=[pD g 0,pD b 0,pD a 0]) Z Z Z Z Z) (V (D6 20 rT Z Z Z Z Z Z Z Z) (J (QD Z underlying94 Z) (dd Z Z (AD (A0 (BX (α:=Nat×MF) (λq=>⟨27,[(2,(.ptr 2 0 0)),(4,(.d (pD b 0))),(5,(.d (pD a 0))),(13,(.own 20 0 5)),(14,(.d (AF 5))),(15,(.d (AF (q.1:Int))))],[(20,[.rowD 1 1 (qS.map (u6 g b a))]),(2,[.blk 32 [.d Bg,.d Bg,.d Bg,.d Bg,.d Bg]]),(41,[.multi q.2])]⟩) (λq=>q.1<=5/\q.2 g=some (.cells 39 (Mu p))/\q.2 b=some (.cells 32 (iP p q.1))/\q.2 a=some (.cells 33 [AF 0])) (λq=>5 - q.1) ((0,_)) (⟨υ _,by show BJ _ _ _ _=_;rw [Ft (Ne.symm z),Ft (Ne.symm o)];exact EB _ _ _,by show BJ _ _ _ _=_;rw [Ft (Ne.symm l)];exact EB _ _ _,EB _ _ _⟩) (AY y [20,2,41] Z Z ⟨Z,Z,Z,Z,Z,Z,trivial⟩) ?_))))))));rintro ⟨k,M⟩ ⟨H,j,i,v⟩;dsimp only at H j i v⊢;refine AC (AE (J (BN Z Z Z) (AD (AC (Ac Z (λs=>?_) (λs=>?_))))))
 .refine AZ (AC (A0 (AC ?_)));have t:k<5:=Ba s;have u:k<qS.length:=t;have C:BJ (BJ M b (.cells 32 (iP p (k+1)))) a (.cells 33 [AF 0]) g=some (.cells 39 (Mu p)):=by rw [Ft (Ne.symm z),Ft (Ne.symm o)];exact j
  have B:BJ (BJ M b (.cells 32 (iP p (k+1)))) a (.cells 33 [AF 0]) b=some (.cells 32 (iP p (k+1))):=by rw [Ft (Ne.symm l)];exact EB _ _ _
  have x:BJ (BJ M b (.cells 32 (iP p (k+1)))) a (.cells 33 [AF 0]) a=some (.cells 33 [AF 0]):=EB _ _ _;refine AE (J (Ce (k) Z Z (Z) (t) Z underlying94 uY Z) (J (D1 Z Z (Ab u) Z uZ Z) (AB Z Z (AD (AC (AE (dd Z Z ?_)))))));refine RX (PL (uP I N u j i v l) Z [41] ⟨Z,trivial⟩ Z Z Z Z (λr O ⟨G,E⟩=>by subst G E;exact ⟨Z,Z,Z⟩) Z) Z ?_;rintro _ ⟨r,O,⟨G,E⟩,rfl⟩;subst G E;refine AD (AC (AE ?_));refine J (D4 (f:=41) Z Z x Z oW Z) (J (D7 Z Z Z) (AD (D3 Z (fb (by decide)) (AZ (AE (J (Ar Z Z (AO (k+1) (by omega)) Z) (dd Z Z (AD ?_))))))));exact ⟨(k+1,_),⟨by show k+1<=5;omega,C,B,x⟩,by show 5 - (k+1)<5 - k;omega,AY y [20,2,41] Z (Z) ⟨Z,Z,Z,Z,Z,Z,trivial⟩⟩
 .refine BC (AC ?_);have A:k=5:=by have:=s;omega
  subst A;refine AE (J (DE (f:=41) (n:=5) Z Z i ta Z Z (λc K=>by have D:c∈iO p:=K;unfold iO at D;simp only [fP,List.not_mem_nil,or_false] at D;rcases D with rfl | rfl | rfl | rfl | rfl<;>rfl) Z) (V (B1 Z Z Z Z Z Z Z Zm) (AB Z Z (AD (A4 ?_)))));exact ⟨_,[],_,A3 Z,Z,Z,Z,Z⟩
theorem Tj {C:Nat ->Nat ->Prop} (b:0<y) (h:∀i j,i<y ->j<y ->C i j):fg y C=[List.range y]:=by
 unfold fg
 have o:((List.range y).filter λk=>dec (∀j,j<k ->¬C k j))=[0]:=by
  obtain ⟨m,rfl⟩:∃m,y=m+1:=⟨y - 1,by omega⟩
  rw [List.range_succ_eq_map,hG,ϱ (T5 λj a=>absurd a (Nat.not_lt_zero j)),List.filter_map]
  have l:(List.range m).filter ((λk=>dec (∀j,j<k ->¬C k j))∘Nat.succ)=[]:=List.filter_eq_nil_iff.2 λk f=>by
   have c:=Θ.1 f;show ¬dec (∀j,j<k+1 ->¬C (k+1) j)=true;rw [U0];exact λg=>g 0 (Nat.succ_pos k) (h _ _ (by omega) (by omega))
  rw [l];rfl
 rw [o,List.map_singleton,List.filter_eq_self.2 λj a=>T5 (h 0 j b (Θ.1 a))]
theorem dc (g:List (List Nat)):fD g=fv (fg g.length (Je g)):=rfl
theorem kp:s∈eW (gv f E) i↔i<E.length/\s<E.length/\ZQ f (Cw E i) (Cw E s):=by grind [gv,iA,CX,eW]
theorem SL {f:Nat ->List Nat} {nx:Nat ->Nat} (h:∀i,i<y ->nx i∈f i) {P:Nat ->Nat} (w:∀i,i<y ->P i<y) (o:∀m,m<y ->nx (P m)=P ((m+1) % y)) (c:∀i,i<y ->∃m,m<y/\P m=i):∀i j,i<y ->j<y ->Rh f i j:=by
 have step:∀d m,m<y ->Rh f (P m) (P ((m+d) % y)):=λd m r=>by
  induction d with
  | zero=>rw [gg,Nat.mod_eq_of_lt r];exact .refl _
  | succ d l=>
   have g:=Nat.mod_lt (m+d) (by omega:y>0);have k:=h _ (w _ g);rw [o _ g,Nat.mod_add_mod] at k;exact .step l k
 intro i j t s;obtain ⟨a,v,rfl⟩:=c i t;obtain ⟨b,u,rfl⟩:=c j s;have:=step (b+y - a) a v
 rwa [show a+(b+y - a)=b+y by omega,Nat.add_mod_right,Nat.mod_eq_of_lt u] at this
def cY:List eR:=[Oa 1 [65] [66] 5,Oa 2 [66] [67] 5,Oa 3 [67] [65] 5,Oa 4 [65] [68] 4]
def kK:ee:=⟨QW,cY⟩
theorem VP:A6 kK=0:=by decide
theorem uC:CG kK:=⟨by decide,by decide,by decide⟩
theorem s4:CD kK=QW:=(ab VP (List.Perm.refl _) (by decide)).symm
theorem cU:ea kK=cY:=by decide
theorem kf:eU kK=[1,2,3]:=by
 unfold eU Ig;rw [s4,cU];exact hJ (by kernel_rfl)
theorem s5:CL kK=[]:=by
 unfold CL;rw [s4,cU];exact hJ (by kernel_rfl)
def eK:List (eR×Nat):=[(Oa 1 [65] [66] 5,0),(Oa 2 [66] [67] 5,0),(Oa 3 [67] [65] 5,0)]
theorem s0:ek kK [1,2,3]=eK:=by
 unfold ek;rw [<-show ea kK=eX kK.it from ϱ VP,cU]
 rfl
theorem sZ:gi kK=eK:=by
 unfold gi;rw [<-show ea kK=eX kK.it from ϱ VP,cU,kf,s5]
 rfl
theorem sY:∀r∈er kK,Cb r=0:=by decide
theorem oq (b:i<3) (a:s<3) (h:decide (∃r∈er kK,Be (Cw eK i) r<0/\0<Be (Cw eK s) r)=true):ZQ (er kK) (Cw eK i) (Cw eK s):=by grind [n7,sY,Be]
theorem n5 {a b:eR} (h:ZQ f a b):HZ f a b:=by grind [IQ,ZQ,HZ]
def tJ:Nat ->Nat
 | 0=>2
 | 1=>0
 | _=>1
theorem Wn (i:Nat) (a:i<3):tJ i<3/\ZQ (er kK) (Cw eK i) (Cw eK (tJ i)):=by
 match i,a with
 | 0,_=>exact ⟨by decide,oq (by decide) (by decide) (by decide)⟩
 | 1,_=>exact ⟨by decide,oq (by decide) (by decide) (by decide)⟩
 | 2,_=>exact ⟨by decide,oq (by decide) (by decide) (by decide)⟩
def oK:Nat ->Nat
 | 0=>0
 | 1=>2
 | _=>1
theorem ow:iS (er kK) eK=[[1,2,3]]:=by
 have h:∀i j,i<3 ->j<3 ->Rh (eW (gv (er kK) eK)) i j:=SL (nx:=tJ) (P:=oK) (λi a=>kp.2 ⟨a,(Wn i a).1,(Wn i a).2⟩) (by decide) (by decide) (by decide);unfold iS;rw [dc,Gn,show eK.length=3 from rfl,Tj (by decide) λi j a b=>⟨h i j a b,h j i b a⟩]
 decide
theorem ou:ey (er kK) eK=[[1,2,3]]:=by
 have h:∀i j,i<3 ->j<3 ->Rh (ob (er kK) eK) i j:=SL (nx:=tJ) (P:=oK) (λi a=>Cq.2 ⟨a,(Wn i a).1,n5 (Wn i a).2⟩) (by decide) (by decide) (by decide);unfold ey;rw [show eK.length=3 from rfl,Tj (C:=Cn (er kK) eK) (by decide) h]
 decide
theorem cT:eZ kK=QW.map (H5 kK):=(Wh VP (List.Perm.refl _) (by decide)).symm
theorem cS (i:Int) (h:(eo kK i).af=[]):O3 kK i=(QW.map (H5 kK)).flatMap (E8 i):=by grind [O3,cT,YD,Xr]
theorem ov:fZ kK [4]=[1,4]:=by
 have a:O3 kK 4=[⟨4,1,jw 65⟩]:=by rw [cS 4 (by decide)];exact hJ (by kernel_rfl)
 have g:O3 kK 1=[]:=by rw [cS 1 (by decide)];exact hJ (by kernel_rfl)
 rw [<-XG (C:=[4,1]) VP (by decide) (by decide) λx=>?_]
 .exact (SD (List.Perm.swap _ _ _) (by decide)).symm
 .constructor
  .intro h;rcases fP.1 h with rfl | h
   .exact .base (by decide)
   .rw [ζ.1 h];exact X2.step (b:=⟨4,1,jw 65⟩) (i:=4) (.base (by decide)) (by rw [a];exact ζ.2 Z)
  .intro h
   induction h with
   | base h=>rw [ζ.1 h];decide
   | step _ f c=>
    grind
theorem uB:fj kK 4=[⟨jw 65,9⟩]:=by
 unfold fj Ll;rw [ov,cT];exact hJ (by kernel_rfl)
theorem ox:iT kK=[(4,⟨jw 65,9⟩)]:=by
 unfold iT;rw [<-show ea kK=eX kK.it from ϱ VP,cU];have b:∀id∈([1,2,3]:List Int),gC kK id=none:=λid h=>Tx (by rw [kf];exact h)
 have a:gC kK 4=some (4,⟨jw 65,9⟩):=by
  unfold gC;rw [kf,uB,θ (by decide)];rfl
 show ([1,2,3,4]:List Int).filterMap (gC kK)=_
 simp_all
theorem ot:iO kK=[JL [1,2,3],JL [],Qc [[1,2,3]],Qc [[1,2,3]],.sl none (([(4,⟨jw 65,9⟩)]:List (Int×eY)).map nT)]:=by
 unfold iO;rw [kf,s5,s0,sZ,ou,ow,ox]
theorem Nb (l m:List Int) (u:l.length<=100000) (t:m.length<=100000):AK prog 17 [.d (.sl none (l.map AF)),.d (.sl none (m.map AF))] (Aa (decide (l=m))):=by
 refine As func17 Z Z ntmps17 Z Z Z λF r=>(AC (AE (AB Z Z (AD (AC ?_)))));refine AC (AE (dd Z Z (J (CB Z E0 Z) (dd Z Z (J (CB Z E0 Z) (J (D7 Z Z Z) (AD (Ac Z (λc=>?_) (λc=>?_)))))))))
 .refine AC (AE (AB Z Z (AD (A4 ?_))));exact ⟨_,[],[],A3 Z,Z,Z,Mp (λh=>by have i:=fL List.length h;have h:=c;omega),Z⟩
 .refine AZ (AC (AC ?_));have j:l.length=m.length:=by have h:=c;omega
  refine AE (AB Z Z (AD (A0 (BX (α:=Nat) (λk=>⟨26,[(0,.d (.sl none (l.map AF))),(1,.d (.sl none (m.map AF))),(5,(.d (AF (k:Int))))],[]⟩) (λk=>k<=l.length/\l.take k=m.take k) (λk=>l.length - k) (0) (⟨υ _,by simp⟩) (AY r [] Z Z ⟨Z,Z,Z,trivial⟩) ?_))));rintro k ⟨s,o⟩;refine AC (AC (AE (dd Z Z (dd Z Z (J (CB Z E0 Z) (J (BN Z Z Z) (AD (Ac Z (λa=>?_) (λa=>?_)))))))))
  .have g:k<l.length:=Ba a;refine AZ (AC (A0 (AC ?_)));have f:k<m.length:=by omega
   refine DB [[],[],[0,1],[0,1,2],[],[],[4,5],[4,5,6],rg 8] mixed Z (DP (Av 0 Z Z (Av 5 Z Z (AQ [17,18] Z (Bh (k) Z Z (Z) (Ab g) E0 Z BU Z) ?_))));refine AQ [19] Z (D2 Z Z Aw Z) (Av 1 Z Z (Av 5 Z Z (AQ [21,22] Z (Bh (k) Z Z (Z) (Ab f) E0 Z BU Z) (AQ [23] Z (D2 Z Z Aw Z) (Cg 8 Z Z Z (Ag 9 Z Z (J (D7 Z Z Z) (AD ⟨Z,?_⟩))))))));refine Cr (Ac Z (λb=>?_) (λb=>?_))
   .refine AC (AE (AB Z Z (AD (A4 ?_))));exact ⟨_,[],[],A3 Z,Z,Z,Mp (λh=>by subst h;exact b Z),Z⟩
   .refine AZ (AE (dd Z Z (J (Ar Z Z (AO (k+1) (by omega)) Z) (AB Z Z (AD ?_)))));exact ⟨k+1,⟨by show k+1<=_;omega,by rw [χ g,χ f,o,Classical.not_not.1 b]⟩,by show l.length - (k+1)<l.length - k;omega,AY r [] Z (Z) ⟨Z,Z,Z,trivial⟩⟩
  .refine BC (AC (AE (AB Z Z (AD (A4 ?_)))));exact ⟨_,[],[],A3 Z,Z,Z,oG (by have i:=o;rw [ς (by have h:=a;omega),ς (by have h:=a;omega)] at i;exact i),Z⟩
theorem Pc (l m:List (List Int)) (w:l.length<=100000) (v:m.length<=100000) (j:∀x∈l,x.length<=100000) (i:∀x∈m,x.length<=100000):AK prog 18 [.d (Qc l),.d (Qc m)] (Aa (decide (l=m))):=by
 refine As func18 Z Z ntmps18 Z Z Z λF t=>(AC (AE (AB Z Z (AD (AC ?_)))));refine AC (AE (dd Z Z (J (CB Z No Z) (dd Z Z (J (CB Z No Z) (J (D7 Z Z Z) (AD (Ac Z (λg=>?_) (λg=>?_)))))))))
 .refine AC (AE (AB Z Z (AD (A4 ?_))));exact ⟨_,[],[],A3 Z,Z,Z,Mp (λh=>by have o:=fL List.length h;have h:=g;omega),Z⟩
 .refine AZ (AC (AC ?_));have r:l.length=m.length:=by have h:=g;omega
  refine AE (AB Z Z (AD (A0 (BX (α:=Nat) (λk=>⟨27,[(0,.d (Qc l)),(1,.d (Qc m)),(5,(.d (AF (k:Int))))],[]⟩) (λk=>k<=l.length/\l.take k=m.take k) (λk=>l.length - k) (0) (⟨υ _,by simp⟩) (AY t [] Z Z ⟨Z,Z,Z,trivial⟩) ?_))));rintro k ⟨u,s⟩;refine AC (AC (AE (dd Z Z (dd Z Z (J (CB Z No Z) (J (BN Z Z Z) (AD (Ac Z (λa=>?_) (λa=>?_)))))))))
  .have c:k<l.length:=Ba a;refine AZ (AC (A0 (AC ?_)));have b:k<m.length:=by omega
   refine DB [[],[],[0,1],[0,1,2],[],[],[4,5],[4,5,6],rg 8,rg 9] mixed Z (DP (Av 0 Z Z (Av 5 Z Z (AQ [17,18] Z (Bh (k) Z Z (Z) (Ab c) No Z CZ Z) ?_))));refine AQ [19] Z (D2 Z Z BG Z) (Av 1 Z Z (Av 5 Z Z (AQ [21,22] Z (Bh (k) Z Z (Z) (Ab b) No Z CZ Z) (AQ [23] Z (D2 Z Z BG Z) (Cg 8 Z Z Z (Ag 9 Z Z (J (BT (Nb l[k] m[k] (j _ (ξ c)) (i _ (ξ b))) Z Z) (AD ⟨Z,?_⟩))))))));refine Ag 10 Z Z (J (OX Z Z) (AD ⟨Z,?_⟩));refine Cr (Ac Z (λf=>?_) (λf=>?_))
   .refine AC (AE (AB Z Z (AD (A4 ?_))));exact ⟨_,[],[],A3 Z,Z,Z,Mp (λh=>by subst h;exact f Z),Z⟩
   .refine AZ (AE (dd Z Z (J (Ar Z Z (AO (k+1) (by omega)) Z) (AB Z Z (AD ?_)))));exact ⟨k+1,⟨by show k+1<=_;omega,by rw [χ c,χ b,s,Classical.not_not.1 f]⟩,by show l.length - (k+1)<l.length - k;omega,AY t [] Z (Z) ⟨Z,Z,Z,trivial⟩⟩
  .refine BC (AC (AE (AB Z Z (AD (A4 ?_)))));exact ⟨_,[],[],A3 Z,Z,Z,oG (by have o:=s;rw [ς (by have h:=a;omega),ς (by have h:=a;omega)] at o;exact o),Z⟩
theorem bK (id n:Int) (a b:List UInt8) (g:0<=n) (f:n<=1000000000000000):AK prog 40 [.d (AF id),.d (Aj a),.d (Aj b),.d (AF n)] (.agg [AF id,AF 0,AF id,.sl none ((Oa id a b n).po.map CF),.sl (some true) [],.sl (some true) []]):=by
 refine As func40 Z Z ntmps40 Z Z Z λF c=>(AC (AE (V (Bn 1 E4 Z Z Z Z) (AD (AC ?_)))));refine AE (dd Z Z (dd Z Z (dd Z Z (J (Fe ZX bH Z Z Z) (dd Z Z (J (aB Z (Ω _ (by omega)) Z) (J (Fe Ox bI Z Z Z) (dd Z Z ?_))))))));refine J (Fe ZX bH Z Z Z) (dd Z Z (J (Fe Ox bI Z Z Z) (V (D6 4 Xt Z Z Z Z Z Z Z Z) (mI (emb:=CF) 20 4 (Oa id a b n).po Z Z Z Z Z Z Z (J (Fe E4 oR Z Z Z) (V (B1 Z Z Z Z Z Z Z CY) (AD (A4 ?_))))))));exact ⟨_,[],[],A3 Z,Z,Z,Z,Z⟩
theorem ME (id n:Int) (a b:List UInt8) (l:0<=n) (k:n<=1000000000000000):AK prog 40 [.d (AF id),.d (Aj a),.d (Aj b),.d (AF n)] (Af (Oa id a b n)):=
 (bK id n a b l k).weak λw O v h=>h.aggMono Z (by simp [D.one]) λi c o g f v j=>by
  match i,g,f with
  | 0,g,f=>injection g with g;injection f with f;subst g f;exact j
  | 1,g,f=>injection g with g;injection f with f;subst g f;exact j
  | 2,g,f=>injection g with g;injection f with f;subst g f;exact j
  | 3,g,f=>injection g with g;injection f with f;subst g f;exact j
  | 4,g,f=>injection g with g;injection f with f;subst g f;exact j.anyNil
  | 5,g,f=>injection g with g;injection f with f;subst g f;exact j.anyNil
theorem Ya:AK prog 10 [] (.raw (.bool true)):=by
 have j:=OT kK uC VP;rw [ot] at j;refine As func10 Z Z ntmps10 Z Z Z λF s=>(AC ?_);refine AE (AB Z Z (AD (AC (AE (V (Bn 1 QJ Z Z Z Z) (AD (AC (AC ?_))))))));refine AE (V (D6 2 tV Z Z Z Z Z Z Z Z) (mI (emb:=Aj) 7 2 sQ Z Z Z Z Z Z Z (J (CB Z underlying86 Z) (dd Z Z (AD (A0 (Cp 1 0 0 901 Lq Z Z Z Z Z Z Z (BX (α:=Nat×List eY) (λq=>⟨86,[(1,(.ptr 1 0 0)),(7,(.d (.sl none (sQ.map Aj)))),(8,(.d (AF 3))),(9,(.d (AF (q.1:Int))))],[(901,[.rowD 88 7 (q.2.map Bt)]),(1,[.blk 39 [.own 901 0 q.2.length,.d Bg]])]⟩) (λq=>q.1<=3/\q.2=QW.take q.1) (λq=>3 - q.1) ((0,[])) (⟨by decide,Z⟩) (AY s [901,1] Z Z ⟨Z,Z,Z,Z,trivial⟩) ?_))))))));rintro ⟨k,l⟩ ⟨r,a⟩;dsimp only at r a⊢;refine AC (AE (J (BN Z Z Z) (AD (AC (Ac Z (λc=>?_) (λc=>?_))))))
 .have i:k<sQ.length:=by have h:=Ba (b:=3) c;exact h
  refine AZ (AC (A0 (AC ?_)));have g:l++ [⟨⟨0,UI sQ[k],[],[]⟩,0⟩]=QW.take (k+1):=by subst a;match k,i with | 0,_=>rfl | 1,_=>rfl | 2,_=>rfl
  have t:l.length<=3:=by rw [a];simp [QW];omega
  refine AE (J (Bh (k) Z Z (Z) (Ab i) underlying86 Z ud Z) (J (D2 Z Z IN Z) ?_));refine AB Z Z (AD (AE (J (AU Z Dp Z Z Z) (J (A2 Z Z Z Ob Z) (dd Z Z (J (Fe ZX bH Z Z Z) (J (Fe JM SU Z Z Z) (J (Fe QI oQ Z Z Z) ?_))))))));refine V (D6 50 Lq Z Z Z Z Z Z Z Z) (V (H1 (l) ([⟨⟨0,UI sQ[k],[],[]⟩,0⟩]) Z Z Z Z Z Z Z Z Lq (by simp only [Φ];omega) Z Z Z Z) (J (AU Z Dp Z Z Z) (V (B1 Z Z Z Z Z Z Z nt) (AD (AE (J (Ar Z Z (AO (k+1) (by omega)) Z) (dd Z Z (AD ?_))))))));exact ⟨(k+1,_),⟨by show k+1<=3;omega,g⟩,by show 3 - (k+1)<3 - k;omega,AY s [901,1] Z (Z) ⟨Z,Z,Z,Z,trivial⟩⟩
 .refine BC (AC ?_);have o:k=3:=by have h:=c;omega
  subst o;have f:l=QW:=a;subst f;refine jN (ys:=QW.map Bt) 1 0 0 901 Z Z Z (by decide) Z Z Z Z Z Z Z (AE (J (BT (ME 1 5 [65] [66] (by decide) (by decide)) Z Z) (J (BT (ME 2 5 [66] [67] (by decide) (by decide)) Z Z) (J (BT (ME 3 5 [67] [65] (by decide) (by decide)) Z Z) (J (BT (ME 4 4 [65] [68] (by decide) (by decide)) Z Z) (V (D6 52 K8 Z Z Z Z Z Z Z Z) (mI (emb:=Af) 27 52 cY Z Z Z Z Z Z Z ?_)))))));refine J (AU Z Cy Z Z Z) (V (B1 Z Z Z Z Z Z Z jd) (AD (AC (AE (J (BE Z Z BM Z Z Z) (J (BT (j) Z Z) (dd Z Z (J (C6 Z Z Z) ?_))))))));refine J (C6 Z Z Z) (V (Bn 4 Ra Z Z Z Z) (V (B1 Z Z Z Z Z Z Z Zm) (AB Z Z (AD (AC (AE (V (D6 54 BV Z Z Z Z Z Z Z Z) (mI (emb:=AF) 34 54 [1,2,3] Z Z Z Z Z Z Z ?_))))))));refine V (D6 55 SE Z Z Z Z Z Z Z Z) (mI (emb:=JL) 35 55 [[1,2,3]] Z Z Z Z Z Z Z (AB Z Z (AD (AC (DB [[],[0],[0,1],[0,1,2],[0,1,2,3],[0,1,2],[0,1,2,5],[0,1,2,5,6],rg 8,rg 9,rg 10,rg 11,rg 12,rg 13,rg 14,rg 15,rg 16,rg 17,rg 18,rg 17,rg 20,rg 21,rg 22,rg 23,rg 24,rg 23,rg 26,rg 27,rg 28,rg 29,rg 30,rg 31,rg 32,rg 33,rg 34,rg 35,rg 36,rg 37,rg 38,rg 39,rg 40,rg 41,rg 42,rg 43,rg 44,rg 45,rg 46,rg 47,rg 48,rg 49,rg 50] mixed Z (Ag 1 Z Z (dd Z Z (AD ⟨Z,?_⟩))))))));refine Ag 2 Z Z (J (Li Z Z Z) (AD ⟨Z,?_⟩));refine Ag 3 Z Z (dd Z Z (He 38 Z (Z) (AD ⟨Z,?_⟩)));refine DP (CK [4,38] [] Z Z (λ_=>FK Z Z Z (AU Z gX Z Z Z)) ?_);refine Az [39,38] Z Z (λ_=>FK Z Z Z (A2 Z Z Z BG Z)) (CK [6,38] [] Z Z (λ_=>FK Z Z Z (JT Z Z)) (CK [41,38] [] Z Z (λ_=>FK Z Z Z (Bh (0) Z Z (Z) (Z) No Z CZ Z)) (CK [42,38] [] Z Z (λ_=>FK Z Z Z (D2 Z Z BG Z)) (Cg 8 Z Z Z (Ag 9 Z Z (Ad Z Z Z (J (BT (Nb [1,2,3] [1,2,3] (by decide) (by decide)) Z Z) (AD ⟨Z,?_⟩))))))));refine Ag 10 Z Z (J (Ff Z Z Z Z) (AD ⟨Z,?_⟩));refine Ag 11 Z Z (dd Z Z (He 46 Z (Z) (AD ⟨Z,?_⟩)));refine Ag 12 Z Z (Ad Z Z Z (J (AU Z jF Z Z Z) (AD ⟨Z,?_⟩)));refine Ag 13 Z Z (Ad Z Z Z (J (A2 Z Z Z BG Z) (AD ⟨Z,?_⟩)));refine Ag 14 Z Z (Ad Z Z Z (J (CB Z E0 Z) (AD ⟨Z,?_⟩)));refine Ag 15 Z Z (Ad Z Z Z (J (Li Z Z Z) (AD ⟨Z,?_⟩)));refine Ag 16 Z Z (J (Ff Z Z Z Z) (AD ⟨Z,?_⟩));refine Ag 17 Z Z (dd Z Z (He 52 Z (Z) (AD ⟨Z,?_⟩)));refine DP (CK [4,52] [] Z Z (λ_=>FK Z Z Z (AU Z Nw Z Z Z)) (Az [53,52] Z Z (λ_=>FK Z Z Z (A2 Z Z Z bT Z)) (CK [6,52] [] Z Z (λ_=>FK Z Z Z (JT Z Z)) (Cg 20 Z Z Z (Ag 21 Z Z (Ad Z Z Z (J (BT (Pc [[1,2,3]] [[1,2,3]] (by decide) (by decide) (by decide) (by decide)) Z Z) (AD ⟨Z,?_⟩))))))));refine Ag 22 Z Z (J (Ff Z Z Z Z) (AD ⟨Z,?_⟩));refine Ag 23 Z Z (dd Z Z (He 58 Z (Z) (AD ⟨Z,?_⟩)));refine DP (CK [4,58] [] Z Z (λ_=>FK Z Z Z (AU Z jE Z Z Z)) (Az [59,58] Z Z (λ_=>FK Z Z Z (A2 Z Z Z bT Z)) (CK [6,58] [] Z Z (λ_=>FK Z Z Z (JT Z Z)) (Cg 26 Z Z Z (Ag 27 Z Z (Ad Z Z Z (J (BT (Pc [[1,2,3]] [[1,2,3]] (by decide) (by decide) (by decide) (by decide)) Z Z) (AD ⟨Z,?_⟩))))))));refine Ag 28 Z Z (J (Ff Z Z Z Z) (AD ⟨Z,?_⟩));refine Ag 29 Z Z (dd Z Z (He 64 Z (Z) (AD ⟨Z,?_⟩)));refine Ag 30 Z Z (Ad Z Z Z (J (AU Z gw Z Z Z) (AD ⟨Z,?_⟩)));refine Ag 31 Z Z (Ad Z Z Z (J (A2 Z Z Z oX Z) (AD ⟨Z,?_⟩)));refine Ag 32 Z Z (Ad Z Z Z (J (CB Z underlying30 Z) (AD ⟨Z,?_⟩)));refine Ag 33 Z Z (Ad Z Z Z (J (Li Z Z Z) (AD ⟨Z,?_⟩)));refine Ag 34 Z Z (J (Ff Z Z Z Z) (AD ⟨Z,?_⟩));refine Ag 35 Z Z (dd Z Z (He 70 Z (Z) (AD ⟨Z,?_⟩)));refine Ag 36 Z Z (Ad Z Z Z (J (AU Z gw Z Z Z) (AD ⟨Z,?_⟩)));refine Ag 37 Z Z (Ad Z Z Z (J (A2 Z Z Z oX Z) (AD ⟨Z,?_⟩)));refine Ag 38 Z Z (Ad Z Z Z (J (Bh (0) Z Z (Z) (Z) underlying30 Z rI Z) (AD ⟨Z,?_⟩)));refine Ag 39 Z Z (Ad Z Z Z (J (mO Z pe Z Z Z) (AD ⟨Z,?_⟩)));refine Ag 40 Z Z (Ad Z Z Z (J (D2 Z Z Aw Z) (AD ⟨Z,?_⟩)));refine Ag 41 Z Z (Ad Z Z Z (J (Li Z Z Z) (AD ⟨Z,?_⟩)));refine Ag 42 Z Z (J (Ff Z Z Z Z) (AD ⟨Z,?_⟩));refine Ag 43 Z Z (dd Z Z (He 78 Z (Z) (AD ⟨Z,?_⟩)));refine Ag 44 Z Z (Ad Z Z Z (J (AU Z gw Z Z Z) (AD ⟨Z,?_⟩)));refine Ag 45 Z Z (Ad Z Z Z (J (A2 Z Z Z oX Z) (AD ⟨Z,?_⟩)));refine Ag 46 Z Z (Ad Z Z Z (J (Bh (0) Z Z (Z) (Z) underlying30 Z rI Z) (AD ⟨Z,?_⟩)));refine Ag 47 Z Z (Ad Z Z Z (J (mO Z pc Z Z Z) (AD ⟨Z,?_⟩)));refine Ag 48 Z Z (Ad Z Z Z (J (D2 Z Z Km Z) (AD ⟨Z,?_⟩)));refine Ag 49 Z Z (Ad Z Z Z (J (Li Z Z Z) (AD ⟨Z,?_⟩)));refine Ag 50 Z Z (J (Ff Z Z Z Z) (AD ⟨Z,?_⟩));refine Ag 51 Z Z (AB Z Z (AD ⟨Z,?_⟩));refine Cr (A4 ?_);exact ⟨_,[],[],A3 Z,Z,Z,Z,Z⟩
end Go.Proofs.YteifpcnphnhaoaaGreat
namespace Go.Proofs.YteifpcnphnhaoaaGreat
open Go.RowKit
variable {s:iu} {R:Int ->Int ->Prop} {a:List (List Int)} {x:Nat} {P:List Nat} {c:List Int} {k:Nat} {f:ee} {Y g:List eY} {h i:List Int} {j:Nat} {y:Int}
theorem di (p:ee):fK p (Jn [])=[]:=by grind [fK,List.flatMap_eq_nil_iff,JI,Jn]
theorem Z5 (b:A6 f=0):Ll f (At [])=[]:=by
 unfold Ll;rw [List.flatMap_eq_nil_iff];intro x a;have h:=cH b x a;unfold Rl;rw [θ (by show ¬x.n+cl f x.r []<0;have:cl f x.r []=0:=rfl;omega)]
theorem Rk {M:List (Int×Bool)}:Ll f M=[]↔∀x∈eZ f,0<=x.n+cl f x.r M:=by grind [Ll,List.flatMap_eq_nil_iff,Rl]
theorem X2.mono {S T:List Int} (h:∀x∈S,x∈T) {x:Int} (a:X2 f S x):X2 f T x:=by
 induction a with
 | base a=>exact .base (h _ a)
 | step _ c b=>exact .step b c
structure qi (R:Int ->Int ->Prop) (l Y:List eY):Prop where
 len:Y.length=l.length
 at_:∀(j:Nat) x y,l[j]? =some x ->Y[j]? =some y ->y.r=x.r/\ -4*Mx<=y.n/\y.n<=4*Mx/\R x.n y.n
theorem qi.set (h:qi R g Y) (c:k<Y.length) {n:Int} (f: -4*Mx<=n/\n<=4*Mx) (i:∀x,R x Y[k].n ->R x n):qi R g (Y.set k ⟨Y[k].r,n⟩):=
 ⟨by rw [fq];exact h.len,λj x y b a=>by
  rw [jB] at a
  split at a
  .rename_i e;subst e
   first | (rw [ϱ c] at a;injection a with a;subst a) | (injection a with a;subst a)
   have:=h.at_ k x _ b (ω c);exact ⟨this.1,f.1,f.2,i _ this.2.2.2⟩
  .exact h.at_ j x y b a⟩
theorem qi.map (h:qi R g Y):Y.map eY.r=g.map eY.r:=by
 refine gu (by rw [ψ,ψ,h.len]) λj b a=>?_;rw [ψ] at b a;rw [ft,ft];exact (h.at_ j _ _ (ω a) (ω b)).1
theorem qi.mem (h:qi R g Y):∀y∈Y,∃x∈g,y.r=x.r/\ -4*Mx<=y.n/\y.n<=4*Mx/\R x.n y.n:=λy c=>by
 obtain ⟨j,b,rfl⟩:=iL.1 c;have a:j<g.length:=by rw [<-h.len];exact b
 exact ⟨g[j],ξ a,h.at_ j _ _ (ω a) (ω b)⟩
def kM (x:Nat) (P:List Nat):Nat:=P.foldl (λa i=>a ||| 1<<<i) x
theorem lq (i j:Nat):(1<<<i).testBit j=decide (i=j):=by rw [Nat.one_shiftLeft,Nat.testBit_two_pow]
theorem MH:∀(P:List Nat) (x j:Nat),(kM x P).testBit j=true↔x.testBit j=true\/j∈P
 | [],x,j=>by simp [kM]
 | i::P,x,j=>by
  show (kM (x ||| 1<<<i) P).testBit j=true↔_;rw [MH P,Nat.testBit_or,lq,Bool.or_eq_true,gR,fP]
  constructor
  .rintro ((h | h) | h)
   .exact .inl h
   .exact .inr (.inl h.symm)
   .exact .inr (.inr h)
  .rintro (h | h | h)
   .exact .inl (.inl h)
   .exact .inl (.inr h.symm)
   .exact .inr h
theorem Y0:y∈fN s x↔∃i,i<s.ids.length/\x.testBit i=true/\s.ids.getD i 0=y:=by grind [fN]
theorem Qa (b:s.ids.Nodup) (a:y∈s.ids):y∈fN s x↔x.testBit (s.ids.idxOf y)=true:=by grind [Y0]
def Ge:List Int ->List Int ->Bool
 | a::l,b::m=>if a=b then Ge l m else decide (a<b)
 | _,_=>false
def CU (a b:List Int):Bool:=if a.length≠b.length then decide (a.length<b.length) else Ge a b
theorem NX:∀a b:List Int,Ge a b=true ->Ge b a=false
 | a::l,b::m,h=>by
  unfold Ge at h⊢
  split at h
  .rename_i e;subst e;rw [ϱ rfl];exact NX l m h
  .rename_i e
   rw [θ (λh=>e h.symm)];have:=hJ h;exact fb (by omega)
 | [],_,h=>by cases h
 | _::_,[],h=>by cases h
theorem NV:∀a b c:List Int,Ge a b=true ->Ge b c=true ->Ge a c=true
 | a::l,b::m,c::r,g,f=>by
  unfold Ge at g f⊢
  split at g
  .rename_i e;subst e
   split at f
   .rename_i e;rw [ϱ e];exact NV l m r g f
   .rename_i e;rw [θ e];exact f
  .rename_i e
   have k:=hJ g
   split at f
   .rename_i i;subst i
    rw [θ e];exact g
   .have j:=hJ f;rw [θ (by omega)];exact Υ (by omega)
 | [],_,_,h,_=>by cases h
 | _::_,[],_,h,_=>by cases h
 | _::_,_::_,[],_,h=>by cases h
theorem NW:∀a b:List Int,a.length=b.length ->a≠b ->Ge a b=false ->Ge b a=true
 | a::l,b::m,c,f,h=>by
  unfold Ge at h⊢
  split at h
  .rename_i e;subst e
   rw [ϱ rfl];exact NW l m (by simpa using c) (λh=>f (by rw [h])) h
  .rename_i e
   have:=of_decide_eq_false h;rw [θ (λh=>e h.symm)];exact Υ (by omega)
 | [],[],_,f,_=>absurd Z f
 | [],_::_,c,_,_=>by simp at c
 | _::_,[],c,_,_=>by simp at c
theorem Sn (c:CU h i=true):¬CU i h=true:=by grind [CU,NX]
theorem Sl {c:List Int} (g:CU h i=true) (f:CU i c=true):CU h c=true:=by grind [CU,NV]
theorem Sm (f:h≠i) (c:¬CU h i=true):CU i h=true:=by grind [CU,NW]
theorem Ut {c:Type} {R:c ->c ->Prop} (g:∀a b,R a b ->¬R b a) {l m:List c} (k:l.Pairwise R) (j:m.Pairwise R) (h:∀x,x∈l↔x∈m):l=m:=by
 have i:∀{l:List c},l.Pairwise R ->l.Nodup:=λh=>h.imp λ{a b} f e=>by subst e;exact g _ _ f f
 grind [List.Perm.eq_of_pairwise,jT]
def HR (n:Nat):Nat ->Nat ->List (List Nat)
 | 0,_=> [[]]
 | l+1,frm=>((List.range (n+1 - (l+1) - frm)).map (frm+ ·)).flatMap λi=>(HR n l (i+1)).map (i:: ·)
theorem GQ (n:Nat):∀(l a x:Nat),gY n l a x=(HR n l a).map (kM x)
 | 0,_,_=>rfl
 | l+1,a,x=>by
  unfold gY HR;rw [List.map_flatMap]
  congr 1
  funext i
  rw [GQ n l (i+1),fS]
  rfl
theorem SS {n:Nat}:∀{l a:Nat} {P:List Nat},P∈HR n l a ->P.length=l
 | 0,_,P,h=>by simp [HR] at h;subst h;rfl
 | l+1,a,P,h=>by
  unfold HR at h;obtain ⟨i,_,h⟩:=im.1 h;obtain ⟨Q,b,rfl⟩:=κ.1 h;rw [i3,SS b]
theorem MC {n:Nat}:∀{l a:Nat} {P:List Nat},P∈HR n l a ->P.Pairwise (· < ·)/\∀j∈P,a<=j/\j<n
 | 0,_,P,h=>by simp [HR] at h;subst h;simp
 | l+1,a,P,h=>by
  unfold HR at h;obtain ⟨i,o,h⟩:=im.1 h;obtain ⟨k,g,rfl⟩:=κ.1 o;have f:=Θ.1 g;obtain ⟨Q,r,rfl⟩:=κ.1 h;obtain ⟨s,c⟩:=MC r;refine ⟨iK.2 ⟨λj b=>by have:=(c j b).1;omega,s⟩,λj b=>?_⟩;rcases fP.1 b with rfl | b
  .exact ⟨by omega,by omega⟩
  .have:=c j b;omega
theorem Qh {n:Nat}:∀{P:List Nat} {frm:Nat},frm<=n ->P.Pairwise (· < ·) ->(∀j∈P,frm<=j/\j<n) ->P.length<=n - frm
 | [],_,_,_,_=>υ _
 | i::P,frm,g,b,h=>by
  have k:=h i fu;obtain ⟨f,c⟩:=iK.1 b
  have:=Qh (P:=P) (frm:=i+1) (by omega) c λj a=>⟨f j a,(h j (gG _ a)).2⟩
  rw [i3];omega
theorem ST {n:Nat}:∀{P:List Nat} {frm:Nat},P.Pairwise (· < ·) ->(∀j∈P,frm<=j/\j<n) ->P∈HR n P.length frm
 | [],_,_,_=>by simp [HR]
 | i::P,frm,f,h=>by
  have l:=h i fu;obtain ⟨g,c⟩:=iK.1 f
  have b:∀j∈P,i+1<=j/\j<n:=λj a=>⟨g j a,(h j (gG _ a)).2⟩
  have k:=Qh (P:=P) (frm:=i+1) (by omega) c b;show i::P∈HR n (P.length+1) frm;unfold HR;refine im.2 ⟨i,κ.2 ⟨i - frm,Θ.2 (by omega),by omega⟩,κ.2 ⟨P,ST c b,Z⟩⟩
theorem Y3 (a:Int) (l m:List Int):Ge (a::l) (a::m)=Ge l m:=by grind [Ge]
theorem SQ {n:Nat} {g:Nat ->Int} (k:∀i j,i<j ->j<n ->g i<g j):∀l c,((HR n l c).map λP=>P.map g).Pairwise λa b=>Ge a b=true
 | 0,_=>by simp [HR]
 | l+1,c=>by
  unfold HR;rw [List.map_flatMap,List.pairwise_flatMap]
  constructor
  .intro i _;rw [fS];have f:=SQ k l (i+1);rw [fz] at f⊢;refine f.imp λ{P Q} h=>?_;show Ge (g i::P.map g) (g i::Q.map g)=true;rw [Y3];exact h
  .rw [fz];refine iv (λ{a b} z t u x r y o=>?_) (iz);obtain ⟨_,w,rfl⟩:=κ.1 r;obtain ⟨_,v,rfl⟩:=κ.1 o;obtain ⟨P,_,rfl⟩:=κ.1 w;obtain ⟨Q,_,rfl⟩:=κ.1 v;have s:=Θ.1 t;have:=k (c+a) (c+b) (by omega) (by omega);show (if g (c+a)=g (c+b) then _ else decide (g (c+a)<g (c+b)))=true;rw [θ (by omega)];exact Υ this
theorem Pd (b:P.Pairwise (· < ·)) (a:∀j∈P,j<s.ids.length):fN s (kM 0 P)=P.map λi=>s.ids.getD i 0:=by
 unfold fN
 congr 1
 grind [Ut,gE,iz,MH]
def dx (s:iu):List (List Int):=(dw s).map (fN s)
theorem ZM (u:s.ids.Pairwise (· < ·)):(dx s).Pairwise λa b=>CU a b=true:=by
 unfold dx dw;rw [List.map_flatMap,List.pairwise_flatMap]
 have o:∀k,∀L∈((gY s.ids.length k 0 0).filter (gy s)).map (fN s),L.length=k:=λk L D=>by
  grind [GQ,MC,Pd,SS]
 constructor
 .intro k _
  have C:=SQ (n:=s.ids.length) (g:=λi=>s.ids.getD i 0) (λi j f c=>by
   show s.ids.getD i 0<s.ids.getD j 0;rw [EQ 0 c,EQ 0 (Nat.lt_trans f c)]
   exact gc.1 u i j _ c f) k 0
  have B:((gY s.ids.length k 0 0).map (fN s)).Pairwise λa b=>Ge a b=true:=by
   rw [GQ,fS]
   have e:(HR s.ids.length k 0).map (fN s∘kM 0)=(HR s.ids.length k 0).map λP=>P.map λi=>s.ids.getD i 0:=fi λP z=>by
    have h:=MC z;exact Pd h.1 λj c=>(h.2 j c).2
   rw [e];exact C
  have A:(((gY s.ids.length k 0 0).filter (gy s)).map (fN s)).Pairwise λa b=>Ge a b=true:=List.Pairwise.sublist (List.filter_sublist.map _) B;refine iv (λ{a b} w v l=>?_) A;unfold CU;rw [θ (by rw [o k a w,o k b v];exact λh=>h Z)];exact l
 .refine iv (λ{a b} _ _ l x t y r=>?_) (iz);have F:=o a x t;have E:=o b y r;unfold CU;rw [ϱ (by omega)];exact Υ (by omega)
theorem cB (y:Nat):y∈dw s↔(∃P:List Nat,P.Pairwise (· < ·)/\(∀j∈P,j<s.ids.length)/\kM 0 P=y)/\gy s y=true:=by
 unfold dw;rw [im]
 constructor
 .grind [GQ,MC]
 .rintro ⟨⟨P,c,b,e⟩,f⟩
  have h:=ST (n:=s.ids.length) (frm:=0) c λj a=>⟨υ _,b j a⟩
  have g:=Qh (n:=s.ids.length) (P:=P) (frm:=0) (υ _) c λj a=>⟨υ _,b j a⟩
  refine ⟨P.length,Θ.2 (by omega),Γ.2 ⟨?_,f⟩⟩;rw [GQ]
  grind
def Mz (n x:Nat):List Nat:=(List.range n).filter λi=>x.testBit i
theorem My (n x:Nat):(Mz n x).Pairwise (· < ·):=List.Pairwise.sublist gE iz
theorem ay {a:Nat} (h:a∈Mz j x):a<j:=Θ.1 (Γ.1 h).1
theorem Kl (b:x<2^j):kM 0 (Mz j x)=x:=by
 refine Nat.eq_of_testBit_eq λa=>?_
 grind [Mz,MH,Nat.testBit_lt_two_pow,hU,Nat.pow_le_pow_right]
theorem oT (h:∀a∈P,a<j):kM 0 P<2^j:=by
 refine Nat.lt_pow_two_of_testBit _ λa b=>?_
 grind [MH]
theorem Y1 (y:Nat):y∈dw s↔y<2^s.ids.length/\gy s y=true:=by
 rw [cB]
 constructor
 .rintro ⟨⟨P,_,a,rfl⟩,c⟩;exact ⟨oT a,c⟩
 .rintro ⟨f,a⟩;exact ⟨⟨Mz s.ids.length y,My _ _,λj b=>ay b,Kl f⟩,a⟩
theorem cC (L:List Int):L∈dx s↔∃y,y<2^s.ids.length/\gy s y=true/\L=fN s y:=by grind [dx,Y1]
theorem cZ (s:k<=a.length) (h:a.Pairwise λf b=>CU f b=true) (w:∀y∈a.drop k,CU c y=true) (i:k=0\/∃s:k - 1<a.length,¬CU c a[k - 1]=true) (r:c∉a):(a.take k++ [c]++a.drop k).Pairwise λf b=>CU f b=true:=by
 have v:∀y∈a.take k,CU y c=true:=λy o=>by
  rcases i with i | ⟨g,i⟩
  .grind
  .obtain ⟨j,u,rfl⟩:=iY.1 o;have t:CU a[k - 1] c=true:=Sm (λe=>r (e▸ξ g)) i;rcases Nat.lt_or_ge j (k - 1) with l | l
   .exact Sl (gc.1 h j (k - 1) (by omega) g l) t
   grind
 grind [jH,io]
theorem ki (L:List Int):L∈a.take k++ [c]++a.drop k↔L∈a\/L=c:=by grind [jH]
theorem Y2 (i:s.ids.Nodup) {y:Nat} (g:x<2^s.ids.length) (f:y<2^s.ids.length) (h:fN s x=fN s y):x=y:=by
 rw [<-Kl g,<-Kl f]
 congr 1
 refine Ut (R:=λa b:Nat=>a<b) (λa b h=>by omega) (My _ _) (My _ _) λj=>?_
 have c:∀z j,j∈Mz s.ids.length z↔∃k:j<s.ids.length,s.ids[j]∈fN s z:=λz j=>by
  grind [Mz,Qa]
 grind
section
variable {β:Type} (step:β ->List Int ->β×Bool)
end
section
variable {β:Type}
end
variable {a:List (List Int)} {s:iu} {c:Nat}
abbrev u5 (s:iu) (u:Nat):Hp:=[(2,[.blk 390 [.d (.ptr (rS s))]]),(3,[.blk 292 [.d (rE u)]])]
structure UR (s:iu) (m:Nat) (out:List (List Int)):Prop where
 o:out.Pairwise λa b=>CU a b=true
 m_:∀L,L∈out↔∃y,y<m/\gy s y=true/\L=fN s y
 l:out.length<=m
theorem UR.skip (h:UR s c a) (b:gy s c=false):UR s (c+1) a:=by
 refine ⟨h.o,λL=>?_,Nat.le_succ_of_le h.l⟩;rw [h.m_]
 grind
theorem UR.add {k:Nat} (h:UR s c a) (i:s.ids.Nodup) (b:c<2^s.ids.length) (t:gy s c=true) (f:k<=a.length) (l:∀y∈a.drop k,CU (fN s c) y=true) (j:k=0\/∃f:k - 1<a.length,¬CU (fN s c) a[k - 1]=true):UR s (c+1) (a.take k++ [fN s c]++a.drop k):=by
 refine ⟨cZ f h.o l j λg=>?_,λL=>?_,?_⟩
 .obtain ⟨y,r,u,o⟩:=(h.m_ _).1 g;have:=Y2 i b (Nat.lt_trans r b) o;omega
 .rw [ki,h.m_]
  grind
 .have:=h.l
  grind
theorem UR.done (f:s.ids.Pairwise (· < ·)) (h:UR s (2^s.ids.length) a):a=dx s:=
 Ut (R:=λc b=>CU c b=true) (λc b h=>Sn h) h.o (ZM f) λL=>by rw [h.m_,cC]
section
variable {P:Program} {F:Fr} {s:AS} {d:Nat} {x y:Operand} {T T':TypeId} {ty:TypeId} {pos:String} {aft:Array Edge} {g:Option (Nat×Bool)} {k:IntKind} {a b:Int}
end
variable {a:List Int} {c:ee}
theorem VG (b:a.Nodup) {j:Nat} (c:j<a.length):a[j]∉a.take j:=λh=>by
 obtain ⟨i,f,e⟩:=iY.1 h;rw [List.Nodup,gc] at b;exact b i j (by omega) c (by omega) e
theorem XM {i:eR}:UE i=0↔(∀x∈i.af,(0<=x/\x<=1000000000)/\x≠i.id)/\i.af.Nodup:=by
 unfold UE;rw [RT]
 constructor
 .intro h
  have c:∀k (f:k<i.af.length),(0<=i.af[k]/\i.af[k]<=1000000000)/\i.af[k]≠i.id/\i.af[k]∉i.af.take k:=λk f=>by
   have:=h k (Θ.2 f)
   grind [UM]
  refine ⟨λx g=>?_,?_⟩
  .obtain ⟨k,f,rfl⟩:=iL.1 g
   grind
  .rw [List.Nodup,gc];intro a b o j l e;exact (c b j).2.2 (iY.2 ⟨a,by omega,e⟩)
 grind [ξ,UM,VG]
theorem pG {m:List Int} (h:∀x,x∈a↔x∈m):Jn a=Jn m:=by grind [Jn]
theorem X6 {m:List Int} (h:a.Perm m) (f:Ll c (At a)=[]):Ll c (At m)=[]:=
 Rk.2 λx b=>by
  have:=Rk.1 f x b;have g:(At a).Perm (At m):=h.map _;rw [KZ g] at this;exact this
structure tH (p:ee) (C:List Int):Prop where
 n:C.Nodup
 i:∀x∈C,x∈p.it.map eR.id
 a:fK p (Jn C)=[]
 v:Ll p (At C)=[]
theorem tH.perm {C D:List Int} (h:tH c C) (a:C.Perm D):tH c D:=
 ⟨a.nodup_iff.1 h.n,λx b=>h.i x (a.mem_iff.2 b),by rw [<-pG λx=>a.mem_iff];exact h.a,X6 a h.v⟩
theorem tH.nil (b:A6 c=0):tH c []:=⟨List.nodup_nil,λx a=>(by cases a),di c,Z5 b⟩
end Go.Proofs.YteifpcnphnhaoaaGreat
namespace Go.Proofs.YteifpcnphnhaoaaGreat
open Go.RowKit Go.Shelf
variable {C:Nat ->Nat ->Prop} {S:List Int} {E:List (eR×Nat)} {a:List Int} {c:Nat} {N:MF} {k:Nat} {f:ee} {o:List Int} {g h:Nat} {i:AM} {j:Int}
set_option maxRecDepth 100000
theorem Yv (l:List Int) (x:Int) (r:l.length<=100000):AK prog 25 [.d (.sl none (l.map AF)),.d (AF x)] (AL (l.count x)):=by
 refine As func25 Z Z ntmps25 Z Z Z λF s=>(AC (AE (AB Z Z (AD (AC (AE ?_))))));refine AB Z Z (AD (AC (AC (AE (AB Z Z (AD (A0 (HD (α:=Nat×Nat) (λq=>⟨22,[(0,.d (.sl none (l.map AF))),(1,.d (AF x)),(5,(.d (AL q.2))),(6,(.d (AF (q.1:Int))))],[]⟩) (λq=>q.1<=l.length/\q.2=(l.take q.1).count x) (λq=>l.length - q.1) ((0,0)) (⟨υ _,Z⟩) (eF ⟨Z,Z,Z,Z,trivial⟩) ?_))))))));rintro ⟨k,c⟩ ⟨j,i⟩;dsimp only at j i⊢;refine AC (AC (AE (dd Z Z (dd Z Z (J (CB Z E0 Z) (J (BN Z Z Z) (AD (Ac Z (λg=>?_) (λg=>?_)))))))))
 .have b:k<l.length:=Ba g;refine AZ (AC (A0 (AC ?_)));have o:c<=k:=by have h:=List.count_le_length (a:=x) (l:=l.take k);rw [Ξ,<-i] at h;omega
  refine AE (dd Z Z (dd Z Z (J (Bh (k) Z Z (Z) (Ab b) E0 Z BU Z) (J (D2 Z Z Aw Z) (dd Z Z (J (Li Z Z Z) (AD (Ac Z (λf=>?_) (λf=>?_)))))))))
  .refine AE ?_;refine dd Z Z (J (Ar Z Z (AO (c+1) (by omega)) Z) (AB Z Z (AD (AE (dd Z Z (J (Ar Z Z (AO (k+1) (by omega)) Z) (AB Z Z (AD ?_))))))));exact ⟨(k+1,c+1),⟨b,by show c+1=(l.take (k+1)).count x;rw [χ b,List.count_append,List.count_singleton,<-i];simp [f]⟩,by show l.length - (k+1)<l.length - k;omega,⟨Z,Z,λ_ _=>R8.get (l:=[(0,_),(1,_),(5,_),(6,_)]) ⟨Z,Z,Z,Z,trivial⟩⟩⟩
  .refine AZ (AE (dd Z Z (J (Ar Z Z (AO (k+1) (by omega)) Z) (AB Z Z (AD ?_)))));exact ⟨(k+1,c),⟨b,by show c=(l.take (k+1)).count x;rw [χ b,List.count_append,List.count_singleton,<-i];simp [f]⟩,by show l.length - (k+1)<l.length - k;omega,⟨Z,Z,λ_ _=>R8.get (l:=[(0,_),(1,_),(5,_),(6,_)]) ⟨Z,Z,Z,Z,trivial⟩⟩⟩
 .refine BC (AC (AE (dd Z Z (AB Z Z (AD (A4 ?_))))));exact ⟨_,[],[],A3 Z,Z,Z,by rw [i,ς (by have h:=g;omega)],Z⟩
theorem lI (h:tD f):CG f:=⟨by have:=h.1;omega,by have:=h.2.1;omega,λi a=>by have:=h.2.2 i a;omega⟩
def Ve (W:Int ->Int ->Bool) (c:Int) (l o:List Int):List Int:=l.foldl (λo x=>if (!decide (x∈o) && W c x)=true then o++ [x] else o) o
theorem LP {W:Int ->Int ->Bool} {c:Int}:Ve W c (j::a) o=Ve W c a (if (!decide (j∈o) && W c j)=true then o++ [j] else o):=rfl
theorem iI {W:Int ->Int ->Bool} {c:Int}:∀(l o:List Int) (x:Int),x∈Ve W c l o↔x∈o\/(x∈l/\W c x=true)
 | [],o,x=>by unfold Ve;simp
 | a::l,o,x=>by
  have g:=iI (W:=W) (c:=c) l (if (!decide (a∈o) && W c a)=true then o++ [a] else o) x;rw [LP,g,fP]
  by_cases h:(!decide (a∈o) && W c a)=true
  .rw [ϱ h,ν,ζ];simp only [fV] at h
   constructor
   .rintro ((b | rfl) | b)
    .exact .inl b
    .exact .inr ⟨.inl Z,h.2⟩
    .exact .inr ⟨.inr b.1,b.2⟩
   .rintro (b | ⟨rfl | b,f⟩)
    .exact .inl (.inl b)
    .exact .inl (.inr Z)
    .exact .inr ⟨b,f⟩
  .rw [θ h]
   constructor
   .rintro (b | b)
    .exact .inl b
    .exact .inr ⟨.inr b.1,b.2⟩
   .rintro (b | ⟨rfl | b,f⟩)
    .exact .inl b
    .refine .inl (Classical.byContradiction λi=>h ?_);rw [f,fb i];rfl
    .exact .inr ⟨b,f⟩
theorem Ty {W:Int ->Int ->Bool} {c:Int}:∀(l o:List Int),o<+:Ve W c l o
 | [],o=>List.prefix_refl o
 | a::l,o=>by
  rw [LP];refine List.IsPrefix.trans ?_ (Ty l _)
  split
  .exact List.prefix_append _ _
  .exact List.prefix_refl o
theorem OO {W:Int ->Int ->Bool} {c:Int}:∀(l o:List Int),o.Nodup ->(Ve W c l o).Nodup
 | [],o,h=>h
 | a::l,o,h=>by
  rw [LP];refine OO l _ ?_
  split
  .rename_i b
   rw [fV] at b;have i:a∉o:=by simpa using b.1
   rw [ip];exact ⟨h,by simp,λx g y f e=>i (by rw [ζ.1 f] at e;exact e▸g)⟩
  .exact h
structure BI (l:List Int) (a:Int) (i:Nat) (o:List Int):Prop where
 le:i<=o.length
 nd:o.Nodup
 sb:∀x∈o,x∈a::l
theorem BI.len {i:Nat} (h:BI a j i o):o.length<=a.length+1:=by
 have:=Ck h.nd h.sb;omega
theorem BI.step {W:Int ->Int ->Bool} {l:List Int} {a:Int} {i:Nat} {o:List Int} (h:BI l a i o) (g:i<o.length) (c:Int):BI l a (i+1) (Ve W c l o):=
 ⟨fO g (Ty l o).length_le,OO l o h.nd,λx f=>by
  rcases (iI l o x).1 f with b | b
  .exact h.sb x b
  .exact gG _ b.1⟩
inductive uU (W:Int ->Int ->Bool) (l:List Int) (a:Int):Int ->Prop
 | refl:uU W l a a
 | step {y x:Int} (h:uU W l a y) (hx:x∈l) (hw:W y x=true):uU W l a x
theorem pS (n:Nat) (q:Nat ->Bool):((List.range n).filter q).length<=n:=by grind
theorem Tf (a:List AM) (E:List (eR×Nat)):(ey a E).length<=E.length/\∀x∈ey a E,x.length<=E.length:=by grind [ey,fg,Nf]
theorem OC (p:ee) (l:List Int):(ek p l).length<=p.it.length:=by grind [ek,jO]
theorem s7 (l:List Int) (h:l.length<=100000):AK prog 17 [.d (JL l),.d (JL l)] (Aa true):=by
 have:=Nb l l h h
 grind
theorem VR {i:Nat} (a:i<E.length):Cw E i∈E.map Prod.fst:=by rw [CX a];exact ie (ξ _)
structure ua (p:ee) (L:List Int) (W:List (List Int)) (c:List Int):Prop where
 two:2<=c.length
 len:c.length<=p.it.length
 nd:c.Nodup
 lg:∀x∈c,x∈eU p/\x∉CL p
 wt:∀x∈c,∃(m:Nat) (h:m<L.length) (h2:m<W.length),L[m]=x/\∃y,y∈W[m]/\y∈c
theorem eE {a:List Nat}:a∈fg c C↔∃k,k<c/\(∀j,j<k ->¬C k j)/\a=(List.range c).filter λj=>dec (C k j):=by
 unfold fg;rw [κ]
 constructor
 .rintro ⟨k,b,e⟩;rw [Γ,Θ,U0] at b;exact ⟨k,b.1,b.2,e.symm⟩
 .rintro ⟨k,g,f,e⟩;exact ⟨k,by rw [Γ,Θ,U0];exact ⟨g,f⟩,e.symm⟩
theorem LM (g:∀i j,C i j ->C j i) (f:∀i j k,C i j ->C j k ->C i k):(fg c C).Pairwise λa b=>∀x∈a,∀y∈b,¬C x y:=by
 unfold fg;rw [fz];have h:((List.range c).filter λk=>dec (∀j,j<k ->¬C k j)).Pairwise (· < ·):=List.Pairwise.sublist gE iz
 grind [iv,U0]
theorem WO (a:∀i,C i i) (g:∀i j k,C i j ->C j k ->C i k) (i:Nat) (b:i<c):∃k,k<c/\(∀j,j<k ->¬C k j)/\C i k:=by
 induction i using Nat.strongRecOn with
 | ind i f=>
  by_cases h:∀j,j<i ->¬C i j
  .exact ⟨i,b,h,a i⟩
  grind
theorem d6 (s:∀i,C i i) (r:∀i j,C i j ->C j i) (o:∀i j k,C i j ->C j k ->C i k):((fg c C).map List.length).sum=c:=by
 have u:(fg c C).flatten.Nodup:=by
  rw [List.Nodup,List.pairwise_flatten];refine ⟨λf l=>?_,(LM r o).imp λ{a b} h x g y t e=>h x g y t (by rw [e];exact s y)⟩;obtain ⟨k,_,_,rfl⟩:=eE.1 l;exact (List.Pairwise.sublist gE iz).imp λh e=>by omega
 have v:∀x,x∈(fg c C).flatten↔x∈List.range c:=λx=>by
  rw [List.mem_flatten,Θ]
  constructor
  .rintro ⟨f,l,g⟩;obtain ⟨k,_,_,rfl⟩:=eE.1 l
   grind
  .intro g;obtain ⟨k,w,A,z⟩:=WO s o x g;exact ⟨_,eE.2 ⟨k,w,A,Z⟩,by rw [Γ,Θ,U0];exact ⟨g,r _ _ z⟩⟩
 rw [<-List.length_flatten,((jT u List.nodup_range).2 v).length_eq,gI]
structure q9 (p:ee) (S:List Int) (T:List (List Int)):Prop where
 sum:(T.map List.length).sum=S.length
 el:∀c∈T,c.Nodup/\c.length<=p.it.length/\∀x∈c,x∈S/\∃a,a∈p.it/\a.id=x
 ap:T.Pairwise λc d=>∀x∈c,∀y∈d,∀a b,a∈p.it ->b∈p.it ->a.id=x ->b.id=y ->¬HZ (er p) a b
theorem MG (F:A6 f=0) (J:S.Nodup) (M:∀x∈S,x∈f.it.map eR.id):q9 f S (ey (er f) (ek f S)):=by
 have r:=XT (HX F).2.1;have t:((eX f.it).map eR.id).Nodup:=by have:=DW F;rwa [show ea f=eX f.it from ϱ F] at this
 have N:qf (ek f S):=TA t (EP f S)
 have g:∀i,i<(ek f S).length ->Cw (ek f S) i∈f.it/\(Cw (ek f S) i).id∈S:=λi s=>by
  grind [VR,EP,I9]
 have v:(ek f S).length=S.length:=by
  have H:((ek f S).map λe=>e.1.id).Nodup:=by
   grind [ek]
  have C:((ek f S).map λe=>e.1.id).Perm S:=(jT H J).2 λx=>by
   have:((ek f S).map λe=>e.1.id)=((eX f.it).filter λi=>decide (i.id∈S)).map eR.id:=by rw [<-EP,fS];rfl
   rw [this,κ]
   constructor
   .rintro ⟨i,s,rfl⟩;simpa using (Γ.1 s).2
   .intro u;obtain ⟨i,s,rfl⟩:=κ.1 (M x u);exact ⟨i,Γ.2 ⟨(I9 f.it).mem_iff.2 s,by simpa using u⟩,Z⟩
  rw [<-C.length_eq,ψ]
 have G:∀i,Cn (er f) (ek f S) i i:=λi=> .refl i;have B:∀i j,Cn (er f) (ek f S) i j ->Cn (er f) (ek f S) j i:=λi j h=>h.symm;have uG:∀i j k,Cn (er f) (ek f S) i j ->Cn (er f) (ek f S) j k ->Cn (er f) (ek f S) i k:=λi j k h C=>Rh.trans h C;refine ⟨?_,λc E=>?_,?_⟩
 .unfold ey;rw [fS,show (List.length∘Cc (ek f S))=List.length from funext λl=>Nf _ _,d6 G B uG,v]
 .obtain ⟨d,D,rfl⟩:=κ.1 E;obtain ⟨k,T,_,rfl⟩:=eE.1 D;refine ⟨?_,by rw [Nf];have:=pS (ek f S).length λj=>dec (Cn (er f) (ek f S) k j);have:=OC f S;omega,λx u=>?_⟩
  .unfold Cc;rw [List.Nodup,fz];refine iv (λ{a b} H C U e=>?_) (List.Pairwise.sublist gE iz);have:=N a b (Θ.1 (Γ.1 H).1) (Θ.1 (Γ.1 C).1) e;omega
  .obtain ⟨i,s,rfl⟩:=κ.1 u;have o:=Θ.1 (Γ.1 s).1;exact ⟨(g i o).2,_,(g i o).1,Z⟩
 .unfold ey;rw [fz];refine iv (λ{c d} E D h x u y I a b L K R Q s=>?_) (LM B uG);obtain ⟨i,A,rfl⟩:=κ.1 u;obtain ⟨j,z,rfl⟩:=κ.1 I;obtain ⟨_,_,_,rfl⟩:=eE.1 E;obtain ⟨_,_,_,rfl⟩:=eE.1 D;have o:=Θ.1 (Γ.1 A).1;have w:=Θ.1 (Γ.1 z).1;have P:=IU r L (g i o).1 R;have O:=IU r K (g j w).1 Q;refine h i A j z (Rh.one (Cq.2 ⟨o,w,?_⟩));rw [<-P,<-O];exact s
abbrev u9:FuncId:=90
def Sc (S:List Int) (x:Int):Bool:=!decide (x∈S)
theorem SM (a:N g=some (.cells 124 [O2 h])) (c:GX N h S) (id:Int):
  AJ prog u9 [.d (AF id),.d (pD g 0)] [(41,[.multi N])] λr i=>r= .d (Aa (Sc S id))/\i=[(41,[.multi N])]:=by
 refine As func90 Z Z ntmps90 Z Z Z λF j=>(AC (AE (AB Z Z (AD ?_))));refine AC (AE (J (D4 (f:=41) Z Z a Z S3 Z) (dd Z Z (V (UZ (Da c id) Z [41] ⟨Z,trivial⟩ Z Z Z Z Z Z Z Z Z) (J (OX Z Z) (AB Z Z (AD (A4 ?_))))))));exact ⟨_,[41],_,A3 Z,Z,Z,by unfold Sc;simp,Z⟩
abbrev kr (b7:Nat):D:= .fn u9 [] [pD b7 0]
theorem pH (o:N g=some (.cells 124 [O2 h])) (v:GX N h S) (l:List Int) (y:l.length<=100000):
  AJ prog 138 [.d (JL l),.d (kr g)] [(41,[.multi N])] λr w=>r= .d (AF (Jm (Sc S) l))/\w=[(41,[.multi N])]:=by
 refine As func138 Z Z ntmps138 Z Z Z λF t=>(AC (AE (AB Z Z (AD ?_))));refine AC (AC (AE (dd Z Z (J (CB Z E0 Z) (dd Z Z (AD (A0 (BX (α:=Nat) (λk=>⟨19,[(0,.d (JL l)),(1,.d (kr g)),(7,(.d (AF (l.length:Int)))),(8,(.d (AF (k:Int))))],[(41,[.multi N])]⟩) (λk=>k<=l.length/\∀x∈l.take k,Sc S x=false) (λk=>l.length - k) (0) (⟨υ _,by simp⟩) (AY t [41] Z Z ⟨Z,Z,Z,Z,trivial⟩) ?_))))))));rintro k ⟨u,j⟩;refine AC (AE (J (BN Z Z Z) (AD (AC (Ac Z (λs=>?_) (λs=>?_))))))
 .have f:k<l.length:=Ba s;refine AZ (AC (A0 (AC (AE (dd Z Z (AB Z Z (AD (AC ?_))))))));refine AE (dd Z Z (dd Z Z (dd Z Z (J (Bh (k) Z Z (Z) (Ab f) E0 Z BU Z) (J (D2 Z Z Aw Z) (V (UZ (SM o v l[k]) Z [41] ⟨Z,trivial⟩ Z Z Z Z Z Z Z Z Z) (AD (JJ Z (λi=>?_) (λi=>?_)))))))))
  .refine AC (AE (dd Z Z (AB Z Z (AD (A4 ?_)))));exact ⟨_,[41],_,A3 Z,Z,Z,Ax (by unfold Jm;rw [F6 f j (by simpa using i)]),Z⟩
  .refine AZ (AE (J (Ar Z Z (AO (k+1) (by omega)) Z) (dd Z Z (AD ?_))));exact ⟨k+1,⟨by show k+1<=_;omega,by rw [χ f];intro x c;rcases ν.1 c with c | c;exact j x c;rw [ζ.1 c];simpa using i⟩,by show l.length - (k+1)<l.length - k;omega,AY t [41] Z (Z) ⟨Z,Z,Z,Z,trivial⟩⟩
 .refine BC (AC (AE (AB Z Z (AD (A4 ?_)))));exact ⟨_,[41],_,A3 Z,Z,Z,Ax (by unfold Jm;rw [Gt (λx c=>j x (by rw [ς (by have a:=s;omega)];exact c))]),Z⟩
def MK (S l:List Int):List Int:=l.filter λx=>!Sc S x
theorem oo (S l:List Int):MK S l=l.filter λx=>decide (x∈S):=by unfold MK Sc;simp
theorem Wm (h:∀x∈a,Sc S x=false):MK S a=a:=List.filter_eq_self.2 λx b=>by rw [h x b];rfl
theorem om (b:k<a.length) (h:Sc S a[k]=false):MK S (a.take (k+1))=MK S (a.take k)++ [a[k]]:=by
 unfold MK;rw [EO b,ϱ (by rw [h];rfl)]
theorem Wl (b:k<a.length) (h:Sc S a[k]=true):MK S (a.take (k+1))=MK S (a.take k):=by grind [MK,EO]
theorem ol (S l:List Int):(MK S l).length<=l.length:=gM _ _
theorem py (X:∀h m,N h=some m ->m.FlatM) (K:N g=some (.cells 124 [O2 h])) (W:GX N h S) (l:List Int) (hl:l.length<=100000):AJ prog 88 [.own 930 0 l.length,.d (kr g)] [(930,[.rowD 3 1 (l.map AF)]),(41,[.multi N])] λr H'=>r= .own 930 0 (MK S l).length/\H'=[(930,[.rowD 3 1 ((MK S l++List.replicate (l.length - (MK S l).length) 0).map AF)]),(41,[.multi N])]:=by
 have s:=pH K W l hl
 cases hfi:l.findIdx? (Sc S) with
 | none=>
  have L:∀x∈l,Sc S x=false:=λx O=>by have:=List.findIdx?_eq_none_iff.1 hfi x O;simpa using this
  have f:Jm (Sc S) l= -1:=by unfold Jm;rw [hfi]
  rw [f] at s;have D:=Wm L;refine As func88 Z Z ntmps88 Z Z Z λF M=>(AC (AE (AB Z Z (AD (AC (AE ?_))))));refine dd Z Z (dd Z Z (V (PM [930] s (by exact ⟨.inr ⟨_,_,Z,.own Z Z (by simp) (ς (by simp)),Z⟩,.inl Z,trivial⟩) Z X ⟨Z,trivial⟩ Z Z Z Z Z Z Z) (AB Z Z (AD (AC (AC (AE (dd Z Z ?_))))))));refine J (Li Z Z Z) (AD (DO Z (Z) (AC (AE (dd Z Z (AB Z Z (AD (A4 ?_))))))));exact ⟨_,[930,41],_,A3 Z,Z,Z,by rw [D],by rw [D];simp⟩
 | some v=>
  obtain ⟨Q,E,G⟩:=List.findIdx?_eq_some_iff_getElem.1 hfi;have f:Jm (Sc S) l=(v:Int):=by unfold Jm;rw [hfi]
  rw [f] at s
  have C:∀x∈l.take v,Sc S x=false:=λx O=>by
   obtain ⟨j,hj,rfl⟩:=iY.1 O;have:=G j (by omega)
   simpa using this
  have P:MK S (l.take (v+1))=l.take v:=by rw [Wl Q E,Wm C]
  refine As func88 Z Z ntmps88 Z Z Z λF M=>(AC ?_);refine AE (AB Z Z (AD (AC (AE (dd Z Z (dd Z Z (V (PM [930] s (by exact ⟨.inr ⟨_,_,Z,.own Z Z (by simp) (ς (by simp)),Z⟩,.inl Z,trivial⟩) Z X ⟨Z,trivial⟩ Z Z Z Z Z Z Z) (AB Z Z ?_))))))));refine AD (AC (AC (AE (dd Z Z (J (Li Z Z Z) (AD (D3 Z ((fb (by omega))) (AZ ?_))))))));refine AC (AC (AE (dd Z Z (J (Ar Z Z (AO (v+1) (by omega)) Z) (AB Z Z (AD (A0 (BX (α:=Nat×Nat×List Int) (λq=>⟨42,[(0,(.own 930 0 l.length)),(1,(.d (kr g))),(5,(.d (AF (q.1:Int)))),(6,(.d (AF (q.2.1:Int))))],[(930,[.rowD 3 1 (q.2.2.map AF)]),(41,[.multi N])]⟩) (λq=>q.2.1<=l.length/\q.1<q.2.1/\q.2.2.length=l.length/\q.2.2.take q.1=MK S (l.take q.2.1)/\q.2.2.drop q.2.1=l.drop q.2.1) (λq=>l.length - q.2.1) ((v,v+1,l)) (⟨by show v+1<=_;omega,iC _,Z,P.symm,Z⟩) (AY M [930,41] Z Z ⟨Z,Z,Z,Z,trivial⟩) ?_))))))));rintro ⟨i,j,c⟩ ⟨T,U,k,t,u⟩;dsimp only at T U k t u⊢;refine AC (AC (AE (dd Z Z (dd Z Z (J (QD Z E0 Z) (J (BN Z Z Z) (AD (Ac Z (λB=>?_) (λB=>?_)))))))))
  .have o:j<l.length:=Ba B;refine AZ (AC (A0 (AC (AE ?_))));have H:j<c.length:=by omega
   have z:c[j]=l[j]:=by have Y:(c.drop j)[0]? =(l.drop j)[0]?:=by {rw [u]};rw [i9,i9,gg,ω H,ω o] at Y;injection Y
   refine dd Z Z (dd Z Z (J (Ce (j) Z Z (Z) (o) Z E0 BU Z) (J (D1 Z Z (Ab H) Z Aw Z) (AB Z Z ?_))));refine AD (AC (AE (dd Z Z (dd Z Z (V (UZ (SM K W c[j]) Z [41] ⟨Z,trivial⟩ Z Z Z Z Z Z Z Z Z) (J (OZ Z Z) (AD (JJ Z (λA=>?_) (λA=>?_)))))))))
   .have y:Sc S l[j]=false:=by rw [<-z];simpa using A
    refine AC (AE (dd Z Z (dd Z Z (dd Z Z (J (Ce (i) Z Z (Z) ((by omega)) Z E0 BU Z) (V (Ef (c) (c[j]) Z Z Z Z Z Z (by omega) Z BU) (AD (AE ?_))))))));refine dd Z Z (J (Ar Z Z (AO (i+1) (by omega)) Z) (AB Z Z (AD (AE (dd Z Z (J (Ar Z Z (AO (j+1) (by omega)) Z) (AB Z Z (AD ?_))))))));exact ⟨(i+1,j+1,_),⟨by show j+1<=_;omega,by show i+1<j+1;omega,by show (c.set i c[j]).length=_;rw [fq];exact k,by show (c.set i c[j]).take (i+1)=MK S (l.take (j+1));rw [om o y,<-t,χ (by rw [fq];omega),List.getElem_set_self,List.take_set_of_le (ϖ i),z],by show (c.set i c[j]).drop (j+1)=l.drop (j+1);rw [List.drop_set_of_lt (by omega),<-List.tail_drop,<-List.tail_drop,u]⟩,by show l.length - (j+1)<l.length - j;omega,AY M [930,41] Z (Z) ⟨Z,Z,Z,Z,trivial⟩⟩
   .have y:Sc S l[j]=true:=by rw [<-z];simpa using A
    refine AZ (AE (dd Z Z (J (Ar Z Z (AO (j+1) (by omega)) Z) (AB Z Z (AD ?_)))));exact ⟨(i,j+1,c),⟨by show j+1<=_;omega,by show i<j+1;omega,k,by show c.take i=MK S (l.take (j+1));rw [Wl o y,t],by show c.drop (j+1)=l.drop (j+1);rw [<-List.tail_drop,<-List.tail_drop,u]⟩,by show l.length - (j+1)<l.length - j;omega,AY M [930,41] Z (Z) ⟨Z,Z,Z,Z,trivial⟩⟩
  .refine BC (AC ?_);have R:j=l.length:=by have a:=B;omega
   have w:c.take i=MK S l:=by rw [t,R,fw]
   have I:i=(MK S l).length:=by rw [<-w,Ξ];omega
   refine AE (dd Z Z (dd Z Z (L5 (emb:=AF) (zd:=0) c i Z Z Z Z k.symm Z (by omega) E0 BU zeroValue3 Z Z Z Z Z Z ?_)));refine AD (AC (AE (dd Z Z (dd Z Z (J (Fx (i) Z Z Z (by simp only [ψ,Δ,Ξ,List.length_replicate];omega) Z E0 BU Z) (AB Z Z (AD (A4 ?_))))))));exact ⟨_,[930,41],_,A3 Z,Z,Z,by rw [<-I],by rw [w,k,I]⟩
def QG (N:MF):Prop:=∀b m,N b=some m ->m.FlatM
theorem VX:QG λ_=>none:=λ_ _ h=>by cases h
theorem GO {b:Nat} {o:A7} (h:QG N) (a:o.FlatM):QG (BJ N b o):=by grind [QG,BJ]
theorem cp {b:Option (List Nat×Nat)} {l:List (Int×Bool)}:(A7.map b (BK AF Aa l)).FlatM:=λe a=>by
 obtain ⟨x,_,rfl⟩:=κ.1 a;exact ⟨Z,Z⟩
theorem X5 (l:List Int) (t:l.Nodup) (z:l.length<=1000000):AJ prog 66 [.d (.sl none (l.map AF))] [] λr x=>∃b N,r= .d (O2 b)/\x=[(41,[.multi N])]/\GX N b l/\QG N:=by
 refine As func66 Z Z ntmps66 Z Z Z λF j=>(AC (AE (AB Z Z (AD ?_))));refine AC (Fc 41 Z Z Z (AE (V (O4 1 Z Z Z Z) (Ko 6 1 41 j Z Z Z Z Z Z Z Z Z Z (λ_=>rfl) λm y=>(cj 41 m Z (EB _ _ _) Z (V (Bn 2 Z2 Z Z Z Z) (V (B1 Z Z Z Z Z Z Z Zp) (AD ?_))))))));refine AC (AC (AE (dd Z Z (J (CB Z E0 Z) (dd Z Z (AD (A0 (BX (α:=Nat×MF) (λq=>⟨17,[(3,(.ptr 2 0 0)),(7,(.d (.sl none (l.map AF)))),(8,(.d (AF (l.length:Int)))),(9,(.d (AF (q.1:Int))))],[(2,[.blk 137 [.d (mD m)]]),(41,[.multi q.2])]⟩) (λq=>q.1<=l.length/\q.2 m=some (.map none (BK AF Aa (At (l.take q.1))))/\QG q.2) (λq=>l.length - q.1) ((0,_)) (⟨υ _,EB _ _ _,by exact GO (GO VX (by intro e s;cases s)) (by intro e s;cases s)⟩) (AY j [2,41] Z Z ⟨Z,Z,Z,Z,trivial⟩) ?_))))))));rintro ⟨k,N⟩ ⟨u,i,g⟩;dsimp only at u i g⊢;refine AC (AE (J (BN Z Z Z) (AD (AC (Ac Z (λh=>?_) (λh=>?_))))))
 .refine AZ (AC (A0 (AC ?_)));have a:k<l.length:=Ba h;refine AE (J (Bh (k) Z Z (Z) (Ab a) E0 Z BU Z) (J (D2 Z Z Aw Z) (AB Z Z (AD ?_))));refine AE (J (A2 Z Z Z P2 Z) (dd Z Z (V (Mf (f:=41) (At (l.take k)) l[k] true Z Z i Z EL HS Z Z) (AD (AE (J (Ar Z Z (AO (k+1) (by omega)) Z) (dd Z Z (AD ?_))))))));exact ⟨(k+1,_),⟨a,by show BJ _ _ _ _=_;rw [EB,χ a,ZT (Jc t a)],GO g cp⟩,by show l.length - (k+1)<l.length - k;omega,AY j [2,41] Z (Z) ⟨Z,Z,Z,Z,trivial⟩⟩
 .refine BC (AC ?_);have o:k=l.length:=by have:=h;omega
  rw [o,fw] at i;refine XX (ds:=[mD m]) 3 2 41 j Z Z Z Z Z Z Z Z Z Z Z (λ_=>rfl) λb w=>(AE (J (RW (ds:=[]) (es:=[pD b 0]) Z Z Z Z Z) (AB Z Z (AD (A4 ?_)))));exact ⟨_,[41],_,A3 Z,Z,Z,b,_,Z,Z,⟨m,EB _ _ _,by rw [Ft (λe=>by rw [e,w] at i;cases i)];exact i⟩,GO g (λc v=>by rw [ζ.1 v];rfl)⟩
def JN (p:ee) (S:List Int) (r:AM):Prop:=∃i,i∈p.it/\i.id∈S/\r∈(dR (er p) i).map Prod.fst
def EZ (l:List Int) (i:eR):eR:=⟨i.id,i.pr,i.sq,i.po,i.pa,MK l i.af⟩
noncomputable def ei (p:ee) (S:List Int):ee:=⟨p.ro.filter λx=>dec (JN p S x.r),(p.it.filter λi=>decide (i.id∈S)).map (EZ S)⟩
def LT (rs:List AM) (E:List (eR×Nat)) (k:Nat) (r:AM):Prop:=∃i,i<k/\r∈(dR rs (Cw E i)).map Prod.fst
theorem X9 (h:E.map Prod.fst=(ea f).filter λb=>decide (b.id∈a)) (c:∀b,b∈ea f↔b∈f.it):LT (er f) E E.length i↔JN f a i:=by
 constructor
 .grind [VR,LT,JN]
 .rintro ⟨x,k,g,o⟩;have t:x∈E.map Prod.fst:=by rw [h,Γ];exact ⟨(c _).2 k,by simpa using g⟩
  obtain ⟨e,s,rfl⟩:=κ.1 t;obtain ⟨b,j,rfl⟩:=iL.1 s;exact ⟨b,j,by rw [CX j];exact o⟩
theorem U5 {a:List AM}:LT a E (k+1) i↔LT a E k i\/i∈(dR a (Cw E k)).map Prod.fst:=by grind [LT]
theorem Uq (p:ee) (l:List Int) (hf:CG p) (hl:l.length<=100000) (hC:DM p l=0) (hE:A6 p=0) (hn:l.Nodup):AK prog 34 [.d (Bf p),.d (JL l)] (.tup [Bf (ei p l),AF 0]):=by
 have hi30:=hf.i;have hr100:=hf.r;have hck:=Py p l hf.b hl (by omega);rw [hC] at hck;have hxm:∀i,i∈ea p↔i∈p.it:=λi=>by rw [show ea p=eX p.it from ϱ hE];exact (I9 p.it).mem_iff
 have hol:(ea p).length<=30:=by rw [show ea p=eX p.it from ϱ hE,jO];exact hi30
 refine As func34 Z Z ntmps34 Z Z Z λF j=>(AC (AE (V (Bz 1 Z Z Z Z Z Z Z) (V (Bn 2 QJ Z Z Z Z) (AB Z Z (AD ?_))))));refine AC (AC (AE (J (BE Z Z BM Z Z Z) (dd Z Z (J (BT (hck) Z Z) (AB Z Z (AD (AC ?_))))))));refine AE (dd Z Z (J (D7 Z Z Z) (AD (D3 Z (fb (by decide)) (AZ (AC (AE (dd Z Z ?_))))))));refine RX (UY (X5 l hn (by omega)) Z [41] ⟨Z,trivial⟩ Z Z Z Z (λr H' ⟨b,N,O,K,_⟩=>by subst O K;exact ⟨Z,Z,Z⟩) Z) Z ?_;rintro _ ⟨r,H',⟨b,N0,O,K,hW0,hFl0⟩,rfl⟩;subst O K;refine V (Bn 7 Z3 Z Z Z Z) (V (B1 Z Z Z Z Z Z Z Zq) (AD (AC (XX (ds:=[O2 b]) 7 7 41 j Z Z Z Z Z Z Z Z Z Z Z (λ_=>rfl) λv hb7=>?_))));have hW:=hW0.put (o:= .cells 124 [O2 b]) hb7;have hFl:=GO (b:=v) (o:= .cells 124 [O2 b]) hFl0 (λc hc=>by rw [ζ.1 hc];rfl);have s:=EB N0 v (.cells 124 [O2 b])
 obtain ⟨N,hNe⟩:∃N,BJ N0 v (.cells 124 [O2 b])=N:=⟨_,Z⟩
 rw [hNe] at hW hFl s;rw [hNe];refine AE (V (O4 50 Z Z Z Z) (AB Z Z (AD (AC (AC (AE (J (BE Z Z BM Z Z Z) (J (D4 (f:=41) Z Z s Z S3 Z) ?_))))))));refine RX (UY (LH p hE hf WF [pD b 0] N (λid=>decide (id∈l)) (Da hW)) Z [41,40] ⟨Z,Z,trivial⟩ Z Z Z Z (λr H' ⟨E,M,O,K,_⟩=>by subst O K;exact ⟨Z,Z,Z⟩) Z) Z ?_;rintro _ ⟨r,H',⟨E,M,O,K,hR,hEq⟩,rfl⟩;subst O K;refine J (Ii Z (ψ ..) Ri Z) (dd Z Z (AD (A0 (BX (α:=Nat×List (AM×Bool)) (λq=>⟨97,[(2,(.ptr 1 0 0)),(4,(.ptr 2 0 0)),(7,(.d (pD v 0))),(8,(.map 50 0)),(29,(.d (.sl none (E.map C4)))),(30,(.d (AL E.length))),(31,(.d (AL q.1)))],[(1,[.blk 39 [.d (.sl none (p.ro.map Bt)),.d (.sl none (p.it.map Af))]]),(2,[.blk 39 [.d Bg,.d Bg]]),(50,[BB CC Aa q.2]),(41,[.multi N]),(40,[.multi M])]⟩) (λq=>q.1<=E.length/\∀r,A1 q.2 r false=true↔LT (er p) E q.1 r) (λq=>E.length - q.1) ((0,[])) (⟨υ _,λr=>⟨(λh=>by simp [A1] at h),λ⟨i,h,_⟩=>absurd h (Nat.not_lt_zero i)⟩⟩) (AY j [1,2,50,41,40] Z Z ⟨Z,Z,Z,Z,Z,Z,Z,trivial⟩) ?_))));rintro ⟨k,U⟩ ⟨Y,w⟩;dsimp only at Y w⊢;refine AC (AE (J (BN Z Z Z) (AD (AC (Ac Z (λH=>?_) (λH=>?_))))))
 .refine AZ (AC (A0 (AC ?_)));have a:k<E.length:=Ba H;have hE30:E.length<=30:=by have h1:(E.map Prod.fst).length<=(ea p).length:=(by rw [hEq];exact gM _ _);rw [ψ] at h1;omega
  have hek:=ξ a;refine AE (J (Bh (k) Z Z (Z) (Ab a) Ri Z FX Z) (J (GW Z Z JV Z) (V (Bn 10 LS Z Z Z Z) (V (B1 Z Z Z Z Z Z Z FX) (AD (AC ?_))))))
  obtain ⟨L,hLe⟩:∃L,dR (er p) (E[k]).1=L:=⟨_,Z⟩
  have y:=hR _ hek;rw [hLe] at y;refine LQ 40 (E[k]).2 Z y (λ_ _=>rfl) λB c hB hBn=>?_
  obtain ⟨M1,z⟩:∃M1,BJ M (E[k]).2 (.map (some (B,c)) (Iz L))=M1:=⟨_,Z⟩
  rw [z];have t:M1 (E[k]).2=some (.map (some (B,c)) (Iz L)):=by rw [<-z,EB]
  refine AE (J (AU Z KG Z Z Z) (J (A2 Z Z Z S2 Z) (V (K4 5 (f:=40) Z Z t Z Bq Z Z Z Z) (AD (A0 (BX (α:=List Nat×List (AM×Int)×List (AM×Bool)) (λq=>⟨97,[(2,(.ptr 1 0 0)),(4,(.ptr 2 0 0)),(7,(.d (pD v 0))),(8,(.map 50 0)),(29,(.d (.sl none (E.map C4)))),(30,(.d (AL E.length))),(31,(.d (AL k))),(37,(.ptr 5 0 0))],[(5,[.iter 40 (E[k]).2 c q.1]),(1,[.blk 39 [.d (.sl none (p.ro.map Bt)),.d (.sl none (p.it.map Af))]]),(2,[.blk 39 [.d Bg,.d Bg]]),(50,[BB CC Aa q.2.2]),(41,[.multi N]),(40,[.multi M1])]⟩) (λq=>(q.2.1++Bi L B q.1).Perm L/\∀r,A1 q.2.2 r false=true↔LT (er p) E k r\/r∈q.2.1.map Prod.fst) (λq=>(Bi L B q.1).length) (([],[],U)) (⟨by show ([]++Bi L B []).Perm L;rw [mH (by simpa [BK] using hB)];exact List.Perm.refl _,λr=>by show A1 U r false=true↔_;rw [w r];simp⟩) (AY j [5,1,2,50,41,40] Z Z ⟨Z,Z,Z,Z,Z,Z,Z,Z,trivial⟩) ?_))))));rintro ⟨seen,acc,U⟩ ⟨hP,w⟩;dsimp only at hP w⊢;refine AC (AE (Q5 (L) Z Z Z (t) Z (λS=>?_) (λj38 P g v38 R hb38 hB38 u=>⟨_,Z,?_⟩)))
  .rw [S] at hP;have u5:∀r,A1 U r false=true↔LT (er p) E (k+1) r:=λr=>by rw [U5,w r,CX a,hLe];exact or_congr Iff.rfl ((show acc.Perm L by simpa using hP).map Prod.fst).mem_iff
   refine cj 40 (E[k]).2 Z t Z ?_;rw [show BJ M1 (E[k]).2 (.map none (Iz L))=M by rw [<-z,FG];exact Ks y];refine J (Cf Z Z Z) (AD (AC (D3 Z Z (BC (AE (J (Ar Z Z (AO (k+1) (by omega)) Z) (dd Z Z (AD ?_))))))));exact ⟨(k+1,U),⟨a,u5⟩,by show E.length - (k+1)<E.length - k;omega,AY j [1,2,50,41,40] Z (Z) ⟨Z,Z,Z,Z,Z,Z,Z,trivial⟩⟩
  .refine J (Cf Z Z Z) (AD (AC (DO Z Z (AZ (A0 (AC (AE (J (K5 (L) j38 P Z Z Z (t) R hb38 Z) ?_))))))));refine J (Cf Z Z Z) (V (Bn 11 JM Z Z Z Z) (V (B1 Z Z Z Z Z Z Z Xd) (AD (AE (dd Z Z (J (BE Z Z CQ Z Z Z) (V (UO (U) (g) (true) Z Z Z P9 By Z Z) (AD ?_))))))));exact ⟨(seen++ [P],acc++ [(g,v38)],BA U g true),⟨GG hP u,λr=>by show A1 (BA U g true) r false=true↔_;rw [GK,fU,ν];by_cases e:r=g<;>simp [e,w r]⟩,by show (Bi L B (seen++ [P])).length<(Bi L B seen).length;rw [u.length_eq];exact iC _,AY j [5,1,2,50,41,40] Z (Z) ⟨Z,Z,Z,Z,Z,Z,Z,Z,trivial⟩⟩
 .refine BC (AC ?_);have hke:k=E.length:=by have:=H;omega
  have Q:∀r,A1 U r false=dec (JN p l r):=λr=>by rw [Bool.eq_iff_iff,U0,w r,hke];exact X9 hEq hxm
  refine AE (V (Bn 12 QJ Z Z Z Z) (AD (AC (AC ?_))));refine Cp 12 0 0 901 Lq Z Z Z Z Z Z Z (AE (J (AU Z Dp Z Z Z) (J (A2 Z Z Z Ob Z) (J (CB Z S1 Z) (dd Z Z (AD (A0 (BX (α:=Nat×List eY) (λq=>⟨97,[(2,(.ptr 1 0 0)),(4,(.ptr 2 0 0)),(7,(.d (pD v 0))),(8,(.map 50 0)),(12,(.ptr 12 0 0)),(46,(.d (.sl none (p.ro.map Bt)))),(47,(.d (AL p.ro.length))),(48,(.d (AL q.1)))],[(901,[.rowD 88 7 (q.2.map Bt)]),(12,[.blk 39 [.own 901 0 q.2.length,.d Bg]]),(1,[.blk 39 [.d (.sl none (p.ro.map Bt)),.d (.sl none (p.it.map Af))]]),(2,[.blk 39 [.d Bg,.d Bg]]),(50,[BB CC Aa U]),(41,[.multi N])]⟩) (λq=>q.1<=p.ro.length/\q.2=(p.ro.take q.1).filter λx=>dec (JN p l x.r)) (λq=>p.ro.length - q.1) ((0,[])) (⟨υ _,Z⟩) (AY j [901,12,1,2,50,41] Z Z ⟨Z,Z,Z,Z,Z,Z,Z,Z,trivial⟩) ?_))))))));rintro ⟨k,T⟩ ⟨Y,hT⟩;dsimp only at Y hT⊢;refine AC (AE (J (BN Z Z Z) (AD (AC (Ac Z (λG=>?_) (λG=>?_))))))
  .refine AZ (AC (A0 (AC ?_)));have a:k<p.ro.length:=Ba G;have hTl:T.length<=100:=by have:=gM (λx:eY=>dec (JN p l x.r)) (p.ro.take k);rw [<-hT,Ξ] at this;omega
   refine AE (J (Bh (k) Z Z (Z) (Ab a) S1 Z Ln Z) (J (GW Z Z Ui Z) (V (Bn 14 QI Z Z Z Z) (V (B1 Z Z Z Z Z Z Z Ln) ?_))));refine AD (AC (AE (dd Z Z (J (AU Z EU Z Z Z) (J (BE Z Z CQ Z Z Z) (J (HY (U) (p.ro[k].r) (false) _ Z Z Z P9 By Rd Z Z) (AD (JJ Z (λD=>?_) (λD=>?_)))))))))
   .refine AE (J (AU Z Dp Z Z Z) (J (A2 Z Z Z Ob Z) (J (BE Z Z Ui Z Z Z) ?_)));refine V (D6 51 Lq Z Z Z Z Z Z Z Z) (V (H1 (T) ([p.ro[k]]) Z Z Z Z Z Z Z Z Lq (by simp only [Φ];omega) Z Z Z Z) (J (AU Z Dp Z Z Z) (V (B1 Z Z Z Z Z Z Z nt) (AD (AE (J (Ar Z Z (AO (k+1) (by omega)) Z) (dd Z Z (AD ?_))))))));exact ⟨(k+1,T++ [p.ro[k]]),⟨a,by show _=(p.ro.take (k+1)).filter _;rw [χ a,iJ,<-hT,hG,ϱ (by rw [<-Q];exact D)];rfl⟩,by show p.ro.length - (k+1)<p.ro.length - k;omega,AY j [901,12,1,2,50,41] Z (Z) ⟨Z,Z,Z,Z,Z,Z,Z,Z,trivial⟩⟩
   .refine AZ (AE (J (Ar Z Z (AO (k+1) (by omega)) Z) (dd Z Z (AD ?_))));exact ⟨(k+1,T),⟨a,by show _=(p.ro.take (k+1)).filter _;rw [χ a,iJ,<-hT,hG,θ (by rw [<-Q];simpa using D)];simp⟩,by show p.ro.length - (k+1)<p.ro.length - k;omega,AY j [901,12,1,2,50,41] Z (Z) ⟨Z,Z,Z,Z,Z,Z,Z,Z,trivial⟩⟩
  .refine BC (AC (AC ?_));have X:k=p.ro.length:=by have:=G;omega
   have hTf:T=p.ro.filter λx=>dec (JN p l x.r):=by rw [hT,X,fw]
   refine jN (ys:=T.map Bt) 12 0 0 901 Z Z Z (by simp) (ς (by simp)) Z Z Z Z Z Z ?_;refine Cp 12 0 1 902 K8 Z Z Z Z Z Z Z (AE (J (AU Z Cy Z Z Z) (J (A2 Z Z Z Is Z) (J (CB Z F0 Z) (dd Z Z (AD (A0 (BX (α:=Nat×List eR) (λq=>⟨97,[(2,(.ptr 1 0 0)),(4,(.ptr 2 0 0)),(7,(.d (pD v 0))),(12,(.ptr 12 0 0)),(64,(.d (.sl none (p.it.map Af)))),(65,(.d (AL p.it.length))),(66,(.d (AL q.1)))],[(902,[.rowD 55 6 (q.2.map Af)]),(12,[.blk 39 [.d (.sl none (T.map Bt)),.own 902 0 q.2.length]]),(2,[.blk 39 [.d Bg,.d Bg]]),(41,[.multi N])]⟩) (λq=>q.1<=p.it.length/\q.2=((p.it.take q.1).filter λi=>decide (i.id∈l)).map (EZ l)) (λq=>p.it.length - q.1) ((0,[])) (⟨υ _,Z⟩) (AY j [902,12,2,41] Z Z ⟨Z,Z,Z,Z,Z,Z,Z,trivial⟩) ?_))))))));rintro ⟨k,I⟩ ⟨Y,hI⟩;dsimp only at Y hI⊢;refine AC (AE (J (BN Z Z Z) (AD (AC (Ac Z (λC=>?_) (λC=>?_))))))
   .refine AZ (AC (A0 (AC ?_)));have a:k<p.it.length:=Ba C;have hxk:=hf.x _ (ξ a);have hIl:I.length<=30:=by rw [hI,ψ];have:=gM (λi:eR=>decide (i.id∈l)) (p.it.take k);rw [Ξ] at this;omega
    refine AE (J (Bh (k) Z Z (Z) (Ab a) F0 Z CY Z) (J (GW Z Z Bs Z) (V (Bn 16 E4 Z Z Z Z) (V (B1 Z Z Z Z Z Z Z CY) (AD (AC ?_))))));refine AC (AE (J (D4 (f:=41) Z Z s Z S3 Z) (J (AU Z OY Z Z Z) (J (A2 Z Z Z Aw Z) (V (UZ (Da hW p.it[k].id) Z [41] ⟨Z,trivial⟩ Z Z Z Z Z Z Z Z Z) (J (OX Z Z) (AD (Ac Z (λA=>?_) (λA=>?_)))))))))
    .refine BC (AE (J (Ar Z Z (AO (k+1) (by omega)) Z) (dd Z Z (AD ?_))));exact ⟨(k+1,I),⟨a,by show _=((p.it.take (k+1)).filter _).map _;rw [χ a,iJ,fU,<-hI,hG,θ (by simpa using A)];simp⟩,by show p.it.length - (k+1)<p.it.length - k;omega,AY j [902,12,2,41] Z (Z) ⟨Z,Z,Z,Z,Z,Z,Z,trivial⟩⟩
    .refine AZ (AC (DB [[],[0],[0,1],[],[3],rg 5,rg 5,rg 7,rg 8,rg 9] mixed Z (DP (AQ [16] Z (AU Z Fn Z Z Z) (Az [75] Z Z (λ_=>A5 (A2 Z Z Z VC Z)) (AQ [76] Z (BT (Tn p.it[k].po (by omega)) Z Z) (AQ [16] Z (AU Z Gu Z Z Z) ?_)))))));refine Az [78] Z Z (λ_=>A5 (A2 Z Z Z YN Z)) (Cg 5 Z Z Z (DP (AQ [79] Z (BT (Tm p.it[k].pa (by omega)) Z Z) (AQ [16] Z (AU Z Fn Z Z Z) (Cg 7 Z Z Z (Ag 8 Z Z (V (B1 Z Z Z Z Z Z Z ns) (AD ⟨Z,?_⟩))))))));refine Ag 9 Z Z (J (AU Z Gu Z Z Z) (AD ⟨Z,?_⟩));refine Ag 10 Z Z (V (B1 Z Z Z Z Z Z Z nq) (AD ⟨Z,?_⟩));refine Cr (AC (AE (J (AU Z Do Z Z Z) (J (A2 Z Z Z BG Z) (V (EX ((To p.it[k].af (by omega)).by [(20,930)] Z) Z [930] ⟨Z,trivial⟩ Z Z Z Z Z Z Z Z Z) (J (RW (ds:=[]) (es:=[pD v 0]) Z Z Z Z Z) ?_))))));refine V (EX (py hFl s hW p.it[k].af (by omega)) Z [930,41] ⟨Z,Z,trivial⟩ Z Z Z Z Z Z Z Z Z) (J (AU Z Do Z Z Z) (V (B1 Z Z Z Z Z Z Z CZ) (AD (jN (ys:=(MK l p.it[k].af).map AF) 16 0 5 930 Z Z Z (by simp) (by rw [fU,List.take_append_of_le_length (by simp),ς (by simp)]) Z Z Z Z Z Z (AE (J (AU Z Cy Z Z Z) (J (A2 Z Z Z Is Z) (J (BE Z Z Bs Z Z Z) ?_))))))));refine V (D6 52 K8 Z Z Z Z Z Z Z Z) (V (H1 (I) ([EZ l p.it[k]]) Z Z Z Z Z Z Z Z K8 (by simp only [Φ];omega) Z Z Z Z) (J (AU Z Cy Z Z Z) (V (B1 Z Z Z Z Z Z Z jd) (AD (AE (J (Ar Z Z (AO (k+1) (by omega)) Z) (dd Z Z (AD ?_))))))));exact ⟨(k+1,I++ [EZ l p.it[k]]),⟨a,by show _=((p.it.take (k+1)).filter _).map _;rw [χ a,iJ,fU,<-hI,hG,ϱ (by simpa using A)];rfl⟩,by show p.it.length - (k+1)<p.it.length - k;omega,AY j [902,12,2,41] Z (Z) ⟨Z,Z,Z,Z,Z,Z,Z,trivial⟩⟩
   .refine BC (AC ?_);have W:k=p.it.length:=by have:=C;omega
    have hIf:I=(p.it.filter λi=>decide (i.id∈l)).map (EZ l):=by rw [hI,W,fw]
    refine jN (ys:=I.map Af) 12 0 1 902 Z Z Z (by simp) (ς (by simp)) Z Z Z Z Z Z ?_;rw [hTf,hIf];refine AE (J (BE Z Z BM Z Z Z) (V (B1 Z Z Z Z Z Z Z Xe) (AB Z Z (AD (A4 ?_)))));exact ⟨_,[],_,A3 Z,Z,Z,Z,Z⟩
end Go.Proofs.YteifpcnphnhaoaaGreat
