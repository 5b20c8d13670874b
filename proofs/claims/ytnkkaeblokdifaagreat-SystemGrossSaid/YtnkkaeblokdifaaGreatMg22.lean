/- Layer 30: the next exclusion. -/
import Derived.Test.YtnkkaeblokdifaaGreatMg21
namespace Go.Proofs.YtnkkaeblokdifaaGreat
open Go.RowKit
set_option maxRecDepth 100000
def onN (N:Net) (i:Nat):Bool:=(N.nd.getD i Bc).on
def ndX (N:Net) (x:Nd):Option J0:=if x.on=true then F5 N x else none
def SF (N:Net) (y:Po):Option J0:=if M9 y y.sum=true then (y.q.reverse.find? (onN N)).map fun i=>⟨(N.nd.getD i Bc).it.id,0,y.r,-1⟩ else none
def D3 (N:Net):Option J0:=match N.nd.findSome? (ndX N) with
 | some e=>some e
 | none=>N.po.findSome? (SF N)
theorem H9 {α β:Type} {f:α ->Option β}:∀{l:List α} {k:Nat} (hk:k<l.length) {b:β},(∀x∈l.take k,f x=none) ->f l[k]=some b ->l.findSome? f=some b
 | a::l,0,_,b,_,h=>by simp at h;rw [List.findSome?_cons,h]
 | a::l,k+1,hk,b,h0,h=>by
  have h1:f a=none:=h0 a (by simp);have ih:=H9 (l:=l) (k:=k) (by simpa using hk) (fun x hx=>h0 x (by simp [hx])) (by simpa using h);rw [List.findSome?_cons,h1];exact ih
theorem H8 {α β:Type} {f:α ->Option β} {l:List α} (h:∀x∈l,f x=none):l.findSome? f=none:=List.findSome?_eq_none_iff.2 h
def stRO:Bool ->LoopState
 | true=> .done
 | false=> .ready
def pdRO:Bool ->Option Code
 | true=>some .ret
 | false=>none
def HP (N:Net) (_st:Option Nat) (e:Nat×Nat):Option Nat×Bool:=if onN N e.2=true then (some e.2,false) else (none,true)
theorem YS (N:Net) (q:List Nat):∀n,n≤q.length ->Bv (HP N) none (K8 q n)=((q.take n).reverse.find? (onN N))
 | 0,_=>rfl
 | n+1,h=>by
  have hn:n<q.length:=by omega
  show Bv (HP N) none ((n,q.getD n 0)::K8 q n)=_;rw [T1,List.take_succ_eq_append_getElem hn,List.reverse_append,List.reverse_singleton,List.singleton_append,List.find?_cons,Bd 0 hn];unfold HP;dsimp only
  cases ho:onN N q[n] with
  | true=>rfl
  | false=>exact YS N q n (by omega)
theorem U3 {P:Program} {l:Nat} {nb:Nat ->Nat} {H:Option Nat ->Hp} (N:Net) (q:List Nat) (hY:∀k (hk:k<q.length),ES P l (YX nb (k,q[k])) (H none) fun v H'=>v= .d (.raw (.bool (!onN N q[k])))∧H'=H (if onN N q[k]=true then some q[k] else none)):∀n,n≤q.length ->Co P l (YX nb) H (HP N) none (K8 q n)
 | 0,_=>trivial
 | n+1,h=>by
  have hn:n<q.length:=by omega
  have hy:=hY n hn;show Co P l (YX nb) H (HP N) none ((n,q.getD n 0)::K8 q n);rw [Bd 0 hn];refine ⟨hy.mono fun v H' ⟨e1,e2⟩=>⟨by rw [e1];unfold HP;cases onN N q[n]<;>rfl,by rw [e2];unfold HP;cases onN N q[n]<;>rfl⟩,fun hgo=>?_⟩
  have hoff:onN N q[n]=false:=by
   cases ho:onN N q[n] with
   | false=>rfl
   | true=>unfold HP at hgo;dsimp only at hgo;rw [ho] at hgo;cases hgo
  have:(HP N none (n,q[n])).1=none:=by unfold HP;dsimp only;rw [hoff];rfl
  rw [this];exact U3 N q hY n (by omega)
abbrev excB (e:J0):AQ:= .blk 148 [.d (AH e.id),.d (AH e.re),.d (AH e.r.k),.d (Am e.r.acc.o),.d (AH e.r.acc.k),.d (Am e.r.acc.a),.d (Am e.r.f),.d (Am e.r.t),.d (AH e.by_)]
def fndE (N:Net) (y:Po) (o:Option Nat):J0:=match o with
 | none=>exc0
 | some i=>⟨(N.nd.getD i Bc).it.id,0,y.r,-1⟩
abbrev hBk (N:Net) (y:Po) (pbk mv:Nat) (bs:Option (List Nat×Nat)) (L:List (Int×Value)) (M:MF) (o:Option Nat):Hp:=[(1,[excB (fndE N y o)]),(2,[.blk 4 [.d (BJ o.isSome)]]),(4,[.blk 109 [.d (BK pbk)]]),(40,[.multi M]),(50,[.map bs (Bw AH Kb L)]),(51,[.addr 50 0 (.map (some mv))])]
set_option maxHeartbeats 2000000 in
theorem next_c {wb mv:Nat} {nb pb:Nat ->Nat} {N:Net} {M:MF} (bs:Option (List Nat×Nat)) (h:CK wb mv nb pb N M) (hw:NetW N) (hs:QX N.po 1000000000000000000):
  A2 Tryz.prog 63 [.d (pD wb 0)] (HW mv bs (F8 nb (BY N)) M) fun r H'=>r= .d (excR (D3 N))∧H'=HW mv bs (F8 nb (BY N)) M:=by
 have hwb:=h.w;have hnr:BX M N.nh 99 1 ((List.range N.nd.length).map fun i=>BK (nb i)):=h.rs.1 .n;have hpr:BX M N.mh 109 1 ((List.range N.po.length).map fun j=>BK (pb j)):=h.rs.1 .m;have hnz:=SA hnr;have hpz:=SA hpr;rw [List.length_range] at hnz hpz;have hnl:=hw.n
 obtain ⟨L,hL⟩:∃L,F8 nb (BY N)=L:=⟨_,rfl⟩
 have hina:=fun i x hx=>inadm_c (i:=i) (x:=x) bs h hw hx;rw [hL] at hina⊢;refine Hq Tryz.func63 Z Z Tryz.ntmps63 Z Z Z fun F hF hFl=>?_;refine AF (AJ (U (DO 1 I6 Z Z Z Z) (U (DO 2 zl4 Z Z Z Z) (AG (AF (AF (AJ (AC Z Z ?_))))))))
 first | refine J (BS Z Z) ?_ | refine J (BQ Z Z) ?_ | refine J (BT Z Z) ?_ | refine J (BR Z Z) ?_
 first | refine J (AM rfl GT Z Z Z) ?_ | refine J (AO rfl GT Z Z Z) ?_ | refine J (AP rfl GT Z Z Z) ?_ | refine J (AN rfl GT Z Z Z) ?_ | refine J (AL rfl GT Z Z Z) ?_
 refine J (Ej (f:=40) Z Z (hwb) rfl Gb rfl) (J (SK hnz rfl Tryz.underlying98 rfl) (AC Z Z (AG (Al (DG (α:=Nat) (fun k=>⟨74,[(0,.d (pD wb 0)),(2,(.ptr 1 0 0)),(3,(.ptr 2 0 0)),(15,(.d (hdr N.nh N.nd.length))),(16,(.d (AH (N.nd.length:Int)))),(17,(.d (AH (k:Int))))],(1,[excB exc0])::(2,[.blk 4 [.d (BJ false)]])::HW mv bs L M⟩) (fun k=>k≤N.nd.length∧∀x∈N.nd.take k,ndX N x=none) (fun k=>N.nd.length - k) (0) (⟨Nat.zero_le _,by simp⟩) (BA hF [1,2,40,50,51] Z Z ⟨rfl,rfl,rfl,rfl,rfl,rfl,trivial⟩) ?_)))));rintro k ⟨hk0,hkb⟩;refine AF (AJ ?_)
 first | refine J (CD Z Z Z) ?_ | refine J (CE Z Z Z) ?_
 refine AG (AF ?_)
 first | refine Ay rfl (fun h18=>?_) (fun h18=>?_) | refine At rfl (fun h18=>?_) (fun h18=>?_)
 ·have hk1:k<N.nd.length:=DA h18;refine Ak (AF (Al (AF ?_)))
  obtain ⟨x,hx⟩:∃x,N.nd[k]?=some x:=⟨_,List.getElem?_eq_getElem hk1⟩
  have hxk:N.nd[k]=x:=by rw [List.getElem?_eq_getElem hk1] at hx;injection hx
  obtain ⟨hxb,_,_⟩:=h.nn k x hx;obtain ⟨rb,rc,hre⟩:=SJ hnr (j:=k) (by rw [List.length_range];exact hk1);have hrow:=QK hnr hre;refine AJ (J (SL hre (k) Z Z Z hk1 Tryz.underlying98 PM rfl) (J (Zdk (f:=40) (e:=k) (off:=0) rfl (by omega) rfl (hrow) ((by rw [List.getElem?_map,List.getElem?_range hk1];rfl)) rfl St rfl) ?_));refine AD Z Z (AG (AF (AF (AJ (AC Z Z ?_)))))
  first | refine J (BS Z Z) ?_ | refine J (BQ Z Z) ?_ | refine J (BT Z Z) ?_ | refine J (BR Z Z) ?_
  first | refine J (AM rfl FJ Z Z Z) ?_ | refine J (AO rfl FJ Z Z Z) ?_ | refine J (AP rfl FJ Z Z Z) ?_ | refine J (AN rfl FJ Z Z Z) ?_ | refine J (AL rfl FJ Z Z Z) ?_
  refine J (Ej (f:=40) Z Z (hxb) rfl on4 rfl) ?_
  first | refine J (GZ Z Z) ?_ | refine J (GP Z Z) ?_
  refine AG ?_
  first | refine Ay rfl (fun h25=>?_) (fun h25=>?_) | refine At rfl (fun h25=>?_) (fun h25=>?_)
  ·have hnone:ndX N x=none:=by unfold ndX;rw [if_neg (by simpa using h25)]
   refine CW ?_
   try have hnone:ndX N x=none:=by unfold ndX;split<;>first | exact hin | rfl
   refine AJ (J (Bi Z Z (Ac (k+1) (by omega)) rfl) (AC Z Z (AG ?_)));exact ⟨k+1,⟨by show k+1≤_;omega,by rw [List.take_succ_eq_append_getElem hk1];intro e he;rcases List.mem_append.1 he with he | he;exact hkb e he;rw [List.mem_singleton.1 he,hxk];exact hnone⟩,by show N.nd.length - (k+1)<N.nd.length - k;omega,BA hF [1,2,40,50,51] rfl (rfl) ⟨rfl,rfl,rfl,rfl,rfl,rfl,trivial⟩⟩
  ·refine Ak (AF (AJ (AC Z Z (AC Z Z (U (Fp (hina k x hx) rfl [40,50,51] ⟨rfl,rfl,rfl,trivial⟩ Z Z Z Z Z Z Z Z Z) (AC Z Z ?_))))))
   first | refine J (B6 Z Z Z) ?_ | refine J (B7 Z Z Z) ?_
   first | refine J (B6 Z Z Z) ?_ | refine J (B7 Z Z Z) ?_
   refine U (DO 3 I6 Z Z Z Z) (U (CF Z Z Z Z Z Z Z J7) (AD Z Z (AG (AF (AJ ?_)))))
   cases hin:F5 N x
   ·refine AC Z Z (AG (Fs rfl (rfl) (Ak ?_)))
    try have hnone:ndX N x=none:=by unfold ndX;split<;>first | exact hin | rfl
    refine AJ (J (Bi Z Z (Ac (k+1) (by omega)) rfl) (AC Z Z (AG ?_)));exact ⟨k+1,⟨by show k+1≤_;omega,by rw [List.take_succ_eq_append_getElem hk1];intro e he;rcases List.mem_append.1 he with he | he;exact hkb e he;rw [List.mem_singleton.1 he,hxk];exact hnone⟩,by show N.nd.length - (k+1)<N.nd.length - k;omega,BA hF [1,2,40,50,51] rfl (rfl) ⟨rfl,rfl,rfl,rfl,rfl,rfl,trivial⟩⟩
   ·refine AC Z Z (AG (EB rfl (rfl) (AF (AJ ?_))))
    first | refine J (Av Z Z OH rfl) ?_ | refine J (Aw Z Z OH Z Z Z) ?_ | refine J (Ax Z Z (rfl) rfl OH rfl) ?_
    refine U (CF Z Z Z Z Z Z Z J7) (U (CF Z Z Z Z Z Z Z sz4) (AG (Ae ?_)));exact ⟨_,[40,50,51],_,Aa rfl,rfl,rfl,by unfold D3;rw [H9 hk1 hkb (by rw [hxk];unfold ndX;rw [if_pos (by simpa using h25)];exact hin)];rfl,rfl⟩
 ·refine CW (AF (AF ?_));have hnn:N.nd.findSome? (ndX N)=none:=H8 (by have e:k=N.nd.length:=(by have h:=h18;omega);rw [e,List.take_length] at hkb;exact hkb);refine AJ (AC Z Z ?_)
  first | refine J (BS Z Z) ?_ | refine J (BQ Z Z) ?_ | refine J (BT Z Z) ?_ | refine J (BR Z Z) ?_
  first | refine J (AM rfl JU Z Z Z) ?_ | refine J (AO rfl JU Z Z Z) ?_ | refine J (AP rfl JU Z Z Z) ?_ | refine J (AN rfl JU Z Z Z) ?_ | refine J (AL rfl JU Z Z Z) ?_
  refine J (Ej (f:=40) Z Z (hwb) rfl UM rfl) (J (SK hpz rfl Tryz.underlying100 rfl) (AC Z Z (AG (Al (DG (α:=Nat) (fun j=>⟨74,[(2,(.ptr 1 0 0)),(3,(.ptr 2 0 0)),(38,(.d (hdr N.mh N.po.length))),(39,(.d (AH (N.po.length:Int)))),(40,(.d (AH (j:Int))))],(1,[excB exc0])::(2,[.blk 4 [.d (BJ false)]])::HW mv bs L M⟩) (fun j=>j≤N.po.length∧∀y∈N.po.take j,SF N y=none) (fun j=>N.po.length - j) (0) (⟨Nat.zero_le _,by simp⟩) (BA hF [1,2,40,50,51] Z Z ⟨rfl,rfl,rfl,rfl,rfl,trivial⟩) ?_)))));rintro j ⟨hj0,hjb⟩;refine AF (AJ ?_)
  first | refine J (CD Z Z Z) ?_ | refine J (CE Z Z Z) ?_
  refine AG (AF ?_)
  first | refine Ay rfl (fun h41=>?_) (fun h41=>?_) | refine At rfl (fun h41=>?_) (fun h41=>?_)
  ·have hj1:j<N.po.length:=DA h41;refine Ak (AF (Al (AF ?_)))
   obtain ⟨y,hy⟩:∃y,N.po[j]?=some y:=⟨_,List.getElem?_eq_getElem hj1⟩
   have hyk:N.po[j]=y:=by rw [List.getElem?_eq_getElem hj1] at hy;injection hy
   have hym:=List.mem_of_getElem? hy;obtain ⟨hyb,hyq⟩:=h.pp j y hy;obtain ⟨rb,rc,hre⟩:=SJ hpr (j:=j) (by rw [List.length_range];exact hj1);have hrow:=QK hpr hre;have hys:=hs y hym;have hov:=LR h hy y.sum (hw.rm y hym) (by omega);have hql:=hw.ql y hym;refine AJ (J (SL hre (j) Z Z Z hj1 Tryz.underlying100 W3 rfl) (J (Zdk (f:=40) (e:=j) (off:=0) rfl (by omega) rfl (hrow) ((by rw [List.getElem?_map,List.getElem?_range hj1];rfl)) rfl BE rfl) ?_));refine U (DO 4 zl109 Z Z Z Z) (U (CF Z Z Z Z Z Z Z W3) (AG (AF (AF (Gp [[],[],[1],[1,2],[1,2,3],[0,1,2,3,4],[0,1,2,3,4,5]] BF rfl (Hh ?_))))))
   first | refine AE [9] [4] Z Z (fun _=>AB (AY Z Z BE rfl)) ?_ | refine AE [9] [4] Z Z (fun _=>AB (AW Z Z Z BE rfl)) ?_ | refine AE [9] [4] Z Z (fun _=>AB (AX Z Z (rfl) rfl BE rfl)) ?_
   first | refine AE [9] [4] Z Z (fun _=>AB (AY Z Z BE rfl)) ?_ | refine AE [9] [4] Z Z (fun _=>AB (AW Z Z Z BE rfl)) ?_ | refine AE [9] [4] Z Z (fun _=>AB (AX Z Z (rfl) rfl BE rfl)) ?_
   first | refine AE [45] [] Z Z (fun _=>AB (BS Z Z)) ?_ | refine AI [45] Z Z (fun _=>AB (BS Z Z)) ?_ | refine AE [45] [] Z Z (fun _=>AB (BQ Z Z)) ?_ | refine AI [45] Z Z (fun _=>AB (BQ Z Z)) ?_ | refine AE [45] [] Z Z (fun _=>AB (BT Z Z)) ?_ | refine AI [45] Z Z (fun _=>AB (BT Z Z)) ?_ | refine AE [45] [] Z Z (fun _=>AB (BR Z Z)) ?_ | refine AI [45] Z Z (fun _=>AB (BR Z Z)) ?_
   first | refine AE [46] [] Z Z (fun _=>AB (AM rfl Hu Z Z Z)) ?_ | refine AI [46] Z Z (fun _=>AB (AM rfl Hu Z Z Z)) ?_ | refine AE [46] [] Z Z (fun _=>AB (AO rfl Hu Z Z Z)) ?_ | refine AI [46] Z Z (fun _=>AB (AO rfl Hu Z Z Z)) ?_ | refine AE [46] [] Z Z (fun _=>AB (AP rfl Hu Z Z Z)) ?_ | refine AI [46] Z Z (fun _=>AB (AP rfl Hu Z Z Z)) ?_ | refine AE [46] [] Z Z (fun _=>AB (AN rfl Hu Z Z Z)) ?_ | refine AI [46] Z Z (fun _=>AB (AN rfl Hu Z Z Z)) ?_ | refine AE [46] [] Z Z (fun _=>AB (AL rfl Hu Z Z Z)) ?_ | refine AI [46] Z Z (fun _=>AB (AL rfl Hu Z Z Z)) ?_
   refine AE [47] [40] Z Z (fun _=>AB (Ej (f:=40) Z Z (hyb) rfl BI rfl)) (GR 5 Z Z Z (BC 6 Z Z (U (Fp hov rfl [40] ⟨rfl,trivial⟩ Z Z Z Z Z Z Z Z Z) (AG ⟨rfl,?_⟩))));refine BC 7 Z Z ?_
   cases hovy:M9 y y.sum
   ·first | refine J (GZ Z Z) ?_ | refine J (GP Z Z) ?_
    refine AG ⟨rfl,?_⟩;refine GQ (EB rfl (rfl) (CW ?_));have hpnone:SF N y=none:=by unfold SF;first | (rw [if_neg (by rw [hovy];decide)]) | (rw [if_pos hovy,←ho];rfl)
    refine AJ (J (Bi Z Z (Ac (j+1) (by omega)) rfl) (AC Z Z (AG ?_)));exact ⟨j+1,⟨by show j+1≤_;omega,by rw [List.take_succ_eq_append_getElem hj1];intro e he;rcases List.mem_append.1 he with he | he;exact hjb e he;rw [List.mem_singleton.1 he,hyk];exact hpnone⟩,by show N.po.length - (j+1)<N.po.length - j;omega,BA hF [1,2,40,50,51] rfl (rfl) ⟨rfl,rfl,rfl,rfl,rfl,trivial⟩⟩
   ·first | refine J (GZ Z Z) ?_ | refine J (GP Z Z) ?_
    refine AG ⟨rfl,?_⟩;refine GQ (Fs rfl (rfl) (Ak (AF (AJ ?_))))
    first | refine J (AY Z Z BE rfl) ?_ | refine J (AW Z Z Z BE rfl) ?_ | refine J (AX Z Z (rfl) rfl BE rfl) ?_
    first | refine J (BS Z Z) ?_ | refine J (BQ Z Z) ?_ | refine J (BT Z Z) ?_ | refine J (BR Z Z) ?_
    first | refine J (AM rfl EU Z Z Z) ?_ | refine J (AO rfl EU Z Z Z) ?_ | refine J (AP rfl EU Z Z Z) ?_ | refine J (AN rfl EU Z Z Z) ?_ | refine J (AL rfl EU Z Z Z) ?_
    refine J (Ej (f:=40) Z Z (hyb) rfl Gb rfl) (U (Fp (backF_c y.qh y.q.length) rfl [] trivial Z Z Z Z Z Z Z Z Z) (AG (Al ?_)));refine QA [2,3,9,38,39,40,55] rfl ?_;refine ME (γ:=Option Nat) hFl 900 Z Z Z Z Z [1,2,4,40,50,51] (CHr:=hBk N y (pb j) mv bs L M none) (fun o=>o=y.q.reverse.find? (onN N)) (fun o=>hBk N y (pb j) mv bs L M o) (fun o=>stRO o.isSome) (fun o=>pdRO o.isSome) ⟨rfl,rfl,rfl,rfl,rfl,rfl,trivial⟩ Z Z Z (fun _=>rfl) (fun _=>rfl) rfl (fun o _=>by cases o<;>simp [stRO]) (fun _ _=>⟨rfl,rfl⟩) [1,2,4,40,50,51] hF Z Z (fun _ _=>rfl) (fun l A B hA hB=>?_) (fun o ho=>?_)
    ·refine (back1_c nb y.q (by omega) hyq l (fun o:Option Nat=>(900,[.loop ⟨l,74,[(2,.ptr 1 0 0),(3,.ptr 2 0 0),(9,.ptr 4 0 0),(38,.d (hdr N.mh N.po.length)),(39,.d (AH (N.po.length:Int))),(40,.d (AH (j:Int))),(55,.fn YT [.d (.ptr (hdr y.qh y.q.length))])],stRO o.isSome,pdRO o.isSome, #[56,57],A,B⟩])::hBk N y (pb j) mv bs L M o) [900,1,2,4,40,50,51] (HP N) none (fun _=>rfl) (fun _=>rfl) (fun _=>rfl) (fun _=>rfl) ?_).mono (fun r H' ⟨e1,e2⟩=>⟨e1,_,rfl,by rw [e2,YS N y.q y.q.length (Nat.le_refl _),List.take_length]⟩);refine U3 N y.q (fun k2 hk2=>?_) y.q.length (Nat.le_refl _);have hni:y.q[k2]<N.nd.length:=h.q y hym _ (List.getElem_mem hk2)
     obtain ⟨x,hx⟩:∃x,N.nd[y.q[k2]]?=some x:=⟨_,List.getElem?_eq_getElem hni⟩
     obtain ⟨hxb,_,_⟩:=h.nn _ x hx;have hgx:N.nd.getD y.q[k2] Bc=x:=by rw [List.getD_eq_getElem?_getD,hx];rfl
     have hon:onN N y.q[k2]=x.on:=by unfold onN;rw [hgx]
     refine J2 (lf:=900) Z Z Z Z fun F hF hr=>(Bt.code hA (AJ (AD Z Z (AG (⟨rfl,_,_,rfl,rfl,rfl,rfl,?_⟩)))));refine Bt.code hB (Al (AF (AJ (AC Z Z ?_))))
     first | refine J (BS Z Z) ?_ | refine J (BQ Z Z) ?_ | refine J (BT Z Z) ?_ | refine J (BR Z Z) ?_
     first | refine J (AM rfl FJ Z Z Z) ?_ | refine J (AO rfl FJ Z Z Z) ?_ | refine J (AP rfl FJ Z Z Z) ?_ | refine J (AN rfl FJ Z Z Z) ?_ | refine J (AL rfl FJ Z Z Z) ?_
     refine J (Ej (f:=40) Z Z (hxb) rfl on4 rfl) (AG ?_)
     first | refine Ay rfl (fun h61=>?_) (fun h61=>?_) | refine At rfl (fun h61=>?_) (fun h61=>?_)
     ·refine AF (Gp [[],[0],[0,1],[0,1,2],[0,1,2,3],[],[5],[5,6],[5,6,7],[0,1,2,3,4,5,6,7,8],[0,1,2,3,4,5,6,7,8,9],[0,1,2,3,4,5,6,7,8,9,10]] BF rfl (Hh ?_))
      first | refine AE [11] [] Z Z (fun _=>AB (Be Z Z)) ?_ | refine AI [11] Z Z (fun _=>AB (Be Z Z)) ?_
      first | refine AE [62] [] Z Z (fun _=>AB (BS Z Z)) ?_ | refine AI [62] Z Z (fun _=>AB (BS Z Z)) ?_ | refine AE [62] [] Z Z (fun _=>AB (BQ Z Z)) ?_ | refine AI [62] Z Z (fun _=>AB (BQ Z Z)) ?_ | refine AE [62] [] Z Z (fun _=>AB (BT Z Z)) ?_ | refine AI [62] Z Z (fun _=>AB (BT Z Z)) ?_ | refine AE [62] [] Z Z (fun _=>AB (BR Z Z)) ?_ | refine AI [62] Z Z (fun _=>AB (BR Z Z)) ?_
      first | refine AE [63] [] Z Z (fun _=>AB (AM rfl Dn Z Z Z)) ?_ | refine AI [63] Z Z (fun _=>AB (AM rfl Dn Z Z Z)) ?_ | refine AE [63] [] Z Z (fun _=>AB (AO rfl Dn Z Z Z)) ?_ | refine AI [63] Z Z (fun _=>AB (AO rfl Dn Z Z Z)) ?_ | refine AE [63] [] Z Z (fun _=>AB (AP rfl Dn Z Z Z)) ?_ | refine AI [63] Z Z (fun _=>AB (AP rfl Dn Z Z Z)) ?_ | refine AE [63] [] Z Z (fun _=>AB (AN rfl Dn Z Z Z)) ?_ | refine AI [63] Z Z (fun _=>AB (AN rfl Dn Z Z Z)) ?_ | refine AE [63] [] Z Z (fun _=>AB (AL rfl Dn Z Z Z)) ?_ | refine AI [63] Z Z (fun _=>AB (AL rfl Dn Z Z Z)) ?_
      first | refine AE [64] [] Z Z (fun _=>AB (AM rfl Bm Z Z Z)) ?_ | refine AI [64] Z Z (fun _=>AB (AM rfl Bm Z Z Z)) ?_ | refine AE [64] [] Z Z (fun _=>AB (AO rfl Bm Z Z Z)) ?_ | refine AI [64] Z Z (fun _=>AB (AO rfl Bm Z Z Z)) ?_ | refine AE [64] [] Z Z (fun _=>AB (AP rfl Bm Z Z Z)) ?_ | refine AI [64] Z Z (fun _=>AB (AP rfl Bm Z Z Z)) ?_ | refine AE [64] [] Z Z (fun _=>AB (AN rfl Bm Z Z Z)) ?_ | refine AI [64] Z Z (fun _=>AB (AN rfl Bm Z Z Z)) ?_ | refine AE [64] [] Z Z (fun _=>AB (AL rfl Bm Z Z Z)) ?_ | refine AI [64] Z Z (fun _=>AB (AL rfl Bm Z Z Z)) ?_
      refine AE [65] [40] Z Z (fun _=>AB (Ej (f:=40) Z Z (hxb) rfl Ab rfl)) ?_
      first | refine AE [9] [4] Z Z (fun _=>AB (AY Z Z BE rfl)) ?_ | refine AE [9] [4] Z Z (fun _=>AB (AW Z Z Z BE rfl)) ?_ | refine AE [9] [4] Z Z (fun _=>AB (AX Z Z (rfl) rfl BE rfl)) ?_
      first | refine AE [67] [] Z Z (fun _=>AB (BS Z Z)) ?_ | refine AI [67] Z Z (fun _=>AB (BS Z Z)) ?_ | refine AE [67] [] Z Z (fun _=>AB (BQ Z Z)) ?_ | refine AI [67] Z Z (fun _=>AB (BQ Z Z)) ?_ | refine AE [67] [] Z Z (fun _=>AB (BT Z Z)) ?_ | refine AI [67] Z Z (fun _=>AB (BT Z Z)) ?_ | refine AE [67] [] Z Z (fun _=>AB (BR Z Z)) ?_ | refine AI [67] Z Z (fun _=>AB (BR Z Z)) ?_
      first | refine AE [68] [] Z Z (fun _=>AB (AM rfl GU Z Z Z)) ?_ | refine AI [68] Z Z (fun _=>AB (AM rfl GU Z Z Z)) ?_ | refine AE [68] [] Z Z (fun _=>AB (AO rfl GU Z Z Z)) ?_ | refine AI [68] Z Z (fun _=>AB (AO rfl GU Z Z Z)) ?_ | refine AE [68] [] Z Z (fun _=>AB (AP rfl GU Z Z Z)) ?_ | refine AI [68] Z Z (fun _=>AB (AP rfl GU Z Z Z)) ?_ | refine AE [68] [] Z Z (fun _=>AB (AN rfl GU Z Z Z)) ?_ | refine AI [68] Z Z (fun _=>AB (AN rfl GU Z Z Z)) ?_ | refine AE [68] [] Z Z (fun _=>AB (AL rfl GU Z Z Z)) ?_ | refine AI [68] Z Z (fun _=>AB (AL rfl GU Z Z Z)) ?_
      refine AE [69] [40] Z Z (fun _=>AB (OE (f:=40) Z Z (hyb) Ah Z Z (by simp [D.one]) rfl)) (GR 9 Z Z Z (BC 10 Z Z (J (DH I6 Qk Z Z Z) (AG ⟨rfl,?_⟩))));refine BC 11 Z Z (U (CF Z Z Z Z Z Z Z J7) (AG ⟨rfl,?_⟩));refine BC 12 Z Z (U (CF Z Z Z Z Z Z Z sz4) (AG ⟨rfl,?_⟩));refine GQ (Ae ?_);have ho1:onN N y.q[k2]=true:=by rw [hon];simpa using h61
      exact ⟨some .ret,_,_,[900,1,2,4,40,50,51],_,rfl,rfl,rfl,rfl,rfl,rfl,by rw [ho1];rfl,by rw [if_pos ho1];simp only [hBk,fndE,hgx];rfl⟩
     ·refine Ak ?_;have ho1:onN N y.q[k2]=false:=by rw [hon];simpa using h61
      exact ⟨none,_,_,[900,1,2,4,40,50,51],_,rfl,rfl,rfl,rfl,rfl,rfl,by rw [ho1];rfl,by rw [if_neg (by rw [ho1];decide)];rfl⟩
    ·rcases o with _ | i0
     ·have hpnone:SF N y=none:=by unfold SF;first | (rw [if_neg (by rw [hovy];decide)]) | (rw [if_pos hovy,←ho];rfl)
      refine AJ (J (Bi Z Z (Ac (j+1) (by omega)) rfl) (AC Z Z (AG ?_)));exact ⟨j+1,⟨by show j+1≤_;omega,by rw [List.take_succ_eq_append_getElem hj1];intro e he;rcases List.mem_append.1 he with he | he;exact hjb e he;rw [List.mem_singleton.1 he,hyk];exact hpnone⟩,by show N.po.length - (j+1)<N.po.length - j;omega,BA hF [1,2,40,50,51] rfl (rfl) ⟨rfl,rfl,rfl,rfl,rfl,trivial⟩⟩
     ·show Bt _ _ .ret _ _;refine Ae ?_;exact ⟨_,[40,50,51],_,Aa rfl,rfl,rfl,by unfold D3;rw [hnn];dsimp only;rw [H9 hj1 hjb (by rw [hyk];unfold SF;rw [if_pos hovy,←ho];rfl)];rfl,rfl⟩
  ·refine CW (AF (AJ (J (DH I6 Qk Z Z Z) (U (CF Z Z Z Z Z Z Z J7) (U (CF Z Z Z Z Z Z Z sz4) (AG (Ae ?_)))))));exact ⟨_,[40,50,51],_,Aa rfl,rfl,rfl,by unfold D3;rw [hnn];dsimp only;rw [H8 (by have e:j=N.po.length:=(by have h:=h41;omega);rw [e,List.take_length] at hjb;exact hjb)];rfl,rfl⟩
theorem SR.splitH {F:Fr} {s:AS} {ρ:Nat ->Nat ->Value} {act:Act} {w:World} (hs:SR F s ρ act w) (t g f:Nat) {M:MF} {T:TypeId} {kk m:Nat} {h:Hd} {xs:List D} {env':List (Nat×AV)} {hp1 hp':Hp} (hne:Nat.beq g f=false)
  (ht:get s.env t=some (.d (hdr h m))) (hn:m=xs.length) (hM:hfam s.hp f=some [.multi M]) (hr:BX M h T kk xs) (hE:Ad g s.env=some env') (hH:A7 g s.hp=some hp1) (hz:hfam hp1 g=none) (hm:CN hp1 f (Bk M h)=some hp'):
  ∃v,SR F ⟨s.n,(t,.own g 0 m)::env',(g,[.rowD T kk xs])::hp'⟩ (upd ρ g 0 v) act w:=by
 match h,ht,hr,hm with
 | some (b,cap),ht,hr,hm=>exact ⟨_,hs.splitR t g f (cap:=cap) (b:=b) hne ht hn hM hr.2 hE hH hz hm⟩
 | none,ht,hr,hm=>
  have hxs:xs=[]:=hr;subst hxs hn;have hgf:g≠f:=Nat.ne_of_beq_eq_false hne;refine ⟨.slice none 0 0,?_⟩
  have hhp:hp'=hp1:=by
   have key:∀(H H':Hp),hfam H f=some [.multi M] ->CN H f M=some H' ->H'=H:=by
    intro H
    induction H with
    | nil=>intro H' h;cases h
    | cons p r ih=>
     obtain ⟨k,l⟩:=p;intro H' h1 h2;simp only [hfam] at h1;simp only [CN] at h2
     cases hk:Nat.beq k f with
     | true=>
      rw [hk] at h1 h2;injection h1 with h1
      subst h1;simp only [isM] at h2;injection h2 with h2;exact h2.symm
     | false=>
      rw [hk] at h1 h2;dsimp only at h1 h2
      cases hr:CN r f M with
      | none=>rw [hr] at h2;cases h2
      | some r'=>
       rw [hr] at h2;injection h2 with h2
       rw [←h2,ih r' h1 hr]
   obtain ⟨a1,a2⟩:=Au hH
   have hM1:hfam hp1 f=some [.multi M]:=by
    have key2:∀(H H':Hp),CI (Bj g) H=some H' ->hfam H f=some [.multi M] ->hfam H' f=some [.multi M]:=by
     intro H
     induction H with
     | nil=>intro H' _ h;cases h
     | cons p r ih=>
      obtain ⟨k,l⟩:=p;intro H' h1 h2;simp only [CI] at h1
      cases hr:CI (Bj g) r with
      | none=>rw [hr] at h1;cases h1
      | some r'=>
       rw [hr] at h1
       cases hl:Cx (Bj g) l with
       | none=>rw [hl] at h1;cases h1
       | some l'=>
        rw [hl] at h1;injection h1 with h1;subst h1
        simp only [hfam] at h2⊢
        cases hk:Nat.beq k f with
        | true=>
         rw [hk] at h2;injection h2 with h2;subst h2
         simp only [Cx,CQ] at hl;injection hl with hl;rw [←hl]
        | false=>rw [hk] at h2;exact ih r' hr h2
    exact key2 _ _ hH hM
   exact key hp1 hp' hM1 hm
  rw [hhp]
  have h1:SR F ⟨s.n,(t,.d (.sl (some true) []))::s.env,s.hp⟩ ρ act w:=⟨hs.size,hs.defs,fun t' a ha=>by
   rcases KX ha with ⟨rfl,rfl⟩ | ⟨_,ha⟩
   ·have hr:=hs.env t _ ht
    generalize act.tmps.getD t undef=x at hr⊢
    cases hr with
    | d h=>cases h with
     | raw _=>exact .d (.sl 0 (fun b hb=>by cases hb;rfl) (fun _=>rfl) rfl (Nat.le_refl _) (Nat.zero_le _) (fun x hx=>by cases hx) (fun h=>absurd rfl h) (fun b o hb=>by cases hb))
   ·exact hs.env t' a ha,hs.heap⟩
  obtain ⟨k1,k2⟩:=Au hH
  have hz':∀i,hget s.hp g i=none:=fun i=>by
   cases hq:hget s.hp g i with
   | none=>rfl
   | some o=>
    obtain ⟨o2,q1,_⟩:=k2 _ _ _ hq;unfold hget at q1;rw [hz] at q1;cases q1
  have h2:=hs.set g 0 (.rowD T kk []) (.slice none 0 0) (hp':=(g,[.rowD T kk []])::hp1) hE hH (fun f' i=>by
   by_cases e:g=f'
   ·subst e;simp only [hget,hfam,Nat.beq_refl,Option.bind_some,true_and,Kp (o:= .rowD T kk []) rfl,hz,Option.bind_none]
    cases i<;>simp
   ·simp only [hget,hfam,ER e]
    rw [if_neg (fun hh=>e hh.1.symm)]) (fun t cs e=>by rw [hz'] at e;cases e) (fun b hb=>by cases hb) rfl rfl rfl (Nat.le_refl _) (fun _ _ _=>rfl) (fun _=>⟨[],World.ownsRow_nil w 0 T kk,⟨by simp,by simp,fun i x hx=>by simp at hx⟩,by simp⟩)
  refine ⟨h2.size,h2.defs,fun t' a ha=>?_,h2.heap⟩;rcases KX ha with ⟨rfl,rfl⟩ | ⟨_,ha⟩
  ·have hr:=hs.env t _ ht
   generalize act.tmps.getD t undef=x at hr⊢
   cases hr with
   | d h=>cases h with | raw _=>exact .own QB (Nat.le_refl _)
  ·exact h2.env t' a ha
section
variable {P:Program} {F:Fr} {Q:Exit ->AS ->Prop} {c:Code} {ops:Array Oper} {l:List Oper} {n:Nat} {env env1 env':List (Nat×AV)} {hp hp1 hp2 hp3:Hp}
theorem Je {o:Oper} (t g f:Nat) {M:MF} {T:TypeId} {kk m:Nat} {h:Hd} {xs:List D} {hp':Hp} {s2:AS} (hr:BX M h T kk xs) (hne:Nat.beq g f=false) (ht:get env t=some (.d (hdr h m))) (hn:m=xs.length) (hM:hfam hp f=some [.multi M]) (hE:Ad g env=some env') (hH:A7 g hp=some hp1) (hz:hfam hp1 g=none) (hm:CN hp1 f (Bk M h)=some hp')
  (h2:AR P F o ⟨n,(t,.own g 0 m)::env',(g,[.rowD T kk xs])::hp'⟩ s2 (Bj g)):AR P F o ⟨n,env,hp⟩ s2 (Bj g):=fun ρ act w hs=>by
 obtain ⟨v,h1⟩:=hs.splitH t g f hne ht hn hM hr hE hH hz hm;exact Zda (fun a w' ⟨ρ',h3,h4⟩=>⟨ρ',h3,fun f i hfi=>(h4 f i hfi).trans (N6 fun e=>T3 hfi e.1)⟩) (h2 _ act w h1)
end
theorem CK.row {wb mv:Nat} {nb pb:Nat ->Nat} {N N':Net} {M:MF} (h:CK wb mv nb pb N M) (r0:RI) {w0 w1:RowM} (e0:C3 nb pb N r0=w0) (e1:C3 nb pb N' r0=w1) (hR:∀r,r≠r0 ->C3 nb pb N' r=C3 nb pb N r) {b cap:Nat} (hb:Bk M w0.h b=none) (h0:w1.h=some (b,cap)) (hl:w1.xs.length≤cap):
  FF (Cj (Bk M w0.h) b (.row w1.t w1.k cap w1.xs)) (C3 nb pb N')∧∀(b':Nat) (t:TypeId) (cs:List D),M b'=some (.cells t cs) ->Cj (Bk M w0.h) b (.row w1.t w1.k cap w1.xs) b'=some (.cells t cs):=by
 subst e0 e1;refine ⟨h.rs.upd r0 hR hb h0 hl,fun b' t cs hm=>keepM hb hm fun c hc=>?_⟩;have:=h.rs.blk hc;rw [hm] at this;cases this
theorem CK.putNd {wb mv:Nat} {nb pb:Nat ->Nat} {N:Net} {M M1:MF} (h:CK wb mv nb pb N M) {i:Nat} {x x':Nd} (hx:N.nd[i]?=some x) (hc:∀(b':Nat) (t:TypeId) (cs:List D),M b'=some (.cells t cs) ->M1 b'=some (.cells t cs)) (hr:FF M1 (C3 nb pb {N with nd:=N.nd.set i x'})) (he:(∀e∈x'.ef,e.1<N.po.length)∧∀e∈x'.pl,e.1<N.po.length):
  CK wb mv nb pb {N with nd:=N.nd.set i x'} (Cj M1 (nb i) (SH x')):=by
 have hb:=h.n i x hx;have hil:=(List.getElem?_eq_some_iff.1 hx).1
 have hne:∀(b:Nat) (t:TypeId) (cs:List D),t≠107 ->M b=some (.cells t cs) ->Cj M1 (nb i) (SH x') b=some (.cells t cs):=fun b t cs ht hm=>by
  rw [PF]
  ·exact hc _ _ _ hm
  ·rintro rfl;rw [hb] at hm;injection hm with hm;injection hm with hm;exact ht hm.symm
 refine ⟨fun j z hz=>?_,fun j y hy=>hne _ _ _ (by decide) (h.p j y hy),hr.cells (hc _ _ _ hb),?_,fun j k hj hk=>h.ni j k (by simpa using hj) (by simpa using hk),h.pi,fun z hz=>?_,fun y hy=>?_⟩
 ·have hz2:(N.nd.set i x')[j]?=some z:=hz
  clear hz
  have hjl:j<N.nd.length:=by have:=(List.getElem?_eq_some_iff.1 hz2).1;rw [List.length_set] at this;exact this
  rw [List.getElem?_set] at hz2
  split at hz2
  ·rename_i e;subst e
   have e2:z=x':=by first | exact (Option.some.inj hz2).symm | (rw [if_pos hil] at hz2;exact (Option.some.inj hz2).symm)
   rw [e2];exact QC _ _ _
  ·rename_i e
   rw [PF]
   ·exact hc _ _ _ (h.n j z hz2)
   ·intro e2;exact e (h.ni j i hjl hil e2).symm
 ·show Cj M1 (nb i) (SH x') wb=some (.cells _ [hdr N.nh (N.nd.set i x').length,hdr N.mh N.po.length,_]);rw [List.length_set];exact hne _ _ _ (by decide) h.w
 ·rcases List.mem_or_eq_of_mem_set hz with hz | rfl
  ·exact h.e z hz
  ·exact he
 ·have:=h.q y hy
  simpa using this
theorem CK.putPo {wb mv:Nat} {nb pb:Nat ->Nat} {N:Net} {M M1:MF} (h:CK wb mv nb pb N M) {j:Nat} {y y':Po} (hy:N.po[j]?=some y) (hc:∀(b':Nat) (t:TypeId) (cs:List D),M b'=some (.cells t cs) ->M1 b'=some (.cells t cs)) (hr:FF M1 (C3 nb pb {N with po:=N.po.set j y'})) (hq:∀i∈y'.q,i<N.nd.length):
  CK wb mv nb pb {N with po:=N.po.set j y'} (Cj M1 (pb j) (SG y')):=by
 have hb:=h.p j y hy;have hjl:=(List.getElem?_eq_some_iff.1 hy).1
 have hne:∀(b:Nat) (t:TypeId) (cs:List D),t≠113 ->M b=some (.cells t cs) ->Cj M1 (pb j) (SG y') b=some (.cells t cs):=fun b t cs ht hm=>by
  rw [PF]
  ·exact hc _ _ _ hm
  ·rintro rfl;rw [hb] at hm;injection hm with hm;injection hm with hm;exact ht hm.symm
 refine ⟨fun i x hx=>hne _ _ _ (by decide) (h.n i x hx),fun i z hz=>?_,hr.cells (hc _ _ _ hb),?_,h.ni,fun i k hi hk=>h.pi i k (by simpa using hi) (by simpa using hk),fun x hx=>?_,fun z hz=>?_⟩
 ·have hz2:(N.po.set j y')[i]?=some z:=hz
  clear hz
  have hil:i<N.po.length:=by have:=(List.getElem?_eq_some_iff.1 hz2).1;rw [List.length_set] at this;exact this
  rw [List.getElem?_set] at hz2
  split at hz2
  ·rename_i e;subst e
   have e2:z=y':=by first | exact (Option.some.inj hz2).symm | (rw [if_pos hjl] at hz2;exact (Option.some.inj hz2).symm)
   rw [e2];exact QC _ _ _
  ·rename_i e
   rw [PF]
   ·exact hc _ _ _ (h.p i z hz2)
   ·intro e2;exact e (h.pi i j hil hjl e2).symm
 ·show Cj M1 (pb j) (SG y') wb=some (.cells _ [hdr N.nh N.nd.length,hdr N.mh (N.po.set j y').length,_]);rw [List.length_set];exact hne _ _ _ (by decide) h.w
 ·have:=h.e x hx
  simpa using this
 ·rcases List.mem_or_eq_of_mem_set hz with hz | rfl
  ·exact h.q z hz
  ·exact hq
abbrev effT:TypeId:=111
abbrev plaT:TypeId:=167
abbrev XN:TypeId:=99
abbrev UB:TypeId:=109
def FE (x:Nd) (b cap:Nat) (e:Nat×Int):Nd:={x with eh:=some (b,cap),ef:=x.ef++ [e]}
def Ho (x:Nd) (b cap:Nat) (e:Nat×Nat):Nd:={x with ph:=some (b,cap),pl:=x.pl++ [e]}
def KV (y:Po) (b cap:Nat) (i:Nat):Po:={y with qh:=some (b,cap),q:=y.q++ [i]}
theorem CK.addE {wb mv:Nat} {nb pb:Nat ->Nat} {N:Net} {M:MF} (h:CK wb mv nb pb N M) {i:Nat} {x:Nd} (hx:N.nd[i]?=some x) (e:Nat×Int) (he:e.1<N.po.length) {b cap:Nat} (hb:Bk M x.eh b=none) (hl:((x.ef++ [e]).map (YY pb)).length≤cap):
  CK wb mv nb pb {N with nd:=N.nd.set i (FE x b cap e)} (Cj (Cj (Bk M x.eh) b (.row effT 2 cap ((x.ef++ [e]).map (YY pb)))) (nb i) (SH (FE x b cap e))):=by
 have hil:=(List.getElem?_eq_some_iff.1 hx).1
 obtain ⟨h1,h2⟩:=h.row (N':={N with nd:=N.nd.set i (FE x b cap e)}) (.e i) (w0:=⟨x.eh,effT,2,x.ef.map (YY pb)⟩) (w1:=⟨some (b,cap),effT,2,(x.ef++ [e]).map (YY pb)⟩)
  (by show (⟨(N.nd.getD i Bc).eh,_,_,(N.nd.getD i Bc).ef.map _⟩:RowM)=_;rw [F6 hx])
  (by show (⟨((N.nd.set i (FE x b cap e)).getD i Bc).eh,_,_,((N.nd.set i (FE x b cap e)).getD i Bc).ef.map _⟩:RowM)=_;rw [Yq hil,if_pos rfl];rfl)
  (fun r hr=>by
   cases r with
   | q j=>rfl
   | m=>rfl
   | n=>show (⟨_,_,_,(List.range (N.nd.set i (FE x b cap e)).length).map _⟩:RowM)=_;rw [List.length_set];rfl
   | e k=>
    show (⟨((N.nd.set i (FE x b cap e)).getD k Bc).eh,_,_,((N.nd.set i (FE x b cap e)).getD k Bc).ef.map _⟩:RowM)=⟨(N.nd.getD k Bc).eh,_,_,(N.nd.getD k Bc).ef.map _⟩
    rw [Yq hil,if_neg (fun e=>hr (by rw [e]))]
   | p k=>
    show (⟨((N.nd.set i (FE x b cap e)).getD k Bc).ph,_,_,((N.nd.set i (FE x b cap e)).getD k Bc).pl.map _⟩:RowM)=⟨(N.nd.getD k Bc).ph,_,_,(N.nd.getD k Bc).pl.map _⟩
    rw [Yq hil,GF hx k Bc]
    split<;>rfl) hb rfl hl
 refine h.putNd hx h2 h1 ⟨fun z hz=>?_,(h.e x (List.mem_of_getElem? hx)).2⟩;rcases List.mem_append.1 hz with hz | hz
 ·exact (h.e x (List.mem_of_getElem? hx)).1 z hz
 ·rw [List.mem_singleton.1 hz];exact he
theorem CK.addP {wb mv:Nat} {nb pb:Nat ->Nat} {N:Net} {M:MF} (h:CK wb mv nb pb N M) {i:Nat} {x:Nd} (hx:N.nd[i]?=some x) (e:Nat×Nat) (he:e.1<N.po.length) {b cap:Nat} (hb:Bk M x.ph b=none) (hl:((x.pl++ [e]).map (plD pb)).length≤cap):
  CK wb mv nb pb {N with nd:=N.nd.set i (Ho x b cap e)} (Cj (Cj (Bk M x.ph) b (.row plaT 2 cap ((x.pl++ [e]).map (plD pb)))) (nb i) (SH (Ho x b cap e))):=by
 have hil:=(List.getElem?_eq_some_iff.1 hx).1
 obtain ⟨h1,h2⟩:=h.row (N':={N with nd:=N.nd.set i (Ho x b cap e)}) (.p i) (w0:=⟨x.ph,plaT,2,x.pl.map (plD pb)⟩) (w1:=⟨some (b,cap),plaT,2,(x.pl++ [e]).map (plD pb)⟩)
  (by show (⟨(N.nd.getD i Bc).ph,_,_,(N.nd.getD i Bc).pl.map _⟩:RowM)=_;rw [F6 hx])
  (by show (⟨((N.nd.set i (Ho x b cap e)).getD i Bc).ph,_,_,((N.nd.set i (Ho x b cap e)).getD i Bc).pl.map _⟩:RowM)=_;rw [Yq hil,if_pos rfl];rfl)
  (fun r hr=>by
   cases r with
   | q j=>rfl
   | m=>rfl
   | n=>show (⟨_,_,_,(List.range (N.nd.set i (Ho x b cap e)).length).map _⟩:RowM)=_;rw [List.length_set];rfl
   | p k=>
    show (⟨((N.nd.set i (Ho x b cap e)).getD k Bc).ph,_,_,((N.nd.set i (Ho x b cap e)).getD k Bc).pl.map _⟩:RowM)=⟨(N.nd.getD k Bc).ph,_,_,(N.nd.getD k Bc).pl.map _⟩
    rw [Yq hil,if_neg (fun e=>hr (by rw [e]))]
   | e k=>
    show (⟨((N.nd.set i (Ho x b cap e)).getD k Bc).eh,_,_,((N.nd.set i (Ho x b cap e)).getD k Bc).ef.map _⟩:RowM)=⟨(N.nd.getD k Bc).eh,_,_,(N.nd.getD k Bc).ef.map _⟩
    rw [Yq hil,GF hx k Bc]
    split<;>rfl) hb rfl hl
 refine h.putNd hx h2 h1 ⟨(h.e x (List.mem_of_getElem? hx)).1,fun z hz=>?_⟩;rcases List.mem_append.1 hz with hz | hz
 ·exact (h.e x (List.mem_of_getElem? hx)).2 z hz
 ·rw [List.mem_singleton.1 hz];exact he
theorem CK.addQ {wb mv:Nat} {nb pb:Nat ->Nat} {N:Net} {M:MF} (h:CK wb mv nb pb N M) {j:Nat} {y:Po} (hy:N.po[j]?=some y) {i:Nat} (hi:i<N.nd.length) {b cap:Nat} (hb:Bk M y.qh b=none) (hl:((y.q++ [i]).map fun i=>BK (nb i)).length≤cap):
  CK wb mv nb pb {N with po:=N.po.set j (KV y b cap i)} (Cj (Cj (Bk M y.qh) b (.row XN 1 cap ((y.q++ [i]).map fun i=>BK (nb i)))) (pb j) (SG (KV y b cap i))):=by
 have hjl:=(List.getElem?_eq_some_iff.1 hy).1
 obtain ⟨h1,h2⟩:=h.row (N':={N with po:=N.po.set j (KV y b cap i)}) (.q j) (w0:=⟨y.qh,XN,1,y.q.map fun i=>BK (nb i)⟩) (w1:=⟨some (b,cap),XN,1,(y.q++ [i]).map fun i=>BK (nb i)⟩)
  (by show (⟨(N.po.getD j CC).qh,_,_,(N.po.getD j CC).q.map _⟩:RowM)=_;rw [F6 hy])
  (by show (⟨((N.po.set j (KV y b cap i)).getD j CC).qh,_,_,((N.po.set j (KV y b cap i)).getD j CC).q.map _⟩:RowM)=_;rw [Yq hjl,if_pos rfl];rfl)
  (fun r hr=>by
   cases r with
   | e k=>rfl
   | p k=>rfl
   | n=>rfl
   | m=>show (⟨_,_,_,(List.range (N.po.set j (KV y b cap i)).length).map _⟩:RowM)=_;rw [List.length_set];rfl
   | q k=>
    show (⟨((N.po.set j (KV y b cap i)).getD k CC).qh,_,_,((N.po.set j (KV y b cap i)).getD k CC).q.map _⟩:RowM)=⟨(N.po.getD k CC).qh,_,_,(N.po.getD k CC).q.map _⟩
    rw [Yq hjl,if_neg (fun e=>hr (by rw [e]))]) hb rfl hl
 refine h.putPo hy h2 h1 fun z hz=>?_;rcases List.mem_append.1 hz with hz | hz
 ·exact h.q y (List.mem_of_getElem? hy) z hz
 ·rw [List.mem_singleton.1 hz];exact hi
def Dz (x:Nd):Nd:={x with eh:=none,ph:=none}
def CZ (y:Po):Po:={y with qh:=none}
def Ap (N:Net):Net:=⟨N.nd.map Dz,N.po.map CZ,none,none⟩
def jnX (x:Nd) (j:Nat) (n:Nat) (a:Int):Nd:={x with ef:=x.ef++ [(j,a)],pl:=if a<0 then x.pl++ [(j,n)] else x.pl}
def jnY (y:Po) (i:Nat) (a:Int):Po:={y with sum:=y.sum+a,q:=if a<0 then y.q++ [i] else y.q}
theorem CK.keepE {wb mv:Nat} {nb pb:Nat ->Nat} {N:Net} {M:MF} (h:CK wb mv nb pb N M) {i:Nat} {x:Nd} (hx:N.nd[i]?=some x) {b:Nat} (hb:Bk M x.eh b=none) {v:BW} {b':Nat} {t:TypeId} {cs:List D} (hm:M b'=some (.cells t cs)):Cj (Bk M x.eh) b v b'=some (.cells t cs):=
 keepM hb hm fun c hc=>by have:=QK (h.nn i x hx).2.1 hc;rw [hm] at this;cases this
theorem CK.keepP {wb mv:Nat} {nb pb:Nat ->Nat} {N:Net} {M:MF} (h:CK wb mv nb pb N M) {i:Nat} {x:Nd} (hx:N.nd[i]?=some x) {b:Nat} (hb:Bk M x.ph b=none) {v:BW} {b':Nat} {t:TypeId} {cs:List D} (hm:M b'=some (.cells t cs)):Cj (Bk M x.ph) b v b'=some (.cells t cs):=
 keepM hb hm fun c hc=>by have:=QK (h.nn i x hx).2.2 hc;rw [hm] at this;cases this
theorem CK.keepQ {wb mv:Nat} {nb pb:Nat ->Nat} {N:Net} {M:MF} (h:CK wb mv nb pb N M) {j:Nat} {y:Po} (hy:N.po[j]?=some y) {b:Nat} (hb:Bk M y.qh b=none) {v:BW} {b':Nat} {t:TypeId} {cs:List D} (hm:M b'=some (.cells t cs)):Cj (Bk M y.qh) b v b'=some (.cells t cs):=
 keepM hb hm fun c hc=>by have:=QK (h.pp j y hy).2 hc;rw [hm] at this;cases this
set_option maxHeartbeats 1000000 in
theorem join_c {wb mv:Nat} {nb pb:Nat ->Nat} {N:Net} {M:MF} (h:CK wb mv nb pb N M) {i j:Nat} {x:Nd} {y:Po} (hx:N.nd[i]?=some x) (hy:N.po[j]?=some y) (a:Int) (ha: -100000000000000000≤a∧a≤100000000000000000) (hs: -1000000000000000000≤y.sum∧y.sum≤1000000000000000000) (he:x.ef.length≤100000) (hp:x.pl.length≤100000) (hq:y.q.length≤100000):
  A2 Tryz.prog 81 [.d (pD (nb i) 0),.d (pD (pb j) 0),.d (AH a)] (HN M) fun r H'=>r= .tup []∧∃N' M',H'=HN M'∧CK wb mv nb pb N' M'∧N'.nh=N.nh∧N'.mh=N.mh∧(∃x',N'.nd=N.nd.set i x'∧Dz x'=Dz (jnX x j y.q.length a))∧∃y',N'.po=N.po.set j y'∧CZ y'=CZ (jnY y i a):=by
 have hxb:=h.n i x hx;have hre:=(h.nn i x hx).2.1;have hrp:=(h.nn i x hx).2.2;have hil:=(List.getElem?_eq_some_iff.1 hx).1;have hjl:=(List.getElem?_eq_some_iff.1 hy).1;have hqz:=SA (h.pp j y hy).2;refine B2 Tryz.func81 Z Z Tryz.ntmps81 Z Z Z fun F hF=>(AF (AJ (AC Z Z (AC Z Z ?_))))
 first | refine J (BS Z Z) ?_ | refine J (BQ Z Z) ?_ | refine J (BT Z Z) ?_ | refine J (BR Z Z) ?_
 first | refine J (AM rfl Ln Z Z Z) ?_ | refine J (AO rfl Ln Z Z Z) ?_ | refine J (AP rfl Ln Z Z Z) ?_ | refine J (AN rfl Ln Z Z Z) ?_ | refine J (AL rfl Ln Z Z Z) ?_
 refine J (Ej (f:=40) Z Z (hxb) rfl UK rfl) (AC Z Z (AC Z Z (J (DH WU pl111 Z Z Z) (U (Fq 1 sl104 Z Z Z Z Z Z Z Z) (U (Je 10 60 40 hre Z Z (by simp) Z Z Z Z Z (If (emb:=YY pb) x.ef [(j,a)] Z Z Z Z Z Z Z Z sl104 (by simp only [List.length_singleton];omega) Z Z Z Z)) (IG 15 60 40 hF Z Z Z (by simp) (by simp) Z Z Z Z Z Z Z (fun _ _=>rfl) fun b1 c1 hb1 hc1=>?_))))))
 first | refine J (BS Z Z) ?_ | refine J (BQ Z Z) ?_ | refine J (BT Z Z) ?_ | refine J (BR Z Z) ?_
 first | refine J (AM rfl Ln Z Z Z) ?_ | refine J (AO rfl Ln Z Z Z) ?_ | refine J (AP rfl Ln Z Z Z) ?_ | refine J (AN rfl Ln Z Z Z) ?_ | refine J (AL rfl Ln Z Z Z) ?_
 refine U (Yv (f:=40) Z Z Z Z (h.keepE hx hb1 hxb) ((by show _<9;omega)) rfl sz104) (AG (AF ?_));have hR1:=h.addE hx (j,a) hjl hb1 hc1;have hyb:=hR1.p j y hy;refine AJ (AC Z Z ?_)
 first | refine J (BS Z Z) ?_ | refine J (BQ Z Z) ?_ | refine J (BT Z Z) ?_ | refine J (BR Z Z) ?_
 first | refine J (AM rfl Hu Z Z Z) ?_ | refine J (AO rfl Hu Z Z Z) ?_ | refine J (AP rfl Hu Z Z Z) ?_ | refine J (AN rfl Hu Z Z Z) ?_ | refine J (AL rfl Hu Z Z Z) ?_
 refine J (Ej (f:=40) Z Z (hyb) rfl BI rfl) (AC Z Z (J (Bi Z Z (IntWalk.i64_in _ (by omega)) rfl) ?_))
 first | refine J (BS Z Z) ?_ | refine J (BQ Z Z) ?_ | refine J (BT Z Z) ?_ | refine J (BR Z Z) ?_
 first | refine J (AM rfl Hu Z Z Z) ?_ | refine J (AO rfl Hu Z Z Z) ?_ | refine J (AP rfl Hu Z Z Z) ?_ | refine J (AN rfl Hu Z Z Z) ?_ | refine J (AL rfl Hu Z Z Z) ?_
 refine U (Yv (f:=40) Z Z Z Z (hyb) ((by show _<10;omega)) rfl sz2) (AG (AF ?_));have hR2:=hR1.setPo (y':={y with sum:=y.sum+a}) hy Z Z;have hx2:(N.nd.set i (FE x b1 c1 (j,a)))[i]?=some (FE x b1 c1 (j,a)):=List.getElem?_set_self hil;have hy2:(N.po.set j {y with sum:=y.sum+a})[j]?=some {y with sum:=y.sum+a}:=List.getElem?_set_self hjl;have hx2b:=hR2.n i _ hx2;have hy2b:=hR2.p j _ hy2;have hrp2:=(hR2.nn i _ hx2).2.2;refine AJ (AC Z Z ?_)
 first | refine J (CD Z Z Z) ?_ | refine J (CE Z Z Z) ?_
 refine AG ?_
 first | refine Ay rfl (fun h27=>?_) (fun h27=>?_) | refine At rfl (fun h27=>?_) (fun h27=>?_)
 ·refine AF (Gp [[],[],[1],[1,2],[1,2,3],[],[],[6],[6,7],[6,7,8],[6,7,8,9],[5,6,7,8,9,10],[5,6,7,8,9,10,11],[1,2,3,4,5,6,7,8,9,10,11,12],[0,1,2,3,4,5,6,7,8,9,10,11,12,13],[0,1,2,3,4,5,6,7,8,9,10,11,12,13,14],[0,1,2,3,4,5,6,7,8,9,10,11,12,13,14,15]] BF rfl (Hh ?_))
  first | refine AE [0] [] Z Z (fun _=>AB (Be Z Z)) ?_ | refine AI [0] Z Z (fun _=>AB (Be Z Z)) ?_
  first | refine AE [0] [] Z Z (fun _=>AB (Be Z Z)) ?_ | refine AI [0] Z Z (fun _=>AB (Be Z Z)) ?_
  first | refine AE [29] [] Z Z (fun _=>AB (BS Z Z)) ?_ | refine AI [29] Z Z (fun _=>AB (BS Z Z)) ?_ | refine AE [29] [] Z Z (fun _=>AB (BQ Z Z)) ?_ | refine AI [29] Z Z (fun _=>AB (BQ Z Z)) ?_ | refine AE [29] [] Z Z (fun _=>AB (BT Z Z)) ?_ | refine AI [29] Z Z (fun _=>AB (BT Z Z)) ?_ | refine AE [29] [] Z Z (fun _=>AB (BR Z Z)) ?_ | refine AI [29] Z Z (fun _=>AB (BR Z Z)) ?_
  first | refine AE [30] [] Z Z (fun _=>AB (AM rfl JW Z Z Z)) ?_ | refine AI [30] Z Z (fun _=>AB (AM rfl JW Z Z Z)) ?_ | refine AE [30] [] Z Z (fun _=>AB (AO rfl JW Z Z Z)) ?_ | refine AI [30] Z Z (fun _=>AB (AO rfl JW Z Z Z)) ?_ | refine AE [30] [] Z Z (fun _=>AB (AP rfl JW Z Z Z)) ?_ | refine AI [30] Z Z (fun _=>AB (AP rfl JW Z Z Z)) ?_ | refine AE [30] [] Z Z (fun _=>AB (AN rfl JW Z Z Z)) ?_ | refine AI [30] Z Z (fun _=>AB (AN rfl JW Z Z Z)) ?_ | refine AE [30] [] Z Z (fun _=>AB (AL rfl JW Z Z Z)) ?_ | refine AI [30] Z Z (fun _=>AB (AL rfl JW Z Z Z)) ?_
  refine AE [31] [40] Z Z (fun _=>AB (Ej (f:=40) Z Z (hx2b) rfl UJ rfl)) ?_
  first | refine AE [1] [] Z Z (fun _=>AB (Be Z Z)) ?_ | refine AI [1] Z Z (fun _=>AB (Be Z Z)) ?_
  first | refine AE [1] [] Z Z (fun _=>AB (Be Z Z)) ?_ | refine AI [1] Z Z (fun _=>AB (Be Z Z)) ?_
  first | refine AE [34] [] Z Z (fun _=>AB (BS Z Z)) ?_ | refine AI [34] Z Z (fun _=>AB (BS Z Z)) ?_ | refine AE [34] [] Z Z (fun _=>AB (BQ Z Z)) ?_ | refine AI [34] Z Z (fun _=>AB (BQ Z Z)) ?_ | refine AE [34] [] Z Z (fun _=>AB (BT Z Z)) ?_ | refine AI [34] Z Z (fun _=>AB (BT Z Z)) ?_ | refine AE [34] [] Z Z (fun _=>AB (BR Z Z)) ?_ | refine AI [34] Z Z (fun _=>AB (BR Z Z)) ?_
  first | refine AE [35] [] Z Z (fun _=>AB (AM rfl EU Z Z Z)) ?_ | refine AI [35] Z Z (fun _=>AB (AM rfl EU Z Z Z)) ?_ | refine AE [35] [] Z Z (fun _=>AB (AO rfl EU Z Z Z)) ?_ | refine AI [35] Z Z (fun _=>AB (AO rfl EU Z Z Z)) ?_ | refine AE [35] [] Z Z (fun _=>AB (AP rfl EU Z Z Z)) ?_ | refine AI [35] Z Z (fun _=>AB (AP rfl EU Z Z Z)) ?_ | refine AE [35] [] Z Z (fun _=>AB (AN rfl EU Z Z Z)) ?_ | refine AI [35] Z Z (fun _=>AB (AN rfl EU Z Z Z)) ?_ | refine AE [35] [] Z Z (fun _=>AB (AL rfl EU Z Z Z)) ?_ | refine AI [35] Z Z (fun _=>AB (AL rfl EU Z Z Z)) ?_
  refine AE [36] [40] Z Z (fun _=>AB (Ej (f:=40) Z Z (hy2b) rfl Gb rfl)) ?_
  first | refine AE [37] [] Z Z (fun _=>AB (SK hqz rfl Tryz.underlying98 rfl)) ?_ | refine AI [37] Z Z (fun _=>AB (SK hqz rfl Tryz.underlying98 rfl)) ?_
  first | refine AE [33,38] [] Z Z (fun _=>AB (DH QN pl167 Z Z Z)) ?_ | refine AI [33,38] Z Z (fun _=>AB (DH QN pl167 Z Z Z)) ?_
  refine Gn [39] [2] [(40,_)] Z Z (fun _=>Gq (Fq 2 sl105 Z Z Z Z Z Z Z Z)) (.inr ⟨40,_,rfl,rfl,rfl,rfl,rfl⟩) Z Z Z Z Z (Gn [32,40] [61,40,2] [(41,_)] Z Z (fun _=>Gq (Je 32 61 40 hrp2 Z Z (by simp [FE]) Z Z Z Z Z (If (emb:=plD pb) x.pl [(j,y.q.length)] Z Z Z Z Z Z Z Z sl105 (by simp only [List.length_singleton];omega) Z Z Z Z))) (.inr ⟨41,_,rfl,rfl,rfl,rfl,rfl⟩) Z Z Z Z Z (GR 14 Z Z Z (BC 15 Z Z (IG 41 61 40 hF Z Z Z (by simp) (by simp) Z Z Z Z Z Z Z (fun _ _=>rfl) fun b2 c2 hb2 hc2=>?_))))
  first | refine J (BS Z Z) ?_ | refine J (BQ Z Z) ?_ | refine J (BT Z Z) ?_ | refine J (BR Z Z) ?_
  refine AG ⟨rfl,?_⟩;refine BC 16 Z Z ?_
  first | refine J (AM rfl JW Z Z Z) ?_ | refine J (AO rfl JW Z Z Z) ?_ | refine J (AP rfl JW Z Z Z) ?_ | refine J (AN rfl JW Z Z Z) ?_ | refine J (AL rfl JW Z Z Z) ?_
  refine AG ⟨rfl,?_⟩;refine BC 17 Z Z (U (Yv (f:=40) Z Z Z Z (hR2.keepP hx2 hb2 hx2b) ((by show _<9;omega)) rfl sz105) (AG ⟨rfl,?_⟩));refine GQ ?_;have hR3:=hR2.addP hx2 (j,y.q.length) (by show j<(N.po.set j _).length;rw [List.length_set];exact hjl) hb2 hc2;have hy3b:=hR3.p j _ hy2;have hrq3:=(hR3.pp j _ hy2).2;refine AJ (AC Z Z (AC Z Z ?_))
  first | refine J (BS Z Z) ?_ | refine J (BQ Z Z) ?_ | refine J (BT Z Z) ?_ | refine J (BR Z Z) ?_
  first | refine J (AM rfl EU Z Z Z) ?_ | refine J (AO rfl EU Z Z Z) ?_ | refine J (AP rfl EU Z Z Z) ?_ | refine J (AN rfl EU Z Z Z) ?_ | refine J (AL rfl EU Z Z Z) ?_
  refine J (Ej (f:=40) Z Z (hy3b) rfl Gb rfl) (AC Z Z (U (Fq 3 sl98 Z Z Z Z Z Z Z Z) (U (Je 48 62 40 hrq3 Z Z (by simp) Z Z Z Z Z (If (emb:=fun i=>BK (nb i)) y.q [i] Z Z Z Z Z Z Z Z sl98 (by simp only [List.length_singleton];omega) Z Z Z Z)) (IG 51 62 40 hF Z Z Z (by simp) (by simp) Z Z Z Z Z Z Z (fun _ _=>rfl) fun b3 c3 hb3 hc3=>?_))))
  first | refine J (BS Z Z) ?_ | refine J (BQ Z Z) ?_ | refine J (BT Z Z) ?_ | refine J (BR Z Z) ?_
  first | refine J (AM rfl EU Z Z Z) ?_ | refine J (AO rfl EU Z Z Z) ?_ | refine J (AP rfl EU Z Z Z) ?_ | refine J (AN rfl EU Z Z Z) ?_ | refine J (AL rfl EU Z Z Z) ?_
  refine U (Yv (f:=40) Z Z Z Z (hR3.keepQ hy2 hb3 hy3b) ((by show _<10;omega)) rfl sz98) (AG ?_);have hR4:=hR3.addQ hy2 (i:=i) (by show i<((N.nd.set i _).set i _).length;rw [List.length_set,List.length_set];exact hil) hb3 hc3;exact ⟨_,[40],_,Aa rfl,rfl,rfl,rfl,_,_,rfl,hR4,rfl,rfl,⟨_,List.set_set _,by unfold Dz Ho FE jnX;simp [h27]⟩,⟨_,List.set_set _,by unfold CZ KV jnY;simp [h27]⟩⟩
 ·refine Ak ?_;exact ⟨_,[40],_,Aa rfl,rfl,rfl,rfl,_,_,rfl,hR2,rfl,rfl,⟨_,rfl,by unfold Dz FE jnX;simp [h27]⟩,⟨_,rfl,by unfold CZ jnY;simp [h27]⟩⟩
end Go.Proofs.YtnkkaeblokdifaaGreat
