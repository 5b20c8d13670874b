/- Words of my own for memory: a slice that reads as a list, a block known whole, append onto a row of the call's own. No program in sight. -/
import Derived.WalkKit
import Derived.WalkSpells
import Derived.WalkLawsBesides
import Derived.Lib.Hide
import Derived.Maps.AppendAt
import Derived.Deep.AppendLies
import Derived.Deep.Draws
import Derived.OwnWalk
import Derived.Lib.BufferRead
import Derived.Lib.LazyBuf
import Derived.Lib.SlBytesConst
import Derived.Deep.QuietTactic
import Derived.BigQuiet
namespace Go.Proofs.YtlmedakidpaeeaaGreat
open Go.RowKit
theorem Z.{u} {α:Sort u} {a:α}:a=a:=rfl
structure Box (p:Prop):Prop where
 out:p
structure Stop (p:Prop):Prop where
 out:p
theorem FD (a:Addr) (n:Nat):(a.add n).block=a.block:=by unfold Addr.add;split<;>rfl
theorem OR (a:Addr) (i j:Nat):(a.add i).add j=a.add (i+j):=by
 unfold Addr.add
 by_cases hi:i=0<;>by_cases hj:j=0<;>simp [hi,hj,Nat.add_assoc]
def Bk (w:World) (B size:Nat) (A:Option Addr) (n:Nat) (xs:List Value):Prop:=
 xs.length=n*size∧(0<n ->∃ad,A=some ad∧ad.block<B∧∀j u,xs[j]? =some u ->w.cell? (ad.add j)=some u)
section
variable {w w':World} {B B' size n:Nat} {A:Option Addr} {xs:List Value}
theorem Bk.at_ {k:Nat} (h:Bk w B 1 A n xs) (hk:k<n):∃ad u,A=some ad∧ad.block<B∧xs[k]? =some u∧w.cell? (ad.add k)=some u:=by
 obtain ⟨ad,e,hb,hc⟩:=h.2 (by omega);have hl:k<xs.length:=by have:=h.1;omega
 exact ⟨ad,xs[k],e,hb,List.getElem?_eq_getElem hl,hc k _ (List.getElem?_eq_getElem hl)⟩
theorem Bk.spot {k:Nat} (h:Bk w B 1 A n xs) (hk:k<n):∃b off u,A=some ⟨b,off,none⟩∧b<B∧xs[k]? =some u∧w.cell? ⟨b,off+k,none⟩=some u:=by
 obtain ⟨⟨b,off,sp⟩,u,rfl,hb,hu,hc⟩:=h.at_ hk;obtain ⟨_,u0,e,_,_,hc0⟩:=h.at_ (show 0<n by omega);injection e with e
 subst e;have hs:sp=none:=by simpa [Addr.add] using World.cell?_spot hc0
 subst hs;refine ⟨b,off,u,rfl,hb,hu,?_⟩;rw [←hc];unfold Addr.add
 split
 ·next h0=>subst h0;rfl
 ·rfl
theorem Bk.keep (h:Bk w B size A n xs) (hk:∀p:Addr,p.block<B ->w'.cell? p=w.cell? p):Bk w' B size A n xs:=
 ⟨h.1,fun hn=>by
  obtain ⟨ad,e,hb,hc⟩:=h.2 hn
  exact ⟨ad,e,hb,fun j u hu=>(hk _ (by rw [FD];exact hb)).trans (hc j u hu)⟩⟩
theorem Bk.drew (h:Bk w B size A n xs):Bk w.drew B size A n xs:=h
theorem Bk.drewN (h:Bk w B size A n xs) (k:Nat):Bk (w.drewN k) B size A n xs:=h
theorem Bk.alloc (h:Bk w B size A n xs) (hB:B≤w.heap.size) (o:Obj):Bk (w.alloc o) B size A n xs:=h.keep fun p hp=>World.cell?_alloc_lt w o p (by omega)
theorem Bk.setCell (h:Bk w B size A n xs) {p:Addr} (hB:B≤p.block) (u:Value):Bk (w.setCell p u) B size A n xs:=
 h.keep fun q hq=>World.cell?_setCell_other w p q u (fun e=>by subst e;omega)
theorem Bk.grown (h:Bk w B size A n xs) {row:Option Nat} (hg:w.grownBy w' row) (hB:B≤w.heap.size) (hr:∀g,row=some g ->B≤g):Bk w' B size A n xs:=
 h.keep fun p hp=>World.cell?_of_block (hg.block p.block (by omega) (fun e=>by have:=hr _ e.symm;omega))
theorem Bk.cut (h:Bk w B size A n xs) {k cap:Nat} (hk:k≤n) (hc:n≤cap):
  Bk w B size (if cap=k then A else A.map (·.add (k*size))) (n - k) (xs.drop (k*size)):=by
 refine ⟨by rw [List.length_drop,h.1,Nat.sub_mul],fun hn=>?_⟩;obtain ⟨ad,rfl,hb,hcell⟩:=h.2 (by omega);rw [if_neg (by omega)];refine ⟨ad.add (k*size),rfl,by rw [FD];exact hb,fun j u hu=>?_⟩;rw [OR];exact hcell _ u (by rw [←hu,List.getElem?_drop])
end
def Jy (w:World) (g:Nat) (t:TypeId) (cs:Array Value):Prop:=w.heap[g]? =some (.cells cs t (0,0))
section
variable {w w':World} {g:Nat} {t:TypeId} {cs:Array Value}
theorem Jy.lt (h:Jy w g t cs):g<w.heap.size:=by
 rcases Nat.lt_or_ge g w.heap.size with hlt | hge
 ·exact hlt
 ·unfold Jy at h;rw [Array.getElem?_eq_none hge] at h;cases h
theorem Jy.cell (h:Jy w g t cs) (i:Nat):w.cell? ⟨g,i,none⟩=cs[i]?:=cell_of_row w g i cs t (0,0) h
theorem Jy.frozen (h:Jy w g t cs) (i:Nat):w.frozen? ⟨g,i,none⟩=false:=by
 unfold Jy at h
 simp [World.frozen?,h]
theorem Jy.new (w:World) (t:TypeId) (cs:Array Value):Jy (w.alloc (.cells cs t)) w.heap.size t cs:=heap_alloc_new w _
theorem Jy.drew (h:Jy w g t cs):Jy w.drew g t cs:=h
theorem Jy.drewN (h:Jy w g t cs) (n:Nat):Jy (w.drewN n) g t cs:=h
theorem Jy.alloc (h:Jy w g t cs) (o:Obj):Jy (w.alloc o) g t cs:=(Below.heap_alloc w o g h.lt).trans h
theorem Jy.grown {row:Option Nat} (h:Jy w g t cs) (hb:w.grownBy w' row) (hg:some g≠row):Jy w' g t cs:=(hb.block g h.lt hg).trans h
end
section
variable {P:Program} (w:World)
end
structure SlTy (P:Program) (t e:TypeId) (size bytes:Nat):Prop where
 ht:P.underlying t=some (.slice e)
 info:∃(i:TypeInfo) (z:Value),P.info? e=some i∧i.zero=some z∧i.size=size∧i.bytes=bytes∧z.cells.size=size
 pos:0<size
 pos':0<bytes
section
variable {P:Program} {w:World}
end
section
variable {P:Program}
end
theorem own_new (w:World) (e:TypeId) (size n:Nat) (cs:Array Value) (hn:n≤maxLen) (hs:cs.size=n*size):
  (w.alloc (.cells cs e)).ownsRow w.heap.size e size (.slice (some ⟨w.heap.size,0,none⟩) n n) n cs.toList:=
 ⟨by simpa using hs,.inr ⟨w.heap.size,n,cs,rfl,Nat.le_refl _,heap_alloc_new w _,Nat.le_refl _,hn,hs,by rw [←hs,←Array.length_toList,List.take_length]⟩⟩
theorem Pb {w:World} {base:Nat} {e:TypeId} {size n:Nat} {v:Value} {xs:List Value} (h:w.ownsRow base e size v n xs):∃A c,v= .slice A n c∧n≤c:=by
 rcases h.2 with ⟨rfl,rfl⟩ | ⟨g,cap,cur,rfl,_,_,hc,_⟩
 ·exact ⟨none,0,rfl,Nat.le_refl _⟩
 ·exact ⟨_,cap,rfl,hc⟩
theorem Qx {w:World} {base:Nat} {e:TypeId} {size n:Nat} {v:Value} {xs:List Value} (h:w.ownsRow base e size v n xs) {g:Nat} (hg:v.ownBlock=some g):base≤g:=by
 rcases h.2 with ⟨rfl,_⟩ | ⟨g',cap,cur,rfl,hb,_⟩
 ·simp [Value.ownBlock] at hg
 ·simp [Value.ownBlock] at hg;omega
def DV (w:World) (base:Nat) (e:TypeId) (v:Value) (xs:List Value):Prop:=w.ownsRow base e 1 v xs.length xs
theorem DV.nil (w:World) (base:Nat) (e:TypeId):DV w base e (.slice none 0 0) []:=World.ownsRow_nil w base e 1
theorem DV.new (w:World) (e:TypeId) (cs:Array Value) (hn:cs.size≤maxLen):DV (w.alloc (.cells cs e)) w.heap.size e (.slice (some ⟨w.heap.size,0,none⟩) cs.size cs.size) cs.toList:=by
 unfold DV;rw [Array.length_toList];exact own_new w e 1 cs.size cs hn (by omega)
theorem DV.slice {w:World} {base:Nat} {e:TypeId} {v:Value} {xs:List Value} (h:DV w base e v xs):∃A c,v= .slice A xs.length c∧xs.length≤c:=Pb h
theorem DV.mono {w:World} {base base':Nat} {e:TypeId} {v:Value} {xs:List Value} (h:DV w base e v xs) (hb:base'≤base):DV w base' e v xs:=by
 refine ⟨h.1,?_⟩;rcases h.2 with h' | ⟨g,cap,cur,h1,h2,h3⟩
 ·exact .inl h'
 ·exact .inr ⟨g,cap,cur,h1,Nat.le_trans hb h2,h3⟩
theorem DV.as {w:World} {base base':Nat} {e:TypeId} {v:Value} {xs xs':List Value} (h:DV w base e v xs) (hb:base=base') (hx:xs=xs'):DV w base' e v xs':=by
 subst hb hx;exact h
theorem DV.alloc {w:World} {base:Nat} {e:TypeId} {v:Value} {xs:List Value} (h:DV w base e v xs) (o:Obj):DV (w.alloc o) base e v xs:=World.ownsRow.alloc h o
theorem DV.drewN {w:World} {base:Nat} {e:TypeId} {v:Value} {xs:List Value} (h:DV w base e v xs) (n:Nat):DV (w.drewN n) base e v xs:=h
theorem DV.grown {w w':World} {base:Nat} {e:TypeId} {v:Value} {xs:List Value} (h:DV w base e v xs) {row:Option Nat} (hg:w.grownBy w' row) (hne:∀g,v.ownBlock=some g ->row≠some g):DV w' base e v xs:=by
 refine ⟨h.1,?_⟩;rcases h.2 with h' | ⟨g,cap,cur,h1,h2,h3,h4⟩
 ·exact .inl h'
 ·have hlt:g<w.heap.size:=by
   rcases Nat.lt_or_ge g w.heap.size with hlt | hge
   ·exact hlt
   ·rw [Array.getElem?_eq_none hge] at h3;cases h3
  exact .inr ⟨g,cap,cur,h1,h2,(hg.block g hlt (fun e=>hne g (by rw [h1];rfl) e.symm)).trans h3,h4⟩
theorem DV.lt {w:World} {base:Nat} {e:TypeId} {v:Value} {xs:List Value} (h:DV w base e v xs) {g:Nat} (hg:v.ownBlock=some g):base≤g∧g<w.heap.size:=by
 refine ⟨Qx h hg,?_⟩;rcases h.2 with ⟨rfl,_⟩ | ⟨g',cap,cur,rfl,h2,h3,h4⟩
 ·simp [Value.ownBlock] at hg
 ·simp [Value.ownBlock] at hg
  subst hg;rcases Nat.lt_or_ge g' w.heap.size with hlt | hge
  ·exact hlt
  ·rw [Array.getElem?_eq_none hge] at h3;cases h3
def S1 (w:World) (S:Nat ->Prop) (v:Value) (xs:List Value):Prop:=
 ∃A c,v= .slice A xs.length c∧xs.length≤c∧(0<xs.length ->∃ad,A=some ad∧S ad.block∧∀j u,xs[j]? =some u ->w.cell? (ad.add j)=some u)
section
variable {w w':World} {S S':Nat ->Prop} {v:Value} {xs:List Value}
theorem S1.mono (h:S1 w S v xs) (hS:∀b,S b ->S' b):S1 w S' v xs:=by
 obtain ⟨A,c,e,hc,hr⟩:=h;refine ⟨A,c,e,hc,fun h0=>?_⟩;obtain ⟨ad,e,hb,hcell⟩:=hr h0;exact ⟨ad,e,hS _ hb,hcell⟩
theorem S1.keep (h:S1 w S v xs) (hk:∀b,S b ->w'.heap[b]? =w.heap[b]?):S1 w' S v xs:=by
 obtain ⟨A,c,e,hc,hr⟩:=h;refine ⟨A,c,e,hc,fun h0=>?_⟩;obtain ⟨ad,e,hb,hcell⟩:=hr h0;exact ⟨ad,e,hb,fun j u hu=>(World.cell?_of_block (w:=w) (by rw [FD];exact hk _ hb)).trans (hcell j u hu)⟩
theorem S1.one (h:S1 w S v xs):v.oneCell'=true:=by
 obtain ⟨A,c,rfl,_⟩:=h;rfl
end
def Rows {α:Type} (w:World) (S:Nat ->Prop) (f:α ->Value) (vs:List Value) (ls:List (List α)):Prop:=
 vs.length=ls.length∧∀(i:Nat) (v:Value) (l:List α),vs[i]? =some v ->ls[i]? =some l ->S1 w S v (l.map f)
section
variable {α:Type} {w w':World} {S S':Nat ->Prop} {f:α ->Value} {vs:List Value} {ls:List (List α)}
theorem Rows.nil:Rows w S f [] []:=⟨rfl,fun i v l h=>by simp at h⟩
theorem Rows.snoc {v:Value} {l:List α} (h:Rows w S f vs ls) (hr:S1 w S v (l.map f)):Rows w S f (vs++ [v]) (ls++ [l]):=by
 refine ⟨by simp [h.1],fun i u m hu hm=>?_⟩;rw [List.getElem?_append] at hu hm
 by_cases hi:i<vs.length
 ·rw [if_pos hi] at hu;rw [if_pos (by rw [←h.1];exact hi)] at hm;exact h.2 i u m hu hm
 ·rw [if_neg hi] at hu;rw [if_neg (by rw [←h.1];exact hi)] at hm;rw [←h.1] at hm
  match hk:i - vs.length,hu,hm with
  | 0,hu,hm=>
   simp at hu hm
   subst hu hm;exact hr
  | k+1,hu,hm=>simp at hu
theorem Rows.mono (h:Rows w S f vs ls) (hS:∀b,S b ->S' b):Rows w S' f vs ls:=⟨h.1,fun i v l hv hl=>(h.2 i v l hv hl).mono hS⟩
theorem Rows.keep (h:Rows w S f vs ls) (hk:∀b,S b ->w'.heap[b]? =w.heap[b]?):Rows w' S f vs ls:=⟨h.1,fun i v l hv hl=>(h.2 i v l hv hl).keep hk⟩
theorem Rows.at_ (h:Rows w S f vs ls) {i:Nat} (hi:i<ls.length):∃v,vs[i]? =some v∧S1 w S v (ls[i].map f):=by
 have hi':i<vs.length:=by rw [h.1];exact hi
 exact ⟨vs[i],List.getElem?_eq_getElem hi',h.2 i _ _ (List.getElem?_eq_getElem hi') (List.getElem?_eq_getElem hi)⟩
theorem Rows.one (h:Rows w S f vs ls):∀u∈vs,u.oneCell'=true:=by
 intro u hu;obtain ⟨i,hi,rfl⟩:=List.getElem_of_mem hu;exact (h.2 i _ _ (List.getElem?_eq_getElem hi) (List.getElem?_eq_getElem (by rw [←h.1];exact hi))).one
end
section
variable {P:Program} {w:World} {ops:Array Oper} {rest:List Oper} {a:Act} {Q:Exit ->Act ->World ->Prop} {d:Option Tmp} {ty T:TypeId} {pos:String} {aft:Array Edge}
end
end Go.Proofs.YtlmedakidpaeeaaGreat
