import Derived.WalkKit
import Derived.WalkSpells
import Derived.WalkLawsBesides
import Derived.Lib.Hide
import Derived.Maps.AppendAt
import Derived.Deep.AppendLies
import Derived.Deep.Draws
import Derived.OwnWalk
import Derived.Lib.BufferRead
import Derived.Lib.LazyBuf
import Derived.Lib.SlBytesConst
import Derived.Deep.QuietTactic
import Derived.BigQuiet
namespace Go.Proofs.YteifpcnphnhaoaaGreat
open Go.RowKit
theorem ω:type_of% @List.getElem?_eq_getElem:=@List.getElem?_eq_getElem
theorem ψ:type_of% @List.length_map:=@List.length_map
theorem χ:type_of% @List.getElem?_eq_some_iff:=@List.getElem?_eq_some_iff
theorem φ:type_of% @List.take_succ_eq_append_getElem:=@List.take_succ_eq_append_getElem
theorem ϑ:type_of% @if_neg:=@if_neg
theorem ξ:type_of% @List.mem_singleton:=@List.mem_singleton
theorem ζ:type_of% @List.mem_of_getElem?:=@List.mem_of_getElem?
theorem η:type_of% @List.getElem?_map:=@List.getElem?_map
theorem θ:type_of% @List.getElem_mem:=@List.getElem_mem
theorem κ:type_of% @if_pos:=@if_pos
theorem ν:type_of% @List.mem_append:=@List.mem_append
theorem υ:type_of% @Nat.le_refl:=@Nat.le_refl
theorem ϖ:type_of% @List.mem_map:=@List.mem_map
theorem ϱ:type_of% @List.getD_eq_getElem?_getD:=@List.getD_eq_getElem?_getD
theorem ς:type_of% @List.mem_range:=@List.mem_range
theorem Γ:type_of% @Nat.zero_le:=@Nat.zero_le
theorem Δ:type_of% @congrArg:=@congrArg
theorem Θ:type_of% @List.length_append:=@List.length_append
theorem Ξ:type_of% @List.take_of_length_le:=@List.take_of_length_le
theorem Φ:type_of% @List.mem_cons:=@List.mem_cons
theorem Ψ:type_of% @List.length_singleton:=@List.length_singleton
theorem Ω:type_of% @List.length_take:=@List.length_take
theorem Υ:type_of% @IntWalk.i64_in:=@IntWalk.i64_in
theorem ωa:type_of% @List.mem_filter:=@List.mem_filter
theorem ωb:type_of% @Bool.and_eq_true:=@Bool.and_eq_true
theorem ωc:type_of% @List.map_append:=@List.map_append
theorem ωd:type_of% @List.getElem_map:=@List.getElem_map
theorem ωe:type_of% @Nat.le_trans:=@Nat.le_trans
theorem ωf:type_of% @List.length_range:=@List.length_range
theorem ωg:type_of% @Nat.eq_of_beq_eq_true:=@Nat.eq_of_beq_eq_true
theorem ωh:type_of% @List.length_filter_le:=@List.length_filter_le
theorem ωi:type_of% @decide_eq_true:=@decide_eq_true
theorem ωj:type_of% @List.map_congr_left:=@List.map_congr_left
theorem ωk:type_of% @List.append_nil:=@List.append_nil
theorem ωl:type_of% @Array.getElem?_eq_getElem:=@Array.getElem?_eq_getElem
theorem ωm:type_of% @List.map_cons:=@List.map_cons
theorem ωn:type_of% @List.mem_cons_of_mem:=@List.mem_cons_of_mem
theorem ωo:type_of% @List.mem_cons_self:=@List.mem_cons_self
theorem ωp:type_of% @decide_eq_false:=@decide_eq_false
theorem ωq:type_of% @List.pairwise_iff_getElem:=@List.pairwise_iff_getElem
theorem ωr:type_of% @List.getElem?_append_right:=@List.getElem?_append_right
theorem ωs:type_of% @Array.getElem?_eq_some_iff:=@Array.getElem?_eq_some_iff
theorem ωt:type_of% @List.take_length:=@List.take_length
theorem ωu:type_of% @List.getElem_of_mem:=@List.getElem_of_mem
theorem ωv:type_of% @List.map_map:=@List.map_map
theorem ωw:type_of% @List.eq_nil_of_length_eq_zero:=@List.eq_nil_of_length_eq_zero
theorem ωx:type_of% @List.getElem?_eq_none:=@List.getElem?_eq_none
theorem ωy:type_of% @List.pairwise_map:=@List.pairwise_map
theorem ωz:type_of% @List.filter_append:=@List.filter_append
theorem ψa:type_of% @List.getElem?_append_left:=@List.getElem?_append_left
theorem ψb:type_of% @Nat.mul_le_mul_right:=@Nat.mul_le_mul_right
theorem ψc:type_of% @List.mem_of_mem_take:=@List.mem_of_mem_take
theorem ψd:type_of% @List.length_set:=@List.length_set
theorem ψe:type_of% @decide_eq_true_eq:=@decide_eq_true_eq
theorem ψf:type_of% @List.getElem?_take_of_lt:=@List.getElem?_take_of_lt
theorem ψg:type_of% @Nat.ne_of_beq_eq_false:=@Nat.ne_of_beq_eq_false
theorem ψh:type_of% @List.getElem?_take:=@List.getElem?_take
theorem ψi:type_of% @List.filter_sublist:=@List.filter_sublist
theorem ψj:type_of% @List.range_succ:=@List.range_succ
theorem ψk:type_of% @of_decide_eq_true:=@of_decide_eq_true
theorem ψl:type_of% @List.mem_append_right:=@List.mem_append_right
theorem ψm:type_of% @List.append_assoc:=@List.append_assoc
theorem ψn:type_of% @Array.getElem?_toList:=@Array.getElem?_toList
theorem ψo:type_of% @List.length_cons:=@List.length_cons
theorem ψp:type_of% @List.mem_append_left:=@List.mem_append_left
theorem ψq:type_of% @List.idxOf_lt_length_of_mem:=@List.idxOf_lt_length_of_mem
theorem ψr:type_of% @List.sum_append:=@List.sum_append
theorem ψs:type_of% @Nat.zero_add:=@Nat.zero_add
theorem ψt:type_of% @Nat.lt_of_lt_of_le:=@Nat.lt_of_lt_of_le
theorem ψu:type_of% @List.getElem_range:=@List.getElem_range
theorem ψv:type_of% @List.getElem?_range:=@List.getElem?_range
theorem ψw:type_of% @Array.getElem?_modify:=@Array.getElem?_modify
theorem ψx:type_of% @Array.getD_eq_getD_getElem?:=@Array.getD_eq_getD_getElem?
theorem ψy:type_of% @Option.bind_some:=@Option.bind_some
theorem ψz:type_of% @List.pairwise_cons:=@List.pairwise_cons
theorem χa:type_of% @Option.map_some:=@Option.map_some
theorem χb:type_of% @List.mem_iff_getElem:=@List.mem_iff_getElem
theorem χc:type_of% @List.ext_getElem:=@List.ext_getElem
theorem χd:type_of% @List.getElem?_drop:=@List.getElem?_drop
theorem χe:type_of% @List.mem_take_iff_getElem:=@List.mem_take_iff_getElem
theorem χf:type_of% @List.mem_or_eq_of_mem_set:=@List.mem_or_eq_of_mem_set
theorem χg:type_of% @List.drop_eq_getElem_cons:=@List.drop_eq_getElem_cons
theorem χh:type_of% @List.length_pos_iff:=@List.length_pos_iff
theorem χi:type_of% @Array.length_toList:=@Array.length_toList
theorem χj:type_of% @Nat.beq_refl:=@Nat.beq_refl
theorem χk:type_of% @List.Pairwise.imp_of_mem:=@List.Pairwise.imp_of_mem
theorem χl:type_of% @List.mem_map_of_mem:=@List.mem_map_of_mem
theorem χm:type_of% @Nat.lt_succ_self:=@Nat.lt_succ_self
theorem χn:type_of% @Nat.lt_or_ge:=@Nat.lt_or_ge
theorem χo:type_of% @Nat.add_zero:=@Nat.add_zero
theorem χp:type_of% @List.nodup_append:=@List.nodup_append
theorem χq:type_of% @List.getElem?_set:=@List.getElem?_set
theorem χr:type_of% @List.ext_getElem?:=@List.ext_getElem?
theorem χs:type_of% @Classical.not_not:=@Classical.not_not
theorem χt:type_of% @List.pairwise_lt_range:=@List.pairwise_lt_range
theorem χu:type_of% @List.mem_flatMap:=@List.mem_flatMap
theorem χv:type_of% @Nat.mul_one:=@Nat.mul_one
theorem χw:type_of% @List.take_append_drop:=@List.take_append_drop
theorem χx:type_of% @List.filter_congr:=@List.filter_congr
theorem χy:type_of% @List.getElem?_cons_succ:=@List.getElem?_cons_succ
theorem χz:type_of% @List.perm_ext_iff_of_nodup:=@List.perm_ext_iff_of_nodup
theorem φa:type_of% @List.nodup_cons:=@List.nodup_cons
theorem φb:type_of% @List.all_eq_true:=@List.all_eq_true
theorem φc:type_of% @Array.size_range:=@Array.size_range
theorem φd:type_of% @Nat.lt_irrefl:=@Nat.lt_irrefl
theorem φe:type_of% @List.sum_cons:=@List.sum_cons
theorem φf:type_of% @List.map_singleton:=@List.map_singleton
theorem φg:type_of% @List.getElem_idxOf:=@List.getElem_idxOf
theorem φh:type_of% @Nat.add_mul:=@Nat.add_mul
theorem φi:type_of% @List.length_eq_zero_iff:=@List.length_eq_zero_iff
theorem φj:type_of% @List.filter_cons:=@List.filter_cons
theorem φk:type_of% @List.cons_append:=@List.cons_append
theorem φl:type_of% @Array.getElem?_eq_none:=@Array.getElem?_eq_none
theorem φm:type_of% @Option.map_none:=@Option.map_none
theorem φn:type_of% @Nat.eq_zero_or_pos:=@Nat.eq_zero_or_pos
theorem φo:type_of% @List.length_drop:=@List.length_drop
theorem φp:type_of% @Nat.mul_comm:=@Nat.mul_comm
theorem φq:type_of% @List.length_nil:=@List.length_nil
theorem Z.{u} {α:Sort u} {a:α}:a=a:=rfl
structure Box (p:Prop):Prop where
 out:p
structure Stop (p:Prop):Prop where
 out:p
theorem KH (a:Addr) (n:Nat):(a.add n).block=a.block:=by unfold Addr.add;split<;>rfl
def CF (w:World) (B size:Nat) (A:Option Addr) (n:Nat) (xs:List Value):Prop:=
 xs.length=n*size∧(0<n ->∃ad,A=some ad∧ad.block<B∧∀j u,xs[j]? =some u ->w.cell? (ad.add j)=some u)
section
variable {w w':World} {B B' size n:Nat} {A:Option Addr} {xs:List Value}
theorem CF.at_ {k:Nat} (h:CF w B 1 A n xs) (hk:k<n):∃ad u,A=some ad∧ad.block<B∧xs[k]? =some u∧w.cell? (ad.add k)=some u:=by
 obtain ⟨ad,e,hb,hc⟩:=h.2 (by omega);have hl:k<xs.length:=by have:=h.1;omega
 exact ⟨ad,xs[k],e,hb,ω hl,hc k _ (ω hl)⟩
theorem CF.spot {k:Nat} (h:CF w B 1 A n xs) (hk:k<n):∃b off u,A=some ⟨b,off,none⟩∧b<B∧xs[k]? =some u∧w.cell? ⟨b,off+k,none⟩=some u:=by
 obtain ⟨⟨b,off,sp⟩,u,rfl,hb,hu,hc⟩:=h.at_ hk;obtain ⟨_,u0,e,_,_,hc0⟩:=h.at_ (show 0<n by omega);injection e with e
 subst e;have hs:sp=none:=by simpa [Addr.add] using World.cell?_spot hc0
 subst hs;refine ⟨b,off,u,Z,hb,hu,?_⟩;rw [←hc];unfold Addr.add
 split
 ·next h0=>subst h0;rfl
 ·rfl
theorem CF.keep (h:CF w B size A n xs) (hk:∀p:Addr,p.block<B ->w'.cell? p=w.cell? p):CF w' B size A n xs:=
 ⟨h.1,fun hn=>by
  obtain ⟨ad,e,hb,hc⟩:=h.2 hn
  exact ⟨ad,e,hb,fun j u hu=>(hk _ (by rw [KH];exact hb)).trans (hc j u hu)⟩⟩
theorem CF.below (h:CF w B size A n xs) (hb:Below B w w'):CF w' B size A n xs:=h.keep fun _ hp=>hb.cell hp
theorem CF.drew (h:CF w B size A n xs):CF w.drew B size A n xs:=h
theorem CF.drewN (h:CF w B size A n xs) (k:Nat):CF (w.drewN k) B size A n xs:=h
theorem CF.alloc (h:CF w B size A n xs) (hB:B≤w.heap.size) (o:Obj):CF (w.alloc o) B size A n xs:=h.keep fun p hp=>World.cell?_alloc_lt w o p (by omega)
theorem CF.setCell (h:CF w B size A n xs) {p:Addr} (hB:B≤p.block) (u:Value):CF (w.setCell p u) B size A n xs:=
 h.keep fun q hq=>World.cell?_setCell_other w p q u (fun e=>by subst e;omega)
theorem CF.grown (h:CF w B size A n xs) {row:Option Nat} (hg:w.grownBy w' row) (hB:B≤w.heap.size) (hr:∀g,row=some g ->B≤g):CF w' B size A n xs:=
 h.keep fun p hp=>World.cell?_of_block (hg.block p.block (by omega) (fun e=>by have:=hr _ e.symm;omega))
end
def Lr (w:World) (g:Nat) (t:TypeId) (cs:Array Value):Prop:=w.heap[g]? =some (.cells cs t (0,0))
section
variable {w w':World} {g:Nat} {t:TypeId} {cs:Array Value}
theorem Lr.lt (h:Lr w g t cs):g<w.heap.size:=by
 rcases χn g w.heap.size with hlt | hge
 ·exact hlt
 ·unfold Lr at h;rw [φl hge] at h;cases h
theorem Lr.cell (h:Lr w g t cs) (i:Nat):w.cell? ⟨g,i,none⟩=cs[i]?:=cell_of_row w g i cs t (0,0) h
theorem Lr.frozen (h:Lr w g t cs) (i:Nat):w.frozen? ⟨g,i,none⟩=false:=by
 unfold Lr at h
 simp [World.frozen?,h]
theorem Lr.new (w:World) (t:TypeId) (cs:Array Value):Lr (w.alloc (.cells cs t)) w.heap.size t cs:=heap_alloc_new w _
theorem Lr.drew (h:Lr w g t cs):Lr w.drew g t cs:=h
theorem Lr.drewN (h:Lr w g t cs) (n:Nat):Lr (w.drewN n) g t cs:=h
theorem Lr.alloc (h:Lr w g t cs) (o:Obj):Lr (w.alloc o) g t cs:=(Below.heap_alloc w o g h.lt).trans h
theorem Lr.below {B:Nat} (h:Lr w g t cs) (hb:Below B w w') (hg:g<B):Lr w' g t cs:=(hb.block g hg).trans h
theorem Lr.grown {row:Option Nat} (h:Lr w g t cs) (hb:w.grownBy w' row) (hg:some g≠row):Lr w' g t cs:=(hb.block g h.lt hg).trans h
end
section
variable {P:Program} (w:World)
end
structure SlTy (P:Program) (t e:TypeId) (size bytes:Nat):Prop where
 ht:P.underlying t=some (.slice e)
 info:∃(i:TypeInfo) (z:Value),P.info? e=some i∧i.zero=some z∧i.size=size∧i.bytes=bytes∧z.cells.size=size
 pos:0<size
 pos':0<bytes
section
variable {P:Program} {w:World}
end
section
variable {P:Program}
end
theorem own_new (w:World) (e:TypeId) (size n:Nat) (cs:Array Value) (hn:n≤maxLen) (hs:cs.size=n*size):
  (w.alloc (.cells cs e)).ownsRow w.heap.size e size (.slice (some ⟨w.heap.size,0,none⟩) n n) n cs.toList:=
 ⟨by simpa using hs,.inr ⟨w.heap.size,n,cs,Z,υ _,heap_alloc_new w _,υ _,hn,hs,by rw [←hs,←χi,ωt]⟩⟩
theorem XQ {w:World} {base:Nat} {e:TypeId} {size n:Nat} {v:Value} {xs:List Value} (h:w.ownsRow base e size v n xs):∃A c,v= .slice A n c∧n≤c:=by
 rcases h.2 with ⟨rfl,rfl⟩ | ⟨g,cap,cur,rfl,_,_,hc,_⟩
 ·exact ⟨none,0,Z,υ _⟩
 ·exact ⟨_,cap,Z,hc⟩
theorem Zm {w:World} {base:Nat} {e:TypeId} {size n:Nat} {v:Value} {xs:List Value} (h:w.ownsRow base e size v n xs) {g:Nat} (hg:v.ownBlock=some g):base≤g:=by
 rcases h.2 with ⟨rfl,_⟩ | ⟨g',cap,cur,rfl,hb,_⟩
 ·simp [Value.ownBlock] at hg
 ·simp [Value.ownBlock] at hg;omega
def EB (w:World) (base:Nat) (e:TypeId) (v:Value) (xs:List Value):Prop:=w.ownsRow base e 1 v xs.length xs
theorem EB.nil (w:World) (base:Nat) (e:TypeId):EB w base e (.slice none 0 0) []:=World.ownsRow_nil w base e 1
theorem EB.new (w:World) (e:TypeId) (cs:Array Value) (hn:cs.size≤maxLen):EB (w.alloc (.cells cs e)) w.heap.size e (.slice (some ⟨w.heap.size,0,none⟩) cs.size cs.size) cs.toList:=by
 unfold EB;rw [χi];exact own_new w e 1 cs.size cs hn (by omega)
theorem EB.slice {w:World} {base:Nat} {e:TypeId} {v:Value} {xs:List Value} (h:EB w base e v xs):∃A c,v= .slice A xs.length c∧xs.length≤c:=XQ h
theorem EB.mono {w:World} {base base':Nat} {e:TypeId} {v:Value} {xs:List Value} (h:EB w base e v xs) (hb:base'≤base):EB w base' e v xs:=by
 refine ⟨h.1,?_⟩;rcases h.2 with h' | ⟨g,cap,cur,h1,h2,h3⟩
 ·exact .inl h'
 ·exact .inr ⟨g,cap,cur,h1,ωe hb h2,h3⟩
theorem EB.as {w:World} {base base':Nat} {e:TypeId} {v:Value} {xs xs':List Value} (h:EB w base e v xs) (hb:base=base') (hx:xs=xs'):EB w base' e v xs':=by
 subst hb hx;exact h
theorem EB.alloc {w:World} {base:Nat} {e:TypeId} {v:Value} {xs:List Value} (h:EB w base e v xs) (o:Obj):EB (w.alloc o) base e v xs:=World.ownsRow.alloc h o
theorem EB.drewN {w:World} {base:Nat} {e:TypeId} {v:Value} {xs:List Value} (h:EB w base e v xs) (n:Nat):EB (w.drewN n) base e v xs:=h
theorem EB.below {w w':World} {base:Nat} {e:TypeId} {v:Value} {xs:List Value} (h:EB w base e v xs) (hb:Below w.heap.size w w'):EB w' base e v xs:=by
 refine ⟨h.1,?_⟩;rcases h.2 with h' | ⟨g,cap,cur,h1,h2,h3,h4⟩
 ·exact .inl h'
 ·have hlt:g<w.heap.size:=by
   rcases χn g w.heap.size with hlt | hge
   ·exact hlt
   ·rw [φl hge] at h3;cases h3
  exact .inr ⟨g,cap,cur,h1,h2,(hb.block g hlt).trans h3,h4⟩
theorem EB.grown {w w':World} {base:Nat} {e:TypeId} {v:Value} {xs:List Value} (h:EB w base e v xs) {row:Option Nat} (hg:w.grownBy w' row) (hne:∀g,v.ownBlock=some g ->row≠some g):EB w' base e v xs:=by
 refine ⟨h.1,?_⟩;rcases h.2 with h' | ⟨g,cap,cur,h1,h2,h3,h4⟩
 ·exact .inl h'
 ·have hlt:g<w.heap.size:=by
   rcases χn g w.heap.size with hlt | hge
   ·exact hlt
   ·rw [φl hge] at h3;cases h3
  exact .inr ⟨g,cap,cur,h1,h2,(hg.block g hlt (fun e=>hne g (by rw [h1];rfl) e.symm)).trans h3,h4⟩
theorem EB.lt {w:World} {base:Nat} {e:TypeId} {v:Value} {xs:List Value} (h:EB w base e v xs) {g:Nat} (hg:v.ownBlock=some g):base≤g∧g<w.heap.size:=by
 refine ⟨Zm h hg,?_⟩;rcases h.2 with ⟨rfl,_⟩ | ⟨g',cap,cur,rfl,h2,h3,h4⟩
 ·simp [Value.ownBlock] at hg
 ·simp [Value.ownBlock] at hg
  subst hg;rcases χn g' w.heap.size with hlt | hge
  ·exact hlt
  ·rw [φl hge] at h3;cases h3
def cd (w:World) (S:Nat ->Prop) (v:Value) (xs:List Value):Prop:=
 ∃A c,v= .slice A xs.length c∧xs.length≤c∧(0<xs.length ->∃ad,A=some ad∧S ad.block∧∀j u,xs[j]? =some u ->w.cell? (ad.add j)=some u)
section
variable {w w':World} {S S':Nat ->Prop} {v:Value} {xs:List Value}
theorem cd.mono (h:cd w S v xs) (hS:∀b,S b ->S' b):cd w S' v xs:=by
 obtain ⟨A,c,e,hc,hr⟩:=h;refine ⟨A,c,e,hc,fun h0=>?_⟩;obtain ⟨ad,e,hb,hcell⟩:=hr h0;exact ⟨ad,e,hS _ hb,hcell⟩
theorem cd.keep (h:cd w S v xs) (hk:∀b,S b ->w'.heap[b]? =w.heap[b]?):cd w' S v xs:=by
 obtain ⟨A,c,e,hc,hr⟩:=h;refine ⟨A,c,e,hc,fun h0=>?_⟩;obtain ⟨ad,e,hb,hcell⟩:=hr h0;exact ⟨ad,e,hb,fun j u hu=>(World.cell?_of_block (w:=w) (by rw [KH];exact hk _ hb)).trans (hcell j u hu)⟩
theorem cd.one (h:cd w S v xs):v.oneCell'=true:=by
 obtain ⟨A,c,rfl,_⟩:=h;rfl
end
def Rows {α:Type} (w:World) (S:Nat ->Prop) (f:α ->Value) (vs:List Value) (ls:List (List α)):Prop:=
 vs.length=ls.length∧∀(i:Nat) (v:Value) (l:List α),vs[i]? =some v ->ls[i]? =some l ->cd w S v (l.map f)
section
variable {α:Type} {w w':World} {S S':Nat ->Prop} {f:α ->Value} {vs:List Value} {ls:List (List α)}
theorem Rows.nil:Rows w S f [] []:=⟨Z,fun i v l h=>by simp at h⟩
theorem Rows.snoc {v:Value} {l:List α} (h:Rows w S f vs ls) (hr:cd w S v (l.map f)):Rows w S f (vs++ [v]) (ls++ [l]):=by
 refine ⟨by simp [h.1],fun i u m hu hm=>?_⟩;rw [List.getElem?_append] at hu hm
 by_cases hi:i<vs.length
 ·rw [κ hi] at hu;rw [κ (by rw [←h.1];exact hi)] at hm;exact h.2 i u m hu hm
 ·rw [ϑ hi] at hu;rw [ϑ (by rw [←h.1];exact hi)] at hm;rw [←h.1] at hm
  match hk:i - vs.length,hu,hm with
  | 0,hu,hm=>
   simp at hu hm
   subst hu hm;exact hr
  | k+1,hu,hm=>simp at hu
theorem Rows.mono (h:Rows w S f vs ls) (hS:∀b,S b ->S' b):Rows w S' f vs ls:=⟨h.1,fun i v l hv hl=>(h.2 i v l hv hl).mono hS⟩
theorem Rows.keep (h:Rows w S f vs ls) (hk:∀b,S b ->w'.heap[b]? =w.heap[b]?):Rows w' S f vs ls:=⟨h.1,fun i v l hv hl=>(h.2 i v l hv hl).keep hk⟩
theorem Rows.at_ (h:Rows w S f vs ls) {i:Nat} (hi:i<ls.length):∃v,vs[i]? =some v∧cd w S v (ls[i].map f):=by
 have hi':i<vs.length:=by rw [h.1];exact hi
 exact ⟨vs[i],ω hi',h.2 i _ _ (ω hi') (ω hi)⟩
theorem Rows.one (h:Rows w S f vs ls):∀u∈vs,u.oneCell'=true:=by
 intro u hu;obtain ⟨i,hi,rfl⟩:=ωu hu;exact (h.2 i _ _ (ω hi) (ω (by rw [←h.1];exact hi))).one
theorem Rows.below {B:Nat} (h:Rows w (· <B) f vs ls) (hb:Below B w w'):Rows w' (· <B) f vs ls:=h.keep fun b hS=>hb.block b hS
end
section
variable {P:Program} {w:World} {ops:Array Oper} {rest:List Oper} {a:Act} {Q:Exit ->Act ->World ->Prop} {d:Option Tmp} {ty T:TypeId} {pos:String} {aft:Array Edge}
end
end Go.Proofs.YteifpcnphnhaoaaGreat
