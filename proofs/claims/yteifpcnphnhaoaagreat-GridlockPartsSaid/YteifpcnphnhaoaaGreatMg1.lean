import Derived.WalkKit
import Derived.WalkSpells
import Derived.WalkLawsBesides
import Derived.Lib.Hide
import Derived.Maps.AppendAt
import Derived.Deep.AppendLies
import Derived.Deep.Draws
import Derived.OwnWalk
import Derived.Lib.BufferRead
import Derived.Lib.LazyBuf
import Derived.Lib.SlBytesConst
import Derived.Deep.QuietTactic
import Derived.BigQuiet
namespace Go.Proofs.YteifpcnphnhaoaaGreat
open Go.RowKit
theorem ω:type_of% @List.getElem?_eq_getElem:=@List.getElem?_eq_getElem
theorem ψ:type_of% @List.take_succ_eq_append_getElem:=@List.take_succ_eq_append_getElem
theorem χ:type_of% @List.length_map:=@List.length_map
theorem φ:type_of% @List.getElem?_eq_some_iff:=@List.getElem?_eq_some_iff
theorem ϑ:type_of% @List.getElem_mem:=@List.getElem_mem
theorem ξ:type_of% @List.mem_of_getElem?:=@List.mem_of_getElem?
theorem ζ:type_of% @Nat.zero_le:=@Nat.zero_le
theorem η:type_of% @if_neg:=@if_neg
theorem θ:type_of% @List.take_of_length_le:=@List.take_of_length_le
theorem κ:type_of% @List.mem_singleton:=@List.mem_singleton
theorem ν:type_of% @List.getElem?_map:=@List.getElem?_map
theorem υ:type_of% @List.length_singleton:=@List.length_singleton
theorem ϖ:type_of% @List.mem_append:=@List.mem_append
theorem ϱ:type_of% @List.length_take:=@List.length_take
theorem ς:type_of% @if_pos:=@if_pos
theorem Γ:type_of% @Nat.le_refl:=@Nat.le_refl
theorem Δ:type_of% @List.length_append:=@List.length_append
theorem Θ:type_of% @IntWalk.i64_in:=@IntWalk.i64_in
theorem Ξ:type_of% @List.mem_map:=@List.mem_map
theorem Φ:type_of% @List.getD_eq_getElem?_getD:=@List.getD_eq_getElem?_getD
theorem Ψ:type_of% @List.mem_range:=@List.mem_range
theorem Ω:type_of% @List.map_append:=@List.map_append
theorem Υ:type_of% @List.mem_cons:=@List.mem_cons
theorem ωa:type_of% @Nat.le_trans:=@Nat.le_trans
theorem ωb:type_of% @Nat.eq_of_beq_eq_true:=@Nat.eq_of_beq_eq_true
theorem ωc:type_of% @List.mem_filter:=@List.mem_filter
theorem ωd:type_of% @Bool.and_eq_true:=@Bool.and_eq_true
theorem ωe:type_of% @List.map_congr_left:=@List.map_congr_left
theorem ωf:type_of% @decide_eq_true:=@decide_eq_true
theorem ωg:type_of% @Array.getElem?_eq_getElem:=@Array.getElem?_eq_getElem
theorem ωh:type_of% @decide_eq_false:=@decide_eq_false
theorem ωi:type_of% @List.append_nil:=@List.append_nil
theorem ωj:type_of% @List.length_filter_le:=@List.length_filter_le
theorem ωk:type_of% @List.pairwise_iff_getElem:=@List.pairwise_iff_getElem
theorem ωl:type_of% @List.take_length:=@List.take_length
theorem ωm:type_of% @congrArg:=@congrArg
theorem ωn:type_of% @Array.getElem?_eq_some_iff:=@Array.getElem?_eq_some_iff
theorem ωo:type_of% @List.length_range:=@List.length_range
theorem ωp:type_of% @List.getElem_map:=@List.getElem_map
theorem ωq:type_of% @List.getElem_of_mem:=@List.getElem_of_mem
theorem ωr:type_of% @List.length_set:=@List.length_set
theorem ωs:type_of% @List.mem_of_mem_take:=@List.mem_of_mem_take
theorem ωt:type_of% @List.map_map:=@List.map_map
theorem ωu:type_of% @List.mem_cons_self:=@List.mem_cons_self
theorem ωv:type_of% @List.filter_append:=@List.filter_append
theorem ωw:type_of% @List.mem_cons_of_mem:=@List.mem_cons_of_mem
theorem ωx:type_of% @Nat.ne_of_beq_eq_false:=@Nat.ne_of_beq_eq_false
theorem ωy:type_of% @List.range_succ:=@List.range_succ
theorem ωz:type_of% @List.eq_nil_of_length_eq_zero:=@List.eq_nil_of_length_eq_zero
theorem ψa:type_of% @Nat.mul_le_mul_right:=@Nat.mul_le_mul_right
theorem ψb:type_of% @List.mem_iff_getElem:=@List.mem_iff_getElem
theorem ψc:type_of% @List.pairwise_map:=@List.pairwise_map
theorem ψd:type_of% @Array.getElem?_toList:=@Array.getElem?_toList
theorem ψe:type_of% @List.mem_append_right:=@List.mem_append_right
theorem ψf:type_of% @Nat.lt_of_lt_of_le:=@Nat.lt_of_lt_of_le
theorem ψg:type_of% @List.mem_take_iff_getElem:=@List.mem_take_iff_getElem
theorem ψh:type_of% @Array.getD_eq_getD_getElem?:=@Array.getD_eq_getD_getElem?
theorem ψi:type_of% @List.append_assoc:=@List.append_assoc
theorem ψj:type_of% @List.filter_sublist:=@List.filter_sublist
theorem ψk:type_of% @List.ext_getElem:=@List.ext_getElem
theorem ψl:type_of% @Option.map_some:=@Option.map_some
theorem ψm:type_of% @List.getElem?_eq_none:=@List.getElem?_eq_none
theorem ψn:type_of% @List.getElem?_take_of_lt:=@List.getElem?_take_of_lt
theorem ψo:type_of% @List.mem_append_left:=@List.mem_append_left
theorem ψp:type_of% @Nat.lt_succ_self:=@Nat.lt_succ_self
theorem ψq:type_of% @List.map_cons:=@List.map_cons
theorem ψr:type_of% @List.pairwise_cons:=@List.pairwise_cons
theorem ψs:type_of% @List.mem_or_eq_of_mem_set:=@List.mem_or_eq_of_mem_set
theorem ψt:type_of% @List.getElem?_range:=@List.getElem?_range
theorem ψu:type_of% @Nat.zero_add:=@Nat.zero_add
theorem ψv:type_of% @decide_eq_true_eq:=@decide_eq_true_eq
theorem ψw:type_of% @Nat.beq_refl:=@Nat.beq_refl
theorem ψx:type_of% @Nat.add_zero:=@Nat.add_zero
theorem ψy:type_of% @Array.getElem?_modify:=@Array.getElem?_modify
theorem ψz:type_of% @List.mem_map_of_mem:=@List.mem_map_of_mem
theorem χa:type_of% @List.length_pos_iff:=@List.length_pos_iff
theorem χb:type_of% @Array.length_toList:=@Array.length_toList
theorem χc:type_of% @List.length_nil:=@List.length_nil
theorem χd:type_of% @List.length_drop:=@List.length_drop
theorem χe:type_of% @List.filter_cons:=@List.filter_cons
theorem χf:type_of% @of_decide_eq_true:=@of_decide_eq_true
theorem χg:type_of% @List.getElem?_take:=@List.getElem?_take
theorem χh:type_of% @List.getElem?_drop:=@List.getElem?_drop
theorem χi:type_of% @List.idxOf_lt_length_of_mem:=@List.idxOf_lt_length_of_mem
theorem χj:type_of% @List.nil_append:=@List.nil_append
theorem χk:type_of% @Option.bind_some:=@Option.bind_some
theorem χl:type_of% @List.mem_flatMap:=@List.mem_flatMap
theorem χm:type_of% @List.all_eq_true:=@List.all_eq_true
theorem χn:type_of% @List.ext_getElem?:=@List.ext_getElem?
theorem χo:type_of% @List.drop_eq_getElem_cons:=@List.drop_eq_getElem_cons
theorem χp:type_of% @List.drop_of_length_le:=@List.drop_of_length_le
theorem χq:type_of% @List.length_cons:=@List.length_cons
theorem χr:type_of% @List.filter_congr:=@List.filter_congr
theorem χs:type_of% @Nat.mul_one:=@Nat.mul_one
theorem χt:type_of% @List.sum_append:=@List.sum_append
theorem χu:type_of% @Array.size_range:=@Array.size_range
theorem χv:type_of% @List.nodup_append:=@List.nodup_append
theorem χw:type_of% @List.getElem?_set:=@List.getElem?_set
theorem χx:type_of% @Classical.not_not:=@Classical.not_not
theorem χy:type_of% @List.take_append_drop:=@List.take_append_drop
theorem χz:type_of% @List.Pairwise.imp_of_mem:=@List.Pairwise.imp_of_mem
theorem φa:type_of% @Option.map_none:=@Option.map_none
theorem φb:type_of% @List.getElem?_append_left:=@List.getElem?_append_left
theorem φc:type_of% @List.getElem_range:=@List.getElem_range
theorem φd:type_of% @Nat.mul_comm:=@Nat.mul_comm
theorem φe:type_of% @Nat.lt_irrefl:=@Nat.lt_irrefl
theorem φf:type_of% @Nat.add_mul:=@Nat.add_mul
theorem φg:type_of% @List.length_eq_zero_iff:=@List.length_eq_zero_iff
theorem φh:type_of% @List.nodup_cons:=@List.nodup_cons
theorem φi:type_of% @Bool.eq_iff_iff:=@Bool.eq_iff_iff
theorem Z.{u} {b:Sort u} {a:b}:a=a:=rfl
structure Box (p:Prop):Prop where
 out:p
structure Stop (p:Prop):Prop where
 out:p
theorem L9 (a:Addr) (n:Nat):(a.add n).block=a.block:=by unfold Addr.add;split<;>rfl
def CR (w:World) (B size:Nat) (A:Option Addr) (n:Nat) (xs:List Value):Prop:=
 xs.length=n*size/\(0<n ->∃ad,A=some ad/\ad.block<B/\∀j u,xs[j]? =some u ->w.cell? (ad.add j)=some u)
section
variable {w w':World} {B B' size n:Nat} {A:Option Addr} {xs:List Value}
variable {k:Nat}
theorem CR.at_ (h:CR w B 1 A n xs) (c:k<n):∃a u,A=some a/\a.block<B/\xs[k]? =some u/\w.cell? (a.add k)=some u:=by
 obtain ⟨a,e,f,d⟩:=h.2 (by omega);have b:k<xs.length:=by have:=h.1;omega
 simp_all
theorem CR.spot (h:CR w B 1 A n xs) (g:k<n):∃b a u,A=some ⟨b,a,none⟩/\b<B/\xs[k]? =some u/\w.cell? ⟨b,a+k,none⟩=some u:=by
 obtain ⟨⟨b,a,d⟩,u,rfl,m,j,l⟩:=h.at_ g;obtain ⟨_,i,e,_,_,c⟩:=h.at_ (show 0<n by omega);injection e with e
 subst e;have f:d=none:=by simpa [Addr.add] using World.cell?_spot c
 subst f
 grind [Addr.add]
theorem CR.keep (h:CR w B size A n xs) (a:∀p:Addr,p.block<B ->w'.cell? p=w.cell? p):CR w' B size A n xs:=by grind [L9,CR]
theorem CR.below (h:CR w B size A n xs) (b:Below B w w'):CR w' B size A n xs:=h.keep λ_ a=>b.cell a
theorem CR.drew (h:CR w B size A n xs):CR w.drew B size A n xs:=h
theorem CR.drewN (h:CR w B size A n xs) (k:Nat):CR (w.drewN k) B size A n xs:=h
theorem CR.alloc (h:CR w B size A n xs) (b:B<=w.heap.size) (o:Obj):CR (w.alloc o) B size A n xs:=h.keep λp a=>World.cell?_alloc_lt w o p (by omega)
theorem CR.setCell (h:CR w B size A n xs) {p:Addr} (b:B<=p.block) (u:Value):CR (w.setCell p u) B size A n xs:=
 h.keep λq a=>World.cell?_setCell_other w p q u (λe=>by subst e;omega)
theorem CR.grown (h:CR w B size A n xs) {a:Option Nat} (c:w.grownBy w' a) (f:B<=w.heap.size) (b:∀g,a=some g ->B<=g):CR w' B size A n xs:=
 h.keep λp d=>World.cell?_of_block (c.block p.block (by omega) (λe=>by have:=b _ e.symm;omega))
end
def Nc (w:World) (g:Nat) (t:TypeId) (cs:Array Value):Prop:=w.heap[g]? =some (.cells cs t (0,0))
section
variable {w w':World} {g:Nat} {t:TypeId} {cs:Array Value}
theorem Nc.lt (h:Nc w g t cs):g<w.heap.size:=by grind [Nc]
theorem Nc.cell (h:Nc w g t cs) (i:Nat):w.cell? ⟨g,i,none⟩=cs[i]?:=cell_of_row w g i cs t (0,0) h
theorem Nc.frozen (h:Nc w g t cs) (i:Nat):w.frozen? ⟨g,i,none⟩=false:=by
 unfold Nc at h
 simp [World.frozen?,h]
theorem Nc.new (w:World) (t:TypeId) (cs:Array Value):Nc (w.alloc (.cells cs t)) w.heap.size t cs:=heap_alloc_new w _
theorem Nc.drew (h:Nc w g t cs):Nc w.drew g t cs:=h
theorem Nc.drewN (h:Nc w g t cs) (n:Nat):Nc (w.drewN n) g t cs:=h
theorem Nc.alloc (h:Nc w g t cs) (o:Obj):Nc (w.alloc o) g t cs:=(Below.heap_alloc w o g h.lt).trans h
theorem Nc.below {B:Nat} (h:Nc w g t cs) (b:Below B w w') (a:g<B):Nc w' g t cs:=(b.block g a).trans h
theorem Nc.grown {a:Option Nat} (h:Nc w g t cs) (c:w.grownBy w' a) (b:some g≠a):Nc w' g t cs:=(c.block g h.lt b).trans h
end
section
variable {P:Program} (w:World)
end
structure SlTy (P:Program) (t e:TypeId) (size bytes:Nat):Prop where
 ht:P.underlying t=some (.slice e)
 info:∃(i:TypeInfo) (z:Value),P.info? e=some i/\i.zero=some z/\i.size=size/\i.bytes=bytes/\z.cells.size=size
 pos:0<size
 pos':0<bytes
section
variable {P:Program} {w:World}
end
section
variable {P:Program}
end
variable {a:List Value} {e:TypeId} {c:Nat} {d:Value} {w:World} {f g h:Nat} {i:World}
theorem own_new (w:World) (e:TypeId) (a n:Nat) (b:Array Value) (d:n<=maxLen) (c:b.size=n*a):
  (w.alloc (.cells b e)).ownsRow w.heap.size e a (.slice (some ⟨w.heap.size,0,none⟩) n n) n b.toList:=
 ⟨by simpa using c,.inr ⟨w.heap.size,n,b,Z,Γ _,heap_alloc_new w _,Γ _,d,c,by rw [<-c,<-χb,ωl]⟩⟩
theorem Z4 {n:Nat} (b:w.ownsRow c e h d n a):∃A f,d= .slice A n f/\n<=f:=by
 rcases b.2 with ⟨rfl,rfl⟩ | ⟨g,j,i,rfl,_,_,k,_⟩
 .simp
 grind
theorem cq {n:Nat} (b:w.ownsRow c e h d n a) (j:d.ownBlock=some g):c<=g:=by
 rcases b.2 with ⟨rfl,_⟩ | ⟨l,i,f,rfl,k,_⟩
 all_goals (grind [Value.ownBlock])
def E7 (w:World) (base:Nat) (e:TypeId) (v:Value) (xs:List Value):Prop:=w.ownsRow base e 1 v xs.length xs
theorem E7.nil (w:World) (a:Nat) (e:TypeId):E7 w a e (.slice none 0 0) []:=World.ownsRow_nil w a e 1
theorem E7.new (w:World) (e:TypeId) (a:Array Value) (b:a.size<=maxLen):E7 (w.alloc (.cells a e)) w.heap.size e (.slice (some ⟨w.heap.size,0,none⟩) a.size a.size) a.toList:=by grind [E7,own_new]
theorem E7.slice (h:E7 w c e d a):∃A b,d= .slice A a.length b/\a.length<=b:=Z4 h
theorem E7.mono {w:World} (h:E7 w c e d a) (j:f<=c):E7 w f e d a:=by
 refine ⟨h.1,?_⟩;rcases h.2 with n | ⟨g,i,b,m,l,k⟩
 .exact .inl n
 .exact .inr ⟨g,i,b,m,ωa j l,k⟩
theorem E7.as {b:List Value} (h:E7 w c e d a) (i:c=f) (g:a=b):E7 w f e d b:=by
 subst i g;exact h
theorem E7.alloc (h:E7 w c e d a) (o:Obj):E7 (w.alloc o) c e d a:=World.ownsRow.alloc h o
theorem E7.drewN (h:E7 w c e d a) (n:Nat):E7 (w.drewN n) c e d a:=h
theorem E7.below (h:E7 w c e d a) (k:Below w.heap.size w i):E7 i c e d a:=by
 refine ⟨h.1,?_⟩;rcases h.2 with p | ⟨g,j,f,o,n,m,l⟩
 .exact .inl p
 .have b:g<w.heap.size:=by
   grind
  exact .inr ⟨g,j,f,o,n,(k.block g b).trans m,l⟩
theorem E7.grown (h:E7 w c e d a) {b:Option Nat} (n:w.grownBy i b) (f:∀g,d.ownBlock=some g ->b≠some g):E7 i c e d a:=by
 refine ⟨h.1,?_⟩;rcases h.2 with r | ⟨g,l,k,m,q,p,o⟩
 .exact .inl r
 .have j:g<w.heap.size:=by
   grind
  exact .inr ⟨g,l,k,m,q,(n.block g j (λe=>f g (by rw [m];rfl) e.symm)).trans p,o⟩
theorem E7.lt (h:E7 w c e d a) (b:d.ownBlock=some g):c<=g/\g<w.heap.size:=by
 refine ⟨cq h b,?_⟩;rcases h.2 with ⟨rfl,_⟩ | ⟨m,i,f,rfl,l,k,j⟩
 all_goals (grind [Value.ownBlock])
def aj (w:World) (S:Nat ->Prop) (v:Value) (xs:List Value):Prop:=
 ∃A c,v= .slice A xs.length c/\xs.length<=c/\(0<xs.length ->∃ad,A=some ad/\S ad.block/\∀j u,xs[j]? =some u ->w.cell? (ad.add j)=some u)
section
variable {w w':World} {S S':Nat ->Prop} {v:Value} {xs:List Value}
theorem aj.mono (h:aj w S v xs) (a:∀b,S b ->S' b):aj w S' v xs:=by grind [aj]
theorem aj.keep (h:aj w S v xs) (a:∀b,S b ->w'.heap[b]? =w.heap[b]?):aj w' S v xs:=by grind [World.cell?_of_block,L9,aj]
theorem aj.one (h:aj w S v xs):v.oneCell'=true:=by
 obtain ⟨A,c,rfl,_⟩:=h;rfl
end
def Rows {α:Type} (w:World) (S:Nat ->Prop) (f:α ->Value) (vs:List Value) (ls:List (List α)):Prop:=
 vs.length=ls.length/\∀(i:Nat) (v:Value) (l:List α),vs[i]? =some v ->ls[i]? =some l ->aj w S v (l.map f)
section
variable {α:Type} {w w':World} {S S':Nat ->Prop} {f:α ->Value} {vs:List Value} {ls:List (List α)}
theorem Rows.nil:Rows w S f [] []:=⟨Z,λi v l h=>by simp at h⟩
theorem Rows.snoc {v:Value} {l:List α} (h:Rows w S f vs ls) (a:aj w S v (l.map f)):Rows w S f (vs++ [v]) (ls++ [l]):=by grind [Rows]
theorem Rows.mono (h:Rows w S f vs ls) (d:∀b,S b ->S' b):Rows w S' f vs ls:=⟨h.1,λi v l a c=>(h.2 i v l a c).mono d⟩
theorem Rows.keep (h:Rows w S f vs ls) (d:∀b,S b ->w'.heap[b]? =w.heap[b]?):Rows w' S f vs ls:=⟨h.1,λi v l a c=>(h.2 i v l a c).keep d⟩
theorem Rows.at_ (h:Rows w S f vs ls) {i:Nat} (b:i<ls.length):∃v,vs[i]? =some v/\aj w S v (ls[i].map f):=by
 have a:i<vs.length:=by rw [h.1];exact b
 exact ⟨vs[i],ω a,h.2 i _ _ (ω a) (ω b)⟩
theorem Rows.one (h:Rows w S f vs ls):∀u∈vs,u.oneCell'=true:=by
 intro u b;obtain ⟨i,a,rfl⟩:=ωq b;exact (h.2 i _ _ (ω a) (ω (by rw [<-h.1];exact a))).one
theorem Rows.below {B:Nat} (h:Rows w (· <B) f vs ls) (a:Below B w w'):Rows w' (· <B) f vs ls:=h.keep λb c=>a.block b c
end
section
variable {P:Program} {w:World} {ops:Array Oper} {rest:List Oper} {a:Act} {Q:Exit ->Act ->World ->Prop} {d:Option Tmp} {ty T:TypeId} {pos:String} {aft:Array Edge}
end
end Go.Proofs.YteifpcnphnhaoaaGreat
