import Derived.WalkKit
import Derived.WalkSpells
import Derived.WalkLawsBesides
import Derived.Lib.Hide
import Derived.Maps.AppendAt
import Derived.Deep.AppendLies
import Derived.Deep.Draws
import Derived.OwnWalk
import Derived.Lib.BufferRead
import Derived.Lib.LazyBuf
import Derived.Lib.SlBytesConst
import Derived.Deep.QuietTactic
import Derived.BigQuiet
namespace Go.Proofs.YteifpcnphnhaoaaGreat
open Go.RowKit
theorem ω:type_of% @List.getElem?_eq_getElem:=@List.getElem?_eq_getElem
theorem ψ:type_of% @List.take_succ_eq_append_getElem:=@List.take_succ_eq_append_getElem
theorem χ:type_of% @List.length_map:=@List.length_map
theorem φ:type_of% @List.getElem?_eq_some_iff:=@List.getElem?_eq_some_iff
theorem ϑ:type_of% @List.getElem_mem:=@List.getElem_mem
theorem ξ:type_of% @List.mem_singleton:=@List.mem_singleton
theorem ζ:type_of% @List.length_singleton:=@List.length_singleton
theorem η:type_of% @List.length_take:=@List.length_take
theorem θ:type_of% @List.take_of_length_le:=@List.take_of_length_le
theorem κ:type_of% @Nat.zero_le:=@Nat.zero_le
theorem ν:type_of% @if_neg:=@if_neg
theorem υ:type_of% @List.mem_append:=@List.mem_append
theorem ϖ:type_of% @List.mem_of_getElem?:=@List.mem_of_getElem?
theorem ϱ:type_of% @if_pos:=@if_pos
theorem ς:type_of% @List.getElem?_map:=@List.getElem?_map
theorem Γ:type_of% @List.mem_map:=@List.mem_map
theorem Δ:type_of% @List.length_append:=@List.length_append
theorem Θ:type_of% @Nat.le_refl:=@Nat.le_refl
theorem Ξ:type_of% @IntWalk.i64_in:=@IntWalk.i64_in
theorem Φ:type_of% @List.mem_filter:=@List.mem_filter
theorem Ψ:type_of% @List.getD_eq_getElem?_getD:=@List.getD_eq_getElem?_getD
theorem Ω:type_of% @List.mem_range:=@List.mem_range
theorem Υ:type_of% @decide_eq_true:=@decide_eq_true
theorem jy:type_of% @List.map_append:=@List.map_append
theorem kQ:type_of% @List.map_congr_left:=@List.map_congr_left
theorem kC:type_of% @decide_eq_false:=@decide_eq_false
theorem jt:type_of% @List.mem_cons:=@List.mem_cons
theorem jp:type_of% @Nat.le_trans:=@Nat.le_trans
theorem kO:type_of% @Bool.and_eq_true:=@Bool.and_eq_true
theorem ki:type_of% @Nat.eq_of_beq_eq_true:=@Nat.eq_of_beq_eq_true
theorem jw:type_of% @List.map_map:=@List.map_map
theorem k7:type_of% @List.mem_cons_self:=@List.mem_cons_self
theorem kN:type_of% @List.nil_append:=@List.nil_append
theorem kT:type_of% @List.getElem_map:=@List.getElem_map
theorem lJ:type_of% @Array.getElem?_eq_getElem:=@Array.getElem?_eq_getElem
theorem kV:type_of% @List.take_length:=@List.take_length
theorem kh:type_of% @List.getElem_of_mem:=@List.getElem_of_mem
theorem kw:type_of% @List.mem_cons_of_mem:=@List.mem_cons_of_mem
theorem lE:type_of% @List.length_filter_le:=@List.length_filter_le
theorem kY:type_of% @List.append_nil:=@List.append_nil
theorem l4:type_of% @List.pairwise_iff_getElem:=@List.pairwise_iff_getElem
theorem ld:type_of% @Array.getElem?_eq_some_iff:=@Array.getElem?_eq_some_iff
theorem kp:type_of% @List.length_range:=@List.length_range
theorem lI:type_of% @List.mem_of_mem_take:=@List.mem_of_mem_take
theorem ky:type_of% @List.pairwise_map:=@List.pairwise_map
theorem jq:type_of% @congrArg:=@congrArg
theorem k6:type_of% @List.map_cons:=@List.map_cons
theorem ko:type_of% @List.range_succ:=@List.range_succ
theorem kn:type_of% @List.length_set:=@List.length_set
theorem mU:type_of% @List.eq_nil_of_length_eq_zero:=@List.eq_nil_of_length_eq_zero
theorem lK:type_of% @of_decide_eq_true:=@of_decide_eq_true
theorem lk:type_of% @Nat.mul_le_mul_right:=@Nat.mul_le_mul_right
theorem lz:type_of% @Nat.ne_of_beq_eq_false:=@Nat.ne_of_beq_eq_false
theorem mM:type_of% @List.drop_eq_getElem_cons:=@List.drop_eq_getElem_cons
theorem lj:type_of% @List.filter_sublist:=@List.filter_sublist
theorem ly:type_of% @Array.getElem?_toList:=@Array.getElem?_toList
theorem li:type_of% @Nat.lt_of_lt_of_le:=@Nat.lt_of_lt_of_le
theorem l6:type_of% @decide_eq_true_eq:=@decide_eq_true_eq
theorem mG:type_of% @List.mem_append_right:=@List.mem_append_right
theorem lX:type_of% @List.length_drop:=@List.length_drop
theorem lT:type_of% @List.length_nil:=@List.length_nil
theorem lh:type_of% @List.append_assoc:=@List.append_assoc
theorem l5:type_of% @List.filter_cons:=@List.filter_cons
theorem mg:type_of% @Array.getD_eq_getD_getElem?:=@Array.getD_eq_getD_getElem?
theorem lW:type_of% @Option.map_some:=@Option.map_some
theorem mL:type_of% @List.getElem?_eq_none:=@List.getElem?_eq_none
theorem lx:type_of% @List.pairwise_cons:=@List.pairwise_cons
theorem lr:type_of% @List.filter_congr:=@List.filter_congr
theorem lv:type_of% @List.filter_append:=@List.filter_append
theorem lg:type_of% @List.ext_getElem:=@List.ext_getElem
theorem mK:type_of% @List.mem_iff_getElem:=@List.mem_iff_getElem
theorem mJ:type_of% @List.mem_append_left:=@List.mem_append_left
theorem mr:type_of% @List.idxOf_lt_length_of_mem:=@List.idxOf_lt_length_of_mem
theorem lS:type_of% @List.sum_cons:=@List.sum_cons
theorem mf:type_of% @List.getElem?_take_of_lt:=@List.getElem?_take_of_lt
theorem mz:type_of% @List.mem_take_iff_getElem:=@List.mem_take_iff_getElem
theorem my:type_of% @List.mem_or_eq_of_mem_set:=@List.mem_or_eq_of_mem_set
theorem mX:type_of% @List.getElem?_range:=@List.getElem?_range
theorem lU:type_of% @Nat.zero_add:=@Nat.zero_add
theorem mI:type_of% @List.mem_flatMap:=@List.mem_flatMap
theorem mH:type_of% @List.length_cons:=@List.length_cons
theorem lY:type_of% @Nat.beq_refl:=@Nat.beq_refl
theorem mj:type_of% @Array.getElem?_modify:=@Array.getElem?_modify
theorem m9:type_of% @List.mem_map_of_mem:=@List.mem_map_of_mem
theorem m8:type_of% @List.length_pos_iff:=@List.length_pos_iff
theorem m7:type_of% @Array.length_toList:=@Array.length_toList
theorem mN:type_of% @Nat.lt_succ_self:=@Nat.lt_succ_self
theorem l7:type_of% @Nat.add_zero:=@Nat.add_zero
theorem mx:type_of% @List.drop_of_length_le:=@List.drop_of_length_le
theorem m6:type_of% @List.getElem?_take:=@List.getElem?_take
theorem mw:type_of% @List.take_append_drop:=@List.take_append_drop
theorem mW:type_of% @Option.bind_some:=@Option.bind_some
theorem m5:type_of% @List.nodup_append:=@List.nodup_append
theorem m0:type_of% @List.ext_getElem?:=@List.ext_getElem?
theorem nT:type_of% @List.getElem?_append_left:=@List.getElem?_append_left
theorem sU:type_of% @List.exists_of_findSome?_eq_some:=@List.exists_of_findSome?_eq_some
theorem lu:type_of% @Nat.mul_one:=@Nat.mul_one
theorem qx:type_of% @List.perm_ext_iff_of_nodup:=@List.perm_ext_iff_of_nodup
theorem ms:type_of% @List.getElem?_drop:=@List.getElem?_drop
theorem qw:type_of% @List.getElem?_append_right:=@List.getElem?_append_right
theorem mZ:type_of% @Option.map_none:=@Option.map_none
theorem mc:type_of% @List.sum_append:=@List.sum_append
theorem mo:type_of% @List.all_eq_true:=@List.all_eq_true
theorem mm:type_of% @Array.size_range:=@Array.size_range
theorem nC:type_of% @List.getElem?_set:=@List.getElem?_set
theorem nB:type_of% @Classical.not_not:=@Classical.not_not
theorem rB:type_of% @List.Pairwise.imp_of_mem:=@List.Pairwise.imp_of_mem
theorem nI:type_of% @List.getElem_idxOf:=@List.getElem_idxOf
theorem nA:type_of% @List.nodup_cons:=@List.nodup_cons
theorem nU:type_of% @List.map_singleton:=@List.map_singleton
theorem ma:type_of% @Nat.mul_comm:=@Nat.mul_comm
theorem ml:type_of% @Nat.lt_irrefl:=@Nat.lt_irrefl
theorem mY:type_of% @Nat.add_mul:=@Nat.add_mul
theorem rA:type_of% @List.pairwise_append:=@List.pairwise_append
theorem nH:type_of% @Nat.not_lt_zero:=@Nat.not_lt_zero
theorem nG:type_of% @Bool.eq_iff_iff:=@Bool.eq_iff_iff
theorem qz:type_of% @List.findSome?_cons:=@List.findSome?_cons
theorem qy:type_of% @List.filter_eq_self:=@List.filter_eq_self
theorem Z.{u}{b:Sort u}{a:b}:a=a:=rfl
structure yi (p:Prop):Prop where
 out:p
structure Stop (p:Prop):Prop where
 out:p
theorem Lw(a:Addr)(n:Nat):(a.add n).block=a.block:=by unfold Addr.add;split<;>rfl
def C3(w:World)(B size:Nat)(A:Option Addr)(n:Nat)(xs:List Value):Prop:=
 xs.length=n*size/\(0<n->∃ad,A=some ad/\ad.block<B/\∀j u,xs[j]? =some u->w.cell? (ad.add j)=some u)
section
variable{w w':World}{B B' size n:Nat}{A:Option Addr}{xs:List Value}
variable{k:Nat}
theorem C3.at_(h:C3 w B 1 A n xs)(c:k<n):∃a u,A=some a/\a.block<B/\xs[k]? =some u/\w.cell? (a.add k)=some u:=by
 obtain ⟨a,e,g,f⟩:=h.2 (by omega);have b:k<xs.length:=by have:=h.1;omega
 simp_all
theorem C3.spot(h:C3 w B 1 A n xs)(i:k<n):∃b a u,A=some ⟨b,a,none⟩/\b<B/\xs[k]? =some u/\w.cell? ⟨b,a+k,none⟩=some u:=by
 obtain ⟨⟨b,a,f⟩,u,rfl,r,l,o⟩:=h.at_ i;obtain ⟨_,j,e,_,_,c⟩:=h.at_ (show 0<n by omega);injection e with e
 subst e;have g:f=none:=by simpa [Addr.add] using World.cell?_spot c
 subst g
 grind[Addr.add]
theorem C3.keep(h:C3 w B size A n xs)(a:∀p:Addr,p.block<B->w'.cell? p=w.cell? p):C3 w' B size A n xs:=by grind[Lw,C3]
theorem C3.below(h:C3 w B size A n xs)(b:Below B w w'):C3 w' B size A n xs:=h.keep λ_ a=>b.cell a
theorem C3.drew(h:C3 w B size A n xs):C3 w.drew B size A n xs:=h
theorem C3.drewN(h:C3 w B size A n xs)(k:Nat):C3 (w.drewN k) B size A n xs:=h
theorem C3.alloc(h:C3 w B size A n xs)(b:B<=w.heap.size)(o:Obj):C3 (w.alloc o) B size A n xs:=h.keep λp a=>World.cell?_alloc_lt w o p (by omega)
theorem C3.setCell(h:C3 w B size A n xs){p:Addr}(b:B<=p.block)(u:Value):C3 (w.setCell p u) B size A n xs:=
 h.keep λq a=>World.cell?_setCell_other w p q u (λe=>by subst e;omega)
theorem C3.grown(h:C3 w B size A n xs){a:Option Nat}(c:w.grownBy w' a)(i:B<=w.heap.size)(b:∀g,a=some g->B<=g):C3 w' B size A n xs:=
 h.keep λp f=>World.cell?_of_block (c.block p.block (by omega) (λe=>by have:=b _ e.symm;omega))
end
def OE(w:World)(g:Nat)(t:TypeId)(cs:Array Value):Prop:=w.heap[g]? =some (.cells cs t (0,0))
section
variable{w w':World}{g:Nat}{t:TypeId}{cs:Array Value}
theorem OE.lt(h:OE w g t cs):g<w.heap.size:=by grind[OE]
theorem OE.cell(h:OE w g t cs)(i:Nat):w.cell? ⟨g,i,none⟩=cs[i]?:=cell_of_row w g i cs t (0,0) h
theorem OE.frozen(h:OE w g t cs)(i:Nat):w.frozen? ⟨g,i,none⟩=false:=by
 unfold OE at h
 simp[World.frozen?,h]
theorem OE.new(w:World)(t:TypeId)(cs:Array Value):OE (w.alloc (.cells cs t)) w.heap.size t cs:=heap_alloc_new w _
theorem OE.drew(h:OE w g t cs):OE w.drew g t cs:=h
theorem OE.drewN(h:OE w g t cs)(n:Nat):OE (w.drewN n) g t cs:=h
theorem OE.alloc(h:OE w g t cs)(o:Obj):OE (w.alloc o) g t cs:=(Below.heap_alloc w o g h.lt).trans h
theorem OE.below{B:Nat}(h:OE w g t cs)(b:Below B w w')(a:g<B):OE w' g t cs:=(b.block g a).trans h
theorem OE.grown{a:Option Nat}(h:OE w g t cs)(c:w.grownBy w' a)(b:some g≠a):OE w' g t cs:=(c.block g h.lt b).trans h
end
section
variable{P:Program}(w:World)
end
structure jd (P:Program) (t e:TypeId) (size bytes:Nat):Prop where
 ht:P.underlying t=some (.slice e)
 info:∃(i:TypeInfo) (z:Value),P.info? e=some i/\i.zero=some z/\i.size=size/\i.bytes=bytes/\z.cells.size=size
 pos:0<size
 pos':0<bytes
section
variable{P:Program}{w:World}
end
section
variable{P:Program}
end
variable{a:List Value}{c:TypeId}{f:Nat}{g:Value}{w:World}{h i j:Nat}{k:World}
theorem oZ(w:World)(e:TypeId)(a n:Nat)(b:Array Value)(f:n<=maxLen)(c:b.size=n*a):
  (w.alloc (.cells b e)).ownsRow w.heap.size e a (.slice (some ⟨w.heap.size,0,none⟩) n n) n b.toList:=
 ⟨by simpa using c,.inr ⟨w.heap.size,n,b,Z,Θ _,heap_alloc_new w _,Θ _,f,c,by rw[<-c,<-m7,kV]⟩⟩
theorem ao{n:Nat}(h:w.ownsRow f c j g n a):∃A i,g= .slice A n i/\n<=i:=by
 rcases h.2 with ⟨rfl,rfl⟩ | ⟨b,l,k,rfl,_,_,o,_⟩
 .simp
 grind
theorem fB{n:Nat}(h:w.ownsRow f c j g n a)(l:g.ownBlock=some i):f<=i:=by
 rcases h.2 with ⟨rfl,_⟩ | ⟨r,k,b,rfl,o,_⟩
 all_goals (grind[Value.ownBlock])
def El(w:World)(base:Nat)(e:TypeId)(v:Value)(xs:List Value):Prop:=w.ownsRow base e 1 v xs.length xs
theorem El.nil(w:World)(a:Nat)(e:TypeId):El w a e (.slice none 0 0) []:=World.ownsRow_nil w a e 1
theorem El.new(w:World)(e:TypeId)(a:Array Value)(b:a.size<=maxLen):El (w.alloc (.cells a e)) w.heap.size e (.slice (some ⟨w.heap.size,0,none⟩) a.size a.size) a.toList:=by grind[El,oZ]
theorem El.slice(h:El w f c g a):∃A b,g= .slice A a.length b/\a.length<=b:=ao h
theorem El.mono{w:World}(b:El w f c g a)(l:h<=f):El w h c g a:=by
 refine ⟨b.1,?_⟩;rcases b.2 with t | ⟨i,k,j,s,r,o⟩
 .exact .inl t
 .exact .inr ⟨i,k,j,s,jp l r,o⟩
theorem El.as{i:List Value}(b:El w f c g a)(k:f=h)(j:a=i):El w h c g i:=by
 subst k j;exact b
theorem El.alloc(h:El w f c g a)(o:Obj):El (w.alloc o) f c g a:=World.ownsRow.alloc h o
theorem El.drewN(h:El w f c g a)(n:Nat):El (w.drewN n) f c g a:=h
theorem El.below(h:El w f c g a)(o:Below w.heap.size w k):El k f c g a:=by
 refine ⟨h.1,?_⟩;rcases h.2 with x | ⟨b,l,j,u,t,s,r⟩
 .exact .inl x
 .have i:b<w.heap.size:=by
   grind
  exact .inr ⟨b,l,j,u,t,(o.block b i).trans s,r⟩
theorem El.grown(h:El w f c g a){i:Option Nat}(t:w.grownBy k i)(j:∀b,g.ownBlock=some b->i≠some b):El k f c g a:=by
 refine ⟨h.1,?_⟩;rcases h.2 with z | ⟨b,r,o,s,y,x,u⟩
 .exact .inl z
 .have l:b<w.heap.size:=by
   grind
  exact .inr ⟨b,r,o,s,y,(t.block b l (λc=>j b (by rw[s];rfl) c.symm)).trans x,u⟩
theorem El.lt(h:El w f c g a)(b:g.ownBlock=some i):f<=i/\i<w.heap.size:=by
 refine ⟨fB h b,?_⟩;rcases h.2 with ⟨rfl,_⟩ | ⟨s,k,j,rfl,r,o,l⟩
 all_goals (grind[Value.ownBlock])
def cJ(w:World)(S:Nat->Prop)(v:Value)(xs:List Value):Prop:=
 ∃A c,v= .slice A xs.length c/\xs.length<=c/\(0<xs.length->∃ad,A=some ad/\S ad.block/\∀j u,xs[j]? =some u->w.cell? (ad.add j)=some u)
section
variable{w w':World}{S S':Nat->Prop}{v:Value}{xs:List Value}
theorem cJ.mono(h:cJ w S v xs)(a:∀b,S b->S' b):cJ w S' v xs:=by grind[cJ]
theorem cJ.keep(h:cJ w S v xs)(a:∀b,S b->w'.heap[b]? =w.heap[b]?):cJ w' S v xs:=by grind[World.cell?_of_block,Lw,cJ]
theorem cJ.one(h:cJ w S v xs):v.oneCell'=true:=by
 obtain ⟨A,c,rfl,_⟩:=h;rfl
end
def Rows{α:Type}(w:World)(S:Nat->Prop)(f:α->Value)(vs:List Value)(ls:List (List α)):Prop:=
 vs.length=ls.length/\∀(i:Nat) (v:Value) (l:List α),vs[i]? =some v->ls[i]? =some l->cJ w S v (l.map f)
section
variable{α:Type}{w w':World}{S S':Nat->Prop}{f:α->Value}{vs:List Value}{ls:List (List α)}
theorem Rows.nil:Rows w S f [] []:=⟨Z,λi v l h=>by simp at h⟩
theorem Rows.snoc{v:Value}{l:List α}(h:Rows w S f vs ls)(a:cJ w S v (l.map f)):Rows w S f (vs++ [v]) (ls++ [l]):=by grind[Rows]
theorem Rows.mono(h:Rows w S f vs ls)(g:∀b,S b->S' b):Rows w S' f vs ls:=⟨h.1,λi v l a c=>(h.2 i v l a c).mono g⟩
theorem Rows.keep(h:Rows w S f vs ls)(g:∀b,S b->w'.heap[b]? =w.heap[b]?):Rows w' S f vs ls:=⟨h.1,λi v l a c=>(h.2 i v l a c).keep g⟩
theorem Rows.at_(h:Rows w S f vs ls){i:Nat}(b:i<ls.length):∃v,vs[i]? =some v/\cJ w S v (ls[i].map f):=by
 have a:i<vs.length:=by rw[h.1];exact b
 exact ⟨vs[i],ω a,h.2 i _ _ (ω a) (ω b)⟩
theorem Rows.one(h:Rows w S f vs ls):∀u∈vs,u.oneCell'=true:=by
 intro u b;obtain ⟨i,a,rfl⟩:=kh b;exact (h.2 i _ _ (ω a) (ω (by rw[<-h.1];exact a))).one
theorem Rows.below{B:Nat}(h:Rows w (· <B) f vs ls)(a:Below B w w'):Rows w' (· <B) f vs ls:=h.keep λb c=>a.block b c
end
section
variable{P:Program}{w:World}{ops:Array Oper}{rest:List Oper}{a:Act}{Q:Exit->Act->World->Prop}{d:Option Tmp}{ty T:TypeId}{pos:String}{aft:Array Edge}
end
end Go.Proofs.YteifpcnphnhaoaaGreat
