import Derived.WalkKit
import Derived.WalkSpells
import Derived.WalkLawsBesides
import Derived.Lib.Hide
import Derived.Maps.AppendAt
import Derived.Deep.AppendLies
import Derived.Deep.Draws
import Derived.OwnWalk
import Derived.Lib.BufferRead
import Derived.Lib.LazyBuf
import Derived.Lib.SlBytesConst
import Derived.Deep.QuietTactic
import Derived.BigQuiet
namespace Go.Proofs.YteifpcnphnhaoaaGreat
open Go.RowKit
theorem ω:type_of% @List.getElem?_eq_getElem:=@List.getElem?_eq_getElem
theorem ψ:type_of% @List.take_succ_eq_append_getElem:=@List.take_succ_eq_append_getElem
theorem χ:type_of% @List.length_map:=@List.length_map
theorem φ:type_of% @List.getElem?_eq_some_iff:=@List.getElem?_eq_some_iff
theorem ϑ:type_of% @List.getElem_mem:=@List.getElem_mem
theorem ξ:type_of% @List.mem_of_getElem?:=@List.mem_of_getElem?
theorem ζ:type_of% @Nat.zero_le:=@Nat.zero_le
theorem η:type_of% @List.take_of_length_le:=@List.take_of_length_le
theorem θ:type_of% @List.mem_singleton:=@List.mem_singleton
theorem κ:type_of% @if_neg:=@if_neg
theorem ν:type_of% @List.getElem?_map:=@List.getElem?_map
theorem υ:type_of% @List.length_singleton:=@List.length_singleton
theorem ϖ:type_of% @List.mem_append:=@List.mem_append
theorem ϱ:type_of% @List.length_take:=@List.length_take
theorem ς:type_of% @if_pos:=@if_pos
theorem Γ:type_of% @Nat.le_refl:=@Nat.le_refl
theorem Δ:type_of% @List.length_append:=@List.length_append
theorem Θ:type_of% @List.mem_map:=@List.mem_map
theorem Ξ:type_of% @IntWalk.i64_in:=@IntWalk.i64_in
theorem Φ:type_of% @List.getD_eq_getElem?_getD:=@List.getD_eq_getElem?_getD
theorem Ψ:type_of% @List.mem_range:=@List.mem_range
theorem Ω:type_of% @List.map_append:=@List.map_append
theorem Υ:type_of% @List.mem_cons:=@List.mem_cons
theorem gY:type_of% @Nat.le_trans:=@Nat.le_trans
theorem iG:type_of% @Nat.eq_of_beq_eq_true:=@Nat.eq_of_beq_eq_true
theorem gk:type_of% @List.mem_filter:=@List.mem_filter
theorem gq:type_of% @Bool.and_eq_true:=@Bool.and_eq_true
theorem hQ:type_of% @List.map_congr_left:=@List.map_congr_left
theorem gi:type_of% @decide_eq_true:=@decide_eq_true
theorem iW:type_of% @Array.getElem?_eq_getElem:=@Array.getElem?_eq_getElem
theorem iI:type_of% @List.length_filter_le:=@List.length_filter_le
theorem gp:type_of% @decide_eq_false:=@decide_eq_false
theorem ia:type_of% @List.pairwise_iff_getElem:=@List.pairwise_iff_getElem
theorem gy:type_of% @List.take_length:=@List.take_length
theorem iq:type_of% @Array.getElem?_eq_some_iff:=@Array.getElem?_eq_some_iff
theorem iF:type_of% @List.length_range:=@List.length_range
theorem iC:type_of% @List.getElem_map:=@List.getElem_map
theorem iN:type_of% @List.getElem_of_mem:=@List.getElem_of_mem
theorem iB:type_of% @List.length_set:=@List.length_set
theorem i8:type_of% @List.mem_of_mem_take:=@List.mem_of_mem_take
theorem gV:type_of% @congrArg:=@congrArg
theorem gw:type_of% @List.map_map:=@List.map_map
theorem iV:type_of% @List.mem_cons_self:=@List.mem_cons_self
theorem i7:type_of% @List.filter_append:=@List.filter_append
theorem ip:type_of% @List.mem_cons_of_mem:=@List.mem_cons_of_mem
theorem jF:type_of% @Nat.ne_of_beq_eq_false:=@Nat.ne_of_beq_eq_false
theorem iM:type_of% @List.range_succ:=@List.range_succ
theorem je:type_of% @List.eq_nil_of_length_eq_zero:=@List.eq_nil_of_length_eq_zero
theorem jA:type_of% @Nat.mul_le_mul_right:=@Nat.mul_le_mul_right
theorem jC:type_of% @List.mem_iff_getElem:=@List.mem_iff_getElem
theorem iR:type_of% @List.append_nil:=@List.append_nil
theorem ig:type_of% @List.pairwise_map:=@List.pairwise_map
theorem jH:type_of% @Array.getElem?_toList:=@Array.getElem?_toList
theorem jN:type_of% @List.mem_append_right:=@List.mem_append_right
theorem jB:type_of% @Nat.lt_of_lt_of_le:=@Nat.lt_of_lt_of_le
theorem jh:type_of% @List.mem_take_iff_getElem:=@List.mem_take_iff_getElem
theorem ju:type_of% @Array.getD_eq_getD_getElem?:=@Array.getD_eq_getD_getElem?
theorem jM:type_of% @List.filter_sublist:=@List.filter_sublist
theorem ir:type_of% @List.ext_getElem:=@List.ext_getElem
theorem ij:type_of% @Option.map_some:=@Option.map_some
theorem j8:type_of% @List.getElem?_eq_none:=@List.getElem?_eq_none
theorem jt:type_of% @List.getElem?_take_of_lt:=@List.getElem?_take_of_lt
theorem j7:type_of% @List.mem_append_left:=@List.mem_append_left
theorem jG:type_of% @Nat.lt_succ_self:=@Nat.lt_succ_self
theorem ie:type_of% @List.map_cons:=@List.map_cons
theorem jQ:type_of% @List.pairwise_cons:=@List.pairwise_cons
theorem kA:type_of% @List.mem_or_eq_of_mem_set:=@List.mem_or_eq_of_mem_set
theorem j1:type_of% @List.getElem?_range:=@List.getElem?_range
theorem i9:type_of% @Nat.zero_add:=@Nat.zero_add
theorem jP:type_of% @decide_eq_true_eq:=@decide_eq_true_eq
theorem ic:type_of% @Nat.beq_refl:=@Nat.beq_refl
theorem ib:type_of% @Nat.add_zero:=@Nat.add_zero
theorem js:type_of% @Array.getElem?_modify:=@Array.getElem?_modify
theorem jg:type_of% @List.mem_map_of_mem:=@List.mem_map_of_mem
theorem jf:type_of% @List.length_pos_iff:=@List.length_pos_iff
theorem jn:type_of% @Array.length_toList:=@Array.length_toList
theorem jO:type_of% @List.length_nil:=@List.length_nil
theorem jT:type_of% @List.length_drop:=@List.length_drop
theorem jS:type_of% @List.filter_cons:=@List.filter_cons
theorem jc:type_of% @of_decide_eq_true:=@of_decide_eq_true
theorem jm:type_of% @List.getElem?_take:=@List.getElem?_take
theorem jl:type_of% @List.getElem?_drop:=@List.getElem?_drop
theorem kZ:type_of% @List.idxOf_lt_length_of_mem:=@List.idxOf_lt_length_of_mem
theorem jR:type_of% @List.nil_append:=@List.nil_append
theorem jb:type_of% @Option.bind_some:=@Option.bind_some
theorem ja:type_of% @List.mem_flatMap:=@List.mem_flatMap
theorem j9:type_of% @List.all_eq_true:=@List.all_eq_true
theorem jk:type_of% @List.ext_getElem?:=@List.ext_getElem?
theorem kY:type_of% @List.drop_eq_getElem_cons:=@List.drop_eq_getElem_cons
theorem kI:type_of% @List.drop_of_length_le:=@List.drop_of_length_le
theorem jj:type_of% @List.length_cons:=@List.length_cons
theorem jy:type_of% @List.filter_congr:=@List.filter_congr
theorem jx:type_of% @List.append_assoc:=@List.append_assoc
theorem jD:type_of% @Nat.mul_one:=@Nat.mul_one
theorem ji:type_of% @List.sum_append:=@List.sum_append
theorem jw:type_of% @Array.size_range:=@Array.size_range
theorem kC:type_of% @List.nodup_append:=@List.nodup_append
theorem kB:type_of% @List.getElem?_set:=@List.getElem?_set
theorem kX:type_of% @List.take_append_drop:=@List.take_append_drop
theorem nf:type_of% @List.Pairwise.imp_of_mem:=@List.Pairwise.imp_of_mem
theorem jv:type_of% @Option.map_none:=@Option.map_none
theorem oh:type_of% @List.getElem?_append_left:=@List.getElem?_append_left
theorem k6:type_of% @List.getElem_range:=@List.getElem_range
theorem jo:type_of% @Nat.mul_comm:=@Nat.mul_comm
theorem jz:type_of% @Nat.lt_irrefl:=@Nat.lt_irrefl
theorem jd:type_of% @Nat.add_mul:=@Nat.add_mul
theorem kL:type_of% @List.nodup_cons:=@List.nodup_cons
theorem kJ:type_of% @Bool.eq_iff_iff:=@Bool.eq_iff_iff
theorem Z.{u}{b:Sort u}{a:b}:a=a:=rfl
structure vu (p:Prop):Prop where
 out:p
structure Stop (p:Prop):Prop where
 out:p
theorem L0(a:Addr)(n:Nat):(a.add n).block=a.block:=by unfold Addr.add;split<;>rfl
def CQ(w:World)(B size:Nat)(A:Option Addr)(n:Nat)(xs:List Value):Prop:=
 xs.length=n*size/\(0<n->∃ad,A=some ad/\ad.block<B/\∀j u,xs[j]? =some u->w.cell? (ad.add j)=some u)
section
variable{w w':World}{B B' size n:Nat}{A:Option Addr}{xs:List Value}
variable{k:Nat}
theorem CQ.at_(h:CQ w B 1 A n xs)(c:k<n):∃a u,A=some a/\a.block<B/\xs[k]? =some u/\w.cell? (a.add k)=some u:=by
 obtain ⟨a,e,g,f⟩:=h.2 (by omega);have b:k<xs.length:=by have:=h.1;omega
 simp_all
theorem CQ.spot(h:CQ w B 1 A n xs)(i:k<n):∃b a u,A=some ⟨b,a,none⟩/\b<B/\xs[k]? =some u/\w.cell? ⟨b,a+k,none⟩=some u:=by
 obtain ⟨⟨b,a,f⟩,u,rfl,r,l,o⟩:=h.at_ i;obtain ⟨_,j,e,_,_,c⟩:=h.at_ (show 0<n by omega);injection e with e
 subst e;have g:f=none:=by simpa [Addr.add] using World.cell?_spot c
 subst g
 grind[Addr.add]
theorem CQ.keep(h:CQ w B size A n xs)(a:∀p:Addr,p.block<B->w'.cell? p=w.cell? p):CQ w' B size A n xs:=by grind[L0,CQ]
theorem CQ.below(h:CQ w B size A n xs)(b:Below B w w'):CQ w' B size A n xs:=h.keep λ_ a=>b.cell a
theorem CQ.drew(h:CQ w B size A n xs):CQ w.drew B size A n xs:=h
theorem CQ.drewN(h:CQ w B size A n xs)(k:Nat):CQ (w.drewN k) B size A n xs:=h
theorem CQ.alloc(h:CQ w B size A n xs)(b:B<=w.heap.size)(o:Obj):CQ (w.alloc o) B size A n xs:=h.keep λp a=>World.cell?_alloc_lt w o p (by omega)
theorem CQ.setCell(h:CQ w B size A n xs){p:Addr}(b:B<=p.block)(u:Value):CQ (w.setCell p u) B size A n xs:=
 h.keep λq a=>World.cell?_setCell_other w p q u (λe=>by subst e;omega)
theorem CQ.grown(h:CQ w B size A n xs){a:Option Nat}(c:w.grownBy w' a)(i:B<=w.heap.size)(b:∀g,a=some g->B<=g):CQ w' B size A n xs:=
 h.keep λp f=>World.cell?_of_block (c.block p.block (by omega) (λe=>by have:=b _ e.symm;omega))
end
def NU(w:World)(g:Nat)(t:TypeId)(cs:Array Value):Prop:=w.heap[g]? =some (.cells cs t (0,0))
section
variable{w w':World}{g:Nat}{t:TypeId}{cs:Array Value}
theorem NU.lt(h:NU w g t cs):g<w.heap.size:=by grind[NU]
theorem NU.cell(h:NU w g t cs)(i:Nat):w.cell? ⟨g,i,none⟩=cs[i]?:=cell_of_row w g i cs t (0,0) h
theorem NU.frozen(h:NU w g t cs)(i:Nat):w.frozen? ⟨g,i,none⟩=false:=by
 unfold NU at h
 simp[World.frozen?,h]
theorem NU.new(w:World)(t:TypeId)(cs:Array Value):NU (w.alloc (.cells cs t)) w.heap.size t cs:=heap_alloc_new w _
theorem NU.drew(h:NU w g t cs):NU w.drew g t cs:=h
theorem NU.drewN(h:NU w g t cs)(n:Nat):NU (w.drewN n) g t cs:=h
theorem NU.alloc(h:NU w g t cs)(o:Obj):NU (w.alloc o) g t cs:=(Below.heap_alloc w o g h.lt).trans h
theorem NU.below{B:Nat}(h:NU w g t cs)(b:Below B w w')(a:g<B):NU w' g t cs:=(b.block g a).trans h
theorem NU.grown{a:Option Nat}(h:NU w g t cs)(c:w.grownBy w' a)(b:some g≠a):NU w' g t cs:=(c.block g h.lt b).trans h
end
section
variable{P:Program}(w:World)
end
structure gI (P:Program) (t e:TypeId) (size bytes:Nat):Prop where
 ht:P.underlying t=some (.slice e)
 info:∃(i:TypeInfo) (z:Value),P.info? e=some i/\i.zero=some z/\i.size=size/\i.bytes=bytes/\z.cells.size=size
 pos:0<size
 pos':0<bytes
section
variable{P:Program}{w:World}
end
section
variable{P:Program}
end
variable{a:List Value}{c:TypeId}{f:Nat}{g:Value}{w:World}{h i j:Nat}{k:World}
theorem lU(w:World)(e:TypeId)(a n:Nat)(b:Array Value)(f:n<=maxLen)(c:b.size=n*a):
  (w.alloc (.cells b e)).ownsRow w.heap.size e a (.slice (some ⟨w.heap.size,0,none⟩) n n) n b.toList:=
 ⟨by simpa using c,.inr ⟨w.heap.size,n,b,Z,Γ _,heap_alloc_new w _,Γ _,f,c,by rw[<-c,<-jn,gy]⟩⟩
theorem ZK{n:Nat}(h:w.ownsRow f c j g n a):∃A i,g= .slice A n i/\n<=i:=by
 rcases h.2 with ⟨rfl,rfl⟩ | ⟨b,l,k,rfl,_,_,o,_⟩
 .simp
 grind
theorem cZ{n:Nat}(h:w.ownsRow f c j g n a)(l:g.ownBlock=some i):f<=i:=by
 rcases h.2 with ⟨rfl,_⟩ | ⟨r,k,b,rfl,o,_⟩
 all_goals (grind[Value.ownBlock])
def E7(w:World)(base:Nat)(e:TypeId)(v:Value)(xs:List Value):Prop:=w.ownsRow base e 1 v xs.length xs
theorem E7.nil(w:World)(a:Nat)(e:TypeId):E7 w a e (.slice none 0 0) []:=World.ownsRow_nil w a e 1
theorem E7.new(w:World)(e:TypeId)(a:Array Value)(b:a.size<=maxLen):E7 (w.alloc (.cells a e)) w.heap.size e (.slice (some ⟨w.heap.size,0,none⟩) a.size a.size) a.toList:=by grind[E7,lU]
theorem E7.slice(h:E7 w f c g a):∃A b,g= .slice A a.length b/\a.length<=b:=ZK h
theorem E7.mono{w:World}(b:E7 w f c g a)(l:h<=f):E7 w h c g a:=by
 refine ⟨b.1,?_⟩;rcases b.2 with t | ⟨i,k,j,s,r,o⟩
 .exact .inl t
 .exact .inr ⟨i,k,j,s,gY l r,o⟩
theorem E7.as{i:List Value}(b:E7 w f c g a)(k:f=h)(j:a=i):E7 w h c g i:=by
 subst k j;exact b
theorem E7.alloc(h:E7 w f c g a)(o:Obj):E7 (w.alloc o) f c g a:=World.ownsRow.alloc h o
theorem E7.drewN(h:E7 w f c g a)(n:Nat):E7 (w.drewN n) f c g a:=h
theorem E7.below(h:E7 w f c g a)(o:Below w.heap.size w k):E7 k f c g a:=by
 refine ⟨h.1,?_⟩;rcases h.2 with x | ⟨b,l,j,u,t,s,r⟩
 .exact .inl x
 .have i:b<w.heap.size:=by
   grind
  exact .inr ⟨b,l,j,u,t,(o.block b i).trans s,r⟩
theorem E7.grown(h:E7 w f c g a){i:Option Nat}(t:w.grownBy k i)(j:∀b,g.ownBlock=some b->i≠some b):E7 k f c g a:=by
 refine ⟨h.1,?_⟩;rcases h.2 with z | ⟨b,r,o,s,y,x,u⟩
 .exact .inl z
 .have l:b<w.heap.size:=by
   grind
  exact .inr ⟨b,r,o,s,y,(t.block b l (λc=>j b (by rw[s];rfl) c.symm)).trans x,u⟩
theorem E7.lt(h:E7 w f c g a)(b:g.ownBlock=some i):f<=i/\i<w.heap.size:=by
 refine ⟨cZ h b,?_⟩;rcases h.2 with ⟨rfl,_⟩ | ⟨s,k,j,rfl,r,o,l⟩
 all_goals (grind[Value.ownBlock])
def aS(w:World)(S:Nat->Prop)(v:Value)(xs:List Value):Prop:=
 ∃A c,v= .slice A xs.length c/\xs.length<=c/\(0<xs.length->∃ad,A=some ad/\S ad.block/\∀j u,xs[j]? =some u->w.cell? (ad.add j)=some u)
section
variable{w w':World}{S S':Nat->Prop}{v:Value}{xs:List Value}
theorem aS.mono(h:aS w S v xs)(a:∀b,S b->S' b):aS w S' v xs:=by grind[aS]
theorem aS.keep(h:aS w S v xs)(a:∀b,S b->w'.heap[b]? =w.heap[b]?):aS w' S v xs:=by grind[World.cell?_of_block,L0,aS]
theorem aS.one(h:aS w S v xs):v.oneCell'=true:=by
 obtain ⟨A,c,rfl,_⟩:=h;rfl
end
def Rows{α:Type}(w:World)(S:Nat->Prop)(f:α->Value)(vs:List Value)(ls:List (List α)):Prop:=
 vs.length=ls.length/\∀(i:Nat) (v:Value) (l:List α),vs[i]? =some v->ls[i]? =some l->aS w S v (l.map f)
section
variable{α:Type}{w w':World}{S S':Nat->Prop}{f:α->Value}{vs:List Value}{ls:List (List α)}
theorem Rows.nil:Rows w S f [] []:=⟨Z,λi v l h=>by simp at h⟩
theorem Rows.snoc{v:Value}{l:List α}(h:Rows w S f vs ls)(a:aS w S v (l.map f)):Rows w S f (vs++ [v]) (ls++ [l]):=by grind[Rows]
theorem Rows.mono(h:Rows w S f vs ls)(g:∀b,S b->S' b):Rows w S' f vs ls:=⟨h.1,λi v l a c=>(h.2 i v l a c).mono g⟩
theorem Rows.keep(h:Rows w S f vs ls)(g:∀b,S b->w'.heap[b]? =w.heap[b]?):Rows w' S f vs ls:=⟨h.1,λi v l a c=>(h.2 i v l a c).keep g⟩
theorem Rows.at_(h:Rows w S f vs ls){i:Nat}(b:i<ls.length):∃v,vs[i]? =some v/\aS w S v (ls[i].map f):=by
 have a:i<vs.length:=by rw[h.1];exact b
 exact ⟨vs[i],ω a,h.2 i _ _ (ω a) (ω b)⟩
theorem Rows.one(h:Rows w S f vs ls):∀u∈vs,u.oneCell'=true:=by
 intro u b;obtain ⟨i,a,rfl⟩:=iN b;exact (h.2 i _ _ (ω a) (ω (by rw[<-h.1];exact a))).one
theorem Rows.below{B:Nat}(h:Rows w (· <B) f vs ls)(a:Below B w w'):Rows w' (· <B) f vs ls:=h.keep λb c=>a.block b c
end
section
variable{P:Program}{w:World}{ops:Array Oper}{rest:List Oper}{a:Act}{Q:Exit->Act->World->Prop}{d:Option Tmp}{ty T:TypeId}{pos:String}{aft:Array Edge}
end
end Go.Proofs.YteifpcnphnhaoaaGreat
