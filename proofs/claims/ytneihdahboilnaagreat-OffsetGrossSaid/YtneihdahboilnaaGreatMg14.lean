/- Laws as rows: arguments opened by their types, and a contract over frozen data. -/
import Derived.Test.YtneihdahboilnaaGreatMg13
import Derived.SizedLaws
namespace Go.Proofs.YtneihdahboilnaaGreat
open Go.ChangeShapes Go.WideShapes Go.ChangeAt Go.RowKit Go.Deep
abbrev noB : Nat → Prop := fun _ => False
def RepC (w : World) (d : D) (cs : List Value) : Prop := cs.length = d.cells.length ∧ (∀ c ∈ d.cells,c.one = true) ∧ ∀ (j : Nat) c u,d.cells[j]? = some c → cs[j]? = some u → RepD w noB c u
theorem repC_one {w : World} {d : D} {u : Value} (hd : d.one = true) (h : RepD w noB d u) : RepC w d [u] := by
  rw [RepC,D.cells_one hd];refine ⟨rfl,by simp [hd],fun j c u' hc hu => ?_⟩
  cases j with
  | zero => simp at hc hu; subst hc hu; exact h
  | succ j => simp at hc
theorem RepC.argS {w : World} {ρ : Nat → Nat → Value} {O : Nat → Prop} {ds : List D} {cs : Array Value} (hO : O = noB) (h : RepC w (.agg ds) (Value.agg cs).cells.toList) : RepA w O ρ (.d (.agg ds)) (.agg cs) := by
  subst hO;obtain ⟨h1,h2,h3⟩ := h;have := RepD.agg (w := w) (O := noB) (cs := ds) (vs := cs.toList) h1 h2 h3;exact .d (by simpa using this)
section
variable {H : Type} {enc : TypeId × Value → H} {P : Program} {w : World}
def OpenT {α : Type} (enc : TypeId × Value → H) (P : Program) (w : World) (t : TypeId) (k : Nat) (emb : α → D) (Q : α → Prop) : Prop :=
  ∀ fuel cs x,DataW.trod enc P w 0 (fun _ => true) true fuel t cs = some x → (∀ p ∈ x.2,p.block < w.heap.size) → (∀ n ∈ x.1.weights P t,n ≤ reachBytes) → ∃ a,Q a ∧ (emb a).cells.length = k ∧ RepC w (emb a) cs
theorem weightsAll_mem {e : TypeId} {l : List (DataW H)} {d : DataW H} (hd : d ∈ l) {n : Nat} (hn : n ∈ d.weights P e) : n ∈ DataW.weightsAll P e l := by
  induction l with
  | nil => cases hd
  | cons a r ih =>
    simp only [DataW.weightsAll,List.mem_append];rcases List.mem_cons.1 hd with rfl | hd
    · exact .inl hn
    · exact .inr (ih hd)
theorem openInt {t : TypeId} {k : IntKind} (ht : P.underlying t = some (.int k)) : OpenT enc P w t 1 (fun z : Int => .raw (.int k z)) (fun z => k.min ≤ z ∧ z ≤ k.max) := fun fuel cs x h _ _ => by
  obtain ⟨z,rfl,_,hw⟩ := DataW.trod_int ht h;simp only [Lit.wf,Bool.and_eq_true,decide_eq_true_eq] at hw;exact ⟨z,hw,rfl,repC_one rfl (.raw rfl)⟩
theorem openStr {t : TypeId} (ht : P.underlying t = some .string) : OpenT enc P w t 1 (fun s : ByteArray => .raw (.string s)) (fun s => s.size ≤ 140737488351232) := fun fuel cs x h _ hw => by
  obtain ⟨s,rfl,rfl,hs⟩ := DataW.trod_string ht h;exact ⟨s,by simpa [DataW.weights,reachBytes] using hw,rfl,repC_one rfl (.raw rfl)⟩
theorem openSl {α : Type} {t e : TypeId} {k b : Nat} {emb : α → D} {Q : α → Prop} (ht : P.underlying t = some (.slice e)) (hk : P.cellsOf e = k) (hk0 : 0 < k) (hb : P.bytesOf e = b) (hO : OpenT enc P w e k emb Q) : OpenT enc P w t 1 (fun l : List α => .sl none (l.map emb)) (fun l => (∀ a ∈ l,Q a) ∧ l.length * b ≤ 140737488351232) := fun fuel cs x h hlt hwt => by
  rcases open_slice ht h with ⟨rfl,rfl⟩ | ⟨a,len,cap,m,n,Dd,Pl,rfl,_,hl,hm,hmm,rfl,hi⟩
  · refine ⟨[],⟨by simp,by simp⟩,rfl,repC_one rfl (.sl k (fun b hb => by cases hb) (fun _ => rfl) rfl (Nat.le_refl _) (Nat.zero_le _) (by simp) (by simp) (fun b o e => by cases e))⟩
  · simp only [if_true] at hmm;subst hmm
    have hall : ∀ i,i < len → ∃ y : α,Q y ∧ (emb y).cells.length = k ∧ ∃ cs' : List Value,RepC w (emb y) cs' ∧ ∀ j,j < k → w.cell? ((a.add (i * k)).add j) = cs'[j]? := by
      intro i hil;obtain ⟨cs',hc,ht'⟩ := hi i (by omega)
      obtain ⟨y,hq,hyk,hr⟩ := hO _ _ _ ht' (fun p hp => hlt p (by
        simp only [List.mem_append,List.mem_flatMap,List.mem_range]
        exact .inr ⟨i,by omega,hp⟩)) (fun n hn => hwt n (by
        simp only [DataW.weights,ht,List.mem_cons,List.mem_append]
        exact .inr (.inl (weightsAll_mem (List.mem_map.2 ⟨i,List.mem_range.2 hil,rfl⟩) hn))))
      obtain ⟨_,hlen,hat⟩ := World.cells?_some hc;rw [hk] at hat;exact ⟨y,hq,hyk,cs',hr,hat⟩
    obtain ⟨l,hln,hlq⟩ := list_of len hall;refine ⟨l,⟨fun y hy => ?_, ?_⟩,rfl,repC_one rfl (.sl k (fun b hb => by cases hb) (fun e => by cases e) (by rw [List.length_map]; exact hln) hl hm (fun x hx => ?_) (fun hne => ?_) (fun b o e i x hx => ?_))⟩
    · obtain ⟨i,hi',rfl⟩ := List.getElem_of_mem hy;exact (hlq i _ (List.getElem?_eq_getElem hi')).1
    · have h1 := hwt ((len + (m - len)) * P.bytesOf e) (by simp [DataW.weights,ht]);rw [hb] at h1;have h2 := Nat.mul_le_mul_right b (show l.length ≤ len + (m - len) by omega);have h3 : reachBytes = 140737488351232 := rfl;omega
    · obtain ⟨y,hy,rfl⟩ := List.mem_map.1 hx;obtain ⟨i,hi',rfl⟩ := List.getElem_of_mem hy;exact (hlq i _ (List.getElem?_eq_getElem hi')).2.1
    · have h0 : 0 < l.length := by
        cases l with
        | nil => exact absurd rfl hne
        | cons _ _ => simp
      obtain ⟨_,h1,cs',h2,h3⟩ := hlq 0 _ (List.getElem?_eq_getElem h0);have h4 := h3 0 hk0;have hlen : cs'.length = k := by rw [h2.1,h1]
      rw [List.getElem?_eq_getElem (by omega)] at h4;have : a.spot = none := by simpa [Addr.add] using World.cell?_spot h4
      exact ⟨a.block,a.off,by cases a; simp_all⟩
    · rw [List.getElem?_map] at hx
      cases hy : l[i]? with
      | none => rw [hy] at hx; cases hx
      | some y =>
        rw [hy] at hx;injection hx with hx
        subst hx;obtain ⟨hq,h1,cs',h2,h3⟩ := hlq i y hy;injection e with e
        subst e;have hlen : cs'.length = k := by rw [h2.1,h1]
        have hil : i < len := by rw [← hln]; exact (List.getElem?_eq_some_iff.1 hy).1
        have hin : ∀ j,j < k → w.cell? ⟨b,o + i * k + j,none⟩ = cs'[j]? := fun j hj => by
          have := h3 j hj
          rwa [Go.WideShapes.add_plain,Go.WideShapes.add_plain] at this
        refine .ptr (fun j => cs'.getD j undef) ?_ (fun h => h) h2.2.1 (fun j c hc => ?_) (fun j c hc => ?_)
        · have hmem : MemPlace.cell b (o + i * k) ∈ MemPlace.row ⟨b,o,none⟩ (m * P.cellsOf e) := MemPlace.mem_row.2 ⟨i * k,by
            rw [hk];have : (i + 1) * k ≤ m * k := Nat.mul_le_mul_right _ (by omega)
            rw [Nat.add_mul] at this; omega,rfl⟩
          exact hlt _ (List.mem_append_left _ hmem)
        · have hj : j < k := by rw [← h1]; exact (List.getElem?_eq_some_iff.1 hc).1
          rw [hin j hj,List.getD_eq_getElem?_getD,List.getElem?_eq_getElem (by omega)]; rfl
        · have hj : j < k := by rw [← h1]; exact (List.getElem?_eq_some_iff.1 hc).1
          rw [List.getD_eq_getElem?_getD,List.getElem?_eq_getElem (by omega)];exact h2.2.2 j c _ hc (List.getElem?_eq_getElem (by omega))
def OpenFs {α : Type} (enc : TypeId × Value → H) (P : Program) (w : World) (off total : Nat) (fs : List Field) (emb : α → List D) (Q : α → Prop) : Prop :=
  ∀ n (cs : List Value),cs.length = total → (∀ (i : Nat) f,fs[i]? = some f → ∃ x,DataW.trod enc P w 0 (fun _ => true) true n f.type ((cs.drop f.offset).take (P.cellsOf f.type)) = some x ∧ (∀ p ∈ x.2,p.block < w.heap.size) ∧ ∀ n ∈ x.1.weights P f.type,n ≤ reachBytes) →
    ∃ a,Q a ∧ off + (emb a).length = total ∧ (∀ c ∈ emb a,c.one = true) ∧ ∀ (j : Nat) c u,(emb a)[j]? = some c → cs[off + j]? = some u → RepD w noB c u
theorem openF0 {total : Nat} : OpenFs enc P w total total [] (fun _ : Unit => []) (fun _ => True) := fun n cs _ _ => ⟨(),trivial,rfl,by simp,by simp⟩
theorem openFc {α β : Type} {off k total : Nat} {f : Field} {fs : List Field} {emb : α → D} {embs : β → List D} {Q : α → Prop} {Qs : β → Prop} (ho : f.offset = off) (hk : P.cellsOf f.type = k) (h1 : OpenT enc P w f.type k emb Q) (h2 : OpenFs enc P w (off + k) total fs embs Qs) :
    OpenFs enc P w off total (f :: fs) (fun a : α × β => (emb a.1).cells ++ embs a.2) (fun a => Q a.1 ∧ Qs a.2) := fun n cs hcs hf => by
  obtain ⟨x,hx,hp,hwt⟩ := hf 0 f rfl;obtain ⟨a,q1,q2,q3⟩ := h1 _ _ _ hx hp hwt;obtain ⟨b,r1,r2,r3,r4⟩ := h2 n cs hcs (fun i g hg => hf (i + 1) g (by simpa using hg));rw [ho,hk] at q3;refine ⟨(a,b),⟨q1,r1⟩,by simp only [List.length_append,q2]; omega,fun c hc => ?_,fun j c u hc hu => ?_⟩
  · rcases List.mem_append.1 hc with hc | hc
    · exact q3.2.1 c hc
    · exact r3 c hc
  · rcases Nat.lt_or_ge j k with hj | hj
    · rw [List.getElem?_append_left (by rw [q2]; exact hj)] at hc;exact q3.2.2 j c u hc (by rw [List.getElem?_take,if_pos hj,List.getElem?_drop]; exact hu)
    · rw [List.getElem?_append_right (by rw [q2]; exact hj),q2] at hc;exact r4 (j - k) c u hc (by rw [show off + k + (j - k) = off + j by omega]; exact hu)
theorem openSt {α : Type} {t : TypeId} {fs : Array Field} {k : Nat} {embs : α → List D} {Q : α → Prop} (ht : P.underlying t = some (.struct fs)) (hk : P.cellsOf t = k) (h : OpenFs enc P w 0 k fs.toList embs Q) : OpenT enc P w t k (fun a => .agg (embs a)) Q := fun fuel cs x hx hlt hwt => by
  obtain ⟨xs,n,_,rfl,hl,hlen,hf⟩ := DataW.trod_struct ht hx
  obtain ⟨a,q1,q2,q3,q4⟩ := h n cs (by rw [hl,hk]) (fun i f hi => by
    have hi' : fs[i]? = some f := by simpa using hi
    have hlt' : i < xs.length := by rw [hlen]; exact (Array.getElem?_eq_some_iff.1 hi').1
    refine ⟨xs[i],by rw [hf i f hi']; exact List.getElem?_eq_getElem hlt',fun p hp => hlt p (List.mem_flatMap.2 ⟨_,List.getElem_mem hlt',hp⟩),fun n hn => hwt n ?_⟩;simp only [DataW.weights,ht]
    refine DataW.weights_mem_each (j := i) (t := f.type) (d := xs[i].1) (by rw [List.getElem?_map]; simp [hi']) (by rw [List.getElem?_map,List.getElem?_eq_getElem hlt']; rfl) n hn)
  rw [Nat.zero_add] at q2;exact ⟨a,q1,q2,by show cs.length = _; rw [hl,hk]; exact q2.symm,q3,fun j c u hc hu => q4 j c u hc (by rw [Nat.zero_add]; exact hu)⟩
theorem OpenT.as {α β : Type} {t : TypeId} {k : Nat} {emb : α → D} {Q : α → Prop} {emb' : β → D} {Q' : β → Prop} (h : OpenT enc P w t k emb Q) (f : α → β) (he : ∀ a,emb a = emb' (f a)) (hq : ∀ a,Q a → Q' (f a)) : OpenT enc P w t k emb' Q' := fun fuel cs x hx hlt hwt => by
  obtain ⟨a,h1,h2,h3⟩ := h fuel cs x hx hlt hwt;exact ⟨f a,hq a h1,by rw [← he]; exact h2,by rw [← he]; exact h3⟩
end
theorem law_calls {P : Program} {f : FuncId} {args : List AV} (h : PCalls P f args (.raw (.bool true))) {w : World} {vs : List Value} (hl : vs.length = args.length) (hr : ∀ (i : Nat) a v,args[i]? = some a → vs[i]? = some v → RepA w noB (fun _ _ => undef) a v) :
    Calls P f vs.toArray w fun e w' => e = .returned (.bool true) ∧ Below w.heap.size w w' := by
  have hno : ∀ ρ b, ¬ OwnB ρ [] b := fun ρ b ⟨_,_,_,h,_⟩ => by cases h
  let ρ : Nat → Nat → Value := fun _ _ => undef
  let F : Fr := Fr.mk none w.heap.size w noB (OwnB ρ []) (pinOf ρ []) (fun b hb => hb.elim) [] (fun _ _ _ h => pinOf_mem h)
  have hO : F.O ρ [] = noB := funext fun b => propext ⟨fun h => h.elim id fun h => (hno ρ b h).elim,fun h => h.elim⟩
  have hheap : Heap F [] ρ w := ⟨(fun f i o ho => by cases ho),(fun f i f' i' o o' b ho => by cases ho),fun b hb => (hno ρ b hb).elim,rfl,rfl,rfl,Nat.le_refl _,fun _ _ _ => rfl,fun f i b hb => Zb0 hb,Nat.le_refl _⟩
  refine (h.2 F ρ vs rfl rfl ⟨rfl,rfl,rfl⟩ hheap hl (fun i a v ha hv => by rw [hO]; exact hr i a v ha hv)).mono fun e w' ⟨v,r,H',ρ',e1,⟨e2,e3⟩,hrep,hh'⟩ => ?_;subst e1 e2 e3;refine ⟨?_,hh'.os,hh'.tape,hh'.output,hh'.size0,fun b hlt => hh'.keep b hlt (hno ρ b)⟩
  cases hrep with
  | d hrep =>
    cases hrep with
    | raw _ => rfl
end Go.Proofs.YtneihdahboilnaaGreat
/- Openers under other words. No program in sight. -/
namespace Go.Proofs.YtneihdahboilnaaGreat
open Go.ChangeShapes Go.WideShapes Go.ChangeAt Go.RowKit
section
variable {H : Type} {enc : TypeId × Value → H} {P : Program} {w : World}
theorem OpenT.asQ {α β : Type} {t : TypeId} {k : Nat} {emb : α → D} {Q : α → Prop} {emb' : β → D} {Q' : β → Prop} (h : OpenT enc P w t k emb Q) (f : α → β) (he : ∀ a,Q a → emb a = emb' (f a)) (hq : ∀ a,Q a → Q' (f a)) : OpenT enc P w t k emb' Q' := fun fuel cs x hx hlt hwt => by
  obtain ⟨a,h1,h2,h3⟩ := h fuel cs x hx hlt hwt;exact ⟨f a,hq a h1,by rw [← he a h1]; exact h2,by rw [← he a h1]; exact h3⟩
theorem openI64 {t : TypeId} (ht : P.underlying t = some (.int .i64)) : OpenT enc P w t 1 (fun n : Int => .raw (.int .i64 n)) (fun n => -9223372036854775808 ≤ n ∧ n ≤ 9223372036854775807) :=
  (openInt ht).asQ id (fun _ _ => rfl) (fun _ h => h)
theorem openStrL {t : TypeId} (ht : P.underlying t = some .string) : OpenT enc P w t 1 strD (fun l => l.length ≤ 140737488351232) :=
  (openStr ht).asQ (fun s => s.data.toList) (fun a _ => rfl) (fun a h => by simpa using h)
end
end Go.Proofs.YtneihdahboilnaaGreat
/- The data of layer 28, and how they lie in memory. -/
namespace Go.Proofs.YtneihdahboilnaaGreat
open Go.RowKit
set_option maxRecDepth 100000
abbrev intD (z : Int) : D := .raw (.int .i64 z)
structure Acc where
  o : List UInt8
  k : Int
  a : List UInt8
structure Rsc where
  k : Int
  acc : Acc
  f : List UInt8
  t : List UInt8
structure Post where
  acc : Acc
  d : Int
structure Pay where
  f : List UInt8
  t : List UInt8
  n : Int
structure Itm where
  id : Int
  pr : Int
  sq : Int
  po : List Post
  pa : List Pay
  af : List Int
structure Roo where
  r : Rsc
  n : Int
structure Prb where
  ro : List Roo
  it : List Itm
theorem Acc.eq_iff {x y : Acc} : x = y ↔ x.o = y.o ∧ x.k = y.k ∧ x.a = y.a := by cases x; cases y; simp
instance : DecidableEq Acc := fun _ _ => decidable_of_iff _ Acc.eq_iff.symm
theorem Rsc.eq_iff {x y : Rsc} : x = y ↔ x.k = y.k ∧ x.acc = y.acc ∧ x.f = y.f ∧ x.t = y.t := by cases x; cases y; simp
instance : DecidableEq Rsc := fun _ _ => decidable_of_iff _ Rsc.eq_iff.symm
abbrev accD (x : Acc) : D := .agg [strD x.o,intD x.k,strD x.a]
abbrev rscD (x : Rsc) : D := .agg [intD x.k,strD x.acc.o,intD x.acc.k,strD x.acc.a,strD x.f,strD x.t]
abbrev postD (x : Post) : D := .agg [strD x.acc.o,intD x.acc.k,strD x.acc.a,intD x.d]
abbrev payD (x : Pay) : D := .agg [strD x.f,strD x.t,intD x.n]
abbrev itmD (x : Itm) : D := .agg [intD x.id,intD x.pr,intD x.sq, .sl none (x.po.map postD), .sl none (x.pa.map payD), .sl none (x.af.map intD)]
abbrev rooD (x : Roo) : D := .agg [intD x.r.k,strD x.r.acc.o,intD x.r.acc.k,strD x.r.acc.a,strD x.r.f,strD x.r.t,intD x.n]
abbrev prbD (x : Prb) : D := .agg [.sl none (x.ro.map rooD), .sl none (x.it.map itmD)]
def rscC (x : Rsc) : List Value := [.int .i64 x.k,strV x.acc.o, .int .i64 x.acc.k,strV x.acc.a,strV x.f,strV x.t]
def accC (x : Acc) : List Value := [strV x.o, .int .i64 x.k,strV x.a]
abbrev rscT : List TypeDesc := [.int .i64, .string, .int .i64, .string, .string, .string]
abbrev accT : List TypeDesc := [.string, .int .i64, .string]
theorem eqCell_int (a b : Int) : eqCell (.int .i64 a) (.int .i64 b) = decide (a = b) := by
  simp only [eqCell]; exact Bool.beq_eq_decide_eq a b
theorem eqCell_str (a b : List UInt8) : eqCell (strV a) (strV b) = decide (a = b) := by
  simp only [eqCell,strV, ← beq_toListBytes,beq_bytes]
theorem rsc_eqC (a b : Rsc) : eqCells (rscC a) (rscC b) = decide (a = b) := by
  simp only [rscC,eqCells,eqCell_int,eqCell_str,Rsc.eq_iff,Acc.eq_iff,Bool.and_true,Bool.decide_and,Bool.and_assoc]
theorem acc_eqC (a b : Acc) : eqCells (accC a) (accC b) = decide (a = b) := by
  simp only [accC,eqCells,eqCell_int,eqCell_str,Acc.eq_iff,Bool.and_true,Bool.decide_and]
theorem Zbp {d : TypeDesc} {ds : List TypeDesc} {u : Value} {us : List Value} (h : MapKept.IsKey d u) (hr : PlainAre ds us) : PlainAre (d :: ds) (u :: us) :=
  ⟨by simp [hr.1],fun i d' u' hd hu => by
    cases i with
    | zero => simp at hd hu; subst hd hu; exact h
    | succ i => exact hr.2 i d' u' (by simpa using hd) (by simpa using hu)⟩
theorem plain_nil : PlainAre [] [] := ⟨rfl,by simp⟩
theorem rsc_plain (a : Rsc) : PlainAre rscT (rscC a) := Zbp rfl (Zbp trivial (Zbp rfl (Zbp trivial (Zbp trivial (Zbp trivial plain_nil)))))
theorem acc_plain (a : Acc) : PlainAre accT (accC a) := Zbp trivial (Zbp rfl (Zbp trivial plain_nil))
theorem rsc_val (a : Rsc) : (rscD a).val? = some (.agg (rscC a).toArray) := rfl
theorem kt51 : KeyTy Tryz.prog 51 rscD (fun a => .agg (rscC a).toArray) := KeyTy.flat (ds := rscT) (by kernel_rfl) (by kernel_rfl) rsc_val rsc_plain rsc_eqC
theorem c2_wr {fs : List (Nat × Option (List AObj))} {f : Nat} {c1 c2 : List AObj} (h : look fs f = some (some c2)) : ∀ g c,look fs g = some c → C2 f c1 c2 g c := fun g c hg e => by
  subst e; rw [h] at hg; injection hg with hg; exact .inr hg.symm
theorem retB {p q : Prop} [Decidable p] [Decidable q] (h : p ↔ q) : AV.d (.raw (.bool (decide p))) = .d (.raw (.bool (decide q))) := by rw [decide_eq_decide.2 h]
theorem retT {q : Prop} [Decidable q] (h : q) : AV.d (.raw (.bool true)) = .d (.raw (.bool (decide q))) := by rw [decide_eq_true h]
theorem retF {q : Prop} [Decidable q] (h : ¬ q) : AV.d (.raw (.bool false)) = .d (.raw (.bool (decide q))) := by rw [decide_eq_false h]
theorem retI {a b : Int} (h : a = b) : AV.d (.raw (.int .i64 a)) = .d (.raw (.int .i64 b)) := by rw [h]
theorem wrapS (n : Nat) (h : n ≤ 9223372036854775807) : IntKind.i64.wrap (n : Int) = (n : Int) := IntWalk.i64_in _ (by omega)
theorem within_p (n lo hi : Int) : PCalls Tryz.prog 113 [.d (intD n), .d (intD lo), .d (intD hi)] (.raw (.bool (decide (lo ≤ n ∧ n ≤ hi)))) := by
  refine ZaB Tryz.func113 rfl rfl Tryz.ntmps113 rfl rfl rfl fun F hF => (Zad (Zab ?_));refine goAs rfl rfl (Zac (Zad (Zab (goMv rfl rfl (goMv rfl rfl (Zaa.go (st_geq rfl rfl rfl) (goMv rfl rfl (ZaP 10 rfl (fun h10 => ?_) (fun h10 => ?_)))))))))
  · refine Zal rfl rfl rfl ?_;refine goMv rfl rfl (Zal rfl rfl rfl (goMv rfl rfl (Zal rfl rfl rfl (Zaa.go (st_leq rfl rfl rfl) (Zaa.go (Zaw rfl rfl rfl rfl) (goAs rfl rfl (Zac (Zao ?_))))))));exact ⟨_,[],[],Zak rfl,rfl,rfl,by first | exact retB (by omega) | exact retF (by omega),rfl⟩
  · refine Zai rfl rfl rfl rfl (Zai rfl rfl rfl rfl (Zai rfl rfl rfl rfl (Zaa.go (ZaG rfl rfl rfl rfl) (goAs rfl rfl (Zac (Zao ?_))))));exact ⟨_,[],[],Zak rfl,rfl,rfl,by first | exact retB (by omega) | exact retF (by omega),rfl⟩
theorem within64_p (n lo hi : Int) : PCalls Tryz.prog 112 [.d (intD n), .d (intD lo), .d (intD hi)] (.raw (.bool (decide (lo ≤ n ∧ n ≤ hi)))) := by
  refine ZaB Tryz.func112 rfl rfl Tryz.ntmps112 rfl rfl rfl fun F hF => (Zad (Zab ?_));refine goAs rfl rfl (Zac (Zad (Zab (goMv rfl rfl (goMv rfl rfl (Zaa.go (st_geq rfl rfl rfl) (goMv rfl rfl (ZaP 10 rfl (fun h10 => ?_) (fun h10 => ?_)))))))))
  · refine Zal rfl rfl rfl ?_;refine goMv rfl rfl (Zal rfl rfl rfl (goMv rfl rfl (Zal rfl rfl rfl (Zaa.go (st_leq rfl rfl rfl) (Zaa.go (Zaw rfl rfl rfl rfl) (goAs rfl rfl (Zac (Zao ?_))))))));exact ⟨_,[],[],Zak rfl,rfl,rfl,by first | exact retB (by omega) | exact retF (by omega),rfl⟩
  · refine Zai rfl rfl rfl rfl (Zai rfl rfl rfl rfl (Zai rfl rfl rfl rfl (Zaa.go (ZaG rfl rfl rfl rfl) (goAs rfl rfl (Zac (Zao ?_))))));exact ⟨_,[],[],Zak rfl,rfl,rfl,by first | exact retB (by omega) | exact retF (by omega),rfl⟩
theorem refwithin_p (n : Int) : PCalls Tryz.prog 66 [.d (intD n)] (.raw (.bool (decide (0 ≤ n ∧ n ≤ 1000000000)))) := by
  refine ZaB Tryz.func66 rfl rfl Tryz.ntmps66 rfl rfl rfl fun F hF => (Zad ?_);refine Zab (goAs rfl rfl (Zac (Zad (Zab (goMv rfl rfl (Zaa.go (st_geq rfl rfl rfl) (goMv rfl rfl (ZaP 5 rfl (fun h5 => ?_) (fun h5 => ?_)))))))))
  · refine Zal rfl rfl rfl (goMv rfl rfl (Zal rfl rfl rfl (Zaa.go (st_leq rfl rfl rfl) (Zaa.go (Zaw rfl rfl rfl rfl) (goAs rfl rfl (Zac (Zao ?_)))))));exact ⟨_,[],[],Zak rfl,rfl,rfl,by first | exact retB (by omega) | exact retF (by omega),rfl⟩
  · refine Zai rfl rfl rfl rfl (Zai rfl rfl rfl rfl (Zaa.go (ZaG rfl rfl rfl rfl) (goAs rfl rfl (Zac (Zao ?_)))));exact ⟨_,[],[],Zak rfl,rfl,rfl,by first | exact retB (by omega) | exact retF (by omega),rfl⟩
theorem nan_p (n : Int) : PCalls Tryz.prog 86 [.d (intD n)] (.raw (.bool false)) := by
  refine ZaB Tryz.func86 rfl rfl Tryz.ntmps86 rfl rfl rfl fun F hF => (Zad (Zab (goAs rfl rfl ?_)));refine Zac (Zad (Zab (goMv rfl rfl (goMv rfl rfl (Zaa.go (Zbi rfl rfl rfl) (goAs rfl rfl (Zac (Zao ?_))))))));exact ⟨_,[],[],Zak rfl,rfl,rfl,by simp,rfl⟩
theorem nanS_p (l : List UInt8) : PCalls Tryz.prog 87 [.d (strD l)] (.raw (.bool false)) := by
  refine ZaB Tryz.func87 rfl rfl Tryz.ntmps87 rfl rfl rfl fun F hF => (Zad (Zab (goAs rfl rfl ?_)));refine Zac (Zad (Zab (goMv rfl rfl (goMv rfl rfl (Zaa.go (ZbU rfl rfl rfl) (goAs rfl rfl (Zac (Zao ?_))))))));exact ⟨_,[],[],Zak rfl,rfl,rfl,by simp,rfl⟩
def cmpI (a b : Int) : Int := if a < b then -1 else if b < a then 1 else 0
def ltS (a b : List UInt8) : Bool := Op.bytesLess a b
def cmpS (a b : List UInt8) : Int := if ltS a b = true then -1 else if ltS b a = true then 1 else 0
theorem Zcc (a b : List UInt8) : Op.bytesLess (⟨a.toArray⟩ : ByteArray).toList (⟨b.toArray⟩ : ByteArray).toList = ltS a b := by rw [Lib.toList_data,Lib.toList_data]; rfl
theorem cmpI_p (a b : Int) : PCalls Tryz.prog 61 [.d (intD a), .d (intD b)] (intD (cmpI a b)) := by
  refine ZaB Tryz.func61 rfl rfl Tryz.ntmps61 rfl rfl rfl fun F hF => (Zad (Zab ?_));refine goAs rfl rfl (Zac (Zad (Zab (goMv rfl rfl (Zaa.go (Zau (nan_p a) rfl rfl) (goAs rfl rfl (Zac (Zad ?_))))))));refine Zab (goMv rfl rfl (Zaa.go (Zau (nan_p b) rfl rfl) (goAs rfl rfl (Zac (Zad (Zad (Zab (goMv rfl rfl ?_))))))));refine Zac (Za9 rfl (rfl) (Zap (Zad (Zad (Zab (goMv rfl rfl (Zac (Za9 rfl (rfl) ?_))))))));refine Zap (Zad (Zad (Zab (goMv rfl rfl (goMv rfl rfl (Zaa.go (ZaI rfl rfl rfl) (Zac (ZaF rfl (fun h16 => ?_) (fun h16 => ?_)))))))))
  · refine Zad (Zab (goAs rfl rfl (Zac (Zao ?_))));exact ⟨_,[],[],Zak rfl,rfl,rfl,by first | exact retI (by unfold cmpI; rw [if_pos (by assumption)]) | exact retI (by unfold cmpI; rw [if_neg (by assumption),if_pos (by omega)]) | exact retI (by unfold cmpI; rw [if_neg (by assumption),if_neg (by omega)]),rfl⟩
  · refine Zap (Zad (Zad (Zab (goMv rfl rfl (goMv rfl rfl (Zaa.go (Zbv rfl rfl rfl) (Zac (ZaF rfl (fun h19 => ?_) (fun h19 => ?_)))))))))
    · refine Zad (Zab (goAs rfl rfl (Zac (Zao ?_))));exact ⟨_,[],[],Zak rfl,rfl,rfl,by first | exact retI (by unfold cmpI; rw [if_pos (by assumption)]) | exact retI (by unfold cmpI; rw [if_neg (by assumption),if_pos (by omega)]) | exact retI (by unfold cmpI; rw [if_neg (by assumption),if_neg (by omega)]),rfl⟩
    · refine Zap (Zad (Zab (goAs rfl rfl (Zac (Zao ?_)))));exact ⟨_,[],[],Zak rfl,rfl,rfl,by first | exact retI (by unfold cmpI; rw [if_pos (by assumption)]) | exact retI (by unfold cmpI; rw [if_neg (by assumption),if_pos (by omega)]) | exact retI (by unfold cmpI; rw [if_neg (by assumption),if_neg (by omega)]),rfl⟩
theorem cmpS_p (a b : List UInt8) : PCalls Tryz.prog 62 [.d (strD a), .d (strD b)] (intD (cmpS a b)) := by
  refine ZaB Tryz.func62 rfl rfl Tryz.ntmps62 rfl rfl rfl fun F hF => (Zad (Zab ?_));refine goAs rfl rfl (Zac (Zad (Zab (goMv rfl rfl (Zaa.go (Zau (nanS_p a) rfl rfl) (goAs rfl rfl (Zac (Zad ?_))))))));refine Zab (goMv rfl rfl (Zaa.go (Zau (nanS_p b) rfl rfl) (goAs rfl rfl (Zac (Zad (Zad (Zab (goMv rfl rfl ?_))))))));refine Zac (Za9 rfl (rfl) (Zap (Zad (Zad (Zab (goMv rfl rfl (Zac (Za9 rfl (rfl) ?_))))))));refine Zap (Zad (Zad (Zab (goMv rfl rfl (goMv rfl rfl (Zaa.go (st_lssS rfl rfl rfl) (Zac (Zbm rfl (fun h16 => ?_) (fun h16 => ?_)))))))))
  · rw [Zcc] at h16;refine Zad (Zab (goAs rfl rfl (Zac (Zao ?_))));exact ⟨_,[],[],Zak rfl,rfl,rfl,by first | exact retI (by unfold cmpS; rw [if_pos h16]) | exact retI (by unfold cmpS; rw [if_neg (by rw [h16]; decide),if_pos h19]) | exact retI (by unfold cmpS; rw [if_neg (by rw [h16]; decide),if_neg (by rw [h19]; decide)]),rfl⟩
  · rw [Zcc] at h16;refine Zap (Zad (Zad (Zab (goMv rfl rfl (goMv rfl rfl (Zaa.go (st_gtrS rfl rfl rfl) (Zac (Zbm rfl (fun h19 => ?_) (fun h19 => ?_)))))))))
    · rw [Zcc] at h19;refine Zad (Zab (goAs rfl rfl (Zac (Zao ?_))));exact ⟨_,[],[],Zak rfl,rfl,rfl,by first | exact retI (by unfold cmpS; rw [if_pos h16]) | exact retI (by unfold cmpS; rw [if_neg (by rw [h16]; decide),if_pos h19]) | exact retI (by unfold cmpS; rw [if_neg (by rw [h16]; decide),if_neg (by rw [h19]; decide)]),rfl⟩
    · rw [Zcc] at h19;refine Zap (Zad (Zab (goAs rfl rfl (Zac (Zao ?_)))));exact ⟨_,[],[],Zak rfl,rfl,rfl,by first | exact retI (by unfold cmpS; rw [if_pos h16]) | exact retI (by unfold cmpS; rw [if_neg (by rw [h16]; decide),if_pos h19]) | exact retI (by unfold cmpS; rw [if_neg (by rw [h16]; decide),if_neg (by rw [h19]; decide)]),rfl⟩
abbrev Mx : Int := 1000000000000000
def fst0 : List Int → Int
  | [] => 0
  | e :: r => if e = 0 then fst0 r else e
theorem fst0_drop {α : Type} {l : List α} {f : α → Int} {k : Nat} (hk : k < l.length) : fst0 ((l.drop k).map f) = if f l[k] = 0 then fst0 ((l.drop (k + 1)).map f) else f l[k] := by
  rw [List.drop_eq_getElem_cons hk]; rfl
theorem fst0_end {α : Type} {l : List α} {f : α → Int} {k : Nat} (hk : ¬ k < l.length) : fst0 ((l.drop k).map f) = 0 := by
  rw [List.drop_of_length_le (by omega)]; rfl
theorem Zb1 {α : Type} {l : List α} {f : α → Int} {k : Nat} {E : Int} (hk : k < l.length) (h : E = fst0 ((l.drop k).map f)) : (f l[k] = 0 → E = fst0 ((l.drop (k + 1)).map f)) ∧ ∀ e,f l[k] = e → e ≠ 0 → e = E := by
  rw [fst0_drop hk] at h;exact ⟨fun h0 => by rw [h,if_pos h0],fun e h1 h2 => by rw [h,if_neg (by rw [h1]; exact h2),h1]⟩
def pErr (p : Post) : Int := if p.acc.o = [] ∨ p.acc.a = [] then 6 else if ¬ (0 ≤ p.acc.k ∧ p.acc.k ≤ 4) then 11 else if ¬ (-Mx ≤ p.d ∧ p.d ≤ Mx) then 12 else 0
def yErr (p : Pay) : Int := if p.f = [] ∨ p.t = [] then 6 else if p.f = p.t then 7 else if ¬ (0 ≤ p.n ∧ p.n ≤ Mx) then 2 else 0
def aErr (id : Int) (l : List Int) (k : Nat) : Int := if ¬ (0 ≤ l.getD k 0 ∧ l.getD k 0 ≤ 1000000000) then 2 else if l.getD k 0 = id ∨ l.getD k 0 ∈ l.take k then 7 else 0
def postE (i : Itm) : Int := fst0 (i.po.map pErr)
def payE (i : Itm) : Int := fst0 (i.pa.map yErr)
def aftE (i : Itm) : Int := fst0 ((List.range i.af.length).map (aErr i.id i.af))
def assetSum (l : List Post) (a : List UInt8) : Int := (l.map fun p => if p.acc.a = a then p.d else 0).sum
def balE (i : Itm) : Int := if ∃ p ∈ i.po,assetSum i.po p.acc.a ≠ 0 then 14 else 0
theorem not_mem_take_succ {α : Type} {l : List α} {x : α} {k : Nat} (hk : k < l.length) (h : x ∉ l.take k) (hne : x ≠ l[k]) : x ∉ l.take (k + 1) := by
  rw [List.take_succ_eq_append_getElem hk,List.mem_append]
  simp [h,hne]
theorem mem_of_take {α : Type} {l : List α} {x : α} {k : Nat} (hk : ¬ k < l.length) (h : x ∉ l.take k) : x ∉ l := by
  rwa [List.take_of_length_le (by omega)] at h
def ixI (x : Int) (l : List Int) : Int := if x ∈ l then (l.idxOf x : Int) else -1
theorem idxOf_at {l : List Int} {x : Int} {k : Nat} (hk : k < l.length) (h : x ∉ l.take k) (he : x = l[k]) : ixI x l = (k : Int) := by
  unfold ixI;rw [if_pos (by rw [he]; exact List.getElem_mem hk)];have h1 : l = l.take k ++ l[k] :: l.drop (k + 1) := by rw [← List.drop_eq_getElem_cons hk,List.take_append_drop]
  rw [h1,List.idxOf_append,if_neg h,he,List.idxOf_cons_self]
  simp; omega
theorem index_p (l : List Int) (x : Int) (hn : l.length ≤ 140737488355328) : PCalls Tryz.prog 149 [.d (.sl none (l.map intD)), .d (intD x)] (intD (ixI x l)) := by
  refine ZaB Tryz.func149 rfl rfl Tryz.ntmps149 rfl rfl rfl fun F hF => (Zad (Zab (goAs rfl rfl (Zac ?_))));refine Zad (Zad (Zab (goMv rfl rfl (Zaa.go (ZaA rfl Tryz.underlying28 rfl) (goMv rfl rfl (Zac (Zam (a_loop (α := Nat) (fun k => ⟨19,[(0, .d (.sl none (l.map intD))),(1, .d (intD x)),(7,(.d (intD (l.length : Int)))),(8,(.d (intD (k : Int))))],[]⟩) (fun k => k ≤ l.length ∧ x ∉ l.take k) (fun k => l.length - k) (0) (⟨Nat.zero_le _,by simp⟩) (le_of_has ⟨rfl,rfl,rfl,rfl,trivial⟩) ?_))))))));rintro k ⟨hk0,hk⟩;refine Zad (Zab (Zaa.go (ZaI rfl rfl rfl) (Zac (Zad (ZaF rfl (fun h9 => ?_) (fun h9 => ?_))))))
  · have hk1 : k < l.length := ZaN h9;refine Zap (Zad (Zam (Zad (Zab (goMv rfl rfl (goAs rfl rfl (Zac (Zad ?_))))))));refine Zab (goMv rfl rfl (goMv rfl rfl (goMv rfl rfl (Zaa.go (Zat (k) rfl rfl (rfl) (getm hk1) Tryz.underlying28 rfl sz3 rfl) (Zaa.go (ZaE rfl rfl on3 rfl) (Zaa.go (Zbn rfl rfl rfl) (Zac (ZaF rfl (fun h16 => ?_) (fun h16 => ?_)))))))))
    · refine Zad (Zab (goMv rfl rfl (goAs rfl rfl (Zac (Zao ?_)))));exact ⟨_,[],[],Zak rfl,rfl,rfl,retI (idxOf_at hk1 hk h16).symm,rfl⟩
    · refine Zap (Zab (Zaa.go (Zay rfl rfl (wrapS (k + 1) (by omega)) rfl) (goMv rfl rfl (Zac ?_))));exact ⟨k + 1,⟨by show k + 1 ≤ _; omega,not_mem_take_succ hk1 hk h16⟩,by show l.length - (k + 1) < l.length - k; omega,⟨rfl,rfl,fun _ _ => Has.get (l := [(0,_),(1,_),(7,_),(8,_)]) ⟨rfl,rfl,rfl,rfl,trivial⟩⟩⟩
  · refine ZaL (Zad (Zab (goAs rfl rfl (Zac (Zao ?_)))));exact ⟨_,[],[],Zak rfl,rfl,rfl,retI (by unfold ixI; rw [if_neg (mem_of_take (by have h := h9; omega) hk)]),rfl⟩
theorem contains_p (l : List Int) (x : Int) (hn : l.length ≤ 140737488355328) : PCalls Tryz.prog 133 [.d (.sl none (l.map intD)), .d (intD x)] (.raw (.bool (decide (x ∈ l)))) := by
  refine ZaB Tryz.func133 rfl rfl Tryz.ntmps133 rfl rfl rfl fun F hF => (Zad (Zab (goAs rfl rfl (Zac ?_))));refine Zad (Zab (goMv rfl rfl (goMv rfl rfl (Zaa.go (Zau (index_p l x hn) rfl rfl) (Zaa.go (st_geq rfl rfl rfl) (goAs rfl rfl (Zac (Zao ?_))))))));exact ⟨_,[],[],Zak rfl,rfl,rfl,retB (by unfold ixI; split <;> rename_i h <;> simp [h] <;> omega),rfl⟩
theorem has_p (l : List Int) (x : Int) (hn : l.length ≤ 140737488355328) : PCalls Tryz.prog 55 [.d (.sl none (l.map intD)), .d (intD x)] (.raw (.bool (decide (x ∈ l)))) := by
  refine ZaB Tryz.func55 rfl rfl Tryz.ntmps55 rfl rfl rfl fun F hF => (Zad (Zab ?_));refine goAs rfl rfl (Zac (Zad (Zad (Zab (goAs rfl rfl (Zac (Zam (a_loop (α := Nat) (fun k => ⟨18,[(0, .d (.sl none (l.map intD))),(1, .d (intD x)),(5,(.d (intD (k : Int))))],[]⟩) (fun k => k ≤ l.length ∧ x ∉ l.take k) (fun k => l.length - k) (0) (⟨Nat.zero_le _,by simp⟩) (le_of_has ⟨rfl,rfl,rfl,trivial⟩) ?_))))))));rintro k ⟨hk0,hk⟩;refine Zad (Zad (Zab (goMv rfl rfl (goMv rfl rfl (Zaa.go (ZaA rfl Tryz.underlying28 rfl) (Zaa.go (ZaI rfl rfl rfl) (Zac (ZaF rfl (fun h9 => ?_) (fun h9 => ?_)))))))))
  · have hk1 : k < l.length := ZaN h9;refine Zap (Zad (Zam (Zad ?_)));refine Zab (goMv rfl rfl (goMv rfl rfl (Zaa.go (Zat (k) rfl rfl (rfl) (getm hk1) Tryz.underlying28 rfl sz3 rfl) (Zaa.go (ZaE rfl rfl on3 rfl) (goMv rfl rfl (Zaa.go (Zbn rfl rfl rfl) (Zac (ZaF rfl (fun h17 => ?_) (fun h17 => ?_)))))))))
    · refine Zad (Zab (goAs rfl rfl (Zac (Zao ?_))));exact ⟨_,[],[],Zak rfl,rfl,rfl,retT (by rw [← h17]; exact List.getElem_mem hk1),rfl⟩
    · refine Zap (Zab (goMv rfl rfl (Zaa.go (Zay rfl rfl (wrapS (k + 1) (by omega)) rfl) (goAs rfl rfl (Zac ?_)))));exact ⟨k + 1,⟨by show k + 1 ≤ _; omega,not_mem_take_succ hk1 hk (fun e => h17 e.symm)⟩,by show l.length - (k + 1) < l.length - k; omega,⟨rfl,rfl,fun _ _ => Has.get (l := [(0,_),(1,_),(5,_)]) ⟨rfl,rfl,rfl,trivial⟩⟩⟩
  · refine ZaL (Zad (Zab (goAs rfl rfl (Zac (Zao ?_)))));exact ⟨_,[],[],Zak rfl,rfl,rfl,retF (mem_of_take (by have h := h9; omega) hk),rfl⟩
theorem postings_p (i : Itm) (hn : i.po.length ≤ 140737488355328) : PCalls Tryz.prog 114 [.d (itmD i)] (intD (postE i)) := by
  refine ZaB Tryz.func114 rfl rfl Tryz.ntmps114 rfl rfl rfl fun F hF => (Zad (Zab (Zaj.go (ZaS 1 rfl rfl rfl rfl rfl rfl rfl) (goAs rfl rfl (Zac (Zad ?_))))));refine Zad (Zab (Zaa.go (Zag rfl fi91_3 rfl rfl rfl) (Zaa.go (Zah rfl rfl rfl on88 rfl) (Zaa.go (ZaA rfl Tryz.underlying88 rfl) (goMv rfl rfl (Zac (Zam (ZaK (α := Nat) (fun k => ⟨35,[(1,(.ptr 1 0 0)),(6,(.d (.sl none (i.po.map postD)))),(7,(.d (intD (i.po.length : Int)))),(8,(.d (intD (k : Int))))],[(1,[.blk 91 [.d (intD i.id), .d (intD i.pr), .d (intD i.sq), .d (.sl none (i.po.map postD)), .d (.sl none (i.pa.map payD)), .d (.sl none (i.af.map intD))]])]⟩) (fun k => k ≤ i.po.length ∧ postE i = fst0 ((i.po.drop k).map pErr)) (fun k => i.po.length - k) (0) (⟨Nat.zero_le _,rfl⟩) (Zaq hF [1] rfl rfl ⟨rfl,rfl,rfl,rfl,trivial⟩) ?_))))))));rintro k ⟨hk0,hk⟩;refine Zad (Zab (Zaa.go (ZaI rfl rfl rfl) (Zac (Zad (ZaF rfl (fun h9 => ?_) (fun h9 => ?_))))))
  · have hk1 : k < i.po.length := ZaN h9;refine Zap (Zad (Zam (Zad (Zab ?_))));have hE := Zb1 hk1 hk;refine Zaa.go (Zat (k) rfl rfl (rfl) (getm hk1) Tryz.underlying88 rfl sz144 rfl) (Zaa.go (ZaC rfl rfl rw144 rfl) (Zaj.go (ZaQ 2 zl144 rfl rfl rfl rfl) (Zaj.go (Zaz rfl rfl rfl rfl rfl rfl rfl sz144) (Zac ?_))));refine Zam (Zad (Zab (Zaa.go (Zag rfl fi144_0 rfl rfl rfl) (Zaa.go (Zag rfl fi49_0 rfl rfl rfl) (Zaa.go (Zah rfl rfl rfl on9 rfl) (Zaa.go (Za8 rfl rfl rfl) (goMv rfl rfl (ZaP 17 rfl (fun h17 => ?_) (fun h17 => ?_)))))))))
    · refine Zai rfl rfl rfl rfl (Zai rfl rfl rfl rfl (Zai rfl rfl rfl rfl (Zai rfl rfl rfl rfl ?_)));refine Zaa.go (Zaw rfl rfl rfl rfl) (goAs rfl rfl (Zac (ZaU rfl rfl (Zad (Zab (goAs rfl rfl (Zac (Zao ?_))))))));exact ⟨_,[],[],Zak rfl,rfl,rfl,retI (hE.2 6 (by unfold pErr; rw [if_pos (.inl h17)]) (by decide)),rfl⟩
    · refine Zal rfl rfl rfl (Zaa.go (Zag rfl fi144_0 rfl rfl rfl) (Zal rfl rfl rfl ?_));refine Zaa.go (Zag rfl fi49_2 rfl rfl rfl) (Zal rfl rfl rfl (Zaa.go (Zah rfl rfl rfl on9 rfl) (Zal rfl rfl rfl (Zaa.go (Za8 rfl rfl rfl) (Zaa.go (ZaG rfl rfl rfl rfl) (goAs rfl rfl (Zac (ZaF rfl (fun h12 => ?_) (fun h12 => ?_)))))))))
      · refine Zad (Zab (goAs rfl rfl (Zac (Zao ?_))));exact ⟨_,[],[],Zak rfl,rfl,rfl,retI (hE.2 6 (by unfold pErr; rw [if_pos (.inr h12)]) (by decide)),rfl⟩
      · refine Zad ?_;refine Zab (Zaa.go (Zag rfl fi144_0 rfl rfl rfl) (Zaa.go (Zag rfl fi49_1 rfl rfl rfl) (Zaa.go (Zah rfl rfl rfl on3 rfl) (Zaa.go (Zau (within_p _ _ _) rfl rfl) (Zaa.go (Zbq rfl rfl) (goAs rfl rfl (Zac (ZaF rfl (fun h23 => ?_) (fun h23 => ?_)))))))))
        · refine Zad (Zab (goAs rfl rfl (Zac (Zao ?_))));exact ⟨_,[],[],Zak rfl,rfl,rfl,retI (hE.2 11 (by unfold pErr; rw [if_neg (by simp [h17,h12]),if_pos h23]) (by decide)),rfl⟩
        · refine Zad (Zab (Zaa.go (Zag rfl fi144_1 rfl rfl rfl) (Zaa.go (Zah rfl rfl rfl on2 rfl) (Zaa.go (Zau (within64_p _ _ _) rfl rfl) (Zaa.go (Zbq rfl rfl) (goAs rfl rfl (Zac (ZaF rfl (fun h29 => ?_) (fun h29 => ?_)))))))))
          · refine Zad (Zab (goAs rfl rfl (Zac (Zao ?_))));exact ⟨_,[],[],Zak rfl,rfl,rfl,retI (hE.2 12 (by unfold pErr; rw [if_neg (by simp [h17,h12]),if_neg h23,if_pos h29]) (by decide)),rfl⟩
          · refine Zap (Zab (Zaa.go (Zay rfl rfl (wrapS (k + 1) (by omega)) rfl) (goMv rfl rfl (Zac ?_))));exact ⟨k + 1,⟨by show k + 1 ≤ _; omega,hE.1 (by unfold pErr; rw [if_neg (by simp [h17,h12]),if_neg h23,if_neg h29])⟩,by show i.po.length - (k + 1) < i.po.length - k; omega,Zaq hF [1] rfl (rfl) ⟨rfl,rfl,rfl,rfl,trivial⟩⟩
  · refine ZaL (Zad (Zab (goAs rfl rfl (Zac (Zao ?_)))));exact ⟨_,[],[],Zak rfl,rfl,rfl,retI (by rw [hk,fst0_end (by have h := h9; omega)]),rfl⟩
theorem payments_p (i : Itm) (hn : i.pa.length ≤ 140737488355328) : PCalls Tryz.prog 115 [.d (itmD i)] (intD (payE i)) := by
  refine ZaB Tryz.func115 rfl rfl Tryz.ntmps115 rfl rfl rfl fun F hF => (Zad (Zab (Zaj.go (ZaS 1 rfl rfl rfl rfl rfl rfl rfl) (goAs rfl rfl (Zac (Zad ?_))))));refine Zad (Zab (Zaa.go (Zag rfl fi91_4 rfl rfl rfl) (Zaa.go (Zah rfl rfl rfl on89 rfl) (Zaa.go (ZaA rfl Tryz.underlying89 rfl) (goMv rfl rfl (Zac (Zam (ZaK (α := Nat) (fun k => ⟨33,[(1,(.ptr 1 0 0)),(6,(.d (.sl none (i.pa.map payD)))),(7,(.d (intD (i.pa.length : Int)))),(8,(.d (intD (k : Int))))],[(1,[.blk 91 [.d (intD i.id), .d (intD i.pr), .d (intD i.sq), .d (.sl none (i.po.map postD)), .d (.sl none (i.pa.map payD)), .d (.sl none (i.af.map intD))]])]⟩) (fun k => k ≤ i.pa.length ∧ payE i = fst0 ((i.pa.drop k).map yErr)) (fun k => i.pa.length - k) (0) (⟨Nat.zero_le _,rfl⟩) (Zaq hF [1] rfl rfl ⟨rfl,rfl,rfl,rfl,trivial⟩) ?_))))))));rintro k ⟨hk0,hk⟩;refine Zad (Zab (Zaa.go (ZaI rfl rfl rfl) (Zac (Zad (ZaF rfl (fun h9 => ?_) (fun h9 => ?_))))))
  · have hk1 : k < i.pa.length := ZaN h9;refine Zap (Zad (Zam (Zad (Zab ?_))));have hE := Zb1 hk1 hk;refine Zaa.go (Zat (k) rfl rfl (rfl) (getm hk1) Tryz.underlying89 rfl sz145 rfl) (Zaa.go (ZaC rfl rfl rw145 rfl) (Zaj.go (ZaQ 2 zl145 rfl rfl rfl rfl) (Zaj.go (Zaz rfl rfl rfl rfl rfl rfl rfl sz145) ?_)));refine Zac (Zam (Zad (Zab (Zaa.go (Zag rfl fi145_0 rfl rfl rfl) (Zaa.go (Zah rfl rfl rfl on9 rfl) (Zaa.go (Za8 rfl rfl rfl) (goMv rfl rfl (ZaP 16 rfl (fun h16 => ?_) (fun h16 => ?_)))))))))
    · refine Zai rfl rfl rfl rfl (Zai rfl rfl rfl rfl (Zai rfl rfl rfl rfl ?_));refine Zaa.go (Zaw rfl rfl rfl rfl) (goAs rfl rfl (Zac (ZaU rfl rfl (Zad (Zab (goAs rfl rfl (Zac (Zao ?_))))))));exact ⟨_,[],[],Zak rfl,rfl,rfl,retI (hE.2 6 (by unfold yErr; rw [if_pos (.inl h16)]) (by decide)),rfl⟩
    · refine Zal rfl rfl rfl ?_;refine Zaa.go (Zag rfl fi145_1 rfl rfl rfl) (Zal rfl rfl rfl (Zaa.go (Zah rfl rfl rfl on9 rfl) (Zal rfl rfl rfl (Zaa.go (Za8 rfl rfl rfl) (Zaa.go (ZaG rfl rfl rfl rfl) (goAs rfl rfl (Zac (ZaF rfl (fun h12 => ?_) (fun h12 => ?_)))))))))
      · refine Zad (Zab (goAs rfl rfl (Zac (Zao ?_))));exact ⟨_,[],[],Zak rfl,rfl,rfl,retI (hE.2 6 (by unfold yErr; rw [if_pos (.inr h12)]) (by decide)),rfl⟩
      · refine Zad ?_;refine Zab (Zaa.go (Zag rfl fi145_0 rfl rfl rfl) (Zaa.go (Zah rfl rfl rfl on9 rfl) (Zaa.go (Zag rfl fi145_1 rfl rfl rfl) (Zaa.go (Zah rfl rfl rfl on9 rfl) (Zaa.go (Za8 rfl rfl rfl) (goAs rfl rfl (Zac (ZaF rfl (fun h21 => ?_) (fun h21 => ?_)))))))))
        · refine Zad (Zab (goAs rfl rfl (Zac (Zao ?_))));exact ⟨_,[],[],Zak rfl,rfl,rfl,retI (hE.2 7 (by unfold yErr; rw [if_neg (by simp [h16,h12]),if_pos h21]) (by decide)),rfl⟩
        · refine Zad (Zab (Zaa.go (Zag rfl fi145_2 rfl rfl rfl) (Zaa.go (Zah rfl rfl rfl on2 rfl) (Zaa.go (Zau (within64_p _ _ _) rfl rfl) (Zaa.go (Zbq rfl rfl) (goAs rfl rfl (Zac (ZaF rfl (fun h27 => ?_) (fun h27 => ?_)))))))))
          · refine Zad (Zab (goAs rfl rfl (Zac (Zao ?_))));exact ⟨_,[],[],Zak rfl,rfl,rfl,retI (hE.2 2 (by unfold yErr; rw [if_neg (by simp [h16,h12]),if_neg h21,if_pos h27]) (by decide)),rfl⟩
          · refine Zap (Zab (Zaa.go (Zay rfl rfl (wrapS (k + 1) (by omega)) rfl) (goMv rfl rfl (Zac ?_))));exact ⟨k + 1,⟨by show k + 1 ≤ _; omega,hE.1 (by unfold yErr; rw [if_neg (by simp [h16,h12]),if_neg h21,if_neg h27])⟩,by show i.pa.length - (k + 1) < i.pa.length - k; omega,Zaq hF [1] rfl (rfl) ⟨rfl,rfl,rfl,rfl,trivial⟩⟩
  · refine ZaL (Zad (Zab (goAs rfl rfl (Zac (Zao ?_)))));exact ⟨_,[],[],Zak rfl,rfl,rfl,retI (by rw [hk,fst0_end (by have h := h9; omega)]),rfl⟩
theorem range_cases {n k : Nat} {f : Nat → Int} {E : Int} (hk : k < n) (h : E = fst0 (((List.range n).drop k).map f)) : (f k = 0 → E = fst0 (((List.range n).drop (k + 1)).map f)) ∧ ∀ e,f k = e → e ≠ 0 → e = E := by
  have := Zb1 (l := List.range n) (k := k) (by simpa using hk) h
  simpa using this
theorem after_p (i : Itm) (hn : i.af.length ≤ 140737488355328) : PCalls Tryz.prog 116 [.d (itmD i)] (intD (aftE i)) := by
  refine ZaB Tryz.func116 rfl rfl Tryz.ntmps116 rfl rfl rfl fun F hF => (Zad (Zab (Zaj.go (ZaS 1 rfl rfl rfl rfl rfl rfl rfl) (goAs rfl rfl (Zac (Zad ?_))))));refine Zad (Zab (Zaa.go (Zag rfl fi91_5 rfl rfl rfl) (Zaa.go (Zah rfl rfl rfl on28 rfl) (Zaa.go (ZaA rfl Tryz.underlying28 rfl) (goMv rfl rfl (Zac (Zam (ZaK (α := Nat) (fun k => ⟨31,[(1,(.ptr 1 0 0)),(6,(.d (.sl none (i.af.map intD)))),(7,(.d (intD (i.af.length : Int)))),(8,(.d (intD (k : Int))))],[(1,[.blk 91 [.d (intD i.id), .d (intD i.pr), .d (intD i.sq), .d (.sl none (i.po.map postD)), .d (.sl none (i.pa.map payD)), .d (.sl none (i.af.map intD))]])]⟩) (fun k => k ≤ i.af.length ∧ aftE i = fst0 (((List.range i.af.length).drop k).map (aErr i.id i.af))) (fun k => i.af.length - k) (0) (⟨Nat.zero_le _,rfl⟩) (Zaq hF [1] rfl rfl ⟨rfl,rfl,rfl,rfl,trivial⟩) ?_))))))));rintro k ⟨hk0,hk⟩;refine Zad (Zab (Zaa.go (ZaI rfl rfl rfl) (Zac (Zad (ZaF rfl (fun h9 => ?_) (fun h9 => ?_))))))
  · have hk1 : k < i.af.length := ZaN h9;refine Zap (Zad (Zam (Zad (Zab ?_))));have hE := range_cases hk1 hk;have hg : i.af.getD k 0 = i.af[k] := by simp [hk1]
    refine goMv rfl rfl (Zaa.go (Zat (k) rfl rfl (rfl) (getm hk1) Tryz.underlying28 rfl sz3 rfl) (Zaa.go (ZaE rfl rfl on3 rfl) (goAs rfl rfl (goAs rfl rfl (Zac ?_)))));refine Zam (Zad (Zab (goMv rfl rfl (Zaa.go (Zau (within_p _ _ _) rfl rfl) (Zaa.go (Zbq rfl rfl) (goAs rfl rfl (Zac (ZaF rfl (fun h13 => ?_) (fun h13 => ?_)))))))))
    · refine Zad (Zab (goAs rfl rfl (Zac (Zao ?_))));exact ⟨_,[],[],Zak rfl,rfl,rfl,retI (hE.2 2 (by unfold aErr; rw [hg,if_pos h13]) (by decide)),rfl⟩
    · refine Zad (Zab (goMv rfl rfl (Zaa.go (Zag rfl Zbz rfl rfl rfl) (Zaa.go (Zah rfl rfl rfl on3 rfl) (Zaa.go (Zbn rfl rfl rfl) (goMv rfl rfl (ZaP 22 rfl (fun h22 => ?_) (fun h22 => ?_))))))))
      · refine Zai rfl rfl rfl rfl (Zai rfl rfl rfl rfl (Zai rfl rfl rfl rfl (Zai rfl rfl rfl rfl (Zai rfl rfl rfl rfl (Zai rfl rfl rfl rfl ?_)))));refine Zaa.go (Zaw rfl rfl rfl rfl) (goAs rfl rfl (Zac (ZaU rfl rfl (Zad (Zab (goAs rfl rfl (Zac (Zao ?_))))))));exact ⟨_,[],[],Zak rfl,rfl,rfl,retI (hE.2 7 (by unfold aErr; rw [hg,if_neg h13,if_pos (.inl h22)]) (by decide)),rfl⟩
      · refine Zal rfl rfl rfl (Zaa.go (Zag rfl fi91_5 rfl rfl rfl) (Zal rfl rfl rfl (Zaa.go (Zah rfl rfl rfl on28 rfl) (Zal rfl rfl rfl (goMv rfl rfl (Zal rfl rfl rfl ?_))))));refine Zaa.go (ZbS (i.af) (k) rfl rfl rfl (rfl) (by omega) Tryz.underlying28 sz3 (fun _ => rfl) rfl) (Zal rfl rfl rfl (goMv rfl rfl (Zal rfl rfl rfl (Zaa.go (Zau (contains_p (i.af.take k) _ (by simp; omega)) rfl rfl) (Zaa.go (ZaG rfl rfl rfl rfl) (goAs rfl rfl (Zac (ZaF rfl (fun h17 => ?_) (fun h17 => ?_)))))))))
        · refine Zad (Zab (goAs rfl rfl (Zac (Zao ?_))));exact ⟨_,[],[],Zak rfl,rfl,rfl,retI (hE.2 7 (by unfold aErr; rw [hg,if_neg h13,if_pos (.inr h17)]) (by decide)),rfl⟩
        · refine Zap (Zab (Zaa.go (Zay rfl rfl (wrapS (k + 1) (by omega)) rfl) (goMv rfl rfl (Zac ?_))));exact ⟨k + 1,⟨by show k + 1 ≤ _; omega,hE.1 (by unfold aErr; rw [hg,if_neg h13,if_neg (by simp [h22]; exact h17)])⟩,by show i.af.length - (k + 1) < i.af.length - k; omega,Zaq hF [1] rfl (rfl) ⟨rfl,rfl,rfl,rfl,trivial⟩⟩
  · refine ZaL (Zad (Zab (goAs rfl rfl (Zac (Zao ?_)))));exact ⟨_,[],[],Zak rfl,rfl,rfl,retI (by rw [hk,fst0_end (by simp; have h := h9; omega)]),rfl⟩
theorem assetSum_snoc (l : List Post) (p : Post) (a : List UInt8) : assetSum (l ++ [p]) a = assetSum l a + if p.acc.a = a then p.d else 0 := by simp [assetSum]
theorem assetSum_bound (l : List Post) (a : List UInt8) (h : ∀ p ∈ l, -Mx ≤ p.d ∧ p.d ≤ Mx) : -(l.length * 1000000000000000) ≤ assetSum l a ∧ assetSum l a ≤ l.length * 1000000000000000 := by
  induction l with
  | nil => simp [assetSum]
  | cons p r ih =>
    have h1 := ih fun q hq => h q (by simp [hq]);have h2 := h p (by simp);have e : assetSum (p :: r) a = (if p.acc.a = a then p.d else 0) + assetSum r a := by simp [assetSum]
    rw [e];simp only [Mx] at h2;have e2 : ((p :: r).length : Int) = r.length + 1 := by simp
    rw [e2]
    split <;> omega
def BalM (l : List Post) (M : List (List UInt8 × Int)) : Prop := (M.map Prod.fst).Nodup ∧ (∀ a,mget M a 0 = assetSum l a) ∧ (∀ a,a ∈ M.map Prod.fst → ∃ p ∈ l,p.acc.a = a) ∧ ∀ p ∈ l,p.acc.a ∈ M.map Prod.fst
theorem mem_put {α β : Type} [DecidableEq α] {M : List (α × β)} {a a' : α} {b : β} : a' ∈ (mput M a b).map Prod.fst ↔ a' = a ∨ a' ∈ M.map Prod.fst := by
  rw [mput_keys]
  split
  · rename_i h
    exact ⟨.inr,fun h' => h'.elim (fun e => by rw [e]; exact h) id⟩
  · simp [or_comm]
theorem BalM.snoc {l : List Post} {M : List (List UInt8 × Int)} (h : BalM l M) (p : Post) : BalM (l ++ [p]) (mput M p.acc.a (mget M p.acc.a 0 + p.d)) := by
  obtain ⟨h1,h2,h3,h4⟩ := h;refine ⟨mput_nodup h1,fun a => ?_,fun a ha => ?_,fun q hq => ?_⟩
  · rw [mget_put,assetSum_snoc]
    split
    · rename_i e; rw [e,h2,if_pos rfl]
    · rename_i e; rw [h2,if_neg (fun e' => e e'.symm)]; omega
  · rcases mem_put.1 ha with e | e
    · exact ⟨p,by simp,e.symm⟩
    · obtain ⟨q,hq,e2⟩ := h3 a e;exact ⟨q,by simp [hq],e2⟩
  · rcases List.mem_append.1 hq with hq | hq
    · exact mem_put.2 (.inr (h4 q hq))
    · simp at hq; subst hq; exact mem_put.2 (.inl rfl)
theorem bal_bad {i : Itm} {M : List (List UInt8 × Int)} (h : BalM i.po M) {j : Nat} {a : List UInt8} {v : Int} (hm : M[j]? = some (a,v)) (hv : v ≠ 0) : (14 : Int) = balE i := by
  have hmem := List.mem_of_getElem? hm;have h1 := ZbT (z := 0) h.1 hmem;rw [h.2.1] at h1;obtain ⟨p,hp,e⟩ := h.2.2.1 a (List.mem_map_of_mem (f := Prod.fst) hmem);unfold balE;rw [if_pos ⟨p,hp,by rw [e,h1]; exact hv⟩]
theorem bal_ok {i : Itm} {M : List (List UInt8 × Int)} (h : BalM i.po M) (h0 : ∀ x ∈ M,x.2 = 0) : (0 : Int) = balE i := by
  unfold balE;rw [if_neg];rintro ⟨p,hp,hne⟩;refine hne ?_;rw [← h.2.1];exact h0 _ (mget_mem (z := 0) (h.2.2.2 p hp))
theorem take_po {l : List Post} {k : Nat} (h : ∀ p ∈ l, -Mx ≤ p.d ∧ p.d ≤ Mx) : ∀ p ∈ l.take k, -Mx ≤ p.d ∧ p.d ≤ Mx := fun p hp => h p (List.mem_of_mem_take hp)
theorem balanced_p (i : Itm) (hn : i.po.length ≤ 256) (hb : ∀ p ∈ i.po, -Mx ≤ p.d ∧ p.d ≤ Mx) : PCalls Tryz.prog 117 [.d (itmD i)] (intD (balE i)) := by
  refine ZaB Tryz.func117 rfl rfl Tryz.ntmps117 rfl rfl rfl fun F hF => (Zad (Zab ?_));refine Zaj.go (ZaS 1 rfl rfl rfl rfl rfl rfl rfl) (goAs rfl rfl (Zac (Zad (Zab (Zaj.go (st_makeMap 2 rfl rfl rfl rfl) (goAs rfl rfl (Zac (Zad ?_))))))));refine Zad (Zab (Zaa.go (Zag rfl fi91_3 rfl rfl rfl) (Zaa.go (Zah rfl rfl rfl on88 rfl) (Zaa.go (ZaA rfl Tryz.underlying88 rfl) (goMv rfl rfl (Zac (Zam (ZaK (α := Nat × List (List UInt8 × Int)) (fun q => ⟨33,[(3,(.map 2 0)),(10,(.d (.sl none (i.po.map postD)))),(11,(.d (intD (i.po.length : Int)))),(12,(.d (intD (q.1 : Int))))],[(2,[mapC strD intD q.2])]⟩) (fun q => q.1 ≤ i.po.length ∧ BalM (i.po.take q.1) q.2) (fun q => i.po.length - q.1) ((0,[])) (⟨Nat.zero_le _,⟨by simp,by simp [assetSum,mget],by simp,by simp⟩⟩) (Zaq hF [2] rfl rfl ⟨rfl,rfl,rfl,rfl,trivial⟩) ?_))))))));rintro ⟨k,M⟩ ⟨hk0,hM⟩;dsimp only at hk0 hM ⊢;refine Zad (Zab (Zaa.go (ZaI rfl rfl rfl) (Zac (Zad (ZaF rfl (fun h13 => ?_) (fun h13 => ?_))))))
  · have hk1 : k < i.po.length := ZaN h13;refine Zap (Zad (Zam (Zad (Zab ?_))));have hbk := hb _ (List.getElem_mem hk1);have hgb := assetSum_bound (i.po.take k) i.po[k].acc.a (take_po hb);rw [← hM.2.1,List.length_take] at hgb;simp only [Mx] at hbk;refine Zaa.go (Zat (k) rfl rfl (rfl) (getm hk1) Tryz.underlying88 rfl sz144 rfl) (Zaa.go (ZaC rfl rfl rw144 rfl) ?_);refine Zaj.go (ZaQ 3 zl144 rfl rfl rfl rfl) (Zaj.go (Zaz rfl rfl rfl rfl rfl rfl rfl sz144) (Zac (Zab (goMv rfl rfl (Zaa.go (Zag rfl fi144_0 rfl rfl rfl) (Zaa.go (Zag rfl fi49_2 rfl rfl rfl) (Zaa.go (Zah rfl rfl rfl on9 rfl) (Zaa.go (Zbw (M) (i.po[k].acc.a) (0) _ rfl rfl rfl mt212 kt9 za2 rfl rfl) ?_))))))));refine Zaa.go (Zag rfl fi144_1 rfl rfl rfl) (Zaa.go (Zah rfl rfl rfl on2 rfl) (Zaa.go (Zay rfl rfl (IntWalk.i64_in _ (by omega)) rfl) (Zaj.go (st_mapU (M) (i.po[k].acc.a) (mget M i.po[k].acc.a 0 + i.po[k].d) rfl rfl rfl mt212 kt9 rfl rfl) (Zac (Zab (Zaa.go (Zay rfl rfl (wrapS (k + 1) (by omega)) rfl) (goMv rfl rfl (Zac ?_))))))));exact ⟨(k + 1,_),⟨by show k + 1 ≤ _; omega,by have := hM.snoc i.po[k]; rwa [← List.take_succ_eq_append_getElem hk1] at this⟩,by show i.po.length - (k + 1) < i.po.length - k; omega,Zaq hF [2] rfl (rfl) ⟨rfl,rfl,rfl,rfl,trivial⟩⟩
  · refine ZaL (Zad (Zad ?_));have hM' : BalM i.po M := by rw [List.take_of_length_le (by have h := h13; omega)] at hM; exact hM
    refine Zab (goMv rfl rfl (Zaj.go (st_range 4 rfl rfl rfl mt212 rfl rfl rfl rfl) (Zac (Zam (ZaK (α := List Nat) (fun seen => ⟨33,[(26,(.ptr 4 0 0))],[(4,[.iter 2 0 M.length seen]),(2,[mapC strD intD M])]⟩) (fun seen => ∀ x ∈ M,x ∈ lft M (List.range M.length) seen ∨ x.2 = 0) (fun seen => (lft M (List.range M.length) seen).length) ([]) (fun x hx => .inl (by rw [lft_start (by simp)]; exact hx)) (Zaq hF [4,2] rfl rfl ⟨rfl,trivial⟩) ?_)))));intro seen hI;refine Zad (Zab (o_next (M) rfl rfl rfl rfl (fun hl27 => ?_) (fun j27 b27 k27 v27 hm27 hb27 hB27 hp27 => ⟨_,rfl, ?_⟩)))
    · refine Zaa.go (Za6 rfl rfl rfl) ?_;refine Zac (Zad (Za9 rfl rfl (ZaL (Zad (Zab (goAs rfl rfl (Zac (Zao ?_))))))));exact ⟨_,[],[],Zak rfl,rfl,rfl,retI (bal_ok hM' fun x hx => (hI x hx).elim (fun h => by rw [hl27] at h; cases h) id),rfl⟩
    · refine Zaa.go (Za6 rfl rfl rfl) (Zac (Zad (ZaU rfl rfl (Zap (Zam (Zad (Zab (Zaa.go (st_entry (M) j27 b27 rfl rfl rfl hm27 hb27 rfl) ?_))))))));refine Zaa.go (Za6 rfl rfl rfl) (goAs rfl rfl (Zac (Zad (Zab (goMv rfl rfl (Zaa.go (Zbi rfl rfl rfl) (Zac (ZaF rfl (fun h32 => ?_) (fun h32 => ?_)))))))))
      · refine Zad (Zab (goAs rfl rfl (Zac (Zao ?_))));exact ⟨_,[],[],Zak rfl,rfl,rfl,retI (bal_bad hM' hm27 h32),rfl⟩
      · refine Zap ?_;exact ⟨seen ++ [b27],fun x hx => (hI x hx).elim (fun h => (List.mem_cons.1 (hp27.mem_iff.1 h)).elim (fun e => .inr (by rw [e]; simpa using h32)) .inl) .inr,by rw [hp27.length_eq]; exact Nat.lt_succ_self _,Zaq hF [4,2] rfl (rfl) ⟨rfl,trivial⟩⟩
abbrev acc0 : Acc := ⟨[],0,[]⟩
abbrev rPost (p : Post) : Rsc := ⟨0,p.acc,[],[]⟩
abbrev rBil (f t : List UInt8) : Rsc := ⟨1,acc0,f,t⟩
abbrev rMul (f : List UInt8) : Rsc := ⟨2,acc0,f,[]⟩
def addL (M : List (Rsc × Int)) (x : Rsc × Int) : List (Rsc × Int) := mput M x.1 (mget M x.1 0 + x.2)
def ctrP (l : List Post) : List (Rsc × Int) := l.map fun p => (rPost p,p.d)
def ctr1 (p : Pay) : List (Rsc × Int) := [(rBil p.f p.t, -p.n),(rBil p.t p.f,p.n),(rMul p.f, -p.n),(rMul p.t,p.n)]
def ctrY (l : List Pay) : List (Rsc × Int) := l.flatMap ctr1
def ctr (i : Itm) : List (Rsc × Int) := ctrP i.po ++ ctrY i.pa
def sumL (l : List (Rsc × Int)) : List (Rsc × Int) := l.foldl addL []
def ctrSum (l : List (Rsc × Int)) (r : Rsc) : Int := (l.map fun x => if x.1 = r then x.2 else 0).sum
theorem ZbE (l : List (Rsc × Int)) (x : Rsc × Int) : sumL (l ++ [x]) = addL (sumL l) x := by simp [sumL]
theorem ctrSum_append (l m : List (Rsc × Int)) (r : Rsc) : ctrSum (l ++ m) r = ctrSum l r + ctrSum m r := by simp [ctrSum]
theorem ctrSum_one (x : Rsc × Int) (r : Rsc) : ctrSum [x] r = if x.1 = r then x.2 else 0 := by simp [ctrSum]
theorem ZbZ {α : Type} {p : List α → Prop} (h0 : p []) (h1 : ∀ l x,p l → p (l ++ [x])) (l : List α) : p l := by
  have : ∀ m : List α,p m.reverse := fun m => by
    induction m with
    | nil => exact h0
    | cons x r ih => rw [List.reverse_cons]; exact h1 _ _ ih
  have := this l.reverse
  rwa [List.reverse_reverse] at this
theorem sumL_get (l : List (Rsc × Int)) (r : Rsc) : mget (sumL l) r 0 = ctrSum l r := by
  revert r
  refine ZbZ (p := fun l => ∀ r,mget (sumL l) r 0 = ctrSum l r) (fun r => rfl) (fun l x ih r => ?_) l;rw [ZbE,addL,mget_put,ctrSum_append,ctrSum_one]
  split
  · rename_i h; rw [ih,h,if_pos rfl]
  · rename_i h; rw [ih,if_neg (fun e => h e.symm)]; omega
theorem sumL_nodup (l : List (Rsc × Int)) : ((sumL l).map Prod.fst).Nodup :=
  ZbZ (p := fun l => ((sumL l).map Prod.fst).Nodup) (by simp [sumL]) (fun l x ih => by rw [ZbE]; exact mput_nodup ih) l
theorem sumL_keys (l : List (Rsc × Int)) (r : Rsc) : r ∈ (sumL l).map Prod.fst ↔ r ∈ l.map Prod.fst := by
  refine ZbZ (p := fun l => r ∈ (sumL l).map Prod.fst ↔ r ∈ l.map Prod.fst) (by simp [sumL]) (fun l x ih => ?_) l;rw [ZbE,addL,mem_put,ih]
  simp [or_comm]
def Bnd (l : List (Rsc × Int)) : Prop := ∀ x ∈ l, -1000000000000000 ≤ x.2 ∧ x.2 ≤ 1000000000000000
theorem ctrSum_bound {l : List (Rsc × Int)} (h : Bnd l) (r : Rsc) : -(l.length * 1000000000000000) ≤ ctrSum l r ∧ ctrSum l r ≤ l.length * 1000000000000000 := by
  induction l with
  | nil => simp [ctrSum]
  | cons x l ih =>
    have h1 := ih fun q hq => h q (by simp [hq]);have h2 := h x (by simp);have e : ctrSum (x :: l) r = (if x.1 = r then x.2 else 0) + ctrSum l r := by simp [ctrSum]
    have e2 : ((x :: l).length : Int) = l.length + 1 := by simp
    rw [e,e2]
    split <;> omega
structure ItmB (i : Itm) : Prop where
  po : i.po.length ≤ 256
  pa : i.pa.length ≤ 256
  af : i.af.length ≤ 256
  d : ∀ p ∈ i.po, -Mx ≤ p.d ∧ p.d ≤ Mx
  n : ∀ p ∈ i.pa,0 ≤ p.n ∧ p.n ≤ Mx
theorem ctrY_length (l : List Pay) : (ctrY l).length = 4 * l.length := by
  induction l with
  | nil => rfl
  | cons p r ih => simp only [ctrY,List.flatMap_cons,List.length_append,List.length_cons] at ih ⊢; rw [ih]; simp [ctr1]; omega
theorem bnd_P {l : List Post} (h : ∀ p ∈ l, -Mx ≤ p.d ∧ p.d ≤ Mx) : Bnd (ctrP l) := fun x hx => by
  obtain ⟨p,hp,rfl⟩ := List.mem_map.1 hx;have := h p hp;simp only [Mx] at this;exact this
theorem bnd_1 {p : Pay} (h : 0 ≤ p.n ∧ p.n ≤ Mx) : Bnd (ctr1 p) := fun x hx => by
  simp only [Mx] at h;simp only [ctr1,List.mem_cons,List.not_mem_nil,or_false] at hx;rcases hx with rfl | rfl | rfl | rfl <;> simp only <;> omega
theorem bnd_Y {l : List Pay} (h : ∀ p ∈ l,0 ≤ p.n ∧ p.n ≤ Mx) : Bnd (ctrY l) := fun x hx => by
  obtain ⟨p,hp,hx⟩ := List.mem_flatMap.1 hx;exact bnd_1 (h p hp) x hx
theorem Bnd.append {l m : List (Rsc × Int)} (h : Bnd l) (h' : Bnd m) : Bnd (l ++ m) := fun x hx => (List.mem_append.1 hx).elim (h x) (h' x)
theorem Bnd.take {l : List (Rsc × Int)} (h : Bnd l) (k : Nat) : Bnd (l.take k) := fun x hx => h x (List.mem_of_mem_take hx)
theorem sumL_small {l : List (Rsc × Int)} (h : Bnd l) (hl : l.length ≤ 2000) (r : Rsc) : -2000000000000000000 ≤ mget (sumL l) r 0 ∧ mget (sumL l) r 0 ≤ 2000000000000000000 := by
  have := ctrSum_bound h r;rw [sumL_get]; omega
theorem ctrP_snoc {l : List Post} {k : Nat} (hk : k < l.length) : ctrP (l.take (k + 1)) = ctrP (l.take k) ++ [(rPost l[k],l[k].d)] := by
  simp only [ctrP]; rw [List.take_succ_eq_append_getElem hk,List.map_append]; rfl
theorem ctrY_snoc {l : List Pay} {k : Nat} (hk : k < l.length) : ctrY (l.take (k + 1)) = ctrY (l.take k) ++ ctr1 l[k] := by
  simp only [ctrY]; rw [List.take_succ_eq_append_getElem hk,List.flatMap_append]; simp
def st1 (M : List (Rsc × Int)) (p : Pay) : List (Rsc × Int) := mput M (rBil p.f p.t) (mget M (rBil p.f p.t) 0 - p.n)
def st2 (M : List (Rsc × Int)) (p : Pay) : List (Rsc × Int) := mput M (rBil p.t p.f) (mget M (rBil p.t p.f) 0 + p.n)
def st3 (M : List (Rsc × Int)) (p : Pay) : List (Rsc × Int) := mput M (rMul p.f) (mget M (rMul p.f) 0 - p.n)
def st4 (M : List (Rsc × Int)) (p : Pay) : List (Rsc × Int) := mput M (rMul p.t) (mget M (rMul p.t) 0 + p.n)
theorem st_all {l : List (Rsc × Int)} {p : Pay} {M : List (Rsc × Int)} (h : M = sumL l) : st1 M p = sumL (l ++ [(rBil p.f p.t, -p.n)]) ∧ st2 (st1 M p) p = sumL (l ++ [(rBil p.f p.t, -p.n),(rBil p.t p.f,p.n)]) ∧ st3 (st2 (st1 M p) p) p = sumL (l ++ [(rBil p.f p.t, -p.n),(rBil p.t p.f,p.n),(rMul p.f, -p.n)]) ∧ st4 (st3 (st2 (st1 M p) p) p) p = sumL (l ++ ctr1 p) := by
  subst h;have e : ∀ (l : List (Rsc × Int)) (x : Rsc × Int) (r : List (Rsc × Int)),l ++ x :: r = (l ++ [x]) ++ r := by simp
  refine ⟨?_, ?_, ?_, ?_⟩
  · rw [ZbE]; rfl
  · rw [e,ZbE,ZbE]; rfl
  · rw [e,e,ZbE,ZbE,ZbE]; rfl
  · rw [ctr1,e,e,e,ZbE,ZbE,ZbE,ZbE]; rfl
theorem st_small {l : List (Rsc × Int)} {p : Pay} {M : List (Rsc × Int)} (h : M = sumL l) (hb : Bnd l) (hl : l.length ≤ 1900) (hp : 0 ≤ p.n ∧ p.n ≤ Mx) (r : Rsc) : (-2000000000000000000 ≤ mget M r 0 ∧ mget M r 0 ≤ 2000000000000000000) ∧ (-2000000000000000000 ≤ mget (st1 M p) r 0 ∧ mget (st1 M p) r 0 ≤ 2000000000000000000) ∧ (-2000000000000000000 ≤ mget (st2 (st1 M p) p) r 0 ∧ mget (st2 (st1 M p) p) r 0 ≤ 2000000000000000000) ∧ (-2000000000000000000 ≤ mget (st3 (st2 (st1 M p) p) p) r 0 ∧ mget (st3 (st2 (st1 M p) p) p) r 0 ≤ 2000000000000000000) := by
  obtain ⟨e1,e2,e3,_⟩ := st_all (p := p) h;have hb4 := bnd_1 hp;rw [e3,e2,e1,h];refine ⟨sumL_small hb (by omega) r,sumL_small (hb.append fun x hx => hb4 x ?_) (by simp; omega) r,sumL_small (hb.append fun x hx => hb4 x ?_) (by simp; omega) r,sumL_small (hb.append fun x hx => hb4 x ?_) (by simp; omega) r⟩
  all_goals
    simp only [ctr1,List.mem_cons,List.not_mem_nil,or_false] at hx ⊢
    first
      | exact .inl hx
      | exact hx.elim .inl fun h => .inr (.inl h)
      | exact hx.elim .inl fun h => h.elim (fun h => .inr (.inl h)) fun h => .inr (.inr (.inl h))
set_option maxHeartbeats 1000000 in
theorem sums_c (i : Itm) (hi : ItmB i) : ACalls Tryz.prog 98 [.d (itmD i)] [] fun r H' => r = .map 2 0 ∧ H' = [(2,[mapC rscD intD (sumL (ctr i))])] := by
  have hpo := hi.po;have hpa := hi.pa;refine ZaB Tryz.func98 rfl rfl Tryz.ntmps98 rfl rfl rfl fun F hF => (Zad (Zab ?_));refine Zaj.go (ZaS 1 rfl rfl rfl rfl rfl rfl rfl) (goAs rfl rfl (Zac (Zad (Zab (Zaj.go (st_makeMap 2 rfl rfl rfl rfl) (goAs rfl rfl (Zac (Zad ?_))))))));refine Zad (Zab (Zaa.go (Zag rfl fi91_3 rfl rfl rfl) (Zaa.go (Zah rfl rfl rfl on88 rfl) (Zaa.go (ZaA rfl Tryz.underlying88 rfl) (goMv rfl rfl (Zac (Zam (ZaK (α := Nat × List (Rsc × Int)) (fun q => ⟨80,[(1,(.ptr 1 0 0)),(3,(.map 2 0)),(10,(.d (.sl none (i.po.map postD)))),(11,(.d (intD (i.po.length : Int)))),(12,(.d (intD (q.1 : Int))))],[(2,[mapC rscD intD q.2]),(1,[.blk 91 [.d (intD i.id), .d (intD i.pr), .d (intD i.sq), .d (.sl none (i.po.map postD)), .d (.sl none (i.pa.map payD)), .d (.sl none (i.af.map intD))]])]⟩) (fun q => q.1 ≤ i.po.length ∧ q.2 = sumL (ctrP (i.po.take q.1))) (fun q => i.po.length - q.1) ((0,[])) (⟨Nat.zero_le _,rfl⟩) (Zaq hF [2,1] rfl rfl ⟨rfl,rfl,rfl,rfl,rfl,trivial⟩) ?_))))))));rintro ⟨k,M⟩ ⟨hk0,hM⟩;dsimp only at hk0 hM ⊢;refine Zad (Zab (Zaa.go (ZaI rfl rfl rfl) (Zac (Zad (ZaF rfl (fun h13 => ?_) (fun h13 => ?_))))))
  · have hk1 : k < i.po.length := ZaN h13;refine Zap (Zad (Zam (Zad (Zab ?_))));have hbk := hi.d _ (List.getElem_mem hk1);simp only [Mx] at hbk;have hgb := sumL_small (l := ctrP (i.po.take k)) (bnd_P (take_po hi.d)) (by simp [ctrP]; omega) (rPost i.po[k]);rw [← hM] at hgb;refine Zaa.go (Zat (k) rfl rfl (rfl) (getm hk1) Tryz.underlying88 rfl sz144 rfl) (Zaa.go (ZaC rfl rfl rw144 rfl) (Zaj.go (ZaQ 3 zl144 rfl rfl rfl rfl) (Zaj.go (Zaz rfl rfl rfl rfl rfl rfl rfl sz144) (Zac (ZaT [[],[],[1],[1,2],[0,1,2,3],[],[5],[0,1,2,3,4,5,6],[0,1,2,3,5,6],[0,1,2,3,5,6,8],[0,1,2,3,4,5,6,7,8,9]] mixed rfl (dws2 2 ([mapC rscD intD (mtouch M (rPost i.po[k]) 0)]) rfl ?_))))));refine Zaf [3] [] rfl rfl (fun _ => Zae (Zar rfl rfl)) (Zaf [5] [] rfl rfl (fun _ => Zae (Zag rfl fi144_0 rfl rfl rfl)) (Zan [17] rfl rfl (fun _ => Zae (Zas rfl rfl rw49 rfl rfl rfl)) (Zaf [18] [] rfl rfl (fun _ => Zae (Za0 zl51 pl51 rfl rfl rfl)) (d_pure2 [16,19] [] rfl rfl rfl (fun _ => Zae (Zbw (M) (rPost i.po[k]) (0) _ rfl rfl rfl mt178 kt51 za2 rfl rfl)) (fun _ => Zae (Zbw (mtouch (M) (rPost i.po[k]) (0)) (rPost i.po[k]) (0) _ rfl rfl rfl mt178 kt51 za2 (mget_touch _ _ _ _) rfl)) (Zaf [5] [] rfl rfl (fun _ => Zae (Zag rfl fi144_1 rfl rfl rfl)) (Zan [21] rfl rfl (fun _ => Zae (Zah rfl rfl rfl on2 rfl)) (Zaf [20,22] [] rfl rfl (fun _ => Zae (Zay rfl rfl (IntWalk.i64_in _ (by omega)) rfl)) (Zbf [16,19] [2] [(24,_)] rfl rfl (fun _ => Za5 (st_mapE (M) (rPost i.po[k]) (0) rfl rfl rfl mt178 kt51 za2 rfl rfl)) (.inr ⟨24,_,rfl,rfl,rfl,rfl,rfl⟩) rfl rfl rfl rfl rfl ?_ (hCn := c2_wr rfl)))))))));refine Zaf [24] [] rfl rfl (fun _ => Zae (Za6 rfl rfl rfl)) (dwc 10 rfl rfl rfl (dw1 11 rfl rfl (Zaj.go (st_entS (M) (rPost i.po[k]) (0) (mget M (rPost i.po[k]) 0 + i.po[k].d) rfl rfl rfl kt51 rfl rfl) (Zac ⟨rfl, ?_⟩))));refine dwe (Zab (Zaa.go (Zay rfl rfl (wrapS (k + 1) (by omega)) rfl) (goMv rfl rfl (Zac ?_))));exact ⟨(k + 1,_),⟨by show k + 1 ≤ _; omega,by show _ = sumL (ctrP (i.po.take (k + 1))); rw [ctrP_snoc hk1,ZbE, ← hM]; rfl⟩,by show i.po.length - (k + 1) < i.po.length - k; omega,Zaq hF [2,1] rfl (rfl) ⟨rfl,rfl,rfl,rfl,rfl,trivial⟩⟩
  · refine ZaL (Zad (Zad ?_));have hM0 : M = sumL (ctrP i.po ++ ctrY (i.pa.take 0)) := by rw [hM,List.take_of_length_le (by have h := h13; omega)]; simp [ctrY]
    refine Zab (Zaa.go (Zag rfl fi91_4 rfl rfl rfl) (Zaa.go (Zah rfl rfl rfl on89 rfl) (Zaa.go (ZaA rfl Tryz.underlying89 rfl) (goMv rfl rfl (Zac (Zam (ZaK (α := Nat × List (Rsc × Int)) (fun q => ⟨80,[(3,(.map 2 0)),(28,(.d (.sl none (i.pa.map payD)))),(29,(.d (intD (i.pa.length : Int)))),(30,(.d (intD (q.1 : Int))))],[(2,[mapC rscD intD q.2])]⟩) (fun q => q.1 ≤ i.pa.length ∧ q.2 = sumL (ctrP i.po ++ ctrY (i.pa.take q.1))) (fun q => i.pa.length - q.1) ((0,M)) (⟨Nat.zero_le _,hM0⟩) (Zaq hF [2] rfl rfl ⟨rfl,rfl,rfl,rfl,trivial⟩) ?_)))))));rintro ⟨m,N⟩ ⟨hm0,hN⟩;dsimp only at hm0 hN ⊢;refine Zad (Zab (Zaa.go (ZaI rfl rfl rfl) (Zac (Zad (ZaF rfl (fun h31 => ?_) (fun h31 => ?_))))))
    · have hm1 : m < i.pa.length := ZaN h31;refine Zap (Zad (Zam (Zad (Zab ?_))));have hbm := hi.n _ (List.getElem_mem hm1);have hsm := st_small hN ((bnd_P hi.d).append (bnd_Y fun q hq => hi.n q (List.mem_of_mem_take hq))) (by rw [List.length_append,ctrY_length]; simp [ctrP]; omega) hbm;simp only [Mx] at hbm;refine Zaa.go (Zat (m) rfl rfl (rfl) (getm hm1) Tryz.underlying89 rfl sz145 rfl) (Zaa.go (ZaC rfl rfl rw145 rfl) (Zaj.go (ZaQ 4 zl145 rfl rfl rfl rfl) (Zaj.go (Zaz rfl rfl rfl rfl rfl rfl rfl sz145) (Zac (Zad (ZaT [[],[],[1],[],[3],[1,2,3,4],[0,1,2,3,4,5],[],[7],[0,1,2,3,4,5,6,7,8],[0,1,2,3,4,5,7,8],[0,1,2,3,4,5,7,8,10],[0,1,2,3,4,5,6,7,8,9,10,11]] mixed rfl (dws2 2 ([mapC rscD intD (mtouch N (rBil i.pa[m].f i.pa[m].t) 0)]) rfl ?_)))))));refine Zaf [3] [] rfl rfl (fun _ => Zae (Zar rfl rfl)) (Zaf [7] [] rfl rfl (fun _ => Zae (Zag rfl fi145_0 rfl rfl rfl)) (Zan [35] rfl rfl (fun _ => Zae (Zah rfl rfl rfl on9 rfl)) (Zaf [7] [] rfl rfl (fun _ => Zae (Zag rfl fi145_1 rfl rfl rfl)) (Zan [37] rfl rfl (fun _ => Zae (Zah rfl rfl rfl on9 rfl)) (Zaf [36,38] [] rfl rfl (fun _ => Zae (Za0 zl51 pl51 rfl rfl rfl)) (d_pure2 [34,39] [] rfl rfl rfl (fun _ => Zae (Zbw (N) (rBil i.pa[m].f i.pa[m].t) (0) _ rfl rfl rfl mt178 kt51 za2 rfl rfl)) (fun _ => Zae (Zbw (mtouch (N) (rBil i.pa[m].f i.pa[m].t) (0)) (rBil i.pa[m].f i.pa[m].t) (0) _ rfl rfl rfl mt178 kt51 za2 (mget_touch _ _ _ _) rfl)) (Zaf [7] [] rfl rfl (fun _ => Zae (Zag rfl fi145_2 rfl rfl rfl)) (Zan [41] rfl rfl (fun _ => Zae (Zah rfl rfl rfl on2 rfl)) ?_))))))));have g := (hsm (rBil i.pa[m].f i.pa[m].t)).1;refine Zaf [40,42] [] rfl rfl (fun _ => Zae (st_sub rfl rfl (IntWalk.i64_in _ (by omega)) rfl)) (Zbf [34,39] [2] [(44,_)] rfl rfl (fun _ => Za5 (st_mapE (N) (rBil i.pa[m].f i.pa[m].t) (0) rfl rfl rfl mt178 kt51 za2 rfl rfl)) (.inr ⟨44,_,rfl,rfl,rfl,rfl,rfl⟩) rfl rfl rfl rfl rfl ?_ (hCn := c2_wr rfl));refine Zaf [44] [] rfl rfl (fun _ => Zae (Za6 rfl rfl rfl)) (dwc 12 rfl rfl rfl (dw1 13 rfl rfl (Zaj.go (st_entS (N) (rBil i.pa[m].f i.pa[m].t) (0) (mget N (rBil i.pa[m].f i.pa[m].t) 0 - i.pa[m].n) rfl rfl rfl kt51 rfl rfl) (Zac ⟨rfl, ?_⟩))));refine dwe (Zad (ZaT [[],[],[1],[],[3],[1,2,3,4],[0,1,2,3,4,5],[],[7],[0,1,2,3,4,5,6,7,8],[0,1,2,3,4,5,7,8],[0,1,2,3,4,5,7,8,10],[0,1,2,3,4,5,6,7,8,9,10,11]] mixed rfl (dws2 2 ([mapC rscD intD (mtouch (st1 N i.pa[m]) (rBil i.pa[m].t i.pa[m].f) 0)]) rfl ?_)));refine Zaf [3] [] rfl rfl (fun _ => Zae (Zar rfl rfl)) (Zaf [7] [] rfl rfl (fun _ => Zae (Zag rfl fi145_1 rfl rfl rfl)) (Zan [47] rfl rfl (fun _ => Zae (Zah rfl rfl rfl on9 rfl)) (Zaf [7] [] rfl rfl (fun _ => Zae (Zag rfl fi145_0 rfl rfl rfl)) (Zan [49] rfl rfl (fun _ => Zae (Zah rfl rfl rfl on9 rfl)) (Zaf [48,50] [] rfl rfl (fun _ => Zae (Za0 zl51 pl51 rfl rfl rfl)) (d_pure2 [46,51] [] rfl rfl rfl (fun _ => Zae (Zbw (st1 N i.pa[m]) (rBil i.pa[m].t i.pa[m].f) (0) _ rfl rfl rfl mt178 kt51 za2 rfl rfl)) (fun _ => Zae (Zbw (mtouch (st1 N i.pa[m]) (rBil i.pa[m].t i.pa[m].f) (0)) (rBil i.pa[m].t i.pa[m].f) (0) _ rfl rfl rfl mt178 kt51 za2 (mget_touch _ _ _ _) rfl)) (Zaf [7] [] rfl rfl (fun _ => Zae (Zag rfl fi145_2 rfl rfl rfl)) (Zan [53] rfl rfl (fun _ => Zae (Zah rfl rfl rfl on2 rfl)) ?_))))))));have g := (hsm (rBil i.pa[m].t i.pa[m].f)).2.1;refine Zaf [52,54] [] rfl rfl (fun _ => Zae (Zay rfl rfl (IntWalk.i64_in _ (by omega)) rfl)) (Zbf [46,51] [2] [(56,_)] rfl rfl (fun _ => Za5 (st_mapE (st1 N i.pa[m]) (rBil i.pa[m].t i.pa[m].f) (0) rfl rfl rfl mt178 kt51 za2 rfl rfl)) (.inr ⟨56,_,rfl,rfl,rfl,rfl,rfl⟩) rfl rfl rfl rfl rfl ?_ (hCn := c2_wr rfl));refine Zaf [56] [] rfl rfl (fun _ => Zae (Za6 rfl rfl rfl)) (dwc 12 rfl rfl rfl (dw1 13 rfl rfl (Zaj.go (st_entS (st1 N i.pa[m]) (rBil i.pa[m].t i.pa[m].f) (0) (mget (st1 N i.pa[m]) (rBil i.pa[m].t i.pa[m].f) 0 + i.pa[m].n) rfl rfl rfl kt51 rfl rfl) (Zac ⟨rfl, ?_⟩))));refine dwe (Zad ?_);refine ZaT [[],[],[1],[1,2],[0,1,2,3],[],[5],[0,1,2,3,4,5,6],[0,1,2,3,5,6],[0,1,2,3,5,6,8],[0,1,2,3,4,5,6,7,8,9]] mixed rfl (dws2 2 ([mapC rscD intD (mtouch (st2 (st1 N i.pa[m]) i.pa[m]) (rMul i.pa[m].f) 0)]) rfl (Zaf [3] [] rfl rfl (fun _ => Zae (Zar rfl rfl)) (Zaf [7] [] rfl rfl (fun _ => Zae (Zag rfl fi145_0 rfl rfl rfl)) (Zan [59] rfl rfl (fun _ => Zae (Zah rfl rfl rfl on9 rfl)) (Zaf [60] [] rfl rfl (fun _ => Zae (Za0 zl51 pl51 rfl rfl rfl)) (d_pure2 [58,61] [] rfl rfl rfl (fun _ => Zae (Zbw (st2 (st1 N i.pa[m]) i.pa[m]) (rMul i.pa[m].f) (0) _ rfl rfl rfl mt178 kt51 za2 rfl rfl)) (fun _ => Zae (Zbw (mtouch (st2 (st1 N i.pa[m]) i.pa[m]) (rMul i.pa[m].f) (0)) (rMul i.pa[m].f) (0) _ rfl rfl rfl mt178 kt51 za2 (mget_touch _ _ _ _) rfl)) (Zaf [7] [] rfl rfl (fun _ => Zae (Zag rfl fi145_2 rfl rfl rfl)) (Zan [63] rfl rfl (fun _ => Zae (Zah rfl rfl rfl on2 rfl)) ?_))))))));have g := (hsm (rMul i.pa[m].f)).2.2.1;refine Zaf [62,64] [] rfl rfl (fun _ => Zae (st_sub rfl rfl (IntWalk.i64_in _ (by omega)) rfl)) (Zbf [58,61] [2] [(66,_)] rfl rfl (fun _ => Za5 (st_mapE (st2 (st1 N i.pa[m]) i.pa[m]) (rMul i.pa[m].f) (0) rfl rfl rfl mt178 kt51 za2 rfl rfl)) (.inr ⟨66,_,rfl,rfl,rfl,rfl,rfl⟩) rfl rfl rfl rfl rfl ?_ (hCn := c2_wr rfl));refine Zaf [66] [] rfl rfl (fun _ => Zae (Za6 rfl rfl rfl)) (dwc 10 rfl rfl rfl (dw1 11 rfl rfl (Zaj.go (st_entS (st2 (st1 N i.pa[m]) i.pa[m]) (rMul i.pa[m].f) (0) (mget (st2 (st1 N i.pa[m]) i.pa[m]) (rMul i.pa[m].f) 0 - i.pa[m].n) rfl rfl rfl kt51 rfl rfl) (Zac ⟨rfl, ?_⟩))));refine dwe ?_;refine ZaT [[],[],[1],[1,2],[0,1,2,3],[],[5],[0,1,2,3,4,5,6],[0,1,2,3,5,6],[0,1,2,3,5,6,8],[0,1,2,3,4,5,6,7,8,9]] mixed rfl (dws2 2 ([mapC rscD intD (mtouch (st3 (st2 (st1 N i.pa[m]) i.pa[m]) i.pa[m]) (rMul i.pa[m].t) 0)]) rfl (Zaf [3] [] rfl rfl (fun _ => Zae (Zar rfl rfl)) (Zaf [7] [] rfl rfl (fun _ => Zae (Zag rfl fi145_1 rfl rfl rfl)) (Zan [69] rfl rfl (fun _ => Zae (Zah rfl rfl rfl on9 rfl)) (Zaf [70] [] rfl rfl (fun _ => Zae (Za0 zl51 pl51 rfl rfl rfl)) (d_pure2 [68,71] [] rfl rfl rfl (fun _ => Zae (Zbw (st3 (st2 (st1 N i.pa[m]) i.pa[m]) i.pa[m]) (rMul i.pa[m].t) (0) _ rfl rfl rfl mt178 kt51 za2 rfl rfl)) (fun _ => Zae (Zbw (mtouch (st3 (st2 (st1 N i.pa[m]) i.pa[m]) i.pa[m]) (rMul i.pa[m].t) (0)) (rMul i.pa[m].t) (0) _ rfl rfl rfl mt178 kt51 za2 (mget_touch _ _ _ _) rfl)) (Zaf [7] [] rfl rfl (fun _ => Zae (Zag rfl fi145_2 rfl rfl rfl)) (Zan [73] rfl rfl (fun _ => Zae (Zah rfl rfl rfl on2 rfl)) ?_))))))));have g := (hsm (rMul i.pa[m].t)).2.2.2;refine Zaf [72,74] [] rfl rfl (fun _ => Zae (Zay rfl rfl (IntWalk.i64_in _ (by omega)) rfl)) (Zbf [68,71] [2] [(76,_)] rfl rfl (fun _ => Za5 (st_mapE (st3 (st2 (st1 N i.pa[m]) i.pa[m]) i.pa[m]) (rMul i.pa[m].t) (0) rfl rfl rfl mt178 kt51 za2 rfl rfl)) (.inr ⟨76,_,rfl,rfl,rfl,rfl,rfl⟩) rfl rfl rfl rfl rfl ?_ (hCn := c2_wr rfl));refine Zaf [76] [] rfl rfl (fun _ => Zae (Za6 rfl rfl rfl)) (dwc 10 rfl rfl rfl (dw1 11 rfl rfl (Zaj.go (st_entS (st3 (st2 (st1 N i.pa[m]) i.pa[m]) i.pa[m]) (rMul i.pa[m].t) (0) (mget (st3 (st2 (st1 N i.pa[m]) i.pa[m]) i.pa[m]) (rMul i.pa[m].t) 0 + i.pa[m].n) rfl rfl rfl kt51 rfl rfl) (Zac ⟨rfl, ?_⟩))));refine dwe (Zab (Zaa.go (Zay rfl rfl (wrapS (m + 1) (by omega)) rfl) (goMv rfl rfl (Zac ?_))));exact ⟨(m + 1,_),⟨by show m + 1 ≤ _; omega,by show _ = sumL (ctrP i.po ++ ctrY (i.pa.take (m + 1))); rw [ctrY_snoc hm1, ← List.append_assoc]; exact (st_all hN).2.2.2⟩,by show i.pa.length - (m + 1) < i.pa.length - m; omega,Zaq hF [2] rfl (rfl) ⟨rfl,rfl,rfl,rfl,trivial⟩⟩
    · refine ZaL (Zad (Zab (goMv rfl rfl (goAs rfl rfl (Zac (Zao ?_))))));exact ⟨_,[2],_,Zak rfl,rfl,rfl,rfl,by rw [hN,List.take_of_length_le (by have h := h31; omega)] <;> rfl⟩
end Go.Proofs.YtneihdahboilnaaGreat
