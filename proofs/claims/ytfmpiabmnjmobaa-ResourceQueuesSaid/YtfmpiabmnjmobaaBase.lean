/- Words of my own for memory: a slice that reads as a list, a block known whole, append onto a row of the call's own. No program in sight. -/
import Derived.WalkKit
import Derived.WalkSpells
import Derived.WalkLawsBesides
import Derived.Lib.Hide
import Derived.Maps.AppendAt
import Derived.Deep.AppendLies
import Derived.Deep.Draws
import Derived.OwnWalk
import Derived.Lib.BufferRead
import Derived.Lib.LazyBuf
import Derived.Lib.SlBytesConst
import Derived.Deep.QuietTactic
import Derived.BigQuiet
namespace Go.Proofs.Ytfmpiabmnjmobaa
open Go.RowKit

/-- A fact behind a box: no tactic of the walk looks in (Lib.hid's Hid is opened by 'contradiction'). -/
structure Box (p : Prop) : Prop where
  out : p

/-- A walk stands still here: 'go_wp2_with (at_builtin; refine stop_here ?_)'. -/
structure Stop (p : Prop) : Prop where
  out : p
theorem stop_here {p : Prop} (h : Stop p) : p := h.out

/-- A new name for a term, with its equation: 'generalize' is undone in the proof's term (the term is put back wherever the name stood), this is not. -/
theorem gen {α : Sort _} (x : α) : ∃ y, y = x := ⟨x, rfl⟩

theorem ret_int {k : IntKind} {a b : Int} (h : a = b) : Ending.returned (.int k a) = .returned (.int k b) := by rw [h]
theorem ret_val {a b : Value} (h : a = b) : Ending.returned a = .returned b := by rw [h]

theorem block_of_add (a : Addr) (n : Nat) : (a.add n).block = a.block := by unfold Addr.add; split <;> rfl
theorem add_of_add (a : Addr) (i j : Nat) : (a.add i).add j = a.add (i + j) := by
  unfold Addr.add
  by_cases hi : i = 0 <;> by_cases hj : j = 0 <;> simp [hi, hj, Nat.add_assoc]

def Reads (w : World) (B size : Nat) (A : Option Addr) (n : Nat) (xs : List Value) : Prop :=
  xs.length = n * size ∧ (0 < n → ∃ ad, A = some ad ∧ ad.block < B ∧ ∀ j u, xs[j]? = some u → w.cell? (ad.add j) = some u)

section
variable {w w' : World} {B B' size n : Nat} {A : Option Addr} {xs : List Value}
theorem Reads.none_ : Reads w B size A 0 [] := ⟨by simp, fun h => absurd h (by omega)⟩
theorem Reads.at_ {k : Nat} (h : Reads w B 1 A n xs) (hk : k < n) : ∃ ad u, A = some ad ∧ ad.block < B ∧ xs[k]? = some u ∧ w.cell? (ad.add k) = some u := by
  obtain ⟨ad, e, hb, hc⟩ := h.2 (by omega)
  have hl : k < xs.length := by have := h.1; omega
  exact ⟨ad, xs[k], e, hb, List.getElem?_eq_getElem hl, hc k _ (List.getElem?_eq_getElem hl)⟩
/-- The address taken apart: the walk writes it so. -/
theorem Reads.spot {k : Nat} (h : Reads w B 1 A n xs) (hk : k < n) : ∃ b off u, A = some ⟨b, off, none⟩ ∧ b < B ∧ xs[k]? = some u ∧ w.cell? ⟨b, off + k, none⟩ = some u := by
  obtain ⟨⟨b, off, sp⟩, u, rfl, hb, hu, hc⟩ := h.at_ hk
  obtain ⟨_, u0, e, _, _, hc0⟩ := h.at_ (show 0 < n by omega)
  injection e with e
  subst e
  have hs : sp = none := by simpa [Addr.add] using World.cell?_spot hc0
  subst hs
  refine ⟨b, off, u, rfl, hb, hu, ?_⟩
  rw [← hc]
  unfold Addr.add
  split
  · next h0 => subst h0; rfl
  · rfl
theorem Reads.keep (h : Reads w B size A n xs) (hk : ∀ p : Addr, p.block < B → w'.cell? p = w.cell? p) : Reads w' B size A n xs :=
  ⟨h.1, fun hn => by
    obtain ⟨ad, e, hb, hc⟩ := h.2 hn
    exact ⟨ad, e, hb, fun j u hu => (hk _ (by rw [block_of_add]; exact hb)).trans (hc j u hu)⟩⟩
theorem Reads.more (h : Reads w B size A n xs) (hB : B ≤ B') : Reads w B' size A n xs :=
  ⟨h.1, fun hn => by
    obtain ⟨ad, e, hb, hc⟩ := h.2 hn
    exact ⟨ad, e, by omega, hc⟩⟩
theorem Reads.below (h : Reads w B size A n xs) (hb : Below B w w') : Reads w' B size A n xs := h.keep fun _ hp => hb.cell hp
theorem Reads.drew (h : Reads w B size A n xs) : Reads w.drew B size A n xs := h
theorem Reads.drewN (h : Reads w B size A n xs) (k : Nat) : Reads (w.drewN k) B size A n xs := h
theorem Reads.alloc (h : Reads w B size A n xs) (hB : B ≤ w.heap.size) (o : Obj) : Reads (w.alloc o) B size A n xs := h.keep fun p hp => World.cell?_alloc_lt w o p (by omega)
theorem Reads.setCell (h : Reads w B size A n xs) {p : Addr} (hB : B ≤ p.block) (u : Value) : Reads (w.setCell p u) B size A n xs :=
  h.keep fun q hq => World.cell?_setCell_other w p q u (fun e => by subst e; omega)
theorem Reads.grown (h : Reads w B size A n xs) {row : Option Nat} (hg : w.grownBy w' row) (hB : B ≤ w.heap.size) (hr : ∀ g, row = some g → B ≤ g) : Reads w' B size A n xs :=
  h.keep fun p hp => World.cell?_of_block (hg.block p.block (by omega) (fun e => by have := hr _ e.symm; omega))
theorem Reads.cut (h : Reads w B size A n xs) {k cap : Nat} (hk : k ≤ n) (hc : n ≤ cap) :
    Reads w B size (if cap = k then A else A.map (·.add (k * size))) (n - k) (xs.drop (k * size)) := by
  refine ⟨by rw [List.length_drop, h.1, Nat.sub_mul], fun hn => ?_⟩
  obtain ⟨ad, rfl, hb, hcell⟩ := h.2 (by omega)
  rw [if_neg (by omega)]
  refine ⟨ad.add (k * size), rfl, by rw [block_of_add]; exact hb, fun j u hu => ?_⟩
  rw [add_of_add]
  exact hcell _ u (by rw [← hu, List.getElem?_drop])
theorem Reads.of_own {base : Nat} {e : TypeId} {c : Nat} (h : w.ownsRow base e size (.slice A n c) n xs) : Reads w w.heap.size size A n xs := by
  refine ⟨h.1, fun hn => ?_⟩
  obtain ⟨g, cap, hv, _, hlt⟩ := h.form hn
  have hA : A = some ⟨g, 0, none⟩ := by injection hv
  subst hA
  exact ⟨_, rfl, hlt, h.cells (g := g) rfl⟩
end

def Blk (w : World) (g : Nat) (t : TypeId) (cs : Array Value) : Prop := w.heap[g]? = some (.cells cs t (0, 0))

section
variable {w w' : World} {g : Nat} {t : TypeId} {cs : Array Value}
theorem Blk.lt (h : Blk w g t cs) : g < w.heap.size := by
  rcases Nat.lt_or_ge g w.heap.size with hlt | hge
  · exact hlt
  · unfold Blk at h; rw [Array.getElem?_eq_none hge] at h; cases h
theorem Blk.cell (h : Blk w g t cs) (i : Nat) : w.cell? ⟨g, i, none⟩ = cs[i]? := cell_of_row w g i cs t (0, 0) h
theorem Blk.frozen (h : Blk w g t cs) (i : Nat) : w.frozen? ⟨g, i, none⟩ = false := by
  unfold Blk at h
  simp [World.frozen?, h]
theorem Blk.new (w : World) (t : TypeId) (cs : Array Value) : Blk (w.alloc (.cells cs t)) w.heap.size t cs := heap_alloc_new w _
theorem Blk.drew (h : Blk w g t cs) : Blk w.drew g t cs := h
theorem Blk.drewN (h : Blk w g t cs) (n : Nat) : Blk (w.drewN n) g t cs := h
theorem Blk.alloc (h : Blk w g t cs) (o : Obj) : Blk (w.alloc o) g t cs := (Below.heap_alloc w o g h.lt).trans h
theorem Blk.set_ (h : Blk w g t cs) (i : Nat) (u : Value) : Blk (w.setCell ⟨g, i, none⟩ u) g t (cs.setIfInBounds i u) := by
  unfold Blk at h ⊢
  simp [World.setCell, Array.getElem?_modify, h]
theorem Blk.far (h : Blk w g t cs) {p : Addr} (hp : g ≠ p.block) (u : Value) : Blk (w.setCell p u) g t cs := (Below.heap_setCell w p u g hp).trans h
theorem Blk.below {B : Nat} (h : Blk w g t cs) (hb : Below B w w') (hg : g < B) : Blk w' g t cs := (hb.block g hg).trans h
theorem Blk.grown {row : Option Nat} (h : Blk w g t cs) (hb : w.grownBy w' row) (hg : some g ≠ row) : Blk w' g t cs := (hb.block g h.lt hg).trans h
theorem Blk.set_row (h : Blk w g t cs) (cs' : Array Value) : Blk (w.setRow g cs') g t cs' := setRow_heap w g cs cs' t (0, 0) h
theorem Blk.ne_ {g' : Nat} {t' : TypeId} {cs' : Array Value} (h : Blk w g t cs) (h' : Blk w g' t' cs') (hne : t ≠ t') : g ≠ g' := by
  rintro rfl
  unfold Blk at h h'
  rw [h] at h'
  injection h' with h'
  injection h' with _ ht
  exact hne ht
theorem own_blk_ne {base : Nat} {e : TypeId} {size n : Nat} {v : Value} {xs : List Value} (h : w.ownsRow base e size v n xs) (hg : Blk w g t cs) (hne : e ≠ t) : v.ownBlock ≠ some g := by
  rcases h.2 with ⟨rfl, _⟩ | ⟨g', cap, cur, rfl, _, hh, _⟩
  · simp [Value.ownBlock]
  · intro he
    have : g' = g := by simpa [Value.ownBlock] using he
    subst this
    exact Blk.ne_ (t := e) hh hg hne rfl
end

section
variable {P : Program} (w : World)

theorem run_append_of_nil (base : Nat) (t ty e : TypeId) (i : TypeInfo) (size : Nat) (ht : P.underlying t = some (.slice e)) (hi : P.info? e = some i)
    (v : Value) (n : Nat) (xs : List Value) (hown : w.ownsRow base e size v n xs) (c : Nat) : (Builtin.append_ #[t, t] ty #[v, .slice none 0 c]).run P w = .ok v w := by
  rcases hown.2 with ⟨rfl, rfl⟩ | ⟨g, cap, cur, rfl, _, _, hnc, _⟩
  · simp [Builtin.append_, run_underlying ht, sizeOf, typeInfo, hi, Builtin.lenOf, Builtin.firstCells]
  · simp [Builtin.append_, run_underlying ht, sizeOf, typeInfo, hi, Builtin.lenOf, Builtin.firstCells, hnc, storeCells]

theorem run_append_any (base : Nat) (t ty e : TypeId) (i : TypeInfo) (z : Value) (size bytes : Nat) (ht : P.underlying t = some (.slice e)) (hi : P.info? e = some i) (hz : i.zero = some z)
    (hsize : i.size = size) (hby : i.bytes = bytes) (hzs : z.cells.size = size) (hsz : 0 < size)
    (v : Value) (n : Nat) (xs : List Value) (hown : w.ownsRow base e size v n xs)
    (B : Nat) (A : Option Addr) (m c : Nat) (news : List Value) (hr : Reads w B size A m news) (h1 : ∀ u ∈ news, u.oneCell' = true)
    (h63 : n + m ≤ maxLen) (hbytes : (n + m) * bytes ≤ 140737488355328) (hbase : base ≤ w.heap.size) :
    ∃ v' w', (Builtin.append_ #[t, t] ty #[v, .slice A m c]).run P w = .ok v' w' ∧ w'.ownsRow base e size v' (n + m) (xs ++ news) ∧ w.grownBy w' v.ownBlock ∧
      (v'.ownBlock = v.ownBlock ∨ v'.ownBlock = some w.heap.size) := by
  rcases A with _ | ad
  · have hm : m = 0 := by
      rcases Nat.eq_zero_or_pos m with h0 | h0
      · exact h0
      · obtain ⟨ad, h, _⟩ := hr.2 h0
        cases h
    subst hm
    have hn : news = [] := List.eq_nil_of_length_eq_zero (by simpa using hr.1)
    subst hn
    exact ⟨v, w, run_append_of_nil w base t ty e i size ht hi v n xs hown c, by simpa using hown, World.grownBy.refl w _, .inl rfl⟩
  · have hcells : ∀ j u, news[j]? = some u → w.cell? (ad.add j) = some u := by
      intro j u hu
      rcases Nat.eq_zero_or_pos m with h0 | h0
      · subst h0
        have hn : news = [] := List.eq_nil_of_length_eq_zero (by simpa using hr.1)
        subst hn
        simp at hu
      · obtain ⟨ad', h, _, hc⟩ := hr.2 h0
        injection h with h
        subst h
        exact hc j u hu
    obtain ⟨v', w', hrun, h2, h3, _, h5⟩ := run_append_own_at (P := P) w base t ty e i z size bytes ht hi hz hsize hby hzs hsz v n xs hown ad m c news hr.1 hcells h1 h63 hbytes hbase
    exact ⟨v', w', hrun, h2, h3, h5⟩

theorem wp_append_any {o : Oper} {a : Act} {K : Act → World → Prop} {Q : Exit → Act → World → Prop} (s x : Operand) (t : TypeId)
    (ho : o.op = .call { callee := .builtin .append, args := #[s, x], argTypes := #[t, t] })
    (base : Nat) (e : TypeId) (i : TypeInfo) (z : Value) (size bytes : Nat) (ht : P.underlying t = some (.slice e)) (hi : P.info? e = some i) (hz : i.zero = some z)
    (hsize : i.size = size) (hby : i.bytes = bytes) (hzs : z.cells.size = size) (hsz : 0 < size)
    (v : Value) (n : Nat) (xs : List Value) (hs : a.eval s = v) (hown : w.ownsRow base e size v n xs)
    (B : Nat) (A : Option Addr) (m c : Nat) (news : List Value) (hx : a.eval x = .slice A m c) (hr : Reads w B size A m news) (h1 : ∀ u ∈ news, u.oneCell' = true)
    (h63 : n + m ≤ maxLen) (hbytes : (n + m) * bytes ≤ 140737488355328) (hbase : base ≤ w.heap.size)
    (h : ∀ v' w', w'.ownsRow base e size v' (n + m) (xs ++ news) → w.grownBy w' v.ownBlock → (v'.ownBlock = v.ownBlock ∨ v'.ownBlock = some w.heap.size) → K (a.put o.dst v') w') : o.wp P a w K Q := by
  obtain ⟨v', w', hrun, h2, h3, h4⟩ := run_append_any (P := P) w base t o.type e i z size bytes ht hi hz hsize hby hzs hsz v n xs hown B A m c news hr h1 h63 hbytes hbase
  unfold Oper.wp execOp
  simp only [ho, resolve, invoke, builtin, Sem.run_bind, Sem.run_pure, Result.andThen_ok, List.map_toArray, List.map_cons, List.map_nil, hs, hx, hrun]
  exact h v' w' h2 h3 h4

theorem wpList_append_any {ops : Array Oper} {rest : List Oper} {o : Oper} {a : Act} {Q : Exit → Act → World → Prop} (hgd : o.guard = none) (s x : Operand) (t : TypeId)
    (ho : o.op = .call { callee := .builtin .append, args := #[s, x], argTypes := #[t, t] })
    (base : Nat) (e : TypeId) (i : TypeInfo) (z : Value) (size bytes : Nat) (ht : P.underlying t = some (.slice e)) (hi : P.info? e = some i) (hz : i.zero = some z)
    (hsize : i.size = size) (hby : i.bytes = bytes) (hzs : z.cells.size = size) (hsz : 0 < size)
    (v : Value) (n : Nat) (xs : List Value) (hs : a.eval s = v) (hown : w.ownsRow base e size v n xs)
    (B : Nat) (A : Option Addr) (m c : Nat) (news : List Value) (hx : a.eval x = .slice A m c) (hr : Reads w B size A m news) (h1 : ∀ u ∈ news, u.oneCell' = true)
    (h63 : n + m ≤ maxLen) (hbytes : (n + m) * bytes ≤ 140737488355328) (hbase : base ≤ w.heap.size)
    (h : ∀ v' w', w'.ownsRow base e size v' (n + m) (xs ++ news) → w.grownBy w' v.ownBlock → (v'.ownBlock = v.ownBlock ∨ v'.ownBlock = some w.heap.size) → wpList P ops Q rest (a.put o.dst v') w') : wpList P ops Q (o :: rest) a w :=
  wpList_plain hgd fun _ hK => wp_append_any w s x t ho base e i z size bytes ht hi hz hsize hby hzs hsz v n xs hs hown B A m c news hx hr h1 h63 hbytes hbase fun v' w' h2 h3 h4 => hK _ _ (h v' w' h2 h3 h4)

theorem step_append_any {ops : Array Oper} {o : Oper} {a : Act} {K : Act → World → Prop} {Q : Exit → Act → World → Prop} {E : Prop} (hgd : o.guard = none) (s x : Operand) (t : TypeId)
    (ho : o.op = .call { callee := .builtin .append, args := #[s, x], argTypes := #[t, t] })
    (base : Nat) (e : TypeId) (i : TypeInfo) (z : Value) (size bytes : Nat) (ht : P.underlying t = some (.slice e)) (hi : P.info? e = some i) (hz : i.zero = some z)
    (hsize : i.size = size) (hby : i.bytes = bytes) (hzs : z.cells.size = size) (hsz : 0 < size)
    (v : Value) (n : Nat) (xs : List Value) (hs : a.eval s = v) (hown : w.ownsRow base e size v n xs)
    (B : Nat) (A : Option Addr) (m c : Nat) (news : List Value) (hx : a.eval x = .slice A m c) (hr : Reads w B size A m news) (h1 : ∀ u ∈ news, u.oneCell' = true)
    (h63 : n + m ≤ maxLen) (hbytes : (n + m) * bytes ≤ 140737488355328) (hbase : base ≤ w.heap.size)
    (h : ∀ v' w', w'.ownsRow base e size v' (n + m) (xs ++ news) → w.grownBy w' v.ownBlock → (v'.ownBlock = v.ownBlock ∨ v'.ownBlock = some w.heap.size) → K (a.put o.dst v') w') :
    if Region.wanted o (yielded ops a.tmps) = true then Oper.wp P o a w K Q else E := by
  have hw : Region.wanted o (yielded ops a.tmps) = true := by simp [Region.wanted, hgd]
  rw [if_pos hw]
  exact wp_append_any w s x t ho base e i z size bytes ht hi hz hsize hby hzs hsz v n xs hs hown B A m c news hx hr h1 h63 hbytes hbase h
end


theorem bcell {W w1 : World} (hb : Below W.heap.size W w1) : (∀ b o, b < W.heap.size → w1.cell? ⟨b, o, none⟩ = W.cell? ⟨b, o, none⟩) ∧ (∀ b o, b < W.heap.size → w1.frozen? ⟨b, o, none⟩ = W.frozen? ⟨b, o, none⟩) :=
  ⟨fun b o h => hb.cell (p := ⟨b, o, none⟩) h, fun b o h => hb.frozen (p := ⟨b, o, none⟩) h⟩

theorem below_setRow {B g : Nat} {a w : World} (h : Below B a w) (hg : B ≤ g) (cs : Array Value) : Below B a (w.setRow g cs) :=
  ⟨h.os, h.tape, h.output, by simpa [World.setRow] using h.size, fun k hk => (setRow_other w g k cs (by omega)).trans (h.block k hk)⟩
theorem below_drewN {B : Nat} {a w : World} (h : Below B a w) (n : Nat) : Below B a (w.drewN n) := ⟨h.os, h.tape, h.output, h.size, h.block⟩

/-- A slice type and its element's row of the table, in one bundle. -/
structure SlTy (P : Program) (t e : TypeId) (size bytes : Nat) : Prop where
  ht : P.underlying t = some (.slice e)
  info : ∃ (i : TypeInfo) (z : Value), P.info? e = some i ∧ i.zero = some z ∧ i.size = size ∧ i.bytes = bytes ∧ z.cells.size = size
  pos : 0 < size
  pos' : 0 < bytes

section
variable {P : Program} {w : World}
theorem wpList_app {ops : Array Oper} {rest : List Oper} {o : Oper} {a : Act} {Q : Exit → Act → World → Prop} (s x : Operand) {t e : TypeId} {size bytes : Nat} (T : SlTy P t e size bytes)
    (hgd : o.guard = none) (ho : o.op = .call { callee := .builtin .append, args := #[s, x], argTypes := #[t, t] })
    {base : Nat} {v : Value} {n : Nat} {xs : List Value} (hs : a.eval s = v) (hown : w.ownsRow base e size v n xs)
    {B : Nat} {A : Option Addr} {m c : Nat} {news : List Value} (hx : a.eval x = .slice A m c) (hr : Reads w B size A m news) (h1 : ∀ u ∈ news, u.oneCell' = true)
    (hbytes : (n + m) * bytes ≤ 140737488355328) (hbase : base ≤ w.heap.size)
    (h : ∀ v' w', w'.ownsRow base e size v' (n + m) (xs ++ news) → w.grownBy w' v.ownBlock → (v'.ownBlock = v.ownBlock ∨ v'.ownBlock = some w.heap.size) → wpList P ops Q rest (a.put o.dst v') w') :
    wpList P ops Q (o :: rest) a w := by
  obtain ⟨i, z, h1', h2', h3', h4', h5'⟩ := T.info
  have hp := T.pos'
  have hm : n + m ≤ maxLen := by
    have : (n + m) * 1 ≤ (n + m) * bytes := Nat.mul_le_mul_left _ hp
    unfold maxLen; omega
  exact wpList_append_any w hgd s x t ho base e i z size bytes T.ht h1' h2' h3' h4' h5' T.pos v n xs hs hown B A m c news hx hr h1 hm hbytes hbase h
end

section
variable {P : Program}
/-- A local variable of any type: its block, the zero cells said by the caller. -/
theorem wpList_allocT {w : World} {ops : Array Oper} {rest : List Oper} {a : Act} {Q : Exit → Act → World → Prop} {d : Option Tmp} {ty T : TypeId} {pos : String} {aft : Array Edge} {z : Array Value}
    (hz : ∀ w : World, (Instr.alloc T true (.tuple #[])).run P w = .ok (.pointer (some ⟨w.heap.size, 0, none⟩)) (w.alloc (.cells z T)))
    (h : wpList P ops Q rest (a.put d (.pointer (some ⟨w.heap.size, 0, none⟩))) (w.alloc (.cells z T))) : wpList P ops Q (⟨d, .alloc T, ty, pos, aft, none⟩ :: rest) a w :=
  wpList_plain rfl fun _ hK => by
    unfold Oper.wp execOp
    simp only [Sem.run_bind, hz, Result.andThen_ok]
    exact hK _ _ h
/-- A whole row out of, and into, a block that is known whole. -/
theorem wpList_loadRowT {w : World} {ops : Array Oper} {rest : List Oper} {a : Act} {Q : Exit → Act → World → Prop} {d : Option Tmp} {x : Operand} {ty T t : TypeId} {pos : String} {aft : Array Edge} {g : Nat} {cs : Array Value} {ds : TypeDesc}
    (hx : a.eval x = .pointer (some ⟨g, 0, none⟩)) (hg : Blk w g t cs) (hu : P.underlying T = some ds) (hd : (match ds with | .struct _ | .array _ _ => true | _ => false) = true) (hi : (P.info? T).map (·.size) = some cs.size)
    (h : wpList P ops Q rest (a.put d (.agg cs)) w) : wpList P ops Q (⟨d, .load T x, ty, pos, aft, none⟩ :: rest) a w :=
  wpList_load_row rfl T x rfl g hx t cs (0, 0) ds hg hu hd hi h
theorem wpList_storeRowT {w : World} {ops : Array Oper} {rest : List Oper} {a : Act} {Q : Exit → Act → World → Prop} {d : Option Tmp} {x y : Operand} {ty T t : TypeId} {pos : String} {aft : Array Edge} {g : Nat} {cs old : Array Value}
    (hx : a.eval x = .pointer (some ⟨g, 0, none⟩)) (hy : a.eval y = .agg cs) (hg : Blk w g t old) (hi : (P.info? T).map (·.size) = some cs.size) (hs : old.size = cs.size) (h1 : cs.all (·.oneCell') = true)
    (h : wpList P ops Q rest (a.put d undef) (w.setRow g cs)) : wpList P ops Q (⟨d, .store T x y, ty, pos, aft, none⟩ :: rest) a w :=
  wpList_store_row rfl T x y rfl g cs hx hy t old hg hi hs h1 h
end

theorem own_new (w : World) (e : TypeId) (size n : Nat) (cs : Array Value) (hn : n ≤ maxLen) (hs : cs.size = n * size) :
    (w.alloc (.cells cs e)).ownsRow w.heap.size e size (.slice (some ⟨w.heap.size, 0, none⟩) n n) n cs.toList :=
  ⟨by simpa using hs, .inr ⟨w.heap.size, n, cs, rfl, Nat.le_refl _, heap_alloc_new w _, Nat.le_refl _, hn, hs, by rw [← hs, ← Array.length_toList, List.take_length]⟩⟩
/-- What is owned reads as a list. -/
theorem own_reads {w : World} {base : Nat} {e : TypeId} {size n c : Nat} {A : Option Addr} {xs : List Value} (h : w.ownsRow base e size (.slice A n c) n xs) {B : Nat} (hB : w.heap.size ≤ B) : Reads w B size A n xs := (Reads.of_own h).more hB
/-- An owned value is a slice. -/
theorem own_slice {w : World} {base : Nat} {e : TypeId} {size n : Nat} {v : Value} {xs : List Value} (h : w.ownsRow base e size v n xs) : ∃ A c, v = .slice A n c ∧ n ≤ c := by
  rcases h.2 with ⟨rfl, rfl⟩ | ⟨g, cap, cur, rfl, _, _, hc, _⟩
  · exact ⟨none, 0, rfl, Nat.le_refl _⟩
  · exact ⟨_, cap, rfl, hc⟩

theorem own_base {w : World} {base : Nat} {e : TypeId} {size n : Nat} {v : Value} {xs : List Value} (h : w.ownsRow base e size v n xs) {g : Nat} (hg : v.ownBlock = some g) : base ≤ g := by
  rcases h.2 with ⟨rfl, _⟩ | ⟨g', cap, cur, rfl, hb, _⟩
  · simp [Value.ownBlock] at hg
  · simp [Value.ownBlock] at hg; omega
theorem below_own {a w w' : World} {B base : Nat} {e : TypeId} {size n : Nat} {v : Value} {xs : List Value} (h : Below B a w) (hown : w.ownsRow base e size v n xs) (hg : w.grownBy w' v.ownBlock) (hB : B ≤ base) (hbase : base ≤ w.heap.size) : Below B a w' :=
  h.grown hg (by omega) fun _ hk => Nat.le_trans hB (own_base hown hk)
/-- One-cell elements: the length is the list's own. -/
def Own1 (w : World) (base : Nat) (e : TypeId) (v : Value) (xs : List Value) : Prop := w.ownsRow base e 1 v xs.length xs
theorem Own1.nil (w : World) (base : Nat) (e : TypeId) : Own1 w base e (.slice none 0 0) [] := World.ownsRow_nil w base e 1
theorem Own1.new (w : World) (e : TypeId) (cs : Array Value) (hn : cs.size ≤ maxLen) : Own1 (w.alloc (.cells cs e)) w.heap.size e (.slice (some ⟨w.heap.size, 0, none⟩) cs.size cs.size) cs.toList := by
  unfold Own1
  rw [Array.length_toList]
  exact own_new w e 1 cs.size cs hn (by omega)
theorem Own1.slice {w : World} {base : Nat} {e : TypeId} {v : Value} {xs : List Value} (h : Own1 w base e v xs) : ∃ A c, v = .slice A xs.length c ∧ xs.length ≤ c := own_slice h
/-- The slice's own form, its length by the name that the caller gives; what it reads. -/
theorem Own1.form {w : World} {base : Nat} {e : TypeId} {v : Value} {xs : List Value} (h : Own1 w base e v xs) {n : Nat} (hn : xs.length = n) : ∃ A c, v = .slice A n c ∧ n ≤ c ∧ Reads w w.heap.size 1 A n xs := by
  subst hn
  obtain ⟨A, c, e1, hc⟩ := own_slice h
  subst e1
  exact ⟨A, c, rfl, hc, own_reads h (Nat.le_refl _)⟩
theorem Own1.reads {w : World} {base : Nat} {e : TypeId} {A : Option Addr} {n c : Nat} {xs : List Value} (h : Own1 w base e (.slice A n c) xs) {B : Nat} (hB : w.heap.size ≤ B) : Reads w B 1 A n xs ∧ n = xs.length := by
  obtain ⟨A', c', e1, _⟩ := h.slice
  injection e1 with _ e2 _
  subst e2
  exact ⟨own_reads h hB, rfl⟩
theorem Own1.mono {w : World} {base base' : Nat} {e : TypeId} {v : Value} {xs : List Value} (h : Own1 w base e v xs) (hb : base' ≤ base) : Own1 w base' e v xs := by
  refine ⟨h.1, ?_⟩
  rcases h.2 with h' | ⟨g, cap, cur, h1, h2, h3⟩
  · exact .inl h'
  · exact .inr ⟨g, cap, cur, h1, Nat.le_trans hb h2, h3⟩
/-- The same row, its base and its list by other names. -/
theorem Own1.as {w : World} {base base' : Nat} {e : TypeId} {v : Value} {xs xs' : List Value} (h : Own1 w base e v xs) (hb : base = base') (hx : xs = xs') : Own1 w base' e v xs' := by
  subst hb hx; exact h
theorem Own1.alloc {w : World} {base : Nat} {e : TypeId} {v : Value} {xs : List Value} (h : Own1 w base e v xs) (o : Obj) : Own1 (w.alloc o) base e v xs := World.ownsRow.alloc h o
theorem Own1.drewN {w : World} {base : Nat} {e : TypeId} {v : Value} {xs : List Value} (h : Own1 w base e v xs) (n : Nat) : Own1 (w.drewN n) base e v xs := h
theorem Own1.below {w w' : World} {base : Nat} {e : TypeId} {v : Value} {xs : List Value} (h : Own1 w base e v xs) (hb : Below w.heap.size w w') : Own1 w' base e v xs := by
  refine ⟨h.1, ?_⟩
  rcases h.2 with h' | ⟨g, cap, cur, h1, h2, h3, h4⟩
  · exact .inl h'
  · have hlt : g < w.heap.size := by
      rcases Nat.lt_or_ge g w.heap.size with hlt | hge
      · exact hlt
      · rw [Array.getElem?_eq_none hge] at h3; cases h3
    exact .inr ⟨g, cap, cur, h1, h2, (hb.block g hlt).trans h3, h4⟩
/-- Another row grows: this one, in another block, stays. -/
theorem Own1.grown {w w' : World} {base : Nat} {e : TypeId} {v : Value} {xs : List Value} (h : Own1 w base e v xs) {row : Option Nat} (hg : w.grownBy w' row) (hne : ∀ g, v.ownBlock = some g → row ≠ some g) : Own1 w' base e v xs := by
  refine ⟨h.1, ?_⟩
  rcases h.2 with h' | ⟨g, cap, cur, h1, h2, h3, h4⟩
  · exact .inl h'
  · have hlt : g < w.heap.size := by
      rcases Nat.lt_or_ge g w.heap.size with hlt | hge
      · exact hlt
      · rw [Array.getElem?_eq_none hge] at h3; cases h3
    exact .inr ⟨g, cap, cur, h1, h2, (hg.block g hlt (fun e => hne g (by rw [h1]; rfl) e.symm)).trans h3, h4⟩
theorem Own1.lt {w : World} {base : Nat} {e : TypeId} {v : Value} {xs : List Value} (h : Own1 w base e v xs) {g : Nat} (hg : v.ownBlock = some g) : base ≤ g ∧ g < w.heap.size := by
  refine ⟨own_base h hg, ?_⟩
  rcases h.2 with ⟨rfl, _⟩ | ⟨g', cap, cur, rfl, h2, h3, h4⟩
  · simp [Value.ownBlock] at hg
  · simp [Value.ownBlock] at hg
    subst hg
    rcases Nat.lt_or_ge g' w.heap.size with hlt | hge
    · exact hlt
    · rw [Array.getElem?_eq_none hge] at h3; cases h3
/-- A new block reads as its cells, frozen bytes or none. -/
theorem Reads.new_block (w : World) (cs : Array Value) (e : TypeId) (fr : Nat × Nat) {n : Nat} (hn : cs.size = n) : Reads (w.alloc (.cells cs e fr)) (w.alloc (.cells cs e fr)).heap.size 1 (some ⟨w.heap.size, 0, none⟩) n cs.toList := by
  subst hn
  refine ⟨by simp, fun _ => ⟨_, rfl, by simp, fun j u hu => ?_⟩⟩
  have hadd : (⟨w.heap.size, 0, none⟩ : Addr).add j = ⟨w.heap.size, j, none⟩ := by unfold Addr.add; split <;> simp_all
  rw [hadd, cell_of_row _ w.heap.size j cs e fr (heap_alloc_new w _)]
  simpa using hu
theorem quiet_left {P : Program} {f : FuncId} {args : Array Value} {w : World} {n : Nat} {v : Value}
    (h : Calls P f args (w.drewN n) fun e w' => e = .returned v ∧ w.drewN n = w') : Calls P f args (w.drewN n) fun e w'' => e = .returned v ∧ ∃ m, w'' = w.drewN m :=
  h.mono fun _ _ ⟨he, hm⟩ => ⟨he, n, hm.symm⟩
theorem quiet_more {P : Program} {f : FuncId} {args : Array Value} {w : World} {n : Nat} {v : Value}
    (h : Calls P f args (w.drewN n) fun e w' => e = .returned v ∧ ∃ m, w' = (w.drewN n).drewN m) : Calls P f args (w.drewN n) fun e w'' => e = .returned v ∧ ∃ m, w'' = w.drewN m :=
  h.mono fun _ _ ⟨he, m, hm⟩ => ⟨he, n + m, by rw [hm, World.drewN_drewN]⟩
/-- A slice of one-cell elements reads as a list, out of a block in S. -/
def Row (w : World) (S : Nat → Prop) (v : Value) (xs : List Value) : Prop :=
  ∃ A c, v = .slice A xs.length c ∧ xs.length ≤ c ∧ (0 < xs.length → ∃ ad, A = some ad ∧ S ad.block ∧ ∀ j u, xs[j]? = some u → w.cell? (ad.add j) = some u)
section
variable {w w' : World} {S S' : Nat → Prop} {v : Value} {xs : List Value}
theorem Row.reads (h : Row w S v xs) {n B : Nat} (hn : xs.length = n) (hS : ∀ b, S b → b < B) : ∃ A c, v = .slice A n c ∧ n ≤ c ∧ Reads w B 1 A n xs := by
  obtain ⟨A, c, rfl, hc, hr⟩ := h
  subst hn
  refine ⟨A, c, rfl, hc, by omega, fun h0 => ?_⟩
  obtain ⟨ad, e, hb, hcell⟩ := hr h0
  exact ⟨ad, e, hS _ hb, hcell⟩
theorem Row.of_reads {A : Option Addr} {n c B : Nat} (h : Reads w B 1 A n xs) (hc : n ≤ c) (hS : ∀ b, b < B → S b) : Row w S (.slice A n c) xs := by
  have hl : xs.length = n := by have := h.1; omega
  subst hl
  refine ⟨A, c, rfl, hc, fun h0 => ?_⟩
  obtain ⟨ad, e, hb, hcell⟩ := h.2 h0
  exact ⟨ad, e, hS _ hb, hcell⟩
theorem Row.of_own {base : Nat} {e : TypeId} (h : Own1 w base e v xs) (hS : ∀ b, base ≤ b → b < w.heap.size → S b) : Row w S v xs := by
  obtain ⟨A, c, rfl, hc, hr⟩ := h.form rfl
  refine ⟨A, c, rfl, hc, fun h0 => ?_⟩
  obtain ⟨ad, e1, _, hcell⟩ := hr.2 h0
  subst e1
  have := h.lt (g := ad.block) rfl
  exact ⟨ad, rfl, hS _ this.1 this.2, hcell⟩
theorem Row.mono (h : Row w S v xs) (hS : ∀ b, S b → S' b) : Row w S' v xs := by
  obtain ⟨A, c, e, hc, hr⟩ := h
  refine ⟨A, c, e, hc, fun h0 => ?_⟩
  obtain ⟨ad, e, hb, hcell⟩ := hr h0
  exact ⟨ad, e, hS _ hb, hcell⟩
theorem Row.keep (h : Row w S v xs) (hk : ∀ b, S b → w'.heap[b]? = w.heap[b]?) : Row w' S v xs := by
  obtain ⟨A, c, e, hc, hr⟩ := h
  refine ⟨A, c, e, hc, fun h0 => ?_⟩
  obtain ⟨ad, e, hb, hcell⟩ := hr h0
  exact ⟨ad, e, hb, fun j u hu => (World.cell?_of_block (w := w) (by rw [block_of_add]; exact hk _ hb)).trans (hcell j u hu)⟩
theorem Row.one (h : Row w S v xs) : v.oneCell' = true := by
  obtain ⟨A, c, rfl, _⟩ := h; rfl
end
/-- Slices that read as lists. -/
def Rows {α : Type} (w : World) (S : Nat → Prop) (f : α → Value) (vs : List Value) (ls : List (List α)) : Prop :=
  vs.length = ls.length ∧ ∀ (i : Nat) (v : Value) (l : List α), vs[i]? = some v → ls[i]? = some l → Row w S v (l.map f)
section
variable {α : Type} {w w' : World} {S S' : Nat → Prop} {f : α → Value} {vs : List Value} {ls : List (List α)}
theorem Rows.nil : Rows w S f [] [] := ⟨rfl, fun i v l h => by simp at h⟩
theorem Rows.snoc {v : Value} {l : List α} (h : Rows w S f vs ls) (hr : Row w S v (l.map f)) : Rows w S f (vs ++ [v]) (ls ++ [l]) := by
  refine ⟨by simp [h.1], fun i u m hu hm => ?_⟩
  rw [List.getElem?_append] at hu hm
  by_cases hi : i < vs.length
  · rw [if_pos hi] at hu; rw [if_pos (by rw [← h.1]; exact hi)] at hm
    exact h.2 i u m hu hm
  · rw [if_neg hi] at hu; rw [if_neg (by rw [← h.1]; exact hi)] at hm
    rw [← h.1] at hm
    match hk : i - vs.length, hu, hm with
    | 0, hu, hm =>
      simp at hu hm
      subst hu hm; exact hr
    | k + 1, hu, hm => simp at hu
theorem Rows.mono (h : Rows w S f vs ls) (hS : ∀ b, S b → S' b) : Rows w S' f vs ls := ⟨h.1, fun i v l hv hl => (h.2 i v l hv hl).mono hS⟩
theorem Rows.keep (h : Rows w S f vs ls) (hk : ∀ b, S b → w'.heap[b]? = w.heap[b]?) : Rows w' S f vs ls := ⟨h.1, fun i v l hv hl => (h.2 i v l hv hl).keep hk⟩
theorem Rows.at_ (h : Rows w S f vs ls) {i : Nat} (hi : i < ls.length) : ∃ v, vs[i]? = some v ∧ Row w S v (ls[i].map f) := by
  have hi' : i < vs.length := by rw [h.1]; exact hi
  exact ⟨vs[i], List.getElem?_eq_getElem hi', h.2 i _ _ (List.getElem?_eq_getElem hi') (List.getElem?_eq_getElem hi)⟩
theorem Rows.one (h : Rows w S f vs ls) : ∀ u ∈ vs, u.oneCell' = true := by
  intro u hu
  obtain ⟨i, hi, rfl⟩ := List.getElem_of_mem hu
  exact (h.2 i _ _ (List.getElem?_eq_getElem hi) (List.getElem?_eq_getElem (by rw [← h.1]; exact hi))).one
theorem Rows.below {B : Nat} (h : Rows w (· < B) f vs ls) (hb : Below B w w') : Rows w' (· < B) f vs ls := h.keep fun b hS => hb.block b hS
end
/-- The blocks of a row's elements: any but the row's own. -/
def Off (w : World) (v : Value) (b : Nat) : Prop := b < w.heap.size ∧ v.ownBlock ≠ some b
theorem Rows.off_below {α : Type} {w w' : World} {f : α → Value} {vs : List Value} {ls : List (List α)} {v : Value} (h : Rows w (Off w v) f vs ls) (hb : Below w.heap.size w w') : Rows w' (Off w' v) f vs ls :=
  (h.keep fun b hS => hb.block b hS.1).mono fun b hS => ⟨Nat.lt_of_lt_of_le hS.1 hb.size, hS.2⟩
theorem Rows.off_grown {α : Type} {w w' : World} {f : α → Value} {vs : List Value} {ls : List (List α)} {v v' : Value} (h : Rows w (Off w v) f vs ls) (hg : w.grownBy w' v.ownBlock)
    (hl : v'.ownBlock = v.ownBlock ∨ v'.ownBlock = some w.heap.size) : Rows w' (Off w' v') f vs ls :=
  (h.keep fun b hS => hg.block b hS.1 (fun e => hS.2 e.symm)).mono fun b hS => ⟨Nat.lt_of_lt_of_le hS.1 hg.size, by
    rcases hl with e | e
    · rw [e]; exact hS.2
    · rw [e]; intro e2; injection e2 with e2; have := hS.1; omega⟩
theorem wpList_want {P : Program} {w : World} {ops : Array Oper} {rest : List Oper} {o : Oper} {a : Act} {Q : Exit → Act → World → Prop} (hw : Region.wanted o (yielded ops a.tmps) = true)
    (h : ∀ K : Act → World → Prop, (∀ a w, wpList P ops Q rest a w → K a w) → o.wp P a w K Q) : wpList P ops Q (o :: rest) a w :=
  wpList_step fun K hK => by rw [if_pos hw]; exact h K hK
theorem wp_app1 {P : Program} {w : World} {o : Oper} {a : Act} {K : Act → World → Prop} {Q : Exit → Act → World → Prop} (s x : Operand) {t e : TypeId} {bytes : Nat} (T : SlTy P t e 1 bytes)
    (ho : o.op = .call { callee := .builtin .append, args := #[s, x], argTypes := #[t, t] })
    {base : Nat} {v : Value} {xs : List Value} (hs : a.eval s = v) (hown : Own1 w base e v xs)
    {B : Nat} {A : Option Addr} {m c : Nat} {news : List Value} (hx : a.eval x = .slice A m c) (hr : Reads w B 1 A m news) (h1 : ∀ u ∈ news, u.oneCell' = true)
    (hbytes : (xs.length + m) * bytes ≤ 140737488355328) (hbase : base ≤ w.heap.size)
    (h : ∀ v' w', Own1 w' base e v' (xs ++ news) → w.grownBy w' v.ownBlock → (v'.ownBlock = v.ownBlock ∨ v'.ownBlock = some w.heap.size) → (∀ B0 a0, B0 ≤ base → Below B0 a0 w → Below B0 a0 w') → K (a.put o.dst v') w') : o.wp P a w K Q := by
  obtain ⟨i, z, h1', h2', h3', h4', h5'⟩ := T.info
  have hp := T.pos'
  have hm : xs.length + m ≤ maxLen := by
    have : (xs.length + m) * 1 ≤ (xs.length + m) * bytes := Nat.mul_le_mul_left _ hp
    unfold maxLen; omega
  refine wp_append_any w s x t ho base e i z 1 bytes T.ht h1' h2' h3' h4' h5' T.pos v xs.length xs hs hown B A m c news hx hr h1 hm hbytes hbase ?_
  intro v' w' h2 h3 h4
  refine h v' w' ?_ h3 h4 fun _ _ hB hb => below_own hb hown h3 hB hbase
  have hl := hr.1
  unfold Own1
  rw [List.length_append, hl, Nat.mul_one]; exact h2
theorem wpList_app1 {P : Program} {w : World} {ops : Array Oper} {rest : List Oper} {o : Oper} {a : Act} {Q : Exit → Act → World → Prop} (s x : Operand) {t e : TypeId} {bytes : Nat} (T : SlTy P t e 1 bytes)
    (hw : Region.wanted o (yielded ops a.tmps) = true) (ho : o.op = .call { callee := .builtin .append, args := #[s, x], argTypes := #[t, t] })
    {base : Nat} {v : Value} {xs : List Value} (hs : a.eval s = v) (hown : Own1 w base e v xs)
    {B : Nat} {A : Option Addr} {m c : Nat} {news : List Value} (hx : a.eval x = .slice A m c) (hr : Reads w B 1 A m news) (h1 : ∀ u ∈ news, u.oneCell' = true)
    (hbytes : (xs.length + m) * bytes ≤ 140737488355328) (hbase : base ≤ w.heap.size)
    (h : ∀ v' w', Own1 w' base e v' (xs ++ news) → w.grownBy w' v.ownBlock → (v'.ownBlock = v.ownBlock ∨ v'.ownBlock = some w.heap.size) → (∀ B0 a0, B0 ≤ base → Below B0 a0 w → Below B0 a0 w') → wpList P ops Q rest (a.put o.dst v') w') :
    wpList P ops Q (o :: rest) a w :=
  wpList_want hw fun _ hK => wp_app1 s x T ho hs hown hx hr h1 hbytes hbase fun v' w' h2 h3 h4 h5 => hK _ _ (h v' w' h2 h3 h4 h5)

/-- append as one step of a region that draws its order ('go_region_law'). -/
theorem step_app1 {P : Program} {w : World} {ops : Array Oper} {o : Oper} {a : Act} {K : Act → World → Prop} {Q : Exit → Act → World → Prop} {E : Prop} (s x : Operand) {t e : TypeId} {bytes : Nat} (T : SlTy P t e 1 bytes)
    (hgd : o.guard = none) (ho : o.op = .call { callee := .builtin .append, args := #[s, x], argTypes := #[t, t] })
    {base : Nat} {v : Value} {xs : List Value} (hs : a.eval s = v) (hown : Own1 w base e v xs)
    {B : Nat} {A : Option Addr} {m c : Nat} {news : List Value} (hx : a.eval x = .slice A m c) (hr : Reads w B 1 A m news) (h1 : ∀ u ∈ news, u.oneCell' = true)
    (hbytes : (xs.length + m) * bytes ≤ 140737488355328) (hbase : base ≤ w.heap.size)
    (h : ∀ v' w', Own1 w' base e v' (xs ++ news) → w.grownBy w' v.ownBlock → (v'.ownBlock = v.ownBlock ∨ v'.ownBlock = some w.heap.size) → (∀ B0 a0, B0 ≤ base → Below B0 a0 w → Below B0 a0 w') → K (a.put o.dst v') w') :
    if Region.wanted o (yielded ops a.tmps) = true then Oper.wp P o a w K Q else E := by
  have hw : Region.wanted o (yielded ops a.tmps) = true := by simp [Region.wanted, hgd]
  rw [if_pos hw]
  exact wp_app1 s x T ho hs hown hx hr h1 hbytes hbase h

section
variable {P : Program} {w : World} {ops : Array Oper} {rest : List Oper} {a : Act} {Q : Exit → Act → World → Prop} {d : Option Tmp} {ty T : TypeId} {pos : String} {aft : Array Edge}
/-- The walk stands still at a slice expression. -/
theorem stop_slice {x : Operand} {lo hi mx : Option Operand} (h : Stop (wpList P ops Q (⟨d, .slice T x lo hi mx, ty, pos, aft, none⟩ :: rest) a w)) : wpList P ops Q (⟨d, .slice T x lo hi mx, ty, pos, aft, none⟩ :: rest) a w := h.out

theorem Reads.take_ {B size n k : Nat} {A : Option Addr} {xs : List Value} (h : Reads w B size A n xs) (hk : k ≤ n) : Reads w B size A k (xs.take (k * size)) := by
  refine ⟨by rw [List.length_take, h.1]; exact Nat.min_eq_left (Nat.mul_le_mul_right _ hk), fun hp => ?_⟩
  obtain ⟨ad, e, hb, hc⟩ := h.2 (by omega)
  refine ⟨ad, e, hb, fun j u hu => hc j u ?_⟩
  rw [List.getElem?_take] at hu
  split at hu
  · exact hu
  · cases hu
theorem run_slice_name {t e : TypeId} {size bytes : Nat} (S : SlTy P t e size bytes) {A : Option Addr} {n c l h : Nat} (h1 : l ≤ h) (h2 : h ≤ c) :
    (Instr.sliceAt t (.slice A n c) (some (.int .i64 l)) (some (.int .i64 h)) none).run P w = .ok (.slice (if c = l then A else A.map (·.add (l * size))) (h - l) (c - l)) w := by
  obtain ⟨i, z, i1, i2, i3, i4, i5⟩ := S.info
  have hu : P.elem t = e := by simp [Program.elem, S.ht]
  have hs : (sizeOf (P.elem t)).run P w = .ok size w := by rw [hu]; simp [sizeOf, typeInfo, i1, i3]
  rw [run_sliceAt_slice w t _ _ _ _ (by rw [hu]; exact S.ht), run_slice_lh w t A n c (by rw [hu]; exact S.ht) .i64 .i64 l h (by omega) (by omega) (by omega), hs]
  simp [Result.andThen, sliced]
/-- 'x[l:h]': the address has a new name, what it reads is said. -/
theorem wpList_cut {t e : TypeId} {size bytes : Nat} (S : SlTy P t e size bytes) {x lo hi : Operand} {A : Option Addr} {n c l h B : Nat} {xs : List Value} (hx : a.eval x = .slice A n c) (hl : a.eval lo = .int .i64 l) (hh : a.eval hi = .int .i64 h)
    (h1 : l ≤ h) (h2 : h ≤ n) (h3 : n ≤ c) (hr : Reads w B size A n xs)
    (hk : ∀ A', Reads w B size A' (h - l) ((xs.drop (l * size)).take ((h - l) * size)) → wpList P ops Q rest (a.put d (.slice A' (h - l) (c - l))) w) : wpList P ops Q (⟨d, .slice t x (some lo) (some hi) none, ty, pos, aft, none⟩ :: rest) a w :=
  wpList_plain rfl fun _ hK => by
    have hcut := (hr.cut (k := l) (cap := c) (by omega) h3).take_ (k := h - l) (by omega)
    unfold Oper.wp execOp
    simp only [Option.map_some, Option.map_none, hx, hl, hh, Sem.run_bind, run_slice_name S h1 (by omega : h ≤ c), Result.andThen_ok]
    exact hK _ _ (hk _ hcut)
theorem run_slice_from_name {t e : TypeId} {size bytes : Nat} (S : SlTy P t e size bytes) {A : Option Addr} {n c l : Nat} (h1 : l ≤ n) :
    (Instr.sliceAt t (.slice A n c) (some (.int .i64 l)) none none).run P w = .ok (.slice (if c = l then A else A.map (·.add (l * size))) (n - l) (c - l)) w := by
  obtain ⟨i, z, i1, i2, i3, i4, i5⟩ := S.info
  have hu : P.elem t = e := by simp [Program.elem, S.ht]
  have hs : (sizeOf (P.elem t)).run P w = .ok size w := by rw [hu]; simp [sizeOf, typeInfo, i1, i3]
  rw [run_sliceAt_slice w t _ _ _ _ (by rw [hu]; exact S.ht), run_slice_l w t A n c (by rw [hu]; exact S.ht) .i64 l (by omega) (by omega), hs]
  simp [Result.andThen, sliced]
/-- 'x[l:]'. -/
theorem wpList_cutFrom {t e : TypeId} {size bytes : Nat} (S : SlTy P t e size bytes) {x lo : Operand} {A : Option Addr} {n c l B : Nat} {xs : List Value} (hx : a.eval x = .slice A n c) (hl : a.eval lo = .int .i64 l)
    (h1 : l ≤ n) (h3 : n ≤ c) (hr : Reads w B size A n xs)
    (hk : ∀ A', Reads w B size A' (n - l) (xs.drop (l * size)) → wpList P ops Q rest (a.put d (.slice A' (n - l) (c - l))) w) : wpList P ops Q (⟨d, .slice t x (some lo) none none, ty, pos, aft, none⟩ :: rest) a w :=
  wpList_plain rfl fun _ hK => by
    unfold Oper.wp execOp
    simp only [Option.map_some, Option.map_none, hx, hl, Sem.run_bind, run_slice_from_name S h1, Result.andThen_ok]
    exact hK _ _ (hk _ (hr.cut (k := l) (cap := c) h1 h3))
theorem run_slice_to_name {t e : TypeId} {size bytes : Nat} (S : SlTy P t e size bytes) {A : Option Addr} {n c h : Nat} (h1 : h ≤ c) :
    (Instr.sliceAt t (.slice A n c) none (some (.int .i64 h)) none).run P w = .ok (.slice A h c) w := by
  obtain ⟨i, z, i1, i2, i3, i4, i5⟩ := S.info
  have hu : P.elem t = e := by simp [Program.elem, S.ht]
  have hs : (sizeOf (P.elem t)).run P w = .ok size w := by rw [hu]; simp [sizeOf, typeInfo, i1, i3]
  rw [run_sliceAt_slice w t _ _ _ _ (by rw [hu]; exact S.ht), run_slice_h w t A n c (by rw [hu]; exact S.ht) .i64 h (by omega) (by omega), hs]
  cases A <;> simp [Result.andThen, sliced, Addr.add]
end

/-- A byte as a cell. -/
def bv (b : UInt8) : Value := .int .u8 (b.toNat : Int)
theorem Reads.byte {w : World} {B : Nat} {A : Option Addr} {l : List UInt8} (h : Reads w B 1 A l.length (l.map bv)) {k : Nat} (hk : k < l.length) :
    ∃ b off, A = some ⟨b, off, none⟩ ∧ b < B ∧ w.cell? ⟨b, off + k, none⟩ = some (.int .u8 (l[k].toNat : Int)) := by
  obtain ⟨b, off, u, h1, hb, hu, hc⟩ := h.spot hk
  rw [List.getElem?_map, List.getElem?_eq_getElem hk] at hu
  injection hu with hu
  exact ⟨b, off, h1, hb, by rw [hc, ← hu]; rfl⟩
theorem str_of_bytes {P : Program} {w : World} {B : Nat} {A : Option Addr} {l : List UInt8} (c : Nat) (src dst e : TypeId) (hs : P.underlying src = some (.slice e)) (he : P.underlying e = some (.int .u8)) (hd : P.underlying dst = some .string)
    (h : Reads w B 1 A l.length (l.map bv)) : (convert src dst (.slice A l.length c)).run P w = .ok (.string ⟨l.toArray⟩) w := by
  rcases A with _ | ad
  · have h0 : l.length = 0 := by
      rcases Nat.eq_zero_or_pos l.length with h0 | h0
      · exact h0
      · obtain ⟨ad, e, _⟩ := h.2 h0; cases e
    have hl : l = [] := List.eq_nil_of_length_eq_zero h0
    subst hl
    exact Lib.run_convert_nil_bytes w src dst e c hs he hd
  · refine run_convert_bytes_back w src dst e ad c l hs he hd fun j hj => ?_
    obtain ⟨ad', u, e1, _, hu, hc⟩ := h.at_ hj
    injection e1 with e1; subst e1
    rw [List.getElem?_map, List.getElem?_eq_getElem hj] at hu
    injection hu with hu
    rw [hc, ← hu]; rfl
theorem byte_lt (b : UInt8) : b.toNat < 256 := b.toNat_lt
theorem bv_one (l : List UInt8) : ∀ u ∈ l.map bv, u.oneCell' = true := by
  intro u hu
  obtain ⟨b, _, rfl⟩ := List.mem_map.1 hu
  rfl

end Go.Proofs.Ytfmpiabmnjmobaa
