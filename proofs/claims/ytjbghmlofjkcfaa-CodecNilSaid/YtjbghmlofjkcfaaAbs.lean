/- The abstract state: frozen data as trees (D), values with references to what the call owns (AV), owned objects by name; how a world and a frame represent it. No program in sight. -/
import Derived.Test.YtjbghmlofjkcfaaBase
import Derived.Deep.MidRow
import Derived.Laws.Panics
namespace Go.Proofs.Ytjbghmlofjkcfaa
open Go.RowKit

theorem beq_ne {a b : Nat} (h : a ≠ b) : Nat.beq a b = false := by
  cases hh : Nat.beq a b with
  | false => rfl
  | true => exact absurd (Nat.eq_of_beq_eq_true hh) h

/-- Frozen data: nobody writes it any more. -/
inductive D where
  | raw (v : Value)
  | sl (nil : Option Bool) (xs : List D)
  | agg (cs : List D)
  | ptr (x : D)
  | tup (cs : List D)

def D.cells : D → List D
  | .agg cs => cs
  | x => [x]
def D.one : D → Bool
  | .agg _ => false
  | .tup _ => false
  | _ => true

inductive RepD (w : World) (O : Nat → Prop) : D → Value → Prop
  | raw {v : Value} (h : v.oneCell' = true) : RepD w O (.raw v) v
  | agg {cs : List D} {vs : List Value} (hl : vs.length = cs.length) (h1 : ∀ c ∈ cs, c.one = true) (h : ∀ (i : Nat) c v, cs[i]? = some c → vs[i]? = some v → RepD w O c v) : RepD w O (.agg cs) (.agg vs.toArray)
  | tup {cs : List D} {vs : List Value} (hl : vs.length = cs.length) (h : ∀ (i : Nat) c v, cs[i]? = some c → vs[i]? = some v → RepD w O c v) : RepD w O (.tup cs) (.tuple vs.toArray)
  | ptr {x : D} {b o : Nat} (us : Nat → Value) (hb : b < w.heap.size) (hO : ¬ O b) (h1 : ∀ c ∈ x.cells, c.one = true)
      (hc : ∀ (j : Nat) c, x.cells[j]? = some c → w.cell? ⟨b, o + j, none⟩ = some (us j)) (hu : ∀ (j : Nat) c, x.cells[j]? = some c → RepD w O c (us j)) : RepD w O (.ptr x) (.pointer (some ⟨b, o, none⟩))
  | sl {nil : Option Bool} {xs : List D} {a : Option Addr} {n cap : Nat} (k : Nat) (hn : ∀ b, nil = some b → a.isNone = b) (hz : a = none → cap = 0) (hln : xs.length = n) (hc : n ≤ cap) (hm : cap ≤ maxLen) (hk : ∀ x ∈ xs, x.cells.length = k)
      (ha : xs ≠ [] → ∃ b o, a = some ⟨b, o, none⟩)
      (hp : ∀ b o, a = some ⟨b, o, none⟩ → ∀ (i : Nat) x, xs[i]? = some x → RepD w O (.ptr x) (.pointer (some ⟨b, o + i * k, none⟩))) : RepD w O (.sl nil xs) (.slice a n cap)

theorem RepD.mono {w w' : World} {O O' : Nat → Prop} (hs : w.heap.size ≤ w'.heap.size) (hb : ∀ b, b < w.heap.size → ¬ O b → w'.heap[b]? = w.heap[b]?) (hO : ∀ b, b < w.heap.size → O' b → O b)
    {x : D} {v : Value} (h : RepD w O x v) : RepD w' O' x v := by
  induction h with
  | raw h => exact .raw h
  | agg hl h1 _ ih => exact .agg hl h1 ih
  | tup hl _ ih => exact .tup hl ih
  | ptr us h0 h1 h2 h3 _ ih =>
    refine .ptr us (by omega) (fun h => h1 (hO _ h0 h)) h2 (fun j c hj => ?_) ih
    rw [World.cell?_of_block (w := w) (hb _ h0 h1)]; exact h3 j c hj
  | sl k hn hz hln hc hm hk ha _ ih => exact .sl k hn hz hln hc hm hk ha ih

theorem RepD.oneCell {w : World} {O : Nat → Prop} {x : D} {v : Value} (h : RepD w O x v) (h1 : x.one = true) : v.oneCell' = true := by
  cases h with
  | raw h => exact h
  | agg _ _ _ => cases h1
  | tup _ _ => cases h1
  | ptr _ _ _ _ _ _ => rfl
  | sl _ _ _ _ _ _ _ _ _ => rfl

/-- Values with references to owned objects: object i of family f. -/
inductive AV where
  | d (x : D)
  | top
  | tup (as : List AV)
  | agg (as : List AV)
  | ptr (f i off : Nat)
  | own (f i n : Nat)
  | rptr (f i k e off : Nat)
  | map (f i : Nat)
  | fn (g : FuncId) (caps : List AV)

inductive RepA (w : World) (O : Nat → Prop) (ρ : Nat → Nat → Value) : AV → Value → Prop
  | d {x : D} {v : Value} (h : RepD w O x v) : RepA w O ρ (.d x) v
  | top {v : Value} : RepA w O ρ .top v
  | tup {as : List AV} {vs : List Value} (hl : vs.length = as.length) (h : ∀ (i : Nat) a v, as[i]? = some a → vs[i]? = some v → RepA w O ρ a v) : RepA w O ρ (.tup as) (.tuple vs.toArray)
  | agg {as : List AV} {vs : List Value} (hl : vs.length = as.length) (h1 : ∀ v ∈ vs, v.oneCell' = true) (h : ∀ (i : Nat) a v, as[i]? = some a → vs[i]? = some v → RepA w O ρ a v) : RepA w O ρ (.agg as) (.agg vs.toArray)
  | ptr {f i off b : Nat} (h : ρ f i = .pointer (some ⟨b, 0, none⟩)) : RepA w O ρ (.ptr f i off) (.pointer (some ⟨b, off, none⟩))
  | own {f i n N cap : Nat} {a : Option Addr} (h : ρ f i = .slice a N cap) (hn : n ≤ N) : RepA w O ρ (.own f i n) (.slice a n cap)
  | rptr {f i k e off b N cap : Nat} (h : ρ f i = .slice (some ⟨b, 0, none⟩) N cap) : RepA w O ρ (.rptr f i k e off) (.pointer (some ⟨b, e * k + off, none⟩))
  | map {f i m : Nat} (h : ρ f i = .map (some m)) : RepA w O ρ (.map f i) (.map (some m))
  | fn {g : FuncId} {caps : List AV} {vs : List Value} (hl : vs.length = caps.length) (h : ∀ (i : Nat) a v, caps[i]? = some a → vs[i]? = some v → RepA w O ρ a v) : RepA w O ρ (.fn g caps) (.func (.func g) #[] vs.toArray)

/-- What a value refers to. -/
inductive AV.Refs : AV → Nat → Nat → Prop
  | tup {as : List AV} {a : AV} {f i : Nat} (hm : a ∈ as) (h : a.Refs f i) : (AV.tup as).Refs f i
  | agg {as : List AV} {a : AV} {f i : Nat} (hm : a ∈ as) (h : a.Refs f i) : (AV.agg as).Refs f i
  | fn {g : FuncId} {as : List AV} {a : AV} {f i : Nat} (hm : a ∈ as) (h : a.Refs f i) : (AV.fn g as).Refs f i
  | ptr {f i off : Nat} : (AV.ptr f i off).Refs f i
  | own {f i n : Nat} : (AV.own f i n).Refs f i
  | rptr {f i k e off : Nat} : (AV.rptr f i k e off).Refs f i
  | map {f i : Nat} : (AV.map f i).Refs f i

theorem RepA.mono {w w' : World} {O O' : Nat → Prop} {ρ ρ' : Nat → Nat → Value} (hs : w.heap.size ≤ w'.heap.size) (hb : ∀ b, b < w.heap.size → ¬ O b → w'.heap[b]? = w.heap[b]?) (hO : ∀ b, b < w.heap.size → O' b → O b)
    {a : AV} {v : Value} (h : RepA w O ρ a v) (hr : ∀ f i, a.Refs f i → ρ' f i = ρ f i) : RepA w' O' ρ' a v := by
  induction h with
  | d h => exact .d (h.mono hs hb hO)
  | top => exact .top
  | tup hl _ ih => exact .tup hl fun i a v ha hv => ih i a v ha hv fun f j hj => hr f j (.tup (List.mem_of_getElem? ha) hj)
  | agg hl h1 _ ih => exact .agg hl h1 fun i a v ha hv => ih i a v ha hv fun f j hj => hr f j (.agg (List.mem_of_getElem? ha) hj)
  | ptr h => exact .ptr ((hr _ _ .ptr).trans h)
  | own h hn => exact .own ((hr _ _ .own).trans h) hn
  | rptr h => exact .rptr ((hr _ _ .rptr).trans h)
  | map h => exact .map ((hr _ _ .map).trans h)
  | fn hl _ ih => exact .fn hl fun i a v ha hv => ih i a v ha hv fun f j hj => hr f j (.fn (List.mem_of_getElem? ha) hj)

/-- Owned objects: a variable's block (pointers go to it), a row that a slice owns, a map. -/
inductive AObj where
  | blk (t : TypeId) (cs : List AV)
  | row (t : TypeId) (k : Nat) (xs : List AV)
  | rowD (t : TypeId) (k : Nat) (xs : List D)

def AV.cells : AV → List AV
  | .agg cs => cs
  | .d (.agg cs) => cs.map .d
  | a => [a]

/-- Elements of k cells each lie one behind the other. -/
def Lies {α : Type} (cells : α → List α) (k : Nat) (R : α → Value → Prop) (xs : List α) (us : List Value) : Prop :=
  us.length = xs.length * k ∧ (∀ x ∈ xs, (cells x).length = k) ∧ ∀ (i : Nat) x, xs[i]? = some x → ∀ (j : Nat) c, (cells x)[j]? = some c → ∃ u, us[i * k + j]? = some u ∧ u.oneCell' = true ∧ R c u

def SimObj (w : World) (O : Nat → Prop) (ρ : Nat → Nat → Value) : AObj → Value → Prop
  | .blk t cs, v => ∃ (b : Nat) (us : List Value), v = .pointer (some ⟨b, 0, none⟩) ∧ w.heap[b]? = some (.cells us.toArray t (0, 0)) ∧ us.length = cs.length ∧
      (∀ (j : Nat) c u, cs[j]? = some c → us[j]? = some u → RepA w O ρ c u) ∧ ∀ u ∈ us, u.oneCell' = true
  | .row t k xs, v => ∃ us : List Value, w.ownsRow 0 t k v xs.length us ∧ Lies AV.cells k (RepA w O ρ) xs us
  | .rowD t k xs, v => ∃ us : List Value, w.ownsRow 0 t k v xs.length us ∧ Lies D.cells k (RepD w O) xs us ∧ ∀ x ∈ xs, ∀ c ∈ x.cells, c.one = true

def AObj.Refs : AObj → Nat → Nat → Prop
  | .blk _ cs, f, i => ∃ c ∈ cs, c.Refs f i
  | .row _ _ xs, f, i => ∃ x ∈ xs, ∃ c ∈ x.cells, c.Refs f i
  | .rowD _ _ _, _, _ => False

def blkOf : Value → Option Nat
  | .pointer (some a) => some a.block
  | .slice (some a) _ _ => some a.block
  | .map m => m
  | _ => none

theorem ownsRow_same {w w' : World} {base : Nat} {e : TypeId} {size n : Nat} {v : Value} {xs : List Value} (h : w.ownsRow base e size v n xs) (hb : ∀ b, blkOf v = some b → w'.heap[b]? = w.heap[b]?) : w'.ownsRow base e size v n xs := by
  refine ⟨h.1, ?_⟩
  rcases h.2 with h' | ⟨g, cap, cur, h1, h2, h3, h4⟩
  · exact .inl h'
  · exact .inr ⟨g, cap, cur, h1, h2, by rw [hb g (by rw [h1]; rfl)]; exact h3, h4⟩

theorem Lies.mono {α : Type} {cells : α → List α} {k : Nat} {R R' : α → Value → Prop} {xs : List α} {us : List Value} (h : Lies cells k R xs us) (hr : ∀ x ∈ xs, ∀ c ∈ cells x, ∀ u, R c u → R' c u) : Lies cells k R' xs us :=
  ⟨h.1, h.2.1, fun i x hx j c hc => by
    obtain ⟨u, h1, h2, h3⟩ := h.2.2 i x hx j c hc
    exact ⟨u, h1, h2, hr x (List.mem_of_getElem? hx) c (List.mem_of_getElem? hc) u h3⟩⟩

/-- An object whose own block stands. -/
theorem SimObj.mono {w w' : World} {O O' : Nat → Prop} {ρ ρ' : Nat → Nat → Value} (hs : w.heap.size ≤ w'.heap.size) (hb : ∀ b, b < w.heap.size → ¬ O b → w'.heap[b]? = w.heap[b]?) (hO : ∀ b, b < w.heap.size → O' b → O b)
    {o : AObj} {v : Value} (h : SimObj w O ρ o v) (hv : ∀ b, blkOf v = some b → w'.heap[b]? = w.heap[b]?) (hr : ∀ f i, o.Refs f i → ρ' f i = ρ f i) : SimObj w' O' ρ' o v := by
  cases o with
  | blk t cs =>
    obtain ⟨b, us, rfl, h1, h2, h3, h4⟩ := h
    exact ⟨b, us, rfl, by rw [hv b rfl]; exact h1, h2, fun j c u hc hu => (h3 j c u hc hu).mono hs hb hO fun f i hf => hr f i ⟨c, List.mem_of_getElem? hc, hf⟩, h4⟩
  | row t k xs =>
    obtain ⟨us, h1, h2⟩ := h
    exact ⟨us, ownsRow_same h1 hv, h2.mono fun x hx c hc u hu => hu.mono hs hb hO fun f i hf => hr f i ⟨x, hx, c, hc, hf⟩⟩
  | rowD t k xs =>
    obtain ⟨us, h1, h2, h3⟩ := h
    exact ⟨us, ownsRow_same h1 hv, h2.mono fun x hx c hc u hu => hu.mono hs hb hO, h3⟩

/-- The abstract state: the number of slots, the slots that are known, the owned families. -/
structure AS where
  n : Nat
  env : List (Nat × AV)
  hp : List (Nat × List AObj)

def get : List (Nat × AV) → Nat → Option AV
  | [], _ => none
  | (k, v) :: r, t => match Nat.beq k t with
    | true => some v
    | false => get r t
def hfam : List (Nat × List AObj) → Nat → Option (List AObj)
  | [], _ => none
  | (k, v) :: r, t => match Nat.beq k t with
    | true => some v
    | false => hfam r t
def hpN : List (Nat × List AObj) → List Nat
  | [] => []
  | (f, _) :: r => f :: hpN r
theorem hpN_mem {hp : List (Nat × List AObj)} {f : Nat} {l : List AObj} (h : hfam hp f = some l) : f ∈ hpN hp := by
  induction hp with
  | nil => cases h
  | cons p r ih =>
    obtain ⟨k, x⟩ := p
    simp only [hfam] at h
    split at h
    · rename_i hk; exact List.mem_cons.2 (.inl (Nat.eq_of_beq_eq_true hk).symm)
    · exact List.mem_cons.2 (.inr (ih h))
def hget (hp : List (Nat × List AObj)) (f i : Nat) : Option AObj := (hfam hp f).bind (·[i]?)

/-- What stands fast through a call: the program, the world at its start, the blocks that the callers own, those that came in with the call. -/
structure Fr where
  w0 : World
  Of : Nat → Prop
  own0 : Nat → Prop
  pin : Nat → Nat → Option Nat
  hOf : ∀ b, Of b → b < w0.heap.size ∧ ¬ own0 b
  pn : List Nat
  hpn : ∀ f i b, pin f i = some b → f ∈ pn

def OwnB (ρ : Nat → Nat → Value) (hp : List (Nat × List AObj)) (b : Nat) : Prop := ∃ f i o, hget hp f i = some o ∧ blkOf (ρ f i) = some b
def Fr.O (F : Fr) (ρ : Nat → Nat → Value) (hp : List (Nat × List AObj)) (b : Nat) : Prop := F.Of b ∨ OwnB ρ hp b

structure Heap (F : Fr) (hp : List (Nat × List AObj)) (ρ : Nat → Nat → Value) (w : World) : Prop where
  sim : ∀ f i o, hget hp f i = some o → SimObj w (F.O ρ hp) ρ o (ρ f i)
  inj : ∀ f i f' i' o o' b, hget hp f i = some o → hget hp f' i' = some o' → blkOf (ρ f i) = some b → blkOf (ρ f' i') = some b → f = f' ∧ i = i'
  mine : ∀ b, OwnB ρ hp b → b < w.heap.size ∧ (F.own0 b ∨ F.w0.heap.size ≤ b)
  os : w.os = F.w0.os
  tape : w.tape = F.w0.tape
  output : w.output = F.w0.output
  size0 : F.w0.heap.size ≤ w.heap.size
  keep : ∀ b, b < F.w0.heap.size → ¬ F.own0 b → w.heap[b]? = F.w0.heap[b]?
  pins : ∀ f i b, F.pin f i = some b → ρ f i = .pointer (some ⟨b, 0, none⟩) ∧ ∃ t cs, hget hp f i = some (.blk t cs)

structure SR (F : Fr) (s : AS) (ρ : Nat → Nat → Value) (act : Act) (w : World) : Prop where
  size : act.tmps.size = s.n
  defs : act.defers = []
  env : ∀ t a, get s.env t = some a → RepA w (F.O ρ s.hp) ρ a (act.tmps.getD t undef)
  heap : Heap F s.hp ρ w

theorem Heap.notOf {F : Fr} {hp : List (Nat × List AObj)} {ρ : Nat → Nat → Value} {w : World} (h : Heap F hp ρ w) {b : Nat} (hb : OwnB ρ hp b) : ¬ F.Of b := fun ho => by
  have h1 := F.hOf b ho
  have h2 := (h.mine b hb).2
  rcases h2 with h2 | h2
  · exact h1.2 h2
  · omega

/-- A new value in a slot; memory stands. -/
theorem getD_put_same {act : Act} {d : Nat} {v : Value} (h : d < act.tmps.size) : (act.put (some d) v).tmps.getD d undef = v := by
  simp [Act.put, Array.getD, h]
theorem getD_put_ne {act : Act} {d t : Nat} {v : Value} (h : d ≠ t) : (act.put (some d) v).tmps.getD t undef = act.tmps.getD t undef := by
  simp only [Act.put, Array.getD_eq_getD_getElem?]
  rw [Array.getElem?_setIfInBounds_ne h]

def AS.put (s : AS) (d : Nat) (a : AV) : AS := ⟨s.n, (d, a) :: s.env, s.hp⟩
def AS.putO (s : AS) (d : Option Nat) (a : AV) : AS := match d with
  | some d => s.put d a
  | none => s

theorem get_cons {k : Nat} {v : AV} {r : List (Nat × AV)} {t : Nat} {a : AV} (h : get ((k, v) :: r) t = some a) : (k = t ∧ v = a) ∨ (k ≠ t ∧ get r t = some a) := by
  unfold get at h
  split at h
  · rename_i hk
    exact .inl ⟨by simpa using hk, by injection h⟩
  · rename_i hk
    exact .inr ⟨Nat.ne_of_beq_eq_false hk, h⟩

theorem SR.put {F : Fr} {s : AS} {ρ : Nat → Nat → Value} {act : Act} {w : World} (h : SR F s ρ act w) {d : Nat} (hd : d < s.n) {a : AV} {v : Value} (ha : RepA w (F.O ρ s.hp) ρ a v) : SR F (s.put d a) ρ (act.put (some d) v) w where
  size := by have := h.size; simpa [Act.put, AS.put] using this
  defs := h.defs
  env := fun t x hx => by
    rcases get_cons hx with ⟨rfl, rfl⟩ | ⟨hne, hx⟩
    · rw [getD_put_same (by rw [h.size]; exact hd)]; exact ha
    · rw [getD_put_ne hne]; exact h.env t x hx
  heap := h.heap

/-- The slots' part again after memory has turned. -/
theorem SR.turn {F : Fr} {s : AS} {ρ ρ' : Nat → Nat → Value} {act : Act} {w w' : World} {env' : List (Nat × AV)} {hp' : List (Nat × List AObj)} (h : SR F s ρ act w) (hs : w.heap.size ≤ w'.heap.size)
    (hb : ∀ b, b < w.heap.size → ¬ F.O ρ s.hp b → w'.heap[b]? = w.heap[b]?) (hO : ∀ b, b < w.heap.size → OwnB ρ' hp' b → OwnB ρ s.hp b)
    (he : ∀ t a, get env' t = some a → get s.env t = some a ∧ ∀ f i, a.Refs f i → ρ' f i = ρ f i) (hh : Heap F hp' ρ' w') : SR F ⟨s.n, env', hp'⟩ ρ' act w' where
  size := h.size
  defs := h.defs
  env := fun t a ha => by
    obtain ⟨h1, h2⟩ := he t a ha
    exact (h.env t a h1).mono hs hb (fun b hlt ho => ho.imp id (hO b hlt)) h2
  heap := hh

/-! Taking references away. -/
def AV.okS (p : Nat → Nat → Bool) : AV → Bool
  | .d _ => true
  | .top => true
  | .ptr g i _ => p g i
  | .own g i _ => p g i
  | .rptr g i _ _ _ => p g i
  | .map g i => p g i
  | _ => false
def okL (p : Nat → Nat → Bool) : List AV → Bool
  | [] => true
  | a :: r => a.okS p && okL p r
def AV.ok (p : Nat → Nat → Bool) : AV → Bool
  | .tup as => okL p as
  | .agg as => okL p as
  | .fn _ as => okL p as
  | a => a.okS p
theorem AV.okS_spec {p : Nat → Nat → Bool} {a : AV} (h : a.okS p = true) {f i : Nat} (hr : a.Refs f i) : p f i = true := by
  cases hr with
  | tup _ _ => simp [AV.okS] at h
  | agg _ _ => simp [AV.okS] at h
  | fn _ _ => simp [AV.okS] at h
  | ptr => exact h
  | own => exact h
  | rptr => exact h
  | map => exact h
theorem okL_spec {p : Nat → Nat → Bool} {as : List AV} (h : okL p as = true) {a : AV} (ha : a ∈ as) {f i : Nat} (hr : a.Refs f i) : p f i = true := by
  induction as with
  | nil => cases ha
  | cons x r ih =>
    simp only [okL, Bool.and_eq_true] at h
    rcases List.mem_cons.1 ha with rfl | ha
    · exact AV.okS_spec h.1 hr
    · exact ih h.2 ha
theorem AV.ok_spec {p : Nat → Nat → Bool} {a : AV} (h : a.ok p = true) {f i : Nat} (hr : a.Refs f i) : p f i = true := by
  cases hr with
  | tup hm hr => exact okL_spec h hm hr
  | agg hm hr => exact okL_spec h hm hr
  | fn hm hr => exact okL_spec h hm hr
  | ptr => exact h
  | own => exact h
  | rptr => exact h
  | map => exact h

def keepE? (p : Nat → Nat → Bool) : List (Nat × AV) → Option (List (Nat × AV))
  | [] => some []
  | (t, a) :: r => match keepE? p r with
    | none => none
    | some r' => match a.ok p with
      | true => some ((t, a) :: r')
      | false => some ((t, .top) :: r')
def keepL? (p : Nat → Nat → Bool) : List AV → Option (List AV)
  | [] => some []
  | a :: r => match keepL? p r with
    | none => none
    | some r' => match a.ok p with
      | true => some (a :: r')
      | false => some (.top :: r')
def keepO? (p : Nat → Nat → Bool) : AObj → Option AObj
  | .blk t cs => match keepL? p cs with
    | none => none
    | some cs' => some (.blk t cs')
  | .row t k xs => match xs.all (fun x => okL p x.cells) with
    | true => some (.row t k xs)
    | false => none
  | .rowD t k xs => some (.rowD t k xs)
def keepOs? (p : Nat → Nat → Bool) : List AObj → Option (List AObj)
  | [] => some []
  | o :: r => match keepOs? p r with
    | none => none
    | some r' => match keepO? p o with
      | none => none
      | some o' => some (o' :: r')
def keepH? (p : Nat → Nat → Bool) : List (Nat × List AObj) → Option (List (Nat × List AObj))
  | [] => some []
  | (g, l) :: r => match keepH? p r with
    | none => none
    | some r' => match keepOs? p l with
      | none => none
      | some l' => some ((g, l') :: r')

theorem keepE?_spec {p : Nat → Nat → Bool} {env env' : List (Nat × AV)} (h : keepE? p env = some env') {t : Nat} {a : AV} (ha : get env' t = some a) : a = .top ∨ (get env t = some a ∧ ∀ f i, a.Refs f i → p f i = true) := by
  induction env generalizing env' with
  | nil => simp only [keepE?, Option.some.injEq] at h; subst h; simp [get] at ha
  | cons q r ih =>
    obtain ⟨k, x⟩ := q
    simp only [keepE?] at h
    split at h
    · cases h
    · rename_i r' hr
      split at h <;> (injection h with h; subst h)
      · rename_i hx
        rcases get_cons ha with ⟨rfl, rfl⟩ | ⟨hne, ha⟩
        · exact .inr ⟨by simp [get], fun _ _ => AV.ok_spec hx⟩
        · rcases ih hr ha with h1 | ⟨h1, h2⟩
          · exact .inl h1
          · refine .inr ⟨?_, h2⟩
            have : Nat.beq k t = false := beq_ne hne
            simp [get, this, h1]
      · rcases get_cons ha with ⟨rfl, rfl⟩ | ⟨hne, ha⟩
        · exact .inl rfl
        · rcases ih hr ha with h1 | ⟨h1, h2⟩
          · exact .inl h1
          · refine .inr ⟨?_, h2⟩
            have : Nat.beq k t = false := beq_ne hne
            simp [get, this, h1]
theorem keepL?_spec {p : Nat → Nat → Bool} {cs cs' : List AV} (h : keepL? p cs = some cs') : cs'.length = cs.length ∧ ∀ (j : Nat) c, cs'[j]? = some c → c = .top ∨ (cs[j]? = some c ∧ ∀ f i, c.Refs f i → p f i = true) := by
  induction cs generalizing cs' with
  | nil => simp only [keepL?, Option.some.injEq] at h; subst h; simp
  | cons a r ih =>
    simp only [keepL?] at h
    split at h
    · cases h
    · rename_i r' hr
      obtain ⟨h1, h2⟩ := ih hr
      split at h <;> (injection h with h; subst h)
      · rename_i hx
        refine ⟨by simp [h1], fun j c hc => ?_⟩
        cases j with
        | zero => simp at hc; subst hc; exact .inr ⟨by simp, fun _ _ => AV.ok_spec hx⟩
        | succ j => simpa using h2 j c (by simpa using hc)
      · refine ⟨by simp [h1], fun j c hc => ?_⟩
        cases j with
        | zero => simp at hc; exact .inl hc.symm
        | succ j => simpa using h2 j c (by simpa using hc)

/-- Less is said of an object. -/
def AObj.Less (p : Nat → Nat → Bool) (o o' : AObj) : Prop := (∀ w O ρ v, SimObj w O ρ o v → SimObj w O ρ o' v) ∧ (∀ f i, o'.Refs f i → p f i = true) ∧ (∀ t cs, o = .blk t cs → ∃ cs', o' = .blk t cs') ∧ (∀ t cs, o' = .blk t cs → ∃ cs', o = .blk t cs')
theorem keepO?_spec {p : Nat → Nat → Bool} {o o' : AObj} (h : keepO? p o = some o') : o.Less p o' := by
  cases o with
  | blk t cs =>
    simp only [keepO?] at h
    split at h
    · cases h
    · rename_i cs' hcs
      injection h with h; subst h
      obtain ⟨h1, h2⟩ := keepL?_spec hcs
      refine ⟨fun w O ρ v ⟨b, us, hv, hh, hl, hr, ho⟩ => ⟨b, us, hv, hh, by omega, fun j c u hc hu => ?_, ho⟩, fun f i ⟨c, hc, hr⟩ => ?_, fun t' cs'' e => ?_, fun t' cs'' e => ?_⟩
      · rcases h2 j c hc with rfl | ⟨hc', _⟩
        · exact .top
        · exact hr j c u hc' hu
      · obtain ⟨j, hj, rfl⟩ := List.getElem_of_mem hc
        rcases h2 j _ (List.getElem?_eq_getElem hj) with h3 | ⟨_, h3⟩
        · rw [h3] at hr; cases hr
        · exact h3 f i hr
      · injection e with e1 e2; subst e1; exact ⟨_, rfl⟩
      · injection e with e1 e2; subst e1; exact ⟨_, rfl⟩
  | row t k xs =>
    simp only [keepO?] at h
    split at h
    · rename_i hx
      injection h with h; subst h
      refine ⟨fun _ _ _ _ h => h, fun f i ⟨x, hxm, c, hc, hr⟩ => okL_spec (List.all_eq_true.1 hx x hxm) hc hr, (fun _ _ e => by cases e), (fun _ _ e => by cases e)⟩
    · cases h
  | rowD t k xs =>
    simp only [keepO?, Option.some.injEq] at h
    subst h
    exact ⟨fun _ _ _ _ h => h, fun f i hr => hr.elim, (fun _ _ e => by cases e), (fun _ _ e => by cases e)⟩
theorem keepOs?_spec {p : Nat → Nat → Bool} {l l' : List AObj} (h : keepOs? p l = some l') : l'.length = l.length ∧ ∀ (j : Nat) o', l'[j]? = some o' → ∃ o, l[j]? = some o ∧ o.Less p o' := by
  induction l generalizing l' with
  | nil => simp only [keepOs?, Option.some.injEq] at h; subst h; simp
  | cons a r ih =>
    simp only [keepOs?] at h
    split at h
    · cases h
    · rename_i r' hr
      obtain ⟨h1, h2⟩ := ih hr
      split at h
      · cases h
      · rename_i o' ho
        injection h with h; subst h
        refine ⟨by simp [h1], fun j c hc => ?_⟩
        cases j with
        | zero => simp at hc; subst hc; exact ⟨a, by simp, keepO?_spec ho⟩
        | succ j => simpa using h2 j c (by simpa using hc)
theorem keepH?_spec {p : Nat → Nat → Bool} {hp hp' : List (Nat × List AObj)} (h : keepH? p hp = some hp') : (∀ g i o', hget hp' g i = some o' → ∃ o, hget hp g i = some o ∧ o.Less p o') ∧ ∀ g i o, hget hp g i = some o → ∃ o', hget hp' g i = some o' ∧ o.Less p o' := by
  induction hp generalizing hp' with
  | nil => simp only [keepH?, Option.some.injEq] at h; subst h; simp [hget, hfam]
  | cons q r ih =>
    obtain ⟨k, l⟩ := q
    simp only [keepH?] at h
    split at h
    · cases h
    · rename_i r' hr
      obtain ⟨h1, h2⟩ := ih hr
      split at h
      · cases h
      · rename_i l' hl
        injection h with h; subst h
        obtain ⟨h3, h4⟩ := keepOs?_spec hl
        refine ⟨fun g i o' hg => ?_, fun g i o hg => ?_⟩
        · by_cases e : k = g
          · subst e
            simp only [hget, hfam, Nat.beq_refl, Option.bind_some] at hg ⊢
            exact h4 i o' hg
          · have e' : Nat.beq k g = false := beq_ne e
            simp only [hget, hfam, e'] at hg ⊢
            exact h1 g i o' hg
        · by_cases e : k = g
          · subst e
            simp only [hget, hfam, Nat.beq_refl, Option.bind_some] at hg ⊢
            have : i < l'.length := by rw [h3]; exact (List.getElem?_eq_some_iff.1 hg).1
            obtain ⟨o2, h5, h6⟩ := h4 i _ (List.getElem?_eq_getElem this)
            rw [hg] at h5; injection h5 with h5; subst h5
            exact ⟨_, List.getElem?_eq_getElem this, h6⟩
          · have e' : Nat.beq k g = false := beq_ne e
            simp only [hget, hfam, e'] at hg ⊢
            exact h2 g i o hg

/-- References to one family. -/
def notFam (f g : Nat) (_i : Nat) : Bool := !(Nat.beq g f)
theorem notFam_spec {f g i : Nat} (h : notFam f g i = true) : g ≠ f := by
  rintro rfl
  simp [notFam] at h
abbrev killE? (f : Nat) := keepE? (notFam f)
abbrev killH? (f : Nat) := keepH? (notFam f)
abbrev norefL (f : Nat) := okL (notFam f)
theorem norefL_spec {f : Nat} {as : List AV} (h : norefL f as = true) {a : AV} (ha : a ∈ as) (i : Nat) : ¬ a.Refs f i := fun hr => notFam_spec (okL_spec h ha hr) rfl
theorem killE?_spec {f : Nat} {env env' : List (Nat × AV)} (h : killE? f env = some env') {t : Nat} {a : AV} (ha : get env' t = some a) : a = .top ∨ (get env t = some a ∧ ∀ i, ¬ a.Refs f i) :=
  (keepE?_spec h ha).imp id fun ⟨h1, h2⟩ => ⟨h1, fun i hr => notFam_spec (h2 f i hr) rfl⟩
theorem killH?_spec {f : Nat} {hp hp' : List (Nat × List AObj)} (h : killH? f hp = some hp') : (∀ g i o', hget hp' g i = some o' → ∃ o, hget hp g i = some o ∧ o.Less (notFam f) o') ∧ ∀ g i o, hget hp g i = some o → ∃ o', hget hp' g i = some o' ∧ o.Less (notFam f) o' := keepH?_spec h

theorem OwnB.same {ρ : Nat → Nat → Value} {hp hp' : List (Nat × List AObj)} (h : ∀ g i o', hget hp' g i = some o' → ∃ o, hget hp g i = some o) {b : Nat} (hb : OwnB ρ hp' b) : OwnB ρ hp b := by
  obtain ⟨f, i, o', h1, h2⟩ := hb
  obtain ⟨o, h3⟩ := h f i o' h1
  exact ⟨f, i, o, h3, h2⟩

/-- Less is said of the heap, of the same blocks. -/
theorem Heap.less {F : Fr} {hp hp' : List (Nat × List AObj)} {ρ : Nat → Nat → Value} {w : World} (h : Heap F hp ρ w)
    (h1 : ∀ g i o', hget hp' g i = some o' → ∃ o, hget hp g i = some o ∧ ∀ w O v, SimObj w O ρ o v → SimObj w O ρ o' v) (h2 : ∀ g i o, hget hp g i = some o → ∃ o', hget hp' g i = some o' ∧ ∀ t cs, o = .blk t cs → ∃ cs', o' = .blk t cs') : Heap F hp' ρ w := by
  have ho : ∀ b, F.O ρ hp' b ↔ F.O ρ hp b := fun b => ⟨fun h => h.imp id (OwnB.same fun g i o' ho => let ⟨o, a, _⟩ := h1 g i o' ho; ⟨o, a⟩), fun h => h.imp id (OwnB.same fun g i o ho => let ⟨o', a, _⟩ := h2 g i o ho; ⟨o', a⟩)⟩
  have hoe : F.O ρ hp' = F.O ρ hp := funext fun b => propext (ho b)
  refine ⟨fun f i o' hf => ?_, fun f i f' i' o o' b hf hf' => ?_, fun b hb => ?_, h.os, h.tape, h.output, h.size0, h.keep, fun f i b hp => ?_⟩
  · obtain ⟨o, ho, hl⟩ := h1 f i o' hf
    rw [hoe]
    exact hl _ _ _ (h.sim f i o ho)
  · obtain ⟨_, hf, _⟩ := h1 _ _ _ hf
    obtain ⟨_, hf', _⟩ := h1 _ _ _ hf'
    exact h.inj f i f' i' _ _ b hf hf'
  · exact h.mine b (OwnB.same (fun g i o' ho => let ⟨o, a, _⟩ := h1 g i o' ho; ⟨o, a⟩) hb)
  · obtain ⟨a1, t, cs, a2⟩ := h.pins f i b hp
    obtain ⟨o', a3, a4⟩ := h2 f i _ a2
    obtain ⟨cs', rfl⟩ := a4 t cs rfl
    exact ⟨a1, t, cs', a3⟩

/-- One object is new or is turned; it lies in its old block or in a new one; nobody else refers to it if it has moved. -/
theorem Heap.one {F : Fr} {hp hp' : List (Nat × List AObj)} {ρ ρ' : Nat → Nat → Value} {w w' : World} (h : Heap F hp ρ w) (f0 i0 : Nat) (o' : AObj)
    (hset : ∀ f i, hget hp' f i = if f = f0 ∧ i = i0 then some o' else hget hp f i)
    (hρ : ∀ f i, ¬ (f = f0 ∧ i = i0) → ρ' f i = ρ f i)
    (hblk : ∀ b, blkOf (ρ' f0 i0) = some b → ((∃ o, hget hp f0 i0 = some o) ∧ blkOf (ρ f0 i0) = some b) ∨ (w.heap.size ≤ b ∧ b < w'.heap.size))
    (hos : w'.os = w.os) (htape : w'.tape = w.tape) (hout : w'.output = w.output) (hs : w.heap.size ≤ w'.heap.size)
    (hb : ∀ b, b < w.heap.size → ¬ ((∃ o, hget hp f0 i0 = some o) ∧ blkOf (ρ f0 i0) = some b) → w'.heap[b]? = w.heap[b]?)
    (hrefs : ρ' f0 i0 = ρ f0 i0 ∨ ∀ f i o, hget hp f i = some o → ¬ (f = f0 ∧ i = i0) → ¬ o.Refs f0 i0)
    (hpin : ∀ b, F.pin f0 i0 = some b → ρ' f0 i0 = ρ f0 i0 ∧ ∃ t cs, o' = .blk t cs)
    (hsim : SimObj w' (F.O ρ' hp') ρ' o' (ρ' f0 i0)) : Heap F hp' ρ' w' := by
  have hown : ∀ b, OwnB ρ' hp' b → OwnB ρ hp b ∨ (w.heap.size ≤ b ∧ b < w'.heap.size) := fun b ⟨f, i, o, h1, h2⟩ => by
    by_cases e : f = f0 ∧ i = i0
    · obtain ⟨rfl, rfl⟩ := e
      rcases hblk b h2 with ⟨⟨o, ho⟩, h3⟩ | h3
      · exact .inl ⟨f, i, o, ho, h3⟩
      · exact .inr h3
    · rw [hset, if_neg e] at h1
      rw [hρ f i e] at h2
      exact .inl ⟨f, i, o, h1, h2⟩
  have hO : ∀ b, b < w.heap.size → F.O ρ' hp' b → F.O ρ hp b := fun b hlt ho => by
    rcases ho with ho | ho
    · exact .inl ho
    · rcases hown b ho with h1 | h1
      · exact .inr h1
      · omega
  have hbb : ∀ b, b < w.heap.size → ¬ F.O ρ hp b → w'.heap[b]? = w.heap[b]? := fun b hlt ho => hb b hlt fun ⟨⟨o, h1⟩, h2⟩ => ho (.inr ⟨f0, i0, o, h1, h2⟩)
  have hr' : ∀ f i (o : AObj), hget hp f i = some o → ¬ (f = f0 ∧ i = i0) → ∀ f' i', o.Refs f' i' → ρ' f' i' = ρ f' i' := fun f i o ho hne f' i' hr => by
    by_cases e : f' = f0 ∧ i' = i0
    · obtain ⟨rfl, rfl⟩ := e
      rcases hrefs with h1 | h1
      · exact h1
      · exact absurd hr (h1 f i o ho hne)
    · exact hρ f' i' e
  refine ⟨fun f i o hf => ?_, fun f i f' i' o o2 b hf hf' hv hv' => ?_, fun b hb' => ?_, hos.trans h.os, htape.trans h.tape, hout.trans h.output, Nat.le_trans h.size0 hs, fun b hlt hno => ?_, fun f i b hp => ?_⟩
  · by_cases e : f = f0 ∧ i = i0
    · obtain ⟨rfl, rfl⟩ := e
      rw [hset, if_pos ⟨rfl, rfl⟩] at hf
      injection hf with hf; subst hf; exact hsim
    · rw [hset, if_neg e] at hf
      rw [hρ f i e]
      refine (h.sim f i o hf).mono hs hbb hO (fun b hv => hb b (h.mine b ⟨f, i, o, hf, hv⟩).1 fun ⟨⟨o1, h1⟩, h2⟩ => e (h.inj f i f0 i0 o o1 b hf h1 hv h2)) (hr' f i o hf e)
  · by_cases e : f = f0 ∧ i = i0 <;> by_cases e' : f' = f0 ∧ i' = i0
    · exact ⟨e.1.trans e'.1.symm, e.2.trans e'.2.symm⟩
    · exfalso
      obtain ⟨rfl, rfl⟩ := e
      rw [hset, if_neg e'] at hf'
      rw [hρ _ _ e'] at hv'
      rcases hblk b hv with ⟨⟨o1, h1⟩, h2⟩ | h2
      · exact e' (h.inj f' i' f i o2 o1 b hf' h1 hv' h2)
      · have := (h.mine b ⟨f', i', o2, hf', hv'⟩).1; omega
    · exfalso
      obtain ⟨rfl, rfl⟩ := e'
      rw [hset, if_neg e] at hf
      rw [hρ _ _ e] at hv
      rcases hblk b hv' with ⟨⟨o1, h1⟩, h2⟩ | h2
      · exact e (h.inj f i f' i' o o1 b hf h1 hv h2)
      · have := (h.mine b ⟨f, i, o, hf, hv⟩).1; omega
    · rw [hset, if_neg e] at hf
      rw [hset, if_neg e'] at hf'
      rw [hρ _ _ e] at hv
      rw [hρ _ _ e'] at hv'
      exact h.inj f i f' i' o o2 b hf hf' hv hv'
  · rcases hown b hb' with h1 | h1
    · have := h.mine b h1
      exact ⟨by omega, this.2⟩
    · exact ⟨h1.2, .inr (Nat.le_trans h.size0 h1.1)⟩
  · rw [← h.keep b hlt hno]
    have hlt' : b < w.heap.size := Nat.lt_of_lt_of_le hlt h.size0
    refine hb b hlt' fun ⟨⟨o, h1⟩, h2⟩ => ?_
    rcases (h.mine b ⟨f0, i0, o, h1, h2⟩).2 with h3 | h3
    · exact hno h3
    · omega
  · obtain ⟨a1, t, cs, a2⟩ := h.pins f i b hp
    by_cases e : f = f0 ∧ i = i0
    · obtain ⟨rfl, rfl⟩ := e
      obtain ⟨a3, t', cs', rfl⟩ := hpin b hp
      exact ⟨a3.trans a1, t', cs', by rw [hset, if_pos ⟨rfl, rfl⟩]⟩
    · exact ⟨(hρ f i e).trans a1, t, cs, by rw [hset, if_neg e]; exact a2⟩

end Go.Proofs.Ytjbghmlofjkcfaa
