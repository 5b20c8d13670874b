/- The abstract state: frozen data as trees (D), values with references to what the call owns (AV), owned objects by name; how a world and a frame represent it. No program in sight. -/
import Derived.Test.YtgdppeobgefogaaMg1
import Derived.Deep.MidRow
import Derived.Laws.Panics
import Derived.RangeFuncLeaves
import Derived.RangeFuncRecord
import Derived.TacticsIn
import Derived.RangeFuncCalls
import Derived.OrdersIn
namespace Go.Proofs.Ytgdppeobgefogaa
open Go.RowKit

theorem ZaV {a b : Nat} (h : a ≠ b) : Nat.beq a b = false := by
  cases hh : Nat.beq a b with
  | false => rfl
  | true => exact absurd (Nat.eq_of_beq_eq_true hh) h

inductive D where
  | raw (v : Value)
  | sl (nil : Option Bool) (xs : List D)
  | agg (cs : List D)
  | ptr (x : D)
  | tup (cs : List D)
  | fn (g : FuncId) (fs caps : List D)

def D.cells : D → List D
  | .agg cs => cs
  | x => [x]
def D.one : D → Bool
  | .agg _ => false
  | .tup _ => false
  | _ => true

inductive RepD (w : World) (O : Nat → Prop) : D → Value → Prop
  | raw {v : Value} (h : v.oneCell' = true) : RepD w O (.raw v) v
  | agg {cs : List D} {vs : List Value} (hl : vs.length = cs.length) (h1 : ∀ c ∈ cs, c.one = true) (h : ∀ (i : Nat) c v, cs[i]? = some c → vs[i]? = some v → RepD w O c v) : RepD w O (.agg cs) (.agg vs.toArray)
  | tup {cs : List D} {vs : List Value} (hl : vs.length = cs.length) (h : ∀ (i : Nat) c v, cs[i]? = some c → vs[i]? = some v → RepD w O c v) : RepD w O (.tup cs) (.tuple vs.toArray)
  | ptr {x : D} {b o : Nat} (us : Nat → Value) (hb : b < w.heap.size) (hO : ¬ O b) (h1 : ∀ c ∈ x.cells, c.one = true)
      (hc : ∀ (j : Nat) c, x.cells[j]? = some c → w.cell? ⟨b, o + j, none⟩ = some (us j)) (hu : ∀ (j : Nat) c, x.cells[j]? = some c → RepD w O c (us j)) : RepD w O (.ptr x) (.pointer (some ⟨b, o, none⟩))
  | sl {nil : Option Bool} {xs : List D} {a : Option Addr} {n cap : Nat} (k : Nat) (hn : ∀ b, nil = some b → a.isNone = b) (hz : a = none → cap = 0) (hln : xs.length = n) (hc : n ≤ cap) (hm : cap ≤ maxLen) (hk : ∀ x ∈ xs, x.cells.length = k)
      (ha : xs ≠ [] → ∃ b o, a = some ⟨b, o, none⟩)
      (hp : ∀ b o, a = some ⟨b, o, none⟩ → ∀ (i : Nat) x, xs[i]? = some x → RepD w O (.ptr x) (.pointer (some ⟨b, o + i * k, none⟩))) : RepD w O (.sl nil xs) (.slice a n cap)
  | fn {g : FuncId} {fs caps : List D} {us vs : List Value} (hf : us.length = fs.length) (hl : vs.length = caps.length) (h1 : ∀ (i : Nat) c v, fs[i]? = some c → us[i]? = some v → RepD w O c v) (h : ∀ (i : Nat) c v, caps[i]? = some c → vs[i]? = some v → RepD w O c v) : RepD w O (.fn g fs caps) (.func (.func g) us.toArray vs.toArray)

theorem RepD.mono {w w' : World} {O O' : Nat → Prop} (hs : w.heap.size ≤ w'.heap.size) (hb : ∀ b, b < w.heap.size → ¬ O b → w'.heap[b]? = w.heap[b]?) (hO : ∀ b, b < w.heap.size → O' b → O b)
    {x : D} {v : Value} (h : RepD w O x v) : RepD w' O' x v := by
  induction h with
  | raw h => exact .raw h
  | agg hl h1 _ ih => exact .agg hl h1 ih
  | tup hl _ ih => exact .tup hl ih
  | ptr us h0 h1 h2 h3 _ ih =>
    refine .ptr us (by omega) (fun h => h1 (hO _ h0 h)) h2 (fun j c hj => ?_) ih;rw [World.cell?_of_block (w := w) (hb _ h0 h1)]; exact h3 j c hj
  | sl k hn hz hln hc hm hk ha _ ih => exact .sl k hn hz hln hc hm hk ha ih
  | fn hf hl _ _ ih1 ih => exact .fn hf hl ih1 ih

theorem RepD.oneCell {w : World} {O : Nat → Prop} {x : D} {v : Value} (h : RepD w O x v) (h1 : x.one = true) : v.oneCell' = true := by
  cases h with
  | raw h => exact h
  | agg _ _ _ => cases h1
  | tup _ _ => cases h1
  | ptr _ _ _ _ _ _ => rfl
  | sl _ _ _ _ _ _ _ _ _ => rfl
  | fn _ _ _ _ => rfl

inductive AV where
  | d (x : D)
  | top
  | tup (as : List AV)
  | agg (as : List AV)
  | ptr (f i off : Nat)
  | own (f i n : Nat)
  | rptr (f i k e off : Nat)
  | map (f i : Nat)
  | fn (g : FuncId) (caps : List AV)
  | ifc (T : TypeId) (nm : Option String) (f i : Nat)

def ifcV (T : TypeId) (nm : Option String) (b : Nat) : Value := match nm with
  | none => .iface T (.pointer (some ⟨b, 0, none⟩))
  | some s => .func (.method s) #[.iface T (.pointer (some ⟨b, 0, none⟩))] #[]

inductive RepA (w : World) (O : Nat → Prop) (ρ : Nat → Nat → Value) : AV → Value → Prop
  | d {x : D} {v : Value} (h : RepD w O x v) : RepA w O ρ (.d x) v
  | top {v : Value} : RepA w O ρ .top v
  | tup {as : List AV} {vs : List Value} (hl : vs.length = as.length) (h : ∀ (i : Nat) a v, as[i]? = some a → vs[i]? = some v → RepA w O ρ a v) : RepA w O ρ (.tup as) (.tuple vs.toArray)
  | agg {as : List AV} {vs : List Value} (hl : vs.length = as.length) (h1 : ∀ v ∈ vs, v.oneCell' = true) (h : ∀ (i : Nat) a v, as[i]? = some a → vs[i]? = some v → RepA w O ρ a v) : RepA w O ρ (.agg as) (.agg vs.toArray)
  | ptr {f i off b : Nat} (h : ρ f i = .pointer (some ⟨b, 0, none⟩)) : RepA w O ρ (.ptr f i off) (.pointer (some ⟨b, off, none⟩))
  | own {f i n N cap : Nat} {a : Option Addr} (h : ρ f i = .slice a N cap) (hn : n ≤ N) : RepA w O ρ (.own f i n) (.slice a n cap)
  | rptr {f i k e off b N cap : Nat} (h : ρ f i = .slice (some ⟨b, 0, none⟩) N cap) : RepA w O ρ (.rptr f i k e off) (.pointer (some ⟨b, e * k + off, none⟩))
  | map {f i m : Nat} (h : ρ f i = .map (some m)) : RepA w O ρ (.map f i) (.map (some m))
  | ifc {T : TypeId} {nm : Option String} {f i b : Nat} (h : ρ f i = .pointer (some ⟨b, 0, none⟩)) : RepA w O ρ (.ifc T nm f i) (ifcV T nm b)
  | fn {g : FuncId} {caps : List AV} {vs : List Value} (hl : vs.length = caps.length) (h : ∀ (i : Nat) a v, caps[i]? = some a → vs[i]? = some v → RepA w O ρ a v) : RepA w O ρ (.fn g caps) (.func (.func g) #[] vs.toArray)

inductive AV.Refs : AV → Nat → Nat → Prop
  | tup {as : List AV} {a : AV} {f i : Nat} (hm : a ∈ as) (h : a.Refs f i) : (AV.tup as).Refs f i
  | agg {as : List AV} {a : AV} {f i : Nat} (hm : a ∈ as) (h : a.Refs f i) : (AV.agg as).Refs f i
  | fn {g : FuncId} {as : List AV} {a : AV} {f i : Nat} (hm : a ∈ as) (h : a.Refs f i) : (AV.fn g as).Refs f i
  | ptr {f i off : Nat} : (AV.ptr f i off).Refs f i
  | own {f i n : Nat} : (AV.own f i n).Refs f i
  | rptr {f i k e off : Nat} : (AV.rptr f i k e off).Refs f i
  | map {f i : Nat} : (AV.map f i).Refs f i
  | ifc {T : TypeId} {nm : Option String} {f i : Nat} : (AV.ifc T nm f i).Refs f i

theorem RepA.mono {w w' : World} {O O' : Nat → Prop} {ρ ρ' : Nat → Nat → Value} (hs : w.heap.size ≤ w'.heap.size) (hb : ∀ b, b < w.heap.size → ¬ O b → w'.heap[b]? = w.heap[b]?) (hO : ∀ b, b < w.heap.size → O' b → O b)
    {a : AV} {v : Value} (h : RepA w O ρ a v) (hr : ∀ f i, a.Refs f i → ρ' f i = ρ f i) : RepA w' O' ρ' a v := by
  induction h with
  | d h => exact .d (h.mono hs hb hO)
  | top => exact .top
  | tup hl _ ih => exact .tup hl fun i a v ha hv => ih i a v ha hv fun f j hj => hr f j (.tup (List.mem_of_getElem? ha) hj)
  | agg hl h1 _ ih => exact .agg hl h1 fun i a v ha hv => ih i a v ha hv fun f j hj => hr f j (.agg (List.mem_of_getElem? ha) hj)
  | ptr h => exact .ptr ((hr _ _ .ptr).trans h)
  | own h hn => exact .own ((hr _ _ .own).trans h) hn
  | rptr h => exact .rptr ((hr _ _ .rptr).trans h)
  | map h => exact .map ((hr _ _ .map).trans h)
  | ifc h => exact .ifc ((hr _ _ .ifc).trans h)
  | fn hl _ ih => exact .fn hl fun i a v ha hv => ih i a v ha hv fun f j hj => hr f j (.fn (List.mem_of_getElem? ha) hj)

def get : List (Nat × AV) → Nat → Option AV
  | [], _ => none
  | (k, v) :: r, t => match Nat.beq k t with
    | true => some v
    | false => get r t
structure ALoop where
  id : Nat
  n : Nat
  env : List (Nat × AV)
  st : LoopState
  pend : Option Code
  ps : Array Tmp
  asg : Code
  body : Code

inductive MObj where
  | cells (t : TypeId) (cs : List D)
  | row (t : TypeId) (k cap : Nat) (xs : List D)
inductive AObj where
  | blk (t : TypeId) (cs : List AV)
  | row (t : TypeId) (k : Nat) (xs : List AV)
  | rowD (t : TypeId) (k : Nat) (xs : List D)
  | loop (L : ALoop)
  | map (bs : Option (List Nat × Nat)) (es : List (D × D))
  | iter (f i : Nat) (c : Nat) (seen : List Nat)
  | addr (f i : Nat) (v : Value)
  | any
  | nb (b : Nat) (t : TypeId) (cs : List D)
  | nr (b : Nat) (t : TypeId) (k cap : Nat) (xs : List D)
  | multi (M : Nat → Option MObj)

def AV.cells : AV → List AV
  | .agg cs => cs
  | .d (.agg cs) => cs.map .d
  | a => [a]

def Lies {α : Type} (cells : α → List α) (k : Nat) (R : α → Value → Prop) (xs : List α) (us : List Value) : Prop :=
  us.length = xs.length * k ∧ (∀ x ∈ xs, (cells x).length = k) ∧ ∀ (i : Nat) x, xs[i]? = some x → ∀ (j : Nat) c, (cells x)[j]? = some c → ∃ u, us[i * k + j]? = some u ∧ u.oneCell' = true ∧ R c u

def SimObj (w : World) (O : Nat → Prop) (ρ : Nat → Nat → Value) : AObj → Value → Prop
  | .blk t cs, v => ∃ (b : Nat) (us : List Value), v = .pointer (some ⟨b, 0, none⟩) ∧ w.heap[b]? = some (.cells us.toArray t (0, 0)) ∧ us.length = cs.length ∧
      (∀ (j : Nat) c u, cs[j]? = some c → us[j]? = some u → RepA w O ρ c u) ∧ ∀ u ∈ us, u.oneCell' = true
  | .row t k xs, v => ∃ us : List Value, w.ownsRow 0 t k v xs.length us ∧ Lies AV.cells k (RepA w O ρ) xs us
  | .rowD t k xs, v => ∃ us : List Value, w.ownsRow 0 t k v xs.length us ∧ Lies D.cells k (RepD w O) xs us ∧ ∀ x ∈ xs, ∀ c ∈ x.cells, c.one = true

  | .loop L, v => ∃ r : Loop, v = .pointer (some ⟨L.id, 0, none⟩) ∧ w.heap[L.id]? = some (.loop r) ∧ (r.state = L.st ∧ r.pending = L.pend ∧ r.params = L.ps ∧ r.assign = L.asg ∧ r.body = L.body) ∧ r.tmps.size = L.n ∧
      ∀ t a, get L.env t = some a → RepA w O ρ a (r.tmps.getD t undef)
  | .map bs es, v => ∃ (m : Nat) (arr : Array MapEntry) (c : Nat), v = .map (some m) ∧ w.heap[m]? = some (.map arr c) ∧ arr.size = es.length ∧ (∀ (i : Nat) e x, arr[i]? = some e → es[i]? = some x → RepD w O x.1 e.key ∧ RepD w O x.2 e.val) ∧
      (arr.toList.map (·.born)).Nodup ∧ (∀ e ∈ arr.toList, e.born < c) ∧ ∀ B c', bs = some (B, c') → B = arr.toList.map (·.born) ∧ c' = c
  | .iter f i c seen, v => ∃ (r m : Nat) (sn : Array Nat), v = .pointer (some ⟨r, 0, none⟩) ∧ ρ f i = .map (some m) ∧ w.heap[r]? = some (.mapIter (some m) c sn c) ∧ sn.toList = seen
  | .addr f i v, u => u = .nilFunc ∧ ρ f i = v
  | .any, _ => True
  | .nb b t cs, v => v = .pointer (some ⟨b, 0, none⟩) ∧ ∃ us : List Value, w.heap[b]? = some (.cells us.toArray t (0, 0)) ∧ us.length = cs.length ∧ (∀ (j : Nat) c u, cs[j]? = some c → us[j]? = some u → RepD w O c u) ∧ ∀ u ∈ us, u.oneCell' = true
  | .nr b t k cap xs, v => v = .pointer (some ⟨b, 0, none⟩) ∧ ∃ us : List Value, w.ownsRow 0 t k (.slice (some ⟨b, 0, none⟩) xs.length cap) xs.length us ∧ Lies D.cells k (RepD w O) xs us ∧ ∀ x ∈ xs, ∀ c ∈ x.cells, c.one = true
  | .multi _, _ => True
def MObj.at_ (b : Nat) : MObj → AObj
  | .cells t cs => .nb b t cs
  | .row t k cap xs => .nr b t k cap xs

def AObj.Refs : AObj → Nat → Nat → Prop
  | .blk _ cs, f, i => ∃ c ∈ cs, c.Refs f i
  | .row _ _ xs, f, i => ∃ x ∈ xs, ∃ c ∈ x.cells, c.Refs f i
  | .rowD _ _ _, _, _ => False
  | .loop L, f, i => ∃ t a, get L.env t = some a ∧ a.Refs f i
  | .map _ _, _, _ => False
  | .iter g j _ _, f, i => f = g ∧ i = j
  | .addr g j _, f, i => f = g ∧ i = j
  | .any, _, _ => False
  | .nb _ _ _, _, _ => False
  | .nr _ _ _ _ _, _, _ => False
  | .multi _, _, _ => False

def blkOf : Value → Option Nat
  | .pointer (some a) => some a.block
  | .slice (some a) _ _ => some a.block
  | .map m => m
  | _ => none

theorem ownsRow_same {w w' : World} {base : Nat} {e : TypeId} {size n : Nat} {v : Value} {xs : List Value} (h : w.ownsRow base e size v n xs) (hb : ∀ b, blkOf v = some b → w'.heap[b]? = w.heap[b]?) : w'.ownsRow base e size v n xs := by
  refine ⟨h.1, ?_⟩;rcases h.2 with h' | ⟨g, cap, cur, h1, h2, h3, h4⟩
  · exact .inl h'
  · exact .inr ⟨g, cap, cur, h1, h2, by rw [hb g (by rw [h1]; rfl)]; exact h3, h4⟩

theorem Lies.mono {α : Type} {cells : α → List α} {k : Nat} {R R' : α → Value → Prop} {xs : List α} {us : List Value} (h : Lies cells k R xs us) (hr : ∀ x ∈ xs, ∀ c ∈ cells x, ∀ u, R c u → R' c u) : Lies cells k R' xs us :=
  ⟨h.1, h.2.1, fun i x hx j c hc => by
    obtain ⟨u, h1, h2, h3⟩ := h.2.2 i x hx j c hc
    exact ⟨u, h1, h2, hr x (List.mem_of_getElem? hx) c (List.mem_of_getElem? hc) u h3⟩⟩

theorem SimObj.mono {w w' : World} {O O' : Nat → Prop} {ρ ρ' : Nat → Nat → Value} (hs : w.heap.size ≤ w'.heap.size) (hb : ∀ b, b < w.heap.size → ¬ O b → w'.heap[b]? = w.heap[b]?) (hO : ∀ b, b < w.heap.size → O' b → O b)
    {o : AObj} {v : Value} (h : SimObj w O ρ o v) (hv : ∀ b, blkOf v = some b → w'.heap[b]? = w.heap[b]?) (hr : ∀ f i, o.Refs f i → ρ' f i = ρ f i) : SimObj w' O' ρ' o v := by
  cases o with
  | blk t cs =>
    obtain ⟨b, us, rfl, h1, h2, h3, h4⟩ := h;exact ⟨b, us, rfl, by rw [hv b rfl]; exact h1, h2, fun j c u hc hu => (h3 j c u hc hu).mono hs hb hO fun f i hf => hr f i ⟨c, List.mem_of_getElem? hc, hf⟩, h4⟩
  | row t k xs =>
    obtain ⟨us, h1, h2⟩ := h;exact ⟨us, ownsRow_same h1 hv, h2.mono fun x hx c hc u hu => hu.mono hs hb hO fun f i hf => hr f i ⟨x, hx, c, hc, hf⟩⟩
  | rowD t k xs =>
    obtain ⟨us, h1, h2, h3⟩ := h;exact ⟨us, ownsRow_same h1 hv, h2.mono fun x hx c hc u hu => hu.mono hs hb hO, h3⟩
  | loop L =>
    obtain ⟨r, rfl, h1, h2, h3, h4⟩ := h;exact ⟨r, rfl, by rw [hv _ rfl]; exact h1, h2, h3, fun t a ha => (h4 t a ha).mono hs hb hO fun f i hf => hr f i ⟨t, a, ha, hf⟩⟩
  | map bs es =>
    obtain ⟨m, arr, c, rfl, h1, h2, h3, h4, h5, h6⟩ := h;exact ⟨m, arr, c, rfl, by rw [hv _ rfl]; exact h1, h2, fun i e x he hx => ⟨(h3 i e x he hx).1.mono hs hb hO, (h3 i e x he hx).2.mono hs hb hO⟩, h4, h5, h6⟩
  | iter f i c seen =>
    obtain ⟨r, m, sn, rfl, h1, h2, h3⟩ := h;exact ⟨r, m, sn, rfl, (hr f i ⟨rfl, rfl⟩).trans h1, by rw [hv _ rfl]; exact h2, h3⟩
  | addr f i u => exact ⟨h.1, (hr f i ⟨rfl, rfl⟩).trans h.2⟩
  | any => trivial
  | nb b t cs =>
    obtain ⟨rfl, us, h1, h2, h3, h4⟩ := h;exact ⟨rfl, us, by rw [hv _ rfl]; exact h1, h2, fun j c u hc hu => (h3 j c u hc hu).mono hs hb hO, h4⟩
  | nr b t k cap xs =>
    obtain ⟨rfl, us, h1, h2, h3⟩ := h;exact ⟨rfl, us, ownsRow_same h1 hv, h2.mono fun x hx c hc u hu => hu.mono hs hb hO, h3⟩
  | multi M => trivial

structure AS where
  n : Nat
  env : List (Nat × AV)
  hp : List (Nat × List AObj)

def hfam : List (Nat × List AObj) → Nat → Option (List AObj)
  | [], _ => none
  | (k, v) :: r, t => match Nat.beq k t with
    | true => some v
    | false => hfam r t
def hpN : List (Nat × List AObj) → List Nat
  | [] => []
  | (f, _) :: r => f :: hpN r
theorem hpN_mem {hp : List (Nat × List AObj)} {f : Nat} {l : List AObj} (h : hfam hp f = some l) : f ∈ hpN hp := by
  induction hp with
  | nil => cases h
  | cons p r ih =>
    obtain ⟨k, x⟩ := p;simp only [hfam] at h
    split at h
    · rename_i hk; exact List.mem_cons.2 (.inl (Nat.eq_of_beq_eq_true hk).symm)
    · exact List.mem_cons.2 (.inr (ih h))
def isM : List AObj → Option (Nat → Option MObj)
  | [o] => match o with
    | .multi M => some M
    | _ => none
  | _ => none
def gl (l : List AObj) (i : Nat) : Option AObj := match isM l with
  | some M => (M i).map (MObj.at_ i)
  | none => l[i]?
def notM : AObj → Bool
  | .multi _ => false
  | _ => true
theorem isM_one {o : AObj} (h : notM o = true) : isM [o] = none := by cases o <;> first | rfl | cases h
theorem gl_one {o : AObj} (h : notM o = true) (i : Nat) : gl [o] i = [o][i]? := by unfold gl; rw [isM_one h]
theorem isM_some {l : List AObj} {M : Nat → Option MObj} (h : isM l = some M) : l = [.multi M] := by
  match l, h with
  | [o], h => cases o <;> first | (injection h with h; subst h; rfl) | cases h
  | [], h => cases h
  | _ :: _ :: _, h => cases h
theorem MObj.norefs {b : Nat} {m : MObj} {f i : Nat} : ¬ (m.at_ b).Refs f i := by cases m <;> exact fun h => h
theorem MObj.notBlk {b : Nat} {m : MObj} {t : TypeId} {cs : List AV} : m.at_ b ≠ .blk t cs := by cases m <;> exact fun h => by cases h
theorem gl_mem {l : List AObj} {i : Nat} {o : AObj} (h : gl l i = some o) : o ∈ l ∨ ∃ (M : Nat → Option MObj) (m : MObj), l = [.multi M] ∧ M i = some m ∧ o = m.at_ i := by
  unfold gl at h
  split at h
  · rename_i M hM
    cases hm : M i with
    | none => rw [hm] at h; cases h
    | some m => rw [hm] at h; injection h with h; exact .inr ⟨M, m, isM_some hM, hm, h.symm⟩
  · exact .inl (List.mem_of_getElem? h)
def hget (hp : List (Nat × List AObj)) (f i : Nat) : Option AObj := (hfam hp f).bind (gl · i)

structure Fr where
  rnd : Option Nat
  lo : Nat
  w0 : World
  Of : Nat → Prop
  own0 : Nat → Prop
  pin : Nat → Nat → Option Nat
  hOf : ∀ b, Of b → b < w0.heap.size ∧ ¬ own0 b
  pn : List Nat
  hpn : ∀ f i b, pin f i = some b → f ∈ pn

def OwnB (ρ : Nat → Nat → Value) (hp : List (Nat × List AObj)) (b : Nat) : Prop := ∃ f i o, hget hp f i = some o ∧ blkOf (ρ f i) = some b
def Fr.O (F : Fr) (ρ : Nat → Nat → Value) (hp : List (Nat × List AObj)) (b : Nat) : Prop := F.Of b ∨ OwnB ρ hp b

structure Heap (F : Fr) (hp : List (Nat × List AObj)) (ρ : Nat → Nat → Value) (w : World) : Prop where
  sim : ∀ f i o, hget hp f i = some o → SimObj w (F.O ρ hp) ρ o (ρ f i)
  inj : ∀ f i f' i' o o' b, hget hp f i = some o → hget hp f' i' = some o' → blkOf (ρ f i) = some b → blkOf (ρ f' i') = some b → f = f' ∧ i = i'
  mine : ∀ b, OwnB ρ hp b → b < w.heap.size ∧ (F.own0 b ∨ F.w0.heap.size ≤ b)
  os : w.os = F.w0.os
  tape : w.tape = F.w0.tape
  output : w.output = F.w0.output
  size0 : F.w0.heap.size ≤ w.heap.size
  keep : ∀ b, b < F.w0.heap.size → ¬ F.own0 b → w.heap[b]? = F.w0.heap[b]?
  pins : ∀ f i b, F.pin f i = some b → ρ f i = .pointer (some ⟨b, 0, none⟩) ∧ ∃ t cs, hget hp f i = some (.blk t cs)
  drawn : F.w0.drawn ≤ w.drawn

def markOf (b : Nat) : Deferred := { target := .collected b, args := #[] }
def DefsOK (m : Nat) (w : World) (O : Nat → Prop) (ds : List Deferred) : Prop := ∃ bs : List Nat, ds = bs.map markOf ∧ bs.Nodup ∧ ∀ b ∈ bs, m ≤ b ∧ b < w.heap.size ∧ ¬ O b ∧ w.heap[b]? = some (.deferred (some []))
theorem DefsOK.nil {m : Nat} {w : World} {O : Nat → Prop} : DefsOK m w O [] := ⟨[], rfl, List.nodup_nil, fun _ h => by cases h⟩
theorem DefsOK.mono {m : Nat} {w w' : World} {O O' : Nat → Prop} {ds : List Deferred} (h : DefsOK m w O ds) (hs : w.heap.size ≤ w'.heap.size) (hb : ∀ b, b < w.heap.size → ¬ O b → w'.heap[b]? = w.heap[b]?) (hO : ∀ b, b < w.heap.size → O' b → O b) : DefsOK m w' O' ds := by
  obtain ⟨bs, h1, h2, h3⟩ := h;refine ⟨bs, h1, h2, fun b hm => ?_⟩;obtain ⟨h4, h5, h6, h7⟩ := h3 b hm;exact ⟨h4, by omega, fun h => h6 (hO b h5 h), (hb b h5 h6).trans h7⟩

structure SR (F : Fr) (s : AS) (ρ : Nat → Nat → Value) (act : Act) (w : World) : Prop where
  size : act.tmps.size = s.n
  defs : DefsOK F.lo w (F.O ρ s.hp) act.defers
  env : ∀ t a, get s.env t = some a → RepA w (F.O ρ s.hp) ρ a (act.tmps.getD t undef)
  heap : Heap F s.hp ρ w

theorem Heap.notOf {F : Fr} {hp : List (Nat × List AObj)} {ρ : Nat → Nat → Value} {w : World} (h : Heap F hp ρ w) {b : Nat} (hb : OwnB ρ hp b) : ¬ F.Of b := fun ho => by
  have h1 := F.hOf b ho;have h2 := (h.mine b hb).2;rcases h2 with h2 | h2
  · exact h1.2 h2
  · omega

theorem getD_put_same {act : Act} {d : Nat} {v : Value} (h : d < act.tmps.size) : (act.put (some d) v).tmps.getD d undef = v := by
  simp [Act.put, Array.getD, h]
theorem getD_put_ne {act : Act} {d t : Nat} {v : Value} (h : d ≠ t) : (act.put (some d) v).tmps.getD t undef = act.tmps.getD t undef := by
  simp only [Act.put, Array.getD_eq_getD_getElem?];rw [Array.getElem?_setIfInBounds_ne h]

def AS.put (s : AS) (d : Nat) (a : AV) : AS := ⟨s.n, (d, a) :: s.env, s.hp⟩
theorem Zbn {k : Nat} {v : AV} {r : List (Nat × AV)} {t : Nat} {a : AV} (h : get ((k, v) :: r) t = some a) : (k = t ∧ v = a) ∨ (k ≠ t ∧ get r t = some a) := by
  unfold get at h
  split at h
  · rename_i hk
    exact .inl ⟨by simpa using hk, by injection h⟩
  · rename_i hk
    exact .inr ⟨Nat.ne_of_beq_eq_false hk, h⟩

theorem SR.put {F : Fr} {s : AS} {ρ : Nat → Nat → Value} {act : Act} {w : World} (h : SR F s ρ act w) {d : Nat} (hd : d < s.n) {a : AV} {v : Value} (ha : RepA w (F.O ρ s.hp) ρ a v) : SR F (s.put d a) ρ (act.put (some d) v) w where
  size := by have := h.size; simpa [Act.put, AS.put] using this
  defs := h.defs
  env := fun t x hx => by
    rcases Zbn hx with ⟨rfl, rfl⟩ | ⟨hne, hx⟩
    · rw [getD_put_same (by rw [h.size]; exact hd)]; exact ha
    · rw [getD_put_ne hne]; exact h.env t x hx
  heap := h.heap

def AV.okS (p : Nat → Nat → Bool) : AV → Bool
  | .d _ => true
  | .top => true
  | .ptr g i _ => p g i
  | .own g i _ => p g i
  | .rptr g i _ _ _ => p g i
  | .map g i => p g i
  | .ifc _ _ g i => p g i
  | _ => false
def okL (p : Nat → Nat → Bool) : List AV → Bool
  | [] => true
  | a :: r => a.okS p && okL p r
def AV.ok (p : Nat → Nat → Bool) : AV → Bool
  | .tup as => okL p as
  | .agg as => okL p as
  | .fn _ as => okL p as
  | a => a.okS p
theorem AV.okS_spec {p : Nat → Nat → Bool} {a : AV} (h : a.okS p = true) {f i : Nat} (hr : a.Refs f i) : p f i = true := by
  cases hr with
  | tup _ _ => simp [AV.okS] at h
  | agg _ _ => simp [AV.okS] at h
  | fn _ _ => simp [AV.okS] at h
  | ptr => exact h
  | own => exact h
  | rptr => exact h
  | map => exact h
  | ifc => exact h
theorem okL_spec {p : Nat → Nat → Bool} {as : List AV} (h : okL p as = true) {a : AV} (ha : a ∈ as) {f i : Nat} (hr : a.Refs f i) : p f i = true := by
  induction as with
  | nil => cases ha
  | cons x r ih =>
    simp only [okL, Bool.and_eq_true] at h;rcases List.mem_cons.1 ha with rfl | ha
    · exact AV.okS_spec h.1 hr
    · exact ih h.2 ha
theorem AV.ok_spec {p : Nat → Nat → Bool} {a : AV} (h : a.ok p = true) {f i : Nat} (hr : a.Refs f i) : p f i = true := by
  cases hr with
  | tup hm hr => exact okL_spec h hm hr
  | agg hm hr => exact okL_spec h hm hr
  | fn hm hr => exact okL_spec h hm hr
  | ptr => exact h
  | own => exact h
  | rptr => exact h
  | map => exact h
  | ifc => exact h

def okC (p : Nat → Nat → Bool) : List AV → Bool
  | [] => true
  | a :: r => a.ok p && okC p r
theorem okC_spec {p : Nat → Nat → Bool} {as : List AV} (h : okC p as = true) {a : AV} (ha : a ∈ as) {f i : Nat} (hr : a.Refs f i) : p f i = true := by
  induction as with
  | nil => cases ha
  | cons x r ih =>
    simp only [okC, Bool.and_eq_true] at h;rcases List.mem_cons.1 ha with rfl | ha
    · exact AV.ok_spec h.1 hr
    · exact ih h.2 ha

def okEnv (p : Nat → Nat → Bool) : List (Nat × AV) → Bool
  | [] => true
  | (_, a) :: r => a.ok p && okEnv p r
theorem okEnv_spec {p : Nat → Nat → Bool} {env : List (Nat × AV)} (h : okEnv p env = true) {t : Nat} {a : AV} (ha : get env t = some a) {f i : Nat} (hr : a.Refs f i) : p f i = true := by
  induction env with
  | nil => cases ha
  | cons q r ih =>
    obtain ⟨k, x⟩ := q;simp only [okEnv, Bool.and_eq_true] at h;rcases Zbn ha with ⟨rfl, rfl⟩ | ⟨_, ha⟩
    · exact AV.ok_spec h.1 hr
    · exact ih h.2 ha

def keepE? (p : Nat → Nat → Bool) : List (Nat × AV) → Option (List (Nat × AV))
  | [] => some []
  | (t, a) :: r => match keepE? p r with
    | none => none
    | some r' => match a.ok p with
      | true => some ((t, a) :: r')
      | false => some ((t, .top) :: r')
def keepL? (p : Nat → Nat → Bool) : List AV → Option (List AV)
  | [] => some []
  | a :: r => match keepL? p r with
    | none => none
    | some r' => match a.ok p with
      | true => some (a :: r')
      | false => some (.top :: r')
def keepO? (p : Nat → Nat → Bool) : AObj → Option AObj
  | .blk t cs => match keepL? p cs with
    | none => none
    | some cs' => some (.blk t cs')
  | .row t k xs => match xs.all (fun x => okL p x.cells) with
    | true => some (.row t k xs)
    | false => none
  | .rowD t k xs => some (.rowD t k xs)
  | .loop L => match keepE? p L.env with
    | none => none
    | some e => some (.loop { L with env := e })
  | .map bs es => some (.map bs es)
  | .iter f i c seen => match p f i with
    | true => some (.iter f i c seen)
    | false => some .any
  | .addr f i v => match p f i with
    | true => some (.addr f i v)
    | false => some .any
  | .any => some .any
  | .nb b t cs => some (.nb b t cs)
  | .nr b t k cap xs => some (.nr b t k cap xs)
  | .multi M => some (.multi M)
def keepOs? (p : Nat → Nat → Bool) : List AObj → Option (List AObj)
  | [] => some []
  | o :: r => match keepOs? p r with
    | none => none
    | some r' => match keepO? p o with
      | none => none
      | some o' => some (o' :: r')
def keepH? (p : Nat → Nat → Bool) : List (Nat × List AObj) → Option (List (Nat × List AObj))
  | [] => some []
  | (g, l) :: r => match keepH? p r with
    | none => none
    | some r' => match keepOs? p l with
      | none => none
      | some l' => some ((g, l') :: r')

theorem keepE?_spec {p : Nat → Nat → Bool} {env env' : List (Nat × AV)} (h : keepE? p env = some env') {t : Nat} {a : AV} (ha : get env' t = some a) : a = .top ∨ (get env t = some a ∧ ∀ f i, a.Refs f i → p f i = true) := by
  induction env generalizing env' with
  | nil => simp only [keepE?, Option.some.injEq] at h; subst h; simp [get] at ha
  | cons q r ih =>
    obtain ⟨k, x⟩ := q;simp only [keepE?] at h
    split at h
    · cases h
    · rename_i r' hr
      split at h <;> (injection h with h; subst h)
      · rename_i hx
        rcases Zbn ha with ⟨rfl, rfl⟩ | ⟨hne, ha⟩
        · exact .inr ⟨by simp [get], fun _ _ => AV.ok_spec hx⟩
        · rcases ih hr ha with h1 | ⟨h1, h2⟩
          · exact .inl h1
          · refine .inr ⟨?_, h2⟩;have : Nat.beq k t = false := ZaV hne
            simp [get, this, h1]
      · rcases Zbn ha with ⟨rfl, rfl⟩ | ⟨hne, ha⟩
        · exact .inl rfl
        · rcases ih hr ha with h1 | ⟨h1, h2⟩
          · exact .inl h1
          · refine .inr ⟨?_, h2⟩;have : Nat.beq k t = false := ZaV hne
            simp [get, this, h1]
theorem keepL?_spec {p : Nat → Nat → Bool} {cs cs' : List AV} (h : keepL? p cs = some cs') : cs'.length = cs.length ∧ ∀ (j : Nat) c, cs'[j]? = some c → c = .top ∨ (cs[j]? = some c ∧ ∀ f i, c.Refs f i → p f i = true) := by
  induction cs generalizing cs' with
  | nil => simp only [keepL?, Option.some.injEq] at h; subst h; simp
  | cons a r ih =>
    simp only [keepL?] at h
    split at h
    · cases h
    · rename_i r' hr
      obtain ⟨h1, h2⟩ := ih hr
      split at h <;> (injection h with h; subst h)
      · rename_i hx
        refine ⟨by simp [h1], fun j c hc => ?_⟩
        cases j with
        | zero => simp at hc; subst hc; exact .inr ⟨by simp, fun _ _ => AV.ok_spec hx⟩
        | succ j => simpa using h2 j c (by simpa using hc)
      · refine ⟨by simp [h1], fun j c hc => ?_⟩
        cases j with
        | zero => simp at hc; exact .inl hc.symm
        | succ j => simpa using h2 j c (by simpa using hc)

def AObj.Less (p : Nat → Nat → Bool) (o o' : AObj) : Prop := (∀ w O ρ v, SimObj w O ρ o v → SimObj w O ρ o' v) ∧ (∀ f i, o'.Refs f i → p f i = true) ∧ (∀ t cs, o = .blk t cs → ∃ cs', o' = .blk t cs') ∧ (∀ t cs, o' = .blk t cs → ∃ cs', o = .blk t cs')
theorem keepO?_spec {p : Nat → Nat → Bool} {o o' : AObj} (h : keepO? p o = some o') : o.Less p o' := by
  cases o with
  | blk t cs =>
    simp only [keepO?] at h
    split at h
    · cases h
    · rename_i cs' hcs
      injection h with h; subst h
      obtain ⟨h1, h2⟩ := keepL?_spec hcs;refine ⟨fun w O ρ v ⟨b, us, hv, hh, hl, hr, ho⟩ => ⟨b, us, hv, hh, by omega, fun j c u hc hu => ?_, ho⟩, fun f i ⟨c, hc, hr⟩ => ?_, fun t' cs'' e => ?_, fun t' cs'' e => ?_⟩
      · rcases h2 j c hc with rfl | ⟨hc', _⟩
        · exact .top
        · exact hr j c u hc' hu
      · obtain ⟨j, hj, rfl⟩ := List.getElem_of_mem hc;rcases h2 j _ (List.getElem?_eq_getElem hj) with h3 | ⟨_, h3⟩
        · rw [h3] at hr; cases hr
        · exact h3 f i hr
      · injection e with e1 e2; subst e1; exact ⟨_, rfl⟩
      · injection e with e1 e2; subst e1; exact ⟨_, rfl⟩
  | row t k xs =>
    simp only [keepO?] at h
    split at h
    · rename_i hx
      injection h with h; subst h
      refine ⟨fun _ _ _ _ h => h, fun f i ⟨x, hxm, c, hc, hr⟩ => okL_spec (List.all_eq_true.1 hx x hxm) hc hr, (fun _ _ e => by cases e), (fun _ _ e => by cases e)⟩
    · cases h
  | rowD t k xs =>
    simp only [keepO?, Option.some.injEq] at h;subst h;exact ⟨fun _ _ _ _ h => h, fun f i hr => hr.elim, (fun _ _ e => by cases e), (fun _ _ e => by cases e)⟩
  | loop L =>
    simp only [keepO?] at h
    split at h
    · cases h
    · rename_i e he
      injection h with h; subst h
      refine ⟨fun w O ρ v ⟨r, h1, h2, h3, h4, h5⟩ => ⟨r, h1, h2, h3, h4, fun t a ha => ?_⟩, fun f i ⟨t, a, ha, hr⟩ => ?_, (fun _ _ e => by cases e), (fun _ _ e => by cases e)⟩
      · rcases keepE?_spec he ha with rfl | ⟨ha', _⟩
        · exact .top
        · exact h5 t a ha'
      · rcases keepE?_spec he ha with rfl | ⟨_, h2⟩
        · cases hr
        · exact h2 f i hr
  | map bs es =>
    simp only [keepO?, Option.some.injEq] at h;subst h;exact ⟨fun _ _ _ _ h => h, fun f i hr => hr.elim, (fun _ _ e => by cases e), (fun _ _ e => by cases e)⟩
  | iter f i c seen =>
    simp only [keepO?] at h
    split at h
    · rename_i hx
      injection h with h; subst h
      exact ⟨fun _ _ _ _ h => h, fun f' i' ⟨e1, e2⟩ => by subst e1 e2; exact hx, (fun _ _ e => by cases e), (fun _ _ e => by cases e)⟩
    · injection h with h; subst h
      exact ⟨fun _ _ _ _ _ => trivial, fun f i hr => hr.elim, (fun _ _ e => by cases e), (fun _ _ e => by cases e)⟩
  | addr f i u =>
    simp only [keepO?] at h
    split at h
    · rename_i hx
      injection h with h; subst h
      exact ⟨fun _ _ _ _ h => h, fun f' i' ⟨e1, e2⟩ => by subst e1 e2; exact hx, (fun _ _ e => by cases e), (fun _ _ e => by cases e)⟩
    · injection h with h; subst h
      exact ⟨fun _ _ _ _ _ => trivial, fun f i hr => hr.elim, (fun _ _ e => by cases e), (fun _ _ e => by cases e)⟩
  | any =>
    simp only [keepO?, Option.some.injEq] at h;subst h;exact ⟨fun _ _ _ _ h => h, fun f i hr => hr.elim, (fun _ _ e => by cases e), (fun _ _ e => by cases e)⟩
  | nb b t cs =>
    simp only [keepO?, Option.some.injEq] at h;subst h;exact ⟨fun _ _ _ _ h => h, fun f i hr => hr.elim, (fun _ _ e => by cases e), (fun _ _ e => by cases e)⟩
  | nr b t k cap xs =>
    simp only [keepO?, Option.some.injEq] at h;subst h;exact ⟨fun _ _ _ _ h => h, fun f i hr => hr.elim, (fun _ _ e => by cases e), (fun _ _ e => by cases e)⟩
  | multi M =>
    simp only [keepO?, Option.some.injEq] at h;subst h;exact ⟨fun _ _ _ _ h => h, fun f i hr => hr.elim, (fun _ _ e => by cases e), (fun _ _ e => by cases e)⟩
theorem MObj.less {p : Nat → Nat → Bool} {b : Nat} {m : MObj} : (m.at_ b).Less p (m.at_ b) := ⟨fun _ _ _ _ h => h, fun _ _ hr => absurd hr MObj.norefs, fun _ _ e => absurd e MObj.notBlk, fun _ _ e => absurd e MObj.notBlk⟩
theorem keepO?_multi {p : Nat → Nat → Bool} {a : AObj} {M : Nat → Option MObj} (h : keepO? p a = some (.multi M)) : a = .multi M := by
  cases a <;> simp only [keepO?] at h <;> first | (injection h with h) | (split at h <;> first | cases h | (injection h with h; cases h)) | cases h
  all_goals first | (subst h; rfl) | cases h
theorem keepOs?_spec {p : Nat → Nat → Bool} {l l' : List AObj} (h : keepOs? p l = some l') : l'.length = l.length ∧ ∀ (j : Nat) o', l'[j]? = some o' → ∃ o, l[j]? = some o ∧ o.Less p o' := by
  induction l generalizing l' with
  | nil => simp only [keepOs?, Option.some.injEq] at h; subst h; simp
  | cons a r ih =>
    simp only [keepOs?] at h
    split at h
    · cases h
    · rename_i r' hr
      obtain ⟨h1, h2⟩ := ih hr
      split at h
      · cases h
      · rename_i o' ho
        injection h with h; subst h
        refine ⟨by simp [h1], fun j c hc => ?_⟩
        cases j with
        | zero => simp at hc; subst hc; exact ⟨a, by simp, keepO?_spec ho⟩
        | succ j => simpa using h2 j c (by simpa using hc)
theorem keepOs?_isM {p : Nat → Nat → Bool} {l l' : List AObj} (h : keepOs? p l = some l') : isM l' = isM l := by
  have h1 := (keepOs?_spec h).1
  match l, l', h, h1 with
  | [], [], _, _ => rfl
  | [a], [b], h, _ =>
    simp only [keepOs?] at h
    split at h
    · cases h
    · rename_i o' ho
      injection h with h; injection h with h; subst h
      cases hb : isM [o'] with
      | some M =>
        have e := isM_some hb;injection e with e; subst e
        rw [keepO?_multi ho]; exact hb.symm ▸ rfl
      | none =>
        cases ha : isM [a] with
        | none => rfl
        | some M =>
          have e := isM_some ha;injection e with e; subst e
          simp only [keepO?, Option.some.injEq] at ho; subst ho; rw [ha] at hb; cases hb
  | _ :: _ :: _, _ :: _ :: _, _, _ => rfl
  | [], _ :: _, _, h1 => simp at h1
  | [_], [], _, h1 => simp at h1
  | [_], _ :: _ :: _, _, h1 => simp at h1
  | _ :: _ :: _, [], _, h1 => simp at h1
  | _ :: _ :: _, [_], _, h1 => simp at h1
theorem keepG?_spec {p : Nat → Nat → Bool} {l l' : List AObj} (h : keepOs? p l = some l') : (∀ (j : Nat) o', gl l' j = some o' → ∃ o, gl l j = some o ∧ o.Less p o') ∧ ∀ (j : Nat) o, gl l j = some o → ∃ o', gl l' j = some o' ∧ o.Less p o' := by
  have hM := keepOs?_isM h;obtain ⟨h3, h4⟩ := keepOs?_spec h;unfold gl;rw [hM]
  cases hm : isM l with
  | some M =>
    have hl : ∀ (j : Nat) o, (M j).map (MObj.at_ j) = some o → o.Less p o := fun j o ho => by
      cases hmj : M j with
      | none => rw [hmj] at ho; cases ho
      | some m => rw [hmj] at ho; injection ho with ho; subst ho; exact MObj.less
    exact ⟨fun j o ho => ⟨o, ho, hl j o ho⟩, fun j o ho => ⟨o, ho, hl j o ho⟩⟩
  | none =>
    refine ⟨h4, fun i o hg => ?_⟩;have hg' : l[i]? = some o := hg;have : i < l'.length := by rw [h3]; exact (List.getElem?_eq_some_iff.1 hg').1
    obtain ⟨o2, h5, h6⟩ := h4 i _ (List.getElem?_eq_getElem this);rw [hg'] at h5; injection h5 with h5; subst h5
    exact ⟨_, List.getElem?_eq_getElem this, h6⟩
theorem keepH?_spec {p : Nat → Nat → Bool} {hp hp' : List (Nat × List AObj)} (h : keepH? p hp = some hp') : (∀ g i o', hget hp' g i = some o' → ∃ o, hget hp g i = some o ∧ o.Less p o') ∧ ∀ g i o, hget hp g i = some o → ∃ o', hget hp' g i = some o' ∧ o.Less p o' := by
  induction hp generalizing hp' with
  | nil => simp only [keepH?, Option.some.injEq] at h; subst h; simp [hget, hfam]
  | cons q r ih =>
    obtain ⟨k, l⟩ := q;simp only [keepH?] at h
    split at h
    · cases h
    · rename_i r' hr
      obtain ⟨h1, h2⟩ := ih hr
      split at h
      · cases h
      · rename_i l' hl
        injection h with h; subst h
        obtain ⟨h4, h5⟩ := keepG?_spec hl;refine ⟨fun g i o' hg => ?_, fun g i o hg => ?_⟩
        · by_cases e : k = g
          · subst e;simp only [hget, hfam, Nat.beq_refl, Option.bind_some] at hg ⊢;exact h4 i o' hg
          · have e' : Nat.beq k g = false := ZaV e;simp only [hget, hfam, e'] at hg ⊢;exact h1 g i o' hg
        · by_cases e : k = g
          · subst e;simp only [hget, hfam, Nat.beq_refl, Option.bind_some] at hg ⊢;exact h5 i o hg
          · have e' : Nat.beq k g = false := ZaV e;simp only [hget, hfam, e'] at hg ⊢;exact h2 g i o hg

def notFam (f g : Nat) (_i : Nat) : Bool := !(Nat.beq g f)
theorem Zbx {f g i : Nat} (h : notFam f g i = true) : g ≠ f := by
  rintro rfl
  simp [notFam] at h
abbrev killE? (f : Nat) := keepE? (notFam f)
abbrev killH? (f : Nat) := keepH? (notFam f)
theorem killE?_spec {f : Nat} {env env' : List (Nat × AV)} (h : killE? f env = some env') {t : Nat} {a : AV} (ha : get env' t = some a) : a = .top ∨ (get env t = some a ∧ ∀ i, ¬ a.Refs f i) :=
  (keepE?_spec h ha).imp id fun ⟨h1, h2⟩ => ⟨h1, fun i hr => Zbx (h2 f i hr) rfl⟩
theorem killH?_spec {f : Nat} {hp hp' : List (Nat × List AObj)} (h : killH? f hp = some hp') : (∀ g i o', hget hp' g i = some o' → ∃ o, hget hp g i = some o ∧ o.Less (notFam f) o') ∧ ∀ g i o, hget hp g i = some o → ∃ o', hget hp' g i = some o' ∧ o.Less (notFam f) o' := keepH?_spec h

theorem OwnB.same {ρ : Nat → Nat → Value} {hp hp' : List (Nat × List AObj)} (h : ∀ g i o', hget hp' g i = some o' → ∃ o, hget hp g i = some o) {b : Nat} (hb : OwnB ρ hp' b) : OwnB ρ hp b := by
  obtain ⟨f, i, o', h1, h2⟩ := hb;obtain ⟨o, h3⟩ := h f i o' h1;exact ⟨f, i, o, h3, h2⟩

theorem Heap.less {F : Fr} {hp hp' : List (Nat × List AObj)} {ρ : Nat → Nat → Value} {w : World} (h : Heap F hp ρ w)
    (h1 : ∀ g i o', hget hp' g i = some o' → ∃ o, hget hp g i = some o ∧ ∀ w O v, SimObj w O ρ o v → SimObj w O ρ o' v) (h2 : ∀ g i o, hget hp g i = some o → ∃ o', hget hp' g i = some o' ∧ ∀ t cs, o = .blk t cs → ∃ cs', o' = .blk t cs') : Heap F hp' ρ w := by
  have ho : ∀ b, F.O ρ hp' b ↔ F.O ρ hp b := fun b => ⟨fun h => h.imp id (OwnB.same fun g i o' ho => let ⟨o, a, _⟩ := h1 g i o' ho; ⟨o, a⟩), fun h => h.imp id (OwnB.same fun g i o ho => let ⟨o', a, _⟩ := h2 g i o ho; ⟨o', a⟩)⟩
  have hoe : F.O ρ hp' = F.O ρ hp := funext fun b => propext (ho b);refine ⟨fun f i o' hf => ?_, fun f i f' i' o o' b hf hf' => ?_, fun b hb => ?_, h.os, h.tape, h.output, h.size0, h.keep, fun f i b hp => ?_, h.drawn⟩
  · obtain ⟨o, ho, hl⟩ := h1 f i o' hf;rw [hoe];exact hl _ _ _ (h.sim f i o ho)
  · obtain ⟨_, hf, _⟩ := h1 _ _ _ hf;obtain ⟨_, hf', _⟩ := h1 _ _ _ hf';exact h.inj f i f' i' _ _ b hf hf'
  · exact h.mine b (OwnB.same (fun g i o' ho => let ⟨o, a, _⟩ := h1 g i o' ho; ⟨o, a⟩) hb)
  · obtain ⟨a1, t, cs, a2⟩ := h.pins f i b hp;obtain ⟨o', a3, a4⟩ := h2 f i _ a2;obtain ⟨cs', rfl⟩ := a4 t cs rfl;exact ⟨a1, t, cs', a3⟩

theorem Heap.one {F : Fr} {hp hp' : List (Nat × List AObj)} {ρ ρ' : Nat → Nat → Value} {w w' : World} (h : Heap F hp ρ w) (f0 i0 : Nat) (o' : AObj)
    (hset : ∀ f i, hget hp' f i = if f = f0 ∧ i = i0 then some o' else hget hp f i)
    (hρ : ∀ f i, ¬ (f = f0 ∧ i = i0) → ρ' f i = ρ f i)
    (hblk : ∀ b, blkOf (ρ' f0 i0) = some b → ((∃ o, hget hp f0 i0 = some o) ∧ blkOf (ρ f0 i0) = some b) ∨ (w.heap.size ≤ b ∧ b < w'.heap.size))
    (hos : w'.os = w.os) (htape : w'.tape = w.tape) (hout : w'.output = w.output) (hs : w.heap.size ≤ w'.heap.size) (hdr : w.drawn ≤ w'.drawn)
    (hb : ∀ b, b < w.heap.size → ¬ ((∃ o, hget hp f0 i0 = some o) ∧ blkOf (ρ f0 i0) = some b) → w'.heap[b]? = w.heap[b]?)
    (hrefs : ρ' f0 i0 = ρ f0 i0 ∨ ∀ f i o, hget hp f i = some o → ¬ (f = f0 ∧ i = i0) → ¬ o.Refs f0 i0)
    (hpin : ∀ b, F.pin f0 i0 = some b → ρ' f0 i0 = ρ f0 i0 ∧ ∃ t cs, o' = .blk t cs)
    (hsim : SimObj w' (F.O ρ' hp') ρ' o' (ρ' f0 i0)) : Heap F hp' ρ' w' := by
  have hown : ∀ b, OwnB ρ' hp' b → OwnB ρ hp b ∨ (w.heap.size ≤ b ∧ b < w'.heap.size) := fun b ⟨f, i, o, h1, h2⟩ => by
    by_cases e : f = f0 ∧ i = i0
    · obtain ⟨rfl, rfl⟩ := e;rcases hblk b h2 with ⟨⟨o, ho⟩, h3⟩ | h3
      · exact .inl ⟨f, i, o, ho, h3⟩
      · exact .inr h3
    · rw [hset, if_neg e] at h1;rw [hρ f i e] at h2;exact .inl ⟨f, i, o, h1, h2⟩
  have hO : ∀ b, b < w.heap.size → F.O ρ' hp' b → F.O ρ hp b := fun b hlt ho => by
    rcases ho with ho | ho
    · exact .inl ho
    · rcases hown b ho with h1 | h1
      · exact .inr h1
      · omega
  have hbb : ∀ b, b < w.heap.size → ¬ F.O ρ hp b → w'.heap[b]? = w.heap[b]? := fun b hlt ho => hb b hlt fun ⟨⟨o, h1⟩, h2⟩ => ho (.inr ⟨f0, i0, o, h1, h2⟩)
  have hr' : ∀ f i (o : AObj), hget hp f i = some o → ¬ (f = f0 ∧ i = i0) → ∀ f' i', o.Refs f' i' → ρ' f' i' = ρ f' i' := fun f i o ho hne f' i' hr => by
    by_cases e : f' = f0 ∧ i' = i0
    · obtain ⟨rfl, rfl⟩ := e;rcases hrefs with h1 | h1
      · exact h1
      · exact absurd hr (h1 f i o ho hne)
    · exact hρ f' i' e
  refine ⟨fun f i o hf => ?_, fun f i f' i' o o2 b hf hf' hv hv' => ?_, fun b hb' => ?_, hos.trans h.os, htape.trans h.tape, hout.trans h.output, Nat.le_trans h.size0 hs, fun b hlt hno => ?_, fun f i b hp => ?_, Nat.le_trans h.drawn hdr⟩
  · by_cases e : f = f0 ∧ i = i0
    · obtain ⟨rfl, rfl⟩ := e;rw [hset, if_pos ⟨rfl, rfl⟩] at hf;injection hf with hf; subst hf; exact hsim
    · rw [hset, if_neg e] at hf;rw [hρ f i e];refine (h.sim f i o hf).mono hs hbb hO (fun b hv => hb b (h.mine b ⟨f, i, o, hf, hv⟩).1 fun ⟨⟨o1, h1⟩, h2⟩ => e (h.inj f i f0 i0 o o1 b hf h1 hv h2)) (hr' f i o hf e)
  · by_cases e : f = f0 ∧ i = i0 <;> by_cases e' : f' = f0 ∧ i' = i0
    · exact ⟨e.1.trans e'.1.symm, e.2.trans e'.2.symm⟩
    · exfalso
      obtain ⟨rfl, rfl⟩ := e;rw [hset, if_neg e'] at hf';rw [hρ _ _ e'] at hv';rcases hblk b hv with ⟨⟨o1, h1⟩, h2⟩ | h2
      · exact e' (h.inj f' i' f i o2 o1 b hf' h1 hv' h2)
      · have := (h.mine b ⟨f', i', o2, hf', hv'⟩).1; omega
    · exfalso
      obtain ⟨rfl, rfl⟩ := e';rw [hset, if_neg e] at hf;rw [hρ _ _ e] at hv;rcases hblk b hv' with ⟨⟨o1, h1⟩, h2⟩ | h2
      · exact e (h.inj f i f' i' o o1 b hf h1 hv h2)
      · have := (h.mine b ⟨f, i, o, hf, hv⟩).1; omega
    · rw [hset, if_neg e] at hf;rw [hset, if_neg e'] at hf';rw [hρ _ _ e] at hv;rw [hρ _ _ e'] at hv';exact h.inj f i f' i' o o2 b hf hf' hv hv'
  · rcases hown b hb' with h1 | h1
    · have := h.mine b h1;exact ⟨by omega, this.2⟩
    · exact ⟨h1.2, .inr (Nat.le_trans h.size0 h1.1)⟩
  · rw [← h.keep b hlt hno];have hlt' : b < w.heap.size := Nat.lt_of_lt_of_le hlt h.size0;refine hb b hlt' fun ⟨⟨o, h1⟩, h2⟩ => ?_;rcases (h.mine b ⟨f0, i0, o, h1, h2⟩).2 with h3 | h3
    · exact hno h3
    · omega
  · obtain ⟨a1, t, cs, a2⟩ := h.pins f i b hp
    by_cases e : f = f0 ∧ i = i0
    · obtain ⟨rfl, rfl⟩ := e;obtain ⟨a3, t', cs', rfl⟩ := hpin b hp;exact ⟨a3.trans a1, t', cs', by rw [hset, if_pos ⟨rfl, rfl⟩]⟩
    · exact ⟨(hρ f i e).trans a1, t, cs, by rw [hset, if_neg e]; exact a2⟩

end Go.Proofs.Ytgdppeobgefogaa
/- The abstract walk: judgements on code and on operations over abstract states, and their rules for control flow. No program in sight. -/
namespace Go.Proofs.Ytgdppeobgefogaa
open Go.RowKit

def lift (F : Fr) (Q : Exit → AS → Prop) (e : Exit) (act : Act) (w : World) : Prop := ∃ s ρ, Q e s ∧ SR F s ρ act w
def fen (r : Option Nat) : Fence := { Fence.wide with round := r }
def Op.isDefer : Op → Bool
  | .defer _ => true
  | _ => false
theorem semAt_fen (r : Option Nat) (ρ : Operand → Value) (o : Oper) (h : Op.isDefer o.op = false) : o.semAt (fen r).round ρ = execOp ρ o := by
  cases r with
  | none => exact Oper.semAt_none ρ o
  | some l => exact Oper.semAt_some l ρ o fun c hc => by rw [hc] at h; cases h
theorem rowsIn_fen {P : Program} {r : Option Nat} {n : Nat} {row : String} {args : Array Value} {w : World} {R : Value → World → Prop} (h : Go.Rows P row args w R) : RowsIn (fen r) n P row args w R := by
  have h1 : RowsIn Fence.wide n P row args w R := fun c cs _ => let ⟨v, w', a, b⟩ := h c cs; ⟨v, w', a, stepsIn_wide.2 b⟩
  cases r with
  | none => exact h1
  | some l => exact h1
theorem callsIn_fen {P : Program} {r : Option Nat} {n : Nat} {f : FuncId} {args : Array Value} {w : World} {R : Ending → World → Prop} (h : Calls P f args w R) : CallsIn (fen r) n P f args w R := by
  cases r with
  | none => exact callsIn_wide.2 h
  | some l => exact CallsIn.inRound l (callsIn_wide.2 h)
theorem wpIn_of_wp {P : Program} {r : Option Nat} {o : Oper} {a : Act} {w : World} {K : Act → World → Prop} {Q : Exit → Act → World → Prop} (hd : Op.isDefer o.op = false) (h : o.wp P a w K (fun _ _ _ => False)) : o.wpIn (fen r) 0 P a w K Q := by
  refine ⟨fun _ _ => trivial, ?_⟩;rw [semAt_fen r _ o hd];unfold Oper.wp at h
  generalize (execOp a.eval o).run P w = res at h
  cases res with
  | ok x w =>
    cases x with
    | value v => exact h
    | skip => exact h
    | defer d => exact h
    | enter f args =>
      rw [Oper.upon_enter] at h;refine ⟨(fun h => by cases h), callsIn_fen (h.mono fun e w' he => ?_)⟩
      cases e with
      | returned v => exact he
      | panicked _ => exact he.elim
      | outgrown => obtain ⟨_, _, hf⟩ := he; exact hf.elim
    | row r args =>
      rw [Oper.upon_row] at h;exact ⟨(fun h => by cases h), rowsIn_fen h⟩
    | _ => exact h.elim
  | halt x w =>
    cases x <;> exact h.elim
def Awp (P : Program) (F : Fr) (c : Code) (Q : Exit → AS → Prop) (s : AS) : Prop := ∀ ρ act w, SR F s ρ act w → c.wpIn (fen F.rnd) 0 P (lift F Q) act w
def Aops (P : Program) (F : Fr) (ops : Array Oper) (l : List Oper) (Q : Exit → AS → Prop) (s : AS) : Prop := ∀ ρ act w, SR F s ρ act w → wpListIn (fen F.rnd) 0 P ops (lift F Q) l act w
def Ostep (P : Program) (F : Fr) (o : Oper) (s : AS) (T : AS → Prop) : Prop := ∀ ρ act w, SR F s ρ act w → o.wp P act w (lift F (fun e s' => e = .normal ∧ T s') .normal) (fun _ _ _ => False)

theorem Za3 {d n : Nat} (h : Nat.blt d n = true) : d < n := Nat.lt_of_succ_le (by simpa [Nat.blt] using h)
def Then (K : AS → Prop) (Q : Exit → AS → Prop) : Exit → AS → Prop
  | .normal, s => K s
  | e, s => Q e s
def InBlock (id : Nat) (Q : Exit → AS → Prop) : Exit → AS → Prop
  | .exit id', s => match Nat.beq id' id with
    | true => Q .normal s
    | false => Q (.exit id') s
  | e, s => Q e s

section
variable {P : Program} {F : Fr} {Q Q' : Exit → AS → Prop} {s : AS}

theorem Awp.mono {c : Code} (h : Awp P F c Q s) (hq : ∀ e s, Q e s → Q' e s) : Awp P F c Q' s := fun ρ act w hs =>
  Go.wpIn_mono (h ρ act w hs) fun e _ _ ⟨s, ρ, h1, h2⟩ => ⟨s, ρ, hq e s h1, h2⟩
theorem ZaC (h : Q .normal s) : Awp P F .skip Q s := fun ρ _ _ hs => wpIn_skip ⟨s, ρ, h, hs⟩
theorem ZaL {id : Nat} (h : Q (.exit id) s) : Awp P F (.exit id) Q s := fun ρ _ _ hs => wpIn_exit ⟨s, ρ, h, hs⟩
theorem Zbg (h : Q .ret s) : Awp P F .ret Q s := fun ρ _ _ hs => wpIn_ret ⟨s, ρ, h, hs⟩
theorem Zag {x y : Code} (h : Awp P F x (Then (Awp P F y Q) Q) s) : Awp P F (.seq x y) Q s := fun ρ act w hs =>
  wpIn_seq (Go.wpIn_mono (h ρ act w hs) fun e a w ⟨s', ρ', h1, h2⟩ => by
    cases e with
    | normal => exact h1 ρ' a w h2
    | _ => exact ⟨s', ρ', h1, h2⟩)
theorem Zay {id : Nat} {x : Code} (h : Awp P F x (InBlock id Q) s) : Awp P F (.block id x) Q s := fun ρ act w hs =>
  wpIn_block (Go.wpIn_mono (h ρ act w hs) fun e a w ⟨s', ρ', h1, h2⟩ => by
    cases e with
    | exit id' =>
      simp only [InBlock] at h1;simp only [Exit.inBlock]
      split at h1
      · rename_i hh; rw [if_pos (Nat.eq_of_beq_eq_true hh)]; exact ⟨s', ρ', h1, h2⟩
      · rename_i hh; rw [if_neg (Nat.ne_of_beq_eq_false hh)]; exact ⟨s', ρ', h1, h2⟩
    | _ => exact ⟨s', ρ', h1, h2⟩)

def constAV? (v : Value) : Option AV := match v.oneCell' with
  | false => none
  | true => match v with
    | .slice none 0 0 => some (.d (.sl (some true) []))
    | v => some (.d (.raw v))
def AS.ev (s : AS) : Operand → Option AV
  | .tmp t => get s.env t
  | .const v => constAV? v
  | .func f => some (.d (.raw (.func (.func f) #[] #[])))
  | .global _ => none

theorem rep_const {w : World} {O : Nat → Prop} {ρ : Nat → Nat → Value} {v : Value} {a : AV} (h : constAV? v = some a) : RepA w O ρ a v ∧ v.oneCell' = true := by
  unfold constAV? at h
  split at h
  · cases h
  · rename_i h1
    refine ⟨?_, h1⟩
    split at h
    · injection h with h; subst h
      exact .d (.sl 1 (fun b hb => by injection hb) (fun _ => rfl) rfl (Nat.le_refl _) (by unfold maxLen; omega) (by simp) (by simp) (fun b o h => by cases h))
    · injection h with h; subst h
      exact .d (.raw h1)

theorem SR.ev {ρ : Nat → Nat → Value} {act : Act} {w : World} (h : SR F s ρ act w) {x : Operand} {a : AV} (hx : s.ev x = some a) : RepA w (F.O ρ s.hp) ρ a (act.eval x) := by
  cases x with
  | tmp t => exact h.env t a hx
  | const v =>
    exact (rep_const hx).1
  | func f => simp only [AS.ev, Option.some.injEq] at hx; subst hx; exact .d (.raw rfl)
  | global g => simp [AS.ev] at hx

theorem ZaF {c : Operand} {x y : Code} {b : Bool} (hc : s.ev c = some (.d (.raw (.bool b)))) (ht : b = true → Awp P F x Q s) (hf : b = false → Awp P F y Q s) : Awp P F (.cond c x y) Q s := fun ρ act w hs => by
  have h := hs.ev hc
  cases h with
  | d h =>
    generalize hv : act.eval c = v at h
    cases h with
    | raw h =>
      exact wpIn_cond_split hv (fun e => ht e ρ act w hs) (fun e => hf e ρ act w hs)
theorem a_true {c : Operand} {x y : Code} {b : Bool} (hc : s.ev c = some (.d (.raw (.bool b)))) (hb : b = true) (ht : Awp P F x Q s) : Awp P F (.cond c x y) Q s := ZaF hc (fun _ => ht) (fun e => by rw [hb] at e; cases e)
theorem Zbu {c : Operand} {x y : Code} {b : Bool} (hc : s.ev c = some (.d (.raw (.bool b)))) (hb : b = false) (hf : Awp P F y Q s) : Awp P F (.cond c x y) Q s := ZaF hc (fun e => by rw [hb] at e; cases e) (fun _ => hf)
theorem ZaU {c : Operand} {x y : Code} {p : Prop} [Decidable p] (hc : s.ev c = some (.d (.raw (.bool (decide p))))) (ht : p → Awp P F x Q s) (hf : ¬ p → Awp P F y Q s) : Awp P F (.cond c x y) Q s :=
  ZaF hc (fun e => ht (of_decide_eq_true e)) (fun e => hf (of_decide_eq_false e))

def AS.Le (s s' : AS) : Prop := s'.n = s.n ∧ s'.hp = s.hp ∧ ∀ t a, get s'.env t = some a → get s.env t = some a
theorem SR.le {ρ : Nat → Nat → Value} {act : Act} {w : World} {s' : AS} (h : SR F s ρ act w) (hl : s.Le s') : SR F s' ρ act w := by
  obtain ⟨h1, h2, h3⟩ := hl;refine ⟨h1 ▸ h.size, h2 ▸ h.defs, fun t a ha => ?_, h2 ▸ h.heap⟩;rw [h2];exact h.env t a (h3 t a ha)
theorem Awp.le {c : Code} {s' : AS} (h : Awp P F c Q s') (hl : s.Le s') : Awp P F c Q s := fun ρ act w hs => h ρ act w (hs.le hl)
theorem Aops.le {ops : Array Oper} {l : List Oper} {s' : AS} (h : Aops P F ops l Q s') (hl : s.Le s') : Aops P F ops l Q s := fun ρ act w hs => h ρ act w (hs.le hl)
def Has (env : List (Nat × AV)) : List (Nat × AV) → Prop
  | [] => True
  | (t, a) :: r => get env t = some a ∧ Has env r
theorem Has.get {env l : List (Nat × AV)} (h : Has env l) {t : Nat} {a : AV} (ha : get l t = some a) : Go.Proofs.Ytgdppeobgefogaa.get env t = some a := by
  induction l with
  | nil => cases ha
  | cons p r ih =>
    obtain ⟨k, v⟩ := p;rcases Zbn ha with ⟨rfl, rfl⟩ | ⟨_, ha⟩
    · exact h.1
    · exact ih h.2 ha
theorem ZbQ {n : Nat} {env l : List (Nat × AV)} {hp : List (Nat × List AObj)} (h : Has env l) : AS.Le ⟨n, env, hp⟩ ⟨n, l, hp⟩ := ⟨rfl, rfl, fun _ _ => h.get⟩
def pick (env : List (Nat × AV)) : List Nat → Option (List (Nat × AV))
  | [] => some []
  | t :: r => match pick env r with
    | none => none
    | some l => match get env t with
      | none => some l
      | some a => some ((t, a) :: l)
theorem a_loop {α : Type} {c : Code} (σ : α → AS) (I : α → Prop) (μ : α → Nat) (a0 : α) (h0 : I a0) (hs : s.Le (σ a0))
    (round : ∀ a, I a → Awp P F c (Then (fun s' => ∃ a', I a' ∧ μ a' < μ a ∧ s'.Le (σ a')) Q) (σ a)) : Awp P F (.loop c) Q s := fun ρ act w hsr => by
  have key : ∀ n a, μ a = n → I a → ∀ ρ act w, SR F (σ a) ρ act w → (Code.loop c).wpIn (fen F.rnd) 0 P (lift F Q) act w := by
    intro n a _ hI ρ act w hsr;refine wpIn_loop (fun act w => ∃ a ρ, I a ∧ SR F (σ a) ρ act w) (fun act w => Classical.epsilon fun m => ∃ a ρ, I a ∧ SR F (σ a) ρ act w ∧ μ a = m ∧ ∀ a' ρ', I a' → SR F (σ a') ρ' act w → m ≤ μ a') ⟨a, ρ, hI, hsr⟩ ?_;intro act w hI
    have hmin : ∀ act w, (∃ a ρ, I a ∧ SR F (σ a) ρ act w) → ∃ m, ∃ a ρ, I a ∧ SR F (σ a) ρ act w ∧ μ a = m ∧ ∀ a' ρ', I a' → SR F (σ a') ρ' act w → m ≤ μ a' := fun act w ⟨a, ρ, h1, h2⟩ => by
      have hw : ∀ n a ρ, μ a = n → I a → SR F (σ a) ρ act w → ∃ m, ∃ a ρ, I a ∧ SR F (σ a) ρ act w ∧ μ a = m ∧ ∀ a' ρ', I a' → SR F (σ a') ρ' act w → m ≤ μ a' := by
        intro n
        induction n using Nat.strongRecOn with
        | _ n ih =>
          intro a ρ hn h1 h2
          by_cases hex : ∃ a' ρ', I a' ∧ SR F (σ a') ρ' act w ∧ μ a' < n
          · obtain ⟨a', ρ', h3, h4, h5⟩ := hex;exact ih _ h5 a' ρ' rfl h3 h4
          · refine ⟨n, a, ρ, h1, h2, hn, fun a' ρ' h3 h4 => ?_⟩;rcases Nat.lt_or_ge (μ a') n with h5 | h5
            · exact absurd ⟨a', ρ', h3, h4, h5⟩ hex
            · exact h5
      exact hw _ a ρ rfl h1 h2
    obtain ⟨a, ρ, h1, h2, h3, h4⟩ := Classical.epsilon_spec (hmin act w hI);refine Go.wpIn_mono (round a h1 ρ act w h2) fun e act' w' ⟨s', ρ', h5, h6⟩ => ?_
    cases e with
    | normal =>
      obtain ⟨a', h7, h8, h9⟩ := h5
      have hex : ∃ a ρ, I a ∧ SR F (σ a) ρ act' w' := ⟨a', ρ', h7, h6.le h9⟩
      refine ⟨hex, ?_⟩;obtain ⟨_, _, _, _, _, h13⟩ := Classical.epsilon_spec (hmin act' w' hex);have h14 := h13 a' ρ' h7 (h6.le h9);exact Nat.lt_of_le_of_lt h14 (by rw [← h3]; exact h8)
    | _ => exact ⟨s', ρ', h5, h6⟩
  exact key _ a0 rfl h0 ρ act w (hsr.le hs)

theorem Zae {id : Nat} {l : List Oper} (h : Aops P F l.toArray l Q s) : Awp P F (.region id l.toArray false) Q s := fun ρ act w hs => wpIn_region_lit (h ρ act w hs)
theorem Zaf {ops : Array Oper} (h : Q .normal s) : Aops P F ops [] Q s := fun ρ _ _ hs => wpListIn_nil ⟨s, ρ, h, hs⟩

theorem upon_weaken {P : Program} {o : Oper} {a : Act} {K K' : Act → World → Prop} {Q : Exit → Act → World → Prop} {r : Result Next} (hk : ∀ a w, K a w → K' a w) (h : o.upon P a K (fun _ _ _ => False) r) : o.upon P a K' Q r := by
  cases r with
  | ok x w =>
    cases x with
    | value v => exact hk _ _ h
    | skip => exact hk _ _ h
    | defer d => exact hk _ _ h
    | enter f args =>
      rw [Oper.upon_enter] at h ⊢;refine h.mono fun e w' he => ?_
      cases e with
      | returned v => exact hk _ _ he
      | panicked _ => exact he.elim
      | outgrown => obtain ⟨_, _, hf⟩ := he; exact hf.elim
    | row r args =>
      rw [Oper.upon_row] at h ⊢;exact Go.Rows.mono h fun v w' hv => hk _ _ hv
    | _ => exact h.elim
  | halt x w =>
    cases x <;> exact h.elim
theorem wp_weaken {P : Program} {o : Oper} {a : Act} {w : World} {K K' : Act → World → Prop} {Q : Exit → Act → World → Prop} (hk : ∀ a w, K a w → K' a w) (h : o.wp P a w K (fun _ _ _ => False)) : o.wp P a w K' Q := upon_weaken hk h

theorem o_step {ops : Array Oper} {o : Oper} {rest : List Oper} {T : AS → Prop} (h : Ostep P F o s T) (hg : o.guard = none) (hK : ∀ s', T s' → Aops P F ops rest Q s') (hdf : Op.isDefer o.op = false := by rfl) : Aops P F ops (o :: rest) Q s := fun ρ act w hs =>
  wpListIn_plain hg fun _ hk => wpIn_of_wp hdf (wp_weaken (fun a w ⟨s', ρ', ⟨_, h1⟩, h2⟩ => hk a w (hK s' h1 ρ' a w h2)) (h ρ act w hs))
theorem Ostep.go {ops : Array Oper} {d : Option Tmp} {op : Op} {ty : TypeId} {pos : String} {aft : Array Edge} {rest : List Oper} {s' : AS} (h : Ostep P F ⟨d, op, ty, pos, aft, none⟩ s (· = s')) (hK : Aops P F ops rest Q s') (hdf : Op.isDefer op = false := by rfl) : Aops P F ops (⟨d, op, ty, pos, aft, none⟩ :: rest) Q s :=
  o_step h rfl (fun _ e => e ▸ hK) hdf

def Zaw (P : Program) (F : Fr) (o : Oper) (s s' : AS) (p : Nat → Nat → Bool) : Prop := ∀ ρ act w, SR F s ρ act w → o.wp P act w (fun act' w' => ∃ ρ', SR F s' ρ' act' w' ∧ ∀ f i, p f i = true → ρ' f i = ρ f i) (fun _ _ _ => False)
theorem Zaw.ostep {o : Oper} {s' : AS} {p : Nat → Nat → Bool} (h : Zaw P F o s s' p) : Ostep P F o s (· = s') := fun ρ act w hs =>
  wp_weaken (fun _ _ ⟨ρ', h1, _⟩ => ⟨s', ρ', ⟨rfl, rfl⟩, h1⟩) (h ρ act w hs)
theorem Zaw.go {ops : Array Oper} {d : Option Tmp} {op : Op} {ty : TypeId} {pos : String} {aft : Array Edge} {rest : List Oper} {n : Nat} {env env' : List (Nat × AV)} {hp hp' : List (Nat × List AObj)} {p : Nat → Nat → Bool} (h : Zaw P F ⟨d, op, ty, pos, aft, none⟩ ⟨n, env, hp⟩ ⟨n, env', hp'⟩ p) (hK : Aops P F ops rest Q ⟨n, env', hp'⟩) (hdf : Op.isDefer op = false := by rfl) : Aops P F ops (⟨d, op, ty, pos, aft, none⟩ :: rest) Q ⟨n, env, hp⟩ :=
  h.ostep.go hK hdf

theorem ZaH {ops : Array Oper} {d : Option Tmp} {op : Op} {ty : TypeId} {pos : String} {aft : Array Edge} {rest : List Oper} {j : Nat} {b b' : Bool} {t : Nat} (hj : (ops[j]?).bind (·.dst) = some t) (hv : get s.env t = some (.d (.raw (.bool b')))) (hb : b' = b)
    (h : Aops P F ops (⟨d, op, ty, pos, aft, none⟩ :: rest) Q s) : Aops P F ops (⟨d, op, ty, pos, aft, some (j, b)⟩ :: rest) Q s := fun ρ act w hs => by
  have hr := hs.env t _ hv
  have hy : yielded ops act.tmps j = some b := by
    unfold yielded;rw [hj]
    cases hr with
    | d hr =>
      generalize hg : act.tmps.getD t undef = v at hr
      cases hr with
      | raw _ =>
        simp only [Option.bind_some];rw [Array.getD_eq_getD_getElem?] at hg
        cases hh : act.tmps[t]? with
        | none => rw [hh] at hg; simp [undef] at hg
        | some x => rw [hh] at hg; simp at hg; subst hg; simp [hb]
  have h' := h ρ act w hs;unfold wpListIn at h' ⊢;rw [if_pos (by simp [Region.wanted])] at h';rw [if_pos (by simp [Region.wanted, hy])];exact h'
theorem rep_undef {w : World} {O : Nat → Prop} {ρ : Nat → Nat → Value} : RepA w O ρ (.d (.tup [])) undef := .d (.tup (vs := []) rfl (by simp))
theorem tup_nil {w : World} {O : Nat → Prop} {ρ : Nat → Nat → Value} {v : Value} (h : RepA w O ρ (.d (.tup [])) v) : v = undef := by
  cases h with
  | d h =>
    cases h with
    | @tup _ vs hl _ =>
      have : vs = [] := List.eq_nil_of_length_eq_zero hl;subst this; rfl
theorem yielded_undef {ops : Array Oper} {tmps : Array Value} {j t : Nat} (hj : (ops[j]?).bind (·.dst) = some t) (hv : tmps.getD t undef = undef) : yielded ops tmps j = none := by
  unfold yielded;rw [hj];simp only [Option.bind_some];rw [Array.getD_eq_getD_getElem?] at hv
  cases hh : tmps[t]? with
  | none => rfl
  | some x => rw [hh] at hv; simp at hv; subst hv; rfl
theorem o_passU {n : Nat} {env : List (Nat × AV)} {hp : List (Nat × List AObj)} {ops : Array Oper} {d : Nat} {op : Op} {ty : TypeId} {pos : String} {aft : Array Edge} {rest : List Oper} {j : Nat} {b : Bool} {t : Nat} (hj : (ops[j]?).bind (·.dst) = some t) (hv : get env t = some (.d (.tup []))) (hd : Nat.blt d n = true)
    (h : Aops P F ops rest Q (⟨n, (d, .d (.tup [])) :: env, hp⟩)) : Aops P F ops (⟨some d, op, ty, pos, aft, some (j, b)⟩ :: rest) Q ⟨n, env, hp⟩ := fun ρ act w hs => by
  have hy := yielded_undef hj (tup_nil (hs.env t _ hv));unfold wpListIn;rw [if_neg (by simp [Region.wanted, hy])];refine ⟨fun _ _ => trivial, ?_⟩;exact h ρ _ w (hs.put (Za3 hd) rep_undef)
theorem ZaG {n : Nat} {env : List (Nat × AV)} {hp : List (Nat × List AObj)} {ops : Array Oper} {d : Nat} {op : Op} {ty : TypeId} {pos : String} {aft : Array Edge} {rest : List Oper} {j : Nat} {b b' : Bool} {t : Nat} (hj : (ops[j]?).bind (·.dst) = some t) (hv : get env t = some (.d (.raw (.bool b')))) (hb : b' = !b) (hd : Nat.blt d n = true)
    (h : Aops P F ops rest Q (⟨n, (d, .d (.tup [])) :: env, hp⟩)) : Aops P F ops (⟨some d, op, ty, pos, aft, some (j, b)⟩ :: rest) Q ⟨n, env, hp⟩ := fun ρ act w hs => by
  have hr := hs.env t _ hv
  have hy : yielded ops act.tmps j = some (!b) := by
    unfold yielded;rw [hj]
    cases hr with
    | d hr =>
      generalize hg : act.tmps.getD t undef = v at hr
      cases hr with
      | raw _ =>
        simp only [Option.bind_some];rw [Array.getD_eq_getD_getElem?] at hg
        cases hh : act.tmps[t]? with
        | none => rw [hh] at hg; simp [undef] at hg
        | some x => rw [hh] at hg; simp at hg; subst hg; simp [hb]
  unfold wpListIn;rw [if_neg (by cases b <;> simp [Region.wanted, hy])];refine ⟨fun _ _ => trivial, ?_⟩;exact h ρ _ w (hs.put (Za3 hd) rep_undef)
end

section
variable {P : Program} {F : Fr} {Q : Exit → AS → Prop} {n : Nat} {env : List (Nat × AV)} {hp : List (Nat × List AObj)} {ops : Array Oper} {l : List Oper} {c : Code}
theorem get_set {env : List (Nat × AV)} {t : Nat} {a : AV} (h : get env t = some a) {t' : Nat} {a' : AV} (ha : get ((t, a) :: env) t' = some a') : get env t' = some a' := by
  rcases Zbn ha with ⟨rfl, rfl⟩ | ⟨_, ha⟩
  · exact h
  · exact ha
theorem Zbw (t : Nat) {p : Prop} [Decidable p] (hv : get env t = some (.d (.raw (.bool (decide p))))) (ht : p → Aops P F ops l Q ⟨n, (t, .d (.raw (.bool true))) :: env, hp⟩) (hf : ¬ p → Aops P F ops l Q ⟨n, (t, .d (.raw (.bool false))) :: env, hp⟩) : Aops P F ops l Q ⟨n, env, hp⟩ := by
  by_cases h : p
  · exact (ht h).le ⟨rfl, rfl, fun _ _ => get_set (by rw [decide_eq_true h] at hv; exact hv)⟩
  · exact (hf h).le ⟨rfl, rfl, fun _ _ => get_set (by rw [decide_eq_false h] at hv; exact hv)⟩
theorem Zbj (t : Nat) {b : Bool} (hv : get env t = some (.d (.raw (.bool b)))) (ht : b = true → Aops P F ops l Q ⟨n, (t, .d (.raw (.bool true))) :: env, hp⟩) (hf : b = false → Aops P F ops l Q ⟨n, (t, .d (.raw (.bool false))) :: env, hp⟩) : Aops P F ops l Q ⟨n, env, hp⟩ := by
  cases b with
  | true => exact (ht rfl).le ⟨rfl, rfl, fun _ _ => get_set hv⟩
  | false => exact (hf rfl).le ⟨rfl, rfl, fun _ _ => get_set hv⟩
theorem o_setT (t : Nat) {b : Bool} (hv : get env t = some (.d (.raw (.bool b)))) (hb : b = true) (h : Aops P F ops l Q ⟨n, (t, .d (.raw (.bool true))) :: env, hp⟩) : Aops P F ops l Q ⟨n, env, hp⟩ := Zbj t hv (fun _ => h) fun e => by rw [hb] at e; cases e
theorem o_setF (t : Nat) {b : Bool} (hv : get env t = some (.d (.raw (.bool b)))) (hb : b = false) (h : Aops P F ops l Q ⟨n, (t, .d (.raw (.bool false))) :: env, hp⟩) : Aops P F ops l Q ⟨n, env, hp⟩ := Zbj t hv (fun e => by rw [hb] at e; cases e) fun _ => h
theorem o_as (t : Nat) {a : AV} (a' : AV) (hv : get env t = some a) (he : a = a') (h : Aops P F ops l Q ⟨n, (t, a') :: env, hp⟩) : Aops P F ops l Q ⟨n, env, hp⟩ := h.le ⟨rfl, rfl, fun _ _ => get_set (by rw [← he]; exact hv)⟩
theorem a_as (t : Nat) {a : AV} (a' : AV) (hv : get env t = some a) (he : a = a') (h : Awp P F c Q ⟨n, (t, a') :: env, hp⟩) : Awp P F c Q ⟨n, env, hp⟩ := h.le ⟨rfl, rfl, fun _ _ => get_set (by rw [← he]; exact hv)⟩
end

def Zab (P : Program) (F : Fr) (o : Oper) (s : AS) (d : Nat) (a : AV) : Prop := Nat.blt d s.n = true ∧ o.dst = some d ∧ ∀ ρ act w, SR F s ρ act w →
  o.wp P act w (fun act' w' => ∃ v, act' = act.put (some d) v ∧ RepA w' (F.O ρ s.hp) ρ a v ∧ Heap F s.hp ρ w' ∧ w.heap.size ≤ w'.heap.size ∧ ∀ b, b < w.heap.size → w'.heap[b]? = w.heap[b]?) (fun _ _ _ => False)
theorem Zab.ostep {P : Program} {F : Fr} {o : Oper} {s : AS} {d : Nat} {a : AV} (h : Zab P F o s d a) : Ostep P F o s (· = s.put d a) := fun ρ act w hs => by
  refine wp_weaken ?_ (h.2.2 ρ act w hs);rintro act' w' ⟨v, rfl, h1, h2, h3, h4⟩;exact ⟨_, ρ, ⟨rfl, rfl⟩, SR.put ⟨hs.size, hs.defs.mono h3 (fun b hlt _ => h4 b hlt) (fun _ _ h => h), fun t x hx => (hs.env t x hx).mono h3 (fun b hlt _ => h4 b hlt) (fun _ _ h => h) (fun _ _ _ => rfl), h2⟩ (Za3 h.1) h1⟩
theorem Zab.go {P : Program} {F : Fr} {Q : Exit → AS → Prop} {n : Nat} {env : List (Nat × AV)} {hp : List (Nat × List AObj)} {ops : Array Oper} {d : Nat} {dst : Option Tmp} {op : Op} {ty : TypeId} {pos : String} {aft : Array Edge} {rest : List Oper} {a : AV} (h : Zab P F ⟨dst, op, ty, pos, aft, none⟩ ⟨n, env, hp⟩ d a) (hK : Aops P F ops rest Q ⟨n, (d, a) :: env, hp⟩) (hdf : Op.isDefer op = false := by rfl) : Aops P F ops (⟨dst, op, ty, pos, aft, none⟩ :: rest) Q ⟨n, env, hp⟩ :=
  h.ostep.go hK hdf

theorem ZaE {P : Program} {F : Fr} {s : AS} {d : Nat} {op : Op} {ty : TypeId} {pos : String} {aft : Array Edge} {g : Option (Nat × Bool)} (a : AV) (hd : Nat.blt d s.n = true)
    (h : ∀ ρ act w, SR F s ρ act w → ∃ v, (execOp act.eval ⟨some d, op, ty, pos, aft, g⟩).run P w = .ok (.value v) w ∧ RepA w (F.O ρ s.hp) ρ a v) : Zab P F ⟨some d, op, ty, pos, aft, g⟩ s d a := by
  refine ⟨hd, rfl, fun ρ act w hs => ?_⟩;obtain ⟨v, h1, h2⟩ := h ρ act w hs;unfold Oper.wp;rw [h1];exact ⟨v, rfl, h2, hs.heap, Nat.le_refl _, fun _ _ => rfl⟩

end Go.Proofs.Ytgdppeobgefogaa
