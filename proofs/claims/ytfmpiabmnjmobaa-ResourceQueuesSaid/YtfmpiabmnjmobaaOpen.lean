/- Arguments opened: what the walk wants of a slice that came in; and a law's row, closed by its walk. -/
import Derived.Test.YtfmpiabmnjmobaaRows
import Derived.Test.YtfmpiabmnjmobaaBase
import Derived.ProofKit
import Derived.Deep.Slices
namespace Go.Proofs.Ytfmpiabmnjmobaa
open Go.ChangeShapes Go.WideShapes Go.ChangeAt Go.RowKit Go.Deep

section
variable {H : Type} {enc : TypeId × Value → H} {P : Program} {w : World} {B : Nat}

/-- A list out of its elements. -/
theorem list_of {α : Type} {Q : Nat → α → Prop} (n : Nat) (h : ∀ i, i < n → ∃ a, Q i a) : ∃ l : List α, l.length = n ∧ ∀ (i : Nat) a, l[i]? = some a → Q i a := by
  induction n with
  | zero => exact ⟨[], rfl, fun i a h => by simp at h⟩
  | succ n ih =>
    obtain ⟨l, hl, hq⟩ := ih (fun i hi => h i (by omega))
    obtain ⟨a, ha⟩ := h n (by omega)
    refine ⟨l ++ [a], by simp [hl], fun i b hb => ?_⟩
    rw [List.getElem?_append] at hb
    by_cases hi : i < l.length
    · rw [if_pos hi] at hb; exact hq i b hb
    · rw [if_neg hi] at hb
      match hk : i - l.length, hb with
      | 0, hb =>
        simp at hb; subst hb
        rw [show i = n by omega]; exact ha
      | k + 1, hb => simp at hb

/-- A slice of one-cell elements that came in. -/
theorem open_list {α : Type} {t e : TypeId} (f : α → Value) (Q : α → Prop) (ht : P.underlying t = some (.slice e)) (hC : P.cellsOf e = 1)
    (helem : ∀ (n : Nat) (cs : List Value) (x : DataW H × List MemPlace), DataW.trod enc P w 0 (fun _ => true) true n e cs = some x → (∀ p ∈ x.2, p.block < B) → ∃ a, cs = [f a] ∧ Q a)
    {fuel : Nat} {cs : List Value} {x : DataW H × List MemPlace} (h : DataW.trod enc P w 0 (fun _ => true) true fuel t cs = some x) (hlt : ∀ p ∈ x.2, p.block < B) :
    ∃ (A : Option Addr) (l : List α) (c : Nat), cs = [.slice A l.length c] ∧ l.length ≤ c ∧ c ≤ maxLen ∧ Reads w B 1 A l.length (l.map f) ∧ ∀ a ∈ l, Q a := by
  rcases open_slice ht h with ⟨rfl, rfl⟩ | ⟨a, len, cap, m, n, D, Pl, rfl, _, hl, hm, hmm, rfl, hi⟩
  · exact ⟨none, [], 0, rfl, Nat.le_refl _, Nat.zero_le _, Reads.none_, by simp⟩
  · simp only [if_true] at hmm
    subst hmm
    have hall : ∀ i, i < len → ∃ y : α, w.cell? (a.add i) = some (f y) ∧ Q y := by
      intro i hil
      obtain ⟨cs', hc, ht'⟩ := hi i (by omega)
      obtain ⟨y, rfl, hq⟩ := helem _ _ _ ht' (fun p hp => hlt p (by
        simp only [List.mem_append, List.mem_flatMap, List.mem_range]
        exact .inr ⟨i, by omega, hp⟩))
      rw [hC, Nat.mul_one] at hc
      obtain ⟨_, _, hat⟩ := World.cells?_some hc
      have h0 := hat (i := 0) (by omega)
      refine ⟨y, ?_, hq⟩
      simpa [Addr.add] using h0
    obtain ⟨l, hln, hlq⟩ := list_of len hall
    refine ⟨some a, l, m, by rw [hln], by omega, hm, ⟨by simp, fun h0 => ⟨a, rfl, ?_, fun j u hu => ?_⟩⟩, fun y hy => ?_⟩
    · have hmem : MemPlace.cell a.block (a.off + 0) ∈ MemPlace.row a (m * P.cellsOf e) := MemPlace.mem_row.2 ⟨0, by rw [hC]; omega, rfl⟩
      exact hlt _ (List.mem_append_left _ hmem)
    · rw [List.getElem?_map] at hu
      cases hy : l[j]? with
      | none => rw [hy] at hu; cases hu
      | some y =>
        rw [hy] at hu
        injection hu with hu
        subst hu
        exact (hlq j y hy).1
    · obtain ⟨i, hi', rfl⟩ := List.getElem_of_mem hy
      exact (hlq i _ (List.getElem?_eq_getElem hi')).2

theorem open_byte {e : TypeId} (he : P.underlying e = some (.int .u8)) (n : Nat) (cs : List Value) (x : DataW H × List MemPlace) (h : DataW.trod enc P w 0 (fun _ => true) true n e cs = some x) (_ : ∀ p ∈ x.2, p.block < B) :
    ∃ a : UInt8, cs = [bv a] ∧ True := by
  obtain ⟨z, rfl, _, hw⟩ := DataW.trod_int he h
  have h1 : IntKind.u8.min = 0 := rfl
  have h2 : IntKind.u8.max = 255 := rfl
  simp only [Lit.wf, Bool.and_eq_true, decide_eq_true_eq, h1, h2] at hw
  refine ⟨UInt8.ofNat z.toNat, ?_, trivial⟩
  have : z.toNat % 2 ^ 8 = z.toNat := Nat.mod_eq_of_lt (by omega)
  simp only [bv, UInt8.toNat_ofNat', this]
  rw [Int.toNat_of_nonneg hw.1]

/-- A []byte that came in. -/
theorem open_bytes {t e : TypeId} (ht : P.underlying t = some (.slice e)) (he : P.underlying e = some (.int .u8)) (hC : P.cellsOf e = 1)
    {fuel : Nat} {cs : List Value} {x : DataW H × List MemPlace} (h : DataW.trod enc P w 0 (fun _ => true) true fuel t cs = some x) (hlt : ∀ p ∈ x.2, p.block < B) :
    ∃ (A : Option Addr) (l : List UInt8) (c : Nat), cs = [.slice A l.length c] ∧ l.length ≤ c ∧ c ≤ maxLen ∧ Reads w B 1 A l.length (l.map bv) := by
  obtain ⟨A, l, c, h1, h2, h3, h4, _⟩ := open_list bv (fun _ => True) ht hC (open_byte he) h hlt
  exact ⟨A, l, c, h1, h2, h3, h4⟩

/-- A [][]byte that came in. -/
theorem open_rows {t e b : TypeId} (ht : P.underlying t = some (.slice e)) (he : P.underlying e = some (.slice b)) (hb : P.underlying b = some (.int .u8)) (hCe : P.cellsOf e = 1) (hCb : P.cellsOf b = 1)
    {fuel : Nat} {cs : List Value} {x : DataW H × List MemPlace} (h : DataW.trod enc P w 0 (fun _ => true) true fuel t cs = some x) (hlt : ∀ p ∈ x.2, p.block < B) :
    ∃ (A : Option Addr) (vs : List Value) (ls : List (List UInt8)) (c : Nat), cs = [.slice A ls.length c] ∧ ls.length ≤ c ∧ c ≤ maxLen ∧ Reads w B 1 A ls.length vs ∧ Rows w (· < B) bv vs ls ∧ ∀ l ∈ ls, l.length ≤ maxLen := by
  obtain ⟨A, vs, c, h1, h2, h3, h4, hq⟩ := open_list (B := B) (fun v : Value => v) (fun v => ∃ l : List UInt8, Row w (· < B) v (l.map bv) ∧ l.length ≤ maxLen) ht hCe (fun n cs x hx hl => by
    obtain ⟨A, l, c, rfl, hc, hm, hr⟩ := open_bytes he hb hCb hx hl
    exact ⟨_, rfl, l, Row.of_reads hr hc (fun _ h => h), by omega⟩) h hlt
  rw [List.map_id'] at h4
  obtain ⟨ls, hl, hls⟩ := list_of (Q := fun i (l : List UInt8) => ∀ v, vs[i]? = some v → Row w (· < B) v (l.map bv) ∧ l.length ≤ maxLen) vs.length (fun i hi => by
    obtain ⟨l, hr, hm⟩ := hq vs[i] (List.getElem_mem hi)
    exact ⟨l, fun v hv => by rw [List.getElem?_eq_getElem hi] at hv; injection hv with hv; subst hv; exact ⟨hr, hm⟩⟩)
  refine ⟨A, vs, ls, c, by rw [hl]; exact h1, by omega, h3, by rw [hl]; exact h4, ⟨hl.symm, fun i v l hv hll => (hls i l hll v hv).1⟩, fun l hm => ?_⟩
  obtain ⟨i, hi, rfl⟩ := List.getElem_of_mem hm
  exact (hls i _ (List.getElem?_eq_getElem hi) vs[i] (List.getElem?_eq_getElem (by omega))).2
end

section
variable {H : Type} {enc : TypeId × Value → H} {P : Program}
theorem trodAll_below (hl : laidOutB P = true) {W W' : World} (hb : Below W.heap.size W W') : ∀ {ts : List TypeId} {vs : List Value} {ds : List (DataW H)} {ps : List MemPlace},
    (ts.all fun t => P.readableRec t && decide (t < P.types.size)) = true → DataW.TrodAll enc P W 0 (fun _ => true) true ts vs ds ps → (∀ x ∈ ps, x.block < W.heap.size) →
    DataW.TrodAll enc P W' 0 (fun b => decide (b < W.heap.size)) true ts vs ds ps
  | [], [], [], _, _, h, _ => h
  | t :: ts, v :: vs, d :: ds, ps, hr, h, hlt => by
    obtain ⟨p, q, h1, h2, rfl⟩ := h
    simp only [List.all_cons, Bool.and_eq_true, decide_eq_true_eq] at hr
    exact ⟨p, q, Below.trod hl hr.1.1 hr.1.2 h1 hb (fun x hx => hlt x (List.mem_append_left _ hx)), trodAll_below hl hb (by simpa using hr.2) h2 (fun x hx => hlt x (List.mem_append_right _ hx)), rfl⟩
  | [], [], _ :: _, _, _, h, _ => h.elim
  | [], _ :: _, _, _, _, h, _ => h.elim
  | _ :: _, [], _, _, _, h, _ => h.elim
  | _ :: _, _ :: _, [], _, _, h, _ => h.elim

/-- A law's post: true, and each argument reads as it did: out of 'Below' alone. -/
theorem law_post {f : Func} {s : ChangeSpec} {W W' : World} {args : Array Value} {ds gs : List (DataW H)} {before : List MemPlace} {tb : TypeId} (hl : laidOutB P = true)
    (hr : (f.params.toList.all fun t => P.readableRec t && decide (t < P.types.size)) = true) (hvars : s.vars = []) (hrt : f.resultTypes = #[tb]) (htb : P.underlying tb = some .bool)
    (hW : DataW.Whole enc P f.params.toList s.vars false W args.toList ds gs before) (hspec : (s.fn H (ds ++ gs)).results = [.lit (.bool true)] ∧ (s.fn H (ds ++ gs)).args = ds ∧ (s.fn H (ds ++ gs)).vars = [])
    (hb : Below W.heap.size W W') : s.post enc P f false true false false W args (.bool true) W' := by
  have hW' := hW
  obtain ⟨p, q, hA, hV, rfl, _, _⟩ := hW
  rw [hvars] at hV
  obtain ⟨rfl, rfl⟩ := trodVars_none hV
  refine ⟨ds, [], p ++ [], [], p, [], hW', ?_, ?_, ?_, hb.frame _, fun h => by cases h⟩
  · rw [hspec.1, hrt]; exact trodAll_mk1 (shut_bool htb true)
  · rw [hspec.2.1]
    exact trodAll_below hl hb hr hA (fun x hx => hW'.lt x (by simpa using hx))
  · rw [hspec.2.2, hvars]; rfl
end

theorem Try.own : ownKnob Try.prog.godebug = none := by kernel_rfl
theorem Try.laidOut : laidOutB Try.prog = true := by kernel_rfl

end Go.Proofs.Ytfmpiabmnjmobaa
