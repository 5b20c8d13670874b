/- What the walk wants of the types of this program. -/
import Derived.Test.YtgdppeobgefogaaMg11
import Derived.Test.YtgdppeobgefogaaRows
namespace Go.Proofs.Ytgdppeobgefogaa
open Go.RowKit

theorem mixed : Try.prog.follows .mixedOrders = true := by kernel_rfl
theorem sz3 : sizeTy Try.prog 3 1 = true := by kernel_rfl
theorem on3 : oneTy Try.prog 3 = true := by kernel_rfl
theorem zd3 : zeroD? Try.prog 3 = some (.raw (.int .i64 0)) := by kernel_rfl
theorem sl22 : SlTy Try.prog 22 25 1 24 := slTy_of (by kernel_rfl)
theorem sz25 : sizeTy Try.prog 25 1 = true := by kernel_rfl
theorem on25 : oneTy Try.prog 25 = true := by kernel_rfl
theorem zl25 : zeroL? Try.prog 25 = some [.d (.sl (some true) [])] := by kernel_rfl
theorem zd25 : zeroD? Try.prog 25 = some (.sl (some true) []) := by kernel_rfl
theorem sl25 : SlTy Try.prog 25 3 1 8 := slTy_of (by kernel_rfl)
theorem sl32 : SlTy Try.prog 32 25 1 24 := slTy_of (by kernel_rfl)
theorem on63 : oneTy Try.prog 63 = true := by kernel_rfl
theorem Zat : fieldInfo Try.prog 75 0 = some (0, 1, false) := by kernel_rfl
theorem fi75_1 : fieldInfo Try.prog 75 1 = some (1, 1, false) := by kernel_rfl
theorem pl75 : placesOf Try.prog 75 = some [(0, 1), (1, 1)] := by kernel_rfl
theorem zl75 : zeroL? Try.prog 75 = some [.d (.sl (some true) []), .d (.raw .nilFunc)] := by kernel_rfl
theorem sz83 : sizeTy Try.prog 83 2 = true := by kernel_rfl
theorem Zas : fieldInfo Try.prog 83 0 = some (0, 1, false) := by kernel_rfl
theorem ZaK : fieldInfo Try.prog 83 1 = some (1, 1, false) := by kernel_rfl
theorem pl83 : placesOf Try.prog 83 = some [(0, 1), (1, 1)] := by kernel_rfl
theorem zl83 : zeroL? Try.prog 83 = some [.d (.raw (.int .i64 0)), .d (.raw (.int .i64 0))] := by kernel_rfl
theorem sl84 : SlTy Try.prog 84 83 2 16 := slTy_of (by kernel_rfl)
end Go.Proofs.Ytgdppeobgefogaa
/- What the walk wants of the map types of this program. -/
namespace Go.Proofs.Ytgdppeobgefogaa
open Go.RowKit

theorem mt72 : mapTyB Try.prog 72 3 3 = true := by kernel_rfl
theorem za3 : zeroA? Try.prog 3 = some (.d (.raw (.int .i64 0))) := by kernel_rfl
theorem kt3 : KeyTy Try.prog 3 (fun z : Int => .raw (.int .i64 z)) (fun z => .int .i64 z) := KeyTy.int Try.underlying3

end Go.Proofs.Ytgdppeobgefogaa
/- Layer 31: numbers, lists and graphs as values; keys of the heap. -/
namespace Go.Proofs.Ytgdppeobgefogaa
open Go.RowKit

abbrev intD (n : Int) : D := .raw (.int .i64 n)
abbrev boolD (b : Bool) : D := .raw (.bool b)
abbrev natD (n : Nat) : D := intD (n : Int)
abbrev natsD (l : List Nat) : D := .sl none (l.map natD)
theorem getn {l : List Nat} {k : Nat} (h : k < l.length) : (l.map natD)[k]? = some (natD (nth l k)) := by rw [getm h, Za6 h]
theorem eqv {a b : D} (h : a = b) : AV.d a = AV.d b := by rw [h]
theorem swpJ {l j : List Nat} {a b : Nat} (ha : a < l.length) (hb : b < l.length) : ((l ++ j).set a (nth l b)).set b (nth l a) = swp l a b ++ j := by
  rw [List.set_append_left _ _ ha, List.set_append_left _ _ (by simpa using hb)]; rfl
theorem takeJ (l j : List Nat) {x : Nat} : ((l ++ j).map natD).take l.length ++ [natD x].take 1 = (l ++ [x]).map natD := by
  rw [← List.map_take, List.take_left]; simp
theorem popJ {l j : List Nat} (h : 0 < l.length) : l.take (l.length - 1) ++ ([nth l (l.length - 1)] ++ j) = l ++ j := by
  have e := List.take_append_drop (l.length - 1) l;rw [List.drop_eq_getElem_cons (by omega), show l.length - 1 + 1 = l.length by omega, List.drop_length, ← Za6 (by omega)] at e;rw [← List.append_assoc, e]
theorem quo2 (j : Nat) : Int.tdiv ((j : Int) - 1) 2 = (((j - 1) / 2 : Nat) : Int) := by
  cases j with
  | zero => rfl
  | succ j => rw [show ((j + 1 : Nat) : Int) - 1 = (j : Int) by omega, Nat.add_sub_cancel]; rfl
theorem ACalls.top {P : Program} {f : FuncId} {args : List AV} {CH H0 : Hp} (h : ACalls P f args CH fun r H' => (∃ b : Bool, r = .d (boolD b)) ∧ H' = H0) : ACalls P f args CH fun r H' => r = .top ∧ H' = H0 :=
  ⟨h.1, fun F ρ vs h1 h2 h2' h3 h4 h5 => (h.2 F ρ vs h1 h2 h2' h3 h4 h5).mono fun e w' ⟨v, r, H', ρ', e1, ⟨_, e3⟩, _, hh⟩ => ⟨v, .top, H', ρ', e1, ⟨rfl, e3⟩, .top, hh⟩⟩
theorem bdec {p q : Prop} [Decidable p] [Decidable q] (h : p ↔ q) : AV.d (boolD (decide p)) = AV.d (boolD (decide q)) := by rw [decide_eq_decide.2 h]
theorem pt3 : plainTy Try.prog 3 = true := by kernel_rfl
theorem pt73 : plainTy Try.prog 73 = true := by kernel_rfl
theorem mLen : MethOf Try.prog 73 "Len" 48 := fun b w => by kernel_rfl
theorem mLess : MethOf Try.prog 73 "Less" 88 := fun b w => by kernel_rfl
theorem mSwap : MethOf Try.prog 73 "Swap" 91 := fun b w => by kernel_rfl
theorem mPush : MethOf Try.prog 73 "Push" 90 := fun b w => by kernel_rfl
theorem mPop : MethOf Try.prog 73 "Pop" 89 := fun b w => by kernel_rfl
end Go.Proofs.Ytgdppeobgefogaa
/- Layer 31: graphs as values; the order's closed form. -/
namespace Go.Proofs.Ytgdppeobgefogaa
open Go.RowKit

abbrev grD (g : List (List Nat)) : D := .sl none (g.map natsD)
structure GB (g : List (List Nat)) : Prop where
  n : g.length ≤ 65536
  e : ∀ l ∈ g, l.length ≤ 1048576
  lt : ∀ l ∈ g, ∀ x ∈ l, x < g.length
theorem sucs_get {g : List (List Nat)} {i : Nat} (h : i < g.length) : sucs g i = g[i] := by simp [sucs, h]
theorem getg {g : List (List Nat)} {i : Nat} (h : i < g.length) : (g.map natsD)[i]? = some (natsD (sucs g i)) := by rw [getm h, sucs_get h]
theorem GB.len {g : List (List Nat)} (h : GB g) {i : Nat} (hi : i < g.length) : (sucs g i).length ≤ 1048576 := by rw [sucs_get hi]; exact h.e _ (List.getElem_mem hi)
theorem GB.suc {g : List (List Nat)} (h : GB g) {i x : Nat} (hi : i < g.length) (hx : x ∈ sucs g i) : x < g.length := by rw [sucs_get hi] at hx; exact h.lt _ (List.getElem_mem hi) x hx
def cntT (g : List (List Nat)) (i j : Nat) : Nat := ((List.range i).map fun a => (sucs g a).count j).sum
theorem cntT_succ (g : List (List Nat)) (i j : Nat) : cntT g (i + 1) j = cntT g i j + (sucs g i).count j := by
  unfold cntT; rw [List.range_succ, List.map_append, List.sum_append]; simp
theorem cntT_le {g : List (List Nat)} (h : GB g) (j : Nat) : ∀ i, i ≤ g.length → cntT g i j ≤ i * 1048576
  | 0, _ => by simp [cntT]
  | i + 1, hi => by
    have := cntT_le h j i (by omega);have := List.count_le_length (a := j) (l := sucs g i);have := h.len (i := i) (by omega);rw [cntT_succ]; omega
theorem cntT_deg (g : List (List Nat)) (j : Nat) : cntT g g.length j = degS g [] j := by
  unfold cntT degS
  congr 1
theorem take_count {l : List Nat} {k : Nat} (h : k < l.length) (j : Nat) : (l.take (k + 1)).count j = (l.take k).count j + if nth l k = j then 1 else 0 := by
  rw [List.take_succ_eq_append_getElem h, List.count_append, Za6 h]
  by_cases e : l[k] = j
  · subst e; simp
  · rw [if_neg e, List.count_cons_of_ne e]; rfl
theorem drop_nth {l : List Nat} {k : Nat} (h : k < l.length) : l.drop k = nth l k :: l.drop (k + 1) := by rw [Za6 h]; exact List.drop_eq_getElem_cons h
theorem rep0 (n : Nat) : List.replicate n (D.raw (.int .i64 0)) = (List.replicate n 0).map natD := by rw [List.map_replicate]; rfl
theorem nth_rep (n k : Nat) : nth (List.replicate n 0) k = 0 := by
  unfold nth; rw [List.getD_eq_getElem?_getD, List.getElem?_replicate]; split <;> rfl
theorem getset {w : List Nat} {y v : Nat} (h : y < w.length) : ((w.set y v).map natD)[y]? = some (natD v) := by
  rw [getn (by simpa using h), nth_set h, if_pos rfl]
theorem degS_le {g : List (List Nat)} (h : GB g) (done : List Nat) (j : Nat) : degS g done j ≤ g.length * 1048576 := by
  have key : ∀ n, n ≤ g.length → ((List.range n).map fun i => if i ∈ done then 0 else (sucs g i).count j).sum ≤ n * 1048576 := by
    intro n
    induction n with
    | zero => intro _; exact Nat.zero_le _
    | succ n ih =>
      intro hn;have h1 := ih (by omega);have h2 := List.count_le_length (a := j) (l := sucs g n);have h3 := h.len (i := n) (by omega)
      have h4 : (if n ∈ done then 0 else (sucs g n).count j) ≤ 1048576 := by
        by_cases e : n ∈ done
        · rw [if_pos e]; exact Nat.zero_le _
        · rw [if_neg e]; exact Nat.le_trans h2 h3
      rw [List.range_succ, List.map_append, List.sum_append, List.map_singleton, List.sum_singleton, Nat.succ_mul];exact Nat.add_le_add h1 h4
  exact key _ (Nat.le_refl _)
theorem oi_wle {g : List (List Nat)} {K : Nat → Nat} {w q out ls : List Nat} {y : Nat} (hg : GB g) (h : OI g K w q out (y :: ls)) (hy : y < g.length) (hl : ls.length ≤ 1048576) : nth w y ≤ 69000000000 := by
  have h1 := degS_le hg out y;have h2 := hg.n;have h3 := List.count_le_length (a := y) (l := y :: ls);rw [h.deg y hy];rw [List.length_cons] at h3;omega
theorem oi_row {g : List (List Nat)} {K : Nat → Nat} {w q out : List Nat} {x k : Nat} (h : OI g K w q out ((sucs g x).drop k)) (e : k = (sucs g x).length) : OI g K w q out [] := by
  rw [e, List.drop_length] at h; exact h
noncomputable def ordG (g : List (List Nat)) (K : Nat → Nat) : List Nat := Classical.epsilon fun out => Grd g K out ∧ ∀ y, ¬ avail g out y
theorem ordG_eq {g : List (List Nat)} {K : Nat → Nat} (hK : ∀ a b, a < g.length → b < g.length → K a = K b → a = b) {out : List Nat} (h1 : Grd g K out) (h2 : ∀ y, ¬ avail g out y) : ordG g K = out := by
  have h : Grd g K (ordG g K) ∧ ∀ y, ¬ avail g (ordG g K) y := Classical.epsilon_spec (p := fun out => Grd g K out ∧ ∀ y, ¬ avail g out y) ⟨out, h1, h2⟩;exact grd_uniq hK h.1 h1 h.2 h2
structure FI (K : Nat → Nat) (w : List Nat) (i : Nat) (l : List Nat) : Prop where
  nd : l.Nodup
  mem : ∀ x, x ∈ l ↔ x < i ∧ nth w x = 0
  hp : Heap2 K l
theorem FI.le {K : Nat → Nat} {w : List Nat} {i : Nat} {l : List Nat} (h : FI K w i l) : l.length ≤ i := by
  have := ZbH h.nd (m := List.range i) fun x hx => List.mem_range.2 ((h.mem x).1 hx).1
  rwa [List.length_range] at this
theorem fi_zero (K : Nat → Nat) (w : List Nat) : FI K w 0 [] := ⟨.nil, fun x => by simp, fun i h0 hi => by simp at hi⟩
theorem fi_push {K : Nat → Nat} {w : List Nat} {i : Nat} {l : List Nat} (h : FI K w i l) (hz : nth w i = 0) : FI K w (i + 1) (hpush K l i) := by
  have hp := hpush_perm K l i;refine ⟨hp.nodup_iff.2 (List.nodup_cons.2 ⟨fun hm => Nat.lt_irrefl _ ((h.mem i).1 hm).1, h.nd⟩), fun x => ?_, hpush_heap h.hp i⟩;rw [hp.mem_iff, List.mem_cons, h.mem]
  constructor
  · rintro (rfl | ⟨h1, h2⟩)
    · exact ⟨by omega, hz⟩
    · exact ⟨by omega, h2⟩
  · rintro ⟨h1, h2⟩
    by_cases e : x = i
    · exact .inl e
    · exact .inr ⟨by omega, h2⟩
theorem fi_skip {K : Nat → Nat} {w : List Nat} {i : Nat} {l : List Nat} (h : FI K w i l) (hz : nth w i ≠ 0) : FI K w (i + 1) l := by
  refine ⟨h.nd, fun x => ?_, h.hp⟩;rw [h.mem]
  constructor
  · rintro ⟨h1, h2⟩; exact ⟨by omega, h2⟩
  · rintro ⟨h1, h2⟩
    by_cases e : x = i
    · subst e; exact (hz h2).elim
    · exact ⟨by omega, h2⟩
structure CW (g : List (List Nat)) (i k : Nat) (w : List Nat) : Prop where
  len : w.length = g.length
  val : ∀ j, j < g.length → nth w j = cntT g i j + ((sucs g i).take k).count j
theorem cw_zero (g : List (List Nat)) : CW g 0 0 (List.replicate g.length 0) := ⟨by simp, fun j _ => by rw [nth_rep]; simp [cntT]⟩
theorem cw_step {g : List (List Nat)} {i k : Nat} {w : List Nat} (hg : GB g) (h : CW g i k w) (hi : i < g.length) (hk : k < (sucs g i).length) :
    nth (sucs g i) k < w.length ∧ nth w (nth (sucs g i) k) ≤ 100000000000 ∧ CW g i (k + 1) (w.set (nth (sucs g i) k) (nth w (nth (sucs g i) k) + 1)) := by
  have hx : nth (sucs g i) k < g.length := hg.suc hi (Zbs hk);have hxw : nth (sucs g i) k < w.length := by rw [h.len]; exact hx
  refine ⟨hxw, ?_, ⟨by simpa using h.len, fun j hj => ?_⟩⟩
  · rw [h.val _ hx];have := cntT_le hg (nth (sucs g i) k) i (by omega);have := List.count_le_length (a := nth (sucs g i) k) (l := (sucs g i).take k);rw [List.length_take] at this;have := hg.len hi; have := hg.n;omega
  · rw [nth_set hxw, take_count hk]
    by_cases e : nth (sucs g i) k = j
    · rw [if_pos e.symm, if_pos e, e, h.val j hj]; omega
    · rw [if_neg fun e' => e e'.symm, if_neg e, h.val j hj]; omega
theorem cw_row {g : List (List Nat)} {i : Nat} {w : List Nat} (h : CW g i (sucs g i).length w) : CW g (i + 1) 0 w := ⟨h.len, fun j hj => by rw [h.val j hj, List.take_length, cntT_succ]; simp⟩
theorem cw_end {g : List (List Nat)} {w : List Nat} (h : CW g g.length 0 w) : w.length = g.length ∧ ∀ j, j < g.length → nth w j = degS g [] j :=
  ⟨h.len, fun j hj => by rw [h.val j hj, cntT_deg]; simp⟩
end Go.Proofs.Ytgdppeobgefogaa
/- Layer 31: the depth-first search's memory. -/
namespace Go.Proofs.Ytgdppeobgefogaa
open Go.RowKit

abbrev rowN (n : Nat) (f : Nat → Nat) : List D := (List.range n).map fun v => natD (f v)
abbrev rowI (n : Nat) (f : Nat → Int) : List D := (List.range n).map fun v => intD (f v)
theorem ZaM {n i : Nat} {f : Nat → Nat} (h : i < n) : (rowN n f)[i]? = some (natD (f i)) := by simp [h]
theorem rowI_get {n i : Nat} {f : Nat → Int} (h : i < n) : (rowI n f)[i]? = some (intD (f i)) := by simp [h]
theorem row_set {n i : Nat} {f h : Nat → D} (he : ∀ j, j < n → j ≠ i → f j = h j) {x : D} (hx : x = h i) : ((List.range n).map f).set i x = (List.range n).map h := by
  refine List.ext_getElem (by simp) fun j h1 h2 => ?_;rw [List.getElem_set];simp only [List.length_map, List.length_range] at h2;simp only [List.getElem_map, List.getElem_range]
  by_cases e : i = j
  · subst e; rw [if_pos rfl]; exact hx
  · rw [if_neg e]; exact he j h2 fun e' => e e'.symm
theorem rowN_set {n i x : Nat} {f : Nat → Nat} : (rowN n f).set i (natD x) = rowN n (updF f i x) :=
  row_set (fun j _ hne => by rw [ZaQ hne]) (by rw [ZaS])
theorem rowI_set {n i : Nat} {x : Int} {f : Nat → Int} : (rowI n f).set i (intD x) = rowI n (updF f i x) :=
  row_set (fun j _ hne => by rw [ZaQ hne]) (by rw [ZaS])
theorem rowN_len (n : Nat) (f : Nat → Nat) : (rowN n f).length = n := by simp
theorem rowI_len (n : Nat) (f : Nat → Int) : (rowI n f).length = n := by simp
theorem repN (n : Nat) : List.replicate n (D.raw (.int .i64 0)) = rowN n (fun _ => 0) := by
  refine List.ext_getElem (by simp) fun j h1 h2 => ?_
  simp
theorem repI (n : Nat) : List.replicate n (D.raw (.int .i64 0)) = rowI n (fun _ => 0) := by
  refine List.ext_getElem (by simp) fun j h1 h2 => ?_
  simp
abbrev frD (f : Nat × Nat) : D := .agg [natD f.1, natD f.2]
def pend : Option Nat → List (Nat × Nat)
  | none => []
  | some v => [(v, 0)]
theorem getF {l j : List (Nat × Nat)} {x : Nat × Nat} {k : Nat} (h : k = l.length) : ((l ++ [x] ++ j).map frD)[k]? = some (frD x) := by
  subst h; simp
theorem setF {l j : List (Nat × Nat)} {x y : Nat × Nat} {k : Nat} (h : k = l.length) : ((l ++ [x] ++ j).map frD).set k (frD y) = (l ++ [y] ++ j).map frD := by
  subst h; simp
theorem takeF (l j : List (Nat × Nat)) {x : Nat × Nat} : ((l ++ j).map frD).take l.length ++ [frD x].take 1 = (l ++ [x]).map frD := by
  rw [← List.map_take, List.take_left]; simp
theorem minN (a b : Nat) : (if (b : Int) < (a : Int) then (b : Int) else (a : Int)) = ((min a b : Nat) : Int) := by
  split <;> omega
def mu (n : Nat) (suc : Nat → List Nat) (S : TS) : Nat := ((List.range n).map fun v => if S.idx v = 0 then (suc v).length + 1 else 0).sum + (S.cs.map fun f => (suc f.1).length - f.2 + 1).sum
theorem mu_visit {n : Nat} {suc : Nat → List Nat} {S : TS} {v : Nat} (hv : v < n) (h0 : S.idx v = 0) {l : Nat → Nat} {st : List Nat} {c : Nat} :
    mu n suc ⟨updF S.idx v (S.clk + 1), l, S.of, st, S.cs ++ [(v, 0)], S.cnt, c⟩ = mu n suc S := by
  unfold mu;dsimp only
  have := sum_upd (n := n) (i := v) (f := fun v => if S.idx v = 0 then (suc v).length + 1 else 0) (h := fun u => if updF S.idx v (S.clk + 1) u = 0 then (suc u).length + 1 else 0) (c := (suc v).length + 1) hv
    (fun k _ hne => by rw [ZaQ hne]) (by rw [ZaS, if_pos h0, if_neg (by omega)]; omega)
  rw [this, List.map_append, List.sum_append];simp only [List.map_cons, List.map_nil, List.sum_cons, List.sum_nil];omega
theorem mu_adv {n : Nat} {suc : Nat → List Nat} {S : TS} {cs0 : List (Nat × Nat)} {v k : Nat} (h : S.cs = cs0 ++ [(v, k)]) (hk : k < (suc v).length) {l : Nat → Nat} : mu n suc { S with low := l, cs := cs0 ++ [(v, k + 1)] } < mu n suc S := by
  unfold mu;rw [h];dsimp only;rw [List.map_append, List.map_append, List.sum_append, List.sum_append];simp only [List.map_cons, List.map_nil, List.sum_cons, List.sum_nil];omega
theorem mu_pop {n : Nat} {suc : Nat → List Nat} {S : TS} {cs0 : List (Nat × Nat)} {v k : Nat} (h : S.cs = cs0 ++ [(v, k)]) {l : Nat → Nat} {o : Nat → Int} {st : List Nat} {c : Nat} : mu n suc ⟨S.idx, l, o, st, cs0, c, S.clk⟩ < mu n suc S := by
  unfold mu;rw [h];dsimp only;rw [List.map_append, List.sum_append];simp only [List.map_cons, List.map_nil, List.sum_cons, List.sum_nil];omega
structure TH (n : Nat) (suc : Nat → List Nat) (r : Nat) (S : TS) (p : Option Nat) : Prop where
  ti : TI n suc S p
  k1 : ∀ f ∈ S.cs, 1 ≤ f.2
  old : ∀ v, v < r → S.idx v ≠ 0
  rt : S.idx r ≠ 0 ∨ p = some r
structure TB (n : Nat) (suc : Nat → List Nat) (r : Nat) (S : TS) (cs0 : List (Nat × Nat)) (v k : Nat) : Prop where
  ti : TI n suc S none
  hcs : S.cs = cs0 ++ [(v, k)]
  k1 : ∀ f ∈ cs0, 1 ≤ f.2
  old : ∀ v, v < r → S.idx v ≠ 0
  rt : S.idx r ≠ 0
theorem th_last {n : Nat} {suc : Nat → List Nat} {r : Nat} {S : TS} {p : Option Nat} (h : TH n suc r S p) (hne : S.cs ++ pend p ≠ []) : ∃ cs0 v k, S.cs ++ pend p = cs0 ++ [(v, k)] ∧ v < n ∧ (k = 0 → S.cs = cs0 ∧ p = some v) ∧ (k ≠ 0 → S.cs = cs0 ++ [(v, k)] ∧ p = none) := by
  cases p with
  | some v => exact ⟨S.cs, v, 0, rfl, (h.ti.pnd v rfl).1, fun _ => ⟨rfl, rfl⟩, fun h => (h rfl).elim⟩
  | none =>
    rw [pend, List.append_nil] at hne ⊢;rcases List.eq_nil_or_concat S.cs with e | ⟨l, ⟨v, k⟩, e⟩
    · exact (hne e).elim
    · rw [List.concat_eq_append] at e;have hm : (v, k) ∈ S.cs := by rw [e]; exact List.mem_append_right _ (List.mem_singleton.2 rfl)
      have := h.k1 _ hm;have hv := h.ti.lt v ((h.ti.st v).1 (h.ti.csm _ hm)).1;exact ⟨l, v, k, e, hv, fun hk => by dsimp only at this; omega, fun _ => ⟨e, rfl⟩⟩
theorem tb_visit {n : Nat} {suc : Nat → List Nat} {r : Nat} {S : TS} {v : Nat} (h : TH n suc r S (some v)) :
    TB n suc r ⟨updF S.idx v (S.clk + 1), updF S.low v (S.clk + 1), S.of, S.st ++ [v], S.cs ++ [(v, 0)], S.cnt, S.clk + 1⟩ S.cs v 0 := by
  refine ⟨ti_visit h.ti, rfl, h.k1, fun w hw => ?_, ?_⟩
  · show updF S.idx v (S.clk + 1) w ≠ 0
    by_cases e : w = v
    · subst e; rw [ZaS]; omega
    · rw [ZaQ e]; exact h.old w hw
  · show updF S.idx v (S.clk + 1) r ≠ 0
    by_cases e : r = v
    · subst e; rw [ZaS]; omega
    · rw [ZaQ e]; exact h.rt.resolve_right fun e' => e (Option.some.inj e').symm
theorem tb_old {n : Nat} {suc : Nat → List Nat} {r : Nat} {S : TS} {cs0 : List (Nat × Nat)} {v k : Nat} (h : TH n suc r S none) (hcs : S.cs = cs0 ++ [(v, k)]) : TB n suc r S cs0 v k :=
  ⟨h.ti, hcs, fun f hf => h.k1 f (by rw [hcs]; exact List.mem_append_left _ hf), h.old, h.rt.resolve_right fun e => by cases e⟩
theorem tb_vlt {n : Nat} {suc : Nat → List Nat} {r : Nat} {S : TS} {cs0 : List (Nat × Nat)} {v k : Nat} (h : TB n suc r S cs0 v k) : v < n ∧ v ∈ S.st ∧ S.idx v ≠ 0 ∧ k ≤ (suc v).length := by
  have hm : (v, k) ∈ S.cs := by rw [h.hcs]; exact List.mem_append_right _ (List.mem_singleton.2 rfl)
  have h1 := h.ti.csm _ hm;have h2 := ((h.ti.st v).1 h1).1;exact ⟨h.ti.lt v h2, h1, h2, (h.ti.gry _ hm).1⟩
theorem tb_new {n : Nat} {suc : Nat → List Nat} {r : Nat} {S : TS} {cs0 : List (Nat × Nat)} {v k j : Nat} (h : TB n suc r S cs0 v k) (hj : (suc v)[k]? = some j) (hjn : j < n) (h0 : S.idx j = 0) :
    TH n suc r { S with cs := cs0 ++ [(v, k + 1)] } (some j) := by
  refine ⟨ti_adv h.ti h.hcs hj hjn (low' := S.low) (fun w => Nat.le_refl _) (fun w hw => (h.ti.lw w hw).2) (.inr rfl) (fun x e => ⟨(Option.some.inj e).symm, h0⟩) (fun hm => absurd h0 ((h.ti.st j).1 hm).1), fun f hf => ?_, h.old, .inl h.rt⟩;rcases List.mem_append.1 hf with hf | hf
  · exact h.k1 f hf
  · rw [List.mem_singleton.1 hf]; show 1 ≤ k + 1; omega
theorem tb_low {n : Nat} {suc : Nat → List Nat} {r : Nat} {S : TS} {cs0 : List (Nat × Nat)} {v k j : Nat} (h : TB n suc r S cs0 v k) (hj : (suc v)[k]? = some j) (hjn : j < n) (h0 : S.idx j ≠ 0) (ho : S.of j < 0) :
    TH n suc r { S with low := updF S.low v (min (S.low v) (S.idx j)), cs := cs0 ++ [(v, k + 1)] } none := by
  have hjs : j ∈ S.st := (h.ti.st j).2 ⟨h0, ho⟩;refine ⟨ti_adv h.ti h.hcs hj hjn (fun w => ?_) (fun w hw => ?_) (.inl h0) (fun x e => by cases e) (fun _ => by rw [ZaS]; omega), fun f hf => ?_, h.old, .inl h.rt⟩
  · by_cases e : w = v
    · subst e; rw [ZaS]; omega
    · rw [ZaQ e]; exact Nat.le_refl _
  · by_cases e : w = v
    · subst e; rw [ZaS];rcases Nat.lt_or_ge (S.idx j) (S.low w) with hl | hl
      · exact ⟨j, hjs, by omega, Rh.one (List.mem_of_getElem? hj)⟩
      · obtain ⟨y, hy, e1, e2⟩ := (h.ti.lw w hw).2;exact ⟨y, hy, by omega, e2⟩
    · rw [ZaQ e]; exact (h.ti.lw w hw).2
  · rcases List.mem_append.1 hf with hf | hf
    · exact h.k1 f hf
    · rw [List.mem_singleton.1 hf]; show 1 ≤ k + 1; omega
theorem tb_done {n : Nat} {suc : Nat → List Nat} {r : Nat} {S : TS} {cs0 : List (Nat × Nat)} {v k j : Nat} (h : TB n suc r S cs0 v k) (hj : (suc v)[k]? = some j) (hjn : j < n) (h0 : S.idx j ≠ 0) (ho : ¬ S.of j < 0) :
    TH n suc r { S with cs := cs0 ++ [(v, k + 1)] } none := by
  refine ⟨ti_adv h.ti h.hcs hj hjn (low' := S.low) (fun w => Nat.le_refl _) (fun w hw => (h.ti.lw w hw).2) (.inl h0) (fun x e => by cases e) (fun hm => absurd ((h.ti.st j).1 hm).2 ho), fun f hf => ?_, h.old, .inl h.rt⟩;rcases List.mem_append.1 hf with hf | hf
  · exact h.k1 f hf
  · rw [List.mem_singleton.1 hf]; show 1 ≤ k + 1; omega
end Go.Proofs.Ytgdppeobgefogaa
/- Layer 31: a graph whose rows grow, in memory. -/
namespace Go.Proofs.Ytgdppeobgefogaa
open Go.RowKit

structure GRep (M : MF) (n : Nat) (hs : Nat → Hd) (ls : Nat → List Nat) : Prop where
  at_ : ∀ j, j < n → rowAt M (hs j) 3 1 ((ls j).map natD)
  inj : ∀ j k b c c', j < n → k < n → hs j = some (b, c) → hs k = some (b, c') → j = k
abbrev rowH (n : Nat) (hs : Nat → Hd) (ls : Nat → List Nat) : List D := (List.range n).map fun j => hdr (hs j) (ls j).length
theorem rowH_get {n j : Nat} {hs : Nat → Hd} {ls : Nat → List Nat} (h : j < n) : (rowH n hs ls)[j]? = some (hdr (hs j) (ls j).length) := by simp [h]
theorem ZbG (n : Nat) (hs : Nat → Hd) (ls : Nat → List Nat) : (rowH n hs ls).length = n := by simp
theorem rowH_set {n j : Nat} {hs : Nat → Hd} {ls : Nat → List Nat} {h : Hd} {l : List Nat} : (rowH n hs ls).set j (hdr h l.length) = rowH n (updF hs j h) (updF ls j l) :=
  row_set (fun i _ hne => by rw [ZaQ hne, ZaQ hne]) (by rw [ZaS, ZaS])
theorem GRep.zero (n : Nat) : GRep (fun _ => none) n (fun _ => none) (fun _ => []) := ⟨fun _ _ => rfl, fun _ _ _ _ _ _ _ h => by cases h⟩
theorem GRep.app {M : MF} {n j : Nat} {hs : Nat → Hd} {ls : Nat → List Nat} (h : GRep M n hs ls) (hj : j < n) {l : List Nat} {b c : Nat} (hb : mdelH M (hs j) b = none) (hc : (l.map natD).length ≤ c) :
    GRep (mput_ (mdelH M (hs j)) b (.row 3 1 c (l.map natD))) n (updF hs j (some (b, c))) (updF ls j l) := by
  have hne : ∀ k, k < n → k ≠ j → ∀ b' c', hs k = some (b', c') → b' ≠ b ∧ mput_ (mdelH M (hs j)) b (.row 3 1 c (l.map natD)) b' = M b' := by
    intro k hk hkj b' c' e;have h1 := h.at_ k hk;rw [e] at h1;have h2 : ∀ c'', hs j ≠ some (b', c'') := fun c'' e2 => hkj (h.inj k j b' c' c'' hk hj e e2);refine ⟨fun e3 => ?_, ?_⟩
    · subst e3;have := mdelH_keep h1.2 h2;rw [hb] at this; cases this
    · rw [keepM hb h1.2 h2, h1.2]
  refine ⟨fun k hk => ?_, fun k k' b1 c1 c2 hk hk' e1 e2 => ?_⟩
  · by_cases e : k = j
    · subst e; rw [ZaS, ZaS]; exact ⟨hc, mput_same _ _ _⟩
    · rw [ZaQ e, ZaQ e];have h1 := h.at_ k hk
      match hh : hs k, h1 with
      | none, h1 => exact h1
      | some (b', c'), h1 => exact ⟨h1.1, by rw [(hne k hk e b' c' hh).2]; exact h1.2⟩
  · by_cases ek : k = j <;> by_cases ek' : k' = j
    · rw [ek, ek']
    · subst ek;rw [ZaS] at e1; rw [ZaQ ek'] at e2;injection e1 with e1; injection e1 with e1 _; subst e1
      exact ((hne k' hk' ek' _ _ e2).1 rfl).elim
    · subst ek';rw [ZaS] at e2; rw [ZaQ ek] at e1;injection e2 with e2; injection e2 with e2 _; subst e2
      exact ((hne k hk ek _ _ e1).1 rfl).elim
    · rw [ZaQ ek] at e1; rw [ZaQ ek'] at e2;exact h.inj k k' b1 c1 c2 hk hk' e1 e2
def grF (n : Nat) (ls : Nat → List Nat) : List (List Nat) := (List.range n).map ls
theorem Zbt (n : Nat) (ls : Nat → List Nat) : (grF n ls).length = n := by simp [grF]
theorem grF_sucs {n i : Nat} {ls : Nat → List Nat} (h : i < n) : sucs (grF n ls) i = ls i := by
  rw [sucs_get (by rw [Zbt]; exact h)]; simp [grF]
theorem GRep.melt {M : MF} {n : Nat} {hs : Nat → Hd} {ls : Nat → List Nat} (h : GRep M n hs ls) : ∀ (j : Nat) x y, (rowH n hs ls)[j]? = some x → ((grF n ls).map natsD)[j]? = some y → Melt M x y := by
  intro j x y hx hy;have hj : j < n := by have := (List.getElem?_eq_some_iff.1 hx).1; rwa [ZbG] at this
  rw [rowH_get hj] at hx;injection hx with hx
  rw [getg (by rw [Zbt]; exact hj), grF_sucs hj] at hy;injection hy with hy
  subst hx hy;exact .inr ⟨hs j, 3, (ls j).map natD, by rw [List.length_map], h.at_ j hj, fun z hz => by obtain ⟨a, _, rfl⟩ := List.mem_map.1 hz; rfl, rfl⟩
theorem one_rowH (n : Nat) (hs : Nat → Hd) (ls : Nat → List Nat) : ∀ x ∈ rowH n hs ls, x.one = true := fun x hx => by
  obtain ⟨a, _, rfl⟩ := List.mem_map.1 hx; rfl
theorem one_gr (g : List (List Nat)) : ∀ x ∈ g.map natsD, x.one = true := fun x hx => by
  obtain ⟨a, _, rfl⟩ := List.mem_map.1 hx; rfl
theorem nil_rowH (n : Nat) : ∀ (j : Nat) x y, (List.replicate n (D.sl (some true) []))[j]? = some x → (rowH n (fun _ => none) (fun _ => []))[j]? = some y → ∀ w O v, RepD w O x v → RepD w O y v := by
  intro j x y hx hy w O v hr;have hj : j < n := by have := (List.getElem?_eq_some_iff.1 hx).1; rwa [List.length_replicate] at this
  rw [rowH_get hj] at hy;injection hy with hy
  have hx' : x = D.sl (some true) [] := by rw [List.getElem?_replicate, if_pos hj] at hx; injection hx with hx; exact hx.symm
  subst hx' hy;exact hr.nrm1
theorem one_nil (n : Nat) : ∀ x ∈ List.replicate n (D.sl (some true) []), x.one = true := fun x hx => by rw [(List.mem_replicate.1 hx).2]; rfl
def revT (g : List (List Nat)) (i k j : Nat) : List Nat := ((List.range i).flatMap fun a => List.replicate ((sucs g a).count j) a) ++ List.replicate (((sucs g i).take k).count j) i
def revL (g : List (List Nat)) (j : Nat) : List Nat := (List.range g.length).flatMap fun a => List.replicate ((sucs g a).count j) a
def revG (g : List (List Nat)) : List (List Nat) := grF g.length (revL g)
theorem revT_zero (g : List (List Nat)) : revT g 0 0 = fun _ => [] := by funext j; simp [revT]
theorem revT_row (g : List (List Nat)) (i : Nat) : revT g i (sucs g i).length = revT g (i + 1) 0 := by
  funext j
  unfold revT;rw [List.take_length, List.range_succ, List.flatMap_append]
  simp
theorem revT_step {g : List (List Nat)} {i k : Nat} (hk : k < (sucs g i).length) : updF (revT g i k) (nth (sucs g i) k) (revT g i k (nth (sucs g i) k) ++ [i]) = revT g i (k + 1) := by
  funext j
  by_cases e : j = nth (sucs g i) k
  · subst e;rw [ZaS];unfold revT;rw [take_count hk, if_pos rfl, List.replicate_succ', List.append_assoc]
  · rw [ZaQ e];unfold revT;rw [take_count hk, if_neg fun h => e h.symm, Nat.add_zero]
theorem revT_end (g : List (List Nat)) : revT g g.length 0 = revL g := by funext j; simp [revT, revL]
theorem revT_len {g : List (List Nat)} (hg : GB g) {i : Nat} (hi : i < g.length) (k j : Nat) : (revT g i k j).length ≤ 69000000000 := by
  have key : ∀ m, m ≤ g.length → ((List.range m).flatMap fun a => List.replicate ((sucs g a).count j) a).length ≤ m * 1048576 := by
    intro m
    induction m with
    | zero => intro _; exact Nat.zero_le _
    | succ m ih =>
      intro hm;have h1 := ih (by omega);have h2 := List.count_le_length (a := j) (l := sucs g m);have h3 := hg.len (i := m) (by omega);rw [List.range_succ, List.flatMap_append, List.length_append, Nat.succ_mul];refine Nat.add_le_add h1 ?_
      simp; omega
  have h1 := key i (by omega);have h2 := List.count_le_length (a := j) (l := (sucs g i).take k);have h3 := hg.len hi;have h4 := hg.n;rw [List.length_take] at h2;unfold revT;rw [List.length_append, List.length_replicate];omega
end Go.Proofs.Ytgdppeobgefogaa
/- Layer 31: components in order, closed forms. -/
namespace Go.Proofs.Ytgdppeobgefogaa
open Go.RowKit

theorem grd_ex (g : List (List Nat)) (K : Nat → Nat) : ∃ out, Grd g K out ∧ ∀ y, ¬ avail g out y := by
  have key : ∀ (m : Nat) (l : List Nat), Grd g K l → g.length - l.length ≤ m → ∃ out, Grd g K out ∧ ∀ y, ¬ avail g out y := by
    intro m
    induction m with
    | zero =>
      intro l hl hm;refine ⟨l, hl, fun y hy => ?_⟩;obtain ⟨h1, h2⟩ := grd_nodup hl;have := ZbH (List.nodup_cons.2 ⟨hy.2.1, h1⟩) (m := List.range g.length) fun x hx => List.mem_range.2 ((List.mem_cons.1 hx).elim (fun e => e ▸ hy.1) (h2 x));rw [List.length_cons, List.length_range] at this;omega
    | succ m ih =>
      intro l hl hm
      by_cases he : ∃ y, avail g l y
      · have hmin : ∀ (b : Nat) y, avail g l y → K y ≤ b → ∃ x, avail g l x ∧ ∀ z, avail g l z → K x ≤ K z := by
          intro b
          induction b with
          | zero => intro y hy hb; exact ⟨y, hy, fun z _ => by omega⟩
          | succ b ihb =>
            intro y hy hb
            by_cases h2 : ∃ z, avail g l z ∧ K z ≤ b
            · obtain ⟨z, hz, hzb⟩ := h2; exact ihb z hz hzb
            · exact ⟨y, hy, fun z hz => by
                have : ¬ K z ≤ b := fun h => h2 ⟨z, hz, h⟩
                omega⟩
        obtain ⟨y, hy⟩ := he;obtain ⟨x, hx, hxm⟩ := hmin (K y) y hy (Nat.le_refl _);refine ih (l ++ [x]) (grd_snoc hl hx hxm) ?_;rw [List.length_append, List.length_singleton];omega
      · exact ⟨l, hl, fun y hy => he ⟨y, hy⟩⟩
  exact key _ [] (fun i hi => by simp at hi) (Nat.le_refl _)
theorem ordG_spec (g : List (List Nat)) (K : Nat → Nat) : Grd g K (ordG g K) ∧ ∀ y, ¬ avail g (ordG g K) y := Classical.epsilon_spec (p := fun out => Grd g K out ∧ ∀ y, ¬ avail g out y) (grd_ex g K)
theorem ordG_lt {g : List (List Nat)} {K : Nat → Nat} {k : Nat} (h : k < (ordG g K).length) : nth (ordG g K) k < g.length := (grd_nodup (ordG_spec g K).1).2 _ (Zbs h)
theorem ordG_len (g : List (List Nat)) (K : Nat → Nat) : (ordG g K).length ≤ g.length := by
  obtain ⟨h1, h2⟩ := grd_nodup (ordG_spec g K).1;have := ZbH h1 (m := List.range g.length) fun x hx => List.mem_range.2 (h2 x hx)
  rwa [List.length_range] at this

def lfT (of : Nat → Nat) (n : Nat) : Nat → Nat → Nat
  | 0 => fun _ => 0
  | d + 1 => updF (lfT of n d) (of (n - 1 - d)) (n - 1 - d)
theorem lfT_spec (of : Nat → Nat) (n : Nat) : ∀ d, d ≤ n → ∀ c, (∃ v, n - d ≤ v ∧ v < n ∧ of v = c) → of (lfT of n d c) = c ∧ lfT of n d c < n ∧ ∀ v, n - d ≤ v → v < n → of v = c → lfT of n d c ≤ v
  | 0, _, c, ⟨v, h1, h2, _⟩ => by omega
  | d + 1, hd, c, ⟨v, h1, h2, h3⟩ => by
    unfold lfT
    by_cases e : c = of (n - 1 - d)
    · subst e; rw [ZaS];exact ⟨rfl, by omega, fun v hv _ _ => by omega⟩
    · rw [ZaQ e];have hv : v ≠ n - 1 - d := fun e2 => e (by rw [← h3, e2]);obtain ⟨q1, q2, q3⟩ := lfT_spec of n d (by omega) c ⟨v, by omega, h2, h3⟩;refine ⟨q1, q2, fun u hu hun hc => q3 u ?_ hun hc⟩;have : u ≠ n - 1 - d := fun e2 => e (by rw [← hc, e2]);omega
def lfL (of : Nat → Nat) (n cnt : Nat) : List Nat := (List.range cnt).map (lfT of n n)
theorem lfL_nth {of : Nat → Nat} {n cnt c : Nat} (h : c < cnt) : nth (lfL of n cnt) c = lfT of n n c := by
  unfold lfL; rw [Za6 (by simpa using h)]; simp
theorem lfL_len (of : Nat → Nat) (n cnt : Nat) : (lfL of n cnt).length = cnt := by simp [lfL]
theorem rowN_map (n : Nat) (f : Nat → Nat) : rowN n f = ((List.range n).map f).map natD := by rw [List.map_map]; rfl
theorem lf_inj {n cnt : Nat} {suc : Nat → List Nat} {of : Nat → Nat} (h : SccOf n suc of cnt) : ∀ a b, a < cnt → b < cnt → nth (lfL of n cnt) a = nth (lfL of n cnt) b → a = b := by
  intro a b ha hb e;rw [lfL_nth ha, lfL_nth hb] at e;obtain ⟨v, hv, hv2⟩ := h.use a ha;obtain ⟨u, hu, hu2⟩ := h.use b hb;have h1 := (lfT_spec of n n (Nat.le_refl _) a ⟨v, by omega, hv, hv2⟩).1;have h2 := (lfT_spec of n n (Nat.le_refl _) b ⟨u, by omega, hu, hu2⟩).1;rw [← h1, e, h2]
def edA (of : Nat → Nat) (a : Nat) (l : List Nat) : List Nat := (l.filter fun x => decide (of a ≠ of x)).map of
def edT (g : List (List Nat)) (of : Nat → Nat) (i k c : Nat) : List Nat := ((List.range i).flatMap fun a => if of a = c then edA of a (sucs g a) else []) ++ if of i = c then edA of i ((sucs g i).take k) else []
theorem edT_zero (g : List (List Nat)) (of : Nat → Nat) : edT g of 0 0 = fun _ => [] := by funext c; simp [edT, edA]
theorem edT_row (g : List (List Nat)) (of : Nat → Nat) (i : Nat) : edT g of i (sucs g i).length = edT g of (i + 1) 0 := by
  funext c
  unfold edT;rw [List.take_length, List.range_succ, List.flatMap_append]
  simp [edA]
theorem edA_take {of : Nat → Nat} {a k : Nat} {l : List Nat} (hk : k < l.length) : edA of a (l.take (k + 1)) = edA of a (l.take k) ++ if of a ≠ of (nth l k) then [of (nth l k)] else [] := by
  unfold edA;rw [List.take_succ_eq_append_getElem hk, List.filter_append, List.map_append, Za6 hk]
  congr 1
  by_cases h : of a ≠ of l[k]
  · rw [if_pos h, List.filter_cons_of_pos (by simpa using h)]; rfl
  · rw [if_neg h, List.filter_cons_of_neg (by simpa using h)]; rfl
theorem edT_step {g : List (List Nat)} {of : Nat → Nat} {i k : Nat} (hk : k < (sucs g i).length) (h : of i ≠ of (nth (sucs g i) k)) : updF (edT g of i k) (of i) (edT g of i k (of i) ++ [of (nth (sucs g i) k)]) = edT g of i (k + 1) := by
  funext c
  by_cases e : c = of i
  · subst e;rw [ZaS];unfold edT;rw [if_pos rfl, if_pos rfl, edA_take hk, if_pos h, List.append_assoc]
  · rw [ZaQ e];unfold edT;rw [if_neg fun h => e h.symm, if_neg fun h => e h.symm]
theorem edT_skip {g : List (List Nat)} {of : Nat → Nat} {i k : Nat} (hk : k < (sucs g i).length) (h : ¬ of i ≠ of (nth (sucs g i) k)) : edT g of i k = edT g of i (k + 1) := by
  funext c
  unfold edT;rw [edA_take hk, if_neg h, List.append_nil]
def totG (g : List (List Nat)) (i : Nat) : Nat := ((List.range i).map fun a => (sucs g a).length).sum
theorem edA_len (of : Nat → Nat) (a : Nat) (l : List Nat) : (edA of a l).length ≤ l.length := by unfold edA; rw [List.length_map]; exact List.length_filter_le _ _
theorem edT_len (g : List (List Nat)) (of : Nat → Nat) (i k c : Nat) : (edT g of i k c).length ≤ totG g i + ((sucs g i).take k).length := by
  have key : ∀ m, ((List.range m).flatMap fun a => if of a = c then edA of a (sucs g a) else []).length ≤ totG g m := by
    intro m
    induction m with
    | zero => exact Nat.zero_le _
    | succ m ih =>
      unfold totG at ih ⊢;rw [List.range_succ, List.flatMap_append, List.length_append, List.map_append, List.sum_append, List.flatMap_singleton, List.map_singleton, List.sum_singleton];refine Nat.add_le_add ih ?_
      split
      · exact edA_len _ _ _
      · exact Nat.zero_le _
  unfold edT;rw [List.length_append];refine Nat.add_le_add (key i) ?_
  split
  · exact edA_len _ _ _
  · exact Nat.zero_le _
theorem totG_mono (g : List (List Nat)) {i j : Nat} (h : i ≤ j) : totG g i ≤ totG g j := by
  induction j with
  | zero => have : i = 0 := by omega
            subst this; exact Nat.le_refl _
  | succ j ih =>
    by_cases e : i = j + 1
    · subst e; exact Nat.le_refl _
    · have := ih (by omega);have h2 : totG g (j + 1) = totG g j + (sucs g j).length := by unfold totG; rw [List.range_succ, List.map_append, List.sum_append]; simp
      omega
structure GT (g : List (List Nat)) : Prop where
  gb : GB g
  tot : totG g g.length ≤ 1048576
def edG (g : List (List Nat)) (of : Nat → Nat) (cnt : Nat) : List (List Nat) := grF cnt (edT g of g.length 0)
theorem edG_gb {g : List (List Nat)} {of : Nat → Nat} {cnt : Nat} (hg : GT g) (h : SccOf g.length (sucs g) of cnt) : GB (edG g of cnt) := by
  have hn := hg.gb.n;have hle := h.le;refine ⟨by rw [edG, Zbt]; omega, fun l hl => ?_, fun l hl x hx => ?_⟩
  · obtain ⟨c, _, rfl⟩ := List.mem_map.1 hl;have := edT_len g of g.length 0 c;have := hg.tot
    simp at *; omega
  · obtain ⟨c, _, rfl⟩ := List.mem_map.1 hl;rw [edG, Zbt]
    have key : ∀ a l, a < g.length → (∀ x ∈ l, x < g.length) → x ∈ edA of a l → x < cnt := fun a l _ hl hx => by
      unfold edA at hx;obtain ⟨y, hy, rfl⟩ := List.mem_map.1 hx;exact h.lt y (hl y (List.mem_filter.1 hy).1)
    unfold edT at hx;rcases List.mem_append.1 hx with hx | hx
    · obtain ⟨a, ha, hx⟩ := List.mem_flatMap.1 hx
      split at hx
      · exact key a _ (List.mem_range.1 ha) (fun y hy => hg.gb.suc (List.mem_range.1 ha) hy) hx
      · cases hx
    · rw [List.take_zero] at hx
      split at hx
      · simp [edA] at hx
      · cases hx
def numT (seq : List Nat) : Nat → Nat → Nat
  | 0 => fun _ => 0
  | k + 1 => updF (numT seq k) (nth seq k) k
theorem numT_lt (seq : List Nat) {cnt : Nat} (h0 : 0 < cnt) (hs : seq.length ≤ cnt) : ∀ k, k ≤ seq.length → ∀ c, numT seq k c < cnt
  | 0, _, c => h0
  | k + 1, hk, c => by
    unfold numT
    by_cases e : c = nth seq k
    · subst e; rw [ZaS]; omega
    · rw [ZaQ e]; exact numT_lt seq h0 hs k (by omega) c
noncomputable def conS (g : List (List Nat)) (of : Nat → Nat) (cnt : Nat) : List Nat := ordG (edG g of cnt) (nth (lfL of g.length cnt))
noncomputable def conM (g : List (List Nat)) (of : Nat → Nat) (cnt : Nat) : Nat → Nat := numT (conS g of cnt) (conS g of cnt).length
def outT (no : Nat → Nat) (i c : Nat) : List Nat := (List.range i).filter fun v => decide (no v = c)
def ofT (of no : Nat → Nat) (i v : Nat) : Nat := if v < i then no v else of v
theorem outT_step (no : Nat → Nat) (i : Nat) : updF (outT no i) (no i) (outT no i (no i) ++ [i]) = outT no (i + 1) := by
  funext c
  by_cases e : c = no i
  · subst e;rw [ZaS];unfold outT;rw [List.range_succ, List.filter_append, List.filter_cons_of_pos (by simp)]; rfl
  · rw [ZaQ e];unfold outT;rw [List.range_succ, List.filter_append, List.filter_cons_of_neg (by simpa using fun h => e h.symm)]; simp
theorem outT_len (no : Nat → Nat) (i c : Nat) : (outT no i c).length ≤ i := by
  unfold outT; exact Nat.le_trans (List.length_filter_le _ _) (by simp)
theorem ofT_step (of no : Nat → Nat) (i : Nat) : updF (ofT of no i) i (no i) = ofT of no (i + 1) := by
  funext v
  by_cases e : v = i
  · subst e; rw [ZaS, ofT, if_pos (by omega)]
  · rw [ZaQ e]; unfold ofT
    by_cases h : v < i
    · rw [if_pos h, if_pos (by omega)]
    · rw [if_neg h, if_neg (by omega)]
end Go.Proofs.Ytgdppeobgefogaa
/- Layer 31: the components' order is one. Plain laws. -/
namespace Go.Proofs.Ytgdppeobgefogaa
open Go.RowKit

structure CN (n : Nat) (suc : Nat → List Nat) (no : Nat → Nat) (cnt : Nat) : Prop where
  lt : ∀ v, v < n → no v < cnt
  scc : ∀ i j, i < n → j < n → (no i = no j ↔ Rh suc i j ∧ Rh suc j i)
  use : ∀ c, c < cnt → ∃ v, v < n ∧ no v = c
  top : ∀ u v, u < n → v < n → v ∈ suc u → no u ≤ no v
  mn : ∀ c, c < cnt → ∀ i, i < n → c ≤ no i → (∀ k, k < n → c ≤ no k → Rh suc k i → Rh suc i k) → ∃ j, j < n ∧ no j = c ∧ j ≤ i
theorem CN.rh {n : Nat} {suc : Nat → List Nat} {no : Nat → Nat} {cnt : Nat} (h : CN n suc no cnt) (hs : ∀ v, v < n → ∀ y ∈ suc v, y < n) {u v : Nat} (hu : u < n) (hr : Rh suc u v) : v < n ∧ no u ≤ no v := by
  induction hr with
  | refl => exact ⟨hu, Nat.le_refl _⟩
  | step _ e ih =>
    have h2 := hs _ ih.1 _ e;exact ⟨h2, Nat.le_trans ih.2 (h.top _ _ ih.1 h2 e)⟩
theorem CN.crit {n : Nat} {suc : Nat → List Nat} {no : Nat → Nat} {cnt : Nat} (h : CN n suc no cnt) (hs : ∀ v, v < n → ∀ y ∈ suc v, y < n) {c i : Nat} (hi : i < n) (hc : no i = c) : ∀ k, k < n → c ≤ no k → Rh suc k i → Rh suc i k := fun k hk hck hr => by
  have := (h.rh hs hk hr).2;exact ((h.scc i k hi hk).1 (by omega)).1
theorem exmin (p : Nat → Prop) : ∀ (m x : Nat), p x → x ≤ m → ∃ y, p y ∧ ∀ z, p z → y ≤ z := by
  intro m
  induction m with
  | zero => intro x hx hm; exact ⟨x, hx, fun z _ => by omega⟩
  | succ m ih =>
    intro x hx hm
    by_cases h : ∃ y, p y ∧ y ≤ m
    · obtain ⟨y, hy, hym⟩ := h; exact ih y hy hym
    · exact ⟨x, hx, fun z hz => by
        have : ¬ z ≤ m := fun h2 => h ⟨z, hz, h2⟩
        omega⟩
theorem cn_agree {n : Nat} {suc : Nat → List Nat} {no no' : Nat → Nat} {cnt cnt' : Nat} (h : CN n suc no cnt) (h' : CN n suc no' cnt') (hs : ∀ v, v < n → ∀ y ∈ suc v, y < n) :
    ∀ c, c ≤ cnt → c ≤ cnt' → ∀ v, v < n → ∀ d, d < c → (no v = d ↔ no' v = d)
  | 0, _, _, v, _, d, hd => by omega
  | c + 1, h1, h2, v, hv, d, hd => by
    have ih := cn_agree h h' hs c (by omega) (by omega)
    by_cases e : d < c
    · exact ih v hv d e
    · have e : d = c := by omega
      subst e
      have hge : ∀ v, v < n → (d ≤ no v ↔ d ≤ no' v) := fun v hv => by
        constructor
        · intro h3;rcases Nat.lt_or_ge (no' v) d with h4 | h4
          · have := (ih v hv _ h4).2 rfl; omega
          · exact h4
        · intro h3;rcases Nat.lt_or_ge (no v) d with h4 | h4
          · have := (ih v hv _ h4).1 rfl; omega
          · exact h4
      obtain ⟨x, hx, hxd⟩ := h.use d (by omega);obtain ⟨i, ⟨hi, hid⟩, him⟩ := exmin (fun y => y < n ∧ no y = d) x x ⟨hx, hxd⟩ (Nat.le_refl _);obtain ⟨j, hj, hjd, hji⟩ := h'.mn d (by omega) i hi ((hge i hi).1 (by omega)) fun k hk hck hr => h.crit hs hi hid k hk ((hge k hk).2 hck) hr;obtain ⟨i2, hi2, hi2d, hi2j⟩ := h.mn d (by omega) j hj ((hge j hj).2 (by omega)) fun k hk hck hr => h'.crit hs hj hjd k hk ((hge k hk).1 hck) hr;have := him i2 ⟨hi2, hi2d⟩;have hij : i = j := by omega
      subst hij;rw [← hid, h.scc v i hv hi, hid, ← hjd, h'.scc v i hv hi]
theorem cn_uniq {n : Nat} {suc : Nat → List Nat} {no no' : Nat → Nat} {cnt cnt' : Nat} (h : CN n suc no cnt) (h' : CN n suc no' cnt') (hs : ∀ v, v < n → ∀ y ∈ suc v, y < n) : cnt = cnt' ∧ ∀ v, v < n → no v = no' v := by
  have key : ∀ {no no' : Nat → Nat} {cnt cnt' : Nat}, CN n suc no cnt → CN n suc no' cnt' → cnt ≤ cnt' := by
    intro no no' cnt cnt' h h';rcases Nat.lt_or_ge cnt' cnt with hlt | hge
    · obtain ⟨v, hv, hvc⟩ := h.use cnt' hlt;have h1 := h'.lt v hv;have := (cn_agree h h' hs cnt' (by omega) (Nat.le_refl _) v hv (no' v) h1).2 rfl;omega
    · exact hge
  have e : cnt = cnt' := Nat.le_antisymm (key h h') (key h' h);subst e;exact ⟨rfl, fun v hv => ((cn_agree h h' hs cnt (Nat.le_refl _) (Nat.le_refl _) v hv (no' v) (h'.lt v hv)).2 rfl)⟩

theorem edG_mem {g : List (List Nat)} {of : Nat → Nat} {cnt c x : Nat} (hc : c < cnt) : x ∈ sucs (edG g of cnt) c ↔ ∃ a, a < g.length ∧ of a = c ∧ ∃ y ∈ sucs g a, of a ≠ of y ∧ of y = x := by
  rw [edG, grF_sucs hc];unfold edT edA;rw [List.take_zero];simp only [List.filter_nil, List.map_nil, ite_self, List.append_nil, List.mem_flatMap, List.mem_range]
  constructor
  · rintro ⟨a, ha, hx⟩
    split at hx
    · rename_i e
      obtain ⟨y, hy, rfl⟩ := List.mem_map.1 hx;obtain ⟨hy1, hy2⟩ := List.mem_filter.1 hy;exact ⟨a, ha, e, y, hy1, of_decide_eq_true hy2, rfl⟩
    · cases hx
  · rintro ⟨a, ha, e, y, hy, hne, rfl⟩;refine ⟨a, ha, ?_⟩;rw [if_pos e];exact List.mem_map.2 ⟨y, List.mem_filter.2 ⟨hy, decide_eq_true hne⟩, rfl⟩
theorem numT_at {seq : List Nat} (hn : seq.Nodup) : ∀ m, m ≤ seq.length → ∀ k, k < m → numT seq m (nth seq k) = k
  | 0, _, k, hk => by omega
  | m + 1, hm, k, hk => by
    unfold numT
    by_cases e : k = m
    · subst e; rw [ZaS]
    · rw [ZaQ, numT_at hn m (by omega) k (by omega)];rw [Za6 (by omega), Za6 (by omega)];intro e2;exact e ((List.getElem_inj hn).1 e2)
theorem con_all {g : List (List Nat)} (hg : GB g) {of : Nat → Nat} {cnt : Nat} (h : SccOf g.length (sucs g) of cnt) {K : Nat → Nat} {seq : List Nat} (hm : ∀ y, ¬ avail (edG g of cnt) seq y) : ∀ c, c < cnt → c ∈ seq := by
  let Rc : Nat → Nat → Prop := fun d c => ∃ u v, u < g.length ∧ v < g.length ∧ of u = d ∧ of v = c ∧ Rh (sucs g) u v
  have dec : ∀ c, DecidablePred fun d => Rc d c := fun c d => Classical.propDecidable _
  let f : Nat → Nat := fun c => ((List.range cnt).filter fun d => @decide (Rc d c) (dec c d)).length
  have hstep : ∀ k c, k < cnt → c ∈ sucs (edG g of cnt) k → f k < f c := by
    intro k c hk hc;obtain ⟨a, ha, rfl, y, hy, hne, rfl⟩ := (edG_mem hk).1 hc;have hyl := hg.suc ha hy
    have := ZbH (l := of y :: (List.range cnt).filter fun d => @decide (Rc d (of a)) (dec (of a) d)) (m := (List.range cnt).filter fun d => @decide (Rc d (of y)) (dec (of y) d)) (List.nodup_cons.2 ⟨fun hm => by
      obtain ⟨_, h2⟩ := List.mem_filter.1 hm;obtain ⟨u, v, hu, hv, e1, e2, hr⟩ := @of_decide_eq_true _ (dec _ _) h2;have h3 := (h.scc u y hu hyl).1 e1;have h4 := (h.scc v a hv ha).1 e2
      exact hne ((h.scc a y ha hyl).2 ⟨Rh.one hy, h3.2.trans (hr.trans h4.1)⟩), List.nodup_range.filter _⟩) (fun x hx => by
      rcases List.mem_cons.1 hx with rfl | hx
      · exact List.mem_filter.2 ⟨List.mem_range.2 (h.lt y hyl), @decide_eq_true _ (dec _ _) ⟨y, y, hyl, hyl, rfl, rfl, .refl y⟩⟩
      · obtain ⟨h1, h2⟩ := List.mem_filter.1 hx;obtain ⟨u, v, hu, hv, e1, e2, hr⟩ := @of_decide_eq_true _ (dec _ _) h2;have h4 := (h.scc v a hv ha).1 e2
        exact List.mem_filter.2 ⟨h1, @decide_eq_true _ (dec _ _) ⟨u, y, hu, hyl, e1, rfl, hr.trans (h4.1.trans (Rh.one hy))⟩⟩)
    rw [List.length_cons] at this;exact this
  have key : ∀ (m c : Nat), f c ≤ m → c < cnt → c ∈ seq := by
    intro m
    induction m with
    | zero =>
      intro c hf hc;refine Classical.byContradiction fun hn => hm c ⟨by rw [edG, Zbt]; exact hc, hn, fun k hk _ hin => ?_⟩;rw [edG, Zbt] at hk;have := hstep k c hk hin; omega
    | succ m ih =>
      intro c hf hc;refine Classical.byContradiction fun hn => hm c ⟨by rw [edG, Zbt]; exact hc, hn, fun k hk hkn hin => ?_⟩;rw [edG, Zbt] at hk;exact hkn (ih k (by have := hstep k c hk hin; omega) hk)
  exact fun c hc => key (f c) c (Nat.le_refl _) hc
theorem con_cn {g : List (List Nat)} (hg : GT g) {of : Nat → Nat} {cnt : Nat} (h : SccOf g.length (sucs g) of cnt) : CN g.length (sucs g) (fun v => conM g of cnt (of v)) cnt := by
  obtain ⟨h1, h2⟩ := ordG_spec (edG g of cnt) (nth (lfL of g.length cnt));have hsq : ordG (edG g of cnt) (nth (lfL of g.length cnt)) = conS g of cnt := rfl;rw [hsq] at h1 h2;have hM : ∀ c, conM g of cnt c = numT (conS g of cnt) (conS g of cnt).length c := fun _ => rfl;have hall := con_all hg.gb h (K := nth (lfL of g.length cnt)) h2;obtain ⟨hnd, hlt⟩ := grd_nodup h1;have hEl : (edG g of cnt).length = cnt := by rw [edG, Zbt]
  rw [hEl] at hlt
  obtain ⟨seq, hseq⟩ : ∃ seq, conS g of cnt = seq := ⟨_, rfl⟩
  rw [hseq] at h1 h2 hall hnd hlt;simp only [hseq] at hM
  have hlen : seq.length = cnt := Nat.le_antisymm (by have := ZbH hnd (m := List.range cnt) fun x hx => List.mem_range.2 (hlt x hx); rwa [List.length_range] at this)
    (by have := ZbH (List.nodup_range (n := cnt)) (m := seq) fun x hx => hall x (List.mem_range.1 hx); rwa [List.length_range] at this)
  have hat : ∀ k, k < cnt → conM g of cnt (nth seq k) = k := fun k hk => by rw [hM]; exact numT_at hnd _ (Nat.le_refl _) k (by omega)
  have hpos : ∀ c, c < cnt → ∃ k, k < cnt ∧ nth seq k = c ∧ conM g of cnt c = k := fun c hc => by
    obtain ⟨k, hk, rfl⟩ := List.mem_iff_getElem.1 (hall c hc);exact ⟨k, by omega, Za6 hk, by rw [← Za6 hk]; exact hat k (by omega)⟩
  have hnin : ∀ c d, c < cnt → c ≤ conM g of cnt d → d < cnt → d ∉ seq.take c := fun c d hc hcd hd hm => by
    obtain ⟨k, hk, e⟩ := List.mem_iff_getElem.1 hm;rw [List.length_take] at hk;rw [List.getElem_take, ← Za6 (by omega)] at e;rw [← e, hat k (by omega)] at hcd;omega
  refine ⟨fun v hv => ?_, fun i j hi hj => ?_, fun c hc => ?_, fun u v hu hv he => ?_, fun c hc i hi hci hcr => ?_⟩
  · obtain ⟨k, hk, _, e⟩ := hpos (of v) (h.lt v hv);show conM g of cnt (of v) < cnt;omega
  · rw [← h.scc i j hi hj]
    constructor
    · intro e;obtain ⟨k, _, e1, e2⟩ := hpos (of i) (h.lt i hi);obtain ⟨m, _, e3, e4⟩ := hpos (of j) (h.lt j hj);have e : conM g of cnt (of i) = conM g of cnt (of j) := e;rw [← e1, ← e3, show k = m by omega]
    · intro e; show conM g of cnt (of i) = conM g of cnt (of j); rw [e]
  · obtain ⟨v, hv, e⟩ := h.use (nth seq c) (hlt _ (Zbs (by omega)));exact ⟨v, hv, by show conM g of cnt (of v) = c; rw [e]; exact hat c hc⟩
  · show conM g of cnt (of u) ≤ conM g of cnt (of v)
    by_cases e : of u = of v
    · rw [e]; exact Nat.le_refl _
    · obtain ⟨p, hp, e1, e2⟩ := hpos (of v) (h.lt v hv);have hav := (h1 p (by omega)).1;rw [e1] at hav;have hin : of u ∈ seq.take p := Classical.byContradiction fun hn => hav.2.2 (of u) (by rw [hEl]; exact h.lt u hu) hn ((edG_mem (h.lt u hu)).2 ⟨u, hu, rfl, v, he, e, rfl⟩);obtain ⟨k, hk, e3⟩ := List.mem_iff_getElem.1 hin;rw [List.length_take] at hk;rw [List.getElem_take, ← Za6 (by omega)] at e3;rw [← e3, hat k (by omega), e2]; omega
  · have hci : c ≤ conM g of cnt (of i) := hci
    have hav : avail (edG g of cnt) (seq.take c) (of i) := by
      refine ⟨by rw [hEl]; exact h.lt i hi, hnin c _ hc hci (h.lt i hi), fun k hk hkn hin => ?_⟩;rw [hEl] at hk;obtain ⟨a, ha, rfl, y, hy, hne, hyi⟩ := (edG_mem hk).1 hin;have hyl := hg.gb.suc ha hy
      have hca : c ≤ conM g of cnt (of a) := by
        rcases Nat.lt_or_ge (conM g of cnt (of a)) c with hl | hl
        · obtain ⟨m, hm, e1, e2⟩ := hpos (of a) (h.lt a ha);exact (hkn (List.mem_iff_getElem.2 ⟨m, by rw [List.length_take]; omega, by rw [List.getElem_take, ← Za6 (by omega)]; exact e1⟩)).elim
        · exact hl
      have hyi2 := (h.scc y i hyl hi).1 hyi;have hai : Rh (sucs g) a i := (Rh.one hy).trans hyi2.1;have := (h.scc a i ha hi).2 ⟨hai, hcr a ha hca hai⟩;exact hne (by rw [this, hyi])
    have hK := (h1 c (by omega)).2 _ hav;have hcc : nth seq c < cnt := hlt _ (Zbs (by omega));rw [lfL_nth hcc, lfL_nth (h.lt i hi)] at hK;obtain ⟨v, hv, hvc⟩ := h.use _ hcc;obtain ⟨q1, q2, _⟩ := lfT_spec of g.length g.length (Nat.le_refl _) (nth seq c) ⟨v, by omega, hv, hvc⟩;obtain ⟨_, _, q3⟩ := lfT_spec of g.length g.length (Nat.le_refl _) (of i) ⟨i, by omega, hi, rfl⟩;exact ⟨_, q2, by show conM g of cnt (of _) = c; rw [q1]; exact hat c hc, Nat.le_trans hK (q3 i (by omega) hi rfl)⟩
end Go.Proofs.Ytgdppeobgefogaa
/- Layer 31: checking a graph. -/
namespace Go.Proofs.Ytgdppeobgefogaa
open Go.RowKit

abbrev intsD (l : List Int) : D := .sl none (l.map intD)
abbrev grI (g : List (List Int)) : D := .sl none (g.map intsD)
def totI (g : List (List Int)) (i : Nat) : Nat := ((g.take i).map List.length).sum
def badI (n : Nat) (l : List Int) : Prop := ∃ x ∈ l, ¬ (0 ≤ x ∧ x < (n : Int))
instance (n : Nat) (l : List Int) : Decidable (badI n l) := inferInstanceAs (Decidable (∃ x ∈ l, ¬ (0 ≤ x ∧ x < (n : Int))))
def chkE (g : List (List Int)) : Int := if 65536 < g.length ∨ 1048576 < totI g g.length then 8 else if ∃ l ∈ g, badI g.length l then 2 else 0
theorem totI_succ {g : List (List Int)} {i : Nat} (h : i < g.length) : totI g (i + 1) = totI g i + g[i].length := by
  unfold totI; rw [List.take_succ_eq_append_getElem h, List.map_append, List.sum_append]; simp
theorem totI_le {g : List (List Int)} (h : ∀ l ∈ g, l.length ≤ 2000000) : ∀ i, i ≤ g.length → totI g i ≤ i * 2000000
  | 0, _ => by simp [totI]
  | i + 1, hi => by
    have := totI_le h i (by omega);have := h g[i] (List.getElem_mem (by omega));rw [totI_succ (by omega)]; omega
theorem getI {l : List Int} {k : Nat} (h : k < l.length) : (l.map intD)[k]? = some (intD l[k]) := getm h
theorem getgI {g : List (List Int)} {i : Nat} (h : i < g.length) : (g.map intsD)[i]? = some (intsD g[i]) := getm h
theorem chk8 {g : List (List Int)} (h : 65536 < g.length ∨ 1048576 < totI g g.length) : (8 : Int) = chkE g := by unfold chkE; rw [if_pos h]
theorem chk2 {g : List (List Int)} (h1 : ¬ 65536 < g.length) (h2 : ¬ 1048576 < totI g g.length) (h : ∃ l ∈ g, badI g.length l) : (2 : Int) = chkE g := by
  unfold chkE; rw [if_neg (fun h => h.elim h1 h2), if_pos h]
theorem chk0 {g : List (List Int)} (h1 : ¬ 65536 < g.length) (h2 : ¬ 1048576 < totI g g.length) (h : ¬ ∃ l ∈ g, badI g.length l) : (0 : Int) = chkE g := by
  unfold chkE; rw [if_neg (fun h => h.elim h1 h2), if_neg h]
set_option maxRecDepth 100000 in
theorem check_p (g : List (List Int)) (hn : g.length ≤ 1000000) (hl : ∀ l ∈ g, l.length ≤ 2000000) : PCalls Try.prog 31 [.d (grI g)] (intD (chkE g)) := by
  refine Zbf Try.func31 rfl rfl Try.ntmps31 rfl rfl rfl fun F hF => (Zag (Zae (goAs rfl rfl (Zaf (Zag (Zae (goAs rfl rfl (Zaf ?_))))))));refine Zag (Zag (Zae (goMv rfl rfl (Zab.go (ZaD rfl (List.length_map ..) Try.underlying32 rfl) (goMv rfl rfl (Zaf (Zay (a_loop (α := Nat) (fun k => ⟨50, [(0, .d (grI g)), (3, (.d (natD (totI g k)))), (10, (.d (grI g))), (11, (.d (natD g.length))), (12, (.d (natD k)))], []⟩) (fun k => k ≤ g.length) (fun k => g.length - k) (0) (Nat.zero_le _) (ZbQ ⟨rfl, rfl, rfl, rfl, rfl, trivial⟩) ?_))))))));intro k hk;refine Zag (Zae ?_)
  first | refine Zab.go (ZaY rfl rfl rfl) ?_ | refine Zab.go (ZaT rfl rfl rfl) ?_
  refine Zaf (Zag ?_)
  first | refine ZaU rfl (fun h13 => ?_) (fun h13 => ?_) | refine ZaF rfl (fun h13 => ?_) (fun h13 => ?_)
  · refine ZaC (Zag (Zay (Zag ?_)));have hkl : k < g.length := Za7 h13;have htl := totI_le hl k (by omega);have hll := hl _ (List.getElem_mem hkl);have hts := totI_succ hkl;refine Zae ?_
    first | refine Zab.go (Zam (k) rfl rfl (rfl) (getgI hkl) Try.underlying32 rfl sz25 rfl) ?_ | refine Zab.go (Zal (k) rfl rfl (rfl) (getgI hkl) rfl Try.underlying32 sz25 rfl) ?_
    first | refine Zab.go (Zai rfl rfl on25 rfl) ?_ | refine Zab.go (Zak rfl rfl rfl on25 rfl) ?_ | refine Zab.go (Zaj rfl rfl (rfl) rfl on25 rfl) ?_
    refine goAs rfl rfl (Zaf (Zae (goMv rfl rfl (goMv rfl rfl ?_))));refine Zab.go (ZaD rfl (List.length_map ..) Try.underlying25 rfl) (Zab.go (ZaJ rfl rfl (IntWalk.i64_in _ (by omega)) rfl) (o_as 19 (.d (natD (totI g (k + 1)))) rfl (eqv (congrArg intD (by omega))) (goAs rfl rfl (Zaf (Zae (Zab.go (ZaJ rfl rfl (IntWalk.i64_in _ (by omega)) rfl) (goMv rfl rfl (Zaf ?_))))))));exact ⟨k + 1, by omega, by omega, ⟨rfl, rfl, fun _ _ => Has.get (l := [(0, _), (3, _), (10, _), (11, _), (12, _)]) ⟨rfl, rfl, rfl, rfl, rfl, trivial⟩⟩⟩
  · refine ZaL (Zag (Zag ?_));have hke : k = g.length := by have := h13; omega
    subst hke;refine Zae (goMv rfl rfl (Zab.go (ZaD rfl (List.length_map ..) Try.underlying32 rfl) ?_))
    first | refine Zab.go (st_gtr rfl rfl rfl) ?_ | refine Zab.go (ZbF rfl rfl rfl) ?_
    refine goMv rfl rfl ?_
    first | refine Zbw 24 rfl (fun h24 => ?_) (fun h24 => ?_) | refine Zbj 24 rfl (fun h24 => ?_) (fun h24 => ?_)
    · refine ZaG rfl rfl rfl rfl ?_;refine ZaG rfl rfl rfl rfl (Zab.go (Za8 rfl rfl rfl rfl) (Zaf (a_true rfl rfl (Zag (Zae (goAs rfl rfl (Zaf (Zbg ?_))))))));exact ⟨_, [], [], ZaZ rfl, rfl, rfl, eqv (congrArg intD (chk8 (by omega))), rfl⟩
    · refine ZaH rfl rfl rfl (goMv rfl rfl (ZaH rfl rfl rfl ?_))
      first | refine Zab.go (st_gtr rfl rfl rfl) ?_ | refine Zab.go (ZbF rfl rfl rfl) ?_
      refine Zab.go (ZaW rfl rfl rfl rfl) (Zaf ?_)
      first | refine ZaU rfl (fun h27 => ?_) (fun h27 => ?_) | refine ZaF rfl (fun h27 => ?_) (fun h27 => ?_)
      · refine Zag (Zae (goAs rfl rfl (Zaf (Zbg ?_))));exact ⟨_, [], [], ZaZ rfl, rfl, rfl, eqv (congrArg intD (chk8 (by omega))), rfl⟩
      · refine ZaC (Zag (Zag ?_));have hc1 : ¬ 65536 < g.length := by omega
        have hc2 : ¬ 1048576 < totI g g.length := by omega
        refine Zae (goMv rfl rfl (Zab.go (ZaD rfl (List.length_map ..) Try.underlying32 rfl) (goMv rfl rfl (Zaf (Zay (a_loop (α := Nat) (fun i => ⟨50, [(0, .d (grI g)), (28, (.d (grI g))), (29, (.d (natD g.length))), (30, (.d (natD i)))], []⟩) (fun i => i ≤ g.length ∧ ∀ l ∈ g.take i, ¬ badI g.length l) (fun i => g.length - i) (0) (⟨Nat.zero_le _, fun l hl => by simp at hl⟩) (ZbQ ⟨rfl, rfl, rfl, rfl, trivial⟩) ?_))))));rintro i ⟨hi, hb⟩;refine Zag (Zae ?_)
        first | refine Zab.go (ZaY rfl rfl rfl) ?_ | refine Zab.go (ZaT rfl rfl rfl) ?_
        refine Zaf (Zag ?_)
        first | refine ZaU rfl (fun h31 => ?_) (fun h31 => ?_) | refine ZaF rfl (fun h31 => ?_) (fun h31 => ?_)
        · refine ZaC (Zag (Zay (Zag ?_)));have hil : i < g.length := Za7 h31;have hll := hl _ (List.getElem_mem hil);refine Zae ?_
          first | refine Zab.go (Zam (i) rfl rfl (rfl) (getgI hil) Try.underlying32 rfl sz25 rfl) ?_ | refine Zab.go (Zal (i) rfl rfl (rfl) (getgI hil) rfl Try.underlying32 sz25 rfl) ?_
          first | refine Zab.go (Zai rfl rfl on25 rfl) ?_ | refine Zab.go (Zak rfl rfl rfl on25 rfl) ?_ | refine Zab.go (Zaj rfl rfl (rfl) rfl on25 rfl) ?_
          refine goAs rfl rfl ?_;refine Zaf (Zag (Zae (goMv rfl rfl (Zab.go (ZaD rfl (List.length_map ..) Try.underlying25 rfl) (goMv rfl rfl (Zaf (Zay (a_loop (α := Nat) (fun j => ⟨50, [(0, .d (grI g)), (28, (.d (grI g))), (29, (.d (natD g.length))), (30, (.d (natD i))), (34, (.d (intsD g[i]))), (35, (.d (natD g[i].length))), (36, (.d (natD j)))], []⟩) (fun j => j ≤ g[i].length ∧ ∀ x ∈ g[i].take j, 0 ≤ x ∧ x < (g.length : Int)) (fun j => g[i].length - j) (0) (⟨Nat.zero_le _, fun x hx => by simp at hx⟩) (ZbQ ⟨rfl, rfl, rfl, rfl, rfl, rfl, rfl, trivial⟩) ?_))))))));rintro j ⟨hj, hx⟩;refine Zag (Zae ?_)
          first | refine Zab.go (ZaY rfl rfl rfl) ?_ | refine Zab.go (ZaT rfl rfl rfl) ?_
          refine Zaf (Zag ?_)
          first | refine ZaU rfl (fun h37 => ?_) (fun h37 => ?_) | refine ZaF rfl (fun h37 => ?_) (fun h37 => ?_)
          · refine ZaC (Zag (Zay (Zag ?_)));have hjl : j < g[i].length := Za7 h37;refine Zae ?_
            first | refine Zab.go (Zam (j) rfl rfl (rfl) (getI hjl) Try.underlying25 rfl sz3 rfl) ?_ | refine Zab.go (Zal (j) rfl rfl (rfl) (getI hjl) rfl Try.underlying25 sz3 rfl) ?_
            first | refine Zab.go (Zai rfl rfl on3 rfl) ?_ | refine Zab.go (Zak rfl rfl rfl on3 rfl) ?_ | refine Zab.go (Zaj rfl rfl (rfl) rfl on3 rfl) ?_
            refine goAs rfl rfl (Zaf (Zag (Zae (goMv rfl rfl ?_))))
            first | refine Zab.go (ZaY rfl rfl rfl) ?_ | refine Zab.go (ZaT rfl rfl rfl) ?_
            refine goMv rfl rfl ?_
            first | refine Zbw 42 rfl (fun h42 => ?_) (fun h42 => ?_) | refine Zbj 42 rfl (fun h42 => ?_) (fun h42 => ?_)
            · refine ZaG rfl rfl rfl rfl (ZaG rfl rfl rfl rfl (ZaG rfl rfl rfl rfl ?_));refine ZaG rfl rfl rfl rfl (Zab.go (Za8 rfl rfl rfl rfl) (Zaf (a_true rfl rfl (Zag (Zae (goAs rfl rfl (Zaf (Zbg ?_))))))));exact ⟨_, [], [], ZaZ rfl, rfl, rfl, eqv (congrArg intD (chk2 hc1 hc2 ⟨g[i], List.getElem_mem hil, g[i][j], List.getElem_mem hjl, by omega⟩)), rfl⟩
            · refine ZaH rfl rfl rfl ?_;refine goMv rfl rfl (ZaH rfl rfl rfl (goMv rfl rfl (ZaH rfl rfl rfl (Zab.go (ZaD rfl (List.length_map ..) Try.underlying32 rfl) (ZaH rfl rfl rfl (Zab.go (st_geq rfl rfl rfl) (Zab.go (ZaW rfl rfl rfl rfl) (Zaf ?_))))))))
              first | refine ZaU rfl (fun h47 => ?_) (fun h47 => ?_) | refine ZaF rfl (fun h47 => ?_) (fun h47 => ?_)
              · refine Zag (Zae (goAs rfl rfl (Zaf (Zbg ?_))));exact ⟨_, [], [], ZaZ rfl, rfl, rfl, eqv (congrArg intD (chk2 hc1 hc2 ⟨g[i], List.getElem_mem hil, g[i][j], List.getElem_mem hjl, by omega⟩)), rfl⟩
              · refine ZaC (Zae (Zab.go (ZaJ rfl rfl (IntWalk.i64_in _ (by omega)) rfl) (goMv rfl rfl (Zaf ?_))));exact ⟨j + 1, ⟨by omega, fun x hxm => by rw [List.take_succ_eq_append_getElem hjl] at hxm; exact (List.mem_append.1 hxm).elim (hx x) fun e => by rw [List.mem_singleton.1 e]; exact ⟨by omega, by omega⟩⟩, by omega, ⟨rfl, rfl, fun _ _ => Has.get (l := [(0, _), (28, _), (29, _), (30, _), (34, _), (35, _), (36, _)]) ⟨rfl, rfl, rfl, rfl, rfl, rfl, rfl, trivial⟩⟩⟩
          · refine ZaL ?_;have hje : j = g[i].length := by have := h37; omega
            have hrow : ¬ badI g.length g[i] := fun ⟨x, hx1, hx2⟩ => hx2 (hx x (by rw [hje, List.take_length]; exact hx1));refine Zae (Zab.go (ZaJ rfl rfl (IntWalk.i64_in _ (by omega)) rfl) (goMv rfl rfl (Zaf ?_)));exact ⟨i + 1, ⟨by omega, fun l hlm => by rw [List.take_succ_eq_append_getElem hil] at hlm; exact (List.mem_append.1 hlm).elim (hb l) fun e => by rw [List.mem_singleton.1 e]; exact hrow⟩, by omega, ⟨rfl, rfl, fun _ _ => Has.get (l := [(0, _), (28, _), (29, _), (30, _)]) ⟨rfl, rfl, rfl, rfl, trivial⟩⟩⟩
        · refine ZaL (Zag (Zae (goAs rfl rfl (Zaf (Zbg ?_)))));have hie : i = g.length := by have := h31; omega
          exact ⟨_, [], [], ZaZ rfl, rfl, rfl, eqv (congrArg intD (chk0 hc1 hc2 (fun ⟨l, hl1, hl2⟩ => hb l (by rw [hie, List.take_length]; exact hl1) hl2))), rfl⟩
end Go.Proofs.Ytgdppeobgefogaa
/- Layer 31: the depth-first search's memory, frames that end. -/
namespace Go.Proofs.Ytgdppeobgefogaa
open Go.RowKit
theorem tb_pop1 {n : Nat} {suc : Nat → List Nat} {r : Nat} {S : TS} {cs0 : List (Nat × Nat)} {v k : Nat} (h : TB n suc r S cs0 v k) (hk : k = (suc v).length) (hl : S.low v ≠ S.idx v) :
    ∃ cs1 u ku, cs0 = cs1 ++ [(u, ku)] ∧ TH n suc r { S with low := updF S.low u (min (S.low u) (S.low v)), cs := cs0 } none := by
  subst hk;have hv := tb_vlt h;have hle := (h.ti.lw v hv.2.1).1;obtain ⟨cs1, u, ku, e, ht⟩ := ti_pop1 h.ti h.hcs (by omega);exact ⟨cs1, u, ku, e, ht, h.k1, h.old, .inl h.rt⟩
theorem tb_pop2 {n : Nat} {suc : Nat → List Nat} {r : Nat} {S : TS} {cs0 : List (Nat × Nat)} {v k : Nat} {st1 st2 : List Nat} (h : TB n suc r S cs0 v k) (hk : k = (suc v).length) (hl : S.low v = S.idx v) (hst : S.st = st1 ++ v :: st2) :
    TH n suc r { S with of := fun x => if x ∈ v :: st2 then (S.cnt : Int) else S.of x, st := st1, cs := cs0, cnt := S.cnt + 1 } none ∧ ∀ cs1 u ku, cs0 = cs1 ++ [(u, ku)] → updF S.low u (min (S.low u) (S.low v)) = S.low := by
  subst hk;obtain ⟨h1, h2⟩ := ti_pop2 h.ti h.hcs hl hst;refine ⟨⟨h2, h.k1, h.old, .inl h.rt⟩, fun cs1 u ku e => funext fun x => ?_⟩
  by_cases ex : x = u
  · subst ex;have := h1 (x, ku) (by rw [e]; exact List.mem_append_right _ (List.mem_singleton.2 rfl));rw [ZaS];dsimp only at this; omega
  · rw [ZaQ ex]
theorem tb_top {n : Nat} {suc : Nat → List Nat} {r : Nat} {S : TS} {cs1 : List (Nat × Nat)} {v k u ku : Nat} (h : TB n suc r S (cs1 ++ [(u, ku)]) v k) : u < n ∧ v ≠ u := by
  have hm : (u, ku) ∈ S.cs := by rw [h.hcs]; exact List.mem_append_left _ (List.mem_append_right _ (List.mem_singleton.2 rfl))
  refine ⟨h.ti.lt u ((h.ti.st u).1 (h.ti.csm _ hm)).1, fun e => ?_⟩;have hp := h.ti.css;rw [h.hcs] at hp;have := (pair_app hp).2 (u, ku) (List.mem_append_right _ (List.mem_singleton.2 rfl));rw [e] at this; exact Nat.lt_irrefl _ this
theorem tb_nodup {n : Nat} {suc : Nat → List Nat} {S : TS} {p : Option Nat} {v : Nat} {st1 st2 : List Nat} (h : TI n suc S p) (hst : S.st = st1 ++ v :: st2) : v ∉ st2 := by
  have hp := h.srt;rw [hst, List.pairwise_append] at hp;intro hm;exact Nat.lt_irrefl _ ((List.pairwise_cons.1 hp.2.1).1 v hm)
theorem getF2 {l m j : List (Nat × Nat)} {x : Nat × Nat} {k : Nat} (h : k = l.length) : ((l ++ [x] ++ m ++ j).map frD)[k]? = some (frD x) := by
  subst h; simp
theorem getW {a c j : List Nat} {w k : Nat} (h : k = (a ++ c).length) : ((a ++ (c ++ [w]) ++ j).map natD)[k]? = some (natD w) := by
  subst h;rw [show a ++ (c ++ [w]) ++ j = (a ++ c) ++ (w :: j) by simp, List.map_append, List.getElem?_append_right (by simp)]
  simp
theorem ofSet {n w : Nat} {f : Nat → Int} {c : Nat} {dn : List Nat} : (rowI n (fun x => if x ∈ dn then (c : Int) else f x)).set w (natD c) = rowI n (fun x => if x ∈ w :: dn then (c : Int) else f x) := by
  refine row_set (fun j _ hne => ?_) ?_
  · dsimp only
    by_cases e : j ∈ dn
    · rw [if_pos e, if_pos (List.mem_cons_of_mem _ e)]
    · rw [if_neg e, if_neg fun h => (List.mem_cons.1 h).elim hne e]
  · dsimp only; rw [if_pos (List.mem_cons_self ..)]
theorem pop_next {v w : Nat} {c0 dn st2 : List Nat} (h : c0 ++ [w] ++ dn = v :: st2) (hw : w ≠ v) : c0 ++ w :: dn = v :: st2 ∧ c0 ≠ [] := by
  refine ⟨by simpa using h, fun e => ?_⟩;subst e
  simp at h
  exact hw h.1
theorem pop_end {v w : Nat} {c0 dn st2 : List Nat} (h : c0 ++ [w] ++ dn = v :: st2) (hw : w = v) (hv : v ∉ st2) : c0 = [] ∧ dn = st2 := by
  subst hw
  cases c0 with
  | nil => simp at h; exact ⟨rfl, h⟩
  | cons a c =>
    simp at h
    exact (hv (by rw [← h.2]; simp)).elim
theorem concat_of {α : Type} {l : List α} (h : l ≠ []) : ∃ a b, l = a ++ [b] := by
  rcases List.eq_nil_or_concat l with e | ⟨a, b, e⟩
  · exact (h e).elim
  · exact ⟨a, b, by rw [e, List.concat_eq_append]⟩
end Go.Proofs.Ytgdppeobgefogaa
