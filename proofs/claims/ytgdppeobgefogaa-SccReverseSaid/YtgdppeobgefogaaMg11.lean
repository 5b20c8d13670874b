/- Strongly connected components: the depth-first search with low values. Plain laws. -/
import Derived.Test.YtgdppeobgefogaaMg10
namespace Go.Proofs.Ytgdppeobgefogaa
inductive Rh (suc : Nat → List Nat) : Nat → Nat → Prop
  | refl (a : Nat) : Rh suc a a
  | step {a b c : Nat} (h : Rh suc a b) (e : c ∈ suc b) : Rh suc a c
theorem Rh.trans {suc : Nat → List Nat} {a b c : Nat} (h : Rh suc a b) (h' : Rh suc b c) : Rh suc a c := by
  induction h' with
  | refl => exact h
  | step _ e ih => exact .step ih e
theorem Rh.one {suc : Nat → List Nat} {a b : Nat} (e : b ∈ suc a) : Rh suc a b := .step (.refl a) e
theorem Rh.clos {suc : Nat → List Nat} {p : Nat → Prop} (hp : ∀ v, p v → ∀ y ∈ suc v, p y) {a b : Nat} (h : Rh suc a b) (ha : p a) : p b := by
  induction h with
  | refl => exact ha
  | step _ e ih => exact hp _ ih _ e
def updF {α : Type} (f : Nat → α) (i : Nat) (x : α) : Nat → α := fun j => if j = i then x else f j
theorem ZaS {α : Type} (f : Nat → α) (i : Nat) (x : α) : updF f i x i = x := if_pos rfl
theorem ZaQ {α : Type} {f : Nat → α} {i j : Nat} {x : α} (h : j ≠ i) : updF f i x j = f j := if_neg h
structure TS where
  idx : Nat → Nat
  low : Nat → Nat
  of : Nat → Int
  st : List Nat
  cs : List (Nat × Nat)
  cnt : Nat
  clk : Nat
structure TI (n : Nat) (suc : Nat → List Nat) (S : TS) (p : Option Nat) : Prop where
  lt : ∀ v, S.idx v ≠ 0 → v < n
  ck : ∀ v, S.idx v ≤ S.clk
  inj : ∀ v w, S.idx v ≠ 0 → S.idx v = S.idx w → v = w
  st : ∀ v, v ∈ S.st ↔ S.idx v ≠ 0 ∧ S.of v < 0
  srt : S.st.Pairwise fun a b => S.idx a < S.idx b
  ofi : ∀ v, 0 ≤ S.of v → S.idx v ≠ 0 ∧ S.of v < S.cnt
  csm : ∀ f ∈ S.cs, f.1 ∈ S.st
  css : S.cs.Pairwise fun a b => S.idx a.1 < S.idx b.1
  r5 : ∀ f ∈ S.cs, ∀ w ∈ S.st, S.idx f.1 ≤ S.idx w → Rh suc f.1 w
  r4 : ∀ w ∈ S.st, ∃ f ∈ S.cs, S.idx f.1 ≤ S.idx w ∧ Rh suc w f.1
  clo : ∀ v, 0 ≤ S.of v → ∀ y ∈ suc v, 0 ≤ S.of y
  blk : ∀ w ∈ S.st, (∀ f ∈ S.cs, f.1 ≠ w) → ∀ y ∈ suc w, S.idx y ≠ 0
  gry : ∀ f ∈ S.cs, f.2 ≤ (suc f.1).length ∧ ∀ (i : Nat) y, i < f.2 → (suc f.1)[i]? = some y → S.idx y ≠ 0 ∨ p = some y
  lw : ∀ v ∈ S.st, S.low v ≤ S.idx v ∧ ∃ y ∈ S.st, S.low v = S.idx y ∧ Rh suc v y
  l8 : ∀ f ∈ S.cs, ∀ x ∈ S.st, x ≠ f.1 → S.idx f.1 ≤ S.idx x → (∀ f' ∈ S.cs, S.idx f.1 < S.idx f'.1 → S.idx x < S.idx f'.1) → ∀ y ∈ suc x, y ∈ S.st → S.low f.1 ≤ S.idx y
  l8g : ∀ f ∈ S.cs, ∀ (i : Nat) y, i < f.2 → (suc f.1)[i]? = some y → y ∈ S.st → S.low f.1 ≤ S.idx y
  scc : ∀ i j, 0 ≤ S.of i → 0 ≤ S.of j → (S.of i = S.of j ↔ Rh suc i j ∧ Rh suc j i)
  use : ∀ c, c < S.cnt → ∃ v, S.of v = ((c : Nat) : Int)
  pnd : ∀ v, p = some v → v < n ∧ S.idx v = 0 ∧ ∀ f ∈ S.cs, Rh suc f.1 v
  num : S.cnt + S.st.length ≤ S.clk
  cap : ∃ vs : List Nat, vs.Nodup ∧ vs.length = S.clk ∧ ∀ v, v ∈ vs ↔ S.idx v ≠ 0

theorem ti_visit {n : Nat} {suc : Nat → List Nat} {S : TS} {v : Nat} (h : TI n suc S (some v)) :
    TI n suc ⟨updF S.idx v (S.clk + 1), updF S.low v (S.clk + 1), S.of, S.st ++ [v], S.cs ++ [(v, 0)], S.cnt, S.clk + 1⟩ none := by
  obtain ⟨hvn, hv0, hvr⟩ := h.pnd v rfl;have hne : ∀ w, S.idx w ≠ 0 → w ≠ v := fun w hw e => hw (e ▸ hv0);have hi : ∀ w, S.idx w ≠ 0 → updF S.idx v (S.clk + 1) w = S.idx w := fun w hw => ZaQ (hne w hw);have hst : ∀ w ∈ S.st, S.idx w ≠ 0 := fun w hw => ((h.st w).1 hw).1;have hsi : ∀ w ∈ S.st, updF S.idx v (S.clk + 1) w = S.idx w := fun w hw => hi w (hst w hw);have hci : ∀ f ∈ S.cs, updF S.idx v (S.clk + 1) f.1 = S.idx f.1 := fun f hf => hsi _ (h.csm f hf);have hcv : ∀ f ∈ S.cs, f.1 ≠ v := fun f hf => hne _ (hst _ (h.csm f hf));have hvs : updF S.idx v (S.clk + 1) v = S.clk + 1 := ZaS _ _ _
  have hof : S.of v < 0 := by
    rcases Int.lt_or_le (S.of v) 0 with h1 | h1
    · exact h1
    · exact absurd hv0 (h.ofi v h1).1
  have hlow : ∀ w, w ≠ v → updF S.low v (S.clk + 1) w = S.low w := fun w hw => ZaQ hw;refine ⟨?_, ?_, ?_, ?_, ?_, ?_, ?_, ?_, ?_, ?_, h.clo, ?_, ?_, ?_, ?_, ?_, h.scc, h.use, (fun _ e => by cases e), ?_, ?_⟩ <;> (try dsimp only)
  · intro w hw
    by_cases e : w = v
    · exact e ▸ hvn
    · exact h.lt w (by simpa [ZaQ e] using hw)
  · intro w;show updF S.idx v (S.clk + 1) w ≤ S.clk + 1
    by_cases e : w = v
    · rw [e, hvs]; exact Nat.le_refl _
    · rw [ZaQ e]; exact Nat.le_succ_of_le (h.ck w)
  · intro a b ha hb;have ha' : updF S.idx v (S.clk + 1) a ≠ 0 := ha;have hb' : updF S.idx v (S.clk + 1) a = updF S.idx v (S.clk + 1) b := hb
    by_cases e : a = v <;> by_cases e' : b = v
    · rw [e, e']
    · rw [e, hvs, ZaQ e'] at hb'; have := h.ck b; omega
    · rw [e', hvs, ZaQ e] at hb'; have := h.ck a; omega
    · rw [ZaQ e, ZaQ e'] at hb'; rw [ZaQ e] at ha'; exact h.inj a b ha' hb'
  · intro w;show w ∈ S.st ++ [v] ↔ updF S.idx v (S.clk + 1) w ≠ 0 ∧ S.of w < 0
    by_cases e : w = v
    · rw [e, hvs]; simp [hof]
    · rw [ZaQ e, List.mem_append, List.mem_singleton, ← h.st w]; simp [e]
  · show (S.st ++ [v]).Pairwise _;rw [List.pairwise_append];refine ⟨h.srt.imp_of_mem fun ha hb hab => ?_, List.pairwise_singleton _ _, fun a ha b hb => ?_⟩
    · rw [hsi _ ha, hsi _ hb]; exact hab
    · rw [List.mem_singleton.1 hb, hvs, hsi a ha]; exact Nat.lt_succ_of_le (h.ck a)
  · intro w hw;have h1 := h.ofi w hw;exact ⟨by show updF S.idx v (S.clk + 1) w ≠ 0; rw [hi w h1.1]; exact h1.1, h1.2⟩
  · intro f hf;rcases List.mem_append.1 hf with hf | hf
    · exact List.mem_append_left _ (h.csm f hf)
    · rw [List.mem_singleton.1 hf]; exact List.mem_append_right _ (List.mem_singleton.2 rfl)
  · show (S.cs ++ [(v, 0)]).Pairwise _;rw [List.pairwise_append];refine ⟨h.css.imp_of_mem fun ha hb hab => ?_, List.pairwise_singleton _ _, fun a ha b hb => ?_⟩
    · rw [hci _ ha, hci _ hb]; exact hab
    · rw [List.mem_singleton.1 hb]; show updF S.idx v (S.clk + 1) a.1 < updF S.idx v (S.clk + 1) v; rw [hvs, hci a ha]; exact Nat.lt_succ_of_le (h.ck _)
  · intro f hf w hw hfw;have hfw' : updF S.idx v (S.clk + 1) f.1 ≤ updF S.idx v (S.clk + 1) w := hfw;rcases List.mem_append.1 hf with hf | hf
    · rcases List.mem_append.1 hw with hw | hw
      · rw [hci f hf, hsi w hw] at hfw'; exact h.r5 f hf w hw hfw'
      · rw [List.mem_singleton.1 hw]; exact hvr f hf
    · rw [List.mem_singleton.1 hf] at hfw' ⊢;rcases List.mem_append.1 hw with hw | hw
      · have e1 : updF S.idx v (S.clk + 1) ((v, 0) : Nat × Nat).1 = S.clk + 1 := hvs;rw [e1, hsi w hw] at hfw'; have := h.ck w; omega
      · rw [List.mem_singleton.1 hw]; exact .refl v
  · intro w hw;rcases List.mem_append.1 hw with hw | hw
    · obtain ⟨f, hf, h1, h2⟩ := h.r4 w hw;exact ⟨f, List.mem_append_left _ hf, by show updF S.idx v (S.clk + 1) f.1 ≤ updF S.idx v (S.clk + 1) w; rw [hci f hf, hsi w hw]; exact h1, h2⟩
    · rw [List.mem_singleton.1 hw];exact ⟨(v, 0), List.mem_append_right _ (List.mem_singleton.2 rfl), Nat.le_refl _, .refl v⟩
  · intro w hw hnf y hy;show updF S.idx v (S.clk + 1) y ≠ 0;have hwv : w ≠ v := fun e => hnf (v, 0) (List.mem_append_right _ (List.mem_singleton.2 rfl)) e.symm
    have hw' : w ∈ S.st := by
      rcases List.mem_append.1 hw with hw | hw
      · exact hw
      · exact absurd (List.mem_singleton.1 hw) hwv
    have h1 := h.blk w hw' (fun f hf => hnf f (List.mem_append_left _ hf)) y hy;rw [hi y h1]; exact h1
  · intro f hf;rcases List.mem_append.1 hf with hf | hf
    · refine ⟨(h.gry f hf).1, fun i y hik hy => .inl ?_⟩;show updF S.idx v (S.clk + 1) y ≠ 0;rcases (h.gry f hf).2 i y hik hy with h1 | h1
      · rw [hi y h1]; exact h1
      · injection h1 with h1; rw [← h1, hvs]; exact Nat.succ_ne_zero _
    · rw [List.mem_singleton.1 hf]; exact ⟨Nat.zero_le _, fun i y hik => absurd hik (Nat.not_lt_zero _)⟩
  · intro w hw;show updF S.low v (S.clk + 1) w ≤ updF S.idx v (S.clk + 1) w ∧ ∃ y ∈ S.st ++ [v], updF S.low v (S.clk + 1) w = updF S.idx v (S.clk + 1) y ∧ Rh suc w y
    by_cases e : w = v
    · rw [e, hvs, ZaS];exact ⟨Nat.le_refl _, v, List.mem_append_right _ (List.mem_singleton.2 rfl), hvs.symm, .refl v⟩
    · have hw' : w ∈ S.st := by
        rcases List.mem_append.1 hw with hw | hw
        · exact hw
        · exact absurd (List.mem_singleton.1 hw) e
      obtain ⟨h1, y, hy, h2, h3⟩ := h.lw w hw';rw [hlow w e, hsi w hw'];exact ⟨h1, y, List.mem_append_left _ hy, by rw [hsi y hy]; exact h2, h3⟩
  · intro f hf x hx hxf hfx hseg y hy hys;have hfx' : updF S.idx v (S.clk + 1) f.1 ≤ updF S.idx v (S.clk + 1) x := hfx;show updF S.low v (S.clk + 1) f.1 ≤ updF S.idx v (S.clk + 1) y;rcases List.mem_append.1 hf with hf | hf
    · have hxv : x ≠ v := fun e => by
        have h1 := hseg (v, 0) (List.mem_append_right _ (List.mem_singleton.2 rfl)) (by show updF S.idx v (S.clk + 1) f.1 < updF S.idx v (S.clk + 1) v; rw [hvs, hci f hf]; exact Nat.lt_succ_of_le (h.ck _));rw [e] at h1; exact Nat.lt_irrefl _ h1
      have hx' : x ∈ S.st := by
        rcases List.mem_append.1 hx with hx | hx
        · exact hx
        · exact absurd (List.mem_singleton.1 hx) hxv
      rw [hlow f.1 (hcv f hf)];rcases List.mem_append.1 hys with hys | hys
      · rw [hsi y hys];rw [hci f hf, hsi x hx'] at hfx';refine h.l8 f hf x hx' hxf hfx' (fun f' hf' hlt => ?_) y hy hys;have h1 := hseg f' (List.mem_append_left _ hf') (by show updF S.idx v (S.clk + 1) f.1 < updF S.idx v (S.clk + 1) f'.1; rw [hci f hf, hci f' hf']; exact hlt);have h1' : updF S.idx v (S.clk + 1) x < updF S.idx v (S.clk + 1) f'.1 := h1;rw [hsi x hx', hci f' hf'] at h1'; exact h1'
      · rw [List.mem_singleton.1 hys, hvs];have := (h.lw f.1 (h.csm f hf)).1;have := h.ck f.1;omega
    · rw [List.mem_singleton.1 hf] at hfx' hxf
      exfalso
      have e1 : updF S.idx v (S.clk + 1) ((v, 0) : Nat × Nat).1 = S.clk + 1 := hvs;rw [e1] at hfx';rcases List.mem_append.1 hx with hx | hx
      · rw [hsi x hx] at hfx'; have := h.ck x; omega
      · exact hxf (List.mem_singleton.1 hx)
  · intro f hf i y hik hy hys;show updF S.low v (S.clk + 1) f.1 ≤ updF S.idx v (S.clk + 1) y;rcases List.mem_append.1 hf with hf | hf
    · rw [hlow f.1 (hcv f hf)];rcases List.mem_append.1 hys with hys | hys
      · rw [hsi y hys]; exact h.l8g f hf i y hik hy hys
      · rw [List.mem_singleton.1 hys, hvs];have := (h.lw f.1 (h.csm f hf)).1;have := h.ck f.1;omega
    · rw [List.mem_singleton.1 hf] at hik; exact absurd hik (Nat.not_lt_zero _)
  · have := h.num;show S.cnt + (S.st ++ [v]).length ≤ S.clk + 1;rw [List.length_append]; simp only [List.length_singleton]; omega
  · obtain ⟨vs, h1, h2, h3⟩ := h.cap;refine ⟨v :: vs, List.nodup_cons.2 ⟨fun hm => (h3 v).1 hm hv0, h1⟩, by rw [List.length_cons, h2], fun w => ?_⟩;show w ∈ v :: vs ↔ updF S.idx v (S.clk + 1) w ≠ 0
    by_cases e : w = v
    · rw [e, hvs]; simp
    · rw [ZaQ e, List.mem_cons, ← h3 w]; simp [e]

theorem pair_app {α : Type} {R : α → α → Prop} {l : List α} {a : α} (h : (l ++ [a]).Pairwise R) : l.Pairwise R ∧ ∀ b ∈ l, R b a := by
  rw [List.pairwise_append] at h;exact ⟨h.1, fun b hb => h.2.2 b hb a (List.mem_singleton.2 rfl)⟩
theorem ti_adv {n : Nat} {suc : Nat → List Nat} {S : TS} {cs0 : List (Nat × Nat)} {v k j : Nat} (h : TI n suc S none) (hcs : S.cs = cs0 ++ [(v, k)]) (hj : (suc v)[k]? = some j) (hjn : j < n) {low' : Nat → Nat} {p : Option Nat}
    (hlo : ∀ w, low' w ≤ S.low w) (hlw : ∀ w ∈ S.st, ∃ y ∈ S.st, low' w = S.idx y ∧ Rh suc w y) (hp : S.idx j ≠ 0 ∨ p = some j) (hp2 : ∀ x, p = some x → x = j ∧ S.idx j = 0) (hl : j ∈ S.st → low' v ≤ S.idx j) :
    TI n suc { S with low := low', cs := cs0 ++ [(v, k + 1)] } p := by
  have hvm : (v, k) ∈ S.cs := by rw [hcs]; exact List.mem_append_right _ (List.mem_singleton.2 rfl)
  have hcs0 : ∀ f ∈ cs0, f ∈ S.cs := fun f hf => by rw [hcs]; exact List.mem_append_left _ hf
  have hc : ∀ f ∈ cs0 ++ [(v, k + 1)], ∃ g ∈ S.cs, g.1 = f.1 := fun f hf => by
    rcases List.mem_append.1 hf with hf | hf
    · exact ⟨f, hcs0 f hf, rfl⟩
    · rw [List.mem_singleton.1 hf]; exact ⟨_, hvm, rfl⟩
  have hc' : ∀ g ∈ S.cs, ∃ f ∈ cs0 ++ [(v, k + 1)], f.1 = g.1 := fun g hg => by
    rw [hcs] at hg;rcases List.mem_append.1 hg with hg | hg
    · exact ⟨g, List.mem_append_left _ hg, rfl⟩
    · rw [List.mem_singleton.1 hg]; exact ⟨_, List.mem_append_right _ (List.mem_singleton.2 rfl), rfl⟩
  have hmap : (cs0 ++ [(v, k + 1)]).map (·.1) = S.cs.map (·.1) := by rw [hcs]; simp
  refine ⟨h.lt, h.ck, h.inj, h.st, h.srt, h.ofi, ?_, ?_, ?_, ?_, h.clo, ?_, ?_, ?_, ?_, ?_, h.scc, h.use, ?_, h.num, h.cap⟩ <;> (try dsimp only)
  · intro f hf;obtain ⟨g, hg, e⟩ := hc f hf;rw [← e]; exact h.csm g hg
  · have h1 : (S.cs.map (·.1)).Pairwise fun a b => S.idx a < S.idx b := List.pairwise_map.2 h.css;rw [← hmap] at h1;exact (List.pairwise_map (f := fun f : Nat × Nat => f.1) (R := fun a b => S.idx a < S.idx b)).1 h1
  · intro f hf;obtain ⟨g, hg, e⟩ := hc f hf;rw [← e]; exact h.r5 g hg
  · intro w hw;obtain ⟨g, hg, h1, h2⟩ := h.r4 w hw;obtain ⟨f, hf, e⟩ := hc' g hg;exact ⟨f, hf, by rw [e]; exact h1, by rw [e]; exact h2⟩
  · intro w hw hnf;refine h.blk w hw fun g hg e => ?_;obtain ⟨f, hf, e'⟩ := hc' g hg;exact hnf f hf (e'.trans e)
  · intro f hf;rcases List.mem_append.1 hf with hf | hf
    · refine ⟨(h.gry f (hcs0 f hf)).1, fun i y hi hy => ?_⟩;rcases (h.gry f (hcs0 f hf)).2 i y hi hy with h1 | h1
      · exact .inl h1
      · cases h1
    · rw [List.mem_singleton.1 hf];refine ⟨(List.getElem?_eq_some_iff.1 hj).1, fun i y hi hy => ?_⟩;rcases Nat.lt_or_eq_of_le (Nat.le_of_lt_succ hi) with hi | hi
      · rcases (h.gry (v, k) hvm).2 i y hi hy with h1 | h1
        · exact .inl h1
        · cases h1
      · subst hi;have hy' : (suc v)[i]? = some y := hy;rw [hj] at hy'; injection hy' with e; rw [← e]; exact hp
  · intro w hw;exact ⟨Nat.le_trans (hlo w) (h.lw w hw).1, hlw w hw⟩
  · intro f hf x hx hxf hfx hseg y hy hys;obtain ⟨g, hg, e⟩ := hc f hf;rw [← e] at hxf hfx ⊢;refine Nat.le_trans (hlo _) (h.l8 g hg x hx hxf hfx (fun g' hg' hlt => ?_) y hy hys);obtain ⟨f', hf', e'⟩ := hc' g' hg';have := hseg f' hf' (by rw [e', ← e]; exact hlt);rw [e'] at this; exact this
  · intro f hf i y hi hy hys;rcases List.mem_append.1 hf with hf | hf
    · exact Nat.le_trans (hlo _) (h.l8g f (hcs0 f hf) i y hi hy hys)
    · rw [List.mem_singleton.1 hf] at hi hy ⊢;rcases Nat.lt_or_eq_of_le (Nat.le_of_lt_succ hi) with hi | hi
      · exact Nat.le_trans (hlo _) (h.l8g (v, k) hvm i y hi hy hys)
      · subst hi;have hy' : (suc v)[i]? = some y := hy;rw [hj] at hy'; injection hy' with e; rw [← e] at hys ⊢; exact hl hys
  · intro x hx;obtain ⟨rfl, h0⟩ := hp2 x hx;refine ⟨hjn, h0, fun f hf => ?_⟩;obtain ⟨g, hg, e⟩ := hc f hf;rw [← e];refine .step (h.r5 g hg v (h.csm _ hvm) ?_) (List.mem_of_getElem? hj);have h2 := h.css;rw [hcs] at hg h2;rcases List.mem_append.1 hg with hg | hg
    · exact Nat.le_of_lt ((pair_app h2).2 g hg)
    · rw [List.mem_singleton.1 hg]; exact Nat.le_refl _
theorem ti_pop1 {n : Nat} {suc : Nat → List Nat} {S : TS} {cs0 : List (Nat × Nat)} {v : Nat} (h : TI n suc S none) (hcs : S.cs = cs0 ++ [(v, (suc v).length)]) (hlt : S.low v < S.idx v) :
    ∃ cs1 u k, cs0 = cs1 ++ [(u, k)] ∧ TI n suc { S with low := updF S.low u (min (S.low u) (S.low v)), cs := cs0 } none := by
  have hvm : (v, (suc v).length) ∈ S.cs := by rw [hcs]; exact List.mem_append_right _ (List.mem_singleton.2 rfl)
  have hvs := h.csm _ hvm;have hcs0 : ∀ f ∈ cs0, f ∈ S.cs := fun f hf => by rw [hcs]; exact List.mem_append_left _ hf
  have hcsv : ∀ f ∈ S.cs, f ∈ cs0 ∨ f.1 = v := fun f hf => by
    rw [hcs] at hf;rcases List.mem_append.1 hf with hf | hf
    · exact .inl hf
    · rw [List.mem_singleton.1 hf]; exact .inr rfl
  have hcss := h.css;rw [hcs] at hcss;obtain ⟨hcss0, hcssv⟩ := pair_app hcss;obtain ⟨_, y0, hy0, hly0, hry0⟩ := h.lw v hvs
  -- a node that is on its way and lies below v
  have hlow : ∃ f ∈ cs0, S.idx f.1 ≤ S.low v ∧ Rh suc v f.1 := by
    obtain ⟨f, hf, h1, h2⟩ := h.r4 y0 hy0;rcases hcsv f hf with hf' | hf'
    · exact ⟨f, hf', by omega, hry0.trans h2⟩
    · rw [hf'] at h1; omega
  have hne : cs0 ≠ [] := fun e => by obtain ⟨f, hf, _⟩ := hlow; rw [e] at hf; cases hf
  obtain ⟨cs1, ⟨u, k⟩, hcs1⟩ : ∃ cs1 f, cs0 = cs1 ++ [f] := ⟨cs0.dropLast, cs0.getLast hne, (List.dropLast_concat_getLast hne).symm⟩
  have hum : (u, k) ∈ cs0 := by rw [hcs1]; exact List.mem_append_right _ (List.mem_singleton.2 rfl)
  have huv : S.idx u < S.idx v := hcssv _ hum;have hus := h.csm _ (hcs0 _ hum);have hvu : v ≠ u := fun e => by rw [e] at huv; omega
  have hlast : ∀ f ∈ cs0, S.idx f.1 ≤ S.idx u := fun f hf => by
    rw [hcs1] at hf hcss0;rcases List.mem_append.1 hf with hf | hf
    · exact Nat.le_of_lt ((pair_app hcss0).2 f hf)
    · rw [List.mem_singleton.1 hf]; exact Nat.le_refl _
  have hlo : ∀ w, updF S.low u (min (S.low u) (S.low v)) w ≤ S.low w := fun w => by
    by_cases e : w = u
    · rw [e, ZaS]; exact Nat.min_le_left _ _
    · rw [ZaQ e]; exact Nat.le_refl _
  have hinju : ∀ f ∈ cs0, f.1 ≠ u → S.idx f.1 < S.idx u := fun f hf e => by
    have := hlast f hf;rcases Nat.lt_or_eq_of_le this with h1 | h1
    · exact h1
    · exact absurd (h.inj f.1 u ((h.st _).1 (h.csm _ (hcs0 _ hf))).1 h1) e
  refine ⟨cs1, u, k, hcs1, h.lt, h.ck, h.inj, h.st, h.srt, h.ofi, fun f hf => h.csm f (hcs0 f hf), hcss0, fun f hf => h.r5 f (hcs0 f hf), ?_, h.clo, ?_, fun f hf => h.gry f (hcs0 f hf), ?_, ?_, ?_, h.scc, h.use, (fun _ e => by cases e), h.num, h.cap⟩ <;> (try dsimp only)
  · intro w hw;obtain ⟨f, hf, h1, h2⟩ := h.r4 w hw;rcases hcsv f hf with hf' | hf'
    · exact ⟨f, hf', h1, h2⟩
    · obtain ⟨f', hf'', h3, h4⟩ := hlow;rw [hf'] at h1 h2;exact ⟨f', hf'', by omega, h2.trans h4⟩
  · intro w hw hnf y hy
    by_cases e : w = v
    · subst e;obtain ⟨i, hi⟩ := List.getElem?_of_mem hy;rcases (h.gry _ hvm).2 i y (List.getElem?_eq_some_iff.1 hi).1 hi with h1 | h1
      · exact h1
      · cases h1
    · refine h.blk w hw (fun f hf e' => ?_) y hy;rcases hcsv f hf with hf' | hf'
      · exact hnf f hf' e'
      · exact e (e'.symm.trans hf')
  · intro w hw;refine ⟨Nat.le_trans (hlo w) (h.lw w hw).1, ?_⟩
    by_cases e : w = u
    · rw [e, ZaS];obtain ⟨_, y, hy, h1, h2⟩ := h.lw u hus;rcases Nat.le_total (S.low u) (S.low v) with hle | hle
      · rw [Nat.min_eq_left hle]; exact ⟨y, hy, h1, h2⟩
      · rw [Nat.min_eq_right hle]; exact ⟨y0, hy0, hly0, (h.r5 _ (hcs0 _ hum) v hvs (Nat.le_of_lt huv)).trans hry0⟩
    · rw [ZaQ e]; exact (h.lw w hw).2
  · intro f hf x hx hxf hfx hseg y hy hys
    -- x lies in the segment of f, or of v
    by_cases hxv : S.idx v ≤ S.idx x
    · have hfu : f.1 = u := by
        rcases Nat.lt_or_eq_of_le (hlast f hf) with h1 | h1
        · have := hseg (u, k) hum h1;have : S.idx x < S.idx u := this;omega
        · exact h.inj f.1 u ((h.st _).1 (h.csm _ (hcs0 _ hf))).1 h1
      rw [hfu, ZaS];refine Nat.le_trans (Nat.min_le_right _ _) ?_
      by_cases e : x = v
      · subst e;obtain ⟨i, hi⟩ := List.getElem?_of_mem hy;exact h.l8g _ hvm i y (List.getElem?_eq_some_iff.1 hi).1 hi hys
      · refine h.l8 _ hvm x hx e hxv (fun f' hf' hlt' => ?_) y hy hys
        exfalso
        rcases hcsv f' hf' with h1 | h1
        · have := hcssv f' h1; have h2 : S.idx v < S.idx f'.1 := hlt'; have h3 : S.idx f'.1 < S.idx v := this; omega
        · rw [h1] at hlt'; exact Nat.lt_irrefl _ hlt'
    · refine Nat.le_trans (hlo _) (h.l8 f (hcs0 f hf) x hx hxf hfx (fun f' hf' hlt' => ?_) y hy hys);rcases hcsv f' hf' with h1 | h1
      · exact hseg f' h1 hlt'
      · rw [h1]; omega
  · intro f hf i y hi hy hys;exact Nat.le_trans (hlo _) (h.l8g f (hcs0 f hf) i y hi hy hys)

theorem Rh.leave {suc : Nat → List Nat} {p : Nat → Prop} {a b : Nat} (h : Rh suc a b) (ha : p a) (hb : ¬ p b) : ∃ x y, p x ∧ y ∈ suc x ∧ ¬ p y ∧ Rh suc y b := by
  induction h with
  | refl => exact absurd ha hb
  | @step b c h' e ih =>
    by_cases hp : p b
    · exact ⟨b, c, hp, e, hb, .refl c⟩
    · obtain ⟨x, y, h1, h2, h3, h4⟩ := ih hp;exact ⟨x, y, h1, h2, h3, h4.step e⟩
theorem ti_pop2 {n : Nat} {suc : Nat → List Nat} {S : TS} {cs0 : List (Nat × Nat)} {v : Nat} {st1 st2 : List Nat} (h : TI n suc S none) (hcs : S.cs = cs0 ++ [(v, (suc v).length)]) (hlt : S.low v = S.idx v) (hst : S.st = st1 ++ v :: st2) :
    (∀ f ∈ cs0, S.low f.1 ≤ S.low v) ∧ TI n suc { S with of := fun x => if x ∈ v :: st2 then (S.cnt : Int) else S.of x, st := st1, cs := cs0, cnt := S.cnt + 1 } none := by
  have hvm : (v, (suc v).length) ∈ S.cs := by rw [hcs]; exact List.mem_append_right _ (List.mem_singleton.2 rfl)
  have hvs := h.csm _ hvm;have hcs0 : ∀ f ∈ cs0, f ∈ S.cs := fun f hf => by rw [hcs]; exact List.mem_append_left _ hf
  have hcsv : ∀ f ∈ S.cs, f ∈ cs0 ∨ f.1 = v := fun f hf => by
    rw [hcs] at hf;rcases List.mem_append.1 hf with hf | hf
    · exact .inl hf
    · rw [List.mem_singleton.1 hf]; exact .inr rfl
  have hcss := h.css;rw [hcs] at hcss;obtain ⟨hcss0, hcssv⟩ := pair_app hcss;have hsrt := h.srt;rw [hst, List.pairwise_append] at hsrt;obtain ⟨hs1, hs2, hs12⟩ := hsrt
  have hP : ∀ w, w ∈ v :: st2 → w ∈ S.st ∧ S.idx v ≤ S.idx w := fun w hw => by
    refine ⟨by rw [hst]; exact List.mem_append_right _ hw, ?_⟩;rcases List.mem_cons.1 hw with rfl | hw
    · exact Nat.le_refl _
    · exact Nat.le_of_lt ((List.pairwise_cons.1 hs2).1 w hw)
  have hQ : ∀ w, w ∈ st1 → w ∈ S.st ∧ S.idx w < S.idx v := fun w hw => ⟨by rw [hst]; exact List.mem_append_left _ hw, hs12 w hw v (List.mem_cons_self ..)⟩
  have hPQ : ∀ w ∈ S.st, w ∈ st1 ∨ w ∈ v :: st2 := fun w hw => by rw [hst] at hw; exact List.mem_append.1 hw
  have hdis : ∀ w, w ∈ st1 → w ∉ v :: st2 := fun w h1 h2 => by have := (hQ w h1).2; have := (hP w h2).2; omega
  have hofn : ∀ w ∈ S.st, S.of w < 0 := fun w hw => ((h.st w).1 hw).2
  have hcs1 : ∀ f ∈ cs0, f.1 ∈ st1 := fun f hf => by
    rcases hPQ _ (h.csm f (hcs0 f hf)) with h1 | h1
    · exact h1
    · have := (hP _ h1).2; have h2 : S.idx f.1 < S.idx v := hcssv f hf; omega
  -- all nodes of the component reach v
  have hto : ∀ w ∈ v :: st2, Rh suc w v := fun w hw => by
    obtain ⟨f, hf, h1, h2⟩ := h.r4 w (hP w hw).1;rcases hcsv f hf with h3 | h3
    · exact h2.trans (h.r5 f hf v hvs (Nat.le_of_lt (hcssv f h3)))
    · rw [h3] at h2; exact h2
  have hfrom : ∀ w ∈ v :: st2, Rh suc v w := fun w hw => h.r5 _ hvm w (hP w hw).1 (hP w hw).2
  -- its successors lie in it, or in components that are known
  have hsucc : ∀ x ∈ v :: st2, ∀ y ∈ suc x, y ∈ v :: st2 ∨ 0 ≤ S.of y := fun x hx y hy => by
    have hy0 : S.idx y ≠ 0 := by
      by_cases e : x = v
      · subst e;obtain ⟨i, hi⟩ := List.getElem?_of_mem hy;rcases (h.gry _ hvm).2 i y (List.getElem?_eq_some_iff.1 hi).1 hi with h1 | h1
        · exact h1
        · cases h1
      · refine h.blk x (hP x hx).1 (fun f hf e' => ?_) y hy;rcases hcsv f hf with h1 | h1
        · have h2 : S.idx f.1 < S.idx v := hcssv f h1;have := (hP x hx).2;rw [e'] at h2; omega
        · exact e (e'.symm.trans h1)
    rcases Int.lt_or_le (S.of y) 0 with h1 | h1
    · have hys : y ∈ S.st := (h.st y).2 ⟨hy0, h1⟩;rcases hPQ y hys with h2 | h2
      · exfalso
        have h3 := (hQ y h2).2
        have h4 : S.low v ≤ S.idx y := by
          by_cases e : x = v
          · subst e;obtain ⟨i, hi⟩ := List.getElem?_of_mem hy;exact h.l8g _ hvm i y (List.getElem?_eq_some_iff.1 hi).1 hi hys
          · refine h.l8 _ hvm x (hP x hx).1 e (hP x hx).2 (fun f' hf' hlt' => ?_) y hy hys
            exfalso
            rcases hcsv f' hf' with h5 | h5
            · have h6 : S.idx f'.1 < S.idx v := hcssv f' h5;have h7 : S.idx v < S.idx f'.1 := hlt';omega
            · rw [h5] at hlt'; exact Nat.lt_irrefl _ hlt'
        omega
      · exact .inl h2
    · exact .inr h1
  have hkn : ∀ a b, 0 ≤ S.of a → Rh suc a b → 0 ≤ S.of b := fun a b ha hab => hab.clos h.clo ha;have hnk : ∀ w ∈ v :: st2, ¬ 0 ≤ S.of w := fun w hw => by have := hofn w (hP w hw).1; omega
  have hcnt : ∀ w, S.of w ≠ (S.cnt : Int) := fun w e => by
    have := (h.ofi w (by rw [e]; exact Int.natCast_nonneg _)).2;omega
  refine ⟨fun f hf => ?_, h.lt, h.ck, h.inj, ?_, hs1, ?_, hcs1, hcss0, ?_, ?_, ?_, ?_, fun f hf => h.gry f (hcs0 f hf), ?_, ?_, ?_, ?_, ?_, (fun _ e => by cases e), ?_, h.cap⟩ <;> (try dsimp only)
  · have h1 := (h.lw f.1 (h.csm f (hcs0 f hf))).1;have h2 : S.idx f.1 < S.idx v := hcssv f hf;omega
  · intro w
    constructor
    · intro hw;rw [if_neg (hdis w hw)];exact (h.st w).1 (hQ w hw).1
    · rintro ⟨h1, h2⟩
      by_cases hw : w ∈ v :: st2
      · rw [if_pos hw] at h2; omega
      · rw [if_neg hw] at h2;rcases hPQ w ((h.st w).2 ⟨h1, h2⟩) with h3 | h3
        · exact h3
        · exact absurd h3 hw
  · intro w hw
    by_cases hm : w ∈ v :: st2
    · rw [if_pos hm]; exact ⟨((h.st w).1 (hP w hm).1).1, by omega⟩
    · rw [if_neg hm] at hw ⊢;have := h.ofi w hw;exact ⟨this.1, by omega⟩
  · exact fun f hf w hw => h.r5 f (hcs0 f hf) w (hQ w hw).1
  · intro w hw;obtain ⟨f, hf, h1, h2⟩ := h.r4 w (hQ w hw).1;rcases hcsv f hf with h3 | h3
    · exact ⟨f, h3, h1, h2⟩
    · rw [h3] at h1; have := (hQ w hw).2; omega
  · intro w hw y hy
    by_cases hm : w ∈ v :: st2
    · rcases hsucc w hm y hy with h1 | h1
      · rw [if_pos h1]; exact Int.natCast_nonneg _
      · split
        · exact Int.natCast_nonneg _
        · exact h1
    · rw [if_neg hm] at hw
      split
      · exact Int.natCast_nonneg _
      · exact h.clo w hw y hy
  · intro w hw hnf;refine h.blk w (hQ w hw).1 fun f hf e => ?_;rcases hcsv f hf with h1 | h1
    · exact hnf f h1 e
    · have := (hQ w hw).2; rw [← e, h1] at this; omega
  · intro w hw;obtain ⟨h1, y, hy, h2, h3⟩ := h.lw w (hQ w hw).1;refine ⟨h1, y, ?_, h2, h3⟩;rcases hPQ y hy with h4 | h4
    · exact h4
    · have := (hP y h4).2; have := (hQ w hw).2; omega
  · intro f hf x hx hxf hfx hseg y hy hys;refine h.l8 f (hcs0 f hf) x (hQ x hx).1 hxf hfx (fun f' hf' hlt' => ?_) y hy (hQ y hys).1;rcases hcsv f' hf' with h1 | h1
    · exact hseg f' h1 hlt'
    · rw [h1]; exact (hQ x hx).2
  · intro f hf i y hi hy hys;exact h.l8g f (hcs0 f hf) i y hi hy (hQ y hys).1
  · intro i j hi hj
    by_cases h1 : i ∈ v :: st2 <;> by_cases h2 : j ∈ v :: st2
    · rw [if_pos h1, if_pos h2];exact ⟨fun _ => ⟨(hto i h1).trans (hfrom j h2), (hto j h2).trans (hfrom i h1)⟩, fun _ => rfl⟩
    · rw [if_neg h2] at hj;rw [if_pos h1, if_neg h2];exact ⟨fun e => absurd e.symm (hcnt j), fun e => absurd (hkn j i hj e.2) (hnk i h1)⟩
    · rw [if_neg h1] at hi;rw [if_neg h1, if_pos h2];exact ⟨fun e => absurd e (hcnt i), fun e => absurd (hkn i j hi e.1) (hnk j h2)⟩
    · rw [if_neg h1] at hi; rw [if_neg h2] at hj;rw [if_neg h1, if_neg h2];exact h.scc i j hi hj
  · intro c hc;rcases Nat.lt_or_eq_of_le (Nat.le_of_lt_succ hc) with h1 | h1
    · obtain ⟨w, hw⟩ := h.use c h1;refine ⟨w, ?_⟩;rw [if_neg (fun hm => by have := hofn w (hP w hm).1; omega)]; exact hw
    · exact ⟨v, by rw [if_pos (List.mem_cons_self ..), h1]⟩
  · have := h.num;rw [hst, List.length_append, List.length_cons] at this;omega

theorem ZbH {α : Type} [BEq α] [LawfulBEq α] {l m : List α} (h : l.Nodup) (hs : ∀ x ∈ l, x ∈ m) : l.length ≤ m.length := by
  induction l generalizing m with
  | nil => exact Nat.zero_le _
  | cons a l ih =>
    obtain ⟨h1, h2⟩ := List.nodup_cons.1 h;have ha := hs a (List.mem_cons_self ..);have h3 := ih (m := m.erase a) h2 fun x hx => (List.mem_erase_of_ne (fun e => by rw [e] at hx; exact h1 hx : x ≠ a)).2 (hs x (List.mem_cons_of_mem _ hx));have h4 := List.length_erase_of_mem ha;have h5 : 0 < m.length := List.length_pos_of_mem ha;rw [List.length_cons]; omega
theorem ti_zero (n : Nat) (suc : Nat → List Nat) : TI n suc ⟨fun _ => 0, fun _ => 0, fun _ => -1, [], [], 0, 0⟩ none where
  lt := fun _ h => absurd rfl h
  ck := fun _ => Nat.le_refl _
  inj := fun _ _ h => absurd rfl h
  st := fun v => by simp
  srt := .nil
  ofi := fun _ h => absurd h (by dsimp only; decide)
  csm := fun _ h => by cases h
  css := .nil
  r5 := fun _ h => by cases h
  r4 := fun _ h => by cases h
  clo := fun _ h => absurd h (by dsimp only; decide)
  blk := fun _ h => by cases h
  gry := fun _ h => by cases h
  lw := fun _ h => by cases h
  l8 := fun _ h => by cases h
  l8g := fun _ h => by cases h
  scc := fun _ _ h => absurd h (by dsimp only; decide)
  use := fun _ h => absurd h (Nat.not_lt_zero _)
  pnd := fun _ e => by cases e
  num := Nat.le_refl _
  cap := ⟨[], .nil, rfl, fun v => by simp⟩
theorem ti_root {n : Nat} {suc : Nat → List Nat} {S : TS} {v : Nat} (h : TI n suc S none) (hcs : S.cs = []) (hv : v < n) (h0 : S.idx v = 0) : TI n suc S (some v) :=
  { h with
    gry := fun f hf => by rw [hcs] at hf; cases hf
    pnd := fun w e => by injection e with e; subst e; exact ⟨hv, h0, fun f hf => by rw [hcs] at hf; cases hf⟩ }
theorem ti_done {n : Nat} {suc : Nat → List Nat} {S : TS} {p : Option Nat} (h : TI n suc S p) (hcs : S.cs = []) : S.st = [] := by
  cases e : S.st with
  | nil => rfl
  | cons w l =>
    obtain ⟨f, hf, _⟩ := h.r4 w (by rw [e]; exact List.mem_cons_self ..);rw [hcs] at hf; cases hf
theorem ti_le {n : Nat} {suc : Nat → List Nat} {S : TS} {p : Option Nat} (h : TI n suc S p) : S.clk ≤ n ∧ S.cs.length ≤ S.st.length := by
  obtain ⟨vs, h1, h2, h3⟩ := h.cap
  constructor
  · have := ZbH (m := List.range n) h1 fun x hx => List.mem_range.2 (h.lt x ((h3 x).1 hx));rw [List.length_range, h2] at this; exact this
  · have h4 : (S.cs.map (·.1)).Nodup := by
      refine List.pairwise_map.2 (h.css.imp fun {a b} hab e => ?_);rw [e] at hab; exact Nat.lt_irrefl _ hab
    have := ZbH (m := S.st) h4 fun x hx => by
      obtain ⟨f, hf, rfl⟩ := List.mem_map.1 hx;exact h.csm f hf
    rw [List.length_map] at this; exact this
structure SccOf (n : Nat) (suc : Nat → List Nat) (of : Nat → Nat) (cnt : Nat) : Prop where
  lt : ∀ v, v < n → of v < cnt
  scc : ∀ i j, i < n → j < n → (of i = of j ↔ Rh suc i j ∧ Rh suc j i)
  use : ∀ c, c < cnt → ∃ v, v < n ∧ of v = c
  le : cnt ≤ n
theorem ti_final {n : Nat} {suc : Nat → List Nat} {S : TS} {p : Option Nat} (h : TI n suc S p) (hcs : S.cs = []) (hall : ∀ v, v < n → S.idx v ≠ 0) :
    SccOf n suc (fun v => (S.of v).toNat) S.cnt ∧ ∀ v, v < n → S.of v = (((S.of v).toNat : Nat) : Int) := by
  have hst := ti_done h hcs
  have h0 : ∀ v, v < n → 0 ≤ S.of v := fun v hv => by
    rcases Int.lt_or_le (S.of v) 0 with h1 | h1
    · have := (h.st v).2 ⟨hall v hv, h1⟩; rw [hst] at this; cases this
    · exact h1
  refine ⟨⟨fun v hv => ?_, fun i j hi hj => ?_, fun c hc => ?_, ?_⟩, fun v hv => (Int.toNat_of_nonneg (h0 v hv)).symm⟩
  · have := (h.ofi v (h0 v hv)).2; have := h0 v hv; omega
  · rw [← h.scc i j (h0 i hi) (h0 j hj)];have := h0 i hi; have := h0 j hj;omega
  · obtain ⟨v, hv⟩ := h.use c hc;refine ⟨v, h.lt v (h.ofi v (by omega)).1, by omega⟩
  · have := h.num; have := (ti_le h).1; omega
end Go.Proofs.Ytgdppeobgefogaa
/- The order of a graph that always takes the least node that waits for none. Plain laws. -/
namespace Go.Proofs.Ytgdppeobgefogaa
def sucs (g : List (List Nat)) (i : Nat) : List Nat := g.getD i []
def degS (g : List (List Nat)) (done : List Nat) (j : Nat) : Nat := ((List.range g.length).map fun i => if i ∈ done then 0 else (sucs g i).count j).sum
theorem sum_zero {l : List Nat} : l.sum = 0 ↔ ∀ x ∈ l, x = 0 := by
  induction l with
  | nil => simp
  | cons a r ih => rw [List.sum_cons]; constructor
                   · intro h x hx;rcases List.mem_cons.1 hx with rfl | hx
                     · omega
                     · exact ih.1 (by omega) x hx
                   · intro h; have := h a (List.mem_cons_self ..); have := ih.2 fun x hx => h x (List.mem_cons_of_mem _ hx); omega
def avail (g : List (List Nat)) (done : List Nat) (i : Nat) : Prop := i < g.length ∧ i ∉ done ∧ ∀ k, k < g.length → k ∉ done → i ∉ sucs g k
theorem degS_zero {g : List (List Nat)} {done : List Nat} {j : Nat} : degS g done j = 0 ↔ ∀ k, k < g.length → k ∉ done → j ∉ sucs g k := by
  unfold degS;rw [sum_zero]
  constructor
  · intro h k hk hd hm;have := h _ (List.mem_map.2 ⟨k, List.mem_range.2 hk, rfl⟩);rw [if_neg hd] at this;have := List.count_pos_iff.2 hm; omega
  · intro h x hx;obtain ⟨k, hk, rfl⟩ := List.mem_map.1 hx
    split
    · rfl
    · rename_i hd; exact List.count_eq_zero.2 (h k (List.mem_range.1 hk) hd)
theorem sum_upd {n i : Nat} {f h : Nat → Nat} {c : Nat} (hi : i < n) (he : ∀ k, k < n → k ≠ i → f k = h k) (hc : f i = h i + c) : ((List.range n).map f).sum = ((List.range n).map h).sum + c := by
  induction n with
  | zero => omega
  | succ n ih =>
    rw [List.range_succ, List.map_append, List.map_append, List.sum_append, List.sum_append];simp only [List.map_cons, List.map_nil, List.sum_cons, List.sum_nil]
    by_cases e : i = n
    · subst e
      have : ((List.range i).map f).sum = ((List.range i).map h).sum := by
        congr 1
        exact List.map_congr_left fun k hk => he k (by have := List.mem_range.1 hk; omega) (by have := List.mem_range.1 hk; omega)
      omega
    · have := ih (by omega) fun k hk hne => he k (by omega) hne;have := he n (by omega) (Ne.symm e);omega
theorem degS_step {g : List (List Nat)} {done : List Nat} {i : Nat} (hi : i < g.length) (hd : i ∉ done) (j : Nat) : degS g done j = degS g (done ++ [i]) j + (sucs g i).count j := by
  unfold degS;refine sum_upd hi (fun k _ hne => ?_) ?_
  · by_cases h : k ∈ done
    · rw [if_pos h, if_pos (List.mem_append.2 (.inl h))]
    · rw [if_neg h, if_neg fun h' => (List.mem_append.1 h').elim h fun e => hne (List.mem_singleton.1 e)]
  · rw [if_neg hd, if_pos (by simp)]; omega
def Grd (g : List (List Nat)) (K : Nat → Nat) (l : List Nat) : Prop := ∀ i, i < l.length → avail g (l.take i) (nth l i) ∧ ∀ y, avail g (l.take i) y → K (nth l i) ≤ K y
theorem grd_snoc {g : List (List Nat)} {K : Nat → Nat} {l : List Nat} {x : Nat} (h : Grd g K l) (h1 : avail g l x) (h2 : ∀ y, avail g l y → K x ≤ K y) : Grd g K (l ++ [x]) := by
  intro i hi;rw [List.length_append, List.length_singleton] at hi
  by_cases e : i = l.length
  · subst e;rw [List.take_left, show nth (l ++ [x]) l.length = x by simp [nth]];exact ⟨h1, h2⟩
  · rw [nth_app (by omega), List.take_append_of_le_length (by omega)];exact h i (by omega)
theorem grd_take {g : List (List Nat)} {K : Nat → Nat} (hK : ∀ a b, a < g.length → b < g.length → K a = K b → a = b) {l m : List Nat} (hl : Grd g K l) (hm : Grd g K m) : ∀ i, i ≤ l.length → i ≤ m.length → l.take i = m.take i := by
  intro i
  induction i with
  | zero => intro _ _; simp
  | succ i ih =>
    intro h1 h2;have e := ih (by omega) (by omega);rw [List.take_succ_eq_append_getElem (by omega), List.take_succ_eq_append_getElem (by omega), e, ← Za6 (by omega), ← Za6 (by omega)];have a := hl i (by omega); have b := hm i (by omega);rw [e] at a;rw [hK _ _ a.1.1 b.1.1 (Nat.le_antisymm (a.2 _ b.1) (b.2 _ a.1))]
theorem grd_uniq {g : List (List Nat)} {K : Nat → Nat} (hK : ∀ a b, a < g.length → b < g.length → K a = K b → a = b) {l m : List Nat} (hl : Grd g K l) (hm : Grd g K m) (el : ∀ y, ¬ avail g l y) (em : ∀ y, ¬ avail g m y) : l = m := by
  rcases Nat.lt_trichotomy l.length m.length with h | h | h
  · have e := grd_take hK hl hm l.length (Nat.le_refl _) (by omega);rw [List.take_length] at e;have := (hm l.length h).1;rw [← e] at this; exact (el _ this).elim
  · have e := grd_take hK hl hm l.length (Nat.le_refl _) (by omega);rw [List.take_length, h, List.take_length] at e; exact e
  · have e := grd_take hK hl hm m.length (by omega) (Nat.le_refl _);rw [List.take_length] at e;have := (hl m.length h).1;rw [e] at this; exact (em _ this).elim
theorem grd_nodup {g : List (List Nat)} {K : Nat → Nat} {l : List Nat} (h : Grd g K l) : l.Nodup ∧ ∀ x ∈ l, x < g.length := by
  constructor
  · rw [List.nodup_iff_pairwise_ne, List.pairwise_iff_getElem];intro i j hi hj hij e;have := (h j hj).1.2.1;rw [Za6 hj, ← e] at this;exact this (List.mem_iff_getElem.2 ⟨i, by rw [List.length_take]; omega, by simp⟩)
  · intro x hx;obtain ⟨i, hi, rfl⟩ := List.mem_iff_getElem.1 hx;have := (h i hi).1.1
    rwa [Za6 hi] at this
structure OI (g : List (List Nat)) (K : Nat → Nat) (w q out ls : List Nat) : Prop where
  len : w.length = g.length
  deg : ∀ j, j < g.length → nth w j = degS g out j + ls.count j
  nd : (out ++ q).Nodup
  lt : ∀ x ∈ out ++ q, x < g.length
  zer : ∀ x, x < g.length → (x ∈ out ++ q ↔ nth w x = 0)
  hp : Heap2 K q
  grd : Grd g K out
theorem oi_le {g : List (List Nat)} {K : Nat → Nat} {w q out ls : List Nat} (h : OI g K w q out ls) : out.length + q.length ≤ g.length := by
  have := ZbH h.nd (m := List.range g.length) fun x hx => List.mem_range.2 (h.lt x hx);rw [List.length_range, List.length_append] at this; exact this
theorem oi_pop {g : List (List Nat)} {K : Nat → Nat} {w q out : List Nat} (h : OI g K w q out []) (hq : q ≠ []) : OI g K w (hpop K q) (out ++ [nth q 0]) (sucs g (nth q 0)) := by
  have hp := hpop_perm K hq;have h0 : 0 < q.length := List.length_pos_iff.2 hq;have hm : nth q 0 ∈ q := Zbs h0;have hx : nth q 0 < g.length := h.lt _ (List.mem_append.2 (.inr hm));have hno : nth q 0 ∉ out := fun h1 => (List.nodup_append.1 h.nd).2.2 _ h1 _ hm rfl
  have hpp : (out ++ [nth q 0] ++ hpop K q).Perm (out ++ q) := by
    rw [List.append_assoc]; exact hp.append_left out
  have hw : ∀ y, y < g.length → (nth w y = 0 ↔ ∀ k, k < g.length → k ∉ out → y ∉ sucs g k) := fun y hy => by
    rw [h.deg y hy, List.count_nil, Nat.add_zero, degS_zero]
  refine ⟨h.len, fun j hj => ?_, hpp.nodup_iff.2 h.nd, fun x hx => h.lt x (hpp.mem_iff.1 hx), fun x hx => ?_, hpop_heap h.hp hq, grd_snoc h.grd ⟨hx, hno, ?_⟩ fun y hy => ?_⟩
  · rw [h.deg j hj, List.count_nil, Nat.add_zero, degS_step hx hno]
  · rw [hpp.mem_iff]; exact h.zer x hx
  · exact (hw _ hx).1 ((h.zer _ hx).1 (List.mem_append.2 (.inr hm)))
  · have := (h.zer y hy.1).2 ((hw _ hy.1).2 hy.2.2);rcases List.mem_append.1 this with h1 | h1
    · exact (hy.2.1 h1).elim
    · obtain ⟨i, hi, rfl⟩ := List.mem_iff_getElem.1 h1;rw [← Za6 hi]; exact heap_min h.hp i hi
theorem oi_dec {g : List (List Nat)} {K : Nat → Nat} {w q out ls : List Nat} {j : Nat} (h : OI g K w q out (j :: ls)) (hj : j < g.length) : 1 ≤ nth w j ∧
    (nth w j - 1 = 0 → OI g K (w.set j (nth w j - 1)) (hpush K q j) out ls) ∧ (nth w j - 1 ≠ 0 → OI g K (w.set j (nth w j - 1)) q out ls) := by
  have h1 : nth w j = degS g out j + (ls.count j + 1) := by rw [h.deg j hj, List.count_cons_self]
  have hjl : j < w.length := by rw [h.len]; exact hj
  have hnm : j ∉ out ++ q := fun hm => by have := (h.zer j hj).1 hm; omega
  have hdeg : ∀ x, x < g.length → nth (w.set j (nth w j - 1)) x = degS g out x + ls.count x := fun x hx => by
    rw [nth_set hjl]
    split
    · rename_i e; subst e; omega
    · rename_i e; rw [h.deg x hx, List.count_cons_of_ne (fun e' => e e'.symm)]
  refine ⟨by omega, fun hz => ?_, fun hz => ?_⟩
  · have hpp : (out ++ hpush K q j).Perm (j :: (out ++ q)) := ((hpush_perm K q j).append_left out).trans List.perm_middle;refine ⟨by simpa using h.len, hdeg, hpp.nodup_iff.2 (List.nodup_cons.2 ⟨hnm, h.nd⟩), fun x hx => ?_, fun x hx => ?_, hpush_heap h.hp j, h.grd⟩
    · rcases List.mem_cons.1 (hpp.mem_iff.1 hx) with rfl | hx
      · exact hj
      · exact h.lt x hx
    · rw [hpp.mem_iff, List.mem_cons, nth_set hjl]
      split
      · rename_i e; subst e; exact ⟨fun _ => hz, fun _ => .inl rfl⟩
      · rename_i e; rw [← h.zer x hx]; exact ⟨fun h' => h'.elim (fun e' => (e e').elim) id, .inr⟩
  · refine ⟨by simpa using h.len, hdeg, h.nd, h.lt, fun x hx => ?_, h.hp, h.grd⟩;rw [nth_set hjl]
    split
    · rename_i e; subst e; exact ⟨fun h' => (hnm h').elim, fun h' => (hz h').elim⟩
    · exact h.zer x hx
theorem oi_fill {g : List (List Nat)} {K : Nat → Nat} {w : List Nat} (hlen : w.length = g.length) (hdeg : ∀ j, j < g.length → nth w j = degS g [] j)
    {q : List Nat} (hn : q.Nodup) (hq : ∀ x, x ∈ q ↔ x < g.length ∧ nth w x = 0) (hh : Heap2 K q) : OI g K w q [] [] :=
  ⟨hlen, fun j hj => by rw [hdeg j hj]; rfl, hn, fun x hx => ((hq x).1 hx).1, fun x hx => ⟨fun h => ((hq x).1 h).2, fun h => (hq x).2 ⟨hx, h⟩⟩, hh, fun i hi => by simp at hi⟩
theorem oi_end {g : List (List Nat)} {K : Nat → Nat} {w out : List Nat} (h : OI g K w [] out []) : Grd g K out ∧ ∀ y, ¬ avail g out y := by
  refine ⟨h.grd, fun y hy => ?_⟩;have := (h.zer y hy.1).2 (by rw [h.deg y hy.1, List.count_nil, Nat.add_zero]; exact degS_zero.2 hy.2.2);rw [List.append_nil] at this; exact hy.2.1 this
end Go.Proofs.Ytgdppeobgefogaa
/- Headers of rows of a region; their rows grow. No program in sight. -/
namespace Go.Proofs.Ytgdppeobgefogaa
open Go.RowKit

abbrev Hd := Option (Nat × Nat)
def hdrV : Hd → Nat → Value
  | none, _ => .slice none 0 0
  | some (b, c), n => sV b n c
abbrev hdr (h : Hd) (n : Nat) : D := .raw (hdrV h n)
def rowAt (M : MF) (h : Hd) (t : TypeId) (k : Nat) (xs : List D) : Prop := match h with
  | none => xs = []
  | some (b, c) => xs.length ≤ c ∧ M b = some (.row t k c xs)
def mdelH (M : MF) : Hd → MF
  | none => M
  | some (b, _) => mdel_ M b
theorem mdelH_keep {M : MF} {h : Hd} {b : Nat} {m : MObj} (hm : M b = some m) (hne : ∀ c, h ≠ some (b, c)) : mdelH M h b = some m := by
  match h, hne with
  | none, _ => exact hm
  | some (b', c), hne =>
    show mdel_ M b' b = _;rw [mdel_ne (fun e => hne c (by rw [e]))]; exact hm
theorem keepM {M : MF} {h : Hd} {b b' : Nat} {m v : MObj} (hb : mdelH M h b = none) (hm : M b' = some m) (hne : ∀ c, h ≠ some (b', c)) : mput_ (mdelH M h) b v b' = some m := by
  have h1 := mdelH_keep hm hne;rw [mput_ne]
  · exact h1
  · rintro rfl; rw [hb] at h1; cases h1
theorem SR.splitH {F : Fr} {s : AS} {ρ : Nat → Nat → Value} {act : Act} {w : World} (hs : SR F s ρ act w) (t g f : Nat) {M : MF} {T : TypeId} {kk m : Nat} {h : Hd} {xs : List D} {env' : List (Nat × AV)} {hp1 hp' : Hp} (hne : Nat.beq g f = false)
    (ht : get s.env t = some (.d (hdr h m))) (hn : m = xs.length) (hM : hfam s.hp f = some [.multi M]) (hr : rowAt M h T kk xs) (hE : killE? g s.env = some env') (hH : killH? g s.hp = some hp1) (hz : hfam hp1 g = none) (hm : hmul? hp1 f (mdelH M h) = some hp') :
    ∃ v, SR F ⟨s.n, (t, .own g 0 m) :: env', (g, [.rowD T kk xs]) :: hp'⟩ (upd ρ g 0 v) act w := by
  match h, ht, hr, hm with
  | some (b, cap), ht, hr, hm => exact ⟨_, hs.splitR t g f (cap := cap) (b := b) hne ht hn hM hr.2 hE hH hz hm⟩
  | none, ht, hr, hm =>
    have hxs : xs = [] := hr;subst hxs hn;have hgf : g ≠ f := Nat.ne_of_beq_eq_false hne;refine ⟨.slice none 0 0, ?_⟩
    have hhp : hp' = hp1 := by
      have key : ∀ (H H' : Hp), hfam H f = some [.multi M] → hmul? H f M = some H' → H' = H := by
        intro H
        induction H with
        | nil => intro H' h; cases h
        | cons p r ih =>
          obtain ⟨k, l⟩ := p;intro H' h1 h2;simp only [hfam] at h1;simp only [hmul?] at h2
          cases hk : Nat.beq k f with
          | true =>
            rw [hk] at h1 h2;injection h1 with h1
            subst h1;simp only [isM] at h2;injection h2 with h2; exact h2.symm
          | false =>
            rw [hk] at h1 h2;dsimp only at h1 h2
            cases hr : hmul? r f M with
            | none => rw [hr] at h2; cases h2
            | some r' =>
              rw [hr] at h2; injection h2 with h2
              rw [← h2, ih r' h1 hr]
      obtain ⟨a1, a2⟩ := killH?_spec hH
      have hM1 : hfam hp1 f = some [.multi M] := by
        have key2 : ∀ (H H' : Hp), keepH? (notFam g) H = some H' → hfam H f = some [.multi M] → hfam H' f = some [.multi M] := by
          intro H
          induction H with
          | nil => intro H' _ h; cases h
          | cons p r ih =>
            obtain ⟨k, l⟩ := p;intro H' h1 h2;simp only [keepH?] at h1
            cases hr : keepH? (notFam g) r with
            | none => rw [hr] at h1; cases h1
            | some r' =>
              rw [hr] at h1
              cases hl : keepOs? (notFam g) l with
              | none => rw [hl] at h1; cases h1
              | some l' =>
                rw [hl] at h1; injection h1 with h1; subst h1
                simp only [hfam] at h2 ⊢
                cases hk : Nat.beq k f with
                | true =>
                  rw [hk] at h2; injection h2 with h2; subst h2
                  simp only [keepOs?, keepO?] at hl;injection hl with hl; rw [← hl]
                | false => rw [hk] at h2; exact ih r' hr h2
        exact key2 _ _ hH hM
      exact key hp1 hp' hM1 hm
    rw [hhp]
    have h1 : SR F ⟨s.n, (t, .d (.sl (some true) [])) :: s.env, s.hp⟩ ρ act w := ⟨hs.size, hs.defs, fun t' a ha => by
      rcases Zbn ha with ⟨rfl, rfl⟩ | ⟨_, ha⟩
      · have hr := hs.env t _ ht
        generalize act.tmps.getD t undef = x at hr ⊢
        cases hr with
        | d h => cases h with
          | raw _ => exact .d (.sl 0 (fun b hb => by cases hb; rfl) (fun _ => rfl) rfl (Nat.le_refl _) (Nat.zero_le _) (fun x hx => by cases hx) (fun h => absurd rfl h) (fun b o hb => by cases hb))
      · exact hs.env t' a ha, hs.heap⟩
    obtain ⟨k1, k2⟩ := killH?_spec hH
    have hz' : ∀ i, hget s.hp g i = none := fun i => by
      cases hq : hget s.hp g i with
      | none => rfl
      | some o =>
        obtain ⟨o2, q1, _⟩ := k2 _ _ _ hq;unfold hget at q1; rw [hz] at q1; cases q1
    have h2 := hs.set g 0 (.rowD T kk []) (.slice none 0 0) (hp' := (g, [.rowD T kk []]) :: hp1) hE hH (fun f' i => by
      by_cases e : g = f'
      · subst e;simp only [hget, hfam, Nat.beq_refl, Option.bind_some, true_and, gl_one (o := .rowD T kk []) rfl, hz, Option.bind_none]
        cases i <;> simp
      · simp only [hget, hfam, ZaV e]
        rw [if_neg (fun hh => e hh.1.symm)]) (fun t cs e => by rw [hz'] at e; cases e) (fun b hb => by cases hb) rfl rfl rfl (Nat.le_refl _) (fun _ _ _ => rfl) (fun _ => ⟨[], World.ownsRow_nil w 0 T kk, ⟨by simp, by simp, fun i x hx => by simp at hx⟩, by simp⟩)
    refine ⟨h2.size, h2.defs, fun t' a ha => ?_, h2.heap⟩;rcases Zbn ha with ⟨rfl, rfl⟩ | ⟨_, ha⟩
    · have hr := hs.env t _ ht
      generalize act.tmps.getD t undef = x at hr ⊢
      cases hr with
      | d h => cases h with | raw _ => exact .own Zbv (Nat.le_refl _)
    · exact h2.env t' a ha
section
variable {P : Program} {F : Fr} {Q : Exit → AS → Prop} {c : Code} {ops : Array Oper} {l : List Oper} {n : Nat} {env env1 env' : List (Nat × AV)} {hp hp1 hp2 hp3 : Hp}
theorem st_appH {o : Oper} (t g f : Nat) {M : MF} {T : TypeId} {kk m : Nat} {h : Hd} {xs : List D} {hp' : Hp} {s2 : AS} (hr : rowAt M h T kk xs) (hne : Nat.beq g f = false) (ht : get env t = some (.d (hdr h m))) (hn : m = xs.length) (hM : hfam hp f = some [.multi M]) (hE : killE? g env = some env') (hH : killH? g hp = some hp1) (hz : hfam hp1 g = none) (hm : hmul? hp1 f (mdelH M h) = some hp')
    (h2 : Zaw P F o ⟨n, (t, .own g 0 m) :: env', (g, [.rowD T kk xs]) :: hp'⟩ s2 (notFam g)) : Zaw P F o ⟨n, env, hp⟩ s2 (notFam g) := fun ρ act w hs => by
  obtain ⟨v, h1⟩ := hs.splitH t g f hne ht hn hM hr hE hH hz hm;exact wp_weaken (fun a w' ⟨ρ', h3, h4⟩ => ⟨ρ', h3, fun f i hfi => (h4 f i hfi).trans (Zbd fun e => Zbx hfi e.1)⟩) (h2 _ act w h1)
end
def nrm1 : D → D
  | .sl (some true) [] => .raw (.slice none 0 0)
  | x => x
theorem RepD.nrm1 {w : World} {O : Nat → Prop} {x : D} {v : Value} (h : RepD w O x v) : RepD w O (nrm1 x) v := by
  unfold Go.Proofs.Ytgdppeobgefogaa.nrm1
  split
  · cases h with
    | sl k hn hz hln hc hm hk ha hp =>
      rename_i a n cap
      have h1 := hn true rfl
      have h2 : a = none := by cases a with
        | none => rfl
        | some _ => cases h1
      subst h2;have h3 := hz rfl;have h4 : n = 0 := hln.symm;subst h3 h4;exact .raw rfl
  · exact h
end Go.Proofs.Ytgdppeobgefogaa
/- A region of rows is given up: headers of its rows become frozen slices. No program in sight. -/
namespace Go.Proofs.Ytgdppeobgefogaa
open Go.RowKit

def Melt (M : MF) (x y : D) : Prop := x = y ∨ ∃ h T zs, x = hdr h zs.length ∧ rowAt M h T 1 zs ∧ (∀ z ∈ zs, z.one = true) ∧ y = .sl none zs

theorem RepD.melt {F : Fr} {s : AS} {ρ : Nat → Nat → Value} {act : Act} {w : World} (hs : SR F s ρ act w) {f : Nat} {M : MF} {hp' : Hp} (hM : hfam s.hp f = some [.multi M]) (hO1 : ∀ b, F.O ρ hp' b → F.O ρ s.hp b)
    (hO2 : ∀ i o b, hget s.hp f i = some o → blkOf (ρ f i) = some b → ¬ F.O ρ hp' b) {x y : D} {v : Value} (hm : Melt M x y) (hr : RepD w (F.O ρ hp') x v) : RepD w (F.O ρ hp') y v := by
  rcases hm with rfl | ⟨h, T, zs, rfl, hra, hz1, rfl⟩
  · exact hr
  · match h, hra with
    | none, hra =>
      have hra : zs = [] := hra;subst hra
      cases hr with
      | raw _ => exact .sl 0 (fun b hb => by cases hb) (fun _ => rfl) rfl (Nat.le_refl _) (Nat.zero_le _) (fun x hx => by cases hx) (fun h => absurd rfl h) (fun b o hb => by cases hb)
    | some (b, c), hra =>
      obtain ⟨hle, hb⟩ := hra
      cases hr with
      | raw _ =>
        obtain ⟨hρ, us, g1, g2, g3⟩ := hs.rowN hM hb;obtain ⟨a, cap, e, q1, q2, q3, q4⟩ := ownsRow_form g1;injection e with e1 e2 e3
        subst e1 e3
        have hc1 : ∀ z ∈ zs, z.cells = [z] := fun z hz => by
          have h1 := hz1 z hz;have h2 := g2.2.1 z hz
          cases z with
          | agg cs => simp [D.one] at h1
          | _ => rfl
        refine .sl 1 (fun b hb => by cases hb) (fun h => by cases h) rfl q1 q2 (fun z hz => by rw [hc1 z hz]; rfl) (fun _ => ⟨b, 0, rfl⟩) (fun b' o hb' i z hi => ?_);injection hb' with hb'
        injection hb' with hb1 hb2
        subst hb1 hb2;have hil : i < zs.length := (List.getElem?_eq_some_iff.1 hi).1;obtain ⟨b2, cur, r1, r2, r3, r4⟩ := q4 (by omega);injection r1 with r1
        injection r1 with r1
        subst r1;have hlt : b < w.heap.size := (Array.getElem?_eq_some_iff.1 r2).1
        have hex : ∀ (q : Nat) c, z.cells[q]? = some c → ∃ u, w.cell? ⟨b, 0 + i * 1 + q, none⟩ = some u ∧ RepD w (F.O ρ hp') c u := fun q c' hc => by
          obtain ⟨u, d1, d2, d3⟩ := g2.2.2 i z hi q c' hc;exact ⟨u, by rw [Nat.zero_add]; exact row_cell r2 r4 d1, d3.mono (Nat.le_refl _) (fun _ _ _ => rfl) fun b _ => hO1 b⟩
        refine .ptr (fun q => (w.cell? ⟨b, 0 + i * 1 + q, none⟩).getD undef) hlt (hO2 b _ b (by rw [Za5 hM, hb]; rfl) (by rw [hρ]; rfl)) (g3 z (List.mem_of_getElem? hi)) (fun q c' hc => ?_) (fun q c' hc => ?_)
        · obtain ⟨u, d1, _⟩ := hex q c' hc;rw [d1]; rfl
        · obtain ⟨u, d1, d2⟩ := hex q c' hc;rw [d1]; exact d2

theorem SR.melt {F : Fr} {s : AS} {ρ : Nat → Nat → Value} {act : Act} {w : World} (hs : SR F s ρ act w) (g i f : Nat) {M : MF} {T : TypeId} {xs ys : List D} {env' : List (Nat × AV)} {hp1 hp2 hp' : Hp} (hM : hfam s.hp f = some [.multi M])
    (hE : killE? f s.env = some env') (hH : killH? f s.hp = some hp1) (hh : hdel? f hp1 = some hp2) (ho : hget hp2 g i = some (.rowD T 1 xs)) (hlen : ys.length = xs.length)
    (hxy : ∀ (j : Nat) x y, xs[j]? = some x → ys[j]? = some y → Melt M x y) (h1 : (∀ x ∈ xs, x.one = true) ∧ ∀ y ∈ ys, y.one = true) (hset : hset? hp2 g i (.rowD T 1 ys) = some hp') : SR F ⟨s.n, env', hp'⟩ ρ act w := by
  obtain ⟨h2, hO1, hO2⟩ := hs.forget f hE hH hh (fun j t cs e => by
    rw [Za5 hM] at e
    cases hm : M j with
    | none => rw [hm] at e; cases e
    | some m => rw [hm] at e; injection e with e; exact MObj.notBlk e)
  have hone : ∀ z : D, z.one = true → z.cells = [z] := fun z hz => by
    cases z with
    | agg cs => simp [D.one] at hz
    | _ => rfl
  refine h2.write g i (.rowD T 1 xs) (.rowD T 1 ys) ho (hset?_spec hset) rfl rfl rfl rfl (fun _ _ => rfl) (fun _ _ e => by cases e) fun hrep => ?_;obtain ⟨us, k1, k2, k3⟩ := h2.heap.sim g i _ ho;refine ⟨us, by rw [hlen]; exact k1, ⟨by rw [hlen]; exact k2.1, fun y hy => by rw [hone y (h1.2 y hy)]; rfl, fun j y hj q c hc => ?_⟩, fun y hy c hc => by rw [hone y (h1.2 y hy), List.mem_singleton] at hc; rw [hc]; exact h1.2 y hy⟩;have hjl : j < xs.length := by rw [← hlen]; exact (List.getElem?_eq_some_iff.1 hj).1
  have hx : xs[j]? = some xs[j] := List.getElem?_eq_getElem hjl;rw [hone y (h1.2 y (List.mem_of_getElem? hj))] at hc
  cases q with
  | succ q => cases hc
  | zero =>
    injection hc with hc
    subst hc;obtain ⟨u, d1, d2, d3⟩ := k2.2.2 j _ hx 0 _ (by rw [hone _ (h1.1 _ (List.getElem_mem hjl))]; rfl);refine ⟨u, d1, d2, ?_⟩;have h3 := RepD.melt hs hM hO1 hO2 (hxy j _ _ hx hj) d3;have h4 := hrep (.d y) u (.d h3)
    cases h4 with | d h4 => exact h4
section
variable {P : Program} {F : Fr} {Q : Exit → AS → Prop} {c : Code} {n : Nat} {env env' : List (Nat × AV)} {hp hp1 hp2 hp' : Hp}
theorem a_melt (g i f : Nat) {M : MF} {T : TypeId} {xs : List D} (ys : List D) (hM : hfam hp f = some [.multi M])
    (hE : killE? f env = some env') (hH : killH? f hp = some hp1) (hh : hdel? f hp1 = some hp2) (ho : hget hp2 g i = some (.rowD T 1 xs)) (hlen : ys.length = xs.length)
    (hxy : ∀ (j : Nat) x y, xs[j]? = some x → ys[j]? = some y → Melt M x y) (h1 : (∀ x ∈ xs, x.one = true) ∧ ∀ y ∈ ys, y.one = true) (hset : hset? hp2 g i (.rowD T 1 ys) = some hp') (h : Awp P F c Q ⟨n, env', hp'⟩) : Awp P F c Q ⟨n, env, hp⟩ :=
  fun ρ act w hs => h ρ act w (hs.melt g i f hM hE hH hh ho hlen hxy h1 hset)
end
theorem SR.weakRow {F : Fr} {s : AS} {ρ : Nat → Nat → Value} {act : Act} {w : World} (hs : SR F s ρ act w) (g i : Nat) {T : TypeId} {xs ys : List D} {hp' : Hp} (ho : hget s.hp g i = some (.rowD T 1 xs)) (hlen : ys.length = xs.length)
    (hxy : ∀ (j : Nat) x y, xs[j]? = some x → ys[j]? = some y → ∀ w O v, RepD w O x v → RepD w O y v) (h1 : (∀ x ∈ xs, x.one = true) ∧ ∀ y ∈ ys, y.one = true) (hset : hset? s.hp g i (.rowD T 1 ys) = some hp') : SR F ⟨s.n, s.env, hp'⟩ ρ act w := by
  have hone : ∀ z : D, z.one = true → z.cells = [z] := fun z hz => by
    cases z with
    | agg cs => simp [D.one] at hz
    | _ => rfl
  refine hs.write g i (.rowD T 1 xs) (.rowD T 1 ys) ho (hset?_spec hset) rfl rfl rfl rfl (fun _ _ => rfl) (fun _ _ e => by cases e) fun hrep => ?_;obtain ⟨us, k1, k2, k3⟩ := hs.heap.sim g i _ ho;refine ⟨us, by rw [hlen]; exact k1, ⟨by rw [hlen]; exact k2.1, fun y hy => by rw [hone y (h1.2 y hy)]; rfl, fun j y hj q c hc => ?_⟩, fun y hy c hc => by rw [hone y (h1.2 y hy), List.mem_singleton] at hc; rw [hc]; exact h1.2 y hy⟩;have hjl : j < xs.length := by rw [← hlen]; exact (List.getElem?_eq_some_iff.1 hj).1
  have hx : xs[j]? = some xs[j] := List.getElem?_eq_getElem hjl;rw [hone y (h1.2 y (List.mem_of_getElem? hj))] at hc
  cases q with
  | succ q => cases hc
  | zero =>
    injection hc with hc
    subst hc;obtain ⟨u, d1, d2, d3⟩ := k2.2.2 j _ hx 0 _ (by rw [hone _ (h1.1 _ (List.getElem_mem hjl))]; rfl);refine ⟨u, d1, d2, ?_⟩;have h4 := hrep (.d y) u (.d (hxy j _ _ hx hj _ _ _ d3))
    cases h4 with | d h4 => exact h4
section
variable {P : Program} {F : Fr} {Q : Exit → AS → Prop} {c : Code} {n : Nat} {env : List (Nat × AV)} {hp hp' : Hp}
theorem a_weakRow (g i : Nat) {T : TypeId} {xs : List D} (ys : List D) (ho : hget hp g i = some (.rowD T 1 xs)) (hlen : ys.length = xs.length)
    (hxy : ∀ (j : Nat) x y, xs[j]? = some x → ys[j]? = some y → ∀ w O v, RepD w O x v → RepD w O y v) (h1 : (∀ x ∈ xs, x.one = true) ∧ ∀ y ∈ ys, y.one = true) (hset : hset? hp g i (.rowD T 1 ys) = some hp') (h : Awp P F c Q ⟨n, env, hp'⟩) : Awp P F c Q ⟨n, env, hp⟩ :=
  fun ρ act w hs => h ρ act w (hs.weakRow g i ho hlen hxy h1 hset)
end
end Go.Proofs.Ytgdppeobgefogaa
/- A new variable whose cells may hold function values. No program in sight. -/
namespace Go.Proofs.Ytgdppeobgefogaa
open Go.RowKit
theorem st_boxC {P : Program} {F : Fr} {s : AS} {d : Nat} {ty T : TypeId} {pos : String} {aft : Array Edge} {g : Option (Nat × Bool)} {x : Operand} (f : Nat) {A : AV} {env' : List (Nat × AV)} {hp1 hp' : List (Nat × List AObj)} {cs : List AV} (hx : s.ev x = some A) (hc : A.cells? = some cs) (hA : okC (notFam f) cs = true) (hE : killE? f s.env = some env') (hH : killH? f s.hp = some hp1) (hn : hnew? hp1 f (.blk T cs) = some hp') (hd : Nat.blt d s.n = true) :
    Zaw P F ⟨some d, .box T x, ty, pos, aft, g⟩ s ⟨s.n, (d, .ptr f 0 0) :: env', hp'⟩ (notFam f) := fun ρ act w hs => by
  have hrun : (execOp act.eval ⟨some d, .box T x, ty, pos, aft, g⟩).run P w = .ok (.value (.pointer (some ⟨w.heap.size, 0, none⟩))) (w.alloc (.cells (act.eval x).cells T)) := by
    simp [execOp, Instr.box, newVar, newRow]
  unfold Oper.wp;rw [hrun];obtain ⟨h4, h5⟩ := (hs.ev hx).cells hc
  have hsr := hs.new f (.blk T cs) (.pointer (some ⟨w.heap.size, 0, none⟩)) (.cells (act.eval x).cells T) hE hH hn rfl (fun hrep => by
    refine simBlk (us := (act.eval x).cells.toList) (by simpa using heap_alloc_new w (.cells (act.eval x).cells T)) h4 fun j c u hc hu => ?_;obtain ⟨h6, h7⟩ := h5 j c u hc hu
    exact ⟨hrep c u (fun i hr => Zbx (okC_spec hA (List.mem_of_getElem? hc) hr) rfl) h6, h7⟩)
  exact ⟨_, hsr.put (Za3 hd) (.ptr Zbv), fun f i h => Zbd fun e => Zbx h e.1⟩
end Go.Proofs.Ytgdppeobgefogaa
