/- Proved here: sccOrder_holds, the given statement Rows.SccOrderSaid: the law girolaw31.SccOrder returns true and does not panic, at every input that the statement speaks of; no condition beyond the statement. -/
/- 'girolaw31.SccOrder': for every input the law returns true, and each argument reads behind the call as it read before. No condition. -/
import Derived.Test.YtgdppeobgefogaaMg20
namespace Go.Proofs.Ytgdppeobgefogaa
open Go.RowKit
set_option maxRecDepth 100000 in
theorem small_o (g : List (List Int)) (hg : g.length ≤ 140737488355328) (hl : ∀ l ∈ g, l.length ≤ 140737488355328) : ACalls Try.prog 13 [.d (grI g), .d (boolD true)] [] fun r H' => r = .own 2 0 (smlG g).length ∧ H' = [(2, [.rowD 25 1 ((smlG g).map natsD)])] := by
  obtain ⟨n, hn⟩ : ∃ n, min g.length 14 = n := ⟨_, rfl⟩
  have hn14 : n ≤ 14 := by omega
  unfold smlG;rw [hn];refine Za1 Try.func13 rfl rfl Try.ntmps13 rfl rfl rfl fun F hF => (Zag (Zae (goAs rfl rfl (Zaf (Zag ?_)))));refine Zae (goMv rfl rfl (Zab.go (ZaD rfl (List.length_map ..) Try.underlying22 rfl) (Zab.go (st_min rfl rfl ((show (if (14 : Int) < (g.length : Int) then (14 : Int) else (g.length : Int)) = (n : Int) by split <;> omega)) rfl) (goAs rfl rfl (Zaf (Zag (Zae (goAs rfl rfl ?_))))))));refine Zaf (Zag (Zag (Zae (goAs rfl rfl (Zaf (Zaz (a_adopt 6 2 sl22 rfl rfl rfl rfl (ZaV (α := Nat × List (List Nat)) (fun q => ⟨55, [(0, .d (grI g)), (1, .d (boolD true)), (5, (.d (natD n))), (6, (.own 2 0 q.2.length)), (7, (.d (natD q.1)))], [(2, [.rowD 25 1 (q.2.map natsD)])]⟩) (fun q => q.1 ≤ n ∧ q.2 = (g.take q.1).map (rowC n)) (fun q => n - q.1) ((0, [])) (⟨Nat.zero_le _, rfl⟩) (Zay hF [2] rfl rfl ⟨rfl, rfl, rfl, rfl, rfl, trivial⟩) ?_))))))));rintro ⟨k, o⟩ ⟨hk, ho⟩;dsimp only at hk ho ⊢;refine Zag (Zag (Zae (goMv rfl rfl (goMv rfl rfl ?_))))
  first | refine Zab.go (ZaW rfl rfl rfl) ?_ | refine Zab.go (ZaS rfl rfl rfl) ?_
  refine Zaf ?_
  first | refine ZaR rfl (fun h16 => ?_) (fun h16 => ?_) | refine ZaF rfl (fun h16 => ?_) (fun h16 => ?_)
  · refine ZaC (Zag (Zaz (Zag ?_)));have hkn : k < n := Zbd h16;have hkg : k < g.length := by omega
    have hll := hl _ (List.getElem_mem hkg);have hol : o.length = k := by rw [ho, List.length_map, List.length_take]; omega
    refine Zae (goAs rfl rfl ?_);refine Zaf (Zag (Zag (Zae (goAs rfl rfl (Zaf (Zaz (a_adopt 8 1 sl25 rfl rfl rfl rfl (ZaV (α := Nat × List Nat) (fun q => ⟨55, [(0, .d (grI g)), (1, .d (boolD true)), (5, (.d (natD n))), (6, (.own 2 0 o.length)), (7, (.d (natD k))), (8, (.own 1 0 q.2.length)), (9, (.d (natD q.1)))], [(1, [.rowD 3 1 (q.2.map natD)]), (2, [.rowD 25 1 (o.map natsD)])]⟩) (fun q => q.1 ≤ min g[k].length 14 ∧ q.2 = (g[k].take q.1).map (clN n)) (fun q => g[k].length - q.1) ((0, [])) (⟨Nat.zero_le _, rfl⟩) (Zay hF [1, 2] rfl rfl ⟨rfl, rfl, rfl, rfl, rfl, rfl, rfl, trivial⟩) ?_))))))));rintro ⟨j, r⟩ ⟨hj, hr⟩;dsimp only at hj hr ⊢;refine Zag (Zag (Zae (goMv rfl rfl (goMv rfl rfl (goMv rfl rfl ?_)))))
    first | refine Zab.go (Zam (k) rfl rfl (rfl) (getgI hkg) Try.underlying22 rfl sz25 rfl) ?_ | refine Zab.go (Zal (k) rfl rfl (rfl) (getgI hkg) rfl Try.underlying22 sz25 rfl) ?_
    first | refine Zab.go (Zah rfl rfl on25 rfl) ?_ | refine Zab.go (Zak rfl rfl rfl on25 rfl) ?_ | refine Zab.go (Zaj rfl rfl (rfl) rfl on25 rfl) ?_
    refine Zab.go (ZaD rfl (List.length_map ..) Try.underlying25 rfl) ?_
    first | refine Zab.go (ZaW rfl rfl rfl) ?_ | refine Zab.go (ZaS rfl rfl rfl) ?_
    refine goMv rfl rfl ?_
    first | refine Zbt 26 rfl (fun h26 => ?_) (fun h26 => ?_) | refine Zbr 26 rfl (fun h26 => ?_) (fun h26 => ?_)
    · refine ZaH rfl rfl rfl (goMv rfl rfl (ZaH rfl rfl rfl ?_))
      first | refine Zab.go (ZaW rfl rfl rfl) ?_ | refine Zab.go (ZaS rfl rfl rfl) ?_
      refine Zab.go (Za3 rfl rfl rfl rfl) (Zaf ?_)
      first | refine ZaR rfl (fun h29 => ?_) (fun h29 => ?_) | refine ZaF rfl (fun h29 => ?_) (fun h29 => ?_)
      · refine ZaC (Zag (Zaz (Zag ?_)));have hjl : j < g[k].length := by have := h26; omega
        have hrl : r.length = j := by rw [hr, List.length_map, List.length_take]; omega
        refine Zae (goMv rfl rfl (goMv rfl rfl ?_))
        first | refine Zab.go (Zam (k) rfl rfl (rfl) (getgI hkg) Try.underlying22 rfl sz25 rfl) ?_ | refine Zab.go (Zal (k) rfl rfl (rfl) (getgI hkg) rfl Try.underlying22 sz25 rfl) ?_
        first | refine Zab.go (Zah rfl rfl on25 rfl) ?_ | refine Zab.go (Zak rfl rfl rfl on25 rfl) ?_ | refine Zab.go (Zaj rfl rfl (rfl) rfl on25 rfl) ?_
        refine goMv rfl rfl ?_
        first | refine Zab.go (Zam (j) rfl rfl (rfl) (getI hjl) Try.underlying25 rfl sz3 rfl) ?_ | refine Zab.go (Zal (j) rfl rfl (rfl) (getI hjl) rfl Try.underlying25 sz3 rfl) ?_
        first | refine Zab.go (Zah rfl rfl on3 rfl) ?_ | refine Zab.go (Zak rfl rfl rfl on3 rfl) ?_ | refine Zab.go (Zaj rfl rfl (rfl) rfl on3 rfl) ?_
        refine goAs rfl rfl (Zaf ?_);refine Zag (Zag (Zae (goMv rfl rfl (Zaf (a_true rfl (rfl) (Zae (goMv rfl rfl (Zab.go (st_conv rfl Try.underlying3 Try.underlying55 (rfl) rfl) ?_))))))));refine goMv rfl rfl (Zab.go (st_conv rfl Try.underlying3 Try.underlying55 (IntWalk.u64_in _ (by omega)) rfl) (Zab.go (st_rem rfl rfl (by omega) (rfl) rfl) (Zab.go (st_conv rfl Try.underlying55 Try.underlying3 (clN_eq (by omega) hn14 g[k][j]) rfl) (goAs rfl rfl (Zaf (Zae (goMv rfl rfl (goMv rfl rfl ?_))))))));refine Zau.go (ZaN 21 sl25 rfl rfl rfl rfl rfl rfl rfl rfl) (Zau.go (ZbR (emb := natD) r [clN n g[k][j]] rfl rfl rfl rfl rfl rfl rfl rfl sl25 (by show (r.length + 1) * 8 ≤ _; omega) rfl rfl rfl rfl) (goAs rfl rfl (Zaf (Zae (goMv rfl rfl (Zab.go (ZaL rfl rfl (IntWalk.i64_in _ (by omega)) rfl) (goAs rfl rfl (Zaf ?_))))))));exact ⟨(j + 1, r ++ [clN n g[k][j]]), ⟨by show j + 1 ≤ _; omega, by rw [hr, List.take_succ_eq_append_getElem hjl, List.map_append]; rfl⟩, by show g[k].length - (j + 1) < g[k].length - j; omega, Zay hF [1, 2] rfl (rfl) ⟨rfl, rfl, rfl, rfl, rfl, rfl, rfl, trivial⟩⟩
      · refine ZaJ ?_;have hre : r = rowC n g[k] := by rw [hr, take_min (m := 14) (by omega)]; rfl
        subst hre;refine Zbn (emb := natD) 8 1 (rowC n g[k]) rfl rfl rfl rfl rfl rfl rfl (Zae (goMv rfl rfl (goMv rfl rfl ?_)));refine Zau.go (ZaN 22 sl22 rfl rfl rfl rfl rfl rfl rfl rfl) (Zau.go (ZbR (emb := natsD) o [rowC n g[k]] rfl rfl rfl rfl rfl rfl rfl rfl sl22 (by show (o.length + 1) * 24 ≤ _; omega) rfl rfl rfl rfl) (goAs rfl rfl (Zaf (Zae (goMv rfl rfl (Zab.go (ZaL rfl rfl (IntWalk.i64_in _ (by omega)) rfl) (goAs rfl rfl (Zaf ?_))))))));exact ⟨(k + 1, o ++ [rowC n g[k]]), ⟨hkn, by rw [ho, List.take_succ_eq_append_getElem hkg, List.map_append]; rfl⟩, by show n - (k + 1) < n - k; omega, Zay hF [2] rfl (rfl) ⟨rfl, rfl, rfl, rfl, rfl, trivial⟩⟩
    · refine ZaG rfl rfl rfl rfl (ZaG rfl rfl rfl rfl (Zab.go (Za2 rfl rfl rfl rfl) (Zaf (Zbj rfl rfl (ZaJ ?_)))));have hre : r = rowC n g[k] := by rw [hr, take_min (m := 14) (by omega)]; rfl
      subst hre;refine Zbn (emb := natD) 8 1 (rowC n g[k]) rfl rfl rfl rfl rfl rfl rfl (Zae (goMv rfl rfl (goMv rfl rfl ?_)));refine Zau.go (ZaN 22 sl22 rfl rfl rfl rfl rfl rfl rfl rfl) (Zau.go (ZbR (emb := natsD) o [rowC n g[k]] rfl rfl rfl rfl rfl rfl rfl rfl sl22 (by show (o.length + 1) * 24 ≤ _; omega) rfl rfl rfl rfl) (goAs rfl rfl (Zaf (Zae (goMv rfl rfl (Zab.go (ZaL rfl rfl (IntWalk.i64_in _ (by omega)) rfl) (goAs rfl rfl (Zaf ?_))))))));exact ⟨(k + 1, o ++ [rowC n g[k]]), ⟨hkn, by rw [ho, List.take_succ_eq_append_getElem hkg, List.map_append]; rfl⟩, by show n - (k + 1) < n - k; omega, Zay hF [2] rfl (rfl) ⟨rfl, rfl, rfl, rfl, rfl, trivial⟩⟩
  · refine ZaJ (Zag ?_);have hke : k = n := by have := h16; omega
    subst hke;rw [ho];refine Zae (goMv rfl rfl (goAs rfl rfl (Zaf (Zbb ?_))));exact ⟨_, [2], _, ZaQ rfl, rfl, rfl, rfl, rfl⟩
def fwA (i : Nat) (l : List Nat) : List Nat := l.filter fun x => decide (i < x)
def fwf (g : List (List Nat)) (k i : Nat) : List Nat := if i < k then fwA i (sucs g i) else sucs g i
abbrev rowW (g : List (List Nat)) (k : Nat) : List D := (List.range g.length).map fun i => natsD (fwf g k i)
def fwG (g : List (List Nat)) : List (List Nat) := grF g.length (fun i => fwA i (sucs g i))
theorem rowW_zero (g : List (List Nat)) : g.map natsD = rowW g 0 := by
  refine List.ext_getElem (by simp) fun i h1 h2 => ?_;simp only [List.getElem_map, List.getElem_range];rw [fwf, if_neg (Nat.not_lt_zero _), sucs_get (by simpa using h1)]
theorem rowW_len (g : List (List Nat)) (k : Nat) : (rowW g k).length = g.length := by simp
theorem rowW_get {g : List (List Nat)} {k : Nat} (h : k < g.length) : (rowW g k)[k]? = some (natsD (sucs g k)) := by simp [h, fwf]
theorem rowW_set {g : List (List Nat)} {k : Nat} {l : List Nat} (hl : l = fwA k (sucs g k)) : (rowW g k).set k (natsD l) = rowW g (k + 1) :=
  row_set (fun j _ hne => by
    unfold fwf
    by_cases h : j < k
    · rw [if_pos h, if_pos (by omega)]
    · rw [if_neg h, if_neg (by omega)]) (by unfold fwf; rw [if_pos (Nat.lt_succ_self _), hl])
theorem rowW_end {g : List (List Nat)} : rowW g g.length = (fwG g).map natsD := by
  rw [fwG, grF, List.map_map]
  exact List.map_congr_left fun i hi => by
    show natsD (fwf g g.length i) = natsD (fwA i (sucs g i));rw [fwf, if_pos (List.mem_range.1 hi)]
theorem fwG_gt {g : List (List Nat)} (hg : GT g) : GT (fwG g) := by
  have hl : (fwG g).length = g.length := Zbx _ _;have hle : ∀ i, (fwA i (sucs g i)).length ≤ (sucs g i).length := fun i => List.length_filter_le _ _;refine ⟨⟨by rw [hl]; exact hg.gb.n, fun l hlm => ?_, fun l hlm x hx => ?_⟩, ?_⟩
  · obtain ⟨i, hi, rfl⟩ := List.mem_map.1 hlm;exact Nat.le_trans (hle i) (hg.gb.len (List.mem_range.1 hi))
  · obtain ⟨i, hi, rfl⟩ := List.mem_map.1 hlm;rw [hl];exact hg.gb.suc (List.mem_range.1 hi) (List.mem_filter.1 hx).1
  · have key : ∀ m, m ≤ g.length → totG (fwG g) m ≤ totG g m := by
      intro m
      induction m with
      | zero => intro _; exact Nat.le_refl _
      | succ m ih =>
        intro hm;have h1 := ih (by omega);have h2 := hle m;have h3 : ∀ q : List (List Nat), totG q (m + 1) = totG q m + (sucs q m).length := fun q => by unfold totG; rw [List.range_succ, List.map_append, List.sum_append]; simp
        have h4 : sucs (fwG g) m = fwA m (sucs g m) := grF_sucs (by omega);rw [h3, h3, h4]; omega
    rw [hl];exact Nat.le_trans (key _ (Nat.le_refl _)) hg.tot
theorem fwA_snoc {i j : Nat} {l : List Nat} (hj : j < l.length) : fwA i (l.take (j + 1)) = fwA i (l.take j) ++ if i < nth l j then [nth l j] else [] := by
  unfold fwA;rw [List.take_succ_eq_append_getElem hj, List.filter_append, Zbm hj]
  congr 1
  by_cases h : i < l[j]
  · rw [if_pos h, List.filter_cons_of_pos (by simpa using h)]; rfl
  · rw [if_neg h, List.filter_cons_of_neg (by simpa using h)]; rfl
set_option maxRecDepth 100000 in
theorem ordFC (g0' : List (List Int)) (hg : g0'.length ≤ 140737488355328) (hl : ∀ l ∈ g0', l.length ≤ 140737488355328) (hc : (ordG ((smlG g0')) idK).length = ((smlG g0')).length) : PCalls Try.prog 5 [.d (grI g0'), .d (boolD false)] (boolD true) := by
  have hsm := small_o g0' hg hl;have hgt := smlG_gt g0';have hgl := smlG_len g0'
  obtain ⟨g, hge⟩ : ∃ g, smlG g0' = g := ⟨_, rfl⟩
  rw [hge] at hsm hgt hgl hc;have hGT : GT (g) := hgt;have hn := hGT.gb.n;have hto := topo_p (g) hGT;have hro := reforder_p (g) hGT.gb;rw [if_pos hc] at hto hro;have hol := ordG_len (g) idK;refine Za1 Try.func5 rfl rfl Try.ntmps5 rfl rfl rfl fun F hF => (Zag (Zae (goAs rfl rfl (Zaf (Zag (Zag (Zae (Zab.go (Zbo (known_p) rfl rfl) ?_))))))))
  first | refine Zab.go (ZbD rfl rfl) ?_ | refine Zab.go (ZbI rfl rfl) ?_
  refine Zaf (Zbj rfl (rfl) (ZaC (Zag ?_)));refine Zae (goMv rfl rfl (Zau.go (ZbE hsm rfl [2] ⟨rfl, trivial⟩ rfl rfl rfl rfl rfl rfl rfl rfl rfl) (goAs rfl rfl (Zaf (Zag (Zag (Zae (goMv rfl rfl ?_))))))));refine Zaf (Zbj rfl (rfl) (ZaC (Zag (Zbn (emb := natsD) 0 2 g rfl rfl rfl rfl rfl rfl rfl (Zae (goMv rfl rfl (Zab.go (Zbo (hto) rfl rfl) (goMv rfl rfl ?_))))))))
  first | refine Zab.go (ZaE rfl rfl rfl) ?_ | refine Zab.go (ZaI rfl rfl rfl) ?_
  first | refine Zab.go (ZaE rfl rfl rfl) ?_ | refine Zab.go (ZaI rfl rfl rfl) ?_
  refine goAs rfl rfl (goAs rfl rfl (Zaf (Zag (Zae (goMv rfl rfl ?_)))));refine o_step (st_callX (cycle_c (g) hGT) rfl [] trivial rfl rfl rfl rfl (fun r H' ⟨best, out, h1, h2, h3⟩ => by subst h2 h3; exact ⟨rfl, rfl, rfl⟩) rfl) rfl ?_; rintro _ ⟨r, H', ⟨best, out, hC, rfl, rfl⟩, rfl⟩;refine goMv rfl rfl ?_
  first | refine Zab.go (ZaE rfl rfl rfl) ?_ | refine Zab.go (ZaI rfl rfl rfl) ?_
  first | refine Zab.go (ZaE rfl rfl rfl) ?_ | refine Zab.go (ZaI rfl rfl rfl) ?_
  first | refine Zab.go (ZaE rfl rfl rfl) ?_ | refine Zab.go (ZaI rfl rfl rfl) ?_
  refine goAs rfl rfl (goAs rfl rfl (goAs rfl rfl (Zaf (Zag (Zae (goMv rfl rfl (Zab.go (Zbo (hro) rfl rfl) (goMv rfl rfl ?_))))))))
  first | refine Zab.go (ZaE rfl rfl rfl) ?_ | refine Zab.go (ZaI rfl rfl rfl) ?_
  first | refine Zab.go (ZaE rfl rfl rfl) ?_ | refine Zab.go (ZaI rfl rfl rfl) ?_
  refine goAs rfl rfl (goAs rfl rfl (Zaf (Zag (Zag ?_))));have hout := acyc_none hGT.gb hc hC;subst hout;refine Zae (goMv rfl rfl ?_)
  first | refine Zab.go (st_neq rfl rfl rfl) ?_ | refine Zab.go (ZbH rfl rfl rfl) ?_ | refine Zab.go (ZbK rfl rfl rfl) ?_ | refine Zab.go (ZbO Try.underlying26 rfl rfl rfl) ?_ | refine Zab.go (ZbM Try.underlying26 rfl rfl rfl) ?_ | refine Zab.go (st_neqN Try.underlying26 rfl rfl) ?_ | refine Zab.go (ZbN Try.underlying26 rfl rfl rfl) ?_ | refine Zab.go (st_neqFN Try.underlying26 rfl rfl) ?_
  refine goMv rfl rfl (o_setF 76 rfl (decide_eq_false (by decide)) (ZaH rfl rfl rfl (goMv rfl rfl (ZaH rfl rfl rfl (goMv rfl rfl (ZaH rfl rfl rfl ?_))))))
  first | refine Zab.go (Zbl rfl rfl rfl) ?_ | refine Zab.go (ZaY rfl rfl rfl) ?_ | refine Zab.go (Za5 rfl rfl rfl) ?_ | refine Zab.go (Za9 Try.underlying4 rfl rfl rfl) ?_ | refine Zab.go (Za6 Try.underlying4 rfl rfl rfl) ?_ | refine Zab.go (Za7 Try.underlying4 rfl rfl) ?_ | refine Zab.go (Za8 Try.underlying4 rfl rfl rfl) ?_ | refine Zab.go (ZaZ Try.underlying4 rfl rfl) ?_
  refine Zab.go (Za2 rfl rfl rfl rfl) (Zaf (Zbj rfl (decide_eq_false (by decide)) (ZaC (Zag (Zag (Zae (goMv rfl rfl ?_)))))))
  first | refine Zab.go (ZbD rfl rfl) ?_ | refine Zab.go (ZbI rfl rfl) ?_
  refine Zaf (Zbj rfl (rfl) (ZaC (Zag (Zae (goMv rfl rfl ?_)))))
  first | refine Zab.go (Zbl rfl rfl rfl) ?_ | refine Zab.go (ZaY rfl rfl rfl) ?_ | refine Zab.go (Za5 rfl rfl rfl) ?_ | refine Zab.go (Za9 Try.underlying26 rfl rfl rfl) ?_ | refine Zab.go (Za6 Try.underlying26 rfl rfl rfl) ?_ | refine Zab.go (Za7 Try.underlying26 rfl rfl) ?_ | refine Zab.go (Za8 Try.underlying26 rfl rfl rfl) ?_ | refine Zab.go (ZaZ Try.underlying26 rfl rfl) ?_
  refine goMv rfl rfl (o_setT 92 rfl (decide_eq_true (by decide)) (ZaH rfl rfl rfl ?_));refine goMv rfl rfl (ZaH rfl rfl rfl (goMv rfl rfl (ZaH rfl rfl rfl (Zab.go (Zbo (eqN_p (ordG (g) idK) (ordG (g) idK) (by omega) (by omega)) rfl rfl) (Zab.go (Za3 rfl rfl rfl rfl) (goAs rfl rfl (Zaf (Zbb ?_))))))));exact ⟨_, [], [], ZaQ rfl, rfl, rfl, by first | rfl | (rw [decide_eq_true rfl]), rfl⟩
set_option maxRecDepth 100000 in
theorem ordFN (g0' : List (List Int)) (hg : g0'.length ≤ 140737488355328) (hl : ∀ l ∈ g0', l.length ≤ 140737488355328) (hc : (ordG ((smlG g0')) idK).length ≠ ((smlG g0')).length) : PCalls Try.prog 5 [.d (grI g0'), .d (boolD false)] (boolD true) := by
  have hsm := small_o g0' hg hl;have hgt := smlG_gt g0';have hgl := smlG_len g0'
  obtain ⟨g, hge⟩ : ∃ g, smlG g0' = g := ⟨_, rfl⟩
  rw [hge] at hsm hgt hgl hc;have hGT : GT (g) := hgt;have hn := hGT.gb.n;have hto := topo_p (g) hGT;have hro := reforder_p (g) hGT.gb;rw [if_neg hc] at hto hro;have hol := ordG_len (g) idK;refine Za1 Try.func5 rfl rfl Try.ntmps5 rfl rfl rfl fun F hF => (Zag (Zae (goAs rfl rfl (Zaf (Zag (Zag (Zae (Zab.go (Zbo (known_p) rfl rfl) ?_))))))))
  first | refine Zab.go (ZbD rfl rfl) ?_ | refine Zab.go (ZbI rfl rfl) ?_
  refine Zaf (Zbj rfl (rfl) (ZaC (Zag ?_)));refine Zae (goMv rfl rfl (Zau.go (ZbE hsm rfl [2] ⟨rfl, trivial⟩ rfl rfl rfl rfl rfl rfl rfl rfl rfl) (goAs rfl rfl (Zaf (Zag (Zag (Zae (goMv rfl rfl ?_))))))));refine Zaf (Zbj rfl (rfl) (ZaC (Zag (Zbn (emb := natsD) 0 2 g rfl rfl rfl rfl rfl rfl rfl (Zae (goMv rfl rfl (Zab.go (Zbo (hto) rfl rfl) (goMv rfl rfl ?_))))))))
  first | refine Zab.go (ZaE rfl rfl rfl) ?_ | refine Zab.go (ZaI rfl rfl rfl) ?_
  first | refine Zab.go (ZaE rfl rfl rfl) ?_ | refine Zab.go (ZaI rfl rfl rfl) ?_
  refine goAs rfl rfl (goAs rfl rfl (Zaf (Zag (Zae (goMv rfl rfl ?_)))));refine o_step (st_callX (cycle_c (g) hGT) rfl [] trivial rfl rfl rfl rfl (fun r H' ⟨best, out, h1, h2, h3⟩ => by subst h2 h3; exact ⟨rfl, rfl, rfl⟩) rfl) rfl ?_; rintro _ ⟨r, H', ⟨best, out, hC, rfl, rfl⟩, rfl⟩;refine goMv rfl rfl ?_
  first | refine Zab.go (ZaE rfl rfl rfl) ?_ | refine Zab.go (ZaI rfl rfl rfl) ?_
  first | refine Zab.go (ZaE rfl rfl rfl) ?_ | refine Zab.go (ZaI rfl rfl rfl) ?_
  first | refine Zab.go (ZaE rfl rfl rfl) ?_ | refine Zab.go (ZaI rfl rfl rfl) ?_
  refine goAs rfl rfl (goAs rfl rfl (goAs rfl rfl (Zaf (Zag (Zae (goMv rfl rfl (Zab.go (Zbo (hro) rfl rfl) (goMv rfl rfl ?_))))))))
  first | refine Zab.go (ZaE rfl rfl rfl) ?_ | refine Zab.go (ZaI rfl rfl rfl) ?_
  first | refine Zab.go (ZaE rfl rfl rfl) ?_ | refine Zab.go (ZaI rfl rfl rfl) ?_
  refine goAs rfl rfl (goAs rfl rfl (Zaf (Zag (Zag ?_))));have hout := cyc_some hGT hc hC;rw [show decide (out ≠ []) = true from decide_eq_true hout];refine Zae (goMv rfl rfl ?_)
  first | refine Zab.go (st_neq rfl rfl rfl) ?_ | refine Zab.go (ZbH rfl rfl rfl) ?_ | refine Zab.go (ZbK rfl rfl rfl) ?_ | refine Zab.go (ZbO Try.underlying26 rfl rfl rfl) ?_ | refine Zab.go (ZbM Try.underlying26 rfl rfl rfl) ?_ | refine Zab.go (st_neqN Try.underlying26 rfl rfl) ?_ | refine Zab.go (ZbN Try.underlying26 rfl rfl rfl) ?_ | refine Zab.go (st_neqFN Try.underlying26 rfl rfl) ?_
  refine goMv rfl rfl (o_setF 76 rfl (decide_eq_false (by decide)) (ZaH rfl rfl rfl (goMv rfl rfl (ZaH rfl rfl rfl (goMv rfl rfl (ZaH rfl rfl rfl ?_))))))
  first | refine Zab.go (Zbl rfl rfl rfl) ?_ | refine Zab.go (ZaY rfl rfl rfl) ?_ | refine Zab.go (Za5 rfl rfl rfl) ?_ | refine Zab.go (Za9 Try.underlying4 rfl rfl rfl) ?_ | refine Zab.go (Za6 Try.underlying4 rfl rfl rfl) ?_ | refine Zab.go (Za7 Try.underlying4 rfl rfl) ?_ | refine Zab.go (Za8 Try.underlying4 rfl rfl rfl) ?_ | refine Zab.go (ZaZ Try.underlying4 rfl rfl) ?_
  refine Zab.go (Za2 rfl rfl rfl rfl) (Zaf (Zbj rfl (decide_eq_false (by decide)) (ZaC (Zag (Zag (Zae (goMv rfl rfl ?_)))))))
  first | refine Zab.go (ZbD rfl rfl) ?_ | refine Zab.go (ZbI rfl rfl) ?_
  refine Zaf (a_true rfl (rfl) (Zag (Zae (goMv rfl rfl ?_))))
  first | refine Zab.go (Zbl rfl rfl rfl) ?_ | refine Zab.go (ZaY rfl rfl rfl) ?_ | refine Zab.go (Za5 rfl rfl rfl) ?_ | refine Zab.go (Za9 Try.underlying26 rfl rfl rfl) ?_ | refine Zab.go (Za6 Try.underlying26 rfl rfl rfl) ?_ | refine Zab.go (Za7 Try.underlying26 rfl rfl) ?_ | refine Zab.go (Za8 Try.underlying26 rfl rfl rfl) ?_ | refine Zab.go (ZaZ Try.underlying26 rfl rfl) ?_
  refine goMv rfl rfl (o_setT 85 rfl (decide_eq_true (by decide)) (ZaH rfl rfl rfl (goMv rfl rfl (ZaH rfl rfl rfl (Zab.go (ZaD rfl rfl Try.underlying25 rfl) (ZaH rfl rfl rfl ?_))))))
  first | refine Zab.go (Zbl rfl rfl rfl) ?_ | refine Zab.go (ZaY rfl rfl rfl) ?_ | refine Zab.go (Za5 rfl rfl rfl) ?_ | refine Zab.go (Za9 Try.underlying3 rfl rfl rfl) ?_ | refine Zab.go (Za6 Try.underlying3 rfl rfl rfl) ?_ | refine Zab.go (Za7 Try.underlying3 rfl rfl) ?_ | refine Zab.go (Za8 Try.underlying3 rfl rfl rfl) ?_ | refine Zab.go (ZaZ Try.underlying3 rfl rfl) ?_
  refine Zab.go (Za3 rfl rfl rfl rfl) (goAs rfl rfl (Zaf (Zbb ?_)));exact ⟨_, [], [], ZaQ rfl, rfl, rfl, by first | rfl | (rw [decide_eq_true rfl]), rfl⟩
set_option maxRecDepth 100000 in
theorem ordTC (g0' : List (List Int)) (hg : g0'.length ≤ 140737488355328) (hl : ∀ l ∈ g0', l.length ≤ 140737488355328) (hc : (ordG (fwG (smlG g0')) idK).length = (fwG (smlG g0')).length) : PCalls Try.prog 5 [.d (grI g0'), .d (boolD true)] (boolD true) := by
  have hsm := small_o g0' hg hl;have hgt := smlG_gt g0';have hgl := smlG_len g0'
  obtain ⟨g, hge⟩ : ∃ g, smlG g0' = g := ⟨_, rfl⟩
  rw [hge] at hsm hgt hgl hc;have hGT : GT (fwG g) := fwG_gt hgt;have hn := hGT.gb.n;have hto := topo_p (fwG g) hGT;have hro := reforder_p (fwG g) hGT.gb;rw [if_pos hc] at hto hro;have hol := ordG_len (fwG g) idK;refine Za1 Try.func5 rfl rfl Try.ntmps5 rfl rfl rfl fun F hF => (Zag (Zae (goAs rfl rfl (Zaf (Zag (Zag (Zae (Zab.go (Zbo (known_p) rfl rfl) ?_))))))))
  first | refine Zab.go (ZbD rfl rfl) ?_ | refine Zab.go (ZbI rfl rfl) ?_
  refine Zaf (Zbj rfl (rfl) ?_);refine ZaC (Zag (Zae (goMv rfl rfl (Zau.go (ZbE hsm rfl [2] ⟨rfl, trivial⟩ rfl rfl rfl rfl rfl rfl rfl rfl rfl) (goAs rfl rfl (Zaf (Zag (Zag ?_))))))));refine Zae (goMv rfl rfl (Zaf (a_true rfl (rfl) (Zag (Zae (goAs rfl rfl (Zaf (Zaz ?_))))))));rw [rowW_zero g];refine ZaV (α := Nat) (fun k => ⟨97, [(0, (.own 2 0 g.length)), (5, (.d (natD k)))], [(2, [.rowD 25 1 (rowW g k)])]⟩) (fun k => k ≤ g.length) (fun k => g.length - k) (0) (Nat.zero_le _) (Zay hF [2] rfl rfl ⟨rfl, rfl, trivial⟩) ?_;intro k hk;refine Zag (Zag (Zae (goMv rfl rfl (goMv rfl rfl (Zab.go (Zbc rfl Try.underlying22 rfl) ?_)))))
  first | refine Zab.go (ZaW rfl rfl rfl) ?_ | refine Zab.go (ZaS rfl rfl rfl) ?_
  refine Zaf ?_
  first | refine ZaR rfl (fun h23 => ?_) (fun h23 => ?_) | refine ZaF rfl (fun h23 => ?_) (fun h23 => ?_)
  · refine ZaC (Zag (Zaz (Zag ?_)));have hkl : k < g.length := Zbd h23;have hsl := hgt.gb.len hkl;refine Zae (goAs rfl rfl ?_);refine Zaf (Zag (Zag (Zae (goAs rfl rfl (Zaf (Zaz (a_adopt 6 1 sl25 rfl rfl rfl rfl (ZaV (α := Nat × List Nat) (fun q => ⟨97, [(0, (.own 2 0 g.length)), (5, (.d (natD k))), (6, (.own 1 0 q.2.length)), (7, (.d (natD q.1)))], [(1, [.rowD 3 1 (q.2.map natD)]), (2, [.rowD 25 1 (rowW g k)])]⟩) (fun q => q.1 ≤ (sucs g k).length ∧ q.2 = fwA k ((sucs g k).take q.1)) (fun q => (sucs g k).length - q.1) ((0, [])) (⟨Nat.zero_le _, rfl⟩) (Zay hF [1, 2] rfl rfl ⟨rfl, rfl, rfl, rfl, trivial⟩) ?_))))))));rintro ⟨j, r⟩ ⟨hj, hr⟩;dsimp only at hj hr ⊢;refine Zag (Zag (Zae (goMv rfl rfl (goMv rfl rfl (goMv rfl rfl ?_)))))
    first | refine Zab.go (Zam (k) rfl rfl (rfl) (hkl) Try.underlying22 rfl sz25 rfl) ?_ | refine Zab.go (Zal (k) rfl rfl (rfl) (hkl) rfl Try.underlying22 sz25 rfl) ?_
    first | refine Zab.go (Zah rfl rfl on25 rfl) ?_ | refine Zab.go (Zak rfl rfl rfl on25 rfl) ?_ | refine Zab.go (Zaj rfl rfl (rowW_get hkl) rfl on25 rfl) ?_
    refine Zab.go (ZaD rfl (List.length_map ..) Try.underlying25 rfl) ?_
    first | refine Zab.go (ZaW rfl rfl rfl) ?_ | refine Zab.go (ZaS rfl rfl rfl) ?_
    refine Zaf ?_
    first | refine ZaR rfl (fun h32 => ?_) (fun h32 => ?_) | refine ZaF rfl (fun h32 => ?_) (fun h32 => ?_)
    · refine ZaC (Zag (Zaz (Zag ?_)));have hjl : j < (sucs g k).length := Zbd h32;have hgn := getn hjl;have hsn := fwA_snoc (i := k) hjl;have hrl : r.length ≤ (sucs g k).length := by rw [hr]; exact Nat.le_trans (List.length_filter_le _ _) (by rw [List.length_take]; omega)
      obtain ⟨u, hue⟩ : ∃ u, nth (sucs g k) j = u := ⟨_, rfl⟩
      rw [hue] at hgn hsn;refine Zae (goMv rfl rfl (goMv rfl rfl ?_))
      first | refine Zab.go (Zam (k) rfl rfl (rfl) (hkl) Try.underlying22 rfl sz25 rfl) ?_ | refine Zab.go (Zal (k) rfl rfl (rfl) (hkl) rfl Try.underlying22 sz25 rfl) ?_
      first | refine Zab.go (Zah rfl rfl on25 rfl) ?_ | refine Zab.go (Zak rfl rfl rfl on25 rfl) ?_ | refine Zab.go (Zaj rfl rfl (rowW_get hkl) rfl on25 rfl) ?_
      refine goMv rfl rfl ?_
      first | refine Zab.go (Zam (j) rfl rfl (rfl) (hgn) Try.underlying25 rfl sz3 rfl) ?_ | refine Zab.go (Zal (j) rfl rfl (rfl) (hgn) rfl Try.underlying25 sz3 rfl) ?_
      first | refine Zab.go (Zah rfl rfl on3 rfl) ?_ | refine Zab.go (Zak rfl rfl rfl on3 rfl) ?_ | refine Zab.go (Zaj rfl rfl (rfl) rfl on3 rfl) ?_
      refine goMv rfl rfl ?_
      first | refine Zab.go (ZbF rfl rfl rfl) ?_ | refine Zab.go (ZbA rfl rfl rfl) ?_
      refine Zaf ?_
      first | refine ZaR rfl (fun h43 => ?_) (fun h43 => ?_) | refine ZaF rfl (fun h43 => ?_) (fun h43 => ?_)
      · refine Zae (goMv rfl rfl (goMv rfl rfl (goMv rfl rfl ?_)))
        first | refine Zab.go (Zam (k) rfl rfl (rfl) (hkl) Try.underlying22 rfl sz25 rfl) ?_ | refine Zab.go (Zal (k) rfl rfl (rfl) (hkl) rfl Try.underlying22 sz25 rfl) ?_
        first | refine Zab.go (Zah rfl rfl on25 rfl) ?_ | refine Zab.go (Zak rfl rfl rfl on25 rfl) ?_ | refine Zab.go (Zaj rfl rfl (rowW_get hkl) rfl on25 rfl) ?_
        refine goMv rfl rfl ?_
        first | refine Zab.go (Zam (j) rfl rfl (rfl) (hgn) Try.underlying25 rfl sz3 rfl) ?_ | refine Zab.go (Zal (j) rfl rfl (rfl) (hgn) rfl Try.underlying25 sz3 rfl) ?_
        first | refine Zab.go (Zah rfl rfl on3 rfl) ?_ | refine Zab.go (Zak rfl rfl rfl on3 rfl) ?_ | refine Zab.go (Zaj rfl rfl (rfl) rfl on3 rfl) ?_
        refine Zau.go (ZaN 21 sl25 rfl rfl rfl rfl rfl rfl rfl rfl) (Zau.go (ZbR (emb := natD) r [u] rfl rfl rfl rfl rfl rfl rfl rfl sl25 (by show (r.length + 1) * 8 ≤ _; omega) rfl rfl rfl rfl) (goAs rfl rfl (Zaf (Zae (goMv rfl rfl (Zab.go (ZaL rfl rfl (IntWalk.i64_in _ (by omega)) rfl) (goAs rfl rfl (Zaf ?_))))))));exact ⟨(j + 1, r ++ [u]), ⟨hjl, by rw [hsn, if_pos (Int.ofNat_lt.1 h43), ← hr]⟩, by show (sucs g k).length - (j + 1) < (sucs g k).length - j; omega, Zay hF [1, 2] rfl (rfl) ⟨rfl, rfl, rfl, rfl, trivial⟩⟩
      · refine ZaC (Zae (goMv rfl rfl (Zab.go (ZaL rfl rfl (IntWalk.i64_in _ (by omega)) rfl) (goAs rfl rfl (Zaf ?_)))));exact ⟨(j + 1, r), ⟨hjl, by rw [hsn, if_neg (fun h => h43 (Int.ofNat_lt.2 h)), ← hr, List.append_nil]⟩, by show (sucs g k).length - (j + 1) < (sucs g k).length - j; omega, Zay hF [1, 2] rfl (rfl) ⟨rfl, rfl, rfl, rfl, trivial⟩⟩
    · refine ZaJ ?_;have hje : r = fwA k (sucs g k) := by rw [hr, List.take_of_length_le (by have := h32; omega)]
      refine Zbn (emb := natD) 6 1 r rfl rfl rfl rfl rfl rfl rfl (Zae (goMv rfl rfl (goMv rfl rfl (goMv rfl rfl ?_))))
      first | refine Zab.go (Zam (k) rfl rfl (rfl) (hkl) Try.underlying22 rfl sz25 rfl) ?_ | refine Zab.go (Zal (k) rfl rfl (rfl) (hkl) rfl Try.underlying22 sz25 rfl) ?_
      refine Zau.go (Zbh rfl rfl rfl rfl rfl (by rw [rowW_len]; exact hkl) (rowW_set hje) rfl sz25) (Zaf (Zae (goMv rfl rfl (Zab.go (ZaL rfl rfl (IntWalk.i64_in _ (by omega)) rfl) (goAs rfl rfl (Zaf ?_))))));exact ⟨k + 1, hkl, by omega, Zay hF [2] rfl (rfl) ⟨rfl, rfl, trivial⟩⟩
  · refine ZaJ (Zag ?_);have hke : k = g.length := by have := h23; omega
    subst hke;rw [rowW_end];refine Zbn (emb := natsD) 0 2 (fwG g) rfl rfl rfl (Zbx _ _).symm rfl rfl rfl (Zae (goMv rfl rfl (Zab.go (Zbo (hto) rfl rfl) (goMv rfl rfl ?_))))
    first | refine Zab.go (ZaE rfl rfl rfl) ?_ | refine Zab.go (ZaI rfl rfl rfl) ?_
    first | refine Zab.go (ZaE rfl rfl rfl) ?_ | refine Zab.go (ZaI rfl rfl rfl) ?_
    refine goAs rfl rfl (goAs rfl rfl (Zaf (Zag (Zae (goMv rfl rfl ?_)))));refine o_step (st_callX (cycle_c (fwG g) hGT) rfl [] trivial rfl rfl rfl rfl (fun r H' ⟨best, out, h1, h2, h3⟩ => by subst h2 h3; exact ⟨rfl, rfl, rfl⟩) rfl) rfl ?_; rintro _ ⟨r, H', ⟨best, out, hC, rfl, rfl⟩, rfl⟩;refine goMv rfl rfl ?_
    first | refine Zab.go (ZaE rfl rfl rfl) ?_ | refine Zab.go (ZaI rfl rfl rfl) ?_
    first | refine Zab.go (ZaE rfl rfl rfl) ?_ | refine Zab.go (ZaI rfl rfl rfl) ?_
    first | refine Zab.go (ZaE rfl rfl rfl) ?_ | refine Zab.go (ZaI rfl rfl rfl) ?_
    refine goAs rfl rfl (goAs rfl rfl (goAs rfl rfl (Zaf (Zag (Zae (goMv rfl rfl (Zab.go (Zbo (hro) rfl rfl) (goMv rfl rfl ?_))))))))
    first | refine Zab.go (ZaE rfl rfl rfl) ?_ | refine Zab.go (ZaI rfl rfl rfl) ?_
    first | refine Zab.go (ZaE rfl rfl rfl) ?_ | refine Zab.go (ZaI rfl rfl rfl) ?_
    refine goAs rfl rfl (goAs rfl rfl (Zaf (Zag (Zag ?_))));have hout := acyc_none hGT.gb hc hC;subst hout;refine Zae (goMv rfl rfl ?_)
    first | refine Zab.go (st_neq rfl rfl rfl) ?_ | refine Zab.go (ZbH rfl rfl rfl) ?_ | refine Zab.go (ZbK rfl rfl rfl) ?_ | refine Zab.go (ZbO Try.underlying26 rfl rfl rfl) ?_ | refine Zab.go (ZbM Try.underlying26 rfl rfl rfl) ?_ | refine Zab.go (st_neqN Try.underlying26 rfl rfl) ?_ | refine Zab.go (ZbN Try.underlying26 rfl rfl rfl) ?_ | refine Zab.go (st_neqFN Try.underlying26 rfl rfl) ?_
    refine goMv rfl rfl (o_setF 76 rfl (decide_eq_false (by decide)) (ZaH rfl rfl rfl (goMv rfl rfl (ZaH rfl rfl rfl (goMv rfl rfl (ZaH rfl rfl rfl ?_))))))
    first | refine Zab.go (Zbl rfl rfl rfl) ?_ | refine Zab.go (ZaY rfl rfl rfl) ?_ | refine Zab.go (Za5 rfl rfl rfl) ?_ | refine Zab.go (Za9 Try.underlying4 rfl rfl rfl) ?_ | refine Zab.go (Za6 Try.underlying4 rfl rfl rfl) ?_ | refine Zab.go (Za7 Try.underlying4 rfl rfl) ?_ | refine Zab.go (Za8 Try.underlying4 rfl rfl rfl) ?_ | refine Zab.go (ZaZ Try.underlying4 rfl rfl) ?_
    refine Zab.go (Za2 rfl rfl rfl rfl) (Zaf (Zbj rfl (decide_eq_false (by decide)) (ZaC (Zag (Zag (Zae (goMv rfl rfl ?_)))))))
    first | refine Zab.go (ZbD rfl rfl) ?_ | refine Zab.go (ZbI rfl rfl) ?_
    refine Zaf (Zbj rfl (rfl) (ZaC (Zag (Zae (goMv rfl rfl ?_)))))
    first | refine Zab.go (Zbl rfl rfl rfl) ?_ | refine Zab.go (ZaY rfl rfl rfl) ?_ | refine Zab.go (Za5 rfl rfl rfl) ?_ | refine Zab.go (Za9 Try.underlying26 rfl rfl rfl) ?_ | refine Zab.go (Za6 Try.underlying26 rfl rfl rfl) ?_ | refine Zab.go (Za7 Try.underlying26 rfl rfl) ?_ | refine Zab.go (Za8 Try.underlying26 rfl rfl rfl) ?_ | refine Zab.go (ZaZ Try.underlying26 rfl rfl) ?_
    refine goMv rfl rfl (o_setT 92 rfl (decide_eq_true (by decide)) (ZaH rfl rfl rfl ?_));refine goMv rfl rfl (ZaH rfl rfl rfl (goMv rfl rfl (ZaH rfl rfl rfl (Zab.go (Zbo (eqN_p (ordG (fwG g) idK) (ordG (fwG g) idK) (by omega) (by omega)) rfl rfl) (Zab.go (Za3 rfl rfl rfl rfl) (goAs rfl rfl (Zaf (Zbb ?_))))))));exact ⟨_, [], [], ZaQ rfl, rfl, rfl, by first | rfl | (rw [decide_eq_true rfl]), rfl⟩
set_option maxRecDepth 100000 in
theorem ordTN (g0' : List (List Int)) (hg : g0'.length ≤ 140737488355328) (hl : ∀ l ∈ g0', l.length ≤ 140737488355328) (hc : (ordG (fwG (smlG g0')) idK).length ≠ (fwG (smlG g0')).length) : PCalls Try.prog 5 [.d (grI g0'), .d (boolD true)] (boolD true) := by
  have hsm := small_o g0' hg hl;have hgt := smlG_gt g0';have hgl := smlG_len g0'
  obtain ⟨g, hge⟩ : ∃ g, smlG g0' = g := ⟨_, rfl⟩
  rw [hge] at hsm hgt hgl hc;have hGT : GT (fwG g) := fwG_gt hgt;have hn := hGT.gb.n;have hto := topo_p (fwG g) hGT;have hro := reforder_p (fwG g) hGT.gb;rw [if_neg hc] at hto hro;have hol := ordG_len (fwG g) idK;refine Za1 Try.func5 rfl rfl Try.ntmps5 rfl rfl rfl fun F hF => (Zag (Zae (goAs rfl rfl (Zaf (Zag (Zag (Zae (Zab.go (Zbo (known_p) rfl rfl) ?_))))))))
  first | refine Zab.go (ZbD rfl rfl) ?_ | refine Zab.go (ZbI rfl rfl) ?_
  refine Zaf (Zbj rfl (rfl) ?_);refine ZaC (Zag (Zae (goMv rfl rfl (Zau.go (ZbE hsm rfl [2] ⟨rfl, trivial⟩ rfl rfl rfl rfl rfl rfl rfl rfl rfl) (goAs rfl rfl (Zaf (Zag (Zag ?_))))))));refine Zae (goMv rfl rfl (Zaf (a_true rfl (rfl) (Zag (Zae (goAs rfl rfl (Zaf (Zaz ?_))))))));rw [rowW_zero g];refine ZaV (α := Nat) (fun k => ⟨97, [(0, (.own 2 0 g.length)), (5, (.d (natD k)))], [(2, [.rowD 25 1 (rowW g k)])]⟩) (fun k => k ≤ g.length) (fun k => g.length - k) (0) (Nat.zero_le _) (Zay hF [2] rfl rfl ⟨rfl, rfl, trivial⟩) ?_;intro k hk;refine Zag (Zag (Zae (goMv rfl rfl (goMv rfl rfl (Zab.go (Zbc rfl Try.underlying22 rfl) ?_)))))
  first | refine Zab.go (ZaW rfl rfl rfl) ?_ | refine Zab.go (ZaS rfl rfl rfl) ?_
  refine Zaf ?_
  first | refine ZaR rfl (fun h23 => ?_) (fun h23 => ?_) | refine ZaF rfl (fun h23 => ?_) (fun h23 => ?_)
  · refine ZaC (Zag (Zaz (Zag ?_)));have hkl : k < g.length := Zbd h23;have hsl := hgt.gb.len hkl;refine Zae (goAs rfl rfl ?_);refine Zaf (Zag (Zag (Zae (goAs rfl rfl (Zaf (Zaz (a_adopt 6 1 sl25 rfl rfl rfl rfl (ZaV (α := Nat × List Nat) (fun q => ⟨97, [(0, (.own 2 0 g.length)), (5, (.d (natD k))), (6, (.own 1 0 q.2.length)), (7, (.d (natD q.1)))], [(1, [.rowD 3 1 (q.2.map natD)]), (2, [.rowD 25 1 (rowW g k)])]⟩) (fun q => q.1 ≤ (sucs g k).length ∧ q.2 = fwA k ((sucs g k).take q.1)) (fun q => (sucs g k).length - q.1) ((0, [])) (⟨Nat.zero_le _, rfl⟩) (Zay hF [1, 2] rfl rfl ⟨rfl, rfl, rfl, rfl, trivial⟩) ?_))))))));rintro ⟨j, r⟩ ⟨hj, hr⟩;dsimp only at hj hr ⊢;refine Zag (Zag (Zae (goMv rfl rfl (goMv rfl rfl (goMv rfl rfl ?_)))))
    first | refine Zab.go (Zam (k) rfl rfl (rfl) (hkl) Try.underlying22 rfl sz25 rfl) ?_ | refine Zab.go (Zal (k) rfl rfl (rfl) (hkl) rfl Try.underlying22 sz25 rfl) ?_
    first | refine Zab.go (Zah rfl rfl on25 rfl) ?_ | refine Zab.go (Zak rfl rfl rfl on25 rfl) ?_ | refine Zab.go (Zaj rfl rfl (rowW_get hkl) rfl on25 rfl) ?_
    refine Zab.go (ZaD rfl (List.length_map ..) Try.underlying25 rfl) ?_
    first | refine Zab.go (ZaW rfl rfl rfl) ?_ | refine Zab.go (ZaS rfl rfl rfl) ?_
    refine Zaf ?_
    first | refine ZaR rfl (fun h32 => ?_) (fun h32 => ?_) | refine ZaF rfl (fun h32 => ?_) (fun h32 => ?_)
    · refine ZaC (Zag (Zaz (Zag ?_)));have hjl : j < (sucs g k).length := Zbd h32;have hgn := getn hjl;have hsn := fwA_snoc (i := k) hjl;have hrl : r.length ≤ (sucs g k).length := by rw [hr]; exact Nat.le_trans (List.length_filter_le _ _) (by rw [List.length_take]; omega)
      obtain ⟨u, hue⟩ : ∃ u, nth (sucs g k) j = u := ⟨_, rfl⟩
      rw [hue] at hgn hsn;refine Zae (goMv rfl rfl (goMv rfl rfl ?_))
      first | refine Zab.go (Zam (k) rfl rfl (rfl) (hkl) Try.underlying22 rfl sz25 rfl) ?_ | refine Zab.go (Zal (k) rfl rfl (rfl) (hkl) rfl Try.underlying22 sz25 rfl) ?_
      first | refine Zab.go (Zah rfl rfl on25 rfl) ?_ | refine Zab.go (Zak rfl rfl rfl on25 rfl) ?_ | refine Zab.go (Zaj rfl rfl (rowW_get hkl) rfl on25 rfl) ?_
      refine goMv rfl rfl ?_
      first | refine Zab.go (Zam (j) rfl rfl (rfl) (hgn) Try.underlying25 rfl sz3 rfl) ?_ | refine Zab.go (Zal (j) rfl rfl (rfl) (hgn) rfl Try.underlying25 sz3 rfl) ?_
      first | refine Zab.go (Zah rfl rfl on3 rfl) ?_ | refine Zab.go (Zak rfl rfl rfl on3 rfl) ?_ | refine Zab.go (Zaj rfl rfl (rfl) rfl on3 rfl) ?_
      refine goMv rfl rfl ?_
      first | refine Zab.go (ZbF rfl rfl rfl) ?_ | refine Zab.go (ZbA rfl rfl rfl) ?_
      refine Zaf ?_
      first | refine ZaR rfl (fun h43 => ?_) (fun h43 => ?_) | refine ZaF rfl (fun h43 => ?_) (fun h43 => ?_)
      · refine Zae (goMv rfl rfl (goMv rfl rfl (goMv rfl rfl ?_)))
        first | refine Zab.go (Zam (k) rfl rfl (rfl) (hkl) Try.underlying22 rfl sz25 rfl) ?_ | refine Zab.go (Zal (k) rfl rfl (rfl) (hkl) rfl Try.underlying22 sz25 rfl) ?_
        first | refine Zab.go (Zah rfl rfl on25 rfl) ?_ | refine Zab.go (Zak rfl rfl rfl on25 rfl) ?_ | refine Zab.go (Zaj rfl rfl (rowW_get hkl) rfl on25 rfl) ?_
        refine goMv rfl rfl ?_
        first | refine Zab.go (Zam (j) rfl rfl (rfl) (hgn) Try.underlying25 rfl sz3 rfl) ?_ | refine Zab.go (Zal (j) rfl rfl (rfl) (hgn) rfl Try.underlying25 sz3 rfl) ?_
        first | refine Zab.go (Zah rfl rfl on3 rfl) ?_ | refine Zab.go (Zak rfl rfl rfl on3 rfl) ?_ | refine Zab.go (Zaj rfl rfl (rfl) rfl on3 rfl) ?_
        refine Zau.go (ZaN 21 sl25 rfl rfl rfl rfl rfl rfl rfl rfl) (Zau.go (ZbR (emb := natD) r [u] rfl rfl rfl rfl rfl rfl rfl rfl sl25 (by show (r.length + 1) * 8 ≤ _; omega) rfl rfl rfl rfl) (goAs rfl rfl (Zaf (Zae (goMv rfl rfl (Zab.go (ZaL rfl rfl (IntWalk.i64_in _ (by omega)) rfl) (goAs rfl rfl (Zaf ?_))))))));exact ⟨(j + 1, r ++ [u]), ⟨hjl, by rw [hsn, if_pos (Int.ofNat_lt.1 h43), ← hr]⟩, by show (sucs g k).length - (j + 1) < (sucs g k).length - j; omega, Zay hF [1, 2] rfl (rfl) ⟨rfl, rfl, rfl, rfl, trivial⟩⟩
      · refine ZaC (Zae (goMv rfl rfl (Zab.go (ZaL rfl rfl (IntWalk.i64_in _ (by omega)) rfl) (goAs rfl rfl (Zaf ?_)))));exact ⟨(j + 1, r), ⟨hjl, by rw [hsn, if_neg (fun h => h43 (Int.ofNat_lt.2 h)), ← hr, List.append_nil]⟩, by show (sucs g k).length - (j + 1) < (sucs g k).length - j; omega, Zay hF [1, 2] rfl (rfl) ⟨rfl, rfl, rfl, rfl, trivial⟩⟩
    · refine ZaJ ?_;have hje : r = fwA k (sucs g k) := by rw [hr, List.take_of_length_le (by have := h32; omega)]
      refine Zbn (emb := natD) 6 1 r rfl rfl rfl rfl rfl rfl rfl (Zae (goMv rfl rfl (goMv rfl rfl (goMv rfl rfl ?_))))
      first | refine Zab.go (Zam (k) rfl rfl (rfl) (hkl) Try.underlying22 rfl sz25 rfl) ?_ | refine Zab.go (Zal (k) rfl rfl (rfl) (hkl) rfl Try.underlying22 sz25 rfl) ?_
      refine Zau.go (Zbh rfl rfl rfl rfl rfl (by rw [rowW_len]; exact hkl) (rowW_set hje) rfl sz25) (Zaf (Zae (goMv rfl rfl (Zab.go (ZaL rfl rfl (IntWalk.i64_in _ (by omega)) rfl) (goAs rfl rfl (Zaf ?_))))));exact ⟨k + 1, hkl, by omega, Zay hF [2] rfl (rfl) ⟨rfl, rfl, trivial⟩⟩
  · refine ZaJ (Zag ?_);have hke : k = g.length := by have := h23; omega
    subst hke;rw [rowW_end];refine Zbn (emb := natsD) 0 2 (fwG g) rfl rfl rfl (Zbx _ _).symm rfl rfl rfl (Zae (goMv rfl rfl (Zab.go (Zbo (hto) rfl rfl) (goMv rfl rfl ?_))))
    first | refine Zab.go (ZaE rfl rfl rfl) ?_ | refine Zab.go (ZaI rfl rfl rfl) ?_
    first | refine Zab.go (ZaE rfl rfl rfl) ?_ | refine Zab.go (ZaI rfl rfl rfl) ?_
    refine goAs rfl rfl (goAs rfl rfl (Zaf (Zag (Zae (goMv rfl rfl ?_)))));refine o_step (st_callX (cycle_c (fwG g) hGT) rfl [] trivial rfl rfl rfl rfl (fun r H' ⟨best, out, h1, h2, h3⟩ => by subst h2 h3; exact ⟨rfl, rfl, rfl⟩) rfl) rfl ?_; rintro _ ⟨r, H', ⟨best, out, hC, rfl, rfl⟩, rfl⟩;refine goMv rfl rfl ?_
    first | refine Zab.go (ZaE rfl rfl rfl) ?_ | refine Zab.go (ZaI rfl rfl rfl) ?_
    first | refine Zab.go (ZaE rfl rfl rfl) ?_ | refine Zab.go (ZaI rfl rfl rfl) ?_
    first | refine Zab.go (ZaE rfl rfl rfl) ?_ | refine Zab.go (ZaI rfl rfl rfl) ?_
    refine goAs rfl rfl (goAs rfl rfl (goAs rfl rfl (Zaf (Zag (Zae (goMv rfl rfl (Zab.go (Zbo (hro) rfl rfl) (goMv rfl rfl ?_))))))))
    first | refine Zab.go (ZaE rfl rfl rfl) ?_ | refine Zab.go (ZaI rfl rfl rfl) ?_
    first | refine Zab.go (ZaE rfl rfl rfl) ?_ | refine Zab.go (ZaI rfl rfl rfl) ?_
    refine goAs rfl rfl (goAs rfl rfl (Zaf (Zag (Zag ?_))));have hout := cyc_some hGT hc hC;rw [show decide (out ≠ []) = true from decide_eq_true hout];refine Zae (goMv rfl rfl ?_)
    first | refine Zab.go (st_neq rfl rfl rfl) ?_ | refine Zab.go (ZbH rfl rfl rfl) ?_ | refine Zab.go (ZbK rfl rfl rfl) ?_ | refine Zab.go (ZbO Try.underlying26 rfl rfl rfl) ?_ | refine Zab.go (ZbM Try.underlying26 rfl rfl rfl) ?_ | refine Zab.go (st_neqN Try.underlying26 rfl rfl) ?_ | refine Zab.go (ZbN Try.underlying26 rfl rfl rfl) ?_ | refine Zab.go (st_neqFN Try.underlying26 rfl rfl) ?_
    refine goMv rfl rfl (o_setF 76 rfl (decide_eq_false (by decide)) (ZaH rfl rfl rfl (goMv rfl rfl (ZaH rfl rfl rfl (goMv rfl rfl (ZaH rfl rfl rfl ?_))))))
    first | refine Zab.go (Zbl rfl rfl rfl) ?_ | refine Zab.go (ZaY rfl rfl rfl) ?_ | refine Zab.go (Za5 rfl rfl rfl) ?_ | refine Zab.go (Za9 Try.underlying4 rfl rfl rfl) ?_ | refine Zab.go (Za6 Try.underlying4 rfl rfl rfl) ?_ | refine Zab.go (Za7 Try.underlying4 rfl rfl) ?_ | refine Zab.go (Za8 Try.underlying4 rfl rfl rfl) ?_ | refine Zab.go (ZaZ Try.underlying4 rfl rfl) ?_
    refine Zab.go (Za2 rfl rfl rfl rfl) (Zaf (Zbj rfl (decide_eq_false (by decide)) (ZaC (Zag (Zag (Zae (goMv rfl rfl ?_)))))))
    first | refine Zab.go (ZbD rfl rfl) ?_ | refine Zab.go (ZbI rfl rfl) ?_
    refine Zaf (a_true rfl (rfl) (Zag (Zae (goMv rfl rfl ?_))))
    first | refine Zab.go (Zbl rfl rfl rfl) ?_ | refine Zab.go (ZaY rfl rfl rfl) ?_ | refine Zab.go (Za5 rfl rfl rfl) ?_ | refine Zab.go (Za9 Try.underlying26 rfl rfl rfl) ?_ | refine Zab.go (Za6 Try.underlying26 rfl rfl rfl) ?_ | refine Zab.go (Za7 Try.underlying26 rfl rfl) ?_ | refine Zab.go (Za8 Try.underlying26 rfl rfl rfl) ?_ | refine Zab.go (ZaZ Try.underlying26 rfl rfl) ?_
    refine goMv rfl rfl (o_setT 85 rfl (decide_eq_true (by decide)) (ZaH rfl rfl rfl (goMv rfl rfl (ZaH rfl rfl rfl (Zab.go (ZaD rfl rfl Try.underlying25 rfl) (ZaH rfl rfl rfl ?_))))))
    first | refine Zab.go (Zbl rfl rfl rfl) ?_ | refine Zab.go (ZaY rfl rfl rfl) ?_ | refine Zab.go (Za5 rfl rfl rfl) ?_ | refine Zab.go (Za9 Try.underlying3 rfl rfl rfl) ?_ | refine Zab.go (Za6 Try.underlying3 rfl rfl rfl) ?_ | refine Zab.go (Za7 Try.underlying3 rfl rfl) ?_ | refine Zab.go (Za8 Try.underlying3 rfl rfl rfl) ?_ | refine Zab.go (ZaZ Try.underlying3 rfl rfl) ?_
    refine Zab.go (Za3 rfl rfl rfl rfl) (goAs rfl rfl (Zaf (Zbb ?_)));exact ⟨_, [], [], ZaQ rfl, rfl, rfl, by first | rfl | (rw [decide_eq_true rfl]), rfl⟩
theorem lawS2_p (g0' : List (List Int)) (fw : Bool) (hg : g0'.length ≤ 140737488355328) (hl : ∀ l ∈ g0', l.length ≤ 140737488355328) : PCalls Try.prog 5 [.d (grI g0'), .d (boolD fw)] (boolD true) := by
  cases fw
  · by_cases hc : (ordG (smlG g0') idK).length = (smlG g0').length
    · exact ordFC g0' hg hl hc
    · exact ordFN g0' hg hl hc
  · by_cases hc : (ordG (fwG (smlG g0')) idK).length = (fwG (smlG g0')).length
    · exact ordTC g0' hg hl hc
    · exact ordTN g0' hg hl hc
end Go.Proofs.Ytgdppeobgefogaa
namespace Go.Proofs.Ytgdppeobgefogaa
open Go.ChangeShapes Go.WideShapes Go.ChangeAt Go.RowKit

set_option maxRecDepth 100000 in
theorem sccOrder_lifted (os : Os) (started : os.Started) (H : Type) (enc : TypeId × Value → H) :
    ReturnsInHanded {} Try.checked os 5 .any (Rows.sccOrderSpec.pre6 enc Try.prog Try.f5 Rows.sccOrderRow.domain false) (Rows.sccOrderSpec.post enc Try.prog Try.f5 false true false false) := by
  refine returnsInHanded_of_change_sized (C := Try.checked) Try.own started (by kernel_rfl) Try.func5
    (ChangeSpec.witness6 (enc := enc) (C := Try.checked) false ⟨#[], #[.slice none 0 0, .bool false], []⟩ 8 (by kernel_rfl) (by kernel_rfl) (by kernel_rfl) (by kernel_rfl)) ?_
  intro W base args ds gs before hval0 hW _ hwt _;have hW' := hW;obtain ⟨p, q, hA0, hV, rfl, _, _⟩ := hW;have hlt : ∀ x ∈ p ++ q, x.block < W.heap.size := fun x hx => hW'.lt x hx;have hA : DataW.TrodAll enc Try.prog W 0 (fun _ => true) true Try.f5.params.toList args.toList ds p := hA0;rw [Try.params5] at hA;obtain ⟨v0, v1, d0, d1, p0, p1, rfl, rfl, rfl, h0, h1⟩ := trodAll_two hA;obtain ⟨rfl, rfl⟩ := trodVars_none hV;have hwz : ∀ n ∈ DataW.weightsEach Try.prog ([22, 4] : List TypeId) ([d0, d1]), n ≤ reachBytes := fun n hn => of_decide_eq_true (List.all_eq_true.1 hwt n (by rw [Try.params5]; exact hn));have hval : ∀ (j : Nat) t v, Try.f5.params[j]? = some t → (#[v0, v1] : Array Value)[j]? = some v → Value.okWide Try.prog W .any base t v := hval0;rw [Try.params5] at hval;obtain ⟨n0, g0⟩ := h0;have hv0 : v0.oneCell' = true := by obtain ⟨_, _, _, e⟩ := okWide_slice Try.underlying22 (hval 0 22 v0 rfl rfl); rw [e]; rfl
  obtain ⟨a0, q0, _, r0⟩ := (openSl Try.underlying22 (by kernel_rfl) (by omega) (b := 24) (by kernel_rfl) (openSl Try.underlying25 (by kernel_rfl) (by omega) (b := 8) (by kernel_rfl) (openInt Try.underlying3))) _ _ _ g0 (fun x hx => hlt x (by simp [hx])) (fun n hn => hwz n (DataW.weights_mem_each (j := 0) (t := 22) rfl rfl n hn));obtain ⟨n1, g1⟩ := h1;have hv1 : v1.oneCell' = true := by obtain ⟨_, e⟩ := okWide_bool Try.underlying4 (hval 1 4 v1 rfl rfl); rw [e]; rfl
  obtain ⟨a1, q1, _, r1⟩ := (openBool Try.underlying4) _ _ _ g1 (fun x hx => hlt x (by simp [hx])) (fun n hn => hwz n (DataW.weights_mem_each (j := 1) (t := 4) rfl rfl n hn));refine (law_calls (lawS2_p a0 a1 (by have := q0.2; omega) (fun x hx => by have := (q0.1 x hx).2; omega)) (vs := [v0, v1]) rfl (fun i a v ha hv => ?_)).mono fun e W' ⟨he, hb⟩ => ?_
  · rcases i with _ | _ | i
    · simp at ha hv; subst ha hv; exact RepC.arg1 rfl rfl hv0 r0
    · simp at ha hv; subst ha hv; exact RepC.arg1 rfl rfl hv1 r1
    · simp at ha
  subst he;exact ⟨_, rfl, law_post (tb := 4) Try.laidOut (by kernel_rfl) rfl rfl Try.underlying4 hW' ⟨rfl, rfl, rfl⟩ hb⟩

theorem sccOrder_holds : Rows.SccOrderSaid :=
  OpenClaim.holds_of_wide 5 Try.f5 rfl rfl rfl rfl rfl rfl rfl ⟨rfl, rfl, rfl, rfl, rfl⟩ rfl rfl rfl rfl rfl (by kernel_rfl) Try.func5 (by kernel_rfl)
    (of_decide_eq_true (by kernel_rfl)) (by unfold Func.isWrapper; first | (rw [if_pos (by decide +kernel)]; kernel_rfl) | (rw [if_neg (by decide +kernel)]; exact ⟨rfl, rfl⟩))
    (fun os started H enc _ => sccOrder_lifted os started H enc)
#print axioms sccOrder_holds

end Go.Proofs.Ytgdppeobgefogaa
