/- Layer 31: Cycle. -/
import Derived.Test.YtgdppeobgefogaaMg16
namespace Go.Proofs.Ytgdppeobgefogaa
open Go.RowKit

theorem revG_gb {g : List (List Nat)} (hg : GT g) : GB (revG g) := by
  refine ⟨by rw [revG_len]; exact hg.gb.n, fun l hl => ?_, fun l hl x hx => ?_⟩
  · obtain ⟨j, _, rfl⟩ := List.mem_map.1 hl
    have key : ∀ m, ((List.range m).flatMap fun a => List.replicate ((sucs g a).count j) a).length ≤ totG g m := by
      intro m
      induction m with
      | zero => exact Nat.zero_le _
      | succ m ih =>
        unfold totG at ih ⊢;rw [List.range_succ, List.flatMap_append, List.length_append, List.map_append, List.sum_append, List.flatMap_singleton, List.map_singleton, List.sum_singleton, List.length_replicate];exact Nat.add_le_add ih List.count_le_length
    exact Nat.le_trans (key g.length) hg.tot
  · obtain ⟨j, hj, rfl⟩ := List.mem_map.1 hl;rw [revG_len];have := (revG_mem (List.mem_range.1 hj) (u := x)).1 (by rw [revG, grF_sucs (List.mem_range.1 hj)]; exact hx);exact this.1
theorem getDl {n v : Nat} {d : Nat → Nat} (h : v < n) : (((List.range n).map d).map natD)[v]? = some (natD (d v)) := by rw [List.map_map]; exact ZaP h
theorem comC_get {g : List (List Nat)} {c : Nat} (hc : c < cntC g) : ((comC g).map natsD)[c]? = some (natsD (outT (noC g) g.length c)) := by
  rw [comC, getg (by rw [Zbx]; exact hc), grF_sucs hc]
theorem ss_some {g : List (List Nat)} {s lim : Nat} {d : Nat → Nat} {v m : Nat} {o : Option Nat} (hS : SS (noL g) g s d m (sucs g v) o) (he : ∃ w ∈ sucs g v, cand g (noL g) s d m w) : ∃ u, o = some u := by
  cases o with
  | some u => exact ⟨u, rfl⟩
  | none => obtain ⟨w, hw, hc⟩ := he; exact (hS.nn rfl w hw hc).elim
theorem enc_neg {o : Option Nat} {x : Nat} (h : encO o < 0) : ∀ u, o = some u → x < u := fun u e => by
  rw [e] at h; have h : (u : Int) < 0 := h; omega
theorem enc_lt {o : Option Nat} {x : Nat} (h : (x : Int) < encO o) : ∀ u, o = some u → x < u := fun u e => by
  rw [e] at h; exact Int.ofNat_lt.1 h
theorem enc_ge {o : Option Nat} {x : Nat} (h1 : ¬ encO o < 0) (h2 : ¬ (x : Int) < encO o) (h : ∀ u, o = some u → x < u) : False := by
  cases o with
  | none => exact h1 (by decide)
  | some u => exact h2 (Int.ofNat_lt.2 (h u rfl))
set_option maxRecDepth 100000 in
set_option maxHeartbeats 1000000 in
theorem cycle_c (g : List (List Nat)) (hg : GT g) : ACalls Try.prog 14 [.d (grD g)] [] fun r H' => ∃ best out, CI g g.length best out ∧ r = .d (.tup [natsD out, boolD (decide (out ≠ [])), intD 0]) ∧ H' = [] := by
  have hn := hg.gb.n;have hrg := revG_gb hg;have hrl := revG_len g;have hnl := noL_len g;have hcc := cn_ex g hg;refine Za1 Try.func14 rfl rfl Try.ntmps14 rfl rfl rfl fun F hF => (Zag (Zae (goAs rfl rfl (goAs rfl rfl (goAs rfl rfl (Zaf (Zag ?_)))))));refine Zag (Zae (goMv rfl rfl (Zab.go (Zbo (check_n g hg) rfl rfl) (goAs rfl rfl (Zaf (Zag (Zae (goMv rfl rfl ?_))))))))
  first | refine Zab.go (st_neq rfl rfl rfl) ?_ | refine Zab.go (ZbH rfl rfl rfl) ?_ | refine Zab.go (ZbK rfl rfl rfl) ?_ | refine Zab.go (ZbO Try.underlying26 rfl rfl rfl) ?_ | refine Zab.go (ZbM Try.underlying26 rfl rfl rfl) ?_ | refine Zab.go (st_neqN Try.underlying26 rfl rfl) ?_ | refine Zab.go (ZbN Try.underlying26 rfl rfl rfl) ?_ | refine Zab.go (st_neqFN Try.underlying26 rfl rfl) ?_
  refine Zaf (Zbj rfl (decide_eq_false (by decide)) (ZaC (Zag (Zae (goMv rfl rfl (Zab.go (Zbo (condensed_p g hg) rfl rfl) (goMv rfl rfl ?_)))))))
  first | refine Zab.go (ZaE rfl rfl rfl) ?_ | refine Zab.go (ZaI rfl rfl rfl) ?_
  first | refine Zab.go (ZaE rfl rfl rfl) ?_ | refine Zab.go (ZaI rfl rfl rfl) ?_
  refine goAs rfl rfl (goAs rfl rfl ?_);refine Zaf (Zag (Zae (goMv rfl rfl (Zab.go (Zbo (reversed_p g hg.gb) rfl rfl) (goAs rfl rfl (Zaf (Zag (Zae ?_))))))));refine goMv rfl rfl (Zab.go (ZaD rfl (List.length_map ..) Try.underlying32 rfl) (Zab.go (ZaL rfl rfl (IntWalk.i64_in _ (by omega)) rfl) (o_as 32 (.d (natD (g.length + 1))) rfl (eqv (congrArg intD (by omega))) (goAs rfl rfl (Zaf (Zag (Zae (goAs rfl rfl ?_))))))));refine Zaf (Zag (Zag (Zae (goMv rfl rfl (Zab.go (ZaD rfl (List.length_map ..) Try.underlying32 rfl) (goMv rfl rfl (Zaf (Zaz ?_))))))));refine a_anyNil 10 rfl ?_;refine a_loop (α := Nat × Nat × List Nat) (fun q => ⟨132, [(0, .d (grD g)), (6, (.d (grD (comC g)))), (7, (.d (natsD (noL g)))), (8, (.d (grD (revG g)))), (9, (.d (natD q.2.1))), (10, (.d (natsD q.2.2))), (34, (.d (natD g.length))), (35, (.d (natD q.1)))], []⟩) (fun q => q.1 ≤ g.length ∧ CI g q.1 q.2.1 q.2.2) (fun q => g.length - q.1) ((0, g.length + 1, [])) (⟨Nat.zero_le _, ci_zero g⟩) (le_of_has ⟨rfl, rfl, rfl, rfl, rfl, rfl, rfl, rfl, trivial⟩) ?_;rintro ⟨i, best, out⟩ ⟨hi, hC⟩;dsimp only at hi hC ⊢;have hb1 := hC.b1;refine Zag (Zae ?_)
  first | refine Zab.go (ZaW rfl rfl rfl) ?_ | refine Zab.go (ZaS rfl rfl rfl) ?_
  refine Zaf (Zag ?_)
  first | refine ZaR rfl (fun h36 => ?_) (fun h36 => ?_) | refine ZaF rfl (fun h36 => ?_) (fun h36 => ?_)
  · refine ZaC (Zag (Zaz (Zag ?_)));have hil : i < g.length := Zbd h36;have hgi := getn (l := noL g) (k := i) (by rw [hnl]; exact hil);have hsl := hg.gb.len hil;rw [ZbP hil] at hgi;have hci : noC g i < cntC g := hcc.lt i hil;refine Zae ?_;refine goMv rfl rfl (goAs rfl rfl (Zaf (Zag (Zag (Zae (goMv rfl rfl (goMv rfl rfl (goMv rfl rfl ?_))))))))
    first | refine Zab.go (Zam (i) rfl rfl (rfl) (hgi) Try.underlying25 rfl sz3 rfl) ?_ | refine Zab.go (Zal (i) rfl rfl (rfl) (hgi) rfl Try.underlying25 sz3 rfl) ?_
    first | refine Zab.go (Zah rfl rfl on3 rfl) ?_ | refine Zab.go (Zak rfl rfl rfl on3 rfl) ?_ | refine Zab.go (Zaj rfl rfl (rfl) rfl on3 rfl) ?_
    first | refine Zab.go (Zam (noC g i) rfl rfl (rfl) (comC_get hci) Try.underlying22 rfl sz25 rfl) ?_ | refine Zab.go (Zal (noC g i) rfl rfl (rfl) (comC_get hci) rfl Try.underlying22 sz25 rfl) ?_
    first | refine Zab.go (Zah rfl rfl on25 rfl) ?_ | refine Zab.go (Zak rfl rfl rfl on25 rfl) ?_ | refine Zab.go (Zaj rfl rfl (rfl) rfl on25 rfl) ?_
    refine Zab.go (ZaD rfl (List.length_map ..) Try.underlying25 rfl) ?_
    first | refine Zab.go (Zbl rfl rfl rfl) ?_ | refine Zab.go (ZaY rfl rfl rfl) ?_ | refine Zab.go (Za5 rfl rfl rfl) ?_ | refine Zab.go (Za9 Try.underlying3 rfl rfl rfl) ?_ | refine Zab.go (Za6 Try.underlying3 rfl rfl rfl) ?_ | refine Zab.go (Za7 Try.underlying3 rfl rfl) ?_ | refine Zab.go (Za8 Try.underlying3 rfl rfl rfl) ?_ | refine Zab.go (ZaZ Try.underlying3 rfl rfl) ?_
    refine goMv rfl rfl ?_
    first | refine Zbt 47 rfl (fun h47 => ?_) (fun h47 => ?_) | refine Zbr 47 rfl (fun h47 => ?_) (fun h47 => ?_)
    · refine ZaH rfl rfl rfl (goMv rfl rfl (ZaH rfl rfl rfl (goMv rfl rfl (ZaH rfl rfl rfl ?_))))
      first | refine Zab.go (Zam (i) rfl rfl (rfl) (getg hil) Try.underlying32 rfl sz25 rfl) ?_ | refine Zab.go (Zal (i) rfl rfl (rfl) (getg hil) rfl Try.underlying32 sz25 rfl) ?_
      refine ZaH rfl rfl rfl ?_
      first | refine Zab.go (Zah rfl rfl on25 rfl) ?_ | refine Zab.go (Zak rfl rfl rfl on25 rfl) ?_ | refine Zab.go (Zaj rfl rfl (rfl) rfl on25 rfl) ?_
      refine ZaH rfl rfl rfl (goMv rfl rfl (ZaH rfl rfl rfl (Zab.go (Zbo (contains_p (sucs g i) i (by omega)) rfl rfl) (ZaH rfl rfl rfl ?_))))
      first | refine Zab.go (ZbD rfl rfl) ?_ | refine Zab.go (ZbI rfl rfl) ?_
      refine Zab.go (Za3 rfl rfl rfl rfl) (Zaf ?_)
      first | refine ZaR rfl (fun h55 => ?_) (fun h55 => ?_) | refine ZaF rfl (fun h55 => ?_) (fun h55 => ?_)
      · refine ZaJ ?_
        first | (have hol2 : out.length = d i := (by have := h77; omega); refine Zbn (emb := natD) 10 3 out rfl rfl rfl rfl rfl rfl rfl ?_) | skip
        refine Zae (Zab.go (ZaL rfl rfl (IntWalk.i64_in _ (by omega)) rfl) (goMv rfl rfl (Zaf ?_)));exact ⟨(i + 1, best, out), ⟨hil, ci_skip hC fun k h1 _ => one_no hil (Int.ofNat.inj h47) h55 k h1⟩, by show g.length - (i + 1) < g.length - i; omega, ⟨rfl, rfl, fun _ _ => Has.get (l := [(0, _), (6, _), (7, _), (8, _), (9, _), (10, _), (34, _), (35, _)]) ⟨rfl, rfl, rfl, rfl, rfl, rfl, rfl, rfl, trivial⟩⟩⟩
      · refine ZaC (Zag (Zae (goMv rfl rfl (goMv rfl rfl (goMv rfl rfl (goMv rfl rfl (Zab.go (Zbi rfl rfl (IntWalk.i64_in _ (by omega)) rfl) (o_as 60 (.d (natD (best - 1))) rfl (eqv (congrArg intD (by omega))) ?_))))))));refine o_step (st_callX (distances_c (revG g) hrg (noL g) (by rw [hnl, hrl]) i (by rw [hrl]; exact hil) (best - 1) (by omega)) rfl [] trivial rfl rfl rfl rfl (fun r H' ⟨d, h1, h2, h3⟩ => by subst h2 h3; exact ⟨rfl, rfl, rfl⟩) rfl) rfl ?_; rintro _ ⟨r, H', ⟨d, hD, rfl, rfl⟩, rfl⟩;refine goAs rfl rfl (Zaf (Zag (Zag (Zae (goMv rfl rfl (goMv rfl rfl ?_))))))
        first | refine Zab.go (Zam (i) rfl rfl (rfl) (getDl (by rw [hrl]; exact hil)) Try.underlying25 rfl sz3 rfl) ?_ | refine Zab.go (Zal (i) rfl rfl (rfl) (getDl (by rw [hrl]; exact hil)) rfl Try.underlying25 sz3 rfl) ?_
        first | refine Zab.go (Zah rfl rfl on3 rfl) ?_ | refine Zab.go (Zak rfl rfl rfl on3 rfl) ?_ | refine Zab.go (Zaj rfl rfl (rfl) rfl on3 rfl) ?_
        first | refine Zab.go (Zbl rfl rfl rfl) ?_ | refine Zab.go (ZaY rfl rfl rfl) ?_ | refine Zab.go (Za5 rfl rfl rfl) ?_ | refine Zab.go (Za9 Try.underlying3 rfl rfl rfl) ?_ | refine Zab.go (Za6 Try.underlying3 rfl rfl rfl) ?_ | refine Zab.go (Za7 Try.underlying3 rfl rfl) ?_ | refine Zab.go (Za8 Try.underlying3 rfl rfl rfl) ?_ | refine Zab.go (ZaZ Try.underlying3 rfl rfl) ?_
        refine Zaf ?_
        first | refine ZaR rfl (fun h66 => ?_) (fun h66 => ?_) | refine ZaF rfl (fun h66 => ?_) (fun h66 => ?_)
        · refine ZaJ ?_
          first | (have hol2 : out.length = d i := (by have := h77; omega); refine Zbn (emb := natD) 10 3 out rfl rfl rfl rfl rfl rfl rfl ?_) | skip
          refine Zae (Zab.go (ZaL rfl rfl (IntWalk.i64_in _ (by omega)) rfl) (goMv rfl rfl (Zaf ?_)));exact ⟨(i + 1, best, out), ⟨hil, ci_skip hC (ds_no hD (Int.ofNat.inj h66))⟩, by show g.length - (i + 1) < g.length - i; omega, ⟨rfl, rfl, fun _ _ => Has.get (l := [(0, _), (6, _), (7, _), (8, _), (9, _), (10, _), (34, _), (35, _)]) ⟨rfl, rfl, rfl, rfl, rfl, rfl, rfl, rfl, trivial⟩⟩⟩
        · refine ZaC (Zag ?_);have hd0 : d i ≠ 0 := fun e => h66 (congrArg Int.ofNat e);have hdi := (hD.a i hd0).2;refine Zae (goMv rfl rfl (goMv rfl rfl ?_))
          first | refine Zab.go (Zam (i) rfl rfl (rfl) (getDl (by rw [hrl]; exact hil)) Try.underlying25 rfl sz3 rfl) ?_ | refine Zab.go (Zal (i) rfl rfl (rfl) (getDl (by rw [hrl]; exact hil)) rfl Try.underlying25 sz3 rfl) ?_
          first | refine Zab.go (Zah rfl rfl on3 rfl) ?_ | refine Zab.go (Zak rfl rfl rfl on3 rfl) ?_ | refine Zab.go (Zaj rfl rfl (rfl) rfl on3 rfl) ?_
          refine goAs rfl rfl ?_;refine Zaf (Zag (Zae (goMv rfl rfl (Zau.go (ZaN 3 sl25 rfl rfl rfl rfl rfl rfl rfl rfl) (goAs rfl rfl (Zaf (Zag (Zae ?_))))))));refine goMv rfl rfl (goMv rfl rfl (Zab.go (Zbi rfl rfl (IntWalk.i64_in _ (by omega)) rfl) (o_as 75 (.d (natD (d i - 1))) rfl (eqv (congrArg intD (by omega))) (goAs rfl rfl (goAs rfl rfl (Zaf (Zaz (ZaV (α := List Nat) (fun out => ⟨132, [(0, .d (grD g)), (6, (.d (grD (comC g)))), (7, (.d (natsD (noL g)))), (8, (.d (grD (revG g)))), (9, (.d (natD (d i)))), (10, (.own 3 0 out.length)), (11, (.d (natD i))), (12, (.d (natsD ((List.range (revG g).length).map d)))), (13, (.d (natD (nth out (out.length - 1))))), (14, (.d (natD (d i - out.length)))), (34, (.d (natD g.length))), (35, (.d (natD i)))], [(3, [.rowD 3 1 (out.map natD)])]⟩) (fun out => PS g i d (d i) out ∧ out.length ≤ d i) (fun out => d i - out.length) ([i]) (⟨ps_start hil, by show 1 ≤ d i; omega⟩) (Zay hF [3] rfl rfl ⟨rfl, rfl, rfl, rfl, rfl, rfl, rfl, rfl, rfl, rfl, rfl, rfl, trivial⟩) ?_))))))));rintro out ⟨hP, hol⟩;have hlast : nth out (out.length - 1) < g.length := hP.lt _ (Zbv (by have := hP.len; omega));refine Zag (Zag (Zae (goMv rfl rfl ?_)))
          first | refine Zab.go (ZbF rfl rfl rfl) ?_ | refine Zab.go (ZbA rfl rfl rfl) ?_
          refine Zaf ?_
          first | refine ZaR rfl (fun h77 => ?_) (fun h77 => ?_) | refine ZaF rfl (fun h77 => ?_) (fun h77 => ?_)
          · refine ZaC (Zag (Zaz (Zag ?_)));have hlt : out.length < d i := by omega
            have hsl2 := hg.gb.len hlast;have hP1 := hP.len;have hdl := hP.dl (out.length - 1) (by omega);refine Zae (goAs rfl rfl (Zaf (Zag (Zag (Zae (goMv rfl rfl (goMv rfl rfl ?_)))))))
            first | refine Zab.go (Zam (nth out (out.length - 1)) rfl rfl (rfl) (getg hlast) Try.underlying32 rfl sz25 rfl) ?_ | refine Zab.go (Zal (nth out (out.length - 1)) rfl rfl (rfl) (getg hlast) rfl Try.underlying32 sz25 rfl) ?_
            first | refine Zab.go (Zah rfl rfl on25 rfl) ?_ | refine Zab.go (Zak rfl rfl rfl on25 rfl) ?_ | refine Zab.go (Zaj rfl rfl (rfl) rfl on25 rfl) ?_
            refine Zab.go (ZaD rfl (List.length_map ..) Try.underlying25 rfl) (goMv rfl rfl (Zaf (Zaz (ZaV (α := Nat × Option Nat) (fun q => ⟨132, [(0, .d (grD g)), (6, (.d (grD (comC g)))), (7, (.d (natsD (noL g)))), (8, (.d (grD (revG g)))), (9, (.d (natD (d i)))), (10, (.own 3 0 out.length)), (11, (.d (natD i))), (12, (.d (natsD ((List.range (revG g).length).map d)))), (14, (.d (natD (d i - out.length)))), (15, (.d (intD (encO q.2)))), (34, (.d (natD g.length))), (35, (.d (natD i))), (83, (.d (natsD (sucs g (nth out (out.length - 1)))))), (84, (.d (natD (sucs g (nth out (out.length - 1))).length))), (85, (.d (natD q.1)))], [(3, [.rowD 3 1 (out.map natD)])]⟩) (fun q => q.1 ≤ (sucs g (nth out (out.length - 1))).length ∧ SS (noL g) g i d (d i - out.length) ((sucs g (nth out (out.length - 1))).take q.1) q.2) (fun q => (sucs g (nth out (out.length - 1))).length - q.1) ((0, none)) (⟨Nat.zero_le _, ss_start⟩) (Zay hF [3] rfl rfl ⟨rfl, rfl, rfl, rfl, rfl, rfl, rfl, rfl, rfl, rfl, rfl, rfl, rfl, rfl, rfl, trivial⟩) ?_))));rintro ⟨k, o⟩ ⟨hk, hS⟩;dsimp only at hk hS ⊢;refine Zag (Zae ?_)
            first | refine Zab.go (ZaW rfl rfl rfl) ?_ | refine Zab.go (ZaS rfl rfl rfl) ?_
            refine Zaf (Zag ?_)
            first | refine ZaR rfl (fun h86 => ?_) (fun h86 => ?_) | refine ZaF rfl (fun h86 => ?_) (fun h86 => ?_)
            · refine ZaC (Zag (Zaz (Zag ?_)));have hkl : k < (sucs g (nth out (out.length - 1))).length := Zbd h86;have hgn := getn hkl;have hul : nth (sucs g (nth out (out.length - 1))) k < g.length := hg.gb.suc hlast (Zbv hkl);have htk : (sucs g (nth out (out.length - 1))).take k ++ [nth (sucs g (nth out (out.length - 1))) k] = (sucs g (nth out (out.length - 1))).take (k + 1) := by rw [List.take_succ_eq_append_getElem hkl, Zbm hkl]
              obtain ⟨u, hue⟩ : ∃ u, nth (sucs g (nth out (out.length - 1))) k = u := ⟨_, rfl⟩
              rw [hue] at hgn hul htk;have hgu := getn (l := noL g) (k := u) (by rw [hnl]; exact hul);rw [ZbP hul] at hgu;have hno : noC g u = noC g i → nth (noL g) u = nth (noL g) i := fun e => by rw [ZbP hul, ZbP hil]; exact e
              have hon : nth (noL g) u = nth (noL g) i → noC g u = noC g i := fun e => by rw [ZbP hul, ZbP hil] at e; exact e
              refine Zae ?_
              first | refine Zab.go (Zam (k) rfl rfl (rfl) (hgn) Try.underlying25 rfl sz3 rfl) ?_ | refine Zab.go (Zal (k) rfl rfl (rfl) (hgn) rfl Try.underlying25 sz3 rfl) ?_
              first | refine Zab.go (Zah rfl rfl on3 rfl) ?_ | refine Zab.go (Zak rfl rfl rfl on3 rfl) ?_ | refine Zab.go (Zaj rfl rfl (rfl) rfl on3 rfl) ?_
              refine goAs rfl rfl (Zaf (Zag (Zbk [[], [], [0, 1], [0, 1, 2], [0, 1, 2, 3], [0, 1, 2, 3], [0, 1, 2, 3, 4, 5], [0, 1, 2, 3, 4, 5, 6], [0, 1, 2, 3], [0, 1, 2, 3], [0, 1, 2, 3, 8, 9], [0, 1, 2, 3, 8, 9, 10], [0, 1, 2, 3, 4, 5, 6, 7, 8, 9, 10, 11], [0, 1, 2, 3, 4, 5, 6, 7, 8, 9, 10, 11, 12], [0, 1, 2, 3, 4, 5, 6, 7, 8, 9, 10, 11, 12, 13], [0, 1, 2, 3, 4, 5, 6, 7, 8, 9, 10, 11, 12, 13, 14], [0, 1, 2, 3, 4, 5, 6, 7, 8, 9, 10, 11, 12, 13, 14], [0, 1, 2, 3, 4, 5, 6, 7, 8, 9, 10, 11, 12, 13, 14, 15, 16], [0, 1, 2, 3, 4, 5, 6, 7, 8, 9, 10, 11, 12, 13, 14, 15, 16, 17], [0, 1, 2, 3, 4, 5, 6, 7, 8, 9, 10, 11, 12, 13, 14], [0, 1, 2, 3, 4, 5, 6, 7, 8, 9, 10, 11, 12, 13, 14, 15, 16, 17, 18, 19], [0, 1, 2, 3, 4, 5, 6, 7, 8, 9, 10, 11, 12, 13, 14, 15, 16, 17, 18, 19, 20], [0, 1, 2, 3, 4, 5, 6, 7, 8, 9, 10, 11, 12, 13, 14, 15, 16, 17, 18, 19, 20, 21], [0, 1, 2, 3, 4, 5, 6, 7, 8, 9, 10, 11, 12, 13, 14, 15, 16, 17, 18, 19, 20, 21, 22], [0, 1, 2, 3, 4, 5, 6, 7, 8, 9, 10, 11, 12, 13, 14, 15, 16, 17, 18, 19, 20, 21, 22, 23], [0, 1, 2, 3, 4, 5, 6, 7, 8, 9, 10, 11, 12, 13, 14, 15, 16, 17, 18, 19, 20, 21, 22, 23, 24], [0, 1, 2, 3, 4, 5, 6, 7, 8, 9, 10, 11, 12, 13, 14, 15, 16, 17, 18, 19, 20, 21, 22, 23, 24, 25], [0, 1, 2, 3, 4, 5, 6, 7, 8, 9, 10, 11, 12, 13, 14, 15, 16, 17, 18, 19, 20, 21, 22, 23, 24, 25], [0, 1, 2, 3, 4, 5, 6, 7, 8, 9, 10, 11, 12, 13, 14, 15, 16, 17, 18, 19, 20, 21, 22, 23, 24, 25, 26, 27], [0, 1, 2, 3, 4, 5, 6, 7, 8, 9, 10, 11, 12, 13, 14, 15, 16, 17, 18, 19, 20, 21, 22, 23, 24, 25, 26, 27, 28], [0, 1, 2, 3, 4, 5, 6, 7, 8, 9, 10, 11, 12, 13, 14, 15, 16, 17, 18, 19, 20, 21, 22, 23, 24, 25, 26, 27, 28, 29]] mixed rfl (dws ?_))))
              first | refine Zad [17] [] rfl rfl (fun _ => Zaa (Zai rfl rfl)) ?_ | refine Zac [17] rfl rfl (fun _ => Zaa (Zai rfl rfl)) ?_
              first | refine Zad [11] [] rfl rfl (fun _ => Zaa (Zai rfl rfl)) ?_ | refine Zac [11] rfl rfl (fun _ => Zaa (Zai rfl rfl)) ?_
              refine dwc 2 rfl rfl rfl (dw1 3 rfl rfl ?_)
              first | refine Zab.go (ZbF rfl rfl rfl) ?_ | refine Zab.go (ZbA rfl rfl rfl) ?_
              refine Zaf ⟨rfl, ?_⟩;refine dw1 4 rfl rfl (goMv rfl rfl ?_)
              first | refine Zbt 92 rfl (fun h92 => ?_) (fun h92 => ?_) | refine Zbr 92 rfl (fun h92 => ?_) (fun h92 => ?_)
              · refine Zaf ⟨rfl, ?_⟩;refine dws ?_
                first | refine Zad [7, 92] [] rfl rfl (fun _ => ZaA rfl rfl rfl (Zai rfl rfl)) ?_ | refine Zac [7, 92] rfl rfl (fun _ => ZaA rfl rfl rfl (Zai rfl rfl)) ?_
                first | refine Zad [17, 92] [] rfl rfl (fun _ => ZaA rfl rfl rfl (Zai rfl rfl)) ?_ | refine Zac [17, 92] rfl rfl (fun _ => ZaA rfl rfl rfl (Zai rfl rfl)) ?_
                first | refine Zad [93, 94, 92] [] rfl rfl (fun _ => ZaA rfl rfl rfl (Zam (u) rfl rfl (rfl) (hgu) Try.underlying25 rfl sz3 rfl)) ?_ | refine Zac [93, 94, 92] rfl rfl (fun _ => ZaA rfl rfl rfl (Zam (u) rfl rfl (rfl) (hgu) Try.underlying25 rfl sz3 rfl)) ?_ | refine Zad [93, 94, 92] [] rfl rfl (fun _ => ZaA rfl rfl rfl (Zal (u) rfl rfl (rfl) (hgu) rfl Try.underlying25 sz3 rfl)) ?_ | refine Zac [93, 94, 92] rfl rfl (fun _ => ZaA rfl rfl rfl (Zal (u) rfl rfl (rfl) (hgu) rfl Try.underlying25 sz3 rfl)) ?_
                first | refine Zad [95, 92] [] rfl rfl (fun _ => ZaA rfl rfl rfl (Zah rfl rfl on3 rfl)) ?_ | refine Zac [95, 92] rfl rfl (fun _ => ZaA rfl rfl rfl (Zah rfl rfl on3 rfl)) ?_ | refine Zad [95, 92] [] rfl rfl (fun _ => ZaA rfl rfl rfl (Zak rfl rfl rfl on3 rfl)) ?_ | refine Zac [95, 92] rfl rfl (fun _ => ZaA rfl rfl rfl (Zak rfl rfl rfl on3 rfl)) ?_ | refine Zad [95, 92] [] rfl rfl (fun _ => ZaA rfl rfl rfl (Zaj rfl rfl (rfl) rfl on3 rfl)) ?_ | refine Zac [95, 92] rfl rfl (fun _ => ZaA rfl rfl rfl (Zaj rfl rfl (rfl) rfl on3 rfl)) ?_
                first | refine Zad [7, 92] [] rfl rfl (fun _ => ZaA rfl rfl rfl (Zai rfl rfl)) ?_ | refine Zac [7, 92] rfl rfl (fun _ => ZaA rfl rfl rfl (Zai rfl rfl)) ?_
                first | refine Zad [11, 92] [] rfl rfl (fun _ => ZaA rfl rfl rfl (Zai rfl rfl)) ?_ | refine Zac [11, 92] rfl rfl (fun _ => ZaA rfl rfl rfl (Zai rfl rfl)) ?_
                first | refine Zad [97, 98, 92] [] rfl rfl (fun _ => ZaA rfl rfl rfl (Zam (i) rfl rfl (rfl) (hgi) Try.underlying25 rfl sz3 rfl)) ?_ | refine Zac [97, 98, 92] rfl rfl (fun _ => ZaA rfl rfl rfl (Zam (i) rfl rfl (rfl) (hgi) Try.underlying25 rfl sz3 rfl)) ?_ | refine Zad [97, 98, 92] [] rfl rfl (fun _ => ZaA rfl rfl rfl (Zal (i) rfl rfl (rfl) (hgi) rfl Try.underlying25 sz3 rfl)) ?_ | refine Zac [97, 98, 92] rfl rfl (fun _ => ZaA rfl rfl rfl (Zal (i) rfl rfl (rfl) (hgi) rfl Try.underlying25 sz3 rfl)) ?_
                first | refine Zad [99, 92] [] rfl rfl (fun _ => ZaA rfl rfl rfl (Zah rfl rfl on3 rfl)) ?_ | refine Zac [99, 92] rfl rfl (fun _ => ZaA rfl rfl rfl (Zah rfl rfl on3 rfl)) ?_ | refine Zad [99, 92] [] rfl rfl (fun _ => ZaA rfl rfl rfl (Zak rfl rfl rfl on3 rfl)) ?_ | refine Zac [99, 92] rfl rfl (fun _ => ZaA rfl rfl rfl (Zak rfl rfl rfl on3 rfl)) ?_ | refine Zad [99, 92] [] rfl rfl (fun _ => ZaA rfl rfl rfl (Zaj rfl rfl (rfl) rfl on3 rfl)) ?_ | refine Zac [99, 92] rfl rfl (fun _ => ZaA rfl rfl rfl (Zaj rfl rfl (rfl) rfl on3 rfl)) ?_
                refine dwc 12 rfl rfl rfl (dw1 13 rfl rfl (ZaH rfl rfl rfl ?_))
                first | refine Zab.go (Zbl rfl rfl rfl) ?_ | refine Zab.go (ZaY rfl rfl rfl) ?_ | refine Zab.go (Za5 rfl rfl rfl) ?_ | refine Zab.go (Za9 Try.underlying3 rfl rfl rfl) ?_ | refine Zab.go (Za6 Try.underlying3 rfl rfl rfl) ?_ | refine Zab.go (Za7 Try.underlying3 rfl rfl) ?_ | refine Zab.go (Za8 Try.underlying3 rfl rfl rfl) ?_ | refine Zab.go (ZaZ Try.underlying3 rfl rfl) ?_
                refine Zaf ⟨rfl, ?_⟩;refine dw1 14 rfl rfl (Zab.go (Za3 rfl rfl rfl rfl) (Zaf ⟨rfl, ?_⟩));refine dw1 15 rfl rfl (goMv rfl rfl ?_)
                first | refine Zbt 103 rfl (fun h103 => ?_) (fun h103 => ?_) | refine Zbr 103 rfl (fun h103 => ?_) (fun h103 => ?_)
                · refine Zaf ⟨rfl, ?_⟩;refine dws ?_
                  first | refine Zad [12, 103] [] rfl rfl (fun _ => ZaA rfl rfl rfl (Zai rfl rfl)) ?_ | refine Zac [12, 103] rfl rfl (fun _ => ZaA rfl rfl rfl (Zai rfl rfl)) ?_
                  first | refine Zad [17, 103] [] rfl rfl (fun _ => ZaA rfl rfl rfl (Zai rfl rfl)) ?_ | refine Zac [17, 103] rfl rfl (fun _ => ZaA rfl rfl rfl (Zai rfl rfl)) ?_
                  first | refine Zad [104, 105, 103] [] rfl rfl (fun _ => ZaA rfl rfl rfl (Zam (u) rfl rfl (rfl) (getDl (by rw [hrl]; exact hul)) Try.underlying25 rfl sz3 rfl)) ?_ | refine Zac [104, 105, 103] rfl rfl (fun _ => ZaA rfl rfl rfl (Zam (u) rfl rfl (rfl) (getDl (by rw [hrl]; exact hul)) Try.underlying25 rfl sz3 rfl)) ?_ | refine Zad [104, 105, 103] [] rfl rfl (fun _ => ZaA rfl rfl rfl (Zal (u) rfl rfl (rfl) (getDl (by rw [hrl]; exact hul)) rfl Try.underlying25 sz3 rfl)) ?_ | refine Zac [104, 105, 103] rfl rfl (fun _ => ZaA rfl rfl rfl (Zal (u) rfl rfl (rfl) (getDl (by rw [hrl]; exact hul)) rfl Try.underlying25 sz3 rfl)) ?_
                  first | refine Zad [106, 103] [] rfl rfl (fun _ => ZaA rfl rfl rfl (Zah rfl rfl on3 rfl)) ?_ | refine Zac [106, 103] rfl rfl (fun _ => ZaA rfl rfl rfl (Zah rfl rfl on3 rfl)) ?_ | refine Zad [106, 103] [] rfl rfl (fun _ => ZaA rfl rfl rfl (Zak rfl rfl rfl on3 rfl)) ?_ | refine Zac [106, 103] rfl rfl (fun _ => ZaA rfl rfl rfl (Zak rfl rfl rfl on3 rfl)) ?_ | refine Zad [106, 103] [] rfl rfl (fun _ => ZaA rfl rfl rfl (Zaj rfl rfl (rfl) rfl on3 rfl)) ?_ | refine Zac [106, 103] rfl rfl (fun _ => ZaA rfl rfl rfl (Zaj rfl rfl (rfl) rfl on3 rfl)) ?_
                  first | refine Zad [14, 103] [] rfl rfl (fun _ => ZaA rfl rfl rfl (Zai rfl rfl)) ?_ | refine Zac [14, 103] rfl rfl (fun _ => ZaA rfl rfl rfl (Zai rfl rfl)) ?_
                  refine dwc 20 rfl rfl rfl (dw1 21 rfl rfl (ZaH rfl rfl rfl ?_))
                  first | refine Zab.go (Zbl rfl rfl rfl) ?_ | refine Zab.go (ZaY rfl rfl rfl) ?_ | refine Zab.go (Za5 rfl rfl rfl) ?_ | refine Zab.go (Za9 Try.underlying3 rfl rfl rfl) ?_ | refine Zab.go (Za6 Try.underlying3 rfl rfl rfl) ?_ | refine Zab.go (Za7 Try.underlying3 rfl rfl) ?_ | refine Zab.go (Za8 Try.underlying3 rfl rfl rfl) ?_ | refine Zab.go (ZaZ Try.underlying3 rfl rfl) ?_
                  refine Zaf ⟨rfl, ?_⟩;refine dw1 22 rfl rfl (Zab.go (Za3 rfl rfl rfl rfl) (Zaf ⟨rfl, ?_⟩));refine dw1 23 rfl rfl (goMv rfl rfl ?_)
                  first | refine Zbt 111 rfl (fun h111 => ?_) (fun h111 => ?_) | refine Zbr 111 rfl (fun h111 => ?_) (fun h111 => ?_)
                  · refine Zaf ⟨rfl, ?_⟩;refine dw1 24 rfl rfl (ZaH rfl rfl rfl (goMv rfl rfl (Zaf ⟨rfl, ?_⟩)));refine dw1 25 rfl rfl (ZaH rfl rfl rfl ?_)
                    first | refine Zab.go (ZaW rfl rfl rfl) ?_ | refine Zab.go (ZaS rfl rfl rfl) ?_
                    refine Zaf ⟨rfl, ?_⟩;refine dw1 26 rfl rfl (ZaH rfl rfl rfl (goMv rfl rfl ?_))
                    first | refine Zbt 114 rfl (fun h114 => ?_) (fun h114 => ?_) | refine Zbr 114 rfl (fun h114 => ?_) (fun h114 => ?_)
                    · refine Zaf ⟨rfl, ?_⟩;refine dws (Zad [17, 114] [] rfl rfl (fun _ => ZaT rfl rfl rfl rfl) (Zad [15, 114] [] rfl rfl (fun _ => ZaT rfl rfl rfl rfl) (dwc 28 rfl rfl rfl (dw1 29 rfl rfl (ZaG rfl rfl rfl rfl (Zaf ⟨rfl, ?_⟩))))));refine dw1 30 rfl rfl (ZaH rfl rfl rfl (Zab.go (Za3 rfl rfl rfl rfl) (Zaf ⟨rfl, ?_⟩)));refine dw1 31 rfl rfl (Zab.go (Za3 rfl rfl rfl rfl) (Zaf ⟨rfl, ?_⟩));refine dwe ?_;refine a_true rfl rfl (Zae (goMv rfl rfl (goAs rfl rfl (Zaf (Zae (Zab.go (ZaL rfl rfl (IntWalk.i64_in _ (by omega)) rfl) (goMv rfl rfl (Zaf ?_))))))));exact ⟨(k + 1, some u), ⟨hkl, htk ▸ ss_take hS ⟨Int.ofNat_lt.1 h92, hno (Int.ofNat.inj h103), Int.ofNat.inj h111⟩ (enc_neg h114)⟩, by show (sucs g (nth out (out.length - 1))).length - (k + 1) < (sucs g (nth out (out.length - 1))).length - k; omega, Zay hF [3] rfl (rfl) ⟨rfl, rfl, rfl, rfl, rfl, rfl, rfl, rfl, rfl, rfl, rfl, rfl, rfl, rfl, rfl, trivial⟩⟩
                    · refine Zaf ⟨rfl, ?_⟩;refine dws ?_
                      first | refine Zad [17, 114] [] rfl rfl (fun _ => ZaA rfl rfl rfl (Zai rfl rfl)) ?_ | refine Zac [17, 114] rfl rfl (fun _ => ZaA rfl rfl rfl (Zai rfl rfl)) ?_
                      first | refine Zad [15, 114] [] rfl rfl (fun _ => ZaA rfl rfl rfl (Zai rfl rfl)) ?_ | refine Zac [15, 114] rfl rfl (fun _ => ZaA rfl rfl rfl (Zai rfl rfl)) ?_
                      refine dwc 28 rfl rfl rfl (dw1 29 rfl rfl (ZaH rfl rfl rfl ?_))
                      first | refine Zab.go (ZaW rfl rfl rfl) ?_ | refine Zab.go (ZaS rfl rfl rfl) ?_
                      refine Zaf ⟨rfl, ?_⟩;refine dw1 30 rfl rfl (ZaH rfl rfl rfl (Zab.go (Za2 rfl rfl rfl rfl) (Zaf ⟨rfl, ?_⟩)));refine dw1 31 rfl rfl (Zab.go (Za3 rfl rfl rfl rfl) (Zaf ⟨rfl, ?_⟩));refine dwe ?_
                      first | refine ZaR rfl (fun h119 => ?_) (fun h119 => ?_) | refine ZaF rfl (fun h119 => ?_) (fun h119 => ?_)
                      · refine Zae (goMv rfl rfl (goAs rfl rfl (Zaf (Zae (Zab.go (ZaL rfl rfl (IntWalk.i64_in _ (by omega)) rfl) (goMv rfl rfl (Zaf ?_)))))));exact ⟨(k + 1, some u), ⟨hkl, htk ▸ ss_take hS ⟨Int.ofNat_lt.1 h92, hno (Int.ofNat.inj h103), Int.ofNat.inj h111⟩ (enc_lt h119)⟩, by show (sucs g (nth out (out.length - 1))).length - (k + 1) < (sucs g (nth out (out.length - 1))).length - k; omega, Zay hF [3] rfl (rfl) ⟨rfl, rfl, rfl, rfl, rfl, rfl, rfl, rfl, rfl, rfl, rfl, rfl, rfl, rfl, rfl, trivial⟩⟩
                      · refine ZaC (Zae (Zab.go (ZaL rfl rfl (IntWalk.i64_in _ (by omega)) rfl) (goMv rfl rfl (Zaf ?_))));exact ⟨(k + 1, o), ⟨hkl, htk ▸ ss_skip hS (fun h => enc_ge h114 h119 h.2)⟩, by show (sucs g (nth out (out.length - 1))).length - (k + 1) < (sucs g (nth out (out.length - 1))).length - k; omega, Zay hF [3] rfl (rfl) ⟨rfl, rfl, rfl, rfl, rfl, rfl, rfl, rfl, rfl, rfl, rfl, rfl, rfl, rfl, rfl, trivial⟩⟩
                  · refine Zaf ⟨rfl, ?_⟩;refine dw1 24 rfl rfl (ZaG rfl rfl rfl rfl (Zaf ⟨rfl, ?_⟩));refine dw1 25 rfl rfl (ZaG rfl rfl rfl rfl (Zaf ⟨rfl, ?_⟩));refine dw1 26 rfl rfl (ZaG rfl rfl rfl rfl (Zaf ⟨rfl, ?_⟩));refine dws (Zad [17, 114] [] rfl rfl (fun _ => ZbT rfl rfl rfl) (Zad [15, 114] [] rfl rfl (fun _ => ZbT rfl rfl rfl) (dwc 28 rfl rfl rfl (dw1 29 rfl rfl (o_passU rfl rfl rfl (Zaf ⟨rfl, ?_⟩))))));refine dw1 30 rfl rfl (ZaG rfl rfl rfl rfl (Zaf ⟨rfl, ?_⟩));refine dw1 31 rfl rfl (Zab.go (Za2 rfl rfl rfl rfl) (Zaf ⟨rfl, ?_⟩));refine dwe (Zbj rfl rfl (ZaC (Zae (Zab.go (ZaL rfl rfl (IntWalk.i64_in _ (by omega)) rfl) (goMv rfl rfl (Zaf ?_))))));exact ⟨(k + 1, o), ⟨hkl, htk ▸ ss_skip hS (fun h => h111 (congrArg Int.ofNat h.1.2.2))⟩, by show (sucs g (nth out (out.length - 1))).length - (k + 1) < (sucs g (nth out (out.length - 1))).length - k; omega, Zay hF [3] rfl (rfl) ⟨rfl, rfl, rfl, rfl, rfl, rfl, rfl, rfl, rfl, rfl, rfl, rfl, rfl, rfl, rfl, trivial⟩⟩
                · refine Zaf ⟨rfl, ?_⟩;refine dws ?_;refine Zad [12, 103] [] rfl rfl (fun _ => ZaT rfl rfl rfl rfl) (Zad [17, 103] [] rfl rfl (fun _ => ZaT rfl rfl rfl rfl) (Zad [104, 105, 103] [] rfl rfl (fun _ => ZaT rfl rfl rfl rfl) (Zad [106, 103] [] rfl rfl (fun _ => ZaT rfl rfl rfl rfl) (Zad [14, 103] [] rfl rfl (fun _ => ZaT rfl rfl rfl rfl) (dwc 20 rfl rfl rfl (dw1 21 rfl rfl (ZaG rfl rfl rfl rfl (Zaf ⟨rfl, ?_⟩))))))));refine dw1 22 rfl rfl (Zab.go (Za2 rfl rfl rfl rfl) (Zaf ⟨rfl, ?_⟩));refine dw1 23 rfl rfl (goMv rfl rfl (Zaf ⟨rfl, ?_⟩));refine dw1 24 rfl rfl (ZaG rfl rfl rfl rfl (Zaf ⟨rfl, ?_⟩));refine dw1 25 rfl rfl (ZaG rfl rfl rfl rfl (Zaf ⟨rfl, ?_⟩));refine dw1 26 rfl rfl (ZaG rfl rfl rfl rfl (Zaf ⟨rfl, ?_⟩));refine dws (Zad [17, 114] [] rfl rfl (fun _ => ZbT rfl rfl rfl) (Zad [15, 114] [] rfl rfl (fun _ => ZbT rfl rfl rfl) (dwc 28 rfl rfl rfl (dw1 29 rfl rfl (o_passU rfl rfl rfl (Zaf ⟨rfl, ?_⟩))))));refine dw1 30 rfl rfl (ZaG rfl rfl rfl rfl (Zaf ⟨rfl, ?_⟩));refine dw1 31 rfl rfl (Zab.go (Za2 rfl rfl rfl rfl) (Zaf ⟨rfl, ?_⟩));refine dwe (Zbj rfl rfl (ZaC (Zae (Zab.go (ZaL rfl rfl (IntWalk.i64_in _ (by omega)) rfl) (goMv rfl rfl (Zaf ?_))))));exact ⟨(k + 1, o), ⟨hkl, htk ▸ ss_skip hS (fun h => h103 (congrArg Int.ofNat (hon h.1.2.1)))⟩, by show (sucs g (nth out (out.length - 1))).length - (k + 1) < (sucs g (nth out (out.length - 1))).length - k; omega, Zay hF [3] rfl (rfl) ⟨rfl, rfl, rfl, rfl, rfl, rfl, rfl, rfl, rfl, rfl, rfl, rfl, rfl, rfl, rfl, trivial⟩⟩
              · refine Zaf ⟨rfl, ?_⟩;refine dws (Zad [7, 92] [] rfl rfl (fun _ => ZaT rfl rfl rfl rfl) (Zad [17, 92] [] rfl rfl (fun _ => ZaT rfl rfl rfl rfl) (Zad [93, 94, 92] [] rfl rfl (fun _ => ZaT rfl rfl rfl rfl) ?_)));refine Zad [95, 92] [] rfl rfl (fun _ => ZaT rfl rfl rfl rfl) (Zad [7, 92] [] rfl rfl (fun _ => ZaT rfl rfl rfl rfl) (Zad [11, 92] [] rfl rfl (fun _ => ZaT rfl rfl rfl rfl) (Zad [97, 98, 92] [] rfl rfl (fun _ => ZaT rfl rfl rfl rfl) (Zad [99, 92] [] rfl rfl (fun _ => ZaT rfl rfl rfl rfl) (dwc 12 rfl rfl rfl (dw1 13 rfl rfl (ZaG rfl rfl rfl rfl (Zaf ⟨rfl, ?_⟩))))))));refine dw1 14 rfl rfl (Zab.go (Za2 rfl rfl rfl rfl) (Zaf ⟨rfl, ?_⟩));refine dw1 15 rfl rfl (goMv rfl rfl (Zaf ⟨rfl, ?_⟩));refine dws ?_;refine Zad [12, 103] [] rfl rfl (fun _ => ZaT rfl rfl rfl rfl) (Zad [17, 103] [] rfl rfl (fun _ => ZaT rfl rfl rfl rfl) (Zad [104, 105, 103] [] rfl rfl (fun _ => ZaT rfl rfl rfl rfl) (Zad [106, 103] [] rfl rfl (fun _ => ZaT rfl rfl rfl rfl) (Zad [14, 103] [] rfl rfl (fun _ => ZaT rfl rfl rfl rfl) (dwc 20 rfl rfl rfl (dw1 21 rfl rfl (ZaG rfl rfl rfl rfl (Zaf ⟨rfl, ?_⟩))))))));refine dw1 22 rfl rfl (Zab.go (Za2 rfl rfl rfl rfl) (Zaf ⟨rfl, ?_⟩));refine dw1 23 rfl rfl (goMv rfl rfl (Zaf ⟨rfl, ?_⟩));refine dw1 24 rfl rfl (ZaG rfl rfl rfl rfl (Zaf ⟨rfl, ?_⟩));refine dw1 25 rfl rfl (ZaG rfl rfl rfl rfl (Zaf ⟨rfl, ?_⟩));refine dw1 26 rfl rfl (ZaG rfl rfl rfl rfl (Zaf ⟨rfl, ?_⟩));refine dws (Zad [17, 114] [] rfl rfl (fun _ => ZbT rfl rfl rfl) (Zad [15, 114] [] rfl rfl (fun _ => ZbT rfl rfl rfl) (dwc 28 rfl rfl rfl (dw1 29 rfl rfl (o_passU rfl rfl rfl (Zaf ⟨rfl, ?_⟩))))));refine dw1 30 rfl rfl (ZaG rfl rfl rfl rfl (Zaf ⟨rfl, ?_⟩));refine dw1 31 rfl rfl (Zab.go (Za2 rfl rfl rfl rfl) (Zaf ⟨rfl, ?_⟩));refine dwe (Zbj rfl rfl (ZaC (Zae (Zab.go (ZaL rfl rfl (IntWalk.i64_in _ (by omega)) rfl) (goMv rfl rfl (Zaf ?_))))));exact ⟨(k + 1, o), ⟨hkl, htk ▸ ss_skip hS (fun h => h92 (Int.ofNat_lt.2 h.1.1))⟩, by show (sucs g (nth out (out.length - 1))).length - (k + 1) < (sucs g (nth out (out.length - 1))).length - k; omega, Zay hF [3] rfl (rfl) ⟨rfl, rfl, rfl, rfl, rfl, rfl, rfl, rfl, rfl, rfl, rfl, rfl, rfl, rfl, rfl, trivial⟩⟩
            · refine ZaJ (Zag ?_);have hke : k = (sucs g (nth out (out.length - 1))).length := by have := h86; omega
              subst hke;rw [List.take_length] at hS;obtain ⟨u, hu⟩ := ss_some (lim := 0) hS (cand_ex hD hil hlast (by omega) (by omega) (by omega));subst hu;refine Zae (goMv rfl rfl (goMv rfl rfl (Zau.go (ZaN 22 sl25 rfl rfl rfl rfl rfl rfl rfl rfl) (Zau.go (ZbR (emb := natD) out [u] rfl rfl rfl rfl rfl rfl rfl rfl sl25 (by show (out.length + 1) * 8 ≤ _; omega) rfl rfl rfl rfl) (goAs rfl rfl (Zaf (Zae (goMv rfl rfl ?_))))))));refine o_as 126 (.d (natD (nth (out ++ [u]) ((out ++ [u]).length - 1)))) rfl (by rw [show nth (out ++ [u]) ((out ++ [u]).length - 1) = u by simp [nth]]; rfl) (goAs rfl rfl (Zaf (Zae (goMv rfl rfl (Zab.go (Zbi rfl rfl (IntWalk.i64_in _ (by omega)) rfl) (o_as 79 (.d (natD (d i - (out ++ [u]).length))) rfl (eqv (congrArg intD (by rw [List.length_append, List.length_singleton]; omega))) (goAs rfl rfl (Zaf ?_))))))));exact ⟨out ++ [u], ⟨(ps_next hg.gb hP hS).1, by rw [List.length_append, List.length_singleton]; omega⟩, by rw [List.length_append, List.length_singleton]; omega, Zay hF [3] rfl (rfl) ⟨rfl, rfl, rfl, rfl, rfl, rfl, rfl, rfl, rfl, rfl, rfl, rfl, trivial⟩⟩
          · refine ZaJ ?_
            first | (have hol2 : out.length = d i := (by have := h77; omega); refine Zbn (emb := natD) 10 3 out rfl rfl rfl rfl rfl rfl rfl ?_) | skip
            refine Zae (Zab.go (ZaL rfl rfl (IntWalk.i64_in _ (by omega)) rfl) (goMv rfl rfl (Zaf ?_)));exact ⟨(i + 1, d i, out), ⟨hil, ci_new hC hil hD hd0 hP (by omega)⟩, by show g.length - (i + 1) < g.length - i; omega, ⟨rfl, rfl, fun _ _ => Has.get (l := [(0, _), (6, _), (7, _), (8, _), (9, _), (10, _), (34, _), (35, _)]) ⟨rfl, rfl, rfl, rfl, rfl, rfl, rfl, rfl, trivial⟩⟩⟩
    · refine ZaG rfl rfl rfl rfl ?_;refine ZaG rfl rfl rfl rfl (ZaG rfl rfl rfl rfl (ZaG rfl rfl rfl rfl (ZaG rfl rfl rfl rfl (ZaG rfl rfl rfl rfl (ZaG rfl rfl rfl rfl (Zab.go (Za2 rfl rfl rfl rfl) (Zaf (Zbj rfl rfl ?_))))))));refine ZaC (Zag (Zae (goMv rfl rfl (goMv rfl rfl (goMv rfl rfl (goMv rfl rfl (Zab.go (Zbi rfl rfl (IntWalk.i64_in _ (by omega)) rfl) (o_as 60 (.d (natD (best - 1))) rfl (eqv (congrArg intD (by omega))) ?_))))))));refine o_step (st_callX (distances_c (revG g) hrg (noL g) (by rw [hnl, hrl]) i (by rw [hrl]; exact hil) (best - 1) (by omega)) rfl [] trivial rfl rfl rfl rfl (fun r H' ⟨d, h1, h2, h3⟩ => by subst h2 h3; exact ⟨rfl, rfl, rfl⟩) rfl) rfl ?_; rintro _ ⟨r, H', ⟨d, hD, rfl, rfl⟩, rfl⟩;refine goAs rfl rfl (Zaf (Zag (Zag (Zae (goMv rfl rfl (goMv rfl rfl ?_))))))
      first | refine Zab.go (Zam (i) rfl rfl (rfl) (getDl (by rw [hrl]; exact hil)) Try.underlying25 rfl sz3 rfl) ?_ | refine Zab.go (Zal (i) rfl rfl (rfl) (getDl (by rw [hrl]; exact hil)) rfl Try.underlying25 sz3 rfl) ?_
      first | refine Zab.go (Zah rfl rfl on3 rfl) ?_ | refine Zab.go (Zak rfl rfl rfl on3 rfl) ?_ | refine Zab.go (Zaj rfl rfl (rfl) rfl on3 rfl) ?_
      first | refine Zab.go (Zbl rfl rfl rfl) ?_ | refine Zab.go (ZaY rfl rfl rfl) ?_ | refine Zab.go (Za5 rfl rfl rfl) ?_ | refine Zab.go (Za9 Try.underlying3 rfl rfl rfl) ?_ | refine Zab.go (Za6 Try.underlying3 rfl rfl rfl) ?_ | refine Zab.go (Za7 Try.underlying3 rfl rfl) ?_ | refine Zab.go (Za8 Try.underlying3 rfl rfl rfl) ?_ | refine Zab.go (ZaZ Try.underlying3 rfl rfl) ?_
      refine Zaf ?_
      first | refine ZaR rfl (fun h66 => ?_) (fun h66 => ?_) | refine ZaF rfl (fun h66 => ?_) (fun h66 => ?_)
      · refine ZaJ ?_
        first | (have hol2 : out.length = d i := (by have := h77; omega); refine Zbn (emb := natD) 10 3 out rfl rfl rfl rfl rfl rfl rfl ?_) | skip
        refine Zae (Zab.go (ZaL rfl rfl (IntWalk.i64_in _ (by omega)) rfl) (goMv rfl rfl (Zaf ?_)));exact ⟨(i + 1, best, out), ⟨hil, ci_skip hC (ds_no hD (Int.ofNat.inj h66))⟩, by show g.length - (i + 1) < g.length - i; omega, ⟨rfl, rfl, fun _ _ => Has.get (l := [(0, _), (6, _), (7, _), (8, _), (9, _), (10, _), (34, _), (35, _)]) ⟨rfl, rfl, rfl, rfl, rfl, rfl, rfl, rfl, trivial⟩⟩⟩
      · refine ZaC (Zag ?_);have hd0 : d i ≠ 0 := fun e => h66 (congrArg Int.ofNat e);have hdi := (hD.a i hd0).2;refine Zae (goMv rfl rfl (goMv rfl rfl ?_))
        first | refine Zab.go (Zam (i) rfl rfl (rfl) (getDl (by rw [hrl]; exact hil)) Try.underlying25 rfl sz3 rfl) ?_ | refine Zab.go (Zal (i) rfl rfl (rfl) (getDl (by rw [hrl]; exact hil)) rfl Try.underlying25 sz3 rfl) ?_
        first | refine Zab.go (Zah rfl rfl on3 rfl) ?_ | refine Zab.go (Zak rfl rfl rfl on3 rfl) ?_ | refine Zab.go (Zaj rfl rfl (rfl) rfl on3 rfl) ?_
        refine goAs rfl rfl ?_;refine Zaf (Zag (Zae (goMv rfl rfl (Zau.go (ZaN 3 sl25 rfl rfl rfl rfl rfl rfl rfl rfl) (goAs rfl rfl (Zaf (Zag (Zae ?_))))))));refine goMv rfl rfl (goMv rfl rfl (Zab.go (Zbi rfl rfl (IntWalk.i64_in _ (by omega)) rfl) (o_as 75 (.d (natD (d i - 1))) rfl (eqv (congrArg intD (by omega))) (goAs rfl rfl (goAs rfl rfl (Zaf (Zaz (ZaV (α := List Nat) (fun out => ⟨132, [(0, .d (grD g)), (6, (.d (grD (comC g)))), (7, (.d (natsD (noL g)))), (8, (.d (grD (revG g)))), (9, (.d (natD (d i)))), (10, (.own 3 0 out.length)), (11, (.d (natD i))), (12, (.d (natsD ((List.range (revG g).length).map d)))), (13, (.d (natD (nth out (out.length - 1))))), (14, (.d (natD (d i - out.length)))), (34, (.d (natD g.length))), (35, (.d (natD i)))], [(3, [.rowD 3 1 (out.map natD)])]⟩) (fun out => PS g i d (d i) out ∧ out.length ≤ d i) (fun out => d i - out.length) ([i]) (⟨ps_start hil, by show 1 ≤ d i; omega⟩) (Zay hF [3] rfl rfl ⟨rfl, rfl, rfl, rfl, rfl, rfl, rfl, rfl, rfl, rfl, rfl, rfl, trivial⟩) ?_))))))));rintro out ⟨hP, hol⟩;have hlast : nth out (out.length - 1) < g.length := hP.lt _ (Zbv (by have := hP.len; omega));refine Zag (Zag (Zae (goMv rfl rfl ?_)))
        first | refine Zab.go (ZbF rfl rfl rfl) ?_ | refine Zab.go (ZbA rfl rfl rfl) ?_
        refine Zaf ?_
        first | refine ZaR rfl (fun h77 => ?_) (fun h77 => ?_) | refine ZaF rfl (fun h77 => ?_) (fun h77 => ?_)
        · refine ZaC (Zag (Zaz (Zag ?_)));have hlt : out.length < d i := by omega
          have hsl2 := hg.gb.len hlast;have hP1 := hP.len;have hdl := hP.dl (out.length - 1) (by omega);refine Zae (goAs rfl rfl (Zaf (Zag (Zag (Zae (goMv rfl rfl (goMv rfl rfl ?_)))))))
          first | refine Zab.go (Zam (nth out (out.length - 1)) rfl rfl (rfl) (getg hlast) Try.underlying32 rfl sz25 rfl) ?_ | refine Zab.go (Zal (nth out (out.length - 1)) rfl rfl (rfl) (getg hlast) rfl Try.underlying32 sz25 rfl) ?_
          first | refine Zab.go (Zah rfl rfl on25 rfl) ?_ | refine Zab.go (Zak rfl rfl rfl on25 rfl) ?_ | refine Zab.go (Zaj rfl rfl (rfl) rfl on25 rfl) ?_
          refine Zab.go (ZaD rfl (List.length_map ..) Try.underlying25 rfl) (goMv rfl rfl (Zaf (Zaz (ZaV (α := Nat × Option Nat) (fun q => ⟨132, [(0, .d (grD g)), (6, (.d (grD (comC g)))), (7, (.d (natsD (noL g)))), (8, (.d (grD (revG g)))), (9, (.d (natD (d i)))), (10, (.own 3 0 out.length)), (11, (.d (natD i))), (12, (.d (natsD ((List.range (revG g).length).map d)))), (14, (.d (natD (d i - out.length)))), (15, (.d (intD (encO q.2)))), (34, (.d (natD g.length))), (35, (.d (natD i))), (83, (.d (natsD (sucs g (nth out (out.length - 1)))))), (84, (.d (natD (sucs g (nth out (out.length - 1))).length))), (85, (.d (natD q.1)))], [(3, [.rowD 3 1 (out.map natD)])]⟩) (fun q => q.1 ≤ (sucs g (nth out (out.length - 1))).length ∧ SS (noL g) g i d (d i - out.length) ((sucs g (nth out (out.length - 1))).take q.1) q.2) (fun q => (sucs g (nth out (out.length - 1))).length - q.1) ((0, none)) (⟨Nat.zero_le _, ss_start⟩) (Zay hF [3] rfl rfl ⟨rfl, rfl, rfl, rfl, rfl, rfl, rfl, rfl, rfl, rfl, rfl, rfl, rfl, rfl, rfl, trivial⟩) ?_))));rintro ⟨k, o⟩ ⟨hk, hS⟩;dsimp only at hk hS ⊢;refine Zag (Zae ?_)
          first | refine Zab.go (ZaW rfl rfl rfl) ?_ | refine Zab.go (ZaS rfl rfl rfl) ?_
          refine Zaf (Zag ?_)
          first | refine ZaR rfl (fun h86 => ?_) (fun h86 => ?_) | refine ZaF rfl (fun h86 => ?_) (fun h86 => ?_)
          · refine ZaC (Zag (Zaz (Zag ?_)));have hkl : k < (sucs g (nth out (out.length - 1))).length := Zbd h86;have hgn := getn hkl;have hul : nth (sucs g (nth out (out.length - 1))) k < g.length := hg.gb.suc hlast (Zbv hkl);have htk : (sucs g (nth out (out.length - 1))).take k ++ [nth (sucs g (nth out (out.length - 1))) k] = (sucs g (nth out (out.length - 1))).take (k + 1) := by rw [List.take_succ_eq_append_getElem hkl, Zbm hkl]
            obtain ⟨u, hue⟩ : ∃ u, nth (sucs g (nth out (out.length - 1))) k = u := ⟨_, rfl⟩
            rw [hue] at hgn hul htk;have hgu := getn (l := noL g) (k := u) (by rw [hnl]; exact hul);rw [ZbP hul] at hgu;have hno : noC g u = noC g i → nth (noL g) u = nth (noL g) i := fun e => by rw [ZbP hul, ZbP hil]; exact e
            have hon : nth (noL g) u = nth (noL g) i → noC g u = noC g i := fun e => by rw [ZbP hul, ZbP hil] at e; exact e
            refine Zae ?_
            first | refine Zab.go (Zam (k) rfl rfl (rfl) (hgn) Try.underlying25 rfl sz3 rfl) ?_ | refine Zab.go (Zal (k) rfl rfl (rfl) (hgn) rfl Try.underlying25 sz3 rfl) ?_
            first | refine Zab.go (Zah rfl rfl on3 rfl) ?_ | refine Zab.go (Zak rfl rfl rfl on3 rfl) ?_ | refine Zab.go (Zaj rfl rfl (rfl) rfl on3 rfl) ?_
            refine goAs rfl rfl (Zaf (Zag (Zbk [[], [], [0, 1], [0, 1, 2], [0, 1, 2, 3], [0, 1, 2, 3], [0, 1, 2, 3, 4, 5], [0, 1, 2, 3, 4, 5, 6], [0, 1, 2, 3], [0, 1, 2, 3], [0, 1, 2, 3, 8, 9], [0, 1, 2, 3, 8, 9, 10], [0, 1, 2, 3, 4, 5, 6, 7, 8, 9, 10, 11], [0, 1, 2, 3, 4, 5, 6, 7, 8, 9, 10, 11, 12], [0, 1, 2, 3, 4, 5, 6, 7, 8, 9, 10, 11, 12, 13], [0, 1, 2, 3, 4, 5, 6, 7, 8, 9, 10, 11, 12, 13, 14], [0, 1, 2, 3, 4, 5, 6, 7, 8, 9, 10, 11, 12, 13, 14], [0, 1, 2, 3, 4, 5, 6, 7, 8, 9, 10, 11, 12, 13, 14, 15, 16], [0, 1, 2, 3, 4, 5, 6, 7, 8, 9, 10, 11, 12, 13, 14, 15, 16, 17], [0, 1, 2, 3, 4, 5, 6, 7, 8, 9, 10, 11, 12, 13, 14], [0, 1, 2, 3, 4, 5, 6, 7, 8, 9, 10, 11, 12, 13, 14, 15, 16, 17, 18, 19], [0, 1, 2, 3, 4, 5, 6, 7, 8, 9, 10, 11, 12, 13, 14, 15, 16, 17, 18, 19, 20], [0, 1, 2, 3, 4, 5, 6, 7, 8, 9, 10, 11, 12, 13, 14, 15, 16, 17, 18, 19, 20, 21], [0, 1, 2, 3, 4, 5, 6, 7, 8, 9, 10, 11, 12, 13, 14, 15, 16, 17, 18, 19, 20, 21, 22], [0, 1, 2, 3, 4, 5, 6, 7, 8, 9, 10, 11, 12, 13, 14, 15, 16, 17, 18, 19, 20, 21, 22, 23], [0, 1, 2, 3, 4, 5, 6, 7, 8, 9, 10, 11, 12, 13, 14, 15, 16, 17, 18, 19, 20, 21, 22, 23, 24], [0, 1, 2, 3, 4, 5, 6, 7, 8, 9, 10, 11, 12, 13, 14, 15, 16, 17, 18, 19, 20, 21, 22, 23, 24, 25], [0, 1, 2, 3, 4, 5, 6, 7, 8, 9, 10, 11, 12, 13, 14, 15, 16, 17, 18, 19, 20, 21, 22, 23, 24, 25], [0, 1, 2, 3, 4, 5, 6, 7, 8, 9, 10, 11, 12, 13, 14, 15, 16, 17, 18, 19, 20, 21, 22, 23, 24, 25, 26, 27], [0, 1, 2, 3, 4, 5, 6, 7, 8, 9, 10, 11, 12, 13, 14, 15, 16, 17, 18, 19, 20, 21, 22, 23, 24, 25, 26, 27, 28], [0, 1, 2, 3, 4, 5, 6, 7, 8, 9, 10, 11, 12, 13, 14, 15, 16, 17, 18, 19, 20, 21, 22, 23, 24, 25, 26, 27, 28, 29]] mixed rfl (dws ?_))))
            first | refine Zad [17] [] rfl rfl (fun _ => Zaa (Zai rfl rfl)) ?_ | refine Zac [17] rfl rfl (fun _ => Zaa (Zai rfl rfl)) ?_
            first | refine Zad [11] [] rfl rfl (fun _ => Zaa (Zai rfl rfl)) ?_ | refine Zac [11] rfl rfl (fun _ => Zaa (Zai rfl rfl)) ?_
            refine dwc 2 rfl rfl rfl (dw1 3 rfl rfl ?_)
            first | refine Zab.go (ZbF rfl rfl rfl) ?_ | refine Zab.go (ZbA rfl rfl rfl) ?_
            refine Zaf ⟨rfl, ?_⟩;refine dw1 4 rfl rfl (goMv rfl rfl ?_)
            first | refine Zbt 92 rfl (fun h92 => ?_) (fun h92 => ?_) | refine Zbr 92 rfl (fun h92 => ?_) (fun h92 => ?_)
            · refine Zaf ⟨rfl, ?_⟩;refine dws ?_
              first | refine Zad [7, 92] [] rfl rfl (fun _ => ZaA rfl rfl rfl (Zai rfl rfl)) ?_ | refine Zac [7, 92] rfl rfl (fun _ => ZaA rfl rfl rfl (Zai rfl rfl)) ?_
              first | refine Zad [17, 92] [] rfl rfl (fun _ => ZaA rfl rfl rfl (Zai rfl rfl)) ?_ | refine Zac [17, 92] rfl rfl (fun _ => ZaA rfl rfl rfl (Zai rfl rfl)) ?_
              first | refine Zad [93, 94, 92] [] rfl rfl (fun _ => ZaA rfl rfl rfl (Zam (u) rfl rfl (rfl) (hgu) Try.underlying25 rfl sz3 rfl)) ?_ | refine Zac [93, 94, 92] rfl rfl (fun _ => ZaA rfl rfl rfl (Zam (u) rfl rfl (rfl) (hgu) Try.underlying25 rfl sz3 rfl)) ?_ | refine Zad [93, 94, 92] [] rfl rfl (fun _ => ZaA rfl rfl rfl (Zal (u) rfl rfl (rfl) (hgu) rfl Try.underlying25 sz3 rfl)) ?_ | refine Zac [93, 94, 92] rfl rfl (fun _ => ZaA rfl rfl rfl (Zal (u) rfl rfl (rfl) (hgu) rfl Try.underlying25 sz3 rfl)) ?_
              first | refine Zad [95, 92] [] rfl rfl (fun _ => ZaA rfl rfl rfl (Zah rfl rfl on3 rfl)) ?_ | refine Zac [95, 92] rfl rfl (fun _ => ZaA rfl rfl rfl (Zah rfl rfl on3 rfl)) ?_ | refine Zad [95, 92] [] rfl rfl (fun _ => ZaA rfl rfl rfl (Zak rfl rfl rfl on3 rfl)) ?_ | refine Zac [95, 92] rfl rfl (fun _ => ZaA rfl rfl rfl (Zak rfl rfl rfl on3 rfl)) ?_ | refine Zad [95, 92] [] rfl rfl (fun _ => ZaA rfl rfl rfl (Zaj rfl rfl (rfl) rfl on3 rfl)) ?_ | refine Zac [95, 92] rfl rfl (fun _ => ZaA rfl rfl rfl (Zaj rfl rfl (rfl) rfl on3 rfl)) ?_
              first | refine Zad [7, 92] [] rfl rfl (fun _ => ZaA rfl rfl rfl (Zai rfl rfl)) ?_ | refine Zac [7, 92] rfl rfl (fun _ => ZaA rfl rfl rfl (Zai rfl rfl)) ?_
              first | refine Zad [11, 92] [] rfl rfl (fun _ => ZaA rfl rfl rfl (Zai rfl rfl)) ?_ | refine Zac [11, 92] rfl rfl (fun _ => ZaA rfl rfl rfl (Zai rfl rfl)) ?_
              first | refine Zad [97, 98, 92] [] rfl rfl (fun _ => ZaA rfl rfl rfl (Zam (i) rfl rfl (rfl) (hgi) Try.underlying25 rfl sz3 rfl)) ?_ | refine Zac [97, 98, 92] rfl rfl (fun _ => ZaA rfl rfl rfl (Zam (i) rfl rfl (rfl) (hgi) Try.underlying25 rfl sz3 rfl)) ?_ | refine Zad [97, 98, 92] [] rfl rfl (fun _ => ZaA rfl rfl rfl (Zal (i) rfl rfl (rfl) (hgi) rfl Try.underlying25 sz3 rfl)) ?_ | refine Zac [97, 98, 92] rfl rfl (fun _ => ZaA rfl rfl rfl (Zal (i) rfl rfl (rfl) (hgi) rfl Try.underlying25 sz3 rfl)) ?_
              first | refine Zad [99, 92] [] rfl rfl (fun _ => ZaA rfl rfl rfl (Zah rfl rfl on3 rfl)) ?_ | refine Zac [99, 92] rfl rfl (fun _ => ZaA rfl rfl rfl (Zah rfl rfl on3 rfl)) ?_ | refine Zad [99, 92] [] rfl rfl (fun _ => ZaA rfl rfl rfl (Zak rfl rfl rfl on3 rfl)) ?_ | refine Zac [99, 92] rfl rfl (fun _ => ZaA rfl rfl rfl (Zak rfl rfl rfl on3 rfl)) ?_ | refine Zad [99, 92] [] rfl rfl (fun _ => ZaA rfl rfl rfl (Zaj rfl rfl (rfl) rfl on3 rfl)) ?_ | refine Zac [99, 92] rfl rfl (fun _ => ZaA rfl rfl rfl (Zaj rfl rfl (rfl) rfl on3 rfl)) ?_
              refine dwc 12 rfl rfl rfl (dw1 13 rfl rfl (ZaH rfl rfl rfl ?_))
              first | refine Zab.go (Zbl rfl rfl rfl) ?_ | refine Zab.go (ZaY rfl rfl rfl) ?_ | refine Zab.go (Za5 rfl rfl rfl) ?_ | refine Zab.go (Za9 Try.underlying3 rfl rfl rfl) ?_ | refine Zab.go (Za6 Try.underlying3 rfl rfl rfl) ?_ | refine Zab.go (Za7 Try.underlying3 rfl rfl) ?_ | refine Zab.go (Za8 Try.underlying3 rfl rfl rfl) ?_ | refine Zab.go (ZaZ Try.underlying3 rfl rfl) ?_
              refine Zaf ⟨rfl, ?_⟩;refine dw1 14 rfl rfl (Zab.go (Za3 rfl rfl rfl rfl) (Zaf ⟨rfl, ?_⟩));refine dw1 15 rfl rfl (goMv rfl rfl ?_)
              first | refine Zbt 103 rfl (fun h103 => ?_) (fun h103 => ?_) | refine Zbr 103 rfl (fun h103 => ?_) (fun h103 => ?_)
              · refine Zaf ⟨rfl, ?_⟩;refine dws ?_
                first | refine Zad [12, 103] [] rfl rfl (fun _ => ZaA rfl rfl rfl (Zai rfl rfl)) ?_ | refine Zac [12, 103] rfl rfl (fun _ => ZaA rfl rfl rfl (Zai rfl rfl)) ?_
                first | refine Zad [17, 103] [] rfl rfl (fun _ => ZaA rfl rfl rfl (Zai rfl rfl)) ?_ | refine Zac [17, 103] rfl rfl (fun _ => ZaA rfl rfl rfl (Zai rfl rfl)) ?_
                first | refine Zad [104, 105, 103] [] rfl rfl (fun _ => ZaA rfl rfl rfl (Zam (u) rfl rfl (rfl) (getDl (by rw [hrl]; exact hul)) Try.underlying25 rfl sz3 rfl)) ?_ | refine Zac [104, 105, 103] rfl rfl (fun _ => ZaA rfl rfl rfl (Zam (u) rfl rfl (rfl) (getDl (by rw [hrl]; exact hul)) Try.underlying25 rfl sz3 rfl)) ?_ | refine Zad [104, 105, 103] [] rfl rfl (fun _ => ZaA rfl rfl rfl (Zal (u) rfl rfl (rfl) (getDl (by rw [hrl]; exact hul)) rfl Try.underlying25 sz3 rfl)) ?_ | refine Zac [104, 105, 103] rfl rfl (fun _ => ZaA rfl rfl rfl (Zal (u) rfl rfl (rfl) (getDl (by rw [hrl]; exact hul)) rfl Try.underlying25 sz3 rfl)) ?_
                first | refine Zad [106, 103] [] rfl rfl (fun _ => ZaA rfl rfl rfl (Zah rfl rfl on3 rfl)) ?_ | refine Zac [106, 103] rfl rfl (fun _ => ZaA rfl rfl rfl (Zah rfl rfl on3 rfl)) ?_ | refine Zad [106, 103] [] rfl rfl (fun _ => ZaA rfl rfl rfl (Zak rfl rfl rfl on3 rfl)) ?_ | refine Zac [106, 103] rfl rfl (fun _ => ZaA rfl rfl rfl (Zak rfl rfl rfl on3 rfl)) ?_ | refine Zad [106, 103] [] rfl rfl (fun _ => ZaA rfl rfl rfl (Zaj rfl rfl (rfl) rfl on3 rfl)) ?_ | refine Zac [106, 103] rfl rfl (fun _ => ZaA rfl rfl rfl (Zaj rfl rfl (rfl) rfl on3 rfl)) ?_
                first | refine Zad [14, 103] [] rfl rfl (fun _ => ZaA rfl rfl rfl (Zai rfl rfl)) ?_ | refine Zac [14, 103] rfl rfl (fun _ => ZaA rfl rfl rfl (Zai rfl rfl)) ?_
                refine dwc 20 rfl rfl rfl (dw1 21 rfl rfl (ZaH rfl rfl rfl ?_))
                first | refine Zab.go (Zbl rfl rfl rfl) ?_ | refine Zab.go (ZaY rfl rfl rfl) ?_ | refine Zab.go (Za5 rfl rfl rfl) ?_ | refine Zab.go (Za9 Try.underlying3 rfl rfl rfl) ?_ | refine Zab.go (Za6 Try.underlying3 rfl rfl rfl) ?_ | refine Zab.go (Za7 Try.underlying3 rfl rfl) ?_ | refine Zab.go (Za8 Try.underlying3 rfl rfl rfl) ?_ | refine Zab.go (ZaZ Try.underlying3 rfl rfl) ?_
                refine Zaf ⟨rfl, ?_⟩;refine dw1 22 rfl rfl (Zab.go (Za3 rfl rfl rfl rfl) (Zaf ⟨rfl, ?_⟩));refine dw1 23 rfl rfl (goMv rfl rfl ?_)
                first | refine Zbt 111 rfl (fun h111 => ?_) (fun h111 => ?_) | refine Zbr 111 rfl (fun h111 => ?_) (fun h111 => ?_)
                · refine Zaf ⟨rfl, ?_⟩;refine dw1 24 rfl rfl (ZaH rfl rfl rfl (goMv rfl rfl (Zaf ⟨rfl, ?_⟩)));refine dw1 25 rfl rfl (ZaH rfl rfl rfl ?_)
                  first | refine Zab.go (ZaW rfl rfl rfl) ?_ | refine Zab.go (ZaS rfl rfl rfl) ?_
                  refine Zaf ⟨rfl, ?_⟩;refine dw1 26 rfl rfl (ZaH rfl rfl rfl (goMv rfl rfl ?_))
                  first | refine Zbt 114 rfl (fun h114 => ?_) (fun h114 => ?_) | refine Zbr 114 rfl (fun h114 => ?_) (fun h114 => ?_)
                  · refine Zaf ⟨rfl, ?_⟩;refine dws (Zad [17, 114] [] rfl rfl (fun _ => ZaT rfl rfl rfl rfl) (Zad [15, 114] [] rfl rfl (fun _ => ZaT rfl rfl rfl rfl) (dwc 28 rfl rfl rfl (dw1 29 rfl rfl (ZaG rfl rfl rfl rfl (Zaf ⟨rfl, ?_⟩))))));refine dw1 30 rfl rfl (ZaH rfl rfl rfl (Zab.go (Za3 rfl rfl rfl rfl) (Zaf ⟨rfl, ?_⟩)));refine dw1 31 rfl rfl (Zab.go (Za3 rfl rfl rfl rfl) (Zaf ⟨rfl, ?_⟩));refine dwe ?_;refine a_true rfl rfl (Zae (goMv rfl rfl (goAs rfl rfl (Zaf (Zae (Zab.go (ZaL rfl rfl (IntWalk.i64_in _ (by omega)) rfl) (goMv rfl rfl (Zaf ?_))))))));exact ⟨(k + 1, some u), ⟨hkl, htk ▸ ss_take hS ⟨Int.ofNat_lt.1 h92, hno (Int.ofNat.inj h103), Int.ofNat.inj h111⟩ (enc_neg h114)⟩, by show (sucs g (nth out (out.length - 1))).length - (k + 1) < (sucs g (nth out (out.length - 1))).length - k; omega, Zay hF [3] rfl (rfl) ⟨rfl, rfl, rfl, rfl, rfl, rfl, rfl, rfl, rfl, rfl, rfl, rfl, rfl, rfl, rfl, trivial⟩⟩
                  · refine Zaf ⟨rfl, ?_⟩;refine dws ?_
                    first | refine Zad [17, 114] [] rfl rfl (fun _ => ZaA rfl rfl rfl (Zai rfl rfl)) ?_ | refine Zac [17, 114] rfl rfl (fun _ => ZaA rfl rfl rfl (Zai rfl rfl)) ?_
                    first | refine Zad [15, 114] [] rfl rfl (fun _ => ZaA rfl rfl rfl (Zai rfl rfl)) ?_ | refine Zac [15, 114] rfl rfl (fun _ => ZaA rfl rfl rfl (Zai rfl rfl)) ?_
                    refine dwc 28 rfl rfl rfl (dw1 29 rfl rfl (ZaH rfl rfl rfl ?_))
                    first | refine Zab.go (ZaW rfl rfl rfl) ?_ | refine Zab.go (ZaS rfl rfl rfl) ?_
                    refine Zaf ⟨rfl, ?_⟩;refine dw1 30 rfl rfl (ZaH rfl rfl rfl (Zab.go (Za2 rfl rfl rfl rfl) (Zaf ⟨rfl, ?_⟩)));refine dw1 31 rfl rfl (Zab.go (Za3 rfl rfl rfl rfl) (Zaf ⟨rfl, ?_⟩));refine dwe ?_
                    first | refine ZaR rfl (fun h119 => ?_) (fun h119 => ?_) | refine ZaF rfl (fun h119 => ?_) (fun h119 => ?_)
                    · refine Zae (goMv rfl rfl (goAs rfl rfl (Zaf (Zae (Zab.go (ZaL rfl rfl (IntWalk.i64_in _ (by omega)) rfl) (goMv rfl rfl (Zaf ?_)))))));exact ⟨(k + 1, some u), ⟨hkl, htk ▸ ss_take hS ⟨Int.ofNat_lt.1 h92, hno (Int.ofNat.inj h103), Int.ofNat.inj h111⟩ (enc_lt h119)⟩, by show (sucs g (nth out (out.length - 1))).length - (k + 1) < (sucs g (nth out (out.length - 1))).length - k; omega, Zay hF [3] rfl (rfl) ⟨rfl, rfl, rfl, rfl, rfl, rfl, rfl, rfl, rfl, rfl, rfl, rfl, rfl, rfl, rfl, trivial⟩⟩
                    · refine ZaC (Zae (Zab.go (ZaL rfl rfl (IntWalk.i64_in _ (by omega)) rfl) (goMv rfl rfl (Zaf ?_))));exact ⟨(k + 1, o), ⟨hkl, htk ▸ ss_skip hS (fun h => enc_ge h114 h119 h.2)⟩, by show (sucs g (nth out (out.length - 1))).length - (k + 1) < (sucs g (nth out (out.length - 1))).length - k; omega, Zay hF [3] rfl (rfl) ⟨rfl, rfl, rfl, rfl, rfl, rfl, rfl, rfl, rfl, rfl, rfl, rfl, rfl, rfl, rfl, trivial⟩⟩
                · refine Zaf ⟨rfl, ?_⟩;refine dw1 24 rfl rfl (ZaG rfl rfl rfl rfl (Zaf ⟨rfl, ?_⟩));refine dw1 25 rfl rfl (ZaG rfl rfl rfl rfl (Zaf ⟨rfl, ?_⟩));refine dw1 26 rfl rfl (ZaG rfl rfl rfl rfl (Zaf ⟨rfl, ?_⟩));refine dws (Zad [17, 114] [] rfl rfl (fun _ => ZbT rfl rfl rfl) (Zad [15, 114] [] rfl rfl (fun _ => ZbT rfl rfl rfl) (dwc 28 rfl rfl rfl (dw1 29 rfl rfl (o_passU rfl rfl rfl (Zaf ⟨rfl, ?_⟩))))));refine dw1 30 rfl rfl (ZaG rfl rfl rfl rfl (Zaf ⟨rfl, ?_⟩));refine dw1 31 rfl rfl (Zab.go (Za2 rfl rfl rfl rfl) (Zaf ⟨rfl, ?_⟩));refine dwe (Zbj rfl rfl (ZaC (Zae (Zab.go (ZaL rfl rfl (IntWalk.i64_in _ (by omega)) rfl) (goMv rfl rfl (Zaf ?_))))));exact ⟨(k + 1, o), ⟨hkl, htk ▸ ss_skip hS (fun h => h111 (congrArg Int.ofNat h.1.2.2))⟩, by show (sucs g (nth out (out.length - 1))).length - (k + 1) < (sucs g (nth out (out.length - 1))).length - k; omega, Zay hF [3] rfl (rfl) ⟨rfl, rfl, rfl, rfl, rfl, rfl, rfl, rfl, rfl, rfl, rfl, rfl, rfl, rfl, rfl, trivial⟩⟩
              · refine Zaf ⟨rfl, ?_⟩;refine dws ?_;refine Zad [12, 103] [] rfl rfl (fun _ => ZaT rfl rfl rfl rfl) (Zad [17, 103] [] rfl rfl (fun _ => ZaT rfl rfl rfl rfl) (Zad [104, 105, 103] [] rfl rfl (fun _ => ZaT rfl rfl rfl rfl) (Zad [106, 103] [] rfl rfl (fun _ => ZaT rfl rfl rfl rfl) (Zad [14, 103] [] rfl rfl (fun _ => ZaT rfl rfl rfl rfl) (dwc 20 rfl rfl rfl (dw1 21 rfl rfl (ZaG rfl rfl rfl rfl (Zaf ⟨rfl, ?_⟩))))))));refine dw1 22 rfl rfl (Zab.go (Za2 rfl rfl rfl rfl) (Zaf ⟨rfl, ?_⟩));refine dw1 23 rfl rfl (goMv rfl rfl (Zaf ⟨rfl, ?_⟩));refine dw1 24 rfl rfl (ZaG rfl rfl rfl rfl (Zaf ⟨rfl, ?_⟩));refine dw1 25 rfl rfl (ZaG rfl rfl rfl rfl (Zaf ⟨rfl, ?_⟩));refine dw1 26 rfl rfl (ZaG rfl rfl rfl rfl (Zaf ⟨rfl, ?_⟩));refine dws (Zad [17, 114] [] rfl rfl (fun _ => ZbT rfl rfl rfl) (Zad [15, 114] [] rfl rfl (fun _ => ZbT rfl rfl rfl) (dwc 28 rfl rfl rfl (dw1 29 rfl rfl (o_passU rfl rfl rfl (Zaf ⟨rfl, ?_⟩))))));refine dw1 30 rfl rfl (ZaG rfl rfl rfl rfl (Zaf ⟨rfl, ?_⟩));refine dw1 31 rfl rfl (Zab.go (Za2 rfl rfl rfl rfl) (Zaf ⟨rfl, ?_⟩));refine dwe (Zbj rfl rfl (ZaC (Zae (Zab.go (ZaL rfl rfl (IntWalk.i64_in _ (by omega)) rfl) (goMv rfl rfl (Zaf ?_))))));exact ⟨(k + 1, o), ⟨hkl, htk ▸ ss_skip hS (fun h => h103 (congrArg Int.ofNat (hon h.1.2.1)))⟩, by show (sucs g (nth out (out.length - 1))).length - (k + 1) < (sucs g (nth out (out.length - 1))).length - k; omega, Zay hF [3] rfl (rfl) ⟨rfl, rfl, rfl, rfl, rfl, rfl, rfl, rfl, rfl, rfl, rfl, rfl, rfl, rfl, rfl, trivial⟩⟩
            · refine Zaf ⟨rfl, ?_⟩;refine dws (Zad [7, 92] [] rfl rfl (fun _ => ZaT rfl rfl rfl rfl) (Zad [17, 92] [] rfl rfl (fun _ => ZaT rfl rfl rfl rfl) (Zad [93, 94, 92] [] rfl rfl (fun _ => ZaT rfl rfl rfl rfl) ?_)));refine Zad [95, 92] [] rfl rfl (fun _ => ZaT rfl rfl rfl rfl) (Zad [7, 92] [] rfl rfl (fun _ => ZaT rfl rfl rfl rfl) (Zad [11, 92] [] rfl rfl (fun _ => ZaT rfl rfl rfl rfl) (Zad [97, 98, 92] [] rfl rfl (fun _ => ZaT rfl rfl rfl rfl) (Zad [99, 92] [] rfl rfl (fun _ => ZaT rfl rfl rfl rfl) (dwc 12 rfl rfl rfl (dw1 13 rfl rfl (ZaG rfl rfl rfl rfl (Zaf ⟨rfl, ?_⟩))))))));refine dw1 14 rfl rfl (Zab.go (Za2 rfl rfl rfl rfl) (Zaf ⟨rfl, ?_⟩));refine dw1 15 rfl rfl (goMv rfl rfl (Zaf ⟨rfl, ?_⟩));refine dws ?_;refine Zad [12, 103] [] rfl rfl (fun _ => ZaT rfl rfl rfl rfl) (Zad [17, 103] [] rfl rfl (fun _ => ZaT rfl rfl rfl rfl) (Zad [104, 105, 103] [] rfl rfl (fun _ => ZaT rfl rfl rfl rfl) (Zad [106, 103] [] rfl rfl (fun _ => ZaT rfl rfl rfl rfl) (Zad [14, 103] [] rfl rfl (fun _ => ZaT rfl rfl rfl rfl) (dwc 20 rfl rfl rfl (dw1 21 rfl rfl (ZaG rfl rfl rfl rfl (Zaf ⟨rfl, ?_⟩))))))));refine dw1 22 rfl rfl (Zab.go (Za2 rfl rfl rfl rfl) (Zaf ⟨rfl, ?_⟩));refine dw1 23 rfl rfl (goMv rfl rfl (Zaf ⟨rfl, ?_⟩));refine dw1 24 rfl rfl (ZaG rfl rfl rfl rfl (Zaf ⟨rfl, ?_⟩));refine dw1 25 rfl rfl (ZaG rfl rfl rfl rfl (Zaf ⟨rfl, ?_⟩));refine dw1 26 rfl rfl (ZaG rfl rfl rfl rfl (Zaf ⟨rfl, ?_⟩));refine dws (Zad [17, 114] [] rfl rfl (fun _ => ZbT rfl rfl rfl) (Zad [15, 114] [] rfl rfl (fun _ => ZbT rfl rfl rfl) (dwc 28 rfl rfl rfl (dw1 29 rfl rfl (o_passU rfl rfl rfl (Zaf ⟨rfl, ?_⟩))))));refine dw1 30 rfl rfl (ZaG rfl rfl rfl rfl (Zaf ⟨rfl, ?_⟩));refine dw1 31 rfl rfl (Zab.go (Za2 rfl rfl rfl rfl) (Zaf ⟨rfl, ?_⟩));refine dwe (Zbj rfl rfl (ZaC (Zae (Zab.go (ZaL rfl rfl (IntWalk.i64_in _ (by omega)) rfl) (goMv rfl rfl (Zaf ?_))))));exact ⟨(k + 1, o), ⟨hkl, htk ▸ ss_skip hS (fun h => h92 (Int.ofNat_lt.2 h.1.1))⟩, by show (sucs g (nth out (out.length - 1))).length - (k + 1) < (sucs g (nth out (out.length - 1))).length - k; omega, Zay hF [3] rfl (rfl) ⟨rfl, rfl, rfl, rfl, rfl, rfl, rfl, rfl, rfl, rfl, rfl, rfl, rfl, rfl, rfl, trivial⟩⟩
          · refine ZaJ (Zag ?_);have hke : k = (sucs g (nth out (out.length - 1))).length := by have := h86; omega
            subst hke;rw [List.take_length] at hS;obtain ⟨u, hu⟩ := ss_some (lim := 0) hS (cand_ex hD hil hlast (by omega) (by omega) (by omega));subst hu;refine Zae (goMv rfl rfl (goMv rfl rfl (Zau.go (ZaN 22 sl25 rfl rfl rfl rfl rfl rfl rfl rfl) (Zau.go (ZbR (emb := natD) out [u] rfl rfl rfl rfl rfl rfl rfl rfl sl25 (by show (out.length + 1) * 8 ≤ _; omega) rfl rfl rfl rfl) (goAs rfl rfl (Zaf (Zae (goMv rfl rfl ?_))))))));refine o_as 126 (.d (natD (nth (out ++ [u]) ((out ++ [u]).length - 1)))) rfl (by rw [show nth (out ++ [u]) ((out ++ [u]).length - 1) = u by simp [nth]]; rfl) (goAs rfl rfl (Zaf (Zae (goMv rfl rfl (Zab.go (Zbi rfl rfl (IntWalk.i64_in _ (by omega)) rfl) (o_as 79 (.d (natD (d i - (out ++ [u]).length))) rfl (eqv (congrArg intD (by rw [List.length_append, List.length_singleton]; omega))) (goAs rfl rfl (Zaf ?_))))))));exact ⟨out ++ [u], ⟨(ps_next hg.gb hP hS).1, by rw [List.length_append, List.length_singleton]; omega⟩, by rw [List.length_append, List.length_singleton]; omega, Zay hF [3] rfl (rfl) ⟨rfl, rfl, rfl, rfl, rfl, rfl, rfl, rfl, rfl, rfl, rfl, rfl, trivial⟩⟩
        · refine ZaJ ?_
          first | (have hol2 : out.length = d i := (by have := h77; omega); refine Zbn (emb := natD) 10 3 out rfl rfl rfl rfl rfl rfl rfl ?_) | skip
          refine Zae (Zab.go (ZaL rfl rfl (IntWalk.i64_in _ (by omega)) rfl) (goMv rfl rfl (Zaf ?_)));exact ⟨(i + 1, d i, out), ⟨hil, ci_new hC hil hD hd0 hP (by omega)⟩, by show g.length - (i + 1) < g.length - i; omega, ⟨rfl, rfl, fun _ _ => Has.get (l := [(0, _), (6, _), (7, _), (8, _), (9, _), (10, _), (34, _), (35, _)]) ⟨rfl, rfl, rfl, rfl, rfl, rfl, rfl, rfl, trivial⟩⟩⟩
  · refine ZaJ (Zag ?_);have hin : i = g.length := by have := h36; omega
    subst hin;refine Zae (goMv rfl rfl (goMv rfl rfl ?_))
    first | refine Zab.go (ZaX rfl Try.underlying25 rfl) ?_ | refine Zab.go (ZaD rfl rfl Try.underlying25 rfl) ?_ | refine Zab.go (Zbc rfl Try.underlying25 rfl) ?_ | refine Zab.go (Za4 rfl Try.underlying25 rfl) ?_ | refine Zab.go (Zbg rfl Try.underlying25 rfl) ?_ | refine Zab.go (Zbf rfl Try.underlying25 rfl) ?_
    first | refine Zab.go (ZbF rfl rfl rfl) ?_ | refine Zab.go (ZbA rfl rfl rfl) ?_
    refine goAs rfl rfl (goAs rfl rfl (goAs rfl rfl (Zaf (Zbb ?_))));exact ⟨_, [], [], ZaQ rfl, rfl, rfl, best, out, hC, by rw [show decide (out ≠ []) = decide ((0 : Int) < (out.length : Int)) from decide_eq_decide.2 ⟨fun h => by have := List.length_pos_iff.2 h; omega, fun h e => by rw [e] at h; exact absurd h (by decide)⟩], rfl⟩
end Go.Proofs.Ytgdppeobgefogaa
/- Layer 31: the example's components and cycle. Plain laws. -/
namespace Go.Proofs.Ytgdppeobgefogaa
open Go.RowKit
abbrev g0 : List (List Nat) := [[1], [2], [1, 3], []]
def no0 : Nat → Nat := fun v => if v = 0 then 0 else if v = 3 then 2 else 1
theorem lt4 {v : Nat} (h : v < 4) : v = 0 ∨ v = 1 ∨ v = 2 ∨ v = 3 := by omega
theorem suc0 {v y : Nat} (h : y ∈ sucs g0 v) : (v = 0 ∧ y = 1) ∨ (v = 1 ∧ y = 2) ∨ (v = 2 ∧ (y = 1 ∨ y = 3)) := by
  match v, h with
  | 0, h => simp [sucs] at h; exact .inl ⟨rfl, h⟩
  | 1, h => simp [sucs] at h; exact .inr (.inl ⟨rfl, h⟩)
  | 2, h => simp [sucs] at h; exact .inr (.inr ⟨rfl, h⟩)
  | 3, h => simp [sucs] at h
  | v + 4, h => simp [sucs] at h
theorem g0_gt : GT g0 := ⟨⟨by decide, by decide, by decide⟩, by decide⟩
theorem rh0 {u v : Nat} (h : Rh (sucs g0) u v) : no0 u ≤ no0 v := by
  induction h with
  | refl => exact Nat.le_refl _
  | step _ e ih =>
    refine Nat.le_trans ih ?_;rcases suc0 e with ⟨rfl, rfl⟩ | ⟨rfl, rfl⟩ | ⟨rfl, rfl | rfl⟩ <;> decide
theorem cn0 : CN g0.length (sucs g0) no0 3 := by
  have h12 : Rh (sucs g0) 1 2 := Rh.one (by decide);have h21 : Rh (sucs g0) 2 1 := Rh.one (by decide);refine ⟨fun v hv => ?_, fun i j hi hj => ?_, fun c hc => ?_, fun u v hu hv he => ?_, fun c hc i hi hci _ => ?_⟩
  · rcases lt4 hv with rfl | rfl | rfl | rfl <;> decide
  · constructor
    · intro e
      rcases lt4 hi with rfl | rfl | rfl | rfl <;> rcases lt4 hj with rfl | rfl | rfl | rfl <;> first
        | exact ⟨.refl _, .refl _⟩
        | exact ⟨h12, h21⟩
        | exact ⟨h21, h12⟩
        | exact absurd e (by decide)
    · rintro ⟨h1, h2⟩;exact Nat.le_antisymm (rh0 h1) (rh0 h2)
  · rcases (show c = 0 ∨ c = 1 ∨ c = 2 by omega) with rfl | rfl | rfl
    · exact ⟨0, by decide, rfl⟩
    · exact ⟨1, by decide, rfl⟩
    · exact ⟨3, by decide, rfl⟩
  · exact rh0 (Rh.one he)
  · rcases (show c = 0 ∨ c = 1 ∨ c = 2 by omega) with rfl | rfl | rfl
    · exact ⟨0, by decide, rfl, Nat.zero_le _⟩
    · refine ⟨1, by decide, rfl, ?_⟩;rcases lt4 hi with rfl | rfl | rfl | rfl
      · exact absurd hci (by decide)
      all_goals decide
    · refine ⟨3, by decide, rfl, ?_⟩;rcases lt4 hi with rfl | rfl | rfl | rfl
      · exact absurd hci (by decide)
      · exact absurd hci (by decide)
      · exact absurd hci (by decide)
      · decide
theorem com0 : comC g0 = [[0], [1, 2], [3]] := by
  obtain ⟨_, h1, h2⟩ := conC_of g0_gt.gb cn0;unfold comC;rw [← h1, ← outT_congr h2]
  decide
theorem no0_eq {v : Nat} (hv : v < 4) : nth (noL g0) v = no0 v := by
  rw [ZbP hv]; exact ((conC_of g0_gt.gb cn0).2.2 v hv).symm
theorem wk1 {s v : Nat} (h : Wk (revG g0) (okS g0 s) s 1 v) (hs : s < 4) : v < 4 ∧ s ≤ v ∧ s ∈ sucs g0 v := by
  obtain ⟨hok, x, hx, hm⟩ := h;have hx : x = s := hx;subst hx;obtain ⟨h1, h2⟩ := (revG_mem (g := g0) hs).1 hm;exact ⟨h1, hok.1, h2⟩
theorem cyc0 {best : Nat} {out : List Nat} (h : CI g0 g0.length best out) : out = [1, 2] := by
  have hw : Wk (revG g0) (okS g0 1) 1 2 1 := by
    refine ⟨⟨Nat.le_refl _, rfl⟩, 2, ⟨⟨by decide, ?_⟩, 1, rfl, (revG_mem (g := g0) (by decide)).2 ⟨by decide, by decide⟩⟩, (revG_mem (g := g0) (by decide)).2 ⟨by decide, by decide⟩⟩;rw [no0_eq (by decide), no0_eq (by decide)]; rfl
  have hb : best ≤ 2 := by
    rcases Nat.lt_or_ge 2 best with hl | hl
    · exact (h.no 1 (by decide) 2 (by decide) hl hw).elim
    · exact hl
  have hb1 := h.b1.1;have hne : out ≠ [] := fun e => by have := h.none e; have e4 : g0.length = 4 := rfl; omega
  obtain ⟨s, lim, d, hs, hD, hds, hP, hlen, _⟩ := h.some hne;have hs : s < 4 := hs;have hW := (hD.a s (by omega)).1;rw [hds] at hW
  have hb2 : best = 2 := by
    rcases (show best = 1 ∨ best = 2 by omega) with e | e
    · subst e;have := suc0 (wk1 hW hs).2.2;omega
    · exact e
  subst hb2;obtain ⟨_, x, hx, hm⟩ := hW;obtain ⟨hx1, hx2, hx3⟩ := wk1 hx hs;obtain ⟨_, hx4⟩ := (revG_mem (g := g0) hx1).1 hm;have h1 := suc0 hx3;have h2 := suc0 hx4;have e : s = 1 := by omega
  subst e
  match out, hlen with
  | [a, b], _ =>
    have ha : a = 1 := hP.hd;subst ha;have hb : b ∈ sucs g0 1 := (hP.stp 0 (by simp)).1;have := suc0 hb;have : b = 2 := by omega
    rw [this]
end Go.Proofs.Ytgdppeobgefogaa
/- Layer 31: the example. -/
namespace Go.Proofs.Ytgdppeobgefogaa
open Go.RowKit
theorem takeAll {α : Type} {l m : List α} {k : Nat} (h1 : l.length = m.length) (h2 : k = l.length) (h : l.take k = m.take k) : l = m := by
  subst h2;rw [List.take_length, h1, List.take_length] at h; exact h
theorem take_eq {α : Type} {l m : List α} {k : Nat} (h1 : k < l.length) (h2 : k < m.length) (h : l.take k = m.take k) (e : l[k] = m[k]) : l.take (k + 1) = m.take (k + 1) := by
  rw [List.take_succ_eq_append_getElem h1, List.take_succ_eq_append_getElem h2, h, e]
theorem getR {l : List Nat} {k : Nat} (h : k < l.length) : (l.map natD)[k]? = some (natD l[k]) := getm h
theorem getS {g : List (List Nat)} {k : Nat} (h : k < g.length) : (g.map natsD)[k]? = some (natsD g[k]) := getm h
set_option maxRecDepth 100000 in
theorem eqN_p (l m : List Nat) (hl : l.length ≤ 2000000) (hm : m.length ≤ 2000000) : PCalls Try.prog 16 [.d (natsD l), .d (natsD m)] (boolD (decide (l = m))) := by
  refine Za1 Try.func16 rfl rfl Try.ntmps16 rfl rfl rfl fun F hF => (Zag (Zae ?_));refine goAs rfl rfl (Zaf (Zag (Zag (Zae (goMv rfl rfl (Zab.go (ZaD rfl (List.length_map ..) Try.underlying25 rfl) (goMv rfl rfl (Zab.go (ZaD rfl (List.length_map ..) Try.underlying25 rfl) ?_))))))))
  first | refine Zab.go (st_neq rfl rfl rfl) ?_ | refine Zab.go (ZbH rfl rfl rfl) ?_ | refine Zab.go (ZbK rfl rfl rfl) ?_ | refine Zab.go (ZbO Try.underlying3 rfl rfl rfl) ?_ | refine Zab.go (ZbM Try.underlying3 rfl rfl rfl) ?_ | refine Zab.go (st_neqN Try.underlying3 rfl rfl) ?_ | refine Zab.go (ZbN Try.underlying3 rfl rfl rfl) ?_ | refine Zab.go (st_neqFN Try.underlying3 rfl rfl) ?_
  refine Zaf ?_
  first | refine ZaR rfl (fun h10 => ?_) (fun h10 => ?_) | refine ZaF rfl (fun h10 => ?_) (fun h10 => ?_)
  · refine Zag (Zae (goAs rfl rfl (Zaf (Zbb ?_))));exact ⟨_, [], [], ZaQ rfl, rfl, rfl, by rw [decide_eq_false (fun e => h10 (by rw [e]))], rfl⟩
  · refine ZaC (Zag (Zag (Zae (goAs rfl rfl (Zaf (Zaz ?_))))));have hlm : l.length = m.length := Int.ofNat.inj (Classical.not_not.1 h10);refine a_loop (α := Nat) (fun k => ⟨26, [(0, .d (natsD l)), (1, .d (natsD m)), (5, (.d (natD k)))], []⟩) (fun k => k ≤ l.length ∧ l.take k = m.take k) (fun k => l.length - k) (0) (⟨Nat.zero_le _, by simp⟩) (le_of_has ⟨rfl, rfl, rfl, trivial⟩) ?_;rintro k ⟨hk, hn⟩;refine Zag (Zag (Zae (goMv rfl rfl (goMv rfl rfl (Zab.go (ZaD rfl (List.length_map ..) Try.underlying25 rfl) ?_)))))
    first | refine Zab.go (ZaW rfl rfl rfl) ?_ | refine Zab.go (ZaS rfl rfl rfl) ?_
    refine Zaf ?_
    first | refine ZaR rfl (fun h14 => ?_) (fun h14 => ?_) | refine ZaF rfl (fun h14 => ?_) (fun h14 => ?_)
    · refine ZaC (Zag (Zaz (Zag ?_)));have hkl : k < l.length := Zbd h14;have hkm : k < m.length := by omega
      refine Zbk [[], [], [0, 1], [0, 1, 2], [], [], [4, 5], [4, 5, 6], [0, 1, 2, 3, 4, 5, 6, 7]] mixed rfl (dws ?_)
      first | refine Zad [0] [] rfl rfl (fun _ => Zaa (Zai rfl rfl)) ?_ | refine Zac [0] rfl rfl (fun _ => Zaa (Zai rfl rfl)) ?_
      first | refine Zad [5] [] rfl rfl (fun _ => Zaa (Zai rfl rfl)) ?_ | refine Zac [5] rfl rfl (fun _ => Zaa (Zai rfl rfl)) ?_
      first | refine Zad [17, 18] [] rfl rfl (fun _ => Zaa (Zam (k) rfl rfl (rfl) (getR hkl) Try.underlying25 rfl sz3 rfl)) ?_ | refine Zac [17, 18] rfl rfl (fun _ => Zaa (Zam (k) rfl rfl (rfl) (getR hkl) Try.underlying25 rfl sz3 rfl)) ?_ | refine Zad [17, 18] [] rfl rfl (fun _ => Zaa (Zal (k) rfl rfl (rfl) (getR hkl) rfl Try.underlying25 sz3 rfl)) ?_ | refine Zac [17, 18] rfl rfl (fun _ => Zaa (Zal (k) rfl rfl (rfl) (getR hkl) rfl Try.underlying25 sz3 rfl)) ?_
      first | refine Zad [19] [] rfl rfl (fun _ => Zaa (Zah rfl rfl on3 rfl)) ?_ | refine Zac [19] rfl rfl (fun _ => Zaa (Zah rfl rfl on3 rfl)) ?_ | refine Zad [19] [] rfl rfl (fun _ => Zaa (Zak rfl rfl rfl on3 rfl)) ?_ | refine Zac [19] rfl rfl (fun _ => Zaa (Zak rfl rfl rfl on3 rfl)) ?_ | refine Zad [19] [] rfl rfl (fun _ => Zaa (Zaj rfl rfl (rfl) rfl on3 rfl)) ?_ | refine Zac [19] rfl rfl (fun _ => Zaa (Zaj rfl rfl (rfl) rfl on3 rfl)) ?_
      first | refine Zad [1] [] rfl rfl (fun _ => Zaa (Zai rfl rfl)) ?_ | refine Zac [1] rfl rfl (fun _ => Zaa (Zai rfl rfl)) ?_
      first | refine Zad [5] [] rfl rfl (fun _ => Zaa (Zai rfl rfl)) ?_ | refine Zac [5] rfl rfl (fun _ => Zaa (Zai rfl rfl)) ?_
      first | refine Zad [21, 22] [] rfl rfl (fun _ => Zaa (Zam (k) rfl rfl (rfl) (getR hkm) Try.underlying25 rfl sz3 rfl)) ?_ | refine Zac [21, 22] rfl rfl (fun _ => Zaa (Zam (k) rfl rfl (rfl) (getR hkm) Try.underlying25 rfl sz3 rfl)) ?_ | refine Zad [21, 22] [] rfl rfl (fun _ => Zaa (Zal (k) rfl rfl (rfl) (getR hkm) rfl Try.underlying25 sz3 rfl)) ?_ | refine Zac [21, 22] rfl rfl (fun _ => Zaa (Zal (k) rfl rfl (rfl) (getR hkm) rfl Try.underlying25 sz3 rfl)) ?_
      first | refine Zad [23] [] rfl rfl (fun _ => Zaa (Zah rfl rfl on3 rfl)) ?_ | refine Zac [23] rfl rfl (fun _ => Zaa (Zah rfl rfl on3 rfl)) ?_ | refine Zad [23] [] rfl rfl (fun _ => Zaa (Zak rfl rfl rfl on3 rfl)) ?_ | refine Zac [23] rfl rfl (fun _ => Zaa (Zak rfl rfl rfl on3 rfl)) ?_ | refine Zad [23] [] rfl rfl (fun _ => Zaa (Zaj rfl rfl (rfl) rfl on3 rfl)) ?_ | refine Zac [23] rfl rfl (fun _ => Zaa (Zaj rfl rfl (rfl) rfl on3 rfl)) ?_
      refine dwc 8 rfl rfl rfl (dw1 9 rfl rfl ?_)
      first | refine Zab.go (st_neq rfl rfl rfl) ?_ | refine Zab.go (ZbH rfl rfl rfl) ?_ | refine Zab.go (ZbK rfl rfl rfl) ?_ | refine Zab.go (ZbO Try.underlying3 rfl rfl rfl) ?_ | refine Zab.go (ZbM Try.underlying3 rfl rfl rfl) ?_ | refine Zab.go (st_neqN Try.underlying3 rfl rfl) ?_ | refine Zab.go (ZbN Try.underlying3 rfl rfl rfl) ?_ | refine Zab.go (st_neqFN Try.underlying3 rfl rfl) ?_
      refine Zaf ⟨rfl, ?_⟩;refine dwe ?_
      first | refine ZaR rfl (fun h25 => ?_) (fun h25 => ?_) | refine ZaF rfl (fun h25 => ?_) (fun h25 => ?_)
      · refine Zag (Zae (goAs rfl rfl (Zaf (Zbb ?_))));exact ⟨_, [], [], ZaQ rfl, rfl, rfl, by rw [decide_eq_false (fun e => h25 (by subst e; rfl))], rfl⟩
      · refine ZaC (Zae (goMv rfl rfl (Zab.go (ZaL rfl rfl (IntWalk.i64_in _ (by omega)) rfl) (goAs rfl rfl (Zaf ?_)))));exact ⟨k + 1, ⟨hkl, take_eq hkl hkm hn (Int.ofNat.inj (Classical.not_not.1 h25))⟩, by omega, ⟨rfl, rfl, fun _ _ => Has.get (l := [(0, _), (1, _), (5, _)]) ⟨rfl, rfl, rfl, trivial⟩⟩⟩
    · refine ZaJ (Zag (Zae (goAs rfl rfl (Zaf (Zbb ?_)))));exact ⟨_, [], [], ZaQ rfl, rfl, rfl, by rw [decide_eq_true (takeAll hlm (by have := h14; omega) hn)], rfl⟩
set_option maxRecDepth 100000 in
theorem same_p (l m : List (List Nat)) (hl : l.length ≤ 2000000) (hm : m.length ≤ 2000000) (hl2 : ∀ x ∈ l, x.length ≤ 2000000) (hm2 : ∀ x ∈ m, x.length ≤ 2000000) : PCalls Try.prog 18 [.d (grD l), .d (grD m)] (boolD (decide (l = m))) := by
  refine Za1 Try.func18 rfl rfl Try.ntmps18 rfl rfl rfl fun F hF => (Zag (Zae ?_));refine goAs rfl rfl (Zaf (Zag (Zag (Zae (goMv rfl rfl (Zab.go (ZaD rfl (List.length_map ..) Try.underlying22 rfl) (goMv rfl rfl (Zab.go (ZaD rfl (List.length_map ..) Try.underlying22 rfl) ?_))))))))
  first | refine Zab.go (st_neq rfl rfl rfl) ?_ | refine Zab.go (ZbH rfl rfl rfl) ?_ | refine Zab.go (ZbK rfl rfl rfl) ?_ | refine Zab.go (ZbO Try.underlying3 rfl rfl rfl) ?_ | refine Zab.go (ZbM Try.underlying3 rfl rfl rfl) ?_ | refine Zab.go (st_neqN Try.underlying3 rfl rfl) ?_ | refine Zab.go (ZbN Try.underlying3 rfl rfl rfl) ?_ | refine Zab.go (st_neqFN Try.underlying3 rfl rfl) ?_
  refine Zaf ?_
  first | refine ZaR rfl (fun h10 => ?_) (fun h10 => ?_) | refine ZaF rfl (fun h10 => ?_) (fun h10 => ?_)
  · refine Zag (Zae (goAs rfl rfl (Zaf (Zbb ?_))));exact ⟨_, [], [], ZaQ rfl, rfl, rfl, by rw [decide_eq_false (fun e => h10 (by rw [e]))], rfl⟩
  · refine ZaC (Zag (Zag (Zae (goAs rfl rfl (Zaf (Zaz ?_))))));have hlm : l.length = m.length := Int.ofNat.inj (Classical.not_not.1 h10);refine a_loop (α := Nat) (fun k => ⟨27, [(0, .d (grD l)), (1, .d (grD m)), (5, (.d (natD k)))], []⟩) (fun k => k ≤ l.length ∧ l.take k = m.take k) (fun k => l.length - k) (0) (⟨Nat.zero_le _, by simp⟩) (le_of_has ⟨rfl, rfl, rfl, trivial⟩) ?_;rintro k ⟨hk, hn⟩;refine Zag (Zag (Zae (goMv rfl rfl (goMv rfl rfl (Zab.go (ZaD rfl (List.length_map ..) Try.underlying22 rfl) ?_)))))
    first | refine Zab.go (ZaW rfl rfl rfl) ?_ | refine Zab.go (ZaS rfl rfl rfl) ?_
    refine Zaf ?_
    first | refine ZaR rfl (fun h14 => ?_) (fun h14 => ?_) | refine ZaF rfl (fun h14 => ?_) (fun h14 => ?_)
    · refine ZaC (Zag (Zaz (Zag ?_)));have hkl : k < l.length := Zbd h14;have hkm : k < m.length := by omega
      refine Zbk [[], [], [0, 1], [0, 1, 2], [], [], [4, 5], [4, 5, 6], [0, 1, 2, 3, 4, 5, 6, 7], [0, 1, 2, 3, 4, 5, 6, 7, 8]] mixed rfl (dws ?_)
      first | refine Zad [0] [] rfl rfl (fun _ => Zaa (Zai rfl rfl)) ?_ | refine Zac [0] rfl rfl (fun _ => Zaa (Zai rfl rfl)) ?_
      first | refine Zad [5] [] rfl rfl (fun _ => Zaa (Zai rfl rfl)) ?_ | refine Zac [5] rfl rfl (fun _ => Zaa (Zai rfl rfl)) ?_
      first | refine Zad [17, 18] [] rfl rfl (fun _ => Zaa (Zam (k) rfl rfl (rfl) (getS hkl) Try.underlying22 rfl sz25 rfl)) ?_ | refine Zac [17, 18] rfl rfl (fun _ => Zaa (Zam (k) rfl rfl (rfl) (getS hkl) Try.underlying22 rfl sz25 rfl)) ?_ | refine Zad [17, 18] [] rfl rfl (fun _ => Zaa (Zal (k) rfl rfl (rfl) (getS hkl) rfl Try.underlying22 sz25 rfl)) ?_ | refine Zac [17, 18] rfl rfl (fun _ => Zaa (Zal (k) rfl rfl (rfl) (getS hkl) rfl Try.underlying22 sz25 rfl)) ?_
      first | refine Zad [19] [] rfl rfl (fun _ => Zaa (Zah rfl rfl on25 rfl)) ?_ | refine Zac [19] rfl rfl (fun _ => Zaa (Zah rfl rfl on25 rfl)) ?_ | refine Zad [19] [] rfl rfl (fun _ => Zaa (Zak rfl rfl rfl on25 rfl)) ?_ | refine Zac [19] rfl rfl (fun _ => Zaa (Zak rfl rfl rfl on25 rfl)) ?_ | refine Zad [19] [] rfl rfl (fun _ => Zaa (Zaj rfl rfl (rfl) rfl on25 rfl)) ?_ | refine Zac [19] rfl rfl (fun _ => Zaa (Zaj rfl rfl (rfl) rfl on25 rfl)) ?_
      first | refine Zad [1] [] rfl rfl (fun _ => Zaa (Zai rfl rfl)) ?_ | refine Zac [1] rfl rfl (fun _ => Zaa (Zai rfl rfl)) ?_
      first | refine Zad [5] [] rfl rfl (fun _ => Zaa (Zai rfl rfl)) ?_ | refine Zac [5] rfl rfl (fun _ => Zaa (Zai rfl rfl)) ?_
      first | refine Zad [21, 22] [] rfl rfl (fun _ => Zaa (Zam (k) rfl rfl (rfl) (getS hkm) Try.underlying22 rfl sz25 rfl)) ?_ | refine Zac [21, 22] rfl rfl (fun _ => Zaa (Zam (k) rfl rfl (rfl) (getS hkm) Try.underlying22 rfl sz25 rfl)) ?_ | refine Zad [21, 22] [] rfl rfl (fun _ => Zaa (Zal (k) rfl rfl (rfl) (getS hkm) rfl Try.underlying22 sz25 rfl)) ?_ | refine Zac [21, 22] rfl rfl (fun _ => Zaa (Zal (k) rfl rfl (rfl) (getS hkm) rfl Try.underlying22 sz25 rfl)) ?_
      first | refine Zad [23] [] rfl rfl (fun _ => Zaa (Zah rfl rfl on25 rfl)) ?_ | refine Zac [23] rfl rfl (fun _ => Zaa (Zah rfl rfl on25 rfl)) ?_ | refine Zad [23] [] rfl rfl (fun _ => Zaa (Zak rfl rfl rfl on25 rfl)) ?_ | refine Zac [23] rfl rfl (fun _ => Zaa (Zak rfl rfl rfl on25 rfl)) ?_ | refine Zad [23] [] rfl rfl (fun _ => Zaa (Zaj rfl rfl (rfl) rfl on25 rfl)) ?_ | refine Zac [23] rfl rfl (fun _ => Zaa (Zaj rfl rfl (rfl) rfl on25 rfl)) ?_
      refine dwc 8 rfl rfl rfl (dw1 9 rfl rfl (Zab.go (Zbo (eqN_p l[k] m[k] (hl2 _ (List.getElem_mem hkl)) (hm2 _ (List.getElem_mem hkm))) rfl rfl) (Zaf ⟨rfl, ?_⟩)));refine dw1 10 rfl rfl ?_
      first | refine Zab.go (ZbD rfl rfl) ?_ | refine Zab.go (ZbI rfl rfl) ?_
      refine Zaf ⟨rfl, ?_⟩;refine dwe ?_
      first | refine ZaR rfl (fun h26 => ?_) (fun h26 => ?_) | refine ZaF rfl (fun h26 => ?_) (fun h26 => ?_)
      · refine Zag (Zae (goAs rfl rfl (Zaf (Zbb ?_))));exact ⟨_, [], [], ZaQ rfl, rfl, rfl, by rw [decide_eq_false (fun e => h26 (by subst e; rfl))], rfl⟩
      · refine ZaC (Zae (goMv rfl rfl (Zab.go (ZaL rfl rfl (IntWalk.i64_in _ (by omega)) rfl) (goAs rfl rfl (Zaf ?_)))));exact ⟨k + 1, ⟨hkl, take_eq hkl hkm hn (Classical.not_not.1 h26)⟩, by omega, ⟨rfl, rfl, fun _ _ => Has.get (l := [(0, _), (1, _), (5, _)]) ⟨rfl, rfl, rfl, trivial⟩⟩⟩
    · refine ZaJ (Zag (Zae (goAs rfl rfl (Zaf (Zbb ?_)))));exact ⟨_, [], [], ZaQ rfl, rfl, rfl, by rw [decide_eq_true (takeAll hlm (by have := h14; omega) hn)], rfl⟩
theorem cycle0_p : PCalls Try.prog 14 [.d (grD g0)] (.tup [natsD [1, 2], boolD true, intD 0]) := by
  have h := cycle_c g0 g0_gt;refine ⟨h.1, fun F ρ vs h1 h2 h2' h3 h4 h5 => (h.2 F ρ vs h1 h2 h2' h3 h4 h5).mono fun e w' ⟨v, r, H', ρ', e1, ⟨best, out, hC, hr, hH⟩, hrep, hh⟩ => ⟨v, r, H', ρ', e1, ⟨?_, hH⟩, hrep, hh⟩⟩;rw [hr, cyc0 hC]
  rfl
set_option maxRecDepth 100000 in
theorem known_p : PCalls Try.prog 12 [] (boolD true) := by
  have hc := components_p g0 g0_gt;rw [com0] at hc;refine Za1 Try.func12 rfl rfl Try.ntmps12 rfl rfl rfl fun F hF => (Zag (Zae (goAs rfl rfl (Zaf (Zag ?_)))));refine Zae (Zau.go (ZaN 11 sl25 rfl rfl rfl rfl rfl rfl rfl rfl) (ZbW (emb := natD) 7 11 [1] rfl rfl rfl rfl rfl rfl rfl (Zau.go (ZaN 12 sl25 rfl rfl rfl rfl rfl rfl rfl rfl) (ZbW (emb := natD) 8 12 [2] rfl rfl rfl rfl rfl rfl rfl (Zau.go (ZaN 13 sl25 rfl rfl rfl rfl rfl rfl rfl rfl) (ZbW (emb := natD) 9 13 [1, 3] rfl rfl rfl rfl rfl rfl rfl (Zau.go (ZaN 14 sl25 rfl rfl rfl rfl rfl rfl rfl rfl) (ZbW (emb := natD) 10 14 [] rfl rfl rfl rfl rfl rfl rfl ?_))))))));refine Zau.go (ZaN 15 sl32 rfl rfl rfl rfl rfl rfl rfl rfl) (ZbW (emb := natsD) 11 15 g0 rfl rfl rfl rfl rfl rfl rfl (goAs rfl rfl (Zaf (Zag (Zae (goMv rfl rfl (Zab.go (Zbo (hc) rfl rfl) (goMv rfl rfl ?_))))))))
  first | refine Zab.go (ZaE rfl rfl rfl) ?_ | refine Zab.go (ZaI rfl rfl rfl) ?_
  first | refine Zab.go (ZaE rfl rfl rfl) ?_ | refine Zab.go (ZaI rfl rfl rfl) ?_
  refine goAs rfl rfl (goAs rfl rfl (Zaf (Zag (Zae (goMv rfl rfl (Zab.go (Zbo (cycle0_p) rfl rfl) (goMv rfl rfl ?_)))))))
  first | refine Zab.go (ZaE rfl rfl rfl) ?_ | refine Zab.go (ZaI rfl rfl rfl) ?_
  first | refine Zab.go (ZaE rfl rfl rfl) ?_ | refine Zab.go (ZaI rfl rfl rfl) ?_
  first | refine Zab.go (ZaE rfl rfl rfl) ?_ | refine Zab.go (ZaI rfl rfl rfl) ?_
  refine goAs rfl rfl (goAs rfl rfl (goAs rfl rfl (Zaf (Zag (Zae (goMv rfl rfl ?_))))))
  first | refine Zab.go (Zbl rfl rfl rfl) ?_ | refine Zab.go (ZaY rfl rfl rfl) ?_ | refine Zab.go (Za5 rfl rfl rfl) ?_ | refine Zab.go (Za9 Try.underlying26 rfl rfl rfl) ?_ | refine Zab.go (Za6 Try.underlying26 rfl rfl rfl) ?_ | refine Zab.go (Za7 Try.underlying26 rfl rfl) ?_ | refine Zab.go (Za8 Try.underlying26 rfl rfl rfl) ?_ | refine Zab.go (ZaZ Try.underlying26 rfl rfl) ?_
  refine goMv rfl rfl (o_setT 25 rfl (decide_eq_true (by decide)) ?_);refine ZaH rfl rfl rfl (goMv rfl rfl (ZaH rfl rfl rfl (Zau.go (ZaN 21 sl25 rfl rfl rfl rfl rfl rfl rfl rfl) (ZbW (emb := natD) 27 21 [0] rfl rfl rfl rfl rfl rfl rfl (ZaH rfl rfl rfl (Zau.go (ZaN 22 sl25 rfl rfl rfl rfl rfl rfl rfl rfl) (ZbW (emb := natD) 28 22 [1, 2] rfl rfl rfl rfl rfl rfl rfl (ZaH rfl rfl rfl ?_))))))));refine Zau.go (ZaN 23 sl25 rfl rfl rfl rfl rfl rfl rfl rfl) (ZbW (emb := natD) 29 23 [3] rfl rfl rfl rfl rfl rfl rfl (ZaH rfl rfl rfl (Zau.go (ZaN 24 sl22 rfl rfl rfl rfl rfl rfl rfl rfl) (ZbW (emb := natsD) 30 24 [[0], [1, 2], [3]] rfl rfl rfl rfl rfl rfl rfl (ZaH rfl rfl rfl (Zab.go (Zbo (same_p [[0], [1, 2], [3]] [[0], [1, 2], [3]] (by decide) (by decide) (by decide) (by decide)) rfl rfl) (Zab.go (Za3 rfl rfl rfl rfl) (goMv rfl rfl ?_))))))));refine o_setT 33 rfl (decide_eq_true (by decide)) (ZaH rfl rfl rfl (goMv rfl rfl (Zab.go (Za3 rfl rfl rfl rfl) (goMv rfl rfl (o_setT 36 rfl (rfl) (ZaH rfl rfl rfl (goMv rfl rfl (ZaH rfl rfl rfl ?_))))))))
  first | refine Zab.go (Zbl rfl rfl rfl) ?_ | refine Zab.go (ZaY rfl rfl rfl) ?_ | refine Zab.go (Za5 rfl rfl rfl) ?_ | refine Zab.go (Za9 Try.underlying26 rfl rfl rfl) ?_ | refine Zab.go (Za6 Try.underlying26 rfl rfl rfl) ?_ | refine Zab.go (Za7 Try.underlying26 rfl rfl) ?_ | refine Zab.go (Za8 Try.underlying26 rfl rfl rfl) ?_ | refine Zab.go (ZaZ Try.underlying26 rfl rfl) ?_
  refine Zab.go (Za3 rfl rfl rfl rfl) (goMv rfl rfl (o_setT 40 rfl (decide_eq_true (by decide)) (ZaH rfl rfl rfl (goMv rfl rfl ?_))));refine ZaH rfl rfl rfl (Zau.go (ZaN 25 sl25 rfl rfl rfl rfl rfl rfl rfl rfl) (ZbW (emb := natD) 42 25 [1, 2] rfl rfl rfl rfl rfl rfl rfl (ZaH rfl rfl rfl (Zab.go (Zbo (eqN_p [1, 2] [1, 2] (by decide) (by decide)) rfl rfl) (Zab.go (Za3 rfl rfl rfl rfl) (goAs rfl rfl (Zaf (Zbb ?_))))))));exact ⟨_, [], [], ZaQ rfl, rfl, rfl, rfl, rfl⟩
end Go.Proofs.Ytgdppeobgefogaa
/- Layer 31: small graphs; the reference's Reverse. -/
namespace Go.Proofs.Ytgdppeobgefogaa
open Go.RowKit
def clN (n : Nat) (x : Int) : Nat := (Int.emod x 18446744073709551616).toNat % n
def rowC (n : Nat) (l : List Int) : List Nat := (l.take 14).map (clN n)
def smlG (g : List (List Int)) : List (List Nat) := (g.take (min g.length 14)).map (rowC (min g.length 14))
theorem wrapU (x : Int) : IntKind.u64.wrap x = Int.emod x 18446744073709551616 := rfl
theorem clN_eq {n : Nat} (h0 : 0 < n) (hn : n ≤ 14) (x : Int) : IntKind.i64.wrap (Int.tmod (IntKind.u64.wrap x) (n : Int)) = (clN n x : Int) := by
  have h1 : 0 ≤ Int.emod x 18446744073709551616 := Int.emod_nonneg _ (by decide)
  obtain ⟨y, hy⟩ : ∃ y : Nat, Int.emod x 18446744073709551616 = (y : Int) := ⟨_, (Int.toNat_of_nonneg h1).symm⟩
  rw [wrapU];unfold clN;rw [hy, Int.toNat_natCast];have e : Int.tmod (y : Int) (n : Int) = ((y % n : Nat) : Int) := rfl;rw [e];have := Nat.mod_lt y h0;exact IntWalk.i64_in _ (by omega)
theorem smlG_len (g : List (List Int)) : (smlG g).length = min g.length 14 := by simp [smlG] <;> omega
theorem smlG_gt (g : List (List Int)) : GT (smlG g) := by
  have hl := smlG_len g
  have hrow : ∀ l ∈ smlG g, l.length ≤ 14 := fun l hl => by
    obtain ⟨m, _, rfl⟩ := List.mem_map.1 hl;unfold rowC; rw [List.length_map, List.length_take]; omega
  refine ⟨⟨by omega, fun l hl => by have := hrow l hl; omega, fun l hlm x hx => ?_⟩, ?_⟩
  · have h0 : 0 < (smlG g).length := List.length_pos_of_mem hlm;obtain ⟨m, _, rfl⟩ := List.mem_map.1 hlm;obtain ⟨y, _, rfl⟩ := List.mem_map.1 hx;rw [hl] at h0 ⊢;exact Nat.mod_lt _ h0
  · have key : ∀ m, m ≤ (smlG g).length → totG (smlG g) m ≤ m * 14 := by
      intro m
      induction m with
      | zero => intro _; exact Nat.zero_le _
      | succ m ih =>
        intro hm;have h1 := ih (by omega);have h2 := hrow (sucs (smlG g) m) (by rw [sucs_get (by omega)]; exact List.getElem_mem _);have h3 : totG (smlG g) (m + 1) = totG (smlG g) m + (sucs (smlG g) m).length := by unfold totG; rw [List.range_succ, List.map_append, List.sum_append]; simp
        omega
    have := key _ (Nat.le_refl _);omega
theorem take_min {α : Type} {l : List α} {j m : Nat} (h : j = min l.length m) : l.take j = l.take m := by
  subst h;rcases Nat.le_total l.length m with h | h
  · rw [Nat.min_eq_left h, List.take_of_length_le (Nat.le_refl _), List.take_of_length_le h]
  · rw [Nat.min_eq_right h]
end Go.Proofs.Ytgdppeobgefogaa
/- Layer 31: the reference's Reverse; the components of the reversed graph. -/
namespace Go.Proofs.Ytgdppeobgefogaa
open Go.RowKit
end Go.Proofs.Ytgdppeobgefogaa
