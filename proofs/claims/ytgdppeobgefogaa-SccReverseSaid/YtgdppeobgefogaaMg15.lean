/- Layer 31: components in order. -/
import Derived.Test.YtgdppeobgefogaaMg14
namespace Go.Proofs.Ytgdppeobgefogaa
open Go.RowKit
set_option maxRecDepth 100000 in
set_option maxHeartbeats 1000000 in
theorem condensed_c (g : List (List Nat)) (hg : GT g) : ACalls Try.prog 32 [.d (grD g)] [] fun r H' => ∃ of cnt, SccOf g.length (sucs g) of cnt ∧ r = .d (.tup [grD (grF cnt (outT (fun v => conM g of cnt (of v)) g.length)), natsD ((List.range g.length).map fun v => conM g of cnt (of v))]) ∧ H' = [] := by
  have hn := hg.gb.n;refine Zbf Try.func32 rfl rfl Try.ntmps32 rfl rfl rfl fun F hF => (Zag (Zae (goAs rfl rfl (goAs rfl rfl (Zaf (Zag (Zae (goMv rfl rfl ?_))))))));refine o_step (st_callX (component_c g hg.gb) rfl [2] ⟨rfl, trivial⟩ rfl rfl rfl rfl (fun r H' ⟨of, cnt, h1, h2, h3⟩ => by subst h2 h3; exact ⟨rfl, rfl, rfl⟩) rfl) rfl ?_; rintro _ ⟨r, H', ⟨of, cnt, hso, rfl, rfl⟩, rfl⟩;refine goMv rfl rfl ?_
  first | refine Zab.go (ZaO rfl rfl rfl) ?_ | refine Zab.go (ZaP rfl rfl rfl) ?_
  first | refine Zab.go (ZaO rfl rfl rfl) ?_ | refine Zab.go (ZaP rfl rfl rfl) ?_
  refine goAs rfl rfl (goAs rfl rfl (Zaf (Zag ?_)));have hcn := hso.le;refine Zae (goMv rfl rfl (Zaw.go (st_make 6 sl25 rfl rfl rfl (by omega) zd3 rfl rfl rfl rfl) (Zaw.go (st_alloc 5 zl25 rfl rfl rfl rfl) (Zaw.go (st_storeP rfl rfl rfl rfl rfl rfl rfl sz25) (Zaf (Zag (Zag ?_)))))));rw [repN];refine Zae (goMv rfl rfl (Zab.go (ZaD rfl (List.length_map ..) Try.underlying32 rfl) (Zab.go (Zbl rfl rfl (IntWalk.i64_in _ (by omega)) rfl) (o_as 29 (.d (intD ((g.length : Int) - 1 - ((0 : Nat) : Int)))) rfl (eqv (congrArg intD (by omega))) (goAs rfl rfl (Zaf (Zay (Za0 (α := Nat) (fun d => ⟨142, [(0, .d (grD g)), (4, (.own 2 0 g.length)), (5, (.d (natD cnt))), (6, (.ptr 5 0 0)), (7, (.d (intD ((g.length : Int) - 1 - (d : Int)))))], [(2, [.rowD 3 1 (rowN g.length of)]), (5, [.blk 25 [.own 6 0 cnt]]), (6, [.rowD 3 1 (rowN cnt (lfT of g.length d))])]⟩) (fun d => d ≤ g.length) (fun d => g.length - d) (0) (Nat.zero_le _) (Zax hF [2, 5, 6] rfl rfl ⟨rfl, rfl, rfl, rfl, rfl, trivial⟩) ?_))))))));intro d hd;refine Zag (Zag (Zae (goMv rfl rfl (Zab.go (st_geq rfl rfl rfl) (Zaf ?_)))))
  first | refine ZaU rfl (fun h31 => ?_) (fun h31 => ?_) | refine ZaF rfl (fun h31 => ?_) (fun h31 => ?_)
  · refine ZaC (Zag (Zay ?_));have hdl : g.length - 1 - d < g.length := by omega
    refine a_as 7 (.d (natD (g.length - 1 - d))) rfl (eqv (congrArg intD (by omega))) ?_;have hoc := hso.lt _ hdl;refine Za4 [[], [], [], [1, 2], [1, 2, 3], [], [0, 1, 2, 3, 4, 5], [0, 1, 2, 3, 4, 5, 6]] mixed rfl (dws ?_)
    first | refine Zad [6] [] rfl rfl (fun _ => Zaa (Zai rfl rfl on25 rfl)) ?_ | refine Zac [6] rfl rfl (fun _ => Zaa (Zai rfl rfl on25 rfl)) ?_ | refine Zad [6] [] rfl rfl (fun _ => Zaa (Zak rfl rfl rfl on25 rfl)) ?_ | refine Zac [6] rfl rfl (fun _ => Zaa (Zak rfl rfl rfl on25 rfl)) ?_ | refine Zad [6] [] rfl rfl (fun _ => Zaa (Zaj rfl rfl (rfl) rfl on25 rfl)) ?_ | refine Zac [6] rfl rfl (fun _ => Zaa (Zaj rfl rfl (rfl) rfl on25 rfl)) ?_
    first | refine Zad [4] [] rfl rfl (fun _ => Zaa (Zah rfl rfl)) ?_ | refine Zac [4] rfl rfl (fun _ => Zaa (Zah rfl rfl)) ?_
    first | refine Zad [7] [] rfl rfl (fun _ => Zaa (Zah rfl rfl)) ?_ | refine Zac [7] rfl rfl (fun _ => Zaa (Zah rfl rfl)) ?_
    first | refine Zad [35, 36] [] rfl rfl (fun _ => Zaa (Zam (g.length - 1 - d) rfl rfl (rfl) (hdl) Try.underlying25 rfl sz3 rfl)) ?_ | refine Zac [35, 36] rfl rfl (fun _ => Zaa (Zam (g.length - 1 - d) rfl rfl (rfl) (hdl) Try.underlying25 rfl sz3 rfl)) ?_ | refine Zad [35, 36] [] rfl rfl (fun _ => Zaa (Zal (g.length - 1 - d) rfl rfl (rfl) (hdl) rfl Try.underlying25 sz3 rfl)) ?_ | refine Zac [35, 36] rfl rfl (fun _ => Zaa (Zal (g.length - 1 - d) rfl rfl (rfl) (hdl) rfl Try.underlying25 sz3 rfl)) ?_
    first | refine Zad [37] [] rfl rfl (fun _ => Zaa (Zai rfl rfl on3 rfl)) ?_ | refine Zac [37] rfl rfl (fun _ => Zaa (Zai rfl rfl on3 rfl)) ?_ | refine Zad [37] [] rfl rfl (fun _ => Zaa (Zak rfl rfl rfl on3 rfl)) ?_ | refine Zac [37] rfl rfl (fun _ => Zaa (Zak rfl rfl rfl on3 rfl)) ?_ | refine Zad [37] [] rfl rfl (fun _ => Zaa (Zaj rfl rfl (ZaM hdl) rfl on3 rfl)) ?_ | refine Zac [37] rfl rfl (fun _ => Zaa (Zaj rfl rfl (ZaM hdl) rfl on3 rfl)) ?_
    first | refine Zad [7] [] rfl rfl (fun _ => Zaa (Zah rfl rfl)) ?_ | refine Zac [7] rfl rfl (fun _ => Zaa (Zah rfl rfl)) ?_
    refine dwc 6 rfl rfl rfl (dw1 7 rfl rfl ?_)
    first | refine Zab.go (Zam (of (g.length - 1 - d)) rfl rfl (rfl) (hoc) Try.underlying25 rfl sz3 rfl) ?_ | refine Zab.go (Zal (of (g.length - 1 - d)) rfl rfl (rfl) (hoc) rfl Try.underlying25 sz3 rfl) ?_
    refine Zaf ⟨rfl, ?_⟩;refine dw1 8 rfl rfl (Zaw.go (Za2 rfl rfl rfl rfl rfl (by rw [rowN_len]; exact hoc) rowN_set rfl sz3) (Zaf ⟨rfl, ?_⟩));refine dwe (Zae (goMv rfl rfl (Zab.go (Zbl rfl rfl (IntWalk.i64_in _ (by omega)) rfl) (o_as 33 (.d (intD ((g.length : Int) - 1 - ((d + 1 : Nat) : Int)))) rfl (eqv (congrArg intD (by omega))) (goAs rfl rfl (Zaf ?_))))));exact ⟨d + 1, by omega, by omega, Zax hF [2, 5, 6] rfl (rfl) ⟨rfl, rfl, rfl, rfl, rfl, trivial⟩⟩
  · refine ZaL (Zag ?_);have hdn : d = g.length := by omega
    subst hdn;refine Zae (goMv rfl rfl (Zaw.go (st_make 7 sl32 rfl rfl rfl (by omega) zd25 rfl rfl rfl rfl) (goAs rfl rfl (Zaf (Zag (Zag ?_))))));refine a_weakRow 7 0 (rowH cnt (fun _ => none) (fun _ => [])) rfl (by rw [ZbG, List.length_replicate]) (nil_rowH cnt) ⟨one_nil _, one_rowH _ _ _⟩ rfl (a_multi 40 rfl rfl rfl (Zae (goMv rfl rfl (Zab.go (ZaD rfl (List.length_map ..) Try.underlying32 rfl) (goMv rfl rfl (Zaf (Zay (Za0 (α := Nat × MF × (Nat → Hd)) (fun q => ⟨142, [(0, .d (grD g)), (4, (.own 2 0 g.length)), (5, (.d (natD cnt))), (6, (.ptr 5 0 0)), (8, (.own 7 0 cnt)), (43, (.d (grD g))), (44, (.d (natD g.length))), (45, (.d (natD q.1)))], [(2, [.rowD 3 1 (rowN g.length of)]), (5, [.blk 25 [.own 6 0 cnt]]), (6, [.rowD 3 1 (rowN cnt (lfT of g.length g.length))]), (7, [.rowD 25 1 (rowH cnt q.2.2 (edT g of q.1 0))]), (40, [.multi q.2.1])]⟩) (fun q => q.1 ≤ g.length ∧ GRep q.2.1 cnt q.2.2 (edT g of q.1 0)) (fun q => g.length - q.1) ((0, fun _ => none, fun _ => none)) (⟨Nat.zero_le _, by rw [edT_zero]; exact GRep.zero _⟩) (Zax hF [2, 5, 6, 7, 40] rfl rfl ⟨rfl, rfl, rfl, rfl, rfl, rfl, rfl, rfl, trivial⟩) ?_))))))));rintro ⟨i, M, hs⟩ ⟨hi, hr⟩;dsimp only at hi hr ⊢;refine Zag (Zae ?_)
    first | refine Zab.go (ZaY rfl rfl rfl) ?_ | refine Zab.go (ZaT rfl rfl rfl) ?_
    refine Zaf (Zag ?_)
    first | refine ZaU rfl (fun h46 => ?_) (fun h46 => ?_) | refine ZaF rfl (fun h46 => ?_) (fun h46 => ?_)
    · refine ZaC (Zag (Zay (Zag ?_)));have hil : i < g.length := Za7 h46;have hoi := hso.lt i hil;refine Zae (goMv rfl rfl ?_)
      first | refine Zab.go (Zam (i) rfl rfl (rfl) (getg hil) Try.underlying32 rfl sz25 rfl) ?_ | refine Zab.go (Zal (i) rfl rfl (rfl) (getg hil) rfl Try.underlying32 sz25 rfl) ?_
      first | refine Zab.go (Zai rfl rfl on25 rfl) ?_ | refine Zab.go (Zak rfl rfl rfl on25 rfl) ?_ | refine Zab.go (Zaj rfl rfl (rfl) rfl on25 rfl) ?_
      refine goAs rfl rfl (goAs rfl rfl ?_);refine Zaf (Zag (Zae (goMv rfl rfl (Zab.go (ZaD rfl (List.length_map ..) Try.underlying25 rfl) (goMv rfl rfl (Zaf (Zay (Za0 (α := Nat × MF × (Nat → Hd)) (fun q => ⟨142, [(0, .d (grD g)), (4, (.own 2 0 g.length)), (5, (.d (natD cnt))), (6, (.ptr 5 0 0)), (8, (.own 7 0 cnt)), (9, (.d (natD i))), (43, (.d (grD g))), (44, (.d (natD g.length))), (45, (.d (natD i))), (50, (.d (natsD (sucs g i)))), (51, (.d (natD (sucs g i).length))), (52, (.d (natD q.1)))], [(2, [.rowD 3 1 (rowN g.length of)]), (5, [.blk 25 [.own 6 0 cnt]]), (6, [.rowD 3 1 (rowN cnt (lfT of g.length g.length))]), (7, [.rowD 25 1 (rowH cnt q.2.2 (edT g of i q.1))]), (40, [.multi q.2.1])]⟩) (fun q => q.1 ≤ (sucs g i).length ∧ GRep q.2.1 cnt q.2.2 (edT g of i q.1)) (fun q => (sucs g i).length - q.1) ((0, M, hs)) (⟨Nat.zero_le _, hr⟩) (Zax hF [2, 5, 6, 7, 40] rfl rfl ⟨rfl, rfl, rfl, rfl, rfl, rfl, rfl, rfl, rfl, rfl, rfl, rfl, trivial⟩) ?_))))))));rintro ⟨k, M, hs⟩ ⟨hk, hr⟩;dsimp only at hk hr ⊢;refine Zag (Zae ?_)
      first | refine Zab.go (ZaY rfl rfl rfl) ?_ | refine Zab.go (ZaT rfl rfl rfl) ?_
      refine Zaf (Zag ?_)
      first | refine ZaU rfl (fun h53 => ?_) (fun h53 => ?_) | refine ZaF rfl (fun h53 => ?_) (fun h53 => ?_)
      · refine ZaC (Zag (Zay (Zag ?_)));have hkl : k < (sucs g i).length := Za7 h53;have hgn := getn hkl;have hsl := hg.gb.len hil;have hjl : nth (sucs g i) k < g.length := hg.gb.suc hil (Zbs hkl);have hst0 := edT_step (of := of) hkl;have hsk0 := edT_skip (of := of) hkl
        obtain ⟨j, hje⟩ : ∃ j, nth (sucs g i) k = j := ⟨_, rfl⟩
        rw [hje] at hgn hjl hst0 hsk0;have hln := edT_len g of i k (of i);have hlt := Nat.le_trans (totG_mono g (Nat.le_of_lt hil)) hg.tot;have hlt2 : ((sucs g i).take k).length ≤ 1048576 := by rw [List.length_take]; omega
        refine Zae ?_
        first | refine Zab.go (Zam (k) rfl rfl (rfl) (hgn) Try.underlying25 rfl sz3 rfl) ?_ | refine Zab.go (Zal (k) rfl rfl (rfl) (hgn) rfl Try.underlying25 sz3 rfl) ?_
        first | refine Zab.go (Zai rfl rfl on3 rfl) ?_ | refine Zab.go (Zak rfl rfl rfl on3 rfl) ?_ | refine Zab.go (Zaj rfl rfl (rfl) rfl on3 rfl) ?_
        refine goAs rfl rfl (Zaf (Zag (Za4 [[], [], [0, 1], [0, 1, 2], [], [], [4, 5], [4, 5, 6], [0, 1, 2, 3, 4, 5, 6, 7]] mixed rfl (dws ?_))))
        first | refine Zad [4] [] rfl rfl (fun _ => Zaa (Zah rfl rfl)) ?_ | refine Zac [4] rfl rfl (fun _ => Zaa (Zah rfl rfl)) ?_
        first | refine Zad [9] [] rfl rfl (fun _ => Zaa (Zah rfl rfl)) ?_ | refine Zac [9] rfl rfl (fun _ => Zaa (Zah rfl rfl)) ?_
        first | refine Zad [56, 57] [] rfl rfl (fun _ => Zaa (Zam (i) rfl rfl (rfl) (hil) Try.underlying25 rfl sz3 rfl)) ?_ | refine Zac [56, 57] rfl rfl (fun _ => Zaa (Zam (i) rfl rfl (rfl) (hil) Try.underlying25 rfl sz3 rfl)) ?_ | refine Zad [56, 57] [] rfl rfl (fun _ => Zaa (Zal (i) rfl rfl (rfl) (hil) rfl Try.underlying25 sz3 rfl)) ?_ | refine Zac [56, 57] rfl rfl (fun _ => Zaa (Zal (i) rfl rfl (rfl) (hil) rfl Try.underlying25 sz3 rfl)) ?_
        first | refine Zad [58] [] rfl rfl (fun _ => Zaa (Zai rfl rfl on3 rfl)) ?_ | refine Zac [58] rfl rfl (fun _ => Zaa (Zai rfl rfl on3 rfl)) ?_ | refine Zad [58] [] rfl rfl (fun _ => Zaa (Zak rfl rfl rfl on3 rfl)) ?_ | refine Zac [58] rfl rfl (fun _ => Zaa (Zak rfl rfl rfl on3 rfl)) ?_ | refine Zad [58] [] rfl rfl (fun _ => Zaa (Zaj rfl rfl (ZaM hil) rfl on3 rfl)) ?_ | refine Zac [58] rfl rfl (fun _ => Zaa (Zaj rfl rfl (ZaM hil) rfl on3 rfl)) ?_
        first | refine Zad [4] [] rfl rfl (fun _ => Zaa (Zah rfl rfl)) ?_ | refine Zac [4] rfl rfl (fun _ => Zaa (Zah rfl rfl)) ?_
        first | refine Zad [12] [] rfl rfl (fun _ => Zaa (Zah rfl rfl)) ?_ | refine Zac [12] rfl rfl (fun _ => Zaa (Zah rfl rfl)) ?_
        first | refine Zad [60, 61] [] rfl rfl (fun _ => Zaa (Zam (j) rfl rfl (rfl) (hjl) Try.underlying25 rfl sz3 rfl)) ?_ | refine Zac [60, 61] rfl rfl (fun _ => Zaa (Zam (j) rfl rfl (rfl) (hjl) Try.underlying25 rfl sz3 rfl)) ?_ | refine Zad [60, 61] [] rfl rfl (fun _ => Zaa (Zal (j) rfl rfl (rfl) (hjl) rfl Try.underlying25 sz3 rfl)) ?_ | refine Zac [60, 61] rfl rfl (fun _ => Zaa (Zal (j) rfl rfl (rfl) (hjl) rfl Try.underlying25 sz3 rfl)) ?_
        first | refine Zad [62] [] rfl rfl (fun _ => Zaa (Zai rfl rfl on3 rfl)) ?_ | refine Zac [62] rfl rfl (fun _ => Zaa (Zai rfl rfl on3 rfl)) ?_ | refine Zad [62] [] rfl rfl (fun _ => Zaa (Zak rfl rfl rfl on3 rfl)) ?_ | refine Zac [62] rfl rfl (fun _ => Zaa (Zak rfl rfl rfl on3 rfl)) ?_ | refine Zad [62] [] rfl rfl (fun _ => Zaa (Zaj rfl rfl (ZaM hjl) rfl on3 rfl)) ?_ | refine Zac [62] rfl rfl (fun _ => Zaa (Zaj rfl rfl (ZaM hjl) rfl on3 rfl)) ?_
        refine dwc 8 rfl rfl rfl (dw1 9 rfl rfl ?_)
        first | refine Zab.go (st_neq rfl rfl rfl) ?_ | refine Zab.go (ZbA rfl rfl rfl) ?_ | refine Zab.go (ZbB rfl rfl rfl) ?_ | refine Zab.go (ZbE Try.underlying3 rfl rfl rfl) ?_ | refine Zab.go (ZbC Try.underlying3 rfl rfl rfl) ?_ | refine Zab.go (st_neqN Try.underlying3 rfl rfl) ?_ | refine Zab.go (ZbD Try.underlying3 rfl rfl rfl) ?_ | refine Zab.go (st_neqFN Try.underlying3 rfl rfl) ?_
        refine Zaf ⟨rfl, ?_⟩;refine dwe ?_
        first | refine ZaU rfl (fun h64 => ?_) (fun h64 => ?_) | refine ZaF rfl (fun h64 => ?_) (fun h64 => ?_)
        · have hst := hst0 (fun e => h64 (congrArg Int.ofNat e));refine Za4 [[], [], [], [1, 2], [1, 2, 3], [], [], [], [6, 7], [6, 7, 8], [5, 6, 7, 8, 9], [5, 6, 7, 8, 9, 10], [], [], [12, 13], [12, 13, 14], [12, 13, 14, 15], [5, 6, 7, 8, 9, 10, 11, 12, 13, 14, 15, 16], [0, 1, 2, 3, 4, 5, 6, 7, 8, 9, 10, 11, 12, 13, 14, 15, 16, 17], [0, 1, 2, 3, 4, 5, 6, 7, 8, 9, 10, 11, 12, 13, 14, 15, 16, 17, 18]] mixed rfl (dws ?_)
          first | refine Zad [8] [] rfl rfl (fun _ => Zaa (Zah rfl rfl)) ?_ | refine Zac [8] rfl rfl (fun _ => Zaa (Zah rfl rfl)) ?_
          first | refine Zad [4] [] rfl rfl (fun _ => Zaa (Zah rfl rfl)) ?_ | refine Zac [4] rfl rfl (fun _ => Zaa (Zah rfl rfl)) ?_
          first | refine Zad [9] [] rfl rfl (fun _ => Zaa (Zah rfl rfl)) ?_ | refine Zac [9] rfl rfl (fun _ => Zaa (Zah rfl rfl)) ?_
          first | refine Zad [66, 67] [2] rfl rfl (fun _ => Zaa (Zam (i) rfl rfl (rfl) (hil) Try.underlying25 rfl sz3 rfl)) ?_ | refine Zad [66, 67] [2] rfl rfl (fun _ => Zaa (Zal (i) rfl rfl (rfl) (hil) rfl Try.underlying25 sz3 rfl)) ?_
          first | refine Zad [68] [2] rfl rfl (fun _ => Zaa (Zai rfl rfl on3 rfl)) ?_ | refine Zad [68] [2] rfl rfl (fun _ => Zaa (Zak rfl rfl rfl on3 rfl)) ?_ | refine Zad [68] [2] rfl rfl (fun _ => Zaa (Zaj rfl rfl (ZaM hil) rfl on3 rfl)) ?_
          first | refine Zad [8] [] rfl rfl (fun _ => Zaa (Zah rfl rfl)) ?_ | refine Zac [8] rfl rfl (fun _ => Zaa (Zah rfl rfl)) ?_
          first | refine Zad [4] [] rfl rfl (fun _ => Zaa (Zah rfl rfl)) ?_ | refine Zac [4] rfl rfl (fun _ => Zaa (Zah rfl rfl)) ?_
          first | refine Zad [9] [] rfl rfl (fun _ => Zaa (Zah rfl rfl)) ?_ | refine Zac [9] rfl rfl (fun _ => Zaa (Zah rfl rfl)) ?_
          first | refine Zad [71, 72] [2] rfl rfl (fun _ => Zaa (Zam (i) rfl rfl (rfl) (hil) Try.underlying25 rfl sz3 rfl)) ?_ | refine Zad [71, 72] [2] rfl rfl (fun _ => Zaa (Zal (i) rfl rfl (rfl) (hil) rfl Try.underlying25 sz3 rfl)) ?_
          first | refine Zad [73] [2] rfl rfl (fun _ => Zaa (Zai rfl rfl on3 rfl)) ?_ | refine Zad [73] [2] rfl rfl (fun _ => Zaa (Zak rfl rfl rfl on3 rfl)) ?_ | refine Zad [73] [2] rfl rfl (fun _ => Zaa (Zaj rfl rfl (ZaM hil) rfl on3 rfl)) ?_
          first | refine Zad [70, 74] [7] rfl rfl (fun _ => Zaa (Zam (of i) rfl rfl (rfl) (hoi) Try.underlying32 rfl sz25 rfl)) ?_ | refine Zad [70, 74] [7] rfl rfl (fun _ => Zaa (Zal (of i) rfl rfl (rfl) (hoi) rfl Try.underlying32 sz25 rfl)) ?_
          first | refine Zad [75] [7] rfl rfl (fun _ => Zaa (Zai rfl rfl on25 rfl)) ?_ | refine Zad [75] [7] rfl rfl (fun _ => Zaa (Zak rfl rfl rfl on25 rfl)) ?_ | refine Zad [75] [7] rfl rfl (fun _ => Zaa (Zaj rfl rfl (rowH_get hoi) rfl on25 rfl)) ?_
          first | refine Zad [4] [] rfl rfl (fun _ => Zaa (Zah rfl rfl)) ?_ | refine Zac [4] rfl rfl (fun _ => Zaa (Zah rfl rfl)) ?_
          first | refine Zad [12] [] rfl rfl (fun _ => Zaa (Zah rfl rfl)) ?_ | refine Zac [12] rfl rfl (fun _ => Zaa (Zah rfl rfl)) ?_
          first | refine Zad [77, 78] [2] rfl rfl (fun _ => Zaa (Zam (j) rfl rfl (rfl) (hjl) Try.underlying25 rfl sz3 rfl)) ?_ | refine Zad [77, 78] [2] rfl rfl (fun _ => Zaa (Zal (j) rfl rfl (rfl) (hjl) rfl Try.underlying25 sz3 rfl)) ?_
          first | refine Zad [79] [2] rfl rfl (fun _ => Zaa (Zai rfl rfl on3 rfl)) ?_ | refine Zad [79] [2] rfl rfl (fun _ => Zaa (Zak rfl rfl rfl on3 rfl)) ?_ | refine Zad [79] [2] rfl rfl (fun _ => Zaa (Zaj rfl rfl (ZaM hjl) rfl on3 rfl)) ?_
          refine d_eff [80] [21] [(81, _)] rfl rfl (fun _ => ge_none (ZaN 21 sl25 rfl rfl rfl rfl rfl rfl rfl rfl)) (.inr ⟨81, _, rfl, rfl, rfl, rfl, rfl⟩) rfl rfl rfl rfl rfl (d_eff [76, 81] [60, 40, 21] [(82, _)] rfl rfl (fun _ => ge_none (st_appH 76 60 40 (hr.at_ (of i) hoi) rfl rfl (by rw [List.length_map]) rfl rfl rfl rfl rfl (st_appM (emb := natD) (edT g of i k (of i)) [of j] rfl rfl rfl rfl rfl rfl rfl rfl sl25 (by show ((edT g of i k (of i)).length + 1) * 8 ≤ _; omega) rfl rfl rfl rfl))) (.inr ⟨82, _, rfl, rfl, rfl, rfl, rfl⟩) rfl rfl rfl rfl rfl (dwc 18 rfl rfl rfl (dw1 19 rfl rfl (o_absorbR 82 60 40 hF rfl rfl rfl (by rw [List.length_map]) (by simp) rfl rfl rfl rfl rfl rfl rfl (fun _ _ => rfl) fun b c hb hc => ?_))))
          first | refine Zab.go (Zam (of i) rfl rfl (rfl) (hoi) Try.underlying32 rfl sz25 rfl) ?_ | refine Zab.go (Zal (of i) rfl rfl (rfl) (hoi) rfl Try.underlying32 sz25 rfl) ?_
          refine Zaf ⟨rfl, ?_⟩;refine dw1 20 rfl rfl (Zaw.go (Za2 rfl rfl rfl rfl rfl (by rw [ZbG]; exact hoi) (rowH_set (h := some (b, c))) rfl sz25) (Zaf ⟨rfl, ?_⟩));refine dwe (Zae (Zab.go (ZaJ rfl rfl (IntWalk.i64_in _ (by omega)) rfl) (goMv rfl rfl (Zaf ?_))));exact ⟨(k + 1, mput_ (mdelH M (hs (of i))) b (.row 3 1 c ((edT g of i k (of i) ++ [of j]).map natD)), updF hs (of i) (some (b, c))), ⟨hkl, by have := hr.app hoi hb hc; rw [hst] at this; exact this⟩, by show (sucs g i).length - (k + 1) < (sucs g i).length - k; omega, Zax hF [2, 5, 6, 7, 40] rfl (by rw [hst]; rfl) ⟨rfl, rfl, rfl, rfl, rfl, rfl, rfl, rfl, rfl, rfl, rfl, rfl, trivial⟩⟩
        · have hsk := hsk0 (fun h => h64 (fun e => h (Int.ofNat.inj e)));refine ZaC (Zae (Zab.go (ZaJ rfl rfl (IntWalk.i64_in _ (by omega)) rfl) (goMv rfl rfl (Zaf ?_))));exact ⟨(k + 1, M, hs), ⟨hkl, by rw [← hsk]; exact hr⟩, by show (sucs g i).length - (k + 1) < (sucs g i).length - k; omega, Zax hF [2, 5, 6, 7, 40] rfl (by rw [← hsk]; rfl) ⟨rfl, rfl, rfl, rfl, rfl, rfl, rfl, rfl, rfl, rfl, rfl, rfl, trivial⟩⟩
      · refine ZaL ?_;have hke : k = (sucs g i).length := by have := h53; omega
        subst hke;refine Zae (Zab.go (ZaJ rfl rfl (IntWalk.i64_in _ (by omega)) rfl) (goMv rfl rfl (Zaf ?_)));exact ⟨(i + 1, M, hs), ⟨hil, by rw [← edT_row]; exact hr⟩, by show g.length - (i + 1) < g.length - i; omega, Zax hF [2, 5, 6, 7, 40] rfl (by rw [edT_row]; rfl) ⟨rfl, rfl, rfl, rfl, rfl, rfl, rfl, rfl, trivial⟩⟩
    · refine ZaL (Zag ?_);have hin : i = g.length := by have := h46; omega
      subst hin;refine a_melt 7 0 40 ((edG g of cnt).map natsD) rfl rfl rfl rfl rfl (by rw [List.length_map, edG, Zbt, ZbG]) hr.melt ⟨one_rowH _ _ _, one_gr _⟩ rfl (Zbm (emb := natsD) 8 7 (edG g of cnt) rfl rfl rfl (Zbt _ _).symm rfl rfl rfl ?_);rw [rowN_map cnt];have hll := lfL_len of g.length cnt;have hob := orderB_c (lfL of g.length cnt) (edG g of cnt) (edG_gb hg hso) (by rw [edG, Zbt]; exact lf_inj hso) (by rw [edG, Zbt, hll]);rw [← lfL, show (AV.own 6 0 cnt) = .own 6 0 (lfL of g.length cnt).length by rw [hll]];refine Zae (goMv rfl rfl (Zab.go (st_makeFunc rfl rfl) (Zaw.go (st_callD hob rfl [5, 6] ⟨rfl, rfl, trivial⟩ rfl rfl rfl rfl rfl rfl rfl rfl rfl) (goMv rfl rfl ?_))))
      first | refine Zab.go (ZaO rfl rfl rfl) ?_ | refine Zab.go (ZaP rfl rfl rfl) ?_
      first | refine Zab.go (ZaO rfl rfl rfl) ?_ | refine Zab.go (ZaP rfl rfl rfl) ?_
      refine goAs rfl rfl (goAs rfl rfl (Zaf (Zag ?_)));have hsq : ordG (edG g of cnt) (nth (lfL of g.length cnt)) = conS g of cnt := rfl;have hsl0 := ordG_len (edG g of cnt) (nth (lfL of g.length cnt));have hsk9 : ∀ k, k < (conS g of cnt).length → nth (conS g of cnt) k < cnt := fun k hk => by have := ordG_lt (g := edG g of cnt) (K := nth (lfL of g.length cnt)) hk; rwa [edG, Zbt] at this
      rw [edG, Zbt, ← edG] at hsl0;rw [hsq] at hsl0 ⊢;refine Zae (goMv rfl rfl (Zaw.go (st_make 9 sl25 rfl rfl rfl (by omega) zd3 rfl rfl rfl rfl) (goAs rfl rfl (Zaf (Zag (Zag ?_))))));rw [repN]
      obtain ⟨seq, hseq⟩ : ∃ seq, conS g of cnt = seq := ⟨_, rfl⟩
      rw [hseq] at hsl0 hsk9 ⊢;refine Zae (goMv rfl rfl (Zab.go (ZaD rfl (List.length_map ..) Try.underlying25 rfl) (goMv rfl rfl (Zaf (Zay (Za0 (α := Nat) (fun k => ⟨142, [(0, .d (grD g)), (4, (.own 2 0 g.length)), (5, (.d (natD cnt))), (15, (.own 9 0 cnt)), (94, (.d (natsD seq))), (95, (.d (natD seq.length))), (96, (.d (natD k)))], [(2, [.rowD 3 1 (rowN g.length of)]), (9, [.rowD 3 1 (rowN cnt (numT seq k))])]⟩) (fun k => k ≤ seq.length) (fun k => seq.length - k) (0) (Nat.zero_le _) (Zax hF [2, 9] rfl rfl ⟨rfl, rfl, rfl, rfl, rfl, rfl, rfl, trivial⟩) ?_))))));intro k hk;refine Zag (Zae ?_)
      first | refine Zab.go (ZaY rfl rfl rfl) ?_ | refine Zab.go (ZaT rfl rfl rfl) ?_
      refine Zaf (Zag ?_)
      first | refine ZaU rfl (fun h97 => ?_) (fun h97 => ?_) | refine ZaF rfl (fun h97 => ?_) (fun h97 => ?_)
      · refine ZaC (Zag (Zay (Zag ?_)));have hkl : k < seq.length := Za7 h97;refine Zae (goMv rfl rfl ?_)
        first | refine Zab.go (Zam (k) rfl rfl (rfl) (getn hkl) Try.underlying25 rfl sz3 rfl) ?_ | refine Zab.go (Zal (k) rfl rfl (rfl) (getn hkl) rfl Try.underlying25 sz3 rfl) ?_
        first | refine Zab.go (Zai rfl rfl on3 rfl) ?_ | refine Zab.go (Zak rfl rfl rfl on3 rfl) ?_ | refine Zab.go (Zaj rfl rfl (rfl) rfl on3 rfl) ?_
        refine goAs rfl rfl (goAs rfl rfl (Zaf (Zae (goMv rfl rfl (goMv rfl rfl (goMv rfl rfl ?_))))))
        first | refine Zab.go (Zam (nth seq k) rfl rfl (rfl) (hsk9 k hkl) Try.underlying25 rfl sz3 rfl) ?_ | refine Zab.go (Zal (nth seq k) rfl rfl (rfl) (hsk9 k hkl) rfl Try.underlying25 sz3 rfl) ?_
        refine Zaw.go (Za2 rfl rfl rfl rfl rfl (by rw [rowN_len]; exact hsk9 k hkl) rowN_set rfl sz3) (Zaf (Zae (Zab.go (ZaJ rfl rfl (IntWalk.i64_in _ (by omega)) rfl) (goMv rfl rfl (Zaf ?_)))));exact ⟨k + 1, hkl, by omega, Zax hF [2, 9] rfl (rfl) ⟨rfl, rfl, rfl, rfl, rfl, rfl, rfl, trivial⟩⟩
      · refine ZaL (Zag ?_);have hks : k = seq.length := by have := h97; omega
        subst hks;refine Zae (goMv rfl rfl (Zaw.go (st_make 10 sl22 rfl rfl rfl (by omega) zd25 rfl rfl rfl rfl) (goAs rfl rfl (Zaf (Zag (Zag (a_weakRow 10 0 (rowH cnt (fun _ => none) (fun _ => [])) rfl (by rw [ZbG, List.length_replicate]) (nil_rowH cnt) ⟨one_nil _, one_rowH _ _ _⟩ rfl (a_multi 40 rfl rfl rfl ?_))))))));have hno : ∀ v, v < g.length → numT seq seq.length (of v) < cnt := fun v hv => numT_lt seq (Nat.lt_of_le_of_lt (Nat.zero_le _) (hso.lt v hv)) hsl0 _ (Nat.le_refl _) _;refine Zae (goMv rfl rfl (Zab.go (ZaD rfl (List.length_map ..) Try.underlying32 rfl) (goMv rfl rfl (Zaf (Zay (Za0 (α := Nat × MF × (Nat → Hd)) (fun q => ⟨142, [(0, .d (grD g)), (4, (.own 2 0 g.length)), (15, (.own 9 0 cnt)), (18, (.own 10 0 cnt)), (109, (.d (natD g.length))), (110, (.d (natD q.1)))], [(2, [.rowD 3 1 (rowN g.length (ofT of (fun v => numT seq seq.length (of v)) q.1))]), (9, [.rowD 3 1 (rowN cnt (numT seq seq.length))]), (10, [.rowD 25 1 (rowH cnt q.2.2 (outT (fun v => numT seq seq.length (of v)) q.1))]), (40, [.multi q.2.1])]⟩) (fun q => q.1 ≤ g.length ∧ GRep q.2.1 cnt q.2.2 (outT (fun v => numT seq seq.length (of v)) q.1)) (fun q => g.length - q.1) ((0, fun _ => none, fun _ => none)) (⟨Nat.zero_le _, GRep.zero _⟩) (Zax hF [2, 9, 10, 40] rfl rfl ⟨rfl, rfl, rfl, rfl, rfl, rfl, trivial⟩) ?_))))));rintro ⟨i, M, hs⟩ ⟨hi, hr⟩;dsimp only at hi hr ⊢;refine Zag (Zae ?_)
        first | refine Zab.go (ZaY rfl rfl rfl) ?_ | refine Zab.go (ZaT rfl rfl rfl) ?_
        refine Zaf (Zag ?_)
        first | refine ZaU rfl (fun h111 => ?_) (fun h111 => ?_) | refine ZaF rfl (fun h111 => ?_) (fun h111 => ?_)
        · refine ZaC (Zag (Zay (Zag ?_)));have hil : i < g.length := Za7 h111;have hoi := hso.lt i hil;have hst := outT_step (fun v => numT seq seq.length (of v)) i;have hos := ofT_step of (fun v => numT seq seq.length (of v)) i;have hxc := hno i hil;have hofi : ofT of (fun v => numT seq seq.length (of v)) i i = of i := if_neg (Nat.lt_irrefl _);have hofj : ofT of (fun v => numT seq seq.length (of v)) (i + 1) i = numT seq seq.length (of i) := if_pos (Nat.lt_succ_self _);have hgo := ZaM (f := ofT of (fun v => numT seq seq.length (of v)) i) hil;have hgj := ZaM (f := ofT of (fun v => numT seq seq.length (of v)) (i + 1)) hil;rw [hofi] at hgo;have hrg := ZaM (f := numT seq seq.length) hoi
          first | dsimp only at hst hos | skip
          obtain ⟨x, hxe⟩ : ∃ x, numT seq seq.length (of i) = x := ⟨_, rfl⟩
          rw [hofj, hxe] at hgj;rw [hxe] at hst hos hxc hrg;have hln := outT_len (fun v => numT seq seq.length (of v)) i x;refine Zae (goMv rfl rfl ?_);refine goAs rfl rfl (Zaf (Zag (Zae (goMv rfl rfl (goMv rfl rfl (goMv rfl rfl (goMv rfl rfl (goMv rfl rfl ?_))))))))
          first | refine Zab.go (Zam (i) rfl rfl (rfl) (hil) Try.underlying25 rfl sz3 rfl) ?_ | refine Zab.go (Zal (i) rfl rfl (rfl) (hil) rfl Try.underlying25 sz3 rfl) ?_
          first | refine Zab.go (Zai rfl rfl on3 rfl) ?_ | refine Zab.go (Zak rfl rfl rfl on3 rfl) ?_ | refine Zab.go (Zaj rfl rfl (hgo) rfl on3 rfl) ?_
          first | refine Zab.go (Zam (of i) rfl rfl (rfl) (hoi) Try.underlying25 rfl sz3 rfl) ?_ | refine Zab.go (Zal (of i) rfl rfl (rfl) (hoi) rfl Try.underlying25 sz3 rfl) ?_
          first | refine Zab.go (Zai rfl rfl on3 rfl) ?_ | refine Zab.go (Zak rfl rfl rfl on3 rfl) ?_ | refine Zab.go (Zaj rfl rfl (hrg) rfl on3 rfl) ?_
          first | refine Zab.go (Zam (i) rfl rfl (rfl) (hil) Try.underlying25 rfl sz3 rfl) ?_ | refine Zab.go (Zal (i) rfl rfl (rfl) (hil) rfl Try.underlying25 sz3 rfl) ?_
          refine Zaw.go (Za2 rfl rfl rfl rfl rfl (by rw [rowN_len]; exact hil) (rowN_set.trans (by rw [hos])) rfl sz3) (Zaf (Za4 [[], [], [], [1, 2], [1, 2, 3], [], [], [], [6, 7], [6, 7, 8], [5, 6, 7, 8, 9], [5, 6, 7, 8, 9, 10], [], [12], [5, 6, 7, 8, 9, 10, 11, 12, 13], [0, 1, 2, 3, 4, 5, 6, 7, 8, 9, 10, 11, 12, 13, 14], [0, 1, 2, 3, 4, 5, 6, 7, 8, 9, 10, 11, 12, 13, 14, 15]] mixed rfl (dws ?_)))
          first | refine Zad [18] [] rfl rfl (fun _ => Zaa (Zah rfl rfl)) ?_ | refine Zac [18] rfl rfl (fun _ => Zaa (Zah rfl rfl)) ?_
          first | refine Zad [4] [] rfl rfl (fun _ => Zaa (Zah rfl rfl)) ?_ | refine Zac [4] rfl rfl (fun _ => Zaa (Zah rfl rfl)) ?_
          first | refine Zad [19] [] rfl rfl (fun _ => Zaa (Zah rfl rfl)) ?_ | refine Zac [19] rfl rfl (fun _ => Zaa (Zah rfl rfl)) ?_
          first | refine Zad [124, 125] [2] rfl rfl (fun _ => Zaa (Zam (i) rfl rfl (rfl) (hil) Try.underlying25 rfl sz3 rfl)) ?_ | refine Zad [124, 125] [2] rfl rfl (fun _ => Zaa (Zal (i) rfl rfl (rfl) (hil) rfl Try.underlying25 sz3 rfl)) ?_
          first | refine Zad [126] [2] rfl rfl (fun _ => Zaa (Zai rfl rfl on3 rfl)) ?_ | refine Zad [126] [2] rfl rfl (fun _ => Zaa (Zak rfl rfl rfl on3 rfl)) ?_ | refine Zad [126] [2] rfl rfl (fun _ => Zaa (Zaj rfl rfl (hgj) rfl on3 rfl)) ?_
          first | refine Zad [18] [] rfl rfl (fun _ => Zaa (Zah rfl rfl)) ?_ | refine Zac [18] rfl rfl (fun _ => Zaa (Zah rfl rfl)) ?_
          first | refine Zad [4] [] rfl rfl (fun _ => Zaa (Zah rfl rfl)) ?_ | refine Zac [4] rfl rfl (fun _ => Zaa (Zah rfl rfl)) ?_
          first | refine Zad [19] [] rfl rfl (fun _ => Zaa (Zah rfl rfl)) ?_ | refine Zac [19] rfl rfl (fun _ => Zaa (Zah rfl rfl)) ?_
          first | refine Zad [129, 130] [2] rfl rfl (fun _ => Zaa (Zam (i) rfl rfl (rfl) (hil) Try.underlying25 rfl sz3 rfl)) ?_ | refine Zad [129, 130] [2] rfl rfl (fun _ => Zaa (Zal (i) rfl rfl (rfl) (hil) rfl Try.underlying25 sz3 rfl)) ?_
          first | refine Zad [131] [2] rfl rfl (fun _ => Zaa (Zai rfl rfl on3 rfl)) ?_ | refine Zad [131] [2] rfl rfl (fun _ => Zaa (Zak rfl rfl rfl on3 rfl)) ?_ | refine Zad [131] [2] rfl rfl (fun _ => Zaa (Zaj rfl rfl (hgj) rfl on3 rfl)) ?_
          first | refine Zad [128, 132] [10] rfl rfl (fun _ => Zaa (Zam (x) rfl rfl (rfl) (hxc) Try.underlying22 rfl sz25 rfl)) ?_ | refine Zad [128, 132] [10] rfl rfl (fun _ => Zaa (Zal (x) rfl rfl (rfl) (hxc) rfl Try.underlying22 sz25 rfl)) ?_
          first | refine Zad [133] [10] rfl rfl (fun _ => Zaa (Zai rfl rfl on25 rfl)) ?_ | refine Zad [133] [10] rfl rfl (fun _ => Zaa (Zak rfl rfl rfl on25 rfl)) ?_ | refine Zad [133] [10] rfl rfl (fun _ => Zaa (Zaj rfl rfl (rowH_get hxc) rfl on25 rfl)) ?_
          first | refine Zad [19] [] rfl rfl (fun _ => Zaa (Zah rfl rfl)) ?_ | refine Zac [19] rfl rfl (fun _ => Zaa (Zah rfl rfl)) ?_
          refine d_eff [135] [21] [(136, _)] rfl rfl (fun _ => ge_none (ZaN 21 sl25 rfl rfl rfl rfl rfl rfl rfl rfl)) (.inr ⟨136, _, rfl, rfl, rfl, rfl, rfl⟩) rfl rfl rfl rfl rfl (d_eff [134, 136] [60, 40, 21] [(137, _)] rfl rfl (fun _ => ge_none (st_appH 134 60 40 (hr.at_ x hxc) rfl rfl (by rw [List.length_map]) rfl rfl rfl rfl rfl (st_appM (emb := natD) (outT (fun v => numT seq seq.length (of v)) i x) [i] rfl rfl rfl rfl rfl rfl rfl rfl sl25 (by show ((outT (fun v => numT seq seq.length (of v)) i x).length + 1) * 8 ≤ _; omega) rfl rfl rfl rfl))) (.inr ⟨137, _, rfl, rfl, rfl, rfl, rfl⟩) rfl rfl rfl rfl rfl (dwc 15 rfl rfl rfl (dw1 16 rfl rfl (o_absorbR 137 60 40 hF rfl rfl rfl (by rw [List.length_map]) (by simp) rfl rfl rfl rfl rfl rfl rfl (fun _ _ => rfl) fun b c hb hc => ?_))))
          first | refine Zab.go (Zam (x) rfl rfl (rfl) (hxc) Try.underlying22 rfl sz25 rfl) ?_ | refine Zab.go (Zal (x) rfl rfl (rfl) (hxc) rfl Try.underlying22 sz25 rfl) ?_
          refine Zaf ⟨rfl, ?_⟩;refine dw1 17 rfl rfl (Zaw.go (Za2 rfl rfl rfl rfl rfl (by rw [ZbG]; exact hxc) (rowH_set (h := some (b, c))) rfl sz25) (Zaf ⟨rfl, ?_⟩));refine dwe (Zae (Zab.go (ZaJ rfl rfl (IntWalk.i64_in _ (by omega)) rfl) (goMv rfl rfl (Zaf ?_))));exact ⟨(i + 1, mput_ (mdelH M (hs x)) b (.row 3 1 c ((outT (fun v => numT seq seq.length (of v)) i x ++ [i]).map natD)), updF hs x (some (b, c))), ⟨hil, by have := hr.app hxc hb hc; rw [hst] at this; exact this⟩, by show g.length - (i + 1) < g.length - i; omega, Zax hF [2, 9, 10, 40] rfl (by rw [hst]; rfl) ⟨rfl, rfl, rfl, rfl, rfl, rfl, trivial⟩⟩
        · refine ZaL (Zag ?_);have hin : i = g.length := by have := h111; omega
          subst hin;have hof : rowN g.length (ofT of (fun v => numT seq seq.length (of v)) g.length) = ((List.range g.length).map fun v => numT seq seq.length (of v)).map natD := by rw [List.map_map]; exact List.map_congr_left fun v hv => congrArg natD (if_pos (List.mem_range.1 hv))
          rw [hof];refine a_melt 10 0 40 ((grF cnt (outT (fun v => numT seq seq.length (of v)) g.length)).map natsD) rfl rfl rfl rfl rfl (by rw [List.length_map, Zbt, ZbG]) hr.melt ⟨one_rowH _ _ _, one_gr _⟩ rfl ?_;refine Zbm (emb := natsD) 18 10 (grF cnt (outT (fun v => numT seq seq.length (of v)) g.length)) rfl rfl rfl (Zbt _ _).symm rfl rfl rfl (Zbm (emb := natD) 4 2 ((List.range g.length).map fun v => numT seq seq.length (of v)) rfl rfl rfl (by simp) rfl rfl rfl (Zae (goMv rfl rfl (goMv rfl rfl (goAs rfl rfl (goAs rfl rfl (Zaf (Zbg ?_))))))));exact ⟨_, [], [], ZaZ rfl, rfl, rfl, of, cnt, hso, by unfold conM; rw [hseq], rfl⟩
end Go.Proofs.Ytgdppeobgefogaa
/- Layer 31: the reversed graph. -/
namespace Go.Proofs.Ytgdppeobgefogaa
open Go.RowKit
set_option maxRecDepth 100000 in
theorem reversed_p (g : List (List Nat)) (hg : GB g) : PCalls Try.prog 33 [.d (grD g)] (grD (revG g)) := by
  have hn := hg.n;refine Zbf Try.func33 rfl rfl Try.ntmps33 rfl rfl rfl fun F hF => (Zag (Zae (goAs rfl rfl (Zaf ?_))));refine Zag (Zae (goMv rfl rfl (Zab.go (ZaD rfl (List.length_map ..) Try.underlying32 rfl) (Zaw.go (st_make 0 sl32 rfl rfl rfl (by omega) zd25 rfl rfl rfl rfl) (goAs rfl rfl (Zaf (Zag (Zag ?_))))))));refine a_weakRow 0 0 (rowH g.length (fun _ => none) (fun _ => [])) rfl (by rw [ZbG, List.length_replicate]) (nil_rowH g.length) ⟨one_nil _, one_rowH _ _ _⟩ rfl (a_multi 40 rfl rfl rfl (Zae (goMv rfl rfl (Zab.go (ZaD rfl (List.length_map ..) Try.underlying32 rfl) (goMv rfl rfl (Zaf (Zay (Za0 (α := Nat × MF × (Nat → Hd)) (fun q => ⟨37, [(0, .d (grD g)), (3, (.own 0 0 g.length)), (11, (.d (grD g))), (12, (.d (natD g.length))), (13, (.d (natD q.1)))], [(0, [.rowD 25 1 (rowH g.length q.2.2 (revT g q.1 0))]), (40, [.multi q.2.1])]⟩) (fun q => q.1 ≤ g.length ∧ GRep q.2.1 g.length q.2.2 (revT g q.1 0)) (fun q => g.length - q.1) ((0, fun _ => none, fun _ => none)) (⟨Nat.zero_le _, by rw [revT_zero]; exact GRep.zero _⟩) (Zax hF [0, 40] rfl rfl ⟨rfl, rfl, rfl, rfl, rfl, trivial⟩) ?_))))))));rintro ⟨i, M, hs⟩ ⟨hi, hr⟩;dsimp only at hi hr ⊢;refine Zag (Zae ?_)
  first | refine Zab.go (ZaY rfl rfl rfl) ?_ | refine Zab.go (ZaT rfl rfl rfl) ?_
  refine Zaf (Zag ?_)
  first | refine ZaU rfl (fun h14 => ?_) (fun h14 => ?_) | refine ZaF rfl (fun h14 => ?_) (fun h14 => ?_)
  · refine ZaC (Zag (Zay (Zag ?_)));have hil : i < g.length := Za7 h14;refine Zae (goMv rfl rfl ?_)
    first | refine Zab.go (Zam (i) rfl rfl (rfl) (getg hil) Try.underlying32 rfl sz25 rfl) ?_ | refine Zab.go (Zal (i) rfl rfl (rfl) (getg hil) rfl Try.underlying32 sz25 rfl) ?_
    first | refine Zab.go (Zai rfl rfl on25 rfl) ?_ | refine Zab.go (Zak rfl rfl rfl on25 rfl) ?_ | refine Zab.go (Zaj rfl rfl (rfl) rfl on25 rfl) ?_
    refine goAs rfl rfl (goAs rfl rfl ?_);refine Zaf (Zag (Zae (goMv rfl rfl (Zab.go (ZaD rfl (List.length_map ..) Try.underlying25 rfl) (goMv rfl rfl (Zaf (Zay (Za0 (α := Nat × MF × (Nat → Hd)) (fun q => ⟨37, [(0, .d (grD g)), (3, (.own 0 0 g.length)), (4, (.d (natD i))), (11, (.d (grD g))), (12, (.d (natD g.length))), (13, (.d (natD i))), (18, (.d (natsD (sucs g i)))), (19, (.d (natD (sucs g i).length))), (20, (.d (natD q.1)))], [(0, [.rowD 25 1 (rowH g.length q.2.2 (revT g i q.1))]), (40, [.multi q.2.1])]⟩) (fun q => q.1 ≤ (sucs g i).length ∧ GRep q.2.1 g.length q.2.2 (revT g i q.1)) (fun q => (sucs g i).length - q.1) ((0, M, hs)) (⟨Nat.zero_le _, hr⟩) (Zax hF [0, 40] rfl rfl ⟨rfl, rfl, rfl, rfl, rfl, rfl, rfl, rfl, rfl, trivial⟩) ?_))))))));rintro ⟨k, M, hs⟩ ⟨hk, hr⟩;dsimp only at hk hr ⊢;refine Zag (Zae ?_)
    first | refine Zab.go (ZaY rfl rfl rfl) ?_ | refine Zab.go (ZaT rfl rfl rfl) ?_
    refine Zaf (Zag ?_)
    first | refine ZaU rfl (fun h21 => ?_) (fun h21 => ?_) | refine ZaF rfl (fun h21 => ?_) (fun h21 => ?_)
    · refine ZaC (Zag (Zay (Zag ?_)));have hkl : k < (sucs g i).length := Za7 h21;have hgn := getn hkl;have hsl := hg.len hil;have hjl : nth (sucs g i) k < g.length := hg.suc hil (Zbs hkl);have hst := revT_step hkl
      obtain ⟨j, hje⟩ : ∃ j, nth (sucs g i) k = j := ⟨_, rfl⟩
      rw [hje] at hgn hjl hst;have hln := revT_len hg hil k j;refine Zae ?_
      first | refine Zab.go (Zam (k) rfl rfl (rfl) (hgn) Try.underlying25 rfl sz3 rfl) ?_ | refine Zab.go (Zal (k) rfl rfl (rfl) (hgn) rfl Try.underlying25 sz3 rfl) ?_
      first | refine Zab.go (Zai rfl rfl on3 rfl) ?_ | refine Zab.go (Zak rfl rfl rfl on3 rfl) ?_ | refine Zab.go (Zaj rfl rfl (rfl) rfl on3 rfl) ?_
      refine goAs rfl rfl (Zaf (Zae (goMv rfl rfl (goMv rfl rfl (goMv rfl rfl (goMv rfl rfl ?_))))))
      first | refine Zab.go (Zam (j) rfl rfl (rfl) (hjl) Try.underlying32 rfl sz25 rfl) ?_ | refine Zab.go (Zal (j) rfl rfl (rfl) (hjl) rfl Try.underlying32 sz25 rfl) ?_
      first | refine Zab.go (Zai rfl rfl on25 rfl) ?_ | refine Zab.go (Zak rfl rfl rfl on25 rfl) ?_ | refine Zab.go (Zaj rfl rfl (rowH_get hjl) rfl on25 rfl) ?_
      refine goMv rfl rfl (Zaw.go (ZaN 21 sl25 rfl rfl rfl rfl rfl rfl rfl rfl) (Zaw.go (st_appH 29 60 40 (hr.at_ j hjl) rfl rfl (by rw [List.length_map]) rfl rfl rfl rfl rfl (st_appM (emb := natD) (revT g i k j) [i] rfl rfl rfl rfl rfl rfl rfl rfl sl25 (by show ((revT g i k j).length + 1) * 8 ≤ _; omega) rfl rfl rfl rfl)) (o_absorbR 32 60 40 hF rfl rfl rfl (by rw [List.length_map]) (by simp) rfl rfl rfl rfl rfl rfl rfl (fun _ _ => rfl) fun b c hb hc => ?_)))
      first | refine Zab.go (Zam (j) rfl rfl (rfl) (hjl) Try.underlying32 rfl sz25 rfl) ?_ | refine Zab.go (Zal (j) rfl rfl (rfl) (hjl) rfl Try.underlying32 sz25 rfl) ?_
      refine Zaw.go (Za2 rfl rfl rfl rfl rfl (by rw [ZbG]; exact hjl) (rowH_set (h := some (b, c))) rfl sz25) (Zaf (Zae (Zab.go (ZaJ rfl rfl (IntWalk.i64_in _ (by omega)) rfl) (goMv rfl rfl (Zaf ?_)))));exact ⟨(k + 1, mput_ (mdelH M (hs j)) b (.row 3 1 c ((revT g i k j ++ [i]).map natD)), updF hs j (some (b, c))), ⟨hkl, by have := hr.app hjl hb hc; rw [hst] at this; exact this⟩, by show (sucs g i).length - (k + 1) < (sucs g i).length - k; omega, Zax hF [0, 40] rfl (by rw [hst]; rfl) ⟨rfl, rfl, rfl, rfl, rfl, rfl, rfl, rfl, rfl, trivial⟩⟩
    · refine ZaL ?_;have hke : k = (sucs g i).length := by have := h21; omega
      subst hke;refine Zae (Zab.go (ZaJ rfl rfl (IntWalk.i64_in _ (by omega)) rfl) (goMv rfl rfl (Zaf ?_)));exact ⟨(i + 1, M, hs), ⟨hil, by rw [← revT_row]; exact hr⟩, by show g.length - (i + 1) < g.length - i; omega, Zax hF [0, 40] rfl (by rw [revT_row]; rfl) ⟨rfl, rfl, rfl, rfl, rfl, trivial⟩⟩
  · refine ZaL (Zag ?_);have hin : i = g.length := by have := h14; omega
    subst hin;rw [revT_end] at hr ⊢;refine a_melt 0 0 40 ((revG g).map natsD) rfl rfl rfl rfl rfl (by rw [List.length_map, revG, Zbt, ZbG]) hr.melt ⟨one_rowH _ _ _, one_gr _⟩ rfl (Zbm (emb := natsD) 3 0 (revG g) rfl rfl rfl (Zbt _ _).symm rfl rfl rfl (Zae (goMv rfl rfl (goAs rfl rfl (Zaf (Zbg ?_))))));exact ⟨_, [], [], ZaZ rfl, rfl, rfl, rfl, rfl⟩
end Go.Proofs.Ytgdppeobgefogaa
/- Layer 31: sifting up and down through the interface. -/
namespace Go.Proofs.Ytgdppeobgefogaa
open Go.RowKit
end Go.Proofs.Ytgdppeobgefogaa
/- Layer 31: sifting down; pushing and popping. -/
namespace Go.Proofs.Ytgdppeobgefogaa
open Go.RowKit
end Go.Proofs.Ytgdppeobgefogaa
/- Layer 31: pushing and popping through the interface. -/
namespace Go.Proofs.Ytgdppeobgefogaa
open Go.RowKit
end Go.Proofs.Ytgdppeobgefogaa
/- Layer 31: the order of a graph. -/
namespace Go.Proofs.Ytgdppeobgefogaa
open Go.RowKit
end Go.Proofs.Ytgdppeobgefogaa
/- Layer 31: Components, TopologicalOrder, Reverse. -/
namespace Go.Proofs.Ytgdppeobgefogaa
open Go.RowKit

noncomputable def conC (g : List (List Nat)) : (Nat → Nat) × Nat := Classical.epsilon fun p => CN g.length (sucs g) p.1 p.2
noncomputable def noC (g : List (List Nat)) : Nat → Nat := (conC g).1
noncomputable def cntC (g : List (List Nat)) : Nat := (conC g).2
theorem conC_of {g : List (List Nat)} (hg : GB g) {no : Nat → Nat} {cnt : Nat} (h : CN g.length (sucs g) no cnt) : CN g.length (sucs g) (noC g) (cntC g) ∧ cnt = cntC g ∧ ∀ v, v < g.length → no v = noC g v := by
  have h2 : CN g.length (sucs g) (conC g).1 (conC g).2 := Classical.epsilon_spec (p := fun p : (Nat → Nat) × Nat => CN g.length (sucs g) p.1 p.2) ⟨(no, cnt), h⟩;exact ⟨h2, cn_uniq h h2 fun v hv y hy => hg.suc hv hy⟩
noncomputable def comC (g : List (List Nat)) : List (List Nat) := grF (cntC g) (outT (noC g) g.length)
noncomputable def noL (g : List (List Nat)) : List Nat := (List.range g.length).map (noC g)
theorem outT_congr {no no' : Nat → Nat} {n : Nat} (h : ∀ v, v < n → no v = no' v) : outT no n = outT no' n := by
  funext c
  unfold outT;exact List.filter_congr fun v hv => by rw [h v (List.mem_range.1 hv)]
theorem condensed_p (g : List (List Nat)) (hg : GT g) : PCalls Try.prog 32 [.d (grD g)] (.tup [grD (comC g), natsD (noL g)]) := by
  have h := condensed_c g hg;refine ⟨h.1, fun F ρ vs h1 h2 h2' h3 h4 h5 => (h.2 F ρ vs h1 h2 h2' h3 h4 h5).mono fun e w' ⟨v, r, H', ρ', e1, ⟨of, cnt, hso, hr, hH⟩, hrep, hh⟩ => ⟨v, r, H', ρ', e1, ⟨?_, hH⟩, hrep, hh⟩⟩;obtain ⟨_, e2, e3⟩ := conC_of hg.gb (con_cn hg hso);have ho := outT_congr e3;have hl : (List.range g.length).map (fun v => conM g of cnt (of v)) = noL g := List.map_congr_left fun v hv => e3 v (List.mem_range.1 hv);rw [hr, ho, hl, e2]
  rfl
def toI (g : List (List Nat)) : List (List Int) := g.map (List.map Int.ofNat)
theorem toI_gr (g : List (List Nat)) : grI (toI g) = grD g := by
  unfold toI;show D.sl none ((g.map (List.map Int.ofNat)).map intsD) = D.sl none (g.map natsD);rw [List.map_map]
  congr 1
  exact List.map_congr_left fun l _ => by
    show D.sl none ((l.map Int.ofNat).map intD) = _;rw [List.map_map]; rfl
theorem toI_len (g : List (List Nat)) : (toI g).length = g.length := by simp [toI]
theorem toI_tot (g : List (List Nat)) : ∀ i, i ≤ g.length → totI (toI g) i = totG g i
  | 0, _ => rfl
  | i + 1, hi => by
    have ih := toI_tot g i (by omega);rw [totI_succ (by rw [toI_len]; omega), ih];unfold totG;rw [List.range_succ, List.map_append, List.sum_append, List.map_singleton, List.sum_singleton, sucs_get (by omega)]
    simp [toI]
theorem chk_ok {g : List (List Nat)} (hg : GT g) : chkE (toI g) = 0 := by
  have hn := hg.gb.n;have ht := hg.tot;refine (chk0 (by rw [toI_len]; omega) (by rw [toI_len, toI_tot g _ (Nat.le_refl _)]; omega) ?_).symm;rintro ⟨l, hl, x, hx, hb⟩;obtain ⟨m, hm, rfl⟩ := List.mem_map.1 hl;obtain ⟨y, hy, rfl⟩ := List.mem_map.1 hx;have := hg.gb.lt m hm y hy;rw [toI_len] at hb;exact hb ⟨Int.natCast_nonneg _, Int.ofNat_lt.2 this⟩
theorem row_tot {g : List (List Nat)} {l : List Nat} (h : l ∈ g) : l.length ≤ totG g g.length := by
  obtain ⟨i, hi, rfl⟩ := List.mem_iff_getElem.1 h
  have h1 : totG g (i + 1) = totG g i + g[i].length := by
    unfold totG;rw [List.range_succ, List.map_append, List.sum_append, List.map_singleton, List.sum_singleton, sucs_get hi]
  have := totG_mono g (i := i + 1) (j := g.length) (by omega);omega
theorem check_n (g : List (List Nat)) (hg : GT g) : PCalls Try.prog 31 [.d (grD g)] (intD 0) := by
  have hn := hg.gb.n;have ht := hg.tot
  have h := check_p (toI g) (by rw [toI_len]; omega) fun l hl => by
    obtain ⟨m, hm, rfl⟩ := List.mem_map.1 hl;rw [List.length_map];have := row_tot hm;omega
  rw [toI_gr, chk_ok hg] at h;exact h
set_option maxRecDepth 100000 in
theorem components_p (g : List (List Nat)) (hg : GT g) : PCalls Try.prog 20 [.d (grD g)] (.tup [grD (comC g), intD 0]) := by
  refine Zbf Try.func20 rfl rfl Try.ntmps20 rfl rfl rfl fun F hF => (Zag (Zae (goAs rfl rfl (goAs rfl rfl (Zaf (Zag ?_))))));refine Zag (Zae (goMv rfl rfl (Zab.go (Zba (check_n g hg) rfl rfl) (goAs rfl rfl (Zaf (Zag (Zae (goMv rfl rfl ?_))))))))
  first | refine Zab.go (st_neq rfl rfl rfl) ?_ | refine Zab.go (ZbA rfl rfl rfl) ?_ | refine Zab.go (ZbB rfl rfl rfl) ?_ | refine Zab.go (ZbE Try.underlying26 rfl rfl rfl) ?_ | refine Zab.go (ZbC Try.underlying26 rfl rfl rfl) ?_ | refine Zab.go (st_neqN Try.underlying26 rfl rfl) ?_ | refine Zab.go (ZbD Try.underlying26 rfl rfl rfl) ?_ | refine Zab.go (st_neqFN Try.underlying26 rfl rfl) ?_
  refine Zaf (Zbu rfl (decide_eq_false (by decide)) (ZaC (Zag (Zae (goMv rfl rfl (Zab.go (Zba (condensed_p g hg) rfl rfl) (goMv rfl rfl ?_)))))))
  first | refine Zab.go (ZaO rfl rfl rfl) ?_ | refine Zab.go (ZaP rfl rfl rfl) ?_
  first | refine Zab.go (ZaO rfl rfl rfl) ?_ | refine Zab.go (ZaP rfl rfl rfl) ?_
  refine goAs rfl rfl ?_;refine goAs rfl rfl (Zaf (Zag (Zae (goMv rfl rfl (goAs rfl rfl (goAs rfl rfl (Zaf (Zbg ?_))))))));exact ⟨_, [], [], ZaZ rfl, rfl, rfl, rfl, rfl⟩
set_option maxRecDepth 100000 in
theorem reverse_p (g : List (List Nat)) (hg : GT g) : PCalls Try.prog 17 [.d (grD g)] (.tup [grD (revG g), intD 0]) := by
  refine Zbf Try.func17 rfl rfl Try.ntmps17 rfl rfl rfl fun F hF => (Zag (Zae (goAs rfl rfl (goAs rfl rfl (Zaf (Zag ?_))))));refine Zag (Zae (goMv rfl rfl (Zab.go (Zba (check_n g hg) rfl rfl) (goAs rfl rfl (Zaf (Zag (Zae (goMv rfl rfl ?_))))))))
  first | refine Zab.go (st_neq rfl rfl rfl) ?_ | refine Zab.go (ZbA rfl rfl rfl) ?_ | refine Zab.go (ZbB rfl rfl rfl) ?_ | refine Zab.go (ZbE Try.underlying26 rfl rfl rfl) ?_ | refine Zab.go (ZbC Try.underlying26 rfl rfl rfl) ?_ | refine Zab.go (st_neqN Try.underlying26 rfl rfl) ?_ | refine Zab.go (ZbD Try.underlying26 rfl rfl rfl) ?_ | refine Zab.go (st_neqFN Try.underlying26 rfl rfl) ?_
  refine Zaf (Zbu rfl (decide_eq_false (by decide)) ?_);refine ZaC (Zag (Zae (goMv rfl rfl (Zab.go (Zba (reversed_p g hg.gb) rfl rfl) (goAs rfl rfl (goAs rfl rfl (Zaf (Zbg ?_))))))));exact ⟨_, [], [], ZaZ rfl, rfl, rfl, rfl, rfl⟩
end Go.Proofs.Ytgdppeobgefogaa
/- Layer 31: distances to a node, by levels. Plain laws. -/
namespace Go.Proofs.Ytgdppeobgefogaa
open Go.RowKit

def Wk (b : List (List Nat)) (ok : Nat → Prop) (s : Nat) : Nat → Nat → Prop
  | 0, u => u = s
  | k + 1, u => ok u ∧ ∃ v, Wk b ok s k v ∧ u ∈ sucs b v
structure BH (b : List (List Nat)) (ok : Nat → Prop) (s n : Nat) (d : Nat → Nat) (lv : List Nat) : Prop where
  pos : 1 ≤ n
  a : ∀ u, d u ≠ 0 → d u < n ∧ Wk b ok s (d u) u
  comp : ∀ k u, 1 ≤ k → k < n → Wk b ok s k u → d u ≠ 0 ∧ d u ≤ k
  c : ∀ v, v ∈ lv ↔ if n = 1 then v = s else d v = n - 1
  nd : lv.Nodup
  lt : ∀ v ∈ lv, v < b.length
structure BI (b : List (List Nat)) (ok : Nat → Prop) (s n : Nat) (d d' : Nat → Nat) (lv nx : List Nat) (p k : Nat) : Prop where
  i : ∀ u, d u ≠ 0 → d' u = d u
  ii : ∀ u, d u = 0 → d' u ≠ 0 → d' u = n ∧ Wk b ok s n u
  iii : ∀ u, u ∈ nx ↔ d u = 0 ∧ d' u ≠ 0
  nd : nx.Nodup
  lt : ∀ u ∈ nx, u < b.length
  iv : ∀ v ∈ lv.take p, ∀ u ∈ sucs b v, ok u → d' u ≠ 0
  v : ∀ u ∈ (sucs b (nth lv p)).take k, ok u → d' u ≠ 0
theorem bh_start {b : List (List Nat)} {ok : Nat → Prop} {s : Nat} (hs : s < b.length) : BH b ok s 1 (fun _ => 0) [s] :=
  ⟨Nat.le_refl _, fun u h => absurd rfl h, fun k u h1 h2 => by omega, fun v => by simp, by simp, fun v hv => by rw [List.mem_singleton.1 hv]; exact hs⟩
theorem bi_start {b : List (List Nat)} {ok : Nat → Prop} {s n : Nat} {d : Nat → Nat} {lv : List Nat} : BI b ok s n d d lv [] 0 0 :=
  ⟨fun u h => rfl, fun u h h2 => absurd h h2, fun u => ⟨fun h => (by cases h), fun h => absurd h.1 h.2⟩, .nil, fun u h => (by cases h), fun v hv => by simp at hv, fun u hu => by simp at hu⟩
theorem bi_le {b : List (List Nat)} {ok : Nat → Prop} {s n : Nat} {d d' : Nat → Nat} {lv nx : List Nat} {p k : Nat} (h : BI b ok s n d d' lv nx p k) : nx.length ≤ b.length := by
  have := ZbH h.nd (m := List.range b.length) fun x hx => List.mem_range.2 (h.lt x hx)
  rwa [List.length_range] at this
theorem bh_wk {b : List (List Nat)} {ok : Nat → Prop} {s n : Nat} {d : Nat → Nat} {lv : List Nat} (h : BH b ok s n d lv) {v : Nat} (hv : v ∈ lv) : Wk b ok s (n - 1) v := by
  have hc := (h.c v).1 hv;have hp := h.pos
  by_cases e : n = 1
  · rw [if_pos e] at hc; subst e; exact hc
  · rw [if_neg e] at hc;have := (h.a v (by omega)).2
    rwa [hc] at this
theorem bi_new {b : List (List Nat)} {ok : Nat → Prop} {s n : Nat} {d d' : Nat → Nat} {lv nx : List Nat} {p k : Nat} (hH : BH b ok s n d lv) (h : BI b ok s n d d' lv nx p k) (hp : p < lv.length) (hk : k < (sucs b (nth lv p)).length)
    {u : Nat} (hu : nth (sucs b (nth lv p)) k = u) (hul : u < b.length) (hok : ok u) (h0 : d' u = 0) : BI b ok s n d (updF d' u n) lv (nx ++ [u]) p (k + 1) := by
  have hpos := hH.pos;have hd0 : d u = 0 := Classical.byContradiction fun hne => hne (by rw [← h.i u hne]; exact h0)
  have hw : Wk b ok s n u := by
    obtain ⟨m, rfl⟩ : ∃ m, n = m + 1 := ⟨n - 1, by omega⟩
    exact ⟨hok, nth lv p, bh_wk hH (Zbs hp), by rw [← hu]; exact Zbs hk⟩
  have hne : ∀ x, d' x ≠ 0 → updF d' u n x ≠ 0 := fun x hx => by
    by_cases e : x = u
    · subst e; rw [ZaS]; omega
    · rw [ZaQ e]; exact hx
  refine ⟨fun x hx => ?_, fun x hx hx2 => ?_, fun x => ?_, ?_, fun x hx => ?_, fun v hv x hx hok => hne x (h.iv v hv x hx hok), fun x hx hok => ?_⟩
  · have : x ≠ u := fun e => hx (e ▸ hd0);rw [ZaQ this]; exact h.i x hx
  · by_cases e : x = u
    · subst e; rw [ZaS]; exact ⟨rfl, hw⟩
    · rw [ZaQ e] at hx2 ⊢; exact h.ii x hx hx2
  · rw [List.mem_append, List.mem_singleton, h.iii]
    by_cases e : x = u
    · subst e; rw [ZaS]; exact ⟨fun _ => ⟨hd0, by omega⟩, fun _ => .inr rfl⟩
    · rw [ZaQ e]; exact ⟨fun h => h.elim id fun e2 => (e e2).elim, .inl⟩
  · rw [List.nodup_append]
    exact ⟨h.nd, by simp, fun x hx y hy e => by
      rw [List.mem_singleton] at hy;have := ((h.iii x).1 hx).2
      rw [e, hy] at this; exact this h0⟩
  · rcases List.mem_append.1 hx with hx | hx
    · exact h.lt x hx
    · rw [List.mem_singleton.1 hx]; exact hul
  · rw [List.take_succ_eq_append_getElem hk] at hx;rcases List.mem_append.1 hx with hx | hx
    · exact hne x (h.v x hx hok)
    · rw [List.mem_singleton.1 hx, ← Za6 hk, hu, ZaS]; omega
theorem bi_skip {b : List (List Nat)} {ok : Nat → Prop} {s n : Nat} {d d' : Nat → Nat} {lv nx : List Nat} {p k : Nat} (h : BI b ok s n d d' lv nx p k) (hk : k < (sucs b (nth lv p)).length)
    {u : Nat} (hu : nth (sucs b (nth lv p)) k = u) (hn : ¬ (ok u ∧ d' u = 0)) : BI b ok s n d d' lv nx p (k + 1) := by
  refine ⟨h.i, h.ii, h.iii, h.nd, h.lt, h.iv, fun x hx hok => ?_⟩;rw [List.take_succ_eq_append_getElem hk] at hx;rcases List.mem_append.1 hx with hx | hx
  · exact h.v x hx hok
  · rw [List.mem_singleton.1 hx, ← Za6 hk, hu] at hok ⊢;exact fun h0 => hn ⟨hok, h0⟩
theorem bi_row {b : List (List Nat)} {ok : Nat → Prop} {s n : Nat} {d d' : Nat → Nat} {lv nx : List Nat} {p : Nat} (h : BI b ok s n d d' lv nx p (sucs b (nth lv p)).length) (hp : p < lv.length) : BI b ok s n d d' lv nx (p + 1) 0 := by
  refine ⟨h.i, h.ii, h.iii, h.nd, h.lt, fun v hv => ?_, fun u hu => by simp at hu⟩;rw [List.take_succ_eq_append_getElem hp] at hv;rcases List.mem_append.1 hv with hv | hv
  · exact h.iv v hv
  · rw [List.mem_singleton.1 hv, ← Za6 hp];intro u hu hok;exact h.v u (by rw [List.take_length]; exact hu) hok
theorem bh_next {b : List (List Nat)} {ok : Nat → Prop} {s n : Nat} {d d' : Nat → Nat} {lv nx : List Nat} (hH : BH b ok s n d lv) (h : BI b ok s n d d' lv nx lv.length 0) (hs0 : d s = 0) : BH b ok s (n + 1) d' nx := by
  have hpos := hH.pos;have hall : ∀ v ∈ lv, ∀ u ∈ sucs b v, ok u → d' u ≠ 0 := fun v hv => h.iv v (by rw [List.take_length]; exact hv);refine ⟨by omega, fun u hu => ?_, fun k u h1 h2 hw => ?_, fun v => ?_, h.nd, h.lt⟩
  · by_cases e : d u = 0
    · obtain ⟨e1, e2⟩ := h.ii u e hu;rw [e1]; exact ⟨by omega, e2⟩
    · rw [h.i u e]; obtain ⟨e1, e2⟩ := hH.a u e; exact ⟨by omega, e2⟩
  · by_cases hkn : k < n
    · obtain ⟨e1, e2⟩ := hH.comp k u h1 hkn hw;rw [h.i u e1]; exact ⟨e1, e2⟩
    · have hkn : k = n := by omega
      subst hkn
      have hle : d' u ≠ 0 → d' u ≤ k := fun hne => by
        by_cases e : d u = 0
        · rw [(h.ii u e hne).1]; exact Nat.le_refl _
        · rw [h.i u e]; have := (hH.a u e).1; omega
      suffices hne : d' u ≠ 0 from ⟨hne, hle hne⟩
      obtain ⟨m, rfl⟩ : ∃ m, k = m + 1 := ⟨k - 1, by omega⟩
      obtain ⟨hok, v, hv, hvu⟩ := hw
      by_cases hm : m = 0
      · subst hm;exact hall v ((hH.c v).2 (by rw [if_pos rfl]; exact hv)) u hvu hok
      · obtain ⟨e1, e2⟩ := hH.comp m v (by omega) (by omega) hv
        by_cases e3 : d v = m
        · exact hall v ((hH.c v).2 (by rw [if_neg (by omega)]; omega)) u hvu hok
        · have := (hH.comp (d v + 1) u (by omega) (by omega) ⟨hok, v, (hH.a v e1).2, hvu⟩).1;rw [h.i u this]; exact this
  · rw [if_neg (by omega), h.iii]
    constructor
    · rintro ⟨e1, e2⟩; rw [(h.ii v e1 e2).1]; omega
    · intro e;have hne : d' v ≠ 0 := by omega
      refine ⟨Classical.byContradiction fun hd => ?_, hne⟩;have := (hH.a v hd).1;rw [h.i v hd] at e; omega
structure DS (b : List (List Nat)) (ok : Nat → Prop) (s lim : Nat) (d : Nat → Nat) : Prop where
  a : ∀ u, d u ≠ 0 → Wk b ok s (d u) u ∧ d u ≤ lim
  comp : ∀ k u, 1 ≤ k → k ≤ lim → (d s = 0 ∨ k ≤ d s) → Wk b ok s k u → d u ≠ 0 ∧ d u ≤ k
theorem bh_end {b : List (List Nat)} {ok : Nat → Prop} {s n lim : Nat} {d : Nat → Nat} {lv : List Nat} (h : BH b ok s n d lv) (hn : n ≤ lim + 1) (he : lim < n ∨ lv = [] ∨ d s ≠ 0) : DS b ok s lim d := by
  have hpos := h.pos;refine ⟨fun u hu => ⟨(h.a u hu).2, by have := (h.a u hu).1; omega⟩, fun k u h1 h2 h3 hw => ?_⟩;rcases he with he | he | he
  · exact h.comp k u h1 (by omega) hw
  · have hn1 : n ≠ 1 := fun e => by
      have := (h.c s).2 (by rw [if_pos e]);rw [he] at this; cases this
    have hno : ∀ v, d v ≠ n - 1 := fun v e => by
      have := (h.c v).2 (by rw [if_neg hn1]; exact e);rw [he] at this; cases this
    clear h2 h3
    induction k generalizing u with
    | zero => omega
    | succ k ih =>
      by_cases hkn : k + 1 < n
      · exact h.comp (k + 1) u h1 hkn hw
      · obtain ⟨hok, v, hv, hvu⟩ := hw;obtain ⟨e1, e2⟩ := ih v (by omega) hv;have e3 := (h.a v e1).1;have e4 := hno v;obtain ⟨q1, q2⟩ := h.comp (d v + 1) u (by omega) (by omega) ⟨hok, v, (h.a v e1).2, hvu⟩;exact ⟨q1, by omega⟩
  · have := (h.a s he).1;rcases h3 with h3 | h3
    · exact (he h3).elim
    · exact h.comp k u h1 (by omega) hw
end Go.Proofs.Ytgdppeobgefogaa
/- Layer 31: distances. -/
namespace Go.Proofs.Ytgdppeobgefogaa
open Go.RowKit

structure MR (n : Nat) (M : List (Int × Int)) (d : Nat → Nat) : Prop where
  val : ∀ u : Nat, mget M (u : Int) 0 = (d u : Int)
  nd : (M.map Prod.fst).Nodup
  key : ∀ x ∈ M, ∃ u : Nat, u < n ∧ x.1 = (u : Int)
theorem mr_zero (n : Nat) : MR n [] (fun _ => 0) := ⟨fun _ => rfl, .nil, fun x h => (by cases h)⟩
theorem mputK {M : List (Int × Int)} {a b : Int} : ∀ x ∈ mput M a b, x ∈ M ∨ x = (a, b) := by
  induction M with
  | nil => intro x hx; exact .inr (List.mem_singleton.1 hx)
  | cons p r ih =>
    obtain ⟨k, c⟩ := p;intro x hx;unfold mput at hx
    split at hx
    · rename_i e
      rcases List.mem_cons.1 hx with h | h
      · exact .inr (by rw [h, e])
      · exact .inl (List.mem_cons_of_mem _ h)
    · rcases List.mem_cons.1 hx with h | h
      · exact .inl (by rw [h]; exact List.mem_cons_self ..)
      · exact (ih x h).imp (List.mem_cons_of_mem _) id
theorem mput_nd {M : List (Int × Int)} {a b : Int} (h : (M.map Prod.fst).Nodup) : ((mput M a b).map Prod.fst).Nodup := by
  induction M with
  | nil => simp [mput]
  | cons p r ih =>
    obtain ⟨k, c⟩ := p;rw [List.map_cons, List.nodup_cons] at h;unfold mput
    split
    · rw [List.map_cons, List.nodup_cons]; exact h
    · rename_i hne
      rw [List.map_cons, List.nodup_cons];refine ⟨fun hm => ?_, ih h.2⟩;obtain ⟨x, hx, e⟩ := List.mem_map.1 hm;rcases mputK x hx with hx | hx
      · exact h.1 (List.mem_map.2 ⟨x, hx, e⟩)
      · rw [hx] at e; exact hne e
theorem mr_put {n : Nat} {M : List (Int × Int)} {d : Nat → Nat} (h : MR n M d) {u v : Nat} (hu : u < n) : MR n (mput M (u : Int) (v : Int)) (updF d u v) := by
  refine ⟨fun x => ?_, mput_nd h.nd, fun x hx => ?_⟩
  · rw [mget_put]
    by_cases e : x = u
    · subst e; rw [if_pos rfl, ZaS]
    · rw [if_neg (fun h => e (by omega)), ZaQ e]; exact h.val x
  · rcases mputK x hx with hx | hx
    · exact h.key x hx
    · exact ⟨u, hu, by rw [hx]⟩
structure RI_ (M : List (Int × Int)) (l : List (Int × Int)) (f : Nat → Int) : Prop where
  a : ∀ x ∈ M, x ∈ l ∨ f x.1.toNat = x.2
  b : ∀ u : Nat, (∀ x ∈ M, x.1 ≠ (u : Int)) → f u = 0
theorem ri_end {n : Nat} {M : List (Int × Int)} {d : Nat → Nat} {f : Nat → Int} (h : MR n M d) (hr : RI_ M [] f) : rowI n f = rowN n d := by
  refine List.map_congr_left fun u _ => congrArg intD ?_;rw [← h.val u]
  by_cases hm : (u : Int) ∈ M.map Prod.fst
  · have h1 := mget_mem (z := 0) hm;have := (hr.a _ h1).resolve_left (fun h => by cases h)
    rwa [Int.toNat_natCast] at this
  · rw [mget_none hm];exact hr.b u fun x hx e => hm (List.mem_map.2 ⟨x, hx, e⟩)
theorem ri_next {n : Nat} {M : List (Int × Int)} {d : Nat → Nat} {l l' : List (Int × Int)} {f : Nat → Int} {k v : Int} (h : MR n M d) (hr : RI_ M l f) (hkv : (k, v) ∈ M) (hp : l.Perm ((k, v) :: l')) : RI_ M l' (updF f k.toNat v) := by
  obtain ⟨u, hu, e⟩ := h.key _ hkv;have e : k = (u : Int) := e;refine ⟨fun x hx => ?_, fun w hw => ?_⟩
  · by_cases ex : x = (k, v)
    · subst ex; exact .inr (ZaS ..)
    · rcases hr.a x hx with h1 | h1
      · exact .inl (((List.mem_cons.1 (hp.mem_iff.1 h1)).resolve_left ex))
      · refine .inr ?_;obtain ⟨w, _, e2⟩ := h.key x hx
        have hne : x.1.toNat ≠ k.toNat := fun e3 => ex (by
          rw [e2, e, Int.toNat_natCast, Int.toNat_natCast] at e3;have e4 : x.1 = k := by rw [e2, e, e3]
          have h5 := mget_of_mem (z := 0) h.nd (show (x.1, x.2) ∈ M from hx);have h6 := mget_of_mem (z := 0) h.nd hkv;rw [e4, h6] at h5
          exact Prod.ext e4 h5.symm)
        rw [ZaQ hne]; exact h1
  · have : w ≠ k.toNat := fun e3 => hw _ hkv (by rw [e3, e, Int.toNat_natCast]);rw [ZaQ this]; exact hr.b w hw
theorem bh_le {b : List (List Nat)} {ok : Nat → Prop} {s n : Nat} {d : Nat → Nat} {lv : List Nat} (h : BH b ok s n d lv) : lv.length ≤ b.length := by
  have := ZbH h.nd (m := List.range b.length) fun x hx => List.mem_range.2 (h.lt x hx)
  rwa [List.length_range] at this
set_option maxRecDepth 100000 in
set_option maxHeartbeats 1000000 in
theorem distances_c (b : List (List Nat)) (hb : GB b) (ofl : List Nat) (hof : ofl.length = b.length) (s : Nat) (hs : s < b.length) (lim : Nat) (hlim : lim ≤ 100000) :
    ACalls Try.prog 35 [.d (grD b), .d (natsD ofl), .d (natD s), .d (natD lim)] [] fun r H' => ∃ d, DS b (fun u => s ≤ u ∧ nth ofl u = nth ofl s) s lim d ∧ r = .d (natsD ((List.range b.length).map d)) ∧ H' = [] := by
  have hn := hb.n;have hgs := getn (l := ofl) (k := s) (by omega);refine Zbf Try.func35 rfl rfl Try.ntmps35 rfl rfl rfl fun F hF => (Zag (Zae (goAs rfl rfl (Zaf (Zag ?_)))));refine Zae (Zaw.go (st_makeMap 0 rfl rfl rfl rfl) (goAs rfl rfl (Zaf (Zag (Zae (goMv rfl rfl (Zaw.go (ZaN 1 sl25 rfl rfl rfl rfl rfl rfl rfl rfl) (goAs rfl rfl ?_))))))));refine Zaf (Zag (Zag (Zae (goAs rfl rfl (Zaf (Zay (Zbm (emb := natD) 10 1 [s] rfl rfl rfl rfl rfl rfl rfl (Za0 (α := Nat × (Nat → Nat) × List Nat × List (Int × Int)) (fun q => ⟨99, [(0, .d (grD b)), (1, .d (natsD ofl)), (2, .d (natD s)), (3, .d (natD lim)), (9, (.map 0 0)), (10, (.d (natsD q.2.2.1))), (11, (.d (natD q.1)))], [(0, [mapC intD intD q.2.2.2])]⟩) (fun q => BH b (fun u => s ≤ u ∧ nth ofl u = nth ofl s) s q.1 q.2.1 q.2.2.1 ∧ q.1 ≤ lim + 1 ∧ MR b.length q.2.2.2 q.2.1) (fun q => lim + 1 - q.1) ((1, fun _ => 0, [s], [])) (⟨bh_start hs, by show 1 ≤ lim + 1; omega, mr_zero _⟩) (Zax hF [0] rfl rfl ⟨rfl, rfl, rfl, rfl, rfl, rfl, rfl, trivial⟩) ?_))))))));rintro ⟨n, d, lv, M⟩ ⟨hH, hnl, hM⟩;dsimp only at hH hnl hM ⊢;refine Zag (Zag (Zae (goMv rfl rfl (goMv rfl rfl (Zab.go (st_leq rfl rfl rfl) (goMv rfl rfl ?_))))))
  first | refine Zbw 26 rfl (fun h26 => ?_) (fun h26 => ?_) | refine Zbj 26 rfl (fun h26 => ?_) (fun h26 => ?_)
  · refine ZaH rfl rfl rfl (goMv rfl rfl (ZaH rfl rfl rfl (Zab.go (ZaD rfl (List.length_map ..) Try.underlying25 rfl) (ZaH rfl rfl rfl ?_))))
    first | refine Zab.go (st_gtr rfl rfl rfl) ?_ | refine Zab.go (ZbF rfl rfl rfl) ?_
    refine Zab.go (Za8 rfl rfl rfl rfl) (goMv rfl rfl ?_)
    first | refine Zbw 31 rfl (fun h31 => ?_) (fun h31 => ?_) | refine Zbj 31 rfl (fun h31 => ?_) (fun h31 => ?_)
    · refine ZaH rfl rfl rfl (goMv rfl rfl (ZaH rfl rfl rfl (goMv rfl rfl (ZaH rfl rfl rfl (Zab.go (st_look (M) ((s : Int)) (0) _ rfl rfl rfl mt72 kt3 za3 rfl rfl) (ZaH rfl rfl rfl ?_))))))
      first | refine Zab.go (Zby rfl rfl rfl) ?_ | refine Zab.go (Zbb rfl rfl rfl) ?_ | refine Zab.go (Zbk rfl rfl rfl) ?_ | refine Zab.go (Zbr Try.underlying3 rfl rfl rfl) ?_ | refine Zab.go (Zbo Try.underlying3 rfl rfl rfl) ?_ | refine Zab.go (Zbp Try.underlying3 rfl rfl) ?_ | refine Zab.go (Zbq Try.underlying3 rfl rfl rfl) ?_ | refine Zab.go (Zbc Try.underlying3 rfl rfl) ?_
      refine Zab.go (Za8 rfl rfl rfl rfl) (Zaf ?_)
      first | refine ZaU rfl (fun h36 => ?_) (fun h36 => ?_) | refine ZaF rfl (fun h36 => ?_) (fun h36 => ?_)
      · refine ZaC (Zag (Zay (Zag ?_)));have hln : n ≤ lim := Int.ofNat_le.1 h26;have hd0 : d s = 0 := Int.ofNat.inj ((hM.val s).symm.trans h36);refine Zae (goAs rfl rfl (Zaf (Zag ?_)));refine Zag (Zae (goMv rfl rfl (Zab.go (ZaD rfl (List.length_map ..) Try.underlying25 rfl) (goMv rfl rfl (Zaf (Zay (a_adopt 12 2 sl25 rfl rfl rfl rfl (Za0 (α := Nat × (Nat → Nat) × List Nat × List (Int × Int)) (fun q => ⟨99, [(0, .d (grD b)), (1, .d (natsD ofl)), (2, .d (natD s)), (3, .d (natD lim)), (9, (.map 0 0)), (11, (.d (natD n))), (12, (.own 2 0 q.2.2.1.length)), (39, (.d (natsD lv))), (40, (.d (natD lv.length))), (41, (.d (natD q.1)))], [(0, [mapC intD intD q.2.2.2]), (2, [.rowD 3 1 (q.2.2.1.map natD)])]⟩) (fun q => q.1 ≤ lv.length ∧ BI b (fun u => s ≤ u ∧ nth ofl u = nth ofl s) s n d q.2.1 lv q.2.2.1 q.1 0 ∧ MR b.length q.2.2.2 q.2.1) (fun q => lv.length - q.1) ((0, d, [], M)) (⟨Nat.zero_le _, bi_start, hM⟩) (Zax hF [0, 2] rfl rfl ⟨rfl, rfl, rfl, rfl, rfl, rfl, rfl, rfl, rfl, rfl, trivial⟩) ?_))))))));rintro ⟨p, d', nx, M⟩ ⟨hp, hI, hM⟩;dsimp only at hp hI hM ⊢;refine Zag (Zae ?_)
        first | refine Zab.go (ZaY rfl rfl rfl) ?_ | refine Zab.go (ZaT rfl rfl rfl) ?_
        refine Zaf (Zag ?_)
        first | refine ZaU rfl (fun h42 => ?_) (fun h42 => ?_) | refine ZaF rfl (fun h42 => ?_) (fun h42 => ?_)
        · refine ZaC (Zag (Zay (Zag ?_)));have hpl : p < lv.length := Za7 h42;have hlvl := bh_le hH;have hvl := hH.lt _ (Zbs hpl);refine Zae ?_
          first | refine Zab.go (Zam (p) rfl rfl (rfl) (getn hpl) Try.underlying25 rfl sz3 rfl) ?_ | refine Zab.go (Zal (p) rfl rfl (rfl) (getn hpl) rfl Try.underlying25 sz3 rfl) ?_
          first | refine Zab.go (Zai rfl rfl on3 rfl) ?_ | refine Zab.go (Zak rfl rfl rfl on3 rfl) ?_ | refine Zab.go (Zaj rfl rfl (rfl) rfl on3 rfl) ?_
          refine goAs rfl rfl (Zaf (Zag (Zae (goMv rfl rfl (goMv rfl rfl ?_)))))
          first | refine Zab.go (Zam (nth lv p) rfl rfl (rfl) (getg hvl) Try.underlying32 rfl sz25 rfl) ?_ | refine Zab.go (Zal (nth lv p) rfl rfl (rfl) (getg hvl) rfl Try.underlying32 sz25 rfl) ?_
          first | refine Zab.go (Zai rfl rfl on25 rfl) ?_ | refine Zab.go (Zak rfl rfl rfl on25 rfl) ?_ | refine Zab.go (Zaj rfl rfl (rfl) rfl on25 rfl) ?_
          refine Zab.go (ZaD rfl (List.length_map ..) Try.underlying25 rfl) (goMv rfl rfl (Zaf (Zay (Za0 (α := Nat × (Nat → Nat) × List Nat × List (Int × Int)) (fun q => ⟨99, [(0, .d (grD b)), (1, .d (natsD ofl)), (2, .d (natD s)), (3, .d (natD lim)), (9, (.map 0 0)), (11, (.d (natD n))), (12, (.own 2 0 q.2.2.1.length)), (39, (.d (natsD lv))), (40, (.d (natD lv.length))), (41, (.d (natD p))), (48, (.d (natsD (sucs b (nth lv p))))), (49, (.d (natD (sucs b (nth lv p)).length))), (50, (.d (natD q.1)))], [(0, [mapC intD intD q.2.2.2]), (2, [.rowD 3 1 (q.2.2.1.map natD)])]⟩) (fun q => q.1 ≤ (sucs b (nth lv p)).length ∧ BI b (fun u => s ≤ u ∧ nth ofl u = nth ofl s) s n d q.2.1 lv q.2.2.1 p q.1 ∧ MR b.length q.2.2.2 q.2.1) (fun q => (sucs b (nth lv p)).length - q.1) ((0, d', nx, M)) (⟨Nat.zero_le _, hI, hM⟩) (Zax hF [0, 2] rfl rfl ⟨rfl, rfl, rfl, rfl, rfl, rfl, rfl, rfl, rfl, rfl, rfl, rfl, rfl, trivial⟩) ?_))));rintro ⟨k, d', nx, M⟩ ⟨hk, hI, hM⟩;dsimp only at hk hI hM ⊢;refine Zag (Zae ?_)
          first | refine Zab.go (ZaY rfl rfl rfl) ?_ | refine Zab.go (ZaT rfl rfl rfl) ?_
          refine Zaf (Zag ?_)
          first | refine ZaU rfl (fun h51 => ?_) (fun h51 => ?_) | refine ZaF rfl (fun h51 => ?_) (fun h51 => ?_)
          · refine ZaC (Zag (Zay (Zag ?_)));have hkl : k < (sucs b (nth lv p)).length := Za7 h51;have hsl := hb.len hvl;have hgn := getn hkl;have hul : nth (sucs b (nth lv p)) k < b.length := hb.suc hvl (Zbs hkl)
            obtain ⟨u, hue⟩ : ∃ u, nth (sucs b (nth lv p)) k = u := ⟨_, rfl⟩
            rw [hue] at hgn hul;have hgu := getn (l := ofl) (k := u) (by omega);have hnxl := bi_le hI;refine Zae ?_
            first | refine Zab.go (Zam (k) rfl rfl (rfl) (hgn) Try.underlying25 rfl sz3 rfl) ?_ | refine Zab.go (Zal (k) rfl rfl (rfl) (hgn) rfl Try.underlying25 sz3 rfl) ?_
            first | refine Zab.go (Zai rfl rfl on3 rfl) ?_ | refine Zab.go (Zak rfl rfl rfl on3 rfl) ?_ | refine Zab.go (Zaj rfl rfl (rfl) rfl on3 rfl) ?_
            refine goAs rfl rfl (Zaf (Zag (Za4 [[], [], [0, 1], [0, 1, 2], [0, 1, 2, 3], [0, 1, 2, 3], [0, 1, 2, 3, 4, 5], [0, 1, 2, 3, 4, 5, 6], [0, 1, 2, 3], [0, 1, 2, 3], [0, 1, 2, 3, 8, 9], [0, 1, 2, 3, 8, 9, 10], [0, 1, 2, 3, 4, 5, 6, 7, 8, 9, 10, 11], [0, 1, 2, 3, 4, 5, 6, 7, 8, 9, 10, 11, 12], [0, 1, 2, 3, 4, 5, 6, 7, 8, 9, 10, 11, 12, 13], [0, 1, 2, 3, 4, 5, 6, 7, 8, 9, 10, 11, 12, 13, 14], [0, 1, 2, 3, 4, 5, 6, 7, 8, 9, 10, 11, 12, 13, 14], [0, 1, 2, 3, 4, 5, 6, 7, 8, 9, 10, 11, 12, 13, 14, 15, 16], [0, 1, 2, 3, 4, 5, 6, 7, 8, 9, 10, 11, 12, 13, 14, 15, 16, 17], [0, 1, 2, 3, 4, 5, 6, 7, 8, 9, 10, 11, 12, 13, 14, 15, 16, 17, 18]] mixed rfl (dws ?_))))
            first | refine Zad [16] [] rfl rfl (fun _ => Zaa (Zah rfl rfl)) ?_ | refine Zac [16] rfl rfl (fun _ => Zaa (Zah rfl rfl)) ?_
            first | refine Zad [2] [] rfl rfl (fun _ => Zaa (Zah rfl rfl)) ?_ | refine Zac [2] rfl rfl (fun _ => Zaa (Zah rfl rfl)) ?_
            refine dwc 2 rfl rfl rfl (dw1 3 rfl rfl (Zab.go (st_geq rfl rfl rfl) (Zaf ⟨rfl, ?_⟩)));refine dw1 4 rfl rfl (goMv rfl rfl ?_)
            first | refine Zbw 57 rfl (fun h57 => ?_) (fun h57 => ?_) | refine Zbj 57 rfl (fun h57 => ?_) (fun h57 => ?_)
            · refine Zaf ⟨rfl, ?_⟩;refine dws ?_
              first | refine Zad [1, 57] [] rfl rfl (fun _ => Zan rfl rfl rfl (Zah rfl rfl)) ?_ | refine Zac [1, 57] rfl rfl (fun _ => Zan rfl rfl rfl (Zah rfl rfl)) ?_
              first | refine Zad [16, 57] [] rfl rfl (fun _ => Zan rfl rfl rfl (Zah rfl rfl)) ?_ | refine Zac [16, 57] rfl rfl (fun _ => Zan rfl rfl rfl (Zah rfl rfl)) ?_
              first | refine Zad [58, 59, 57] [] rfl rfl (fun _ => Zan rfl rfl rfl (Zam (u) rfl rfl (rfl) (hgu) Try.underlying25 rfl sz3 rfl)) ?_ | refine Zac [58, 59, 57] rfl rfl (fun _ => Zan rfl rfl rfl (Zam (u) rfl rfl (rfl) (hgu) Try.underlying25 rfl sz3 rfl)) ?_ | refine Zad [58, 59, 57] [] rfl rfl (fun _ => Zan rfl rfl rfl (Zal (u) rfl rfl (rfl) (hgu) rfl Try.underlying25 sz3 rfl)) ?_ | refine Zac [58, 59, 57] rfl rfl (fun _ => Zan rfl rfl rfl (Zal (u) rfl rfl (rfl) (hgu) rfl Try.underlying25 sz3 rfl)) ?_
              first | refine Zad [60, 57] [] rfl rfl (fun _ => Zan rfl rfl rfl (Zai rfl rfl on3 rfl)) ?_ | refine Zac [60, 57] rfl rfl (fun _ => Zan rfl rfl rfl (Zai rfl rfl on3 rfl)) ?_ | refine Zad [60, 57] [] rfl rfl (fun _ => Zan rfl rfl rfl (Zak rfl rfl rfl on3 rfl)) ?_ | refine Zac [60, 57] rfl rfl (fun _ => Zan rfl rfl rfl (Zak rfl rfl rfl on3 rfl)) ?_ | refine Zad [60, 57] [] rfl rfl (fun _ => Zan rfl rfl rfl (Zaj rfl rfl (rfl) rfl on3 rfl)) ?_ | refine Zac [60, 57] rfl rfl (fun _ => Zan rfl rfl rfl (Zaj rfl rfl (rfl) rfl on3 rfl)) ?_
              first | refine Zad [1, 57] [] rfl rfl (fun _ => Zan rfl rfl rfl (Zah rfl rfl)) ?_ | refine Zac [1, 57] rfl rfl (fun _ => Zan rfl rfl rfl (Zah rfl rfl)) ?_
              first | refine Zad [2, 57] [] rfl rfl (fun _ => Zan rfl rfl rfl (Zah rfl rfl)) ?_ | refine Zac [2, 57] rfl rfl (fun _ => Zan rfl rfl rfl (Zah rfl rfl)) ?_
              first | refine Zad [62, 63, 57] [] rfl rfl (fun _ => Zan rfl rfl rfl (Zam (s) rfl rfl (rfl) (hgs) Try.underlying25 rfl sz3 rfl)) ?_ | refine Zac [62, 63, 57] rfl rfl (fun _ => Zan rfl rfl rfl (Zam (s) rfl rfl (rfl) (hgs) Try.underlying25 rfl sz3 rfl)) ?_ | refine Zad [62, 63, 57] [] rfl rfl (fun _ => Zan rfl rfl rfl (Zal (s) rfl rfl (rfl) (hgs) rfl Try.underlying25 sz3 rfl)) ?_ | refine Zac [62, 63, 57] rfl rfl (fun _ => Zan rfl rfl rfl (Zal (s) rfl rfl (rfl) (hgs) rfl Try.underlying25 sz3 rfl)) ?_
              first | refine Zad [64, 57] [] rfl rfl (fun _ => Zan rfl rfl rfl (Zai rfl rfl on3 rfl)) ?_ | refine Zac [64, 57] rfl rfl (fun _ => Zan rfl rfl rfl (Zai rfl rfl on3 rfl)) ?_ | refine Zad [64, 57] [] rfl rfl (fun _ => Zan rfl rfl rfl (Zak rfl rfl rfl on3 rfl)) ?_ | refine Zac [64, 57] rfl rfl (fun _ => Zan rfl rfl rfl (Zak rfl rfl rfl on3 rfl)) ?_ | refine Zad [64, 57] [] rfl rfl (fun _ => Zan rfl rfl rfl (Zaj rfl rfl (rfl) rfl on3 rfl)) ?_ | refine Zac [64, 57] rfl rfl (fun _ => Zan rfl rfl rfl (Zaj rfl rfl (rfl) rfl on3 rfl)) ?_
              refine dwc 12 rfl rfl rfl (dw1 13 rfl rfl (ZaH rfl rfl rfl ?_))
              first | refine Zab.go (Zby rfl rfl rfl) ?_ | refine Zab.go (Zbb rfl rfl rfl) ?_ | refine Zab.go (Zbk rfl rfl rfl) ?_ | refine Zab.go (Zbr Try.underlying3 rfl rfl rfl) ?_ | refine Zab.go (Zbo Try.underlying3 rfl rfl rfl) ?_ | refine Zab.go (Zbp Try.underlying3 rfl rfl) ?_ | refine Zab.go (Zbq Try.underlying3 rfl rfl rfl) ?_ | refine Zab.go (Zbc Try.underlying3 rfl rfl) ?_
              refine Zaf ⟨rfl, ?_⟩;refine dw1 14 rfl rfl (Zab.go (Za8 rfl rfl rfl rfl) (Zaf ⟨rfl, ?_⟩));refine dw1 15 rfl rfl (goMv rfl rfl ?_)
              first | refine Zbw 68 rfl (fun h68 => ?_) (fun h68 => ?_) | refine Zbj 68 rfl (fun h68 => ?_) (fun h68 => ?_)
              · refine Zaf ⟨rfl, ?_⟩;refine dws ?_
                first | refine Zad [9, 68] [] rfl rfl (fun _ => Zan rfl rfl rfl (Zah rfl rfl)) ?_ | refine Zac [9, 68] rfl rfl (fun _ => Zan rfl rfl rfl (Zah rfl rfl)) ?_
                first | refine Zad [16, 68] [] rfl rfl (fun _ => Zan rfl rfl rfl (Zah rfl rfl)) ?_ | refine Zac [16, 68] rfl rfl (fun _ => Zan rfl rfl rfl (Zah rfl rfl)) ?_
                refine dwc 17 rfl rfl rfl (dw1 18 rfl rfl (ZaH rfl rfl rfl (Zab.go (st_look (M) ((u : Int)) (0) _ rfl rfl rfl mt72 kt3 za3 rfl rfl) (Zaf ⟨rfl, ?_⟩))));refine dw1 19 rfl rfl (ZaH rfl rfl rfl ?_)
                first | refine Zab.go (Zby rfl rfl rfl) ?_ | refine Zab.go (Zbb rfl rfl rfl) ?_ | refine Zab.go (Zbk rfl rfl rfl) ?_ | refine Zab.go (Zbr Try.underlying3 rfl rfl rfl) ?_ | refine Zab.go (Zbo Try.underlying3 rfl rfl rfl) ?_ | refine Zab.go (Zbp Try.underlying3 rfl rfl) ?_ | refine Zab.go (Zbq Try.underlying3 rfl rfl rfl) ?_ | refine Zab.go (Zbc Try.underlying3 rfl rfl) ?_
                refine Zaf ⟨rfl, ?_⟩;refine dw1 20 rfl rfl (Zab.go (Za8 rfl rfl rfl rfl) (Zaf ⟨rfl, ?_⟩));refine dwe ?_
                first | refine ZaU rfl (fun h73 => ?_) (fun h73 => ?_) | refine ZaF rfl (fun h73 => ?_) (fun h73 => ?_)
                · refine Zag (Zae (goMv rfl rfl (goMv rfl rfl (goMv rfl rfl ?_))))
                  first | refine Zaw.go (st_mapU (M) ((u : Int)) ((n : Int)) rfl rfl rfl mt72 kt3 rfl rfl) ?_ | refine Zaw.go (st_mapUH (M) ((u : Int)) ((n : Int)) rfl rfl rfl mt72 kt3 rfl rfl) ?_
                  refine Zaf (Zae (goMv rfl rfl ?_));refine goMv rfl rfl (Zaw.go (ZaN 21 sl25 rfl rfl rfl rfl rfl rfl rfl rfl) (Zaw.go (st_appM (emb := natD) nx [u] rfl rfl rfl rfl rfl rfl rfl rfl sl25 (by show (nx.length + 1) * 8 ≤ _; omega) rfl rfl rfl rfl) (goAs rfl rfl (Zaf (Zae (Zab.go (ZaJ rfl rfl (IntWalk.i64_in _ (by omega)) rfl) (goMv rfl rfl (Zaf ?_))))))));exact ⟨(k + 1, updF d' u n, nx ++ [u], mput M (u : Int) (n : Int)), ⟨hkl, bi_new hH hI hpl hkl hue hul ⟨Int.ofNat_le.1 h57, Int.ofNat.inj h68⟩ (Int.ofNat.inj ((hM.val u).symm.trans h73)), mr_put hM hul⟩, by show (sucs b (nth lv p)).length - (k + 1) < (sucs b (nth lv p)).length - k; omega, Zax hF [0, 2] rfl (rfl) ⟨rfl, rfl, rfl, rfl, rfl, rfl, rfl, rfl, rfl, rfl, rfl, rfl, rfl, trivial⟩⟩
                · refine ZaC (Zae (Zab.go (ZaJ rfl rfl (IntWalk.i64_in _ (by omega)) rfl) (goMv rfl rfl (Zaf ?_))));exact ⟨(k + 1, d', nx, M), ⟨hkl, bi_skip hI hkl hue (fun h => h73 ((hM.val u).trans (congrArg Int.ofNat h.2))), hM⟩, by show (sucs b (nth lv p)).length - (k + 1) < (sucs b (nth lv p)).length - k; omega, Zax hF [0, 2] rfl (rfl) ⟨rfl, rfl, rfl, rfl, rfl, rfl, rfl, rfl, rfl, rfl, rfl, rfl, rfl, trivial⟩⟩
              · refine Zaf ⟨rfl, ?_⟩;refine dws (Zad [9, 68] [] rfl rfl (fun _ => ZaI rfl rfl rfl rfl) (Zad [16, 68] [] rfl rfl (fun _ => ZaI rfl rfl rfl rfl) (dwc 17 rfl rfl rfl (dw1 18 rfl rfl (ZaG rfl rfl rfl rfl (Zaf ⟨rfl, ?_⟩))))));refine dw1 19 rfl rfl (ZaG rfl rfl rfl rfl (Zaf ⟨rfl, ?_⟩));refine dw1 20 rfl rfl (Zab.go (ZaW rfl rfl rfl rfl) (Zaf ⟨rfl, ?_⟩));refine dwe (Zbu rfl rfl (ZaC (Zae (Zab.go (ZaJ rfl rfl (IntWalk.i64_in _ (by omega)) rfl) (goMv rfl rfl (Zaf ?_))))));exact ⟨(k + 1, d', nx, M), ⟨hkl, bi_skip hI hkl hue (fun h => h68 (congrArg Int.ofNat h.1.2)), hM⟩, by show (sucs b (nth lv p)).length - (k + 1) < (sucs b (nth lv p)).length - k; omega, Zax hF [0, 2] rfl (rfl) ⟨rfl, rfl, rfl, rfl, rfl, rfl, rfl, rfl, rfl, rfl, rfl, rfl, rfl, trivial⟩⟩
            · refine Zaf ⟨rfl, ?_⟩;refine dws (Zad [1, 57] [] rfl rfl (fun _ => ZaI rfl rfl rfl rfl) (Zad [16, 57] [] rfl rfl (fun _ => ZaI rfl rfl rfl rfl) (Zad [58, 59, 57] [] rfl rfl (fun _ => ZaI rfl rfl rfl rfl) ?_)));refine Zad [60, 57] [] rfl rfl (fun _ => ZaI rfl rfl rfl rfl) (Zad [1, 57] [] rfl rfl (fun _ => ZaI rfl rfl rfl rfl) (Zad [2, 57] [] rfl rfl (fun _ => ZaI rfl rfl rfl rfl) (Zad [62, 63, 57] [] rfl rfl (fun _ => ZaI rfl rfl rfl rfl) (Zad [64, 57] [] rfl rfl (fun _ => ZaI rfl rfl rfl rfl) (dwc 12 rfl rfl rfl (dw1 13 rfl rfl (ZaG rfl rfl rfl rfl (Zaf ⟨rfl, ?_⟩))))))));refine dw1 14 rfl rfl (Zab.go (ZaW rfl rfl rfl rfl) (Zaf ⟨rfl, ?_⟩));refine dw1 15 rfl rfl (goMv rfl rfl (Zaf ⟨rfl, ?_⟩));refine dws (Zad [9, 68] [] rfl rfl (fun _ => ZaI rfl rfl rfl rfl) (Zad [16, 68] [] rfl rfl (fun _ => ZaI rfl rfl rfl rfl) (dwc 17 rfl rfl rfl (dw1 18 rfl rfl (ZaG rfl rfl rfl rfl (Zaf ⟨rfl, ?_⟩))))));refine dw1 19 rfl rfl (ZaG rfl rfl rfl rfl (Zaf ⟨rfl, ?_⟩));refine dw1 20 rfl rfl (Zab.go (ZaW rfl rfl rfl rfl) (Zaf ⟨rfl, ?_⟩));refine dwe (Zbu rfl rfl (ZaC (Zae (Zab.go (ZaJ rfl rfl (IntWalk.i64_in _ (by omega)) rfl) (goMv rfl rfl (Zaf ?_))))));exact ⟨(k + 1, d', nx, M), ⟨hkl, bi_skip hI hkl hue (fun h => h57 (Int.ofNat_le.2 h.1.1)), hM⟩, by show (sucs b (nth lv p)).length - (k + 1) < (sucs b (nth lv p)).length - k; omega, Zax hF [0, 2] rfl (rfl) ⟨rfl, rfl, rfl, rfl, rfl, rfl, rfl, rfl, rfl, rfl, rfl, rfl, rfl, trivial⟩⟩
          · refine ZaL ?_;have hke : k = (sucs b (nth lv p)).length := by have := h51; omega
            subst hke;refine Zae (Zab.go (ZaJ rfl rfl (IntWalk.i64_in _ (by omega)) rfl) (goMv rfl rfl (Zaf ?_)));exact ⟨(p + 1, d', nx, M), ⟨hpl, bi_row hI hpl, hM⟩, by show lv.length - (p + 1) < lv.length - p; omega, Zax hF [0, 2] rfl (rfl) ⟨rfl, rfl, rfl, rfl, rfl, rfl, rfl, rfl, rfl, rfl, trivial⟩⟩
        · refine ZaL ?_;have hpe : p = lv.length := by have := h42; omega
          subst hpe;have hB := hI;refine Zbm (emb := natD) 12 2 nx rfl rfl rfl rfl rfl rfl rfl ?_;refine Zae (goMv rfl rfl (goAs rfl rfl (Zaf (Zae (goMv rfl rfl (Zab.go (ZaJ rfl rfl (IntWalk.i64_in _ (by omega)) rfl) (goAs rfl rfl (Zaf ?_))))))));exact ⟨(n + 1, d', nx, M), ⟨bh_next hH hB hd0, by show n + 1 ≤ lim + 1; omega, hM⟩, by show lim + 1 - (n + 1) < lim + 1 - n; omega, Zax hF [0] rfl (rfl) ⟨rfl, rfl, rfl, rfl, rfl, rfl, rfl, trivial⟩⟩
      · refine ZaL (Zag ?_);have hE := bh_end (lim := lim) hH hnl (by first | exact .inl (by omega) | exact .inr (.inl (List.length_eq_zero_iff.1 (by omega))) | exact .inr (.inr fun e => h36 ((hM.val s).trans (congrArg Int.ofNat e))));refine Zae (goMv rfl rfl (Zab.go (ZaD rfl (List.length_map ..) Try.underlying32 rfl) (Zaw.go (st_make 3 sl25 rfl rfl rfl (by omega) zd3 rfl rfl rfl rfl) (goAs rfl rfl (Zaf (Zag (Zag ?_)))))));rw [repI];refine Zae (goMv rfl rfl (Zaw.go (st_range 4 rfl rfl rfl mt72 rfl rfl rfl rfl) (Zaf (Zay (Za0 (α := List Nat × (Nat → Int)) (fun q => ⟨99, [(17, (.own 3 0 b.length)), (88, (.ptr 4 0 0))], [(4, [.iter 0 0 M.length q.1]), (0, [mapC intD intD M]), (3, [.rowD 3 1 (rowI b.length q.2)])]⟩) (fun q => RI_ M (lft M (List.range M.length) q.1) q.2) (fun q => (lft M (List.range M.length) q.1).length) (([], fun _ => 0)) (⟨fun x hx => .inl (by rw [lft_start (by simp)]; exact hx), fun u _ => rfl⟩) (Zax hF [4, 0, 3] rfl rfl ⟨rfl, rfl, trivial⟩) ?_)))));rintro ⟨seen, f⟩ hR;dsimp only at hR ⊢;refine Zag (Zae (o_next (M) rfl rfl rfl rfl (fun hl89 => ?_) (fun j89 b89 k89 v89 hm89 hb89 hB89 hp89 => ⟨_, rfl, ?_⟩)))
        · first | refine Zab.go (ZaO rfl rfl rfl) ?_ | refine Zab.go (ZaP rfl rfl rfl) ?_
          refine Zaf (Zag (Zbu rfl rfl (ZaL (Zag ?_))));rw [hl89] at hR;have hre := ri_end hM hR;rw [hre, rowN_map];refine Zbm (emb := natD) 17 3 ((List.range b.length).map d) rfl rfl rfl (by simp) rfl rfl rfl (Zae (goMv rfl rfl (goAs rfl rfl (Zaf (Zbg ?_)))));exact ⟨_, [], [], ZaZ rfl, rfl, rfl, d, hE, rfl, rfl⟩
        · first | refine Zab.go (ZaO rfl rfl rfl) ?_ | refine Zab.go (ZaP rfl rfl rfl) ?_
          refine Zaf (Zag (a_true rfl rfl (ZaC (Zay (Zag (Zae (Zab.go (st_entry (M) j89 b89 rfl rfl rfl hm89 hb89 rfl) ?_)))))))
          first | refine Zab.go (ZaO rfl rfl rfl) ?_ | refine Zab.go (ZaP rfl rfl rfl) ?_
          first | refine Zab.go (ZaO rfl rfl rfl) ?_ | refine Zab.go (ZaP rfl rfl rfl) ?_
          refine goAs rfl rfl (goAs rfl rfl (Zaf ?_));obtain ⟨w, hw, hwe⟩ := hM.key _ (List.mem_of_getElem? hm89);have hwk : k89 = ((k89.toNat : Nat) : Int) := by have e : k89 = (w : Int) := hwe; rw [e]; rfl
          have hwl : k89.toNat < b.length := by have e : k89 = (w : Int) := hwe; rw [e]; exact hw
          refine Zae (goMv rfl rfl (goMv rfl rfl (goMv rfl rfl ?_)))
          first | refine Zab.go (Zam (k89.toNat) rfl rfl (hwk) (hwl) Try.underlying25 rfl sz3 rfl) ?_ | refine Zab.go (Zal (k89.toNat) rfl rfl (hwk) (hwl) rfl Try.underlying25 sz3 rfl) ?_
          refine Zaw.go (Za2 rfl rfl rfl rfl rfl (by rw [rowI_len]; exact hwl) rowI_set rfl sz3) (Zaf ?_);exact ⟨(seen ++ [b89], updF f k89.toNat v89), ri_next hM hR (List.mem_of_getElem? hm89) hp89, by rw [hp89.length_eq]; exact Nat.lt_succ_self _, Zax hF [4, 0, 3] rfl (rfl) ⟨rfl, rfl, trivial⟩⟩
    · refine ZaG rfl rfl rfl rfl (ZaG rfl rfl rfl rfl (ZaG rfl rfl rfl rfl (ZaG rfl rfl rfl rfl (Zab.go (ZaW rfl rfl rfl rfl) (Zaf (Zbu rfl rfl (ZaL (Zag ?_))))))));have hE := bh_end (lim := lim) hH hnl (by first | exact .inl (by omega) | exact .inr (.inl (List.length_eq_zero_iff.1 (by omega))) | exact .inr (.inr fun e => h36 ((hM.val s).trans (congrArg Int.ofNat e))));refine Zae (goMv rfl rfl (Zab.go (ZaD rfl (List.length_map ..) Try.underlying32 rfl) (Zaw.go (st_make 3 sl25 rfl rfl rfl (by omega) zd3 rfl rfl rfl rfl) (goAs rfl rfl (Zaf (Zag (Zag ?_)))))));rw [repI];refine Zae (goMv rfl rfl (Zaw.go (st_range 4 rfl rfl rfl mt72 rfl rfl rfl rfl) (Zaf (Zay (Za0 (α := List Nat × (Nat → Int)) (fun q => ⟨99, [(17, (.own 3 0 b.length)), (88, (.ptr 4 0 0))], [(4, [.iter 0 0 M.length q.1]), (0, [mapC intD intD M]), (3, [.rowD 3 1 (rowI b.length q.2)])]⟩) (fun q => RI_ M (lft M (List.range M.length) q.1) q.2) (fun q => (lft M (List.range M.length) q.1).length) (([], fun _ => 0)) (⟨fun x hx => .inl (by rw [lft_start (by simp)]; exact hx), fun u _ => rfl⟩) (Zax hF [4, 0, 3] rfl rfl ⟨rfl, rfl, trivial⟩) ?_)))));rintro ⟨seen, f⟩ hR;dsimp only at hR ⊢;refine Zag (Zae (o_next (M) rfl rfl rfl rfl (fun hl89 => ?_) (fun j89 b89 k89 v89 hm89 hb89 hB89 hp89 => ⟨_, rfl, ?_⟩)))
      · first | refine Zab.go (ZaO rfl rfl rfl) ?_ | refine Zab.go (ZaP rfl rfl rfl) ?_
        refine Zaf (Zag (Zbu rfl rfl (ZaL (Zag ?_))));rw [hl89] at hR;have hre := ri_end hM hR;rw [hre, rowN_map];refine Zbm (emb := natD) 17 3 ((List.range b.length).map d) rfl rfl rfl (by simp) rfl rfl rfl (Zae (goMv rfl rfl (goAs rfl rfl (Zaf (Zbg ?_)))));exact ⟨_, [], [], ZaZ rfl, rfl, rfl, d, hE, rfl, rfl⟩
      · first | refine Zab.go (ZaO rfl rfl rfl) ?_ | refine Zab.go (ZaP rfl rfl rfl) ?_
        refine Zaf (Zag (a_true rfl rfl (ZaC (Zay (Zag (Zae (Zab.go (st_entry (M) j89 b89 rfl rfl rfl hm89 hb89 rfl) ?_)))))))
        first | refine Zab.go (ZaO rfl rfl rfl) ?_ | refine Zab.go (ZaP rfl rfl rfl) ?_
        first | refine Zab.go (ZaO rfl rfl rfl) ?_ | refine Zab.go (ZaP rfl rfl rfl) ?_
        refine goAs rfl rfl (goAs rfl rfl (Zaf ?_));obtain ⟨w, hw, hwe⟩ := hM.key _ (List.mem_of_getElem? hm89);have hwk : k89 = ((k89.toNat : Nat) : Int) := by have e : k89 = (w : Int) := hwe; rw [e]; rfl
        have hwl : k89.toNat < b.length := by have e : k89 = (w : Int) := hwe; rw [e]; exact hw
        refine Zae (goMv rfl rfl (goMv rfl rfl (goMv rfl rfl ?_)))
        first | refine Zab.go (Zam (k89.toNat) rfl rfl (hwk) (hwl) Try.underlying25 rfl sz3 rfl) ?_ | refine Zab.go (Zal (k89.toNat) rfl rfl (hwk) (hwl) rfl Try.underlying25 sz3 rfl) ?_
        refine Zaw.go (Za2 rfl rfl rfl rfl rfl (by rw [rowI_len]; exact hwl) rowI_set rfl sz3) (Zaf ?_);exact ⟨(seen ++ [b89], updF f k89.toNat v89), ri_next hM hR (List.mem_of_getElem? hm89) hp89, by rw [hp89.length_eq]; exact Nat.lt_succ_self _, Zax hF [4, 0, 3] rfl (rfl) ⟨rfl, rfl, trivial⟩⟩
  · refine ZaG rfl rfl rfl rfl (ZaG rfl rfl rfl rfl (ZaG rfl rfl rfl rfl (Zab.go (ZaW rfl rfl rfl rfl) (goMv rfl rfl ?_))));refine ZaG rfl rfl rfl rfl (ZaG rfl rfl rfl rfl (ZaG rfl rfl rfl rfl (ZaG rfl rfl rfl rfl (Zab.go (ZaW rfl rfl rfl rfl) (Zaf (Zbu rfl rfl (ZaL (Zag ?_))))))));have hE := bh_end (lim := lim) hH hnl (by first | exact .inl (by omega) | exact .inr (.inl (List.length_eq_zero_iff.1 (by omega))) | exact .inr (.inr fun e => h36 ((hM.val s).trans (congrArg Int.ofNat e))));refine Zae (goMv rfl rfl (Zab.go (ZaD rfl (List.length_map ..) Try.underlying32 rfl) (Zaw.go (st_make 3 sl25 rfl rfl rfl (by omega) zd3 rfl rfl rfl rfl) (goAs rfl rfl (Zaf (Zag (Zag ?_)))))));rw [repI];refine Zae (goMv rfl rfl (Zaw.go (st_range 4 rfl rfl rfl mt72 rfl rfl rfl rfl) (Zaf (Zay (Za0 (α := List Nat × (Nat → Int)) (fun q => ⟨99, [(17, (.own 3 0 b.length)), (88, (.ptr 4 0 0))], [(4, [.iter 0 0 M.length q.1]), (0, [mapC intD intD M]), (3, [.rowD 3 1 (rowI b.length q.2)])]⟩) (fun q => RI_ M (lft M (List.range M.length) q.1) q.2) (fun q => (lft M (List.range M.length) q.1).length) (([], fun _ => 0)) (⟨fun x hx => .inl (by rw [lft_start (by simp)]; exact hx), fun u _ => rfl⟩) (Zax hF [4, 0, 3] rfl rfl ⟨rfl, rfl, trivial⟩) ?_)))));rintro ⟨seen, f⟩ hR;dsimp only at hR ⊢;refine Zag (Zae (o_next (M) rfl rfl rfl rfl (fun hl89 => ?_) (fun j89 b89 k89 v89 hm89 hb89 hB89 hp89 => ⟨_, rfl, ?_⟩)))
    · first | refine Zab.go (ZaO rfl rfl rfl) ?_ | refine Zab.go (ZaP rfl rfl rfl) ?_
      refine Zaf (Zag (Zbu rfl rfl (ZaL (Zag ?_))));rw [hl89] at hR;have hre := ri_end hM hR;rw [hre, rowN_map];refine Zbm (emb := natD) 17 3 ((List.range b.length).map d) rfl rfl rfl (by simp) rfl rfl rfl (Zae (goMv rfl rfl (goAs rfl rfl (Zaf (Zbg ?_)))));exact ⟨_, [], [], ZaZ rfl, rfl, rfl, d, hE, rfl, rfl⟩
    · first | refine Zab.go (ZaO rfl rfl rfl) ?_ | refine Zab.go (ZaP rfl rfl rfl) ?_
      refine Zaf (Zag (a_true rfl rfl (ZaC (Zay (Zag (Zae (Zab.go (st_entry (M) j89 b89 rfl rfl rfl hm89 hb89 rfl) ?_)))))))
      first | refine Zab.go (ZaO rfl rfl rfl) ?_ | refine Zab.go (ZaP rfl rfl rfl) ?_
      first | refine Zab.go (ZaO rfl rfl rfl) ?_ | refine Zab.go (ZaP rfl rfl rfl) ?_
      refine goAs rfl rfl (goAs rfl rfl (Zaf ?_));obtain ⟨w, hw, hwe⟩ := hM.key _ (List.mem_of_getElem? hm89);have hwk : k89 = ((k89.toNat : Nat) : Int) := by have e : k89 = (w : Int) := hwe; rw [e]; rfl
      have hwl : k89.toNat < b.length := by have e : k89 = (w : Int) := hwe; rw [e]; exact hw
      refine Zae (goMv rfl rfl (goMv rfl rfl (goMv rfl rfl ?_)))
      first | refine Zab.go (Zam (k89.toNat) rfl rfl (hwk) (hwl) Try.underlying25 rfl sz3 rfl) ?_ | refine Zab.go (Zal (k89.toNat) rfl rfl (hwk) (hwl) rfl Try.underlying25 sz3 rfl) ?_
      refine Zaw.go (Za2 rfl rfl rfl rfl rfl (by rw [rowI_len]; exact hwl) rowI_set rfl sz3) (Zaf ?_);exact ⟨(seen ++ [b89], updF f k89.toNat v89), ri_next hM hR (List.mem_of_getElem? hm89) hp89, by rw [hp89.length_eq]; exact Nat.lt_succ_self _, Zax hF [4, 0, 3] rfl (rfl) ⟨rfl, rfl, trivial⟩⟩
end Go.Proofs.Ytgdppeobgefogaa
