/- Layer 31: the order of a graph. -/
import Derived.Test.YtgdppeobgefogaaMg15
namespace Go.Proofs.Ytgdppeobgefogaa
open Go.RowKit
set_option maxRecDepth 100000 in
theorem orderA_c (g : List (List Nat)) (hg : GB g) (hK : ∀ a b, a < g.length → b < g.length → idK a = idK b → a = b) : ACalls Try.prog 37 [.d (grD g), .d (.raw (.func (.func 38) ⟨[]⟩ ⟨[]⟩))] [] fun r H' => r = .d (.tup [natsD (ordG g idK), boolD (decide ((ordG g idK).length = g.length))]) ∧ H' = [] := by
  have hn := hg.n;refine Za1 Try.func37 rfl rfl Try.ntmps37 rfl rfl rfl fun F hF => (Zag (Zae (goAs rfl rfl (goAs rfl rfl (Zaf ?_)))));refine Zag (Zae (goMv rfl rfl (Zab.go (ZaD rfl (List.length_map ..) Try.underlying32 rfl) (Zau.go (ZbQ 0 sl25 rfl rfl rfl (by omega) zd3 rfl rfl rfl rfl) (goAs rfl rfl (Zaf (Zag (Zag ?_))))))));rw [rep0];refine Zae (goMv rfl rfl (Zab.go (ZaD rfl (List.length_map ..) Try.underlying32 rfl) (goMv rfl rfl (Zaf (Zaz (ZaV (α := Nat × List Nat) (fun q => ⟨102, [(0, .d (grD g)), (1, .d (.raw (.func (.func 38) ⟨[]⟩ ⟨[]⟩))), (6, (.own 0 0 g.length)), (21, (.d (grD g))), (22, (.d (natD g.length))), (23, (.d (natD q.1)))], [(0, [.rowD 3 1 (q.2.map natD)])]⟩) (fun q => q.1 ≤ g.length ∧ CW g q.1 0 q.2) (fun q => g.length - q.1) ((0, List.replicate g.length 0)) (⟨Nat.zero_le _, cw_zero g⟩) (Zay hF [0] rfl rfl ⟨rfl, rfl, rfl, rfl, rfl, rfl, trivial⟩) ?_))))));rintro ⟨i, w⟩ ⟨hi, hw⟩;dsimp only at hi hw ⊢;refine Zag (Zae ?_)
  first | refine Zab.go (ZaW rfl rfl rfl) ?_ | refine Zab.go (ZaS rfl rfl rfl) ?_
  refine Zaf (Zag ?_)
  first | refine ZaR rfl (fun h24 => ?_) (fun h24 => ?_) | refine ZaF rfl (fun h24 => ?_) (fun h24 => ?_)
  · refine ZaC (Zag (Zaz (Zag ?_)));have hil : i < g.length := Zbd h24;have hsl := hg.len hil;refine Zae ?_
    first | refine Zab.go (Zam (i) rfl rfl (rfl) (getg hil) Try.underlying32 rfl sz25 rfl) ?_ | refine Zab.go (Zal (i) rfl rfl (rfl) (getg hil) rfl Try.underlying32 sz25 rfl) ?_
    first | refine Zab.go (Zah rfl rfl on25 rfl) ?_ | refine Zab.go (Zak rfl rfl rfl on25 rfl) ?_ | refine Zab.go (Zaj rfl rfl (rfl) rfl on25 rfl) ?_
    refine goAs rfl rfl ?_;refine Zaf (Zag (Zae (goMv rfl rfl (Zab.go (ZaD rfl (List.length_map ..) Try.underlying25 rfl) (goMv rfl rfl (Zaf (Zaz (ZaV (α := Nat × List Nat) (fun q => ⟨102, [(0, .d (grD g)), (1, .d (.raw (.func (.func 38) ⟨[]⟩ ⟨[]⟩))), (6, (.own 0 0 g.length)), (21, (.d (grD g))), (22, (.d (natD g.length))), (23, (.d (natD i))), (27, (.d (natsD (sucs g i)))), (28, (.d (natD (sucs g i).length))), (29, (.d (natD q.1)))], [(0, [.rowD 3 1 (q.2.map natD)])]⟩) (fun q => q.1 ≤ (sucs g i).length ∧ CW g i q.1 q.2) (fun q => (sucs g i).length - q.1) ((0, w)) (⟨Nat.zero_le _, hw⟩) (Zay hF [0] rfl rfl ⟨rfl, rfl, rfl, rfl, rfl, rfl, rfl, rfl, rfl, trivial⟩) ?_))))))));rintro ⟨k, w⟩ ⟨hk, hw⟩;dsimp only at hk hw ⊢;refine Zag (Zae ?_)
    first | refine Zab.go (ZaW rfl rfl rfl) ?_ | refine Zab.go (ZaS rfl rfl rfl) ?_
    refine Zaf (Zag ?_)
    first | refine ZaR rfl (fun h30 => ?_) (fun h30 => ?_) | refine ZaF rfl (fun h30 => ?_) (fun h30 => ?_)
    · refine ZaC (Zag (Zaz (Zag ?_)));have hkl : k < (sucs g i).length := Zbd h30;have hst := cw_step hg hw hil hkl;have hgl : nth (sucs g i) k < g.length := by rw [← hw.len]; exact hst.1
      refine Zae ?_
      first | refine Zab.go (Zam (k) rfl rfl (rfl) (getn hkl) Try.underlying25 rfl sz3 rfl) ?_ | refine Zab.go (Zal (k) rfl rfl (rfl) (getn hkl) rfl Try.underlying25 sz3 rfl) ?_
      first | refine Zab.go (Zah rfl rfl on3 rfl) ?_ | refine Zab.go (Zak rfl rfl rfl on3 rfl) ?_ | refine Zab.go (Zaj rfl rfl (rfl) rfl on3 rfl) ?_
      refine goAs rfl rfl (Zaf (Zae (goMv rfl rfl (goMv rfl rfl ?_))))
      first | refine Zab.go (Zam (nth (sucs g i) k) rfl rfl (rfl) (hgl) Try.underlying25 rfl sz3 rfl) ?_ | refine Zab.go (Zal (nth (sucs g i) k) rfl rfl (rfl) (hgl) rfl Try.underlying25 sz3 rfl) ?_
      first | refine Zab.go (Zah rfl rfl on3 rfl) ?_ | refine Zab.go (Zak rfl rfl rfl on3 rfl) ?_ | refine Zab.go (Zaj rfl rfl (getn hst.1) rfl on3 rfl) ?_
      refine Zab.go (ZaL rfl rfl (IntWalk.i64_in _ (by omega)) rfl) (o_as 37 (.d (natD (nth w (nth (sucs g i) k) + 1))) rfl (eqv (congrArg intD (by omega))) ?_)
      first | refine Zab.go (Zam (nth (sucs g i) k) rfl rfl (rfl) (hgl) Try.underlying25 rfl sz3 rfl) ?_ | refine Zab.go (Zal (nth (sucs g i) k) rfl rfl (rfl) (hgl) rfl Try.underlying25 sz3 rfl) ?_
      refine Zau.go (st_storeM (emb := natD) w (nth w (nth (sucs g i) k) + 1) rfl rfl rfl rfl rfl rfl hst.1 rfl sz3) (Zaf (Zae (Zab.go (ZaL rfl rfl (IntWalk.i64_in _ (by omega)) rfl) (goMv rfl rfl (Zaf ?_)))));exact ⟨(k + 1, w.set (nth (sucs g i) k) (nth w (nth (sucs g i) k) + 1)), ⟨hkl, hst.2.2⟩, by show (sucs g i).length - (k + 1) < (sucs g i).length - k; omega, Zay hF [0] rfl (rfl) ⟨rfl, rfl, rfl, rfl, rfl, rfl, rfl, rfl, rfl, trivial⟩⟩
    · refine ZaJ ?_;have hke : k = (sucs g i).length := by have := h30; omega
      subst hke;refine Zae (Zab.go (ZaL rfl rfl (IntWalk.i64_in _ (by omega)) rfl) (goMv rfl rfl (Zaf ?_)));exact ⟨(i + 1, w), ⟨hil, cw_row hw⟩, by show g.length - (i + 1) < g.length - i; omega, Zay hF [0] rfl (rfl) ⟨rfl, rfl, rfl, rfl, rfl, rfl, trivial⟩⟩
  · refine ZaJ (Zag ?_);have hin : i = g.length := by have := h24; omega
    subst hin;obtain ⟨hwl, hwd⟩ := cw_end hw;refine Zae (goMv rfl rfl ?_);refine Zab.go (st_build zl75 pl75 rfl rfl rfl) (Zau.go (st_boxC 1 rfl rfl rfl rfl rfl rfl rfl) (goAs rfl rfl (Zaf (Zag (Zag (a_adoptC 1 0 0 2 sl25 rfl rfl rfl rfl rfl rfl rfl (Zae (goMv rfl rfl ?_))))))))
    first | refine Zab.go (ZaX rfl Try.underlying25 rfl) ?_ | refine Zab.go (ZaD rfl rfl Try.underlying25 rfl) ?_ | refine Zab.go (Zbc rfl Try.underlying25 rfl) ?_ | refine Zab.go (Za4 rfl Try.underlying25 rfl) ?_ | refine Zab.go (Zbg rfl Try.underlying25 rfl) ?_ | refine Zab.go (Zbf rfl Try.underlying25 rfl) ?_
    refine goMv rfl rfl (Zaf (Zaz (ZaV (α := Nat × List Nat × List Nat) (fun q => ⟨102, [(0, .d (grD g)), (1, .d (.raw (.func (.func 38) ⟨[]⟩ ⟨[]⟩))), (6, (.own 0 0 g.length)), (11, (.ptr 1 0 0)), (44, (.own 0 0 g.length)), (45, (.d (natD g.length))), (46, (.d (natD q.1)))], HQA q.2.1 q.2.2 ++ [(0, [.rowD 3 1 (w.map natD)])]⟩) (fun q => q.1 ≤ g.length ∧ FI idK w q.1 q.2.1) (fun q => g.length - q.1) ((0, [], [])) (⟨Nat.zero_le _, fi_zero _ w⟩) (Zay hF [1, 2, 0] rfl rfl ⟨rfl, rfl, rfl, rfl, rfl, rfl, rfl, trivial⟩) ?_)));rintro ⟨i, l, j⟩ ⟨hi, hf⟩;dsimp only at hi hf ⊢;have hfl := hf.le;refine Zag (Zae ?_)
    first | refine Zab.go (ZaW rfl rfl rfl) ?_ | refine Zab.go (ZaS rfl rfl rfl) ?_
    refine Zaf (Zag ?_)
    first | refine ZaR rfl (fun h47 => ?_) (fun h47 => ?_) | refine ZaF rfl (fun h47 => ?_) (fun h47 => ?_)
    · refine ZaC (Zag (Zaz (Zag ?_)));have hil : i < g.length := Zbd h47;refine Zae (goMv rfl rfl ?_)
      first | refine Zab.go (Zam (i) rfl rfl (rfl) (hil) Try.underlying25 rfl sz3 rfl) ?_ | refine Zab.go (Zal (i) rfl rfl (rfl) (hil) rfl Try.underlying25 sz3 rfl) ?_
      first | refine Zab.go (Zah rfl rfl on3 rfl) ?_ | refine Zab.go (Zak rfl rfl rfl on3 rfl) ?_ | refine Zab.go (Zaj rfl rfl (getn (by rw [hwl]; exact hil)) rfl on3 rfl) ?_
      refine goAs rfl rfl (goAs rfl rfl (Zaf (Zag (Zae (goMv rfl rfl ?_)))))
      first | refine Zab.go (Zbl rfl rfl rfl) ?_ | refine Zab.go (ZaY rfl rfl rfl) ?_ | refine Zab.go (Za5 rfl rfl rfl) ?_ | refine Zab.go (Za9 Try.underlying3 rfl rfl rfl) ?_ | refine Zab.go (Za6 Try.underlying3 rfl rfl rfl) ?_ | refine Zab.go (Za7 Try.underlying3 rfl rfl) ?_ | refine Zab.go (Za8 Try.underlying3 rfl rfl rfl) ?_ | refine Zab.go (ZaZ Try.underlying3 rfl rfl) ?_
      refine Zaf ?_
      first | refine ZaR rfl (fun h52 => ?_) (fun h52 => ?_) | refine ZaF rfl (fun h52 => ?_) (fun h52 => ?_)
      · refine Zae (goMv rfl rfl ?_)
        first | refine Zab.go (ZbC pt73 rfl rfl) ?_ | refine Zab.go (Zby pt73 rfl rfl) ?_
        refine goMv rfl rfl ?_
        first | refine Zab.go (ZbC pt3 rfl rfl) ?_ | refine Zab.go (Zby pt3 rfl rfl) ?_
        refine Zau.go (ZbE (hpushA_c l j i (by omega)) rfl [1, 2] ⟨rfl, rfl, trivial⟩ rfl rfl rfl rfl rfl rfl rfl rfl rfl) (Zaf (Zae (Zab.go (ZaL rfl rfl (IntWalk.i64_in _ (by omega)) rfl) (goMv rfl rfl (Zaf ?_)))));exact ⟨(i + 1, hpush idK l i, []), ⟨hil, fi_push hf (Int.ofNat.inj h52)⟩, by show g.length - (i + 1) < g.length - i; omega, Zay hF [1, 2, 0] rfl (rfl) ⟨rfl, rfl, rfl, rfl, rfl, rfl, rfl, trivial⟩⟩
      · refine ZaC (Zae (Zab.go (ZaL rfl rfl (IntWalk.i64_in _ (by omega)) rfl) (goMv rfl rfl (Zaf ?_))));exact ⟨(i + 1, l, j), ⟨hil, fi_skip hf (fun e => h52 (congrArg Int.ofNat e))⟩, by show g.length - (i + 1) < g.length - i; omega, Zay hF [1, 2, 0] rfl (rfl) ⟨rfl, rfl, rfl, rfl, rfl, rfl, rfl, trivial⟩⟩
    · refine ZaJ (Zag ?_);have hin : i = g.length := by have := h47; omega
      subst hin;have hoi := oi_fill hwl hwd hf.nd hf.mem hf.hp;refine Zae (goAs rfl rfl (Zaf (Zag (Zaz (a_adopt 14 7 sl25 rfl rfl rfl rfl (ZaV (α := List Nat × List Nat × List Nat × List Nat) (fun q => ⟨102, [(0, .d (grD g)), (1, .d (.raw (.func (.func 38) ⟨[]⟩ ⟨[]⟩))), (6, (.own 0 0 g.length)), (11, (.ptr 1 0 0)), (14, (.own 7 0 q.2.2.2.length))], HQA q.2.1 q.2.2.1 ++ [(0, [.rowD 3 1 (q.1.map natD)]), (7, [.rowD 3 1 (q.2.2.2.map natD)])]⟩) (fun q => OI g idK q.1 q.2.1 q.2.2.2 []) (fun q => g.length - q.2.2.2.length) ((w, l, j, [])) (hoi) (Zay hF [1, 2, 0, 7] rfl rfl ⟨rfl, rfl, rfl, rfl, rfl, trivial⟩) ?_))))));rintro ⟨w, l, j, out⟩ ho;dsimp only at ho ⊢;have hol := oi_le ho;refine Zag (Zag (Zae (goMv rfl rfl (Zau.go (ZbE (lenA_c l j) rfl [1, 2] ⟨rfl, rfl, trivial⟩ rfl rfl rfl rfl rfl rfl rfl rfl rfl) ?_))))
      first | refine Zab.go (ZbF rfl rfl rfl) ?_ | refine Zab.go (ZbA rfl rfl rfl) ?_
      refine Zaf ?_
      first | refine ZaR rfl (fun h61 => ?_) (fun h61 => ?_) | refine ZaF rfl (fun h61 => ?_) (fun h61 => ?_)
      · refine ZaC (Zaz (Zag ?_));have hne : l ≠ [] := fun e => by subst e; exact absurd h61 (by decide)
        have ho1 := oi_pop ho hne;have hx : nth l 0 < g.length := ho.lt _ (List.mem_append.2 (.inr (Zbv (List.length_pos_iff.2 hne))));have hol1 : out.length + 1 ≤ g.length := by have := List.length_pos_iff.2 hne; omega
        refine Zae (goMv rfl rfl ?_)
        first | refine Zab.go (ZbC pt73 rfl rfl) ?_ | refine Zab.go (Zby pt73 rfl rfl) ?_
        refine Zau.go (ZbE (hpopA_c l j hne (by omega)) rfl [1, 2] ⟨rfl, rfl, trivial⟩ rfl rfl rfl rfl rfl rfl rfl rfl rfl) (Zab.go (st_assertR rfl pt3 rfl rfl) (goAs rfl rfl (Zaf (Zag ?_))))
        obtain ⟨x, hxe⟩ : ∃ x, nth l 0 = x := ⟨_, rfl⟩
        rw [hxe] at ho1 hx ⊢;refine Zae (goMv rfl rfl ?_);refine goMv rfl rfl (Zau.go (ZaN 21 sl25 rfl rfl rfl rfl rfl rfl rfl rfl) (Zau.go (ZbR (emb := natD) out [x] rfl rfl rfl rfl rfl rfl rfl rfl sl25 (by show (out.length + 1) * 8 ≤ _; omega) rfl rfl rfl rfl) (goAs rfl rfl (Zaf (Zag (Zae (goMv rfl rfl (goMv rfl rfl ?_))))))))
        first | refine Zab.go (Zam (x) rfl rfl (rfl) (getg hx) Try.underlying32 rfl sz25 rfl) ?_ | refine Zab.go (Zal (x) rfl rfl (rfl) (getg hx) rfl Try.underlying32 sz25 rfl) ?_
        first | refine Zab.go (Zah rfl rfl on25 rfl) ?_ | refine Zab.go (Zak rfl rfl rfl on25 rfl) ?_ | refine Zab.go (Zaj rfl rfl (rfl) rfl on25 rfl) ?_
        refine Zab.go (ZaD rfl (List.length_map ..) Try.underlying25 rfl) (goMv rfl rfl (Zaf (Zaz (ZaV (α := Nat × List Nat × List Nat × List Nat) (fun q => ⟨102, [(0, .d (grD g)), (1, .d (.raw (.func (.func 38) ⟨[]⟩ ⟨[]⟩))), (6, (.own 0 0 g.length)), (11, (.ptr 1 0 0)), (14, (.own 7 0 (out ++ [x]).length)), (73, (.d (natsD (sucs g x)))), (74, (.d (natD (sucs g x).length))), (75, (.d (natD q.1)))], HQA q.2.2.1 q.2.2.2 ++ [(0, [.rowD 3 1 (q.2.1.map natD)]), (7, [.rowD 3 1 ((out ++ [x]).map natD)])]⟩) (fun q => q.1 ≤ (sucs g x).length ∧ OI g idK q.2.1 q.2.2.1 (out ++ [x]) ((sucs g x).drop q.1)) (fun q => (sucs g x).length - q.1) ((0, w, hpop idK l, [x] ++ j)) (⟨Nat.zero_le _, ho1⟩) (Zay hF [1, 2, 0, 7] rfl rfl ⟨rfl, rfl, rfl, rfl, rfl, rfl, rfl, rfl, trivial⟩) ?_))));rintro ⟨k, w, l, j⟩ ⟨hk, ho2⟩;dsimp only at hk ho2 ⊢;refine Zag (Zae ?_)
        first | refine Zab.go (ZaW rfl rfl rfl) ?_ | refine Zab.go (ZaS rfl rfl rfl) ?_
        refine Zaf (Zag ?_)
        first | refine ZaR rfl (fun h76 => ?_) (fun h76 => ?_) | refine ZaF rfl (fun h76 => ?_) (fun h76 => ?_)
        · refine ZaC (Zag (Zaz (Zag ?_)));have hkl : k < (sucs g x).length := Zbd h76;have hsl2 := hg.len hx;have hyg : nth (sucs g x) k < g.length := hg.suc hx (Zbv hkl);rw [drop_nth hkl] at ho2;obtain ⟨hw1, hz1, hz2⟩ := oi_dec ho2 hyg;have hol2 := oi_le ho2;have hwl2 := ho2.len;have hgn := getn hkl
          obtain ⟨y, hye⟩ : ∃ y, nth (sucs g x) k = y := ⟨_, rfl⟩
          rw [hye] at hyg hw1 hz1 hz2 hgn ho2;have hyw : y < w.length := by rw [hwl2]; exact hyg
          have hwb : nth w y ≤ 100000000000 := by have := oi_wle hg ho2 hyg (by rw [List.length_drop]; have := hg.len hx; omega); omega
          refine Zae ?_
          first | refine Zab.go (Zam (k) rfl rfl (rfl) (hgn) Try.underlying25 rfl sz3 rfl) ?_ | refine Zab.go (Zal (k) rfl rfl (rfl) (hgn) rfl Try.underlying25 sz3 rfl) ?_
          first | refine Zab.go (Zah rfl rfl on3 rfl) ?_ | refine Zab.go (Zak rfl rfl rfl on3 rfl) ?_ | refine Zab.go (Zaj rfl rfl (rfl) rfl on3 rfl) ?_
          refine goAs rfl rfl (Zaf (Zag (Zae (goMv rfl rfl (goMv rfl rfl ?_)))))
          first | refine Zab.go (Zam (y) rfl rfl (rfl) (hyg) Try.underlying25 rfl sz3 rfl) ?_ | refine Zab.go (Zal (y) rfl rfl (rfl) (hyg) rfl Try.underlying25 sz3 rfl) ?_
          first | refine Zab.go (Zah rfl rfl on3 rfl) ?_ | refine Zab.go (Zak rfl rfl rfl on3 rfl) ?_ | refine Zab.go (Zaj rfl rfl (getn hyw) rfl on3 rfl) ?_
          refine Zab.go (Zbi rfl rfl (IntWalk.i64_in _ (by omega)) rfl) (o_as 83 (.d (natD (nth w y - 1))) rfl (eqv (congrArg intD (by omega))) ?_)
          first | refine Zab.go (Zam (y) rfl rfl (rfl) (hyg) Try.underlying25 rfl sz3 rfl) ?_ | refine Zab.go (Zal (y) rfl rfl (rfl) (hyg) rfl Try.underlying25 sz3 rfl) ?_
          refine Zau.go (st_storeM (emb := natD) w (nth w y - 1) rfl rfl rfl rfl rfl rfl hyw rfl sz3) (Zaf (Zag (Zae (goMv rfl rfl (goMv rfl rfl ?_)))))
          first | refine Zab.go (Zam (y) rfl rfl (rfl) (hyg) Try.underlying25 rfl sz3 rfl) ?_ | refine Zab.go (Zal (y) rfl rfl (rfl) (hyg) rfl Try.underlying25 sz3 rfl) ?_
          first | refine Zab.go (Zah rfl rfl on3 rfl) ?_ | refine Zab.go (Zak rfl rfl rfl on3 rfl) ?_ | refine Zab.go (Zaj rfl rfl (getset hyw) rfl on3 rfl) ?_
          first | refine Zab.go (Zbl rfl rfl rfl) ?_ | refine Zab.go (ZaY rfl rfl rfl) ?_ | refine Zab.go (Za5 rfl rfl rfl) ?_ | refine Zab.go (Za9 Try.underlying3 rfl rfl rfl) ?_ | refine Zab.go (Za6 Try.underlying3 rfl rfl rfl) ?_ | refine Zab.go (Za7 Try.underlying3 rfl rfl) ?_ | refine Zab.go (Za8 Try.underlying3 rfl rfl rfl) ?_ | refine Zab.go (ZaZ Try.underlying3 rfl rfl) ?_
          refine Zaf ?_
          first | refine ZaR rfl (fun h89 => ?_) (fun h89 => ?_) | refine ZaF rfl (fun h89 => ?_) (fun h89 => ?_)
          · have h89x : nth w y - 1 = 0 := Int.ofNat.inj h89;refine Zae (goMv rfl rfl ?_)
            first | refine Zab.go (ZbC pt73 rfl rfl) ?_ | refine Zab.go (Zby pt73 rfl rfl) ?_
            refine goMv rfl rfl ?_
            first | refine Zab.go (ZbC pt3 rfl rfl) ?_ | refine Zab.go (Zby pt3 rfl rfl) ?_
            refine Zau.go (ZbE (hpushA_c l j y (by rw [List.length_append, List.length_singleton] at hol2; omega)) rfl [1, 2] ⟨rfl, rfl, trivial⟩ rfl rfl rfl rfl rfl rfl rfl rfl rfl) (Zaf (Zae (Zab.go (ZaL rfl rfl (IntWalk.i64_in _ (by omega)) rfl) (goMv rfl rfl (Zaf ?_)))));exact ⟨(k + 1, w.set y (nth w y - 1), hpush idK l y, []), ⟨hkl, hz1 h89x⟩, by show (sucs g x).length - (k + 1) < (sucs g x).length - k; omega, Zay hF [1, 2, 0, 7] rfl (rfl) ⟨rfl, rfl, rfl, rfl, rfl, rfl, rfl, rfl, trivial⟩⟩
          · have h89x : nth w y - 1 ≠ 0 := fun e => h89 (congrArg Int.ofNat e);refine ZaC (Zae (Zab.go (ZaL rfl rfl (IntWalk.i64_in _ (by omega)) rfl) (goMv rfl rfl (Zaf ?_))));exact ⟨(k + 1, w.set y (nth w y - 1), l, j), ⟨hkl, hz2 h89x⟩, by show (sucs g x).length - (k + 1) < (sucs g x).length - k; omega, Zay hF [1, 2, 0, 7] rfl (rfl) ⟨rfl, rfl, rfl, rfl, rfl, rfl, rfl, rfl, trivial⟩⟩
        · refine ZaJ ?_;exact ⟨(w, l, j, out ++ [x]), oi_row ho2 (show k = (sucs g x).length by have := h76; omega), by show g.length - (out ++ [x]).length < g.length - out.length; rw [List.length_append, List.length_singleton]; omega, Zay hF [1, 2, 0, 7] rfl (rfl) ⟨rfl, rfl, rfl, rfl, rfl, trivial⟩⟩
      · refine ZaJ (Zag ?_);have hl0 : l = [] := List.length_eq_zero_iff.1 (by have := h61; omega);have hE := oi_end (hl0 ▸ ho);have hoe := ordG_eq hK hE.1 hE.2;refine Zbn (emb := natD) 14 7 out rfl rfl rfl rfl rfl rfl rfl (Zae (goMv rfl rfl (goMv rfl rfl ?_)))
        first | refine Zab.go (ZaX rfl Try.underlying25 rfl) ?_ | refine Zab.go (ZaD rfl rfl Try.underlying25 rfl) ?_ | refine Zab.go (Zbc rfl Try.underlying25 rfl) ?_ | refine Zab.go (Za4 rfl Try.underlying25 rfl) ?_ | refine Zab.go (Zbg rfl Try.underlying25 rfl) ?_ | refine Zab.go (Zbf rfl Try.underlying25 rfl) ?_
        refine goMv rfl rfl ?_
        first | refine Zab.go (ZaX rfl Try.underlying32 rfl) ?_ | refine Zab.go (ZaD rfl rfl Try.underlying32 rfl) ?_ | refine Zab.go (Zbc rfl Try.underlying32 rfl) ?_ | refine Zab.go (Za4 rfl Try.underlying32 rfl) ?_ | refine Zab.go (Zbg rfl Try.underlying32 rfl) ?_ | refine Zab.go (Zbf rfl Try.underlying32 rfl) ?_
        first | refine Zab.go (Zbl rfl rfl rfl) ?_ | refine Zab.go (ZaY rfl rfl rfl) ?_ | refine Zab.go (Za5 rfl rfl rfl) ?_ | refine Zab.go (Za9 Try.underlying3 rfl rfl rfl) ?_ | refine Zab.go (Za6 Try.underlying3 rfl rfl rfl) ?_ | refine Zab.go (Za7 Try.underlying3 rfl rfl) ?_ | refine Zab.go (Za8 Try.underlying3 rfl rfl rfl) ?_ | refine Zab.go (ZaZ Try.underlying3 rfl rfl) ?_
        refine goAs rfl rfl (goAs rfl rfl (Zaf (Zbb ?_)));exact ⟨_, [], _, ZaQ rfl, rfl, rfl, by rw [hoe]; exact congrArg (fun b => AV.d (.tup [natsD out, boolD b])) (decide_eq_decide.2 Int.ofNat_inj), rfl⟩
end Go.Proofs.Ytgdppeobgefogaa
/- Layer 31: Components, TopologicalOrder, Reverse. -/
namespace Go.Proofs.Ytgdppeobgefogaa
open Go.RowKit

noncomputable def conC (g : List (List Nat)) : (Nat → Nat) × Nat := Classical.epsilon fun p => CN g.length (sucs g) p.1 p.2
noncomputable def noC (g : List (List Nat)) : Nat → Nat := (conC g).1
noncomputable def cntC (g : List (List Nat)) : Nat := (conC g).2
theorem conC_of {g : List (List Nat)} (hg : GB g) {no : Nat → Nat} {cnt : Nat} (h : CN g.length (sucs g) no cnt) : CN g.length (sucs g) (noC g) (cntC g) ∧ cnt = cntC g ∧ ∀ v, v < g.length → no v = noC g v := by
  have h2 : CN g.length (sucs g) (conC g).1 (conC g).2 := Classical.epsilon_spec (p := fun p : (Nat → Nat) × Nat => CN g.length (sucs g) p.1 p.2) ⟨(no, cnt), h⟩;exact ⟨h2, cn_uniq h h2 fun v hv y hy => hg.suc hv hy⟩
noncomputable def comC (g : List (List Nat)) : List (List Nat) := grF (cntC g) (outT (noC g) g.length)
noncomputable def noL (g : List (List Nat)) : List Nat := (List.range g.length).map (noC g)
theorem outT_congr {no no' : Nat → Nat} {n : Nat} (h : ∀ v, v < n → no v = no' v) : outT no n = outT no' n := by
  funext c
  unfold outT;exact List.filter_congr fun v hv => by rw [h v (List.mem_range.1 hv)]
theorem condensed_p (g : List (List Nat)) (hg : GT g) : PCalls Try.prog 32 [.d (grD g)] (.tup [grD (comC g), natsD (noL g)]) := by
  have h := condensed_c g hg;refine ⟨h.1, fun F ρ vs h1 h2 h2' h3 h4 h5 => (h.2 F ρ vs h1 h2 h2' h3 h4 h5).mono fun e w' ⟨v, r, H', ρ', e1, ⟨of, cnt, hso, hr, hH⟩, hrep, hh⟩ => ⟨v, r, H', ρ', e1, ⟨?_, hH⟩, hrep, hh⟩⟩;obtain ⟨_, e2, e3⟩ := conC_of hg.gb (con_cn hg hso);have ho := outT_congr e3;have hl : (List.range g.length).map (fun v => conM g of cnt (of v)) = noL g := List.map_congr_left fun v hv => e3 v (List.mem_range.1 hv);rw [hr, ho, hl, e2]
  rfl
def toI (g : List (List Nat)) : List (List Int) := g.map (List.map Int.ofNat)
theorem toI_gr (g : List (List Nat)) : grI (toI g) = grD g := by
  unfold toI;show D.sl none ((g.map (List.map Int.ofNat)).map intsD) = D.sl none (g.map natsD);rw [List.map_map]
  congr 1
  exact List.map_congr_left fun l _ => by
    show D.sl none ((l.map Int.ofNat).map intD) = _;rw [List.map_map]; rfl
theorem toI_len (g : List (List Nat)) : (toI g).length = g.length := by simp [toI]
theorem toI_tot (g : List (List Nat)) : ∀ i, i ≤ g.length → totI (toI g) i = totG g i
  | 0, _ => rfl
  | i + 1, hi => by
    have ih := toI_tot g i (by omega);rw [totI_succ (by rw [toI_len]; omega), ih];unfold totG;rw [List.range_succ, List.map_append, List.sum_append, List.map_singleton, List.sum_singleton, sucs_get (by omega)]
    simp [toI]
theorem chk_ok {g : List (List Nat)} (hg : GT g) : chkE (toI g) = 0 := by
  have hn := hg.gb.n;have ht := hg.tot;refine (chk0 (by rw [toI_len]; omega) (by rw [toI_len, toI_tot g _ (Nat.le_refl _)]; omega) ?_).symm;rintro ⟨l, hl, x, hx, hb⟩;obtain ⟨m, hm, rfl⟩ := List.mem_map.1 hl;obtain ⟨y, hy, rfl⟩ := List.mem_map.1 hx;have := hg.gb.lt m hm y hy;rw [toI_len] at hb;exact hb ⟨Int.natCast_nonneg _, Int.ofNat_lt.2 this⟩
theorem row_tot {g : List (List Nat)} {l : List Nat} (h : l ∈ g) : l.length ≤ totG g g.length := by
  obtain ⟨i, hi, rfl⟩ := List.mem_iff_getElem.1 h
  have h1 : totG g (i + 1) = totG g i + g[i].length := by
    unfold totG;rw [List.range_succ, List.map_append, List.sum_append, List.map_singleton, List.sum_singleton, sucs_get hi]
  have := totG_mono g (i := i + 1) (j := g.length) (by omega);omega
theorem check_n (g : List (List Nat)) (hg : GT g) : PCalls Try.prog 31 [.d (grD g)] (intD 0) := by
  have hn := hg.gb.n;have ht := hg.tot
  have h := check_p (toI g) (by rw [toI_len]; omega) fun l hl => by
    obtain ⟨m, hm, rfl⟩ := List.mem_map.1 hl;rw [List.length_map];have := row_tot hm;omega
  rw [toI_gr, chk_ok hg] at h;exact h
set_option maxRecDepth 100000 in
theorem components_p (g : List (List Nat)) (hg : GT g) : PCalls Try.prog 20 [.d (grD g)] (.tup [grD (comC g), intD 0]) := by
  refine Za1 Try.func20 rfl rfl Try.ntmps20 rfl rfl rfl fun F hF => (Zag (Zae (goAs rfl rfl (goAs rfl rfl (Zaf (Zag ?_))))));refine Zag (Zae (goMv rfl rfl (Zab.go (Zbo (check_n g hg) rfl rfl) (goAs rfl rfl (Zaf (Zag (Zae (goMv rfl rfl ?_))))))))
  first | refine Zab.go (st_neq rfl rfl rfl) ?_ | refine Zab.go (ZbH rfl rfl rfl) ?_ | refine Zab.go (ZbK rfl rfl rfl) ?_ | refine Zab.go (ZbO Try.underlying26 rfl rfl rfl) ?_ | refine Zab.go (ZbM Try.underlying26 rfl rfl rfl) ?_ | refine Zab.go (st_neqN Try.underlying26 rfl rfl) ?_ | refine Zab.go (ZbN Try.underlying26 rfl rfl rfl) ?_ | refine Zab.go (st_neqFN Try.underlying26 rfl rfl) ?_
  refine Zaf (Zbj rfl (decide_eq_false (by decide)) (ZaC (Zag (Zae (goMv rfl rfl (Zab.go (Zbo (condensed_p g hg) rfl rfl) (goMv rfl rfl ?_)))))))
  first | refine Zab.go (ZaE rfl rfl rfl) ?_ | refine Zab.go (ZaI rfl rfl rfl) ?_
  first | refine Zab.go (ZaE rfl rfl rfl) ?_ | refine Zab.go (ZaI rfl rfl rfl) ?_
  refine goAs rfl rfl ?_;refine goAs rfl rfl (Zaf (Zag (Zae (goMv rfl rfl (goAs rfl rfl (goAs rfl rfl (Zaf (Zbb ?_))))))));exact ⟨_, [], [], ZaQ rfl, rfl, rfl, rfl, rfl⟩
set_option maxRecDepth 100000 in
theorem topo_p (g : List (List Nat)) (hg : GT g) : PCalls Try.prog 21 [.d (grD g)] (if (ordG g idK).length = g.length then .tup [natsD (ordG g idK), intD 0] else .tup [.sl (some true) [], intD 26]) := by
  have ho := orderA_c g hg.gb (fun a b _ _ h => h);refine Za1 Try.func21 rfl rfl Try.ntmps21 rfl rfl rfl fun F hF => (Zag (Zae (goAs rfl rfl (goAs rfl rfl (Zaf (Zag ?_))))));refine Zag (Zae (goMv rfl rfl (Zab.go (Zbo (check_n g hg) rfl rfl) (goAs rfl rfl (Zaf (Zag (Zae (goMv rfl rfl ?_))))))))
  first | refine Zab.go (st_neq rfl rfl rfl) ?_ | refine Zab.go (ZbH rfl rfl rfl) ?_ | refine Zab.go (ZbK rfl rfl rfl) ?_ | refine Zab.go (ZbO Try.underlying26 rfl rfl rfl) ?_ | refine Zab.go (ZbM Try.underlying26 rfl rfl rfl) ?_ | refine Zab.go (st_neqN Try.underlying26 rfl rfl) ?_ | refine Zab.go (ZbN Try.underlying26 rfl rfl rfl) ?_ | refine Zab.go (st_neqFN Try.underlying26 rfl rfl) ?_
  refine Zaf (Zbj rfl (decide_eq_false (by decide)) (ZaC (Zag (Zae (goMv rfl rfl (Zau.go (ZbE ho rfl [] trivial rfl rfl rfl rfl rfl rfl rfl rfl rfl) (goMv rfl rfl ?_)))))))
  first | refine Zab.go (ZaE rfl rfl rfl) ?_ | refine Zab.go (ZaI rfl rfl rfl) ?_
  first | refine Zab.go (ZaE rfl rfl rfl) ?_ | refine Zab.go (ZaI rfl rfl rfl) ?_
  refine goAs rfl rfl (goAs rfl rfl (Zaf (Zag (Zag (Zae (goMv rfl rfl ?_))))))
  first | refine Zab.go (ZbD rfl rfl) ?_ | refine Zab.go (ZbI rfl rfl) ?_
  refine Zaf ?_
  first | refine ZaR rfl (fun h18 => ?_) (fun h18 => ?_) | refine ZaF rfl (fun h18 => ?_) (fun h18 => ?_)
  · refine Zag (Zae (goAs rfl rfl (goAs rfl rfl (Zaf (Zbb ?_)))));exact ⟨_, [], [], ZaQ rfl, rfl, rfl, by rw [if_neg h18], rfl⟩
  · refine ZaC (Zag (Zae (goMv rfl rfl (goAs rfl rfl (goAs rfl rfl (Zaf (Zbb ?_)))))));exact ⟨_, [], [], ZaQ rfl, rfl, rfl, by rw [if_pos (Classical.not_not.1 h18)], rfl⟩
end Go.Proofs.Ytgdppeobgefogaa
/- Layer 31: distances to a node, by levels. Plain laws. -/
namespace Go.Proofs.Ytgdppeobgefogaa
open Go.RowKit

def Wk (b : List (List Nat)) (ok : Nat → Prop) (s : Nat) : Nat → Nat → Prop
  | 0, u => u = s
  | k + 1, u => ok u ∧ ∃ v, Wk b ok s k v ∧ u ∈ sucs b v
structure BH (b : List (List Nat)) (ok : Nat → Prop) (s n : Nat) (d : Nat → Nat) (lv : List Nat) : Prop where
  pos : 1 ≤ n
  a : ∀ u, d u ≠ 0 → d u < n ∧ Wk b ok s (d u) u
  comp : ∀ k u, 1 ≤ k → k < n → Wk b ok s k u → d u ≠ 0 ∧ d u ≤ k
  c : ∀ v, v ∈ lv ↔ if n = 1 then v = s else d v = n - 1
  nd : lv.Nodup
  lt : ∀ v ∈ lv, v < b.length
structure BI (b : List (List Nat)) (ok : Nat → Prop) (s n : Nat) (d d' : Nat → Nat) (lv nx : List Nat) (p k : Nat) : Prop where
  i : ∀ u, d u ≠ 0 → d' u = d u
  ii : ∀ u, d u = 0 → d' u ≠ 0 → d' u = n ∧ Wk b ok s n u
  iii : ∀ u, u ∈ nx ↔ d u = 0 ∧ d' u ≠ 0
  nd : nx.Nodup
  lt : ∀ u ∈ nx, u < b.length
  iv : ∀ v ∈ lv.take p, ∀ u ∈ sucs b v, ok u → d' u ≠ 0
  v : ∀ u ∈ (sucs b (nth lv p)).take k, ok u → d' u ≠ 0
theorem bh_start {b : List (List Nat)} {ok : Nat → Prop} {s : Nat} (hs : s < b.length) : BH b ok s 1 (fun _ => 0) [s] :=
  ⟨Nat.le_refl _, fun u h => absurd rfl h, fun k u h1 h2 => by omega, fun v => by simp, by simp, fun v hv => by rw [List.mem_singleton.1 hv]; exact hs⟩
theorem bi_start {b : List (List Nat)} {ok : Nat → Prop} {s n : Nat} {d : Nat → Nat} {lv : List Nat} : BI b ok s n d d lv [] 0 0 :=
  ⟨fun u h => rfl, fun u h h2 => absurd h h2, fun u => ⟨fun h => (by cases h), fun h => absurd h.1 h.2⟩, .nil, fun u h => (by cases h), fun v hv => by simp at hv, fun u hu => by simp at hu⟩
theorem bi_le {b : List (List Nat)} {ok : Nat → Prop} {s n : Nat} {d d' : Nat → Nat} {lv nx : List Nat} {p k : Nat} (h : BI b ok s n d d' lv nx p k) : nx.length ≤ b.length := by
  have := ZbJ h.nd (m := List.range b.length) fun x hx => List.mem_range.2 (h.lt x hx)
  rwa [List.length_range] at this
theorem bh_wk {b : List (List Nat)} {ok : Nat → Prop} {s n : Nat} {d : Nat → Nat} {lv : List Nat} (h : BH b ok s n d lv) {v : Nat} (hv : v ∈ lv) : Wk b ok s (n - 1) v := by
  have hc := (h.c v).1 hv;have hp := h.pos
  by_cases e : n = 1
  · rw [if_pos e] at hc; subst e; exact hc
  · rw [if_neg e] at hc;have := (h.a v (by omega)).2
    rwa [hc] at this
theorem bi_new {b : List (List Nat)} {ok : Nat → Prop} {s n : Nat} {d d' : Nat → Nat} {lv nx : List Nat} {p k : Nat} (hH : BH b ok s n d lv) (h : BI b ok s n d d' lv nx p k) (hp : p < lv.length) (hk : k < (sucs b (nth lv p)).length)
    {u : Nat} (hu : nth (sucs b (nth lv p)) k = u) (hul : u < b.length) (hok : ok u) (h0 : d' u = 0) : BI b ok s n d (updF d' u n) lv (nx ++ [u]) p (k + 1) := by
  have hpos := hH.pos;have hd0 : d u = 0 := Classical.byContradiction fun hne => hne (by rw [← h.i u hne]; exact h0)
  have hw : Wk b ok s n u := by
    obtain ⟨m, rfl⟩ : ∃ m, n = m + 1 := ⟨n - 1, by omega⟩
    exact ⟨hok, nth lv p, bh_wk hH (Zbv hp), by rw [← hu]; exact Zbv hk⟩
  have hne : ∀ x, d' x ≠ 0 → updF d' u n x ≠ 0 := fun x hx => by
    by_cases e : x = u
    · subst e; rw [Za0]; omega
    · rw [ZaU e]; exact hx
  refine ⟨fun x hx => ?_, fun x hx hx2 => ?_, fun x => ?_, ?_, fun x hx => ?_, fun v hv x hx hok => hne x (h.iv v hv x hx hok), fun x hx hok => ?_⟩
  · have : x ≠ u := fun e => hx (e ▸ hd0);rw [ZaU this]; exact h.i x hx
  · by_cases e : x = u
    · subst e; rw [Za0]; exact ⟨rfl, hw⟩
    · rw [ZaU e] at hx2 ⊢; exact h.ii x hx hx2
  · rw [List.mem_append, List.mem_singleton, h.iii]
    by_cases e : x = u
    · subst e; rw [Za0]; exact ⟨fun _ => ⟨hd0, by omega⟩, fun _ => .inr rfl⟩
    · rw [ZaU e]; exact ⟨fun h => h.elim id fun e2 => (e e2).elim, .inl⟩
  · rw [List.nodup_append]
    exact ⟨h.nd, by simp, fun x hx y hy e => by
      rw [List.mem_singleton] at hy;have := ((h.iii x).1 hx).2
      rw [e, hy] at this; exact this h0⟩
  · rcases List.mem_append.1 hx with hx | hx
    · exact h.lt x hx
    · rw [List.mem_singleton.1 hx]; exact hul
  · rw [List.take_succ_eq_append_getElem hk] at hx;rcases List.mem_append.1 hx with hx | hx
    · exact hne x (h.v x hx hok)
    · rw [List.mem_singleton.1 hx, ← Zbm hk, hu, Za0]; omega
theorem bi_skip {b : List (List Nat)} {ok : Nat → Prop} {s n : Nat} {d d' : Nat → Nat} {lv nx : List Nat} {p k : Nat} (h : BI b ok s n d d' lv nx p k) (hk : k < (sucs b (nth lv p)).length)
    {u : Nat} (hu : nth (sucs b (nth lv p)) k = u) (hn : ¬ (ok u ∧ d' u = 0)) : BI b ok s n d d' lv nx p (k + 1) := by
  refine ⟨h.i, h.ii, h.iii, h.nd, h.lt, h.iv, fun x hx hok => ?_⟩;rw [List.take_succ_eq_append_getElem hk] at hx;rcases List.mem_append.1 hx with hx | hx
  · exact h.v x hx hok
  · rw [List.mem_singleton.1 hx, ← Zbm hk, hu] at hok ⊢;exact fun h0 => hn ⟨hok, h0⟩
theorem bi_row {b : List (List Nat)} {ok : Nat → Prop} {s n : Nat} {d d' : Nat → Nat} {lv nx : List Nat} {p : Nat} (h : BI b ok s n d d' lv nx p (sucs b (nth lv p)).length) (hp : p < lv.length) : BI b ok s n d d' lv nx (p + 1) 0 := by
  refine ⟨h.i, h.ii, h.iii, h.nd, h.lt, fun v hv => ?_, fun u hu => by simp at hu⟩;rw [List.take_succ_eq_append_getElem hp] at hv;rcases List.mem_append.1 hv with hv | hv
  · exact h.iv v hv
  · rw [List.mem_singleton.1 hv, ← Zbm hp];intro u hu hok;exact h.v u (by rw [List.take_length]; exact hu) hok
theorem bh_next {b : List (List Nat)} {ok : Nat → Prop} {s n : Nat} {d d' : Nat → Nat} {lv nx : List Nat} (hH : BH b ok s n d lv) (h : BI b ok s n d d' lv nx lv.length 0) (hs0 : d s = 0) : BH b ok s (n + 1) d' nx := by
  have hpos := hH.pos;have hall : ∀ v ∈ lv, ∀ u ∈ sucs b v, ok u → d' u ≠ 0 := fun v hv => h.iv v (by rw [List.take_length]; exact hv);refine ⟨by omega, fun u hu => ?_, fun k u h1 h2 hw => ?_, fun v => ?_, h.nd, h.lt⟩
  · by_cases e : d u = 0
    · obtain ⟨e1, e2⟩ := h.ii u e hu;rw [e1]; exact ⟨by omega, e2⟩
    · rw [h.i u e]; obtain ⟨e1, e2⟩ := hH.a u e; exact ⟨by omega, e2⟩
  · by_cases hkn : k < n
    · obtain ⟨e1, e2⟩ := hH.comp k u h1 hkn hw;rw [h.i u e1]; exact ⟨e1, e2⟩
    · have hkn : k = n := by omega
      subst hkn
      have hle : d' u ≠ 0 → d' u ≤ k := fun hne => by
        by_cases e : d u = 0
        · rw [(h.ii u e hne).1]; exact Nat.le_refl _
        · rw [h.i u e]; have := (hH.a u e).1; omega
      suffices hne : d' u ≠ 0 from ⟨hne, hle hne⟩
      obtain ⟨m, rfl⟩ : ∃ m, k = m + 1 := ⟨k - 1, by omega⟩
      obtain ⟨hok, v, hv, hvu⟩ := hw
      by_cases hm : m = 0
      · subst hm;exact hall v ((hH.c v).2 (by rw [if_pos rfl]; exact hv)) u hvu hok
      · obtain ⟨e1, e2⟩ := hH.comp m v (by omega) (by omega) hv
        by_cases e3 : d v = m
        · exact hall v ((hH.c v).2 (by rw [if_neg (by omega)]; omega)) u hvu hok
        · have := (hH.comp (d v + 1) u (by omega) (by omega) ⟨hok, v, (hH.a v e1).2, hvu⟩).1;rw [h.i u this]; exact this
  · rw [if_neg (by omega), h.iii]
    constructor
    · rintro ⟨e1, e2⟩; rw [(h.ii v e1 e2).1]; omega
    · intro e;have hne : d' v ≠ 0 := by omega
      refine ⟨Classical.byContradiction fun hd => ?_, hne⟩;have := (hH.a v hd).1;rw [h.i v hd] at e; omega
structure DS (b : List (List Nat)) (ok : Nat → Prop) (s lim : Nat) (d : Nat → Nat) : Prop where
  a : ∀ u, d u ≠ 0 → Wk b ok s (d u) u ∧ d u ≤ lim
  comp : ∀ k u, 1 ≤ k → k ≤ lim → (d s = 0 ∨ k ≤ d s) → Wk b ok s k u → d u ≠ 0 ∧ d u ≤ k
theorem bh_end {b : List (List Nat)} {ok : Nat → Prop} {s n lim : Nat} {d : Nat → Nat} {lv : List Nat} (h : BH b ok s n d lv) (hn : n ≤ lim + 1) (he : lim < n ∨ lv = [] ∨ d s ≠ 0) : DS b ok s lim d := by
  have hpos := h.pos;refine ⟨fun u hu => ⟨(h.a u hu).2, by have := (h.a u hu).1; omega⟩, fun k u h1 h2 h3 hw => ?_⟩;rcases he with he | he | he
  · exact h.comp k u h1 (by omega) hw
  · have hn1 : n ≠ 1 := fun e => by
      have := (h.c s).2 (by rw [if_pos e]);rw [he] at this; cases this
    have hno : ∀ v, d v ≠ n - 1 := fun v e => by
      have := (h.c v).2 (by rw [if_neg hn1]; exact e);rw [he] at this; cases this
    clear h2 h3
    induction k generalizing u with
    | zero => omega
    | succ k ih =>
      by_cases hkn : k + 1 < n
      · exact h.comp (k + 1) u h1 hkn hw
      · obtain ⟨hok, v, hv, hvu⟩ := hw;obtain ⟨e1, e2⟩ := ih v (by omega) hv;have e3 := (h.a v e1).1;have e4 := hno v;obtain ⟨q1, q2⟩ := h.comp (d v + 1) u (by omega) (by omega) ⟨hok, v, (h.a v e1).2, hvu⟩;exact ⟨q1, by omega⟩
  · have := (h.a s he).1;rcases h3 with h3 | h3
    · exact (he h3).elim
    · exact h.comp k u h1 (by omega) hw
end Go.Proofs.Ytgdppeobgefogaa
/- Layer 31: distances. -/
namespace Go.Proofs.Ytgdppeobgefogaa
open Go.RowKit

structure MR (n : Nat) (M : List (Int × Int)) (d : Nat → Nat) : Prop where
  val : ∀ u : Nat, mget M (u : Int) 0 = (d u : Int)
  nd : (M.map Prod.fst).Nodup
  key : ∀ x ∈ M, ∃ u : Nat, u < n ∧ x.1 = (u : Int)
theorem mr_zero (n : Nat) : MR n [] (fun _ => 0) := ⟨fun _ => rfl, .nil, fun x h => (by cases h)⟩
theorem mputK {M : List (Int × Int)} {a b : Int} : ∀ x ∈ mput M a b, x ∈ M ∨ x = (a, b) := by
  induction M with
  | nil => intro x hx; exact .inr (List.mem_singleton.1 hx)
  | cons p r ih =>
    obtain ⟨k, c⟩ := p;intro x hx;unfold mput at hx
    split at hx
    · rename_i e
      rcases List.mem_cons.1 hx with h | h
      · exact .inr (by rw [h, e])
      · exact .inl (List.mem_cons_of_mem _ h)
    · rcases List.mem_cons.1 hx with h | h
      · exact .inl (by rw [h]; exact List.mem_cons_self ..)
      · exact (ih x h).imp (List.mem_cons_of_mem _) id
theorem mput_nd {M : List (Int × Int)} {a b : Int} (h : (M.map Prod.fst).Nodup) : ((mput M a b).map Prod.fst).Nodup := by
  induction M with
  | nil => simp [mput]
  | cons p r ih =>
    obtain ⟨k, c⟩ := p;rw [List.map_cons, List.nodup_cons] at h;unfold mput
    split
    · rw [List.map_cons, List.nodup_cons]; exact h
    · rename_i hne
      rw [List.map_cons, List.nodup_cons];refine ⟨fun hm => ?_, ih h.2⟩;obtain ⟨x, hx, e⟩ := List.mem_map.1 hm;rcases mputK x hx with hx | hx
      · exact h.1 (List.mem_map.2 ⟨x, hx, e⟩)
      · rw [hx] at e; exact hne e
theorem mr_put {n : Nat} {M : List (Int × Int)} {d : Nat → Nat} (h : MR n M d) {u v : Nat} (hu : u < n) : MR n (mput M (u : Int) (v : Int)) (updF d u v) := by
  refine ⟨fun x => ?_, mput_nd h.nd, fun x hx => ?_⟩
  · rw [mget_put]
    by_cases e : x = u
    · subst e; rw [if_pos rfl, Za0]
    · rw [if_neg (fun h => e (by omega)), ZaU e]; exact h.val x
  · rcases mputK x hx with hx | hx
    · exact h.key x hx
    · exact ⟨u, hu, by rw [hx]⟩
structure RI_ (M : List (Int × Int)) (l : List (Int × Int)) (f : Nat → Int) : Prop where
  a : ∀ x ∈ M, x ∈ l ∨ f x.1.toNat = x.2
  b : ∀ u : Nat, (∀ x ∈ M, x.1 ≠ (u : Int)) → f u = 0
theorem ri_end {n : Nat} {M : List (Int × Int)} {d : Nat → Nat} {f : Nat → Int} (h : MR n M d) (hr : RI_ M [] f) : rowI n f = rowN n d := by
  refine List.map_congr_left fun u _ => congrArg intD ?_;rw [← h.val u]
  by_cases hm : (u : Int) ∈ M.map Prod.fst
  · have h1 := mget_mem (z := 0) hm;have := (hr.a _ h1).resolve_left (fun h => by cases h)
    rwa [Int.toNat_natCast] at this
  · rw [mget_none hm];exact hr.b u fun x hx e => hm (List.mem_map.2 ⟨x, hx, e⟩)
theorem ri_next {n : Nat} {M : List (Int × Int)} {d : Nat → Nat} {l l' : List (Int × Int)} {f : Nat → Int} {k v : Int} (h : MR n M d) (hr : RI_ M l f) (hkv : (k, v) ∈ M) (hp : l.Perm ((k, v) :: l')) : RI_ M l' (updF f k.toNat v) := by
  obtain ⟨u, hu, e⟩ := h.key _ hkv;have e : k = (u : Int) := e;refine ⟨fun x hx => ?_, fun w hw => ?_⟩
  · by_cases ex : x = (k, v)
    · subst ex; exact .inr (Za0 ..)
    · rcases hr.a x hx with h1 | h1
      · exact .inl (((List.mem_cons.1 (hp.mem_iff.1 h1)).resolve_left ex))
      · refine .inr ?_;obtain ⟨w, _, e2⟩ := h.key x hx
        have hne : x.1.toNat ≠ k.toNat := fun e3 => ex (by
          rw [e2, e, Int.toNat_natCast, Int.toNat_natCast] at e3;have e4 : x.1 = k := by rw [e2, e, e3]
          have h5 := mget_of_mem (z := 0) h.nd (show (x.1, x.2) ∈ M from hx);have h6 := mget_of_mem (z := 0) h.nd hkv;rw [e4, h6] at h5
          exact Prod.ext e4 h5.symm)
        rw [ZaU hne]; exact h1
  · have : w ≠ k.toNat := fun e3 => hw _ hkv (by rw [e3, e, Int.toNat_natCast]);rw [ZaU this]; exact hr.b w hw
theorem bh_le {b : List (List Nat)} {ok : Nat → Prop} {s n : Nat} {d : Nat → Nat} {lv : List Nat} (h : BH b ok s n d lv) : lv.length ≤ b.length := by
  have := ZbJ h.nd (m := List.range b.length) fun x hx => List.mem_range.2 (h.lt x hx)
  rwa [List.length_range] at this
set_option maxRecDepth 100000 in
set_option maxHeartbeats 1000000 in
theorem distances_c (b : List (List Nat)) (hb : GB b) (ofl : List Nat) (hof : ofl.length = b.length) (s : Nat) (hs : s < b.length) (lim : Nat) (hlim : lim ≤ 100000) :
    ACalls Try.prog 35 [.d (grD b), .d (natsD ofl), .d (natD s), .d (natD lim)] [] fun r H' => ∃ d, DS b (fun u => s ≤ u ∧ nth ofl u = nth ofl s) s lim d ∧ r = .d (natsD ((List.range b.length).map d)) ∧ H' = [] := by
  have hn := hb.n;have hgs := getn (l := ofl) (k := s) (by omega);refine Za1 Try.func35 rfl rfl Try.ntmps35 rfl rfl rfl fun F hF => (Zag (Zae (goAs rfl rfl (Zaf (Zag ?_)))));refine Zae (Zau.go (st_makeMap 0 rfl rfl rfl rfl) (goAs rfl rfl (Zaf (Zag (Zae (goMv rfl rfl (Zau.go (ZaN 1 sl25 rfl rfl rfl rfl rfl rfl rfl rfl) (goAs rfl rfl ?_))))))));refine Zaf (Zag (Zag (Zae (goAs rfl rfl (Zaf (Zaz (Zbn (emb := natD) 10 1 [s] rfl rfl rfl rfl rfl rfl rfl (ZaV (α := Nat × (Nat → Nat) × List Nat × List (Int × Int)) (fun q => ⟨99, [(0, .d (grD b)), (1, .d (natsD ofl)), (2, .d (natD s)), (3, .d (natD lim)), (9, (.map 0 0)), (10, (.d (natsD q.2.2.1))), (11, (.d (natD q.1)))], [(0, [mapC intD intD q.2.2.2])]⟩) (fun q => BH b (fun u => s ≤ u ∧ nth ofl u = nth ofl s) s q.1 q.2.1 q.2.2.1 ∧ q.1 ≤ lim + 1 ∧ MR b.length q.2.2.2 q.2.1) (fun q => lim + 1 - q.1) ((1, fun _ => 0, [s], [])) (⟨bh_start hs, by show 1 ≤ lim + 1; omega, mr_zero _⟩) (Zay hF [0] rfl rfl ⟨rfl, rfl, rfl, rfl, rfl, rfl, rfl, trivial⟩) ?_))))))));rintro ⟨n, d, lv, M⟩ ⟨hH, hnl, hM⟩;dsimp only at hH hnl hM ⊢;refine Zag (Zag (Zae (goMv rfl rfl (goMv rfl rfl (Zab.go (st_leq rfl rfl rfl) (goMv rfl rfl ?_))))))
  first | refine Zbt 26 rfl (fun h26 => ?_) (fun h26 => ?_) | refine Zbr 26 rfl (fun h26 => ?_) (fun h26 => ?_)
  · refine ZaH rfl rfl rfl (goMv rfl rfl (ZaH rfl rfl rfl (Zab.go (ZaD rfl (List.length_map ..) Try.underlying25 rfl) (ZaH rfl rfl rfl ?_))))
    first | refine Zab.go (ZbF rfl rfl rfl) ?_ | refine Zab.go (ZbA rfl rfl rfl) ?_
    refine Zab.go (Za3 rfl rfl rfl rfl) (goMv rfl rfl ?_)
    first | refine Zbt 31 rfl (fun h31 => ?_) (fun h31 => ?_) | refine Zbr 31 rfl (fun h31 => ?_) (fun h31 => ?_)
    · refine ZaH rfl rfl rfl (goMv rfl rfl (ZaH rfl rfl rfl (goMv rfl rfl (ZaH rfl rfl rfl (Zab.go (st_look (M) ((s : Int)) (0) _ rfl rfl rfl mt72 kt3 za3 rfl rfl) (ZaH rfl rfl rfl ?_))))))
      first | refine Zab.go (Zbl rfl rfl rfl) ?_ | refine Zab.go (ZaY rfl rfl rfl) ?_ | refine Zab.go (Za5 rfl rfl rfl) ?_ | refine Zab.go (Za9 Try.underlying3 rfl rfl rfl) ?_ | refine Zab.go (Za6 Try.underlying3 rfl rfl rfl) ?_ | refine Zab.go (Za7 Try.underlying3 rfl rfl) ?_ | refine Zab.go (Za8 Try.underlying3 rfl rfl rfl) ?_ | refine Zab.go (ZaZ Try.underlying3 rfl rfl) ?_
      refine Zab.go (Za3 rfl rfl rfl rfl) (Zaf ?_)
      first | refine ZaR rfl (fun h36 => ?_) (fun h36 => ?_) | refine ZaF rfl (fun h36 => ?_) (fun h36 => ?_)
      · refine ZaC (Zag (Zaz (Zag ?_)));have hln : n ≤ lim := Int.ofNat_le.1 h26;have hd0 : d s = 0 := Int.ofNat.inj ((hM.val s).symm.trans h36);refine Zae (goAs rfl rfl (Zaf (Zag ?_)));refine Zag (Zae (goMv rfl rfl (Zab.go (ZaD rfl (List.length_map ..) Try.underlying25 rfl) (goMv rfl rfl (Zaf (Zaz (a_adopt 12 2 sl25 rfl rfl rfl rfl (ZaV (α := Nat × (Nat → Nat) × List Nat × List (Int × Int)) (fun q => ⟨99, [(0, .d (grD b)), (1, .d (natsD ofl)), (2, .d (natD s)), (3, .d (natD lim)), (9, (.map 0 0)), (11, (.d (natD n))), (12, (.own 2 0 q.2.2.1.length)), (39, (.d (natsD lv))), (40, (.d (natD lv.length))), (41, (.d (natD q.1)))], [(0, [mapC intD intD q.2.2.2]), (2, [.rowD 3 1 (q.2.2.1.map natD)])]⟩) (fun q => q.1 ≤ lv.length ∧ BI b (fun u => s ≤ u ∧ nth ofl u = nth ofl s) s n d q.2.1 lv q.2.2.1 q.1 0 ∧ MR b.length q.2.2.2 q.2.1) (fun q => lv.length - q.1) ((0, d, [], M)) (⟨Nat.zero_le _, bi_start, hM⟩) (Zay hF [0, 2] rfl rfl ⟨rfl, rfl, rfl, rfl, rfl, rfl, rfl, rfl, rfl, rfl, trivial⟩) ?_))))))));rintro ⟨p, d', nx, M⟩ ⟨hp, hI, hM⟩;dsimp only at hp hI hM ⊢;refine Zag (Zae ?_)
        first | refine Zab.go (ZaW rfl rfl rfl) ?_ | refine Zab.go (ZaS rfl rfl rfl) ?_
        refine Zaf (Zag ?_)
        first | refine ZaR rfl (fun h42 => ?_) (fun h42 => ?_) | refine ZaF rfl (fun h42 => ?_) (fun h42 => ?_)
        · refine ZaC (Zag (Zaz (Zag ?_)));have hpl : p < lv.length := Zbd h42;have hlvl := bh_le hH;have hvl := hH.lt _ (Zbv hpl);refine Zae ?_
          first | refine Zab.go (Zam (p) rfl rfl (rfl) (getn hpl) Try.underlying25 rfl sz3 rfl) ?_ | refine Zab.go (Zal (p) rfl rfl (rfl) (getn hpl) rfl Try.underlying25 sz3 rfl) ?_
          first | refine Zab.go (Zah rfl rfl on3 rfl) ?_ | refine Zab.go (Zak rfl rfl rfl on3 rfl) ?_ | refine Zab.go (Zaj rfl rfl (rfl) rfl on3 rfl) ?_
          refine goAs rfl rfl (Zaf (Zag (Zae (goMv rfl rfl (goMv rfl rfl ?_)))))
          first | refine Zab.go (Zam (nth lv p) rfl rfl (rfl) (getg hvl) Try.underlying32 rfl sz25 rfl) ?_ | refine Zab.go (Zal (nth lv p) rfl rfl (rfl) (getg hvl) rfl Try.underlying32 sz25 rfl) ?_
          first | refine Zab.go (Zah rfl rfl on25 rfl) ?_ | refine Zab.go (Zak rfl rfl rfl on25 rfl) ?_ | refine Zab.go (Zaj rfl rfl (rfl) rfl on25 rfl) ?_
          refine Zab.go (ZaD rfl (List.length_map ..) Try.underlying25 rfl) (goMv rfl rfl (Zaf (Zaz (ZaV (α := Nat × (Nat → Nat) × List Nat × List (Int × Int)) (fun q => ⟨99, [(0, .d (grD b)), (1, .d (natsD ofl)), (2, .d (natD s)), (3, .d (natD lim)), (9, (.map 0 0)), (11, (.d (natD n))), (12, (.own 2 0 q.2.2.1.length)), (39, (.d (natsD lv))), (40, (.d (natD lv.length))), (41, (.d (natD p))), (48, (.d (natsD (sucs b (nth lv p))))), (49, (.d (natD (sucs b (nth lv p)).length))), (50, (.d (natD q.1)))], [(0, [mapC intD intD q.2.2.2]), (2, [.rowD 3 1 (q.2.2.1.map natD)])]⟩) (fun q => q.1 ≤ (sucs b (nth lv p)).length ∧ BI b (fun u => s ≤ u ∧ nth ofl u = nth ofl s) s n d q.2.1 lv q.2.2.1 p q.1 ∧ MR b.length q.2.2.2 q.2.1) (fun q => (sucs b (nth lv p)).length - q.1) ((0, d', nx, M)) (⟨Nat.zero_le _, hI, hM⟩) (Zay hF [0, 2] rfl rfl ⟨rfl, rfl, rfl, rfl, rfl, rfl, rfl, rfl, rfl, rfl, rfl, rfl, rfl, trivial⟩) ?_))));rintro ⟨k, d', nx, M⟩ ⟨hk, hI, hM⟩;dsimp only at hk hI hM ⊢;refine Zag (Zae ?_)
          first | refine Zab.go (ZaW rfl rfl rfl) ?_ | refine Zab.go (ZaS rfl rfl rfl) ?_
          refine Zaf (Zag ?_)
          first | refine ZaR rfl (fun h51 => ?_) (fun h51 => ?_) | refine ZaF rfl (fun h51 => ?_) (fun h51 => ?_)
          · refine ZaC (Zag (Zaz (Zag ?_)));have hkl : k < (sucs b (nth lv p)).length := Zbd h51;have hsl := hb.len hvl;have hgn := getn hkl;have hul : nth (sucs b (nth lv p)) k < b.length := hb.suc hvl (Zbv hkl)
            obtain ⟨u, hue⟩ : ∃ u, nth (sucs b (nth lv p)) k = u := ⟨_, rfl⟩
            rw [hue] at hgn hul;have hgu := getn (l := ofl) (k := u) (by omega);have hnxl := bi_le hI;refine Zae ?_
            first | refine Zab.go (Zam (k) rfl rfl (rfl) (hgn) Try.underlying25 rfl sz3 rfl) ?_ | refine Zab.go (Zal (k) rfl rfl (rfl) (hgn) rfl Try.underlying25 sz3 rfl) ?_
            first | refine Zab.go (Zah rfl rfl on3 rfl) ?_ | refine Zab.go (Zak rfl rfl rfl on3 rfl) ?_ | refine Zab.go (Zaj rfl rfl (rfl) rfl on3 rfl) ?_
            refine goAs rfl rfl (Zaf (Zag (Zbk [[], [], [0, 1], [0, 1, 2], [0, 1, 2, 3], [0, 1, 2, 3], [0, 1, 2, 3, 4, 5], [0, 1, 2, 3, 4, 5, 6], [0, 1, 2, 3], [0, 1, 2, 3], [0, 1, 2, 3, 8, 9], [0, 1, 2, 3, 8, 9, 10], [0, 1, 2, 3, 4, 5, 6, 7, 8, 9, 10, 11], [0, 1, 2, 3, 4, 5, 6, 7, 8, 9, 10, 11, 12], [0, 1, 2, 3, 4, 5, 6, 7, 8, 9, 10, 11, 12, 13], [0, 1, 2, 3, 4, 5, 6, 7, 8, 9, 10, 11, 12, 13, 14], [0, 1, 2, 3, 4, 5, 6, 7, 8, 9, 10, 11, 12, 13, 14], [0, 1, 2, 3, 4, 5, 6, 7, 8, 9, 10, 11, 12, 13, 14, 15, 16], [0, 1, 2, 3, 4, 5, 6, 7, 8, 9, 10, 11, 12, 13, 14, 15, 16, 17], [0, 1, 2, 3, 4, 5, 6, 7, 8, 9, 10, 11, 12, 13, 14, 15, 16, 17, 18]] mixed rfl (dws ?_))))
            first | refine Zad [16] [] rfl rfl (fun _ => Zaa (Zai rfl rfl)) ?_ | refine Zac [16] rfl rfl (fun _ => Zaa (Zai rfl rfl)) ?_
            first | refine Zad [2] [] rfl rfl (fun _ => Zaa (Zai rfl rfl)) ?_ | refine Zac [2] rfl rfl (fun _ => Zaa (Zai rfl rfl)) ?_
            refine dwc 2 rfl rfl rfl (dw1 3 rfl rfl (Zab.go (st_geq rfl rfl rfl) (Zaf ⟨rfl, ?_⟩)));refine dw1 4 rfl rfl (goMv rfl rfl ?_)
            first | refine Zbt 57 rfl (fun h57 => ?_) (fun h57 => ?_) | refine Zbr 57 rfl (fun h57 => ?_) (fun h57 => ?_)
            · refine Zaf ⟨rfl, ?_⟩;refine dws ?_
              first | refine Zad [1, 57] [] rfl rfl (fun _ => ZaA rfl rfl rfl (Zai rfl rfl)) ?_ | refine Zac [1, 57] rfl rfl (fun _ => ZaA rfl rfl rfl (Zai rfl rfl)) ?_
              first | refine Zad [16, 57] [] rfl rfl (fun _ => ZaA rfl rfl rfl (Zai rfl rfl)) ?_ | refine Zac [16, 57] rfl rfl (fun _ => ZaA rfl rfl rfl (Zai rfl rfl)) ?_
              first | refine Zad [58, 59, 57] [] rfl rfl (fun _ => ZaA rfl rfl rfl (Zam (u) rfl rfl (rfl) (hgu) Try.underlying25 rfl sz3 rfl)) ?_ | refine Zac [58, 59, 57] rfl rfl (fun _ => ZaA rfl rfl rfl (Zam (u) rfl rfl (rfl) (hgu) Try.underlying25 rfl sz3 rfl)) ?_ | refine Zad [58, 59, 57] [] rfl rfl (fun _ => ZaA rfl rfl rfl (Zal (u) rfl rfl (rfl) (hgu) rfl Try.underlying25 sz3 rfl)) ?_ | refine Zac [58, 59, 57] rfl rfl (fun _ => ZaA rfl rfl rfl (Zal (u) rfl rfl (rfl) (hgu) rfl Try.underlying25 sz3 rfl)) ?_
              first | refine Zad [60, 57] [] rfl rfl (fun _ => ZaA rfl rfl rfl (Zah rfl rfl on3 rfl)) ?_ | refine Zac [60, 57] rfl rfl (fun _ => ZaA rfl rfl rfl (Zah rfl rfl on3 rfl)) ?_ | refine Zad [60, 57] [] rfl rfl (fun _ => ZaA rfl rfl rfl (Zak rfl rfl rfl on3 rfl)) ?_ | refine Zac [60, 57] rfl rfl (fun _ => ZaA rfl rfl rfl (Zak rfl rfl rfl on3 rfl)) ?_ | refine Zad [60, 57] [] rfl rfl (fun _ => ZaA rfl rfl rfl (Zaj rfl rfl (rfl) rfl on3 rfl)) ?_ | refine Zac [60, 57] rfl rfl (fun _ => ZaA rfl rfl rfl (Zaj rfl rfl (rfl) rfl on3 rfl)) ?_
              first | refine Zad [1, 57] [] rfl rfl (fun _ => ZaA rfl rfl rfl (Zai rfl rfl)) ?_ | refine Zac [1, 57] rfl rfl (fun _ => ZaA rfl rfl rfl (Zai rfl rfl)) ?_
              first | refine Zad [2, 57] [] rfl rfl (fun _ => ZaA rfl rfl rfl (Zai rfl rfl)) ?_ | refine Zac [2, 57] rfl rfl (fun _ => ZaA rfl rfl rfl (Zai rfl rfl)) ?_
              first | refine Zad [62, 63, 57] [] rfl rfl (fun _ => ZaA rfl rfl rfl (Zam (s) rfl rfl (rfl) (hgs) Try.underlying25 rfl sz3 rfl)) ?_ | refine Zac [62, 63, 57] rfl rfl (fun _ => ZaA rfl rfl rfl (Zam (s) rfl rfl (rfl) (hgs) Try.underlying25 rfl sz3 rfl)) ?_ | refine Zad [62, 63, 57] [] rfl rfl (fun _ => ZaA rfl rfl rfl (Zal (s) rfl rfl (rfl) (hgs) rfl Try.underlying25 sz3 rfl)) ?_ | refine Zac [62, 63, 57] rfl rfl (fun _ => ZaA rfl rfl rfl (Zal (s) rfl rfl (rfl) (hgs) rfl Try.underlying25 sz3 rfl)) ?_
              first | refine Zad [64, 57] [] rfl rfl (fun _ => ZaA rfl rfl rfl (Zah rfl rfl on3 rfl)) ?_ | refine Zac [64, 57] rfl rfl (fun _ => ZaA rfl rfl rfl (Zah rfl rfl on3 rfl)) ?_ | refine Zad [64, 57] [] rfl rfl (fun _ => ZaA rfl rfl rfl (Zak rfl rfl rfl on3 rfl)) ?_ | refine Zac [64, 57] rfl rfl (fun _ => ZaA rfl rfl rfl (Zak rfl rfl rfl on3 rfl)) ?_ | refine Zad [64, 57] [] rfl rfl (fun _ => ZaA rfl rfl rfl (Zaj rfl rfl (rfl) rfl on3 rfl)) ?_ | refine Zac [64, 57] rfl rfl (fun _ => ZaA rfl rfl rfl (Zaj rfl rfl (rfl) rfl on3 rfl)) ?_
              refine dwc 12 rfl rfl rfl (dw1 13 rfl rfl (ZaH rfl rfl rfl ?_))
              first | refine Zab.go (Zbl rfl rfl rfl) ?_ | refine Zab.go (ZaY rfl rfl rfl) ?_ | refine Zab.go (Za5 rfl rfl rfl) ?_ | refine Zab.go (Za9 Try.underlying3 rfl rfl rfl) ?_ | refine Zab.go (Za6 Try.underlying3 rfl rfl rfl) ?_ | refine Zab.go (Za7 Try.underlying3 rfl rfl) ?_ | refine Zab.go (Za8 Try.underlying3 rfl rfl rfl) ?_ | refine Zab.go (ZaZ Try.underlying3 rfl rfl) ?_
              refine Zaf ⟨rfl, ?_⟩;refine dw1 14 rfl rfl (Zab.go (Za3 rfl rfl rfl rfl) (Zaf ⟨rfl, ?_⟩));refine dw1 15 rfl rfl (goMv rfl rfl ?_)
              first | refine Zbt 68 rfl (fun h68 => ?_) (fun h68 => ?_) | refine Zbr 68 rfl (fun h68 => ?_) (fun h68 => ?_)
              · refine Zaf ⟨rfl, ?_⟩;refine dws ?_
                first | refine Zad [9, 68] [] rfl rfl (fun _ => ZaA rfl rfl rfl (Zai rfl rfl)) ?_ | refine Zac [9, 68] rfl rfl (fun _ => ZaA rfl rfl rfl (Zai rfl rfl)) ?_
                first | refine Zad [16, 68] [] rfl rfl (fun _ => ZaA rfl rfl rfl (Zai rfl rfl)) ?_ | refine Zac [16, 68] rfl rfl (fun _ => ZaA rfl rfl rfl (Zai rfl rfl)) ?_
                refine dwc 17 rfl rfl rfl (dw1 18 rfl rfl (ZaH rfl rfl rfl (Zab.go (st_look (M) ((u : Int)) (0) _ rfl rfl rfl mt72 kt3 za3 rfl rfl) (Zaf ⟨rfl, ?_⟩))));refine dw1 19 rfl rfl (ZaH rfl rfl rfl ?_)
                first | refine Zab.go (Zbl rfl rfl rfl) ?_ | refine Zab.go (ZaY rfl rfl rfl) ?_ | refine Zab.go (Za5 rfl rfl rfl) ?_ | refine Zab.go (Za9 Try.underlying3 rfl rfl rfl) ?_ | refine Zab.go (Za6 Try.underlying3 rfl rfl rfl) ?_ | refine Zab.go (Za7 Try.underlying3 rfl rfl) ?_ | refine Zab.go (Za8 Try.underlying3 rfl rfl rfl) ?_ | refine Zab.go (ZaZ Try.underlying3 rfl rfl) ?_
                refine Zaf ⟨rfl, ?_⟩;refine dw1 20 rfl rfl (Zab.go (Za3 rfl rfl rfl rfl) (Zaf ⟨rfl, ?_⟩));refine dwe ?_
                first | refine ZaR rfl (fun h73 => ?_) (fun h73 => ?_) | refine ZaF rfl (fun h73 => ?_) (fun h73 => ?_)
                · refine Zag (Zae (goMv rfl rfl (goMv rfl rfl (goMv rfl rfl ?_))))
                  first | refine Zau.go (st_mapU (M) ((u : Int)) ((n : Int)) rfl rfl rfl mt72 kt3 rfl rfl) ?_ | refine Zau.go (st_mapUH (M) ((u : Int)) ((n : Int)) rfl rfl rfl mt72 kt3 rfl rfl) ?_
                  refine Zaf (Zae (goMv rfl rfl ?_));refine goMv rfl rfl (Zau.go (ZaN 21 sl25 rfl rfl rfl rfl rfl rfl rfl rfl) (Zau.go (ZbR (emb := natD) nx [u] rfl rfl rfl rfl rfl rfl rfl rfl sl25 (by show (nx.length + 1) * 8 ≤ _; omega) rfl rfl rfl rfl) (goAs rfl rfl (Zaf (Zae (Zab.go (ZaL rfl rfl (IntWalk.i64_in _ (by omega)) rfl) (goMv rfl rfl (Zaf ?_))))))));exact ⟨(k + 1, updF d' u n, nx ++ [u], mput M (u : Int) (n : Int)), ⟨hkl, bi_new hH hI hpl hkl hue hul ⟨Int.ofNat_le.1 h57, Int.ofNat.inj h68⟩ (Int.ofNat.inj ((hM.val u).symm.trans h73)), mr_put hM hul⟩, by show (sucs b (nth lv p)).length - (k + 1) < (sucs b (nth lv p)).length - k; omega, Zay hF [0, 2] rfl (rfl) ⟨rfl, rfl, rfl, rfl, rfl, rfl, rfl, rfl, rfl, rfl, rfl, rfl, rfl, trivial⟩⟩
                · refine ZaC (Zae (Zab.go (ZaL rfl rfl (IntWalk.i64_in _ (by omega)) rfl) (goMv rfl rfl (Zaf ?_))));exact ⟨(k + 1, d', nx, M), ⟨hkl, bi_skip hI hkl hue (fun h => h73 ((hM.val u).trans (congrArg Int.ofNat h.2))), hM⟩, by show (sucs b (nth lv p)).length - (k + 1) < (sucs b (nth lv p)).length - k; omega, Zay hF [0, 2] rfl (rfl) ⟨rfl, rfl, rfl, rfl, rfl, rfl, rfl, rfl, rfl, rfl, rfl, rfl, rfl, trivial⟩⟩
              · refine Zaf ⟨rfl, ?_⟩;refine dws (Zad [9, 68] [] rfl rfl (fun _ => ZaT rfl rfl rfl rfl) (Zad [16, 68] [] rfl rfl (fun _ => ZaT rfl rfl rfl rfl) (dwc 17 rfl rfl rfl (dw1 18 rfl rfl (ZaG rfl rfl rfl rfl (Zaf ⟨rfl, ?_⟩))))));refine dw1 19 rfl rfl (ZaG rfl rfl rfl rfl (Zaf ⟨rfl, ?_⟩));refine dw1 20 rfl rfl (Zab.go (Za2 rfl rfl rfl rfl) (Zaf ⟨rfl, ?_⟩));refine dwe (Zbj rfl rfl (ZaC (Zae (Zab.go (ZaL rfl rfl (IntWalk.i64_in _ (by omega)) rfl) (goMv rfl rfl (Zaf ?_))))));exact ⟨(k + 1, d', nx, M), ⟨hkl, bi_skip hI hkl hue (fun h => h68 (congrArg Int.ofNat h.1.2)), hM⟩, by show (sucs b (nth lv p)).length - (k + 1) < (sucs b (nth lv p)).length - k; omega, Zay hF [0, 2] rfl (rfl) ⟨rfl, rfl, rfl, rfl, rfl, rfl, rfl, rfl, rfl, rfl, rfl, rfl, rfl, trivial⟩⟩
            · refine Zaf ⟨rfl, ?_⟩;refine dws (Zad [1, 57] [] rfl rfl (fun _ => ZaT rfl rfl rfl rfl) (Zad [16, 57] [] rfl rfl (fun _ => ZaT rfl rfl rfl rfl) (Zad [58, 59, 57] [] rfl rfl (fun _ => ZaT rfl rfl rfl rfl) ?_)));refine Zad [60, 57] [] rfl rfl (fun _ => ZaT rfl rfl rfl rfl) (Zad [1, 57] [] rfl rfl (fun _ => ZaT rfl rfl rfl rfl) (Zad [2, 57] [] rfl rfl (fun _ => ZaT rfl rfl rfl rfl) (Zad [62, 63, 57] [] rfl rfl (fun _ => ZaT rfl rfl rfl rfl) (Zad [64, 57] [] rfl rfl (fun _ => ZaT rfl rfl rfl rfl) (dwc 12 rfl rfl rfl (dw1 13 rfl rfl (ZaG rfl rfl rfl rfl (Zaf ⟨rfl, ?_⟩))))))));refine dw1 14 rfl rfl (Zab.go (Za2 rfl rfl rfl rfl) (Zaf ⟨rfl, ?_⟩));refine dw1 15 rfl rfl (goMv rfl rfl (Zaf ⟨rfl, ?_⟩));refine dws (Zad [9, 68] [] rfl rfl (fun _ => ZaT rfl rfl rfl rfl) (Zad [16, 68] [] rfl rfl (fun _ => ZaT rfl rfl rfl rfl) (dwc 17 rfl rfl rfl (dw1 18 rfl rfl (ZaG rfl rfl rfl rfl (Zaf ⟨rfl, ?_⟩))))));refine dw1 19 rfl rfl (ZaG rfl rfl rfl rfl (Zaf ⟨rfl, ?_⟩));refine dw1 20 rfl rfl (Zab.go (Za2 rfl rfl rfl rfl) (Zaf ⟨rfl, ?_⟩));refine dwe (Zbj rfl rfl (ZaC (Zae (Zab.go (ZaL rfl rfl (IntWalk.i64_in _ (by omega)) rfl) (goMv rfl rfl (Zaf ?_))))));exact ⟨(k + 1, d', nx, M), ⟨hkl, bi_skip hI hkl hue (fun h => h57 (Int.ofNat_le.2 h.1.1)), hM⟩, by show (sucs b (nth lv p)).length - (k + 1) < (sucs b (nth lv p)).length - k; omega, Zay hF [0, 2] rfl (rfl) ⟨rfl, rfl, rfl, rfl, rfl, rfl, rfl, rfl, rfl, rfl, rfl, rfl, rfl, trivial⟩⟩
          · refine ZaJ ?_;have hke : k = (sucs b (nth lv p)).length := by have := h51; omega
            subst hke;refine Zae (Zab.go (ZaL rfl rfl (IntWalk.i64_in _ (by omega)) rfl) (goMv rfl rfl (Zaf ?_)));exact ⟨(p + 1, d', nx, M), ⟨hpl, bi_row hI hpl, hM⟩, by show lv.length - (p + 1) < lv.length - p; omega, Zay hF [0, 2] rfl (rfl) ⟨rfl, rfl, rfl, rfl, rfl, rfl, rfl, rfl, rfl, rfl, trivial⟩⟩
        · refine ZaJ ?_;have hpe : p = lv.length := by have := h42; omega
          subst hpe;have hB := hI;refine Zbn (emb := natD) 12 2 nx rfl rfl rfl rfl rfl rfl rfl ?_;refine Zae (goMv rfl rfl (goAs rfl rfl (Zaf (Zae (goMv rfl rfl (Zab.go (ZaL rfl rfl (IntWalk.i64_in _ (by omega)) rfl) (goAs rfl rfl (Zaf ?_))))))));exact ⟨(n + 1, d', nx, M), ⟨bh_next hH hB hd0, by show n + 1 ≤ lim + 1; omega, hM⟩, by show lim + 1 - (n + 1) < lim + 1 - n; omega, Zay hF [0] rfl (rfl) ⟨rfl, rfl, rfl, rfl, rfl, rfl, rfl, trivial⟩⟩
      · refine ZaJ (Zag ?_);have hE := bh_end (lim := lim) hH hnl (by first | exact .inl (by omega) | exact .inr (.inl (List.length_eq_zero_iff.1 (by omega))) | exact .inr (.inr fun e => h36 ((hM.val s).trans (congrArg Int.ofNat e))));refine Zae (goMv rfl rfl (Zab.go (ZaD rfl (List.length_map ..) Try.underlying32 rfl) (Zau.go (ZbQ 3 sl25 rfl rfl rfl (by omega) zd3 rfl rfl rfl rfl) (goAs rfl rfl (Zaf (Zag (Zag ?_)))))));rw [repI];refine Zae (goMv rfl rfl (Zau.go (st_range 4 rfl rfl rfl mt72 rfl rfl rfl rfl) (Zaf (Zaz (ZaV (α := List Nat × (Nat → Int)) (fun q => ⟨99, [(17, (.own 3 0 b.length)), (88, (.ptr 4 0 0))], [(4, [.iter 0 0 M.length q.1]), (0, [mapC intD intD M]), (3, [.rowD 3 1 (rowI b.length q.2)])]⟩) (fun q => RI_ M (lft M (List.range M.length) q.1) q.2) (fun q => (lft M (List.range M.length) q.1).length) (([], fun _ => 0)) (⟨fun x hx => .inl (by rw [lft_start (by simp)]; exact hx), fun u _ => rfl⟩) (Zay hF [4, 0, 3] rfl rfl ⟨rfl, rfl, trivial⟩) ?_)))));rintro ⟨seen, f⟩ hR;dsimp only at hR ⊢;refine Zag (Zae (o_next (M) rfl rfl rfl rfl (fun hl89 => ?_) (fun j89 b89 k89 v89 hm89 hb89 hB89 hp89 => ⟨_, rfl, ?_⟩)))
        · first | refine Zab.go (ZaE rfl rfl rfl) ?_ | refine Zab.go (ZaI rfl rfl rfl) ?_
          refine Zaf (Zag (Zbj rfl rfl (ZaJ (Zag ?_))));rw [hl89] at hR;have hre := ri_end hM hR;rw [hre, rowN_map];refine Zbn (emb := natD) 17 3 ((List.range b.length).map d) rfl rfl rfl (by simp) rfl rfl rfl (Zae (goMv rfl rfl (goAs rfl rfl (Zaf (Zbb ?_)))));exact ⟨_, [], [], ZaQ rfl, rfl, rfl, d, hE, rfl, rfl⟩
        · first | refine Zab.go (ZaE rfl rfl rfl) ?_ | refine Zab.go (ZaI rfl rfl rfl) ?_
          refine Zaf (Zag (a_true rfl rfl (ZaC (Zaz (Zag (Zae (Zab.go (st_entry (M) j89 b89 rfl rfl rfl hm89 hb89 rfl) ?_)))))))
          first | refine Zab.go (ZaE rfl rfl rfl) ?_ | refine Zab.go (ZaI rfl rfl rfl) ?_
          first | refine Zab.go (ZaE rfl rfl rfl) ?_ | refine Zab.go (ZaI rfl rfl rfl) ?_
          refine goAs rfl rfl (goAs rfl rfl (Zaf ?_));obtain ⟨w, hw, hwe⟩ := hM.key _ (List.mem_of_getElem? hm89);have hwk : k89 = ((k89.toNat : Nat) : Int) := by have e : k89 = (w : Int) := hwe; rw [e]; rfl
          have hwl : k89.toNat < b.length := by have e : k89 = (w : Int) := hwe; rw [e]; exact hw
          refine Zae (goMv rfl rfl (goMv rfl rfl (goMv rfl rfl ?_)))
          first | refine Zab.go (Zam (k89.toNat) rfl rfl (hwk) (hwl) Try.underlying25 rfl sz3 rfl) ?_ | refine Zab.go (Zal (k89.toNat) rfl rfl (hwk) (hwl) rfl Try.underlying25 sz3 rfl) ?_
          refine Zau.go (Zbh rfl rfl rfl rfl rfl (by rw [rowI_len]; exact hwl) rowI_set rfl sz3) (Zaf ?_);exact ⟨(seen ++ [b89], updF f k89.toNat v89), ri_next hM hR (List.mem_of_getElem? hm89) hp89, by rw [hp89.length_eq]; exact Nat.lt_succ_self _, Zay hF [4, 0, 3] rfl (rfl) ⟨rfl, rfl, trivial⟩⟩
    · refine ZaG rfl rfl rfl rfl (ZaG rfl rfl rfl rfl (ZaG rfl rfl rfl rfl (ZaG rfl rfl rfl rfl (Zab.go (Za2 rfl rfl rfl rfl) (Zaf (Zbj rfl rfl (ZaJ (Zag ?_))))))));have hE := bh_end (lim := lim) hH hnl (by first | exact .inl (by omega) | exact .inr (.inl (List.length_eq_zero_iff.1 (by omega))) | exact .inr (.inr fun e => h36 ((hM.val s).trans (congrArg Int.ofNat e))));refine Zae (goMv rfl rfl (Zab.go (ZaD rfl (List.length_map ..) Try.underlying32 rfl) (Zau.go (ZbQ 3 sl25 rfl rfl rfl (by omega) zd3 rfl rfl rfl rfl) (goAs rfl rfl (Zaf (Zag (Zag ?_)))))));rw [repI];refine Zae (goMv rfl rfl (Zau.go (st_range 4 rfl rfl rfl mt72 rfl rfl rfl rfl) (Zaf (Zaz (ZaV (α := List Nat × (Nat → Int)) (fun q => ⟨99, [(17, (.own 3 0 b.length)), (88, (.ptr 4 0 0))], [(4, [.iter 0 0 M.length q.1]), (0, [mapC intD intD M]), (3, [.rowD 3 1 (rowI b.length q.2)])]⟩) (fun q => RI_ M (lft M (List.range M.length) q.1) q.2) (fun q => (lft M (List.range M.length) q.1).length) (([], fun _ => 0)) (⟨fun x hx => .inl (by rw [lft_start (by simp)]; exact hx), fun u _ => rfl⟩) (Zay hF [4, 0, 3] rfl rfl ⟨rfl, rfl, trivial⟩) ?_)))));rintro ⟨seen, f⟩ hR;dsimp only at hR ⊢;refine Zag (Zae (o_next (M) rfl rfl rfl rfl (fun hl89 => ?_) (fun j89 b89 k89 v89 hm89 hb89 hB89 hp89 => ⟨_, rfl, ?_⟩)))
      · first | refine Zab.go (ZaE rfl rfl rfl) ?_ | refine Zab.go (ZaI rfl rfl rfl) ?_
        refine Zaf (Zag (Zbj rfl rfl (ZaJ (Zag ?_))));rw [hl89] at hR;have hre := ri_end hM hR;rw [hre, rowN_map];refine Zbn (emb := natD) 17 3 ((List.range b.length).map d) rfl rfl rfl (by simp) rfl rfl rfl (Zae (goMv rfl rfl (goAs rfl rfl (Zaf (Zbb ?_)))));exact ⟨_, [], [], ZaQ rfl, rfl, rfl, d, hE, rfl, rfl⟩
      · first | refine Zab.go (ZaE rfl rfl rfl) ?_ | refine Zab.go (ZaI rfl rfl rfl) ?_
        refine Zaf (Zag (a_true rfl rfl (ZaC (Zaz (Zag (Zae (Zab.go (st_entry (M) j89 b89 rfl rfl rfl hm89 hb89 rfl) ?_)))))))
        first | refine Zab.go (ZaE rfl rfl rfl) ?_ | refine Zab.go (ZaI rfl rfl rfl) ?_
        first | refine Zab.go (ZaE rfl rfl rfl) ?_ | refine Zab.go (ZaI rfl rfl rfl) ?_
        refine goAs rfl rfl (goAs rfl rfl (Zaf ?_));obtain ⟨w, hw, hwe⟩ := hM.key _ (List.mem_of_getElem? hm89);have hwk : k89 = ((k89.toNat : Nat) : Int) := by have e : k89 = (w : Int) := hwe; rw [e]; rfl
        have hwl : k89.toNat < b.length := by have e : k89 = (w : Int) := hwe; rw [e]; exact hw
        refine Zae (goMv rfl rfl (goMv rfl rfl (goMv rfl rfl ?_)))
        first | refine Zab.go (Zam (k89.toNat) rfl rfl (hwk) (hwl) Try.underlying25 rfl sz3 rfl) ?_ | refine Zab.go (Zal (k89.toNat) rfl rfl (hwk) (hwl) rfl Try.underlying25 sz3 rfl) ?_
        refine Zau.go (Zbh rfl rfl rfl rfl rfl (by rw [rowI_len]; exact hwl) rowI_set rfl sz3) (Zaf ?_);exact ⟨(seen ++ [b89], updF f k89.toNat v89), ri_next hM hR (List.mem_of_getElem? hm89) hp89, by rw [hp89.length_eq]; exact Nat.lt_succ_self _, Zay hF [4, 0, 3] rfl (rfl) ⟨rfl, rfl, trivial⟩⟩
  · refine ZaG rfl rfl rfl rfl (ZaG rfl rfl rfl rfl (ZaG rfl rfl rfl rfl (Zab.go (Za2 rfl rfl rfl rfl) (goMv rfl rfl ?_))));refine ZaG rfl rfl rfl rfl (ZaG rfl rfl rfl rfl (ZaG rfl rfl rfl rfl (ZaG rfl rfl rfl rfl (Zab.go (Za2 rfl rfl rfl rfl) (Zaf (Zbj rfl rfl (ZaJ (Zag ?_))))))));have hE := bh_end (lim := lim) hH hnl (by first | exact .inl (by omega) | exact .inr (.inl (List.length_eq_zero_iff.1 (by omega))) | exact .inr (.inr fun e => h36 ((hM.val s).trans (congrArg Int.ofNat e))));refine Zae (goMv rfl rfl (Zab.go (ZaD rfl (List.length_map ..) Try.underlying32 rfl) (Zau.go (ZbQ 3 sl25 rfl rfl rfl (by omega) zd3 rfl rfl rfl rfl) (goAs rfl rfl (Zaf (Zag (Zag ?_)))))));rw [repI];refine Zae (goMv rfl rfl (Zau.go (st_range 4 rfl rfl rfl mt72 rfl rfl rfl rfl) (Zaf (Zaz (ZaV (α := List Nat × (Nat → Int)) (fun q => ⟨99, [(17, (.own 3 0 b.length)), (88, (.ptr 4 0 0))], [(4, [.iter 0 0 M.length q.1]), (0, [mapC intD intD M]), (3, [.rowD 3 1 (rowI b.length q.2)])]⟩) (fun q => RI_ M (lft M (List.range M.length) q.1) q.2) (fun q => (lft M (List.range M.length) q.1).length) (([], fun _ => 0)) (⟨fun x hx => .inl (by rw [lft_start (by simp)]; exact hx), fun u _ => rfl⟩) (Zay hF [4, 0, 3] rfl rfl ⟨rfl, rfl, trivial⟩) ?_)))));rintro ⟨seen, f⟩ hR;dsimp only at hR ⊢;refine Zag (Zae (o_next (M) rfl rfl rfl rfl (fun hl89 => ?_) (fun j89 b89 k89 v89 hm89 hb89 hB89 hp89 => ⟨_, rfl, ?_⟩)))
    · first | refine Zab.go (ZaE rfl rfl rfl) ?_ | refine Zab.go (ZaI rfl rfl rfl) ?_
      refine Zaf (Zag (Zbj rfl rfl (ZaJ (Zag ?_))));rw [hl89] at hR;have hre := ri_end hM hR;rw [hre, rowN_map];refine Zbn (emb := natD) 17 3 ((List.range b.length).map d) rfl rfl rfl (by simp) rfl rfl rfl (Zae (goMv rfl rfl (goAs rfl rfl (Zaf (Zbb ?_)))));exact ⟨_, [], [], ZaQ rfl, rfl, rfl, d, hE, rfl, rfl⟩
    · first | refine Zab.go (ZaE rfl rfl rfl) ?_ | refine Zab.go (ZaI rfl rfl rfl) ?_
      refine Zaf (Zag (a_true rfl rfl (ZaC (Zaz (Zag (Zae (Zab.go (st_entry (M) j89 b89 rfl rfl rfl hm89 hb89 rfl) ?_)))))))
      first | refine Zab.go (ZaE rfl rfl rfl) ?_ | refine Zab.go (ZaI rfl rfl rfl) ?_
      first | refine Zab.go (ZaE rfl rfl rfl) ?_ | refine Zab.go (ZaI rfl rfl rfl) ?_
      refine goAs rfl rfl (goAs rfl rfl (Zaf ?_));obtain ⟨w, hw, hwe⟩ := hM.key _ (List.mem_of_getElem? hm89);have hwk : k89 = ((k89.toNat : Nat) : Int) := by have e : k89 = (w : Int) := hwe; rw [e]; rfl
      have hwl : k89.toNat < b.length := by have e : k89 = (w : Int) := hwe; rw [e]; exact hw
      refine Zae (goMv rfl rfl (goMv rfl rfl (goMv rfl rfl ?_)))
      first | refine Zab.go (Zam (k89.toNat) rfl rfl (hwk) (hwl) Try.underlying25 rfl sz3 rfl) ?_ | refine Zab.go (Zal (k89.toNat) rfl rfl (hwk) (hwl) rfl Try.underlying25 sz3 rfl) ?_
      refine Zau.go (Zbh rfl rfl rfl rfl rfl (by rw [rowI_len]; exact hwl) rowI_set rfl sz3) (Zaf ?_);exact ⟨(seen ++ [b89], updF f k89.toNat v89), ri_next hM hR (List.mem_of_getElem? hm89) hp89, by rw [hp89.length_eq]; exact Nat.lt_succ_self _, Zay hF [4, 0, 3] rfl (rfl) ⟨rfl, rfl, trivial⟩⟩
end Go.Proofs.Ytgdppeobgefogaa
/- Layer 31: the cycle, plain laws of its search. -/
namespace Go.Proofs.Ytgdppeobgefogaa
open Go.RowKit

noncomputable def okS (g : List (List Nat)) (s u : Nat) : Prop := s ≤ u ∧ nth (noL g) u = nth (noL g) s
theorem revG_mem {g : List (List Nat)} {u v : Nat} (hv : v < g.length) : u ∈ sucs (revG g) v ↔ u < g.length ∧ v ∈ sucs g u := by
  rw [revG, grF_sucs hv];unfold revL;rw [List.mem_flatMap]
  constructor
  · rintro ⟨a, ha, hu⟩;obtain ⟨h1, rfl⟩ := List.mem_replicate.1 hu;exact ⟨List.mem_range.1 ha, List.count_pos_iff.1 (Nat.pos_of_ne_zero h1)⟩
  · rintro ⟨hu, hm⟩;exact ⟨u, List.mem_range.2 hu, List.mem_replicate.2 ⟨Nat.pos_iff_ne_zero.1 (List.count_pos_iff.2 hm), rfl⟩⟩
theorem revG_len (g : List (List Nat)) : (revG g).length = g.length := Zbx _ _
def cand (g : List (List Nat)) (no : List Nat) (s : Nat) (d : Nat → Nat) (m w : Nat) : Prop := s < w ∧ nth no w = nth no s ∧ d w = m
structure SS (no : List Nat) (g : List (List Nat)) (s : Nat) (d : Nat → Nat) (m : Nat) (l : List Nat) (o : Option Nat) : Prop where
  nn : o = none → ∀ w ∈ l, ¬ cand g no s d m w
  so : ∀ u, o = some u → u ∈ l ∧ cand g no s d m u ∧ ∀ w ∈ l, cand g no s d m w → u ≤ w
def encO : Option Nat → Int
  | none => -1
  | some u => (u : Int)
theorem ss_start {no : List Nat} {g : List (List Nat)} {s m : Nat} {d : Nat → Nat} : SS no g s d m [] none := ⟨fun _ w h => (by cases h), fun u h => (by cases h)⟩
theorem ss_skip {no : List Nat} {g : List (List Nat)} {s m : Nat} {d : Nat → Nat} {l : List Nat} {o : Option Nat} {x : Nat} (h : SS no g s d m l o) (hx : ¬ (cand g no s d m x ∧ ∀ u, o = some u → x < u)) : SS no g s d m (l ++ [x]) o := by
  refine ⟨fun e w hw => ?_, fun u e => ?_⟩
  · rcases List.mem_append.1 hw with hw | hw
    · exact h.nn e w hw
    · rw [List.mem_singleton.1 hw]; exact fun hc => hx ⟨hc, fun u e2 => by rw [e] at e2; cases e2⟩
  · obtain ⟨h1, h2, h3⟩ := h.so u e;refine ⟨List.mem_append_left _ h1, h2, fun w hw hc => ?_⟩;rcases List.mem_append.1 hw with hw | hw
    · exact h3 w hw hc
    · rw [List.mem_singleton.1 hw] at hc ⊢;rcases Nat.lt_or_ge x u with hl | hl
      · exact (hx ⟨hc, fun u' e' => by rw [e] at e'; injection e' with e'; omega⟩).elim
      · exact hl
theorem ss_take {no : List Nat} {g : List (List Nat)} {s m : Nat} {d : Nat → Nat} {l : List Nat} {o : Option Nat} {x : Nat} (h : SS no g s d m l o) (hc : cand g no s d m x) (ho : ∀ u, o = some u → x < u) : SS no g s d m (l ++ [x]) (some x) := by
  refine ⟨fun e => (by cases e), fun u e => ?_⟩;injection e with e
  subst e;refine ⟨by simp, hc, fun w hw hcw => ?_⟩;rcases List.mem_append.1 hw with hw | hw
  · cases o with
    | none => exact (h.nn rfl w hw hcw).elim
    | some u => have := (h.so u rfl).2.2 w hw hcw; have := ho u rfl; omega
  · rw [List.mem_singleton.1 hw]; exact Nat.le_refl _
structure PS (g : List (List Nat)) (s : Nat) (d : Nat → Nat) (L : Nat) (out : List Nat) : Prop where
  len : 1 ≤ out.length
  hd : nth out 0 = s
  lt : ∀ v ∈ out, v < g.length
  dl : ∀ j, j < out.length → d (nth out j) = L - j
  stp : ∀ j, j + 1 < out.length → nth out (j + 1) ∈ sucs g (nth out j) ∧ cand g (noL g) s d (L - (j + 1)) (nth out (j + 1)) ∧ ∀ w ∈ sucs g (nth out j), cand g (noL g) s d (L - (j + 1)) w → nth out (j + 1) ≤ w
theorem ps_start {g : List (List Nat)} {s : Nat} {d : Nat → Nat} (hs : s < g.length) : PS g s d (d s) [s] :=
  ⟨by simp, rfl, fun v hv => by rw [List.mem_singleton.1 hv]; exact hs, fun j hj => by have : j = 0 := by simpa using hj
                                                                                       subst this; rfl, fun j hj => by simp at hj⟩
theorem ps_next {g : List (List Nat)} (hg : GB g) {s : Nat} {d : Nat → Nat} {L : Nat} {out : List Nat} {u : Nat} (h : PS g s d L out) (hS : SS (noL g) g s d (L - out.length) (sucs g (nth out (out.length - 1))) (some u)) : PS g s d L (out ++ [u]) ∧ u < g.length := by
  obtain ⟨h1, h2, h3⟩ := hS.so u rfl;have hlen := h.len;have hv : nth out (out.length - 1) < g.length := h.lt _ (Zbv (by omega));have hu := hg.suc hv h1;have hlast : nth (out ++ [u]) out.length = u := by simp [nth]
  refine ⟨⟨by simp, by rw [nth_app (by omega)]; exact h.hd, fun v hv => (List.mem_append.1 hv).elim (h.lt v) fun e => by rw [List.mem_singleton.1 e]; exact hu, fun j hj => ?_, fun j hj => ?_⟩, hu⟩
  · rw [List.length_append, List.length_singleton] at hj
    by_cases e : j = out.length
    · subst e; rw [hlast]; exact h2.2.2
    · rw [nth_app (by omega)]; exact h.dl j (by omega)
  · rw [List.length_append, List.length_singleton] at hj
    by_cases e : j + 1 = out.length
    · rw [e, hlast, nth_app (by omega), show j = out.length - 1 by omega];exact ⟨h1, h2, h3⟩
    · rw [nth_app (by omega), nth_app (by omega)]; exact h.stp j (by omega)
theorem cand_ex {g : List (List Nat)} {s lim : Nat} {d : Nat → Nat} (hD : DS (revG g) (okS g s) s lim d) (hs : s < g.length) {v m : Nat} (hv : v < g.length) (hm : d v = m + 1) (h1 : 1 ≤ m) (hL : m < d s) : ∃ w ∈ sucs g v, cand g (noL g) s d m w := by
  have hlim := (hD.a v (by omega)).2;have hw := (hD.a v (by omega)).1;rw [hm] at hw;obtain ⟨hok, w, hww, hvw⟩ := hw
  have hwl : w < g.length := by
    rcases Nat.lt_or_ge w g.length with h | h
    · exact h
    · have : sucs (revG g) w = [] := by unfold sucs; rw [List.getD_eq_getElem?_getD, List.getElem?_eq_none (by rw [revG_len]; exact h)]; rfl
      rw [this] at hvw; cases hvw
  obtain ⟨e1, e2⟩ := hD.comp m w h1 (by omega) (.inr (by omega)) hww
  have e3 : d w = m := by
    rcases Nat.lt_or_ge (d w) m with hl | hl
    · have := hD.comp (d w + 1) v (by omega) (by omega) (.inr (by omega)) ⟨hok, w, (hD.a w e1).1, hvw⟩;omega
    · omega
  obtain ⟨k, rfl⟩ : ∃ k, m = k + 1 := ⟨m - 1, by omega⟩
  have hokw := hww.1;refine ⟨w, ((revG_mem hwl).1 hvw).2, ?_, hokw.2, e3⟩;rcases Nat.eq_or_lt_of_le hokw.1 with e | e
  · rw [← e] at e3; omega
  · exact e
structure CI (g : List (List Nat)) (i best : Nat) (out : List Nat) : Prop where
  b1 : 1 ≤ best ∧ best ≤ g.length + 1
  none : out = [] → best = g.length + 1
  some : out ≠ [] → ∃ s lim d, s < i ∧ DS (revG g) (okS g s) s lim d ∧ d s = best ∧ PS g s d best out ∧ out.length = best ∧ ∀ s', s' < s → ¬ Wk (revG g) (okS g s') s' best s'
  no : ∀ s, s < i → ∀ k, 1 ≤ k → k < best → ¬ Wk (revG g) (okS g s) s k s
theorem ci_zero (g : List (List Nat)) : CI g 0 (g.length + 1) [] := ⟨by omega, fun _ => rfl, fun h => absurd rfl h, fun s h => by omega⟩
theorem ci_skip {g : List (List Nat)} {i best : Nat} {out : List Nat} (h : CI g i best out) (hn : ∀ k, 1 ≤ k → k < best → ¬ Wk (revG g) (okS g i) i k i) : CI g (i + 1) best out := by
  refine ⟨h.b1, h.none, fun ho => ?_, fun s hs => ?_⟩
  · obtain ⟨s, lim, d, h1, h2⟩ := h.some ho;exact ⟨s, lim, d, by omega, h2⟩
  · by_cases e : s = i
    · subst e; exact hn
    · exact h.no s (by omega)
theorem ci_new {g : List (List Nat)} {i best : Nat} {out : List Nat} (h : CI g i best out) (hi : i < g.length) {d : Nat → Nat} (hD : DS (revG g) (okS g i) i (best - 1) d) (h0 : d i ≠ 0) {out' : List Nat} (hP : PS g i d (d i) out') (hl : out'.length = d i) : CI g (i + 1) (d i) out' := by
  have hle := (hD.a i h0).2;have hb := h.b1;refine ⟨by omega, fun e => by rw [e] at hl; simp at hl; omega, fun _ => ⟨i, best - 1, d, by omega, hD, rfl, hP, hl, fun s' hs' => h.no s' hs' (d i) (by omega) (by omega)⟩, fun s hs k h1 hk hw => ?_⟩
  by_cases e : s = i
  · subst e;have := (hD.comp k s h1 (by omega) (.inr (by omega)) hw).2;omega
  · exact h.no s (by omega) k h1 (by omega) hw
theorem ds_no {g : List (List Nat)} {i best : Nat} {d : Nat → Nat} (hD : DS (revG g) (okS g i) i (best - 1) d) (h0 : d i = 0) : ∀ k, 1 ≤ k → k < best → ¬ Wk (revG g) (okS g i) i k i := fun k h1 hk hw => (hD.comp k i h1 (by omega) (.inl h0) hw).1 h0
theorem ZbP {g : List (List Nat)} {v : Nat} (hv : v < g.length) : nth (noL g) v = noC g v := by unfold noL; rw [Zbm (by simpa using hv)]; simp
theorem noL_len (g : List (List Nat)) : (noL g).length = g.length := by simp [noL]
theorem one_no {g : List (List Nat)} {i : Nat} (hi : i < g.length) (hl : (outT (noC g) g.length (noC g i)).length = 1) (hs : i ∉ sucs g i) : ∀ k, 1 ≤ k → ¬ Wk (revG g) (okS g i) i k i := by
  intro k h1 hw;obtain ⟨x, hx⟩ := List.length_eq_one_iff.1 hl
  have hm : ∀ v, v < g.length → noC g v = noC g i → v = x := fun v hv e => by
    have : v ∈ outT (noC g) g.length (noC g i) := List.mem_filter.2 ⟨List.mem_range.2 hv, decide_eq_true e⟩;rw [hx] at this; exact List.mem_singleton.1 this
  obtain ⟨m, rfl⟩ : ∃ m, k = m + 1 := ⟨k - 1, by omega⟩
  obtain ⟨_, v, hv, hvi⟩ := hw
  have hvl : v < g.length := by
    rcases Nat.lt_or_ge v g.length with h | h
    · exact h
    · have : sucs (revG g) v = [] := by unfold sucs; rw [List.getD_eq_getElem?_getD, List.getElem?_eq_none (by rw [revG_len]; exact h)]; rfl
      rw [this] at hvi; cases hvi
  have hvi2 := ((revG_mem hvl).1 hvi).2
  have e : v = i := by
    cases m with
    | zero => exact hv
    | succ m =>
      have := hv.1.2;rw [ZbP hvl, ZbP hi] at this;rw [hm v hvl this, hm i hi rfl]
  rw [e] at hvi2; exact hs hvi2
theorem idx_at {l : List Nat} {x k : Nat} (hk : k < l.length) (hx : x ∉ l.take k) (e : nth l k = x) : (k : Int) = (l.idxOf x : Int) := by
  have h1 : l = l.take k ++ l.drop k := (List.take_append_drop k l).symm;rw [h1, List.idxOf_append, if_neg hx, drop_nth hk, e, List.idxOf_cons_self, List.length_take];omega
set_option maxRecDepth 100000 in
theorem index_c (l : List Nat) (x : Nat) (hl : l.length ≤ 2000000) : ACalls Try.prog 46 [.d (natsD l), .d (natD x)] [] fun r H' => r = .d (intD (if x ∈ l then (l.idxOf x : Int) else -1)) ∧ H' = [] := by
  refine Za1 Try.func46 rfl rfl Try.ntmps46 rfl rfl rfl fun F hF => (Zag (Zae (goAs rfl rfl (Zaf ?_))));refine Zag (Zag (Zae (goMv rfl rfl (Zab.go (ZaD rfl (List.length_map ..) Try.underlying25 rfl) (goMv rfl rfl (Zaf (Zaz (a_loop (α := Nat) (fun k => ⟨19, [(0, .d (natsD l)), (1, .d (natD x)), (7, (.d (natD l.length))), (8, (.d (natD k)))], []⟩) (fun k => k ≤ l.length ∧ x ∉ l.take k) (fun k => l.length - k) (0) (⟨Nat.zero_le _, by simp⟩) (le_of_has ⟨rfl, rfl, rfl, rfl, trivial⟩) ?_))))))));rintro k ⟨hk, hx⟩;refine Zag (Zae ?_)
  first | refine Zab.go (ZaW rfl rfl rfl) ?_ | refine Zab.go (ZaS rfl rfl rfl) ?_
  refine Zaf (Zag ?_)
  first | refine ZaR rfl (fun h9 => ?_) (fun h9 => ?_) | refine ZaF rfl (fun h9 => ?_) (fun h9 => ?_)
  · refine ZaC (Zag (Zaz (Zag ?_)));have hkl : k < l.length := Zbd h9;refine Zae (goMv rfl rfl (goAs rfl rfl (Zaf (Zag (Zae (goMv rfl rfl (goMv rfl rfl (goMv rfl rfl ?_))))))))
    first | refine Zab.go (Zam (k) rfl rfl (rfl) (getn hkl) Try.underlying25 rfl sz3 rfl) ?_ | refine Zab.go (Zal (k) rfl rfl (rfl) (getn hkl) rfl Try.underlying25 sz3 rfl) ?_
    first | refine Zab.go (Zah rfl rfl on3 rfl) ?_ | refine Zab.go (Zak rfl rfl rfl on3 rfl) ?_ | refine Zab.go (Zaj rfl rfl (rfl) rfl on3 rfl) ?_
    first | refine Zab.go (Zbl rfl rfl rfl) ?_ | refine Zab.go (ZaY rfl rfl rfl) ?_ | refine Zab.go (Za5 rfl rfl rfl) ?_ | refine Zab.go (Za9 Try.underlying3 rfl rfl rfl) ?_ | refine Zab.go (Za6 Try.underlying3 rfl rfl rfl) ?_ | refine Zab.go (Za7 Try.underlying3 rfl rfl) ?_ | refine Zab.go (Za8 Try.underlying3 rfl rfl rfl) ?_ | refine Zab.go (ZaZ Try.underlying3 rfl rfl) ?_
    refine Zaf ?_
    first | refine ZaR rfl (fun h16 => ?_) (fun h16 => ?_) | refine ZaF rfl (fun h16 => ?_) (fun h16 => ?_)
    · refine Zag (Zae (goMv rfl rfl (goAs rfl rfl (Zaf (Zbb ?_)))));exact ⟨_, [], [], ZaQ rfl, rfl, rfl, eqv (congrArg intD (by rw [if_pos (Int.ofNat.inj h16 ▸ Zbv hkl), idx_at hkl hx (Int.ofNat.inj h16).symm])), rfl⟩
    · refine ZaC (Zae (Zab.go (ZaL rfl rfl (IntWalk.i64_in _ (by omega)) rfl) (goMv rfl rfl (Zaf ?_))));exact ⟨k + 1, ⟨hkl, fun hm => by rw [List.take_succ_eq_append_getElem hkl] at hm; exact (List.mem_append.1 hm).elim hx fun e => h16 (by rw [List.mem_singleton.1 e, Zbm hkl])⟩, by omega, ⟨rfl, rfl, fun _ _ => Has.get (l := [(0, _), (1, _), (7, _), (8, _)]) ⟨rfl, rfl, rfl, rfl, trivial⟩⟩⟩
  · refine ZaJ (Zag (Zae (goAs rfl rfl (Zaf (Zbb ?_)))));exact ⟨_, [], [], ZaQ rfl, rfl, rfl, eqv (congrArg intD (by rw [if_neg (by rw [← List.take_of_length_le (i := k) (l := l) (by have := h9; omega)]; exact hx)])), rfl⟩
set_option maxRecDepth 100000 in
theorem contains_p (l : List Nat) (x : Nat) (hl : l.length ≤ 2000000) : PCalls Try.prog 34 [.d (natsD l), .d (natD x)] (boolD (decide (x ∈ l))) := by
  refine Za1 Try.func34 rfl rfl Try.ntmps34 rfl rfl rfl fun F hF => (Zag (Zae (goAs rfl rfl (Zaf ?_))));refine Zag (Zae (goMv rfl rfl (goMv rfl rfl (Zab.go (Zbo (index_c l x hl) rfl rfl) (Zab.go (st_geq rfl rfl rfl) (goAs rfl rfl (Zaf (Zbb ?_))))))));exact ⟨_, [], [], ZaQ rfl, rfl, rfl, bdec (by split <;> simp_all <;> omega), rfl⟩
end Go.Proofs.Ytgdppeobgefogaa
/- Layer 31: there is a numbering of the components. Plain laws. -/
namespace Go.Proofs.Ytgdppeobgefogaa
open Go.RowKit
theorem rep_ex (suc : Nat → List Nat) (v : Nat) : ∃ y, (Rh suc v y ∧ Rh suc y v) ∧ ∀ z, Rh suc v z ∧ Rh suc z v → y ≤ z := exmin (fun u => Rh suc v u ∧ Rh suc u v) v v ⟨.refl v, .refl v⟩ (Nat.le_refl _)
noncomputable def repF (suc : Nat → List Nat) (v : Nat) : Nat := Classical.choose (rep_ex suc v)
theorem repF_spec (suc : Nat → List Nat) (v : Nat) : (Rh suc v (repF suc v) ∧ Rh suc (repF suc v) v) ∧ ∀ z, Rh suc v z ∧ Rh suc z v → repF suc v ≤ z := Classical.choose_spec (rep_ex suc v)
theorem repF_eq {suc : Nat → List Nat} {i j : Nat} : repF suc i = repF suc j ↔ Rh suc i j ∧ Rh suc j i := by
  obtain ⟨h1, h2⟩ := repF_spec suc i;obtain ⟨h3, h4⟩ := repF_spec suc j
  constructor
  · intro e;rw [← e] at h3;exact ⟨h1.1.trans h3.2, h3.1.trans h1.2⟩
  · intro h;exact Nat.le_antisymm (h2 _ ⟨h.1.trans h3.1, h3.2.trans h.2⟩) (h4 _ ⟨h.2.trans h1.1, h1.2.trans h.1⟩)
theorem scc_ex (n : Nat) (suc : Nat → List Nat) : ∃ of cnt, SccOf n suc of cnt := by
  let reps := (List.range n).filter fun v => decide (repF suc v = v)
  have hnd : reps.Nodup := List.nodup_range.filter _;have hle : ∀ v, repF suc v ≤ v := fun v => (repF_spec suc v).2 v ⟨.refl v, .refl v⟩;have hid : ∀ v, repF suc (repF suc v) = repF suc v := fun v => repF_eq.2 ⟨(repF_spec suc v).1.2, (repF_spec suc v).1.1⟩;have hm : ∀ v, v < n → repF suc v ∈ reps := fun v hv => List.mem_filter.2 ⟨List.mem_range.2 (Nat.lt_of_le_of_lt (hle v) hv), decide_eq_true (hid v)⟩;refine ⟨fun v => reps.idxOf (repF suc v), reps.length, ⟨fun v hv => List.idxOf_lt_length_of_mem (hm v hv), fun i j hi hj => ?_, fun c hc => ?_, ?_⟩⟩
  · rw [← repF_eq]
    constructor
    · intro e;have e1 := List.getElem_idxOf (List.idxOf_lt_length_of_mem (hm i hi));have e2 := List.getElem_idxOf (List.idxOf_lt_length_of_mem (hm j hj));rw [← e1, ← e2];simp only [e]
    · intro e; show reps.idxOf (repF suc i) = reps.idxOf (repF suc j); rw [e]
  · obtain ⟨h1, h2⟩ := List.mem_filter.1 (List.getElem_mem hc);refine ⟨reps[c], List.mem_range.1 h1, ?_⟩;show reps.idxOf (repF suc reps[c]) = c;rw [of_decide_eq_true h2];exact hnd.idxOf_getElem c hc
  · have := List.length_filter_le (fun v => decide (repF suc v = v)) (List.range n);rw [List.length_range] at this;exact this
theorem cn_ex (g : List (List Nat)) (hg : GT g) : CN g.length (sucs g) (noC g) (cntC g) := by
  obtain ⟨of, cnt, h⟩ := scc_ex g.length (sucs g);exact (conC_of hg.gb (con_cn hg h)).1
end Go.Proofs.Ytgdppeobgefogaa
