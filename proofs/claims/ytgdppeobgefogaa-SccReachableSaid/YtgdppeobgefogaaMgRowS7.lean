/- Proved here: sccReachable_holds, the given statement Rows.SccReachableSaid: the law girolaw31.SccReachable returns true and does not panic, at every input that the statement speaks of; no condition beyond the statement. -/
/- 'girolaw31.SccReachable': for every input the law returns true, and each argument reads behind the call as it read before. No condition. -/
import Derived.Test.YtgdppeobgefogaaMg19
namespace Go.Proofs.Ytgdppeobgefogaa
open Go.RowKit
def badN (n : Nat) (x : Int) : Prop := ¬ (0 ≤ x ∧ x < (n : Int))
theorem bad_drop {n : Nat} {l : List Int} {k : Nat} (h : ∃ x ∈ l.drop k, badN n x) : k < l.length := by
  obtain ⟨x, hx, _⟩ := h;rcases Nat.lt_or_ge k l.length with h | h
  · exact h
  · rw [List.drop_eq_nil_of_le h] at hx; cases hx
theorem bad_next {n : Nat} {l : List Int} {k : Nat} (hk : k < l.length) (h : ∃ x ∈ l.drop k, badN n x) (hg : ¬ badN n l[k]) : ∃ x ∈ l.drop (k + 1), badN n x := by
  obtain ⟨x, hx, hb⟩ := h;rw [List.drop_eq_getElem_cons hk] at hx;rcases List.mem_cons.1 hx with e | hx
  · exact (hg (e ▸ hb)).elim
  · exact ⟨x, hx, hb⟩
set_option maxRecDepth 100000 in
theorem reachableE_p (g : List (List Nat)) (hg : GT g) (fr : List Int) (hfl : fr.length ≤ 1000000) (hb : ∃ x ∈ fr, badN g.length x) : PCalls Try.prog 23 [.d (grD g), .d (intsD fr)] (.tup [.sl (some true) [], intD 2]) := by
  have hn := hg.gb.n;refine Zbe Try.func23 rfl rfl Try.ntmps23 rfl rfl rfl fun F hF => (Zag (Zae (goAs rfl rfl (goAs rfl rfl (Zaf (Zag ?_))))));refine Zag (Zae (goMv rfl rfl (Zab.go (Zbr (check_n g hg) rfl rfl) (goAs rfl rfl (Zaf (Zag (Zae (goMv rfl rfl ?_))))))))
  first | refine Zab.go (st_neq rfl rfl rfl) ?_ | refine Zab.go (ZbB rfl rfl rfl) ?_ | refine Zab.go (ZbD rfl rfl rfl) ?_ | refine Zab.go (st_neqB Try.underlying26 rfl rfl rfl) ?_ | refine Zab.go (st_neqP Try.underlying26 rfl rfl rfl) ?_ | refine Zab.go (st_neqN Try.underlying26 rfl rfl) ?_ | refine Zab.go (st_neqF Try.underlying26 rfl rfl rfl) ?_ | refine Zab.go (st_neqFN Try.underlying26 rfl rfl) ?_
  refine Zaf (Zbs rfl (decide_eq_false (by decide)) ?_);refine Zay (Zag (Zae (goMv rfl rfl (Zab.go (Zax rfl (List.length_map ..) Try.underlying32 rfl) (Zat.go (ZbC 2 sl48 rfl rfl rfl (by omega) zd4 rfl rfl rfl rfl) (Zat.go (st_alloc 1 zl48 rfl rfl rfl rfl) (Zat.go (st_storeP rfl rfl rfl rfl rfl rfl rfl sz48) (Zaf ?_))))))));refine Zag (Zae (Zat.go (st_alloc 3 zl25 rfl rfl rfl rfl) (Zaf (Zag (Zae (Zab.go (st_makeFunc rfl rfl) (goAs rfl rfl (Zaf ?_))))))));refine Zag (Zag (Zae (goMv rfl rfl (Zab.go (Zax rfl (List.length_map ..) Try.underlying25 rfl) (goMv rfl rfl (Zaf (Zaw (ZaT (α := Nat) (fun k => ⟨95, [(0, .d (grD g)), (29, (.d (intsD fr))), (30, (.d (natD fr.length))), (31, (.d (natD k)))], []⟩) (fun k => ∃ x ∈ fr.drop k, badN g.length x) (fun k => fr.length - k) (0) ((by rw [List.drop_zero]; exact hb)) (Zan hF [] rfl rfl ⟨rfl, rfl, rfl, rfl, trivial⟩) ?_))))))));intro k hk;refine Zag (Zae ?_)
  first | refine Zab.go (ZaU rfl rfl rfl) ?_ | refine Zab.go (ZaN rfl rfl rfl) ?_
  refine Zaf (Zag (a_true rfl (decide_eq_true (Int.ofNat_lt.2 (bad_drop hk))) (Zay (Zag (Zaw (Zag ?_))))));have hkl := bad_drop hk;refine Zae ?_
  first | refine Zab.go (Zam (k) rfl rfl (rfl) (getI hkl) Try.underlying25 rfl sz3 rfl) ?_ | refine Zab.go (Zal (k) rfl rfl (rfl) (getI hkl) rfl Try.underlying25 sz3 rfl) ?_
  first | refine Zab.go (Zah rfl rfl on3 rfl) ?_ | refine Zab.go (Zak rfl rfl rfl on3 rfl) ?_ | refine Zab.go (Zaj rfl rfl (rfl) rfl on3 rfl) ?_
  refine goAs rfl rfl (Zaf (Zag (Zae (goMv rfl rfl ?_))))
  first | refine Zab.go (ZaU rfl rfl rfl) ?_ | refine Zab.go (ZaN rfl rfl rfl) ?_
  refine goMv rfl rfl ?_
  first | refine Zbt 37 rfl (fun h37 => ?_) (fun h37 => ?_) | refine Zbn 37 rfl (fun h37 => ?_) (fun h37 => ?_)
  · refine ZaE rfl rfl rfl rfl (ZaE rfl rfl rfl rfl (ZaE rfl rfl rfl rfl (ZaE rfl rfl rfl rfl ?_)));refine Zab.go (Za2 rfl rfl rfl rfl) (Zaf (a_true rfl rfl (Zag (Zae (goAs rfl rfl (goAs rfl rfl (Zaf (Zbh ?_))))))));exact ⟨_, [], [], ZaX rfl, rfl, rfl, rfl, rfl⟩
  · refine ZaF rfl rfl rfl ?_;refine goMv rfl rfl (ZaF rfl rfl rfl (goMv rfl rfl (ZaF rfl rfl rfl (Zab.go (Zax rfl (List.length_map ..) Try.underlying32 rfl) (ZaF rfl rfl rfl (Zab.go (st_geq rfl rfl rfl) (Zab.go (Za0 rfl rfl rfl rfl) (Zaf ?_))))))))
    first | refine ZaP rfl (fun h42 => ?_) (fun h42 => ?_) | refine ZaG rfl (fun h42 => ?_) (fun h42 => ?_)
    · refine Zag (Zae (goAs rfl rfl (goAs rfl rfl (Zaf (Zbh ?_)))));exact ⟨_, [], [], ZaX rfl, rfl, rfl, rfl, rfl⟩
    · refine Zay (Zae (Zab.go (ZaI rfl rfl (IntWalk.i64_in _ (by omega)) rfl) (goMv rfl rfl (Zaf ?_))));exact ⟨k + 1, bad_next hkl hk (fun hb => hb ⟨by omega, by omega⟩), by omega, Zan hF [] rfl (rfl) ⟨rfl, rfl, rfl, rfl, trivial⟩⟩
theorem toN_map {n : Nat} {l : List Int} (h : ∀ x ∈ l, ¬ badN n x) : l.map intD = (l.map Int.toNat).map natD ∧ ∀ x ∈ l.map Int.toNat, x < n := by
  have h1 : ∀ x ∈ l, 0 ≤ x ∧ x < (n : Int) := fun x hx => Classical.not_not.1 (h x hx);refine ⟨?_, fun x hx => ?_⟩
  · rw [List.map_map];exact List.map_congr_left fun x hx => congrArg intD (Int.toNat_of_nonneg (h1 x hx).1).symm
  · obtain ⟨y, hy, rfl⟩ := List.mem_map.1 hx;have := h1 y hy; omega
set_option maxRecDepth 100000 in
theorem lawS7_a (g0 : List (List Int)) (fr0 : List Int) (hg : g0.length ≤ 140737488355328) (hl : ∀ l ∈ g0, l.length ≤ 140737488355328) (hf : fr0.length ≤ 140737488355328) (hv : ∀ x ∈ fr0.take (min fr0.length 20), ¬ badN (smlG g0).length x) : PCalls Try.prog 7 [.d (grI g0), .d (intsD fr0)] (boolD true) := by
  have hgt := smlG_gt g0;have hsm := small_p g0 hg hl
  obtain ⟨g, hge⟩ : ∃ g, smlG g0 = g := ⟨_, rfl⟩
  obtain ⟨k, hk⟩ : ∃ k, min fr0.length 20 = k := ⟨_, rfl⟩
  rw [hge] at hgt hsm hv;rw [hk] at hv;obtain ⟨hE, hlt⟩ := toN_map hv;have hfl : ((fr0.take k).map Int.toNat).length ≤ 20 := by rw [List.length_map, List.length_take]; omega
  obtain ⟨fr, hfr⟩ : ∃ fr, (fr0.take k).map Int.toNat = fr := ⟨_, rfl⟩
  rw [hfr] at hE hlt hfl;have hn := hgt.gb.n;have htl := trueS_len (fun v => decide (RchS g fr v)) g.length;refine Zbe Try.func7 rfl rfl Try.ntmps7 rfl rfl rfl fun F hF => (Zag (Zae (goAs rfl rfl (Zaf (Zag (Zag (Zae (Zab.go (Zbr (known_p) rfl rfl) ?_))))))))
  first | refine Zab.go (st_notP rfl rfl) ?_ | refine Zab.go (st_not rfl rfl) ?_
  refine Zaf ?_;refine Zbs rfl (rfl) (Zay (Zag (Zae (goMv rfl rfl (Zab.go (Zbr (hsm) rfl rfl) (goAs rfl rfl (Zaf (Zag ?_))))))));refine Zae (goMv rfl rfl (goMv rfl rfl (Zab.go (Zax rfl (List.length_map ..) Try.underlying25 rfl) (Zab.go (st_min rfl rfl ((show (if (20 : Int) < (fr0.length : Int) then (20 : Int) else (fr0.length : Int)) = (k : Int) by split <;> omega)) rfl) (Zab.go (st_sliceHiM (fr0) (k) rfl rfl rfl (rfl) (by omega) Try.underlying25 sz3 (fun _ => rfl) rfl) (goAs rfl rfl (Zaf (Zag ?_))))))));rw [hE];refine Zae (goMv rfl rfl (goMv rfl rfl (Zab.go (Zbr (reachable_p g hgt fr (by omega) hlt) rfl rfl) (goMv rfl rfl ?_))))
  first | refine Zab.go (ZaS rfl rfl rfl) ?_ | refine Zab.go (ZaW rfl rfl rfl) ?_
  first | refine Zab.go (ZaS rfl rfl rfl) ?_ | refine Zab.go (ZaW rfl rfl rfl) ?_
  refine goAs rfl rfl ?_;refine goAs rfl rfl (Zaf (Zag (Zag (Zae (goAs rfl rfl (Zaf (Zaw (ZaT (α := Nat) (fun j => ⟨60, [(0, (.d (grD g))), (1, (.d (natsD fr))), (5, (.d (natsD (trueS (fun v => decide (RchS g fr v)) g.length)))), (6, (.d (intD 0))), (7, (.d (natD j)))], []⟩) (fun j => j ≤ fr.length) (fun j => fr.length - j) (0) (Nat.zero_le _) (Zan hF [] rfl rfl ⟨rfl, rfl, rfl, rfl, rfl, trivial⟩) ?_))))))));intro j hj;refine Zag (Zag (Zae (goMv rfl rfl (goMv rfl rfl (Zab.go (Zax rfl (List.length_map ..) Try.underlying25 rfl) ?_)))))
  first | refine Zab.go (ZaU rfl rfl rfl) ?_ | refine Zab.go (ZaN rfl rfl rfl) ?_
  refine Zaf ?_
  first | refine ZaP rfl (fun h26 => ?_) (fun h26 => ?_) | refine ZaG rfl (fun h26 => ?_) (fun h26 => ?_)
  · refine Zay (Zag (Zaw (Zag ?_)));have hjl : j < fr.length := Za4 h26;have hfj := hlt _ (Za9 hjl);refine Zae (goMv rfl rfl (goMv rfl rfl ?_))
    first | refine Zab.go (Zam (j) rfl rfl (rfl) (getn hjl) Try.underlying25 rfl sz3 rfl) ?_ | refine Zab.go (Zal (j) rfl rfl (rfl) (getn hjl) rfl Try.underlying25 sz3 rfl) ?_
    first | refine Zab.go (Zah rfl rfl on3 rfl) ?_ | refine Zab.go (Zak rfl rfl rfl on3 rfl) ?_ | refine Zab.go (Zaj rfl rfl (rfl) rfl on3 rfl) ?_
    first | refine Zab.go (ZaU rfl rfl rfl) ?_ | refine Zab.go (ZaN rfl rfl rfl) ?_
    refine goMv rfl rfl (o_setF 34 rfl (decide_eq_false (by omega)) (ZaF rfl rfl rfl (goMv rfl rfl (ZaF rfl rfl rfl (goMv rfl rfl (ZaF rfl rfl rfl ?_))))))
    first | refine Zab.go (Zam (j) rfl rfl (rfl) (getn hjl) Try.underlying25 rfl sz3 rfl) ?_ | refine Zab.go (Zal (j) rfl rfl (rfl) (getn hjl) rfl Try.underlying25 sz3 rfl) ?_
    refine ZaF rfl rfl rfl ?_
    first | refine Zab.go (Zah rfl rfl on3 rfl) ?_ | refine Zab.go (Zak rfl rfl rfl on3 rfl) ?_ | refine Zab.go (Zaj rfl rfl (rfl) rfl on3 rfl) ?_
    refine ZaF rfl rfl rfl (goMv rfl rfl (ZaF rfl rfl rfl (Zab.go (Zax rfl (List.length_map ..) Try.underlying22 rfl) (ZaF rfl rfl rfl (Zab.go (st_geq rfl rfl rfl) ?_)))));refine Zab.go (Za0 rfl rfl rfl rfl) (Zaf (Zbs rfl (decide_eq_false (by omega)) (Zay (Zae (goMv rfl rfl (Zab.go (ZaI rfl rfl (IntWalk.i64_in _ (by omega)) rfl) (goAs rfl rfl (Zaf ?_))))))));exact ⟨j + 1, hjl, by omega, Zan hF [] rfl (rfl) ⟨rfl, rfl, rfl, rfl, rfl, trivial⟩⟩
  · refine ZaJ (Zag (Zae (goMv rfl rfl ?_)))
    first | refine Zab.go (Zbu rfl rfl rfl) ?_ | refine Zab.go (Za7 rfl rfl rfl) ?_ | refine Zab.go (Zbg rfl rfl rfl) ?_ | refine Zab.go (Zbl Try.underlying26 rfl rfl rfl) ?_ | refine Zab.go (Zbi Try.underlying26 rfl rfl rfl) ?_ | refine Zab.go (Zbj Try.underlying26 rfl rfl) ?_ | refine Zab.go (Zbk Try.underlying26 rfl rfl rfl) ?_ | refine Zab.go (Za8 Try.underlying26 rfl rfl) ?_
    refine goMv rfl rfl (o_setT 52 rfl (rfl) (ZaF rfl rfl rfl (goMv rfl rfl (ZaF rfl rfl rfl (goMv rfl rfl (ZaF rfl rfl rfl (goMv rfl rfl (ZaF rfl rfl rfl ?_))))))));refine Zab.go (Zbr (refreach_p g hgt.gb fr (by omega) hlt) rfl rfl) (ZaF rfl rfl rfl (Zab.go (Zbr (reflist_p g.length (fun v => decide (RchS g fr v)) (by omega)) rfl rfl) (ZaF rfl rfl rfl (Zab.go (Zbr (eqN_p _ _ (by omega) (by omega)) rfl rfl) (Zab.go (Za2 rfl rfl rfl rfl) (goAs rfl rfl (Zaf (Zbh ?_))))))));exact ⟨_, [], [], ZaX rfl, rfl, rfl, by first | rfl | (rw [decide_eq_true rfl]), rfl⟩
set_option maxRecDepth 100000 in
theorem lawS7_b (g0 : List (List Int)) (fr0 : List Int) (hg : g0.length ≤ 140737488355328) (hl : ∀ l ∈ g0, l.length ≤ 140737488355328) (hf : fr0.length ≤ 140737488355328) (hv : ∃ x ∈ fr0.take (min fr0.length 20), badN (smlG g0).length x) : PCalls Try.prog 7 [.d (grI g0), .d (intsD fr0)] (boolD true) := by
  have hgt := smlG_gt g0;have hsm := small_p g0 hg hl
  obtain ⟨g, hge⟩ : ∃ g, smlG g0 = g := ⟨_, rfl⟩
  obtain ⟨k, hk⟩ : ∃ k, min fr0.length 20 = k := ⟨_, rfl⟩
  rw [hge] at hgt hsm hv;rw [hk] at hv;have hfl : (fr0.take k).length ≤ 20 := by rw [List.length_take]; omega
  have hn := hgt.gb.n;refine Zbe Try.func7 rfl rfl Try.ntmps7 rfl rfl rfl fun F hF => (Zag (Zae (goAs rfl rfl (Zaf (Zag (Zag (Zae (Zab.go (Zbr (known_p) rfl rfl) ?_))))))))
  first | refine Zab.go (st_notP rfl rfl) ?_ | refine Zab.go (st_not rfl rfl) ?_
  refine Zaf ?_;refine Zbs rfl (rfl) (Zay (Zag (Zae (goMv rfl rfl (Zab.go (Zbr (hsm) rfl rfl) (goAs rfl rfl (Zaf (Zag ?_))))))));refine Zae (goMv rfl rfl (goMv rfl rfl (Zab.go (Zax rfl (List.length_map ..) Try.underlying25 rfl) (Zab.go (st_min rfl rfl ((show (if (20 : Int) < (fr0.length : Int) then (20 : Int) else (fr0.length : Int)) = (k : Int) by split <;> omega)) rfl) (Zab.go (st_sliceHiM (fr0) (k) rfl rfl rfl (rfl) (by omega) Try.underlying25 sz3 (fun _ => rfl) rfl) (goAs rfl rfl (Zaf (Zag ?_))))))))
  obtain ⟨fr, hfr⟩ : ∃ fr, fr0.take k = fr := ⟨_, rfl⟩
  rw [hfr] at hv hfl ⊢;refine Zae (goMv rfl rfl (goMv rfl rfl (Zab.go (Zbr (reachableE_p g hgt fr (by omega) hv) rfl rfl) (goMv rfl rfl ?_))))
  first | refine Zab.go (ZaS rfl rfl rfl) ?_ | refine Zab.go (ZaW rfl rfl rfl) ?_
  first | refine Zab.go (ZaS rfl rfl rfl) ?_ | refine Zab.go (ZaW rfl rfl rfl) ?_
  refine goAs rfl rfl ?_;refine goAs rfl rfl (Zaf (Zag (Zag (Zae (goAs rfl rfl (Zaf (Zaw (ZaT (α := Nat) (fun j => ⟨60, [(0, (.d (grD g))), (1, (.d (intsD fr))), (5, (.d (.sl (some true) []))), (6, (.d (intD 2))), (7, (.d (natD j)))], []⟩) (fun j => ∃ x ∈ fr.drop j, badN g.length x) (fun j => fr.length - j) (0) ((by rw [List.drop_zero]; exact hv)) (Zan hF [] rfl rfl ⟨rfl, rfl, rfl, rfl, rfl, trivial⟩) ?_))))))));intro j hj;refine Zag (Zag (Zae (goMv rfl rfl (goMv rfl rfl (Zab.go (Zax rfl (List.length_map ..) Try.underlying25 rfl) ?_)))))
  first | refine Zab.go (ZaU rfl rfl rfl) ?_ | refine Zab.go (ZaN rfl rfl rfl) ?_
  refine Zaf (a_true rfl (decide_eq_true (Int.ofNat_lt.2 (bad_drop hj))) (Zay (Zag (Zaw (Zag ?_)))));have hjl := bad_drop hj;refine Zae (goMv rfl rfl (goMv rfl rfl ?_))
  first | refine Zab.go (Zam (j) rfl rfl (rfl) (getI hjl) Try.underlying25 rfl sz3 rfl) ?_ | refine Zab.go (Zal (j) rfl rfl (rfl) (getI hjl) rfl Try.underlying25 sz3 rfl) ?_
  first | refine Zab.go (Zah rfl rfl on3 rfl) ?_ | refine Zab.go (Zak rfl rfl rfl on3 rfl) ?_ | refine Zab.go (Zaj rfl rfl (rfl) rfl on3 rfl) ?_
  first | refine Zab.go (ZaU rfl rfl rfl) ?_ | refine Zab.go (ZaN rfl rfl rfl) ?_
  refine goMv rfl rfl ?_
  first | refine Zbt 34 rfl (fun h34 => ?_) (fun h34 => ?_) | refine Zbn 34 rfl (fun h34 => ?_) (fun h34 => ?_)
  · refine ZaE rfl rfl rfl rfl (ZaE rfl rfl rfl rfl (ZaE rfl rfl rfl rfl (ZaE rfl rfl rfl rfl ?_)));refine ZaE rfl rfl rfl rfl (ZaE rfl rfl rfl rfl (ZaE rfl rfl rfl rfl (Zab.go (Za2 rfl rfl rfl rfl) (Zaf (a_true rfl rfl (Zag (Zae (goMv rfl rfl ?_))))))))
    first | refine Zab.go (Zbu rfl rfl rfl) ?_ | refine Zab.go (Za7 rfl rfl rfl) ?_ | refine Zab.go (Zbg rfl rfl rfl) ?_ | refine Zab.go (Zbl Try.underlying26 rfl rfl rfl) ?_ | refine Zab.go (Zbi Try.underlying26 rfl rfl rfl) ?_ | refine Zab.go (Zbj Try.underlying26 rfl rfl) ?_ | refine Zab.go (Zbk Try.underlying26 rfl rfl rfl) ?_ | refine Zab.go (Za8 Try.underlying26 rfl rfl) ?_
    refine goMv rfl rfl (o_setT 45 rfl (rfl) (ZaF rfl rfl rfl (goMv rfl rfl (ZaF rfl rfl rfl ?_))))
    first | refine Zab.go (ZaY rfl Try.underlying25 rfl) ?_ | refine Zab.go (Zax rfl rfl Try.underlying25 rfl) ?_ | refine Zab.go (Zbb rfl Try.underlying25 rfl) ?_ | refine Zab.go (Za3 rfl Try.underlying25 rfl) ?_ | refine Zab.go (Zbd rfl Try.underlying25 rfl) ?_ | refine Zab.go (Zba rfl Try.underlying25 rfl) ?_
    refine ZaF rfl rfl rfl ?_
    first | refine Zab.go (Zbu rfl rfl rfl) ?_ | refine Zab.go (Za7 rfl rfl rfl) ?_ | refine Zab.go (Zbg rfl rfl rfl) ?_ | refine Zab.go (Zbl Try.underlying3 rfl rfl rfl) ?_ | refine Zab.go (Zbi Try.underlying3 rfl rfl rfl) ?_ | refine Zab.go (Zbj Try.underlying3 rfl rfl) ?_ | refine Zab.go (Zbk Try.underlying3 rfl rfl rfl) ?_ | refine Zab.go (Za8 Try.underlying3 rfl rfl) ?_
    refine Zab.go (Za2 rfl rfl rfl rfl) (goAs rfl rfl (Zaf (Zbh ?_)));exact ⟨_, [], [], ZaX rfl, rfl, rfl, by first | rfl | (rw [decide_eq_true rfl]), rfl⟩
  · refine ZaF rfl rfl rfl (goMv rfl rfl (ZaF rfl rfl rfl (goMv rfl rfl (ZaF rfl rfl rfl ?_))))
    first | refine Zab.go (Zam (j) rfl rfl (rfl) (getI hjl) Try.underlying25 rfl sz3 rfl) ?_ | refine Zab.go (Zal (j) rfl rfl (rfl) (getI hjl) rfl Try.underlying25 sz3 rfl) ?_
    refine ZaF rfl rfl rfl ?_
    first | refine Zab.go (Zah rfl rfl on3 rfl) ?_ | refine Zab.go (Zak rfl rfl rfl on3 rfl) ?_ | refine Zab.go (Zaj rfl rfl (rfl) rfl on3 rfl) ?_
    refine ZaF rfl rfl rfl (goMv rfl rfl (ZaF rfl rfl rfl (Zab.go (Zax rfl (List.length_map ..) Try.underlying22 rfl) (ZaF rfl rfl rfl (Zab.go (st_geq rfl rfl rfl) (Zab.go (Za0 rfl rfl rfl rfl) (Zaf ?_)))))))
    first | refine ZaP rfl (fun h42 => ?_) (fun h42 => ?_) | refine ZaG rfl (fun h42 => ?_) (fun h42 => ?_)
    · refine Zag (Zae (goMv rfl rfl ?_))
      first | refine Zab.go (Zbu rfl rfl rfl) ?_ | refine Zab.go (Za7 rfl rfl rfl) ?_ | refine Zab.go (Zbg rfl rfl rfl) ?_ | refine Zab.go (Zbl Try.underlying26 rfl rfl rfl) ?_ | refine Zab.go (Zbi Try.underlying26 rfl rfl rfl) ?_ | refine Zab.go (Zbj Try.underlying26 rfl rfl) ?_ | refine Zab.go (Zbk Try.underlying26 rfl rfl rfl) ?_ | refine Zab.go (Za8 Try.underlying26 rfl rfl) ?_
      refine goMv rfl rfl (o_setT 45 rfl (rfl) (ZaF rfl rfl rfl (goMv rfl rfl (ZaF rfl rfl rfl ?_))))
      first | refine Zab.go (ZaY rfl Try.underlying25 rfl) ?_ | refine Zab.go (Zax rfl rfl Try.underlying25 rfl) ?_ | refine Zab.go (Zbb rfl Try.underlying25 rfl) ?_ | refine Zab.go (Za3 rfl Try.underlying25 rfl) ?_ | refine Zab.go (Zbd rfl Try.underlying25 rfl) ?_ | refine Zab.go (Zba rfl Try.underlying25 rfl) ?_
      refine ZaF rfl rfl rfl ?_
      first | refine Zab.go (Zbu rfl rfl rfl) ?_ | refine Zab.go (Za7 rfl rfl rfl) ?_ | refine Zab.go (Zbg rfl rfl rfl) ?_ | refine Zab.go (Zbl Try.underlying3 rfl rfl rfl) ?_ | refine Zab.go (Zbi Try.underlying3 rfl rfl rfl) ?_ | refine Zab.go (Zbj Try.underlying3 rfl rfl) ?_ | refine Zab.go (Zbk Try.underlying3 rfl rfl rfl) ?_ | refine Zab.go (Za8 Try.underlying3 rfl rfl) ?_
      refine Zab.go (Za2 rfl rfl rfl rfl) (goAs rfl rfl (Zaf (Zbh ?_)));exact ⟨_, [], [], ZaX rfl, rfl, rfl, by first | rfl | (rw [decide_eq_true rfl]), rfl⟩
    · refine Zay (Zae (goMv rfl rfl (Zab.go (ZaI rfl rfl (IntWalk.i64_in _ (by omega)) rfl) (goAs rfl rfl (Zaf ?_)))));exact ⟨j + 1, bad_next hjl hj (fun hb => hb ⟨by omega, by omega⟩), by omega, Zan hF [] rfl (rfl) ⟨rfl, rfl, rfl, rfl, rfl, trivial⟩⟩
theorem lawS7_p (g0 : List (List Int)) (fr0 : List Int) (hg : g0.length ≤ 140737488355328) (hl : ∀ l ∈ g0, l.length ≤ 140737488355328) (hf : fr0.length ≤ 140737488355328) : PCalls Try.prog 7 [.d (grI g0), .d (intsD fr0)] (boolD true) := by
  by_cases hv : ∃ x ∈ fr0.take (min fr0.length 20), badN (smlG g0).length x
  · exact lawS7_b g0 fr0 hg hl hf hv
  · exact lawS7_a g0 fr0 hg hl hf fun x hx hb => hv ⟨x, hx, hb⟩
end Go.Proofs.Ytgdppeobgefogaa
namespace Go.Proofs.Ytgdppeobgefogaa
open Go.ChangeShapes Go.WideShapes Go.ChangeAt Go.RowKit

set_option maxRecDepth 100000 in
theorem sccReachable_lifted (os : Os) (started : os.Started) (H : Type) (enc : TypeId × Value → H) :
    ReturnsInHanded {} Try.checked os 7 .any (Rows.sccReachableSpec.pre6 enc Try.prog Try.f7 Rows.sccReachableRow.domain false) (Rows.sccReachableSpec.post enc Try.prog Try.f7 false true false false) := by
  refine returnsInHanded_of_change_sized (C := Try.checked) Try.own started (by kernel_rfl) Try.func7
    (ChangeSpec.witness6 (enc := enc) (C := Try.checked) false ⟨#[], #[.slice none 0 0, .slice none 0 0], []⟩ 8 (by kernel_rfl) (by kernel_rfl) (by kernel_rfl) (by kernel_rfl)) ?_
  intro W base args ds gs before hval0 hW _ hwt _;have hW' := hW;obtain ⟨p, q, hA0, hV, rfl, _, _⟩ := hW;have hlt : ∀ x ∈ p ++ q, x.block < W.heap.size := fun x hx => hW'.lt x hx;have hA : DataW.TrodAll enc Try.prog W 0 (fun _ => true) true Try.f7.params.toList args.toList ds p := hA0;rw [Try.params7] at hA;obtain ⟨v0, v1, d0, d1, p0, p1, rfl, rfl, rfl, h0, h1⟩ := trodAll_two hA;obtain ⟨rfl, rfl⟩ := trodVars_none hV;have hwz : ∀ n ∈ DataW.weightsEach Try.prog ([22, 25] : List TypeId) ([d0, d1]), n ≤ reachBytes := fun n hn => of_decide_eq_true (List.all_eq_true.1 hwt n (by rw [Try.params7]; exact hn));have hval : ∀ (j : Nat) t v, Try.f7.params[j]? = some t → (#[v0, v1] : Array Value)[j]? = some v → Value.okWide Try.prog W .any base t v := hval0;rw [Try.params7] at hval;obtain ⟨n0, g0⟩ := h0;have hv0 : v0.oneCell' = true := by obtain ⟨_, _, _, e⟩ := okWide_slice Try.underlying22 (hval 0 22 v0 rfl rfl); rw [e]; rfl
  obtain ⟨a0, q0, _, r0⟩ := (openSl Try.underlying22 (by kernel_rfl) (by omega) (b := 24) (by kernel_rfl) (openSl Try.underlying25 (by kernel_rfl) (by omega) (b := 8) (by kernel_rfl) (openInt Try.underlying3))) _ _ _ g0 (fun x hx => hlt x (by simp [hx])) (fun n hn => hwz n (DataW.weights_mem_each (j := 0) (t := 22) rfl rfl n hn));obtain ⟨n1, g1⟩ := h1;have hv1 : v1.oneCell' = true := by obtain ⟨_, _, _, e⟩ := okWide_slice Try.underlying25 (hval 1 25 v1 rfl rfl); rw [e]; rfl
  obtain ⟨a1, q1, _, r1⟩ := (openSl Try.underlying25 (by kernel_rfl) (by omega) (b := 8) (by kernel_rfl) (openInt Try.underlying3)) _ _ _ g1 (fun x hx => hlt x (by simp [hx])) (fun n hn => hwz n (DataW.weights_mem_each (j := 1) (t := 25) rfl rfl n hn));refine (law_calls (lawS7_p a0 a1 (by have := q0.2; omega) (fun x hx => by have := (q0.1 x hx).2; omega) (by have := q1.2; omega)) (vs := [v0, v1]) rfl (fun i a v ha hv => ?_)).mono fun e W' ⟨he, hb⟩ => ?_
  · rcases i with _ | _ | i
    · simp at ha hv; subst ha hv; exact RepC.arg1 rfl rfl hv0 r0
    · simp at ha hv; subst ha hv; exact RepC.arg1 rfl rfl hv1 r1
    · simp at ha
  subst he;exact ⟨_, rfl, law_post (tb := 4) Try.laidOut (by kernel_rfl) rfl rfl Try.underlying4 hW' ⟨rfl, rfl, rfl⟩ hb⟩

theorem sccReachable_holds : Rows.SccReachableSaid :=
  OpenClaim.holds_of_wide 7 Try.f7 rfl rfl rfl rfl rfl rfl rfl ⟨rfl, rfl, rfl, rfl, rfl⟩ rfl rfl rfl rfl rfl (by kernel_rfl) Try.func7 (by kernel_rfl)
    (of_decide_eq_true (by kernel_rfl)) (by unfold Func.isWrapper; first | (rw [if_pos (by decide +kernel)]; kernel_rfl) | (rw [if_neg (by decide +kernel)]; exact ⟨rfl, rfl⟩))
    (fun os started H enc _ => sccReachable_lifted os started H enc)
#print axioms sccReachable_holds

end Go.Proofs.Ytgdppeobgefogaa
