/- Layer 30: the example of the chapter. -/
import Derived.Test.YtneihdahboilnaaGreatMg27
namespace Go.Proofs.YtneihdahboilnaaGreat
open Go.RowKit

deriving instance DecidableEq for Exc
theorem Exc.eq_iff {x y : Exc} : x = y ↔ x.id = y.id ∧ x.re = y.re ∧ x.r = y.r ∧ x.by_ = y.by_ := by cases x; cases y; simp
def excC (e : Exc) : List Value := [.int .i64 e.id, .int .i64 e.re, .int .i64 e.r.k, strV e.r.acc.o, .int .i64 e.r.acc.k, strV e.r.acc.a, strV e.r.f, strV e.r.t, .int .i64 e.by_]
abbrev excT : List TypeDesc := [.int .i64, .int .i64, .int .i64, .string, .int .i64, .string, .string, .string, .int .i64]
theorem exc_eqC (a b : Exc) : eqCells (excC a) (excC b) = decide (a = b) := by
  simp only [excC, eqCells, eqCell_int, eqCell_str, Exc.eq_iff, Rsc.eq_iff, Acc.eq_iff, Bool.and_true, Bool.decide_and, Bool.and_assoc]
theorem exc_plain (a : Exc) : PlainAre excT (excC a) := ZbL rfl (ZbL rfl (ZbL rfl (ZbL trivial (ZbL rfl (ZbL trivial (ZbL trivial (ZbL trivial (ZbL rfl plain_nil))))))))
def rcK (a : UInt8) : Rsc := ⟨0, accQ [a], [], []⟩
def nmK : List (List UInt8) := [[65], [66], [67]]
def roK3 : List Roo := [⟨rcK 65, 0⟩, ⟨rcK 66, 0⟩, ⟨rcK 67, 0⟩]
def itK3 : List Itm := [payJ 0 [65] [66] 5, payJ 1 [66] [67] 5, payJ 2 [67] [65] 5]
def itK4 : Itm := payJ 3 [65] [66] 1
def pKA : Prb := ⟨roK3, itK3⟩
def pKB : Prb := ⟨roK3, itK3 ++ [itK4]⟩
theorem pKA_E : prbE pKA = 0 := by decide
theorem pKB_E : prbE pKB = 0 := by decide
theorem pKA_F : FewP pKA := ⟨by decide, by decide, by decide⟩
theorem pKB_F : FewP pKB := ⟨by decide, by decide, by decide⟩
theorem pKA_R : rosS pKA = roK3 := (rosS_one pKA_E (List.Perm.refl _) (by decide)).symm
theorem pKB_R : rosS pKB = roK3 := (rosS_one pKB_E (List.Perm.refl _) (by decide)).symm
theorem pKA_O : ordP pKA = itK3 := by decide
theorem pKB_O : ordP pKB = itK3 ++ [itK4] := by decide
theorem pKA_S : largeS pKA = [0, 1, 2] := by
  unfold largeS explS;rw [pKA_R, pKA_O];exact of_decide_eq_true (by kernel_rfl)
theorem pKB_S : largeS pKB = [0, 1, 2] := by
  unfold largeS explS;rw [pKB_R, pKB_O];exact of_decide_eq_true (by kernel_rfl)
theorem pKB_X : (explS pKB).1 = [⟨3, 0, rcK 65, -1⟩] := by
  unfold explS;rw [pKB_R, pKB_O];exact of_decide_eq_true (by kernel_rfl)
theorem pKA_G : ixG (groN (netS (rosS pKA) (ordP pKA) fun _ => true)) (List.range (ordP pKA).length) = -1 := by
  rw [pKA_R, pKA_O];exact of_decide_eq_true (by kernel_rfl)
theorem kn_l : ACalls Tryz.prog 15 [.d (prbD pKA)] [] fun r H' => r = .tup [.own 961 0 3, .d (intD 0)] ∧ H' = [(961, [.rowD 3 1 (([0, 1, 2] : List Int).map intD)])] := by
  have h := largest_own pKA pKA_F pKA_E;rw [pKA_S] at h; exact h
theorem kn_g : PCalls Tryz.prog 25 [.d (prbD pKA)] (.tup [.sl (some true) [], intD 0]) := gross_none pKA pKA_F pKA_E pKA_G
theorem kn_x : PCalls Tryz.prog 21 [.d (prbD pKB)] (.tup [.sl none (([0, 1, 2] : List Int).map intD), .sl none (([⟨3, 0, rcK 65, -1⟩] : List Exc).map excD), intD 0]) := by
  have h := explain_ok pKB pKB_F pKB_E;rw [pKB_X] at h;rw [show onIds (ordP pKB) (explS pKB).2 (ordP pKB).length = [0, 1, 2] from pKB_S] at h;exact h
theorem snap_prb {hp : Hp} {bl : List Nat} {f n k : Nat} {t : TypeId} (p : Prb) (ho : hget hp f 0 = some (.rowD t k (p.it.map itmD))) (hb : memB f bl = true) (hn : n = p.it.length) : Snap hp bl (.agg [.d (.sl none (p.ro.map rooD)), .own f 0 n]) (prbD p) := by
  refine .agg rfl (by simp [D.one]) fun j a c ha hc => ?_
  match j, ha, hc with
  | 0, ha, hc => injection ha with ha; injection hc with hc; subst ha hc; exact .d
  | 1, ha, hc => injection ha with ha; injection hc with hc; subst ha hc; exact .own ho hb (by rw [List.length_map]; omega) (List.take_of_length_le (by rw [List.length_map]; omega))
set_option maxRecDepth 100000 in
theorem Zc5 : PCalls Tryz.prog 14 [] (.raw (.bool true)) := by
  refine ZaI Tryz.func14 rfl rfl Tryz.ntmps14 rfl rfl rfl fun F hF => (Zag (Zab (Zaa.go (Zad rfl rfl) (Zaf (Zag ?_)))));refine Zab (Zam.go (ZaX 1 zl35 rfl rfl rfl rfl) (Zaf (Zag (Zab (Zam.go (ZaJ 2 sl87 rfl rfl rfl rfl rfl rfl rfl rfl) (ZcF (emb := strD) 11 2 nmK rfl rfl rfl rfl rfl rfl rfl (Zaa.go (Zad rfl rfl) (Zaf ?_))))))));refine Zag (Zag (Zci 1 0 0 901 sl32 rfl rfl rfl rfl rfl rfl rfl (Zci 1 0 1 902 sl33 rfl rfl rfl rfl rfl rfl rfl (Zab (Zaa.go (Zad rfl rfl) (Zaf (Zat (ZaO (α := Nat × List Roo × List Itm) (fun q => ⟨109, [(1, (.ptr 1 0 0)), (2, (.d (.sl none (nmK.map strD)))), (3, (.d (intD (q.1 : Int))))], [(902, [.rowD 91 6 (q.2.2.map itmD)]), (901, [.rowD 82 7 (q.2.1.map rooD)]), (1, [.blk 35 [.own 901 0 q.2.1.length, .own 902 0 q.2.2.length]])]⟩) (fun q => q.1 ≤ 3 ∧ q.2.1 = roK3.take q.1 ∧ q.2.2 = itK3.take q.1) (fun q => 3 - q.1) ((0, [], [])) (⟨by decide, rfl, rfl⟩) (Zaw hF [902, 901, 1] rfl rfl ⟨rfl, rfl, rfl, trivial⟩) ?_))))))));rintro ⟨k, ro, its⟩ ⟨hk0, hro, hits⟩;dsimp only at hk0 hro hits ⊢;refine Zag (Zag (Zab (Zaa.go (Zac rfl rfl) (Zaa.go (ZaM rfl rfl rfl) (Zaf (ZaK rfl (fun h13 => ?_) (fun h13 => ?_)))))))
  · have hk1 : k < nmK.length := by have h := ZaP (b := 3) h13; exact h
    refine Zas (Zag (Zat (Zag ?_)));have hk2 : (k + 1) % 3 < nmK.length := Nat.mod_lt _ (by decide);have hro1 : ro ++ [⟨⟨0, accQ nmK[k], [], []⟩, 0⟩] = roK3.take (k + 1) := by subst hro; match k, hk1 with | 0, _ => rfl | 1, _ => rfl | 2, _ => rfl
    have hit1 : its ++ [payJ (k : Int) nmK[k] nmK[(k + 1) % 3] 5] = itK3.take (k + 1) := by subst hits; match k, hk1 with | 0, _ => rfl | 1, _ => rfl | 2, _ => rfl
    have hrl : ro.length ≤ 3 := by rw [hro]; simp [roK3]; omega
    have hil : its.length ≤ 3 := by rw [hits]; simp [itK3]; omega
    have hpy := pay30_p (k : Int) 5 nmK[k] nmK[(k + 1) % 3] (by decide) (by decide);refine Za2 [[], [0], [], [], [2, 3], [2, 3, 4], [2, 3, 4, 5], [2, 3, 4, 5, 6], [2, 3, 4, 5, 6, 7], [2, 3, 4, 5, 6, 7, 8], [0, 1, 2, 3, 4, 5, 6, 7, 8, 9], [0, 1, 2, 3, 4, 5, 6, 7, 8, 9, 10], [0, 1, 2, 3, 4, 5, 6, 7, 8, 9, 10, 11]] mixed rfl (dws (Zah [1] [] rfl rfl (fun _ => Zae (Zai rfl fi35_0 rfl rfl rfl)) (Zao [16] rfl rfl (fun _ => Zae (Zaj rfl rfl rfl on32 rfl)) (Zah [2] [] rfl rfl (fun _ => Zae (Zac rfl rfl)) (Zah [3] [] rfl rfl (fun _ => Zae (Zac rfl rfl)) (Zah [18, 19] [] rfl rfl (fun _ => Zae (Zay (k) rfl rfl (rfl) (getm hk1) Tryz.underlying87 rfl sz9 rfl)) ?_))))));refine Zah [20] [] rfl rfl (fun _ => Zae (Zaz rfl rfl on9 rfl)) (Zah [21] [] rfl rfl (fun _ => Zae (Za5 zl49 pl49 rfl rfl rfl)) (Zah [22] [] rfl rfl (fun _ => Zae (Za5 zl51 pl51 rfl rfl rfl)) (Zah [23] [] rfl rfl (fun _ => Zae (Za5 zl82 pl82 rfl rfl rfl)) (Zbt [24] [50] [(25, _)] rfl rfl (fun _ => Zba (ZaJ 50 sl32 rfl rfl rfl rfl rfl rfl rfl rfl)) (.inr ⟨25, _, rfl, rfl, rfl, rfl, rfl⟩) rfl rfl rfl rfl rfl (dwc 10 rfl rfl rfl (dw1 11 rfl rfl (Zam.go (Zbd (ro) ([⟨⟨0, accQ nmK[k], [], []⟩, 0⟩]) rfl rfl rfl rfl rfl rfl rfl rfl sl32 (by simp only [List.length_singleton]; omega) rfl rfl rfl rfl) (Zaf ⟨rfl, ?_⟩))))))));refine dw1 12 rfl rfl (Zaa.go (Zai rfl fi35_0 rfl rfl rfl) (Zaf ⟨rfl, ?_⟩));refine dw1 13 rfl rfl (Zam.go (ZaF rfl rfl rfl rfl rfl rfl rfl sz32) (Zaf ⟨rfl, ?_⟩));refine dwe (Za2 [[], [0], [], [], [], [3, 4], [3, 4, 5], [], [], [8], [8, 9], [7, 8, 9, 10], [7, 8, 9, 10, 11], [2, 3, 4, 5, 6, 7, 8, 9, 10, 11, 12], [2, 3, 4, 5, 6, 7, 8, 9, 10, 11, 12, 13], [0, 1, 2, 3, 4, 5, 6, 7, 8, 9, 10, 11, 12, 13, 14], [0, 1, 2, 3, 4, 5, 6, 7, 8, 9, 10, 11, 12, 13, 14, 15], [0, 1, 2, 3, 4, 5, 6, 7, 8, 9, 10, 11, 12, 13, 14, 15, 16]] mixed rfl (dws (Zah [1] [] rfl rfl (fun _ => Zae (Zai rfl fi35_1 rfl rfl rfl)) ?_)));refine Zao [28] rfl rfl (fun _ => Zae (Zaj rfl rfl rfl on33 rfl)) (Zah [3] [] rfl rfl (fun _ => Zae (Zac rfl rfl)) (Zah [2] [] rfl rfl (fun _ => Zae (Zac rfl rfl)) (Zah [3] [] rfl rfl (fun _ => Zae (Zac rfl rfl)) (Zah [31, 32] [] rfl rfl (fun _ => Zae (Zay (k) rfl rfl (rfl) (getm hk1) Tryz.underlying87 rfl sz9 rfl)) (Zah [33] [] rfl rfl (fun _ => Zae (Zaz rfl rfl on9 rfl)) (Zah [2] [] rfl rfl (fun _ => Zae (Zac rfl rfl)) (Zah [3] [] rfl rfl (fun _ => Zae (Zac rfl rfl)) (Zah [36] [] rfl rfl (fun _ => Zae (ZaG rfl rfl (wrapS (k + 1) (by omega)) rfl)) ?_))))))));refine Zah [37] [] rfl rfl (fun _ => Zae (st_rem rfl rfl (by omega) (by rfl) rfl)) (Zah [35, 38] [] rfl rfl (fun _ => Zae (Zay ((k + 1) % 3) rfl rfl (rfl) (getm hk2) Tryz.underlying87 rfl sz9 rfl)) (Zah [39] [] rfl rfl (fun _ => Zae (Zaz rfl rfl on9 rfl)) (Zah [30, 34, 40] [] rfl rfl (fun _ => Zae (Zan (hpy) rfl rfl)) (Zbt [41] [51] [(42, _)] rfl rfl (fun _ => Zba (ZaJ 51 sl33 rfl rfl rfl rfl rfl rfl rfl rfl)) (.inr ⟨42, _, rfl, rfl, rfl, rfl, rfl⟩) rfl rfl rfl rfl rfl (dwc 15 rfl rfl rfl (dw1 16 rfl rfl (Zam.go (Zbd (its) ([payJ (k : Int) nmK[k] nmK[(k + 1) % 3] 5]) rfl rfl rfl rfl rfl rfl rfl rfl sl33 (by simp only [List.length_singleton]; omega) rfl rfl rfl rfl) (Zaf ⟨rfl, ?_⟩))))))));refine dw1 17 rfl rfl (Zaa.go (Zai rfl fi35_1 rfl rfl rfl) (Zaf ⟨rfl, ?_⟩));refine dw1 18 rfl rfl (Zam.go (ZaF rfl rfl rfl rfl rfl rfl rfl sz33) (Zaf ⟨rfl, ?_⟩));refine dwe (Zab (Zaa.go (Zac rfl rfl) (Zaa.go (ZaG rfl rfl (wrapS (k + 1) (by omega)) rfl) (Zaa.go (Zad rfl rfl) (Zaf ?_)))));exact ⟨(k + 1, _, _), ⟨by show k + 1 ≤ 3; omega, hro1, hit1⟩, by show 3 - (k + 1) < 3 - k; omega, Zaw hF [902, 901, 1] rfl (rfl) ⟨rfl, rfl, rfl, trivial⟩⟩
  · refine ZaQ (Zag ?_);have hk3 : k = 3 := by have h := h13; omega
    subst hk3;have hro3 : ro = roK3 := hro;have hit3 : its = itK3 := hits;subst hro3 hit3;refine ZbE (ys := roK3.map rooD) 1 0 0 901 rfl rfl rfl (by decide) rfl rfl rfl rfl rfl rfl rfl (Zab (Zaa.go (Zap rfl rfl rw35 rfl rfl rfl) (Zam.go (st_callB [902] kn_l (by exact ⟨.inr ⟨_, _, rfl, snap_prb pKA rfl rfl rfl, rfl⟩, trivial⟩) [961] ⟨rfl, trivial⟩ rfl rfl rfl rfl rfl rfl rfl (flat_ints _ _ _) rfl rfl) (Zaa.go (Zac rfl rfl) ?_))));refine Zaa.go (Zbi rfl rfl rfl) (Zaa.go (Zbi rfl rfl rfl) (Zaa.go (Zad rfl rfl) (Zaa.go (Zad rfl rfl) (Zaf (Zag (ZbC (emb := intD) 4 961 [0, 1, 2] rfl rfl rfl rfl rfl rfl rfl (Zab (Zaa.go (Zap rfl rfl rw35 rfl rfl rfl) ?_))))))));refine Zaa.go (st_callPB [902] kn_g (by exact ⟨.inr ⟨_, _, rfl, snap_prb pKA rfl rfl rfl, rfl⟩, trivial⟩) rfl rfl) (Zaa.go (Zac rfl rfl) (Zaa.go (ZaA rfl rfl rfl) (Zaa.go (ZaA rfl rfl rfl) (Zaa.go (Zad rfl rfl) (Zaa.go (Zad rfl rfl) (Zaf (Zag (Za2 [[], [0], [], [2], [0, 1, 2, 3], [0, 1, 2, 3, 4], [0, 1, 2, 3, 4, 5]] mixed rfl ?_))))))));refine dws (Zah [1] [] rfl rfl (fun _ => Zae (Zai rfl fi35_1 rfl rfl rfl)) (Zao [55] rfl rfl (fun _ => Zae (Zaj rfl rfl rfl on33 rfl)) (Zah [] [902] rfl rfl (fun _ => Zae (Zan (pay30_p 3 1 [65] [66] (by decide) (by decide)) rfl rfl)) (Zbt [57] [52] [(58, _)] rfl rfl (fun _ => Zba (ZaJ 52 sl33 rfl rfl rfl rfl rfl rfl rfl rfl)) (.inr ⟨58, _, rfl, rfl, rfl, rfl, rfl⟩) rfl rfl rfl rfl rfl (dwc 4 rfl rfl rfl (dw1 5 rfl rfl (Zam.go (Zbd (itK3) ([itK4]) rfl rfl rfl rfl rfl rfl rfl rfl sl33 (by decide) rfl rfl rfl rfl) (Zaf ⟨rfl, ?_⟩))))))));refine dw1 6 rfl rfl (Zaa.go (Zai rfl fi35_1 rfl rfl rfl) (Zaf ⟨rfl, ?_⟩));refine dw1 7 rfl rfl (Zam.go (ZaF rfl rfl rfl rfl rfl rfl rfl sz33) (Zaf ⟨rfl, ?_⟩));refine dwe ?_;refine Zag (ZbE (ys := (itK3 ++ [itK4]).map itmD) 1 0 1 902 rfl rfl rfl (by decide) rfl rfl rfl rfl rfl rfl rfl (Zab (Zaa.go (Zap rfl rfl rw35 rfl rfl rfl) (Zaa.go (Zan (kn_x) rfl rfl) (Zaa.go (Zac rfl rfl) (Zaa.go (ZaA rfl rfl rfl) (Zaa.go (ZaA rfl rfl rfl) (Zaa.go (ZaA rfl rfl rfl) ?_))))))));refine Zaa.go (Zad rfl rfl) (Zaa.go (Zad rfl rfl) (Zaa.go (Zad rfl rfl) (Zaf (Zag (Za2 [[], [0], [0, 1], [0, 1, 2], [0, 1, 2], [0, 1, 2, 3, 4], [0, 1, 2, 3, 4, 5], [0, 1, 2, 3, 4, 5, 6], [0, 1, 2, 3, 4, 5, 6, 7], [0, 1, 2, 3, 4, 5, 6, 7, 8], [0, 1, 2, 3, 4, 5, 6, 7, 8, 9], [0, 1, 2, 3, 4, 5, 6, 7, 8, 9, 10], [0, 1, 2, 3, 4, 5, 6, 7, 8, 9, 10, 11], [0, 1, 2, 3, 4, 5, 6, 7, 8, 9, 10, 11, 12], [0, 1, 2, 3, 4, 5, 6, 7, 8, 9, 10, 11, 12, 13], [0, 1, 2, 3, 4, 5, 6, 7, 8, 9, 10, 11, 12, 13, 14], [0, 1, 2, 3, 4, 5, 6, 7, 8, 9, 10, 11, 12, 13, 14, 15], [0, 1, 2, 3, 4, 5, 6, 7, 8, 9, 10, 11, 12, 13, 14, 15, 16], [0, 1, 2, 3, 4, 5, 6, 7, 8, 9, 10, 11, 12, 13, 14, 15, 16, 17], [0, 1, 2, 3, 4, 5, 6, 7, 8, 9, 10, 11, 12, 13, 14, 15, 16, 17, 18], [0, 1, 2, 3, 4, 5, 6, 7, 8, 9, 10, 11, 12, 13, 14, 15, 16, 17, 18, 19], [0, 1, 2, 3, 4, 5, 6, 7, 8, 9, 10, 11, 12, 13, 14, 15, 16, 17, 18, 19, 20], [0, 1, 2, 3, 4, 5, 6, 7, 8, 9, 10, 11, 12, 13, 14, 15, 16, 17, 18, 19, 20], [0, 1, 2, 3, 4, 5, 6, 7, 8, 9, 10, 11, 12, 13, 14, 15, 16, 17, 18, 19, 20, 21, 22], [0, 1, 2, 3, 4, 5, 6, 7, 8, 9, 10, 11, 12, 13, 14, 15, 16, 17, 18, 19, 20, 21, 22, 23], [0, 1, 2, 3, 4, 5, 6, 7, 8, 9, 10, 11, 12, 13, 14, 15, 16, 17, 18, 19, 20, 21, 22, 23, 24], [0, 1, 2, 3, 4, 5, 6, 7, 8, 9, 10, 11, 12, 13, 14, 15, 16, 17, 18, 19, 20, 21, 22, 23, 24, 25], [0, 1, 2, 3, 4, 5, 6, 7, 8, 9, 10, 11, 12, 13, 14, 15, 16, 17, 18, 19, 20, 21, 22, 23, 24, 25, 26], [0, 1, 2, 3, 4, 5, 6, 7, 8, 9, 10, 11, 12, 13, 14, 15, 16, 17, 18, 19, 20, 21, 22, 23, 24, 25, 26, 27], [0, 1, 2, 3, 4, 5, 6, 7, 8, 9, 10, 11, 12, 13, 14, 15, 16, 17, 18, 19, 20, 21, 22, 23, 24, 25, 26, 27, 28], [0, 1, 2, 3, 4, 5, 6, 7, 8, 9, 10, 11, 12, 13, 14, 15, 16, 17, 18, 19, 20, 21, 22, 23, 24, 25, 26, 27, 28, 29], [0, 1, 2, 3, 4, 5, 6, 7, 8, 9, 10, 11, 12, 13, 14, 15, 16, 17, 18, 19, 20, 21, 22, 23, 24, 25, 26, 27, 28, 29, 30], [0, 1, 2, 3, 4, 5, 6, 7, 8, 9, 10, 11, 12, 13, 14, 15, 16, 17, 18, 19, 20, 21, 22, 23, 24, 25, 26, 27, 28, 29, 30, 31], [0, 1, 2, 3, 4, 5, 6, 7, 8, 9, 10, 11, 12, 13, 14, 15, 16, 17, 18, 19, 20, 21, 22, 23, 24, 25, 26, 27, 28, 29, 30, 31, 32], [0, 1, 2, 3, 4, 5, 6, 7, 8, 9, 10, 11, 12, 13, 14, 15, 16, 17, 18, 19, 20, 21, 22, 23, 24, 25, 26, 27, 28, 29, 30], [0, 1, 2, 3, 4, 5, 6, 7, 8, 9, 10, 11, 12, 13, 14, 15, 16, 17, 18, 19, 20, 21, 22, 23, 24, 25, 26, 27, 28, 29, 30, 34], [0, 1, 2, 3, 4, 5, 6, 7, 8, 9, 10, 11, 12, 13, 14, 15, 16, 17, 18, 19, 20, 21, 22, 23, 24, 25, 26, 27, 28, 29, 30, 34, 35], [0, 1, 2, 3, 4, 5, 6, 7, 8, 9, 10, 11, 12, 13, 14, 15, 16, 17, 18, 19, 20, 21, 22, 23, 24, 25, 26, 27, 28, 29, 30, 34, 35, 36], [0, 1, 2, 3, 4, 5, 6, 7, 8, 9, 10, 11, 12, 13, 14, 15, 16, 17, 18, 19, 20, 21, 22, 23, 24, 25, 26, 27, 28, 29, 30, 34, 35, 36, 37], [0, 1, 2, 3, 4, 5, 6, 7, 8, 9, 10, 11, 12, 13, 14, 15, 16, 17, 18, 19, 20, 21, 22, 23, 24, 25, 26, 27, 28, 29, 30, 34, 35, 36, 37, 38], [0, 1, 2, 3, 4, 5, 6, 7, 8, 9, 10, 11, 12, 13, 14, 15, 16, 17, 18, 19, 20, 21, 22, 23, 24, 25, 26, 27, 28, 29, 30, 31, 32, 33, 34, 35, 36, 37, 38, 39], [0, 1, 2, 3, 4, 5, 6, 7, 8, 9, 10, 11, 12, 13, 14, 15, 16, 17, 18, 19, 20, 21, 22, 23, 24, 25, 26, 27, 28, 29, 30, 31, 32, 33, 34, 35, 36, 37, 38, 39, 40], [0, 1, 2, 3, 4, 5, 6, 7, 8, 9, 10, 11, 12, 13, 14, 15, 16, 17, 18, 19, 20, 21, 22, 23, 24, 25, 26, 27, 28, 29, 30, 31, 32, 33, 34, 35, 36, 37, 38, 39, 40, 41]] mixed rfl (dw1 1 rfl rfl (Zaa.go (Zac rfl rfl) (Zaf ⟨rfl, ?_⟩))))))));refine dw1 2 rfl rfl (Zaa.go (Zbc rfl rfl rfl) (Zaf ⟨rfl, ?_⟩));refine dw1 3 rfl rfl (Zaa.go (Zac rfl rfl) (Za9 69 rfl (rfl) (Zaf ⟨rfl, ?_⟩)));refine dws (Zah [4, 69] [] rfl rfl (fun _ => ZaV rfl rfl rfl (Zac rfl rfl)) (Zbt [69] [53] [(71, _)] rfl rfl (fun _ => ge_run rfl rfl rfl (ZaJ 53 sl28 rfl rfl rfl rfl rfl rfl rfl rfl)) (.inr ⟨71, _, rfl, rfl, rfl, rfl, rfl⟩) rfl rfl rfl rfl rfl (dwc 5 rfl rfl rfl (dw1 6 rfl rfl (Zal rfl rfl rfl (Zaa.go (st_callPB [53] (same30_p [0, 1, 2] [0, 1, 2] (by decide) (by decide)) (by exact ⟨.inl rfl, .inr ⟨_, _, rfl, .own rfl rfl (by decide) rfl, rfl⟩, trivial⟩) rfl rfl) (Zaf ⟨rfl, ?_⟩)))))));refine dw1 7 rfl rfl (Zaa.go (ZaB rfl rfl rfl rfl) (Zaf ⟨rfl, ?_⟩));refine dw1 8 rfl rfl (Zaa.go (Zac rfl rfl) (Za9 74 rfl (rfl) (Zaf ⟨rfl, ?_⟩)));refine dw1 9 rfl rfl (Zal rfl rfl rfl (Zaa.go (Zac rfl rfl) (Zaf ⟨rfl, ?_⟩)));refine dw1 10 rfl rfl (Zal rfl rfl rfl (Zaa.go (Zbc rfl rfl rfl) (Zaf ⟨rfl, ?_⟩)));refine dw1 11 rfl rfl (Zaa.go (ZaB rfl rfl rfl rfl) (Zaf ⟨rfl, ?_⟩));refine dw1 12 rfl rfl (Zaa.go (Zac rfl rfl) (Za9 78 rfl (rfl) (Zaf ⟨rfl, ?_⟩)));refine dw1 13 rfl rfl (Zal rfl rfl rfl (Zaa.go (Zac rfl rfl) (Zaf ⟨rfl, ?_⟩)));refine dw1 14 rfl rfl (Zal rfl rfl rfl (Zaa.go (ZbI rfl rfl Tryz.underlying28 rfl) (Zaf ⟨rfl, ?_⟩)));refine dw1 15 rfl rfl (Zal rfl rfl rfl (Zaa.go (Zbc rfl rfl rfl) (Zaf ⟨rfl, ?_⟩)));refine dw1 16 rfl rfl (Zaa.go (ZaB rfl rfl rfl rfl) (Zaf ⟨rfl, ?_⟩));refine dw1 17 rfl rfl (Zaa.go (Zac rfl rfl) (Za9 83 rfl (rfl) (Zaf ⟨rfl, ?_⟩)));refine dw1 18 rfl rfl (Zal rfl rfl rfl (Zaa.go (Zac rfl rfl) (Zaf ⟨rfl, ?_⟩)));refine dw1 19 rfl rfl (Zal rfl rfl rfl (Zaa.go (Zbc rfl rfl rfl) (Zaf ⟨rfl, ?_⟩)));refine dw1 20 rfl rfl (Zaa.go (ZaB rfl rfl rfl rfl) (Zaf ⟨rfl, ?_⟩));refine dw1 21 rfl rfl (Zaa.go (Zac rfl rfl) (Za9 87 rfl (rfl) (Zaf ⟨rfl, ?_⟩)));refine dws (Zah [8, 87] [] rfl rfl (fun _ => ZaV rfl rfl rfl (Zac rfl rfl)) (Zbt [87] [54] [(89, _)] rfl rfl (fun _ => ge_run rfl rfl rfl (ZaJ 54 sl28 rfl rfl rfl rfl rfl rfl rfl rfl)) (.inr ⟨89, _, rfl, rfl, rfl, rfl, rfl⟩) rfl rfl rfl rfl rfl (dwc 23 rfl rfl rfl (dw1 24 rfl rfl (Zal rfl rfl rfl (Zaa.go (st_callPB [54] (same30_p [0, 1, 2] [0, 1, 2] (by decide) (by decide)) (by exact ⟨.inl rfl, .inr ⟨_, _, rfl, .own rfl rfl (by decide) rfl, rfl⟩, trivial⟩) rfl rfl) (Zaf ⟨rfl, ?_⟩)))))));refine dw1 25 rfl rfl (Zaa.go (ZaB rfl rfl rfl rfl) (Zaf ⟨rfl, ?_⟩));refine dw1 26 rfl rfl (Zaa.go (Zac rfl rfl) (Za9 92 rfl (rfl) (Zaf ⟨rfl, ?_⟩)));refine dw1 27 rfl rfl (Zal rfl rfl rfl (Zaa.go (Zac rfl rfl) (Zaf ⟨rfl, ?_⟩)));refine dw1 28 rfl rfl (Zal rfl rfl rfl (Zaa.go (ZaD rfl Tryz.underlying42 rfl) (Zaf ⟨rfl, ?_⟩)));refine dw1 29 rfl rfl (Zal rfl rfl rfl (Zaa.go (Zbc rfl rfl rfl) (Zaf ⟨rfl, ?_⟩)));refine dw1 30 rfl rfl (Zaa.go (ZaB rfl rfl rfl rfl) (Zaf ⟨rfl, ?_⟩));refine dw1 31 rfl rfl (Zaa.go (Zac rfl rfl) (Za9 97 rfl (rfl) (Zaf ⟨rfl, ?_⟩)));refine dws (Zah [9, 97] [] rfl rfl (fun _ => ZaV rfl rfl rfl (Zac rfl rfl)) (Zah [98, 97] [] rfl rfl (fun _ => ZaV rfl rfl rfl (Zay (0) rfl rfl (rfl) (rfl) Tryz.underlying42 rfl sz53 rfl)) (Zah [99, 97] [] rfl rfl (fun _ => ZaV rfl rfl rfl (ZaE rfl rfl rw53 rfl)) (Zah [1, 97] [] rfl rfl (fun _ => ZaV rfl rfl rfl (Zai rfl fi35_0 rfl rfl rfl)) (Zao [101, 97] rfl rfl (fun _ => ZaV rfl rfl rfl (Zaj rfl rfl rfl on32 rfl)) ?_)))));refine Zah [102, 97] [] rfl rfl (fun _ => ZaV rfl rfl rfl (Zay (0) rfl rfl (rfl) (rfl) Tryz.underlying32 rfl sz82 rfl)) (Zah [103, 97] [] rfl rfl (fun _ => ZaV rfl rfl rfl (Zax rfl fi82_0 rfl rfl rfl)) (Zah [104, 97] [] rfl rfl (fun _ => ZaV rfl rfl rfl (ZaE rfl rfl rw51 rfl)) (Zah [105, 97] [] rfl rfl (fun _ => ZaV rfl rfl rfl (Za5 zl53 pl53 rfl rfl rfl)) (dwc 40 rfl rfl rfl (dw1 41 rfl rfl (Zal rfl rfl rfl (Zaa.go (st_eqlSt (la := excC ⟨3, 0, rcK 65, -1⟩) (lb := excC ⟨3, 0, rcK 65, -1⟩) (ds := excT) (by kernel_rfl) (by kernel_rfl) (by kernel_rfl) rfl rfl rfl rfl (exc_plain _) (exc_plain _) (exc_eqC _ _) rfl) (Zaf ⟨rfl, ?_⟩))))))));refine dw1 42 rfl rfl (Zaa.go (ZaB rfl rfl rfl rfl) (Zaf ⟨rfl, ?_⟩));refine dw1 43 rfl rfl (Zaa.go (Zad rfl rfl) (Zaf ⟨rfl, ?_⟩));refine dwe (Zav ?_);exact ⟨_, [], [], Zaq rfl, rfl, rfl, by simp, rfl⟩
end Go.Proofs.YtneihdahboilnaaGreat
/- Layer 30: the largest set and the exclusions hold every item once. Plain laws. -/
namespace Go.Proofs.YtneihdahboilnaaGreat
open Go.RowKit

theorem ers_S (ros : List Roo) (its : List Itm) (on : Nat → Bool) : ersN (netS ros its on) = netS ros its on := by
  unfold ersN netS;dsimp only;rw [List.map_map, List.map_map]
  rfl
theorem cntOn_all (n : Nat) : cntOn n (fun _ => true) = n := by
  unfold cntOn;rw [List.filter_eq_self.2 fun _ _ => rfl, List.length_range]
theorem run_len {ros : List Roo} {its : List Itm} (hi : (its.map Itm.id).Nodup) : ∀ (f : Nat) (on : Nat → Bool), (runS ros its f on).1.length + cntOn its.length (runS ros its f on).2 = cntOn its.length on := by
  intro f
  induction f with
  | zero => intro on; show 0 + _ = _; rw [Nat.zero_add]; rfl
  | succ f ih =>
    intro on
    cases hn : nextN (netS ros its on) with
    | none => rw [run_none hn]; show 0 + _ = _; rw [Nat.zero_add]
    | some e =>
      obtain ⟨i, x, hx, hon, hid⟩ := next_on hn;obtain ⟨hiN, hoi, hit⟩ := S_nd_at (ers_S ros its on) hx;rw [hon] at hoi;have hil : i < (its.map Itm.id).length := by rw [List.length_map]; exact hiN
      have hei : (its.map Itm.id)[i] = e.id := by rw [hid, hit, List.getElem_map, ZaT itm0 hiN]
      rw [run_some hn, ← hei, idx_nodup hi hil];have h1 := ih (setOff on i);have h2 := cntOn_off hiN hoi.symm;show (runS ros its f (setOff on i)).1.length + 1 + cntOn its.length (runS ros its f (setOff on i)).2 = cntOn its.length on;omega
theorem large_cnt (p : Prb) : (largeS p).length = cntOn (ordP p).length (explS p).2 := by
  unfold largeS onIds cntOn;rw [List.length_map]
theorem expl_len {p : Prb} (hE : prbE p = 0) : (explS p).1.length + (largeS p).length = p.it.length := by
  have h1 : ordP p = sortO p.it := if_pos hE;have h := run_len (ros := rosS p) (ord_ids hE) (ordP p).length fun _ => true;rw [cntOn_all] at h;rw [large_cnt];unfold explS;rw [h, h1, Zcb]
theorem large_filter {p : Prb} (hE : prbE p = 0) : largeS p = ((ordP p).map Itm.id).filter fun x => decide (x ∈ largeS p) := onIds_filter (ord_ids hE) _
theorem Zcv {p : Prb} (hE : prbE p = 0) : (largeS p).length ≤ p.it.length := by have := expl_len hE; omega
end Go.Proofs.YtneihdahboilnaaGreat
/- Layer 30: feasible sets of items, and what is left after the largest one has settled. Plain laws. -/
namespace Go.Proofs.YtneihdahboilnaaGreat
open Go.RowKit

theorem Zcs {α β : Type} (f : α → β) (q : β → Bool) : ∀ l : List α, (l.map f).filter q = (l.filter fun a => q (f a)).map f
  | [] => rfl
  | a :: l => by
    rw [List.map_cons, List.filter_cons, List.filter_cons, Zcs f q l]
    split <;> rfl
structure Chg (R : Int → Int → Prop) (l Y : List Roo) : Prop where
  len : Y.length = l.length
  at_ : ∀ (j : Nat) x y, l[j]? = some x → Y[j]? = some y → y.r = x.r ∧ -4 * Mx ≤ y.n ∧ y.n ≤ 4 * Mx ∧ R x.n y.n
theorem Chg.set {R : Int → Int → Prop} {l Y : List Roo} (h : Chg R l Y) {k : Nat} (hk : k < Y.length) {n : Int} (h1 : -4 * Mx ≤ n ∧ n ≤ 4 * Mx) (h2 : ∀ x, R x Y[k].n → R x n) : Chg R l (Y.set k ⟨Y[k].r, n⟩) :=
  ⟨by rw [List.length_set]; exact h.len, fun j x y hx hy => by
    rw [List.getElem?_set] at hy
    split at hy
    · rename_i e; subst e
      first | (rw [if_pos hk] at hy; injection hy with hy; subst hy) | (injection hy with hy; subst hy)
      have := h.at_ k x _ hx (List.getElem?_eq_getElem hk);exact ⟨this.1, h1.1, h1.2, h2 _ this.2.2.2⟩
    · exact h.at_ j x y hx hy⟩
theorem Chg.map {R : Int → Int → Prop} {l Y : List Roo} (h : Chg R l Y) : Y.map Roo.r = l.map Roo.r := by
  refine List.ext_getElem (by rw [List.length_map, List.length_map, h.len]) fun j h1 h2 => ?_;rw [List.length_map] at h1 h2;rw [List.getElem_map, List.getElem_map];exact (h.at_ j _ _ (List.getElem?_eq_getElem h2) (List.getElem?_eq_getElem h1)).1
theorem Chg.mem {R : Int → Int → Prop} {l Y : List Roo} (h : Chg R l Y) : ∀ y ∈ Y, ∃ x ∈ l, y.r = x.r ∧ -4 * Mx ≤ y.n ∧ y.n ≤ 4 * Mx ∧ R x.n y.n := fun y hy => by
  obtain ⟨j, hj, rfl⟩ := List.mem_iff_getElem.1 hy;have hj' : j < l.length := by rw [← h.len]; exact hj
  exact ⟨l[j], List.getElem_mem hj', h.at_ j _ _ (List.getElem?_eq_getElem hj') (List.getElem?_eq_getElem hj)⟩
theorem mx_v : Mx = 1000000000000000 := rfl
theorem Chg.b {R : Int → Int → Prop} {l Y : List Roo} (h : Chg R l Y) {k : Nat} (hk : k < Y.length) : -4000000000000000 ≤ Y[k].n ∧ Y[k].n ≤ 4000000000000000 := by
  obtain ⟨x, _, _, h2, h3, _⟩ := h.mem _ (List.getElem_mem hk);rw [mx_v] at h2 h3;exact ⟨by omega, by omega⟩
theorem after_in {l : List Itm} (h : afterE l = 0) : ∀ i ∈ l, ∀ x ∈ i.af, x ∈ l.map Itm.id := fun i hi x hx => by
  have := ZbG.1 h i hi;unfold fErr at this
  split at this
  · cases this
  · rename_i hn
    refine Classical.byContradiction fun hc => hn (List.any_eq_true.2 ⟨x, hx, ?_⟩);unfold notIn; rw [decide_eq_false hc]; rfl
def befQ (i : Int) (q : List Int) : List Int := if i ∈ q then q.takeWhile fun a => decide (a ≠ i) else []
theorem blkR_none {its : List Itm} {l : List Int} {id : Int} {x : Roo} : blkR its l id x = none ↔ ∀ a ∈ befQ id (qIds its x.r), a ∈ l := by
  unfold blkR befQ
  split
  · rw [Option.map_eq_none_iff, List.find?_eq_none];exact ⟨fun h a ha => by have := h a ha; simpa using this, fun h a ha => by have := h a ha; simpa using this⟩
  · simp
theorem blk_iff {p : Prb} {l : List Int} {id : Int} : blockR p l id = none ↔ (∀ x ∈ p.ro, ∀ a ∈ befQ id (qIds (sortO p.it) x.r), a ∈ l) ∧ ∀ a ∈ (itmOf p id).af, a ∈ l := by
  have h1 : (rosS p).findSome? (blkR (sortO p.it) l id) = none ↔ ∀ x ∈ p.ro, ∀ a ∈ befQ id (qIds (sortO p.it) x.r), a ∈ l := by
    rw [List.findSome?_eq_none_iff];exact ⟨fun h x hx => blkR_none.1 (h x ((ZcE p).mem_iff.2 hx)), fun h x hx => blkR_none.2 (h x ((ZcE p).mem_iff.1 hx))⟩
  have h2 : ((itmOf p id).af.find? fun a => decide (a ∉ l)) = none ↔ ∀ a ∈ (itmOf p id).af, a ∈ l := by
    rw [List.find?_eq_none];exact ⟨fun h a ha => by have := h a ha; simpa using this, fun h a ha => by have := h a ha; simpa using this⟩
  unfold blockR
  cases h3 : (rosS p).findSome? (blkR (sortO p.it) l id) with
  | some e =>
    constructor
    · intro h; cases h
    · intro h; have := h1.2 h.1; rw [h3] at this; cases this
  | none => 
    show (Option.map _ _) = none ↔ _;rw [Option.map_eq_none_iff, h2];exact ⟨fun h => ⟨h1.1 h3, h⟩, fun h => h.2⟩
theorem Zcq {p : Prb} {l : List Int} : feasR p l ↔ (∀ id ∈ l, (∀ x ∈ p.ro, ∀ a ∈ befQ id (qIds (sortO p.it) x.r), a ∈ l) ∧ ∀ a ∈ (itmOf p id).af, a ∈ l) ∧ ∀ x ∈ p.ro, 0 ≤ overL p.it x l := by
  unfold feasR;exact ⟨fun h => ⟨fun id hid => blk_iff.1 (h.1 id hid), fun x hx => by have := h.2 x hx; omega⟩, fun h => ⟨fun id hid => blk_iff.2 (h.1 id hid), fun x hx => by have := h.2 x hx; omega⟩⟩
theorem ord_sort {p : Prb} (hp : prbE p = 0) : ordP p = sortO p.it := if_pos hp
end Go.Proofs.YtneihdahboilnaaGreat
/- Layer 30: what is missing for settling all items together. -/
namespace Go.Proofs.YtneihdahboilnaaGreat
open Go.RowKit

section
variable {P : Program} {F : Fr} {s : AS} {d : Nat} {ty : TypeId} {pos : String} {aft : Array Edge} {g : Option (Nat × Bool)} {at_ : Array TypeId}
theorem st_callPN {f : FuncId} {fm b : Nat} {M : MF} {T : TypeId} {cs : List D} {x0 x1 : Operand} {y : D} {x : D} (hM : hfam s.hp fm = some [.multi M]) (hb : M b = some (.cells T cs)) (h1 : ∀ c ∈ cs, c.one = true)
    (hc : PCalls P f [.d (.ptr (.agg cs)), .d y] x) (hx0 : s.ev x0 = some (.d (pD b 0))) (hx1 : s.ev x1 = some (.d y)) (hfl : x.flat = true) (hd : Nat.blt d s.n = true) :
    Zaa P F ⟨some d, .call { callee := .value (.func f), args := #[x0, x1], argTypes := at_ }, ty, pos, aft, g⟩ s d (.d x) := by
  refine ⟨hd, rfl, fun ρ act w hs => ?_⟩;obtain ⟨fn, g1, g2, g3⟩ := hc.1;unfold Oper.wp;rw [show (#[x0, x1] : Array Operand) = [x0, x1].toArray from rfl, run_call g1 g2 g3, Oper.upon_enter];have h3 := hs.heap
  let O' : Nat → Prop := fun b' => F.O ρ s.hp b' ∧ b' ≠ b
  have r0 := hs.raw hx0
  have hptr : RepD w O' (.ptr (.agg cs)) (pV b 0) := by
    obtain ⟨_, vs, c1, c2, c3, c4⟩ := hs.cellsN hM hb;have hl : b < w.heap.size := (Array.getElem?_eq_some_iff.1 c1).1;show RepD _ _ (.ptr (.agg cs)) (.pointer (some ⟨b, 0, none⟩));refine RepD.ptr (x := .agg cs) (fun j => vs.getD j undef) hl (fun h => h.2 rfl) h1 (fun j c hj => ?_) fun j c hj => ?_
    · have hj' : j < vs.length := by rw [c2]; exact (List.getElem?_eq_some_iff.1 hj).1
      simp only [World.cell?, c1, Nat.zero_add]
      simp [hj']
    · have hj' : j < vs.length := by rw [c2]; exact (List.getElem?_eq_some_iff.1 hj).1
      have hv : vs[j]? = some vs[j] := List.getElem?_eq_getElem hj';have : vs.getD j undef = vs[j] := by rw [List.getD_eq_getElem?_getD, hv]; rfl
      rw [this];exact (c3 j c _ hj hv).mono (Nat.le_refl _) (fun _ _ _ => rfl) (fun _ _ h => h.1)
  have hy : RepD w O' y (act.eval x1) := by
    have := hs.ev hx1
    cases this with
    | d h => exact h.mono (Nat.le_refl _) (fun _ _ _ => rfl) (fun _ _ h => h.1)
  refine (pure_at hc (w := w) (O := O') (fun b' h => h3.ltO h.1) (vs := [act.eval x0, act.eval x1]) rfl (fun i a v ha hv => ?_)).mono fun e w' ⟨v, e1, e2, e3, e4, e5⟩ => ?_
  · match i, ha, hv with
    | 0, ha, hv => injection ha with ha; injection hv with hv; subst ha hv; rw [r0]; exact .d hptr
    | 1, ha, hv => injection ha with ha; injection hv with hv; subst ha hv; exact .d hy
  · subst e1;exact ⟨v, rfl, .d (e2.unflat hfl), hs.heap.stay ⟨e3.1, e3.2.1, e3.2.2.1, Nat.le_trans hs.heap.drawn e3.2.2.2⟩ e4 e5, e4, e5⟩
end
set_option maxRecDepth 100000 in
theorem aftP_p (y : Po) (c : Int) (hr : -1000000000000000000 ≤ y.room ∧ y.room ≤ 1000000000000000000) (hc : -2000000000000000000 ≤ c ∧ c ≤ 2000000000000000000) :
    PCalls Tryz.prog 57 [.d (.ptr (.agg (poC y))), .d (intD c)] (intD (aftP y c)) := by
  have hmx : (if 0 > y.room then 0 else y.room) = max y.room 0 := by rw [Int.max_def]; split <;> split <;> omega
  refine ZaI Tryz.func57 rfl rfl Tryz.ntmps57 rfl rfl rfl fun F hF => (Zag (Zab (Zaa.go (Zad rfl rfl) (Zaf (Zag (Zab (Zaa.go (Zac rfl rfl) ?_)))))));refine Zaa.go (Zch rfl rfl) (Zaa.go (Zau rfl Zcy rfl rfl rfl) (Zaa.go (Zaz rfl rfl on2 rfl) (Zaa.go (st_max rfl rfl (hmx) rfl) (Zaa.go (Zac rfl rfl) (Zaa.go (ZaG rfl rfl (IntWalk.i64_in _ (by omega)) rfl) (Zaa.go (Zad rfl rfl) (Zaf (Zav ?_))))))));exact ⟨_, [], [], Zaq rfl, rfl, rfl, rfl, rfl⟩
def needN (l : List Po) : List Roo := (l.filter fun y => ovP y y.sum).map fun y => ⟨y.r, 0 - aftP y y.sum⟩
def allL (p : Prb) : List Int := (sortO p.it).map Itm.id
def needS (p : Prb) : List Roo := ((rosS p).filter fun x => decide (overL p.it x (allL p) < 0)).map fun x => ⟨x.r, 0 - overL p.it x (allL p)⟩
theorem needN_take {l : List Po} {k : Nat} (hk : k < l.length) : needN (l.take (k + 1)) = needN (l.take k) ++ if ovP l[k] l[k].sum = true then [⟨l[k].r, 0 - aftP l[k] l[k].sum⟩] else [] := by
  unfold needN;rw [ZcC hk, List.map_append]
  split <;> rfl
theorem needN_len (l : List Po) : (needN l).length ≤ l.length := by
  unfold needN;rw [List.length_map];exact List.length_filter_le _ _
theorem needN_ers (l : List Po) : needN (l.map ersP) = needN l := by
  unfold needN;rw [Zcs, List.map_map]; rfl
theorem allL_on (p : Prb) : allL p = onIds (sortO p.it) (fun _ => true) (sortO p.it).length := by
  unfold allL onIds;rw [List.filter_eq_self.2 fun _ _ => rfl]
  conv => lhs; rw [its_range (sortO p.it), List.map_map]
  rfl
theorem need_eq {p : Prb} (hE : prbE p = 0) (hf : FewP p) : needN ((rosS p).map (poS ((sortO p.it).map dltS) fun _ => true)) = needS p := by
  have h := pv_of hE hf
  have key : ∀ x ∈ rosS p, overL p.it x (allL p) = aftP (poS ((sortO p.it).map dltS) (fun _ => true) x) (poS ((sortO p.it).map dltS) (fun _ => true) x).sum := fun x hx => by
    rw [allL_on, over_sum h _ hx]; rfl
  unfold needN needS;rw [Zcs, List.map_map]
  have e : (rosS p).filter (fun a => ovP (poS ((sortO p.it).map dltS) (fun _ => true) a) (poS ((sortO p.it).map dltS) (fun _ => true) a).sum) = (rosS p).filter fun x => decide (overL p.it x (allL p) < 0) := List.filter_congr fun x hx => by
    rw [key x hx];unfold ovP;refine decide_eq_decide.2 ⟨fun h => h.2, fun h => ⟨?_, h⟩⟩;unfold aftP at h; omega
  rw [e];refine List.map_congr_left fun x hx => ?_;rw [key x (List.mem_filter.1 hx).1]; rfl
set_option maxRecDepth 100000 in
theorem need_bad (p : Prb) (hf : FewP p) (hE : prbE p ≠ 0) : PCalls Tryz.prog 32 [.d (prbD p)] (.tup [.sl (some true) [], intD (prbE p)]) := by
  have hbu := build_bad p hf hE;refine ZaI Tryz.func32 rfl rfl Tryz.ntmps32 rfl rfl rfl fun F hF => (Zag (Zab (Zam.go (ZaS 1 rfl rfl rfl rfl rfl rfl rfl) ?_)));refine Zaa.go (Zad rfl rfl) (Zaa.go (Zad rfl rfl) (Zaf (Zag (Zab (Zaa.go (Zap rfl rfl rw35 rfl rfl rfl) (Zam.go (Zby hbu rfl [] trivial rfl rfl rfl rfl rfl rfl rfl rfl rfl) (Zaa.go (Zac rfl rfl) (Zaa.go (ZaA rfl rfl rfl) ?_))))))));refine Zaa.go (ZaA rfl rfl rfl) (Zaa.go (Zad rfl rfl) (Zaa.go (Zad rfl rfl) (Zaf (Zag (Zag (Zab (Zaa.go (Zac rfl rfl) (Zaa.go (Za0 rfl rfl rfl) ?_))))))));refine Zaf (ZaW rfl ((by simpa using hE)) (Zag (Zab (Zaa.go (Zac rfl rfl) (Zaa.go (Zad rfl rfl) (Zaa.go (Zad rfl rfl) (Zaf (Zav ?_))))))));exact ⟨_, [], [], Zaq rfl, rfl, rfl, rfl, rfl⟩
set_option maxRecDepth 100000 in
set_option maxHeartbeats 1000000 in
theorem need_ok (p : Prb) (hf : FewP p) (hE : prbE p = 0) : PCalls Tryz.prog 32 [.d (prbD p)] (.tup [.sl none ((needS p).map rooD), intD 0]) := by
  have hbu := build_ok p hf hE;have hsm := sml_P hf hE;have hne := need_eq hE hf;rw [← ord_sort hE] at hne;rw [netP_S] at hbu
  obtain ⟨its, hits⟩ : ∃ its, ordP p = its := ⟨_, rfl⟩
  obtain ⟨ros, hros⟩ : ∃ ros, rosS p = ros := ⟨_, rfl⟩
  rw [hits, hros] at hbu hsm hne;refine ZaI Tryz.func32 rfl rfl Tryz.ntmps32 rfl rfl rfl fun F hF => ?_;refine Zag (Zab (Zam.go (ZaS 1 rfl rfl rfl rfl rfl rfl rfl) (Zaa.go (Zad rfl rfl) (Zaa.go (Zad rfl rfl) (Zaf (Zag (Zab (Zaa.go (Zap rfl rfl rw35 rfl rfl rfl) ?_))))))));refine o_step (st_callX hbu rfl [40, 50, 51] ⟨rfl, rfl, rfl, trivial⟩ rfl rfl rfl rfl (fun r H' ⟨_, _, _, _, _, _, _, e1, e2, _⟩ => by subst e1 e2; exact ⟨rfl, rfl, rfl⟩) rfl) rfl ?_; rintro _ ⟨r, H', ⟨wb, mv, nb, pb, N, M, bs, rfl, rfl, hR, hN⟩, rfl⟩;refine Zaa.go (Zac rfl rfl) (Zaa.go (ZaA rfl rfl rfl) (Zaa.go (ZaA rfl rfl rfl) (Zaa.go (Zad rfl rfl) (Zaa.go (Zad rfl rfl) (Zaf ?_)))));refine Zag (Zag (Zab (Zaa.go (Zac rfl rfl) (Zaa.go (Za0 rfl rfl rfl) (Zaf (Za1 rfl (rfl) (Zas (Zag ?_))))))));have hw := W_ers (N := N) (by rw [hN]; exact S_w hsm _);have hsb := S_sumB hsm hN;have hwb := hR.w;have hpr : rowAt M N.mh ppT 1 ((List.range N.po.length).map fun j => ptrD (pb j)) := hR.rs.1 .m;have hpz : N.mh = none → N.po.length = 0 := fun h => by have h2 := ZbM hpr h; rw [List.length_range] at h2; exact h2
  have hpl := hw.n.2;have hnN : needN N.po = needS p := by rw [← needN_ers, show N.po.map ersP = ros.map (poS (its.map dltS) fun _ => true) from congrArg Net.po hN]; exact hne
  obtain ⟨L, hL⟩ : ∃ L, byL nb (idsN N) = L := ⟨_, rfl⟩
  rw [hL];refine Zab (Zaa.go (Zad rfl rfl) (Zaf (Zag (Zag (Zab (Zaa.go (Zac rfl rfl) ?_))))));refine Zaa.go (ZaN rfl rfl) (Zaa.go (Zar rfl fi108_1 rfl rfl rfl) (Zaa.go (Za7 (f := 40) rfl rfl (hwb) rfl on105 rfl) (Zaa.go (Zcu hpz rfl Tryz.underlying105 rfl) (Zaa.go (Zac rfl rfl) (Zaf (Zat (Zca 6 900 sl32 rfl rfl rfl rfl (ZaO (α := Nat × List Roo) (fun q => ⟨49, [(6, (.own 900 0 q.2.length)), (20, (.d (hdr N.mh N.po.length))), (21, (.d (intD (N.po.length : Int)))), (22, (.d (intD (q.1 : Int))))], (900, [.rowD 82 7 (q.2.map rooD)]) :: HW mv bs L M⟩) (fun q => q.1 ≤ N.po.length ∧ q.2 = needN (N.po.take q.1)) (fun q => N.po.length - q.1) ((0, [])) (⟨Nat.zero_le _, rfl⟩) (Zaw hF [900, 40, 50, 51] rfl rfl ⟨rfl, rfl, rfl, rfl, trivial⟩) ?_))))))));rintro ⟨k, acc⟩ ⟨hk0, hI⟩;dsimp only at hk0 hI ⊢;refine Zag (Zab (Zaa.go (ZaM rfl rfl rfl) (Zaf (Zag (ZaK rfl (fun h23 => ?_) (fun h23 => ?_))))))
  · have hk1 : k < N.po.length := ZaP h23;refine Zas (Zag (Zat (Zag ?_)));obtain ⟨rb, rc, hre⟩ := ZbK hpr (j := k) (by rw [List.length_range]; exact hk1);have hrow := ZbZ hpr hre
    obtain ⟨y, hy⟩ : ∃ y, N.po[k]? = some y := ⟨_, List.getElem?_eq_getElem hk1⟩
    have hyk : N.po[k] = y := Option.some.inj ((List.getElem?_eq_getElem hk1).symm.trans hy);have hym := List.mem_of_getElem? hy;have hrm := hw.rm y hym;have hys := hsb y hym;have hov := overdrawn_c hR hy y.sum hrm (by omega);have haf := aftP_p y y.sum hrm (by omega);have hyb := hR.p k y hy;have hal : acc.length ≤ k := by rw [hI]; have := needN_len (N.po.take k); rw [List.length_take] at this; omega
    have hab : -2000000000000000000 ≤ aftP y y.sum ∧ aftP y y.sum ≤ 2000000000000000000 := by unfold aftP; omega
    refine Zab (Zaa.go (Zb0 hre (k) rfl rfl rfl hk1 Tryz.underlying105 sz117 rfl) (Zaa.go (ZcT (f := 40) (e := k) (off := 0) rfl (by omega) rfl (hrow) ((by rw [List.getElem?_map, List.getElem?_range hk1]; rfl)) rfl on117 rfl) ?_));refine Zaa.go (Zad rfl rfl) (Zaf (Zag ?_));refine Zab (Zaa.go (Zac rfl rfl) (Zaa.go (Zac rfl rfl) (Zaa.go (ZaN rfl rfl) (Zaa.go (Zar rfl fi121_2 rfl rfl rfl) (Zaa.go (Za7 (f := 40) rfl rfl (hyb) rfl on2 rfl) (Zam.go (Zby hov rfl [40] ⟨rfl, trivial⟩ rfl rfl rfl rfl rfl rfl rfl rfl rfl) (Zaf (ZaK rfl (fun h31 => ?_) (fun h31 => ?_)))))))))
    · refine Za2 [[], [], [1], [1, 2], [1, 2, 3], [], [], [6], [6, 7], [6, 7, 8], [5, 6, 7, 8, 9], [5, 6, 7, 8, 9, 10], [1, 2, 3, 4, 5, 6, 7, 8, 9, 10, 11], [1, 2, 3, 4, 5, 6, 7, 8, 9, 10, 11, 12], [0, 1, 2, 3, 4, 5, 6, 7, 8, 9, 10, 11, 12, 13], [0, 1, 2, 3, 4, 5, 6, 7, 8, 9, 10, 11, 12, 13, 14]] mixed rfl (dws ?_);refine Zah [6] [] rfl rfl (fun _ => Zae (Zac rfl rfl)) (Zah [8] [] rfl rfl (fun _ => Zae (Zac rfl rfl)) (Zah [33] [] rfl rfl (fun _ => Zae (ZaN rfl rfl)) (Zah [34] [] rfl rfl (fun _ => Zae (Zar rfl fi121_0 rfl rfl rfl)) (Zah [35] [40] rfl rfl (fun _ => Zae (st_loadNS (f := 40) rfl rfl (hyb) rw51 rfl rfl (by simp [D.one]) rfl)) (Zah [8] [] rfl rfl (fun _ => Zae (Zac rfl rfl)) (Zah [8] [] rfl rfl (fun _ => Zae (Zac rfl rfl)) (Zah [38] [] rfl rfl (fun _ => Zae (ZaN rfl rfl)) (Zah [39] [] rfl rfl (fun _ => Zae (Zar rfl fi121_2 rfl rfl rfl)) ?_))))))));refine Zah [40] [40] rfl rfl (fun _ => Zae (Za7 (f := 40) rfl rfl (hyb) rfl on2 rfl)) (Zao [37, 41] rfl rfl (fun _ => Zae (st_callPN (fm := 40) rfl hyb (poC_one y) haf rfl rfl rfl rfl)) (Zah [42] [] rfl rfl (fun _ => Zae (st_neg rfl (IntWalk.i64_in _ (by omega)) rfl)) (Zah [36, 43] [] rfl rfl (fun _ => Zae (Za5 zl82 pl82 rfl rfl rfl)) (Zbt [44] [60] [(45, _)] rfl rfl (fun _ => Zba (ZaJ 60 sl32 rfl rfl rfl rfl rfl rfl rfl rfl)) (.inr ⟨45, _, rfl, rfl, rfl, rfl, rfl⟩) rfl rfl rfl rfl rfl (dwc 14 rfl rfl rfl (dw1 15 rfl rfl (Zam.go (Zbd (acc) ([⟨y.r, 0 - aftP y y.sum⟩]) rfl rfl rfl rfl rfl rfl rfl rfl sl32 (by simp only [List.length_singleton]; omega) rfl rfl rfl rfl) (Zaf ⟨rfl, ?_⟩))))))));refine dw1 16 rfl rfl (Zaa.go (Zad rfl rfl) (Zaf ⟨rfl, ?_⟩));refine dwe (Zab (Zaa.go (ZaG rfl rfl (wrapS (k + 1) (by omega)) rfl) (Zaa.go (Zac rfl rfl) (Zaf ?_))));exact ⟨(k + 1, _), ⟨by show k + 1 ≤ _; omega, by show _ = needN (N.po.take (k + 1)); rw [needN_take hk1, hyk, if_pos (show ovP y y.sum = true from decide_eq_true h31), ← hI]⟩, by show N.po.length - (k + 1) < N.po.length - k; omega, Zaw hF [900, 40, 50, 51] rfl (rfl) ⟨rfl, rfl, rfl, rfl, trivial⟩⟩
    · refine Zas (Zab (Zaa.go (ZaG rfl rfl (wrapS (k + 1) (by omega)) rfl) (Zaa.go (Zac rfl rfl) (Zaf ?_))));exact ⟨(k + 1, _), ⟨by show k + 1 ≤ _; omega, by show _ = needN (N.po.take (k + 1)); rw [needN_take hk1, hyk, if_neg (show ¬ ovP y y.sum = true from fun h => h31 (of_decide_eq_true h)), List.append_nil, ← hI]⟩, by show N.po.length - (k + 1) < N.po.length - k; omega, Zaw hF [900, 40, 50, 51] rfl (rfl) ⟨rfl, rfl, rfl, rfl, trivial⟩⟩
  · refine ZaQ (Zag ?_);have hke : k = N.po.length := by have h := h23; omega
    rw [hke, List.take_length, hnN] at hI;refine ZbC (emb := rooD) 6 900 acc rfl rfl rfl rfl rfl rfl rfl (Zab (Zaa.go (Zac rfl rfl) (Zaa.go (Zad rfl rfl) (Zaa.go (Zad rfl rfl) (Zaf (Zav ?_))))));exact ⟨_, [], [], Zaq rfl, rfl, rfl, by rw [hI], rfl⟩
end Go.Proofs.YtneihdahboilnaaGreat
/- Layer 30: what is missing, and the largest set. Plain laws. -/
namespace Go.Proofs.YtneihdahboilnaaGreat
open Go.RowKit

def ovR (p : Prb) (x : Roo) : Bool := decide (overL p.it x (allL p) < 0)
theorem need_in {p : Prb} {x : Roo} (hx : x ∈ p.ro) (h : overL p.it x (allL p) < 0) : (⟨x.r, 0 - overL p.it x (allL p)⟩ : Roo) ∈ needS p :=
  List.mem_map.2 ⟨x, List.mem_filter.2 ⟨(ZcE p).mem_iff.2 hx, decide_eq_true h⟩, rfl⟩
theorem need_cnt (p : Prb) : (needS p).length = (p.ro.filter (ovR p)).length := by
  unfold needS;rw [List.length_map];exact ((ZcE p).filter _).length_eq
theorem rosS_ris {p : Prb} (hE : prbE p = 0) : (rosS p).Pairwise fun a b => cmpR a.r b.r < 0 := by
  have hn : (rosS p).Pairwise fun a b => a.r ≠ b.r := List.pairwise_map.1 (rosS_nodup hE);refine List.Pairwise.imp (fun {a b} h => ?_) ((rosS_sorted p).and hn);have h1 := Zce.anti a.r b.r
  by_cases h0 : cmpR a.r b.r = 0
  · exact absurd (cmpR_zero.1 h0) h.2
  · have := h.1; omega
theorem need_ris {p : Prb} (hE : prbE p = 0) : (needS p).Pairwise fun a b => cmpR a.r b.r < 0 := by
  unfold needS;rw [List.pairwise_map];exact (List.Pairwise.sublist List.filter_sublist (rosS_ris hE)).imp fun h => h
theorem allL_mem {p : Prb} {y : Int} : y ∈ allL p ↔ y ∈ p.it.map Itm.id := ((Zbe p.it).map Itm.id).mem_iff
theorem bef_mem {i m : Int} {q : List Int} (h : m ∈ befQ i q) : m ∈ q := by
  unfold befQ at h
  split at h
  · exact (List.takeWhile_sublist _).mem h
  · cases h
theorem q_mem {its : List Itm} {r : Rsc} {y : Int} (h : y ∈ qIds its r) : y ∈ its.map Itm.id := by
  unfold qIds at h;obtain ⟨i, hi, rfl⟩ := List.mem_map.1 h;exact List.mem_map.2 ⟨i, (List.mem_filter.1 hi).1, rfl⟩
theorem all_feas {p : Prb} (hE : prbE p = 0) (h : needS p = []) : feasR p (allL p) := by
  refine Zcq.2 ⟨fun id hid => ⟨fun x hx a ha => q_mem (bef_mem ha), fun a ha => ?_⟩, fun x hx => ?_⟩
  · obtain ⟨hk, _, e, _⟩ := ZbV (allL_mem.1 hid);exact allL_mem.2 (after_in (Zbn hE).2.2 _ (by rw [e]; exact List.getElem_mem hk) a ha)
  · by_cases hc : overL p.it x (allL p) < 0
    · have := need_in hx hc;rw [h] at this; cases this
    · omega
theorem need_nil {p : Prb} (hE : prbE p = 0) (hF : FewP p) : (needS p).length = 0 ↔ (largeS p).length = (allL p).length := by
  have e : allL p = (ordP p).map Itm.id := by rw [ord_sort hE]; rfl
  constructor
  · intro h;have h0 := List.eq_nil_of_length_eq_zero h;have h1 := ZcV hE hF (all_feas hE h0) fun y hy => allL_mem.1 hy;have h2 := large_filter hE;rw [← e] at h2;rw [List.filter_eq_self.2 fun x hx => decide_eq_true (h1 x hx)] at h2;rw [h2]
  · intro h;have h2 := large_filter hE;rw [← e] at h2
    have h3 : largeS p = allL p := by
      have h4 : ((allL p).filter fun x => decide (x ∈ largeS p)).length = (allL p).length := by rw [← h2]; exact h
      rw [h2];exact List.filter_sublist.eq_of_length h4
    have h5 := (Zcq.1 (Zco hE hF)).2;rw [h3] at h5;rw [need_cnt, List.length_eq_zero_iff, List.filter_eq_nil_iff];intro x hx hc;have := h5 x hx;have := of_decide_eq_true hc;omega
end Go.Proofs.YtneihdahboilnaaGreat
