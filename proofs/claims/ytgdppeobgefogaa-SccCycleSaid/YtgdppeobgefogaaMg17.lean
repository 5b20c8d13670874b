/- Layer 31: the example. -/
import Derived.Test.YtgdppeobgefogaaMg16
namespace Go.Proofs.Ytgdppeobgefogaa
open Go.RowKit
theorem takeAll {α : Type} {l m : List α} {k : Nat} (h1 : l.length = m.length) (h2 : k = l.length) (h : l.take k = m.take k) : l = m := by
  subst h2;rw [List.take_length, h1, List.take_length] at h; exact h
theorem take_eq {α : Type} {l m : List α} {k : Nat} (h1 : k < l.length) (h2 : k < m.length) (h : l.take k = m.take k) (e : l[k] = m[k]) : l.take (k + 1) = m.take (k + 1) := by
  rw [List.take_succ_eq_append_getElem h1, List.take_succ_eq_append_getElem h2, h, e]
theorem getR {l : List Nat} {k : Nat} (h : k < l.length) : (l.map natD)[k]? = some (natD l[k]) := getm h
theorem getS {g : List (List Nat)} {k : Nat} (h : k < g.length) : (g.map natsD)[k]? = some (natsD g[k]) := getm h
set_option maxRecDepth 100000 in
theorem eqN_p (l m : List Nat) (hl : l.length ≤ 2000000) (hm : m.length ≤ 2000000) : PCalls Try.prog 16 [.d (natsD l), .d (natsD m)] (boolD (decide (l = m))) := by
  refine Zbj Try.func16 rfl rfl Try.ntmps16 rfl rfl rfl fun F hF => (Zag (Zae ?_));refine goAs rfl rfl (Zaf (Zag (Zag (Zae (goMv rfl rfl (Zab.go (ZaC rfl (List.length_map ..) Try.underlying25 rfl) (goMv rfl rfl (Zab.go (ZaC rfl (List.length_map ..) Try.underlying25 rfl) ?_))))))))
  first | refine Zab.go (st_neq rfl rfl rfl) ?_ | refine Zab.go (ZbJ rfl rfl rfl) ?_ | refine Zab.go (st_neqS rfl rfl rfl) ?_ | refine Zab.go (st_neqB Try.underlying3 rfl rfl rfl) ?_ | refine Zab.go (st_neqP Try.underlying3 rfl rfl rfl) ?_ | refine Zab.go (st_neqN Try.underlying3 rfl rfl) ?_ | refine Zab.go (st_neqF Try.underlying3 rfl rfl rfl) ?_ | refine Zab.go (st_neqFN Try.underlying3 rfl rfl) ?_
  refine Zaf ?_
  first | refine ZaS rfl (fun h10 => ?_) (fun h10 => ?_) | refine ZaF rfl (fun h10 => ?_) (fun h10 => ?_)
  · refine Zag (Zae (goAs rfl rfl (Zaf (Za8 ?_))));exact ⟨_, [], [], ZaT rfl, rfl, rfl, by rw [decide_eq_false (fun e => h10 (by rw [e]))], rfl⟩
  · refine ZaD (Zag (Zag (Zae (goAs rfl rfl (Zaf (Zay ?_))))));have hlm : l.length = m.length := Int.ofNat.inj (Classical.not_not.1 h10);refine a_loop (α := Nat) (fun k => ⟨26, [(0, .d (natsD l)), (1, .d (natsD m)), (5, (.d (natD k)))], []⟩) (fun k => k ≤ l.length ∧ l.take k = m.take k) (fun k => l.length - k) (0) (⟨Nat.zero_le _, by simp⟩) (le_of_has ⟨rfl, rfl, rfl, trivial⟩) ?_;rintro k ⟨hk, hn⟩;refine Zag (Zag (Zae (goMv rfl rfl (goMv rfl rfl (Zab.go (ZaC rfl (List.length_map ..) Try.underlying25 rfl) ?_)))))
    first | refine Zab.go (Za2 rfl rfl rfl) ?_ | refine Zab.go (ZaU rfl rfl rfl) ?_
    refine Zaf ?_
    first | refine ZaS rfl (fun h14 => ?_) (fun h14 => ?_) | refine ZaF rfl (fun h14 => ?_) (fun h14 => ?_)
    · refine ZaD (Zag (Zay (Zag ?_)));have hkl : k < l.length := Zbi h14;have hkm : k < m.length := by omega
      refine Zbg [[], [], [0, 1], [0, 1, 2], [], [], [4, 5], [4, 5, 6], [0, 1, 2, 3, 4, 5, 6, 7]] mixed rfl (dws ?_)
      first | refine Zad [0] [] rfl rfl (fun _ => Zaa (Zah rfl rfl)) ?_ | refine Zac [0] rfl rfl (fun _ => Zaa (Zah rfl rfl)) ?_
      first | refine Zad [5] [] rfl rfl (fun _ => Zaa (Zah rfl rfl)) ?_ | refine Zac [5] rfl rfl (fun _ => Zaa (Zah rfl rfl)) ?_
      first | refine Zad [17, 18] [] rfl rfl (fun _ => Zaa (Zam (k) rfl rfl (rfl) (getR hkl) Try.underlying25 rfl sz3 rfl)) ?_ | refine Zac [17, 18] rfl rfl (fun _ => Zaa (Zam (k) rfl rfl (rfl) (getR hkl) Try.underlying25 rfl sz3 rfl)) ?_ | refine Zad [17, 18] [] rfl rfl (fun _ => Zaa (Zal (k) rfl rfl (rfl) (getR hkl) rfl Try.underlying25 sz3 rfl)) ?_ | refine Zac [17, 18] rfl rfl (fun _ => Zaa (Zal (k) rfl rfl (rfl) (getR hkl) rfl Try.underlying25 sz3 rfl)) ?_
      first | refine Zad [19] [] rfl rfl (fun _ => Zaa (Zai rfl rfl on3 rfl)) ?_ | refine Zac [19] rfl rfl (fun _ => Zaa (Zai rfl rfl on3 rfl)) ?_ | refine Zad [19] [] rfl rfl (fun _ => Zaa (Zak rfl rfl rfl on3 rfl)) ?_ | refine Zac [19] rfl rfl (fun _ => Zaa (Zak rfl rfl rfl on3 rfl)) ?_ | refine Zad [19] [] rfl rfl (fun _ => Zaa (Zaj rfl rfl (rfl) rfl on3 rfl)) ?_ | refine Zac [19] rfl rfl (fun _ => Zaa (Zaj rfl rfl (rfl) rfl on3 rfl)) ?_
      first | refine Zad [1] [] rfl rfl (fun _ => Zaa (Zah rfl rfl)) ?_ | refine Zac [1] rfl rfl (fun _ => Zaa (Zah rfl rfl)) ?_
      first | refine Zad [5] [] rfl rfl (fun _ => Zaa (Zah rfl rfl)) ?_ | refine Zac [5] rfl rfl (fun _ => Zaa (Zah rfl rfl)) ?_
      first | refine Zad [21, 22] [] rfl rfl (fun _ => Zaa (Zam (k) rfl rfl (rfl) (getR hkm) Try.underlying25 rfl sz3 rfl)) ?_ | refine Zac [21, 22] rfl rfl (fun _ => Zaa (Zam (k) rfl rfl (rfl) (getR hkm) Try.underlying25 rfl sz3 rfl)) ?_ | refine Zad [21, 22] [] rfl rfl (fun _ => Zaa (Zal (k) rfl rfl (rfl) (getR hkm) rfl Try.underlying25 sz3 rfl)) ?_ | refine Zac [21, 22] rfl rfl (fun _ => Zaa (Zal (k) rfl rfl (rfl) (getR hkm) rfl Try.underlying25 sz3 rfl)) ?_
      first | refine Zad [23] [] rfl rfl (fun _ => Zaa (Zai rfl rfl on3 rfl)) ?_ | refine Zac [23] rfl rfl (fun _ => Zaa (Zai rfl rfl on3 rfl)) ?_ | refine Zad [23] [] rfl rfl (fun _ => Zaa (Zak rfl rfl rfl on3 rfl)) ?_ | refine Zac [23] rfl rfl (fun _ => Zaa (Zak rfl rfl rfl on3 rfl)) ?_ | refine Zad [23] [] rfl rfl (fun _ => Zaa (Zaj rfl rfl (rfl) rfl on3 rfl)) ?_ | refine Zac [23] rfl rfl (fun _ => Zaa (Zaj rfl rfl (rfl) rfl on3 rfl)) ?_
      refine dwc 8 rfl rfl rfl (dw1 9 rfl rfl ?_)
      first | refine Zab.go (st_neq rfl rfl rfl) ?_ | refine Zab.go (ZbJ rfl rfl rfl) ?_ | refine Zab.go (st_neqS rfl rfl rfl) ?_ | refine Zab.go (st_neqB Try.underlying3 rfl rfl rfl) ?_ | refine Zab.go (st_neqP Try.underlying3 rfl rfl rfl) ?_ | refine Zab.go (st_neqN Try.underlying3 rfl rfl) ?_ | refine Zab.go (st_neqF Try.underlying3 rfl rfl rfl) ?_ | refine Zab.go (st_neqFN Try.underlying3 rfl rfl) ?_
      refine Zaf ⟨rfl, ?_⟩;refine dwe ?_
      first | refine ZaS rfl (fun h25 => ?_) (fun h25 => ?_) | refine ZaF rfl (fun h25 => ?_) (fun h25 => ?_)
      · refine Zag (Zae (goAs rfl rfl (Zaf (Za8 ?_))));exact ⟨_, [], [], ZaT rfl, rfl, rfl, by rw [decide_eq_false (fun e => h25 (by subst e; rfl))], rfl⟩
      · refine ZaD (Zae (goMv rfl rfl (Zab.go (ZaJ rfl rfl (IntWalk.i64_in _ (by omega)) rfl) (goAs rfl rfl (Zaf ?_)))));exact ⟨k + 1, ⟨hkl, take_eq hkl hkm hn (Int.ofNat.inj (Classical.not_not.1 h25))⟩, by omega, ⟨rfl, rfl, fun _ _ => Has.get (l := [(0, _), (1, _), (5, _)]) ⟨rfl, rfl, rfl, trivial⟩⟩⟩
    · refine ZaK (Zag (Zae (goAs rfl rfl (Zaf (Za8 ?_)))));exact ⟨_, [], [], ZaT rfl, rfl, rfl, by rw [decide_eq_true (takeAll hlm (by have := h14; omega) hn)], rfl⟩
set_option maxRecDepth 100000 in
theorem same_p (l m : List (List Nat)) (hl : l.length ≤ 2000000) (hm : m.length ≤ 2000000) (hl2 : ∀ x ∈ l, x.length ≤ 2000000) (hm2 : ∀ x ∈ m, x.length ≤ 2000000) : PCalls Try.prog 18 [.d (grD l), .d (grD m)] (boolD (decide (l = m))) := by
  refine Zbj Try.func18 rfl rfl Try.ntmps18 rfl rfl rfl fun F hF => (Zag (Zae ?_));refine goAs rfl rfl (Zaf (Zag (Zag (Zae (goMv rfl rfl (Zab.go (ZaC rfl (List.length_map ..) Try.underlying22 rfl) (goMv rfl rfl (Zab.go (ZaC rfl (List.length_map ..) Try.underlying22 rfl) ?_))))))))
  first | refine Zab.go (st_neq rfl rfl rfl) ?_ | refine Zab.go (ZbJ rfl rfl rfl) ?_ | refine Zab.go (st_neqS rfl rfl rfl) ?_ | refine Zab.go (st_neqB Try.underlying3 rfl rfl rfl) ?_ | refine Zab.go (st_neqP Try.underlying3 rfl rfl rfl) ?_ | refine Zab.go (st_neqN Try.underlying3 rfl rfl) ?_ | refine Zab.go (st_neqF Try.underlying3 rfl rfl rfl) ?_ | refine Zab.go (st_neqFN Try.underlying3 rfl rfl) ?_
  refine Zaf ?_
  first | refine ZaS rfl (fun h10 => ?_) (fun h10 => ?_) | refine ZaF rfl (fun h10 => ?_) (fun h10 => ?_)
  · refine Zag (Zae (goAs rfl rfl (Zaf (Za8 ?_))));exact ⟨_, [], [], ZaT rfl, rfl, rfl, by rw [decide_eq_false (fun e => h10 (by rw [e]))], rfl⟩
  · refine ZaD (Zag (Zag (Zae (goAs rfl rfl (Zaf (Zay ?_))))));have hlm : l.length = m.length := Int.ofNat.inj (Classical.not_not.1 h10);refine a_loop (α := Nat) (fun k => ⟨27, [(0, .d (grD l)), (1, .d (grD m)), (5, (.d (natD k)))], []⟩) (fun k => k ≤ l.length ∧ l.take k = m.take k) (fun k => l.length - k) (0) (⟨Nat.zero_le _, by simp⟩) (le_of_has ⟨rfl, rfl, rfl, trivial⟩) ?_;rintro k ⟨hk, hn⟩;refine Zag (Zag (Zae (goMv rfl rfl (goMv rfl rfl (Zab.go (ZaC rfl (List.length_map ..) Try.underlying22 rfl) ?_)))))
    first | refine Zab.go (Za2 rfl rfl rfl) ?_ | refine Zab.go (ZaU rfl rfl rfl) ?_
    refine Zaf ?_
    first | refine ZaS rfl (fun h14 => ?_) (fun h14 => ?_) | refine ZaF rfl (fun h14 => ?_) (fun h14 => ?_)
    · refine ZaD (Zag (Zay (Zag ?_)));have hkl : k < l.length := Zbi h14;have hkm : k < m.length := by omega
      refine Zbg [[], [], [0, 1], [0, 1, 2], [], [], [4, 5], [4, 5, 6], [0, 1, 2, 3, 4, 5, 6, 7], [0, 1, 2, 3, 4, 5, 6, 7, 8]] mixed rfl (dws ?_)
      first | refine Zad [0] [] rfl rfl (fun _ => Zaa (Zah rfl rfl)) ?_ | refine Zac [0] rfl rfl (fun _ => Zaa (Zah rfl rfl)) ?_
      first | refine Zad [5] [] rfl rfl (fun _ => Zaa (Zah rfl rfl)) ?_ | refine Zac [5] rfl rfl (fun _ => Zaa (Zah rfl rfl)) ?_
      first | refine Zad [17, 18] [] rfl rfl (fun _ => Zaa (Zam (k) rfl rfl (rfl) (getS hkl) Try.underlying22 rfl sz25 rfl)) ?_ | refine Zac [17, 18] rfl rfl (fun _ => Zaa (Zam (k) rfl rfl (rfl) (getS hkl) Try.underlying22 rfl sz25 rfl)) ?_ | refine Zad [17, 18] [] rfl rfl (fun _ => Zaa (Zal (k) rfl rfl (rfl) (getS hkl) rfl Try.underlying22 sz25 rfl)) ?_ | refine Zac [17, 18] rfl rfl (fun _ => Zaa (Zal (k) rfl rfl (rfl) (getS hkl) rfl Try.underlying22 sz25 rfl)) ?_
      first | refine Zad [19] [] rfl rfl (fun _ => Zaa (Zai rfl rfl on25 rfl)) ?_ | refine Zac [19] rfl rfl (fun _ => Zaa (Zai rfl rfl on25 rfl)) ?_ | refine Zad [19] [] rfl rfl (fun _ => Zaa (Zak rfl rfl rfl on25 rfl)) ?_ | refine Zac [19] rfl rfl (fun _ => Zaa (Zak rfl rfl rfl on25 rfl)) ?_ | refine Zad [19] [] rfl rfl (fun _ => Zaa (Zaj rfl rfl (rfl) rfl on25 rfl)) ?_ | refine Zac [19] rfl rfl (fun _ => Zaa (Zaj rfl rfl (rfl) rfl on25 rfl)) ?_
      first | refine Zad [1] [] rfl rfl (fun _ => Zaa (Zah rfl rfl)) ?_ | refine Zac [1] rfl rfl (fun _ => Zaa (Zah rfl rfl)) ?_
      first | refine Zad [5] [] rfl rfl (fun _ => Zaa (Zah rfl rfl)) ?_ | refine Zac [5] rfl rfl (fun _ => Zaa (Zah rfl rfl)) ?_
      first | refine Zad [21, 22] [] rfl rfl (fun _ => Zaa (Zam (k) rfl rfl (rfl) (getS hkm) Try.underlying22 rfl sz25 rfl)) ?_ | refine Zac [21, 22] rfl rfl (fun _ => Zaa (Zam (k) rfl rfl (rfl) (getS hkm) Try.underlying22 rfl sz25 rfl)) ?_ | refine Zad [21, 22] [] rfl rfl (fun _ => Zaa (Zal (k) rfl rfl (rfl) (getS hkm) rfl Try.underlying22 sz25 rfl)) ?_ | refine Zac [21, 22] rfl rfl (fun _ => Zaa (Zal (k) rfl rfl (rfl) (getS hkm) rfl Try.underlying22 sz25 rfl)) ?_
      first | refine Zad [23] [] rfl rfl (fun _ => Zaa (Zai rfl rfl on25 rfl)) ?_ | refine Zac [23] rfl rfl (fun _ => Zaa (Zai rfl rfl on25 rfl)) ?_ | refine Zad [23] [] rfl rfl (fun _ => Zaa (Zak rfl rfl rfl on25 rfl)) ?_ | refine Zac [23] rfl rfl (fun _ => Zaa (Zak rfl rfl rfl on25 rfl)) ?_ | refine Zad [23] [] rfl rfl (fun _ => Zaa (Zaj rfl rfl (rfl) rfl on25 rfl)) ?_ | refine Zac [23] rfl rfl (fun _ => Zaa (Zaj rfl rfl (rfl) rfl on25 rfl)) ?_
      refine dwc 8 rfl rfl rfl (dw1 9 rfl rfl (Zab.go (Zbq (eqN_p l[k] m[k] (hl2 _ (List.getElem_mem hkl)) (hm2 _ (List.getElem_mem hkm))) rfl rfl) (Zaf ⟨rfl, ?_⟩)));refine dw1 10 rfl rfl ?_
      first | refine Zab.go (st_notP rfl rfl) ?_ | refine Zab.go (st_not rfl rfl) ?_
      refine Zaf ⟨rfl, ?_⟩;refine dwe ?_
      first | refine ZaS rfl (fun h26 => ?_) (fun h26 => ?_) | refine ZaF rfl (fun h26 => ?_) (fun h26 => ?_)
      · refine Zag (Zae (goAs rfl rfl (Zaf (Za8 ?_))));exact ⟨_, [], [], ZaT rfl, rfl, rfl, by rw [decide_eq_false (fun e => h26 (by subst e; rfl))], rfl⟩
      · refine ZaD (Zae (goMv rfl rfl (Zab.go (ZaJ rfl rfl (IntWalk.i64_in _ (by omega)) rfl) (goAs rfl rfl (Zaf ?_)))));exact ⟨k + 1, ⟨hkl, take_eq hkl hkm hn (Classical.not_not.1 h26)⟩, by omega, ⟨rfl, rfl, fun _ _ => Has.get (l := [(0, _), (1, _), (5, _)]) ⟨rfl, rfl, rfl, trivial⟩⟩⟩
    · refine ZaK (Zag (Zae (goAs rfl rfl (Zaf (Za8 ?_)))));exact ⟨_, [], [], ZaT rfl, rfl, rfl, by rw [decide_eq_true (takeAll hlm (by have := h14; omega) hn)], rfl⟩
theorem cycle0_p : PCalls Try.prog 14 [.d (grD g0)] (.tup [natsD [1, 2], boolD true, intD 0]) := by
  have h := cycle_c g0 g0_gt;refine ⟨h.1, fun F ρ vs h1 h2 h2' h3 h4 h5 => (h.2 F ρ vs h1 h2 h2' h3 h4 h5).mono fun e w' ⟨v, r, H', ρ', e1, ⟨best, out, hC, hr, hH⟩, hrep, hh⟩ => ⟨v, r, H', ρ', e1, ⟨?_, hH⟩, hrep, hh⟩⟩;rw [hr, cyc0 hC]
  rfl
set_option maxRecDepth 100000 in
theorem known_p : PCalls Try.prog 12 [] (boolD true) := by
  have hc := components_p g0 g0_gt;rw [com0] at hc;refine Zbj Try.func12 rfl rfl Try.ntmps12 rfl rfl rfl fun F hF => (Zag (Zae (goAs rfl rfl (Zaf (Zag ?_)))));refine Zae (Zau.go (ZaI 11 sl25 rfl rfl rfl rfl rfl rfl rfl rfl) (ZbD (emb := natD) 7 11 [1] rfl rfl rfl rfl rfl rfl rfl (Zau.go (ZaI 12 sl25 rfl rfl rfl rfl rfl rfl rfl rfl) (ZbD (emb := natD) 8 12 [2] rfl rfl rfl rfl rfl rfl rfl (Zau.go (ZaI 13 sl25 rfl rfl rfl rfl rfl rfl rfl rfl) (ZbD (emb := natD) 9 13 [1, 3] rfl rfl rfl rfl rfl rfl rfl (Zau.go (ZaI 14 sl25 rfl rfl rfl rfl rfl rfl rfl rfl) (ZbD (emb := natD) 10 14 [] rfl rfl rfl rfl rfl rfl rfl ?_))))))));refine Zau.go (ZaI 15 sl32 rfl rfl rfl rfl rfl rfl rfl rfl) (ZbD (emb := natsD) 11 15 g0 rfl rfl rfl rfl rfl rfl rfl (goAs rfl rfl (Zaf (Zag (Zae (goMv rfl rfl (Zab.go (Zbq (hc) rfl rfl) (goMv rfl rfl ?_))))))))
  first | refine Zab.go (ZaQ rfl rfl rfl) ?_ | refine Zab.go (ZaV rfl rfl rfl) ?_
  first | refine Zab.go (ZaQ rfl rfl rfl) ?_ | refine Zab.go (ZaV rfl rfl rfl) ?_
  refine goAs rfl rfl (goAs rfl rfl (Zaf (Zag (Zae (goMv rfl rfl (Zab.go (Zbq (cycle0_p) rfl rfl) (goMv rfl rfl ?_)))))))
  first | refine Zab.go (ZaQ rfl rfl rfl) ?_ | refine Zab.go (ZaV rfl rfl rfl) ?_
  first | refine Zab.go (ZaQ rfl rfl rfl) ?_ | refine Zab.go (ZaV rfl rfl rfl) ?_
  first | refine Zab.go (ZaQ rfl rfl rfl) ?_ | refine Zab.go (ZaV rfl rfl rfl) ?_
  refine goAs rfl rfl (goAs rfl rfl (goAs rfl rfl (Zaf (Zag (Zae (goMv rfl rfl ?_))))))
  first | refine Zab.go (Zbn rfl rfl rfl) ?_ | refine Zab.go (Za0 rfl rfl rfl) ?_ | refine Zab.go (Za7 rfl rfl rfl) ?_ | refine Zab.go (Zbc Try.underlying26 rfl rfl rfl) ?_ | refine Zab.go (Za9 Try.underlying26 rfl rfl rfl) ?_ | refine Zab.go (Zba Try.underlying26 rfl rfl) ?_ | refine Zab.go (Zbb Try.underlying26 rfl rfl rfl) ?_ | refine Zab.go (Za1 Try.underlying26 rfl rfl) ?_
  refine goMv rfl rfl (o_setT 25 rfl (decide_eq_true (by decide)) ?_);refine ZaH rfl rfl rfl (goMv rfl rfl (ZaH rfl rfl rfl (Zau.go (ZaI 21 sl25 rfl rfl rfl rfl rfl rfl rfl rfl) (ZbD (emb := natD) 27 21 [0] rfl rfl rfl rfl rfl rfl rfl (ZaH rfl rfl rfl (Zau.go (ZaI 22 sl25 rfl rfl rfl rfl rfl rfl rfl rfl) (ZbD (emb := natD) 28 22 [1, 2] rfl rfl rfl rfl rfl rfl rfl (ZaH rfl rfl rfl ?_))))))));refine Zau.go (ZaI 23 sl25 rfl rfl rfl rfl rfl rfl rfl rfl) (ZbD (emb := natD) 29 23 [3] rfl rfl rfl rfl rfl rfl rfl (ZaH rfl rfl rfl (Zau.go (ZaI 24 sl22 rfl rfl rfl rfl rfl rfl rfl rfl) (ZbD (emb := natsD) 30 24 [[0], [1, 2], [3]] rfl rfl rfl rfl rfl rfl rfl (ZaH rfl rfl rfl (Zab.go (Zbq (same_p [[0], [1, 2], [3]] [[0], [1, 2], [3]] (by decide) (by decide) (by decide) (by decide)) rfl rfl) (Zab.go (Za3 rfl rfl rfl rfl) (goMv rfl rfl ?_))))))));refine o_setT 33 rfl (decide_eq_true (by decide)) (ZaH rfl rfl rfl (goMv rfl rfl (Zab.go (Za3 rfl rfl rfl rfl) (goMv rfl rfl (o_setT 36 rfl (rfl) (ZaH rfl rfl rfl (goMv rfl rfl (ZaH rfl rfl rfl ?_))))))))
  first | refine Zab.go (Zbn rfl rfl rfl) ?_ | refine Zab.go (Za0 rfl rfl rfl) ?_ | refine Zab.go (Za7 rfl rfl rfl) ?_ | refine Zab.go (Zbc Try.underlying26 rfl rfl rfl) ?_ | refine Zab.go (Za9 Try.underlying26 rfl rfl rfl) ?_ | refine Zab.go (Zba Try.underlying26 rfl rfl) ?_ | refine Zab.go (Zbb Try.underlying26 rfl rfl rfl) ?_ | refine Zab.go (Za1 Try.underlying26 rfl rfl) ?_
  refine Zab.go (Za3 rfl rfl rfl rfl) (goMv rfl rfl (o_setT 40 rfl (decide_eq_true (by decide)) (ZaH rfl rfl rfl (goMv rfl rfl ?_))));refine ZaH rfl rfl rfl (Zau.go (ZaI 25 sl25 rfl rfl rfl rfl rfl rfl rfl rfl) (ZbD (emb := natD) 42 25 [1, 2] rfl rfl rfl rfl rfl rfl rfl (ZaH rfl rfl rfl (Zab.go (Zbq (eqN_p [1, 2] [1, 2] (by decide) (by decide)) rfl rfl) (Zab.go (Za3 rfl rfl rfl rfl) (goAs rfl rfl (Zaf (Za8 ?_))))))));exact ⟨_, [], [], ZaT rfl, rfl, rfl, rfl, rfl⟩
end Go.Proofs.Ytgdppeobgefogaa
/- Layer 31: small graphs; the reference's Reverse. -/
namespace Go.Proofs.Ytgdppeobgefogaa
open Go.RowKit
def clN (n : Nat) (x : Int) : Nat := (Int.emod x 18446744073709551616).toNat % n
def rowC (n : Nat) (l : List Int) : List Nat := (l.take 14).map (clN n)
def smlG (g : List (List Int)) : List (List Nat) := (g.take (min g.length 14)).map (rowC (min g.length 14))
theorem wrapU (x : Int) : IntKind.u64.wrap x = Int.emod x 18446744073709551616 := rfl
theorem clN_eq {n : Nat} (h0 : 0 < n) (hn : n ≤ 14) (x : Int) : IntKind.i64.wrap (Int.tmod (IntKind.u64.wrap x) (n : Int)) = (clN n x : Int) := by
  have h1 : 0 ≤ Int.emod x 18446744073709551616 := Int.emod_nonneg _ (by decide)
  obtain ⟨y, hy⟩ : ∃ y : Nat, Int.emod x 18446744073709551616 = (y : Int) := ⟨_, (Int.toNat_of_nonneg h1).symm⟩
  rw [wrapU];unfold clN;rw [hy, Int.toNat_natCast];have e : Int.tmod (y : Int) (n : Int) = ((y % n : Nat) : Int) := rfl;rw [e];have := Nat.mod_lt y h0;exact IntWalk.i64_in _ (by omega)
theorem smlG_len (g : List (List Int)) : (smlG g).length = min g.length 14 := by simp [smlG] <;> omega
theorem smlG_gt (g : List (List Int)) : GT (smlG g) := by
  have hl := smlG_len g
  have hrow : ∀ l ∈ smlG g, l.length ≤ 14 := fun l hl => by
    obtain ⟨m, _, rfl⟩ := List.mem_map.1 hl;unfold rowC; rw [List.length_map, List.length_take]; omega
  refine ⟨⟨by omega, fun l hl => by have := hrow l hl; omega, fun l hlm x hx => ?_⟩, ?_⟩
  · have h0 : 0 < (smlG g).length := List.length_pos_of_mem hlm;obtain ⟨m, _, rfl⟩ := List.mem_map.1 hlm;obtain ⟨y, _, rfl⟩ := List.mem_map.1 hx;rw [hl] at h0 ⊢;exact Nat.mod_lt _ h0
  · have key : ∀ m, m ≤ (smlG g).length → totG (smlG g) m ≤ m * 14 := by
      intro m
      induction m with
      | zero => intro _; exact Nat.zero_le _
      | succ m ih =>
        intro hm;have h1 := ih (by omega);have h2 := hrow (sucs (smlG g) m) (by rw [sucs_get (by omega)]; exact List.getElem_mem _);have h3 : totG (smlG g) (m + 1) = totG (smlG g) m + (sucs (smlG g) m).length := by unfold totG; rw [List.range_succ, List.map_append, List.sum_append]; simp
        omega
    have := key _ (Nat.le_refl _);omega
theorem take_min {α : Type} {l : List α} {j m : Nat} (h : j = min l.length m) : l.take j = l.take m := by
  subst h;rcases Nat.le_total l.length m with h | h
  · rw [Nat.min_eq_left h, List.take_of_length_le (Nat.le_refl _), List.take_of_length_le h]
  · rw [Nat.min_eq_right h]
set_option maxRecDepth 100000 in
theorem small_p (g : List (List Int)) (hg : g.length ≤ 140737488355328) (hl : ∀ l ∈ g, l.length ≤ 140737488355328) : PCalls Try.prog 13 [.d (grI g), .d (boolD true)] (grD (smlG g)) := by
  obtain ⟨n, hn⟩ : ∃ n, min g.length 14 = n := ⟨_, rfl⟩
  have hn14 : n ≤ 14 := by omega
  unfold smlG;rw [hn];refine Zbj Try.func13 rfl rfl Try.ntmps13 rfl rfl rfl fun F hF => (Zag (Zae (goAs rfl rfl (Zaf (Zag ?_)))));refine Zae (goMv rfl rfl (Zab.go (ZaC rfl (List.length_map ..) Try.underlying22 rfl) (Zab.go (st_min rfl rfl ((show (if (14 : Int) < (g.length : Int) then (14 : Int) else (g.length : Int)) = (n : Int) by split <;> omega)) rfl) (goAs rfl rfl (Zaf (Zag (Zae (goAs rfl rfl ?_))))))));refine Zaf (Zag (Zag (Zae (goAs rfl rfl (Zaf (Zay (a_adopt 6 2 sl22 rfl rfl rfl rfl (ZaZ (α := Nat × List (List Nat)) (fun q => ⟨55, [(0, .d (grI g)), (1, .d (boolD true)), (5, (.d (natD n))), (6, (.own 2 0 q.2.length)), (7, (.d (natD q.1)))], [(2, [.rowD 25 1 (q.2.map natsD)])]⟩) (fun q => q.1 ≤ n ∧ q.2 = (g.take q.1).map (rowC n)) (fun q => n - q.1) ((0, [])) (⟨Nat.zero_le _, rfl⟩) (Zax hF [2] rfl rfl ⟨rfl, rfl, rfl, rfl, rfl, trivial⟩) ?_))))))));rintro ⟨k, o⟩ ⟨hk, ho⟩;dsimp only at hk ho ⊢;refine Zag (Zag (Zae (goMv rfl rfl (goMv rfl rfl ?_))))
  first | refine Zab.go (Za2 rfl rfl rfl) ?_ | refine Zab.go (ZaU rfl rfl rfl) ?_
  refine Zaf ?_
  first | refine ZaS rfl (fun h16 => ?_) (fun h16 => ?_) | refine ZaF rfl (fun h16 => ?_) (fun h16 => ?_)
  · refine ZaD (Zag (Zay (Zag ?_)));have hkn : k < n := Zbi h16;have hkg : k < g.length := by omega
    have hll := hl _ (List.getElem_mem hkg);have hol : o.length = k := by rw [ho, List.length_map, List.length_take]; omega
    refine Zae (goAs rfl rfl ?_);refine Zaf (Zag (Zag (Zae (goAs rfl rfl (Zaf (Zay (a_adopt 8 1 sl25 rfl rfl rfl rfl (ZaZ (α := Nat × List Nat) (fun q => ⟨55, [(0, .d (grI g)), (1, .d (boolD true)), (5, (.d (natD n))), (6, (.own 2 0 o.length)), (7, (.d (natD k))), (8, (.own 1 0 q.2.length)), (9, (.d (natD q.1)))], [(1, [.rowD 3 1 (q.2.map natD)]), (2, [.rowD 25 1 (o.map natsD)])]⟩) (fun q => q.1 ≤ min g[k].length 14 ∧ q.2 = (g[k].take q.1).map (clN n)) (fun q => g[k].length - q.1) ((0, [])) (⟨Nat.zero_le _, rfl⟩) (Zax hF [1, 2] rfl rfl ⟨rfl, rfl, rfl, rfl, rfl, rfl, rfl, trivial⟩) ?_))))))));rintro ⟨j, r⟩ ⟨hj, hr⟩;dsimp only at hj hr ⊢;refine Zag (Zag (Zae (goMv rfl rfl (goMv rfl rfl (goMv rfl rfl ?_)))))
    first | refine Zab.go (Zam (k) rfl rfl (rfl) (getgI hkg) Try.underlying22 rfl sz25 rfl) ?_ | refine Zab.go (Zal (k) rfl rfl (rfl) (getgI hkg) rfl Try.underlying22 sz25 rfl) ?_
    first | refine Zab.go (Zai rfl rfl on25 rfl) ?_ | refine Zab.go (Zak rfl rfl rfl on25 rfl) ?_ | refine Zab.go (Zaj rfl rfl (rfl) rfl on25 rfl) ?_
    refine Zab.go (ZaC rfl (List.length_map ..) Try.underlying25 rfl) ?_
    first | refine Zab.go (Za2 rfl rfl rfl) ?_ | refine Zab.go (ZaU rfl rfl rfl) ?_
    refine goMv rfl rfl ?_
    first | refine Zbw 26 rfl (fun h26 => ?_) (fun h26 => ?_) | refine Zbr 26 rfl (fun h26 => ?_) (fun h26 => ?_)
    · refine ZaH rfl rfl rfl (goMv rfl rfl (ZaH rfl rfl rfl ?_))
      first | refine Zab.go (Za2 rfl rfl rfl) ?_ | refine Zab.go (ZaU rfl rfl rfl) ?_
      refine Zab.go (Za3 rfl rfl rfl rfl) (Zaf ?_)
      first | refine ZaS rfl (fun h29 => ?_) (fun h29 => ?_) | refine ZaF rfl (fun h29 => ?_) (fun h29 => ?_)
      · refine ZaD (Zag (Zay (Zag ?_)));have hjl : j < g[k].length := by have := h26; omega
        have hrl : r.length = j := by rw [hr, List.length_map, List.length_take]; omega
        refine Zae (goMv rfl rfl (goMv rfl rfl ?_))
        first | refine Zab.go (Zam (k) rfl rfl (rfl) (getgI hkg) Try.underlying22 rfl sz25 rfl) ?_ | refine Zab.go (Zal (k) rfl rfl (rfl) (getgI hkg) rfl Try.underlying22 sz25 rfl) ?_
        first | refine Zab.go (Zai rfl rfl on25 rfl) ?_ | refine Zab.go (Zak rfl rfl rfl on25 rfl) ?_ | refine Zab.go (Zaj rfl rfl (rfl) rfl on25 rfl) ?_
        refine goMv rfl rfl ?_
        first | refine Zab.go (Zam (j) rfl rfl (rfl) (getI hjl) Try.underlying25 rfl sz3 rfl) ?_ | refine Zab.go (Zal (j) rfl rfl (rfl) (getI hjl) rfl Try.underlying25 sz3 rfl) ?_
        first | refine Zab.go (Zai rfl rfl on3 rfl) ?_ | refine Zab.go (Zak rfl rfl rfl on3 rfl) ?_ | refine Zab.go (Zaj rfl rfl (rfl) rfl on3 rfl) ?_
        refine goAs rfl rfl (Zaf ?_);refine Zag (Zag (Zae (goMv rfl rfl (Zaf (a_true rfl (rfl) (Zae (goMv rfl rfl (Zab.go (st_conv rfl Try.underlying3 Try.underlying55 (rfl) rfl) ?_))))))));refine goMv rfl rfl (Zab.go (st_conv rfl Try.underlying3 Try.underlying55 (IntWalk.u64_in _ (by omega)) rfl) (Zab.go (st_rem rfl rfl (by omega) (rfl) rfl) (Zab.go (st_conv rfl Try.underlying55 Try.underlying3 (clN_eq (by omega) hn14 g[k][j]) rfl) (goAs rfl rfl (Zaf (Zae (goMv rfl rfl (goMv rfl rfl ?_))))))));refine Zau.go (ZaI 21 sl25 rfl rfl rfl rfl rfl rfl rfl rfl) (Zau.go (st_appM (emb := natD) r [clN n g[k][j]] rfl rfl rfl rfl rfl rfl rfl rfl sl25 (by show (r.length + 1) * 8 ≤ _; omega) rfl rfl rfl rfl) (goAs rfl rfl (Zaf (Zae (goMv rfl rfl (Zab.go (ZaJ rfl rfl (IntWalk.i64_in _ (by omega)) rfl) (goAs rfl rfl (Zaf ?_))))))));exact ⟨(j + 1, r ++ [clN n g[k][j]]), ⟨by show j + 1 ≤ _; omega, by rw [hr, List.take_succ_eq_append_getElem hjl, List.map_append]; rfl⟩, by show g[k].length - (j + 1) < g[k].length - j; omega, Zax hF [1, 2] rfl (rfl) ⟨rfl, rfl, rfl, rfl, rfl, rfl, rfl, trivial⟩⟩
      · refine ZaK ?_;have hre : r = rowC n g[k] := by rw [hr, take_min (m := 14) (by omega)]; rfl
        subst hre;refine Zbu (emb := natD) 8 1 (rowC n g[k]) rfl rfl rfl rfl rfl rfl rfl (Zae (goMv rfl rfl (goMv rfl rfl ?_)));refine Zau.go (ZaI 22 sl22 rfl rfl rfl rfl rfl rfl rfl rfl) (Zau.go (st_appM (emb := natsD) o [rowC n g[k]] rfl rfl rfl rfl rfl rfl rfl rfl sl22 (by show (o.length + 1) * 24 ≤ _; omega) rfl rfl rfl rfl) (goAs rfl rfl (Zaf (Zae (goMv rfl rfl (Zab.go (ZaJ rfl rfl (IntWalk.i64_in _ (by omega)) rfl) (goAs rfl rfl (Zaf ?_))))))));exact ⟨(k + 1, o ++ [rowC n g[k]]), ⟨hkn, by rw [ho, List.take_succ_eq_append_getElem hkg, List.map_append]; rfl⟩, by show n - (k + 1) < n - k; omega, Zax hF [2] rfl (rfl) ⟨rfl, rfl, rfl, rfl, rfl, trivial⟩⟩
    · refine ZaG rfl rfl rfl rfl (ZaG rfl rfl rfl rfl (Zab.go (Za6 rfl rfl rfl rfl) (Zaf (Zbx rfl rfl (ZaK ?_)))));have hre : r = rowC n g[k] := by rw [hr, take_min (m := 14) (by omega)]; rfl
      subst hre;refine Zbu (emb := natD) 8 1 (rowC n g[k]) rfl rfl rfl rfl rfl rfl rfl (Zae (goMv rfl rfl (goMv rfl rfl ?_)));refine Zau.go (ZaI 22 sl22 rfl rfl rfl rfl rfl rfl rfl rfl) (Zau.go (st_appM (emb := natsD) o [rowC n g[k]] rfl rfl rfl rfl rfl rfl rfl rfl sl22 (by show (o.length + 1) * 24 ≤ _; omega) rfl rfl rfl rfl) (goAs rfl rfl (Zaf (Zae (goMv rfl rfl (Zab.go (ZaJ rfl rfl (IntWalk.i64_in _ (by omega)) rfl) (goAs rfl rfl (Zaf ?_))))))));exact ⟨(k + 1, o ++ [rowC n g[k]]), ⟨hkn, by rw [ho, List.take_succ_eq_append_getElem hkg, List.map_append]; rfl⟩, by show n - (k + 1) < n - k; omega, Zax hF [2] rfl (rfl) ⟨rfl, rfl, rfl, rfl, rfl, trivial⟩⟩
  · refine ZaK (Zag ?_);have hke : k = n := by have := h16; omega
    subst hke;refine Zbu (emb := natsD) 6 2 o rfl rfl rfl rfl rfl rfl rfl ?_;rw [ho];refine Zae (goMv rfl rfl (goAs rfl rfl (Zaf (Za8 ?_))));exact ⟨_, [], [], ZaT rfl, rfl, rfl, rfl, rfl⟩
end Go.Proofs.Ytgdppeobgefogaa
/- Layer 31: the reference's Reverse; the components of the reversed graph. -/
namespace Go.Proofs.Ytgdppeobgefogaa
open Go.RowKit
end Go.Proofs.Ytgdppeobgefogaa
/- Layer 31: the reference's Order. -/
namespace Go.Proofs.Ytgdppeobgefogaa
open Go.RowKit
set_option maxRecDepth 100000 in
theorem hasN_p (l : List Nat) (x : Nat) (hl : l.length ≤ 2000000) : PCalls Try.prog 39 [.d (natsD l), .d (natD x)] (boolD (decide (x ∈ l))) := by
  refine Zbj Try.func39 rfl rfl Try.ntmps39 rfl rfl rfl fun F hF => (Zag (Zae ?_));refine goAs rfl rfl (Zaf (Zag (Zag (Zae (goAs rfl rfl (Zaf (Zay (a_loop (α := Nat) (fun k => ⟨18, [(0, .d (natsD l)), (1, .d (natD x)), (5, (.d (natD k)))], []⟩) (fun k => k ≤ l.length ∧ x ∉ l.take k) (fun k => l.length - k) (0) (⟨Nat.zero_le _, by simp⟩) (le_of_has ⟨rfl, rfl, rfl, trivial⟩) ?_))))))));rintro k ⟨hk, hx⟩;refine Zag (Zag (Zae (goMv rfl rfl (goMv rfl rfl (Zab.go (ZaC rfl (List.length_map ..) Try.underlying25 rfl) ?_)))))
  first | refine Zab.go (Za2 rfl rfl rfl) ?_ | refine Zab.go (ZaU rfl rfl rfl) ?_
  refine Zaf ?_
  first | refine ZaS rfl (fun h9 => ?_) (fun h9 => ?_) | refine ZaF rfl (fun h9 => ?_) (fun h9 => ?_)
  · refine ZaD (Zag (Zay (Zag ?_)));have hkl : k < l.length := Zbi h9;refine Zae (goMv rfl rfl (goMv rfl rfl ?_))
    first | refine Zab.go (Zam (k) rfl rfl (rfl) (getn hkl) Try.underlying25 rfl sz3 rfl) ?_ | refine Zab.go (Zal (k) rfl rfl (rfl) (getn hkl) rfl Try.underlying25 sz3 rfl) ?_
    first | refine Zab.go (Zai rfl rfl on3 rfl) ?_ | refine Zab.go (Zak rfl rfl rfl on3 rfl) ?_ | refine Zab.go (Zaj rfl rfl (rfl) rfl on3 rfl) ?_
    refine goMv rfl rfl ?_
    first | refine Zab.go (Zbn rfl rfl rfl) ?_ | refine Zab.go (Za0 rfl rfl rfl) ?_ | refine Zab.go (Za7 rfl rfl rfl) ?_ | refine Zab.go (Zbc Try.underlying3 rfl rfl rfl) ?_ | refine Zab.go (Za9 Try.underlying3 rfl rfl rfl) ?_ | refine Zab.go (Zba Try.underlying3 rfl rfl) ?_ | refine Zab.go (Zbb Try.underlying3 rfl rfl rfl) ?_ | refine Zab.go (Za1 Try.underlying3 rfl rfl) ?_
    refine Zaf ?_
    first | refine ZaS rfl (fun h17 => ?_) (fun h17 => ?_) | refine ZaF rfl (fun h17 => ?_) (fun h17 => ?_)
    · refine Zag (Zae (goAs rfl rfl (Zaf (Za8 ?_))));exact ⟨_, [], [], ZaT rfl, rfl, rfl, by rw [decide_eq_true (Int.ofNat.inj h17 ▸ Zbd hkl)], rfl⟩
    · refine ZaD (Zae (goMv rfl rfl (Zab.go (ZaJ rfl rfl (IntWalk.i64_in _ (by omega)) rfl) (goAs rfl rfl (Zaf ?_)))));exact ⟨k + 1, ⟨hkl, fun hm => by rw [List.take_succ_eq_append_getElem hkl] at hm; exact (List.mem_append.1 hm).elim hx fun e => h17 (by rw [List.mem_singleton.1 e, ZaY hkl])⟩, by omega, ⟨rfl, rfl, fun _ _ => Has.get (l := [(0, _), (1, _), (5, _)]) ⟨rfl, rfl, rfl, trivial⟩⟩⟩
  · refine ZaK (Zag (Zae (goAs rfl rfl (Zaf (Za8 ?_)))));exact ⟨_, [], [], ZaT rfl, rfl, rfl, by rw [decide_eq_false (by rw [← List.take_of_length_le (i := k) (l := l) (by have := h9; omega)]; exact hx)], rfl⟩
def FR (g : List (List Nat)) (out : List Nat) (i k : Nat) : Prop := i ∉ out ∧ ∀ a, a < k → a ∈ out ∨ i ∉ sucs g a
noncomputable instance (g : List (List Nat)) (out : List Nat) (i k : Nat) : Decidable (FR g out i k) := Classical.propDecidable _
structure LA (g : List (List Nat)) (out : List Nat) (m : Nat) (o : Option Nat) : Prop where
  nn : o = none → ∀ i, m ≤ i → ¬ avail g out i
  so : ∀ x, o = some x → avail g out x ∧ ∀ i, m ≤ i → avail g out i → x ≤ i
end Go.Proofs.Ytgdppeobgefogaa
/- Layer 31: an order of all nodes exists if and only if there is no cycle. Plain laws. -/
namespace Go.Proofs.Ytgdppeobgefogaa
open Go.RowKit
end Go.Proofs.Ytgdppeobgefogaa
/- Layer 31: the reference's search for a cycle, plain laws. -/
namespace Go.Proofs.Ytgdppeobgefogaa
open Go.RowKit
def lsF {α : Type} (f : Nat → Option α) : Nat → Nat → Option α
  | 0, _ => none
  | k + 1, i => match f i with
    | some x => some x
    | none => lsF f k (i + 1)
theorem lsF_none {α : Type} {f : Nat → Option α} : ∀ {k i : Nat}, (∀ j, i ≤ j → j < i + k → f j = none) → lsF f k i = none
  | 0, _, _ => rfl
  | k + 1, i, h => by
    unfold lsF;rw [h i (Nat.le_refl _) (by omega)];exact lsF_none fun j h1 h2 => h j (by omega) (by omega)
theorem lsF_some {α : Type} {f : Nat → Option α} {x : α} : ∀ {k i j : Nat}, i ≤ j → j < i + k → (∀ j', i ≤ j' → j' < j → f j' = none) → f j = some x → lsF f k i = some x
  | 0, i, j, h1, h2, _, _ => by omega
  | k + 1, i, j, h1, h2, h3, h4 => by
    unfold lsF
    by_cases e : i = j
    · subst e; rw [h4]
    · rw [h3 i (Nat.le_refl _) (by omega)];exact lsF_some (j := j) (by omega) (by omega) (fun j' h5 h6 => h3 j' (by omega) h6) h4
theorem lsF_ex {α : Type} {f : Nat → Option α} {x : α} : ∀ {k i : Nat}, lsF f k i = some x → ∃ j, i ≤ j ∧ j < i + k ∧ f j = some x
  | 0, i, h => by cases h
  | k + 1, i, h => by
    unfold lsF at h
    match e : f i, h with
    | some y, h =>
      have h : some y = some x := h;injection h with h
      subst h;exact ⟨i, Nat.le_refl _, by omega, e⟩
    | none, h =>
      have h : lsF f k (i + 1) = some x := h;obtain ⟨j, h1, h2, h3⟩ := lsF_ex h;exact ⟨j, by omega, by omega, h3⟩
theorem lsF_step {α : Type} {f : Nat → Option α} {n i : Nat} (hi : i < n) (h : f i = none) : lsF f (n - (i + 1)) (i + 1) = lsF f (n - i) i := by
  rw [show n - i = (n - (i + 1)) + 1 by omega]
  conv => rhs; unfold lsF
  rw [h]
theorem lsF_hit {α : Type} {f : Nat → Option α} {n i : Nat} {x : α} (hi : i < n) (h : f i = some x) : lsF f (n - i) i = some x := by
  rw [show n - i = (n - (i + 1)) + 1 by omega];unfold lsF;rw [h]
def lastN (p : List Nat) : Nat := nth p (p.length - 1)
theorem lastN_app (p : List Nat) (i : Nat) : lastN (p ++ [i]) = i := by simp [lastN, nth]
noncomputable def extF (g : List (List Nat)) : Nat → List Nat → Option (List Nat)
  | 0, p => if nth p 0 ∈ sucs g (lastN p) then some p else none
  | m + 1, p => lsF (fun i => if i ∈ sucs g (lastN p) ∧ i ∉ p then extF g m (p ++ [i]) else none) (g.length - (nth p 0 + 1)) (nth p 0 + 1)
noncomputable def cycF (g : List (List Nat)) : Option (List Nat) := lsF (fun n => lsF (fun i => extF g (n - 1) [i]) g.length 0) g.length 1
theorem nth0_app {p : List Nat} {i : Nat} (h : p ≠ []) : nth (p ++ [i]) 0 = nth p 0 := nth_app (List.length_pos_iff.2 h)
theorem extF_wk {g : List (List Nat)} (hg : GB g) : ∀ {m : Nat} {p l : List Nat}, p ≠ [] → lastN p < g.length → nth p 0 ≤ lastN p → nth p 0 < g.length → extF g m p = some l →
    (∃ e, l = p ++ e ∧ e.length = m) ∧ Wk (revG g) (fun x => nth p 0 ≤ x) (nth p 0) (m + 1) (lastN p)
  | 0, p, l, hp, hlt, hle, hs, h => by
    unfold extF at h
    split at h
    · rename_i hm
      injection h with h; subst h
      exact ⟨⟨[], by simp, rfl⟩, hle, nth p 0, rfl, (ZbB hs).2 ⟨hlt, hm⟩⟩
    · cases h
  | m + 1, p, l, hp, hlt, hle, hs, h => by
    unfold extF at h;obtain ⟨i, h1, h2, h3⟩ := lsF_ex h
    split at h3
    · rename_i hc
      have hi := hg.suc hlt hc.1;obtain ⟨⟨e, he, hel⟩, hw⟩ := extF_wk hg (p := p ++ [i]) (by simp) (by rw [lastN_app]; exact hi) (by rw [lastN_app, nth0_app hp]; omega) (by rw [nth0_app hp]; exact hs) h3;rw [lastN_app, nth0_app hp] at hw;exact ⟨⟨i :: e, by rw [he]; simp, by simp [hel]⟩, hle, i, hw, (ZbB hi).2 ⟨hlt, hc.1⟩⟩
    · cases h3
theorem wk_lt {g : List (List Nat)} {ok : Nat → Prop} {s : Nat} (hs : s < g.length) : ∀ {k u : Nat}, Wk (revG g) ok s k u → u < g.length
  | 0, u, h => by have h : u = s := h; subst h; exact hs
  | k + 1, u, ⟨_, v, hv, hm⟩ => ((ZbB (wk_lt hs hv)).1 hm).1
theorem wk_rh {g : List (List Nat)} {ok : Nat → Prop} {s : Nat} (hs : s < g.length) : ∀ {k u : Nat}, Wk (revG g) ok s k u → Rh (sucs g) u s
  | 0, u, h => by have h : u = s := h; subst h; exact .refl _
  | k + 1, u, ⟨_, v, hv, hm⟩ => (Rh.one ((ZbB (wk_lt hs hv)).1 hm).2).trans (wk_rh hs hv)
theorem noL_eq {g : List (List Nat)} (hg : GT g) {u s : Nat} (hu : u < g.length) (hs : s < g.length) (h1 : Rh (sucs g) u s) (h2 : Rh (sucs g) s u) : nth (noL g) u = nth (noL g) s := by
  rw [ZbC hu, ZbC hs];exact ((cn_ex g hg).scc u s hu hs).2 ⟨h1, h2⟩
theorem wk_ok {g : List (List Nat)} (hg : GT g) {s : Nat} (hs : s < g.length) : ∀ {k u : Nat}, Rh (sucs g) s u → Wk (revG g) (fun x => s ≤ x) s k u → Wk (revG g) (okS g s) s k u
  | 0, u, _, h => h
  | k + 1, u, hr, h => by
    have hul := wk_lt hs h;have hus := wk_rh hs h;obtain ⟨ho, v, hv, hm⟩ := h;have he := ((ZbB (wk_lt hs hv)).1 hm).2;exact ⟨⟨ho, noL_eq hg hul hs hus hr⟩, v, wk_ok hg hs (hr.step he) hv, hm⟩
theorem ext1_none {g : List (List Nat)} (hg : GT g) {i m : Nat} (hi : i < g.length) (h : ¬ Wk (revG g) (okS g i) i (m + 1) i) : extF g m [i] = none := by
  match e : extF g m [i] with
  | none => rfl
  | some l =>
    have := (extF_wk hg.gb (p := [i]) (by simp) hi (Nat.le_refl _) hi e).2;exact (h (wk_ok hg hi (.refl _) this)).elim
theorem wk_join {g : List (List Nat)} {ok : Nat → Prop} {s : Nat} {out : List Nat} {n : Nat} : ∀ {j u : Nat}, (∀ i, i ≤ j → ok (nth out i)) → (∀ i, i < j → nth out (i + 1) ∈ sucs g (nth out i) ∧ nth out i < g.length ∧ nth out (i + 1) < g.length) → nth out j = u → Wk (revG g) ok s n u → Wk (revG g) ok s (n + j) (nth out 0)
  | 0, u, _, _, e, h => by subst e; exact h
  | j + 1, u, ho, hs, e, h => by
    obtain ⟨h1, h2, h3⟩ := hs j (by omega);have := wk_join (n := n + 1) (j := j) (u := nth out j) (fun i hi => ho i (by omega)) (fun i hi => hs i (by omega)) rfl ⟨ho j (by omega), u, h, by subst e; exact (ZbB h3).2 ⟨h2, h1⟩⟩;rw [show n + (j + 1) = n + 1 + j by omega]; exact this
theorem ext_out {g : List (List Nat)} (hg : GT g) {s lim best : Nat} {d : Nat → Nat} {out : List Nat} (hs : s < g.length) (hD : DS (revG g) (okS g s) s lim d) (hds : d s = best) (hP : PS g s d best out) (hlen : out.length = best) :
    ∀ m j, m + j = best → 1 ≤ j → extF g m (out.take j) = some out
  | 0, j, hm, hj => by
    have e : j = best := by omega
    subst e;rw [← hlen, List.take_length];unfold extF;have h1 : d (lastN out) = 1 := by unfold lastN; rw [hP.dl _ (by omega), hlen]; omega
    obtain ⟨_, v, hv, hm⟩ := (hD.a (lastN out) (by omega)).1 |> (fun h => by rw [h1] at h; exact h);have hv : v = s := hv;subst hv;rw [hP.hd, if_pos ((ZbB hs).1 hm).2]
  | m + 1, j, hm, hj => by
    have hjl : j < out.length := by omega
    have hlim := (hD.a s (by omega)).2
    obtain ⟨a, rfl⟩ : ∃ a, j = a + 1 := ⟨j - 1, by omega⟩
    have hlast : lastN (out.take (a + 1)) = nth out a := by
      unfold lastN; rw [List.length_take, nth_take (by omega)]; congr 1; omega
    have h0 : nth (out.take (a + 1)) 0 = s := by rw [nth_take (by omega), hP.hd]
    obtain ⟨hst1, hst2, hst3⟩ := hP.stp a hjl
    have hdis : ∀ i k, i < out.length → k < out.length → nth out i = nth out k → i = k := fun i k hi hk e => by
      have h1 := hP.dl i hi;have h2 := hP.dl k hk;rw [e, h2] at h1; omega
    have hnin : nth out (a + 1) ∉ out.take (a + 1) := fun h => by
      obtain ⟨i, hi, e⟩ := List.mem_iff_getElem.1 h;rw [List.length_take] at hi;rw [List.getElem_take, ← ZaY (by omega)] at e;have := hdis i (a + 1) (by omega) hjl e;omega
    have hokA : ∀ i, i ≤ a → okS g s (nth out i) := fun i hi => by
      have h1 := hP.dl i (by omega);have h2 := (hD.a (nth out i) (by omega)).1
      obtain ⟨k, hk⟩ : ∃ k, d (nth out i) = k + 1 := ⟨d (nth out i) - 1, by omega⟩
      rw [hk] at h2; exact h2.1
    have hstA : ∀ i, i < a → nth out (i + 1) ∈ sucs g (nth out i) ∧ nth out i < g.length ∧ nth out (i + 1) < g.length := fun i hi => ⟨(hP.stp i (by omega)).1, hP.lt _ (Zbd (by omega)), hP.lt _ (Zbd (by omega))⟩
    have hrh : ∀ i, i ≤ a → Rh (sucs g) s (nth out i) := fun i => by
      induction i with
      | zero => intro _; rw [hP.hd]; exact .refl _
      | succ i ih => intro hi; exact (ih (by omega)).step (hstA i (by omega)).1
    have hal : nth out a < g.length := hP.lt _ (Zbd (by omega));unfold extF;rw [hlast, h0];have hgt := hst2.1;have hul := hP.lt _ (Zbd hjl);refine lsF_some (j := nth out (a + 1)) (by omega) (by omega) (fun i h1 h2 => ?_) ?_
    · split
      · rename_i hc
        match e : extF g m (out.take (a + 1) ++ [i]) with
        | none => rfl
        | some l =>
          have hne : out.take (a + 1) ≠ [] := fun e2 => by have := congrArg List.length e2; rw [List.length_take, List.length_nil] at this; omega
          have hil := hg.gb.suc hal hc.1;have hw := (extF_wk hg.gb (p := out.take (a + 1) ++ [i]) (by simp) (by rw [lastN_app]; exact hil) (by rw [lastN_app, nth0_app hne, h0]; omega) (by rw [nth0_app hne, h0]; exact hs) e).2;rw [lastN_app, nth0_app hne, h0] at hw;have hw2 := wk_ok hg hs ((hrh a (Nat.le_refl _)).step hc.1) hw;obtain ⟨e1, e2⟩ := hD.comp (m + 1) i (by omega) (by omega) (.inr (by omega)) hw2;have e3 := (hD.a i e1).1
          have e4 : d i = m + 1 := by
            rcases Nat.lt_or_ge (d i) (m + 1) with hl | hl
            · have hq := wk_join (g := g) (ok := okS g s) (s := s) (n := d i + 1) (j := a) (out := out) hokA hstA rfl ⟨hokA a (Nat.le_refl _), i, e3, (ZbB hil).2 ⟨hal, hc.1⟩⟩;rw [hP.hd] at hq;have := (hD.comp (d i + 1 + a) s (by omega) (by omega) (.inr (by omega)) hq).2;omega
            · omega
          have hcand : cand g (noL g) s d (best - (a + 1)) i := by
            obtain ⟨k, hk⟩ : ∃ k, d i = k + 1 := ⟨d i - 1, by omega⟩
            rw [hk] at e3;exact ⟨by omega, e3.1.2, by omega⟩
          have := hst3 i hc.1 hcand;omega
      · rfl
    · rw [if_pos ⟨hst1, hnin⟩];have := ext_out hg hs hD hds hP hlen m (a + 1 + 1) (by omega) (by omega);rw [List.take_succ_eq_append_getElem hjl, ← ZaY hjl] at this;exact this
theorem ci_len {g : List (List Nat)} (hg : GT g) {best : Nat} {out : List Nat} (h : CI g g.length best out) : out.length ≤ 1000000 := by
  have hn := hg.gb.n;have hb := h.b1
  by_cases ho : out = []
  · subst ho; simp
  · obtain ⟨s, lim, d, hs, hD, hds, hP, hlen, hno⟩ := h.some ho;omega
theorem cyc_ref {g : List (List Nat)} (hg : GT g) {best : Nat} {out : List Nat} (h : CI g g.length best out) : cycF g = if out = [] then none else some out := by
  unfold cycF
  split
  · rename_i ho
    have hb := h.none ho;refine lsF_none fun n h1 h2 => lsF_none fun i _ h4 => ext1_none hg (by omega) ?_;rw [show n - 1 + 1 = n by omega];exact h.no i (by omega) n h1 (by omega)
  · rename_i ho
    obtain ⟨s, lim, d, hs, hD, hds, hP, hlen, hno⟩ := h.some ho;have hb := h.b1
    have hlo : out.length ≤ g.length := by
      rcases Nat.lt_or_ge g.length best with hl | hl
      · have hnd : out.Nodup := by
          rw [List.nodup_iff_pairwise_ne, List.pairwise_iff_getElem];intro i k hi hk hik e;rw [← ZaY hi, ← ZaY hk] at e;have h1 := hP.dl i hi;have h2 := hP.dl k hk;rw [e, h2] at h1; omega
        have := ZbF hnd (m := List.range g.length) fun x hx => List.mem_range.2 (hP.lt x hx)
        rwa [List.length_range] at this
      · omega
    refine lsF_some (j := best) (by omega) (by omega) (fun n h1 h2 => lsF_none fun i _ h4 => ext1_none hg (by omega) ?_) (lsF_some (j := s) (Nat.zero_le _) (by omega) (fun i _ h4 => ext1_none hg (by omega) ?_) ?_)
    · rw [show n - 1 + 1 = n by omega];exact h.no i (by omega) n h1 h2
    · rw [show best - 1 + 1 = best by omega];exact hno i h4
    · have := ext_out hg hs hD hds hP hlen (best - 1) 1 (by omega) (Nat.le_refl _);rw [List.take_succ_eq_append_getElem (by omega), List.take_zero, ← ZaY (by omega), hP.hd] at this;exact this
end Go.Proofs.Ytgdppeobgefogaa
/- Layer 31: the reference's extend and Cycle. -/
namespace Go.Proofs.Ytgdppeobgefogaa
open Go.RowKit
section
variable {P : Program} {F : Fr} {s : AS} {d : Nat} {ty T T' E : TypeId} {pos : String} {aft : Array Edge} {g : Option (Nat × Bool)} {x : Operand}
theorem st_neqNT {b : Bool} {xs : List D} (hT : P.underlying T = some (.slice E)) (hx : s.ev x = some (.d (.sl (some b) xs))) (hd : Nat.blt d s.n = true) : Zab P F ⟨some d, .binOp .neq T x (.const (.slice none 0 0)) T', ty, pos, aft, g⟩ s d (.d (.raw (.bool (!b)))) :=
  ZaE _ hd fun ρ act w hs => by
    have hr := hs.ev hx
    generalize hv : act.eval x = v at hr
    cases hr with
    | d hr =>
      cases hr with
      | @sl _ _ a m cap k hn hz hln hc hm hk ha hp =>
        have h := hn b rfl;have hc : act.eval (.const (.slice none 0 0)) = .slice none 0 0 := rfl;subst h;exact ⟨.bool (!a.isNone), by simp [execOp, hv, hc, eqGuard, binOp, run_equal_slice_nil w T E a m cap hT], .d (.raw rfl)⟩
theorem st_neqNE {xs : List D} (hne : xs ≠ []) (hT : P.underlying T = some (.slice E)) (hx : s.ev x = some (.d (.sl none xs))) (hd : Nat.blt d s.n = true) : Zab P F ⟨some d, .binOp .neq T x (.const (.slice none 0 0)) T', ty, pos, aft, g⟩ s d (.d (.raw (.bool true))) :=
  ZaE _ hd fun ρ act w hs => by
    have hr := hs.ev hx
    generalize hv : act.eval x = v at hr
    cases hr with
    | d hr =>
      cases hr with
      | @sl _ _ a m cap k hn hz hln hc hm hk ha hp =>
        obtain ⟨b, o, rfl⟩ := ha hne;have hc : act.eval (.const (.slice none 0 0)) = .slice none 0 0 := rfl;exact ⟨.bool true, by simp [execOp, hv, hc, eqGuard, binOp, run_equal_slice_nil w T E (some ⟨b, o, none⟩) m cap hT], .d (.raw rfl)⟩
end
def ansO : Option (List Nat) → D
  | none => .sl (some true) []
  | some l => natsD l
theorem opt_two {α : Type} (o : Option α) : o = none ∨ ∃ l, o = some l := by cases o with | none => exact .inl rfl | some l => exact .inr ⟨l, rfl⟩
theorem extF_ne {g : List (List Nat)} : ∀ {m : Nat} {p l : List Nat}, p ≠ [] → extF g m p = some l → l ≠ []
  | 0, p, l, hp, h => by
    unfold extF at h
    split at h
    · injection h with h; subst h; exact hp
    · cases h
  | m + 1, p, l, hp, h => by
    unfold extF at h;obtain ⟨i, _, _, h3⟩ := lsF_ex h
    split at h3
    · exact extF_ne (by simp) h3
    · cases h3
theorem extF_succ (g : List (List Nat)) (m : Nat) (p : List Nat) : extF g (m + 1) p = lsF (fun i => if i ∈ sucs g (lastN p) ∧ i ∉ p then extF g m (p ++ [i]) else none) (g.length - (nth p 0 + 1)) (nth p 0 + 1) := by conv => lhs; unfold extF
theorem nth_last {p : List Nat} {a : Nat} (h : p.length = a + 1) : lastN p = nth p a := by unfold lastN; rw [h, Nat.add_sub_cancel]
set_option maxRecDepth 100000 in
theorem refext_p (g : List (List Nat)) (hg : GB g) (n : Nat) (hn : n ≤ 1000000) : ∀ (m : Nat) (p : List Nat), p ≠ [] → (∀ x ∈ p, x < g.length) → p.length + m = n → PCalls Try.prog 36 [.d (grD g), .d (natsD p), .d (natD n)] (ansO (extF g m p)) := by
  have hgn := hg.n;intro m
  induction m with
  | zero =>
    intro p hp hpl hpn
    obtain ⟨a, ha⟩ : ∃ a, p.length = a + 1 := ⟨p.length - 1, by have := List.length_pos_iff.2 hp; omega⟩
    have hla := nth_last ha;have hal := hpl _ (Zbd (l := p) (i := a) (by omega));have hsl := hg.len hal;refine Zbj Try.func36 rfl rfl Try.ntmps36 rfl rfl rfl fun F hF => (Zag ?_);refine Zae (goAs rfl rfl (Zaf (Zag (Zae (goMv rfl rfl (goMv rfl rfl (Zab.go (ZaC rfl (List.length_map ..) Try.underlying25 rfl) (Zab.go (Zbm rfl rfl (IntWalk.i64_in _ (by omega)) rfl) ?_))))))))
    first | refine Zab.go (Zam (a) rfl rfl (by omega) (getn (by omega)) Try.underlying25 rfl sz3 rfl) ?_ | refine Zab.go (Zal (a) rfl rfl (by omega) (getn (by omega)) rfl Try.underlying25 sz3 rfl) ?_
    first | refine Zab.go (Zai rfl rfl on3 rfl) ?_ | refine Zab.go (Zak rfl rfl rfl on3 rfl) ?_ | refine Zab.go (Zaj rfl rfl (rfl) rfl on3 rfl) ?_
    refine goAs rfl rfl (Zaf (Zag (Zag (Zae (goMv rfl rfl (Zab.go (ZaC rfl (List.length_map ..) Try.underlying25 rfl) (goMv rfl rfl ?_)))))))
    first | refine Zab.go (Zbn rfl rfl rfl) ?_ | refine Zab.go (Za0 rfl rfl rfl) ?_ | refine Zab.go (Za7 rfl rfl rfl) ?_ | refine Zab.go (Zbc Try.underlying3 rfl rfl rfl) ?_ | refine Zab.go (Za9 Try.underlying3 rfl rfl rfl) ?_ | refine Zab.go (Zba Try.underlying3 rfl rfl) ?_ | refine Zab.go (Zbb Try.underlying3 rfl rfl rfl) ?_ | refine Zab.go (Za1 Try.underlying3 rfl rfl) ?_
    refine Zaf (a_true rfl (decide_eq_true (by omega)) (Zag (Zag (Zbg [[], [], [0, 1], [0, 1, 2], [], [4], [4, 5], [0, 1, 2, 3, 4, 5, 6]] mixed rfl (dws ?_)))))
    first | refine Zad [0] [] rfl rfl (fun _ => Zaa (Zah rfl rfl)) ?_ | refine Zac [0] rfl rfl (fun _ => Zaa (Zah rfl rfl)) ?_
    first | refine Zad [7] [] rfl rfl (fun _ => Zaa (Zah rfl rfl)) ?_ | refine Zac [7] rfl rfl (fun _ => Zaa (Zah rfl rfl)) ?_
    first | refine Zad [20, 21] [] rfl rfl (fun _ => Zaa (Zam (nth p a) rfl rfl (rfl) (getg hal) Try.underlying22 rfl sz25 rfl)) ?_ | refine Zac [20, 21] rfl rfl (fun _ => Zaa (Zam (nth p a) rfl rfl (rfl) (getg hal) Try.underlying22 rfl sz25 rfl)) ?_ | refine Zad [20, 21] [] rfl rfl (fun _ => Zaa (Zal (nth p a) rfl rfl (rfl) (getg hal) rfl Try.underlying22 sz25 rfl)) ?_ | refine Zac [20, 21] rfl rfl (fun _ => Zaa (Zal (nth p a) rfl rfl (rfl) (getg hal) rfl Try.underlying22 sz25 rfl)) ?_
    first | refine Zad [22] [] rfl rfl (fun _ => Zaa (Zai rfl rfl on25 rfl)) ?_ | refine Zac [22] rfl rfl (fun _ => Zaa (Zai rfl rfl on25 rfl)) ?_ | refine Zad [22] [] rfl rfl (fun _ => Zaa (Zak rfl rfl rfl on25 rfl)) ?_ | refine Zac [22] rfl rfl (fun _ => Zaa (Zak rfl rfl rfl on25 rfl)) ?_ | refine Zad [22] [] rfl rfl (fun _ => Zaa (Zaj rfl rfl (rfl) rfl on25 rfl)) ?_ | refine Zac [22] rfl rfl (fun _ => Zaa (Zaj rfl rfl (rfl) rfl on25 rfl)) ?_
    first | refine Zad [1] [] rfl rfl (fun _ => Zaa (Zah rfl rfl)) ?_ | refine Zac [1] rfl rfl (fun _ => Zaa (Zah rfl rfl)) ?_
    first | refine Zad [24] [] rfl rfl (fun _ => Zaa (Zam (0) rfl rfl (rfl) (getn (by omega)) Try.underlying25 rfl sz3 rfl)) ?_ | refine Zac [24] rfl rfl (fun _ => Zaa (Zam (0) rfl rfl (rfl) (getn (by omega)) Try.underlying25 rfl sz3 rfl)) ?_ | refine Zad [24] [] rfl rfl (fun _ => Zaa (Zal (0) rfl rfl (rfl) (getn (by omega)) rfl Try.underlying25 sz3 rfl)) ?_ | refine Zac [24] rfl rfl (fun _ => Zaa (Zal (0) rfl rfl (rfl) (getn (by omega)) rfl Try.underlying25 sz3 rfl)) ?_
    first | refine Zad [25] [] rfl rfl (fun _ => Zaa (Zai rfl rfl on3 rfl)) ?_ | refine Zac [25] rfl rfl (fun _ => Zaa (Zai rfl rfl on3 rfl)) ?_ | refine Zad [25] [] rfl rfl (fun _ => Zaa (Zak rfl rfl rfl on3 rfl)) ?_ | refine Zac [25] rfl rfl (fun _ => Zaa (Zak rfl rfl rfl on3 rfl)) ?_ | refine Zad [25] [] rfl rfl (fun _ => Zaa (Zaj rfl rfl (rfl) rfl on3 rfl)) ?_ | refine Zac [25] rfl rfl (fun _ => Zaa (Zaj rfl rfl (rfl) rfl on3 rfl)) ?_
    refine dwc 7 rfl rfl rfl (dw1 8 rfl rfl (Zab.go (Zbq (hasN_p (sucs g (nth p a)) (nth p 0) (by omega)) rfl rfl) (Zaf ⟨rfl, ?_⟩)));refine dwe ?_
    first | refine ZaS rfl (fun h27 => ?_) (fun h27 => ?_) | refine ZaF rfl (fun h27 => ?_) (fun h27 => ?_)
    · refine Zag (Zae (goMv rfl rfl (goAs rfl rfl (Zaf (Za8 ?_)))));exact ⟨_, [], [], ZaT rfl, rfl, rfl, by unfold extF; rw [hla, if_pos h27]; rfl, rfl⟩
    · refine ZaD (Zag (Zae (goAs rfl rfl (Zaf (Za8 ?_)))));exact ⟨_, [], [], ZaT rfl, rfl, rfl, by unfold extF; rw [hla, if_neg h27]; rfl, rfl⟩
  | succ m ih =>
    intro p hp hpl hpn
    obtain ⟨a, ha⟩ : ∃ a, p.length = a + 1 := ⟨p.length - 1, by have := List.length_pos_iff.2 hp; omega⟩
    have hla := nth_last ha;have hal := hpl _ (Zbd (l := p) (i := a) (by omega));have h0l := hpl _ (Zbd (l := p) (i := 0) (by omega));have hsl := hg.len hal
    obtain ⟨f, hf⟩ : ∃ f, (fun i => if i ∈ sucs g (nth p a) ∧ i ∉ p then extF g m (p ++ [i]) else none) = f := ⟨_, rfl⟩
    have hE : extF g (m + 1) p = lsF f (g.length - (nth p 0 + 1)) (nth p 0 + 1) := by rw [extF_succ, hla, hf]
    have hfn : ∀ i, i ∉ sucs g (nth p a) → f i = none := fun i h => by rw [← hf]; exact if_neg fun hc => h hc.1
    have hfp : ∀ i, i ∈ p → f i = none := fun i h => by rw [← hf]; exact if_neg fun hc => hc.2 h
    have hfe : ∀ i, i ∈ sucs g (nth p a) → i ∉ p → f i = extF g m (p ++ [i]) := fun i h1 h2 => by rw [← hf]; exact if_pos ⟨h1, h2⟩
    rw [hE];refine Zbj Try.func36 rfl rfl Try.ntmps36 rfl rfl rfl fun F hF => (Zag ?_);refine Zae (goAs rfl rfl (Zaf (Zag (Zae (goMv rfl rfl (goMv rfl rfl (Zab.go (ZaC rfl (List.length_map ..) Try.underlying25 rfl) (Zab.go (Zbm rfl rfl (IntWalk.i64_in _ (by omega)) rfl) ?_))))))))
    first | refine Zab.go (Zam (a) rfl rfl (by omega) (getn (by omega)) Try.underlying25 rfl sz3 rfl) ?_ | refine Zab.go (Zal (a) rfl rfl (by omega) (getn (by omega)) rfl Try.underlying25 sz3 rfl) ?_
    first | refine Zab.go (Zai rfl rfl on3 rfl) ?_ | refine Zab.go (Zak rfl rfl rfl on3 rfl) ?_ | refine Zab.go (Zaj rfl rfl (rfl) rfl on3 rfl) ?_
    refine goAs rfl rfl (Zaf (Zag (Zag (Zae (goMv rfl rfl (Zab.go (ZaC rfl (List.length_map ..) Try.underlying25 rfl) (goMv rfl rfl ?_)))))))
    first | refine Zab.go (Zbn rfl rfl rfl) ?_ | refine Zab.go (Za0 rfl rfl rfl) ?_ | refine Zab.go (Za7 rfl rfl rfl) ?_ | refine Zab.go (Zbc Try.underlying3 rfl rfl rfl) ?_ | refine Zab.go (Za9 Try.underlying3 rfl rfl rfl) ?_ | refine Zab.go (Zba Try.underlying3 rfl rfl) ?_ | refine Zab.go (Zbb Try.underlying3 rfl rfl rfl) ?_ | refine Zab.go (Za1 Try.underlying3 rfl rfl) ?_
    refine Zaf (Zbx rfl (decide_eq_false (by omega)) (ZaD (Zag (Zag (Zae (goMv rfl rfl ?_))))))
    first | refine Zab.go (Zam (0) rfl rfl (rfl) (getn (by omega)) Try.underlying25 rfl sz3 rfl) ?_ | refine Zab.go (Zal (0) rfl rfl (rfl) (getn (by omega)) rfl Try.underlying25 sz3 rfl) ?_
    first | refine Zab.go (Zai rfl rfl on3 rfl) ?_ | refine Zab.go (Zak rfl rfl rfl on3 rfl) ?_ | refine Zab.go (Zaj rfl rfl (rfl) rfl on3 rfl) ?_
    refine Zab.go (ZaJ rfl rfl (IntWalk.i64_in _ (by omega)) rfl) (goAs rfl rfl (Zaf (Zay (ZaZ (α := Nat) (fun k => ⟨63, [(0, .d (grD g)), (1, .d (natsD p)), (2, .d (natD n)), (7, (.d (natD (nth p a)))), (8, (.d (natD k)))], []⟩) (fun k => k ≤ g.length ∧ lsF f (g.length - k) k = lsF f (g.length - (nth p 0 + 1)) (nth p 0 + 1)) (fun k => g.length - k) (nth p 0 + 1) (⟨h0l, rfl⟩) (Zax hF [] rfl rfl ⟨rfl, rfl, rfl, rfl, rfl, trivial⟩) ?_))));rintro k ⟨hk, he⟩;refine Zag (Zag (Zae (goMv rfl rfl (goMv rfl rfl (Zab.go (ZaC rfl (List.length_map ..) Try.underlying22 rfl) ?_)))))
    first | refine Zab.go (Za2 rfl rfl rfl) ?_ | refine Zab.go (ZaU rfl rfl rfl) ?_
    refine Zaf ?_
    first | refine ZaS rfl (fun h36 => ?_) (fun h36 => ?_) | refine ZaF rfl (fun h36 => ?_) (fun h36 => ?_)
    · refine ZaD (Zag (Zay (Zag (Zag ?_))));have hkl : k < g.length := Zbi h36;refine Zae (goMv rfl rfl (goMv rfl rfl ?_))
      first | refine Zab.go (Zam (nth p a) rfl rfl (rfl) (getg hal) Try.underlying22 rfl sz25 rfl) ?_ | refine Zab.go (Zal (nth p a) rfl rfl (rfl) (getg hal) rfl Try.underlying22 sz25 rfl) ?_
      first | refine Zab.go (Zai rfl rfl on25 rfl) ?_ | refine Zab.go (Zak rfl rfl rfl on25 rfl) ?_ | refine Zab.go (Zaj rfl rfl (rfl) rfl on25 rfl) ?_
      refine goMv rfl rfl (Zab.go (Zbq (hasN_p (sucs g (nth p a)) k (by omega)) rfl rfl) ?_)
      first | refine Zab.go (st_notP rfl rfl) ?_ | refine Zab.go (st_not rfl rfl) ?_
      refine goMv rfl rfl ?_
      first | refine Zbw 46 rfl (fun h46 => ?_) (fun h46 => ?_) | refine Zbr 46 rfl (fun h46 => ?_) (fun h46 => ?_)
      · refine ZaG rfl rfl rfl rfl (ZaG rfl rfl rfl rfl (ZaG rfl rfl rfl rfl ?_));refine Zab.go (Za3 rfl rfl rfl rfl) (Zaf (a_true rfl rfl (ZaK (Zae (goMv rfl rfl (Zab.go (ZaJ rfl rfl (IntWalk.i64_in _ (by omega)) rfl) (goAs rfl rfl (Zaf ?_))))))));exact ⟨k + 1, ⟨hkl, by rw [lsF_step hkl (hfn k h46), he]⟩, by omega, Zax hF [] rfl (rfl) ⟨rfl, rfl, rfl, rfl, rfl, trivial⟩⟩
      · refine ZaH rfl rfl rfl (goMv rfl rfl (ZaH rfl rfl rfl (goMv rfl rfl (ZaH rfl rfl rfl (Zab.go (Zbq (hasN_p p k (by omega)) rfl rfl) (Zab.go (Za6 rfl rfl rfl rfl) (Zaf ?_)))))))
        first | refine ZaS rfl (fun h50 => ?_) (fun h50 => ?_) | refine ZaF rfl (fun h50 => ?_) (fun h50 => ?_)
        · refine ZaK (Zae (goMv rfl rfl (Zab.go (ZaJ rfl rfl (IntWalk.i64_in _ (by omega)) rfl) (goAs rfl rfl (Zaf ?_)))));exact ⟨k + 1, ⟨hkl, by rw [lsF_step hkl (hfp k h50), he]⟩, by omega, Zax hF [] rfl (rfl) ⟨rfl, rfl, rfl, rfl, rfl, trivial⟩⟩
        · refine ZaD (Zag (Zae (goMv rfl rfl (Zau.go (ZaI 21 sl25 rfl rfl rfl rfl rfl rfl rfl rfl) (goMv rfl rfl (Zau.go (st_appMD (emb := natD) [] p rfl rfl rfl rfl rfl rfl (fun _ => rfl) sl25 (by show (0 + p.length) * 8 ≤ _; omega) rfl rfl rfl rfl) (goMv rfl rfl ?_)))))));refine Zau.go (ZaI 22 sl25 rfl rfl rfl rfl rfl rfl rfl rfl) (Zau.go (st_appM (emb := natD) p [k] rfl rfl rfl rfl rfl rfl rfl rfl sl25 (by show (p.length + 1) * 8 ≤ _; omega) rfl rfl rfl rfl) (ZbD (emb := natD) 57 21 (p ++ [k]) rfl rfl rfl rfl rfl rfl rfl (goMv rfl rfl (Zab.go (Zbq (ih (p ++ [k]) (by simp) (fun x hx => (List.mem_append.1 hx).elim (hpl x) fun e => by rw [List.mem_singleton.1 e]; exact hkl) (by rw [List.length_append, List.length_singleton]; omega)) rfl rfl) (goAs rfl rfl (Zaf (Zag (Zae ?_))))))));rcases opt_two (extF g m (p ++ [k])) with he2 | ⟨l, he2⟩ <;> rw [he2]
          · refine goMv rfl rfl ?_;refine Zab.go (st_neqNT Try.underlying25 rfl rfl) (Zaf (Zbx rfl (rfl) (ZaD (Zae (goMv rfl rfl (Zab.go (ZaJ rfl rfl (IntWalk.i64_in _ (by omega)) rfl) (goAs rfl rfl (Zaf ?_))))))));exact ⟨k + 1, ⟨hkl, by rw [lsF_step hkl (by rw [hfe k (Classical.not_not.1 h46) h50]; exact he2), he]⟩, by omega, Zax hF [] rfl (rfl) ⟨rfl, rfl, rfl, rfl, rfl, trivial⟩⟩
          · refine goMv rfl rfl ?_;refine Zab.go (st_neqNE (by simpa using extF_ne (by simp) he2) Try.underlying25 rfl rfl) (Zaf (a_true rfl (rfl) (Zag (Zae (goMv rfl rfl (goAs rfl rfl (Zaf (Za8 ?_))))))));exact ⟨_, [], [], ZaT rfl, rfl, rfl, by rw [← he, lsF_hit hkl ((hfe k (Classical.not_not.1 h46) h50).trans he2)], rfl⟩
    · refine ZaK (Zag (Zae (goAs rfl rfl (Zaf (Za8 ?_)))));exact ⟨_, [], [], ZaT rfl, rfl, rfl, by rw [← he, show g.length - k = 0 by have := h36; omega]; rfl, rfl⟩
set_option maxRecDepth 100000 in
theorem refcyc_p (g : List (List Nat)) (hg : GB g) : PCalls Try.prog 15 [.d (grD g)] (ansO (cycF g)) := by
  have hgn := hg.n
  obtain ⟨C, hC⟩ : ∃ C, (fun n => lsF (fun i => extF g (n - 1) [i]) g.length 0) = C := ⟨_, rfl⟩
  have hE : cycF g = lsF C g.length 1 := by unfold cycF; rw [hC]
  rw [hE];refine Zbj Try.func15 rfl rfl Try.ntmps15 rfl rfl rfl fun F hF => (Zag (Zae ?_));refine goAs rfl rfl (Zaf (Zag (Zag (Zae (goAs rfl rfl (Zaf (Zay (ZaZ (α := Nat) (fun n => ⟨26, [(0, .d (grD g)), (3, (.d (natD n)))], []⟩) (fun n => 1 ≤ n ∧ n ≤ g.length + 1 ∧ lsF C (g.length + 1 - n) n = lsF C g.length 1) (fun n => g.length + 1 - n) (1) (⟨Nat.le_refl _, by omega, rfl⟩) (Zax hF [] rfl rfl ⟨rfl, rfl, trivial⟩) ?_))))))));rintro n ⟨hn1, hn, he⟩;refine Zag (Zag (Zae (goMv rfl rfl (goMv rfl rfl (Zab.go (ZaC rfl (List.length_map ..) Try.underlying22 rfl) (Zab.go (st_leq rfl rfl rfl) (Zaf ?_)))))))
  first | refine ZaS rfl (fun h9 => ?_) (fun h9 => ?_) | refine ZaF rfl (fun h9 => ?_) (fun h9 => ?_)
  · refine ZaD (Zag (Zay (Zag ?_)));have hnl : n ≤ g.length := by have := h9; omega
    obtain ⟨G, hG⟩ : ∃ G, (fun i => extF g (n - 1) [i]) = G := ⟨_, rfl⟩
    refine Zae (goAs rfl rfl (Zaf (Zay (ZaZ (α := Nat) (fun i => ⟨26, [(0, .d (grD g)), (3, (.d (natD n))), (4, (.d (natD i)))], []⟩) (fun i => i ≤ g.length ∧ lsF G (g.length - i) i = lsF G g.length 0) (fun i => g.length - i) (0) (⟨Nat.zero_le _, rfl⟩) (Zax hF [] rfl rfl ⟨rfl, rfl, rfl, trivial⟩) ?_))));rintro i ⟨hi, hi2⟩;refine Zag (Zag (Zae (goMv rfl rfl (goMv rfl rfl (Zab.go (ZaC rfl (List.length_map ..) Try.underlying22 rfl) ?_)))))
    first | refine Zab.go (Za2 rfl rfl rfl) ?_ | refine Zab.go (ZaU rfl rfl rfl) ?_
    refine Zaf ?_
    first | refine ZaS rfl (fun h15 => ?_) (fun h15 => ?_) | refine ZaF rfl (fun h15 => ?_) (fun h15 => ?_)
    · refine ZaD (Zag (Zay (Zag ?_)));have hil : i < g.length := Zbi h15;refine Zae (goMv rfl rfl ?_);refine goMv rfl rfl (Zau.go (ZaI 21 sl25 rfl rfl rfl rfl rfl rfl rfl rfl) (ZbD (emb := natD) 20 21 [i] rfl rfl rfl rfl rfl rfl rfl (goMv rfl rfl (Zab.go (Zbq (refext_p g hg n (by omega) (n - 1) [i] (by simp) (fun x hx => by rw [List.mem_singleton.1 hx]; exact hil) (by show 1 + (n - 1) = n; omega)) rfl rfl) (goAs rfl rfl (Zaf (Zag (Zae ?_))))))));rcases opt_two (extF g (n - 1) [i]) with he2 | ⟨l, he2⟩ <;> rw [he2]
      · refine goMv rfl rfl ?_;refine Zab.go (st_neqNT Try.underlying25 rfl rfl) (Zaf (Zbx rfl (rfl) (ZaD (Zae (goMv rfl rfl (Zab.go (ZaJ rfl rfl (IntWalk.i64_in _ (by omega)) rfl) (goAs rfl rfl (Zaf ?_))))))));exact ⟨i + 1, ⟨hil, by rw [lsF_step hil (by rw [← hG]; exact he2), hi2]⟩, by omega, Zax hF [] rfl (rfl) ⟨rfl, rfl, rfl, trivial⟩⟩
      · refine goMv rfl rfl ?_;refine Zab.go (st_neqNE (by simpa using extF_ne (by simp) he2) Try.underlying25 rfl rfl) (Zaf (a_true rfl (rfl) (Zag (Zae (goMv rfl rfl (goAs rfl rfl (Zaf (Za8 ?_))))))));exact ⟨_, [], [], ZaT rfl, rfl, rfl, by rw [← he, lsF_hit (by omega) (by rw [← hC]; show lsF (fun i => extF g (n - 1) [i]) g.length 0 = some l; rw [hG, ← hi2]; exact lsF_hit hil (by rw [← hG]; exact he2))], rfl⟩
    · refine ZaK (Zae (goMv rfl rfl (Zab.go (ZaJ rfl rfl (IntWalk.i64_in _ (by omega)) rfl) (goAs rfl rfl (Zaf ?_)))));exact ⟨n + 1, ⟨by omega, by omega, by rw [lsF_step (by omega) (by rw [← hC]; show lsF (fun i => extF g (n - 1) [i]) g.length 0 = none; rw [hG, ← hi2, show g.length - i = 0 by have := h15; omega]; rfl), he]⟩, by omega, Zax hF [] rfl (rfl) ⟨rfl, rfl, trivial⟩⟩
  · refine ZaK (Zag (Zae (goAs rfl rfl (Zaf (Za8 ?_)))));exact ⟨_, [], [], ZaT rfl, rfl, rfl, by rw [← he, show g.length + 1 - n = 0 by have := h9; omega]; rfl, rfl⟩
end Go.Proofs.Ytgdppeobgefogaa
