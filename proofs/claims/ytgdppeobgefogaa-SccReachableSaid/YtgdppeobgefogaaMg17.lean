/- Layer 31: the example. -/
import Derived.Test.YtgdppeobgefogaaMg16
namespace Go.Proofs.Ytgdppeobgefogaa
open Go.RowKit
theorem takeAll {α : Type} {l m : List α} {k : Nat} (h1 : l.length = m.length) (h2 : k = l.length) (h : l.take k = m.take k) : l = m := by
  subst h2;rw [List.take_length, h1, List.take_length] at h; exact h
theorem take_eq {α : Type} {l m : List α} {k : Nat} (h1 : k < l.length) (h2 : k < m.length) (h : l.take k = m.take k) (e : l[k] = m[k]) : l.take (k + 1) = m.take (k + 1) := by
  rw [List.take_succ_eq_append_getElem h1, List.take_succ_eq_append_getElem h2, h, e]
theorem getR {l : List Nat} {k : Nat} (h : k < l.length) : (l.map natD)[k]? = some (natD l[k]) := getm h
theorem getS {g : List (List Nat)} {k : Nat} (h : k < g.length) : (g.map natsD)[k]? = some (natsD g[k]) := getm h
set_option maxRecDepth 100000 in
theorem eqN_p (l m : List Nat) (hl : l.length ≤ 2000000) (hm : m.length ≤ 2000000) : PCalls Try.prog 16 [.d (natsD l), .d (natsD m)] (boolD (decide (l = m))) := by
  refine Zbe Try.func16 rfl rfl Try.ntmps16 rfl rfl rfl fun F hF => (Zag (Zae ?_));refine goAs rfl rfl (Zaf (Zag (Zag (Zae (goMv rfl rfl (Zab.go (Zax rfl (List.length_map ..) Try.underlying25 rfl) (goMv rfl rfl (Zab.go (Zax rfl (List.length_map ..) Try.underlying25 rfl) ?_))))))))
  first | refine Zab.go (st_neq rfl rfl rfl) ?_ | refine Zab.go (ZbB rfl rfl rfl) ?_ | refine Zab.go (ZbD rfl rfl rfl) ?_ | refine Zab.go (st_neqB Try.underlying3 rfl rfl rfl) ?_ | refine Zab.go (st_neqP Try.underlying3 rfl rfl rfl) ?_ | refine Zab.go (st_neqN Try.underlying3 rfl rfl) ?_ | refine Zab.go (st_neqF Try.underlying3 rfl rfl rfl) ?_ | refine Zab.go (st_neqFN Try.underlying3 rfl rfl) ?_
  refine Zaf ?_
  first | refine ZaP rfl (fun h10 => ?_) (fun h10 => ?_) | refine ZaG rfl (fun h10 => ?_) (fun h10 => ?_)
  · refine Zag (Zae (goAs rfl rfl (Zaf (Zbh ?_))));exact ⟨_, [], [], ZaX rfl, rfl, rfl, by rw [decide_eq_false (fun e => h10 (by rw [e]))], rfl⟩
  · refine Zay (Zag (Zag (Zae (goAs rfl rfl (Zaf (Zaw ?_))))));have hlm : l.length = m.length := Int.ofNat.inj (Classical.not_not.1 h10);refine a_loop (α := Nat) (fun k => ⟨26, [(0, .d (natsD l)), (1, .d (natsD m)), (5, (.d (natD k)))], []⟩) (fun k => k ≤ l.length ∧ l.take k = m.take k) (fun k => l.length - k) (0) (⟨Nat.zero_le _, by simp⟩) (le_of_has ⟨rfl, rfl, rfl, trivial⟩) ?_;rintro k ⟨hk, hn⟩;refine Zag (Zag (Zae (goMv rfl rfl (goMv rfl rfl (Zab.go (Zax rfl (List.length_map ..) Try.underlying25 rfl) ?_)))))
    first | refine Zab.go (ZaU rfl rfl rfl) ?_ | refine Zab.go (ZaN rfl rfl rfl) ?_
    refine Zaf ?_
    first | refine ZaP rfl (fun h14 => ?_) (fun h14 => ?_) | refine ZaG rfl (fun h14 => ?_) (fun h14 => ?_)
    · refine Zay (Zag (Zaw (Zag ?_)));have hkl : k < l.length := Za4 h14;have hkm : k < m.length := by omega
      refine Zbm [[], [], [0, 1], [0, 1, 2], [], [], [4, 5], [4, 5, 6], [0, 1, 2, 3, 4, 5, 6, 7]] mixed rfl (dws ?_)
      first | refine Zad [0] [] rfl rfl (fun _ => Zaa (Zai rfl rfl)) ?_ | refine Zac [0] rfl rfl (fun _ => Zaa (Zai rfl rfl)) ?_
      first | refine Zad [5] [] rfl rfl (fun _ => Zaa (Zai rfl rfl)) ?_ | refine Zac [5] rfl rfl (fun _ => Zaa (Zai rfl rfl)) ?_
      first | refine Zad [17, 18] [] rfl rfl (fun _ => Zaa (Zam (k) rfl rfl (rfl) (getR hkl) Try.underlying25 rfl sz3 rfl)) ?_ | refine Zac [17, 18] rfl rfl (fun _ => Zaa (Zam (k) rfl rfl (rfl) (getR hkl) Try.underlying25 rfl sz3 rfl)) ?_ | refine Zad [17, 18] [] rfl rfl (fun _ => Zaa (Zal (k) rfl rfl (rfl) (getR hkl) rfl Try.underlying25 sz3 rfl)) ?_ | refine Zac [17, 18] rfl rfl (fun _ => Zaa (Zal (k) rfl rfl (rfl) (getR hkl) rfl Try.underlying25 sz3 rfl)) ?_
      first | refine Zad [19] [] rfl rfl (fun _ => Zaa (Zah rfl rfl on3 rfl)) ?_ | refine Zac [19] rfl rfl (fun _ => Zaa (Zah rfl rfl on3 rfl)) ?_ | refine Zad [19] [] rfl rfl (fun _ => Zaa (Zak rfl rfl rfl on3 rfl)) ?_ | refine Zac [19] rfl rfl (fun _ => Zaa (Zak rfl rfl rfl on3 rfl)) ?_ | refine Zad [19] [] rfl rfl (fun _ => Zaa (Zaj rfl rfl (rfl) rfl on3 rfl)) ?_ | refine Zac [19] rfl rfl (fun _ => Zaa (Zaj rfl rfl (rfl) rfl on3 rfl)) ?_
      first | refine Zad [1] [] rfl rfl (fun _ => Zaa (Zai rfl rfl)) ?_ | refine Zac [1] rfl rfl (fun _ => Zaa (Zai rfl rfl)) ?_
      first | refine Zad [5] [] rfl rfl (fun _ => Zaa (Zai rfl rfl)) ?_ | refine Zac [5] rfl rfl (fun _ => Zaa (Zai rfl rfl)) ?_
      first | refine Zad [21, 22] [] rfl rfl (fun _ => Zaa (Zam (k) rfl rfl (rfl) (getR hkm) Try.underlying25 rfl sz3 rfl)) ?_ | refine Zac [21, 22] rfl rfl (fun _ => Zaa (Zam (k) rfl rfl (rfl) (getR hkm) Try.underlying25 rfl sz3 rfl)) ?_ | refine Zad [21, 22] [] rfl rfl (fun _ => Zaa (Zal (k) rfl rfl (rfl) (getR hkm) rfl Try.underlying25 sz3 rfl)) ?_ | refine Zac [21, 22] rfl rfl (fun _ => Zaa (Zal (k) rfl rfl (rfl) (getR hkm) rfl Try.underlying25 sz3 rfl)) ?_
      first | refine Zad [23] [] rfl rfl (fun _ => Zaa (Zah rfl rfl on3 rfl)) ?_ | refine Zac [23] rfl rfl (fun _ => Zaa (Zah rfl rfl on3 rfl)) ?_ | refine Zad [23] [] rfl rfl (fun _ => Zaa (Zak rfl rfl rfl on3 rfl)) ?_ | refine Zac [23] rfl rfl (fun _ => Zaa (Zak rfl rfl rfl on3 rfl)) ?_ | refine Zad [23] [] rfl rfl (fun _ => Zaa (Zaj rfl rfl (rfl) rfl on3 rfl)) ?_ | refine Zac [23] rfl rfl (fun _ => Zaa (Zaj rfl rfl (rfl) rfl on3 rfl)) ?_
      refine dwc 8 rfl rfl rfl (dw1 9 rfl rfl ?_)
      first | refine Zab.go (st_neq rfl rfl rfl) ?_ | refine Zab.go (ZbB rfl rfl rfl) ?_ | refine Zab.go (ZbD rfl rfl rfl) ?_ | refine Zab.go (st_neqB Try.underlying3 rfl rfl rfl) ?_ | refine Zab.go (st_neqP Try.underlying3 rfl rfl rfl) ?_ | refine Zab.go (st_neqN Try.underlying3 rfl rfl) ?_ | refine Zab.go (st_neqF Try.underlying3 rfl rfl rfl) ?_ | refine Zab.go (st_neqFN Try.underlying3 rfl rfl) ?_
      refine Zaf ⟨rfl, ?_⟩;refine dwe ?_
      first | refine ZaP rfl (fun h25 => ?_) (fun h25 => ?_) | refine ZaG rfl (fun h25 => ?_) (fun h25 => ?_)
      · refine Zag (Zae (goAs rfl rfl (Zaf (Zbh ?_))));exact ⟨_, [], [], ZaX rfl, rfl, rfl, by rw [decide_eq_false (fun e => h25 (by subst e; rfl))], rfl⟩
      · refine Zay (Zae (goMv rfl rfl (Zab.go (ZaI rfl rfl (IntWalk.i64_in _ (by omega)) rfl) (goAs rfl rfl (Zaf ?_)))));exact ⟨k + 1, ⟨hkl, take_eq hkl hkm hn (Int.ofNat.inj (Classical.not_not.1 h25))⟩, by omega, ⟨rfl, rfl, fun _ _ => Has.get (l := [(0, _), (1, _), (5, _)]) ⟨rfl, rfl, rfl, trivial⟩⟩⟩
    · refine ZaJ (Zag (Zae (goAs rfl rfl (Zaf (Zbh ?_)))));exact ⟨_, [], [], ZaX rfl, rfl, rfl, by rw [decide_eq_true (takeAll hlm (by have := h14; omega) hn)], rfl⟩
set_option maxRecDepth 100000 in
theorem same_p (l m : List (List Nat)) (hl : l.length ≤ 2000000) (hm : m.length ≤ 2000000) (hl2 : ∀ x ∈ l, x.length ≤ 2000000) (hm2 : ∀ x ∈ m, x.length ≤ 2000000) : PCalls Try.prog 18 [.d (grD l), .d (grD m)] (boolD (decide (l = m))) := by
  refine Zbe Try.func18 rfl rfl Try.ntmps18 rfl rfl rfl fun F hF => (Zag (Zae ?_));refine goAs rfl rfl (Zaf (Zag (Zag (Zae (goMv rfl rfl (Zab.go (Zax rfl (List.length_map ..) Try.underlying22 rfl) (goMv rfl rfl (Zab.go (Zax rfl (List.length_map ..) Try.underlying22 rfl) ?_))))))))
  first | refine Zab.go (st_neq rfl rfl rfl) ?_ | refine Zab.go (ZbB rfl rfl rfl) ?_ | refine Zab.go (ZbD rfl rfl rfl) ?_ | refine Zab.go (st_neqB Try.underlying3 rfl rfl rfl) ?_ | refine Zab.go (st_neqP Try.underlying3 rfl rfl rfl) ?_ | refine Zab.go (st_neqN Try.underlying3 rfl rfl) ?_ | refine Zab.go (st_neqF Try.underlying3 rfl rfl rfl) ?_ | refine Zab.go (st_neqFN Try.underlying3 rfl rfl) ?_
  refine Zaf ?_
  first | refine ZaP rfl (fun h10 => ?_) (fun h10 => ?_) | refine ZaG rfl (fun h10 => ?_) (fun h10 => ?_)
  · refine Zag (Zae (goAs rfl rfl (Zaf (Zbh ?_))));exact ⟨_, [], [], ZaX rfl, rfl, rfl, by rw [decide_eq_false (fun e => h10 (by rw [e]))], rfl⟩
  · refine Zay (Zag (Zag (Zae (goAs rfl rfl (Zaf (Zaw ?_))))));have hlm : l.length = m.length := Int.ofNat.inj (Classical.not_not.1 h10);refine a_loop (α := Nat) (fun k => ⟨27, [(0, .d (grD l)), (1, .d (grD m)), (5, (.d (natD k)))], []⟩) (fun k => k ≤ l.length ∧ l.take k = m.take k) (fun k => l.length - k) (0) (⟨Nat.zero_le _, by simp⟩) (le_of_has ⟨rfl, rfl, rfl, trivial⟩) ?_;rintro k ⟨hk, hn⟩;refine Zag (Zag (Zae (goMv rfl rfl (goMv rfl rfl (Zab.go (Zax rfl (List.length_map ..) Try.underlying22 rfl) ?_)))))
    first | refine Zab.go (ZaU rfl rfl rfl) ?_ | refine Zab.go (ZaN rfl rfl rfl) ?_
    refine Zaf ?_
    first | refine ZaP rfl (fun h14 => ?_) (fun h14 => ?_) | refine ZaG rfl (fun h14 => ?_) (fun h14 => ?_)
    · refine Zay (Zag (Zaw (Zag ?_)));have hkl : k < l.length := Za4 h14;have hkm : k < m.length := by omega
      refine Zbm [[], [], [0, 1], [0, 1, 2], [], [], [4, 5], [4, 5, 6], [0, 1, 2, 3, 4, 5, 6, 7], [0, 1, 2, 3, 4, 5, 6, 7, 8]] mixed rfl (dws ?_)
      first | refine Zad [0] [] rfl rfl (fun _ => Zaa (Zai rfl rfl)) ?_ | refine Zac [0] rfl rfl (fun _ => Zaa (Zai rfl rfl)) ?_
      first | refine Zad [5] [] rfl rfl (fun _ => Zaa (Zai rfl rfl)) ?_ | refine Zac [5] rfl rfl (fun _ => Zaa (Zai rfl rfl)) ?_
      first | refine Zad [17, 18] [] rfl rfl (fun _ => Zaa (Zam (k) rfl rfl (rfl) (getS hkl) Try.underlying22 rfl sz25 rfl)) ?_ | refine Zac [17, 18] rfl rfl (fun _ => Zaa (Zam (k) rfl rfl (rfl) (getS hkl) Try.underlying22 rfl sz25 rfl)) ?_ | refine Zad [17, 18] [] rfl rfl (fun _ => Zaa (Zal (k) rfl rfl (rfl) (getS hkl) rfl Try.underlying22 sz25 rfl)) ?_ | refine Zac [17, 18] rfl rfl (fun _ => Zaa (Zal (k) rfl rfl (rfl) (getS hkl) rfl Try.underlying22 sz25 rfl)) ?_
      first | refine Zad [19] [] rfl rfl (fun _ => Zaa (Zah rfl rfl on25 rfl)) ?_ | refine Zac [19] rfl rfl (fun _ => Zaa (Zah rfl rfl on25 rfl)) ?_ | refine Zad [19] [] rfl rfl (fun _ => Zaa (Zak rfl rfl rfl on25 rfl)) ?_ | refine Zac [19] rfl rfl (fun _ => Zaa (Zak rfl rfl rfl on25 rfl)) ?_ | refine Zad [19] [] rfl rfl (fun _ => Zaa (Zaj rfl rfl (rfl) rfl on25 rfl)) ?_ | refine Zac [19] rfl rfl (fun _ => Zaa (Zaj rfl rfl (rfl) rfl on25 rfl)) ?_
      first | refine Zad [1] [] rfl rfl (fun _ => Zaa (Zai rfl rfl)) ?_ | refine Zac [1] rfl rfl (fun _ => Zaa (Zai rfl rfl)) ?_
      first | refine Zad [5] [] rfl rfl (fun _ => Zaa (Zai rfl rfl)) ?_ | refine Zac [5] rfl rfl (fun _ => Zaa (Zai rfl rfl)) ?_
      first | refine Zad [21, 22] [] rfl rfl (fun _ => Zaa (Zam (k) rfl rfl (rfl) (getS hkm) Try.underlying22 rfl sz25 rfl)) ?_ | refine Zac [21, 22] rfl rfl (fun _ => Zaa (Zam (k) rfl rfl (rfl) (getS hkm) Try.underlying22 rfl sz25 rfl)) ?_ | refine Zad [21, 22] [] rfl rfl (fun _ => Zaa (Zal (k) rfl rfl (rfl) (getS hkm) rfl Try.underlying22 sz25 rfl)) ?_ | refine Zac [21, 22] rfl rfl (fun _ => Zaa (Zal (k) rfl rfl (rfl) (getS hkm) rfl Try.underlying22 sz25 rfl)) ?_
      first | refine Zad [23] [] rfl rfl (fun _ => Zaa (Zah rfl rfl on25 rfl)) ?_ | refine Zac [23] rfl rfl (fun _ => Zaa (Zah rfl rfl on25 rfl)) ?_ | refine Zad [23] [] rfl rfl (fun _ => Zaa (Zak rfl rfl rfl on25 rfl)) ?_ | refine Zac [23] rfl rfl (fun _ => Zaa (Zak rfl rfl rfl on25 rfl)) ?_ | refine Zad [23] [] rfl rfl (fun _ => Zaa (Zaj rfl rfl (rfl) rfl on25 rfl)) ?_ | refine Zac [23] rfl rfl (fun _ => Zaa (Zaj rfl rfl (rfl) rfl on25 rfl)) ?_
      refine dwc 8 rfl rfl rfl (dw1 9 rfl rfl (Zab.go (Zbr (eqN_p l[k] m[k] (hl2 _ (List.getElem_mem hkl)) (hm2 _ (List.getElem_mem hkm))) rfl rfl) (Zaf ⟨rfl, ?_⟩)));refine dw1 10 rfl rfl ?_
      first | refine Zab.go (st_notP rfl rfl) ?_ | refine Zab.go (st_not rfl rfl) ?_
      refine Zaf ⟨rfl, ?_⟩;refine dwe ?_
      first | refine ZaP rfl (fun h26 => ?_) (fun h26 => ?_) | refine ZaG rfl (fun h26 => ?_) (fun h26 => ?_)
      · refine Zag (Zae (goAs rfl rfl (Zaf (Zbh ?_))));exact ⟨_, [], [], ZaX rfl, rfl, rfl, by rw [decide_eq_false (fun e => h26 (by subst e; rfl))], rfl⟩
      · refine Zay (Zae (goMv rfl rfl (Zab.go (ZaI rfl rfl (IntWalk.i64_in _ (by omega)) rfl) (goAs rfl rfl (Zaf ?_)))));exact ⟨k + 1, ⟨hkl, take_eq hkl hkm hn (Classical.not_not.1 h26)⟩, by omega, ⟨rfl, rfl, fun _ _ => Has.get (l := [(0, _), (1, _), (5, _)]) ⟨rfl, rfl, rfl, trivial⟩⟩⟩
    · refine ZaJ (Zag (Zae (goAs rfl rfl (Zaf (Zbh ?_)))));exact ⟨_, [], [], ZaX rfl, rfl, rfl, by rw [decide_eq_true (takeAll hlm (by have := h14; omega) hn)], rfl⟩
theorem cycle0_p : PCalls Try.prog 14 [.d (grD g0)] (.tup [natsD [1, 2], boolD true, intD 0]) := by
  have h := cycle_c g0 g0_gt;refine ⟨h.1, fun F ρ vs h1 h2 h2' h3 h4 h5 => (h.2 F ρ vs h1 h2 h2' h3 h4 h5).mono fun e w' ⟨v, r, H', ρ', e1, ⟨best, out, hC, hr, hH⟩, hrep, hh⟩ => ⟨v, r, H', ρ', e1, ⟨?_, hH⟩, hrep, hh⟩⟩;rw [hr, cyc0 hC]
  rfl
set_option maxRecDepth 100000 in
theorem known_p : PCalls Try.prog 12 [] (boolD true) := by
  have hc := components_p g0 g0_gt;rw [com0] at hc;refine Zbe Try.func12 rfl rfl Try.ntmps12 rfl rfl rfl fun F hF => (Zag (Zae (goAs rfl rfl (Zaf (Zag ?_)))));refine Zae (Zat.go (ZaK 11 sl25 rfl rfl rfl rfl rfl rfl rfl rfl) (ZbK (emb := natD) 7 11 [1] rfl rfl rfl rfl rfl rfl rfl (Zat.go (ZaK 12 sl25 rfl rfl rfl rfl rfl rfl rfl rfl) (ZbK (emb := natD) 8 12 [2] rfl rfl rfl rfl rfl rfl rfl (Zat.go (ZaK 13 sl25 rfl rfl rfl rfl rfl rfl rfl rfl) (ZbK (emb := natD) 9 13 [1, 3] rfl rfl rfl rfl rfl rfl rfl (Zat.go (ZaK 14 sl25 rfl rfl rfl rfl rfl rfl rfl rfl) (ZbK (emb := natD) 10 14 [] rfl rfl rfl rfl rfl rfl rfl ?_))))))));refine Zat.go (ZaK 15 sl32 rfl rfl rfl rfl rfl rfl rfl rfl) (ZbK (emb := natsD) 11 15 g0 rfl rfl rfl rfl rfl rfl rfl (goAs rfl rfl (Zaf (Zag (Zae (goMv rfl rfl (Zab.go (Zbr (hc) rfl rfl) (goMv rfl rfl ?_))))))))
  first | refine Zab.go (ZaS rfl rfl rfl) ?_ | refine Zab.go (ZaW rfl rfl rfl) ?_
  first | refine Zab.go (ZaS rfl rfl rfl) ?_ | refine Zab.go (ZaW rfl rfl rfl) ?_
  refine goAs rfl rfl (goAs rfl rfl (Zaf (Zag (Zae (goMv rfl rfl (Zab.go (Zbr (cycle0_p) rfl rfl) (goMv rfl rfl ?_)))))))
  first | refine Zab.go (ZaS rfl rfl rfl) ?_ | refine Zab.go (ZaW rfl rfl rfl) ?_
  first | refine Zab.go (ZaS rfl rfl rfl) ?_ | refine Zab.go (ZaW rfl rfl rfl) ?_
  first | refine Zab.go (ZaS rfl rfl rfl) ?_ | refine Zab.go (ZaW rfl rfl rfl) ?_
  refine goAs rfl rfl (goAs rfl rfl (goAs rfl rfl (Zaf (Zag (Zae (goMv rfl rfl ?_))))))
  first | refine Zab.go (Zbu rfl rfl rfl) ?_ | refine Zab.go (Za7 rfl rfl rfl) ?_ | refine Zab.go (Zbg rfl rfl rfl) ?_ | refine Zab.go (Zbl Try.underlying26 rfl rfl rfl) ?_ | refine Zab.go (Zbi Try.underlying26 rfl rfl rfl) ?_ | refine Zab.go (Zbj Try.underlying26 rfl rfl) ?_ | refine Zab.go (Zbk Try.underlying26 rfl rfl rfl) ?_ | refine Zab.go (Za8 Try.underlying26 rfl rfl) ?_
  refine goMv rfl rfl (o_setT 25 rfl (decide_eq_true (by decide)) ?_);refine ZaF rfl rfl rfl (goMv rfl rfl (ZaF rfl rfl rfl (Zat.go (ZaK 21 sl25 rfl rfl rfl rfl rfl rfl rfl rfl) (ZbK (emb := natD) 27 21 [0] rfl rfl rfl rfl rfl rfl rfl (ZaF rfl rfl rfl (Zat.go (ZaK 22 sl25 rfl rfl rfl rfl rfl rfl rfl rfl) (ZbK (emb := natD) 28 22 [1, 2] rfl rfl rfl rfl rfl rfl rfl (ZaF rfl rfl rfl ?_))))))));refine Zat.go (ZaK 23 sl25 rfl rfl rfl rfl rfl rfl rfl rfl) (ZbK (emb := natD) 29 23 [3] rfl rfl rfl rfl rfl rfl rfl (ZaF rfl rfl rfl (Zat.go (ZaK 24 sl22 rfl rfl rfl rfl rfl rfl rfl rfl) (ZbK (emb := natsD) 30 24 [[0], [1, 2], [3]] rfl rfl rfl rfl rfl rfl rfl (ZaF rfl rfl rfl (Zab.go (Zbr (same_p [[0], [1, 2], [3]] [[0], [1, 2], [3]] (by decide) (by decide) (by decide) (by decide)) rfl rfl) (Zab.go (Za2 rfl rfl rfl rfl) (goMv rfl rfl ?_))))))));refine o_setT 33 rfl (decide_eq_true (by decide)) (ZaF rfl rfl rfl (goMv rfl rfl (Zab.go (Za2 rfl rfl rfl rfl) (goMv rfl rfl (o_setT 36 rfl (rfl) (ZaF rfl rfl rfl (goMv rfl rfl (ZaF rfl rfl rfl ?_))))))))
  first | refine Zab.go (Zbu rfl rfl rfl) ?_ | refine Zab.go (Za7 rfl rfl rfl) ?_ | refine Zab.go (Zbg rfl rfl rfl) ?_ | refine Zab.go (Zbl Try.underlying26 rfl rfl rfl) ?_ | refine Zab.go (Zbi Try.underlying26 rfl rfl rfl) ?_ | refine Zab.go (Zbj Try.underlying26 rfl rfl) ?_ | refine Zab.go (Zbk Try.underlying26 rfl rfl rfl) ?_ | refine Zab.go (Za8 Try.underlying26 rfl rfl) ?_
  refine Zab.go (Za2 rfl rfl rfl rfl) (goMv rfl rfl (o_setT 40 rfl (decide_eq_true (by decide)) (ZaF rfl rfl rfl (goMv rfl rfl ?_))));refine ZaF rfl rfl rfl (Zat.go (ZaK 25 sl25 rfl rfl rfl rfl rfl rfl rfl rfl) (ZbK (emb := natD) 42 25 [1, 2] rfl rfl rfl rfl rfl rfl rfl (ZaF rfl rfl rfl (Zab.go (Zbr (eqN_p [1, 2] [1, 2] (by decide) (by decide)) rfl rfl) (Zab.go (Za2 rfl rfl rfl rfl) (goAs rfl rfl (Zaf (Zbh ?_))))))));exact ⟨_, [], [], ZaX rfl, rfl, rfl, rfl, rfl⟩
end Go.Proofs.Ytgdppeobgefogaa
/- Layer 31: small graphs; the reference's Reverse. -/
namespace Go.Proofs.Ytgdppeobgefogaa
open Go.RowKit
def clN (n : Nat) (x : Int) : Nat := (Int.emod x 18446744073709551616).toNat % n
def rowC (n : Nat) (l : List Int) : List Nat := (l.take 14).map (clN n)
def smlG (g : List (List Int)) : List (List Nat) := (g.take (min g.length 14)).map (rowC (min g.length 14))
theorem wrapU (x : Int) : IntKind.u64.wrap x = Int.emod x 18446744073709551616 := rfl
theorem clN_eq {n : Nat} (h0 : 0 < n) (hn : n ≤ 14) (x : Int) : IntKind.i64.wrap (Int.tmod (IntKind.u64.wrap x) (n : Int)) = (clN n x : Int) := by
  have h1 : 0 ≤ Int.emod x 18446744073709551616 := Int.emod_nonneg _ (by decide)
  obtain ⟨y, hy⟩ : ∃ y : Nat, Int.emod x 18446744073709551616 = (y : Int) := ⟨_, (Int.toNat_of_nonneg h1).symm⟩
  rw [wrapU];unfold clN;rw [hy, Int.toNat_natCast];have e : Int.tmod (y : Int) (n : Int) = ((y % n : Nat) : Int) := rfl;rw [e];have := Nat.mod_lt y h0;exact IntWalk.i64_in _ (by omega)
theorem smlG_len (g : List (List Int)) : (smlG g).length = min g.length 14 := by simp [smlG] <;> omega
theorem smlG_gt (g : List (List Int)) : GT (smlG g) := by
  have hl := smlG_len g
  have hrow : ∀ l ∈ smlG g, l.length ≤ 14 := fun l hl => by
    obtain ⟨m, _, rfl⟩ := List.mem_map.1 hl;unfold rowC; rw [List.length_map, List.length_take]; omega
  refine ⟨⟨by omega, fun l hl => by have := hrow l hl; omega, fun l hlm x hx => ?_⟩, ?_⟩
  · have h0 : 0 < (smlG g).length := List.length_pos_of_mem hlm;obtain ⟨m, _, rfl⟩ := List.mem_map.1 hlm;obtain ⟨y, _, rfl⟩ := List.mem_map.1 hx;rw [hl] at h0 ⊢;exact Nat.mod_lt _ h0
  · have key : ∀ m, m ≤ (smlG g).length → totG (smlG g) m ≤ m * 14 := by
      intro m
      induction m with
      | zero => intro _; exact Nat.zero_le _
      | succ m ih =>
        intro hm;have h1 := ih (by omega);have h2 := hrow (sucs (smlG g) m) (by rw [sucs_get (by omega)]; exact List.getElem_mem _);have h3 : totG (smlG g) (m + 1) = totG (smlG g) m + (sucs (smlG g) m).length := by unfold totG; rw [List.range_succ, List.map_append, List.sum_append]; simp
        omega
    have := key _ (Nat.le_refl _);omega
theorem take_min {α : Type} {l : List α} {j m : Nat} (h : j = min l.length m) : l.take j = l.take m := by
  subst h;rcases Nat.le_total l.length m with h | h
  · rw [Nat.min_eq_left h, List.take_of_length_le (Nat.le_refl _), List.take_of_length_le h]
  · rw [Nat.min_eq_right h]
set_option maxRecDepth 100000 in
theorem small_p (g : List (List Int)) (hg : g.length ≤ 140737488355328) (hl : ∀ l ∈ g, l.length ≤ 140737488355328) : PCalls Try.prog 13 [.d (grI g), .d (boolD true)] (grD (smlG g)) := by
  obtain ⟨n, hn⟩ : ∃ n, min g.length 14 = n := ⟨_, rfl⟩
  have hn14 : n ≤ 14 := by omega
  unfold smlG;rw [hn];refine Zbe Try.func13 rfl rfl Try.ntmps13 rfl rfl rfl fun F hF => (Zag (Zae (goAs rfl rfl (Zaf (Zag ?_)))));refine Zae (goMv rfl rfl (Zab.go (Zax rfl (List.length_map ..) Try.underlying22 rfl) (Zab.go (st_min rfl rfl ((show (if (14 : Int) < (g.length : Int) then (14 : Int) else (g.length : Int)) = (n : Int) by split <;> omega)) rfl) (goAs rfl rfl (Zaf (Zag (Zae (goAs rfl rfl ?_))))))));refine Zaf (Zag (Zag (Zae (goAs rfl rfl (Zaf (Zaw (a_adopt 6 2 sl22 rfl rfl rfl rfl (ZaT (α := Nat × List (List Nat)) (fun q => ⟨55, [(0, .d (grI g)), (1, .d (boolD true)), (5, (.d (natD n))), (6, (.own 2 0 q.2.length)), (7, (.d (natD q.1)))], [(2, [.rowD 25 1 (q.2.map natsD)])]⟩) (fun q => q.1 ≤ n ∧ q.2 = (g.take q.1).map (rowC n)) (fun q => n - q.1) ((0, [])) (⟨Nat.zero_le _, rfl⟩) (Zan hF [2] rfl rfl ⟨rfl, rfl, rfl, rfl, rfl, trivial⟩) ?_))))))));rintro ⟨k, o⟩ ⟨hk, ho⟩;dsimp only at hk ho ⊢;refine Zag (Zag (Zae (goMv rfl rfl (goMv rfl rfl ?_))))
  first | refine Zab.go (ZaU rfl rfl rfl) ?_ | refine Zab.go (ZaN rfl rfl rfl) ?_
  refine Zaf ?_
  first | refine ZaP rfl (fun h16 => ?_) (fun h16 => ?_) | refine ZaG rfl (fun h16 => ?_) (fun h16 => ?_)
  · refine Zay (Zag (Zaw (Zag ?_)));have hkn : k < n := Za4 h16;have hkg : k < g.length := by omega
    have hll := hl _ (List.getElem_mem hkg);have hol : o.length = k := by rw [ho, List.length_map, List.length_take]; omega
    refine Zae (goAs rfl rfl ?_);refine Zaf (Zag (Zag (Zae (goAs rfl rfl (Zaf (Zaw (a_adopt 8 1 sl25 rfl rfl rfl rfl (ZaT (α := Nat × List Nat) (fun q => ⟨55, [(0, .d (grI g)), (1, .d (boolD true)), (5, (.d (natD n))), (6, (.own 2 0 o.length)), (7, (.d (natD k))), (8, (.own 1 0 q.2.length)), (9, (.d (natD q.1)))], [(1, [.rowD 3 1 (q.2.map natD)]), (2, [.rowD 25 1 (o.map natsD)])]⟩) (fun q => q.1 ≤ min g[k].length 14 ∧ q.2 = (g[k].take q.1).map (clN n)) (fun q => g[k].length - q.1) ((0, [])) (⟨Nat.zero_le _, rfl⟩) (Zan hF [1, 2] rfl rfl ⟨rfl, rfl, rfl, rfl, rfl, rfl, rfl, trivial⟩) ?_))))))));rintro ⟨j, r⟩ ⟨hj, hr⟩;dsimp only at hj hr ⊢;refine Zag (Zag (Zae (goMv rfl rfl (goMv rfl rfl (goMv rfl rfl ?_)))))
    first | refine Zab.go (Zam (k) rfl rfl (rfl) (getgI hkg) Try.underlying22 rfl sz25 rfl) ?_ | refine Zab.go (Zal (k) rfl rfl (rfl) (getgI hkg) rfl Try.underlying22 sz25 rfl) ?_
    first | refine Zab.go (Zah rfl rfl on25 rfl) ?_ | refine Zab.go (Zak rfl rfl rfl on25 rfl) ?_ | refine Zab.go (Zaj rfl rfl (rfl) rfl on25 rfl) ?_
    refine Zab.go (Zax rfl (List.length_map ..) Try.underlying25 rfl) ?_
    first | refine Zab.go (ZaU rfl rfl rfl) ?_ | refine Zab.go (ZaN rfl rfl rfl) ?_
    refine goMv rfl rfl ?_
    first | refine Zbt 26 rfl (fun h26 => ?_) (fun h26 => ?_) | refine Zbn 26 rfl (fun h26 => ?_) (fun h26 => ?_)
    · refine ZaF rfl rfl rfl (goMv rfl rfl (ZaF rfl rfl rfl ?_))
      first | refine Zab.go (ZaU rfl rfl rfl) ?_ | refine Zab.go (ZaN rfl rfl rfl) ?_
      refine Zab.go (Za2 rfl rfl rfl rfl) (Zaf ?_)
      first | refine ZaP rfl (fun h29 => ?_) (fun h29 => ?_) | refine ZaG rfl (fun h29 => ?_) (fun h29 => ?_)
      · refine Zay (Zag (Zaw (Zag ?_)));have hjl : j < g[k].length := by have := h26; omega
        have hrl : r.length = j := by rw [hr, List.length_map, List.length_take]; omega
        refine Zae (goMv rfl rfl (goMv rfl rfl ?_))
        first | refine Zab.go (Zam (k) rfl rfl (rfl) (getgI hkg) Try.underlying22 rfl sz25 rfl) ?_ | refine Zab.go (Zal (k) rfl rfl (rfl) (getgI hkg) rfl Try.underlying22 sz25 rfl) ?_
        first | refine Zab.go (Zah rfl rfl on25 rfl) ?_ | refine Zab.go (Zak rfl rfl rfl on25 rfl) ?_ | refine Zab.go (Zaj rfl rfl (rfl) rfl on25 rfl) ?_
        refine goMv rfl rfl ?_
        first | refine Zab.go (Zam (j) rfl rfl (rfl) (getI hjl) Try.underlying25 rfl sz3 rfl) ?_ | refine Zab.go (Zal (j) rfl rfl (rfl) (getI hjl) rfl Try.underlying25 sz3 rfl) ?_
        first | refine Zab.go (Zah rfl rfl on3 rfl) ?_ | refine Zab.go (Zak rfl rfl rfl on3 rfl) ?_ | refine Zab.go (Zaj rfl rfl (rfl) rfl on3 rfl) ?_
        refine goAs rfl rfl (Zaf ?_);refine Zag (Zag (Zae (goMv rfl rfl (Zaf (a_true rfl (rfl) (Zae (goMv rfl rfl (Zab.go (st_conv rfl Try.underlying3 Try.underlying55 (rfl) rfl) ?_))))))));refine goMv rfl rfl (Zab.go (st_conv rfl Try.underlying3 Try.underlying55 (IntWalk.u64_in _ (by omega)) rfl) (Zab.go (st_rem rfl rfl (by omega) (rfl) rfl) (Zab.go (st_conv rfl Try.underlying55 Try.underlying3 (clN_eq (by omega) hn14 g[k][j]) rfl) (goAs rfl rfl (Zaf (Zae (goMv rfl rfl (goMv rfl rfl ?_))))))));refine Zat.go (ZaK 21 sl25 rfl rfl rfl rfl rfl rfl rfl rfl) (Zat.go (st_appM (emb := natD) r [clN n g[k][j]] rfl rfl rfl rfl rfl rfl rfl rfl sl25 (by show (r.length + 1) * 8 ≤ _; omega) rfl rfl rfl rfl) (goAs rfl rfl (Zaf (Zae (goMv rfl rfl (Zab.go (ZaI rfl rfl (IntWalk.i64_in _ (by omega)) rfl) (goAs rfl rfl (Zaf ?_))))))));exact ⟨(j + 1, r ++ [clN n g[k][j]]), ⟨by show j + 1 ≤ _; omega, by rw [hr, List.take_succ_eq_append_getElem hjl, List.map_append]; rfl⟩, by show g[k].length - (j + 1) < g[k].length - j; omega, Zan hF [1, 2] rfl (rfl) ⟨rfl, rfl, rfl, rfl, rfl, rfl, rfl, trivial⟩⟩
      · refine ZaJ ?_;have hre : r = rowC n g[k] := by rw [hr, take_min (m := 14) (by omega)]; rfl
        subst hre;refine Zbp (emb := natD) 8 1 (rowC n g[k]) rfl rfl rfl rfl rfl rfl rfl (Zae (goMv rfl rfl (goMv rfl rfl ?_)));refine Zat.go (ZaK 22 sl22 rfl rfl rfl rfl rfl rfl rfl rfl) (Zat.go (st_appM (emb := natsD) o [rowC n g[k]] rfl rfl rfl rfl rfl rfl rfl rfl sl22 (by show (o.length + 1) * 24 ≤ _; omega) rfl rfl rfl rfl) (goAs rfl rfl (Zaf (Zae (goMv rfl rfl (Zab.go (ZaI rfl rfl (IntWalk.i64_in _ (by omega)) rfl) (goAs rfl rfl (Zaf ?_))))))));exact ⟨(k + 1, o ++ [rowC n g[k]]), ⟨hkn, by rw [ho, List.take_succ_eq_append_getElem hkg, List.map_append]; rfl⟩, by show n - (k + 1) < n - k; omega, Zan hF [2] rfl (rfl) ⟨rfl, rfl, rfl, rfl, rfl, trivial⟩⟩
    · refine ZaE rfl rfl rfl rfl (ZaE rfl rfl rfl rfl (Zab.go (Za0 rfl rfl rfl rfl) (Zaf (Zbs rfl rfl (ZaJ ?_)))));have hre : r = rowC n g[k] := by rw [hr, take_min (m := 14) (by omega)]; rfl
      subst hre;refine Zbp (emb := natD) 8 1 (rowC n g[k]) rfl rfl rfl rfl rfl rfl rfl (Zae (goMv rfl rfl (goMv rfl rfl ?_)));refine Zat.go (ZaK 22 sl22 rfl rfl rfl rfl rfl rfl rfl rfl) (Zat.go (st_appM (emb := natsD) o [rowC n g[k]] rfl rfl rfl rfl rfl rfl rfl rfl sl22 (by show (o.length + 1) * 24 ≤ _; omega) rfl rfl rfl rfl) (goAs rfl rfl (Zaf (Zae (goMv rfl rfl (Zab.go (ZaI rfl rfl (IntWalk.i64_in _ (by omega)) rfl) (goAs rfl rfl (Zaf ?_))))))));exact ⟨(k + 1, o ++ [rowC n g[k]]), ⟨hkn, by rw [ho, List.take_succ_eq_append_getElem hkg, List.map_append]; rfl⟩, by show n - (k + 1) < n - k; omega, Zan hF [2] rfl (rfl) ⟨rfl, rfl, rfl, rfl, rfl, trivial⟩⟩
  · refine ZaJ (Zag ?_);have hke : k = n := by have := h16; omega
    subst hke;refine Zbp (emb := natsD) 6 2 o rfl rfl rfl rfl rfl rfl rfl ?_;rw [ho];refine Zae (goMv rfl rfl (goAs rfl rfl (Zaf (Zbh ?_))));exact ⟨_, [], [], ZaX rfl, rfl, rfl, rfl, rfl⟩
end Go.Proofs.Ytgdppeobgefogaa
/- Layer 31: the reference's Reverse; the components of the reversed graph. -/
namespace Go.Proofs.Ytgdppeobgefogaa
open Go.RowKit
end Go.Proofs.Ytgdppeobgefogaa
/- Layer 31: the reference's Order. -/
namespace Go.Proofs.Ytgdppeobgefogaa
open Go.RowKit
abbrev rowB (n : Nat) (out : List Nat) : List D := (List.range n).map fun v => boolD (decide (v ∈ out))
theorem rowB_get {n i : Nat} {out : List Nat} (h : i < n) : (rowB n out)[i]? = some (boolD (decide (i ∈ out))) := by simp [h]
theorem rowB_len (n : Nat) (out : List Nat) : (rowB n out).length = n := by simp
theorem rowB_set {n i : Nat} {out : List Nat} : (rowB n out).set i (boolD true) = rowB n (out ++ [i]) :=
  row_set (fun j _ hne => congrArg boolD (decide_eq_decide.2 ⟨fun h => List.mem_append_left _ h, fun h => (List.mem_append.1 h).elim id fun e => (hne (List.mem_singleton.1 e)).elim⟩)) (by rw [decide_eq_true (List.mem_append_right _ (List.mem_singleton.2 rfl))])
theorem repB (n : Nat) : List.replicate n (D.raw (.bool false)) = rowB n [] := by
  refine List.ext_getElem (by simp) fun j h1 h2 => ?_
  simp
def FR (g : List (List Nat)) (out : List Nat) (i k : Nat) : Prop := i ∉ out ∧ ∀ a, a < k → a ∈ out ∨ i ∉ sucs g a
noncomputable instance (g : List (List Nat)) (out : List Nat) (i k : Nat) : Decidable (FR g out i k) := Classical.propDecidable _
structure LA (g : List (List Nat)) (out : List Nat) (m : Nat) (o : Option Nat) : Prop where
  nn : o = none → ∀ i, m ≤ i → ¬ avail g out i
  so : ∀ x, o = some x → avail g out x ∧ ∀ i, m ≤ i → avail g out i → x ≤ i
end Go.Proofs.Ytgdppeobgefogaa
/- Layer 31: the reference's Reach. -/
namespace Go.Proofs.Ytgdppeobgefogaa
open Go.RowKit
def RchS (g : List (List Nat)) (fr : List Nat) (v : Nat) : Prop := ∃ f ∈ fr, Rh (sucs g) f v
noncomputable instance (g : List (List Nat)) (fr : List Nat) (v : Nat) : Decidable (RchS g fr v) := Classical.propDecidable _
def cntB (n : Nat) (o : List Nat) : Nat := ((List.range n).filter fun v => decide (v ∉ o)).length
theorem cntB_lt {n x : Nat} {o : List Nat} (hx : x < n) (hn : x ∉ o) : cntB n (o ++ [x]) < cntB n o := by
  have h := ZbG (l := x :: (List.range n).filter fun v => decide (v ∉ o ++ [x])) (m := (List.range n).filter fun v => decide (v ∉ o)) (List.nodup_cons.2 ⟨fun hm => by
    have := of_decide_eq_true (List.mem_filter.1 hm).2
    exact this (List.mem_append_right _ (List.mem_singleton.2 rfl)), List.nodup_range.filter _⟩) fun y hy => by
    rcases List.mem_cons.1 hy with rfl | hy
    · exact List.mem_filter.2 ⟨List.mem_range.2 hx, decide_eq_true hn⟩
    · obtain ⟨h1, h2⟩ := List.mem_filter.1 hy;exact List.mem_filter.2 ⟨h1, decide_eq_true fun h3 => of_decide_eq_true h2 (List.mem_append_left _ h3)⟩
  rw [List.length_cons] at h;exact h
structure RchV (g : List (List Nat)) (fr o : List Nat) : Prop where
  a : ∀ v ∈ o, v < g.length ∧ RchS g fr v
  b : ∀ f ∈ fr, f ∈ o
structure RchW (g : List (List Nat)) (fr o0 : List Nat) (i k : Nat) (m : Bool) (o : List Nat) : Prop where
  rv : RchV g fr o
  t : m = true → cntB g.length o < cntB g.length o0
  f : m = false → o = o0 ∧ (∀ u, u < i → u ∈ o → ∀ y ∈ sucs g u, y ∈ o) ∧ (i ∈ o → ∀ y ∈ (sucs g i).take k, y ∈ o)
  le : cntB g.length o ≤ cntB g.length o0
theorem rw_start {g : List (List Nat)} {fr o : List Nat} (h : RchV g fr o) : RchW g fr o 0 0 false o := ⟨h, fun e => (by cases e), fun _ => ⟨rfl, fun u hu => by omega, fun _ y hy => by simp at hy⟩, Nat.le_refl _⟩
theorem rw_new {g : List (List Nat)} (hg : GB g) {fr o0 o : List Nat} {i k y : Nat} {m : Bool} (h : RchW g fr o0 i k m o) (hi : i ∈ o) (hk : k < (sucs g i).length) (hy : nth (sucs g i) k = y) (hn : y ∉ o) : RchW g fr o0 i (k + 1) true (o ++ [y]) := by
  obtain ⟨hil, f, hf, hr⟩ := h.rv.a i hi;have hys : y ∈ sucs g i := hy ▸ Za9 hk;have hyl := hg.suc hil hys;have hlt := cntB_lt hyl hn;refine ⟨⟨fun v hv => ?_, fun f hf => List.mem_append_left _ (h.rv.b f hf)⟩, fun _ => by have := h.le; omega, fun e => (by cases e), by have := h.le; omega⟩;rcases List.mem_append.1 hv with hv | hv
  · exact h.rv.a v hv
  · rw [List.mem_singleton.1 hv]; exact ⟨hyl, f, hf, hr.step hys⟩
theorem rw_skip {g : List (List Nat)} {fr o0 o : List Nat} {i k y : Nat} {m : Bool} (h : RchW g fr o0 i k m o) (hk : k < (sucs g i).length) (hy : nth (sucs g i) k = y) (hn : ¬ (i ∈ o ∧ y ∉ o)) : RchW g fr o0 i (k + 1) m o := by
  refine ⟨h.rv, h.t, fun e => ?_, h.le⟩;obtain ⟨h1, h2, h3⟩ := h.f e;refine ⟨h1, h2, fun hi x hx => ?_⟩;rw [List.take_succ_eq_append_getElem hk] at hx;rcases List.mem_append.1 hx with hx | hx
  · exact h3 hi x hx
  · rw [List.mem_singleton.1 hx, ← Za6 hk, hy];exact Classical.byContradiction fun h4 => hn ⟨hi, h4⟩
theorem rw_row {g : List (List Nat)} {fr o0 o : List Nat} {i : Nat} {m : Bool} (h : RchW g fr o0 i (sucs g i).length m o) : RchW g fr o0 (i + 1) 0 m o := by
  refine ⟨h.rv, h.t, fun e => ?_, h.le⟩;obtain ⟨h1, h2, h3⟩ := h.f e;refine ⟨h1, fun u hu huo => ?_, fun _ y hy => by simp at hy⟩
  by_cases e2 : u = i
  · subst e2; rw [List.take_length] at h3; exact h3 huo
  · exact h2 u (by omega) huo
def muB (n : Nat) (m : Bool) (o : List Nat) : Nat := 2 * cntB n o + if m = true then 1 else 0
theorem rw_meas {g : List (List Nat)} {fr o0 o : List Nat} {i k : Nat} {m : Bool} (h : RchW g fr o0 i k m o) : muB g.length m o < muB g.length true o0 := by
  unfold muB
  cases m with
  | true => have := h.t rfl; simp; omega
  | false => have := h.le; simp; omega
theorem rv_end {g : List (List Nat)} {fr o : List Nat} (h : RchV g fr o) (hc : ∀ u ∈ o, ∀ y ∈ sucs g u, y ∈ o) (v : Nat) : v ∈ o ↔ RchS g fr v :=
  ⟨fun hv => (h.a v hv).2, fun ⟨f, hf, hr⟩ => hr.clos (p := fun v => v ∈ o) hc (h.b f hf)⟩
set_option maxRecDepth 100000 in
theorem refreach_p (g : List (List Nat)) (hg : GB g) (fr : List Nat) (hfl : fr.length ≤ 1000000) (hf : ∀ f ∈ fr, f < g.length) : PCalls Try.prog 25 [.d (grD g), .d (natsD fr)] (.sl none (((List.range g.length).map fun v => decide (RchS g fr v)).map boolD)) := by
  have hn := hg.n;refine Zbe Try.func25 rfl rfl Try.ntmps25 rfl rfl rfl fun F hF => (Zag (Zae (goAs rfl rfl (Zaf ?_))));refine Zag (Zae (goMv rfl rfl (Zab.go (Zax rfl (List.length_map ..) Try.underlying22 rfl) (Zat.go (ZbC 0 sl48 rfl rfl rfl (by omega) zd4 rfl rfl rfl rfl) (goAs rfl rfl (Zaf (Zag (Zag ?_))))))));rw [repB];refine Zae (goAs rfl rfl (Zaf (Zaw (ZaT (α := Nat) (fun k => ⟨68, [(0, .d (grD g)), (1, .d (natsD fr)), (5, (.own 0 0 g.length)), (6, (.d (natD k)))], [(0, [.rowD 4 1 (rowB g.length (fr.take k))])]⟩) (fun k => k ≤ fr.length) (fun k => fr.length - k) (0) (Nat.zero_le _) (Zan hF [0] rfl rfl ⟨rfl, rfl, rfl, rfl, trivial⟩) ?_))));intro k hk;refine Zag (Zag (Zae (goMv rfl rfl (goMv rfl rfl (Zab.go (Zax rfl (List.length_map ..) Try.underlying25 rfl) ?_)))))
  first | refine Zab.go (ZaU rfl rfl rfl) ?_ | refine Zab.go (ZaN rfl rfl rfl) ?_
  refine Zaf ?_
  first | refine ZaP rfl (fun h16 => ?_) (fun h16 => ?_) | refine ZaG rfl (fun h16 => ?_) (fun h16 => ?_)
  · refine Zay (Zag (Zaw ?_));have hkl : k < fr.length := Za4 h16;have hfk := hf _ (Za9 hkl);refine Zae (goMv rfl rfl (goMv rfl rfl (goMv rfl rfl ?_)))
    first | refine Zab.go (Zam (k) rfl rfl (rfl) (getn hkl) Try.underlying25 rfl sz3 rfl) ?_ | refine Zab.go (Zal (k) rfl rfl (rfl) (getn hkl) rfl Try.underlying25 sz3 rfl) ?_
    first | refine Zab.go (Zah rfl rfl on3 rfl) ?_ | refine Zab.go (Zak rfl rfl rfl on3 rfl) ?_ | refine Zab.go (Zaj rfl rfl (rfl) rfl on3 rfl) ?_
    first | refine Zab.go (Zam (nth fr k) rfl rfl (rfl) (hfk) Try.underlying48 rfl sz4 rfl) ?_ | refine Zab.go (Zal (nth fr k) rfl rfl (rfl) (hfk) rfl Try.underlying48 sz4 rfl) ?_
    refine Zat.go (Za5 rfl rfl rfl rfl rfl (by rw [rowB_len]; exact hfk) rowB_set rfl sz4) (Zaf (Zae (goMv rfl rfl (Zab.go (ZaI rfl rfl (IntWalk.i64_in _ (by omega)) rfl) (goAs rfl rfl (Zaf ?_))))));exact ⟨k + 1, hkl, by omega, Zan hF [0] rfl (by rw [List.take_succ_eq_append_getElem hkl, ← Za6 hkl]; rfl) ⟨rfl, rfl, rfl, rfl, trivial⟩⟩
  · refine ZaJ (Zag (Zag ?_));have hke : k = fr.length := by have := h16; omega
    rw [hke, List.take_length];refine Zae (goAs rfl rfl (Zaf (Zaw (ZaT (α := Bool × List Nat) (fun q => ⟨68, [(0, .d (grD g)), (1, .d (natsD fr)), (5, (.own 0 0 g.length)), (7, (.d (boolD q.1)))], [(0, [.rowD 4 1 (rowB g.length q.2)])]⟩) (fun q => RchV g fr q.2 ∧ (q.1 = false → ∀ u ∈ q.2, ∀ y ∈ sucs g u, y ∈ q.2)) (fun q => muB g.length q.1 q.2) ((true, fr)) (⟨⟨fun v hv => ⟨hf v hv, v, hv, .refl v⟩, fun f hf => hf⟩, fun e => (by cases e)⟩) (Zan hF [0] rfl rfl ⟨rfl, rfl, rfl, rfl, trivial⟩) ?_))));rintro ⟨mm, o0⟩ ⟨hV, hcl⟩;dsimp only at hV hcl ⊢;refine Zag (Zag (Zae (goMv rfl rfl (Zaf ?_))))
    first | refine ZaP rfl (fun h25 => ?_) (fun h25 => ?_) | refine ZaG rfl (fun h25 => ?_) (fun h25 => ?_)
    · refine Zay (Zaw (Zag ?_));have hmm : mm = true := h25;refine Zae (goAs rfl rfl (Zaf (Zag (Zae (goAs rfl rfl (Zaf (Zaw (ZaT (α := Nat × Bool × List Nat) (fun q => ⟨68, [(0, .d (grD g)), (1, .d (natsD fr)), (5, (.own 0 0 g.length)), (7, (.d (boolD q.2.1))), (8, (.d (natD q.1)))], [(0, [.rowD 4 1 (rowB g.length q.2.2)])]⟩) (fun q => q.1 ≤ g.length ∧ RchW g fr o0 q.1 0 q.2.1 q.2.2) (fun q => g.length - q.1) ((0, false, o0)) (⟨Nat.zero_le _, rw_start hV⟩) (Zan hF [0] rfl rfl ⟨rfl, rfl, rfl, rfl, rfl, trivial⟩) ?_))))))));rintro ⟨i, m, o⟩ ⟨hi, hW⟩;dsimp only at hi hW ⊢;refine Zag (Zag (Zae (goMv rfl rfl (goMv rfl rfl (Zab.go (Zax rfl (List.length_map ..) Try.underlying22 rfl) ?_)))))
      first | refine Zab.go (ZaU rfl rfl rfl) ?_ | refine Zab.go (ZaN rfl rfl rfl) ?_
      refine Zaf ?_
      first | refine ZaP rfl (fun h29 => ?_) (fun h29 => ?_) | refine ZaG rfl (fun h29 => ?_) (fun h29 => ?_)
      · refine Zay (Zag (Zaw (Zag ?_)));have hil : i < g.length := Za4 h29;have hsl := hg.len hil;refine Zae (goAs rfl rfl (Zaf (Zaw (ZaT (α := Nat × Bool × List Nat) (fun q => ⟨68, [(0, .d (grD g)), (1, .d (natsD fr)), (5, (.own 0 0 g.length)), (7, (.d (boolD q.2.1))), (8, (.d (natD i))), (9, (.d (natD q.1)))], [(0, [.rowD 4 1 (rowB g.length q.2.2)])]⟩) (fun q => q.1 ≤ (sucs g i).length ∧ RchW g fr o0 i q.1 q.2.1 q.2.2) (fun q => (sucs g i).length - q.1) ((0, m, o)) (⟨Nat.zero_le _, hW⟩) (Zan hF [0] rfl rfl ⟨rfl, rfl, rfl, rfl, rfl, rfl, trivial⟩) ?_))));rintro ⟨k, m, o⟩ ⟨hk, hW⟩;dsimp only at hk hW ⊢;refine Zag (Zag (Zae (goMv rfl rfl (goMv rfl rfl (goMv rfl rfl ?_)))))
        first | refine Zab.go (Zam (i) rfl rfl (rfl) (getg hil) Try.underlying22 rfl sz25 rfl) ?_ | refine Zab.go (Zal (i) rfl rfl (rfl) (getg hil) rfl Try.underlying22 sz25 rfl) ?_
        first | refine Zab.go (Zah rfl rfl on25 rfl) ?_ | refine Zab.go (Zak rfl rfl rfl on25 rfl) ?_ | refine Zab.go (Zaj rfl rfl (rfl) rfl on25 rfl) ?_
        refine Zab.go (Zax rfl (List.length_map ..) Try.underlying25 rfl) ?_
        first | refine Zab.go (ZaU rfl rfl rfl) ?_ | refine Zab.go (ZaN rfl rfl rfl) ?_
        refine Zaf ?_
        first | refine ZaP rfl (fun h38 => ?_) (fun h38 => ?_) | refine ZaG rfl (fun h38 => ?_) (fun h38 => ?_)
        · refine Zay (Zag (Zaw (Zag ?_)));have hkl : k < (sucs g i).length := Za4 h38;have hgn := getn hkl;have hyl : nth (sucs g i) k < g.length := hg.suc hil (Za9 hkl)
          obtain ⟨y, hye⟩ : ∃ y, nth (sucs g i) k = y := ⟨_, rfl⟩
          rw [hye] at hgn hyl;refine Zae (goMv rfl rfl (goMv rfl rfl ?_))
          first | refine Zab.go (Zam (i) rfl rfl (rfl) (hil) Try.underlying48 rfl sz4 rfl) ?_ | refine Zab.go (Zal (i) rfl rfl (rfl) (hil) rfl Try.underlying48 sz4 rfl) ?_
          first | refine Zab.go (Zah rfl rfl on4 rfl) ?_ | refine Zab.go (Zak rfl rfl rfl on4 rfl) ?_ | refine Zab.go (Zaj rfl rfl (rowB_get hil) rfl on4 rfl) ?_
          refine goMv rfl rfl ?_
          first | refine Zbt 45 rfl (fun h45 => ?_) (fun h45 => ?_) | refine Zbn 45 rfl (fun h45 => ?_) (fun h45 => ?_)
          · refine ZaF rfl rfl rfl (goMv rfl rfl (ZaF rfl rfl rfl (goMv rfl rfl (ZaF rfl rfl rfl (goMv rfl rfl (ZaF rfl rfl rfl ?_))))))
            first | refine Zab.go (Zam (i) rfl rfl (rfl) (getg hil) Try.underlying22 rfl sz25 rfl) ?_ | refine Zab.go (Zal (i) rfl rfl (rfl) (getg hil) rfl Try.underlying22 sz25 rfl) ?_
            refine ZaF rfl rfl rfl ?_
            first | refine Zab.go (Zah rfl rfl on25 rfl) ?_ | refine Zab.go (Zak rfl rfl rfl on25 rfl) ?_ | refine Zab.go (Zaj rfl rfl (rfl) rfl on25 rfl) ?_
            refine ZaF rfl rfl rfl (goMv rfl rfl (ZaF rfl rfl rfl ?_))
            first | refine Zab.go (Zam (k) rfl rfl (rfl) (hgn) Try.underlying25 rfl sz3 rfl) ?_ | refine Zab.go (Zal (k) rfl rfl (rfl) (hgn) rfl Try.underlying25 sz3 rfl) ?_
            refine ZaF rfl rfl rfl ?_
            first | refine Zab.go (Zah rfl rfl on3 rfl) ?_ | refine Zab.go (Zak rfl rfl rfl on3 rfl) ?_ | refine Zab.go (Zaj rfl rfl (rfl) rfl on3 rfl) ?_
            refine ZaF rfl rfl rfl ?_
            first | refine Zab.go (Zam (y) rfl rfl (rfl) (hyl) Try.underlying48 rfl sz4 rfl) ?_ | refine Zab.go (Zal (y) rfl rfl (rfl) (hyl) rfl Try.underlying48 sz4 rfl) ?_
            refine ZaF rfl rfl rfl ?_
            first | refine Zab.go (Zah rfl rfl on4 rfl) ?_ | refine Zab.go (Zak rfl rfl rfl on4 rfl) ?_ | refine Zab.go (Zaj rfl rfl (rowB_get hyl) rfl on4 rfl) ?_
            refine ZaF rfl rfl rfl ?_
            first | refine Zab.go (st_notP rfl rfl) ?_ | refine Zab.go (st_not rfl rfl) ?_
            refine Zab.go (Za2 rfl rfl rfl rfl) (Zaf ?_)
            first | refine ZaP rfl (fun h57 => ?_) (fun h57 => ?_) | refine ZaG rfl (fun h57 => ?_) (fun h57 => ?_)
            · refine Zag (Zae (goMv rfl rfl (goMv rfl rfl (goMv rfl rfl ?_))))
              first | refine Zab.go (Zam (i) rfl rfl (rfl) (getg hil) Try.underlying22 rfl sz25 rfl) ?_ | refine Zab.go (Zal (i) rfl rfl (rfl) (getg hil) rfl Try.underlying22 sz25 rfl) ?_
              first | refine Zab.go (Zah rfl rfl on25 rfl) ?_ | refine Zab.go (Zak rfl rfl rfl on25 rfl) ?_ | refine Zab.go (Zaj rfl rfl (rfl) rfl on25 rfl) ?_
              refine goMv rfl rfl ?_
              first | refine Zab.go (Zam (k) rfl rfl (rfl) (hgn) Try.underlying25 rfl sz3 rfl) ?_ | refine Zab.go (Zal (k) rfl rfl (rfl) (hgn) rfl Try.underlying25 sz3 rfl) ?_
              first | refine Zab.go (Zah rfl rfl on3 rfl) ?_ | refine Zab.go (Zak rfl rfl rfl on3 rfl) ?_ | refine Zab.go (Zaj rfl rfl (rfl) rfl on3 rfl) ?_
              first | refine Zab.go (Zam (y) rfl rfl (rfl) (hyl) Try.underlying48 rfl sz4 rfl) ?_ | refine Zab.go (Zal (y) rfl rfl (rfl) (hyl) rfl Try.underlying48 sz4 rfl) ?_
              refine Zat.go (Za5 rfl rfl rfl rfl rfl (by rw [rowB_len]; exact hyl) rowB_set rfl sz4) ?_;refine Zaf (Zae (goAs rfl rfl (Zaf (Zae (goMv rfl rfl (Zab.go (ZaI rfl rfl (IntWalk.i64_in _ (by omega)) rfl) (goAs rfl rfl (Zaf ?_))))))));exact ⟨(k + 1, true, o ++ [y]), ⟨hkl, rw_new hg hW h45 hkl hye h57⟩, by show (sucs g i).length - (k + 1) < (sucs g i).length - k; omega, Zan hF [0] rfl (rfl) ⟨rfl, rfl, rfl, rfl, rfl, rfl, trivial⟩⟩
            · refine Zay (Zae (goMv rfl rfl (Zab.go (ZaI rfl rfl (IntWalk.i64_in _ (by omega)) rfl) (goAs rfl rfl (Zaf ?_)))));exact ⟨(k + 1, m, o), ⟨hkl, rw_skip hW hkl hye (fun h => h57 h.2)⟩, by show (sucs g i).length - (k + 1) < (sucs g i).length - k; omega, Zan hF [0] rfl (rfl) ⟨rfl, rfl, rfl, rfl, rfl, rfl, trivial⟩⟩
          · refine ZaE rfl rfl rfl rfl (ZaE rfl rfl rfl rfl ?_);refine ZaE rfl rfl rfl rfl (ZaE rfl rfl rfl rfl (ZaE rfl rfl rfl rfl (ZaE rfl rfl rfl rfl (ZaE rfl rfl rfl rfl (ZaE rfl rfl rfl rfl (ZaE rfl rfl rfl rfl (ZaE rfl rfl rfl rfl (ZaE rfl rfl rfl rfl ?_))))))));refine Zab.go (Za0 rfl rfl rfl rfl) (Zaf (Zbs rfl rfl (Zay (Zae (goMv rfl rfl (Zab.go (ZaI rfl rfl (IntWalk.i64_in _ (by omega)) rfl) (goAs rfl rfl (Zaf ?_))))))));exact ⟨(k + 1, m, o), ⟨hkl, rw_skip hW hkl hye (fun h => h45 h.1)⟩, by show (sucs g i).length - (k + 1) < (sucs g i).length - k; omega, Zan hF [0] rfl (rfl) ⟨rfl, rfl, rfl, rfl, rfl, rfl, trivial⟩⟩
        · refine ZaJ ?_;have hke2 : k = (sucs g i).length := by have := h38; omega
          subst hke2;refine Zae (goMv rfl rfl (Zab.go (ZaI rfl rfl (IntWalk.i64_in _ (by omega)) rfl) (goAs rfl rfl (Zaf ?_))));exact ⟨(i + 1, m, o), ⟨hil, rw_row hW⟩, by show g.length - (i + 1) < g.length - i; omega, Zan hF [0] rfl (rfl) ⟨rfl, rfl, rfl, rfl, rfl, trivial⟩⟩
      · refine ZaJ ?_;exact ⟨(m, o), ⟨hW.rv, fun e u hu => (hW.f e).2.1 u (by have := (hW.rv.a u hu).1; omega) hu⟩, by rw [hmm]; exact rw_meas hW, Zan hF [0] rfl (rfl) ⟨rfl, rfl, rfl, rfl, trivial⟩⟩
    · refine ZaJ (Zag ?_);have hrb : rowB g.length o0 = ((List.range g.length).map fun v => decide (RchS g fr v)).map boolD := by rw [List.map_map]; exact List.map_congr_left fun v _ => congrArg boolD (decide_eq_decide.2 (rv_end hV (hcl h25) v))
      rw [hrb];refine Zbp (emb := boolD) 5 0 ((List.range g.length).map fun v => decide (RchS g fr v)) rfl rfl rfl (by simp) rfl rfl rfl (Zae (goMv rfl rfl (goAs rfl rfl (Zaf (Zbh ?_)))));exact ⟨_, [], [], ZaX rfl, rfl, rfl, rfl, rfl⟩
end Go.Proofs.Ytgdppeobgefogaa
/- Layer 31: the reference's List. -/
namespace Go.Proofs.Ytgdppeobgefogaa
open Go.RowKit
def trueS (p : Nat → Bool) (k : Nat) : List Nat := (List.range k).filter p
theorem trueS_succ (p : Nat → Bool) (k : Nat) : trueS p (k + 1) = trueS p k ++ if p k = true then [k] else [] := by
  unfold trueS;rw [List.range_succ, List.filter_append]
  congr 1
  by_cases h : p k = true
  · rw [if_pos h, List.filter_cons_of_pos h]; rfl
  · rw [if_neg h, List.filter_cons_of_neg h]; rfl
theorem trueS_len (p : Nat → Bool) (k : Nat) : (trueS p k).length ≤ k := by unfold trueS; exact Nat.le_trans (List.length_filter_le _ _) (by simp)
set_option maxRecDepth 100000 in
theorem reflist_p (n : Nat) (p : Nat → Bool) (hn : n ≤ 1000000) : PCalls Try.prog 24 [.d (.sl none (((List.range n).map p).map boolD))] (natsD (trueS p n)) := by
  have hget : ∀ k, k < n → (((List.range n).map p).map boolD)[k]? = some (boolD (p k)) := fun k hk => by simp [hk]
  refine Zbe Try.func24 rfl rfl Try.ntmps24 rfl rfl rfl fun F hF => (Zag (Zae (goAs rfl rfl (Zaf (Zag (Zae (goAs rfl rfl ?_)))))));refine Zaf (Zag (Zag (Zae (goAs rfl rfl (Zaf (Zaw (a_adopt 3 1 sl25 rfl rfl rfl rfl (ZaT (α := Nat × List Nat) (fun q => ⟨20, [(0, .d (.sl none (((List.range n).map p).map boolD))), (3, (.own 1 0 q.2.length)), (4, (.d (natD q.1)))], [(1, [.rowD 3 1 (q.2.map natD)])]⟩) (fun q => q.1 ≤ n ∧ q.2 = trueS p q.1) (fun q => n - q.1) ((0, [])) (⟨Nat.zero_le _, rfl⟩) (Zan hF [1] rfl rfl ⟨rfl, rfl, rfl, trivial⟩) ?_))))))));rintro ⟨k, o⟩ ⟨hk, ho⟩;dsimp only at hk ho ⊢;refine Zag (Zag (Zae (goMv rfl rfl (goMv rfl rfl (Zab.go (Zax rfl (show (((List.range n).map p).map boolD).length = n by simp) Try.underlying48 rfl) ?_)))))
  first | refine Zab.go (ZaU rfl rfl rfl) ?_ | refine Zab.go (ZaN rfl rfl rfl) ?_
  refine Zaf ?_
  first | refine ZaP rfl (fun h8 => ?_) (fun h8 => ?_) | refine ZaG rfl (fun h8 => ?_) (fun h8 => ?_)
  · refine Zay (Zag (Zaw (Zag ?_)));have hkl : k < n := Za4 h8;have hol : o.length ≤ k := by rw [ho]; exact trueS_len p k
    refine Zae (goMv rfl rfl (goMv rfl rfl ?_))
    first | refine Zab.go (Zam (k) rfl rfl (rfl) (hget k hkl) Try.underlying48 rfl sz4 rfl) ?_ | refine Zab.go (Zal (k) rfl rfl (rfl) (hget k hkl) rfl Try.underlying48 sz4 rfl) ?_
    first | refine Zab.go (Zah rfl rfl on4 rfl) ?_ | refine Zab.go (Zak rfl rfl rfl on4 rfl) ?_ | refine Zab.go (Zaj rfl rfl (rfl) rfl on4 rfl) ?_
    refine Zaf ?_
    first | refine ZaP rfl (fun h14 => ?_) (fun h14 => ?_) | refine ZaG rfl (fun h14 => ?_) (fun h14 => ?_)
    · refine Zae (goMv rfl rfl (goMv rfl rfl ?_));refine Zat.go (ZaK 21 sl25 rfl rfl rfl rfl rfl rfl rfl rfl) (Zat.go (st_appM (emb := natD) o [k] rfl rfl rfl rfl rfl rfl rfl rfl sl25 (by show (o.length + 1) * 8 ≤ _; omega) rfl rfl rfl rfl) (goAs rfl rfl (Zaf (Zae (goMv rfl rfl (Zab.go (ZaI rfl rfl (IntWalk.i64_in _ (by omega)) rfl) (goAs rfl rfl (Zaf ?_))))))));exact ⟨(k + 1, o ++ [k]), ⟨hkl, by rw [trueS_succ, if_pos h14, ho]⟩, by show n - (k + 1) < n - k; omega, Zan hF [1] rfl (rfl) ⟨rfl, rfl, rfl, trivial⟩⟩
    · refine Zay (Zae (goMv rfl rfl (Zab.go (ZaI rfl rfl (IntWalk.i64_in _ (by omega)) rfl) (goAs rfl rfl (Zaf ?_)))));exact ⟨(k + 1, o), ⟨hkl, by rw [trueS_succ, if_neg (by rw [h14]; decide), ho, List.append_nil]⟩, by show n - (k + 1) < n - k; omega, Zan hF [1] rfl (rfl) ⟨rfl, rfl, rfl, trivial⟩⟩
  · refine ZaJ (Zag ?_);have hke : k = n := by have := h8; omega
    subst hke;refine Zbp (emb := natD) 3 1 o rfl rfl rfl rfl rfl rfl rfl ?_;rw [ho];refine Zae (goMv rfl rfl (goAs rfl rfl (Zaf (Zbh ?_))));exact ⟨_, [], [], ZaX rfl, rfl, rfl, rfl, rfl⟩
end Go.Proofs.Ytgdppeobgefogaa
/- Layer 31: Reachable's visit. -/
namespace Go.Proofs.Ytgdppeobgefogaa
open Go.RowKit
abbrev HV (n : Nat) (o st j : List Nat) : Hp := [(1, [.blk 48 [.own 2 0 n]]), (2, [.rowD 4 1 (rowB n o)]), (3, [.blk 25 [.own 4 0 st.length]]), (4, [.rowD 3 1 ((st ++ j).map natD)])]
def visO (o : List Nat) (i : Nat) : List Nat := if i ∈ o then o else o ++ [i]
def visS (o st : List Nat) (i : Nat) : List Nat := if i ∈ o then st else st ++ [i]
def visJ (o j : List Nat) (i : Nat) : List Nat := if i ∈ o then j else []
set_option maxRecDepth 100000 in
theorem visit_c (n : Nat) (o st j : List Nat) (i : Nat) (hi : i < n) (hst : st.length ≤ 1000000) : ACalls Try.prog 40 [.d (natD i), .ptr 1 0 0, .ptr 3 0 0] (HV n o st j) fun r H' => r = .tup [] ∧ H' = HV n (visO o i) (visS o st i) (visJ o j i) := by
  refine Zbe Try.func40 rfl rfl Try.ntmps40 rfl rfl rfl fun F hF => (Zag (Zae ?_))
  first | refine Zab.go (Zah rfl rfl on48 rfl) ?_ | refine Zab.go (Zak rfl rfl rfl on48 rfl) ?_ | refine Zab.go (Zaj rfl rfl (rfl) rfl on48 rfl) ?_
  refine goMv rfl rfl ?_
  first | refine Zab.go (Zam (i) rfl rfl (rfl) (hi) Try.underlying48 rfl sz4 rfl) ?_ | refine Zab.go (Zal (i) rfl rfl (rfl) (hi) rfl Try.underlying48 sz4 rfl) ?_
  first | refine Zab.go (Zah rfl rfl on4 rfl) ?_ | refine Zab.go (Zak rfl rfl rfl on4 rfl) ?_ | refine Zab.go (Zaj rfl rfl (rowB_get hi) rfl on4 rfl) ?_
  first | refine Zab.go (st_notP rfl rfl) ?_ | refine Zab.go (st_not rfl rfl) ?_
  refine Zaf ?_
  first | refine ZaP rfl (fun h8 => ?_) (fun h8 => ?_) | refine ZaG rfl (fun h8 => ?_) (fun h8 => ?_)
  · refine Zag (Zae ?_)
    first | refine Zab.go (Zah rfl rfl on48 rfl) ?_ | refine Zab.go (Zak rfl rfl rfl on48 rfl) ?_ | refine Zab.go (Zaj rfl rfl (rfl) rfl on48 rfl) ?_
    refine goMv rfl rfl ?_
    first | refine Zab.go (Zam (i) rfl rfl (rfl) (hi) Try.underlying48 rfl sz4 rfl) ?_ | refine Zab.go (Zal (i) rfl rfl (rfl) (hi) rfl Try.underlying48 sz4 rfl) ?_
    refine Zat.go (Za5 rfl rfl rfl rfl rfl (by rw [rowB_len]; exact hi) rowB_set rfl sz4) (Zaf (Zae ?_))
    first | refine Zab.go (Zah rfl rfl on25 rfl) ?_ | refine Zab.go (Zak rfl rfl rfl on25 rfl) ?_ | refine Zab.go (Zaj rfl rfl (rfl) rfl on25 rfl) ?_
    refine goMv rfl rfl (Zat.go (ZaK 20 sl25 rfl rfl rfl rfl rfl rfl rfl rfl) (Zat.go (st_appendO rfl rfl rfl (by simp) rfl rfl (by simp) sl25 (by omega) rfl rfl (takeJ st j) rfl rfl) (Zat.go (st_storeP rfl rfl rfl rfl rfl rfl rfl sz25) (Zaf ?_))));exact ⟨_, [1, 2, 3, 4], _, ZaX rfl, rfl, rfl, rfl, by rw [visO, visS, visJ, if_neg h8, if_neg h8, if_neg h8]; simp⟩
  · refine Zay ?_;exact ⟨_, [1, 2, 3, 4], _, ZaX rfl, rfl, rfl, rfl, by rw [visO, visS, visJ, if_pos (Classical.not_not.1 h8), if_pos (Classical.not_not.1 h8), if_pos (Classical.not_not.1 h8)]⟩
end Go.Proofs.Ytgdppeobgefogaa
/- Layer 31: Reachable at valid nodes. -/
namespace Go.Proofs.Ytgdppeobgefogaa
open Go.RowKit
structure DF (g : List (List Nat)) (fr fr0 o st : List Nat) (x : Option (Nat × Nat)) : Prop where
  a : ∀ v ∈ o, v < g.length ∧ RchS g fr v
  b : ∀ f ∈ fr0, f ∈ o
  s : ∀ v ∈ st, v ∈ o
  c : ∀ u ∈ o, u ∈ st ∨ (∃ k, x = some (u, k) ∧ ∀ y ∈ (sucs g u).take k, y ∈ o) ∨ ∀ y ∈ sucs g u, y ∈ o
def muD (n : Nat) (o st : List Nat) : Nat := 2 * cntB n o + st.length
theorem vis_mem {o : List Nat} {i v : Nat} : v ∈ visO o i ↔ v ∈ o ∨ v = i := by
  unfold visO
  split
  · rename_i h; exact ⟨.inl, fun h2 => h2.elim id fun e => e ▸ h⟩
  · rw [List.mem_append, List.mem_singleton]
theorem vis_mu {n : Nat} {o st : List Nat} {i : Nat} (hi : i < n) : muD n (visO o i) (visS o st i) ≤ muD n o st := by
  unfold muD visO visS
  split
  · exact Nat.le_refl _
  · rename_i h; have := cntB_lt hi h; rw [List.length_append, List.length_singleton]; omega
theorem df_vis {g : List (List Nat)} {fr fr0 o st : List Nat} {x : Option (Nat × Nat)} {i : Nat} (h : DF g fr fr0 o st x) (hi : i < g.length) (hr : RchS g fr i) : DF g fr fr0 (visO o i) (visS o st i) x := by
  refine ⟨fun v hv => (vis_mem.1 hv).elim (h.a v) fun e => e ▸ ⟨hi, hr⟩, fun f hf => vis_mem.2 (.inl (h.b f hf)), fun v hv => ?_, fun u hu => ?_⟩
  · unfold visS at hv
    split at hv
    · exact vis_mem.2 (.inl (h.s v hv))
    · rcases List.mem_append.1 hv with hv | hv
      · exact vis_mem.2 (.inl (h.s v hv))
      · exact vis_mem.2 (.inr (List.mem_singleton.1 hv))
  · by_cases hio : i ∈ o
    · have e1 : visO o i = o := if_pos hio;have e2 : visS o st i = st := if_pos hio;rw [e1] at hu ⊢; rw [e2]; exact h.c u hu
    · have e2 : visS o st i = st ++ [i] := if_neg hio;rw [e2];rcases vis_mem.1 hu with hu | hu
      · rcases h.c u hu with h1 | ⟨k, e, h1⟩ | h1
        · exact .inl (List.mem_append_left _ h1)
        · exact .inr (.inl ⟨k, e, fun y hy => vis_mem.2 (.inl (h1 y hy))⟩)
        · exact .inr (.inr fun y hy => vis_mem.2 (.inl (h1 y hy)))
      · exact .inl (List.mem_append_right _ (List.mem_singleton.2 hu))
theorem df_pop {g : List (List Nat)} {fr fr0 o st : List Nat} {x : Nat} (h : DF g fr fr0 o (st ++ [x]) none) : DF g fr fr0 o st (some (x, 0)) := by
  refine ⟨h.a, h.b, fun v hv => h.s v (List.mem_append_left _ hv), fun u hu => ?_⟩;rcases h.c u hu with h1 | ⟨k, e, _⟩ | h1
  · rcases List.mem_append.1 h1 with h1 | h1
    · exact .inl h1
    · exact .inr (.inl ⟨0, by rw [List.mem_singleton.1 h1], fun y hy => by simp at hy⟩)
  · cases e
  · exact .inr (.inr h1)
theorem df_step {g : List (List Nat)} (hg : GB g) {fr fr0 o st : List Nat} {x k : Nat} (h : DF g fr fr0 o st (some (x, k))) (hx : x ∈ o) (hk : k < (sucs g x).length) : DF g fr fr0 (visO o (nth (sucs g x) k)) (visS o st (nth (sucs g x) k)) (some (x, k + 1)) := by
  obtain ⟨hxl, f, hf, hr⟩ := h.a x hx;have h2 := df_vis h (hg.suc hxl (Za9 hk)) ⟨f, hf, hr.step (Za9 hk)⟩;refine ⟨h2.a, h2.b, h2.s, fun u hu => ?_⟩;rcases h2.c u hu with h1 | ⟨k', e, h1⟩ | h1
  · exact .inl h1
  · injection e with e; injection e with e1 e2
    subst e1 e2;refine .inr (.inl ⟨k + 1, rfl, fun y hy => ?_⟩);rw [List.take_succ_eq_append_getElem hk] at hy;rcases List.mem_append.1 hy with hy | hy
    · exact h1 y hy
    · rw [List.mem_singleton.1 hy, ← Za6 hk]; exact vis_mem.2 (.inr rfl)
  · exact .inr (.inr h1)
theorem df_done {g : List (List Nat)} {fr fr0 o st : List Nat} {x k : Nat} (h : DF g fr fr0 o st (some (x, k))) (hk : k = (sucs g x).length) : DF g fr fr0 o st none := by
  refine ⟨h.a, h.b, h.s, fun u hu => ?_⟩;rcases h.c u hu with h1 | ⟨k', e, h1⟩ | h1
  · exact .inl h1
  · injection e with e; injection e with e1 e2
    subst e1 e2;rw [hk, List.take_length] at h1;exact .inr (.inr h1)
  · exact .inr (.inr h1)
theorem df_end {g : List (List Nat)} {fr o : List Nat} (h : DF g fr fr o [] none) (v : Nat) : v ∈ o ↔ RchS g fr v := by
  refine ⟨fun hv => (h.a v hv).2, fun ⟨f, hf, hr⟩ => hr.clos (p := fun v => v ∈ o) (fun u hu y hy => ?_) (h.b f hf)⟩;rcases h.c u hu with h1 | ⟨k, e, _⟩ | h1
  · cases h1
  · cases e
  · exact h1 y hy
end Go.Proofs.Ytgdppeobgefogaa
/- Layer 31: Reachable at valid nodes, the walk. -/
namespace Go.Proofs.Ytgdppeobgefogaa
open Go.RowKit
theorem getQ {a j : List Nat} {x k : Nat} (h : k = a.length) : ((a ++ [x] ++ j).map natD)[k]? = some (natD x) := by subst h; simp
theorem cntB_le (n : Nat) (o : List Nat) : cntB n o ≤ n := by
  have := List.length_filter_le (fun v => decide (v ∉ o)) (List.range n)
  rwa [List.length_range] at this
theorem df_fr {g : List (List Nat)} {fr fr0 o st : List Nat} {i : Nat} (h : DF g fr fr0 (visO o i) (visS o st i) none) : DF g fr (fr0 ++ [i]) (visO o i) (visS o st i) none :=
  ⟨h.a, fun f hf => (List.mem_append.1 hf).elim (h.b f) fun e => vis_mem.2 (.inr (List.mem_singleton.1 e)), h.s, h.c⟩
set_option maxRecDepth 100000 in
set_option maxHeartbeats 1000000 in
theorem reachable_p (g : List (List Nat)) (hg : GT g) (fr : List Nat) (hfl : fr.length ≤ 1000000) (hf : ∀ f ∈ fr, f < g.length) : PCalls Try.prog 23 [.d (grD g), .d (natsD fr)] (.tup [natsD (trueS (fun v => decide (RchS g fr v)) g.length), intD 0]) := by
  have hn := hg.gb.n;refine Zbe Try.func23 rfl rfl Try.ntmps23 rfl rfl rfl fun F hF => (Zag (Zae (goAs rfl rfl (goAs rfl rfl (Zaf (Zag ?_))))));refine Zag (Zae (goMv rfl rfl (Zab.go (Zbr (check_n g hg) rfl rfl) (goAs rfl rfl (Zaf (Zag (Zae (goMv rfl rfl ?_))))))))
  first | refine Zab.go (st_neq rfl rfl rfl) ?_ | refine Zab.go (ZbB rfl rfl rfl) ?_ | refine Zab.go (ZbD rfl rfl rfl) ?_ | refine Zab.go (st_neqB Try.underlying26 rfl rfl rfl) ?_ | refine Zab.go (st_neqP Try.underlying26 rfl rfl rfl) ?_ | refine Zab.go (st_neqN Try.underlying26 rfl rfl) ?_ | refine Zab.go (st_neqF Try.underlying26 rfl rfl rfl) ?_ | refine Zab.go (st_neqFN Try.underlying26 rfl rfl) ?_
  refine Zaf (Zbs rfl (decide_eq_false (by decide)) (Zay ?_));refine Zag (Zae (goMv rfl rfl (Zab.go (Zax rfl (List.length_map ..) Try.underlying32 rfl) (Zat.go (ZbC 2 sl48 rfl rfl rfl (by omega) zd4 rfl rfl rfl rfl) (Zat.go (st_alloc 1 zl48 rfl rfl rfl rfl) (Zat.go (st_storeP rfl rfl rfl rfl rfl rfl rfl sz48) (Zaf (Zag ?_))))))));rw [repB];refine Zae (Zat.go (st_alloc 3 zl25 rfl rfl rfl rfl) (Zaf (Zag (a_adoptC 3 0 0 4 sl25 rfl rfl rfl rfl rfl rfl rfl (Zae (Zab.go (st_makeFunc rfl rfl) (goAs rfl rfl (Zaf ?_))))))));refine Zag (Zag (Zae (goMv rfl rfl (Zab.go (Zax rfl (List.length_map ..) Try.underlying25 rfl) (goMv rfl rfl (Zaf (Zaw (ZaT (α := Nat) (fun k => ⟨95, [(0, .d (grD g)), (1, .d (natsD fr)), (7, (.ptr 1 0 0)), (8, (.ptr 3 0 0)), (9, (.fn 40 [.ptr 1 0 0, .ptr 3 0 0])), (29, (.d (natsD fr))), (30, (.d (natD fr.length))), (31, (.d (natD k)))], HV g.length [] [] []⟩) (fun k => k ≤ fr.length) (fun k => fr.length - k) (0) (Nat.zero_le _) (Zan hF [1, 2, 3, 4] rfl rfl ⟨rfl, rfl, rfl, rfl, rfl, rfl, rfl, rfl, trivial⟩) ?_))))))));intro k hk;refine Zag (Zae ?_)
  first | refine Zab.go (ZaU rfl rfl rfl) ?_ | refine Zab.go (ZaN rfl rfl rfl) ?_
  refine Zaf (Zag ?_)
  first | refine ZaP rfl (fun h32 => ?_) (fun h32 => ?_) | refine ZaG rfl (fun h32 => ?_) (fun h32 => ?_)
  · refine Zay (Zag (Zaw (Zag ?_)));have hkl : k < fr.length := Za4 h32;have hfk := hf _ (Za9 hkl);refine Zae ?_
    first | refine Zab.go (Zam (k) rfl rfl (rfl) (getn hkl) Try.underlying25 rfl sz3 rfl) ?_ | refine Zab.go (Zal (k) rfl rfl (rfl) (getn hkl) rfl Try.underlying25 sz3 rfl) ?_
    first | refine Zab.go (Zah rfl rfl on3 rfl) ?_ | refine Zab.go (Zak rfl rfl rfl on3 rfl) ?_ | refine Zab.go (Zaj rfl rfl (rfl) rfl on3 rfl) ?_
    refine goAs rfl rfl (Zaf (Zag (Zae (goMv rfl rfl ?_))))
    first | refine Zab.go (ZaU rfl rfl rfl) ?_ | refine Zab.go (ZaN rfl rfl rfl) ?_
    refine goMv rfl rfl (o_setF 37 rfl (decide_eq_false (by omega)) (ZaF rfl rfl rfl (goMv rfl rfl (ZaF rfl rfl rfl (goMv rfl rfl (ZaF rfl rfl rfl (Zab.go (Zax rfl (List.length_map ..) Try.underlying32 rfl) (ZaF rfl rfl rfl ?_))))))));refine Zab.go (st_geq rfl rfl rfl) (Zab.go (Za0 rfl rfl rfl rfl) (Zaf (Zbs rfl (decide_eq_false (by omega)) (Zay (Zae (Zab.go (ZaI rfl rfl (IntWalk.i64_in _ (by omega)) rfl) (goMv rfl rfl (Zaf ?_))))))));exact ⟨k + 1, hkl, by omega, Zan hF [1, 2, 3, 4] rfl (rfl) ⟨rfl, rfl, rfl, rfl, rfl, rfl, rfl, rfl, trivial⟩⟩
  · refine ZaJ ?_;refine Zag (Zag (Zae (goMv rfl rfl (Zab.go (Zax rfl (List.length_map ..) Try.underlying25 rfl) (goMv rfl rfl (Zaf (Zaw (ZaT (α := Nat × List Nat × List Nat × List Nat) (fun q => ⟨95, [(0, .d (grD g)), (1, .d (natsD fr)), (7, (.ptr 1 0 0)), (8, (.ptr 3 0 0)), (9, (.fn 40 [.ptr 1 0 0, .ptr 3 0 0])), (44, (.d (natsD fr))), (45, (.d (natD fr.length))), (46, (.d (natD q.1)))], HV g.length q.2.1 q.2.2.1 q.2.2.2⟩) (fun q => q.1 ≤ fr.length ∧ DF g fr (fr.take q.1) q.2.1 q.2.2.1 none ∧ muD g.length q.2.1 q.2.2.1 ≤ 2 * g.length) (fun q => fr.length - q.1) ((0, [], [], [])) (⟨Nat.zero_le _, ⟨fun v hv => (by cases hv), fun f hf => by simp at hf, fun v hv => (by cases hv), fun u hu => (by cases hu)⟩, by have := cntB_le g.length []; show 2 * cntB g.length [] + 0 ≤ _; omega⟩) (Zan hF [1, 2, 3, 4] rfl rfl ⟨rfl, rfl, rfl, rfl, rfl, rfl, rfl, rfl, trivial⟩) ?_))))))));rintro ⟨k, o, st, j⟩ ⟨hk, hD, hmu⟩;dsimp only at hk hD hmu ⊢;have hstl : st.length ≤ 1000000 := by unfold muD at hmu; omega
    refine Zag (Zae ?_)
    first | refine Zab.go (ZaU rfl rfl rfl) ?_ | refine Zab.go (ZaN rfl rfl rfl) ?_
    refine Zaf (Zag ?_)
    first | refine ZaP rfl (fun h47 => ?_) (fun h47 => ?_) | refine ZaG rfl (fun h47 => ?_) (fun h47 => ?_)
    · refine Zay (Zag (Zaw (Zag ?_)));have hkl : k < fr.length := Za4 h47;have hfk := hf _ (Za9 hkl);have hxm := Za9 hkl;have hgn := getn hkl
      obtain ⟨x, hxe⟩ : ∃ x, nth fr k = x := ⟨_, rfl⟩
      rw [hxe] at hfk hgn hxm;refine Zae ?_
      first | refine Zab.go (Zam (k) rfl rfl (rfl) (hgn) Try.underlying25 rfl sz3 rfl) ?_ | refine Zab.go (Zal (k) rfl rfl (rfl) (hgn) rfl Try.underlying25 sz3 rfl) ?_
      first | refine Zab.go (Zah rfl rfl on3 rfl) ?_ | refine Zab.go (Zak rfl rfl rfl on3 rfl) ?_ | refine Zab.go (Zaj rfl rfl (rfl) rfl on3 rfl) ?_
      refine goAs rfl rfl (Zaf ?_);refine Zae (goMv rfl rfl (goMv rfl rfl (Zat.go (st_callVD (visit_c g.length o st j x hfk hstl) rfl [1, 2, 3, 4] ⟨rfl, rfl, rfl, rfl, trivial⟩ rfl rfl rfl rfl rfl rfl rfl rfl rfl) (Zaf (Zae (Zab.go (ZaI rfl rfl (IntWalk.i64_in _ (by omega)) rfl) (goMv rfl rfl (Zaf ?_))))))));exact ⟨(k + 1, visO o x, visS o st x, visJ o j x), ⟨hkl, by rw [List.take_succ_eq_append_getElem hkl, ← Za6 hkl, hxe]; exact df_fr (df_vis hD hfk ⟨x, hxm, .refl x⟩), Nat.le_trans (vis_mu hfk) hmu⟩, by show fr.length - (k + 1) < fr.length - k; omega, Zan hF [1, 2, 3, 4] rfl (rfl) ⟨rfl, rfl, rfl, rfl, rfl, rfl, rfl, rfl, trivial⟩⟩
    · refine ZaJ (Zag (Zaw ?_));have hke : k = fr.length := (by have := h47; omega); rw [hke, List.take_length] at hD;refine ZaT (α := List Nat × List Nat × List Nat) (fun q => ⟨95, [(0, .d (grD g)), (7, (.ptr 1 0 0)), (8, (.ptr 3 0 0)), (9, (.fn 40 [.ptr 1 0 0, .ptr 3 0 0]))], HV g.length q.1 q.2.1 q.2.2⟩) (fun q => DF g fr fr q.1 q.2.1 none ∧ muD g.length q.1 q.2.1 ≤ 2 * g.length) (fun q => muD g.length q.1 q.2.1) ((o, st, j)) (⟨hD, hmu⟩) (Zan hF [1, 2, 3, 4] rfl rfl ⟨rfl, rfl, rfl, rfl, trivial⟩) ?_;rintro ⟨o, st, j⟩ ⟨hD, hmu⟩;dsimp only at hD hmu ⊢;refine Zag (Zag (Zae ?_))
      first | refine Zab.go (Zah rfl rfl on25 rfl) ?_ | refine Zab.go (Zak rfl rfl rfl on25 rfl) ?_ | refine Zab.go (Zaj rfl rfl (rfl) rfl on25 rfl) ?_
      first | refine Zab.go (ZaY rfl Try.underlying25 rfl) ?_ | refine Zab.go (Zax rfl rfl Try.underlying25 rfl) ?_ | refine Zab.go (Zbb rfl Try.underlying25 rfl) ?_ | refine Zab.go (Za3 rfl Try.underlying25 rfl) ?_ | refine Zab.go (Zbd rfl Try.underlying25 rfl) ?_ | refine Zab.go (Zba rfl Try.underlying25 rfl) ?_
      first | refine Zab.go (st_gtr rfl rfl rfl) ?_ | refine Zab.go (ZbA rfl rfl rfl) ?_
      refine Zaf ?_
      first | refine ZaP rfl (fun h56 => ?_) (fun h56 => ?_) | refine ZaG rfl (fun h56 => ?_) (fun h56 => ?_)
      · refine Zay (Zaw (Zag ?_));obtain ⟨st0, x, hsx⟩ := concat_of (l := st) (fun e => by subst e; exact absurd h56 (by decide));subst hsx;have hstl : (st0 ++ [x]).length ≤ 1000000 := by unfold muD at hmu; omega
        have hl1 : (((st0 ++ [x]).length : Nat) : Int) - 1 = (st0.length : Int) := by simp
        have hl2 : st0.length < (st0 ++ [x]).length := by simp
        have hxo := hD.s x (by simp);have hxl := (hD.a x hxo).1;have hmu0 : muD g.length o (st0 ++ [x]) = muD g.length o st0 + 1 := by unfold muD; rw [List.length_append, List.length_singleton]; omega
        refine Zae ?_
        first | refine Zab.go (Zah rfl rfl on25 rfl) ?_ | refine Zab.go (Zak rfl rfl rfl on25 rfl) ?_ | refine Zab.go (Zaj rfl rfl (rfl) rfl on25 rfl) ?_
        first | refine Zab.go (Zah rfl rfl on25 rfl) ?_ | refine Zab.go (Zak rfl rfl rfl on25 rfl) ?_ | refine Zab.go (Zaj rfl rfl (rfl) rfl on25 rfl) ?_
        first | refine Zab.go (ZaY rfl Try.underlying25 rfl) ?_ | refine Zab.go (Zax rfl rfl Try.underlying25 rfl) ?_ | refine Zab.go (Zbb rfl Try.underlying25 rfl) ?_ | refine Zab.go (Za3 rfl Try.underlying25 rfl) ?_ | refine Zab.go (Zbd rfl Try.underlying25 rfl) ?_ | refine Zab.go (Zba rfl Try.underlying25 rfl) ?_
        refine Zab.go (Zbq rfl rfl (IntWalk.i64_in _ (by omega)) rfl) ?_
        first | refine Zab.go (Zam (st0.length) rfl rfl (hl1) (hl2) Try.underlying25 rfl sz3 rfl) ?_ | refine Zab.go (Zal (st0.length) rfl rfl (hl1) (hl2) rfl Try.underlying25 sz3 rfl) ?_
        first | refine Zab.go (Zah rfl rfl on3 rfl) ?_ | refine Zab.go (Zak rfl rfl rfl on3 rfl) ?_ | refine Zab.go (Zaj rfl rfl (getQ rfl) rfl on3 rfl) ?_
        refine goAs rfl rfl (Zaf (Zag (Zae ?_)))
        first | refine Zab.go (Zah rfl rfl on25 rfl) ?_ | refine Zab.go (Zak rfl rfl rfl on25 rfl) ?_ | refine Zab.go (Zaj rfl rfl (rfl) rfl on25 rfl) ?_
        first | refine Zab.go (Zah rfl rfl on25 rfl) ?_ | refine Zab.go (Zak rfl rfl rfl on25 rfl) ?_ | refine Zab.go (Zaj rfl rfl (rfl) rfl on25 rfl) ?_
        first | refine Zab.go (ZaY rfl Try.underlying25 rfl) ?_ | refine Zab.go (Zax rfl rfl Try.underlying25 rfl) ?_ | refine Zab.go (Zbb rfl Try.underlying25 rfl) ?_ | refine Zab.go (Za3 rfl Try.underlying25 rfl) ?_ | refine Zab.go (Zbd rfl Try.underlying25 rfl) ?_ | refine Zab.go (Zba rfl Try.underlying25 rfl) ?_
        refine Zab.go (Zbq rfl rfl (IntWalk.i64_in _ (by omega)) rfl) (Zab.go (ZbO st0.length rfl rfl hl1 (by simp) rfl Try.underlying25 sz3 rfl) (Zat.go (st_storeP rfl rfl rfl rfl rfl rfl rfl sz25) (Zaf (Zag ?_))));rw [List.append_assoc];refine Zae (goMv rfl rfl (goMv rfl rfl ?_))
        first | refine Zab.go (Zam (x) rfl rfl (rfl) (getg hxl) Try.underlying32 rfl sz25 rfl) ?_ | refine Zab.go (Zal (x) rfl rfl (rfl) (getg hxl) rfl Try.underlying32 sz25 rfl) ?_
        first | refine Zab.go (Zah rfl rfl on25 rfl) ?_ | refine Zab.go (Zak rfl rfl rfl on25 rfl) ?_ | refine Zab.go (Zaj rfl rfl (rfl) rfl on25 rfl) ?_
        refine Zab.go (Zax rfl (List.length_map ..) Try.underlying25 rfl) (goMv rfl rfl (Zaf (Zaw (ZaT (α := Nat × List Nat × List Nat × List Nat) (fun q => ⟨95, [(0, .d (grD g)), (7, (.ptr 1 0 0)), (8, (.ptr 3 0 0)), (9, (.fn 40 [.ptr 1 0 0, .ptr 3 0 0])), (71, (.d (natsD (sucs g x)))), (72, (.d (natD (sucs g x).length))), (73, (.d (natD q.1)))], HV g.length q.2.1 q.2.2.1 q.2.2.2⟩) (fun q => q.1 ≤ (sucs g x).length ∧ DF g fr fr q.2.1 q.2.2.1 (some (x, q.1)) ∧ x ∈ q.2.1 ∧ muD g.length q.2.1 q.2.2.1 ≤ muD g.length o st0) (fun q => (sucs g x).length - q.1) ((0, o, st0, [x] ++ j)) (⟨Nat.zero_le _, df_pop hD, hxo, Nat.le_refl _⟩) (Zan hF [1, 2, 3, 4] rfl rfl ⟨rfl, rfl, rfl, rfl, rfl, rfl, rfl, trivial⟩) ?_))));rintro ⟨k, o2, st2, j2⟩ ⟨hk, hD2, hxo2, hmu2⟩;dsimp only at hk hD2 hxo2 hmu2 ⊢;have hst2 : st2.length ≤ 1000000 := by unfold muD at hmu2 hmu hmu0; omega
        refine Zag (Zae ?_)
        first | refine Zab.go (ZaU rfl rfl rfl) ?_ | refine Zab.go (ZaN rfl rfl rfl) ?_
        refine Zaf (Zag ?_)
        first | refine ZaP rfl (fun h74 => ?_) (fun h74 => ?_) | refine ZaG rfl (fun h74 => ?_) (fun h74 => ?_)
        · refine Zay (Zag (Zaw (Zag ?_)));have hkl : k < (sucs g x).length := Za4 h74;have hsl := hg.gb.len hxl;have hgn := getn hkl;have hyl := hg.gb.suc hxl (Za9 hkl)
          obtain ⟨y, hye⟩ : ∃ y, nth (sucs g x) k = y := ⟨_, rfl⟩
          rw [hye] at hyl hgn;refine Zae ?_
          first | refine Zab.go (Zam (k) rfl rfl (rfl) (hgn) Try.underlying25 rfl sz3 rfl) ?_ | refine Zab.go (Zal (k) rfl rfl (rfl) (hgn) rfl Try.underlying25 sz3 rfl) ?_
          first | refine Zab.go (Zah rfl rfl on3 rfl) ?_ | refine Zab.go (Zak rfl rfl rfl on3 rfl) ?_ | refine Zab.go (Zaj rfl rfl (rfl) rfl on3 rfl) ?_
          refine goAs rfl rfl (Zaf ?_);refine Zae (goMv rfl rfl (goMv rfl rfl (Zat.go (st_callVD (visit_c g.length o2 st2 j2 y hyl hst2) rfl [1, 2, 3, 4] ⟨rfl, rfl, rfl, rfl, trivial⟩ rfl rfl rfl rfl rfl rfl rfl rfl rfl) (Zaf (Zae (Zab.go (ZaI rfl rfl (IntWalk.i64_in _ (by omega)) rfl) (goMv rfl rfl (Zaf ?_))))))));exact ⟨(k + 1, visO o2 y, visS o2 st2 y, visJ o2 j2 y), ⟨hkl, hye ▸ df_step hg.gb hD2 hxo2 hkl, vis_mem.2 (.inl hxo2), Nat.le_trans (vis_mu hyl) hmu2⟩, by show (sucs g x).length - (k + 1) < (sucs g x).length - k; omega, Zan hF [1, 2, 3, 4] rfl (rfl) ⟨rfl, rfl, rfl, rfl, rfl, rfl, rfl, trivial⟩⟩
        · refine ZaJ ?_;exact ⟨(o2, st2, j2), ⟨df_done hD2 (by have := h74; omega), Nat.le_trans hmu2 (by rw [hmu0] at hmu; exact Nat.le_of_succ_le hmu)⟩, by show muD g.length o2 st2 < muD g.length o (st0 ++ [x]); rw [hmu0]; exact Nat.lt_succ_of_le hmu2, Zan hF [1, 2, 3, 4] rfl (rfl) ⟨rfl, rfl, rfl, rfl, trivial⟩⟩
      · refine ZaJ (Zag ?_);have hst0 : st = [] := List.length_eq_zero_iff.1 (by have := h56; omega);subst hst0;have hre := fun v => df_end hD v;refine Zae (goAs rfl rfl (Zaf (Zag (Zag (Zae ?_)))))
        first | refine Zab.go (Zah rfl rfl on48 rfl) ?_ | refine Zab.go (Zak rfl rfl rfl on48 rfl) ?_ | refine Zab.go (Zaj rfl rfl (rfl) rfl on48 rfl) ?_
        refine Zab.go (Zbb rfl Try.underlying48 rfl) (goMv rfl rfl (Zaf (Zaw (a_adopt 17 5 sl25 rfl rfl rfl rfl (ZaT (α := Nat × List Nat) (fun q => ⟨95, [(17, (.own 5 0 q.2.length)), (81, (.own 2 0 g.length)), (82, (.d (natD g.length))), (83, (.d (natD q.1)))], [(2, [.rowD 4 1 (rowB g.length o)]), (5, [.rowD 3 1 (q.2.map natD)])]⟩) (fun q => q.1 ≤ g.length ∧ q.2 = trueS (fun v => decide (RchS g fr v)) q.1) (fun q => g.length - q.1) ((0, [])) (⟨Nat.zero_le _, rfl⟩) (Zan hF [2, 5] rfl rfl ⟨rfl, rfl, rfl, rfl, trivial⟩) ?_)))));rintro ⟨k, w⟩ ⟨hk, hw⟩;dsimp only at hk hw ⊢;refine Zag (Zae ?_)
        first | refine Zab.go (ZaU rfl rfl rfl) ?_ | refine Zab.go (ZaN rfl rfl rfl) ?_
        refine Zaf (Zag ?_)
        first | refine ZaP rfl (fun h84 => ?_) (fun h84 => ?_) | refine ZaG rfl (fun h84 => ?_) (fun h84 => ?_)
        · refine Zay (Zag (Zaw (Zag ?_)));have hkl : k < g.length := Za4 h84;have hwl : w.length ≤ k := by rw [hw]; exact trueS_len _ k
          refine Zae (goMv rfl rfl ?_)
          first | refine Zab.go (Zam (k) rfl rfl (rfl) (hkl) Try.underlying48 rfl sz4 rfl) ?_ | refine Zab.go (Zal (k) rfl rfl (rfl) (hkl) rfl Try.underlying48 sz4 rfl) ?_
          first | refine Zab.go (Zah rfl rfl on4 rfl) ?_ | refine Zab.go (Zak rfl rfl rfl on4 rfl) ?_ | refine Zab.go (Zaj rfl rfl (rowB_get hkl) rfl on4 rfl) ?_
          refine goAs rfl rfl (goAs rfl rfl (Zaf (Zag (Zae (goMv rfl rfl (Zaf ?_))))))
          first | refine ZaP rfl (fun h88 => ?_) (fun h88 => ?_) | refine ZaG rfl (fun h88 => ?_) (fun h88 => ?_)
          · refine Zae (goMv rfl rfl ?_);refine goMv rfl rfl (Zat.go (ZaK 21 sl25 rfl rfl rfl rfl rfl rfl rfl rfl) (Zat.go (st_appM (emb := natD) w [k] rfl rfl rfl rfl rfl rfl rfl rfl sl25 (by show (w.length + 1) * 8 ≤ _; omega) rfl rfl rfl rfl) (goAs rfl rfl (Zaf (Zae (Zab.go (ZaI rfl rfl (IntWalk.i64_in _ (by omega)) rfl) (goMv rfl rfl (Zaf ?_))))))));exact ⟨(k + 1, w ++ [k]), ⟨hkl, by rw [trueS_succ, if_pos (decide_eq_true ((hre k).1 h88)), hw]⟩, by show g.length - (k + 1) < g.length - k; omega, Zan hF [2, 5] rfl (rfl) ⟨rfl, rfl, rfl, rfl, trivial⟩⟩
          · refine Zay (Zae (Zab.go (ZaI rfl rfl (IntWalk.i64_in _ (by omega)) rfl) (goMv rfl rfl (Zaf ?_))));exact ⟨(k + 1, w), ⟨hkl, by rw [trueS_succ, if_neg (by simpa using fun h => h88 ((hre k).2 h)), hw, List.append_nil]⟩, by show g.length - (k + 1) < g.length - k; omega, Zan hF [2, 5] rfl (rfl) ⟨rfl, rfl, rfl, rfl, trivial⟩⟩
        · refine ZaJ (Zag ?_);have hkn : k = g.length := by have := h84; omega
          subst hkn;refine Zbp (emb := natD) 17 5 w rfl rfl rfl rfl rfl rfl rfl ?_;rw [hw];refine Zae (goMv rfl rfl (goAs rfl rfl (goAs rfl rfl (Zaf (Zbh ?_)))));exact ⟨_, [], [], ZaX rfl, rfl, rfl, rfl, rfl⟩
end Go.Proofs.Ytgdppeobgefogaa
