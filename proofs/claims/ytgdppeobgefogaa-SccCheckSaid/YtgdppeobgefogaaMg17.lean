/- Layer 31: the example. -/
import Derived.Test.YtgdppeobgefogaaMg16
namespace Go.Proofs.Ytgdppeobgefogaa
open Go.RowKit
theorem takeAll {α : Type} {l m : List α} {k : Nat} (h1 : l.length = m.length) (h2 : k = l.length) (h : l.take k = m.take k) : l = m := by
  subst h2;rw [List.take_length, h1, List.take_length] at h; exact h
theorem take_eq {α : Type} {l m : List α} {k : Nat} (h1 : k < l.length) (h2 : k < m.length) (h : l.take k = m.take k) (e : l[k] = m[k]) : l.take (k + 1) = m.take (k + 1) := by
  rw [List.take_succ_eq_append_getElem h1, List.take_succ_eq_append_getElem h2, h, e]
theorem getR {l : List Nat} {k : Nat} (h : k < l.length) : (l.map natD)[k]? = some (natD l[k]) := getm h
theorem getS {g : List (List Nat)} {k : Nat} (h : k < g.length) : (g.map natsD)[k]? = some (natsD g[k]) := getm h
set_option maxRecDepth 100000 in
theorem eqN_p (l m : List Nat) (hl : l.length ≤ 2000000) (hm : m.length ≤ 2000000) : PCalls Try.prog 16 [.d (natsD l), .d (natsD m)] (boolD (decide (l = m))) := by
  refine Zbg Try.func16 rfl rfl Try.ntmps16 rfl rfl rfl fun F hF => (Zag (Zae ?_));refine goAs rfl rfl (Zaf (Zag (Zag (Zae (goMv rfl rfl (Zab.go (ZaC rfl (List.length_map ..) Try.underlying25 rfl) (goMv rfl rfl (Zab.go (ZaC rfl (List.length_map ..) Try.underlying25 rfl) ?_))))))))
  first | refine Zab.go (st_neq rfl rfl rfl) ?_ | refine Zab.go (Zbz rfl rfl rfl) ?_ | refine Zab.go (ZbA rfl rfl rfl) ?_ | refine Zab.go (ZbE Try.underlying3 rfl rfl rfl) ?_ | refine Zab.go (ZbC Try.underlying3 rfl rfl rfl) ?_ | refine Zab.go (st_neqN Try.underlying3 rfl rfl) ?_ | refine Zab.go (ZbD Try.underlying3 rfl rfl rfl) ?_ | refine Zab.go (st_neqFN Try.underlying3 rfl rfl) ?_
  refine Zaf ?_
  first | refine ZaU rfl (fun h10 => ?_) (fun h10 => ?_) | refine ZaG rfl (fun h10 => ?_) (fun h10 => ?_)
  · refine Zag (Zae (goAs rfl rfl (Zaf (Za5 ?_))));exact ⟨_, [], [], ZaS rfl, rfl, rfl, by rw [decide_eq_false (fun e => h10 (by rw [e]))], rfl⟩
  · refine ZaD (Zag (Zag (Zae (goAs rfl rfl (Zaf (Zax ?_))))));have hlm : l.length = m.length := Int.ofNat.inj (Classical.not_not.1 h10);refine a_loop (α := Nat) (fun k => ⟨26, [(0, .d (natsD l)), (1, .d (natsD m)), (5, (.d (natD k)))], []⟩) (fun k => k ≤ l.length ∧ l.take k = m.take k) (fun k => l.length - k) (0) (⟨Nat.zero_le _, by simp⟩) (ZbL ⟨rfl, rfl, rfl, trivial⟩) ?_;rintro k ⟨hk, hn⟩;refine Zag (Zag (Zae (goMv rfl rfl (goMv rfl rfl (Zab.go (ZaC rfl (List.length_map ..) Try.underlying25 rfl) ?_)))))
    first | refine Zab.go (Za3 rfl rfl rfl) ?_ | refine Zab.go (ZaV rfl rfl rfl) ?_
    refine Zaf ?_
    first | refine ZaU rfl (fun h14 => ?_) (fun h14 => ?_) | refine ZaG rfl (fun h14 => ?_) (fun h14 => ?_)
    · refine ZaD (Zag (Zax (Zag ?_)));have hkl : k < l.length := Zbl h14;have hkm : k < m.length := by omega
      refine Zbm [[], [], [0, 1], [0, 1, 2], [], [], [4, 5], [4, 5, 6], [0, 1, 2, 3, 4, 5, 6, 7]] mixed rfl (dws ?_)
      first | refine Zad [0] [] rfl rfl (fun _ => Zaa (Zah rfl rfl)) ?_ | refine Zac [0] rfl rfl (fun _ => Zaa (Zah rfl rfl)) ?_
      first | refine Zad [5] [] rfl rfl (fun _ => Zaa (Zah rfl rfl)) ?_ | refine Zac [5] rfl rfl (fun _ => Zaa (Zah rfl rfl)) ?_
      first | refine Zad [17, 18] [] rfl rfl (fun _ => Zaa (Zam (k) rfl rfl (rfl) (getR hkl) Try.underlying25 rfl sz3 rfl)) ?_ | refine Zac [17, 18] rfl rfl (fun _ => Zaa (Zam (k) rfl rfl (rfl) (getR hkl) Try.underlying25 rfl sz3 rfl)) ?_ | refine Zad [17, 18] [] rfl rfl (fun _ => Zaa (Zal (k) rfl rfl (rfl) (getR hkl) rfl Try.underlying25 sz3 rfl)) ?_ | refine Zac [17, 18] rfl rfl (fun _ => Zaa (Zal (k) rfl rfl (rfl) (getR hkl) rfl Try.underlying25 sz3 rfl)) ?_
      first | refine Zad [19] [] rfl rfl (fun _ => Zaa (Zai rfl rfl on3 rfl)) ?_ | refine Zac [19] rfl rfl (fun _ => Zaa (Zai rfl rfl on3 rfl)) ?_ | refine Zad [19] [] rfl rfl (fun _ => Zaa (Zak rfl rfl rfl on3 rfl)) ?_ | refine Zac [19] rfl rfl (fun _ => Zaa (Zak rfl rfl rfl on3 rfl)) ?_ | refine Zad [19] [] rfl rfl (fun _ => Zaa (Zaj rfl rfl (rfl) rfl on3 rfl)) ?_ | refine Zac [19] rfl rfl (fun _ => Zaa (Zaj rfl rfl (rfl) rfl on3 rfl)) ?_
      first | refine Zad [1] [] rfl rfl (fun _ => Zaa (Zah rfl rfl)) ?_ | refine Zac [1] rfl rfl (fun _ => Zaa (Zah rfl rfl)) ?_
      first | refine Zad [5] [] rfl rfl (fun _ => Zaa (Zah rfl rfl)) ?_ | refine Zac [5] rfl rfl (fun _ => Zaa (Zah rfl rfl)) ?_
      first | refine Zad [21, 22] [] rfl rfl (fun _ => Zaa (Zam (k) rfl rfl (rfl) (getR hkm) Try.underlying25 rfl sz3 rfl)) ?_ | refine Zac [21, 22] rfl rfl (fun _ => Zaa (Zam (k) rfl rfl (rfl) (getR hkm) Try.underlying25 rfl sz3 rfl)) ?_ | refine Zad [21, 22] [] rfl rfl (fun _ => Zaa (Zal (k) rfl rfl (rfl) (getR hkm) rfl Try.underlying25 sz3 rfl)) ?_ | refine Zac [21, 22] rfl rfl (fun _ => Zaa (Zal (k) rfl rfl (rfl) (getR hkm) rfl Try.underlying25 sz3 rfl)) ?_
      first | refine Zad [23] [] rfl rfl (fun _ => Zaa (Zai rfl rfl on3 rfl)) ?_ | refine Zac [23] rfl rfl (fun _ => Zaa (Zai rfl rfl on3 rfl)) ?_ | refine Zad [23] [] rfl rfl (fun _ => Zaa (Zak rfl rfl rfl on3 rfl)) ?_ | refine Zac [23] rfl rfl (fun _ => Zaa (Zak rfl rfl rfl on3 rfl)) ?_ | refine Zad [23] [] rfl rfl (fun _ => Zaa (Zaj rfl rfl (rfl) rfl on3 rfl)) ?_ | refine Zac [23] rfl rfl (fun _ => Zaa (Zaj rfl rfl (rfl) rfl on3 rfl)) ?_
      refine dwc 8 rfl rfl rfl (dw1 9 rfl rfl ?_)
      first | refine Zab.go (st_neq rfl rfl rfl) ?_ | refine Zab.go (Zbz rfl rfl rfl) ?_ | refine Zab.go (ZbA rfl rfl rfl) ?_ | refine Zab.go (ZbE Try.underlying3 rfl rfl rfl) ?_ | refine Zab.go (ZbC Try.underlying3 rfl rfl rfl) ?_ | refine Zab.go (st_neqN Try.underlying3 rfl rfl) ?_ | refine Zab.go (ZbD Try.underlying3 rfl rfl rfl) ?_ | refine Zab.go (st_neqFN Try.underlying3 rfl rfl) ?_
      refine Zaf ⟨rfl, ?_⟩;refine dwe ?_
      first | refine ZaU rfl (fun h25 => ?_) (fun h25 => ?_) | refine ZaG rfl (fun h25 => ?_) (fun h25 => ?_)
      · refine Zag (Zae (goAs rfl rfl (Zaf (Za5 ?_))));exact ⟨_, [], [], ZaS rfl, rfl, rfl, by rw [decide_eq_false (fun e => h25 (by subst e; rfl))], rfl⟩
      · refine ZaD (Zae (goMv rfl rfl (Zab.go (ZaJ rfl rfl (IntWalk.i64_in _ (by omega)) rfl) (goAs rfl rfl (Zaf ?_)))));exact ⟨k + 1, ⟨hkl, take_eq hkl hkm hn (Int.ofNat.inj (Classical.not_not.1 h25))⟩, by omega, ⟨rfl, rfl, fun _ _ => Has.get (l := [(0, _), (1, _), (5, _)]) ⟨rfl, rfl, rfl, trivial⟩⟩⟩
    · refine ZaN (Zag (Zae (goAs rfl rfl (Zaf (Za5 ?_)))));exact ⟨_, [], [], ZaS rfl, rfl, rfl, by rw [decide_eq_true (takeAll hlm (by have := h14; omega) hn)], rfl⟩
set_option maxRecDepth 100000 in
theorem same_p (l m : List (List Nat)) (hl : l.length ≤ 2000000) (hm : m.length ≤ 2000000) (hl2 : ∀ x ∈ l, x.length ≤ 2000000) (hm2 : ∀ x ∈ m, x.length ≤ 2000000) : PCalls Try.prog 18 [.d (grD l), .d (grD m)] (boolD (decide (l = m))) := by
  refine Zbg Try.func18 rfl rfl Try.ntmps18 rfl rfl rfl fun F hF => (Zag (Zae ?_));refine goAs rfl rfl (Zaf (Zag (Zag (Zae (goMv rfl rfl (Zab.go (ZaC rfl (List.length_map ..) Try.underlying22 rfl) (goMv rfl rfl (Zab.go (ZaC rfl (List.length_map ..) Try.underlying22 rfl) ?_))))))))
  first | refine Zab.go (st_neq rfl rfl rfl) ?_ | refine Zab.go (Zbz rfl rfl rfl) ?_ | refine Zab.go (ZbA rfl rfl rfl) ?_ | refine Zab.go (ZbE Try.underlying3 rfl rfl rfl) ?_ | refine Zab.go (ZbC Try.underlying3 rfl rfl rfl) ?_ | refine Zab.go (st_neqN Try.underlying3 rfl rfl) ?_ | refine Zab.go (ZbD Try.underlying3 rfl rfl rfl) ?_ | refine Zab.go (st_neqFN Try.underlying3 rfl rfl) ?_
  refine Zaf ?_
  first | refine ZaU rfl (fun h10 => ?_) (fun h10 => ?_) | refine ZaG rfl (fun h10 => ?_) (fun h10 => ?_)
  · refine Zag (Zae (goAs rfl rfl (Zaf (Za5 ?_))));exact ⟨_, [], [], ZaS rfl, rfl, rfl, by rw [decide_eq_false (fun e => h10 (by rw [e]))], rfl⟩
  · refine ZaD (Zag (Zag (Zae (goAs rfl rfl (Zaf (Zax ?_))))));have hlm : l.length = m.length := Int.ofNat.inj (Classical.not_not.1 h10);refine a_loop (α := Nat) (fun k => ⟨27, [(0, .d (grD l)), (1, .d (grD m)), (5, (.d (natD k)))], []⟩) (fun k => k ≤ l.length ∧ l.take k = m.take k) (fun k => l.length - k) (0) (⟨Nat.zero_le _, by simp⟩) (ZbL ⟨rfl, rfl, rfl, trivial⟩) ?_;rintro k ⟨hk, hn⟩;refine Zag (Zag (Zae (goMv rfl rfl (goMv rfl rfl (Zab.go (ZaC rfl (List.length_map ..) Try.underlying22 rfl) ?_)))))
    first | refine Zab.go (Za3 rfl rfl rfl) ?_ | refine Zab.go (ZaV rfl rfl rfl) ?_
    refine Zaf ?_
    first | refine ZaU rfl (fun h14 => ?_) (fun h14 => ?_) | refine ZaG rfl (fun h14 => ?_) (fun h14 => ?_)
    · refine ZaD (Zag (Zax (Zag ?_)));have hkl : k < l.length := Zbl h14;have hkm : k < m.length := by omega
      refine Zbm [[], [], [0, 1], [0, 1, 2], [], [], [4, 5], [4, 5, 6], [0, 1, 2, 3, 4, 5, 6, 7], [0, 1, 2, 3, 4, 5, 6, 7, 8]] mixed rfl (dws ?_)
      first | refine Zad [0] [] rfl rfl (fun _ => Zaa (Zah rfl rfl)) ?_ | refine Zac [0] rfl rfl (fun _ => Zaa (Zah rfl rfl)) ?_
      first | refine Zad [5] [] rfl rfl (fun _ => Zaa (Zah rfl rfl)) ?_ | refine Zac [5] rfl rfl (fun _ => Zaa (Zah rfl rfl)) ?_
      first | refine Zad [17, 18] [] rfl rfl (fun _ => Zaa (Zam (k) rfl rfl (rfl) (getS hkl) Try.underlying22 rfl sz25 rfl)) ?_ | refine Zac [17, 18] rfl rfl (fun _ => Zaa (Zam (k) rfl rfl (rfl) (getS hkl) Try.underlying22 rfl sz25 rfl)) ?_ | refine Zad [17, 18] [] rfl rfl (fun _ => Zaa (Zal (k) rfl rfl (rfl) (getS hkl) rfl Try.underlying22 sz25 rfl)) ?_ | refine Zac [17, 18] rfl rfl (fun _ => Zaa (Zal (k) rfl rfl (rfl) (getS hkl) rfl Try.underlying22 sz25 rfl)) ?_
      first | refine Zad [19] [] rfl rfl (fun _ => Zaa (Zai rfl rfl on25 rfl)) ?_ | refine Zac [19] rfl rfl (fun _ => Zaa (Zai rfl rfl on25 rfl)) ?_ | refine Zad [19] [] rfl rfl (fun _ => Zaa (Zak rfl rfl rfl on25 rfl)) ?_ | refine Zac [19] rfl rfl (fun _ => Zaa (Zak rfl rfl rfl on25 rfl)) ?_ | refine Zad [19] [] rfl rfl (fun _ => Zaa (Zaj rfl rfl (rfl) rfl on25 rfl)) ?_ | refine Zac [19] rfl rfl (fun _ => Zaa (Zaj rfl rfl (rfl) rfl on25 rfl)) ?_
      first | refine Zad [1] [] rfl rfl (fun _ => Zaa (Zah rfl rfl)) ?_ | refine Zac [1] rfl rfl (fun _ => Zaa (Zah rfl rfl)) ?_
      first | refine Zad [5] [] rfl rfl (fun _ => Zaa (Zah rfl rfl)) ?_ | refine Zac [5] rfl rfl (fun _ => Zaa (Zah rfl rfl)) ?_
      first | refine Zad [21, 22] [] rfl rfl (fun _ => Zaa (Zam (k) rfl rfl (rfl) (getS hkm) Try.underlying22 rfl sz25 rfl)) ?_ | refine Zac [21, 22] rfl rfl (fun _ => Zaa (Zam (k) rfl rfl (rfl) (getS hkm) Try.underlying22 rfl sz25 rfl)) ?_ | refine Zad [21, 22] [] rfl rfl (fun _ => Zaa (Zal (k) rfl rfl (rfl) (getS hkm) rfl Try.underlying22 sz25 rfl)) ?_ | refine Zac [21, 22] rfl rfl (fun _ => Zaa (Zal (k) rfl rfl (rfl) (getS hkm) rfl Try.underlying22 sz25 rfl)) ?_
      first | refine Zad [23] [] rfl rfl (fun _ => Zaa (Zai rfl rfl on25 rfl)) ?_ | refine Zac [23] rfl rfl (fun _ => Zaa (Zai rfl rfl on25 rfl)) ?_ | refine Zad [23] [] rfl rfl (fun _ => Zaa (Zak rfl rfl rfl on25 rfl)) ?_ | refine Zac [23] rfl rfl (fun _ => Zaa (Zak rfl rfl rfl on25 rfl)) ?_ | refine Zad [23] [] rfl rfl (fun _ => Zaa (Zaj rfl rfl (rfl) rfl on25 rfl)) ?_ | refine Zac [23] rfl rfl (fun _ => Zaa (Zaj rfl rfl (rfl) rfl on25 rfl)) ?_
      refine dwc 8 rfl rfl rfl (dw1 9 rfl rfl (Zab.go (Za9 (eqN_p l[k] m[k] (hl2 _ (List.getElem_mem hkl)) (hm2 _ (List.getElem_mem hkm))) rfl rfl) (Zaf ⟨rfl, ?_⟩)));refine dw1 10 rfl rfl ?_
      first | refine Zab.go (st_notP rfl rfl) ?_ | refine Zab.go (st_not rfl rfl) ?_
      refine Zaf ⟨rfl, ?_⟩;refine dwe ?_
      first | refine ZaU rfl (fun h26 => ?_) (fun h26 => ?_) | refine ZaG rfl (fun h26 => ?_) (fun h26 => ?_)
      · refine Zag (Zae (goAs rfl rfl (Zaf (Za5 ?_))));exact ⟨_, [], [], ZaS rfl, rfl, rfl, by rw [decide_eq_false (fun e => h26 (by subst e; rfl))], rfl⟩
      · refine ZaD (Zae (goMv rfl rfl (Zab.go (ZaJ rfl rfl (IntWalk.i64_in _ (by omega)) rfl) (goAs rfl rfl (Zaf ?_)))));exact ⟨k + 1, ⟨hkl, take_eq hkl hkm hn (Classical.not_not.1 h26)⟩, by omega, ⟨rfl, rfl, fun _ _ => Has.get (l := [(0, _), (1, _), (5, _)]) ⟨rfl, rfl, rfl, trivial⟩⟩⟩
    · refine ZaN (Zag (Zae (goAs rfl rfl (Zaf (Za5 ?_)))));exact ⟨_, [], [], ZaS rfl, rfl, rfl, by rw [decide_eq_true (takeAll hlm (by have := h14; omega) hn)], rfl⟩
theorem cycle0_p : PCalls Try.prog 14 [.d (grD g0)] (.tup [natsD [1, 2], boolD true, intD 0]) := by
  have h := cycle_c g0 g0_gt;refine ⟨h.1, fun F ρ vs h1 h2 h2' h3 h4 h5 => (h.2 F ρ vs h1 h2 h2' h3 h4 h5).mono fun e w' ⟨v, r, H', ρ', e1, ⟨best, out, hC, hr, hH⟩, hrep, hh⟩ => ⟨v, r, H', ρ', e1, ⟨?_, hH⟩, hrep, hh⟩⟩;rw [hr, cyc0 hC]
  rfl
set_option maxRecDepth 100000 in
theorem known_p : PCalls Try.prog 12 [] (boolD true) := by
  have hc := components_p g0 g0_gt;rw [com0] at hc;refine Zbg Try.func12 rfl rfl Try.ntmps12 rfl rfl rfl fun F hF => (Zag (Zae (goAs rfl rfl (Zaf (Zag ?_)))));refine Zae (Zaw.go (ZaO 11 sl25 rfl rfl rfl rfl rfl rfl rfl rfl) (ZbK (emb := natD) 7 11 [1] rfl rfl rfl rfl rfl rfl rfl (Zaw.go (ZaO 12 sl25 rfl rfl rfl rfl rfl rfl rfl rfl) (ZbK (emb := natD) 8 12 [2] rfl rfl rfl rfl rfl rfl rfl (Zaw.go (ZaO 13 sl25 rfl rfl rfl rfl rfl rfl rfl rfl) (ZbK (emb := natD) 9 13 [1, 3] rfl rfl rfl rfl rfl rfl rfl (Zaw.go (ZaO 14 sl25 rfl rfl rfl rfl rfl rfl rfl rfl) (ZbK (emb := natD) 10 14 [] rfl rfl rfl rfl rfl rfl rfl ?_))))))));refine Zaw.go (ZaO 15 sl32 rfl rfl rfl rfl rfl rfl rfl rfl) (ZbK (emb := natsD) 11 15 g0 rfl rfl rfl rfl rfl rfl rfl (goAs rfl rfl (Zaf (Zag (Zae (goMv rfl rfl (Zab.go (Za9 (hc) rfl rfl) (goMv rfl rfl ?_))))))))
  first | refine Zab.go (ZaI rfl rfl rfl) ?_ | refine Zab.go (ZaM rfl rfl rfl) ?_
  first | refine Zab.go (ZaI rfl rfl rfl) ?_ | refine Zab.go (ZaM rfl rfl rfl) ?_
  refine goAs rfl rfl (goAs rfl rfl (Zaf (Zag (Zae (goMv rfl rfl (Zab.go (Za9 (cycle0_p) rfl rfl) (goMv rfl rfl ?_)))))))
  first | refine Zab.go (ZaI rfl rfl rfl) ?_ | refine Zab.go (ZaM rfl rfl rfl) ?_
  first | refine Zab.go (ZaI rfl rfl rfl) ?_ | refine Zab.go (ZaM rfl rfl rfl) ?_
  first | refine Zab.go (ZaI rfl rfl rfl) ?_ | refine Zab.go (ZaM rfl rfl rfl) ?_
  refine goAs rfl rfl (goAs rfl rfl (goAs rfl rfl (Zaf (Zag (Zae (goMv rfl rfl ?_))))))
  first | refine Zab.go (Zbo rfl rfl rfl) ?_ | refine Zab.go (Za0 rfl rfl rfl) ?_ | refine Zab.go (Za7 rfl rfl rfl) ?_ | refine Zab.go (Zbf Try.underlying26 rfl rfl rfl) ?_ | refine Zab.go (Zbc Try.underlying26 rfl rfl rfl) ?_ | refine Zab.go (Zbd Try.underlying26 rfl rfl) ?_ | refine Zab.go (Zbe Try.underlying26 rfl rfl rfl) ?_ | refine Zab.go (Za1 Try.underlying26 rfl rfl) ?_
  refine goMv rfl rfl (o_setT 25 rfl (decide_eq_true (by decide)) ?_);refine ZaE rfl rfl rfl (goMv rfl rfl (ZaE rfl rfl rfl (Zaw.go (ZaO 21 sl25 rfl rfl rfl rfl rfl rfl rfl rfl) (ZbK (emb := natD) 27 21 [0] rfl rfl rfl rfl rfl rfl rfl (ZaE rfl rfl rfl (Zaw.go (ZaO 22 sl25 rfl rfl rfl rfl rfl rfl rfl rfl) (ZbK (emb := natD) 28 22 [1, 2] rfl rfl rfl rfl rfl rfl rfl (ZaE rfl rfl rfl ?_))))))));refine Zaw.go (ZaO 23 sl25 rfl rfl rfl rfl rfl rfl rfl rfl) (ZbK (emb := natD) 29 23 [3] rfl rfl rfl rfl rfl rfl rfl (ZaE rfl rfl rfl (Zaw.go (ZaO 24 sl22 rfl rfl rfl rfl rfl rfl rfl rfl) (ZbK (emb := natsD) 30 24 [[0], [1, 2], [3]] rfl rfl rfl rfl rfl rfl rfl (ZaE rfl rfl rfl (Zab.go (Za9 (same_p [[0], [1, 2], [3]] [[0], [1, 2], [3]] (by decide) (by decide) (by decide) (by decide)) rfl rfl) (Zab.go (ZaX rfl rfl rfl rfl) (goMv rfl rfl ?_))))))));refine o_setT 33 rfl (decide_eq_true (by decide)) (ZaE rfl rfl rfl (goMv rfl rfl (Zab.go (ZaX rfl rfl rfl rfl) (goMv rfl rfl (o_setT 36 rfl (rfl) (ZaE rfl rfl rfl (goMv rfl rfl (ZaE rfl rfl rfl ?_))))))))
  first | refine Zab.go (Zbo rfl rfl rfl) ?_ | refine Zab.go (Za0 rfl rfl rfl) ?_ | refine Zab.go (Za7 rfl rfl rfl) ?_ | refine Zab.go (Zbf Try.underlying26 rfl rfl rfl) ?_ | refine Zab.go (Zbc Try.underlying26 rfl rfl rfl) ?_ | refine Zab.go (Zbd Try.underlying26 rfl rfl) ?_ | refine Zab.go (Zbe Try.underlying26 rfl rfl rfl) ?_ | refine Zab.go (Za1 Try.underlying26 rfl rfl) ?_
  refine Zab.go (ZaX rfl rfl rfl rfl) (goMv rfl rfl (o_setT 40 rfl (decide_eq_true (by decide)) (ZaE rfl rfl rfl (goMv rfl rfl ?_))));refine ZaE rfl rfl rfl (Zaw.go (ZaO 25 sl25 rfl rfl rfl rfl rfl rfl rfl rfl) (ZbK (emb := natD) 42 25 [1, 2] rfl rfl rfl rfl rfl rfl rfl (ZaE rfl rfl rfl (Zab.go (Za9 (eqN_p [1, 2] [1, 2] (by decide) (by decide)) rfl rfl) (Zab.go (ZaX rfl rfl rfl rfl) (goAs rfl rfl (Zaf (Za5 ?_))))))));exact ⟨_, [], [], ZaS rfl, rfl, rfl, rfl, rfl⟩
end Go.Proofs.Ytgdppeobgefogaa
/- Layer 31: small graphs; the reference's Reverse. -/
namespace Go.Proofs.Ytgdppeobgefogaa
open Go.RowKit
theorem take_min {α : Type} {l : List α} {j m : Nat} (h : j = min l.length m) : l.take j = l.take m := by
  subst h;rcases Nat.le_total l.length m with h | h
  · rw [Nat.min_eq_left h, List.take_of_length_le (Nat.le_refl _), List.take_of_length_le h]
  · rw [Nat.min_eq_right h]
end Go.Proofs.Ytgdppeobgefogaa
