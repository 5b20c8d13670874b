/- Proved here: sccCheck_holds, the given statement Rows.SccCheckSaid: the law girolaw31.SccCheck returns true and does not panic, at every input that the statement speaks of; no condition beyond the statement. -/
/- 'girolaw31.SccCheck': for every input the law returns true, and each argument reads behind the call as it read before. No condition. -/
import Derived.Test.YtgdppeobgefogaaMg19
namespace Go.Proofs.Ytgdppeobgefogaa
open Go.RowKit
def smlI (g : List (List Int)) : List (List Int) := (g.take (min g.length 14)).map (List.take 14)
theorem smlI_b (g : List (List Int)) : (smlI g).length ≤ 14 ∧ ∀ l ∈ smlI g, l.length ≤ 14 := by
  refine ⟨by unfold smlI; rw [List.length_map, List.length_take]; omega, fun l hl => ?_⟩;obtain ⟨m, _, rfl⟩ := List.mem_map.1 hl;rw [List.length_take]; omega
set_option maxRecDepth 100000 in
theorem smallI_p (g : List (List Int)) (hg : g.length ≤ 140737488355328) (hl : ∀ l ∈ g, l.length ≤ 140737488355328) : PCalls Try.prog 13 [.d (grI g), .d (boolD false)] (grI (smlI g)) := by
  obtain ⟨n, hn⟩ : ∃ n, min g.length 14 = n := ⟨_, rfl⟩
  have hn14 : n ≤ 14 := by omega
  unfold smlI;rw [hn];refine Zbg Try.func13 rfl rfl Try.ntmps13 rfl rfl rfl fun F hF => (Zag (Zae (goAs rfl rfl (Zaf (Zag ?_)))));refine Zae (goMv rfl rfl (Zab.go (ZaC rfl (List.length_map ..) Try.underlying22 rfl) (Zab.go (st_min rfl rfl ((show (if (14 : Int) < (g.length : Int) then (14 : Int) else (g.length : Int)) = (n : Int) by split <;> omega)) rfl) (goAs rfl rfl (Zaf (Zag (Zae (goAs rfl rfl ?_))))))));refine Zaf (Zag (Zag (Zae (goAs rfl rfl (Zaf (Zax (a_adopt 6 2 sl22 rfl rfl rfl rfl (Za8 (α := Nat × List (List Int)) (fun q => ⟨55, [(0, .d (grI g)), (1, .d (boolD false)), (5, (.d (natD n))), (6, (.own 2 0 q.2.length)), (7, (.d (natD q.1)))], [(2, [.rowD 25 1 (q.2.map intsD)])]⟩) (fun q => q.1 ≤ n ∧ q.2 = (g.take q.1).map (List.take 14)) (fun q => n - q.1) ((0, [])) (⟨Nat.zero_le _, rfl⟩) (Zay hF [2] rfl rfl ⟨rfl, rfl, rfl, rfl, rfl, trivial⟩) ?_))))))));rintro ⟨k, o⟩ ⟨hk, ho⟩;dsimp only at hk ho ⊢;refine Zag (Zag (Zae (goMv rfl rfl (goMv rfl rfl ?_))))
  first | refine Zab.go (Za3 rfl rfl rfl) ?_ | refine Zab.go (ZaV rfl rfl rfl) ?_
  refine Zaf ?_
  first | refine ZaU rfl (fun h16 => ?_) (fun h16 => ?_) | refine ZaG rfl (fun h16 => ?_) (fun h16 => ?_)
  · refine ZaD (Zag (Zax (Zag ?_)));have hkn : k < n := Zbl h16;have hkg : k < g.length := by omega
    have hll := hl _ (List.getElem_mem hkg);have hol : o.length = k := by rw [ho, List.length_map, List.length_take]; omega
    refine Zae (goAs rfl rfl ?_);refine Zaf (Zag (Zag (Zae (goAs rfl rfl (Zaf (Zax (a_adopt 8 1 sl25 rfl rfl rfl rfl (Za8 (α := Nat × List Int) (fun q => ⟨55, [(0, .d (grI g)), (1, .d (boolD false)), (5, (.d (natD n))), (6, (.own 2 0 o.length)), (7, (.d (natD k))), (8, (.own 1 0 q.2.length)), (9, (.d (natD q.1)))], [(1, [.rowD 3 1 (q.2.map intD)]), (2, [.rowD 25 1 (o.map intsD)])]⟩) (fun q => q.1 ≤ min g[k].length 14 ∧ q.2 = g[k].take q.1) (fun q => g[k].length - q.1) ((0, [])) (⟨Nat.zero_le _, rfl⟩) (Zay hF [1, 2] rfl rfl ⟨rfl, rfl, rfl, rfl, rfl, rfl, rfl, trivial⟩) ?_))))))));rintro ⟨j, r⟩ ⟨hj, hr⟩;dsimp only at hj hr ⊢;refine Zag (Zag (Zae (goMv rfl rfl (goMv rfl rfl (goMv rfl rfl ?_)))))
    first | refine Zab.go (Zam (k) rfl rfl (rfl) (getgI hkg) Try.underlying22 rfl sz25 rfl) ?_ | refine Zab.go (Zal (k) rfl rfl (rfl) (getgI hkg) rfl Try.underlying22 sz25 rfl) ?_
    first | refine Zab.go (Zai rfl rfl on25 rfl) ?_ | refine Zab.go (Zak rfl rfl rfl on25 rfl) ?_ | refine Zab.go (Zaj rfl rfl (rfl) rfl on25 rfl) ?_
    refine Zab.go (ZaC rfl (List.length_map ..) Try.underlying25 rfl) ?_
    first | refine Zab.go (Za3 rfl rfl rfl) ?_ | refine Zab.go (ZaV rfl rfl rfl) ?_
    refine goMv rfl rfl ?_
    first | refine Zbr 26 rfl (fun h26 => ?_) (fun h26 => ?_) | refine Zbp 26 rfl (fun h26 => ?_) (fun h26 => ?_)
    · refine ZaE rfl rfl rfl (goMv rfl rfl (ZaE rfl rfl rfl ?_))
      first | refine Zab.go (Za3 rfl rfl rfl) ?_ | refine Zab.go (ZaV rfl rfl rfl) ?_
      refine Zab.go (ZaX rfl rfl rfl rfl) (Zaf ?_)
      first | refine ZaU rfl (fun h29 => ?_) (fun h29 => ?_) | refine ZaG rfl (fun h29 => ?_) (fun h29 => ?_)
      · refine ZaD (Zag (Zax (Zag ?_)));have hjl : j < g[k].length := by have := h26; omega
        have hrl : r.length = j := by rw [hr, List.length_take]; omega
        refine Zae (goMv rfl rfl (goMv rfl rfl ?_))
        first | refine Zab.go (Zam (k) rfl rfl (rfl) (getgI hkg) Try.underlying22 rfl sz25 rfl) ?_ | refine Zab.go (Zal (k) rfl rfl (rfl) (getgI hkg) rfl Try.underlying22 sz25 rfl) ?_
        first | refine Zab.go (Zai rfl rfl on25 rfl) ?_ | refine Zab.go (Zak rfl rfl rfl on25 rfl) ?_ | refine Zab.go (Zaj rfl rfl (rfl) rfl on25 rfl) ?_
        refine goMv rfl rfl ?_
        first | refine Zab.go (Zam (j) rfl rfl (rfl) (getI hjl) Try.underlying25 rfl sz3 rfl) ?_ | refine Zab.go (Zal (j) rfl rfl (rfl) (getI hjl) rfl Try.underlying25 sz3 rfl) ?_
        first | refine Zab.go (Zai rfl rfl on3 rfl) ?_ | refine Zab.go (Zak rfl rfl rfl on3 rfl) ?_ | refine Zab.go (Zaj rfl rfl (rfl) rfl on3 rfl) ?_
        refine goAs rfl rfl (Zaf (Zag ?_));refine Zag (Zae (goMv rfl rfl (Zaf (Zbx rfl (rfl) (ZaD (Zae (goMv rfl rfl (goMv rfl rfl ?_))))))));refine Zaw.go (ZaO 21 sl25 rfl rfl rfl rfl rfl rfl rfl rfl) (Zaw.go (st_appM (emb := intD) r [g[k][j]] rfl rfl rfl rfl rfl rfl rfl rfl sl25 (by show (r.length + 1) * 8 ≤ _; omega) rfl rfl rfl rfl) (goAs rfl rfl (Zaf (Zae (goMv rfl rfl (Zab.go (ZaJ rfl rfl (IntWalk.i64_in _ (by omega)) rfl) (goAs rfl rfl (Zaf ?_))))))));exact ⟨(j + 1, r ++ [g[k][j]]), ⟨by show j + 1 ≤ _; omega, by rw [hr, List.take_succ_eq_append_getElem hjl]⟩, by show g[k].length - (j + 1) < g[k].length - j; omega, Zay hF [1, 2] rfl (rfl) ⟨rfl, rfl, rfl, rfl, rfl, rfl, rfl, trivial⟩⟩
      · refine ZaN ?_;have hre : r = g[k].take 14 := by rw [hr, take_min (m := 14) (by omega)]
        subst hre;refine Zbt (emb := intD) 8 1 (g[k].take 14) rfl rfl rfl rfl rfl rfl rfl (Zae (goMv rfl rfl (goMv rfl rfl ?_)));refine Zaw.go (ZaO 22 sl22 rfl rfl rfl rfl rfl rfl rfl rfl) (Zaw.go (st_appM (emb := intsD) o [g[k].take 14] rfl rfl rfl rfl rfl rfl rfl rfl sl22 (by show (o.length + 1) * 24 ≤ _; omega) rfl rfl rfl rfl) (goAs rfl rfl (Zaf (Zae (goMv rfl rfl (Zab.go (ZaJ rfl rfl (IntWalk.i64_in _ (by omega)) rfl) (goAs rfl rfl (Zaf ?_))))))));exact ⟨(k + 1, o ++ [g[k].take 14]), ⟨hkn, by rw [ho, List.take_succ_eq_append_getElem hkg, List.map_append]; rfl⟩, by show n - (k + 1) < n - k; omega, Zay hF [2] rfl (rfl) ⟨rfl, rfl, rfl, rfl, rfl, trivial⟩⟩
    · refine ZaF rfl rfl rfl rfl (ZaF rfl rfl rfl rfl (Zab.go (Za4 rfl rfl rfl rfl) (Zaf (Zbx rfl rfl (ZaN ?_)))));have hre : r = g[k].take 14 := by rw [hr, take_min (m := 14) (by omega)]
      subst hre;refine Zbt (emb := intD) 8 1 (g[k].take 14) rfl rfl rfl rfl rfl rfl rfl (Zae (goMv rfl rfl (goMv rfl rfl ?_)));refine Zaw.go (ZaO 22 sl22 rfl rfl rfl rfl rfl rfl rfl rfl) (Zaw.go (st_appM (emb := intsD) o [g[k].take 14] rfl rfl rfl rfl rfl rfl rfl rfl sl22 (by show (o.length + 1) * 24 ≤ _; omega) rfl rfl rfl rfl) (goAs rfl rfl (Zaf (Zae (goMv rfl rfl (Zab.go (ZaJ rfl rfl (IntWalk.i64_in _ (by omega)) rfl) (goAs rfl rfl (Zaf ?_))))))));exact ⟨(k + 1, o ++ [g[k].take 14]), ⟨hkn, by rw [ho, List.take_succ_eq_append_getElem hkg, List.map_append]; rfl⟩, by show n - (k + 1) < n - k; omega, Zay hF [2] rfl (rfl) ⟨rfl, rfl, rfl, rfl, rfl, trivial⟩⟩
  · refine ZaN (Zag ?_);have hke : k = n := by have := h16; omega
    subst hke;refine Zbt (emb := intsD) 6 2 o rfl rfl rfl rfl rfl rfl rfl ?_;rw [ho];refine Zae (goMv rfl rfl (goAs rfl rfl (Zaf (Za5 ?_))));exact ⟨_, [], [], ZaS rfl, rfl, rfl, rfl, rfl⟩
set_option maxRecDepth 100000 in
theorem refchk_p (g : List (List Int)) (hn : g.length ≤ 1000000) (hl : ∀ l ∈ g, l.length ≤ 2000000) : PCalls Try.prog 30 [.d (grI g)] (intD (chkE g)) := by
  refine Zbg Try.func30 rfl rfl Try.ntmps30 rfl rfl rfl fun F hF => (Zag (Zae (goAs rfl rfl (Zaf (Zag (Zae ?_))))));refine goAs rfl rfl (Zaf (Zag (Zag (Zae (goAs rfl rfl (Zaf (Zax (a_loop (α := Nat) (fun k => ⟨62, [(0, .d (grI g)), (3, (.d (natD (totI g k)))), (4, (.d (natD k)))], []⟩) (fun k => k ≤ g.length) (fun k => g.length - k) (0) (Nat.zero_le _) (ZbL ⟨rfl, rfl, rfl, trivial⟩) ?_))))))));intro k hk;refine Zag (Zag (Zae (goMv rfl rfl (goMv rfl rfl (Zab.go (ZaC rfl (List.length_map ..) Try.underlying22 rfl) ?_)))))
  first | refine Zab.go (Za3 rfl rfl rfl) ?_ | refine Zab.go (ZaV rfl rfl rfl) ?_
  refine Zaf ?_
  first | refine ZaU rfl (fun h10 => ?_) (fun h10 => ?_) | refine ZaG rfl (fun h10 => ?_) (fun h10 => ?_)
  · refine ZaD (Zag (Zax ?_));have hkl : k < g.length := Zbl h10;have htl := totI_le hl k (by omega);have hll := hl _ (List.getElem_mem hkl);have hts := totI_succ hkl;refine Zae (goMv rfl rfl (goMv rfl rfl (goMv rfl rfl ?_)))
    first | refine Zab.go (Zam (k) rfl rfl (rfl) (getgI hkl) Try.underlying22 rfl sz25 rfl) ?_ | refine Zab.go (Zal (k) rfl rfl (rfl) (getgI hkl) rfl Try.underlying22 sz25 rfl) ?_
    first | refine Zab.go (Zai rfl rfl on25 rfl) ?_ | refine Zab.go (Zak rfl rfl rfl on25 rfl) ?_ | refine Zab.go (Zaj rfl rfl (rfl) rfl on25 rfl) ?_
    refine Zab.go (ZaC rfl (List.length_map ..) Try.underlying25 rfl) ?_;refine Zab.go (ZaJ rfl rfl (IntWalk.i64_in _ (by omega)) rfl) (o_as 19 (.d (natD (totI g (k + 1)))) rfl (eqv (congrArg intD (by omega))) (goAs rfl rfl (Zaf (Zae (goMv rfl rfl (Zab.go (ZaJ rfl rfl (IntWalk.i64_in _ (by omega)) rfl) (goAs rfl rfl (Zaf ?_))))))));exact ⟨k + 1, by omega, by omega, ⟨rfl, rfl, fun _ _ => Has.get (l := [(0, _), (3, _), (4, _)]) ⟨rfl, rfl, rfl, trivial⟩⟩⟩
  · refine ZaN (Zag (Zag ?_));have hke : k = g.length := by have := h10; omega
    subst hke;refine Zae (goMv rfl rfl (Zab.go (ZaC rfl (List.length_map ..) Try.underlying22 rfl) ?_))
    first | refine Zab.go (st_gtr rfl rfl rfl) ?_ | refine Zab.go (ZbF rfl rfl rfl) ?_
    refine goMv rfl rfl ?_
    first | refine Zbr 23 rfl (fun h23 => ?_) (fun h23 => ?_) | refine Zbp 23 rfl (fun h23 => ?_) (fun h23 => ?_)
    · refine ZaF rfl rfl rfl rfl ?_;refine ZaF rfl rfl rfl rfl (Zab.go (ZaX rfl rfl rfl rfl) (Zaf (a_true rfl rfl (Zag (Zae (goAs rfl rfl (Zaf (Za5 ?_))))))));exact ⟨_, [], [], ZaS rfl, rfl, rfl, by rw [← chk8 (by first | exact .inl (by omega) | exact .inr (by omega))], rfl⟩
    · refine ZaE rfl rfl rfl (goMv rfl rfl (ZaE rfl rfl rfl ?_))
      first | refine Zab.go (st_gtr rfl rfl rfl) ?_ | refine Zab.go (ZbF rfl rfl rfl) ?_
      refine Zab.go (Za4 rfl rfl rfl rfl) (Zaf ?_)
      first | refine ZaU rfl (fun h26 => ?_) (fun h26 => ?_) | refine ZaG rfl (fun h26 => ?_) (fun h26 => ?_)
      · refine Zag (Zae (goAs rfl rfl (Zaf (Za5 ?_))));exact ⟨_, [], [], ZaS rfl, rfl, rfl, by rw [← chk8 (by first | exact .inl (by omega) | exact .inr (by omega))], rfl⟩
      · refine ZaD (Zag (Zag (Zae (goAs rfl rfl (Zaf (Zax (a_loop (α := Nat) (fun i => ⟨62, [(0, .d (grI g)), (5, (.d (natD i)))], []⟩) (fun i => i ≤ g.length ∧ ∀ l ∈ g.take i, ¬ badI g.length l) (fun i => g.length - i) (0) (⟨Nat.zero_le _, fun l hl => by simp at hl⟩) (ZbL ⟨rfl, rfl, trivial⟩) ?_)))))));rintro i ⟨hi, hb⟩;refine Zag (Zag (Zae (goMv rfl rfl (goMv rfl rfl (Zab.go (ZaC rfl (List.length_map ..) Try.underlying22 rfl) ?_)))))
        first | refine Zab.go (Za3 rfl rfl rfl) ?_ | refine Zab.go (ZaV rfl rfl rfl) ?_
        refine Zaf ?_
        first | refine ZaU rfl (fun h30 => ?_) (fun h30 => ?_) | refine ZaG rfl (fun h30 => ?_) (fun h30 => ?_)
        · refine ZaD (Zag (Zax (Zag ?_)));have hil : i < g.length := Zbl h30;have hll := hl _ (List.getElem_mem hil);refine Zae (goAs rfl rfl (Zaf (Zax (a_loop (α := Nat) (fun j => ⟨62, [(0, .d (grI g)), (5, (.d (natD i))), (6, (.d (natD j)))], []⟩) (fun j => j ≤ g[i].length ∧ ∀ x ∈ g[i].take j, 0 ≤ x ∧ x < (g.length : Int)) (fun j => g[i].length - j) (0) (⟨Nat.zero_le _, fun x hx => by simp at hx⟩) (ZbL ⟨rfl, rfl, rfl, trivial⟩) ?_))));rintro j ⟨hj, hx⟩;refine Zag (Zag (Zae (goMv rfl rfl (goMv rfl rfl (goMv rfl rfl ?_)))))
          first | refine Zab.go (Zam (i) rfl rfl (rfl) (getgI hil) Try.underlying22 rfl sz25 rfl) ?_ | refine Zab.go (Zal (i) rfl rfl (rfl) (getgI hil) rfl Try.underlying22 sz25 rfl) ?_
          first | refine Zab.go (Zai rfl rfl on25 rfl) ?_ | refine Zab.go (Zak rfl rfl rfl on25 rfl) ?_ | refine Zab.go (Zaj rfl rfl (rfl) rfl on25 rfl) ?_
          refine Zab.go (ZaC rfl (List.length_map ..) Try.underlying25 rfl) ?_
          first | refine Zab.go (Za3 rfl rfl rfl) ?_ | refine Zab.go (ZaV rfl rfl rfl) ?_
          refine Zaf ?_
          first | refine ZaU rfl (fun h39 => ?_) (fun h39 => ?_) | refine ZaG rfl (fun h39 => ?_) (fun h39 => ?_)
          · refine ZaD (Zag (Zax (Zag ?_)));have hjl : j < g[i].length := Zbl h39;refine Zae (goMv rfl rfl (goMv rfl rfl ?_))
            first | refine Zab.go (Zam (i) rfl rfl (rfl) (getgI hil) Try.underlying22 rfl sz25 rfl) ?_ | refine Zab.go (Zal (i) rfl rfl (rfl) (getgI hil) rfl Try.underlying22 sz25 rfl) ?_
            first | refine Zab.go (Zai rfl rfl on25 rfl) ?_ | refine Zab.go (Zak rfl rfl rfl on25 rfl) ?_ | refine Zab.go (Zaj rfl rfl (rfl) rfl on25 rfl) ?_
            refine goMv rfl rfl ?_
            first | refine Zab.go (Zam (j) rfl rfl (rfl) (getI hjl) Try.underlying25 rfl sz3 rfl) ?_ | refine Zab.go (Zal (j) rfl rfl (rfl) (getI hjl) rfl Try.underlying25 sz3 rfl) ?_
            first | refine Zab.go (Zai rfl rfl on3 rfl) ?_ | refine Zab.go (Zak rfl rfl rfl on3 rfl) ?_ | refine Zab.go (Zaj rfl rfl (rfl) rfl on3 rfl) ?_
            first | refine Zab.go (Za3 rfl rfl rfl) ?_ | refine Zab.go (ZaV rfl rfl rfl) ?_
            refine goMv rfl rfl ?_
            first | refine Zbr 50 rfl (fun h50 => ?_) (fun h50 => ?_) | refine Zbp 50 rfl (fun h50 => ?_) (fun h50 => ?_)
            · refine ZaF rfl rfl rfl rfl (ZaF rfl rfl rfl rfl (ZaF rfl rfl rfl rfl (ZaF rfl rfl rfl rfl (ZaF rfl rfl rfl rfl (ZaF rfl rfl rfl rfl (ZaF rfl rfl rfl rfl (ZaF rfl rfl rfl rfl (ZaF rfl rfl rfl rfl ?_))))))));refine ZaF rfl rfl rfl rfl (Zab.go (ZaX rfl rfl rfl rfl) (Zaf (a_true rfl rfl (Zag (Zae (goAs rfl rfl (Zaf (Za5 ?_))))))));exact ⟨_, [], [], ZaS rfl, rfl, rfl, by rw [← chk2 (by omega) (by omega) ⟨g[i], List.getElem_mem hil, g[i][j], List.getElem_mem hjl, by omega⟩], rfl⟩
            · refine ZaE rfl rfl rfl (goMv rfl rfl (ZaE rfl rfl rfl (goMv rfl rfl (ZaE rfl rfl rfl ?_))))
              first | refine Zab.go (Zam (i) rfl rfl (rfl) (getgI hil) Try.underlying22 rfl sz25 rfl) ?_ | refine Zab.go (Zal (i) rfl rfl (rfl) (getgI hil) rfl Try.underlying22 sz25 rfl) ?_
              refine ZaE rfl rfl rfl ?_
              first | refine Zab.go (Zai rfl rfl on25 rfl) ?_ | refine Zab.go (Zak rfl rfl rfl on25 rfl) ?_ | refine Zab.go (Zaj rfl rfl (rfl) rfl on25 rfl) ?_
              refine ZaE rfl rfl rfl (goMv rfl rfl (ZaE rfl rfl rfl ?_))
              first | refine Zab.go (Zam (j) rfl rfl (rfl) (getI hjl) Try.underlying25 rfl sz3 rfl) ?_ | refine Zab.go (Zal (j) rfl rfl (rfl) (getI hjl) rfl Try.underlying25 sz3 rfl) ?_
              refine ZaE rfl rfl rfl ?_
              first | refine Zab.go (Zai rfl rfl on3 rfl) ?_ | refine Zab.go (Zak rfl rfl rfl on3 rfl) ?_ | refine Zab.go (Zaj rfl rfl (rfl) rfl on3 rfl) ?_
              refine ZaE rfl rfl rfl (goMv rfl rfl (ZaE rfl rfl rfl (Zab.go (ZaC rfl (List.length_map ..) Try.underlying22 rfl) (ZaE rfl rfl rfl (Zab.go (st_geq rfl rfl rfl) (Zab.go (Za4 rfl rfl rfl rfl) (Zaf ?_)))))))
              first | refine ZaU rfl (fun h61 => ?_) (fun h61 => ?_) | refine ZaG rfl (fun h61 => ?_) (fun h61 => ?_)
              · refine Zag (Zae (goAs rfl rfl (Zaf (Za5 ?_))));exact ⟨_, [], [], ZaS rfl, rfl, rfl, by rw [← chk2 (by omega) (by omega) ⟨g[i], List.getElem_mem hil, g[i][j], List.getElem_mem hjl, by omega⟩], rfl⟩
              · refine ZaD (Zae (goMv rfl rfl (Zab.go (ZaJ rfl rfl (IntWalk.i64_in _ (by omega)) rfl) (goAs rfl rfl (Zaf ?_)))));exact ⟨j + 1, ⟨by omega, fun x hxm => by rw [List.take_succ_eq_append_getElem hjl] at hxm; exact (List.mem_append.1 hxm).elim (hx x) fun e => by rw [List.mem_singleton.1 e]; exact ⟨by omega, by omega⟩⟩, by omega, ⟨rfl, rfl, fun _ _ => Has.get (l := [(0, _), (5, _), (6, _)]) ⟨rfl, rfl, rfl, trivial⟩⟩⟩
          · refine ZaN ?_;have hje : j = g[i].length := by have := h39; omega
            have hrow : ¬ badI g.length g[i] := fun ⟨x, hxm, hbx⟩ => hbx (hx x (by rw [hje, List.take_length]; exact hxm));refine Zae (goMv rfl rfl (Zab.go (ZaJ rfl rfl (IntWalk.i64_in _ (by omega)) rfl) (goAs rfl rfl (Zaf ?_))));exact ⟨i + 1, ⟨by omega, fun l hlm => by rw [List.take_succ_eq_append_getElem hil] at hlm; exact (List.mem_append.1 hlm).elim (hb l) fun e => by rw [List.mem_singleton.1 e]; exact hrow⟩, by omega, ⟨rfl, rfl, fun _ _ => Has.get (l := [(0, _), (5, _)]) ⟨rfl, rfl, trivial⟩⟩⟩
        · refine ZaN (Zag ?_);have hie : i = g.length := by have := h30; omega
          rw [hie, List.take_length] at hb;refine Zae (goAs rfl rfl (Zaf (Za5 ?_)));exact ⟨_, [], [], ZaS rfl, rfl, rfl, by rw [← chk0 (by omega) (by omega) (fun ⟨l, h1, h2⟩ => hb l h1 h2)], rfl⟩
section
variable (g : List (List Int)) (hn : g.length ≤ 1000000) (hl : ∀ l ∈ g, l.length ≤ 2000000) (he : chkE g ≠ 0)
include hn hl he
set_option maxRecDepth 100000 in
theorem condenseE_p : PCalls Try.prog 26 [.d (grI g)] (.tup [.sl (some true) [], intD (chkE g)]) := by
  refine Zbg Try.func26 rfl rfl Try.ntmps26 rfl rfl rfl fun F hF => (Zag (Zae (goAs rfl rfl (goAs rfl rfl (Zaf (Zag ?_))))));refine Zag (Zae (goMv rfl rfl (Zab.go (Za9 (check_p g hn hl) rfl rfl) (goAs rfl rfl (Zaf (Zag (Zae (goMv rfl rfl ?_))))))))
  first | refine Zab.go (st_neq rfl rfl rfl) ?_ | refine Zab.go (Zbz rfl rfl rfl) ?_ | refine Zab.go (ZbA rfl rfl rfl) ?_ | refine Zab.go (ZbE Try.underlying26 rfl rfl rfl) ?_ | refine Zab.go (ZbC Try.underlying26 rfl rfl rfl) ?_ | refine Zab.go (st_neqN Try.underlying26 rfl rfl) ?_ | refine Zab.go (ZbD Try.underlying26 rfl rfl rfl) ?_ | refine Zab.go (st_neqFN Try.underlying26 rfl rfl) ?_
  refine Zaf (a_true rfl (decide_eq_true (by simpa using he)) (Zag (Zae (goMv rfl rfl (goAs rfl rfl (goAs rfl rfl (Zaf (Za5 ?_))))))));exact ⟨_, [], [], ZaS rfl, rfl, rfl, rfl, rfl⟩
set_option maxRecDepth 100000 in
theorem topoE_p : PCalls Try.prog 21 [.d (grI g)] (.tup [.sl (some true) [], intD (chkE g)]) := by
  refine Zbg Try.func21 rfl rfl Try.ntmps21 rfl rfl rfl fun F hF => (Zag (Zae (goAs rfl rfl (goAs rfl rfl (Zaf (Zag ?_))))));refine Zag (Zae (goMv rfl rfl (Zab.go (Za9 (check_p g hn hl) rfl rfl) (goAs rfl rfl (Zaf (Zag (Zae (goMv rfl rfl ?_))))))))
  first | refine Zab.go (st_neq rfl rfl rfl) ?_ | refine Zab.go (Zbz rfl rfl rfl) ?_ | refine Zab.go (ZbA rfl rfl rfl) ?_ | refine Zab.go (ZbE Try.underlying26 rfl rfl rfl) ?_ | refine Zab.go (ZbC Try.underlying26 rfl rfl rfl) ?_ | refine Zab.go (st_neqN Try.underlying26 rfl rfl) ?_ | refine Zab.go (ZbD Try.underlying26 rfl rfl rfl) ?_ | refine Zab.go (st_neqFN Try.underlying26 rfl rfl) ?_
  refine Zaf (a_true rfl (decide_eq_true (by simpa using he)) (Zag (Zae (goMv rfl rfl (goAs rfl rfl (goAs rfl rfl (Zaf (Za5 ?_))))))));exact ⟨_, [], [], ZaS rfl, rfl, rfl, rfl, rfl⟩
set_option maxRecDepth 100000 in
theorem reachE_p : PCalls Try.prog 23 [.d (grI g), .d (.sl (some true) [])] (.tup [.sl (some true) [], intD (chkE g)]) := by
  refine Zbg Try.func23 rfl rfl Try.ntmps23 rfl rfl rfl fun F hF => (Zag (Zae (goAs rfl rfl (goAs rfl rfl (Zaf (Zag ?_))))));refine Zag (Zae (goMv rfl rfl (Zab.go (Za9 (check_p g hn hl) rfl rfl) (goAs rfl rfl (Zaf (Zag (Zae (goMv rfl rfl ?_))))))))
  first | refine Zab.go (st_neq rfl rfl rfl) ?_ | refine Zab.go (Zbz rfl rfl rfl) ?_ | refine Zab.go (ZbA rfl rfl rfl) ?_ | refine Zab.go (ZbE Try.underlying26 rfl rfl rfl) ?_ | refine Zab.go (ZbC Try.underlying26 rfl rfl rfl) ?_ | refine Zab.go (st_neqN Try.underlying26 rfl rfl) ?_ | refine Zab.go (ZbD Try.underlying26 rfl rfl rfl) ?_ | refine Zab.go (st_neqFN Try.underlying26 rfl rfl) ?_
  refine Zaf (a_true rfl (decide_eq_true (by simpa using he)) (Zag (Zae (goMv rfl rfl (goAs rfl rfl (goAs rfl rfl (Zaf (Za5 ?_))))))));exact ⟨_, [], [], ZaS rfl, rfl, rfl, rfl, rfl⟩
set_option maxRecDepth 100000 in
theorem reverseE_p : PCalls Try.prog 17 [.d (grI g)] (.tup [.sl (some true) [], intD (chkE g)]) := by
  refine Zbg Try.func17 rfl rfl Try.ntmps17 rfl rfl rfl fun F hF => (Zag (Zae (goAs rfl rfl (goAs rfl rfl (Zaf (Zag ?_))))));refine Zag (Zae (goMv rfl rfl (Zab.go (Za9 (check_p g hn hl) rfl rfl) (goAs rfl rfl (Zaf (Zag (Zae (goMv rfl rfl ?_))))))))
  first | refine Zab.go (st_neq rfl rfl rfl) ?_ | refine Zab.go (Zbz rfl rfl rfl) ?_ | refine Zab.go (ZbA rfl rfl rfl) ?_ | refine Zab.go (ZbE Try.underlying26 rfl rfl rfl) ?_ | refine Zab.go (ZbC Try.underlying26 rfl rfl rfl) ?_ | refine Zab.go (st_neqN Try.underlying26 rfl rfl) ?_ | refine Zab.go (ZbD Try.underlying26 rfl rfl rfl) ?_ | refine Zab.go (st_neqFN Try.underlying26 rfl rfl) ?_
  refine Zaf (a_true rfl (decide_eq_true (by simpa using he)) (Zag (Zae (goMv rfl rfl (goAs rfl rfl (goAs rfl rfl (Zaf (Za5 ?_))))))));exact ⟨_, [], [], ZaS rfl, rfl, rfl, rfl, rfl⟩
set_option maxRecDepth 100000 in
theorem cycleE_p : PCalls Try.prog 14 [.d (grI g)] (.tup [.sl (some true) [], boolD false, intD (chkE g)]) := by
  refine Zbg Try.func14 rfl rfl Try.ntmps14 rfl rfl rfl fun F hF => (Zag (Zae (goAs rfl rfl (goAs rfl rfl (goAs rfl rfl (Zaf (Zag ?_)))))));refine Zag (Zae (goMv rfl rfl (Zab.go (Za9 (check_p g hn hl) rfl rfl) (goAs rfl rfl (Zaf (Zag (Zae (goMv rfl rfl ?_))))))))
  first | refine Zab.go (st_neq rfl rfl rfl) ?_ | refine Zab.go (Zbz rfl rfl rfl) ?_ | refine Zab.go (ZbA rfl rfl rfl) ?_ | refine Zab.go (ZbE Try.underlying26 rfl rfl rfl) ?_ | refine Zab.go (ZbC Try.underlying26 rfl rfl rfl) ?_ | refine Zab.go (st_neqN Try.underlying26 rfl rfl) ?_ | refine Zab.go (ZbD Try.underlying26 rfl rfl rfl) ?_ | refine Zab.go (st_neqFN Try.underlying26 rfl rfl) ?_
  refine Zaf ?_;refine a_true rfl (decide_eq_true (by simpa using he)) (Zag (Zae (goMv rfl rfl (goAs rfl rfl (goAs rfl rfl (goAs rfl rfl (Zaf (Za5 ?_))))))));exact ⟨_, [], [], ZaS rfl, rfl, rfl, rfl, rfl⟩
end
set_option maxRecDepth 100000 in
theorem lawS1_p (g0 : List (List Int)) (hg : g0.length ≤ 140737488355328) (hl : ∀ l ∈ g0, l.length ≤ 140737488355328) : PCalls Try.prog 11 [.d (grI g0)] (boolD true) := by
  have hsm := smallI_p g0 hg hl;have hb := smlI_b g0
  obtain ⟨g, hge⟩ : ∃ g, smlI g0 = g := ⟨_, rfl⟩
  rw [hge] at hb hsm;have hn : g.length ≤ 1000000 := by omega
  have hr : ∀ l ∈ g, l.length ≤ 2000000 := fun l h => by have := hb.2 l h; omega
  refine Zbg Try.func11 rfl rfl Try.ntmps11 rfl rfl rfl fun F hF => (Zag (Zae (goAs rfl rfl (Zaf (Zag (Zag (Zae (Zab.go (Za9 (known_p) rfl rfl) ?_))))))))
  first | refine Zab.go (st_notP rfl rfl) ?_ | refine Zab.go (st_not rfl rfl) ?_
  refine Zaf (Zbx rfl (rfl) (ZaD ?_));refine Zag (Zae (goMv rfl rfl (Zab.go (Za9 (hsm) rfl rfl) (goAs rfl rfl (Zaf (Zag (Zae (goMv rfl rfl ?_))))))));refine Zab.go (Za9 (refchk_p g hn hr) rfl rfl) (goAs rfl rfl (Zaf (Zag (Zag (Zae (goMv rfl rfl (Zab.go (Za9 (check_p g hn hr) rfl rfl) (goMv rfl rfl ?_))))))))
  first | refine Zab.go (st_neq rfl rfl rfl) ?_ | refine Zab.go (Zbz rfl rfl rfl) ?_ | refine Zab.go (ZbA rfl rfl rfl) ?_ | refine Zab.go (ZbE Try.underlying3 rfl rfl rfl) ?_ | refine Zab.go (ZbC Try.underlying3 rfl rfl rfl) ?_ | refine Zab.go (st_neqN Try.underlying3 rfl rfl) ?_ | refine Zab.go (ZbD Try.underlying3 rfl rfl rfl) ?_ | refine Zab.go (st_neqFN Try.underlying3 rfl rfl) ?_
  refine Zaf (Zbx rfl (decide_eq_false (by simp)) (ZaD (Zag (Zag (Zae (goMv rfl rfl ?_))))))
  first | refine Zab.go (Zbo rfl rfl rfl) ?_ | refine Zab.go (Za0 rfl rfl rfl) ?_ | refine Zab.go (Za7 rfl rfl rfl) ?_ | refine Zab.go (Zbf Try.underlying3 rfl rfl rfl) ?_ | refine Zab.go (Zbc Try.underlying3 rfl rfl rfl) ?_ | refine Zab.go (Zbd Try.underlying3 rfl rfl) ?_ | refine Zab.go (Zbe Try.underlying3 rfl rfl rfl) ?_ | refine Zab.go (Za1 Try.underlying3 rfl rfl) ?_
  refine Zaf ?_
  first | refine ZaU rfl (fun h28 => ?_) (fun h28 => ?_) | refine ZaG rfl (fun h28 => ?_) (fun h28 => ?_)
  · refine Zag (Zae (goAs rfl rfl (Zaf (Za5 ?_))));exact ⟨_, [], [], ZaS rfl, rfl, rfl, rfl, rfl⟩
  · refine ZaD (Zag ?_);have he : chkE g ≠ 0 := h28;refine Zae (goMv rfl rfl (Zab.go (Za9 (componentsE_p g hn hr he) rfl rfl) (goMv rfl rfl ?_)))
    first | refine Zab.go (ZaI rfl rfl rfl) ?_ | refine Zab.go (ZaM rfl rfl rfl) ?_
    first | refine Zab.go (ZaI rfl rfl rfl) ?_ | refine Zab.go (ZaM rfl rfl rfl) ?_
    refine goAs rfl rfl (goAs rfl rfl (Zaf (Zag (Zae (goMv rfl rfl (Zab.go (Za9 (condenseE_p g hn hr he) rfl rfl) (goMv rfl rfl ?_)))))))
    first | refine Zab.go (ZaI rfl rfl rfl) ?_ | refine Zab.go (ZaM rfl rfl rfl) ?_
    first | refine Zab.go (ZaI rfl rfl rfl) ?_ | refine Zab.go (ZaM rfl rfl rfl) ?_
    refine goAs rfl rfl (goAs rfl rfl (Zaf (Zag (Zae (goMv rfl rfl (Zab.go (Za9 (topoE_p g hn hr he) rfl rfl) (goMv rfl rfl ?_)))))))
    first | refine Zab.go (ZaI rfl rfl rfl) ?_ | refine Zab.go (ZaM rfl rfl rfl) ?_
    first | refine Zab.go (ZaI rfl rfl rfl) ?_ | refine Zab.go (ZaM rfl rfl rfl) ?_
    refine goAs rfl rfl (goAs rfl rfl (Zaf (Zag (Zae (goMv rfl rfl (Zab.go (Za9 (reachE_p g hn hr he) rfl rfl) (goMv rfl rfl ?_)))))))
    first | refine Zab.go (ZaI rfl rfl rfl) ?_ | refine Zab.go (ZaM rfl rfl rfl) ?_
    first | refine Zab.go (ZaI rfl rfl rfl) ?_ | refine Zab.go (ZaM rfl rfl rfl) ?_
    refine goAs rfl rfl (goAs rfl rfl (Zaf (Zag (Zae (goMv rfl rfl (Zab.go (Za9 (cycleE_p g hn hr he) rfl rfl) (goMv rfl rfl ?_)))))))
    first | refine Zab.go (ZaI rfl rfl rfl) ?_ | refine Zab.go (ZaM rfl rfl rfl) ?_
    first | refine Zab.go (ZaI rfl rfl rfl) ?_ | refine Zab.go (ZaM rfl rfl rfl) ?_
    first | refine Zab.go (ZaI rfl rfl rfl) ?_ | refine Zab.go (ZaM rfl rfl rfl) ?_
    refine goAs rfl rfl (goAs rfl rfl (goAs rfl rfl (Zaf (Zag (Zae (goMv rfl rfl (Zab.go (Za9 (reverseE_p g hn hr he) rfl rfl) (goMv rfl rfl ?_))))))))
    first | refine Zab.go (ZaI rfl rfl rfl) ?_ | refine Zab.go (ZaM rfl rfl rfl) ?_
    first | refine Zab.go (ZaI rfl rfl rfl) ?_ | refine Zab.go (ZaM rfl rfl rfl) ?_
    refine goAs rfl rfl (goAs rfl rfl (Zaf (Zag (Zae (goMv rfl rfl (goMv rfl rfl ?_))))))
    first | refine Zab.go (Zbo rfl rfl rfl) ?_ | refine Zab.go (Za0 rfl rfl rfl) ?_ | refine Zab.go (Za7 rfl rfl rfl) ?_ | refine Zab.go (Zbf Try.underlying3 rfl rfl rfl) ?_ | refine Zab.go (Zbc Try.underlying3 rfl rfl rfl) ?_ | refine Zab.go (Zbd Try.underlying3 rfl rfl) ?_ | refine Zab.go (Zbe Try.underlying3 rfl rfl rfl) ?_ | refine Zab.go (Za1 Try.underlying3 rfl rfl) ?_
    refine goMv rfl rfl (o_setT 63 rfl (decide_eq_true rfl) (ZaE rfl rfl rfl (goMv rfl rfl (ZaE rfl rfl rfl (goMv rfl rfl (ZaE rfl rfl rfl ?_))))))
    first | refine Zab.go (Zbo rfl rfl rfl) ?_ | refine Zab.go (Za0 rfl rfl rfl) ?_ | refine Zab.go (Za7 rfl rfl rfl) ?_ | refine Zab.go (Zbf Try.underlying3 rfl rfl rfl) ?_ | refine Zab.go (Zbc Try.underlying3 rfl rfl rfl) ?_ | refine Zab.go (Zbd Try.underlying3 rfl rfl) ?_ | refine Zab.go (Zbe Try.underlying3 rfl rfl rfl) ?_ | refine Zab.go (Za1 Try.underlying3 rfl rfl) ?_
    refine Zab.go (ZaX rfl rfl rfl rfl) (goMv rfl rfl (o_setT 68 rfl (decide_eq_true rfl) (ZaE rfl rfl rfl (goMv rfl rfl (ZaE rfl rfl rfl (goMv rfl rfl (ZaE rfl rfl rfl ?_)))))))
    first | refine Zab.go (Zbo rfl rfl rfl) ?_ | refine Zab.go (Za0 rfl rfl rfl) ?_ | refine Zab.go (Za7 rfl rfl rfl) ?_ | refine Zab.go (Zbf Try.underlying3 rfl rfl rfl) ?_ | refine Zab.go (Zbc Try.underlying3 rfl rfl rfl) ?_ | refine Zab.go (Zbd Try.underlying3 rfl rfl) ?_ | refine Zab.go (Zbe Try.underlying3 rfl rfl rfl) ?_ | refine Zab.go (Za1 Try.underlying3 rfl rfl) ?_
    refine Zab.go (ZaX rfl rfl rfl rfl) (goMv rfl rfl (o_setT 73 rfl (decide_eq_true rfl) (ZaE rfl rfl rfl (goMv rfl rfl (ZaE rfl rfl rfl (goMv rfl rfl (ZaE rfl rfl rfl ?_)))))))
    first | refine Zab.go (Zbo rfl rfl rfl) ?_ | refine Zab.go (Za0 rfl rfl rfl) ?_ | refine Zab.go (Za7 rfl rfl rfl) ?_ | refine Zab.go (Zbf Try.underlying3 rfl rfl rfl) ?_ | refine Zab.go (Zbc Try.underlying3 rfl rfl rfl) ?_ | refine Zab.go (Zbd Try.underlying3 rfl rfl) ?_ | refine Zab.go (Zbe Try.underlying3 rfl rfl rfl) ?_ | refine Zab.go (Za1 Try.underlying3 rfl rfl) ?_
    refine Zab.go (ZaX rfl rfl rfl rfl) (goMv rfl rfl (o_setT 78 rfl (decide_eq_true rfl) (ZaE rfl rfl rfl (goMv rfl rfl (ZaE rfl rfl rfl (goMv rfl rfl (ZaE rfl rfl rfl ?_)))))))
    first | refine Zab.go (Zbo rfl rfl rfl) ?_ | refine Zab.go (Za0 rfl rfl rfl) ?_ | refine Zab.go (Za7 rfl rfl rfl) ?_ | refine Zab.go (Zbf Try.underlying3 rfl rfl rfl) ?_ | refine Zab.go (Zbc Try.underlying3 rfl rfl rfl) ?_ | refine Zab.go (Zbd Try.underlying3 rfl rfl) ?_ | refine Zab.go (Zbe Try.underlying3 rfl rfl rfl) ?_ | refine Zab.go (Za1 Try.underlying3 rfl rfl) ?_
    refine Zab.go (ZaX rfl rfl rfl rfl) (goMv rfl rfl (o_setT 83 rfl (decide_eq_true rfl) (ZaE rfl rfl rfl (goMv rfl rfl (ZaE rfl rfl rfl (goMv rfl rfl (ZaE rfl rfl rfl ?_)))))))
    first | refine Zab.go (Zbo rfl rfl rfl) ?_ | refine Zab.go (Za0 rfl rfl rfl) ?_ | refine Zab.go (Za7 rfl rfl rfl) ?_ | refine Zab.go (Zbf Try.underlying3 rfl rfl rfl) ?_ | refine Zab.go (Zbc Try.underlying3 rfl rfl rfl) ?_ | refine Zab.go (Zbd Try.underlying3 rfl rfl) ?_ | refine Zab.go (Zbe Try.underlying3 rfl rfl rfl) ?_ | refine Zab.go (Za1 Try.underlying3 rfl rfl) ?_
    refine Zab.go (ZaX rfl rfl rfl rfl) (goMv rfl rfl (o_setT 88 rfl (decide_eq_true rfl) (ZaE rfl rfl rfl (goMv rfl rfl (ZaE rfl rfl rfl ?_)))))
    first | refine Zab.go (ZaW rfl Try.underlying22 rfl) ?_ | refine Zab.go (ZaC rfl rfl Try.underlying22 rfl) ?_ | refine Zab.go (Zba rfl Try.underlying22 rfl) ?_ | refine Zab.go (ZaZ rfl Try.underlying22 rfl) ?_ | refine Zab.go (Zbb rfl Try.underlying22 rfl) ?_ | refine Zab.go (Za6 rfl Try.underlying22 rfl) ?_
    refine ZaE rfl rfl rfl (goMv rfl rfl (ZaE rfl rfl rfl ?_))
    first | refine Zab.go (ZaW rfl Try.underlying32 rfl) ?_ | refine Zab.go (ZaC rfl rfl Try.underlying32 rfl) ?_ | refine Zab.go (Zba rfl Try.underlying32 rfl) ?_ | refine Zab.go (ZaZ rfl Try.underlying32 rfl) ?_ | refine Zab.go (Zbb rfl Try.underlying32 rfl) ?_ | refine Zab.go (Za6 rfl Try.underlying32 rfl) ?_
    refine ZaE rfl rfl rfl (Zab.go (ZaJ rfl rfl (rfl) rfl) (ZaE rfl rfl rfl (goMv rfl rfl (ZaE rfl rfl rfl ?_))))
    first | refine Zab.go (ZaW rfl Try.underlying25 rfl) ?_ | refine Zab.go (ZaC rfl rfl Try.underlying25 rfl) ?_ | refine Zab.go (Zba rfl Try.underlying25 rfl) ?_ | refine Zab.go (ZaZ rfl Try.underlying25 rfl) ?_ | refine Zab.go (Zbb rfl Try.underlying25 rfl) ?_ | refine Zab.go (Za6 rfl Try.underlying25 rfl) ?_
    refine ZaE rfl rfl rfl (Zab.go (ZaJ rfl rfl (rfl) rfl) (ZaE rfl rfl rfl (goMv rfl rfl (ZaE rfl rfl rfl ?_))))
    first | refine Zab.go (ZaW rfl Try.underlying25 rfl) ?_ | refine Zab.go (ZaC rfl rfl Try.underlying25 rfl) ?_ | refine Zab.go (Zba rfl Try.underlying25 rfl) ?_ | refine Zab.go (ZaZ rfl Try.underlying25 rfl) ?_ | refine Zab.go (Zbb rfl Try.underlying25 rfl) ?_ | refine Zab.go (Za6 rfl Try.underlying25 rfl) ?_
    refine ZaE rfl rfl rfl (Zab.go (ZaJ rfl rfl (rfl) rfl) (ZaE rfl rfl rfl (goMv rfl rfl (ZaE rfl rfl rfl ?_))))
    first | refine Zab.go (ZaW rfl Try.underlying25 rfl) ?_ | refine Zab.go (ZaC rfl rfl Try.underlying25 rfl) ?_ | refine Zab.go (Zba rfl Try.underlying25 rfl) ?_ | refine Zab.go (ZaZ rfl Try.underlying25 rfl) ?_ | refine Zab.go (Zbb rfl Try.underlying25 rfl) ?_ | refine Zab.go (Za6 rfl Try.underlying25 rfl) ?_
    refine ZaE rfl rfl rfl (Zab.go (ZaJ rfl rfl (rfl) rfl) (ZaE rfl rfl rfl (goMv rfl rfl (ZaE rfl rfl rfl ?_))))
    first | refine Zab.go (ZaW rfl Try.underlying32 rfl) ?_ | refine Zab.go (ZaC rfl rfl Try.underlying32 rfl) ?_ | refine Zab.go (Zba rfl Try.underlying32 rfl) ?_ | refine Zab.go (ZaZ rfl Try.underlying32 rfl) ?_ | refine Zab.go (Zbb rfl Try.underlying32 rfl) ?_ | refine Zab.go (Za6 rfl Try.underlying32 rfl) ?_
    refine ZaE rfl rfl rfl (Zab.go (ZaJ rfl rfl (rfl) rfl) (ZaE rfl rfl rfl ?_))
    first | refine Zab.go (Zbo rfl rfl rfl) ?_ | refine Zab.go (Za0 rfl rfl rfl) ?_ | refine Zab.go (Za7 rfl rfl rfl) ?_ | refine Zab.go (Zbf Try.underlying3 rfl rfl rfl) ?_ | refine Zab.go (Zbc Try.underlying3 rfl rfl rfl) ?_ | refine Zab.go (Zbd Try.underlying3 rfl rfl) ?_ | refine Zab.go (Zbe Try.underlying3 rfl rfl rfl) ?_ | refine Zab.go (Za1 Try.underlying3 rfl rfl) ?_
    refine Zab.go (ZaX rfl rfl rfl rfl) (goMv rfl rfl (o_setT 108 rfl (decide_eq_true rfl) (ZaE rfl rfl rfl (goMv rfl rfl (ZaE rfl rfl rfl ?_)))))
    first | refine Zab.go (st_notP rfl rfl) ?_ | refine Zab.go (st_not rfl rfl) ?_
    refine Zab.go (ZaX rfl rfl rfl rfl) (goAs rfl rfl (Zaf (Za5 ?_)));exact ⟨_, [], [], ZaS rfl, rfl, rfl, rfl, rfl⟩
end Go.Proofs.Ytgdppeobgefogaa
namespace Go.Proofs.Ytgdppeobgefogaa
open Go.ChangeShapes Go.WideShapes Go.ChangeAt Go.RowKit

set_option maxRecDepth 100000 in
theorem sccCheck_lifted (os : Os) (started : os.Started) (H : Type) (enc : TypeId × Value → H) :
    ReturnsInHanded {} Try.checked os 11 .any (Rows.sccCheckSpec.pre6 enc Try.prog Try.f11 Rows.sccCheckRow.domain false) (Rows.sccCheckSpec.post enc Try.prog Try.f11 false true false false) := by
  refine returnsInHanded_of_change_sized (C := Try.checked) Try.own started (by kernel_rfl) Try.func11
    (ChangeSpec.witness6 (enc := enc) (C := Try.checked) false ⟨#[], #[.slice none 0 0], []⟩ 8 (by kernel_rfl) (by kernel_rfl) (by kernel_rfl) (by kernel_rfl)) ?_
  intro W base args ds gs before hval0 hW _ hwt _;have hW' := hW;obtain ⟨p, q, hA0, hV, rfl, _, _⟩ := hW;have hlt : ∀ x ∈ p ++ q, x.block < W.heap.size := fun x hx => hW'.lt x hx;have hA : DataW.TrodAll enc Try.prog W 0 (fun _ => true) true Try.f11.params.toList args.toList ds p := hA0;rw [Try.params11] at hA;obtain ⟨v0, d0, rfl, rfl, h0⟩ := trodAll_one hA;obtain ⟨rfl, rfl⟩ := trodVars_none hV;have hwz : ∀ n ∈ DataW.weightsEach Try.prog ([22] : List TypeId) ([d0]), n ≤ reachBytes := fun n hn => of_decide_eq_true (List.all_eq_true.1 hwt n (by rw [Try.params11]; exact hn));have hval : ∀ (j : Nat) t v, Try.f11.params[j]? = some t → (#[v0] : Array Value)[j]? = some v → Value.okWide Try.prog W .any base t v := hval0;rw [Try.params11] at hval;obtain ⟨n0, g0⟩ := h0;have hv0 : v0.oneCell' = true := by obtain ⟨_, _, _, e⟩ := okWide_slice Try.underlying22 (hval 0 22 v0 rfl rfl); rw [e]; rfl
  obtain ⟨a0, q0, _, r0⟩ := (openSl Try.underlying22 (by kernel_rfl) (by omega) (b := 24) (by kernel_rfl) (openSl Try.underlying25 (by kernel_rfl) (by omega) (b := 8) (by kernel_rfl) (openInt Try.underlying3))) _ _ _ g0 (fun x hx => hlt x (by simp [hx])) (fun n hn => hwz n (DataW.weights_mem_each (j := 0) (t := 22) rfl rfl n hn));refine (law_calls (lawS1_p a0 (by have := q0.2; omega) (fun x hx => by have := (q0.1 x hx).2; omega)) (vs := [v0]) rfl (fun i a v ha hv => ?_)).mono fun e W' ⟨he, hb⟩ => ?_
  · rcases i with _ | i
    · simp at ha hv; subst ha hv; exact RepC.arg1 rfl rfl hv0 r0
    · simp at ha
  subst he;exact ⟨_, rfl, law_post (tb := 4) Try.laidOut (by kernel_rfl) rfl rfl Try.underlying4 hW' ⟨rfl, rfl, rfl⟩ hb⟩

theorem sccCheck_holds : Rows.SccCheckSaid :=
  OpenClaim.holds_of_wide 11 Try.f11 rfl rfl rfl rfl rfl rfl rfl ⟨rfl, rfl, rfl, rfl, rfl⟩ rfl rfl rfl rfl rfl (by kernel_rfl) Try.func11 (by kernel_rfl)
    (of_decide_eq_true (by kernel_rfl)) (by unfold Func.isWrapper; first | (rw [if_pos (by decide +kernel)]; kernel_rfl) | (rw [if_neg (by decide +kernel)]; exact ⟨rfl, rfl⟩))
    (fun os started H enc _ => sccCheck_lifted os started H enc)
#print axioms sccCheck_holds

end Go.Proofs.Ytgdppeobgefogaa
