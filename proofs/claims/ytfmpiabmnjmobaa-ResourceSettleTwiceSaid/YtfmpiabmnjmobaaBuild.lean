/- Struct literals. No program in sight. -/
import Derived.Test.YtfmpiabmnjmobaaMem
import Derived.Laws.Tables
import Derived.Great.FillDense
namespace Go.Proofs.Ytfmpiabmnjmobaa
open Go.RowKit

/-- Where the fields lie. -/
def placesOf (P : Program) (T : TypeId) : Option (List (Nat × Nat)) := match P.underlying T with
  | some (.struct fs) => fs.toList.mapM fun f => (P.info? f.type).map fun i => (f.offset, i.size)
  | _ => none
def fillA (s : AS) (pl : List (Nat × Nat)) : List AV → List (Nat × Operand) → Option (List AV)
  | cs, [] => some cs
  | cs, (i, x) :: r => match pl[i]? with
    | none => none
    | some (off, k) => match s.ev x with
      | none => none
      | some a => match a.cells? with
        | none => none
        | some l => match Nat.beq l.length k with
          | false => none
          | true => match setL? cs off l with
            | none => none
            | some cs1 => fillA s pl cs1 r
theorem fillA_spec {F : Fr} {s : AS} {ρ : Nat → Nat → Value} {act : Act} {w : World} (hs : SR F s ρ act w) {pl : List (Nat × Nat)} : ∀ (parts : List (Nat × Operand)) (cs cs' : List AV) (us : Array Value), fillA s pl cs parts = some cs' → us.size = cs.length →
    (∀ (j : Nat) c u, cs[j]? = some c → us[j]? = some u → RepA w (F.O ρ s.hp) ρ c u ∧ u.oneCell' = true) →
    ∃ us', Instr.fill (pl.toArray[·]?) us (parts.map fun p => (p.1, act.eval p.2)) = some us' ∧ us'.size = cs'.length ∧ ∀ (j : Nat) c u, cs'[j]? = some c → us'[j]? = some u → RepA w (F.O ρ s.hp) ρ c u ∧ u.oneCell' = true
  | [], cs, cs', us, h, hl, hr => by
    simp only [fillA, Option.some.injEq] at h; subst h
    exact ⟨us, rfl, hl, hr⟩
  | (i, x) :: r, cs, cs', us, h, hl, hr => by
    simp only [fillA] at h
    split at h
    · cases h
    · rename_i off k hpl
      split at h
      · cases h
      · rename_i a ha
        split at h
        · cases h
        · rename_i l hlc
          split at h
          · cases h
          · rename_i hk
            have hk := Nat.eq_of_beq_eq_true hk
            split at h
            · cases h
            · rename_i cs1 hset
              obtain ⟨q1, q2⟩ := (hs.ev ha).cells hlc
              obtain ⟨s1, s2, s3⟩ := setL?_spec _ _ _ _ hset
              obtain ⟨g1, g2⟩ := Great.foldl_set off (act.eval x).cells.toList 0 us
              have hsz : (act.eval x).cells.size = k := by rw [← hk, ← q1]; simp
              obtain ⟨us', r1, r2, r3⟩ := fillA_spec hs r cs1 cs' ((act.eval x).cells.toList.zipIdx.foldl (fun cs (x : Value × Nat) => cs.setIfInBounds (off + x.2) x.1) us) h (by rw [g1, s2]; exact hl) (fun j c u hc hu => by
                rw [g2 j] at hu
                rw [s3] at hc
                simp only [Nat.add_zero, Array.length_toList, hsz] at hu
                by_cases hj : off ≤ j ∧ j < off + l.length
                · rw [if_pos hj] at hc
                  rw [if_pos ⟨hj.1, by omega, by omega⟩] at hu
                  exact q2 _ c u hc hu
                · rw [if_neg hj] at hc
                  rw [if_neg (by omega)] at hu
                  exact hr j c u hc hu)
              refine ⟨us', ?_, r2, r3⟩
              rw [List.map_cons]
              unfold Instr.fill
              have : (pl.toArray)[i]? = some (off, k) := by simpa using hpl
              simp only [this, hsz]
              rw [if_neg (by simp; omega)]
              rw [← r1]
              congr 1
              rw [← Array.foldl_toList, Array.toList_zipIdx]

section
variable {P : Program} {F : Fr} {s : AS} {d : Nat} {ty T : TypeId} {pos : String} {aft : Array Edge} {g : Option (Nat × Bool)}
theorem st_build {l : List (Nat × Operand)} {zs cs' : List AV} {pl : List (Nat × Nat)} {A : AV} (hz : zeroL? P T = some zs) (hpl : placesOf P T = some pl) (hf : fillA s pl zs l = some cs') (hm : mkAgg? cs' = some A) (hd : Nat.blt d s.n = true) :
    Pstep P F ⟨some d, .build T l.toArray, ty, pos, aft, g⟩ s d A := step_val _ hd fun ρ act w hs => by
  obtain ⟨i, z, h1, h2, h3⟩ := zeroL?_spec hz
  obtain ⟨h4, h5⟩ := constL?_spec h3 w (F.O ρ s.hp) ρ
  obtain ⟨us', r1, r2, r3⟩ := fillA_spec hs l zs cs' z.cells hf (by simpa using h4) (fun j c u hc hu => h5 j c u hc (by simpa using hu))
  have hb : P.built T (l.map fun p => (p.1, act.eval p.2)) = some us' := by
    unfold placesOf at hpl
    split at hpl
    · rename_i fs hfs
      unfold Program.built
      simp only [h1, hfs, h2, hpl]
      exact r1
    · cases hpl
  refine ⟨.agg us', ?_, ?_⟩
  · have : (l.toArray.map fun (x : Nat × Operand) => match x with | (i, x) => (i, act.eval x)) = (l.map fun p => (p.1, act.eval p.2)).toArray := by simp
    simp only [execOp, Sem.run_bind]
    rw [this, run_build w T _ us' (by simpa using hb)]
    rfl
  · have := mkAgg?_spec (us := us'.toList) hm (by simpa using r2) (fun j c u hc hu => r3 j c u hc (by simpa using hu))
    simpa using this
end
end Go.Proofs.Ytfmpiabmnjmobaa

