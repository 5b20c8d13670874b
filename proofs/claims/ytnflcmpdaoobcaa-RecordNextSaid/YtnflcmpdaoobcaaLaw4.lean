/- The walk of RecordNext. -/
import Derived.Test.YtnflcmpdaoobcaaLaw1
namespace Go.Proofs.Ytnflcmpdaoobcaa
open Go.RowKit

theorem next_len (b : List UInt8) : (nextL b).1.length ≤ b.length := by
  unfold nextL
  split
  · simp
  · split
    · simp
    · split
      · simp
      · split
        · simp; omega
        · simp

set_option maxHeartbeats 2000000 in
theorem law4_any (l : List UInt8) (A : Option Addr) (c : Nat) (w : World) (hr : Reads w w.heap.size 1 A l.length (l.map bv)) (hn : l.length ≤ 9223372036854775807) (hc : l.length ≤ c) :
    Calls Try.prog 6 #[.slice A l.length c] w fun e w' => e = .returned (.bool true) ∧ Below w.heap.size w w' := by
  have HR := Box.mk (min_reads 3000 hr)
  have hi : (if (3000 : Int) < (l.length : Int) then (3000 : Int) else (l.length : Int)) = ((l.take 3000).length : Int) := min_cut l 3000
  have hb : (l.take 3000).length ≤ 3000 := by rw [List.length_take]; omega
  have hbc : (l.take 3000).length ≤ l.length := by rw [List.length_take]; omega
  obtain ⟨la, hla⟩ := gen (l.take 3000)
  rw [← hla] at HR hi hb hbc
  clear hla hr
  have Hbb := Box.mk hb
  have hb2 : la.length ≤ 4294967296 := by omega
  clear hb
  go_enter Try.func6, Try.ntmps6
  go_wp2_with fail
  clear hi
  refine (next_num la la.length rfl A c w.heap.size w (Nat.le_refl _) HR.out (by omega) (by omega)).mono ?_
  rintro e w1 ⟨v1, rfl, hown, hb⟩
  have Hown1 := Box.mk hown; have Hb1 := Box.mk hb; clear hown hb
  have hp := next_len la
  obtain ⟨nx, hnx⟩ := gen (nextL la)
  rw [← hnx] at hp Hown1 ⊢
  have Hnx := Box.mk hnx; clear hnx
  obtain ⟨A1, c1, e1, _, hr1⟩ := Hown1.out.form (n := nx.1.length) (List.length_map _)
  subst e1
  have Hr1 := Box.mk hr1; clear hr1
  go_wp2_with fail
  refine (refnext_num la la.length rfl A c w.heap.size w1 Hb1.out.size (HR.out.below Hb1.out) (by omega) (by omega)).mono ?_
  rintro e w2 ⟨v2, rfl, hown, hb⟩
  rw [← Hnx.out] at hown
  have Hown2 := Box.mk hown; have Hb2 := Box.mk (Hb1.out.trans (hb.mono Hb1.out.size)); have Hr1b := Box.mk ((Hr1.out.below hb)); have Hs2 := Box.mk hb.size; clear hown hb
  rw [← Hnx.out]
  obtain ⟨A2, c2, e2, _, hr2⟩ := Hown2.out.form (n := nx.1.length) (List.length_map _)
  subst e2
  have Hr2 := Box.mk hr2; clear hr2
  go_wp2_with fail
  refine (known_any _).mono ?_
  rintro e w3 ⟨rfl, hb⟩
  have Hb3 := Box.mk (Hb2.out.trans (hb.mono Hb2.out.size)); have Hr1c := Box.mk (((Hr1b.out.more Hs2.out)).below hb); have Hr2c := Box.mk (Hr2.out.below hb); clear hb
  go_wp2_with fail
  refine (same_len true nx.1 nx.1 nx.1.length nx.1.length rfl rfl (beq_self_eq_true _) A1 A2 c1 c2 w2.heap.size w3 Hr1c.out Hr2c.out).mono ?_
  rintro e w' ⟨rfl, rfl⟩
  go_wp2
  go_ret
  exact ⟨by simp, Hb3.out⟩

end Go.Proofs.Ytnflcmpdaoobcaa
