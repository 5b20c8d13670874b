/- The walk of RecordChecksum. -/
import Derived.Test.YtnflcmpdaoobcaaKnown
namespace Go.Proofs.Ytnflcmpdaoobcaa
open Go.RowKit

/-- 'x[:min(len(x), m)]': the length as the walk computes it, what it reads. -/
theorem min_cut (l : List UInt8) (m : Nat) : (if ((m : Nat) : Int) < (l.length : Int) then ((m : Nat) : Int) else (l.length : Int)) = ((l.take m).length : Int) := by
  rw [List.length_take]; split <;> omega
theorem min_reads {w : World} {B : Nat} {A : Option Addr} {l : List UInt8} (m : Nat) (h : Reads w B 1 A l.length (l.map bv)) : Reads w B 1 A (l.take m).length ((l.take m).map bv) := by
  have h1 := h.take_ (k := (l.take m).length) (by rw [List.length_take]; omega)
  rw [Nat.mul_one, ← List.map_take] at h1
  rwa [List.take_eq_take_iff.2 (by rw [List.length_take]; omega : min (l.take m).length l.length = min m l.length)] at h1

set_option maxHeartbeats 2000000 in
theorem law1_any (l m : List UInt8) (A A' : Option Addr) (c c' : Nat) (w : World) (hr : Reads w w.heap.size 1 A l.length (l.map bv)) (hr' : Reads w w.heap.size 1 A' m.length (m.map bv))
    (hn : l.length ≤ 9223372036854775807) (hn' : m.length ≤ 9223372036854775807) (hc : l.length ≤ c) (hc' : m.length ≤ c') :
    Calls Try.prog 3 #[.slice A l.length c, .slice A' m.length c'] w fun e w' => e = .returned (.bool true) ∧ Below w.heap.size w w' := by
  have HR := Box.mk (min_reads 1000 hr); have HR' := Box.mk (min_reads 1000 hr')
  have hi : (if (1000 : Int) < (l.length : Int) then (1000 : Int) else (l.length : Int)) = ((l.take 1000).length : Int) := min_cut l 1000
  have hi' : (if (1000 : Int) < (m.length : Int) then (1000 : Int) else (m.length : Int)) = ((m.take 1000).length : Int) := min_cut m 1000
  have hb : (l.take 1000).length ≤ 1000 := by rw [List.length_take]; omega
  have hb' : (m.take 1000).length ≤ 1000 := by rw [List.length_take]; omega
  have hbc : (l.take 1000).length ≤ l.length := by rw [List.length_take]; omega
  have hbc' : (m.take 1000).length ≤ m.length := by rw [List.length_take]; omega
  obtain ⟨la, hla⟩ := gen (l.take 1000)
  obtain ⟨ma, hma⟩ := gen (m.take 1000)
  rw [← hla] at HR hi hb hbc
  rw [← hma] at HR' hi' hb' hbc'
  clear hla hma hr hr'
  have Hbb := Box.mk (And.intro hb hb')
  have hb2 : la.length ≤ 4294967296 := by omega
  have hb2' : ma.length ≤ 4294967296 := by omega
  clear hb hb'
  go_enter Try.func3, Try.ntmps3
  go_wp2_with fail
  go_region
  clear hi hi'
  go_wp2_with fail
  refine (known_any _).mono ?_
  rintro e w1 ⟨rfl, hb⟩
  have Hb1 := Box.mk (((Below.refl w.heap.size w).drew).trans hb); clear hb
  go_wp2_with fail
  refine (checksum_num la la.length _ rfl rfl A c w.heap.size w1 Hb1.out.size (HR.out.below Hb1.out) (by omega)).mono ?_
  rintro e w2 ⟨rfl, hb⟩
  have Hb2 := Box.mk (Hb1.out.trans (hb.mono Hb1.out.size)); clear hb
  go_wp2_with fail
  refine (sum_numx la la.length _ rfl rfl A c w.heap.size w2 (HR.out.below Hb2.out) (by omega)).mono ?_
  rintro e w' ⟨rfl, rfl⟩
  go_wp2_with fail
  refine (checksum_num la la.length _ rfl rfl A c w.heap.size w2 Hb2.out.size (HR.out.below Hb2.out) (by omega)).mono ?_
  rintro e w3 ⟨rfl, hb⟩
  have Hb3 := Box.mk (Hb2.out.trans (hb.mono Hb2.out.size)); clear hb
  go_wp2_with fail
  refine (extend_num (crc la) (crc_lt la) ma ma.length _ rfl (crcFrom_crc la ma) A' c' w.heap.size w3 Hb3.out.size (HR'.out.below Hb3.out) (by omega)).mono ?_
  rintro e w4 ⟨rfl, hb⟩
  have Hb4 := Box.mk (Hb3.out.trans (hb.mono Hb3.out.size)); clear hb
  go_wp2_with (at_builtin; refine stop_here ?_)
  refine ⟨wpList_app1 _ _ bytesTy rfl rfl rfl (Own1.new w4 5 #[] (by decide)) rfl ((HR.out.below Hb4.out).alloc Hb4.out.size _) (bv_one _) (by simp; omega) (by simp) ?_⟩
  intro v5 w5 hown _ _ hb
  have Hown5 : Box (Own1 w5 w4.heap.size 5 v5 (la.map bv)) := ⟨hown⟩
  have Hb5 := Box.mk (hb w.heap.size w Hb4.out.size (Hb4.out.alloc Hb4.out.size _)); have Hs5 := Box.mk ((hb w4.heap.size w4 (Nat.le_refl _) ((Below.refl _ w4).alloc (Nat.le_refl _) _)).size)
  clear hown hb
  go_wp2_with (at_builtin; refine stop_here ?_)
  refine ⟨wpList_app1 _ _ bytesTy rfl rfl rfl Hown5.out rfl (HR'.out.below Hb5.out) (bv_one _) (by simp; omega) Hs5.out ?_⟩
  intro v6 w6 hown _ _ hb
  have Hown6 : Box (Own1 w6 w4.heap.size 5 v6 ((la ++ ma).map bv)) := ⟨by rw [List.map_append]; exact hown⟩
  have Hb6 := Box.mk (hb w.heap.size w Hb4.out.size Hb5.out)
  clear hown hb
  obtain ⟨A6, c6, e6, _, hr6⟩ := Hown6.out.form (n := la.length + ma.length) (by simp)
  subst e6
  have HR6 := Box.mk hr6; clear hr6
  go_wp2_with fail
  refine (sum_numx (la ++ ma) (la.length + ma.length) _ (by simp) rfl A6 c6 _ w6 HR6.out (by omega)).mono ?_
  rintro e w' ⟨rfl, rfl⟩
  go_wp2
  go_ret
  exact ⟨by simp, Hb6.out⟩

end Go.Proofs.Ytnflcmpdaoobcaa
