/- The walks of record.Encode and the reference's Encode. -/
import Derived.Test.YtnflcmpdaoobcaaLeaf3
namespace Go.Proofs.Ytnflcmpdaoobcaa
open Go.RowKit

/-- The record of a payload. -/
def encL (p : List UInt8) : List UInt8 := le4 p.length ++ le4 (crc (le4 p.length ++ p)) ++ p
theorem le4_length (n : Nat) : (le4 n).length = 4 := rfl

set_option maxHeartbeats 1000000 in
theorem encode_any (l : List UInt8) (A : Option Addr) (c B : Nat) (w : World) (hB : B ≤ w.heap.size) (hr : Reads w B 1 A l.length (l.map bv)) (hn : l.length ≤ 1048576) :
    Calls Try.prog 17 #[.slice A l.length c] w fun e w' => ∃ v, e = .returned (.tuple #[v, .int .i64 0]) ∧ Own1 w' w.heap.size 5 v ((encL l).map bv) ∧ Below w.heap.size w w' := by
  have HR := Box.mk hr; clear hr
  have HB := Box.mk hB; clear hB
  have hgt : ((1048576 : Int) < l.length) = False := eq_false (by omega)
  have h32 : l.length < 4294967296 := by omega
  have Hn := Box.mk hn; clear hn
  go_enter Try.func17, Try.ntmps17
  go_wp2_with fail
  refine (word_any l.length h32 _).mono ?_
  rintro e w1 ⟨v1, rfl, hown, hb⟩
  have Hown1 := Box.mk hown; have Hb1 := Box.mk hb; clear hown hb
  obtain ⟨A1, c1, e1, _⟩ := Hown1.out.slice
  subst e1
  go_wp2_with fail
  have hr1 := (Hown1.out.reads (Nat.le_refl _)).1
  refine (checksum_any (le4 l.length) A1 c1 _ _ (Nat.le_refl _) hr1 (by rw [le4_length]; omega)).mono ?_
  clear hr1
  rintro e w2 ⟨rfl, hb⟩
  have Hb2 := Box.mk hb; clear hb
  go_wp2_with fail
  refine (extend_any (crc (le4 l.length)) (crc_lt _) l A c B w2 (by have := HB.out; have := Hb1.out.size; have := Hb2.out.size; omega) ((HR.out.below (Hb1.out.mono HB.out)).below (Hb2.out.mono (by have := HB.out; have := Hb1.out.size; omega))) (by have := Hn.out; omega)).mono ?_
  rintro e w3 ⟨rfl, hb⟩
  have Hb3 := Box.mk hb; clear hb
  have hlt := crcFrom_lt l (crc_lt (le4 l.length))
  have hcc := crcFrom_crc (le4 l.length) l
  rw [hcc] at hlt
  have Hcc := Box.mk hcc
  go_wp2_with fail
  clear hcc
  refine (word_any _ hlt _).mono ?_
  rintro e w4 ⟨v2, rfl, hown, hb⟩
  have Hown2 := Box.mk hown; have Hb4 := Box.mk hb; clear hown hb
  obtain ⟨A2, c2, e2, _⟩ := Hown2.out.slice
  subst e2
  have Hle : Box (w.heap.size ≤ w1.heap.size ∧ w1.heap.size ≤ w2.heap.size ∧ w2.heap.size ≤ w3.heap.size ∧ w3.heap.size ≤ w4.heap.size) := ⟨⟨Hb1.out.size, Hb2.out.size, Hb3.out.size, Hb4.out.size⟩⟩
  have Hown1' := Box.mk ((((Hown1.out.below Hb2.out).below Hb3.out).below Hb4.out))
  have HbA := Box.mk (((Hb1.out.trans (Hb2.out.mono Hle.out.1)).trans (Hb3.out.mono (by have := Hle.out; omega))).trans (Hb4.out.mono (by have := Hle.out; omega)))
  go_wp2_with (at_builtin; refine stop_here ?_)
  refine ⟨wpList_app1 _ _ bytesTy rfl rfl rfl Hown1'.out rfl (Hown2.out.reads (Nat.le_refl _)).1 (bv_one _) (by simp [le4_length]) (by have := Hle.out; omega) ?_⟩
  intro v5 w5 hown _ _ hb
  have Hown5 := Box.mk hown; have Hb5 := Box.mk (hb _ w (Nat.le_refl _) HbA.out); clear hown hb
  go_wp2_with (at_builtin; refine stop_here ?_)
  refine ⟨wpList_app1 _ _ bytesTy rfl rfl rfl Hown5.out rfl (HR.out.below (Hb5.out.mono HB.out)) (bv_one _) (by have := Hn.out; simp [le4_length]; omega) (by have := Hb5.out.size; omega) ?_⟩
  intro v6 w6 hown _ _ hb
  have Hown6 := Box.mk hown; have Hb6 := Box.mk (hb _ w (Nat.le_refl _) Hb5.out); clear hown hb
  go_wp2
  go_ret2
  refine ⟨_, rfl, ?_, Hb6.out⟩
  have h := Hown6.out
  simpa [encL] using h

set_option maxHeartbeats 1000000 in
theorem refencode_any (l : List UInt8) (A : Option Addr) (c B : Nat) (w : World) (hB : B ≤ w.heap.size) (hr : Reads w B 1 A l.length (l.map bv)) (hn : l.length ≤ 1048576) :
    Calls Try.prog 19 #[.slice A l.length c] w fun e w' => ∃ v, e = .returned v ∧ Own1 w' w.heap.size 5 v ((encL l).map bv) ∧ Below w.heap.size w w' := by
  have HR := Box.mk hr; clear hr
  have HB := Box.mk hB; clear hB
  have h32 : l.length < 4294967296 := by omega
  have Hn := Box.mk hn; clear hn
  go_enter Try.func19, Try.ntmps19
  go_wp2_with fail
  refine (refword_any l.length h32 _).mono ?_
  rintro e w1 ⟨v1, rfl, hown, hb⟩
  have Hown1 := Box.mk hown; have Hb1 := Box.mk hb; clear hown hb
  obtain ⟨A1, c1, e1, _⟩ := Hown1.out.slice
  subst e1
  -- append([]byte{}, head...), p...
  go_wp2_with (at_builtin; refine stop_here ?_)
  have HrA := Box.mk ((Hown1.out.reads (Nat.le_refl _)).1)
  refine ⟨wpList_app1 _ _ bytesTy rfl rfl rfl (Own1.new w1 5 #[] (by decide)) rfl (HrA.out.alloc (Nat.le_refl _) _) (bv_one _) (by simp [le4_length]) (by simp) ?_⟩
  intro v2 w2 hown _ _ hb
  have Hown2 := Box.mk hown; have Hb2 := Box.mk (hb w1.heap.size w1 (Nat.le_refl _) ((Below.refl _ _).alloc (Nat.le_refl _) _)); clear hown hb
  go_wp2_with (at_builtin; refine stop_here ?_)
  have Hbw2 := Box.mk (Hb1.out.trans (Hb2.out.mono Hb1.out.size))
  refine ⟨wpList_app1 _ _ bytesTy rfl rfl rfl Hown2.out rfl (HR.out.below (Hbw2.out.mono HB.out)) (bv_one _) (by have := Hn.out; simp [le4_length]; omega) (by have := Hb2.out.size; omega) ?_⟩
  intro v3 w3 hown _ _ hb
  have Hown3 := Box.mk hown; have Hb3 := Box.mk (hb w1.heap.size w1 (Nat.le_refl _) Hb2.out); clear hown hb
  obtain ⟨A3, c3, e3, _⟩ := Hown3.out.slice
  subst e3
  have HrS : Box (Reads w3 w3.heap.size 1 A3 (le4 l.length ++ l).length ((le4 l.length ++ l).map bv)) := ⟨by
    have h := (Hown3.out.reads (Nat.le_refl _)).1
    simpa using h⟩
  go_wp2_with fail
  have hc := sum_any (le4 l.length ++ l) A3 c3 _ w3 HrS.out (by have := Hn.out; simp [le4_length]; omega)
  rw [List.length_append] at hc
  refine hc.mono ?_
  clear hc
  rintro e w' ⟨rfl, rfl⟩
  have hlt := crc_lt (le4 l.length ++ l)
  generalize hcc : crc (le4 l.length ++ l) = cc at *
  have Hcc := Box.mk hcc; clear hcc
  go_wp2_with (at_builtin; refine stop_here ?_)
  have HrB := Box.mk (HrA.out.below Hb3.out)
  refine ⟨wpList_app1 _ _ bytesTy rfl rfl rfl (Own1.new w3 5 #[] (by decide)) rfl ((HrB.out.more Hb3.out.size).alloc (Nat.le_refl _) _) (bv_one _) (by simp [le4_length]) (by simp) ?_⟩
  intro v4 w4 hown _ _ hb
  have Hown4 := Box.mk hown; have Hb4 := Box.mk (hb w3.heap.size w3 (Nat.le_refl _) ((Below.refl _ _).alloc (Nat.le_refl _) _)); clear hown hb
  go_wp2_with fail
  refine (refword_any cc hlt _).mono ?_
  rintro e w5 ⟨v5, rfl, hown, hb⟩
  have Hown5 := Box.mk hown; have Hb5 := Box.mk hb; clear hown hb
  obtain ⟨A5, c5, e5, _⟩ := Hown5.out.slice
  subst e5
  go_wp2_with (at_builtin; refine stop_here ?_)
  refine ⟨wpList_app1 _ _ bytesTy rfl rfl rfl (Hown4.out.below Hb5.out) rfl (Hown5.out.reads (Nat.le_refl _)).1 (bv_one _) (by simp [le4_length]) (by have := Hb4.out.size; have := Hb5.out.size; omega) ?_⟩
  intro v6 w6 hown _ _ hb
  have Hown6 := Box.mk hown; have Hb6 := Box.mk (hb w3.heap.size w3 (Nat.le_refl _) (Hb4.out.trans (Hb5.out.mono Hb4.out.size))); clear hown hb
  have Hbw3 := Box.mk (Hb1.out.trans (Hb3.out.mono Hb1.out.size))
  have Hbw6 := Box.mk (Hbw3.out.trans (Hb6.out.mono Hbw3.out.size))
  go_wp2_with (at_builtin; refine stop_here ?_)
  refine ⟨wpList_app1 _ _ bytesTy rfl rfl rfl Hown6.out rfl (HR.out.below (Hbw6.out.mono HB.out)) (bv_one _) (by have := Hn.out; simp [le4_length]; omega) (by have := Hb6.out.size; omega) ?_⟩
  intro v7 w7 hown _ _ hb
  have Hown7 := Box.mk hown; have Hb7 := Box.mk (hb w.heap.size w (by have := Hbw3.out.size; omega) Hbw6.out); clear hown hb
  go_wp2
  go_ret
  refine ⟨_, rfl, ?_, Hb7.out⟩
  have h := Hown7.out.mono (base' := w.heap.size) Hbw3.out.size
  rw [← Hcc.out] at h
  simpa [encL] using h

end Go.Proofs.Ytnflcmpdaoobcaa
