/- The walks of number, read, Clone and Same. -/
import Derived.Test.YtnflcmpdaoobcaaLeaf2
import Derived.Deep.QuietTactic
import Derived.BigQuiet
namespace Go.Proofs.Ytnflcmpdaoobcaa
open Go.RowKit

def num4 (a b c d : Nat) : Nat := a + b * 256 + c * 65536 + d * 16777216

set_option maxHeartbeats 400000 in
theorem refread_any (l : List UInt8) (A : Option Addr) (c B : Nat) (w : World) (hr : Reads w B 1 A l.length (l.map bv)) (hn : l.length ≤ 140737488355328) (h4 : 4 ≤ l.length) :
    Calls Try.prog 34 #[.slice A l.length c] w fun e w' => e = .returned (.int .u32 (num4 l[0].toNat l[1].toNat l[2].toNat l[3].toNat : Nat)) ∧ ∃ n, w' = w.drewN n := by
  obtain ⟨b, off, rfl, _, h0⟩ := Reads.byte hr (show 0 < l.length by omega)
  have h0 : w.cell? ⟨b, off, none⟩ = some (.int .u8 (l[0].toNat : Int)) := h0
  obtain ⟨_, _, e1, _, h1⟩ := Reads.byte hr (show 1 < l.length by omega)
  obtain ⟨_, _, e2, _, h2⟩ := Reads.byte hr (show 2 < l.length by omega)
  obtain ⟨_, _, e3, _, h3⟩ := Reads.byte hr (show 3 < l.length by omega)
  injection e1 with e1; injection e1 with e1 e1'; subst e1 e1'
  injection e2 with e2; injection e2 with e2 e2'; subst e2 e2'
  injection e3 with e3; injection e3 with e3 e3'; subst e3 e3'
  clear hr
  have n0 : 0 < l.length := by omega
  have n1 : 1 < l.length := by omega
  have n2 : 2 < l.length := by omega
  have n3 : 3 < l.length := by omega
  have i1 : (1 : Int) < l.length := by omega
  have i2 : (2 : Int) < l.length := by omega
  have i3 : (3 : Int) < l.length := by omega
  have b0 := byte_lt l[0]
  have b1 := byte_lt l[1]
  have b2 := byte_lt l[2]
  have b3 := byte_lt l[3]
  generalize hx0 : l[0].toNat = x0 at *
  generalize hx1 : l[1].toNat = x1 at *
  generalize hx2 : l[2].toNat = x2 at *
  generalize hx3 : l[3].toNat = x3 at *
  have H := Box.mk (And.intro hx0 (And.intro hx1 (And.intro hx2 hx3)))
  clear hx0 hx1 hx2 hx3
  go_enter Try.func34, Try.ntmps34
  go_wp2_with fail
  go_quiet (fail)
  go_wp2
  go_ret
  obtain ⟨rfl, rfl, rfl, rfl⟩ := H.out
  exact ⟨rfl, _, rfl⟩

theorem or_u32 (a b i : Nat) (ha : a < 2 ^ i) (hb : b * 2 ^ i < 4294967296) (hi : 2 ^ i ≤ 4294967296) : bits .or .u32 (a : Int) ((b * 2 ^ i : Nat) : Int) = ((a + b * 2 ^ i : Nat) : Int) := by
  rw [u32_or_nat a (b * 2 ^ i) (by omega) hb, Nat.or_comm, nat_join i (b * 2 ^ i) a (by simp) ha, Nat.add_comm]

set_option maxHeartbeats 400000 in
theorem number_any (l : List UInt8) (A : Option Addr) (c B : Nat) (w : World) (hr : Reads w B 1 A l.length (l.map bv)) (hn : l.length ≤ 140737488355328) (h4 : 4 ≤ l.length) :
    Calls Try.prog 32 #[.slice A l.length c] w fun e w' => e = .returned (.int .u32 (num4 l[0].toNat l[1].toNat l[2].toNat l[3].toNat : Nat)) ∧ ∃ n, w' = w.drewN n := by
  obtain ⟨b, off, rfl, _, h0⟩ := Reads.byte hr (show 0 < l.length by omega)
  have h0 : w.cell? ⟨b, off, none⟩ = some (.int .u8 (l[0].toNat : Int)) := h0
  obtain ⟨_, _, e1, _, h1⟩ := Reads.byte hr (show 1 < l.length by omega)
  obtain ⟨_, _, e2, _, h2⟩ := Reads.byte hr (show 2 < l.length by omega)
  obtain ⟨_, _, e3, _, h3⟩ := Reads.byte hr (show 3 < l.length by omega)
  injection e1 with e1; injection e1 with e1 e1'; subst e1 e1'
  injection e2 with e2; injection e2 with e2 e2'; subst e2 e2'
  injection e3 with e3; injection e3 with e3 e3'; subst e3 e3'
  clear hr
  have n0 : 0 < l.length := by omega
  have n1 : 1 < l.length := by omega
  have n2 : 2 < l.length := by omega
  have n3 : 3 < l.length := by omega
  have i1 : (1 : Int) < l.length := by omega
  have i2 : (2 : Int) < l.length := by omega
  have i3 : (3 : Int) < l.length := by omega
  have b0 := byte_lt l[0]
  have b1 := byte_lt l[1]
  have b2 := byte_lt l[2]
  have b3 := byte_lt l[3]
  generalize hx0 : l[0].toNat = x0 at *
  generalize hx1 : l[1].toNat = x1 at *
  generalize hx2 : l[2].toNat = x2 at *
  generalize hx3 : l[3].toNat = x3 at *
  have H := Box.mk (And.intro hx0 (And.intro hx1 (And.intro hx2 hx3)))
  clear hx0 hx1 hx2 hx3
  have o1 : bits .or .u32 (x0 : Int) ((x1 : Int) * 256) = (x0 : Int) + x1 * 256 := or_u32 x0 x1 8 b0 (by omega) (by decide)
  have o2 : bits .or .u32 ((x0 : Int) + x1 * 256) ((x2 : Int) * 65536) = (x0 : Int) + x1 * 256 + x2 * 65536 := or_u32 (x0 + x1 * 256) x2 16 (by omega) (by omega) (by decide)
  have o3 : bits .or .u32 ((x0 : Int) + x1 * 256 + x2 * 65536) ((x3 : Int) * 16777216) = (x0 : Int) + x1 * 256 + x2 * 65536 + x3 * 16777216 := or_u32 (x0 + x1 * 256 + x2 * 65536) x3 24 (by omega) (by omega) (by decide)
  go_enter Try.func32, Try.ntmps32
  go_wp2_with fail
  go_quiet (fail)
  go_wp2
  go_ret
  obtain ⟨rfl, rfl, rfl, rfl⟩ := H.out
  exact ⟨rfl, _, rfl⟩

set_option maxHeartbeats 400000 in
theorem clone_any (l : List UInt8) (A : Option Addr) (c B : Nat) (w : World) (hB : B ≤ w.heap.size) (hr : Reads w B 1 A l.length (l.map bv)) (hn : l.length ≤ 140737488355328) :
    Calls Try.prog 33 #[.slice A l.length c] w fun e w' => ∃ v, e = .returned v ∧ Own1 w' w.heap.size 5 v (l.map bv) ∧ Below w.heap.size w w' := by
  have HR := Box.mk hr; clear hr
  have HB := Box.mk hB; clear hB
  have hq := Lib.run_eql_slice_nil (P := Try.prog) w 22 5 A l.length c 0 0 Try.underlying22
  rcases A with _ | ad
  · have h0 : l.length = 0 := by
      rcases Nat.eq_zero_or_pos l.length with h0 | h0
      · exact h0
      · obtain ⟨ad, e, _⟩ := HR.out.2 h0; cases e
    have hl : l = [] := List.eq_nil_of_length_eq_zero h0
    subst hl
    simp only [Option.isNone_none, List.length_nil] at hq
    go_enter Try.func33, Try.ntmps33
    go_wp2
    go_ret
    exact ⟨_, rfl, Own1.nil _ _ _, Below.refl _ _⟩
  · simp only [Option.isNone_some] at hq
    go_enter Try.func33, Try.ntmps33
    go_wp2_with (at_builtin; refine stop_here ?_)
    have h0 := Own1.new w 5 #[] (by decide)
    refine ⟨wpList_app1 _ _ bytesTy rfl rfl rfl h0 rfl ((HR.out.more HB.out).alloc (Nat.le_refl _) _) (bv_one l) (by simp; omega) (by simp) ?_⟩
    intro v' w' hown _ _ hb
    have Hown := Box.mk hown; have Hb := Box.mk (hb _ w (Nat.le_refl _) ((Below.refl _ _).alloc (Nat.le_refl _) _)); clear hown hb hq h0
    go_wp2
    go_ret
    exact ⟨_, rfl, Hown.out, Hb.out⟩

set_option maxHeartbeats 400000 in
theorem same_any (l m : List UInt8) (A A' : Option Addr) (c c' B : Nat) (w : World) (hr : Reads w B 1 A l.length (l.map bv)) (hr' : Reads w B 1 A' m.length (m.map bv)) :
    Calls Try.prog 18 #[.slice A l.length c, .slice A' m.length c'] w fun e w' => e = .returned (.bool (l == m)) ∧ w = w' := by
  have h1 := str_of_bytes (P := Try.prog) c 22 9 5 Try.underlying22 Try.underlying5 Try.underlying9 hr
  have h2 := str_of_bytes (P := Try.prog) c' 22 9 5 Try.underlying22 Try.underlying5 Try.underlying9 hr'
  clear hr hr'
  go_enter Try.func18, Try.ntmps18
  go_wp2
  go_ret
  exact ⟨rfl, rfl⟩

end Go.Proofs.Ytnflcmpdaoobcaa
