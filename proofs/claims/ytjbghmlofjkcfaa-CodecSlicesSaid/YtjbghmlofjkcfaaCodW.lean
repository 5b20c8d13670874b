/- The walks of the codec's Writer. -/
import Derived.Test.YtjbghmlofjkcfaaTy
import Derived.Test.YtjbghmlofjkcfaaCellA
namespace Go.Proofs.Ytjbghmlofjkcfaa
open Go.RowKit

/-- A writer's variable and its bytes. -/
abbrev wH (g h : Nat) (l : List UInt8) : Hp := [(g, [.blk 63 [.own h 0 l.length]]), (h, [.rowD 5 1 (l.map byteD)])]

theorem newWriter_900 : ACalls Try.prog 13 [] [] fun r H' => r = .ptr 900 0 0 ∧ H' = wH 900 901 [] := by
  refine a_enter Try.func13 rfl rfl Try.ntmps13 rfl rfl rfl fun F hF => ?_
  refine a_seq ?_
  refine a_region ?_
  refine Pstep.go (st_assign rfl rfl) ?_
  refine o_nil ?_
  refine a_seq ?_
  refine a_region ?_
  refine Pstep.go (st_build zl63 pl63 rfl rfl rfl) ?_
  refine Estep.go (st_box 900 rfl rfl rfl rfl rfl rfl rfl) ?_
  refine o_adoptC 900 0 0 901 sl27 rfl rfl rfl rfl rfl rfl rfl ?_
  refine Pstep.go (st_assign rfl rfl) ?_
  refine o_nil ?_
  refine a_ret ?_
  exact ⟨_, [900, 901], _, res_of rfl, rfl, rfl, rfl, rfl⟩

/-- The encoding of a number, seven bits a byte, the lowest first. -/
def uv (n : Nat) : List UInt8 := if h : n < 128 then [UInt8.ofNat n] else UInt8.ofNat (n % 128 + 128) :: uv (n / 128)
termination_by n
decreasing_by omega
theorem uv_lt {n : Nat} (h : n < 128) : uv n = [UInt8.ofNat n] := by rw [uv, dif_pos h]
theorem uv_ge {n : Nat} (h : ¬ n < 128) : uv n = UInt8.ofNat (n % 128 + 128) :: uv (n / 128) := by rw [uv, dif_neg h]
theorem uv_len (k : Nat) : ∀ n, n < 128 ^ k * 128 → (uv n).length ≤ k + 1 := by
  induction k with
  | zero => intro n h; rw [uv_lt (by simpa using h)]; simp
  | succ k ih =>
    intro n h
    by_cases h1 : n < 128
    · rw [uv_lt h1]; simp
    · rw [uv_ge h1]
      have := ih (n / 128) (by rw [Nat.pow_succ] at h; exact (Nat.div_lt_iff_lt_mul (by omega)).2 (by omega))
      simp only [List.length_cons]; omega
theorem uv_len10 {n : Nat} (h : n < 18446744073709551616) : (uv n).length ≤ 10 := uv_len 9 n (Nat.lt_of_lt_of_le h (by decide))
theorem or128 (v : Nat) : bitsOf .or .u8 ((v % 256 : Nat) : Int) 128 = ((UInt8.ofNat (v % 128 + 128)).toNat : Int) := by
  have key : ∀ a : Fin 256, bitsOf .or .u8 ((a.val : Nat) : Int) 128 = ((UInt8.ofNat (a.val % 128 + 128)).toNat : Int) := by decide +kernel
  have := key ⟨v % 256, by omega⟩
  simp only at this
  rw [this]
  congr 3; omega
theorem wrap8 (v : Nat) : IntKind.u8.wrap (v : Int) = ((v % 256 : Nat) : Int) := by
  show IntKind.wrap .u8 (v : Int) = _
  simp [IntKind.wrap, IntKind.bits, IntKind.signed]

theorem shr7 (v : Nat) : (v : Int).fdiv (2 ^ (min (7 : Int).toNat IntKind.u64.bits)) = ((v / 128 : Nat) : Int) := by
  show (v : Int).fdiv 128 = _
  rw [Int.fdiv_eq_ediv_of_nonneg _ (by omega)]; rfl
theorem wUint_900 (l : List UInt8) (n : Nat) (hn : n < 18446744073709551616) (hl : l.length ≤ 140737488355300) : ACalls Try.prog 38 [.ptr 900 0 0, .d (.raw (.int .u64 (n : Int)))] (wH 900 901 l) fun r H' => r = .tup [] ∧ H' = wH 900 901 (l ++ uv n) := by
  have h10 := uv_len10 hn
  refine a_enter Try.func38 rfl rfl Try.ntmps38 rfl rfl rfl fun F hF => ?_
  refine a_seq ?_
  refine a_seq ?_
  refine a_region ?_
  refine Pstep.go (st_move rfl rfl) ?_
  first | refine Pstep.go (st_eql rfl rfl rfl) ?_ | refine Pstep.go (st_eqlSL rfl rfl rfl) ?_ | refine Pstep.go (st_eqlS rfl rfl rfl) ?_ | refine Pstep.go (st_eqlB Try.underlying25 rfl rfl rfl) ?_ | refine Pstep.go (st_eqlP Try.underlying25 rfl rfl rfl) ?_ | refine Pstep.go (st_eqlN Try.underlying25 rfl rfl) ?_ | refine Pstep.go (st_eqlF Try.underlying25 rfl rfl rfl) ?_ | refine Pstep.go (st_eqlFN Try.underlying25 rfl rfl) ?_
  refine o_nil ?_
  refine a_false rfl (rfl) ?_
  refine a_skip ?_
  refine a_seq ?_
  refine a_block ?_
  refine a_loop (α := Nat × List UInt8) (fun p => ⟨33, [(0, .ptr 900 0 0), (1, (.d (.raw (.int .u64 (p.1 : Int)))))], wH 900 901 p.2⟩) (fun p => p.1 < 18446744073709551616 ∧ p.2 ++ uv p.1 = l ++ uv n) (fun p => p.1) ((n, l)) (⟨hn, rfl⟩) (le_of_has ⟨rfl, rfl, trivial⟩) ?_
  rintro ⟨v, m⟩ ⟨hv, hm⟩
  dsimp only at hv hm ⊢
  have hlen : m.length + (uv v).length = l.length + (uv n).length := by rw [← List.length_append, hm, List.length_append]
  refine a_seq ?_
  refine a_seq ?_
  refine a_region ?_
  refine Pstep.go (st_move rfl rfl) ?_
  first | refine Pstep.go (st_gtr rfl rfl rfl) ?_ | refine Pstep.go (st_gtrS rfl rfl rfl) ?_
  refine o_nil ?_
  first | refine a_if rfl (fun h7 => ?_) (fun h7 => ?_) | refine a_cond rfl (fun h7 => ?_) (fun h7 => ?_)
  · refine a_skip ?_
    refine a_block ?_
    refine a_seq ?_
    refine a_region ?_
    refine Pstep.go (st_move rfl rfl) ?_
    refine Pstep.go (st_move rfl rfl) ?_
    first | refine Pstep.go (st_nilCheckP rfl rfl) ?_ | refine Pstep.go (st_nilCheckD rfl rfl) ?_ | refine Pstep.go (st_nilCheckR rfl rfl) ?_
    first | refine Pstep.go (st_fieldP rfl fi63_0 rfl rfl rfl) ?_ | refine Pstep.go (st_fieldF1 rfl fi63_0 rfl rfl rfl) ?_ | refine Pstep.go (st_fieldFS rfl fi63_0 rfl rfl rfl) ?_ | refine Pstep.go (st_fieldR rfl fi63_0 rfl rfl rfl) ?_
    first | refine Pstep.go (st_loadD1 rfl rfl on27 rfl) ?_ | refine Pstep.go (st_loadP rfl rfl rfl on27 rfl) ?_ | refine Pstep.go (st_loadR rfl rfl (rfl) rfl on27 rfl) ?_
    refine Pstep.go (st_move rfl rfl) ?_
    refine Pstep.go (st_conv rfl Try.underlying29 Try.underlying5 (wrap8 v) rfl) ?_
    refine Pstep.go (st_bits rfl rfl rfl (or128 v) rfl) ?_
    refine Estep.go (st_buildSlice 0 sl27 rfl rfl rfl rfl rfl rfl rfl rfl) ?_
    refine Estep.go (st_appendO (zs := (m ++ [UInt8.ofNat (v % 128 + 128)]).map byteD) rfl rfl rfl (by simp) rfl rfl (by simp) sl27 (by omega) rfl rfl (by rw [List.take_of_length_le (by simp), List.map_append]; rfl) rfl rfl) ?_
    refine o_as 17 (.own 901 0 (m ++ [UInt8.ofNat (v % 128 + 128)]).length) rfl (by simp) ?_
    first | refine Pstep.go (st_nilCheckP rfl rfl) ?_ | refine Pstep.go (st_nilCheckD rfl rfl) ?_ | refine Pstep.go (st_nilCheckR rfl rfl) ?_
    first | refine Pstep.go (st_fieldP rfl fi63_0 rfl rfl rfl) ?_ | refine Pstep.go (st_fieldF1 rfl fi63_0 rfl rfl rfl) ?_ | refine Pstep.go (st_fieldFS rfl fi63_0 rfl rfl rfl) ?_ | refine Pstep.go (st_fieldR rfl fi63_0 rfl rfl rfl) ?_
    refine Estep.go (st_storeP rfl rfl rfl rfl rfl rfl rfl sz27) ?_
    refine o_nil ?_
    refine a_only [900, 901] hF rfl rfl ?_
    refine a_region ?_
    refine Pstep.go (st_move rfl rfl) ?_
    refine Pstep.go (st_shr rfl rfl (by omega) (shr7 v) rfl) ?_
    refine Pstep.go (st_assign rfl rfl) ?_
    refine o_nil ?_
    exact ⟨(v / 128, m ++ [UInt8.ofNat (v % 128 + 128)]), ⟨by show v / 128 < _; omega, by show (m ++ [_]) ++ uv (v / 128) = _; rw [List.append_assoc, ← hm, uv_ge (n := v) (by omega)]; rfl⟩, by show v / 128 < v; omega, ⟨rfl, rfl, fun _ _ => Has.get (l := [(0, _), (1, _)]) ⟨rfl, rfl, trivial⟩⟩⟩
  · refine a_exit ?_
    refine a_region ?_
    refine Pstep.go (st_move rfl rfl) ?_
    refine Pstep.go (st_move rfl rfl) ?_
    first | refine Pstep.go (st_nilCheckP rfl rfl) ?_ | refine Pstep.go (st_nilCheckD rfl rfl) ?_ | refine Pstep.go (st_nilCheckR rfl rfl) ?_
    first | refine Pstep.go (st_fieldP rfl fi63_0 rfl rfl rfl) ?_ | refine Pstep.go (st_fieldF1 rfl fi63_0 rfl rfl rfl) ?_ | refine Pstep.go (st_fieldFS rfl fi63_0 rfl rfl rfl) ?_ | refine Pstep.go (st_fieldR rfl fi63_0 rfl rfl rfl) ?_
    first | refine Pstep.go (st_loadD1 rfl rfl on27 rfl) ?_ | refine Pstep.go (st_loadP rfl rfl rfl on27 rfl) ?_ | refine Pstep.go (st_loadR rfl rfl (rfl) rfl on27 rfl) ?_
    refine Pstep.go (st_move rfl rfl) ?_
    refine Pstep.go (st_conv rfl Try.underlying29 Try.underlying5 (wrap8 v) rfl) ?_
    refine Estep.go (st_buildSlice 0 sl27 rfl rfl rfl rfl rfl rfl rfl rfl) ?_
    have hv8 : ((v % 256 : Nat) : Int) = ((UInt8.ofNat v).toNat : Int) := by simp
    refine Estep.go (st_appendO (zs := (m ++ [UInt8.ofNat v]).map byteD) rfl rfl rfl (by simp) rfl rfl (by simp) sl27 (by omega) rfl rfl (by rw [List.take_of_length_le (by simp), List.map_append, hv8]; rfl) rfl rfl) ?_
    refine o_as 30 (.own 901 0 (m ++ [UInt8.ofNat v]).length) rfl (by simp) ?_
    first | refine Pstep.go (st_nilCheckP rfl rfl) ?_ | refine Pstep.go (st_nilCheckD rfl rfl) ?_ | refine Pstep.go (st_nilCheckR rfl rfl) ?_
    first | refine Pstep.go (st_fieldP rfl fi63_0 rfl rfl rfl) ?_ | refine Pstep.go (st_fieldF1 rfl fi63_0 rfl rfl rfl) ?_ | refine Pstep.go (st_fieldFS rfl fi63_0 rfl rfl rfl) ?_ | refine Pstep.go (st_fieldR rfl fi63_0 rfl rfl rfl) ?_
    refine Estep.go (st_storeP rfl rfl rfl rfl rfl rfl rfl sz27) ?_
    refine o_nil ?_
    exact ⟨_, [900, 901], _, res_of rfl, rfl, rfl, rfl, by rw [← hm, uv_lt (n := v) (by omega)]⟩

/-- The zigzag number of z. -/
def zz (z : Int) : Nat := if 0 ≤ z then z.toNat * 2 else (-(z + 1)).toNat * 2 + 1
theorem zz_lt {z : Int} (h1 : -9223372036854775808 ≤ z) (h2 : z ≤ 9223372036854775807) : zz z < 18446744073709551616 := by
  unfold zz; split <;> omega
theorem zz_bits (z : Int) (h1 : -9223372036854775808 ≤ z) (h2 : z ≤ 9223372036854775807) : bitsOf .xor .u64 (IntKind.u64.wrap (IntKind.u64.wrap z * 2 ^ (min (1 : Int).toNat IntKind.u64.bits))) (IntKind.u64.wrap (z.fdiv (2 ^ (min (63 : Int).toNat IntKind.i64.bits)))) = (zz z : Int) := by
  have hw : ∀ x : Int, IntKind.u64.wrap x = x % 18446744073709551616 := fun x => by simp [IntKind.wrap, IntKind.bits, IntKind.signed]
  have s1 : (z.fdiv (2 ^ (min (63 : Int).toNat IntKind.i64.bits))) = z / 9223372036854775808 := Int.fdiv_eq_ediv_of_nonneg _ (by decide)
  have s2 : IntKind.u64.wrap (IntKind.u64.wrap z * 2 ^ (min (1 : Int).toNat IntKind.u64.bits)) = (z % 18446744073709551616 * 2) % 18446744073709551616 := by rw [hw, hw]; rfl
  rw [s1, s2, hw]
  unfold zz
  have hx : ∀ (a : Nat), a < 18446744073709551616 → (BitVec.ofInt 64 (a : Int)).toNat = a := fun a ha => by rw [BitVec.toNat_ofInt]; omega
  split
  · have e1 : (z % 18446744073709551616 * 2) % 18446744073709551616 = ((z.toNat * 2 : Nat) : Int) := by omega
    have e2 : z / 9223372036854775808 % 18446744073709551616 = 0 := by omega
    rw [e1, e2]
    show IntKind.u64.wrap ((BitVec.ofInt 64 ((z.toNat * 2 : Nat) : Int) ^^^ BitVec.ofInt 64 0).toNat : Int) = _
    rw [BitVec.toNat_xor, hx _ (by omega), show (BitVec.ofInt 64 0).toNat = 0 by decide, Nat.xor_zero, hw]
    omega
  · have e1 : (z % 18446744073709551616 * 2) % 18446744073709551616 = (((2 * z + 18446744073709551616).toNat : Nat) : Int) := by omega
    have e2 : z / 9223372036854775808 % 18446744073709551616 = 18446744073709551615 := by omega
    rw [e1, e2]
    show IntKind.u64.wrap ((BitVec.ofInt 64 (((2 * z + 18446744073709551616).toNat : Nat) : Int) ^^^ BitVec.ofInt 64 18446744073709551615).toNat : Int) = _
    rw [show BitVec.ofInt 64 18446744073709551615 = BitVec.allOnes 64 by decide, BitVec.xor_allOnes, BitVec.toNat_not, hx _ (by omega), hw]
    omega
theorem wInt_900 (l : List UInt8) (z : Int) (h1 : -9223372036854775808 ≤ z) (h2 : z ≤ 9223372036854775807) (hl : l.length ≤ 140737488355300) : ACalls Try.prog 39 [.ptr 900 0 0, .d (.raw (.int .i64 z))] (wH 900 901 l) fun r H' => r = .tup [] ∧ H' = wH 900 901 (l ++ uv (zz z)) := by
  refine a_enter Try.func39 rfl rfl Try.ntmps39 rfl rfl rfl fun F hF => ?_
  refine a_region ?_
  refine Pstep.go (st_move rfl rfl) ?_
  refine Pstep.go (st_move rfl rfl) ?_
  refine Pstep.go (st_conv rfl Try.underlying2 Try.underlying29 (rfl) rfl) ?_
  refine Pstep.go (st_shl rfl rfl (by omega) (rfl) rfl) ?_
  refine Pstep.go (st_move rfl rfl) ?_
  refine Pstep.go (st_shr rfl rfl (by omega) (rfl) rfl) ?_
  refine Pstep.go (st_conv rfl Try.underlying2 Try.underlying29 (rfl) rfl) ?_
  refine Pstep.go (st_bits rfl rfl rfl (zz_bits z h1 h2) rfl) ?_
  refine Estep.go (st_callD (wUint_900 l (zz z) (zz_lt h1 h2) hl) rfl [900, 901] ⟨rfl, rfl, trivial⟩ rfl rfl rfl rfl rfl rfl rfl rfl rfl) ?_
  refine o_nil ?_
  exact ⟨_, [900, 901], _, res_of rfl, rfl, rfl, rfl, rfl⟩
theorem wBool_900 (l : List UInt8) (b : Bool) (hl : l.length ≤ 140737488355300) : ACalls Try.prog 41 [.ptr 900 0 0, .d (.raw (.bool b))] (wH 900 901 l) fun r H' => r = .tup [] ∧ H' = wH 900 901 (l ++ uv (if b then 1 else 0)) := by
  refine a_enter Try.func41 rfl rfl Try.ntmps41 rfl rfl rfl fun F hF => ?_
  refine a_seq ?_
  refine a_region ?_
  refine Pstep.go (st_assign rfl rfl) ?_
  refine o_nil ?_
  refine a_seq ?_
  refine a_seq ?_
  refine a_region ?_
  refine Pstep.go (st_move rfl rfl) ?_
  refine o_nil ?_
  first | refine a_if rfl (fun h5 => ?_) (fun h5 => ?_) | refine a_cond rfl (fun h5 => ?_) (fun h5 => ?_)
  · refine a_region ?_
    refine Pstep.go (st_assign rfl rfl) ?_
    refine o_nil ?_
    refine a_region ?_
    refine Pstep.go (st_move rfl rfl) ?_
    refine Pstep.go (st_move rfl rfl) ?_
    refine Estep.go (st_callD (wUint_900 l 1 (by omega) hl) rfl [900, 901] ⟨rfl, rfl, trivial⟩ rfl rfl rfl rfl rfl rfl rfl rfl rfl) ?_
    refine o_nil ?_
    exact ⟨_, [900, 901], _, res_of rfl, rfl, rfl, rfl, by rw [h5]; rfl⟩
  · refine a_skip ?_
    refine a_region ?_
    refine Pstep.go (st_move rfl rfl) ?_
    refine Pstep.go (st_move rfl rfl) ?_
    refine Estep.go (st_callD (wUint_900 l 0 (by omega) hl) rfl [900, 901] ⟨rfl, rfl, trivial⟩ rfl rfl rfl rfl rfl rfl rfl rfl rfl) ?_
    refine o_nil ?_
    exact ⟨_, [900, 901], _, res_of rfl, rfl, rfl, rfl, by rw [h5]; rfl⟩

theorem wrap64n (n : Nat) (h : n < 18446744073709551616) : IntKind.u64.wrap (n : Int) = (n : Int) := by
  simp [IntKind.wrap, IntKind.bits, IntKind.signed]; omega
theorem wBlob_900 (l b : List UInt8) (hl : l.length + b.length ≤ 140737488355200) : ACalls Try.prog 42 [.ptr 900 0 0, .d (bytesD b)] (wH 900 901 l) fun r H' => r = .tup [] ∧ H' = wH 900 901 (l ++ uv b.length ++ b) := by
  have h10 := uv_len10 (show b.length < 18446744073709551616 by omega)
  refine a_enter Try.func42 rfl rfl Try.ntmps42 rfl rfl rfl fun F hF => ?_
  refine a_seq ?_
  refine a_seq ?_
  refine a_region ?_
  refine Pstep.go (st_move rfl rfl) ?_
  first | refine Pstep.go (st_eql rfl rfl rfl) ?_ | refine Pstep.go (st_eqlSL rfl rfl rfl) ?_ | refine Pstep.go (st_eqlS rfl rfl rfl) ?_ | refine Pstep.go (st_eqlB Try.underlying25 rfl rfl rfl) ?_ | refine Pstep.go (st_eqlP Try.underlying25 rfl rfl rfl) ?_ | refine Pstep.go (st_eqlN Try.underlying25 rfl rfl) ?_ | refine Pstep.go (st_eqlF Try.underlying25 rfl rfl rfl) ?_ | refine Pstep.go (st_eqlFN Try.underlying25 rfl rfl) ?_
  refine o_nil ?_
  refine a_false rfl (rfl) ?_
  refine a_skip ?_
  refine a_seq ?_
  refine a_region ?_
  refine Pstep.go (st_move rfl rfl) ?_
  refine Pstep.go (st_move rfl rfl) ?_
  first | refine Pstep.go (st_lenMap rfl Try.underlying27 rfl) ?_ | refine Pstep.go (st_lenD rfl rfl Try.underlying27 rfl) ?_ | refine Pstep.go (st_lenO rfl Try.underlying27 rfl) ?_ | refine Pstep.go (st_lenSL rfl Try.underlying27 rfl) ?_ | refine Pstep.go (st_lenS rfl Try.underlying27 rfl) ?_
  refine Pstep.go (st_conv rfl Try.underlying3 Try.underlying29 (wrap64n b.length (by omega)) rfl) ?_
  refine Estep.go (st_callD (wUint_900 l b.length (by omega) (by omega)) rfl [900, 901] ⟨rfl, rfl, trivial⟩ rfl rfl rfl rfl rfl rfl rfl rfl rfl) ?_
  refine o_nil ?_
  refine a_region ?_
  refine Pstep.go (st_move rfl rfl) ?_
  refine Pstep.go (st_move rfl rfl) ?_
  first | refine Pstep.go (st_nilCheckP rfl rfl) ?_ | refine Pstep.go (st_nilCheckD rfl rfl) ?_ | refine Pstep.go (st_nilCheckR rfl rfl) ?_
  first | refine Pstep.go (st_fieldP rfl fi63_0 rfl rfl rfl) ?_ | refine Pstep.go (st_fieldF1 rfl fi63_0 rfl rfl rfl) ?_ | refine Pstep.go (st_fieldFS rfl fi63_0 rfl rfl rfl) ?_ | refine Pstep.go (st_fieldR rfl fi63_0 rfl rfl rfl) ?_
  first | refine Pstep.go (st_loadD1 rfl rfl on27 rfl) ?_ | refine Pstep.go (st_loadP rfl rfl rfl on27 rfl) ?_ | refine Pstep.go (st_loadR rfl rfl (rfl) rfl on27 rfl) ?_
  refine Pstep.go (st_move rfl rfl) ?_
  refine Estep.go (st_appendD (m := b.length) (zs := (l ++ uv b.length ++ b).map byteD) rfl rfl rfl (by simp) sl27 (by simp [D.cells, byteD]) (by simp) (by simp; omega) rfl rfl (by rw [List.take_of_length_le (by simp), ← List.map_append]) rfl rfl) ?_
  refine o_as 17 (.own 901 0 (l ++ uv b.length ++ b).length) rfl (by simp; omega) ?_
  first | refine Pstep.go (st_nilCheckP rfl rfl) ?_ | refine Pstep.go (st_nilCheckD rfl rfl) ?_ | refine Pstep.go (st_nilCheckR rfl rfl) ?_
  first | refine Pstep.go (st_fieldP rfl fi63_0 rfl rfl rfl) ?_ | refine Pstep.go (st_fieldF1 rfl fi63_0 rfl rfl rfl) ?_ | refine Pstep.go (st_fieldFS rfl fi63_0 rfl rfl rfl) ?_ | refine Pstep.go (st_fieldR rfl fi63_0 rfl rfl rfl) ?_
  refine Estep.go (st_storeP rfl rfl rfl rfl rfl rfl rfl sz27) ?_
  refine o_nil ?_
  exact ⟨_, [900, 901], _, res_of rfl, rfl, rfl, rfl, rfl⟩
theorem wString_900 (l b : List UInt8) (hl : l.length + b.length ≤ 140737488355200) : ACalls Try.prog 40 [.ptr 900 0 0, .d (strD b)] (wH 900 901 l) fun r H' => r = .tup [] ∧ H' = wH 900 901 (l ++ uv b.length ++ b) := by
  refine a_enter Try.func40 rfl rfl Try.ntmps40 rfl rfl rfl fun F hF => ?_
  refine a_region ?_
  refine Pstep.go (st_move rfl rfl) ?_
  refine Pstep.go (st_move rfl rfl) ?_
  refine Pstep.go (st_convSB b rfl (by omega) Try.underlying9 Try.underlying27 Try.underlying5 rfl) ?_
  refine Estep.go (st_callD (wBlob_900 l b hl) rfl [900, 901] ⟨rfl, rfl, trivial⟩ rfl rfl rfl rfl rfl rfl rfl rfl rfl) ?_
  refine o_nil ?_
  exact ⟨_, [900, 901], _, res_of rfl, rfl, rfl, rfl, rfl⟩
theorem wLen_900 (l : List UInt8) : ACalls Try.prog 17 [.ptr 900 0 0] (wH 900 901 l) fun r H' => r = .d (.raw (.int .i64 (l.length : Int))) ∧ H' = wH 900 901 l := by
  refine a_enter Try.func17 rfl rfl Try.ntmps17 rfl rfl rfl fun F hF => ?_
  refine a_seq ?_
  refine a_region ?_
  refine Pstep.go (st_assign rfl rfl) ?_
  refine o_nil ?_
  refine a_seq ?_
  refine a_seq ?_
  refine a_region ?_
  refine Pstep.go (st_move rfl rfl) ?_
  first | refine Pstep.go (st_eql rfl rfl rfl) ?_ | refine Pstep.go (st_eqlSL rfl rfl rfl) ?_ | refine Pstep.go (st_eqlS rfl rfl rfl) ?_ | refine Pstep.go (st_eqlB Try.underlying25 rfl rfl rfl) ?_ | refine Pstep.go (st_eqlP Try.underlying25 rfl rfl rfl) ?_ | refine Pstep.go (st_eqlN Try.underlying25 rfl rfl) ?_ | refine Pstep.go (st_eqlF Try.underlying25 rfl rfl rfl) ?_ | refine Pstep.go (st_eqlFN Try.underlying25 rfl rfl) ?_
  refine o_nil ?_
  refine a_false rfl (rfl) ?_
  refine a_skip ?_
  refine a_seq ?_
  refine a_region ?_
  refine Pstep.go (st_move rfl rfl) ?_
  first | refine Pstep.go (st_nilCheckP rfl rfl) ?_ | refine Pstep.go (st_nilCheckD rfl rfl) ?_ | refine Pstep.go (st_nilCheckR rfl rfl) ?_
  first | refine Pstep.go (st_fieldP rfl fi63_0 rfl rfl rfl) ?_ | refine Pstep.go (st_fieldF1 rfl fi63_0 rfl rfl rfl) ?_ | refine Pstep.go (st_fieldFS rfl fi63_0 rfl rfl rfl) ?_ | refine Pstep.go (st_fieldR rfl fi63_0 rfl rfl rfl) ?_
  first | refine Pstep.go (st_loadD1 rfl rfl on27 rfl) ?_ | refine Pstep.go (st_loadP rfl rfl rfl on27 rfl) ?_ | refine Pstep.go (st_loadR rfl rfl (rfl) rfl on27 rfl) ?_
  first | refine Pstep.go (st_lenMap rfl Try.underlying27 rfl) ?_ | refine Pstep.go (st_lenD rfl rfl Try.underlying27 rfl) ?_ | refine Pstep.go (st_lenO rfl Try.underlying27 rfl) ?_ | refine Pstep.go (st_lenSL rfl Try.underlying27 rfl) ?_ | refine Pstep.go (st_lenS rfl Try.underlying27 rfl) ?_
  refine Pstep.go (st_assign rfl rfl) ?_
  refine o_nil ?_
  refine a_ret ?_
  exact ⟨_, [900, 901], _, res_of rfl, rfl, rfl, rfl, rfl⟩

theorem clone_902 (l : List UInt8) (hl : l.length ≤ 140737488355328) : ACalls Try.prog 44 [.d (bytesD l)] [] fun r H' => r = .own 902 0 l.length ∧ H' = [(902, [.rowD 5 1 (l.map byteD)])] := by
  refine a_enter Try.func44 rfl rfl Try.ntmps44 rfl rfl rfl fun F hF => ?_
  refine a_seq ?_
  refine a_region ?_
  refine Pstep.go (st_assign rfl rfl) ?_
  refine o_nil ?_
  refine a_seq ?_
  refine a_seq ?_
  refine a_region ?_
  refine Pstep.go (st_move rfl rfl) ?_
  refine o_nilSplit 3 rfl (fun h0 => ?_) ?_
  · first | refine Pstep.go (st_eql rfl rfl rfl) ?_ | refine Pstep.go (st_eqlSL rfl rfl rfl) ?_ | refine Pstep.go (st_eqlS rfl rfl rfl) ?_ | refine Pstep.go (st_eqlB Try.underlying27 rfl rfl rfl) ?_ | refine Pstep.go (st_eqlP Try.underlying27 rfl rfl rfl) ?_ | refine Pstep.go (st_eqlN Try.underlying27 rfl rfl) ?_ | refine Pstep.go (st_eqlF Try.underlying27 rfl rfl rfl) ?_ | refine Pstep.go (st_eqlFN Try.underlying27 rfl rfl) ?_
    refine o_nil ?_
    refine a_true rfl (rfl) ?_
    refine a_seq ?_
    refine a_region ?_
    refine Pstep.go (st_assign rfl rfl) ?_
    obtain rfl : l = [] := by simpa using h0
    refine o_adopt 2 902 sl27 rfl rfl rfl rfl ?_
    refine o_nil ?_
    refine a_ret ?_
    exact ⟨_, [902], _, res_of rfl, rfl, rfl, rfl, rfl⟩
  · first | refine Pstep.go (st_eql rfl rfl rfl) ?_ | refine Pstep.go (st_eqlSL rfl rfl rfl) ?_ | refine Pstep.go (st_eqlS rfl rfl rfl) ?_ | refine Pstep.go (st_eqlB Try.underlying27 rfl rfl rfl) ?_ | refine Pstep.go (st_eqlP Try.underlying27 rfl rfl rfl) ?_ | refine Pstep.go (st_eqlN Try.underlying27 rfl rfl) ?_ | refine Pstep.go (st_eqlF Try.underlying27 rfl rfl rfl) ?_ | refine Pstep.go (st_eqlFN Try.underlying27 rfl rfl) ?_
    refine o_nil ?_
    refine a_false rfl (rfl) ?_
    refine a_skip ?_
    refine a_seq ?_
    refine a_region ?_
    refine Estep.go (st_buildSlice 902 sl27 rfl rfl rfl rfl rfl rfl rfl rfl) ?_
    refine Pstep.go (st_move rfl rfl) ?_
    refine Estep.go (st_appendD (m := l.length) (zs := l.map byteD) rfl rfl rfl (by simp) sl27 (by simp [D.cells, byteD]) (by simp) (by simp; omega) rfl rfl rfl rfl rfl) ?_
    refine o_as 7 (.own 902 0 l.length) rfl (by simp) ?_
    refine Pstep.go (st_assign rfl rfl) ?_
    refine o_nil ?_
    refine a_ret ?_
    exact ⟨_, [902], _, res_of rfl, rfl, rfl, rfl, rfl⟩
theorem wBytes_900 (l : List UInt8) (hl : l.length ≤ 140737488355328) : ACalls Try.prog 18 [.ptr 900 0 0] (wH 900 901 l) fun r H' => r = .own 902 0 l.length ∧ H' = (902, [.rowD 5 1 (l.map byteD)]) :: wH 900 901 l := by
  refine a_enter Try.func18 rfl rfl Try.ntmps18 rfl rfl rfl fun F hF => ?_
  refine a_seq ?_
  refine a_region ?_
  refine Pstep.go (st_assign rfl rfl) ?_
  refine o_nil ?_
  refine a_seq ?_
  refine a_seq ?_
  refine a_region ?_
  refine Pstep.go (st_move rfl rfl) ?_
  first | refine Pstep.go (st_eql rfl rfl rfl) ?_ | refine Pstep.go (st_eqlSL rfl rfl rfl) ?_ | refine Pstep.go (st_eqlS rfl rfl rfl) ?_ | refine Pstep.go (st_eqlB Try.underlying25 rfl rfl rfl) ?_ | refine Pstep.go (st_eqlP Try.underlying25 rfl rfl rfl) ?_ | refine Pstep.go (st_eqlN Try.underlying25 rfl rfl) ?_ | refine Pstep.go (st_eqlF Try.underlying25 rfl rfl rfl) ?_ | refine Pstep.go (st_eqlFN Try.underlying25 rfl rfl) ?_
  refine o_nil ?_
  refine a_false rfl (rfl) ?_
  refine a_skip ?_
  refine a_seq ?_
  refine a_region ?_
  refine Pstep.go (st_move rfl rfl) ?_
  first | refine Pstep.go (st_nilCheckP rfl rfl) ?_ | refine Pstep.go (st_nilCheckD rfl rfl) ?_ | refine Pstep.go (st_nilCheckR rfl rfl) ?_
  first | refine Pstep.go (st_fieldP rfl fi63_0 rfl rfl rfl) ?_ | refine Pstep.go (st_fieldF1 rfl fi63_0 rfl rfl rfl) ?_ | refine Pstep.go (st_fieldFS rfl fi63_0 rfl rfl rfl) ?_ | refine Pstep.go (st_fieldR rfl fi63_0 rfl rfl rfl) ?_
  first | refine Pstep.go (st_loadD1 rfl rfl on27 rfl) ?_ | refine Pstep.go (st_loadP rfl rfl rfl on27 rfl) ?_ | refine Pstep.go (st_loadR rfl rfl (rfl) rfl on27 rfl) ?_
  refine Estep.go (st_callB [901] (clone_902 l hl) (by exact ⟨.inr ⟨_, _, rfl, .own rfl rfl (by simp) (List.take_of_length_le (by simp)), rfl⟩, trivial⟩) [902] ⟨rfl, trivial⟩ rfl rfl rfl rfl rfl rfl rfl (flat_bytes _ _ _) rfl rfl) ?_
  refine Pstep.go (st_assign rfl rfl) ?_
  refine o_nil ?_
  refine a_ret ?_
  exact ⟨_, [902, 900, 901], _, res_of rfl, rfl, rfl, rfl, rfl⟩
end Go.Proofs.Ytjbghmlofjkcfaa
