/- The walks of the codec's reference. -/
import Derived.Test.YtjbghmlofjkcfaaCodW
namespace Go.Proofs.Ytjbghmlofjkcfaa
open Go.RowKit

theorem tmodn (a : Nat) : (a : Int).tmod 128 = ((a % 128 : Nat) : Int) := rfl
theorem tdivn (a : Nat) : (a : Int).tdiv 128 = ((a / 128 : Nat) : Int) := rfl
theorem quon (a : Nat) (h : a < 18446744073709551616) : IntKind.u64.wrap ((a : Int).tdiv 128) = ((a / 128 : Nat) : Int) := by rw [tdivn, wrap64n _ (by omega)]
theorem wrap8m (v : Nat) : IntKind.u8.wrap ((v % 128 : Nat) : Int) = ((v % 128 : Nat) : Int) := by rw [wrap8]; congr 1; omega
theorem add8 (v : Nat) : IntKind.u8.wrap (((v % 128 : Nat) : Int) + 128) = ((UInt8.ofNat (v % 128 + 128)).toNat : Int) := by
  rw [show (((v % 128 : Nat) : Int) + 128) = ((v % 128 + 128 : Nat) : Int) by omega, wrap8]
  simp
theorem refUint_902 (n : Nat) (hn : n < 18446744073709551616) : ACalls Try.prog 35 [.d (.raw (.int .u64 (n : Int)))] [] fun r H' => r = .own 902 0 (uv n).length ∧ H' = [(902, [.rowD 5 1 ((uv n).map byteD)])] := by
  have h10 := uv_len10 hn
  refine a_enter Try.func35 rfl rfl Try.ntmps35 rfl rfl rfl fun F hF => ?_
  refine a_seq ?_
  refine a_region ?_
  refine Pstep.go (st_assign rfl rfl) ?_
  refine o_nil ?_
  refine a_seq ?_
  refine a_region ?_
  refine Pstep.go (st_assign rfl rfl) ?_
  refine o_adopt 3 902 sl27 rfl rfl rfl rfl ?_
  refine o_nil ?_
  refine a_seq ?_
  refine a_block ?_
  refine a_loop (α := Nat × List UInt8) (fun p => ⟨20, [(0, (.d (.raw (.int .u64 (p.1 : Int))))), (3, (.own 902 0 p.2.length))], [(902, [.rowD 5 1 (p.2.map byteD)])]⟩) (fun p => p.1 < 18446744073709551616 ∧ p.2 ++ uv p.1 = uv n) (fun p => p.1) ((n, [])) (⟨hn, rfl⟩) (le_of_has ⟨rfl, rfl, trivial⟩) ?_
  rintro ⟨v, m⟩ ⟨hv, hm⟩
  dsimp only at hv hm ⊢
  have hlen : m.length + (uv v).length = (uv n).length := by rw [← List.length_append, hm]
  refine a_seq ?_
  refine a_seq ?_
  refine a_region ?_
  refine Pstep.go (st_move rfl rfl) ?_
  refine Pstep.go (st_geq rfl rfl rfl) ?_
  refine o_nil ?_
  first | refine a_if rfl (fun h5 => ?_) (fun h5 => ?_) | refine a_cond rfl (fun h5 => ?_) (fun h5 => ?_)
  · refine a_skip ?_
    refine a_block ?_
    refine a_seq ?_
    refine a_region ?_
    refine Pstep.go (st_move rfl rfl) ?_
    refine Pstep.go (st_move rfl rfl) ?_
    refine Pstep.go (st_rem rfl rfl (by omega) (tmodn v) rfl) ?_
    refine Pstep.go (st_conv rfl Try.underlying29 Try.underlying5 (wrap8m v) rfl) ?_
    refine Pstep.go (st_add rfl rfl (add8 v) rfl) ?_
    refine Estep.go (st_buildSlice 0 sl27 rfl rfl rfl rfl rfl rfl rfl rfl) ?_
    refine Estep.go (st_appendO (zs := (m ++ [UInt8.ofNat (v % 128 + 128)]).map byteD) rfl rfl rfl (by simp) rfl rfl (by simp) sl27 (by omega) rfl rfl (by rw [List.take_of_length_le (by simp), List.map_append]; rfl) rfl rfl) ?_
    refine o_as 12 (.own 902 0 (m ++ [UInt8.ofNat (v % 128 + 128)]).length) rfl (by simp) ?_
    refine Pstep.go (st_assign rfl rfl) ?_
    refine o_nil ?_
    refine a_only [902] hF rfl rfl ?_
    refine a_region ?_
    refine Pstep.go (st_move rfl rfl) ?_
    refine Pstep.go (st_quo rfl rfl (by omega) (quon v hv) rfl) ?_
    refine Pstep.go (st_assign rfl rfl) ?_
    refine o_nil ?_
    exact ⟨(v / 128, m ++ [UInt8.ofNat (v % 128 + 128)]), ⟨by show v / 128 < _; omega, by show (m ++ [_]) ++ uv (v / 128) = _; rw [List.append_assoc, ← hm, uv_ge (n := v) (by omega)]; rfl⟩, by show v / 128 < v; omega, ⟨rfl, rfl, fun _ _ => Has.get (l := [(0, _), (3, _)]) ⟨rfl, rfl, trivial⟩⟩⟩
  · refine a_exit ?_
    refine a_seq ?_
    refine a_region ?_
    refine Pstep.go (st_move rfl rfl) ?_
    refine Pstep.go (st_move rfl rfl) ?_
    refine Pstep.go (st_conv rfl Try.underlying29 Try.underlying5 (wrap8 v) rfl) ?_
    refine Estep.go (st_buildSlice 0 sl27 rfl rfl rfl rfl rfl rfl rfl rfl) ?_
    have hv8 : ((v % 256 : Nat) : Int) = ((UInt8.ofNat v).toNat : Int) := by simp
    refine Estep.go (st_appendO (zs := (m ++ [UInt8.ofNat v]).map byteD) rfl rfl rfl (by simp) rfl rfl (by simp) sl27 (by omega) rfl rfl (by rw [List.take_of_length_le (by simp), List.map_append, hv8]; rfl) rfl rfl) ?_
    refine o_as 19 (.own 902 0 (m ++ [UInt8.ofNat v]).length) rfl (by simp) ?_
    refine Pstep.go (st_assign rfl rfl) ?_
    refine o_nil ?_
    refine a_ret ?_
    exact ⟨_, [902], _, res_of rfl, rfl, rfl, by rw [← hm, uv_lt (n := v) (by omega)], by rw [← hm, uv_lt (n := v) (by omega)]⟩

theorem zigzag_p (z : Int) (h1 : -9223372036854775808 ≤ z) (h2 : z ≤ 9223372036854775807) : PCalls Try.prog 43 [.d (.raw (.int .i64 z))] (.raw (.int .u64 (zz z : Int))) := by
  have hw : ∀ x : Int, IntKind.u64.wrap x = x % 18446744073709551616 := fun x => by simp [IntKind.wrap, IntKind.bits, IntKind.signed]
  have hi : ∀ x : Int, -9223372036854775808 ≤ x → x ≤ 9223372036854775807 → IntKind.i64.wrap x = x := fun x h1 h2 => IntWalk.i64_in _ (by omega)
  refine a_enter Try.func43 rfl rfl Try.ntmps43 rfl rfl rfl fun F hF => ?_
  refine a_seq ?_
  refine a_region ?_
  refine Pstep.go (st_assign rfl rfl) ?_
  refine o_nil ?_
  refine a_seq ?_
  refine a_seq ?_
  refine a_region ?_
  refine Pstep.go (st_move rfl rfl) ?_
  refine Pstep.go (st_geq rfl rfl rfl) ?_
  refine o_nil ?_
  first | refine a_if rfl (fun h4 => ?_) (fun h4 => ?_) | refine a_cond rfl (fun h4 => ?_) (fun h4 => ?_)
  · refine a_seq ?_
    refine a_region ?_
    refine Pstep.go (st_move rfl rfl) ?_
    refine Pstep.go (st_conv rfl Try.underlying2 Try.underlying29 (rfl) rfl) ?_
    refine Pstep.go (st_mul rfl rfl (rfl) rfl) ?_
    refine Pstep.go (st_assign rfl rfl) ?_
    refine o_nil ?_
    refine a_ret ?_
    exact ⟨_, [], [], res_of rfl, rfl, rfl, by congr 3; unfold zz; rw [if_pos (by omega), hw, hw]; omega, rfl⟩
  · refine a_skip ?_
    refine a_seq ?_
    refine a_region ?_
    refine Pstep.go (st_move rfl rfl) ?_
    refine Pstep.go (st_add rfl rfl (rfl) rfl) ?_
    refine Pstep.go (st_neg rfl (rfl) rfl) ?_
    refine Pstep.go (st_conv rfl Try.underlying2 Try.underlying29 (rfl) rfl) ?_
    refine Pstep.go (st_mul rfl rfl (rfl) rfl) ?_
    refine Pstep.go (st_add rfl rfl (rfl) rfl) ?_
    refine Pstep.go (st_assign rfl rfl) ?_
    refine o_nil ?_
    refine a_ret ?_
    exact ⟨_, [], [], res_of rfl, rfl, rfl, by congr 3; unfold zz; rw [if_neg (by omega), hw, hw, hw, hi (z + 1) (by omega) (by omega), hi _ (by omega) (by omega)]; omega, rfl⟩
end Go.Proofs.Ytjbghmlofjkcfaa
