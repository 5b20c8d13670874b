/- The walk of record.table and record.Extend. -/
import Derived.Test.YtnflcmpdaoobcaaLeaf
namespace Go.Proofs.Ytnflcmpdaoobcaa
open Go.RowKit

def zeroTab : Array Value := Array.replicate 256 (.int .u32 0)
def crcTab : Array Value := ((List.range 256).map fun j => Value.int .u32 (iter crcBit 8 j : Nat)).toArray
/-- The cells of the table behind k rounds. -/
def TabTo (cs : Array Value) (k : Nat) : Prop := cs.size = 256 ∧ ∀ j, j < k → cs[j]? = some (.int .u32 (iter crcBit 8 j : Nat))
theorem tabTo_zero : TabTo zeroTab 0 := ⟨by simp [zeroTab], fun j h => by omega⟩
theorem tabTo_set {cs : Array Value} {k : Nat} (h : TabTo cs k) (hk : k < 256) : TabTo (cs.setIfInBounds k (.int .u32 (iter crcBit 8 k : Nat))) (k + 1) := by
  refine ⟨by simp [h.1], fun j hj => ?_⟩
  rw [Array.getElem?_setIfInBounds]
  by_cases e : k = j
  · subst e; simp [h.1, hk]
  · simp [e, h.2 j (by omega)]
theorem tabTo_all {cs : Array Value} (h : TabTo cs 256) : cs = crcTab := by
  apply Array.ext_getElem?
  intro j
  by_cases hj : j < 256
  · rw [h.2 j hj]; simp [crcTab, hj]
  · rw [Array.getElem?_eq_none (by rw [h.1]; omega), Array.getElem?_eq_none (by simp [crcTab]; omega)]

theorem zeroTab_size : zeroTab.size = 256 := by simp [zeroTab]
attribute [irreducible] zeroTab crcTab
set_option maxHeartbeats 400000 in
theorem table_any (w : World) :
    Calls Try.prog 29 #[] w fun e w' => e = .returned (.agg crcTab) ∧ Below w.heap.size w w' := by
  have hal : ∀ w : World, (Instr.alloc 57 true (.tuple #[])).run Try.prog w = .ok (.pointer (some ⟨w.heap.size, 0, none⟩)) (w.alloc (.cells zeroTab 57)) := fun w => by kernel_rfl
  go_enter Try.func29, Try.ntmps29
  go_wp2_with (with_reducible refine wpList_allocT hal ?_)
  clear hal
  go_loopw [2, 3, 4, 5] (fun _ _ _ i wr => ∃ (k : Nat) (cs : Array Value), (k : Int) ≤ 256 ∧ i = .int .i64 k ∧ Blk wr (w.heap.size + 1) 57 cs ∧ Blk wr w.heap.size 57 zeroTab ∧ TabTo cs k ∧ Below w.heap.size w wr) (fun _ _ _ i _ => 256 - (intOf i).toNat)
  case atStart => exact ⟨0, zeroTab, by omega, rfl, by have := Blk.new (w.alloc (.cells zeroTab 57)) 57 zeroTab; simpa using this, (Blk.new w _ _).alloc _, tabTo_zero, ((Below.refl _ _).alloc (Nat.le_refl _) _).alloc (by simp) _⟩
  case round =>
    obtain ⟨k, cs, hk, rfl, hb1, hb0, htab, hbel⟩ := hrel
    have Hb1 := Box.mk hb1; have Hb0 := Box.mk hb0; have Ht := Box.mk htab; have Hbel := Box.mk hbel
    clear hb1 hb0 htab hbel
    obtain ⟨wo, rfl⟩ : ∃ wo : World, wo = wr := ⟨_, rfl⟩
    by_cases hlt : (k : Int) < 256
    · have ht : ((k : Int) < 256) = True := eq_true hlt
      have hb : k < 4294967296 := by omega
      have Hlt := Box.mk hlt; clear hlt hk
      go_wp2
      clear ht
      go_loop [3, 4, 10] (fun x _ j => ∃ i : Nat, i ≤ 8 ∧ j = .int .i64 i ∧ x = .int .u32 (iter crcBit i k : Nat)) (fun _ _ j => 8 - (intOf j).toNat)
      case atStart => exact ⟨0, by omega, rfl, rfl⟩
      case round =>
        obtain ⟨i, hi, rfl, rfl⟩ := hrel
        have hy : iter crcBit i k < 4294967296 := iter_lt i hb
        have hs := Box.mk (iter_succ crcBit i k)
        generalize hyy : iter crcBit i k = y at *
        have Hy := Box.mk hyy; clear hyy
        by_cases hlti : i < 8
        · have h1 := and1_u32 y hy
          have h2 := poly_u32 y hy
          rcases Nat.mod_two_eq_zero_or_one y with hp | hp
          · have hp' : ((y % 2 : Nat) : Int) = 0 := by omega
            rw [hp'] at h1
            have Hp := Box.mk (crcBit_even hp); clear hp hp'
            go_wp2
            go_round
            case rel => exact ⟨i + 1, by omega, by go_num, by rw [hs.out, Hp.out]; rfl⟩
            case measure => simp [intOf]; omega
          · have hp' : ((y % 2 : Nat) : Int) = 1 := by omega
            rw [hp'] at h1
            have Hp := Box.mk (crcBit_odd hp); clear hp hp'
            go_wp2
            go_round
            case rel => exact ⟨i + 1, by omega, by go_num, by rw [hs.out, Hp.out]⟩
            case measure => simp [intOf]; omega
        · obtain rfl : i = 8 := by omega
          have hc : wo.cell? ⟨w.heap.size + 1, k, none⟩ = some (cs[k]'(by have := Hlt.out; rw [Ht.out.1]; omega)) := by
            rw [Hb1.out.cell]; exact Array.getElem?_eq_getElem _
          have hf := Hb1.out.frozen k
          generalize cs[k]'(by have := Hlt.out; rw [Ht.out.1]; omega) = uold at hc
          have ht : ((k : Int) < 256) = True := eq_true Hlt.out
          go_wp2
          go_roundw
          case rel =>
            have hkk := Hlt.out
            refine ⟨k + 1, _, by omega, by go_num, Hb1.out.set_ k _, Hb0.out.far (by simp) _, ?_, Hbel.out.setCell (by simp) _⟩
            rw [← Hy.out]; exact tabTo_set Ht.out (by omega)
          case measure => have hkk := Hlt.out; simp [intOf]; omega
    · have hcs : cs = crcTab := by
        obtain rfl : k = 256 := by omega
        exact tabTo_all Ht.out
      have hsz : cs.size = 256 := Ht.out.1
      have ht : ((k : Int) < 256) = False := eq_false hlt
      have Hcs := Box.mk hcs
      have Hsz := Box.mk hsz
      have hone : cs.all (·.oneCell') = true := by rw [hcs]; kernel_rfl
      have Hone := Box.mk hone
      clear hlt hk hcs hsz hone
      iterate 18 go_step
      refine wpList_load_row rfl _ _ rfl (w.heap.size + 1) rfl _ _ (0, 0) _ Hb1.out Try.underlying57 rfl (by rw [Hsz.out]; kernel_rfl) ?_
      go_simp
      refine wpList_store_row rfl _ _ _ rfl w.heap.size cs rfl rfl _ zeroTab Hb0.out (by rw [Hsz.out]; kernel_rfl) (by rw [Hsz.out]; simp [zeroTab_size]) Hone.out ?_
      go_simp
      go_wp2
      have Hb2 := Hb0.out.set_row cs
      exact bodyPost_ret (results_cell_row rfl _ _ w.heap.size _ cs (0, 0) _ rfl Hb2 Try.underlying57 rfl (by rw [Hsz.out]; kernel_rfl)) rfl ⟨by rw [Hcs.out], below_setRow Hbel.out (Nat.le_refl _) cs⟩

theorem not_u32 (y : Nat) (h : y < 4294967296) : bits .xor .u32 IntKind.u32.max (y : Int) = ((not32 y : Nat) : Int) := by
  unfold not32
  rw [Nat.xor_comm]
  exact u32_xor_nat 4294967295 y (by omega) h
theorem crcTab_at (j : Nat) (h : j < 256) : crcTab[j]? = some (.int .u32 (iter crcBit 8 j : Nat)) := by
  unfold crcTab
  rw [List.getElem?_toArray, List.getElem?_map, List.getElem?_range h]
  rfl
theorem crcTab_size : crcTab.size = 256 := by unfold crcTab; simp
theorem crcTab_one : crcTab.all (·.oneCell') = true := by kernel_rfl

set_option maxHeartbeats 400000 in
theorem extend_any (s : Nat) (hs : s < 4294967296) (l : List UInt8) (A : Option Addr) (c B : Nat) (w : World) (hB : B ≤ w.heap.size) (hr : Reads w B 1 A l.length (l.map bv)) (hn : l.length ≤ 140737488355328) :
    Calls Try.prog 15 #[.int .u32 s, .slice A l.length c] w fun e w' => e = .returned (.int .u32 (crcFrom s l : Nat)) ∧ Below w.heap.size w w' := by
  have HR := Box.mk hr; clear hr
  have hal : ∀ w : World, (Instr.alloc 57 true (.tuple #[])).run Try.prog w = .ok (.pointer (some ⟨w.heap.size, 0, none⟩)) (w.alloc (.cells zeroTab 57)) := fun w => by kernel_rfl
  have hx := not_u32 s hs
  go_enter Try.func15, Try.ntmps15
  go_wp2_with fail
  refine (table_any _).mono ?_
  rintro e w1 ⟨rfl, hb⟩
  have Hb := Box.mk hb; have HB := Box.mk hB; clear hb hx hB
  have hy0 := not32_lt hs
  generalize hyy : not32 s = y0 at *
  have Hy0 := Box.mk hyy; clear hyy
  have Hnew := Box.mk (Blk.new w1 57 zeroTab)
  go_wp2_with (first | (with_reducible refine wpList_allocT hal ?_) | ((with_reducible refine wpList_storeRowT (g := w1.heap.size) (cs := crcTab) ?_ ?_ Hnew.out ?_ ?_ ?_ ?_); rfl; rfl; (rw [crcTab_size]; kernel_rfl); (rw [crcTab_size, zeroTab_size]); exact crcTab_one))
  have Hb2 := Box.mk (Hb.out.trans (below_setRow ((Below.refl w.heap.size w1).alloc Hb.out.size (.cells zeroTab 57)) (g := w1.heap.size) Hb.out.size crcTab))
  have Ht := Box.mk (Hnew.out.set_row crcTab)
  have HR2 := Box.mk ((HR.out.more HB.out).below Hb2.out)
  clear Hnew hal
  generalize (w1.alloc (.cells zeroTab 57)).setRow w1.heap.size crcTab = w2 at *
  generalize w1.heap.size = g at *
  clear Hb HR w1
  go_loop [5, 8, 14] (fun x _ i => ∃ k : Nat, k ≤ l.length ∧ i = .int .i64 k ∧ x = .int .u32 (crcReg y0 (l.take k) : Nat)) (fun _ _ i => l.length - (intOf i).toNat)
  case atStart => exact ⟨0, by omega, rfl, rfl⟩
  case round =>
    obtain ⟨k, hk, rfl, rfl⟩ := hrel
    have hy : crcReg y0 (l.take k) < 4294967296 := crcReg_lt _ hy0
    by_cases hlt : k < l.length
    · have hs' := crcReg_snoc y0 (l.take k) l[k]
      rw [← take_snoc l k hlt, ← table_step] at hs'
      have Hs := Box.mk hs'; clear hs'
      generalize crcReg y0 (l.take k) = y at *
      obtain ⟨b, off, rfl, _, hc⟩ := HR2.out.byte hlt
      have hc' := byte_lt l[k]
      generalize l[k].toNat = z at *
      have hj : y % 256 ^^^ z < 256 := Nat.xor_lt_two_pow (n := 8) (by omega) (by omega)
      have h8 : bits .xor .u8 ((y : Int) % 256) (z : Int) = ((y % 256 ^^^ z : Nat) : Int) := u8_xor_nat (y % 256) z (by omega) (by omega)
      generalize hjj : y % 256 ^^^ z = j at *
      have Hj := Box.mk hjj; clear hjj
      have hcell : w2.cell? ⟨g, j, none⟩ = some (.int .u32 (iter crcBit 8 j : Nat)) := by rw [Ht.out.cell, crcTab_at j hj]
      have hit : iter crcBit 8 j < 4294967296 := iter_lt 8 (by omega)
      generalize iter crcBit 8 j = r at *
      have h32 : bits .xor .u32 ((y : Int) / 256) (r : Int) = ((y / 256 ^^^ r : Nat) : Int) := u32_xor_nat (y / 256) r (by omega) hit
      have hjt : ((j : Int) < 256) = True := eq_true (by omega)
      have Hjt := Box.mk hj; clear hj
      go_wp2
      go_round
      case rel => exact ⟨k + 1, by omega, by go_num, by rw [Hs.out]⟩
      case measure => simp [intOf]; omega
    · obtain rfl : k = l.length := by omega
      have Hy : Box (crcFrom s l = not32 (crcReg y0 (l.take l.length))) := ⟨by rw [List.take_length, ← Hy0.out]; rfl⟩
      generalize crcReg y0 (l.take l.length) = y at *
      have h0 := not_u32 y hy
      go_wp2
      go_ret
      exact ⟨ret_int (by rw [Hy.out]), Hb2.out⟩

end Go.Proofs.Ytnflcmpdaoobcaa
