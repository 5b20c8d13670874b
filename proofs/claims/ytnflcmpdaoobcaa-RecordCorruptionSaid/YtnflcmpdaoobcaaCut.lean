/- The walk of the laws' own cut. -/
import Derived.Test.YtnflcmpdaoobcaaLaw1
import Derived.StillTailTactics
namespace Go.Proofs.Ytnflcmpdaoobcaa
open Go.RowKit

def cutL (ls : List (List UInt8)) : List (List UInt8) := (ls.take 20).map (·.take 200)

def CutPost (w : World) (ls : List (List UInt8)) (e : Ending) (w' : World) : Prop :=
  ∃ v us, e = .returned v ∧ Own1 w' w.heap.size 22 v us ∧ Rows w' (· < w.heap.size) bv us (cutL ls) ∧ Below w.heap.size w w'

set_option maxHeartbeats 2000000 in
theorem cut_any (ls : List (List UInt8)) (vs : List Value) (A : Option Addr) (c : Nat) (w : World) (hr : Reads w w.heap.size 1 A ls.length vs) (hs : Rows w (· < w.heap.size) bv vs ls) (hm : ∀ l ∈ ls, l.length ≤ 9223372036854775807) (hn : ls.length ≤ 9223372036854775807) :
    Calls Try.prog 16 #[.slice A ls.length c] w (CutPost w ls) := by
  have HR := Box.mk hr; have HS := Box.mk hs; have HM := Box.mk hm
  clear hr hs hm
  go_enter Try.func16, Try.ntmps16
  go_wp2
  go_loopw [3, 4] (fun v i wr => ∃ (k : Nat) (us : List Value), i = .int .i64 k ∧ k ≤ ls.length ∧ k ≤ 20 ∧ Own1 wr w.heap.size 22 v us ∧ Rows wr (· < w.heap.size) bv us ((ls.take k).map (·.take 200)) ∧ Below w.heap.size w wr) (fun _ i _ => 20 - (intOf i).toNat)
  case atStart => exact ⟨0, [], rfl, Nat.zero_le _, by omega, Own1.nil _ _ _, by simpa using Rows.nil, Below.refl _ _⟩
  case round =>
    obtain ⟨k, us, rfl, hk, hk20, hown, hrows, hbel⟩ := hrel
    have Hown := Box.mk hown; have Hrows := Box.mk hrows; have Hbel := Box.mk hbel; have Hk := Box.mk (And.intro hk hk20)
    clear hown hrows hbel
    obtain ⟨wo, rfl⟩ : ∃ wo : World, wo = wr := ⟨_, rfl⟩
    by_cases hlt : k < ls.length
    · by_cases h20 : k < 20
      · obtain ⟨b, off, Ak, ck, rfl, hcell, hck, hrk⟩ := rows_at (HR.out.below Hbel.out) (HS.out.below Hbel.out) hlt
        have hmk := HM.out ls[k] (List.getElem_mem hlt)
        have Htk := Box.mk (List.take_succ_eq_append_getElem hlt)
        obtain ⟨lk, hlk⟩ := gen ls[k]
        rw [← hlk] at hcell hck hrk hmk Htk
        clear hlk
        have HRk := Box.mk (min_reads 200 hrk); clear hrk
        have hi : (if (200 : Int) < (lk.length : Int) then (200 : Int) else (lk.length : Int)) = ((lk.take 200).length : Int) := min_cut lk 200
        have hb : (lk.take 200).length ≤ lk.length := by rw [List.length_take]; omega
        obtain ⟨la, hla⟩ := gen (lk.take 200)
        rw [← hla] at HRk hi hb
        have Hla := Box.mk hla; clear hla
        have ht : ((k : Int) < 20) = True := eq_true (by omega)
        have H20 := Box.mk h20
        clear h20 hk20
        go_wp2_with fail
        have hlck : la.length ≤ ck := by omega
        have Hown1 := Box.mk (fun o : Obj => (Hown.out.drewN 1).alloc o)
        have hrl : Row wo (· < w.heap.size) (.slice Ak la.length ck) (la.map bv) := Row.of_reads HRk.out (by omega) (fun _ h => h)
        have Hrl := Box.mk hrl; clear hrl
        have hlen : us.length = k := by have := Hrows.out.1; rw [this]; simp; omega
        have Hlen := Box.mk hlen; clear hlen
        have Hrn := Box.mk (Hrows.out.snoc Hrl.out)
        go_region_law (refine step_app1 (.tmp 15) (.tmp 27) rowsTy rfl rfl rfl (Hown1.out _) rfl ((Own1.new wo.drew 22 #[_] (by simp [maxLen])).reads (Nat.le_refl _)).1 (by simp [Value.oneCell']) (by have := Hlen.out; have := H20.out; simp; omega) (by have := Hbel.out.size; simp; omega) ?_; intro v' w' hown' hg' hloc' hb')
        all_goals
          have Hown' : Box (Own1 w' w.heap.size 22 v' (us ++ [.slice Ak la.length ck])) := ⟨hown'⟩
          have Hb' : Box (Below w.heap.size w w') := ⟨hb' w.heap.size w (Nat.le_refl _) (Hbel.out.drew.alloc (by have := Hbel.out.size; simp; omega) _)⟩
          have Hbo : Box (Below w.heap.size wo w') := ⟨hb' w.heap.size wo (Nat.le_refl _) ((Below.refl _ wo).drew.alloc (by have := Hbel.out.size; simp; omega) _)⟩
          clear hown' hg' hloc' hb'
          go_wp2
          go_roundw
          case rel => exact ⟨k + 1, _, by go_num, by omega, H20.out, Hown'.out, by rw [Htk.out, List.map_append, List.map_singleton, ← Hla.out]; exact Hrn.out.below Hbo.out, Hb'.out⟩
          case measure => have := H20.out; simp [intOf]; omega
      · have hq : ((k : Int) < 20) = False := eq_false (by omega)
        have hl : ((k : Int) < ls.length) = True := eq_true (by omega)
        have hcut : (ls.take k).map (·.take 200) = cutL ls := by rw [show k = 20 by omega]; rfl
        have Hcut := Box.mk hcut; clear hcut h20 hk20 hlt hk Hk
        go_wp2
        go_ret
        exact ⟨_, us, rfl, Hown.out, by rw [← Hcut.out]; exact Hrows.out, Hbel.out⟩
    · have hq : ((k : Int) < ls.length) = False := eq_false (by omega)
      have hcut : (ls.take k).map (·.take 200) = cutL ls := by
        unfold cutL
        rw [List.take_of_length_le (show ls.length ≤ k by omega), List.take_of_length_le (show ls.length ≤ 20 by omega)]
      have Hcut := Box.mk hcut; clear hcut
      go_wp2
      go_ret
      exact ⟨_, us, rfl, Hown.out, by rw [← Hcut.out]; exact Hrows.out, Hbel.out⟩

end Go.Proofs.Ytnflcmpdaoobcaa
