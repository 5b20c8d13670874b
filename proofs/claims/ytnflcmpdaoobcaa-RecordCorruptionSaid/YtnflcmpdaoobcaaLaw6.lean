/- The walk of RecordTruncation. -/
import Derived.Test.YtnflcmpdaoobcaaLaw3
import Derived.Test.YtnflcmpdaoobcaaScanLaw
namespace Go.Proofs.Ytnflcmpdaoobcaa
open Go.RowKit

theorem scan_num (l : List UInt8) (n : Nat) (hln : l.length = n) (A : Option Addr) (c B : Nat) (w : World) (hB : B ≤ w.heap.size) (hr : Reads w B 1 A n (l.map bv)) (hn : n ≤ 1000000000) (hc : n ≤ c) :
    Calls Try.prog 24 #[.slice A n c] w (ScanPost w l) := by
  subst hln
  exact scan_any l A c B w hB hr hn hc
theorem sames_num (x : Bool) (la lb : List (List UInt8)) (n m : Nat) (hla : la.length = n) (hlb : lb.length = m) (hx : decide (la = lb) = x) (va vb : List Value) (A A' : Option Addr) (c c' B : Nat) (w : World) (hra : Reads w B 1 A n va) (hsa : Rows w (· < B) bv va la)
    (hrb : Reads w B 1 A' m vb) (hsb : Rows w (· < B) bv vb lb) (hn : n ≤ 1000000000) (hn' : m ≤ 1000000000) :
    Calls Try.prog 25 #[.slice A n c, .slice A' m c'] w fun e w' => e = .returned (.bool x) ∧ ∃ n, w' = w.drewN n := by
  subst hla hlb hx
  exact sames_any la lb va vb A A' c c' B w hra hsa hrb hsb hn hn'
theorem Rows.take_ {α : Type} {w : World} {S : Nat → Prop} {f : α → Value} {vs : List Value} {ls : List (List α)} (h : Rows w S f vs ls) (k : Nat) : Rows w S f (vs.take k) (ls.take k) := by
  refine ⟨by rw [List.length_take, List.length_take, h.1], fun i v l hv hl => ?_⟩
  rw [List.getElem?_take] at hv hl
  split at hv
  · rename_i hi; rw [if_pos hi] at hl; exact h.2 i v l hv hl
  · cases hv

set_option maxHeartbeats 2000000 in
theorem law6_any (ls : List (List UInt8)) (vs : List Value) (A : Option Addr) (c : Nat) (z : Nat) (hz : z < 65536) (w : World) (hr : Reads w w.heap.size 1 A ls.length vs) (hs : Rows w (· < w.heap.size) bv vs ls) (hm : ∀ l ∈ ls, l.length ≤ 9223372036854775807) (hn : ls.length ≤ 9223372036854775807) :
    Calls Try.prog 8 #[.slice A ls.length c, .int .u16 z] w fun e w' => e = .returned (.bool true) ∧ Below w.heap.size w w' := by
  go_enter Try.func8, Try.ntmps8
  go_wp2_with fail
  refine (cut_any ls vs A c w hr hs hm hn).mono ?_
  rintro e w1 hpost
  obtain ⟨A1, c1, us, rfl, hc1, hr1, hs1, hb1⟩ := cut_then hpost
  clear hpost hr hs hm hn
  have hlen := cutL_length ls
  have hle := cutL_le ls
  obtain ⟨la, hla⟩ := gen (cutL ls)
  rw [← hla] at hlen hle hc1 hr1 hs1 ⊢
  clear hla
  have HR := Box.mk hr1; have HS := Box.mk hs1; have Hb1 := Box.mk hb1; have Hle := Box.mk hle; have Hlen := Box.mk hlen; have Hc1 := Box.mk hc1
  have hlen2 : la.length ≤ 1000000000 := by omega
  clear hr1 hs1 hb1 hle hlen hc1
  go_wp2_with fail
  refine (encodeAll_any la us A1 c1 w1.heap.size w1 (Nat.le_refl _) HR.out HS.out (fun l hl => by have := Hle.out l hl; omega) (by have := Hlen.out; omega)).mono ?_
  rintro e w2 ⟨v2, rfl, hown, hb⟩
  have hall : ∀ l ∈ la, l.length ≤ 1048576 := fun l hl => by have := Hle.out l hl; omega
  rw [if_pos hall] at hown ⊢
  have Hall := Box.mk hall
  have Hb2 := Box.mk hb
  have hbig := encAll_length la 200 Hle.out
  have hbig2 : la.length * (8 + 200) ≤ 20 * (8 + 200) := Nat.mul_le_mul_right _ Hlen.out
  have Hbig : Box ((encAll la).length ≤ 4160) := ⟨by omega⟩
  obtain ⟨A2, c2, e2, hc2, hr2⟩ := hown.form (n := (encAll la).length) (List.length_map _)
  subst e2
  have Hr2 := Box.mk hr2; have Hc2 := Box.mk hc2
  clear hown hb hall hbig hbig2 hr2 hc2
  have hL : (encAll la).length ≤ 1000000000 := by have := Hbig.out; omega
  obtain ⟨L, hLL⟩ := gen (encAll la).length
  rw [← hLL] at hL Hr2 Hc2 Hbig ⊢
  have HLL := Box.mk hLL; clear hLL
  have hn1 : z % (L + 1) < L + 1 := Nat.mod_lt _ (by omega)
  have hrem : ((z : Int)) % ((L : Int) + 1) = ((z % (L + 1) : Nat) : Int) := by norm_cast
  obtain ⟨n, hnz⟩ := gen (z % (L + 1))
  rw [← hnz] at hn1 hrem
  clear hnz
  go_wp2_with fail
  rw [hrem]
  clear hrem
  go_loop [8, 9] (fun i t => ∃ k size : Nat, i = .int .i64 k ∧ t = .int .i64 size ∧ wholeAt la n k size) (fun i _ => la.length - (intOf i).toNat)
  case atStart => exact ⟨0, 0, rfl, rfl, whole_zero la n⟩
  case round =>
    obtain ⟨k, size, rfl, rfl, hwh⟩ := hrel
    have hk := hwh.1
    have hsn := hwh.2.2
    have Hwh := Box.mk hwh; clear hwh
    have hmore : (∃ hk : k < la.length, size + 8 + la[k].length ≤ n) ∨ (∀ hk : k < la.length, n < size + 8 + la[k].length) := by
      by_cases hk : k < la.length
      · by_cases hq : size + 8 + la[k].length ≤ n
        · exact .inl ⟨hk, hq⟩
        · exact .inr fun _ => by omega
      · exact .inr fun h => absurd h hk
    rcases hmore with ⟨hlt, hq⟩ | hstop
    · obtain ⟨b, off, Ak, ck, rfl, hcell, hck, hrk⟩ := rows_at (HR.out.below Hb2.out) (HS.out.below Hb2.out) hlt
      have Hst := Box.mk (whole_step Hwh.out hlt hq)
      have hmk := Hle.out la[k] (List.getElem_mem hlt)
      obtain ⟨m, hmm⟩ := gen la[k].length
      rw [← hmm] at hcell hq Hst hmk
      clear hmm hrk hck
      go_wp2
      go_round
      case rel => exact ⟨k + 1, size + (8 + m), by go_num, by go_num, Hst.out⟩
      case measure => simp [intOf]; omega
    · have Hsc := Box.mk (scan_trunc Hwh.out Hall.out (by have := HLL.out; omega) hstop)
      have hsh : Box ((la.take k).length = k) := ⟨by rw [List.length_take]; omega⟩
      have htl : Box (((encAll la).take n).length = n) := ⟨by rw [List.length_take]; have := HLL.out; omega⟩
      have hnc : n ≤ c2 := by have := Hc2.out; omega
      have hn9 : n ≤ 1000000000 := by omega
      have Hrt : Box (Reads w2 w2.heap.size 1 A2 n (((encAll la).take n).map bv)) := ⟨by
        have h := Hr2.out.take_ (k := n) (by omega)
        rwa [Nat.mul_one, ← List.map_take] at h⟩
      have hkc : k ≤ c1 := by have := Hc1.out; omega
      have Hk := Box.mk hk
      have hfin : (∃ hlt : k < la.length, ∃ b off Ak ck, A1 = some ⟨b, off, none⟩ ∧ w2.cell? ⟨b, off + k, none⟩ = some (.slice Ak la[k].length ck) ∧ n < size + 8 + la[k].length ∧ la[k].length ≤ 200) ∨ (k = la.length) := by
        by_cases hlt : k < la.length
        · obtain ⟨b, off, Ak, ck, e1, hcell, _, _⟩ := rows_at (HR.out.below Hb2.out) (HS.out.below Hb2.out) hlt
          exact .inl ⟨hlt, b, off, Ak, ck, e1, hcell, hstop hlt, Hle.out _ (List.getElem_mem hlt)⟩
        · exact .inr (by omega)
      clear hstop
      rcases hfin with ⟨hlt, b, off, Ak, ck, rfl, hcell, hq, hm2⟩ | hend
      obtain ⟨m, hmm⟩ := gen la[k].length
      rw [← hmm] at hcell hq hm2
      clear hmm
      rotate_left
      have hlt : ((k : Int) < la.length) = False := eq_false (by omega)
      clear hend
      rotate_left
      all_goals
        go_wp2_with fail
        refine (scan_num ((encAll la).take n) n htl.out A2 c2 w2.heap.size w2 (Nat.le_refl _) Hrt.out hn9 hnc).mono ?_
        rintro e w3 ⟨v3, us3, rfl, hown, hrows, hb⟩
        rw [Hsc.out] at hrows ⊢
        have Hown3 := Box.mk hown
        have Hrows3 := Box.mk (hrows.mono (S' := (· < w3.heap.size)) fun b h => h.1)
        have Hb3 := Box.mk (Hb2.out.trans (hb.mono Hb2.out.size))
        clear hown hrows hb
        obtain ⟨A3, c3, e3, _, hr3⟩ := Hown3.out.form (n := k) (by rw [Hrows3.out.1]; exact hsh.out)
        subst e3
        have Hr3 := Box.mk hr3; clear hr3
        have HRk : Box (Reads w3 w1.heap.size 1 _ k (us.take k)) := ⟨by
          have h := (HR.out.below Hb3.out).take_ (k := k) Hk.out
          rwa [Nat.mul_one] at h⟩
        have HSk := Box.mk ((HS.out.below Hb3.out).take_ k)
        by_cases hns : n = size
        · have hq1 : (if n = size then 0 else 19) = 0 := if_pos hns
          rw [hq1]
          have hqe : ((n : Int) == size) = true := by rw [hns]; simp
          clear hns hq1
          go_wp2_with fail
          refine (known_any _).mono ?_
          rintro e w4 ⟨rfl, hb⟩
          have Hb4 := Box.mk (Hb3.out.trans (hb.mono Hb3.out.size))
          have Hr4 := Box.mk ((Hr3.out.below hb).more hb.size)
          have Hrows4 := Box.mk ((Hrows3.out.below hb).mono (S' := (· < w4.heap.size)) fun b h => Nat.lt_of_lt_of_le h hb.size)
          have HRk4 := Box.mk ((HRk.out.below (hb.mono Hb3.out.size)).more Hb4.out.size)
          have HSk4 := Box.mk ((HSk.out.below (hb.mono Hb3.out.size)).mono (S' := (· < w4.heap.size)) fun b h => Nat.lt_of_lt_of_le h Hb4.out.size)
          clear hb
          go_wp2_with fail
          refine (sames_num true (la.take k) (la.take k) k k hsh.out hsh.out (by simp) us3 (us.take k) A3 _ c3 c1 w4.heap.size w4 Hr4.out Hrows4.out HRk4.out HSk4.out (by have := Hk.out; omega) (by have := Hk.out; omega)).mono ?_
          rintro e w5 ⟨rfl, nd, rfl⟩
          go_wp2
          go_ret
          exact ⟨by simp, below_drewN (Hb1.out.trans (Hb4.out.mono Hb1.out.size)) nd⟩
        · have hq1 : (if n = size then 0 else 19) = 19 := if_neg hns
          rw [hq1]
          have hqe : ((n : Int) == size) = false := by simp; omega
          clear hns hq1
          go_wp2_with fail
          refine (known_any _).mono ?_
          rintro e w4 ⟨rfl, hb⟩
          have Hb4 := Box.mk (Hb3.out.trans (hb.mono Hb3.out.size))
          have Hr4 := Box.mk ((Hr3.out.below hb).more hb.size)
          have Hrows4 := Box.mk ((Hrows3.out.below hb).mono (S' := (· < w4.heap.size)) fun b h => Nat.lt_of_lt_of_le h hb.size)
          have HRk4 := Box.mk ((HRk.out.below (hb.mono Hb3.out.size)).more Hb4.out.size)
          have HSk4 := Box.mk ((HSk.out.below (hb.mono Hb3.out.size)).mono (S' := (· < w4.heap.size)) fun b h => Nat.lt_of_lt_of_le h Hb4.out.size)
          clear hb
          go_wp2_with fail
          refine (sames_num true (la.take k) (la.take k) k k hsh.out hsh.out (by simp) us3 (us.take k) A3 _ c3 c1 w4.heap.size w4 Hr4.out Hrows4.out HRk4.out HSk4.out (by have := Hk.out; omega) (by have := Hk.out; omega)).mono ?_
          rintro e w5 ⟨rfl, nd, rfl⟩
          go_wp2
          go_ret
          exact ⟨by simp, below_drewN (Hb1.out.trans (Hb4.out.mono Hb1.out.size)) nd⟩

theorem u16_nat (z : Int) (h : (Lit.int .u16 z).wf = true) : ∃ n : Nat, n < 65536 ∧ z = n := by
  have h1 : IntKind.u16.min = 0 := rfl
  have h2 : IntKind.u16.max = 65535 := rfl
  simp only [Lit.wf, Bool.and_eq_true, decide_eq_true_eq, h1, h2] at h
  exact ⟨z.toNat, by omega, by omega⟩
theorem u8_nat (z : Int) (h : (Lit.int .u8 z).wf = true) : ∃ n : Nat, n < 256 ∧ z = n := by
  have h1 : IntKind.u8.min = 0 := rfl
  have h2 : IntKind.u8.max = 255 := rfl
  simp only [Lit.wf, Bool.and_eq_true, decide_eq_true_eq, h1, h2] at h
  exact ⟨z.toNat, by omega, by omega⟩
theorem trunc_at (ls : List (List UInt8)) (vs : List Value) (A : Option Addr) (c : Nat) (z : Int) (hz : (Lit.int .u16 z).wf = true) (w : World) (hr : Reads w w.heap.size 1 A ls.length vs) (hs : Rows w (· < w.heap.size) bv vs ls) (hm : ∀ l ∈ ls, l.length ≤ 9223372036854775807) (hn : ls.length ≤ 9223372036854775807) :
    Calls Try.prog 8 #[.slice A ls.length c, .int .u16 z] w fun e w' => e = .returned (.bool true) ∧ Below w.heap.size w w' := by
  obtain ⟨n, hn', rfl⟩ := u16_nat z hz
  exact law6_any ls vs A c n hn' w hr hs hm hn

end Go.Proofs.Ytnflcmpdaoobcaa
