/- The walks of record.Next and the reference's Next. -/
import Derived.Test.YtnflcmpdaoobcaaEnc
import Derived.Deep.RegionWith
import Derived.Deep.RegionLaw
namespace Go.Proofs.Ytnflcmpdaoobcaa
open Go.RowKit

/-- The number in the first four bytes. -/
def numL (l : List UInt8) : Nat := num4 (l[0]?.getD 0).toNat (l[1]?.getD 0).toNat (l[2]?.getD 0).toNat (l[3]?.getD 0).toNat
theorem numL_of (l : List UInt8) (h : 4 ≤ l.length) : num4 l[0].toNat l[1].toNat l[2].toNat l[3].toNat = numL l := by
  unfold numL
  rw [List.getElem?_eq_getElem, List.getElem?_eq_getElem, List.getElem?_eq_getElem, List.getElem?_eq_getElem]
  rfl
theorem num4_lt {a b c d : Nat} (ha : a < 256) (hb : b < 256) (hc : c < 256) (hd : d < 256) : num4 a b c d < 4294967296 := by unfold num4; omega
theorem numL_lt (l : List UInt8) : numL l < 4294967296 := num4_lt (byte_lt _) (byte_lt _) (byte_lt _) (byte_lt _)

theorem refread_num (l : List UInt8) (n : Nat) (hln : l.length = n) (A : Option Addr) (c B : Nat) (w : World) (hr : Reads w B 1 A n (l.map bv)) (hn : n ≤ 140737488355328) (h4 : 4 ≤ n) :
    Calls Try.prog 34 #[.slice A n c] w fun e w' => e = .returned (.int .u32 (numL l : Nat)) ∧ ∃ n, w' = w.drewN n := by
  subst hln
  have h := refread_any l A c B w hr hn h4
  rwa [numL_of l h4] at h
theorem number_num (l : List UInt8) (n : Nat) (hln : l.length = n) (A : Option Addr) (c B : Nat) (w : World) (hr : Reads w B 1 A n (l.map bv)) (hn : n ≤ 140737488355328) (h4 : 4 ≤ n) :
    Calls Try.prog 32 #[.slice A n c] w fun e w' => e = .returned (.int .u32 (numL l : Nat)) ∧ ∃ n, w' = w.drewN n := by
  subst hln
  have h := number_any l A c B w hr hn h4
  rwa [numL_of l h4] at h

theorem number_numx (l : List UInt8) (n x : Nat) (hln : l.length = n) (hx : numL l = x) (A : Option Addr) (c B : Nat) (w : World) (hr : Reads w B 1 A n (l.map bv)) (hn : n ≤ 140737488355328) (h4 : 4 ≤ n) :
    Calls Try.prog 32 #[.slice A n c] w fun e w' => e = .returned (.int .u32 (x : Nat)) ∧ ∃ n, w' = w.drewN n := by
  subst hx
  exact number_num l n hln A c B w hr hn h4
theorem checksum_num (l : List UInt8) (n x : Nat) (hln : l.length = n) (hx : crc l = x) (A : Option Addr) (c B : Nat) (w : World) (hB : B ≤ w.heap.size) (hr : Reads w B 1 A n (l.map bv)) (hn : n ≤ 140737488355328) :
    Calls Try.prog 13 #[.slice A n c] w fun e w' => e = .returned (.int .u32 (x : Nat)) ∧ Below w.heap.size w w' := by
  subst hln hx
  exact checksum_any l A c B w hB hr hn
theorem extend_num (s : Nat) (hs : s < 4294967296) (l : List UInt8) (n x : Nat) (hln : l.length = n) (hx : crcFrom s l = x) (A : Option Addr) (c B : Nat) (w : World) (hB : B ≤ w.heap.size) (hr : Reads w B 1 A n (l.map bv)) (hn : n ≤ 140737488355328) :
    Calls Try.prog 15 #[.int .u32 s, .slice A n c] w fun e w' => e = .returned (.int .u32 (x : Nat)) ∧ Below w.heap.size w w' := by
  subst hln hx
  exact extend_any s hs l A c B w hB hr hn

theorem clone_num (l : List UInt8) (n : Nat) (hln : l.length = n) (A : Option Addr) (c B : Nat) (w : World) (hB : B ≤ w.heap.size) (hr : Reads w B 1 A n (l.map bv)) (hn : n ≤ 140737488355328) :
    Calls Try.prog 33 #[.slice A n c] w fun e w' => ∃ v, e = .returned v ∧ Own1 w' w.heap.size 5 v (l.map bv) ∧ Below w.heap.size w w' := by
  subst hln
  exact clone_any l A c B w hB hr hn

/-- What Next answers: the payload, the record's size, the error. -/
def nextL (b : List UInt8) : List UInt8 × Nat × Nat :=
  if b.length < 8 then ([], 0, 19)
  else if 1048576 < numL b then ([], 0, 2)
  else if b.length < 8 + numL b then ([], 0, 19)
  else if crc (b.take 4 ++ (b.drop 8).take (numL b)) = numL (b.drop 4) then ((b.drop 8).take (numL b), 8 + numL b, 0)
  else ([], 0, 18)

def NextPost (w : World) (b : List UInt8) (e : Ending) (w' : World) : Prop :=
  ∃ v, e = .returned (.tuple #[v, .int .i64 (nextL b).2.1, .int .i64 (nextL b).2.2]) ∧ Own1 w' w.heap.size 5 v ((nextL b).1.map bv) ∧ Below w.heap.size w w'

set_option maxHeartbeats 1000000 in
theorem next_any (l : List UInt8) (A : Option Addr) (c B : Nat) (w : World) (hB : B ≤ w.heap.size) (hr : Reads w B 1 A l.length (l.map bv)) (hn : l.length ≤ 140737488355328) (hc : l.length ≤ c) :
    Calls Try.prog 22 #[.slice A l.length c] w (NextPost w l) := by
  have HR := Box.mk hr; clear hr
  have HB := Box.mk hB; clear hB
  have Hn := Box.mk hn
  by_cases h8 : l.length < 8
  · have hN : nextL l = ([], 0, 19) := by unfold nextL; rw [if_pos h8]
    have HN := Box.mk hN; clear hN
    have ht : ((l.length : Int) < 8) = True := eq_true (by omega)
    clear h8 hn hc Hn
    go_enter Try.func22, Try.ntmps22
    go_wp2
    go_ret3
    exact ⟨_, by rw [HN.out]; rfl, by rw [HN.out]; exact Own1.nil _ _ _, Below.refl _ _⟩
  · have hlt := numL_lt l
    have hdef : nextL l = if 1048576 < numL l then ([], 0, 2)
      else if l.length < 8 + numL l then ([], 0, 19)
      else if crc (l.take 4 ++ (l.drop 8).take (numL l)) = numL (l.drop 4) then ((l.drop 8).take (numL l), 8 + numL l, 0)
      else ([], 0, 18) := by unfold nextL; rw [if_neg h8]
    have Hd := Box.mk hdef; clear hdef
    have ht : ((l.length : Int) < 8) = False := eq_false (by omega)
    go_enter Try.func22, Try.ntmps22
    go_wp2_with fail
    refine (number_num l l.length rfl A c B _ HR.out Hn.out (by omega)).mono ?_
    rintro e w1 ⟨rfl, nd, rfl⟩
    generalize numL l = n at *
    by_cases h20 : 1048576 < n
    · have hN : nextL l = ([], 0, 2) := by rw [Hd.out, if_pos h20]
      have HN := Box.mk hN; clear hN
      have ht2 : ((1048576 : Int) < n) = True := eq_true (by omega)
      clear h20
      go_wp2
      go_ret3
      exact ⟨_, by rw [HN.out]; rfl, by rw [HN.out]; exact Own1.nil _ _ _, below_drewN (Below.refl _ _) _⟩
    · have Hd2 := Box.mk (Hd.out.trans (if_neg h20)); clear Hd
      have ht2 : ((1048576 : Int) < n) = False := eq_false (by omega)
      have h20' : n ≤ 1048576 := by omega
      by_cases hsh : l.length < 8 + n
      · have hN : nextL l = ([], 0, 19) := by rw [Hd2.out, if_pos hsh]
        have HN := Box.mk hN; clear hN
        go_wp2
        go_ret3
        exact ⟨_, by rw [HN.out]; rfl, by rw [HN.out]; exact Own1.nil _ _ _, below_drewN (Below.refl _ _) _⟩
      · have Hd3 := Box.mk (Hd2.out.trans (if_neg hsh)); clear Hd2
        have hc4 : (c = 4) = False := eq_false (by omega)
        have h4 : (4 : Int) ≤ l.length := by omega
        go_wp2_with (with_reducible refine stop_slice ?_)
        refine ⟨wpList_cut bytesTy (l := 8) (h := 8 + n) rfl rfl rfl (by omega) (by omega) hc HR.out ?_⟩
        intro A' hr'
        rw [Nat.add_sub_cancel_left]
        have HR' : Box (Reads (w.drewN nd) B 1 A' n (((l.drop 8).take n).map bv)) := ⟨by
          have h := hr'
          simpa using h⟩
        have HR0 := Box.mk (HR.out.drewN nd)
        have HB0 : Box (B ≤ (w.drewN nd).heap.size) := ⟨HB.out⟩
        have Hb0 := Box.mk (below_drewN (Below.refl w.heap.size w) nd)
        have Hs0 : Box ((w.drewN nd).heap.size = w.heap.size) := ⟨rfl⟩
        clear hr' HR HB
        generalize w.drewN nd = w1 at *
        have hT4 : Box (Reads w1 B 1 A 4 ((l.take 4).map bv)) := ⟨by have h := HR0.out.take_ (k := 4) (by omega); simpa using h⟩
        have hm : A.map (fun x => (⟨x.block, x.off + 4, none⟩ : Addr)) = A.map (·.add 4) := by cases A <;> rfl
        have hD4 : ∀ w', Below w1.heap.size w1 w' → Reads w' B 1 (A.map (fun x => (⟨x.block, x.off + 4, none⟩ : Addr))) (l.length - 4) ((l.drop 4).map bv) := fun w' hb => by
          have h := (HR0.out.below (hb.mono HB0.out)).cut (k := 4) (cap := c) (by omega) hc
          rw [if_neg (by omega)] at h
          rw [hm]
          simpa using h
        clear hm
        have HD4 := Box.mk hD4; clear hD4
        have hl4 : (l.take 4).length = 4 := by rw [List.length_take]; omega
        have hln : ((l.drop 8).take n).length = n := by rw [List.length_take, List.length_drop]; omega
        have HL := Box.mk (And.intro hl4 hln); clear hl4 hln
        go_wp2_with fail
        have hcr := crc_lt (l.take 4)
        have hcr2 := crcFrom_lt ((l.drop 8).take n) hcr
        have hnl := numL_lt (l.drop 4)
        have Hcf := Box.mk (crcFrom_crc (l.take 4) ((l.drop 8).take n))
        have hl4' : (l.drop 4).length = l.length - 4 := by rw [List.length_drop]
        have HL4' := Box.mk hl4'; clear hl4'
        generalize hx1 : crc (l.take 4) = x1 at *
        have Hx1 := Box.mk hx1; clear hx1
        generalize hx2 : crcFrom x1 ((l.drop 8).take n) = x2 at *
        have Hx2 := Box.mk hx2; clear hx2
        generalize hx3 : numL (l.drop 4) = x3 at *
        have Hx3 := Box.mk hx3; clear hx3
        have HS := Box.mk (show (4:Nat) ≤ l.length - 4 ∧ l.length - 4 ≤ 140737488355328 from by omega)
        have HN20 := Box.mk (show n ≤ 140737488355328 from by omega)
        have h4c : (4 : Int) ≤ c := by omega
        clear Hn hn hc h20 h20' hsh h8
        go_region_with (first
          | (go_at_call 13; refine (checksum_num (l.take 4) 4 x1 HL.out.1 Hx1.out A c B w1.drew HB0.out hT4.out.drew (by omega)).mono ?_; rintro e w2 ⟨rfl, hb2⟩; have Hb2 := Box.mk hb2; clear hb2)
          | (go_at_call 15; refine (extend_num x1 hcr ((l.drop 8).take n) n x2 HL.out.2 Hx2.out A' (c - 8) B w2 (Nat.le_trans HB0.out Hb2.out.size) (HR'.out.drew.below (Hb2.out.mono HB0.out)) HN20.out).mono ?_; rintro e w3 ⟨rfl, hb3⟩; have Hb3 := Box.mk hb3; clear hb3)
          | (go_at_call 32; refine (number_numx (l.drop 4) (l.length - 4) x3 HL4'.out Hx3.out _ (c - 4) B w3 (HD4.out w3 (((Below.refl _ w1).drew).trans (Hb2.out.trans (Hb3.out.mono Hb2.out.size)))) HS.out.2 HS.out.1).mono ?_; rintro e w4 ⟨rfl, nd4, rfl⟩))
        have Hb4 := Box.mk (Hb0.out.trans (((Below.refl w.heap.size w1).drew).trans (Hb2.out.trans (Hb3.out.mono Hb2.out.size) |>.mono (Nat.le_of_eq Hs0.out.symm))))
        have HR4 := Box.mk (HR'.out.below (((Below.refl B w1).drew).trans ((Hb2.out.trans (Hb3.out.mono Hb2.out.size)).mono HB0.out)))
        have HB4 := Box.mk (Nat.le_trans HB0.out (Nat.le_trans Hb2.out.size Hb3.out.size))
        have Hbn := Box.mk (below_drewN Hb4.out nd4)
        have HRn := Box.mk (HR4.out.drewN nd4)
        have HBn : Box (B ≤ (w3.drewN nd4).heap.size) := ⟨HB4.out⟩
        clear HD4 hT4 HR0 HR' HB0 HB4 HR4 Hb4 Hb0
        generalize w3.drewN nd4 = w5 at *
        clear Hb2 Hb3 w2 w3
        have hcc : crc (l.take 4 ++ (l.drop 8).take n) = x2 := Hcf.out.symm
        have Hcc := Box.mk hcc; clear hcc
        by_cases hxe : x2 = x3
        · have hN : nextL l = ((l.drop 8).take n, 8 + n, 0) := by rw [Hd3.out, if_pos (by rw [Hcc.out]; exact hxe)]
          have HN := Box.mk hN; clear hN
          have hq : ((x2 : Int) != x3) = false := by rw [hxe]; simp
          have Hxe := Box.mk hxe; clear hxe
          go_wp2_with fail
          refine (clone_num ((l.drop 8).take n) n HL.out.2 A' (c - 8) B w5 HBn.out HRn.out HN20.out).mono ?_
          rintro e w6 ⟨v, rfl, hown, hb⟩
          have Hown := Box.mk hown; have Hb6 := Box.mk (Hbn.out.trans (hb.mono Hbn.out.size)); clear hown hb
          go_wp2
          go_ret3
          exact ⟨_, by rw [HN.out]; rfl, by rw [HN.out]; exact Hown.out.mono Hbn.out.size, Hb6.out⟩
        · have hN : nextL l = ([], 0, 18) := by rw [Hd3.out, if_neg (by rw [Hcc.out]; exact hxe)]
          have HN := Box.mk hN; clear hN
          have hq : ((x2 : Int) != x3) = true := by simp; omega
          have Hxe := Box.mk hxe; clear hxe
          go_wp2
          go_ret3
          exact ⟨_, by rw [HN.out]; rfl, by rw [HN.out]; exact Own1.nil _ _ _, Hbn.out⟩

end Go.Proofs.Ytnflcmpdaoobcaa
