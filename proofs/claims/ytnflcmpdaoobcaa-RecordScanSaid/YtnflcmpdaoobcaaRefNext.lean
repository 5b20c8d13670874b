/- The walk of the reference's Next. -/
import Derived.Test.YtnflcmpdaoobcaaNext
import Derived.Deep.DeepCutAuto
namespace Go.Proofs.Ytnflcmpdaoobcaa
open Go.RowKit

theorem refread_numx (l : List UInt8) (n x : Nat) (hln : l.length = n) (hx : numL l = x) (A : Option Addr) (c B : Nat) (w : World) (hr : Reads w B 1 A n (l.map bv)) (hn : n ≤ 140737488355328) (h4 : 4 ≤ n) :
    Calls Try.prog 34 #[.slice A n c] w fun e w' => e = .returned (.int .u32 (x : Nat)) ∧ ∃ n, w' = w.drewN n := by
  subst hx
  exact refread_num l n hln A c B w hr hn h4
theorem sum_numx (l : List UInt8) (n x : Nat) (hln : l.length = n) (hx : crc l = x) (A : Option Addr) (c B : Nat) (w : World) (hr : Reads w B 1 A n (l.map bv)) (hn : n ≤ 140737488355328) :
    Calls Try.prog 14 #[.slice A n c] w fun e w' => e = .returned (.int .u32 (x : Nat)) ∧ w = w' := by
  subst hln hx
  exact sum_any l A c B w hr hn

set_option maxHeartbeats 1000000 in
theorem refnext_any (l : List UInt8) (A : Option Addr) (c B : Nat) (w : World) (hB : B ≤ w.heap.size) (hr : Reads w B 1 A l.length (l.map bv)) (hn : l.length ≤ 140737488355328) (hc : l.length ≤ c) :
    Calls Try.prog 23 #[.slice A l.length c] w (NextPost w l) := by
  have HR := Box.mk hr; clear hr
  have HB := Box.mk hB; clear hB
  have Hn := Box.mk hn
  by_cases h8 : l.length < 8
  · have hN : nextL l = ([], 0, 19) := by unfold nextL; rw [if_pos h8]
    have HN := Box.mk hN; clear hN
    have ht : ((l.length : Int) < 8) = True := eq_true (by omega)
    clear h8 hn hc Hn
    go_enter Try.func23, Try.ntmps23
    go_wp2
    go_ret3
    exact ⟨_, by rw [HN.out]; rfl, by rw [HN.out]; exact Own1.nil _ _ _, Below.refl _ _⟩
  · have hlt := numL_lt l
    have hdef : nextL l = if 1048576 < numL l then ([], 0, 2)
      else if l.length < 8 + numL l then ([], 0, 19)
      else if crc (l.take 4 ++ (l.drop 8).take (numL l)) = numL (l.drop 4) then ((l.drop 8).take (numL l), 8 + numL l, 0)
      else ([], 0, 18) := by unfold nextL; rw [if_neg h8]
    have Hd := Box.mk hdef; clear hdef
    have ht : ((l.length : Int) < 8) = False := eq_false (by omega)
    go_enter Try.func23, Try.ntmps23
    go_wp2_with fail
    refine (refread_num l l.length rfl A c B _ HR.out Hn.out (by omega)).mono ?_
    rintro e w1 ⟨rfl, nd, rfl⟩
    obtain ⟨n, hnn⟩ := gen (numL l)
    rw [← hnn] at hlt Hd ⊢
    have Hnn := Box.mk hnn; clear hnn
    by_cases h20 : 1048576 < n
    · have hN : nextL l = ([], 0, 2) := by rw [Hd.out, if_pos h20]
      have HN := Box.mk hN; clear hN
      have ht2 : ((1048576 : Int) < n) = True := eq_true (by omega)
      clear h20
      go_wp2
      go_ret3
      exact ⟨_, by rw [HN.out]; rfl, by rw [HN.out]; exact Own1.nil _ _ _, below_drewN (Below.refl _ _) _⟩
    · have Hd2 := Box.mk (Hd.out.trans (if_neg h20)); clear Hd
      have ht2 : ((1048576 : Int) < n) = False := eq_false (by omega)
      have h20' : n ≤ 1048576 := by omega
      by_cases hsh : l.length < 8 + n
      · have hN : nextL l = ([], 0, 19) := by rw [Hd2.out, if_pos hsh]
        have HN := Box.mk hN; clear hN
        go_wp2
        go_ret3
        exact ⟨_, by rw [HN.out]; rfl, by rw [HN.out]; exact Own1.nil _ _ _, below_drewN (Below.refl _ _) _⟩
      · have Hd3 := Box.mk (Hd2.out.trans (if_neg hsh)); clear Hd2
        have hc4 : (c = 4) = False := eq_false (by omega)
        have h4 : (4 : Int) ≤ l.length := by omega
        go_wp2_with (with_reducible refine stop_slice ?_)
        refine ⟨wpList_cut bytesTy (l := 8) (h := 8 + n) rfl rfl rfl (by omega) (by omega) hc ((HR.out.drewN nd |>.more HB.out).alloc (Nat.le_refl _) _) ?_⟩
        intro A' hr'
        rw [Nat.add_sub_cancel_left]
        go_wp2_with (at_builtin; refine stop_here ?_)
        refine ⟨wpList_app1 _ _ bytesTy rfl rfl rfl (Own1.new (w.drewN nd) 5 #[] (by decide)) rfl (show Reads _ _ 1 A' n (((l.drop 8).take n).map bv) from by simpa using hr') (bv_one _) (by simp; omega) (by simp) ?_⟩
        intro v1 w1 hown _ _ hb
        have Hown1 : Box (Own1 w1 w.heap.size 5 v1 (((l.drop 8).take n).map bv)) := ⟨hown.as rfl rfl⟩; have Hb1 := Box.mk (hb w.heap.size w (Nat.le_refl _) ((below_drewN (Below.refl _ w) nd).alloc (Nat.le_refl _) _)); clear hown hb hr'
        have hln : ((l.drop 8).take n).length = n := by rw [List.length_take, List.length_drop]; omega
        obtain ⟨A1, c1, e1, _, hr1⟩ := Hown1.out.form (n := n) (by rw [List.length_map]; exact hln)
        subst e1
        have HRp := Box.mk hr1; clear hr1
        have HRl := Box.mk ((HR.out.more HB.out).below Hb1.out)
        have hD4 : ∀ w', Below w.heap.size w w' → Reads w' w.heap.size 1 (A.map (fun x => (⟨x.block, x.off + 4, none⟩ : Addr))) (l.length - 4) ((l.drop 4).map bv) := fun w' hb => by
          have hm : A.map (fun x => (⟨x.block, x.off + 4, none⟩ : Addr)) = A.map (·.add 4) := by cases A <;> rfl
          have h := ((HR.out.more HB.out).below hb).cut (k := 4) (cap := c) (by omega) hc
          rw [if_neg (by omega)] at h
          rw [hm]
          simpa using h
        have hT4 : ∀ w', Below w.heap.size w w' → Reads w' w.heap.size 1 A 4 ((l.take 4).map bv) := fun w' hb => by
          have h := ((HR.out.more HB.out).below hb).take_ (k := 4) (by omega)
          simpa using h
        have HD4 := Box.mk hD4; have HT4 := Box.mk hT4; clear hD4 hT4
        have hl4 : (l.take 4).length = 4 := by rw [List.length_take]; omega
        have HL := Box.mk (And.intro hl4 hln); clear hl4 hln
        have HS := Box.mk (show (4:Nat) ≤ l.length - 4 ∧ l.length - 4 ≤ 140737488355328 ∧ n ≤ 140737488355328 ∧ n ≤ 1048576 from by omega)
        have hl4' : (l.drop 4).length = l.length - 4 := by rw [List.length_drop]
        have HL4' := Box.mk hl4'; clear hl4'
        have h4c : (4 : Int) ≤ c := by omega
        have hsz := Hb1.out.size
        clear Hn hn hc h20 h20' hsh h8 HR HB HRl
        go_wp2_with fail
        have HbA : Box (∀ n, Below w1.heap.size w1 ((w1.drewN n).alloc (.cells #[] 5))) := ⟨fun n => (below_drewN (Below.refl _ w1) n).alloc (Nat.le_refl _) _⟩
        have HbC : Box (∀ n, Below w1.heap.size w1 ((w1.alloc (.cells #[] 5)).drewN n)) := ⟨fun n => below_drewN ((Below.refl _ w1).alloc (Nat.le_refl _) _) n⟩
        have HbD : Box (Below w.heap.size w w1.drew) := ⟨Hb1.out.drew⟩
        have HbE : Box (Below w.heap.size w (w1.alloc (.cells #[] 5)).drew) := ⟨(Hb1.out.alloc hsz _).drew⟩
        have HoA : Box (∀ n, Own1 ((w1.drewN n).alloc (.cells #[] 5)) w1.heap.size 5 (.slice (some ⟨w1.heap.size, 0, none⟩) 0 0) []) := ⟨fun n => Own1.new (w1.drewN n) 5 #[] (by decide)⟩
        have HoC : Box (∀ n, Own1 ((w1.alloc (.cells #[] 5)).drewN n) w1.heap.size 5 (.slice (some ⟨w1.heap.size, 0, none⟩) 0 0) []) := ⟨fun n => (Own1.new w1 5 #[] (by decide)).drewN n⟩
        go_cut [37] (fun v wx => v = .bool ((numL (l.drop 4) : Int) != (crc (l.take 4 ++ (l.drop 8).take n) : Nat)) ∧ Below w1.heap.size w1 wx)
        case first =>
          go_region_law (first
            | (refine step_app1 (.tmp 30) (.tmp 32) bytesTy rfl rfl rfl (base := w1.heap.size) (xs := []) (by first | exact HoA.out _ | exact HoC.out _) rfl (HT4.out _ (by first | (with_reducible exact Hb1.out.trans ((HbA.out _).mono hsz)) | (with_reducible exact Hb1.out.trans ((HbC.out _).mono hsz)))) (bv_one _) (by simp) (by simp) ?_; intro v5 w5 hown _ _ hb; have Hown5 : Box (Own1 w5 w1.heap.size 5 v5 ((l.take 4).map bv)) := ⟨hown.as rfl rfl⟩; have Hb5 : Box (Below w1.heap.size w1 w5) := ⟨hb w1.heap.size w1 (Nat.le_refl _) (by first | (with_reducible exact HbA.out _) | (with_reducible exact HbC.out _))⟩; clear hown hb)
            | (refine step_app1 (.tmp 33) (.tmp 34) bytesTy rfl rfl rfl Hown5.out rfl (HRp.out.below Hb5.out) (bv_one _) (by rw [List.length_map, HL.out.1]; have := HS.out.2.2.1; have := HS.out.2.2.2; omega) Hb5.out.size ?_; intro v6 w6 hown _ _ hb; have Hown6 : Box (Own1 w6 w1.heap.size 5 v6 ((l.take 4 ++ (l.drop 8).take n).map bv)) := ⟨hown.as rfl List.map_append.symm⟩; have Hb6 : Box (Below w1.heap.size w1 w6) := ⟨hb w1.heap.size w1 (Nat.le_refl _) Hb5.out⟩; clear hown hb; obtain ⟨A6, c6, e6, _, hr6⟩ := Hown6.out.form (n := 4 + n) (by simp only [List.length_map, List.length_append, HL.out.1, HL.out.2]); subst e6; have HR6 := Box.mk hr6; clear hr6)
            | (go_simp; go_at_call 34; refine (refread_numx (l.drop 4) (l.length - 4) _ HL4'.out rfl _ (c - 4) w.heap.size _ (HD4.out _ (by first | (with_reducible exact HbD.out) | (with_reducible exact HbE.out))) HS.out.2.1 HS.out.1).mono ?_; rintro e w4 ⟨rfl, nd4, rfl⟩)
            | (go_simp; go_at_call 14; refine (sum_numx (l.take 4 ++ (l.drop 8).take n) (4 + n) _ (by rw [List.length_append, HL.out.1, HL.out.2]) rfl _ _ _ _ HR6.out (by have := HS.out; omega)).mono ?_; rintro e w7 ⟨rfl, rfl⟩))
          all_goals (go_wp2_with fail; go_meet; exact ⟨rfl, Hb6.out⟩)
        case rest =>
          obtain ⟨rfl, hbc⟩ := hcut
          have Hbw := Box.mk (Hb1.out.trans (hbc.mono hsz))
          have Hown := Box.mk (Hown1.out.below hbc)
          clear hbc
          by_cases hxe : crc (l.take 4 ++ (l.drop 8).take n) = numL (l.drop 4)
          · have hN : nextL l = ((l.drop 8).take n, 8 + n, 0) := by rw [Hd3.out, if_pos hxe]
            have HN := Box.mk hN; clear hN
            have hq : ((numL (l.drop 4) : Int) != (crc (l.take 4 ++ (l.drop 8).take n) : Nat)) = false := by rw [hxe]; simp
            have Hxe := Box.mk hxe; clear hxe
            go_wp2
            go_ret3
            exact ⟨_, by rw [HN.out]; rfl, by rw [HN.out]; exact Hown.out, Hbw.out⟩
          · have hN : nextL l = ([], 0, 18) := by rw [Hd3.out, if_neg hxe]
            have HN := Box.mk hN; clear hN
            have hq : ((numL (l.drop 4) : Int) != (crc (l.take 4 ++ (l.drop 8).take n) : Nat)) = true := by simp; omega
            have Hxe := Box.mk hxe; clear hxe
            go_wp2
            go_ret3
            exact ⟨_, by rw [HN.out]; rfl, by rw [HN.out]; exact Own1.nil _ _ _, Hbw.out⟩

end Go.Proofs.Ytnflcmpdaoobcaa
