/- The walks of record.EncodeAll, the reference's All and Sames, and the law's own cut. -/
import Derived.Test.YtnflcmpdaoobcaaScan
namespace Go.Proofs.Ytnflcmpdaoobcaa
open Go.RowKit

set_option maxHeartbeats 400000 in
theorem encode_long (l : List UInt8) (A : Option Addr) (c : Nat) (w : World) (hn : 1048576 < l.length) (hn2 : l.length ≤ 140737488355328) :
    Calls Try.prog 17 #[.slice A l.length c] w fun e w' => e = .returned (.tuple #[.slice none 0 0, .int .i64 5]) ∧ w = w' := by
  have hgt : ((1048576 : Int) < l.length) = True := eq_true (by omega)
  clear hn
  go_enter Try.func17, Try.ntmps17
  go_wp2
  go_ret2
  exact ⟨rfl, rfl⟩

/-- The records of several payloads, one behind the other. -/
def encAll (ls : List (List UInt8)) : List UInt8 := (ls.map encL).flatten
theorem encL_length (l : List UInt8) : (encL l).length = 8 + l.length := by simp [encL, le4_length]; omega
theorem encAll_snoc (ls : List (List UInt8)) (l : List UInt8) : encAll (ls ++ [l]) = encAll ls ++ encL l := by simp [encAll]
theorem encAll_length (ls : List (List UInt8)) (m : Nat) (h : ∀ l ∈ ls, l.length ≤ m) : (encAll ls).length ≤ ls.length * (8 + m) := by
  induction ls with
  | nil => simp [encAll]
  | cons l ls ih =>
    have h1 := ih (fun x hx => h x (by simp [hx]))
    have h2 := h l (by simp)
    have h3 : encAll (l :: ls) = encL l ++ encAll ls := by simp [encAll]
    rw [h3, List.length_append, encL_length, List.length_cons, Nat.add_mul]
    omega
theorem take_mem_le {ls : List (List UInt8)} {m k : Nat} (h : ∀ l ∈ ls, l.length ≤ m) : ∀ l ∈ ls.take k, l.length ≤ m := fun l hl => h l (List.mem_of_mem_take hl)

theorem encode_num (l : List UInt8) (n : Nat) (hln : l.length = n) (A : Option Addr) (c B : Nat) (w : World) (hB : B ≤ w.heap.size) (hr : Reads w B 1 A n (l.map bv)) (hn : n ≤ 1048576) :
    Calls Try.prog 17 #[.slice A n c] w fun e w' => ∃ v, e = .returned (.tuple #[v, .int .i64 0]) ∧ Own1 w' w.heap.size 5 v ((encL l).map bv) ∧ Below w.heap.size w w' := by
  subst hln
  exact encode_any l A c B w hB hr hn
theorem refencode_num (l : List UInt8) (n : Nat) (hln : l.length = n) (A : Option Addr) (c B : Nat) (w : World) (hB : B ≤ w.heap.size) (hr : Reads w B 1 A n (l.map bv)) (hn : n ≤ 1048576) :
    Calls Try.prog 19 #[.slice A n c] w fun e w' => ∃ v, e = .returned v ∧ Own1 w' w.heap.size 5 v ((encL l).map bv) ∧ Below w.heap.size w w' := by
  subst hln
  exact refencode_any l A c B w hB hr hn

def EncAllPost (w : World) (ls : List (List UInt8)) (e : Ending) (w' : World) : Prop :=
  ∃ v, e = .returned (.tuple #[v, .int .i64 (if ∀ l ∈ ls, l.length ≤ 1048576 then 0 else 5)]) ∧ Own1 w' w.heap.size 5 v (((if ∀ l ∈ ls, l.length ≤ 1048576 then encAll ls else []) : List UInt8).map bv) ∧ Below w.heap.size w w'

/-- An element of a slice of slices that came in: its address, its length, its cells. -/
theorem rows_at {w : World} {B : Nat} {A : Option Addr} {vs : List Value} {ls : List (List UInt8)} (hr : Reads w B 1 A ls.length vs) (hs : Rows w (· < B) bv vs ls) {k : Nat} (hk : k < ls.length) :
    ∃ b off Ak ck, A = some ⟨b, off, none⟩ ∧ w.cell? ⟨b, off + k, none⟩ = some (.slice Ak ls[k].length ck) ∧ ls[k].length ≤ ck ∧ Reads w B 1 Ak ls[k].length (ls[k].map bv) := by
  obtain ⟨b, off, u, h1, hb, hu, hc⟩ := hr.spot hk
  obtain ⟨v, hv, hrow⟩ := hs.at_ hk
  rw [hu] at hv
  injection hv with hv
  subst hv
  obtain ⟨Ak, ck, e, hck, hrk⟩ := hrow.reads (n := ls[k].length) (B := B) (List.length_map _) (fun _ h => h)
  subst e
  exact ⟨b, off, Ak, ck, h1, hc, hck, hrk⟩

set_option maxHeartbeats 1000000 in
theorem encodeAll_any (ls : List (List UInt8)) (vs : List Value) (A : Option Addr) (c B : Nat) (w : World) (hB : B ≤ w.heap.size) (hr : Reads w B 1 A ls.length vs) (hs : Rows w (· < B) bv vs ls) (hm : ∀ l ∈ ls, l.length ≤ 2000000) (hn : ls.length ≤ 1000) :
    Calls Try.prog 20 #[.slice A ls.length c] w (EncAllPost w ls) := by
  have HR := Box.mk hr; have HS := Box.mk hs; have HB := Box.mk hB; have HM := Box.mk hm
  clear hr hs hB hm
  have hn' : ls.length ≤ 1000000000 := by omega
  have Hn := Box.mk hn; clear hn
  go_enter Try.func20, Try.ntmps20
  go_wp2
  go_loopw [4, 6, 7, 8, 11] (fun v _ _ _ i wr => ∃ k : Nat, i = .int .i64 k ∧ k ≤ ls.length ∧ (∀ l ∈ ls.take k, l.length ≤ 1048576) ∧ Own1 wr w.heap.size 5 v ((encAll (ls.take k)).map bv) ∧ Below w.heap.size w wr) (fun _ _ _ _ i _ => ls.length - (intOf i).toNat)
  case atStart => exact ⟨0, rfl, Nat.zero_le _, by simp, Own1.nil _ _ _, Below.refl _ _⟩
  case round =>
    obtain ⟨k, rfl, hk, hall, hown, hbel⟩ := hrel
    have Hall := Box.mk hall; have Hown := Box.mk hown; have Hbel := Box.mk hbel
    clear hall hown hbel
    obtain ⟨wo, rfl⟩ : ∃ wo : World, wo = wr := ⟨_, rfl⟩
    by_cases hlt : k < ls.length
    · obtain ⟨b, off, Ak, ck, rfl, hcell, _, hrk⟩ := rows_at (HR.out.below (Hbel.out.mono HB.out)) (HS.out.below (Hbel.out.mono HB.out)) hlt
      have HRk := Box.mk hrk; clear hrk
      have hmk := HM.out ls[k] (List.getElem_mem hlt)
      have Htk := Box.mk (List.take_succ_eq_append_getElem hlt)
      obtain ⟨lk, hlk⟩ := gen ls[k]
      rw [← hlk] at hcell hmk HRk Htk
      have Hlk := Box.mk hlk; clear hlk
      go_wp2_with fail
      by_cases hlong : lk.length ≤ 1048576
      · refine (encode_num lk lk.length rfl Ak ck B wo (by have := HB.out; have := Hbel.out.size; omega) HRk.out hlong).mono ?_
        rintro e w1 ⟨v1, rfl, hown1, hb1⟩
        have Hown1 := Box.mk hown1; have Hb1 := Box.mk hb1; clear hown1 hb1
        obtain ⟨A1, c1, e1, _, hr1⟩ := Hown1.out.form (n := (encL lk).length) (List.length_map _)
        subst e1
        have Hr1 := Box.mk hr1; clear hr1
        have hel := encL_length lk
        have Hel := Box.mk hel; clear hel
        have HaL := Box.mk (encAll_length (ls.take k) 2000000 (take_mem_le HM.out))
        have hlt2 : (ls.take k).length ≤ 1000 := by rw [List.length_take]; have := Hn.out; omega
        have Hlt2 := Box.mk hlt2; clear hlt2
        have Hb2 := Box.mk (Hbel.out.trans (Hb1.out.mono Hbel.out.size))
        go_wp2_with (at_builtin; refine stop_here ?_)
        refine ⟨wpList_app1 _ _ bytesTy rfl rfl rfl (Hown.out.below Hb1.out) rfl Hr1.out (bv_one _) (by
          have h1 := HaL.out; have h2 := Hlt2.out; have h3 := Hel.out
          have h4 : (ls.take k).length * (8 + 2000000) ≤ 1000 * (8 + 2000000) := Nat.mul_le_mul_right _ h2
          rw [List.length_map]; omega) (by have := Hb2.out.size; omega) ?_⟩
        intro v' w' hown' _ _ hb'
        have Hown' : Box (Own1 w' w.heap.size 5 v' ((encAll (ls.take (k + 1))).map bv)) := ⟨by
          rw [Htk.out, encAll_snoc, List.map_append]; exact hown'⟩
        have Hb' := Box.mk (hb' w.heap.size w (Nat.le_refl _) Hb2.out)
        clear hown' hb'
        go_wp2
        go_roundw
        case rel => exact ⟨k + 1, by go_num, by omega, by
          rw [Htk.out]; intro l hl
          rcases List.mem_append.1 hl with h | h
          · exact Hall.out l h
          · rw [List.mem_singleton] at h; subst h; exact hlong, Hown'.out, Hb'.out⟩
        case measure => simp [intOf]; omega
      · refine (encode_long lk Ak ck wo (by omega) (by omega)).mono ?_
        rintro e w1 ⟨rfl, rfl⟩
        have hno : ¬ ∀ l ∈ ls, l.length ≤ 1048576 := fun h => hlong (by rw [Hlk.out]; exact h _ (List.getElem_mem hlt))
        have Hno := Box.mk hno; clear hno
        go_wp2
        go_ret2
        exact ⟨_, by rw [if_neg Hno.out]; rfl, by rw [if_neg Hno.out]; exact Own1.nil _ _ _, Hbel.out⟩
    · obtain rfl : k = ls.length := by omega
      have hal : ∀ l ∈ ls, l.length ≤ 1048576 := by have := Hall.out; rwa [List.take_length] at this
      have Hal := Box.mk hal; clear hal
      have Hown2 : Box (Own1 wo w.heap.size 5 u4 ((encAll ls).map bv)) := ⟨by have := Hown.out; rwa [List.take_length] at this⟩
      go_wp2
      go_ret2
      exact ⟨_, by rw [if_pos Hal.out]; rfl, by rw [if_pos Hal.out]; exact Hown2.out, Hbel.out⟩

set_option maxHeartbeats 1000000 in
theorem refAll_any (ls : List (List UInt8)) (vs : List Value) (A : Option Addr) (c B : Nat) (w : World) (hB : B ≤ w.heap.size) (hr : Reads w B 1 A ls.length vs) (hs : Rows w (· < B) bv vs ls) (hm : ∀ l ∈ ls, l.length ≤ 1048576) (hn : ls.length ≤ 1000) :
    Calls Try.prog 21 #[.slice A ls.length c] w fun e w' => ∃ v, e = .returned v ∧ Own1 w' w.heap.size 5 v ((encAll ls).map bv) ∧ Below w.heap.size w w' := by
  have HR := Box.mk hr; have HS := Box.mk hs; have HB := Box.mk hB; have HM := Box.mk hm
  clear hr hs hB hm
  have hn' : ls.length ≤ 1000000000 := by omega
  have Hn := Box.mk hn; clear hn
  go_enter Try.func21, Try.ntmps21
  go_wp2
  go_loopw [3, 4] (fun v i wr => ∃ k : Nat, i = .int .i64 k ∧ k ≤ ls.length ∧ Own1 wr w.heap.size 5 v ((encAll (ls.take k)).map bv) ∧ Below w.heap.size w wr) (fun _ i _ => ls.length - (intOf i).toNat)
  case atStart => exact ⟨0, rfl, Nat.zero_le _, Own1.nil _ _ _, Below.refl _ _⟩
  case round =>
    obtain ⟨k, rfl, hk, hown, hbel⟩ := hrel
    have Hown := Box.mk hown; have Hbel := Box.mk hbel
    clear hown hbel
    obtain ⟨wo, rfl⟩ : ∃ wo : World, wo = wr := ⟨_, rfl⟩
    by_cases hlt : k < ls.length
    · obtain ⟨b, off, Ak, ck, rfl, hcell, _, hrk⟩ := rows_at (HR.out.below (Hbel.out.mono HB.out)) (HS.out.below (Hbel.out.mono HB.out)) hlt
      have HRk := Box.mk hrk; clear hrk
      have hmk := HM.out ls[k] (List.getElem_mem hlt)
      have Htk := Box.mk (List.take_succ_eq_append_getElem hlt)
      obtain ⟨lk, hlk⟩ := gen ls[k]
      rw [← hlk] at hcell hmk HRk Htk
      have Hlk := Box.mk hlk; clear hlk
      go_wp2_with fail
      refine (refencode_num lk lk.length rfl Ak ck B wo (by have := HB.out; have := Hbel.out.size; omega) HRk.out hmk).mono ?_
      rintro e w1 ⟨v1, rfl, hown1, hb1⟩
      have Hown1 := Box.mk hown1; have Hb1 := Box.mk hb1; clear hown1 hb1
      obtain ⟨A1, c1, e1, _, hr1⟩ := Hown1.out.form (n := (encL lk).length) (List.length_map _)
      subst e1
      have Hr1 := Box.mk hr1; clear hr1
      have hel := encL_length lk
      have Hel := Box.mk hel; clear hel
      have HaL := Box.mk (encAll_length (ls.take k) 1048576 (take_mem_le HM.out))
      have hlt2 : (ls.take k).length ≤ 1000 := by rw [List.length_take]; have := Hn.out; omega
      have Hlt2 := Box.mk hlt2; clear hlt2
      have Hb2 := Box.mk (Hbel.out.trans (Hb1.out.mono Hbel.out.size))
      go_wp2_with (at_builtin; refine stop_here ?_)
      refine ⟨wpList_app1 _ _ bytesTy rfl rfl rfl (Hown.out.below Hb1.out) rfl Hr1.out (bv_one _) (by
        have h1 := HaL.out; have h2 := Hlt2.out; have h3 := Hel.out
        have h4 : (ls.take k).length * (8 + 1048576) ≤ 1000 * (8 + 1048576) := Nat.mul_le_mul_right _ h2
        rw [List.length_map]; omega) (by have := Hb2.out.size; omega) ?_⟩
      intro v' w' hown' _ _ hb'
      have Hown' : Box (Own1 w' w.heap.size 5 v' ((encAll (ls.take (k + 1))).map bv)) := ⟨by
        rw [Htk.out, encAll_snoc, List.map_append]; exact hown'⟩
      have Hb' := Box.mk (hb' w.heap.size w (Nat.le_refl _) Hb2.out)
      clear hown' hb'
      go_wp2
      go_roundw
      case rel => exact ⟨k + 1, by go_num, by omega, Hown'.out, Hb'.out⟩
      case measure => simp [intOf]; omega
    · obtain rfl : k = ls.length := by omega
      have Hown2 : Box (Own1 wo w.heap.size 5 u3 ((encAll ls).map bv)) := ⟨by have := Hown.out; rwa [List.take_length] at this⟩
      go_wp2
      go_ret
      exact ⟨_, rfl, Hown2.out, Hbel.out⟩

end Go.Proofs.Ytnflcmpdaoobcaa
