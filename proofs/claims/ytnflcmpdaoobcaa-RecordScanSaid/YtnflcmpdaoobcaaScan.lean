/- The walks of record.Scan and the reference's Scan. -/
import Derived.Test.YtnflcmpdaoobcaaRefNext
namespace Go.Proofs.Ytnflcmpdaoobcaa
open Go.RowKit

theorem rowsTy : SlTy Try.prog 29 22 1 24 := ⟨by kernel_rfl, ⟨_, _, rfl, rfl, rfl, rfl, rfl⟩, by omega, by omega⟩

/-- What Scan answers, with fuel: the payloads, the prefix's size, the error. -/
def scanL : Nat → List UInt8 → List (List UInt8) × Nat × Nat
  | 0, _ => ([], 0, 0)
  | f + 1, b =>
    if b.length = 0 then ([], 0, 0)
    else if (nextL b).2.2 = 0 then ((nextL b).1 :: (scanL f (b.drop (nextL b).2.1)).1, (nextL b).2.1 + (scanL f (b.drop (nextL b).2.1)).2.1, (scanL f (b.drop (nextL b).2.1)).2.2)
    else ([], 0, (nextL b).2.2)

theorem next_size (b : List UInt8) (h : (nextL b).2.2 = 0) : 8 ≤ (nextL b).2.1 ∧ (nextL b).2.1 ≤ b.length ∧ (nextL b).2.1 = 8 + (nextL b).1.length := by
  unfold nextL at *
  split at h
  · simp at h
  · rename_i h8
    split at h
    · simp at h
    · rename_i hm
      split at h
      · simp at h
      · rename_i hl
        split at h
        · rename_i hc
          rw [if_neg h8, if_neg hm, if_neg hl, if_pos hc]
          simp only [List.length_take, List.length_drop]
          omega
        · simp at h
theorem next_err (b : List UInt8) : (nextL b).2.2 < 20 := by
  unfold nextL
  split
  · decide
  · split
    · decide
    · split
      · decide
      · split <;> simp
theorem next_nil (b : List UInt8) (h : (nextL b).2.2 ≠ 0) : (nextL b).1 = [] ∧ (nextL b).2.1 = 0 := by
  unfold nextL at *
  split
  · exact ⟨rfl, rfl⟩
  · rename_i h8
    rw [if_neg h8] at h
    split
    · exact ⟨rfl, rfl⟩
    · rename_i hm
      rw [if_neg hm] at h
      split
      · exact ⟨rfl, rfl⟩
      · rename_i hl
        rw [if_neg hl] at h
        split
        · rename_i hc; rw [if_pos hc] at h; exact absurd rfl h
        · exact ⟨rfl, rfl⟩

def ScanPost (w : World) (b : List UInt8) (e : Ending) (w' : World) : Prop :=
  ∃ v vs, e = .returned (.tuple #[v, .int .i64 (scanL b.length b).2.1, .int .i64 (scanL b.length b).2.2]) ∧ Own1 w' w.heap.size 22 v vs ∧ Rows w' (Off w' v) bv vs (scanL b.length b).1 ∧ Below w.heap.size w w'

/-- What the loop holds behind some rounds: so many bytes are read, these payloads are found. -/
def ScanAt (b : List UInt8) (at_ : Nat) (ls : List (List UInt8)) (f : Nat) : Prop :=
  at_ ≤ b.length ∧ b.length - at_ ≤ f ∧ ls.length ≤ at_ ∧ scanL b.length b = (ls ++ (scanL f (b.drop at_)).1, at_ + (scanL f (b.drop at_)).2.1, (scanL f (b.drop at_)).2.2)
theorem scanAt_zero (b : List UInt8) : ScanAt b 0 [] b.length := ⟨Nat.zero_le _, by omega, Nat.le_refl _, by simp⟩
theorem scanAt_step {b : List UInt8} {at_ : Nat} {ls : List (List UInt8)} {f : Nat} (h : ScanAt b at_ ls (f + 1)) (hlt : at_ < b.length) (he : (nextL (b.drop at_)).2.2 = 0) :
    ScanAt b (at_ + (nextL (b.drop at_)).2.1) (ls ++ [(nextL (b.drop at_)).1]) f := by
  obtain ⟨h1, h2, h3, h4⟩ := h
  have hs := next_size _ he
  rw [List.length_drop] at hs
  refine ⟨by omega, by omega, by simp; omega, ?_⟩
  rw [h4]
  have hne : (b.drop at_).length ≠ 0 := by rw [List.length_drop]; omega
  rw [scanL, if_neg hne, if_pos he, List.drop_drop]
  simp [Nat.add_assoc]
theorem scanAt_stop {b : List UInt8} {at_ : Nat} {ls : List (List UInt8)} {f : Nat} (h : ScanAt b at_ ls (f + 1)) (hlt : at_ < b.length) (he : (nextL (b.drop at_)).2.2 ≠ 0) :
    scanL b.length b = (ls, at_, (nextL (b.drop at_)).2.2) := by
  obtain ⟨h1, h2, h3, h4⟩ := h
  have hne : (b.drop at_).length ≠ 0 := by rw [List.length_drop]; omega
  rw [h4, scanL, if_neg hne, if_neg he]
  simp
theorem scanAt_end {b : List UInt8} {ls : List (List UInt8)} {f : Nat} (h : ScanAt b b.length ls f) : scanL b.length b = (ls, b.length, 0) := by
  obtain ⟨h1, h2, h3, h4⟩ := h
  rw [h4]
  have hd : b.drop b.length = [] := List.drop_length
  rw [hd]
  cases f with
  | zero => simp [scanL]
  | succ f => simp [scanL]

theorem next_num (l : List UInt8) (n : Nat) (hln : l.length = n) (A : Option Addr) (c B : Nat) (w : World) (hB : B ≤ w.heap.size) (hr : Reads w B 1 A n (l.map bv)) (hn : n ≤ 140737488355328) (hc : n ≤ c) :
    Calls Try.prog 22 #[.slice A n c] w (NextPost w l) := by
  subst hln
  exact next_any l A c B w hB hr hn hc
theorem refnext_num (l : List UInt8) (n : Nat) (hln : l.length = n) (A : Option Addr) (c B : Nat) (w : World) (hB : B ≤ w.heap.size) (hr : Reads w B 1 A n (l.map bv)) (hn : n ≤ 140737488355328) (hc : n ≤ c) :
    Calls Try.prog 23 #[.slice A n c] w (NextPost w l) := by
  subst hln
  exact refnext_any l A c B w hB hr hn hc

set_option maxHeartbeats 1000000 in
theorem scan_any (l : List UInt8) (A : Option Addr) (c B : Nat) (w : World) (hB : B ≤ w.heap.size) (hr : Reads w B 1 A l.length (l.map bv)) (hn : l.length ≤ 1000000000) (hc : l.length ≤ c) :
    Calls Try.prog 24 #[.slice A l.length c] w (ScanPost w l) := by
  have HR := Box.mk hr; clear hr
  have HB := Box.mk hB; clear hB
  have Hc := Box.mk hc; clear hc
  go_enter Try.func24, Try.ntmps24
  go_wp2
  go_loopw [5, 6, 7, 8, 9] (fun v i _ _ _ wr => ∃ (k f : Nat) (vs : List Value) (ls : List (List UInt8)), i = .int .i64 k ∧ ScanAt l k ls f ∧ Own1 wr w.heap.size 22 v vs ∧ Rows wr (Off wr v) bv vs ls ∧ Below w.heap.size w wr) (fun _ i _ _ _ _ => l.length - (intOf i).toNat)
  case atStart => exact ⟨0, l.length, [], [], rfl, scanAt_zero l, Own1.nil _ _ _, Rows.nil, Below.refl _ _⟩
  case round =>
    obtain ⟨k, f, vs, ls, rfl, hat, hown, hrows, hbel⟩ := hrel
    have hk := hat.1
    have Hat := Box.mk hat; have Hown := Box.mk hown; have Hrows := Box.mk hrows; have Hbel := Box.mk hbel
    clear hat hown hrows hbel
    obtain ⟨wo, rfl⟩ : ∃ wo : World, wo = wr := ⟨_, rfl⟩
    by_cases hlt : k < l.length
    · obtain ⟨f', hf⟩ : ∃ f', f = f' + 1 := ⟨f - 1, by have := Hat.out.2.1; omega⟩
      subst hf
      go_wp2_with (with_reducible refine stop_slice ?_)
      refine ⟨wpList_cutFrom bytesTy (l := k) rfl rfl (by omega) Hc.out ((HR.out.more HB.out).below Hbel.out) ?_⟩
      intro A' hr'
      have HR' : Box (Reads wo w.heap.size 1 A' (l.length - k) ((l.drop k).map bv)) := ⟨by rw [List.map_drop]; simpa using hr'⟩
      clear hr'
      go_wp2_with fail
      refine (next_num (l.drop k) (l.length - k) (by rw [List.length_drop]) A' (c - k) w.heap.size wo Hbel.out.size HR'.out (by omega) (by have := Hc.out; omega)).mono ?_
      rintro e w1 ⟨vp, rfl, hownp, hb1⟩
      have Hownp := Box.mk hownp; have Hb1 := Box.mk hb1; clear hownp hb1
      obtain ⟨Ap, cp, ep, _, _⟩ := Hownp.out.form (n := (nextL (l.drop k)).1.length) (List.length_map _)
      subst ep
      have Hst := Box.mk (scanAt_step Hat.out hlt)
      have Hsp := Box.mk (scanAt_stop Hat.out hlt)
      have Hsz := Box.mk (next_size (l.drop k))
      have hs2 : (nextL (l.drop k)).2.1 ≤ 1000000000 := by
        by_cases h0 : (nextL (l.drop k)).2.2 = 0
        · have := (next_size _ h0).2.1; rw [List.length_drop] at this; omega
        · rw [(next_nil _ h0).2]; omega
      obtain ⟨ne, hne⟩ := gen (nextL (l.drop k)).2.2
      obtain ⟨nn, hnn⟩ := gen (nextL (l.drop k)).2.1
      rw [← hnn] at hs2
      rw [← hne, ← hnn]
      have Hne := Box.mk hne; have Hnn := Box.mk hnn; clear hne hnn
      have Hbel1 := Box.mk (Hbel.out.trans (Hb1.out.mono Hbel.out.size))
      have Hown1 := Box.mk (Hown.out.below Hb1.out)
      have Hrows1 := Box.mk (Hrows.out.off_below Hb1.out)
      by_cases he : ne = 0
      · subst he
        have HatN := Box.mk (Hst.out Hne.out.symm)
        have hsz := Hsz.out Hne.out.symm
        rw [← Hnn.out] at HatN hsz
        rw [List.length_drop] at hsz
        have Hsz2 := Box.mk hsz; clear hsz
        have hle : k + nn ≤ l.length := by have := Hsz2.out; omega
        go_wp2_with (at_builtin; refine stop_here ?_)
        have hrowp : Row w1 (Off w1 u5) (.slice Ap (nextL (l.drop k)).1.length cp) ((nextL (l.drop k)).1.map bv) := Row.of_own Hownp.out fun b h1 h2 => ⟨h2, fun e => by have := (Hown.out.lt e).2; omega⟩
        have Hrowp := Box.mk hrowp; clear hrowp
        have Hvs : Box (vs.length ≤ 1000000000) := ⟨by have := Hat.out.2.2.1; have := Hrows.out.1; omega⟩
        refine ⟨wpList_app1 _ _ rowsTy rfl rfl rfl (Hown1.out.alloc _) rfl ((Own1.new w1 22 #[_] (by simp [maxLen])).reads (Nat.le_refl _)).1 (by simp [Value.oneCell']) (by have := Hvs.out; simp; omega) (by have := Hbel1.out.size; simp; omega) ?_⟩
        intro v' w' hown hg hloc hb
        have Hown' : Box (Own1 w' w.heap.size 22 v' (vs ++ [.slice Ap (nextL (l.drop k)).1.length cp])) := ⟨hown⟩
        have Hb' : Box (Below w.heap.size w w') := ⟨hb w.heap.size w (Nat.le_refl _) (Hbel1.out.alloc Hbel1.out.size _)⟩
        have Hrows' : Box (Rows w' (Off w' v') bv (vs ++ [.slice Ap (nextL (l.drop k)).1.length cp]) (ls ++ [(nextL (l.drop k)).1])) := ⟨((Hrows1.out.snoc Hrowp.out).off_below ((Below.refl _ w1).alloc (Nat.le_refl _) _)).off_grown (v := u5) hg hloc⟩
        clear hown hg hloc hb
        go_wp2
        go_roundw
        case rel => exact ⟨k + nn, f', _, _, by go_num, HatN.out, Hown'.out, Hrows'.out, Hb'.out⟩
        case measure => have := Hsz2.out; simp [intOf]; omega
      · have hq : ((ne : Int) != 0) = true := by simp; omega
        have Hsp2 := Box.mk (Hsp.out (by rw [← Hne.out]; exact he)); clear he
        go_wp2
        go_ret3
        exact ⟨_, vs, by rw [Hsp2.out, ← Hne.out]; rfl, Hown1.out, by rw [Hsp2.out]; exact Hrows1.out, Hbel1.out⟩
    · obtain rfl : k = l.length := by omega
      have Hsp2 := Box.mk (scanAt_end Hat.out)
      go_wp2
      go_ret3
      exact ⟨_, vs, by rw [Hsp2.out]; rfl, Hown.out, by rw [Hsp2.out]; exact Hrows.out, Hbel.out⟩

set_option maxHeartbeats 1000000 in
theorem refscan_any (l : List UInt8) (A : Option Addr) (c B : Nat) (w : World) (hB : B ≤ w.heap.size) (hr : Reads w B 1 A l.length (l.map bv)) (hn : l.length ≤ 1000000000) (hc : l.length ≤ c) :
    Calls Try.prog 26 #[.slice A l.length c] w (ScanPost w l) := by
  have HR := Box.mk hr; clear hr
  have HB := Box.mk hB; clear hB
  have Hc := Box.mk hc; clear hc
  go_enter Try.func26, Try.ntmps26
  go_wp2
  go_loopw [5, 6, 7, 8, 9] (fun v i _ _ _ wr => ∃ (k f : Nat) (vs : List Value) (ls : List (List UInt8)), i = .int .i64 k ∧ ScanAt l k ls f ∧ Own1 wr w.heap.size 22 v vs ∧ Rows wr (Off wr v) bv vs ls ∧ Below w.heap.size w wr) (fun _ i _ _ _ _ => l.length - (intOf i).toNat)
  case atStart => exact ⟨0, l.length, [], [], rfl, scanAt_zero l, Own1.nil _ _ _, Rows.nil, Below.refl _ _⟩
  case round =>
    obtain ⟨k, f, vs, ls, rfl, hat, hown, hrows, hbel⟩ := hrel
    have hk := hat.1
    have Hat := Box.mk hat; have Hown := Box.mk hown; have Hrows := Box.mk hrows; have Hbel := Box.mk hbel
    clear hat hown hrows hbel
    obtain ⟨wo, rfl⟩ : ∃ wo : World, wo = wr := ⟨_, rfl⟩
    by_cases hlt : k < l.length
    · obtain ⟨f', hf⟩ : ∃ f', f = f' + 1 := ⟨f - 1, by have := Hat.out.2.1; omega⟩
      subst hf
      go_wp2_with (with_reducible refine stop_slice ?_)
      refine ⟨wpList_cutFrom bytesTy (l := k) rfl rfl (by omega) Hc.out ((HR.out.more HB.out).below Hbel.out) ?_⟩
      intro A' hr'
      have HR' : Box (Reads wo w.heap.size 1 A' (l.length - k) ((l.drop k).map bv)) := ⟨by rw [List.map_drop]; simpa using hr'⟩
      clear hr'
      go_wp2_with fail
      refine (refnext_num (l.drop k) (l.length - k) (by rw [List.length_drop]) A' (c - k) w.heap.size wo Hbel.out.size HR'.out (by omega) (by have := Hc.out; omega)).mono ?_
      rintro e w1 ⟨vp, rfl, hownp, hb1⟩
      have Hownp := Box.mk hownp; have Hb1 := Box.mk hb1; clear hownp hb1
      obtain ⟨Ap, cp, ep, _, _⟩ := Hownp.out.form (n := (nextL (l.drop k)).1.length) (List.length_map _)
      subst ep
      have Hst := Box.mk (scanAt_step Hat.out hlt)
      have Hsp := Box.mk (scanAt_stop Hat.out hlt)
      have Hsz := Box.mk (next_size (l.drop k))
      have hs2 : (nextL (l.drop k)).2.1 ≤ 1000000000 := by
        by_cases h0 : (nextL (l.drop k)).2.2 = 0
        · have := (next_size _ h0).2.1; rw [List.length_drop] at this; omega
        · rw [(next_nil _ h0).2]; omega
      obtain ⟨ne, hne⟩ := gen (nextL (l.drop k)).2.2
      obtain ⟨nn, hnn⟩ := gen (nextL (l.drop k)).2.1
      rw [← hnn] at hs2
      rw [← hne, ← hnn]
      have Hne := Box.mk hne; have Hnn := Box.mk hnn; clear hne hnn
      have Hbel1 := Box.mk (Hbel.out.trans (Hb1.out.mono Hbel.out.size))
      have Hown1 := Box.mk (Hown.out.below Hb1.out)
      have Hrows1 := Box.mk (Hrows.out.off_below Hb1.out)
      by_cases he : ne = 0
      · subst he
        have HatN := Box.mk (Hst.out Hne.out.symm)
        have hsz := Hsz.out Hne.out.symm
        rw [← Hnn.out] at HatN hsz
        rw [List.length_drop] at hsz
        have Hsz2 := Box.mk hsz; clear hsz
        have hle : k + nn ≤ l.length := by have := Hsz2.out; omega
        go_wp2_with (at_builtin; refine stop_here ?_)
        have hrowp : Row w1 (Off w1 u5) (.slice Ap (nextL (l.drop k)).1.length cp) ((nextL (l.drop k)).1.map bv) := Row.of_own Hownp.out fun b h1 h2 => ⟨h2, fun e => by have := (Hown.out.lt e).2; omega⟩
        have Hrowp := Box.mk hrowp; clear hrowp
        have Hvs : Box (vs.length ≤ 1000000000) := ⟨by have := Hat.out.2.2.1; have := Hrows.out.1; omega⟩
        refine ⟨wpList_app1 _ _ rowsTy rfl rfl rfl (Hown1.out.alloc _) rfl ((Own1.new w1 22 #[_] (by simp [maxLen])).reads (Nat.le_refl _)).1 (by simp [Value.oneCell']) (by have := Hvs.out; simp; omega) (by have := Hbel1.out.size; simp; omega) ?_⟩
        intro v' w' hown hg hloc hb
        have Hown' : Box (Own1 w' w.heap.size 22 v' (vs ++ [.slice Ap (nextL (l.drop k)).1.length cp])) := ⟨hown⟩
        have Hb' : Box (Below w.heap.size w w') := ⟨hb w.heap.size w (Nat.le_refl _) (Hbel1.out.alloc Hbel1.out.size _)⟩
        have Hrows' : Box (Rows w' (Off w' v') bv (vs ++ [.slice Ap (nextL (l.drop k)).1.length cp]) (ls ++ [(nextL (l.drop k)).1])) := ⟨((Hrows1.out.snoc Hrowp.out).off_below ((Below.refl _ w1).alloc (Nat.le_refl _) _)).off_grown (v := u5) hg hloc⟩
        clear hown hg hloc hb
        go_wp2
        go_roundw
        case rel => exact ⟨k + nn, f', _, _, by go_num, HatN.out, Hown'.out, Hrows'.out, Hb'.out⟩
        case measure => have := Hsz2.out; simp [intOf]; omega
      · have hq : ((ne : Int) != 0) = true := by simp; omega
        have Hsp2 := Box.mk (Hsp.out (by rw [← Hne.out]; exact he)); clear he
        go_wp2
        go_ret3
        exact ⟨_, vs, by rw [Hsp2.out, ← Hne.out]; rfl, Hown1.out, by rw [Hsp2.out]; exact Hrows1.out, Hbel1.out⟩
    · obtain rfl : k = l.length := by omega
      have Hsp2 := Box.mk (scanAt_end Hat.out)
      go_wp2
      go_ret3
      exact ⟨_, vs, by rw [Hsp2.out]; rfl, Hown.out, by rw [Hsp2.out]; exact Hrows.out, Hbel.out⟩

end Go.Proofs.Ytnflcmpdaoobcaa
