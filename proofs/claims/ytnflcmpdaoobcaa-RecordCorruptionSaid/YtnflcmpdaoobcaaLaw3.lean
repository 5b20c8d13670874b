/- The walk of RecordEncode. -/
import Derived.Test.YtnflcmpdaoobcaaCut
namespace Go.Proofs.Ytnflcmpdaoobcaa
open Go.RowKit

theorem cutL_length (ls : List (List UInt8)) : (cutL ls).length ≤ 20 := by simp [cutL]; omega
theorem cutL_le (ls : List (List UInt8)) : ∀ l ∈ cutL ls, l.length ≤ 200 := by
  intro l hl
  obtain ⟨m, _, rfl⟩ := List.mem_map.1 hl
  rw [List.length_take]; omega

/-- What the laws hold behind their cut: a list of few short payloads, in memory. -/
theorem cut_then {w : World} {ls : List (List UInt8)} {e : Ending} {w1 : World} (h : CutPost w ls e w1) :
    ∃ A c us, e = .returned (.slice A (cutL ls).length c) ∧ (cutL ls).length ≤ c ∧ Reads w1 w1.heap.size 1 A (cutL ls).length us ∧ Rows w1 (· < w1.heap.size) bv us (cutL ls) ∧ Below w.heap.size w w1 := by
  obtain ⟨v, us, rfl, hown, hrows, hb⟩ := h
  obtain ⟨A, c, rfl, hc, hr⟩ := hown.form hrows.1
  exact ⟨A, c, us, rfl, hc, hr, hrows.mono fun b h => Nat.lt_of_lt_of_le h hb.size, hb⟩

set_option maxHeartbeats 2000000 in
theorem law3_any (ls : List (List UInt8)) (vs : List Value) (A : Option Addr) (c : Nat) (w : World) (hr : Reads w w.heap.size 1 A ls.length vs) (hs : Rows w (· < w.heap.size) bv vs ls) (hm : ∀ l ∈ ls, l.length ≤ 9223372036854775807) (hn : ls.length ≤ 9223372036854775807) :
    Calls Try.prog 5 #[.slice A ls.length c] w fun e w' => e = .returned (.bool true) ∧ Below w.heap.size w w' := by
  go_enter Try.func5, Try.ntmps5
  go_wp2_with fail
  refine (cut_any ls vs A c w hr hs hm hn).mono ?_
  rintro e w1 hpost
  obtain ⟨A1, c1, us, rfl, hc1, hr1, hs1, hb1⟩ := cut_then hpost
  clear hpost hr hs hm hn
  have hlen := cutL_length ls
  have hle := cutL_le ls
  obtain ⟨la, hla⟩ := gen (cutL ls)
  rw [← hla] at hlen hle hc1 hr1 hs1 ⊢
  clear hla
  have HR := Box.mk hr1; have HS := Box.mk hs1; have Hb1 := Box.mk hb1; have Hle := Box.mk hle; have Hlen := Box.mk hlen
  have hlen2 : la.length ≤ 1000000000 := by omega
  clear hr1 hs1 hb1 hle hlen hc1
  go_wp2_with fail
  go_loopw [3, 4, 5] (fun i _ _ wr => ∃ k : Nat, i = .int .i64 k ∧ k ≤ la.length ∧ Below w1.heap.size w1 wr) (fun i _ _ _ => la.length - (intOf i).toNat)
  case atStart => exact ⟨0, rfl, Nat.zero_le _, Below.refl _ _⟩
  case round =>
    obtain ⟨k, rfl, hk, hbel⟩ := hrel
    have Hbel := Box.mk hbel; clear hbel
    obtain ⟨wo, rfl⟩ : ∃ wo : World, wo = wr := ⟨_, rfl⟩
    by_cases hlt : k < la.length
    · obtain ⟨b, off, Ak, ck, rfl, hcell, hck, hrk⟩ := rows_at (HR.out.below Hbel.out) (HS.out.below Hbel.out) hlt
      have hmk := Hle.out la[k] (List.getElem_mem hlt)
      have hbs : b < w1.heap.size := by
        obtain ⟨b2, off2, u2, e2, hb2, _⟩ := HR.out.spot hlt
        injection e2 with e2; injection e2 with e2 _; omega
      obtain ⟨lk, hlk⟩ := gen la[k]
      rw [← hlk] at hcell hck hrk hmk
      clear hlk
      have HRk := Box.mk hrk; have Hcell := Box.mk hcell; clear hrk
      go_wp2_with fail
      refine (encode_num lk lk.length rfl Ak ck w1.heap.size wo Hbel.out.size HRk.out (by omega)).mono ?_
      rintro e w2 ⟨v2, rfl, hown, hb⟩
      have Hown2 := Box.mk hown; have Hb2 := Box.mk hb; have Hbel2 := Box.mk (Hbel.out.trans (hb.mono Hbel.out.size))
      have hcell2 : w2.cell? ⟨b, off + k, none⟩ = some (.slice Ak lk.length ck) := (hb.cell (p := ⟨b, off + k, none⟩) (by have := Hbel.out.size; show b < _; omega)).trans Hcell.out
      clear hown hb hcell
      obtain ⟨A2, c2, e2, _, hr2⟩ := Hown2.out.form (n := (encL lk).length) (List.length_map _)
      subst e2
      have Hr2 := Box.mk hr2; clear hr2
      go_wp2_with fail
      refine (refencode_num lk lk.length rfl Ak ck w1.heap.size w2 Hbel2.out.size (HRk.out.below (Hb2.out.mono Hbel.out.size)) (by omega)).mono ?_
      rintro e w3 ⟨v3, rfl, hown, hb⟩
      have Hown3 := Box.mk hown; have Hb3 := Box.mk hb; have Hbel3 := Box.mk (Hbel2.out.trans (hb.mono Hbel2.out.size)); clear hown hb hcell2
      obtain ⟨A3, c3, e3, _, hr3⟩ := Hown3.out.form (n := (encL lk).length) (List.length_map _)
      subst e3
      have Hr3 := Box.mk hr3; clear hr3
      go_wp2_with fail
      refine (same_len true (encL lk) (encL lk) _ _ rfl rfl (beq_self_eq_true _) A2 A3 c2 c3 w3.heap.size w3 ((Hr2.out.below Hb3.out).more Hb3.out.size) Hr3.out).mono ?_
      rintro e w' ⟨rfl, rfl⟩
      go_wp2
      go_roundw
      case rel => exact ⟨k + 1, by go_num, by omega, Hbel3.out⟩
      case measure => simp [intOf]; omega
    · obtain rfl : k = la.length := by omega
      have Hsz := Box.mk Hbel.out.size
      go_wp2_with fail
      refine (encodeAll_any la us A1 c1 w1.heap.size wo Hbel.out.size (HR.out.below Hbel.out) (HS.out.below Hbel.out) (fun l hl => by have := Hle.out l hl; omega) (by have := Hlen.out; omega)).mono ?_
      rintro e w2 ⟨v2, rfl, hown, hb⟩
      have hall : ∀ l ∈ la, l.length ≤ 1048576 := fun l hl => by have := Hle.out l hl; omega
      rw [if_pos hall] at hown ⊢
      have Hall := Box.mk hall
      have Hown2 := Box.mk hown; have Hb2 := Box.mk (Hbel.out.trans (hb.mono Hbel.out.size)); clear hown hb hall
      obtain ⟨A2, c2, e2, _, hr2⟩ := Hown2.out.form (n := (encAll la).length) (List.length_map _)
      subst e2
      have Hr2 := Box.mk hr2; clear hr2
      go_wp2_with fail
      refine (known_any _).mono ?_
      rintro e w3 ⟨rfl, hb⟩
      have Hb3 := Box.mk (Hb2.out.trans (hb.mono Hb2.out.size)); have Hr2b := Box.mk ((Hr2.out.below hb).more hb.size); clear hb
      go_wp2_with fail
      refine (refAll_any la us A1 c1 w1.heap.size w3 Hb3.out.size (HR.out.below Hb3.out) (HS.out.below Hb3.out) Hall.out (by have := Hlen.out; omega)).mono ?_
      rintro e w4 ⟨v4, rfl, hown, hb⟩
      have Hown4 := Box.mk hown; have Hb4 := Box.mk (Hb3.out.trans (hb.mono Hb3.out.size)); have Hr2c := Box.mk ((Hr2b.out.below hb).more hb.size); clear hown hb
      obtain ⟨A4, c4, e4, _, hr4⟩ := Hown4.out.form (n := (encAll la).length) (List.length_map _)
      subst e4
      have Hr4 := Box.mk hr4; clear hr4
      go_wp2_with fail
      refine (same_len true (encAll la) (encAll la) _ _ rfl rfl (beq_self_eq_true _) A2 A4 c2 c4 w4.heap.size w4 Hr2c.out Hr4.out).mono ?_
      rintro e w' ⟨rfl, rfl⟩
      go_wp2
      go_ret
      exact ⟨rfl, Hb1.out.trans (Hb4.out.mono Hb1.out.size)⟩

end Go.Proofs.Ytnflcmpdaoobcaa
