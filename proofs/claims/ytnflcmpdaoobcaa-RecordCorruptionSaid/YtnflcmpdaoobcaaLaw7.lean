/- The walk of RecordCorruption. -/
import Derived.Test.YtnflcmpdaoobcaaLaw6
import Derived.Test.YtnflcmpdaoobcaaCorrLaw
namespace Go.Proofs.Ytnflcmpdaoobcaa
open Go.RowKit

/-- An owned row that is not empty: its block, its cells, a store into it. -/
theorem Own1.some_ {w : World} {base : Nat} {e : TypeId} {v : Value} {xs : List Value} (h : Own1 w base e v xs) {n : Nat} (hn : xs.length = n) (h0 : 0 < n) :
    ∃ g cap, v = .slice (some ⟨g, 0, none⟩) n cap ∧ n ≤ cap ∧ base ≤ g ∧ (∀ j, j < n → w.cell? ⟨g, j, none⟩ = xs[j]?) ∧ (∀ j, w.frozen? ⟨g, j, none⟩ = false) ∧
      ∀ j u, Own1 (w.setCell ⟨g, j, none⟩ u) base e (.slice (some ⟨g, 0, none⟩) n cap) (xs.set j u) := by
  subst hn
  have h' := h
  rcases h.2 with ⟨rfl, hz⟩ | ⟨g, cap, cur, rfl, hb, _, hc, _⟩
  · omega
  · refine ⟨g, cap, rfl, hc, hb, fun j hj => World.ownsRow.cellAt h' j (by omega), fun j => World.ownsRow.frozenAt h' j, fun j u => ?_⟩
    unfold Own1
    rw [List.length_set]
    exact (World.ownsRow.stored h' j u).1

set_option maxHeartbeats 2000000 in
theorem law7_any (ls : List (List UInt8)) (vs : List Value) (A : Option Addr) (c : Nat) (zw za zb : Nat) (hzw : zw < 256) (hza : za < 256) (hzb : zb < 256) (w : World) (hr : Reads w w.heap.size 1 A ls.length vs) (hs : Rows w (· < w.heap.size) bv vs ls) (hm : ∀ l ∈ ls, l.length ≤ 9223372036854775807) (hn : ls.length ≤ 9223372036854775807) :
    Calls Try.prog 9 #[.slice A ls.length c, .int .u8 zw, .int .u8 za, .int .u8 zb] w fun e w' => e = .returned (.bool true) ∧ Below w.heap.size w w' := by
  go_enter Try.func9, Try.ntmps9
  go_wp2_with fail
  refine (cut_any ls vs A c w hr hs hm hn).mono ?_
  rintro e w1 hpost
  obtain ⟨A1, c1, us, rfl, hc1, hr1, hs1, hb1⟩ := cut_then hpost
  clear hpost hr hs hm hn
  have hlen := cutL_length ls
  have hle := cutL_le ls
  obtain ⟨la, hla⟩ := gen (cutL ls)
  rw [← hla] at hlen hle hc1 hr1 hs1 ⊢
  clear hla
  have HR := Box.mk hr1; have HS := Box.mk hs1; have Hb1 := Box.mk hb1; have Hle := Box.mk hle; have Hlen := Box.mk hlen; have Hc1 := Box.mk hc1
  have hlen2 : la.length ≤ 1000000000 := by omega
  clear hr1 hs1 hb1 hle hlen hc1
  go_wp2_with fail
  refine (encodeAll_any la us A1 c1 w1.heap.size w1 (Nat.le_refl _) HR.out HS.out (fun l hl => by have := Hle.out l hl; omega) (by have := Hlen.out; omega)).mono ?_
  rintro e w2 ⟨v2, rfl, hown, hb⟩
  have hall : ∀ l ∈ la, l.length ≤ 1048576 := fun l hl => by have := Hle.out l hl; omega
  rw [if_pos hall] at hown ⊢
  have Hall := Box.mk hall
  have Hb2 := Box.mk hb
  have hbig := encAll_length la 200 Hle.out
  have hbig2 : la.length * (8 + 200) ≤ 20 * (8 + 200) := Nat.mul_le_mul_right _ Hlen.out
  have Hbig : Box ((encAll la).length ≤ 4160) := ⟨by omega⟩
  obtain ⟨A2, c2, e2, hc2, hr2⟩ := hown.form (n := (encAll la).length) (List.length_map _)
  subst e2
  have Hr2 := Box.mk hr2; have Hc2 := Box.mk hc2
  clear hown hb hall hbig hbig2 hr2 hc2
  by_cases h0 : la.length = 0
  · have hq0 : ((la.length : Int) == 0) = true := by rw [h0]; rfl
    clear h0
    go_wp2_with fail
    refine (known_any _).mono ?_
    rintro e w3 ⟨rfl, hb⟩
    have Hb3 := Box.mk (Hb1.out.trans ((Hb2.out.trans (hb.mono Hb2.out.size)).mono Hb1.out.size)); clear hb
    go_wp2
    go_ret
    exact ⟨rfl, Hb3.out⟩
  · have hq0 : ((la.length : Int) == 0) = false := by rw [beq_eq_false_iff_ne]; omega
    have hkm : zw % la.length < la.length := Nat.mod_lt _ (by omega)
    have hrem : (zw : Int) % (la.length : Int) = ((zw % la.length : Nat) : Int) := by norm_cast
    obtain ⟨k, hkz⟩ := gen (zw % la.length)
    rw [← hkz] at hkm hrem
    clear hkz
    have hpos : 0 < la.length := by omega
    have h1len : 1 ≤ (la.length : Int) := by omega
    clear h0
    go_wp2_with fail
    rw [hrem]
    clear hrem
    have Hsum : Box (∀ i, i ≤ la.length → (encAll (la.take i)).length ≤ 4160) := ⟨fun i hi => by
      have h1 := encAll_length (la.take i) 200 (take_mem_le Hle.out)
      have h2 : (la.take i).length ≤ 20 := by rw [List.length_take]; have := Hlen.out; omega
      have h3 : (la.take i).length * (8 + 200) ≤ 20 * (8 + 200) := Nat.mul_le_mul_right _ h2
      omega⟩
    go_loop [12, 13] (fun t i => ∃ j size : Nat, i = .int .i64 j ∧ t = .int .i64 size ∧ j ≤ k ∧ size = (encAll (la.take j)).length) (fun _ i => k - (intOf i).toNat)
    case atStart => exact ⟨0, 0, rfl, rfl, Nat.zero_le _, by simp [encAll]⟩
    case round =>
      obtain ⟨j, size, rfl, rfl, hj, hsz⟩ := hrel
      have Hsz := Box.mk hsz; clear hsz
      have hs4 : size ≤ 1000000000 := by rw [Hsz.out]; have := Hsum.out j (by omega); omega
      by_cases hlt : j < k
      · obtain ⟨b, off, Ak, ck, rfl, hcell, hck, hrk⟩ := rows_at (HR.out.below Hb2.out) (HS.out.below Hb2.out) (show j < la.length by omega)
        have hmk := Hle.out la[j] (List.getElem_mem _)
        have Hst : Box (size + (8 + la[j].length) = (encAll (la.take (j + 1))).length) := ⟨by rw [List.take_succ_eq_append_getElem (by omega), encAll_snoc, List.length_append, encL_length, Hsz.out]⟩
        obtain ⟨m, hmm⟩ := gen la[j].length
        rw [← hmm] at hcell Hst hmk
        clear hmm hrk hck
        have hjl : (j : Int) < la.length := by omega
        go_wp2
        go_round
        case rel => exact ⟨j + 1, size + (8 + m), by go_num, by go_num, by omega, Hst.out⟩
        case measure => simp [intOf]; omega
      · obtain rfl : j = k := by omega
        obtain ⟨b, off, Ak, ck, e1, hcell, _, _⟩ := rows_at (HR.out.below Hb2.out) (HS.out.below Hb2.out) hkm
        have hmk := Hle.out la[j] (List.getElem_mem _)
        have Hfit : Box (size + 8 + la[j].length ≤ (encAll la).length) := ⟨by
          have h1 : (encAll (la.take (j + 1))).length = size + (8 + la[j].length) := by rw [List.take_succ_eq_append_getElem hkm, encAll_snoc, List.length_append, encL_length, Hsz.out]
          have h2 : encAll la = encAll (la.take (j + 1)) ++ encAll (la.drop (j + 1)) := by rw [← encAll_append, List.take_append_drop]
          have h3 := congrArg List.length h2
          rw [List.length_append] at h3; omega⟩
        have Hcor := Box.mk (fun (i : Nat) (x : UInt8) (hi : i < 4 + la[j].length) => scan_corrupt la j i x Hall.out hkm hi)
        rw [← Hsz.out] at Hcor
        obtain ⟨m, hmm⟩ := gen la[j].length
        rw [← hmm] at hcell hmk Hfit Hcor
        clear hmm
        have hfit := Hfit.out
        have hL : (encAll la).length ≤ 1000000000 := by have := Hbig.out; omega
        obtain ⟨L, hLL⟩ := gen (encAll la).length
        rw [← hLL] at hfit hL Hr2 Hc2 Hbig ⊢
        have HLL := Box.mk hLL; clear hLL
        have hin : za % (4 + m) < 4 + m := Nat.mod_lt _ (by omega)
        have hrem : (za : Int) % (4 + (m : Int)) = ((za % (4 + m) : Nat) : Int) := by norm_cast
        obtain ⟨i, hiz⟩ := gen (za % (4 + m))
        rw [← hiz] at hin hrem
        clear hiz
        have hjl : (j : Int) < la.length := by omega
        subst e1
        go_wp2_with (at_builtin; refine stop_here ?_)
        refine ⟨wpList_app1 _ _ bytesTy rfl rfl rfl (Own1.new w2 5 #[] (by decide)) rfl (Hr2.out.alloc (Nat.le_refl _) _) (bv_one _) (by show (0 + L) * 1 ≤ _; omega) (by simp) ?_⟩
        intro v3 w3 hown _ _ hb
        have Hown3 : Box (Own1 w3 w2.heap.size 5 v3 ((encAll la).map bv)) := ⟨hown⟩
        have Hb3 := Box.mk (hb w2.heap.size w2 (Nat.le_refl _) ((Below.refl _ w2).alloc (Nat.le_refl _) _))
        clear hown hb
        obtain ⟨g, cap, e3, hcap, hg, hcl, hfr, hst⟩ := Hown3.out.some_ (n := L) (by rw [List.length_map]; exact HLL.out.symm) (by omega)
        subst e3
        have Hst := Box.mk hst; have Hfr := Box.mk hfr; have Hcl := Box.mk hcl; have Hg := Box.mk hg
        clear hst hfr hcl hg
        have hidx : size + (4 + i) < L := by omega
        obtain ⟨x0, hx0⟩ := gen ((encAll la)[size + (4 + i)]'(by rw [← HLL.out]; exact hidx))
        have hcell3 : w3.cell? ⟨g, size + 4 + i, none⟩ = some (.int .u8 (x0.toNat : Int)) := by
          rw [show size + 4 + i = size + (4 + i) by omega, Hcl.out _ hidx, List.getElem?_map, List.getElem?_eq_getElem (by rw [← HLL.out]; exact hidx), hx0]; rfl
        have hfr3 := Hfr.out (size + 4 + i)
        have hxb := byte_lt x0
        have hby : (zb : Int) % 255 = ((zb % 255 : Nat) : Int) := (Int.natCast_emod zb 255).symm
        have hby2 : zb % 255 < 255 := Nat.mod_lt _ (by omega)
        obtain ⟨y, hyy⟩ := gen (zb % 255)
        rw [← hyy] at hby hby2
        clear hyy
        have hxor : bits .xor .u8 (x0.toNat : Int) (1 + (y : Int)) = ((x0.toNat ^^^ (1 + y) : Nat) : Int) := u8_xor_nat x0.toNat (1 + y) hxb (by omega)
        have hxl : x0.toNat ^^^ (1 + y) < 256 := Nat.xor_lt_two_pow (n := 8) hxb (by omega)
        have hbvx : bv (UInt8.ofNat (x0.toNat ^^^ (1 + y))) = .int .u8 ((x0.toNat ^^^ (1 + y) : Nat) : Int) := by
          unfold bv
          rw [UInt8.toNat_ofNat', Nat.mod_eq_of_lt hxl]
        have hne : x0 ≠ UInt8.ofNat (x0.toNat ^^^ (1 + y)) := fun he => by
          have h1 := congrArg UInt8.toNat he
          rw [UInt8.toNat_ofNat', Nat.mod_eq_of_lt hxl] at h1
          have h2 : x0.toNat ^^^ x0.toNat = x0.toNat ^^^ (x0.toNat ^^^ (1 + y)) := congrArg (x0.toNat ^^^ ·) h1
          rw [Nat.xor_self, xor_cancel] at h2
          omega
        have Hcor2 := Box.mk (Hcor.out i (UInt8.ofNat (x0.toNat ^^^ (1 + y))) hin (by
          rw [List.getElem?_eq_getElem (by rw [← HLL.out]; exact hidx), ← hx0]
          intro he; injection he with he; exact hne he))
        have Hst2 := Box.mk (Hst.out (size + 4 + i) (bv (UInt8.ofNat (x0.toNat ^^^ (1 + y)))))
        rw [show size + (4 + i) = size + 4 + i by omega] at Hcor2
        obtain ⟨xr, hxr⟩ := gen (UInt8.ofNat (x0.toNat ^^^ (1 + y)))
        rw [← List.map_set, hbvx] at Hst2
        rw [← hxr] at Hst2 Hcor2
        obtain ⟨nx, hnx⟩ := gen (x0.toNat ^^^ (1 + y))
        rw [← hnx] at hxor hxl Hst2
        clear hx0 hne hxr hnx hbvx
        have Hb4 := Box.mk (Hb3.out.setCell (p := ⟨g, size + 4 + i, none⟩) Hg.out (.int .u8 (nx : Int)))
        have Hsh : Box ((la.take j).length = j) := ⟨by rw [List.length_take]; omega⟩
        have Hlx : Box (((encAll la).set (size + 4 + i) xr).length = L) := ⟨by rw [List.length_set]; exact HLL.out.symm⟩
        have hjc : j ≤ c1 := by have := Hc1.out; omega
        go_wp2_with fail
        obtain ⟨w4, hw4⟩ := gen (w3.setCell ⟨g, size + 4 + i, none⟩ (.int .u8 (nx : Int)))
        rw [← hw4] at Hb4 Hst2 ⊢
        clear hw4 hcell3 hfr3
        have HrC := Box.mk ((Hst2.out.reads (Nat.le_refl _)).1)
        refine (scan_num ((encAll la).set (size + 4 + i) xr) L Hlx.out _ cap w4.heap.size w4 (Nat.le_refl _) HrC.out hL hcap).mono ?_
        rintro e w5 ⟨v5, us5, rfl, hown, hrows, hb⟩
        rw [Hcor2.out] at hrows ⊢
        have Hown5 := Box.mk hown
        have Hrows5 := Box.mk (hrows.mono (S' := (· < w5.heap.size)) fun b h => h.1)
        have Hb5 := Box.mk (Hb2.out.trans ((Hb4.out.trans (hb.mono Hb4.out.size)).mono Hb2.out.size))
        clear hown hrows hb
        obtain ⟨A5, c5, e5, _, hr5⟩ := Hown5.out.form (n := j) (by rw [Hrows5.out.1]; exact Hsh.out)
        subst e5
        have Hr5 := Box.mk hr5; clear hr5
        have HRk : Box (Reads w5 w1.heap.size 1 (some ⟨b, off, none⟩) j (us.take j)) := ⟨by
          have h := (HR.out.below Hb5.out).take_ (k := j) (by omega)
          rwa [Nat.mul_one] at h⟩
        have HSk := Box.mk ((HS.out.below Hb5.out).take_ j)
        go_wp2_with fail
        refine (known_any _).mono ?_
        rintro e w6 ⟨rfl, hb⟩
        have Hb6 := Box.mk (Hb5.out.trans (hb.mono Hb5.out.size))
        have Hr6 := Box.mk ((Hr5.out.below hb).more hb.size)
        have Hrows6 := Box.mk ((Hrows5.out.below hb).mono (S' := (· < w6.heap.size)) fun b h => Nat.lt_of_lt_of_le h hb.size)
        have HRk6 := Box.mk ((HRk.out.below (hb.mono Hb5.out.size)).more Hb6.out.size)
        have HSk6 := Box.mk ((HSk.out.below (hb.mono Hb5.out.size)).mono (S' := (· < w6.heap.size)) fun b h => Nat.lt_of_lt_of_le h Hb6.out.size)
        clear hb
        go_wp2_with fail
        refine (sames_num true (la.take j) (la.take j) j j Hsh.out Hsh.out (by simp) us5 (us.take j) A5 _ c5 c1 w6.heap.size w6 Hr6.out Hrows6.out HRk6.out HSk6.out (by omega) (by omega)).mono ?_
        rintro e w7 ⟨rfl, nd, rfl⟩
        go_wp2
        go_ret
        exact ⟨by simp, below_drewN (Hb1.out.trans (Hb6.out.mono Hb1.out.size)) nd⟩

theorem corr_at (ls : List (List UInt8)) (vs : List Value) (A : Option Addr) (c : Nat) (z1 z2 z3 : Int) (h1 : (Lit.int .u8 z1).wf = true) (h2 : (Lit.int .u8 z2).wf = true) (h3 : (Lit.int .u8 z3).wf = true) (w : World) (hr : Reads w w.heap.size 1 A ls.length vs) (hs : Rows w (· < w.heap.size) bv vs ls) (hm : ∀ l ∈ ls, l.length ≤ 9223372036854775807) (hn : ls.length ≤ 9223372036854775807) :
    Calls Try.prog 9 #[.slice A ls.length c, .int .u8 z1, .int .u8 z2, .int .u8 z3] w fun e w' => e = .returned (.bool true) ∧ Below w.heap.size w w' := by
  obtain ⟨n1, hn1, rfl⟩ := u8_nat z1 h1
  obtain ⟨n2, hn2, rfl⟩ := u8_nat z2 h2
  obtain ⟨n3, hn3, rfl⟩ := u8_nat z3 h3
  exact law7_any ls vs A c n1 n2 n3 hn1 hn2 hn3 w hr hs hm hn

end Go.Proofs.Ytnflcmpdaoobcaa
