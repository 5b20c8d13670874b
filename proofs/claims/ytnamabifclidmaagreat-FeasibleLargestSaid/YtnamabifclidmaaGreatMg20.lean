/- Layer 28: Settle. -/
import Derived.Test.YtnamabifclidmaaGreatMg19
namespace Go.Proofs.YtnamabifclidmaaGreat
open Go.RowKit

def inS (S : List Int) (x : Int) : Bool := decide (x ∈ S)
abbrev fnS (S : List Int) : AV := .fn 72 [.d (.ptr (.sl none (S.map intD)))]
set_option maxRecDepth 100000 in
theorem settle2_p (S : List Int) (x : Int) (hS : S.length ≤ 100000) : PCalls Tryz.prog 72 [.d (intD x), .d (.ptr (.sl none (S.map intD)))] (boolD (inS S x)) := by
  refine ZaB Tryz.func72 rfl rfl Tryz.ntmps72 rfl rfl rfl fun F hF => ?_;refine Zaf ?_;refine Zab ?_;refine Zaa.go (Zac rfl rfl) ?_;refine Zae ?_;refine Zaf ?_;refine Zab ?_
  first | refine Zaa.go (Zas rfl rfl on26 rfl) ?_ | refine Zaa.go (Zai rfl rfl rfl on26 rfl) ?_ | refine Zaa.go (ZaI rfl rfl (rfl) rfl on26 rfl) ?_
  refine Zaa.go (Zad rfl rfl) ?_;refine Zaa.go (Zau (contains_p S x (by omega)) rfl rfl) ?_;refine Zaa.go (Zac rfl rfl) ?_;refine Zae ?_;refine Zao ?_;exact ⟨_, [], [], Zan rfl, rfl, rfl, rfl, rfl⟩
set_option maxRecDepth 100000 in
theorem indexS_p (S l : List Int) (hS : S.length ≤ 100000) (hl : l.length ≤ 100000000) : PCalls Tryz.prog 95 [.d (.sl none (l.map intD)), fnS S] (intD (ixF (inS S) l)) := by
  refine ZaB Tryz.func95 rfl rfl Tryz.ntmps95 rfl rfl rfl fun F hF => ?_;refine Zaf ?_;refine Zab ?_;refine Zaa.go (Zac rfl rfl) ?_;refine Zae ?_;refine Zaf ?_;refine Zaf ?_;refine Zab ?_;refine Zaa.go (Zad rfl rfl) ?_
  first | refine Zaa.go (Zax rfl Tryz.underlying26 rfl) ?_ | refine Zaa.go (Zbr rfl rfl Tryz.underlying26 rfl) ?_ | refine Zaa.go (Zbq rfl Tryz.underlying26 rfl) ?_ | refine Zaa.go (Zbj rfl Tryz.underlying26 rfl) ?_ | refine Zaa.go (Zbp rfl Tryz.underlying26 rfl) ?_
  refine Zaa.go (Zad rfl rfl) ?_;refine Zae ?_;refine Zaq ?_;refine a_loop (α := Nat) (fun k => ⟨19, [(0, .d (.sl none (l.map intD))), (1, fnS S), (7, (.d (intD (l.length : Int)))), (8, (.d (intD (k : Int))))], []⟩) (fun k => k ≤ l.length ∧ ∀ x ∈ l.take k, inS S x = false) (fun k => l.length - k) (0) (⟨Nat.zero_le _, by simp⟩) (ZbE ⟨rfl, rfl, rfl, rfl, trivial⟩) ?_;rintro k ⟨hk0, hk⟩;refine Zaf ?_;refine Zab ?_
  first | refine Zaa.go (ZaK rfl rfl rfl) ?_ | refine Zaa.go (Zbm rfl rfl rfl) ?_
  refine Zae ?_;refine Zaf ?_
  first | refine ZaG rfl (fun h9 => ?_) (fun h9 => ?_) | refine Za1 rfl (fun h9 => ?_) (fun h9 => ?_)
  · have hk1 : k < l.length := ZaM h9;refine Zap ?_;refine Zaf ?_;refine Zaq ?_;refine Zaf ?_;refine Zab ?_;refine Zaa.go (Zad rfl rfl) ?_;refine Zaa.go (Zac rfl rfl) ?_;refine Zae ?_;refine Zaf ?_;refine Zab ?_;refine Zaa.go (Zad rfl rfl) ?_;refine Zaa.go (Zad rfl rfl) ?_;refine Zaa.go (Zad rfl rfl) ?_
    first | refine Zaa.go (Zay (k) rfl rfl (rfl) (getm hk1) Tryz.underlying26 rfl sz3 rfl) ?_ | refine Zaa.go (Zbe (k) rfl rfl (rfl) (getm hk1) rfl Tryz.underlying26 sz3 rfl) ?_
    first | refine Zaa.go (Zas rfl rfl on3 rfl) ?_ | refine Zaa.go (Zai rfl rfl rfl on3 rfl) ?_ | refine Zaa.go (ZaI rfl rfl (rfl) rfl on3 rfl) ?_
    refine Zaa.go (st_callVP (settle2_p S l[k] hS) rfl rfl) ?_;refine Zae ?_
    first | refine ZaG rfl (fun h16 => ?_) (fun h16 => ?_) | refine Za1 rfl (fun h16 => ?_) (fun h16 => ?_)
    · refine Zaf ?_;refine Zab ?_;refine Zaa.go (Zad rfl rfl) ?_;refine Zaa.go (Zac rfl rfl) ?_;refine Zae ?_;refine Zao ?_;exact ⟨_, [], [], Zan rfl, rfl, rfl, retI (by unfold ixF; rw [fidx_at hk1 hk (by unfold inS; simpa using h16)]), rfl⟩
    · refine Zap ?_;refine Zab ?_;refine Zaa.go (Zaz rfl rfl (wrapS (k + 1) (by omega)) rfl) ?_;refine Zaa.go (Zad rfl rfl) ?_;refine Zae ?_;exact ⟨k + 1, ⟨by show k + 1 ≤ _; omega, by rw [List.take_succ_eq_append_getElem hk1]; intro x hx; rcases List.mem_append.1 hx with hx | hx; exact hk x hx; rw [List.mem_singleton.1 hx]; unfold inS; simpa using h16⟩, by show l.length - (k + 1) < l.length - k; omega, ⟨rfl, rfl, fun _ _ => Has.get (l := [(0, _), (1, _), (7, _), (8, _)]) ⟨rfl, rfl, rfl, rfl, trivial⟩⟩⟩
  · refine ZaQ ?_;refine Zaf ?_;refine Zab ?_;refine Zaa.go (Zac rfl rfl) ?_;refine Zae ?_;refine Zao ?_;exact ⟨_, [], [], Zan rfl, rfl, rfl, retI (by unfold ixF; rw [fidx_no (fun x hx => hk x (by rw [List.take_of_length_le (by have h := h9; omega)]; exact hx))]), rfl⟩
def kept (S l : List Int) : List Int := l.filter fun x => !inS S x
theorem kept_all {S l : List Int} (h : ∀ x ∈ l, inS S x = false) : kept S l = l := List.filter_eq_self.2 fun x hx => by rw [h x hx]; rfl
theorem kept_in {S l : List Int} {k : Nat} (hk : k < l.length) (h : inS S l[k] = false) : kept S (l.take (k + 1)) = kept S (l.take k) ++ [l[k]] := by
  unfold kept; rw [flt_snoc hk, if_pos (by rw [h]; rfl)]
theorem kept_out {S l : List Int} {k : Nat} (hk : k < l.length) (h : inS S l[k] = true) : kept S (l.take (k + 1)) = kept S (l.take k) := by
  unfold kept; rw [flt_snoc hk, if_neg (by rw [h]; simp), List.append_nil]
set_option maxRecDepth 100000 in
theorem delI_c (S l : List Int) (hS : S.length ≤ 100000) (hl : l.length ≤ 100000) : ACalls Tryz.prog 71 [.own 930 0 l.length, fnS S] [(930, [.rowD 3 1 (l.map intD)])] fun r H' => r = .own 930 0 (kept S l).length ∧ H' = [(930, [.rowD 3 1 ((kept S l ++ List.replicate (l.length - (kept S l).length) 0).map intD)])] := by
  have hix := indexS_p S l hS (by omega)
  cases hfi : l.findIdx? (inS S) with
  | none =>
    have hall : ∀ x ∈ l, inS S x = false := fun x hx => by have := List.findIdx?_eq_none_iff.1 hfi x hx; simpa using this
    have hix2 : ixF (inS S) l = -1 := by unfold ixF; rw [hfi]
    rw [hix2] at hix;have hkp := kept_all hall;refine ZaB Tryz.func71 rfl rfl Tryz.ntmps71 rfl rfl rfl fun F hF => ?_;refine Zaf ?_;refine Zab ?_;refine Zaa.go (Zac rfl rfl) ?_;refine Zae ?_;refine Zaf ?_;refine Zab ?_;refine Zaa.go (Zad rfl rfl) ?_;refine Zaa.go (Zad rfl rfl) ?_;refine Zaa.go (st_callPB [930] hix (by exact ⟨.inr ⟨_, _, rfl, .own rfl rfl (by simp) (List.take_of_length_le (by simp)), rfl⟩, .inl rfl, trivial⟩) rfl rfl) ?_;refine Zaa.go (Zac rfl rfl) ?_;refine Zae ?_;refine Zaf ?_;refine Zaf ?_;refine Zab ?_;refine Zaa.go (Zad rfl rfl) ?_
    first | refine Zaa.go (Za6 rfl rfl rfl) ?_ | refine Zaa.go (ZaZ rfl rfl rfl) ?_ | refine Zaa.go (st_eqlS rfl rfl rfl) ?_ | refine Zaa.go (st_eqlB Tryz.underlying3 rfl rfl rfl) ?_ | refine Zaa.go (st_eqlP Tryz.underlying3 rfl rfl rfl) ?_ | refine Zaa.go (ZbY Tryz.underlying3 rfl rfl) ?_ | refine Zaa.go (st_eqlF Tryz.underlying3 rfl rfl rfl) ?_ | refine Zaa.go (Zce Tryz.underlying3 rfl rfl) ?_
    refine Zae ?_;refine ZaS rfl (rfl) ?_;refine Zaf ?_;refine Zab ?_;refine Zaa.go (Zad rfl rfl) ?_;refine Zaa.go (Zac rfl rfl) ?_;refine Zae ?_;refine Zao ?_;exact ⟨_, [930], _, Zan rfl, rfl, rfl, by rw [hkp], by rw [hkp]; simp⟩
  | some k0 =>
    obtain ⟨hk0, hk0p, hk0n⟩ := List.findIdx?_eq_some_iff_getElem.1 hfi;have hix2 : ixF (inS S) l = (k0 : Int) := by unfold ixF; rw [hfi]
    rw [hix2] at hix
    have hpre : ∀ x ∈ l.take k0, inS S x = false := fun x hx => by
      obtain ⟨j, hj, rfl⟩ := List.mem_take_iff_getElem.1 hx;have := hk0n j (by omega)
      simpa using this
    have hst : kept S (l.take (k0 + 1)) = l.take k0 := by rw [kept_out hk0 hk0p, kept_all hpre]
    refine ZaB Tryz.func71 rfl rfl Tryz.ntmps71 rfl rfl rfl fun F hF => ?_;refine Zaf ?_;refine Zab ?_;refine Zaa.go (Zac rfl rfl) ?_;refine Zae ?_;refine Zaf ?_;refine Zab ?_;refine Zaa.go (Zad rfl rfl) ?_;refine Zaa.go (Zad rfl rfl) ?_;refine Zaa.go (st_callPB [930] hix (by exact ⟨.inr ⟨_, _, rfl, .own rfl rfl (by simp) (List.take_of_length_le (by simp)), rfl⟩, .inl rfl, trivial⟩) rfl rfl) ?_;refine Zaa.go (Zac rfl rfl) ?_;refine Zae ?_;refine Zaf ?_;refine Zaf ?_;refine Zab ?_;refine Zaa.go (Zad rfl rfl) ?_
    first | refine Zaa.go (Za6 rfl rfl rfl) ?_ | refine Zaa.go (ZaZ rfl rfl rfl) ?_ | refine Zaa.go (st_eqlS rfl rfl rfl) ?_ | refine Zaa.go (st_eqlB Tryz.underlying3 rfl rfl rfl) ?_ | refine Zaa.go (st_eqlP Tryz.underlying3 rfl rfl rfl) ?_ | refine Zaa.go (ZbY Tryz.underlying3 rfl rfl) ?_ | refine Zaa.go (st_eqlF Tryz.underlying3 rfl rfl rfl) ?_ | refine Zaa.go (Zce Tryz.underlying3 rfl rfl) ?_
    refine Zae ?_;refine ZaX rfl ((decide_eq_false (by omega))) ?_;refine Zap ?_;refine Zaf ?_;refine Zaf ?_;refine Zab ?_;refine Zaa.go (Zad rfl rfl) ?_;refine Zaa.go (Zaz rfl rfl (wrapS (k0 + 1) (by omega)) rfl) ?_;refine Zaa.go (Zac rfl rfl) ?_;refine Zae ?_;refine Zaq ?_;refine ZaU (α := Nat × Nat × List Int) (fun q => ⟨42, [(0, (.own 930 0 l.length)), (1, (fnS S)), (5, (.d (intD (q.1 : Int)))), (6, (.d (intD (q.2.1 : Int))))], [(930, [.rowD 3 1 (q.2.2.map intD)])]⟩) (fun q => q.2.1 ≤ l.length ∧ q.1 < q.2.1 ∧ q.2.2.length = l.length ∧ q.2.2.take q.1 = kept S (l.take q.2.1) ∧ q.2.2.drop q.2.1 = l.drop q.2.1) (fun q => l.length - q.2.1) ((k0, k0 + 1, l)) (⟨by show k0 + 1 ≤ _; omega, Nat.lt_succ_self _, rfl, hst.symm, rfl⟩) (Zaw hF [930] rfl rfl ⟨rfl, rfl, rfl, rfl, trivial⟩) ?_;rintro ⟨i, j, c⟩ ⟨hj0, hij, hcl, hct, hcd⟩;dsimp only at hj0 hij hcl hct hcd ⊢;refine Zaf ?_;refine Zaf ?_;refine Zab ?_;refine Zaa.go (Zad rfl rfl) ?_;refine Zaa.go (Zad rfl rfl) ?_
    first | refine Zaa.go (Zax rfl Tryz.underlying26 rfl) ?_ | refine Zaa.go (Zbr rfl rfl Tryz.underlying26 rfl) ?_ | refine Zaa.go (Zbq rfl Tryz.underlying26 rfl) ?_ | refine Zaa.go (Zbj rfl Tryz.underlying26 rfl) ?_ | refine Zaa.go (Zbp rfl Tryz.underlying26 rfl) ?_
    first | refine Zaa.go (ZaK rfl rfl rfl) ?_ | refine Zaa.go (Zbm rfl rfl rfl) ?_
    refine Zae ?_
    first | refine ZaG rfl (fun h19 => ?_) (fun h19 => ?_) | refine Za1 rfl (fun h19 => ?_) (fun h19 => ?_)
    · have hj1 : j < l.length := ZaM h19;refine Zap ?_;refine Zaf ?_;refine Zaq ?_;refine Zaf ?_;refine Zab ?_;have hjc : j < c.length := by omega
      have hcj : c[j] = l[j] := by have h1 : (c.drop j)[0]? = (l.drop j)[0]? := by { rw [hcd] }; rw [List.getElem?_drop, List.getElem?_drop, Nat.add_zero, List.getElem?_eq_getElem hjc, List.getElem?_eq_getElem hj1] at h1; injection h1
      refine Zaa.go (Zad rfl rfl) ?_;refine Zaa.go (Zad rfl rfl) ?_
      first | refine Zaa.go (Zay (j) rfl rfl (rfl) (hj1) Tryz.underlying26 rfl sz3 rfl) ?_ | refine Zaa.go (Zbe (j) rfl rfl (rfl) (hj1) rfl Tryz.underlying26 sz3 rfl) ?_
      first | refine Zaa.go (Zas rfl rfl on3 rfl) ?_ | refine Zaa.go (Zai rfl rfl rfl on3 rfl) ?_ | refine Zaa.go (ZaI rfl rfl (getm hjc) rfl on3 rfl) ?_
      refine Zaa.go (Zac rfl rfl) ?_;refine Zae ?_;refine Zaf ?_;refine Zab ?_;refine Zaa.go (Zad rfl rfl) ?_;refine Zaa.go (Zad rfl rfl) ?_;refine Zaa.go (st_callVP (settle2_p S c[j] hS) rfl rfl) ?_
      first | refine Zaa.go (Zbd rfl rfl) ?_ | refine Zaa.go (Zbu rfl rfl) ?_
      refine Zae ?_
      first | refine ZaG rfl (fun h29 => ?_) (fun h29 => ?_) | refine Za1 rfl (fun h29 => ?_) (fun h29 => ?_)
      · have hkj : inS S l[j] = false := by rw [← hcj]; unfold inS; simpa using h29
        refine Zaf ?_;refine Zab ?_;refine Zaa.go (Zad rfl rfl) ?_;refine Zaa.go (Zad rfl rfl) ?_;refine Zaa.go (Zad rfl rfl) ?_
        first | refine Zaa.go (Zay (i) rfl rfl (rfl) ((by omega)) Tryz.underlying26 rfl sz3 rfl) ?_ | refine Zaa.go (Zbe (i) rfl rfl (rfl) ((by omega)) rfl Tryz.underlying26 sz3 rfl) ?_
        refine Zal.go (st_storeM (c) (c[j]) rfl rfl rfl rfl rfl rfl (by omega) rfl sz3) ?_;refine Zae ?_;refine Zab ?_;refine Zaa.go (Zad rfl rfl) ?_;refine Zaa.go (Zaz rfl rfl (wrapS (i + 1) (by omega)) rfl) ?_;refine Zaa.go (Zac rfl rfl) ?_;refine Zae ?_;refine Zab ?_;refine Zaa.go (Zad rfl rfl) ?_;refine Zaa.go (Zaz rfl rfl (wrapS (j + 1) (by omega)) rfl) ?_;refine Zaa.go (Zac rfl rfl) ?_;refine Zae ?_;exact ⟨(i + 1, j + 1, _), ⟨by show j + 1 ≤ _; omega, by show i + 1 < j + 1; omega, by show (c.set i c[j]).length = _; rw [List.length_set]; exact hcl, by show (c.set i c[j]).take (i + 1) = kept S (l.take (j + 1)); rw [kept_in hj1 hkj, ← hct, List.take_succ_eq_append_getElem (by rw [List.length_set]; omega), List.getElem_set_self, List.take_set_of_le (Nat.le_refl i), hcj], by show (c.set i c[j]).drop (j + 1) = l.drop (j + 1); rw [List.drop_set_of_lt (by omega), ← List.tail_drop, ← List.tail_drop, hcd]⟩, by show l.length - (j + 1) < l.length - j; omega, Zaw hF [930] rfl (rfl) ⟨rfl, rfl, rfl, rfl, trivial⟩⟩
      · have hkj : inS S l[j] = true := by rw [← hcj]; unfold inS; simpa using h29
        refine Zap ?_;refine Zab ?_;refine Zaa.go (Zad rfl rfl) ?_;refine Zaa.go (Zaz rfl rfl (wrapS (j + 1) (by omega)) rfl) ?_;refine Zaa.go (Zac rfl rfl) ?_;refine Zae ?_;exact ⟨(i, j + 1, c), ⟨by show j + 1 ≤ _; omega, by show i < j + 1; omega, hcl, by show c.take i = kept S (l.take (j + 1)); rw [kept_out hj1 hkj, hct], by show c.drop (j + 1) = l.drop (j + 1); rw [← List.tail_drop, ← List.tail_drop, hcd]⟩, by show l.length - (j + 1) < l.length - j; omega, Zaw hF [930] rfl (rfl) ⟨rfl, rfl, rfl, rfl, trivial⟩⟩
    · refine ZaQ ?_;refine Zaf ?_;have hje : j = l.length := by have h := h19; omega
      have hfin : c.take i = kept S l := by rw [hct, hje, List.take_length]
      have hil : i = (kept S l).length := by rw [← hfin, List.length_take]; omega
      refine Zab ?_;refine Zaa.go (Zad rfl rfl) ?_;refine Zaa.go (Zad rfl rfl) ?_;refine o_clearTail (emb := intD) (zd := 0) c i rfl rfl rfl rfl hcl.symm rfl (by omega) Tryz.underlying26 sz3 Tryz.zeroValue3 rfl rfl rfl rfl rfl rfl ?_;refine Zae ?_;refine Zaf ?_;refine Zab ?_;refine Zaa.go (Zad rfl rfl) ?_;refine Zaa.go (Zad rfl rfl) ?_
      first | refine Zaa.go (st_sliceHi (i) rfl rfl rfl (by simp only [List.length_map, List.length_append, List.length_take, List.length_replicate]; omega) Tryz.underlying26 sz3 (by simp [D.cells, byteD]) (rfl) rfl) ?_ | refine Zaa.go (st_sliceO (i) rfl rfl rfl (by simp only [List.length_map, List.length_append, List.length_take, List.length_replicate]; omega) rfl Tryz.underlying26 sz3 rfl) ?_
      refine Zaa.go (Zac rfl rfl) ?_;refine Zae ?_;refine Zao ?_;exact ⟨_, [930], _, Zan rfl, rfl, rfl, by rw [← hil], by rw [hfin, hcl, hil]⟩
end Go.Proofs.YtnamabifclidmaaGreat
/- Layer 28: Settle, continued. -/
namespace Go.Proofs.YtnamabifclidmaaGreat
open Go.RowKit

set_option maxRecDepth 100000 in
theorem cloneI_c (l : List Int) (hl : l.length ≤ 1000000) : ACalls Tryz.prog 94 [.d (.sl none (l.map intD))] [] fun r H' => r = .own 20 0 l.length ∧ H' = [(20, [.rowD 3 1 (l.map intD)])] := by
  refine ZaB Tryz.func94 rfl rfl Tryz.ntmps94 rfl rfl rfl fun F hF => ?_;refine Zaf ?_;refine Zab ?_;refine Zaa.go (Zac rfl rfl) ?_;skip;refine Zae ?_;refine Zaf ?_;refine Zaf ?_;refine Zab ?_;refine Zaa.go (Zad rfl rfl) ?_;refine o_nilSplit 3 rfl (fun h0 => ?_) ?_
  · first | refine Zaa.go (Za6 rfl rfl rfl) ?_ | refine Zaa.go (ZaZ rfl rfl rfl) ?_ | refine Zaa.go (st_eqlS rfl rfl rfl) ?_ | refine Zaa.go (st_eqlB Tryz.underlying26 rfl rfl rfl) ?_ | refine Zaa.go (st_eqlP Tryz.underlying26 rfl rfl rfl) ?_ | refine Zaa.go (ZbY Tryz.underlying26 rfl rfl) ?_ | refine Zaa.go (st_eqlF Tryz.underlying26 rfl rfl rfl) ?_ | refine Zaa.go (Zce Tryz.underlying26 rfl rfl) ?_
    refine Zae ?_;refine ZaS rfl (rfl) ?_;refine Zaf ?_;refine Zab ?_;refine Zaa.go (Zac rfl rfl) ?_;refine o_adopt 2 20 sl26 rfl rfl rfl rfl ?_;refine Zae ?_;refine Zao ?_;exact ⟨_, [20], _, Zan rfl, rfl, rfl, by rw [← List.length_map (f := intD), h0]; rfl, by rw [h0]⟩
  · first | refine Zaa.go (Za6 rfl rfl rfl) ?_ | refine Zaa.go (ZaZ rfl rfl rfl) ?_ | refine Zaa.go (st_eqlS rfl rfl rfl) ?_ | refine Zaa.go (st_eqlB Tryz.underlying26 rfl rfl rfl) ?_ | refine Zaa.go (st_eqlP Tryz.underlying26 rfl rfl rfl) ?_ | refine Zaa.go (ZbY Tryz.underlying26 rfl rfl) ?_ | refine Zaa.go (st_eqlF Tryz.underlying26 rfl rfl rfl) ?_ | refine Zaa.go (Zce Tryz.underlying26 rfl rfl) ?_
    refine Zae ?_;refine ZaX rfl (rfl) ?_;refine Zap ?_;refine Zaf ?_;refine Zab ?_;refine Zal.go (ZaJ 20 sl26 rfl rfl rfl rfl rfl rfl rfl rfl) ?_;refine Zaa.go (Zad rfl rfl) ?_
    first | refine Zal.go (Zbn (([] : List Int)) (l) rfl rfl rfl rfl rfl rfl rfl rfl sl26 (by simp only [List.length_nil]; omega) rfl rfl rfl rfl) ?_ | refine Zal.go (Zbz (([] : List Int)) (l) rfl rfl rfl rfl rfl rfl (fun _ => rfl) sl26 (by simp only [List.length_nil]; omega) rfl rfl rfl rfl) ?_
    refine Zaa.go (Zac rfl rfl) ?_;skip;refine Zae ?_;refine Zao ?_;exact ⟨_, [20], _, Zan rfl, rfl, rfl, by simp, by simp⟩
set_option maxRecDepth 100000 in
theorem clone_c (i : Itm) (g1 : i.po.length ≤ 1000000) (g2 : i.pa.length ≤ 1000000) (g3 : i.af.length ≤ 1000000) : ACalls Tryz.prog 70 [.d (itmD i)] [] fun r H' => r = .agg [.d (intD i.id), .d (intD i.pr), .d (intD i.sq), .d (.sl none (i.po.map postD)), .d (.sl none (i.pa.map payD)), .own 20 0 i.af.length] ∧ H' = [(20, [.rowD 3 1 (i.af.map intD)])] := by
  refine ZaB Tryz.func70 rfl rfl Tryz.ntmps70 rfl rfl rfl fun F hF => ?_;refine Zaf ?_;refine Zab ?_;refine Zal.go (ZaP 1 rfl rfl rfl rfl rfl rfl rfl) ?_;refine Zal.go (ZaR 2 zl100 rfl rfl rfl rfl) ?_;refine Zae ?_;refine Zaf ?_;refine Za4 [[], [0], [0, 1], [], [3], [0, 1, 2, 3, 4], [], [6], [0, 1, 2, 3, 4, 5, 6, 7], [0, 1, 2, 3, 4, 6, 7], [0, 1, 2, 3, 4, 5, 6, 7, 8, 9], [0, 1, 2, 3, 4, 5, 6, 7, 8, 9, 10], [0, 1, 2, 3, 4, 5, 6, 7, 8, 9, 10, 11], [0, 1, 2, 3, 4, 5, 6, 7, 8, 9, 10, 11, 12], [0, 1, 2, 3, 4, 5, 6, 7, 8, 9, 10, 11, 12, 13]] mixed rfl ?_;refine dws ?_
  first | refine Zaj [1] [] rfl rfl (fun _ => Zag (Zah rfl Zby rfl rfl rfl)) ?_ | refine Zat [1] rfl rfl (fun _ => Zag (Zah rfl Zby rfl rfl rfl)) ?_ | refine Zaj [1] [] rfl rfl (fun _ => Zag (ZaH rfl Zby rfl rfl rfl)) ?_ | refine Zat [1] rfl rfl (fun _ => Zag (ZaH rfl Zby rfl rfl rfl)) ?_ | refine Zaj [1] [] rfl rfl (fun _ => Zag (ZaN rfl Zby rfl rfl rfl)) ?_ | refine Zat [1] rfl rfl (fun _ => Zag (ZaN rfl Zby rfl rfl rfl)) ?_ | refine Zaj [1] [] rfl rfl (fun _ => Zag (ZaW rfl Zby rfl rfl rfl)) ?_ | refine Zat [1] rfl rfl (fun _ => Zag (ZaW rfl Zby rfl rfl rfl)) ?_
  first | refine Zaj [3] [1] rfl rfl (fun _ => Zag (Zas rfl rfl on97 rfl)) ?_ | refine Zaj [3] [1] rfl rfl (fun _ => Zag (Zai rfl rfl rfl on97 rfl)) ?_ | refine Zaj [3] [1] rfl rfl (fun _ => Zag (ZaI rfl rfl (rfl) rfl on97 rfl)) ?_
  first | refine Zaj [4] [] rfl rfl (fun _ => Zag (Zau (cloneP_p i.po g1) rfl rfl)) ?_ | refine Zat [4] rfl rfl (fun _ => Zag (Zau (cloneP_p i.po g1) rfl rfl)) ?_
  first | refine Zaj [1] [] rfl rfl (fun _ => Zag (Zah rfl ZbO rfl rfl rfl)) ?_ | refine Zat [1] rfl rfl (fun _ => Zag (Zah rfl ZbO rfl rfl rfl)) ?_ | refine Zaj [1] [] rfl rfl (fun _ => Zag (ZaH rfl ZbO rfl rfl rfl)) ?_ | refine Zat [1] rfl rfl (fun _ => Zag (ZaH rfl ZbO rfl rfl rfl)) ?_ | refine Zaj [1] [] rfl rfl (fun _ => Zag (ZaN rfl ZbO rfl rfl rfl)) ?_ | refine Zat [1] rfl rfl (fun _ => Zag (ZaN rfl ZbO rfl rfl rfl)) ?_ | refine Zaj [1] [] rfl rfl (fun _ => Zag (ZaW rfl ZbO rfl rfl rfl)) ?_ | refine Zat [1] rfl rfl (fun _ => Zag (ZaW rfl ZbO rfl rfl rfl)) ?_
  first | refine Zaj [6] [1] rfl rfl (fun _ => Zag (Zas rfl rfl on98 rfl)) ?_ | refine Zaj [6] [1] rfl rfl (fun _ => Zag (Zai rfl rfl rfl on98 rfl)) ?_ | refine Zaj [6] [1] rfl rfl (fun _ => Zag (ZaI rfl rfl (rfl) rfl on98 rfl)) ?_
  first | refine Zaj [7] [] rfl rfl (fun _ => Zag (Zau (cloneY_p i.pa g2) rfl rfl)) ?_ | refine Zat [7] rfl rfl (fun _ => Zag (Zau (cloneY_p i.pa g2) rfl rfl)) ?_
  first | refine Zaj [1] [] rfl rfl (fun _ => Zag (Zah rfl Zbs rfl rfl rfl)) ?_ | refine Zat [1] rfl rfl (fun _ => Zag (Zah rfl Zbs rfl rfl rfl)) ?_ | refine Zaj [1] [] rfl rfl (fun _ => Zag (ZaH rfl Zbs rfl rfl rfl)) ?_ | refine Zat [1] rfl rfl (fun _ => Zag (ZaH rfl Zbs rfl rfl rfl)) ?_ | refine Zaj [1] [] rfl rfl (fun _ => Zag (ZaN rfl Zbs rfl rfl rfl)) ?_ | refine Zat [1] rfl rfl (fun _ => Zag (ZaN rfl Zbs rfl rfl rfl)) ?_ | refine Zaj [1] [] rfl rfl (fun _ => Zag (ZaW rfl Zbs rfl rfl rfl)) ?_ | refine Zat [1] rfl rfl (fun _ => Zag (ZaW rfl Zbs rfl rfl rfl)) ?_
  first | refine Zaj [9] [1] rfl rfl (fun _ => Zag (Zas rfl rfl on26 rfl)) ?_ | refine Zaj [9] [1] rfl rfl (fun _ => Zag (Zai rfl rfl rfl on26 rfl)) ?_ | refine Zaj [9] [1] rfl rfl (fun _ => Zag (ZaI rfl rfl (rfl) rfl on26 rfl)) ?_
  refine ZbH [10] [20] [(11, _)] rfl rfl (fun _ => Zbh (Za8 (cloneI_c i.af g3) rfl [20] ⟨rfl, trivial⟩ rfl rfl rfl rfl rfl rfl rfl rfl rfl)) (.inr ⟨11, _, rfl, rfl, rfl, rfl, rfl⟩) rfl rfl rfl rfl rfl ?_
  first | refine Zaj [1] [] rfl rfl (fun _ => Zag (Zah rfl Zby rfl rfl rfl)) ?_ | refine Zat [1] rfl rfl (fun _ => Zag (Zah rfl Zby rfl rfl rfl)) ?_ | refine Zaj [1] [] rfl rfl (fun _ => Zag (ZaH rfl Zby rfl rfl rfl)) ?_ | refine Zat [1] rfl rfl (fun _ => Zag (ZaH rfl Zby rfl rfl rfl)) ?_ | refine Zaj [1] [] rfl rfl (fun _ => Zag (ZaN rfl Zby rfl rfl rfl)) ?_ | refine Zat [1] rfl rfl (fun _ => Zag (ZaN rfl Zby rfl rfl rfl)) ?_ | refine Zaj [1] [] rfl rfl (fun _ => Zag (ZaW rfl Zby rfl rfl rfl)) ?_ | refine Zat [1] rfl rfl (fun _ => Zag (ZaW rfl Zby rfl rfl rfl)) ?_
  refine dwc 10 rfl rfl rfl ?_;refine dw1 11 rfl rfl ?_;refine Zal.go (ZaD rfl rfl rfl rfl rfl rfl rfl sz97) ?_;refine Zae ⟨rfl, ?_⟩;refine dw1 12 rfl rfl ?_
  first | refine Zaa.go (Zah rfl ZbO rfl rfl rfl) ?_ | refine Zaa.go (ZaH rfl ZbO rfl rfl rfl) ?_ | refine Zaa.go (ZaN rfl ZbO rfl rfl rfl) ?_ | refine Zaa.go (ZaW rfl ZbO rfl rfl rfl) ?_
  refine Zae ⟨rfl, ?_⟩;refine dw1 13 rfl rfl ?_;refine Zal.go (ZaD rfl rfl rfl rfl rfl rfl rfl sz98) ?_;refine Zae ⟨rfl, ?_⟩;refine dw1 14 rfl rfl ?_
  first | refine Zaa.go (Zah rfl Zbs rfl rfl rfl) ?_ | refine Zaa.go (ZaH rfl Zbs rfl rfl rfl) ?_ | refine Zaa.go (ZaN rfl Zbs rfl rfl rfl) ?_ | refine Zaa.go (ZaW rfl Zbs rfl rfl rfl) ?_
  refine Zae ⟨rfl, ?_⟩;refine dw1 15 rfl rfl ?_;refine Zal.go (ZaD rfl rfl rfl rfl rfl rfl rfl sz26) ?_;refine Zae ⟨rfl, ?_⟩;refine dwe ?_;refine Zaf ?_;refine Zab ?_
  first | refine Zaa.go (ZaA rfl rfl rw100 rfl) ?_ | refine Zaa.go (Zar rfl rfl rw100 rfl rfl rfl) ?_ | refine Zaa.go (ZaT rfl rfl (rfl) rfl rw100 rfl) ?_
  refine Zal.go (ZaD rfl rfl rfl rfl rfl rfl rfl sz100) ?_;refine Zae ?_;refine Zao ?_;exact ⟨_, [20], _, Zan rfl, rfl, rfl, rfl, rfl⟩
def outR (x : Roo) : Bool := !decide (-4000000000000000 ≤ x.n ∧ x.n ≤ 4000000000000000)
abbrev fnR : AV := .d (.raw (.func (.func 67) #[] #[]))
set_option maxRecDepth 100000 in
theorem settle1_p (x : Roo) : PCalls Tryz.prog 67 [.d (rooD x)] (boolD (outR x)) := by
  refine ZaB Tryz.func67 rfl rfl Tryz.ntmps67 rfl rfl rfl fun F hF => ?_;refine Zaf ?_;refine Zab ?_;refine Zal.go (ZaP 1 rfl rfl rfl rfl rfl rfl rfl) ?_;refine Zaa.go (Zac rfl rfl) ?_;refine Zae ?_;refine Zaf ?_;refine Zab ?_
  first | refine Zaa.go (Zah rfl fi70_1 rfl rfl rfl) ?_ | refine Zaa.go (ZaH rfl fi70_1 rfl rfl rfl) ?_ | refine Zaa.go (ZaN rfl fi70_1 rfl rfl rfl) ?_ | refine Zaa.go (ZaW rfl fi70_1 rfl rfl rfl) ?_
  first | refine Zaa.go (Zas rfl rfl on2 rfl) ?_ | refine Zaa.go (Zai rfl rfl rfl on2 rfl) ?_ | refine Zaa.go (ZaI rfl rfl (rfl) rfl on2 rfl) ?_
  refine Zaa.go (Zau (within64_p x.n (-4000000000000000) 4000000000000000) rfl rfl) ?_
  first | refine Zaa.go (Zbd rfl rfl) ?_ | refine Zaa.go (Zbu rfl rfl) ?_
  refine Zaa.go (Zac rfl rfl) ?_;refine Zae ?_;refine Zao ?_;exact ⟨_, [], [], Zan rfl, rfl, rfl, retB3 (by unfold outR; exact decide_not), rfl⟩
def ixR (l : List Roo) : Int := match l.findIdx? outR with
  | some k => (k : Int)
  | none => -1
theorem ixR_nn {l : List Roo} : 0 ≤ ixR l ↔ l.any outR = true := by
  unfold ixR;have h : (l.findIdx? outR).isSome = l.any outR := List.findIdx?_isSome
  cases hh : l.findIdx? outR with
  | none => rw [hh] at h; simp only [Option.isSome_none] at h; simp [← h]
  | some k => rw [hh] at h; simp only [Option.isSome_some] at h; simp [← h]
set_option maxRecDepth 100000 in
theorem indexR_p (l : List Roo) (hl : l.length ≤ 100000000) : PCalls Tryz.prog 90 [.d (.sl none (l.map rooD)), fnR] (intD (ixR l)) := by
  refine ZaB Tryz.func90 rfl rfl Tryz.ntmps90 rfl rfl rfl fun F hF => ?_;refine Zaf ?_;refine Zab ?_;refine Zaa.go (Zac rfl rfl) ?_;refine Zae ?_;refine Zaf ?_;refine Zaf ?_;refine Zab ?_;refine Zaa.go (Zad rfl rfl) ?_
  first | refine Zaa.go (Zax rfl Tryz.underlying32 rfl) ?_ | refine Zaa.go (Zbr rfl rfl Tryz.underlying32 rfl) ?_ | refine Zaa.go (Zbq rfl Tryz.underlying32 rfl) ?_ | refine Zaa.go (Zbj rfl Tryz.underlying32 rfl) ?_ | refine Zaa.go (Zbp rfl Tryz.underlying32 rfl) ?_
  refine Zaa.go (Zad rfl rfl) ?_;refine Zae ?_;refine Zaq ?_;refine a_loop (α := Nat) (fun k => ⟨19, [(0, .d (.sl none (l.map rooD))), (1, fnR), (7, (.d (intD (l.length : Int)))), (8, (.d (intD (k : Int))))], []⟩) (fun k => k ≤ l.length ∧ ∀ x ∈ l.take k, outR x = false) (fun k => l.length - k) (0) (⟨Nat.zero_le _, by simp⟩) (ZbE ⟨rfl, rfl, rfl, rfl, trivial⟩) ?_;rintro k ⟨hk0, hk⟩;refine Zaf ?_;refine Zab ?_
  first | refine Zaa.go (ZaK rfl rfl rfl) ?_ | refine Zaa.go (Zbm rfl rfl rfl) ?_
  refine Zae ?_;refine Zaf ?_
  first | refine ZaG rfl (fun h9 => ?_) (fun h9 => ?_) | refine Za1 rfl (fun h9 => ?_) (fun h9 => ?_)
  · have hk1 : k < l.length := ZaM h9;refine Zap ?_;refine Zaf ?_;refine Zaq ?_;refine Zaf ?_;refine Zab ?_;refine Zaa.go (Zad rfl rfl) ?_;refine Zaa.go (Zac rfl rfl) ?_;refine Zae ?_;refine Zaf ?_;refine Zab ?_;refine Zaa.go (Zad rfl rfl) ?_;refine Zaa.go (Zad rfl rfl) ?_;refine Zaa.go (Zad rfl rfl) ?_
    first | refine Zaa.go (Zay (k) rfl rfl (rfl) (getm hk1) Tryz.underlying32 rfl sz70 rfl) ?_ | refine Zaa.go (Zbe (k) rfl rfl (rfl) (getm hk1) rfl Tryz.underlying32 sz70 rfl) ?_
    first | refine Zaa.go (ZaA rfl rfl rw70 rfl) ?_ | refine Zaa.go (Zar rfl rfl rw70 rfl rfl rfl) ?_ | refine Zaa.go (ZaT rfl rfl (rfl) rfl rw70 rfl) ?_
    refine Zaa.go (st_callVP (settle1_p l[k]) rfl rfl) ?_;refine Zae ?_
    first | refine ZaG rfl (fun h16 => ?_) (fun h16 => ?_) | refine Za1 rfl (fun h16 => ?_) (fun h16 => ?_)
    · refine Zaf ?_;refine Zab ?_;refine Zaa.go (Zad rfl rfl) ?_;refine Zaa.go (Zac rfl rfl) ?_;refine Zae ?_;refine Zao ?_;exact ⟨_, [], [], Zan rfl, rfl, rfl, retI (by unfold ixR; rw [fidx_at hk1 hk (by simpa using h16)]), rfl⟩
    · refine Zap ?_;refine Zab ?_;refine Zaa.go (Zaz rfl rfl (wrapS (k + 1) (by omega)) rfl) ?_;refine Zaa.go (Zad rfl rfl) ?_;refine Zae ?_;exact ⟨k + 1, ⟨by show k + 1 ≤ _; omega, by rw [List.take_succ_eq_append_getElem hk1]; intro x hx; rcases List.mem_append.1 hx with hx | hx; exact hk x hx; rw [List.mem_singleton.1 hx]; simpa using h16⟩, by show l.length - (k + 1) < l.length - k; omega, ⟨rfl, rfl, fun _ _ => Has.get (l := [(0, _), (1, _), (7, _), (8, _)]) ⟨rfl, rfl, rfl, rfl, trivial⟩⟩⟩
  · refine ZaQ ?_;refine Zaf ?_;refine Zab ?_;refine Zaa.go (Zac rfl rfl) ?_;refine Zae ?_;refine Zao ?_;exact ⟨_, [], [], Zan rfl, rfl, rfl, retI (by unfold ixR; rw [fidx_no (fun x hx => hk x (by rw [List.take_of_length_le (by have h := h9; omega)]; exact hx))]), rfl⟩
set_option maxRecDepth 100000 in
theorem containsR_p (l : List Roo) (hl : l.length ≤ 100000000) : PCalls Tryz.prog 66 [.d (.sl none (l.map rooD)), fnR] (boolD (l.any outR)) := by
  refine ZaB Tryz.func66 rfl rfl Tryz.ntmps66 rfl rfl rfl fun F hF => ?_;refine Zaf ?_;refine Zab ?_;refine Zaa.go (Zac rfl rfl) ?_;refine Zae ?_;refine Zaf ?_;refine Zab ?_;refine Zaa.go (Zad rfl rfl) ?_;refine Zaa.go (Zad rfl rfl) ?_;refine Zaa.go (Zau (indexR_p l hl) rfl rfl) ?_;refine Zaa.go (st_geq rfl rfl rfl) ?_;refine Zaa.go (Zac rfl rfl) ?_;refine Zae ?_;refine Zao ?_;exact ⟨_, [], [], Zan rfl, rfl, rfl, retB3 (by rw [Bool.eq_iff_iff, decide_eq_true_eq]; exact ixR_nn), rfl⟩
def restI (l : List Int) (i : Itm) : Itm := ⟨i.id, i.pr, i.sq, i.po, i.pa, kept l i.af⟩
def setlE (p : Prb) (l : List Int) : Int := if choE p l ≠ 0 then choE p l else if (totR p l).any outR then 12 else 0
def setlI (l : List Int) (its : List Itm) : List Itm := (its.filter fun i => !inB l i).map (restI l)
def setlP (p : Prb) (l : List Int) : Prb := if setlE p l = 0 then ⟨totR p l, setlI l p.it⟩ else ⟨[], []⟩
theorem prb0_weak : ∀ w O v, RepD w O (.agg [.sl (some true) [], .sl (some true) []]) v → RepD w O (prbD ⟨[], []⟩) v := fun w O v h => h.aggMono rfl (by simp [D.one]) fun i c c' hc hc' v hv => by
  match i, hc, hc' with
  | 0, hc, hc' => injection hc with hc; injection hc' with hc'; subst hc hc'; exact hv.anyNil
  | 1, hc, hc' => injection hc with hc; injection hc' with hc'; subst hc hc'; exact hv.anyNil
theorem setlI_snoc_in {l : List Int} {its : List Itm} {k : Nat} (hk : k < its.length) (h : its[k].id ∈ l) : setlI l (its.take (k + 1)) = setlI l (its.take k) := by
  unfold setlI; rw [flt_snoc hk, if_neg (by unfold inB; simp [h]), List.append_nil]
theorem setlI_snoc_out {l : List Int} {its : List Itm} {k : Nat} (hk : k < its.length) (h : its[k].id ∉ l) : setlI l (its.take (k + 1)) = setlI l (its.take k) ++ [restI l its[k]] := by
  unfold setlI; rw [flt_snoc hk, if_pos (by unfold inB; simp [h]), List.map_append]; rfl
theorem setlI_len (l : List Int) (its : List Itm) : (setlI l its).length ≤ its.length := by unfold setlI; rw [List.length_map]; exact List.length_filter_le _ _
set_option maxRecDepth 100000 in
theorem settle_p (p : Prb) (l : List Int) (hb : PrbB p) (hl : l.length ≤ 100000) (h1000 : p.it.length ≤ 1000) : PCalls Tryz.prog 41 [.d (prbD p), .d (.sl none (l.map intD))] (.tup [prbD (setlP p l), intD (setlE p l)]) := by
  have ht := totals_p p l hb hl h1000;have hb3 := hb.2.2
  by_cases hE : choE p l = 0
  · have hrl : (totR p l).length ≤ 100000 := by unfold totR; rw [List.length_map]; exact hb.1
    have hcr := containsR_p (totR p l) (by omega);rw [if_pos hE, hE] at ht
    by_cases hO : (totR p l).any outR = true
    · have hS : setlE p l = 12 := by unfold setlE; rw [if_neg (by simpa using hE), if_pos hO]
      have hP : setlP p l = ⟨[], []⟩ := if_neg (by rw [hS]; decide);rw [hS, hP];rw [hO] at hcr;refine ZaB Tryz.func41 rfl rfl Tryz.ntmps41 rfl rfl rfl fun F hF => ?_;refine Zaf ?_;refine Zab ?_;refine Zal.go (ZaP 1 rfl rfl rfl rfl rfl rfl rfl) ?_;refine Zal.go (ZaP 2 rfl rfl rfl rfl rfl rfl rfl) ?_;refine Zal.go (ZaR 3 zl35 rfl rfl rfl rfl) ?_;refine Zaa.go (Zac rfl rfl) ?_;refine Zae ?_;refine Zaf ?_;refine Zab ?_
      first | refine Zaa.go (ZaA rfl rfl rw35 rfl) ?_ | refine Zaa.go (Zar rfl rfl rw35 rfl rfl rfl) ?_ | refine Zaa.go (ZaT rfl rfl (rfl) rfl rw35 rfl) ?_
      first | refine Zaa.go (Zas rfl rfl on26 rfl) ?_ | refine Zaa.go (Zai rfl rfl rfl on26 rfl) ?_ | refine Zaa.go (ZaI rfl rfl (rfl) rfl on26 rfl) ?_
      refine Zaa.go (Zau (ht) rfl rfl) ?_;refine Zaa.go (Zad rfl rfl) ?_
      first | refine Zaa.go (ZaE rfl rfl rfl) ?_ | refine Zaa.go (ZaF rfl rfl rfl) ?_
      first | refine Zaa.go (ZaE rfl rfl rfl) ?_ | refine Zaa.go (ZaF rfl rfl rfl) ?_
      refine Zaa.go (Zac rfl rfl) ?_;refine Zaa.go (Zac rfl rfl) ?_;refine Zae ?_;refine Zaf ?_;refine Zaf ?_;refine Zab ?_;refine Zaa.go (Zad rfl rfl) ?_
      first | refine Zaa.go (Za3 rfl rfl rfl) ?_ | refine Zaa.go (Zbb rfl rfl rfl) ?_ | refine Zaa.go (Zbx rfl rfl rfl) ?_ | refine Zaa.go (ZbD Tryz.underlying29 rfl rfl rfl) ?_ | refine Zaa.go (ZbB Tryz.underlying29 rfl rfl rfl) ?_ | refine Zaa.go (st_neqN Tryz.underlying29 rfl rfl) ?_ | refine Zaa.go (ZbC Tryz.underlying29 rfl rfl rfl) ?_ | refine Zaa.go (st_neqFN Tryz.underlying29 rfl rfl) ?_
      refine Zae ?_;refine ZaX rfl ((by decide)) ?_;refine Zap ?_;refine Zaf ?_;refine Zaf ?_;refine Zab ?_;refine Zaa.go (Zad rfl rfl) ?_;refine Zaa.go (Zau (hcr) rfl rfl) ?_;refine Zae ?_;refine ZaS rfl (rfl) ?_;refine Zaf ?_;refine Zab ?_;refine Zaa.go (Za0 zl35 pl35 rfl rfl rfl) ?_;refine o_weakD 24 (prbD ⟨[], []⟩) rfl prb0_weak ?_;refine Zal.go (ZaD rfl rfl rfl rfl rfl rfl rfl sz35) ?_;refine Zaa.go (Zac rfl rfl) ?_;refine Zae ?_;refine Zao ?_;exact ⟨_, [], [], Zan rfl, rfl, rfl, rfl, rfl⟩
    · have hS : setlE p l = 0 := by unfold setlE; rw [if_neg (by simpa using hE), if_neg hO]
      have hP : setlP p l = ⟨totR p l, setlI l p.it⟩ := if_pos hS;have hO : (totR p l).any outR = false := by simpa using hO
      rw [hS, hP];rw [hO] at hcr
      obtain ⟨R, hR⟩ : ∃ R, totR p l = R := ⟨_, rfl⟩
      rw [hR] at ht hcr ⊢;refine ZaB Tryz.func41 rfl rfl Tryz.ntmps41 rfl rfl rfl fun F hF => ?_;refine Zaf ?_;refine Zab ?_;refine Zal.go (ZaP 1 rfl rfl rfl rfl rfl rfl rfl) ?_;refine Zal.go (ZaP 2 rfl rfl rfl rfl rfl rfl rfl) ?_;refine Zal.go (ZaR 3 zl35 rfl rfl rfl rfl) ?_;refine Zaa.go (Zac rfl rfl) ?_;refine Zae ?_;refine Zaf ?_;refine Zab ?_;refine o_freezeB 3 2 (.sl none (l.map intD)) [1, 3] hF rfl rfl rfl (by intro c hc; simp [D.cells] at hc; subst hc; rfl) rfl rfl rfl ?_
      first | refine Zaa.go (ZaA rfl rfl rw35 rfl) ?_ | refine Zaa.go (Zar rfl rfl rw35 rfl rfl rfl) ?_ | refine Zaa.go (ZaT rfl rfl (rfl) rfl rw35 rfl) ?_
      first | refine Zaa.go (Zas rfl rfl on26 rfl) ?_ | refine Zaa.go (Zai rfl rfl rfl on26 rfl) ?_ | refine Zaa.go (ZaI rfl rfl (rfl) rfl on26 rfl) ?_
      refine Zaa.go (Zau (ht) rfl rfl) ?_;refine Zaa.go (Zad rfl rfl) ?_
      first | refine Zaa.go (ZaE rfl rfl rfl) ?_ | refine Zaa.go (ZaF rfl rfl rfl) ?_
      first | refine Zaa.go (ZaE rfl rfl rfl) ?_ | refine Zaa.go (ZaF rfl rfl rfl) ?_
      refine Zaa.go (Zac rfl rfl) ?_;refine Zaa.go (Zac rfl rfl) ?_;refine Zae ?_;refine Zaf ?_;refine Zaf ?_;refine Zab ?_;refine Zaa.go (Zad rfl rfl) ?_
      first | refine Zaa.go (Za3 rfl rfl rfl) ?_ | refine Zaa.go (Zbb rfl rfl rfl) ?_ | refine Zaa.go (Zbx rfl rfl rfl) ?_ | refine Zaa.go (ZbD Tryz.underlying29 rfl rfl rfl) ?_ | refine Zaa.go (ZbB Tryz.underlying29 rfl rfl rfl) ?_ | refine Zaa.go (st_neqN Tryz.underlying29 rfl rfl) ?_ | refine Zaa.go (ZbC Tryz.underlying29 rfl rfl rfl) ?_ | refine Zaa.go (st_neqFN Tryz.underlying29 rfl rfl) ?_
      refine Zae ?_;refine ZaX rfl ((by decide)) ?_;refine Zap ?_;refine Zaf ?_;refine Zaf ?_;refine Zab ?_;refine Zaa.go (Zad rfl rfl) ?_;refine Zaa.go (Zau (hcr) rfl rfl) ?_;refine Zae ?_;refine ZaX rfl (rfl) ?_;refine Zap ?_;refine Zaf ?_;refine Zab ?_;refine Zaa.go (Zad rfl rfl) ?_;refine Zaa.go (Za0 zl35 pl35 rfl rfl rfl) ?_;refine Zal.go (ZaR 4 zl35 rfl rfl rfl rfl) ?_;refine Zal.go (ZaD rfl rfl rfl rfl rfl rfl rfl sz35) ?_;refine Zae ?_;refine Zaf ?_;refine Zaf ?_;refine Zcf 4 0 1 902 sl33 rfl rfl rfl rfl rfl rfl rfl ?_;refine Zab ?_
      first | refine Zaa.go (Zah rfl Zbf rfl rfl rfl) ?_ | refine Zaa.go (ZaH rfl Zbf rfl rfl rfl) ?_ | refine Zaa.go (ZaN rfl Zbf rfl rfl rfl) ?_ | refine Zaa.go (ZaW rfl Zbf rfl rfl rfl) ?_
      first | refine Zaa.go (Zas rfl rfl on33 rfl) ?_ | refine Zaa.go (Zai rfl rfl rfl on33 rfl) ?_ | refine Zaa.go (ZaI rfl rfl (rfl) rfl on33 rfl) ?_
      first | refine Zaa.go (Zax rfl Tryz.underlying33 rfl) ?_ | refine Zaa.go (Zbr rfl rfl Tryz.underlying33 rfl) ?_ | refine Zaa.go (Zbq rfl Tryz.underlying33 rfl) ?_ | refine Zaa.go (Zbj rfl Tryz.underlying33 rfl) ?_ | refine Zaa.go (Zbp rfl Tryz.underlying33 rfl) ?_
      refine Zaa.go (Zad rfl rfl) ?_;refine Zae ?_;refine Zaq ?_;refine ZaU (α := Nat × List Itm) (fun q => ⟨53, [(3, (.d (.ptr (.sl none (l.map intD))))), (4, (.ptr 3 0 0)), (8, (.ptr 4 0 0)), (28, (.d (.sl none (p.it.map itmD)))), (29, (.d (intD (p.it.length : Int)))), (30, (.d (intD (q.1 : Int))))], [(902, [.rowD 100 6 (q.2.map itmD)]), (3, [.blk 35 [nilC, nilC]]), (4, [.blk 35 [.d (.sl none (R.map rooD)), .own 902 0 q.2.length]])]⟩) (fun q => q.1 ≤ p.it.length ∧ q.2 = setlI l (p.it.take q.1)) (fun q => p.it.length - q.1) ((0, [])) (⟨Nat.zero_le _, rfl⟩) (Zaw hF [902, 3, 4] rfl rfl ⟨rfl, rfl, rfl, rfl, rfl, rfl, trivial⟩) ?_;rintro ⟨k, acc⟩ ⟨hk0, hA⟩;dsimp only at hk0 hA ⊢;refine Zaf ?_;refine Zab ?_
      first | refine Zaa.go (ZaK rfl rfl rfl) ?_ | refine Zaa.go (Zbm rfl rfl rfl) ?_
      refine Zae ?_;refine Zaf ?_
      first | refine ZaG rfl (fun h31 => ?_) (fun h31 => ?_) | refine Za1 rfl (fun h31 => ?_) (fun h31 => ?_)
      · have hk1 : k < p.it.length := ZaM h31;refine Zap ?_;refine Zaf ?_;refine Zaq ?_;refine Zaf ?_;refine Zab ?_;have hgi := hb3 _ (List.getElem_mem hk1);have hal : acc.length ≤ 1000 := by rw [hA]; exact Nat.le_trans (setlI_len _ _) (by rw [List.length_take]; omega)
        first | refine Zaa.go (Zay (k) rfl rfl (rfl) (getm hk1) Tryz.underlying33 rfl sz100 rfl) ?_ | refine Zaa.go (Zbe (k) rfl rfl (rfl) (getm hk1) rfl Tryz.underlying33 sz100 rfl) ?_
        first | refine Zaa.go (ZaA rfl rfl rw100 rfl) ?_ | refine Zaa.go (Zar rfl rfl rw100 rfl rfl rfl) ?_ | refine Zaa.go (ZaT rfl rfl (rfl) rfl rw100 rfl) ?_
        refine Zal.go (ZaR 5 zl100 rfl rfl rfl rfl) ?_;refine Zal.go (ZaD rfl rfl rfl rfl rfl rfl rfl sz100) ?_;refine Zae ?_;refine Zaf ?_;refine Zaf ?_;refine Zab ?_
        first | refine Zaa.go (Zas rfl rfl on26 rfl) ?_ | refine Zaa.go (Zai rfl rfl rfl on26 rfl) ?_ | refine Zaa.go (ZaI rfl rfl (rfl) rfl on26 rfl) ?_
        first | refine Zaa.go (Zah rfl Zbi rfl rfl rfl) ?_ | refine Zaa.go (ZaH rfl Zbi rfl rfl rfl) ?_ | refine Zaa.go (ZaN rfl Zbi rfl rfl rfl) ?_ | refine Zaa.go (ZaW rfl Zbi rfl rfl rfl) ?_
        first | refine Zaa.go (Zas rfl rfl on3 rfl) ?_ | refine Zaa.go (Zai rfl rfl rfl on3 rfl) ?_ | refine Zaa.go (ZaI rfl rfl (rfl) rfl on3 rfl) ?_
        refine Zaa.go (Zau (contains_p l p.it[k].id (by omega)) rfl rfl) ?_;refine Zae ?_
        first | refine ZaG rfl (fun h37 => ?_) (fun h37 => ?_) | refine Za1 rfl (fun h37 => ?_) (fun h37 => ?_)
        · refine ZaQ ?_;refine Zab ?_;refine Zaa.go (Zaz rfl rfl (wrapS (k + 1) (by omega)) rfl) ?_;refine Zaa.go (Zad rfl rfl) ?_;refine Zae ?_;exact ⟨(k + 1, acc), ⟨by show k + 1 ≤ _; omega, by show acc = setlI l (p.it.take (k + 1)); rw [setlI_snoc_in hk1 h37]; exact hA⟩, by show p.it.length - (k + 1) < p.it.length - k; omega, Zaw hF [902, 3, 4] rfl (rfl) ⟨rfl, rfl, rfl, rfl, rfl, rfl, trivial⟩⟩
        · refine Zap ?_;refine Zaf ?_;refine Zab ?_
          first | refine Zaa.go (ZaA rfl rfl rw100 rfl) ?_ | refine Zaa.go (Zar rfl rfl rw100 rfl rfl rfl) ?_ | refine Zaa.go (ZaT rfl rfl (rfl) rfl rw100 rfl) ?_
          refine Zal.go (Za8 ((clone_c p.it[k] (by omega) (by omega) (by omega)).by [(20, 60)] rfl) rfl [60] ⟨rfl, trivial⟩ rfl rfl rfl rfl rfl rfl rfl rfl rfl) ?_;refine Zal.go (ZaR 6 zl100 rfl rfl rfl rfl) ?_;refine Zal.go (ZaD rfl rfl rfl rfl rfl rfl rfl sz100) ?_;refine Zae ?_;refine Zaf ?_;refine Zab ?_
          first | refine Zaa.go (Zah rfl Zbs rfl rfl rfl) ?_ | refine Zaa.go (ZaH rfl Zbs rfl rfl rfl) ?_ | refine Zaa.go (ZaN rfl Zbs rfl rfl rfl) ?_ | refine Zaa.go (ZaW rfl Zbs rfl rfl rfl) ?_
          first | refine Zaa.go (Zas rfl rfl on26 rfl) ?_ | refine Zaa.go (Zai rfl rfl rfl on26 rfl) ?_ | refine Zaa.go (ZaI rfl rfl (rfl) rfl on26 rfl) ?_
          refine Zaa.go (Zcj rfl rfl) ?_;refine Zal.go (Za8 ((delI_c l p.it[k].af hl (by omega)).by [(930, 60)] rfl) rfl [60] ⟨rfl, trivial⟩ rfl rfl rfl rfl rfl rfl rfl rfl rfl) ?_
          first | refine Zaa.go (Zah rfl Zbs rfl rfl rfl) ?_ | refine Zaa.go (ZaH rfl Zbs rfl rfl rfl) ?_ | refine Zaa.go (ZaN rfl Zbs rfl rfl rfl) ?_ | refine Zaa.go (ZaW rfl Zbs rfl rfl rfl) ?_
          refine Zal.go (ZaD rfl rfl rfl rfl rfl rfl rfl sz26) ?_;refine Zae ?_;refine ZbP (ys := (kept l p.it[k].af).map intD) 6 0 5 60 rfl rfl rfl (by simp) (by rw [List.map_append, List.take_append_of_le_length (by simp), List.take_of_length_le (by simp)]) rfl rfl rfl rfl rfl rfl ?_;refine Zab ?_
          first | refine Zaa.go (Zah rfl Zbf rfl rfl rfl) ?_ | refine Zaa.go (ZaH rfl Zbf rfl rfl rfl) ?_ | refine Zaa.go (ZaN rfl Zbf rfl rfl rfl) ?_ | refine Zaa.go (ZaW rfl Zbf rfl rfl rfl) ?_
          first | refine Zaa.go (Zas rfl rfl on33 rfl) ?_ | refine Zaa.go (Zai rfl rfl rfl on33 rfl) ?_ | refine Zaa.go (ZaI rfl rfl (rfl) rfl on33 rfl) ?_
          first | refine Zaa.go (ZaA rfl rfl rw100 rfl) ?_ | refine Zaa.go (Zar rfl rfl rw100 rfl rfl rfl) ?_ | refine Zaa.go (ZaT rfl rfl (rfl) rfl rw100 rfl) ?_
          refine Zal.go (ZaJ 7 sl33 rfl rfl rfl rfl rfl rfl rfl rfl) ?_
          first | refine Zal.go (Zbn (acc) ([restI l p.it[k]]) rfl rfl rfl rfl rfl rfl rfl rfl sl33 (by simp only [List.length_singleton]; omega) rfl rfl rfl rfl) ?_ | refine Zal.go (Zbz (acc) ([restI l p.it[k]]) rfl rfl rfl rfl rfl rfl (fun _ => rfl) sl33 (by simp only [List.length_singleton]; omega) rfl rfl rfl rfl) ?_
          first | refine Zaa.go (Zah rfl Zbf rfl rfl rfl) ?_ | refine Zaa.go (ZaH rfl Zbf rfl rfl rfl) ?_ | refine Zaa.go (ZaN rfl Zbf rfl rfl rfl) ?_ | refine Zaa.go (ZaW rfl Zbf rfl rfl rfl) ?_
          refine Zal.go (ZaD rfl rfl rfl rfl rfl rfl rfl sz33) ?_;refine Zae ?_;refine Zab ?_;refine Zaa.go (Zaz rfl rfl (wrapS (k + 1) (by omega)) rfl) ?_;refine Zaa.go (Zad rfl rfl) ?_;refine Zae ?_;exact ⟨(k + 1, acc ++ [restI l p.it[k]]), ⟨by show k + 1 ≤ _; omega, by show acc ++ [restI l p.it[k]] = setlI l (p.it.take (k + 1)); rw [setlI_snoc_out hk1 h37, hA]⟩, by show p.it.length - (k + 1) < p.it.length - k; omega, Zaw hF [902, 3, 4] rfl (rfl) ⟨rfl, rfl, rfl, rfl, rfl, rfl, trivial⟩⟩
      · refine ZaQ ?_;refine Zaf ?_;have hfa : acc = setlI l p.it := by rw [hA, List.take_of_length_le (by have h := h31; omega)]
        refine ZbP (ys := (setlI l p.it).map itmD) 4 0 1 902 rfl rfl rfl (by simp) (by rw [hfa]; exact List.take_of_length_le (by simp)) rfl rfl rfl rfl rfl rfl ?_;refine Zab ?_
        first | refine Zaa.go (ZaA rfl rfl rw35 rfl) ?_ | refine Zaa.go (Zar rfl rfl rw35 rfl rfl rfl) ?_ | refine Zaa.go (ZaT rfl rfl (rfl) rfl rw35 rfl) ?_
        refine Zal.go (ZaD rfl rfl rfl rfl rfl rfl rfl sz35) ?_;refine Zaa.go (Zac rfl rfl) ?_;refine Zae ?_;refine Zao ?_;exact ⟨_, [], [], Zan rfl, rfl, rfl, rfl, rfl⟩
  · have hS : setlE p l = choE p l := if_pos hE;have hP : setlP p l = ⟨[], []⟩ := if_neg (by rw [hS]; exact hE);rw [if_neg hE] at ht;rw [hS, hP];refine ZaB Tryz.func41 rfl rfl Tryz.ntmps41 rfl rfl rfl fun F hF => ?_;refine Zaf ?_;refine Zab ?_;refine Zal.go (ZaP 1 rfl rfl rfl rfl rfl rfl rfl) ?_;refine Zal.go (ZaP 2 rfl rfl rfl rfl rfl rfl rfl) ?_;refine Zal.go (ZaR 3 zl35 rfl rfl rfl rfl) ?_;refine Zaa.go (Zac rfl rfl) ?_;refine Zae ?_;refine Zaf ?_;refine Zab ?_
    first | refine Zaa.go (ZaA rfl rfl rw35 rfl) ?_ | refine Zaa.go (Zar rfl rfl rw35 rfl rfl rfl) ?_ | refine Zaa.go (ZaT rfl rfl (rfl) rfl rw35 rfl) ?_
    first | refine Zaa.go (Zas rfl rfl on26 rfl) ?_ | refine Zaa.go (Zai rfl rfl rfl on26 rfl) ?_ | refine Zaa.go (ZaI rfl rfl (rfl) rfl on26 rfl) ?_
    refine Zaa.go (Zau (ht) rfl rfl) ?_;refine Zaa.go (Zad rfl rfl) ?_
    first | refine Zaa.go (ZaE rfl rfl rfl) ?_ | refine Zaa.go (ZaF rfl rfl rfl) ?_
    first | refine Zaa.go (ZaE rfl rfl rfl) ?_ | refine Zaa.go (ZaF rfl rfl rfl) ?_
    refine Zaa.go (Zac rfl rfl) ?_;refine Zaa.go (Zac rfl rfl) ?_;refine Zae ?_;refine Zaf ?_;refine Zaf ?_;refine Zab ?_;refine Zaa.go (Zad rfl rfl) ?_
    first | refine Zaa.go (Za3 rfl rfl rfl) ?_ | refine Zaa.go (Zbb rfl rfl rfl) ?_ | refine Zaa.go (Zbx rfl rfl rfl) ?_ | refine Zaa.go (ZbD Tryz.underlying29 rfl rfl rfl) ?_ | refine Zaa.go (ZbB Tryz.underlying29 rfl rfl rfl) ?_ | refine Zaa.go (st_neqN Tryz.underlying29 rfl rfl) ?_ | refine Zaa.go (ZbC Tryz.underlying29 rfl rfl rfl) ?_ | refine Zaa.go (st_neqFN Tryz.underlying29 rfl rfl) ?_
    refine Zae ?_;refine ZaS rfl ((decide_eq_true hE)) ?_;refine Zaf ?_;refine Zab ?_;refine Zaa.go (Za0 zl35 pl35 rfl rfl rfl) ?_;refine o_weakD 20 (prbD ⟨[], []⟩) rfl prb0_weak ?_;refine Zaa.go (Zad rfl rfl) ?_;refine Zal.go (ZaD rfl rfl rfl rfl rfl rfl rfl sz35) ?_;refine Zaa.go (Zac rfl rfl) ?_;refine Zae ?_;refine Zao ?_;exact ⟨_, [], [], Zan rfl, rfl, rfl, rfl, rfl⟩
end Go.Proofs.YtnamabifclidmaaGreat
/- Layer 28: the reference's Totals and Settle; conversion back. -/
namespace Go.Proofs.YtnamabifclidmaaGreat
open Go.RowKit

def itmOf (p : Prb) (id : Int) : Itm := p.it.getD ((p.it.map Itm.id).idxOf id) itm0
theorem itmOf_at {p : Prb} {id : Int} (h : id ∈ p.it.map Itm.id) : ∃ hk : (p.it.map Itm.id).idxOf id < p.it.length, ixI id (p.it.map Itm.id) = (((p.it.map Itm.id).idxOf id : Nat) : Int) ∧ itmOf p id = p.it[(p.it.map Itm.id).idxOf id] ∧ (itmOf p id).id = id := by
  have hk : (p.it.map Itm.id).idxOf id < (p.it.map Itm.id).length := List.idxOf_lt_length_iff.2 h;have hk' : (p.it.map Itm.id).idxOf id < p.it.length := by simpa using hk
  have he : itmOf p id = p.it[(p.it.map Itm.id).idxOf id] := Za5 itm0 hk';refine ⟨hk', if_pos h, he, ?_⟩;have h1 := List.getElem_idxOf hk;rw [List.getElem_map] at h1;rw [he]; exact h1
def setQ (p : Prb) (l : List Int) (r : Rsc) : Int := (l.map fun id => rdelta (itmOf p id) r).sum
theorem rooms_valid {l : List Roo} (h : roomsE l = 0) : ∀ x ∈ l, validE x.r = 0 := fun x hx => by
  have h0 := Zbt.1 h;obtain ⟨j, hj, rfl⟩ := List.getElem_of_mem hx;have := h0 j (List.mem_range.2 hj);unfold rErr at this;rw [Za5 roo0 hj] at this
  split at this
  · contradiction
  · rename_i hn; simpa using hn
theorem perm_sum {α : Type} {l m : List α} (h : l.Perm m) (f : α → Int) : (l.map f).sum = (m.map f).sum := by
  induction h with
  | nil => rfl
  | cons x _ ih => simp [ih]
  | swap x y l => simp; omega
  | trans _ _ ih1 ih2 => rw [ih1, ih2]
theorem nodup_of_ids {l : List Itm} (h : (l.map Itm.id).Nodup) : l.Nodup := by
  rw [List.Nodup, List.pairwise_map] at h;exact h.imp fun h e => h (by rw [e])
theorem setQ_eq {p : Prb} (hp : prbE p = 0) {l : List Int} (h : setE (p.it.map Itm.id) l = 0) {r : Rsc} (hr : validE r = 0) : setQ p l r = totQ (p.it.filter (inB l)) r := by
  have hnd := Zb2 (ZbJ hp).2.1;obtain ⟨h1, h2⟩ := set_ok h
  have hperm : (l.map (itmOf p)).Perm (p.it.filter (inB l)) := by
    refine (List.perm_ext_iff_of_nodup ?_ ?_).2 fun x => ?_
    · rw [List.Nodup, List.pairwise_map];refine (List.Pairwise.imp_of_mem ?_ h1);intro a b ha hb hab e;have e1 := (itmOf_at (h2 a ha)).choose_spec.2.2;have e2 := (itmOf_at (h2 b hb)).choose_spec.2.2;exact hab (by rw [← e1, ← e2, e])
    · exact (nodup_of_ids hnd).filter _
    · rw [List.mem_map, List.mem_filter];refine ⟨?_, fun ⟨hx, hi⟩ => ?_⟩
      · rintro ⟨a, ha, rfl⟩;obtain ⟨hk, _, e2, e3⟩ := itmOf_at (h2 a ha);refine ⟨by rw [e2]; exact List.getElem_mem hk, ?_⟩;unfold inB; rw [e3]; exact decide_eq_true ha
      · have hi : x.id ∈ l := by unfold inB at hi; simpa using hi
        refine ⟨x.id, hi, ?_⟩;obtain ⟨hk, _, e2, e3⟩ := itmOf_at (h2 _ hi);exact ids_inj hnd (by rw [e2]; exact List.getElem_mem hk) hx e3
  have h3 := perm_sum hperm fun i => ctrSum (ctr i) r;rw [List.map_map] at h3;unfold totQ;rw [← h3];unfold setQ
  congr 1
  apply List.map_congr_left
  intro a _;exact rdelta_eq hr
end Go.Proofs.YtnamabifclidmaaGreat
