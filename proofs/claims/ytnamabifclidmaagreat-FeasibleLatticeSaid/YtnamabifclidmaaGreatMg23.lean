/- Proved here: feasibleLattice_holds, the given statement Rows.FeasibleLatticeSaid: the law girolaw29.FeasibleLattice returns true and does not panic, at every input that the statement speaks of; no condition beyond the statement. -/
/- Layer 29: the ids that bits select. -/
import Derived.Test.YtnamabifclidmaaGreatMg22
namespace Go.Proofs.YtnamabifclidmaaGreat
open Go.RowKit

def idS (p : Prb) : Sma := ⟨p.it.map Itm.id, [], [], []⟩
def someL (p : Prb) (x : Nat) : List Int := listS (idS p) x
set_option maxRecDepth 100000 in
theorem some_p (p : Prb) (x : Nat) (hx : x < 4294967296) (hn : p.it.length ≤ 31) : PCalls Tryz.prog 27 [.d (prbD p), .d (u32D x)] (.sl none ((someL p x).map intD)) := by
  refine ZaC Tryz.func27 rfl rfl Tryz.ntmps27 rfl rfl rfl fun F hF => ?_;refine Zaf ?_;refine Zab ?_;refine Zam.go (ZaQ 1 rfl rfl rfl rfl rfl rfl rfl) ?_;refine Zaa.go (Zac rfl rfl) ?_;refine Zae ?_;refine Zaf ?_;refine Zab ?_;refine Zaa.go (Zac rfl rfl) ?_;refine Zae ?_;refine Zaf ?_;refine Zaf ?_;refine a_adopt 5 900 sl26 rfl rfl rfl rfl ?_;refine Zab ?_;refine Zaa.go (Zac rfl rfl) ?_;refine Zae ?_;refine Zaq ?_;refine ZaP (α := Nat × List Int) (fun q => ⟨33, [(1, .d (u32D x)), (2, (.ptr 1 0 0)), (5, (.own 900 0 q.2.length)), (6, (.d (intD (q.1 : Int))))], [(900, [.rowD 3 1 (q.2.map intD)]), (1, [prbB2 25 p])]⟩) (fun q => q.1 ≤ p.it.length ∧ q.2 = (((List.range q.1).filter fun i => x.testBit i).map fun i => (idS p).ids.getD i 0) ∧ q.2.length ≤ q.1) (fun q => p.it.length - q.1) ((0, [])) (⟨Nat.zero_le _, rfl, Nat.le_refl _⟩) (Zat hF [900, 1] rfl rfl ⟨rfl, rfl, rfl, rfl, trivial⟩) ?_;rintro ⟨k, acc⟩ ⟨hk0, hA, hL⟩;dsimp only at hk0 hA hL ⊢;refine Zaf ?_;refine Zaf ?_;refine Zab ?_;refine Zaa.go (Zad rfl rfl) ?_
  first | refine Zaa.go (Zah rfl Zba rfl rfl rfl) ?_ | refine Zaa.go (ZaR rfl Zba rfl rfl rfl) ?_ | refine Zaa.go (Za5 rfl Zba rfl rfl rfl) ?_ | refine Zaa.go (Zbp rfl Zba rfl rfl rfl) ?_
  first | refine Zaa.go (Zaz rfl rfl on23 rfl) ?_ | refine Zaa.go (Zaj rfl rfl rfl on23 rfl) ?_ | refine Zaa.go (Za2 rfl rfl (rfl) rfl on23 rfl) ?_
  first | refine Zaa.go (Zav rfl Tryz.underlying23 rfl) ?_ | refine Zaa.go (st_lenD rfl rfl Tryz.underlying23 rfl) ?_ | refine Zaa.go (st_lenO rfl Tryz.underlying23 rfl) ?_ | refine Zaa.go (ZbM rfl Tryz.underlying23 rfl) ?_ | refine Zaa.go (st_lenS rfl Tryz.underlying23 rfl) ?_
  first | refine Zaa.go (ZaI rfl rfl rfl) ?_ | refine Zaa.go (Zbw rfl rfl rfl) ?_
  refine Zaa.go (Zad rfl rfl) ?_
  first | refine ZaH 12 rfl (fun h12 => ?_) (fun h12 => ?_) | refine o_splitB 12 rfl (fun h12 => ?_) (fun h12 => ?_)
  · refine Zal rfl rfl rfl ?_;refine Zaa.go (Zad rfl rfl) ?_;refine Zal rfl rfl rfl ?_
    first | refine Zaa.go (ZaI rfl rfl rfl) ?_ | refine Zaa.go (Zbw rfl rfl rfl) ?_
    refine Zaa.go (Zar rfl rfl rfl rfl) ?_;refine Zae ?_
    first | refine ZaD rfl (fun h15 => ?_) (fun h15 => ?_) | refine Za9 rfl (fun h15 => ?_) (fun h15 => ?_)
    · refine Zap ?_;refine Zaf ?_;refine Zaq ?_;refine Zaf ?_;refine Zab ?_;have hk1 : k < p.it.length := ZaL h12;have hgd : (idS p).ids.getD k 0 = p.it[k].id := by show (p.it.map Itm.id).getD k 0 = _; rw [Zbm 0 (by simpa using hk1)]; simp
      refine Zaa.go (Zad rfl rfl) ?_;refine Zaa.go (Zad rfl rfl) ?_;refine Zaa.go (st_shr rfl rfl (by omega) (shrU x k (by omega)) rfl) ?_;refine Zaa.go (st_bits rfl rfl rfl (and1U (shr_lt hx k)) rfl) ?_
      first | refine Zaa.go (Za0 rfl rfl rfl) ?_ | refine Zaa.go (ZaU rfl rfl rfl) ?_ | refine Zaa.go (st_eqlS rfl rfl rfl) ?_ | refine Zaa.go (st_eqlB Tryz.underlying65 rfl rfl rfl) ?_ | refine Zaa.go (st_eqlP Tryz.underlying65 rfl rfl rfl) ?_ | refine Zaa.go (st_eqlN Tryz.underlying65 rfl rfl) ?_ | refine Zaa.go (st_eqlF Tryz.underlying65 rfl rfl rfl) ?_ | refine Zaa.go (st_eqlFN Tryz.underlying65 rfl rfl) ?_
      refine Zae ?_
      first | refine ZaD rfl (fun h22 => ?_) (fun h22 => ?_) | refine Za9 rfl (fun h22 => ?_) (fun h22 => ?_)
      · refine Zab ?_;refine Zaa.go (Zad rfl rfl) ?_
        first | refine Zaa.go (Zah rfl Zba rfl rfl rfl) ?_ | refine Zaa.go (ZaR rfl Zba rfl rfl rfl) ?_ | refine Zaa.go (Za5 rfl Zba rfl rfl rfl) ?_ | refine Zaa.go (Zbp rfl Zba rfl rfl rfl) ?_
        first | refine Zaa.go (Zaz rfl rfl on23 rfl) ?_ | refine Zaa.go (Zaj rfl rfl rfl on23 rfl) ?_ | refine Zaa.go (Za2 rfl rfl (rfl) rfl on23 rfl) ?_
        refine Zaa.go (Zad rfl rfl) ?_
        first | refine Zaa.go (Zaw (k) rfl rfl (rfl) (getm hk1) Tryz.underlying23 rfl sz80 rfl) ?_ | refine Zaa.go (Zbx (k) rfl rfl (rfl) (getm hk1) rfl Tryz.underlying23 sz80 rfl) ?_
        first | refine Zaa.go (Zah rfl fi80_0 rfl rfl rfl) ?_ | refine Zaa.go (ZaR rfl fi80_0 rfl rfl rfl) ?_ | refine Zaa.go (Za5 rfl fi80_0 rfl rfl rfl) ?_ | refine Zaa.go (Zbp rfl fi80_0 rfl rfl rfl) ?_
        first | refine Zaa.go (Zaz rfl rfl on3 rfl) ?_ | refine Zaa.go (Zaj rfl rfl rfl on3 rfl) ?_ | refine Zaa.go (Za2 rfl rfl (rfl) rfl on3 rfl) ?_
        refine Zam.go (ZaE 30 sl26 rfl rfl rfl rfl rfl rfl rfl rfl) ?_
        first | refine Zam.go (Zbb (acc) ([p.it[k].id]) rfl rfl rfl rfl rfl rfl rfl rfl sl26 (by simp only [List.length_singleton]; omega) rfl rfl rfl rfl) ?_ | refine Zam.go (Zbk (acc) ([p.it[k].id]) rfl rfl rfl rfl rfl rfl (fun _ => rfl) sl26 (by simp only [List.length_singleton]; omega) rfl rfl rfl rfl) ?_
        refine Zaa.go (Zac rfl rfl) ?_;refine Zae ?_;refine Zab ?_;refine Zaa.go (Zad rfl rfl) ?_;refine Zaa.go (ZaA rfl rfl (wrapS (k + 1) (by omega)) rfl) ?_;refine Zaa.go (Zac rfl rfl) ?_;refine Zae ?_;exact ⟨(k + 1, acc ++ [p.it[k].id]), ⟨by show k + 1 ≤ _; omega, by show acc ++ [p.it[k].id] = _; rw [listS_snoc, if_pos ((bit_iff x k).1 h22), hgd, ← hA], by show (acc ++ [p.it[k].id]).length ≤ k + 1; rw [List.length_append]; simp; omega⟩, by show p.it.length - (k + 1) < p.it.length - k; omega, Zat hF [900, 1] rfl (rfl) ⟨rfl, rfl, rfl, rfl, trivial⟩⟩
      · refine Zap ?_;refine Zab ?_;refine Zaa.go (Zad rfl rfl) ?_;refine Zaa.go (ZaA rfl rfl (wrapS (k + 1) (by omega)) rfl) ?_;refine Zaa.go (Zac rfl rfl) ?_;refine Zae ?_;exact ⟨(k + 1, acc), ⟨by show k + 1 ≤ _; omega, by show acc = _; rw [listS_snoc, if_neg (by rw [bit_no h22]; decide), List.append_nil, ← hA], by show acc.length ≤ k + 1; omega⟩, by show p.it.length - (k + 1) < p.it.length - k; omega, Zat hF [900, 1] rfl (rfl) ⟨rfl, rfl, rfl, rfl, trivial⟩⟩
    · refine ZaM ?_;refine Zaf ?_;have hfa : acc = someL p x := by rw [hA]; have e : k = p.it.length := by { have h := h12; omega }; rw [e]; unfold someL listS; rw [show (idS p).ids.length = p.it.length from List.length_map _]
      refine Zbh (emb := intD) 5 900 acc rfl rfl rfl rfl rfl rfl rfl ?_;refine Zab ?_;refine Zaa.go (Zad rfl rfl) ?_;refine Zaa.go (Zac rfl rfl) ?_;refine Zae ?_;refine Zao ?_;exact ⟨_, [], [], Zan rfl, rfl, rfl, by rw [hfa], rfl⟩
  · refine Zai rfl rfl rfl rfl ?_;refine Zai rfl rfl rfl rfl ?_;refine Zaa.go (Zax rfl rfl rfl rfl) ?_;refine Zae ?_;refine ZaW rfl rfl ?_;refine ZaM ?_;refine Zaf ?_;have hfa : acc = someL p x := by rw [hA]; have e : k = p.it.length := by { have h := h12; omega }; rw [e]; unfold someL listS; rw [show (idS p).ids.length = p.it.length from List.length_map _]
    refine Zbh (emb := intD) 5 900 acc rfl rfl rfl rfl rfl rfl rfl ?_;refine Zab ?_;refine Zaa.go (Zad rfl rfl) ?_;refine Zaa.go (Zac rfl rfl) ?_;refine Zae ?_;refine Zao ?_;exact ⟨_, [], [], Zan rfl, rfl, rfl, by rw [hfa], rfl⟩
end Go.Proofs.YtnamabifclidmaaGreat
/- Layer 29: the union of two feasible sets; the plain law. -/
namespace Go.Proofs.YtnamabifclidmaaGreat
open Go.RowKit

theorem uni_adm {p : Prb} {C D : List Int} (hp : prbE p = 0) (hC : ∀ x ∈ C, x ∈ p.it.map Itm.id) (hD : ∀ x ∈ D, x ∈ p.it.map Itm.id) (h0 : blks p (inL C) = []) (h1 : blks p (inL D) = []) {U : List Int} (hU : ∀ x, x ∈ U ↔ x ∈ C ∨ x ∈ D) : blks p (inL U) = [] := by
  cases hb : blks p (inL U) with
  | nil => rfl
  | cons b r =>
    exfalso
    have hm : b ∈ blks p (inL U) := by rw [hb]; exact List.mem_cons_self
    obtain ⟨i, _, h2, h3, h4⟩ := blks_mem hm;have hi : i ∈ U := by simpa [inL] using h2
    have hn : b.m ∉ U := by simpa [inL] using h4
    rcases (hU i).1 hi with h | h
    · have := blks_none hp h0 (hC i h) (decide_eq_true h) h3;exact hn ((hU _).2 (.inl (by simpa [inL] using this)))
    · have := blks_none hp h1 (hD i h) (decide_eq_true h) h3;exact hn ((hU _).2 (.inr (by simpa [inL] using this)))
end Go.Proofs.YtnamabifclidmaaGreat
/- Layer 29: the law of unions of feasible sets. -/
namespace Go.Proofs.YtnamabifclidmaaGreat
open Go.RowKit

theorem choE_ok {p : Prb} (hp : prbE p = 0) {l : List Int} (hn : l.Nodup) (hS : ∀ x ∈ l, x ∈ p.it.map Itm.id) : choE p l = 0 := by
  unfold choE;rw [if_neg (by omega)];unfold setE;refine ZbF.2 fun k hk => ?_;have hk' := List.mem_range.1 hk;unfold chErr;rw [Zbm 0 hk', if_neg (fun h => h (hS _ (List.getElem_mem hk'))), if_neg];intro hm;obtain ⟨j, hj, e⟩ := List.mem_take_iff_getElem.1 hm;rw [List.Nodup, List.pairwise_iff_getElem] at hn;exact hn j k (by omega) hk' (by omega) e
theorem some_in {p : Prb} {x : Nat} : ∀ y ∈ someL p x, y ∈ p.it.map Itm.id := fun y hy => by
  unfold someL listS at hy;obtain ⟨i, hi, rfl⟩ := List.mem_map.1 hy;have hi' : i < (p.it.map Itm.id).length := List.mem_range.1 (List.mem_filter.1 hi).1;show (p.it.map Itm.id).getD i 0 ∈ _;rw [Zbm 0 hi']; exact List.getElem_mem hi'
theorem some_nodup {p : Prb} (hp : prbE p = 0) (x : Nat) : (someL p x).Nodup := by
  have hn := items_ids (prb_ok hp).2.1;unfold someL listS;rw [List.Nodup, List.pairwise_map];have hr : ((List.range (idS p).ids.length).filter fun i => x.testBit i).Nodup := List.Nodup.sublist List.filter_sublist List.nodup_range;refine List.Pairwise.imp_of_mem (fun {a b} ha hb hab e => ?_) hr;have ha' : a < (p.it.map Itm.id).length := List.mem_range.1 (List.mem_filter.1 ha).1;have hb' : b < (p.it.map Itm.id).length := List.mem_range.1 (List.mem_filter.1 hb).1;have e' : (p.it.map Itm.id).getD a 0 = (p.it.map Itm.id).getD b 0 := e;rw [Zbm 0 ha', Zbm 0 hb'] at e';rw [List.Nodup, List.pairwise_iff_getElem] at hn;rcases Nat.lt_trichotomy a b with h | h | h
  · exact hn a b ha' hb' h e'
  · exact hab h
  · exact hn b a hb' ha' h e'.symm
theorem some_len {p : Prb} {x : Nat} : (someL p x).length ≤ p.it.length := by
  unfold someL listS;rw [List.length_map];refine Nat.le_trans (List.length_filter_le _ _) ?_;rw [List.length_range]; exact Nat.le_of_eq (List.length_map _)
theorem cloS_in {p : Prb} {S : List Int} : ∀ y ∈ cloS p S, y ∈ p.it.map Itm.id := fun y hy => by
  unfold cloS at hy;exact (List.mem_filter.1 ((Zbu _).mem_iff.1 hy)).1
theorem cloS_nodup {p : Prb} (hp : prbE p = 0) (S : List Int) : (cloS p S).Nodup := by
  unfold cloS;exact (Zbu _).nodup_iff.2 (List.Nodup.sublist List.filter_sublist (items_ids (prb_ok hp).2.1))
theorem intS_in {p : Prb} {S : List Int} : ∀ y ∈ intS p S, y ∈ S := fun y hy => by
  unfold intS at hy;exact (List.mem_filter.1 ((Zbu _).mem_iff.1 hy)).1
theorem intS_nodup {p : Prb} {S : List Int} (hn : S.Nodup) : (intS p S).Nodup := by
  unfold intS;exact (Zbu _).nodup_iff.2 (List.Nodup.sublist List.filter_sublist hn)
end Go.Proofs.YtnamabifclidmaaGreat
/- Layer 29: closures and interiors are monotone and idempotent, and admissible sets form a lattice; the plain law. -/
namespace Go.Proofs.YtnamabifclidmaaGreat
open Go.RowKit

theorem Rch.mono {p : Prb} {S T : List Int} (h : ∀ x ∈ S, x ∈ T) {x : Int} (hx : Rch p S x) : Rch p T x := by
  induction hx with
  | base hx => exact .base (h _ hx)
  | step _ hb ih => exact .step ih hb
theorem mem_cloS {p : Prb} {S : List Int} (hp : prbE p = 0) (hS : ∀ x ∈ S, x ∈ p.it.map Itm.id) {x : Int} : x ∈ cloS p S ↔ Rch p S x := by
  unfold cloS;rw [(Zbu _).mem_iff, List.mem_filter];exact ⟨fun h => by simpa using h.2, fun h => ⟨h.ids hp hS, by simpa using h⟩⟩
theorem mem_intS {p : Prb} {S : List Int} {x : Int} : x ∈ intS p S ↔ x ∈ S ∧ ¬ Drp p S x := by
  unfold intS;rw [(Zbu _).mem_iff, List.mem_filter];exact ⟨fun h => ⟨h.1, by simpa using h.2⟩, fun h => ⟨h.1, by simpa using h.2⟩⟩
theorem adm_of {p : Prb} {C : List Int} (h : ∀ i ∈ C, ∀ b ∈ req p i, b.m ∈ C) : blks p (inL C) = [] := by
  cases hb : blks p (inL C) with
  | nil => rfl
  | cons b r =>
    exfalso
    obtain ⟨i, _, h2, h3, h4⟩ := blks_mem (p := p) (f := inL C) (b := b) (by rw [hb]; exact List.mem_cons_self);have hi : i ∈ C := by simpa [inL] using h2
    have hn : b.m ∉ C := by simpa [inL] using h4
    exact hn (h i hi b h3)
theorem adm_req {p : Prb} {C : List Int} (hp : prbE p = 0) (hC : ∀ x ∈ C, x ∈ p.it.map Itm.id) (h0 : blks p (inL C) = []) {i : Int} (hi : i ∈ C) {b : Bkd} (hb : b ∈ req p i) : b.m ∈ C := by
  have := blks_none hp h0 (hC i hi) (decide_eq_true hi) hb
  simpa [inL] using this
theorem cloS_adm {p : Prb} {S : List Int} (hp : prbE p = 0) (hS : ∀ x ∈ S, x ∈ p.it.map Itm.id) : blks p (inL (cloS p S)) = [] :=
  adm_of fun i hi b hb => (mem_cloS hp hS).2 (.step ((mem_cloS hp hS).1 hi) hb)
theorem intS_adm {p : Prb} {S : List Int} : blks p (inL (intS p S)) = [] :=
  adm_of fun i hi b hb => by
    have h1 := mem_intS.1 hi;refine mem_intS.2 ⟨Classical.byContradiction fun hn => h1.2 (.base hb hn), fun hd => h1.2 (.step hb hd)⟩
theorem sortI_idem (l : List Int) : sortI (sortI l) = sortI l := sortI_eq (Zbu l)
theorem cloS_idem {p : Prb} {S : List Int} (hp : prbE p = 0) (hS : ∀ x ∈ S, x ∈ p.it.map Itm.id) : cloS p (cloS p S) = cloS p S := by
  have h := (show Cl p (cloS p S) (cloS p S) from ⟨cloS_nodup hp S, fun _ h => h, fun _ h => .base h⟩).done hp cloS_in (cloS_adm hp hS);rw [← h];unfold cloS;exact sortI_idem _
theorem intS_idem {p : Prb} {S : List Int} (hp : prbE p = 0) (hn : S.Nodup) (hS : ∀ x ∈ S, x ∈ p.it.map Itm.id) : intS p (intS p S) = intS p S := by
  have h := (show Ci p (intS p S) (intS p S) from ⟨intS_nodup hn, fun _ h => h, fun _ h hc => absurd h hc⟩).done hp (intS_nodup hn) (fun x hx => hS x (intS_in x hx)) intS_adm;rw [← h];unfold intS;exact sortI_idem _
def bothL (p : Prb) (C D : List Int) : List Int := (p.it.map Itm.id).filter fun y => inL C y && inL D y
def eithL (p : Prb) (C D : List Int) : List Int := (p.it.map Itm.id).filter fun y => inL C y || inL D y
theorem bothL_mem {p : Prb} {C D : List Int} (hC : ∀ x ∈ C, x ∈ p.it.map Itm.id) (x : Int) : x ∈ bothL p C D ↔ x ∈ C ∧ x ∈ D := by
  unfold bothL;rw [List.mem_filter, Bool.and_eq_true];simp only [inL, decide_eq_true_eq];exact ⟨fun h => h.2, fun h => ⟨hC x h.1, h⟩⟩
theorem eithL_mem {p : Prb} {C D : List Int} (hC : ∀ x ∈ C, x ∈ p.it.map Itm.id) (hD : ∀ x ∈ D, x ∈ p.it.map Itm.id) (x : Int) : x ∈ eithL p C D ↔ x ∈ C ∨ x ∈ D := by
  unfold eithL;rw [List.mem_filter, Bool.or_eq_true];simp only [inL, decide_eq_true_eq];exact ⟨fun h => h.2, fun h => ⟨h.elim (hC x) (hD x), h⟩⟩
theorem both_adm {p : Prb} {C D : List Int} (hp : prbE p = 0) (hC : ∀ x ∈ C, x ∈ p.it.map Itm.id) (hD : ∀ x ∈ D, x ∈ p.it.map Itm.id) (h0 : blks p (inL C) = []) (h1 : blks p (inL D) = []) : blks p (inL (bothL p C D)) = [] :=
  adm_of fun i hi b hb => by
    have h := (bothL_mem hC i).1 hi;exact (bothL_mem hC _).2 ⟨adm_req hp hC h0 h.1 hb, adm_req hp hD h1 h.2 hb⟩
theorem both_cho {p : Prb} {C D : List Int} (hp : prbE p = 0) : choE p (bothL p C D) = 0 :=
  choE_ok hp (List.Nodup.sublist List.filter_sublist (items_ids (prb_ok hp).2.1)) fun x hx => (List.mem_filter.1 hx).1
theorem eith_cho {p : Prb} {C D : List Int} (hp : prbE p = 0) : choE p (eithL p C D) = 0 :=
  choE_ok hp (List.Nodup.sublist List.filter_sublist (items_ids (prb_ok hp).2.1)) fun x hx => (List.mem_filter.1 hx).1
theorem fil_len {p : Prb} (f : Int → Bool) : ((p.it.map Itm.id).filter f).length ≤ p.it.length := Nat.le_trans (List.length_filter_le _ _) (Nat.le_of_eq (List.length_map _))
theorem some_mono {p : Prb} {x y : Nat} (z : Int) (h : z ∈ someL p x) : z ∈ someL p (x ||| y) := by
  unfold someL listS at h ⊢;obtain ⟨i, hi, e⟩ := List.mem_map.1 h;obtain ⟨h1, h2⟩ := List.mem_filter.1 hi;exact List.mem_map.2 ⟨i, List.mem_filter.2 ⟨h1, by rw [Nat.testBit_or]; simp [h2]⟩, e⟩
end Go.Proofs.YtnamabifclidmaaGreat
/- Layer 29: the law of the lattice of admissible sets. -/
namespace Go.Proofs.YtnamabifclidmaaGreat
open Go.RowKit

def selK (p : Prb) (f : Int → Bool) (k : Nat) : List Int := ((p.it.map Itm.id).take k).filter f
theorem selK_succ {p : Prb} {f : Int → Bool} {k : Nat} (hk : k < p.it.length) : selK p f (k + 1) = selK p f k ++ if f p.it[k].id = true then [p.it[k].id] else [] := by
  have hk' : k < (p.it.map Itm.id).length := by rw [List.length_map]; exact hk
  unfold selK;rw [flt_snoc hk', List.getElem_map]
theorem selK_len {p : Prb} {f : Int → Bool} {k : Nat} : (selK p f k).length ≤ k := by
  unfold selK;refine Nat.le_trans (List.length_filter_le _ _) ?_;rw [List.length_take]; omega
theorem selK_all {p : Prb} {f : Int → Bool} {k : Nat} (hk : ¬ k < p.it.length) : selK p f k = (p.it.map Itm.id).filter f := by
  unfold selK; rw [List.take_of_length_le (by rw [List.length_map]; omega)]
def fB (C D : List Int) (y : Int) : Bool := inL C y && inL D y
def fE (C D : List Int) (y : Int) : Bool := inL C y || inL D y
set_option maxRecDepth 100000 in
theorem lawF7_p (p : Prb) (a b : Nat) (ha : a < 4294967296) (hb : b < 4294967296) : PCalls Tryz.prog 8 [.d (prbD p), .d (u32D a), .d (u32D b)] (.raw (.bool true)) := by
  have hk := known29_p;have hs := small_p p
  by_cases hf : Sml p
  · rw [decide_eq_true hf] at hs;have g1 := hf.1;have g2 := hf.2.1;have g3 := hf.2.2;have ck := refpcheck_p p (by omega) (by omega) (fun i hi => by have := g3 i hi; omega)
    by_cases hp : prbE p = 0
    · rw [hp] at ck;have c1 := own_p p hf;have s1 := some_p p a ha (by omega);have s2 := some_p p b hb (by omega);have s3 := some_p p (a ||| b) (or_lt ha hb) (by omega);have n1 := some_nodup hp a;have n2 := some_nodup hp b;have n3 := some_nodup hp (a ||| b);have e1 := some_len (p := p) (x := a);have e2 := some_len (p := p) (x := b);have e3 := some_len (p := p) (x := a ||| b);have c2 := closF_c p _ (sml_B hf) (by omega) (by omega) (by omega) (choE_ok hp n1 some_in) n1 some_in;have c3 := (intF_c p _ (sml_B hf) (by omega) (by omega) (by omega) (choE_ok hp n2 some_in) n2 some_in).by [(900, 901)] rfl;have c4 := (closF_c p _ (sml_B hf) (by omega) (by omega) (by omega) (choE_ok hp n3 some_in) n3 some_in).by [(900, 902)] rfl;have nC := cloS_nodup hp (someL p a);have nD := intS_nodup (p := p) n2;have iC := cloS_in (p := p) (S := someL p a);have iD : ∀ y ∈ intS p (someL p b), y ∈ p.it.map Itm.id := fun y hy => some_in y (intS_in y hy);have l1 := cloS_len (p := p) (l := someL p a);have l2 := intS_len (p := p) (l := someL p b);have l3 := cloS_len (p := p) (l := someL p (a ||| b));have aC := cloS_adm hp (some_in (p := p) (x := a));have aD := intS_adm (p := p) (S := someL p b);have iqC := cloS_idem hp (some_in (p := p) (x := a));have iqD := intS_idem hp n2 (some_in (p := p) (x := b));have hCG : ∀ x, x ∈ cloS p (someL p a) → x ∈ cloS p (someL p (a ||| b)) := fun x hx => (mem_cloS hp some_in).2 (((mem_cloS hp some_in).1 hx).mono some_mono)
      obtain ⟨C, hC⟩ : ∃ C, cloS p (someL p a) = C := ⟨_, rfl⟩
      obtain ⟨D, hD⟩ : ∃ D, intS p (someL p b) = D := ⟨_, rfl⟩
      obtain ⟨G, hG⟩ : ∃ G, cloS p (someL p (a ||| b)) = G := ⟨_, rfl⟩
      rw [hC] at c2 nC iC l1 aC iqC hCG;rw [hD] at c3 nD iD l2 aD iqD;rw [hG] at c4 l3 hCG;have c5 := (closF_c p C (sml_B hf) (by omega) (by omega) (by omega) (choE_ok hp nC iC) nC iC).by [(900, 903)] rfl;have c6 := (intF_c p D (sml_B hf) (by omega) (by omega) (by omega) (choE_ok hp nD iD) nD iD).by [(900, 904)] rfl;rw [iqC] at c5;rw [iqD] at c6;have q1 := equal29_p C C (by omega);have q2 := equal29_p D D (by omega);rw [decide_eq_true rfl] at q1 q2;have f1 := admF_p p (bothL p C D) (sml_B hf) (Nat.le_trans (fil_len _) (by omega)) (by omega) (by omega);have f2 := admF_p p (eithL p C D) (sml_B hf) (Nat.le_trans (fil_len _) (by omega)) (by omega) (by omega);rw [decide_eq_true ⟨both_cho hp, both_adm hp iC iD aC aD⟩, both_cho hp] at f1;rw [decide_eq_true ⟨eith_cho hp, uni_adm hp iC iD aC aD (eithL_mem iC iD)⟩, eith_cho hp] at f2;have hic : ∀ (x : Int) (v : Bool), decide (x ∈ C) = v → PCalls Tryz.prog 33 [.d (.sl none (C.map intD)), .d (intD x)] (.raw (.bool v)) := fun x v h => by rw [← h]; exact in29_p C x (by omega)
      have hid : ∀ (x : Int) (v : Bool), decide (x ∈ D) = v → PCalls Tryz.prog 33 [.d (.sl none (D.map intD)), .d (intD x)] (.raw (.bool v)) := fun x v h => by rw [← h]; exact in29_p D x (by omega)
      have hig : ∀ (x : Int) (v : Bool), decide (x ∈ G) = v → PCalls Tryz.prog 33 [.d (.sl none (G.map intD)), .d (intD x)] (.raw (.bool v)) := fun x v h => by rw [← h]; exact in29_p G x (by omega)
      refine ZaC Tryz.func8 rfl rfl Tryz.ntmps8 rfl rfl rfl fun F hF => ?_;refine Zaf ?_;refine Zab ?_;refine Zam.go (ZaQ 1 rfl rfl rfl rfl rfl rfl rfl) ?_;refine Zaa.go (Zac rfl rfl) ?_;refine Zae ?_;refine Zaf ?_;refine Zaf ?_;refine Zab ?_
      first | refine Zaa.go (ZaF rfl rfl rw25 rfl) ?_ | refine Zaa.go (Zau rfl rfl rw25 rfl rfl rfl) ?_ | refine Zaa.go (Za7 rfl rfl (rfl) rfl rw25 rfl) ?_
      refine Zaa.go (Zas (hs) rfl rfl) ?_
      first | refine Zaa.go (Zbg rfl rfl) ?_ | refine Zaa.go (st_not rfl rfl) ?_
      refine Zaa.go (Zad rfl rfl) ?_;refine o_setF 29 rfl (rfl) ?_;refine Zal rfl rfl rfl ?_
      first | refine Zaa.go (ZaF rfl rfl rw25 rfl) ?_ | refine Zaa.go (Zau rfl rfl rw25 rfl rfl rfl) ?_ | refine Zaa.go (Za7 rfl rfl (rfl) rfl rw25 rfl) ?_
      refine Zal rfl rfl rfl ?_;refine Zaa.go (Zas (ck) rfl rfl) ?_;refine Zal rfl rfl rfl ?_
      first | refine Zaa.go (Za6 rfl rfl rfl) ?_ | refine Zaa.go (Zbo rfl rfl rfl) ?_ | refine Zaa.go (st_neqS rfl rfl rfl) ?_ | refine Zaa.go (st_neqB Tryz.underlying3 rfl rfl rfl) ?_ | refine Zaa.go (st_neqP Tryz.underlying3 rfl rfl rfl) ?_ | refine Zaa.go (st_neqN Tryz.underlying3 rfl rfl) ?_ | refine Zaa.go (st_neqF Tryz.underlying3 rfl rfl rfl) ?_ | refine Zaa.go (st_neqFN Tryz.underlying3 rfl rfl) ?_
      refine Zaa.go (Zax rfl rfl rfl rfl) ?_;refine Zae ?_;refine ZaW rfl (rfl) ?_;refine Zap ?_;refine Zaf ?_;refine Zab ?_
      first | refine Zaa.go (ZaF rfl rfl rw25 rfl) ?_ | refine Zaa.go (Zau rfl rfl rw25 rfl rfl rfl) ?_ | refine Zaa.go (Za7 rfl rfl (rfl) rfl rw25 rfl) ?_
      refine Zaa.go (Zas (c1) rfl rfl) ?_;refine Zam.go (ZaT 2 zl35 rfl rfl rfl rfl) ?_;refine Zam.go (ZaK rfl rfl rfl rfl rfl rfl rfl sz35) ?_;refine Zae ?_;refine Zaf ?_;refine ZaZ [[], [], [], [1, 2], [0, 1, 2, 3], [0, 1, 2, 3, 4], [0, 1, 2, 3, 4, 5], [0, 1, 2, 3, 4, 5], [0, 1, 2, 3, 4, 5, 6], [0, 1, 2, 3, 4, 5, 6, 7, 8]] mixed rfl ?_;refine dws ?_
      first | refine Zak [7] [2] rfl rfl (fun _ => Zag (ZaF rfl rfl rw35 rfl)) ?_ | refine Zak [7] [2] rfl rfl (fun _ => Zag (Zau rfl rfl rw35 rfl rfl rfl)) ?_ | refine Zak [7] [2] rfl rfl (fun _ => Zag (Za7 rfl rfl (rfl) rfl rw35 rfl)) ?_
      first | refine Zak [3] [1] rfl rfl (fun _ => Zag (ZaF rfl rfl rw25 rfl)) ?_ | refine Zak [3] [1] rfl rfl (fun _ => Zag (Zau rfl rfl rw25 rfl rfl rfl)) ?_ | refine Zak [3] [1] rfl rfl (fun _ => Zag (Za7 rfl rfl (rfl) rfl rw25 rfl)) ?_
      first | refine Zak [1] [] rfl rfl (fun _ => Zag (Zad rfl rfl)) ?_ | refine Zay [1] rfl rfl (fun _ => Zag (Zad rfl rfl)) ?_
      first | refine Zak [39, 40] [] rfl rfl (fun _ => Zag (Zas (s1) rfl rfl)) ?_ | refine Zay [39, 40] rfl rfl (fun _ => Zag (Zas (s1) rfl rfl)) ?_
      refine dwc 4 rfl rfl rfl ?_;refine dw1 5 rfl rfl ?_;refine Zam.go (ZaX c2 rfl [900] ⟨rfl, trivial⟩ rfl rfl rfl rfl rfl rfl rfl rfl rfl) ?_;refine Zae ⟨rfl, ?_⟩;refine dw1 6 rfl rfl ?_;refine Zaa.go (Zad rfl rfl) ?_;refine Zae ⟨rfl, ?_⟩;refine dws ?_
      first | refine Zak [37] [] rfl rfl (fun _ => Zag (ZaG rfl rfl rfl)) ?_ | refine Zay [37] rfl rfl (fun _ => Zag (ZaG rfl rfl rfl)) ?_ | refine Zak [37] [] rfl rfl (fun _ => Zag (ZaB rfl rfl rfl)) ?_ | refine Zay [37] rfl rfl (fun _ => Zag (ZaB rfl rfl rfl)) ?_
      first | refine Zak [37] [] rfl rfl (fun _ => Zag (ZaG rfl rfl rfl)) ?_ | refine Zay [37] rfl rfl (fun _ => Zag (ZaG rfl rfl rfl)) ?_ | refine Zak [37] [] rfl rfl (fun _ => Zag (ZaB rfl rfl rfl)) ?_ | refine Zay [37] rfl rfl (fun _ => Zag (ZaB rfl rfl rfl)) ?_
      first | refine Zak [43] [] rfl rfl (fun _ => Zag (Zac rfl rfl)) ?_ | refine Zay [43] rfl rfl (fun _ => Zag (Zac rfl rfl)) ?_
      refine dwc 9 rfl rfl rfl ?_;refine dw1 10 rfl rfl ?_;refine Zaa.go (Zac rfl rfl) ?_;refine Zae ⟨rfl, ?_⟩;refine dwe ?_;refine Zaf ?_;refine Zbh (emb := intD) 8 900 C rfl rfl rfl rfl rfl rfl rfl ?_;refine ZaZ [[], [], [], [1, 2], [0, 1, 2, 3], [0, 1, 2, 3, 4], [0, 1, 2, 3, 4, 5], [0, 1, 2, 3, 4, 5], [0, 1, 2, 3, 4, 5, 6], [0, 1, 2, 3, 4, 5, 6, 7, 8]] mixed rfl ?_;refine dws ?_
      first | refine Zak [7] [2] rfl rfl (fun _ => Zag (ZaF rfl rfl rw35 rfl)) ?_ | refine Zak [7] [2] rfl rfl (fun _ => Zag (Zau rfl rfl rw35 rfl rfl rfl)) ?_ | refine Zak [7] [2] rfl rfl (fun _ => Zag (Za7 rfl rfl (rfl) rfl rw35 rfl)) ?_
      first | refine Zak [3] [1] rfl rfl (fun _ => Zag (ZaF rfl rfl rw25 rfl)) ?_ | refine Zak [3] [1] rfl rfl (fun _ => Zag (Zau rfl rfl rw25 rfl rfl rfl)) ?_ | refine Zak [3] [1] rfl rfl (fun _ => Zag (Za7 rfl rfl (rfl) rfl rw25 rfl)) ?_
      first | refine Zak [2] [] rfl rfl (fun _ => Zag (Zad rfl rfl)) ?_ | refine Zay [2] rfl rfl (fun _ => Zag (Zad rfl rfl)) ?_
      first | refine Zak [47, 48] [] rfl rfl (fun _ => Zag (Zas (s2) rfl rfl)) ?_ | refine Zay [47, 48] rfl rfl (fun _ => Zag (Zas (s2) rfl rfl)) ?_
      refine dwc 4 rfl rfl rfl ?_;refine dw1 5 rfl rfl ?_;refine Zam.go (ZaX c3 rfl [901] ⟨rfl, trivial⟩ rfl rfl rfl rfl rfl rfl rfl rfl rfl) ?_;refine Zae ⟨rfl, ?_⟩;refine dw1 6 rfl rfl ?_;refine Zaa.go (Zad rfl rfl) ?_;refine Zae ⟨rfl, ?_⟩;refine dws ?_
      first | refine Zak [45] [] rfl rfl (fun _ => Zag (ZaG rfl rfl rfl)) ?_ | refine Zay [45] rfl rfl (fun _ => Zag (ZaG rfl rfl rfl)) ?_ | refine Zak [45] [] rfl rfl (fun _ => Zag (ZaB rfl rfl rfl)) ?_ | refine Zay [45] rfl rfl (fun _ => Zag (ZaB rfl rfl rfl)) ?_
      first | refine Zak [45] [] rfl rfl (fun _ => Zag (ZaG rfl rfl rfl)) ?_ | refine Zay [45] rfl rfl (fun _ => Zag (ZaG rfl rfl rfl)) ?_ | refine Zak [45] [] rfl rfl (fun _ => Zag (ZaB rfl rfl rfl)) ?_ | refine Zay [45] rfl rfl (fun _ => Zag (ZaB rfl rfl rfl)) ?_
      first | refine Zak [51] [] rfl rfl (fun _ => Zag (Zac rfl rfl)) ?_ | refine Zay [51] rfl rfl (fun _ => Zag (Zac rfl rfl)) ?_
      refine dwc 9 rfl rfl rfl ?_;refine dw1 10 rfl rfl ?_;refine Zaa.go (Zac rfl rfl) ?_;refine Zae ⟨rfl, ?_⟩;refine dwe ?_;refine Zaf ?_;refine Zbh (emb := intD) 10 901 D rfl rfl rfl rfl rfl rfl rfl ?_;refine ZaZ [[], [], [], [], [2, 3], [1, 2, 3, 4], [0, 1, 2, 3, 4, 5], [0, 1, 2, 3, 4, 5, 6], [0, 1, 2, 3, 4, 5, 6, 7], [0, 1, 2, 3, 4, 5, 6, 7], [0, 1, 2, 3, 4, 5, 6, 7, 8], [0, 1, 2, 3, 4, 5, 6, 7, 8, 9, 10]] mixed rfl ?_;refine dws ?_
      first | refine Zak [7] [2] rfl rfl (fun _ => Zag (ZaF rfl rfl rw35 rfl)) ?_ | refine Zak [7] [2] rfl rfl (fun _ => Zag (Zau rfl rfl rw35 rfl rfl rfl)) ?_ | refine Zak [7] [2] rfl rfl (fun _ => Zag (Za7 rfl rfl (rfl) rfl rw35 rfl)) ?_
      first | refine Zak [3] [1] rfl rfl (fun _ => Zag (ZaF rfl rfl rw25 rfl)) ?_ | refine Zak [3] [1] rfl rfl (fun _ => Zag (Zau rfl rfl rw25 rfl rfl rfl)) ?_ | refine Zak [3] [1] rfl rfl (fun _ => Zag (Za7 rfl rfl (rfl) rfl rw25 rfl)) ?_
      first | refine Zak [1] [] rfl rfl (fun _ => Zag (Zad rfl rfl)) ?_ | refine Zay [1] rfl rfl (fun _ => Zag (Zad rfl rfl)) ?_
      first | refine Zak [2] [] rfl rfl (fun _ => Zag (Zad rfl rfl)) ?_ | refine Zay [2] rfl rfl (fun _ => Zag (Zad rfl rfl)) ?_
      first | refine Zak [56, 57] [] rfl rfl (fun _ => Zag (st_bits rfl rfl rfl (orU ha hb) rfl)) ?_ | refine Zay [56, 57] rfl rfl (fun _ => Zag (st_bits rfl rfl rfl (orU ha hb) rfl)) ?_
      first | refine Zak [55, 58] [] rfl rfl (fun _ => Zag (Zas (s3) rfl rfl)) ?_ | refine Zay [55, 58] rfl rfl (fun _ => Zag (Zas (s3) rfl rfl)) ?_
      refine dwc 6 rfl rfl rfl ?_;refine dw1 7 rfl rfl ?_;refine Zam.go (ZaX c4 rfl [902] ⟨rfl, trivial⟩ rfl rfl rfl rfl rfl rfl rfl rfl rfl) ?_;refine Zae ⟨rfl, ?_⟩;refine dw1 8 rfl rfl ?_;refine Zaa.go (Zad rfl rfl) ?_;refine Zae ⟨rfl, ?_⟩;refine dws ?_
      first | refine Zak [53] [] rfl rfl (fun _ => Zag (ZaG rfl rfl rfl)) ?_ | refine Zay [53] rfl rfl (fun _ => Zag (ZaG rfl rfl rfl)) ?_ | refine Zak [53] [] rfl rfl (fun _ => Zag (ZaB rfl rfl rfl)) ?_ | refine Zay [53] rfl rfl (fun _ => Zag (ZaB rfl rfl rfl)) ?_
      first | refine Zak [53] [] rfl rfl (fun _ => Zag (ZaG rfl rfl rfl)) ?_ | refine Zay [53] rfl rfl (fun _ => Zag (ZaG rfl rfl rfl)) ?_ | refine Zak [53] [] rfl rfl (fun _ => Zag (ZaB rfl rfl rfl)) ?_ | refine Zay [53] rfl rfl (fun _ => Zag (ZaB rfl rfl rfl)) ?_
      first | refine Zak [61] [] rfl rfl (fun _ => Zag (Zac rfl rfl)) ?_ | refine Zay [61] rfl rfl (fun _ => Zag (Zac rfl rfl)) ?_
      refine dwc 11 rfl rfl rfl ?_;refine dw1 12 rfl rfl ?_;refine Zaa.go (Zac rfl rfl) ?_;refine Zae ⟨rfl, ?_⟩;refine dwe ?_;refine Zaf ?_;refine Zaf ?_;refine Zbh (emb := intD) 12 902 G rfl rfl rfl rfl rfl rfl rfl ?_;refine Zab ?_;refine Zaa.go (Zad rfl rfl) ?_
      first | refine Zaa.go (Za6 rfl rfl rfl) ?_ | refine Zaa.go (Zbo rfl rfl rfl) ?_ | refine Zaa.go (st_neqS rfl rfl rfl) ?_ | refine Zaa.go (st_neqB Tryz.underlying29 rfl rfl rfl) ?_ | refine Zaa.go (st_neqP Tryz.underlying29 rfl rfl rfl) ?_ | refine Zaa.go (st_neqN Tryz.underlying29 rfl rfl) ?_ | refine Zaa.go (st_neqF Tryz.underlying29 rfl rfl rfl) ?_ | refine Zaa.go (st_neqFN Tryz.underlying29 rfl rfl) ?_
      refine Zaa.go (Zad rfl rfl) ?_;refine o_setF 65 rfl (rfl) ?_;refine Zal rfl rfl rfl ?_;refine Zaa.go (Zad rfl rfl) ?_;refine Zal rfl rfl rfl ?_
      first | refine Zaa.go (Za6 rfl rfl rfl) ?_ | refine Zaa.go (Zbo rfl rfl rfl) ?_ | refine Zaa.go (st_neqS rfl rfl rfl) ?_ | refine Zaa.go (st_neqB Tryz.underlying29 rfl rfl rfl) ?_ | refine Zaa.go (st_neqP Tryz.underlying29 rfl rfl rfl) ?_ | refine Zaa.go (st_neqN Tryz.underlying29 rfl rfl) ?_ | refine Zaa.go (st_neqF Tryz.underlying29 rfl rfl rfl) ?_ | refine Zaa.go (st_neqFN Tryz.underlying29 rfl rfl) ?_
      refine Zaa.go (Zax rfl rfl rfl rfl) ?_;refine Zaa.go (Zad rfl rfl) ?_;refine o_setF 69 rfl (rfl) ?_;refine Zal rfl rfl rfl ?_;refine Zaa.go (Zad rfl rfl) ?_;refine Zal rfl rfl rfl ?_
      first | refine Zaa.go (Za6 rfl rfl rfl) ?_ | refine Zaa.go (Zbo rfl rfl rfl) ?_ | refine Zaa.go (st_neqS rfl rfl rfl) ?_ | refine Zaa.go (st_neqB Tryz.underlying29 rfl rfl rfl) ?_ | refine Zaa.go (st_neqP Tryz.underlying29 rfl rfl rfl) ?_ | refine Zaa.go (st_neqN Tryz.underlying29 rfl rfl) ?_ | refine Zaa.go (st_neqF Tryz.underlying29 rfl rfl rfl) ?_ | refine Zaa.go (st_neqFN Tryz.underlying29 rfl rfl) ?_
      refine Zaa.go (Zax rfl rfl rfl rfl) ?_;refine Zae ?_;refine ZaW rfl (rfl) ?_;refine Zap ?_;refine Zaf ?_;refine Zab ?_;refine Zaa.go (Zac rfl rfl) ?_;refine Zaa.go (Zac rfl rfl) ?_;refine Zae ?_;refine Zaf ?_;refine Zaf ?_;refine a_adopt 14 910 sl26 rfl rfl rfl rfl ?_;refine a_adopt 15 911 sl26 rfl rfl rfl rfl ?_;refine Zab ?_;refine Zaa.go (Zac rfl rfl) ?_;refine Zae ?_;refine Zaq ?_;refine ZaP (α := Nat × List Int × List Int) (fun q => ⟨176, [(3, (.ptr 1 0 0)), (7, (.ptr 2 0 0)), (8, (.d (.sl none (C.map intD)))), (10, (.d (.sl none (D.map intD)))), (12, (.d (.sl none (G.map intD)))), (14, (.own 910 0 q.2.1.length)), (15, (.own 911 0 q.2.2.length)), (16, (.d (intD (q.1 : Int))))], [(1, [prbB2 25 p]), (2, [prbB2 35 p]), (910, [.rowD 3 1 (q.2.1.map intD)]), (911, [.rowD 3 1 (q.2.2.map intD)])]⟩) (fun q => q.1 ≤ p.it.length ∧ q.2.1 = selK p (fB C D) q.1 ∧ q.2.2 = selK p (fE C D) q.1) (fun q => p.it.length - q.1) ((0, [], [])) (⟨Nat.zero_le _, rfl, rfl⟩) (Zat hF [1, 2, 910, 911] rfl rfl ⟨rfl, rfl, rfl, rfl, rfl, rfl, rfl, rfl, trivial⟩) ?_;rintro ⟨k, y, z⟩ ⟨hk0, hy, hz⟩;dsimp only at hk0 hy hz ⊢;refine Zaf ?_;refine Zaf ?_;refine Zab ?_;refine Zaa.go (Zad rfl rfl) ?_
      first | refine Zaa.go (Zah rfl Zba rfl rfl rfl) ?_ | refine Zaa.go (ZaR rfl Zba rfl rfl rfl) ?_ | refine Zaa.go (Za5 rfl Zba rfl rfl rfl) ?_ | refine Zaa.go (Zbp rfl Zba rfl rfl rfl) ?_
      first | refine Zaa.go (Zaz rfl rfl on23 rfl) ?_ | refine Zaa.go (Zaj rfl rfl rfl on23 rfl) ?_ | refine Zaa.go (Za2 rfl rfl (rfl) rfl on23 rfl) ?_
      first | refine Zaa.go (Zav rfl Tryz.underlying23 rfl) ?_ | refine Zaa.go (st_lenD rfl rfl Tryz.underlying23 rfl) ?_ | refine Zaa.go (st_lenO rfl Tryz.underlying23 rfl) ?_ | refine Zaa.go (ZbM rfl Tryz.underlying23 rfl) ?_ | refine Zaa.go (st_lenS rfl Tryz.underlying23 rfl) ?_
      first | refine Zaa.go (ZaI rfl rfl rfl) ?_ | refine Zaa.go (Zbw rfl rfl rfl) ?_
      refine Zae ?_
      first | refine ZaD rfl (fun h77 => ?_) (fun h77 => ?_) | refine Za9 rfl (fun h77 => ?_) (fun h77 => ?_)
      · have hk1 : k < p.it.length := ZaL h77;refine Zap ?_;refine Zaf ?_;refine Zaq ?_;refine Zaf ?_;refine Zab ?_;have hyl : y.length ≤ k := by rw [hy]; exact selK_len
        have hzl : z.length ≤ k := by rw [hz]; exact selK_len
        first | refine Zaa.go (Zah rfl Zba rfl rfl rfl) ?_ | refine Zaa.go (ZaR rfl Zba rfl rfl rfl) ?_ | refine Zaa.go (Za5 rfl Zba rfl rfl rfl) ?_ | refine Zaa.go (Zbp rfl Zba rfl rfl rfl) ?_
        first | refine Zaa.go (Zaz rfl rfl on23 rfl) ?_ | refine Zaa.go (Zaj rfl rfl rfl on23 rfl) ?_ | refine Zaa.go (Za2 rfl rfl (rfl) rfl on23 rfl) ?_
        refine Zaa.go (Zad rfl rfl) ?_
        first | refine Zaa.go (Zaw (k) rfl rfl (rfl) (getm hk1) Tryz.underlying23 rfl sz80 rfl) ?_ | refine Zaa.go (Zbx (k) rfl rfl (rfl) (getm hk1) rfl Tryz.underlying23 sz80 rfl) ?_
        first | refine Zaa.go (Zah rfl fi80_0 rfl rfl rfl) ?_ | refine Zaa.go (ZaR rfl fi80_0 rfl rfl rfl) ?_ | refine Zaa.go (Za5 rfl fi80_0 rfl rfl rfl) ?_ | refine Zaa.go (Zbp rfl fi80_0 rfl rfl rfl) ?_
        first | refine Zaa.go (Zaz rfl rfl on3 rfl) ?_ | refine Zaa.go (Zaj rfl rfl rfl on3 rfl) ?_ | refine Zaa.go (Za2 rfl rfl (rfl) rfl on3 rfl) ?_
        refine Zaa.go (Zac rfl rfl) ?_;refine Zae ?_;refine Zaf ?_;refine Zaf ?_;refine Zab ?_
        cases hc : decide (p.it[k].id ∈ C)
        · refine Zaa.go (Zad rfl rfl) ?_
          cases hd : decide (p.it[k].id ∈ D)
          · refine Zaa.go (Zad rfl rfl) ?_;refine Zaa.go (Zas (hic _ _ hc) rfl rfl) ?_;refine Zaa.go (Zad rfl rfl) ?_;refine o_setF 89 rfl (rfl) ?_;refine Zai rfl rfl rfl rfl ?_;refine Zai rfl rfl rfl rfl ?_;refine Zai rfl rfl rfl rfl ?_;refine Zaa.go (Zax rfl rfl rfl rfl) ?_;refine Zae ?_;refine ZaW rfl rfl ?_;refine Zap ?_;refine Zaf ?_;refine Zaf ?_;refine Zab ?_;refine Zaa.go (Zad rfl rfl) ?_;refine Zaa.go (Zad rfl rfl) ?_;refine Zaa.go (Zas (hic _ _ hc) rfl rfl) ?_;refine Zaa.go (Zad rfl rfl) ?_;refine o_setF 101 rfl (rfl) ?_;refine Zal rfl rfl rfl ?_;refine Zaa.go (Zad rfl rfl) ?_;refine Zal rfl rfl rfl ?_;refine Zaa.go (Zad rfl rfl) ?_;refine Zal rfl rfl rfl ?_;refine Zaa.go (Zas (hid _ _ hd) rfl rfl) ?_;refine Zaa.go (Zax rfl rfl rfl rfl) ?_;refine Zae ?_;refine ZaW rfl (rfl) ?_;refine Zap ?_;refine Zaf ?_;refine Zab ?_;refine Zaa.go (Zad rfl rfl) ?_;refine Zaa.go (Zad rfl rfl) ?_;refine Zaa.go (Zas (hic _ _ hc) rfl rfl) ?_;refine Zaa.go (Zad rfl rfl) ?_;refine o_setF 113 rfl (rfl) ?_;refine Zai rfl rfl rfl rfl ?_;refine Zai rfl rfl rfl rfl ?_;refine Zai rfl rfl rfl rfl ?_;refine Zai rfl rfl rfl rfl ?_;refine Zaa.go (Zax rfl rfl rfl rfl) ?_;refine Zae ?_;refine ZaW rfl rfl ?_;refine Zap ?_;refine Zab ?_;refine Zaa.go (Zad rfl rfl) ?_;refine Zaa.go (ZaA rfl rfl (wrapS (k + 1) (by omega)) rfl) ?_;refine Zaa.go (Zac rfl rfl) ?_;refine Zae ?_;exact ⟨(k + 1, y, z), ⟨by show k + 1 ≤ _; omega, by show y = _; rw [selK_succ hk1, if_neg (by unfold fB inL; rw [hc]; simp), List.append_nil]; exact hy, by show z = _; rw [selK_succ hk1, if_neg (by unfold fE inL; rw [hc, hd]; simp), List.append_nil]; exact hz⟩, by show p.it.length - (k + 1) < p.it.length - k; omega, Zat hF [1, 2, 910, 911] rfl (rfl) ⟨rfl, rfl, rfl, rfl, rfl, rfl, rfl, rfl, trivial⟩⟩
          · refine Zaa.go (Zad rfl rfl) ?_;refine Zaa.go (Zas (hic _ _ hc) rfl rfl) ?_;refine Zaa.go (Zad rfl rfl) ?_;refine o_setF 89 rfl (rfl) ?_;refine Zai rfl rfl rfl rfl ?_;refine Zai rfl rfl rfl rfl ?_;refine Zai rfl rfl rfl rfl ?_;refine Zaa.go (Zax rfl rfl rfl rfl) ?_;refine Zae ?_;refine ZaW rfl rfl ?_;refine Zap ?_;refine Zaf ?_;refine Zaf ?_;refine Zab ?_;refine Zaa.go (Zad rfl rfl) ?_;refine Zaa.go (Zad rfl rfl) ?_;refine Zaa.go (Zas (hic _ _ hc) rfl rfl) ?_;refine Zaa.go (Zad rfl rfl) ?_;refine o_setF 101 rfl (rfl) ?_;refine Zal rfl rfl rfl ?_;refine Zaa.go (Zad rfl rfl) ?_;refine Zal rfl rfl rfl ?_;refine Zaa.go (Zad rfl rfl) ?_;refine Zal rfl rfl rfl ?_;refine Zaa.go (Zas (hid _ _ hd) rfl rfl) ?_;refine Zaa.go (Zax rfl rfl rfl rfl) ?_;refine Zae ?_;refine ZaN rfl (rfl) ?_;refine Zab ?_;refine Zaa.go (Zad rfl rfl) ?_;refine Zaa.go (Zad rfl rfl) ?_;refine Zam.go (ZaE 42 sl26 rfl rfl rfl rfl rfl rfl rfl rfl) ?_
            first | refine Zam.go (Zbb (z) ([p.it[k].id]) rfl rfl rfl rfl rfl rfl rfl rfl sl26 (by simp only [List.length_singleton]; omega) rfl rfl rfl rfl) ?_ | refine Zam.go (Zbk (z) ([p.it[k].id]) rfl rfl rfl rfl rfl rfl (fun _ => rfl) sl26 (by simp only [List.length_singleton]; omega) rfl rfl rfl rfl) ?_
            refine Zaa.go (Zac rfl rfl) ?_;refine Zae ?_;refine Zaf ?_;refine Zab ?_;refine Zaa.go (Zad rfl rfl) ?_;refine Zaa.go (Zad rfl rfl) ?_;refine Zaa.go (Zas (hic _ _ hc) rfl rfl) ?_;refine Zaa.go (Zad rfl rfl) ?_;refine o_setF 113 rfl (rfl) ?_;refine Zai rfl rfl rfl rfl ?_;refine Zai rfl rfl rfl rfl ?_;refine Zai rfl rfl rfl rfl ?_;refine Zai rfl rfl rfl rfl ?_;refine Zaa.go (Zax rfl rfl rfl rfl) ?_;refine Zae ?_;refine ZaW rfl rfl ?_;refine Zap ?_;refine Zab ?_;refine Zaa.go (Zad rfl rfl) ?_;refine Zaa.go (ZaA rfl rfl (wrapS (k + 1) (by omega)) rfl) ?_;refine Zaa.go (Zac rfl rfl) ?_;refine Zae ?_;exact ⟨(k + 1, y, z ++ [p.it[k].id]), ⟨by show k + 1 ≤ _; omega, by show y = _; rw [selK_succ hk1, if_neg (by unfold fB inL; rw [hc]; simp), List.append_nil]; exact hy, by show z ++ [p.it[k].id] = _; rw [selK_succ hk1, if_pos (by unfold fE inL; rw [hd]; simp), ← hz]⟩, by show p.it.length - (k + 1) < p.it.length - k; omega, Zat hF [1, 2, 910, 911] rfl (rfl) ⟨rfl, rfl, rfl, rfl, rfl, rfl, rfl, rfl, trivial⟩⟩
        · refine Zaa.go (Zad rfl rfl) ?_
          cases hd : decide (p.it[k].id ∈ D)
          · refine Zaa.go (Zad rfl rfl) ?_;refine Zaa.go (Zas (hic _ _ hc) rfl rfl) ?_;refine Zaa.go (Zad rfl rfl) ?_;refine Zbe 89 rfl (rfl) ?_;refine Zal rfl rfl rfl ?_;refine Zaa.go (Zad rfl rfl) ?_;refine Zal rfl rfl rfl ?_;refine Zaa.go (Zad rfl rfl) ?_;refine Zal rfl rfl rfl ?_;refine Zaa.go (Zas (hid _ _ hd) rfl rfl) ?_;refine Zaa.go (Zar rfl rfl rfl rfl) ?_;refine Zae ?_;refine ZaW rfl (rfl) ?_;refine Zap ?_;refine Zaf ?_;refine Zaf ?_;refine Zab ?_;refine Zaa.go (Zad rfl rfl) ?_;refine Zaa.go (Zad rfl rfl) ?_;refine Zaa.go (Zas (hic _ _ hc) rfl rfl) ?_;refine Zaa.go (Zad rfl rfl) ?_;refine Zbe 101 rfl (rfl) ?_;refine Zai rfl rfl rfl rfl ?_;refine Zai rfl rfl rfl rfl ?_;refine Zai rfl rfl rfl rfl ?_;refine Zaa.go (Zar rfl rfl rfl rfl) ?_;refine Zae ?_;refine ZaN rfl rfl ?_;refine Zab ?_;refine Zaa.go (Zad rfl rfl) ?_;refine Zaa.go (Zad rfl rfl) ?_;refine Zam.go (ZaE 42 sl26 rfl rfl rfl rfl rfl rfl rfl rfl) ?_
            first | refine Zam.go (Zbb (z) ([p.it[k].id]) rfl rfl rfl rfl rfl rfl rfl rfl sl26 (by simp only [List.length_singleton]; omega) rfl rfl rfl rfl) ?_ | refine Zam.go (Zbk (z) ([p.it[k].id]) rfl rfl rfl rfl rfl rfl (fun _ => rfl) sl26 (by simp only [List.length_singleton]; omega) rfl rfl rfl rfl) ?_
            refine Zaa.go (Zac rfl rfl) ?_;refine Zae ?_;refine Zaf ?_;refine Zab ?_;refine Zaa.go (Zad rfl rfl) ?_;refine Zaa.go (Zad rfl rfl) ?_;refine Zaa.go (Zas (hic _ _ hc) rfl rfl) ?_;refine Zaa.go (Zad rfl rfl) ?_;refine Zbe 113 rfl (rfl) ?_;refine Zal rfl rfl rfl ?_;refine Zaa.go (Zad rfl rfl) ?_;refine Zal rfl rfl rfl ?_;refine Zaa.go (Zad rfl rfl) ?_;refine Zal rfl rfl rfl ?_;refine Zaa.go (Zas (hig _ _ (decide_eq_true (hCG _ (of_decide_eq_true hc)))) rfl rfl) ?_;refine Zal rfl rfl rfl ?_
            first | refine Zaa.go (Zbg rfl rfl) ?_ | refine Zaa.go (st_not rfl rfl) ?_
            refine Zaa.go (Zar rfl rfl rfl rfl) ?_;refine Zae ?_;refine ZaW rfl (rfl) ?_;refine Zap ?_;refine Zab ?_;refine Zaa.go (Zad rfl rfl) ?_;refine Zaa.go (ZaA rfl rfl (wrapS (k + 1) (by omega)) rfl) ?_;refine Zaa.go (Zac rfl rfl) ?_;refine Zae ?_;exact ⟨(k + 1, y, z ++ [p.it[k].id]), ⟨by show k + 1 ≤ _; omega, by show y = _; rw [selK_succ hk1, if_neg (by unfold fB inL; rw [hd]; simp), List.append_nil]; exact hy, by show z ++ [p.it[k].id] = _; rw [selK_succ hk1, if_pos (by unfold fE inL; rw [hc]; simp), ← hz]⟩, by show p.it.length - (k + 1) < p.it.length - k; omega, Zat hF [1, 2, 910, 911] rfl (rfl) ⟨rfl, rfl, rfl, rfl, rfl, rfl, rfl, rfl, trivial⟩⟩
          · refine Zaa.go (Zad rfl rfl) ?_;refine Zaa.go (Zas (hic _ _ hc) rfl rfl) ?_;refine Zaa.go (Zad rfl rfl) ?_;refine Zbe 89 rfl (rfl) ?_;refine Zal rfl rfl rfl ?_;refine Zaa.go (Zad rfl rfl) ?_;refine Zal rfl rfl rfl ?_;refine Zaa.go (Zad rfl rfl) ?_;refine Zal rfl rfl rfl ?_;refine Zaa.go (Zas (hid _ _ hd) rfl rfl) ?_;refine Zaa.go (Zar rfl rfl rfl rfl) ?_;refine Zae ?_;refine ZaN rfl (rfl) ?_;refine Zab ?_;refine Zaa.go (Zad rfl rfl) ?_;refine Zaa.go (Zad rfl rfl) ?_;refine Zam.go (ZaE 41 sl26 rfl rfl rfl rfl rfl rfl rfl rfl) ?_
            first | refine Zam.go (Zbb (y) ([p.it[k].id]) rfl rfl rfl rfl rfl rfl rfl rfl sl26 (by simp only [List.length_singleton]; omega) rfl rfl rfl rfl) ?_ | refine Zam.go (Zbk (y) ([p.it[k].id]) rfl rfl rfl rfl rfl rfl (fun _ => rfl) sl26 (by simp only [List.length_singleton]; omega) rfl rfl rfl rfl) ?_
            refine Zaa.go (Zac rfl rfl) ?_;refine Zae ?_;refine Zaf ?_;refine Zaf ?_;refine Zab ?_;refine Zaa.go (Zad rfl rfl) ?_;refine Zaa.go (Zad rfl rfl) ?_;refine Zaa.go (Zas (hic _ _ hc) rfl rfl) ?_;refine Zaa.go (Zad rfl rfl) ?_;refine Zbe 101 rfl (rfl) ?_;refine Zai rfl rfl rfl rfl ?_;refine Zai rfl rfl rfl rfl ?_;refine Zai rfl rfl rfl rfl ?_;refine Zaa.go (Zar rfl rfl rfl rfl) ?_;refine Zae ?_;refine ZaN rfl rfl ?_;refine Zab ?_;refine Zaa.go (Zad rfl rfl) ?_;refine Zaa.go (Zad rfl rfl) ?_;refine Zam.go (ZaE 42 sl26 rfl rfl rfl rfl rfl rfl rfl rfl) ?_
            first | refine Zam.go (Zbb (z) ([p.it[k].id]) rfl rfl rfl rfl rfl rfl rfl rfl sl26 (by simp only [List.length_singleton]; omega) rfl rfl rfl rfl) ?_ | refine Zam.go (Zbk (z) ([p.it[k].id]) rfl rfl rfl rfl rfl rfl (fun _ => rfl) sl26 (by simp only [List.length_singleton]; omega) rfl rfl rfl rfl) ?_
            refine Zaa.go (Zac rfl rfl) ?_;refine Zae ?_;refine Zaf ?_;refine Zab ?_;refine Zaa.go (Zad rfl rfl) ?_;refine Zaa.go (Zad rfl rfl) ?_;refine Zaa.go (Zas (hic _ _ hc) rfl rfl) ?_;refine Zaa.go (Zad rfl rfl) ?_;refine Zbe 113 rfl (rfl) ?_;refine Zal rfl rfl rfl ?_;refine Zaa.go (Zad rfl rfl) ?_;refine Zal rfl rfl rfl ?_;refine Zaa.go (Zad rfl rfl) ?_;refine Zal rfl rfl rfl ?_;refine Zaa.go (Zas (hig _ _ (decide_eq_true (hCG _ (of_decide_eq_true hc)))) rfl rfl) ?_;refine Zal rfl rfl rfl ?_
            first | refine Zaa.go (Zbg rfl rfl) ?_ | refine Zaa.go (st_not rfl rfl) ?_
            refine Zaa.go (Zar rfl rfl rfl rfl) ?_;refine Zae ?_;refine ZaW rfl (rfl) ?_;refine Zap ?_;refine Zab ?_;refine Zaa.go (Zad rfl rfl) ?_;refine Zaa.go (ZaA rfl rfl (wrapS (k + 1) (by omega)) rfl) ?_;refine Zaa.go (Zac rfl rfl) ?_;refine Zae ?_;exact ⟨(k + 1, y ++ [p.it[k].id], z ++ [p.it[k].id]), ⟨by show k + 1 ≤ _; omega, by show y ++ [p.it[k].id] = _; rw [selK_succ hk1, if_pos (by unfold fB inL; rw [hc, hd]; rfl), ← hy], by show z ++ [p.it[k].id] = _; rw [selK_succ hk1, if_pos (by unfold fE inL; rw [hc]; simp), ← hz]⟩, by show p.it.length - (k + 1) < p.it.length - k; omega, Zat hF [1, 2, 910, 911] rfl (rfl) ⟨rfl, rfl, rfl, rfl, rfl, rfl, rfl, rfl, trivial⟩⟩
      · refine ZaM ?_;refine Zaf ?_;have hya : y = bothL p C D := by rw [hy]; exact selK_all (by have h := h77; omega)
        have hza : z = eithL p C D := by rw [hz]; exact selK_all (by have h := h77; omega)
        refine Zbh (emb := intD) 14 910 y rfl rfl rfl rfl rfl rfl rfl ?_;refine Zbh (emb := intD) 15 911 z rfl rfl rfl rfl rfl rfl rfl ?_;rw [hya, hza];refine Zab ?_
        first | refine Zaa.go (ZaF rfl rfl rw35 rfl) ?_ | refine Zaa.go (Zau rfl rfl rw35 rfl rfl rfl) ?_ | refine Zaa.go (Za7 rfl rfl (rfl) rfl rw35 rfl) ?_
        refine Zaa.go (Zad rfl rfl) ?_;refine Zaa.go (Zas (f1) rfl rfl) ?_;refine Zaa.go (Zad rfl rfl) ?_
        first | refine Zaa.go (ZaG rfl rfl rfl) ?_ | refine Zaa.go (ZaB rfl rfl rfl) ?_
        first | refine Zaa.go (ZaG rfl rfl rfl) ?_ | refine Zaa.go (ZaB rfl rfl rfl) ?_
        refine Zaa.go (Zac rfl rfl) ?_;refine Zaa.go (Zac rfl rfl) ?_;refine Zae ?_;refine Zaf ?_;refine Zab ?_
        first | refine Zaa.go (ZaF rfl rfl rw35 rfl) ?_ | refine Zaa.go (Zau rfl rfl rw35 rfl rfl rfl) ?_ | refine Zaa.go (Za7 rfl rfl (rfl) rfl rw35 rfl) ?_
        refine Zaa.go (Zad rfl rfl) ?_;refine Zaa.go (Zas (f2) rfl rfl) ?_;refine Zaa.go (Zad rfl rfl) ?_
        first | refine Zaa.go (ZaG rfl rfl rfl) ?_ | refine Zaa.go (ZaB rfl rfl rfl) ?_
        first | refine Zaa.go (ZaG rfl rfl rfl) ?_ | refine Zaa.go (ZaB rfl rfl rfl) ?_
        refine Zaa.go (Zac rfl rfl) ?_;refine Zaa.go (Zac rfl rfl) ?_;refine Zae ?_;refine Zaf ?_;refine Zab ?_
        first | refine Zaa.go (ZaF rfl rfl rw35 rfl) ?_ | refine Zaa.go (Zau rfl rfl rw35 rfl rfl rfl) ?_ | refine Zaa.go (Za7 rfl rfl (rfl) rfl rw35 rfl) ?_
        refine Zaa.go (Zad rfl rfl) ?_;refine Zam.go (ZaX c5 rfl [903] ⟨rfl, trivial⟩ rfl rfl rfl rfl rfl rfl rfl rfl rfl) ?_;refine Zaa.go (Zad rfl rfl) ?_
        first | refine Zaa.go (ZaG rfl rfl rfl) ?_ | refine Zaa.go (ZaB rfl rfl rfl) ?_
        first | refine Zaa.go (ZaG rfl rfl rfl) ?_ | refine Zaa.go (ZaB rfl rfl rfl) ?_
        refine Zaa.go (Zac rfl rfl) ?_;refine Zaa.go (Zac rfl rfl) ?_;refine Zae ?_;refine Zaf ?_;refine Zbh (emb := intD) 22 903 C rfl rfl rfl rfl rfl rfl rfl ?_;refine Zab ?_
        first | refine Zaa.go (ZaF rfl rfl rw35 rfl) ?_ | refine Zaa.go (Zau rfl rfl rw35 rfl rfl rfl) ?_ | refine Zaa.go (Za7 rfl rfl (rfl) rfl rw35 rfl) ?_
        refine Zaa.go (Zad rfl rfl) ?_;refine Zam.go (ZaX c6 rfl [904] ⟨rfl, trivial⟩ rfl rfl rfl rfl rfl rfl rfl rfl rfl) ?_;refine Zaa.go (Zad rfl rfl) ?_
        first | refine Zaa.go (ZaG rfl rfl rfl) ?_ | refine Zaa.go (ZaB rfl rfl rfl) ?_
        first | refine Zaa.go (ZaG rfl rfl rfl) ?_ | refine Zaa.go (ZaB rfl rfl rfl) ?_
        refine Zaa.go (Zac rfl rfl) ?_;refine Zaa.go (Zac rfl rfl) ?_;refine Zae ?_;refine Zaf ?_;refine Zbh (emb := intD) 24 904 D rfl rfl rfl rfl rfl rfl rfl ?_;refine Zab ?_;refine Zaa.go (Zas (hk) rfl rfl) ?_;refine Zaa.go (Zad rfl rfl) ?_;refine Zbe 144 rfl (rfl) ?_;refine Zal rfl rfl rfl ?_;refine Zaa.go (Zad rfl rfl) ?_;refine Zaa.go (Zar rfl rfl rfl rfl) ?_;refine Zaa.go (Zad rfl rfl) ?_;refine Zbe 147 rfl (rfl) ?_;refine Zal rfl rfl rfl ?_;refine Zaa.go (Zad rfl rfl) ?_;refine Zal rfl rfl rfl ?_
        first | refine Zaa.go (Za0 rfl rfl rfl) ?_ | refine Zaa.go (ZaU rfl rfl rfl) ?_ | refine Zaa.go (st_eqlS rfl rfl rfl) ?_ | refine Zaa.go (st_eqlB Tryz.underlying29 rfl rfl rfl) ?_ | refine Zaa.go (st_eqlP Tryz.underlying29 rfl rfl rfl) ?_ | refine Zaa.go (st_eqlN Tryz.underlying29 rfl rfl) ?_ | refine Zaa.go (st_eqlF Tryz.underlying29 rfl rfl rfl) ?_ | refine Zaa.go (st_eqlFN Tryz.underlying29 rfl rfl) ?_
        refine Zaa.go (Zar rfl rfl rfl rfl) ?_;refine Zaa.go (Zad rfl rfl) ?_;refine Zbe 151 rfl (rfl) ?_;refine Zal rfl rfl rfl ?_;refine Zaa.go (Zad rfl rfl) ?_;refine Zaa.go (Zar rfl rfl rfl rfl) ?_;refine Zaa.go (Zad rfl rfl) ?_;refine Zbe 154 rfl (rfl) ?_;refine Zal rfl rfl rfl ?_;refine Zaa.go (Zad rfl rfl) ?_;refine Zal rfl rfl rfl ?_
        first | refine Zaa.go (Za0 rfl rfl rfl) ?_ | refine Zaa.go (ZaU rfl rfl rfl) ?_ | refine Zaa.go (st_eqlS rfl rfl rfl) ?_ | refine Zaa.go (st_eqlB Tryz.underlying29 rfl rfl rfl) ?_ | refine Zaa.go (st_eqlP Tryz.underlying29 rfl rfl rfl) ?_ | refine Zaa.go (st_eqlN Tryz.underlying29 rfl rfl) ?_ | refine Zaa.go (st_eqlF Tryz.underlying29 rfl rfl rfl) ?_ | refine Zaa.go (st_eqlFN Tryz.underlying29 rfl rfl) ?_
        refine Zaa.go (Zar rfl rfl rfl rfl) ?_;refine Zaa.go (Zad rfl rfl) ?_;refine Zbe 158 rfl (rfl) ?_;refine Zal rfl rfl rfl ?_;refine Zaa.go (Zad rfl rfl) ?_;refine Zal rfl rfl rfl ?_
        first | refine Zaa.go (Za0 rfl rfl rfl) ?_ | refine Zaa.go (ZaU rfl rfl rfl) ?_ | refine Zaa.go (st_eqlS rfl rfl rfl) ?_ | refine Zaa.go (st_eqlB Tryz.underlying29 rfl rfl rfl) ?_ | refine Zaa.go (st_eqlP Tryz.underlying29 rfl rfl rfl) ?_ | refine Zaa.go (st_eqlN Tryz.underlying29 rfl rfl) ?_ | refine Zaa.go (st_eqlF Tryz.underlying29 rfl rfl rfl) ?_ | refine Zaa.go (st_eqlFN Tryz.underlying29 rfl rfl) ?_
        refine Zaa.go (Zar rfl rfl rfl rfl) ?_;refine Zaa.go (Zad rfl rfl) ?_;refine Zbe 162 rfl (rfl) ?_;refine Zal rfl rfl rfl ?_;refine Zaa.go (Zad rfl rfl) ?_;refine Zal rfl rfl rfl ?_
        first | refine Zaa.go (Za0 rfl rfl rfl) ?_ | refine Zaa.go (ZaU rfl rfl rfl) ?_ | refine Zaa.go (st_eqlS rfl rfl rfl) ?_ | refine Zaa.go (st_eqlB Tryz.underlying29 rfl rfl rfl) ?_ | refine Zaa.go (st_eqlP Tryz.underlying29 rfl rfl rfl) ?_ | refine Zaa.go (st_eqlN Tryz.underlying29 rfl rfl) ?_ | refine Zaa.go (st_eqlF Tryz.underlying29 rfl rfl rfl) ?_ | refine Zaa.go (st_eqlFN Tryz.underlying29 rfl rfl) ?_
        refine Zaa.go (Zar rfl rfl rfl rfl) ?_;refine Zaa.go (Zad rfl rfl) ?_;refine Zbe 166 rfl (rfl) ?_;refine Zal rfl rfl rfl ?_;refine Zaa.go (Zad rfl rfl) ?_;refine Zal rfl rfl rfl ?_;refine Zaa.go (Zad rfl rfl) ?_;refine Zal rfl rfl rfl ?_;refine Zaa.go (Zas (q1) rfl rfl) ?_;refine Zaa.go (Zar rfl rfl rfl rfl) ?_;refine Zaa.go (Zad rfl rfl) ?_;refine Zbe 171 rfl (rfl) ?_;refine Zal rfl rfl rfl ?_;refine Zaa.go (Zad rfl rfl) ?_;refine Zal rfl rfl rfl ?_;refine Zaa.go (Zad rfl rfl) ?_;refine Zal rfl rfl rfl ?_;refine Zaa.go (Zas (q2) rfl rfl) ?_;refine Zaa.go (Zar rfl rfl rfl rfl) ?_;refine Zaa.go (Zac rfl rfl) ?_;refine Zae ?_;refine Zao ?_;exact ⟨_, [], [], Zan rfl, rfl, rfl, rfl, rfl⟩
    · have hpp : prbE p ≠ 0 := hp;refine ZaC Tryz.func8 rfl rfl Tryz.ntmps8 rfl rfl rfl fun F hF => ?_;refine Zaf ?_;refine Zab ?_;refine Zam.go (ZaQ 1 rfl rfl rfl rfl rfl rfl rfl) ?_;refine Zaa.go (Zac rfl rfl) ?_;refine Zae ?_;refine Zaf ?_;refine Zaf ?_;refine Zab ?_
      first | refine Zaa.go (ZaF rfl rfl rw25 rfl) ?_ | refine Zaa.go (Zau rfl rfl rw25 rfl rfl rfl) ?_ | refine Zaa.go (Za7 rfl rfl (rfl) rfl rw25 rfl) ?_
      refine Zaa.go (Zas (hs) rfl rfl) ?_
      first | refine Zaa.go (Zbg rfl rfl) ?_ | refine Zaa.go (st_not rfl rfl) ?_
      refine Zaa.go (Zad rfl rfl) ?_;refine o_setF 29 rfl (rfl) ?_;refine Zal rfl rfl rfl ?_
      first | refine Zaa.go (ZaF rfl rfl rw25 rfl) ?_ | refine Zaa.go (Zau rfl rfl rw25 rfl rfl rfl) ?_ | refine Zaa.go (Za7 rfl rfl (rfl) rfl rw25 rfl) ?_
      refine Zal rfl rfl rfl ?_;refine Zaa.go (Zas (ck) rfl rfl) ?_;refine Zal rfl rfl rfl ?_
      first | refine Zaa.go (Za6 rfl rfl rfl) ?_ | refine Zaa.go (Zbo rfl rfl rfl) ?_ | refine Zaa.go (st_neqS rfl rfl rfl) ?_ | refine Zaa.go (st_neqB Tryz.underlying3 rfl rfl rfl) ?_ | refine Zaa.go (st_neqP Tryz.underlying3 rfl rfl rfl) ?_ | refine Zaa.go (st_neqN Tryz.underlying3 rfl rfl) ?_ | refine Zaa.go (st_neqF Tryz.underlying3 rfl rfl rfl) ?_ | refine Zaa.go (st_neqFN Tryz.underlying3 rfl rfl) ?_
      refine Zaa.go (Zax rfl rfl rfl rfl) ?_;refine Zae ?_;refine ZaN rfl ((decide_eq_true hpp)) ?_;refine Zaf ?_;refine Zab ?_;refine Zaa.go (Zas (hk) rfl rfl) ?_;refine Zaa.go (Zac rfl rfl) ?_;refine Zae ?_;refine Zao ?_;exact ⟨_, [], [], Zan rfl, rfl, rfl, rfl, rfl⟩
  · rw [decide_eq_false hf] at hs;refine ZaC Tryz.func8 rfl rfl Tryz.ntmps8 rfl rfl rfl fun F hF => ?_;refine Zaf ?_;refine Zab ?_;refine Zam.go (ZaQ 1 rfl rfl rfl rfl rfl rfl rfl) ?_;refine Zaa.go (Zac rfl rfl) ?_;refine Zae ?_;refine Zaf ?_;refine Zaf ?_;refine Zab ?_
    first | refine Zaa.go (ZaF rfl rfl rw25 rfl) ?_ | refine Zaa.go (Zau rfl rfl rw25 rfl rfl rfl) ?_ | refine Zaa.go (Za7 rfl rfl (rfl) rfl rw25 rfl) ?_
    refine Zaa.go (Zas (hs) rfl rfl) ?_
    first | refine Zaa.go (Zbg rfl rfl) ?_ | refine Zaa.go (st_not rfl rfl) ?_
    refine Zaa.go (Zad rfl rfl) ?_;refine Zbe 29 rfl (rfl) ?_;refine Zai rfl rfl rfl rfl ?_;refine Zai rfl rfl rfl rfl ?_;refine Zai rfl rfl rfl rfl ?_;refine Zaa.go (Zar rfl rfl rfl rfl) ?_;refine Zae ?_;refine ZaN rfl rfl ?_;refine Zaf ?_;refine Zab ?_;refine Zaa.go (Zas (hk) rfl rfl) ?_;refine Zaa.go (Zac rfl rfl) ?_;refine Zae ?_;refine Zao ?_;exact ⟨_, [], [], Zan rfl, rfl, rfl, rfl, rfl⟩
end Go.Proofs.YtnamabifclidmaaGreat
/- Layer 28: how the laws' arguments are opened. -/
namespace Go.Proofs.YtnamabifclidmaaGreat
open Go.ChangeShapes Go.WideShapes Go.ChangeAt Go.RowKit

section
variable {H : Type} {enc : TypeId × Value → H} {w : World}
abbrev tt {α : Type} : α → Prop := fun _ => True
theorem oI : OpenT enc Tryz.prog w 3 1 intD tt := (openI64 Tryz.underlying3).asQ id (fun _ _ => rfl) (fun _ _ => trivial)
theorem oJ : OpenT enc Tryz.prog w 2 1 intD tt := (openI64 Tryz.underlying2).asQ id (fun _ _ => rfl) (fun _ _ => trivial)
theorem oS : OpenT enc Tryz.prog w 9 1 strD tt := (openStrL Tryz.underlying9).asQ id (fun _ _ => rfl) (fun _ _ => trivial)
theorem oIs : OpenT enc Tryz.prog w 26 1 (fun l : List Int => .sl none (l.map intD)) tt := (openSl Tryz.underlying26 (by kernel_rfl) (by omega) (b := 8) (by kernel_rfl) oI).asQ id (fun _ _ => rfl) (fun _ _ => trivial)
theorem oAcc : OpenT enc Tryz.prog w 50 3 accD tt :=
  (openSt Tryz.underlying50 (by kernel_rfl) (openFc rfl (by kernel_rfl) oS (openFc rfl (by kernel_rfl) oI (openFc rfl (by kernel_rfl) oS openF0)))).asQ (fun a => (⟨a.1, a.2.1, a.2.2.1⟩ : Acc)) (fun _ _ => rfl) (fun _ _ => trivial)
theorem oPost : OpenT enc Tryz.prog w 144 4 postD tt :=
  (openSt Tryz.underlying144 (by kernel_rfl) (openFc rfl (by kernel_rfl) oAcc (openFc rfl (by kernel_rfl) oJ openF0))).asQ (fun a => (⟨a.1, a.2.1⟩ : Post)) (fun _ _ => rfl) (fun _ _ => trivial)
theorem oPay : OpenT enc Tryz.prog w 147 3 payD tt :=
  (openSt Tryz.underlying147 (by kernel_rfl) (openFc rfl (by kernel_rfl) oS (openFc rfl (by kernel_rfl) oS (openFc rfl (by kernel_rfl) oJ openF0)))).asQ (fun a => (⟨a.1, a.2.1, a.2.2.1⟩ : Pay)) (fun _ _ => rfl) (fun _ _ => trivial)
theorem oRsc : OpenT enc Tryz.prog w 52 6 rscD tt :=
  (openSt Tryz.underlying52 (by kernel_rfl) (openFc rfl (by kernel_rfl) oI (openFc rfl (by kernel_rfl) oAcc (openFc rfl (by kernel_rfl) oS (openFc rfl (by kernel_rfl) oS openF0))))).asQ (fun a => (⟨a.1, a.2.1, a.2.2.1, a.2.2.2.1⟩ : Rsc)) (fun _ _ => rfl) (fun _ _ => trivial)
theorem oItm : OpenT enc Tryz.prog w 80 6 itmD tt :=
  (openSt Tryz.underlying80 (by kernel_rfl) (openFc rfl (by kernel_rfl) oI (openFc rfl (by kernel_rfl) oI (openFc rfl (by kernel_rfl) oI
    (openFc rfl (by kernel_rfl) (openSl Tryz.underlying77 (by kernel_rfl) (by omega) (b := 48) (by kernel_rfl) oPost)
    (openFc rfl (by kernel_rfl) (openSl Tryz.underlying78 (by kernel_rfl) (by omega) (b := 40) (by kernel_rfl) oPay) (openFc rfl (by kernel_rfl) oIs openF0))))))).asQ
    (fun a => (⟨a.1, a.2.1, a.2.2.1, a.2.2.2.1, a.2.2.2.2.1, a.2.2.2.2.2.1⟩ : Itm)) (fun _ _ => rfl) (fun _ _ => trivial)
theorem oRoo : OpenT enc Tryz.prog w 104 7 rooD tt :=
  (openSt Tryz.underlying104 (by kernel_rfl) (openFc rfl (by kernel_rfl) oRsc (openFc rfl (by kernel_rfl) oJ openF0))).asQ (fun a => (⟨a.1, a.2.1⟩ : Roo)) (fun _ _ => rfl) (fun _ _ => trivial)
theorem oPrb : OpenT enc Tryz.prog w 25 2 prbD tt :=
  (openSt Tryz.underlying25 (by kernel_rfl) (openFc rfl (by kernel_rfl) (openSl Tryz.underlying22 (by kernel_rfl) (by omega) (b := 88) (by kernel_rfl) oRoo) (openFc rfl (by kernel_rfl) (openSl Tryz.underlying23 (by kernel_rfl) (by omega) (b := 96) (by kernel_rfl) oItm) openF0))).asQ
    (fun a => (⟨a.1, a.2.1⟩ : Prb)) (fun _ _ => rfl) (fun _ _ => trivial)
end
end Go.Proofs.YtnamabifclidmaaGreat
/- Openers of small numbers. No program in sight. -/
namespace Go.Proofs.YtnamabifclidmaaGreat
open Go.ChangeShapes Go.WideShapes Go.ChangeAt Go.RowKit

section
variable {H : Type} {enc : TypeId × Value → H} {P : Program} {w : World}
theorem openU32 {t : TypeId} (ht : P.underlying t = some (.int .u32)) : OpenT enc P w t 1 (fun n : Nat => .raw (.int .u32 (n : Int))) (fun n => n < 4294967296) :=
  (openInt ht).asQ Int.toNat (fun a ⟨h1, _⟩ => by rw [Int.toNat_of_nonneg h1]) (fun a ⟨h1, h2⟩ => by have : a ≤ 4294967295 := h2; omega)
end
end Go.Proofs.YtnamabifclidmaaGreat
/- 'girolaw29.FeasibleLattice': for every input the law returns true, and each argument reads behind the call as it read before. No condition. -/
namespace Go.Proofs.YtnamabifclidmaaGreat
open Go.ChangeShapes Go.WideShapes Go.ChangeAt Go.RowKit

set_option maxRecDepth 100000 in
theorem feasibleLattice_lifted (os : Os) (started : os.Started) (H : Type) (enc : TypeId × Value → H) :
    ReturnsInHanded {} Tryz.checked os 8 .any (Rows.feasibleLatticeSpec.pre6 enc Tryz.prog Tryz.f8 Rows.feasibleLatticeRow.domain false) (Rows.feasibleLatticeSpec.post enc Tryz.prog Tryz.f8 false true false false) := by
  refine returnsInHanded_of_change_sized (C := Tryz.checked) Tryz.own started (by kernel_rfl) Tryz.func8
    (ChangeSpec.witness6 (enc := enc) (C := Tryz.checked) false ⟨#[], #[.agg #[.slice none 0 0, .slice none 0 0], .int .u32 0, .int .u32 0], []⟩ 8 (by kernel_rfl) (by kernel_rfl) (by kernel_rfl) (by kernel_rfl)) ?_
  intro W base args ds gs before hval0 hW _ hwt _;have hW' := hW;obtain ⟨p, q, hA0, hV, rfl, _, _⟩ := hW;have hlt : ∀ x ∈ p ++ q, x.block < W.heap.size := fun x hx => hW'.lt x hx;have hA : DataW.TrodAll enc Tryz.prog W 0 (fun _ => true) true Tryz.f8.params.toList args.toList ds p := hA0;rw [Tryz.params8] at hA;obtain ⟨v0, v1, v2, d0, d1, d2, p0, p1, p2, rfl, rfl, rfl, h0, h1, h2⟩ := trodAll_three hA;obtain ⟨rfl, rfl⟩ := trodVars_none hV;have hwz : ∀ n ∈ DataW.weightsEach Tryz.prog ([25, 65, 65] : List TypeId) ([d0, d1, d2]), n ≤ reachBytes := fun n hn => of_decide_eq_true (List.all_eq_true.1 hwt n (by rw [Tryz.params8]; exact hn));have hval : ∀ (j : Nat) t v, Tryz.f8.params[j]? = some t → (#[v0, v1, v2] : Array Value)[j]? = some v → Value.okWide Tryz.prog W .any base t v := hval0;rw [Tryz.params8] at hval;obtain ⟨n0, g0⟩ := h0;obtain ⟨cs0, rfl, _⟩ := okWide_struct Tryz.underlying25 (hval 0 25 v0 rfl rfl);obtain ⟨a0, q0, _, r0⟩ := (oPrb) _ _ _ g0 (fun x hx => hlt x (by simp [hx])) (fun n hn => hwz n (DataW.weights_mem_each (j := 0) (t := 25) rfl rfl n hn));obtain ⟨n1, g1⟩ := h1;have hv1 : v1.oneCell' = true := by obtain ⟨_, e⟩ := okWide_int Tryz.underlying65 (hval 1 65 v1 rfl rfl); rw [e]; rfl
  obtain ⟨a1, q1, _, r1⟩ := (openU32 Tryz.underlying65) _ _ _ g1 (fun x hx => hlt x (by simp [hx])) (fun n hn => hwz n (DataW.weights_mem_each (j := 1) (t := 65) rfl rfl n hn));obtain ⟨n2, g2⟩ := h2;have hv2 : v2.oneCell' = true := by obtain ⟨_, e⟩ := okWide_int Tryz.underlying65 (hval 2 65 v2 rfl rfl); rw [e]; rfl
  obtain ⟨a2, q2, _, r2⟩ := (openU32 Tryz.underlying65) _ _ _ g2 (fun x hx => hlt x (by simp [hx])) (fun n hn => hwz n (DataW.weights_mem_each (j := 2) (t := 65) rfl rfl n hn));refine (law_calls (lawF7_p a0 a1 a2 q1 q2) (vs := [.agg cs0, v1, v2]) rfl (fun i a v ha hv => ?_)).mono fun e W' ⟨he, hb⟩ => ?_
  · rcases i with _ | _ | _ | i
    · simp at ha hv; subst ha hv; exact RepC.argS rfl r0
    · simp at ha hv; subst ha hv; exact RepC.arg1 rfl rfl hv1 r1
    · simp at ha hv; subst ha hv; exact RepC.arg1 rfl rfl hv2 r2
    · simp at ha
  subst he;exact ⟨_, rfl, law_post (tb := 4) Tryz.laidOut (by kernel_rfl) rfl rfl Tryz.underlying4 hW' ⟨rfl, rfl, rfl⟩ hb⟩

theorem feasibleLattice_holds : Rows.FeasibleLatticeSaid :=
  OpenClaim.holds_of_wide 8 Tryz.f8 rfl rfl rfl rfl rfl rfl rfl ⟨rfl, rfl, rfl, rfl, rfl⟩ rfl rfl rfl rfl rfl (by kernel_rfl) Tryz.func8 (by kernel_rfl)
    (of_decide_eq_true (by kernel_rfl)) (by unfold Func.isWrapper; first | (rw [if_pos (by decide +kernel)]; kernel_rfl) | (rw [if_neg (by decide +kernel)]; exact ⟨rfl, rfl⟩))
    (fun os started H enc _ => feasibleLattice_lifted os started H enc)
#print axioms feasibleLattice_holds

end Go.Proofs.YtnamabifclidmaaGreat
