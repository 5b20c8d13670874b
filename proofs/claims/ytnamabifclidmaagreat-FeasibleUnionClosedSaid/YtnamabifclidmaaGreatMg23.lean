/- Proved here: feasibleUnionClosed_holds, the given statement Rows.FeasibleUnionClosedSaid: the law girolaw29.FeasibleUnionClosed returns true and does not panic, at every input that the statement speaks of; no condition beyond the statement. -/
/- Layer 29: the ids that bits select. -/
import Derived.Test.YtnamabifclidmaaGreatMg22
namespace Go.Proofs.YtnamabifclidmaaGreat
open Go.RowKit

def idS (p : Prb) : Sma := ⟨p.it.map Itm.id, [], [], []⟩
def someL (p : Prb) (x : Nat) : List Int := listS (idS p) x
set_option maxRecDepth 100000 in
theorem some_p (p : Prb) (x : Nat) (hx : x < 4294967296) (hn : p.it.length ≤ 31) : PCalls Tryz.prog 27 [.d (prbD p), .d (u32D x)] (.sl none ((someL p x).map intD)) := by
  refine ZaB Tryz.func27 rfl rfl Tryz.ntmps27 rfl rfl rfl fun F hF => ?_;refine Zaf ?_;refine Zab ?_;refine Zal.go (ZaQ 1 rfl rfl rfl rfl rfl rfl rfl) ?_;refine Zaa.go (Zac rfl rfl) ?_;refine Zae ?_;refine Zaf ?_;refine Zab ?_;refine Zaa.go (Zac rfl rfl) ?_;refine Zae ?_;refine Zaf ?_;refine Zaf ?_;refine a_adopt 5 900 sl26 rfl rfl rfl rfl ?_;refine Zab ?_;refine Zaa.go (Zac rfl rfl) ?_;refine Zae ?_;refine Zaq ?_;refine ZaO (α := Nat × List Int) (fun q => ⟨33, [(1, .d (u32D x)), (2, (.ptr 1 0 0)), (5, (.own 900 0 q.2.length)), (6, (.d (intD (q.1 : Int))))], [(900, [.rowD 3 1 (q.2.map intD)]), (1, [prbB2 25 p])]⟩) (fun q => q.1 ≤ p.it.length ∧ q.2 = (((List.range q.1).filter fun i => x.testBit i).map fun i => (idS p).ids.getD i 0) ∧ q.2.length ≤ q.1) (fun q => p.it.length - q.1) ((0, [])) (⟨Nat.zero_le _, rfl, Nat.le_refl _⟩) (Zas hF [900, 1] rfl rfl ⟨rfl, rfl, rfl, rfl, trivial⟩) ?_;rintro ⟨k, acc⟩ ⟨hk0, hA, hL⟩;dsimp only at hk0 hA hL ⊢;refine Zaf ?_;refine Zaf ?_;refine Zab ?_;refine Zaa.go (Zad rfl rfl) ?_
  first | refine Zaa.go (Zag rfl Zbh rfl rfl rfl) ?_ | refine Zaa.go (ZaT rfl Zbh rfl rfl rfl) ?_ | refine Zaa.go (Za8 rfl Zbh rfl rfl rfl) ?_ | refine Zaa.go (Zbz rfl Zbh rfl rfl rfl) ?_
  first | refine Zaa.go (ZaA rfl rfl on23 rfl) ?_ | refine Zaa.go (Zaj rfl rfl rfl on23 rfl) ?_ | refine Zaa.go (Za1 rfl rfl (rfl) rfl on23 rfl) ?_
  first | refine Zaa.go (Zav rfl Tryz.underlying23 rfl) ?_ | refine Zaa.go (st_lenD rfl rfl Tryz.underlying23 rfl) ?_ | refine Zaa.go (st_lenO rfl Tryz.underlying23 rfl) ?_ | refine Zaa.go (ZbM rfl Tryz.underlying23 rfl) ?_ | refine Zaa.go (st_lenS rfl Tryz.underlying23 rfl) ?_
  first | refine Zaa.go (ZaH rfl rfl rfl) ?_ | refine Zaa.go (Zbu rfl rfl rfl) ?_
  refine Zaa.go (Zad rfl rfl) ?_
  first | refine ZaF 12 rfl (fun h12 => ?_) (fun h12 => ?_) | refine o_splitB 12 rfl (fun h12 => ?_) (fun h12 => ?_)
  · refine Zam rfl rfl rfl ?_;refine Zaa.go (Zad rfl rfl) ?_;refine Zam rfl rfl rfl ?_
    first | refine Zaa.go (ZaH rfl rfl rfl) ?_ | refine Zaa.go (Zbu rfl rfl rfl) ?_
    refine Zaa.go (Zar rfl rfl rfl rfl) ?_;refine Zae ?_
    first | refine ZaC rfl (fun h15 => ?_) (fun h15 => ?_) | refine Za7 rfl (fun h15 => ?_) (fun h15 => ?_)
    · refine Zap ?_;refine Zaf ?_;refine Zaq ?_;refine Zaf ?_;refine Zab ?_;have hk1 : k < p.it.length := ZaL h12;have hgd : (idS p).ids.getD k 0 = p.it[k].id := by show (p.it.map Itm.id).getD k 0 = _; rw [Zbk 0 (by simpa using hk1)]; simp
      refine Zaa.go (Zad rfl rfl) ?_;refine Zaa.go (Zad rfl rfl) ?_;refine Zaa.go (st_shr rfl rfl (by omega) (shrU x k (by omega)) rfl) ?_;refine Zaa.go (st_bits rfl rfl rfl (and1U (shr_lt hx k)) rfl) ?_
      first | refine Zaa.go (Za3 rfl rfl rfl) ?_ | refine Zaa.go (ZaV rfl rfl rfl) ?_ | refine Zaa.go (st_eqlS rfl rfl rfl) ?_ | refine Zaa.go (st_eqlB Tryz.underlying65 rfl rfl rfl) ?_ | refine Zaa.go (st_eqlP Tryz.underlying65 rfl rfl rfl) ?_ | refine Zaa.go (st_eqlN Tryz.underlying65 rfl rfl) ?_ | refine Zaa.go (st_eqlF Tryz.underlying65 rfl rfl rfl) ?_ | refine Zaa.go (st_eqlFN Tryz.underlying65 rfl rfl) ?_
      refine Zae ?_
      first | refine ZaC rfl (fun h22 => ?_) (fun h22 => ?_) | refine Za7 rfl (fun h22 => ?_) (fun h22 => ?_)
      · refine Zab ?_;refine Zaa.go (Zad rfl rfl) ?_
        first | refine Zaa.go (Zag rfl Zbh rfl rfl rfl) ?_ | refine Zaa.go (ZaT rfl Zbh rfl rfl rfl) ?_ | refine Zaa.go (Za8 rfl Zbh rfl rfl rfl) ?_ | refine Zaa.go (Zbz rfl Zbh rfl rfl rfl) ?_
        first | refine Zaa.go (ZaA rfl rfl on23 rfl) ?_ | refine Zaa.go (Zaj rfl rfl rfl on23 rfl) ?_ | refine Zaa.go (Za1 rfl rfl (rfl) rfl on23 rfl) ?_
        refine Zaa.go (Zad rfl rfl) ?_
        first | refine Zaa.go (Zaw (k) rfl rfl (rfl) (getm hk1) Tryz.underlying23 rfl sz80 rfl) ?_ | refine Zaa.go (Zbq (k) rfl rfl (rfl) (getm hk1) rfl Tryz.underlying23 sz80 rfl) ?_
        first | refine Zaa.go (Zag rfl fi80_0 rfl rfl rfl) ?_ | refine Zaa.go (ZaT rfl fi80_0 rfl rfl rfl) ?_ | refine Zaa.go (Za8 rfl fi80_0 rfl rfl rfl) ?_ | refine Zaa.go (Zbz rfl fi80_0 rfl rfl rfl) ?_
        first | refine Zaa.go (ZaA rfl rfl on3 rfl) ?_ | refine Zaa.go (Zaj rfl rfl rfl on3 rfl) ?_ | refine Zaa.go (Za1 rfl rfl (rfl) rfl on3 rfl) ?_
        refine Zal.go (ZaE 30 sl26 rfl rfl rfl rfl rfl rfl rfl rfl) ?_
        first | refine Zal.go (Zba (acc) ([p.it[k].id]) rfl rfl rfl rfl rfl rfl rfl rfl sl26 (by simp only [List.length_singleton]; omega) rfl rfl rfl rfl) ?_ | refine Zal.go (Zbm (acc) ([p.it[k].id]) rfl rfl rfl rfl rfl rfl (fun _ => rfl) sl26 (by simp only [List.length_singleton]; omega) rfl rfl rfl rfl) ?_
        refine Zaa.go (Zac rfl rfl) ?_;refine Zae ?_;refine Zab ?_;refine Zaa.go (Zad rfl rfl) ?_;refine Zaa.go (Zay rfl rfl (wrapS (k + 1) (by omega)) rfl) ?_;refine Zaa.go (Zac rfl rfl) ?_;refine Zae ?_;exact ⟨(k + 1, acc ++ [p.it[k].id]), ⟨by show k + 1 ≤ _; omega, by show acc ++ [p.it[k].id] = _; rw [listS_snoc, if_pos ((bit_iff x k).1 h22), hgd, ← hA], by show (acc ++ [p.it[k].id]).length ≤ k + 1; rw [List.length_append]; simp; omega⟩, by show p.it.length - (k + 1) < p.it.length - k; omega, Zas hF [900, 1] rfl (rfl) ⟨rfl, rfl, rfl, rfl, trivial⟩⟩
      · refine Zap ?_;refine Zab ?_;refine Zaa.go (Zad rfl rfl) ?_;refine Zaa.go (Zay rfl rfl (wrapS (k + 1) (by omega)) rfl) ?_;refine Zaa.go (Zac rfl rfl) ?_;refine Zae ?_;exact ⟨(k + 1, acc), ⟨by show k + 1 ≤ _; omega, by show acc = _; rw [listS_snoc, if_neg (by rw [bit_no h22]; decide), List.append_nil, ← hA], by show acc.length ≤ k + 1; omega⟩, by show p.it.length - (k + 1) < p.it.length - k; omega, Zas hF [900, 1] rfl (rfl) ⟨rfl, rfl, rfl, rfl, trivial⟩⟩
    · refine ZaM ?_;refine Zaf ?_;have hfa : acc = someL p x := by rw [hA]; have e : k = p.it.length := by { have h := h12; omega }; rw [e]; unfold someL listS; rw [show (idS p).ids.length = p.it.length from List.length_map _]
      refine Zbs (emb := intD) 5 900 acc rfl rfl rfl rfl rfl rfl rfl ?_;refine Zab ?_;refine Zaa.go (Zad rfl rfl) ?_;refine Zaa.go (Zac rfl rfl) ?_;refine Zae ?_;refine Zao ?_;exact ⟨_, [], [], Zan rfl, rfl, rfl, by rw [hfa], rfl⟩
  · refine Zai rfl rfl rfl rfl ?_;refine Zai rfl rfl rfl rfl ?_;refine Zaa.go (Zax rfl rfl rfl rfl) ?_;refine Zae ?_;refine Za0 rfl rfl ?_;refine ZaM ?_;refine Zaf ?_;have hfa : acc = someL p x := by rw [hA]; have e : k = p.it.length := by { have h := h12; omega }; rw [e]; unfold someL listS; rw [show (idS p).ids.length = p.it.length from List.length_map _]
    refine Zbs (emb := intD) 5 900 acc rfl rfl rfl rfl rfl rfl rfl ?_;refine Zab ?_;refine Zaa.go (Zad rfl rfl) ?_;refine Zaa.go (Zac rfl rfl) ?_;refine Zae ?_;refine Zao ?_;exact ⟨_, [], [], Zan rfl, rfl, rfl, by rw [hfa], rfl⟩
end Go.Proofs.YtnamabifclidmaaGreat
/- Layer 29: the union of two feasible sets; the plain law. -/
namespace Go.Proofs.YtnamabifclidmaaGreat
open Go.RowKit

theorem pref_mem {q : List Int} {i y : Int} (hi : i ∈ q) (hy : y ∈ q) (h : q.idxOf y < q.idxOf i) : y ∈ prefQ i q := by
  unfold prefQ;rw [prefN_in hi];have hl := List.idxOf_lt_length_of_mem hy;exact List.mem_take_iff_getElem.2 ⟨q.idxOf y, by omega, List.getElem_idxOf hl⟩
theorem adm_pref {p : Prb} {C : List Int} (hp : prbE p = 0) (h0 : blks p (inL C) = []) {i : Int} (hid : i ∈ p.it.map Itm.id) (hi : i ∈ C) {x : Lin} (hx : x ∈ linL p) {y : Int} (hy : y ∈ prefQ i x.q) : y ∈ C := by
  have hb : (⟨i, y, x.r⟩ : Bkd) ∈ req p i := by
    unfold req;exact List.mem_append.2 (.inr (List.mem_flatMap.2 ⟨x, hx, List.mem_map.2 ⟨y, hy, rfl⟩⟩))
  have := blks_none hp h0 hid (decide_eq_true hi) hb
  simpa [inL] using this
theorem adm_cmp {p : Prb} {C D : List Int} (hp : prbE p = 0) (hC : ∀ x ∈ C, x ∈ p.it.map Itm.id) (hD : ∀ x ∈ D, x ∈ p.it.map Itm.id) (h0 : blks p (inL C) = []) (h1 : blks p (inL D) = []) {x : Lin} (hx : x ∈ linL p) : (∀ y ∈ x.q, y ∈ D → y ∈ C) ∨ ∀ y ∈ x.q, y ∈ C → y ∈ D := by
  refine Classical.byCases Or.inl fun hn => .inr fun c hc hcC => ?_;obtain ⟨d, hd⟩ := Classical.not_forall.1 hn;have hdq : d ∈ x.q := Classical.byContradiction fun h => hd fun h2 => absurd h2 h;have hdD : d ∈ D := Classical.byContradiction fun h => hd fun _ h2 => absurd h2 h;have hdC : d ∉ C := fun h => hd fun _ _ => h;rcases Nat.lt_trichotomy (x.q.idxOf c) (x.q.idxOf d) with h | h | h
  · exact adm_pref hp h1 (hD d hdD) hdD hx (pref_mem hdq hc h)
  · have e1 := List.getElem_idxOf (List.idxOf_lt_length_of_mem hc);have e2 := List.getElem_idxOf (List.idxOf_lt_length_of_mem hdq);have : c = d := by rw [← e1, ← e2]; congr 1
    exact absurd (this ▸ hcC) hdC
  · exact absurd (adm_pref hp h0 (hC c hcC) hcC hx (pref_mem hc hdq h)) hdC
theorem uni_adm {p : Prb} {C D : List Int} (hp : prbE p = 0) (hC : ∀ x ∈ C, x ∈ p.it.map Itm.id) (hD : ∀ x ∈ D, x ∈ p.it.map Itm.id) (h0 : blks p (inL C) = []) (h1 : blks p (inL D) = []) {U : List Int} (hU : ∀ x, x ∈ U ↔ x ∈ C ∨ x ∈ D) : blks p (inL U) = [] := by
  cases hb : blks p (inL U) with
  | nil => rfl
  | cons b r =>
    exfalso
    have hm : b ∈ blks p (inL U) := by rw [hb]; exact List.mem_cons_self
    obtain ⟨i, _, h2, h3, h4⟩ := blks_mem hm;have hi : i ∈ U := by simpa [inL] using h2
    have hn : b.m ∉ U := by simpa [inL] using h4
    rcases (hU i).1 hi with h | h
    · have := blks_none hp h0 (hC i h) (decide_eq_true h) h3;exact hn ((hU _).2 (.inl (by simpa [inL] using this)))
    · have := blks_none hp h1 (hD i h) (decide_eq_true h) h3;exact hn ((hU _).2 (.inr (by simpa [inL] using this)))
theorem viol_iff {p : Prb} {M : List (Int × Bool)} : viol p M = [] ↔ ∀ x ∈ linL p, 0 ≤ x.n + vioS p x.r M := by
  unfold viol;rw [List.flatMap_eq_nil_iff]
  constructor
  · intro h x hx;have := h x hx;unfold vio1 at this
    split at this
    · cases this
    · omega
  · intro h x hx;have := h x hx;unfold vio1;rw [if_neg (by omega)]
theorem vioS_app (p : Prb) (r : Rsc) (a b : List Int) : vioS p r (setM (a ++ b)) = vioS p r (setM a) + vioS p r (setM b) := by
  unfold vioS setM; rw [List.map_append, List.map_append, List.sum_append]
theorem vioS_pos {p : Prb} {r : Rsc} : ∀ {l : List Int}, (∀ y ∈ l, 0 ≤ dltE (itmOf p y) r) → 0 ≤ vioS p r (setM l)
  | [], _ => by simp [vioS, setM]
  | x :: l, h => by
    have h1 := vioS_pos (l := l) fun y hy => h y (List.mem_cons_of_mem _ hy);have h2 := h x List.mem_cons_self;show 0 ≤ vioS p r ((x, true) :: setM l);rw [vioS_cons', if_pos rfl]; omega
theorem dlt_pos {p : Prb} (hp : prbE p = 0) {y : Int} (hy : y ∈ p.it.map Itm.id) {x : Lin} (hx : x ∈ linL p) (hq : y ∉ x.q) : 0 ≤ dltE (itmOf p y) x.r := by
  unfold linL at hx;obtain ⟨o, _, rfl⟩ := List.mem_map.1 hx;obtain ⟨hk, _, he, hid⟩ := itmOf_at hy;refine Classical.byContradiction fun hn => hq ?_;show y ∈ qIds (ordP p) o.r;unfold qIds
  have hm : itmOf p y ∈ ordP p := by
    unfold ordP; rw [if_pos hp];exact (sortO_perm p.it).mem_iff.2 (by rw [he]; exact List.getElem_mem hk)
  exact List.mem_map.2 ⟨itmOf p y, List.mem_filter.2 ⟨hm, decide_eq_true (by have : ¬ 0 ≤ dltE (itmOf p y) o.r := hn; omega)⟩, hid⟩
def uniL (C D : List Int) : List Int := C ++ D.filter fun y => !inL C y
theorem uniL_mem {C D : List Int} (x : Int) : x ∈ uniL C D ↔ x ∈ C ∨ x ∈ D := by
  unfold uniL;rw [List.mem_append, List.mem_filter]
  by_cases h : x ∈ C
  · simp [h]
  · simp [h, inL]
theorem uniL_nodup {C D : List Int} (hc : C.Nodup) (hd : D.Nodup) : (uniL C D).Nodup := by
  unfold uniL;rw [List.nodup_append];refine ⟨hc, List.Nodup.sublist List.filter_sublist hd, fun x hx y hy e => ?_⟩;subst e;have := (List.mem_filter.1 hy).2
  simp [inL, hx] at this
theorem uni_half {p : Prb} {C D : List Int} (hp : prbE p = 0) (hD : ∀ x ∈ D, x ∈ p.it.map Itm.id) {x : Lin} (hx : x ∈ linL p) (h : ∀ y ∈ x.q, y ∈ D → y ∈ C) : vioS p x.r (setM C) ≤ vioS p x.r (setM (uniL C D)) := by
  unfold uniL;rw [vioS_app]
  have := vioS_pos (p := p) (r := x.r) (l := D.filter fun y => !inL C y) fun y hy => by
    obtain ⟨h1, h2⟩ := List.mem_filter.1 hy;have h3 : y ∉ C := by simpa [inL] using h2
    exact dlt_pos hp (hD y h1) hx fun hq => h3 (h y hq h1)
  omega
theorem uni_fea {p : Prb} {C D : List Int} (hp : prbE p = 0) (hC : ∀ x ∈ C, x ∈ p.it.map Itm.id) (hD : ∀ x ∈ D, x ∈ p.it.map Itm.id) (nC : C.Nodup) (nD : D.Nodup) (h0 : blks p (inL C) = []) (h1 : blks p (inL D) = []) (v0 : viol p (setM C) = []) (v1 : viol p (setM D) = []) : blks p (inL (uniL C D)) = [] ∧ viol p (setM (uniL C D)) = [] := by
  refine ⟨uni_adm hp hC hD h0 h1 uniL_mem, viol_iff.2 fun x hx => ?_⟩;have k0 := viol_iff.1 v0 x hx;have k1 := viol_iff.1 v1 x hx;rcases adm_cmp hp hC hD h0 h1 hx with h | h
  · have := uni_half hp hD hx h; omega
  · have h2 := uni_half hp hC hx h
    have hpm : (uniL D C).Perm (uniL C D) := (List.perm_ext_iff_of_nodup (uniL_nodup nD nC) (uniL_nodup nC nD)).2 fun y => by
      rw [uniL_mem, uniL_mem]; exact Or.comm
    have h3 : (setM (uniL D C)).Perm (setM (uniL C D)) := hpm.map _;have h4 : vioS p x.r (setM (uniL D C)) = vioS p x.r (setM (uniL C D)) := vioS_perm h3;omega
end Go.Proofs.YtnamabifclidmaaGreat
/- Layer 29: the law of unions of feasible sets. -/
namespace Go.Proofs.YtnamabifclidmaaGreat
open Go.RowKit

theorem choE_ok {p : Prb} (hp : prbE p = 0) {l : List Int} (hn : l.Nodup) (hS : ∀ x ∈ l, x ∈ p.it.map Itm.id) : choE p l = 0 := by
  unfold choE;rw [if_neg (by omega)];unfold setE;refine ZbE.2 fun k hk => ?_;have hk' := List.mem_range.1 hk;unfold chErr;rw [Zbk 0 hk', if_neg (fun h => h (hS _ (List.getElem_mem hk'))), if_neg];intro hm;obtain ⟨j, hj, e⟩ := List.mem_take_iff_getElem.1 hm;rw [List.Nodup, List.pairwise_iff_getElem] at hn;exact hn j k (by omega) hk' (by omega) e
theorem some_in {p : Prb} {x : Nat} : ∀ y ∈ someL p x, y ∈ p.it.map Itm.id := fun y hy => by
  unfold someL listS at hy;obtain ⟨i, hi, rfl⟩ := List.mem_map.1 hy;have hi' : i < (p.it.map Itm.id).length := List.mem_range.1 (List.mem_filter.1 hi).1;show (p.it.map Itm.id).getD i 0 ∈ _;rw [Zbk 0 hi']; exact List.getElem_mem hi'
theorem some_nodup {p : Prb} (hp : prbE p = 0) (x : Nat) : (someL p x).Nodup := by
  have hn := items_ids (prb_ok hp).2.1;unfold someL listS;rw [List.Nodup, List.pairwise_map];have hr : ((List.range (idS p).ids.length).filter fun i => x.testBit i).Nodup := List.Nodup.sublist List.filter_sublist List.nodup_range;refine List.Pairwise.imp_of_mem (fun {a b} ha hb hab e => ?_) hr;have ha' : a < (p.it.map Itm.id).length := List.mem_range.1 (List.mem_filter.1 ha).1;have hb' : b < (p.it.map Itm.id).length := List.mem_range.1 (List.mem_filter.1 hb).1;have e' : (p.it.map Itm.id).getD a 0 = (p.it.map Itm.id).getD b 0 := e;rw [Zbk 0 ha', Zbk 0 hb'] at e';rw [List.Nodup, List.pairwise_iff_getElem] at hn;rcases Nat.lt_trichotomy a b with h | h | h
  · exact hn a b ha' hb' h e'
  · exact hab h
  · exact hn b a hb' ha' h e'.symm
theorem some_len {p : Prb} {x : Nat} : (someL p x).length ≤ p.it.length := by
  unfold someL listS;rw [List.length_map];refine Nat.le_trans (List.length_filter_le _ _) ?_;rw [List.length_range]; exact Nat.le_of_eq (List.length_map _)
theorem cloS_in {p : Prb} {S : List Int} : ∀ y ∈ cloS p S, y ∈ p.it.map Itm.id := fun y hy => by
  unfold cloS at hy;exact (List.mem_filter.1 ((ZbH _).mem_iff.1 hy)).1
theorem cloS_nodup {p : Prb} (hp : prbE p = 0) (S : List Int) : (cloS p S).Nodup := by
  unfold cloS;exact (ZbH _).nodup_iff.2 (List.Nodup.sublist List.filter_sublist (items_ids (prb_ok hp).2.1))
theorem intS_in {p : Prb} {S : List Int} : ∀ y ∈ intS p S, y ∈ S := fun y hy => by
  unfold intS at hy;exact (List.mem_filter.1 ((ZbH _).mem_iff.1 hy)).1
theorem intS_nodup {p : Prb} {S : List Int} (hn : S.Nodup) : (intS p S).Nodup := by
  unfold intS;exact (ZbH _).nodup_iff.2 (List.Nodup.sublist List.filter_sublist hn)
set_option maxRecDepth 100000 in
theorem lawF6_p (p : Prb) (a b : Nat) (ha : a < 4294967296) (hb : b < 4294967296) : PCalls Tryz.prog 9 [.d (prbD p), .d (u32D a), .d (u32D b)] (.raw (.bool true)) := by
  have hk := known29_p;have hs := small_p p
  by_cases hf : Sml p
  · rw [decide_eq_true hf] at hs;have g1 := hf.1;have g2 := hf.2.1;have g3 := hf.2.2;have ck := refpcheck_p p (by omega) (by omega) (fun i hi => by have := g3 i hi; omega)
    by_cases hp : prbE p = 0
    · rw [hp] at ck;have c1 := own_p p hf;have s1 := some_p p a ha (by omega);have s2 := some_p p b hb (by omega);have n1 := some_nodup hp a;have n2 := some_nodup hp b;have e1 := some_len (p := p) (x := a);have e2 := some_len (p := p) (x := b);have c2 := closF_c p _ (sml_B hf) (by omega) (by omega) (by omega) (choE_ok hp n1 some_in) n1 some_in;have c3 := (intF_c p _ (sml_B hf) (by omega) (by omega) (by omega) (choE_ok hp n2 some_in) n2 some_in).by [(900, 901)] rfl;have nC := cloS_nodup hp (someL p a);have nD := intS_nodup (p := p) n2;have iC := cloS_in (p := p) (S := someL p a);have iD : ∀ y ∈ intS p (someL p b), y ∈ p.it.map Itm.id := fun y hy => some_in y (intS_in y hy);have l1 := cloS_len (p := p) (l := someL p a);have l2 := intS_len (p := p) (l := someL p b)
      obtain ⟨C, hC⟩ : ∃ C, cloS p (someL p a) = C := ⟨_, rfl⟩
      obtain ⟨D, hD⟩ : ∃ D, intS p (someL p b) = D := ⟨_, rfl⟩
      rw [hC] at c2 nC iC l1;rw [hD] at c3 nD iD l2;have f1 := feasF_p p C (sml_B hf) (by omega) (by omega) (by omega);have f2 := feasF_p p D (sml_B hf) (by omega) (by omega) (by omega);rw [choE_ok hp nC iC] at f1;rw [choE_ok hp nD iD] at f2
      have f3 : (blks p (inL C) = [] ∧ viol p (setM C) = []) → (blks p (inL D) = [] ∧ viol p (setM D) = []) → PCalls Tryz.prog 17 [.d (prbD p), .d (.sl none ((uniL C D).map intD))] (.tup [boolD true, intD 0]) := fun q1 q2 => by
        have hu := uni_fea hp iC iD nC nD q1.1 q2.1 q1.2 q2.2;have iU : ∀ x ∈ uniL C D, x ∈ p.it.map Itm.id := fun x hx => ((uniL_mem x).1 hx).elim (iC x) (iD x)
        have lU : (uniL C D).length ≤ 1000 := by
          unfold uniL;have := List.length_filter_le (fun y => !inL C y) D;rw [List.length_append]; omega
        have h := feasF_p p (uniL C D) (sml_B hf) lU (by omega) (by omega);have h5 := choE_ok hp (uniL_nodup nC nD) iU;rw [decide_eq_true ⟨h5, hu⟩, h5] at h;exact h
      refine ZaB Tryz.func9 rfl rfl Tryz.ntmps9 rfl rfl rfl fun F hF => ?_;refine Zaf ?_;refine Zab ?_;refine Zal.go (ZaQ 1 rfl rfl rfl rfl rfl rfl rfl) ?_;refine Zaa.go (Zac rfl rfl) ?_;refine Zae ?_;refine Zaf ?_;refine Zaf ?_;refine Zab ?_
      first | refine Zaa.go (ZaG rfl rfl rw25 rfl) ?_ | refine Zaa.go (Zat rfl rfl rw25 rfl rfl rfl) ?_ | refine Zaa.go (Za9 rfl rfl (rfl) rfl rw25 rfl) ?_
      refine Zaa.go (Zau (hs) rfl rfl) ?_
      first | refine Zaa.go (Zbe rfl rfl) ?_ | refine Zaa.go (Zbx rfl rfl) ?_
      refine Zaa.go (Zad rfl rfl) ?_;refine o_setF 23 rfl (rfl) ?_;refine Zam rfl rfl rfl ?_
      first | refine Zaa.go (ZaG rfl rfl rw25 rfl) ?_ | refine Zaa.go (Zat rfl rfl rw25 rfl rfl rfl) ?_ | refine Zaa.go (Za9 rfl rfl (rfl) rfl rw25 rfl) ?_
      refine Zam rfl rfl rfl ?_;refine Zaa.go (Zau (ck) rfl rfl) ?_;refine Zam rfl rfl rfl ?_
      first | refine Zaa.go (Za6 rfl rfl rfl) ?_ | refine Zaa.go (Zbi rfl rfl rfl) ?_ | refine Zaa.go (st_neqS rfl rfl rfl) ?_ | refine Zaa.go (st_neqB Tryz.underlying3 rfl rfl rfl) ?_ | refine Zaa.go (st_neqP Tryz.underlying3 rfl rfl rfl) ?_ | refine Zaa.go (st_neqN Tryz.underlying3 rfl rfl) ?_ | refine Zaa.go (st_neqF Tryz.underlying3 rfl rfl rfl) ?_ | refine Zaa.go (st_neqFN Tryz.underlying3 rfl rfl) ?_
      refine Zaa.go (Zax rfl rfl rfl rfl) ?_;refine Zae ?_;refine Za0 rfl (rfl) ?_;refine Zap ?_;refine Zaf ?_;refine Zab ?_
      first | refine Zaa.go (ZaG rfl rfl rw25 rfl) ?_ | refine Zaa.go (Zat rfl rfl rw25 rfl rfl rfl) ?_ | refine Zaa.go (Za9 rfl rfl (rfl) rfl rw25 rfl) ?_
      refine Zaa.go (Zau (c1) rfl rfl) ?_;refine Zal.go (ZaS 2 zl35 rfl rfl rfl rfl) ?_;refine Zal.go (ZaJ rfl rfl rfl rfl rfl rfl rfl sz35) ?_;refine Zae ?_;refine Zaf ?_;refine ZaZ [[], [], [], [1, 2], [0, 1, 2, 3], [0, 1, 2, 3, 4], [0, 1, 2, 3, 4, 5], [0, 1, 2, 3, 4, 5], [0, 1, 2, 3, 4, 5, 6], [0, 1, 2, 3, 4, 5, 6, 7, 8]] mixed rfl ?_;refine dws ?_
      first | refine Zak [7] [2] rfl rfl (fun _ => Zah (ZaG rfl rfl rw35 rfl)) ?_ | refine Zak [7] [2] rfl rfl (fun _ => Zah (Zat rfl rfl rw35 rfl rfl rfl)) ?_ | refine Zak [7] [2] rfl rfl (fun _ => Zah (Za9 rfl rfl (rfl) rfl rw35 rfl)) ?_
      first | refine Zak [3] [1] rfl rfl (fun _ => Zah (ZaG rfl rfl rw25 rfl)) ?_ | refine Zak [3] [1] rfl rfl (fun _ => Zah (Zat rfl rfl rw25 rfl rfl rfl)) ?_ | refine Zak [3] [1] rfl rfl (fun _ => Zah (Za9 rfl rfl (rfl) rfl rw25 rfl)) ?_
      first | refine Zak [1] [] rfl rfl (fun _ => Zah (Zad rfl rfl)) ?_ | refine Zaz [1] rfl rfl (fun _ => Zah (Zad rfl rfl)) ?_
      first | refine Zak [33, 34] [] rfl rfl (fun _ => Zah (Zau (s1) rfl rfl)) ?_ | refine Zaz [33, 34] rfl rfl (fun _ => Zah (Zau (s1) rfl rfl)) ?_
      refine dwc 4 rfl rfl rfl ?_;refine dw1 5 rfl rfl ?_;refine Zal.go (ZaX c2 rfl [900] ⟨rfl, trivial⟩ rfl rfl rfl rfl rfl rfl rfl rfl rfl) ?_;refine Zae ⟨rfl, ?_⟩;refine dw1 6 rfl rfl ?_;refine Zaa.go (Zad rfl rfl) ?_;refine Zae ⟨rfl, ?_⟩;refine dws ?_
      first | refine Zak [31] [] rfl rfl (fun _ => Zah (ZaK rfl rfl rfl)) ?_ | refine Zaz [31] rfl rfl (fun _ => Zah (ZaK rfl rfl rfl)) ?_ | refine Zak [31] [] rfl rfl (fun _ => Zah (ZaD rfl rfl rfl)) ?_ | refine Zaz [31] rfl rfl (fun _ => Zah (ZaD rfl rfl rfl)) ?_
      first | refine Zak [31] [] rfl rfl (fun _ => Zah (ZaK rfl rfl rfl)) ?_ | refine Zaz [31] rfl rfl (fun _ => Zah (ZaK rfl rfl rfl)) ?_ | refine Zak [31] [] rfl rfl (fun _ => Zah (ZaD rfl rfl rfl)) ?_ | refine Zaz [31] rfl rfl (fun _ => Zah (ZaD rfl rfl rfl)) ?_
      first | refine Zak [37] [] rfl rfl (fun _ => Zah (Zac rfl rfl)) ?_ | refine Zaz [37] rfl rfl (fun _ => Zah (Zac rfl rfl)) ?_
      refine dwc 9 rfl rfl rfl ?_;refine dw1 10 rfl rfl ?_;refine Zaa.go (Zac rfl rfl) ?_;refine Zae ⟨rfl, ?_⟩;refine dwe ?_;refine Zaf ?_;refine Zbs (emb := intD) 8 900 C rfl rfl rfl rfl rfl rfl rfl ?_;refine ZaZ [[], [], [], [1, 2], [0, 1, 2, 3], [0, 1, 2, 3, 4], [0, 1, 2, 3, 4, 5], [0, 1, 2, 3, 4, 5], [0, 1, 2, 3, 4, 5, 6], [0, 1, 2, 3, 4, 5, 6, 7, 8]] mixed rfl ?_;refine dws ?_
      first | refine Zak [7] [2] rfl rfl (fun _ => Zah (ZaG rfl rfl rw35 rfl)) ?_ | refine Zak [7] [2] rfl rfl (fun _ => Zah (Zat rfl rfl rw35 rfl rfl rfl)) ?_ | refine Zak [7] [2] rfl rfl (fun _ => Zah (Za9 rfl rfl (rfl) rfl rw35 rfl)) ?_
      first | refine Zak [3] [1] rfl rfl (fun _ => Zah (ZaG rfl rfl rw25 rfl)) ?_ | refine Zak [3] [1] rfl rfl (fun _ => Zah (Zat rfl rfl rw25 rfl rfl rfl)) ?_ | refine Zak [3] [1] rfl rfl (fun _ => Zah (Za9 rfl rfl (rfl) rfl rw25 rfl)) ?_
      first | refine Zak [2] [] rfl rfl (fun _ => Zah (Zad rfl rfl)) ?_ | refine Zaz [2] rfl rfl (fun _ => Zah (Zad rfl rfl)) ?_
      first | refine Zak [41, 42] [] rfl rfl (fun _ => Zah (Zau (s2) rfl rfl)) ?_ | refine Zaz [41, 42] rfl rfl (fun _ => Zah (Zau (s2) rfl rfl)) ?_
      refine dwc 4 rfl rfl rfl ?_;refine dw1 5 rfl rfl ?_;refine Zal.go (ZaX c3 rfl [901] ⟨rfl, trivial⟩ rfl rfl rfl rfl rfl rfl rfl rfl rfl) ?_;refine Zae ⟨rfl, ?_⟩;refine dw1 6 rfl rfl ?_;refine Zaa.go (Zad rfl rfl) ?_;refine Zae ⟨rfl, ?_⟩;refine dws ?_
      first | refine Zak [39] [] rfl rfl (fun _ => Zah (ZaK rfl rfl rfl)) ?_ | refine Zaz [39] rfl rfl (fun _ => Zah (ZaK rfl rfl rfl)) ?_ | refine Zak [39] [] rfl rfl (fun _ => Zah (ZaD rfl rfl rfl)) ?_ | refine Zaz [39] rfl rfl (fun _ => Zah (ZaD rfl rfl rfl)) ?_
      first | refine Zak [39] [] rfl rfl (fun _ => Zah (ZaK rfl rfl rfl)) ?_ | refine Zaz [39] rfl rfl (fun _ => Zah (ZaK rfl rfl rfl)) ?_ | refine Zak [39] [] rfl rfl (fun _ => Zah (ZaD rfl rfl rfl)) ?_ | refine Zaz [39] rfl rfl (fun _ => Zah (ZaD rfl rfl rfl)) ?_
      first | refine Zak [45] [] rfl rfl (fun _ => Zah (Zac rfl rfl)) ?_ | refine Zaz [45] rfl rfl (fun _ => Zah (Zac rfl rfl)) ?_
      refine dwc 9 rfl rfl rfl ?_;refine dw1 10 rfl rfl ?_;refine Zaa.go (Zac rfl rfl) ?_;refine Zae ⟨rfl, ?_⟩;refine dwe ?_;refine Zaf ?_;refine Zbs (emb := intD) 10 901 D rfl rfl rfl rfl rfl rfl rfl ?_;refine Zab ?_
      first | refine Zaa.go (ZaG rfl rfl rw35 rfl) ?_ | refine Zaa.go (Zat rfl rfl rw35 rfl rfl rfl) ?_ | refine Zaa.go (Za9 rfl rfl (rfl) rfl rw35 rfl) ?_
      refine Zaa.go (Zad rfl rfl) ?_;refine Zaa.go (Zau (f1) rfl rfl) ?_;refine Zaa.go (Zad rfl rfl) ?_
      first | refine Zaa.go (ZaK rfl rfl rfl) ?_ | refine Zaa.go (ZaD rfl rfl rfl) ?_
      first | refine Zaa.go (ZaK rfl rfl rfl) ?_ | refine Zaa.go (ZaD rfl rfl rfl) ?_
      refine Zaa.go (Zac rfl rfl) ?_;refine Zaa.go (Zac rfl rfl) ?_;refine Zae ?_;refine Zaf ?_;refine Zab ?_
      first | refine Zaa.go (ZaG rfl rfl rw35 rfl) ?_ | refine Zaa.go (Zat rfl rfl rw35 rfl rfl rfl) ?_ | refine Zaa.go (Za9 rfl rfl (rfl) rfl rw35 rfl) ?_
      refine Zaa.go (Zad rfl rfl) ?_;refine Zaa.go (Zau (f2) rfl rfl) ?_;refine Zaa.go (Zad rfl rfl) ?_
      first | refine Zaa.go (ZaK rfl rfl rfl) ?_ | refine Zaa.go (ZaD rfl rfl rfl) ?_
      first | refine Zaa.go (ZaK rfl rfl rfl) ?_ | refine Zaa.go (ZaD rfl rfl rfl) ?_
      refine Zaa.go (Zac rfl rfl) ?_;refine Zaa.go (Zac rfl rfl) ?_;refine Zae ?_;refine Zaf ?_;refine Zaf ?_;refine Zab ?_;refine Zaa.go (Zad rfl rfl) ?_
      first | refine Zaa.go (Za6 rfl rfl rfl) ?_ | refine Zaa.go (Zbi rfl rfl rfl) ?_ | refine Zaa.go (st_neqS rfl rfl rfl) ?_ | refine Zaa.go (st_neqB Tryz.underlying29 rfl rfl rfl) ?_ | refine Zaa.go (st_neqP Tryz.underlying29 rfl rfl rfl) ?_ | refine Zaa.go (st_neqN Tryz.underlying29 rfl rfl) ?_ | refine Zaa.go (st_neqF Tryz.underlying29 rfl rfl rfl) ?_ | refine Zaa.go (st_neqFN Tryz.underlying29 rfl rfl) ?_
      refine Zaa.go (Zad rfl rfl) ?_;refine o_setF 61 rfl (rfl) ?_;refine Zam rfl rfl rfl ?_;refine Zaa.go (Zad rfl rfl) ?_;refine Zam rfl rfl rfl ?_
      first | refine Zaa.go (Za6 rfl rfl rfl) ?_ | refine Zaa.go (Zbi rfl rfl rfl) ?_ | refine Zaa.go (st_neqS rfl rfl rfl) ?_ | refine Zaa.go (st_neqB Tryz.underlying29 rfl rfl rfl) ?_ | refine Zaa.go (st_neqP Tryz.underlying29 rfl rfl rfl) ?_ | refine Zaa.go (st_neqN Tryz.underlying29 rfl rfl) ?_ | refine Zaa.go (st_neqF Tryz.underlying29 rfl rfl rfl) ?_ | refine Zaa.go (st_neqFN Tryz.underlying29 rfl rfl) ?_
      refine Zaa.go (Zax rfl rfl rfl rfl) ?_;refine Zaa.go (Zad rfl rfl) ?_;refine o_setF 65 rfl (rfl) ?_;refine Zam rfl rfl rfl ?_;refine Zaa.go (Zad rfl rfl) ?_;refine Zam rfl rfl rfl ?_
      first | refine Zaa.go (Za6 rfl rfl rfl) ?_ | refine Zaa.go (Zbi rfl rfl rfl) ?_ | refine Zaa.go (st_neqS rfl rfl rfl) ?_ | refine Zaa.go (st_neqB Tryz.underlying29 rfl rfl rfl) ?_ | refine Zaa.go (st_neqP Tryz.underlying29 rfl rfl rfl) ?_ | refine Zaa.go (st_neqN Tryz.underlying29 rfl rfl) ?_ | refine Zaa.go (st_neqF Tryz.underlying29 rfl rfl rfl) ?_ | refine Zaa.go (st_neqFN Tryz.underlying29 rfl rfl) ?_
      refine Zaa.go (Zax rfl rfl rfl rfl) ?_;refine Zaa.go (Zad rfl rfl) ?_;refine o_setF 69 rfl (rfl) ?_;refine Zam rfl rfl rfl ?_;refine Zaa.go (Zad rfl rfl) ?_;refine Zam rfl rfl rfl ?_
      first | refine Zaa.go (Za6 rfl rfl rfl) ?_ | refine Zaa.go (Zbi rfl rfl rfl) ?_ | refine Zaa.go (st_neqS rfl rfl rfl) ?_ | refine Zaa.go (st_neqB Tryz.underlying29 rfl rfl rfl) ?_ | refine Zaa.go (st_neqP Tryz.underlying29 rfl rfl rfl) ?_ | refine Zaa.go (st_neqN Tryz.underlying29 rfl rfl) ?_ | refine Zaa.go (st_neqF Tryz.underlying29 rfl rfl rfl) ?_ | refine Zaa.go (st_neqFN Tryz.underlying29 rfl rfl) ?_
      refine Zaa.go (Zax rfl rfl rfl rfl) ?_;refine Zae ?_;refine Za0 rfl (rfl) ?_;refine Zap ?_;refine Zaf ?_;refine Zaf ?_;refine Zab ?_;refine Zaa.go (Zad rfl rfl) ?_
      first | refine Zaa.go (Zbe rfl rfl) ?_ | refine Zaa.go (Zbx rfl rfl) ?_
      refine Zaa.go (Zad rfl rfl) ?_
      first | refine ZaF 75 rfl (fun h75 => ?_) (fun h75 => ?_) | refine o_splitB 75 rfl (fun h75 => ?_) (fun h75 => ?_)
      · refine Zai rfl rfl rfl rfl ?_;refine Zai rfl rfl rfl rfl ?_;refine Zaa.go (Zar rfl rfl rfl rfl) ?_;refine Zae ?_;refine ZaP rfl rfl ?_;refine Zaf ?_;refine Zab ?_;refine Zaa.go (Zau (hk) rfl rfl) ?_;refine Zaa.go (Zac rfl rfl) ?_;refine Zae ?_;refine Zao ?_;exact ⟨_, [], [], Zan rfl, rfl, rfl, rfl, rfl⟩
      · refine Zam rfl rfl rfl ?_;refine Zaa.go (Zad rfl rfl) ?_;refine Zam rfl rfl rfl ?_
        first | refine Zaa.go (Zbe rfl rfl) ?_ | refine Zaa.go (Zbx rfl rfl) ?_
        refine Zaa.go (Zax rfl rfl rfl rfl) ?_;refine Zae ?_
        first | refine ZaC rfl (fun h78 => ?_) (fun h78 => ?_) | refine Za7 rfl (fun h78 => ?_) (fun h78 => ?_)
        · refine Zaf ?_;refine Zab ?_;refine Zaa.go (Zau (hk) rfl rfl) ?_;refine Zaa.go (Zac rfl rfl) ?_;refine Zae ?_;refine Zao ?_;exact ⟨_, [], [], Zan rfl, rfl, rfl, rfl, rfl⟩
        · refine Zap ?_;refine Zaf ?_;refine Zab ?_;refine Zal.go (ZaE 40 sl26 rfl rfl rfl rfl rfl rfl rfl rfl) ?_;refine Zaa.go (Zad rfl rfl) ?_
          first | refine Zal.go (Zba (([] : List Int)) (C) rfl rfl rfl rfl rfl rfl rfl rfl sl26 (by simp only [List.length_nil]; omega) rfl rfl rfl rfl) ?_ | refine Zal.go (Zbm (([] : List Int)) (C) rfl rfl rfl rfl rfl rfl (fun _ => rfl) sl26 (by simp only [List.length_nil]; omega) rfl rfl rfl rfl) ?_
          refine Zaa.go (Zac rfl rfl) ?_;refine Zae ?_;refine Zaf ?_;refine Zaf ?_;refine Zab ?_;refine Zaa.go (Zac rfl rfl) ?_;refine Zae ?_;refine Zaq ?_;refine ZaO (α := Nat × List Int) (fun q => ⟨117, [(3, (.ptr 1 0 0)), (7, (.ptr 2 0 0)), (8, (.d (.sl none (C.map intD)))), (10, (.d (.sl none (D.map intD)))), (16, (.own 40 0 q.2.length)), (17, (.d (intD (q.1 : Int))))], [(1, [prbB2 25 p]), (2, [prbB2 35 p]), (40, [.rowD 3 1 (q.2.map intD)])]⟩) (fun q => q.1 ≤ D.length ∧ q.2 = C ++ (D.take q.1).filter (fun y => !inL C y) ∧ q.2.length ≤ C.length + q.1) (fun q => D.length - q.1) ((0, [] ++ C)) (⟨Nat.zero_le _, by simp, by simp⟩) (Zas hF [1, 2, 40] rfl rfl ⟨rfl, rfl, rfl, rfl, rfl, rfl, trivial⟩) ?_;rintro ⟨k, acc⟩ ⟨hk0, hA, hL⟩;dsimp only at hk0 hA hL ⊢;refine Zaf ?_;refine Zaf ?_;refine Zab ?_;refine Zaa.go (Zad rfl rfl) ?_;refine Zaa.go (Zad rfl rfl) ?_
          first | refine Zaa.go (Zav rfl Tryz.underlying26 rfl) ?_ | refine Zaa.go (st_lenD rfl rfl Tryz.underlying26 rfl) ?_ | refine Zaa.go (st_lenO rfl Tryz.underlying26 rfl) ?_ | refine Zaa.go (ZbM rfl Tryz.underlying26 rfl) ?_ | refine Zaa.go (st_lenS rfl Tryz.underlying26 rfl) ?_
          first | refine Zaa.go (ZaH rfl rfl rfl) ?_ | refine Zaa.go (Zbu rfl rfl rfl) ?_
          refine Zae ?_
          first | refine ZaC rfl (fun h86 => ?_) (fun h86 => ?_) | refine Za7 rfl (fun h86 => ?_) (fun h86 => ?_)
          · have hk1 : k < D.length := ZaL h86;refine Zap ?_;refine Zaf ?_;refine Zaq ?_;refine Zaf ?_;refine Zab ?_;refine Zaa.go (Zad rfl rfl) ?_;refine Zaa.go (Zad rfl rfl) ?_;refine Zaa.go (Zad rfl rfl) ?_
            first | refine Zaa.go (Zaw (k) rfl rfl (rfl) (getm hk1) Tryz.underlying26 rfl sz3 rfl) ?_ | refine Zaa.go (Zbq (k) rfl rfl (rfl) (getm hk1) rfl Tryz.underlying26 sz3 rfl) ?_
            first | refine Zaa.go (ZaA rfl rfl on3 rfl) ?_ | refine Zaa.go (Zaj rfl rfl rfl on3 rfl) ?_ | refine Zaa.go (Za1 rfl rfl (rfl) rfl on3 rfl) ?_
            refine Zaa.go (Zau (in29_p C D[k] (by omega)) rfl rfl) ?_
            first | refine Zaa.go (Zbe rfl rfl) ?_ | refine Zaa.go (Zbx rfl rfl) ?_
            refine Zae ?_
            first | refine ZaC rfl (fun h95 => ?_) (fun h95 => ?_) | refine Za7 rfl (fun h95 => ?_) (fun h95 => ?_)
            · refine Zab ?_;refine Zaa.go (Zad rfl rfl) ?_;refine Zaa.go (Zad rfl rfl) ?_;refine Zaa.go (Zad rfl rfl) ?_
              first | refine Zaa.go (Zaw (k) rfl rfl (rfl) (getm hk1) Tryz.underlying26 rfl sz3 rfl) ?_ | refine Zaa.go (Zbq (k) rfl rfl (rfl) (getm hk1) rfl Tryz.underlying26 sz3 rfl) ?_
              first | refine Zaa.go (ZaA rfl rfl on3 rfl) ?_ | refine Zaa.go (Zaj rfl rfl rfl on3 rfl) ?_ | refine Zaa.go (Za1 rfl rfl (rfl) rfl on3 rfl) ?_
              refine Zal.go (ZaE 41 sl26 rfl rfl rfl rfl rfl rfl rfl rfl) ?_
              first | refine Zal.go (Zba (acc) ([D[k]]) rfl rfl rfl rfl rfl rfl rfl rfl sl26 (by simp only [List.length_singleton]; omega) rfl rfl rfl rfl) ?_ | refine Zal.go (Zbm (acc) ([D[k]]) rfl rfl rfl rfl rfl rfl (fun _ => rfl) sl26 (by simp only [List.length_singleton]; omega) rfl rfl rfl rfl) ?_
              refine Zaa.go (Zac rfl rfl) ?_;refine Zae ?_;refine Zab ?_;refine Zaa.go (Zad rfl rfl) ?_;refine Zaa.go (Zay rfl rfl (wrapS (k + 1) (by omega)) rfl) ?_;refine Zaa.go (Zac rfl rfl) ?_;refine Zae ?_;exact ⟨(k + 1, acc ++ [D[k]]), ⟨by show k + 1 ≤ _; omega, by show acc ++ [D[k]] = C ++ (D.take (k + 1)).filter _; rw [flt_snoc hk1, if_pos (by simpa [inL] using h95), ← List.append_assoc, ← hA], by show (acc ++ [D[k]]).length ≤ C.length + (k + 1); rw [List.length_append]; simp; omega⟩, by show D.length - (k + 1) < D.length - k; omega, Zas hF [1, 2, 40] rfl (rfl) ⟨rfl, rfl, rfl, rfl, rfl, rfl, trivial⟩⟩
            · refine Zap ?_;refine Zab ?_;refine Zaa.go (Zad rfl rfl) ?_;refine Zaa.go (Zay rfl rfl (wrapS (k + 1) (by omega)) rfl) ?_;refine Zaa.go (Zac rfl rfl) ?_;refine Zae ?_;exact ⟨(k + 1, acc), ⟨by show k + 1 ≤ _; omega, by show acc = C ++ (D.take (k + 1)).filter _; rw [flt_snoc hk1, if_neg (by simpa [inL] using h95), List.append_nil, ← hA], by show acc.length ≤ C.length + (k + 1); omega⟩, by show D.length - (k + 1) < D.length - k; omega, Zas hF [1, 2, 40] rfl (rfl) ⟨rfl, rfl, rfl, rfl, rfl, rfl, trivial⟩⟩
          · refine ZaM ?_;refine Zaf ?_;have hfa : acc = uniL C D := by rw [hA, List.take_of_length_le (by have h := h86; omega)]; rfl
            refine Zbs (emb := intD) 16 40 acc rfl rfl rfl rfl rfl rfl rfl ?_;rw [hfa];refine Zab ?_
            first | refine Zaa.go (ZaG rfl rfl rw35 rfl) ?_ | refine Zaa.go (Zat rfl rfl rw35 rfl rfl rfl) ?_ | refine Zaa.go (Za9 rfl rfl (rfl) rfl rw35 rfl) ?_
            refine Zaa.go (Zad rfl rfl) ?_;refine Zaa.go (Zau (f3 (by simp_all) (by simp_all)) rfl rfl) ?_;refine Zaa.go (Zad rfl rfl) ?_
            first | refine Zaa.go (ZaK rfl rfl rfl) ?_ | refine Zaa.go (ZaD rfl rfl rfl) ?_
            first | refine Zaa.go (ZaK rfl rfl rfl) ?_ | refine Zaa.go (ZaD rfl rfl rfl) ?_
            refine Zaa.go (Zac rfl rfl) ?_;refine Zaa.go (Zac rfl rfl) ?_;refine Zae ?_;refine Zaf ?_;refine Zab ?_;refine Zaa.go (Zau (hk) rfl rfl) ?_;refine Zaa.go (Zad rfl rfl) ?_;refine o_setT 110 rfl (rfl) ?_;refine Zam rfl rfl rfl ?_;refine Zaa.go (Zad rfl rfl) ?_;refine Zaa.go (Zar rfl rfl rfl rfl) ?_;refine Zaa.go (Zad rfl rfl) ?_;refine o_setT 113 rfl (rfl) ?_;refine Zam rfl rfl rfl ?_;refine Zaa.go (Zad rfl rfl) ?_;refine Zam rfl rfl rfl ?_
            first | refine Zaa.go (Za3 rfl rfl rfl) ?_ | refine Zaa.go (ZaV rfl rfl rfl) ?_ | refine Zaa.go (st_eqlS rfl rfl rfl) ?_ | refine Zaa.go (st_eqlB Tryz.underlying29 rfl rfl rfl) ?_ | refine Zaa.go (st_eqlP Tryz.underlying29 rfl rfl rfl) ?_ | refine Zaa.go (st_eqlN Tryz.underlying29 rfl rfl) ?_ | refine Zaa.go (st_eqlF Tryz.underlying29 rfl rfl rfl) ?_ | refine Zaa.go (st_eqlFN Tryz.underlying29 rfl rfl) ?_
            refine Zaa.go (Zar rfl rfl rfl rfl) ?_;refine Zaa.go (Zac rfl rfl) ?_;refine Zae ?_;refine Zao ?_;exact ⟨_, [], [], Zan rfl, rfl, rfl, rfl, rfl⟩
    · have hpp : prbE p ≠ 0 := hp;refine ZaB Tryz.func9 rfl rfl Tryz.ntmps9 rfl rfl rfl fun F hF => ?_;refine Zaf ?_;refine Zab ?_;refine Zal.go (ZaQ 1 rfl rfl rfl rfl rfl rfl rfl) ?_;refine Zaa.go (Zac rfl rfl) ?_;refine Zae ?_;refine Zaf ?_;refine Zaf ?_;refine Zab ?_
      first | refine Zaa.go (ZaG rfl rfl rw25 rfl) ?_ | refine Zaa.go (Zat rfl rfl rw25 rfl rfl rfl) ?_ | refine Zaa.go (Za9 rfl rfl (rfl) rfl rw25 rfl) ?_
      refine Zaa.go (Zau (hs) rfl rfl) ?_
      first | refine Zaa.go (Zbe rfl rfl) ?_ | refine Zaa.go (Zbx rfl rfl) ?_
      refine Zaa.go (Zad rfl rfl) ?_;refine o_setF 23 rfl (rfl) ?_;refine Zam rfl rfl rfl ?_
      first | refine Zaa.go (ZaG rfl rfl rw25 rfl) ?_ | refine Zaa.go (Zat rfl rfl rw25 rfl rfl rfl) ?_ | refine Zaa.go (Za9 rfl rfl (rfl) rfl rw25 rfl) ?_
      refine Zam rfl rfl rfl ?_;refine Zaa.go (Zau (ck) rfl rfl) ?_;refine Zam rfl rfl rfl ?_
      first | refine Zaa.go (Za6 rfl rfl rfl) ?_ | refine Zaa.go (Zbi rfl rfl rfl) ?_ | refine Zaa.go (st_neqS rfl rfl rfl) ?_ | refine Zaa.go (st_neqB Tryz.underlying3 rfl rfl rfl) ?_ | refine Zaa.go (st_neqP Tryz.underlying3 rfl rfl rfl) ?_ | refine Zaa.go (st_neqN Tryz.underlying3 rfl rfl) ?_ | refine Zaa.go (st_neqF Tryz.underlying3 rfl rfl rfl) ?_ | refine Zaa.go (st_neqFN Tryz.underlying3 rfl rfl) ?_
      refine Zaa.go (Zax rfl rfl rfl rfl) ?_;refine Zae ?_;refine ZaP rfl ((decide_eq_true hpp)) ?_;refine Zaf ?_;refine Zab ?_;refine Zaa.go (Zau (hk) rfl rfl) ?_;refine Zaa.go (Zac rfl rfl) ?_;refine Zae ?_;refine Zao ?_;exact ⟨_, [], [], Zan rfl, rfl, rfl, rfl, rfl⟩
  · rw [decide_eq_false hf] at hs;refine ZaB Tryz.func9 rfl rfl Tryz.ntmps9 rfl rfl rfl fun F hF => ?_;refine Zaf ?_;refine Zab ?_;refine Zal.go (ZaQ 1 rfl rfl rfl rfl rfl rfl rfl) ?_;refine Zaa.go (Zac rfl rfl) ?_;refine Zae ?_;refine Zaf ?_;refine Zaf ?_;refine Zab ?_
    first | refine Zaa.go (ZaG rfl rfl rw25 rfl) ?_ | refine Zaa.go (Zat rfl rfl rw25 rfl rfl rfl) ?_ | refine Zaa.go (Za9 rfl rfl (rfl) rfl rw25 rfl) ?_
    refine Zaa.go (Zau (hs) rfl rfl) ?_
    first | refine Zaa.go (Zbe rfl rfl) ?_ | refine Zaa.go (Zbx rfl rfl) ?_
    refine Zaa.go (Zad rfl rfl) ?_;refine o_setT 23 rfl (rfl) ?_;refine Zai rfl rfl rfl rfl ?_;refine Zai rfl rfl rfl rfl ?_;refine Zai rfl rfl rfl rfl ?_;refine Zaa.go (Zar rfl rfl rfl rfl) ?_;refine Zae ?_;refine ZaP rfl rfl ?_;refine Zaf ?_;refine Zab ?_;refine Zaa.go (Zau (hk) rfl rfl) ?_;refine Zaa.go (Zac rfl rfl) ?_;refine Zae ?_;refine Zao ?_;exact ⟨_, [], [], Zan rfl, rfl, rfl, rfl, rfl⟩
end Go.Proofs.YtnamabifclidmaaGreat
/- Layer 28: how the laws' arguments are opened. -/
namespace Go.Proofs.YtnamabifclidmaaGreat
open Go.ChangeShapes Go.WideShapes Go.ChangeAt Go.RowKit

section
variable {H : Type} {enc : TypeId × Value → H} {w : World}
abbrev tt {α : Type} : α → Prop := fun _ => True
theorem oI : OpenT enc Tryz.prog w 3 1 intD tt := (openI64 Tryz.underlying3).asQ id (fun _ _ => rfl) (fun _ _ => trivial)
theorem oJ : OpenT enc Tryz.prog w 2 1 intD tt := (openI64 Tryz.underlying2).asQ id (fun _ _ => rfl) (fun _ _ => trivial)
theorem oS : OpenT enc Tryz.prog w 9 1 strD tt := (openStrL Tryz.underlying9).asQ id (fun _ _ => rfl) (fun _ _ => trivial)
theorem oIs : OpenT enc Tryz.prog w 26 1 (fun l : List Int => .sl none (l.map intD)) tt := (openSl Tryz.underlying26 (by kernel_rfl) (by omega) (b := 8) (by kernel_rfl) oI).asQ id (fun _ _ => rfl) (fun _ _ => trivial)
theorem oAcc : OpenT enc Tryz.prog w 50 3 accD tt :=
  (openSt Tryz.underlying50 (by kernel_rfl) (openFc rfl (by kernel_rfl) oS (openFc rfl (by kernel_rfl) oI (openFc rfl (by kernel_rfl) oS openF0)))).asQ (fun a => (⟨a.1, a.2.1, a.2.2.1⟩ : Acc)) (fun _ _ => rfl) (fun _ _ => trivial)
theorem oPost : OpenT enc Tryz.prog w 144 4 postD tt :=
  (openSt Tryz.underlying144 (by kernel_rfl) (openFc rfl (by kernel_rfl) oAcc (openFc rfl (by kernel_rfl) oJ openF0))).asQ (fun a => (⟨a.1, a.2.1⟩ : Post)) (fun _ _ => rfl) (fun _ _ => trivial)
theorem oPay : OpenT enc Tryz.prog w 147 3 payD tt :=
  (openSt Tryz.underlying147 (by kernel_rfl) (openFc rfl (by kernel_rfl) oS (openFc rfl (by kernel_rfl) oS (openFc rfl (by kernel_rfl) oJ openF0)))).asQ (fun a => (⟨a.1, a.2.1, a.2.2.1⟩ : Pay)) (fun _ _ => rfl) (fun _ _ => trivial)
theorem oRsc : OpenT enc Tryz.prog w 52 6 rscD tt :=
  (openSt Tryz.underlying52 (by kernel_rfl) (openFc rfl (by kernel_rfl) oI (openFc rfl (by kernel_rfl) oAcc (openFc rfl (by kernel_rfl) oS (openFc rfl (by kernel_rfl) oS openF0))))).asQ (fun a => (⟨a.1, a.2.1, a.2.2.1, a.2.2.2.1⟩ : Rsc)) (fun _ _ => rfl) (fun _ _ => trivial)
theorem oItm : OpenT enc Tryz.prog w 80 6 itmD tt :=
  (openSt Tryz.underlying80 (by kernel_rfl) (openFc rfl (by kernel_rfl) oI (openFc rfl (by kernel_rfl) oI (openFc rfl (by kernel_rfl) oI
    (openFc rfl (by kernel_rfl) (openSl Tryz.underlying77 (by kernel_rfl) (by omega) (b := 48) (by kernel_rfl) oPost)
    (openFc rfl (by kernel_rfl) (openSl Tryz.underlying78 (by kernel_rfl) (by omega) (b := 40) (by kernel_rfl) oPay) (openFc rfl (by kernel_rfl) oIs openF0))))))).asQ
    (fun a => (⟨a.1, a.2.1, a.2.2.1, a.2.2.2.1, a.2.2.2.2.1, a.2.2.2.2.2.1⟩ : Itm)) (fun _ _ => rfl) (fun _ _ => trivial)
theorem oRoo : OpenT enc Tryz.prog w 104 7 rooD tt :=
  (openSt Tryz.underlying104 (by kernel_rfl) (openFc rfl (by kernel_rfl) oRsc (openFc rfl (by kernel_rfl) oJ openF0))).asQ (fun a => (⟨a.1, a.2.1⟩ : Roo)) (fun _ _ => rfl) (fun _ _ => trivial)
theorem oPrb : OpenT enc Tryz.prog w 25 2 prbD tt :=
  (openSt Tryz.underlying25 (by kernel_rfl) (openFc rfl (by kernel_rfl) (openSl Tryz.underlying22 (by kernel_rfl) (by omega) (b := 88) (by kernel_rfl) oRoo) (openFc rfl (by kernel_rfl) (openSl Tryz.underlying23 (by kernel_rfl) (by omega) (b := 96) (by kernel_rfl) oItm) openF0))).asQ
    (fun a => (⟨a.1, a.2.1⟩ : Prb)) (fun _ _ => rfl) (fun _ _ => trivial)
end
end Go.Proofs.YtnamabifclidmaaGreat
/- Openers of small numbers. No program in sight. -/
namespace Go.Proofs.YtnamabifclidmaaGreat
open Go.ChangeShapes Go.WideShapes Go.ChangeAt Go.RowKit

section
variable {H : Type} {enc : TypeId × Value → H} {P : Program} {w : World}
theorem openU32 {t : TypeId} (ht : P.underlying t = some (.int .u32)) : OpenT enc P w t 1 (fun n : Nat => .raw (.int .u32 (n : Int))) (fun n => n < 4294967296) :=
  (openInt ht).asQ Int.toNat (fun a ⟨h1, _⟩ => by rw [Int.toNat_of_nonneg h1]) (fun a ⟨h1, h2⟩ => by have : a ≤ 4294967295 := h2; omega)
end
end Go.Proofs.YtnamabifclidmaaGreat
/- 'girolaw29.FeasibleUnionClosed': for every input the law returns true, and each argument reads behind the call as it read before. No condition. -/
namespace Go.Proofs.YtnamabifclidmaaGreat
open Go.ChangeShapes Go.WideShapes Go.ChangeAt Go.RowKit

set_option maxRecDepth 100000 in
theorem feasibleUnionClosed_lifted (os : Os) (started : os.Started) (H : Type) (enc : TypeId × Value → H) :
    ReturnsInHanded {} Tryz.checked os 9 .any (Rows.feasibleUnionClosedSpec.pre6 enc Tryz.prog Tryz.f9 Rows.feasibleUnionClosedRow.domain false) (Rows.feasibleUnionClosedSpec.post enc Tryz.prog Tryz.f9 false true false false) := by
  refine returnsInHanded_of_change_sized (C := Tryz.checked) Tryz.own started (by kernel_rfl) Tryz.func9
    (ChangeSpec.witness6 (enc := enc) (C := Tryz.checked) false ⟨#[], #[.agg #[.slice none 0 0, .slice none 0 0], .int .u32 0, .int .u32 0], []⟩ 8 (by kernel_rfl) (by kernel_rfl) (by kernel_rfl) (by kernel_rfl)) ?_
  intro W base args ds gs before hval0 hW _ hwt _;have hW' := hW;obtain ⟨p, q, hA0, hV, rfl, _, _⟩ := hW;have hlt : ∀ x ∈ p ++ q, x.block < W.heap.size := fun x hx => hW'.lt x hx;have hA : DataW.TrodAll enc Tryz.prog W 0 (fun _ => true) true Tryz.f9.params.toList args.toList ds p := hA0;rw [Tryz.params9] at hA;obtain ⟨v0, v1, v2, d0, d1, d2, p0, p1, p2, rfl, rfl, rfl, h0, h1, h2⟩ := trodAll_three hA;obtain ⟨rfl, rfl⟩ := trodVars_none hV;have hwz : ∀ n ∈ DataW.weightsEach Tryz.prog ([25, 65, 65] : List TypeId) ([d0, d1, d2]), n ≤ reachBytes := fun n hn => of_decide_eq_true (List.all_eq_true.1 hwt n (by rw [Tryz.params9]; exact hn));have hval : ∀ (j : Nat) t v, Tryz.f9.params[j]? = some t → (#[v0, v1, v2] : Array Value)[j]? = some v → Value.okWide Tryz.prog W .any base t v := hval0;rw [Tryz.params9] at hval;obtain ⟨n0, g0⟩ := h0;obtain ⟨cs0, rfl, _⟩ := okWide_struct Tryz.underlying25 (hval 0 25 v0 rfl rfl);obtain ⟨a0, q0, _, r0⟩ := (oPrb) _ _ _ g0 (fun x hx => hlt x (by simp [hx])) (fun n hn => hwz n (DataW.weights_mem_each (j := 0) (t := 25) rfl rfl n hn));obtain ⟨n1, g1⟩ := h1;have hv1 : v1.oneCell' = true := by obtain ⟨_, e⟩ := okWide_int Tryz.underlying65 (hval 1 65 v1 rfl rfl); rw [e]; rfl
  obtain ⟨a1, q1, _, r1⟩ := (openU32 Tryz.underlying65) _ _ _ g1 (fun x hx => hlt x (by simp [hx])) (fun n hn => hwz n (DataW.weights_mem_each (j := 1) (t := 65) rfl rfl n hn));obtain ⟨n2, g2⟩ := h2;have hv2 : v2.oneCell' = true := by obtain ⟨_, e⟩ := okWide_int Tryz.underlying65 (hval 2 65 v2 rfl rfl); rw [e]; rfl
  obtain ⟨a2, q2, _, r2⟩ := (openU32 Tryz.underlying65) _ _ _ g2 (fun x hx => hlt x (by simp [hx])) (fun n hn => hwz n (DataW.weights_mem_each (j := 2) (t := 65) rfl rfl n hn));refine (law_calls (lawF6_p a0 a1 a2 q1 q2) (vs := [.agg cs0, v1, v2]) rfl (fun i a v ha hv => ?_)).mono fun e W' ⟨he, hb⟩ => ?_
  · rcases i with _ | _ | _ | i
    · simp at ha hv; subst ha hv; exact RepC.argS rfl r0
    · simp at ha hv; subst ha hv; exact RepC.arg1 rfl rfl hv1 r1
    · simp at ha hv; subst ha hv; exact RepC.arg1 rfl rfl hv2 r2
    · simp at ha
  subst he;exact ⟨_, rfl, law_post (tb := 4) Tryz.laidOut (by kernel_rfl) rfl rfl Tryz.underlying4 hW' ⟨rfl, rfl, rfl⟩ hb⟩

theorem feasibleUnionClosed_holds : Rows.FeasibleUnionClosedSaid :=
  OpenClaim.holds_of_wide 9 Tryz.f9 rfl rfl rfl rfl rfl rfl rfl ⟨rfl, rfl, rfl, rfl, rfl⟩ rfl rfl rfl rfl rfl (by kernel_rfl) Tryz.func9 (by kernel_rfl)
    (of_decide_eq_true (by kernel_rfl)) (by unfold Func.isWrapper; first | (rw [if_pos (by decide +kernel)]; kernel_rfl) | (rw [if_neg (by decide +kernel)]; exact ⟨rfl, rfl⟩))
    (fun os started H enc _ => feasibleUnionClosed_lifted os started H enc)
#print axioms feasibleUnionClosed_holds

end Go.Proofs.YtnamabifclidmaaGreat
