/- Layer 29: overdrawn resources; the package's functions. -/
import Derived.Test.YtnamabifclidmaaGreatMg21
namespace Go.Proofs.YtnamabifclidmaaGreat
open Go.RowKit

def vioS (p : Prb) (r : Rsc) (l : List (Int × Bool)) : Int := (l.map fun e => if e.2 = true then dltE (itmOf p e.1) r else 0).sum
theorem vioS_perm {p : Prb} {r : Rsc} {l m : List (Int × Bool)} (h : l.Perm m) : vioS p r l = vioS p r m := perm_sum h _
theorem vioS_cons (p : Prb) (r : Rsc) (e : Int × Bool) (l : List (Int × Bool)) : vioS p r (e :: l) = (if e.2 = true then dltE (itmOf p e.1) r else 0) + vioS p r l := by simp [vioS]
theorem vioS_cons' (p : Prb) (r : Rsc) (k : Int) (v : Bool) (l : List (Int × Bool)) : vioS p r ((k, v) :: l) = (if v = true then dltE (itmOf p k) r else 0) + vioS p r l := vioS_cons p r (k, v) l
theorem choE_prb {p : Prb} {l : List Int} (h : choE p l = 0) : prbE p = 0 := by
  unfold choE at h; split at h
  · exact h
  · rename_i hn; simpa using hn
theorem retT2 {a b : Bool} {x : D} (h : a = b) : AV.d (.tup [.raw (.bool a), x]) = .d (.tup [.raw (.bool b), x]) := by rw [h]
theorem dltE_b (i : Itm) (r : Rsc) : -1000000000000000 ≤ dltE i r ∧ dltE i r ≤ 1000000000000000 := by
  unfold dltE
  split
  · rename_i h; simpa [Mx] using bnd_sum h.1 r
  · omega
theorem vioS_b (p : Prb) (r : Rsc) {l : List (Int × Bool)} (h : l.length ≤ 1000) : -1000000000000000000 ≤ vioS p r l ∧ vioS p r l ≤ 1000000000000000000 := by
  have := sum_bound (l := l) (f := fun e => if e.2 = true then dltE (itmOf p e.1) r else 0) (B := 1000000000000000) (fun e _ => by
    show _ ≤ (if e.2 = true then _ else _) ∧ _;have := dltE_b (itmOf p e.1) r
    split <;> omega) 1000 h (by omega)
  unfold vioS; omega
def vio1 (p : Prb) (M : List (Int × Bool)) (x : Lin) : List Roo := if x.n + vioS p x.r M < 0 then [⟨x.r, 0 - (x.n + vioS p x.r M)⟩] else []
def viol (p : Prb) (M : List (Int × Bool)) : List Roo := (linL p).flatMap (vio1 p M)
theorem linL_n {p : Prb} (hp : prbE p = 0) (x : Lin) (hx : x ∈ linL p) : 0 ≤ x.n ∧ x.n ≤ 4000000000000000 := by
  unfold linL at hx;obtain ⟨y, hy, rfl⟩ := List.mem_map.1 hx;have := rooms_amt (ZbJ hp).1 y ((linR_perm p.ro).mem_iff.1 hy);show 0 ≤ max y.n 0 ∧ max y.n 0 ≤ _;omega
abbrev HM3 (p : Prb) (mv : Nat) (M : List (Int × Bool)) : Hp := HA p ++ [(12, [mapC intD boolD M]), (13, [.addr 12 0 (.map (some mv))])]
set_option maxRecDepth 100000 in
theorem violations_c (p : Prb) (mv : Nat) (M : List (Int × Bool)) (hp : prbE p = 0) (hb : PrbB p) (hM : M.length ≤ 1000) : ACalls Tryz.prog 47 [.ptr 10 0 0, mapV mv] (HM3 p mv M) fun r H' => r = .d (.sl none ((viol p M).map rooD)) ∧ H' = HM3 p mv M := by
  have hb1 := hb.1;have hLl := linL_len p;refine ZaB Tryz.func47 rfl rfl Tryz.ntmps47 rfl rfl rfl fun F hF => ?_;refine Zaf ?_;refine Zab ?_;refine Zaa.go (Zac rfl rfl) ?_;refine Zae ?_;refine Zaf ?_;refine Zab ?_;refine Zaa.go (Zac rfl rfl) ?_;refine Zae ?_;refine Zaf ?_;refine Zaf ?_;refine a_adopt 5 900 sl56 rfl rfl rfl rfl ?_;refine Zab ?_;refine Zaa.go (Zad rfl rfl) ?_;refine Zaa.go (ZaY rfl rfl) ?_;refine Zaa.go (Zah rfl fi154_2 rfl rfl rfl) ?_;refine Zaa.go (Zai rfl rfl rfl on152 rfl) ?_;refine Zaa.go (Zax rfl Tryz.underlying152 rfl) ?_;refine Zaa.go (Zad rfl rfl) ?_;refine Zae ?_;refine Zaq ?_;refine ZaU (α := Nat × List Roo) (fun q => ⟨53, [(0, .ptr 10 0 0), (1, mapV mv), (5, (.own 900 0 q.2.length)), (14, (.d (.sl none ((linL p).map linD)))), (15, (.d (intD ((linL p).length : Int)))), (16, (.d (intD (q.1 : Int))))], HM3 p mv M ++ [(900, [.rowD 62 7 (q.2.map rooD)])]⟩) (fun q => q.1 ≤ (linL p).length ∧ q.2 = ((linL p).take q.1).flatMap (vio1 p M) ∧ q.2.length ≤ q.1) (fun q => (linL p).length - q.1) ((0, [])) (⟨Nat.zero_le _, rfl, Nat.le_refl _⟩) (Zaw hF [10, 11, 12, 13, 900] rfl rfl ⟨rfl, rfl, rfl, rfl, rfl, rfl, trivial⟩) ?_;rintro ⟨k, acc⟩ ⟨hk0, hA, hL⟩;dsimp only at hk0 hA hL ⊢;refine Zaf ?_;refine Zab ?_;refine Zaa.go (ZaK rfl rfl rfl) ?_;refine Zae ?_;refine Zaf ?_;refine ZaG rfl (fun h17 => ?_) (fun h17 => ?_)
  · have hk1 : k < (linL p).length := ZaM h17;refine Zap ?_;refine Zaf ?_;refine Zaq ?_;refine Zaf ?_;refine Zab ?_;have hxn := linL_n hp _ (List.getElem_mem hk1);refine Zaa.go (Zay (k) rfl rfl (rfl) (getm hk1) Tryz.underlying152 rfl sz157 rfl) ?_;refine Zaa.go (ZaA rfl rfl rw157 rfl) ?_;refine Zal.go (ZaR 1 zl157 rfl rfl rfl rfl) ?_;refine Zal.go (ZaD rfl rfl rfl rfl rfl rfl rfl sz157) ?_;refine Zae ?_;refine Zaf ?_;refine Zab ?_;refine Zaa.go (Zah rfl fi157_1 rfl rfl rfl) ?_;refine Zaa.go (Zai rfl rfl rfl on2 rfl) ?_;refine Zaa.go (Zac rfl rfl) ?_;refine Zae ?_;refine Zaf ?_;refine Zaf ?_;refine Zab ?_;refine Zaa.go (Zad rfl rfl) ?_;refine o_rawMap 22 13 0 rfl rfl ?_;refine Zal.go (st_range 2 rfl rfl rfl mt108 rfl rfl rfl rfl) ?_;refine Zae ?_;refine Zaq ?_;refine ZaU (α := List Nat × Int) (fun q => ⟨53, [(0, .ptr 10 0 0), (1, mapV mv), (5, (.own 900 0 acc.length)), (7, (.ptr 1 0 0)), (8, (.d (intD q.2))), (14, (.d (.sl none ((linL p).map linD)))), (15, (.d (intD ((linL p).length : Int)))), (16, (.d (intD (k : Int)))), (23, (.ptr 2 0 0))], HM3 p mv M ++ [(900, [.rowD 62 7 (acc.map rooD)]), (1, [.blk 157 [.d (intD (linL p)[k].r.k), .d (strD (linL p)[k].r.acc.o), .d (intD (linL p)[k].r.acc.k), .d (strD (linL p)[k].r.acc.a), .d (strD (linL p)[k].r.f), .d (strD (linL p)[k].r.t), .d (intD (linL p)[k].n), .d (.sl none ((linL p)[k].q.map intD))]]), (2, [.iter 12 0 M.length q.1])]⟩) (fun q => q.2 + vioS p (linL p)[k].r (lft M (List.range M.length) q.1) = (linL p)[k].n + vioS p (linL p)[k].r M) (fun q => (lft M (List.range M.length) q.1).length) (([], (linL p)[k].n)) (by show (linL p)[k].n + vioS p (linL p)[k].r (lft M (List.range M.length) []) = _; rw [lft_start (by simp)]) (Zaw hF [10, 11, 12, 13, 900, 1, 2] rfl rfl ⟨rfl, rfl, rfl, rfl, rfl, rfl, rfl, rfl, rfl, trivial⟩) ?_;rintro ⟨seen, left⟩ hI;dsimp only at hI ⊢;refine Zaf ?_;refine Zab ?_;refine o_next (M) rfl rfl rfl rfl (fun hl24 => ?_) (fun j24 b24 k24 v24 hm24 hb24 hB24 hp24 => ⟨_, rfl, ?_⟩)
    · have hfin : left = (linL p)[k].n + vioS p (linL p)[k].r M := by have h1 := hI; rw [hl24] at h1; have h2 : vioS p (linL p)[k].r [] = 0 := rfl; omega
      refine Zaa.go (ZaF rfl rfl rfl) ?_;refine Zae ?_;refine Zaf ?_;refine ZaX rfl rfl ?_;refine ZaQ ?_;refine Zaf ?_;refine Zab ?_;refine Zaa.go (Zad rfl rfl) ?_;refine Zaa.go (ZaK rfl rfl rfl) ?_;refine Zae ?_;refine ZaG rfl (fun h42 => ?_) (fun h42 => ?_)
      · refine Zab ?_;have hv4 := vioS_b p (linL p)[k].r hM;refine Zaa.go (Zad rfl rfl) ?_;refine Zaa.go (Zah rfl fi157_0 rfl rfl rfl) ?_;refine Zaa.go (Zar rfl rfl rw47 rfl rfl rfl) ?_;refine Zaa.go (Zad rfl rfl) ?_;refine Zaa.go (st_neg rfl (IntWalk.i64_in _ (by omega)) rfl) ?_;refine Zaa.go (Za0 zl62 pl62 rfl rfl rfl) ?_;refine Zal.go (ZaJ 3 sl56 rfl rfl rfl rfl rfl rfl rfl rfl) ?_;refine Zal.go (Zbn (acc) ([⟨(linL p)[k].r, 0 - left⟩]) rfl rfl rfl rfl rfl rfl rfl rfl sl56 (by simp only [List.length_singleton]; omega) rfl rfl rfl rfl) ?_;refine Zaa.go (Zac rfl rfl) ?_;refine Zae ?_;refine Zab ?_;refine Zaa.go (Zaz rfl rfl (wrapS (k + 1) (by omega)) rfl) ?_;refine Zaa.go (Zad rfl rfl) ?_;refine Zae ?_;exact ⟨(k + 1, acc ++ [⟨(linL p)[k].r, 0 - left⟩]), ⟨by show k + 1 ≤ _; omega, by show acc ++ [⟨(linL p)[k].r, 0 - left⟩] = ((linL p).take (k + 1)).flatMap (vio1 p M); rw [flat_snoc hk1, ← hA]; unfold vio1; rw [← hfin, if_pos (by simpa using h42)], by show (acc ++ [_]).length ≤ k + 1; rw [List.length_append]; simp; omega⟩, by show (linL p).length - (k + 1) < (linL p).length - k; omega, Zaw hF [10, 11, 12, 13, 900] rfl (rfl) ⟨rfl, rfl, rfl, rfl, rfl, rfl, trivial⟩⟩
      · refine Zap ?_;refine Zab ?_;refine Zaa.go (Zaz rfl rfl (wrapS (k + 1) (by omega)) rfl) ?_;refine Zaa.go (Zad rfl rfl) ?_;refine Zae ?_;exact ⟨(k + 1, acc), ⟨by show k + 1 ≤ _; omega, by show acc = ((linL p).take (k + 1)).flatMap (vio1 p M); rw [flat_snoc hk1, ← hA]; unfold vio1; rw [← hfin, if_neg (by simpa using h42), List.append_nil], by show acc.length ≤ k + 1; omega⟩, by show (linL p).length - (k + 1) < (linL p).length - k; omega, Zaw hF [10, 11, 12, 13, 900] rfl (rfl) ⟨rfl, rfl, rfl, rfl, rfl, rfl, trivial⟩⟩
    · refine Zaa.go (ZaF rfl rfl rfl) ?_;refine Zae ?_;refine Zaf ?_;refine ZaS rfl rfl ?_;refine Zap ?_;refine Zaq ?_;refine Zaf ?_;refine Zab ?_;refine Zaa.go (st_entry (M) j24 b24 rfl rfl rfl hm24 hb24 rfl) ?_;refine Zaa.go (ZaF rfl rfl rfl) ?_;refine Zaa.go (ZaF rfl rfl rfl) ?_;refine Zaa.go (Zac rfl rfl) ?_;refine Zaa.go (Zac rfl rfl) ?_;refine Zae ?_;refine Zaf ?_;refine Zab ?_;refine Zaa.go (Zad rfl rfl) ?_;refine Zae ?_;refine Za1 rfl (fun h29 => ?_) (fun h29 => ?_)
      · refine Za4 [[], [], [1], [1, 2], [1, 2, 3], [], [1, 2, 3, 4, 5], [], [7], [1, 2, 3, 4, 5, 6, 7, 8], [0, 1, 2, 3, 4, 5, 6, 7, 8, 9], [0, 1, 2, 3, 4, 5, 6, 7, 8, 9, 10]] mixed rfl ?_;refine dws ?_;have hb3 := itmOf_B hb k24;have hv1 := vioS_b p (linL p)[k].r hM;have hv2 := vioS_b p (linL p)[k].r (Nat.le_trans (lft_len (m := M) (B := List.range M.length) (seen := seen)) hM);have hv3 := dltE_b (itmOf p k24) (linL p)[k].r;refine Zaj [8] [] rfl rfl (fun _ => Zag (Zad rfl rfl)) ?_;refine Zaj [0] [] rfl rfl (fun _ => Zag (Zad rfl rfl)) ?_;refine Zaj [31] [] rfl rfl (fun _ => Zag (ZaY rfl rfl)) ?_;refine Zaj [32] [] rfl rfl (fun _ => Zag (Zah rfl fi154_0 rfl rfl rfl)) ?_;refine Zat [33] rfl rfl (fun _ => Zag (Zai rfl rfl rfl on151 rfl)) ?_;refine Zaj [9] [] rfl rfl (fun _ => Zag (Zad rfl rfl)) ?_;refine Zat [34, 35] rfl rfl (fun _ => Zag (st_lookW (itemsM p.it) k24 itm0 (itmOf p k24) rfl rfl rfl mt151 kt3 za100 itm0_weakD (itmOf_get p k24) rfl)) ?_;refine Zaj [7] [] rfl rfl (fun _ => Zag (Zah rfl fi157_0 rfl rfl rfl)) ?_;refine Zat [37] rfl rfl (fun _ => Zag (Zar rfl rfl rw47 rfl rfl rfl)) ?_;refine Zaj [36, 38] [] rfl rfl (fun _ => Zag (Zau (delta_p (itmOf p k24) (linL p)[k].r (by omega) (by omega) (by omega)) rfl rfl)) ?_;refine dwc 10 rfl rfl rfl ?_;refine dw1 11 rfl rfl ?_;refine Zaa.go (Zaz rfl rfl (IntWalk.i64_in _ (by omega)) rfl) ?_;refine Zae ⟨rfl, ?_⟩;refine dw1 12 rfl rfl ?_;refine Zaa.go (Zac rfl rfl) ?_;refine Zae ⟨rfl, ?_⟩;refine dwe ?_;exact ⟨(seen ++ [b24], left + dltE (itmOf p k24) (linL p)[k].r), (by show left + dltE (itmOf p k24) (linL p)[k].r + vioS p (linL p)[k].r (lft M (List.range M.length) (seen ++ [b24])) = _; rw [← hI, vioS_perm hp24, vioS_cons', if_pos (by simpa using h29)]; omega), by show (lft M (List.range M.length) (seen ++ [b24])).length < (lft M (List.range M.length) seen).length; rw [hp24.length_eq]; exact Nat.lt_succ_self _, Zaw hF [10, 11, 12, 13, 900, 1, 2] rfl (rfl) ⟨rfl, rfl, rfl, rfl, rfl, rfl, rfl, rfl, rfl, trivial⟩⟩
      · refine Zap ?_;exact ⟨(seen ++ [b24], left), (by show left + vioS p (linL p)[k].r (lft M (List.range M.length) (seen ++ [b24])) = _; rw [← hI, vioS_perm hp24, vioS_cons', if_neg (by simpa using h29)]; omega), by show (lft M (List.range M.length) (seen ++ [b24])).length < (lft M (List.range M.length) seen).length; rw [hp24.length_eq]; exact Nat.lt_succ_self _, Zaw hF [10, 11, 12, 13, 900, 1, 2] rfl (rfl) ⟨rfl, rfl, rfl, rfl, rfl, rfl, rfl, rfl, rfl, trivial⟩⟩
  · refine ZaQ ?_;refine Zaf ?_;have hfa : acc = viol p M := by rw [hA, List.take_of_length_le (by have h := h17; omega)]; rfl
    refine Zb3 (emb := rooD) 5 900 acc rfl rfl rfl rfl rfl rfl rfl ?_;refine Zab ?_;refine Zaa.go (Zad rfl rfl) ?_;refine Zaa.go (Zac rfl rfl) ?_;refine Zae ?_;refine Zao ?_;exact ⟨_, [10, 11, 12, 13], _, Zan rfl, rfl, rfl, by rw [hfa], rfl⟩
def inL (l : List Int) (x : Int) : Bool := decide (x ∈ l)
theorem inM_set (l : List Int) : inM (setM l) = inL l := funext fun x => by unfold inM inL; exact ZbZ l x
set_option maxRecDepth 100000 in
theorem blocksF_p (p : Prb) (l : List Int) (hb : PrbB p) (hl : l.length ≤ 1000) (h1 : p.it.length ≤ 1000) (h2 : p.ro.length ≤ 1000) : PCalls Tryz.prog 21 [.d (prbD p), .d (.sl none (l.map intD))] (.tup [.sl none ((if choE p l = 0 then blks p (inL l) else []).map bkdD), intD (choE p l)]) := by
  by_cases hE : choE p l = 0
  · have hpr := (prepare_ok p l hb (by omega) hE).by [(2, 12)] rfl;rw [if_pos hE, hE];have hbk := fun mv => blocks_c p mv (some (List.range (setM l).length, (setM l).length)) (setM l) hb h1 h2;rw [inM_set] at hbk;refine ZaB Tryz.func21 rfl rfl Tryz.ntmps21 rfl rfl rfl fun F hF => ?_;refine Zaf ?_;refine Zab ?_;refine Zal.go (ZaP 1 rfl rfl rfl rfl rfl rfl rfl) ?_;refine Zaa.go (Zac rfl rfl) ?_;refine Zaa.go (Zac rfl rfl) ?_;refine Zae ?_;refine Zaf ?_;refine Zab ?_;refine Zaa.go (Zar rfl rfl rw35 rfl rfl rfl) ?_;refine Zaa.go (Zad rfl rfl) ?_;refine Zal.go (Za8 hpr rfl [10, 11, 12] ⟨rfl, rfl, rfl, trivial⟩ rfl rfl rfl rfl rfl rfl rfl rfl rfl) ?_;refine Zaa.go (Zad rfl rfl) ?_;refine Zaa.go (ZaF rfl rfl rfl) ?_;refine Zaa.go (ZaF rfl rfl rfl) ?_;refine Zaa.go (ZaF rfl rfl rfl) ?_;refine Zaa.go (Zac rfl rfl) ?_;refine Zaa.go (Zac rfl rfl) ?_;refine Zaa.go (Zac rfl rfl) ?_;refine Zae ?_;refine Zaf ?_;refine Zaf ?_;refine Zab ?_;refine Zaa.go (Zad rfl rfl) ?_;refine Zaa.go (Za3 rfl rfl rfl) ?_;refine Zae ?_;refine ZaX rfl ((by decide)) ?_;refine Zap ?_;refine Zaf ?_;refine a_ghostM 13 12 0 rfl rfl rfl rfl rfl fun mv => ?_;refine a_toRaw 7 13 0 (.inl rfl) rfl ?_;refine Zab ?_;refine Zaa.go (Zad rfl rfl) ?_;refine Zaa.go (Zad rfl rfl) ?_;refine Zal.go (Za8 (hbk mv) rfl [10, 11, 12, 13] ⟨rfl, rfl, rfl, rfl, trivial⟩ rfl rfl rfl rfl rfl rfl rfl rfl rfl) ?_;refine Zaa.go (Zac rfl rfl) ?_;refine Zaa.go (Zac rfl rfl) ?_;refine Zae ?_;refine Zao ?_;exact ⟨_, [], [], Zan rfl, rfl, rfl, rfl, rfl⟩
  · have hpr := prepare_bad p l hb (by omega) hE;rw [if_neg hE];refine ZaB Tryz.func21 rfl rfl Tryz.ntmps21 rfl rfl rfl fun F hF => ?_;refine Zaf ?_;refine Zab ?_;refine Zal.go (ZaP 1 rfl rfl rfl rfl rfl rfl rfl) ?_;refine Zaa.go (Zac rfl rfl) ?_;refine Zb5 4 rfl ?_;refine Zaa.go (Zac rfl rfl) ?_;refine Zae ?_;refine Zaf ?_;refine Zab ?_;refine Zaa.go (Zar rfl rfl rw35 rfl rfl rfl) ?_;refine Zaa.go (Zad rfl rfl) ?_;refine Zaa.go (Zau (hpr) rfl rfl) ?_;refine Zaa.go (Zad rfl rfl) ?_;refine Zaa.go (ZaE rfl rfl rfl) ?_;refine Zaa.go (ZaE rfl rfl rfl) ?_;refine Zaa.go (ZaE rfl rfl rfl) ?_;refine Zaa.go (Zac rfl rfl) ?_;refine Zaa.go (Zac rfl rfl) ?_;refine Zaa.go (Zac rfl rfl) ?_;refine Zae ?_;refine Zaf ?_;refine Zaf ?_;refine Zab ?_;refine Zaa.go (Zad rfl rfl) ?_;refine Zaa.go (Za3 rfl rfl rfl) ?_;refine Zae ?_;refine ZaS rfl ((decide_eq_true hE)) ?_;refine Zaf ?_;refine Zab ?_;refine Zaa.go (Zad rfl rfl) ?_;refine Zaa.go (Zac rfl rfl) ?_;refine Zb5 4 rfl ?_;refine Zaa.go (Zac rfl rfl) ?_;refine Zae ?_;refine Zao ?_;exact ⟨_, [], [], Zan rfl, rfl, rfl, rfl, rfl⟩
set_option maxRecDepth 100000 in
theorem admF_p (p : Prb) (l : List Int) (hb : PrbB p) (hl : l.length ≤ 1000) (h1 : p.it.length ≤ 1000) (h2 : p.ro.length ≤ 1000) : PCalls Tryz.prog 15 [.d (prbD p), .d (.sl none (l.map intD))] (.tup [boolD (decide (choE p l = 0 ∧ blks p (inL l) = [])), intD (choE p l)]) := by
  have hbk := blocksF_p p l hb hl h1 h2;refine ZaB Tryz.func15 rfl rfl Tryz.ntmps15 rfl rfl rfl fun F hF => ?_;refine Zaf ?_;refine Zab ?_;refine Zal.go (ZaP 1 rfl rfl rfl rfl rfl rfl rfl) ?_;refine Zaa.go (Zac rfl rfl) ?_;refine Zaa.go (Zac rfl rfl) ?_;refine Zae ?_;refine Zaf ?_;refine Zab ?_;refine Zaa.go (Zar rfl rfl rw35 rfl rfl rfl) ?_;refine Zaa.go (Zad rfl rfl) ?_;refine Zaa.go (Zau (hbk) rfl rfl) ?_;refine Zaa.go (Zad rfl rfl) ?_;refine Zaa.go (ZaE rfl rfl rfl) ?_;refine Zaa.go (ZaE rfl rfl rfl) ?_;refine Zaa.go (Zac rfl rfl) ?_;refine Zaa.go (Zac rfl rfl) ?_;refine Zae ?_;refine Zaf ?_;refine Zab ?_;refine Zaa.go (Zad rfl rfl) ?_;refine Zaa.go (Za6 rfl rfl rfl) ?_;refine Zaa.go (Zad rfl rfl) ?_;refine ZaL 16 rfl (fun h16 => ?_) (fun h16 => ?_)
  · refine Zam rfl rfl rfl ?_;refine Zaa.go (Zad rfl rfl) ?_;refine Zam rfl rfl rfl ?_;refine Zaa.go (Zax rfl Tryz.underlying39 rfl) ?_;refine Zam rfl rfl rfl ?_;refine Zaa.go (Za6 rfl rfl rfl) ?_;refine Zaa.go (Zav rfl rfl rfl rfl) ?_;refine Zaa.go (Zad rfl rfl) ?_;refine Zaa.go (Zac rfl rfl) ?_;refine Zaa.go (Zac rfl rfl) ?_;refine Zae ?_;refine Zao ?_;exact ⟨_, [], [], Zan rfl, rfl, rfl, retT2 (by first | (rw [Bool.eq_iff_iff]; simp [h16, List.length_eq_zero_iff]; done) | (rw [Bool.eq_iff_iff]; simp_all)), rfl⟩
  · refine Zak rfl rfl rfl rfl ?_;refine Zak rfl rfl rfl rfl ?_;refine Zak rfl rfl rfl rfl ?_;refine Zaa.go (ZaC rfl rfl rfl rfl) ?_;refine Zaa.go (Zad rfl rfl) ?_;refine Zaa.go (Zac rfl rfl) ?_;refine Zaa.go (Zac rfl rfl) ?_;refine Zae ?_;refine Zao ?_;exact ⟨_, [], [], Zan rfl, rfl, rfl, retT2 (by first | (rw [Bool.eq_iff_iff]; simp [h16, List.length_eq_zero_iff]; done) | (rw [Bool.eq_iff_iff]; simp_all)), rfl⟩
set_option maxRecDepth 100000 in
theorem violF_p (p : Prb) (l : List Int) (hb : PrbB p) (hl : l.length ≤ 1000) : PCalls Tryz.prog 24 [.d (prbD p), .d (.sl none (l.map intD))] (.tup [.sl none ((if choE p l = 0 then viol p (setM l) else []).map rooD), intD (choE p l)]) := by
  by_cases hE : choE p l = 0
  · have hpr := (prepare_ok p l hb (by omega) hE).by [(2, 12)] rfl;have h0 := choE_prb hE;rw [if_pos hE, hE];have hbk := fun mv => violations_c p mv (setM l) h0 hb (by unfold setM; rw [List.length_map]; exact hl);refine ZaB Tryz.func24 rfl rfl Tryz.ntmps24 rfl rfl rfl fun F hF => ?_;refine Zaf ?_;refine Zab ?_;refine Zal.go (ZaP 1 rfl rfl rfl rfl rfl rfl rfl) ?_;refine Zaa.go (Zac rfl rfl) ?_;refine Zaa.go (Zac rfl rfl) ?_;refine Zae ?_;refine Zaf ?_;refine Zab ?_;refine Zaa.go (Zar rfl rfl rw35 rfl rfl rfl) ?_;refine Zaa.go (Zad rfl rfl) ?_;refine Zal.go (Za8 hpr rfl [10, 11, 12] ⟨rfl, rfl, rfl, trivial⟩ rfl rfl rfl rfl rfl rfl rfl rfl rfl) ?_;refine Zaa.go (Zad rfl rfl) ?_;refine Zaa.go (ZaF rfl rfl rfl) ?_;refine Zaa.go (ZaF rfl rfl rfl) ?_;refine Zaa.go (ZaF rfl rfl rfl) ?_;refine Zaa.go (Zac rfl rfl) ?_;refine Zaa.go (Zac rfl rfl) ?_;refine Zaa.go (Zac rfl rfl) ?_;refine Zae ?_;refine Zaf ?_;refine Zaf ?_;refine Zab ?_;refine Zaa.go (Zad rfl rfl) ?_;refine Zaa.go (Za3 rfl rfl rfl) ?_;refine Zae ?_;refine ZaX rfl ((by decide)) ?_;refine Zap ?_;refine Zaf ?_;refine a_ghostM 13 12 0 rfl rfl rfl rfl rfl fun mv => ?_;refine a_toRaw 7 13 0 (.inl rfl) rfl ?_;refine Zab ?_;refine Zaa.go (Zad rfl rfl) ?_;refine Zaa.go (Zad rfl rfl) ?_;refine Zal.go (Za8 (hbk mv) rfl [10, 11, 12, 13] ⟨rfl, rfl, rfl, rfl, trivial⟩ rfl rfl rfl rfl rfl rfl rfl rfl rfl) ?_;refine Zaa.go (Zac rfl rfl) ?_;refine Zaa.go (Zac rfl rfl) ?_;refine Zae ?_;refine Zao ?_;exact ⟨_, [], [], Zan rfl, rfl, rfl, rfl, rfl⟩
  · have hpr := prepare_bad p l hb (by omega) hE;rw [if_neg hE];refine ZaB Tryz.func24 rfl rfl Tryz.ntmps24 rfl rfl rfl fun F hF => ?_;refine Zaf ?_;refine Zab ?_;refine Zal.go (ZaP 1 rfl rfl rfl rfl rfl rfl rfl) ?_;refine Zaa.go (Zac rfl rfl) ?_;refine Zb5 4 rfl ?_;refine Zaa.go (Zac rfl rfl) ?_;refine Zae ?_;refine Zaf ?_;refine Zab ?_;refine Zaa.go (Zar rfl rfl rw35 rfl rfl rfl) ?_;refine Zaa.go (Zad rfl rfl) ?_;refine Zaa.go (Zau (hpr) rfl rfl) ?_;refine Zaa.go (Zad rfl rfl) ?_;refine Zaa.go (ZaE rfl rfl rfl) ?_;refine Zaa.go (ZaE rfl rfl rfl) ?_;refine Zaa.go (ZaE rfl rfl rfl) ?_;refine Zaa.go (Zac rfl rfl) ?_;refine Zaa.go (Zac rfl rfl) ?_;refine Zaa.go (Zac rfl rfl) ?_;refine Zae ?_;refine Zaf ?_;refine Zaf ?_;refine Zab ?_;refine Zaa.go (Zad rfl rfl) ?_;refine Zaa.go (Za3 rfl rfl rfl) ?_;refine Zae ?_;refine ZaS rfl ((decide_eq_true hE)) ?_;refine Zaf ?_;refine Zab ?_;refine Zaa.go (Zad rfl rfl) ?_;refine Zaa.go (Zac rfl rfl) ?_;refine Zb5 4 rfl ?_;refine Zaa.go (Zac rfl rfl) ?_;refine Zae ?_;refine Zao ?_;exact ⟨_, [], [], Zan rfl, rfl, rfl, rfl, rfl⟩
set_option maxRecDepth 100000 in
theorem feasF_p (p : Prb) (l : List Int) (hb : PrbB p) (hl : l.length ≤ 1000) (h1 : p.it.length ≤ 1000) (h2 : p.ro.length ≤ 1000) : PCalls Tryz.prog 17 [.d (prbD p), .d (.sl none (l.map intD))] (.tup [boolD (decide (choE p l = 0 ∧ blks p (inL l) = [] ∧ viol p (setM l) = [])), intD (choE p l)]) := by
  by_cases hE : choE p l = 0
  · have hpr := (prepare_ok p l hb (by omega) hE).by [(2, 12)] rfl;have h0 := choE_prb hE;have hbk := fun mv => blocks_c p mv (some (List.range (setM l).length, (setM l).length)) (setM l) hb h1 h2;rw [inM_set] at hbk;have hvk := fun mv => violations_c p mv (setM l) h0 hb (by unfold setM; rw [List.length_map]; exact hl);rw [hE];refine ZaB Tryz.func17 rfl rfl Tryz.ntmps17 rfl rfl rfl fun F hF => ?_;refine Zaf ?_;refine Zab ?_;refine Zal.go (ZaP 1 rfl rfl rfl rfl rfl rfl rfl) ?_;refine Zaa.go (Zac rfl rfl) ?_;refine Zaa.go (Zac rfl rfl) ?_;refine Zae ?_;refine Zaf ?_;refine Zab ?_;refine Zaa.go (Zar rfl rfl rw35 rfl rfl rfl) ?_;refine Zaa.go (Zad rfl rfl) ?_;refine Zal.go (Za8 hpr rfl [10, 11, 12] ⟨rfl, rfl, rfl, trivial⟩ rfl rfl rfl rfl rfl rfl rfl rfl rfl) ?_;refine Zaa.go (Zad rfl rfl) ?_;refine Zaa.go (ZaF rfl rfl rfl) ?_;refine Zaa.go (ZaF rfl rfl rfl) ?_;refine Zaa.go (ZaF rfl rfl rfl) ?_;refine Zaa.go (Zac rfl rfl) ?_;refine Zaa.go (Zac rfl rfl) ?_;refine Zaa.go (Zac rfl rfl) ?_;refine Zae ?_;refine Zaf ?_;refine Zaf ?_;refine Zab ?_;refine Zaa.go (Zad rfl rfl) ?_;refine Zaa.go (Za3 rfl rfl rfl) ?_;refine Zae ?_;refine ZaX rfl ((by decide)) ?_;refine Zap ?_;refine Zaf ?_;refine a_ghostM 13 12 0 rfl rfl rfl rfl rfl fun mv => ?_;refine a_toRaw 7 13 0 (.inl rfl) rfl ?_;refine Zab ?_;refine Zaa.go (Zad rfl rfl) ?_;refine Zaa.go (Zad rfl rfl) ?_;refine Zal.go (Za8 (hbk mv) rfl [10, 11, 12, 13] ⟨rfl, rfl, rfl, rfl, trivial⟩ rfl rfl rfl rfl rfl rfl rfl rfl rfl) ?_;refine Zaa.go (Zax rfl Tryz.underlying39 rfl) ?_;refine Zaa.go (Za6 rfl rfl rfl) ?_;refine Zaa.go (Zad rfl rfl) ?_;refine ZaL 24 rfl (fun h24 => ?_) (fun h24 => ?_)
    · refine Zam rfl rfl rfl ?_;refine Zaa.go (Zad rfl rfl) ?_;refine Zam rfl rfl rfl ?_;refine Zaa.go (Zad rfl rfl) ?_;refine Zam rfl rfl rfl ?_;refine Zal.go (Za8 (hvk mv) rfl [10, 11, 12, 13] ⟨rfl, rfl, rfl, rfl, trivial⟩ rfl rfl rfl rfl rfl rfl rfl rfl rfl) ?_;refine Zam rfl rfl rfl ?_;refine Zaa.go (Zax rfl Tryz.underlying56 rfl) ?_;refine Zam rfl rfl rfl ?_;refine Zaa.go (Za6 rfl rfl rfl) ?_;refine Zaa.go (Zav rfl rfl rfl rfl) ?_;refine Zaa.go (Zac rfl rfl) ?_;refine Zaa.go (Zac rfl rfl) ?_;refine Zae ?_;refine Zao ?_;exact ⟨_, [], [], Zan rfl, rfl, rfl, retT2 (by first | (rw [Bool.eq_iff_iff]; simp_all [List.length_eq_zero_iff]; done) | (rw [Bool.eq_iff_iff]; simp_all)), rfl⟩
    · refine Zak rfl rfl rfl rfl ?_;refine Zak rfl rfl rfl rfl ?_;refine Zak rfl rfl rfl rfl ?_;refine Zak rfl rfl rfl rfl ?_;refine Zak rfl rfl rfl rfl ?_;refine Zaa.go (ZaC rfl rfl rfl rfl) ?_;refine Zaa.go (Zac rfl rfl) ?_;refine Zaa.go (Zac rfl rfl) ?_;refine Zae ?_;refine Zao ?_;exact ⟨_, [], [], Zan rfl, rfl, rfl, retT2 (by first | (rw [Bool.eq_iff_iff]; simp_all [List.length_eq_zero_iff]; done) | (rw [Bool.eq_iff_iff]; simp_all)), rfl⟩
  · have hpr := prepare_bad p l hb (by omega) hE;refine ZaB Tryz.func17 rfl rfl Tryz.ntmps17 rfl rfl rfl fun F hF => ?_;refine Zaf ?_;refine Zab ?_;refine Zal.go (ZaP 1 rfl rfl rfl rfl rfl rfl rfl) ?_;refine Zaa.go (Zac rfl rfl) ?_;refine Zaa.go (Zac rfl rfl) ?_;refine Zae ?_;refine Zaf ?_;refine Zab ?_;refine Zaa.go (Zar rfl rfl rw35 rfl rfl rfl) ?_;refine Zaa.go (Zad rfl rfl) ?_;refine Zaa.go (Zau (hpr) rfl rfl) ?_;refine Zaa.go (Zad rfl rfl) ?_;refine Zaa.go (ZaE rfl rfl rfl) ?_;refine Zaa.go (ZaE rfl rfl rfl) ?_;refine Zaa.go (ZaE rfl rfl rfl) ?_;refine Zaa.go (Zac rfl rfl) ?_;refine Zaa.go (Zac rfl rfl) ?_;refine Zaa.go (Zac rfl rfl) ?_;refine Zae ?_;refine Zaf ?_;refine Zaf ?_;refine Zab ?_;refine Zaa.go (Zad rfl rfl) ?_;refine Zaa.go (Za3 rfl rfl rfl) ?_;refine Zae ?_;refine ZaS rfl ((decide_eq_true hE)) ?_;refine Zaf ?_;refine Zab ?_;refine Zaa.go (Zad rfl rfl) ?_;refine Zaa.go (Zac rfl rfl) ?_;refine Zaa.go (Zac rfl rfl) ?_;refine Zae ?_;refine Zao ?_;exact ⟨_, [], [], Zan rfl, rfl, rfl, by rw [decide_eq_false (fun h => hE h.1)], rfl⟩
end Go.Proofs.YtnamabifclidmaaGreat
/- Layer 29: the reference. -/
namespace Go.Proofs.YtnamabifclidmaaGreat
open Go.RowKit

set_option maxRecDepth 100000 in
theorem in29_p (l : List Int) (x : Int) (hn : l.length ≤ 140737488355328) : PCalls Tryz.prog 33 [.d (.sl none (l.map intD)), .d (intD x)] (.raw (.bool (decide (x ∈ l)))) := by
  refine ZaB Tryz.func33 rfl rfl Tryz.ntmps33 rfl rfl rfl fun F hF => ?_;refine Zaf ?_;refine Zab ?_;refine Zaa.go (Zac rfl rfl) ?_;refine Zae ?_;refine Zaf ?_;refine Zaf ?_;refine Zab ?_;refine Zaa.go (Zac rfl rfl) ?_;refine Zae ?_;refine Zaq ?_;refine a_loop (α := Nat) (fun k => ⟨18, [(0, .d (.sl none (l.map intD))), (1, .d (intD x)), (5, (.d (intD (k : Int))))], []⟩) (fun k => k ≤ l.length ∧ x ∉ l.take k) (fun k => l.length - k) (0) (⟨Nat.zero_le _, by simp⟩) (ZbE ⟨rfl, rfl, rfl, trivial⟩) ?_;rintro k ⟨hk0, hk⟩;refine Zaf ?_;refine Zaf ?_;refine Zab ?_;refine Zaa.go (Zad rfl rfl) ?_;refine Zaa.go (Zad rfl rfl) ?_;refine Zaa.go (Zax rfl Tryz.underlying26 rfl) ?_;refine Zaa.go (ZaK rfl rfl rfl) ?_;refine Zae ?_;refine ZaG rfl (fun h9 => ?_) (fun h9 => ?_)
  · have hk1 : k < l.length := ZaM h9;refine Zap ?_;refine Zaf ?_;refine Zaq ?_;refine Zaf ?_;refine Zab ?_;refine Zaa.go (Zad rfl rfl) ?_;refine Zaa.go (Zad rfl rfl) ?_;refine Zaa.go (Zay (k) rfl rfl (rfl) (getm hk1) Tryz.underlying26 rfl sz3 rfl) ?_;refine Zaa.go (Zas rfl rfl on3 rfl) ?_;refine Zaa.go (Zad rfl rfl) ?_;refine Zaa.go (Za6 rfl rfl rfl) ?_;refine Zae ?_;refine ZaG rfl (fun h17 => ?_) (fun h17 => ?_)
    · refine Zaf ?_;refine Zab ?_;refine Zaa.go (Zac rfl rfl) ?_;refine Zae ?_;refine Zao ?_;exact ⟨_, [], [], Zan rfl, rfl, rfl, retT (by rw [← h17]; exact List.getElem_mem hk1), rfl⟩
    · refine Zap ?_;refine Zab ?_;refine Zaa.go (Zad rfl rfl) ?_;refine Zaa.go (Zaz rfl rfl (wrapS (k + 1) (by omega)) rfl) ?_;refine Zaa.go (Zac rfl rfl) ?_;refine Zae ?_;exact ⟨k + 1, ⟨by show k + 1 ≤ _; omega, not_mem_take_succ hk1 hk (fun e => h17 e.symm)⟩, by show l.length - (k + 1) < l.length - k; omega, ⟨rfl, rfl, fun _ _ => Has.get (l := [(0, _), (1, _), (5, _)]) ⟨rfl, rfl, rfl, trivial⟩⟩⟩
  · refine ZaQ ?_;refine Zaf ?_;refine Zab ?_;refine Zaa.go (Zac rfl rfl) ?_;refine Zae ?_;refine Zao ?_;exact ⟨_, [], [], Zan rfl, rfl, rfl, retF (mem_of_take (by have h := h9; omega) hk), rfl⟩
theorem PC.le {γ : Type} {c : γ → γ → Int} (h : PC c) {x y z : γ} (h1 : c x y ≤ 0) (h2 : c y z ≤ 0) : c x z ≤ 0 := by
  by_cases e1 : c x y = 0
  · rw [h.eqv x y z e1]; exact h2
  · by_cases e2 : c y z = 0
    · have a1 := h.anti y z;have e3 : c z y = 0 := by omega
      have a2 := h.eqv z y x e3;have a3 := h.anti z x;have a4 := h.anti y x;omega
    · have := h.trans x y z (by omega) (by omega); omega
theorem cmpI_ge {a b : Int} : ¬ cmpI b a < 0 ↔ a ≤ b := by unfold cmpI; split <;> (try split) <;> omega
theorem sort_one {l ys : List Int} (h1 : ys.Perm l) (h2 : ys.Pairwise fun a b => ¬ cmpI b a < 0) : ys = sortI l :=
  List.Perm.eq_of_pairwise (le := fun a b : Int => a ≤ b) (fun a b _ _ g1 g2 => by omega) (h2.imp fun h => cmpI_ge.1 h) (sortI_sorted l) (h1.trans (Zcg l).symm)
end Go.Proofs.YtnamabifclidmaaGreat
/- Layer 29: the reference, continued. -/
namespace Go.Proofs.YtnamabifclidmaaGreat
open Go.RowKit

theorem linR_one {p : Prb} (hp : prbE p = 0) {ys : List Roo} (h1 : ys.Perm p.ro) (h2 : ys.Pairwise fun a b => ¬ cmpR b.r a.r < 0) : ys = linR p.ro :=
  rsc_one Roo.r (rooms_nodup (ZbJ hp).1) (linR_perm p.ro) (linR_sorted p.ro) h1 h2
theorem prefN_in {i : Int} {q : List Int} (h : i ∈ q) : prefN i q = q.idxOf i := by unfold prefN ixI; rw [if_pos h]; omega
end Go.Proofs.YtnamabifclidmaaGreat
/- Layer 29: the reference's functions. -/
namespace Go.Proofs.YtnamabifclidmaaGreat
open Go.RowKit

structure PV (p : Prb) : Prop where
  e : prbE p = 0
  b : PrbB p
  i : p.it.length ≤ 1000
  r : p.ro.length ≤ 1000
  q : ∀ i ∈ p.it, i.po.length ≤ 1000 ∧ i.pa.length ≤ 1000 ∧ i.af.length ≤ 1000
end Go.Proofs.YtnamabifclidmaaGreat
/- Layer 29: problems with few items. -/
namespace Go.Proofs.YtnamabifclidmaaGreat
open Go.RowKit

abbrev u32D (n : Nat) : D := .raw (.int .u32 (n : Int))
structure Sma where
  ids : List Int
  bl : List Nat
  de : List (List Int)
  rm : List Int
abbrev rowZ (l : List Int) : D := .sl none (l.map intD)
abbrev smaD (s : Sma) : D := .agg [.sl none (s.ids.map intD), .sl none (s.bl.map u32D), .sl none (s.de.map rowZ), .sl none (s.rm.map intD)]
def badS (s : Sma) (x : Nat) (i : Nat) : Bool := x.testBit i && decide (anU (s.bl.getD i 0) x ≠ 0)
def admS (s : Sma) (x : Nat) : Bool := !(List.range s.bl.length).any (badS s x)
theorem any_no {n k : Nat} {p : Nat → Bool} (h : ∀ i, i < k → p i = false) (hk : ¬ k < n) : (List.range n).any p = false := by
  rw [List.any_eq_false]; intro i hi; rw [h i (by have := List.mem_range.1 hi; omega)]; simp
theorem any_yes {n k : Nat} {p : Nat → Bool} (hk : k < n) (h : p k = true) : (List.range n).any p = true := List.any_eq_true.2 ⟨k, List.mem_range.2 hk, h⟩
theorem bit_no {a i : Nat} (h : ¬ ((((a >>> i) % 2 : Nat) : Int) = 1)) : a.testBit i = false := by
  cases hh : a.testBit i with
  | false => rfl
  | true => exact absurd ((bit_iff a i).2 hh) h
set_option maxRecDepth 100000 in
theorem admS_p (s : Sma) (x : Nat) (hx : x < 4294967296) (hb : ∀ b ∈ s.bl, b < 4294967296) (hl : s.bl.length ≤ 32) : PCalls Tryz.prog 87 [.d (.ptr (smaD s)), .d (u32D x)] (boolD (admS s x)) := by
  refine ZaB Tryz.func87 rfl rfl Tryz.ntmps87 rfl rfl rfl fun F hF => ?_;refine Zaf ?_;refine Zab ?_;refine Zaa.go (Zac rfl rfl) ?_;refine Zae ?_;refine Zaf ?_;refine Zaf ?_;refine Zab ?_;refine Zaa.go (Zad rfl rfl) ?_
  first | refine Zaa.go (ZaY rfl rfl) ?_ | refine Zaa.go (Zcd rfl rfl) ?_ | refine Zaa.go (st_nilCheckR rfl rfl) ?_
  first | refine Zaa.go (Zah rfl fi170_1 rfl rfl rfl) ?_ | refine Zaa.go (ZaH rfl fi170_1 rfl rfl rfl) ?_ | refine Zaa.go (ZaN rfl fi170_1 rfl rfl rfl) ?_ | refine Zaa.go (ZaW rfl fi170_1 rfl rfl rfl) ?_
  first | refine Zaa.go (Zas rfl rfl on166 rfl) ?_ | refine Zaa.go (Zai rfl rfl rfl on166 rfl) ?_ | refine Zaa.go (ZaI rfl rfl (rfl) rfl on166 rfl) ?_
  first | refine Zaa.go (Zax rfl Tryz.underlying166 rfl) ?_ | refine Zaa.go (Zbr rfl rfl Tryz.underlying166 rfl) ?_ | refine Zaa.go (Zbq rfl Tryz.underlying166 rfl) ?_ | refine Zaa.go (Zbj rfl Tryz.underlying166 rfl) ?_ | refine Zaa.go (Zbp rfl Tryz.underlying166 rfl) ?_
  refine Zaa.go (Zad rfl rfl) ?_;refine Zae ?_;refine Zaq ?_;refine a_loop (α := Nat) (fun k => ⟨29, [(1, .d (u32D x)), (10, (.d (.sl none (s.bl.map u32D)))), (11, (.d (intD (s.bl.length : Int)))), (12, (.d (intD (k : Int))))], []⟩) (fun k => k ≤ s.bl.length ∧ ∀ i, i < k → badS s x i = false) (fun k => s.bl.length - k) (0) (⟨Nat.zero_le _, fun i h => by omega⟩) (ZbE ⟨rfl, rfl, rfl, rfl, trivial⟩) ?_;rintro k ⟨hk0, hk⟩;refine Zaf ?_;refine Zab ?_
  first | refine Zaa.go (ZaK rfl rfl rfl) ?_ | refine Zaa.go (Zbm rfl rfl rfl) ?_
  refine Zae ?_;refine Zaf ?_
  first | refine ZaG rfl (fun h13 => ?_) (fun h13 => ?_) | refine Za1 rfl (fun h13 => ?_) (fun h13 => ?_)
  · have hk1 : k < s.bl.length := ZaM h13;refine Zap ?_;refine Zaf ?_;refine Zaq ?_;refine Zaf ?_;refine Zab ?_;refine Zaa.go (Zad rfl rfl) ?_;have hgd := Za5 0 hk1;have hbk := hb _ (List.getElem_mem hk1)
    first | refine Zaa.go (Zay (k) rfl rfl (rfl) (getm hk1) Tryz.underlying166 rfl sz65 rfl) ?_ | refine Zaa.go (Zbe (k) rfl rfl (rfl) (getm hk1) rfl Tryz.underlying166 sz65 rfl) ?_
    first | refine Zaa.go (Zas rfl rfl on65 rfl) ?_ | refine Zaa.go (Zai rfl rfl rfl on65 rfl) ?_ | refine Zaa.go (ZaI rfl rfl (rfl) rfl on65 rfl) ?_
    refine Zaa.go (Zac rfl rfl) ?_;refine Zaa.go (Zac rfl rfl) ?_;refine Zae ?_;refine Zaf ?_;refine Zab ?_;refine Zaa.go (Zad rfl rfl) ?_;refine Zaa.go (Zad rfl rfl) ?_;refine Zaa.go (st_shr rfl rfl (by omega) (shrU x k (by omega)) rfl) ?_;refine Zaa.go (st_bits rfl rfl rfl (and1U (shr_lt hx k)) rfl) ?_
    first | refine Zaa.go (Za6 rfl rfl rfl) ?_ | refine Zaa.go (ZaZ rfl rfl rfl) ?_ | refine Zaa.go (st_eqlS rfl rfl rfl) ?_ | refine Zaa.go (st_eqlB Tryz.underlying65 rfl rfl rfl) ?_ | refine Zaa.go (st_eqlP Tryz.underlying65 rfl rfl rfl) ?_ | refine Zaa.go (ZbY Tryz.underlying65 rfl rfl) ?_ | refine Zaa.go (st_eqlF Tryz.underlying65 rfl rfl rfl) ?_ | refine Zaa.go (Zce Tryz.underlying65 rfl rfl) ?_
    refine Zaa.go (Zad rfl rfl) ?_
    first | refine ZaL 22 rfl (fun h22 => ?_) (fun h22 => ?_) | refine o_splitB 22 rfl (fun h22 => ?_) (fun h22 => ?_)
    · refine Zam rfl rfl rfl ?_;refine Zaa.go (Zad rfl rfl) ?_;refine Zam rfl rfl rfl ?_;refine Zaa.go (Zad rfl rfl) ?_;refine Zam rfl rfl rfl ?_;refine Zaa.go (st_bits rfl rfl rfl (andNotU s.bl[k] x) rfl) ?_;refine Zam rfl rfl rfl ?_
      first | refine Zaa.go (Za3 rfl rfl rfl) ?_ | refine Zaa.go (Zbb rfl rfl rfl) ?_ | refine Zaa.go (Zbx rfl rfl rfl) ?_ | refine Zaa.go (ZbD Tryz.underlying65 rfl rfl rfl) ?_ | refine Zaa.go (ZbB Tryz.underlying65 rfl rfl rfl) ?_ | refine Zaa.go (st_neqN Tryz.underlying65 rfl rfl) ?_ | refine Zaa.go (ZbC Tryz.underlying65 rfl rfl rfl) ?_ | refine Zaa.go (st_neqFN Tryz.underlying65 rfl rfl) ?_
      refine Zaa.go (Zav rfl rfl rfl rfl) ?_;refine Zae ?_
      first | refine ZaG rfl (fun h27 => ?_) (fun h27 => ?_) | refine Za1 rfl (fun h27 => ?_) (fun h27 => ?_)
      · refine Zaf ?_;refine Zab ?_;refine Zaa.go (Zac rfl rfl) ?_;refine Zae ?_;refine Zao ?_;exact ⟨_, [], [], Zan rfl, rfl, rfl, retB3 (by unfold admS; rw [any_yes hk1 (by unfold badS; rw [hgd, (bit_iff x k).1 h22, Bool.true_and]; exact decide_eq_true (fun h5 => h27 (by rw [h5]; rfl)))]; rfl), rfl⟩
      · refine Zap ?_;refine Zab ?_;have hbad : badS s x k = false := by unfold badS; first | (have h6 : ((anU s.bl[k] x : Nat) : Int) = 0 := Decidable.not_not.1 h27; rw [hgd]; have h3 : anU s.bl[k] x = 0 := Int.ofNat.inj h6; rw [h3]; simp; done) | (rw [bit_no h22]; rfl)
        refine Zaa.go (Zaz rfl rfl (wrapS (k + 1) (by omega)) rfl) ?_;refine Zaa.go (Zad rfl rfl) ?_;refine Zae ?_;exact ⟨k + 1, ⟨by show k + 1 ≤ _; omega, fun i hi => by rcases Nat.lt_or_ge i k with h | h; exact hk i h; have e : i = k := by { omega }; subst e; exact hbad⟩, by show s.bl.length - (k + 1) < s.bl.length - k; omega, ⟨rfl, rfl, fun _ _ => Has.get (l := [(1, _), (10, _), (11, _), (12, _)]) ⟨rfl, rfl, rfl, rfl, trivial⟩⟩⟩
    · refine Zak rfl rfl rfl rfl ?_;refine Zak rfl rfl rfl rfl ?_;refine Zak rfl rfl rfl rfl ?_;refine Zak rfl rfl rfl rfl ?_;refine Zaa.go (ZaC rfl rfl rfl rfl) ?_;refine Zae ?_;refine ZaX rfl rfl ?_;refine Zap ?_;refine Zab ?_;have hbad : badS s x k = false := by unfold badS; first | (have h6 : ((anU s.bl[k] x : Nat) : Int) = 0 := Decidable.not_not.1 h27; rw [hgd]; have h3 : anU s.bl[k] x = 0 := Int.ofNat.inj h6; rw [h3]; simp; done) | (rw [bit_no h22]; rfl)
      refine Zaa.go (Zaz rfl rfl (wrapS (k + 1) (by omega)) rfl) ?_;refine Zaa.go (Zad rfl rfl) ?_;refine Zae ?_;exact ⟨k + 1, ⟨by show k + 1 ≤ _; omega, fun i hi => by rcases Nat.lt_or_ge i k with h | h; exact hk i h; have e : i = k := by { omega }; subst e; exact hbad⟩, by show s.bl.length - (k + 1) < s.bl.length - k; omega, ⟨rfl, rfl, fun _ _ => Has.get (l := [(1, _), (10, _), (11, _), (12, _)]) ⟨rfl, rfl, rfl, rfl, trivial⟩⟩⟩
  · refine ZaQ ?_;refine Zaf ?_;refine Zab ?_;refine Zaa.go (Zac rfl rfl) ?_;refine Zae ?_;refine Zao ?_;exact ⟨_, [], [], Zan rfl, rfl, rfl, retB3 (by unfold admS; rw [any_no hk (by have h := h13; omega)]; rfl), rfl⟩
end Go.Proofs.YtnamabifclidmaaGreat
/- Layer 29: problems with few items: feasible sets, lists, the enumeration of sets. -/
namespace Go.Proofs.YtnamabifclidmaaGreat
open Go.RowKit

def rowS (x : Nat) (r : List Int) : Int := ((List.range r.length).map fun i => if x.testBit i = true then r.getD i 0 else 0).sum
def overS (s : Sma) (x : Nat) (k : Nat) : Bool := decide (s.rm.getD k 0 + rowS x (s.de.getD k []) < 0)
def feaS (s : Sma) (x : Nat) : Bool := !(List.range s.rm.length).any (overS s x)
def rowP (x : Nat) (r : List Int) (k : Nat) (a : Int) : Int := (List.range k).foldl (fun c i => c + if x.testBit i = true then r.getD i 0 else 0) a
theorem rowP_eq (x : Nat) (r : List Int) (a : Int) : rowP x r r.length a = a + rowS x r := by
  unfold rowP rowS
  have key : ∀ (l : List Nat) (a : Int), l.foldl (fun c i => c + if x.testBit i = true then r.getD i 0 else 0) a = a + (l.map fun i => if x.testBit i = true then r.getD i 0 else 0).sum := fun l => by
    induction l with
    | nil => intro a; simp
    | cons i l ih => intro a; rw [List.foldl_cons, ih, List.map_cons, List.sum_cons]; omega
  exact key _ _
theorem rowP_snoc (x : Nat) (r : List Int) (k : Nat) (a : Int) : rowP x r (k + 1) a = rowP x r k a + if x.testBit k = true then r.getD k 0 else 0 := by
  unfold rowP; rw [List.range_succ, List.foldl_append]; rfl
theorem rowP_b {x : Nat} {r : List Int} (hr : ∀ v ∈ r, -1000000000000000 ≤ v ∧ v ≤ 1000000000000000) (a : Int) : ∀ k : Nat, k ≤ 1000 → a - k * 1000000000000000 ≤ rowP x r k a ∧ rowP x r k a ≤ a + k * 1000000000000000
  | 0, _ => by unfold rowP; simp
  | k + 1, h => by
    have ih := rowP_b (x := x) hr a k (by omega);rw [rowP_snoc]
    have hv : -1000000000000000 ≤ r.getD k 0 ∧ r.getD k 0 ≤ 1000000000000000 := by
      rw [List.getD_eq_getElem?_getD]
      cases hk : r[k]? with
      | none => simp
      | some v => exact hr v (List.mem_of_getElem? hk)
    split <;> omega
set_option maxRecDepth 100000 in
theorem feaS_p (s : Sma) (x : Nat) (hx : x < 4294967296) (hn : s.rm.length ≤ 100000) (hde : s.de.length = s.rm.length) (hdl : ∀ r ∈ s.de, r.length ≤ 32 ∧ ∀ v ∈ r, -1000000000000000 ≤ v ∧ v ≤ 1000000000000000) (hrm : ∀ v ∈ s.rm, 0 ≤ v ∧ v ≤ 4000000000000000) : PCalls Tryz.prog 61 [.d (.ptr (smaD s)), .d (u32D x)] (boolD (feaS s x)) := by
  refine ZaB Tryz.func61 rfl rfl Tryz.ntmps61 rfl rfl rfl fun F hF => ?_;refine Zaf ?_;refine Zab ?_;refine Zaa.go (Zac rfl rfl) ?_;refine Zae ?_;refine Zaf ?_;refine Zaf ?_;refine Zab ?_;refine Zaa.go (Zad rfl rfl) ?_
  first | refine Zaa.go (ZaY rfl rfl) ?_ | refine Zaa.go (Zcd rfl rfl) ?_ | refine Zaa.go (st_nilCheckR rfl rfl) ?_
  first | refine Zaa.go (Zah rfl fi170_3 rfl rfl rfl) ?_ | refine Zaa.go (ZaH rfl fi170_3 rfl rfl rfl) ?_ | refine Zaa.go (ZaN rfl fi170_3 rfl rfl rfl) ?_ | refine Zaa.go (ZaW rfl fi170_3 rfl rfl rfl) ?_
  first | refine Zaa.go (Zas rfl rfl on168 rfl) ?_ | refine Zaa.go (Zai rfl rfl rfl on168 rfl) ?_ | refine Zaa.go (ZaI rfl rfl (rfl) rfl on168 rfl) ?_
  first | refine Zaa.go (Zax rfl Tryz.underlying168 rfl) ?_ | refine Zaa.go (Zbr rfl rfl Tryz.underlying168 rfl) ?_ | refine Zaa.go (Zbq rfl Tryz.underlying168 rfl) ?_ | refine Zaa.go (Zbj rfl Tryz.underlying168 rfl) ?_ | refine Zaa.go (Zbp rfl Tryz.underlying168 rfl) ?_
  refine Zaa.go (Zad rfl rfl) ?_;refine Zae ?_;refine Zaq ?_;refine a_loop (α := Nat) (fun k => ⟨44, [(0, .d (.ptr (smaD s))), (1, .d (u32D x)), (12, (.d (.sl none (s.rm.map intD)))), (13, (.d (intD (s.rm.length : Int)))), (14, (.d (intD (k : Int))))], []⟩) (fun k => k ≤ s.rm.length ∧ ∀ i, i < k → overS s x i = false) (fun k => s.rm.length - k) (0) (⟨Nat.zero_le _, fun i h => by omega⟩) (ZbE ⟨rfl, rfl, rfl, rfl, rfl, trivial⟩) ?_;rintro k ⟨hk0, hk⟩;refine Zaf ?_;refine Zab ?_
  first | refine Zaa.go (ZaK rfl rfl rfl) ?_ | refine Zaa.go (Zbm rfl rfl rfl) ?_
  refine Zae ?_;refine Zaf ?_
  first | refine ZaG rfl (fun h15 => ?_) (fun h15 => ?_) | refine Za1 rfl (fun h15 => ?_) (fun h15 => ?_)
  · have hk1 : k < s.rm.length := ZaM h15;refine Zap ?_;refine Zaf ?_;refine Zaq ?_;refine Zaf ?_;refine Zab ?_;refine Zaa.go (Zad rfl rfl) ?_;have hkd : k < s.de.length := by omega
    have hgd := Za5 0 hk1;have hge := Za5 ([] : List Int) hkd;have hrk := hrm _ (List.getElem_mem hk1);have hdk := hdl _ (List.getElem_mem hkd)
    first | refine Zaa.go (Zay (k) rfl rfl (rfl) (getm hk1) Tryz.underlying168 rfl sz2 rfl) ?_ | refine Zaa.go (Zbe (k) rfl rfl (rfl) (getm hk1) rfl Tryz.underlying168 sz2 rfl) ?_
    first | refine Zaa.go (Zas rfl rfl on2 rfl) ?_ | refine Zaa.go (Zai rfl rfl rfl on2 rfl) ?_ | refine Zaa.go (ZaI rfl rfl (rfl) rfl on2 rfl) ?_
    refine Zaa.go (Zac rfl rfl) ?_;refine Zaa.go (Zac rfl rfl) ?_;refine Zae ?_;refine Zaf ?_;refine Zaf ?_;refine Zab ?_;refine Zaa.go (Zad rfl rfl) ?_
    first | refine Zaa.go (ZaY rfl rfl) ?_ | refine Zaa.go (Zcd rfl rfl) ?_ | refine Zaa.go (st_nilCheckR rfl rfl) ?_
    first | refine Zaa.go (Zah rfl fi170_2 rfl rfl rfl) ?_ | refine Zaa.go (ZaH rfl fi170_2 rfl rfl rfl) ?_ | refine Zaa.go (ZaN rfl fi170_2 rfl rfl rfl) ?_ | refine Zaa.go (ZaW rfl fi170_2 rfl rfl rfl) ?_
    first | refine Zaa.go (Zas rfl rfl on167 rfl) ?_ | refine Zaa.go (Zai rfl rfl rfl on167 rfl) ?_ | refine Zaa.go (ZaI rfl rfl (rfl) rfl on167 rfl) ?_
    refine Zaa.go (Zad rfl rfl) ?_
    first | refine Zaa.go (Zay (k) rfl rfl (rfl) (getm hkd) Tryz.underlying167 rfl sz168 rfl) ?_ | refine Zaa.go (Zbe (k) rfl rfl (rfl) (getm hkd) rfl Tryz.underlying167 sz168 rfl) ?_
    first | refine Zaa.go (Zas rfl rfl on168 rfl) ?_ | refine Zaa.go (Zai rfl rfl rfl on168 rfl) ?_ | refine Zaa.go (ZaI rfl rfl (rfl) rfl on168 rfl) ?_
    first | refine Zaa.go (Zax rfl Tryz.underlying168 rfl) ?_ | refine Zaa.go (Zbr rfl rfl Tryz.underlying168 rfl) ?_ | refine Zaa.go (Zbq rfl Tryz.underlying168 rfl) ?_ | refine Zaa.go (Zbj rfl Tryz.underlying168 rfl) ?_ | refine Zaa.go (Zbp rfl Tryz.underlying168 rfl) ?_
    refine Zaa.go (Zad rfl rfl) ?_;refine Zae ?_;refine Zaq ?_;refine a_loop (α := Nat) (fun j => ⟨44, [(0, .d (.ptr (smaD s))), (1, .d (u32D x)), (6, (.d (intD (rowP x s.de[k] j s.rm[k])))), (12, (.d (.sl none (s.rm.map intD)))), (13, (.d (intD (s.rm.length : Int)))), (14, (.d (intD (k : Int)))), (25, (.d (.sl none (s.de[k].map intD)))), (26, (.d (intD (s.de[k].length : Int)))), (27, (.d (intD (j : Int))))], []⟩) (fun j => j ≤ s.de[k].length) (fun j => s.de[k].length - j) (0) (Nat.zero_le _) (ZbE ⟨rfl, rfl, rfl, rfl, rfl, rfl, rfl, rfl, rfl, trivial⟩) ?_;rintro j hj0;refine Zaf ?_;refine Zab ?_
    first | refine Zaa.go (ZaK rfl rfl rfl) ?_ | refine Zaa.go (Zbm rfl rfl rfl) ?_
    refine Zae ?_;refine Zaf ?_
    first | refine ZaG rfl (fun h28 => ?_) (fun h28 => ?_) | refine Za1 rfl (fun h28 => ?_) (fun h28 => ?_)
    · have hj1 : j < s.de[k].length := ZaM h28;refine Zap ?_;refine Zaf ?_;refine Zaq ?_;refine Zaf ?_;refine Zab ?_;refine Zaa.go (Zad rfl rfl) ?_;have hgj := Za5 0 hj1;have hpb := rowP_b (x := x) hdk.2 s.rm[k] j (by omega);have hvj := hdk.2 _ (List.getElem_mem hj1)
      first | refine Zaa.go (Zay (j) rfl rfl (rfl) (getm hj1) Tryz.underlying168 rfl sz2 rfl) ?_ | refine Zaa.go (Zbe (j) rfl rfl (rfl) (getm hj1) rfl Tryz.underlying168 sz2 rfl) ?_
      first | refine Zaa.go (Zas rfl rfl on2 rfl) ?_ | refine Zaa.go (Zai rfl rfl rfl on2 rfl) ?_ | refine Zaa.go (ZaI rfl rfl (rfl) rfl on2 rfl) ?_
      refine Zaa.go (Zac rfl rfl) ?_;refine Zaa.go (Zac rfl rfl) ?_;refine Zae ?_;refine Zaf ?_;refine Zab ?_;refine Zaa.go (Zad rfl rfl) ?_;refine Zaa.go (Zad rfl rfl) ?_;refine Zaa.go (st_shr rfl rfl (by omega) (shrU x j (by omega)) rfl) ?_;refine Zaa.go (st_bits rfl rfl rfl (and1U (shr_lt hx j)) rfl) ?_
      first | refine Zaa.go (Za6 rfl rfl rfl) ?_ | refine Zaa.go (ZaZ rfl rfl rfl) ?_ | refine Zaa.go (st_eqlS rfl rfl rfl) ?_ | refine Zaa.go (st_eqlB Tryz.underlying65 rfl rfl rfl) ?_ | refine Zaa.go (st_eqlP Tryz.underlying65 rfl rfl rfl) ?_ | refine Zaa.go (ZbY Tryz.underlying65 rfl rfl) ?_ | refine Zaa.go (st_eqlF Tryz.underlying65 rfl rfl rfl) ?_ | refine Zaa.go (Zce Tryz.underlying65 rfl rfl) ?_
      refine Zae ?_
      first | refine ZaG rfl (fun h36 => ?_) (fun h36 => ?_) | refine Za1 rfl (fun h36 => ?_) (fun h36 => ?_)
      · refine Zab ?_;refine Zaa.go (Zad rfl rfl) ?_;refine Zaa.go (Zad rfl rfl) ?_;refine Zaa.go (Zaz rfl rfl (IntWalk.i64_in _ (by omega)) rfl) ?_;refine Zaa.go (Zac rfl rfl) ?_;refine Zae ?_;refine Zab ?_;refine Zaa.go (Zaz rfl rfl (wrapS (j + 1) (by omega)) rfl) ?_;refine Zaa.go (Zad rfl rfl) ?_;refine Zae ?_
        first | exact ⟨j + 1, by show j + 1 ≤ _; omega, by show s.de[k].length - (j + 1) < s.de[k].length - j; omega, ⟨rfl, rfl, fun _ _ => Has.get (l := [(0, _), (1, _), (6, _), (12, _), (13, _), (14, _), (25, _), (26, _), (27, _)]) ⟨rfl, rfl, by rw [rowP_snoc, if_pos ((bit_iff x j).1 h36), hgj]; rfl, rfl, rfl, rfl, rfl, rfl, rfl, trivial⟩⟩⟩ | exact ⟨j + 1, by show j + 1 ≤ _; omega, by show s.de[k].length - (j + 1) < s.de[k].length - j; omega, ⟨rfl, rfl, fun _ _ => Has.get (l := [(0, _), (1, _), (6, _), (12, _), (13, _), (14, _), (25, _), (26, _), (27, _)]) ⟨rfl, rfl, by rw [rowP_snoc, if_neg (by rw [bit_no h36]; decide), Int.add_zero]; rfl, rfl, rfl, rfl, rfl, rfl, rfl, trivial⟩⟩⟩
      · refine Zap ?_;refine Zab ?_;refine Zaa.go (Zaz rfl rfl (wrapS (j + 1) (by omega)) rfl) ?_;refine Zaa.go (Zad rfl rfl) ?_;refine Zae ?_
        first | exact ⟨j + 1, by show j + 1 ≤ _; omega, by show s.de[k].length - (j + 1) < s.de[k].length - j; omega, ⟨rfl, rfl, fun _ _ => Has.get (l := [(0, _), (1, _), (6, _), (12, _), (13, _), (14, _), (25, _), (26, _), (27, _)]) ⟨rfl, rfl, by rw [rowP_snoc, if_pos ((bit_iff x j).1 h36), hgj]; rfl, rfl, rfl, rfl, rfl, rfl, rfl, trivial⟩⟩⟩ | exact ⟨j + 1, by show j + 1 ≤ _; omega, by show s.de[k].length - (j + 1) < s.de[k].length - j; omega, ⟨rfl, rfl, fun _ _ => Has.get (l := [(0, _), (1, _), (6, _), (12, _), (13, _), (14, _), (25, _), (26, _), (27, _)]) ⟨rfl, rfl, by rw [rowP_snoc, if_neg (by rw [bit_no h36]; decide), Int.add_zero]; rfl, rfl, rfl, rfl, rfl, rfl, rfl, trivial⟩⟩⟩
    · have hov1 : rowP x s.de[k] j s.rm[k] = s.rm[k] + rowS x s.de[k] := by have e : j = s.de[k].length := by { have h := h28; omega }; rw [e, rowP_eq]
      refine ZaQ ?_;refine Zaf ?_;refine Zab ?_;refine Zaa.go (Zad rfl rfl) ?_
      first | refine Zaa.go (ZaK rfl rfl rfl) ?_ | refine Zaa.go (Zbm rfl rfl rfl) ?_
      refine Zae ?_
      first | refine ZaG rfl (fun h42 => ?_) (fun h42 => ?_) | refine Za1 rfl (fun h42 => ?_) (fun h42 => ?_)
      · refine Zaf ?_;refine Zab ?_;refine Zaa.go (Zac rfl rfl) ?_;refine Zae ?_;refine Zao ?_;exact ⟨_, [], [], Zan rfl, rfl, rfl, retB3 (by unfold feaS; rw [any_yes hk1 (by unfold overS; rw [hgd, hge, ← hov1]; exact decide_eq_true h42)]; rfl), rfl⟩
      · refine Zap ?_;refine Zab ?_;have hov : overS s x k = false := by unfold overS; rw [hgd, hge, ← hov1]; exact decide_eq_false h42
        refine Zaa.go (Zaz rfl rfl (wrapS (k + 1) (by omega)) rfl) ?_;refine Zaa.go (Zad rfl rfl) ?_;refine Zae ?_;exact ⟨k + 1, ⟨by show k + 1 ≤ _; omega, fun i hi => by rcases Nat.lt_or_ge i k with h | h; exact hk i h; have e : i = k := by { omega }; subst e; exact hov⟩, by show s.rm.length - (k + 1) < s.rm.length - k; omega, ⟨rfl, rfl, fun _ _ => Has.get (l := [(0, _), (1, _), (12, _), (13, _), (14, _)]) ⟨rfl, rfl, rfl, rfl, rfl, trivial⟩⟩⟩
  · refine ZaQ ?_;refine Zaf ?_;refine Zab ?_;refine Zaa.go (Zac rfl rfl) ?_;refine Zae ?_;refine Zao ?_;exact ⟨_, [], [], Zan rfl, rfl, rfl, retB3 (by unfold feaS; rw [any_no hk (by have h := h15; omega)]; rfl), rfl⟩
def listS (s : Sma) (x : Nat) : List Int := ((List.range s.ids.length).filter fun i => x.testBit i).map fun i => s.ids.getD i 0
theorem listS_snoc (s : Sma) (x k : Nat) : (((List.range (k + 1)).filter fun i => x.testBit i).map fun i => s.ids.getD i 0) = (((List.range k).filter fun i => x.testBit i).map fun i => s.ids.getD i 0) ++ if x.testBit k = true then [s.ids.getD k 0] else [] := by
  rw [List.range_succ, List.filter_append, List.map_append]
  congr 1
  by_cases h : x.testBit k = true
  · rw [if_pos h]; simp [h]
  · rw [if_neg h]; simp [h]
set_option maxRecDepth 100000 in
theorem listS_p (s : Sma) (x : Nat) (hx : x < 4294967296) (hn : s.ids.length ≤ 32) : PCalls Tryz.prog 62 [.d (.ptr (smaD s)), .d (u32D x)] (.sl none ((listS s x).map intD)) := by
  refine ZaB Tryz.func62 rfl rfl Tryz.ntmps62 rfl rfl rfl fun F hF => ?_;refine Zaf ?_;refine Zab ?_;refine Zaa.go (Zac rfl rfl) ?_;refine Zae ?_;refine Zaf ?_;refine Zab ?_;refine Zaa.go (Zac rfl rfl) ?_;refine Zae ?_;refine Zaf ?_;refine Zaf ?_;refine a_adopt 5 900 sl26 rfl rfl rfl rfl ?_;refine Zab ?_;refine Zaa.go (Zad rfl rfl) ?_
  first | refine Zaa.go (ZaY rfl rfl) ?_ | refine Zaa.go (Zcd rfl rfl) ?_ | refine Zaa.go (st_nilCheckR rfl rfl) ?_
  first | refine Zaa.go (Zah rfl fi170_0 rfl rfl rfl) ?_ | refine Zaa.go (ZaH rfl fi170_0 rfl rfl rfl) ?_ | refine Zaa.go (ZaN rfl fi170_0 rfl rfl rfl) ?_ | refine Zaa.go (ZaW rfl fi170_0 rfl rfl rfl) ?_
  first | refine Zaa.go (Zas rfl rfl on26 rfl) ?_ | refine Zaa.go (Zai rfl rfl rfl on26 rfl) ?_ | refine Zaa.go (ZaI rfl rfl (rfl) rfl on26 rfl) ?_
  first | refine Zaa.go (Zax rfl Tryz.underlying26 rfl) ?_ | refine Zaa.go (Zbr rfl rfl Tryz.underlying26 rfl) ?_ | refine Zaa.go (Zbq rfl Tryz.underlying26 rfl) ?_ | refine Zaa.go (Zbj rfl Tryz.underlying26 rfl) ?_ | refine Zaa.go (Zbp rfl Tryz.underlying26 rfl) ?_
  refine Zaa.go (Zad rfl rfl) ?_;refine Zae ?_;refine Zaq ?_;refine ZaU (α := Nat × List Int) (fun q => ⟨29, [(1, .d (u32D x)), (5, (.own 900 0 q.2.length)), (11, (.d (.sl none (s.ids.map intD)))), (12, (.d (intD (s.ids.length : Int)))), (13, (.d (intD (q.1 : Int))))], [(900, [.rowD 3 1 (q.2.map intD)])]⟩) (fun q => q.1 ≤ s.ids.length ∧ q.2 = (((List.range q.1).filter fun i => x.testBit i).map fun i => s.ids.getD i 0) ∧ q.2.length ≤ q.1) (fun q => s.ids.length - q.1) ((0, [])) (⟨Nat.zero_le _, rfl, Nat.le_refl _⟩) (Zaw hF [900] rfl rfl ⟨rfl, rfl, rfl, rfl, rfl, trivial⟩) ?_;rintro ⟨k, acc⟩ ⟨hk0, hA, hL⟩;dsimp only at hk0 hA hL ⊢;refine Zaf ?_;refine Zab ?_
  first | refine Zaa.go (ZaK rfl rfl rfl) ?_ | refine Zaa.go (Zbm rfl rfl rfl) ?_
  refine Zae ?_;refine Zaf ?_
  first | refine ZaG rfl (fun h14 => ?_) (fun h14 => ?_) | refine Za1 rfl (fun h14 => ?_) (fun h14 => ?_)
  · have hk1 : k < s.ids.length := ZaM h14;refine Zap ?_;refine Zaf ?_;refine Zaq ?_;refine Zaf ?_;refine Zab ?_;refine Zaa.go (Zad rfl rfl) ?_;have hgd := Za5 0 hk1
    first | refine Zaa.go (Zay (k) rfl rfl (rfl) (getm hk1) Tryz.underlying26 rfl sz3 rfl) ?_ | refine Zaa.go (Zbe (k) rfl rfl (rfl) (getm hk1) rfl Tryz.underlying26 sz3 rfl) ?_
    first | refine Zaa.go (Zas rfl rfl on3 rfl) ?_ | refine Zaa.go (Zai rfl rfl rfl on3 rfl) ?_ | refine Zaa.go (ZaI rfl rfl (rfl) rfl on3 rfl) ?_
    refine Zaa.go (Zac rfl rfl) ?_;refine Zaa.go (Zac rfl rfl) ?_;refine Zae ?_;refine Zaf ?_;refine Zab ?_;refine Zaa.go (Zad rfl rfl) ?_;refine Zaa.go (Zad rfl rfl) ?_;refine Zaa.go (st_shr rfl rfl (by omega) (shrU x k (by omega)) rfl) ?_;refine Zaa.go (st_bits rfl rfl rfl (and1U (shr_lt hx k)) rfl) ?_
    first | refine Zaa.go (Za6 rfl rfl rfl) ?_ | refine Zaa.go (ZaZ rfl rfl rfl) ?_ | refine Zaa.go (st_eqlS rfl rfl rfl) ?_ | refine Zaa.go (st_eqlB Tryz.underlying65 rfl rfl rfl) ?_ | refine Zaa.go (st_eqlP Tryz.underlying65 rfl rfl rfl) ?_ | refine Zaa.go (ZbY Tryz.underlying65 rfl rfl) ?_ | refine Zaa.go (st_eqlF Tryz.underlying65 rfl rfl rfl) ?_ | refine Zaa.go (Zce Tryz.underlying65 rfl rfl) ?_
    refine Zae ?_
    first | refine ZaG rfl (fun h22 => ?_) (fun h22 => ?_) | refine Za1 rfl (fun h22 => ?_) (fun h22 => ?_)
    · refine Zab ?_;refine Zaa.go (Zad rfl rfl) ?_;refine Zaa.go (Zad rfl rfl) ?_;refine Zal.go (ZaJ 1 sl26 rfl rfl rfl rfl rfl rfl rfl rfl) ?_
      first | refine Zal.go (Zbn (acc) ([s.ids[k]]) rfl rfl rfl rfl rfl rfl rfl rfl sl26 (by simp only [List.length_singleton]; omega) rfl rfl rfl rfl) ?_ | refine Zal.go (Zbz (acc) ([s.ids[k]]) rfl rfl rfl rfl rfl rfl (fun _ => rfl) sl26 (by simp only [List.length_singleton]; omega) rfl rfl rfl rfl) ?_
      refine Zaa.go (Zac rfl rfl) ?_;refine Zae ?_;refine Zab ?_;refine Zaa.go (Zaz rfl rfl (wrapS (k + 1) (by omega)) rfl) ?_;refine Zaa.go (Zad rfl rfl) ?_;refine Zae ?_;exact ⟨(k + 1, acc ++ [s.ids[k]]), ⟨by show k + 1 ≤ _; omega, by show acc ++ [s.ids[k]] = _; rw [listS_snoc, if_pos ((bit_iff x k).1 h22), hgd, ← hA], by show (acc ++ [s.ids[k]]).length ≤ k + 1; rw [List.length_append]; simp; omega⟩, by show s.ids.length - (k + 1) < s.ids.length - k; omega, Zaw hF [900] rfl (rfl) ⟨rfl, rfl, rfl, rfl, rfl, trivial⟩⟩
    · refine Zap ?_;refine Zab ?_;refine Zaa.go (Zaz rfl rfl (wrapS (k + 1) (by omega)) rfl) ?_;refine Zaa.go (Zad rfl rfl) ?_;refine Zae ?_;exact ⟨(k + 1, acc), ⟨by show k + 1 ≤ _; omega, by show acc = _; rw [listS_snoc, if_neg (by rw [bit_no h22]; decide), List.append_nil, ← hA], by show acc.length ≤ k + 1; omega⟩, by show s.ids.length - (k + 1) < s.ids.length - k; omega, Zaw hF [900] rfl (rfl) ⟨rfl, rfl, rfl, rfl, rfl, trivial⟩⟩
  · refine ZaQ ?_;refine Zaf ?_;have hfa : acc = listS s x := by rw [hA]; have e : k = s.ids.length := by { have h := h14; omega }; rw [e]; rfl
    refine Zb3 (emb := intD) 5 900 acc rfl rfl rfl rfl rfl rfl rfl ?_;refine Zab ?_;refine Zaa.go (Zad rfl rfl) ?_;refine Zaa.go (Zac rfl rfl) ?_;refine Zae ?_;refine Zao ?_;exact ⟨_, [], [], Zan rfl, rfl, rfl, by rw [hfa], rfl⟩
end Go.Proofs.YtnamabifclidmaaGreat
/- Layer 29: the enumeration of sets. -/
namespace Go.Proofs.YtnamabifclidmaaGreat
open Go.RowKit

def enumX (n : Nat) : Nat → Nat → Nat → List Nat
  | 0, _, x => [x]
  | l + 1, frm, x => ((List.range (n + 1 - (l + 1) - frm)).map (frm + ·)).flatMap fun i => enumX n l (i + 1) (x ||| 1 <<< i)
section
variable {β : Type} (step : β → Nat → β × Bool)
def feedB : β → List Nat → Bool
  | _, [] => true
  | b, x :: r => match step b x with
    | (b', true) => feedB b' r
    | (_, false) => false
theorem feedB_cons {b : β} {x : Nat} {r : List Nat} : feedB step b (x :: r) = ((step b x).2 && feedB step (step b x).1 r) := by
  simp only [feedB]
  generalize step b x = y
  obtain ⟨y1, y2⟩ := y
  cases y2 <;> rfl
theorem feed_app2 : ∀ (b : β) (l m : List Nat), feed step b (l ++ m) = bif feedB step b l then feed step (feed step b l) m else feed step b l
  | b, [], m => rfl
  | b, x :: l, m => by
    rw [List.cons_append, ZbA, ZbA, feedB_cons]
    by_cases h : (step b x).2 = true
    · rw [if_pos h, if_pos h, h, Bool.true_and]; exact feed_app2 _ l m
    · have h' : (step b x).2 = false := by simpa using h
      rw [if_neg h, if_neg h, h', Bool.false_and]; rfl
theorem feedB_app : ∀ (b : β) (l m : List Nat), feedB step b (l ++ m) = (feedB step b l && feedB step (feed step b l) m)
  | b, [], m => rfl
  | b, x :: l, m => by
    rw [List.cons_append, ZbA, feedB_cons, feedB_cons]
    by_cases h : (step b x).2 = true
    · rw [if_pos h, h, Bool.true_and, Bool.true_and]; exact feedB_app _ l m
    · have h' : (step b x).2 = false := by simpa using h
      rw [h']; rfl
theorem Feeds_app1 {P : Program} {l : Nat} {enc : Nat → List AV} {H : β → Hp} : ∀ {b : β} {r m : List Nat}, Feeds P l enc H step b (r ++ m) → Feeds P l enc H step b r
  | _, [], _, _ => trivial
  | _, _ :: _, _, h => ⟨h.1, fun hg => Feeds_app1 (h.2 hg)⟩
theorem Feeds_app2 {P : Program} {l : Nat} {enc : Nat → List AV} {H : β → Hp} : ∀ {b : β} {r m : List Nat}, Feeds P l enc H step b (r ++ m) → feedB step b r = true → Feeds P l enc H step (feed step b r) m
  | _, [], _, h, _ => h
  | b, x :: r, m, h, hb => by
    rw [feedB_cons] at hb
    by_cases hg : (step b x).2 = true
    · rw [hg, Bool.true_and] at hb;rw [ZbA, if_pos hg];exact Feeds_app2 (h.2 hg) hb
    · have h' : (step b x).2 = false := by simpa using hg
      rw [h'] at hb; cases hb
end
theorem hpIn_mono {nm nm' : List Nat} (h : ∀ f, f ∈ nm → f ∈ nm') : ∀ {H : Hp}, hpIn nm H = true → hpIn nm' H = true := by
  have hm : ∀ f, memB f nm = true → memB f nm' = true := fun f hf => ZaV.2 (h f (ZaV.1 hf))
  have ho : ∀ (l : List AObj), objsIn nm l = true → objsIn nm' l = true := by
    intro l
    induction l with
    | nil => intro _; rfl
    | cons o r ih =>
      intro hr
      cases o with
      | blk t cs =>
        simp only [objsIn, Bool.and_eq_true] at hr ⊢;refine ⟨?_, ih hr.2⟩
        have key : ∀ l : List AV, okC (inNm nm) l = true → okC (inNm nm') l = true := by
          intro l
          induction l with
          | nil => intro _; rfl
          | cons a l ihl =>
            intro hq;simp only [okC, Bool.and_eq_true] at hq ⊢;exact ⟨AV.ok_mono (fun f _ hf => hm f hf) hq.1, ihl hq.2⟩
        exact key _ hr.1
      | row t k xs =>
        simp only [objsIn, Bool.and_eq_true, List.all_eq_true] at hr ⊢;exact ⟨fun x hx => okL_mono (fun f _ hf => hm f hf) (hr.1 x hx), ih hr.2⟩
      | rowD t k xs => simp only [objsIn] at hr ⊢; exact ih hr
      | loop L =>
        simp only [objsIn, Bool.and_eq_true] at hr ⊢;refine ⟨?_, ih hr.2⟩
        have key : ∀ e : List (Nat × AV), okEnv (inNm nm) e = true → okEnv (inNm nm') e = true := by
          intro e
          induction e with
          | nil => intro _; rfl
          | cons q e ihe =>
            obtain ⟨t, a⟩ := q;intro hq;simp only [okEnv, Bool.and_eq_true] at hq ⊢;exact ⟨AV.ok_mono (fun f _ hf => hm f hf) hq.1, ihe hq.2⟩
        exact key _ hr.1
      | map bs es => simp only [objsIn] at hr ⊢; exact ih hr
      | iter f i c seen => simp only [objsIn, Bool.and_eq_true] at hr ⊢; exact ⟨hm _ hr.1, ih hr.2⟩
      | addr f i v => simp only [objsIn, Bool.and_eq_true] at hr ⊢; exact ⟨hm _ hr.1, ih hr.2⟩
      | any => simp only [objsIn] at hr ⊢; exact ih hr
  intro H
  induction H with
  | nil => intro _; rfl
  | cons q r ih =>
    obtain ⟨f, l⟩ := q;intro hh;simp only [hpIn, Bool.and_eq_true] at hh ⊢;exact ⟨ho _ hh.1, ih hh.2⟩
theorem rest?_cons {nm : List Nat} {f : Nat} {x : List AObj} {H : Hp} (hf : memB f nm = false) (hH : rest? nm H = some []) : rest? nm ((f, x) :: H) = some [(f, x)] := by
  simp only [rest?, hH, hf]
end Go.Proofs.YtnamabifclidmaaGreat
/- Layer 29: the enumeration of sets, walked. -/
namespace Go.Proofs.YtnamabifclidmaaGreat
open Go.RowKit

abbrev cS (s : Sma) : AV := .d (.ptr (.ptr (smaD s)))
abbrev cY (l : Nat) : AV := .d (.ptr (.raw (yieldV l)))
abbrev fnX (s : Sma) (l : Nat) : AV := .fn 86 [cS s, cY l, .ptr 980 0 0]
abbrev blkX (s : Sma) (l : Nat) : Nat × List AObj := (980, [.blk 165 [fnX s l]])
abbrev HX (s : Sma) (l : Nat) (h : Hp) : Hp := blkX s l :: h
def encU (x : Nat) : List AV := [.d (u32D x)]
theorem hfam_snoc {f g : Nat} {x : List AObj} (hg : g ≠ f) : ∀ H : Hp, hfam (H ++ [(f, x)]) g = hfam H g
  | [] => by simp only [List.nil_append, hfam, Za7 (Ne.symm hg)]
  | (k, y) :: H => by
    simp only [List.cons_append, hfam, hfam_snoc hg H]
theorem hfam_snoc_self {f : Nat} {x : List AObj} : ∀ {H : Hp}, hfam H f = none → hfam (H ++ [(f, x)]) f = some x
  | [], _ => by simp only [List.nil_append, hfam, Nat.beq_refl]
  | (k, y) :: H, h => by
    simp only [hfam] at h;simp only [List.cons_append, hfam]
    cases hk : Nat.beq k f with
    | true => rw [hk] at h; cases h
    | false => rw [hk] at h; exact hfam_snoc_self h
theorem hfam_none {H : Hp} {f : Nat} (h : memB f (hpN H) = false) : hfam H f = none := by
  cases hh : hfam H f with
  | none => rfl
  | some l =>
    have := ZaV.2 (hpN_mem hh);rw [h] at this; cases this
theorem part_snoc {f : Nat} {x : List AObj} {H : Hp} {N : List Nat} (hN : hpN H = N) (hP : part? H N = some H) (hm : memB f N = false) : part? (H ++ [(f, x)]) (f :: N) = some ((f, x) :: H) := by
  have key : ∀ M : List Nat, memB f M = false → part? (H ++ [(f, x)]) M = part? H M := by
    intro M
    induction M with
    | nil => intro _; rfl
    | cons g M ih =>
      intro h;simp only [memB, Bool.or_eq_false_iff] at h
      have hne : g ≠ f := fun e => by
        have := h.1; rw [e] at this
        first | (rw [Nat.beq_refl] at this; cases this) | simp at this
      simp only [part?, ih h.2, hfam_snoc hne]
  have h1 := hfam_snoc_self (x := x) (hfam_none (H := H) (f := f) (by rw [hN]; exact hm));simp only [part?, key N hm, hP, h1]
theorem filter_flat {α β : Type} (p : β → Bool) (f : α → List β) : ∀ l : List α, (l.flatMap f).filter p = l.flatMap fun a => (f a).filter p
  | [] => rfl
  | a :: l => by rw [List.flatMap_cons, List.filter_append, List.flatMap_cons, filter_flat p f l]
theorem keep980 {s : Sma} {l : Nat} {CH : Hp} {N : List Nat} (hm : memB 980 N = false) : keepH? (okRef CH N) [blkX s l] = some [blkX s l] := by
  have h : okRef CH N 980 0 = true := by unfold okRef; rw [hm]; rfl
  simp only [keepH?, keepOs?, keepO?, keepL?, AV.ok, okL, AV.okS, h, Bool.and_true]
theorem fams980 {s : Sma} {l : Nat} {h : Hp} {N : List Nat} (hm : memB 980 N = false) : FamsEq (HX s l h) h N := Zb9 fun g hg => by
  have hne : 980 ≠ g := fun e => by
    have := ZaV.2 hg;rw [← e, hm] at this; cases this
  simp only [hfam, Za7 hne]
section
variable {β : Type}
set_option maxRecDepth 100000 in
theorem ext_c (s : Sma) (hbl : ∀ b ∈ s.bl, b < 4294967296) (hbn : s.bl.length ≤ 32) (hn : s.ids.length ≤ 31) (l : Nat) (H : β → Hp) (N : List Nat) (step : β → Nat → β × Bool) (hN : ∀ st, hpN (H st) = N) (hI : ∀ st, hpIn N (H st) = true) (hP : ∀ st, part? (H st) N = some (H st)) (hm : memB 980 N = false) :
    ∀ (left frm x : Nat) (st0 : β), frm ≤ 32 → left ≤ 32 → x < 4294967296 → Feeds Tryz.prog l encU H step st0 ((enumX s.ids.length left frm x).filter (admS s)) →
    ACalls Tryz.prog 86 [.d (u32D x), .d (intD (frm : Int)), .d (intD (left : Int)), cS s, cY l, .ptr 980 0 0] (HX s l (H st0)) fun r H' => r = .d (boolD (feedB step st0 ((enumX s.ids.length left frm x).filter (admS s)))) ∧ H' = HX s l (H (feed step st0 ((enumX s.ids.length left frm x).filter (admS s)))) := by
  have x1 : ∀ st, namesIn (980 :: N) (HX s l (H st)) = true := fun st => by have h := ZbK (HX s l (H st)); rw [show hpN (HX s l (H st)) = 980 :: N from by show 980 :: hpN (H st) = _; rw [hN]] at h; exact h
  have x2 : ∀ st, rest? (980 :: N) (HX s l (H st)) = some [] := fun st => by have h := rest?_all (HX s l (H st)); rw [show hpN (HX s l (H st)) = 980 :: N from by show 980 :: hpN (H st) = _; rw [hN]] at h; exact h
  have x3 : ∀ st, hpIn (980 :: N) (HX s l (H st)) = true := fun st => by
    have h := hpIn_mono (nm := N) (nm' := 980 :: N) (fun f hf => List.mem_cons_of_mem _ hf) (hI st);simp only [hpIn, h, Bool.and_true]; rfl
  have x4 : ∀ st, part? (HX s l (H st)) (980 :: N) = some (HX s l (H st)) := fun st => by
    have h := (partN (x := [.blk 165 [fnX s l]]) hm).trans (hP st);simp only [part?, h]; rfl
  have x5 : ∀ st, namesIn N (H st) = true := fun st => by have h := ZbK (H st); rw [hN] at h; exact h
  have x6 : ∀ st, rest? N (HX s l (H st)) = some [blkX s l] := fun st => rest?_cons hm (by have h := rest?_all (H st); rw [hN] at h; exact h);intro left
  induction left with
  | zero =>
    intro frm x st0 hfr _ hx hfd;have hadm := admS_p s x hx hbl hbn
    cases ha : admS s x with
    | true =>
      have hL : ([x].filter (admS s)) = [x] := by simp [ha]
      rw [show enumX s.ids.length 0 frm x = [x] from rfl, hL] at hfd ⊢;rw [ha] at hadm;have hfb : feedB step st0 [x] = (step st0 x).2 := by rw [feedB_cons]; simp [feedB]
      have hfe : feed step st0 [x] = (step st0 x).1 := by rw [ZbA]; split <;> rfl
      rw [hfb, hfe];refine ZaB Tryz.func86 rfl rfl Tryz.ntmps86 rfl rfl rfl fun F hF => ?_;refine Zaf ?_;refine Zab ?_;refine Zaa.go (Zac rfl rfl) ?_;refine Zae ?_;refine Zaf ?_;refine Zaf ?_;refine Zab ?_;refine Zaa.go (Zad rfl rfl) ?_;refine Zaa.go (Za6 rfl rfl rfl) ?_;refine Zae ?_;refine ZaS rfl (rfl) ?_;refine Zaf ?_;refine Zab ?_;refine Zaa.go (Zas rfl rfl on124 rfl) ?_;refine Zaa.go (Zad rfl rfl) ?_;refine Zaa.go (Zau (hadm) rfl rfl) ?_;refine Zaa.go (Zbu rfl rfl) ?_;refine Zaa.go (Zad rfl rfl) ?_;refine o_setF 17 rfl (rfl) ?_;refine Zam rfl rfl rfl ?_;refine Zaa.go (Zas rfl rfl on130 rfl) ?_;refine Zam rfl rfl rfl ?_;refine Zaa.go (Zad rfl rfl) ?_;refine o_keep [9, 17, 18, 19] rfl ?_;refine Zam rfl rfl rfl ?_;refine o_yieldX rfl rfl hfd.1 N (fams980 hm) (x5 st0) (x6 st0) rfl (keep980 hm) (fun r H' ⟨e1, e2⟩ => by subst e1 e2; exact ⟨x5 _, hI _, rfl⟩) rfl fun r H' ⟨e1, e2⟩ => ?_; subst e1 e2;refine Zaa.go (ZaC rfl rfl rfl rfl) ?_;refine Zaa.go (Zac rfl rfl) ?_;refine Zae ?_;refine Zao ?_;exact ⟨_, 980 :: N, _, Zan rfl, part_snoc (hN _) (hP _) hm, x1 _, rfl, rfl⟩
    | false =>
      have hL : ([x].filter (admS s)) = [] := by simp [ha]
      rw [show enumX s.ids.length 0 frm x = [x] from rfl, hL] at hfd ⊢;rw [ha] at hadm;refine ZaB Tryz.func86 rfl rfl Tryz.ntmps86 rfl rfl rfl fun F hF => ?_;refine Zaf ?_;refine Zab ?_;refine Zaa.go (Zac rfl rfl) ?_;refine Zae ?_;refine Zaf ?_;refine Zaf ?_;refine Zab ?_;refine Zaa.go (Zad rfl rfl) ?_;refine Zaa.go (Za6 rfl rfl rfl) ?_;refine Zae ?_;refine ZaS rfl (rfl) ?_;refine Zaf ?_;refine Zab ?_;refine Zaa.go (Zas rfl rfl on124 rfl) ?_;refine Zaa.go (Zad rfl rfl) ?_;refine Zaa.go (Zau (hadm) rfl rfl) ?_;refine Zaa.go (Zbu rfl rfl) ?_;refine Zaa.go (Zad rfl rfl) ?_;refine ZbS 17 rfl (rfl) ?_;refine Zak rfl rfl rfl rfl ?_;refine Zak rfl rfl rfl rfl ?_;refine Zak rfl rfl rfl rfl ?_;refine Zaa.go (Zav rfl rfl rfl rfl) ?_;refine Zaa.go (Zac rfl rfl) ?_;refine Zae ?_;refine Zao ?_;exact ⟨_, 980 :: N, _, Zan rfl, x4 _, x1 _, rfl, rfl⟩
  | succ left ih =>
    intro frm x st0 hfr hle hx hfd
    obtain ⟨cnt, hcnt⟩ : ∃ c, s.ids.length + 1 - (left + 1) - frm = c := ⟨_, rfl⟩
    obtain ⟨pos, hpos⟩ : ∃ c, (List.range cnt).map (frm + ·) = c := ⟨_, rfl⟩
    obtain ⟨f, hf⟩ : ∃ g : Nat → List Nat, (fun i => (enumX s.ids.length left (i + 1) (x ||| 1 <<< i)).filter (admS s)) = g := ⟨_, rfl⟩
    have hLL : (enumX s.ids.length (left + 1) frm x).filter (admS s) = pos.flatMap f := by
      show ((((List.range (s.ids.length + 1 - (left + 1) - frm)).map (frm + ·)).flatMap fun i => enumX s.ids.length left (i + 1) (x ||| 1 <<< i))).filter (admS s) = _;rw [filter_flat, hcnt, hpos, hf]
    have hpl : pos.length = cnt := by rw [← hpos]; simp
    have hpk : ∀ k, k < cnt → (pos.drop k).flatMap f = f (frm + k) ++ (pos.drop (k + 1)).flatMap f := fun k hk => by
      have hk' : k < pos.length := by rw [hpl]; exact hk
      rw [List.drop_eq_getElem_cons hk', List.flatMap_cons]
      congr 2
      subst hpos; simp
    have ih' : ∀ (k : Nat) (st : β), frm + k < 32 → Feeds Tryz.prog l encU H step st (f (frm + k)) → ACalls Tryz.prog 86 [.d (u32D (x ||| 1 <<< (frm + k))), .d (intD ((frm + k + 1 : Nat) : Int)), .d (intD (left : Int)), cS s, cY l, .ptr 980 0 0] (HX s l (H st)) fun r H' => r = .d (boolD (feedB step st (f (frm + k)))) ∧ H' = HX s l (H (feed step st (f (frm + k)))) := fun k st h1 h2 => by
      rw [← hf] at h2 ⊢;exact ih (frm + k + 1) (x ||| 1 <<< (frm + k)) st (by omega) (by omega) (or_lt hx (shl_lt h1)) h2
    rw [hLL] at hfd ⊢;refine ZaB Tryz.func86 rfl rfl Tryz.ntmps86 rfl rfl rfl fun F hF => ?_;refine Zaf ?_;refine Zab ?_;refine Zaa.go (Zac rfl rfl) ?_;refine Zae ?_;refine Zaf ?_;refine Zaf ?_;refine Zab ?_;refine Zaa.go (Zad rfl rfl) ?_;refine Zaa.go (Za6 rfl rfl rfl) ?_;refine Zae ?_;refine ZaX rfl ((decide_eq_false (by omega))) ?_;refine Zap ?_;refine Zaf ?_;refine Zaf ?_;refine Zab ?_;refine Zaa.go (Zad rfl rfl) ?_;refine Zaa.go (Zac rfl rfl) ?_;refine Zae ?_;refine Zaq ?_;refine a_loop (α := Nat × β) (fun q => ⟨45, [(0, .d (u32D x)), (2, .d (intD ((left + 1 : Nat) : Int))), (3, cS s), (5, .ptr 980 0 0), (10, (.d (intD ((frm + q.1 : Nat) : Int))))], HX s l (H q.2)⟩) (fun q => q.1 ≤ cnt ∧ Feeds Tryz.prog l encU H step q.2 ((pos.drop q.1).flatMap f) ∧ feed step q.2 ((pos.drop q.1).flatMap f) = feed step st0 (pos.flatMap f) ∧ feedB step q.2 ((pos.drop q.1).flatMap f) = feedB step st0 (pos.flatMap f)) (fun q => cnt - q.1) ((0, st0)) (⟨Nat.zero_le _, hfd, rfl, rfl⟩) (ZbE ⟨rfl, rfl, rfl, rfl, rfl, trivial⟩) ?_;rintro ⟨k, st⟩ ⟨hk0, hfk, hfin, hfb⟩;dsimp only at hk0 hfk hfin hfb ⊢;refine Zaf ?_;refine Zaf ?_;refine Zab ?_;refine Zaa.go (Zad rfl rfl) ?_;refine Zaa.go (Zas rfl rfl on124 rfl) ?_;refine Zaa.go (Zcd rfl rfl) ?_;refine Zaa.go (ZaH rfl fi170_0 rfl rfl rfl) ?_;refine Zaa.go (Zas rfl rfl on26 rfl) ?_;refine Zaa.go (Zax rfl Tryz.underlying26 rfl) ?_;refine Zaa.go (Zad rfl rfl) ?_;refine Zaa.go (st_sub rfl rfl (IntWalk.i64_in _ (by omega)) rfl) ?_;refine Zaa.go (st_leq rfl rfl rfl) ?_;refine Zae ?_;refine ZaG rfl (fun h31 => ?_) (fun h31 => ?_)
    · have hk1 : k < cnt := by have h := h31; omega
      refine Zap ?_;refine Zaf ?_;refine Zaq ?_;refine Zaf ?_;refine Za4 [[], [], [], [2], [1, 2, 3], [], [5], [], [7], [0, 1, 2, 3, 4, 5, 6, 7, 8], [0, 1, 2, 3, 4, 5, 6, 7, 8, 9]] mixed rfl ?_;refine dws ?_;have hA := hpk k hk1;have hfk2 := hfk;rw [hA] at hfk2;have h32 : frm + k < 32 := by omega
      refine Zaj [5] [980] rfl rfl (fun _ => Zag (Zai rfl rfl rfl on165 rfl)) ?_;refine Zaj [0] [] rfl rfl (fun _ => Zag (Zad rfl rfl)) ?_;refine Zaj [10] [] rfl rfl (fun _ => Zag (Zad rfl rfl)) ?_;refine Zaj [36] [] rfl rfl (fun _ => Zag (st_shl rfl rfl (by omega) (shl1U h32) rfl)) ?_;refine Zaj [35, 37] [] rfl rfl (fun _ => Zag (st_bits rfl rfl rfl (orU hx (shl_lt h32)) rfl)) ?_;refine Zaj [10] [] rfl rfl (fun _ => Zag (Zad rfl rfl)) ?_;refine Zaj [39] [] rfl rfl (fun _ => Zag (Zaz rfl rfl (wrapS (frm + k + 1) (by omega)) rfl)) ?_;refine Zaj [2] [] rfl rfl (fun _ => Zag (Zad rfl rfl)) ?_;refine Zaj [41] [] rfl rfl (fun _ => Zag (st_sub rfl rfl (show IntKind.i64.wrap (((left + 1 : Nat) : Int) - 1) = ((left : Nat) : Int) from by rw [show (((left + 1 : Nat) : Int) - 1) = (left : Int) by omega]; exact wrapS left (by omega)) rfl)) ?_;refine dwc 9 rfl rfl rfl ?_;refine dw1 10 rfl rfl ?_;refine Zal.go (st_callVD (ih' k st h32 (Feeds_app1 step hfk2)) rfl (980 :: N) (Zb9 fun _ _ => rfl) (x1 st) (x2 st) rfl rfl (x1 _) (x3 _) rfl rfl rfl) ?_;rw [List.append_nil];refine Zae ⟨rfl, ?_⟩;refine dw1 11 rfl rfl ?_;refine Zaa.go (Zbu rfl rfl) ?_;refine Zae ⟨rfl, ?_⟩;refine dwe ?_;refine Za1 rfl (fun h44 => ?_) (fun h44 => ?_)
      · have hgo : feedB step st (f (frm + k)) = false := by simpa using h44
        refine Zaf ?_;refine Zab ?_;refine Zaa.go (Zac rfl rfl) ?_;refine Zae ?_;refine Zao ?_;exact ⟨_, 980 :: N, _, Zan rfl, x4 _, x1 _, retB3 (by rw [← hfb, hA, feedB_app, hgo]; rfl), by rw [← hfin, hA, feed_app2, hgo]; rfl⟩
      · have hgo : feedB step st (f (frm + k)) = true := by simpa using h44
        refine Zap ?_;refine Zab ?_;refine Zaa.go (Zad rfl rfl) ?_;refine Zaa.go (Zaz rfl rfl (wrapS (frm + k + 1) (by omega)) rfl) ?_;refine Zaa.go (Zac rfl rfl) ?_;refine Zae ?_;exact ⟨(k + 1, feed step st (f (frm + k))), ⟨by show k + 1 ≤ _; omega, Feeds_app2 step hfk2 hgo, by rw [← hfin, hA, feed_app2, hgo]; rfl, by rw [← hfb, hA, feedB_app, hgo]; rfl⟩, by show cnt - (k + 1) < cnt - k; omega, ⟨rfl, rfl, fun _ _ => Has.get (l := [(0, _), (2, _), (3, _), (5, _), (10, _)]) ⟨rfl, rfl, rfl, rfl, rfl, trivial⟩⟩⟩
    · have hk1 : ¬ k < cnt := by have h := h31; omega
      refine ZaQ ?_;refine Zaf ?_;refine Zab ?_;refine Zaa.go (Zac rfl rfl) ?_;refine Zae ?_;refine Zao ?_;exact ⟨_, 980 :: N, _, Zan rfl, x4 _, x1 _, retB3 (by rw [← hfb, List.drop_of_length_le (by omega)]; rfl), by rw [← hfin, List.drop_of_length_le (by omega)]; rfl⟩
def allX (s : Sma) : List Nat := (List.range (s.ids.length + 1)).flatMap fun k => (enumX s.ids.length k 0 0).filter (admS s)
set_option maxRecDepth 100000 in
theorem setsF_c (s : Sma) (hbl : ∀ b ∈ s.bl, b < 4294967296) (hbn : s.bl.length ≤ 32) (hn : s.ids.length ≤ 31) (l : Nat) (H : β → Hp) (N : List Nat) (step : β → Nat → β × Bool) (st0 : β) (hN : ∀ st, hpN (H st) = N) (hI : ∀ st, hpIn N (H st) = true) (hP : ∀ st, part? (H st) N = some (H st)) (hm : memB 980 N = false) (hm2 : memB 981 N = false)
    (hk : ∀ st, killH? 980 (H st) = some (H st)) (hk2 : ∀ st, killH? 981 (H st) = some (H st)) (hfe : Feeds Tryz.prog l encU H step st0 (allX s)) :
    ACalls Tryz.prog 85 [.d (.raw (yieldV l)), cS s] (H st0) fun r H' => r = .tup [] ∧ H' = H (feed step st0 (allX s)) := by
  have hz : ∀ st, hfam (H st) 980 = none := fun st => hfam_none (by rw [hN]; exact hm);have hz2 : ∀ st, hfam (H st) 981 = none := fun st => hfam_none (by rw [hN]; exact hm2);have hext := fun k st => ext_c s hbl hbn hn l H N step hN hI hP hm k 0 0 st (by omega);have x1 : ∀ st, namesIn (980 :: N) (HX s l (H st)) = true := fun st => by have h := ZbK (HX s l (H st)); rw [show hpN (HX s l (H st)) = 980 :: N from by show 980 :: hpN (H st) = _; rw [hN]] at h; exact h
  have x2 : ∀ st, rest? (980 :: N) (HX s l (H st)) = some [] := fun st => by have h := rest?_all (HX s l (H st)); rw [show hpN (HX s l (H st)) = 980 :: N from by show 980 :: hpN (H st) = _; rw [hN]] at h; exact h
  have x3 : ∀ st, hpIn (980 :: N) (HX s l (H st)) = true := fun st => by
    have h := hpIn_mono (nm := N) (nm' := 980 :: N) (fun f hf => List.mem_cons_of_mem _ hf) (hI st);simp only [hpIn, h, Bool.and_true]; rfl
  have x5 : ∀ st, namesIn N (H st) = true := fun st => by have h := ZbK (H st); rw [hN] at h; exact h
  have x8 : ∀ st, part? (HX s l (H st)) N = some (H st) := fun st => (partN hm).trans (hP st)
  obtain ⟨f, hf⟩ : ∃ g : Nat → List Nat, (fun k => (enumX s.ids.length k 0 0).filter (admS s)) = g := ⟨_, rfl⟩
  have hall : allX s = (List.range (s.ids.length + 1)).flatMap f := by unfold allX; rw [hf]
  have hext' : ∀ k st, k ≤ 32 → Feeds Tryz.prog l encU H step st (f k) → ACalls Tryz.prog 86 [.d (u32D 0), .d (intD ((0 : Nat) : Int)), .d (intD (k : Int)), cS s, cY l, .ptr 980 0 0] (HX s l (H st)) fun r H' => r = .d (boolD (feedB step st (f k))) ∧ H' = HX s l (H (feed step st (f k))) := fun k st h1 h2 => by
    rw [← hf] at h2 ⊢;exact hext k st h1 (by omega) h2
  have hrk : ∀ k, k < s.ids.length + 1 → ((List.range (s.ids.length + 1)).drop k).flatMap f = f k ++ ((List.range (s.ids.length + 1)).drop (k + 1)).flatMap f := fun k hk => by
    rw [List.drop_eq_getElem_cons (by simpa using hk), List.flatMap_cons, List.getElem_range]
  rw [hall] at hfe ⊢;refine ZaB Tryz.func85 rfl rfl Tryz.ntmps85 rfl rfl rfl fun F hF => ?_;refine Zaf ?_;refine Zab ?_;refine Zal.go (ZaP 981 rfl rfl rfl rfl (hk2 _) (hnewN (hz2 _)) rfl) ?_;refine Zae ?_;refine Zaf ?_;refine a_freezeB 2 981 (.raw (yieldV l)) N (hF.trans (hN st0)) rfl rfl rfl (by intro c hc; simp [D.cells] at hc; subst hc; rfl) hm2 (subB_refl N) ((partN hm2).trans (hP _)) ?_;refine Zab ?_;refine Zal.go (ZaR 980 zl165 rfl (hk _) (hnewN (hz _)) rfl) ?_;refine Zae ?_;refine Zaf ?_;refine Zab ?_;refine Zaa.go (Zcj rfl rfl) ?_;refine Zal.go (ZaD rfl rfl rfl rfl rfl rfl rfl sz165) ?_;refine Zae ?_;refine Zaf ?_;refine Zab ?_;refine Zaa.go (Zas rfl rfl on124 rfl) ?_;refine Zaa.go (Zcd rfl rfl) ?_;refine Zaa.go (ZaH rfl fi170_0 rfl rfl rfl) ?_;refine Zaa.go (Zas rfl rfl on26 rfl) ?_;refine Zaa.go (Zax rfl Tryz.underlying26 rfl) ?_;refine Zaa.go (Zaz rfl rfl (wrapS (s.ids.length + 1) (by omega)) rfl) ?_;refine Zaa.go (Zad rfl rfl) ?_;refine Zae ?_;refine Zaq ?_;refine a_loop (α := Nat × β) (fun q => ⟨20, [(3, (.ptr 980 0 0)), (11, (.d (intD ((s.ids.length + 1 : Nat) : Int)))), (12, (.d (intD (q.1 : Int))))], HX s l (H q.2)⟩) (fun q => q.1 ≤ s.ids.length + 1 ∧ Feeds Tryz.prog l encU H step q.2 (((List.range (s.ids.length + 1)).drop q.1).flatMap f) ∧ feed step q.2 (((List.range (s.ids.length + 1)).drop q.1).flatMap f) = feed step st0 ((List.range (s.ids.length + 1)).flatMap f)) (fun q => s.ids.length + 1 - q.1) ((0, st0)) (⟨Nat.zero_le _, hfe, rfl⟩) (ZbE ⟨rfl, rfl, rfl, trivial⟩) ?_;rintro ⟨k, st⟩ ⟨hk0, hfk, hfin⟩;dsimp only at hk0 hfk hfin ⊢;refine Zaf ?_;refine Zab ?_;refine Zaa.go (ZaK rfl rfl rfl) ?_;refine Zae ?_;refine Zaf ?_;refine ZaG rfl (fun h13 => ?_) (fun h13 => ?_)
  · have hk1 : k < s.ids.length + 1 := by have h := h13; omega
    refine Zap ?_;refine Zaf ?_;refine Zaq ?_;refine Zaf ?_;refine Zab ?_;refine Zaa.go (Zad rfl rfl) ?_;refine Zaa.go (Zac rfl rfl) ?_;refine Zae ?_;refine Zaf ?_;refine Zab ?_;have hA := hrk k hk1;have hfk2 := hfk;rw [hA] at hfk2;refine Zaa.go (Zai rfl rfl rfl on165 rfl) ?_;refine Zaa.go (Zad rfl rfl) ?_;refine Zal.go (st_callVD (hext' k st (by omega) (Feeds_app1 step hfk2)) rfl (980 :: N) (Zb9 fun _ _ => rfl) (x1 st) (x2 st) rfl rfl (x1 _) (x3 _) rfl rfl rfl) ?_;rw [List.append_nil];refine Zaa.go (Zbu rfl rfl) ?_;refine Zae ?_;refine Za1 rfl (fun h18 => ?_) (fun h18 => ?_)
    · have hgo : feedB step st (f k) = false := by simpa using h18
      refine Zao ?_;exact ⟨_, N, _, Zan rfl, x8 _, x5 _, rfl, by rw [← hfin, hA, feed_app2, hgo]; rfl⟩
    · have hgo : feedB step st (f k) = true := by simpa using h18
      refine Zap ?_;refine Zab ?_;refine Zaa.go (Zaz rfl rfl (wrapS (k + 1) (by omega)) rfl) ?_;refine Zaa.go (Zad rfl rfl) ?_;refine Zae ?_;exact ⟨(k + 1, feed step st (f k)), ⟨by show k + 1 ≤ _; omega, Feeds_app2 step hfk2 hgo, by rw [← hfin, hA, feed_app2, hgo]; rfl⟩, by show s.ids.length + 1 - (k + 1) < s.ids.length + 1 - k; omega, ⟨rfl, rfl, fun _ _ => Has.get (l := [(3, _), (11, _), (12, _)]) ⟨rfl, rfl, rfl, trivial⟩⟩⟩
  · refine ZaQ ?_;exact ⟨_, N, _, Zan rfl, x8 _, x5 _, rfl, by rw [← hfin, List.drop_of_length_le (by have h := h13; simp; omega)]; rfl⟩
end
theorem sets_c (s : Sma) : ACalls Tryz.prog 60 [.d (.ptr (smaD s))] [] fun r H' => r = .fn 85 [cS s] ∧ H' = [] := by
  refine ZaB Tryz.func60 rfl rfl Tryz.ntmps60 rfl rfl rfl fun F hF => ?_;refine Zaf ?_;refine Zab ?_;refine Zal.go (ZaP 1 rfl rfl rfl rfl rfl rfl rfl) ?_;refine Zaa.go (Zac rfl rfl) ?_;refine Zae ?_;refine Zaf ?_;refine Zab ?_;refine o_freezeB 1 1 (.ptr (smaD s)) [] hF rfl rfl rfl (by intro c hc; simp [D.cells] at hc; subst hc; rfl) rfl rfl rfl ?_;refine Zaa.go (Zcj rfl rfl) ?_;refine Zaa.go (Zac rfl rfl) ?_;refine Zae ?_;refine Zao ?_;exact ⟨_, [], [], Zan rfl, rfl, rfl, rfl, rfl⟩
end Go.Proofs.YtnamabifclidmaaGreat
/- Layer 29: binary search in a rising list of ints. -/
namespace Go.Proofs.YtnamabifclidmaaGreat
open Go.RowKit

theorem bs_lt {l : List Int} {x : Int} (hs : l.Pairwise (· < ·)) (hx : x ∈ l) {h : Nat} (hh : h < l.length) : l[h] < x ↔ h < l.idxOf x := by
  have hm := List.idxOf_lt_length_of_mem hx;have hg : l[l.idxOf x] = x := List.getElem_idxOf hm;have hp := List.pairwise_iff_getElem.1 hs
  constructor
  · intro hlt;rcases Nat.lt_trichotomy h (l.idxOf x) with h1 | h1 | h1
    · exact h1
    · exfalso
      have : l[h] = x := by rw [← hg]; congr 1
      omega
    · have := hp _ _ hm hh h1;rw [hg] at this; omega
  · intro hlt;have := hp _ _ hh hm hlt;rw [hg] at this; exact this
theorem halfU (n : Nat) : ((n : Nat) : Int).fdiv (2 ^ (min (1 : Int).toNat IntKind.u64.bits)) = ((n / 2 : Nat) : Int) := by
  have h : min (1 : Int).toNat IntKind.u64.bits = 1 := by decide
  rw [h, Int.fdiv_eq_ediv_of_nonneg _ (by decide)]; omega
theorem retBS {i m : Nat} (h : i = m) : AV.d (.tup [intD (i : Int), .raw (.bool true)]) = .d (.tup [intD (m : Int), boolD true]) := by rw [h]
set_option maxRecDepth 100000 in
theorem bsearch_p (l : List Int) (x : Int) (hs : l.Pairwise (· < ·)) (hx : x ∈ l) (hl : l.length ≤ 1000000) : PCalls Tryz.prog 112 [.d (.sl none (l.map intD)), .d (intD x)] (.tup [intD (l.idxOf x : Nat), boolD true]) := by
  have hm := List.idxOf_lt_length_of_mem hx;have hg : l[l.idxOf x] = x := List.getElem_idxOf hm;have hbl := fun {h : Nat} (hh : h < l.length) => bs_lt hs hx hh
  obtain ⟨m, hmE⟩ : ∃ m, l.idxOf x = m := ⟨_, rfl⟩
  simp only [hmE] at hm hg hbl ⊢;refine ZaB Tryz.func112 rfl rfl Tryz.ntmps112 rfl rfl rfl fun F hF => ?_;refine Zaf ?_;refine Zab ?_;refine Zaa.go (Zac rfl rfl) ?_;refine Zaa.go (Zac rfl rfl) ?_;refine Zae ?_;refine Zaf ?_;refine Zab ?_;refine Zaa.go (Zad rfl rfl) ?_
  first | refine Zaa.go (Zax rfl Tryz.underlying26 rfl) ?_ | refine Zaa.go (Zbr rfl rfl Tryz.underlying26 rfl) ?_ | refine Zaa.go (Zbq rfl Tryz.underlying26 rfl) ?_ | refine Zaa.go (Zbj rfl Tryz.underlying26 rfl) ?_ | refine Zaa.go (Zbp rfl Tryz.underlying26 rfl) ?_
  refine Zaa.go (Zac rfl rfl) ?_;refine Zae ?_;refine Zaf ?_;refine Zab ?_;refine Zaa.go (Zad rfl rfl) ?_;refine Zaa.go (Zac rfl rfl) ?_;refine Zaa.go (Zac rfl rfl) ?_;refine Zae ?_;refine Zaf ?_;refine Zaq ?_;refine a_loop (α := Nat × Nat) (fun q => ⟨54, [(0, .d (.sl none (l.map intD))), (1, .d (intD x)), (6, (.d (intD (l.length : Int)))), (7, (.d (intD (q.1 : Int)))), (8, (.d (intD (q.2 : Int))))], []⟩) (fun q => q.1 ≤ m ∧ m ≤ q.2 ∧ q.2 ≤ l.length) (fun q => q.2 - q.1) ((0, l.length)) (⟨Nat.zero_le _, Nat.le_of_lt hm, Nat.le_refl _⟩) (ZbE ⟨rfl, rfl, rfl, rfl, rfl, trivial⟩) ?_;rintro ⟨i, j⟩ ⟨hi, hj, hjl⟩;dsimp only at hi hj hjl ⊢;refine Zaf ?_;refine Zaf ?_;refine Zab ?_;refine Zaa.go (Zad rfl rfl) ?_;refine Zaa.go (Zad rfl rfl) ?_
  first | refine Zaa.go (ZaK rfl rfl rfl) ?_ | refine Zaa.go (Zbm rfl rfl rfl) ?_
  refine Zae ?_
  first | refine ZaG rfl (fun h15 => ?_) (fun h15 => ?_) | refine Za1 rfl (fun h15 => ?_) (fun h15 => ?_)
  · have hij : i < j := ZaM h15;refine Zap ?_;refine Zaq ?_;refine Zaf ?_;refine Zab ?_;refine Zaa.go (Zad rfl rfl) ?_;refine Zaa.go (Zad rfl rfl) ?_;have hh : (i + j) / 2 < l.length := by omega
    have hcU : IntKind.u64.wrap ((i : Int) + (j : Int)) = ((i + j : Nat) : Int) := (IntWalk.u64_in _ (by omega)).trans (Int.natCast_add i j).symm;refine Zaa.go (Zaz rfl rfl (IntWalk.i64_in _ (by omega)) rfl) ?_;refine Zaa.go (st_conv rfl Tryz.underlying3 Tryz.underlying190 (hcU) rfl) ?_;refine Zaa.go (st_shr rfl rfl (by omega) (halfU (i + j)) rfl) ?_;refine Zaa.go (st_conv rfl Tryz.underlying190 Tryz.underlying3 (wrapS ((i + j) / 2) (by omega)) rfl) ?_;refine Zaa.go (Zac rfl rfl) ?_;refine Zae ?_;refine Zaf ?_;refine Zab ?_;refine Zaa.go (Zad rfl rfl) ?_;refine Zaa.go (Zad rfl rfl) ?_
    first | refine Zaa.go (Zay ((i + j) / 2) rfl rfl (rfl) (getm hh) Tryz.underlying26 rfl sz3 rfl) ?_ | refine Zaa.go (Zbe ((i + j) / 2) rfl rfl (rfl) (getm hh) rfl Tryz.underlying26 sz3 rfl) ?_
    first | refine Zaa.go (Zas rfl rfl on3 rfl) ?_ | refine Zaa.go (Zai rfl rfl rfl on3 rfl) ?_ | refine Zaa.go (ZaI rfl rfl (rfl) rfl on3 rfl) ?_
    refine Zaa.go (Zad rfl rfl) ?_;refine Zaa.go (Zau (less_p l[(i + j) / 2] x) rfl rfl) ?_;refine Zae ?_
    first | refine ZaG rfl (fun h27 => ?_) (fun h27 => ?_) | refine Za1 rfl (fun h27 => ?_) (fun h27 => ?_)
    · refine Zab ?_;refine Zaa.go (Zad rfl rfl) ?_;refine Zaa.go (Zaz rfl rfl (wrapS ((i + j) / 2 + 1) (by omega)) rfl) ?_;refine Zaa.go (Zac rfl rfl) ?_;refine Zae ?_;exact ⟨((i + j) / 2 + 1, j), ⟨by show (i + j) / 2 + 1 ≤ m; have h := (hbl hh).1 h27; omega, hj, hjl⟩, by show j - ((i + j) / 2 + 1) < j - i; omega, ⟨rfl, rfl, fun _ _ => Has.get (l := [(0, _), (1, _), (6, _), (7, _), (8, _)]) ⟨rfl, rfl, rfl, rfl, rfl, trivial⟩⟩⟩
    · refine Zab ?_;refine Zaa.go (Zad rfl rfl) ?_;refine Zaa.go (Zac rfl rfl) ?_;refine Zae ?_;exact ⟨(i, (i + j) / 2), ⟨hi, by show m ≤ (i + j) / 2; exact Nat.le_of_not_lt fun h => h27 ((hbl hh).2 h), by show (i + j) / 2 ≤ l.length; omega⟩, by show (i + j) / 2 - i < j - i; omega, ⟨rfl, rfl, fun _ _ => Has.get (l := [(0, _), (1, _), (6, _), (7, _), (8, _)]) ⟨rfl, rfl, rfl, rfl, rfl, trivial⟩⟩⟩
  · refine ZaQ ?_;refine Zaf ?_;have him : i = m := by have h := h15; omega
    have hi1 : i < l.length := by omega
    have hgi : l[i] = x := by rw [← hg]; congr 1
    refine Zab ?_;refine Zaa.go (Zad rfl rfl) ?_;refine Zaa.go (Zad rfl rfl) ?_;refine Zaa.go (Zad rfl rfl) ?_
    first | refine Zaa.go (ZaK rfl rfl rfl) ?_ | refine Zaa.go (Zbm rfl rfl rfl) ?_
    refine Zaa.go (Zad rfl rfl) ?_;refine ZbS 35 rfl ((decide_eq_true (by omega))) ?_;refine Zam rfl rfl rfl ?_;refine Zaa.go (Zad rfl rfl) ?_;refine Zam rfl rfl rfl ?_;refine Zaa.go (Zad rfl rfl) ?_;refine Zam rfl rfl rfl ?_
    first | refine Zaa.go (Zay (i) rfl rfl (rfl) (getm hi1) Tryz.underlying26 rfl sz3 rfl) ?_ | refine Zaa.go (Zbe (i) rfl rfl (rfl) (getm hi1) rfl Tryz.underlying26 sz3 rfl) ?_
    refine Zam rfl rfl rfl ?_
    first | refine Zaa.go (Zas rfl rfl on3 rfl) ?_ | refine Zaa.go (Zai rfl rfl rfl on3 rfl) ?_ | refine Zaa.go (ZaI rfl rfl (rfl) rfl on3 rfl) ?_
    refine Zam rfl rfl rfl ?_;refine Zaa.go (Zad rfl rfl) ?_;refine Zam rfl rfl rfl ?_
    first | refine Zaa.go (Za6 rfl rfl rfl) ?_ | refine Zaa.go (ZaZ rfl rfl rfl) ?_ | refine Zaa.go (st_eqlS rfl rfl rfl) ?_ | refine Zaa.go (st_eqlB Tryz.underlying3 rfl rfl rfl) ?_ | refine Zaa.go (st_eqlP Tryz.underlying3 rfl rfl rfl) ?_ | refine Zaa.go (ZbY Tryz.underlying3 rfl rfl) ?_ | refine Zaa.go (st_eqlF Tryz.underlying3 rfl rfl rfl) ?_ | refine Zaa.go (Zce Tryz.underlying3 rfl rfl) ?_
    refine Zam rfl rfl rfl ?_;refine Zaa.go (Zad rfl rfl) ?_;refine ZbS 42 rfl ((decide_eq_true hgi)) ?_;refine Zak rfl rfl rfl rfl ?_;refine Zak rfl rfl rfl rfl ?_;refine Zak rfl rfl rfl rfl ?_;refine Zak rfl rfl rfl rfl ?_;refine Zak rfl rfl rfl rfl ?_;refine Zak rfl rfl rfl rfl ?_;refine Zbk rfl rfl rfl ?_;refine Zbk rfl rfl rfl ?_;refine Zak rfl rfl rfl rfl ?_;refine Zam rfl rfl rfl ?_;refine Zaa.go (Zav rfl rfl rfl rfl) ?_;refine Zaa.go (Zav rfl rfl rfl rfl) ?_;refine Zaa.go (Zac rfl rfl) ?_;refine Zaa.go (Zac rfl rfl) ?_;refine Zae ?_;refine Zao ?_;exact ⟨_, [], [], Zan rfl, rfl, rfl, retBS him, rfl⟩
end Go.Proofs.YtnamabifclidmaaGreat
