/- Layer 29: a problem with few items in its small form. -/
import Derived.Test.YtnamabifclidmaaGreatMg22
namespace Go.Proofs.YtnamabifclidmaaGreat
open Go.RowKit

def smI (p : Prb) : List Int := sortI (Za2 p)
theorem ordI_perm {p : Prb} (hp : prbE p = 0) : (Za2 p).Perm (p.it.map Itm.id) := by
  unfold Za2 ordP; rw [if_pos hp]; exact (sortO_perm p.it).map _
theorem smI_perm {p : Prb} (hp : prbE p = 0) : (smI p).Perm (p.it.map Itm.id) := (Zcg _).trans (ordI_perm hp)
theorem smI_mem {p : Prb} (hp : prbE p = 0) (x : Int) : x ∈ smI p ↔ x ∈ p.it.map Itm.id := (smI_perm hp).mem_iff
theorem smI_len {p : Prb} (hp : prbE p = 0) : (smI p).length = p.it.length := by rw [(smI_perm hp).length_eq, List.length_map]
theorem smI_lt {p : Prb} (hp : prbE p = 0) : (smI p).Pairwise (· < ·) := by
  have hn : (smI p).Nodup := (smI_perm hp).nodup_iff.2 (Zb2 (ZbJ hp).2.1);have hs : (smI p).Pairwise (· ≤ ·) := sortI_sorted _;rw [List.Nodup] at hn;exact (hs.and hn).imp fun {a b} h => by have h1 := h.1; have h2 := h.2; omega
theorem req_in {p : Prb} (hp : prbE p = 0) {i : Int} (hi : i ∈ p.it.map Itm.id) {b : Bkd} (hb : b ∈ req p i) : b.m ∈ smI p := by
  rw [smI_mem hp];unfold req at hb;rcases List.mem_append.1 hb with h | h
  · unfold reqA at h;obtain ⟨x, hx, rfl⟩ := List.mem_map.1 h;have hx' := (Zcg _).mem_iff.1 hx;obtain ⟨hk, _, he, _⟩ := itmOf_at hi;rw [he] at hx';have hf := fst0_all (ZbJ hp).2.2 _ (List.mem_map.2 ⟨_, List.getElem_mem hk, rfl⟩);unfold fErr at hf
    split at hf
    · cases hf
    · rename_i hn
      show x ∈ _;have hn2 : ¬ notIn (p.it.map Itm.id) x = true := fun h => hn (List.any_eq_true.2 ⟨x, hx', h⟩)
      simpa [notIn] using hn2
  · obtain ⟨y, hy, h⟩ := List.mem_flatMap.1 h;unfold reqL at h;obtain ⟨z, hz, rfl⟩ := List.mem_map.1 h;have hz' : z ∈ y.q := List.mem_of_mem_take hz;unfold linL at hy;obtain ⟨r, _, rfl⟩ := List.mem_map.1 hy;have hz2 : z ∈ qIds (ordP p) r.r := hz';unfold qIds at hz2;obtain ⟨o, ho, rfl⟩ := List.mem_map.1 hz2;exact (ordI_perm hp).mem_iff.1 (List.mem_map.2 ⟨o, (List.mem_filter.1 ho).1, rfl⟩)
def bitsO (ids : List Int) (l : List Bkd) : Nat := l.foldl (fun a b => a ||| 1 <<< ids.idxOf b.m) 0
theorem bits_snoc (ids : List Int) {l : List Bkd} {k : Nat} (hk : k < l.length) : bitsO ids (l.take (k + 1)) = bitsO ids (l.take k) ||| 1 <<< ids.idxOf l[k].m := by
  unfold bitsO; rw [List.take_succ_eq_append_getElem hk, List.foldl_append]; rfl
theorem bits_lt {ids : List Int} (hn : ids.length ≤ 31) (l : List Bkd) : bitsO ids l < 4294967296 := by
  have key : ∀ (l : List Bkd) (a : Nat), a < 4294967296 → l.foldl (fun a b => a ||| 1 <<< ids.idxOf b.m) a < 4294967296 := by
    intro l
    induction l with
    | nil => intro a h; exact h
    | cons b l ih =>
      intro a h;rw [List.foldl_cons];exact ih _ (or_lt h (shl_lt (by have : ids.idxOf b.m ≤ ids.length := List.idxOf_le_length; omega)))
  exact key l 0 (by omega)
def blOf (p : Prb) (i : Int) : Nat := bitsO (smI p) (req p i)
def dlOf (p : Prb) (x : Lin) (i : Int) : Int := dltE (itmOf p i) x.r
def rwOf (p : Prb) (x : Lin) : List Int := (smI p).map (dlOf p x)
def smlOf (p : Prb) : Sma := ⟨smI p, (smI p).map (blOf p), (linL p).map (rwOf p), (linL p).map Lin.n⟩
theorem blkF_nil (l : List Bkd) : blkF (inM []) l = l := List.filter_eq_self.2 fun _ _ => rfl
abbrev lineC (x : Lin) : List AV := [.d (intD x.r.k), .d (strD x.r.acc.o), .d (intD x.r.acc.k), .d (strD x.r.acc.a), .d (strD x.r.f), .d (strD x.r.t), .d (intD x.n), .d (.sl none (x.q.map intD))]
set_option maxRecDepth 100000 in
theorem reduce_c (p : Prb) (hp : prbE p = 0) (hb : PrbB p) (h1 : p.it.length ≤ 20) (h2 : p.ro.length ≤ 1000) : ACalls Tryz.prog 84 [.ptr 10 0 0] (HA p) fun r H' => r = .d (.ptr (smaD (smlOf p))) ∧ H' = HA p := by
  have hLl := linL_len p;have hIl := smI_len hp;have hOl : (Za2 p).length = p.it.length := by rw [(ordI_perm hp).length_eq, List.length_map]
  have hbk : ∀ mv i, ACalls Tryz.prog 74 [.ptr 10 0 0, mapV mv, .d (intD i)] (HA p ++ [(21, [.map (some ([], 0)) []]), (31, [.addr 21 0 (.map (some mv))])]) fun r H' => r = .d (.sl none ((req p i).map bkdD)) ∧ H' = HA p ++ [(21, [.map (some ([], 0)) []]), (31, [.addr 21 0 (.map (some mv))])] := fun mv i => by
    have h := (blockers_c p mv (some ([], 0)) [] i hb (by omega) h2).by [(12, 21), (13, 31)] rfl;rw [blkF_nil] at h;exact h
  have hso := sortedZ_p (Za2 p) (by omega);rw [show sortI (Za2 p) = smI p from rfl] at hso;refine ZaB Tryz.func84 rfl rfl Tryz.ntmps84 rfl rfl rfl fun F hF => ?_;refine Zaf ?_;refine Zab ?_;refine Zaa.go (Zac rfl rfl) ?_;refine Zae ?_;refine Zaf ?_;refine Zab ?_;refine Zaa.go (Zad rfl rfl) ?_;refine Zaa.go (ZaY rfl rfl) ?_;refine Zaa.go (Zah rfl fi154_1 rfl rfl rfl) ?_;refine Zaa.go (Zai rfl rfl rfl on26 rfl) ?_;refine Zal.go (Za8 (valuesZ_c (Za2 p)) rfl [] trivial rfl rfl rfl rfl rfl rfl rfl rfl rfl) ?_;refine Zaa.go (Zau (hso) rfl rfl) ?_;refine Zaa.go (Za0 zl170 pl170 rfl rfl rfl) ?_;refine Zal.go (ZaP 20 rfl rfl rfl rfl rfl rfl rfl) ?_;refine Zaa.go (Zac rfl rfl) ?_;refine Zae ?_;refine Zaf ?_;refine Zaf ?_;refine Zcf 20 0 1 901 sl166 rfl rfl rfl rfl rfl rfl rfl ?_;refine Zcf 20 0 2 902 sl167 rfl rfl rfl rfl rfl rfl rfl ?_;refine Zcf 20 0 3 903 sl168 rfl rfl rfl rfl rfl rfl rfl ?_;refine Zab ?_;refine Zaa.go (Zad rfl rfl) ?_;refine Zaa.go (ZaY rfl rfl) ?_;refine Zaa.go (Zah rfl fi170_0 rfl rfl rfl) ?_;refine Zaa.go (Zai rfl rfl rfl on26 rfl) ?_;refine Zaa.go (Zax rfl Tryz.underlying26 rfl) ?_;refine Zaa.go (Zad rfl rfl) ?_;refine Zae ?_;refine Zaq ?_;refine ZaU (α := Nat × List Nat) (fun q => ⟨122, [(0, .ptr 10 0 0), (3, (.ptr 20 0 0)), (27, (.d (.sl none ((smI p).map intD)))), (28, (.d (intD ((smI p).length : Int)))), (29, (.d (intD (q.1 : Int))))], HA p ++ [(20, [.blk 170 [.d (.sl none ((smI p).map intD)), .own 901 0 q.2.length, .own 902 0 0, .own 903 0 0]]), (901, [.rowD 65 1 (q.2.map u32D)]), (902, [.rowD 168 1 []]), (903, [.rowD 2 1 []])]⟩) (fun q => q.1 ≤ (smI p).length ∧ q.2 = ((smI p).take q.1).map (blOf p)) (fun q => (smI p).length - q.1) ((0, [])) (⟨Nat.zero_le _, rfl⟩) (Zaw hF [10, 11, 20, 901, 902, 903] rfl rfl ⟨rfl, rfl, rfl, rfl, rfl, trivial⟩) ?_;rintro ⟨k, BL⟩ ⟨hk0, hA⟩;dsimp only at hk0 hA ⊢;refine Zaf ?_;refine Zab ?_;refine Zaa.go (ZaK rfl rfl rfl) ?_;refine Zae ?_;refine Zaf ?_;refine ZaG rfl (fun h30 => ?_) (fun h30 => ?_)
  · have hk1 : k < (smI p).length := ZaM h30;refine Zap ?_;refine Zaf ?_;refine Zaq ?_;refine Zaf ?_;refine Zab ?_;refine Zaa.go (Zay (k) rfl rfl (rfl) (getm hk1) Tryz.underlying26 rfl sz3 rfl) ?_;refine Zaa.go (Zas rfl rfl on3 rfl) ?_;refine Zaa.go (Zac rfl rfl) ?_;refine Zae ?_;refine Zaf ?_;refine Zab ?_;refine Zaa.go (Zac rfl rfl) ?_;refine Zae ?_;refine Zaf ?_;refine Zaf ?_;refine Zab ?_;refine Zaa.go (Zad rfl rfl) ?_;refine Zal.go (ZbG 21 rfl rfl rfl rfl) ?_;refine o_ghostM 31 21 0 rfl rfl rfl rfl rfl fun mv => ?_;refine o_toRaw 34 31 0 (.inl rfl) rfl ?_;refine Zaa.go (Zad rfl rfl) ?_;refine Zal.go (Za8 (hbk mv (smI p)[k]) rfl [10, 11, 21, 31] ⟨rfl, rfl, rfl, rfl, trivial⟩ rfl rfl rfl rfl rfl rfl rfl rfl rfl) ?_;refine Zaa.go (Zax rfl Tryz.underlying39 rfl) ?_;refine Zaa.go (Zad rfl rfl) ?_;refine Zae ?_;refine Zaq ?_;refine ZaU (α := Nat × Nat) (fun q => ⟨122, [(0, .ptr 10 0 0), (3, (.ptr 20 0 0)), (6, (.d (u32D q.2))), (27, (.d (.sl none ((smI p).map intD)))), (28, (.d (intD ((smI p).length : Int)))), (29, (.d (intD (k : Int)))), (36, (.d (.sl none ((req p (smI p)[k]).map bkdD)))), (37, (.d (intD ((req p (smI p)[k]).length : Int)))), (38, (.d (intD (q.1 : Int))))], HA p ++ [(20, [.blk 170 [.d (.sl none ((smI p).map intD)), .own 901 0 BL.length, .own 902 0 0, .own 903 0 0]]), (901, [.rowD 65 1 (BL.map u32D)]), (902, [.rowD 168 1 []]), (903, [.rowD 2 1 []])]⟩) (fun q => q.1 ≤ (req p (smI p)[k]).length ∧ q.2 = bitsO (smI p) ((req p (smI p)[k]).take q.1)) (fun q => (req p (smI p)[k]).length - q.1) ((0, 0)) (⟨Nat.zero_le _, rfl⟩) (Zaw hF [10, 11, 20, 901, 902, 903] rfl rfl ⟨rfl, rfl, rfl, rfl, rfl, rfl, rfl, rfl, rfl, trivial⟩) ?_;rintro ⟨m, bits⟩ ⟨hm0, hB⟩;dsimp only at hm0 hB ⊢;refine Zaf ?_;have hrl := req_len hb (by omega : p.it.length ≤ 1000) h2 (smI p)[k];have hri : ∀ b ∈ req p (smI p)[k], b.m ∈ smI p := fun b hb => req_in hp ((smI_mem hp _).1 (List.getElem_mem hk1)) hb;have hblo : blOf p (smI p)[k] = bitsO (smI p) (req p (smI p)[k]) := rfl;refine Zab ?_;refine Zaa.go (ZaK rfl rfl rfl) ?_;refine Zae ?_;refine Zaf ?_;refine ZaG rfl (fun h39 => ?_) (fun h39 => ?_)
    · have hm1 : m < (req p (smI p)[k]).length := ZaM h39;refine Zap ?_;refine Zaf ?_;refine Zaq ?_;refine Zaf ?_;refine Zab ?_;refine Zaa.go (Zay (m) rfl rfl (rfl) (getm hm1) Tryz.underlying39 rfl sz49 rfl) ?_;refine Zaa.go (ZaA rfl rfl rw49 rfl) ?_;refine Zal.go (ZaR 22 zl49 rfl rfl rfl rfl) ?_;refine Zal.go (ZaD rfl rfl rfl rfl rfl rfl rfl sz49) ?_;refine Zae ?_;refine Zaf ?_;refine Za4 [[], [0], [0, 1], [0, 1, 2], [], [4], [0, 1, 2, 3, 4, 5], [0, 1, 2, 3, 4, 5, 6], [0, 1, 2, 3, 4, 5, 6, 7], [0, 1, 2, 3, 4, 5, 6, 7], [0, 1, 2, 3, 4, 5, 6, 7, 8], [0, 1, 2, 3, 4, 5, 6, 7, 8, 9, 10]] mixed rfl ?_;refine dws ?_;refine Zaj [3] [] rfl rfl (fun _ => Zag (Zad rfl rfl)) ?_;refine Zaj [43] [] rfl rfl (fun _ => Zag (ZaY rfl rfl)) ?_;refine Zaj [44] [] rfl rfl (fun _ => Zag (Zah rfl fi170_0 rfl rfl rfl)) ?_;refine Zaj [45] [20] rfl rfl (fun _ => Zag (Zai rfl rfl rfl on26 rfl)) ?_;refine Zaj [8] [] rfl rfl (fun _ => Zag (Zah rfl fi49_1 rfl rfl rfl)) ?_;refine Zaj [47] [22] rfl rfl (fun _ => Zag (Zai rfl rfl rfl on3 rfl)) ?_;refine dwc 6 rfl rfl rfl ?_;refine dw1 7 rfl rfl ?_;refine Zaa.go (Zau (bsearch_p (smI p) (req p (smI p)[k])[m].m (smI_lt hp) (hri _ (List.getElem_mem hm1)) (by omega)) rfl rfl) ?_;refine Zae ⟨rfl, ?_⟩;refine dw1 8 rfl rfl ?_;refine Zaa.go (Zad rfl rfl) ?_;refine Zae ⟨rfl, ?_⟩;refine dws ?_;refine Zaj [42] [] rfl rfl (fun _ => Zag (ZaE rfl rfl rfl)) ?_;refine Zaj [42] [] rfl rfl (fun _ => Zag (ZaE rfl rfl rfl)) ?_;refine Zaj [50] [] rfl rfl (fun _ => Zag (Zac rfl rfl)) ?_;refine dwc 11 rfl rfl rfl ?_;refine dw1 12 rfl rfl ?_;refine Zaa.go (Zac rfl rfl) ?_;refine Zae ⟨rfl, ?_⟩;refine dwe ?_;refine Zab ?_;refine Zaa.go (Zad rfl rfl) ?_;refine Zaa.go (Zad rfl rfl) ?_;have hix := List.idxOf_lt_length_of_mem (hri _ (List.getElem_mem hm1));refine Zaa.go (st_shl rfl rfl (by omega) (shl1U (by omega)) rfl) ?_;refine Zaa.go (st_bits rfl rfl rfl (orU (by rw [hB]; exact bits_lt (by omega) _) (shl_lt (by omega))) rfl) ?_;refine Zaa.go (Zac rfl rfl) ?_;refine Zae ?_;refine Zab ?_;refine Zaa.go (Zaz rfl rfl (wrapS (m + 1) (by omega)) rfl) ?_;refine Zaa.go (Zad rfl rfl) ?_;refine Zae ?_;exact ⟨(m + 1, bits ||| 1 <<< (smI p).idxOf (req p (smI p)[k])[m].m), ⟨by show m + 1 ≤ _; omega, by show bits ||| 1 <<< (smI p).idxOf (req p (smI p)[k])[m].m = bitsO (smI p) ((req p (smI p)[k]).take (m + 1)); rw [bits_snoc (smI p) hm1, hB]⟩, by show (req p (smI p)[k]).length - (m + 1) < (req p (smI p)[k]).length - m; omega, Zaw hF [10, 11, 20, 901, 902, 903] rfl (rfl) ⟨rfl, rfl, rfl, rfl, rfl, rfl, rfl, rfl, rfl, trivial⟩⟩
    · have hfin : bits = blOf p (smI p)[k] := by rw [hblo, hB, List.take_of_length_le (by have h := h39; omega)]
      refine ZaQ ?_;refine Zab ?_;refine Zaa.go (Zad rfl rfl) ?_;refine Zaa.go (Zad rfl rfl) ?_;refine Zaa.go (ZaY rfl rfl) ?_;refine Zaa.go (Zah rfl fi170_1 rfl rfl rfl) ?_;have hBl : BL.length ≤ 20 := by rw [hA, List.length_map, List.length_take]; omega
      refine Zaa.go (Zai rfl rfl rfl on166 rfl) ?_;refine Zaa.go (Zad rfl rfl) ?_;refine Zal.go (ZaJ 40 sl166 rfl rfl rfl rfl rfl rfl rfl rfl) ?_;refine Zal.go (Zbn (BL) ([bits]) rfl rfl rfl rfl rfl rfl rfl rfl sl166 (by simp only [List.length_singleton]; omega) rfl rfl rfl rfl) ?_;refine Zaa.go (ZaY rfl rfl) ?_;refine Zaa.go (Zah rfl fi170_1 rfl rfl rfl) ?_;refine Zal.go (ZaD rfl rfl rfl rfl rfl rfl rfl sz166) ?_;refine Zae ?_;refine Zab ?_;refine Zaa.go (Zaz rfl rfl (wrapS (k + 1) (by omega)) rfl) ?_;refine Zaa.go (Zad rfl rfl) ?_;refine Zae ?_;exact ⟨(k + 1, BL ++ [bits]), ⟨by show k + 1 ≤ _; omega, by show BL ++ [bits] = ((smI p).take (k + 1)).map (blOf p); rw [tk_map hk1, hA, hfin]⟩, by show (smI p).length - (k + 1) < (smI p).length - k; omega, Zaw hF [10, 11, 20, 901, 902, 903] rfl (rfl) ⟨rfl, rfl, rfl, rfl, rfl, trivial⟩⟩
  · refine ZaQ ?_;refine Zaf ?_;refine Zaf ?_;have hBL : BL = (smI p).map (blOf p) := by rw [hA, List.take_of_length_le (by have h := h30; omega)]
    refine ZbP (ys := BL.map u32D) 20 0 1 901 rfl rfl rfl (Nat.le_of_eq (by simp)) (List.take_of_length_le (by simp)) rfl rfl rfl rfl rfl rfl ?_;refine Zab ?_;refine Zaa.go (Zad rfl rfl) ?_;refine Zaa.go (ZaY rfl rfl) ?_;refine Zaa.go (Zah rfl fi154_2 rfl rfl rfl) ?_;refine Zaa.go (Zai rfl rfl rfl on152 rfl) ?_;refine Zaa.go (Zax rfl Tryz.underlying152 rfl) ?_;refine Zaa.go (Zad rfl rfl) ?_;refine Zae ?_;refine Zaq ?_;refine ZaU (α := Nat × List (List Int) × List Int) (fun q => ⟨122, [(0, .ptr 10 0 0), (3, (.ptr 20 0 0)), (71, (.d (.sl none ((linL p).map linD)))), (72, (.d (intD ((linL p).length : Int)))), (73, (.d (intD (q.1 : Int))))], HA p ++ [(20, [.blk 170 [.d (.sl none ((smI p).map intD)), .d (.sl none (BL.map u32D)), .own 902 0 q.2.1.length, .own 903 0 q.2.2.length]]), (902, [.rowD 168 1 (q.2.1.map rowZ)]), (903, [.rowD 2 1 (q.2.2.map intD)])]⟩) (fun q => q.1 ≤ (linL p).length ∧ q.2.1 = ((linL p).take q.1).map (rwOf p) ∧ q.2.2 = ((linL p).take q.1).map Lin.n) (fun q => (linL p).length - q.1) ((0, [], [])) (⟨Nat.zero_le _, rfl, rfl⟩) (Zaw hF [10, 11, 20, 902, 903] rfl rfl ⟨rfl, rfl, rfl, rfl, rfl, trivial⟩) ?_;rintro ⟨n, DL, RL⟩ ⟨hn0, hD, hR⟩;dsimp only at hn0 hD hR ⊢;refine Zaf ?_;refine Zab ?_;refine Zaa.go (ZaK rfl rfl rfl) ?_;refine Zae ?_;refine Zaf ?_;refine ZaG rfl (fun h74 => ?_) (fun h74 => ?_)
    · have hn1 : n < (linL p).length := ZaM h74;refine Zap ?_;refine Zaf ?_;refine Zaq ?_;refine Zaf ?_;refine Zab ?_;refine Zaa.go (Zay (n) rfl rfl (rfl) (getm hn1) Tryz.underlying152 rfl sz157 rfl) ?_;refine Zaa.go (ZaA rfl rfl rw157 rfl) ?_;refine Zal.go (ZaR 24 zl157 rfl rfl rfl rfl) ?_;refine Zal.go (ZaD rfl rfl rfl rfl rfl rfl rfl sz157) ?_;refine Zae ?_;refine Zaf ?_;refine Zab ?_;refine Zaa.go (Zac rfl rfl) ?_;refine Zae ?_;refine Zaf ?_;refine Zaf ?_;refine a_adopt 13 905 sl168 rfl rfl rfl rfl ?_;refine Zab ?_;refine Zaa.go (Zad rfl rfl) ?_;refine Zaa.go (ZaY rfl rfl) ?_;refine Zaa.go (Zah rfl fi170_0 rfl rfl rfl) ?_;refine Zaa.go (Zai rfl rfl rfl on26 rfl) ?_;refine Zaa.go (Zax rfl Tryz.underlying26 rfl) ?_;refine Zaa.go (Zad rfl rfl) ?_;refine Zae ?_;refine Zaq ?_;refine ZaU (α := Nat × List Int) (fun q => ⟨122, [(0, .ptr 10 0 0), (3, (.ptr 20 0 0)), (12, (.ptr 24 0 0)), (13, (.own 905 0 q.2.length)), (71, (.d (.sl none ((linL p).map linD)))), (72, (.d (intD ((linL p).length : Int)))), (73, (.d (intD (n : Int)))), (80, (.d (.sl none ((smI p).map intD)))), (81, (.d (intD ((smI p).length : Int)))), (82, (.d (intD (q.1 : Int))))], HA p ++ [(20, [.blk 170 [.d (.sl none ((smI p).map intD)), .d (.sl none (BL.map u32D)), .own 902 0 DL.length, .own 903 0 RL.length]]), (902, [.rowD 168 1 (DL.map rowZ)]), (903, [.rowD 2 1 (RL.map intD)]), (905, [.rowD 2 1 (q.2.map intD)]), (24, [.blk 157 (lineC (linL p)[n])])]⟩) (fun q => q.1 ≤ (smI p).length ∧ q.2 = ((smI p).take q.1).map (dlOf p (linL p)[n])) (fun q => (smI p).length - q.1) ((0, [])) (⟨Nat.zero_le _, rfl⟩) (Zaw hF [10, 11, 20, 902, 903, 905, 24] rfl rfl ⟨rfl, rfl, rfl, rfl, rfl, rfl, rfl, rfl, rfl, rfl, trivial⟩) ?_;rintro ⟨j, acc⟩ ⟨hj0, hC⟩;dsimp only at hj0 hC ⊢;refine Zaf ?_;refine Zab ?_;refine Zaa.go (ZaK rfl rfl rfl) ?_;refine Zae ?_;refine Zaf ?_;refine ZaG rfl (fun h83 => ?_) (fun h83 => ?_)
      · have hj1 : j < (smI p).length := ZaM h83;refine Zap ?_;refine Zaf ?_;refine Zaq ?_;refine Zaf ?_;refine Zab ?_;refine Zaa.go (Zay (j) rfl rfl (rfl) (getm hj1) Tryz.underlying26 rfl sz3 rfl) ?_;refine Zaa.go (Zas rfl rfl on3 rfl) ?_;refine Zaa.go (Zac rfl rfl) ?_;refine Zae ?_;refine Za4 [[], [], [1], [1, 2], [1, 2, 3], [], [1, 2, 3, 4, 5], [], [7], [1, 2, 3, 4, 5, 6, 7, 8], [1, 2, 3, 4, 5, 6, 7, 8, 9], [0, 1, 2, 3, 4, 5, 6, 7, 8, 9, 10], [0, 1, 2, 3, 4, 5, 6, 7, 8, 9, 10, 11]] mixed rfl ?_;refine dws ?_;have hcl : acc.length ≤ 20 := by rw [hC, List.length_map, List.length_take]; omega
        have hib := itmOf_B hb (smI p)[j];refine Zaj [13] [] rfl rfl (fun _ => Zag (Zad rfl rfl)) ?_;refine Zaj [0] [] rfl rfl (fun _ => Zag (Zad rfl rfl)) ?_;refine Zaj [87] [] rfl rfl (fun _ => Zag (ZaY rfl rfl)) ?_;refine Zaj [88] [] rfl rfl (fun _ => Zag (Zah rfl fi154_0 rfl rfl rfl)) ?_;refine Zaj [89] [10] rfl rfl (fun _ => Zag (Zai rfl rfl rfl on151 rfl)) ?_;refine Zaj [15] [] rfl rfl (fun _ => Zag (Zad rfl rfl)) ?_;refine Zaj [90, 91] [11] rfl rfl (fun _ => Zag (st_lookW (itemsM p.it) (smI p)[j] itm0 (itmOf p (smI p)[j]) rfl rfl rfl mt151 kt3 za100 itm0_weakD (itmOf_get p (smI p)[j]) rfl)) ?_;refine Zaj [12] [] rfl rfl (fun _ => Zag (Zah rfl fi157_0 rfl rfl rfl)) ?_;refine Zaj [93] [24] rfl rfl (fun _ => Zag (Zar rfl rfl rw47 rfl rfl rfl)) ?_;refine Zaj [92, 94] [] rfl rfl (fun _ => Zag (Zau (delta_p (itmOf p (smI p)[j]) (linL p)[n].r (by omega) (by omega) (by omega)) rfl rfl)) ?_;refine ZbH [95] [41] [(96, _)] rfl rfl (fun _ => Zbh (ZaJ 41 sl168 rfl rfl rfl rfl rfl rfl rfl rfl)) (.inr ⟨96, _, rfl, rfl, rfl, rfl, rfl⟩) rfl rfl rfl rfl rfl ?_;refine dwc 11 rfl rfl rfl ?_;refine dw1 12 rfl rfl ?_;refine Zal.go (Zbn (acc) ([dlOf p (linL p)[n] (smI p)[j]]) rfl rfl rfl rfl rfl rfl rfl rfl sl168 (by simp only [List.length_singleton]; omega) rfl rfl rfl rfl) ?_;refine Zae ⟨rfl, ?_⟩;refine dw1 13 rfl rfl ?_;refine Zaa.go (Zac rfl rfl) ?_;refine Zae ⟨rfl, ?_⟩;refine dwe ?_;refine Zab ?_;refine Zaa.go (Zaz rfl rfl (wrapS (j + 1) (by omega)) rfl) ?_;refine Zaa.go (Zad rfl rfl) ?_;refine Zae ?_;exact ⟨(j + 1, acc ++ [dlOf p (linL p)[n] (smI p)[j]]), ⟨by show j + 1 ≤ _; omega, by show acc ++ [dlOf p (linL p)[n] (smI p)[j]] = ((smI p).take (j + 1)).map (dlOf p (linL p)[n]); rw [tk_map hj1, hC]⟩, by show (smI p).length - (j + 1) < (smI p).length - j; omega, Zaw hF [10, 11, 20, 902, 903, 905, 24] rfl (rfl) ⟨rfl, rfl, rfl, rfl, rfl, rfl, rfl, rfl, rfl, rfl, trivial⟩⟩
      · have hfa : acc = rwOf p (linL p)[n] := by rw [hC, List.take_of_length_le (by have h := h83; omega)]; rfl
        refine ZaQ ?_;have hDl : DL.length ≤ 1000 := by rw [hD, List.length_map, List.length_take]; omega
        have hRl : RL.length ≤ 1000 := by rw [hR, List.length_map, List.length_take]; omega
        refine Zb3 (emb := intD) 13 905 acc rfl rfl rfl rfl rfl rfl rfl ?_;refine a_ghostR 950 902 0 rfl rfl rfl rfl rfl fun a1 c1 => ?_;refine a_ghostR 951 903 0 rfl rfl rfl rfl rfl fun a2 c2 => ?_;refine a_rawC 950 0 20 0 2 rfl rfl rfl rfl rfl ?_;refine a_rawC 951 0 20 0 3 rfl rfl rfl rfl rfl ?_;refine Za4 [[], [], [], [2], [2, 3], [2, 3, 4], [], [6], [2, 3, 4, 5, 6, 7], [], [9], [9, 10], [9, 10, 11], [], [13], [13, 14], [2, 3, 4, 5, 6, 7, 8, 9, 10, 11, 12, 13, 14, 15], [0, 2, 3, 4, 5, 6, 7, 8, 9, 10, 11, 12, 13, 14, 15, 16], [0, 2, 3, 4, 5, 6, 7, 8, 9, 10, 11, 12, 13, 14, 15, 16, 17], [0, 2, 3, 4, 5, 6, 7, 8, 9, 10, 11, 12, 13, 14, 15, 16, 17, 18], [0, 1, 2, 3, 4, 5, 6, 7, 8, 9, 10, 11, 12, 13, 14, 15, 16, 17, 18, 19], [0, 1, 2, 3, 4, 5, 6, 7, 8, 9, 10, 11, 12, 13, 14, 15, 16, 17, 18, 19, 20], [0, 1, 2, 3, 4, 5, 6, 7, 8, 9, 10, 11, 12, 13, 14, 15, 16, 17, 18, 19, 20, 21]] mixed rfl ?_;refine dws ?_;refine Zaj [3] [] rfl rfl (fun _ => Zag (Zad rfl rfl)) ?_;refine Zaj [3] [] rfl rfl (fun _ => Zag (Zad rfl rfl)) ?_;refine Zaj [3] [] rfl rfl (fun _ => Zag (Zad rfl rfl)) ?_;refine Zaj [101] [] rfl rfl (fun _ => Zag (ZaY rfl rfl)) ?_;refine Zaj [102] [] rfl rfl (fun _ => Zag (Zah rfl fi170_2 rfl rfl rfl)) ?_;refine Zaj [103] [20, 950] rfl rfl (fun _ => Zag (st_loadO 950 0 rfl rfl rfl rfl (by simp) on167 rfl)) ?_;refine Zaj [13] [] rfl rfl (fun _ => Zag (Zad rfl rfl)) ?_;refine ZbH [105] [42] [(106, _)] rfl rfl (fun _ => Zbh (ZaJ 42 sl167 rfl rfl rfl rfl rfl rfl rfl rfl)) (.inr ⟨106, _, rfl, rfl, rfl, rfl, rfl⟩) rfl rfl rfl rfl rfl ?_;refine ZbH [104, 106] [902, 42, 950] [(107, _)] rfl rfl (fun _ => Zbh (Zbn (DL) ([acc]) rfl rfl rfl rfl rfl rfl rfl rfl sl167 (by simp only [List.length_singleton]; omega) rfl rfl rfl rfl)) (.inr ⟨107, _, rfl, rfl, rfl, rfl, rfl⟩) rfl rfl rfl rfl rfl ?_;refine Zaj [3] [] rfl rfl (fun _ => Zag (Zad rfl rfl)) ?_;refine Zaj [108] [] rfl rfl (fun _ => Zag (ZaY rfl rfl)) ?_;refine Zaj [109] [] rfl rfl (fun _ => Zag (Zah rfl fi170_3 rfl rfl rfl)) ?_;refine Zaj [110] [20, 951] rfl rfl (fun _ => Zag (st_loadO 951 0 rfl rfl rfl rfl (by simp) on168 rfl)) ?_;refine Zaj [12] [] rfl rfl (fun _ => Zag (Zah rfl fi157_1 rfl rfl rfl)) ?_;refine Zaj [112] [24] rfl rfl (fun _ => Zag (Zai rfl rfl rfl on2 rfl)) ?_;refine ZbH [113] [43] [(114, _)] rfl rfl (fun _ => Zbh (ZaJ 43 sl168 rfl rfl rfl rfl rfl rfl rfl rfl)) (.inr ⟨114, _, rfl, rfl, rfl, rfl, rfl⟩) rfl rfl rfl rfl rfl ?_;refine ZbH [111, 114] [903, 43, 951] [(115, _)] rfl rfl (fun _ => Zbh (Zbn (RL) ([(linL p)[n].n]) rfl rfl rfl rfl rfl rfl rfl rfl sl168 (by simp only [List.length_singleton]; omega) rfl rfl rfl rfl)) (.inr ⟨115, _, rfl, rfl, rfl, rfl, rfl⟩) rfl rfl rfl rfl rfl ?_;refine Zaj [99] [] rfl rfl (fun _ => Zag (ZaY rfl rfl)) ?_;refine Zaj [116] [] rfl rfl (fun _ => Zag (Zah rfl fi170_2 rfl rfl rfl)) ?_;refine ZbH [117, 107] [20, 902] [] rfl rfl (fun _ => Zbh (ZaD rfl rfl rfl rfl rfl rfl rfl sz167)) (.inl ⟨rfl, rfl⟩) rfl rfl rfl rfl rfl ?_;refine dwc 20 rfl rfl rfl ?_;refine dw1 21 rfl rfl ?_;refine Zaa.go (ZaY rfl rfl) ?_;refine Zae ⟨rfl, ?_⟩;refine dw1 22 rfl rfl ?_;refine Zaa.go (Zah rfl fi170_3 rfl rfl rfl) ?_;refine Zae ⟨rfl, ?_⟩;refine dw1 23 rfl rfl ?_;refine Zal.go (ZaD rfl rfl rfl rfl rfl rfl rfl sz168) ?_;refine Zae ⟨rfl, ?_⟩;refine dwe ?_;refine Zab ?_;refine Zaa.go (Zaz rfl rfl (wrapS (n + 1) (by omega)) rfl) ?_;refine Zaa.go (Zad rfl rfl) ?_;refine Zae ?_;exact ⟨(n + 1, DL ++ [acc], RL ++ [(linL p)[n].n]), ⟨by show n + 1 ≤ _; omega, by show DL ++ [acc] = ((linL p).take (n + 1)).map (rwOf p); rw [tk_map hn1, hD, hfa], by show RL ++ [(linL p)[n].n] = ((linL p).take (n + 1)).map Lin.n; rw [tk_map hn1, hR]⟩, by show (linL p).length - (n + 1) < (linL p).length - n; omega, Zaw hF [10, 11, 20, 902, 903] rfl (rfl) ⟨rfl, rfl, rfl, rfl, rfl, trivial⟩⟩
    · refine ZaQ ?_;refine Zaf ?_;have hDL : DL = (linL p).map (rwOf p) := by rw [hD, List.take_of_length_le (by have h := h74; omega)]
      have hRL : RL = (linL p).map Lin.n := by rw [hR, List.take_of_length_le (by have h := h74; omega)]
      refine ZbP (ys := DL.map rowZ) 20 0 2 902 rfl rfl rfl (Nat.le_of_eq (by simp)) (List.take_of_length_le (by simp)) rfl rfl rfl rfl rfl rfl ?_;refine ZbP (ys := RL.map intD) 20 0 3 903 rfl rfl rfl (Nat.le_of_eq (by simp)) (List.take_of_length_le (by simp)) rfl rfl rfl rfl rfl rfl ?_;refine a_freezeB 3 20 (smaD ⟨smI p, BL, DL, RL⟩) [10, 11] hF rfl rfl rfl (by intro c hc; simp [D.cells] at hc; rcases hc with rfl | rfl | rfl | rfl <;> rfl) rfl rfl rfl ?_;refine Zab ?_;refine Zaa.go (Zad rfl rfl) ?_;refine Zaa.go (Zac rfl rfl) ?_;refine Zae ?_;refine Zao ?_;exact ⟨_, [10, 11], _, Zan rfl, rfl, rfl, by rw [hBL, hDL, hRL]; rfl, rfl⟩
end Go.Proofs.YtnamabifclidmaaGreat
/- Layer 29: problems with few items are begun; Count. -/
namespace Go.Proofs.YtnamabifclidmaaGreat
open Go.RowKit

set_option maxRecDepth 100000 in
theorem begin_ok (p : Prb) (hb : PrbB p) (hE : prbE p = 0) (h1 : p.it.length ≤ 20) (h2 : p.ro.length ≤ 1000) : PCalls Tryz.prog 59 [.d (prbD p)] (.tup [.ptr (smaD (smlOf p)), intD 0]) := by
  have hpr := (analyze_ok p hb hE).by [(3, 10), (2, 11)] rfl;refine ZaB Tryz.func59 rfl rfl Tryz.ntmps59 rfl rfl rfl fun F hF => ?_;refine Zaf ?_;refine Zab ?_;refine Zal.go (ZaP 1 rfl rfl rfl rfl rfl rfl rfl) ?_;refine Zaa.go (Zac rfl rfl) ?_;refine Zaa.go (Zac rfl rfl) ?_;refine Zae ?_;refine Zaf ?_;refine Zab ?_
  first | refine Zaa.go (ZaA rfl rfl rw35 rfl) ?_ | refine Zaa.go (Zar rfl rfl rw35 rfl rfl rfl) ?_ | refine Zaa.go (ZaT rfl rfl (rfl) rfl rw35 rfl) ?_
  refine Zal.go (Za8 hpr rfl [10, 11] ⟨rfl, rfl, trivial⟩ rfl rfl rfl rfl rfl rfl rfl rfl rfl) ?_;refine Zaa.go (Zad rfl rfl) ?_
  first | refine Zaa.go (ZaE rfl rfl rfl) ?_ | refine Zaa.go (ZaF rfl rfl rfl) ?_
  first | refine Zaa.go (ZaE rfl rfl rfl) ?_ | refine Zaa.go (ZaF rfl rfl rfl) ?_
  refine Zaa.go (Zac rfl rfl) ?_;refine Zaa.go (Zac rfl rfl) ?_;refine Zae ?_;refine Zaf ?_;refine Zaf ?_;refine Zab ?_;refine Zaa.go (Zad rfl rfl) ?_
  first | refine Zaa.go (Za3 rfl rfl rfl) ?_ | refine Zaa.go (Zbb rfl rfl rfl) ?_ | refine Zaa.go (Zbx rfl rfl rfl) ?_ | refine Zaa.go (ZbD Tryz.underlying29 rfl rfl rfl) ?_ | refine Zaa.go (ZbB Tryz.underlying29 rfl rfl rfl) ?_ | refine Zaa.go (st_neqN Tryz.underlying29 rfl rfl) ?_ | refine Zaa.go (ZbC Tryz.underlying29 rfl rfl rfl) ?_ | refine Zaa.go (st_neqFN Tryz.underlying29 rfl rfl) ?_
  refine Zae ?_;refine ZaX rfl ((by decide)) ?_;refine Zap ?_;refine Zaf ?_;refine Zaf ?_;refine Zab ?_
  first | refine Zaa.go (Zah rfl Zbf rfl rfl rfl) ?_ | refine Zaa.go (ZaH rfl Zbf rfl rfl rfl) ?_ | refine Zaa.go (ZaN rfl Zbf rfl rfl rfl) ?_ | refine Zaa.go (ZaW rfl Zbf rfl rfl rfl) ?_
  first | refine Zaa.go (Zas rfl rfl on33 rfl) ?_ | refine Zaa.go (Zai rfl rfl rfl on33 rfl) ?_ | refine Zaa.go (ZaI rfl rfl (rfl) rfl on33 rfl) ?_
  first | refine Zaa.go (Zax rfl Tryz.underlying33 rfl) ?_ | refine Zaa.go (Zbr rfl rfl Tryz.underlying33 rfl) ?_ | refine Zaa.go (Zbq rfl Tryz.underlying33 rfl) ?_ | refine Zaa.go (Zbj rfl Tryz.underlying33 rfl) ?_ | refine Zaa.go (Zbp rfl Tryz.underlying33 rfl) ?_
  first | refine Zaa.go (Zbv rfl rfl rfl) ?_ | refine Zaa.go (st_gtrS rfl rfl rfl) ?_
  refine Zae ?_;refine ZaX rfl ((decide_eq_false (by omega))) ?_;refine Zap ?_;refine Zaf ?_;refine Zab ?_;refine Zaa.go (Zad rfl rfl) ?_;refine Zal.go (Za8 (reduce_c p hE hb h1 h2) rfl [10, 11] ⟨rfl, rfl, trivial⟩ rfl rfl rfl rfl rfl rfl rfl rfl rfl) ?_;refine Zaa.go (Zac rfl rfl) ?_;refine Zaa.go (Zac rfl rfl) ?_;refine Zae ?_;refine Zao ?_;exact ⟨_, [], [], Zan rfl, rfl, rfl, rfl, rfl⟩
theorem enumX_lt {n : Nat} (hn : n ≤ 31) : ∀ (l frm x : Nat), x < 4294967296 → ∀ y ∈ enumX n l frm x, y < 4294967296
  | 0, _, x, hx, y, hy => by
    have : y = x := by simpa [enumX] using hy
    rw [this]; exact hx
  | l + 1, frm, x, hx, y, hy => by
    unfold enumX at hy;obtain ⟨i, hi, hy⟩ := List.mem_flatMap.1 hy;obtain ⟨j, hj, rfl⟩ := List.mem_map.1 hi;have hj' := List.mem_range.1 hj;exact enumX_lt hn l _ _ (or_lt hx (shl_lt (by omega))) y hy
theorem pow_sum (f : Nat → Nat) (m : Nat) : ∀ c, c ≤ m → (∀ j, j < c → f j ≤ 2 ^ (m - (j + 1))) → ((List.range c).map f).sum + 2 ^ (m - c) ≤ 2 ^ m
  | 0, _, _ => by simp
  | c + 1, h, hf => by
    have ih := pow_sum f m c (by omega) fun j hj => hf j (by omega);have h2 := hf c (by omega)
    have h3 : 2 ^ (m - c) = 2 ^ (m - (c + 1)) + 2 ^ (m - (c + 1)) := by
      have : m - c = (m - (c + 1)) + 1 := by omega
      rw [this, Nat.pow_succ]; omega
    rw [List.range_succ, List.map_append, List.sum_append, List.map_singleton, List.sum_singleton];omega
theorem enumX_len {n : Nat} : ∀ (l frm x : Nat), (enumX n l frm x).length ≤ 2 ^ (n - frm)
  | 0, frm, x => by
    have : 0 < 2 ^ (n - frm) := Nat.pow_pos (by omega)
    simp [enumX]; omega
  | l + 1, frm, x => by
    unfold enumX;rw [List.length_flatMap, List.map_map]
    have h := pow_sum (((fun i => (enumX n l (i + 1) (x ||| 1 <<< i)).length)) ∘ fun j => frm + j) (n - frm) (n + 1 - (l + 1) - frm) (by omega) (fun j hj => by
      have := enumX_len l (frm + j + 1) (x ||| 1 <<< (frm + j)) (n := n);have e : n - frm - (j + 1) = n - (frm + j + 1) := by omega
      rw [e]; exact this)
    exact Nat.le_trans (Nat.le_add_right _ _) h
theorem allX_lt {s : Sma} (hn : s.ids.length ≤ 31) : ∀ y ∈ allX s, y < 4294967296 := fun y hy => by
  unfold allX at hy;obtain ⟨k, _, hy⟩ := List.mem_flatMap.1 hy;exact enumX_lt hn k 0 0 (by omega) y (List.mem_filter.1 hy).1
theorem allX_len {s : Sma} (hn : s.ids.length ≤ 20) : (allX s).length ≤ 100000000 := by
  unfold allX
  have h := flat_len (f := fun k => (enumX s.ids.length k 0 0).filter (admS s)) (n := 1048576) (l := List.range (s.ids.length + 1)) (fun k _ => by
    have h1 := enumX_len (n := s.ids.length) k 0 0;have h2 : 2 ^ (s.ids.length - 0) ≤ 2 ^ 20 := Nat.pow_le_pow_right (by omega) (by omega);have h3 : (2 : Nat) ^ 20 = 1048576 := by decide
    exact Nat.le_trans (List.length_filter_le _ _) (by omega))
  rw [List.length_range] at h;have : (s.ids.length + 1) * 1048576 ≤ 21 * 1048576 := Nat.mul_le_mul_right _ (by omega);omega
abbrev hCt (s : Sma) (q : Nat × Nat) : Hp := [(2, [.blk 124 [.d (.ptr (smaD s))]]), (3, [.blk 3 [.d (intD (q.1 : Int))]]), (4, [.blk 3 [.d (intD (q.2 : Int))]])]
def stepC (s : Sma) (q : Nat × Nat) (x : Nat) : (Nat × Nat) × Bool := ((q.1 + 1, q.2 + bif feaS s x then 1 else 0), true)
theorem feed_cnt (s : Sma) : ∀ (l : List Nat) (q : Nat × Nat), feed (stepC s) q l = (q.1 + l.length, q.2 + (l.filter (feaS s)).length)
  | [], q => by simp [feed]
  | x :: l, q => by
    rw [ZbA];show (if true = true then feed (stepC s) (q.1 + 1, q.2 + bif feaS s x then 1 else 0) l else _) = _;rw [if_pos rfl, feed_cnt s l]
    cases h : feaS s x <;> simp [h] <;> omega
theorem feeds_cnt {P : Program} {l : Nat} {H : Nat × Nat → Hp} (s : Sma) {n : Nat} (hY : ∀ a b x, a < n → b ≤ a → x < 4294967296 → YCalls P l (encU x) (H (a, b)) fun v H' => v = .d (.raw (.bool true)) ∧ H' = H (a + 1, b + bif feaS s x then 1 else 0)) : ∀ (xs : List Nat) (q : Nat × Nat), (∀ x ∈ xs, x < 4294967296) → q.1 + xs.length ≤ n → q.2 ≤ q.1 → Feeds P l encU H (stepC s) q xs
  | [], _, _, _, _ => trivial
  | x :: xs, (a, b), hx, h, hq => ⟨hY a b x (by simp at h; omega) hq (hx x (by simp)), fun _ => feeds_cnt s hY xs (a + 1, b + bif feaS s x then 1 else 0) (fun y hy => hx y (by simp [hy])) (by simp at h ⊢; omega) (by show b + (bif feaS s x then 1 else 0) ≤ a + 1; cases feaS s x <;> simp at hq ⊢ <;> omega)⟩
structure SmaB (s : Sma) : Prop where
  n : s.ids.length ≤ 20
  b : s.bl.length ≤ 20
  u : ∀ b ∈ s.bl, b < 4294967296
  r : s.rm.length ≤ 1000
  d : s.de.length = s.rm.length
  v : ∀ r ∈ s.de, r.length ≤ 32 ∧ ∀ v ∈ r, -1000000000000000 ≤ v ∧ v ≤ 1000000000000000
  m : ∀ v ∈ s.rm, 0 ≤ v ∧ v ≤ 4000000000000000
theorem smlB {p : Prb} (hp : prbE p = 0) (h1 : p.it.length ≤ 20) (h2 : p.ro.length ≤ 1000) : SmaB (smlOf p) := by
  have hIl := smI_len hp;have hLl := linL_len p;refine ⟨by show (smI p).length ≤ 20; omega, by show ((smI p).map (blOf p)).length ≤ 20; rw [List.length_map]; omega, fun b hb => ?_, by show ((linL p).map Lin.n).length ≤ 1000; rw [List.length_map]; omega, by show ((linL p).map (rwOf p)).length = ((linL p).map Lin.n).length; simp, fun r hr => ?_, fun v hv => ?_⟩
  · obtain ⟨i, _, rfl⟩ := List.mem_map.1 hb;exact bits_lt (by omega) _
  · obtain ⟨x, _, rfl⟩ := List.mem_map.1 hr;refine ⟨by show ((smI p).map (dlOf p x)).length ≤ 32; rw [List.length_map]; omega, fun v hv => ?_⟩;obtain ⟨i, _, rfl⟩ := List.mem_map.1 hv;exact dltE_b _ _
  · obtain ⟨x, hx, rfl⟩ := List.mem_map.1 hv;exact linL_n hp x hx
set_option maxRecDepth 100000 in
theorem count_ok (p : Prb) (hb : PrbB p) (hE : prbE p = 0) (h1 : p.it.length ≤ 20) (h2 : p.ro.length ≤ 1000) : PCalls Tryz.prog 36 [.d (prbD p)] (.tup [intD ((allX (smlOf p)).length : Nat), intD (((allX (smlOf p)).filter (feaS (smlOf p))).length : Nat), intD 0]) := by
  have hbg := begin_ok p hb hE h1 h2;have hB := smlB hE h1 h2
  obtain ⟨s, hs⟩ : ∃ s, smlOf p = s := ⟨_, rfl⟩
  rw [hs] at hbg hB ⊢;have hB0 := hB;have hAl := allX_len hB.n;have hAx := allX_lt (s := s) (by have := hB.n; omega);have hfe := fun x (hx : x < 4294967296) => feaS_p s x hx (by have := hB.r; omega) hB.d hB.v hB.m;have hfe' : ∀ x, x < 4294967296 → ∀ c, feaS s x = c → PCalls Tryz.prog 61 [.d (.ptr (smaD s)), .d (u32D x)] (boolD c) := fun x hx c hc => by rw [← hc]; exact hfe x hx
  refine a_enterR Tryz.func36 rfl rfl Tryz.ntmps36 rfl rfl rfl fun F hF hFl => ?_;refine Zaf ?_;refine Zab ?_;refine Zal.go (ZaP 1 rfl rfl rfl rfl rfl rfl rfl) ?_;refine Zaa.go (Zac rfl rfl) ?_;refine Zaa.go (Zac rfl rfl) ?_;refine Zaa.go (Zac rfl rfl) ?_;refine Zae ?_;refine Zaf ?_;refine Zab ?_
  first | refine Zaa.go (ZaA rfl rfl rw35 rfl) ?_ | refine Zaa.go (Zar rfl rfl rw35 rfl rfl rfl) ?_ | refine Zaa.go (ZaT rfl rfl (rfl) rfl rw35 rfl) ?_
  refine Zaa.go (Zau (hbg) rfl rfl) ?_;refine Zaa.go (Zad rfl rfl) ?_
  first | refine Zaa.go (ZaE rfl rfl rfl) ?_ | refine Zaa.go (ZaF rfl rfl rfl) ?_
  first | refine Zaa.go (ZaE rfl rfl rfl) ?_ | refine Zaa.go (ZaF rfl rfl rfl) ?_
  refine Zal.go (ZaR 2 zl124 rfl rfl rfl rfl) ?_;refine Zal.go (ZaD rfl rfl rfl rfl rfl rfl rfl sz124) ?_;refine Zaa.go (Zac rfl rfl) ?_;refine Zae ?_;refine Zaf ?_;refine Zaf ?_;refine Zab ?_;refine Zaa.go (Zad rfl rfl) ?_
  first | refine Zaa.go (Za3 rfl rfl rfl) ?_ | refine Zaa.go (Zbb rfl rfl rfl) ?_ | refine Zaa.go (Zbx rfl rfl rfl) ?_ | refine Zaa.go (ZbD Tryz.underlying29 rfl rfl rfl) ?_ | refine Zaa.go (ZbB Tryz.underlying29 rfl rfl rfl) ?_ | refine Zaa.go (st_neqN Tryz.underlying29 rfl rfl) ?_ | refine Zaa.go (ZbC Tryz.underlying29 rfl rfl rfl) ?_ | refine Zaa.go (st_neqFN Tryz.underlying29 rfl rfl) ?_
  refine Zae ?_;refine ZaX rfl ((by decide)) ?_;refine Zap ?_;refine Zaf ?_;refine Zab ?_;refine Zal.go (ZaR 3 zl3 rfl rfl rfl rfl) ?_;refine Zal.go (ZaR 4 zl3 rfl rfl rfl rfl) ?_;refine Zal.go (ZaD rfl rfl rfl rfl rfl rfl rfl sz3) ?_;refine Zal.go (ZaD rfl rfl rfl rfl rfl rfl rfl sz3) ?_;refine Zae ?_;refine Zaf ?_;refine Zaf ?_;refine Zab ?_
  first | refine Zaa.go (Zas rfl rfl on124 rfl) ?_ | refine Zaa.go (Zai rfl rfl rfl on124 rfl) ?_ | refine Zaa.go (ZaI rfl rfl (rfl) rfl on124 rfl) ?_
  refine Zal.go (Za8 (sets_c s) rfl [] trivial rfl rfl rfl rfl rfl rfl rfl rfl rfl) ?_;refine Zae ?_;refine Zaq ?_;refine a_keep [5, 7, 8, 19] rfl ?_;refine a_only [2, 3, 4] hF rfl rfl ?_;refine a_range (γ := Unit) hFl 900 rfl rfl rfl rfl rfl [2, 3, 4] (CHr := hCt s (0, 0)) (fun _ => True) (fun _ => hCt s ((allX s).length, ((allX s).filter (feaS s)).length)) (fun _ => .ready) (fun _ => none) ⟨rfl, rfl, rfl, trivial⟩ rfl rfl rfl (fun _ => rfl) (fun _ => rfl) rfl (fun _ _ => by simp) (fun _ _ => ⟨rfl, rfl⟩) [2, 3, 4] hF rfl rfl (fun _ _ => rfl) (fun l A B hA hB => ?_) (fun _ _ => ?_)
  · refine (setsF_c s hB0.u (by have := hB0.b; omega) (by have := hB0.n; omega) l (fun q : Nat × Nat => (900, [.loop ⟨l, 30, [(5, .ptr 2 0 0), (7, .ptr 3 0 0), (8, .ptr 4 0 0), (19, .fn 85 [cS s])], .ready, none, #[20], A, B⟩]) :: hCt s q) [900, 2, 3, 4] (stepC s) (0, 0) (fun _ => rfl) (fun _ => rfl) (fun _ => rfl) rfl rfl (fun _ => rfl) (fun _ => rfl) ?_).mono (fun r H' ⟨e1, e2⟩ => ⟨e1, (), trivial, by rw [e2, feed_cnt]; simp only [Nat.zero_add]⟩);refine feeds_cnt s (n := 100000000) (fun a b x ha hba hx => ?_) (allX s) (0, 0) hAx (by simp only [Nat.zero_add]; exact hAl) (Nat.le_refl _);have hf2 := hfe' x hx;refine yc_round (lf := 900) rfl rfl rfl rfl fun F hF hr => ?_;show Awp _ _ A _ _;rw [hA];refine Zab ?_;refine Zaa.go (Zac rfl rfl) ?_;refine Zae ?_;refine ⟨rfl, _, _, rfl, rfl, rfl, rfl, ?_⟩;show Awp _ _ B _ _;rw [hB];refine Zaq ?_;refine Zaf ?_;refine Zab ?_
    cases hfx : feaS s x
    · first | refine Zaa.go (Zas rfl rfl on3 rfl) ?_ | refine Zaa.go (Zai rfl rfl rfl on3 rfl) ?_ | refine Zaa.go (ZaI rfl rfl (rfl) rfl on3 rfl) ?_
      refine Zaa.go (Zaz rfl rfl (wrapS (a + 1) (by omega)) rfl) ?_;refine Zal.go (ZaD rfl rfl rfl rfl rfl rfl rfl sz3) ?_;refine Zae ?_;refine Zaf ?_;refine Zab ?_
      first | refine Zaa.go (Zas rfl rfl on124 rfl) ?_ | refine Zaa.go (Zai rfl rfl rfl on124 rfl) ?_ | refine Zaa.go (ZaI rfl rfl (rfl) rfl on124 rfl) ?_
      refine Zaa.go (Zad rfl rfl) ?_;refine Zaa.go (Zau (hf2 _ hfx) rfl rfl) ?_;refine Zae ?_;refine ZaX rfl (rfl) ?_;refine Zap ?_;exact ⟨none, _, _, [900, 2, 3, 4], _, rfl, rfl, rfl, rfl, rfl, rfl, rfl, rfl⟩
    · first | refine Zaa.go (Zas rfl rfl on3 rfl) ?_ | refine Zaa.go (Zai rfl rfl rfl on3 rfl) ?_ | refine Zaa.go (ZaI rfl rfl (rfl) rfl on3 rfl) ?_
      refine Zaa.go (Zaz rfl rfl (wrapS (a + 1) (by omega)) rfl) ?_;refine Zal.go (ZaD rfl rfl rfl rfl rfl rfl rfl sz3) ?_;refine Zae ?_;refine Zaf ?_;refine Zab ?_
      first | refine Zaa.go (Zas rfl rfl on124 rfl) ?_ | refine Zaa.go (Zai rfl rfl rfl on124 rfl) ?_ | refine Zaa.go (ZaI rfl rfl (rfl) rfl on124 rfl) ?_
      refine Zaa.go (Zad rfl rfl) ?_;refine Zaa.go (Zau (hf2 _ hfx) rfl rfl) ?_;refine Zae ?_;refine ZaS rfl (rfl) ?_;refine Zab ?_
      first | refine Zaa.go (Zas rfl rfl on3 rfl) ?_ | refine Zaa.go (Zai rfl rfl rfl on3 rfl) ?_ | refine Zaa.go (ZaI rfl rfl (rfl) rfl on3 rfl) ?_
      refine Zaa.go (Zaz rfl rfl (wrapS (b + 1) (by omega)) rfl) ?_;refine Zal.go (ZaD rfl rfl rfl rfl rfl rfl rfl sz3) ?_;refine Zae ?_;exact ⟨none, _, _, [900, 2, 3, 4], _, rfl, rfl, rfl, rfl, rfl, rfl, rfl, rfl⟩
  · refine Zaf ?_;refine Za4 [[], [], [0], [0, 1, 2], [0, 1, 2, 3]] mixed rfl ?_;refine dws ?_
    first | refine Zaj [7] [3] rfl rfl (fun _ => Zag (Zas rfl rfl on3 rfl)) ?_ | refine Zaj [7] [3] rfl rfl (fun _ => Zag (Zai rfl rfl rfl on3 rfl)) ?_ | refine Zaj [7] [3] rfl rfl (fun _ => Zag (ZaI rfl rfl (rfl) rfl on3 rfl)) ?_
    first | refine Zaj [8] [4] rfl rfl (fun _ => Zag (Zas rfl rfl on3 rfl)) ?_ | refine Zaj [8] [4] rfl rfl (fun _ => Zag (Zai rfl rfl rfl on3 rfl)) ?_ | refine Zaj [8] [4] rfl rfl (fun _ => Zag (ZaI rfl rfl (rfl) rfl on3 rfl)) ?_
    first | refine Zaj [28] [] rfl rfl (fun _ => Zag (Zac rfl rfl)) ?_ | refine Zat [28] rfl rfl (fun _ => Zag (Zac rfl rfl)) ?_
    refine dwc 3 rfl rfl rfl ?_;refine dw1 4 rfl rfl ?_;refine Zaa.go (Zac rfl rfl) ?_;refine Zae ⟨rfl, ?_⟩;refine dw1 5 rfl rfl ?_;refine Zaa.go (Zac rfl rfl) ?_;refine Zae ⟨rfl, ?_⟩;refine dwe ?_;refine Zao ?_;exact ⟨_, [], [], Zan rfl, rfl, rfl, rfl, rfl⟩
end Go.Proofs.YtnamabifclidmaaGreat
/- Layer 29: the example of the chapter. -/
namespace Go.Proofs.YtnamabifclidmaaGreat
open Go.RowKit

deriving instance DecidableEq for Lin
def accQ (a : List UInt8) : Acc := ⟨a, 0, [67, 65, 83, 72]⟩
def payI (id sq : Int) (a b : List UInt8) (n : Int) : Itm := ⟨id, 0, sq, [⟨accQ a, 0 - n⟩, ⟨accQ b, n⟩], [], []⟩
set_option maxRecDepth 100000 in
theorem pay0_p (id sq n : Int) (a b : List UInt8) (h0 : 0 ≤ n) (h1 : n ≤ 1000000000000000) : PCalls Tryz.prog 42 [.d (intD id), .d (intD sq), .d (strD a), .d (strD b), .d (intD n)] (.agg [intD id, intD 0, intD sq, .sl none ((payI id sq a b n).po.map postD), .sl (some true) [], .sl (some true) []]) := by
  refine ZaB Tryz.func42 rfl rfl Tryz.ntmps42 rfl rfl rfl fun F hF => ?_;refine Zaf ?_;refine Zab ?_;refine Zal.go (ZaR 1 zl100 rfl rfl rfl rfl) ?_;refine Zae ?_;refine Zaf ?_;refine Zab ?_;refine Zaa.go (Zad rfl rfl) ?_;refine Zaa.go (Zad rfl rfl) ?_;refine Zaa.go (Zad rfl rfl) ?_;refine Zaa.go (Za0 zl45 pl45 rfl rfl rfl) ?_;refine Zaa.go (Zad rfl rfl) ?_;refine Zaa.go (st_sub rfl rfl (IntWalk.i64_in _ (by omega)) rfl) ?_;refine Zaa.go (Za0 zl142 pl142 rfl rfl rfl) ?_;refine Zaa.go (Zad rfl rfl) ?_;refine Zaa.go (Za0 zl45 pl45 rfl rfl rfl) ?_;refine Zaa.go (Zad rfl rfl) ?_;refine Zaa.go (Za0 zl142 pl142 rfl rfl rfl) ?_;refine Zal.go (ZaJ 2 sl97 rfl rfl rfl rfl rfl rfl rfl rfl) ?_;refine ZbV (emb := postD) 22 2 (payI id sq a b n).po rfl rfl rfl rfl rfl rfl rfl ?_;refine Zaa.go (Za0 zl100 pl100 rfl rfl rfl) ?_;refine Zal.go (ZaD rfl rfl rfl rfl rfl rfl rfl sz100) ?_;refine Zae ?_;refine Zao ?_;exact ⟨_, [], [], Zan rfl, rfl, rfl, rfl, rfl⟩
theorem pay29_p (id sq n : Int) (a b : List UInt8) (h0 : 0 ≤ n) (h1 : n ≤ 1000000000000000) : PCalls Tryz.prog 42 [.d (intD id), .d (intD sq), .d (strD a), .d (strD b), .d (intD n)] (itmD (payI id sq a b n)) :=
  (pay0_p id sq n a b h0 h1).weak fun w O v h => h.aggMono rfl (by simp [D.one]) fun i c c' hc hc' v hv => by
    match i, hc, hc' with
    | 0, hc, hc' => injection hc with hc; injection hc' with hc'; subst hc hc'; exact hv
    | 1, hc, hc' => injection hc with hc; injection hc' with hc'; subst hc hc'; exact hv
    | 2, hc, hc' => injection hc with hc; injection hc' with hc'; subst hc hc'; exact hv
    | 3, hc, hc' => injection hc with hc; injection hc' with hc'; subst hc hc'; exact hv
    | 4, hc, hc' => injection hc with hc; injection hc' with hc'; subst hc hc'; exact hv.anyNil
    | 5, hc, hc' => injection hc with hc; injection hc' with hc'; subst hc hc'; exact hv.anyNil
def rcA : Rsc := ⟨0, accQ [65], [], []⟩
def rcB : Rsc := ⟨0, accQ [66], [], []⟩
def rosK : List Roo := [⟨rcA, 0⟩, ⟨rcB, 0⟩]
def itsK : List Itm := [payI 1 1 [65] [66] 5, payI 2 2 [66] [65] 5]
def itK3 : Itm := payI 3 3 [65] [66] 1
def pK2 : Prb := ⟨rosK, itsK⟩
def pK3 : Prb := ⟨rosK, itsK ++ [itK3]⟩
theorem pK2_E : prbE pK2 = 0 := by decide
theorem pK2_R : linR rosK = rosK := (linR_one pK2_E (List.Perm.refl _) (by decide)).symm
theorem sortI_nil : sortI [] = [] := List.eq_nil_of_length_eq_zero (sortI_len [])
theorem pK2_ids : Za2 pK2 = [1, 2] := by decide
theorem pK3_ids : Za2 pK3 = [1, 2, 3] := by decide
theorem pK2_sm : smI pK2 = [1, 2] := by
  unfold smI; rw [pK2_ids]; exact (sort_one (List.Perm.refl _) (by decide)).symm
theorem pK2_L : linL pK2 = [⟨rcA, 0, [1]⟩, ⟨rcB, 0, [2]⟩] := by
  unfold linL; rw [show pK2.ro = rosK from rfl, pK2_R]; decide
theorem pK3_L : linL pK3 = [⟨rcA, 0, [1, 3]⟩, ⟨rcB, 0, [2]⟩] := by
  unfold linL; rw [show pK3.ro = rosK from rfl, pK2_R]; decide
theorem req_noaf {p : Prb} {i : Int} (h : (itmOf p i).af = []) : req p i = (linL p).flatMap (reqL i) := by
  unfold req reqA; rw [h, sortI_nil]; rfl
theorem pK2_r1 : req pK2 1 = [] := by rw [req_noaf (by decide), pK2_L]; decide
theorem pK2_r2 : req pK2 2 = [] := by rw [req_noaf (by decide), pK2_L]; decide
theorem pK3_r3 : req pK3 3 = [⟨3, 1, rcA⟩] := by rw [req_noaf (by decide), pK3_L]; decide
def smK : Sma := ⟨[1, 2], [0, 0], [[-5, 5], [5, -5]], [0, 0]⟩
theorem pK2_S : smlOf pK2 = smK := by
  unfold smlOf;have e1 : blOf pK2 1 = 0 := by unfold blOf; rw [pK2_r1]; rfl
  have e2 : blOf pK2 2 = 0 := by unfold blOf; rw [pK2_r2]; rfl
  have e3 : ∀ x, rwOf pK2 x = [dlOf pK2 x 1, dlOf pK2 x 2] := fun x => by unfold rwOf; rw [pK2_sm]; rfl
  have e4 : (linL pK2).map (rwOf pK2) = [[-5, 5], [5, -5]] := by rw [pK2_L]; simp only [List.map_cons, List.map_nil, e3]; decide
  rw [pK2_sm, e4, pK2_L];simp only [List.map_cons, List.map_nil, e1, e2]; rfl
theorem smK_n : (allX smK).length = 4 := by decide
theorem smK_f : ((allX smK).filter (feaS smK)).length = 2 := by decide
theorem pK2_b12 : blks pK2 (inL [2, 1]) = [] := by
  unfold blks; rw [pK2_ids]; simp [blk1, pK2_r1, pK2_r2, blkF]
theorem pK2_v12 : viol pK2 (setM [2, 1]) = [] := by unfold viol; rw [pK2_L]; decide
theorem pK2_v1 : viol pK2 (setM [1]) ≠ [] := by unfold viol; rw [pK2_L]; decide
theorem pK3_b3 : blks pK3 (inL [3]) ≠ [] := by
  unfold blks; rw [pK3_ids]; simp [blk1, inL, pK3_r3, blkF]
theorem pK3_v123 : viol pK3 (setM [1, 2, 3]) = [⟨rcA, 1⟩] := by unfold viol; rw [pK3_L]; decide
theorem pK2_c21 : choE pK2 [2, 1] = 0 := by decide
theorem pK2_c1 : choE pK2 [1] = 0 := by decide
theorem pK3_c3 : choE pK3 [3] = 0 := by decide
theorem pK3_c123 : choE pK3 [1, 2, 3] = 0 := by decide
theorem pK2_B : PrbB pK2 := by unfold PrbB; decide
theorem pK3_B : PrbB pK3 := by unfold PrbB; decide
theorem kn_cnt : PCalls Tryz.prog 36 [.d (prbD pK2)] (.tup [intD 4, intD 2, intD 0]) := by
  have h := count_ok pK2 pK2_B pK2_E (by decide) (by decide);rw [pK2_S, smK_n, smK_f] at h; exact h
theorem kn_f21 : PCalls Tryz.prog 17 [.d (prbD pK2), .d (.sl none (([2, 1] : List Int).map intD))] (.tup [boolD true, intD 0]) := by
  have h := feasF_p pK2 [2, 1] pK2_B (by decide) (by decide) (by decide);rw [pK2_c21, pK2_b12, pK2_v12] at h; exact h
theorem kn_f1 : PCalls Tryz.prog 17 [.d (prbD pK2), .d (.sl none (([1] : List Int).map intD))] (.tup [boolD false, intD 0]) := by
  have h := feasF_p pK2 [1] pK2_B (by decide) (by decide) (by decide);rw [pK2_c1, decide_eq_false (fun h => pK2_v1 h.2.2)] at h; exact h
theorem kn_a3 : PCalls Tryz.prog 15 [.d (prbD pK3), .d (.sl none (([3] : List Int).map intD))] (.tup [boolD false, intD 0]) := by
  have h := admF_p pK3 [3] pK3_B (by decide) (by decide) (by decide);rw [pK3_c3, decide_eq_false (fun h => pK3_b3 h.2)] at h; exact h
theorem kn_v : PCalls Tryz.prog 24 [.d (prbD pK3), .d (.sl none (([1, 2, 3] : List Int).map intD))] (.tup [.sl none (([⟨rcA, 1⟩] : List Roo).map rooD), intD 0]) := by
  have h := violF_p pK3 [1, 2, 3] pK3_B (by decide);rw [pK3_c123, if_pos rfl, pK3_v123] at h; exact h
theorem snap_prb {hp : Hp} {bl : List Nat} {f n k : Nat} {t : TypeId} (p : Prb) (ho : hget hp f 0 = some (.rowD t k (p.it.map itmD))) (hb : memB f bl = true) (hn : n = p.it.length) : Snap hp bl (.agg [.d (.sl none (p.ro.map rooD)), .own f 0 n]) (prbD p) := by
  refine .agg rfl (by simp [D.one]) fun j a c ha hc => ?_
  match j, ha, hc with
  | 0, ha, hc => injection ha with ha; injection hc with hc; subst ha hc; exact .d
  | 1, ha, hc => injection ha with ha; injection hc with hc; subst ha hc; exact .own ho hb (by rw [List.length_map]; omega) (List.take_of_length_le (by rw [List.length_map]; omega))
end Go.Proofs.YtnamabifclidmaaGreat
/- Layer 29: the example of the chapter, walked. -/
namespace Go.Proofs.YtnamabifclidmaaGreat
open Go.RowKit

set_option maxRecDepth 100000 in
theorem known29_p : PCalls Tryz.prog 14 [] (.raw (.bool true)) := by
  have y1 := pay29_p 1 1 5 [65] [66] (by decide) (by decide);have y2 := pay29_p 2 2 5 [66] [65] (by decide) (by decide);have y3 := pay29_p 3 3 1 [65] [66] (by decide) (by decide);refine ZaB Tryz.func14 rfl rfl Tryz.ntmps14 rfl rfl rfl fun F hF => ?_;refine Zaf ?_;refine Zab ?_;refine Zaa.go (Zac rfl rfl) ?_;refine Zae ?_;refine Zaf ?_;refine Zab ?_;refine Zaa.go (Za0 zl45 pl45 rfl rfl rfl) ?_;refine Zaa.go (Za0 zl47 pl47 rfl rfl rfl) ?_;refine Zaa.go (Za0 zl45 pl45 rfl rfl rfl) ?_;refine Zaa.go (Za0 zl47 pl47 rfl rfl rfl) ?_;refine Zal.go (ZaR 1 zl47 rfl rfl rfl rfl) ?_;refine Zal.go (ZaR 2 zl47 rfl rfl rfl rfl) ?_;refine Zal.go (ZaD rfl rfl rfl rfl rfl rfl rfl sz47) ?_;refine Zal.go (ZaD rfl rfl rfl rfl rfl rfl rfl sz47) ?_;refine Zae ?_;refine Zaf ?_;refine Za4 [[], [0], [], [2], [0, 1, 2, 3], [], [5], [5, 6], [0, 1, 2, 3, 4, 5, 6, 7], [], [0, 1, 2, 3, 4, 5, 6, 7, 8, 9]] mixed rfl ?_;refine dws ?_;refine Zaj [1] [1] rfl rfl (fun _ => Zag (Zar rfl rfl rw47 rfl rfl rfl)) ?_;refine Zaj [19] [] rfl rfl (fun _ => Zag (Za0 zl70 pl70 rfl rfl rfl)) ?_;refine Zaj [2] [2] rfl rfl (fun _ => Zag (Zar rfl rfl rw47 rfl rfl rfl)) ?_;refine Zaj [21] [] rfl rfl (fun _ => Zag (Za0 zl70 pl70 rfl rfl rfl)) ?_;refine ZbH [20, 22] [10] [(23, _)] rfl rfl (fun _ => Zbh (ZaJ 10 sl32 rfl rfl rfl rfl rfl rfl rfl rfl)) (.inr ⟨23, _, rfl, rfl, rfl, rfl, rfl⟩) rfl rfl rfl rfl rfl ?_;refine Zaj [] [] rfl rfl (fun _ => Zag (Zau (y1) rfl rfl)) ?_;refine Zaj [] [] rfl rfl (fun _ => Zag (Zau (y2) rfl rfl)) ?_;refine ZbH [24, 25] [11] [(26, _)] rfl rfl (fun _ => Zbh (ZaJ 11 sl33 rfl rfl rfl rfl rfl rfl rfl rfl)) (.inr ⟨26, _, rfl, rfl, rfl, rfl, rfl⟩) rfl rfl rfl rfl rfl ?_;refine Zaj [23, 26] [] rfl rfl (fun _ => Zag (Za0 zl35 pl35 rfl rfl rfl)) ?_;refine ZbH [] [5] [(3, _)] rfl rfl (fun _ => Zbh (ZaR 5 zl35 rfl rfl rfl rfl)) (.inr ⟨3, _, rfl, rfl, rfl, rfl, rfl⟩) rfl rfl rfl rfl rfl ?_;refine dwc 10 rfl rfl rfl ?_;refine dw1 11 rfl rfl ?_;refine Zal.go (ZaD rfl rfl rfl rfl rfl rfl rfl sz35) ?_;refine Zae ⟨rfl, ?_⟩;refine dwe ?_;refine Zaf ?_;refine ZbP (ys := rosK.map rooD) 5 0 0 10 rfl rfl rfl (by decide) rfl rfl rfl rfl rfl rfl rfl ?_;refine Zab ?_;refine Zaa.go (Zar rfl rfl rw35 rfl rfl rfl) ?_;refine Zaa.go (st_callPB [11] kn_cnt (by exact ⟨.inr ⟨_, _, rfl, snap_prb pK2 rfl rfl rfl, rfl⟩, trivial⟩) rfl rfl) ?_;refine Zaa.go (Zad rfl rfl) ?_;refine Zaa.go (ZaE rfl rfl rfl) ?_;refine Zaa.go (ZaE rfl rfl rfl) ?_;refine Zaa.go (ZaE rfl rfl rfl) ?_;refine Zaa.go (Zac rfl rfl) ?_;refine Zaa.go (Zac rfl rfl) ?_;refine Zaa.go (Zac rfl rfl) ?_;refine Zae ?_;refine Zaf ?_;refine Zab ?_;refine Zaa.go (Zar rfl rfl rw35 rfl rfl rfl) ?_;refine Zal.go (ZaJ 12 sl26 rfl rfl rfl rfl rfl rfl rfl rfl) ?_;refine ZbV (emb := intD) 36 12 [2, 1] rfl rfl rfl rfl rfl rfl rfl ?_;refine Zaa.go (st_callPB [11] kn_f21 (by exact ⟨.inr ⟨_, _, rfl, snap_prb pK2 rfl rfl rfl, rfl⟩, .inl rfl, trivial⟩) rfl rfl) ?_;refine Zaa.go (Zad rfl rfl) ?_;refine Zaa.go (ZaE rfl rfl rfl) ?_;refine Zaa.go (ZaE rfl rfl rfl) ?_;refine Zaa.go (Zac rfl rfl) ?_;refine Zaa.go (Zac rfl rfl) ?_;refine Zae ?_;refine Zaf ?_;refine Zab ?_;refine Zaa.go (Zar rfl rfl rw35 rfl rfl rfl) ?_;refine Zal.go (ZaJ 13 sl26 rfl rfl rfl rfl rfl rfl rfl rfl) ?_;refine ZbV (emb := intD) 42 13 [1] rfl rfl rfl rfl rfl rfl rfl ?_;refine Zaa.go (st_callPB [11] kn_f1 (by exact ⟨.inr ⟨_, _, rfl, snap_prb pK2 rfl rfl rfl, rfl⟩, .inl rfl, trivial⟩) rfl rfl) ?_;refine Zaa.go (Zad rfl rfl) ?_;refine Zaa.go (ZaE rfl rfl rfl) ?_;refine Zaa.go (ZaE rfl rfl rfl) ?_;refine Zaa.go (Zac rfl rfl) ?_;refine Zaa.go (Zac rfl rfl) ?_;refine Zae ?_;refine Zaf ?_;refine Za4 [[], [0], [], [2], [0, 1, 2, 3], [0, 1, 2, 3, 4], [0, 1, 2, 3, 4, 5]] mixed rfl ?_;refine dws ?_;refine Zaj [3] [] rfl rfl (fun _ => Zag (Zah rfl Zbf rfl rfl rfl)) ?_;refine Zaj [46] [5, 11] rfl rfl (fun _ => Zag (Zai rfl rfl rfl on33 rfl)) ?_;refine Zaj [] [] rfl rfl (fun _ => Zag (Zau (y3) rfl rfl)) ?_;refine ZbH [48] [14] [(49, _)] rfl rfl (fun _ => Zbh (ZaJ 14 sl33 rfl rfl rfl rfl rfl rfl rfl rfl)) (.inr ⟨49, _, rfl, rfl, rfl, rfl, rfl⟩) rfl rfl rfl rfl rfl ?_;refine dwc 4 rfl rfl rfl ?_;refine dw1 5 rfl rfl ?_;refine Zal.go (Zbn (itsK) ([itK3]) rfl rfl rfl rfl rfl rfl rfl rfl sl33 (by decide) rfl rfl rfl rfl) ?_;refine Zae ⟨rfl, ?_⟩;refine dw1 6 rfl rfl ?_;refine Zaa.go (Zah rfl Zbf rfl rfl rfl) ?_;refine Zae ⟨rfl, ?_⟩;refine dw1 7 rfl rfl ?_;refine Zal.go (ZaD rfl rfl rfl rfl rfl rfl rfl sz33) ?_;refine Zae ⟨rfl, ?_⟩;refine dwe ?_;refine Zaf ?_;refine Zab ?_;refine Zaa.go (Zar rfl rfl rw35 rfl rfl rfl) ?_;refine Zal.go (ZaJ 15 sl26 rfl rfl rfl rfl rfl rfl rfl rfl) ?_;refine ZbV (emb := intD) 54 15 [3] rfl rfl rfl rfl rfl rfl rfl ?_;refine Zaa.go (st_callPB [11] kn_a3 (by exact ⟨.inr ⟨_, _, rfl, snap_prb pK3 rfl rfl rfl, rfl⟩, .inl rfl, trivial⟩) rfl rfl) ?_;refine Zaa.go (Zad rfl rfl) ?_;refine Zaa.go (ZaE rfl rfl rfl) ?_;refine Zaa.go (ZaE rfl rfl rfl) ?_;refine Zaa.go (Zac rfl rfl) ?_;refine Zaa.go (Zac rfl rfl) ?_;refine Zae ?_;refine Zaf ?_;refine ZbP (ys := (itsK ++ [itK3]).map itmD) 5 0 1 11 rfl rfl rfl (by decide) rfl rfl rfl rfl rfl rfl rfl ?_;refine Zab ?_;refine Zaa.go (Zar rfl rfl rw35 rfl rfl rfl) ?_;refine Zal.go (ZaJ 16 sl26 rfl rfl rfl rfl rfl rfl rfl rfl) ?_;refine ZbV (emb := intD) 60 16 [1, 2, 3] rfl rfl rfl rfl rfl rfl rfl ?_;refine Zaa.go (Zau (kn_v) rfl rfl) ?_;refine Zaa.go (Zad rfl rfl) ?_;refine Zaa.go (ZaE rfl rfl rfl) ?_;refine Zaa.go (ZaE rfl rfl rfl) ?_;refine Zaa.go (Zac rfl rfl) ?_;refine Zaa.go (Zac rfl rfl) ?_;refine Zae ?_;refine Zaf ?_;refine Za4 [[], [0], [0, 1], [0, 1, 2], [0, 1, 2, 3], [0, 1, 2, 3, 4], [0, 1, 2, 3, 4, 5], [0, 1, 2, 3, 4, 5, 6], [0, 1, 2, 3, 4, 5, 6, 7], [0, 1, 2, 3, 4, 5, 6, 7, 8], [0, 1, 2, 3, 4, 5, 6, 7, 8, 9], [0, 1, 2, 3, 4, 5, 6, 7, 8, 9, 10], [0, 1, 2, 3, 4, 5, 6, 7, 8, 9, 10, 11], [0, 1, 2, 3, 4, 5, 6, 7, 8, 9, 10, 11, 12], [0, 1, 2, 3, 4, 5, 6, 7, 8, 9, 10, 11, 12, 13], [0, 1, 2, 3, 4, 5, 6, 7, 8, 9, 10, 11, 12, 13, 14], [0, 1, 2, 3, 4, 5, 6, 7, 8, 9, 10, 11, 12, 13, 14, 15], [0, 1, 2, 3, 4, 5, 6, 7, 8, 9, 10, 11, 12, 13, 14, 15, 16], [0, 1, 2, 3, 4, 5, 6, 7, 8, 9, 10, 11, 12, 13, 14, 15, 16, 17], [0, 1, 2, 3, 4, 5, 6, 7, 8, 9, 10, 11, 12, 13, 14, 15, 16, 17, 18], [0, 1, 2, 3, 4, 5, 6, 7, 8, 9, 10, 11, 12, 13, 14, 15, 16, 17, 18, 19], [0, 1, 2, 3, 4, 5, 6, 7, 8, 9, 10, 11, 12, 13, 14, 15, 16, 17, 18, 19, 20], [0, 1, 2, 3, 4, 5, 6, 7, 8, 9, 10, 11, 12, 13, 14, 15, 16, 17, 18, 19, 20, 21], [0, 1, 2, 3, 4, 5, 6, 7, 8, 9, 10, 11, 12, 13, 14, 15, 16, 17, 18, 19, 20, 21, 22], [0, 1, 2, 3, 4, 5, 6, 7, 8, 9, 10, 11, 12, 13, 14, 15, 16, 17, 18, 19, 20, 21, 22, 23], [0, 1, 2, 3, 4, 5, 6, 7, 8, 9, 10, 11, 12, 13, 14, 15, 16, 17, 18, 19, 20, 21, 22, 23, 24], [0, 1, 2, 3, 4, 5, 6, 7, 8, 9, 10, 11, 12, 13, 14, 15, 16, 17, 18, 19, 20, 21, 22, 23, 24, 25], [0, 1, 2, 3, 4, 5, 6, 7, 8, 9, 10, 11, 12, 13, 14, 15, 16, 17, 18, 19, 20, 21, 22, 23, 24, 25, 26], [0, 1, 2, 3, 4, 5, 6, 7, 8, 9, 10, 11, 12, 13, 14, 15, 16, 17, 18, 19, 20, 21, 22, 23, 24, 25, 26, 27], [0, 1, 2, 3, 4, 5, 6, 7, 8, 9, 10, 11, 12, 13, 14, 15, 16, 17, 18, 19, 20, 21, 22, 23, 24, 25, 26, 27, 28], [0, 1, 2, 3, 4, 5, 6, 7, 8, 9, 10, 11, 12, 13, 14, 15, 16, 17, 18, 19, 20, 21, 22, 23, 24, 25, 26, 27, 28, 29], [0, 1, 2, 3, 4, 5, 6, 7, 8, 9, 10, 11, 12, 13, 14, 15, 16, 17, 18, 19, 20, 21, 22, 23, 24, 25, 26, 27, 28, 29, 30], [0, 1, 2, 3, 4, 5, 6, 7, 8, 9, 10, 11, 12, 13, 14, 15, 16, 17, 18, 19, 20, 21, 22, 23, 24, 25, 26, 27, 28, 29, 30, 31], [0, 1, 2, 3, 4, 5, 6, 7, 8, 9, 10, 11, 12, 13, 14, 15, 16, 17, 18, 19, 20, 21, 22, 23, 24, 25, 26, 27, 28, 29, 30, 31, 32], [0, 1, 2, 3, 4, 5, 6, 7, 8, 9, 10, 11, 12, 13, 14, 15, 16, 17, 18, 19, 20, 21, 22, 23, 24, 25, 26, 27, 28, 29, 30, 31, 32, 33], [0, 1, 2, 3, 4, 5, 6, 7, 8, 9, 10, 11, 12, 13, 14, 15, 16, 17, 18, 19, 20, 21, 22, 23, 24, 25, 26, 27, 28, 29, 30, 31, 32, 33, 34], [0, 1, 2, 3, 4, 5, 6, 7, 8, 9, 10, 11, 12, 13, 14, 15, 16, 17, 18, 19, 20, 21, 22, 23, 24, 25, 26, 27, 28, 29, 30, 31, 32, 33, 34, 35], [0, 1, 2, 3, 4, 5, 6, 7, 8, 9, 10, 11, 12, 13, 14, 15, 16, 17, 18, 19, 20, 21, 22, 23, 24, 25, 26, 27, 28, 29, 30, 31, 32, 33, 34, 35, 36], [0, 1, 2, 3, 4, 5, 6, 7, 8, 9, 10, 11, 12, 13, 14, 15, 16, 17, 18, 19, 20, 21, 22, 23, 24, 25, 26, 27, 28, 29, 30, 31, 32, 33, 34, 35, 36, 37], [0, 1, 2, 3, 4, 5, 6, 7, 8, 9, 10, 11, 12, 13, 14, 15, 16, 17, 18, 19, 20, 21, 22, 23, 24, 25, 26, 27, 28, 29, 30, 31, 32, 33, 34, 35, 36, 37, 38], [0, 1, 2, 3, 4, 5, 6, 7, 8, 9, 10, 11, 12, 13, 14, 15, 16, 17, 18, 19, 20, 21, 22, 23, 24, 25, 26, 27, 28, 29, 30, 31, 32, 33, 34, 35, 36, 37, 38, 39], [0, 1, 2, 3, 4, 5, 6, 7, 8, 9, 10, 11, 12, 13, 14, 15, 16, 17, 18, 19, 20, 21, 22, 23, 24, 25, 26, 27, 28, 29, 30, 31, 32, 33, 34, 35, 36, 37, 38, 39, 40], [0, 1, 2, 3, 4, 5, 6, 7, 8, 9, 10, 11, 12, 13, 14, 15, 16, 17, 18, 19, 20, 21, 22, 23, 24, 25, 26, 27, 28, 29, 30, 31, 32, 33, 34, 35, 36, 37, 38, 39, 40, 41], [0, 1, 2, 3, 4, 5, 6, 7, 8, 9, 10, 11, 12, 13, 14, 15, 16, 17, 18, 19, 20, 21, 22, 23, 24, 25, 26, 27, 28, 29, 30, 31, 32, 33, 34, 35, 36, 37, 38, 39, 40, 41, 42], [0, 1, 2, 3, 4, 5, 6, 7, 8, 9, 10, 11, 12, 13, 14, 15, 16, 17, 18, 19, 20, 21, 22, 23, 24, 25, 26, 27, 28, 29, 30, 31, 32, 33, 34, 35, 36, 37, 38, 39, 40, 41, 42, 43], [0, 1, 2, 3, 4, 5, 6, 7, 8, 9, 10, 11, 12, 13, 14, 15, 16, 17, 18, 19, 20, 21, 22, 23, 24, 25, 26, 27, 28, 29, 30, 31, 32, 33, 34, 35, 36, 37, 38, 39, 40, 41, 42, 43, 44], [0, 1, 2, 3, 4, 5, 6, 7, 8, 9, 10, 11, 12, 13, 14, 15, 16, 17, 18, 19, 20, 21, 22, 23, 24, 25, 26, 27, 28, 29, 30, 31, 32, 33, 34, 35, 36, 37, 38, 39, 40, 41, 42], [0, 1, 2, 3, 4, 5, 6, 7, 8, 9, 10, 11, 12, 13, 14, 15, 16, 17, 18, 19, 20, 21, 22, 23, 24, 25, 26, 27, 28, 29, 30, 31, 32, 33, 34, 35, 36, 37, 38, 39, 40, 41, 42, 46], [0, 1, 2, 3, 4, 5, 6, 7, 8, 9, 10, 11, 12, 13, 14, 15, 16, 17, 18, 19, 20, 21, 22, 23, 24, 25, 26, 27, 28, 29, 30, 31, 32, 33, 34, 35, 36, 37, 38, 39, 40, 41, 42, 43, 44, 45, 46, 47], [0, 1, 2, 3, 4, 5, 6, 7, 8, 9, 10, 11, 12, 13, 14, 15, 16, 17, 18, 19, 20, 21, 22, 23, 24, 25, 26, 27, 28, 29, 30, 31, 32, 33, 34, 35, 36, 37, 38, 39, 40, 41, 42, 43, 44, 45, 46, 47, 48], [0, 1, 2, 3, 4, 5, 6, 7, 8, 9, 10, 11, 12, 13, 14, 15, 16, 17, 18, 19, 20, 21, 22, 23, 24, 25, 26, 27, 28, 29, 30, 31, 32, 33, 34, 35, 36, 37, 38, 39, 40, 41, 42, 43, 44, 45, 46, 47, 48, 49]] mixed rfl ?_;refine dw1 1 rfl rfl ?_;refine Zaa.go (Zad rfl rfl) ?_;refine Zae ⟨rfl, ?_⟩;refine dw1 2 rfl rfl ?_;refine Zaa.go (Za6 rfl rfl rfl) ?_;refine Zae ⟨rfl, ?_⟩;refine dw1 3 rfl rfl ?_;refine Zaa.go (Zad rfl rfl) ?_;refine ZbS 66 rfl (rfl) ?_;refine Zae ⟨rfl, ?_⟩;refine dw1 4 rfl rfl ?_;refine Zam rfl rfl rfl ?_;refine Zaa.go (Zad rfl rfl) ?_;refine Zae ⟨rfl, ?_⟩;refine dw1 5 rfl rfl ?_;refine Zam rfl rfl rfl ?_;refine Zaa.go (Za6 rfl rfl rfl) ?_;refine Zae ⟨rfl, ?_⟩;refine dw1 6 rfl rfl ?_;refine Zaa.go (Zav rfl rfl rfl rfl) ?_;refine Zae ⟨rfl, ?_⟩;refine dw1 7 rfl rfl ?_;refine Zaa.go (Zad rfl rfl) ?_;refine ZbS 70 rfl (rfl) ?_;refine Zae ⟨rfl, ?_⟩;refine dw1 8 rfl rfl ?_;refine Zam rfl rfl rfl ?_;refine Zaa.go (Zad rfl rfl) ?_;refine Zae ⟨rfl, ?_⟩;refine dw1 9 rfl rfl ?_;refine Zam rfl rfl rfl ?_;refine Zaa.go (Za6 rfl rfl rfl) ?_;refine Zae ⟨rfl, ?_⟩;refine dw1 10 rfl rfl ?_;refine Zaa.go (Zav rfl rfl rfl rfl) ?_;refine Zae ⟨rfl, ?_⟩;refine dw1 11 rfl rfl ?_;refine Zaa.go (Zad rfl rfl) ?_;refine ZbS 74 rfl (rfl) ?_;refine Zae ⟨rfl, ?_⟩;refine dw1 12 rfl rfl ?_;refine Zam rfl rfl rfl ?_;refine Zaa.go (Zad rfl rfl) ?_;refine Zae ⟨rfl, ?_⟩;refine dw1 13 rfl rfl ?_;refine Zaa.go (Zav rfl rfl rfl rfl) ?_;refine Zae ⟨rfl, ?_⟩;refine dw1 14 rfl rfl ?_;refine Zaa.go (Zad rfl rfl) ?_;refine ZbS 77 rfl (rfl) ?_;refine Zae ⟨rfl, ?_⟩;refine dw1 15 rfl rfl ?_;refine Zam rfl rfl rfl ?_;refine Zaa.go (Zad rfl rfl) ?_;refine Zae ⟨rfl, ?_⟩;refine dw1 16 rfl rfl ?_;refine Zam rfl rfl rfl ?_;refine Zaa.go (Za6 rfl rfl rfl) ?_;refine Zae ⟨rfl, ?_⟩;refine dw1 17 rfl rfl ?_;refine Zaa.go (Zav rfl rfl rfl rfl) ?_;refine Zae ⟨rfl, ?_⟩;refine dw1 18 rfl rfl ?_;refine Zaa.go (Zad rfl rfl) ?_;refine ZbS 81 rfl (rfl) ?_;refine Zae ⟨rfl, ?_⟩;refine dw1 19 rfl rfl ?_;refine Zam rfl rfl rfl ?_;refine Zaa.go (Zad rfl rfl) ?_;refine Zae ⟨rfl, ?_⟩;refine dw1 20 rfl rfl ?_;refine Zam rfl rfl rfl ?_;refine Zaa.go (Zbu rfl rfl) ?_;refine Zae ⟨rfl, ?_⟩;refine dw1 21 rfl rfl ?_;refine Zaa.go (Zav rfl rfl rfl rfl) ?_;refine Zae ⟨rfl, ?_⟩;refine dw1 22 rfl rfl ?_;refine Zaa.go (Zad rfl rfl) ?_;refine ZbS 85 rfl (rfl) ?_;refine Zae ⟨rfl, ?_⟩;refine dw1 23 rfl rfl ?_;refine Zam rfl rfl rfl ?_;refine Zaa.go (Zad rfl rfl) ?_;refine Zae ⟨rfl, ?_⟩;refine dw1 24 rfl rfl ?_;refine Zam rfl rfl rfl ?_;refine Zaa.go (Za6 rfl rfl rfl) ?_;refine Zae ⟨rfl, ?_⟩;refine dw1 25 rfl rfl ?_;refine Zaa.go (Zav rfl rfl rfl rfl) ?_;refine Zae ⟨rfl, ?_⟩;refine dw1 26 rfl rfl ?_;refine Zaa.go (Zad rfl rfl) ?_;refine ZbS 89 rfl (rfl) ?_;refine Zae ⟨rfl, ?_⟩;refine dw1 27 rfl rfl ?_;refine Zam rfl rfl rfl ?_;refine Zaa.go (Zad rfl rfl) ?_;refine Zae ⟨rfl, ?_⟩;refine dw1 28 rfl rfl ?_;refine Zam rfl rfl rfl ?_;refine Zaa.go (Zbu rfl rfl) ?_;refine Zae ⟨rfl, ?_⟩;refine dw1 29 rfl rfl ?_;refine Zaa.go (Zav rfl rfl rfl rfl) ?_;refine Zae ⟨rfl, ?_⟩;refine dw1 30 rfl rfl ?_;refine Zaa.go (Zad rfl rfl) ?_;refine ZbS 93 rfl (rfl) ?_;refine Zae ⟨rfl, ?_⟩;refine dw1 31 rfl rfl ?_;refine Zam rfl rfl rfl ?_;refine Zaa.go (Zad rfl rfl) ?_;refine Zae ⟨rfl, ?_⟩;refine dw1 32 rfl rfl ?_;refine Zam rfl rfl rfl ?_;refine Zaa.go (Za6 rfl rfl rfl) ?_;refine Zae ⟨rfl, ?_⟩;refine dw1 33 rfl rfl ?_;refine Zaa.go (Zav rfl rfl rfl rfl) ?_;refine Zae ⟨rfl, ?_⟩;refine dw1 34 rfl rfl ?_;refine Zaa.go (Zad rfl rfl) ?_;refine ZbS 97 rfl (rfl) ?_;refine Zae ⟨rfl, ?_⟩;refine dw1 35 rfl rfl ?_;refine Zam rfl rfl rfl ?_;refine Zaa.go (Zad rfl rfl) ?_;refine Zae ⟨rfl, ?_⟩;refine dw1 36 rfl rfl ?_;refine Zam rfl rfl rfl ?_;refine Zaa.go (Za6 rfl rfl rfl) ?_;refine Zae ⟨rfl, ?_⟩;refine dw1 37 rfl rfl ?_;refine Zaa.go (Zav rfl rfl rfl rfl) ?_;refine Zae ⟨rfl, ?_⟩;refine dw1 38 rfl rfl ?_;refine Zaa.go (Zad rfl rfl) ?_;refine ZbS 101 rfl (rfl) ?_;refine Zae ⟨rfl, ?_⟩;refine dw1 39 rfl rfl ?_;refine Zam rfl rfl rfl ?_;refine Zaa.go (Zad rfl rfl) ?_;refine Zae ⟨rfl, ?_⟩;refine dw1 40 rfl rfl ?_;refine Zam rfl rfl rfl ?_;refine Zaa.go (Zax rfl Tryz.underlying56 rfl) ?_;refine Zae ⟨rfl, ?_⟩;refine dw1 41 rfl rfl ?_;refine Zam rfl rfl rfl ?_;refine Zaa.go (Za6 rfl rfl rfl) ?_;refine Zae ⟨rfl, ?_⟩;refine dw1 42 rfl rfl ?_;refine Zaa.go (Zav rfl rfl rfl rfl) ?_;refine Zae ⟨rfl, ?_⟩;refine dw1 43 rfl rfl ?_;refine Zaa.go (Zad rfl rfl) ?_;refine ZbS 106 rfl (rfl) ?_;refine Zae ⟨rfl, ?_⟩;refine dws ?_;refine Zaj [13, 106] [] rfl rfl (fun _ => Zbc rfl rfl rfl (Zad rfl rfl)) ?_;refine Zaj [107, 106] [] rfl rfl (fun _ => Zbc rfl rfl rfl (Zay (0) rfl rfl (rfl) (rfl) Tryz.underlying56 rfl sz62 rfl)) ?_;refine Zaj [108, 106] [] rfl rfl (fun _ => Zbc rfl rfl rfl (ZaA rfl rfl rw62 rfl)) ?_;refine Zaj [1, 106] [1] rfl rfl (fun _ => Zbc rfl rfl rfl (Zar rfl rfl rw47 rfl rfl rfl)) ?_;refine Zaj [110, 106] [] rfl rfl (fun _ => Zbc rfl rfl rfl (Za0 zl62 pl62 rfl rfl rfl)) ?_;refine dwc 48 rfl rfl rfl ?_;refine dw1 49 rfl rfl ?_;refine Zam rfl rfl rfl ?_;refine Zaa.go (st_eqlSt (la := rooC ⟨rcA, 1⟩) (lb := rooC ⟨rcA, 1⟩) (ds := rooT) (by kernel_rfl) (by kernel_rfl) (by kernel_rfl) rfl rfl rfl rfl (roo_plain _) (roo_plain _) (roo_eqC _ _) rfl) ?_;refine Zae ⟨rfl, ?_⟩;refine dw1 50 rfl rfl ?_;refine Zaa.go (Zav rfl rfl rfl rfl) ?_;refine Zae ⟨rfl, ?_⟩;refine dw1 51 rfl rfl ?_;refine Zaa.go (Zac rfl rfl) ?_;refine Zae ⟨rfl, ?_⟩;refine dwe ?_;refine Zao ?_;exact ⟨_, [], [], Zan rfl, rfl, rfl, by simp, rfl⟩
end Go.Proofs.YtnamabifclidmaaGreat
/- Layer 29: the law of admissible and feasible sets. -/
namespace Go.Proofs.YtnamabifclidmaaGreat
open Go.RowKit

theorem cho_in {p : Prb} {l : List Int} (h : choE p l = 0) : ∀ x ∈ l, x ∈ p.it.map Itm.id := by
  have hp := choE_prb h;unfold choE at h;rw [if_neg (by omega)] at h;unfold setE at h;intro x hx;obtain ⟨k, hk, rfl⟩ := List.mem_iff_getElem.1 hx;have h0 := fst0_all h _ (List.mem_map.2 ⟨k, List.mem_range.2 hk, rfl⟩);unfold chErr at h0;rw [Za5 0 hk] at h0
  by_cases hn : l[k] ∈ p.it.map Itm.id
  · exact hn
  · rw [if_pos hn] at h0; cases h0
end Go.Proofs.YtnamabifclidmaaGreat
/- Layer 29: the laws of the reasons why sets are not admissible, and of overdrawn resources. -/
namespace Go.Proofs.YtnamabifclidmaaGreat
open Go.RowKit

end Go.Proofs.YtnamabifclidmaaGreat
/- Layer 29: the smallest admissible superset. -/
namespace Go.Proofs.YtnamabifclidmaaGreat
open Go.RowKit

inductive Rch (p : Prb) (S : List Int) : Int → Prop
  | base {x : Int} (h : x ∈ S) : Rch p S x
  | step {i : Int} {b : Bkd} (h : Rch p S i) (hb : b ∈ req p i) : Rch p S b.m
theorem Rch.ids {p : Prb} {S : List Int} (hp : prbE p = 0) (hS : ∀ x ∈ S, x ∈ p.it.map Itm.id) {x : Int} (h : Rch p S x) : x ∈ p.it.map Itm.id := by
  induction h with
  | base h => exact hS _ h
  | step _ hb ih => exact (smI_mem hp _).1 (req_in hp ih hb)
theorem blks_mem {p : Prb} {f : Int → Bool} {b : Bkd} (h : b ∈ blks p f) : ∃ i, i ∈ Za2 p ∧ f i = true ∧ b ∈ req p i ∧ f b.m = false := by
  unfold blks at h;obtain ⟨i, hi, h⟩ := List.mem_flatMap.1 h;unfold blk1 at h
  split at h
  · rename_i hf
    obtain ⟨h1, h2⟩ := List.mem_filter.1 h;exact ⟨i, hi, hf, h1, by simpa using h2⟩
  · cases h
theorem blks_none {p : Prb} {f : Int → Bool} (hp : prbE p = 0) (h : blks p f = []) {i : Int} (hi : i ∈ p.it.map Itm.id) (hf : f i = true) {b : Bkd} (hb : b ∈ req p i) : f b.m = true := by
  cases hm : f b.m with
  | true => rfl
  | false =>
    have : b ∈ blks p f := List.mem_flatMap.2 ⟨i, (ordI_perm hp).mem_iff.2 hi, by unfold blk1; rw [if_pos hf]; exact List.mem_filter.2 ⟨hb, by rw [hm]; rfl⟩⟩;rw [h] at this; cases this
noncomputable def cloS (p : Prb) (S : List Int) : List Int := sortI ((p.it.map Itm.id).filter fun x => @decide (Rch p S x) (Classical.propDecidable _))
theorem sortI_eq {l m : List Int} (h : l.Perm m) : sortI l = sortI m := sort_one ((Zcg l).trans h) ((sortI_sorted l).imp fun h => cmpI_ge.2 h)
theorem clo_one {p : Prb} {S C : List Int} (hp : prbE p = 0) (hS : ∀ x ∈ S, x ∈ p.it.map Itm.id) (hn : C.Nodup) (h : ∀ x, x ∈ C ↔ Rch p S x) : sortI C = cloS p S := by
  unfold cloS;have hi := Zb2 (ZbJ hp).2.1;refine sortI_eq ((List.perm_ext_iff_of_nodup hn (List.Nodup.sublist List.filter_sublist hi)).2 fun x => ?_);rw [h x, List.mem_filter]
  constructor
  · intro hr; exact ⟨hr.ids hp hS, by simpa using hr⟩
  · intro hr; simpa using hr.2
structure Cl (p : Prb) (S C : List Int) : Prop where
  n : C.Nodup
  s : ∀ x ∈ S, x ∈ C
  r : ∀ x ∈ C, Rch p S x
theorem Cl.len {p : Prb} {S C : List Int} (h : Cl p S C) (hp : prbE p = 0) (hS : ∀ x ∈ S, x ∈ p.it.map Itm.id) : C.length ≤ p.it.length := by
  have hi := Zb2 (ZbJ hp).2.1
  have h1 := ((List.perm_ext_iff_of_nodup h.n (List.Nodup.sublist (List.filter_sublist (p := fun x => decide (x ∈ C))) hi)).2 fun x => by
    rw [List.mem_filter]
    exact ⟨fun hx => ⟨(h.r x hx).ids hp hS, by simpa using hx⟩, fun hx => by simpa using hx.2⟩).length_eq
  have h2 := List.length_filter_le (fun x => decide (x ∈ C)) (p.it.map Itm.id);rw [List.length_map] at h2;omega
theorem Cl.done {p : Prb} {S C : List Int} (h : Cl p S C) (hp : prbE p = 0) (hS : ∀ x ∈ S, x ∈ p.it.map Itm.id) (h0 : blks p (inL C) = []) : sortI C = cloS p S := by
  refine clo_one hp hS h.n fun x => ⟨h.r x, fun hr => ?_⟩
  induction hr with
  | base hx => exact h.s _ hx
  | @step i b hr hb ih =>
    have h1 := blks_none hp h0 (hr.ids hp hS) (decide_eq_true ih) hb
    simpa [inL] using h1
theorem Cl.add {p : Prb} {S C : List Int} (h : Cl p S C) {b : Bkd} (hb : b ∈ blks p (inL C)) : Cl p S (C ++ [b.m]) ∧ b.m ∉ C := by
  obtain ⟨i, _, h2, h3, h4⟩ := blks_mem hb;have hi : i ∈ C := by simpa [inL] using h2
  have hn : b.m ∉ C := by simpa [inL] using h4
  refine ⟨⟨?_, fun x hx => List.mem_append.2 (.inl (h.s x hx)), fun x hx => ?_⟩, hn⟩
  · rw [List.nodup_append];refine ⟨h.n, by simp, fun x hx y hy e => ?_⟩;rw [List.mem_singleton] at hy; subst hy; subst e; exact hn hx
  · rcases List.mem_append.1 hx with hx | hx
    · exact h.r x hx
    · rw [List.mem_singleton.1 hx]; exact .step (h.r i hi) h3
end Go.Proofs.YtnamabifclidmaaGreat
/- Layer 29: the package's Closure. -/
namespace Go.Proofs.YtnamabifclidmaaGreat
open Go.RowKit

def keysM (M : List (Int × Bool)) : List Int := M.map Prod.fst
theorem keys_put (M : List (Int × Bool)) (x : Int) (b : Bool) : keysM (mput M x b) = if x ∈ keysM M then keysM M else keysM M ++ [x] := mput_keys
theorem Cl.put {p : Prb} {S : List Int} {M : List (Int × Bool)} (h : Cl p S (keysM M)) {x : Int} (hx : Rch p S x) : Cl p S (keysM (mput M x true)) := by
  rw [keys_put]
  split
  · exact h
  · rename_i hn
    refine ⟨?_, fun y hy => List.mem_append.2 (.inl (h.s y hy)), fun y hy => ?_⟩
    · rw [List.nodup_append];exact ⟨h.n, by simp, fun a ha b hb e => by rw [List.mem_singleton] at hb; subst hb; subst e; exact hn ha⟩
    · rcases List.mem_append.1 hy with hy | hy
      · exact h.r y hy
      · rw [List.mem_singleton.1 hy]; exact hx
end Go.Proofs.YtnamabifclidmaaGreat
/- Layer 29: the largest admissible subset; the package's Interior. -/
namespace Go.Proofs.YtnamabifclidmaaGreat
open Go.RowKit

inductive Drp (p : Prb) (S : List Int) : Int → Prop
  | base {i : Int} {b : Bkd} (hb : b ∈ req p i) (h : b.m ∉ S) : Drp p S i
  | step {i : Int} {b : Bkd} (hb : b ∈ req p i) (h : Drp p S b.m) : Drp p S i
theorem req_i {p : Prb} {i : Int} {b : Bkd} (hb : b ∈ req p i) : b.i = i := by
  unfold req at hb;rcases List.mem_append.1 hb with h | h
  · unfold reqA at h; obtain ⟨x, _, rfl⟩ := List.mem_map.1 h; rfl
  · obtain ⟨y, _, h⟩ := List.mem_flatMap.1 h;unfold reqL at h; obtain ⟨z, _, rfl⟩ := List.mem_map.1 h; rfl
noncomputable def intS (p : Prb) (S : List Int) : List Int := sortI (S.filter fun x => @decide (¬ Drp p S x) (Classical.propDecidable _))
structure Ci (p : Prb) (S C : List Int) : Prop where
  n : C.Nodup
  s : ∀ x ∈ C, x ∈ S
  r : ∀ x ∈ S, x ∉ C → Drp p S x
theorem Ci.done {p : Prb} {S C : List Int} (h : Ci p S C) (hp : prbE p = 0) (hn : S.Nodup) (hS : ∀ x ∈ S, x ∈ p.it.map Itm.id) (h0 : blks p (inL C) = []) : sortI C = intS p S := by
  have key : ∀ x, Drp p S x → x ∉ C := fun x hx => by
    induction hx with
    | @base i b hb hm =>
      intro hi;have h1 := blks_none hp h0 (hS _ (h.s _ hi)) (decide_eq_true hi) hb;exact hm (h.s _ (by simpa [inL] using h1))
    | @step i b hb _ ih =>
      intro hi;have h1 := blks_none hp h0 (hS _ (h.s _ hi)) (decide_eq_true hi) hb;exact ih (by simpa [inL] using h1)
  unfold intS;refine sortI_eq ((List.perm_ext_iff_of_nodup h.n (List.Nodup.sublist List.filter_sublist hn)).2 fun x => ?_);rw [List.mem_filter]
  constructor
  · intro hx; exact ⟨h.s x hx, by simpa using fun hd => key x hd hx⟩
  · intro hx;have h2 : ¬ Drp p S x := by simpa using hx.2
    exact Classical.byContradiction fun hc => h2 (h.r x hx.1 hc)
theorem Ci.drop {p : Prb} {S C : List Int} (h : Ci p S C) {b : Bkd} (hb : b ∈ blks p (inL C)) : Drp p S b.i ∧ b.i ∈ C := by
  obtain ⟨i, _, h2, h3, h4⟩ := blks_mem hb;have hi : i ∈ C := by simpa [inL] using h2
  have hm : b.m ∉ C := by simpa [inL] using h4
  rw [req_i h3];refine ⟨?_, hi⟩
  by_cases hs : b.m ∈ S
  · exact .step h3 (h.r _ hs hm)
  · exact .base h3 hs
theorem Ci.rest {p : Prb} {S C : List Int} (h : Ci p S C) {x : Int} (hx : Drp p S x) : Ci p S (C.filter fun y => decide (y ≠ x)) := by
  refine ⟨List.Nodup.sublist List.filter_sublist h.n, fun y hy => h.s y (List.mem_filter.1 hy).1, fun y hy hn => ?_⟩
  by_cases hc : y ∈ C
  · by_cases e : y = x
    · subst e; exact hx
    · exact absurd (List.mem_filter.2 ⟨hc, by simpa using e⟩) hn
  · exact h.r y hy hc
end Go.Proofs.YtnamabifclidmaaGreat
/- Layer 29: the reference's Interior; the law of closures and interiors. -/
namespace Go.Proofs.YtnamabifclidmaaGreat
open Go.RowKit

end Go.Proofs.YtnamabifclidmaaGreat
/- Layer 29: the law of closures and interiors. -/
namespace Go.Proofs.YtnamabifclidmaaGreat
open Go.RowKit

end Go.Proofs.YtnamabifclidmaaGreat
/- Layer 28: the reference's Settle; conversion back. -/
namespace Go.Proofs.YtnamabifclidmaaGreat
open Go.RowKit

end Go.Proofs.YtnamabifclidmaaGreat
/- Layer 29: the law of the empty set, and of arguments that are not modified. -/
namespace Go.Proofs.YtnamabifclidmaaGreat
open Go.RowKit

theorem blks_nil (p : Prb) : blks p (inL []) = [] := by
  unfold blks;rw [List.flatMap_eq_nil_iff];intro i _;unfold blk1;rw [if_neg (by simp [inL])]
theorem viol_nil {p : Prb} (hp : prbE p = 0) : viol p (setM []) = [] := by
  unfold viol;rw [List.flatMap_eq_nil_iff];intro x hx;have h := linL_n hp x hx;unfold vio1;rw [if_neg (by show ¬ x.n + vioS p x.r [] < 0; have : vioS p x.r [] = 0 := rfl; omega)]
end Go.Proofs.YtnamabifclidmaaGreat
/- Layer 29: the ids that bits select. -/
namespace Go.Proofs.YtnamabifclidmaaGreat
open Go.RowKit

end Go.Proofs.YtnamabifclidmaaGreat
/- Layer 29: the union of two feasible sets; the plain law. -/
namespace Go.Proofs.YtnamabifclidmaaGreat
open Go.RowKit

theorem pref_mem {q : List Int} {i y : Int} (hi : i ∈ q) (hy : y ∈ q) (h : q.idxOf y < q.idxOf i) : y ∈ prefQ i q := by
  unfold prefQ;rw [prefN_in hi];have hl := List.idxOf_lt_length_of_mem hy;exact List.mem_take_iff_getElem.2 ⟨q.idxOf y, by omega, List.getElem_idxOf hl⟩
theorem adm_pref {p : Prb} {C : List Int} (hp : prbE p = 0) (h0 : blks p (inL C) = []) {i : Int} (hid : i ∈ p.it.map Itm.id) (hi : i ∈ C) {x : Lin} (hx : x ∈ linL p) {y : Int} (hy : y ∈ prefQ i x.q) : y ∈ C := by
  have hb : (⟨i, y, x.r⟩ : Bkd) ∈ req p i := by
    unfold req;exact List.mem_append.2 (.inr (List.mem_flatMap.2 ⟨x, hx, List.mem_map.2 ⟨y, hy, rfl⟩⟩))
  have := blks_none hp h0 hid (decide_eq_true hi) hb
  simpa [inL] using this
theorem adm_cmp {p : Prb} {C D : List Int} (hp : prbE p = 0) (hC : ∀ x ∈ C, x ∈ p.it.map Itm.id) (hD : ∀ x ∈ D, x ∈ p.it.map Itm.id) (h0 : blks p (inL C) = []) (h1 : blks p (inL D) = []) {x : Lin} (hx : x ∈ linL p) : (∀ y ∈ x.q, y ∈ D → y ∈ C) ∨ ∀ y ∈ x.q, y ∈ C → y ∈ D := by
  refine Classical.byCases Or.inl fun hn => .inr fun c hc hcC => ?_;obtain ⟨d, hd⟩ := Classical.not_forall.1 hn;have hdq : d ∈ x.q := Classical.byContradiction fun h => hd fun h2 => absurd h2 h;have hdD : d ∈ D := Classical.byContradiction fun h => hd fun _ h2 => absurd h2 h;have hdC : d ∉ C := fun h => hd fun _ _ => h;rcases Nat.lt_trichotomy (x.q.idxOf c) (x.q.idxOf d) with h | h | h
  · exact adm_pref hp h1 (hD d hdD) hdD hx (pref_mem hdq hc h)
  · have e1 := List.getElem_idxOf (List.idxOf_lt_length_of_mem hc);have e2 := List.getElem_idxOf (List.idxOf_lt_length_of_mem hdq);have : c = d := by rw [← e1, ← e2]; congr 1
    exact absurd (this ▸ hcC) hdC
  · exact absurd (adm_pref hp h0 (hC c hcC) hcC hx (pref_mem hc hdq h)) hdC
theorem uni_adm {p : Prb} {C D : List Int} (hp : prbE p = 0) (hC : ∀ x ∈ C, x ∈ p.it.map Itm.id) (hD : ∀ x ∈ D, x ∈ p.it.map Itm.id) (h0 : blks p (inL C) = []) (h1 : blks p (inL D) = []) {U : List Int} (hU : ∀ x, x ∈ U ↔ x ∈ C ∨ x ∈ D) : blks p (inL U) = [] := by
  cases hb : blks p (inL U) with
  | nil => rfl
  | cons b r =>
    exfalso
    have hm : b ∈ blks p (inL U) := by rw [hb]; exact List.mem_cons_self
    obtain ⟨i, _, h2, h3, h4⟩ := blks_mem hm;have hi : i ∈ U := by simpa [inL] using h2
    have hn : b.m ∉ U := by simpa [inL] using h4
    rcases (hU i).1 hi with h | h
    · have := blks_none hp h0 (hC i h) (decide_eq_true h) h3;exact hn ((hU _).2 (.inl (by simpa [inL] using this)))
    · have := blks_none hp h1 (hD i h) (decide_eq_true h) h3;exact hn ((hU _).2 (.inr (by simpa [inL] using this)))
theorem viol_iff {p : Prb} {M : List (Int × Bool)} : viol p M = [] ↔ ∀ x ∈ linL p, 0 ≤ x.n + vioS p x.r M := by
  unfold viol;rw [List.flatMap_eq_nil_iff]
  constructor
  · intro h x hx;have := h x hx;unfold vio1 at this
    split at this
    · cases this
    · omega
  · intro h x hx;have := h x hx;unfold vio1;rw [if_neg (by omega)]
theorem vioS_app (p : Prb) (r : Rsc) (a b : List Int) : vioS p r (setM (a ++ b)) = vioS p r (setM a) + vioS p r (setM b) := by
  unfold vioS setM; rw [List.map_append, List.map_append, List.sum_append]
theorem vioS_pos {p : Prb} {r : Rsc} : ∀ {l : List Int}, (∀ y ∈ l, 0 ≤ dltE (itmOf p y) r) → 0 ≤ vioS p r (setM l)
  | [], _ => by simp [vioS, setM]
  | x :: l, h => by
    have h1 := vioS_pos (l := l) fun y hy => h y (List.mem_cons_of_mem _ hy);have h2 := h x List.mem_cons_self;show 0 ≤ vioS p r ((x, true) :: setM l);rw [vioS_cons', if_pos rfl]; omega
theorem dlt_pos {p : Prb} (hp : prbE p = 0) {y : Int} (hy : y ∈ p.it.map Itm.id) {x : Lin} (hx : x ∈ linL p) (hq : y ∉ x.q) : 0 ≤ dltE (itmOf p y) x.r := by
  unfold linL at hx;obtain ⟨o, _, rfl⟩ := List.mem_map.1 hx;obtain ⟨hk, _, he, hid⟩ := itmOf_at hy;refine Classical.byContradiction fun hn => hq ?_;show y ∈ qIds (ordP p) o.r;unfold qIds
  have hm : itmOf p y ∈ ordP p := by
    unfold ordP; rw [if_pos hp];exact (sortO_perm p.it).mem_iff.2 (by rw [he]; exact List.getElem_mem hk)
  exact List.mem_map.2 ⟨itmOf p y, List.mem_filter.2 ⟨hm, decide_eq_true (by have : ¬ 0 ≤ dltE (itmOf p y) o.r := hn; omega)⟩, hid⟩
def uniL (C D : List Int) : List Int := C ++ D.filter fun y => !inL C y
theorem uniL_mem {C D : List Int} (x : Int) : x ∈ uniL C D ↔ x ∈ C ∨ x ∈ D := by
  unfold uniL;rw [List.mem_append, List.mem_filter]
  by_cases h : x ∈ C
  · simp [h]
  · simp [h, inL]
theorem uniL_nodup {C D : List Int} (hc : C.Nodup) (hd : D.Nodup) : (uniL C D).Nodup := by
  unfold uniL;rw [List.nodup_append];refine ⟨hc, List.Nodup.sublist List.filter_sublist hd, fun x hx y hy e => ?_⟩;subst e;have := (List.mem_filter.1 hy).2
  simp [inL, hx] at this
theorem uni_half {p : Prb} {C D : List Int} (hp : prbE p = 0) (hD : ∀ x ∈ D, x ∈ p.it.map Itm.id) {x : Lin} (hx : x ∈ linL p) (h : ∀ y ∈ x.q, y ∈ D → y ∈ C) : vioS p x.r (setM C) ≤ vioS p x.r (setM (uniL C D)) := by
  unfold uniL;rw [vioS_app]
  have := vioS_pos (p := p) (r := x.r) (l := D.filter fun y => !inL C y) fun y hy => by
    obtain ⟨h1, h2⟩ := List.mem_filter.1 hy;have h3 : y ∉ C := by simpa [inL] using h2
    exact dlt_pos hp (hD y h1) hx fun hq => h3 (h y hq h1)
  omega
theorem uni_fea {p : Prb} {C D : List Int} (hp : prbE p = 0) (hC : ∀ x ∈ C, x ∈ p.it.map Itm.id) (hD : ∀ x ∈ D, x ∈ p.it.map Itm.id) (nC : C.Nodup) (nD : D.Nodup) (h0 : blks p (inL C) = []) (h1 : blks p (inL D) = []) (v0 : viol p (setM C) = []) (v1 : viol p (setM D) = []) : blks p (inL (uniL C D)) = [] ∧ viol p (setM (uniL C D)) = [] := by
  refine ⟨uni_adm hp hC hD h0 h1 uniL_mem, viol_iff.2 fun x hx => ?_⟩;have k0 := viol_iff.1 v0 x hx;have k1 := viol_iff.1 v1 x hx;rcases adm_cmp hp hC hD h0 h1 hx with h | h
  · have := uni_half hp hD hx h; omega
  · have h2 := uni_half hp hC hx h
    have hpm : (uniL D C).Perm (uniL C D) := (List.perm_ext_iff_of_nodup (uniL_nodup nD nC) (uniL_nodup nC nD)).2 fun y => by
      rw [uniL_mem, uniL_mem]; exact Or.comm
    have h3 : (setM (uniL D C)).Perm (setM (uniL C D)) := hpm.map _;have h4 : vioS p x.r (setM (uniL D C)) = vioS p x.r (setM (uniL C D)) := vioS_perm h3;omega
end Go.Proofs.YtnamabifclidmaaGreat
/- Layer 29: the law of unions of feasible sets. -/
namespace Go.Proofs.YtnamabifclidmaaGreat
open Go.RowKit

theorem choE_ok {p : Prb} (hp : prbE p = 0) {l : List Int} (hn : l.Nodup) (hS : ∀ x ∈ l, x ∈ p.it.map Itm.id) : choE p l = 0 := by
  unfold choE;rw [if_neg (by omega)];unfold setE;refine Zbt.2 fun k hk => ?_;have hk' := List.mem_range.1 hk;unfold chErr;rw [Za5 0 hk', if_neg (fun h => h (hS _ (List.getElem_mem hk'))), if_neg];intro hm;obtain ⟨j, hj, e⟩ := List.mem_take_iff_getElem.1 hm;rw [List.Nodup, List.pairwise_iff_getElem] at hn;exact hn j k (by omega) hk' (by omega) e
end Go.Proofs.YtnamabifclidmaaGreat
/- Layer 29: closures and interiors are monotone and idempotent, and admissible sets form a lattice; the plain law. -/
namespace Go.Proofs.YtnamabifclidmaaGreat
open Go.RowKit

theorem Rch.mono {p : Prb} {S T : List Int} (h : ∀ x ∈ S, x ∈ T) {x : Int} (hx : Rch p S x) : Rch p T x := by
  induction hx with
  | base hx => exact .base (h _ hx)
  | step _ hb ih => exact .step ih hb
theorem adm_of {p : Prb} {C : List Int} (h : ∀ i ∈ C, ∀ b ∈ req p i, b.m ∈ C) : blks p (inL C) = [] := by
  cases hb : blks p (inL C) with
  | nil => rfl
  | cons b r =>
    exfalso
    obtain ⟨i, _, h2, h3, h4⟩ := blks_mem (p := p) (f := inL C) (b := b) (by rw [hb]; exact List.mem_cons_self);have hi : i ∈ C := by simpa [inL] using h2
    have hn : b.m ∉ C := by simpa [inL] using h4
    exact hn (h i hi b h3)
theorem adm_req {p : Prb} {C : List Int} (hp : prbE p = 0) (hC : ∀ x ∈ C, x ∈ p.it.map Itm.id) (h0 : blks p (inL C) = []) {i : Int} (hi : i ∈ C) {b : Bkd} (hb : b ∈ req p i) : b.m ∈ C := by
  have := blks_none hp h0 (hC i hi) (decide_eq_true hi) hb
  simpa [inL] using this
end Go.Proofs.YtnamabifclidmaaGreat
/- Layer 29: feasible sets and larger rooms; the plain law. -/
namespace Go.Proofs.YtnamabifclidmaaGreat
open Go.RowKit

theorem linL_mem {p : Prb} {x : Lin} : x ∈ linL p ↔ ∃ o ∈ p.ro, toLin p o = x := by
  unfold linL;rw [List.mem_map];exact ⟨fun ⟨o, ho, e⟩ => ⟨o, (linR_perm p.ro).mem_iff.1 ho, e⟩, fun ⟨o, ho, e⟩ => ⟨o, (linR_perm p.ro).mem_iff.2 ho, e⟩⟩
theorem req_mem {p : Prb} {i m : Int} : (∃ b ∈ req p i, b.m = m) ↔ m ∈ (itmOf p i).af ∨ ∃ o ∈ p.ro, m ∈ prefQ i (qIds (ordP p) o.r) := by
  constructor
  · rintro ⟨b, hb, rfl⟩;unfold req at hb;rcases List.mem_append.1 hb with h | h
    · unfold reqA at h;obtain ⟨x, hx, rfl⟩ := List.mem_map.1 h;exact .inl ((Zcg _).mem_iff.1 hx)
    · obtain ⟨x, hx, h⟩ := List.mem_flatMap.1 h;obtain ⟨o, ho, rfl⟩ := linL_mem.1 hx;unfold reqL at h;obtain ⟨y, hy, rfl⟩ := List.mem_map.1 h;exact .inr ⟨o, ho, hy⟩
  · rintro (h | ⟨o, ho, h⟩)
    · exact ⟨⟨i, m, rsc0⟩, by
        unfold req reqA
        exact List.mem_append.2 (.inl (List.mem_map.2 ⟨m, (Zcg _).mem_iff.2 h, rfl⟩)), rfl⟩
    · exact ⟨⟨i, m, o.r⟩, by
        unfold req
        exact List.mem_append.2 (.inr (List.mem_flatMap.2 ⟨toLin p o, linL_mem.2 ⟨o, ho, rfl⟩, List.mem_map.2 ⟨m, h, rfl⟩⟩)), rfl⟩
theorem roomsE_ok {l : List Roo} (h : ∀ o ∈ l, validE o.r = 0 ∧ -4 * Mx ≤ o.n ∧ o.n ≤ 4 * Mx) (hn : (l.map Roo.r).Nodup) : roomsE l = 0 := by
  unfold roomsE;refine Zbt.2 fun k hk => ?_;have hk' := List.mem_range.1 hk;have h1 := h _ (List.getElem_mem hk');unfold rErr;rw [Za5 roo0 hk', if_neg (fun h => h h1.1), if_neg (fun h => h h1.2), if_neg];intro hm;rw [List.map_take] at hm;obtain ⟨j, hj, e⟩ := List.mem_take_iff_getElem.1 hm;rw [List.Nodup, List.pairwise_iff_getElem] at hn;have hj2 : j < k := by omega
  refine hn j k (by rw [List.length_map]; omega) (by rw [List.length_map]; exact hk') hj2 ?_;rw [e, List.getElem_map]
structure Chg (R : Int → Int → Prop) (l Y : List Roo) : Prop where
  len : Y.length = l.length
  at_ : ∀ (j : Nat) x y, l[j]? = some x → Y[j]? = some y → y.r = x.r ∧ -4 * Mx ≤ y.n ∧ y.n ≤ 4 * Mx ∧ R x.n y.n
theorem Chg.set {R : Int → Int → Prop} {l Y : List Roo} (h : Chg R l Y) {k : Nat} (hk : k < Y.length) {n : Int} (h1 : -4 * Mx ≤ n ∧ n ≤ 4 * Mx) (h2 : ∀ x, R x Y[k].n → R x n) : Chg R l (Y.set k ⟨Y[k].r, n⟩) :=
  ⟨by rw [List.length_set]; exact h.len, fun j x y hx hy => by
    rw [List.getElem?_set] at hy
    split at hy
    · rename_i e; subst e
      first | (rw [if_pos hk] at hy; injection hy with hy; subst hy) | (injection hy with hy; subst hy)
      have := h.at_ k x _ hx (List.getElem?_eq_getElem hk);exact ⟨this.1, h1.1, h1.2, h2 _ this.2.2.2⟩
    · exact h.at_ j x y hx hy⟩
theorem Chg.map {R : Int → Int → Prop} {l Y : List Roo} (h : Chg R l Y) : Y.map Roo.r = l.map Roo.r := by
  refine List.ext_getElem (by rw [List.length_map, List.length_map, h.len]) fun j h1 h2 => ?_;rw [List.length_map] at h1 h2;rw [List.getElem_map, List.getElem_map];exact (h.at_ j _ _ (List.getElem?_eq_getElem h2) (List.getElem?_eq_getElem h1)).1
theorem Chg.mem {R : Int → Int → Prop} {l Y : List Roo} (h : Chg R l Y) : ∀ y ∈ Y, ∃ x ∈ l, y.r = x.r ∧ -4 * Mx ≤ y.n ∧ y.n ≤ 4 * Mx ∧ R x.n y.n := fun y hy => by
  obtain ⟨j, hj, rfl⟩ := List.mem_iff_getElem.1 hy;have hj' : j < l.length := by rw [← h.len]; exact hj
  exact ⟨l[j], List.getElem_mem hj', h.at_ j _ _ (List.getElem?_eq_getElem hj') (List.getElem?_eq_getElem hj)⟩
end Go.Proofs.YtnamabifclidmaaGreat
