/- Proved here: feasibleAll_holds, the given statement Rows.FeasibleAllSaid: the law girolaw29.FeasibleAll returns true and does not panic, at every input that the statement speaks of; no condition beyond the statement. -/
/- Layer 29: All at a problem that is not valid; what the law of the enumeration counts. -/
import Derived.Test.YtnamabifclidmaaGreatMg24
namespace Go.Proofs.YtnamabifclidmaaGreat
open Go.RowKit

theorem Awp.code {P : Program} {F : Fr} {Q : Exit → AS → Prop} {s : AS} {c c' : Code} (e : c = c') (h : Awp P F c' Q s) : Awp P F c Q s := e ▸ h
section
variable {P : Program} {F : Fr} {s : AS} {d : Nat} {x y : Operand} {T T' : TypeId} {ty : TypeId} {pos : String} {aft : Array Edge} {g : Option (Nat × Bool)} {k : IntKind} {a b : Int}
theorem st_eqlY (hx : s.ev x = some (.d (.raw (.int k a)))) (hy : s.ev y = some (.d (.raw (.int k b)))) (h : a = b) (hd : Nat.blt d s.n = true) : Zaa P F ⟨some d, .binOp .eql T x y T', ty, pos, aft, g⟩ s d (.d (.raw (.bool true))) := by
  have h2 := ZaZ (P := P) (F := F) (T := T) (T' := T') (ty := ty) (pos := pos) (aft := aft) (g := g) hx hy hd;rw [decide_eq_true h] at h2; exact h2
end
set_option maxRecDepth 100000 in
theorem all1_bad (p : Prb) (hb : PrbB p) (hE : prbE p ≠ 0) (l : Nat) (H : Hp) (N : List Nat) (hN : hpN H = N) (hP : part? H N = some H) (hm : ∀ f ∈ [971, 972], memB f N = false) (hk : ∀ f ∈ [971, 972], killH? f H = some H) :
    ACalls Tryz.prog 63 [.d (.raw (yieldV l)), .d (.ptr (prbD p))] H fun r H' => r = .tup [] ∧ H' = H := by
  have hbg := begin_bad p hb hE;have m71 := hm 971 (by simp);have m72 := hm 972 (by simp);have k71 := hk 971 (by simp);have k72 := hk 972 (by simp);have hz : ∀ f, memB f N = false → hfam H f = none := fun f hf => hfam_none (by rw [hN]; exact hf);have x5 : namesIn N H = true := by have h := Zbz H; rw [hN] at h; exact h
  refine ZaC Tryz.func63 rfl rfl Tryz.ntmps63 rfl rfl rfl fun F hF => ?_;refine Zaf ?_;refine Zab ?_;refine Zal.go (ZaM 971 rfl rfl rfl rfl k71 (hnewN (hz _ m71)) rfl) ?_;refine Zae ?_;refine Zaf ?_;refine a_freezeB 2 971 (.raw (yieldV l)) N (hF.trans hN) rfl rfl rfl (by intro c hc; simp [D.cells] at hc; subst hc; rfl) m71 (subB_refl N) ((partN m71).trans hP) ?_;refine Zab ?_
  first | refine Zaa.go (ZaE rfl rfl rw35 rfl) ?_ | refine Zaa.go (Zay rfl rfl rw35 rfl rfl rfl) ?_ | refine Zaa.go (Za8 rfl rfl (rfl) rfl rw35 rfl) ?_
  refine Zaa.go (Zas (hbg) rfl rfl) ?_;refine Zaa.go (Zac rfl rfl) ?_
  first | refine Zaa.go (ZaL rfl rfl rfl) ?_ | refine Zaa.go (ZaK rfl rfl rfl) ?_
  first | refine Zaa.go (ZaL rfl rfl rfl) ?_ | refine Zaa.go (ZaK rfl rfl rfl) ?_
  refine Zal.go (ZaR 972 zl124 rfl k72 (hnewN (hz _ m72)) rfl) ?_;refine Zal.go (ZaG rfl rfl rfl rfl rfl rfl rfl sz124) ?_;refine Zaa.go (Zad rfl rfl) ?_;refine Zae ?_;refine Zaf ?_;refine Zaf ?_;refine a_freezeB 3 972 (.raw (.pointer none)) N (hF.trans hN) rfl rfl rfl (by intro c hc; simp [D.cells] at hc; subst hc; rfl) m72 (subB_refl N) ((partN m72).trans hP) ?_;refine Zab ?_;refine Zaa.go (Zac rfl rfl) ?_
  first | refine Zaa.go (Za7 rfl rfl rfl) ?_ | refine Zaa.go (Zbo rfl rfl rfl) ?_ | refine Zaa.go (ZbP rfl rfl rfl) ?_ | refine Zaa.go (ZbV Tryz.underlying29 rfl rfl rfl) ?_ | refine Zaa.go (ZbT Tryz.underlying29 rfl rfl rfl) ?_ | refine Zaa.go (st_neqN Tryz.underlying29 rfl rfl) ?_ | refine Zaa.go (ZbU Tryz.underlying29 rfl rfl rfl) ?_ | refine Zaa.go (st_neqFN Tryz.underlying29 rfl rfl) ?_
  refine Zae ?_;refine ZaQ rfl ((decide_eq_true hE)) ?_;refine Zar ?_;exact ⟨_, N, _, Zan rfl, hP, x5, rfl, rfl⟩
def feaW (p : Prb) (L : List Int) : Bool := decide (blks p (inL L) = [] ∧ viol p (setM L) = [])
def gW (p : Prb) (W : List (List Int)) (k : Nat) : Nat := ((W.take k).filter (feaW p)).length
def uW (p : Prb) (W : List (List Int)) (k : Nat) : List Int := ((W.take k).filter (feaW p)).foldl uniL []
theorem caseW (p : Prb) (W : List (List Int)) (k : Nat) (hk : k < W.length) : (feaW p W[k] = false ∧ gW p W (k + 1) = gW p W k ∧ uW p W (k + 1) = uW p W k) ∨ (feaW p W[k] = true ∧ gW p W (k + 1) = gW p W k + 1 ∧ uW p W (k + 1) = uniL (uW p W k) W[k]) := by
  unfold gW uW;rw [flt_snoc hk]
  cases h : feaW p W[k] with
  | false => left; simp
  | true => right; simp
theorem gW_le (p : Prb) (W : List (List Int)) (k : Nat) : gW p W k ≤ k := by
  unfold gW;refine Nat.le_trans (List.length_filter_le _ _) ?_;rw [List.length_take]; omega
theorem foldU_mem : ∀ (Ls : List (List Int)) (u : List Int) (y : Int), y ∈ Ls.foldl uniL u ↔ y ∈ u ∨ ∃ L ∈ Ls, y ∈ L
  | [], u, y => by simp
  | L :: Ls, u, y => by
    rw [List.foldl_cons, foldU_mem Ls, uniL_mem];simp only [List.mem_cons, exists_eq_or_imp];exact or_assoc
theorem foldU_nodup : ∀ (Ls : List (List Int)) (u : List Int), u.Nodup → (∀ L ∈ Ls, L.Nodup) → (Ls.foldl uniL u).Nodup
  | [], u, hu, _ => hu
  | L :: Ls, u, hu, h => foldU_nodup Ls _ (uniL_nodup hu (h L (by simp))) fun M hM => h M (by simp [hM])
theorem allW_nodup {p : Prb} (hp : prbE p = 0) : ∀ L ∈ allW (smlOf p), L.Nodup := fun L hL => by
  obtain ⟨y, _, _, rfl⟩ := (mem_allW L).1 hL;exact (listS_lt (smI_lt hp) y).imp fun h => by omega
theorem allW_in {p : Prb} (hp : prbE p = 0) : ∀ L ∈ allW (smlOf p), ∀ x ∈ L, x ∈ p.it.map Itm.id := fun L hL x hx => by
  obtain ⟨y, _, _, rfl⟩ := (mem_allW L).1 hL;exact (smI_mem hp x).1 (listS_in x hx)
theorem allW_len1 {p : Prb} (hp : prbE p = 0) : ∀ L ∈ allW (smlOf p), L.length ≤ p.it.length := fun L hL => by
  obtain ⟨y, _, _, rfl⟩ := (mem_allW L).1 hL;rw [listS_len];refine Nat.le_trans (List.length_filter_le _ _) ?_;rw [List.length_range];exact Nat.le_of_eq (smI_len hp)
theorem uW_in {p : Prb} (hp : prbE p = 0) (k : Nat) : ∀ x ∈ uW p (allW (smlOf p)) k, x ∈ p.it.map Itm.id := fun x hx => by
  unfold uW at hx;rcases (foldU_mem _ _ _).1 hx with h | ⟨L, h1, h2⟩
  · cases h
  · exact allW_in hp L (List.mem_of_mem_take (List.mem_filter.1 h1).1) x h2
theorem uW_nodup {p : Prb} (hp : prbE p = 0) (k : Nat) : (uW p (allW (smlOf p)) k).Nodup := by
  unfold uW;exact foldU_nodup _ _ List.nodup_nil fun L hL => allW_nodup hp L (List.mem_of_mem_take (List.mem_filter.1 hL).1)
theorem sub_len {l m : List Int} (hn : l.Nodup) (hm : m.Nodup) (h : ∀ x ∈ l, x ∈ m) : l.length ≤ m.length := by
  have h1 := ((List.perm_ext_iff_of_nodup hn (List.Nodup.sublist (List.filter_sublist (p := fun x => decide (x ∈ l))) hm)).2 fun x => by
    rw [List.mem_filter]
    exact ⟨fun hx => ⟨h x hx, by simpa using hx⟩, fun hx => by simpa using hx.2⟩).length_eq
  have h2 := List.length_filter_le (fun x => decide (x ∈ l)) m;omega
theorem uW_len {p : Prb} (hp : prbE p = 0) (k : Nat) : (uW p (allW (smlOf p)) k).length ≤ p.it.length := by
  have := sub_len (uW_nodup hp k) (items_ids (prb_ok hp).2.1) (uW_in hp k);rw [List.length_map] at this; exact this
theorem fea_S {p : Prb} (hp : prbE p = 0) (hn : p.it.length ≤ 31) {x : Nat} (hx : x ∈ allX (smlOf p)) : feaS (smlOf p) x = feaW p (listS (smlOf p) x) := by
  have ha := (admS_iff hp hn x).1 ((mem_allX' x).1 hx).2;unfold feaW;rw [Bool.eq_iff_iff, feaS_iff, decide_eq_true_eq];exact ⟨fun h => ⟨ha, h⟩, fun h => h.2⟩
theorem filter_map2 {α β : Type} (f : α → β) (q : β → Bool) : ∀ l : List α, (l.map f).filter q = (l.filter fun a => q (f a)).map f
  | [] => rfl
  | a :: l => by
    rw [List.map_cons, List.filter_cons, List.filter_cons, filter_map2 f q l]
    split <;> rfl
theorem gW_end {p : Prb} (hp : prbE p = 0) (hn : p.it.length ≤ 31) : gW p (allW (smlOf p)) (allW (smlOf p)).length = ((allX (smlOf p)).filter (feaS (smlOf p))).length := by
  unfold gW;rw [List.take_length];show (((allX (smlOf p)).map (listS (smlOf p))).filter (feaW p)).length = _;rw [filter_map2, List.length_map]
  congr 1
  refine List.filter_congr fun x hx => ?_;rw [fea_S hp hn hx]
theorem uW_end {p : Prb} (hp : prbE p = 0) (hn : p.it.length ≤ 31) : unoL p = sortI (uW p (allW (smlOf p)) (allW (smlOf p)).length) := by
  refine sort_one ?_ (((listS_lt (smI_lt hp) _).imp fun h => cmpI_ge.2 (by omega)));refine (List.perm_ext_iff_of_nodup (unoL_nodup hp) (uW_nodup hp _)).2 fun y => ?_;rw [mem_unoL hp];unfold uW;rw [List.take_length, foldU_mem]
  constructor
  · rintro ⟨x, h1, h2, h3⟩;refine .inr ⟨listS (smlOf p) x, List.mem_filter.2 ⟨List.mem_map.2 ⟨x, h1, rfl⟩, ?_⟩, h3⟩;rw [← fea_S hp hn h1]; exact h2
  · rintro (h | ⟨L, h1, h2⟩)
    · cases h
    · obtain ⟨h3, h4⟩ := List.mem_filter.1 h1;obtain ⟨x, h5, rfl⟩ := List.mem_map.1 h3;exact ⟨x, h5, by rw [fea_S hp hn h5]; exact h4, h2⟩
theorem nodup_take {l : List Int} (hn : l.Nodup) {j : Nat} (hj : j < l.length) : l[j] ∉ l.take j := fun h => by
  obtain ⟨i, hi, e⟩ := List.mem_take_iff_getElem.1 h;rw [List.Nodup, List.pairwise_iff_getElem] at hn;exact hn i j (by omega) hj (by omega) e
def stepW (z : Nat) (q : Nat × Bool) (_L : List Int) : (Nat × Bool) × Bool := ((q.1 + 1, decide (z < q.1 + 1)), decide (q.1 + 1 ≤ z))
theorem feeds_W {P : Program} {l z : Nat} {H : Nat × Bool → Hp} {W : List (List Int)}
    (hY : ∀ k (hk : k < W.length), YCalls P l (encL W[k]) (H (k, false)) fun v H' => v = .d (.raw (.bool (decide (k + 1 ≤ z)))) ∧ H' = H (k + 1, decide (z < k + 1))) :
    ∀ (X : List (List Int)) (k : Nat), X = W.drop k → Feeds P l encL H (stepW z) (k, false) X
  | [], _, _ => trivial
  | L :: X, k, h => by
    have hk : k < W.length := by
      rcases Nat.lt_or_ge k W.length with h' | h'
      · exact h'
      · rw [List.drop_of_length_le h'] at h; cases h
    rw [List.drop_eq_getElem_cons hk] at h;injection h with h1 h2
    subst h1;refine ⟨hY k hk, fun hgo => ?_⟩;have hgo' : k + 1 ≤ z := of_decide_eq_true hgo;show Feeds P l encL H (stepW z) (k + 1, decide (z < k + 1)) X;rw [decide_eq_false (by omega)];exact feeds_W hY X (k + 1) h2
theorem feed_W {z : Nat} {W : List (List Int)} : ∀ (X : List (List Int)) (k : Nat), k ≤ z → X = W.drop k → k ≤ W.length → feed (stepW z) (k, false) X = (min W.length (z + 1), decide (z + 1 ≤ W.length))
  | [], k, hs, h, hk => by
    have : W.length = k := by
      have := congrArg List.length h
      simp at this; omega
    subst this;show (_, _) = _;rw [decide_eq_false (by omega), show min W.length (z + 1) = W.length by omega]
  | L :: X, k, hs, h, hk => by
    have hk' : k < W.length := by
      have := congrArg List.length h
      simp at this; omega
    rw [List.drop_eq_getElem_cons hk'] at h;injection h with h1 h2
    rw [Zbv];show (if decide (k + 1 ≤ z) = true then feed (stepW z) (k + 1, decide (z < k + 1)) X else (k + 1, decide (z < k + 1))) = _
    by_cases hgo : k + 1 ≤ z
    · rw [decide_eq_true hgo, if_pos rfl, decide_eq_false (by omega)];exact feed_W X (k + 1) hgo h2 hk'
    · rw [decide_eq_false hgo, if_neg (by decide), decide_eq_true (by omega), decide_eq_true (by omega), show min W.length (z + 1) = k + 1 by omega]
end Go.Proofs.YtnamabifclidmaaGreat
/- Openers of small numbers. No program in sight. -/
namespace Go.Proofs.YtnamabifclidmaaGreat
open Go.ChangeShapes Go.WideShapes Go.ChangeAt Go.RowKit

section
variable {H : Type} {enc : TypeId × Value → H} {P : Program} {w : World}
theorem openU8 {t : TypeId} (ht : P.underlying t = some (.int .u8)) : OpenT enc P w t 1 (fun n : Nat => .raw (.int .u8 (n : Int))) (fun n => n < 256) :=
  (openInt ht).asQ Int.toNat (fun a ⟨h1, _⟩ => by rw [Int.toNat_of_nonneg h1]) (fun a ⟨h1, h2⟩ => by have : a ≤ 255 := h2; omega)
end
end Go.Proofs.YtnamabifclidmaaGreat
/- Layer 29: the law of the enumeration of admissible and feasible sets. -/
namespace Go.Proofs.YtnamabifclidmaaGreat
open Go.RowKit

abbrev u8D (n : Nat) : D := .raw (.int .u8 (n : Int))
abbrev hAl (p : Prb) (W : List (List Int)) (z : Nat) (q : Nat × Bool) : Hp := [(1, [prbB2 25 p]), (2, [.blk 5 [.d (u8D z)]]), (3, [.blk 4 [.d (boolD q.2)]]), (4, [.blk 3 [.d (intD (W.length : Int))]]), (5, [.blk 29 [.d (intD 0)]]), (6, [.blk 91 [.d (.sl none (W.map rowZ))]]), (7, [.blk 3 [.d (intD (q.1 : Int))]]), (8, [.blk 3 [.d (intD (gW p W q.1 : Int))]]), (9, [.blk 26 [.own 910 0 (uW p W q.1).length]]), (910, [.rowD 3 1 ((uW p W q.1).map intD)])]
set_option maxRecDepth 100000 in
set_option maxHeartbeats 4000000 in
theorem lawF9_p (p : Prb) (z : Nat) (hz : z < 256) : PCalls Tryz.prog 11 [.d (prbD p), .d (u8D z)] (.raw (.bool true)) := by
  have hk := known29_p;have hs := small_p p
  by_cases hf : Sml p
  · rw [decide_eq_true hf] at hs;have g1 := hf.1;have g2 := hf.2.1;have g3 := hf.2.2;have ck := refpcheck_p p (by omega) (by omega) (fun i hi => by have := g3 i hi; omega);have c1 := own_p p hf
    by_cases h7 : p.it.length ≤ 7
    · by_cases hp : prbE p = 0
      · rw [hp] at ck;have cc := count_ok p (sml_B hf) hp (by omega) (by omega);have cu := union_ok p (sml_B hf) hp (by omega) (by omega);have ca := refall_p p (sml_V hf hp) h7;have hlen : (allX (smlOf p)).length = (allW (smlOf p)).length := (List.length_map _).symm;have hwl : (allW (smlOf p)).length ≤ 100000000 := by rw [← hlen]; exact allX_len (by show (smI p).length ≤ 20; rw [smI_len hp]; omega)
        rw [hlen, ← gW_end hp (by omega)] at cc;have hW1 := allW_len1 hp;have hWn := allW_nodup hp;have hWi := allW_in hp;have hul := fun k => uW_len hp k;have hue := uW_end hp (by omega);have huq : listS (smlOf p) (unoB (smlOf p)) = unoL p := rfl;rw [huq] at cu;have hal := fun l H N step st0 => all1_c (β := Nat × Bool) p (sml_B hf) hp (by omega) (by omega) l H N step st0
        obtain ⟨W, hW⟩ : ∃ W, allW (smlOf p) = W := ⟨_, rfl⟩
        rw [hW] at cc ca hwl hW1 hWn hWi hul hue;rw [hW] at hal
        obtain ⟨U, hU⟩ : ∃ U, unoL p = U := ⟨_, rfl⟩
        rw [hU] at cu hue;have hUl : U.length ≤ 7 := by rw [hue, sortI_len]; have := hul W.length; omega
        have cq := equal29_p U (sortI (uW p W W.length)) (by omega);rw [decide_eq_true hue] at cq;have cs := sort29_p (uW p W W.length) (by have := hul W.length; omega)
        have cf : ∀ k (hk : k < W.length) v, feaW p W[k] = v → PCalls Tryz.prog 20 [.d (prbD p), .d (.sl none (W[k].map intD))] (boolD v) := fun k hk v hv => by
          rw [← hv]; exact feas29_p p W[k] (sml_V hf hp) (by have := hW1 _ (List.getElem_mem hk); omega) (hWi _ (List.getElem_mem hk))
        refine a_enterR Tryz.func11 rfl rfl Tryz.ntmps11 rfl rfl rfl fun F hF hFl => ?_;refine Zaf ?_;refine Zab ?_;refine Zal.go (ZaM 1 rfl rfl rfl rfl rfl rfl rfl) ?_;refine Zal.go (ZaM 2 rfl rfl rfl rfl rfl rfl rfl) ?_;refine Zal.go (ZaR 3 zl4 rfl rfl rfl rfl) ?_;refine Zae ?_;refine Zaf ?_;refine Zaf ?_;refine Zab ?_
        first | refine Zaa.go (ZaE rfl rfl rw25 rfl) ?_ | refine Zaa.go (Zay rfl rfl rw25 rfl rfl rfl) ?_ | refine Zaa.go (Za8 rfl rfl (rfl) rfl rw25 rfl) ?_
        refine Zaa.go (Zas (hs) rfl rfl) ?_
        first | refine Zaa.go (Zbh rfl rfl) ?_ | refine Zaa.go (ZbE rfl rfl) ?_
        refine Zaa.go (Zac rfl rfl) ?_;refine o_setF 20 rfl (rfl) ?_;refine Zam rfl rfl rfl ?_
        first | refine Zaa.go (Zai rfl Zbc rfl rfl rfl) ?_ | refine Zaa.go (ZaX rfl Zbc rfl rfl rfl) ?_ | refine Zaa.go (Za3 rfl Zbc rfl rfl rfl) ?_ | refine Zaa.go (ZbA rfl Zbc rfl rfl rfl) ?_
        refine Zam rfl rfl rfl ?_
        first | refine Zaa.go (Zaq rfl rfl on23 rfl) ?_ | refine Zaa.go (Zaj rfl rfl rfl on23 rfl) ?_ | refine Zaa.go (ZaF rfl rfl (rfl) rfl on23 rfl) ?_
        refine Zam rfl rfl rfl ?_
        first | refine Zaa.go (Zaw rfl Tryz.underlying23 rfl) ?_ | refine Zaa.go (Zbm rfl rfl Tryz.underlying23 rfl) ?_ | refine Zaa.go (Zbl rfl Tryz.underlying23 rfl) ?_ | refine Zaa.go (Zbf rfl Tryz.underlying23 rfl) ?_ | refine Zaa.go (Zbk rfl Tryz.underlying23 rfl) ?_
        refine Zam rfl rfl rfl ?_
        first | refine Zaa.go (Zbp rfl rfl rfl) ?_ | refine Zaa.go (st_gtrS rfl rfl rfl) ?_
        refine Zaa.go (ZaA rfl rfl rfl rfl) ?_;refine Zaa.go (Zac rfl rfl) ?_;refine o_setF 26 rfl ((decide_eq_false (by omega))) ?_;refine Zam rfl rfl rfl ?_;refine Zaa.go (Zas (hk) rfl rfl) ?_;refine Zam rfl rfl rfl ?_
        first | refine Zaa.go (Zbh rfl rfl) ?_ | refine Zaa.go (ZbE rfl rfl) ?_
        refine Zaa.go (ZaA rfl rfl rfl rfl) ?_;refine Zae ?_;refine Za2 rfl (rfl) ?_;refine Zap ?_;refine Zaf ?_;refine Zab ?_
        first | refine Zaa.go (ZaE rfl rfl rw25 rfl) ?_ | refine Zaa.go (Zay rfl rfl rw25 rfl rfl rfl) ?_ | refine Zaa.go (Za8 rfl rfl (rfl) rfl rw25 rfl) ?_
        refine Zaa.go (Zas (c1) rfl rfl) ?_;refine Zaa.go (Zas (cc) rfl rfl) ?_;refine Zaa.go (Zac rfl rfl) ?_
        first | refine Zaa.go (ZaL rfl rfl rfl) ?_ | refine Zaa.go (ZaK rfl rfl rfl) ?_
        first | refine Zaa.go (ZaL rfl rfl rfl) ?_ | refine Zaa.go (ZaK rfl rfl rfl) ?_
        first | refine Zaa.go (ZaL rfl rfl rfl) ?_ | refine Zaa.go (ZaK rfl rfl rfl) ?_
        refine Zal.go (ZaR 4 zl3 rfl rfl rfl rfl) ?_;refine Zal.go (ZaR 5 zl29 rfl rfl rfl rfl) ?_;refine Zal.go (ZaG rfl rfl rfl rfl rfl rfl rfl sz3) ?_;refine Zaa.go (Zad rfl rfl) ?_;refine Zal.go (ZaG rfl rfl rfl rfl rfl rfl rfl sz29) ?_;refine Zae ?_;refine Zaf ?_;refine Zab ?_
        first | refine Zaa.go (ZaE rfl rfl rw25 rfl) ?_ | refine Zaa.go (Zay rfl rfl rw25 rfl rfl rfl) ?_ | refine Zaa.go (Za8 rfl rfl (rfl) rfl rw25 rfl) ?_
        refine Zaa.go (Zas (c1) rfl rfl) ?_;refine Zaa.go (Zas (cu) rfl rfl) ?_;refine Zaa.go (Zac rfl rfl) ?_
        first | refine Zaa.go (ZaL rfl rfl rfl) ?_ | refine Zaa.go (ZaK rfl rfl rfl) ?_
        first | refine Zaa.go (ZaL rfl rfl rfl) ?_ | refine Zaa.go (ZaK rfl rfl rfl) ?_
        refine Zaa.go (Zad rfl rfl) ?_;refine Zaa.go (Zad rfl rfl) ?_;refine Zae ?_;refine Zaf ?_;refine Zaf ?_;refine Zab ?_
        first | refine Zaa.go (ZaE rfl rfl rw25 rfl) ?_ | refine Zaa.go (Zay rfl rfl rw25 rfl rfl rfl) ?_ | refine Zaa.go (Za8 rfl rfl (rfl) rfl rw25 rfl) ?_
        refine Zaa.go (Zas (ck) rfl rfl) ?_;refine Zaa.go (Zad rfl rfl) ?_;refine Zae ?_;refine Zaf ?_;refine Zab ?_;refine Zaa.go (Zac rfl rfl) ?_
        first | refine Zaa.go (Za7 rfl rfl rfl) ?_ | refine Zaa.go (Zbo rfl rfl rfl) ?_ | refine Zaa.go (ZbP rfl rfl rfl) ?_ | refine Zaa.go (ZbV Tryz.underlying3 rfl rfl rfl) ?_ | refine Zaa.go (ZbT Tryz.underlying3 rfl rfl rfl) ?_ | refine Zaa.go (st_neqN Tryz.underlying3 rfl rfl) ?_ | refine Zaa.go (ZbU Tryz.underlying3 rfl rfl rfl) ?_ | refine Zaa.go (st_neqFN Tryz.underlying3 rfl rfl) ?_
        refine Zae ?_;refine Za2 rfl (rfl) ?_;refine Zap ?_;refine Zaf ?_;refine Zab ?_
        first | refine Zaa.go (ZaE rfl rfl rw25 rfl) ?_ | refine Zaa.go (Zay rfl rfl rw25 rfl rfl rfl) ?_ | refine Zaa.go (Za8 rfl rfl (rfl) rfl rw25 rfl) ?_
        refine Zaa.go (Zas (ca) rfl rfl) ?_;refine Zal.go (ZaR 6 zl91 rfl rfl rfl rfl) ?_;refine Zal.go (ZaG rfl rfl rfl rfl rfl rfl rfl sz91) ?_;refine Zae ?_;refine Zaf ?_;refine Zab ?_;refine Zal.go (ZaR 7 zl3 rfl rfl rfl rfl) ?_;refine Zal.go (ZaR 8 zl3 rfl rfl rfl rfl) ?_;refine Zal.go (ZaG rfl rfl rfl rfl rfl rfl rfl sz3) ?_;refine Zal.go (ZaG rfl rfl rfl rfl rfl rfl rfl sz3) ?_;refine Zae ?_;refine Zaf ?_;refine Zab ?_;refine Zal.go (ZaR 9 zl26 rfl rfl rfl rfl) ?_;refine Zae ?_;refine Zaf ?_;refine Zaf ?_;refine Zb9 9 0 0 910 sl26 rfl rfl rfl rfl rfl rfl rfl ?_;refine Zab ?_
        first | refine Zaa.go (ZaE rfl rfl rw25 rfl) ?_ | refine Zaa.go (Zay rfl rfl rw25 rfl rfl rfl) ?_ | refine Zaa.go (Za8 rfl rfl (rfl) rfl rw25 rfl) ?_
        refine Zaa.go (Zas (c1) rfl rfl) ?_;refine Zal.go (Zbg (allF_c p) rfl [] trivial rfl rfl rfl rfl rfl rfl rfl rfl rfl) ?_;refine Zae ?_;refine Zao ?_;refine a_keep [2, 3, 4, 5, 6, 7, 8, 9, 11, 12, 13, 14, 75] rfl ?_;refine a_range (γ := Bool) hFl 900 rfl rfl rfl rfl rfl [1, 2, 3, 4, 5, 6, 7, 8, 9, 910] (CHr := hAl p W z (0, false)) (fun y => y = decide (z + 1 ≤ W.length)) (fun _ => hAl p W z (min W.length (z + 1), decide (z + 1 ≤ W.length))) stR pdR ⟨rfl, rfl, rfl, rfl, rfl, rfl, rfl, rfl, rfl, rfl, trivial⟩ rfl rfl rfl (fun _ => rfl) (fun _ => rfl) rfl (fun y _ => by cases y <;> simp [stR]) (fun _ _ => ⟨rfl, rfl⟩) [1, 2, 3, 4, 5, 6, 7, 8, 9, 910] hF rfl rfl (fun _ _ => rfl) (fun l A B hA hB => ?_) (fun y hy => ?_)
        · refine (hal l (fun q : Nat × Bool => (900, [.loop ⟨l, 158, [(2, .ptr 1 0 0), (3, .ptr 2 0 0), (4, .ptr 3 0 0), (5, .ptr 4 0 0), (6, .d (intD (gW p W W.length : Int))), (7, .ptr 5 0 0), (8, .d (.sl none (U.map intD))), (9, .d (intD 0)), (11, .ptr 6 0 0), (12, .ptr 7 0 0), (13, .ptr 8 0 0), (14, .ptr 9 0 0), (75, .fn 63 [.d (.ptr (prbD p))])], stR q.2, pdR q.2, #[76], A, B⟩]) :: hAl p W z q) [900, 1, 2, 3, 4, 5, 6, 7, 8, 9, 910] (stepW z) (0, false) (fun _ => rfl) (fun _ => rfl) (fun _ => rfl) (by decide) (by intro f hf st; simp at hf; rcases hf with rfl | rfl | rfl | rfl | rfl <;> rfl) (fun _ => rfl) ?_).mono (fun r H' ⟨e1, e2⟩ => ⟨e1, decide (z + 1 ≤ W.length), rfl, by rw [e2, feed_W (W := W) W 0 (Nat.zero_le _) rfl (Nat.zero_le _)]⟩);refine feeds_W (z := z) (W := W) (fun k hk1 => ?_) _ 0 rfl;have hkl := hW1 _ (List.getElem_mem hk1);have hkn := hWn _ (List.getElem_mem hk1);have hgl := gW_le p W k;have hul1 := hul k;have hcw := caseW p W k hk1;have ceq := equal29_p W[k] W[k] (by omega);rw [decide_eq_true rfl] at ceq;refine yc_round (lf := 900) rfl rfl rfl rfl fun F hF hr => ?_;refine Awp.code hA ?_;refine Zab ?_;refine Zaa.go (Zad rfl rfl) ?_;refine Zae ?_;refine ⟨rfl, _, _, rfl, rfl, rfl, rfl, ?_⟩;refine Awp.code hB ?_;refine Zao ?_;refine Zaf ?_;refine Zaf ?_;refine Zab ?_
          first | refine Zaa.go (Zaq rfl rfl on3 rfl) ?_ | refine Zaa.go (Zaj rfl rfl rfl on3 rfl) ?_ | refine Zaa.go (ZaF rfl rfl (rfl) rfl on3 rfl) ?_
          first | refine Zaa.go (Zaq rfl rfl on91 rfl) ?_ | refine Zaa.go (Zaj rfl rfl rfl on91 rfl) ?_ | refine Zaa.go (ZaF rfl rfl (rfl) rfl on91 rfl) ?_
          first | refine Zaa.go (Zaw rfl Tryz.underlying91 rfl) ?_ | refine Zaa.go (Zbm rfl rfl Tryz.underlying91 rfl) ?_ | refine Zaa.go (Zbl rfl Tryz.underlying91 rfl) ?_ | refine Zaa.go (Zbf rfl Tryz.underlying91 rfl) ?_ | refine Zaa.go (Zbk rfl Tryz.underlying91 rfl) ?_
          refine Zaa.go (st_geq rfl rfl rfl) ?_;refine Zaa.go (Zac rfl rfl) ?_;refine o_setF 81 rfl ((decide_eq_false (by omega))) ?_;refine Zam rfl rfl rfl ?_;refine Zaa.go (Zac rfl rfl) ?_;refine Zam rfl rfl rfl ?_
          first | refine Zaa.go (Zaq rfl rfl on91 rfl) ?_ | refine Zaa.go (Zaj rfl rfl rfl on91 rfl) ?_ | refine Zaa.go (ZaF rfl rfl (rfl) rfl on91 rfl) ?_
          refine Zam rfl rfl rfl ?_
          first | refine Zaa.go (Zaq rfl rfl on3 rfl) ?_ | refine Zaa.go (Zaj rfl rfl rfl on3 rfl) ?_ | refine Zaa.go (ZaF rfl rfl (rfl) rfl on3 rfl) ?_
          refine Zam rfl rfl rfl ?_
          first | refine Zaa.go (Zat (k) rfl rfl (rfl) (getm hk1) Tryz.underlying91 rfl sz26 rfl) ?_ | refine Zaa.go (Zbb (k) rfl rfl (rfl) (getm hk1) rfl Tryz.underlying91 sz26 rfl) ?_
          refine Zam rfl rfl rfl ?_
          first | refine Zaa.go (Zaq rfl rfl on26 rfl) ?_ | refine Zaa.go (Zaj rfl rfl rfl on26 rfl) ?_ | refine Zaa.go (ZaF rfl rfl (rfl) rfl on26 rfl) ?_
          refine Zam rfl rfl rfl ?_;refine Zaa.go (Zas (ceq) rfl rfl) ?_;refine Zam rfl rfl rfl ?_
          first | refine Zaa.go (Zbh rfl rfl) ?_ | refine Zaa.go (ZbE rfl rfl) ?_
          refine Zaa.go (ZaA rfl rfl rfl rfl) ?_;refine Zae ?_;refine Za2 rfl (rfl) ?_;refine Zap ?_;refine Zaf ?_;refine Zaf ?_;refine Zab ?_;rcases hcw with ⟨hfx, eg, eu⟩ | ⟨hfx, eg, eu⟩
          · first | refine Zaa.go (ZaE rfl rfl rw25 rfl) ?_ | refine Zaa.go (Zay rfl rfl rw25 rfl rfl rfl) ?_ | refine Zaa.go (Za8 rfl rfl (rfl) rfl rw25 rfl) ?_
            refine Zaa.go (Zac rfl rfl) ?_;refine Zaa.go (Zas (cf k hk1 _ hfx) rfl rfl) ?_;refine Zae ?_;refine Za2 rfl (rfl) ?_;refine Zap ?_;refine Zaf ?_;refine Zab ?_
            first | refine Zaa.go (Zaq rfl rfl on3 rfl) ?_ | refine Zaa.go (Zaj rfl rfl rfl on3 rfl) ?_ | refine Zaa.go (ZaF rfl rfl (rfl) rfl on3 rfl) ?_
            refine Zaa.go (Zaz rfl rfl (wrapS (k + 1) (by omega)) rfl) ?_;refine Zal.go (ZaG rfl rfl rfl rfl rfl rfl rfl sz3) ?_;refine Zae ?_;refine Zaf ?_;refine Zab ?_
            first | refine Zaa.go (Zaq rfl rfl on3 rfl) ?_ | refine Zaa.go (Zaj rfl rfl rfl on3 rfl) ?_ | refine Zaa.go (ZaF rfl rfl (rfl) rfl on3 rfl) ?_
            first | refine Zaa.go (Zaq rfl rfl on5 rfl) ?_ | refine Zaa.go (Zaj rfl rfl rfl on5 rfl) ?_ | refine Zaa.go (ZaF rfl rfl (rfl) rfl on5 rfl) ?_
            refine Zaa.go (st_conv rfl Tryz.underlying5 Tryz.underlying3 (IntWalk.i64_in _ (by omega)) rfl) ?_
            first | refine Zaa.go (Zbp rfl rfl rfl) ?_ | refine Zaa.go (st_gtrS rfl rfl rfl) ?_
            refine Zae ?_
            first | refine ZaD rfl (fun h120 => ?_) (fun h120 => ?_) | refine Za9 rfl (fun h120 => ?_) (fun h120 => ?_)
            · refine Zaf ?_;refine Zab ?_
              first | refine Zaa.go (Zaq rfl rfl on29 rfl) ?_ | refine Zaa.go (Zaj rfl rfl rfl on29 rfl) ?_ | refine Zaa.go (ZaF rfl rfl (rfl) rfl on29 rfl) ?_
              first | refine Zaa.go (ZaZ rfl rfl rfl) ?_ | refine Zaa.go (ZaY rfl rfl rfl) ?_ | refine Zaa.go (ZbF rfl rfl rfl) ?_ | refine Zaa.go (ZbL Tryz.underlying29 rfl rfl rfl) ?_ | refine Zaa.go (ZbI Tryz.underlying29 rfl rfl rfl) ?_ | refine Zaa.go (ZbJ Tryz.underlying29 rfl rfl) ?_ | refine Zaa.go (ZbK Tryz.underlying29 rfl rfl rfl) ?_ | refine Zaa.go (ZbD Tryz.underlying29 rfl rfl) ?_
              refine Zaa.go (Zac rfl rfl) ?_;refine Zbt 123 rfl (rfl) ?_;refine Zam rfl rfl rfl ?_
              first | refine Zaa.go (Zaq rfl rfl on3 rfl) ?_ | refine Zaa.go (Zaj rfl rfl rfl on3 rfl) ?_ | refine Zaa.go (ZaF rfl rfl (rfl) rfl on3 rfl) ?_
              refine Zam rfl rfl rfl ?_
              first | refine Zaa.go (Zaq rfl rfl on91 rfl) ?_ | refine Zaa.go (Zaj rfl rfl rfl on91 rfl) ?_ | refine Zaa.go (ZaF rfl rfl (rfl) rfl on91 rfl) ?_
              refine Zam rfl rfl rfl ?_
              first | refine Zaa.go (Zaw rfl Tryz.underlying91 rfl) ?_ | refine Zaa.go (Zbm rfl rfl Tryz.underlying91 rfl) ?_ | refine Zaa.go (Zbl rfl Tryz.underlying91 rfl) ?_ | refine Zaa.go (Zbf rfl Tryz.underlying91 rfl) ?_ | refine Zaa.go (Zbk rfl Tryz.underlying91 rfl) ?_
              refine Zam rfl rfl rfl ?_;refine Zaa.go (st_eqlY rfl rfl rfl rfl) ?_;refine Zaa.go (Zax rfl rfl rfl rfl) ?_;refine Zal.go (ZaG rfl rfl rfl rfl rfl rfl rfl sz4) ?_;refine Zae ?_;refine Zar ?_;have hgo : ¬ k + 1 ≤ z := by have h := h120; omega
              have hng : z < k + 1 := by omega
              exact ⟨some .ret, _, _, [900, 1, 2, 3, 4, 5, 6, 7, 8, 9, 910], _, rfl, rfl, rfl, rfl, rfl, rfl, by rw [decide_eq_false hgo]; rfl, by rw [decide_eq_true hng]; first | (simp only [hAl, eg]; done) | (simp only [hAl, eg]; rfl) | (simp only [hAl, eg, eu]; rfl)⟩
            · refine Zap ?_;have hgo : k + 1 ≤ z := by have h := h120; omega
              have hng : ¬ z < k + 1 := by omega
              exact ⟨none, _, _, [900, 1, 2, 3, 4, 5, 6, 7, 8, 9, 910], _, rfl, rfl, rfl, rfl, rfl, rfl, by rw [decide_eq_true hgo]; rfl, by rw [decide_eq_false hng]; first | (simp only [hAl, eg]; done) | (simp only [hAl, eg]; rfl) | (simp only [hAl, eg, eu]; rfl)⟩
          · first | refine Zaa.go (ZaE rfl rfl rw25 rfl) ?_ | refine Zaa.go (Zay rfl rfl rw25 rfl rfl rfl) ?_ | refine Zaa.go (Za8 rfl rfl (rfl) rfl rw25 rfl) ?_
            refine Zaa.go (Zac rfl rfl) ?_;refine Zaa.go (Zas (cf k hk1 _ hfx) rfl rfl) ?_;refine Zae ?_;refine ZaQ rfl (rfl) ?_;refine Zaf ?_;refine Zab ?_
            first | refine Zaa.go (Zaq rfl rfl on3 rfl) ?_ | refine Zaa.go (Zaj rfl rfl rfl on3 rfl) ?_ | refine Zaa.go (ZaF rfl rfl (rfl) rfl on3 rfl) ?_
            refine Zaa.go (Zaz rfl rfl (wrapS (gW p W k + 1) (by omega)) rfl) ?_;refine Zal.go (ZaG rfl rfl rfl rfl rfl rfl rfl sz3) ?_;refine Zae ?_;refine Zaf ?_;refine Zab ?_;refine Zaa.go (Zad rfl rfl) ?_;refine Zae ?_;refine Zao ?_;refine ZaP (α := Nat × List Int) (fun q => ⟨158, [(2, (.ptr 1 0 0)), (3, (.ptr 2 0 0)), (4, (.ptr 3 0 0)), (5, (.ptr 4 0 0)), (7, (.ptr 5 0 0)), (11, (.ptr 6 0 0)), (12, (.ptr 7 0 0)), (13, (.ptr 8 0 0)), (14, (.ptr 9 0 0)), (15, (.d (.sl none (W[k].map intD)))), (16, (.d (intD (q.1 : Int))))], [(900, [.loop ⟨l, 158, [(2, .ptr 1 0 0), (3, .ptr 2 0 0), (4, .ptr 3 0 0), (5, .ptr 4 0 0), (6, .d (intD (gW p W W.length : Int))), (7, .ptr 5 0 0), (8, .d (.sl none (U.map intD))), (9, .d (intD 0)), (11, .ptr 6 0 0), (12, .ptr 7 0 0), (13, .ptr 8 0 0), (14, .ptr 9 0 0), (75, .fn 63 [.d (.ptr (prbD p))])], .busy, none, #[76], A, B⟩]), (1, [prbB2 25 p]), (2, [.blk 5 [.d (u8D z)]]), (3, [.blk 4 [.d (boolD false)]]), (4, [.blk 3 [.d (intD (W.length : Int))]]), (5, [.blk 29 [.d (intD 0)]]), (6, [.blk 91 [.d (.sl none (W.map rowZ))]]), (7, [.blk 3 [.d (intD (k : Int))]]), (8, [.blk 3 [.d (intD ((gW p W k + 1 : Nat) : Int))]]), (9, [.blk 26 [.own 910 0 q.2.length]]), (910, [.rowD 3 1 (q.2.map intD)])]⟩) (fun q => q.1 ≤ W[k].length ∧ q.2 = uW p W k ++ (W[k].take q.1).filter (fun y => !inL (uW p W k) y) ∧ q.2.length ≤ (uW p W k).length + q.1) (fun q => W[k].length - q.1) ((0, uW p W k)) (⟨Nat.zero_le _, by simp, Nat.le_refl _⟩) (Zau hF [900, 1, 2, 3, 4, 5, 6, 7, 8, 9, 910] rfl rfl ⟨rfl, rfl, rfl, rfl, rfl, rfl, rfl, rfl, rfl, rfl, rfl, trivial⟩) ?_;rintro ⟨j, C⟩ ⟨hj0, hA2, hL⟩;dsimp only at hj0 hA2 hL ⊢;refine Zaf ?_;refine Zaf ?_;refine Zab ?_;refine Zaa.go (Zac rfl rfl) ?_;refine Zaa.go (Zac rfl rfl) ?_
            first | refine Zaa.go (Zaw rfl Tryz.underlying26 rfl) ?_ | refine Zaa.go (Zbm rfl rfl Tryz.underlying26 rfl) ?_ | refine Zaa.go (Zbl rfl Tryz.underlying26 rfl) ?_ | refine Zaa.go (Zbf rfl Tryz.underlying26 rfl) ?_ | refine Zaa.go (Zbk rfl Tryz.underlying26 rfl) ?_
            first | refine Zaa.go (ZaH rfl rfl rfl) ?_ | refine Zaa.go (Zbx rfl rfl rfl) ?_
            refine Zae ?_
            first | refine ZaD rfl (fun h98 => ?_) (fun h98 => ?_) | refine Za9 rfl (fun h98 => ?_) (fun h98 => ?_)
            · have hj1 : j < W[k].length := ZaJ h98;refine Zap ?_;refine Zaf ?_;refine Zao ?_;refine Zaf ?_;have hcin : W[k][j] ∈ C ↔ W[k][j] ∈ uW p W k := by rw [hA2, List.mem_append, List.mem_filter]; exact ⟨fun h => h.elim id fun h => absurd h.1 (nodup_take hkn hj1), fun h => .inl h⟩
              refine ZaV [[], [], [], [1, 2], [1, 2, 3], [0, 1, 2, 3, 4], [0, 1, 2, 3, 4, 5]] mixed rfl ?_;refine dws ?_
              first | refine Zah [14] [9] rfl rfl (fun _ => Zag (Zaq rfl rfl on26 rfl)) ?_ | refine Zah [14] [9] rfl rfl (fun _ => Zag (Zaj rfl rfl rfl on26 rfl)) ?_ | refine Zah [14] [9] rfl rfl (fun _ => Zag (ZaF rfl rfl (rfl) rfl on26 rfl)) ?_
              first | refine Zah [15] [] rfl rfl (fun _ => Zag (Zac rfl rfl)) ?_ | refine Zav [15] rfl rfl (fun _ => Zag (Zac rfl rfl)) ?_
              first | refine Zah [16] [] rfl rfl (fun _ => Zag (Zac rfl rfl)) ?_ | refine Zav [16] rfl rfl (fun _ => Zag (Zac rfl rfl)) ?_
              first | refine Zah [102, 103] [] rfl rfl (fun _ => Zag (Zat (j) rfl rfl (rfl) (getm hj1) Tryz.underlying26 rfl sz3 rfl)) ?_ | refine Zav [102, 103] rfl rfl (fun _ => Zag (Zat (j) rfl rfl (rfl) (getm hj1) Tryz.underlying26 rfl sz3 rfl)) ?_ | refine Zah [102, 103] [] rfl rfl (fun _ => Zag (Zbb (j) rfl rfl (rfl) (getm hj1) rfl Tryz.underlying26 sz3 rfl)) ?_ | refine Zav [102, 103] rfl rfl (fun _ => Zag (Zbb (j) rfl rfl (rfl) (getm hj1) rfl Tryz.underlying26 sz3 rfl)) ?_
              first | refine Zah [104] [] rfl rfl (fun _ => Zag (Zaq rfl rfl on3 rfl)) ?_ | refine Zav [104] rfl rfl (fun _ => Zag (Zaq rfl rfl on3 rfl)) ?_ | refine Zah [104] [] rfl rfl (fun _ => Zag (Zaj rfl rfl rfl on3 rfl)) ?_ | refine Zav [104] rfl rfl (fun _ => Zag (Zaj rfl rfl rfl on3 rfl)) ?_ | refine Zah [104] [] rfl rfl (fun _ => Zag (ZaF rfl rfl (rfl) rfl on3 rfl)) ?_ | refine Zav [104] rfl rfl (fun _ => Zag (ZaF rfl rfl (rfl) rfl on3 rfl)) ?_
              refine dwc 5 rfl rfl rfl ?_;refine dw1 6 rfl rfl ?_;refine Zaa.go (st_callPB [910] (in29_p C W[k][j] (by omega)) (by exact ⟨.inr ⟨_, _, rfl, .own rfl rfl (by simp) (List.take_of_length_le (by simp)), rfl⟩, .inl rfl, trivial⟩) rfl rfl) ?_;refine Zae ⟨rfl, ?_⟩;refine dw1 7 rfl rfl ?_
              first | refine Zaa.go (Zbh rfl rfl) ?_ | refine Zaa.go (ZbE rfl rfl) ?_
              refine Zae ⟨rfl, ?_⟩;refine dwe ?_
              first | refine ZaD rfl (fun h107 => ?_) (fun h107 => ?_) | refine Za9 rfl (fun h107 => ?_) (fun h107 => ?_)
              · refine ZaV [[], [], [], [1, 2], [1, 2, 3], [1, 2, 3, 4], [0, 1, 2, 3, 4, 5], [0, 1, 2, 3, 4, 5, 6]] mixed rfl ?_;refine dws ?_
                first | refine Zah [14] [9] rfl rfl (fun _ => Zag (Zaq rfl rfl on26 rfl)) ?_ | refine Zah [14] [9] rfl rfl (fun _ => Zag (Zaj rfl rfl rfl on26 rfl)) ?_ | refine Zah [14] [9] rfl rfl (fun _ => Zag (ZaF rfl rfl (rfl) rfl on26 rfl)) ?_
                first | refine Zah [15] [] rfl rfl (fun _ => Zag (Zac rfl rfl)) ?_ | refine Zav [15] rfl rfl (fun _ => Zag (Zac rfl rfl)) ?_
                first | refine Zah [16] [] rfl rfl (fun _ => Zag (Zac rfl rfl)) ?_ | refine Zav [16] rfl rfl (fun _ => Zag (Zac rfl rfl)) ?_
                first | refine Zah [109, 110] [] rfl rfl (fun _ => Zag (Zat (j) rfl rfl (rfl) (getm hj1) Tryz.underlying26 rfl sz3 rfl)) ?_ | refine Zav [109, 110] rfl rfl (fun _ => Zag (Zat (j) rfl rfl (rfl) (getm hj1) Tryz.underlying26 rfl sz3 rfl)) ?_ | refine Zah [109, 110] [] rfl rfl (fun _ => Zag (Zbb (j) rfl rfl (rfl) (getm hj1) rfl Tryz.underlying26 sz3 rfl)) ?_ | refine Zav [109, 110] rfl rfl (fun _ => Zag (Zbb (j) rfl rfl (rfl) (getm hj1) rfl Tryz.underlying26 sz3 rfl)) ?_
                first | refine Zah [111] [] rfl rfl (fun _ => Zag (Zaq rfl rfl on3 rfl)) ?_ | refine Zav [111] rfl rfl (fun _ => Zag (Zaq rfl rfl on3 rfl)) ?_ | refine Zah [111] [] rfl rfl (fun _ => Zag (Zaj rfl rfl rfl on3 rfl)) ?_ | refine Zav [111] rfl rfl (fun _ => Zag (Zaj rfl rfl rfl on3 rfl)) ?_ | refine Zah [111] [] rfl rfl (fun _ => Zag (ZaF rfl rfl (rfl) rfl on3 rfl)) ?_ | refine Zav [111] rfl rfl (fun _ => Zag (ZaF rfl rfl (rfl) rfl on3 rfl)) ?_
                refine Zbd [112] [42] [(113, _)] rfl rfl (fun _ => ZaW (ZaB 42 sl26 rfl rfl rfl rfl rfl rfl rfl rfl)) (.inr ⟨113, _, rfl, rfl, rfl, rfl, rfl⟩) rfl rfl rfl rfl rfl ?_;refine dwc 6 rfl rfl rfl ?_;refine dw1 7 rfl rfl ?_
                first | refine Zal.go (Za5 (C) ([W[k][j]]) rfl rfl rfl rfl rfl rfl rfl rfl sl26 (by simp only [List.length_singleton]; omega) rfl rfl rfl rfl) ?_ | refine Zal.go (Za6 (C) ([W[k][j]]) rfl rfl rfl rfl rfl rfl (fun _ => rfl) sl26 (by simp only [List.length_singleton]; omega) rfl rfl rfl rfl) ?_
                refine Zae ⟨rfl, ?_⟩;refine dw1 8 rfl rfl ?_;refine Zal.go (ZaG rfl rfl rfl rfl rfl rfl rfl sz26) ?_;refine Zae ⟨rfl, ?_⟩;refine dwe ?_;refine Zab ?_;refine Zaa.go (Zac rfl rfl) ?_;refine Zaa.go (Zaz rfl rfl (wrapS (j + 1) (by omega)) rfl) ?_;refine Zaa.go (Zad rfl rfl) ?_;refine Zae ?_;exact ⟨(j + 1, C ++ [W[k][j]]), ⟨by show j + 1 ≤ _; omega, by show C ++ [W[k][j]] = uW p W k ++ (W[k].take (j + 1)).filter _; rw [flt_snoc hj1, if_pos (by simpa [inL, hcin] using h107), ← List.append_assoc, ← hA2], by show (C ++ [W[k][j]]).length ≤ (uW p W k).length + (j + 1); rw [List.length_append]; simp; omega⟩, by show W[k].length - (j + 1) < W[k].length - j; omega, Zau hF [900, 1, 2, 3, 4, 5, 6, 7, 8, 9, 910] rfl (rfl) ⟨rfl, rfl, rfl, rfl, rfl, rfl, rfl, rfl, rfl, rfl, rfl, trivial⟩⟩
              · refine Zap ?_;refine Zab ?_;refine Zaa.go (Zac rfl rfl) ?_;refine Zaa.go (Zaz rfl rfl (wrapS (j + 1) (by omega)) rfl) ?_;refine Zaa.go (Zad rfl rfl) ?_;refine Zae ?_;exact ⟨(j + 1, C), ⟨by show j + 1 ≤ _; omega, by show C = uW p W k ++ (W[k].take (j + 1)).filter _; rw [flt_snoc hj1, if_neg (by simpa [inL, hcin] using h107), List.append_nil, ← hA2], by show C.length ≤ (uW p W k).length + (j + 1); omega⟩, by show W[k].length - (j + 1) < W[k].length - j; omega, Zau hF [900, 1, 2, 3, 4, 5, 6, 7, 8, 9, 910] rfl (rfl) ⟨rfl, rfl, rfl, rfl, rfl, rfl, rfl, rfl, rfl, rfl, rfl, trivial⟩⟩
            · obtain rfl : C = uW p W (k + 1) := by rw [eu, hA2, List.take_of_length_le (by have h := h98; omega)]; rfl
              refine ZaN ?_;refine Zaf ?_;refine Zab ?_
              first | refine Zaa.go (Zaq rfl rfl on3 rfl) ?_ | refine Zaa.go (Zaj rfl rfl rfl on3 rfl) ?_ | refine Zaa.go (ZaF rfl rfl (rfl) rfl on3 rfl) ?_
              refine Zaa.go (Zaz rfl rfl (wrapS (k + 1) (by omega)) rfl) ?_;refine Zal.go (ZaG rfl rfl rfl rfl rfl rfl rfl sz3) ?_;refine Zae ?_;refine Zaf ?_;refine Zab ?_
              first | refine Zaa.go (Zaq rfl rfl on3 rfl) ?_ | refine Zaa.go (Zaj rfl rfl rfl on3 rfl) ?_ | refine Zaa.go (ZaF rfl rfl (rfl) rfl on3 rfl) ?_
              first | refine Zaa.go (Zaq rfl rfl on5 rfl) ?_ | refine Zaa.go (Zaj rfl rfl rfl on5 rfl) ?_ | refine Zaa.go (ZaF rfl rfl (rfl) rfl on5 rfl) ?_
              refine Zaa.go (st_conv rfl Tryz.underlying5 Tryz.underlying3 (IntWalk.i64_in _ (by omega)) rfl) ?_
              first | refine Zaa.go (Zbp rfl rfl rfl) ?_ | refine Zaa.go (st_gtrS rfl rfl rfl) ?_
              refine Zae ?_
              first | refine ZaD rfl (fun h120 => ?_) (fun h120 => ?_) | refine Za9 rfl (fun h120 => ?_) (fun h120 => ?_)
              · refine Zaf ?_;refine Zab ?_
                first | refine Zaa.go (Zaq rfl rfl on29 rfl) ?_ | refine Zaa.go (Zaj rfl rfl rfl on29 rfl) ?_ | refine Zaa.go (ZaF rfl rfl (rfl) rfl on29 rfl) ?_
                first | refine Zaa.go (ZaZ rfl rfl rfl) ?_ | refine Zaa.go (ZaY rfl rfl rfl) ?_ | refine Zaa.go (ZbF rfl rfl rfl) ?_ | refine Zaa.go (ZbL Tryz.underlying29 rfl rfl rfl) ?_ | refine Zaa.go (ZbI Tryz.underlying29 rfl rfl rfl) ?_ | refine Zaa.go (ZbJ Tryz.underlying29 rfl rfl) ?_ | refine Zaa.go (ZbK Tryz.underlying29 rfl rfl rfl) ?_ | refine Zaa.go (ZbD Tryz.underlying29 rfl rfl) ?_
                refine Zaa.go (Zac rfl rfl) ?_;refine Zbt 123 rfl (rfl) ?_;refine Zam rfl rfl rfl ?_
                first | refine Zaa.go (Zaq rfl rfl on3 rfl) ?_ | refine Zaa.go (Zaj rfl rfl rfl on3 rfl) ?_ | refine Zaa.go (ZaF rfl rfl (rfl) rfl on3 rfl) ?_
                refine Zam rfl rfl rfl ?_
                first | refine Zaa.go (Zaq rfl rfl on91 rfl) ?_ | refine Zaa.go (Zaj rfl rfl rfl on91 rfl) ?_ | refine Zaa.go (ZaF rfl rfl (rfl) rfl on91 rfl) ?_
                refine Zam rfl rfl rfl ?_
                first | refine Zaa.go (Zaw rfl Tryz.underlying91 rfl) ?_ | refine Zaa.go (Zbm rfl rfl Tryz.underlying91 rfl) ?_ | refine Zaa.go (Zbl rfl Tryz.underlying91 rfl) ?_ | refine Zaa.go (Zbf rfl Tryz.underlying91 rfl) ?_ | refine Zaa.go (Zbk rfl Tryz.underlying91 rfl) ?_
                refine Zam rfl rfl rfl ?_;refine Zaa.go (st_eqlY rfl rfl rfl rfl) ?_;refine Zaa.go (Zax rfl rfl rfl rfl) ?_;refine Zal.go (ZaG rfl rfl rfl rfl rfl rfl rfl sz4) ?_;refine Zae ?_;refine Zar ?_;have hgo : ¬ k + 1 ≤ z := by have h := h120; omega
                have hng : z < k + 1 := by omega
                exact ⟨some .ret, _, _, [900, 1, 2, 3, 4, 5, 6, 7, 8, 9, 910], _, rfl, rfl, rfl, rfl, rfl, rfl, by rw [decide_eq_false hgo]; rfl, by rw [decide_eq_true hng]; first | (simp only [hAl, eg]; done) | (simp only [hAl, eg]; rfl) | (simp only [hAl, eg, eu]; rfl)⟩
              · refine Zap ?_;have hgo : k + 1 ≤ z := by have h := h120; omega
                have hng : ¬ z < k + 1 := by omega
                exact ⟨none, _, _, [900, 1, 2, 3, 4, 5, 6, 7, 8, 9, 910], _, rfl, rfl, rfl, rfl, rfl, rfl, by rw [decide_eq_true hgo]; rfl, by rw [decide_eq_false hng]; first | (simp only [hAl, eg]; done) | (simp only [hAl, eg]; rfl) | (simp only [hAl, eg, eu]; rfl)⟩
        · rcases y with _ | _
          · have hmin : min W.length (z + 1) = W.length := by have h := of_decide_eq_false hy.symm; omega
            rw [hmin];refine ZbS (ys := (uW p W W.length).map intD) 9 0 0 910 rfl rfl rfl (by simp) (List.take_of_length_le (by simp)) rfl rfl rfl rfl rfl rfl ?_;refine Zaf ?_;refine Zab ?_
            first | refine Zaa.go (Zaq rfl rfl on3 rfl) ?_ | refine Zaa.go (Zaj rfl rfl rfl on3 rfl) ?_ | refine Zaa.go (ZaF rfl rfl (rfl) rfl on3 rfl) ?_
            first | refine Zaa.go (Zaq rfl rfl on91 rfl) ?_ | refine Zaa.go (Zaj rfl rfl rfl on91 rfl) ?_ | refine Zaa.go (ZaF rfl rfl (rfl) rfl on91 rfl) ?_
            first | refine Zaa.go (Zaw rfl Tryz.underlying91 rfl) ?_ | refine Zaa.go (Zbm rfl rfl Tryz.underlying91 rfl) ?_ | refine Zaa.go (Zbl rfl Tryz.underlying91 rfl) ?_ | refine Zaa.go (Zbf rfl Tryz.underlying91 rfl) ?_ | refine Zaa.go (Zbk rfl Tryz.underlying91 rfl) ?_
            first | refine Zaa.go (ZaZ rfl rfl rfl) ?_ | refine Zaa.go (ZaY rfl rfl rfl) ?_ | refine Zaa.go (ZbF rfl rfl rfl) ?_ | refine Zaa.go (ZbL Tryz.underlying3 rfl rfl rfl) ?_ | refine Zaa.go (ZbI Tryz.underlying3 rfl rfl rfl) ?_ | refine Zaa.go (ZbJ Tryz.underlying3 rfl rfl) ?_ | refine Zaa.go (ZbK Tryz.underlying3 rfl rfl rfl) ?_ | refine Zaa.go (ZbD Tryz.underlying3 rfl rfl) ?_
            refine Zaa.go (Zac rfl rfl) ?_;refine Zbt 133 rfl ((decide_eq_true rfl)) ?_;refine Zam rfl rfl rfl ?_
            first | refine Zaa.go (Zaq rfl rfl on29 rfl) ?_ | refine Zaa.go (Zaj rfl rfl rfl on29 rfl) ?_ | refine Zaa.go (ZaF rfl rfl (rfl) rfl on29 rfl) ?_
            refine Zam rfl rfl rfl ?_
            first | refine Zaa.go (ZaZ rfl rfl rfl) ?_ | refine Zaa.go (ZaY rfl rfl rfl) ?_ | refine Zaa.go (ZbF rfl rfl rfl) ?_ | refine Zaa.go (ZbL Tryz.underlying29 rfl rfl rfl) ?_ | refine Zaa.go (ZbI Tryz.underlying29 rfl rfl rfl) ?_ | refine Zaa.go (ZbJ Tryz.underlying29 rfl rfl) ?_ | refine Zaa.go (ZbK Tryz.underlying29 rfl rfl rfl) ?_ | refine Zaa.go (ZbD Tryz.underlying29 rfl rfl) ?_
            refine Zaa.go (Zax rfl rfl rfl rfl) ?_;refine Zaa.go (Zac rfl rfl) ?_;refine Zbt 137 rfl (rfl) ?_;refine Zam rfl rfl rfl ?_;refine Zaa.go (Zac rfl rfl) ?_;refine Zam rfl rfl rfl ?_
            first | refine Zaa.go (ZaZ rfl rfl rfl) ?_ | refine Zaa.go (ZaY rfl rfl rfl) ?_ | refine Zaa.go (ZbF rfl rfl rfl) ?_ | refine Zaa.go (ZbL Tryz.underlying29 rfl rfl rfl) ?_ | refine Zaa.go (ZbI Tryz.underlying29 rfl rfl rfl) ?_ | refine Zaa.go (ZbJ Tryz.underlying29 rfl rfl) ?_ | refine Zaa.go (ZbK Tryz.underlying29 rfl rfl rfl) ?_ | refine Zaa.go (ZbD Tryz.underlying29 rfl rfl) ?_
            refine Zaa.go (Zax rfl rfl rfl rfl) ?_;refine Zaa.go (Zac rfl rfl) ?_;refine Zbt 141 rfl (rfl) ?_;refine Zam rfl rfl rfl ?_
            first | refine Zaa.go (Zaq rfl rfl on3 rfl) ?_ | refine Zaa.go (Zaj rfl rfl rfl on3 rfl) ?_ | refine Zaa.go (ZaF rfl rfl (rfl) rfl on3 rfl) ?_
            refine Zam rfl rfl rfl ?_
            first | refine Zaa.go (Zaq rfl rfl on91 rfl) ?_ | refine Zaa.go (Zaj rfl rfl rfl on91 rfl) ?_ | refine Zaa.go (ZaF rfl rfl (rfl) rfl on91 rfl) ?_
            refine Zam rfl rfl rfl ?_
            first | refine Zaa.go (Zaw rfl Tryz.underlying91 rfl) ?_ | refine Zaa.go (Zbm rfl rfl Tryz.underlying91 rfl) ?_ | refine Zaa.go (Zbl rfl Tryz.underlying91 rfl) ?_ | refine Zaa.go (Zbf rfl Tryz.underlying91 rfl) ?_ | refine Zaa.go (Zbk rfl Tryz.underlying91 rfl) ?_
            refine Zam rfl rfl rfl ?_
            first | refine Zaa.go (ZaZ rfl rfl rfl) ?_ | refine Zaa.go (ZaY rfl rfl rfl) ?_ | refine Zaa.go (ZbF rfl rfl rfl) ?_ | refine Zaa.go (ZbL Tryz.underlying3 rfl rfl rfl) ?_ | refine Zaa.go (ZbI Tryz.underlying3 rfl rfl rfl) ?_ | refine Zaa.go (ZbJ Tryz.underlying3 rfl rfl) ?_ | refine Zaa.go (ZbK Tryz.underlying3 rfl rfl rfl) ?_ | refine Zaa.go (ZbD Tryz.underlying3 rfl rfl) ?_
            refine Zaa.go (Zax rfl rfl rfl rfl) ?_;refine Zaa.go (Zac rfl rfl) ?_;refine Zbt 147 rfl ((decide_eq_true rfl)) ?_;refine Zam rfl rfl rfl ?_;refine Zaa.go (Zac rfl rfl) ?_;refine Zam rfl rfl rfl ?_
            first | refine Zaa.go (Zaq rfl rfl on3 rfl) ?_ | refine Zaa.go (Zaj rfl rfl rfl on3 rfl) ?_ | refine Zaa.go (ZaF rfl rfl (rfl) rfl on3 rfl) ?_
            refine Zam rfl rfl rfl ?_
            first | refine Zaa.go (ZaZ rfl rfl rfl) ?_ | refine Zaa.go (ZaY rfl rfl rfl) ?_ | refine Zaa.go (ZbF rfl rfl rfl) ?_ | refine Zaa.go (ZbL Tryz.underlying3 rfl rfl rfl) ?_ | refine Zaa.go (ZbI Tryz.underlying3 rfl rfl rfl) ?_ | refine Zaa.go (ZbJ Tryz.underlying3 rfl rfl) ?_ | refine Zaa.go (ZbK Tryz.underlying3 rfl rfl rfl) ?_ | refine Zaa.go (ZbD Tryz.underlying3 rfl rfl) ?_
            refine Zaa.go (Zax rfl rfl rfl rfl) ?_;refine Zaa.go (Zac rfl rfl) ?_;refine Zbt 152 rfl ((decide_eq_true rfl)) ?_;refine Zam rfl rfl rfl ?_;refine Zaa.go (Zac rfl rfl) ?_;refine Zam rfl rfl rfl ?_
            first | refine Zaa.go (Zaq rfl rfl on26 rfl) ?_ | refine Zaa.go (Zaj rfl rfl rfl on26 rfl) ?_ | refine Zaa.go (ZaF rfl rfl (rfl) rfl on26 rfl) ?_
            refine Zam rfl rfl rfl ?_;refine Zaa.go (Zas (cs) rfl rfl) ?_;refine Zam rfl rfl rfl ?_;refine Zaa.go (Zas (cq) rfl rfl) ?_;refine Zaa.go (Zax rfl rfl rfl rfl) ?_;refine Zal.go (ZaG rfl rfl rfl rfl rfl rfl rfl sz4) ?_;refine Zae ?_;refine Zar ?_;exact ⟨_, [], [], Zan rfl, rfl, rfl, rfl, rfl⟩
          · show Awp _ _ .ret _ _;refine Zar ?_;exact ⟨_, [], [], Zan rfl, rfl, rfl, by rw [← hy], rfl⟩
      · have hpp : prbE p ≠ 0 := hp;have cc := count_bad p (sml_B hf) hpp;have cu := union_bad p (sml_B hf) hpp;refine a_enterR Tryz.func11 rfl rfl Tryz.ntmps11 rfl rfl rfl fun F hF hFl => ?_;refine Zaf ?_;refine Zab ?_;refine Zal.go (ZaM 1 rfl rfl rfl rfl rfl rfl rfl) ?_;refine Zal.go (ZaM 2 rfl rfl rfl rfl rfl rfl rfl) ?_;refine Zal.go (ZaR 3 zl4 rfl rfl rfl rfl) ?_;refine Zae ?_;refine Zaf ?_;refine Zaf ?_;refine Zab ?_
        first | refine Zaa.go (ZaE rfl rfl rw25 rfl) ?_ | refine Zaa.go (Zay rfl rfl rw25 rfl rfl rfl) ?_ | refine Zaa.go (Za8 rfl rfl (rfl) rfl rw25 rfl) ?_
        refine Zaa.go (Zas (hs) rfl rfl) ?_
        first | refine Zaa.go (Zbh rfl rfl) ?_ | refine Zaa.go (ZbE rfl rfl) ?_
        refine Zaa.go (Zac rfl rfl) ?_;refine o_setF 20 rfl (rfl) ?_;refine Zam rfl rfl rfl ?_
        first | refine Zaa.go (Zai rfl Zbc rfl rfl rfl) ?_ | refine Zaa.go (ZaX rfl Zbc rfl rfl rfl) ?_ | refine Zaa.go (Za3 rfl Zbc rfl rfl rfl) ?_ | refine Zaa.go (ZbA rfl Zbc rfl rfl rfl) ?_
        refine Zam rfl rfl rfl ?_
        first | refine Zaa.go (Zaq rfl rfl on23 rfl) ?_ | refine Zaa.go (Zaj rfl rfl rfl on23 rfl) ?_ | refine Zaa.go (ZaF rfl rfl (rfl) rfl on23 rfl) ?_
        refine Zam rfl rfl rfl ?_
        first | refine Zaa.go (Zaw rfl Tryz.underlying23 rfl) ?_ | refine Zaa.go (Zbm rfl rfl Tryz.underlying23 rfl) ?_ | refine Zaa.go (Zbl rfl Tryz.underlying23 rfl) ?_ | refine Zaa.go (Zbf rfl Tryz.underlying23 rfl) ?_ | refine Zaa.go (Zbk rfl Tryz.underlying23 rfl) ?_
        refine Zam rfl rfl rfl ?_
        first | refine Zaa.go (Zbp rfl rfl rfl) ?_ | refine Zaa.go (st_gtrS rfl rfl rfl) ?_
        refine Zaa.go (ZaA rfl rfl rfl rfl) ?_;refine Zaa.go (Zac rfl rfl) ?_;refine o_setF 26 rfl ((decide_eq_false (by omega))) ?_;refine Zam rfl rfl rfl ?_;refine Zaa.go (Zas (hk) rfl rfl) ?_;refine Zam rfl rfl rfl ?_
        first | refine Zaa.go (Zbh rfl rfl) ?_ | refine Zaa.go (ZbE rfl rfl) ?_
        refine Zaa.go (ZaA rfl rfl rfl rfl) ?_;refine Zae ?_;refine Za2 rfl (rfl) ?_;refine Zap ?_;refine Zaf ?_;refine Zab ?_
        first | refine Zaa.go (ZaE rfl rfl rw25 rfl) ?_ | refine Zaa.go (Zay rfl rfl rw25 rfl rfl rfl) ?_ | refine Zaa.go (Za8 rfl rfl (rfl) rfl rw25 rfl) ?_
        refine Zaa.go (Zas (c1) rfl rfl) ?_;refine Zaa.go (Zas (cc) rfl rfl) ?_;refine Zaa.go (Zac rfl rfl) ?_
        first | refine Zaa.go (ZaL rfl rfl rfl) ?_ | refine Zaa.go (ZaK rfl rfl rfl) ?_
        first | refine Zaa.go (ZaL rfl rfl rfl) ?_ | refine Zaa.go (ZaK rfl rfl rfl) ?_
        first | refine Zaa.go (ZaL rfl rfl rfl) ?_ | refine Zaa.go (ZaK rfl rfl rfl) ?_
        refine Zal.go (ZaR 4 zl3 rfl rfl rfl rfl) ?_;refine Zal.go (ZaR 5 zl29 rfl rfl rfl rfl) ?_;refine Zal.go (ZaG rfl rfl rfl rfl rfl rfl rfl sz3) ?_;refine Zaa.go (Zad rfl rfl) ?_;refine Zal.go (ZaG rfl rfl rfl rfl rfl rfl rfl sz29) ?_;refine Zae ?_;refine Zaf ?_;refine Zab ?_
        first | refine Zaa.go (ZaE rfl rfl rw25 rfl) ?_ | refine Zaa.go (Zay rfl rfl rw25 rfl rfl rfl) ?_ | refine Zaa.go (Za8 rfl rfl (rfl) rfl rw25 rfl) ?_
        refine Zaa.go (Zas (c1) rfl rfl) ?_;refine Zaa.go (Zas (cu) rfl rfl) ?_;refine Zaa.go (Zac rfl rfl) ?_
        first | refine Zaa.go (ZaL rfl rfl rfl) ?_ | refine Zaa.go (ZaK rfl rfl rfl) ?_
        first | refine Zaa.go (ZaL rfl rfl rfl) ?_ | refine Zaa.go (ZaK rfl rfl rfl) ?_
        refine Zaa.go (Zad rfl rfl) ?_;refine Zaa.go (Zad rfl rfl) ?_;refine Zae ?_;refine Zaf ?_;refine Zaf ?_;refine Zab ?_
        first | refine Zaa.go (ZaE rfl rfl rw25 rfl) ?_ | refine Zaa.go (Zay rfl rfl rw25 rfl rfl rfl) ?_ | refine Zaa.go (Za8 rfl rfl (rfl) rfl rw25 rfl) ?_
        refine Zaa.go (Zas (ck) rfl rfl) ?_;refine Zaa.go (Zad rfl rfl) ?_;refine Zae ?_;refine Zaf ?_;refine Zab ?_;refine Zaa.go (Zac rfl rfl) ?_
        first | refine Zaa.go (Za7 rfl rfl rfl) ?_ | refine Zaa.go (Zbo rfl rfl rfl) ?_ | refine Zaa.go (ZbP rfl rfl rfl) ?_ | refine Zaa.go (ZbV Tryz.underlying3 rfl rfl rfl) ?_ | refine Zaa.go (ZbT Tryz.underlying3 rfl rfl rfl) ?_ | refine Zaa.go (st_neqN Tryz.underlying3 rfl rfl) ?_ | refine Zaa.go (ZbU Tryz.underlying3 rfl rfl rfl) ?_ | refine Zaa.go (st_neqFN Tryz.underlying3 rfl rfl) ?_
        refine Zae ?_;refine ZaQ rfl ((decide_eq_true hpp)) ?_;refine Zaf ?_;refine Zaf ?_;refine Zab ?_
        first | refine Zaa.go (ZaE rfl rfl rw25 rfl) ?_ | refine Zaa.go (Zay rfl rfl rw25 rfl rfl rfl) ?_ | refine Zaa.go (Za8 rfl rfl (rfl) rfl rw25 rfl) ?_
        refine Zaa.go (Zas (c1) rfl rfl) ?_;refine Zal.go (Zbg (allF_c p) rfl [] trivial rfl rfl rfl rfl rfl rfl rfl rfl rfl) ?_;refine Zae ?_;refine Zao ?_;refine a_keep [4, 5, 6, 7, 8, 9, 10, 50] rfl ?_;refine a_only [3, 4, 5] hF rfl rfl ?_;refine a_range (γ := Unit) hFl 900 rfl rfl rfl rfl rfl [3, 4, 5] (CHr := [(3, [.blk 4 [.d (boolD false)]]), (4, [.blk 3 [.d (intD 0)]]), (5, [.blk 29 [.d (intD (prbE p))]])]) (fun _ => True) (fun _ => [(3, [.blk 4 [.d (boolD false)]]), (4, [.blk 3 [.d (intD 0)]]), (5, [.blk 29 [.d (intD (prbE p))]])]) (fun _ => .ready) (fun _ => none) ⟨rfl, rfl, rfl, trivial⟩ rfl rfl rfl (fun _ => rfl) (fun _ => rfl) rfl (fun _ _ => by simp) (fun _ _ => ⟨rfl, rfl⟩) [3, 4, 5] hF rfl rfl (fun _ _ => rfl) (fun l A B hA hB => ?_) (fun _ _ => ?_)
        · exact (all1_bad p (sml_B hf) hpp l _ [900, 3, 4, 5] rfl rfl (by decide) (by intro f hf; simp at hf; rcases hf with rfl | rfl <;> rfl)).mono fun r H' ⟨e1, e2⟩ => ⟨e1, (), trivial, e2⟩
        · refine Zaf ?_;refine Zab ?_
          first | refine Zaa.go (Zaq rfl rfl on29 rfl) ?_ | refine Zaa.go (Zaj rfl rfl rfl on29 rfl) ?_ | refine Zaa.go (ZaF rfl rfl (rfl) rfl on29 rfl) ?_
          refine Zaa.go (Zac rfl rfl) ?_
          first | refine Zaa.go (ZaZ rfl rfl rfl) ?_ | refine Zaa.go (ZaY rfl rfl rfl) ?_ | refine Zaa.go (ZbF rfl rfl rfl) ?_ | refine Zaa.go (ZbL Tryz.underlying3 rfl rfl rfl) ?_ | refine Zaa.go (ZbI Tryz.underlying3 rfl rfl rfl) ?_ | refine Zaa.go (ZbJ Tryz.underlying3 rfl rfl) ?_ | refine Zaa.go (ZbK Tryz.underlying3 rfl rfl rfl) ?_ | refine Zaa.go (ZbD Tryz.underlying3 rfl rfl) ?_
          refine Zaa.go (Zac rfl rfl) ?_;refine Zbt 55 rfl ((decide_eq_true rfl)) ?_;refine Zam rfl rfl rfl ?_;refine Zaa.go (Zac rfl rfl) ?_;refine Zam rfl rfl rfl ?_;refine Zaa.go (Zac rfl rfl) ?_;refine Zam rfl rfl rfl ?_
          first | refine Zaa.go (ZaZ rfl rfl rfl) ?_ | refine Zaa.go (ZaY rfl rfl rfl) ?_ | refine Zaa.go (ZbF rfl rfl rfl) ?_ | refine Zaa.go (ZbL Tryz.underlying3 rfl rfl rfl) ?_ | refine Zaa.go (ZbI Tryz.underlying3 rfl rfl rfl) ?_ | refine Zaa.go (ZbJ Tryz.underlying3 rfl rfl) ?_ | refine Zaa.go (ZbK Tryz.underlying3 rfl rfl rfl) ?_ | refine Zaa.go (ZbD Tryz.underlying3 rfl rfl) ?_
          refine Zaa.go (Zax rfl rfl rfl rfl) ?_;refine Zaa.go (Zac rfl rfl) ?_;refine Zbt 60 rfl ((decide_eq_true rfl)) ?_;refine Zam rfl rfl rfl ?_
          first | refine Zaa.go (Zaq rfl rfl on3 rfl) ?_ | refine Zaa.go (Zaj rfl rfl rfl on3 rfl) ?_ | refine Zaa.go (ZaF rfl rfl (rfl) rfl on3 rfl) ?_
          refine Zam rfl rfl rfl ?_;refine Zaa.go (Zac rfl rfl) ?_;refine Zam rfl rfl rfl ?_;refine Zaa.go (Zaz rfl rfl (IntWalk.i64_in _ (by omega)) rfl) ?_;refine Zam rfl rfl rfl ?_
          first | refine Zaa.go (ZaZ rfl rfl rfl) ?_ | refine Zaa.go (ZaY rfl rfl rfl) ?_ | refine Zaa.go (ZbF rfl rfl rfl) ?_ | refine Zaa.go (ZbL Tryz.underlying3 rfl rfl rfl) ?_ | refine Zaa.go (ZbI Tryz.underlying3 rfl rfl rfl) ?_ | refine Zaa.go (ZbJ Tryz.underlying3 rfl rfl) ?_ | refine Zaa.go (ZbK Tryz.underlying3 rfl rfl rfl) ?_ | refine Zaa.go (ZbD Tryz.underlying3 rfl rfl) ?_
          refine Zaa.go (Zax rfl rfl rfl rfl) ?_;refine Zaa.go (Zac rfl rfl) ?_;refine Zbt 66 rfl (rfl) ?_;refine Zam rfl rfl rfl ?_;refine Zaa.go (Zac rfl rfl) ?_;refine Zam rfl rfl rfl ?_
          first | refine Zaa.go (Zaw rfl Tryz.underlying26 rfl) ?_ | refine Zaa.go (Zbm rfl rfl Tryz.underlying26 rfl) ?_ | refine Zaa.go (Zbl rfl Tryz.underlying26 rfl) ?_ | refine Zaa.go (Zbf rfl Tryz.underlying26 rfl) ?_ | refine Zaa.go (Zbk rfl Tryz.underlying26 rfl) ?_
          refine Zam rfl rfl rfl ?_
          first | refine Zaa.go (ZaZ rfl rfl rfl) ?_ | refine Zaa.go (ZaY rfl rfl rfl) ?_ | refine Zaa.go (ZbF rfl rfl rfl) ?_ | refine Zaa.go (ZbL Tryz.underlying3 rfl rfl rfl) ?_ | refine Zaa.go (ZbI Tryz.underlying3 rfl rfl rfl) ?_ | refine Zaa.go (ZbJ Tryz.underlying3 rfl rfl) ?_ | refine Zaa.go (ZbK Tryz.underlying3 rfl rfl rfl) ?_ | refine Zaa.go (ZbD Tryz.underlying3 rfl rfl) ?_
          refine Zaa.go (Zax rfl rfl rfl rfl) ?_;refine Zal.go (ZaG rfl rfl rfl rfl rfl rfl rfl sz4) ?_;refine Zae ?_;refine Zar ?_;exact ⟨_, [], [], Zan rfl, rfl, rfl, rfl, rfl⟩
    · have hpp : ¬ p.it.length ≤ 7 := h7;refine ZaC Tryz.func11 rfl rfl Tryz.ntmps11 rfl rfl rfl fun F hF => ?_;refine Zaf ?_;refine Zab ?_;refine Zal.go (ZaM 1 rfl rfl rfl rfl rfl rfl rfl) ?_;refine Zal.go (ZaM 2 rfl rfl rfl rfl rfl rfl rfl) ?_;refine Zal.go (ZaR 3 zl4 rfl rfl rfl rfl) ?_;refine Zae ?_;refine Zaf ?_;refine Zaf ?_;refine Zab ?_
      first | refine Zaa.go (ZaE rfl rfl rw25 rfl) ?_ | refine Zaa.go (Zay rfl rfl rw25 rfl rfl rfl) ?_ | refine Zaa.go (Za8 rfl rfl (rfl) rfl rw25 rfl) ?_
      refine Zaa.go (Zas (hs) rfl rfl) ?_
      first | refine Zaa.go (Zbh rfl rfl) ?_ | refine Zaa.go (ZbE rfl rfl) ?_
      refine Zaa.go (Zac rfl rfl) ?_;refine o_setF 20 rfl (rfl) ?_;refine Zam rfl rfl rfl ?_
      first | refine Zaa.go (Zai rfl Zbc rfl rfl rfl) ?_ | refine Zaa.go (ZaX rfl Zbc rfl rfl rfl) ?_ | refine Zaa.go (Za3 rfl Zbc rfl rfl rfl) ?_ | refine Zaa.go (ZbA rfl Zbc rfl rfl rfl) ?_
      refine Zam rfl rfl rfl ?_
      first | refine Zaa.go (Zaq rfl rfl on23 rfl) ?_ | refine Zaa.go (Zaj rfl rfl rfl on23 rfl) ?_ | refine Zaa.go (ZaF rfl rfl (rfl) rfl on23 rfl) ?_
      refine Zam rfl rfl rfl ?_
      first | refine Zaa.go (Zaw rfl Tryz.underlying23 rfl) ?_ | refine Zaa.go (Zbm rfl rfl Tryz.underlying23 rfl) ?_ | refine Zaa.go (Zbl rfl Tryz.underlying23 rfl) ?_ | refine Zaa.go (Zbf rfl Tryz.underlying23 rfl) ?_ | refine Zaa.go (Zbk rfl Tryz.underlying23 rfl) ?_
      refine Zam rfl rfl rfl ?_
      first | refine Zaa.go (Zbp rfl rfl rfl) ?_ | refine Zaa.go (st_gtrS rfl rfl rfl) ?_
      refine Zaa.go (ZaA rfl rfl rfl rfl) ?_;refine Zaa.go (Zac rfl rfl) ?_;refine Zbt 26 rfl ((decide_eq_true (by omega))) ?_;refine Zak rfl rfl rfl rfl ?_;refine Zak rfl rfl rfl rfl ?_;refine Zaa.go (Zax rfl rfl rfl rfl) ?_;refine Zae ?_;refine ZaQ rfl rfl ?_;refine Zaf ?_;refine Zab ?_;refine Zaa.go (Zas (hk) rfl rfl) ?_;refine Zal.go (ZaG rfl rfl rfl rfl rfl rfl rfl sz4) ?_;refine Zae ?_;refine Zar ?_;exact ⟨_, [], [], Zan rfl, rfl, rfl, rfl, rfl⟩
  · rw [decide_eq_false hf] at hs;refine ZaC Tryz.func11 rfl rfl Tryz.ntmps11 rfl rfl rfl fun F hF => ?_;refine Zaf ?_;refine Zab ?_;refine Zal.go (ZaM 1 rfl rfl rfl rfl rfl rfl rfl) ?_;refine Zal.go (ZaM 2 rfl rfl rfl rfl rfl rfl rfl) ?_;refine Zal.go (ZaR 3 zl4 rfl rfl rfl rfl) ?_;refine Zae ?_;refine Zaf ?_;refine Zaf ?_;refine Zab ?_
    first | refine Zaa.go (ZaE rfl rfl rw25 rfl) ?_ | refine Zaa.go (Zay rfl rfl rw25 rfl rfl rfl) ?_ | refine Zaa.go (Za8 rfl rfl (rfl) rfl rw25 rfl) ?_
    refine Zaa.go (Zas (hs) rfl rfl) ?_
    first | refine Zaa.go (Zbh rfl rfl) ?_ | refine Zaa.go (ZbE rfl rfl) ?_
    refine Zaa.go (Zac rfl rfl) ?_;refine Zbt 20 rfl (rfl) ?_;refine Zak rfl rfl rfl rfl ?_;refine Zak rfl rfl rfl rfl ?_;refine Zak rfl rfl rfl rfl ?_;refine Zak rfl rfl rfl rfl ?_;refine Zaa.go (Zax rfl rfl rfl rfl) ?_;refine Zaa.go (Zac rfl rfl) ?_;refine Zak rfl rfl rfl rfl ?_;refine Zak rfl rfl rfl rfl ?_;refine Zaa.go (Zax rfl rfl rfl rfl) ?_;refine Zae ?_;refine ZaQ rfl rfl ?_;refine Zaf ?_;refine Zab ?_;refine Zaa.go (Zas (hk) rfl rfl) ?_;refine Zal.go (ZaG rfl rfl rfl rfl rfl rfl rfl sz4) ?_;refine Zae ?_;refine Zar ?_;exact ⟨_, [], [], Zan rfl, rfl, rfl, rfl, rfl⟩
end Go.Proofs.YtnamabifclidmaaGreat
/- Layer 28: how the laws' arguments are opened. -/
namespace Go.Proofs.YtnamabifclidmaaGreat
open Go.ChangeShapes Go.WideShapes Go.ChangeAt Go.RowKit

section
variable {H : Type} {enc : TypeId × Value → H} {w : World}
abbrev tt {α : Type} : α → Prop := fun _ => True
theorem oI : OpenT enc Tryz.prog w 3 1 intD tt := (openI64 Tryz.underlying3).asQ id (fun _ _ => rfl) (fun _ _ => trivial)
theorem oJ : OpenT enc Tryz.prog w 2 1 intD tt := (openI64 Tryz.underlying2).asQ id (fun _ _ => rfl) (fun _ _ => trivial)
theorem oS : OpenT enc Tryz.prog w 9 1 strD tt := (openStrL Tryz.underlying9).asQ id (fun _ _ => rfl) (fun _ _ => trivial)
theorem oIs : OpenT enc Tryz.prog w 26 1 (fun l : List Int => .sl none (l.map intD)) tt := (openSl Tryz.underlying26 (by kernel_rfl) (by omega) (b := 8) (by kernel_rfl) oI).asQ id (fun _ _ => rfl) (fun _ _ => trivial)
theorem oAcc : OpenT enc Tryz.prog w 50 3 accD tt :=
  (openSt Tryz.underlying50 (by kernel_rfl) (openFc rfl (by kernel_rfl) oS (openFc rfl (by kernel_rfl) oI (openFc rfl (by kernel_rfl) oS openF0)))).asQ (fun a => (⟨a.1, a.2.1, a.2.2.1⟩ : Acc)) (fun _ _ => rfl) (fun _ _ => trivial)
theorem oPost : OpenT enc Tryz.prog w 144 4 postD tt :=
  (openSt Tryz.underlying144 (by kernel_rfl) (openFc rfl (by kernel_rfl) oAcc (openFc rfl (by kernel_rfl) oJ openF0))).asQ (fun a => (⟨a.1, a.2.1⟩ : Post)) (fun _ _ => rfl) (fun _ _ => trivial)
theorem oPay : OpenT enc Tryz.prog w 147 3 payD tt :=
  (openSt Tryz.underlying147 (by kernel_rfl) (openFc rfl (by kernel_rfl) oS (openFc rfl (by kernel_rfl) oS (openFc rfl (by kernel_rfl) oJ openF0)))).asQ (fun a => (⟨a.1, a.2.1, a.2.2.1⟩ : Pay)) (fun _ _ => rfl) (fun _ _ => trivial)
theorem oRsc : OpenT enc Tryz.prog w 52 6 rscD tt :=
  (openSt Tryz.underlying52 (by kernel_rfl) (openFc rfl (by kernel_rfl) oI (openFc rfl (by kernel_rfl) oAcc (openFc rfl (by kernel_rfl) oS (openFc rfl (by kernel_rfl) oS openF0))))).asQ (fun a => (⟨a.1, a.2.1, a.2.2.1, a.2.2.2.1⟩ : Rsc)) (fun _ _ => rfl) (fun _ _ => trivial)
theorem oItm : OpenT enc Tryz.prog w 80 6 itmD tt :=
  (openSt Tryz.underlying80 (by kernel_rfl) (openFc rfl (by kernel_rfl) oI (openFc rfl (by kernel_rfl) oI (openFc rfl (by kernel_rfl) oI
    (openFc rfl (by kernel_rfl) (openSl Tryz.underlying77 (by kernel_rfl) (by omega) (b := 48) (by kernel_rfl) oPost)
    (openFc rfl (by kernel_rfl) (openSl Tryz.underlying78 (by kernel_rfl) (by omega) (b := 40) (by kernel_rfl) oPay) (openFc rfl (by kernel_rfl) oIs openF0))))))).asQ
    (fun a => (⟨a.1, a.2.1, a.2.2.1, a.2.2.2.1, a.2.2.2.2.1, a.2.2.2.2.2.1⟩ : Itm)) (fun _ _ => rfl) (fun _ _ => trivial)
theorem oRoo : OpenT enc Tryz.prog w 104 7 rooD tt :=
  (openSt Tryz.underlying104 (by kernel_rfl) (openFc rfl (by kernel_rfl) oRsc (openFc rfl (by kernel_rfl) oJ openF0))).asQ (fun a => (⟨a.1, a.2.1⟩ : Roo)) (fun _ _ => rfl) (fun _ _ => trivial)
theorem oPrb : OpenT enc Tryz.prog w 25 2 prbD tt :=
  (openSt Tryz.underlying25 (by kernel_rfl) (openFc rfl (by kernel_rfl) (openSl Tryz.underlying22 (by kernel_rfl) (by omega) (b := 88) (by kernel_rfl) oRoo) (openFc rfl (by kernel_rfl) (openSl Tryz.underlying23 (by kernel_rfl) (by omega) (b := 96) (by kernel_rfl) oItm) openF0))).asQ
    (fun a => (⟨a.1, a.2.1⟩ : Prb)) (fun _ _ => rfl) (fun _ _ => trivial)
end
end Go.Proofs.YtnamabifclidmaaGreat
/- 'girolaw29.FeasibleAll': for every input the law returns true, and each argument reads behind the call as it read before. No condition. -/
namespace Go.Proofs.YtnamabifclidmaaGreat
open Go.ChangeShapes Go.WideShapes Go.ChangeAt Go.RowKit

set_option maxRecDepth 100000 in
theorem feasibleAll_lifted (os : Os) (started : os.Started) (H : Type) (enc : TypeId × Value → H) :
    ReturnsInHanded {} Tryz.checked os 11 .any (Rows.feasibleAllSpec.pre6 enc Tryz.prog Tryz.f11 Rows.feasibleAllRow.domain false) (Rows.feasibleAllSpec.post enc Tryz.prog Tryz.f11 false true false false) := by
  refine returnsInHanded_of_change_sized (C := Tryz.checked) Tryz.own started (by kernel_rfl) Tryz.func11
    (ChangeSpec.witness6 (enc := enc) (C := Tryz.checked) false ⟨#[], #[.agg #[.slice none 0 0, .slice none 0 0], .int .u8 0], []⟩ 8 (by kernel_rfl) (by kernel_rfl) (by kernel_rfl) (by kernel_rfl)) ?_
  intro W base args ds gs before hval0 hW _ hwt _;have hW' := hW;obtain ⟨p, q, hA0, hV, rfl, _, _⟩ := hW;have hlt : ∀ x ∈ p ++ q, x.block < W.heap.size := fun x hx => hW'.lt x hx;have hA : DataW.TrodAll enc Tryz.prog W 0 (fun _ => true) true Tryz.f11.params.toList args.toList ds p := hA0;rw [Tryz.params11] at hA;obtain ⟨v0, v1, d0, d1, p0, p1, rfl, rfl, rfl, h0, h1⟩ := trodAll_two hA;obtain ⟨rfl, rfl⟩ := trodVars_none hV;have hwz : ∀ n ∈ DataW.weightsEach Tryz.prog ([25, 5] : List TypeId) ([d0, d1]), n ≤ reachBytes := fun n hn => of_decide_eq_true (List.all_eq_true.1 hwt n (by rw [Tryz.params11]; exact hn));have hval : ∀ (j : Nat) t v, Tryz.f11.params[j]? = some t → (#[v0, v1] : Array Value)[j]? = some v → Value.okWide Tryz.prog W .any base t v := hval0;rw [Tryz.params11] at hval;obtain ⟨n0, g0⟩ := h0;obtain ⟨cs0, rfl, _⟩ := okWide_struct Tryz.underlying25 (hval 0 25 v0 rfl rfl);obtain ⟨a0, q0, _, r0⟩ := (oPrb) _ _ _ g0 (fun x hx => hlt x (by simp [hx])) (fun n hn => hwz n (DataW.weights_mem_each (j := 0) (t := 25) rfl rfl n hn));obtain ⟨n1, g1⟩ := h1;have hv1 : v1.oneCell' = true := by obtain ⟨_, e⟩ := okWide_int Tryz.underlying5 (hval 1 5 v1 rfl rfl); rw [e]; rfl
  obtain ⟨a1, q1, _, r1⟩ := (openU8 Tryz.underlying5) _ _ _ g1 (fun x hx => hlt x (by simp [hx])) (fun n hn => hwz n (DataW.weights_mem_each (j := 1) (t := 5) rfl rfl n hn));refine (law_calls (lawF9_p a0 a1 q1) (vs := [.agg cs0, v1]) rfl (fun i a v ha hv => ?_)).mono fun e W' ⟨he, hb⟩ => ?_
  · rcases i with _ | _ | i
    · simp at ha hv; subst ha hv; exact RepC.argS rfl r0
    · simp at ha hv; subst ha hv; exact RepC.arg1 rfl rfl hv1 r1
    · simp at ha
  subst he;exact ⟨_, rfl, law_post (tb := 4) Tryz.laidOut (by kernel_rfl) rfl rfl Tryz.underlying4 hW' ⟨rfl, rfl, rfl⟩ hb⟩

theorem feasibleAll_holds : Rows.FeasibleAllSaid :=
  OpenClaim.holds_of_wide 11 Tryz.f11 rfl rfl rfl rfl rfl rfl rfl ⟨rfl, rfl, rfl, rfl, rfl⟩ rfl rfl rfl rfl rfl (by kernel_rfl) Tryz.func11 (by kernel_rfl)
    (of_decide_eq_true (by kernel_rfl)) (by unfold Func.isWrapper; first | (rw [if_pos (by decide +kernel)]; kernel_rfl) | (rw [if_neg (by decide +kernel)]; exact ⟨rfl, rfl⟩))
    (fun os started H enc _ => feasibleAll_lifted os started H enc)
#print axioms feasibleAll_holds

end Go.Proofs.YtnamabifclidmaaGreat
