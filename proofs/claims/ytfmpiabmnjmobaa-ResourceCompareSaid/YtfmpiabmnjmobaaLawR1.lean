/- Layer 28: the law of orders. -/
import Derived.Test.YtfmpiabmnjmobaaRes4
import Derived.Test.YtfmpiabmnjmobaaArr
import Derived.Test.YtfmpiabmnjmobaaResX
namespace Go.Proofs.Ytfmpiabmnjmobaa
open Go.RowKit

theorem retB'' {b : Bool} (h : b = true) : AV.d (.raw (.bool b)) = .d (.raw (.bool true)) := by rw [h]
def itm2 (a b : Int) : Itm := ⟨0, a, b, [], [], []⟩
theorem itm2_weak (a b : Int) : ∀ w O v, RepD w O (.agg [intD 0, intD a, intD b, .sl (some true) [], .sl (some true) [], .sl (some true) []]) v → RepD w O (itmD (itm2 a b)) v := fun w O v h => h.aggMono rfl (by simp [D.one]) fun i c c' hc hc' v hv => by
  match i, hc, hc' with
  | 0, hc, hc' => injection hc with hc; injection hc' with hc'; subst hc hc'; exact hv
  | 1, hc, hc' => injection hc with hc; injection hc' with hc'; subst hc hc'; exact hv
  | 2, hc, hc' => injection hc with hc; injection hc' with hc'; subst hc hc'; exact hv
  | 3, hc, hc' => injection hc with hc; injection hc' with hc'; subst hc hc'; exact hv.anyNil
  | 4, hc, hc' => injection hc with hc; injection hc' with hc'; subst hc hc'; exact hv.anyNil
  | 5, hc, hc' => injection hc with hc; injection hc' with hc'; subst hc hc'; exact hv.anyNil
theorem PCalls.arg1 {P : Program} {f : FuncId} {a a' x : D} (h : PCalls P f [.d a] x) (hw : ∀ w O v, RepD w O a' v → RepD w O a v) : PCalls P f [.d a'] x :=
  ⟨h.1, fun F ρ vs h1 h2 h2' h3 h4 h5 => h.2 F ρ vs h1 h2 h2' h3 h4 fun i c v hc hv => by
    match i, hc with
    | 0, hc =>
      injection hc with hc; subst hc
      cases h5 0 _ v rfl hv with
      | d r => exact .d (hw _ _ _ r)⟩
theorem PCalls.arg2 {P : Program} {f : FuncId} {a a' b b' x : D} (h : PCalls P f [.d a, .d b] x) (hw : ∀ w O v, RepD w O a' v → RepD w O a v) (hw' : ∀ w O v, RepD w O b' v → RepD w O b v) : PCalls P f [.d a', .d b'] x :=
  ⟨h.1, fun F ρ vs h1 h2 h2' h3 h4 h5 => h.2 F ρ vs h1 h2 h2' h3 h4 fun i c v hc hv => by
    match i, hc with
    | 0, hc =>
      injection hc with hc; subst hc
      cases h5 0 _ v rfl hv with
      | d r => exact .d (hw _ _ _ r)
    | 1, hc =>
      injection hc with hc; subst hc
      cases h5 1 _ v rfl hv with
      | d r => exact .d (hw' _ _ _ r)⟩
abbrev a2D (x : Int × Int) : D := .agg [intD x.1, intD x.2]
theorem oA2 {H : Type} {enc : TypeId × Value → H} {w : World} : OpenT enc Try.prog w 49 2 a2D tt := (openA2 Try.underlying49 (by kernel_rfl) (by kernel_rfl) (fun _ => rfl) oI).asQ id (fun _ _ => rfl) (fun _ _ => trivial)
set_option maxRecDepth 100000 in
set_option maxHeartbeats 2000000 in
theorem lawR1_p (a b : Rsc) (x y : Int × Int) : PCalls Try.prog 5 [.d (rscD a), .d (rscD b), .d (a2D x), .d (a2D y)] (.raw (.bool true)) := by
  have hk := known_p
  refine a_enter Try.func5 rfl rfl Try.ntmps5 rfl rfl rfl fun F hF => ?_
  refine a_seq ?_
  refine a_region ?_
  refine Estep.go (st_box 1 rfl rfl rfl rfl rfl rfl rfl) ?_
  refine Estep.go (st_box 2 rfl rfl rfl rfl rfl rfl rfl) ?_
  refine Estep.go (st_box 3 rfl rfl rfl rfl rfl rfl rfl) ?_
  refine Estep.go (st_box 4 rfl rfl rfl rfl rfl rfl rfl) ?_
  refine Pstep.go (st_assign rfl rfl) ?_
  refine o_nil ?_
  refine a_seq ?_
  refine a_drawn [[], [0], [], [2], [0, 1, 2, 3], [], [5], [], [7], [5, 6, 7, 8], [], [], [0, 1, 2, 3, 4, 10, 11], [0, 1, 2, 3, 4, 5, 6, 7, 8, 9, 10, 11, 12]] mixed rfl ?_
  refine dws ?_
  first | refine d_pure [6] [] rfl rfl (fun _ => gp_none (st_indexA 0 rfl rfl rfl (by omega) Try.underlying49 sz3 rfl rfl)) ?_ | refine d_pureA [6] rfl rfl (fun _ => gp_none (st_indexA 0 rfl rfl rfl (by omega) Try.underlying49 sz3 rfl rfl)) ?_
  first | refine d_pure [11] [] rfl rfl (fun _ => gp_none (st_loadD1 rfl rfl on3 rfl)) ?_ | refine d_pureA [11] rfl rfl (fun _ => gp_none (st_loadD1 rfl rfl on3 rfl)) ?_ | refine d_pure [11] [] rfl rfl (fun _ => gp_none (st_loadP rfl rfl rfl on3 rfl)) ?_ | refine d_pureA [11] rfl rfl (fun _ => gp_none (st_loadP rfl rfl rfl on3 rfl)) ?_ | refine d_pure [11] [] rfl rfl (fun _ => gp_none (st_loadR rfl rfl (rfl) rfl on3 rfl)) ?_ | refine d_pureA [11] rfl rfl (fun _ => gp_none (st_loadR rfl rfl (rfl) rfl on3 rfl)) ?_
  first | refine d_pure [6] [] rfl rfl (fun _ => gp_none (st_indexA 1 rfl rfl rfl (by omega) Try.underlying49 sz3 rfl rfl)) ?_ | refine d_pureA [6] rfl rfl (fun _ => gp_none (st_indexA 1 rfl rfl rfl (by omega) Try.underlying49 sz3 rfl rfl)) ?_
  first | refine d_pure [13] [] rfl rfl (fun _ => gp_none (st_loadD1 rfl rfl on3 rfl)) ?_ | refine d_pureA [13] rfl rfl (fun _ => gp_none (st_loadD1 rfl rfl on3 rfl)) ?_ | refine d_pure [13] [] rfl rfl (fun _ => gp_none (st_loadP rfl rfl rfl on3 rfl)) ?_ | refine d_pureA [13] rfl rfl (fun _ => gp_none (st_loadP rfl rfl rfl on3 rfl)) ?_ | refine d_pure [13] [] rfl rfl (fun _ => gp_none (st_loadR rfl rfl (rfl) rfl on3 rfl)) ?_ | refine d_pureA [13] rfl rfl (fun _ => gp_none (st_loadR rfl rfl (rfl) rfl on3 rfl)) ?_
  first | refine d_pure [12, 14] [] rfl rfl (fun _ => gp_none (st_build zl26 pl26 rfl rfl rfl)) ?_ | refine d_pureA [12, 14] rfl rfl (fun _ => gp_none (st_build zl26 pl26 rfl rfl rfl)) ?_
  first | refine d_pure [7] [] rfl rfl (fun _ => gp_none (st_indexA 0 rfl rfl rfl (by omega) Try.underlying49 sz3 rfl rfl)) ?_ | refine d_pureA [7] rfl rfl (fun _ => gp_none (st_indexA 0 rfl rfl rfl (by omega) Try.underlying49 sz3 rfl rfl)) ?_
  first | refine d_pure [16] [] rfl rfl (fun _ => gp_none (st_loadD1 rfl rfl on3 rfl)) ?_ | refine d_pureA [16] rfl rfl (fun _ => gp_none (st_loadD1 rfl rfl on3 rfl)) ?_ | refine d_pure [16] [] rfl rfl (fun _ => gp_none (st_loadP rfl rfl rfl on3 rfl)) ?_ | refine d_pureA [16] rfl rfl (fun _ => gp_none (st_loadP rfl rfl rfl on3 rfl)) ?_ | refine d_pure [16] [] rfl rfl (fun _ => gp_none (st_loadR rfl rfl (rfl) rfl on3 rfl)) ?_ | refine d_pureA [16] rfl rfl (fun _ => gp_none (st_loadR rfl rfl (rfl) rfl on3 rfl)) ?_
  first | refine d_pure [7] [] rfl rfl (fun _ => gp_none (st_indexA 1 rfl rfl rfl (by omega) Try.underlying49 sz3 rfl rfl)) ?_ | refine d_pureA [7] rfl rfl (fun _ => gp_none (st_indexA 1 rfl rfl rfl (by omega) Try.underlying49 sz3 rfl rfl)) ?_
  first | refine d_pure [18] [] rfl rfl (fun _ => gp_none (st_loadD1 rfl rfl on3 rfl)) ?_ | refine d_pureA [18] rfl rfl (fun _ => gp_none (st_loadD1 rfl rfl on3 rfl)) ?_ | refine d_pure [18] [] rfl rfl (fun _ => gp_none (st_loadP rfl rfl rfl on3 rfl)) ?_ | refine d_pureA [18] rfl rfl (fun _ => gp_none (st_loadP rfl rfl rfl on3 rfl)) ?_ | refine d_pure [18] [] rfl rfl (fun _ => gp_none (st_loadR rfl rfl (rfl) rfl on3 rfl)) ?_ | refine d_pureA [18] rfl rfl (fun _ => gp_none (st_loadR rfl rfl (rfl) rfl on3 rfl)) ?_
  first | refine d_pure [17, 19] [] rfl rfl (fun _ => gp_none (st_build zl26 pl26 rfl rfl rfl)) ?_ | refine d_pureA [17, 19] rfl rfl (fun _ => gp_none (st_build zl26 pl26 rfl rfl rfl)) ?_
  refine d_eff [] [5] [(9, _)] rfl rfl (fun _ => ge_none (st_alloc 5 zl26 rfl rfl rfl rfl)) (.inr ⟨9, _, rfl, rfl, rfl, rfl, rfl⟩) rfl rfl rfl rfl rfl ?_
  refine d_eff [] [6] [(10, _)] rfl rfl (fun _ => ge_none (st_alloc 6 zl26 rfl rfl rfl rfl)) (.inr ⟨10, _, rfl, rfl, rfl, rfl, rfl⟩) rfl rfl rfl rfl rfl ?_
  refine d_eff [9, 15] [5] [] rfl rfl (fun _ => ge_none (st_storeP rfl rfl rfl rfl rfl rfl rfl sz26)) (.inl ⟨rfl, rfl⟩) rfl rfl rfl rfl rfl ?_
  refine dwc 13 rfl rfl rfl ?_
  refine dw1 14 rfl rfl ?_
  refine Estep.go (st_storeP rfl rfl rfl rfl rfl rfl rfl sz26) ?_
  refine o_nil ⟨rfl, ?_⟩
  refine dwe ?_
  refine a_seq ?_
  refine a_drawn [[], [0], [0, 1], [0, 1, 2], [0, 1], [0, 1, 2, 3, 4], [0, 1, 2, 3, 4, 5], [0, 1], [0, 1], [0, 1, 2, 3, 4, 5, 6, 7, 8], [0, 1, 2, 3, 4, 5, 6, 7, 8, 9], [0, 1, 2, 3, 4, 5, 6, 7, 8, 9, 10], [0, 1, 2, 3, 4, 5, 6, 7, 8, 9, 10, 11], [0, 1, 2, 3, 4, 5, 6, 7, 8, 9, 10, 11, 12], [0, 1, 2, 3, 4, 5, 6, 7, 8, 9, 10, 11, 12, 13], [0, 1, 2, 3, 4, 5, 6, 7, 8, 9, 10, 11, 12], [0, 1, 2, 3, 4, 5, 6, 7, 8, 9, 10, 11, 12, 13, 14, 15], [0, 1, 2, 3, 4, 5, 6, 7, 8, 9, 10, 11, 12, 13, 14, 15, 16], [0, 1, 2, 3, 4, 5, 6, 7, 8, 9, 10, 11, 12], [0, 1, 2, 3, 4, 5, 6, 7, 8, 9, 10, 11, 12], [0, 1, 2, 3, 4, 5, 6, 7, 8, 9, 10, 11, 12, 13, 14, 15, 16, 17, 18, 19], [0, 1, 2, 3, 4, 5, 6, 7, 8, 9, 10, 11, 12, 13, 14, 15, 16, 17, 18, 19, 20], [0, 1, 2, 3, 4, 5, 6, 7, 8, 9, 10, 11, 12, 13, 14, 15, 16, 17, 18, 19, 20, 21], [0, 1, 2, 3, 4, 5, 6, 7, 8, 9, 10, 11, 12, 13, 14, 15, 16, 17, 18, 19, 20, 21, 22]] mixed rfl ?_
  refine dw1 1 rfl rfl ?_
  refine Pstep.go (st_callP (hk) rfl rfl) ?_
  refine o_nil ⟨rfl, ?_⟩
  refine dw1 2 rfl rfl ?_
  refine Pstep.go (st_move rfl rfl) ?_
  refine o_setT 22 rfl (rfl) ?_
  refine o_nil ⟨rfl, ?_⟩
  refine dws ?_
  first | refine d_pure [4, 22] [] rfl rfl (fun _ => gp_run rfl rfl rfl (st_loadDS rfl rfl rw48 rfl)) ?_ | refine d_pureA [4, 22] rfl rfl (fun _ => gp_run rfl rfl rfl (st_loadDS rfl rfl rw48 rfl)) ?_ | refine d_pure [4, 22] [] rfl rfl (fun _ => gp_run rfl rfl rfl (st_loadPS rfl rfl rw48 rfl rfl rfl)) ?_ | refine d_pureA [4, 22] rfl rfl (fun _ => gp_run rfl rfl rfl (st_loadPS rfl rfl rw48 rfl rfl rfl)) ?_ | refine d_pure [4, 22] [] rfl rfl (fun _ => gp_run rfl rfl rfl (st_loadRS rfl rfl (rfl) rfl rw48 rfl)) ?_ | refine d_pureA [4, 22] rfl rfl (fun _ => gp_run rfl rfl rfl (st_loadRS rfl rfl (rfl) rfl rw48 rfl)) ?_
  first | refine d_pure [23, 22] [] rfl rfl (fun _ => gp_run rfl rfl rfl (st_callP (ownres_p a) rfl rfl)) ?_ | refine d_pureA [23, 22] rfl rfl (fun _ => gp_run rfl rfl rfl (st_callP (ownres_p a) rfl rfl)) ?_
  first | refine d_pure [5, 22] [] rfl rfl (fun _ => gp_run rfl rfl rfl (st_loadDS rfl rfl rw48 rfl)) ?_ | refine d_pureA [5, 22] rfl rfl (fun _ => gp_run rfl rfl rfl (st_loadDS rfl rfl rw48 rfl)) ?_ | refine d_pure [5, 22] [] rfl rfl (fun _ => gp_run rfl rfl rfl (st_loadPS rfl rfl rw48 rfl rfl rfl)) ?_ | refine d_pureA [5, 22] rfl rfl (fun _ => gp_run rfl rfl rfl (st_loadPS rfl rfl rw48 rfl rfl rfl)) ?_ | refine d_pure [5, 22] [] rfl rfl (fun _ => gp_run rfl rfl rfl (st_loadRS rfl rfl (rfl) rfl rw48 rfl)) ?_ | refine d_pureA [5, 22] rfl rfl (fun _ => gp_run rfl rfl rfl (st_loadRS rfl rfl (rfl) rfl rw48 rfl)) ?_
  first | refine d_pure [25, 22] [] rfl rfl (fun _ => gp_run rfl rfl rfl (st_callP (ownres_p b) rfl rfl)) ?_ | refine d_pureA [25, 22] rfl rfl (fun _ => gp_run rfl rfl rfl (st_callP (ownres_p b) rfl rfl)) ?_
  first | refine d_pure [24, 26, 22] [] rfl rfl (fun _ => gp_run rfl rfl rfl (st_callP (compare_p a b) rfl rfl)) ?_ | refine d_pureA [24, 26, 22] rfl rfl (fun _ => gp_run rfl rfl rfl (st_callP (compare_p a b) rfl rfl)) ?_
  first | refine d_pure [4, 22] [] rfl rfl (fun _ => gp_run rfl rfl rfl (st_loadDS rfl rfl rw48 rfl)) ?_ | refine d_pureA [4, 22] rfl rfl (fun _ => gp_run rfl rfl rfl (st_loadDS rfl rfl rw48 rfl)) ?_ | refine d_pure [4, 22] [] rfl rfl (fun _ => gp_run rfl rfl rfl (st_loadPS rfl rfl rw48 rfl rfl rfl)) ?_ | refine d_pureA [4, 22] rfl rfl (fun _ => gp_run rfl rfl rfl (st_loadPS rfl rfl rw48 rfl rfl rfl)) ?_ | refine d_pure [4, 22] [] rfl rfl (fun _ => gp_run rfl rfl rfl (st_loadRS rfl rfl (rfl) rfl rw48 rfl)) ?_ | refine d_pureA [4, 22] rfl rfl (fun _ => gp_run rfl rfl rfl (st_loadRS rfl rfl (rfl) rfl rw48 rfl)) ?_
  first | refine d_pure [5, 22] [] rfl rfl (fun _ => gp_run rfl rfl rfl (st_loadDS rfl rfl rw48 rfl)) ?_ | refine d_pureA [5, 22] rfl rfl (fun _ => gp_run rfl rfl rfl (st_loadDS rfl rfl rw48 rfl)) ?_ | refine d_pure [5, 22] [] rfl rfl (fun _ => gp_run rfl rfl rfl (st_loadPS rfl rfl rw48 rfl rfl rfl)) ?_ | refine d_pureA [5, 22] rfl rfl (fun _ => gp_run rfl rfl rfl (st_loadPS rfl rfl rw48 rfl rfl rfl)) ?_ | refine d_pure [5, 22] [] rfl rfl (fun _ => gp_run rfl rfl rfl (st_loadRS rfl rfl (rfl) rfl rw48 rfl)) ?_ | refine d_pureA [5, 22] rfl rfl (fun _ => gp_run rfl rfl rfl (st_loadRS rfl rfl (rfl) rfl rw48 rfl)) ?_
  refine dwc 9 rfl rfl rfl ?_
  refine dw1 10 rfl rfl ?_
  refine o_run rfl rfl rfl ?_
  refine Pstep.go (st_callP (refcompare_p a b) rfl rfl) ?_
  refine o_nil ⟨rfl, ?_⟩
  refine dw1 11 rfl rfl ?_
  refine o_run rfl rfl rfl ?_
  first | refine Pstep.go (st_eql rfl rfl rfl) ?_ | refine Pstep.go (st_eqlSL rfl rfl rfl) ?_ | refine Pstep.go (st_eqlS rfl rfl rfl) ?_ | refine Pstep.go (st_eqlB Try.underlying3 rfl rfl rfl) ?_ | refine Pstep.go (st_eqlP Try.underlying3 rfl rfl rfl) ?_ | refine Pstep.go (st_eqlN Try.underlying3 rfl rfl) ?_ | refine Pstep.go (st_eqlF Try.underlying3 rfl rfl rfl) ?_ | refine Pstep.go (st_eqlFN Try.underlying3 rfl rfl) ?_
  refine o_nil ⟨rfl, ?_⟩
  refine dw1 12 rfl rfl ?_
  refine Pstep.go (st_pickT rfl rfl rfl rfl) ?_
  refine o_nil ⟨rfl, ?_⟩
  refine dw1 13 rfl rfl ?_
  refine Pstep.go (st_move rfl rfl) ?_
  refine o_setT 33 rfl ((by simp)) ?_
  refine o_nil ⟨rfl, ?_⟩
  refine dws ?_
  first | refine d_pure [9, 33] [] rfl rfl (fun _ => gp_run rfl rfl rfl (st_loadDS rfl rfl rw26 rfl)) ?_ | refine d_pureA [9, 33] rfl rfl (fun _ => gp_run rfl rfl rfl (st_loadDS rfl rfl rw26 rfl)) ?_ | refine d_pure [9, 33] [] rfl rfl (fun _ => gp_run rfl rfl rfl (st_loadPS rfl rfl rw26 rfl rfl rfl)) ?_ | refine d_pureA [9, 33] rfl rfl (fun _ => gp_run rfl rfl rfl (st_loadPS rfl rfl rw26 rfl rfl rfl)) ?_ | refine d_pure [9, 33] [] rfl rfl (fun _ => gp_run rfl rfl rfl (st_loadRS rfl rfl (rfl) rfl rw26 rfl)) ?_ | refine d_pureA [9, 33] rfl rfl (fun _ => gp_run rfl rfl rfl (st_loadRS rfl rfl (rfl) rfl rw26 rfl)) ?_
  first | refine d_pure [34, 33] [] rfl rfl (fun _ => gp_run rfl rfl rfl (st_callP ((ownitem_p (itm2 x.1 x.2) (by simp [itm2]) (by simp [itm2]) (by simp [itm2])).arg1 (itm2_weak _ _)) rfl rfl)) ?_ | refine d_pureA [34, 33] rfl rfl (fun _ => gp_run rfl rfl rfl (st_callP ((ownitem_p (itm2 x.1 x.2) (by simp [itm2]) (by simp [itm2]) (by simp [itm2])).arg1 (itm2_weak _ _)) rfl rfl)) ?_
  first | refine d_pure [10, 33] [] rfl rfl (fun _ => gp_run rfl rfl rfl (st_loadDS rfl rfl rw26 rfl)) ?_ | refine d_pureA [10, 33] rfl rfl (fun _ => gp_run rfl rfl rfl (st_loadDS rfl rfl rw26 rfl)) ?_ | refine d_pure [10, 33] [] rfl rfl (fun _ => gp_run rfl rfl rfl (st_loadPS rfl rfl rw26 rfl rfl rfl)) ?_ | refine d_pureA [10, 33] rfl rfl (fun _ => gp_run rfl rfl rfl (st_loadPS rfl rfl rw26 rfl rfl rfl)) ?_ | refine d_pure [10, 33] [] rfl rfl (fun _ => gp_run rfl rfl rfl (st_loadRS rfl rfl (rfl) rfl rw26 rfl)) ?_ | refine d_pureA [10, 33] rfl rfl (fun _ => gp_run rfl rfl rfl (st_loadRS rfl rfl (rfl) rfl rw26 rfl)) ?_
  first | refine d_pure [36, 33] [] rfl rfl (fun _ => gp_run rfl rfl rfl (st_callP ((ownitem_p (itm2 y.1 y.2) (by simp [itm2]) (by simp [itm2]) (by simp [itm2])).arg1 (itm2_weak _ _)) rfl rfl)) ?_ | refine d_pureA [36, 33] rfl rfl (fun _ => gp_run rfl rfl rfl (st_callP ((ownitem_p (itm2 y.1 y.2) (by simp [itm2]) (by simp [itm2]) (by simp [itm2])).arg1 (itm2_weak _ _)) rfl rfl)) ?_
  first | refine d_pure [35, 37, 33] [] rfl rfl (fun _ => gp_run rfl rfl rfl (st_callP (before_p (itm2 x.1 x.2) (itm2 y.1 y.2)) rfl rfl)) ?_ | refine d_pureA [35, 37, 33] rfl rfl (fun _ => gp_run rfl rfl rfl (st_callP (before_p (itm2 x.1 x.2) (itm2 y.1 y.2)) rfl rfl)) ?_
  first | refine d_pure [9, 33] [] rfl rfl (fun _ => gp_run rfl rfl rfl (st_loadDS rfl rfl rw26 rfl)) ?_ | refine d_pureA [9, 33] rfl rfl (fun _ => gp_run rfl rfl rfl (st_loadDS rfl rfl rw26 rfl)) ?_ | refine d_pure [9, 33] [] rfl rfl (fun _ => gp_run rfl rfl rfl (st_loadPS rfl rfl rw26 rfl rfl rfl)) ?_ | refine d_pureA [9, 33] rfl rfl (fun _ => gp_run rfl rfl rfl (st_loadPS rfl rfl rw26 rfl rfl rfl)) ?_ | refine d_pure [9, 33] [] rfl rfl (fun _ => gp_run rfl rfl rfl (st_loadRS rfl rfl (rfl) rfl rw26 rfl)) ?_ | refine d_pureA [9, 33] rfl rfl (fun _ => gp_run rfl rfl rfl (st_loadRS rfl rfl (rfl) rfl rw26 rfl)) ?_
  first | refine d_pure [10, 33] [] rfl rfl (fun _ => gp_run rfl rfl rfl (st_loadDS rfl rfl rw26 rfl)) ?_ | refine d_pureA [10, 33] rfl rfl (fun _ => gp_run rfl rfl rfl (st_loadDS rfl rfl rw26 rfl)) ?_ | refine d_pure [10, 33] [] rfl rfl (fun _ => gp_run rfl rfl rfl (st_loadPS rfl rfl rw26 rfl rfl rfl)) ?_ | refine d_pureA [10, 33] rfl rfl (fun _ => gp_run rfl rfl rfl (st_loadPS rfl rfl rw26 rfl rfl rfl)) ?_ | refine d_pure [10, 33] [] rfl rfl (fun _ => gp_run rfl rfl rfl (st_loadRS rfl rfl (rfl) rfl rw26 rfl)) ?_ | refine d_pureA [10, 33] rfl rfl (fun _ => gp_run rfl rfl rfl (st_loadRS rfl rfl (rfl) rfl rw26 rfl)) ?_
  refine dwc 20 rfl rfl rfl ?_
  refine dw1 21 rfl rfl ?_
  refine o_run rfl rfl rfl ?_
  refine Pstep.go (st_callP ((refbefore_p (itm2 x.1 x.2) (itm2 y.1 y.2)).arg2 (itm2_weak _ _) (itm2_weak _ _)) rfl rfl) ?_
  refine o_nil ⟨rfl, ?_⟩
  refine dw1 22 rfl rfl ?_
  refine o_run rfl rfl rfl ?_
  first | refine Pstep.go (st_eql rfl rfl rfl) ?_ | refine Pstep.go (st_eqlSL rfl rfl rfl) ?_ | refine Pstep.go (st_eqlS rfl rfl rfl) ?_ | refine Pstep.go (st_eqlB Try.underlying4 rfl rfl rfl) ?_ | refine Pstep.go (st_eqlP Try.underlying4 rfl rfl rfl) ?_ | refine Pstep.go (st_eqlN Try.underlying4 rfl rfl) ?_ | refine Pstep.go (st_eqlF Try.underlying4 rfl rfl rfl) ?_ | refine Pstep.go (st_eqlFN Try.underlying4 rfl rfl) ?_
  refine o_nil ⟨rfl, ?_⟩
  refine dw1 23 rfl rfl ?_
  refine Pstep.go (st_pickT rfl rfl rfl rfl) ?_
  refine o_nil ⟨rfl, ?_⟩
  refine dw1 24 rfl rfl ?_
  refine Pstep.go (st_assign rfl rfl) ?_
  refine o_nil ⟨rfl, ?_⟩
  refine dwe ?_
  refine a_ret ?_
  exact ⟨_, [], [], res_of rfl, rfl, rfl, retB'' (by simp), rfl⟩
end Go.Proofs.Ytfmpiabmnjmobaa
