/- The kit's contract of slices.SortFunc laid at this program: the renumbering and its facts. Made by program (lays.py). -/
import Derived.Test.YtgdppeobgefogaaMg22
import Derived.Shelf.SlLaysNS
import Derived.Test.YtgdppeobgefogaaProg
namespace Go.Proofs.Ytgdppeobgefogaa
open Go.Shelf Go.Proofs Go.Proofs.Try
def renS : Go.Shelf.Ren := ⟨fun x => match x with
  | 53 => 41
  | 64 => 51
  | 63 => 50
  | 78 => 63
  | 79 => 64
  | 70 => 54
  | 71 => 55
  | 72 => 56
  | 73 => 57
  | 74 => 58
  | 75 => 59
  | 59 => 60
  | 76 => 61
  | 77 => 62
  | 88 => 65
  | 89 => 66
  | 90 => 67
  | 91 => 68
  | 92 => 69
  | 68 => 70
  | 96 => 71
  | x => x,
  fun x => match x with
  | 22 => 25
  | 23 => 3
  | 3 => 3
  | 51 => 81
  | 0 => 0
  | 67 => 102
  | 69 => 55
  | 4 => 4
  | 61 => 95
  | 60 => 94
  | 44 => 99
  | 5 => 5
  | 9 => 9
  | 75 => 104
  | 79 => 108
  | 83 => 111
  | 84 => 112
  | x => x, fun x => x⟩
theorem laysS : SlLaysN.n53 Try.prog renS where
  mixed := rfl
  f53 := ⟨Try.f41.name, by decide, Try.func41.trans (congrArg some (by kernel_rfl))⟩
  f59 := ⟨Try.f60.name, by decide, Try.func60.trans (congrArg some (by kernel_rfl))⟩
  f63 := ⟨Try.f50.name, by decide, Try.func50.trans (congrArg some (by kernel_rfl))⟩
  f64 := Try.func51.trans (congrArg some (by kernel_rfl))
  f68 := ⟨Try.f70.name, by decide, Try.func70.trans (congrArg some (by kernel_rfl))⟩
  f70 := ⟨Try.f54.name, by decide, Try.func54.trans (congrArg some (by kernel_rfl))⟩
  f71 := ⟨Try.f55.name, by decide, Try.func55.trans (congrArg some (by kernel_rfl))⟩
  f72 := ⟨Try.f56.name, by decide, Try.func56.trans (congrArg some (by kernel_rfl))⟩
  f73 := ⟨Try.f57.name, by decide, Try.func57.trans (congrArg some (by kernel_rfl))⟩
  f74 := ⟨Try.f58.name, by decide, Try.func58.trans (congrArg some (by kernel_rfl))⟩
  f75 := ⟨Try.f59.name, by decide, Try.func59.trans (congrArg some (by kernel_rfl))⟩
  f76 := ⟨Try.f61.name, by decide, Try.func61.trans (congrArg some (by kernel_rfl))⟩
  f77 := ⟨Try.f62.name, by decide, Try.func62.trans (congrArg some (by kernel_rfl))⟩
  f78 := Try.func63.trans (congrArg some (by kernel_rfl))
  f79 := Try.func64.trans (congrArg some (by kernel_rfl))
  f88 := ⟨Try.f65.name, by decide, Try.func65.trans (congrArg some (by kernel_rfl))⟩
  f89 := Try.func66.trans (congrArg some (by kernel_rfl))
  f90 := Try.func67.trans (congrArg some (by kernel_rfl))
  f91 := ⟨Try.f68.name, by decide, Try.func68.trans (congrArg some (by kernel_rfl))⟩
  f92 := ⟨Try.f69.name, by decide, Try.func69.trans (congrArg some (by kernel_rfl))⟩
  f96 := ⟨Try.f71.name, by decide, Try.func71.trans (congrArg some (by kernel_rfl))⟩
  t0 := Try.underlying0
  a0 := Try.isAgg0
  z0 := Try.sizeOf0
  v0 := Try.zeroValue0
  t3 := Try.underlying3
  a3 := Try.isAgg3
  z3 := Try.sizeOf3
  v3 := Try.zeroValue3
  t4 := Try.underlying4
  a4 := Try.isAgg4
  z4 := Try.sizeOf4
  v4 := Try.zeroValue4
  t5 := Try.underlying5
  a5 := Try.isAgg5
  z5 := Try.sizeOf5
  v5 := Try.zeroValue5
  t9 := Try.underlying9
  a9 := Try.isAgg9
  z9 := Try.sizeOf9
  v9 := Try.zeroValue9
  t22 := Try.underlying25
  a22 := Try.isAgg25
  z22 := Try.sizeOf25
  v22 := Try.zeroValue25
  t23 := Try.underlying3
  a23 := Try.isAgg3
  z23 := Try.sizeOf3
  v23 := Try.zeroValue3
  t44 := Try.underlying99
  a44 := Try.isAgg99
  z44 := Try.sizeOf99
  v44 := Try.zeroValue99
  t51 := Try.underlying81
  a51 := Try.isAgg81
  z51 := Try.sizeOf81
  v51 := Try.zeroValue81
  t60 := Try.underlying94
  a60 := Try.isAgg94
  z60 := Try.sizeOf94
  v60 := Try.zeroValue94
  t61 := Try.underlying95
  a61 := Try.isAgg95
  z61 := Try.sizeOf95
  v61 := Try.zeroValue95
  t67 := Try.underlying102
  a67 := Try.isAgg102
  z67 := Try.sizeOf102
  v67 := Try.zeroValue102
  t69 := Try.underlying55
  a69 := Try.isAgg55
  z69 := Try.sizeOf55
  v69 := Try.zeroValue55
  t75 := Try.underlying104
  a75 := Try.isAgg104
  z75 := Try.sizeOf104
  v75 := Try.zeroValue104
  t79 := Try.underlying108
  a79 := Try.isAgg108
  z79 := Try.sizeOf108
  v79 := Try.zeroValue108
  t83 := Try.underlying111
  a83 := Try.isAgg111
  z83 := Try.sizeOf111
  v83 := Try.zeroValue111
  t84 := Try.underlying112
  a84 := Try.isAgg112
  z84 := Try.sizeOf112
  v84 := Try.zeroValue112
end Go.Proofs.Ytgdppeobgefogaa
/- Layer 31: Condense. -/
namespace Go.Proofs.Ytgdppeobgefogaa
open Go.RowKit
def sortN (l : List Nat) : List Nat := (sortI (l.map Int.ofNat)).map Int.toNat
theorem sortN_perm (l : List Nat) : (sortN l).Perm l := by
  have h := (sortI_perm (l.map Int.ofNat)).map Int.toNat;rw [List.map_map] at h
  have e : l.map (Int.toNat ∘ Int.ofNat) = l := by
    conv => rhs; rw [← List.map_id l]
    exact List.map_congr_left fun x _ => rfl
  rwa [e] at h
theorem sortN_len (l : List Nat) : (sortN l).length = l.length := (sortN_perm l).length_eq
theorem sortN_map (l : List Nat) : (sortI (l.map Int.ofNat)).map zD = (sortN l).map natD := by
  unfold sortN;rw [List.map_map];refine List.map_congr_left fun x hx => ?_;obtain ⟨y, _, rfl⟩ := List.mem_map.1 ((sortI_perm _).mem_iff.1 hx)
  rfl
theorem ofN_map (l : List Nat) : l.map natD = (l.map Int.ofNat).map zD := by rw [List.map_map]; rfl
def cptS (l : List Nat) : List Nat := cptK (sortN l) (sortN l).length
theorem cptS_le (l : List Nat) : (cptS l).length ≤ l.length := by have := cptK_le (sortN l) (sortN l).length; rw [sortN_len] at this; unfold cptS; rw [sortN_len]; exact this
theorem cptS_nil : cptS [] = [] := by unfold cptS; rw [List.length_eq_zero_iff.1 (sortN_len [])]; rfl
theorem GRep.put {M : MF} {n j b c : Nat} {hs : Nat → Hd} {ls : Nat → List Nat} (h : GRep M n hs ls) (hj : j < n) (hh : hs j = some (b, c)) {l : List Nat} (hl : l.length ≤ c) : GRep (Zbv M b (.row 3 1 c (l.map natD))) n hs (updF ls j l) := by
  refine ⟨fun k hk => ?_, h.inj⟩
  by_cases e : k = j
  · subst e; rw [ZaV, hh]; exact ⟨by rw [List.length_map]; exact hl, ZbE _ _ _⟩
  · rw [ZaS e];have h1 := h.at_ k hk
    match hk2 : hs k, h1 with
    | none, h1 => exact h1
    | some (b', c'), h1 => exact ⟨h1.1, by rw [mput_ne fun e2 => e (h.inj k j b c' c hk hj (by rw [hk2, e2]) hh)]; exact h1.2⟩
theorem hd_two (h : Hd) : h = none ∨ ∃ b c, h = some (b, c) := by
  match h with
  | none => exact .inl rfl
  | some (b, c) => exact .inr ⟨b, c, rfl⟩
theorem updF_id {α : Type} {f : Nat → α} {i : Nat} {x : α} (h : f i = x) : updF f i x = f := by
  funext j; unfold updF; split
  · rename_i e; rw [e, h]
  · rfl
noncomputable def cdE (g : List (List Nat)) (c : Nat) : List Nat := edT g (noC g) g.length 0 c
noncomputable def cdC (g : List (List Nat)) (i c : Nat) : List Nat := if c < i then cptS (cdE g c) else cdE g c
theorem cdC_zero (g : List (List Nat)) : cdC g 0 = edT g (noC g) g.length 0 := by funext c; unfold cdC; rw [if_neg (by omega)]; rfl
theorem cdC_at (g : List (List Nat)) (i : Nat) : cdC g i i = cdE g i := by unfold cdC; rw [if_neg (by omega)]
theorem cdC_step (g : List (List Nat)) (i : Nat) : updF (cdC g i) i (cptS (cdE g i)) = cdC g (i + 1) := by
  funext c
  by_cases e : c = i
  · subst e; rw [ZaV]; unfold cdC; rw [if_pos (by omega)]
  · rw [ZaS e]; unfold cdC
    by_cases h : c < i
    · rw [if_pos h, if_pos (by omega)]
    · rw [if_neg h, if_neg (by omega)]
noncomputable def cdG (g : List (List Nat)) : List (List Nat) := grF (cntC g) (fun c => cptS (cdE g c))
theorem cdC_end (g : List (List Nat)) : grF (cntC g) (cdC g (cntC g)) = cdG g := by
  unfold cdG grF;exact List.map_congr_left fun c hc => by unfold cdC; rw [if_pos (List.mem_range.1 hc)]
theorem cdE_len {g : List (List Nat)} (hg : GT g) (c : Nat) : (cdE g c).length ≤ 1048576 := by
  have := edT_len g (noC g) g.length 0 c;have := hg.tot;unfold cdE
  simp at *; omega
theorem getno {g : List (List Nat)} {v : Nat} (hv : v < g.length) : ((noL g).map natD)[v]? = some (natD (noC g v)) := by
  have h := getn (l := noL g) (k := v) (by rw [noL_len]; exact hv)
  rwa [ZbR hv] at h
theorem cnt_le (g : List (List Nat)) (hg : GT g) : cntC g ≤ g.length := by
  have hcn := cn_ex g hg
  have h1 : ((List.range (cntC g)).map fun c => if h : c < cntC g then Classical.choose (hcn.use c h) else 0).Nodup := by
    rw [List.nodup_iff_pairwise_ne, List.pairwise_map];refine List.Pairwise.imp_of_mem (fun {a b} ha hb hab e => hab ?_) (List.nodup_range (n := cntC g));have ha := List.mem_range.1 ha;have hb := List.mem_range.1 hb;rw [dif_pos ha, dif_pos hb] at e;have e1 := (Classical.choose_spec (hcn.use a ha)).2;have e2 := (Classical.choose_spec (hcn.use b hb)).2;rw [← e1, e, e2]
  have := ZbC h1 (m := List.range g.length) fun x hx => by
    obtain ⟨c, hc, rfl⟩ := List.mem_map.1 hx;have hc := List.mem_range.1 hc;rw [dif_pos hc];exact List.mem_range.2 (Classical.choose_spec (hcn.use c hc)).1
  rwa [List.length_map, List.length_range, List.length_range] at this
set_option maxRecDepth 100000 in
theorem compact_0 : ACalls Try.prog 42 [.d (.raw (.slice none 0 0))] [] fun r H' => r = .d (.raw (.slice none 0 0)) ∧ H' = [] := by
  refine Zbm Try.func42 rfl rfl Try.ntmps42 rfl rfl rfl fun F hF => (Zag (Zae (goAs rfl rfl (Zaf (Zag (Zag (Zae (goMv rfl rfl ?_))))))))
  first | refine Zab.go (ZaX rfl Try.underlying25 rfl) ?_ | refine Zab.go (Zax rfl rfl Try.underlying25 rfl) ?_ | refine Zab.go (Zba rfl Try.underlying25 rfl) ?_ | refine Zab.go (Za0 rfl Try.underlying25 rfl) ?_ | refine Zab.go (Zbd rfl Try.underlying25 rfl) ?_ | refine Zab.go (Za9 rfl Try.underlying25 rfl) ?_
  first | refine Zab.go (ZaT rfl rfl rfl) ?_ | refine Zab.go (ZaN rfl rfl rfl) ?_
  refine Zaf (a_true rfl (rfl) (Zag (Zae (goMv rfl rfl (goAs rfl rfl (Zaf (Zbn ?_)))))));exact ⟨_, [], _, ZaZ rfl, rfl, rfl, rfl, rfl⟩
theorem compact2_c {l : List Nat} {c : Nat} (hc : l.length ≤ c) (hl : l.length ≤ 1048576) (M : MF) (b : Nat) :
    ACalls Try.prog 42 [.d (.raw (sV b l.length c))] [(40, [.multi (Zbv M b (.row 3 1 c ((sortN l).map natD)))])] fun r H' => r = .d (.raw (sV b (cptS l).length c)) ∧ H' = [(40, [.multi (Zbv (Zbv M b (.row 3 1 c ((sortN l).map natD))) b (.row 3 1 c ((cptS l).map natD)))])] := by
  have hn := sortN_len l;have h := compact_c (sortN l) b c (Zbv M b (.row 3 1 c ((sortN l).map natD))) (by omega) (by omega) (ZbE _ _ _);rw [show (sV b (sortN l).length c) = sV b l.length c by rw [hn]] at h;exact h
set_option maxRecDepth 100000 in
set_option maxHeartbeats 1000000 in
theorem condense_p (g : List (List Nat)) (hg : GT g) : PCalls Try.prog 26 [.d (grD g)] (.tup [grD (cdG g), intD 0]) := by
  have hn := hg.gb.n;have hcn := cn_ex g hg;have hlc : (comC g).length = cntC g := Zbs _ _;have hcl := cnt_le g hg
  obtain ⟨cnt, hcnt⟩ : ∃ cnt, cntC g = cnt := ⟨_, rfl⟩
  obtain ⟨of, hofe⟩ : ∃ of, noC g = of := ⟨_, rfl⟩
  have hgo : ∀ v, v < g.length → ((noL g).map natD)[v]? = some (natD (of v)) := fun v hv => by rw [← hofe]; exact getno hv
  have hlt : ∀ v, v < g.length → of v < cnt := fun v hv => by rw [← hofe, ← hcnt]; exact hcn.lt v hv
  rw [hcnt] at hcl hlc;refine Zbm Try.func26 rfl rfl Try.ntmps26 rfl rfl rfl fun F hF => (Zag (Zae (goAs rfl rfl (goAs rfl rfl (Zaf (Zag ?_))))));refine Zag (Zae (goMv rfl rfl (Zab.go (Zbw (check_n g hg) rfl rfl) (goAs rfl rfl (Zaf (Zag (Zae (goMv rfl rfl ?_))))))))
  first | refine Zab.go (ZbM rfl rfl rfl) ?_ | refine Zab.go (ZbB rfl rfl rfl) ?_ | refine Zab.go (ZbD rfl rfl rfl) ?_ | refine Zab.go (ZbI Try.underlying26 rfl rfl rfl) ?_ | refine Zab.go (ZbG Try.underlying26 rfl rfl rfl) ?_ | refine Zab.go (st_neqN Try.underlying26 rfl rfl) ?_ | refine Zab.go (ZbH Try.underlying26 rfl rfl rfl) ?_ | refine Zab.go (st_neqFN Try.underlying26 rfl rfl) ?_
  refine Zaf (Zbp rfl (decide_eq_false (by decide)) (Zay (Zag (Zae (goMv rfl rfl (Zab.go (Zbw (condensed_p g hg) rfl rfl) (goMv rfl rfl ?_)))))))
  first | refine Zab.go (ZaO rfl rfl rfl) ?_ | refine Zab.go (ZaR rfl rfl rfl) ?_
  first | refine Zab.go (ZaO rfl rfl rfl) ?_ | refine Zab.go (ZaR rfl rfl rfl) ?_
  refine goAs rfl rfl (goAs rfl rfl (Zaf ?_));refine Zag (Zae (goMv rfl rfl (Zab.go (Zax rfl ((List.length_map ..).trans hlc) Try.underlying22 rfl) (Zap.go (ZbQ 0 sl32 rfl rfl rfl (by omega) zd25 rfl rfl rfl rfl) (goAs rfl rfl (Zaf (Zag (Zag ?_))))))));refine a_weakRow 0 0 (rowH cnt (fun _ => none) (fun _ => [])) rfl (by rw [ZbL, List.length_replicate]) (nil_rowH cnt) ⟨one_nil _, one_rowH _ _ _⟩ rfl (a_multi 40 rfl rfl rfl (Zae (goMv rfl rfl (Zab.go (Zax rfl (List.length_map ..) Try.underlying32 rfl) (goMv rfl rfl (Zaf (Zaq (ZaU (α := Nat × MF × (Nat → Hd)) (fun q => ⟨89, [(0, .d (grD g)), (6, (.d (natsD (noL g)))), (7, (.own 0 0 cnt)), (26, (.d (grD g))), (27, (.d (natD g.length))), (28, (.d (natD q.1)))], [(0, [.rowD 25 1 (rowH cnt q.2.2 (edT g of q.1 0))]), (40, [.multi q.2.1])]⟩) (fun q => q.1 ≤ g.length ∧ GRep q.2.1 cnt q.2.2 (edT g of q.1 0)) (fun q => g.length - q.1) ((0, fun _ => none, fun _ => none)) (⟨Nat.zero_le _, by rw [edT_zero]; exact GRep.zero _⟩) (Zao hF [0, 40] rfl rfl ⟨rfl, rfl, rfl, rfl, rfl, rfl, trivial⟩) ?_))))))));rintro ⟨i, M, hs⟩ ⟨hi, hr⟩;dsimp only at hi hr ⊢;refine Zag (Zae ?_)
  first | refine Zab.go (ZaT rfl rfl rfl) ?_ | refine Zab.go (ZaN rfl rfl rfl) ?_
  refine Zaf (Zag ?_)
  first | refine ZaQ rfl (fun h29 => ?_) (fun h29 => ?_) | refine ZaE rfl (fun h29 => ?_) (fun h29 => ?_)
  · refine Zay (Zag (Zaq (Zag ?_)));have hil : i < g.length := Za4 h29;have hoi := hlt i hil;refine Zae (goMv rfl rfl ?_)
    first | refine Zab.go (Zam (i) rfl rfl (rfl) (getg hil) Try.underlying32 rfl sz25 rfl) ?_ | refine Zab.go (Zal (i) rfl rfl (rfl) (getg hil) rfl Try.underlying32 sz25 rfl) ?_
    first | refine Zab.go (Zai rfl rfl on25 rfl) ?_ | refine Zab.go (Zak rfl rfl rfl on25 rfl) ?_ | refine Zab.go (Zaj rfl rfl (rfl) rfl on25 rfl) ?_
    refine goAs rfl rfl (goAs rfl rfl ?_);refine Zaf (Zag (Zae (goMv rfl rfl (Zab.go (Zax rfl (List.length_map ..) Try.underlying25 rfl) (goMv rfl rfl (Zaf (Zaq (ZaU (α := Nat × MF × (Nat → Hd)) (fun q => ⟨89, [(0, .d (grD g)), (6, (.d (natsD (noL g)))), (7, (.own 0 0 cnt)), (8, (.d (natD i))), (26, (.d (grD g))), (27, (.d (natD g.length))), (28, (.d (natD i))), (33, (.d (natsD (sucs g i)))), (34, (.d (natD (sucs g i).length))), (35, (.d (natD q.1)))], [(0, [.rowD 25 1 (rowH cnt q.2.2 (edT g of i q.1))]), (40, [.multi q.2.1])]⟩) (fun q => q.1 ≤ (sucs g i).length ∧ GRep q.2.1 cnt q.2.2 (edT g of i q.1)) (fun q => (sucs g i).length - q.1) ((0, M, hs)) (⟨Nat.zero_le _, hr⟩) (Zao hF [0, 40] rfl rfl ⟨rfl, rfl, rfl, rfl, rfl, rfl, rfl, rfl, rfl, rfl, trivial⟩) ?_))))))));rintro ⟨k, M, hs⟩ ⟨hk, hr⟩;dsimp only at hk hr ⊢;refine Zag (Zae ?_)
    first | refine Zab.go (ZaT rfl rfl rfl) ?_ | refine Zab.go (ZaN rfl rfl rfl) ?_
    refine Zaf (Zag ?_)
    first | refine ZaQ rfl (fun h36 => ?_) (fun h36 => ?_) | refine ZaE rfl (fun h36 => ?_) (fun h36 => ?_)
    · refine Zay (Zag (Zaq (Zag ?_)));have hkl : k < (sucs g i).length := Za4 h36;have hgn := getn hkl;have hsl := hg.gb.len hil;have hjl : nth (sucs g i) k < g.length := hg.gb.suc hil (Zbk hkl);have hst0 := edT_step (of := of) hkl;have hsk0 := edT_skip (of := of) hkl
      obtain ⟨j, hje⟩ : ∃ j, nth (sucs g i) k = j := ⟨_, rfl⟩
      rw [hje] at hgn hjl hst0 hsk0;have hln := edT_len g of i k (of i);have hlt9 := Nat.le_trans (totG_mono g (Nat.le_of_lt hil)) hg.tot;have hlt2 : ((sucs g i).take k).length ≤ 1048576 := by rw [List.length_take]; omega
      refine Zae ?_
      first | refine Zab.go (Zam (k) rfl rfl (rfl) (hgn) Try.underlying25 rfl sz3 rfl) ?_ | refine Zab.go (Zal (k) rfl rfl (rfl) (hgn) rfl Try.underlying25 sz3 rfl) ?_
      first | refine Zab.go (Zai rfl rfl on3 rfl) ?_ | refine Zab.go (Zak rfl rfl rfl on3 rfl) ?_ | refine Zab.go (Zaj rfl rfl (rfl) rfl on3 rfl) ?_
      refine goAs rfl rfl (Zaf (Zag (Zbc [[], [], [0, 1], [0, 1, 2], [], [], [4, 5], [4, 5, 6], [0, 1, 2, 3, 4, 5, 6, 7]] mixed rfl (dws ?_))))
      first | refine Zad [6] [] rfl rfl (fun _ => Zaa (Zah rfl rfl)) ?_ | refine Zac [6] rfl rfl (fun _ => Zaa (Zah rfl rfl)) ?_
      first | refine Zad [8] [] rfl rfl (fun _ => Zaa (Zah rfl rfl)) ?_ | refine Zac [8] rfl rfl (fun _ => Zaa (Zah rfl rfl)) ?_
      first | refine Zad [39, 40] [] rfl rfl (fun _ => Zaa (Zam (i) rfl rfl (rfl) (hgo i hil) Try.underlying25 rfl sz3 rfl)) ?_ | refine Zac [39, 40] rfl rfl (fun _ => Zaa (Zam (i) rfl rfl (rfl) (hgo i hil) Try.underlying25 rfl sz3 rfl)) ?_ | refine Zad [39, 40] [] rfl rfl (fun _ => Zaa (Zal (i) rfl rfl (rfl) (hgo i hil) rfl Try.underlying25 sz3 rfl)) ?_ | refine Zac [39, 40] rfl rfl (fun _ => Zaa (Zal (i) rfl rfl (rfl) (hgo i hil) rfl Try.underlying25 sz3 rfl)) ?_
      first | refine Zad [41] [] rfl rfl (fun _ => Zaa (Zai rfl rfl on3 rfl)) ?_ | refine Zac [41] rfl rfl (fun _ => Zaa (Zai rfl rfl on3 rfl)) ?_ | refine Zad [41] [] rfl rfl (fun _ => Zaa (Zak rfl rfl rfl on3 rfl)) ?_ | refine Zac [41] rfl rfl (fun _ => Zaa (Zak rfl rfl rfl on3 rfl)) ?_ | refine Zad [41] [] rfl rfl (fun _ => Zaa (Zaj rfl rfl (rfl) rfl on3 rfl)) ?_ | refine Zac [41] rfl rfl (fun _ => Zaa (Zaj rfl rfl (rfl) rfl on3 rfl)) ?_
      first | refine Zad [6] [] rfl rfl (fun _ => Zaa (Zah rfl rfl)) ?_ | refine Zac [6] rfl rfl (fun _ => Zaa (Zah rfl rfl)) ?_
      first | refine Zad [11] [] rfl rfl (fun _ => Zaa (Zah rfl rfl)) ?_ | refine Zac [11] rfl rfl (fun _ => Zaa (Zah rfl rfl)) ?_
      first | refine Zad [43, 44] [] rfl rfl (fun _ => Zaa (Zam (j) rfl rfl (rfl) (hgo j hjl) Try.underlying25 rfl sz3 rfl)) ?_ | refine Zac [43, 44] rfl rfl (fun _ => Zaa (Zam (j) rfl rfl (rfl) (hgo j hjl) Try.underlying25 rfl sz3 rfl)) ?_ | refine Zad [43, 44] [] rfl rfl (fun _ => Zaa (Zal (j) rfl rfl (rfl) (hgo j hjl) rfl Try.underlying25 sz3 rfl)) ?_ | refine Zac [43, 44] rfl rfl (fun _ => Zaa (Zal (j) rfl rfl (rfl) (hgo j hjl) rfl Try.underlying25 sz3 rfl)) ?_
      first | refine Zad [45] [] rfl rfl (fun _ => Zaa (Zai rfl rfl on3 rfl)) ?_ | refine Zac [45] rfl rfl (fun _ => Zaa (Zai rfl rfl on3 rfl)) ?_ | refine Zad [45] [] rfl rfl (fun _ => Zaa (Zak rfl rfl rfl on3 rfl)) ?_ | refine Zac [45] rfl rfl (fun _ => Zaa (Zak rfl rfl rfl on3 rfl)) ?_ | refine Zad [45] [] rfl rfl (fun _ => Zaa (Zaj rfl rfl (rfl) rfl on3 rfl)) ?_ | refine Zac [45] rfl rfl (fun _ => Zaa (Zaj rfl rfl (rfl) rfl on3 rfl)) ?_
      refine dwc 8 rfl rfl rfl (dw1 9 rfl rfl ?_)
      first | refine Zab.go (ZbM rfl rfl rfl) ?_ | refine Zab.go (ZbB rfl rfl rfl) ?_ | refine Zab.go (ZbD rfl rfl rfl) ?_ | refine Zab.go (ZbI Try.underlying3 rfl rfl rfl) ?_ | refine Zab.go (ZbG Try.underlying3 rfl rfl rfl) ?_ | refine Zab.go (st_neqN Try.underlying3 rfl rfl) ?_ | refine Zab.go (ZbH Try.underlying3 rfl rfl rfl) ?_ | refine Zab.go (st_neqFN Try.underlying3 rfl rfl) ?_
      refine Zaf ⟨rfl, ?_⟩;refine dwe ?_
      first | refine ZaQ rfl (fun h47 => ?_) (fun h47 => ?_) | refine ZaE rfl (fun h47 => ?_) (fun h47 => ?_)
      · have hst := hst0 (fun e => h47 (congrArg Int.ofNat e));refine Zbc [[], [], [], [1, 2], [1, 2, 3], [], [], [], [6, 7], [6, 7, 8], [5, 6, 7, 8, 9], [5, 6, 7, 8, 9, 10], [], [], [12, 13], [12, 13, 14], [12, 13, 14, 15], [5, 6, 7, 8, 9, 10, 11, 12, 13, 14, 15, 16], [0, 1, 2, 3, 4, 5, 6, 7, 8, 9, 10, 11, 12, 13, 14, 15, 16, 17], [0, 1, 2, 3, 4, 5, 6, 7, 8, 9, 10, 11, 12, 13, 14, 15, 16, 17, 18]] mixed rfl (dws ?_)
        first | refine Zad [7] [] rfl rfl (fun _ => Zaa (Zah rfl rfl)) ?_ | refine Zac [7] rfl rfl (fun _ => Zaa (Zah rfl rfl)) ?_
        first | refine Zad [6] [] rfl rfl (fun _ => Zaa (Zah rfl rfl)) ?_ | refine Zac [6] rfl rfl (fun _ => Zaa (Zah rfl rfl)) ?_
        first | refine Zad [8] [] rfl rfl (fun _ => Zaa (Zah rfl rfl)) ?_ | refine Zac [8] rfl rfl (fun _ => Zaa (Zah rfl rfl)) ?_
        first | refine Zad [49, 50] [] rfl rfl (fun _ => Zaa (Zam (i) rfl rfl (rfl) (hgo i hil) Try.underlying25 rfl sz3 rfl)) ?_ | refine Zac [49, 50] rfl rfl (fun _ => Zaa (Zam (i) rfl rfl (rfl) (hgo i hil) Try.underlying25 rfl sz3 rfl)) ?_ | refine Zad [49, 50] [] rfl rfl (fun _ => Zaa (Zal (i) rfl rfl (rfl) (hgo i hil) rfl Try.underlying25 sz3 rfl)) ?_ | refine Zac [49, 50] rfl rfl (fun _ => Zaa (Zal (i) rfl rfl (rfl) (hgo i hil) rfl Try.underlying25 sz3 rfl)) ?_
        first | refine Zad [51] [] rfl rfl (fun _ => Zaa (Zai rfl rfl on3 rfl)) ?_ | refine Zac [51] rfl rfl (fun _ => Zaa (Zai rfl rfl on3 rfl)) ?_ | refine Zad [51] [] rfl rfl (fun _ => Zaa (Zak rfl rfl rfl on3 rfl)) ?_ | refine Zac [51] rfl rfl (fun _ => Zaa (Zak rfl rfl rfl on3 rfl)) ?_ | refine Zad [51] [] rfl rfl (fun _ => Zaa (Zaj rfl rfl (rfl) rfl on3 rfl)) ?_ | refine Zac [51] rfl rfl (fun _ => Zaa (Zaj rfl rfl (rfl) rfl on3 rfl)) ?_
        first | refine Zad [7] [] rfl rfl (fun _ => Zaa (Zah rfl rfl)) ?_ | refine Zac [7] rfl rfl (fun _ => Zaa (Zah rfl rfl)) ?_
        first | refine Zad [6] [] rfl rfl (fun _ => Zaa (Zah rfl rfl)) ?_ | refine Zac [6] rfl rfl (fun _ => Zaa (Zah rfl rfl)) ?_
        first | refine Zad [8] [] rfl rfl (fun _ => Zaa (Zah rfl rfl)) ?_ | refine Zac [8] rfl rfl (fun _ => Zaa (Zah rfl rfl)) ?_
        first | refine Zad [54, 55] [] rfl rfl (fun _ => Zaa (Zam (i) rfl rfl (rfl) (hgo i hil) Try.underlying25 rfl sz3 rfl)) ?_ | refine Zac [54, 55] rfl rfl (fun _ => Zaa (Zam (i) rfl rfl (rfl) (hgo i hil) Try.underlying25 rfl sz3 rfl)) ?_ | refine Zad [54, 55] [] rfl rfl (fun _ => Zaa (Zal (i) rfl rfl (rfl) (hgo i hil) rfl Try.underlying25 sz3 rfl)) ?_ | refine Zac [54, 55] rfl rfl (fun _ => Zaa (Zal (i) rfl rfl (rfl) (hgo i hil) rfl Try.underlying25 sz3 rfl)) ?_
        first | refine Zad [56] [] rfl rfl (fun _ => Zaa (Zai rfl rfl on3 rfl)) ?_ | refine Zac [56] rfl rfl (fun _ => Zaa (Zai rfl rfl on3 rfl)) ?_ | refine Zad [56] [] rfl rfl (fun _ => Zaa (Zak rfl rfl rfl on3 rfl)) ?_ | refine Zac [56] rfl rfl (fun _ => Zaa (Zak rfl rfl rfl on3 rfl)) ?_ | refine Zad [56] [] rfl rfl (fun _ => Zaa (Zaj rfl rfl (rfl) rfl on3 rfl)) ?_ | refine Zac [56] rfl rfl (fun _ => Zaa (Zaj rfl rfl (rfl) rfl on3 rfl)) ?_
        first | refine Zad [53, 57] [0] rfl rfl (fun _ => Zaa (Zam (of i) rfl rfl (rfl) (hoi) Try.underlying32 rfl sz25 rfl)) ?_ | refine Zad [53, 57] [0] rfl rfl (fun _ => Zaa (Zal (of i) rfl rfl (rfl) (hoi) rfl Try.underlying32 sz25 rfl)) ?_
        first | refine Zad [58] [0] rfl rfl (fun _ => Zaa (Zai rfl rfl on25 rfl)) ?_ | refine Zad [58] [0] rfl rfl (fun _ => Zaa (Zak rfl rfl rfl on25 rfl)) ?_ | refine Zad [58] [0] rfl rfl (fun _ => Zaa (Zaj rfl rfl (rowH_get hoi) rfl on25 rfl)) ?_
        first | refine Zad [6] [] rfl rfl (fun _ => Zaa (Zah rfl rfl)) ?_ | refine Zac [6] rfl rfl (fun _ => Zaa (Zah rfl rfl)) ?_
        first | refine Zad [11] [] rfl rfl (fun _ => Zaa (Zah rfl rfl)) ?_ | refine Zac [11] rfl rfl (fun _ => Zaa (Zah rfl rfl)) ?_
        first | refine Zad [60, 61] [] rfl rfl (fun _ => Zaa (Zam (j) rfl rfl (rfl) (hgo j hjl) Try.underlying25 rfl sz3 rfl)) ?_ | refine Zac [60, 61] rfl rfl (fun _ => Zaa (Zam (j) rfl rfl (rfl) (hgo j hjl) Try.underlying25 rfl sz3 rfl)) ?_ | refine Zad [60, 61] [] rfl rfl (fun _ => Zaa (Zal (j) rfl rfl (rfl) (hgo j hjl) rfl Try.underlying25 sz3 rfl)) ?_ | refine Zac [60, 61] rfl rfl (fun _ => Zaa (Zal (j) rfl rfl (rfl) (hgo j hjl) rfl Try.underlying25 sz3 rfl)) ?_
        first | refine Zad [62] [] rfl rfl (fun _ => Zaa (Zai rfl rfl on3 rfl)) ?_ | refine Zac [62] rfl rfl (fun _ => Zaa (Zai rfl rfl on3 rfl)) ?_ | refine Zad [62] [] rfl rfl (fun _ => Zaa (Zak rfl rfl rfl on3 rfl)) ?_ | refine Zac [62] rfl rfl (fun _ => Zaa (Zak rfl rfl rfl on3 rfl)) ?_ | refine Zad [62] [] rfl rfl (fun _ => Zaa (Zaj rfl rfl (rfl) rfl on3 rfl)) ?_ | refine Zac [62] rfl rfl (fun _ => Zaa (Zaj rfl rfl (rfl) rfl on3 rfl)) ?_
        refine d_eff [63] [21] [(64, _)] rfl rfl (fun _ => ge_none (ZaL 21 sl25 rfl rfl rfl rfl rfl rfl rfl rfl)) (.inr ⟨64, _, rfl, rfl, rfl, rfl, rfl⟩) rfl rfl rfl rfl rfl (d_eff [59, 64] [60, 40, 21] [(65, _)] rfl rfl (fun _ => ge_none (st_appH 59 60 40 (hr.at_ (of i) hoi) rfl rfl (by rw [List.length_map]) rfl rfl rfl rfl rfl (st_appM (emb := natD) (edT g of i k (of i)) [of j] rfl rfl rfl rfl rfl rfl rfl rfl sl25 (by show ((edT g of i k (of i)).length + 1) * 8 ≤ _; omega) rfl rfl rfl rfl))) (.inr ⟨65, _, rfl, rfl, rfl, rfl, rfl⟩) rfl rfl rfl rfl rfl (dwc 18 rfl rfl rfl (dw1 19 rfl rfl (o_absorbR 65 60 40 hF rfl rfl rfl (by rw [List.length_map]) (by simp) rfl rfl rfl rfl rfl rfl rfl (fun _ _ => rfl) fun b c hb hc => ?_))))
        first | refine Zab.go (Zam (of i) rfl rfl (rfl) (hoi) Try.underlying32 rfl sz25 rfl) ?_ | refine Zab.go (Zal (of i) rfl rfl (rfl) (hoi) rfl Try.underlying32 sz25 rfl) ?_
        refine Zaf ⟨rfl, ?_⟩;refine dw1 20 rfl rfl (Zap.go (Za1 rfl rfl rfl rfl rfl (by rw [ZbL]; exact hoi) (rowH_set (h := some (b, c))) rfl sz25) (Zaf ⟨rfl, ?_⟩));refine dwe (Zae (Zab.go (ZaI rfl rfl (IntWalk.i64_in _ (by omega)) rfl) (goMv rfl rfl (Zaf ?_))));exact ⟨(k + 1, Zbv (mdelH M (hs (of i))) b (.row 3 1 c ((edT g of i k (of i) ++ [of j]).map natD)), updF hs (of i) (some (b, c))), ⟨hkl, by have := hr.app hoi hb hc; rw [hst] at this; exact this⟩, by show (sucs g i).length - (k + 1) < (sucs g i).length - k; omega, Zao hF [0, 40] rfl (by rw [hst]; rfl) ⟨rfl, rfl, rfl, rfl, rfl, rfl, rfl, rfl, rfl, rfl, trivial⟩⟩
      · have hsk := hsk0 (fun h => h47 (fun e => h (Int.ofNat.inj e)));refine Zay (Zae (Zab.go (ZaI rfl rfl (IntWalk.i64_in _ (by omega)) rfl) (goMv rfl rfl (Zaf ?_))));exact ⟨(k + 1, M, hs), ⟨hkl, by rw [← hsk]; exact hr⟩, by show (sucs g i).length - (k + 1) < (sucs g i).length - k; omega, Zao hF [0, 40] rfl (by rw [← hsk]; rfl) ⟨rfl, rfl, rfl, rfl, rfl, rfl, rfl, rfl, rfl, rfl, trivial⟩⟩
    · refine ZaK ?_;have hke : k = (sucs g i).length := by have := h36; omega
      subst hke;refine Zae (Zab.go (ZaI rfl rfl (IntWalk.i64_in _ (by omega)) rfl) (goMv rfl rfl (Zaf ?_)));exact ⟨(i + 1, M, hs), ⟨hil, by rw [← edT_row]; exact hr⟩, by show g.length - (i + 1) < g.length - i; omega, Zao hF [0, 40] rfl (by rw [edT_row]; rfl) ⟨rfl, rfl, rfl, rfl, rfl, rfl, trivial⟩⟩
  · refine ZaK (Zag (Zag ?_));have hin : i = g.length := by have := h29; omega
    subst hin;rw [← hofe, ← cdC_zero] at hr ⊢;refine Zae (goMv rfl rfl ?_)
    first | refine Zab.go (ZaX rfl Try.underlying32 rfl) ?_ | refine Zab.go (Zax rfl rfl Try.underlying32 rfl) ?_ | refine Zab.go (Zba rfl Try.underlying32 rfl) ?_ | refine Zab.go (Za0 rfl Try.underlying32 rfl) ?_ | refine Zab.go (Zbd rfl Try.underlying32 rfl) ?_ | refine Zab.go (Za9 rfl Try.underlying32 rfl) ?_
    refine goMv rfl rfl (Zaf (Zaq (ZaU (α := Nat × MF × (Nat → Hd)) (fun q => ⟨89, [(7, (.own 0 0 cnt)), (69, (.own 0 0 cnt)), (70, (.d (natD cnt))), (71, (.d (natD q.1)))], [(0, [.rowD 25 1 (rowH cnt q.2.2 (cdC g q.1))]), (40, [.multi q.2.1])]⟩) (fun q => q.1 ≤ cnt ∧ GRep q.2.1 cnt q.2.2 (cdC g q.1)) (fun q => cnt - q.1) ((0, M, hs)) (⟨Nat.zero_le _, hr⟩) (Zao hF [0, 40] rfl rfl ⟨rfl, rfl, rfl, rfl, trivial⟩) ?_)));rintro ⟨i, M, hs⟩ ⟨hi, hr⟩;dsimp only at hi hr ⊢;refine Zag (Zae ?_)
    first | refine Zab.go (ZaT rfl rfl rfl) ?_ | refine Zab.go (ZaN rfl rfl rfl) ?_
    refine Zaf (Zag ?_)
    first | refine ZaQ rfl (fun h72 => ?_) (fun h72 => ?_) | refine ZaE rfl (fun h72 => ?_) (fun h72 => ?_)
    · refine Zay (Zag (Zaq (Zag ?_)));have hic : i < cnt := Za4 h72;have hat := hr.at_ i hic;have hcl2 := cdE_len hg i;rw [cdC_at] at hat;have hget := rowH_get (hs := hs) (ls := cdC g i) hic;rw [cdC_at] at hget;refine Zae (goMv rfl rfl (goAs rfl rfl (Zaf (Zag (Zae (goMv rfl rfl (goMv rfl rfl ?_)))))))
      first | refine Zab.go (Zam (i) rfl rfl (rfl) (hic) Try.underlying32 rfl sz25 rfl) ?_ | refine Zab.go (Zal (i) rfl rfl (rfl) (hic) rfl Try.underlying32 sz25 rfl) ?_
      first | refine Zab.go (Zai rfl rfl on25 rfl) ?_ | refine Zab.go (Zak rfl rfl rfl on25 rfl) ?_ | refine Zab.go (Zaj rfl rfl (hget) rfl on25 rfl) ?_
      rcases hd_two (hs i) with hh | ⟨b, c, hh⟩ <;> rw [hh] at hat hget ⊢
      · refine Zap.go (st_sortI0 laysS rfl rfl rfl) (Zaf (Zae ?_));have h0 : cdE g i = [] := List.map_eq_nil_iff.1 hat;have hcst : cdC g i = cdC g (i + 1) := by rw [← cdC_step, h0, cptS_nil]; exact (updF_id (by rw [cdC_at, h0])).symm
        refine goMv rfl rfl (goMv rfl rfl (goMv rfl rfl (goMv rfl rfl ?_)))
        first | refine Zab.go (Zam (i) rfl rfl (rfl) (hic) Try.underlying32 rfl sz25 rfl) ?_ | refine Zab.go (Zal (i) rfl rfl (rfl) (hic) rfl Try.underlying32 sz25 rfl) ?_
        first | refine Zab.go (Zai rfl rfl on25 rfl) ?_ | refine Zab.go (Zak rfl rfl rfl on25 rfl) ?_ | refine Zab.go (Zaj rfl rfl (hget) rfl on25 rfl) ?_
        refine Zap.go (st_callD compact_0 rfl [] trivial rfl rfl rfl rfl rfl rfl rfl rfl rfl) ?_
        first | refine Zab.go (Zam (i) rfl rfl (rfl) (hic) Try.underlying32 rfl sz25 rfl) ?_ | refine Zab.go (Zal (i) rfl rfl (rfl) (hic) rfl Try.underlying32 sz25 rfl) ?_
        refine Zap.go (Za1 rfl rfl rfl rfl rfl (by rw [ZbL]; exact hic) (rowH_set (h := none) (l := [])) rfl sz25) (Zaf (Zae (Zab.go (ZaI rfl rfl (IntWalk.i64_in _ (by omega)) rfl) (goMv rfl rfl (Zaf ?_)))));exact ⟨(i + 1, M, hs), ⟨hic, by rw [← hcst]; exact hr⟩, by show cnt - (i + 1) < cnt - i; omega, Zao hF [0, 40] rfl (by rw [updF_id hh, updF_id (show cdC g i i = [] by rw [cdC_at, h0]), hcst]; rfl) ⟨rfl, rfl, rfl, rfl, trivial⟩⟩
      · refine Zap.go (st_sortIN (f := 40) laysS ((cdE g i).map Int.ofNat) (by rw [List.length_map]; omega) rfl rfl rfl hat.2 (ofN_map _) (by rw [List.length_map]) rfl rfl) (Zaf (Zae ?_));have hrc : (cdE g i).length ≤ c := by have := hat.1; rwa [List.length_map] at this
        have hcp := compact2_c hrc hcl2 M b;rw [sortN_map];refine goMv rfl rfl (goMv rfl rfl (goMv rfl rfl (goMv rfl rfl ?_)))
        first | refine Zab.go (Zam (i) rfl rfl (rfl) (hic) Try.underlying32 rfl sz25 rfl) ?_ | refine Zab.go (Zal (i) rfl rfl (rfl) (hic) rfl Try.underlying32 sz25 rfl) ?_
        first | refine Zab.go (Zai rfl rfl on25 rfl) ?_ | refine Zab.go (Zak rfl rfl rfl on25 rfl) ?_ | refine Zab.go (Zaj rfl rfl (hget) rfl on25 rfl) ?_
        refine Zap.go (st_callD hcp rfl [40] ⟨rfl, trivial⟩ rfl rfl rfl rfl rfl rfl rfl rfl rfl) ?_
        first | refine Zab.go (Zam (i) rfl rfl (rfl) (hic) Try.underlying32 rfl sz25 rfl) ?_ | refine Zab.go (Zal (i) rfl rfl (rfl) (hic) rfl Try.underlying32 sz25 rfl) ?_
        refine Zap.go (Za1 rfl rfl rfl rfl rfl (by rw [ZbL]; exact hic) (rowH_set (h := some (b, c))) rfl sz25) (Zaf (Zae (Zab.go (ZaI rfl rfl (IntWalk.i64_in _ (by omega)) rfl) (goMv rfl rfl (Zaf ?_)))));exact ⟨(i + 1, Zbv M b (.row 3 1 c ((cptS (cdE g i)).map natD)), hs), ⟨hic, by have := hr.put hic hh (Nat.le_trans (cptS_le _) hrc); rw [cdC_step] at this; exact this⟩, by show cnt - (i + 1) < cnt - i; omega, Zao hF [0, 40] rfl (by rw [updF_id hh, cdC_step, mput2]; rfl) ⟨rfl, rfl, rfl, rfl, trivial⟩⟩
    · refine ZaK (Zag ?_);have hin : i = cnt := by have := h72; omega
      subst hin;have hce : grF i (cdC g i) = cdG g := by rw [← hcnt]; exact cdC_end g
      refine a_melt 0 0 40 ((cdG g).map natsD) rfl rfl rfl rfl rfl (by rw [List.length_map, ← hce, Zbs, ZbL]) (hce ▸ hr.melt) ⟨one_rowH _ _ _, one_gr _⟩ rfl (Zbt (emb := natsD) 7 0 (cdG g) rfl rfl rfl (by rw [← hce, Zbs]) rfl rfl rfl (Zae (goMv rfl rfl (goAs rfl rfl (goAs rfl rfl (Zaf (Zbn ?_)))))));exact ⟨_, [], [], ZaZ rfl, rfl, rfl, rfl, rfl⟩
end Go.Proofs.Ytgdppeobgefogaa
/- Layer 31: the reference's Reach. -/
namespace Go.Proofs.Ytgdppeobgefogaa
open Go.RowKit
def RchS (g : List (List Nat)) (fr : List Nat) (v : Nat) : Prop := ∃ f ∈ fr, Rh (sucs g) f v
noncomputable instance (g : List (List Nat)) (fr : List Nat) (v : Nat) : Decidable (RchS g fr v) := Classical.propDecidable _
def cntB (n : Nat) (o : List Nat) : Nat := ((List.range n).filter fun v => decide (v ∉ o)).length
theorem cntB_lt {n x : Nat} {o : List Nat} (hx : x < n) (hn : x ∉ o) : cntB n (o ++ [x]) < cntB n o := by
  have h := ZbC (l := x :: (List.range n).filter fun v => decide (v ∉ o ++ [x])) (m := (List.range n).filter fun v => decide (v ∉ o)) (List.nodup_cons.2 ⟨fun hm => by
    have := of_decide_eq_true (List.mem_filter.1 hm).2
    exact this (List.mem_append_right _ (List.mem_singleton.2 rfl)), List.nodup_range.filter _⟩) fun y hy => by
    rcases List.mem_cons.1 hy with rfl | hy
    · exact List.mem_filter.2 ⟨List.mem_range.2 hx, decide_eq_true hn⟩
    · obtain ⟨h1, h2⟩ := List.mem_filter.1 hy;exact List.mem_filter.2 ⟨h1, decide_eq_true fun h3 => of_decide_eq_true h2 (List.mem_append_left _ h3)⟩
  rw [List.length_cons] at h;exact h
structure RchV (g : List (List Nat)) (fr o : List Nat) : Prop where
  a : ∀ v ∈ o, v < g.length ∧ RchS g fr v
  b : ∀ f ∈ fr, f ∈ o
structure RchW (g : List (List Nat)) (fr o0 : List Nat) (i k : Nat) (m : Bool) (o : List Nat) : Prop where
  rv : RchV g fr o
  t : m = true → cntB g.length o < cntB g.length o0
  f : m = false → o = o0 ∧ (∀ u, u < i → u ∈ o → ∀ y ∈ sucs g u, y ∈ o) ∧ (i ∈ o → ∀ y ∈ (sucs g i).take k, y ∈ o)
  le : cntB g.length o ≤ cntB g.length o0
end Go.Proofs.Ytgdppeobgefogaa
/- Layer 31: the reference's table and Components. -/
namespace Go.Proofs.Ytgdppeobgefogaa
open Go.RowKit
theorem rch_one {g : List (List Nat)} {i v : Nat} : RchS g [i] v ↔ Rh (sucs g) i v := ⟨fun ⟨f, hf, h⟩ => by rw [List.mem_singleton.1 hf] at h; exact h, fun h => ⟨i, List.mem_singleton.2 rfl, h⟩⟩
def FC (g : List (List Nat)) (dn : List Nat) (i k : Nat) : Prop := i ∉ dn ∧ ∀ a, a < k → a ∈ dn ∨ ¬ RchS g [a] i ∨ RchS g [i] a
noncomputable instance (g : List (List Nat)) (dn : List Nat) (i k : Nat) : Decidable (FC g dn i k) := Classical.propDecidable _
structure DN (g : List (List Nat)) (c : Nat) (dn : List Nat) : Prop where
  cl : c ≤ cntC g
  nd : dn.Nodup
  mem : ∀ v, v ∈ dn ↔ v < g.length ∧ noC g v < c
theorem DN.lt {g : List (List Nat)} (hg : GT g) {c : Nat} {dn : List Nat} (h : DN g c dn) (hl : dn.length < g.length) : c < cntC g := by
  rcases Nat.lt_or_ge c (cntC g) with hc | hc
  · exact hc
  · have := ZbC (List.nodup_range (n := g.length)) (m := dn) fun x hx => (h.mem x).2 ⟨List.mem_range.1 hx, Nat.lt_of_lt_of_le ((cn_ex g hg).lt x (List.mem_range.1 hx)) hc⟩;rw [List.length_range] at this; omega
theorem DN.all {g : List (List Nat)} (hg : GT g) {c : Nat} {dn : List Nat} (h : DN g c dn) (hl : ¬ dn.length < g.length) : c = cntC g := by
  rcases Nat.lt_or_ge c (cntC g) with hc | hc
  · obtain ⟨v, hv, hvc⟩ := (cn_ex g hg).use c hc;have hn : v ∉ dn := fun hm => by have := ((h.mem v).1 hm).2; omega
    have := ZbC (List.nodup_cons.2 ⟨hn, h.nd⟩) (m := List.range g.length) fun x hx => List.mem_range.2 ((List.mem_cons.1 hx).elim (fun e => e ▸ hv) fun hx => ((h.mem x).1 hx).1);rw [List.length_cons, List.length_range] at this;omega
  · exact Nat.le_antisymm h.cl hc
theorem outT_mem {no : Nat → Nat} {n c v : Nat} : v ∈ outT no n c ↔ v < n ∧ no v = c := by unfold outT; rw [List.mem_filter, List.mem_range, decide_eq_true_iff]
theorem DN.next {g : List (List Nat)} {c : Nat} {dn : List Nat} (h : DN g c dn) (hc : c < cntC g) : DN g (c + 1) (dn ++ outT (noC g) g.length c) := by
  refine ⟨hc, List.nodup_append.2 ⟨h.nd, List.nodup_range.filter _, fun a ha b hb e => ?_⟩, fun v => ?_⟩
  · subst e;have h1 := ((h.mem a).1 ha).2;have h2 := (outT_mem.1 hb).2;omega
  · rw [List.mem_append, h.mem, outT_mem]
    constructor
    · rintro (⟨h1, h2⟩ | ⟨h1, h2⟩)
      · exact ⟨h1, by omega⟩
      · exact ⟨h1, by omega⟩
    · rintro ⟨h1, h2⟩
      by_cases e : noC g v = c
      · exact .inr ⟨h1, e⟩
      · exact .inl ⟨h1, by omega⟩
end Go.Proofs.Ytgdppeobgefogaa
/- Layer 31: the reference's Condense. -/
namespace Go.Proofs.Ytgdppeobgefogaa
open Go.RowKit
theorem cptK_mem {l : List Nat} {x : Nat} : x ∈ cptK l l.length ↔ x ∈ l := by
  unfold cptK;rw [List.mem_map]
  constructor
  · rintro ⟨i, hi, rfl⟩;exact Zbk (List.mem_range.1 (List.mem_filter.1 hi).1)
  · intro hx;obtain ⟨i, hi, e⟩ := List.mem_iff_getElem.1 hx;obtain ⟨j, ⟨hj, hjx⟩, hm⟩ := exmin (fun j => j < l.length ∧ nth l j = x) i i ⟨hi, by rw [Zbb hi]; exact e⟩ (Nat.le_refl _);refine ⟨j, List.mem_filter.2 ⟨List.mem_range.2 hj, decide_eq_true ?_⟩, hjx⟩
    by_cases h0 : j = 0
    · exact .inl h0
    · refine .inr fun e2 => ?_;have := hm (j - 1) ⟨by omega, by rw [← e2, hjx]⟩;omega
theorem cptS_mem {l : List Nat} {x : Nat} : x ∈ cptS l ↔ x ∈ l := by unfold cptS; rw [cptK_mem, (sortN_perm l).mem_iff]
def rcP (g : List (List Nat)) (c k : Nat) : Prop := (∃ x ∈ outT (noC g) g.length c, ∃ y ∈ outT (noC g) g.length k, y ∈ sucs g x) ∧ c ≠ k
noncomputable instance (g : List (List Nat)) (c k : Nat) : Decidable (rcP g c k) := Classical.propDecidable _
def EA (g : List (List Nat)) (l m : List Nat) (a b : Nat) : Prop := (∃ x ∈ l.take a, ∃ y ∈ m, y ∈ sucs g x) ∨ ∃ y ∈ m.take b, y ∈ sucs g (nth l a)
noncomputable instance (g : List (List Nat)) (l m : List Nat) (a b : Nat) : Decidable (EA g l m a b) := Classical.propDecidable _
end Go.Proofs.Ytgdppeobgefogaa
/- SccComponents: the law's walk. -/
namespace Go.Proofs.Ytgdppeobgefogaa
open Go.RowKit
end Go.Proofs.Ytgdppeobgefogaa
/- Layer 31: the reference's List. -/
namespace Go.Proofs.Ytgdppeobgefogaa
open Go.RowKit
def trueS (p : Nat → Bool) (k : Nat) : List Nat := (List.range k).filter p
theorem trueS_succ (p : Nat → Bool) (k : Nat) : trueS p (k + 1) = trueS p k ++ if p k = true then [k] else [] := by
  unfold trueS;rw [List.range_succ, List.filter_append]
  congr 1
  by_cases h : p k = true
  · rw [if_pos h, List.filter_cons_of_pos h]; rfl
  · rw [if_neg h, List.filter_cons_of_neg h]; rfl
theorem trueS_len (p : Nat → Bool) (k : Nat) : (trueS p k).length ≤ k := by unfold trueS; exact Nat.le_trans (List.length_filter_le _ _) (by simp)
end Go.Proofs.Ytgdppeobgefogaa
/- Layer 31: Reachable's visit. -/
namespace Go.Proofs.Ytgdppeobgefogaa
open Go.RowKit
abbrev HV (n : Nat) (o st j : List Nat) : Hp := [(1, [.blk 48 [.own 2 0 n]]), (2, [.rowD 4 1 (rowB n o)]), (3, [.blk 25 [.own 4 0 st.length]]), (4, [.rowD 3 1 ((st ++ j).map natD)])]
def visO (o : List Nat) (i : Nat) : List Nat := if i ∈ o then o else o ++ [i]
def visS (o st : List Nat) (i : Nat) : List Nat := if i ∈ o then st else st ++ [i]
def visJ (o j : List Nat) (i : Nat) : List Nat := if i ∈ o then j else []
set_option maxRecDepth 100000 in
theorem visit_c (n : Nat) (o st j : List Nat) (i : Nat) (hi : i < n) (hst : st.length ≤ 1000000) : ACalls Try.prog 40 [.d (natD i), .ptr 1 0 0, .ptr 3 0 0] (HV n o st j) fun r H' => r = .tup [] ∧ H' = HV n (visO o i) (visS o st i) (visJ o j i) := by
  refine Zbm Try.func40 rfl rfl Try.ntmps40 rfl rfl rfl fun F hF => (Zag (Zae ?_))
  first | refine Zab.go (Zai rfl rfl on48 rfl) ?_ | refine Zab.go (Zak rfl rfl rfl on48 rfl) ?_ | refine Zab.go (Zaj rfl rfl (rfl) rfl on48 rfl) ?_
  refine goMv rfl rfl ?_
  first | refine Zab.go (Zam (i) rfl rfl (rfl) (hi) Try.underlying48 rfl sz4 rfl) ?_ | refine Zab.go (Zal (i) rfl rfl (rfl) (hi) rfl Try.underlying48 sz4 rfl) ?_
  first | refine Zab.go (Zai rfl rfl on4 rfl) ?_ | refine Zab.go (Zak rfl rfl rfl on4 rfl) ?_ | refine Zab.go (Zaj rfl rfl (rowB_get hi) rfl on4 rfl) ?_
  first | refine Zab.go (st_notP rfl rfl) ?_ | refine Zab.go (st_not rfl rfl) ?_
  refine Zaf ?_
  first | refine ZaQ rfl (fun h8 => ?_) (fun h8 => ?_) | refine ZaE rfl (fun h8 => ?_) (fun h8 => ?_)
  · refine Zag (Zae ?_)
    first | refine Zab.go (Zai rfl rfl on48 rfl) ?_ | refine Zab.go (Zak rfl rfl rfl on48 rfl) ?_ | refine Zab.go (Zaj rfl rfl (rfl) rfl on48 rfl) ?_
    refine goMv rfl rfl ?_
    first | refine Zab.go (Zam (i) rfl rfl (rfl) (hi) Try.underlying48 rfl sz4 rfl) ?_ | refine Zab.go (Zal (i) rfl rfl (rfl) (hi) rfl Try.underlying48 sz4 rfl) ?_
    refine Zap.go (Za1 rfl rfl rfl rfl rfl (by rw [rowB_len]; exact hi) rowB_set rfl sz4) (Zaf (Zae ?_))
    first | refine Zab.go (Zai rfl rfl on25 rfl) ?_ | refine Zab.go (Zak rfl rfl rfl on25 rfl) ?_ | refine Zab.go (Zaj rfl rfl (rfl) rfl on25 rfl) ?_
    refine goMv rfl rfl (Zap.go (ZaL 20 sl25 rfl rfl rfl rfl rfl rfl rfl rfl) (Zap.go (st_appendO rfl rfl rfl (by simp) rfl rfl (by simp) sl25 (by omega) rfl rfl (takeJ st j) rfl rfl) (Zap.go (st_storeP rfl rfl rfl rfl rfl rfl rfl sz25) (Zaf ?_))));exact ⟨_, [1, 2, 3, 4], _, ZaZ rfl, rfl, rfl, rfl, by rw [visO, visS, visJ, if_neg h8, if_neg h8, if_neg h8]; simp⟩
  · refine Zay ?_;exact ⟨_, [1, 2, 3, 4], _, ZaZ rfl, rfl, rfl, rfl, by rw [visO, visS, visJ, if_pos (Classical.not_not.1 h8), if_pos (Classical.not_not.1 h8), if_pos (Classical.not_not.1 h8)]⟩
end Go.Proofs.Ytgdppeobgefogaa
/- Layer 31: Reachable at valid nodes. -/
namespace Go.Proofs.Ytgdppeobgefogaa
open Go.RowKit
structure DF (g : List (List Nat)) (fr fr0 o st : List Nat) (x : Option (Nat × Nat)) : Prop where
  a : ∀ v ∈ o, v < g.length ∧ RchS g fr v
  b : ∀ f ∈ fr0, f ∈ o
  s : ∀ v ∈ st, v ∈ o
  c : ∀ u ∈ o, u ∈ st ∨ (∃ k, x = some (u, k) ∧ ∀ y ∈ (sucs g u).take k, y ∈ o) ∨ ∀ y ∈ sucs g u, y ∈ o
def muD (n : Nat) (o st : List Nat) : Nat := 2 * cntB n o + st.length
theorem vis_mem {o : List Nat} {i v : Nat} : v ∈ visO o i ↔ v ∈ o ∨ v = i := by
  unfold visO
  split
  · rename_i h; exact ⟨.inl, fun h2 => h2.elim id fun e => e ▸ h⟩
  · rw [List.mem_append, List.mem_singleton]
theorem vis_mu {n : Nat} {o st : List Nat} {i : Nat} (hi : i < n) : muD n (visO o i) (visS o st i) ≤ muD n o st := by
  unfold muD visO visS
  split
  · exact Nat.le_refl _
  · rename_i h; have := cntB_lt hi h; rw [List.length_append, List.length_singleton]; omega
theorem df_vis {g : List (List Nat)} {fr fr0 o st : List Nat} {x : Option (Nat × Nat)} {i : Nat} (h : DF g fr fr0 o st x) (hi : i < g.length) (hr : RchS g fr i) : DF g fr fr0 (visO o i) (visS o st i) x := by
  refine ⟨fun v hv => (vis_mem.1 hv).elim (h.a v) fun e => e ▸ ⟨hi, hr⟩, fun f hf => vis_mem.2 (.inl (h.b f hf)), fun v hv => ?_, fun u hu => ?_⟩
  · unfold visS at hv
    split at hv
    · exact vis_mem.2 (.inl (h.s v hv))
    · rcases List.mem_append.1 hv with hv | hv
      · exact vis_mem.2 (.inl (h.s v hv))
      · exact vis_mem.2 (.inr (List.mem_singleton.1 hv))
  · by_cases hio : i ∈ o
    · have e1 : visO o i = o := if_pos hio;have e2 : visS o st i = st := if_pos hio;rw [e1] at hu ⊢; rw [e2]; exact h.c u hu
    · have e2 : visS o st i = st ++ [i] := if_neg hio;rw [e2];rcases vis_mem.1 hu with hu | hu
      · rcases h.c u hu with h1 | ⟨k, e, h1⟩ | h1
        · exact .inl (List.mem_append_left _ h1)
        · exact .inr (.inl ⟨k, e, fun y hy => vis_mem.2 (.inl (h1 y hy))⟩)
        · exact .inr (.inr fun y hy => vis_mem.2 (.inl (h1 y hy)))
      · exact .inl (List.mem_append_right _ (List.mem_singleton.2 hu))
theorem df_pop {g : List (List Nat)} {fr fr0 o st : List Nat} {x : Nat} (h : DF g fr fr0 o (st ++ [x]) none) : DF g fr fr0 o st (some (x, 0)) := by
  refine ⟨h.a, h.b, fun v hv => h.s v (List.mem_append_left _ hv), fun u hu => ?_⟩;rcases h.c u hu with h1 | ⟨k, e, _⟩ | h1
  · rcases List.mem_append.1 h1 with h1 | h1
    · exact .inl h1
    · exact .inr (.inl ⟨0, by rw [List.mem_singleton.1 h1], fun y hy => by simp at hy⟩)
  · cases e
  · exact .inr (.inr h1)
theorem df_step {g : List (List Nat)} (hg : GB g) {fr fr0 o st : List Nat} {x k : Nat} (h : DF g fr fr0 o st (some (x, k))) (hx : x ∈ o) (hk : k < (sucs g x).length) : DF g fr fr0 (visO o (nth (sucs g x) k)) (visS o st (nth (sucs g x) k)) (some (x, k + 1)) := by
  obtain ⟨hxl, f, hf, hr⟩ := h.a x hx;have h2 := df_vis h (hg.suc hxl (Zbk hk)) ⟨f, hf, hr.step (Zbk hk)⟩;refine ⟨h2.a, h2.b, h2.s, fun u hu => ?_⟩;rcases h2.c u hu with h1 | ⟨k', e, h1⟩ | h1
  · exact .inl h1
  · injection e with e; injection e with e1 e2
    subst e1 e2;refine .inr (.inl ⟨k + 1, rfl, fun y hy => ?_⟩);rw [List.take_succ_eq_append_getElem hk] at hy;rcases List.mem_append.1 hy with hy | hy
    · exact h1 y hy
    · rw [List.mem_singleton.1 hy, ← Zbb hk]; exact vis_mem.2 (.inr rfl)
  · exact .inr (.inr h1)
theorem df_done {g : List (List Nat)} {fr fr0 o st : List Nat} {x k : Nat} (h : DF g fr fr0 o st (some (x, k))) (hk : k = (sucs g x).length) : DF g fr fr0 o st none := by
  refine ⟨h.a, h.b, h.s, fun u hu => ?_⟩;rcases h.c u hu with h1 | ⟨k', e, h1⟩ | h1
  · exact .inl h1
  · injection e with e; injection e with e1 e2
    subst e1 e2;rw [hk, List.take_length] at h1;exact .inr (.inr h1)
  · exact .inr (.inr h1)
theorem df_end {g : List (List Nat)} {fr o : List Nat} (h : DF g fr fr o [] none) (v : Nat) : v ∈ o ↔ RchS g fr v := by
  refine ⟨fun hv => (h.a v hv).2, fun ⟨f, hf, hr⟩ => hr.clos (p := fun v => v ∈ o) (fun u hu y hy => ?_) (h.b f hf)⟩;rcases h.c u hu with h1 | ⟨k, e, _⟩ | h1
  · cases h1
  · cases e
  · exact h1 y hy
end Go.Proofs.Ytgdppeobgefogaa
/- Layer 31: Reachable at valid nodes, the walk. -/
namespace Go.Proofs.Ytgdppeobgefogaa
open Go.RowKit
theorem getQ {a j : List Nat} {x k : Nat} (h : k = a.length) : ((a ++ [x] ++ j).map natD)[k]? = some (natD x) := by subst h; simp
theorem cntB_le (n : Nat) (o : List Nat) : cntB n o ≤ n := by
  have := List.length_filter_le (fun v => decide (v ∉ o)) (List.range n)
  rwa [List.length_range] at this
theorem df_fr {g : List (List Nat)} {fr fr0 o st : List Nat} {i : Nat} (h : DF g fr fr0 (visO o i) (visS o st i) none) : DF g fr (fr0 ++ [i]) (visO o i) (visS o st i) none :=
  ⟨h.a, fun f hf => (List.mem_append.1 hf).elim (h.b f) fun e => vis_mem.2 (.inr (List.mem_singleton.1 e)), h.s, h.c⟩
set_option maxRecDepth 100000 in
set_option maxHeartbeats 1000000 in
theorem reachable_p (g : List (List Nat)) (hg : GT g) (fr : List Nat) (hfl : fr.length ≤ 1000000) (hf : ∀ f ∈ fr, f < g.length) : PCalls Try.prog 23 [.d (grD g), .d (natsD fr)] (.tup [natsD (trueS (fun v => decide (RchS g fr v)) g.length), intD 0]) := by
  have hn := hg.gb.n;refine Zbm Try.func23 rfl rfl Try.ntmps23 rfl rfl rfl fun F hF => (Zag (Zae (goAs rfl rfl (goAs rfl rfl (Zaf (Zag ?_))))));refine Zag (Zae (goMv rfl rfl (Zab.go (Zbw (check_n g hg) rfl rfl) (goAs rfl rfl (Zaf (Zag (Zae (goMv rfl rfl ?_))))))))
  first | refine Zab.go (ZbM rfl rfl rfl) ?_ | refine Zab.go (ZbB rfl rfl rfl) ?_ | refine Zab.go (ZbD rfl rfl rfl) ?_ | refine Zab.go (ZbI Try.underlying26 rfl rfl rfl) ?_ | refine Zab.go (ZbG Try.underlying26 rfl rfl rfl) ?_ | refine Zab.go (st_neqN Try.underlying26 rfl rfl) ?_ | refine Zab.go (ZbH Try.underlying26 rfl rfl rfl) ?_ | refine Zab.go (st_neqFN Try.underlying26 rfl rfl) ?_
  refine Zaf (Zbp rfl (decide_eq_false (by decide)) (Zay ?_));refine Zag (Zae (goMv rfl rfl (Zab.go (Zax rfl (List.length_map ..) Try.underlying32 rfl) (Zap.go (ZbQ 2 sl48 rfl rfl rfl (by omega) zd4 rfl rfl rfl rfl) (Zap.go (st_alloc 1 zl48 rfl rfl rfl rfl) (Zap.go (st_storeP rfl rfl rfl rfl rfl rfl rfl sz48) (Zaf (Zag ?_))))))));rw [repB];refine Zae (Zap.go (st_alloc 3 zl25 rfl rfl rfl rfl) (Zaf (Zag (a_adoptC 3 0 0 4 sl25 rfl rfl rfl rfl rfl rfl rfl (Zae (Zab.go (st_makeFunc rfl rfl) (goAs rfl rfl (Zaf ?_))))))));refine Zag (Zag (Zae (goMv rfl rfl (Zab.go (Zax rfl (List.length_map ..) Try.underlying25 rfl) (goMv rfl rfl (Zaf (Zaq (ZaU (α := Nat) (fun k => ⟨95, [(0, .d (grD g)), (1, .d (natsD fr)), (7, (.ptr 1 0 0)), (8, (.ptr 3 0 0)), (9, (.fn 40 [.ptr 1 0 0, .ptr 3 0 0])), (29, (.d (natsD fr))), (30, (.d (natD fr.length))), (31, (.d (natD k)))], HV g.length [] [] []⟩) (fun k => k ≤ fr.length) (fun k => fr.length - k) (0) (Nat.zero_le _) (Zao hF [1, 2, 3, 4] rfl rfl ⟨rfl, rfl, rfl, rfl, rfl, rfl, rfl, rfl, trivial⟩) ?_))))))));intro k hk;refine Zag (Zae ?_)
  first | refine Zab.go (ZaT rfl rfl rfl) ?_ | refine Zab.go (ZaN rfl rfl rfl) ?_
  refine Zaf (Zag ?_)
  first | refine ZaQ rfl (fun h32 => ?_) (fun h32 => ?_) | refine ZaE rfl (fun h32 => ?_) (fun h32 => ?_)
  · refine Zay (Zag (Zaq (Zag ?_)));have hkl : k < fr.length := Za4 h32;have hfk := hf _ (Zbk hkl);refine Zae ?_
    first | refine Zab.go (Zam (k) rfl rfl (rfl) (getn hkl) Try.underlying25 rfl sz3 rfl) ?_ | refine Zab.go (Zal (k) rfl rfl (rfl) (getn hkl) rfl Try.underlying25 sz3 rfl) ?_
    first | refine Zab.go (Zai rfl rfl on3 rfl) ?_ | refine Zab.go (Zak rfl rfl rfl on3 rfl) ?_ | refine Zab.go (Zaj rfl rfl (rfl) rfl on3 rfl) ?_
    refine goAs rfl rfl (Zaf (Zag (Zae (goMv rfl rfl ?_))))
    first | refine Zab.go (ZaT rfl rfl rfl) ?_ | refine Zab.go (ZaN rfl rfl rfl) ?_
    refine goMv rfl rfl (o_setF 37 rfl (decide_eq_false (by omega)) (ZaF rfl rfl rfl (goMv rfl rfl (ZaF rfl rfl rfl (goMv rfl rfl (ZaF rfl rfl rfl (Zab.go (Zax rfl (List.length_map ..) Try.underlying32 rfl) (ZaF rfl rfl rfl ?_))))))));refine Zab.go (st_geq rfl rfl rfl) (Zab.go (ZaY rfl rfl rfl rfl) (Zaf (Zbp rfl (decide_eq_false (by omega)) (Zay (Zae (Zab.go (ZaI rfl rfl (IntWalk.i64_in _ (by omega)) rfl) (goMv rfl rfl (Zaf ?_))))))));exact ⟨k + 1, hkl, by omega, Zao hF [1, 2, 3, 4] rfl (rfl) ⟨rfl, rfl, rfl, rfl, rfl, rfl, rfl, rfl, trivial⟩⟩
  · refine ZaK ?_;refine Zag (Zag (Zae (goMv rfl rfl (Zab.go (Zax rfl (List.length_map ..) Try.underlying25 rfl) (goMv rfl rfl (Zaf (Zaq (ZaU (α := Nat × List Nat × List Nat × List Nat) (fun q => ⟨95, [(0, .d (grD g)), (1, .d (natsD fr)), (7, (.ptr 1 0 0)), (8, (.ptr 3 0 0)), (9, (.fn 40 [.ptr 1 0 0, .ptr 3 0 0])), (44, (.d (natsD fr))), (45, (.d (natD fr.length))), (46, (.d (natD q.1)))], HV g.length q.2.1 q.2.2.1 q.2.2.2⟩) (fun q => q.1 ≤ fr.length ∧ DF g fr (fr.take q.1) q.2.1 q.2.2.1 none ∧ muD g.length q.2.1 q.2.2.1 ≤ 2 * g.length) (fun q => fr.length - q.1) ((0, [], [], [])) (⟨Nat.zero_le _, ⟨fun v hv => (by cases hv), fun f hf => by simp at hf, fun v hv => (by cases hv), fun u hu => (by cases hu)⟩, by have := cntB_le g.length []; show 2 * cntB g.length [] + 0 ≤ _; omega⟩) (Zao hF [1, 2, 3, 4] rfl rfl ⟨rfl, rfl, rfl, rfl, rfl, rfl, rfl, rfl, trivial⟩) ?_))))))));rintro ⟨k, o, st, j⟩ ⟨hk, hD, hmu⟩;dsimp only at hk hD hmu ⊢;have hstl : st.length ≤ 1000000 := by unfold muD at hmu; omega
    refine Zag (Zae ?_)
    first | refine Zab.go (ZaT rfl rfl rfl) ?_ | refine Zab.go (ZaN rfl rfl rfl) ?_
    refine Zaf (Zag ?_)
    first | refine ZaQ rfl (fun h47 => ?_) (fun h47 => ?_) | refine ZaE rfl (fun h47 => ?_) (fun h47 => ?_)
    · refine Zay (Zag (Zaq (Zag ?_)));have hkl : k < fr.length := Za4 h47;have hfk := hf _ (Zbk hkl);have hxm := Zbk hkl;have hgn := getn hkl
      obtain ⟨x, hxe⟩ : ∃ x, nth fr k = x := ⟨_, rfl⟩
      rw [hxe] at hfk hgn hxm;refine Zae ?_
      first | refine Zab.go (Zam (k) rfl rfl (rfl) (hgn) Try.underlying25 rfl sz3 rfl) ?_ | refine Zab.go (Zal (k) rfl rfl (rfl) (hgn) rfl Try.underlying25 sz3 rfl) ?_
      first | refine Zab.go (Zai rfl rfl on3 rfl) ?_ | refine Zab.go (Zak rfl rfl rfl on3 rfl) ?_ | refine Zab.go (Zaj rfl rfl (rfl) rfl on3 rfl) ?_
      refine goAs rfl rfl (Zaf ?_);refine Zae (goMv rfl rfl (goMv rfl rfl (Zap.go (st_callVD (visit_c g.length o st j x hfk hstl) rfl [1, 2, 3, 4] ⟨rfl, rfl, rfl, rfl, trivial⟩ rfl rfl rfl rfl rfl rfl rfl rfl rfl) (Zaf (Zae (Zab.go (ZaI rfl rfl (IntWalk.i64_in _ (by omega)) rfl) (goMv rfl rfl (Zaf ?_))))))));exact ⟨(k + 1, visO o x, visS o st x, visJ o j x), ⟨hkl, by rw [List.take_succ_eq_append_getElem hkl, ← Zbb hkl, hxe]; exact df_fr (df_vis hD hfk ⟨x, hxm, .refl x⟩), Nat.le_trans (vis_mu hfk) hmu⟩, by show fr.length - (k + 1) < fr.length - k; omega, Zao hF [1, 2, 3, 4] rfl (rfl) ⟨rfl, rfl, rfl, rfl, rfl, rfl, rfl, rfl, trivial⟩⟩
    · refine ZaK (Zag (Zaq ?_));have hke : k = fr.length := (by have := h47; omega); rw [hke, List.take_length] at hD;refine ZaU (α := List Nat × List Nat × List Nat) (fun q => ⟨95, [(0, .d (grD g)), (7, (.ptr 1 0 0)), (8, (.ptr 3 0 0)), (9, (.fn 40 [.ptr 1 0 0, .ptr 3 0 0]))], HV g.length q.1 q.2.1 q.2.2⟩) (fun q => DF g fr fr q.1 q.2.1 none ∧ muD g.length q.1 q.2.1 ≤ 2 * g.length) (fun q => muD g.length q.1 q.2.1) ((o, st, j)) (⟨hD, hmu⟩) (Zao hF [1, 2, 3, 4] rfl rfl ⟨rfl, rfl, rfl, rfl, trivial⟩) ?_;rintro ⟨o, st, j⟩ ⟨hD, hmu⟩;dsimp only at hD hmu ⊢;refine Zag (Zag (Zae ?_))
      first | refine Zab.go (Zai rfl rfl on25 rfl) ?_ | refine Zab.go (Zak rfl rfl rfl on25 rfl) ?_ | refine Zab.go (Zaj rfl rfl (rfl) rfl on25 rfl) ?_
      first | refine Zab.go (ZaX rfl Try.underlying25 rfl) ?_ | refine Zab.go (Zax rfl rfl Try.underlying25 rfl) ?_ | refine Zab.go (Zba rfl Try.underlying25 rfl) ?_ | refine Zab.go (Za0 rfl Try.underlying25 rfl) ?_ | refine Zab.go (Zbd rfl Try.underlying25 rfl) ?_ | refine Zab.go (Za9 rfl Try.underlying25 rfl) ?_
      first | refine Zab.go (st_gtr rfl rfl rfl) ?_ | refine Zab.go (ZbK rfl rfl rfl) ?_
      refine Zaf ?_
      first | refine ZaQ rfl (fun h56 => ?_) (fun h56 => ?_) | refine ZaE rfl (fun h56 => ?_) (fun h56 => ?_)
      · refine Zay (Zaq (Zag ?_));obtain ⟨st0, x, hsx⟩ := concat_of (l := st) (fun e => by subst e; exact absurd h56 (by decide));subst hsx;have hstl : (st0 ++ [x]).length ≤ 1000000 := by unfold muD at hmu; omega
        have hl1 : (((st0 ++ [x]).length : Nat) : Int) - 1 = (st0.length : Int) := by simp
        have hl2 : st0.length < (st0 ++ [x]).length := by simp
        have hxo := hD.s x (by simp);have hxl := (hD.a x hxo).1;have hmu0 : muD g.length o (st0 ++ [x]) = muD g.length o st0 + 1 := by unfold muD; rw [List.length_append, List.length_singleton]; omega
        refine Zae ?_
        first | refine Zab.go (Zai rfl rfl on25 rfl) ?_ | refine Zab.go (Zak rfl rfl rfl on25 rfl) ?_ | refine Zab.go (Zaj rfl rfl (rfl) rfl on25 rfl) ?_
        first | refine Zab.go (Zai rfl rfl on25 rfl) ?_ | refine Zab.go (Zak rfl rfl rfl on25 rfl) ?_ | refine Zab.go (Zaj rfl rfl (rfl) rfl on25 rfl) ?_
        first | refine Zab.go (ZaX rfl Try.underlying25 rfl) ?_ | refine Zab.go (Zax rfl rfl Try.underlying25 rfl) ?_ | refine Zab.go (Zba rfl Try.underlying25 rfl) ?_ | refine Zab.go (Za0 rfl Try.underlying25 rfl) ?_ | refine Zab.go (Zbd rfl Try.underlying25 rfl) ?_ | refine Zab.go (Za9 rfl Try.underlying25 rfl) ?_
        refine Zab.go (Zbl rfl rfl (IntWalk.i64_in _ (by omega)) rfl) ?_
        first | refine Zab.go (Zam (st0.length) rfl rfl (hl1) (hl2) Try.underlying25 rfl sz3 rfl) ?_ | refine Zab.go (Zal (st0.length) rfl rfl (hl1) (hl2) rfl Try.underlying25 sz3 rfl) ?_
        first | refine Zab.go (Zai rfl rfl on3 rfl) ?_ | refine Zab.go (Zak rfl rfl rfl on3 rfl) ?_ | refine Zab.go (Zaj rfl rfl (getQ rfl) rfl on3 rfl) ?_
        refine goAs rfl rfl (Zaf (Zag (Zae ?_)))
        first | refine Zab.go (Zai rfl rfl on25 rfl) ?_ | refine Zab.go (Zak rfl rfl rfl on25 rfl) ?_ | refine Zab.go (Zaj rfl rfl (rfl) rfl on25 rfl) ?_
        first | refine Zab.go (Zai rfl rfl on25 rfl) ?_ | refine Zab.go (Zak rfl rfl rfl on25 rfl) ?_ | refine Zab.go (Zaj rfl rfl (rfl) rfl on25 rfl) ?_
        first | refine Zab.go (ZaX rfl Try.underlying25 rfl) ?_ | refine Zab.go (Zax rfl rfl Try.underlying25 rfl) ?_ | refine Zab.go (Zba rfl Try.underlying25 rfl) ?_ | refine Zab.go (Za0 rfl Try.underlying25 rfl) ?_ | refine Zab.go (Zbd rfl Try.underlying25 rfl) ?_ | refine Zab.go (Za9 rfl Try.underlying25 rfl) ?_
        refine Zab.go (Zbl rfl rfl (IntWalk.i64_in _ (by omega)) rfl) (Zab.go (ZbY st0.length rfl rfl hl1 (by simp) rfl Try.underlying25 sz3 rfl) (Zap.go (st_storeP rfl rfl rfl rfl rfl rfl rfl sz25) (Zaf (Zag ?_))));rw [List.append_assoc];refine Zae (goMv rfl rfl (goMv rfl rfl ?_))
        first | refine Zab.go (Zam (x) rfl rfl (rfl) (getg hxl) Try.underlying32 rfl sz25 rfl) ?_ | refine Zab.go (Zal (x) rfl rfl (rfl) (getg hxl) rfl Try.underlying32 sz25 rfl) ?_
        first | refine Zab.go (Zai rfl rfl on25 rfl) ?_ | refine Zab.go (Zak rfl rfl rfl on25 rfl) ?_ | refine Zab.go (Zaj rfl rfl (rfl) rfl on25 rfl) ?_
        refine Zab.go (Zax rfl (List.length_map ..) Try.underlying25 rfl) (goMv rfl rfl (Zaf (Zaq (ZaU (α := Nat × List Nat × List Nat × List Nat) (fun q => ⟨95, [(0, .d (grD g)), (7, (.ptr 1 0 0)), (8, (.ptr 3 0 0)), (9, (.fn 40 [.ptr 1 0 0, .ptr 3 0 0])), (71, (.d (natsD (sucs g x)))), (72, (.d (natD (sucs g x).length))), (73, (.d (natD q.1)))], HV g.length q.2.1 q.2.2.1 q.2.2.2⟩) (fun q => q.1 ≤ (sucs g x).length ∧ DF g fr fr q.2.1 q.2.2.1 (some (x, q.1)) ∧ x ∈ q.2.1 ∧ muD g.length q.2.1 q.2.2.1 ≤ muD g.length o st0) (fun q => (sucs g x).length - q.1) ((0, o, st0, [x] ++ j)) (⟨Nat.zero_le _, df_pop hD, hxo, Nat.le_refl _⟩) (Zao hF [1, 2, 3, 4] rfl rfl ⟨rfl, rfl, rfl, rfl, rfl, rfl, rfl, trivial⟩) ?_))));rintro ⟨k, o2, st2, j2⟩ ⟨hk, hD2, hxo2, hmu2⟩;dsimp only at hk hD2 hxo2 hmu2 ⊢;have hst2 : st2.length ≤ 1000000 := by unfold muD at hmu2 hmu hmu0; omega
        refine Zag (Zae ?_)
        first | refine Zab.go (ZaT rfl rfl rfl) ?_ | refine Zab.go (ZaN rfl rfl rfl) ?_
        refine Zaf (Zag ?_)
        first | refine ZaQ rfl (fun h74 => ?_) (fun h74 => ?_) | refine ZaE rfl (fun h74 => ?_) (fun h74 => ?_)
        · refine Zay (Zag (Zaq (Zag ?_)));have hkl : k < (sucs g x).length := Za4 h74;have hsl := hg.gb.len hxl;have hgn := getn hkl;have hyl := hg.gb.suc hxl (Zbk hkl)
          obtain ⟨y, hye⟩ : ∃ y, nth (sucs g x) k = y := ⟨_, rfl⟩
          rw [hye] at hyl hgn;refine Zae ?_
          first | refine Zab.go (Zam (k) rfl rfl (rfl) (hgn) Try.underlying25 rfl sz3 rfl) ?_ | refine Zab.go (Zal (k) rfl rfl (rfl) (hgn) rfl Try.underlying25 sz3 rfl) ?_
          first | refine Zab.go (Zai rfl rfl on3 rfl) ?_ | refine Zab.go (Zak rfl rfl rfl on3 rfl) ?_ | refine Zab.go (Zaj rfl rfl (rfl) rfl on3 rfl) ?_
          refine goAs rfl rfl (Zaf ?_);refine Zae (goMv rfl rfl (goMv rfl rfl (Zap.go (st_callVD (visit_c g.length o2 st2 j2 y hyl hst2) rfl [1, 2, 3, 4] ⟨rfl, rfl, rfl, rfl, trivial⟩ rfl rfl rfl rfl rfl rfl rfl rfl rfl) (Zaf (Zae (Zab.go (ZaI rfl rfl (IntWalk.i64_in _ (by omega)) rfl) (goMv rfl rfl (Zaf ?_))))))));exact ⟨(k + 1, visO o2 y, visS o2 st2 y, visJ o2 j2 y), ⟨hkl, hye ▸ df_step hg.gb hD2 hxo2 hkl, vis_mem.2 (.inl hxo2), Nat.le_trans (vis_mu hyl) hmu2⟩, by show (sucs g x).length - (k + 1) < (sucs g x).length - k; omega, Zao hF [1, 2, 3, 4] rfl (rfl) ⟨rfl, rfl, rfl, rfl, rfl, rfl, rfl, trivial⟩⟩
        · refine ZaK ?_;exact ⟨(o2, st2, j2), ⟨df_done hD2 (by have := h74; omega), Nat.le_trans hmu2 (by rw [hmu0] at hmu; exact Nat.le_of_succ_le hmu)⟩, by show muD g.length o2 st2 < muD g.length o (st0 ++ [x]); rw [hmu0]; exact Nat.lt_succ_of_le hmu2, Zao hF [1, 2, 3, 4] rfl (rfl) ⟨rfl, rfl, rfl, rfl, trivial⟩⟩
      · refine ZaK (Zag ?_);have hst0 : st = [] := List.length_eq_zero_iff.1 (by have := h56; omega);subst hst0;have hre := fun v => df_end hD v;refine Zae (goAs rfl rfl (Zaf (Zag (Zag (Zae ?_)))))
        first | refine Zab.go (Zai rfl rfl on48 rfl) ?_ | refine Zab.go (Zak rfl rfl rfl on48 rfl) ?_ | refine Zab.go (Zaj rfl rfl (rfl) rfl on48 rfl) ?_
        refine Zab.go (Zba rfl Try.underlying48 rfl) (goMv rfl rfl (Zaf (Zaq (a_adopt 17 5 sl25 rfl rfl rfl rfl (ZaU (α := Nat × List Nat) (fun q => ⟨95, [(17, (.own 5 0 q.2.length)), (81, (.own 2 0 g.length)), (82, (.d (natD g.length))), (83, (.d (natD q.1)))], [(2, [.rowD 4 1 (rowB g.length o)]), (5, [.rowD 3 1 (q.2.map natD)])]⟩) (fun q => q.1 ≤ g.length ∧ q.2 = trueS (fun v => decide (RchS g fr v)) q.1) (fun q => g.length - q.1) ((0, [])) (⟨Nat.zero_le _, rfl⟩) (Zao hF [2, 5] rfl rfl ⟨rfl, rfl, rfl, rfl, trivial⟩) ?_)))));rintro ⟨k, w⟩ ⟨hk, hw⟩;dsimp only at hk hw ⊢;refine Zag (Zae ?_)
        first | refine Zab.go (ZaT rfl rfl rfl) ?_ | refine Zab.go (ZaN rfl rfl rfl) ?_
        refine Zaf (Zag ?_)
        first | refine ZaQ rfl (fun h84 => ?_) (fun h84 => ?_) | refine ZaE rfl (fun h84 => ?_) (fun h84 => ?_)
        · refine Zay (Zag (Zaq (Zag ?_)));have hkl : k < g.length := Za4 h84;have hwl : w.length ≤ k := by rw [hw]; exact trueS_len _ k
          refine Zae (goMv rfl rfl ?_)
          first | refine Zab.go (Zam (k) rfl rfl (rfl) (hkl) Try.underlying48 rfl sz4 rfl) ?_ | refine Zab.go (Zal (k) rfl rfl (rfl) (hkl) rfl Try.underlying48 sz4 rfl) ?_
          first | refine Zab.go (Zai rfl rfl on4 rfl) ?_ | refine Zab.go (Zak rfl rfl rfl on4 rfl) ?_ | refine Zab.go (Zaj rfl rfl (rowB_get hkl) rfl on4 rfl) ?_
          refine goAs rfl rfl (goAs rfl rfl (Zaf (Zag (Zae (goMv rfl rfl (Zaf ?_))))))
          first | refine ZaQ rfl (fun h88 => ?_) (fun h88 => ?_) | refine ZaE rfl (fun h88 => ?_) (fun h88 => ?_)
          · refine Zae (goMv rfl rfl ?_);refine goMv rfl rfl (Zap.go (ZaL 21 sl25 rfl rfl rfl rfl rfl rfl rfl rfl) (Zap.go (st_appM (emb := natD) w [k] rfl rfl rfl rfl rfl rfl rfl rfl sl25 (by show (w.length + 1) * 8 ≤ _; omega) rfl rfl rfl rfl) (goAs rfl rfl (Zaf (Zae (Zab.go (ZaI rfl rfl (IntWalk.i64_in _ (by omega)) rfl) (goMv rfl rfl (Zaf ?_))))))));exact ⟨(k + 1, w ++ [k]), ⟨hkl, by rw [trueS_succ, if_pos (decide_eq_true ((hre k).1 h88)), hw]⟩, by show g.length - (k + 1) < g.length - k; omega, Zao hF [2, 5] rfl (rfl) ⟨rfl, rfl, rfl, rfl, trivial⟩⟩
          · refine Zay (Zae (Zab.go (ZaI rfl rfl (IntWalk.i64_in _ (by omega)) rfl) (goMv rfl rfl (Zaf ?_))));exact ⟨(k + 1, w), ⟨hkl, by rw [trueS_succ, if_neg (by simpa using fun h => h88 ((hre k).2 h)), hw, List.append_nil]⟩, by show g.length - (k + 1) < g.length - k; omega, Zao hF [2, 5] rfl (rfl) ⟨rfl, rfl, rfl, rfl, trivial⟩⟩
        · refine ZaK (Zag ?_);have hkn : k = g.length := by have := h84; omega
          subst hkn;refine Zbt (emb := natD) 17 5 w rfl rfl rfl rfl rfl rfl rfl ?_;rw [hw];refine Zae (goMv rfl rfl (goAs rfl rfl (goAs rfl rfl (Zaf (Zbn ?_)))));exact ⟨_, [], [], ZaZ rfl, rfl, rfl, rfl, rfl⟩
end Go.Proofs.Ytgdppeobgefogaa
