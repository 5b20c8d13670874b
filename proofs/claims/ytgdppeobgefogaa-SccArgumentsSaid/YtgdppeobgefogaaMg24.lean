/- The kit's contract of slices.SortFunc laid at this program: the renumbering and its facts. Made by program (lays.py). -/
import Derived.Test.YtgdppeobgefogaaMg23
import Derived.Shelf.SlLaysNS
import Derived.Test.YtgdppeobgefogaaProg
namespace Go.Proofs.Ytgdppeobgefogaa
open Go.Shelf Go.Proofs Go.Proofs.Try
def renS : Go.Shelf.Ren := ⟨fun x => match x with
  | 53 => 41
  | 64 => 51
  | 63 => 50
  | 78 => 63
  | 79 => 64
  | 70 => 54
  | 71 => 55
  | 72 => 56
  | 73 => 57
  | 74 => 58
  | 75 => 59
  | 59 => 60
  | 76 => 61
  | 77 => 62
  | 88 => 65
  | 89 => 66
  | 90 => 67
  | 91 => 68
  | 92 => 69
  | 68 => 70
  | 96 => 71
  | x => x,
  fun x => match x with
  | 22 => 25
  | 23 => 3
  | 3 => 3
  | 51 => 81
  | 0 => 0
  | 67 => 102
  | 69 => 55
  | 4 => 4
  | 61 => 95
  | 60 => 94
  | 44 => 99
  | 5 => 5
  | 9 => 9
  | 75 => 104
  | 79 => 108
  | 83 => 111
  | 84 => 112
  | x => x, fun x => x⟩
theorem laysS : SlLaysN.n53 Try.prog renS where
  mixed := rfl
  f53 := ⟨Try.f41.name, by decide, Try.func41.trans (congrArg some (by kernel_rfl))⟩
  f59 := ⟨Try.f60.name, by decide, Try.func60.trans (congrArg some (by kernel_rfl))⟩
  f63 := ⟨Try.f50.name, by decide, Try.func50.trans (congrArg some (by kernel_rfl))⟩
  f64 := Try.func51.trans (congrArg some (by kernel_rfl))
  f68 := ⟨Try.f70.name, by decide, Try.func70.trans (congrArg some (by kernel_rfl))⟩
  f70 := ⟨Try.f54.name, by decide, Try.func54.trans (congrArg some (by kernel_rfl))⟩
  f71 := ⟨Try.f55.name, by decide, Try.func55.trans (congrArg some (by kernel_rfl))⟩
  f72 := ⟨Try.f56.name, by decide, Try.func56.trans (congrArg some (by kernel_rfl))⟩
  f73 := ⟨Try.f57.name, by decide, Try.func57.trans (congrArg some (by kernel_rfl))⟩
  f74 := ⟨Try.f58.name, by decide, Try.func58.trans (congrArg some (by kernel_rfl))⟩
  f75 := ⟨Try.f59.name, by decide, Try.func59.trans (congrArg some (by kernel_rfl))⟩
  f76 := ⟨Try.f61.name, by decide, Try.func61.trans (congrArg some (by kernel_rfl))⟩
  f77 := ⟨Try.f62.name, by decide, Try.func62.trans (congrArg some (by kernel_rfl))⟩
  f78 := Try.func63.trans (congrArg some (by kernel_rfl))
  f79 := Try.func64.trans (congrArg some (by kernel_rfl))
  f88 := ⟨Try.f65.name, by decide, Try.func65.trans (congrArg some (by kernel_rfl))⟩
  f89 := Try.func66.trans (congrArg some (by kernel_rfl))
  f90 := Try.func67.trans (congrArg some (by kernel_rfl))
  f91 := ⟨Try.f68.name, by decide, Try.func68.trans (congrArg some (by kernel_rfl))⟩
  f92 := ⟨Try.f69.name, by decide, Try.func69.trans (congrArg some (by kernel_rfl))⟩
  f96 := ⟨Try.f71.name, by decide, Try.func71.trans (congrArg some (by kernel_rfl))⟩
  t0 := Try.underlying0
  a0 := Try.isAgg0
  z0 := Try.sizeOf0
  v0 := Try.zeroValue0
  t3 := Try.underlying3
  a3 := Try.isAgg3
  z3 := Try.sizeOf3
  v3 := Try.zeroValue3
  t4 := Try.underlying4
  a4 := Try.isAgg4
  z4 := Try.sizeOf4
  v4 := Try.zeroValue4
  t5 := Try.underlying5
  a5 := Try.isAgg5
  z5 := Try.sizeOf5
  v5 := Try.zeroValue5
  t9 := Try.underlying9
  a9 := Try.isAgg9
  z9 := Try.sizeOf9
  v9 := Try.zeroValue9
  t22 := Try.underlying25
  a22 := Try.isAgg25
  z22 := Try.sizeOf25
  v22 := Try.zeroValue25
  t23 := Try.underlying3
  a23 := Try.isAgg3
  z23 := Try.sizeOf3
  v23 := Try.zeroValue3
  t44 := Try.underlying99
  a44 := Try.isAgg99
  z44 := Try.sizeOf99
  v44 := Try.zeroValue99
  t51 := Try.underlying81
  a51 := Try.isAgg81
  z51 := Try.sizeOf81
  v51 := Try.zeroValue81
  t60 := Try.underlying94
  a60 := Try.isAgg94
  z60 := Try.sizeOf94
  v60 := Try.zeroValue94
  t61 := Try.underlying95
  a61 := Try.isAgg95
  z61 := Try.sizeOf95
  v61 := Try.zeroValue95
  t67 := Try.underlying102
  a67 := Try.isAgg102
  z67 := Try.sizeOf102
  v67 := Try.zeroValue102
  t69 := Try.underlying55
  a69 := Try.isAgg55
  z69 := Try.sizeOf55
  v69 := Try.zeroValue55
  t75 := Try.underlying104
  a75 := Try.isAgg104
  z75 := Try.sizeOf104
  v75 := Try.zeroValue104
  t79 := Try.underlying108
  a79 := Try.isAgg108
  z79 := Try.sizeOf108
  v79 := Try.zeroValue108
  t83 := Try.underlying111
  a83 := Try.isAgg111
  z83 := Try.sizeOf111
  v83 := Try.zeroValue111
  t84 := Try.underlying112
  a84 := Try.isAgg112
  z84 := Try.sizeOf112
  v84 := Try.zeroValue112
end Go.Proofs.Ytgdppeobgefogaa
/- Layer 31: Condense. -/
namespace Go.Proofs.Ytgdppeobgefogaa
open Go.RowKit
def sortN (l : List Nat) : List Nat := (sortI (l.map Int.ofNat)).map Int.toNat
theorem sortN_perm (l : List Nat) : (sortN l).Perm l := by
  have h := (sortI_perm (l.map Int.ofNat)).map Int.toNat;rw [List.map_map] at h
  have e : l.map (Int.toNat ∘ Int.ofNat) = l := by
    conv => rhs; rw [← List.map_id l]
    exact List.map_congr_left fun x _ => rfl
  rwa [e] at h
theorem sortN_len (l : List Nat) : (sortN l).length = l.length := (sortN_perm l).length_eq
theorem sortN_map (l : List Nat) : (sortI (l.map Int.ofNat)).map zD = (sortN l).map natD := by
  unfold sortN;rw [List.map_map];refine List.map_congr_left fun x hx => ?_;obtain ⟨y, _, rfl⟩ := List.mem_map.1 ((sortI_perm _).mem_iff.1 hx)
  rfl
theorem ofN_map (l : List Nat) : l.map natD = (l.map Int.ofNat).map zD := by rw [List.map_map]; rfl
def cptS (l : List Nat) : List Nat := cptK (sortN l) (sortN l).length
theorem cptS_le (l : List Nat) : (cptS l).length ≤ l.length := by have := cptK_le (sortN l) (sortN l).length; rw [sortN_len] at this; unfold cptS; rw [sortN_len]; exact this
theorem cptS_nil : cptS [] = [] := by unfold cptS; rw [List.length_eq_zero_iff.1 (sortN_len [])]; rfl
theorem GRep.put {M : MF} {n j b c : Nat} {hs : Nat → Hd} {ls : Nat → List Nat} (h : GRep M n hs ls) (hj : j < n) (hh : hs j = some (b, c)) {l : List Nat} (hl : l.length ≤ c) : GRep (Zbn M b (.row 3 1 c (l.map natD))) n hs (updF ls j l) := by
  refine ⟨fun k hk => ?_, h.inj⟩
  by_cases e : k = j
  · subst e; rw [Za3, hh]; exact ⟨by rw [List.length_map]; exact hl, ZbF _ _ _⟩
  · rw [Za1 e];have h1 := h.at_ k hk
    match hk2 : hs k, h1 with
    | none, h1 => exact h1
    | some (b', c'), h1 => exact ⟨h1.1, by rw [mput_ne fun e2 => e (h.inj k j b c' c hk hj (by rw [hk2, e2]) hh)]; exact h1.2⟩
theorem hd_two (h : Hd) : h = none ∨ ∃ b c, h = some (b, c) := by
  match h with
  | none => exact .inl rfl
  | some (b, c) => exact .inr ⟨b, c, rfl⟩
theorem updF_id {α : Type} {f : Nat → α} {i : Nat} {x : α} (h : f i = x) : updF f i x = f := by
  funext j; unfold updF; split
  · rename_i e; rw [e, h]
  · rfl
noncomputable def cdE (g : List (List Nat)) (c : Nat) : List Nat := edT g (noC g) g.length 0 c
noncomputable def cdC (g : List (List Nat)) (i c : Nat) : List Nat := if c < i then cptS (cdE g c) else cdE g c
theorem cdC_zero (g : List (List Nat)) : cdC g 0 = edT g (noC g) g.length 0 := by funext c; unfold cdC; rw [if_neg (by omega)]; rfl
theorem cdC_at (g : List (List Nat)) (i : Nat) : cdC g i i = cdE g i := by unfold cdC; rw [if_neg (by omega)]
theorem cdC_step (g : List (List Nat)) (i : Nat) : updF (cdC g i) i (cptS (cdE g i)) = cdC g (i + 1) := by
  funext c
  by_cases e : c = i
  · subst e; rw [Za3]; unfold cdC; rw [if_pos (by omega)]
  · rw [Za1 e]; unfold cdC
    by_cases h : c < i
    · rw [if_pos h, if_pos (by omega)]
    · rw [if_neg h, if_neg (by omega)]
noncomputable def cdG (g : List (List Nat)) : List (List Nat) := grF (cntC g) (fun c => cptS (cdE g c))
theorem cdC_end (g : List (List Nat)) : grF (cntC g) (cdC g (cntC g)) = cdG g := by
  unfold cdG grF;exact List.map_congr_left fun c hc => by unfold cdC; rw [if_pos (List.mem_range.1 hc)]
theorem cdE_len {g : List (List Nat)} (hg : GT g) (c : Nat) : (cdE g c).length ≤ 1048576 := by
  have := edT_len g (noC g) g.length 0 c;have := hg.tot;unfold cdE
  simp at *; omega
theorem getno {g : List (List Nat)} {v : Nat} (hv : v < g.length) : ((noL g).map natD)[v]? = some (natD (noC g v)) := by
  have h := getn (l := noL g) (k := v) (by rw [noL_len]; exact hv)
  rwa [Zb2 hv] at h
theorem cnt_le (g : List (List Nat)) (hg : GT g) : cntC g ≤ g.length := by
  have hcn := cn_ex g hg
  have h1 : ((List.range (cntC g)).map fun c => if h : c < cntC g then Classical.choose (hcn.use c h) else 0).Nodup := by
    rw [List.nodup_iff_pairwise_ne, List.pairwise_map];refine List.Pairwise.imp_of_mem (fun {a b} ha hb hab e => hab ?_) (List.nodup_range (n := cntC g));have ha := List.mem_range.1 ha;have hb := List.mem_range.1 hb;rw [dif_pos ha, dif_pos hb] at e;have e1 := (Classical.choose_spec (hcn.use a ha)).2;have e2 := (Classical.choose_spec (hcn.use b hb)).2;rw [← e1, e, e2]
  have := ZbW h1 (m := List.range g.length) fun x hx => by
    obtain ⟨c, hc, rfl⟩ := List.mem_map.1 hx;have hc := List.mem_range.1 hc;rw [dif_pos hc];exact List.mem_range.2 (Classical.choose_spec (hcn.use c hc)).1
  rwa [List.length_map, List.length_range, List.length_range] at this
set_option maxRecDepth 100000 in
theorem compact_0 : ACalls Try.prog 42 [.d (.raw (.slice none 0 0))] [] fun r H' => r = .d (.raw (.slice none 0 0)) ∧ H' = [] := by
  refine ZaY Try.func42 rfl rfl Try.ntmps42 rfl rfl rfl fun F hF => (Zag (Zae (goAs rfl rfl (Zaf (Zag (Zag (Zae (goMv rfl rfl ?_))))))))
  first | refine Zab.go (ZaU rfl Try.underlying25 rfl) ?_ | refine Zab.go (Zay rfl rfl Try.underlying25 rfl) ?_ | refine Zab.go (Za8 rfl Try.underlying25 rfl) ?_ | refine Zab.go (Za0 rfl Try.underlying25 rfl) ?_ | refine Zab.go (Za9 rfl Try.underlying25 rfl) ?_ | refine Zab.go (Za6 rfl Try.underlying25 rfl) ?_
  first | refine Zab.go (ZaR rfl rfl rfl) ?_ | refine Zab.go (ZaM rfl rfl rfl) ?_
  refine Zaf (a_true rfl (rfl) (Zag (Zae (goMv rfl rfl (goAs rfl rfl (Zaf (Za5 ?_)))))));exact ⟨_, [], _, ZaT rfl, rfl, rfl, rfl, rfl⟩
theorem compact2_c {l : List Nat} {c : Nat} (hc : l.length ≤ c) (hl : l.length ≤ 1048576) (M : MF) (b : Nat) :
    ACalls Try.prog 42 [.d (.raw (sV b l.length c))] [(40, [.multi (Zbn M b (.row 3 1 c ((sortN l).map natD)))])] fun r H' => r = .d (.raw (sV b (cptS l).length c)) ∧ H' = [(40, [.multi (Zbn (Zbn M b (.row 3 1 c ((sortN l).map natD))) b (.row 3 1 c ((cptS l).map natD)))])] := by
  have hn := sortN_len l;have h := compact_c (sortN l) b c (Zbn M b (.row 3 1 c ((sortN l).map natD))) (by omega) (by omega) (ZbF _ _ _);rw [show (sV b (sortN l).length c) = sV b l.length c by rw [hn]] at h;exact h
set_option maxRecDepth 100000 in
set_option maxHeartbeats 1000000 in
theorem condense_p (g : List (List Nat)) (hg : GT g) : PCalls Try.prog 26 [.d (grD g)] (.tup [grD (cdG g), intD 0]) := by
  have hn := hg.gb.n;have hcn := cn_ex g hg;have hlc : (comC g).length = cntC g := Zbl _ _;have hcl := cnt_le g hg
  obtain ⟨cnt, hcnt⟩ : ∃ cnt, cntC g = cnt := ⟨_, rfl⟩
  obtain ⟨of, hofe⟩ : ∃ of, noC g = of := ⟨_, rfl⟩
  have hgo : ∀ v, v < g.length → ((noL g).map natD)[v]? = some (natD (of v)) := fun v hv => by rw [← hofe]; exact getno hv
  have hlt : ∀ v, v < g.length → of v < cnt := fun v hv => by rw [← hofe, ← hcnt]; exact hcn.lt v hv
  rw [hcnt] at hcl hlc;refine ZaY Try.func26 rfl rfl Try.ntmps26 rfl rfl rfl fun F hF => (Zag (Zae (goAs rfl rfl (goAs rfl rfl (Zaf (Zag ?_))))));refine Zag (Zae (goMv rfl rfl (Zab.go (Za2 (check_n g hg) rfl rfl) (goAs rfl rfl (Zaf (Zag (Zae (goMv rfl rfl ?_))))))))
  first | refine Zab.go (ZbU rfl rfl rfl) ?_ | refine Zab.go (ZbA rfl rfl rfl) ?_ | refine Zab.go (ZbG rfl rfl rfl) ?_ | refine Zab.go (ZbN Try.underlying26 rfl rfl rfl) ?_ | refine Zab.go (ZbL Try.underlying26 rfl rfl rfl) ?_ | refine Zab.go (st_neqN Try.underlying26 rfl rfl) ?_ | refine Zab.go (ZbM Try.underlying26 rfl rfl rfl) ?_ | refine Zab.go (st_neqFN Try.underlying26 rfl rfl) ?_
  refine Zaf (Zbm rfl (decide_eq_false (by decide)) (Zax (Zag (Zae (goMv rfl rfl (Zab.go (Za2 (condensed_p g hg) rfl rfl) (goMv rfl rfl ?_)))))))
  first | refine Zab.go (ZaJ rfl rfl rfl) ?_ | refine Zab.go (ZaL rfl rfl rfl) ?_
  first | refine Zab.go (ZaJ rfl rfl rfl) ?_ | refine Zab.go (ZaL rfl rfl rfl) ?_
  refine goAs rfl rfl (goAs rfl rfl (Zaf ?_));refine Zag (Zae (goMv rfl rfl (Zab.go (Zay rfl ((List.length_map ..).trans hlc) Try.underlying22 rfl) (Zap.go (ZbH 0 sl32 rfl rfl rfl (by omega) zd25 rfl rfl rfl rfl) (goAs rfl rfl (Zaf (Zag (Zag ?_))))))));refine a_weakRow 0 0 (rowH cnt (fun _ => none) (fun _ => [])) rfl (by rw [Zbe, List.length_replicate]) (nil_rowH cnt) ⟨one_nil _, Zb1 _ _ _⟩ rfl (a_multi 40 rfl rfl rfl (Zae (goMv rfl rfl (Zab.go (Zay rfl (List.length_map ..) Try.underlying32 rfl) (goMv rfl rfl (Zaf (Zau (ZaO (α := Nat × MF × (Nat → Hd)) (fun q => ⟨89, [(0, .d (grD g)), (6, (.d (natsD (noL g)))), (7, (.own 0 0 cnt)), (26, (.d (grD g))), (27, (.d (natD g.length))), (28, (.d (natD q.1)))], [(0, [.rowD 25 1 (rowH cnt q.2.2 (edT g of q.1 0))]), (40, [.multi q.2.1])]⟩) (fun q => q.1 ≤ g.length ∧ GRep q.2.1 cnt q.2.2 (edT g of q.1 0)) (fun q => g.length - q.1) ((0, fun _ => none, fun _ => none)) (⟨Nat.zero_le _, by rw [edT_zero]; exact GRep.zero _⟩) (Zao hF [0, 40] rfl rfl ⟨rfl, rfl, rfl, rfl, rfl, rfl, trivial⟩) ?_))))))));rintro ⟨i, M, hs⟩ ⟨hi, hr⟩;dsimp only at hi hr ⊢;refine Zag (Zae ?_)
  first | refine Zab.go (ZaR rfl rfl rfl) ?_ | refine Zab.go (ZaM rfl rfl rfl) ?_
  refine Zaf (Zag ?_)
  first | refine ZaQ rfl (fun h29 => ?_) (fun h29 => ?_) | refine ZaF rfl (fun h29 => ?_) (fun h29 => ?_)
  · refine Zax (Zag (Zau (Zag ?_)));have hil : i < g.length := ZaW h29;have hoi := hlt i hil;refine Zae (goMv rfl rfl ?_)
    first | refine Zab.go (Zam (i) rfl rfl (rfl) (getg hil) Try.underlying32 rfl sz25 rfl) ?_ | refine Zab.go (Zal (i) rfl rfl (rfl) (getg hil) rfl Try.underlying32 sz25 rfl) ?_
    first | refine Zab.go (Zai rfl rfl on25 rfl) ?_ | refine Zab.go (Zak rfl rfl rfl on25 rfl) ?_ | refine Zab.go (Zaj rfl rfl (rfl) rfl on25 rfl) ?_
    refine goAs rfl rfl (goAs rfl rfl ?_);refine Zaf (Zag (Zae (goMv rfl rfl (Zab.go (Zay rfl (List.length_map ..) Try.underlying25 rfl) (goMv rfl rfl (Zaf (Zau (ZaO (α := Nat × MF × (Nat → Hd)) (fun q => ⟨89, [(0, .d (grD g)), (6, (.d (natsD (noL g)))), (7, (.own 0 0 cnt)), (8, (.d (natD i))), (26, (.d (grD g))), (27, (.d (natD g.length))), (28, (.d (natD i))), (33, (.d (natsD (sucs g i)))), (34, (.d (natD (sucs g i).length))), (35, (.d (natD q.1)))], [(0, [.rowD 25 1 (rowH cnt q.2.2 (edT g of i q.1))]), (40, [.multi q.2.1])]⟩) (fun q => q.1 ≤ (sucs g i).length ∧ GRep q.2.1 cnt q.2.2 (edT g of i q.1)) (fun q => (sucs g i).length - q.1) ((0, M, hs)) (⟨Nat.zero_le _, hr⟩) (Zao hF [0, 40] rfl rfl ⟨rfl, rfl, rfl, rfl, rfl, rfl, rfl, rfl, rfl, rfl, trivial⟩) ?_))))))));rintro ⟨k, M, hs⟩ ⟨hk, hr⟩;dsimp only at hk hr ⊢;refine Zag (Zae ?_)
    first | refine Zab.go (ZaR rfl rfl rfl) ?_ | refine Zab.go (ZaM rfl rfl rfl) ?_
    refine Zaf (Zag ?_)
    first | refine ZaQ rfl (fun h36 => ?_) (fun h36 => ?_) | refine ZaF rfl (fun h36 => ?_) (fun h36 => ?_)
    · refine Zax (Zag (Zau (Zag ?_)));have hkl : k < (sucs g i).length := ZaW h36;have hgn := getn hkl;have hsl := hg.gb.len hil;have hjl : nth (sucs g i) k < g.length := hg.gb.suc hil (Zbq hkl);have hst0 := edT_step (of := of) hkl;have hsk0 := edT_skip (of := of) hkl
      obtain ⟨j, hje⟩ : ∃ j, nth (sucs g i) k = j := ⟨_, rfl⟩
      rw [hje] at hgn hjl hst0 hsk0;have hln := edT_len g of i k (of i);have hlt9 := Nat.le_trans (totG_mono g (Nat.le_of_lt hil)) hg.tot;have hlt2 : ((sucs g i).take k).length ≤ 1048576 := by rw [List.length_take]; omega
      refine Zae ?_
      first | refine Zab.go (Zam (k) rfl rfl (rfl) (hgn) Try.underlying25 rfl sz3 rfl) ?_ | refine Zab.go (Zal (k) rfl rfl (rfl) (hgn) rfl Try.underlying25 sz3 rfl) ?_
      first | refine Zab.go (Zai rfl rfl on3 rfl) ?_ | refine Zab.go (Zak rfl rfl rfl on3 rfl) ?_ | refine Zab.go (Zaj rfl rfl (rfl) rfl on3 rfl) ?_
      refine goAs rfl rfl (Zaf (Zag (Za7 [[], [], [0, 1], [0, 1, 2], [], [], [4, 5], [4, 5, 6], [0, 1, 2, 3, 4, 5, 6, 7]] mixed rfl (dws ?_))))
      first | refine Zad [6] [] rfl rfl (fun _ => Zaa (Zah rfl rfl)) ?_ | refine Zac [6] rfl rfl (fun _ => Zaa (Zah rfl rfl)) ?_
      first | refine Zad [8] [] rfl rfl (fun _ => Zaa (Zah rfl rfl)) ?_ | refine Zac [8] rfl rfl (fun _ => Zaa (Zah rfl rfl)) ?_
      first | refine Zad [39, 40] [] rfl rfl (fun _ => Zaa (Zam (i) rfl rfl (rfl) (hgo i hil) Try.underlying25 rfl sz3 rfl)) ?_ | refine Zac [39, 40] rfl rfl (fun _ => Zaa (Zam (i) rfl rfl (rfl) (hgo i hil) Try.underlying25 rfl sz3 rfl)) ?_ | refine Zad [39, 40] [] rfl rfl (fun _ => Zaa (Zal (i) rfl rfl (rfl) (hgo i hil) rfl Try.underlying25 sz3 rfl)) ?_ | refine Zac [39, 40] rfl rfl (fun _ => Zaa (Zal (i) rfl rfl (rfl) (hgo i hil) rfl Try.underlying25 sz3 rfl)) ?_
      first | refine Zad [41] [] rfl rfl (fun _ => Zaa (Zai rfl rfl on3 rfl)) ?_ | refine Zac [41] rfl rfl (fun _ => Zaa (Zai rfl rfl on3 rfl)) ?_ | refine Zad [41] [] rfl rfl (fun _ => Zaa (Zak rfl rfl rfl on3 rfl)) ?_ | refine Zac [41] rfl rfl (fun _ => Zaa (Zak rfl rfl rfl on3 rfl)) ?_ | refine Zad [41] [] rfl rfl (fun _ => Zaa (Zaj rfl rfl (rfl) rfl on3 rfl)) ?_ | refine Zac [41] rfl rfl (fun _ => Zaa (Zaj rfl rfl (rfl) rfl on3 rfl)) ?_
      first | refine Zad [6] [] rfl rfl (fun _ => Zaa (Zah rfl rfl)) ?_ | refine Zac [6] rfl rfl (fun _ => Zaa (Zah rfl rfl)) ?_
      first | refine Zad [11] [] rfl rfl (fun _ => Zaa (Zah rfl rfl)) ?_ | refine Zac [11] rfl rfl (fun _ => Zaa (Zah rfl rfl)) ?_
      first | refine Zad [43, 44] [] rfl rfl (fun _ => Zaa (Zam (j) rfl rfl (rfl) (hgo j hjl) Try.underlying25 rfl sz3 rfl)) ?_ | refine Zac [43, 44] rfl rfl (fun _ => Zaa (Zam (j) rfl rfl (rfl) (hgo j hjl) Try.underlying25 rfl sz3 rfl)) ?_ | refine Zad [43, 44] [] rfl rfl (fun _ => Zaa (Zal (j) rfl rfl (rfl) (hgo j hjl) rfl Try.underlying25 sz3 rfl)) ?_ | refine Zac [43, 44] rfl rfl (fun _ => Zaa (Zal (j) rfl rfl (rfl) (hgo j hjl) rfl Try.underlying25 sz3 rfl)) ?_
      first | refine Zad [45] [] rfl rfl (fun _ => Zaa (Zai rfl rfl on3 rfl)) ?_ | refine Zac [45] rfl rfl (fun _ => Zaa (Zai rfl rfl on3 rfl)) ?_ | refine Zad [45] [] rfl rfl (fun _ => Zaa (Zak rfl rfl rfl on3 rfl)) ?_ | refine Zac [45] rfl rfl (fun _ => Zaa (Zak rfl rfl rfl on3 rfl)) ?_ | refine Zad [45] [] rfl rfl (fun _ => Zaa (Zaj rfl rfl (rfl) rfl on3 rfl)) ?_ | refine Zac [45] rfl rfl (fun _ => Zaa (Zaj rfl rfl (rfl) rfl on3 rfl)) ?_
      refine dwc 8 rfl rfl rfl (dw1 9 rfl rfl ?_)
      first | refine Zab.go (ZbU rfl rfl rfl) ?_ | refine Zab.go (ZbA rfl rfl rfl) ?_ | refine Zab.go (ZbG rfl rfl rfl) ?_ | refine Zab.go (ZbN Try.underlying3 rfl rfl rfl) ?_ | refine Zab.go (ZbL Try.underlying3 rfl rfl rfl) ?_ | refine Zab.go (st_neqN Try.underlying3 rfl rfl) ?_ | refine Zab.go (ZbM Try.underlying3 rfl rfl rfl) ?_ | refine Zab.go (st_neqFN Try.underlying3 rfl rfl) ?_
      refine Zaf ⟨rfl, ?_⟩;refine dwe ?_
      first | refine ZaQ rfl (fun h47 => ?_) (fun h47 => ?_) | refine ZaF rfl (fun h47 => ?_) (fun h47 => ?_)
      · have hst := hst0 (fun e => h47 (congrArg Int.ofNat e));refine Za7 [[], [], [], [1, 2], [1, 2, 3], [], [], [], [6, 7], [6, 7, 8], [5, 6, 7, 8, 9], [5, 6, 7, 8, 9, 10], [], [], [12, 13], [12, 13, 14], [12, 13, 14, 15], [5, 6, 7, 8, 9, 10, 11, 12, 13, 14, 15, 16], [0, 1, 2, 3, 4, 5, 6, 7, 8, 9, 10, 11, 12, 13, 14, 15, 16, 17], [0, 1, 2, 3, 4, 5, 6, 7, 8, 9, 10, 11, 12, 13, 14, 15, 16, 17, 18]] mixed rfl (dws ?_)
        first | refine Zad [7] [] rfl rfl (fun _ => Zaa (Zah rfl rfl)) ?_ | refine Zac [7] rfl rfl (fun _ => Zaa (Zah rfl rfl)) ?_
        first | refine Zad [6] [] rfl rfl (fun _ => Zaa (Zah rfl rfl)) ?_ | refine Zac [6] rfl rfl (fun _ => Zaa (Zah rfl rfl)) ?_
        first | refine Zad [8] [] rfl rfl (fun _ => Zaa (Zah rfl rfl)) ?_ | refine Zac [8] rfl rfl (fun _ => Zaa (Zah rfl rfl)) ?_
        first | refine Zad [49, 50] [] rfl rfl (fun _ => Zaa (Zam (i) rfl rfl (rfl) (hgo i hil) Try.underlying25 rfl sz3 rfl)) ?_ | refine Zac [49, 50] rfl rfl (fun _ => Zaa (Zam (i) rfl rfl (rfl) (hgo i hil) Try.underlying25 rfl sz3 rfl)) ?_ | refine Zad [49, 50] [] rfl rfl (fun _ => Zaa (Zal (i) rfl rfl (rfl) (hgo i hil) rfl Try.underlying25 sz3 rfl)) ?_ | refine Zac [49, 50] rfl rfl (fun _ => Zaa (Zal (i) rfl rfl (rfl) (hgo i hil) rfl Try.underlying25 sz3 rfl)) ?_
        first | refine Zad [51] [] rfl rfl (fun _ => Zaa (Zai rfl rfl on3 rfl)) ?_ | refine Zac [51] rfl rfl (fun _ => Zaa (Zai rfl rfl on3 rfl)) ?_ | refine Zad [51] [] rfl rfl (fun _ => Zaa (Zak rfl rfl rfl on3 rfl)) ?_ | refine Zac [51] rfl rfl (fun _ => Zaa (Zak rfl rfl rfl on3 rfl)) ?_ | refine Zad [51] [] rfl rfl (fun _ => Zaa (Zaj rfl rfl (rfl) rfl on3 rfl)) ?_ | refine Zac [51] rfl rfl (fun _ => Zaa (Zaj rfl rfl (rfl) rfl on3 rfl)) ?_
        first | refine Zad [7] [] rfl rfl (fun _ => Zaa (Zah rfl rfl)) ?_ | refine Zac [7] rfl rfl (fun _ => Zaa (Zah rfl rfl)) ?_
        first | refine Zad [6] [] rfl rfl (fun _ => Zaa (Zah rfl rfl)) ?_ | refine Zac [6] rfl rfl (fun _ => Zaa (Zah rfl rfl)) ?_
        first | refine Zad [8] [] rfl rfl (fun _ => Zaa (Zah rfl rfl)) ?_ | refine Zac [8] rfl rfl (fun _ => Zaa (Zah rfl rfl)) ?_
        first | refine Zad [54, 55] [] rfl rfl (fun _ => Zaa (Zam (i) rfl rfl (rfl) (hgo i hil) Try.underlying25 rfl sz3 rfl)) ?_ | refine Zac [54, 55] rfl rfl (fun _ => Zaa (Zam (i) rfl rfl (rfl) (hgo i hil) Try.underlying25 rfl sz3 rfl)) ?_ | refine Zad [54, 55] [] rfl rfl (fun _ => Zaa (Zal (i) rfl rfl (rfl) (hgo i hil) rfl Try.underlying25 sz3 rfl)) ?_ | refine Zac [54, 55] rfl rfl (fun _ => Zaa (Zal (i) rfl rfl (rfl) (hgo i hil) rfl Try.underlying25 sz3 rfl)) ?_
        first | refine Zad [56] [] rfl rfl (fun _ => Zaa (Zai rfl rfl on3 rfl)) ?_ | refine Zac [56] rfl rfl (fun _ => Zaa (Zai rfl rfl on3 rfl)) ?_ | refine Zad [56] [] rfl rfl (fun _ => Zaa (Zak rfl rfl rfl on3 rfl)) ?_ | refine Zac [56] rfl rfl (fun _ => Zaa (Zak rfl rfl rfl on3 rfl)) ?_ | refine Zad [56] [] rfl rfl (fun _ => Zaa (Zaj rfl rfl (rfl) rfl on3 rfl)) ?_ | refine Zac [56] rfl rfl (fun _ => Zaa (Zaj rfl rfl (rfl) rfl on3 rfl)) ?_
        first | refine Zad [53, 57] [0] rfl rfl (fun _ => Zaa (Zam (of i) rfl rfl (rfl) (hoi) Try.underlying32 rfl sz25 rfl)) ?_ | refine Zad [53, 57] [0] rfl rfl (fun _ => Zaa (Zal (of i) rfl rfl (rfl) (hoi) rfl Try.underlying32 sz25 rfl)) ?_
        first | refine Zad [58] [0] rfl rfl (fun _ => Zaa (Zai rfl rfl on25 rfl)) ?_ | refine Zad [58] [0] rfl rfl (fun _ => Zaa (Zak rfl rfl rfl on25 rfl)) ?_ | refine Zad [58] [0] rfl rfl (fun _ => Zaa (Zaj rfl rfl (Zb8 hoi) rfl on25 rfl)) ?_
        first | refine Zad [6] [] rfl rfl (fun _ => Zaa (Zah rfl rfl)) ?_ | refine Zac [6] rfl rfl (fun _ => Zaa (Zah rfl rfl)) ?_
        first | refine Zad [11] [] rfl rfl (fun _ => Zaa (Zah rfl rfl)) ?_ | refine Zac [11] rfl rfl (fun _ => Zaa (Zah rfl rfl)) ?_
        first | refine Zad [60, 61] [] rfl rfl (fun _ => Zaa (Zam (j) rfl rfl (rfl) (hgo j hjl) Try.underlying25 rfl sz3 rfl)) ?_ | refine Zac [60, 61] rfl rfl (fun _ => Zaa (Zam (j) rfl rfl (rfl) (hgo j hjl) Try.underlying25 rfl sz3 rfl)) ?_ | refine Zad [60, 61] [] rfl rfl (fun _ => Zaa (Zal (j) rfl rfl (rfl) (hgo j hjl) rfl Try.underlying25 sz3 rfl)) ?_ | refine Zac [60, 61] rfl rfl (fun _ => Zaa (Zal (j) rfl rfl (rfl) (hgo j hjl) rfl Try.underlying25 sz3 rfl)) ?_
        first | refine Zad [62] [] rfl rfl (fun _ => Zaa (Zai rfl rfl on3 rfl)) ?_ | refine Zac [62] rfl rfl (fun _ => Zaa (Zai rfl rfl on3 rfl)) ?_ | refine Zad [62] [] rfl rfl (fun _ => Zaa (Zak rfl rfl rfl on3 rfl)) ?_ | refine Zac [62] rfl rfl (fun _ => Zaa (Zak rfl rfl rfl on3 rfl)) ?_ | refine Zad [62] [] rfl rfl (fun _ => Zaa (Zaj rfl rfl (rfl) rfl on3 rfl)) ?_ | refine Zac [62] rfl rfl (fun _ => Zaa (Zaj rfl rfl (rfl) rfl on3 rfl)) ?_
        refine d_eff [63] [21] [(64, _)] rfl rfl (fun _ => ZbI (ZaK 21 sl25 rfl rfl rfl rfl rfl rfl rfl rfl)) (.inr ⟨64, _, rfl, rfl, rfl, rfl, rfl⟩) rfl rfl rfl rfl rfl (d_eff [59, 64] [60, 40, 21] [(65, _)] rfl rfl (fun _ => ZbI (st_appH 59 60 40 (hr.at_ (of i) hoi) rfl rfl (by rw [List.length_map]) rfl rfl rfl rfl rfl (ZbQ (emb := natD) (edT g of i k (of i)) [of j] rfl rfl rfl rfl rfl rfl rfl rfl sl25 (by show ((edT g of i k (of i)).length + 1) * 8 ≤ _; omega) rfl rfl rfl rfl))) (.inr ⟨65, _, rfl, rfl, rfl, rfl, rfl⟩) rfl rfl rfl rfl rfl (dwc 18 rfl rfl rfl (dw1 19 rfl rfl (Zb4 65 60 40 hF rfl rfl rfl (by rw [List.length_map]) (by simp) rfl rfl rfl rfl rfl rfl rfl (fun _ _ => rfl) fun b c hb hc => ?_))))
        first | refine Zab.go (Zam (of i) rfl rfl (rfl) (hoi) Try.underlying32 rfl sz25 rfl) ?_ | refine Zab.go (Zal (of i) rfl rfl (rfl) (hoi) rfl Try.underlying32 sz25 rfl) ?_
        refine Zaf ⟨rfl, ?_⟩;refine dw1 20 rfl rfl (Zap.go (ZaZ rfl rfl rfl rfl rfl (by rw [Zbe]; exact hoi) (Zb7 (h := some (b, c))) rfl sz25) (Zaf ⟨rfl, ?_⟩));refine dwe (Zae (Zab.go (ZaG rfl rfl (IntWalk.i64_in _ (by omega)) rfl) (goMv rfl rfl (Zaf ?_))));exact ⟨(k + 1, Zbn (mdelH M (hs (of i))) b (.row 3 1 c ((edT g of i k (of i) ++ [of j]).map natD)), updF hs (of i) (some (b, c))), ⟨hkl, by have := hr.app hoi hb hc; rw [hst] at this; exact this⟩, by show (sucs g i).length - (k + 1) < (sucs g i).length - k; omega, Zao hF [0, 40] rfl (by rw [hst]; rfl) ⟨rfl, rfl, rfl, rfl, rfl, rfl, rfl, rfl, rfl, rfl, trivial⟩⟩
      · have hsk := hsk0 (fun h => h47 (fun e => h (Int.ofNat.inj e)));refine Zax (Zae (Zab.go (ZaG rfl rfl (IntWalk.i64_in _ (by omega)) rfl) (goMv rfl rfl (Zaf ?_))));exact ⟨(k + 1, M, hs), ⟨hkl, by rw [← hsk]; exact hr⟩, by show (sucs g i).length - (k + 1) < (sucs g i).length - k; omega, Zao hF [0, 40] rfl (by rw [← hsk]; rfl) ⟨rfl, rfl, rfl, rfl, rfl, rfl, rfl, rfl, rfl, rfl, trivial⟩⟩
    · refine ZaI ?_;have hke : k = (sucs g i).length := by have := h36; omega
      subst hke;refine Zae (Zab.go (ZaG rfl rfl (IntWalk.i64_in _ (by omega)) rfl) (goMv rfl rfl (Zaf ?_)));exact ⟨(i + 1, M, hs), ⟨hil, by rw [← edT_row]; exact hr⟩, by show g.length - (i + 1) < g.length - i; omega, Zao hF [0, 40] rfl (by rw [edT_row]; rfl) ⟨rfl, rfl, rfl, rfl, rfl, rfl, trivial⟩⟩
  · refine ZaI (Zag (Zag ?_));have hin : i = g.length := by have := h29; omega
    subst hin;rw [← hofe, ← cdC_zero] at hr ⊢;refine Zae (goMv rfl rfl ?_)
    first | refine Zab.go (ZaU rfl Try.underlying32 rfl) ?_ | refine Zab.go (Zay rfl rfl Try.underlying32 rfl) ?_ | refine Zab.go (Za8 rfl Try.underlying32 rfl) ?_ | refine Zab.go (Za0 rfl Try.underlying32 rfl) ?_ | refine Zab.go (Za9 rfl Try.underlying32 rfl) ?_ | refine Zab.go (Za6 rfl Try.underlying32 rfl) ?_
    refine goMv rfl rfl (Zaf (Zau (ZaO (α := Nat × MF × (Nat → Hd)) (fun q => ⟨89, [(7, (.own 0 0 cnt)), (69, (.own 0 0 cnt)), (70, (.d (natD cnt))), (71, (.d (natD q.1)))], [(0, [.rowD 25 1 (rowH cnt q.2.2 (cdC g q.1))]), (40, [.multi q.2.1])]⟩) (fun q => q.1 ≤ cnt ∧ GRep q.2.1 cnt q.2.2 (cdC g q.1)) (fun q => cnt - q.1) ((0, M, hs)) (⟨Nat.zero_le _, hr⟩) (Zao hF [0, 40] rfl rfl ⟨rfl, rfl, rfl, rfl, trivial⟩) ?_)));rintro ⟨i, M, hs⟩ ⟨hi, hr⟩;dsimp only at hi hr ⊢;refine Zag (Zae ?_)
    first | refine Zab.go (ZaR rfl rfl rfl) ?_ | refine Zab.go (ZaM rfl rfl rfl) ?_
    refine Zaf (Zag ?_)
    first | refine ZaQ rfl (fun h72 => ?_) (fun h72 => ?_) | refine ZaF rfl (fun h72 => ?_) (fun h72 => ?_)
    · refine Zax (Zag (Zau (Zag ?_)));have hic : i < cnt := ZaW h72;have hat := hr.at_ i hic;have hcl2 := cdE_len hg i;rw [cdC_at] at hat;have hget := Zb8 (hs := hs) (ls := cdC g i) hic;rw [cdC_at] at hget;refine Zae (goMv rfl rfl (goAs rfl rfl (Zaf (Zag (Zae (goMv rfl rfl (goMv rfl rfl ?_)))))))
      first | refine Zab.go (Zam (i) rfl rfl (rfl) (hic) Try.underlying32 rfl sz25 rfl) ?_ | refine Zab.go (Zal (i) rfl rfl (rfl) (hic) rfl Try.underlying32 sz25 rfl) ?_
      first | refine Zab.go (Zai rfl rfl on25 rfl) ?_ | refine Zab.go (Zak rfl rfl rfl on25 rfl) ?_ | refine Zab.go (Zaj rfl rfl (hget) rfl on25 rfl) ?_
      rcases hd_two (hs i) with hh | ⟨b, c, hh⟩ <;> rw [hh] at hat hget ⊢
      · refine Zap.go (st_sortI0 laysS rfl rfl rfl) (Zaf (Zae ?_));have h0 : cdE g i = [] := List.map_eq_nil_iff.1 hat;have hcst : cdC g i = cdC g (i + 1) := by rw [← cdC_step, h0, cptS_nil]; exact (updF_id (by rw [cdC_at, h0])).symm
        refine goMv rfl rfl (goMv rfl rfl (goMv rfl rfl (goMv rfl rfl ?_)))
        first | refine Zab.go (Zam (i) rfl rfl (rfl) (hic) Try.underlying32 rfl sz25 rfl) ?_ | refine Zab.go (Zal (i) rfl rfl (rfl) (hic) rfl Try.underlying32 sz25 rfl) ?_
        first | refine Zab.go (Zai rfl rfl on25 rfl) ?_ | refine Zab.go (Zak rfl rfl rfl on25 rfl) ?_ | refine Zab.go (Zaj rfl rfl (hget) rfl on25 rfl) ?_
        refine Zap.go (ZbJ compact_0 rfl [] trivial rfl rfl rfl rfl rfl rfl rfl rfl rfl) ?_
        first | refine Zab.go (Zam (i) rfl rfl (rfl) (hic) Try.underlying32 rfl sz25 rfl) ?_ | refine Zab.go (Zal (i) rfl rfl (rfl) (hic) rfl Try.underlying32 sz25 rfl) ?_
        refine Zap.go (ZaZ rfl rfl rfl rfl rfl (by rw [Zbe]; exact hic) (Zb7 (h := none) (l := [])) rfl sz25) (Zaf (Zae (Zab.go (ZaG rfl rfl (IntWalk.i64_in _ (by omega)) rfl) (goMv rfl rfl (Zaf ?_)))));exact ⟨(i + 1, M, hs), ⟨hic, by rw [← hcst]; exact hr⟩, by show cnt - (i + 1) < cnt - i; omega, Zao hF [0, 40] rfl (by rw [updF_id hh, updF_id (show cdC g i i = [] by rw [cdC_at, h0]), hcst]; rfl) ⟨rfl, rfl, rfl, rfl, trivial⟩⟩
      · refine Zap.go (st_sortIN (f := 40) laysS ((cdE g i).map Int.ofNat) (by rw [List.length_map]; omega) rfl rfl rfl hat.2 (ofN_map _) (by rw [List.length_map]) rfl rfl) (Zaf (Zae ?_));have hrc : (cdE g i).length ≤ c := by have := hat.1; rwa [List.length_map] at this
        have hcp := compact2_c hrc hcl2 M b;rw [sortN_map];refine goMv rfl rfl (goMv rfl rfl (goMv rfl rfl (goMv rfl rfl ?_)))
        first | refine Zab.go (Zam (i) rfl rfl (rfl) (hic) Try.underlying32 rfl sz25 rfl) ?_ | refine Zab.go (Zal (i) rfl rfl (rfl) (hic) rfl Try.underlying32 sz25 rfl) ?_
        first | refine Zab.go (Zai rfl rfl on25 rfl) ?_ | refine Zab.go (Zak rfl rfl rfl on25 rfl) ?_ | refine Zab.go (Zaj rfl rfl (hget) rfl on25 rfl) ?_
        refine Zap.go (ZbJ hcp rfl [40] ⟨rfl, trivial⟩ rfl rfl rfl rfl rfl rfl rfl rfl rfl) ?_
        first | refine Zab.go (Zam (i) rfl rfl (rfl) (hic) Try.underlying32 rfl sz25 rfl) ?_ | refine Zab.go (Zal (i) rfl rfl (rfl) (hic) rfl Try.underlying32 sz25 rfl) ?_
        refine Zap.go (ZaZ rfl rfl rfl rfl rfl (by rw [Zbe]; exact hic) (Zb7 (h := some (b, c))) rfl sz25) (Zaf (Zae (Zab.go (ZaG rfl rfl (IntWalk.i64_in _ (by omega)) rfl) (goMv rfl rfl (Zaf ?_)))));exact ⟨(i + 1, Zbn M b (.row 3 1 c ((cptS (cdE g i)).map natD)), hs), ⟨hic, by have := hr.put hic hh (Nat.le_trans (cptS_le _) hrc); rw [cdC_step] at this; exact this⟩, by show cnt - (i + 1) < cnt - i; omega, Zao hF [0, 40] rfl (by rw [updF_id hh, cdC_step, mput2]; rfl) ⟨rfl, rfl, rfl, rfl, trivial⟩⟩
    · refine ZaI (Zag ?_);have hin : i = cnt := by have := h72; omega
      subst hin;have hce : grF i (cdC g i) = cdG g := by rw [← hcnt]; exact cdC_end g
      refine a_melt 0 0 40 ((cdG g).map natsD) rfl rfl rfl rfl rfl (by rw [List.length_map, ← hce, Zbl, Zbe]) (hce ▸ hr.melt) ⟨Zb1 _ _ _, one_gr _⟩ rfl (Zbj (emb := natsD) 7 0 (cdG g) rfl rfl rfl (by rw [← hce, Zbl]) rfl rfl rfl (Zae (goMv rfl rfl (goAs rfl rfl (goAs rfl rfl (Zaf (Za5 ?_)))))));exact ⟨_, [], [], ZaT rfl, rfl, rfl, rfl, rfl⟩
end Go.Proofs.Ytgdppeobgefogaa
/- Layer 31: the reference's Reach. -/
namespace Go.Proofs.Ytgdppeobgefogaa
open Go.RowKit
def RchS (g : List (List Nat)) (fr : List Nat) (v : Nat) : Prop := ∃ f ∈ fr, Rh (sucs g) f v
noncomputable instance (g : List (List Nat)) (fr : List Nat) (v : Nat) : Decidable (RchS g fr v) := Classical.propDecidable _
def cntB (n : Nat) (o : List Nat) : Nat := ((List.range n).filter fun v => decide (v ∉ o)).length
theorem cntB_lt {n x : Nat} {o : List Nat} (hx : x < n) (hn : x ∉ o) : cntB n (o ++ [x]) < cntB n o := by
  have h := ZbW (l := x :: (List.range n).filter fun v => decide (v ∉ o ++ [x])) (m := (List.range n).filter fun v => decide (v ∉ o)) (List.nodup_cons.2 ⟨fun hm => by
    have := of_decide_eq_true (List.mem_filter.1 hm).2
    exact this (List.mem_append_right _ (List.mem_singleton.2 rfl)), List.nodup_range.filter _⟩) fun y hy => by
    rcases List.mem_cons.1 hy with rfl | hy
    · exact List.mem_filter.2 ⟨List.mem_range.2 hx, decide_eq_true hn⟩
    · obtain ⟨h1, h2⟩ := List.mem_filter.1 hy;exact List.mem_filter.2 ⟨h1, decide_eq_true fun h3 => of_decide_eq_true h2 (List.mem_append_left _ h3)⟩
  rw [List.length_cons] at h;exact h
structure RchV (g : List (List Nat)) (fr o : List Nat) : Prop where
  a : ∀ v ∈ o, v < g.length ∧ RchS g fr v
  b : ∀ f ∈ fr, f ∈ o
structure RchW (g : List (List Nat)) (fr o0 : List Nat) (i k : Nat) (m : Bool) (o : List Nat) : Prop where
  rv : RchV g fr o
  t : m = true → cntB g.length o < cntB g.length o0
  f : m = false → o = o0 ∧ (∀ u, u < i → u ∈ o → ∀ y ∈ sucs g u, y ∈ o) ∧ (i ∈ o → ∀ y ∈ (sucs g i).take k, y ∈ o)
  le : cntB g.length o ≤ cntB g.length o0
theorem rw_start {g : List (List Nat)} {fr o : List Nat} (h : RchV g fr o) : RchW g fr o 0 0 false o := ⟨h, fun e => (by cases e), fun _ => ⟨rfl, fun u hu => by omega, fun _ y hy => by simp at hy⟩, Nat.le_refl _⟩
theorem rw_new {g : List (List Nat)} (hg : GB g) {fr o0 o : List Nat} {i k y : Nat} {m : Bool} (h : RchW g fr o0 i k m o) (hi : i ∈ o) (hk : k < (sucs g i).length) (hy : nth (sucs g i) k = y) (hn : y ∉ o) : RchW g fr o0 i (k + 1) true (o ++ [y]) := by
  obtain ⟨hil, f, hf, hr⟩ := h.rv.a i hi;have hys : y ∈ sucs g i := hy ▸ Zbq hk;have hyl := hg.suc hil hys;have hlt := cntB_lt hyl hn;refine ⟨⟨fun v hv => ?_, fun f hf => List.mem_append_left _ (h.rv.b f hf)⟩, fun _ => by have := h.le; omega, fun e => (by cases e), by have := h.le; omega⟩;rcases List.mem_append.1 hv with hv | hv
  · exact h.rv.a v hv
  · rw [List.mem_singleton.1 hv]; exact ⟨hyl, f, hf, hr.step hys⟩
theorem rw_skip {g : List (List Nat)} {fr o0 o : List Nat} {i k y : Nat} {m : Bool} (h : RchW g fr o0 i k m o) (hk : k < (sucs g i).length) (hy : nth (sucs g i) k = y) (hn : ¬ (i ∈ o ∧ y ∉ o)) : RchW g fr o0 i (k + 1) m o := by
  refine ⟨h.rv, h.t, fun e => ?_, h.le⟩;obtain ⟨h1, h2, h3⟩ := h.f e;refine ⟨h1, h2, fun hi x hx => ?_⟩;rw [List.take_succ_eq_append_getElem hk] at hx;rcases List.mem_append.1 hx with hx | hx
  · exact h3 hi x hx
  · rw [List.mem_singleton.1 hx, ← Zbk hk, hy];exact Classical.byContradiction fun h4 => hn ⟨hi, h4⟩
theorem rw_row {g : List (List Nat)} {fr o0 o : List Nat} {i : Nat} {m : Bool} (h : RchW g fr o0 i (sucs g i).length m o) : RchW g fr o0 (i + 1) 0 m o := by
  refine ⟨h.rv, h.t, fun e => ?_, h.le⟩;obtain ⟨h1, h2, h3⟩ := h.f e;refine ⟨h1, fun u hu huo => ?_, fun _ y hy => by simp at hy⟩
  by_cases e2 : u = i
  · subst e2; rw [List.take_length] at h3; exact h3 huo
  · exact h2 u (by omega) huo
def muB (n : Nat) (m : Bool) (o : List Nat) : Nat := 2 * cntB n o + if m = true then 1 else 0
theorem rw_meas {g : List (List Nat)} {fr o0 o : List Nat} {i k : Nat} {m : Bool} (h : RchW g fr o0 i k m o) : muB g.length m o < muB g.length true o0 := by
  unfold muB
  cases m with
  | true => have := h.t rfl; simp; omega
  | false => have := h.le; simp; omega
theorem rv_end {g : List (List Nat)} {fr o : List Nat} (h : RchV g fr o) (hc : ∀ u ∈ o, ∀ y ∈ sucs g u, y ∈ o) (v : Nat) : v ∈ o ↔ RchS g fr v :=
  ⟨fun hv => (h.a v hv).2, fun ⟨f, hf, hr⟩ => hr.clos (p := fun v => v ∈ o) hc (h.b f hf)⟩
set_option maxRecDepth 100000 in
theorem refreach_p (g : List (List Nat)) (hg : GB g) (fr : List Nat) (hfl : fr.length ≤ 1000000) (hf : ∀ f ∈ fr, f < g.length) : PCalls Try.prog 25 [.d (grD g), .d (natsD fr)] (.sl none (((List.range g.length).map fun v => decide (RchS g fr v)).map boolD)) := by
  have hn := hg.n;refine ZaY Try.func25 rfl rfl Try.ntmps25 rfl rfl rfl fun F hF => (Zag (Zae (goAs rfl rfl (Zaf ?_))));refine Zag (Zae (goMv rfl rfl (Zab.go (Zay rfl (List.length_map ..) Try.underlying22 rfl) (Zap.go (ZbH 0 sl48 rfl rfl rfl (by omega) zd4 rfl rfl rfl rfl) (goAs rfl rfl (Zaf (Zag (Zag ?_))))))));rw [repB];refine Zae (goAs rfl rfl (Zaf (Zau (ZaO (α := Nat) (fun k => ⟨68, [(0, .d (grD g)), (1, .d (natsD fr)), (5, (.own 0 0 g.length)), (6, (.d (natD k)))], [(0, [.rowD 4 1 (rowB g.length (fr.take k))])]⟩) (fun k => k ≤ fr.length) (fun k => fr.length - k) (0) (Nat.zero_le _) (Zao hF [0] rfl rfl ⟨rfl, rfl, rfl, rfl, trivial⟩) ?_))));intro k hk;refine Zag (Zag (Zae (goMv rfl rfl (goMv rfl rfl (Zab.go (Zay rfl (List.length_map ..) Try.underlying25 rfl) ?_)))))
  first | refine Zab.go (ZaR rfl rfl rfl) ?_ | refine Zab.go (ZaM rfl rfl rfl) ?_
  refine Zaf ?_
  first | refine ZaQ rfl (fun h16 => ?_) (fun h16 => ?_) | refine ZaF rfl (fun h16 => ?_) (fun h16 => ?_)
  · refine Zax (Zag (Zau ?_));have hkl : k < fr.length := ZaW h16;have hfk := hf _ (Zbq hkl);refine Zae (goMv rfl rfl (goMv rfl rfl (goMv rfl rfl ?_)))
    first | refine Zab.go (Zam (k) rfl rfl (rfl) (getn hkl) Try.underlying25 rfl sz3 rfl) ?_ | refine Zab.go (Zal (k) rfl rfl (rfl) (getn hkl) rfl Try.underlying25 sz3 rfl) ?_
    first | refine Zab.go (Zai rfl rfl on3 rfl) ?_ | refine Zab.go (Zak rfl rfl rfl on3 rfl) ?_ | refine Zab.go (Zaj rfl rfl (rfl) rfl on3 rfl) ?_
    first | refine Zab.go (Zam (nth fr k) rfl rfl (rfl) (hfk) Try.underlying48 rfl sz4 rfl) ?_ | refine Zab.go (Zal (nth fr k) rfl rfl (rfl) (hfk) rfl Try.underlying48 sz4 rfl) ?_
    refine Zap.go (ZaZ rfl rfl rfl rfl rfl (by rw [rowB_len]; exact hfk) rowB_set rfl sz4) (Zaf (Zae (goMv rfl rfl (Zab.go (ZaG rfl rfl (IntWalk.i64_in _ (by omega)) rfl) (goAs rfl rfl (Zaf ?_))))));exact ⟨k + 1, hkl, by omega, Zao hF [0] rfl (by rw [List.take_succ_eq_append_getElem hkl, ← Zbk hkl]; rfl) ⟨rfl, rfl, rfl, rfl, trivial⟩⟩
  · refine ZaI (Zag (Zag ?_));have hke : k = fr.length := by have := h16; omega
    rw [hke, List.take_length];refine Zae (goAs rfl rfl (Zaf (Zau (ZaO (α := Bool × List Nat) (fun q => ⟨68, [(0, .d (grD g)), (1, .d (natsD fr)), (5, (.own 0 0 g.length)), (7, (.d (boolD q.1)))], [(0, [.rowD 4 1 (rowB g.length q.2)])]⟩) (fun q => RchV g fr q.2 ∧ (q.1 = false → ∀ u ∈ q.2, ∀ y ∈ sucs g u, y ∈ q.2)) (fun q => muB g.length q.1 q.2) ((true, fr)) (⟨⟨fun v hv => ⟨hf v hv, v, hv, .refl v⟩, fun f hf => hf⟩, fun e => (by cases e)⟩) (Zao hF [0] rfl rfl ⟨rfl, rfl, rfl, rfl, trivial⟩) ?_))));rintro ⟨mm, o0⟩ ⟨hV, hcl⟩;dsimp only at hV hcl ⊢;refine Zag (Zag (Zae (goMv rfl rfl (Zaf ?_))))
    first | refine ZaQ rfl (fun h25 => ?_) (fun h25 => ?_) | refine ZaF rfl (fun h25 => ?_) (fun h25 => ?_)
    · refine Zax (Zau (Zag ?_));have hmm : mm = true := h25;refine Zae (goAs rfl rfl (Zaf (Zag (Zae (goAs rfl rfl (Zaf (Zau (ZaO (α := Nat × Bool × List Nat) (fun q => ⟨68, [(0, .d (grD g)), (1, .d (natsD fr)), (5, (.own 0 0 g.length)), (7, (.d (boolD q.2.1))), (8, (.d (natD q.1)))], [(0, [.rowD 4 1 (rowB g.length q.2.2)])]⟩) (fun q => q.1 ≤ g.length ∧ RchW g fr o0 q.1 0 q.2.1 q.2.2) (fun q => g.length - q.1) ((0, false, o0)) (⟨Nat.zero_le _, rw_start hV⟩) (Zao hF [0] rfl rfl ⟨rfl, rfl, rfl, rfl, rfl, trivial⟩) ?_))))))));rintro ⟨i, m, o⟩ ⟨hi, hW⟩;dsimp only at hi hW ⊢;refine Zag (Zag (Zae (goMv rfl rfl (goMv rfl rfl (Zab.go (Zay rfl (List.length_map ..) Try.underlying22 rfl) ?_)))))
      first | refine Zab.go (ZaR rfl rfl rfl) ?_ | refine Zab.go (ZaM rfl rfl rfl) ?_
      refine Zaf ?_
      first | refine ZaQ rfl (fun h29 => ?_) (fun h29 => ?_) | refine ZaF rfl (fun h29 => ?_) (fun h29 => ?_)
      · refine Zax (Zag (Zau (Zag ?_)));have hil : i < g.length := ZaW h29;have hsl := hg.len hil;refine Zae (goAs rfl rfl (Zaf (Zau (ZaO (α := Nat × Bool × List Nat) (fun q => ⟨68, [(0, .d (grD g)), (1, .d (natsD fr)), (5, (.own 0 0 g.length)), (7, (.d (boolD q.2.1))), (8, (.d (natD i))), (9, (.d (natD q.1)))], [(0, [.rowD 4 1 (rowB g.length q.2.2)])]⟩) (fun q => q.1 ≤ (sucs g i).length ∧ RchW g fr o0 i q.1 q.2.1 q.2.2) (fun q => (sucs g i).length - q.1) ((0, m, o)) (⟨Nat.zero_le _, hW⟩) (Zao hF [0] rfl rfl ⟨rfl, rfl, rfl, rfl, rfl, rfl, trivial⟩) ?_))));rintro ⟨k, m, o⟩ ⟨hk, hW⟩;dsimp only at hk hW ⊢;refine Zag (Zag (Zae (goMv rfl rfl (goMv rfl rfl (goMv rfl rfl ?_)))))
        first | refine Zab.go (Zam (i) rfl rfl (rfl) (getg hil) Try.underlying22 rfl sz25 rfl) ?_ | refine Zab.go (Zal (i) rfl rfl (rfl) (getg hil) rfl Try.underlying22 sz25 rfl) ?_
        first | refine Zab.go (Zai rfl rfl on25 rfl) ?_ | refine Zab.go (Zak rfl rfl rfl on25 rfl) ?_ | refine Zab.go (Zaj rfl rfl (rfl) rfl on25 rfl) ?_
        refine Zab.go (Zay rfl (List.length_map ..) Try.underlying25 rfl) ?_
        first | refine Zab.go (ZaR rfl rfl rfl) ?_ | refine Zab.go (ZaM rfl rfl rfl) ?_
        refine Zaf ?_
        first | refine ZaQ rfl (fun h38 => ?_) (fun h38 => ?_) | refine ZaF rfl (fun h38 => ?_) (fun h38 => ?_)
        · refine Zax (Zag (Zau (Zag ?_)));have hkl : k < (sucs g i).length := ZaW h38;have hgn := getn hkl;have hyl : nth (sucs g i) k < g.length := hg.suc hil (Zbq hkl)
          obtain ⟨y, hye⟩ : ∃ y, nth (sucs g i) k = y := ⟨_, rfl⟩
          rw [hye] at hgn hyl;refine Zae (goMv rfl rfl (goMv rfl rfl ?_))
          first | refine Zab.go (Zam (i) rfl rfl (rfl) (hil) Try.underlying48 rfl sz4 rfl) ?_ | refine Zab.go (Zal (i) rfl rfl (rfl) (hil) rfl Try.underlying48 sz4 rfl) ?_
          first | refine Zab.go (Zai rfl rfl on4 rfl) ?_ | refine Zab.go (Zak rfl rfl rfl on4 rfl) ?_ | refine Zab.go (Zaj rfl rfl (rowB_get hil) rfl on4 rfl) ?_
          refine goMv rfl rfl ?_
          first | refine Zbv 45 rfl (fun h45 => ?_) (fun h45 => ?_) | refine Zbo 45 rfl (fun h45 => ?_) (fun h45 => ?_)
          · refine ZaH rfl rfl rfl (goMv rfl rfl (ZaH rfl rfl rfl (goMv rfl rfl (ZaH rfl rfl rfl (goMv rfl rfl (ZaH rfl rfl rfl ?_))))))
            first | refine Zab.go (Zam (i) rfl rfl (rfl) (getg hil) Try.underlying22 rfl sz25 rfl) ?_ | refine Zab.go (Zal (i) rfl rfl (rfl) (getg hil) rfl Try.underlying22 sz25 rfl) ?_
            refine ZaH rfl rfl rfl ?_
            first | refine Zab.go (Zai rfl rfl on25 rfl) ?_ | refine Zab.go (Zak rfl rfl rfl on25 rfl) ?_ | refine Zab.go (Zaj rfl rfl (rfl) rfl on25 rfl) ?_
            refine ZaH rfl rfl rfl (goMv rfl rfl (ZaH rfl rfl rfl ?_))
            first | refine Zab.go (Zam (k) rfl rfl (rfl) (hgn) Try.underlying25 rfl sz3 rfl) ?_ | refine Zab.go (Zal (k) rfl rfl (rfl) (hgn) rfl Try.underlying25 sz3 rfl) ?_
            refine ZaH rfl rfl rfl ?_
            first | refine Zab.go (Zai rfl rfl on3 rfl) ?_ | refine Zab.go (Zak rfl rfl rfl on3 rfl) ?_ | refine Zab.go (Zaj rfl rfl (rfl) rfl on3 rfl) ?_
            refine ZaH rfl rfl rfl ?_
            first | refine Zab.go (Zam (y) rfl rfl (rfl) (hyl) Try.underlying48 rfl sz4 rfl) ?_ | refine Zab.go (Zal (y) rfl rfl (rfl) (hyl) rfl Try.underlying48 sz4 rfl) ?_
            refine ZaH rfl rfl rfl ?_
            first | refine Zab.go (Zai rfl rfl on4 rfl) ?_ | refine Zab.go (Zak rfl rfl rfl on4 rfl) ?_ | refine Zab.go (Zaj rfl rfl (rowB_get hyl) rfl on4 rfl) ?_
            refine ZaH rfl rfl rfl ?_
            first | refine Zab.go (ZbX rfl rfl) ?_ | refine Zab.go (st_not rfl rfl) ?_
            refine Zab.go (Za4 rfl rfl rfl rfl) (Zaf ?_)
            first | refine ZaQ rfl (fun h57 => ?_) (fun h57 => ?_) | refine ZaF rfl (fun h57 => ?_) (fun h57 => ?_)
            · refine Zag (Zae (goMv rfl rfl (goMv rfl rfl (goMv rfl rfl ?_))))
              first | refine Zab.go (Zam (i) rfl rfl (rfl) (getg hil) Try.underlying22 rfl sz25 rfl) ?_ | refine Zab.go (Zal (i) rfl rfl (rfl) (getg hil) rfl Try.underlying22 sz25 rfl) ?_
              first | refine Zab.go (Zai rfl rfl on25 rfl) ?_ | refine Zab.go (Zak rfl rfl rfl on25 rfl) ?_ | refine Zab.go (Zaj rfl rfl (rfl) rfl on25 rfl) ?_
              refine goMv rfl rfl ?_
              first | refine Zab.go (Zam (k) rfl rfl (rfl) (hgn) Try.underlying25 rfl sz3 rfl) ?_ | refine Zab.go (Zal (k) rfl rfl (rfl) (hgn) rfl Try.underlying25 sz3 rfl) ?_
              first | refine Zab.go (Zai rfl rfl on3 rfl) ?_ | refine Zab.go (Zak rfl rfl rfl on3 rfl) ?_ | refine Zab.go (Zaj rfl rfl (rfl) rfl on3 rfl) ?_
              first | refine Zab.go (Zam (y) rfl rfl (rfl) (hyl) Try.underlying48 rfl sz4 rfl) ?_ | refine Zab.go (Zal (y) rfl rfl (rfl) (hyl) rfl Try.underlying48 sz4 rfl) ?_
              refine Zap.go (ZaZ rfl rfl rfl rfl rfl (by rw [rowB_len]; exact hyl) rowB_set rfl sz4) ?_;refine Zaf (Zae (goAs rfl rfl (Zaf (Zae (goMv rfl rfl (Zab.go (ZaG rfl rfl (IntWalk.i64_in _ (by omega)) rfl) (goAs rfl rfl (Zaf ?_))))))));exact ⟨(k + 1, true, o ++ [y]), ⟨hkl, rw_new hg hW h45 hkl hye h57⟩, by show (sucs g i).length - (k + 1) < (sucs g i).length - k; omega, Zao hF [0] rfl (rfl) ⟨rfl, rfl, rfl, rfl, rfl, rfl, trivial⟩⟩
            · refine Zax (Zae (goMv rfl rfl (Zab.go (ZaG rfl rfl (IntWalk.i64_in _ (by omega)) rfl) (goAs rfl rfl (Zaf ?_)))));exact ⟨(k + 1, m, o), ⟨hkl, rw_skip hW hkl hye (fun h => h57 h.2)⟩, by show (sucs g i).length - (k + 1) < (sucs g i).length - k; omega, Zao hF [0] rfl (rfl) ⟨rfl, rfl, rfl, rfl, rfl, rfl, trivial⟩⟩
          · refine ZaC rfl rfl rfl rfl (ZaC rfl rfl rfl rfl ?_);refine ZaC rfl rfl rfl rfl (ZaC rfl rfl rfl rfl (ZaC rfl rfl rfl rfl (ZaC rfl rfl rfl rfl (ZaC rfl rfl rfl rfl (ZaC rfl rfl rfl rfl (ZaC rfl rfl rfl rfl (ZaC rfl rfl rfl rfl (ZaC rfl rfl rfl rfl ?_))))))));refine Zab.go (Zbb rfl rfl rfl rfl) (Zaf (Zbm rfl rfl (Zax (Zae (goMv rfl rfl (Zab.go (ZaG rfl rfl (IntWalk.i64_in _ (by omega)) rfl) (goAs rfl rfl (Zaf ?_))))))));exact ⟨(k + 1, m, o), ⟨hkl, rw_skip hW hkl hye (fun h => h45 h.1)⟩, by show (sucs g i).length - (k + 1) < (sucs g i).length - k; omega, Zao hF [0] rfl (rfl) ⟨rfl, rfl, rfl, rfl, rfl, rfl, trivial⟩⟩
        · refine ZaI ?_;have hke2 : k = (sucs g i).length := by have := h38; omega
          subst hke2;refine Zae (goMv rfl rfl (Zab.go (ZaG rfl rfl (IntWalk.i64_in _ (by omega)) rfl) (goAs rfl rfl (Zaf ?_))));exact ⟨(i + 1, m, o), ⟨hil, rw_row hW⟩, by show g.length - (i + 1) < g.length - i; omega, Zao hF [0] rfl (rfl) ⟨rfl, rfl, rfl, rfl, rfl, trivial⟩⟩
      · refine ZaI ?_;exact ⟨(m, o), ⟨hW.rv, fun e u hu => (hW.f e).2.1 u (by have := (hW.rv.a u hu).1; omega) hu⟩, by rw [hmm]; exact rw_meas hW, Zao hF [0] rfl (rfl) ⟨rfl, rfl, rfl, rfl, trivial⟩⟩
    · refine ZaI (Zag ?_);have hrb : rowB g.length o0 = ((List.range g.length).map fun v => decide (RchS g fr v)).map boolD := by rw [List.map_map]; exact List.map_congr_left fun v _ => congrArg boolD (decide_eq_decide.2 (rv_end hV (hcl h25) v))
      rw [hrb];refine Zbj (emb := boolD) 5 0 ((List.range g.length).map fun v => decide (RchS g fr v)) rfl rfl rfl (by simp) rfl rfl rfl (Zae (goMv rfl rfl (goAs rfl rfl (Zaf (Za5 ?_)))));exact ⟨_, [], [], ZaT rfl, rfl, rfl, rfl, rfl⟩
end Go.Proofs.Ytgdppeobgefogaa
/- Layer 31: the reference's table and Components. -/
namespace Go.Proofs.Ytgdppeobgefogaa
open Go.RowKit
abbrev boolsD (l : List Bool) : D := .sl none (l.map boolD)
noncomputable def rowR (g : List (List Nat)) (i : Nat) : List Bool := (List.range g.length).map fun v => decide (RchS g [i] v)
noncomputable def tabR (g : List (List Nat)) (k : Nat) : List (List Bool) := (List.range k).map (rowR g)
noncomputable abbrev tabD (g : List (List Nat)) : D := .sl none ((tabR g g.length).map boolsD)
theorem rch_one {g : List (List Nat)} {i v : Nat} : RchS g [i] v ↔ Rh (sucs g) i v := ⟨fun ⟨f, hf, h⟩ => by rw [List.mem_singleton.1 hf] at h; exact h, fun h => ⟨i, List.mem_singleton.2 rfl, h⟩⟩
theorem getT {g : List (List Nat)} {n k : Nat} (hk : k < n) : ((tabR g n).map boolsD)[k]? = some (boolsD (rowR g k)) := by simp [tabR, hk]
theorem getRw {g : List (List Nat)} {i v : Nat} (hv : v < g.length) : ((rowR g i).map boolD)[v]? = some (boolD (decide (RchS g [i] v))) := by simp [rowR, hv]
theorem tabR_succ (g : List (List Nat)) (k : Nat) : tabR g (k + 1) = tabR g k ++ [rowR g k] := by unfold tabR; rw [List.range_succ, List.map_append]; rfl
theorem tabR_len (g : List (List Nat)) (k : Nat) : (tabR g k).length = k := by simp [tabR]
set_option maxRecDepth 100000 in
theorem table_p (g : List (List Nat)) (hg : GB g) : PCalls Try.prog 43 [.d (grD g)] (tabD g) := by
  have hn := hg.n;refine ZaY Try.func43 rfl rfl Try.ntmps43 rfl rfl rfl fun F hF => (Zag (Zae (goAs rfl rfl (Zaf (Zag (Zae (goAs rfl rfl ?_)))))));refine Zaf (Zag (Zag (Zae (goAs rfl rfl (Zaf (Zau (a_adopt 3 1 sl67 rfl rfl rfl rfl (ZaO (α := Nat) (fun k => ⟨19, [(0, .d (grD g)), (3, (.own 1 0 (tabR g k).length)), (4, (.d (natD k)))], [(1, [.rowD 48 1 ((tabR g k).map boolsD)])]⟩) (fun k => k ≤ g.length) (fun k => g.length - k) (0) (Nat.zero_le _) (Zao hF [1] rfl rfl ⟨rfl, rfl, rfl, trivial⟩) ?_))))))));intro k hk;refine Zag (Zag (Zae (goMv rfl rfl (goMv rfl rfl (Zab.go (Zay rfl (List.length_map ..) Try.underlying22 rfl) ?_)))))
  first | refine Zab.go (ZaR rfl rfl rfl) ?_ | refine Zab.go (ZaM rfl rfl rfl) ?_
  refine Zaf ?_
  first | refine ZaQ rfl (fun h8 => ?_) (fun h8 => ?_) | refine ZaF rfl (fun h8 => ?_) (fun h8 => ?_)
  · refine Zax (Zag (Zau ?_));have hkl : k < g.length := ZaW h8;have htl := tabR_len g k;refine Zae (goMv rfl rfl ?_);refine goMv rfl rfl (goMv rfl rfl (Zap.go (ZaK 21 sl25 rfl rfl rfl rfl rfl rfl rfl rfl) (ZbT (emb := natD) 14 21 [k] rfl rfl rfl rfl rfl rfl rfl (Zab.go (Za2 (refreach_p g hg [k] (by simp) (fun f hf => by rw [List.mem_singleton.1 hf]; exact hkl)) rfl rfl) (Zap.go (ZaK 22 sl67 rfl rfl rfl rfl rfl rfl rfl rfl) (Zap.go (ZbQ (emb := boolsD) (tabR g k) [rowR g k] rfl rfl rfl rfl rfl rfl rfl rfl sl67 (by show ((tabR g k).length + 1) * 24 ≤ _; omega) rfl rfl rfl rfl) (goAs rfl rfl (Zaf ?_))))))))
    first | rw [← tabR_succ] | skip
    refine Zae (goMv rfl rfl (Zab.go (ZaG rfl rfl (IntWalk.i64_in _ (by omega)) rfl) (goAs rfl rfl (Zaf ?_))));exact ⟨k + 1, hkl, by omega, Zao hF [1] rfl (by rw [tabR_succ]; rfl) ⟨rfl, rfl, rfl, trivial⟩⟩
  · refine ZaI (Zag ?_);have hke : k = g.length := by have := h8; omega
    subst hke;refine Zbj (emb := boolsD) 3 1 (tabR g g.length) rfl rfl rfl rfl rfl rfl rfl (Zae (goMv rfl rfl (goAs rfl rfl (Zaf (Za5 ?_)))));exact ⟨_, [], [], ZaT rfl, rfl, rfl, rfl, rfl⟩
def crt (g : List (List Nat)) (c i : Nat) : Prop := c ≤ noC g i ∧ ∀ k, k < g.length → c ≤ noC g k → Rh (sucs g) k i → Rh (sucs g) i k
theorem crt_of {g : List (List Nat)} (hg : GT g) {c i : Nat} (hi : i < g.length) (h : noC g i = c) : crt g c i :=
  ⟨by omega, (cn_ex g hg).crit (fun v hv y hy => hg.gb.suc hv hy) hi h⟩
theorem crt_least {g : List (List Nat)} (hg : GT g) {c i : Nat} (hc : c < cntC g) (hi : i < g.length) (h : crt g c i) (hl : ∀ j, j < i → ¬ crt g c j) : noC g i = c := by
  obtain ⟨j, hj, hjc, hji⟩ := (cn_ex g hg).mn c hc i hi h.1 h.2;rcases Nat.lt_or_ge j i with hlt | hge
  · exact (hl j hlt (crt_of hg hj hjc)).elim
  · rw [show i = j by omega]; exact hjc
def FC (g : List (List Nat)) (dn : List Nat) (i k : Nat) : Prop := i ∉ dn ∧ ∀ a, a < k → a ∈ dn ∨ ¬ RchS g [a] i ∨ RchS g [i] a
noncomputable instance (g : List (List Nat)) (dn : List Nat) (i k : Nat) : Decidable (FC g dn i k) := Classical.propDecidable _
theorem fc_zero {g : List (List Nat)} {dn : List Nat} {i : Nat} : AV.d (boolD (decide (¬ i ∈ dn))) = AV.d (boolD (decide (FC g dn i 0))) := bdec ⟨fun h => ⟨h, fun a ha => by omega⟩, fun h => h.1⟩
theorem fc_step {g : List (List Nat)} {dn : List Nat} {i k : Nat} (h : FC g dn i k) (hk : k ∈ dn ∨ ¬ RchS g [k] i ∨ RchS g [i] k) : FC g dn i (k + 1) := ⟨h.1, fun a ha => by
  by_cases e : a = k
  · subst e; exact hk
  · exact h.2 a (by omega)⟩
theorem fc_T1 {g : List (List Nat)} {dn : List Nat} {i k : Nat} (h : FC g dn i k) (hk : k ∈ dn) : AV.d (boolD true) = AV.d (boolD (decide (FC g dn i (k + 1)))) := by rw [decide_eq_true (fc_step h (.inl hk))]
theorem fc_T2 {g : List (List Nat)} {dn : List Nat} {i k : Nat} (h : FC g dn i k) (hk : ¬ RchS g [k] i) : AV.d (boolD true) = AV.d (boolD (decide (FC g dn i (k + 1)))) := by rw [decide_eq_true (fc_step h (.inr (.inl hk)))]
theorem fc_H {g : List (List Nat)} {dn : List Nat} {i k : Nat} (h : FC g dn i k) (hk : ¬ k ∈ dn) (hr : ¬ ¬ RchS g [k] i) : AV.d (boolD (decide (RchS g [i] k))) = AV.d (boolD (decide (FC g dn i (k + 1)))) :=
  bdec ⟨fun hc => fc_step h (.inr (.inr hc)), fun hc => ((hc.2 k (by omega)).resolve_left hk).resolve_left hr⟩
theorem fc_F {g : List (List Nat)} {dn : List Nat} {i k : Nat} (h : ¬ FC g dn i k) : AV.d (boolD false) = AV.d (boolD (decide (FC g dn i (k + 1)))) := by
  rw [decide_eq_false (show ¬ FC g dn i (k + 1) from fun hc => h ⟨hc.1, fun a ha => hc.2 a (by omega)⟩)]
theorem fc_crt {g : List (List Nat)} {dn : List Nat} {c i : Nat} (hd : ∀ v, v ∈ dn ↔ v < g.length ∧ noC g v < c) (hi : i < g.length) : FC g dn i g.length ↔ crt g c i := by
  constructor
  · intro h;refine ⟨?_, fun k hk hck hr => ?_⟩
    · rcases Nat.lt_or_ge (noC g i) c with hl | hl
      · exact (h.1 ((hd i).2 ⟨hi, hl⟩)).elim
      · exact hl
    · rcases h.2 k hk with h2 | h2 | h2
      · have := ((hd k).1 h2).2; omega
      · exact (h2 (rch_one.2 hr)).elim
      · exact rch_one.1 h2
  · intro h;refine ⟨fun hm => by have := ((hd i).1 hm).2; have := h.1; omega, fun a ha => ?_⟩
    by_cases h1 : a ∈ dn
    · exact .inl h1
    · by_cases h2 : RchS g [a] i
      · refine .inr (.inr (rch_one.2 (h.2 a ha ?_ (rch_one.1 h2))));rcases Nat.lt_or_ge (noC g a) c with hl | hl
        · exact (h1 ((hd a).2 ⟨ha, hl⟩)).elim
        · exact hl
      · exact .inr (.inl h2)
structure DN (g : List (List Nat)) (c : Nat) (dn : List Nat) : Prop where
  cl : c ≤ cntC g
  nd : dn.Nodup
  mem : ∀ v, v ∈ dn ↔ v < g.length ∧ noC g v < c
theorem DN.lt {g : List (List Nat)} (hg : GT g) {c : Nat} {dn : List Nat} (h : DN g c dn) (hl : dn.length < g.length) : c < cntC g := by
  rcases Nat.lt_or_ge c (cntC g) with hc | hc
  · exact hc
  · have := ZbW (List.nodup_range (n := g.length)) (m := dn) fun x hx => (h.mem x).2 ⟨List.mem_range.1 hx, Nat.lt_of_lt_of_le ((cn_ex g hg).lt x (List.mem_range.1 hx)) hc⟩;rw [List.length_range] at this; omega
theorem DN.all {g : List (List Nat)} (hg : GT g) {c : Nat} {dn : List Nat} (h : DN g c dn) (hl : ¬ dn.length < g.length) : c = cntC g := by
  rcases Nat.lt_or_ge c (cntC g) with hc | hc
  · obtain ⟨v, hv, hvc⟩ := (cn_ex g hg).use c hc;have hn : v ∉ dn := fun hm => by have := ((h.mem v).1 hm).2; omega
    have := ZbW (List.nodup_cons.2 ⟨hn, h.nd⟩) (m := List.range g.length) fun x hx => List.mem_range.2 ((List.mem_cons.1 hx).elim (fun e => e ▸ hv) fun hx => ((h.mem x).1 hx).1);rw [List.length_cons, List.length_range] at this;omega
  · exact Nat.le_antisymm h.cl hc
theorem crt_in {g : List (List Nat)} (hg : GT g) {c i : Nat} (hc : c < cntC g) (h : ∀ j, j < i → ¬ crt g c j) : i < g.length := by
  obtain ⟨v, hv, hvc⟩ := (cn_ex g hg).use c hc;rcases Nat.lt_or_ge i g.length with hl | hl
  · exact hl
  · exact (h v (by omega) (crt_of hg hv hvc)).elim
theorem outT_mem {no : Nat → Nat} {n c v : Nat} : v ∈ outT no n c ↔ v < n ∧ no v = c := by unfold outT; rw [List.mem_filter, List.mem_range, decide_eq_true_iff]
theorem DN.next {g : List (List Nat)} {c : Nat} {dn : List Nat} (h : DN g c dn) (hc : c < cntC g) : DN g (c + 1) (dn ++ outT (noC g) g.length c) := by
  refine ⟨hc, List.nodup_append.2 ⟨h.nd, List.nodup_range.filter _, fun a ha b hb e => ?_⟩, fun v => ?_⟩
  · subst e;have h1 := ((h.mem a).1 ha).2;have h2 := (outT_mem.1 hb).2;omega
  · rw [List.mem_append, h.mem, outT_mem]
    constructor
    · rintro (⟨h1, h2⟩ | ⟨h1, h2⟩)
      · exact ⟨h1, by omega⟩
      · exact ⟨h1, by omega⟩
    · rintro ⟨h1, h2⟩
      by_cases e : noC g v = c
      · exact .inr ⟨h1, e⟩
      · exact .inl ⟨h1, by omega⟩
theorem outT_one {no : Nat → Nat} {k c : Nat} (h : no k = c) : outT no (k + 1) c = outT no k c ++ [k] := by
  unfold outT; rw [List.range_succ, List.filter_append, List.filter_cons_of_pos (by simpa using h)]; rfl
theorem outT_not {no : Nat → Nat} {k c : Nat} (h : ¬ no k = c) : outT no (k + 1) c = outT no k c := by
  unfold outT; rw [List.range_succ, List.filter_append, List.filter_cons_of_neg (by simpa using h)]; simp
theorem rch_no {g : List (List Nat)} (hg : GT g) {i k c : Nat} (hi : i < g.length) (hk : k < g.length) (h : noC g i = c) : RchS g [i] k ∧ RchS g [k] i ↔ noC g k = c := by
  rw [rch_one, rch_one, ← (cn_ex g hg).scc i k hi hk, h];exact eq_comm
theorem grF_succ (n : Nat) (ls : Nat → List Nat) : grF (n + 1) ls = grF n ls ++ [ls n] := by unfold grF; rw [List.range_succ, List.map_append]; rfl
set_option maxRecDepth 100000 in
set_option maxHeartbeats 1000000 in
theorem refcom_p (g : List (List Nat)) (hg : GT g) : PCalls Try.prog 27 [.d (grD g)] (grD (comC g)) := by
  have hn := hg.gb.n;refine ZaY Try.func27 rfl rfl Try.ntmps27 rfl rfl rfl fun F hF => ?_;refine Zag (Zae (goAs rfl rfl (Zaf (Zag (Zae (goMv rfl rfl (Zab.go (Za2 (table_p g hg.gb) rfl rfl) (goAs rfl rfl ?_))))))));refine Zaf (Zag (Zae (goMv rfl rfl (Zab.go (Zay rfl (List.length_map ..) Try.underlying22 rfl) (Zap.go (ZbH 0 sl48 rfl rfl rfl (by omega) zd4 rfl rfl rfl rfl) (goAs rfl rfl (Zaf (Zag ?_))))))));rw [repB];refine Zae (goAs rfl rfl ?_);refine Zaf (Zag (Zag (Zae (goAs rfl rfl (Zaf (Zau (a_adopt 5 1 sl22 rfl rfl rfl rfl (ZaO (α := Nat × List Nat) (fun q => ⟨102, [(0, .d (grD g)), (3, (.d (tabD g))), (4, (.own 0 0 g.length)), (5, (.own 1 0 (grF q.1 (outT (noC g) g.length)).length)), (6, (.d (natD q.2.length)))], [(0, [.rowD 4 1 (rowB g.length q.2)]), (1, [.rowD 25 1 ((grF q.1 (outT (noC g) g.length)).map natsD)])]⟩) (fun q => DN g q.1 q.2) (fun q => g.length - q.2.length) ((0, [])) (⟨Nat.zero_le _, .nil, fun v => ⟨fun h => (by cases h), fun h => by omega⟩⟩) (Zao hF [0, 1] rfl rfl ⟨rfl, rfl, rfl, rfl, rfl, trivial⟩) ?_))))))));rintro ⟨c, dn⟩ hD;dsimp only at hD ⊢;refine Zag (Zag (Zae (goMv rfl rfl (goMv rfl rfl (Zab.go (Zay rfl (List.length_map ..) Try.underlying22 rfl) ?_)))))
  first | refine Zab.go (ZaR rfl rfl rfl) ?_ | refine Zab.go (ZaM rfl rfl rfl) ?_
  refine Zaf ?_
  first | refine ZaQ rfl (fun h20 => ?_) (fun h20 => ?_) | refine ZaF rfl (fun h20 => ?_) (fun h20 => ?_)
  · refine Zax (Zau (Zag ?_));have hdl : dn.length < g.length := ZaW h20;have hcc := hD.lt hg hdl;have hcn : cntC g ≤ g.length := cnt_le g hg;have hgl := Zbl c (outT (noC g) g.length);refine Zae (goAs rfl rfl (Zaf (Zau (ZaO (α := Nat) (fun i => ⟨102, [(0, .d (grD g)), (3, (.d (tabD g))), (4, (.own 0 0 g.length)), (5, (.own 1 0 (grF c (outT (noC g) g.length)).length)), (6, (.d (natD dn.length))), (7, (.d (natD i)))], [(0, [.rowD 4 1 (rowB g.length dn)]), (1, [.rowD 25 1 ((grF c (outT (noC g) g.length)).map natsD)])]⟩) (fun i => ∀ j, j < i → ¬ crt g c j) (fun i => g.length - i) (0) ((fun j hj => by omega)) (Zao hF [0, 1] rfl rfl ⟨rfl, rfl, rfl, rfl, rfl, rfl, trivial⟩) ?_))));intro i hno;have hil := crt_in hg hcc hno;refine Zag (Zag (Zae (goMv rfl rfl (goMv rfl rfl (Zab.go (Zay rfl (List.length_map ..) Try.underlying22 rfl) ?_)))))
    first | refine Zab.go (ZaR rfl rfl rfl) ?_ | refine Zab.go (ZaM rfl rfl rfl) ?_
    refine Zaf (a_true rfl (decide_eq_true (Int.ofNat_lt.2 hil)) (Zax (Zag (Zau (Zag (Zae (goMv rfl rfl (goMv rfl rfl ?_))))))))
    first | refine Zab.go (Zam (i) rfl rfl (rfl) (hil) Try.underlying48 rfl sz4 rfl) ?_ | refine Zab.go (Zal (i) rfl rfl (rfl) (hil) rfl Try.underlying48 sz4 rfl) ?_
    first | refine Zab.go (Zai rfl rfl on4 rfl) ?_ | refine Zab.go (Zak rfl rfl rfl on4 rfl) ?_ | refine Zab.go (Zaj rfl rfl (rowB_get hil) rfl on4 rfl) ?_
    first | refine Zab.go (ZbX rfl rfl) ?_ | refine Zab.go (st_not rfl rfl) ?_
    refine o_as 31 (.d (boolD (decide (FC g dn i 0)))) rfl fc_zero ?_;refine goAs rfl rfl (Zaf (Zag (Zag (Zae (goAs rfl rfl (Zaf (Zau (ZaO (α := Nat) (fun k => ⟨102, [(0, .d (grD g)), (3, (.d (tabD g))), (4, (.own 0 0 g.length)), (5, (.own 1 0 (grF c (outT (noC g) g.length)).length)), (6, (.d (natD dn.length))), (7, (.d (natD i))), (8, (.d (boolD (decide (FC g dn i k))))), (9, (.d (natD k)))], [(0, [.rowD 4 1 (rowB g.length dn)]), (1, [.rowD 25 1 ((grF c (outT (noC g) g.length)).map natsD)])]⟩) (fun k => k ≤ g.length) (fun k => g.length - k) (0) (Nat.zero_le _) (Zao hF [0, 1] rfl rfl ⟨rfl, rfl, rfl, rfl, rfl, rfl, rfl, rfl, trivial⟩) ?_))))))));intro k hk;refine Zag (Zag (Zae (goMv rfl rfl (goMv rfl rfl (Zab.go (Zay rfl (List.length_map ..) Try.underlying22 rfl) ?_)))))
    first | refine Zab.go (ZaR rfl rfl rfl) ?_ | refine Zab.go (ZaM rfl rfl rfl) ?_
    refine Zaf ?_
    first | refine ZaQ rfl (fun h35 => ?_) (fun h35 => ?_) | refine ZaF rfl (fun h35 => ?_) (fun h35 => ?_)
    · refine Zax (Zag (Zau ?_));have hkl : k < g.length := ZaW h35;refine Zae (goMv rfl rfl (goMv rfl rfl ?_))
      first | refine Zbv 39 rfl (fun h39 => ?_) (fun h39 => ?_) | refine Zbo 39 rfl (fun h39 => ?_) (fun h39 => ?_)
      · refine ZaH rfl rfl rfl (goMv rfl rfl (ZaH rfl rfl rfl (goMv rfl rfl (ZaH rfl rfl rfl ?_))))
        first | refine Zab.go (Zam (k) rfl rfl (rfl) (hkl) Try.underlying48 rfl sz4 rfl) ?_ | refine Zab.go (Zal (k) rfl rfl (rfl) (hkl) rfl Try.underlying48 sz4 rfl) ?_
        refine ZaH rfl rfl rfl ?_
        first | refine Zab.go (Zai rfl rfl on4 rfl) ?_ | refine Zab.go (Zak rfl rfl rfl on4 rfl) ?_ | refine Zab.go (Zaj rfl rfl (rowB_get hkl) rfl on4 rfl) ?_
        refine ZaH rfl rfl rfl (goMv rfl rfl ?_)
        first | refine Zbv 44 rfl (fun h44 => ?_) (fun h44 => ?_) | refine Zbo 44 rfl (fun h44 => ?_) (fun h44 => ?_)
        · refine ZaC rfl rfl rfl rfl (ZaC rfl rfl rfl rfl (ZaC rfl rfl rfl rfl ?_));refine ZaC rfl rfl rfl rfl (ZaC rfl rfl rfl rfl (ZaC rfl rfl rfl rfl (ZaC rfl rfl rfl rfl (ZaC rfl rfl rfl rfl (ZaH rfl rfl rfl (Zab.go (Za4 rfl rfl rfl rfl) (ZaH rfl rfl rfl (goMv rfl rfl ?_))))))));refine ZaC rfl rfl rfl rfl (ZaC rfl rfl rfl rfl (ZaC rfl rfl rfl rfl (ZaC rfl rfl rfl rfl (ZaC rfl rfl rfl rfl (ZaC rfl rfl rfl rfl (ZaC rfl rfl rfl rfl (ZaH rfl rfl rfl (Zab.go (Za4 rfl rfl rfl rfl) ?_))))))));refine Zab.go (Za4 rfl rfl rfl rfl) (goAs rfl rfl (Zaf (a_as 8 (.d (boolD (decide (FC g dn i (k + 1))))) rfl (by first | exact fc_T1 h39 h44 | exact fc_T2 h39 h54 | exact fc_H h39 h44 h54 | exact fc_F h39) (Zae (goMv rfl rfl (Zab.go (ZaG rfl rfl (IntWalk.i64_in _ (by omega)) rfl) (goAs rfl rfl (Zaf ?_))))))));exact ⟨k + 1, hkl, by omega, Zao hF [0, 1] rfl (rfl) ⟨rfl, rfl, rfl, rfl, rfl, rfl, rfl, rfl, trivial⟩⟩
        · refine ZaH rfl rfl rfl (goMv rfl rfl (ZaH rfl rfl rfl (goMv rfl rfl (ZaH rfl rfl rfl ?_))))
          first | refine Zab.go (Zam (k) rfl rfl (rfl) (getT hkl) Try.underlying67 rfl sz48 rfl) ?_ | refine Zab.go (Zal (k) rfl rfl (rfl) (getT hkl) rfl Try.underlying67 sz48 rfl) ?_
          refine ZaH rfl rfl rfl ?_
          first | refine Zab.go (Zai rfl rfl on48 rfl) ?_ | refine Zab.go (Zak rfl rfl rfl on48 rfl) ?_ | refine Zab.go (Zaj rfl rfl (rfl) rfl on48 rfl) ?_
          refine ZaH rfl rfl rfl (goMv rfl rfl (ZaH rfl rfl rfl ?_))
          first | refine Zab.go (Zam (i) rfl rfl (rfl) (getRw hil) Try.underlying48 rfl sz4 rfl) ?_ | refine Zab.go (Zal (i) rfl rfl (rfl) (getRw hil) rfl Try.underlying48 sz4 rfl) ?_
          refine ZaH rfl rfl rfl ?_
          first | refine Zab.go (Zai rfl rfl on4 rfl) ?_ | refine Zab.go (Zak rfl rfl rfl on4 rfl) ?_ | refine Zab.go (Zaj rfl rfl (rfl) rfl on4 rfl) ?_
          refine ZaH rfl rfl rfl ?_
          first | refine Zab.go (ZbX rfl rfl) ?_ | refine Zab.go (st_not rfl rfl) ?_
          refine ZaH rfl rfl rfl (Zab.go (Zbb rfl rfl rfl rfl) (ZaH rfl rfl rfl (goMv rfl rfl ?_)))
          first | refine Zbv 54 rfl (fun h54 => ?_) (fun h54 => ?_) | refine Zbo 54 rfl (fun h54 => ?_) (fun h54 => ?_)
          · refine ZaC rfl rfl rfl rfl (ZaC rfl rfl rfl rfl (ZaC rfl rfl rfl rfl (ZaC rfl rfl rfl rfl (ZaC rfl rfl rfl rfl (ZaC rfl rfl rfl rfl (ZaC rfl rfl rfl rfl (ZaH rfl rfl rfl (Zab.go (Za4 rfl rfl rfl rfl) ?_))))))));refine Zab.go (Za4 rfl rfl rfl rfl) (goAs rfl rfl (Zaf (a_as 8 (.d (boolD (decide (FC g dn i (k + 1))))) rfl (by first | exact fc_T1 h39 h44 | exact fc_T2 h39 h54 | exact fc_H h39 h44 h54 | exact fc_F h39) (Zae (goMv rfl rfl (Zab.go (ZaG rfl rfl (IntWalk.i64_in _ (by omega)) rfl) (goAs rfl rfl (Zaf ?_))))))));exact ⟨k + 1, hkl, by omega, Zao hF [0, 1] rfl (rfl) ⟨rfl, rfl, rfl, rfl, rfl, rfl, rfl, rfl, trivial⟩⟩
          · refine ZaH rfl rfl rfl (goMv rfl rfl (ZaH rfl rfl rfl (goMv rfl rfl (ZaH rfl rfl rfl ?_))))
            first | refine Zab.go (Zam (i) rfl rfl (rfl) (getT hil) Try.underlying67 rfl sz48 rfl) ?_ | refine Zab.go (Zal (i) rfl rfl (rfl) (getT hil) rfl Try.underlying67 sz48 rfl) ?_
            refine ZaH rfl rfl rfl ?_
            first | refine Zab.go (Zai rfl rfl on48 rfl) ?_ | refine Zab.go (Zak rfl rfl rfl on48 rfl) ?_ | refine Zab.go (Zaj rfl rfl (rfl) rfl on48 rfl) ?_
            refine ZaH rfl rfl rfl (goMv rfl rfl (ZaH rfl rfl rfl ?_))
            first | refine Zab.go (Zam (k) rfl rfl (rfl) (getRw hkl) Try.underlying48 rfl sz4 rfl) ?_ | refine Zab.go (Zal (k) rfl rfl (rfl) (getRw hkl) rfl Try.underlying48 sz4 rfl) ?_
            refine ZaH rfl rfl rfl ?_
            first | refine Zab.go (Zai rfl rfl on4 rfl) ?_ | refine Zab.go (Zak rfl rfl rfl on4 rfl) ?_ | refine Zab.go (Zaj rfl rfl (rfl) rfl on4 rfl) ?_
            refine ZaH rfl rfl rfl (Zab.go (Zbb rfl rfl rfl rfl) ?_);refine Zab.go (Za4 rfl rfl rfl rfl) (goAs rfl rfl (Zaf (a_as 8 (.d (boolD (decide (FC g dn i (k + 1))))) rfl (by first | exact fc_T1 h39 h44 | exact fc_T2 h39 h54 | exact fc_H h39 h44 h54 | exact fc_F h39) (Zae (goMv rfl rfl (Zab.go (ZaG rfl rfl (IntWalk.i64_in _ (by omega)) rfl) (goAs rfl rfl (Zaf ?_))))))));exact ⟨k + 1, hkl, by omega, Zao hF [0, 1] rfl (rfl) ⟨rfl, rfl, rfl, rfl, rfl, rfl, rfl, rfl, trivial⟩⟩
      · refine ZaC rfl rfl rfl rfl (ZaC rfl rfl rfl rfl (ZaC rfl rfl rfl rfl (ZaC rfl rfl rfl rfl (ZaC rfl rfl rfl rfl ?_))));refine ZbP rfl rfl rfl (ZbP rfl rfl rfl (ZbP rfl rfl rfl (ZbP rfl rfl rfl (ZbP rfl rfl rfl (ZbP rfl rfl rfl (ZbP rfl rfl rfl (ZbP rfl rfl rfl (ZaC rfl rfl rfl rfl ?_))))))));refine ZaC rfl rfl rfl rfl (ZbP rfl rfl rfl (ZbP rfl rfl rfl (ZbP rfl rfl rfl (ZbP rfl rfl rfl (ZbP rfl rfl rfl (ZbP rfl rfl rfl (ZbP rfl rfl rfl (ZaC rfl rfl rfl rfl ?_))))))));refine Zab.go (Zbb rfl rfl rfl rfl) (goAs rfl rfl (Zaf (a_as 8 (.d (boolD (decide (FC g dn i (k + 1))))) rfl (by first | exact fc_T1 h39 h44 | exact fc_T2 h39 h54 | exact fc_H h39 h44 h54 | exact fc_F h39) (Zae (goMv rfl rfl (Zab.go (ZaG rfl rfl (IntWalk.i64_in _ (by omega)) rfl) (goAs rfl rfl (Zaf ?_))))))));exact ⟨k + 1, hkl, by omega, Zao hF [0, 1] rfl (rfl) ⟨rfl, rfl, rfl, rfl, rfl, rfl, rfl, rfl, trivial⟩⟩
    · refine ZaI (Zag (Zag ?_));have hkn : k = g.length := by have := h35; omega
      subst hkn;refine Zae (goMv rfl rfl ?_)
      first | refine Zab.go (ZbX rfl rfl) ?_ | refine Zab.go (st_not rfl rfl) ?_
      refine Zaf ?_
      first | refine ZaQ rfl (fun h65 => ?_) (fun h65 => ?_) | refine ZaF rfl (fun h65 => ?_) (fun h65 => ?_)
      · refine ZaI (Zae (goMv rfl rfl (Zab.go (ZaG rfl rfl (IntWalk.i64_in _ (by omega)) rfl) (goAs rfl rfl (Zaf ?_)))));exact ⟨i + 1, (fun j hj hc => by rcases Nat.lt_or_ge j i with h | h; exact hno j h hc; exact h65 ((fc_crt hD.mem hil).2 ((show j = i by omega) ▸ hc))), by omega, Zao hF [0, 1] rfl (rfl) ⟨rfl, rfl, rfl, rfl, rfl, rfl, trivial⟩⟩
      · refine Zax (Zag ?_);have hcr := (fc_crt hD.mem hil).1 (Classical.not_not.1 h65);have hic := crt_least hg hcc hil hcr hno;refine Zae (goAs rfl rfl (Zaf (Zag (Zag ?_))));rw [show natD dn.length = natD (dn ++ outT (noC g) 0 c).length by rw [outT_zero, List.append_nil], show rowB g.length dn = rowB g.length (dn ++ outT (noC g) 0 c) by rw [outT_zero, List.append_nil]];refine Zae (goAs rfl rfl (Zaf (Zau (a_adopt 10 2 sl25 rfl rfl rfl rfl (ZaO (α := Nat) (fun k => ⟨102, [(0, .d (grD g)), (3, (.d (tabD g))), (4, (.own 0 0 g.length)), (5, (.own 1 0 (grF c (outT (noC g) g.length)).length)), (6, (.d (natD (dn ++ outT (noC g) k c).length))), (7, (.d (natD i))), (10, (.own 2 0 (outT (noC g) k c).length)), (11, (.d (natD k)))], [(0, [.rowD 4 1 (rowB g.length (dn ++ outT (noC g) k c))]), (1, [.rowD 25 1 ((grF c (outT (noC g) g.length)).map natsD)]), (2, [.rowD 3 1 ((outT (noC g) k c).map natD)])]⟩) (fun k => k ≤ g.length) (fun k => g.length - k) (0) (Nat.zero_le _) (Zao hF [0, 1, 2] rfl rfl ⟨rfl, rfl, rfl, rfl, rfl, rfl, rfl, rfl, trivial⟩) ?_)))));intro k hk;refine Zag (Zag (Zae (goMv rfl rfl (goMv rfl rfl (Zab.go (Zay rfl (List.length_map ..) Try.underlying22 rfl) ?_)))))
        first | refine Zab.go (ZaR rfl rfl rfl) ?_ | refine Zab.go (ZaM rfl rfl rfl) ?_
        refine Zaf ?_
        first | refine ZaQ rfl (fun h69 => ?_) (fun h69 => ?_) | refine ZaF rfl (fun h69 => ?_) (fun h69 => ?_)
        · refine Zax (Zag (Zau (Zag ?_)));have hkl : k < g.length := ZaW h69;have hrn := rch_no hg hil hkl hic;have hol := outT_len (noC g) k c;have hal : (dn ++ outT (noC g) k c).length = dn.length + (outT (noC g) k c).length := List.length_append;refine Zae (goMv rfl rfl (goMv rfl rfl ?_))
          first | refine Zab.go (Zam (i) rfl rfl (rfl) (getT hil) Try.underlying67 rfl sz48 rfl) ?_ | refine Zab.go (Zal (i) rfl rfl (rfl) (getT hil) rfl Try.underlying67 sz48 rfl) ?_
          first | refine Zab.go (Zai rfl rfl on48 rfl) ?_ | refine Zab.go (Zak rfl rfl rfl on48 rfl) ?_ | refine Zab.go (Zaj rfl rfl (rfl) rfl on48 rfl) ?_
          refine goMv rfl rfl ?_
          first | refine Zab.go (Zam (k) rfl rfl (rfl) (getRw hkl) Try.underlying48 rfl sz4 rfl) ?_ | refine Zab.go (Zal (k) rfl rfl (rfl) (getRw hkl) rfl Try.underlying48 sz4 rfl) ?_
          first | refine Zab.go (Zai rfl rfl on4 rfl) ?_ | refine Zab.go (Zak rfl rfl rfl on4 rfl) ?_ | refine Zab.go (Zaj rfl rfl (rfl) rfl on4 rfl) ?_
          refine goMv rfl rfl ?_
          first | refine Zbv 79 rfl (fun h79 => ?_) (fun h79 => ?_) | refine Zbo 79 rfl (fun h79 => ?_) (fun h79 => ?_)
          · refine ZaH rfl rfl rfl (goMv rfl rfl (ZaH rfl rfl rfl (goMv rfl rfl (ZaH rfl rfl rfl ?_))))
            first | refine Zab.go (Zam (k) rfl rfl (rfl) (getT hkl) Try.underlying67 rfl sz48 rfl) ?_ | refine Zab.go (Zal (k) rfl rfl (rfl) (getT hkl) rfl Try.underlying67 sz48 rfl) ?_
            refine ZaH rfl rfl rfl ?_
            first | refine Zab.go (Zai rfl rfl on48 rfl) ?_ | refine Zab.go (Zak rfl rfl rfl on48 rfl) ?_ | refine Zab.go (Zaj rfl rfl (rfl) rfl on48 rfl) ?_
            refine ZaH rfl rfl rfl (goMv rfl rfl (ZaH rfl rfl rfl ?_))
            first | refine Zab.go (Zam (i) rfl rfl (rfl) (getRw hil) Try.underlying48 rfl sz4 rfl) ?_ | refine Zab.go (Zal (i) rfl rfl (rfl) (getRw hil) rfl Try.underlying48 sz4 rfl) ?_
            refine ZaH rfl rfl rfl ?_
            first | refine Zab.go (Zai rfl rfl on4 rfl) ?_ | refine Zab.go (Zak rfl rfl rfl on4 rfl) ?_ | refine Zab.go (Zaj rfl rfl (rfl) rfl on4 rfl) ?_
            refine Zab.go (Za4 rfl rfl rfl rfl) (Zaf ?_)
            first | refine ZaQ rfl (fun h87 => ?_) (fun h87 => ?_) | refine ZaF rfl (fun h87 => ?_) (fun h87 => ?_)
            · refine Zag ?_;have hst := outT_one (hrn.1 ⟨h79, h87⟩);refine Zae (goMv rfl rfl ?_);refine goMv rfl rfl (Zap.go (ZaK 21 sl25 rfl rfl rfl rfl rfl rfl rfl rfl) (Zap.go (ZbQ (emb := natD) (outT (noC g) k c) [k] rfl rfl rfl rfl rfl rfl rfl rfl sl25 (by show ((outT (noC g) k c).length + 1) * 8 ≤ _; omega) rfl rfl rfl rfl) (goAs rfl rfl (Zaf (Zag (Zae (goMv rfl rfl (goMv rfl rfl ?_))))))))
              first | refine Zab.go (Zam (k) rfl rfl (rfl) (hkl) Try.underlying48 rfl sz4 rfl) ?_ | refine Zab.go (Zal (k) rfl rfl (rfl) (hkl) rfl Try.underlying48 sz4 rfl) ?_
              refine Zap.go (ZaZ rfl rfl rfl rfl rfl (by rw [rowB_len]; exact hkl) rowB_set rfl sz4) (Zaf (Zae (goMv rfl rfl (Zab.go (ZaG rfl rfl (IntWalk.i64_in _ (by omega)) rfl) (goAs rfl rfl (Zaf ?_))))))
              first | (rw [List.append_assoc, ← hst]; refine a_as 6 (.d (natD (dn ++ outT (noC g) (k + 1) c).length)) rfl (eqv (congrArg intD (by rw [hst, List.length_append, List.length_append, List.length_append]; simp; omega))) ?_) | (have hst := outT_not (fun e => h87 (hrn.2 e).2); rw [← hst]) | (have hst := outT_not (fun e => h79 (hrn.2 e).1); rw [← hst])
              refine Zae (goMv rfl rfl (Zab.go (ZaG rfl rfl (IntWalk.i64_in _ (by omega)) rfl) (goAs rfl rfl (Zaf ?_))));exact ⟨k + 1, hkl, by omega, Zao hF [0, 1, 2] rfl (rfl) ⟨rfl, rfl, rfl, rfl, rfl, rfl, rfl, rfl, trivial⟩⟩
            · refine Zax ?_
              first | (rw [List.append_assoc, ← hst]; refine a_as 6 (.d (natD (dn ++ outT (noC g) (k + 1) c).length)) rfl (eqv (congrArg intD (by rw [hst, List.length_append, List.length_append, List.length_append]; simp; omega))) ?_) | (have hst := outT_not (fun e => h87 (hrn.2 e).2); rw [← hst]) | (have hst := outT_not (fun e => h79 (hrn.2 e).1); rw [← hst])
              refine Zae (goMv rfl rfl (Zab.go (ZaG rfl rfl (IntWalk.i64_in _ (by omega)) rfl) (goAs rfl rfl (Zaf ?_))));exact ⟨k + 1, hkl, by omega, Zao hF [0, 1, 2] rfl (rfl) ⟨rfl, rfl, rfl, rfl, rfl, rfl, rfl, rfl, trivial⟩⟩
          · refine ZaC rfl rfl rfl rfl (ZaC rfl rfl rfl rfl ?_);refine ZaC rfl rfl rfl rfl (ZaC rfl rfl rfl rfl (ZaC rfl rfl rfl rfl (ZaC rfl rfl rfl rfl (ZaC rfl rfl rfl rfl (Zab.go (Zbb rfl rfl rfl rfl) (Zaf (Zbm rfl rfl (Zax ?_))))))))
            first | (rw [List.append_assoc, ← hst]; refine a_as 6 (.d (natD (dn ++ outT (noC g) (k + 1) c).length)) rfl (eqv (congrArg intD (by rw [hst, List.length_append, List.length_append, List.length_append]; simp; omega))) ?_) | (have hst := outT_not (fun e => h87 (hrn.2 e).2); rw [← hst]) | (have hst := outT_not (fun e => h79 (hrn.2 e).1); rw [← hst])
            refine Zae (goMv rfl rfl (Zab.go (ZaG rfl rfl (IntWalk.i64_in _ (by omega)) rfl) (goAs rfl rfl (Zaf ?_))));exact ⟨k + 1, hkl, by omega, Zao hF [0, 1, 2] rfl (rfl) ⟨rfl, rfl, rfl, rfl, rfl, rfl, rfl, rfl, trivial⟩⟩
        · refine ZaI (Zag ?_);have hkn2 : k = g.length := by have := h69; omega
          subst hkn2;have hol := outT_len (noC g) g.length c;have hpos : 0 < (outT (noC g) g.length c).length := List.length_pos_of_mem (outT_mem.2 ⟨hil, hic⟩);refine Zbj (emb := natD) 10 2 (outT (noC g) g.length c) rfl rfl rfl rfl rfl rfl rfl (Zae (goMv rfl rfl (goMv rfl rfl (Zap.go (ZaK 22 sl22 rfl rfl rfl rfl rfl rfl rfl rfl) (Zap.go (ZbQ (emb := natsD) (grF c (outT (noC g) g.length)) [outT (noC g) g.length c] rfl rfl rfl rfl rfl rfl rfl rfl sl22 (by show ((grF c (outT (noC g) g.length)).length + 1) * 24 ≤ _; omega) rfl rfl rfl rfl) ?_)))));rw [← grF_succ];refine goAs rfl rfl (Zaf (ZaI ?_));exact ⟨(c + 1, dn ++ outT (noC g) g.length c), hD.next hcc, by show g.length - (dn ++ _).length < g.length - dn.length; rw [List.length_append]; omega, Zao hF [0, 1] rfl (rfl) ⟨rfl, rfl, rfl, rfl, rfl, trivial⟩⟩
  · refine ZaI (Zag ?_);have hce := hD.all hg (fun h => h20 (Int.ofNat_lt.2 h));subst hce;refine Zbj (emb := natsD) 5 1 (grF (cntC g) (outT (noC g) g.length)) rfl rfl rfl rfl rfl rfl rfl (Zae (goMv rfl rfl (goAs rfl rfl (Zaf (Za5 ?_)))));exact ⟨_, [], [], ZaT rfl, rfl, rfl, rfl, rfl⟩
end Go.Proofs.Ytgdppeobgefogaa
/- Layer 31: the reference's Condense. -/
namespace Go.Proofs.Ytgdppeobgefogaa
open Go.RowKit
def rcP (g : List (List Nat)) (c k : Nat) : Prop := (∃ x ∈ outT (noC g) g.length c, ∃ y ∈ outT (noC g) g.length k, y ∈ sucs g x) ∧ c ≠ k
noncomputable instance (g : List (List Nat)) (c k : Nat) : Decidable (rcP g c k) := Classical.propDecidable _
def EA (g : List (List Nat)) (l m : List Nat) (a b : Nat) : Prop := (∃ x ∈ l.take a, ∃ y ∈ m, y ∈ sucs g x) ∨ ∃ y ∈ m.take b, y ∈ sucs g (nth l a)
noncomputable instance (g : List (List Nat)) (l m : List Nat) (a b : Nat) : Decidable (EA g l m a b) := Classical.propDecidable _
end Go.Proofs.Ytgdppeobgefogaa
/- SccComponents: the law's walk. -/
namespace Go.Proofs.Ytgdppeobgefogaa
open Go.RowKit
theorem comC_b {g : List (List Nat)} (hg : GT g) : (comC g).length ≤ 2000000 ∧ ∀ x ∈ comC g, x.length ≤ 2000000 := by
  have hn := hg.gb.n;have hc := cnt_le g hg;refine ⟨by unfold comC; rw [Zbl]; omega, fun x hx => ?_⟩;obtain ⟨c, _, rfl⟩ := List.mem_map.1 hx;have := outT_len (noC g) g.length c;omega
end Go.Proofs.Ytgdppeobgefogaa
