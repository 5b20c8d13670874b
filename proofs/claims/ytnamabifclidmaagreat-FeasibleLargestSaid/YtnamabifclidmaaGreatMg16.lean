/- The kit's contract of slices.SortFunc laid at this program: the renumbering and its facts. Made by program (lays.py). -/
import Derived.Test.YtnamabifclidmaaGreatMg15
import Derived.Shelf.SlLaysF0
import Derived.Shelf.SlLaysNS
import Derived.Test.YtnamabifclidmaaGreatProg
namespace Go.Proofs.YtnamabifclidmaaGreat
open Go.Shelf Go.Proofs Go.Proofs.Tryz
def renI : Go.Shelf.Ren := ⟨fun x => match x with
  | 6 => 161
  | 15 => 109
  | 14 => 168
  | 28 => 136
  | 29 => 137
  | 20 => 170
  | 21 => 171
  | 22 => 172
  | 23 => 173
  | 24 => 174
  | 25 => 175
  | 26 => 176
  | 27 => 177
  | 46 => 178
  | 47 => 155
  | 48 => 156
  | 49 => 179
  | 50 => 180
  | 57 => 181
  | x => x,
  fun x => match x with
  | 22 => 33
  | 24 => 100
  | 25 => 219
  | 3 => 3
  | 39 => 190
  | 0 => 0
  | 53 => 65
  | 55 => 213
  | 4 => 4
  | 46 => 205
  | 45 => 204
  | 50 => 195
  | 5 => 5
  | 9 => 9
  | 66 => 227
  | 70 => 231
  | 76 => 239
  | 77 => 240
  | x => x, fun x => x⟩
theorem laysI : SlLaysF0.n6 Tryz.prog renI where
  mixed := rfl
  f6 := ⟨Tryz.f161.name, by decide, Tryz.func161.trans (congrArg some (by kernel_rfl))⟩
  f14 := ⟨Tryz.f168.name, by decide, Tryz.func168.trans (congrArg some (by kernel_rfl))⟩
  f15 := Tryz.func109.trans (congrArg some (by kernel_rfl))
  f20 := ⟨Tryz.f170.name, by decide, Tryz.func170.trans (congrArg some (by kernel_rfl))⟩
  f21 := ⟨Tryz.f171.name, by decide, Tryz.func171.trans (congrArg some (by kernel_rfl))⟩
  f22 := ⟨Tryz.f172.name, by decide, Tryz.func172.trans (congrArg some (by kernel_rfl))⟩
  f23 := ⟨Tryz.f173.name, by decide, Tryz.func173.trans (congrArg some (by kernel_rfl))⟩
  f24 := ⟨Tryz.f174.name, by decide, Tryz.func174.trans (congrArg some (by kernel_rfl))⟩
  f25 := ⟨Tryz.f175.name, by decide, Tryz.func175.trans (congrArg some (by kernel_rfl))⟩
  f26 := ⟨Tryz.f176.name, by decide, Tryz.func176.trans (congrArg some (by kernel_rfl))⟩
  f27 := ⟨Tryz.f177.name, by decide, Tryz.func177.trans (congrArg some (by kernel_rfl))⟩
  f28 := Tryz.func136.trans (congrArg some (by kernel_rfl))
  f29 := Tryz.func137.trans (congrArg some (by kernel_rfl))
  f46 := ⟨Tryz.f178.name, by decide, Tryz.func178.trans (congrArg some (by kernel_rfl))⟩
  f47 := Tryz.func155.trans (congrArg some (by kernel_rfl))
  f48 := Tryz.func156.trans (congrArg some (by kernel_rfl))
  f49 := ⟨Tryz.f179.name, by decide, Tryz.func179.trans (congrArg some (by kernel_rfl))⟩
  f50 := ⟨Tryz.f180.name, by decide, Tryz.func180.trans (congrArg some (by kernel_rfl))⟩
  f57 := ⟨Tryz.f181.name, by decide, Tryz.func181.trans (congrArg some (by kernel_rfl))⟩
  t0 := Tryz.underlying0
  a0 := Tryz.isAgg0
  z0 := Tryz.sizeOf0
  v0 := Tryz.zeroValue0
  t3 := Tryz.underlying3
  a3 := Tryz.isAgg3
  z3 := Tryz.sizeOf3
  v3 := Tryz.zeroValue3
  t4 := Tryz.underlying4
  a4 := Tryz.isAgg4
  z4 := Tryz.sizeOf4
  v4 := Tryz.zeroValue4
  t5 := Tryz.underlying5
  a5 := Tryz.isAgg5
  z5 := Tryz.sizeOf5
  v5 := Tryz.zeroValue5
  t9 := Tryz.underlying9
  a9 := Tryz.isAgg9
  z9 := Tryz.sizeOf9
  v9 := Tryz.zeroValue9
  t22 := Tryz.underlying33
  a22 := Tryz.isAgg33
  z22 := Tryz.sizeOf33
  v22 := Tryz.zeroValue33
  t25 := Tryz.underlying219
  a25 := Tryz.isAgg219
  z25 := Tryz.sizeOf219
  v25 := Tryz.zeroValue219
  t39 := Tryz.underlying190
  a39 := Tryz.isAgg190
  z39 := Tryz.sizeOf190
  v39 := Tryz.zeroValue190
  t45 := Tryz.underlying204
  a45 := Tryz.isAgg204
  z45 := Tryz.sizeOf204
  v45 := Tryz.zeroValue204
  t46 := Tryz.underlying205
  a46 := Tryz.isAgg205
  z46 := Tryz.sizeOf205
  v46 := Tryz.zeroValue205
  t50 := Tryz.underlying195
  a50 := Tryz.isAgg195
  z50 := Tryz.sizeOf195
  v50 := Tryz.zeroValue195
  t53 := Tryz.underlying65
  a53 := Tryz.isAgg65
  z53 := Tryz.sizeOf65
  v53 := Tryz.zeroValue65
  t55 := Tryz.underlying213
  a55 := Tryz.isAgg213
  z55 := Tryz.sizeOf213
  v55 := Tryz.zeroValue213
  t66 := Tryz.underlying227
  a66 := Tryz.isAgg227
  z66 := Tryz.sizeOf227
  v66 := Tryz.zeroValue227
  t70 := Tryz.underlying231
  a70 := Tryz.isAgg231
  z70 := Tryz.sizeOf231
  v70 := Tryz.zeroValue231
  t76 := Tryz.underlying239
  a76 := Tryz.isAgg239
  z76 := Tryz.sizeOf239
  v76 := Tryz.zeroValue239
  t77 := Tryz.underlying240
  a77 := Tryz.isAgg240
  z77 := Tryz.sizeOf240
  v77 := Tryz.zeroValue240
def renLn : Go.Shelf.Ren := ⟨fun x => match x with
  | 6 => 99
  | 15 => 109
  | 14 => 117
  | 28 => 136
  | 29 => 137
  | 20 => 144
  | 21 => 145
  | 22 => 146
  | 23 => 147
  | 24 => 148
  | 25 => 149
  | 26 => 150
  | 27 => 151
  | 46 => 163
  | 47 => 155
  | 48 => 156
  | 49 => 164
  | 50 => 165
  | 57 => 169
  | x => x,
  fun x => match x with
  | 22 => 152
  | 24 => 157
  | 25 => 184
  | 3 => 3
  | 39 => 190
  | 0 => 0
  | 53 => 65
  | 55 => 213
  | 4 => 4
  | 46 => 205
  | 45 => 204
  | 50 => 195
  | 5 => 5
  | 9 => 9
  | 66 => 227
  | 70 => 231
  | 76 => 239
  | 77 => 240
  | x => x, fun x => x⟩
theorem laysLn : SlLaysF0.n6 Tryz.prog renLn where
  mixed := rfl
  f6 := ⟨Tryz.f99.name, by decide, Tryz.func99.trans (congrArg some (by kernel_rfl))⟩
  f14 := ⟨Tryz.f117.name, by decide, Tryz.func117.trans (congrArg some (by kernel_rfl))⟩
  f15 := Tryz.func109.trans (congrArg some (by kernel_rfl))
  f20 := ⟨Tryz.f144.name, by decide, Tryz.func144.trans (congrArg some (by kernel_rfl))⟩
  f21 := ⟨Tryz.f145.name, by decide, Tryz.func145.trans (congrArg some (by kernel_rfl))⟩
  f22 := ⟨Tryz.f146.name, by decide, Tryz.func146.trans (congrArg some (by kernel_rfl))⟩
  f23 := ⟨Tryz.f147.name, by decide, Tryz.func147.trans (congrArg some (by kernel_rfl))⟩
  f24 := ⟨Tryz.f148.name, by decide, Tryz.func148.trans (congrArg some (by kernel_rfl))⟩
  f25 := ⟨Tryz.f149.name, by decide, Tryz.func149.trans (congrArg some (by kernel_rfl))⟩
  f26 := ⟨Tryz.f150.name, by decide, Tryz.func150.trans (congrArg some (by kernel_rfl))⟩
  f27 := ⟨Tryz.f151.name, by decide, Tryz.func151.trans (congrArg some (by kernel_rfl))⟩
  f28 := Tryz.func136.trans (congrArg some (by kernel_rfl))
  f29 := Tryz.func137.trans (congrArg some (by kernel_rfl))
  f46 := ⟨Tryz.f163.name, by decide, Tryz.func163.trans (congrArg some (by kernel_rfl))⟩
  f47 := Tryz.func155.trans (congrArg some (by kernel_rfl))
  f48 := Tryz.func156.trans (congrArg some (by kernel_rfl))
  f49 := ⟨Tryz.f164.name, by decide, Tryz.func164.trans (congrArg some (by kernel_rfl))⟩
  f50 := ⟨Tryz.f165.name, by decide, Tryz.func165.trans (congrArg some (by kernel_rfl))⟩
  f57 := ⟨Tryz.f169.name, by decide, Tryz.func169.trans (congrArg some (by kernel_rfl))⟩
  t0 := Tryz.underlying0
  a0 := Tryz.isAgg0
  z0 := Tryz.sizeOf0
  v0 := Tryz.zeroValue0
  t3 := Tryz.underlying3
  a3 := Tryz.isAgg3
  z3 := Tryz.sizeOf3
  v3 := Tryz.zeroValue3
  t4 := Tryz.underlying4
  a4 := Tryz.isAgg4
  z4 := Tryz.sizeOf4
  v4 := Tryz.zeroValue4
  t5 := Tryz.underlying5
  a5 := Tryz.isAgg5
  z5 := Tryz.sizeOf5
  v5 := Tryz.zeroValue5
  t9 := Tryz.underlying9
  a9 := Tryz.isAgg9
  z9 := Tryz.sizeOf9
  v9 := Tryz.zeroValue9
  t22 := Tryz.underlying152
  a22 := Tryz.isAgg152
  z22 := Tryz.sizeOf152
  v22 := Tryz.zeroValue152
  t25 := Tryz.underlying184
  a25 := Tryz.isAgg184
  z25 := Tryz.sizeOf184
  v25 := Tryz.zeroValue184
  t39 := Tryz.underlying190
  a39 := Tryz.isAgg190
  z39 := Tryz.sizeOf190
  v39 := Tryz.zeroValue190
  t45 := Tryz.underlying204
  a45 := Tryz.isAgg204
  z45 := Tryz.sizeOf204
  v45 := Tryz.zeroValue204
  t46 := Tryz.underlying205
  a46 := Tryz.isAgg205
  z46 := Tryz.sizeOf205
  v46 := Tryz.zeroValue205
  t50 := Tryz.underlying195
  a50 := Tryz.isAgg195
  z50 := Tryz.sizeOf195
  v50 := Tryz.zeroValue195
  t53 := Tryz.underlying65
  a53 := Tryz.isAgg65
  z53 := Tryz.sizeOf65
  v53 := Tryz.zeroValue65
  t55 := Tryz.underlying213
  a55 := Tryz.isAgg213
  z55 := Tryz.sizeOf213
  v55 := Tryz.zeroValue213
  t66 := Tryz.underlying227
  a66 := Tryz.isAgg227
  z66 := Tryz.sizeOf227
  v66 := Tryz.zeroValue227
  t70 := Tryz.underlying231
  a70 := Tryz.isAgg231
  z70 := Tryz.sizeOf231
  v70 := Tryz.zeroValue231
  t76 := Tryz.underlying239
  a76 := Tryz.isAgg239
  z76 := Tryz.sizeOf239
  v76 := Tryz.zeroValue239
  t77 := Tryz.underlying240
  a77 := Tryz.isAgg240
  z77 := Tryz.sizeOf240
  v77 := Tryz.zeroValue240
def renS : Go.Shelf.Ren := ⟨fun x => match x with
  | 53 => 83
  | 64 => 109
  | 63 => 108
  | 78 => 136
  | 79 => 137
  | 70 => 127
  | 71 => 128
  | 72 => 129
  | 73 => 130
  | 74 => 131
  | 75 => 132
  | 59 => 133
  | 76 => 134
  | 77 => 135
  | 88 => 154
  | 89 => 155
  | 90 => 156
  | 91 => 157
  | 92 => 158
  | 68 => 152
  | 96 => 166
  | x => x,
  fun x => match x with
  | 22 => 26
  | 23 => 3
  | 3 => 3
  | 51 => 190
  | 0 => 0
  | 67 => 65
  | 69 => 213
  | 4 => 4
  | 61 => 205
  | 60 => 204
  | 44 => 195
  | 5 => 5
  | 9 => 9
  | 75 => 227
  | 79 => 231
  | 83 => 239
  | 84 => 240
  | x => x, fun x => x⟩
theorem laysS : SlLaysN.n53 Tryz.prog renS where
  mixed := rfl
  f53 := ⟨Tryz.f83.name, by decide, Tryz.func83.trans (congrArg some (by kernel_rfl))⟩
  f59 := ⟨Tryz.f133.name, by decide, Tryz.func133.trans (congrArg some (by kernel_rfl))⟩
  f63 := ⟨Tryz.f108.name, by decide, Tryz.func108.trans (congrArg some (by kernel_rfl))⟩
  f64 := Tryz.func109.trans (congrArg some (by kernel_rfl))
  f68 := ⟨Tryz.f152.name, by decide, Tryz.func152.trans (congrArg some (by kernel_rfl))⟩
  f70 := ⟨Tryz.f127.name, by decide, Tryz.func127.trans (congrArg some (by kernel_rfl))⟩
  f71 := ⟨Tryz.f128.name, by decide, Tryz.func128.trans (congrArg some (by kernel_rfl))⟩
  f72 := ⟨Tryz.f129.name, by decide, Tryz.func129.trans (congrArg some (by kernel_rfl))⟩
  f73 := ⟨Tryz.f130.name, by decide, Tryz.func130.trans (congrArg some (by kernel_rfl))⟩
  f74 := ⟨Tryz.f131.name, by decide, Tryz.func131.trans (congrArg some (by kernel_rfl))⟩
  f75 := ⟨Tryz.f132.name, by decide, Tryz.func132.trans (congrArg some (by kernel_rfl))⟩
  f76 := ⟨Tryz.f134.name, by decide, Tryz.func134.trans (congrArg some (by kernel_rfl))⟩
  f77 := ⟨Tryz.f135.name, by decide, Tryz.func135.trans (congrArg some (by kernel_rfl))⟩
  f78 := Tryz.func136.trans (congrArg some (by kernel_rfl))
  f79 := Tryz.func137.trans (congrArg some (by kernel_rfl))
  f88 := ⟨Tryz.f154.name, by decide, Tryz.func154.trans (congrArg some (by kernel_rfl))⟩
  f89 := Tryz.func155.trans (congrArg some (by kernel_rfl))
  f90 := Tryz.func156.trans (congrArg some (by kernel_rfl))
  f91 := ⟨Tryz.f157.name, by decide, Tryz.func157.trans (congrArg some (by kernel_rfl))⟩
  f92 := ⟨Tryz.f158.name, by decide, Tryz.func158.trans (congrArg some (by kernel_rfl))⟩
  f96 := ⟨Tryz.f166.name, by decide, Tryz.func166.trans (congrArg some (by kernel_rfl))⟩
  t0 := Tryz.underlying0
  a0 := Tryz.isAgg0
  z0 := Tryz.sizeOf0
  v0 := Tryz.zeroValue0
  t3 := Tryz.underlying3
  a3 := Tryz.isAgg3
  z3 := Tryz.sizeOf3
  v3 := Tryz.zeroValue3
  t4 := Tryz.underlying4
  a4 := Tryz.isAgg4
  z4 := Tryz.sizeOf4
  v4 := Tryz.zeroValue4
  t5 := Tryz.underlying5
  a5 := Tryz.isAgg5
  z5 := Tryz.sizeOf5
  v5 := Tryz.zeroValue5
  t9 := Tryz.underlying9
  a9 := Tryz.isAgg9
  z9 := Tryz.sizeOf9
  v9 := Tryz.zeroValue9
  t22 := Tryz.underlying26
  a22 := Tryz.isAgg26
  z22 := Tryz.sizeOf26
  v22 := Tryz.zeroValue26
  t23 := Tryz.underlying3
  a23 := Tryz.isAgg3
  z23 := Tryz.sizeOf3
  v23 := Tryz.zeroValue3
  t44 := Tryz.underlying195
  a44 := Tryz.isAgg195
  z44 := Tryz.sizeOf195
  v44 := Tryz.zeroValue195
  t51 := Tryz.underlying190
  a51 := Tryz.isAgg190
  z51 := Tryz.sizeOf190
  v51 := Tryz.zeroValue190
  t60 := Tryz.underlying204
  a60 := Tryz.isAgg204
  z60 := Tryz.sizeOf204
  v60 := Tryz.zeroValue204
  t61 := Tryz.underlying205
  a61 := Tryz.isAgg205
  z61 := Tryz.sizeOf205
  v61 := Tryz.zeroValue205
  t67 := Tryz.underlying65
  a67 := Tryz.isAgg65
  z67 := Tryz.sizeOf65
  v67 := Tryz.zeroValue65
  t69 := Tryz.underlying213
  a69 := Tryz.isAgg213
  z69 := Tryz.sizeOf213
  v69 := Tryz.zeroValue213
  t75 := Tryz.underlying227
  a75 := Tryz.isAgg227
  z75 := Tryz.sizeOf227
  v75 := Tryz.zeroValue227
  t79 := Tryz.underlying231
  a79 := Tryz.isAgg231
  z79 := Tryz.sizeOf231
  v79 := Tryz.zeroValue231
  t83 := Tryz.underlying239
  a83 := Tryz.isAgg239
  z83 := Tryz.sizeOf239
  v83 := Tryz.zeroValue239
  t84 := Tryz.underlying240
  a84 := Tryz.isAgg240
  z84 := Tryz.sizeOf240
  v84 := Tryz.zeroValue240
end Go.Proofs.YtnamabifclidmaaGreat
/- Layer 28: an item's check; the order of resources and of items. -/
namespace Go.Proofs.YtnamabifclidmaaGreat
open Go.RowKit

def bndE (i : Itm) : Int := if ∃ x ∈ sumL (ctr i), ¬ (-Mx ≤ x.2 ∧ x.2 ≤ Mx) then 12 else 0
theorem bnd_bad {i : Itm} {j : Nat} {r : Rsc} {v : Int} (hm : (sumL (ctr i))[j]? = some (r, v)) (hv : ¬ (-Mx ≤ v ∧ v ≤ Mx)) : (12 : Int) = bndE i := by
  unfold bndE; rw [if_pos ⟨_, List.mem_of_getElem? hm, hv⟩]
theorem bnd_ok {i : Itm} (h : ∀ x ∈ sumL (ctr i), -Mx ≤ x.2 ∧ x.2 ≤ Mx) : (0 : Int) = bndE i := by
  unfold bndE; rw [if_neg]; rintro ⟨x, hx, hn⟩; exact hn (h x hx)
set_option maxRecDepth 100000 in
theorem bounded_p (i : Itm) (hi : ItmB i) : PCalls Tryz.prog 126 [.d (itmD i)] (intD (bndE i)) := by
  obtain ⟨M, hMM⟩ : ∃ M, sumL (ctr i) = M := ⟨_, rfl⟩
  have hs := (sums_c i hi).by [(2, 20)] rfl;rw [hMM] at hs;refine ZaB Tryz.func126 rfl rfl Tryz.ntmps126 rfl rfl rfl fun F hF => ?_;refine Zaf ?_;refine Zab ?_;refine Zal.go (ZaP 1 rfl rfl rfl rfl rfl rfl rfl) ?_;refine Zaa.go (Zac rfl rfl) ?_;refine Zae ?_;refine Zaf ?_;refine Zaf ?_;refine Zab ?_;refine Zaa.go (Zar rfl rfl rw100 rfl rfl rfl) ?_;refine Zal.go (Za8 hs rfl [20] ⟨rfl, trivial⟩ rfl rfl rfl rfl rfl rfl rfl rfl rfl) ?_;refine Zal.go (st_range 2 rfl rfl rfl mt173 rfl rfl rfl rfl) ?_;refine Zae ?_;refine Zaq ?_;refine ZaU (α := List Nat) (fun seen => ⟨15, [(7, (.ptr 2 0 0))], [(2, [.iter 20 0 M.length seen]), (20, [mapC rscD intD M])]⟩) (fun seen => ∀ x ∈ M, x ∈ lft M (List.range M.length) seen ∨ (-Mx ≤ x.2 ∧ x.2 ≤ Mx)) (fun seen => (lft M (List.range M.length) seen).length) ([]) (fun x hx => .inl (by rw [lft_start (by simp)]; exact hx)) (Zaw hF [2, 20] rfl rfl ⟨rfl, trivial⟩) ?_;intro seen hI;refine Zaf ?_;refine Zab ?_;refine o_next (M) rfl rfl rfl rfl (fun hl8 => ?_) (fun j8 b8 k8 v8 hm8 hb8 hB8 hp8 => ⟨_, rfl, ?_⟩)
  · refine Zaa.go (ZaF rfl rfl rfl) ?_;refine Zae ?_;refine Zaf ?_;refine ZaX rfl rfl ?_;refine ZaQ ?_;refine Zaf ?_;refine Zab ?_;refine Zaa.go (Zac rfl rfl) ?_;refine Zae ?_;refine Zao ?_;exact ⟨_, [], [], Zan rfl, rfl, rfl, retI (bnd_ok fun x hx => by rw [hMM] at hx; exact (hI x hx).elim (fun h => by rw [hl8] at h; cases h) id), rfl⟩
  · refine Zaa.go (ZaF rfl rfl rfl) ?_;refine Zae ?_;refine Zaf ?_;refine ZaS rfl rfl ?_;refine Zap ?_;refine Zaq ?_;refine Zaf ?_;refine Zab ?_;refine Zaa.go (st_entry (M) j8 b8 rfl rfl rfl hm8 hb8 rfl) ?_;refine Zaa.go (ZaF rfl rfl rfl) ?_;refine Zaa.go (Zac rfl rfl) ?_;refine Zae ?_;refine Zaf ?_;refine Zab ?_;refine Zaa.go (Zad rfl rfl) ?_;refine Zaa.go (Zau (within64_p v8 (-1000000000000000) 1000000000000000) rfl rfl) ?_;refine Zaa.go (Zbd rfl rfl) ?_;refine Zae ?_;refine ZaG rfl (fun h14 => ?_) (fun h14 => ?_)
    · refine Zaf ?_;refine Zab ?_;refine Zaa.go (Zac rfl rfl) ?_;refine Zae ?_;refine Zao ?_;exact ⟨_, [], [], Zan rfl, rfl, rfl, retI (bnd_bad (by rw [hMM]; exact hm8) (by simpa [Mx] using h14)), rfl⟩
    · refine Zap ?_;exact ⟨seen ++ [b8], fun x hx => (hI x hx).elim (fun h => (List.mem_cons.1 (hp8.mem_iff.1 h)).elim (fun e => .inr (by rw [e]; simpa [Mx] using h14)) .inl) .inr, by rw [hp8.length_eq]; exact Nat.lt_succ_self _, Zaw hF [2, 20] rfl (rfl) ⟨rfl, trivial⟩⟩

theorem Zbt {α : Type} {l : List α} {f : α → Int} : fst0 (l.map f) = 0 ↔ ∀ x ∈ l, f x = 0 := by
  induction l with
  | nil => simp [fst0]
  | cons a l ih =>
    simp only [List.map_cons, fst0]
    split
    · rename_i h; simp [ih, h]
    · rename_i h; simp [h]
def fns (i : Itm) : List (FuncId × Int) := [(122, postE i), (123, payE i), (124, aftE i), (125, balE i), (126, bndE i)]
def checkE (i : Itm) : Int := if ¬ (0 ≤ i.id ∧ i.id ≤ 1000000000) ∨ ¬ (0 ≤ i.sq ∧ i.sq ≤ 1000000000) ∨ ¬ (0 ≤ i.pr ∧ i.pr ≤ 2) then 2 else if 256 < i.po.length ∨ 256 < i.pa.length ∨ 256 < i.af.length then 8 else fst0 ((fns i).map Prod.snd)
theorem post_b {i : Itm} (h : postE i = 0) : ∀ p ∈ i.po, -Mx ≤ p.d ∧ p.d ≤ Mx := fun p hp => by
  have := Zbt.1 h p hp;unfold pErr at this
  split at this; · cases this
  split at this; · cases this
  split at this; · cases this
  rename_i h; exact Decidable.of_not_not h
theorem pay_b {i : Itm} (h : payE i = 0) : ∀ p ∈ i.pa, 0 ≤ p.n ∧ p.n ≤ Mx := fun p hp => by
  have := Zbt.1 h p hp;unfold yErr at this
  split at this; · cases this
  split at this; · cases this
  split at this; · cases this
  rename_i h; exact Decidable.of_not_not h
theorem fns_p (i : Itm) (h1 : i.po.length ≤ 256) (h2 : i.pa.length ≤ 256) (h3 : i.af.length ≤ 256) {k : Nat} (hk : k < (fns i).length) (h0 : ∀ j, j < k → ((fns i)[j]?).map Prod.snd = some 0) : PCalls Tryz.prog (fns i)[k].1 [.d (itmD i)] (intD (fns i)[k].2) := by
  match k, hk with
  | 0, _ => exact postings_p i (by omega)
  | 1, _ => exact payments_p i (by omega)
  | 2, _ => exact after_p i (by omega)
  | 3, _ => exact balanced_p i h1 (post_b (by have := h0 0 (by omega); simpa [fns] using this))
  | 4, _ => exact bounded_p i ⟨h1, h2, h3, post_b (by have := h0 0 (by omega); simpa [fns] using this), pay_b (by have := h0 1 (by omega); simpa [fns] using this)⟩
def fnD (i : Itm) (p : FuncId × Int) : D := .fn p.1 [itmD i] []
set_option maxRecDepth 100000 in
theorem check_p (i : Itm) (g1 : i.po.length ≤ 140737488355328) (g2 : i.pa.length ≤ 140737488355328) (g3 : i.af.length ≤ 140737488355328) : PCalls Tryz.prog 102 [.d (itmD i)] (intD (checkE i)) := by
  refine ZaB Tryz.func102 rfl rfl Tryz.ntmps102 rfl rfl rfl fun F hF => ?_;refine Zaf ?_;refine Zab ?_;refine Zal.go (ZaP 1 rfl rfl rfl rfl rfl rfl rfl) ?_;refine Zaa.go (Zac rfl rfl) ?_;refine Zae ?_;refine Zaf ?_;refine Zaq ?_;refine Zaf ?_;refine Zab ?_;refine Zaa.go (Zah rfl Zbi rfl rfl rfl) ?_;refine Zaa.go (Zai rfl rfl rfl on3 rfl) ?_;refine Zaa.go (Zau (within_p _ _ _) rfl rfl) ?_;refine Zaa.go (Zbd rfl rfl) ?_;refine Zaa.go (Zad rfl rfl) ?_;refine ZaL 11 rfl (fun h11 => ?_) (fun h11 => ?_)
  · refine Zak rfl rfl rfl rfl ?_;refine Zak rfl rfl rfl rfl ?_;refine Zak rfl rfl rfl rfl ?_;refine Zak rfl rfl rfl rfl ?_;refine Zaa.go (Zav rfl rfl rfl rfl) ?_;refine Zaa.go (Zad rfl rfl) ?_;refine Zak rfl rfl rfl rfl ?_;refine Zak rfl rfl rfl rfl ?_;refine Zak rfl rfl rfl rfl ?_;refine Zak rfl rfl rfl rfl ?_;refine Zaa.go (Zav rfl rfl rfl rfl) ?_;refine Zaa.go (Zac rfl rfl) ?_;refine Zae ?_;refine ZaS rfl rfl ?_;refine Zaf ?_;refine Zab ?_;refine Zaa.go (Zac rfl rfl) ?_;refine Zae ?_;refine Zao ?_;exact ⟨_, [], [], Zan rfl, rfl, rfl, retI (by unfold checkE; rw [if_pos (by omega)]), rfl⟩
  · refine Zam rfl rfl rfl ?_;refine Zaa.go (Zah rfl fi100_2 rfl rfl rfl) ?_;refine Zam rfl rfl rfl ?_;refine Zaa.go (Zai rfl rfl rfl on3 rfl) ?_;refine Zam rfl rfl rfl ?_;refine Zaa.go (Zau (within_p _ _ _) rfl rfl) ?_;refine Zam rfl rfl rfl ?_;refine Zaa.go (Zbd rfl rfl) ?_;refine Zaa.go (ZaC rfl rfl rfl rfl) ?_;refine Zaa.go (Zad rfl rfl) ?_;refine ZaL 17 rfl (fun h17 => ?_) (fun h17 => ?_)
    · refine Zak rfl rfl rfl rfl ?_;refine Zak rfl rfl rfl rfl ?_;refine Zak rfl rfl rfl rfl ?_;refine Zak rfl rfl rfl rfl ?_;refine Zaa.go (Zav rfl rfl rfl rfl) ?_;refine Zaa.go (Zac rfl rfl) ?_;refine Zae ?_;refine ZaS rfl rfl ?_;refine Zaf ?_;refine Zab ?_;refine Zaa.go (Zac rfl rfl) ?_;refine Zae ?_;refine Zao ?_;exact ⟨_, [], [], Zan rfl, rfl, rfl, retI (by unfold checkE; rw [if_pos (by omega)]), rfl⟩
    · refine Zam rfl rfl rfl ?_;refine Zaa.go (Zah rfl fi100_1 rfl rfl rfl) ?_;refine Zam rfl rfl rfl ?_;refine Zaa.go (Zai rfl rfl rfl on3 rfl) ?_;refine Zam rfl rfl rfl ?_;refine Zaa.go (Zau (within_p _ _ _) rfl rfl) ?_;refine Zam rfl rfl rfl ?_;refine Zaa.go (Zbd rfl rfl) ?_;refine Zaa.go (ZaC rfl rfl rfl rfl) ?_;refine Zaa.go (Zac rfl rfl) ?_;refine Zae ?_;refine ZaG rfl (fun h6 => ?_) (fun h6 => ?_)
      · refine Zaf ?_;refine Zab ?_;refine Zaa.go (Zac rfl rfl) ?_;refine Zae ?_;refine Zao ?_;exact ⟨_, [], [], Zan rfl, rfl, rfl, retI (by unfold checkE; rw [if_pos (by omega)]), rfl⟩
      · refine Zaf ?_;refine Zab ?_;refine Zaa.go (Zah rfl Zby rfl rfl rfl) ?_;refine Zaa.go (Zai rfl rfl rfl on97 rfl) ?_;refine Zaa.go (Zax rfl Tryz.underlying97 rfl) ?_;refine Zaa.go (Zbv rfl rfl rfl) ?_;refine Zaa.go (Zad rfl rfl) ?_;refine ZaL 28 rfl (fun h28 => ?_) (fun h28 => ?_)
        · refine Zak rfl rfl rfl rfl ?_;refine Zak rfl rfl rfl rfl ?_;refine Zak rfl rfl rfl rfl ?_;refine Zak rfl rfl rfl rfl ?_;refine Zaa.go (Zav rfl rfl rfl rfl) ?_;refine Zaa.go (Zad rfl rfl) ?_;refine Zak rfl rfl rfl rfl ?_;refine Zak rfl rfl rfl rfl ?_;refine Zak rfl rfl rfl rfl ?_;refine Zak rfl rfl rfl rfl ?_;refine Zaa.go (Zav rfl rfl rfl rfl) ?_;refine Zaa.go (Zac rfl rfl) ?_;refine Zae ?_;refine ZaS rfl rfl ?_;refine Zaf ?_;refine Zab ?_;refine Zaa.go (Zac rfl rfl) ?_;refine Zae ?_;refine Zao ?_;exact ⟨_, [], [], Zan rfl, rfl, rfl, retI (by unfold checkE; rw [if_neg (by omega), if_pos (by omega)]), rfl⟩
        · refine Zam rfl rfl rfl ?_;refine Zaa.go (Zah rfl ZbO rfl rfl rfl) ?_;refine Zam rfl rfl rfl ?_;refine Zaa.go (Zai rfl rfl rfl on98 rfl) ?_;refine Zam rfl rfl rfl ?_;refine Zaa.go (Zax rfl Tryz.underlying98 rfl) ?_;refine Zam rfl rfl rfl ?_;refine Zaa.go (Zbv rfl rfl rfl) ?_;refine Zaa.go (ZaC rfl rfl rfl rfl) ?_;refine Zaa.go (Zad rfl rfl) ?_;refine ZaL 34 rfl (fun h34 => ?_) (fun h34 => ?_)
          · refine Zak rfl rfl rfl rfl ?_;refine Zak rfl rfl rfl rfl ?_;refine Zak rfl rfl rfl rfl ?_;refine Zak rfl rfl rfl rfl ?_;refine Zaa.go (Zav rfl rfl rfl rfl) ?_;refine Zaa.go (Zac rfl rfl) ?_;refine Zae ?_;refine ZaS rfl rfl ?_;refine Zaf ?_;refine Zab ?_;refine Zaa.go (Zac rfl rfl) ?_;refine Zae ?_;refine Zao ?_;exact ⟨_, [], [], Zan rfl, rfl, rfl, retI (by unfold checkE; rw [if_neg (by omega), if_pos (by omega)]), rfl⟩
          · refine Zam rfl rfl rfl ?_;refine Zaa.go (Zah rfl Zbs rfl rfl rfl) ?_;refine Zam rfl rfl rfl ?_;refine Zaa.go (Zai rfl rfl rfl on26 rfl) ?_;refine Zam rfl rfl rfl ?_;refine Zaa.go (Zax rfl Tryz.underlying26 rfl) ?_;refine Zam rfl rfl rfl ?_;refine Zaa.go (Zbv rfl rfl rfl) ?_;refine Zaa.go (ZaC rfl rfl rfl rfl) ?_;refine Zaa.go (Zac rfl rfl) ?_;refine Zae ?_;refine ZaG rfl (fun h23 => ?_) (fun h23 => ?_)
            · refine Zaf ?_;refine Zab ?_;refine Zaa.go (Zac rfl rfl) ?_;refine Zae ?_;refine Zao ?_;exact ⟨_, [], [], Zan rfl, rfl, rfl, retI (by unfold checkE; rw [if_neg (by omega), if_pos (by omega)]), rfl⟩
            · refine Zap ?_;refine Zaf ?_;refine Zaf ?_;refine Zab ?_;refine Zaa.go (Zar rfl rfl rw100 rfl rfl rfl) ?_;refine Zaa.go (st_makeFuncD (ds := [itmD i]) (es := []) rfl rfl rfl rfl rfl) ?_;refine Zaa.go (Zar rfl rfl rw100 rfl rfl rfl) ?_;refine Zaa.go (st_makeFuncD (ds := [itmD i]) (es := []) rfl rfl rfl rfl rfl) ?_;refine Zaa.go (Zar rfl rfl rw100 rfl rfl rfl) ?_;refine Zaa.go (st_makeFuncD (ds := [itmD i]) (es := []) rfl rfl rfl rfl rfl) ?_;refine Zaa.go (Zar rfl rfl rw100 rfl rfl rfl) ?_;refine Zaa.go (st_makeFuncD (ds := [itmD i]) (es := []) rfl rfl rfl rfl rfl) ?_;refine Zaa.go (Zar rfl rfl rw100 rfl rfl rfl) ?_;refine Zaa.go (st_makeFuncD (ds := [itmD i]) (es := []) rfl rfl rfl rfl rfl) ?_;refine Zal.go (ZaJ 2 sl202 rfl rfl rfl rfl rfl rfl rfl rfl) ?_;refine Zaa.go (Zbq rfl Tryz.underlying202 rfl) ?_;refine Zaa.go (Zad rfl rfl) ?_;refine Zae ?_;refine Zaq ?_;refine ZaU (α := Nat) (fun k => ⟨62, [(50, (.own 2 0 5)), (51, (.d (intD 5))), (52, (.d (intD (k : Int))))], [(2, [.rowD 180 1 ((fns i).map (fnD i))])]⟩) (fun k => k ≤ 5 ∧ fst0 ((fns i).map Prod.snd) = fst0 (((fns i).drop k).map Prod.snd) ∧ ∀ j, j < k → ((fns i)[j]?).map Prod.snd = some 0) (fun k => 5 - k) (0) (⟨Nat.zero_le _, rfl, fun j h => absurd h (Nat.not_lt_zero j)⟩) (Zaw hF [2] rfl rfl ⟨rfl, rfl, rfl, trivial⟩) ?_;rintro k ⟨hk0, hkE, hkz⟩;refine Zaf ?_;refine Zab ?_;refine Zaa.go (ZaK rfl rfl rfl) ?_;refine Zae ?_;refine Zaf ?_;refine ZaG rfl (fun h53 => ?_) (fun h53 => ?_)
              · have hk1 : k < (fns i).length := by show k < 5; have h := h53; omega
                refine Zap ?_;refine Zaf ?_;refine Zaq ?_;refine Zaf ?_;refine Zab ?_;have hE := Zb0 hk1 hkE;refine Zaa.go (Zbe (k) rfl rfl (rfl) (by show k < 5; exact hk1) rfl Tryz.underlying202 sz180 rfl) ?_;refine Zaa.go (ZaI rfl rfl (getm hk1) rfl on180 rfl) ?_;refine Zaa.go (Zac rfl rfl) ?_;refine Zae ?_;refine Zaf ?_;refine Zab ?_;refine Zaa.go (Zad rfl rfl) ?_;refine Zaa.go (st_callVP (fns_p i (by omega) (by omega) (by omega) hk1 hkz) rfl rfl) ?_;refine Zaa.go (Zac rfl rfl) ?_;refine Zae ?_;refine Zaf ?_;refine Zab ?_;refine Zaa.go (Zad rfl rfl) ?_;refine Zaa.go (Za3 rfl rfl rfl) ?_;refine Zae ?_;refine ZaG rfl (fun h59 => ?_) (fun h59 => ?_)
                · refine Zaf ?_;refine Zab ?_;refine Zaa.go (Zad rfl rfl) ?_;refine Zaa.go (Zac rfl rfl) ?_;refine Zae ?_;refine Zao ?_;exact ⟨_, [], [], Zan rfl, rfl, rfl, retI (by unfold checkE; rw [if_neg (by omega), if_neg (by omega)]; exact hE.2 _ rfl (by simpa using h59)), rfl⟩
                · refine Zap ?_;refine Zab ?_;refine Zaa.go (Zaz rfl rfl (wrapS (k + 1) (by omega)) rfl) ?_;refine Zaa.go (Zad rfl rfl) ?_;refine Zae ?_;exact ⟨k + 1, ⟨by show k + 1 ≤ _; omega, hE.1 (by simpa using h59), fun j hj => (Nat.lt_succ_iff_lt_or_eq.1 hj).elim (hkz j) fun h => by subst h; rw [List.getElem?_eq_getElem hk1]; show some _ = _; congr 1; simpa using h59⟩, by show 5 - (k + 1) < 5 - k; omega, Zaw hF [2] rfl (rfl) ⟨rfl, rfl, rfl, trivial⟩⟩
              · refine ZaQ ?_;refine Zaf ?_;refine Zab ?_;refine Zaa.go (Zac rfl rfl) ?_;refine Zae ?_;refine Zao ?_;exact ⟨_, [], [], Zan rfl, rfl, rfl, retI (by unfold checkE; rw [if_neg (by omega), if_neg (by omega), hkE, fst0_end (by have h := h53; show ¬ k < 5; omega)]), rfl⟩

set_option maxRecDepth 100000 in
theorem or_p (l : List Int) (hn : l.length ≤ 140737488355328) : PCalls Tryz.prog 118 [.d (.sl none (l.map intD))] (intD (fst0 l)) := by
  refine ZaB Tryz.func118 rfl rfl Tryz.ntmps118 rfl rfl rfl fun F hF => ?_;refine Zaf ?_;refine Zab ?_;refine Zaa.go (Zac rfl rfl) ?_;refine Zae ?_;refine Zaf ?_;refine Zab ?_;refine Zaa.go (Zac rfl rfl) ?_;refine Zae ?_;refine Zaf ?_;refine Zaf ?_;refine Zab ?_;refine Zaa.go (Zad rfl rfl) ?_;refine Zaa.go (Zax rfl Tryz.underlying26 rfl) ?_;refine Zaa.go (Zad rfl rfl) ?_;refine Zae ?_;refine Zaq ?_;refine a_loop (α := Nat) (fun k => ⟨18, [(3, (.d (intD 0))), (6, (.d (.sl none (l.map intD)))), (7, (.d (intD (l.length : Int)))), (8, (.d (intD (k : Int))))], []⟩) (fun k => k ≤ l.length ∧ fst0 (l.map id) = fst0 ((l.drop k).map id)) (fun k => l.length - k) (0) (⟨Nat.zero_le _, rfl⟩) (ZbE ⟨rfl, rfl, rfl, rfl, trivial⟩) ?_;rintro k ⟨hk0, hk⟩;refine Zaf ?_;refine Zab ?_;refine Zaa.go (ZaK rfl rfl rfl) ?_;refine Zae ?_;refine Zaf ?_;refine ZaG rfl (fun h9 => ?_) (fun h9 => ?_)
  · have hk1 : k < l.length := ZaM h9;refine Zap ?_;refine Zaf ?_;refine Zaq ?_;refine Zaf ?_;refine Zab ?_;have hE := Zb0 hk1 hk;refine Zaa.go (Zay (k) rfl rfl (rfl) (getm hk1) Tryz.underlying26 rfl sz3 rfl) ?_;refine Zaa.go (Zas rfl rfl on3 rfl) ?_;refine Zaa.go (Zac rfl rfl) ?_;refine Zae ?_;refine Zaf ?_;refine Zab ?_;refine Zaa.go (Zad rfl rfl) ?_;refine Zaa.go (Zad rfl rfl) ?_;refine Zaa.go (Za3 rfl rfl rfl) ?_;refine Zae ?_;refine ZaG rfl (fun h14 => ?_) (fun h14 => ?_)
    · refine Zaf ?_;refine Zab ?_;refine Zaa.go (Zad rfl rfl) ?_;refine Zaa.go (Zac rfl rfl) ?_;refine Zae ?_;refine Zao ?_;exact ⟨_, [], [], Zan rfl, rfl, rfl, retI ((hE.2 l[k] rfl (by simpa using h14)).trans (by rw [List.map_id])), rfl⟩
    · refine Zap ?_;refine Zab ?_;refine Zaa.go (Zaz rfl rfl (wrapS (k + 1) (by omega)) rfl) ?_;refine Zaa.go (Zad rfl rfl) ?_;refine Zae ?_;exact ⟨k + 1, ⟨by show k + 1 ≤ _; omega, hE.1 (by simpa using h14)⟩, by show l.length - (k + 1) < l.length - k; omega, ⟨rfl, rfl, fun _ _ => Has.get (l := [(3, _), (6, _), (7, _), (8, _)]) ⟨rfl, rfl, rfl, rfl, trivial⟩⟩⟩
  · refine ZaQ ?_;refine Zaf ?_;refine Zab ?_;refine Zaa.go (Zad rfl rfl) ?_;refine Zaa.go (Zac rfl rfl) ?_;refine Zae ?_;refine Zao ?_;exact ⟨_, [], [], Zan rfl, rfl, rfl, retI (by rw [List.map_id] at hk; rw [hk, fst0_end (by have h := h9; omega)]), rfl⟩
def cmpR (a b : Rsc) : Int := fst0 [cmpI a.k b.k, cmpS a.acc.o b.acc.o, cmpI a.acc.k b.acc.k, cmpS a.acc.a b.acc.a, cmpS a.f b.f, cmpS a.t b.t]
def ordI (a b : Itm) : Int := fst0 [cmpI b.pr a.pr, cmpI a.sq b.sq]
set_option maxRecDepth 100000 in
set_option maxHeartbeats 2000000 in
theorem compare_p (a b : Rsc) : PCalls Tryz.prog 101 [.d (rscD a), .d (rscD b)] (intD (cmpR a b)) := by
  refine ZaB Tryz.func101 rfl rfl Tryz.ntmps101 rfl rfl rfl fun F hF => ?_;refine Zaf ?_;refine Zab ?_;refine Zal.go (ZaP 1 rfl rfl rfl rfl rfl rfl rfl) ?_;refine Zal.go (ZaP 2 rfl rfl rfl rfl rfl rfl rfl) ?_;refine Zaa.go (Zac rfl rfl) ?_;refine Zae ?_;refine Zaf ?_;refine Za4 [[], [0], [], [2], [0, 1, 2, 3], [], [5], [5, 6], [], [8], [8, 9], [0, 1, 2, 3, 4, 5, 6, 7, 8, 9, 10], [], [12], [12, 13], [], [15], [15, 16], [0, 1, 2, 3, 4, 5, 6, 7, 8, 9, 10, 11, 12, 13, 14, 15, 16, 17], [], [19], [19, 20], [], [22], [22, 23], [0, 1, 2, 3, 4, 5, 6, 7, 8, 9, 10, 11, 12, 13, 14, 15, 16, 17, 18, 19, 20, 21, 22, 23, 24], [], [26], [], [28], [0, 1, 2, 3, 4, 5, 6, 7, 8, 9, 10, 11, 12, 13, 14, 15, 16, 17, 18, 19, 20, 21, 22, 23, 24, 25, 26, 27, 28, 29], [], [31], [], [33], [0, 1, 2, 3, 4, 5, 6, 7, 8, 9, 10, 11, 12, 13, 14, 15, 16, 17, 18, 19, 20, 21, 22, 23, 24, 25, 26, 27, 28, 29, 30, 31, 32, 33, 34], [0, 1, 2, 3, 4, 5, 6, 7, 8, 9, 10, 11, 12, 13, 14, 15, 16, 17, 18, 19, 20, 21, 22, 23, 24, 25, 26, 27, 28, 29, 30, 31, 32, 33, 34, 35], [0, 1, 2, 3, 4, 5, 6, 7, 8, 9, 10, 11, 12, 13, 14, 15, 16, 17, 18, 19, 20, 21, 22, 23, 24, 25, 26, 27, 28, 29, 30, 31, 32, 33, 34, 35, 36], [0, 1, 2, 3, 4, 5, 6, 7, 8, 9, 10, 11, 12, 13, 14, 15, 16, 17, 18, 19, 20, 21, 22, 23, 24, 25, 26, 27, 28, 29, 30, 31, 32, 33, 34, 35, 36, 37]] mixed rfl ?_;refine dws ?_;refine Zaj [2] [] rfl rfl (fun _ => Zag (Zah rfl fi47_0 rfl rfl rfl)) ?_;refine Zat [5] rfl rfl (fun _ => Zag (Zai rfl rfl rfl on3 rfl)) ?_;refine Zaj [3] [] rfl rfl (fun _ => Zag (Zah rfl fi47_0 rfl rfl rfl)) ?_;refine Zat [7] rfl rfl (fun _ => Zag (Zai rfl rfl rfl on3 rfl)) ?_;refine Zaj [6, 8] [] rfl rfl (fun _ => Zag (Zau (cmpI_p a.k b.k) rfl rfl)) ?_;refine Zaj [2] [] rfl rfl (fun _ => Zag (Zah rfl fi47_1 rfl rfl rfl)) ?_;refine Zaj [10] [] rfl rfl (fun _ => Zag (Zah rfl fi45_0 rfl rfl rfl)) ?_;refine Zat [11] rfl rfl (fun _ => Zag (Zai rfl rfl rfl on9 rfl)) ?_;refine Zaj [3] [] rfl rfl (fun _ => Zag (Zah rfl fi47_1 rfl rfl rfl)) ?_;refine Zaj [13] [] rfl rfl (fun _ => Zag (Zah rfl fi45_0 rfl rfl rfl)) ?_;refine Zat [14] rfl rfl (fun _ => Zag (Zai rfl rfl rfl on9 rfl)) ?_;refine Zaj [12, 15] [] rfl rfl (fun _ => Zag (Zau (cmpS_p a.acc.o b.acc.o) rfl rfl)) ?_;refine Zaj [2] [] rfl rfl (fun _ => Zag (Zah rfl fi47_1 rfl rfl rfl)) ?_;refine Zaj [17] [] rfl rfl (fun _ => Zag (Zah rfl fi45_1 rfl rfl rfl)) ?_;refine Zat [18] rfl rfl (fun _ => Zag (Zai rfl rfl rfl on3 rfl)) ?_;refine Zaj [3] [] rfl rfl (fun _ => Zag (Zah rfl fi47_1 rfl rfl rfl)) ?_;refine Zaj [20] [] rfl rfl (fun _ => Zag (Zah rfl fi45_1 rfl rfl rfl)) ?_;refine Zat [21] rfl rfl (fun _ => Zag (Zai rfl rfl rfl on3 rfl)) ?_;refine Zaj [19, 22] [] rfl rfl (fun _ => Zag (Zau (cmpI_p a.acc.k b.acc.k) rfl rfl)) ?_;refine Zaj [2] [] rfl rfl (fun _ => Zag (Zah rfl fi47_1 rfl rfl rfl)) ?_;refine Zaj [24] [] rfl rfl (fun _ => Zag (Zah rfl fi45_2 rfl rfl rfl)) ?_;refine Zat [25] rfl rfl (fun _ => Zag (Zai rfl rfl rfl on9 rfl)) ?_;refine Zaj [3] [] rfl rfl (fun _ => Zag (Zah rfl fi47_1 rfl rfl rfl)) ?_;refine Zaj [27] [] rfl rfl (fun _ => Zag (Zah rfl fi45_2 rfl rfl rfl)) ?_;refine Zat [28] rfl rfl (fun _ => Zag (Zai rfl rfl rfl on9 rfl)) ?_;refine Zaj [26, 29] [] rfl rfl (fun _ => Zag (Zau (cmpS_p a.acc.a b.acc.a) rfl rfl)) ?_;refine Zaj [2] [] rfl rfl (fun _ => Zag (Zah rfl fi47_2 rfl rfl rfl)) ?_;refine Zat [31] rfl rfl (fun _ => Zag (Zai rfl rfl rfl on9 rfl)) ?_;refine Zaj [3] [] rfl rfl (fun _ => Zag (Zah rfl fi47_2 rfl rfl rfl)) ?_;refine Zat [33] rfl rfl (fun _ => Zag (Zai rfl rfl rfl on9 rfl)) ?_;refine Zaj [32, 34] [] rfl rfl (fun _ => Zag (Zau (cmpS_p a.f b.f) rfl rfl)) ?_;refine Zaj [2] [] rfl rfl (fun _ => Zag (Zah rfl fi47_3 rfl rfl rfl)) ?_;refine Zat [36] rfl rfl (fun _ => Zag (Zai rfl rfl rfl on9 rfl)) ?_;refine Zaj [3] [] rfl rfl (fun _ => Zag (Zah rfl fi47_3 rfl rfl rfl)) ?_;refine Zat [38] rfl rfl (fun _ => Zag (Zai rfl rfl rfl on9 rfl)) ?_;refine dwc 35 rfl rfl rfl ?_;refine dw1 36 rfl rfl ?_;refine Zaa.go (Zau (cmpS_p a.t b.t) rfl rfl) ?_;refine Zae ⟨rfl, ?_⟩;refine dw1 37 rfl rfl ?_;refine Zal.go (ZaJ 3 sl26 rfl rfl rfl rfl rfl rfl rfl rfl) ?_;refine Zae ⟨rfl, ?_⟩;refine dw1 38 rfl rfl ?_;refine Zaa.go (st_callPB [3] (or_p [cmpI a.k b.k, cmpS a.acc.o b.acc.o, cmpI a.acc.k b.acc.k, cmpS a.acc.a b.acc.a, cmpS a.f b.f, cmpS a.t b.t] (by simp)) (by exact ⟨.inr ⟨_, _, rfl, .own rfl rfl (by simp) (List.take_of_length_le (by simp)), rfl⟩, trivial⟩) rfl rfl) ?_;refine Zae ⟨rfl, ?_⟩;refine dw1 39 rfl rfl ?_;refine Zaa.go (Zac rfl rfl) ?_;refine Zae ⟨rfl, ?_⟩;refine dwe ?_;refine Zao ?_;exact ⟨_, [], [], Zan rfl, rfl, rfl, rfl, rfl⟩
set_option maxRecDepth 100000 in
theorem order_p (a b : Itm) : PCalls Tryz.prog 143 [.d (itmD a), .d (itmD b)] (intD (ordI a b)) := by
  refine ZaB Tryz.func143 rfl rfl Tryz.ntmps143 rfl rfl rfl fun F hF => ?_;refine Zaf ?_;refine Zab ?_;refine Zal.go (ZaP 1 rfl rfl rfl rfl rfl rfl rfl) ?_;refine Zal.go (ZaP 2 rfl rfl rfl rfl rfl rfl rfl) ?_;refine Zaa.go (Zac rfl rfl) ?_;refine Zae ?_;refine Zaf ?_;refine Za4 [[], [0], [], [2], [0, 1, 2, 3], [], [5], [], [7], [0, 1, 2, 3, 4, 5, 6, 7, 8], [0, 1, 2, 3, 4, 5, 6, 7, 8, 9], [0, 1, 2, 3, 4, 5, 6, 7, 8, 9, 10], [0, 1, 2, 3, 4, 5, 6, 7, 8, 9, 10, 11]] mixed rfl ?_;refine dws ?_;refine Zaj [3] [] rfl rfl (fun _ => Zag (Zah rfl fi100_1 rfl rfl rfl)) ?_;refine Zat [5] rfl rfl (fun _ => Zag (Zai rfl rfl rfl on3 rfl)) ?_;refine Zaj [2] [] rfl rfl (fun _ => Zag (Zah rfl fi100_1 rfl rfl rfl)) ?_;refine Zat [7] rfl rfl (fun _ => Zag (Zai rfl rfl rfl on3 rfl)) ?_;refine Zaj [6, 8] [] rfl rfl (fun _ => Zag (Zau (cmpI_p b.pr a.pr) rfl rfl)) ?_;refine Zaj [2] [] rfl rfl (fun _ => Zag (Zah rfl fi100_2 rfl rfl rfl)) ?_;refine Zat [10] rfl rfl (fun _ => Zag (Zai rfl rfl rfl on3 rfl)) ?_;refine Zaj [3] [] rfl rfl (fun _ => Zag (Zah rfl fi100_2 rfl rfl rfl)) ?_;refine Zat [12] rfl rfl (fun _ => Zag (Zai rfl rfl rfl on3 rfl)) ?_;refine dwc 9 rfl rfl rfl ?_;refine dw1 10 rfl rfl ?_;refine Zaa.go (Zau (cmpI_p a.sq b.sq) rfl rfl) ?_;refine Zae ⟨rfl, ?_⟩;refine dw1 11 rfl rfl ?_;refine Zal.go (ZaJ 3 sl26 rfl rfl rfl rfl rfl rfl rfl rfl) ?_;refine Zae ⟨rfl, ?_⟩;refine dw1 12 rfl rfl ?_;refine Zaa.go (st_callPB [3] (or_p [cmpI b.pr a.pr, cmpI a.sq b.sq] (by simp)) (by exact ⟨.inr ⟨_, _, rfl, .own rfl rfl (by simp) (List.take_of_length_le (by simp)), rfl⟩, trivial⟩) rfl rfl) ?_;refine Zae ⟨rfl, ?_⟩;refine dw1 13 rfl rfl ?_;refine Zaa.go (Zac rfl rfl) ?_;refine Zae ⟨rfl, ?_⟩;refine dwe ?_;refine Zao ?_;exact ⟨_, [], [], Zan rfl, rfl, rfl, rfl, rfl⟩
end Go.Proofs.YtnamabifclidmaaGreat

/- Orders by comparison functions; what is sorted and has no two of one rank is one. Plain. -/
namespace Go.Proofs.YtnamabifclidmaaGreat
open Go.RowKit

theorem ltS_trans : ∀ a b c : List UInt8, ltS a b = true → ltS b c = true → ltS a c = true
  | [], [], _, h, _ => by simp [ltS, Op.bytesLess] at h
  | [], _ :: _, [], _, h => by simp [ltS, Op.bytesLess] at h
  | [], _ :: _, _ :: _, _, _ => by simp [ltS, Op.bytesLess]
  | _ :: _, [], _, h, _ => by simp [ltS, Op.bytesLess] at h
  | _ :: _, _ :: _, [], _, h => by simp [ltS, Op.bytesLess] at h
  | a :: x, b :: y, c :: z, h1, h2 => by
    simp only [ltS, Op.bytesLess, Bool.or_eq_true, decide_eq_true_eq, Bool.and_eq_true, beq_iff_eq] at h1 h2 ⊢;rcases h1 with h1 | ⟨rfl, h1⟩ <;> rcases h2 with h2 | ⟨rfl, h2⟩
    · exact .inl (UInt8.lt_trans h1 h2)
    · exact .inl h1
    · exact .inl h2
    · exact .inr ⟨rfl, ltS_trans x y z h1 h2⟩
theorem ltS_irrefl (a : List UInt8) : ltS a a = false := by
  have := less_swap a a;simp only [ltS]
  cases h : Op.bytesLess a a with
  | false => rfl
  | true => rw [h] at this; simp at this

structure PC {γ : Type} (c : γ → γ → Int) : Prop where
  anti : ∀ x y, c y x = - c x y
  trans : ∀ x y z, c x y < 0 → c y z < 0 → c x z < 0
  eqv : ∀ x y z, c x y = 0 → c x z = c y z
theorem cmpI_pc : PC cmpI := ⟨fun x y => by unfold cmpI; split <;> split <;> first | omega | rfl, fun x y z => by unfold cmpI; split <;> split <;> (try split) <;> (try split) <;> (try split) <;> (try split) <;> first | omega | simp, fun x y z h => by
  have : x = y := by unfold cmpI at h; split at h; · cases h
                     split at h; · cases h
                     omega
  rw [this]⟩
theorem cmpS_zero {a b : List UInt8} : cmpS a b = 0 ↔ a = b := by
  unfold cmpS
  constructor
  · intro h
    split at h; · cases h
    split at h; · cases h
    rename_i h1 h2
    have := less_swap a b
    change ltS b a = (!ltS a b && !a == b) at this
    simp only [Bool.not_eq_true] at h1 h2;rw [h1, h2] at this
    simpa using this
  · rintro rfl;rw [if_neg (by rw [ltS_irrefl]; simp), if_neg (by rw [ltS_irrefl]; simp)]
theorem cmpS_neg {a b : List UInt8} : cmpS a b < 0 ↔ ltS a b = true := by
  unfold cmpS; split
  · rename_i h; simp [h]
  · rename_i h; split <;> simp [h]
theorem cmpS_pc : PC cmpS := ⟨fun x y => by
  unfold cmpS
  by_cases h1 : ltS x y = true
  · have h2 : ¬ ltS y x = true := fun h2 => by have := ltS_trans x y x h1 h2; rw [ltS_irrefl] at this; cases this
    rw [if_neg h2, if_pos h1, if_pos h1]; rfl
  · by_cases h2 : ltS y x = true
    · rw [if_pos h2, if_neg h1, if_pos h2]
    · rw [if_neg h2, if_neg h1, if_neg h1, if_neg h2]; rfl, fun x y z h1 h2 => cmpS_neg.2 (ltS_trans x y z (cmpS_neg.1 h1) (cmpS_neg.1 h2)), fun x y z h => by rw [cmpS_zero.1 h]⟩
theorem PC.comap {γ δ : Type} {c : γ → γ → Int} (h : PC c) (f : δ → γ) : PC fun x y => c (f x) (f y) := ⟨fun _ _ => h.anti _ _, fun _ _ _ => h.trans _ _ _, fun _ _ _ => h.eqv _ _ _⟩
theorem PC.rev {γ : Type} {c : γ → γ → Int} (h : PC c) : PC fun x y => c y x := ⟨fun x y => h.anti y x, fun x y z h1 h2 => h.trans _ _ _ h2 h1, fun x y z h1 => by
  have e : c x y = 0 := by have := h.anti y x; omega
  have := h.eqv x y z e
  rw [h.anti x z, h.anti y z, this]⟩
theorem PC.zero {γ : Type} : PC fun _ _ : γ => (0 : Int) := ⟨fun _ _ => rfl, fun _ _ _ h => by omega, fun _ _ _ _ => rfl⟩
theorem PC.lex {γ : Type} {c : γ → γ → Int} {r : γ → γ → List Int} (h : PC c) (h' : PC fun x y => fst0 (r x y)) : PC fun x y => fst0 (c x y :: r x y) := by
  have sw : ∀ x y, c x y = 0 ↔ c y x = 0 := fun x y => by have := h.anti x y; omega
  refine ⟨fun x y => ?_, fun x y z => ?_, fun x y z => ?_⟩
  · simp only [fst0]
    by_cases e : c x y = 0
    · rw [if_pos e, if_pos ((sw x y).1 e)]; exact h'.anti x y
    · rw [if_neg e, if_neg (fun e' => e ((sw x y).2 e'))]; exact h.anti x y
  · simp only [fst0];intro h1 h2
    by_cases e1 : c x y = 0 <;> by_cases e2 : c y z = 0
    · have e3 : c x z = 0 := by rw [h.eqv x y z e1]; exact e2
      rw [if_pos e1] at h1; rw [if_pos e2] at h2; rw [if_pos e3]; exact h'.trans x y z h1 h2
    · rw [if_neg e2] at h2;have e3 : c x z = c y z := h.eqv x y z e1;rw [if_neg (by rw [e3]; exact e2), e3]; exact h2
    · rw [if_neg e1] at h1;have e3 : c z x = c y x := (h.eqv y z x e2).symm;have e4 : c x z = c x y := by rw [h.anti z x, h.anti y x, e3]
      rw [if_neg (by rw [e4]; exact e1), e4]; exact h1
    · rw [if_neg e1] at h1; rw [if_neg e2] at h2;have := h.trans x y z h1 h2;rw [if_neg (by omega)]; exact this
  · simp only [fst0];intro h1
    have e1 : c x y = 0 := by
      by_cases e : c x y = 0
      · exact e
      · rw [if_neg e] at h1; exact h1
    rw [if_pos e1] at h1;rw [h.eqv x y z e1];rw [h'.eqv x y z h1]
theorem PC.last {γ : Type} : PC fun x y : γ => fst0 ((fun _ _ : γ => ([] : List Int)) x y) := PC.zero
theorem cmpR_pc : PC cmpR :=
  PC.lex (cmpI_pc.comap Rsc.k) <| PC.lex (cmpS_pc.comap fun r : Rsc => r.acc.o) <| PC.lex (cmpI_pc.comap fun r : Rsc => r.acc.k) <| PC.lex (cmpS_pc.comap fun r : Rsc => r.acc.a) <| PC.lex (cmpS_pc.comap Rsc.f) <| PC.lex (cmpS_pc.comap Rsc.t) PC.last
theorem ordI_pc : PC ordI := PC.lex (cmpI_pc.comap Itm.pr).rev <| PC.lex (cmpI_pc.comap Itm.sq) PC.last
theorem PC.refl {γ : Type} {c : γ → γ → Int} (h : PC c) (x : γ) : c x x = 0 := by have := h.anti x x; omega
theorem PC.swo {γ : Type} {c : γ → γ → Int} (h : PC c) : Go.Sort.SWO (ltOf c) := by
  refine ⟨fun x => ?_, fun x y z h1 h2 => ?_, fun x y z h1 h2 => ?_⟩
  · simp [ltOf, h.refl]
  · simp only [ltOf, decide_eq_true_eq] at *; exact h.trans x y z h1 h2
  · simp only [ltOf, decide_eq_false_iff_not] at *;have a1 := h.anti x y; have a2 := h.anti y z; have a3 := h.anti x z
    by_cases e : c x y = 0
    · rw [h.eqv x y z e]; exact h2
    · by_cases e2 : c y z = 0
      · have := h.eqv y z x e2;rw [h.anti x y, h.anti x z] at this; omega
      · have := h.trans z y x (by omega) (by omega); omega
theorem cmpI_zero {a b : Int} : cmpI a b = 0 ↔ a = b := by
  unfold cmpI; split
  · constructor <;> intro h <;> omega
  · split <;> constructor <;> intro h <;> omega
theorem cmpR_zero {a b : Rsc} : cmpR a b = 0 ↔ a = b := by
  unfold cmpR;simp only [fst0];rw [Rsc.eq_iff, Acc.eq_iff]
  constructor
  · intro h
    repeat' split at h
    all_goals first
      | contradiction
      | (rename_i h1 h2 h3 h4 h5 h6; exact ⟨cmpI_zero.1 h1, ⟨cmpS_zero.1 h2, cmpI_zero.1 h3, cmpS_zero.1 h4⟩, cmpS_zero.1 h5, cmpS_zero.1 h6⟩)
  · rintro ⟨h1, ⟨h2, h3, h4⟩, h5, h6⟩;rw [h1, h2, h3, h4, h5, h6]
    simp [cmpI_zero, cmpS_zero]

theorem strict_one {γ : Type} {R : γ → γ → Prop} (irr : ∀ x, ¬ R x x) (tr : ∀ x y z, R x y → R y z → R x z) : ∀ {l m : List γ}, l.Pairwise R → m.Pairwise R → (∀ x, x ∈ l ↔ x ∈ m) → l = m
  | [], [], _, _, _ => rfl
  | [], b :: m, _, _, h => by have := (h b).2 (by simp); cases this
  | a :: l, [], _, _, h => by have := (h a).1 (by simp); cases this
  | a :: l, b :: m, h1, h2, h => by
    rw [List.pairwise_cons] at h1 h2
    have e : a = b := by
      rcases List.mem_cons.1 ((h a).1 (by simp)) with e | h3
      · exact e
      · rcases List.mem_cons.1 ((h b).2 (by simp)) with e | h4
        · exact e.symm
        · exact absurd (tr _ _ _ (h1.1 b h4) (h2.1 a h3)) (irr a)
    subst e
    congr 1
    refine strict_one irr tr h1.2 h2.2 fun x => ⟨fun hx => ?_, fun hx => ?_⟩
    · rcases List.mem_cons.1 ((h x).1 (by simp [hx])) with e | h3
      · subst e; exact absurd (h1.1 x hx) (irr x)
      · exact h3
    · rcases List.mem_cons.1 ((h x).2 (by simp [hx])) with e | h3
      · subst e; exact absurd (h2.1 x hx) (irr x)
      · exact h3
end Go.Proofs.YtnamabifclidmaaGreat

/- Layer 28: valid resources; the deltas of an item. -/
namespace Go.Proofs.YtnamabifclidmaaGreat
open Go.RowKit

abbrev accZ : Acc := ⟨[], 0, []⟩
def validE (r : Rsc) : Int :=
  if r.k = 0 then (if r.acc.o ≠ [] ∧ r.acc.a ≠ [] ∧ 0 ≤ r.acc.k ∧ r.acc.k < 5 ∧ r.f = [] ∧ r.t = [] then 0 else 3)
  else if r.k = 1 then (if r.f ≠ [] ∧ r.t ≠ [] ∧ r.f ≠ r.t ∧ r.acc = accZ then 0 else 3)
  else if r.k = 2 then (if r.f ≠ [] ∧ r.t = [] ∧ r.acc = accZ then 0 else 3) else 11
set_option maxRecDepth 100000 in
theorem valid_p (r : Rsc) : PCalls Tryz.prog 103 [.d (rscD r)] (intD (validE r)) := by
  refine ZaB Tryz.func103 rfl rfl Tryz.ntmps103 rfl rfl rfl fun F hF => ?_;refine Zaf ?_;refine Zab ?_;refine Zal.go (ZaP 1 rfl rfl rfl rfl rfl rfl rfl) ?_;refine Zaa.go (Zac rfl rfl) ?_;refine Zae ?_;refine Zaf ?_;refine Zab ?_;refine Zaa.go (Zac rfl rfl) ?_;refine Zae ?_;refine Zaf ?_;refine Zaf ?_;refine Zab ?_;refine Zaa.go (Zah rfl fi47_0 rfl rfl rfl) ?_;refine Zaa.go (Zai rfl rfl rfl on3 rfl) ?_;refine Zae ?_;refine Zaq ?_;refine Zaf ?_;refine Zab ?_;refine Zaa.go (Za6 rfl rfl rfl) ?_;refine Zaa.go (Zac rfl rfl) ?_;refine Zae ?_;refine ZaG rfl (fun h6 => ?_) (fun h6 => ?_)
  · refine Zab ?_;refine Zaa.go (Zah rfl fi47_1 rfl rfl rfl) ?_;refine Zaa.go (Zah rfl fi45_0 rfl rfl rfl) ?_;refine Zaa.go (Zai rfl rfl rfl on9 rfl) ?_;refine Zaa.go (Zbb rfl rfl rfl) ?_;refine Zaa.go (Zad rfl rfl) ?_;refine ZaL 12 rfl (fun h12 => ?_) (fun h12 => ?_)
    · refine Zam rfl rfl rfl ?_;refine Zaa.go (Zah rfl fi47_1 rfl rfl rfl) ?_;refine Zam rfl rfl rfl ?_;refine Zaa.go (Zah rfl fi45_2 rfl rfl rfl) ?_;refine Zam rfl rfl rfl ?_;refine Zaa.go (Zai rfl rfl rfl on9 rfl) ?_;refine Zam rfl rfl rfl ?_;refine Zaa.go (Zbb rfl rfl rfl) ?_;refine Zaa.go (Zav rfl rfl rfl rfl) ?_;refine Zaa.go (Zad rfl rfl) ?_;refine ZaL 18 rfl (fun h18 => ?_) (fun h18 => ?_)
      · refine Zam rfl rfl rfl ?_;refine Zaa.go (Zah rfl fi47_1 rfl rfl rfl) ?_;refine Zam rfl rfl rfl ?_;refine Zaa.go (Zah rfl fi45_1 rfl rfl rfl) ?_;refine Zam rfl rfl rfl ?_;refine Zaa.go (Zai rfl rfl rfl on3 rfl) ?_;refine Zam rfl rfl rfl ?_;refine Zaa.go (st_geq rfl rfl rfl) ?_;refine Zaa.go (Zav rfl rfl rfl rfl) ?_;refine Zaa.go (Zad rfl rfl) ?_;refine ZaL 24 rfl (fun h24 => ?_) (fun h24 => ?_)
        · refine Zam rfl rfl rfl ?_;refine Zaa.go (Zah rfl fi47_1 rfl rfl rfl) ?_;refine Zam rfl rfl rfl ?_;refine Zaa.go (Zah rfl fi45_1 rfl rfl rfl) ?_;refine Zam rfl rfl rfl ?_;refine Zaa.go (Zai rfl rfl rfl on3 rfl) ?_;refine Zam rfl rfl rfl ?_;refine Zaa.go (ZaK rfl rfl rfl) ?_;refine Zaa.go (Zav rfl rfl rfl rfl) ?_;refine Zaa.go (Zad rfl rfl) ?_;refine ZaL 30 rfl (fun h30 => ?_) (fun h30 => ?_)
          · refine Zam rfl rfl rfl ?_;refine Zaa.go (Zah rfl fi47_2 rfl rfl rfl) ?_;refine Zam rfl rfl rfl ?_;refine Zaa.go (Zai rfl rfl rfl on9 rfl) ?_;refine Zam rfl rfl rfl ?_;refine Zaa.go (ZaZ rfl rfl rfl) ?_;refine Zaa.go (Zav rfl rfl rfl rfl) ?_;refine Zaa.go (Zad rfl rfl) ?_;refine ZaL 35 rfl (fun h35 => ?_) (fun h35 => ?_)
            · refine Zam rfl rfl rfl ?_;refine Zaa.go (Zah rfl fi47_3 rfl rfl rfl) ?_;refine Zam rfl rfl rfl ?_;refine Zaa.go (Zai rfl rfl rfl on9 rfl) ?_;refine Zam rfl rfl rfl ?_;refine Zaa.go (ZaZ rfl rfl rfl) ?_;refine Zaa.go (Zav rfl rfl rfl rfl) ?_;refine Zaa.go (Zac rfl rfl) ?_;refine Zae ?_;refine Zaf ?_;refine Zaf ?_;refine Zab ?_;refine Zaa.go (Zad rfl rfl) ?_;refine Zaa.go (Zbd rfl rfl) ?_;refine Zae ?_;refine ZaG rfl (fun h80 => ?_) (fun h80 => ?_)
              · refine Zaf ?_;refine Zab ?_;refine Zaa.go (Zac rfl rfl) ?_;refine Zae ?_;refine Zao ?_;exact ⟨_, [], [], Zan rfl, rfl, rfl, retI (by unfold validE; simp_all <;> (intros; omega)), rfl⟩
              · refine Zap ?_;refine Zaf ?_;refine Zab ?_;refine Zaa.go (Zac rfl rfl) ?_;refine Zae ?_;refine Zao ?_;exact ⟨_, [], [], Zan rfl, rfl, rfl, retI (by unfold validE; simp_all <;> (intros; omega)), rfl⟩
            · refine Zak rfl rfl rfl rfl ?_;refine Zak rfl rfl rfl rfl ?_;refine Zak rfl rfl rfl rfl ?_;refine Zaa.go (ZaC rfl rfl rfl rfl) ?_;refine Zaa.go (Zac rfl rfl) ?_;refine Zae ?_;refine Zaf ?_;refine Zaf ?_;refine Zab ?_;refine Zaa.go (Zad rfl rfl) ?_;refine Zaa.go (st_notF rfl rfl) ?_;refine Zae ?_;refine ZaS rfl rfl ?_;refine Zaf ?_;refine Zab ?_;refine Zaa.go (Zac rfl rfl) ?_;refine Zae ?_;refine Zao ?_;exact ⟨_, [], [], Zan rfl, rfl, rfl, retI (by unfold validE; simp_all <;> (intros; omega)), rfl⟩
          · refine Zak rfl rfl rfl rfl ?_;refine Zak rfl rfl rfl rfl ?_;refine Zak rfl rfl rfl rfl ?_;refine Zaa.go (ZaC rfl rfl rfl rfl) ?_;refine Zaa.go (Zad rfl rfl) ?_;refine Zak rfl rfl rfl rfl ?_;refine Zak rfl rfl rfl rfl ?_;refine Zak rfl rfl rfl rfl ?_;refine Zaa.go (ZaC rfl rfl rfl rfl) ?_;refine Zaa.go (Zac rfl rfl) ?_;refine Zae ?_;refine Zaf ?_;refine Zaf ?_;refine Zab ?_;refine Zaa.go (Zad rfl rfl) ?_;refine Zaa.go (st_notF rfl rfl) ?_;refine Zae ?_;refine ZaS rfl rfl ?_;refine Zaf ?_;refine Zab ?_;refine Zaa.go (Zac rfl rfl) ?_;refine Zae ?_;refine Zao ?_;exact ⟨_, [], [], Zan rfl, rfl, rfl, retI (by unfold validE; simp_all <;> (intros; omega)), rfl⟩
        · refine Zak rfl rfl rfl rfl ?_;refine Zak rfl rfl rfl rfl ?_;refine Zak rfl rfl rfl rfl ?_;refine Zak rfl rfl rfl rfl ?_;refine Zaa.go (ZaC rfl rfl rfl rfl) ?_;refine Zaa.go (Zad rfl rfl) ?_;refine Zak rfl rfl rfl rfl ?_;refine Zak rfl rfl rfl rfl ?_;refine Zak rfl rfl rfl rfl ?_;refine Zaa.go (ZaC rfl rfl rfl rfl) ?_;refine Zaa.go (Zad rfl rfl) ?_;refine Zak rfl rfl rfl rfl ?_;refine Zak rfl rfl rfl rfl ?_;refine Zak rfl rfl rfl rfl ?_;refine Zaa.go (ZaC rfl rfl rfl rfl) ?_;refine Zaa.go (Zac rfl rfl) ?_;refine Zae ?_;refine Zaf ?_;refine Zaf ?_;refine Zab ?_;refine Zaa.go (Zad rfl rfl) ?_;refine Zaa.go (st_notF rfl rfl) ?_;refine Zae ?_;refine ZaS rfl rfl ?_;refine Zaf ?_;refine Zab ?_;refine Zaa.go (Zac rfl rfl) ?_;refine Zae ?_;refine Zao ?_;exact ⟨_, [], [], Zan rfl, rfl, rfl, retI (by unfold validE; simp_all <;> (intros; omega)), rfl⟩
      · refine Zak rfl rfl rfl rfl ?_;refine Zak rfl rfl rfl rfl ?_;refine Zak rfl rfl rfl rfl ?_;refine Zak rfl rfl rfl rfl ?_;refine Zaa.go (ZaC rfl rfl rfl rfl) ?_;refine Zaa.go (Zad rfl rfl) ?_;refine Zak rfl rfl rfl rfl ?_;refine Zak rfl rfl rfl rfl ?_;refine Zak rfl rfl rfl rfl ?_;refine Zak rfl rfl rfl rfl ?_;refine Zaa.go (ZaC rfl rfl rfl rfl) ?_;refine Zaa.go (Zad rfl rfl) ?_;refine Zak rfl rfl rfl rfl ?_;refine Zak rfl rfl rfl rfl ?_;refine Zak rfl rfl rfl rfl ?_;refine Zaa.go (ZaC rfl rfl rfl rfl) ?_;refine Zaa.go (Zad rfl rfl) ?_;refine Zak rfl rfl rfl rfl ?_;refine Zak rfl rfl rfl rfl ?_;refine Zak rfl rfl rfl rfl ?_;refine Zaa.go (ZaC rfl rfl rfl rfl) ?_;refine Zaa.go (Zac rfl rfl) ?_;refine Zae ?_;refine Zaf ?_;refine Zaf ?_;refine Zab ?_;refine Zaa.go (Zad rfl rfl) ?_;refine Zaa.go (st_notF rfl rfl) ?_;refine Zae ?_;refine ZaS rfl rfl ?_;refine Zaf ?_;refine Zab ?_;refine Zaa.go (Zac rfl rfl) ?_;refine Zae ?_;refine Zao ?_;exact ⟨_, [], [], Zan rfl, rfl, rfl, retI (by unfold validE; simp_all <;> (intros; omega)), rfl⟩
    · refine Zak rfl rfl rfl rfl ?_;refine Zak rfl rfl rfl rfl ?_;refine Zak rfl rfl rfl rfl ?_;refine Zak rfl rfl rfl rfl ?_;refine Zaa.go (ZaC rfl rfl rfl rfl) ?_;refine Zaa.go (Zad rfl rfl) ?_;refine Zak rfl rfl rfl rfl ?_;refine Zak rfl rfl rfl rfl ?_;refine Zak rfl rfl rfl rfl ?_;refine Zak rfl rfl rfl rfl ?_;refine Zaa.go (ZaC rfl rfl rfl rfl) ?_;refine Zaa.go (Zad rfl rfl) ?_;refine Zak rfl rfl rfl rfl ?_;refine Zak rfl rfl rfl rfl ?_;refine Zak rfl rfl rfl rfl ?_;refine Zak rfl rfl rfl rfl ?_;refine Zaa.go (ZaC rfl rfl rfl rfl) ?_;refine Zaa.go (Zad rfl rfl) ?_;refine Zak rfl rfl rfl rfl ?_;refine Zak rfl rfl rfl rfl ?_;refine Zak rfl rfl rfl rfl ?_;refine Zaa.go (ZaC rfl rfl rfl rfl) ?_;refine Zaa.go (Zad rfl rfl) ?_;refine Zak rfl rfl rfl rfl ?_;refine Zak rfl rfl rfl rfl ?_;refine Zak rfl rfl rfl rfl ?_;refine Zaa.go (ZaC rfl rfl rfl rfl) ?_;refine Zaa.go (Zac rfl rfl) ?_;refine Zae ?_;refine Zaf ?_;refine Zaf ?_;refine Zab ?_;refine Zaa.go (Zad rfl rfl) ?_;refine Zaa.go (st_notF rfl rfl) ?_;refine Zae ?_;refine ZaS rfl rfl ?_;refine Zaf ?_;refine Zab ?_;refine Zaa.go (Zac rfl rfl) ?_;refine Zae ?_;refine Zao ?_;exact ⟨_, [], [], Zan rfl, rfl, rfl, retI (by unfold validE; simp_all <;> (intros; omega)), rfl⟩
  · refine Zaf ?_;refine Zab ?_;refine Zaa.go (Za6 rfl rfl rfl) ?_;refine Zaa.go (Zac rfl rfl) ?_;refine Zae ?_;refine ZaG rfl (fun h40 => ?_) (fun h40 => ?_)
    · refine Zab ?_;refine Zaa.go (Zah rfl fi47_2 rfl rfl rfl) ?_;refine Zaa.go (Zai rfl rfl rfl on9 rfl) ?_;refine Zaa.go (Zbb rfl rfl rfl) ?_;refine Zaa.go (Zad rfl rfl) ?_;refine ZaL 45 rfl (fun h45 => ?_) (fun h45 => ?_)
      · refine Zam rfl rfl rfl ?_;refine Zaa.go (Zah rfl fi47_3 rfl rfl rfl) ?_;refine Zam rfl rfl rfl ?_;refine Zaa.go (Zai rfl rfl rfl on9 rfl) ?_;refine Zam rfl rfl rfl ?_;refine Zaa.go (Zbb rfl rfl rfl) ?_;refine Zaa.go (Zav rfl rfl rfl rfl) ?_;refine Zaa.go (Zad rfl rfl) ?_;refine ZaL 50 rfl (fun h50 => ?_) (fun h50 => ?_)
        · refine Zam rfl rfl rfl ?_;refine Zaa.go (Zah rfl fi47_2 rfl rfl rfl) ?_;refine Zam rfl rfl rfl ?_;refine Zaa.go (Zai rfl rfl rfl on9 rfl) ?_;refine Zam rfl rfl rfl ?_;refine Zaa.go (Zah rfl fi47_3 rfl rfl rfl) ?_;refine Zam rfl rfl rfl ?_;refine Zaa.go (Zai rfl rfl rfl on9 rfl) ?_;refine Zam rfl rfl rfl ?_;refine Zaa.go (Zbb rfl rfl rfl) ?_;refine Zaa.go (Zav rfl rfl rfl rfl) ?_;refine Zaa.go (Zad rfl rfl) ?_;refine ZaL 57 rfl (fun h57 => ?_) (fun h57 => ?_)
          · refine Zam rfl rfl rfl ?_;refine Zaa.go (Zah rfl fi47_1 rfl rfl rfl) ?_;refine Zam rfl rfl rfl ?_;refine Zaa.go (Zar rfl rfl rw45 rfl rfl rfl) ?_;refine Zam rfl rfl rfl ?_;refine Zaa.go (Za0 zl45 pl45 rfl rfl rfl) ?_;refine Zam rfl rfl rfl ?_;refine Zaa.go (st_eqlSt (la := accC r.acc) (lb := accC accZ) (ds := accT) (by kernel_rfl) (by kernel_rfl) (by kernel_rfl) rfl rfl rfl rfl (acc_plain _) (acc_plain _) (acc_eqC _ _) rfl) ?_;refine Zaa.go (Zav rfl rfl rfl rfl) ?_;refine Zaa.go (Zac rfl rfl) ?_;refine Zae ?_;refine Zaf ?_;refine Zaf ?_;refine Zab ?_;refine Zaa.go (Zad rfl rfl) ?_;refine Zaa.go (Zbd rfl rfl) ?_;refine Zae ?_;refine ZaG rfl (fun h80 => ?_) (fun h80 => ?_)
            · refine Zaf ?_;refine Zab ?_;refine Zaa.go (Zac rfl rfl) ?_;refine Zae ?_;refine Zao ?_;exact ⟨_, [], [], Zan rfl, rfl, rfl, retI (by unfold validE; simp_all <;> (intros; omega)), rfl⟩
            · refine Zap ?_;refine Zaf ?_;refine Zab ?_;refine Zaa.go (Zac rfl rfl) ?_;refine Zae ?_;refine Zao ?_;exact ⟨_, [], [], Zan rfl, rfl, rfl, retI (by unfold validE; simp_all <;> (intros; omega)), rfl⟩
          · refine Zak rfl rfl rfl rfl ?_;refine Zak rfl rfl rfl rfl ?_;refine Zak rfl rfl rfl rfl ?_;refine Zak rfl rfl rfl rfl ?_;refine Zaa.go (ZaC rfl rfl rfl rfl) ?_;refine Zaa.go (Zac rfl rfl) ?_;refine Zae ?_;refine Zaf ?_;refine Zaf ?_;refine Zab ?_;refine Zaa.go (Zad rfl rfl) ?_;refine Zaa.go (st_notF rfl rfl) ?_;refine Zae ?_;refine ZaS rfl rfl ?_;refine Zaf ?_;refine Zab ?_;refine Zaa.go (Zac rfl rfl) ?_;refine Zae ?_;refine Zao ?_;exact ⟨_, [], [], Zan rfl, rfl, rfl, retI (by unfold validE; simp_all <;> (intros; omega)), rfl⟩
        · refine Zak rfl rfl rfl rfl ?_;refine Zak rfl rfl rfl rfl ?_;refine Zak rfl rfl rfl rfl ?_;refine Zak rfl rfl rfl rfl ?_;refine Zak rfl rfl rfl rfl ?_;refine Zaa.go (ZaC rfl rfl rfl rfl) ?_;refine Zaa.go (Zad rfl rfl) ?_;refine Zak rfl rfl rfl rfl ?_;refine Zak rfl rfl rfl rfl ?_;refine Zak rfl rfl rfl rfl ?_;refine Zak rfl rfl rfl rfl ?_;refine Zaa.go (ZaC rfl rfl rfl rfl) ?_;refine Zaa.go (Zac rfl rfl) ?_;refine Zae ?_;refine Zaf ?_;refine Zaf ?_;refine Zab ?_;refine Zaa.go (Zad rfl rfl) ?_;refine Zaa.go (st_notF rfl rfl) ?_;refine Zae ?_;refine ZaS rfl rfl ?_;refine Zaf ?_;refine Zab ?_;refine Zaa.go (Zac rfl rfl) ?_;refine Zae ?_;refine Zao ?_;exact ⟨_, [], [], Zan rfl, rfl, rfl, retI (by unfold validE; simp_all <;> (intros; omega)), rfl⟩
      · refine Zak rfl rfl rfl rfl ?_;refine Zak rfl rfl rfl rfl ?_;refine Zak rfl rfl rfl rfl ?_;refine Zaa.go (ZaC rfl rfl rfl rfl) ?_;refine Zaa.go (Zad rfl rfl) ?_;refine Zak rfl rfl rfl rfl ?_;refine Zak rfl rfl rfl rfl ?_;refine Zak rfl rfl rfl rfl ?_;refine Zak rfl rfl rfl rfl ?_;refine Zak rfl rfl rfl rfl ?_;refine Zaa.go (ZaC rfl rfl rfl rfl) ?_;refine Zaa.go (Zad rfl rfl) ?_;refine Zak rfl rfl rfl rfl ?_;refine Zak rfl rfl rfl rfl ?_;refine Zak rfl rfl rfl rfl ?_;refine Zak rfl rfl rfl rfl ?_;refine Zaa.go (ZaC rfl rfl rfl rfl) ?_;refine Zaa.go (Zac rfl rfl) ?_;refine Zae ?_;refine Zaf ?_;refine Zaf ?_;refine Zab ?_;refine Zaa.go (Zad rfl rfl) ?_;refine Zaa.go (st_notF rfl rfl) ?_;refine Zae ?_;refine ZaS rfl rfl ?_;refine Zaf ?_;refine Zab ?_;refine Zaa.go (Zac rfl rfl) ?_;refine Zae ?_;refine Zao ?_;exact ⟨_, [], [], Zan rfl, rfl, rfl, retI (by unfold validE; simp_all <;> (intros; omega)), rfl⟩
    · refine Zaf ?_;refine Zab ?_;refine Zaa.go (Za6 rfl rfl rfl) ?_;refine Zaa.go (Zac rfl rfl) ?_;refine Zae ?_;refine ZaG rfl (fun h63 => ?_) (fun h63 => ?_)
      · refine Zab ?_;refine Zaa.go (Zah rfl fi47_2 rfl rfl rfl) ?_;refine Zaa.go (Zai rfl rfl rfl on9 rfl) ?_;refine Zaa.go (Zbb rfl rfl rfl) ?_;refine Zaa.go (Zad rfl rfl) ?_;refine ZaL 68 rfl (fun h68 => ?_) (fun h68 => ?_)
        · refine Zam rfl rfl rfl ?_;refine Zaa.go (Zah rfl fi47_3 rfl rfl rfl) ?_;refine Zam rfl rfl rfl ?_;refine Zaa.go (Zai rfl rfl rfl on9 rfl) ?_;refine Zam rfl rfl rfl ?_;refine Zaa.go (ZaZ rfl rfl rfl) ?_;refine Zaa.go (Zav rfl rfl rfl rfl) ?_;refine Zaa.go (Zad rfl rfl) ?_;refine ZaL 73 rfl (fun h73 => ?_) (fun h73 => ?_)
          · refine Zam rfl rfl rfl ?_;refine Zaa.go (Zah rfl fi47_1 rfl rfl rfl) ?_;refine Zam rfl rfl rfl ?_;refine Zaa.go (Zar rfl rfl rw45 rfl rfl rfl) ?_;refine Zam rfl rfl rfl ?_;refine Zaa.go (Za0 zl45 pl45 rfl rfl rfl) ?_;refine Zam rfl rfl rfl ?_;refine Zaa.go (st_eqlSt (la := accC r.acc) (lb := accC accZ) (ds := accT) (by kernel_rfl) (by kernel_rfl) (by kernel_rfl) rfl rfl rfl rfl (acc_plain _) (acc_plain _) (acc_eqC _ _) rfl) ?_;refine Zaa.go (Zav rfl rfl rfl rfl) ?_;refine Zaa.go (Zac rfl rfl) ?_;refine Zae ?_;refine Zaf ?_;refine Zaf ?_;refine Zab ?_;refine Zaa.go (Zad rfl rfl) ?_;refine Zaa.go (Zbd rfl rfl) ?_;refine Zae ?_;refine ZaG rfl (fun h80 => ?_) (fun h80 => ?_)
            · refine Zaf ?_;refine Zab ?_;refine Zaa.go (Zac rfl rfl) ?_;refine Zae ?_;refine Zao ?_;exact ⟨_, [], [], Zan rfl, rfl, rfl, retI (by unfold validE; simp_all <;> (intros; omega)), rfl⟩
            · refine Zap ?_;refine Zaf ?_;refine Zab ?_;refine Zaa.go (Zac rfl rfl) ?_;refine Zae ?_;refine Zao ?_;exact ⟨_, [], [], Zan rfl, rfl, rfl, retI (by unfold validE; simp_all <;> (intros; omega)), rfl⟩
          · refine Zak rfl rfl rfl rfl ?_;refine Zak rfl rfl rfl rfl ?_;refine Zak rfl rfl rfl rfl ?_;refine Zak rfl rfl rfl rfl ?_;refine Zaa.go (ZaC rfl rfl rfl rfl) ?_;refine Zaa.go (Zac rfl rfl) ?_;refine Zae ?_;refine Zaf ?_;refine Zaf ?_;refine Zab ?_;refine Zaa.go (Zad rfl rfl) ?_;refine Zaa.go (st_notF rfl rfl) ?_;refine Zae ?_;refine ZaS rfl rfl ?_;refine Zaf ?_;refine Zab ?_;refine Zaa.go (Zac rfl rfl) ?_;refine Zae ?_;refine Zao ?_;exact ⟨_, [], [], Zan rfl, rfl, rfl, retI (by unfold validE; simp_all <;> (intros; omega)), rfl⟩
        · refine Zak rfl rfl rfl rfl ?_;refine Zak rfl rfl rfl rfl ?_;refine Zak rfl rfl rfl rfl ?_;refine Zaa.go (ZaC rfl rfl rfl rfl) ?_;refine Zaa.go (Zad rfl rfl) ?_;refine Zak rfl rfl rfl rfl ?_;refine Zak rfl rfl rfl rfl ?_;refine Zak rfl rfl rfl rfl ?_;refine Zak rfl rfl rfl rfl ?_;refine Zaa.go (ZaC rfl rfl rfl rfl) ?_;refine Zaa.go (Zac rfl rfl) ?_;refine Zae ?_;refine Zaf ?_;refine Zaf ?_;refine Zab ?_;refine Zaa.go (Zad rfl rfl) ?_;refine Zaa.go (st_notF rfl rfl) ?_;refine Zae ?_;refine ZaS rfl rfl ?_;refine Zaf ?_;refine Zab ?_;refine Zaa.go (Zac rfl rfl) ?_;refine Zae ?_;refine Zao ?_;exact ⟨_, [], [], Zan rfl, rfl, rfl, retI (by unfold validE; simp_all <;> (intros; omega)), rfl⟩
      · refine Zaf ?_;refine Zab ?_;refine Zaa.go (Zac rfl rfl) ?_;refine Zae ?_;refine Zao ?_;exact ⟨_, [], [], Zan rfl, rfl, rfl, retI (by unfold validE; simp_all <;> (intros; omega)), rfl⟩
end Go.Proofs.YtnamabifclidmaaGreat

/- Layer 28: the deltas of an item, sorted. -/
namespace Go.Proofs.YtnamabifclidmaaGreat
open Go.RowKit

def insR : List Rsc → Rsc → List Rsc
  | [], r => [r]
  | a :: l, r => if cmpR a r < 0 then a :: insR l r else if a = r then a :: l else r :: a :: l
theorem insR_mem {l : List Rsc} {r x : Rsc} : x ∈ insR l r ↔ x = r ∨ x ∈ l := by
  induction l with
  | nil => simp [insR]
  | cons a l ih =>
    simp only [insR]
    split
    · simp only [List.mem_cons, ih]; constructor <;> intro h <;> rcases h with h | h | h <;> simp [h]
    · split
      · rename_i h; subst h; simp
      · simp
def touL (c : List (Rsc × Int)) : List Rsc := (c.map Prod.fst).foldl insR []
theorem touL_snoc (c : List (Rsc × Int)) (x : Rsc × Int) : touL (c ++ [x]) = insR (touL c) x.1 := by simp [touL]
theorem touL_mem (c : List (Rsc × Int)) (r : Rsc) : r ∈ touL c ↔ r ∈ c.map Prod.fst := by
  induction c using snoc_ind with
  | h0 => simp [touL]
  | h1 l x ih => rw [touL_snoc, insR_mem, ih]; simp only [List.map_append, List.map_cons, List.map_nil, List.mem_append, List.mem_singleton]; exact or_comm
theorem sumL_mem (c : List (Rsc × Int)) (a : Rsc) (b : Int) : (a, b) ∈ sumL c ↔ a ∈ c.map Prod.fst ∧ b = ctrSum c a := by
  constructor
  · intro h;refine ⟨(sumL_keys c a).1 (List.mem_map.2 ⟨_, h, rfl⟩), ?_⟩;rw [← sumL_get, mget_of_mem (sumL_nodup c) h]
  · rintro ⟨h, rfl⟩;rw [← sumL_get];exact mget_mem ((sumL_keys c a).2 h)
section
variable {F : Fr} {s : AS} {d : Nat} {x y : Operand} {ty : TypeId} {pos : String} {aft : Array Edge} {gd : Option (Nat × Bool)} {at_ : Array TypeId} {f n : Nat} {row : List D} {hp' : Hp}
end
end Go.Proofs.YtnamabifclidmaaGreat

/- Layer 28: Deltas and Delta. -/
namespace Go.Proofs.YtnamabifclidmaaGreat
open Go.RowKit

theorem fst0_all {l : List Int} (h : fst0 l = 0) : ∀ x ∈ l, x = 0 := by
  have := (Zbt (l := l) (f := id)).1 (by rw [List.map_id]; exact h);exact this
theorem check_ok {i : Itm} (h : checkE i = 0) : ItmB i ∧ (0 ≤ i.id ∧ i.id ≤ 1000000000) ∧ (0 ≤ i.sq ∧ i.sq ≤ 1000000000) ∧ (0 ≤ i.pr ∧ i.pr ≤ 2) ∧ postE i = 0 ∧ payE i = 0 ∧ aftE i = 0 ∧ balE i = 0 ∧ bndE i = 0 := by
  unfold checkE at h
  split at h; · cases h
  split at h; · cases h
  rename_i h1 h2
  have h3 := fst0_all h;have e1 := h3 (postE i) (by simp [fns]);have e2 := h3 (payE i) (by simp [fns]);exact ⟨⟨by omega, by omega, by omega, post_b e1, pay_b e2⟩, by omega, by omega, by omega, e1, e2, h3 _ (by simp [fns]), h3 _ (by simp [fns]), h3 _ (by simp [fns])⟩
theorem ctr_length (i : Itm) : (ctr i).length = i.po.length + 4 * i.pa.length := by simp [ctr, ctrP, ctrY_length]
theorem sumL_length (c : List (Rsc × Int)) : (sumL c).length ≤ c.length := by
  induction c using snoc_ind with
  | h0 => simp [sumL]
  | h1 l x ih =>
    rw [ZbI];unfold addL;have := mput_len (m := sumL l) (a := x.1) (b := mget (sumL l) x.1 0 + x.2);simp only [List.length_append, List.length_singleton]; omega
def dltE (i : Itm) (r : Rsc) : Int := if checkE i = 0 ∧ validE r = 0 then ctrSum (ctr i) r else 0
set_option maxRecDepth 100000 in
theorem delta_p (i : Itm) (r : Rsc) (g1 : i.po.length ≤ 140737488355328) (g2 : i.pa.length ≤ 140737488355328) (g3 : i.af.length ≤ 140737488355328) : PCalls Tryz.prog 75 [.d (itmD i), .d (rscD r)] (intD (dltE i r)) := by
  by_cases hE : checkE i = 0
  · have hb := (check_ok hE).1
    obtain ⟨M, hMM⟩ : ∃ M, sumL (ctr i) = M := ⟨_, rfl⟩
    have hs := (sums_c i hb).by [(2, 20)] rfl;rw [hMM] at hs;have hck := check_p i g1 g2 g3;rw [hE] at hck;refine ZaB Tryz.func75 rfl rfl Tryz.ntmps75 rfl rfl rfl fun F hF => ?_;refine Zaf ?_;refine Zab ?_;refine Zal.go (ZaP 1 rfl rfl rfl rfl rfl rfl rfl) ?_;refine Zal.go (ZaP 2 rfl rfl rfl rfl rfl rfl rfl) ?_;refine Zaa.go (Zac rfl rfl) ?_;refine Zae ?_;refine Zaf ?_;refine Zaf ?_;refine Zab ?_;refine Zaa.go (Zar rfl rfl rw100 rfl rfl rfl) ?_;refine Zaa.go (Zau (hck) rfl rfl) ?_;refine Zaa.go (Za3 rfl rfl rfl) ?_;refine Zaa.go (Zad rfl rfl) ?_;refine o_setF 8 rfl (by decide) ?_;refine Zam rfl rfl rfl ?_;refine Zaa.go (Zar rfl rfl rw47 rfl rfl rfl) ?_;refine Zam rfl rfl rfl ?_;refine Zaa.go (Zau (valid_p r) rfl rfl) ?_;refine Zam rfl rfl rfl ?_;refine Zaa.go (Za3 rfl rfl rfl) ?_;refine Zaa.go (ZaC rfl rfl rfl rfl) ?_;refine Zae ?_;refine ZaG rfl (fun h12 => ?_) (fun h12 => ?_)
    · refine Zaf ?_;refine Zab ?_;refine Zaa.go (Zac rfl rfl) ?_;refine Zae ?_;refine Zao ?_;exact ⟨_, [], [], Zan rfl, rfl, rfl, retI (by rw [dltE, if_neg]; simp_all), rfl⟩
    · refine Zap ?_;refine Zaf ?_;refine Za4 [[], [0], [], [0, 1, 2], [0, 1, 2, 3]] mixed rfl ?_;refine dws ?_;refine Zat [2] rfl rfl (fun _ => Zag (Zar rfl rfl rw100 rfl rfl rfl)) ?_;refine ZbH [13] [20] [(14, _)] rfl rfl (fun _ => Zbh (Za8 hs rfl [20] ⟨rfl, trivial⟩ rfl rfl rfl rfl rfl rfl rfl rfl rfl)) (.inr ⟨14, _, rfl, rfl, rfl, rfl, rfl⟩) rfl rfl rfl rfl rfl ?_;refine Zat [3] rfl rfl (fun _ => Zag (Zar rfl rfl rw47 rfl rfl rfl)) ?_;refine dwc 3 rfl rfl rfl ?_;refine dw1 4 rfl rfl ?_;refine Zaa.go (Zbg (M) (r) (0) _ rfl rfl rfl mt173 kt47 za2 rfl rfl) ?_;refine Zae ⟨rfl, ?_⟩;refine dw1 5 rfl rfl ?_;refine Zaa.go (Zac rfl rfl) ?_;refine Zae ⟨rfl, ?_⟩;refine dwe ?_;refine Zao ?_;exact ⟨_, [], [], Zan rfl, rfl, rfl, retI (by rw [dltE, if_pos ⟨hE, by simpa using h12⟩, ← hMM, sumL_get]), rfl⟩
  · have hck := check_p i g1 g2 g3;have hS : dltE i r = 0 := if_neg fun h => hE h.1;rw [hS];refine ZaB Tryz.func75 rfl rfl Tryz.ntmps75 rfl rfl rfl fun F hF => ?_;refine Zaf ?_;refine Zab ?_;refine Zal.go (ZaP 1 rfl rfl rfl rfl rfl rfl rfl) ?_;refine Zal.go (ZaP 2 rfl rfl rfl rfl rfl rfl rfl) ?_;refine Zaa.go (Zac rfl rfl) ?_;refine Zae ?_;refine Zaf ?_;refine Zaf ?_;refine Zab ?_;refine Zaa.go (Zar rfl rfl rw100 rfl rfl rfl) ?_;refine Zaa.go (Zau (hck) rfl rfl) ?_;refine Zaa.go (Za3 rfl rfl rfl) ?_;refine Zaa.go (Zad rfl rfl) ?_;refine ZbS 8 rfl ((by simpa using hE)) ?_;refine Zak rfl rfl rfl rfl ?_;refine Zak rfl rfl rfl rfl ?_;refine Zak rfl rfl rfl rfl ?_;refine Zaa.go (Zav rfl rfl rfl rfl) ?_;refine Zae ?_;refine ZaS rfl rfl ?_;refine Zaf ?_;refine Zab ?_;refine Zaa.go (Zac rfl rfl) ?_;refine Zae ?_;refine Zao ?_;exact ⟨_, [], [], Zan rfl, rfl, rfl, rfl, rfl⟩
end Go.Proofs.YtnamabifclidmaaGreat
/- Layer 28: the example of the document; the reference's order. -/
namespace Go.Proofs.YtnamabifclidmaaGreat
open Go.RowKit

theorem refcmpI_p (a b : Int) : PCalls Tryz.prog 104 [.d (intD a), .d (intD b)] (intD (cmpI a b)) := by
  refine ZaB Tryz.func104 rfl rfl Tryz.ntmps104 rfl rfl rfl fun F hF => ?_;refine Zaf ?_;refine Zab ?_;refine Zaa.go (Zac rfl rfl) ?_;refine Zae ?_;refine Zaf ?_;refine Zaf ?_;refine Zab ?_;refine Zaa.go (Zad rfl rfl) ?_;refine Zaa.go (Zad rfl rfl) ?_;refine Zaa.go (ZaK rfl rfl rfl) ?_;refine Zae ?_;refine ZaG rfl (fun h7 => ?_) (fun h7 => ?_)
  · refine Zaf ?_;refine Zab ?_;refine Zaa.go (Zac rfl rfl) ?_;refine Zae ?_;refine Zao ?_;exact ⟨_, [], [], Zan rfl, rfl, rfl, retI (by unfold cmpI; (repeat' split) <;> omega), rfl⟩
  · refine Zap ?_;refine Zaf ?_;refine Zaf ?_;refine Zab ?_;refine Zaa.go (Zad rfl rfl) ?_;refine Zaa.go (Zad rfl rfl) ?_;refine Zaa.go (Zbv rfl rfl rfl) ?_;refine Zae ?_;refine ZaG rfl (fun h10 => ?_) (fun h10 => ?_)
    · refine Zaf ?_;refine Zab ?_;refine Zaa.go (Zac rfl rfl) ?_;refine Zae ?_;refine Zao ?_;exact ⟨_, [], [], Zan rfl, rfl, rfl, retI (by unfold cmpI; (repeat' split) <;> omega), rfl⟩
    · refine Zap ?_;refine Zaf ?_;refine Zab ?_;refine Zaa.go (Zac rfl rfl) ?_;refine Zae ?_;refine Zao ?_;exact ⟨_, [], [], Zan rfl, rfl, rfl, retI (by unfold cmpI; (repeat' split) <;> omega), rfl⟩
theorem refcmpS_p (a b : List UInt8) : PCalls Tryz.prog 105 [.d (strD a), .d (strD b)] (intD (cmpS a b)) := by
  refine ZaB Tryz.func105 rfl rfl Tryz.ntmps105 rfl rfl rfl fun F hF => ?_;refine Zaf ?_;refine Zab ?_;refine Zaa.go (Zac rfl rfl) ?_;refine Zae ?_;refine Zaf ?_;refine Zaf ?_;refine Zab ?_;refine Zaa.go (Zad rfl rfl) ?_;refine Zaa.go (Zad rfl rfl) ?_;refine Zaa.go (Zbm rfl rfl rfl) ?_;refine Zae ?_;refine Za1 rfl (fun h7 => ?_) (fun h7 => ?_)
  · rw [Zb8] at h7;refine Zaf ?_;refine Zab ?_;refine Zaa.go (Zac rfl rfl) ?_;refine Zae ?_;refine Zao ?_;exact ⟨_, [], [], Zan rfl, rfl, rfl, by first | exact retI (by unfold cmpS; rw [if_pos h7]) | exact retI (by unfold cmpS; rw [if_neg (by rw [h7]; decide), if_pos h10]) | exact retI (by unfold cmpS; rw [if_neg (by rw [h7]; decide), if_neg (by rw [h10]; decide)]), rfl⟩
  · rw [Zb8] at h7;refine Zap ?_;refine Zaf ?_;refine Zaf ?_;refine Zab ?_;refine Zaa.go (Zad rfl rfl) ?_;refine Zaa.go (Zad rfl rfl) ?_;refine Zaa.go (st_gtrS rfl rfl rfl) ?_;refine Zae ?_;refine Za1 rfl (fun h10 => ?_) (fun h10 => ?_)
    · rw [Zb8] at h10;refine Zaf ?_;refine Zab ?_;refine Zaa.go (Zac rfl rfl) ?_;refine Zae ?_;refine Zao ?_;exact ⟨_, [], [], Zan rfl, rfl, rfl, by first | exact retI (by unfold cmpS; rw [if_pos h7]) | exact retI (by unfold cmpS; rw [if_neg (by rw [h7]; decide), if_pos h10]) | exact retI (by unfold cmpS; rw [if_neg (by rw [h7]; decide), if_neg (by rw [h10]; decide)]), rfl⟩
    · rw [Zb8] at h10;refine Zap ?_;refine Zaf ?_;refine Zab ?_;refine Zaa.go (Zac rfl rfl) ?_;refine Zae ?_;refine Zao ?_;exact ⟨_, [], [], Zan rfl, rfl, rfl, by first | exact retI (by unfold cmpS; rw [if_pos h7]) | exact retI (by unfold cmpS; rw [if_neg (by rw [h7]; decide), if_pos h10]) | exact retI (by unfold cmpS; rw [if_neg (by rw [h7]; decide), if_neg (by rw [h10]; decide)]), rfl⟩
end Go.Proofs.YtnamabifclidmaaGreat

/- Layer 28: the reference's order; conversions. -/
namespace Go.Proofs.YtnamabifclidmaaGreat
open Go.RowKit

set_option maxRecDepth 100000 in
set_option maxHeartbeats 2000000 in
theorem refcompare_p (a b : Rsc) : PCalls Tryz.prog 78 [.d (rscD a), .d (rscD b)] (intD (cmpR a b)) := by
  obtain ⟨l, hl⟩ : ∃ l, [cmpI a.k b.k, cmpS a.acc.o b.acc.o, cmpI a.acc.k b.acc.k, cmpS a.acc.a b.acc.a, cmpS a.f b.f, cmpS a.t b.t] = l := ⟨_, rfl⟩
  have hn : l.length = 6 := by rw [← hl]; rfl
  have hR : cmpR a b = fst0 (l.map id) := by rw [← hl]; rfl
  have hm : [intD (cmpI a.k b.k), intD (cmpS a.acc.o b.acc.o), intD (cmpI a.acc.k b.acc.k), intD (cmpS a.acc.a b.acc.a), intD (cmpS a.f b.f), intD (cmpS a.t b.t)] = l.map intD := by rw [← hl]; rfl
  rw [hR];refine ZaB Tryz.func78 rfl rfl Tryz.ntmps78 rfl rfl rfl fun F hF => ?_;refine Zaf ?_;refine Zab ?_;refine Zal.go (ZaP 1 rfl rfl rfl rfl rfl rfl rfl) ?_;refine Zal.go (ZaP 2 rfl rfl rfl rfl rfl rfl rfl) ?_;refine Zaa.go (Zac rfl rfl) ?_;refine Zae ?_;refine Zaf ?_;refine Za4 [[], [0], [], [2], [0, 1, 2, 3], [], [5], [5, 6], [], [8], [8, 9], [0, 1, 2, 3, 4, 5, 6, 7, 8, 9, 10], [], [12], [12, 13], [], [15], [15, 16], [0, 1, 2, 3, 4, 5, 6, 7, 8, 9, 10, 11, 12, 13, 14, 15, 16, 17], [], [19], [19, 20], [], [22], [22, 23], [0, 1, 2, 3, 4, 5, 6, 7, 8, 9, 10, 11, 12, 13, 14, 15, 16, 17, 18, 19, 20, 21, 22, 23, 24], [], [26], [], [28], [0, 1, 2, 3, 4, 5, 6, 7, 8, 9, 10, 11, 12, 13, 14, 15, 16, 17, 18, 19, 20, 21, 22, 23, 24, 25, 26, 27, 28, 29], [], [31], [], [33], [0, 1, 2, 3, 4, 5, 6, 7, 8, 9, 10, 11, 12, 13, 14, 15, 16, 17, 18, 19, 20, 21, 22, 23, 24, 25, 26, 27, 28, 29, 30, 31, 32, 33, 34], [0, 1, 2, 3, 4, 5, 6, 7, 8, 9, 10, 11, 12, 13, 14, 15, 16, 17, 18, 19, 20, 21, 22, 23, 24, 25, 26, 27, 28, 29, 30, 31, 32, 33, 34, 35], [0, 1, 2, 3, 4, 5, 6, 7, 8, 9, 10, 11, 12, 13, 14, 15, 16, 17, 18, 19, 20, 21, 22, 23, 24, 25, 26, 27, 28, 29, 30, 31, 32, 33, 34, 35, 36]] mixed rfl ?_;refine dws ?_;refine Zaj [2] [] rfl rfl (fun _ => Zag (Zah rfl fi52_0 rfl rfl rfl)) ?_;refine Zat [7] rfl rfl (fun _ => Zag (Zai rfl rfl rfl on3 rfl)) ?_;refine Zaj [3] [] rfl rfl (fun _ => Zag (Zah rfl fi52_0 rfl rfl rfl)) ?_;refine Zat [9] rfl rfl (fun _ => Zag (Zai rfl rfl rfl on3 rfl)) ?_;refine Zaj [8, 10] [] rfl rfl (fun _ => Zag (Zau (refcmpI_p a.k b.k) rfl rfl)) ?_;refine Zaj [2] [] rfl rfl (fun _ => Zag (Zah rfl fi52_1 rfl rfl rfl)) ?_;refine Zaj [12] [] rfl rfl (fun _ => Zag (Zah rfl fi50_0 rfl rfl rfl)) ?_;refine Zat [13] rfl rfl (fun _ => Zag (Zai rfl rfl rfl on9 rfl)) ?_;refine Zaj [3] [] rfl rfl (fun _ => Zag (Zah rfl fi52_1 rfl rfl rfl)) ?_;refine Zaj [15] [] rfl rfl (fun _ => Zag (Zah rfl fi50_0 rfl rfl rfl)) ?_;refine Zat [16] rfl rfl (fun _ => Zag (Zai rfl rfl rfl on9 rfl)) ?_;refine Zaj [14, 17] [] rfl rfl (fun _ => Zag (Zau (refcmpS_p a.acc.o b.acc.o) rfl rfl)) ?_;refine Zaj [2] [] rfl rfl (fun _ => Zag (Zah rfl fi52_1 rfl rfl rfl)) ?_;refine Zaj [19] [] rfl rfl (fun _ => Zag (Zah rfl fi50_1 rfl rfl rfl)) ?_;refine Zat [20] rfl rfl (fun _ => Zag (Zai rfl rfl rfl on3 rfl)) ?_;refine Zaj [3] [] rfl rfl (fun _ => Zag (Zah rfl fi52_1 rfl rfl rfl)) ?_;refine Zaj [22] [] rfl rfl (fun _ => Zag (Zah rfl fi50_1 rfl rfl rfl)) ?_;refine Zat [23] rfl rfl (fun _ => Zag (Zai rfl rfl rfl on3 rfl)) ?_;refine Zaj [21, 24] [] rfl rfl (fun _ => Zag (Zau (refcmpI_p a.acc.k b.acc.k) rfl rfl)) ?_;refine Zaj [2] [] rfl rfl (fun _ => Zag (Zah rfl fi52_1 rfl rfl rfl)) ?_;refine Zaj [26] [] rfl rfl (fun _ => Zag (Zah rfl fi50_2 rfl rfl rfl)) ?_;refine Zat [27] rfl rfl (fun _ => Zag (Zai rfl rfl rfl on9 rfl)) ?_;refine Zaj [3] [] rfl rfl (fun _ => Zag (Zah rfl fi52_1 rfl rfl rfl)) ?_;refine Zaj [29] [] rfl rfl (fun _ => Zag (Zah rfl fi50_2 rfl rfl rfl)) ?_;refine Zat [30] rfl rfl (fun _ => Zag (Zai rfl rfl rfl on9 rfl)) ?_;refine Zaj [28, 31] [] rfl rfl (fun _ => Zag (Zau (refcmpS_p a.acc.a b.acc.a) rfl rfl)) ?_;refine Zaj [2] [] rfl rfl (fun _ => Zag (Zah rfl fi52_2 rfl rfl rfl)) ?_;refine Zat [33] rfl rfl (fun _ => Zag (Zai rfl rfl rfl on9 rfl)) ?_;refine Zaj [3] [] rfl rfl (fun _ => Zag (Zah rfl fi52_2 rfl rfl rfl)) ?_;refine Zat [35] rfl rfl (fun _ => Zag (Zai rfl rfl rfl on9 rfl)) ?_;refine Zaj [34, 36] [] rfl rfl (fun _ => Zag (Zau (refcmpS_p a.f b.f) rfl rfl)) ?_;refine Zaj [2] [] rfl rfl (fun _ => Zag (Zah rfl fi52_3 rfl rfl rfl)) ?_;refine Zat [38] rfl rfl (fun _ => Zag (Zai rfl rfl rfl on9 rfl)) ?_;refine Zaj [3] [] rfl rfl (fun _ => Zag (Zah rfl fi52_3 rfl rfl rfl)) ?_;refine Zat [40] rfl rfl (fun _ => Zag (Zai rfl rfl rfl on9 rfl)) ?_;refine dwc 35 rfl rfl rfl ?_;refine dw1 36 rfl rfl ?_;refine Zaa.go (Zau (refcmpS_p a.t b.t) rfl rfl) ?_;refine Zae ⟨rfl, ?_⟩;refine dw1 37 rfl rfl ?_;refine Zal.go (ZaJ 3 sl26 rfl rfl rfl rfl rfl rfl rfl rfl) ?_;rw [hm];refine ZbV (emb := intD) 43 3 l rfl rfl rfl hn.symm rfl rfl rfl ?_;refine Zae ⟨rfl, ?_⟩;refine dw1 38 rfl rfl ?_;refine Zaa.go (Zac rfl rfl) ?_;refine Zae ⟨rfl, ?_⟩;refine dwe ?_;refine Zaf ?_;refine Zaf ?_;refine Zab ?_;refine Zaa.go (Zac rfl rfl) ?_;refine Zae ?_;refine Zaq ?_;refine ZaU (α := Nat) (fun k => ⟨59, [(5, (.d (.sl none (l.map intD)))), (6, (.d (intD (k : Int))))], []⟩) (fun k => k ≤ l.length ∧ fst0 (l.map id) = fst0 ((l.drop k).map id)) (fun k => l.length - k) (0) (⟨Nat.zero_le _, rfl⟩) (Zaw hF [] rfl rfl ⟨rfl, rfl, trivial⟩) ?_;rintro k ⟨hk0, hk⟩;refine Zaf ?_;refine Zaf ?_;refine Zab ?_;refine Zaa.go (Zad rfl rfl) ?_;refine Zaa.go (Zad rfl rfl) ?_;refine Zaa.go (Zax rfl Tryz.underlying26 rfl) ?_;refine Zaa.go (ZaK rfl rfl rfl) ?_;refine Zae ?_;refine ZaG rfl (fun h47 => ?_) (fun h47 => ?_)
  · have hk1 : k < l.length := ZaM h47;refine Zap ?_;refine Zaf ?_;refine Zaq ?_;refine Zaf ?_;refine Zab ?_;have hE := Zb0 hk1 hk;refine Zaa.go (Zad rfl rfl) ?_;refine Zaa.go (Zad rfl rfl) ?_;refine Zaa.go (Zay (k) rfl rfl (rfl) (getm hk1) Tryz.underlying26 rfl sz3 rfl) ?_;refine Zaa.go (Zas rfl rfl on3 rfl) ?_;refine Zaa.go (Za3 rfl rfl rfl) ?_;refine Zae ?_;refine ZaG rfl (fun h54 => ?_) (fun h54 => ?_)
    · refine Zaf ?_;refine Zab ?_;refine Zaa.go (Zad rfl rfl) ?_;refine Zaa.go (Zad rfl rfl) ?_;refine Zaa.go (Zay (k) rfl rfl (rfl) (getm hk1) Tryz.underlying26 rfl sz3 rfl) ?_;refine Zaa.go (Zas rfl rfl on3 rfl) ?_;refine Zaa.go (Zac rfl rfl) ?_;refine Zae ?_;refine Zao ?_;exact ⟨_, [], [], Zan rfl, rfl, rfl, retI (hE.2 l[k] rfl (by simpa using h54)), rfl⟩
    · refine Zap ?_;refine Zab ?_;refine Zaa.go (Zad rfl rfl) ?_;refine Zaa.go (Zaz rfl rfl (wrapS (k + 1) (by omega)) rfl) ?_;refine Zaa.go (Zac rfl rfl) ?_;refine Zae ?_;exact ⟨k + 1, ⟨by show k + 1 ≤ _; omega, hE.1 (by simpa using h54)⟩, by show l.length - (k + 1) < l.length - k; omega, Zaw hF [] rfl (rfl) ⟨rfl, rfl, trivial⟩⟩
  · refine ZaQ ?_;refine Zaf ?_;refine Zab ?_;refine Zaa.go (Zac rfl rfl) ?_;refine Zae ?_;refine Zao ?_;exact ⟨_, [], [], Zan rfl, rfl, rfl, retI (by rw [hk, fst0_end (by have h := h47; omega)]), rfl⟩
set_option maxRecDepth 100000 in
theorem ownres_p (r : Rsc) : PCalls Tryz.prog 43 [.d (rscD r)] (rscD r) := by
  refine ZaB Tryz.func43 rfl rfl Tryz.ntmps43 rfl rfl rfl fun F hF => ?_;refine Zaf ?_;refine Zab ?_;refine Zal.go (ZaP 1 rfl rfl rfl rfl rfl rfl rfl) ?_;refine Zal.go (ZaR 2 zl47 rfl rfl rfl rfl) ?_;refine Zae ?_;refine Zaf ?_;refine Zab ?_;refine Zaa.go (Zah rfl fi52_0 rfl rfl rfl) ?_;refine Zaa.go (Zai rfl rfl rfl on3 rfl) ?_;refine Zaa.go (Zah rfl fi52_1 rfl rfl rfl) ?_;refine Zaa.go (Zar rfl rfl rw50 rfl rfl rfl) ?_;refine Zaa.go (Zah rfl fi52_2 rfl rfl rfl) ?_;refine Zaa.go (Zai rfl rfl rfl on9 rfl) ?_;refine Zaa.go (Zah rfl fi52_3 rfl rfl rfl) ?_;refine Zaa.go (Zai rfl rfl rfl on9 rfl) ?_;refine Zaa.go (Za0 zl47 pl47 rfl rfl rfl) ?_;refine Zal.go (ZaD rfl rfl rfl rfl rfl rfl rfl sz47) ?_;refine Zae ?_;refine Zao ?_;exact ⟨_, [], [], Zan rfl, rfl, rfl, rfl, rfl⟩
end Go.Proofs.YtnamabifclidmaaGreat

/- Layer 28: conversion of items. -/
namespace Go.Proofs.YtnamabifclidmaaGreat
open Go.RowKit

theorem tk_next {α : Type} {acc l : List α} (h : acc = l.take acc.length) (hk : acc.length < l.length) : acc ++ [l[acc.length]] = l.take (acc ++ [l[acc.length]]).length := by
  rw [List.length_append, List.length_singleton, List.take_succ_eq_append_getElem hk, ← h]
theorem tk_end {α : Type} {acc l : List α} (h : acc = l.take acc.length) (hk : ¬ acc.length < l.length) : acc = l := by
  rw [h]; exact List.take_of_length_le (by omega)
theorem wrapA {α : Type} (acc : List α) (x : α) (h : acc.length < 9223372036854775807) : IntKind.i64.wrap ((acc.length : Int) + 1) = (((acc ++ [x]).length : Nat) : Int) := by
  rw [List.length_append]; exact wrapS (acc.length + 1) (by omega)
abbrev nilC : AV := .d (.sl (some true) [])
set_option maxRecDepth 100000 in
theorem ownitem_p (i : Itm) (g1 : i.po.length ≤ 10000) (g2 : i.pa.length ≤ 10000) (g3 : i.af.length ≤ 10000) : PCalls Tryz.prog 44 [.d (itmD i)] (itmD i) := by
  refine ZaB Tryz.func44 rfl rfl Tryz.ntmps44 rfl rfl rfl fun F hF => ?_;refine Zaf ?_;refine Zab ?_;refine Zal.go (ZaP 1 rfl rfl rfl rfl rfl rfl rfl) ?_;refine Zal.go (ZaR 2 zl100 rfl rfl rfl rfl) ?_;refine Zae ?_;refine Zaf ?_;refine Za4 [[], [0], [], [2], [], [4], [], [], [7], [6, 7, 8], [0, 1, 2, 3, 4, 5, 6, 7, 8, 9], [], [0, 1, 2, 3, 4, 5, 6, 7, 8, 9, 10, 11]] mixed rfl ?_;refine dws ?_;refine Zaj [1] [] rfl rfl (fun _ => Zag (Zah rfl fi80_0 rfl rfl rfl)) ?_;refine Zat [6] rfl rfl (fun _ => Zag (Zai rfl rfl rfl on3 rfl)) ?_;refine Zaj [1] [] rfl rfl (fun _ => Zag (Zah rfl fi80_1 rfl rfl rfl)) ?_;refine Zat [8] rfl rfl (fun _ => Zag (Zai rfl rfl rfl on3 rfl)) ?_;refine Zaj [1] [] rfl rfl (fun _ => Zag (Zah rfl fi80_2 rfl rfl rfl)) ?_;refine Zat [10] rfl rfl (fun _ => Zag (Zai rfl rfl rfl on3 rfl)) ?_;refine ZbH [] [3] [(12, _)] rfl rfl (fun _ => Zbh (ZaJ 3 sl26 rfl rfl rfl rfl rfl rfl rfl rfl)) (.inr ⟨12, _, rfl, rfl, rfl, rfl, rfl⟩) rfl rfl rfl rfl rfl ?_;refine Zaj [1] [] rfl rfl (fun _ => Zag (Zah rfl fi80_5 rfl rfl rfl)) ?_;refine Zat [13] rfl rfl (fun _ => Zag (Zai rfl rfl rfl on26 rfl)) ?_;refine ZbH [12, 14] [3] [(15, _)] rfl rfl (fun _ => Zbh (Zbz (([] : List Int)) (i.af) rfl rfl rfl rfl rfl rfl (fun _ => rfl) sl26 (by simp only [List.length_nil]; omega) rfl rfl rfl rfl)) (.inr ⟨15, _, rfl, rfl, rfl, rfl, rfl⟩) rfl rfl rfl rfl rfl ?_;refine Zaj [7, 9, 11, 15] [] rfl rfl (fun _ => Zag (Za0 zl100 pl100 rfl rfl rfl)) ?_;refine ZbH [] [4] [(3, _)] rfl rfl (fun _ => Zbh (ZaR 4 zl100 rfl rfl rfl rfl)) (.inr ⟨3, _, rfl, rfl, rfl, rfl, rfl⟩) rfl rfl rfl rfl rfl ?_;refine dwc 12 rfl rfl rfl ?_;refine dw1 13 rfl rfl ?_;refine Zal.go (ZaD rfl rfl rfl rfl rfl rfl rfl sz100) ?_;refine Zae ⟨rfl, ?_⟩;refine dwe ?_;refine Zaf ?_;refine Zaf ?_;refine ZbP (ys := i.af.map intD) 4 0 5 3 rfl rfl rfl (by simp) (List.take_of_length_le (by simp)) rfl rfl rfl rfl rfl rfl ?_;refine Zcf 4 0 3 901 sl97 rfl rfl rfl rfl rfl rfl rfl ?_;refine Zab ?_;refine Zaa.go (Zac rfl rfl) ?_;refine Zae ?_;refine Zaq ?_;refine ZaU (α := List Post) (fun acc => ⟨60, [(1, (.ptr 1 0 0)), (2, (.ptr 2 0 0)), (3, (.ptr 4 0 0)), (4, (.d (intD (acc.length : Int))))], [(901, [.rowD 142 4 (acc.map postD)]), (1, [.blk 80 [.d (intD i.id), .d (intD i.pr), .d (intD i.sq), .d (.sl none (i.po.map postD)), .d (.sl none (i.pa.map payD)), .d (.sl none (i.af.map intD))]]), (2, [.blk 100 [.d (intD 0), .d (intD 0), .d (intD 0), nilC, nilC, nilC]]), (4, [.blk 100 [.d (intD i.id), .d (intD i.pr), .d (intD i.sq), .own 901 0 acc.length, nilC, .d (.sl none (i.af.map intD))]])]⟩) (fun acc => acc = i.po.take acc.length ∧ acc.length ≤ i.po.length) (fun acc => i.po.length - acc.length) ([]) (⟨by simp, Nat.zero_le _⟩) (Zaw hF [901, 1, 2, 4] rfl rfl ⟨rfl, rfl, rfl, rfl, trivial⟩) ?_;rintro acc ⟨hI, hk0⟩;refine Zaf ?_;refine Zaf ?_;refine Zab ?_;refine Zaa.go (Zad rfl rfl) ?_;refine Zaa.go (Zah rfl fi80_3 rfl rfl rfl) ?_;refine Zaa.go (Zai rfl rfl rfl on77 rfl) ?_;refine Zaa.go (Zax rfl Tryz.underlying77 rfl) ?_;refine Zaa.go (ZaK rfl rfl rfl) ?_;refine Zae ?_;refine ZaG rfl (fun h21 => ?_) (fun h21 => ?_)
  · have hk1 : acc.length < i.po.length := ZaM h21;refine Zap ?_;refine Zaf ?_;refine Zaq ?_;refine Za4 [[], [0], [], [2], [], [2, 3, 4], [2, 3, 4, 5], [2, 3, 4, 5, 6], [], [8], [], [8, 9, 10], [8, 9, 10, 11], [8, 9, 10, 11, 12], [2, 3, 4, 5, 6, 7, 8, 9, 10, 11, 12, 13], [2, 3, 4, 5, 6, 7, 8, 9, 10, 11, 12, 13, 14], [0, 1, 2, 3, 4, 5, 6, 7, 8, 9, 10, 11, 12, 13, 14, 15], [0, 1, 2, 3, 4, 5, 6, 7, 8, 9, 10, 11, 12, 13, 14, 15, 16], [0, 1, 2, 3, 4, 5, 6, 7, 8, 9, 10, 11, 12, 13, 14, 15, 16, 17]] mixed rfl ?_;refine dws ?_;refine Zaj [3] [] rfl rfl (fun _ => Zag (Zah rfl Zby rfl rfl rfl)) ?_;refine Zat [24] rfl rfl (fun _ => Zag (Zai rfl rfl rfl on97 rfl)) ?_;refine Zaj [1] [] rfl rfl (fun _ => Zag (Zah rfl fi80_3 rfl rfl rfl)) ?_;refine Zat [26] rfl rfl (fun _ => Zag (Zai rfl rfl rfl on77 rfl)) ?_;refine Zaj [4] [] rfl rfl (fun _ => Zag (Zad rfl rfl)) ?_;refine Zaj [27, 28] [] rfl rfl (fun _ => Zag (Zay (acc.length) rfl rfl (rfl) (getm hk1) Tryz.underlying77 rfl sz144 rfl)) ?_;refine Zaj [29] [] rfl rfl (fun _ => Zag (ZaN rfl fi144_0 rfl rfl rfl)) ?_;refine Zaj [30] [] rfl rfl (fun _ => Zag (ZaA rfl rfl rw50 rfl)) ?_;refine Zaj [1] [] rfl rfl (fun _ => Zag (Zah rfl fi80_3 rfl rfl rfl)) ?_;refine Zat [32] rfl rfl (fun _ => Zag (Zai rfl rfl rfl on77 rfl)) ?_;refine Zaj [4] [] rfl rfl (fun _ => Zag (Zad rfl rfl)) ?_;refine Zaj [33, 34] [] rfl rfl (fun _ => Zag (Zay (acc.length) rfl rfl (rfl) (getm hk1) Tryz.underlying77 rfl sz144 rfl)) ?_;refine Zaj [35] [] rfl rfl (fun _ => Zag (ZaH rfl fi144_1 rfl rfl rfl)) ?_;refine Zaj [36] [] rfl rfl (fun _ => Zag (Zas rfl rfl on2 rfl)) ?_;refine Zaj [31, 37] [] rfl rfl (fun _ => Zag (Za0 zl142 pl142 rfl rfl rfl)) ?_;refine ZbH [38] [5] [(39, _)] rfl rfl (fun _ => Zbh (ZaJ 5 sl97 rfl rfl rfl rfl rfl rfl rfl rfl)) (.inr ⟨39, _, rfl, rfl, rfl, rfl, rfl⟩) rfl rfl rfl rfl rfl ?_;refine dwc 16 rfl rfl rfl ?_;refine dw1 17 rfl rfl ?_;refine Zal.go (Zbn (acc) ([i.po[acc.length]]) rfl rfl rfl rfl rfl rfl rfl rfl sl97 (by simp only [List.length_singleton]; omega) rfl rfl rfl rfl) ?_;refine Zae ⟨rfl, ?_⟩;refine dw1 18 rfl rfl ?_;refine Zaa.go (Zah rfl Zby rfl rfl rfl) ?_;refine Zae ⟨rfl, ?_⟩;refine dw1 19 rfl rfl ?_;refine Zal.go (ZaD rfl rfl rfl rfl rfl rfl rfl sz97) ?_;refine Zae ⟨rfl, ?_⟩;refine dwe ?_;refine Zab ?_;refine Zaa.go (Zad rfl rfl) ?_;refine Zaa.go (Zaz rfl rfl (wrapA acc i.po[acc.length] (by omega)) rfl) ?_;refine Zaa.go (Zac rfl rfl) ?_;refine Zae ?_;exact ⟨acc ++ [i.po[acc.length]], ⟨tk_next hI hk1, by rw [List.length_append]; show acc.length + 1 ≤ _; omega⟩, by rw [List.length_append]; show i.po.length - (acc.length + 1) < i.po.length - acc.length; omega, Zaw hF [901, 1, 2, 4] rfl (rfl) ⟨rfl, rfl, rfl, rfl, trivial⟩⟩
  · refine ZaQ ?_;refine Zaf ?_;refine Zaf ?_;have hacc := tk_end hI (fun h => h21 (by omega));refine ZbP (ys := i.po.map postD) 4 0 3 901 rfl rfl rfl (by simp) (by rw [hacc]; exact List.take_of_length_le (by simp)) rfl rfl rfl rfl rfl rfl ?_;refine Zcf 4 0 4 902 sl98 rfl rfl rfl rfl rfl rfl rfl ?_;refine Zab ?_;refine Zaa.go (Zac rfl rfl) ?_;refine Zae ?_;refine Zaq ?_;refine ZaU (α := List Pay) (fun acc2 => ⟨60, [(1, (.ptr 1 0 0)), (2, (.ptr 2 0 0)), (3, (.ptr 4 0 0)), (5, (.d (intD (acc2.length : Int))))], [(902, [.rowD 146 3 (acc2.map payD)]), (1, [.blk 80 [.d (intD i.id), .d (intD i.pr), .d (intD i.sq), .d (.sl none (i.po.map postD)), .d (.sl none (i.pa.map payD)), .d (.sl none (i.af.map intD))]]), (2, [.blk 100 [.d (intD 0), .d (intD 0), .d (intD 0), nilC, nilC, nilC]]), (4, [.blk 100 [.d (intD i.id), .d (intD i.pr), .d (intD i.sq), .d (.sl none (i.po.map postD)), .own 902 0 acc2.length, .d (.sl none (i.af.map intD))]])]⟩) (fun acc2 => acc2 = i.pa.take acc2.length ∧ acc2.length ≤ i.pa.length) (fun acc2 => i.pa.length - acc2.length) ([]) (⟨by simp, Nat.zero_le _⟩) (Zaw hF [902, 1, 2, 4] rfl rfl ⟨rfl, rfl, rfl, rfl, trivial⟩) ?_;rintro acc2 ⟨hJ, hk2⟩;refine Zaf ?_;refine Zaf ?_;refine Zab ?_;refine Zaa.go (Zad rfl rfl) ?_;refine Zaa.go (Zah rfl fi80_4 rfl rfl rfl) ?_;refine Zaa.go (Zai rfl rfl rfl on78 rfl) ?_;refine Zaa.go (Zax rfl Tryz.underlying78 rfl) ?_;refine Zaa.go (ZaK rfl rfl rfl) ?_;refine Zae ?_;refine ZaG rfl (fun h46 => ?_) (fun h46 => ?_)
    · have hk3 : acc2.length < i.pa.length := ZaM h46;refine Zap ?_;refine Zaf ?_;refine Zaq ?_;refine Za4 [[], [0], [], [2], [], [2, 3, 4], [2, 3, 4, 5], [2, 3, 4, 5, 6], [0, 1, 2, 3, 4, 5, 6, 7], [0, 1, 2, 3, 4, 5, 6, 7, 8], [0, 1, 2, 3, 4, 5, 6, 7, 8, 9]] mixed rfl ?_;refine dws ?_;refine Zaj [3] [] rfl rfl (fun _ => Zag (Zah rfl ZbO rfl rfl rfl)) ?_;refine Zat [49] rfl rfl (fun _ => Zag (Zai rfl rfl rfl on98 rfl)) ?_;refine Zaj [1] [] rfl rfl (fun _ => Zag (Zah rfl fi80_4 rfl rfl rfl)) ?_;refine Zat [51] rfl rfl (fun _ => Zag (Zai rfl rfl rfl on78 rfl)) ?_;refine Zaj [5] [] rfl rfl (fun _ => Zag (Zad rfl rfl)) ?_;refine Zaj [52, 53] [] rfl rfl (fun _ => Zag (Zay (acc2.length) rfl rfl (rfl) (getm hk3) Tryz.underlying78 rfl sz147 rfl)) ?_;refine Zaj [54] [] rfl rfl (fun _ => Zag (ZaA rfl rfl rw147 rfl)) ?_;refine ZbH [55] [6] [(56, _)] rfl rfl (fun _ => Zbh (ZaJ 6 sl98 rfl rfl rfl rfl rfl rfl rfl rfl)) (.inr ⟨56, _, rfl, rfl, rfl, rfl, rfl⟩) rfl rfl rfl rfl rfl ?_;refine dwc 8 rfl rfl rfl ?_;refine dw1 9 rfl rfl ?_;refine Zal.go (Zbn (acc2) ([i.pa[acc2.length]]) rfl rfl rfl rfl rfl rfl rfl rfl sl98 (by simp only [List.length_singleton]; omega) rfl rfl rfl rfl) ?_;refine Zae ⟨rfl, ?_⟩;refine dw1 10 rfl rfl ?_;refine Zaa.go (Zah rfl ZbO rfl rfl rfl) ?_;refine Zae ⟨rfl, ?_⟩;refine dw1 11 rfl rfl ?_;refine Zal.go (ZaD rfl rfl rfl rfl rfl rfl rfl sz98) ?_;refine Zae ⟨rfl, ?_⟩;refine dwe ?_;refine Zab ?_;refine Zaa.go (Zad rfl rfl) ?_;refine Zaa.go (Zaz rfl rfl (wrapA acc2 i.pa[acc2.length] (by omega)) rfl) ?_;refine Zaa.go (Zac rfl rfl) ?_;refine Zae ?_;exact ⟨acc2 ++ [i.pa[acc2.length]], ⟨tk_next hJ hk3, by rw [List.length_append]; show acc2.length + 1 ≤ _; omega⟩, by rw [List.length_append]; show i.pa.length - (acc2.length + 1) < i.pa.length - acc2.length; omega, Zaw hF [902, 1, 2, 4] rfl (rfl) ⟨rfl, rfl, rfl, rfl, trivial⟩⟩
    · refine ZaQ ?_;refine Zaf ?_;have hacc2 := tk_end hJ (fun h => h46 (by omega));refine ZbP (ys := i.pa.map payD) 4 0 4 902 rfl rfl rfl (by simp) (by rw [hacc2]; exact List.take_of_length_le (by simp)) rfl rfl rfl rfl rfl rfl ?_;refine Zab ?_;refine Zaa.go (Zar rfl rfl rw100 rfl rfl rfl) ?_;refine Zal.go (ZaD rfl rfl rfl rfl rfl rfl rfl sz100) ?_;refine Zae ?_;refine Zao ?_;exact ⟨_, [], [], Zan rfl, rfl, rfl, rfl, rfl⟩
end Go.Proofs.YtnamabifclidmaaGreat
