/- The kit's contract of slices.SortFunc laid at this program: the renumbering and its facts. Made by program (lays.py). -/
import Derived.Test.YtneihdahboilnaaGreatMg15
import Derived.Shelf.SlLaysF
import Derived.Shelf.SlLaysF0
import Derived.Test.YtneihdahboilnaaGreatProg
namespace Go.Proofs.YtneihdahboilnaaGreat
open Go.Shelf Go.Proofs Go.Proofs.Tryz
def renI : Go.Shelf.Ren := ⟨fun x => match x with
  | 6 => 131
  | 15 => 97
  | 14 => 148
  | 28 => 127
  | 29 => 128
  | 20 => 154
  | 21 => 155
  | 22 => 156
  | 23 => 157
  | 24 => 158
  | 25 => 159
  | 26 => 160
  | 27 => 161
  | 46 => 163
  | 47 => 135
  | 48 => 136
  | 49 => 164
  | 50 => 165
  | 57 => 166
  | x => x,
  fun x => match x with
  | 22 => 33
  | 24 => 91
  | 25 => 188
  | 3 => 3
  | 39 => 177
  | 0 => 0
  | 53 => 205
  | 55 => 207
  | 4 => 4
  | 46 => 198
  | 45 => 197
  | 50 => 202
  | 5 => 5
  | 9 => 9
  | 66 => 213
  | 70 => 217
  | 76 => 227
  | 77 => 228
  | x => x,fun x => x⟩
theorem laysI : SlLaysF0.n6 Tryz.prog renI where
  mixed := rfl
  f6 := ⟨Tryz.f131.name,by decide,Tryz.func131.trans (congrArg some (by kernel_rfl))⟩
  f14 := ⟨Tryz.f148.name,by decide,Tryz.func148.trans (congrArg some (by kernel_rfl))⟩
  f15 := Tryz.func97.trans (congrArg some (by kernel_rfl))
  f20 := ⟨Tryz.f154.name,by decide,Tryz.func154.trans (congrArg some (by kernel_rfl))⟩
  f21 := ⟨Tryz.f155.name,by decide,Tryz.func155.trans (congrArg some (by kernel_rfl))⟩
  f22 := ⟨Tryz.f156.name,by decide,Tryz.func156.trans (congrArg some (by kernel_rfl))⟩
  f23 := ⟨Tryz.f157.name,by decide,Tryz.func157.trans (congrArg some (by kernel_rfl))⟩
  f24 := ⟨Tryz.f158.name,by decide,Tryz.func158.trans (congrArg some (by kernel_rfl))⟩
  f25 := ⟨Tryz.f159.name,by decide,Tryz.func159.trans (congrArg some (by kernel_rfl))⟩
  f26 := ⟨Tryz.f160.name,by decide,Tryz.func160.trans (congrArg some (by kernel_rfl))⟩
  f27 := ⟨Tryz.f161.name,by decide,Tryz.func161.trans (congrArg some (by kernel_rfl))⟩
  f28 := Tryz.func127.trans (congrArg some (by kernel_rfl))
  f29 := Tryz.func128.trans (congrArg some (by kernel_rfl))
  f46 := ⟨Tryz.f163.name,by decide,Tryz.func163.trans (congrArg some (by kernel_rfl))⟩
  f47 := Tryz.func135.trans (congrArg some (by kernel_rfl))
  f48 := Tryz.func136.trans (congrArg some (by kernel_rfl))
  f49 := ⟨Tryz.f164.name,by decide,Tryz.func164.trans (congrArg some (by kernel_rfl))⟩
  f50 := ⟨Tryz.f165.name,by decide,Tryz.func165.trans (congrArg some (by kernel_rfl))⟩
  f57 := ⟨Tryz.f166.name,by decide,Tryz.func166.trans (congrArg some (by kernel_rfl))⟩
  t0 := Tryz.underlying0
  a0 := Tryz.isAgg0
  z0 := Tryz.sizeOf0
  v0 := Tryz.zeroValue0
  t3 := Tryz.underlying3
  a3 := Tryz.isAgg3
  z3 := Tryz.sizeOf3
  v3 := Tryz.zeroValue3
  t4 := Tryz.underlying4
  a4 := Tryz.isAgg4
  z4 := Tryz.sizeOf4
  v4 := Tryz.zeroValue4
  t5 := Tryz.underlying5
  a5 := Tryz.isAgg5
  z5 := Tryz.sizeOf5
  v5 := Tryz.zeroValue5
  t9 := Tryz.underlying9
  a9 := Tryz.isAgg9
  z9 := Tryz.sizeOf9
  v9 := Tryz.zeroValue9
  t22 := Tryz.underlying33
  a22 := Tryz.isAgg33
  z22 := Tryz.sizeOf33
  v22 := Tryz.zeroValue33
  t25 := Tryz.underlying188
  a25 := Tryz.isAgg188
  z25 := Tryz.sizeOf188
  v25 := Tryz.zeroValue188
  t39 := Tryz.underlying177
  a39 := Tryz.isAgg177
  z39 := Tryz.sizeOf177
  v39 := Tryz.zeroValue177
  t45 := Tryz.underlying197
  a45 := Tryz.isAgg197
  z45 := Tryz.sizeOf197
  v45 := Tryz.zeroValue197
  t46 := Tryz.underlying198
  a46 := Tryz.isAgg198
  z46 := Tryz.sizeOf198
  v46 := Tryz.zeroValue198
  t50 := Tryz.underlying202
  a50 := Tryz.isAgg202
  z50 := Tryz.sizeOf202
  v50 := Tryz.zeroValue202
  t53 := Tryz.underlying205
  a53 := Tryz.isAgg205
  z53 := Tryz.sizeOf205
  v53 := Tryz.zeroValue205
  t55 := Tryz.underlying207
  a55 := Tryz.isAgg207
  z55 := Tryz.sizeOf207
  v55 := Tryz.zeroValue207
  t66 := Tryz.underlying213
  a66 := Tryz.isAgg213
  z66 := Tryz.sizeOf213
  v66 := Tryz.zeroValue213
  t70 := Tryz.underlying217
  a70 := Tryz.isAgg217
  z70 := Tryz.sizeOf217
  v70 := Tryz.zeroValue217
  t76 := Tryz.underlying227
  a76 := Tryz.isAgg227
  z76 := Tryz.sizeOf227
  v76 := Tryz.zeroValue227
  t77 := Tryz.underlying228
  a77 := Tryz.isAgg228
  z77 := Tryz.sizeOf228
  v77 := Tryz.zeroValue228
def renD : Go.Shelf.Ren := ⟨fun x => match x with
  | 6 => 99
  | 15 => 97
  | 14 => 129
  | 28 => 127
  | 29 => 128
  | 20 => 139
  | 21 => 140
  | 22 => 141
  | 23 => 142
  | 24 => 143
  | 25 => 144
  | 26 => 145
  | 27 => 146
  | 46 => 151
  | 47 => 135
  | 48 => 136
  | 49 => 152
  | 50 => 153
  | 57 => 162
  | x => x,
  fun x => match x with
  | 22 => 155
  | 24 => 158
  | 25 => 181
  | 3 => 3
  | 39 => 177
  | 0 => 0
  | 53 => 205
  | 55 => 207
  | 4 => 4
  | 46 => 198
  | 45 => 197
  | 50 => 202
  | 5 => 5
  | 9 => 9
  | 66 => 213
  | 70 => 217
  | 76 => 227
  | 77 => 228
  | x => x,fun x => x⟩
theorem laysD : SlLaysF0.n6 Tryz.prog renD where
  mixed := rfl
  f6 := ⟨Tryz.f99.name,by decide,Tryz.func99.trans (congrArg some (by kernel_rfl))⟩
  f14 := ⟨Tryz.f129.name,by decide,Tryz.func129.trans (congrArg some (by kernel_rfl))⟩
  f15 := Tryz.func97.trans (congrArg some (by kernel_rfl))
  f20 := ⟨Tryz.f139.name,by decide,Tryz.func139.trans (congrArg some (by kernel_rfl))⟩
  f21 := ⟨Tryz.f140.name,by decide,Tryz.func140.trans (congrArg some (by kernel_rfl))⟩
  f22 := ⟨Tryz.f141.name,by decide,Tryz.func141.trans (congrArg some (by kernel_rfl))⟩
  f23 := ⟨Tryz.f142.name,by decide,Tryz.func142.trans (congrArg some (by kernel_rfl))⟩
  f24 := ⟨Tryz.f143.name,by decide,Tryz.func143.trans (congrArg some (by kernel_rfl))⟩
  f25 := ⟨Tryz.f144.name,by decide,Tryz.func144.trans (congrArg some (by kernel_rfl))⟩
  f26 := ⟨Tryz.f145.name,by decide,Tryz.func145.trans (congrArg some (by kernel_rfl))⟩
  f27 := ⟨Tryz.f146.name,by decide,Tryz.func146.trans (congrArg some (by kernel_rfl))⟩
  f28 := Tryz.func127.trans (congrArg some (by kernel_rfl))
  f29 := Tryz.func128.trans (congrArg some (by kernel_rfl))
  f46 := ⟨Tryz.f151.name,by decide,Tryz.func151.trans (congrArg some (by kernel_rfl))⟩
  f47 := Tryz.func135.trans (congrArg some (by kernel_rfl))
  f48 := Tryz.func136.trans (congrArg some (by kernel_rfl))
  f49 := ⟨Tryz.f152.name,by decide,Tryz.func152.trans (congrArg some (by kernel_rfl))⟩
  f50 := ⟨Tryz.f153.name,by decide,Tryz.func153.trans (congrArg some (by kernel_rfl))⟩
  f57 := ⟨Tryz.f162.name,by decide,Tryz.func162.trans (congrArg some (by kernel_rfl))⟩
  t0 := Tryz.underlying0
  a0 := Tryz.isAgg0
  z0 := Tryz.sizeOf0
  v0 := Tryz.zeroValue0
  t3 := Tryz.underlying3
  a3 := Tryz.isAgg3
  z3 := Tryz.sizeOf3
  v3 := Tryz.zeroValue3
  t4 := Tryz.underlying4
  a4 := Tryz.isAgg4
  z4 := Tryz.sizeOf4
  v4 := Tryz.zeroValue4
  t5 := Tryz.underlying5
  a5 := Tryz.isAgg5
  z5 := Tryz.sizeOf5
  v5 := Tryz.zeroValue5
  t9 := Tryz.underlying9
  a9 := Tryz.isAgg9
  z9 := Tryz.sizeOf9
  v9 := Tryz.zeroValue9
  t22 := Tryz.underlying155
  a22 := Tryz.isAgg155
  z22 := Tryz.sizeOf155
  v22 := Tryz.zeroValue155
  t25 := Tryz.underlying181
  a25 := Tryz.isAgg181
  z25 := Tryz.sizeOf181
  v25 := Tryz.zeroValue181
  t39 := Tryz.underlying177
  a39 := Tryz.isAgg177
  z39 := Tryz.sizeOf177
  v39 := Tryz.zeroValue177
  t45 := Tryz.underlying197
  a45 := Tryz.isAgg197
  z45 := Tryz.sizeOf197
  v45 := Tryz.zeroValue197
  t46 := Tryz.underlying198
  a46 := Tryz.isAgg198
  z46 := Tryz.sizeOf198
  v46 := Tryz.zeroValue198
  t50 := Tryz.underlying202
  a50 := Tryz.isAgg202
  z50 := Tryz.sizeOf202
  v50 := Tryz.zeroValue202
  t53 := Tryz.underlying205
  a53 := Tryz.isAgg205
  z53 := Tryz.sizeOf205
  v53 := Tryz.zeroValue205
  t55 := Tryz.underlying207
  a55 := Tryz.isAgg207
  z55 := Tryz.sizeOf207
  v55 := Tryz.zeroValue207
  t66 := Tryz.underlying213
  a66 := Tryz.isAgg213
  z66 := Tryz.sizeOf213
  v66 := Tryz.zeroValue213
  t70 := Tryz.underlying217
  a70 := Tryz.isAgg217
  z70 := Tryz.sizeOf217
  v70 := Tryz.zeroValue217
  t76 := Tryz.underlying227
  a76 := Tryz.isAgg227
  z76 := Tryz.sizeOf227
  v76 := Tryz.zeroValue227
  t77 := Tryz.underlying228
  a77 := Tryz.isAgg228
  z77 := Tryz.sizeOf228
  v77 := Tryz.zeroValue228
def renPo : Go.Shelf.Ren := ⟨fun x => match x with
  | 6 => 73
  | 15 => 97
  | 14 => 96
  | 28 => 127
  | 29 => 128
  | 20 => 119
  | 21 => 120
  | 22 => 121
  | 23 => 122
  | 24 => 123
  | 25 => 124
  | 26 => 125
  | 27 => 126
  | 46 => 134
  | 47 => 135
  | 48 => 136
  | 49 => 137
  | 50 => 138
  | 57 => 150
  | x => x,
  fun x => match x with
  | 22 => 105
  | 24 => 117
  | 25 => 153
  | 3 => 3
  | 39 => 177
  | 0 => 0
  | 53 => 205
  | 55 => 207
  | 4 => 4
  | 46 => 198
  | 45 => 197
  | 50 => 202
  | 5 => 5
  | 9 => 9
  | 66 => 213
  | 70 => 217
  | 76 => 227
  | 77 => 228
  | x => x,fun x => x⟩
theorem laysPo : SlLaysF.n6 Tryz.prog renPo where
  mixed := rfl
  f6 := ⟨Tryz.f73.name,by decide,Tryz.func73.trans (congrArg some (by kernel_rfl))⟩
  f14 := ⟨Tryz.f96.name,by decide,Tryz.func96.trans (congrArg some (by kernel_rfl))⟩
  f15 := Tryz.func97.trans (congrArg some (by kernel_rfl))
  f20 := ⟨Tryz.f119.name,by decide,Tryz.func119.trans (congrArg some (by kernel_rfl))⟩
  f21 := ⟨Tryz.f120.name,by decide,Tryz.func120.trans (congrArg some (by kernel_rfl))⟩
  f22 := ⟨Tryz.f121.name,by decide,Tryz.func121.trans (congrArg some (by kernel_rfl))⟩
  f23 := ⟨Tryz.f122.name,by decide,Tryz.func122.trans (congrArg some (by kernel_rfl))⟩
  f24 := ⟨Tryz.f123.name,by decide,Tryz.func123.trans (congrArg some (by kernel_rfl))⟩
  f25 := ⟨Tryz.f124.name,by decide,Tryz.func124.trans (congrArg some (by kernel_rfl))⟩
  f26 := ⟨Tryz.f125.name,by decide,Tryz.func125.trans (congrArg some (by kernel_rfl))⟩
  f27 := ⟨Tryz.f126.name,by decide,Tryz.func126.trans (congrArg some (by kernel_rfl))⟩
  f28 := Tryz.func127.trans (congrArg some (by kernel_rfl))
  f29 := Tryz.func128.trans (congrArg some (by kernel_rfl))
  f46 := ⟨Tryz.f134.name,by decide,Tryz.func134.trans (congrArg some (by kernel_rfl))⟩
  f47 := Tryz.func135.trans (congrArg some (by kernel_rfl))
  f48 := Tryz.func136.trans (congrArg some (by kernel_rfl))
  f49 := ⟨Tryz.f137.name,by decide,Tryz.func137.trans (congrArg some (by kernel_rfl))⟩
  f50 := ⟨Tryz.f138.name,by decide,Tryz.func138.trans (congrArg some (by kernel_rfl))⟩
  f57 := ⟨Tryz.f150.name,by decide,Tryz.func150.trans (congrArg some (by kernel_rfl))⟩
  t0 := Tryz.underlying0
  a0 := Tryz.isAgg0
  z0 := Tryz.sizeOf0
  v0 := Tryz.zeroValue0
  t3 := Tryz.underlying3
  a3 := Tryz.isAgg3
  z3 := Tryz.sizeOf3
  v3 := Tryz.zeroValue3
  t4 := Tryz.underlying4
  a4 := Tryz.isAgg4
  z4 := Tryz.sizeOf4
  v4 := Tryz.zeroValue4
  t5 := Tryz.underlying5
  a5 := Tryz.isAgg5
  z5 := Tryz.sizeOf5
  v5 := Tryz.zeroValue5
  t9 := Tryz.underlying9
  a9 := Tryz.isAgg9
  z9 := Tryz.sizeOf9
  v9 := Tryz.zeroValue9
  t22 := Tryz.underlying105
  a22 := Tryz.isAgg105
  z22 := Tryz.sizeOf105
  v22 := Tryz.zeroValue105
  a24 := Tryz.isAgg117
  z24 := Tryz.sizeOf117
  t25 := Tryz.underlying153
  a25 := Tryz.isAgg153
  z25 := Tryz.sizeOf153
  v25 := Tryz.zeroValue153
  t39 := Tryz.underlying177
  a39 := Tryz.isAgg177
  z39 := Tryz.sizeOf177
  v39 := Tryz.zeroValue177
  t45 := Tryz.underlying197
  a45 := Tryz.isAgg197
  z45 := Tryz.sizeOf197
  v45 := Tryz.zeroValue197
  t46 := Tryz.underlying198
  a46 := Tryz.isAgg198
  z46 := Tryz.sizeOf198
  v46 := Tryz.zeroValue198
  t50 := Tryz.underlying202
  a50 := Tryz.isAgg202
  z50 := Tryz.sizeOf202
  v50 := Tryz.zeroValue202
  t53 := Tryz.underlying205
  a53 := Tryz.isAgg205
  z53 := Tryz.sizeOf205
  v53 := Tryz.zeroValue205
  t55 := Tryz.underlying207
  a55 := Tryz.isAgg207
  z55 := Tryz.sizeOf207
  v55 := Tryz.zeroValue207
  t66 := Tryz.underlying213
  a66 := Tryz.isAgg213
  z66 := Tryz.sizeOf213
  v66 := Tryz.zeroValue213
  t70 := Tryz.underlying217
  a70 := Tryz.isAgg217
  z70 := Tryz.sizeOf217
  v70 := Tryz.zeroValue217
  t76 := Tryz.underlying227
  a76 := Tryz.isAgg227
  z76 := Tryz.sizeOf227
  v76 := Tryz.zeroValue227
  t77 := Tryz.underlying228
  a77 := Tryz.isAgg228
  z77 := Tryz.sizeOf228
  v77 := Tryz.zeroValue228
end Go.Proofs.YtneihdahboilnaaGreat
/- Layer 28: an item's check; the order of resources and of items. -/
namespace Go.Proofs.YtneihdahboilnaaGreat
open Go.RowKit
set_option maxRecDepth 100000
def bndE (i : Itm) : Int := if ∃ x ∈ sumL (ctr i), ¬ (-Mx ≤ x.2 ∧ x.2 ≤ Mx) then 12 else 0
theorem bnd_bad {i : Itm} {j : Nat} {r : Rsc} {v : Int} (hm : (sumL (ctr i))[j]? = some (r,v)) (hv : ¬ (-Mx ≤ v ∧ v ≤ Mx)) : (12 : Int) = bndE i := by
  unfold bndE; rw [if_pos ⟨_,List.mem_of_getElem? hm,hv⟩]
theorem bnd_ok {i : Itm} (h : ∀ x ∈ sumL (ctr i), -Mx ≤ x.2 ∧ x.2 ≤ Mx) : (0 : Int) = bndE i := by
  unfold bndE; rw [if_neg]; rintro ⟨x,hx,hn⟩; exact hn (h x hx)
theorem bounded_p (i : Itm) (hi : ItmB i) : PCalls Tryz.prog 118 [.d (itmD i)] (intD (bndE i)) := by
  obtain ⟨M,hMM⟩ : ∃ M,sumL (ctr i) = M := ⟨_,rfl⟩
  have hs := (sums_c i hi).by [(2,20)] rfl;rw [hMM] at hs;refine ZaB Tryz.func118 rfl rfl Tryz.ntmps118 rfl rfl rfl fun F hF => (Zad (Zab (Zaj.go (ZaS 1 rfl rfl rfl rfl rfl rfl rfl) (goAs rfl rfl (Zac ?_)))));refine Zad (Zad (Zab (Zaa.go (Zas rfl rfl rw91 rfl rfl rfl) (Zaj.go (Zbh hs rfl [20] ⟨rfl,trivial⟩ rfl rfl rfl rfl rfl rfl rfl rfl rfl) (Zaj.go (st_range 2 rfl rfl rfl mt178 rfl rfl rfl rfl) (Zac (Zam (ZaK (α := List Nat) (fun seen => ⟨15,[(7,(.ptr 2 0 0))],[(2,[.iter 20 0 M.length seen]),(20,[mapC rscD intD M])]⟩) (fun seen => ∀ x ∈ M,x ∈ lft M (List.range M.length) seen ∨ (-Mx ≤ x.2 ∧ x.2 ≤ Mx)) (fun seen => (lft M (List.range M.length) seen).length) ([]) (fun x hx => .inl (by rw [lft_start (by simp)]; exact hx)) (Zaq hF [2,20] rfl rfl ⟨rfl,trivial⟩) ?_))))))));intro seen hI;refine Zad (Zab (o_next (M) rfl rfl rfl rfl (fun hl8 => ?_) (fun j8 b8 k8 v8 hm8 hb8 hB8 hp8 => ⟨_,rfl, ?_⟩)))
  · refine Zaa.go (Za6 rfl rfl rfl) ?_;refine Zac (Zad (Za9 rfl rfl (ZaL (Zad (Zab (goAs rfl rfl (Zac (Zao ?_))))))));exact ⟨_,[],[],Zak rfl,rfl,rfl,retI (bnd_ok fun x hx => by rw [hMM] at hx; exact (hI x hx).elim (fun h => by rw [hl8] at h; cases h) id),rfl⟩
  · refine Zaa.go (Za6 rfl rfl rfl) ?_;refine Zac (Zad (ZaU rfl rfl (Zap (Zam (Zad (Zab (Zaa.go (st_entry (M) j8 b8 rfl rfl rfl hm8 hb8 rfl) (Zaa.go (Za6 rfl rfl rfl) ?_))))))));refine goAs rfl rfl (Zac (Zad (Zab (goMv rfl rfl (Zaa.go (Zau (within64_p v8 (-1000000000000000) 1000000000000000) rfl rfl) (Zaa.go (Zbq rfl rfl) (Zac (ZaF rfl (fun h14 => ?_) (fun h14 => ?_)))))))))
    · refine Zad (Zab (goAs rfl rfl (Zac (Zao ?_))));exact ⟨_,[],[],Zak rfl,rfl,rfl,retI (bnd_bad (by rw [hMM]; exact hm8) (by simpa [Mx] using h14)),rfl⟩
    · refine Zap ?_;exact ⟨seen ++ [b8],fun x hx => (hI x hx).elim (fun h => (List.mem_cons.1 (hp8.mem_iff.1 h)).elim (fun e => .inr (by rw [e]; simpa [Mx] using h14)) .inl) .inr,by rw [hp8.length_eq]; exact Nat.lt_succ_self _,Zaq hF [2,20] rfl (rfl) ⟨rfl,trivial⟩⟩
theorem ZbL {α : Type} {l : List α} {f : α → Int} : fst0 (l.map f) = 0 ↔ ∀ x ∈ l,f x = 0 := by
  induction l with
  | nil => simp [fst0]
  | cons a l ih =>
    simp only [List.map_cons,fst0]
    split
    · rename_i h; simp [ih,h]
    · rename_i h; simp [h]
def fns (i : Itm) : List (FuncId × Int) := [(114,postE i),(115,payE i),(116,aftE i),(117,balE i),(118,bndE i)]
def checkE (i : Itm) : Int := if ¬ (0 ≤ i.id ∧ i.id ≤ 1000000000) ∨ ¬ (0 ≤ i.sq ∧ i.sq ≤ 1000000000) ∨ ¬ (0 ≤ i.pr ∧ i.pr ≤ 2) then 2 else if 256 < i.po.length ∨ 256 < i.pa.length ∨ 256 < i.af.length then 8 else fst0 ((fns i).map Prod.snd)
theorem post_b {i : Itm} (h : postE i = 0) : ∀ p ∈ i.po, -Mx ≤ p.d ∧ p.d ≤ Mx := fun p hp => by
  have := ZbL.1 h p hp;unfold pErr at this
  split at this; · cases this
  split at this; · cases this
  split at this; · cases this
  rename_i h; exact Decidable.of_not_not h
theorem pay_b {i : Itm} (h : payE i = 0) : ∀ p ∈ i.pa,0 ≤ p.n ∧ p.n ≤ Mx := fun p hp => by
  have := ZbL.1 h p hp;unfold yErr at this
  split at this; · cases this
  split at this; · cases this
  split at this; · cases this
  rename_i h; exact Decidable.of_not_not h
theorem fns_p (i : Itm) (h1 : i.po.length ≤ 256) (h2 : i.pa.length ≤ 256) (h3 : i.af.length ≤ 256) {k : Nat} (hk : k < (fns i).length) (h0 : ∀ j,j < k → ((fns i)[j]?).map Prod.snd = some 0) : PCalls Tryz.prog (fns i)[k].1 [.d (itmD i)] (intD (fns i)[k].2) := by
  match k,hk with
  | 0,_ => exact postings_p i (by omega)
  | 1,_ => exact payments_p i (by omega)
  | 2,_ => exact after_p i (by omega)
  | 3,_ => exact balanced_p i h1 (post_b (by have := h0 0 (by omega); simpa [fns] using this))
  | 4,_ => exact bounded_p i ⟨h1,h2,h3,post_b (by have := h0 0 (by omega); simpa [fns] using this),pay_b (by have := h0 1 (by omega); simpa [fns] using this)⟩
def fnD (i : Itm) (p : FuncId × Int) : D := .fn p.1 [itmD i] []
theorem check_p (i : Itm) (g1 : i.po.length ≤ 140737488355328) (g2 : i.pa.length ≤ 140737488355328) (g3 : i.af.length ≤ 140737488355328) : PCalls Tryz.prog 94 [.d (itmD i)] (intD (checkE i)) := by
  refine ZaB Tryz.func94 rfl rfl Tryz.ntmps94 rfl rfl rfl fun F hF => (Zad (Zab (Zaj.go (ZaS 1 rfl rfl rfl rfl rfl rfl rfl) (goAs rfl rfl (Zac (Zad ?_))))));refine Zam (Zad (Zab (Zaa.go (Zag rfl Zbz rfl rfl rfl) (Zaa.go (Zah rfl rfl rfl on3 rfl) (Zaa.go (Zau (within_p _ _ _) rfl rfl) (Zaa.go (Zbq rfl rfl) (goMv rfl rfl (ZaP 11 rfl (fun h11 => ?_) (fun h11 => ?_)))))))))
  · refine Zai rfl rfl rfl rfl ?_;refine Zai rfl rfl rfl rfl (Zai rfl rfl rfl rfl (Zai rfl rfl rfl rfl (Zaa.go (Zaw rfl rfl rfl rfl) (goMv rfl rfl (Zai rfl rfl rfl rfl (Zai rfl rfl rfl rfl (Zai rfl rfl rfl rfl (Zai rfl rfl rfl rfl ?_))))))));refine Zaa.go (Zaw rfl rfl rfl rfl) (goAs rfl rfl (Zac (ZaU rfl rfl (Zad (Zab (goAs rfl rfl (Zac (Zao ?_))))))));exact ⟨_,[],[],Zak rfl,rfl,rfl,retI (by unfold checkE; rw [if_pos (by omega)]),rfl⟩
  · refine Zal rfl rfl rfl (Zaa.go (Zag rfl fi91_2 rfl rfl rfl) ?_);refine Zal rfl rfl rfl (Zaa.go (Zah rfl rfl rfl on3 rfl) (Zal rfl rfl rfl (Zaa.go (Zau (within_p _ _ _) rfl rfl) (Zal rfl rfl rfl (Zaa.go (Zbq rfl rfl) (Zaa.go (ZaG rfl rfl rfl rfl) (goMv rfl rfl (ZaP 17 rfl (fun h17 => ?_) (fun h17 => ?_)))))))))
    · refine Zai rfl rfl rfl rfl (Zai rfl rfl rfl rfl (Zai rfl rfl rfl rfl (Zai rfl rfl rfl rfl ?_)));refine Zaa.go (Zaw rfl rfl rfl rfl) (goAs rfl rfl (Zac (ZaU rfl rfl (Zad (Zab (goAs rfl rfl (Zac (Zao ?_))))))));exact ⟨_,[],[],Zak rfl,rfl,rfl,retI (by unfold checkE; rw [if_pos (by omega)]),rfl⟩
    · refine Zal rfl rfl rfl (Zaa.go (Zag rfl fi91_1 rfl rfl rfl) (Zal rfl rfl rfl ?_));refine Zaa.go (Zah rfl rfl rfl on3 rfl) (Zal rfl rfl rfl (Zaa.go (Zau (within_p _ _ _) rfl rfl) (Zal rfl rfl rfl (Zaa.go (Zbq rfl rfl) (Zaa.go (ZaG rfl rfl rfl rfl) (goAs rfl rfl (Zac (ZaF rfl (fun h6 => ?_) (fun h6 => ?_)))))))))
      · refine Zad (Zab (goAs rfl rfl (Zac (Zao ?_))));exact ⟨_,[],[],Zak rfl,rfl,rfl,retI (by unfold checkE; rw [if_pos (by omega)]),rfl⟩
      · refine Zad (Zab (Zaa.go (Zag rfl fi91_3 rfl rfl rfl) (Zaa.go (Zah rfl rfl rfl on88 rfl) (Zaa.go (ZaA rfl Tryz.underlying88 rfl) (Zaa.go (Zbv rfl rfl rfl) (goMv rfl rfl (ZaP 28 rfl (fun h28 => ?_) (fun h28 => ?_))))))))
        · refine Zai rfl rfl rfl rfl ?_;refine Zai rfl rfl rfl rfl (Zai rfl rfl rfl rfl (Zai rfl rfl rfl rfl (Zaa.go (Zaw rfl rfl rfl rfl) (goMv rfl rfl (Zai rfl rfl rfl rfl (Zai rfl rfl rfl rfl (Zai rfl rfl rfl rfl (Zai rfl rfl rfl rfl ?_))))))));refine Zaa.go (Zaw rfl rfl rfl rfl) (goAs rfl rfl (Zac (ZaU rfl rfl (Zad (Zab (goAs rfl rfl (Zac (Zao ?_))))))));exact ⟨_,[],[],Zak rfl,rfl,rfl,retI (by unfold checkE; rw [if_neg (by omega),if_pos (by omega)]),rfl⟩
        · refine Zal rfl rfl rfl (Zaa.go (Zag rfl fi91_4 rfl rfl rfl) ?_);refine Zal rfl rfl rfl (Zaa.go (Zah rfl rfl rfl on89 rfl) (Zal rfl rfl rfl (Zaa.go (ZaA rfl Tryz.underlying89 rfl) (Zal rfl rfl rfl (Zaa.go (Zbv rfl rfl rfl) (Zaa.go (ZaG rfl rfl rfl rfl) (goMv rfl rfl (ZaP 34 rfl (fun h34 => ?_) (fun h34 => ?_)))))))))
          · refine Zai rfl rfl rfl rfl (Zai rfl rfl rfl rfl (Zai rfl rfl rfl rfl (Zai rfl rfl rfl rfl ?_)));refine Zaa.go (Zaw rfl rfl rfl rfl) (goAs rfl rfl (Zac (ZaU rfl rfl (Zad (Zab (goAs rfl rfl (Zac (Zao ?_))))))));exact ⟨_,[],[],Zak rfl,rfl,rfl,retI (by unfold checkE; rw [if_neg (by omega),if_pos (by omega)]),rfl⟩
          · refine Zal rfl rfl rfl (Zaa.go (Zag rfl fi91_5 rfl rfl rfl) (Zal rfl rfl rfl ?_));refine Zaa.go (Zah rfl rfl rfl on28 rfl) (Zal rfl rfl rfl (Zaa.go (ZaA rfl Tryz.underlying28 rfl) (Zal rfl rfl rfl (Zaa.go (Zbv rfl rfl rfl) (Zaa.go (ZaG rfl rfl rfl rfl) (goAs rfl rfl (Zac (ZaF rfl (fun h23 => ?_) (fun h23 => ?_)))))))))
            · refine Zad (Zab (goAs rfl rfl (Zac (Zao ?_))));exact ⟨_,[],[],Zak rfl,rfl,rfl,retI (by unfold checkE; rw [if_neg (by omega),if_pos (by omega)]),rfl⟩
            · refine Zap (Zad ?_);refine Zad (Zab (Zaa.go (Zas rfl rfl rw91 rfl rfl rfl) (Zaa.go (st_makeFuncD (ds := [itmD i]) (es := []) rfl rfl rfl rfl rfl) (Zaa.go (Zas rfl rfl rw91 rfl rfl rfl) (Zaa.go (st_makeFuncD (ds := [itmD i]) (es := []) rfl rfl rfl rfl rfl) (Zaa.go (Zas rfl rfl rw91 rfl rfl rfl) (Zaa.go (st_makeFuncD (ds := [itmD i]) (es := []) rfl rfl rfl rfl rfl) (Zaa.go (Zas rfl rfl rw91 rfl rfl rfl) ?_))))))));refine Zaa.go (st_makeFuncD (ds := [itmD i]) (es := []) rfl rfl rfl rfl rfl) (Zaa.go (Zas rfl rfl rw91 rfl rfl rfl) (Zaa.go (st_makeFuncD (ds := [itmD i]) (es := []) rfl rfl rfl rfl rfl) (Zaj.go (ZaD 2 sl195 rfl rfl rfl rfl rfl rfl rfl rfl) (Zaa.go (st_lenO rfl Tryz.underlying195 rfl) (goMv rfl rfl (Zac (Zam (ZaK (α := Nat) (fun k => ⟨62,[(50,(.own 2 0 5)),(51,(.d (intD 5))),(52,(.d (intD (k : Int))))],[(2,[.rowD 150 1 ((fns i).map (fnD i))])]⟩) (fun k => k ≤ 5 ∧ fst0 ((fns i).map Prod.snd) = fst0 (((fns i).drop k).map Prod.snd) ∧ ∀ j,j < k → ((fns i)[j]?).map Prod.snd = some 0) (fun k => 5 - k) (0) (⟨Nat.zero_le _,rfl,fun j h => absurd h (Nat.not_lt_zero j)⟩) (Zaq hF [2] rfl rfl ⟨rfl,rfl,rfl,trivial⟩) ?_))))))));rintro k ⟨hk0,hkE,hkz⟩;refine Zad (Zab (Zaa.go (ZaI rfl rfl rfl) (Zac (Zad (ZaF rfl (fun h53 => ?_) (fun h53 => ?_))))))
              · have hk1 : k < (fns i).length := by show k < 5; have h := h53; omega
                refine Zap (Zad (Zam (Zad (Zab ?_))));have hE := Zb1 hk1 hkE;refine Zaa.go (ZbA (k) rfl rfl (rfl) (by show k < 5; exact hk1) rfl Tryz.underlying195 sz150 rfl) (Zaa.go (Zbl rfl rfl (getm hk1) rfl on150 rfl) (goAs rfl rfl (Zac (Zad (Zab (goMv rfl rfl ?_))))));refine Zaa.go (st_callVP (fns_p i (by omega) (by omega) (by omega) hk1 hkz) rfl rfl) (goAs rfl rfl (Zac (Zad (Zab (goMv rfl rfl (Zaa.go (Zbi rfl rfl rfl) (Zac (ZaF rfl (fun h59 => ?_) (fun h59 => ?_)))))))))
                · refine Zad (Zab (goMv rfl rfl (goAs rfl rfl (Zac (Zao ?_)))));exact ⟨_,[],[],Zak rfl,rfl,rfl,retI (by unfold checkE; rw [if_neg (by omega),if_neg (by omega)]; exact hE.2 _ rfl (by simpa using h59)),rfl⟩
                · refine Zap (Zab (Zaa.go (Zay rfl rfl (wrapS (k + 1) (by omega)) rfl) (goMv rfl rfl (Zac ?_))));exact ⟨k + 1,⟨by show k + 1 ≤ _; omega,hE.1 (by simpa using h59),fun j hj => (Nat.lt_succ_iff_lt_or_eq.1 hj).elim (hkz j) fun h => by subst h; rw [List.getElem?_eq_getElem hk1]; show some _ = _; congr 1; simpa using h59⟩,by show 5 - (k + 1) < 5 - k; omega,Zaq hF [2] rfl (rfl) ⟨rfl,rfl,rfl,trivial⟩⟩
              · refine ZaL (Zad (Zab (goAs rfl rfl (Zac (Zao ?_)))));exact ⟨_,[],[],Zak rfl,rfl,rfl,retI (by unfold checkE; rw [if_neg (by omega),if_neg (by omega),hkE,fst0_end (by have h := h53; show ¬ k < 5; omega)]),rfl⟩
theorem or_p (l : List Int) (hn : l.length ≤ 140737488355328) : PCalls Tryz.prog 60 [.d (.sl none (l.map intD))] (intD (fst0 l)) := by
  refine ZaB Tryz.func60 rfl rfl Tryz.ntmps60 rfl rfl rfl fun F hF => (Zad (Zab (goAs rfl rfl (Zac (Zad (Zab (goAs rfl rfl (Zac ?_))))))));refine Zad (Zad (Zab (goMv rfl rfl (Zaa.go (ZaA rfl Tryz.underlying28 rfl) (goMv rfl rfl (Zac (Zam (a_loop (α := Nat) (fun k => ⟨18,[(3,(.d (intD 0))),(6,(.d (.sl none (l.map intD)))),(7,(.d (intD (l.length : Int)))),(8,(.d (intD (k : Int))))],[]⟩) (fun k => k ≤ l.length ∧ fst0 (l.map id) = fst0 ((l.drop k).map id)) (fun k => l.length - k) (0) (⟨Nat.zero_le _,rfl⟩) (le_of_has ⟨rfl,rfl,rfl,rfl,trivial⟩) ?_))))))));rintro k ⟨hk0,hk⟩;refine Zad (Zab (Zaa.go (ZaI rfl rfl rfl) (Zac (Zad (ZaF rfl (fun h9 => ?_) (fun h9 => ?_))))))
  · have hk1 : k < l.length := ZaN h9;refine Zap (Zad (Zam (Zad (Zab ?_))));have hE := Zb1 hk1 hk;refine Zaa.go (Zat (k) rfl rfl (rfl) (getm hk1) Tryz.underlying28 rfl sz3 rfl) (Zaa.go (ZaE rfl rfl on3 rfl) ?_);refine goAs rfl rfl (Zac (Zad (Zab (goMv rfl rfl (goMv rfl rfl (Zaa.go (Zbi rfl rfl rfl) (Zac (ZaF rfl (fun h14 => ?_) (fun h14 => ?_)))))))))
    · refine Zad (Zab (goMv rfl rfl (goAs rfl rfl (Zac (Zao ?_)))));exact ⟨_,[],[],Zak rfl,rfl,rfl,retI ((hE.2 l[k] rfl (by simpa using h14)).trans (by rw [List.map_id])),rfl⟩
    · refine Zap (Zab (Zaa.go (Zay rfl rfl (wrapS (k + 1) (by omega)) rfl) (goMv rfl rfl (Zac ?_))));exact ⟨k + 1,⟨by show k + 1 ≤ _; omega,hE.1 (by simpa using h14)⟩,by show l.length - (k + 1) < l.length - k; omega,⟨rfl,rfl,fun _ _ => Has.get (l := [(3,_),(6,_),(7,_),(8,_)]) ⟨rfl,rfl,rfl,rfl,trivial⟩⟩⟩
  · refine ZaL (Zad (Zab (goMv rfl rfl (goAs rfl rfl (Zac (Zao ?_))))));exact ⟨_,[],[],Zak rfl,rfl,rfl,retI (by rw [List.map_id] at hk; rw [hk,fst0_end (by have h := h9; omega)]),rfl⟩
def cmpR (a b : Rsc) : Int := fst0 [cmpI a.k b.k,cmpS a.acc.o b.acc.o,cmpI a.acc.k b.acc.k,cmpS a.acc.a b.acc.a,cmpS a.f b.f,cmpS a.t b.t]
def ordI (a b : Itm) : Int := fst0 [cmpI b.pr a.pr,cmpI a.sq b.sq]
set_option maxHeartbeats 2000000 in
theorem compare_p (a b : Rsc) : PCalls Tryz.prog 35 [.d (rscD a), .d (rscD b)] (intD (cmpR a b)) := by
  refine ZaB Tryz.func35 rfl rfl Tryz.ntmps35 rfl rfl rfl fun F hF => (Zad (Zab (Zaj.go (ZaS 1 rfl rfl rfl rfl rfl rfl rfl) ?_)));refine Zaj.go (ZaS 2 rfl rfl rfl rfl rfl rfl rfl) (goAs rfl rfl (Zac (Zad (ZaT [[],[0],[],[2],[0,1,2,3],[],[5],[5,6],[],[8],[8,9],[0,1,2,3,4,5,6,7,8,9,10],[],[12],[12,13],[],[15],[15,16],[0,1,2,3,4,5,6,7,8,9,10,11,12,13,14,15,16,17],[],[19],[19,20],[],[22],[22,23],[0,1,2,3,4,5,6,7,8,9,10,11,12,13,14,15,16,17,18,19,20,21,22,23,24],[],[26],[],[28],[0,1,2,3,4,5,6,7,8,9,10,11,12,13,14,15,16,17,18,19,20,21,22,23,24,25,26,27,28,29],[],[31],[],[33],[0,1,2,3,4,5,6,7,8,9,10,11,12,13,14,15,16,17,18,19,20,21,22,23,24,25,26,27,28,29,30,31,32,33,34],[0,1,2,3,4,5,6,7,8,9,10,11,12,13,14,15,16,17,18,19,20,21,22,23,24,25,26,27,28,29,30,31,32,33,34,35],[0,1,2,3,4,5,6,7,8,9,10,11,12,13,14,15,16,17,18,19,20,21,22,23,24,25,26,27,28,29,30,31,32,33,34,35,36],[0,1,2,3,4,5,6,7,8,9,10,11,12,13,14,15,16,17,18,19,20,21,22,23,24,25,26,27,28,29,30,31,32,33,34,35,36,37]] mixed rfl (dws (Zaf [2] [] rfl rfl (fun _ => Zae (Zag rfl fi51_0 rfl rfl rfl)) (Zan [5] rfl rfl (fun _ => Zae (Zah rfl rfl rfl on3 rfl)) (Zaf [3] [] rfl rfl (fun _ => Zae (Zag rfl fi51_0 rfl rfl rfl)) ?_))))))));refine Zan [7] rfl rfl (fun _ => Zae (Zah rfl rfl rfl on3 rfl)) (Zaf [6,8] [] rfl rfl (fun _ => Zae (Zau (cmpI_p a.k b.k) rfl rfl)) (Zaf [2] [] rfl rfl (fun _ => Zae (Zag rfl fi51_1 rfl rfl rfl)) (Zaf [10] [] rfl rfl (fun _ => Zae (Zag rfl fi49_0 rfl rfl rfl)) (Zan [11] rfl rfl (fun _ => Zae (Zah rfl rfl rfl on9 rfl)) (Zaf [3] [] rfl rfl (fun _ => Zae (Zag rfl fi51_1 rfl rfl rfl)) (Zaf [13] [] rfl rfl (fun _ => Zae (Zag rfl fi49_0 rfl rfl rfl)) (Zan [14] rfl rfl (fun _ => Zae (Zah rfl rfl rfl on9 rfl)) (Zaf [12,15] [] rfl rfl (fun _ => Zae (Zau (cmpS_p a.acc.o b.acc.o) rfl rfl)) ?_))))))));refine Zaf [2] [] rfl rfl (fun _ => Zae (Zag rfl fi51_1 rfl rfl rfl)) (Zaf [17] [] rfl rfl (fun _ => Zae (Zag rfl fi49_1 rfl rfl rfl)) (Zan [18] rfl rfl (fun _ => Zae (Zah rfl rfl rfl on3 rfl)) (Zaf [3] [] rfl rfl (fun _ => Zae (Zag rfl fi51_1 rfl rfl rfl)) (Zaf [20] [] rfl rfl (fun _ => Zae (Zag rfl fi49_1 rfl rfl rfl)) (Zan [21] rfl rfl (fun _ => Zae (Zah rfl rfl rfl on3 rfl)) (Zaf [19,22] [] rfl rfl (fun _ => Zae (Zau (cmpI_p a.acc.k b.acc.k) rfl rfl)) (Zaf [2] [] rfl rfl (fun _ => Zae (Zag rfl fi51_1 rfl rfl rfl)) (Zaf [24] [] rfl rfl (fun _ => Zae (Zag rfl fi49_2 rfl rfl rfl)) ?_))))))));refine Zan [25] rfl rfl (fun _ => Zae (Zah rfl rfl rfl on9 rfl)) (Zaf [3] [] rfl rfl (fun _ => Zae (Zag rfl fi51_1 rfl rfl rfl)) (Zaf [27] [] rfl rfl (fun _ => Zae (Zag rfl fi49_2 rfl rfl rfl)) (Zan [28] rfl rfl (fun _ => Zae (Zah rfl rfl rfl on9 rfl)) (Zaf [26,29] [] rfl rfl (fun _ => Zae (Zau (cmpS_p a.acc.a b.acc.a) rfl rfl)) (Zaf [2] [] rfl rfl (fun _ => Zae (Zag rfl fi51_2 rfl rfl rfl)) (Zan [31] rfl rfl (fun _ => Zae (Zah rfl rfl rfl on9 rfl)) (Zaf [3] [] rfl rfl (fun _ => Zae (Zag rfl fi51_2 rfl rfl rfl)) (Zan [33] rfl rfl (fun _ => Zae (Zah rfl rfl rfl on9 rfl)) ?_))))))));refine Zaf [32,34] [] rfl rfl (fun _ => Zae (Zau (cmpS_p a.f b.f) rfl rfl)) (Zaf [2] [] rfl rfl (fun _ => Zae (Zag rfl fi51_3 rfl rfl rfl)) (Zan [36] rfl rfl (fun _ => Zae (Zah rfl rfl rfl on9 rfl)) (Zaf [3] [] rfl rfl (fun _ => Zae (Zag rfl fi51_3 rfl rfl rfl)) (Zan [38] rfl rfl (fun _ => Zae (Zah rfl rfl rfl on9 rfl)) (dwc 35 rfl rfl rfl (dw1 36 rfl rfl (Zaa.go (Zau (cmpS_p a.t b.t) rfl rfl) (Zac ⟨rfl, ?_⟩))))))));refine dw1 37 rfl rfl (Zaj.go (ZaD 3 sl28 rfl rfl rfl rfl rfl rfl rfl rfl) (Zac ⟨rfl, ?_⟩));refine dw1 38 rfl rfl (Zaa.go (st_callPB [3] (or_p [cmpI a.k b.k,cmpS a.acc.o b.acc.o,cmpI a.acc.k b.acc.k,cmpS a.acc.a b.acc.a,cmpS a.f b.f,cmpS a.t b.t] (by simp)) (by exact ⟨.inr ⟨_,_,rfl, .own rfl rfl (by simp) (List.take_of_length_le (by simp)),rfl⟩,trivial⟩) rfl rfl) (Zac ⟨rfl, ?_⟩));refine dw1 39 rfl rfl (goAs rfl rfl (Zac ⟨rfl, ?_⟩));refine dwe (Zao ?_);exact ⟨_,[],[],Zak rfl,rfl,rfl,rfl,rfl⟩
theorem order_p (a b : Itm) : PCalls Tryz.prog 105 [.d (itmD a), .d (itmD b)] (intD (ordI a b)) := by
  refine ZaB Tryz.func105 rfl rfl Tryz.ntmps105 rfl rfl rfl fun F hF => (Zad (Zab (Zaj.go (ZaS 1 rfl rfl rfl rfl rfl rfl rfl) (Zaj.go (ZaS 2 rfl rfl rfl rfl rfl rfl rfl) ?_))));refine goAs rfl rfl (Zac (Zad (ZaT [[],[0],[],[2],[0,1,2,3],[],[5],[],[7],[0,1,2,3,4,5,6,7,8],[0,1,2,3,4,5,6,7,8,9],[0,1,2,3,4,5,6,7,8,9,10],[0,1,2,3,4,5,6,7,8,9,10,11]] mixed rfl (dws (Zaf [3] [] rfl rfl (fun _ => Zae (Zag rfl fi91_1 rfl rfl rfl)) (Zan [5] rfl rfl (fun _ => Zae (Zah rfl rfl rfl on3 rfl)) (Zaf [2] [] rfl rfl (fun _ => Zae (Zag rfl fi91_1 rfl rfl rfl)) (Zan [7] rfl rfl (fun _ => Zae (Zah rfl rfl rfl on3 rfl)) ?_))))))));refine Zaf [6,8] [] rfl rfl (fun _ => Zae (Zau (cmpI_p b.pr a.pr) rfl rfl)) (Zaf [2] [] rfl rfl (fun _ => Zae (Zag rfl fi91_2 rfl rfl rfl)) (Zan [10] rfl rfl (fun _ => Zae (Zah rfl rfl rfl on3 rfl)) (Zaf [3] [] rfl rfl (fun _ => Zae (Zag rfl fi91_2 rfl rfl rfl)) (Zan [12] rfl rfl (fun _ => Zae (Zah rfl rfl rfl on3 rfl)) (dwc 9 rfl rfl rfl (dw1 10 rfl rfl (Zaa.go (Zau (cmpI_p a.sq b.sq) rfl rfl) (Zac ⟨rfl, ?_⟩))))))));refine dw1 11 rfl rfl (Zaj.go (ZaD 3 sl28 rfl rfl rfl rfl rfl rfl rfl rfl) (Zac ⟨rfl, ?_⟩));refine dw1 12 rfl rfl (Zaa.go (st_callPB [3] (or_p [cmpI b.pr a.pr,cmpI a.sq b.sq] (by simp)) (by exact ⟨.inr ⟨_,_,rfl, .own rfl rfl (by simp) (List.take_of_length_le (by simp)),rfl⟩,trivial⟩) rfl rfl) (Zac ⟨rfl, ?_⟩));refine dw1 13 rfl rfl (goAs rfl rfl (Zac ⟨rfl, ?_⟩));refine dwe (Zao ?_);exact ⟨_,[],[],Zak rfl,rfl,rfl,rfl,rfl⟩
def dltD (x : Rsc × Int) : D := .agg [intD x.1.k,strD x.1.acc.o,intD x.1.acc.k,strD x.1.acc.a,strD x.1.f,strD x.1.t,intD x.2]
theorem deltas1_p (a b : Rsc × Int) : PCalls Tryz.prog 100 [.d (dltD a), .d (dltD b)] (intD (cmpR a.1 b.1)) := by
  refine ZaB Tryz.func100 rfl rfl Tryz.ntmps100 rfl rfl rfl fun F hF => (Zad (Zab (Zaj.go (ZaS 1 rfl rfl rfl rfl rfl rfl rfl) (Zaj.go (ZaS 2 rfl rfl rfl rfl rfl rfl rfl) (goAs rfl rfl (Zac (Zad ?_)))))));refine Zab (Zaa.go (Zag rfl fi158_0 rfl rfl rfl) (Zaa.go (Zas rfl rfl rw51 rfl rfl rfl) (Zaa.go (Zag rfl fi158_0 rfl rfl rfl) (Zaa.go (Zas rfl rfl rw51 rfl rfl rfl) (Zaa.go (Zau (compare_p a.1 b.1) rfl rfl) (goAs rfl rfl (Zac (Zao ?_))))))));exact ⟨_,[],[],Zak rfl,rfl,rfl,rfl,rfl⟩
theorem ltS_trans : ∀ a b c : List UInt8,ltS a b = true → ltS b c = true → ltS a c = true
  | [],[],_,h,_ => by simp [ltS,Op.bytesLess] at h
  | [],_ :: _,[],_,h => by simp [ltS,Op.bytesLess] at h
  | [],_ :: _,_ :: _,_,_ => by simp [ltS,Op.bytesLess]
  | _ :: _,[],_,h,_ => by simp [ltS,Op.bytesLess] at h
  | _ :: _,_ :: _,[],_,h => by simp [ltS,Op.bytesLess] at h
  | a :: x,b :: y,c :: z,h1,h2 => by
    simp only [ltS,Op.bytesLess,Bool.or_eq_true,decide_eq_true_eq,Bool.and_eq_true,beq_iff_eq] at h1 h2 ⊢;rcases h1 with h1 | ⟨rfl,h1⟩ <;> rcases h2 with h2 | ⟨rfl,h2⟩
    · exact .inl (UInt8.lt_trans h1 h2)
    · exact .inl h1
    · exact .inl h2
    · exact .inr ⟨rfl,ltS_trans x y z h1 h2⟩
theorem ltS_irrefl (a : List UInt8) : ltS a a = false := by
  have := less_swap a a;simp only [ltS]
  cases h : Op.bytesLess a a with
  | false => rfl
  | true => rw [h] at this; simp at this
structure PC {γ : Type} (c : γ → γ → Int) : Prop where
  anti : ∀ x y,c y x = - c x y
  trans : ∀ x y z,c x y < 0 → c y z < 0 → c x z < 0
  eqv : ∀ x y z,c x y = 0 → c x z = c y z
theorem cmpI_pc : PC cmpI := ⟨fun x y => by unfold cmpI; split <;> split <;> first | omega | rfl,fun x y z => by unfold cmpI; split <;> split <;> (try split) <;> (try split) <;> (try split) <;> (try split) <;> first | omega | simp,fun x y z h => by
  have : x = y := by unfold cmpI at h; split at h; · cases h
                     split at h; · cases h
                     omega
  rw [this]⟩
theorem cmpS_zero {a b : List UInt8} : cmpS a b = 0 ↔ a = b := by
  unfold cmpS
  constructor
  · intro h
    split at h; · cases h
    split at h; · cases h
    rename_i h1 h2
    have := less_swap a b
    change ltS b a = (!ltS a b && !a == b) at this
    simp only [Bool.not_eq_true] at h1 h2;rw [h1,h2] at this
    simpa using this
  · rintro rfl;rw [if_neg (by rw [ltS_irrefl]; simp),if_neg (by rw [ltS_irrefl]; simp)]
theorem cmpS_neg {a b : List UInt8} : cmpS a b < 0 ↔ ltS a b = true := by
  unfold cmpS; split
  · rename_i h; simp [h]
  · rename_i h; split <;> simp [h]
theorem cmpS_pc : PC cmpS := ⟨fun x y => by
  unfold cmpS
  by_cases h1 : ltS x y = true
  · have h2 : ¬ ltS y x = true := fun h2 => by have := ltS_trans x y x h1 h2; rw [ltS_irrefl] at this; cases this
    rw [if_neg h2,if_pos h1,if_pos h1]; rfl
  · by_cases h2 : ltS y x = true
    · rw [if_pos h2,if_neg h1,if_pos h2]
    · rw [if_neg h2,if_neg h1,if_neg h1,if_neg h2]; rfl,fun x y z h1 h2 => cmpS_neg.2 (ltS_trans x y z (cmpS_neg.1 h1) (cmpS_neg.1 h2)),fun x y z h => by rw [cmpS_zero.1 h]⟩
theorem PC.comap {γ δ : Type} {c : γ → γ → Int} (h : PC c) (f : δ → γ) : PC fun x y => c (f x) (f y) := ⟨fun _ _ => h.anti _ _,fun _ _ _ => h.trans _ _ _,fun _ _ _ => h.eqv _ _ _⟩
theorem PC.rev {γ : Type} {c : γ → γ → Int} (h : PC c) : PC fun x y => c y x := ⟨fun x y => h.anti y x,fun x y z h1 h2 => h.trans _ _ _ h2 h1,fun x y z h1 => by
  have e : c x y = 0 := by have := h.anti y x; omega
  have := h.eqv x y z e
  rw [h.anti x z,h.anti y z,this]⟩
theorem PC.zero {γ : Type} : PC fun _ _ : γ => (0 : Int) := ⟨fun _ _ => rfl,fun _ _ _ h => by omega,fun _ _ _ _ => rfl⟩
theorem PC.lex {γ : Type} {c : γ → γ → Int} {r : γ → γ → List Int} (h : PC c) (h' : PC fun x y => fst0 (r x y)) : PC fun x y => fst0 (c x y :: r x y) := by
  have sw : ∀ x y,c x y = 0 ↔ c y x = 0 := fun x y => by have := h.anti x y; omega
  refine ⟨fun x y => ?_,fun x y z => ?_,fun x y z => ?_⟩
  · simp only [fst0]
    by_cases e : c x y = 0
    · rw [if_pos e,if_pos ((sw x y).1 e)]; exact h'.anti x y
    · rw [if_neg e,if_neg (fun e' => e ((sw x y).2 e'))]; exact h.anti x y
  · simp only [fst0];intro h1 h2
    by_cases e1 : c x y = 0 <;> by_cases e2 : c y z = 0
    · have e3 : c x z = 0 := by rw [h.eqv x y z e1]; exact e2
      rw [if_pos e1] at h1; rw [if_pos e2] at h2; rw [if_pos e3]; exact h'.trans x y z h1 h2
    · rw [if_neg e2] at h2;have e3 : c x z = c y z := h.eqv x y z e1;rw [if_neg (by rw [e3]; exact e2),e3]; exact h2
    · rw [if_neg e1] at h1;have e3 : c z x = c y x := (h.eqv y z x e2).symm;have e4 : c x z = c x y := by rw [h.anti z x,h.anti y x,e3]
      rw [if_neg (by rw [e4]; exact e1),e4]; exact h1
    · rw [if_neg e1] at h1; rw [if_neg e2] at h2;have := h.trans x y z h1 h2;rw [if_neg (by omega)]; exact this
  · simp only [fst0];intro h1
    have e1 : c x y = 0 := by
      by_cases e : c x y = 0
      · exact e
      · rw [if_neg e] at h1; exact h1
    rw [if_pos e1] at h1;rw [h.eqv x y z e1];rw [h'.eqv x y z h1]
theorem PC.last {γ : Type} : PC fun x y : γ => fst0 ((fun _ _ : γ => ([] : List Int)) x y) := PC.zero
theorem ZbK : PC cmpR :=
  PC.lex (cmpI_pc.comap Rsc.k) <| PC.lex (cmpS_pc.comap fun r : Rsc => r.acc.o) <| PC.lex (cmpI_pc.comap fun r : Rsc => r.acc.k) <| PC.lex (cmpS_pc.comap fun r : Rsc => r.acc.a) <| PC.lex (cmpS_pc.comap Rsc.f) <| PC.lex (cmpS_pc.comap Rsc.t) PC.last
theorem ordI_pc : PC ordI := PC.lex (cmpI_pc.comap Itm.pr).rev <| PC.lex (cmpI_pc.comap Itm.sq) PC.last
theorem PC.refl {γ : Type} {c : γ → γ → Int} (h : PC c) (x : γ) : c x x = 0 := by have := h.anti x x; omega
theorem PC.swo {γ : Type} {c : γ → γ → Int} (h : PC c) : Go.Sort.SWO (ltOf c) := by
  refine ⟨fun x => ?_,fun x y z h1 h2 => ?_,fun x y z h1 h2 => ?_⟩
  · simp [ltOf,h.refl]
  · simp only [ltOf,decide_eq_true_eq] at *; exact h.trans x y z h1 h2
  · simp only [ltOf,decide_eq_false_iff_not] at *;have a1 := h.anti x y; have a2 := h.anti y z; have a3 := h.anti x z
    by_cases e : c x y = 0
    · rw [h.eqv x y z e]; exact h2
    · by_cases e2 : c y z = 0
      · have := h.eqv y z x e2;rw [h.anti x y,h.anti x z] at this; omega
      · have := h.trans z y x (by omega) (by omega); omega
theorem cmpI_zero {a b : Int} : cmpI a b = 0 ↔ a = b := by
  unfold cmpI; split
  · constructor <;> intro h <;> omega
  · split <;> constructor <;> intro h <;> omega
theorem cmpR_zero {a b : Rsc} : cmpR a b = 0 ↔ a = b := by
  unfold cmpR;simp only [fst0];rw [Rsc.eq_iff,Acc.eq_iff]
  constructor
  · intro h
    repeat' split at h
    all_goals first
      | contradiction
      | (rename_i h1 h2 h3 h4 h5 h6; exact ⟨cmpI_zero.1 h1,⟨cmpS_zero.1 h2,cmpI_zero.1 h3,cmpS_zero.1 h4⟩,cmpS_zero.1 h5,cmpS_zero.1 h6⟩)
  · rintro ⟨h1,⟨h2,h3,h4⟩,h5,h6⟩;rw [h1,h2,h3,h4,h5,h6]
    simp [cmpI_zero,cmpS_zero]
theorem strict_one {γ : Type} {R : γ → γ → Prop} (irr : ∀ x, ¬ R x x) (tr : ∀ x y z,R x y → R y z → R x z) : ∀ {l m : List γ},l.Pairwise R → m.Pairwise R → (∀ x,x ∈ l ↔ x ∈ m) → l = m
  | [],[],_,_,_ => rfl
  | [],b :: m,_,_,h => by have := (h b).2 (by simp); cases this
  | a :: l,[],_,_,h => by have := (h a).1 (by simp); cases this
  | a :: l,b :: m,h1,h2,h => by
    rw [List.pairwise_cons] at h1 h2
    have e : a = b := by
      rcases List.mem_cons.1 ((h a).1 (by simp)) with e | h3
      · exact e
      · rcases List.mem_cons.1 ((h b).2 (by simp)) with e | h4
        · exact e.symm
        · exact absurd (tr _ _ _ (h1.1 b h4) (h2.1 a h3)) (irr a)
    subst e
    congr 1
    refine strict_one irr tr h1.2 h2.2 fun x => ⟨fun hx => ?_,fun hx => ?_⟩
    · rcases List.mem_cons.1 ((h x).1 (by simp [hx])) with e | h3
      · subst e; exact absurd (h1.1 x hx) (irr x)
      · exact h3
    · rcases List.mem_cons.1 ((h x).2 (by simp [hx])) with e | h3
      · subst e; exact absurd (h2.1 x hx) (irr x)
      · exact h3
abbrev accZ : Acc := ⟨[],0,[]⟩
def validE (r : Rsc) : Int :=
  if r.k = 0 then (if r.acc.o ≠ [] ∧ r.acc.a ≠ [] ∧ 0 ≤ r.acc.k ∧ r.acc.k < 5 ∧ r.f = [] ∧ r.t = [] then 0 else 3)
  else if r.k = 1 then (if r.f ≠ [] ∧ r.t ≠ [] ∧ r.f ≠ r.t ∧ r.acc = accZ then 0 else 3)
  else if r.k = 2 then (if r.f ≠ [] ∧ r.t = [] ∧ r.acc = accZ then 0 else 3) else 11
theorem valid_p (r : Rsc) : PCalls Tryz.prog 111 [.d (rscD r)] (intD (validE r)) := by
  refine ZaB Tryz.func111 rfl rfl Tryz.ntmps111 rfl rfl rfl fun F hF => (Zad (Zab (Zaj.go (ZaS 1 rfl rfl rfl rfl rfl rfl rfl) (goAs rfl rfl ?_))));refine Zac (Zad (Zab (goAs rfl rfl (Zac (Zad (Zad (Zab (Zaa.go (Zag rfl fi51_0 rfl rfl rfl) ?_))))))));refine Zaa.go (Zah rfl rfl rfl on3 rfl) (Zac (Zam (Zad (Zab (Zaa.go (Zbn rfl rfl rfl) (goAs rfl rfl (Zac (ZaF rfl (fun h6 => ?_) (fun h6 => ?_)))))))))
  · refine Zab (Zaa.go (Zag rfl fi51_1 rfl rfl rfl) (Zaa.go (Zag rfl fi49_0 rfl rfl rfl) (Zaa.go (Zah rfl rfl rfl on9 rfl) (Zaa.go (ZbU rfl rfl rfl) (goMv rfl rfl (ZaP 12 rfl (fun h12 => ?_) (fun h12 => ?_)))))))
    · refine Zal rfl rfl rfl (Zaa.go (Zag rfl fi51_1 rfl rfl rfl) ?_);refine Zal rfl rfl rfl (Zaa.go (Zag rfl fi49_2 rfl rfl rfl) (Zal rfl rfl rfl (Zaa.go (Zah rfl rfl rfl on9 rfl) (Zal rfl rfl rfl (Zaa.go (ZbU rfl rfl rfl) (Zaa.go (Zaw rfl rfl rfl rfl) (goMv rfl rfl (ZaP 18 rfl (fun h18 => ?_) (fun h18 => ?_)))))))))
      · refine Zal rfl rfl rfl (Zaa.go (Zag rfl fi51_1 rfl rfl rfl) ?_);refine Zal rfl rfl rfl (Zaa.go (Zag rfl fi49_1 rfl rfl rfl) (Zal rfl rfl rfl (Zaa.go (Zah rfl rfl rfl on3 rfl) (Zal rfl rfl rfl (Zaa.go (st_geq rfl rfl rfl) (Zaa.go (Zaw rfl rfl rfl rfl) (goMv rfl rfl (ZaP 24 rfl (fun h24 => ?_) (fun h24 => ?_)))))))))
        · refine Zal rfl rfl rfl (Zaa.go (Zag rfl fi51_1 rfl rfl rfl) ?_);refine Zal rfl rfl rfl (Zaa.go (Zag rfl fi49_1 rfl rfl rfl) (Zal rfl rfl rfl (Zaa.go (Zah rfl rfl rfl on3 rfl) (Zal rfl rfl rfl (Zaa.go (ZaI rfl rfl rfl) (Zaa.go (Zaw rfl rfl rfl rfl) (goMv rfl rfl (ZaP 30 rfl (fun h30 => ?_) (fun h30 => ?_)))))))))
          · refine Zal rfl rfl rfl (Zaa.go (Zag rfl fi51_2 rfl rfl rfl) (Zal rfl rfl rfl (Zaa.go (Zah rfl rfl rfl on9 rfl) (Zal rfl rfl rfl (Zaa.go (Za8 rfl rfl rfl) (Zaa.go (Zaw rfl rfl rfl rfl) (goMv rfl rfl (ZaP 35 rfl (fun h35 => ?_) (fun h35 => ?_)))))))))
            · refine Zal rfl rfl rfl (Zaa.go (Zag rfl fi51_3 rfl rfl rfl) (Zal rfl rfl rfl (Zaa.go (Zah rfl rfl rfl on9 rfl) (Zal rfl rfl rfl (Zaa.go (Za8 rfl rfl rfl) (Zaa.go (Zaw rfl rfl rfl rfl) ?_))))));refine goAs rfl rfl (Zac (Zad (Zad (Zab (goMv rfl rfl (Zaa.go (Zbq rfl rfl) (Zac (ZaF rfl (fun h80 => ?_) (fun h80 => ?_)))))))))
              · refine Zad (Zab (goAs rfl rfl (Zac (Zao ?_))));exact ⟨_,[],[],Zak rfl,rfl,rfl,retI (by unfold validE; simp_all <;> (intros; omega)),rfl⟩
              · refine Zap (Zad (Zab (goAs rfl rfl (Zac (Zao ?_)))));exact ⟨_,[],[],Zak rfl,rfl,rfl,retI (by unfold validE; simp_all <;> (intros; omega)),rfl⟩
            · refine Zai rfl rfl rfl rfl (Zai rfl rfl rfl rfl (Zai rfl rfl rfl rfl (Zaa.go (ZaG rfl rfl rfl rfl) (goAs rfl rfl (Zac (Zad (Zad (Zab ?_))))))));refine goMv rfl rfl (Zaa.go (st_notF rfl rfl) (Zac (ZaU rfl rfl (Zad (Zab (goAs rfl rfl (Zac (Zao ?_))))))));exact ⟨_,[],[],Zak rfl,rfl,rfl,retI (by unfold validE; simp_all <;> (intros; omega)),rfl⟩
          · refine Zai rfl rfl rfl rfl (Zai rfl rfl rfl rfl (Zai rfl rfl rfl rfl (Zaa.go (ZaG rfl rfl rfl rfl) (goMv rfl rfl ?_))));refine Zai rfl rfl rfl rfl (Zai rfl rfl rfl rfl (Zai rfl rfl rfl rfl (Zaa.go (ZaG rfl rfl rfl rfl) (goAs rfl rfl (Zac (Zad (Zad (Zab ?_))))))));refine goMv rfl rfl (Zaa.go (st_notF rfl rfl) (Zac (ZaU rfl rfl (Zad (Zab (goAs rfl rfl (Zac (Zao ?_))))))));exact ⟨_,[],[],Zak rfl,rfl,rfl,retI (by unfold validE; simp_all <;> (intros; omega)),rfl⟩
        · refine Zai rfl rfl rfl rfl (Zai rfl rfl rfl rfl ?_);refine Zai rfl rfl rfl rfl (Zai rfl rfl rfl rfl (Zaa.go (ZaG rfl rfl rfl rfl) (goMv rfl rfl (Zai rfl rfl rfl rfl (Zai rfl rfl rfl rfl (Zai rfl rfl rfl rfl (Zaa.go (ZaG rfl rfl rfl rfl) (goMv rfl rfl ?_))))))));refine Zai rfl rfl rfl rfl (Zai rfl rfl rfl rfl (Zai rfl rfl rfl rfl (Zaa.go (ZaG rfl rfl rfl rfl) (goAs rfl rfl (Zac (Zad (Zad (Zab ?_))))))));refine goMv rfl rfl (Zaa.go (st_notF rfl rfl) (Zac (ZaU rfl rfl (Zad (Zab (goAs rfl rfl (Zac (Zao ?_))))))));exact ⟨_,[],[],Zak rfl,rfl,rfl,retI (by unfold validE; simp_all <;> (intros; omega)),rfl⟩
      · refine Zai rfl rfl rfl rfl (Zai rfl rfl rfl rfl (Zai rfl rfl rfl rfl (Zai rfl rfl rfl rfl (Zaa.go (ZaG rfl rfl rfl rfl) (goMv rfl rfl (Zai rfl rfl rfl rfl (Zai rfl rfl rfl rfl ?_)))))));refine Zai rfl rfl rfl rfl (Zai rfl rfl rfl rfl (Zaa.go (ZaG rfl rfl rfl rfl) (goMv rfl rfl (Zai rfl rfl rfl rfl (Zai rfl rfl rfl rfl (Zai rfl rfl rfl rfl (Zaa.go (ZaG rfl rfl rfl rfl) (goMv rfl rfl ?_))))))));refine Zai rfl rfl rfl rfl (Zai rfl rfl rfl rfl (Zai rfl rfl rfl rfl (Zaa.go (ZaG rfl rfl rfl rfl) (goAs rfl rfl (Zac (Zad (Zad (Zab ?_))))))));refine goMv rfl rfl (Zaa.go (st_notF rfl rfl) (Zac (ZaU rfl rfl (Zad (Zab (goAs rfl rfl (Zac (Zao ?_))))))));exact ⟨_,[],[],Zak rfl,rfl,rfl,retI (by unfold validE; simp_all <;> (intros; omega)),rfl⟩
    · refine Zai rfl rfl rfl rfl (Zai rfl rfl rfl rfl (Zai rfl rfl rfl rfl (Zai rfl rfl rfl rfl (Zaa.go (ZaG rfl rfl rfl rfl) ?_))));refine goMv rfl rfl (Zai rfl rfl rfl rfl (Zai rfl rfl rfl rfl (Zai rfl rfl rfl rfl (Zai rfl rfl rfl rfl (Zaa.go (ZaG rfl rfl rfl rfl) (goMv rfl rfl (Zai rfl rfl rfl rfl (Zai rfl rfl rfl rfl ?_))))))));refine Zai rfl rfl rfl rfl (Zai rfl rfl rfl rfl (Zaa.go (ZaG rfl rfl rfl rfl) (goMv rfl rfl (Zai rfl rfl rfl rfl (Zai rfl rfl rfl rfl (Zai rfl rfl rfl rfl (Zaa.go (ZaG rfl rfl rfl rfl) (goMv rfl rfl ?_))))))));refine Zai rfl rfl rfl rfl (Zai rfl rfl rfl rfl (Zai rfl rfl rfl rfl (Zaa.go (ZaG rfl rfl rfl rfl) (goAs rfl rfl (Zac (Zad (Zad (Zab ?_))))))));refine goMv rfl rfl (Zaa.go (st_notF rfl rfl) (Zac (ZaU rfl rfl (Zad (Zab (goAs rfl rfl (Zac (Zao ?_))))))));exact ⟨_,[],[],Zak rfl,rfl,rfl,retI (by unfold validE; simp_all <;> (intros; omega)),rfl⟩
  · refine Zad (Zab (Zaa.go (Zbn rfl rfl rfl) (goAs rfl rfl (Zac (ZaF rfl (fun h40 => ?_) (fun h40 => ?_))))))
    · refine Zab (Zaa.go (Zag rfl fi51_2 rfl rfl rfl) (Zaa.go (Zah rfl rfl rfl on9 rfl) (Zaa.go (ZbU rfl rfl rfl) (goMv rfl rfl (ZaP 45 rfl (fun h45 => ?_) (fun h45 => ?_))))))
      · refine Zal rfl rfl rfl (Zaa.go (Zag rfl fi51_3 rfl rfl rfl) (Zal rfl rfl rfl (Zaa.go (Zah rfl rfl rfl on9 rfl) (Zal rfl rfl rfl (Zaa.go (ZbU rfl rfl rfl) (Zaa.go (Zaw rfl rfl rfl rfl) (goMv rfl rfl (ZaP 50 rfl (fun h50 => ?_) (fun h50 => ?_)))))))))
        · refine Zal rfl rfl rfl (Zaa.go (Zag rfl fi51_2 rfl rfl rfl) (Zal rfl rfl rfl (Zaa.go (Zah rfl rfl rfl on9 rfl) ?_)));refine Zal rfl rfl rfl (Zaa.go (Zag rfl fi51_3 rfl rfl rfl) (Zal rfl rfl rfl (Zaa.go (Zah rfl rfl rfl on9 rfl) (Zal rfl rfl rfl (Zaa.go (ZbU rfl rfl rfl) (Zaa.go (Zaw rfl rfl rfl rfl) (goMv rfl rfl (ZaP 57 rfl (fun h57 => ?_) (fun h57 => ?_)))))))))
          · refine Zal rfl rfl rfl (Zaa.go (Zag rfl fi51_1 rfl rfl rfl) (Zal rfl rfl rfl (Zaa.go (Zas rfl rfl rw49 rfl rfl rfl) (Zal rfl rfl rfl (Zaa.go (Za0 zl49 pl49 rfl rfl rfl) (Zal rfl rfl rfl (Zaa.go (st_eqlSt (la := accC r.acc) (lb := accC accZ) (ds := accT) (by kernel_rfl) (by kernel_rfl) (by kernel_rfl) rfl rfl rfl rfl (acc_plain _) (acc_plain _) (acc_eqC _ _) rfl) (Zaa.go (Zaw rfl rfl rfl rfl) ?_))))))));refine goAs rfl rfl (Zac (Zad (Zad (Zab (goMv rfl rfl (Zaa.go (Zbq rfl rfl) (Zac (ZaF rfl (fun h80 => ?_) (fun h80 => ?_)))))))))
            · refine Zad (Zab (goAs rfl rfl (Zac (Zao ?_))));exact ⟨_,[],[],Zak rfl,rfl,rfl,retI (by unfold validE; simp_all <;> (intros; omega)),rfl⟩
            · refine Zap (Zad (Zab (goAs rfl rfl (Zac (Zao ?_)))));exact ⟨_,[],[],Zak rfl,rfl,rfl,retI (by unfold validE; simp_all <;> (intros; omega)),rfl⟩
          · refine Zai rfl rfl rfl rfl ?_;refine Zai rfl rfl rfl rfl (Zai rfl rfl rfl rfl (Zai rfl rfl rfl rfl (Zaa.go (ZaG rfl rfl rfl rfl) (goAs rfl rfl (Zac (Zad (Zad (Zab ?_))))))));refine goMv rfl rfl (Zaa.go (st_notF rfl rfl) (Zac (ZaU rfl rfl (Zad (Zab (goAs rfl rfl (Zac (Zao ?_))))))));exact ⟨_,[],[],Zak rfl,rfl,rfl,retI (by unfold validE; simp_all <;> (intros; omega)),rfl⟩
        · refine Zai rfl rfl rfl rfl (Zai rfl rfl rfl rfl (Zai rfl rfl rfl rfl (Zai rfl rfl rfl rfl (Zai rfl rfl rfl rfl (Zaa.go (ZaG rfl rfl rfl rfl) (goMv rfl rfl (Zai rfl rfl rfl rfl ?_)))))));refine Zai rfl rfl rfl rfl (Zai rfl rfl rfl rfl (Zai rfl rfl rfl rfl (Zaa.go (ZaG rfl rfl rfl rfl) (goAs rfl rfl (Zac (Zad (Zad (Zab ?_))))))));refine goMv rfl rfl (Zaa.go (st_notF rfl rfl) (Zac (ZaU rfl rfl (Zad (Zab (goAs rfl rfl (Zac (Zao ?_))))))));exact ⟨_,[],[],Zak rfl,rfl,rfl,retI (by unfold validE; simp_all <;> (intros; omega)),rfl⟩
      · refine Zai rfl rfl rfl rfl (Zai rfl rfl rfl rfl (Zai rfl rfl rfl rfl (Zaa.go (ZaG rfl rfl rfl rfl) ?_)));refine goMv rfl rfl (Zai rfl rfl rfl rfl (Zai rfl rfl rfl rfl (Zai rfl rfl rfl rfl (Zai rfl rfl rfl rfl (Zai rfl rfl rfl rfl (Zaa.go (ZaG rfl rfl rfl rfl) (goMv rfl rfl (Zai rfl rfl rfl rfl ?_))))))));refine Zai rfl rfl rfl rfl (Zai rfl rfl rfl rfl (Zai rfl rfl rfl rfl (Zaa.go (ZaG rfl rfl rfl rfl) (goAs rfl rfl (Zac (Zad (Zad (Zab ?_))))))));refine goMv rfl rfl (Zaa.go (st_notF rfl rfl) (Zac (ZaU rfl rfl (Zad (Zab (goAs rfl rfl (Zac (Zao ?_))))))));exact ⟨_,[],[],Zak rfl,rfl,rfl,retI (by unfold validE; simp_all <;> (intros; omega)),rfl⟩
    · refine Zad (Zab (Zaa.go (Zbn rfl rfl rfl) (goAs rfl rfl (Zac (ZaF rfl (fun h63 => ?_) (fun h63 => ?_))))))
      · refine Zab (Zaa.go (Zag rfl fi51_2 rfl rfl rfl) (Zaa.go (Zah rfl rfl rfl on9 rfl) (Zaa.go (ZbU rfl rfl rfl) (goMv rfl rfl (ZaP 68 rfl (fun h68 => ?_) (fun h68 => ?_))))))
        · refine Zal rfl rfl rfl (Zaa.go (Zag rfl fi51_3 rfl rfl rfl) (Zal rfl rfl rfl (Zaa.go (Zah rfl rfl rfl on9 rfl) (Zal rfl rfl rfl (Zaa.go (Za8 rfl rfl rfl) (Zaa.go (Zaw rfl rfl rfl rfl) (goMv rfl rfl (ZaP 73 rfl (fun h73 => ?_) (fun h73 => ?_)))))))))
          · refine Zal rfl rfl rfl (Zaa.go (Zag rfl fi51_1 rfl rfl rfl) (Zal rfl rfl rfl (Zaa.go (Zas rfl rfl rw49 rfl rfl rfl) (Zal rfl rfl rfl (Zaa.go (Za0 zl49 pl49 rfl rfl rfl) (Zal rfl rfl rfl (Zaa.go (st_eqlSt (la := accC r.acc) (lb := accC accZ) (ds := accT) (by kernel_rfl) (by kernel_rfl) (by kernel_rfl) rfl rfl rfl rfl (acc_plain _) (acc_plain _) (acc_eqC _ _) rfl) (Zaa.go (Zaw rfl rfl rfl rfl) ?_))))))));refine goAs rfl rfl (Zac (Zad (Zad (Zab (goMv rfl rfl (Zaa.go (Zbq rfl rfl) (Zac (ZaF rfl (fun h80 => ?_) (fun h80 => ?_)))))))))
            · refine Zad (Zab (goAs rfl rfl (Zac (Zao ?_))));exact ⟨_,[],[],Zak rfl,rfl,rfl,retI (by unfold validE; simp_all <;> (intros; omega)),rfl⟩
            · refine Zap (Zad (Zab (goAs rfl rfl (Zac (Zao ?_)))));exact ⟨_,[],[],Zak rfl,rfl,rfl,retI (by unfold validE; simp_all <;> (intros; omega)),rfl⟩
          · refine Zai rfl rfl rfl rfl ?_;refine Zai rfl rfl rfl rfl (Zai rfl rfl rfl rfl (Zai rfl rfl rfl rfl (Zaa.go (ZaG rfl rfl rfl rfl) (goAs rfl rfl (Zac (Zad (Zad (Zab ?_))))))));refine goMv rfl rfl (Zaa.go (st_notF rfl rfl) (Zac (ZaU rfl rfl (Zad (Zab (goAs rfl rfl (Zac (Zao ?_))))))));exact ⟨_,[],[],Zak rfl,rfl,rfl,retI (by unfold validE; simp_all <;> (intros; omega)),rfl⟩
        · refine Zai rfl rfl rfl rfl (Zai rfl rfl rfl rfl (Zai rfl rfl rfl rfl (Zaa.go (ZaG rfl rfl rfl rfl) (goMv rfl rfl (Zai rfl rfl rfl rfl ?_)))));refine Zai rfl rfl rfl rfl (Zai rfl rfl rfl rfl (Zai rfl rfl rfl rfl (Zaa.go (ZaG rfl rfl rfl rfl) (goAs rfl rfl (Zac (Zad (Zad (Zab ?_))))))));refine goMv rfl rfl (Zaa.go (st_notF rfl rfl) (Zac (ZaU rfl rfl (Zad (Zab (goAs rfl rfl (Zac (Zao ?_))))))));exact ⟨_,[],[],Zak rfl,rfl,rfl,retI (by unfold validE; simp_all <;> (intros; omega)),rfl⟩
      · refine Zad (Zab (goAs rfl rfl (Zac (Zao ?_))));exact ⟨_,[],[],Zak rfl,rfl,rfl,retI (by unfold validE; simp_all <;> (intros; omega)),rfl⟩
def insR : List Rsc → Rsc → List Rsc
  | [],r => [r]
  | a :: l,r => if cmpR a r < 0 then a :: insR l r else if a = r then a :: l else r :: a :: l
def RisR (l : List Rsc) : Prop := l.Pairwise fun a b => cmpR a b < 0
theorem insR_mem {l : List Rsc} {r x : Rsc} : x ∈ insR l r ↔ x = r ∨ x ∈ l := by
  induction l with
  | nil => simp [insR]
  | cons a l ih =>
    simp only [insR]
    split
    · simp only [List.mem_cons,ih]; constructor <;> intro h <;> rcases h with h | h | h <;> simp [h]
    · split
      · rename_i h; subst h; simp
      · simp
theorem insR_ris {l : List Rsc} (h : RisR l) (r : Rsc) : RisR (insR l r) := by
  induction l with
  | nil => simp [insR,RisR]
  | cons a l ih =>
    simp only [RisR,List.pairwise_cons] at h;simp only [insR]
    split
    · rename_i h1
      refine List.pairwise_cons.2 ⟨fun x hx => ?_,ih h.2⟩;rcases insR_mem.1 hx with rfl | hx
      · exact h1
      · exact h.1 x hx
    · split
      · exact List.pairwise_cons.2 h
      · rename_i h1 h2
        have h3 : cmpR r a < 0 := by
          have := ZbK.anti a r;have h4 : cmpR a r ≠ 0 := fun e => h2 (cmpR_zero.1 e);omega
        refine List.pairwise_cons.2 ⟨fun x hx => ?_,List.pairwise_cons.2 h⟩;rcases List.mem_cons.1 hx with rfl | hx
        · exact h3
        · exact ZbK.trans _ _ _ h3 (h.1 x hx)
def touL (c : List (Rsc × Int)) : List Rsc := (c.map Prod.fst).foldl insR []
theorem touL_snoc (c : List (Rsc × Int)) (x : Rsc × Int) : touL (c ++ [x]) = insR (touL c) x.1 := by simp [touL]
theorem touL_mem (c : List (Rsc × Int)) (r : Rsc) : r ∈ touL c ↔ r ∈ c.map Prod.fst := by
  induction c using ZbZ with
  | h0 => simp [touL]
  | h1 l x ih => rw [touL_snoc,insR_mem,ih]; simp only [List.map_append,List.map_cons,List.map_nil,List.mem_append,List.mem_singleton]; exact or_comm
theorem touL_ris (c : List (Rsc × Int)) : RisR (touL c) := by
  induction c using ZbZ with
  | h0 => simp [touL,RisR]
  | h1 l x ih => rw [touL_snoc]; exact insR_ris ih _
def dltC (c : List (Rsc × Int)) : List (Rsc × Int) := ((touL c).map fun r => (r,ctrSum c r)).filter fun x => decide (x.2 ≠ 0)
def dltL (i : Itm) : List (Rsc × Int) := dltC (ctr i)
theorem dltC_ris (c : List (Rsc × Int)) : (dltC c).Pairwise fun a b => cmpR a.1 b.1 < 0 := by
  unfold dltC;refine List.Pairwise.filter _ ?_;rw [List.pairwise_map];exact touL_ris c
theorem sumL_mem (c : List (Rsc × Int)) (a : Rsc) (b : Int) : (a,b) ∈ sumL c ↔ a ∈ c.map Prod.fst ∧ b = ctrSum c a := by
  constructor
  · intro h;refine ⟨(sumL_keys c a).1 (List.mem_map.2 ⟨_,h,rfl⟩), ?_⟩;rw [← sumL_get,ZbT (sumL_nodup c) h]
  · rintro ⟨h,rfl⟩;rw [← sumL_get];exact mget_mem ((sumL_keys c a).2 h)
theorem dltC_mem (c : List (Rsc × Int)) (x : Rsc × Int) : x ∈ dltC c ↔ x ∈ sumL c ∧ x.2 ≠ 0 := by
  obtain ⟨a,b⟩ := x;unfold dltC;rw [List.mem_filter,List.mem_map,sumL_mem];simp only [Prod.mk.injEq,decide_eq_true_eq]
  constructor
  · rintro ⟨⟨r,hr,rfl,rfl⟩,h⟩;exact ⟨⟨(touL_mem c r).1 hr,rfl⟩,h⟩
  · rintro ⟨⟨h1,rfl⟩,h⟩;exact ⟨⟨a,(touL_mem c a).2 h1,rfl,rfl⟩,h⟩
theorem dlt_one {c acc ys : List (Rsc × Int)} (h1 : acc.Perm ((sumL c).filter fun x => decide (x.2 ≠ 0))) (h2 : ys.Perm acc) (h3 : ys.Pairwise fun a b => ¬ cmpR b.1 a.1 < 0) : ys = dltC c := by
  have hp := h2.trans h1;refine strict_one (R := fun a b => cmpR a.1 b.1 < 0) (fun x => by rw [ZbK.refl]; omega) (fun x y z => ZbK.trans x.1 y.1 z.1) ?_ (dltC_ris c) fun x => ?_
  · have hn : (ys.map Prod.fst).Nodup := by
      refine ((hp.map Prod.fst).nodup_iff).2 ?_;exact (sumL_nodup c).sublist (List.Sublist.map _ List.filter_sublist)
    rw [List.Nodup,List.pairwise_map] at hn;refine (h3.and hn).imp fun {a b} ⟨g1,g2⟩ => ?_;have := ZbK.anti a.1 b.1;have g3 : cmpR a.1 b.1 ≠ 0 := fun e => g2 (cmpR_zero.1 e);omega
  · rw [hp.mem_iff,dltC_mem,List.mem_filter,decide_eq_true_eq]
theorem dltD_agg (x : Rsc × Int) : ∃ cs,dltD x = .agg cs := ⟨_,rfl⟩
theorem sortD_len {c acc : List (Rsc × Int)} (h1 : acc.Perm ((sumL c).filter fun x => decide (x.2 ≠ 0))) : acc.length = (dltC c).length := by
  have hs := List.pairwise_mergeSort (le := fun a b : Rsc × Int => decide (¬ cmpR b.1 a.1 < 0)) (fun a b d h1 h2 => by
    have := ZbK.swo.ntrans d.1 b.1 a.1;simp only [ltOf,decide_eq_false_iff_not] at this;simp only [decide_eq_true_eq] at h1 h2 ⊢
    exact this h2 h1) (fun a b => by have := ZbK.anti a.1 b.1; simp only [Bool.or_eq_true,decide_eq_true_eq]; omega) acc
  have hp := List.mergeSort_perm acc (fun a b : Rsc × Int => decide (¬ cmpR b.1 a.1 < 0));rw [← dlt_one h1 hp (hs.imp fun {a b} h => by simpa using h)];exact hp.length_eq.symm
section
variable {F : Fr} {s : AS} {d : Nat} {x y : Operand} {ty : TypeId} {pos : String} {aft : Array Edge} {gd : Option (Nat × Bool)} {at_ : Array TypeId} {f n : Nat} {row : List D} {hp' : Hp}
theorem st_sortD (c acc : List (Rsc × Int)) (h1 : acc.Perm ((sumL c).filter fun x => decide (x.2 ≠ 0))) (hsz : acc.length < 4611686018427387904) (hx : s.ev x = some (.own f 0 n)) (hy : s.ev y = some (.d (.raw (.func (.func 100) #[] #[])))) (ho : hget s.hp f 0 = some (.rowD 158 7 row)) (hrow : row = acc.map dltD) (hn : n = acc.length) (hh : hset? s.hp f 0 (.rowD 158 7 ((dltC c).map dltD)) = some hp') (hd : Nat.blt d s.n = true) :
    Zaj Tryz.prog F ⟨some d, .call { callee := .value (.func 99),args := #[x,y],argTypes := at_ },ty,pos,aft,gd⟩ s ⟨s.n,(d, .d (.tup [])) :: s.env,hp'⟩ (fun _ _ => true) :=
  st_sort laysD (k := 7) (by decide) Tryz.isAgg158 Tryz.sizeOf158 Tryz.func100 rfl rfl dltD_agg (fun a b => cmpR a.1 b.1) (ZbK.comap Prod.fst).swo acc (dltC c) hsz (fun x _ y _ => deltas1_p x y) (fun ys g1 g2 => dlt_one h1 g1 g2) rfl hx hy fa_raw ho hrow hn hh hd
end
def dltS (i : Itm) : List (Rsc × Int) := if checkE i = 0 then dltL i else []
theorem fst0_all {l : List Int} (h : fst0 l = 0) : ∀ x ∈ l,x = 0 := by
  have := (ZbL (l := l) (f := id)).1 (by rw [List.map_id]; exact h);exact this
theorem check_ok {i : Itm} (h : checkE i = 0) : ItmB i ∧ (0 ≤ i.id ∧ i.id ≤ 1000000000) ∧ (0 ≤ i.sq ∧ i.sq ≤ 1000000000) ∧ (0 ≤ i.pr ∧ i.pr ≤ 2) ∧ postE i = 0 ∧ payE i = 0 ∧ aftE i = 0 ∧ balE i = 0 ∧ bndE i = 0 := by
  unfold checkE at h
  split at h; · cases h
  split at h; · cases h
  rename_i h1 h2
  have h3 := fst0_all h;have e1 := h3 (postE i) (by simp [fns]);have e2 := h3 (payE i) (by simp [fns]);exact ⟨⟨by omega,by omega,by omega,post_b e1,pay_b e2⟩,by omega,by omega,by omega,e1,e2,h3 _ (by simp [fns]),h3 _ (by simp [fns]),h3 _ (by simp [fns])⟩
theorem ctr_length (i : Itm) : (ctr i).length = i.po.length + 4 * i.pa.length := by simp [ctr,ctrP,ctrY_length]
theorem sumL_length (c : List (Rsc × Int)) : (sumL c).length ≤ c.length := by
  induction c using ZbZ with
  | h0 => simp [sumL]
  | h1 l x ih =>
    rw [ZbE];unfold addL;have := mput_len (m := sumL l) (a := x.1) (b := mget (sumL l) x.1 0 + x.2);simp only [List.length_append,List.length_singleton]; omega
theorem nxt_in {α : Type} {p : α → Bool} {acc A B X : List α} {x : α} (hI : (acc ++ A.filter p).Perm X) (hp : A.Perm (x :: B)) (hx : p x = true) : ((acc ++ [x]) ++ B.filter p).Perm X := by
  have h := hp.filter p;rw [List.filter_cons_of_pos hx] at h;rw [List.append_assoc];exact (List.Perm.append_left acc h.symm).trans hI
theorem nxt_out {α : Type} {p : α → Bool} {acc A B X : List α} {x : α} (hI : (acc ++ A.filter p).Perm X) (hp : A.Perm (x :: B)) (hx : ¬ p x = true) : (acc ++ B.filter p).Perm X := by
  have h := hp.filter p;rw [List.filter_cons_of_neg hx] at h;exact (List.Perm.append_left acc h.symm).trans hI
theorem nxt_len {α : Type} {p : α → Bool} {acc A M : List α} (hI : (acc ++ A.filter p).Perm (M.filter p)) : acc.length ≤ M.length := by
  have h := hI.length_eq;have h2 := List.length_filter_le p M;rw [List.length_append] at h; omega
theorem deltas_p (i : Itm) (g1 : i.po.length ≤ 140737488355328) (g2 : i.pa.length ≤ 140737488355328) (g3 : i.af.length ≤ 140737488355328) : PCalls Tryz.prog 76 [.d (itmD i)] (.tup [.sl none ((dltS i).map dltD),intD (checkE i)]) := by
  by_cases hE : checkE i = 0
  · have hb := (check_ok hE).1;have hS : dltS i = dltL i := if_pos hE
    obtain ⟨M,hMM⟩ : ∃ M,sumL (ctr i) = M := ⟨_,rfl⟩
    have hs := (sums_c i hb).by [(2,20)] rfl;have hlen : M.length ≤ 1280 := by rw [← hMM]; have h1 := sumL_length (ctr i); have h2 := ctr_length i; have h3 := hb.po; have h4 := hb.pa; omega
    rw [hMM] at hs;rw [hS];have hck := check_p i g1 g2 g3;rw [hE] at hck ⊢;refine ZaB Tryz.func76 rfl rfl Tryz.ntmps76 rfl rfl rfl fun F hF => (Zad (Zab (Zaj.go (ZaS 1 rfl rfl rfl rfl rfl rfl rfl) (goAs rfl rfl (goAs rfl rfl (Zac (Zad ?_)))))));refine Zad (Zab (Zaa.go (Zas rfl rfl rw91 rfl rfl rfl) (Zaa.go (Zau (hck) rfl rfl) (goAs rfl rfl (Zac (Zad (Zab (goMv rfl rfl ?_))))))));refine Zaa.go (Zbi rfl rfl rfl) (Zac (Za9 rfl (by decide) (Zap (Zad (Zab (goAs rfl rfl (Zac (Zad ?_))))))));refine Zad (a_adopt 5 900 sl155 rfl rfl rfl rfl (Zab (Zaa.go (Zas rfl rfl rw91 rfl rfl rfl) (Zaj.go (Zbh hs rfl [20] ⟨rfl,trivial⟩ rfl rfl rfl rfl rfl rfl rfl rfl rfl) (Zaj.go (st_range 2 rfl rfl rfl mt178 rfl rfl rfl rfl) (Zac (Zam (ZaK (α := List Nat × List (Rsc × Int)) (fun q => ⟨32,[(5,(.own 900 0 q.2.length)),(15,(.ptr 2 0 0))],[(2,[.iter 20 0 M.length q.1]),(20,[mapC rscD intD M]),(900,[.rowD 158 7 (q.2.map dltD)])]⟩) (fun q => (q.2 ++ (lft M (List.range M.length) q.1).filter (fun x => decide (x.2 ≠ 0))).Perm (M.filter fun x => decide (x.2 ≠ 0))) (fun q => (lft M (List.range M.length) q.1).length) (([],[])) (by rw [lft_start (by simp)]; exact List.Perm.refl _) (Zaq hF [2,20,900] rfl rfl ⟨rfl,rfl,trivial⟩) ?_))))))));rintro ⟨seen,acc⟩ hI;dsimp only at hI ⊢;refine Zad (Zab (o_next (M) rfl rfl rfl rfl (fun hl16 => ?_) (fun j16 b16 k16 v16 hm16 hb16 hB16 hp16 => ⟨_,rfl, ?_⟩)))
    · refine Zaa.go (Za6 rfl rfl rfl) (Zac (Zad (Za9 rfl rfl (ZaL (Zad ?_)))));have hacc : acc.Perm ((sumL (ctr i)).filter fun x => decide (x.2 ≠ 0)) := by have h := hI; rw [hl16,List.filter_nil,List.append_nil] at h; rw [hMM]; exact h
      refine Zab (goMv rfl rfl (Zaj.go (st_sortD (ctr i) acc hacc (by have := nxt_len hI; omega) rfl rfl rfl rfl rfl rfl rfl) ?_));refine Zac (Zad (ZbH (emb := dltD) 5 900 (dltL i) rfl rfl rfl (sortD_len hacc) rfl rfl rfl (Zab (goMv rfl rfl (goAs rfl rfl (goAs rfl rfl (Zac (Zao ?_))))))));exact ⟨_,[],[],Zak rfl,rfl,rfl,rfl,rfl⟩
    · refine Zaa.go (Za6 rfl rfl rfl) (Zac (Zad ?_));refine ZaU rfl rfl (Zap (Zam (Zad (Zab (Zaa.go (st_entry (M) j16 b16 rfl rfl rfl hm16 hb16 rfl) (Zaa.go (Za6 rfl rfl rfl) (Zaa.go (Za6 rfl rfl rfl) (Zaj.go (ZaQ 3 zl51 rfl rfl rfl rfl) ?_))))))));refine Zaj.go (Zaz rfl rfl rfl rfl rfl rfl rfl sz51) (goAs rfl rfl (Zac (Zad (Zab (goMv rfl rfl (Zaa.go (Zbi rfl rfl rfl) (Zac (ZaF rfl (fun h22 => ?_) (fun h22 => ?_)))))))))
      · refine Zab (goMv rfl rfl (Zaa.go (Zas rfl rfl rw51 rfl rfl rfl) (goMv rfl rfl (Zaa.go (Za0 zl158 pl158 rfl rfl rfl) (Zaj.go (ZaD 4 sl155 rfl rfl rfl rfl rfl rfl rfl rfl) (Zaj.go (Zbc (acc) ([(k16,v16)]) rfl rfl rfl rfl rfl rfl rfl rfl sl155 (by have := nxt_len hI; simp only [List.length_singleton]; omega) rfl rfl rfl rfl) (goAs rfl rfl (Zac ?_))))))));exact ⟨(seen ++ [b16],_),nxt_in hI hp16 (by simpa using h22),by show (lft M (List.range M.length) (seen ++ [b16])).length < (lft M (List.range M.length) seen).length; rw [hp16.length_eq]; exact Nat.lt_succ_self _,Zaq hF [2,20,900] rfl (rfl) ⟨rfl,rfl,trivial⟩⟩
      · refine Zap ?_;exact ⟨(seen ++ [b16],_),nxt_out hI hp16 (by simpa using h22),by show (lft M (List.range M.length) (seen ++ [b16])).length < (lft M (List.range M.length) seen).length; rw [hp16.length_eq]; exact Nat.lt_succ_self _,Zaq hF [2,20,900] rfl (rfl) ⟨rfl,rfl,trivial⟩⟩
  · have hck := check_p i g1 g2 g3;have hS : dltS i = [] := if_neg hE;rw [hS];refine ZaB Tryz.func76 rfl rfl Tryz.ntmps76 rfl rfl rfl fun F hF => (Zad ?_);refine Zab (Zaj.go (ZaS 1 rfl rfl rfl rfl rfl rfl rfl) (goAs rfl rfl (o_anyNil 2 rfl (goAs rfl rfl (Zac (Zad (Zad (Zab ?_))))))));refine Zaa.go (Zas rfl rfl rw91 rfl rfl rfl) (Zaa.go (Zau (hck) rfl rfl) (goAs rfl rfl (Zac (Zad (Zab (goMv rfl rfl (Zaa.go (Zbi rfl rfl rfl) (Zac ?_))))))));refine ZaU rfl ((by simpa using hE)) (Zad (Zab (goMv rfl rfl (goAs rfl rfl (o_anyNil 2 rfl (goAs rfl rfl (Zac (Zao ?_))))))));exact ⟨_,[],[],Zak rfl,rfl,rfl,rfl,rfl⟩
def dltE (i : Itm) (r : Rsc) : Int := if checkE i = 0 ∧ validE r = 0 then ctrSum (ctr i) r else 0
end Go.Proofs.YtneihdahboilnaaGreat
