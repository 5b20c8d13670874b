/- Proved here: sccArguments_holds, the given statement Rows.SccArgumentsSaid: the law girolaw31.SccArguments returns true and does not panic, at every input that the statement speaks of; no condition beyond the statement. -/
/- 'girolaw31.SccArguments': for every input the law returns true, and each argument reads behind the call as it read before. No condition. -/
import Derived.Test.YtgdppeobgefogaaMg25
namespace Go.Proofs.Ytgdppeobgefogaa
open Go.RowKit
set_option maxRecDepth 100000 in
theorem copied_p (g : List (List Nat)) (hg : GB g) : PCalls Try.prog 29 [.d (grD g)] (grD g) := by
  have hn := hg.n;refine ZaY Try.func29 rfl rfl Try.ntmps29 rfl rfl rfl fun F hF => (Zag (Zae (goAs rfl rfl (Zaf (Zag (Zae (goAs rfl rfl ?_)))))));refine Zaf (Zag (Zag (Zae (goAs rfl rfl (Zaf (Zau (a_adopt 3 1 sl22 rfl rfl rfl rfl (ZaO (α := Nat) (fun k => ⟨21, [(0, .d (grD g)), (3, (.own 1 0 (g.take k).length)), (4, (.d (natD k)))], [(1, [.rowD 25 1 ((g.take k).map natsD)])]⟩) (fun k => k ≤ g.length) (fun k => g.length - k) (0) (Nat.zero_le _) (Zao hF [1] rfl rfl ⟨rfl, rfl, rfl, trivial⟩) ?_))))))));intro k hk;refine Zag (Zag (Zae (goMv rfl rfl (goMv rfl rfl (Zab.go (Zay rfl (List.length_map ..) Try.underlying22 rfl) ?_)))))
  first | refine Zab.go (ZaR rfl rfl rfl) ?_ | refine Zab.go (ZaM rfl rfl rfl) ?_
  refine Zaf ?_
  first | refine ZaQ rfl (fun h8 => ?_) (fun h8 => ?_) | refine ZaF rfl (fun h8 => ?_) (fun h8 => ?_)
  · refine Zax (Zag (Zau ?_));have hkl : k < g.length := ZaW h8;have hll := hg.len hkl;have htl : (g.take k).length = k := by rw [List.length_take]; omega
    have hts : g.take (k + 1) = g.take k ++ [sucs g k] := by rw [List.take_succ_eq_append_getElem hkl, sucs_get hkl]
    refine Zae (goMv rfl rfl (Zap.go (ZaK 21 sl25 rfl rfl rfl rfl rfl rfl rfl rfl) (goMv rfl rfl (goMv rfl rfl ?_))))
    first | refine Zab.go (Zam (k) rfl rfl (rfl) (getg hkl) Try.underlying22 rfl sz25 rfl) ?_ | refine Zab.go (Zal (k) rfl rfl (rfl) (getg hkl) rfl Try.underlying22 sz25 rfl) ?_
    first | refine Zab.go (Zai rfl rfl on25 rfl) ?_ | refine Zab.go (Zak rfl rfl rfl on25 rfl) ?_ | refine Zab.go (Zaj rfl rfl (rfl) rfl on25 rfl) ?_
    refine Zap.go (st_appMD (emb := natD) [] (sucs g k) rfl rfl rfl rfl rfl rfl (fun _ => rfl) sl25 (by show (0 + (sucs g k).length) * 8 ≤ _; omega) rfl rfl rfl rfl) (ZbT (emb := natD) 17 21 (sucs g k) rfl rfl rfl rfl rfl rfl rfl (Zap.go (ZaK 22 sl22 rfl rfl rfl rfl rfl rfl rfl rfl) (Zap.go (ZbQ (emb := natsD) (g.take k) [sucs g k] rfl rfl rfl rfl rfl rfl rfl rfl sl22 (by show ((g.take k).length + 1) * 24 ≤ _; omega) rfl rfl rfl rfl) ?_)));rw [← hts];refine goAs rfl rfl (Zaf (Zae (goMv rfl rfl (Zab.go (ZaG rfl rfl (IntWalk.i64_in _ (by omega)) rfl) (goAs rfl rfl (Zaf ?_))))));exact ⟨k + 1, hkl, by omega, Zao hF [1] rfl (rfl) ⟨rfl, rfl, rfl, trivial⟩⟩
  · refine ZaI (Zag ?_);have hke : k = g.length := by have := h8; omega
    subst hke;refine Zbj (emb := natsD) 3 1 g rfl rfl (by rw [List.take_length]) (by rw [List.take_length]) rfl rfl rfl (Zae (goMv rfl rfl (goAs rfl rfl (Zaf (Za5 ?_)))));exact ⟨_, [], [], ZaT rfl, rfl, rfl, rfl, rfl⟩
structure Shp (M : MF) (b c n : Nat) (hs : Nat → Hd) (ln : Nat → Nat) : Prop where
  out : M b = some (.row 25 1 c ((List.range n).map fun j => hdr (hs j) (ln j)))
  inn : ∀ j, j < n → ∃ xs : List D, xs.length = ln j ∧ (∀ x ∈ xs, x.one = true) ∧ rowAt M (hs j) 3 1 xs
theorem rowAt_ext {M M' : MF} {h : Hd} {t : TypeId} {k : Nat} {xs : List D} (hr : rowAt M h t k xs) (he : ∀ b m, M b = some m → M' b = some m) : rowAt M' h t k xs := by
  match h, hr with
  | none, hr => exact hr
  | some (b, c), hr => exact ⟨hr.1, he _ _ hr.2⟩
theorem Shp.ext {M M' : MF} {b c n : Nat} {hs : Nat → Hd} {ln : Nat → Nat} (h : Shp M b c n hs ln) (he : ∀ b m, M b = some m → M' b = some m) : Shp M' b c n hs ln :=
  ⟨he _ _ h.out, fun j hj => by obtain ⟨xs, h1, h2, h3⟩ := h.inn j hj; exact ⟨xs, h1, h2, rowAt_ext h3 he⟩⟩
theorem Shp.of {M : MF} {b c n : Nat} {hs : Nat → Hd} {ls : Nat → List Nat} (h : GRep M n hs ls) (hb : M b = none) : Shp (Zbn M b (.row 25 1 c (rowH n hs ls))) b c n hs (fun j => (ls j).length) :=
  ⟨ZbF _ _ _, fun j hj => ⟨(ls j).map natD, List.length_map _, one_nats _, rowAt_ext (h.at_ j hj) fun b' m hm => by
    rw [mput_ne fun e => by rw [e, hb] at hm; cases hm]; exact hm⟩⟩
theorem Shp.store {M : MF} {b c n b' c' : Nat} {hs : Nat → Hd} {ln : Nat → Nat} {xs ys : List D} (h : Shp M b c n hs ln) (hm : M b' = some (.row 3 1 c' xs)) (hl : ys.length = xs.length) (h1 : ∀ y ∈ ys, y.one = true) : Shp (Zbn M b' (.row 3 1 c' ys)) b c n hs ln := by
  have hne : b ≠ b' := fun e => by
    subst e;have := h.out;rw [hm] at this;injection this with this
    injection this with this
    exact absurd this (by decide)
  refine ⟨by rw [mput_ne hne]; exact h.out, fun j hj => ?_⟩;obtain ⟨zs, g1, g2, g3⟩ := h.inn j hj
  match hh : hs j, g3 with
  | none, g3 => exact ⟨zs, g1, g2, g3⟩
  | some (b1, c1), g3 =>
    by_cases e : b1 = b'
    · subst e;have := g3.2;rw [hm] at this;injection this with this
      injection this with _ _ e3 e4
      subst e3 e4;exact ⟨ys, by rw [hl]; exact g1, h1, by rw [hl]; exact g3.1, ZbF _ _ _⟩
    · exact ⟨zs, g1, g2, g3.1, by rw [mput_ne e]; exact g3.2⟩
theorem Shp.hd {M : MF} {b c n j : Nat} {hs : Nat → Hd} {ln : Nat → Nat} (h : Shp M b c n hs ln) (hj : j < n) : ∃ a cp, hdrV (hs j) (ln j) = .slice a (ln j) cp := by
  obtain ⟨xs, g1, _, g3⟩ := h.inn j hj
  match hs j, g3 with
  | none, g3 =>
    have h0 : xs = [] := g3;rw [← g1, h0]; exact ⟨none, 0, rfl⟩
  | some (b1, c1), g3 => exact ⟨_, _, rfl⟩
theorem Shp.row {M : MF} {b c n j k : Nat} {hs : Nat → Hd} {ln : Nat → Nat} (h : Shp M b c n hs ln) (hj : j < n) (hk : k < ln j) : ∃ b1 c1 xs, hdrV (hs j) (ln j) = sV b1 (ln j) c1 ∧ M b1 = some (.row 3 1 c1 xs) ∧ xs.length = ln j ∧ ∀ x ∈ xs, x.one = true := by
  obtain ⟨xs, g1, g2, g3⟩ := h.inn j hj
  match hs j, g3 with
  | none, g3 =>
    have h0 : xs = [] := g3;subst h0; simp at g1; omega
  | some (b1, c1), g3 => exact ⟨b1, c1, xs, rfl, g3.2, g1, g2⟩
theorem shp_get {n j : Nat} {hs : Nat → Hd} {ln : Nat → Nat} {v : Value} (hj : j < n) (e : hdrV (hs j) (ln j) = v) : ((List.range n).map fun j => hdr (hs j) (ln j))[j]? = some (.raw v) := by simp [hj, e]
theorem one_setL {xs : List D} {k : Nat} {v : D} (h : ∀ x ∈ xs, x.one = true) (hv : v.one = true) : ∀ y ∈ setL xs k [v], y.one = true := fun y hy => by
  have hy : y ∈ xs.set k v := hy;rcases List.mem_or_eq_of_mem_set hy with h1 | h1
  · exact h y h1
  · rw [h1]; exact hv
def sel3 {α : Type} (a b c : α) (j : Nat) : α := if j = 0 then a else if j = 1 then b else c
theorem sel3_get {a1 a2 a3 b1 b2 b3 c1 c2 c3 j : Nat} (hj : j < 3) : ([sV a1 b1 c1, sV a2 b2 c2, sV a3 b3 c3].map D.raw)[j]? = some (.raw (sV (sel3 a1 a2 a3 j) (sel3 b1 b2 b3 j) (sel3 c1 c2 c3 j))) := by
  match j, hj with
  | 0, _ => rfl
  | 1, _ => rfl
  | 2, _ => rfl
theorem shp3 {M1 M2 M3 : MF} {a1 a2 a3 c1 c2 c3 n1 n2 n3 : Nat} {h1 h2 h3 : Nat → Hd} {l1 l2 l3 : Nat → Nat} (hd1 : ∀ i m m', M2 i = some m → M1 i = some m' → False) (hd2 : ∀ i m m', munion M2 M1 i = some m → M3 i = some m' → False) (s1 : Shp M1 a1 c1 n1 h1 l1) (s2 : Shp M2 a2 c2 n2 h2 l2) (s3 : Shp M3 a3 c3 n3 h3 l3) :
    ∀ j, j < 3 → Shp (munion (munion M2 M1) M3) (sel3 a1 a2 a3 j) (sel3 c1 c2 c3 j) (sel3 n1 n2 n3 j) (sel3 h1 h2 h3 j) (sel3 l1 l2 l3 j) := by
  have hl : ∀ {M N : MF} (b : Nat) (m : MObj), M b = some m → munion M N b = some m := fun b m h => munion_l h
  have hr : ∀ {M N : MF}, (∀ i m m', M i = some m → N i = some m' → False) → ∀ (b : Nat) (m : MObj), N b = some m → munion M N b = some m := fun {M N} hd b m h => by
    cases hm : M b with
    | none => exact munion_r hm h
    | some m' => exact (hd b _ _ hm h).elim
  intro j hj
  match j, hj with
  | 0, _ => exact (s1.ext (hr hd1)).ext hl
  | 1, _ => exact (s2.ext hl).ext hl
  | 2, _ => exact s3.ext (hr hd2)
theorem revL_len {g : List (List Nat)} (hg : GB g) (h0 : 0 < g.length) (j : Nat) : (revL g j).length ≤ 69000000000 := by
  have h := revT_len hg (i := g.length - 1) (by omega) (sucs g (g.length - 1)).length j
  rwa [revT_row, show g.length - 1 + 1 = g.length by omega, revT_end] at h
theorem cdC_len {g : List (List Nat)} (hg : GT g) (i c : Nat) : (cdC g i c).length ≤ 1048576 := by
  have h1 := cdE_len hg c;have h2 := cptS_le (cdE g c);unfold cdC; split <;> omega
set_option maxRecDepth 100000 in
set_option maxHeartbeats 2000000 in
theorem lawS9_b (g0 : List (List Int)) (hg : g0.length ≤ 140737488355328) (hl : ∀ l ∈ g0, l.length ≤ 140737488355328) (hne : smlG g0 ≠ []) : PCalls Try.prog 9 [.d (grI g0)] (boolD true) := by
  have hgt := smlG_gt g0;have hsm := small_p g0 hg hl
  obtain ⟨g, hge⟩ : ∃ g, smlG g0 = g := ⟨_, rfl⟩
  rw [hge] at hgt hsm hne;have hn := hgt.gb.n;have hn0 : 0 < g.length := List.length_pos_iff.2 hne;have hc0 : 0 < cntC g := Nat.lt_of_le_of_lt (Nat.zero_le _) ((cn_ex g hgt).lt 0 hn0);have hcl := cnt_le g hgt;obtain ⟨b1, b2⟩ := comC_b hgt;have hgl : g.length ≤ 2000000 := by omega
  have hgl2 : ∀ x ∈ g, x.length ≤ 2000000 := fun x hx => by have := hgt.gb.e x hx; omega
  refine ZaY Try.func9 rfl rfl Try.ntmps9 rfl rfl rfl fun F hF => (Zag (Zae (goAs rfl rfl (Zaf (Zag (Zag (Zae (Zab.go (Za2 (known_p) rfl rfl) ?_))))))))
  first | refine Zab.go (ZbX rfl rfl) ?_ | refine Zab.go (st_not rfl rfl) ?_
  refine Zaf (Zbm rfl (rfl) (Zax (Zag (Zae (goMv rfl rfl (Zab.go (Za2 (hsm) rfl rfl) (goAs rfl rfl (Zaf ?_))))))));refine Zag (Zae (goMv rfl rfl (Zab.go (Za2 (copied_p g hgt.gb) rfl rfl) (goAs rfl rfl (Zaf (Zag (Zae (goMv rfl rfl ?_))))))));refine o_step (Zcc (componentsO_c g hgt) rfl [10, 41] ⟨rfl, rfl, trivial⟩ rfl rfl rfl rfl (fun r H' ⟨M, hs, _, h2, h3⟩ => by subst h2 h3; exact ⟨rfl, rfl, rfl⟩) rfl) rfl ?_; rintro _ ⟨r, H', ⟨M1, hs1, hr1, rfl, rfl⟩, rfl⟩;refine goMv rfl rfl ?_
  first | refine Zab.go (ZaJ rfl rfl rfl) ?_ | refine Zab.go (ZaL rfl rfl rfl) ?_
  first | refine Zab.go (ZaJ rfl rfl rfl) ?_ | refine Zab.go (ZaL rfl rfl rfl) ?_
  refine goAs rfl rfl (goAs rfl rfl (Zaf (Zag (Zae (Zb4 4 10 41 hF rfl rfl rfl (by rw [Zbe]) (by intro e; have := congrArg List.length e; rw [Zbe, List.length_nil] at this; omega) rfl rfl rfl rfl rfl rfl rfl (fun _ _ => rfl) fun a1 c1 ha1 _ => ?_)))));have hS1 := Shp.of (c := c1) hr1 ha1;refine goMv rfl rfl ?_;refine o_step (Zcc (condenseO_c g hgt) rfl [0, 40] ⟨rfl, rfl, trivial⟩ rfl rfl rfl rfl (fun r H' ⟨M, hs, _, h2, h3⟩ => by subst h2 h3; exact ⟨rfl, rfl, rfl⟩) rfl) rfl ?_; rintro _ ⟨r, H', ⟨M2, hs2, hr2, rfl, rfl⟩, rfl⟩;refine goMv rfl rfl ?_
  first | refine Zab.go (ZaJ rfl rfl rfl) ?_ | refine Zab.go (ZaL rfl rfl rfl) ?_
  first | refine Zab.go (ZaJ rfl rfl rfl) ?_ | refine Zab.go (ZaL rfl rfl rfl) ?_
  refine goAs rfl rfl (goAs rfl rfl (Zaf (Zag (Zae (Zb4 6 0 40 hF rfl rfl rfl (by rw [Zbe]) (by intro e; have := congrArg List.length e; rw [Zbe, List.length_nil] at this; omega) rfl rfl rfl rfl rfl rfl rfl (fun _ _ => rfl) fun a2 c2 ha2 _ => ?_)))));have hS2 := Shp.of (c := c2) hr2 ha2;refine goMv rfl rfl ?_;refine o_step (Zcc (reverseO_c g hgt) rfl [52, 43] ⟨rfl, rfl, trivial⟩ rfl rfl rfl rfl (fun r H' ⟨M, hs, _, h2, h3⟩ => by subst h2 h3; exact ⟨rfl, rfl, rfl⟩) rfl) rfl ?_; rintro _ ⟨r, H', ⟨M3, hs3, hr3, rfl, rfl⟩, rfl⟩;refine goMv rfl rfl ?_
  first | refine Zab.go (ZaJ rfl rfl rfl) ?_ | refine Zab.go (ZaL rfl rfl rfl) ?_
  first | refine Zab.go (ZaJ rfl rfl rfl) ?_ | refine Zab.go (ZaL rfl rfl rfl) ?_
  refine goAs rfl rfl (goAs rfl rfl (Zaf (Zag (Zae (Zb4 8 52 43 hF rfl rfl rfl (by rw [Zbe]) (by intro e; have := congrArg List.length e; rw [Zbe, List.length_nil] at this; omega) rfl rfl rfl rfl rfl rfl rfl (fun _ _ => rfl) fun a3 c3 ha3 _ => ?_)))));have hS3 := Shp.of (c := c3) hr3 ha3;refine o_merge 41 40 rfl rfl rfl rfl rfl rfl rfl rfl rfl fun hd1 => (o_merge 43 40 rfl rfl rfl rfl rfl rfl rfl rfl rfl fun hd2 => (goMv rfl rfl (Zab.go (Za2 (topo_p g hgt) rfl rfl) (Zaf (Zag (Zae (goMv rfl rfl ?_)))))));refine o_step (Zcc (cycle_c g hgt) rfl [] trivial rfl rfl rfl rfl (fun r H' ⟨best, out, h1, h2, h3⟩ => by subst h2 h3; exact ⟨rfl, rfl, rfl⟩) rfl) rfl ?_; rintro _ ⟨r, H', ⟨best, out, hC, rfl, rfl⟩, rfl⟩;refine Zaf (Zag (Zag (Zae ?_)));refine goMv rfl rfl (goMv rfl rfl (goMv rfl rfl (Zap.go (ZaK 21 sl51 rfl rfl rfl rfl rfl rfl rfl rfl) (ZbT (emb := D.raw) 44 21 [sV a1 (cntC g) c1, sV a2 (cntC g) c2, sV a3 g.length c3] rfl rfl rfl rfl rfl rfl rfl (Zab.go (Zay rfl rfl Try.underlying51 rfl) (goMv rfl rfl (Zaf (Zau ?_))))))));obtain ⟨M, hMe⟩ : ∃ M, munion (munion (Zbn M2 a2 (.row 25 1 c2 (rowH (cntC g) hs2 (cdC g (cntC g))))) (Zbn M1 a1 (.row 25 1 c1 (rowH (cntC g) hs1 (outT (noC g) g.length))))) (Zbn M3 a3 (.row 25 1 c3 (rowH g.length hs3 (revL g)))) = M := ⟨_, rfl⟩; have hS := shp3 hd1 hd2 hS1 hS2 hS3; rw [hMe] at hS ⊢; obtain ⟨A, hA⟩ : ∃ A, sel3 a1 a2 a3 = A := ⟨_, rfl⟩; obtain ⟨N, hN⟩ : ∃ N, sel3 (cntC g) (cntC g) g.length = N := ⟨_, rfl⟩; obtain ⟨C, hCC⟩ : ∃ C, sel3 c1 c2 c3 = C := ⟨_, rfl⟩; obtain ⟨HS, hHS⟩ : ∃ HS, sel3 hs1 hs2 hs3 = HS := ⟨_, rfl⟩; obtain ⟨LN, hLN⟩ : ∃ LN, sel3 (fun j => (outT (noC g) g.length j).length) (fun j => (cdC g (cntC g) j).length) (fun j => (revL g j).length) = LN := ⟨_, rfl⟩; have hget := fun j (hj : j < 3) => sel3_get (a1 := a1) (a2 := a2) (a3 := a3) (b1 := cntC g) (b2 := cntC g) (b3 := g.length) (c1 := c1) (c2 := c2) (c3 := c3) hj; rw [hA, hN, hCC] at hget; rw [hA, hN, hCC, hHS, hLN] at hS; have hNb : ∀ j, N j ≤ 1000000 := fun j => (by rw [← hN]; unfold sel3; split; omega; split <;> omega); have hLb : ∀ j i, LN j i ≤ 69000000000 := fun j i => by rw [← hLN]; have q1 := outT_len (noC g) g.length i; have q2 := cdC_len hgt (cntC g) i; have q3 := revL_len hgt.gb hn0 i; unfold sel3; split; (show (outT (noC g) g.length i).length ≤ _; omega); split; (show (cdC g (cntC g) i).length ≤ _; omega); exact q3
  refine ZaO (α := Nat × MF) (fun q => ⟨90, [(0, (.d (grD g))), (3, (.d (grD g))), (44, (.d (.sl none ([sV a1 (cntC g) c1, sV a2 (cntC g) c2, sV a3 g.length c3].map D.raw)))), (45, (.d (natD 3))), (46, (.d (natD q.1)))], [(40, [.multi q.2])]⟩) (fun q => q.1 ≤ 3 ∧ ∀ j, j < 3 → Shp q.2 (A j) (C j) (N j) (HS j) (LN j)) (fun q => 3 - q.1) ((0, M)) (⟨Nat.zero_le _, hS⟩) (Zao hF [40] rfl rfl ⟨rfl, rfl, rfl, rfl, rfl, trivial⟩) ?_;rintro ⟨j, M⟩ ⟨hj, hS⟩;dsimp only at hj hS ⊢;refine Zag (Zae ?_)
  first | refine Zab.go (ZaR rfl rfl rfl) ?_ | refine Zab.go (ZaM rfl rfl rfl) ?_
  refine Zaf (Zag ?_)
  first | refine ZaQ rfl (fun h47 => ?_) (fun h47 => ?_) | refine ZaF rfl (fun h47 => ?_) (fun h47 => ?_)
  · refine Zax (Zag (Zau (Zag ?_)));have hjl : j < 3 := by have := h47; omega
    refine Zae ?_
    first | refine Zab.go (Zam (j) rfl rfl (rfl) (hget j hjl) Try.underlying51 rfl sz22 rfl) ?_ | refine Zab.go (Zal (j) rfl rfl (rfl) (hget j hjl) rfl Try.underlying51 sz22 rfl) ?_
    first | refine Zab.go (Zai rfl rfl on22 rfl) ?_ | refine Zab.go (Zak rfl rfl rfl on22 rfl) ?_ | refine Zab.go (Zaj rfl rfl (rfl) rfl on22 rfl) ?_
    refine goAs rfl rfl (Zaf (Zag (Zae (goAs rfl rfl (Zaf (Zau (ZaO (α := Nat × MF) (fun q => ⟨90, [(0, (.d (grD g))), (3, (.d (grD g))), (11, (.d (.raw (sV (A j) (N j) (C j))))), (44, (.d (.sl none ([sV a1 (cntC g) c1, sV a2 (cntC g) c2, sV a3 g.length c3].map D.raw)))), (45, (.d (natD 3))), (46, (.d (natD j))), (12, (.d (natD q.1)))], [(40, [.multi q.2])]⟩) (fun q => q.1 ≤ N j ∧ ∀ j, j < 3 → Shp q.2 (A j) (C j) (N j) (HS j) (LN j)) (fun q => N j - q.1) ((0, M)) (⟨Nat.zero_le _, hS⟩) (Zao hF [40] rfl rfl ⟨rfl, rfl, rfl, rfl, rfl, rfl, rfl, trivial⟩) ?_)))))));rintro ⟨i, M⟩ ⟨hi, hS⟩;dsimp only at hi hS ⊢;refine Zag (Zag (Zae (goMv rfl rfl (goMv rfl rfl ?_))))
    first | refine Zab.go (ZaU rfl Try.underlying22 rfl) ?_ | refine Zab.go (Zay rfl rfl Try.underlying22 rfl) ?_ | refine Zab.go (Za8 rfl Try.underlying22 rfl) ?_ | refine Zab.go (Za0 rfl Try.underlying22 rfl) ?_ | refine Zab.go (Za9 rfl Try.underlying22 rfl) ?_ | refine Zab.go (Za6 rfl Try.underlying22 rfl) ?_
    first | refine Zab.go (ZaR rfl rfl rfl) ?_ | refine Zab.go (ZaM rfl rfl rfl) ?_
    refine Zaf ?_
    first | refine ZaQ rfl (fun h53 => ?_) (fun h53 => ?_) | refine ZaF rfl (fun h53 => ?_) (fun h53 => ?_)
    · refine Zax (Zag (Zau (Zag ?_)));have hil : i < N j := ZaW h53;have hnb := hNb j;have hlb := hLb j i;refine Zae (goAs rfl rfl (Zaf (Zau (ZaO (α := Nat × MF) (fun q => ⟨90, [(0, (.d (grD g))), (3, (.d (grD g))), (11, (.d (.raw (sV (A j) (N j) (C j))))), (44, (.d (.sl none ([sV a1 (cntC g) c1, sV a2 (cntC g) c2, sV a3 g.length c3].map D.raw)))), (45, (.d (natD 3))), (46, (.d (natD j))), (12, (.d (natD i))), (13, (.d (natD q.1)))], [(40, [.multi q.2])]⟩) (fun q => q.1 ≤ LN j i ∧ ∀ j, j < 3 → Shp q.2 (A j) (C j) (N j) (HS j) (LN j)) (fun q => LN j i - q.1) ((0, M)) (⟨Nat.zero_le _, hS⟩) (Zao hF [40] rfl rfl ⟨rfl, rfl, rfl, rfl, rfl, rfl, rfl, rfl, trivial⟩) ?_))));rintro ⟨k, M⟩ ⟨hk, hS⟩;dsimp only at hk hS ⊢;obtain ⟨a, cp, hhd⟩ := (hS j hjl).hd hil;refine Zag (Zag (Zae (goMv rfl rfl (goMv rfl rfl (goMv rfl rfl (Zab.go (st_indexN (i) rfl rfl (rfl) (hil) Try.underlying22 sz25 rfl) (Zab.go (Zb3 (f := 40) (e := i) (off := 0) rfl (by omega) rfl ((hS j hjl).out) (shp_get hil hhd) rfl on25 rfl) ?_)))))))
      first | refine Zab.go (ZaU rfl Try.underlying25 rfl) ?_ | refine Zab.go (Zay rfl rfl Try.underlying25 rfl) ?_ | refine Zab.go (Za8 rfl Try.underlying25 rfl) ?_ | refine Zab.go (Za0 rfl Try.underlying25 rfl) ?_ | refine Zab.go (Za9 rfl Try.underlying25 rfl) ?_ | refine Zab.go (Za6 rfl Try.underlying25 rfl) ?_
      first | refine Zab.go (ZaR rfl rfl rfl) ?_ | refine Zab.go (ZaM rfl rfl rfl) ?_
      refine Zaf ?_
      first | refine ZaQ rfl (fun h62 => ?_) (fun h62 => ?_) | refine ZaF rfl (fun h62 => ?_) (fun h62 => ?_)
      · refine Zax (Zag (Zau ?_));have hkl : k < LN j i := ZaW h62;obtain ⟨x, y, xs, hx1, hx2, hx3, hx4⟩ := (hS j hjl).row hil hkl;refine Zae (goMv rfl rfl (goMv rfl rfl (Zab.go (st_indexN (i) rfl rfl (rfl) (hil) Try.underlying22 sz25 rfl) (Zab.go (Zb3 (f := 40) (e := i) (off := 0) rfl (by omega) rfl ((hS j hjl).out) (shp_get hil hx1) rfl on25 rfl) ?_))));refine goMv rfl rfl (Zab.go (st_indexN (k) rfl rfl (rfl) (hkl) Try.underlying25 sz3 rfl) (Zap.go (st_storeRN (f := 40) (off := k * 1) rfl rfl rfl rfl hx2 (by omega) hx4 rfl sz3) (Zaf (Zae (goMv rfl rfl (Zab.go (ZaG rfl rfl (IntWalk.i64_in _ (by omega)) rfl) (goAs rfl rfl (Zaf ?_))))))));exact ⟨(k + 1, Zbn M x (.row 3 1 y (setL xs (k * 1) [.raw (.int .i64 77)]))), ⟨hkl, fun j hj => (hS j hj).store hx2 (ZbB _ _ _) (one_setL hx4 rfl)⟩, by show LN j i - (k + 1) < LN j i - k; omega, Zao hF [40] rfl (rfl) ⟨rfl, rfl, rfl, rfl, rfl, rfl, rfl, rfl, trivial⟩⟩
      · refine ZaI (Zae (goMv rfl rfl (Zab.go (ZaG rfl rfl (IntWalk.i64_in _ (by omega)) rfl) (goAs rfl rfl (Zaf ?_)))));exact ⟨(i + 1, M), ⟨hil, hS⟩, by show N j - (i + 1) < N j - i; omega, Zao hF [40] rfl (rfl) ⟨rfl, rfl, rfl, rfl, rfl, rfl, rfl, trivial⟩⟩
    · refine ZaI (Zae (Zab.go (ZaG rfl rfl (IntWalk.i64_in _ (by omega)) rfl) (goMv rfl rfl (Zaf ?_))));exact ⟨(j + 1, M), ⟨hjl, hS⟩, by show 3 - (j + 1) < 3 - j; omega, Zao hF [40] rfl (rfl) ⟨rfl, rfl, rfl, rfl, rfl, trivial⟩⟩
  · refine ZaI (Zag (Zae (goMv rfl rfl (Zab.go (Za2 (components_p g hgt) rfl rfl) (goMv rfl rfl ?_)))))
    first | refine Zab.go (ZaJ rfl rfl rfl) ?_ | refine Zab.go (ZaL rfl rfl rfl) ?_
    first | refine Zab.go (ZaJ rfl rfl rfl) ?_ | refine Zab.go (ZaL rfl rfl rfl) ?_
    refine goAs rfl rfl (goAs rfl rfl (Zaf (Zag ?_)));refine Zae (goMv rfl rfl (goMv rfl rfl (Zab.go (Za2 (same_p g g hgl hgl hgl2 hgl2) rfl rfl) (goMv rfl rfl (o_setT 80 rfl (decide_eq_true rfl) (ZaH rfl rfl rfl (goMv rfl rfl (ZaH rfl rfl rfl ?_))))))))
    first | refine Zab.go (Zby rfl rfl rfl) ?_ | refine Zab.go (Zbg rfl rfl rfl) ?_ | refine Zab.go (Zbp rfl rfl rfl) ?_ | refine Zab.go (Zbu Try.underlying26 rfl rfl rfl) ?_ | refine Zab.go (Zbr Try.underlying26 rfl rfl rfl) ?_ | refine Zab.go (Zbs Try.underlying26 rfl rfl) ?_ | refine Zab.go (Zbt Try.underlying26 rfl rfl rfl) ?_ | refine Zab.go (Zbh Try.underlying26 rfl rfl) ?_
    refine Zab.go (Za4 rfl rfl rfl rfl) (goMv rfl rfl (o_setT 84 rfl (rfl) (ZaH rfl rfl rfl (goMv rfl rfl (ZaH rfl rfl rfl ?_)))));refine goMv rfl rfl (ZaH rfl rfl rfl (Zab.go (Za2 (refcom_p g hgt) rfl rfl) (ZaH rfl rfl rfl (Zab.go (Za2 (same_p (comC g) (comC g) b1 b1 b2 b2) rfl rfl) (Zab.go (Za4 rfl rfl rfl rfl) (goAs rfl rfl (Zaf (Za5 ?_))))))));exact ⟨_, [], [], ZaT rfl, rfl, rfl, by first | rfl | (rw [decide_eq_true rfl]), rfl⟩
theorem get3 {j : Nat} (hj : j < 3) : (([[], [], []] : List (List (List Nat))).map grD)[j]? = some (grD []) := by
  match j, hj with
  | 0, _ => rfl
  | 1, _ => rfl
  | 2, _ => rfl
set_option maxRecDepth 100000 in
theorem lawS9_a (g0 : List (List Int)) (hg : g0.length ≤ 140737488355328) (hl : ∀ l ∈ g0, l.length ≤ 140737488355328) (hne : smlG g0 = []) : PCalls Try.prog 9 [.d (grI g0)] (boolD true) := by
  have hgt := smlG_gt g0;have hsm := small_p g0 hg hl;rw [hne] at hgt hsm;have hc0 : cntC [] = 0 := Nat.le_zero.1 (cnt_le [] hgt);have e1 : comC [] = [] := by unfold comC; rw [hc0]; rfl
  have e2 : cdG [] = [] := by unfold cdG; rw [hc0]; rfl
  have e3 : revG [] = [] := rfl;have hco := components_p [] hgt;have hcd := condense_p [] hgt;have hre := reverse_p [] hgt;have hrc := refcom_p [] hgt;rw [e1] at hco hrc;rw [e2] at hcd;rw [e3] at hre;refine ZaY Try.func9 rfl rfl Try.ntmps9 rfl rfl rfl fun F hF => (Zag (Zae (goAs rfl rfl (Zaf (Zag (Zag (Zae (Zab.go (Za2 (known_p) rfl rfl) ?_))))))))
  first | refine Zab.go (ZbX rfl rfl) ?_ | refine Zab.go (st_not rfl rfl) ?_
  refine Zaf (Zbm rfl (rfl) ?_);refine Zax (Zag (Zae (goMv rfl rfl (Zab.go (Za2 (hsm) rfl rfl) (goAs rfl rfl (Zaf (Zag (Zae ?_))))))));refine goMv rfl rfl (Zab.go (Za2 (copied_p [] hgt.gb) rfl rfl) (goAs rfl rfl (Zaf (Zag (Zae (goMv rfl rfl (Zab.go (Za2 (hco) rfl rfl) (goMv rfl rfl ?_))))))))
  first | refine Zab.go (ZaJ rfl rfl rfl) ?_ | refine Zab.go (ZaL rfl rfl rfl) ?_
  first | refine Zab.go (ZaJ rfl rfl rfl) ?_ | refine Zab.go (ZaL rfl rfl rfl) ?_
  refine goAs rfl rfl (goAs rfl rfl (Zaf (Zag (Zae (goMv rfl rfl (Zab.go (Za2 (hcd) rfl rfl) (goMv rfl rfl ?_)))))))
  first | refine Zab.go (ZaJ rfl rfl rfl) ?_ | refine Zab.go (ZaL rfl rfl rfl) ?_
  first | refine Zab.go (ZaJ rfl rfl rfl) ?_ | refine Zab.go (ZaL rfl rfl rfl) ?_
  refine goAs rfl rfl (goAs rfl rfl (Zaf (Zag (Zae (goMv rfl rfl (Zab.go (Za2 (hre) rfl rfl) (goMv rfl rfl ?_)))))))
  first | refine Zab.go (ZaJ rfl rfl rfl) ?_ | refine Zab.go (ZaL rfl rfl rfl) ?_
  first | refine Zab.go (ZaJ rfl rfl rfl) ?_ | refine Zab.go (ZaL rfl rfl rfl) ?_
  refine goAs rfl rfl (goAs rfl rfl ?_);refine Zaf (Zag (Zae (goMv rfl rfl (Zab.go (Za2 (topo_p [] hgt) rfl rfl) (Zaf (Zag (Zae (goMv rfl rfl ?_))))))));refine o_step (Zcc (cycle_c [] hgt) rfl [] trivial rfl rfl rfl rfl (fun r H' ⟨best, out, h1, h2, h3⟩ => by subst h2 h3; exact ⟨rfl, rfl, rfl⟩) rfl) rfl ?_; rintro _ ⟨r, H', ⟨best, out, hC, rfl, rfl⟩, rfl⟩;refine Zaf (Zag (Zag (Zae (goMv rfl rfl ?_))));refine goMv rfl rfl (goMv rfl rfl (Zap.go (ZaK 21 sl51 rfl rfl rfl rfl rfl rfl rfl rfl) (ZbT (emb := grD) 44 21 [[], [], []] rfl rfl rfl rfl rfl rfl rfl (Zab.go (Zay rfl rfl Try.underlying51 rfl) (goMv rfl rfl (Zaf (Zau (ZaO (α := Nat) (fun j => ⟨90, [(0, (.d (grD []))), (3, (.d (grD []))), (44, (.d (.sl none (([[], [], []] : List (List (List Nat))).map grD)))), (45, (.d (natD 3))), (46, (.d (natD j)))], []⟩) (fun j => j ≤ 3) (fun j => 3 - j) (0) (Nat.zero_le _) (Zao hF [] rfl rfl ⟨rfl, rfl, rfl, rfl, rfl, trivial⟩) ?_))))))));intro j hj;refine Zag (Zae ?_)
  first | refine Zab.go (ZaR rfl rfl rfl) ?_ | refine Zab.go (ZaM rfl rfl rfl) ?_
  refine Zaf (Zag ?_)
  first | refine ZaQ rfl (fun h47 => ?_) (fun h47 => ?_) | refine ZaF rfl (fun h47 => ?_) (fun h47 => ?_)
  · refine Zax (Zag (Zau (Zag ?_)));have hjl : j < 3 := by have := h47; omega
    refine Zae ?_
    first | refine Zab.go (Zam (j) rfl rfl (rfl) (get3 hjl) Try.underlying51 rfl sz22 rfl) ?_ | refine Zab.go (Zal (j) rfl rfl (rfl) (get3 hjl) rfl Try.underlying51 sz22 rfl) ?_
    first | refine Zab.go (Zai rfl rfl on22 rfl) ?_ | refine Zab.go (Zak rfl rfl rfl on22 rfl) ?_ | refine Zab.go (Zaj rfl rfl (rfl) rfl on22 rfl) ?_
    refine goAs rfl rfl (Zaf (Zag (Zae (goAs rfl rfl (Zaf (Zau (ZaO (α := Nat) (fun i => ⟨90, [(0, (.d (grD []))), (3, (.d (grD []))), (11, (.d (grD []))), (44, (.d (.sl none (([[], [], []] : List (List (List Nat))).map grD)))), (45, (.d (natD 3))), (46, (.d (natD j))), (12, (.d (natD i)))], []⟩) (fun i => i = 0) (fun i => 0) (0) (rfl) (Zao hF [] rfl rfl ⟨rfl, rfl, rfl, rfl, rfl, rfl, rfl, trivial⟩) ?_)))))));intro i hi;subst hi;refine Zag (Zag (Zae (goMv rfl rfl (goMv rfl rfl (Zab.go (Zay rfl rfl Try.underlying22 rfl) ?_)))))
    first | refine Zab.go (ZaR rfl rfl rfl) ?_ | refine Zab.go (ZaM rfl rfl rfl) ?_
    refine Zaf (Zbm rfl (rfl) (ZaI (Zae (Zab.go (ZaG rfl rfl (IntWalk.i64_in _ (by omega)) rfl) (goMv rfl rfl (Zaf ?_))))));exact ⟨j + 1, hjl, by omega, Zao hF [] rfl (rfl) ⟨rfl, rfl, rfl, rfl, rfl, trivial⟩⟩
  · refine ZaI (Zag (Zae (goMv rfl rfl (Zab.go (Za2 (hco) rfl rfl) (goMv rfl rfl ?_)))))
    first | refine Zab.go (ZaJ rfl rfl rfl) ?_ | refine Zab.go (ZaL rfl rfl rfl) ?_
    first | refine Zab.go (ZaJ rfl rfl rfl) ?_ | refine Zab.go (ZaL rfl rfl rfl) ?_
    refine goAs rfl rfl (goAs rfl rfl (Zaf (Zag ?_)));refine Zae (goMv rfl rfl (goMv rfl rfl (Zab.go (Za2 (same_p [] [] (by decide) (by decide) (by decide) (by decide)) rfl rfl) (goMv rfl rfl (o_setT 80 rfl (decide_eq_true rfl) (ZaH rfl rfl rfl (goMv rfl rfl (ZaH rfl rfl rfl ?_))))))))
    first | refine Zab.go (Zby rfl rfl rfl) ?_ | refine Zab.go (Zbg rfl rfl rfl) ?_ | refine Zab.go (Zbp rfl rfl rfl) ?_ | refine Zab.go (Zbu Try.underlying26 rfl rfl rfl) ?_ | refine Zab.go (Zbr Try.underlying26 rfl rfl rfl) ?_ | refine Zab.go (Zbs Try.underlying26 rfl rfl) ?_ | refine Zab.go (Zbt Try.underlying26 rfl rfl rfl) ?_ | refine Zab.go (Zbh Try.underlying26 rfl rfl) ?_
    refine Zab.go (Za4 rfl rfl rfl rfl) (goMv rfl rfl (o_setT 84 rfl (rfl) (ZaH rfl rfl rfl (goMv rfl rfl (ZaH rfl rfl rfl ?_)))));refine goMv rfl rfl (ZaH rfl rfl rfl (Zab.go (Za2 (hrc) rfl rfl) (ZaH rfl rfl rfl (Zab.go (Za2 (same_p [] [] (by decide) (by decide) (by decide) (by decide)) rfl rfl) (Zab.go (Za4 rfl rfl rfl rfl) (goAs rfl rfl (Zaf (Za5 ?_))))))));exact ⟨_, [], [], ZaT rfl, rfl, rfl, by first | rfl | (rw [decide_eq_true rfl]), rfl⟩
theorem lawS9_p (g0 : List (List Int)) (hg : g0.length ≤ 140737488355328) (hl : ∀ l ∈ g0, l.length ≤ 140737488355328) : PCalls Try.prog 9 [.d (grI g0)] (boolD true) := by
  by_cases h : smlG g0 = []
  · exact lawS9_a g0 hg hl h
  · exact lawS9_b g0 hg hl h
end Go.Proofs.Ytgdppeobgefogaa
namespace Go.Proofs.Ytgdppeobgefogaa
open Go.ChangeShapes Go.WideShapes Go.ChangeAt Go.RowKit

set_option maxRecDepth 100000 in
theorem sccArguments_lifted (os : Os) (started : os.Started) (H : Type) (enc : TypeId × Value → H) :
    ReturnsInHanded {} Try.checked os 9 .any (Rows.sccArgumentsSpec.pre6 enc Try.prog Try.f9 Rows.sccArgumentsRow.domain false) (Rows.sccArgumentsSpec.post enc Try.prog Try.f9 false true false false) := by
  refine returnsInHanded_of_change_sized (C := Try.checked) Try.own started (by kernel_rfl) Try.func9
    (ChangeSpec.witness6 (enc := enc) (C := Try.checked) false ⟨#[], #[.slice none 0 0], []⟩ 8 (by kernel_rfl) (by kernel_rfl) (by kernel_rfl) (by kernel_rfl)) ?_
  intro W base args ds gs before hval0 hW _ hwt _;have hW' := hW;obtain ⟨p, q, hA0, hV, rfl, _, _⟩ := hW;have hlt : ∀ x ∈ p ++ q, x.block < W.heap.size := fun x hx => hW'.lt x hx;have hA : DataW.TrodAll enc Try.prog W 0 (fun _ => true) true Try.f9.params.toList args.toList ds p := hA0;rw [Try.params9] at hA;obtain ⟨v0, d0, rfl, rfl, h0⟩ := trodAll_one hA;obtain ⟨rfl, rfl⟩ := trodVars_none hV;have hwz : ∀ n ∈ DataW.weightsEach Try.prog ([22] : List TypeId) ([d0]), n ≤ reachBytes := fun n hn => of_decide_eq_true (List.all_eq_true.1 hwt n (by rw [Try.params9]; exact hn));have hval : ∀ (j : Nat) t v, Try.f9.params[j]? = some t → (#[v0] : Array Value)[j]? = some v → Value.okWide Try.prog W .any base t v := hval0;rw [Try.params9] at hval;obtain ⟨n0, g0⟩ := h0;have hv0 : v0.oneCell' = true := by obtain ⟨_, _, _, e⟩ := okWide_slice Try.underlying22 (hval 0 22 v0 rfl rfl); rw [e]; rfl
  obtain ⟨a0, q0, _, r0⟩ := (openSl Try.underlying22 (by kernel_rfl) (by omega) (b := 24) (by kernel_rfl) (openSl Try.underlying25 (by kernel_rfl) (by omega) (b := 8) (by kernel_rfl) (openInt Try.underlying3))) _ _ _ g0 (fun x hx => hlt x (by simp [hx])) (fun n hn => hwz n (DataW.weights_mem_each (j := 0) (t := 22) rfl rfl n hn));refine (law_calls (lawS9_p a0 (by have := q0.2; omega) (fun x hx => by have := (q0.1 x hx).2; omega)) (vs := [v0]) rfl (fun i a v ha hv => ?_)).mono fun e W' ⟨he, hb⟩ => ?_
  · rcases i with _ | i
    · simp at ha hv; subst ha hv; exact RepC.arg1 rfl rfl hv0 r0
    · simp at ha
  subst he;exact ⟨_, rfl, law_post (tb := 4) Try.laidOut (by kernel_rfl) rfl rfl Try.underlying4 hW' ⟨rfl, rfl, rfl⟩ hb⟩

theorem sccArguments_holds : Rows.SccArgumentsSaid :=
  OpenClaim.holds_of_wide 9 Try.f9 rfl rfl rfl rfl rfl rfl rfl ⟨rfl, rfl, rfl, rfl, rfl⟩ rfl rfl rfl rfl rfl (by kernel_rfl) Try.func9 (by kernel_rfl)
    (of_decide_eq_true (by kernel_rfl)) (by unfold Func.isWrapper; first | (rw [if_pos (by decide +kernel)]; kernel_rfl) | (rw [if_neg (by decide +kernel)]; exact ⟨rfl, rfl⟩))
    (fun os started H enc _ => sccArguments_lifted os started H enc)
#print axioms sccArguments_holds

end Go.Proofs.Ytgdppeobgefogaa
