/- Layer 30: parts of rows; the first node that is on. -/
import Derived.Test.YtneihdahboilnaaGreatMg23
namespace Go.Proofs.YtneihdahboilnaaGreat
open Go.RowKit
set_option maxRecDepth 100000
section
variable {P : Program} {F : Fr} {s : AS} {d : Nat} {x hi : Operand} {T E : TypeId} {ty : TypeId} {pos : String} {aft : Array Edge} {g : Option (Nat × Bool)}
theorem st_sliceHiN {b n cap kk : Nat} (h : Nat) {kh : IntKind} {ih : Int} (hx : s.ev x = some (.d (.raw (sV b n cap)))) (hhi : s.ev hi = some (.d (.raw (.int kh ih)))) (hh : ih = (h : Int)) (h2 : h ≤ cap) (hT : P.underlying T = some (.slice E)) (hE : sizeTy P E kk = true) (hd : Nat.blt d s.n = true) :
    Zaa P F ⟨some d, .slice T x none (some hi) none, ty, pos, aft, g⟩ s d (.d (.raw (sV b h cap))) :=
  ZaM _ hd fun _ act w hs => by
    have e := hs.raw hx;subst hh;refine ⟨.slice (if cap = 0 then some ⟨b, 0, none⟩ else (some (⟨b, 0, none⟩ : Addr)).map (·.add (0 * kk))) (h - 0) (cap - 0), by simp only [execOp, e, Option.map_some, Option.map_none, hs.raw hhi, Sem.run_bind, run_slice_hi hT (Zb9 hE) h2, Result.andThen_ok, Sem.run_pure], ?_⟩
    have : Value.slice (if cap = 0 then some ⟨b, 0, none⟩ else (some (⟨b, 0, none⟩ : Addr)).map (·.add (0 * kk))) (h - 0) (cap - 0) = sV b h cap := by
      split <;> simp [Addr.add]
    rw [this];exact .d (.raw rfl)
end
def ixG {α : Type} (p : α → Bool) (l : List α) : Int := match l.findIdx? p with
  | some k => k
  | none => -1
theorem idx1_c {wb mv : Nat} {nb pb : Nat → Nat} {N : Net} {M : MF} (h : Rep wb mv nb pb N M) {hd : Hd} {q : List Nat} (hq : rowAt M hd 103 1 (q.map fun i => ptrD (nb i))) (hqn : ∀ i ∈ q, i < N.nd.length) (m : Nat) (hm : m ≤ q.length) (hql : q.length ≤ 100000) :
    ACalls Tryz.prog 48 [.d (hdr hd m), .d (.raw (.func (.func 81) #[] #[]))] (HN M) fun r H' => r = .d (intD (ixG (onN N) (q.take m))) ∧ H' = HN M := by
  have hz : hd = none → m = 0 := fun e => by have := ZbD hq e; omega
  have htl : (q.take m).length = m := by rw [List.length_take]; omega
  refine ZaG Tryz.func48 rfl rfl Tryz.ntmps48 rfl rfl rfl fun F hF => (Zae (Zab (goAs rfl rfl (Zac ?_))));refine Zae (Zae (Zab (goMv rfl rfl (Zaa.go (Zcc hz rfl Tryz.underlying104 rfl) (goMv rfl rfl (Zac (Zaq (ZaP (α := Nat) (fun k => ⟨19, [(0, .d (hdr hd m)), (1, .d (.raw (.func (.func 81) #[] #[]))), (7, (.d (intD (m : Int)))), (8, (.d (intD (k : Int))))], HN M⟩) (fun k => k ≤ m ∧ ∀ x ∈ (q.take m).take k, onN N x = false) (fun k => m - k) (0) (⟨Nat.zero_le _, by simp⟩) (Zau hF [40] rfl rfl ⟨rfl, rfl, rfl, rfl, trivial⟩) ?_))))))));rintro k ⟨hk0, hk⟩;refine Zae (Zab (Zaa.go (ZaN rfl rfl rfl) (Zac (Zae (ZaH rfl (fun h9 => ?_) (fun h9 => ?_))))))
  · have hk1 : k < m := ZaO h9;refine Zar (Zae (Zaq (Zae ?_)));have hkq : k < q.length := by omega
    have hkt : k < (q.take m).length := by omega
    obtain ⟨rb, rc, hre⟩ := ZbJ hq hkq;have hrow := ZbT hq hre;have hil := hqn _ (List.getElem_mem hkq)
    obtain ⟨z, hz2⟩ : ∃ z, N.nd[q[k]]? = some z := ⟨_, List.getElem?_eq_getElem hil⟩
    have hal := alone1_c h hz2;have hon : onN N q[k] = z.on := by unfold onN; rw [List.getD_eq_getElem?_getD, hz2]; rfl
    refine Zab (goMv rfl rfl (goAs rfl rfl (Zac (Zae ?_))));refine Zab (goMv rfl rfl (goMv rfl rfl (goMv rfl rfl (Zaa.go (ZbZ hre (k) rfl rfl rfl hk1 Tryz.underlying104 sz103 rfl) (Zaa.go (Zct (f := 40) (e := k) (off := 0) rfl (by omega) rfl (hrow) (getm hkq) rfl on103 rfl) (Zaj.go (st_callVD hal rfl [40] ⟨rfl, trivial⟩ rfl rfl rfl rfl rfl rfl rfl rfl rfl) (Zac (Zbb rfl (fun h16 => ?_) (fun h16 => ?_)))))))))
    · refine Zae (Zab (goMv rfl rfl (goAs rfl rfl (Zac (Zao ?_)))));exact ⟨_, [40], _, Zam rfl, rfl, rfl, retI (by unfold ixG; rw [fidx_at hkt hk (by rw [List.getElem_take, hon]; simpa using h16)]), rfl⟩
    · refine Zar (Zab (Zaa.go (ZaF rfl rfl (wrapS (k + 1) (by omega)) rfl) (goMv rfl rfl (Zac ?_))));exact ⟨k + 1, ⟨by show k + 1 ≤ _; omega, by rw [List.take_succ_eq_append_getElem hkt]; intro y hy; rcases List.mem_append.1 hy with hy | hy; exact hk y hy; rw [List.mem_singleton.1 hy, List.getElem_take]; rw [hon]; simpa using h16⟩, by show m - (k + 1) < m - k; omega, Zau hF [40] rfl (rfl) ⟨rfl, rfl, rfl, rfl, trivial⟩⟩
  · refine ZaR (Zae (Zab (goAs rfl rfl (Zac (Zao ?_)))));exact ⟨_, [40], _, Zam rfl, rfl, rfl, retI (by unfold ixG; rw [fidx_no (fun x hx => hk x (by rw [List.take_of_length_le (by have h := h9; omega)]; exact hx))]), rfl⟩
theorem ixG_nn {α : Type} {p : α → Bool} {l : List α} : (ixG p l ≥ 0) ↔ l.any p = true := by
  unfold ixG
  cases h : l.findIdx? p with
  | none =>
    rw [List.findIdx?_eq_none_iff] at h
    constructor
    · intro h1;have h2 : (-1 : Int) ≥ 0 := h1;omega
    · intro h1;obtain ⟨x, hx, h2⟩ := List.any_eq_true.1 h1;rw [h x hx] at h2; cases h2
  | some k =>
    constructor
    · intro _;obtain ⟨hk, h1, _⟩ := List.findIdx?_eq_some_iff_getElem.1 h;exact List.any_eq_true.2 ⟨l[k], List.getElem_mem hk, h1⟩
    · intro _;show (k : Int) ≥ 0;omega
theorem cont1_c {wb mv : Nat} {nb pb : Nat → Nat} {N : Net} {M : MF} (h : Rep wb mv nb pb N M) {hd : Hd} {q : List Nat} (hq : rowAt M hd 103 1 (q.map fun i => ptrD (nb i))) (hqn : ∀ i ∈ q, i < N.nd.length) (m : Nat) (hm : m ≤ q.length) (hql : q.length ≤ 100000) :
    ACalls Tryz.prog 80 [.d (hdr hd m), .d (.raw (.func (.func 81) #[] #[]))] (HN M) fun r H' => r = .d (boolD ((q.take m).any (onN N))) ∧ H' = HN M := by
  refine ZaG Tryz.func80 rfl rfl Tryz.ntmps80 rfl rfl rfl fun F hF => (Zae (Zab (goAs rfl rfl (Zac ?_))));refine Zae (Zab (goMv rfl rfl (goMv rfl rfl (Zaj.go (Zbt (idx1_c h hq hqn m hm hql) rfl [40] ⟨rfl, trivial⟩ rfl rfl rfl rfl rfl rfl rfl rfl rfl) (Zaa.go (st_geq rfl rfl rfl) (goAs rfl rfl (Zac (Zao ?_))))))));exact ⟨_, [40], _, Zam rfl, rfl, rfl, retB3 (by rw [Bool.eq_iff_iff, decide_eq_true_eq]; exact ixG_nn), rfl⟩
theorem idx3_c {wb mv : Nat} {nb pb : Nat → Nat} {N : Net} {M : MF} (h : Rep wb mv nb pb N M) (hw : NetW N) {i : Nat} {x : Nd} (hx : N.nd[i]? = some x) :
    ACalls Tryz.prog 102 [.d (hdr x.eh x.ef.length), .d (.raw (.func (.func 84) #[] #[]))] (HN M) fun r H' => r = .d (intD (ixG (fun e : Nat × Int => ovP (N.po.getD e.1 po0) e.2) x.ef)) ∧ H' = HN M := by
  obtain ⟨hxb, hre, _⟩ := h.nn i x hx;have hxm := List.mem_of_getElem? hx;have hel := (hw.l x hxm).1;have hz := ZbD hre;refine ZaG Tryz.func102 rfl rfl Tryz.ntmps102 rfl rfl rfl fun F hF => (Zae (Zab (goAs rfl rfl (Zac ?_))));refine Zae (Zae (Zab (goMv rfl rfl (Zaa.go (Zcc hz rfl Tryz.underlying109 rfl) (goMv rfl rfl (Zac (Zaq (ZaP (α := Nat) (fun k => ⟨19, [(0, .d (hdr x.eh x.ef.length)), (1, .d (.raw (.func (.func 84) #[] #[]))), (7, (.d (intD (x.ef.length : Int)))), (8, (.d (intD (k : Int))))], HN M⟩) (fun k => k ≤ x.ef.length ∧ ∀ e ∈ x.ef.take k, (fun e : Nat × Int => ovP (N.po.getD e.1 po0) e.2) e = false) (fun k => x.ef.length - k) (0) (⟨Nat.zero_le _, by simp⟩) (Zau hF [40] rfl rfl ⟨rfl, rfl, rfl, rfl, trivial⟩) ?_))))))));rintro k ⟨hk0, hk⟩;refine Zae (Zab (Zaa.go (ZaN rfl rfl rfl) (Zac (Zae (ZaH rfl (fun h9 => ?_) (fun h9 => ?_))))))
  · have hk1 : k < x.ef.length := ZaO h9;refine Zar (Zae (Zaq (Zae ?_)));obtain ⟨rb, rc, hree⟩ := ZbJ hre hk1;have hrow := ZbT hre hree;have hjl := (h.e x hxm).1 _ (List.getElem_mem hk1)
    obtain ⟨y, hy⟩ : ∃ y, N.po[x.ef[k].1]? = some y := ⟨_, List.getElem?_eq_getElem hjl⟩
    have hgy : N.po.getD x.ef[k].1 po0 = y := by rw [List.getD_eq_getElem?_getD, hy]; rfl
    have heb := hw.e x hxm _ (List.getElem_mem hk1);have hal := alone3_c h x.ef[k] hy (hw.rm y (List.mem_of_getElem? hy)) ⟨by omega, by omega⟩;refine Zab (goMv rfl rfl (goAs rfl rfl (Zac (Zae ?_))));refine Zab (goMv rfl rfl (goMv rfl rfl (goMv rfl rfl (Zaa.go (ZbZ hree (k) rfl rfl rfl hk1 Tryz.underlying109 sz119 rfl) (Zaa.go (st_loadRNS (f := 40) (e := k) rfl (rfl) rfl (hrow) (getm hk1) rfl rw119 rfl) (Zaj.go (st_callVD hal rfl [40] ⟨rfl, trivial⟩ rfl rfl rfl rfl rfl rfl rfl rfl rfl) (Zac (ZaH rfl (fun h16 => ?_) (fun h16 => ?_)))))))))
    · refine Zae (Zab (goMv rfl rfl (goAs rfl rfl (Zac (Zao ?_)))));exact ⟨_, [40], _, Zam rfl, rfl, rfl, retI (by unfold ixG; rw [fidx_at hk1 hk (by show ovP (N.po.getD x.ef[k].1 po0) x.ef[k].2 = true; rw [hgy]; unfold ovP; exact decide_eq_true h16)]), rfl⟩
    · refine Zar (Zab (Zaa.go (ZaF rfl rfl (wrapS (k + 1) (by omega)) rfl) (goMv rfl rfl (Zac ?_))));exact ⟨k + 1, ⟨by show k + 1 ≤ _; omega, by rw [List.take_succ_eq_append_getElem hk1]; intro e he; rcases List.mem_append.1 he with he | he; exact hk e he; rw [List.mem_singleton.1 he]; show ovP (N.po.getD x.ef[k].1 po0) x.ef[k].2 = false; rw [hgy]; unfold ovP; exact decide_eq_false h16⟩, by show x.ef.length - (k + 1) < x.ef.length - k; omega, Zau hF [40] rfl (rfl) ⟨rfl, rfl, rfl, rfl, trivial⟩⟩
  · refine ZaR (Zae (Zab (goAs rfl rfl (Zac (Zao ?_)))));exact ⟨_, [40], _, Zam rfl, rfl, rfl, retI (by unfold ixG; rw [fidx_no (fun e he => hk e (by rw [List.take_of_length_le (by have h := h9; omega)]; exact he))]), rfl⟩
theorem cont3_c {wb mv : Nat} {nb pb : Nat → Nat} {N : Net} {M : MF} (h : Rep wb mv nb pb N M) (hw : NetW N) {i : Nat} {x : Nd} (hx : N.nd[i]? = some x) :
    ACalls Tryz.prog 83 [.d (hdr x.eh x.ef.length), .d (.raw (.func (.func 84) #[] #[]))] (HN M) fun r H' => r = .d (boolD (x.ef.any fun e : Nat × Int => ovP (N.po.getD e.1 po0) e.2)) ∧ H' = HN M := by
  refine ZaG Tryz.func83 rfl rfl Tryz.ntmps83 rfl rfl rfl fun F hF => (Zae (Zab (goAs rfl rfl (Zac ?_))));refine Zae (Zab (goMv rfl rfl (goMv rfl rfl (Zaj.go (Zbt (idx3_c h hw hx) rfl [40] ⟨rfl, trivial⟩ rfl rfl rfl rfl rfl rfl rfl rfl rfl) (Zaa.go (st_geq rfl rfl rfl) (goAs rfl rfl (Zac (Zao ?_))))))));exact ⟨_, [40], _, Zam rfl, rfl, rfl, retB3 (by rw [Bool.eq_iff_iff, decide_eq_true_eq]; exact ixG_nn), rfl⟩
theorem idx2_c {wb mv : Nat} {nb pb : Nat → Nat} {N : Net} {M : MF} (bs : Option (List Nat × Nat)) (h : Rep wb mv nb pb N M) (hn : (idsN N).Nodup) (l : List Int) (hl : l.length ≤ 100000) (hid : ∀ id ∈ l, id ∈ idsN N) :
    ACalls Tryz.prog 90 [.d (.sl none (l.map intD)), .fn 82 [.ptr 910 0 0]] (HA wb mv bs (byL nb (idsN N)) M) fun r H' => r = .d (intD (ixG (fun id => !offOf N id) l)) ∧ H' = HA wb mv bs (byL nb (idsN N)) M := by
  obtain ⟨L, hL⟩ : ∃ L, byL nb (idsN N) = L := ⟨_, rfl⟩
  have ha := fun id hi => alone2_c (id := id) bs h hn hi;rw [hL] at ha ⊢;refine ZaG Tryz.func90 rfl rfl Tryz.ntmps90 rfl rfl rfl fun F hF => (Zae (Zab (goAs rfl rfl (Zac ?_))));refine Zae (Zae (Zab (goMv rfl rfl (Zaa.go (ZaD rfl Tryz.underlying28 rfl) (goMv rfl rfl (Zac (Zaq (ZaP (α := Nat) (fun k => ⟨19, [(0, .d (.sl none (l.map intD))), (1, .fn 82 [.ptr 910 0 0]), (7, (.d (intD (l.length : Int)))), (8, (.d (intD (k : Int))))], HA wb mv bs L M⟩) (fun k => k ≤ l.length ∧ ∀ x ∈ l.take k, (fun id => !offOf N id) x = false) (fun k => l.length - k) (0) (⟨Nat.zero_le _, by simp⟩) (Zau hF [910, 40, 50, 51] rfl rfl ⟨rfl, rfl, rfl, rfl, trivial⟩) ?_))))))));rintro k ⟨hk0, hk⟩;refine Zae (Zab (Zaa.go (ZaN rfl rfl rfl) (Zac (Zae (ZaH rfl (fun h9 => ?_) (fun h9 => ?_))))))
  · have hk1 : k < l.length := ZaO h9;refine Zar (Zae (Zaq (Zae (Zab (goMv rfl rfl (goAs rfl rfl (Zac (Zae ?_))))))));refine Zab (goMv rfl rfl (goMv rfl rfl (goMv rfl rfl (Zaa.go (Zaz (k) rfl rfl (rfl) (getm hk1) Tryz.underlying28 rfl sz3 rfl) (Zaa.go (Zat rfl rfl on3 rfl) (Zaj.go (st_callVD (ha l[k] (hid _ (List.getElem_mem hk1))) rfl [910, 40, 50, 51] ⟨rfl, rfl, rfl, rfl, trivial⟩ rfl rfl rfl rfl rfl rfl rfl rfl rfl) (Zac (Zbb rfl (fun h16 => ?_) (fun h16 => ?_)))))))))
    · refine Zae (Zab (goMv rfl rfl (goAs rfl rfl (Zac (Zao ?_)))));exact ⟨_, [910, 40, 50, 51], _, Zam rfl, rfl, rfl, retI (by unfold ixG; rw [fidx_at hk1 hk (by simpa using h16)]), rfl⟩
    · refine Zar (Zab (Zaa.go (ZaF rfl rfl (wrapS (k + 1) (by omega)) rfl) (goMv rfl rfl (Zac ?_))));exact ⟨k + 1, ⟨by show k + 1 ≤ _; omega, by rw [List.take_succ_eq_append_getElem hk1]; intro x hx; rcases List.mem_append.1 hx with hx | hx; exact hk x hx; rw [List.mem_singleton.1 hx]; simpa using h16⟩, by show l.length - (k + 1) < l.length - k; omega, Zau hF [910, 40, 50, 51] rfl (rfl) ⟨rfl, rfl, rfl, rfl, trivial⟩⟩
  · refine ZaR (Zae (Zab (goAs rfl rfl (Zac (Zao ?_)))));exact ⟨_, [910, 40, 50, 51], _, Zam rfl, rfl, rfl, retI (by unfold ixG; rw [fidx_no (fun x hx => hk x (by rw [List.take_of_length_le (by have h := h9; omega)]; exact hx))]), rfl⟩
theorem cont2_c {wb mv : Nat} {nb pb : Nat → Nat} {N : Net} {M : MF} (bs : Option (List Nat × Nat)) (h : Rep wb mv nb pb N M) (hn : (idsN N).Nodup) (l : List Int) (hl : l.length ≤ 100000) (hid : ∀ id ∈ l, id ∈ idsN N) :
    ACalls Tryz.prog 64 [.d (.sl none (l.map intD)), .fn 82 [.ptr 910 0 0]] (HA wb mv bs (byL nb (idsN N)) M) fun r H' => r = .d (boolD (l.any fun id => !offOf N id)) ∧ H' = HA wb mv bs (byL nb (idsN N)) M := by
  refine ZaG Tryz.func64 rfl rfl Tryz.ntmps64 rfl rfl rfl fun F hF => (Zae (Zab (goAs rfl rfl (Zac ?_))));refine Zae (Zab (goMv rfl rfl (goMv rfl rfl (Zaj.go (Zbt (idx2_c bs h hn l hl hid) rfl [910, 40, 50, 51] ⟨rfl, rfl, rfl, rfl, trivial⟩ rfl rfl rfl rfl rfl rfl rfl rfl rfl) (Zaa.go (st_geq rfl rfl rfl) (goAs rfl rfl (Zac (Zao ?_))))))));exact ⟨_, [910, 40, 50, 51], _, Zam rfl, rfl, rfl, retB3 (by rw [Bool.eq_iff_iff, decide_eq_true_eq]; exact ixG_nn), rfl⟩
section
variable {P : Program} {F : Fr} {s : AS} {d : Nat} {x hi : Operand} {T E : TypeId} {ty : TypeId} {pos : String} {aft : Array Edge} {g : Option (Nat × Bool)}
theorem st_sliceHiH {h : Hd} {b n cap kk : Nat} (he : h = some (b, cap)) (m : Nat) {kh : IntKind} {ih : Int} (hx : s.ev x = some (.d (hdr h n))) (hhi : s.ev hi = some (.d (.raw (.int kh ih)))) (hh : ih = (m : Int)) (h2 : m ≤ cap) (hT : P.underlying T = some (.slice E)) (hE : sizeTy P E kk = true) (hd : Nat.blt d s.n = true) :
    Zaa P F ⟨some d, .slice T x none (some hi) none, ty, pos, aft, g⟩ s d (.d (hdr h m)) := by
  subst he;exact st_sliceHiN m hx hhi hh h2 hT hE hd
end
def plN (N : Net) (e : Nat × Nat) : Bool := ((N.po.getD e.1 po0).q.take e.2).any (onN N)
def aloneN (N : Net) (x : Nd) : Bool := !(x.pl.any (plN N)) && (!(x.it.af.any fun id => !offOf N id) && !(x.ef.any fun e : Nat × Int => ovP (N.po.getD e.1 po0) e.2))
theorem al_pl {N : Net} {x : Nd} (h : x.pl.any (plN N) = true) : aloneN N x = false := by unfold aloneN; rw [h]; rfl
theorem al_af {N : Net} {x : Nd} (h0 : x.pl.any (plN N) = false) (h : (x.it.af.any fun id => !offOf N id) = true) : aloneN N x = false := by unfold aloneN; rw [h0, h]; rfl
theorem al_ef {N : Net} {x : Nd} (h0 : x.pl.any (plN N) = false) (h : (x.it.af.any fun id => !offOf N id) = false) : aloneN N x = !(x.ef.any fun e : Nat × Int => ovP (N.po.getD e.1 po0) e.2) := by unfold aloneN; rw [h0, h]; simp
set_option maxHeartbeats 1000000 in
theorem alone_c {wb mv : Nat} {nb pb : Nat → Nat} {N : Net} {M : MF} (bs : Option (List Nat × Nat)) (h : Rep wb mv nb pb N M) (hw : NetW N) {i : Nat} {x : Nd} (hx : N.nd[i]? = some x) :
    ACalls Tryz.prog 50 [.d (pD wb 0), .d (pD (nb i) 0)] (HW mv bs (byL nb (idsN N)) M) fun r H' => r = .d (boolD (aloneN N x)) ∧ H' = HW mv bs (byL nb (idsN N)) M := by
  have hxm := List.mem_of_getElem? hx;obtain ⟨hxb, hre, hrp⟩ := h.nn i x hx;have hpz := ZbD hrp;obtain ⟨_, hpl, hafl⟩ := hw.l x hxm;have hxe := h.e x hxm;have hxp := hw.p x hxm;have hc2 := cont2_c bs h hw.i x.it.af (by omega) (hw.a x hxm);have hc3 := cont3_c h hw hx
  obtain ⟨L, hL⟩ : ∃ L, byL nb (idsN N) = L := ⟨_, rfl⟩
  rw [hL] at hc2 ⊢;refine ZaG Tryz.func50 rfl rfl Tryz.ntmps50 rfl rfl rfl fun F hF => (Zae (Zab (Zaj.go (Za0 910 rfl rfl rfl rfl rfl rfl rfl) (goAs rfl rfl (Zac (Zae (Zae (Zab ?_))))))));refine goMv rfl rfl (Zaa.go (ZaE rfl rfl) (Zaa.go (Zan rfl fi112_2 rfl rfl rfl) (Zaa.go (Za1 (f := 40) rfl rfl (hxb) rfl on110 rfl) (Zaa.go (Zcc hpz rfl Tryz.underlying110 rfl) (goMv rfl rfl (Zac (Zaq (ZaP (α := Nat) (fun k => ⟨39, [(1, .d (pD (nb i) 0)), (2, (.ptr 910 0 0)), (10, (.d (hdr x.ph x.pl.length))), (11, (.d (intD (x.pl.length : Int)))), (12, (.d (intD (k : Int))))], HA wb mv bs L M⟩) (fun k => k ≤ x.pl.length ∧ ∀ e ∈ x.pl.take k, plN N e = false) (fun k => x.pl.length - k) (0) (⟨Nat.zero_le _, by simp⟩) (Zau hF [910, 40, 50, 51] rfl rfl ⟨rfl, rfl, rfl, rfl, rfl, trivial⟩) ?_))))))));rintro k ⟨hk0, hkb⟩;refine Zae (Zab (Zaa.go (ZaN rfl rfl rfl) (Zac (Zae (ZaH rfl (fun h13 => ?_) (fun h13 => ?_))))))
  · have hk1 : k < x.pl.length := ZaO h13;refine Zar (Zae (Zaq (Zae ?_)));obtain ⟨eb, ec, hee⟩ := ZbJ hrp hk1;have hrow := ZbT hrp hee;have hjl : x.pl[k].1 < N.po.length := hxe.2 _ (List.getElem_mem hk1)
    obtain ⟨y, hy⟩ : ∃ y, N.po[x.pl[k].1]? = some y := ⟨_, List.getElem?_eq_getElem hjl⟩
    have hgy : N.po.getD x.pl[k].1 po0 = y := by rw [List.getD_eq_getElem?_getD, hy]; rfl
    have hym := List.mem_of_getElem? hy;obtain ⟨hyb, hyq⟩ := h.pp _ y hy;have hpk := hxp _ (List.getElem_mem hk1);rw [hgy] at hpk;obtain ⟨qb, qc, hqe⟩ := ZbJ hyq hpk.1;have hqc : y.q.length ≤ qc := by have h1 := hyq; rw [hqe] at h1; have h2 := h1.1; rw [List.length_map] at h2; exact h2
    have hcn := cont1_c h hyq (h.q y hym) x.pl[k].2 (by omega) (by have h1 := hw.ql y hym; omega);refine Zab (Zaa.go (ZbZ hee (k) rfl rfl rfl hk1 Tryz.underlying110 sz165 rfl) ?_);refine Zaa.go (st_loadRNS (f := 40) (e := k) rfl (rfl) rfl (hrow) (getm hk1) rfl rw165 rfl) (Zaj.go (ZaV 911 zl165 rfl rfl rfl rfl) (Zaj.go (ZaA rfl rfl rfl rfl rfl rfl rfl sz165) (Zac (Zae (Za5 [[], [0], [0, 1], [0, 1, 2], [0, 1, 2, 3], [], [5], [0, 1, 2, 3, 4, 5, 6], [0, 1, 2, 3, 4, 5, 6, 7]] mixed rfl (dws (Zaf [6] [] rfl rfl (fun _ => Zad (Zag rfl fi165_0 rfl rfl rfl)) (Zaf [16] [911] rfl rfl (fun _ => Zad (Zah rfl rfl rfl on117 rfl)) ?_))))))));refine Zaf [17] [] rfl rfl (fun _ => Zad (ZaE rfl rfl)) (Zaf [18] [] rfl rfl (fun _ => Zad (Zan rfl fi121_3 rfl rfl rfl)) (Zaf [19] [40] rfl rfl (fun _ => Zad (Za1 (f := 40) rfl rfl (hyb) rfl on104 rfl)) (Zaf [6] [] rfl rfl (fun _ => Zad (Zag rfl fi165_1 rfl rfl rfl)) (Zaf [21] [911] rfl rfl (fun _ => Zad (Zah rfl rfl rfl on3 rfl)) (dwc 7 rfl rfl rfl (dw1 8 rfl rfl (Zaa.go (st_sliceHiH hqe x.pl[k].2 rfl rfl rfl (by omega) Tryz.underlying104 sz103 rfl) (Zac ⟨rfl, ?_⟩))))))));refine dw1 9 rfl rfl (Zaj.go (Zbt hcn rfl [40] ⟨rfl, trivial⟩ rfl rfl rfl rfl rfl rfl rfl rfl rfl) (Zac ⟨rfl, ?_⟩));refine dwe (Zbb rfl (fun h24 => ?_) (fun h24 => ?_))
    · refine Zae (Zab (goAs rfl rfl (Zac (Zao ?_))));exact ⟨_, [40, 50, 51], _, Zam rfl, rfl, rfl, by rw [al_pl (List.any_eq_true.2 ⟨_, List.getElem_mem hk1, by unfold plN; rw [hgy]; simpa using h24⟩)], rfl⟩
    · refine Zar (Zab (Zaa.go (ZaF rfl rfl (wrapS (k + 1) (by omega)) rfl) (goMv rfl rfl (Zac ?_))));exact ⟨k + 1, ⟨by show k + 1 ≤ _; omega, by rw [List.take_succ_eq_append_getElem hk1]; intro e he; rcases List.mem_append.1 he with he | he; exact hkb e he; rw [List.mem_singleton.1 he]; unfold plN; rw [hgy]; simpa using h24⟩, by show x.pl.length - (k + 1) < x.pl.length - k; omega, Zau hF [910, 40, 50, 51] rfl (rfl) ⟨rfl, rfl, rfl, rfl, rfl, trivial⟩⟩
  · refine ZaR (Zae (Zae ?_));have hp0 : x.pl.any (plN N) = false := by rw [List.any_eq_false]; intro e he; have e1 : k = x.pl.length := (by have h := h13; omega); rw [e1, List.take_length] at hkb; rw [hkb e he]; simp
    refine Zab ?_;refine goMv rfl rfl (Zaa.go (ZaE rfl rfl) (Zaa.go (Zan rfl fi112_0 rfl rfl rfl) (Zaa.go (Zan rfl fi91_5 rfl rfl rfl) (Zaa.go (Za1 (f := 40) rfl rfl (hxb) rfl on28 rfl) (Zaa.go (st_makeFunc rfl rfl) (Zaj.go (Zbt hc2 rfl [910, 40, 50, 51] ⟨rfl, rfl, rfl, rfl, trivial⟩ rfl rfl rfl rfl rfl rfl rfl rfl rfl) (Zac (Zbb rfl (fun h32 => ?_) (fun h32 => ?_)))))))))
    · refine Zae (Zab (goAs rfl rfl (Zac (Zao ?_))));exact ⟨_, [40, 50, 51], _, Zam rfl, rfl, rfl, by rw [al_af hp0 (by simpa using h32)], rfl⟩
    · refine Zar (Zae (Zab ?_));refine goMv rfl rfl (Zaa.go (ZaE rfl rfl) (Zaa.go (Zan rfl fi112_1 rfl rfl rfl) (Zaa.go (Za1 (f := 40) rfl rfl (hxb) rfl on109 rfl) (Zaj.go (Zbt hc3 rfl [40] ⟨rfl, trivial⟩ rfl rfl rfl rfl rfl rfl rfl rfl rfl) (Zaa.go (ZbK rfl rfl) (goAs rfl rfl (Zac (Zao ?_))))))));exact ⟨_, [40, 50, 51], _, Zam rfl, rfl, rfl, by rw [al_ef hp0 (by simpa using h32)], rfl⟩
abbrev HG (wb mv : Nat) (bs : Option (List Nat × Nat)) (L : List (Int × Value)) (M : MF) : Hp := (920, [.blk 98 [.d (pD wb 0)]]) :: HW mv bs L M
theorem gross1_c {wb mv : Nat} {nb pb : Nat → Nat} {N : Net} {M : MF} (bs : Option (List Nat × Nat)) (h : Rep wb mv nb pb N M) (hw : NetW N) {i : Nat} {x : Nd} (hx : N.nd[i]? = some x) :
    ACalls Tryz.prog 49 [.d (pD (nb i) 0), .ptr 920 0 0] (HG wb mv bs (byL nb (idsN N)) M) fun r H' => r = .d (boolD (x.on && aloneN N x)) ∧ H' = HG wb mv bs (byL nb (idsN N)) M := by
  have hxb := h.n i x hx;have hal := alone_c bs h hw hx
  obtain ⟨L, hL⟩ : ∃ L, byL nb (idsN N) = L := ⟨_, rfl⟩
  rw [hL] at hal ⊢;refine ZaG Tryz.func49 rfl rfl Tryz.ntmps49 rfl rfl rfl fun F hF => (Zae (Zab (goAs rfl rfl ?_)));refine Zac (Zae (Zab (goMv rfl rfl (Zaa.go (ZaE rfl rfl) (Zaa.go (Zan rfl fi112_3 rfl rfl rfl) (Zaa.go (Za1 (f := 40) rfl rfl (hxb) rfl on4 rfl) (goMv rfl rfl (o_splitB 8 rfl (fun h8 => ?_) (fun h8 => ?_)))))))))
  · refine Zak rfl rfl rfl ?_;refine Zaa.go (Zah rfl rfl rfl on98 rfl) (Zak rfl rfl rfl (goMv rfl rfl (Zak rfl rfl rfl (Zaj.go (Zbt hal rfl [40, 50, 51] ⟨rfl, rfl, rfl, trivial⟩ rfl rfl rfl rfl rfl rfl rfl rfl rfl) (Zaa.go (Zay rfl rfl rfl rfl) (goAs rfl rfl (Zac (Zao ?_))))))));exact ⟨_, [920, 40, 50, 51], _, Zam rfl, rfl, rfl, by rcases Bool.eq_false_or_eq_true x.on with e | e <;> rw [e] at h8 ⊢ <;> first | rfl | (simp at h8), rfl⟩
  · refine Zai rfl rfl rfl rfl (Zai rfl rfl rfl rfl (Zai rfl rfl rfl rfl (Zaa.go (ZaB rfl rfl rfl rfl) (goAs rfl rfl (Zac (Zao ?_))))));exact ⟨_, [920, 40, 50, 51], _, Zam rfl, rfl, rfl, by rcases Bool.eq_false_or_eq_true x.on with e | e <;> rw [e] at h8 ⊢ <;> first | rfl | (simp at h8), rfl⟩
def groN (N : Net) (i : Nat) : Bool := (N.nd.getD i nd0).on && aloneN N (N.nd.getD i nd0)
theorem idxG_c {wb mv : Nat} {nb pb : Nat → Nat} {N : Net} {M : MF} (bs : Option (List Nat × Nat)) (h : Rep wb mv nb pb N M) (hw : NetW N) :
    ACalls Tryz.prog 48 [.d (hdr N.nh N.nd.length), .fn 49 [.ptr 920 0 0]] (HG wb mv bs (byL nb (idsN N)) M) fun r H' => r = .d (intD (ixG (groN N) (List.range N.nd.length))) ∧ H' = HG wb mv bs (byL nb (idsN N)) M := by
  have hnr : rowAt M N.nh pnT 1 ((List.range N.nd.length).map fun i => ptrD (nb i)) := h.rs.1 .n;have hz : N.nh = none → N.nd.length = 0 := fun e => by have h1 := ZbD hnr e; rw [List.length_range] at h1; exact h1
  have hnl := hw.n.1;have hgr := fun i x hx => gross1_c (i := i) (x := x) bs h hw hx
  obtain ⟨L, hL⟩ : ∃ L, byL nb (idsN N) = L := ⟨_, rfl⟩
  rw [hL] at hgr ⊢;refine ZaG Tryz.func48 rfl rfl Tryz.ntmps48 rfl rfl rfl fun F hF => (Zae (Zab (goAs rfl rfl (Zac ?_))));refine Zae (Zae (Zab (goMv rfl rfl (Zaa.go (Zcc hz rfl Tryz.underlying104 rfl) (goMv rfl rfl (Zac (Zaq (ZaP (α := Nat) (fun k => ⟨19, [(0, .d (hdr N.nh N.nd.length)), (1, .fn 49 [.ptr 920 0 0]), (7, (.d (intD (N.nd.length : Int)))), (8, (.d (intD (k : Int))))], HG wb mv bs L M⟩) (fun k => k ≤ N.nd.length ∧ ∀ x ∈ (List.range N.nd.length).take k, groN N x = false) (fun k => N.nd.length - k) (0) (⟨Nat.zero_le _, by simp⟩) (Zau hF [920, 40, 50, 51] rfl rfl ⟨rfl, rfl, rfl, rfl, trivial⟩) ?_))))))));rintro k ⟨hk0, hk⟩;refine Zae (Zab (Zaa.go (ZaN rfl rfl rfl) (Zac (Zae (ZaH rfl (fun h9 => ?_) (fun h9 => ?_))))))
  · have hk1 : k < N.nd.length := ZaO h9;refine Zar (Zae (Zaq (Zae ?_)));have hkt : k < (List.range N.nd.length).length := by rw [List.length_range]; exact hk1
    obtain ⟨rb, rc, hre⟩ := ZbJ hnr hkt;have hrow := ZbT hnr hre
    obtain ⟨z, hz2⟩ : ∃ z, N.nd[k]? = some z := ⟨_, List.getElem?_eq_getElem hk1⟩
    have hal := hgr k z hz2;have hon : groN N k = (z.on && aloneN N z) := by unfold groN; rw [List.getD_eq_getElem?_getD, hz2]; rfl
    refine Zab (goMv rfl rfl ?_);refine goAs rfl rfl (Zac (Zae (Zab (goMv rfl rfl (goMv rfl rfl (goMv rfl rfl (Zaa.go (ZbZ hre (k) rfl rfl rfl hk1 Tryz.underlying104 sz103 rfl) (Zaa.go (Zct (f := 40) (e := k) (off := 0) rfl (by omega) rfl (hrow) ((by rw [List.getElem?_map, List.getElem?_range hk1]; rfl)) rfl on103 rfl) ?_))))))));refine Zaj.go (st_callVD hal rfl [920, 40, 50, 51] ⟨rfl, rfl, rfl, rfl, trivial⟩ rfl rfl rfl rfl rfl rfl rfl rfl rfl) (Zac (Zbb rfl (fun h16 => ?_) (fun h16 => ?_)))
    · refine Zae (Zab (goMv rfl rfl (goAs rfl rfl (Zac (Zao ?_)))));exact ⟨_, [920, 40, 50, 51], _, Zam rfl, rfl, rfl, retI (by unfold ixG; rw [fidx_at hkt hk (by rw [List.getElem_range, hon]; simpa using h16)]), rfl⟩
    · refine Zar (Zab (Zaa.go (ZaF rfl rfl (wrapS (k + 1) (by omega)) rfl) (goMv rfl rfl (Zac ?_))));exact ⟨k + 1, ⟨by show k + 1 ≤ _; omega, by rw [List.take_succ_eq_append_getElem hkt]; intro y hy; rcases List.mem_append.1 hy with hy | hy; exact hk y hy; rw [List.mem_singleton.1 hy, List.getElem_range, hon]; simpa using h16⟩, by show N.nd.length - (k + 1) < N.nd.length - k; omega, Zau hF [920, 40, 50, 51] rfl (rfl) ⟨rfl, rfl, rfl, rfl, trivial⟩⟩
  · refine ZaR (Zae (Zab (goAs rfl rfl (Zac (Zao ?_)))));exact ⟨_, [920, 40, 50, 51], _, Zam rfl, rfl, rfl, retI (by unfold ixG; rw [fidx_no (fun x hx => hk x (by rw [List.take_of_length_le (by rw [List.length_range]; have h := h9; omega)]; exact hx))]), rfl⟩
theorem onN_ers (N : Net) : onN (ersN N) = onN N := funext fun i => by unfold onN; rw [ers_getN]; rfl
theorem offOf_ers (N : Net) : offOf (ersN N) = offOf N := funext fun e => by unfold offOf; rw [ers_getN, ers_ids]; rfl
theorem alone_ers (N : Net) (x : Nd) : aloneN (ersN N) (ers x) = aloneN N x := by
  have h1 : plN (ersN N) = plN N := funext fun e => by unfold plN; rw [ers_getP, onN_ers]; rfl
  have h2 : (fun e : Nat × Int => ovP ((ersN N).po.getD e.1 po0) e.2) = fun e => ovP (N.po.getD e.1 po0) e.2 := funext fun e => by rw [ers_getP]; rfl
  unfold aloneN;rw [h1, offOf_ers];show (!(x.pl.any (plN N)) && (!(x.it.af.any fun id => !offOf N id) && !(x.ef.any fun e : Nat × Int => ovP ((ersN N).po.getD e.1 po0) e.2))) = _;rw [h2]
theorem groN_ers (N : Net) : groN (ersN N) = groN N := funext fun i => by unfold groN; rw [ers_getN, alone_ers]; rfl
set_option maxHeartbeats 1000000 in
theorem gross_none (p : Prb) (hf : FewP p) (hE : prbE p = 0) (hg : ixG (groN (netS (rosS p) (ordP p) fun _ => true)) (List.range (ordP p).length) = -1) : PCalls Tryz.prog 25 [.d (prbD p)] (.tup [.sl (some true) [], intD 0]) := by
  have hbu := build_ok p hf hE;have hsm := sml_P hf hE;rw [netP_S] at hbu
  obtain ⟨its, hits⟩ : ∃ its, ordP p = its := ⟨_, rfl⟩
  obtain ⟨ros, hros⟩ : ∃ ros, rosS p = ros := ⟨_, rfl⟩
  rw [hits, hros] at hbu hsm hg;have hl := hsm.l;refine ZaG Tryz.func25 rfl rfl Tryz.ntmps25 rfl rfl rfl fun F hF => ?_;refine Zae (Zab (Zaj.go (Za0 1 rfl rfl rfl rfl rfl rfl rfl) (goAs rfl rfl (goAs rfl rfl (Zac (Zae (Zab (Zaa.go (Zav rfl rfl rw35 rfl rfl rfl) ?_))))))));refine o_step (st_callX hbu rfl [40, 50, 51] ⟨rfl, rfl, rfl, trivial⟩ rfl rfl rfl rfl (fun r H' ⟨_, _, _, _, _, _, _, e1, e2, _⟩ => by subst e1 e2; exact ⟨rfl, rfl, rfl⟩) rfl) rfl ?_; rintro _ ⟨r, H', ⟨wb, mv, nb, pb, N, M, bs, rfl, rfl, hR, hN⟩, rfl⟩;refine goMv rfl rfl (Zaa.go (Za3 rfl rfl rfl) (Zaa.go (Za3 rfl rfl rfl) (Zaj.go (ZaV 920 zl98 rfl rfl rfl rfl) (Zaj.go (ZaA rfl rfl rfl rfl rfl rfl rfl sz98) (goAs rfl rfl (Zac ?_))))));refine Zae (Zae (Zab (goMv rfl rfl (Zaa.go (Zbf rfl rfl rfl) (Zac (Zbm rfl (rfl) (Zar (Zae ?_))))))));have hids : idsN N = its.map Itm.id := by rw [← ers_ids, hN, S_ids]
  have hw := W_ers (N := N) (by rw [hN]; exact S_w hsm _);have hix := idxG_c bs hR hw;have hz : N.nh = none → N.nd.length = 0 := fun e => by have hnr : rowAt M N.nh pnT 1 ((List.range N.nd.length).map fun i => ptrD (nb i)) := hR.rs.1 .n; have h1 := ZbD hnr e; rw [List.length_range] at h1; exact h1
  have hg2 : ixG (groN N) (List.range N.nd.length) = -1 := by rw [← groN_ers, hN, S_len hN]; exact hg
  rw [hg2] at hix
  obtain ⟨L, hL⟩ : ∃ L, byL nb (idsN N) = L := ⟨_, rfl⟩
  rw [hL] at hix ⊢;have hwb := hR.w;refine Zab (goAs rfl rfl (Zac (Zaq (ZaP (α := Unit) (fun q => ⟨66, [(4, (.ptr 920 0 0)), (6, (.d (.sl (some true) [])))], HG wb mv bs L M⟩) (fun q => True) (fun q => 0) (()) (trivial) (Zau hF [920, 40, 50, 51] rfl rfl ⟨rfl, rfl, trivial⟩) ?_))));rintro _ _;refine Zaq (Zae (Zab (Zaa.go (Zah rfl rfl rfl on98 rfl) (Zaa.go (ZaE rfl rfl) (Zaa.go (Zan rfl fi108_0 rfl rfl rfl) (Zaa.go (Za1 (f := 40) rfl rfl (hwb) rfl on104 rfl) ?_))))));refine Zaa.go (st_makeFunc rfl rfl) (Zaj.go (Zbt hix rfl [920, 40, 50, 51] ⟨rfl, rfl, rfl, rfl, trivial⟩ rfl rfl rfl rfl rfl rfl rfl rfl rfl) (goAs rfl rfl (Zac (Zae (Zae (Zab (goMv rfl rfl (Zaa.go (ZaN rfl rfl rfl) ?_))))))));refine Zac (ZaU rfl (rfl) (Zae (Zab (goMv rfl rfl (goAs rfl rfl (goAs rfl rfl (Zac (Zao ?_))))))));exact ⟨_, [], [], Zam rfl, rfl, rfl, rfl, rfl⟩
theorem own30_p (p : Prb) (h : FewP p) : PCalls Tryz.prog 16 [.d (prbD p)] (prbD p) := by
  obtain ⟨g1, g2, g3⟩ := h;refine ZaG Tryz.func16 rfl rfl Tryz.ntmps16 rfl rfl rfl fun F hF => (Zae (Zab (Zaj.go (Za0 1 rfl rfl rfl rfl rfl rfl rfl) (Zaj.go (ZaV 2 zl35 rfl rfl rfl rfl) (Zac (Zae (Zab (Zaj.go (ZaV 3 zl35 rfl rfl rfl rfl) ?_))))))));refine Zac (Zae (Zae (Zci 3 0 0 901 sl32 rfl rfl rfl rfl rfl rfl rfl (Zab (goAs rfl rfl (Zac (Zaq (ZaP (α := List Roo) (fun acc => ⟨51, [(1, (.ptr 1 0 0)), (2, (.ptr 2 0 0)), (3, (.ptr 3 0 0)), (4, (.d (intD (acc.length : Int))))], [(901, [.rowD 82 7 (acc.map rooD)]), (1, [prbB2 25 p]), (2, [.blk 35 [nilC, nilC]]), (3, [.blk 35 [.own 901 0 acc.length, nilC]])]⟩) (fun acc => acc = p.ro.take acc.length ∧ acc.length ≤ p.ro.length) (fun acc => p.ro.length - acc.length) ([]) (⟨by simp, Nat.zero_le _⟩) (Zau hF [901, 1, 2, 3] rfl rfl ⟨rfl, rfl, rfl, rfl, trivial⟩) ?_))))))));rintro acc ⟨hI, hk0⟩;refine Zae ?_;refine Zae (Zab (goMv rfl rfl (Zaa.go (Zag rfl ZaS rfl rfl rfl) (Zaa.go (Zah rfl rfl rfl on22 rfl) (Zaa.go (ZaD rfl Tryz.underlying22 rfl) (Zaa.go (ZaN rfl rfl rfl) (Zac (ZaH rfl (fun h10 => ?_) (fun h10 => ?_)))))))))
  · have hk1 : acc.length < p.ro.length := ZaO h10;refine Zar (Zae (Zaq (Za5 [[], [0], [], [2], [], [2, 3, 4], [2, 3, 4, 5], [2, 3, 4, 5, 6], [2, 3, 4, 5, 6, 7], [], [9], [], [9, 10, 11], [9, 10, 11, 12], [9, 10, 11, 12, 13], [2, 3, 4, 5, 6, 7, 8, 9, 10, 11, 12, 13, 14], [2, 3, 4, 5, 6, 7, 8, 9, 10, 11, 12, 13, 14, 15], [0, 1, 2, 3, 4, 5, 6, 7, 8, 9, 10, 11, 12, 13, 14, 15, 16], [0, 1, 2, 3, 4, 5, 6, 7, 8, 9, 10, 11, 12, 13, 14, 15, 16, 17], [0, 1, 2, 3, 4, 5, 6, 7, 8, 9, 10, 11, 12, 13, 14, 15, 16, 17, 18]] mixed rfl (dws (Zaf [3] [] rfl rfl (fun _ => Zad (Zag rfl fi35_0 rfl rfl rfl)) (Zal [13] rfl rfl (fun _ => Zad (Zah rfl rfl rfl on32 rfl)) (Zaf [1] [] rfl rfl (fun _ => Zad (Zag rfl ZaS rfl rfl rfl)) ?_)))))));refine Zal [15] rfl rfl (fun _ => Zad (Zah rfl rfl rfl on22 rfl)) (Zaf [4] [] rfl rfl (fun _ => Zad (ZaI rfl rfl)) (Zaf [16, 17] [] rfl rfl (fun _ => Zad (Zaz (acc.length) rfl rfl (rfl) (getm hk1) Tryz.underlying22 rfl sz67 rfl)) (Zaf [18] [] rfl rfl (fun _ => Zad (Zas rfl Zca rfl rfl rfl)) (Zaf [19] [] rfl rfl (fun _ => Zad (ZaC rfl rfl rw56 rfl)) (Zaf [20] [] rfl rfl (fun _ => Zad (Zax (ownres_p p.ro[acc.length].r) rfl rfl)) (Zaf [1] [] rfl rfl (fun _ => Zad (Zag rfl ZaS rfl rfl rfl)) (Zal [22] rfl rfl (fun _ => Zad (Zah rfl rfl rfl on22 rfl)) (Zaf [4] [] rfl rfl (fun _ => Zad (ZaI rfl rfl)) ?_))))))));refine Zaf [23, 24] [] rfl rfl (fun _ => Zad (Zaz (acc.length) rfl rfl (rfl) (getm hk1) Tryz.underlying22 rfl sz67 rfl)) (Zaf [25] [] rfl rfl (fun _ => Zad (Zap rfl fi67_1 rfl rfl rfl)) (Zaf [26] [] rfl rfl (fun _ => Zad (Zat rfl rfl on2 rfl)) (Zaf [21, 27] [] rfl rfl (fun _ => Zad (Za2 zl82 pl82 rfl rfl rfl)) (Zbv [28] [50] [(29, _)] rfl rfl (fun _ => Zbd (ZaJ 50 sl32 rfl rfl rfl rfl rfl rfl rfl rfl)) (.inr ⟨29, _, rfl, rfl, rfl, rfl, rfl⟩) rfl rfl rfl rfl rfl (dwc 17 rfl rfl rfl (dw1 18 rfl rfl (Zaj.go (Zbp (acc) ([p.ro[acc.length]]) rfl rfl rfl rfl rfl rfl rfl rfl sl32 (by simp only [List.length_singleton]; omega) rfl rfl rfl rfl) (Zac ⟨rfl, ?_⟩))))))));refine dw1 19 rfl rfl (Zaa.go (Zag rfl fi35_0 rfl rfl rfl) (Zac ⟨rfl, ?_⟩));refine dw1 20 rfl rfl (Zaj.go (ZaA rfl rfl rfl rfl rfl rfl rfl sz32) (Zac ⟨rfl, ?_⟩));refine dwe (Zab (goMv rfl rfl (Zaa.go (ZaF rfl rfl (wrapA acc p.ro[acc.length] (by omega)) rfl) (goAs rfl rfl (Zac ?_)))));exact ⟨acc ++ [p.ro[acc.length]], ⟨tk_next hI hk1, by rw [List.length_append]; show acc.length + 1 ≤ _; omega⟩, by rw [List.length_append]; show p.ro.length - (acc.length + 1) < p.ro.length - acc.length; omega, Zau hF [901, 1, 2, 3] rfl (rfl) ⟨rfl, rfl, rfl, rfl, trivial⟩⟩
  · refine ZaR (Zae (Zae ?_));have hacc := tk_end hI (fun h => h10 (by omega));refine Zb0 (ys := p.ro.map rooD) 3 0 0 901 rfl rfl rfl (by simp) (by rw [hacc]; exact List.take_of_length_le (by simp)) rfl rfl rfl rfl rfl rfl (Zci 3 0 1 902 sl33 rfl rfl rfl rfl rfl rfl rfl (Zab (goAs rfl rfl (Zac (Zaq (ZaP (α := List Itm) (fun acc2 => ⟨51, [(1, (.ptr 1 0 0)), (2, (.ptr 2 0 0)), (3, (.ptr 3 0 0)), (5, (.d (intD (acc2.length : Int))))], [(902, [.rowD 91 6 (acc2.map itmD)]), (1, [prbB2 25 p]), (2, [.blk 35 [nilC, nilC]]), (3, [.blk 35 [.d (.sl none (p.ro.map rooD)), .own 902 0 acc2.length]])]⟩) (fun acc2 => acc2 = p.it.take acc2.length ∧ acc2.length ≤ p.it.length) (fun acc2 => p.it.length - acc2.length) ([]) (⟨by simp, Nat.zero_le _⟩) (Zau hF [902, 1, 2, 3] rfl rfl ⟨rfl, rfl, rfl, rfl, trivial⟩) ?_))))));rintro acc2 ⟨hJ, hk2⟩;refine Zae ?_;refine Zae (Zab (goMv rfl rfl (Zaa.go (Zag rfl ZaY rfl rfl rfl) (Zaa.go (Zah rfl rfl rfl on23 rfl) (Zaa.go (ZaD rfl Tryz.underlying23 rfl) (Zaa.go (ZaN rfl rfl rfl) (Zac (ZaH rfl (fun h36 => ?_) (fun h36 => ?_)))))))))
    · have hk3 : acc2.length < p.it.length := ZaO h36;refine Zar ?_;refine Zae (Zaq (Za5 [[], [0], [], [2], [], [2, 3, 4], [2, 3, 4, 5], [2, 3, 4, 5, 6], [2, 3, 4, 5, 6, 7], [0, 1, 2, 3, 4, 5, 6, 7, 8], [0, 1, 2, 3, 4, 5, 6, 7, 8, 9], [0, 1, 2, 3, 4, 5, 6, 7, 8, 9, 10]] mixed rfl (dws (Zaf [3] [] rfl rfl (fun _ => Zad (Zag rfl fi35_1 rfl rfl rfl)) (Zal [39] rfl rfl (fun _ => Zad (Zah rfl rfl rfl on33 rfl)) (Zaf [1] [] rfl rfl (fun _ => Zad (Zag rfl ZaY rfl rfl rfl)) (Zal [41] rfl rfl (fun _ => Zad (Zah rfl rfl rfl on23 rfl)) (Zaf [5] [] rfl rfl (fun _ => Zad (ZaI rfl rfl)) ?_))))))));have hgi := g3 _ (List.getElem_mem hk3);refine Zaf [42, 43] [] rfl rfl (fun _ => Zad (Zaz (acc2.length) rfl rfl (rfl) (getm hk3) Tryz.underlying23 rfl sz64 rfl)) (Zaf [44] [] rfl rfl (fun _ => Zad (ZaC rfl rfl rw64 rfl)) (Zaf [45] [] rfl rfl (fun _ => Zad (Zax (ownitem_p p.it[acc2.length] (by omega) (by omega) (by omega)) rfl rfl)) (Zbv [46] [51] [(47, _)] rfl rfl (fun _ => Zbd (ZaJ 51 sl33 rfl rfl rfl rfl rfl rfl rfl rfl)) (.inr ⟨47, _, rfl, rfl, rfl, rfl, rfl⟩) rfl rfl rfl rfl rfl (dwc 9 rfl rfl rfl (dw1 10 rfl rfl (Zaj.go (Zbp (acc2) ([p.it[acc2.length]]) rfl rfl rfl rfl rfl rfl rfl rfl sl33 (by simp only [List.length_singleton]; omega) rfl rfl rfl rfl) (Zac ⟨rfl, ?_⟩)))))));refine dw1 11 rfl rfl (Zaa.go (Zag rfl fi35_1 rfl rfl rfl) (Zac ⟨rfl, ?_⟩));refine dw1 12 rfl rfl (Zaj.go (ZaA rfl rfl rfl rfl rfl rfl rfl sz33) (Zac ⟨rfl, ?_⟩));refine dwe (Zab (goMv rfl rfl (Zaa.go (ZaF rfl rfl (wrapA acc2 p.it[acc2.length] (by omega)) rfl) (goAs rfl rfl (Zac ?_)))));exact ⟨acc2 ++ [p.it[acc2.length]], ⟨tk_next hJ hk3, by rw [List.length_append]; show acc2.length + 1 ≤ _; omega⟩, by rw [List.length_append]; show p.it.length - (acc2.length + 1) < p.it.length - acc2.length; omega, Zau hF [902, 1, 2, 3] rfl (rfl) ⟨rfl, rfl, rfl, rfl, trivial⟩⟩
    · refine ZaR (Zae ?_);have hacc2 := tk_end hJ (fun h => h36 (by omega));refine Zb0 (ys := p.it.map itmD) 3 0 1 902 rfl rfl rfl (by simp) (by rw [hacc2]; exact List.take_of_length_le (by simp)) rfl rfl rfl rfl rfl rfl (Zab (Zaa.go (Zav rfl rfl rw35 rfl rfl rfl) (Zaj.go (ZaA rfl rfl rfl rfl rfl rfl rfl sz35) (Zac (Zao ?_)))));exact ⟨_, [], [], Zam rfl, rfl, rfl, rfl, rfl⟩
def accQ (a : List UInt8) : Acc := ⟨a, 0, [67, 65, 83, 72]⟩
def payJ (id : Int) (a b : List UInt8) (n : Int) : Itm := ⟨id, 0, id, [⟨accQ a, 0 - n⟩, ⟨accQ b, n⟩], [], []⟩
theorem pay0_p (id n : Int) (a b : List UInt8) (h0 : 0 ≤ n) (h1 : n ≤ 1000000000000000) : PCalls Tryz.prog 38 [.d (intD id), .d (strD a), .d (strD b), .d (intD n)] (.agg [intD id, intD 0, intD id, .sl none ((payJ id a b n).po.map postD), .sl (some true) [], .sl (some true) []]) := by
  refine ZaG Tryz.func38 rfl rfl Tryz.ntmps38 rfl rfl rfl fun F hF => (Zae (Zab (Zaj.go (ZaV 1 zl91 rfl rfl rfl rfl) (Zac (Zae ?_)))));refine Zab (goMv rfl rfl (Zaa.go (Za2 zl49 pl49 rfl rfl rfl) (goMv rfl rfl (Zaa.go (Za2 zl49 pl49 rfl rfl rfl) (Zaj.go (ZaV 2 zl49 rfl rfl rfl rfl) (Zaj.go (ZaV 3 zl49 rfl rfl rfl rfl) (Zaj.go (ZaA rfl rfl rfl rfl rfl rfl rfl sz49) (Zaj.go (ZaA rfl rfl rfl rfl rfl rfl rfl sz49) ?_))))))));refine Zac (Zae (Zab (goMv rfl rfl (goMv rfl rfl (Zaa.go (Zav rfl rfl rw49 rfl rfl rfl) (goMv rfl rfl (Zaa.go (st_neg rfl (IntWalk.i64_in _ (by omega)) rfl) (Zaa.go (Za2 zl144 pl144 rfl rfl rfl) ?_))))))));refine Zaa.go (Zav rfl rfl rw49 rfl rfl rfl) (goMv rfl rfl (Zaa.go (Za2 zl144 pl144 rfl rfl rfl) (Zaj.go (ZaJ 4 sl88 rfl rfl rfl rfl rfl rfl rfl rfl) (Zck (emb := postD) 24 4 (payJ id a b n).po rfl rfl rfl rfl rfl rfl rfl (Zaa.go (Za2 zl91 pl91 rfl rfl rfl) (Zaj.go (ZaA rfl rfl rfl rfl rfl rfl rfl sz91) (Zac (Zao ?_))))))));exact ⟨_, [], [], Zam rfl, rfl, rfl, rfl, rfl⟩
theorem pay30_p (id n : Int) (a b : List UInt8) (h0 : 0 ≤ n) (h1 : n ≤ 1000000000000000) : PCalls Tryz.prog 38 [.d (intD id), .d (strD a), .d (strD b), .d (intD n)] (itmD (payJ id a b n)) :=
  (pay0_p id n a b h0 h1).weak fun w O v h => h.aggMono rfl (by simp [D.one]) fun i c c' hc hc' v hv => by
    match i, hc, hc' with
    | 0, hc, hc' => injection hc with hc; injection hc' with hc'; subst hc hc'; exact hv
    | 1, hc, hc' => injection hc with hc; injection hc' with hc'; subst hc hc'; exact hv
    | 2, hc, hc' => injection hc with hc; injection hc' with hc'; subst hc hc'; exact hv
    | 3, hc, hc' => injection hc with hc; injection hc' with hc'; subst hc hc'; exact hv
    | 4, hc, hc' => injection hc with hc; injection hc' with hc'; subst hc hc'; exact hv.anyNil
    | 5, hc, hc' => injection hc with hc; injection hc' with hc'; subst hc hc'; exact hv.anyNil
set_option maxHeartbeats 1000000 in
theorem explain_own (p : Prb) (hf : FewP p) (hE : prbE p = 0) : ACalls Tryz.prog 21 [.d (prbD p)] [] fun r H' => r = .tup [.own 961 0 (onIds (ordP p) (explS p).2 (ordP p).length).length, .d (.sl none ((explS p).1.map excD)), .d (intD 0)] ∧ H' = [(961, [.rowD 3 1 ((onIds (ordP p) (explS p).2 (ordP p).length).map intD)])] := by
  have hbu := build_ok p hf hE;have hsm := sml_P hf hE;unfold explS;rw [netP_S] at hbu
  obtain ⟨its, hits⟩ : ∃ its, ordP p = its := ⟨_, rfl⟩
  obtain ⟨ros, hros⟩ : ∃ ros, rosS p = ros := ⟨_, rfl⟩
  rw [hits, hros] at hbu hsm ⊢;have hl := hsm.l;refine ZaG Tryz.func21 rfl rfl Tryz.ntmps21 rfl rfl rfl fun F hF => (Zae (Zab ?_));refine Zaj.go (Za0 1 rfl rfl rfl rfl rfl rfl rfl) (goAs rfl rfl (goAs rfl rfl (goAs rfl rfl (Zac (a_scope (Zae (Zab (Zaa.go (Zav rfl rfl rw35 rfl rfl rfl) ?_))))))));refine o_step (st_callX hbu rfl [40, 50, 51] ⟨rfl, rfl, rfl, trivial⟩ rfl rfl rfl rfl (fun r H' ⟨_, _, _, _, _, _, _, e1, e2, _⟩ => by subst e1 e2; exact ⟨rfl, rfl, rfl⟩) rfl) rfl ?_; rintro _ ⟨r, H', ⟨wb, mv, nb, pb, N, M, bs, rfl, rfl, hR, hN⟩, rfl⟩;refine goMv rfl rfl (Zaa.go (Za3 rfl rfl rfl) (Zaa.go (Za3 rfl rfl rfl) (goAs rfl rfl (goAs rfl rfl (Zac ?_)))));refine Zae (Zae (Zab (goMv rfl rfl (Zaa.go (Zbf rfl rfl rfl) (Zac (Zbm rfl (rfl) (Zar (Zae ?_))))))));have hids : idsN N = its.map Itm.id := by rw [← ers_ids, hN, S_ids]
  rw [hids];refine Zab (goAs rfl rfl (Zac (Zae (a_label (Zae (Zaq (a_adopt 7 900 sl42 rfl rfl rfl rfl (ZaP (α := (Nat → Bool) × Net × MF × List Exc × Nat) (fun q => ⟨64, [(5, (.d (pD wb 0))), (7, (.own 900 0 q.2.2.2.1.length))], (900, [.rowD 53 9 (q.2.2.2.1.map excD)]) :: HW mv bs (byL nb (its.map Itm.id)) q.2.2.1⟩) (fun q => Rep wb mv nb pb q.2.1 q.2.2.1 ∧ ersN q.2.1 = netS ros its q.1 ∧ cntOn its.length q.1 ≤ q.2.2.2.2 ∧ q.2.2.2.1.length + q.2.2.2.2 ≤ its.length ∧ q.2.2.2.1 ++ (runS ros its q.2.2.2.2 q.1).1 = (runS ros its its.length fun _ => true).1 ∧ (runS ros its q.2.2.2.2 q.1).2 = (runS ros its its.length fun _ => true).2) (fun q => q.2.2.2.2) ((fun _ => true, N, M, [], its.length)) (⟨hR, hN, by show ((List.range its.length).filter _).length ≤ _; exact Nat.le_trans (List.length_filter_le _ _) (by simp), by simp, rfl, rfl⟩) (Zau hF [900, 40, 50, 51] rfl rfl ⟨rfl, rfl, trivial⟩) ?_))))))));rintro ⟨on, N, M, acc, f⟩ ⟨hR, hN, hc, hal, hr1, hr2⟩;dsimp only at hR hN hc hal hr1 hr2 ⊢;refine Zaq (Zae ?_);have hw := W_ers (N := N) (by rw [hN]; exact S_w hsm on);have hsb := S_sumB hsm hN;have hids : idsN N = its.map Itm.id := by rw [← ers_ids, hN, S_ids]
  have hnx := next_c bs hR hw hsb;rw [hids] at hnx;refine Zab (goMv rfl rfl (Zaj.go (Zbt hnx rfl [40, 50, 51] ⟨rfl, rfl, rfl, trivial⟩ rfl rfl rfl rfl rfl rfl rfl rfl rfl) (goMv rfl rfl ?_)))
  cases hne : nextN N
  · refine Zaa.go (Za3 rfl rfl rfl) (Zaa.go (Za3 rfl rfl rfl) (Zaj.go (ZaV 2 zl53 rfl rfl rfl rfl) (Zaj.go (ZaA rfl rfl rfl rfl rfl rfl rfl sz53) (goAs rfl rfl (Zac ?_)))));refine Zae (Zae (Zab (goMv rfl rfl (Zaa.go (ZbK rfl rfl) (Zac (ZaU rfl (rfl) (ZaR (Zae ?_))))))));have hro : runS ros its f on = ([], on) := run_none (by rw [← hN, next_ers, hne]);rw [hro] at hr1 hr2;rw [List.append_nil] at hr1;dsimp only at hr2;have hwb := hR.w;have hnr : rowAt M N.nh pnT 1 ((List.range N.nd.length).map fun i => ptrD (nb i)) := hR.rs.1 .n;have hnz := ZbD hnr;rw [List.length_range] at hnz;have hNl := S_len hN;refine Zab (goAs rfl rfl (Zac (Zae (Zae (Zab (goMv rfl rfl ?_))))));refine Zaa.go (ZaE rfl rfl) (Zaa.go (Zan rfl fi108_0 rfl rfl rfl) (Zaa.go (Za1 (f := 40) rfl rfl (hwb) rfl on104 rfl) (Zaa.go (Zcc hnz rfl Tryz.underlying104 rfl) (goMv rfl rfl (Zac (Zaq (a_adopt 10 961 sl28 rfl rfl rfl rfl (ZaP (α := Nat × List Int) (fun q => ⟨64, [(7, (.own 900 0 acc.length)), (10, (.own 961 0 q.2.length)), (43, (.d (hdr N.nh N.nd.length))), (44, (.d (intD (N.nd.length : Int)))), (45, (.d (intD (q.1 : Int))))], (961, [.rowD 3 1 (q.2.map intD)]) :: (900, [.rowD 53 9 (acc.map excD)]) :: HW mv bs (byL nb (its.map Itm.id)) M⟩) (fun q => q.1 ≤ N.nd.length ∧ q.2 = onIds its on q.1) (fun q => N.nd.length - q.1) ((0, [])) (⟨Nat.zero_le _, rfl⟩) (Zau hF [961, 900, 40, 50, 51] rfl rfl ⟨rfl, rfl, rfl, rfl, rfl, trivial⟩) ?_))))))));rintro ⟨k, ids⟩ ⟨hk0, hI⟩;dsimp only at hk0 hI ⊢;refine Zae (Zab (Zaa.go (ZaN rfl rfl rfl) (Zac (Zae (ZaH rfl (fun h46 => ?_) (fun h46 => ?_))))))
    · have hk1 : k < N.nd.length := ZaO h46;refine Zar (Zae (Zaq (Zae ?_)))
      obtain ⟨x, hx⟩ : ∃ x, N.nd[k]? = some x := ⟨_, List.getElem?_eq_getElem hk1⟩
      obtain ⟨hiN, hoi, hit⟩ := S_nd_at hN hx;have hxb := hR.n k x hx;obtain ⟨rb, rc, hre⟩ := ZbJ hnr (j := k) (by rw [List.length_range]; exact hk1);have hrow := ZbT hnr hre;have hidl : ids.length ≤ k := by rw [hI]; exact onIds_len its on k
      refine Zab (Zaa.go (ZbZ hre (k) rfl rfl rfl hk1 Tryz.underlying104 sz103 rfl) (Zaa.go (Zct (f := 40) (e := k) (off := 0) rfl (by omega) rfl (hrow) ((by rw [List.getElem?_map, List.getElem?_range hk1]; rfl)) rfl on103 rfl) ?_));refine goAs rfl rfl ?_;refine Zac (Zae (Zab (goMv rfl rfl (Zaa.go (ZaE rfl rfl) (Zaa.go (Zan rfl fi112_3 rfl rfl rfl) (Zaa.go (Za1 (f := 40) rfl rfl (hxb) rfl on4 rfl) (Zac (Zbb rfl (fun h52 => ?_) (fun h52 => ?_)))))))))
      · refine Zab (goMv rfl rfl (goMv rfl rfl (Zaa.go (ZaE rfl rfl) (Zaa.go (Zan rfl fi112_0 rfl rfl rfl) (Zaa.go (Zan rfl Zb7 rfl rfl rfl) ?_)))));refine Zaa.go (Za1 (f := 40) rfl rfl (hxb) rfl on3 rfl) (Zaj.go (ZaJ 3 sl28 rfl rfl rfl rfl rfl rfl rfl rfl) (Zaj.go (Zbp (ids) ([x.it.id]) rfl rfl rfl rfl rfl rfl rfl rfl sl28 (by simp only [List.length_singleton]; omega) rfl rfl rfl rfl) (goAs rfl rfl (Zac (Zab (Zaa.go (ZaF rfl rfl (wrapS (k + 1) (by omega)) rfl) (goMv rfl rfl (Zac ?_))))))));exact ⟨(k + 1, _), ⟨by show k + 1 ≤ _; omega, by show _ = onIds its on (k + 1); rw [onIds_snoc, if_pos (by rw [← hoi]; simpa using h52), ← hI, ← hit]⟩, by show N.nd.length - (k + 1) < N.nd.length - k; omega, Zau hF [961, 900, 40, 50, 51] rfl (rfl) ⟨rfl, rfl, rfl, rfl, rfl, trivial⟩⟩
      · refine Zar (Zab (Zaa.go (ZaF rfl rfl (wrapS (k + 1) (by omega)) rfl) (goMv rfl rfl (Zac ?_))));exact ⟨(k + 1, _), ⟨by show k + 1 ≤ _; omega, by show _ = onIds its on (k + 1); rw [onIds_snoc, if_neg (by rw [← hoi]; simpa using h52), List.append_nil, ← hI]⟩, by show N.nd.length - (k + 1) < N.nd.length - k; omega, Zau hF [961, 900, 40, 50, 51] rfl (rfl) ⟨rfl, rfl, rfl, rfl, rfl, trivial⟩⟩
    · refine ZaR (Zae ?_);have hke : k = its.length := by have h := h46; omega
      refine a_freezeM (emb := excD) 7 900 acc rfl rfl rfl rfl rfl rfl rfl ?_;have hids2 : ids = onIds its (runS ros its its.length fun _ => true).2 its.length := by rw [hI, hke, hr2]
      subst hids2;subst hr1;refine Zab (goMv rfl rfl (goMv rfl rfl (goAs rfl rfl (goAs rfl rfl (goAs rfl rfl (Zac (Zao ?_)))))));exact ⟨_, [961], _, Zam rfl, rfl, rfl, rfl, rfl⟩
  · refine Zaa.go (Za3 rfl rfl rfl) (Zaa.go (Za3 rfl rfl rfl) (Zaj.go (ZaV 4 zl53 rfl rfl rfl rfl) (Zaj.go (ZaA rfl rfl rfl rfl rfl rfl rfl sz53) (goAs rfl rfl (Zac ?_)))));refine Zae (Zae (Zab (goMv rfl rfl (Zaa.go (ZbK rfl rfl) (Zac (Zbm rfl (rfl) (Zar (Zae ?_))))))))
    rename_i e
    obtain ⟨i, x, hx, hon, hid⟩ := next_on hne;obtain ⟨hiN, hoi, hit⟩ := S_nd_at hN hx;rw [hon] at hoi;have hoi := hoi.symm;have hil : i < (its.map Itm.id).length := by rw [List.length_map]; exact hiN
    have hei : (its.map Itm.id)[i] = e.id := by rw [hid, hit, List.getElem_map, ZaL itm0 hiN]
    have hby := byL_get (nb := nb) hsm.i hil;rw [hei] at hby;have hcn := cntOn_off hiN hoi
    obtain ⟨f2, rfl⟩ : ∃ f2, f = f2 + 1 := ⟨f - 1, by omega⟩
    have hrs : runS ros its (f2 + 1) on = (e :: (runS ros its f2 (setOff on i)).1, (runS ros its f2 (setOff on i)).2) := by rw [run_some (by rw [← hN, next_ers, hne]), ← hei, idx_nodup hsm.i hil]
    have hxm := List.mem_of_getElem? hx;have hrm := remove_c hR hx hsb (hw.e x hxm) (hw.l x hxm).1 (hw.l x hxm).2.1 (fun e he => (hw.p x hxm e he).2) hw.m;refine Za5 [[], [0], [0, 1], [0, 1, 2], [], [4], [0, 1, 2, 3, 4, 5], [0, 1, 2, 3, 4, 5, 6]] mixed rfl (dws (Zaf [5] [] rfl rfl (fun _ => Zad (ZaI rfl rfl)) (Zaf [28] [] rfl rfl (fun _ => Zad (ZaE rfl rfl)) ?_)));refine Zaf [29] [] rfl rfl (fun _ => Zad (Zan rfl fi108_2 rfl rfl rfl)) (Zaf [30] [40] rfl rfl (fun _ => Zad (Za1 (f := 40) rfl rfl (hR.w) rfl on106 rfl)) (Zaf [8] [] rfl rfl (fun _ => Zad (Zag rfl fi53_0 rfl rfl rfl)) (Zaf [32] [4] rfl rfl (fun _ => Zad (Zah rfl rfl rfl on3 rfl)) (dwc 6 rfl rfl rfl (dw1 7 rfl rfl (o_rawMap 31 51 0 rfl rfl (Zaa.go (ZbG (byL nb (its.map Itm.id)) e.id (.pointer none) (pV (nb i) 0) rfl rfl rfl mt106 kt3 za103 hby rfl) (Zac ⟨rfl, ?_⟩))))))));refine dw1 8 rfl rfl ?_;refine o_step (st_callX hrm rfl [40] ⟨rfl, trivial⟩ rfl rfl rfl rfl (fun r H' ⟨e1, M', e2, _⟩ => by subst e1 e2; exact ⟨rfl, rfl, rfl⟩) rfl) rfl ?_; rintro _ ⟨r, H', ⟨rfl, M2, rfl, hR2⟩, rfl⟩;refine Zac ⟨rfl, ?_⟩;refine dwe (Zab (goMv rfl rfl (Zaa.go (Zav rfl rfl rw53 rfl rfl rfl) (Zaj.go (ZaJ 5 sl42 rfl rfl rfl rfl rfl rfl rfl rfl) (Zaj.go (Zbp (acc) ([e]) rfl rfl rfl rfl rfl rfl rfl rfl sl42 (by simp only [List.length_singleton]; omega) rfl rfl rfl rfl) (goAs rfl rfl (Zac ?_)))))));exact ⟨(setOff on i, rmN N i x, M2, acc ++ [e], f2), ⟨hR2, rm_S hsm.r hN hiN hoi hx, by show cntOn its.length (setOff on i) ≤ f2; omega, by show (acc ++ [e]).length + f2 ≤ _; rw [List.length_append]; simp; omega, by show (acc ++ [e]) ++ (runS ros its f2 (setOff on i)).1 = _; rw [List.append_assoc, ← hr1, hrs]; rfl, by show (runS ros its f2 (setOff on i)).2 = _; rw [← hr2, hrs]⟩, by show f2 < f2 + 1; omega, Zau hF [900, 40, 50, 51] rfl (rfl) ⟨rfl, rfl, trivial⟩⟩
theorem largest_own (p : Prb) (hf : FewP p) (hE : prbE p = 0) : ACalls Tryz.prog 15 [.d (prbD p)] [] fun r H' => r = .tup [.own 961 0 (largeS p).length, .d (intD 0)] ∧ H' = [(961, [.rowD 3 1 ((largeS p).map intD)])] := by
  have hx := explain_own p hf hE;refine ZaG Tryz.func15 rfl rfl Tryz.ntmps15 rfl rfl rfl fun F hF => (Zae (Zab (Zaj.go (Za0 1 rfl rfl rfl rfl rfl rfl rfl) (goAs rfl rfl (goAs rfl rfl (Zac (Zae (Zab ?_))))))));refine Zaa.go (Zav rfl rfl rw35 rfl rfl rfl) (Zaj.go (Zbt hx rfl [961] ⟨rfl, trivial⟩ rfl rfl rfl rfl rfl rfl rfl rfl rfl) (goMv rfl rfl (Zaa.go (Zbc rfl rfl rfl) (Zaa.go (Zbc rfl rfl rfl) (Zaa.go (Zbc rfl rfl rfl) (goAs rfl rfl (goAs rfl rfl (goAs rfl rfl ?_))))))));refine Zac (Zae (Zab (goMv rfl rfl (goMv rfl rfl (goAs rfl rfl (goAs rfl rfl (Zac (Zao ?_))))))));exact ⟨_, [961], _, Zam rfl, rfl, rfl, rfl, rfl⟩
theorem flat_ints (g : Nat) (E : TypeId) (l : List Int) : FlatH [(g, [.rowD E 1 (l.map intD)])] := ⟨⟨fun x hx c hc => by
  obtain ⟨y, _, rfl⟩ := List.mem_map.1 hx
  rw [List.mem_singleton.1 hc]; rfl, trivial⟩, trivial⟩
deriving instance DecidableEq for Exc
theorem Exc.eq_iff {x y : Exc} : x = y ↔ x.id = y.id ∧ x.re = y.re ∧ x.r = y.r ∧ x.by_ = y.by_ := by cases x; cases y; simp
def excC (e : Exc) : List Value := [.int .i64 e.id, .int .i64 e.re, .int .i64 e.r.k, strV e.r.acc.o, .int .i64 e.r.acc.k, strV e.r.acc.a, strV e.r.f, strV e.r.t, .int .i64 e.by_]
abbrev excT : List TypeDesc := [.int .i64, .int .i64, .int .i64, .string, .int .i64, .string, .string, .string, .int .i64]
theorem exc_eqC (a b : Exc) : eqCells (excC a) (excC b) = decide (a = b) := by
  simp only [excC, eqCells, eqCell_int, eqCell_str, Exc.eq_iff, Rsc.eq_iff, Acc.eq_iff, Bool.and_true, Bool.decide_and, Bool.and_assoc]
theorem exc_plain (a : Exc) : PlainAre excT (excC a) := Zbu rfl (Zbu rfl (Zbu rfl (Zbu trivial (Zbu rfl (Zbu trivial (Zbu trivial (Zbu trivial (Zbu rfl plain_nil))))))))
def rcK (a : UInt8) : Rsc := ⟨0, accQ [a], [], []⟩
def nmK : List (List UInt8) := [[65], [66], [67]]
def roK3 : List Roo := [⟨rcK 65, 0⟩, ⟨rcK 66, 0⟩, ⟨rcK 67, 0⟩]
def itK3 : List Itm := [payJ 0 [65] [66] 5, payJ 1 [66] [67] 5, payJ 2 [67] [65] 5]
def itK4 : Itm := payJ 3 [65] [66] 1
def pKA : Prb := ⟨roK3, itK3⟩
def pKB : Prb := ⟨roK3, itK3 ++ [itK4]⟩
theorem pKA_E : prbE pKA = 0 := by decide
theorem pKB_E : prbE pKB = 0 := by decide
theorem pKA_F : FewP pKA := ⟨by decide, by decide, by decide⟩
theorem pKB_F : FewP pKB := ⟨by decide, by decide, by decide⟩
theorem pKA_R : rosS pKA = roK3 := (rosS_one pKA_E (List.Perm.refl _) (by decide)).symm
theorem pKB_R : rosS pKB = roK3 := (rosS_one pKB_E (List.Perm.refl _) (by decide)).symm
theorem pKA_O : ordP pKA = itK3 := by decide
theorem pKB_O : ordP pKB = itK3 ++ [itK4] := by decide
theorem pKA_S : largeS pKA = [0, 1, 2] := by
  unfold largeS explS;rw [pKA_R, pKA_O];exact of_decide_eq_true (by kernel_rfl)
theorem pKB_S : largeS pKB = [0, 1, 2] := by
  unfold largeS explS;rw [pKB_R, pKB_O];exact of_decide_eq_true (by kernel_rfl)
theorem pKB_X : (explS pKB).1 = [⟨3, 0, rcK 65, -1⟩] := by
  unfold explS;rw [pKB_R, pKB_O];exact of_decide_eq_true (by kernel_rfl)
theorem pKA_G : ixG (groN (netS (rosS pKA) (ordP pKA) fun _ => true)) (List.range (ordP pKA).length) = -1 := by
  rw [pKA_R, pKA_O];exact of_decide_eq_true (by kernel_rfl)
theorem kn_l : ACalls Tryz.prog 15 [.d (prbD pKA)] [] fun r H' => r = .tup [.own 961 0 3, .d (intD 0)] ∧ H' = [(961, [.rowD 3 1 (([0, 1, 2] : List Int).map intD)])] := by
  have h := largest_own pKA pKA_F pKA_E;rw [pKA_S] at h; exact h
theorem kn_g : PCalls Tryz.prog 25 [.d (prbD pKA)] (.tup [.sl (some true) [], intD 0]) := gross_none pKA pKA_F pKA_E pKA_G
theorem kn_x : PCalls Tryz.prog 21 [.d (prbD pKB)] (.tup [.sl none (([0, 1, 2] : List Int).map intD), .sl none (([⟨3, 0, rcK 65, -1⟩] : List Exc).map excD), intD 0]) := by
  have h := explain_ok pKB pKB_F pKB_E;rw [pKB_X] at h;rw [show onIds (ordP pKB) (explS pKB).2 (ordP pKB).length = [0, 1, 2] from pKB_S] at h;exact h
theorem snap_prb {hp : Hp} {bl : List Nat} {f n k : Nat} {t : TypeId} (p : Prb) (ho : hget hp f 0 = some (.rowD t k (p.it.map itmD))) (hb : memB f bl = true) (hn : n = p.it.length) : Snap hp bl (.agg [.d (.sl none (p.ro.map rooD)), .own f 0 n]) (prbD p) := by
  refine .agg rfl (by simp [D.one]) fun j a c ha hc => ?_
  match j, ha, hc with
  | 0, ha, hc => injection ha with ha; injection hc with hc; subst ha hc; exact .d
  | 1, ha, hc => injection ha with ha; injection hc with hc; subst ha hc; exact .own ho hb (by rw [List.length_map]; omega) (List.take_of_length_le (by rw [List.length_map]; omega))
theorem known30_p : PCalls Tryz.prog 14 [] (.raw (.bool true)) := by
  refine ZaG Tryz.func14 rfl rfl Tryz.ntmps14 rfl rfl rfl fun F hF => (Zae (Zab (goAs rfl rfl (Zac (Zae ?_)))));refine Zab (Zaj.go (ZaV 1 zl35 rfl rfl rfl rfl) (Zac (Zae (Zab (Zaj.go (ZaJ 2 sl87 rfl rfl rfl rfl rfl rfl rfl rfl) (Zck (emb := strD) 11 2 nmK rfl rfl rfl rfl rfl rfl rfl (goAs rfl rfl (Zac ?_))))))));refine Zae (Zae (Zci 1 0 0 901 sl32 rfl rfl rfl rfl rfl rfl rfl (Zci 1 0 1 902 sl33 rfl rfl rfl rfl rfl rfl rfl (Zab (goAs rfl rfl (Zac (Zaq (ZaP (α := Nat × List Roo × List Itm) (fun q => ⟨109, [(1, (.ptr 1 0 0)), (2, (.d (.sl none (nmK.map strD)))), (3, (.d (intD (q.1 : Int))))], [(902, [.rowD 91 6 (q.2.2.map itmD)]), (901, [.rowD 82 7 (q.2.1.map rooD)]), (1, [.blk 35 [.own 901 0 q.2.1.length, .own 902 0 q.2.2.length]])]⟩) (fun q => q.1 ≤ 3 ∧ q.2.1 = roK3.take q.1 ∧ q.2.2 = itK3.take q.1) (fun q => 3 - q.1) ((0, [], [])) (⟨by decide, rfl, rfl⟩) (Zau hF [902, 901, 1] rfl rfl ⟨rfl, rfl, rfl, trivial⟩) ?_))))))));rintro ⟨k, ro, its⟩ ⟨hk0, hro, hits⟩;dsimp only at hk0 hro hits ⊢;refine Zae (Zae (Zab (goMv rfl rfl (Zaa.go (ZaN rfl rfl rfl) (Zac (ZaH rfl (fun h13 => ?_) (fun h13 => ?_)))))))
  · have hk1 : k < nmK.length := by have h := ZaO (b := 3) h13; exact h
    refine Zar (Zae (Zaq (Zae ?_)));have hk2 : (k + 1) % 3 < nmK.length := Nat.mod_lt _ (by decide);have hro1 : ro ++ [⟨⟨0, accQ nmK[k], [], []⟩, 0⟩] = roK3.take (k + 1) := by subst hro; match k, hk1 with | 0, _ => rfl | 1, _ => rfl | 2, _ => rfl
    have hit1 : its ++ [payJ (k : Int) nmK[k] nmK[(k + 1) % 3] 5] = itK3.take (k + 1) := by subst hits; match k, hk1 with | 0, _ => rfl | 1, _ => rfl | 2, _ => rfl
    have hrl : ro.length ≤ 3 := by rw [hro]; simp [roK3]; omega
    have hil : its.length ≤ 3 := by rw [hits]; simp [itK3]; omega
    have hpy := pay30_p (k : Int) 5 nmK[k] nmK[(k + 1) % 3] (by decide) (by decide);refine Za5 [[], [0], [], [], [2, 3], [2, 3, 4], [2, 3, 4, 5], [2, 3, 4, 5, 6], [2, 3, 4, 5, 6, 7], [2, 3, 4, 5, 6, 7, 8], [0, 1, 2, 3, 4, 5, 6, 7, 8, 9], [0, 1, 2, 3, 4, 5, 6, 7, 8, 9, 10], [0, 1, 2, 3, 4, 5, 6, 7, 8, 9, 10, 11]] mixed rfl (dws (Zaf [1] [] rfl rfl (fun _ => Zad (Zag rfl fi35_0 rfl rfl rfl)) (Zal [16] rfl rfl (fun _ => Zad (Zah rfl rfl rfl on32 rfl)) (Zaf [2] [] rfl rfl (fun _ => Zad (ZaI rfl rfl)) (Zaf [3] [] rfl rfl (fun _ => Zad (ZaI rfl rfl)) (Zaf [18, 19] [] rfl rfl (fun _ => Zad (Zaz (k) rfl rfl (rfl) (getm hk1) Tryz.underlying87 rfl sz9 rfl)) ?_))))));refine Zaf [20] [] rfl rfl (fun _ => Zad (Zat rfl rfl on9 rfl)) (Zaf [21] [] rfl rfl (fun _ => Zad (Za2 zl49 pl49 rfl rfl rfl)) (Zaf [22] [] rfl rfl (fun _ => Zad (Za2 zl51 pl51 rfl rfl rfl)) (Zaf [23] [] rfl rfl (fun _ => Zad (Za2 zl82 pl82 rfl rfl rfl)) (Zbv [24] [50] [(25, _)] rfl rfl (fun _ => Zbd (ZaJ 50 sl32 rfl rfl rfl rfl rfl rfl rfl rfl)) (.inr ⟨25, _, rfl, rfl, rfl, rfl, rfl⟩) rfl rfl rfl rfl rfl (dwc 10 rfl rfl rfl (dw1 11 rfl rfl (Zaj.go (Zbp (ro) ([⟨⟨0, accQ nmK[k], [], []⟩, 0⟩]) rfl rfl rfl rfl rfl rfl rfl rfl sl32 (by simp only [List.length_singleton]; omega) rfl rfl rfl rfl) (Zac ⟨rfl, ?_⟩))))))));refine dw1 12 rfl rfl (Zaa.go (Zag rfl fi35_0 rfl rfl rfl) (Zac ⟨rfl, ?_⟩));refine dw1 13 rfl rfl (Zaj.go (ZaA rfl rfl rfl rfl rfl rfl rfl sz32) (Zac ⟨rfl, ?_⟩));refine dwe (Za5 [[], [0], [], [], [], [3, 4], [3, 4, 5], [], [], [8], [8, 9], [7, 8, 9, 10], [7, 8, 9, 10, 11], [2, 3, 4, 5, 6, 7, 8, 9, 10, 11, 12], [2, 3, 4, 5, 6, 7, 8, 9, 10, 11, 12, 13], [0, 1, 2, 3, 4, 5, 6, 7, 8, 9, 10, 11, 12, 13, 14], [0, 1, 2, 3, 4, 5, 6, 7, 8, 9, 10, 11, 12, 13, 14, 15], [0, 1, 2, 3, 4, 5, 6, 7, 8, 9, 10, 11, 12, 13, 14, 15, 16]] mixed rfl (dws (Zaf [1] [] rfl rfl (fun _ => Zad (Zag rfl fi35_1 rfl rfl rfl)) ?_)));refine Zal [28] rfl rfl (fun _ => Zad (Zah rfl rfl rfl on33 rfl)) (Zaf [3] [] rfl rfl (fun _ => Zad (ZaI rfl rfl)) (Zaf [2] [] rfl rfl (fun _ => Zad (ZaI rfl rfl)) (Zaf [3] [] rfl rfl (fun _ => Zad (ZaI rfl rfl)) (Zaf [31, 32] [] rfl rfl (fun _ => Zad (Zaz (k) rfl rfl (rfl) (getm hk1) Tryz.underlying87 rfl sz9 rfl)) (Zaf [33] [] rfl rfl (fun _ => Zad (Zat rfl rfl on9 rfl)) (Zaf [2] [] rfl rfl (fun _ => Zad (ZaI rfl rfl)) (Zaf [3] [] rfl rfl (fun _ => Zad (ZaI rfl rfl)) (Zaf [36] [] rfl rfl (fun _ => Zad (ZaF rfl rfl (wrapS (k + 1) (by omega)) rfl)) ?_))))))));refine Zaf [37] [] rfl rfl (fun _ => Zad (st_rem rfl rfl (by omega) (by rfl) rfl)) (Zaf [35, 38] [] rfl rfl (fun _ => Zad (Zaz ((k + 1) % 3) rfl rfl (rfl) (getm hk2) Tryz.underlying87 rfl sz9 rfl)) (Zaf [39] [] rfl rfl (fun _ => Zad (Zat rfl rfl on9 rfl)) (Zaf [30, 34, 40] [] rfl rfl (fun _ => Zad (Zax (hpy) rfl rfl)) (Zbv [41] [51] [(42, _)] rfl rfl (fun _ => Zbd (ZaJ 51 sl33 rfl rfl rfl rfl rfl rfl rfl rfl)) (.inr ⟨42, _, rfl, rfl, rfl, rfl, rfl⟩) rfl rfl rfl rfl rfl (dwc 15 rfl rfl rfl (dw1 16 rfl rfl (Zaj.go (Zbp (its) ([payJ (k : Int) nmK[k] nmK[(k + 1) % 3] 5]) rfl rfl rfl rfl rfl rfl rfl rfl sl33 (by simp only [List.length_singleton]; omega) rfl rfl rfl rfl) (Zac ⟨rfl, ?_⟩))))))));refine dw1 17 rfl rfl (Zaa.go (Zag rfl fi35_1 rfl rfl rfl) (Zac ⟨rfl, ?_⟩));refine dw1 18 rfl rfl (Zaj.go (ZaA rfl rfl rfl rfl rfl rfl rfl sz33) (Zac ⟨rfl, ?_⟩));refine dwe (Zab (goMv rfl rfl (Zaa.go (ZaF rfl rfl (wrapS (k + 1) (by omega)) rfl) (goAs rfl rfl (Zac ?_)))));exact ⟨(k + 1, _, _), ⟨by show k + 1 ≤ 3; omega, hro1, hit1⟩, by show 3 - (k + 1) < 3 - k; omega, Zau hF [902, 901, 1] rfl (rfl) ⟨rfl, rfl, rfl, trivial⟩⟩
  · refine ZaR (Zae ?_);have hk3 : k = 3 := by have h := h13; omega
    subst hk3;have hro3 : ro = roK3 := hro;have hit3 : its = itK3 := hits;subst hro3 hit3;refine Zb0 (ys := roK3.map rooD) 1 0 0 901 rfl rfl rfl (by decide) rfl rfl rfl rfl rfl rfl rfl (Zab (Zaa.go (Zav rfl rfl rw35 rfl rfl rfl) (Zaj.go (st_callB [902] kn_l (by exact ⟨.inr ⟨_, _, rfl, snap_prb pKA rfl rfl rfl, rfl⟩, trivial⟩) [961] ⟨rfl, trivial⟩ rfl rfl rfl rfl rfl rfl rfl (flat_ints _ _ _) rfl rfl) (goMv rfl rfl ?_))));refine Zaa.go (Zbc rfl rfl rfl) (Zaa.go (Zbc rfl rfl rfl) (goAs rfl rfl (goAs rfl rfl (Zac (Zae (a_freezeM (emb := intD) 4 961 [0, 1, 2] rfl rfl rfl rfl rfl rfl rfl (Zab (Zaa.go (Zav rfl rfl rw35 rfl rfl rfl) ?_))))))));refine Zaa.go (st_callPB [902] kn_g (by exact ⟨.inr ⟨_, _, rfl, snap_prb pKA rfl rfl rfl, rfl⟩, trivial⟩) rfl rfl) (goMv rfl rfl (Zaa.go (Za3 rfl rfl rfl) (Zaa.go (Za3 rfl rfl rfl) (goAs rfl rfl (goAs rfl rfl (Zac (Zae (Za5 [[], [0], [], [2], [0, 1, 2, 3], [0, 1, 2, 3, 4], [0, 1, 2, 3, 4, 5]] mixed rfl ?_))))))));refine dws (Zaf [1] [] rfl rfl (fun _ => Zad (Zag rfl fi35_1 rfl rfl rfl)) (Zal [55] rfl rfl (fun _ => Zad (Zah rfl rfl rfl on33 rfl)) (Zaf [] [902] rfl rfl (fun _ => Zad (Zax (pay30_p 3 1 [65] [66] (by decide) (by decide)) rfl rfl)) (Zbv [57] [52] [(58, _)] rfl rfl (fun _ => Zbd (ZaJ 52 sl33 rfl rfl rfl rfl rfl rfl rfl rfl)) (.inr ⟨58, _, rfl, rfl, rfl, rfl, rfl⟩) rfl rfl rfl rfl rfl (dwc 4 rfl rfl rfl (dw1 5 rfl rfl (Zaj.go (Zbp (itK3) ([itK4]) rfl rfl rfl rfl rfl rfl rfl rfl sl33 (by decide) rfl rfl rfl rfl) (Zac ⟨rfl, ?_⟩))))))));refine dw1 6 rfl rfl (Zaa.go (Zag rfl fi35_1 rfl rfl rfl) (Zac ⟨rfl, ?_⟩));refine dw1 7 rfl rfl (Zaj.go (ZaA rfl rfl rfl rfl rfl rfl rfl sz33) (Zac ⟨rfl, ?_⟩));refine dwe ?_;refine Zae (Zb0 (ys := (itK3 ++ [itK4]).map itmD) 1 0 1 902 rfl rfl rfl (by decide) rfl rfl rfl rfl rfl rfl rfl (Zab (Zaa.go (Zav rfl rfl rw35 rfl rfl rfl) (Zaa.go (Zax (kn_x) rfl rfl) (goMv rfl rfl (Zaa.go (Za3 rfl rfl rfl) (Zaa.go (Za3 rfl rfl rfl) (Zaa.go (Za3 rfl rfl rfl) ?_))))))));refine goAs rfl rfl (goAs rfl rfl (goAs rfl rfl (Zac (Zae (Za5 [[], [0], [0, 1], [0, 1, 2], [0, 1, 2], [0, 1, 2, 3, 4], [0, 1, 2, 3, 4, 5], [0, 1, 2, 3, 4, 5, 6], [0, 1, 2, 3, 4, 5, 6, 7], [0, 1, 2, 3, 4, 5, 6, 7, 8], [0, 1, 2, 3, 4, 5, 6, 7, 8, 9], [0, 1, 2, 3, 4, 5, 6, 7, 8, 9, 10], [0, 1, 2, 3, 4, 5, 6, 7, 8, 9, 10, 11], [0, 1, 2, 3, 4, 5, 6, 7, 8, 9, 10, 11, 12], [0, 1, 2, 3, 4, 5, 6, 7, 8, 9, 10, 11, 12, 13], [0, 1, 2, 3, 4, 5, 6, 7, 8, 9, 10, 11, 12, 13, 14], [0, 1, 2, 3, 4, 5, 6, 7, 8, 9, 10, 11, 12, 13, 14, 15], [0, 1, 2, 3, 4, 5, 6, 7, 8, 9, 10, 11, 12, 13, 14, 15, 16], [0, 1, 2, 3, 4, 5, 6, 7, 8, 9, 10, 11, 12, 13, 14, 15, 16, 17], [0, 1, 2, 3, 4, 5, 6, 7, 8, 9, 10, 11, 12, 13, 14, 15, 16, 17, 18], [0, 1, 2, 3, 4, 5, 6, 7, 8, 9, 10, 11, 12, 13, 14, 15, 16, 17, 18, 19], [0, 1, 2, 3, 4, 5, 6, 7, 8, 9, 10, 11, 12, 13, 14, 15, 16, 17, 18, 19, 20], [0, 1, 2, 3, 4, 5, 6, 7, 8, 9, 10, 11, 12, 13, 14, 15, 16, 17, 18, 19, 20], [0, 1, 2, 3, 4, 5, 6, 7, 8, 9, 10, 11, 12, 13, 14, 15, 16, 17, 18, 19, 20, 21, 22], [0, 1, 2, 3, 4, 5, 6, 7, 8, 9, 10, 11, 12, 13, 14, 15, 16, 17, 18, 19, 20, 21, 22, 23], [0, 1, 2, 3, 4, 5, 6, 7, 8, 9, 10, 11, 12, 13, 14, 15, 16, 17, 18, 19, 20, 21, 22, 23, 24], [0, 1, 2, 3, 4, 5, 6, 7, 8, 9, 10, 11, 12, 13, 14, 15, 16, 17, 18, 19, 20, 21, 22, 23, 24, 25], [0, 1, 2, 3, 4, 5, 6, 7, 8, 9, 10, 11, 12, 13, 14, 15, 16, 17, 18, 19, 20, 21, 22, 23, 24, 25, 26], [0, 1, 2, 3, 4, 5, 6, 7, 8, 9, 10, 11, 12, 13, 14, 15, 16, 17, 18, 19, 20, 21, 22, 23, 24, 25, 26, 27], [0, 1, 2, 3, 4, 5, 6, 7, 8, 9, 10, 11, 12, 13, 14, 15, 16, 17, 18, 19, 20, 21, 22, 23, 24, 25, 26, 27, 28], [0, 1, 2, 3, 4, 5, 6, 7, 8, 9, 10, 11, 12, 13, 14, 15, 16, 17, 18, 19, 20, 21, 22, 23, 24, 25, 26, 27, 28, 29], [0, 1, 2, 3, 4, 5, 6, 7, 8, 9, 10, 11, 12, 13, 14, 15, 16, 17, 18, 19, 20, 21, 22, 23, 24, 25, 26, 27, 28, 29, 30], [0, 1, 2, 3, 4, 5, 6, 7, 8, 9, 10, 11, 12, 13, 14, 15, 16, 17, 18, 19, 20, 21, 22, 23, 24, 25, 26, 27, 28, 29, 30, 31], [0, 1, 2, 3, 4, 5, 6, 7, 8, 9, 10, 11, 12, 13, 14, 15, 16, 17, 18, 19, 20, 21, 22, 23, 24, 25, 26, 27, 28, 29, 30, 31, 32], [0, 1, 2, 3, 4, 5, 6, 7, 8, 9, 10, 11, 12, 13, 14, 15, 16, 17, 18, 19, 20, 21, 22, 23, 24, 25, 26, 27, 28, 29, 30], [0, 1, 2, 3, 4, 5, 6, 7, 8, 9, 10, 11, 12, 13, 14, 15, 16, 17, 18, 19, 20, 21, 22, 23, 24, 25, 26, 27, 28, 29, 30, 34], [0, 1, 2, 3, 4, 5, 6, 7, 8, 9, 10, 11, 12, 13, 14, 15, 16, 17, 18, 19, 20, 21, 22, 23, 24, 25, 26, 27, 28, 29, 30, 34, 35], [0, 1, 2, 3, 4, 5, 6, 7, 8, 9, 10, 11, 12, 13, 14, 15, 16, 17, 18, 19, 20, 21, 22, 23, 24, 25, 26, 27, 28, 29, 30, 34, 35, 36], [0, 1, 2, 3, 4, 5, 6, 7, 8, 9, 10, 11, 12, 13, 14, 15, 16, 17, 18, 19, 20, 21, 22, 23, 24, 25, 26, 27, 28, 29, 30, 34, 35, 36, 37], [0, 1, 2, 3, 4, 5, 6, 7, 8, 9, 10, 11, 12, 13, 14, 15, 16, 17, 18, 19, 20, 21, 22, 23, 24, 25, 26, 27, 28, 29, 30, 34, 35, 36, 37, 38], [0, 1, 2, 3, 4, 5, 6, 7, 8, 9, 10, 11, 12, 13, 14, 15, 16, 17, 18, 19, 20, 21, 22, 23, 24, 25, 26, 27, 28, 29, 30, 31, 32, 33, 34, 35, 36, 37, 38, 39], [0, 1, 2, 3, 4, 5, 6, 7, 8, 9, 10, 11, 12, 13, 14, 15, 16, 17, 18, 19, 20, 21, 22, 23, 24, 25, 26, 27, 28, 29, 30, 31, 32, 33, 34, 35, 36, 37, 38, 39, 40], [0, 1, 2, 3, 4, 5, 6, 7, 8, 9, 10, 11, 12, 13, 14, 15, 16, 17, 18, 19, 20, 21, 22, 23, 24, 25, 26, 27, 28, 29, 30, 31, 32, 33, 34, 35, 36, 37, 38, 39, 40, 41]] mixed rfl (dw1 1 rfl rfl (goMv rfl rfl (Zac ⟨rfl, ?_⟩))))))));refine dw1 2 rfl rfl (Zaa.go (ZbF rfl rfl rfl) (Zac ⟨rfl, ?_⟩));refine dw1 3 rfl rfl (goMv rfl rfl (o_setT 69 rfl (rfl) (Zac ⟨rfl, ?_⟩)));refine dws (Zaf [4, 69] [] rfl rfl (fun _ => Za9 rfl rfl rfl (ZaI rfl rfl)) (Zbv [69] [53] [(71, _)] rfl rfl (fun _ => ge_run rfl rfl rfl (ZaJ 53 sl28 rfl rfl rfl rfl rfl rfl rfl rfl)) (.inr ⟨71, _, rfl, rfl, rfl, rfl, rfl⟩) rfl rfl rfl rfl rfl (dwc 5 rfl rfl rfl (dw1 6 rfl rfl (Zak rfl rfl rfl (Zaa.go (st_callPB [53] (same30_p [0, 1, 2] [0, 1, 2] (by decide) (by decide)) (by exact ⟨.inl rfl, .inr ⟨_, _, rfl, .own rfl rfl (by decide) rfl, rfl⟩, trivial⟩) rfl rfl) (Zac ⟨rfl, ?_⟩)))))));refine dw1 7 rfl rfl (Zaa.go (Zay rfl rfl rfl rfl) (Zac ⟨rfl, ?_⟩));refine dw1 8 rfl rfl (goMv rfl rfl (o_setT 74 rfl (rfl) (Zac ⟨rfl, ?_⟩)));refine dw1 9 rfl rfl (Zak rfl rfl rfl (goMv rfl rfl (Zac ⟨rfl, ?_⟩)));refine dw1 10 rfl rfl (Zak rfl rfl rfl (Zaa.go (ZbF rfl rfl rfl) (Zac ⟨rfl, ?_⟩)));refine dw1 11 rfl rfl (Zaa.go (Zay rfl rfl rfl rfl) (Zac ⟨rfl, ?_⟩));refine dw1 12 rfl rfl (goMv rfl rfl (o_setT 78 rfl (rfl) (Zac ⟨rfl, ?_⟩)));refine dw1 13 rfl rfl (Zak rfl rfl rfl (goMv rfl rfl (Zac ⟨rfl, ?_⟩)));refine dw1 14 rfl rfl (Zak rfl rfl rfl (Zaa.go (Zb2 rfl rfl Tryz.underlying28 rfl) (Zac ⟨rfl, ?_⟩)));refine dw1 15 rfl rfl (Zak rfl rfl rfl (Zaa.go (ZbF rfl rfl rfl) (Zac ⟨rfl, ?_⟩)));refine dw1 16 rfl rfl (Zaa.go (Zay rfl rfl rfl rfl) (Zac ⟨rfl, ?_⟩));refine dw1 17 rfl rfl (goMv rfl rfl (o_setT 83 rfl (rfl) (Zac ⟨rfl, ?_⟩)));refine dw1 18 rfl rfl (Zak rfl rfl rfl (goMv rfl rfl (Zac ⟨rfl, ?_⟩)));refine dw1 19 rfl rfl (Zak rfl rfl rfl (Zaa.go (ZbF rfl rfl rfl) (Zac ⟨rfl, ?_⟩)));refine dw1 20 rfl rfl (Zaa.go (Zay rfl rfl rfl rfl) (Zac ⟨rfl, ?_⟩));refine dw1 21 rfl rfl (goMv rfl rfl (o_setT 87 rfl (rfl) (Zac ⟨rfl, ?_⟩)));refine dws (Zaf [8, 87] [] rfl rfl (fun _ => Za9 rfl rfl rfl (ZaI rfl rfl)) (Zbv [87] [54] [(89, _)] rfl rfl (fun _ => ge_run rfl rfl rfl (ZaJ 54 sl28 rfl rfl rfl rfl rfl rfl rfl rfl)) (.inr ⟨89, _, rfl, rfl, rfl, rfl, rfl⟩) rfl rfl rfl rfl rfl (dwc 23 rfl rfl rfl (dw1 24 rfl rfl (Zak rfl rfl rfl (Zaa.go (st_callPB [54] (same30_p [0, 1, 2] [0, 1, 2] (by decide) (by decide)) (by exact ⟨.inl rfl, .inr ⟨_, _, rfl, .own rfl rfl (by decide) rfl, rfl⟩, trivial⟩) rfl rfl) (Zac ⟨rfl, ?_⟩)))))));refine dw1 25 rfl rfl (Zaa.go (Zay rfl rfl rfl rfl) (Zac ⟨rfl, ?_⟩));refine dw1 26 rfl rfl (goMv rfl rfl (o_setT 92 rfl (rfl) (Zac ⟨rfl, ?_⟩)));refine dw1 27 rfl rfl (Zak rfl rfl rfl (goMv rfl rfl (Zac ⟨rfl, ?_⟩)));refine dw1 28 rfl rfl (Zak rfl rfl rfl (Zaa.go (ZaD rfl Tryz.underlying42 rfl) (Zac ⟨rfl, ?_⟩)));refine dw1 29 rfl rfl (Zak rfl rfl rfl (Zaa.go (ZbF rfl rfl rfl) (Zac ⟨rfl, ?_⟩)));refine dw1 30 rfl rfl (Zaa.go (Zay rfl rfl rfl rfl) (Zac ⟨rfl, ?_⟩));refine dw1 31 rfl rfl (goMv rfl rfl (o_setT 97 rfl (rfl) (Zac ⟨rfl, ?_⟩)));refine dws (Zaf [9, 97] [] rfl rfl (fun _ => Za9 rfl rfl rfl (ZaI rfl rfl)) (Zaf [98, 97] [] rfl rfl (fun _ => Za9 rfl rfl rfl (Zaz (0) rfl rfl (rfl) (rfl) Tryz.underlying42 rfl sz53 rfl)) (Zaf [99, 97] [] rfl rfl (fun _ => Za9 rfl rfl rfl (ZaC rfl rfl rw53 rfl)) (Zaf [1, 97] [] rfl rfl (fun _ => Za9 rfl rfl rfl (Zag rfl fi35_0 rfl rfl rfl)) (Zal [101, 97] rfl rfl (fun _ => Za9 rfl rfl rfl (Zah rfl rfl rfl on32 rfl)) ?_)))));refine Zaf [102, 97] [] rfl rfl (fun _ => Za9 rfl rfl rfl (Zaz (0) rfl rfl (rfl) (rfl) Tryz.underlying32 rfl sz82 rfl)) (Zaf [103, 97] [] rfl rfl (fun _ => Za9 rfl rfl rfl (Zas rfl fi82_0 rfl rfl rfl)) (Zaf [104, 97] [] rfl rfl (fun _ => Za9 rfl rfl rfl (ZaC rfl rfl rw51 rfl)) (Zaf [105, 97] [] rfl rfl (fun _ => Za9 rfl rfl rfl (Za2 zl53 pl53 rfl rfl rfl)) (dwc 40 rfl rfl rfl (dw1 41 rfl rfl (Zak rfl rfl rfl (Zaa.go (st_eqlSt (la := excC ⟨3, 0, rcK 65, -1⟩) (lb := excC ⟨3, 0, rcK 65, -1⟩) (ds := excT) (by kernel_rfl) (by kernel_rfl) (by kernel_rfl) rfl rfl rfl rfl (exc_plain _) (exc_plain _) (exc_eqC _ _) rfl) (Zac ⟨rfl, ?_⟩))))))));refine dw1 42 rfl rfl (Zaa.go (Zay rfl rfl rfl rfl) (Zac ⟨rfl, ?_⟩));refine dw1 43 rfl rfl (goAs rfl rfl (Zac ⟨rfl, ?_⟩));refine dwe (Zao ?_);exact ⟨_, [], [], Zam rfl, rfl, rfl, by simp, rfl⟩
theorem ers_S (ros : List Roo) (its : List Itm) (on : Nat → Bool) : ersN (netS ros its on) = netS ros its on := by
  unfold ersN netS;dsimp only;rw [List.map_map, List.map_map]
  rfl
theorem cntOn_all (n : Nat) : cntOn n (fun _ => true) = n := by
  unfold cntOn;rw [List.filter_eq_self.2 fun _ _ => rfl, List.length_range]
theorem run_len {ros : List Roo} {its : List Itm} (hi : (its.map Itm.id).Nodup) : ∀ (f : Nat) (on : Nat → Bool), (runS ros its f on).1.length + cntOn its.length (runS ros its f on).2 = cntOn its.length on := by
  intro f
  induction f with
  | zero => intro on; show 0 + _ = _; rw [Nat.zero_add]; rfl
  | succ f ih =>
    intro on
    cases hn : nextN (netS ros its on) with
    | none => rw [run_none hn]; show 0 + _ = _; rw [Nat.zero_add]
    | some e =>
      obtain ⟨i, x, hx, hon, hid⟩ := next_on hn;obtain ⟨hiN, hoi, hit⟩ := S_nd_at (ers_S ros its on) hx;rw [hon] at hoi;have hil : i < (its.map Itm.id).length := by rw [List.length_map]; exact hiN
      have hei : (its.map Itm.id)[i] = e.id := by rw [hid, hit, List.getElem_map, ZaL itm0 hiN]
      rw [run_some hn, ← hei, idx_nodup hi hil];have h1 := ih (setOff on i);have h2 := cntOn_off hiN hoi.symm;show (runS ros its f (setOff on i)).1.length + 1 + cntOn its.length (runS ros its f (setOff on i)).2 = cntOn its.length on;omega
theorem large_cnt (p : Prb) : (largeS p).length = cntOn (ordP p).length (explS p).2 := by
  unfold largeS onIds cntOn;rw [List.length_map]
theorem expl_len {p : Prb} (hE : prbE p = 0) : (explS p).1.length + (largeS p).length = p.it.length := by
  have h1 : ordP p = sortO p.it := if_pos hE;have h := run_len (ros := rosS p) (ord_ids hE) (ordP p).length fun _ => true;rw [cntOn_all] at h;rw [large_cnt];unfold explS;rw [h, h1, sortO_len]
theorem large_filter {p : Prb} (hE : prbE p = 0) : largeS p = ((ordP p).map Itm.id).filter fun x => decide (x ∈ largeS p) := onIds_filter (ord_ids hE) _
theorem large_ids {p : Prb} (hE : prbE p = 0) {y : Int} (hy : y ∈ largeS p) : y ∈ p.it.map Itm.id := by
  have h1 : ordP p = sortO p.it := if_pos hE;rw [large_filter hE, h1] at hy;exact ((Zbq p.it).map Itm.id).mem_iff.1 (List.mem_filter.1 hy).1
theorem large_nodup {p : Prb} (hE : prbE p = 0) : (largeS p).Nodup := by
  rw [large_filter hE];exact (ord_ids hE).sublist List.filter_sublist
theorem large_len {p : Prb} (hE : prbE p = 0) : (largeS p).length ≤ p.it.length := by have := expl_len hE; omega
theorem rooms_nodup {l : List Roo} (h : roomsE l = 0) : (l.map Roo.r).Nodup := by
  have h0 := ZbA.1 h;rw [List.Nodup, List.pairwise_map, List.pairwise_iff_getElem];intro i j hi hj hij e;have := h0 j (List.mem_range.2 hj);unfold rErr at this;rw [ZaL roo0 hj] at this
  split at this
  · contradiction
  · split at this
    · cases this
    · split at this
      · cases this
      · rename_i hn; exact hn (mem_tk hj hij e)
theorem filter_map2 {α β : Type} (f : α → β) (q : β → Bool) : ∀ l : List α, (l.map f).filter q = (l.filter fun a => q (f a)).map f
  | [] => rfl
  | a :: l => by
    rw [List.map_cons, List.filter_cons, List.filter_cons, filter_map2 f q l]
    split <;> rfl
theorem Zcv {α : Type} {f g : α → Int} : ∀ {l : List α}, (∀ x ∈ l, f x = g x) → (l.map f).sum = (l.map g).sum
  | [], _ => rfl
  | a :: l, h => by
    rw [List.map_cons, List.map_cons, List.sum_cons, List.sum_cons, h a List.mem_cons_self, Zcv fun x hx => h x (List.mem_cons_of_mem _ hx)]
theorem roomsE_ok {l : List Roo} (h : ∀ o ∈ l, validE o.r = 0 ∧ -4 * Mx ≤ o.n ∧ o.n ≤ 4 * Mx) (hn : (l.map Roo.r).Nodup) : roomsE l = 0 := by
  unfold roomsE;refine ZbA.2 fun k hk => ?_;have hk' := List.mem_range.1 hk;have h1 := h _ (List.getElem_mem hk');unfold rErr;rw [ZaL roo0 hk', if_neg (fun h => h h1.1), if_neg (fun h => h h1.2), if_neg];intro hm;rw [List.map_take] at hm;obtain ⟨j, hj, e⟩ := List.mem_take_iff_getElem.1 hm;rw [List.Nodup, List.pairwise_iff_getElem] at hn;have hj2 : j < k := by omega
  refine hn j k (by rw [List.length_map]; omega) (by rw [List.length_map]; exact hk') hj2 ?_;rw [e, List.getElem_map]
structure Chg (R : Int → Int → Prop) (l Y : List Roo) : Prop where
  len : Y.length = l.length
  at_ : ∀ (j : Nat) x y, l[j]? = some x → Y[j]? = some y → y.r = x.r ∧ -4 * Mx ≤ y.n ∧ y.n ≤ 4 * Mx ∧ R x.n y.n
theorem Chg.set {R : Int → Int → Prop} {l Y : List Roo} (h : Chg R l Y) {k : Nat} (hk : k < Y.length) {n : Int} (h1 : -4 * Mx ≤ n ∧ n ≤ 4 * Mx) (h2 : ∀ x, R x Y[k].n → R x n) : Chg R l (Y.set k ⟨Y[k].r, n⟩) :=
  ⟨by rw [List.length_set]; exact h.len, fun j x y hx hy => by
    rw [List.getElem?_set] at hy
    split at hy
    · rename_i e; subst e
      first | (rw [if_pos hk] at hy; injection hy with hy; subst hy) | (injection hy with hy; subst hy)
      have := h.at_ k x _ hx (List.getElem?_eq_getElem hk);exact ⟨this.1, h1.1, h1.2, h2 _ this.2.2.2⟩
    · exact h.at_ j x y hx hy⟩
theorem Chg.map {R : Int → Int → Prop} {l Y : List Roo} (h : Chg R l Y) : Y.map Roo.r = l.map Roo.r := by
  refine List.ext_getElem (by rw [List.length_map, List.length_map, h.len]) fun j h1 h2 => ?_;rw [List.length_map] at h1 h2;rw [List.getElem_map, List.getElem_map];exact (h.at_ j _ _ (List.getElem?_eq_getElem h2) (List.getElem?_eq_getElem h1)).1
theorem Chg.mem {R : Int → Int → Prop} {l Y : List Roo} (h : Chg R l Y) : ∀ y ∈ Y, ∃ x ∈ l, y.r = x.r ∧ -4 * Mx ≤ y.n ∧ y.n ≤ 4 * Mx ∧ R x.n y.n := fun y hy => by
  obtain ⟨j, hj, rfl⟩ := List.mem_iff_getElem.1 hy;have hj' : j < l.length := by rw [← h.len]; exact hj
  exact ⟨l[j], List.getElem_mem hj', h.at_ j _ _ (List.getElem?_eq_getElem hj') (List.getElem?_eq_getElem hj)⟩
theorem mx_v : Mx = 1000000000000000 := rfl
theorem Chg.b {R : Int → Int → Prop} {l Y : List Roo} (h : Chg R l Y) {k : Nat} (hk : k < Y.length) : -4000000000000000 ≤ Y[k].n ∧ Y[k].n ≤ 4000000000000000 := by
  obtain ⟨x, _, _, h2, h3, _⟩ := h.mem _ (List.getElem_mem hk);rw [mx_v] at h2 h3;exact ⟨by omega, by omega⟩
theorem nodup_take {l : List Int} (hn : l.Nodup) {j : Nat} (hj : j < l.length) : l[j] ∉ l.take j := fun h => by
  obtain ⟨i, hi, e⟩ := List.mem_take_iff_getElem.1 h;rw [List.Nodup, List.pairwise_iff_getElem] at hn;exact hn i j (by omega) hj (by omega) e
theorem aft_iff {i : Itm} : aftE i = 0 ↔ (∀ x ∈ i.af, (0 ≤ x ∧ x ≤ 1000000000) ∧ x ≠ i.id) ∧ i.af.Nodup := by
  unfold aftE;rw [ZbA]
  constructor
  · intro h
    have key : ∀ k (hk : k < i.af.length), (0 ≤ i.af[k] ∧ i.af[k] ≤ 1000000000) ∧ i.af[k] ≠ i.id ∧ i.af[k] ∉ i.af.take k := fun k hk => by
      have := h k (List.mem_range.2 hk);unfold aErr at this;rw [ZaL 0 hk] at this
      split at this
      · cases this
      · rename_i h1
        split at this
        · cases this
        · rename_i h2
          exact ⟨Decidable.not_not.1 h1, fun e => h2 (.inl e), fun e => h2 (.inr e)⟩
    refine ⟨fun x hx => ?_, ?_⟩
    · obtain ⟨k, hk, rfl⟩ := List.mem_iff_getElem.1 hx;exact ⟨(key k hk).1, (key k hk).2.1⟩
    · rw [List.Nodup, List.pairwise_iff_getElem];intro a b ha hb hab e;exact (key b hb).2.2 (List.mem_take_iff_getElem.2 ⟨a, by omega, e⟩)
  · rintro ⟨h1, h2⟩ k hk;have hk' := List.mem_range.1 hk;have h3 := h1 _ (List.getElem_mem hk');unfold aErr;rw [ZaL 0 hk', if_neg (fun h => h h3.1), if_neg];rintro (h | h)
    · exact h3.2 h
    · exact nodup_take h2 hk' h
theorem items_ok {l : List Itm} (h1 : ∀ i ∈ l, checkE i = 0) (h2 : (l.map Itm.id).Nodup) (h3 : (l.map Itm.sq).Nodup) : itemsE l = 0 := by
  unfold itemsE;refine ZbA.2 fun k hk => ?_;have hk' := List.mem_range.1 hk;have hc := h1 _ (List.getElem_mem hk');unfold iErr;rw [ZaL itm0 hk', if_neg (fun h => h hc), if_neg]
  have key : ∀ f : Itm → Int, (l.map f).Nodup → f l[k] ∉ (l.take k).map f := fun f hn hm => by
    rw [List.map_take] at hm;have hk2 : k < (l.map f).length := by rw [List.length_map]; exact hk'
    have := nodup_take hn hk2;rw [List.getElem_map] at this;exact this hm
  rintro (h | h)
  · exact key _ h2 h
  · exact key _ h3 h
theorem after_ok {l : List Itm} (h : ∀ i ∈ l, ∀ x ∈ i.af, x ∈ l.map Itm.id) : afterE l = 0 := by
  unfold afterE;refine ZbA.2 fun i hi => ?_;unfold fErr;rw [if_neg];intro ha;obtain ⟨x, hx, h1⟩ := List.any_eq_true.1 ha;unfold notIn at h1;rw [decide_eq_true (h i hi x hx)] at h1
  cases h1
theorem after_in {l : List Itm} (h : afterE l = 0) : ∀ i ∈ l, ∀ x ∈ i.af, x ∈ l.map Itm.id := fun i hi x hx => by
  have := ZbA.1 h i hi;unfold fErr at this
  split at this
  · cases this
  · rename_i hn
    refine Classical.byContradiction fun hc => hn (List.any_eq_true.2 ⟨x, hx, ?_⟩);unfold notIn; rw [decide_eq_false hc]; rfl
def befQ (i : Int) (q : List Int) : List Int := if i ∈ q then q.takeWhile fun a => decide (a ≠ i) else []
theorem blkR_none {its : List Itm} {l : List Int} {id : Int} {x : Roo} : blkR its l id x = none ↔ ∀ a ∈ befQ id (qIds its x.r), a ∈ l := by
  unfold blkR befQ
  split
  · rw [Option.map_eq_none_iff, List.find?_eq_none];exact ⟨fun h a ha => by have := h a ha; simpa using this, fun h a ha => by have := h a ha; simpa using this⟩
  · simp
theorem blk_iff {p : Prb} {l : List Int} {id : Int} : blockR p l id = none ↔ (∀ x ∈ p.ro, ∀ a ∈ befQ id (qIds (sortO p.it) x.r), a ∈ l) ∧ ∀ a ∈ (itmOf p id).af, a ∈ l := by
  have h1 : (rosS p).findSome? (blkR (sortO p.it) l id) = none ↔ ∀ x ∈ p.ro, ∀ a ∈ befQ id (qIds (sortO p.it) x.r), a ∈ l := by
    rw [List.findSome?_eq_none_iff];exact ⟨fun h x hx => blkR_none.1 (h x ((rosS_perm p).mem_iff.2 hx)), fun h x hx => blkR_none.2 (h x ((rosS_perm p).mem_iff.1 hx))⟩
  have h2 : ((itmOf p id).af.find? fun a => decide (a ∉ l)) = none ↔ ∀ a ∈ (itmOf p id).af, a ∈ l := by
    rw [List.find?_eq_none];exact ⟨fun h a ha => by have := h a ha; simpa using this, fun h a ha => by have := h a ha; simpa using this⟩
  unfold blockR
  cases h3 : (rosS p).findSome? (blkR (sortO p.it) l id) with
  | some e =>
    constructor
    · intro h; cases h
    · intro h; have := h1.2 h.1; rw [h3] at this; cases this
  | none => 
    show (Option.map _ _) = none ↔ _;rw [Option.map_eq_none_iff, h2];exact ⟨fun h => ⟨h1.1 h3, h⟩, fun h => h.2⟩
theorem feas_iff {p : Prb} {l : List Int} : feasR p l ↔ (∀ id ∈ l, (∀ x ∈ p.ro, ∀ a ∈ befQ id (qIds (sortO p.it) x.r), a ∈ l) ∧ ∀ a ∈ (itmOf p id).af, a ∈ l) ∧ ∀ x ∈ p.ro, 0 ≤ overL p.it x l := by
  unfold feasR;exact ⟨fun h => ⟨fun id hid => blk_iff.1 (h.1 id hid), fun x hx => by have := h.2 x hx; omega⟩, fun h => ⟨fun id hid => blk_iff.2 (h.1 id hid), fun x hx => by have := h.2 x hx; omega⟩⟩
theorem bef_in {i m : Int} {q : List Int} : m ∈ befQ i q → i ∈ q := fun h => by
  unfold befQ at h
  split at h
  · assumption
  · cases h
structure Part (p s : Prb) : Prop where
  hp : prbE p = 0
  hs : prbE s = 0
  ro : ∀ x ∈ s.ro, x ∈ p.ro
  it : ∀ i ∈ s.it, i ∈ p.it
  z : ∀ i ∈ p.it, i ∉ s.it → ∀ x ∈ s.ro, dltE i x.r = 0
theorem Part.sort {p s : Prb} (h : Part p s) : (sortO p.it).filter (fun i => decide (i ∈ s.it)) = sortO s.it := by
  have n1 := items_nodup (ZbC h.hp).2.1;have n2 := items_nodup (ZbC h.hs).2.1;refine strict_one (R := fun a b => ordI a b < 0) (fun x => by rw [ordI_pc.refl]; omega) (fun x y z => ordI_pc.trans x y z) ?_ (strict_of (((Zbq s.it).map _).nodup_iff.2 n2) (sortO_sorted s.it)) fun x => ?_
  · exact (strict_of (((Zbq p.it).map _).nodup_iff.2 n1) (sortO_sorted p.it)).filter _
  · rw [List.mem_filter, (Zbq p.it).mem_iff, (Zbq s.it).mem_iff, decide_eq_true_eq];exact ⟨fun h1 => h1.2, fun h1 => ⟨h.it x h1, h1⟩⟩
theorem Part.q {p s : Prb} (h : Part p s) {x : Roo} (hx : x ∈ s.ro) : qIds (sortO p.it) x.r = qIds (sortO s.it) x.r := by
  rw [← h.sort];unfold qIds;rw [List.filter_filter]
  congr 1
  refine List.filter_congr fun i hi => ?_;have hi' := (Zbq p.it).mem_iff.1 hi
  by_cases hs : i ∈ s.it
  · rw [decide_eq_true hs, Bool.and_true]
  · rw [h.z i hi' hs x hx]; simp [hs]
theorem sum_part {α : Type} (f : α → Int) (q : α → Bool) : ∀ l : List α, (∀ x ∈ l, q x = false → f x = 0) → (l.map f).sum = ((l.filter q).map f).sum
  | [], _ => rfl
  | a :: l, h => by
    have ih := sum_part f q l fun x hx => h x (List.mem_cons_of_mem _ hx);rw [List.map_cons, List.sum_cons, List.filter_cons, ih]
    cases hq : q a with
    | true => rw [if_pos rfl, List.map_cons, List.sum_cons]
    | false => rw [if_neg (by simp), h a List.mem_cons_self hq, Int.zero_add]
theorem over_sort (its : List Itm) (x : Roo) (l : List Int) : overL its x l = overL (sortO its) x l := by
  unfold overL
  congr 1
  exact (psum (((Zbq its).filter _).map _)).symm
theorem Part.over {p s : Prb} (h : Part p s) {x : Roo} (hx : x ∈ s.ro) (l : List Int) : overL p.it x l = overL s.it x l := by
  rw [over_sort p.it, over_sort s.it, ← h.sort];unfold overL
  congr 1
  rw [List.filter_filter, sum_part (fun i => dltE i x.r) (fun i => decide (i ∈ s.it)) ((sortO p.it).filter _) fun i hi hq => ?_, List.filter_filter]
  · refine congrArg (fun z : List Itm => (z.map fun i => dltE i x.r).sum) (List.filter_congr fun i _ => Bool.and_comm _ _)
  · exact h.z i ((Zbq p.it).mem_iff.1 (List.mem_filter.1 hi).1) (of_decide_eq_false hq) x hx
theorem Part.itm {p s : Prb} (h : Part p s) {id : Int} (hid : id ∈ s.it.map Itm.id) : itmOf p id = itmOf s id := by
  obtain ⟨hk, _, e1, e2⟩ := itmOf_at hid;have hm : itmOf s id ∈ p.it := h.it _ (by rw [e1]; exact List.getElem_mem hk);obtain ⟨hk2, _, e3, e4⟩ := itmOf_at (p := p) (id := id) (List.mem_map.2 ⟨_, hm, e2⟩);exact ids_inj (items_ids (ZbC h.hp).2.1) (by rw [e3]; exact List.getElem_mem hk2) hm (by rw [e4, e2])
theorem bef_memq {i m : Int} {q : List Int} (h : m ∈ befQ i q) : m ∈ q := by
  unfold befQ at h
  split at h
  · exact (List.takeWhile_sublist _).mem h
  · cases h
theorem q_memI {its : List Itm} {r : Rsc} {y : Int} (h : y ∈ qIds (sortO its) r) : y ∈ its.map Itm.id := by
  unfold qIds at h;obtain ⟨i, hi, rfl⟩ := List.mem_map.1 h;exact List.mem_map.2 ⟨i, (Zbq its).mem_iff.1 (List.mem_filter.1 hi).1, rfl⟩
theorem over_in {its : List Itm} {x : Roo} {l m : List Int} (h : ∀ i ∈ its, i.id ∈ l ↔ i.id ∈ m) : overL its x l = overL its x m := by
  unfold overL;rw [List.filter_congr fun i hi => decide_eq_decide.2 (h i hi)]
theorem Part.down {p s : Prb} (h : Part p s) {l m : List Int} (hm : ∀ y, y ∈ m ↔ y ∈ l ∧ y ∈ s.it.map Itm.id) (hf : feasR p l) : feasR s m := by
  obtain ⟨f1, f2⟩ := feas_iff.1 hf;refine feas_iff.2 ⟨fun id hid => ?_, fun x hx => ?_⟩
  · obtain ⟨h1, h2⟩ := (hm id).1 hid;refine ⟨fun x hx y hy => (hm y).2 ⟨(f1 id h1).1 x (h.ro x hx) y (by rw [h.q hx]; exact hy), q_memI (bef_memq hy)⟩, fun y hy => (hm y).2 ⟨(f1 id h1).2 y (by rw [h.itm h2]; exact hy), ?_⟩⟩;obtain ⟨hk, _, e1, _⟩ := itmOf_at h2;exact after_in (ZbC h.hs).2.2 _ (by rw [e1]; exact List.getElem_mem hk) y hy
  · have := f2 x (h.ro x hx);rw [h.over hx] at this;rw [over_in (m := l) fun i hi => (hm i.id).trans ⟨fun h => h.1, fun h => ⟨h, List.mem_map.2 ⟨i, hi, rfl⟩⟩⟩];exact this
theorem part_up {p a c : Prb} (ha : Part p a) (hc : Part p c) (hro : ∀ x ∈ p.ro, x ∈ a.ro ∨ x ∈ c.ro) (hd : ∀ y ∈ a.it.map Itm.id, y ∉ c.it.map Itm.id) {l m n : List Int} (hl : ∀ y ∈ l, y ∈ a.it.map Itm.id) (hm : ∀ y ∈ m, y ∈ c.it.map Itm.id) (hn : ∀ y, y ∈ n ↔ y ∈ l ∨ y ∈ m) (f : feasR a l) (g : feasR c m) : feasR p n := by
  obtain ⟨f1, f2⟩ := feas_iff.1 f;obtain ⟨g1, g2⟩ := feas_iff.1 g;refine feas_iff.2 ⟨fun id hid => ?_, fun x hx => ?_⟩
  · rcases (hn id).1 hid with h | h
    · refine ⟨fun x hx y hy => (hn y).2 (.inl ?_), fun y hy => (hn y).2 (.inl ((f1 id h).2 y (by rw [← ha.itm (hl id h)]; exact hy)))⟩;rcases hro x hx with hx | hx
      · rw [ha.q hx] at hy; exact (f1 id h).1 x hx y hy
      · rw [hc.q hx] at hy; exact absurd (q_memI (bef_in hy)) (hd id (hl id h))
    · refine ⟨fun x hx y hy => (hn y).2 (.inr ?_), fun y hy => (hn y).2 (.inr ((g1 id h).2 y (by rw [← hc.itm (hm id h)]; exact hy)))⟩;rcases hro x hx with hx | hx
      · rw [ha.q hx] at hy; exact absurd (hm id h) (hd id (q_memI (bef_in hy)))
      · rw [hc.q hx] at hy; exact (g1 id h).1 x hx y hy
  · rcases hro x hx with hx | hx
    · rw [ha.over hx, over_in (m := l) fun i hi => (hn i.id).trans ⟨fun h => h.elim id fun h2 => absurd (hm _ h2) (hd _ (List.mem_map.2 ⟨i, hi, rfl⟩)), .inl⟩];exact f2 x hx
    · rw [hc.over hx, over_in (m := m) fun i hi => (hn i.id).trans ⟨fun h => h.elim (fun h2 => absurd (List.mem_map.2 ⟨i, hi, rfl⟩) (hd _ (hl _ h2))) id, .inr⟩];exact g2 x hx
theorem sub_lenN : ∀ {l U : List Int}, l.Nodup → (∀ x ∈ l, x ∈ U) → l.length ≤ U.length
  | [], U, _, _ => Nat.zero_le _
  | a :: l, U, hn, hs => by
    rw [List.nodup_cons] at hn;have ha := hs a List.mem_cons_self;have h1 : (U.erase a).length = U.length - 1 := List.length_erase_of_mem ha;have h2 := List.length_pos_of_mem ha;have ih := sub_lenN (U := U.erase a) hn.2 fun x hx => (List.mem_erase_of_ne (fun e2 => hn.1 (by rw [← e2]; exact hx))).2 (hs x (List.mem_cons_of_mem _ hx));rw [List.length_cons]; omega
theorem len_same {l m : List Int} (hl : l.Nodup) (hm : m.Nodup) (h : ∀ y, y ∈ l ↔ y ∈ m) : l.length = m.length :=
  Nat.le_antisymm (sub_lenN hl fun y hy => (h y).1 hy) (sub_lenN hm fun y hy => (h y).2 hy)
theorem part_large {p a c : Prb} (ha : Part p a) (hc : Part p c) (hFp : FewP p) (hFa : FewP a) (hFc : FewP c) (hro : ∀ x ∈ p.ro, x ∈ a.ro ∨ x ∈ c.ro) (hit : ∀ i ∈ p.it, i ∈ a.it ∨ i ∈ c.it) (hd : ∀ y ∈ a.it.map Itm.id, y ∉ c.it.map Itm.id) :
    (∀ y, y ∈ largeS p ↔ y ∈ largeS a ∨ y ∈ largeS c) ∧ (largeS p).length = (largeS a).length + (largeS c).length := by
  have la := fun y (h : y ∈ largeS a) => large_ids ha.hs h;have lc := fun y (h : y ∈ largeS c) => large_ids hc.hs h;have up : feasR p (largeS a ++ largeS c) := part_up ha hc hro hd la lc (fun y => List.mem_append) (large_feas ha.hs hFa) (large_feas hc.hs hFc)
  have hids : ∀ y ∈ largeS a ++ largeS c, y ∈ p.it.map Itm.id := fun y hy => by
    rcases List.mem_append.1 hy with h | h
    · obtain ⟨i, hi, e⟩ := List.mem_map.1 (la y h); exact List.mem_map.2 ⟨i, ha.it i hi, e⟩
    · obtain ⟨i, hi, e⟩ := List.mem_map.1 (lc y h); exact List.mem_map.2 ⟨i, hc.it i hi, e⟩
  have h1 := large_max ha.hp hFp up hids
  have hm : ∀ y, y ∈ largeS p ↔ y ∈ largeS a ∨ y ∈ largeS c := fun y => by
    constructor
    · intro hy;obtain ⟨i, hi, e⟩ := List.mem_map.1 (large_ids ha.hp hy);rcases hit i hi with h | h
      · have d := ha.down (l := largeS p) (m := (largeS p).filter fun y => decide (y ∈ a.it.map Itm.id)) (fun y => by rw [List.mem_filter, decide_eq_true_eq]) (large_feas ha.hp hFp);have hya : y ∈ a.it.map Itm.id := List.mem_map.2 ⟨i, h, e⟩;exact .inl (large_max ha.hs hFa d (fun z hz => of_decide_eq_true (List.mem_filter.1 hz).2) y (List.mem_filter.2 ⟨hy, decide_eq_true hya⟩))
      · have d := hc.down (l := largeS p) (m := (largeS p).filter fun y => decide (y ∈ c.it.map Itm.id)) (fun y => by rw [List.mem_filter, decide_eq_true_eq]) (large_feas ha.hp hFp);have hyc : y ∈ c.it.map Itm.id := List.mem_map.2 ⟨i, h, e⟩;exact .inr (large_max hc.hs hFc d (fun z hz => of_decide_eq_true (List.mem_filter.1 hz).2) y (List.mem_filter.2 ⟨hy, decide_eq_true hyc⟩))
    · intro hy; exact h1 y (List.mem_append.2 hy)
  refine ⟨hm, ?_⟩;rw [← List.length_append];refine len_same (large_nodup ha.hp) ?_ fun y => (hm y).trans List.mem_append.symm;rw [List.nodup_append];exact ⟨large_nodup ha.hs, large_nodup hc.hs, fun y hy z hz e => hd y (la y hy) (e ▸ lc z hz)⟩
end Go.Proofs.YtneihdahboilnaaGreat
