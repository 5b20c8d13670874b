/- Layer 30: the network of items and pools in memory. -/
import Derived.Test.YtneihdahboilnaaGreatMg23
namespace Go.Proofs.YtneihdahboilnaaGreat
open Go.RowKit

abbrev Hd := Option (Nat × Nat)
def hdrV : Hd → Nat → Value
  | none, _ => .slice none 0 0
  | some (b, c), n => sV b n c
abbrev hdr (h : Hd) (n : Nat) : D := .raw (hdrV h n)
structure Nd where
  it : Itm
  eh : Hd
  ef : List (Nat × Int)
  ph : Hd
  pl : List (Nat × Nat)
  on : Bool
structure Po where
  r : Rsc
  room : Int
  sum : Int
  qh : Hd
  q : List Nat
  mi : Nat
structure Net where
  nd : List Nd
  po : List Po
  nh : Hd
  mh : Hd
abbrev ndC (x : Nd) : List D := [intD x.it.id, intD x.it.pr, intD x.it.sq, .sl none (x.it.po.map postD), .sl none (x.it.pa.map payD), .sl none (x.it.af.map intD), hdr x.eh x.ef.length, hdr x.ph x.pl.length, boolD x.on]
abbrev poC (y : Po) : List D := [intD y.r.k, strD y.r.acc.o, intD y.r.acc.k, strD y.r.acc.a, strD y.r.f, strD y.r.t, intD y.room, intD y.sum, hdr y.qh y.q.length, intD (y.mi : Int)]
abbrev efD (pb : Nat → Nat) (e : Nat × Int) : D := .agg [pD (pb e.1) 0, intD e.2]
abbrev plD (pb : Nat → Nat) (e : Nat × Nat) : D := .agg [pD (pb e.1) 0, intD (e.2 : Int)]
abbrev ptrD (b : Nat) : D := pD b 0
def rowAt (M : MF) (h : Hd) (t : TypeId) (k : Nat) (xs : List D) : Prop := match h with
  | none => xs = []
  | some (b, c) => xs.length ≤ c ∧ M b = some (.row t k c xs)
abbrev ndM (x : Nd) : MObj := .cells 112 (ndC x)
abbrev poM (y : Po) : MObj := .cells 121 (poC y)
theorem rowAt_keep {M : MF} {b : Nat} {t' : TypeId} {cs : List D} {m' : MObj} (hb : M b = some (.cells t' cs)) {h : Hd} {t : TypeId} {k : Nat} {xs : List D} (hr : rowAt M h t k xs) : rowAt (Za4 M b m') h t k xs := by
  match h, hr with
  | none, hr => exact hr
  | some (b', c), hr =>
    refine ⟨hr.1, ?_⟩;rw [ZbG]
    · exact hr.2
    · rintro rfl;have h2 := hr.2;rw [hb] at h2; cases h2
abbrev rawD (v : Value) : D := .raw v
def po0 : Po := ⟨⟨0, accZ, [], []⟩, 0, 0, none, [], 0⟩
def nd0 : Nd := ⟨itm0, none, [], none, [], false⟩
structure RowM where
  h : Hd
  t : TypeId
  k : Nat
  xs : List D
inductive RI where
  | e (i : Nat)
  | p (i : Nat)
  | q (j : Nat)
  | n
  | m
def rowOf (nb pb : Nat → Nat) (N : Net) : RI → RowM
  | .e i => ⟨(N.nd.getD i nd0).eh, 119, 2, (N.nd.getD i nd0).ef.map (efD pb)⟩
  | .p i => ⟨(N.nd.getD i nd0).ph, 165, 2, (N.nd.getD i nd0).pl.map (plD pb)⟩
  | .q j => ⟨(N.po.getD j po0).qh, 103, 1, (N.po.getD j po0).q.map fun i => ptrD (nb i)⟩
  | .n => ⟨N.nh, 103, 1, (List.range N.nd.length).map fun i => ptrD (nb i)⟩
  | .m => ⟨N.mh, 117, 1, (List.range N.po.length).map fun j => ptrD (pb j)⟩
def RowsM (M : MF) (R : RI → RowM) : Prop := (∀ r, rowAt M (R r).h (R r).t (R r).k (R r).xs) ∧ ∀ r r' b c c', (R r).h = some (b, c) → (R r').h = some (b, c') → r = r'
def mdelH (M : MF) : Hd → MF
  | none => M
  | some (b, _) => mdel_ M b
theorem RowsM.blk {M : MF} {R : RI → RowM} (h : RowsM M R) {r : RI} {b c : Nat} (hb : (R r).h = some (b, c)) : M b = some (.row (R r).t (R r).k c (R r).xs) := by
  have := h.1 r;rw [hb] at this; exact this.2
theorem mdelH_keep {M : MF} {h : Hd} {b : Nat} {m : MObj} (hm : M b = some m) (hne : ∀ c, h ≠ some (b, c)) : mdelH M h b = some m := by
  match h, hne with
  | none, _ => exact hm
  | some (b', c), hne =>
    show mdel_ M b' b = _;rw [mdel_ne (fun e => hne c (by rw [e]))]; exact hm
theorem keepM {M : MF} {h : Hd} {b b' : Nat} {m v : MObj} (hb : mdelH M h b = none) (hm : M b' = some m) (hne : ∀ c, h ≠ some (b', c)) : Za4 (mdelH M h) b v b' = some m := by
  have h1 := mdelH_keep hm hne;rw [ZbG]
  · exact h1
  · rintro rfl; rw [hb] at h1; cases h1
theorem RowsM.upd {M : MF} {R R' : RI → RowM} (h : RowsM M R) (r0 : RI) (hR : ∀ r, r ≠ r0 → R' r = R r) {b cap : Nat} (hb : mdelH M (R r0).h b = none) (h0 : (R' r0).h = some (b, cap)) (hl : (R' r0).xs.length ≤ cap) : RowsM (Za4 (mdelH M (R r0).h) b (.row (R' r0).t (R' r0).k cap (R' r0).xs)) R' := by
  have hother : ∀ r, r ≠ r0 → ∀ b' c, (R r).h = some (b', c) → b' ≠ b := fun r hr b' c hrb e => by
    have h1 := h.blk hrb;have h2 := mdelH_keep (h := (R r0).h) h1 fun c' hc' => hr (h.2 r r0 b' c c' hrb hc');rw [e, hb] at h2; cases h2
  refine ⟨fun r => ?_, fun r r' b1 c c' h1 h2 => ?_⟩
  · by_cases e : r = r0
    · subst e;rw [h0];exact ⟨hl, Zbx _ _ _⟩
    · rw [hR r e];have h1 := h.1 r
      cases hh : (R r).h with
      | none => rw [hh] at h1; exact h1
      | some p =>
        obtain ⟨b', c⟩ := p;rw [hh] at h1;exact ⟨h1.1, keepM hb h1.2 fun c' hc' => e (h.2 r r0 b' c c' hh hc')⟩
  · by_cases e : r = r0 <;> by_cases e' : r' = r0
    · rw [e, e']
    · exfalso
      subst e;rw [h0] at h1; injection h1 with h1; injection h1 with h1 _
      rw [hR r' e'] at h2;exact hother r' e' b1 c' h2 h1.symm
    · exfalso
      subst e';rw [h0] at h2; injection h2 with h2; injection h2 with h2 _
      rw [hR r e] at h1;exact hother r e b1 c h1 h2.symm
    · rw [hR r e] at h1; rw [hR r' e'] at h2;exact h.2 r r' b1 c c' h1 h2
theorem RowsM.cells {M : MF} {R : RI → RowM} (h : RowsM M R) {b : Nat} {t t' : TypeId} {cs cs' : List D} (_hb : M b = some (.cells t cs)) : RowsM (Za4 M b (.cells t' cs')) R :=
  ⟨fun r => rowAt_keep _hb (h.1 r), h.2⟩
structure Rep (wb mv : Nat) (nb pb : Nat → Nat) (N : Net) (M : MF) : Prop where
  n : ∀ (i : Nat) x, N.nd[i]? = some x → M (nb i) = some (ndM x)
  p : ∀ (j : Nat) y, N.po[j]? = some y → M (pb j) = some (poM y)
  rs : RowsM M (rowOf nb pb N)
  w : M wb = some (.cells 108 [hdr N.nh N.nd.length, hdr N.mh N.po.length, rawD (.map (some mv))])
  ni : ∀ i j : Nat, i < N.nd.length → j < N.nd.length → nb i = nb j → i = j
  pi : ∀ i j : Nat, i < N.po.length → j < N.po.length → pb i = pb j → i = j
  e : ∀ x ∈ N.nd, (∀ e ∈ x.ef, e.1 < N.po.length) ∧ ∀ e ∈ x.pl, e.1 < N.po.length
  q : ∀ y ∈ N.po, ∀ i ∈ y.q, i < N.nd.length
theorem getD_of {α : Type} {l : List α} {i : Nat} {x d : α} (h : l[i]? = some x) : l.getD i d = x := by rw [List.getD_eq_getElem?_getD, h]; rfl
theorem Rep.nn {wb mv : Nat} {nb pb : Nat → Nat} {N : Net} {M : MF} (h : Rep wb mv nb pb N M) (i : Nat) (x : Nd) (hx : N.nd[i]? = some x) : M (nb i) = some (ndM x) ∧ rowAt M x.eh 119 2 (x.ef.map (efD pb)) ∧ rowAt M x.ph 165 2 (x.pl.map (plD pb)) := by
  have h1 : rowAt M (N.nd.getD i nd0).eh 119 2 ((N.nd.getD i nd0).ef.map (efD pb)) := h.rs.1 (.e i);have h2 : rowAt M (N.nd.getD i nd0).ph 165 2 ((N.nd.getD i nd0).pl.map (plD pb)) := h.rs.1 (.p i);rw [getD_of hx] at h1 h2;exact ⟨h.n i x hx, h1, h2⟩
theorem Rep.pp {wb mv : Nat} {nb pb : Nat → Nat} {N : Net} {M : MF} (h : Rep wb mv nb pb N M) (j : Nat) (y : Po) (hy : N.po[j]? = some y) : M (pb j) = some (poM y) ∧ rowAt M y.qh 103 1 (y.q.map fun i => ptrD (nb i)) := by
  have h1 : rowAt M (N.po.getD j po0).qh 103 1 ((N.po.getD j po0).q.map fun i => ptrD (nb i)) := h.rs.1 (.q j);rw [getD_of hy] at h1;exact ⟨h.p j y hy, h1⟩
theorem Zcr {α : Type} {l : List α} {i : Nat} {x : α} (hi : i < l.length) (k : Nat) (d : α) : (l.set i x).getD k d = if k = i then x else l.getD k d := by
  rw [List.getD_eq_getElem?_getD, List.getElem?_set, List.getD_eq_getElem?_getD]
  by_cases e : k = i
  · subst e; simp [hi]
  · rw [if_neg (fun h => e h.symm), if_neg e]
theorem getD_self {α : Type} {l : List α} {i : Nat} {x : α} (hx : l[i]? = some x) (k : Nat) (d : α) : l.getD k d = if k = i then x else l.getD k d := by
  by_cases e : k = i
  · subst e; rw [if_pos rfl, getD_of hx]
  · rw [if_neg e]
theorem Rep.setPo {wb mv : Nat} {nb pb : Nat → Nat} {N : Net} {M : MF} (h : Rep wb mv nb pb N M) {j : Nat} {y y' : Po} (hy : N.po[j]? = some y) (hq : y'.q = y.q) (hqh : y'.qh = y.qh) : Rep wb mv nb pb { N with po := N.po.set j y' } (Za4 M (pb j) (poM y')) := by
  have hb := h.p j y hy;have hjl := (List.getElem?_eq_some_iff.1 hy).1
  have hR : rowOf nb pb { N with po := N.po.set j y' } = rowOf nb pb N := funext fun r => by
    cases r with
    | e i => rfl
    | p i => rfl
    | n => rfl
    | m => show (⟨_, _, _, (List.range (N.po.set j y').length).map _⟩ : RowM) = _; rw [List.length_set]; rfl
    | q k =>
      show (⟨((N.po.set j y').getD k po0).qh, _, _, ((N.po.set j y').getD k po0).q.map _⟩ : RowM) = ⟨(N.po.getD k po0).qh, _, _, (N.po.getD k po0).q.map _⟩
      rw [Zcr hjl, getD_self hy k po0]
      split
      · rw [hq, hqh]
      · rfl
  have hne : ∀ (b : Nat) (t : TypeId) (cs : List D), t ≠ 121 → M b = some (.cells t cs) → Za4 M (pb j) (poM y') b = some (.cells t cs) := fun b t cs ht hm => by
    rw [ZbG]
    · exact hm
    · rintro rfl; rw [hb] at hm; injection hm with hm; injection hm with hm; exact ht hm.symm
  refine ⟨fun i x hx => hne _ _ _ (by decide) (h.n i x hx), fun i z hz => ?_, by rw [hR]; exact h.rs.cells hb, ?_, h.ni, fun i k hi hk => h.pi i k (by simpa using hi) (by simpa using hk), fun x hx => ?_, fun z hz => ?_⟩
  · have hil : i < N.po.length := by have := (List.getElem?_eq_some_iff.1 hz).1; rw [List.length_set] at this; exact this
    have hz2 : (N.po.set j y')[i]? = some z := hz
    clear hz
    rw [List.getElem?_set] at hz2
    split at hz2
    · rename_i e; subst e
      have e2 : z = y' := (Option.some.inj hz2).symm;rw [e2]; exact Zbx _ _ _
    · rename_i e
      rw [ZbG]
      · exact h.p i z hz2
      · intro e2; exact e (h.pi i j hil hjl e2).symm
  · show Za4 M (pb j) (poM y') wb = some (.cells _ [hdr N.nh N.nd.length, hdr N.mh (N.po.set j y').length, _]);rw [List.length_set];exact hne _ _ _ (by decide) h.w
  · have := h.e x hx
    simpa using this
  · rcases List.mem_or_eq_of_mem_set hz with hz | rfl
    · exact h.q z hz
    · rw [hq]; exact h.q y (List.mem_of_getElem? hy)
theorem Rep.setNd {wb mv : Nat} {nb pb : Nat → Nat} {N : Net} {M : MF} (h : Rep wb mv nb pb N M) {i : Nat} {x x' : Nd} (hx : N.nd[i]? = some x) (h1 : x'.ef = x.ef) (h2 : x'.eh = x.eh) (h3 : x'.pl = x.pl) (h4 : x'.ph = x.ph) : Rep wb mv nb pb { N with nd := N.nd.set i x' } (Za4 M (nb i) (ndM x')) := by
  have hb := h.n i x hx;have hil := (List.getElem?_eq_some_iff.1 hx).1
  have hR : rowOf nb pb { N with nd := N.nd.set i x' } = rowOf nb pb N := funext fun r => by
    cases r with
    | q j => rfl
    | m => rfl
    | n => show (⟨_, _, _, (List.range (N.nd.set i x').length).map _⟩ : RowM) = _; rw [List.length_set]; rfl
    | e k =>
      show (⟨((N.nd.set i x').getD k nd0).eh, _, _, ((N.nd.set i x').getD k nd0).ef.map _⟩ : RowM) = ⟨(N.nd.getD k nd0).eh, _, _, (N.nd.getD k nd0).ef.map _⟩
      rw [Zcr hil, getD_self hx k nd0]
      split
      · rw [h1, h2]
      · rfl
    | p k =>
      show (⟨((N.nd.set i x').getD k nd0).ph, _, _, ((N.nd.set i x').getD k nd0).pl.map _⟩ : RowM) = ⟨(N.nd.getD k nd0).ph, _, _, (N.nd.getD k nd0).pl.map _⟩
      rw [Zcr hil, getD_self hx k nd0]
      split
      · rw [h3, h4]
      · rfl
  have hne : ∀ (b : Nat) (t : TypeId) (cs : List D), t ≠ 112 → M b = some (.cells t cs) → Za4 M (nb i) (ndM x') b = some (.cells t cs) := fun b t cs ht hm => by
    rw [ZbG]
    · exact hm
    · rintro rfl; rw [hb] at hm; injection hm with hm; injection hm with hm; exact ht hm.symm
  refine ⟨fun j z hz => ?_, fun j y hy => hne _ _ _ (by decide) (h.p j y hy), by rw [hR]; exact h.rs.cells hb, ?_, fun j k hj hk => h.ni j k (by simpa using hj) (by simpa using hk), h.pi, fun z hz => ?_, fun y hy => ?_⟩
  · have hjl : j < N.nd.length := by have := (List.getElem?_eq_some_iff.1 hz).1; rw [List.length_set] at this; exact this
    have hz2 : (N.nd.set i x')[j]? = some z := hz
    clear hz
    rw [List.getElem?_set] at hz2
    split at hz2
    · rename_i e; subst e
      have e2 : z = x' := (Option.some.inj hz2).symm;rw [e2]; exact Zbx _ _ _
    · rename_i e
      rw [ZbG]
      · exact h.n j z hz2
      · intro e2; exact e (h.ni j i hjl hil e2).symm
  · show Za4 M (nb i) (ndM x') wb = some (.cells _ [hdr N.nh (N.nd.set i x').length, hdr N.mh N.po.length, _]);rw [List.length_set];exact hne _ _ _ (by decide) h.w
  · rcases List.mem_or_eq_of_mem_set hz with hz | rfl
    · exact h.e z hz
    · rw [h1, h3]; exact h.e x (List.mem_of_getElem? hx)
  · have := h.q y hy
    simpa using this
abbrev HN (M : MF) : Hp := [(40, [.multi M])]
def aftP (y : Po) (c : Int) : Int := max y.room 0 + c
def ovP (y : Po) (c : Int) : Bool := decide (c < 0 ∧ aftP y c < 0)
set_option maxRecDepth 100000 in
theorem after_c {wb mv : Nat} {nb pb : Nat → Nat} {N : Net} {M : MF} (h : Rep wb mv nb pb N M) {j : Nat} {y : Po} (hy : N.po[j]? = some y) (c : Int) (hr : -1000000000000000000 ≤ y.room ∧ y.room ≤ 1000000000000000000) (hc : -2000000000000000000 ≤ c ∧ c ≤ 2000000000000000000) :
    ACalls Tryz.prog 57 [.d (pD (pb j) 0), .d (intD c)] (HN M) fun r H' => r = .d (intD (aftP y c)) ∧ H' = HN M := by
  have hp := h.p j y hy;have hm : (if 0 > y.room then 0 else y.room) = max y.room 0 := by rw [Int.max_def]; split <;> split <;> omega
  refine Zaz Tryz.func57 rfl rfl Tryz.ntmps57 rfl rfl rfl fun F hF => (Zaf (Zab (Zaa.go (Zad rfl rfl) (Zae (Zaf (Zab (Zaa.go (Zac rfl rfl) ?_)))))));refine Zaa.go (ZaD rfl rfl) (Zaa.go (ZaL rfl fi121_1 rfl rfl rfl) (Zaa.go (ZaY (f := 40) rfl rfl (hp) rfl on2 rfl) (Zaa.go (st_max rfl rfl (hm) rfl) (Zaa.go (Zac rfl rfl) (Zaa.go (Zay rfl rfl (IntWalk.i64_in _ (by omega)) rfl) (Zaa.go (Zad rfl rfl) (Zae (Zas ?_))))))));exact ⟨_, [40], _, Zao rfl, rfl, rfl, rfl, rfl⟩
set_option maxRecDepth 100000 in
theorem overdrawn_c {wb mv : Nat} {nb pb : Nat → Nat} {N : Net} {M : MF} (h : Rep wb mv nb pb N M) {j : Nat} {y : Po} (hy : N.po[j]? = some y) (c : Int) (hr : -1000000000000000000 ≤ y.room ∧ y.room ≤ 1000000000000000000) (hc : -2000000000000000000 ≤ c ∧ c ≤ 2000000000000000000) :
    ACalls Tryz.prog 56 [.d (pD (pb j) 0), .d (intD c)] (HN M) fun r H' => r = .d (boolD (ovP y c)) ∧ H' = HN M := by
  have ha := after_c h hy c hr hc;refine Zaz Tryz.func56 rfl rfl Tryz.ntmps56 rfl rfl rfl fun F hF => (Zaf ?_);refine Zab (Zaa.go (Zad rfl rfl) (Zae (Zaf (Zab (Zaa.go (Zac rfl rfl) (Zaa.go (ZaG rfl rfl rfl) (Zaa.go (Zac rfl rfl) (ZaT 7 rfl (fun h7 => ?_) (fun h7 => ?_)))))))))
  · refine Zam rfl rfl rfl (Zaa.go (Zac rfl rfl) (Zam rfl rfl rfl ?_));refine Zaa.go (Zac rfl rfl) (Zam rfl rfl rfl (Zal.go (Zbf ha rfl [40] ⟨rfl, trivial⟩ rfl rfl rfl rfl rfl rfl rfl rfl rfl) (Zam rfl rfl rfl (Zaa.go (ZaG rfl rfl rfl) (Zaa.go (Zaw rfl rfl rfl rfl) (Zaa.go (Zad rfl rfl) (Zae (Zas ?_))))))));exact ⟨_, [40], _, Zao rfl, rfl, rfl, retB3 (by unfold ovP; first | exact (decide_eq_false (by omega)).symm | exact decide_eq_decide.2 ⟨fun h => ⟨by omega, h⟩, fun h => h.2⟩), rfl⟩
  · refine Zak rfl rfl rfl rfl (Zak rfl rfl rfl rfl (Zak rfl rfl rfl rfl (Zak rfl rfl rfl rfl (Zaa.go (ZaB rfl rfl rfl rfl) (Zaa.go (Zad rfl rfl) (Zae (Zas ?_)))))));exact ⟨_, [40], _, Zao rfl, rfl, rfl, retB3 (by unfold ovP; first | exact (decide_eq_false (by omega)).symm | exact decide_eq_decide.2 ⟨fun h => ⟨by omega, h⟩, fun h => h.2⟩), rfl⟩
end Go.Proofs.YtneihdahboilnaaGreat
/- Layer 30: an item is removed. -/
namespace Go.Proofs.YtneihdahboilnaaGreat
open Go.RowKit

section
variable {P : Program} {F : Fr} {s : AS} {d : Nat} {x y : Operand} {T E : TypeId} {ty : TypeId} {pos : String} {aft : Array Edge} {g : Option (Nat × Bool)} {k : IntKind} {i : Int}
theorem ZbQ {h : Hd} {n : Nat} (hz : h = none → n = 0) (hx : s.ev x = some (.d (hdr h n))) (hT : P.underlying T = some (.slice E)) (hd : Nat.blt d s.n = true) :
    Zaa P F ⟨some d, .call { callee := .builtin .len, args := #[x], argTypes := #[T] }, ty, pos, aft, g⟩ s d (.d (intD (n : Int))) := by
  match h, hz, hx with
  | none, hz, hx =>
    have e := hz rfl;subst e;exact st_lenN (a := none) (n := 0) (cap := 0) hx hT hd
  | some (b, c), _, hx => exact st_lenN (a := some ⟨b, 0, none⟩) (n := n) (cap := c) hx hT hd
theorem ZbB {h : Hd} {b c n kk : Nat} (he : h = some (b, c)) (m : Nat) (hx : s.ev x = some (.d (hdr h n))) (hy : s.ev y = some (.d (.raw (.int k i)))) (hi : i = (m : Int)) (hm : m < n) (hT : P.underlying T = some (.slice E)) (hE : sizeTy P E kk = true) (hd : Nat.blt d s.n = true) :
    Zaa P F ⟨some d, .indexAddr T x y, ty, pos, aft, g⟩ s d (.d (pD b (m * kk))) := by
  subst he;exact st_indexN m hx hy hi hm hT hE hd
end
theorem Zbu {M : MF} {h : Hd} {t : TypeId} {k : Nat} {α : Type} {f : α → D} {l : List α} (hr : rowAt M h t k (l.map f)) : h = none → l.length = 0 := fun e => by
  subst e;have : l.map f = [] := hr
  simpa using this
theorem Zbs {M : MF} {h : Hd} {t : TypeId} {k : Nat} {α : Type} {f : α → D} {l : List α} (hr : rowAt M h t k (l.map f)) {j : Nat} (hj : j < l.length) : ∃ b c, h = some (b, c) := by
  cases h with
  | none => have := Zbu hr rfl; omega
  | some p => exact ⟨p.1, p.2, rfl⟩
theorem ZbA {M : MF} {h : Hd} {t : TypeId} {k : Nat} {xs : List D} (hr : rowAt M h t k xs) {b c : Nat} (he : h = some (b, c)) : M b = some (.row t k c xs) := by
  subst he; exact hr.2
def subE (po : List Po) (e : Nat × Int) : List Po := match po[e.1]? with
  | some y => po.set e.1 { y with sum := y.sum - e.2 }
  | none => po
def minE (po : List Po) (e : Nat × Nat) : List Po := match po[e.1]? with
  | some y => po.set e.1 { y with mi := min y.mi e.2 }
  | none => po
theorem subE_at {po : List Po} {e : Nat × Int} {y : Po} (h : po[e.1]? = some y) : subE po e = po.set e.1 { y with sum := y.sum - e.2 } := by unfold subE; rw [h]
theorem minE_at {po : List Po} {e : Nat × Nat} {y : Po} (h : po[e.1]? = some y) : minE po e = po.set e.1 { y with mi := min y.mi e.2 } := by unfold minE; rw [h]
def offN (x : Nd) : Nd := { x with on := false }
def rmN (N : Net) (i : Nat) (x : Nd) : Net := { N with nd := N.nd.set i (offN x), po := x.pl.foldl minE (x.ef.foldl subE N.po) }
theorem fold_snoc {α β : Type} {f : β → α → β} {l : List α} {k : Nat} (hk : k < l.length) (b : β) : (l.take (k + 1)).foldl f b = f ((l.take k).foldl f b) l[k] := by
  rw [List.take_succ_eq_append_getElem hk, List.foldl_append]; rfl
def sumB (po : List Po) (b : Int) : Prop := ∀ y ∈ po, -b ≤ y.sum ∧ y.sum ≤ b
theorem sumB_set {po : List Po} {b c : Int} (h : sumB po b) (hbc : b ≤ c) {j : Nat} {y : Po} (hy : -c ≤ y.sum ∧ y.sum ≤ c) : sumB (po.set j y) c := fun z hz => by
  rcases List.mem_or_eq_of_mem_set hz with hz | rfl
  · have := h z hz; omega
  · exact hy
set_option maxRecDepth 100000 in
theorem remove_c {wb mv : Nat} {nb pb : Nat → Nat} {N : Net} {M : MF} (h : Rep wb mv nb pb N M) {i : Nat} {x : Nd} (hx : N.nd[i]? = some x) (hB : sumB N.po 1000000000000000000) (he : ∀ e ∈ x.ef, -100000000000000000 ≤ e.2 ∧ e.2 ≤ 100000000000000000) (hel : x.ef.length ≤ 60) (hpl : x.pl.length ≤ 1000) (_hpb : ∀ e ∈ x.pl, e.2 ≤ 1000000) (hmb : ∀ y ∈ N.po, y.mi ≤ 1000000) :
    ACalls Tryz.prog 45 [.d (pD (nb i) 0)] (HN M) fun r H' => r = .tup [] ∧ ∃ M', H' = HN M' ∧ Rep wb mv nb pb (rmN N i x) M' := by
  have hxb := (h.nn i x hx).1;have hil := (List.getElem?_eq_some_iff.1 hx).1;have h1 := h.setNd (x' := offN x) hx rfl rfl rfl rfl;have hx1 : (N.nd.set i (offN x))[i]? = some (offN x) := by rw [List.getElem?_set_self hil]
  have hez := Zbu (h.nn i x hx).2.1;have hpz := Zbu (h.nn i x hx).2.2;have hxe := h.e x (List.mem_of_getElem? hx);refine Zaz Tryz.func45 rfl rfl Tryz.ntmps45 rfl rfl rfl fun F hF => (Zaf ?_);refine Zab (Zaa.go (Zac rfl rfl) (Zaa.go (ZaD rfl rfl) (Zaa.go (ZaL rfl fi112_3 rfl rfl rfl) (Zal.go (Zb9 (f := 40) rfl rfl rfl rfl (hxb) ((by show _ < 9; omega)) rfl sz4) (Zae (Zaf (Zaf (Zab ?_))))))));refine Zaa.go (Zac rfl rfl) (Zaa.go (ZaD rfl rfl) (Zaa.go (ZaL rfl fi112_1 rfl rfl rfl) (Zaa.go (ZaY (f := 40) rfl rfl ((Zbx _ _ _)) rfl on109 rfl) (Zaa.go (ZbQ hez rfl Tryz.underlying109 rfl) (Zaa.go (Zac rfl rfl) (Zae (Zar (ZaH (α := Nat × List Po × MF) (fun q => ⟨51, [(0, .d (pD (nb i) 0)), (12, (.d (hdr x.eh x.ef.length))), (13, (.d (intD (x.ef.length : Int)))), (14, (.d (intD (q.1 : Int))))], HN q.2.2⟩) (fun q => q.1 ≤ x.ef.length ∧ q.2.1 = (x.ef.take q.1).foldl subE N.po ∧ Rep wb mv nb pb { N with nd := N.nd.set i (offN x), po := q.2.1 } q.2.2 ∧ sumB q.2.1 (1000000000000000000 + 100000000000000000 * (q.1 : Int)) ∧ (∀ y ∈ q.2.1, y.mi ≤ 1000000) ∧ q.2.1.length = N.po.length) (fun q => x.ef.length - q.1) ((0, N.po, Za4 M (nb i) (ndM (offN x)))) (⟨Nat.zero_le _, rfl, h1, by show sumB N.po (1000000000000000000 + 100000000000000000 * ((0 : Nat) : Int)); simpa using hB, hmb, rfl⟩) (Zat hF [40] rfl rfl ⟨rfl, rfl, rfl, rfl, trivial⟩) ?_))))))));rintro ⟨k, po, M1⟩ ⟨hk0, hpo, hR, hS, hmi, hpol⟩;dsimp only at hk0 hpo hR hS hmi hpol ⊢;refine Zaf (Zab (Zaa.go (ZaG rfl rfl rfl) (Zae (Zaf (ZaE rfl (fun h15 => ?_) (fun h15 => ?_))))))
  · have hk1 : k < x.ef.length := ZaJ h15;refine Zaq (Zaf (Zar (Zaf ?_)));obtain ⟨eb, ec, hee⟩ := Zbs (h.nn i x hx).2.1 hk1;have hrow := ZbA (hR.nn i (offN x) hx1).2.1 hee;have hjl : x.ef[k].1 < po.length := by rw [hpol]; exact hxe.1 _ (List.getElem_mem hk1)
    obtain ⟨y, hy⟩ : ∃ y, po[x.ef[k].1]? = some y := ⟨_, List.getElem?_eq_getElem hjl⟩
    have hyb := hR.p _ y hy;have hys := hS y (List.mem_of_getElem? hy);have heb := he _ (List.getElem_mem hk1);refine Zab ?_;refine Zaa.go (ZbB hee (k) rfl rfl rfl hk1 Tryz.underlying109 sz119 rfl) (Zaa.go (st_loadRNS (f := 40) (e := k) rfl (rfl) rfl (hrow) (getm hk1) rfl rw119 rfl) (Zal.go (ZaR 1 zl119 rfl rfl rfl rfl) (Zal.go (ZaA rfl rfl rfl rfl rfl rfl rfl sz119) (Zae (ZaV [[], [0], [0, 1], [0, 1, 2], [0, 1, 2, 3], [], [5], [0, 1, 2, 3, 4, 5, 6], [0, 1, 2, 3, 4, 5, 6, 7], [0, 1, 2, 3, 4, 5, 6, 7, 8], [0, 1, 2, 3, 4, 5, 6, 7, 8, 9]] mixed rfl (dws (Zah [3] [] rfl rfl (fun _ => Zag (Zai rfl fi119_0 rfl rfl rfl)) (Zah [18] [1] rfl rfl (fun _ => Zag (Zaj rfl rfl rfl on117 rfl)) ?_))))))));refine Zah [19] [] rfl rfl (fun _ => Zag (ZaD rfl rfl)) (Zah [20] [] rfl rfl (fun _ => Zag (ZaL rfl fi121_2 rfl rfl rfl)) (Zah [21] [40] rfl rfl (fun _ => Zag (ZaY (f := 40) rfl rfl (hyb) rfl on2 rfl)) (Zah [3] [] rfl rfl (fun _ => Zag (Zai rfl fi119_1 rfl rfl rfl)) (Zah [23] [1] rfl rfl (fun _ => Zag (Zaj rfl rfl rfl on2 rfl)) (dwc 7 rfl rfl rfl (dw1 8 rfl rfl (Zaa.go (st_sub rfl rfl (IntWalk.i64_in _ (by omega)) rfl) (Zae ⟨rfl, ?_⟩))))))));refine dw1 9 rfl rfl (Zaa.go (ZaD rfl rfl) (Zae ⟨rfl, ?_⟩));refine dw1 10 rfl rfl (Zaa.go (ZaL rfl fi121_2 rfl rfl rfl) (Zae ⟨rfl, ?_⟩));refine dw1 11 rfl rfl (Zal.go (Zb9 (f := 40) rfl rfl rfl rfl (hyb) ((by show _ < 10; omega)) rfl sz2) (Zae ⟨rfl, ?_⟩));refine dwe (Zab (Zaa.go (Zay rfl rfl (wrapS (k + 1) (by omega)) rfl) (Zaa.go (Zac rfl rfl) (Zae ?_))));exact ⟨(k + 1, po.set x.ef[k].1 { y with sum := y.sum - x.ef[k].2 }, Za4 M1 (pb x.ef[k].1) (poM { y with sum := y.sum - x.ef[k].2 })), ⟨by show k + 1 ≤ _; omega, by show po.set _ _ = _; rw [fold_snoc hk1, ← hpo, subE_at hy], hR.setPo hy rfl rfl, by show sumB _ (1000000000000000000 + 100000000000000000 * ((k + 1 : Nat) : Int)); exact sumB_set hS (by omega) (by show _ ≤ y.sum - x.ef[k].2 ∧ y.sum - x.ef[k].2 ≤ _; omega), fun z hz => by rcases List.mem_or_eq_of_mem_set hz with hz | rfl; exact hmi z hz; exact hmi y (List.mem_of_getElem? hy), by show (po.set _ _).length = _; rw [List.length_set]; exact hpol⟩, by show x.ef.length - (k + 1) < x.ef.length - k; omega, Zat hF [40] rfl (rfl) ⟨rfl, rfl, rfl, rfl, trivial⟩⟩
  · refine ZaI (Zaf ?_);have hpo1 : po = x.ef.foldl subE N.po := by rw [hpo, List.take_of_length_le (by have h := h15; omega)]
    have hxb1 := (hR.nn i (offN x) hx1).1;refine Zab ?_;refine Zaa.go (Zac rfl rfl) (Zaa.go (ZaD rfl rfl) (Zaa.go (ZaL rfl fi112_2 rfl rfl rfl) (Zaa.go (ZaY (f := 40) rfl rfl (hxb1) rfl on110 rfl) (Zaa.go (ZbQ hpz rfl Tryz.underlying110 rfl) (Zaa.go (Zac rfl rfl) (Zae (Zar (ZaH (α := Nat × List Po × MF) (fun q => ⟨51, [(32, (.d (hdr x.ph x.pl.length))), (33, (.d (intD (x.pl.length : Int)))), (34, (.d (intD (q.1 : Int))))], HN q.2.2⟩) (fun q => q.1 ≤ x.pl.length ∧ q.2.1 = (x.pl.take q.1).foldl minE (x.ef.foldl subE N.po) ∧ Rep wb mv nb pb { N with nd := N.nd.set i (offN x), po := q.2.1 } q.2.2 ∧ (∀ y ∈ q.2.1, y.mi ≤ 1000000) ∧ q.2.1.length = N.po.length) (fun q => x.pl.length - q.1) ((0, po, M1)) (⟨Nat.zero_le _, hpo1, hR, hmi, hpol⟩) (Zat hF [40] rfl rfl ⟨rfl, rfl, rfl, trivial⟩) ?_))))))));rintro ⟨j, po2, M2⟩ ⟨hj0, hpo2, hR2, hmi2, hpol2⟩;dsimp only at hj0 hpo2 hR2 hmi2 hpol2 ⊢;refine Zaf (Zab (Zaa.go (ZaG rfl rfl rfl) (Zae (Zaf (ZaE rfl (fun h35 => ?_) (fun h35 => ?_))))))
    · have hj1 : j < x.pl.length := ZaJ h35;refine Zaq (Zaf (Zar (Zaf ?_)));obtain ⟨pbk, pcc, hpe⟩ := Zbs (h.nn i x hx).2.2 hj1;have hrow2 := ZbA (hR2.nn i (offN x) hx1).2.2 hpe;have hjl2 : x.pl[j].1 < po2.length := by rw [hpol2]; exact hxe.2 _ (List.getElem_mem hj1)
      obtain ⟨z, hz⟩ : ∃ z, po2[x.pl[j].1]? = some z := ⟨_, List.getElem?_eq_getElem hjl2⟩
      have hzb := hR2.p _ z hz;have hzm := hmi2 z (List.mem_of_getElem? hz);have hmin : (if ((x.pl[j].2 : Nat) : Int) < ((z.mi : Nat) : Int) then ((x.pl[j].2 : Nat) : Int) else ((z.mi : Nat) : Int)) = ((min z.mi x.pl[j].2 : Nat) : Int) := by split <;> omega
      refine Zab (Zaa.go (ZbB hpe (j) rfl rfl rfl hj1 Tryz.underlying110 sz165 rfl) (Zaa.go (st_loadRNS (f := 40) (e := j) rfl (rfl) rfl (hrow2) (getm hj1) rfl rw165 rfl) (Zal.go (ZaR 2 zl165 rfl rfl rfl rfl) ?_)));refine Zal.go (ZaA rfl rfl rfl rfl rfl rfl rfl sz165) (Zae (ZaV [[], [0], [], [2], [2, 3], [2, 3, 4], [2, 3, 4, 5], [], [7], [2, 3, 4, 5, 6, 7, 8], [0, 1, 2, 3, 4, 5, 6, 7, 8, 9], [0, 1, 2, 3, 4, 5, 6, 7, 8, 9, 10], [0, 1, 2, 3, 4, 5, 6, 7, 8, 9, 10, 11]] mixed rfl (dws (Zah [5] [] rfl rfl (fun _ => Zag (Zai rfl fi165_0 rfl rfl rfl)) (Zah [38] [2] rfl rfl (fun _ => Zag (Zaj rfl rfl rfl on117 rfl)) (Zah [5] [] rfl rfl (fun _ => Zag (Zai rfl fi165_0 rfl rfl rfl)) (Zah [40] [2] rfl rfl (fun _ => Zag (Zaj rfl rfl rfl on117 rfl)) (Zah [41] [] rfl rfl (fun _ => Zag (ZaD rfl rfl)) ?_))))))));refine Zah [42] [] rfl rfl (fun _ => Zag (ZaL rfl fi121_4 rfl rfl rfl)) (Zah [43] [40] rfl rfl (fun _ => Zag (ZaY (f := 40) rfl rfl (hzb) rfl on3 rfl)) (Zah [5] [] rfl rfl (fun _ => Zag (Zai rfl fi165_1 rfl rfl rfl)) (Zah [45] [2] rfl rfl (fun _ => Zag (Zaj rfl rfl rfl on3 rfl)) (Zah [44, 46] [] rfl rfl (fun _ => Zag (st_min rfl rfl (hmin) rfl)) (dwc 10 rfl rfl rfl (dw1 11 rfl rfl (Zaa.go (ZaD rfl rfl) (Zae ⟨rfl, ?_⟩))))))));refine dw1 12 rfl rfl (Zaa.go (ZaL rfl fi121_4 rfl rfl rfl) (Zae ⟨rfl, ?_⟩));refine dw1 13 rfl rfl (Zal.go (Zb9 (f := 40) rfl rfl rfl rfl (hzb) ((by show _ < 10; omega)) rfl sz3) (Zae ⟨rfl, ?_⟩));refine dwe ?_;skip;refine Zab (Zaa.go (Zay rfl rfl (wrapS (j + 1) (by omega)) rfl) (Zaa.go (Zac rfl rfl) (Zae ?_)));exact ⟨(j + 1, po2.set x.pl[j].1 { z with mi := min z.mi x.pl[j].2 }, Za4 M2 (pb x.pl[j].1) (poM { z with mi := min z.mi x.pl[j].2 })), ⟨by show j + 1 ≤ _; omega, by show po2.set _ _ = _; rw [fold_snoc hj1, ← hpo2, minE_at hz], hR2.setPo hz rfl rfl, fun w hw => by rcases List.mem_or_eq_of_mem_set hw with hw | rfl; exact hmi2 w hw; show min z.mi _ ≤ _; omega, by show (po2.set _ _).length = _; rw [List.length_set]; exact hpol2⟩, by show x.pl.length - (j + 1) < x.pl.length - j; omega, Zat hF [40] rfl (rfl) ⟨rfl, rfl, rfl, trivial⟩⟩
    · refine ZaI ?_;have hpo3 : po2 = x.pl.foldl minE (x.ef.foldl subE N.po) := by rw [hpo2, List.take_of_length_le (by have h := h35; omega)]
      exact ⟨_, [40], _, Zao rfl, rfl, rfl, rfl, M2, rfl, by unfold rmN; rw [← hpo3]; exact hR2⟩
end Go.Proofs.YtneihdahboilnaaGreat
/- Layer 30: why an item is not admissible. -/
namespace Go.Proofs.YtneihdahboilnaaGreat
open Go.RowKit

def idsN (N : Net) : List Int := N.nd.map fun x => x.it.id
def byL (nb : Nat → Nat) (ids : List Int) : List (Int × Value) := (List.range ids.length).map fun i => (ids.getD i 0, pV (nb i) 0)
theorem byL_get {nb : Nat → Nat} {ids : List Int} (hn : ids.Nodup) {i : Nat} (hi : i < ids.length) : mget (byL nb ids) ids[i] (.pointer none) = pV (nb i) 0 := by
  refine ZbU ?_ (List.mem_map.2 ⟨i, List.mem_range.2 hi, by rw [ZaK 0 hi]⟩)
  have : (byL nb ids).map Prod.fst = ids := by
    unfold byL;rw [List.map_map];refine List.ext_getElem (by simp) fun j h1 h2 => ?_;simp only [List.getElem_map, List.getElem_range, Function.comp];exact ZaK 0 h2
  rw [this]; exact hn
abbrev HW (mv : Nat) (bs : Option (List Nat × Nat)) (L : List (Int × Value)) (M : MF) : Hp := [(40, [.multi M]), (50, [.map bs (ents intD rawD L)]), (51, [.addr 50 0 (.map (some mv))])]
structure Exc where
  id : Int
  re : Int
  r : Rsc
  by_ : Int
def rscZ : Rsc := ⟨0, accZ, [], []⟩
def exc0 : Exc := ⟨0, 0, rscZ, 0⟩
abbrev excD (e : Exc) : D := .agg [intD e.id, intD e.re, intD e.r.k, strD e.r.acc.o, intD e.r.acc.k, strD e.r.acc.a, strD e.r.f, strD e.r.t, intD e.by_]
abbrev excR (o : Option Exc) : D := .tup [excD (o.getD exc0), boolD o.isSome]
def badP (N : Net) (e : Nat × Nat) : Bool := decide ((N.po.getD e.1 po0).mi < e.2)
def excQ (N : Net) (x : Nd) (e : Nat × Nat) : Exc := ⟨x.it.id, 1, (N.po.getD e.1 po0).r, (N.nd.getD ((N.po.getD e.1 po0).q.getD (N.po.getD e.1 po0).mi 0) nd0).it.id⟩
def offOf (N : Net) (id : Int) : Bool := !(N.nd.getD ((idsN N).idxOf id) nd0).on
def inadm (N : Net) (x : Nd) : Option Exc := match x.pl.find? (badP N) with
  | some e => some (excQ N x e)
  | none => match x.it.af.find? (offOf N) with
    | some id => some ⟨x.it.id, 2, rscZ, id⟩
    | none => none
theorem find_at {α : Type} {p : α → Bool} : ∀ {l : List α} {k : Nat} (hk : k < l.length), (∀ x ∈ l.take k, p x = false) → p l[k] = true → l.find? p = some l[k]
  | a :: l, 0, _, _, h => by simp at h; simp [h]
  | a :: l, k + 1, hk, h0, h => by
    have h1 : p a = false := h0 a (by simp);have ih := find_at (l := l) (k := k) (by simpa using hk) (fun x hx => h0 x (by simp [hx])) (by simpa using h);rw [List.find?_cons, h1]; simpa using ih
theorem Zco {α : Type} {p : α → Bool} {l : List α} (h : ∀ x ∈ l, p x = false) : l.find? p = none := List.find?_eq_none.2 fun x hx => by rw [h x hx]; simp
structure NetW (N : Net) : Prop where
  i : (idsN N).Nodup
  a : ∀ x ∈ N.nd, ∀ id ∈ x.it.af, id ∈ idsN N
  l : ∀ x ∈ N.nd, x.ef.length ≤ 60 ∧ x.pl.length ≤ 1000 ∧ x.it.af.length ≤ 1000
  e : ∀ x ∈ N.nd, ∀ e ∈ x.ef, -100000000000000000 ≤ e.2 ∧ e.2 ≤ 100000000000000000
  p : ∀ x ∈ N.nd, ∀ e ∈ x.pl, e.2 < (N.po.getD e.1 po0).q.length ∧ e.2 ≤ 1000000
  m : ∀ y ∈ N.po, y.mi ≤ 1000000
  rm : ∀ y ∈ N.po, -1000000000000000000 ≤ y.room ∧ y.room ≤ 1000000000000000000
  n : N.nd.length ≤ 1000 ∧ N.po.length ≤ 1000
  ql : ∀ y ∈ N.po, y.q.length ≤ 1000
set_option maxRecDepth 100000 in
set_option maxHeartbeats 1000000 in
theorem inadm_c {wb mv : Nat} {nb pb : Nat → Nat} {N : Net} {M : MF} (bs : Option (List Nat × Nat)) (h : Rep wb mv nb pb N M) (hw : NetW N) {i : Nat} {x : Nd} (hx : N.nd[i]? = some x) :
    ACalls Tryz.prog 78 [.d (pD wb 0), .d (pD (nb i) 0)] (HW mv bs (byL nb (idsN N)) M) fun r H' => r = .d (excR (inadm N x)) ∧ H' = HW mv bs (byL nb (idsN N)) M := by
  have hwb := h.w;have hxm := List.mem_of_getElem? hx;obtain ⟨hxb, hre, hrp⟩ := h.nn i x hx;have hpz := Zbu hrp;obtain ⟨_, hpl, hafl⟩ := hw.l x hxm;have hxe := h.e x hxm;have hxp := hw.p x hxm;have hxa := hw.a x hxm;refine Zaz Tryz.func78 rfl rfl Tryz.ntmps78 rfl rfl rfl fun F hF => (Zaf (Zab (Zal.go (ZaR 1 zl53 rfl rfl rfl rfl) (Zaa.go (Zad rfl rfl) (Zae (Zaf (Zaf (Zab ?_))))))));refine Zaa.go (Zac rfl rfl) (Zaa.go (ZaD rfl rfl) (Zaa.go (ZaL rfl fi112_2 rfl rfl rfl) (Zaa.go (ZaY (f := 40) rfl rfl (hxb) rfl on110 rfl) (Zaa.go (ZbQ hpz rfl Tryz.underlying110 rfl) (Zaa.go (Zac rfl rfl) (Zae (Zar (ZaH (α := Nat) (fun k => ⟨85, [(0, .d (pD wb 0)), (1, .d (pD (nb i) 0)), (4, (.ptr 1 0 0)), (13, (.d (hdr x.ph x.pl.length))), (14, (.d (intD (x.pl.length : Int)))), (15, (.d (intD (k : Int))))], (1, [.blk 53 [.d (intD 0), .d (intD 0), .d (intD 0), .d (strD []), .d (intD 0), .d (strD []), .d (strD []), .d (strD []), .d (intD 0)]]) :: HW mv bs (byL nb (idsN N)) M⟩) (fun k => k ≤ x.pl.length ∧ ∀ e ∈ x.pl.take k, badP N e = false) (fun k => x.pl.length - k) (0) (⟨Nat.zero_le _, by simp⟩) (Zat hF [1, 40, 50, 51] rfl rfl ⟨rfl, rfl, rfl, rfl, rfl, rfl, trivial⟩) ?_))))))));rintro k ⟨hk0, hkb⟩;refine Zaf (Zab (Zaa.go (ZaG rfl rfl rfl) (Zae (Zaf (ZaE rfl (fun h16 => ?_) (fun h16 => ?_))))))
  · have hk1 : k < x.pl.length := ZaJ h16;refine Zaq (Zaf (Zar (Zaf ?_)));obtain ⟨eb, ec, hee⟩ := Zbs hrp hk1;have hrow := ZbA hrp hee;have hjl : x.pl[k].1 < N.po.length := hxe.2 _ (List.getElem_mem hk1)
    obtain ⟨y, hy⟩ : ∃ y, N.po[x.pl[k].1]? = some y := ⟨_, List.getElem?_eq_getElem hjl⟩
    have hgy : N.po.getD x.pl[k].1 po0 = y := by rw [List.getD_eq_getElem?_getD, hy]; rfl
    obtain ⟨hyb, hyq⟩ := h.pp _ y hy;have hpk := hxp _ (List.getElem_mem hk1);rw [hgy] at hpk;refine Zab (Zaa.go (ZbB hee (k) rfl rfl rfl hk1 Tryz.underlying110 sz165 rfl) ?_);refine Zaa.go (st_loadRNS (f := 40) (e := k) rfl (rfl) rfl (hrow) (getm hk1) rfl rw165 rfl) (Zal.go (ZaR 2 zl165 rfl rfl rfl rfl) (Zal.go (ZaA rfl rfl rfl rfl rfl rfl rfl sz165) (Zae (Zaf (ZaV [[], [0], [0, 1], [0, 1, 2], [0, 1, 2, 3], [], [5], [0, 1, 2, 3, 4, 5, 6]] mixed rfl (dws (Zah [7] [] rfl rfl (fun _ => Zag (Zai rfl fi165_0 rfl rfl rfl)) (Zah [19] [2] rfl rfl (fun _ => Zag (Zaj rfl rfl rfl on117 rfl)) ?_))))))));refine Zah [20] [] rfl rfl (fun _ => Zag (ZaD rfl rfl)) (Zah [21] [] rfl rfl (fun _ => Zag (ZaL rfl fi121_4 rfl rfl rfl)) (Zah [22] [40] rfl rfl (fun _ => Zag (ZaY (f := 40) rfl rfl (hyb) rfl on3 rfl)) (Zah [7] [] rfl rfl (fun _ => Zag (Zai rfl fi165_1 rfl rfl rfl)) (Zah [24] [2] rfl rfl (fun _ => Zag (Zaj rfl rfl rfl on3 rfl)) (dwc 7 rfl rfl rfl (dw1 8 rfl rfl (Zaa.go (ZaG rfl rfl rfl) (Zae ⟨rfl, ?_⟩))))))));refine dwe (ZaE rfl (fun h26 => ?_) (fun h26 => ?_))
    · refine Zaf ?_;have hmq : y.mi < y.q.length := by have h := h26; omega
      obtain ⟨qb, qc, hqe⟩ := Zbs hyq hmq;have hqrow := ZbA hyq hqe;have hni : y.q[y.mi] < N.nd.length := h.q y (List.mem_of_getElem? hy) _ (List.getElem_mem hmq)
      obtain ⟨z, hz⟩ : ∃ z, N.nd[y.q[y.mi]]? = some z := ⟨_, List.getElem?_eq_getElem hni⟩
      obtain ⟨hzb, _, _⟩ := h.nn _ z hz;have hbad : inadm N x = some ⟨x.it.id, 1, y.r, z.it.id⟩ := by unfold inadm; rw [find_at hk1 hkb (by unfold badP; rw [hgy]; exact decide_eq_true (by have h := h26; omega))]; unfold excQ; dsimp only; rw [hgy, ZaK 0 hmq, List.getD_eq_getElem?_getD, hz]; rfl
      refine ZaV [[], [0], [0, 1], [0, 1, 2], [0, 1, 2, 3], [], [5], [5, 6], [5, 6, 7], [5, 6, 7, 8], [], [10], [10, 11], [10, 11, 12], [10, 11, 12, 13], [], [15], [15, 16], [15, 16, 17], [15, 16, 17, 18], [10, 11, 12, 13, 14, 15, 16, 17, 18, 19], [10, 11, 12, 13, 14, 15, 16, 17, 18, 19, 20], [10, 11, 12, 13, 14, 15, 16, 17, 18, 19, 20, 21], [10, 11, 12, 13, 14, 15, 16, 17, 18, 19, 20, 21, 22], [10, 11, 12, 13, 14, 15, 16, 17, 18, 19, 20, 21, 22, 23], [10, 11, 12, 13, 14, 15, 16, 17, 18, 19, 20, 21, 22, 23, 24], [0, 1, 2, 3, 4, 5, 6, 7, 8, 9, 10, 11, 12, 13, 14, 15, 16, 17, 18, 19, 20, 21, 22, 23, 24, 25], [0, 1, 2, 3, 4, 5, 6, 7, 8, 9, 10, 11, 12, 13, 14, 15, 16, 17, 18, 19, 20, 21, 22, 23, 24, 25, 26], [0, 1, 2, 3, 4, 5, 6, 7, 8, 9, 10, 11, 12, 13, 14, 15, 16, 17, 18, 19, 20, 21, 22, 23, 24, 25, 26, 27]] mixed rfl (dws (Zah [1] [] rfl rfl (fun _ => Zag (Zac rfl rfl)) (Zah [27] [] rfl rfl (fun _ => Zag (ZaD rfl rfl)) (Zah [28] [] rfl rfl (fun _ => Zag (ZaL rfl fi112_0 rfl rfl rfl)) ?_))));refine Zah [29] [] rfl rfl (fun _ => Zag (ZaL rfl ZbP rfl rfl rfl)) (Zah [30] [40] rfl rfl (fun _ => Zag (ZaY (f := 40) rfl rfl (hxb) rfl on3 rfl)) (Zah [7] [] rfl rfl (fun _ => Zag (Zai rfl fi165_0 rfl rfl rfl)) (Zah [32] [2] rfl rfl (fun _ => Zag (Zaj rfl rfl rfl on117 rfl)) (Zah [33] [] rfl rfl (fun _ => Zag (ZaD rfl rfl)) (Zah [34] [] rfl rfl (fun _ => Zag (ZaL rfl fi121_0 rfl rfl rfl)) (Zah [35] [40] rfl rfl (fun _ => Zag (st_loadNS (f := 40) rfl rfl (hyb) rw51 rfl rfl (by simp [D.one]) rfl)) (Zah [7] [] rfl rfl (fun _ => Zag (Zai rfl fi165_0 rfl rfl rfl)) (Zah [37] [2] rfl rfl (fun _ => Zag (Zaj rfl rfl rfl on117 rfl)) ?_))))))));refine Zah [38] [] rfl rfl (fun _ => Zag (ZaD rfl rfl)) (Zah [39] [] rfl rfl (fun _ => Zag (ZaL rfl fi121_3 rfl rfl rfl)) (Zah [40] [40] rfl rfl (fun _ => Zag (ZaY (f := 40) rfl rfl (hyb) rfl on104 rfl)) (Zah [7] [] rfl rfl (fun _ => Zag (Zai rfl fi165_0 rfl rfl rfl)) (Zah [42] [2] rfl rfl (fun _ => Zag (Zaj rfl rfl rfl on117 rfl)) (Zah [43] [] rfl rfl (fun _ => Zag (ZaD rfl rfl)) (Zah [44] [] rfl rfl (fun _ => Zag (ZaL rfl fi121_4 rfl rfl rfl)) (Zah [45] [40] rfl rfl (fun _ => Zag (ZaY (f := 40) rfl rfl (hyb) rfl on3 rfl)) (Zah [41, 46] [] rfl rfl (fun _ => Zag (ZbB hqe (y.mi) rfl rfl rfl hmq Tryz.underlying104 sz103 rfl)) ?_))))))));refine Zah [47] [40] rfl rfl (fun _ => Zag (Zca (f := 40) (e := y.mi) (off := 0) rfl (by omega) rfl (hqrow) (getm hmq) rfl on103 rfl)) (Zah [48] [] rfl rfl (fun _ => Zag (ZaD rfl rfl)) (Zah [49] [] rfl rfl (fun _ => Zag (ZaL rfl fi112_0 rfl rfl rfl)) (Zah [50] [] rfl rfl (fun _ => Zag (ZaL rfl ZbP rfl rfl rfl)) (Zah [51] [40] rfl rfl (fun _ => Zag (ZaY (f := 40) rfl rfl (hzb) rfl on3 rfl)) (dwc 26 rfl rfl rfl (dw1 27 rfl rfl (Zaa.go (Za0 zl53 pl53 rfl rfl rfl) (Zae ⟨rfl, ?_⟩))))))));refine dw1 28 rfl rfl (Zal.go (ZaA rfl rfl rfl rfl rfl rfl rfl sz53) (Zae ⟨rfl, ?_⟩));refine dw1 29 rfl rfl (Zaa.go (Zad rfl rfl) (Zae ⟨rfl, ?_⟩));refine dwe (Zas ?_);exact ⟨_, [40, 50, 51], _, Zao rfl, rfl, rfl, by rw [hbad]; rfl, rfl⟩
    · refine Zaq (Zab (Zaa.go (Zay rfl rfl (wrapS (k + 1) (by omega)) rfl) (Zaa.go (Zac rfl rfl) (Zae ?_))));exact ⟨k + 1, ⟨by show k + 1 ≤ _; omega, by rw [List.take_succ_eq_append_getElem hk1]; intro e he; rcases List.mem_append.1 he with he | he; exact hkb e he; rw [List.mem_singleton.1 he]; unfold badP; rw [hgy]; exact decide_eq_false (by have h := h26; omega)⟩, by show x.pl.length - (k + 1) < x.pl.length - k; omega, Zat hF [1, 40, 50, 51] rfl (rfl) ⟨rfl, rfl, rfl, rfl, rfl, rfl, trivial⟩⟩
  · refine ZaI (Zaf (Zaf ?_));have hpn : x.pl.find? (badP N) = none := Zco (by have e : k = x.pl.length := (by have h := h16; omega); rw [e, List.take_length] at hkb; exact hkb);refine Zab (Zaa.go (Zac rfl rfl) ?_);refine Zaa.go (ZaD rfl rfl) (Zaa.go (ZaL rfl fi112_0 rfl rfl rfl) (Zaa.go (ZaL rfl fi91_5 rfl rfl rfl) (Zaa.go (ZaY (f := 40) rfl rfl (hxb) rfl on28 rfl) (Zaa.go (Zax rfl Tryz.underlying28 rfl) (Zaa.go (Zac rfl rfl) (Zae (Zar (ZaH (α := Nat) (fun j => ⟨85, [(0, .d (pD wb 0)), (1, .d (pD (nb i) 0)), (4, (.ptr 1 0 0)), (59, (.d (.sl none (x.it.af.map intD)))), (60, (.d (intD (x.it.af.length : Int)))), (61, (.d (intD (j : Int))))], (1, [.blk 53 [.d (intD 0), .d (intD 0), .d (intD 0), .d (strD []), .d (intD 0), .d (strD []), .d (strD []), .d (strD []), .d (intD 0)]]) :: HW mv bs (byL nb (idsN N)) M⟩) (fun j => j ≤ x.it.af.length ∧ ∀ id ∈ x.it.af.take j, offOf N id = false) (fun j => x.it.af.length - j) (0) (⟨Nat.zero_le _, by simp⟩) (Zat hF [1, 40, 50, 51] rfl rfl ⟨rfl, rfl, rfl, rfl, rfl, rfl, trivial⟩) ?_))))))));rintro j ⟨hj0, hjb⟩;refine Zaf (Zab (Zaa.go (ZaG rfl rfl rfl) (Zae (Zaf (ZaE rfl (fun h62 => ?_) (fun h62 => ?_))))))
    · have hj1 : j < x.it.af.length := ZaJ h62;refine Zaq (Zaf (Zar (Zaf ?_)));have hidm := hxa _ (List.getElem_mem hj1);have hil := List.idxOf_lt_length_of_mem hidm;have hil2 : (idsN N).idxOf x.it.af[j] < N.nd.length := by unfold idsN at hil ⊢; rw [List.length_map] at hil; exact hil
      obtain ⟨z, hz⟩ : ∃ z, N.nd[(idsN N).idxOf x.it.af[j]]? = some z := ⟨_, List.getElem?_eq_getElem hil2⟩
      have hgz : N.nd.getD ((idsN N).idxOf x.it.af[j]) nd0 = z := by rw [List.getD_eq_getElem?_getD, hz]; rfl
      obtain ⟨hzb, _, _⟩ := h.nn _ z hz;have hby := byL_get (nb := nb) hw.i hil;rw [List.getElem_idxOf hil] at hby;refine Zab (Zaa.go (Zav (j) rfl rfl (rfl) (getm hj1) Tryz.underlying28 rfl sz3 rfl) ?_);refine Zaa.go (ZaF rfl rfl on3 rfl) (Zaa.go (Zad rfl rfl) (Zae (Zaf (Zab (Zaa.go (Zac rfl rfl) (Zaa.go (ZaD rfl rfl) (Zaa.go (ZaL rfl fi108_2 rfl rfl rfl) (Zaa.go (ZaY (f := 40) rfl rfl (hwb) rfl on106 rfl) ?_))))))));refine o_rawMap 68 51 0 rfl rfl (Zaa.go (Zac rfl rfl) (Zaa.go (Zbw (byL nb (idsN N)) x.it.af[j] (.pointer none) (pV (nb ((idsN N).idxOf x.it.af[j])) 0) rfl rfl rfl mt106 kt3 za103 hby rfl) (Zaa.go (ZaD rfl rfl) (Zaa.go (ZaL rfl fi112_3 rfl rfl rfl) (Zaa.go (ZaY (f := 40) rfl rfl (hzb) rfl on4 rfl) (Zaa.go (Za8 rfl rfl) (Zae (Zby rfl (fun h74 => ?_) (fun h74 => ?_)))))))))
      · refine Zaf (Zab (Zaa.go (Zac rfl rfl) (Zaa.go (ZaD rfl rfl) (Zaa.go (ZaL rfl fi112_0 rfl rfl rfl) ?_))));refine Zaa.go (ZaL rfl ZbP rfl rfl rfl) (Zaa.go (ZaY (f := 40) rfl rfl (hxb) rfl on3 rfl) (Zaa.go (Za0 zl51 pl51 rfl rfl rfl) (Zaa.go (Zac rfl rfl) (Zaa.go (Za0 zl53 pl53 rfl rfl rfl) (Zal.go (ZaA rfl rfl rfl rfl rfl rfl rfl sz53) (Zaa.go (Zad rfl rfl) (Zae (Zas ?_))))))));exact ⟨_, [40, 50, 51], _, Zao rfl, rfl, rfl, by unfold inadm; rw [hpn]; dsimp only; rw [find_at hj1 hjb (by unfold offOf; rw [hgz]; simpa using h74)]; rfl, rfl⟩
      · refine Zaq (Zab (Zaa.go (Zay rfl rfl (wrapS (j + 1) (by omega)) rfl) (Zaa.go (Zac rfl rfl) (Zae ?_))));exact ⟨j + 1, ⟨by show j + 1 ≤ _; omega, by rw [List.take_succ_eq_append_getElem hj1]; intro e he; rcases List.mem_append.1 he with he | he; exact hjb e he; rw [List.mem_singleton.1 he]; unfold offOf; rw [hgz]; simpa using h74⟩, by show x.it.af.length - (j + 1) < x.it.af.length - j; omega, Zat hF [1, 40, 50, 51] rfl (rfl) ⟨rfl, rfl, rfl, rfl, rfl, rfl, trivial⟩⟩
    · refine ZaI (Zaf (Zab (Zaa.go (Za0 zl53 pl53 rfl rfl rfl) (Zal.go (ZaA rfl rfl rfl rfl rfl rfl rfl sz53) (Zaa.go (Zad rfl rfl) (Zae (Zas ?_)))))));exact ⟨_, [40, 50, 51], _, Zao rfl, rfl, rfl, by unfold inadm; rw [hpn]; dsimp only; rw [Zco (by have e : j = x.it.af.length := (by have h := h62; omega); rw [e, List.take_length] at hjb; exact hjb)]; rfl, rfl⟩
end Go.Proofs.YtneihdahboilnaaGreat
/- Layer 30: queues from behind. -/
namespace Go.Proofs.YtneihdahboilnaaGreat
open Go.RowKit

abbrev fBack : FuncId := 101
set_option maxRecDepth 100000 in
theorem backF_c (h : Hd) (n : Nat) : ACalls Tryz.prog 79 [.d (hdr h n)] [] fun r H' => r = .fn fBack [.d (.ptr (hdr h n))] ∧ H' = [] := by
  refine Zaz Tryz.func79 rfl rfl Tryz.ntmps79 rfl rfl rfl fun F hF => (Zaf (Zab (Zal.go (ZaO 1 rfl rfl rfl rfl rfl rfl rfl) ?_)));refine Zaa.go (Zad rfl rfl) (Zae (Zaf (Zab (o_freezeB 1 1 (hdr h n) [] hF rfl rfl rfl (by intro c hc; simp [D.cells] at hc; subst hc; rfl) rfl rfl rfl (Zaa.go (Zcw rfl rfl) (Zaa.go (Zad rfl rfl) (Zae (Zas ?_))))))));exact ⟨_, [], [], Zao rfl, rfl, rfl, rfl, rfl⟩
def revL (q : List Nat) : Nat → List (Nat × Nat)
  | 0 => []
  | c + 1 => (c, q.getD c 0) :: revL q c
def encB (nb : Nat → Nat) (e : Nat × Nat) : List AV := [.d (intD (e.1 : Int)), .d (ptrD (nb e.2))]
section
variable {β : Type}
set_option maxRecDepth 100000 in
theorem back1_c (nb : Nat → Nat) (q : List Nat) (hq : q.length ≤ 100000) {M : MF} {h : Hd} (hrow : rowAt M h 103 1 (q.map fun i => ptrD (nb i))) (l : Nat) (H : β → Hp) (N : List Nat) (step : β → Nat × Nat → β × Bool) (st0 : β) (hN : ∀ st, hpN (H st) = N) (hI : ∀ st, hpIn N (H st) = true) (hP : ∀ st, part? (H st) N = some (H st)) (hM : ∀ st, hfam (H st) 40 = some [.multi M])
    (hfe : Feeds Tryz.prog l (encB nb) H step st0 (revL q q.length)) :
    ACalls Tryz.prog fBack [.d (.raw (yieldV l)), .d (.ptr (hdr h q.length))] (H st0) fun r H' => r = .tup [] ∧ H' = H (feed step st0 (revL q q.length)) := by
  have hz := Zbu hrow;have x5 : ∀ st, namesIn N (H st) = true := fun st => by have h := namesIn_all (H st); rw [hN] at h; exact h
  have x6 : ∀ st, rest? N (H st) = some [] := fun st => by have h := rest?_all (H st); rw [hN] at h; exact h
  refine Zaz Tryz.func101 rfl rfl Tryz.ntmps101 rfl rfl rfl fun F hF => ?_;refine Zaf (Zab (Zaa.go (ZaF rfl rfl on104 rfl) (Zaa.go (ZbQ hz rfl Tryz.underlying104 rfl) (Zaa.go (st_sub rfl rfl (IntWalk.i64_in _ (by omega)) rfl) (Zaa.go (Zad rfl rfl) (Zae (Zar (a_loop (α := Nat × β) (fun p => ⟨19, [(0, .d (.raw (yieldV l))), (1, .d (.ptr (hdr h q.length))), (3, (.d (intD ((p.1 : Int) - 1))))], H p.2⟩) (fun p => p.1 ≤ q.length ∧ Feeds Tryz.prog l (encB nb) H step p.2 (revL q p.1) ∧ feed step p.2 (revL q p.1) = feed step st0 (revL q q.length)) (fun p => p.1) ((q.length, st0)) (⟨Nat.le_refl _, hfe, rfl⟩) (le_of_has ⟨rfl, rfl, rfl, trivial⟩) ?_))))))));rintro ⟨c, st⟩ ⟨hc0, hfk, hfin⟩;dsimp only at hc0 hfk hfin ⊢;refine Zaf (Zaf (Zab (Zaa.go (Zac rfl rfl) (Zaa.go (st_geq rfl rfl rfl) (Zae (ZaE rfl (fun h8 => ?_) (fun h8 => ?_)))))))
  · obtain ⟨k, rfl⟩ : ∃ k, c = k + 1 := ⟨c - 1, by have h := h8; omega⟩
    refine Zaq (Zaf (Zar (Zaf ?_)));have hkq : k < q.length := by omega
    obtain ⟨qb, qc, hqe⟩ := Zbs hrow hkq;have hqrow := ZbA hrow hqe;have hk1 : ((k + 1 : Nat) : Int) - 1 = (k : Int) := by omega
    rw [hk1];refine Zab (Zaa.go (Zac rfl rfl) (Zaa.go (Zac rfl rfl) (Zaa.go (ZaF rfl rfl on104 rfl) (Zaa.go (Zac rfl rfl) (Zaa.go (ZbB hqe (k) rfl rfl rfl hkq Tryz.underlying104 sz103 rfl) (Zaa.go (Zca (f := 40) (e := k) (off := 0) rfl (by omega) (hM st) hqrow (getm hkq) rfl on103 rfl) ?_))))));rw [← ZaK 0 hkq];refine o_yieldX rfl rfl hfk.1 N (famsEq_of fun _ _ => rfl) (x5 st) (x6 st) rfl rfl (fun r H' ⟨e1, e2⟩ => by subst e1 e2; exact ⟨x5 _, hI _, rfl⟩) rfl fun r H' ⟨e1, e2⟩ => ?_; subst e1 e2; rw [List.append_nil];refine Zaa.go (Za8 rfl rfl) (Zae (Zby rfl (fun h18 => ?_) (fun h18 => ?_)))
    · have hgo : (step st (k, q.getD k 0)).2 = false := by simpa using h18
      refine Zas ?_;exact ⟨_, N, _, Zao rfl, hP _, x5 _, rfl, by rw [← hfin]; show H _ = H (feed step st ((k, q.getD k 0) :: revL q k)); rw [feed_cons', if_neg (by rw [hgo]; decide)]⟩
    · have hgo : (step st (k, q.getD k 0)).2 = true := by simpa using h18
      refine Zaq (Zab (Zaa.go (Zac rfl rfl) (Zaa.go (st_sub rfl rfl (IntWalk.i64_in _ (by omega)) rfl) (Zaa.go (Zad rfl rfl) (Zae ?_)))));exact ⟨(k, (step st (k, q.getD k 0)).1), ⟨by show k ≤ _; omega, hfk.2 hgo, by show feed step (step st (k, q.getD k 0)).1 (revL q k) = _; rw [← hfin]; show _ = feed step st ((k, q.getD k 0) :: revL q k); rw [feed_cons', if_pos hgo]⟩, by show k < k + 1; omega, ⟨rfl, rfl, fun _ _ => Has.get (l := [(0, _), (1, _), (3, _)]) ⟨rfl, rfl, rfl, trivial⟩⟩⟩
  · refine ZaI ?_;exact ⟨_, N, _, Zao rfl, hP _, x5 _, rfl, by rw [← hfin]; have e : c = 0 := (by have h := h8; omega); rw [e]; rfl⟩
end
end Go.Proofs.YtneihdahboilnaaGreat
/- Layer 30: the next exclusion. -/
namespace Go.Proofs.YtneihdahboilnaaGreat
open Go.RowKit

theorem Awp.code {P : Program} {F : Fr} {Q : Exit → AS → Prop} {s : AS} {c c' : Code} (e : c = c') (h : Awp P F c' Q s) : Awp P F c Q s := e ▸ h
def onN (N : Net) (i : Nat) : Bool := (N.nd.getD i nd0).on
def ndX (N : Net) (x : Nd) : Option Exc := if x.on = true then inadm N x else none
def poX (N : Net) (y : Po) : Option Exc := if ovP y y.sum = true then (y.q.reverse.find? (onN N)).map fun i => ⟨(N.nd.getD i nd0).it.id, 0, y.r, -1⟩ else none
def nextN (N : Net) : Option Exc := match N.nd.findSome? (ndX N) with
  | some e => some e
  | none => N.po.findSome? (poX N)
theorem findSome_at {α β : Type} {f : α → Option β} : ∀ {l : List α} {k : Nat} (hk : k < l.length) {b : β}, (∀ x ∈ l.take k, f x = none) → f l[k] = some b → l.findSome? f = some b
  | a :: l, 0, _, b, _, h => by simp at h; rw [List.findSome?_cons, h]
  | a :: l, k + 1, hk, b, h0, h => by
    have h1 : f a = none := h0 a (by simp);have ih := findSome_at (l := l) (k := k) (by simpa using hk) (fun x hx => h0 x (by simp [hx])) (by simpa using h);rw [List.findSome?_cons, h1]; exact ih
theorem findSome_no {α β : Type} {f : α → Option β} {l : List α} (h : ∀ x ∈ l, f x = none) : l.findSome? f = none := List.findSome?_eq_none_iff.2 h
def stR : Bool → LoopState
  | true => .done
  | false => .ready
def pdR : Bool → Option Code
  | true => some .ret
  | false => none
def stepB (N : Net) (_st : Option Nat) (e : Nat × Nat) : Option Nat × Bool := if onN N e.2 = true then (some e.2, false) else (none, true)
theorem feed_B (N : Net) (q : List Nat) : ∀ n, n ≤ q.length → feed (stepB N) none (revL q n) = ((q.take n).reverse.find? (onN N))
  | 0, _ => rfl
  | n + 1, h => by
    have hn : n < q.length := by omega
    show feed (stepB N) none ((n, q.getD n 0) :: revL q n) = _;rw [feed_cons', List.take_succ_eq_append_getElem hn, List.reverse_append, List.reverse_singleton, List.singleton_append, List.find?_cons, ZaK 0 hn];unfold stepB;dsimp only
    cases ho : onN N q[n] with
    | true => rfl
    | false => exact feed_B N q n (by omega)
theorem feeds_B {P : Program} {l : Nat} {nb : Nat → Nat} {H : Option Nat → Hp} (N : Net) (q : List Nat) (hY : ∀ k (hk : k < q.length), YCalls P l (encB nb (k, q[k])) (H none) fun v H' => v = .d (.raw (.bool (!onN N q[k]))) ∧ H' = H (if onN N q[k] = true then some q[k] else none)) : ∀ n, n ≤ q.length → Feeds P l (encB nb) H (stepB N) none (revL q n)
  | 0, _ => trivial
  | n + 1, h => by
    have hn : n < q.length := by omega
    have hy := hY n hn;show Feeds P l (encB nb) H (stepB N) none ((n, q.getD n 0) :: revL q n);rw [ZaK 0 hn];refine ⟨hy.mono fun v H' ⟨e1, e2⟩ => ⟨by rw [e1]; unfold stepB; cases onN N q[n] <;> rfl, by rw [e2]; unfold stepB; cases onN N q[n] <;> rfl⟩, fun hgo => ?_⟩
    have hoff : onN N q[n] = false := by
      cases ho : onN N q[n] with
      | false => rfl
      | true => unfold stepB at hgo; dsimp only at hgo; rw [ho] at hgo; cases hgo
    have : (stepB N none (n, q[n])).1 = none := by unfold stepB; dsimp only; rw [hoff]; rfl
    rw [this];exact feeds_B N q hY n (by omega)
abbrev excB (e : Exc) : AObj := .blk 53 [.d (intD e.id), .d (intD e.re), .d (intD e.r.k), .d (strD e.r.acc.o), .d (intD e.r.acc.k), .d (strD e.r.acc.a), .d (strD e.r.f), .d (strD e.r.t), .d (intD e.by_)]
def fndE (N : Net) (y : Po) (o : Option Nat) : Exc := match o with
  | none => exc0
  | some i => ⟨(N.nd.getD i nd0).it.id, 0, y.r, -1⟩
abbrev hBk (N : Net) (y : Po) (pbk mv : Nat) (bs : Option (List Nat × Nat)) (L : List (Int × Value)) (M : MF) (o : Option Nat) : Hp := [(1, [excB (fndE N y o)]), (2, [.blk 4 [.d (boolD o.isSome)]]), (4, [.blk 117 [.d (ptrD pbk)]]), (40, [.multi M]), (50, [.map bs (ents intD rawD L)]), (51, [.addr 50 0 (.map (some mv))])]
set_option maxRecDepth 100000 in
set_option maxHeartbeats 2000000 in
theorem next_c {wb mv : Nat} {nb pb : Nat → Nat} {N : Net} {M : MF} (bs : Option (List Nat × Nat)) (h : Rep wb mv nb pb N M) (hw : NetW N) (hs : sumB N.po 1000000000000000000) :
    ACalls Tryz.prog 44 [.d (pD wb 0)] (HW mv bs (byL nb (idsN N)) M) fun r H' => r = .d (excR (nextN N)) ∧ H' = HW mv bs (byL nb (idsN N)) M := by
  have hwb := h.w;have hnr : rowAt M N.nh 103 1 ((List.range N.nd.length).map fun i => ptrD (nb i)) := h.rs.1 .n;have hpr : rowAt M N.mh 117 1 ((List.range N.po.length).map fun j => ptrD (pb j)) := h.rs.1 .m;have hnz := Zbu hnr;have hpz := Zbu hpr;rw [List.length_range] at hnz hpz;have hnl := hw.n
  obtain ⟨L, hL⟩ : ∃ L, byL nb (idsN N) = L := ⟨_, rfl⟩
  have hina := fun i x hx => inadm_c (i := i) (x := x) bs h hw hx;rw [hL] at hina ⊢;refine a_enterR Tryz.func44 rfl rfl Tryz.ntmps44 rfl rfl rfl fun F hF hFl => (Zaf (Zab (Zal.go (ZaR 1 zl53 rfl rfl rfl rfl) (Zal.go (ZaR 2 zl4 rfl rfl rfl rfl) (Zae (Zaf (Zaf (Zab ?_))))))));refine Zaa.go (Zac rfl rfl) (Zaa.go (ZaD rfl rfl) (Zaa.go (ZaL rfl fi108_0 rfl rfl rfl) (Zaa.go (ZaY (f := 40) rfl rfl (hwb) rfl on104 rfl) (Zaa.go (ZbQ hnz rfl Tryz.underlying104 rfl) (Zaa.go (Zac rfl rfl) (Zae (Zar (ZaH (α := Nat) (fun k => ⟨74, [(0, .d (pD wb 0)), (2, (.ptr 1 0 0)), (3, (.ptr 2 0 0)), (15, (.d (hdr N.nh N.nd.length))), (16, (.d (intD (N.nd.length : Int)))), (17, (.d (intD (k : Int))))], (1, [excB exc0]) :: (2, [.blk 4 [.d (boolD false)]]) :: HW mv bs L M⟩) (fun k => k ≤ N.nd.length ∧ ∀ x ∈ N.nd.take k, ndX N x = none) (fun k => N.nd.length - k) (0) (⟨Nat.zero_le _, by simp⟩) (Zat hF [1, 2, 40, 50, 51] rfl rfl ⟨rfl, rfl, rfl, rfl, rfl, rfl, trivial⟩) ?_))))))));rintro k ⟨hk0, hkb⟩;refine Zaf (Zab (Zaa.go (ZaG rfl rfl rfl) (Zae (Zaf (ZaE rfl (fun h18 => ?_) (fun h18 => ?_))))))
  · have hk1 : k < N.nd.length := ZaJ h18;refine Zaq (Zaf (Zar (Zaf ?_)))
    obtain ⟨x, hx⟩ : ∃ x, N.nd[k]? = some x := ⟨_, List.getElem?_eq_getElem hk1⟩
    have hxk : N.nd[k] = x := by rw [List.getElem?_eq_getElem hk1] at hx; injection hx
    obtain ⟨hxb, _, _⟩ := h.nn k x hx;obtain ⟨rb, rc, hre⟩ := Zbs hnr (j := k) (by rw [List.length_range]; exact hk1);have hrow := ZbA hnr hre;refine Zab (Zaa.go (ZbB hre (k) rfl rfl rfl hk1 Tryz.underlying104 sz103 rfl) (Zaa.go (Zca (f := 40) (e := k) (off := 0) rfl (by omega) rfl (hrow) ((by rw [List.getElem?_map, List.getElem?_range hk1]; rfl)) rfl on103 rfl) ?_));refine Zaa.go (Zad rfl rfl) (Zae (Zaf ?_));refine Zaf (Zab (Zaa.go (Zac rfl rfl) (Zaa.go (ZaD rfl rfl) (Zaa.go (ZaL rfl fi112_3 rfl rfl rfl) (Zaa.go (ZaY (f := 40) rfl rfl (hxb) rfl on4 rfl) (Zaa.go (Za8 rfl rfl) (Zae (Zby rfl (fun h25 => ?_) (fun h25 => ?_)))))))))
    · have hnone : ndX N x = none := by unfold ndX; rw [if_neg (by simpa using h25)]
      refine ZaI ?_
      try have hnone : ndX N x = none := by unfold ndX; split <;> first | exact hin | rfl
      refine Zab (Zaa.go (Zay rfl rfl (wrapS (k + 1) (by omega)) rfl) (Zaa.go (Zac rfl rfl) (Zae ?_)));exact ⟨k + 1, ⟨by show k + 1 ≤ _; omega, by rw [List.take_succ_eq_append_getElem hk1]; intro e he; rcases List.mem_append.1 he with he | he; exact hkb e he; rw [List.mem_singleton.1 he, hxk]; exact hnone⟩, by show N.nd.length - (k + 1) < N.nd.length - k; omega, Zat hF [1, 2, 40, 50, 51] rfl (rfl) ⟨rfl, rfl, rfl, rfl, rfl, rfl, trivial⟩⟩
    · refine Zaq (Zaf (Zab (Zaa.go (Zac rfl rfl) (Zaa.go (Zac rfl rfl) (Zal.go (Zbf (hina k x hx) rfl [40, 50, 51] ⟨rfl, rfl, rfl, trivial⟩ rfl rfl rfl rfl rfl rfl rfl rfl rfl) ?_)))));refine Zaa.go (Zac rfl rfl) (Zaa.go (Zau rfl rfl rfl) (Zaa.go (Zau rfl rfl rfl) (Zal.go (ZaR 3 zl53 rfl rfl rfl rfl) (Zal.go (ZaA rfl rfl rfl rfl rfl rfl rfl sz53) (Zaa.go (Zad rfl rfl) (Zae (Zaf (Zab ?_))))))))
      cases hin : inadm N x
      · refine Zaa.go (Zac rfl rfl) (Zae (ZaU rfl (rfl) (Zaq ?_)))
        try have hnone : ndX N x = none := by unfold ndX; split <;> first | exact hin | rfl
        refine Zab (Zaa.go (Zay rfl rfl (wrapS (k + 1) (by omega)) rfl) (Zaa.go (Zac rfl rfl) (Zae ?_)));exact ⟨k + 1, ⟨by show k + 1 ≤ _; omega, by rw [List.take_succ_eq_append_getElem hk1]; intro e he; rcases List.mem_append.1 he with he | he; exact hkb e he; rw [List.mem_singleton.1 he, hxk]; exact hnone⟩, by show N.nd.length - (k + 1) < N.nd.length - k; omega, Zat hF [1, 2, 40, 50, 51] rfl (rfl) ⟨rfl, rfl, rfl, rfl, rfl, rfl, trivial⟩⟩
      · refine Zaa.go (Zac rfl rfl) ?_;refine Zae (ZaQ rfl (rfl) (Zaf (Zab (Zaa.go (Zap rfl rfl rw53 rfl rfl rfl) (Zal.go (ZaA rfl rfl rfl rfl rfl rfl rfl sz53) (Zal.go (ZaA rfl rfl rfl rfl rfl rfl rfl sz4) (Zae (Zas ?_))))))));exact ⟨_, [40, 50, 51], _, Zao rfl, rfl, rfl, by unfold nextN; rw [findSome_at hk1 hkb (by rw [hxk]; unfold ndX; rw [if_pos (by simpa using h25)]; exact hin)]; rfl, rfl⟩
  · refine ZaI (Zaf (Zaf ?_));have hnn : N.nd.findSome? (ndX N) = none := findSome_no (by have e : k = N.nd.length := (by have h := h18; omega); rw [e, List.take_length] at hkb; exact hkb);refine Zab ?_;refine Zaa.go (Zac rfl rfl) (Zaa.go (ZaD rfl rfl) (Zaa.go (ZaL rfl fi108_1 rfl rfl rfl) (Zaa.go (ZaY (f := 40) rfl rfl (hwb) rfl on105 rfl) (Zaa.go (ZbQ hpz rfl Tryz.underlying105 rfl) (Zaa.go (Zac rfl rfl) (Zae (Zar (ZaH (α := Nat) (fun j => ⟨74, [(2, (.ptr 1 0 0)), (3, (.ptr 2 0 0)), (38, (.d (hdr N.mh N.po.length))), (39, (.d (intD (N.po.length : Int)))), (40, (.d (intD (j : Int))))], (1, [excB exc0]) :: (2, [.blk 4 [.d (boolD false)]]) :: HW mv bs L M⟩) (fun j => j ≤ N.po.length ∧ ∀ y ∈ N.po.take j, poX N y = none) (fun j => N.po.length - j) (0) (⟨Nat.zero_le _, by simp⟩) (Zat hF [1, 2, 40, 50, 51] rfl rfl ⟨rfl, rfl, rfl, rfl, rfl, trivial⟩) ?_))))))));rintro j ⟨hj0, hjb⟩;refine Zaf (Zab (Zaa.go (ZaG rfl rfl rfl) (Zae (Zaf (ZaE rfl (fun h41 => ?_) (fun h41 => ?_))))))
    · have hj1 : j < N.po.length := ZaJ h41;refine Zaq (Zaf (Zar (Zaf ?_)))
      obtain ⟨y, hy⟩ : ∃ y, N.po[j]? = some y := ⟨_, List.getElem?_eq_getElem hj1⟩
      have hyk : N.po[j] = y := by rw [List.getElem?_eq_getElem hj1] at hy; injection hy
      have hym := List.mem_of_getElem? hy;obtain ⟨hyb, hyq⟩ := h.pp j y hy;obtain ⟨rb, rc, hre⟩ := Zbs hpr (j := j) (by rw [List.length_range]; exact hj1);have hrow := ZbA hpr hre;have hys := hs y hym;have hov := overdrawn_c h hy y.sum (hw.rm y hym) (by omega);have hql := hw.ql y hym;refine Zab (Zaa.go (ZbB hre (j) rfl rfl rfl hj1 Tryz.underlying105 sz117 rfl) (Zaa.go (Zca (f := 40) (e := j) (off := 0) rfl (by omega) rfl (hrow) ((by rw [List.getElem?_map, List.getElem?_range hj1]; rfl)) rfl on117 rfl) ?_));refine Zal.go (ZaR 4 zl117 rfl rfl rfl rfl) (Zal.go (ZaA rfl rfl rfl rfl rfl rfl rfl sz117) (Zae (Zaf (Zaf (ZaV [[], [], [1], [1, 2], [1, 2, 3], [0, 1, 2, 3, 4], [0, 1, 2, 3, 4, 5]] mixed rfl (dws ?_))))));refine Zah [9] [4] rfl rfl (fun _ => Zag (Zaj rfl rfl rfl on117 rfl)) (Zah [9] [4] rfl rfl (fun _ => Zag (Zaj rfl rfl rfl on117 rfl)) (Zah [45] [] rfl rfl (fun _ => Zag (ZaD rfl rfl)) (Zah [46] [] rfl rfl (fun _ => Zag (ZaL rfl fi121_2 rfl rfl rfl)) (Zah [47] [40] rfl rfl (fun _ => Zag (ZaY (f := 40) rfl rfl (hyb) rfl on2 rfl)) (dwc 5 rfl rfl rfl (dw1 6 rfl rfl (Zal.go (Zbf hov rfl [40] ⟨rfl, trivial⟩ rfl rfl rfl rfl rfl rfl rfl rfl rfl) (Zae ⟨rfl, ?_⟩))))))));refine dw1 7 rfl rfl ?_
      cases hovy : ovP y y.sum
      · refine Zaa.go (Za8 rfl rfl) (Zae ⟨rfl, ?_⟩);refine dwe (ZaQ rfl (rfl) (ZaI ?_));have hpnone : poX N y = none := by unfold poX; first | (rw [if_neg (by rw [hovy]; decide)]) | (rw [if_pos hovy, ← ho]; rfl)
        refine Zab (Zaa.go (Zay rfl rfl (wrapS (j + 1) (by omega)) rfl) (Zaa.go (Zac rfl rfl) (Zae ?_)));exact ⟨j + 1, ⟨by show j + 1 ≤ _; omega, by rw [List.take_succ_eq_append_getElem hj1]; intro e he; rcases List.mem_append.1 he with he | he; exact hjb e he; rw [List.mem_singleton.1 he, hyk]; exact hpnone⟩, by show N.po.length - (j + 1) < N.po.length - j; omega, Zat hF [1, 2, 40, 50, 51] rfl (rfl) ⟨rfl, rfl, rfl, rfl, rfl, trivial⟩⟩
      · refine Zaa.go (Za8 rfl rfl) (Zae ⟨rfl, ?_⟩);refine dwe (ZaU rfl (rfl) (Zaq ?_));refine Zaf (Zab (Zaa.go (Zaj rfl rfl rfl on117 rfl) (Zaa.go (ZaD rfl rfl) (Zaa.go (ZaL rfl fi121_3 rfl rfl rfl) (Zaa.go (ZaY (f := 40) rfl rfl (hyb) rfl on104 rfl) (Zal.go (Zbf (backF_c y.qh y.q.length) rfl [] trivial rfl rfl rfl rfl rfl rfl rfl rfl rfl) (Zae (Zar ?_))))))));refine a_keep [2, 3, 9, 38, 39, 40, 55] rfl ?_;refine a_range (γ := Option Nat) hFl 900 rfl rfl rfl rfl rfl [1, 2, 4, 40, 50, 51] (CHr := hBk N y (pb j) mv bs L M none) (fun o => o = y.q.reverse.find? (onN N)) (fun o => hBk N y (pb j) mv bs L M o) (fun o => stR o.isSome) (fun o => pdR o.isSome) ⟨rfl, rfl, rfl, rfl, rfl, rfl, trivial⟩ rfl rfl rfl (fun _ => rfl) (fun _ => rfl) rfl (fun o _ => by cases o <;> simp [stR]) (fun _ _ => ⟨rfl, rfl⟩) [1, 2, 4, 40, 50, 51] hF rfl rfl (fun _ _ => rfl) (fun l A B hA hB => ?_) (fun o ho => ?_)
        · refine (back1_c nb y.q (by omega) hyq l (fun o : Option Nat => (900, [.loop ⟨l, 74, [(2, .ptr 1 0 0), (3, .ptr 2 0 0), (9, .ptr 4 0 0), (38, .d (hdr N.mh N.po.length)), (39, .d (intD (N.po.length : Int))), (40, .d (intD (j : Int))), (55, .fn fBack [.d (.ptr (hdr y.qh y.q.length))])], stR o.isSome, pdR o.isSome, #[56, 57], A, B⟩]) :: hBk N y (pb j) mv bs L M o) [900, 1, 2, 4, 40, 50, 51] (stepB N) none (fun _ => rfl) (fun _ => rfl) (fun _ => rfl) (fun _ => rfl) ?_).mono (fun r H' ⟨e1, e2⟩ => ⟨e1, _, rfl, by rw [e2, feed_B N y.q y.q.length (Nat.le_refl _), List.take_length]⟩);refine feeds_B N y.q (fun k2 hk2 => ?_) y.q.length (Nat.le_refl _);have hni : y.q[k2] < N.nd.length := h.q y hym _ (List.getElem_mem hk2)
          obtain ⟨x, hx⟩ : ∃ x, N.nd[y.q[k2]]? = some x := ⟨_, List.getElem?_eq_getElem hni⟩
          obtain ⟨hxb, _, _⟩ := h.nn _ x hx;have hgx : N.nd.getD y.q[k2] nd0 = x := by rw [List.getD_eq_getElem?_getD, hx]; rfl
          have hon : onN N y.q[k2] = x.on := by unfold onN; rw [hgx]
          refine yc_round (lf := 900) rfl rfl rfl rfl fun F hF hr => (Awp.code hA (Zab (Zaa.go (Zad rfl rfl) (Zae (⟨rfl, _, _, rfl, rfl, rfl, rfl, ?_⟩)))));refine Awp.code hB ?_;refine Zar (Zaf (Zab (Zaa.go (Zac rfl rfl) (Zaa.go (ZaD rfl rfl) (Zaa.go (ZaL rfl fi112_3 rfl rfl rfl) (Zaa.go (ZaY (f := 40) rfl rfl (hxb) rfl on4 rfl) (Zae (Zby rfl (fun h61 => ?_) (fun h61 => ?_)))))))))
          · refine Zaf (ZaV [[], [0], [0, 1], [0, 1, 2], [0, 1, 2, 3], [], [5], [5, 6], [5, 6, 7], [0, 1, 2, 3, 4, 5, 6, 7, 8], [0, 1, 2, 3, 4, 5, 6, 7, 8, 9], [0, 1, 2, 3, 4, 5, 6, 7, 8, 9, 10]] mixed rfl (dws (Zah [11] [] rfl rfl (fun _ => Zag (Zac rfl rfl)) (Zah [62] [] rfl rfl (fun _ => Zag (ZaD rfl rfl)) (Zah [63] [] rfl rfl (fun _ => Zag (ZaL rfl fi112_0 rfl rfl rfl)) (Zah [64] [] rfl rfl (fun _ => Zag (ZaL rfl ZbP rfl rfl rfl)) ?_))))));refine Zah [65] [40] rfl rfl (fun _ => Zag (ZaY (f := 40) rfl rfl (hxb) rfl on3 rfl)) (Zah [9] [4] rfl rfl (fun _ => Zag (Zaj rfl rfl rfl on117 rfl)) (Zah [67] [] rfl rfl (fun _ => Zag (ZaD rfl rfl)) (Zah [68] [] rfl rfl (fun _ => Zag (ZaL rfl fi121_0 rfl rfl rfl)) (Zah [69] [40] rfl rfl (fun _ => Zag (st_loadNS (f := 40) rfl rfl (hyb) rw51 rfl rfl (by simp [D.one]) rfl)) (dwc 9 rfl rfl rfl (dw1 10 rfl rfl (Zaa.go (Za0 zl53 pl53 rfl rfl rfl) (Zae ⟨rfl, ?_⟩))))))));refine dw1 11 rfl rfl (Zal.go (ZaA rfl rfl rfl rfl rfl rfl rfl sz53) (Zae ⟨rfl, ?_⟩));refine dw1 12 rfl rfl (Zal.go (ZaA rfl rfl rfl rfl rfl rfl rfl sz4) (Zae ⟨rfl, ?_⟩));refine dwe (Zas ?_);have ho1 : onN N y.q[k2] = true := by rw [hon]; simpa using h61
            exact ⟨some .ret, _, _, [900, 1, 2, 4, 40, 50, 51], _, rfl, rfl, rfl, rfl, rfl, rfl, by rw [ho1]; rfl, by rw [if_pos ho1]; simp only [hBk, fndE, hgx]; rfl⟩
          · refine Zaq ?_;have ho1 : onN N y.q[k2] = false := by rw [hon]; simpa using h61
            exact ⟨none, _, _, [900, 1, 2, 4, 40, 50, 51], _, rfl, rfl, rfl, rfl, rfl, rfl, by rw [ho1]; rfl, by rw [if_neg (by rw [ho1]; decide)]; rfl⟩
        · rcases o with _ | i0
          · have hpnone : poX N y = none := by unfold poX; first | (rw [if_neg (by rw [hovy]; decide)]) | (rw [if_pos hovy, ← ho]; rfl)
            refine Zab (Zaa.go (Zay rfl rfl (wrapS (j + 1) (by omega)) rfl) (Zaa.go (Zac rfl rfl) (Zae ?_)));exact ⟨j + 1, ⟨by show j + 1 ≤ _; omega, by rw [List.take_succ_eq_append_getElem hj1]; intro e he; rcases List.mem_append.1 he with he | he; exact hjb e he; rw [List.mem_singleton.1 he, hyk]; exact hpnone⟩, by show N.po.length - (j + 1) < N.po.length - j; omega, Zat hF [1, 2, 40, 50, 51] rfl (rfl) ⟨rfl, rfl, rfl, rfl, rfl, trivial⟩⟩
          · show Awp _ _ .ret _ _;refine Zas ?_;exact ⟨_, [40, 50, 51], _, Zao rfl, rfl, rfl, by unfold nextN; rw [hnn]; dsimp only; rw [findSome_at hj1 hjb (by rw [hyk]; unfold poX; rw [if_pos hovy, ← ho]; rfl)]; rfl, rfl⟩
    · refine ZaI (Zaf (Zab (Zaa.go (Za0 zl53 pl53 rfl rfl rfl) (Zal.go (ZaA rfl rfl rfl rfl rfl rfl rfl sz53) (Zal.go (ZaA rfl rfl rfl rfl rfl rfl rfl sz4) (Zae (Zas ?_)))))));exact ⟨_, [40, 50, 51], _, Zao rfl, rfl, rfl, by unfold nextN; rw [hnn]; dsimp only; rw [findSome_no (by have e : j = N.po.length := (by have h := h41; omega); rw [e, List.take_length] at hjb; exact hjb)]; rfl, rfl⟩
end Go.Proofs.YtneihdahboilnaaGreat
/- Layer 30: rows of the network grow. -/
namespace Go.Proofs.YtneihdahboilnaaGreat
open Go.RowKit

theorem SR.splitH {F : Fr} {s : AS} {ρ : Nat → Nat → Value} {act : Act} {w : World} (hs : SR F s ρ act w) (t g f : Nat) {M : MF} {T : TypeId} {kk m : Nat} {h : Hd} {xs : List D} {env' : List (Nat × AV)} {hp1 hp' : Hp} (hne : Nat.beq g f = false)
    (ht : get s.env t = some (.d (hdr h m))) (hn : m = xs.length) (hM : hfam s.hp f = some [.multi M]) (hr : rowAt M h T kk xs) (hE : killE? g s.env = some env') (hH : killH? g s.hp = some hp1) (hz : hfam hp1 g = none) (hm : hmul? hp1 f (mdelH M h) = some hp') :
    ∃ v, SR F ⟨s.n, (t, .own g 0 m) :: env', (g, [.rowD T kk xs]) :: hp'⟩ (upd ρ g 0 v) act w := by
  match h, ht, hr, hm with
  | some (b, cap), ht, hr, hm => exact ⟨_, hs.splitR t g f (cap := cap) (b := b) hne ht hn hM hr.2 hE hH hz hm⟩
  | none, ht, hr, hm =>
    have hxs : xs = [] := hr;subst hxs hn;have hgf : g ≠ f := Nat.ne_of_beq_eq_false hne;refine ⟨.slice none 0 0, ?_⟩
    have hhp : hp' = hp1 := by
      have key : ∀ (H H' : Hp), hfam H f = some [.multi M] → hmul? H f M = some H' → H' = H := by
        intro H
        induction H with
        | nil => intro H' h; cases h
        | cons p r ih =>
          obtain ⟨k, l⟩ := p;intro H' h1 h2;simp only [hfam] at h1;simp only [hmul?] at h2
          cases hk : Nat.beq k f with
          | true =>
            rw [hk] at h1 h2;injection h1 with h1
            subst h1;simp only [isM] at h2;injection h2 with h2; exact h2.symm
          | false =>
            rw [hk] at h1 h2;dsimp only at h1 h2
            cases hr : hmul? r f M with
            | none => rw [hr] at h2; cases h2
            | some r' =>
              rw [hr] at h2; injection h2 with h2
              rw [← h2, ih r' h1 hr]
      obtain ⟨a1, a2⟩ := killH?_spec hH
      have hM1 : hfam hp1 f = some [.multi M] := by
        have key2 : ∀ (H H' : Hp), keepH? (notFam g) H = some H' → hfam H f = some [.multi M] → hfam H' f = some [.multi M] := by
          intro H
          induction H with
          | nil => intro H' _ h; cases h
          | cons p r ih =>
            obtain ⟨k, l⟩ := p;intro H' h1 h2;simp only [keepH?] at h1
            cases hr : keepH? (notFam g) r with
            | none => rw [hr] at h1; cases h1
            | some r' =>
              rw [hr] at h1
              cases hl : keepOs? (notFam g) l with
              | none => rw [hl] at h1; cases h1
              | some l' =>
                rw [hl] at h1; injection h1 with h1; subst h1
                simp only [hfam] at h2 ⊢
                cases hk : Nat.beq k f with
                | true =>
                  rw [hk] at h2; injection h2 with h2; subst h2
                  simp only [keepOs?, keepO?] at hl;injection hl with hl; rw [← hl]
                | false => rw [hk] at h2; exact ih r' hr h2
        exact key2 _ _ hH hM
      exact key hp1 hp' hM1 hm
    rw [hhp]
    have h1 : SR F ⟨s.n, (t, .d (.sl (some true) [])) :: s.env, s.hp⟩ ρ act w := ⟨hs.size, hs.defs, fun t' a ha => by
      rcases Zbg ha with ⟨rfl, rfl⟩ | ⟨_, ha⟩
      · have hr := hs.env t _ ht
        generalize act.tmps.getD t undef = x at hr ⊢
        cases hr with
        | d h => cases h with
          | raw _ => exact .d (.sl 0 (fun b hb => by cases hb; rfl) (fun _ => rfl) rfl (Nat.le_refl _) (Nat.zero_le _) (fun x hx => by cases hx) (fun h => absurd rfl h) (fun b o hb => by cases hb))
      · exact hs.env t' a ha, hs.heap⟩
    obtain ⟨k1, k2⟩ := killH?_spec hH
    have hz' : ∀ i, hget s.hp g i = none := fun i => by
      cases hq : hget s.hp g i with
      | none => rfl
      | some o =>
        obtain ⟨o2, q1, _⟩ := k2 _ _ _ hq;unfold hget at q1; rw [hz] at q1; cases q1
    have h2 := hs.set g 0 (.rowD T kk []) (.slice none 0 0) (hp' := (g, [.rowD T kk []]) :: hp1) hE hH (fun f' i => by
      by_cases e : g = f'
      · subst e;simp only [hget, hfam, Nat.beq_refl, Option.bind_some, true_and, gl_one (o := .rowD T kk []) rfl, hz, Option.bind_none]
        cases i <;> simp
      · simp only [hget, hfam, Zba e]
        rw [if_neg (fun hh => e hh.1.symm)]) (fun t cs e => by rw [hz'] at e; cases e) (fun b hb => by cases hb) rfl rfl rfl (Nat.le_refl _) (fun _ _ _ => rfl) (fun _ => ⟨[], World.ownsRow_nil w 0 T kk, ⟨by simp, by simp, fun i x hx => by simp at hx⟩, by simp⟩)
    refine ⟨h2.size, h2.defs, fun t' a ha => ?_, h2.heap⟩;rcases Zbg ha with ⟨rfl, rfl⟩ | ⟨_, ha⟩
    · have hr := hs.env t _ ht
      generalize act.tmps.getD t undef = x at hr ⊢
      cases hr with
      | d h => cases h with | raw _ => exact .own ZbC (Nat.le_refl _)
    · exact h2.env t' a ha
section
variable {P : Program} {F : Fr} {Q : Exit → AS → Prop} {c : Code} {ops : Array Oper} {l : List Oper} {n : Nat} {env env1 env' : List (Nat × AV)} {hp hp1 hp2 hp3 : Hp}
theorem st_appH {o : Oper} (t g f : Nat) {M : MF} {T : TypeId} {kk m : Nat} {h : Hd} {xs : List D} {hp' : Hp} {s2 : AS} (hr : rowAt M h T kk xs) (hne : Nat.beq g f = false) (ht : get env t = some (.d (hdr h m))) (hn : m = xs.length) (hM : hfam hp f = some [.multi M]) (hE : killE? g env = some env') (hH : killH? g hp = some hp1) (hz : hfam hp1 g = none) (hm : hmul? hp1 f (mdelH M h) = some hp')
    (h2 : Zal P F o ⟨n, (t, .own g 0 m) :: env', (g, [.rowD T kk xs]) :: hp'⟩ s2 (notFam g)) : Zal P F o ⟨n, env, hp⟩ s2 (notFam g) := fun ρ act w hs => by
  obtain ⟨v, h1⟩ := hs.splitH t g f hne ht hn hM hr hE hH hz hm;exact Zci (fun a w' ⟨ρ', h3, h4⟩ => ⟨ρ', h3, fun f i hfi => (h4 f i hfi).trans (Zbm fun e => Zbz hfi e.1)⟩) (h2 _ act w h1)
end
theorem Rep.row {wb mv : Nat} {nb pb : Nat → Nat} {N N' : Net} {M : MF} (h : Rep wb mv nb pb N M) (r0 : RI) {w0 w1 : RowM} (e0 : rowOf nb pb N r0 = w0) (e1 : rowOf nb pb N' r0 = w1) (hR : ∀ r, r ≠ r0 → rowOf nb pb N' r = rowOf nb pb N r) {b cap : Nat} (hb : mdelH M w0.h b = none) (h0 : w1.h = some (b, cap)) (hl : w1.xs.length ≤ cap) :
    RowsM (Za4 (mdelH M w0.h) b (.row w1.t w1.k cap w1.xs)) (rowOf nb pb N') ∧ ∀ (b' : Nat) (t : TypeId) (cs : List D), M b' = some (.cells t cs) → Za4 (mdelH M w0.h) b (.row w1.t w1.k cap w1.xs) b' = some (.cells t cs) := by
  subst e0 e1;refine ⟨h.rs.upd r0 hR hb h0 hl, fun b' t cs hm => keepM hb hm fun c hc => ?_⟩;have := h.rs.blk hc;rw [hm] at this; cases this
theorem Rep.putNd {wb mv : Nat} {nb pb : Nat → Nat} {N : Net} {M M1 : MF} (h : Rep wb mv nb pb N M) {i : Nat} {x x' : Nd} (hx : N.nd[i]? = some x) (hc : ∀ (b' : Nat) (t : TypeId) (cs : List D), M b' = some (.cells t cs) → M1 b' = some (.cells t cs)) (hr : RowsM M1 (rowOf nb pb { N with nd := N.nd.set i x' })) (he : (∀ e ∈ x'.ef, e.1 < N.po.length) ∧ ∀ e ∈ x'.pl, e.1 < N.po.length) :
    Rep wb mv nb pb { N with nd := N.nd.set i x' } (Za4 M1 (nb i) (ndM x')) := by
  have hb := h.n i x hx;have hil := (List.getElem?_eq_some_iff.1 hx).1
  have hne : ∀ (b : Nat) (t : TypeId) (cs : List D), t ≠ 112 → M b = some (.cells t cs) → Za4 M1 (nb i) (ndM x') b = some (.cells t cs) := fun b t cs ht hm => by
    rw [ZbG]
    · exact hc _ _ _ hm
    · rintro rfl; rw [hb] at hm; injection hm with hm; injection hm with hm; exact ht hm.symm
  refine ⟨fun j z hz => ?_, fun j y hy => hne _ _ _ (by decide) (h.p j y hy), hr.cells (hc _ _ _ hb), ?_, fun j k hj hk => h.ni j k (by simpa using hj) (by simpa using hk), h.pi, fun z hz => ?_, fun y hy => ?_⟩
  · have hz2 : (N.nd.set i x')[j]? = some z := hz
    clear hz
    have hjl : j < N.nd.length := by have := (List.getElem?_eq_some_iff.1 hz2).1; rw [List.length_set] at this; exact this
    rw [List.getElem?_set] at hz2
    split at hz2
    · rename_i e; subst e
      have e2 : z = x' := by first | exact (Option.some.inj hz2).symm | (rw [if_pos hil] at hz2; exact (Option.some.inj hz2).symm)
      rw [e2]; exact Zbx _ _ _
    · rename_i e
      rw [ZbG]
      · exact hc _ _ _ (h.n j z hz2)
      · intro e2; exact e (h.ni j i hjl hil e2).symm
  · show Za4 M1 (nb i) (ndM x') wb = some (.cells _ [hdr N.nh (N.nd.set i x').length, hdr N.mh N.po.length, _]);rw [List.length_set];exact hne _ _ _ (by decide) h.w
  · rcases List.mem_or_eq_of_mem_set hz with hz | rfl
    · exact h.e z hz
    · exact he
  · have := h.q y hy
    simpa using this
theorem Rep.putPo {wb mv : Nat} {nb pb : Nat → Nat} {N : Net} {M M1 : MF} (h : Rep wb mv nb pb N M) {j : Nat} {y y' : Po} (hy : N.po[j]? = some y) (hc : ∀ (b' : Nat) (t : TypeId) (cs : List D), M b' = some (.cells t cs) → M1 b' = some (.cells t cs)) (hr : RowsM M1 (rowOf nb pb { N with po := N.po.set j y' })) (hq : ∀ i ∈ y'.q, i < N.nd.length) :
    Rep wb mv nb pb { N with po := N.po.set j y' } (Za4 M1 (pb j) (poM y')) := by
  have hb := h.p j y hy;have hjl := (List.getElem?_eq_some_iff.1 hy).1
  have hne : ∀ (b : Nat) (t : TypeId) (cs : List D), t ≠ 121 → M b = some (.cells t cs) → Za4 M1 (pb j) (poM y') b = some (.cells t cs) := fun b t cs ht hm => by
    rw [ZbG]
    · exact hc _ _ _ hm
    · rintro rfl; rw [hb] at hm; injection hm with hm; injection hm with hm; exact ht hm.symm
  refine ⟨fun i x hx => hne _ _ _ (by decide) (h.n i x hx), fun i z hz => ?_, hr.cells (hc _ _ _ hb), ?_, h.ni, fun i k hi hk => h.pi i k (by simpa using hi) (by simpa using hk), fun x hx => ?_, fun z hz => ?_⟩
  · have hz2 : (N.po.set j y')[i]? = some z := hz
    clear hz
    have hil : i < N.po.length := by have := (List.getElem?_eq_some_iff.1 hz2).1; rw [List.length_set] at this; exact this
    rw [List.getElem?_set] at hz2
    split at hz2
    · rename_i e; subst e
      have e2 : z = y' := by first | exact (Option.some.inj hz2).symm | (rw [if_pos hjl] at hz2; exact (Option.some.inj hz2).symm)
      rw [e2]; exact Zbx _ _ _
    · rename_i e
      rw [ZbG]
      · exact hc _ _ _ (h.p i z hz2)
      · intro e2; exact e (h.pi i j hil hjl e2).symm
  · show Za4 M1 (pb j) (poM y') wb = some (.cells _ [hdr N.nh N.nd.length, hdr N.mh (N.po.set j y').length, _]);rw [List.length_set];exact hne _ _ _ (by decide) h.w
  · have := h.e x hx
    simpa using this
  · rcases List.mem_or_eq_of_mem_set hz with hz | rfl
    · exact h.q z hz
    · exact hq
abbrev effT : TypeId := 119
abbrev plaT : TypeId := 165
abbrev pnT : TypeId := 103
abbrev ppT : TypeId := 117
def addEf (x : Nd) (b cap : Nat) (e : Nat × Int) : Nd := { x with eh := some (b, cap), ef := x.ef ++ [e] }
def addPl (x : Nd) (b cap : Nat) (e : Nat × Nat) : Nd := { x with ph := some (b, cap), pl := x.pl ++ [e] }
def addQu (y : Po) (b cap : Nat) (i : Nat) : Po := { y with qh := some (b, cap), q := y.q ++ [i] }
theorem Rep.addE {wb mv : Nat} {nb pb : Nat → Nat} {N : Net} {M : MF} (h : Rep wb mv nb pb N M) {i : Nat} {x : Nd} (hx : N.nd[i]? = some x) (e : Nat × Int) (he : e.1 < N.po.length) {b cap : Nat} (hb : mdelH M x.eh b = none) (hl : ((x.ef ++ [e]).map (efD pb)).length ≤ cap) :
    Rep wb mv nb pb { N with nd := N.nd.set i (addEf x b cap e) } (Za4 (Za4 (mdelH M x.eh) b (.row effT 2 cap ((x.ef ++ [e]).map (efD pb)))) (nb i) (ndM (addEf x b cap e))) := by
  have hil := (List.getElem?_eq_some_iff.1 hx).1
  obtain ⟨h1, h2⟩ := h.row (N' := { N with nd := N.nd.set i (addEf x b cap e) }) (.e i) (w0 := ⟨x.eh, effT, 2, x.ef.map (efD pb)⟩) (w1 := ⟨some (b, cap), effT, 2, (x.ef ++ [e]).map (efD pb)⟩)
    (by show (⟨(N.nd.getD i nd0).eh, _, _, (N.nd.getD i nd0).ef.map _⟩ : RowM) = _; rw [getD_of hx])
    (by show (⟨((N.nd.set i (addEf x b cap e)).getD i nd0).eh, _, _, ((N.nd.set i (addEf x b cap e)).getD i nd0).ef.map _⟩ : RowM) = _; rw [Zcr hil, if_pos rfl]; rfl)
    (fun r hr => by
      cases r with
      | q j => rfl
      | m => rfl
      | n => show (⟨_, _, _, (List.range (N.nd.set i (addEf x b cap e)).length).map _⟩ : RowM) = _; rw [List.length_set]; rfl
      | e k =>
        show (⟨((N.nd.set i (addEf x b cap e)).getD k nd0).eh, _, _, ((N.nd.set i (addEf x b cap e)).getD k nd0).ef.map _⟩ : RowM) = ⟨(N.nd.getD k nd0).eh, _, _, (N.nd.getD k nd0).ef.map _⟩
        rw [Zcr hil, if_neg (fun e => hr (by rw [e]))]
      | p k =>
        show (⟨((N.nd.set i (addEf x b cap e)).getD k nd0).ph, _, _, ((N.nd.set i (addEf x b cap e)).getD k nd0).pl.map _⟩ : RowM) = ⟨(N.nd.getD k nd0).ph, _, _, (N.nd.getD k nd0).pl.map _⟩
        rw [Zcr hil, getD_self hx k nd0]
        split <;> rfl) hb rfl hl
  refine h.putNd hx h2 h1 ⟨fun z hz => ?_, (h.e x (List.mem_of_getElem? hx)).2⟩;rcases List.mem_append.1 hz with hz | hz
  · exact (h.e x (List.mem_of_getElem? hx)).1 z hz
  · rw [List.mem_singleton.1 hz]; exact he
theorem Rep.addP {wb mv : Nat} {nb pb : Nat → Nat} {N : Net} {M : MF} (h : Rep wb mv nb pb N M) {i : Nat} {x : Nd} (hx : N.nd[i]? = some x) (e : Nat × Nat) (he : e.1 < N.po.length) {b cap : Nat} (hb : mdelH M x.ph b = none) (hl : ((x.pl ++ [e]).map (plD pb)).length ≤ cap) :
    Rep wb mv nb pb { N with nd := N.nd.set i (addPl x b cap e) } (Za4 (Za4 (mdelH M x.ph) b (.row plaT 2 cap ((x.pl ++ [e]).map (plD pb)))) (nb i) (ndM (addPl x b cap e))) := by
  have hil := (List.getElem?_eq_some_iff.1 hx).1
  obtain ⟨h1, h2⟩ := h.row (N' := { N with nd := N.nd.set i (addPl x b cap e) }) (.p i) (w0 := ⟨x.ph, plaT, 2, x.pl.map (plD pb)⟩) (w1 := ⟨some (b, cap), plaT, 2, (x.pl ++ [e]).map (plD pb)⟩)
    (by show (⟨(N.nd.getD i nd0).ph, _, _, (N.nd.getD i nd0).pl.map _⟩ : RowM) = _; rw [getD_of hx])
    (by show (⟨((N.nd.set i (addPl x b cap e)).getD i nd0).ph, _, _, ((N.nd.set i (addPl x b cap e)).getD i nd0).pl.map _⟩ : RowM) = _; rw [Zcr hil, if_pos rfl]; rfl)
    (fun r hr => by
      cases r with
      | q j => rfl
      | m => rfl
      | n => show (⟨_, _, _, (List.range (N.nd.set i (addPl x b cap e)).length).map _⟩ : RowM) = _; rw [List.length_set]; rfl
      | p k =>
        show (⟨((N.nd.set i (addPl x b cap e)).getD k nd0).ph, _, _, ((N.nd.set i (addPl x b cap e)).getD k nd0).pl.map _⟩ : RowM) = ⟨(N.nd.getD k nd0).ph, _, _, (N.nd.getD k nd0).pl.map _⟩
        rw [Zcr hil, if_neg (fun e => hr (by rw [e]))]
      | e k =>
        show (⟨((N.nd.set i (addPl x b cap e)).getD k nd0).eh, _, _, ((N.nd.set i (addPl x b cap e)).getD k nd0).ef.map _⟩ : RowM) = ⟨(N.nd.getD k nd0).eh, _, _, (N.nd.getD k nd0).ef.map _⟩
        rw [Zcr hil, getD_self hx k nd0]
        split <;> rfl) hb rfl hl
  refine h.putNd hx h2 h1 ⟨(h.e x (List.mem_of_getElem? hx)).1, fun z hz => ?_⟩;rcases List.mem_append.1 hz with hz | hz
  · exact (h.e x (List.mem_of_getElem? hx)).2 z hz
  · rw [List.mem_singleton.1 hz]; exact he
theorem Rep.addQ {wb mv : Nat} {nb pb : Nat → Nat} {N : Net} {M : MF} (h : Rep wb mv nb pb N M) {j : Nat} {y : Po} (hy : N.po[j]? = some y) {i : Nat} (hi : i < N.nd.length) {b cap : Nat} (hb : mdelH M y.qh b = none) (hl : ((y.q ++ [i]).map fun i => ptrD (nb i)).length ≤ cap) :
    Rep wb mv nb pb { N with po := N.po.set j (addQu y b cap i) } (Za4 (Za4 (mdelH M y.qh) b (.row pnT 1 cap ((y.q ++ [i]).map fun i => ptrD (nb i)))) (pb j) (poM (addQu y b cap i))) := by
  have hjl := (List.getElem?_eq_some_iff.1 hy).1
  obtain ⟨h1, h2⟩ := h.row (N' := { N with po := N.po.set j (addQu y b cap i) }) (.q j) (w0 := ⟨y.qh, pnT, 1, y.q.map fun i => ptrD (nb i)⟩) (w1 := ⟨some (b, cap), pnT, 1, (y.q ++ [i]).map fun i => ptrD (nb i)⟩)
    (by show (⟨(N.po.getD j po0).qh, _, _, (N.po.getD j po0).q.map _⟩ : RowM) = _; rw [getD_of hy])
    (by show (⟨((N.po.set j (addQu y b cap i)).getD j po0).qh, _, _, ((N.po.set j (addQu y b cap i)).getD j po0).q.map _⟩ : RowM) = _; rw [Zcr hjl, if_pos rfl]; rfl)
    (fun r hr => by
      cases r with
      | e k => rfl
      | p k => rfl
      | n => rfl
      | m => show (⟨_, _, _, (List.range (N.po.set j (addQu y b cap i)).length).map _⟩ : RowM) = _; rw [List.length_set]; rfl
      | q k =>
        show (⟨((N.po.set j (addQu y b cap i)).getD k po0).qh, _, _, ((N.po.set j (addQu y b cap i)).getD k po0).q.map _⟩ : RowM) = ⟨(N.po.getD k po0).qh, _, _, (N.po.getD k po0).q.map _⟩
        rw [Zcr hjl, if_neg (fun e => hr (by rw [e]))]) hb rfl hl
  refine h.putPo hy h2 h1 fun z hz => ?_;rcases List.mem_append.1 hz with hz | hz
  · exact h.q y (List.mem_of_getElem? hy) z hz
  · rw [List.mem_singleton.1 hz]; exact hi
end Go.Proofs.YtneihdahboilnaaGreat
/- Layer 30: an item is connected with a pool. -/
namespace Go.Proofs.YtneihdahboilnaaGreat
open Go.RowKit

def ers (x : Nd) : Nd := { x with eh := none, ph := none }
def ersP (y : Po) : Po := { y with qh := none }
def ersN (N : Net) : Net := ⟨N.nd.map ers, N.po.map ersP, none, none⟩
def jnX (x : Nd) (j : Nat) (n : Nat) (a : Int) : Nd := { x with ef := x.ef ++ [(j, a)], pl := if a < 0 then x.pl ++ [(j, n)] else x.pl }
def jnY (y : Po) (i : Nat) (a : Int) : Po := { y with sum := y.sum + a, q := if a < 0 then y.q ++ [i] else y.q }
theorem Rep.keepE {wb mv : Nat} {nb pb : Nat → Nat} {N : Net} {M : MF} (h : Rep wb mv nb pb N M) {i : Nat} {x : Nd} (hx : N.nd[i]? = some x) {b : Nat} (hb : mdelH M x.eh b = none) {v : MObj} {b' : Nat} {t : TypeId} {cs : List D} (hm : M b' = some (.cells t cs)) : Za4 (mdelH M x.eh) b v b' = some (.cells t cs) :=
  keepM hb hm fun c hc => by have := ZbA (h.nn i x hx).2.1 hc; rw [hm] at this; cases this
theorem Rep.keepP {wb mv : Nat} {nb pb : Nat → Nat} {N : Net} {M : MF} (h : Rep wb mv nb pb N M) {i : Nat} {x : Nd} (hx : N.nd[i]? = some x) {b : Nat} (hb : mdelH M x.ph b = none) {v : MObj} {b' : Nat} {t : TypeId} {cs : List D} (hm : M b' = some (.cells t cs)) : Za4 (mdelH M x.ph) b v b' = some (.cells t cs) :=
  keepM hb hm fun c hc => by have := ZbA (h.nn i x hx).2.2 hc; rw [hm] at this; cases this
theorem Rep.keepQ {wb mv : Nat} {nb pb : Nat → Nat} {N : Net} {M : MF} (h : Rep wb mv nb pb N M) {j : Nat} {y : Po} (hy : N.po[j]? = some y) {b : Nat} (hb : mdelH M y.qh b = none) {v : MObj} {b' : Nat} {t : TypeId} {cs : List D} (hm : M b' = some (.cells t cs)) : Za4 (mdelH M y.qh) b v b' = some (.cells t cs) :=
  keepM hb hm fun c hc => by have := ZbA (h.pp j y hy).2 hc; rw [hm] at this; cases this
set_option maxRecDepth 100000 in
set_option maxHeartbeats 1000000 in
theorem join_c {wb mv : Nat} {nb pb : Nat → Nat} {N : Net} {M : MF} (h : Rep wb mv nb pb N M) {i j : Nat} {x : Nd} {y : Po} (hx : N.nd[i]? = some x) (hy : N.po[j]? = some y) (a : Int) (ha : -100000000000000000 ≤ a ∧ a ≤ 100000000000000000) (hs : -1000000000000000000 ≤ y.sum ∧ y.sum ≤ 1000000000000000000) (he : x.ef.length ≤ 100000) (hp : x.pl.length ≤ 100000) (hq : y.q.length ≤ 100000) :
    ACalls Tryz.prog 77 [.d (pD (nb i) 0), .d (pD (pb j) 0), .d (intD a)] (HN M) fun r H' => r = .tup [] ∧ ∃ N' M', H' = HN M' ∧ Rep wb mv nb pb N' M' ∧ N'.nh = N.nh ∧ N'.mh = N.mh ∧ (∃ x', N'.nd = N.nd.set i x' ∧ ers x' = ers (jnX x j y.q.length a)) ∧ ∃ y', N'.po = N.po.set j y' ∧ ersP y' = ersP (jnY y i a) := by
  have hxb := h.n i x hx;have hre := (h.nn i x hx).2.1;have hrp := (h.nn i x hx).2.2;have hil := (List.getElem?_eq_some_iff.1 hx).1;have hjl := (List.getElem?_eq_some_iff.1 hy).1;have hqz := Zbu (h.pp j y hy).2;refine Zaz Tryz.func77 rfl rfl Tryz.ntmps77 rfl rfl rfl fun F hF => ?_;refine Zaf (Zab (Zaa.go (Zac rfl rfl) (Zaa.go (Zac rfl rfl) (Zaa.go (ZaD rfl rfl) (Zaa.go (ZaL rfl fi112_1 rfl rfl rfl) (Zaa.go (ZaY (f := 40) rfl rfl (hxb) rfl on109 rfl) (Zaa.go (Zac rfl rfl) (Zaa.go (Zac rfl rfl) ?_))))))));refine Zaa.go (Za0 zl119 pl119 rfl rfl rfl) (Zal.go (ZaC 1 sl109 rfl rfl rfl rfl rfl rfl rfl rfl) (Zal.go (st_appH 10 60 40 hre rfl rfl (by simp) rfl rfl rfl rfl rfl (Za6 (emb := efD pb) x.ef [(j, a)] rfl rfl rfl rfl rfl rfl rfl rfl sl109 (by simp only [List.length_singleton]; omega) rfl rfl rfl rfl)) (o_absorbR 15 60 40 hF rfl rfl rfl (by simp) (by simp) rfl rfl rfl rfl rfl rfl rfl (fun _ _ => rfl) fun b1 c1 hb1 hc1 => (Zaa.go (ZaD rfl rfl) (Zaa.go (ZaL rfl fi112_1 rfl rfl rfl) (Zal.go (Zb9 (f := 40) rfl rfl rfl rfl (h.keepE hx hb1 hxb) ((by show _ < 9; omega)) rfl sz109) (Zae (Zaf ?_))))))));have hR1 := h.addE hx (j, a) hjl hb1 hc1;have hyb := hR1.p j y hy;refine Zab (Zaa.go (Zac rfl rfl) (Zaa.go (ZaD rfl rfl) ?_));refine Zaa.go (ZaL rfl fi121_2 rfl rfl rfl) (Zaa.go (ZaY (f := 40) rfl rfl (hyb) rfl on2 rfl) (Zaa.go (Zac rfl rfl) (Zaa.go (Zay rfl rfl (IntWalk.i64_in _ (by omega)) rfl) (Zaa.go (ZaD rfl rfl) (Zaa.go (ZaL rfl fi121_2 rfl rfl rfl) (Zal.go (Zb9 (f := 40) rfl rfl rfl rfl (hyb) ((by show _ < 10; omega)) rfl sz2) (Zae (Zaf ?_))))))));have hR2 := hR1.setPo (y' := { y with sum := y.sum + a }) hy rfl rfl;have hx2 : (N.nd.set i (addEf x b1 c1 (j, a)))[i]? = some (addEf x b1 c1 (j, a)) := List.getElem?_set_self hil;have hy2 : (N.po.set j { y with sum := y.sum + a })[j]? = some { y with sum := y.sum + a } := List.getElem?_set_self hjl;have hx2b := hR2.n i _ hx2;have hy2b := hR2.p j _ hy2;have hrp2 := (hR2.nn i _ hx2).2.2;refine Zab (Zaa.go (Zac rfl rfl) (Zaa.go (ZaG rfl rfl rfl) (Zae (ZaE rfl (fun h27 => ?_) (fun h27 => ?_)))))
  · refine Zaf (ZaV [[], [], [1], [1, 2], [1, 2, 3], [], [], [6], [6, 7], [6, 7, 8], [6, 7, 8, 9], [5, 6, 7, 8, 9, 10], [5, 6, 7, 8, 9, 10, 11], [1, 2, 3, 4, 5, 6, 7, 8, 9, 10, 11, 12], [0, 1, 2, 3, 4, 5, 6, 7, 8, 9, 10, 11, 12, 13], [0, 1, 2, 3, 4, 5, 6, 7, 8, 9, 10, 11, 12, 13, 14], [0, 1, 2, 3, 4, 5, 6, 7, 8, 9, 10, 11, 12, 13, 14, 15]] mixed rfl (dws (Zah [0] [] rfl rfl (fun _ => Zag (Zac rfl rfl)) ?_)));refine Zah [0] [] rfl rfl (fun _ => Zag (Zac rfl rfl)) (Zah [29] [] rfl rfl (fun _ => Zag (ZaD rfl rfl)) (Zah [30] [] rfl rfl (fun _ => Zag (ZaL rfl fi112_2 rfl rfl rfl)) (Zah [31] [40] rfl rfl (fun _ => Zag (ZaY (f := 40) rfl rfl (hx2b) rfl on110 rfl)) (Zah [1] [] rfl rfl (fun _ => Zag (Zac rfl rfl)) (Zah [1] [] rfl rfl (fun _ => Zag (Zac rfl rfl)) (Zah [34] [] rfl rfl (fun _ => Zag (ZaD rfl rfl)) (Zah [35] [] rfl rfl (fun _ => Zag (ZaL rfl fi121_3 rfl rfl rfl)) (Zah [36] [40] rfl rfl (fun _ => Zag (ZaY (f := 40) rfl rfl (hy2b) rfl on104 rfl)) ?_))))))));refine Zah [37] [] rfl rfl (fun _ => Zag (ZbQ hqz rfl Tryz.underlying104 rfl)) (Zah [33, 38] [] rfl rfl (fun _ => Zag (Za0 zl165 pl165 rfl rfl rfl)) (Zbi [39] [2] [(40, _)] rfl rfl (fun _ => Za7 (ZaC 2 sl110 rfl rfl rfl rfl rfl rfl rfl rfl)) (.inr ⟨40, _, rfl, rfl, rfl, rfl, rfl⟩) rfl rfl rfl rfl rfl (Zbi [32, 40] [61, 40, 2] [(41, _)] rfl rfl (fun _ => Za7 (st_appH 32 61 40 hrp2 rfl rfl (by simp [addEf]) rfl rfl rfl rfl rfl (Za6 (emb := plD pb) x.pl [(j, y.q.length)] rfl rfl rfl rfl rfl rfl rfl rfl sl110 (by simp only [List.length_singleton]; omega) rfl rfl rfl rfl))) (.inr ⟨41, _, rfl, rfl, rfl, rfl, rfl⟩) rfl rfl rfl rfl rfl (dwc 14 rfl rfl rfl (dw1 15 rfl rfl (o_absorbR 41 61 40 hF rfl rfl rfl (by simp) (by simp) rfl rfl rfl rfl rfl rfl rfl (fun _ _ => rfl) fun b2 c2 hb2 hc2 => (Zaa.go (ZaD rfl rfl) (Zae ⟨rfl, ?_⟩))))))));refine dw1 16 rfl rfl (Zaa.go (ZaL rfl fi112_2 rfl rfl rfl) (Zae ⟨rfl, ?_⟩));refine dw1 17 rfl rfl (Zal.go (Zb9 (f := 40) rfl rfl rfl rfl (hR2.keepP hx2 hb2 hx2b) ((by show _ < 9; omega)) rfl sz110) (Zae ⟨rfl, ?_⟩));refine dwe ?_;have hR3 := hR2.addP hx2 (j, y.q.length) (by show j < (N.po.set j _).length; rw [List.length_set]; exact hjl) hb2 hc2;have hy3b := hR3.p j _ hy2;have hrq3 := (hR3.pp j _ hy2).2;refine Zab (Zaa.go (Zac rfl rfl) (Zaa.go (Zac rfl rfl) (Zaa.go (ZaD rfl rfl) (Zaa.go (ZaL rfl fi121_3 rfl rfl rfl) ?_))));refine Zaa.go (ZaY (f := 40) rfl rfl (hy3b) rfl on104 rfl) (Zaa.go (Zac rfl rfl) (Zal.go (ZaC 3 sl104 rfl rfl rfl rfl rfl rfl rfl rfl) (Zal.go (st_appH 48 62 40 hrq3 rfl rfl (by simp) rfl rfl rfl rfl rfl (Za6 (emb := fun i => ptrD (nb i)) y.q [i] rfl rfl rfl rfl rfl rfl rfl rfl sl104 (by simp only [List.length_singleton]; omega) rfl rfl rfl rfl)) (o_absorbR 51 62 40 hF rfl rfl rfl (by simp) (by simp) rfl rfl rfl rfl rfl rfl rfl (fun _ _ => rfl) fun b3 c3 hb3 hc3 => (Zaa.go (ZaD rfl rfl) (Zaa.go (ZaL rfl fi121_3 rfl rfl rfl) (Zal.go (Zb9 (f := 40) rfl rfl rfl rfl (hR3.keepQ hy2 hb3 hy3b) ((by show _ < 10; omega)) rfl sz104) (Zae ?_))))))));have hR4 := hR3.addQ hy2 (i := i) (by show i < ((N.nd.set i _).set i _).length; rw [List.length_set, List.length_set]; exact hil) hb3 hc3;exact ⟨_, [40], _, Zao rfl, rfl, rfl, rfl, _, _, rfl, hR4, rfl, rfl, ⟨_, List.set_set _, by unfold ers addPl addEf jnX; simp [h27]⟩, ⟨_, List.set_set _, by unfold ersP addQu jnY; simp [h27]⟩⟩
  · refine Zaq ?_;exact ⟨_, [40], _, Zao rfl, rfl, rfl, rfl, _, _, rfl, hR2, rfl, rfl, ⟨_, rfl, by unfold ers addEf jnX; simp [h27]⟩, ⟨_, rfl, by unfold ersP jnY; simp [h27]⟩⟩
end Go.Proofs.YtneihdahboilnaaGreat
