/- Layer 30: why an item is not admissible. -/
import Derived.Test.YtneihdahboilnaaGreatMg20
namespace Go.Proofs.YtneihdahboilnaaGreat
open Go.RowKit
set_option maxRecDepth 100000
def idsN (N : Net) : List Int := N.nd.map fun x => x.it.id
def byL (nb : Nat → Nat) (ids : List Int) : List (Int × Value) := (List.range ids.length).map fun i => (ids.getD i 0,pV (nb i) 0)
theorem byL_get {nb : Nat → Nat} {ids : List Int} (hn : ids.Nodup) {i : Nat} (hi : i < ids.length) : mget (byL nb ids) ids[i] (.pointer none) = pV (nb i) 0 := by
  refine ZbT ?_ (List.mem_map.2 ⟨i,List.mem_range.2 hi,by rw [ZaH 0 hi]⟩)
  have : (byL nb ids).map Prod.fst = ids := by
    unfold byL;rw [List.map_map];refine List.ext_getElem (by simp) fun j h1 h2 => ?_;simp only [List.getElem_map,List.getElem_range,Function.comp];exact ZaH 0 h2
  rw [this]; exact hn
abbrev HW (mv : Nat) (bs : Option (List Nat × Nat)) (L : List (Int × Value)) (M : MF) : Hp := [(40,[.multi M]),(50,[.map bs (ents intD rawD L)]),(51,[.addr 50 0 (.map (some mv))])]
structure Exc where
  id : Int
  re : Int
  r : Rsc
  by_ : Int
def rscZ : Rsc := ⟨0,accZ,[],[]⟩
def exc0 : Exc := ⟨0,0,rscZ,0⟩
abbrev excD (e : Exc) : D := .agg [intD e.id,intD e.re,intD e.r.k,strD e.r.acc.o,intD e.r.acc.k,strD e.r.acc.a,strD e.r.f,strD e.r.t,intD e.by_]
abbrev excR (o : Option Exc) : D := .tup [excD (o.getD exc0),boolD o.isSome]
def badP (N : Net) (e : Nat × Nat) : Bool := decide ((N.po.getD e.1 po0).mi < e.2)
def excQ (N : Net) (x : Nd) (e : Nat × Nat) : Exc := ⟨x.it.id,1,(N.po.getD e.1 po0).r,(N.nd.getD ((N.po.getD e.1 po0).q.getD (N.po.getD e.1 po0).mi 0) nd0).it.id⟩
def offOf (N : Net) (id : Int) : Bool := !(N.nd.getD ((idsN N).idxOf id) nd0).on
def inadm (N : Net) (x : Nd) : Option Exc := match x.pl.find? (badP N) with
  | some e => some (excQ N x e)
  | none => match x.it.af.find? (offOf N) with
    | some id => some ⟨x.it.id,2,rscZ,id⟩
    | none => none
theorem find_at {α : Type} {p : α → Bool} : ∀ {l : List α} {k : Nat} (hk : k < l.length),(∀ x ∈ l.take k,p x = false) → p l[k] = true → l.find? p = some l[k]
  | a :: l,0,_,_,h => by simp at h; simp [List.find?_cons,h]
  | a :: l,k + 1,hk,h0,h => by
    have h1 : p a = false := h0 a (by simp);have ih := find_at (l := l) (k := k) (by simpa using hk) (fun x hx => h0 x (by simp [hx])) (by simpa using h);rw [List.find?_cons,h1]; simpa using ih
theorem Zcd {α : Type} {p : α → Bool} {l : List α} (h : ∀ x ∈ l,p x = false) : l.find? p = none := List.find?_eq_none.2 fun x hx => by rw [h x hx]; simp
structure NetW (N : Net) : Prop where
  i : (idsN N).Nodup
  a : ∀ x ∈ N.nd, ∀ id ∈ x.it.af,id ∈ idsN N
  l : ∀ x ∈ N.nd,x.ef.length ≤ 60 ∧ x.pl.length ≤ 1000 ∧ x.it.af.length ≤ 1000
  e : ∀ x ∈ N.nd, ∀ e ∈ x.ef, -100000000000000000 ≤ e.2 ∧ e.2 ≤ 100000000000000000
  p : ∀ x ∈ N.nd, ∀ e ∈ x.pl,e.2 < (N.po.getD e.1 po0).q.length ∧ e.2 ≤ 1000000
  m : ∀ y ∈ N.po,y.mi ≤ 1000000
  rm : ∀ y ∈ N.po, -1000000000000000000 ≤ y.room ∧ y.room ≤ 1000000000000000000
  n : N.nd.length ≤ 1000 ∧ N.po.length ≤ 1000
  ql : ∀ y ∈ N.po,y.q.length ≤ 1000
set_option maxHeartbeats 1000000 in
theorem inadm_c {wb mv : Nat} {nb pb : Nat → Nat} {N : Net} {M : MF} (bs : Option (List Nat × Nat)) (h : Rep wb mv nb pb N M) (hw : NetW N) {i : Nat} {x : Nd} (hx : N.nd[i]? = some x) :
    ACalls Tryz.prog 78 [.d (pD wb 0), .d (pD (nb i) 0)] (HW mv bs (byL nb (idsN N)) M) fun r H' => r = .d (excR (inadm N x)) ∧ H' = HW mv bs (byL nb (idsN N)) M := by
  have hwb := h.w;have hxm := List.mem_of_getElem? hx;obtain ⟨hxb,hre,hrp⟩ := h.nn i x hx;have hpz := Zbs hrp;obtain ⟨_,hpl,hafl⟩ := hw.l x hxm;have hxe := h.e x hxm;have hxp := hw.p x hxm;have hxa := hw.a x hxm;refine ZaB Tryz.func78 rfl rfl Tryz.ntmps78 rfl rfl rfl fun F hF => (Zad (Zab (Zaj.go (ZaQ 1 zl53 rfl rfl rfl rfl) (goAs rfl rfl (Zac (Zad (Zad (Zab ?_))))))));refine goMv rfl rfl (Zaa.go (Zax rfl rfl) (Zaa.go (Zav rfl fi112_2 rfl rfl rfl) (Zaa.go (ZaV (f := 40) rfl rfl (hxb) rfl on110 rfl) (Zaa.go (ZbV hpz rfl Tryz.underlying110 rfl) (goMv rfl rfl (Zac (Zam (ZaK (α := Nat) (fun k => ⟨85,[(0, .d (pD wb 0)),(1, .d (pD (nb i) 0)),(4,(.ptr 1 0 0)),(13,(.d (hdr x.ph x.pl.length))),(14,(.d (intD (x.pl.length : Int)))),(15,(.d (intD (k : Int))))],(1,[.blk 53 [.d (intD 0), .d (intD 0), .d (intD 0), .d (strD []), .d (intD 0), .d (strD []), .d (strD []), .d (strD []), .d (intD 0)]]) :: HW mv bs (byL nb (idsN N)) M⟩) (fun k => k ≤ x.pl.length ∧ ∀ e ∈ x.pl.take k,badP N e = false) (fun k => x.pl.length - k) (0) (⟨Nat.zero_le _,by simp⟩) (Zaq hF [1,40,50,51] rfl rfl ⟨rfl,rfl,rfl,rfl,rfl,rfl,trivial⟩) ?_))))))));rintro k ⟨hk0,hkb⟩;refine Zad (Zab (Zaa.go (ZaI rfl rfl rfl) (Zac (Zad (ZaF rfl (fun h16 => ?_) (fun h16 => ?_))))))
  · have hk1 : k < x.pl.length := ZaN h16;refine Zap (Zad (Zam (Zad ?_)));obtain ⟨eb,ec,hee⟩ := Zbr hrp hk1;have hrow := Zby hrp hee;have hjl : x.pl[k].1 < N.po.length := hxe.2 _ (List.getElem_mem hk1)
    obtain ⟨y,hy⟩ : ∃ y,N.po[x.pl[k].1]? = some y := ⟨_,List.getElem?_eq_getElem hjl⟩
    have hgy : N.po.getD x.pl[k].1 po0 = y := by rw [List.getD_eq_getElem?_getD,hy]; rfl
    obtain ⟨hyb,hyq⟩ := h.pp _ y hy;have hpk := hxp _ (List.getElem_mem hk1);rw [hgy] at hpk;refine Zab (Zaa.go (ZbB hee (k) rfl rfl rfl hk1 Tryz.underlying110 sz165 rfl) ?_);refine Zaa.go (st_loadRNS (f := 40) (e := k) rfl (rfl) rfl (hrow) (getm hk1) rfl rw165 rfl) (Zaj.go (ZaQ 2 zl165 rfl rfl rfl rfl) (Zaj.go (Zaz rfl rfl rfl rfl rfl rfl rfl sz165) (Zac (Zad (ZaT [[],[0],[0,1],[0,1,2],[0,1,2,3],[],[5],[0,1,2,3,4,5,6]] mixed rfl (dws (Zaf [7] [] rfl rfl (fun _ => Zae (Zag rfl fi165_0 rfl rfl rfl)) (Zaf [19] [2] rfl rfl (fun _ => Zae (Zah rfl rfl rfl on117 rfl)) ?_))))))));refine Zaf [20] [] rfl rfl (fun _ => Zae (Zax rfl rfl)) (Zaf [21] [] rfl rfl (fun _ => Zae (Zav rfl fi121_4 rfl rfl rfl)) (Zaf [22] [40] rfl rfl (fun _ => Zae (ZaV (f := 40) rfl rfl (hyb) rfl on3 rfl)) (Zaf [7] [] rfl rfl (fun _ => Zae (Zag rfl fi165_1 rfl rfl rfl)) (Zaf [24] [2] rfl rfl (fun _ => Zae (Zah rfl rfl rfl on3 rfl)) (dwc 7 rfl rfl rfl (dw1 8 rfl rfl (Zaa.go (ZaI rfl rfl rfl) (Zac ⟨rfl, ?_⟩))))))));refine dwe (ZaF rfl (fun h26 => ?_) (fun h26 => ?_))
    · refine Zad ?_;have hmq : y.mi < y.q.length := by have h := h26; omega
      obtain ⟨qb,qc,hqe⟩ := Zbr hyq hmq;have hqrow := Zby hyq hqe;have hni : y.q[y.mi] < N.nd.length := h.q y (List.mem_of_getElem? hy) _ (List.getElem_mem hmq)
      obtain ⟨z,hz⟩ : ∃ z,N.nd[y.q[y.mi]]? = some z := ⟨_,List.getElem?_eq_getElem hni⟩
      obtain ⟨hzb,_,_⟩ := h.nn _ z hz;have hbad : inadm N x = some ⟨x.it.id,1,y.r,z.it.id⟩ := by unfold inadm; rw [find_at hk1 hkb (by unfold badP; rw [hgy]; exact decide_eq_true (by have h := h26; omega))]; unfold excQ; dsimp only; rw [hgy,ZaH 0 hmq,List.getD_eq_getElem?_getD,hz]; rfl
      refine ZaT [[],[0],[0,1],[0,1,2],[0,1,2,3],[],[5],[5,6],[5,6,7],[5,6,7,8],[],[10],[10,11],[10,11,12],[10,11,12,13],[],[15],[15,16],[15,16,17],[15,16,17,18],[10,11,12,13,14,15,16,17,18,19],[10,11,12,13,14,15,16,17,18,19,20],[10,11,12,13,14,15,16,17,18,19,20,21],[10,11,12,13,14,15,16,17,18,19,20,21,22],[10,11,12,13,14,15,16,17,18,19,20,21,22,23],[10,11,12,13,14,15,16,17,18,19,20,21,22,23,24],[0,1,2,3,4,5,6,7,8,9,10,11,12,13,14,15,16,17,18,19,20,21,22,23,24,25],[0,1,2,3,4,5,6,7,8,9,10,11,12,13,14,15,16,17,18,19,20,21,22,23,24,25,26],[0,1,2,3,4,5,6,7,8,9,10,11,12,13,14,15,16,17,18,19,20,21,22,23,24,25,26,27]] mixed rfl (dws (Zaf [1] [] rfl rfl (fun _ => Zae (Zar rfl rfl)) (Zaf [27] [] rfl rfl (fun _ => Zae (Zax rfl rfl)) (Zaf [28] [] rfl rfl (fun _ => Zae (Zav rfl fi112_0 rfl rfl rfl)) ?_))));refine Zaf [29] [] rfl rfl (fun _ => Zae (Zav rfl Zbz rfl rfl rfl)) (Zaf [30] [40] rfl rfl (fun _ => Zae (ZaV (f := 40) rfl rfl (hxb) rfl on3 rfl)) (Zaf [7] [] rfl rfl (fun _ => Zae (Zag rfl fi165_0 rfl rfl rfl)) (Zaf [32] [2] rfl rfl (fun _ => Zae (Zah rfl rfl rfl on117 rfl)) (Zaf [33] [] rfl rfl (fun _ => Zae (Zax rfl rfl)) (Zaf [34] [] rfl rfl (fun _ => Zae (Zav rfl fi121_0 rfl rfl rfl)) (Zaf [35] [40] rfl rfl (fun _ => Zae (st_loadNS (f := 40) rfl rfl (hyb) rw51 rfl rfl (by simp [D.one]) rfl)) (Zaf [7] [] rfl rfl (fun _ => Zae (Zag rfl fi165_0 rfl rfl rfl)) (Zaf [37] [2] rfl rfl (fun _ => Zae (Zah rfl rfl rfl on117 rfl)) ?_))))))));refine Zaf [38] [] rfl rfl (fun _ => Zae (Zax rfl rfl)) (Zaf [39] [] rfl rfl (fun _ => Zae (Zav rfl fi121_3 rfl rfl rfl)) (Zaf [40] [40] rfl rfl (fun _ => Zae (ZaV (f := 40) rfl rfl (hyb) rfl on104 rfl)) (Zaf [7] [] rfl rfl (fun _ => Zae (Zag rfl fi165_0 rfl rfl rfl)) (Zaf [42] [2] rfl rfl (fun _ => Zae (Zah rfl rfl rfl on117 rfl)) (Zaf [43] [] rfl rfl (fun _ => Zae (Zax rfl rfl)) (Zaf [44] [] rfl rfl (fun _ => Zae (Zav rfl fi121_4 rfl rfl rfl)) (Zaf [45] [40] rfl rfl (fun _ => Zae (ZaV (f := 40) rfl rfl (hyb) rfl on3 rfl)) (Zaf [41,46] [] rfl rfl (fun _ => Zae (ZbB hqe (y.mi) rfl rfl rfl hmq Tryz.underlying104 sz103 rfl)) ?_))))))));refine Zaf [47] [40] rfl rfl (fun _ => Zae (Zca (f := 40) (e := y.mi) (off := 0) rfl (by omega) rfl (hqrow) (getm hmq) rfl on103 rfl)) (Zaf [48] [] rfl rfl (fun _ => Zae (Zax rfl rfl)) (Zaf [49] [] rfl rfl (fun _ => Zae (Zav rfl fi112_0 rfl rfl rfl)) (Zaf [50] [] rfl rfl (fun _ => Zae (Zav rfl Zbz rfl rfl rfl)) (Zaf [51] [40] rfl rfl (fun _ => Zae (ZaV (f := 40) rfl rfl (hzb) rfl on3 rfl)) (dwc 26 rfl rfl rfl (dw1 27 rfl rfl (Zaa.go (Za0 zl53 pl53 rfl rfl rfl) (Zac ⟨rfl, ?_⟩))))))));refine dw1 28 rfl rfl (Zaj.go (Zaz rfl rfl rfl rfl rfl rfl rfl sz53) (Zac ⟨rfl, ?_⟩));refine dw1 29 rfl rfl (goAs rfl rfl (Zac ⟨rfl, ?_⟩));refine dwe (Zao ?_);exact ⟨_,[40,50,51],_,Zak rfl,rfl,rfl,by rw [hbad]; rfl,rfl⟩
    · refine Zap (Zab (Zaa.go (Zay rfl rfl (wrapS (k + 1) (by omega)) rfl) (goMv rfl rfl (Zac ?_))));exact ⟨k + 1,⟨by show k + 1 ≤ _; omega,by rw [List.take_succ_eq_append_getElem hk1]; intro e he; rcases List.mem_append.1 he with he | he; exact hkb e he; rw [List.mem_singleton.1 he]; unfold badP; rw [hgy]; exact decide_eq_false (by have h := h26; omega)⟩,by show x.pl.length - (k + 1) < x.pl.length - k; omega,Zaq hF [1,40,50,51] rfl (rfl) ⟨rfl,rfl,rfl,rfl,rfl,rfl,trivial⟩⟩
  · refine ZaL (Zad (Zad ?_));have hpn : x.pl.find? (badP N) = none := Zcd (by have e : k = x.pl.length := (by have h := h16; omega); rw [e,List.take_length] at hkb; exact hkb);refine Zab (goMv rfl rfl ?_);refine Zaa.go (Zax rfl rfl) (Zaa.go (Zav rfl fi112_0 rfl rfl rfl) (Zaa.go (Zav rfl fi91_5 rfl rfl rfl) (Zaa.go (ZaV (f := 40) rfl rfl (hxb) rfl on28 rfl) (Zaa.go (ZaA rfl Tryz.underlying28 rfl) (goMv rfl rfl (Zac (Zam (ZaK (α := Nat) (fun j => ⟨85,[(0, .d (pD wb 0)),(1, .d (pD (nb i) 0)),(4,(.ptr 1 0 0)),(59,(.d (.sl none (x.it.af.map intD)))),(60,(.d (intD (x.it.af.length : Int)))),(61,(.d (intD (j : Int))))],(1,[.blk 53 [.d (intD 0), .d (intD 0), .d (intD 0), .d (strD []), .d (intD 0), .d (strD []), .d (strD []), .d (strD []), .d (intD 0)]]) :: HW mv bs (byL nb (idsN N)) M⟩) (fun j => j ≤ x.it.af.length ∧ ∀ id ∈ x.it.af.take j,offOf N id = false) (fun j => x.it.af.length - j) (0) (⟨Nat.zero_le _,by simp⟩) (Zaq hF [1,40,50,51] rfl rfl ⟨rfl,rfl,rfl,rfl,rfl,rfl,trivial⟩) ?_))))))));rintro j ⟨hj0,hjb⟩;refine Zad (Zab (Zaa.go (ZaI rfl rfl rfl) (Zac (Zad (ZaF rfl (fun h62 => ?_) (fun h62 => ?_))))))
    · have hj1 : j < x.it.af.length := ZaN h62;refine Zap (Zad (Zam (Zad ?_)));have hidm := hxa _ (List.getElem_mem hj1);have hil := List.idxOf_lt_length_of_mem hidm;have hil2 : (idsN N).idxOf x.it.af[j] < N.nd.length := by unfold idsN at hil ⊢; rw [List.length_map] at hil; exact hil
      obtain ⟨z,hz⟩ : ∃ z,N.nd[(idsN N).idxOf x.it.af[j]]? = some z := ⟨_,List.getElem?_eq_getElem hil2⟩
      have hgz : N.nd.getD ((idsN N).idxOf x.it.af[j]) nd0 = z := by rw [List.getD_eq_getElem?_getD,hz]; rfl
      obtain ⟨hzb,_,_⟩ := h.nn _ z hz;have hby := byL_get (nb := nb) hw.i hil;rw [List.getElem_idxOf hil] at hby;refine Zab (Zaa.go (Zat (j) rfl rfl (rfl) (getm hj1) Tryz.underlying28 rfl sz3 rfl) ?_);refine Zaa.go (ZaE rfl rfl on3 rfl) (goAs rfl rfl (Zac (Zad (Zab (goMv rfl rfl (Zaa.go (Zax rfl rfl) (Zaa.go (Zav rfl fi108_2 rfl rfl rfl) (Zaa.go (ZaV (f := 40) rfl rfl (hwb) rfl on106 rfl) ?_))))))));refine o_rawMap 68 51 0 rfl rfl (goMv rfl rfl (Zaa.go (Zbw (byL nb (idsN N)) x.it.af[j] (.pointer none) (pV (nb ((idsN N).idxOf x.it.af[j])) 0) rfl rfl rfl mt106 kt3 za103 hby rfl) (Zaa.go (Zax rfl rfl) (Zaa.go (Zav rfl Zb5 rfl rfl rfl) (Zaa.go (ZaV (f := 40) rfl rfl (hzb) rfl on4 rfl) (Zaa.go (st_not rfl rfl) (Zac (Zbm rfl (fun h74 => ?_) (fun h74 => ?_)))))))))
      · refine Zad (Zab (goMv rfl rfl (Zaa.go (Zax rfl rfl) (Zaa.go (Zav rfl fi112_0 rfl rfl rfl) ?_))));refine Zaa.go (Zav rfl Zbz rfl rfl rfl) (Zaa.go (ZaV (f := 40) rfl rfl (hxb) rfl on3 rfl) (Zaa.go (Za0 zl51 pl51 rfl rfl rfl) (goMv rfl rfl (Zaa.go (Za0 zl53 pl53 rfl rfl rfl) (Zaj.go (Zaz rfl rfl rfl rfl rfl rfl rfl sz53) (goAs rfl rfl (Zac (Zao ?_))))))));exact ⟨_,[40,50,51],_,Zak rfl,rfl,rfl,by unfold inadm; rw [hpn]; dsimp only; rw [find_at hj1 hjb (by unfold offOf; rw [hgz]; simpa using h74)]; rfl,rfl⟩
      · refine Zap (Zab (Zaa.go (Zay rfl rfl (wrapS (j + 1) (by omega)) rfl) (goMv rfl rfl (Zac ?_))));exact ⟨j + 1,⟨by show j + 1 ≤ _; omega,by rw [List.take_succ_eq_append_getElem hj1]; intro e he; rcases List.mem_append.1 he with he | he; exact hjb e he; rw [List.mem_singleton.1 he]; unfold offOf; rw [hgz]; simpa using h74⟩,by show x.it.af.length - (j + 1) < x.it.af.length - j; omega,Zaq hF [1,40,50,51] rfl (rfl) ⟨rfl,rfl,rfl,rfl,rfl,rfl,trivial⟩⟩
    · refine ZaL (Zad (Zab (Zaa.go (Za0 zl53 pl53 rfl rfl rfl) (Zaj.go (Zaz rfl rfl rfl rfl rfl rfl rfl sz53) (goAs rfl rfl (Zac (Zao ?_)))))));exact ⟨_,[40,50,51],_,Zak rfl,rfl,rfl,by unfold inadm; rw [hpn]; dsimp only; rw [Zcd (by have e : j = x.it.af.length := (by have h := h62; omega); rw [e,List.take_length] at hjb; exact hjb)]; rfl,rfl⟩
abbrev fBack : FuncId := 101
theorem backF_c (h : Hd) (n : Nat) : ACalls Tryz.prog 79 [.d (hdr h n)] [] fun r H' => r = .fn fBack [.d (.ptr (hdr h n))] ∧ H' = [] := by
  refine ZaB Tryz.func79 rfl rfl Tryz.ntmps79 rfl rfl rfl fun F hF => (Zad (Zab (Zaj.go (ZaS 1 rfl rfl rfl rfl rfl rfl rfl) ?_)));refine goAs rfl rfl (Zac (Zad (Zab (o_freezeB 1 1 (hdr h n) [] hF rfl rfl rfl (by intro c hc; simp [D.cells] at hc; subst hc; rfl) rfl rfl rfl (Zaa.go (st_makeFunc rfl rfl) (goAs rfl rfl (Zac (Zao ?_))))))));exact ⟨_,[],[],Zak rfl,rfl,rfl,rfl,rfl⟩
def revL (q : List Nat) : Nat → List (Nat × Nat)
  | 0 => []
  | c + 1 => (c,q.getD c 0) :: revL q c
def encB (nb : Nat → Nat) (e : Nat × Nat) : List AV := [.d (intD (e.1 : Int)), .d (ptrD (nb e.2))]
section
variable {β : Type}
theorem back1_c (nb : Nat → Nat) (q : List Nat) (hq : q.length ≤ 100000) {M : MF} {h : Hd} (hrow : rowAt M h 103 1 (q.map fun i => ptrD (nb i))) (l : Nat) (H : β → Hp) (N : List Nat) (step : β → Nat × Nat → β × Bool) (st0 : β) (hN : ∀ st,hpN (H st) = N) (hI : ∀ st,hpIn N (H st) = true) (hP : ∀ st,part? (H st) N = some (H st)) (hM : ∀ st,hfam (H st) 40 = some [.multi M])
    (hfe : Feeds Tryz.prog l (encB nb) H step st0 (revL q q.length)) :
    ACalls Tryz.prog fBack [.d (.raw (yieldV l)), .d (.ptr (hdr h q.length))] (H st0) fun r H' => r = .tup [] ∧ H' = H (feed step st0 (revL q q.length)) := by
  have hz := Zbs hrow;have x5 : ∀ st,namesIn N (H st) = true := fun st => by have h := namesIn_all (H st); rw [hN] at h; exact h
  have x6 : ∀ st,rest? N (H st) = some [] := fun st => by have h := rest?_all (H st); rw [hN] at h; exact h
  refine ZaB Tryz.func101 rfl rfl Tryz.ntmps101 rfl rfl rfl fun F hF => ?_;refine Zad (Zab (Zaa.go (ZaE rfl rfl on104 rfl) (Zaa.go (ZbV hz rfl Tryz.underlying104 rfl) (Zaa.go (st_sub rfl rfl (IntWalk.i64_in _ (by omega)) rfl) (goAs rfl rfl (Zac (Zam (a_loop (α := Nat × β) (fun p => ⟨19,[(0, .d (.raw (yieldV l))),(1, .d (.ptr (hdr h q.length))),(3,(.d (intD ((p.1 : Int) - 1))))],H p.2⟩) (fun p => p.1 ≤ q.length ∧ Feeds Tryz.prog l (encB nb) H step p.2 (revL q p.1) ∧ feed step p.2 (revL q p.1) = feed step st0 (revL q q.length)) (fun p => p.1) ((q.length,st0)) (⟨Nat.le_refl _,hfe,rfl⟩) (le_of_has ⟨rfl,rfl,rfl,trivial⟩) ?_))))))));rintro ⟨c,st⟩ ⟨hc0,hfk,hfin⟩;dsimp only at hc0 hfk hfin ⊢;refine Zad (Zad (Zab (goMv rfl rfl (Zaa.go (st_geq rfl rfl rfl) (Zac (ZaF rfl (fun h8 => ?_) (fun h8 => ?_)))))))
  · obtain ⟨k,rfl⟩ : ∃ k,c = k + 1 := ⟨c - 1,by have h := h8; omega⟩
    refine Zap (Zad (Zam (Zad ?_)));have hkq : k < q.length := by omega
    obtain ⟨qb,qc,hqe⟩ := Zbr hrow hkq;have hqrow := Zby hrow hqe;have hk1 : ((k + 1 : Nat) : Int) - 1 = (k : Int) := by omega
    rw [hk1];refine Zab (goMv rfl rfl (goMv rfl rfl (Zaa.go (ZaE rfl rfl on104 rfl) (goMv rfl rfl (Zaa.go (ZbB hqe (k) rfl rfl rfl hkq Tryz.underlying104 sz103 rfl) (Zaa.go (Zca (f := 40) (e := k) (off := 0) rfl (by omega) (hM st) hqrow (getm hkq) rfl on103 rfl) ?_))))));rw [← ZaH 0 hkq];refine o_yieldX rfl rfl hfk.1 N (famsEq_of fun _ _ => rfl) (x5 st) (x6 st) rfl rfl (fun r H' ⟨e1,e2⟩ => by subst e1 e2; exact ⟨x5 _,hI _,rfl⟩) rfl fun r H' ⟨e1,e2⟩ => ?_; subst e1 e2; rw [List.append_nil];refine Zaa.go (st_not rfl rfl) (Zac (Zbm rfl (fun h18 => ?_) (fun h18 => ?_)))
    · have hgo : (step st (k,q.getD k 0)).2 = false := by simpa using h18
      refine Zao ?_;exact ⟨_,N,_,Zak rfl,hP _,x5 _,rfl,by rw [← hfin]; show H _ = H (feed step st ((k,q.getD k 0) :: revL q k)); rw [feed_cons',if_neg (by rw [hgo]; decide)]⟩
    · have hgo : (step st (k,q.getD k 0)).2 = true := by simpa using h18
      refine Zap (Zab (goMv rfl rfl (Zaa.go (st_sub rfl rfl (IntWalk.i64_in _ (by omega)) rfl) (goAs rfl rfl (Zac ?_)))));exact ⟨(k,(step st (k,q.getD k 0)).1),⟨by show k ≤ _; omega,hfk.2 hgo,by show feed step (step st (k,q.getD k 0)).1 (revL q k) = _; rw [← hfin]; show _ = feed step st ((k,q.getD k 0) :: revL q k); rw [feed_cons',if_pos hgo]⟩,by show k < k + 1; omega,⟨rfl,rfl,fun _ _ => Has.get (l := [(0,_),(1,_),(3,_)]) ⟨rfl,rfl,rfl,trivial⟩⟩⟩
  · refine ZaL ?_;exact ⟨_,N,_,Zak rfl,hP _,x5 _,rfl,by rw [← hfin]; have e : c = 0 := (by have h := h8; omega); rw [e]; rfl⟩
end
theorem Awp.code {P : Program} {F : Fr} {Q : Exit → AS → Prop} {s : AS} {c c' : Code} (e : c = c') (h : Awp P F c' Q s) : Awp P F c Q s := e ▸ h
def onN (N : Net) (i : Nat) : Bool := (N.nd.getD i nd0).on
def ndX (N : Net) (x : Nd) : Option Exc := if x.on = true then inadm N x else none
def poX (N : Net) (y : Po) : Option Exc := if ovP y y.sum = true then (y.q.reverse.find? (onN N)).map fun i => ⟨(N.nd.getD i nd0).it.id,0,y.r, -1⟩ else none
def nextN (N : Net) : Option Exc := match N.nd.findSome? (ndX N) with
  | some e => some e
  | none => N.po.findSome? (poX N)
theorem findSome_at {α β : Type} {f : α → Option β} : ∀ {l : List α} {k : Nat} (hk : k < l.length) {b : β},(∀ x ∈ l.take k,f x = none) → f l[k] = some b → l.findSome? f = some b
  | a :: l,0,_,b,_,h => by simp at h; rw [List.findSome?_cons,h]
  | a :: l,k + 1,hk,b,h0,h => by
    have h1 : f a = none := h0 a (by simp);have ih := findSome_at (l := l) (k := k) (by simpa using hk) (fun x hx => h0 x (by simp [hx])) (by simpa using h);rw [List.findSome?_cons,h1]; exact ih
theorem findSome_no {α β : Type} {f : α → Option β} {l : List α} (h : ∀ x ∈ l,f x = none) : l.findSome? f = none := List.findSome?_eq_none_iff.2 h
def stR : Bool → LoopState
  | true => .done
  | false => .ready
def pdR : Bool → Option Code
  | true => some .ret
  | false => none
def stepB (N : Net) (_st : Option Nat) (e : Nat × Nat) : Option Nat × Bool := if onN N e.2 = true then (some e.2,false) else (none,true)
theorem feed_B (N : Net) (q : List Nat) : ∀ n,n ≤ q.length → feed (stepB N) none (revL q n) = ((q.take n).reverse.find? (onN N))
  | 0,_ => rfl
  | n + 1,h => by
    have hn : n < q.length := by omega
    show feed (stepB N) none ((n,q.getD n 0) :: revL q n) = _;rw [feed_cons',List.take_succ_eq_append_getElem hn,List.reverse_append,List.reverse_singleton,List.singleton_append,List.find?_cons,ZaH 0 hn];unfold stepB;dsimp only
    cases ho : onN N q[n] with
    | true => rfl
    | false => exact feed_B N q n (by omega)
theorem feeds_B {P : Program} {l : Nat} {nb : Nat → Nat} {H : Option Nat → Hp} (N : Net) (q : List Nat) (hY : ∀ k (hk : k < q.length),YCalls P l (encB nb (k,q[k])) (H none) fun v H' => v = .d (.raw (.bool (!onN N q[k]))) ∧ H' = H (if onN N q[k] = true then some q[k] else none)) : ∀ n,n ≤ q.length → Feeds P l (encB nb) H (stepB N) none (revL q n)
  | 0,_ => trivial
  | n + 1,h => by
    have hn : n < q.length := by omega
    have hy := hY n hn;show Feeds P l (encB nb) H (stepB N) none ((n,q.getD n 0) :: revL q n);rw [ZaH 0 hn];refine ⟨hy.mono fun v H' ⟨e1,e2⟩ => ⟨by rw [e1]; unfold stepB; cases onN N q[n] <;> rfl,by rw [e2]; unfold stepB; cases onN N q[n] <;> rfl⟩,fun hgo => ?_⟩
    have hoff : onN N q[n] = false := by
      cases ho : onN N q[n] with
      | false => rfl
      | true => unfold stepB at hgo; dsimp only at hgo; rw [ho] at hgo; cases hgo
    have : (stepB N none (n,q[n])).1 = none := by unfold stepB; dsimp only; rw [hoff]; rfl
    rw [this];exact feeds_B N q hY n (by omega)
abbrev excB (e : Exc) : AObj := .blk 53 [.d (intD e.id), .d (intD e.re), .d (intD e.r.k), .d (strD e.r.acc.o), .d (intD e.r.acc.k), .d (strD e.r.acc.a), .d (strD e.r.f), .d (strD e.r.t), .d (intD e.by_)]
def fndE (N : Net) (y : Po) (o : Option Nat) : Exc := match o with
  | none => exc0
  | some i => ⟨(N.nd.getD i nd0).it.id,0,y.r, -1⟩
abbrev hBk (N : Net) (y : Po) (pbk mv : Nat) (bs : Option (List Nat × Nat)) (L : List (Int × Value)) (M : MF) (o : Option Nat) : Hp := [(1,[excB (fndE N y o)]),(2,[.blk 4 [.d (boolD o.isSome)]]),(4,[.blk 117 [.d (ptrD pbk)]]),(40,[.multi M]),(50,[.map bs (ents intD rawD L)]),(51,[.addr 50 0 (.map (some mv))])]
set_option maxHeartbeats 2000000 in
theorem next_c {wb mv : Nat} {nb pb : Nat → Nat} {N : Net} {M : MF} (bs : Option (List Nat × Nat)) (h : Rep wb mv nb pb N M) (hw : NetW N) (hs : sumB N.po 1000000000000000000) :
    ACalls Tryz.prog 44 [.d (pD wb 0)] (HW mv bs (byL nb (idsN N)) M) fun r H' => r = .d (excR (nextN N)) ∧ H' = HW mv bs (byL nb (idsN N)) M := by
  have hwb := h.w;have hnr : rowAt M N.nh 103 1 ((List.range N.nd.length).map fun i => ptrD (nb i)) := h.rs.1 .n;have hpr : rowAt M N.mh 117 1 ((List.range N.po.length).map fun j => ptrD (pb j)) := h.rs.1 .m;have hnz := Zbs hnr;have hpz := Zbs hpr;rw [List.length_range] at hnz hpz;have hnl := hw.n
  obtain ⟨L,hL⟩ : ∃ L,byL nb (idsN N) = L := ⟨_,rfl⟩
  have hina := fun i x hx => inadm_c (i := i) (x := x) bs h hw hx;rw [hL] at hina ⊢;refine a_enterR Tryz.func44 rfl rfl Tryz.ntmps44 rfl rfl rfl fun F hF hFl => (Zad (Zab (Zaj.go (ZaQ 1 zl53 rfl rfl rfl rfl) (Zaj.go (ZaQ 2 zl4 rfl rfl rfl rfl) (Zac (Zad (Zad (Zab ?_))))))));refine goMv rfl rfl (Zaa.go (Zax rfl rfl) (Zaa.go (Zav rfl ZbX rfl rfl rfl) (Zaa.go (ZaV (f := 40) rfl rfl (hwb) rfl on104 rfl) (Zaa.go (ZbV hnz rfl Tryz.underlying104 rfl) (goMv rfl rfl (Zac (Zam (ZaK (α := Nat) (fun k => ⟨74,[(0, .d (pD wb 0)),(2,(.ptr 1 0 0)),(3,(.ptr 2 0 0)),(15,(.d (hdr N.nh N.nd.length))),(16,(.d (intD (N.nd.length : Int)))),(17,(.d (intD (k : Int))))],(1,[excB exc0]) :: (2,[.blk 4 [.d (boolD false)]]) :: HW mv bs L M⟩) (fun k => k ≤ N.nd.length ∧ ∀ x ∈ N.nd.take k,ndX N x = none) (fun k => N.nd.length - k) (0) (⟨Nat.zero_le _,by simp⟩) (Zaq hF [1,2,40,50,51] rfl rfl ⟨rfl,rfl,rfl,rfl,rfl,rfl,trivial⟩) ?_))))))));rintro k ⟨hk0,hkb⟩;refine Zad (Zab (Zaa.go (ZaI rfl rfl rfl) (Zac (Zad (ZaF rfl (fun h18 => ?_) (fun h18 => ?_))))))
  · have hk1 : k < N.nd.length := ZaN h18;refine Zap (Zad (Zam (Zad ?_)))
    obtain ⟨x,hx⟩ : ∃ x,N.nd[k]? = some x := ⟨_,List.getElem?_eq_getElem hk1⟩
    have hxk : N.nd[k] = x := by rw [List.getElem?_eq_getElem hk1] at hx; injection hx
    obtain ⟨hxb,_,_⟩ := h.nn k x hx;obtain ⟨rb,rc,hre⟩ := Zbr hnr (j := k) (by rw [List.length_range]; exact hk1);have hrow := Zby hnr hre;refine Zab (Zaa.go (ZbB hre (k) rfl rfl rfl hk1 Tryz.underlying104 sz103 rfl) (Zaa.go (Zca (f := 40) (e := k) (off := 0) rfl (by omega) rfl (hrow) ((by rw [List.getElem?_map,List.getElem?_range hk1]; rfl)) rfl on103 rfl) ?_));refine goAs rfl rfl (Zac (Zad ?_));refine Zad (Zab (goMv rfl rfl (Zaa.go (Zax rfl rfl) (Zaa.go (Zav rfl Zb5 rfl rfl rfl) (Zaa.go (ZaV (f := 40) rfl rfl (hxb) rfl on4 rfl) (Zaa.go (st_not rfl rfl) (Zac (Zbm rfl (fun h25 => ?_) (fun h25 => ?_)))))))))
    · have hnone : ndX N x = none := by unfold ndX; rw [if_neg (by simpa using h25)]
      refine ZaL ?_
      try have hnone : ndX N x = none := by unfold ndX; split <;> first | exact hin | rfl
      refine Zab (Zaa.go (Zay rfl rfl (wrapS (k + 1) (by omega)) rfl) (goMv rfl rfl (Zac ?_)));exact ⟨k + 1,⟨by show k + 1 ≤ _; omega,by rw [List.take_succ_eq_append_getElem hk1]; intro e he; rcases List.mem_append.1 he with he | he; exact hkb e he; rw [List.mem_singleton.1 he,hxk]; exact hnone⟩,by show N.nd.length - (k + 1) < N.nd.length - k; omega,Zaq hF [1,2,40,50,51] rfl (rfl) ⟨rfl,rfl,rfl,rfl,rfl,rfl,trivial⟩⟩
    · refine Zap (Zad (Zab (goMv rfl rfl (goMv rfl rfl (Zaj.go (Zbh (hina k x hx) rfl [40,50,51] ⟨rfl,rfl,rfl,trivial⟩ rfl rfl rfl rfl rfl rfl rfl rfl rfl) ?_)))));refine goMv rfl rfl (Zaa.go (ZaR rfl rfl rfl) (Zaa.go (ZaR rfl rfl rfl) (Zaj.go (ZaQ 3 zl53 rfl rfl rfl rfl) (Zaj.go (Zaz rfl rfl rfl rfl rfl rfl rfl sz53) (goAs rfl rfl (Zac (Zad (Zab ?_))))))))
      cases hin : inadm N x
      · refine goMv rfl rfl (Zac (Za9 rfl (rfl) (Zap ?_)))
        try have hnone : ndX N x = none := by unfold ndX; split <;> first | exact hin | rfl
        refine Zab (Zaa.go (Zay rfl rfl (wrapS (k + 1) (by omega)) rfl) (goMv rfl rfl (Zac ?_)));exact ⟨k + 1,⟨by show k + 1 ≤ _; omega,by rw [List.take_succ_eq_append_getElem hk1]; intro e he; rcases List.mem_append.1 he with he | he; exact hkb e he; rw [List.mem_singleton.1 he,hxk]; exact hnone⟩,by show N.nd.length - (k + 1) < N.nd.length - k; omega,Zaq hF [1,2,40,50,51] rfl (rfl) ⟨rfl,rfl,rfl,rfl,rfl,rfl,trivial⟩⟩
      · refine goMv rfl rfl ?_;refine Zac (ZaU rfl (rfl) (Zad (Zab (Zaa.go (Zas rfl rfl rw53 rfl rfl rfl) (Zaj.go (Zaz rfl rfl rfl rfl rfl rfl rfl sz53) (Zaj.go (Zaz rfl rfl rfl rfl rfl rfl rfl sz4) (Zac (Zao ?_))))))));exact ⟨_,[40,50,51],_,Zak rfl,rfl,rfl,by unfold nextN; rw [findSome_at hk1 hkb (by rw [hxk]; unfold ndX; rw [if_pos (by simpa using h25)]; exact hin)]; rfl,rfl⟩
  · refine ZaL (Zad (Zad ?_));have hnn : N.nd.findSome? (ndX N) = none := findSome_no (by have e : k = N.nd.length := (by have h := h18; omega); rw [e,List.take_length] at hkb; exact hkb);refine Zab ?_;refine goMv rfl rfl (Zaa.go (Zax rfl rfl) (Zaa.go (Zav rfl fi108_1 rfl rfl rfl) (Zaa.go (ZaV (f := 40) rfl rfl (hwb) rfl on105 rfl) (Zaa.go (ZbV hpz rfl Tryz.underlying105 rfl) (goMv rfl rfl (Zac (Zam (ZaK (α := Nat) (fun j => ⟨74,[(2,(.ptr 1 0 0)),(3,(.ptr 2 0 0)),(38,(.d (hdr N.mh N.po.length))),(39,(.d (intD (N.po.length : Int)))),(40,(.d (intD (j : Int))))],(1,[excB exc0]) :: (2,[.blk 4 [.d (boolD false)]]) :: HW mv bs L M⟩) (fun j => j ≤ N.po.length ∧ ∀ y ∈ N.po.take j,poX N y = none) (fun j => N.po.length - j) (0) (⟨Nat.zero_le _,by simp⟩) (Zaq hF [1,2,40,50,51] rfl rfl ⟨rfl,rfl,rfl,rfl,rfl,trivial⟩) ?_))))))));rintro j ⟨hj0,hjb⟩;refine Zad (Zab (Zaa.go (ZaI rfl rfl rfl) (Zac (Zad (ZaF rfl (fun h41 => ?_) (fun h41 => ?_))))))
    · have hj1 : j < N.po.length := ZaN h41;refine Zap (Zad (Zam (Zad ?_)))
      obtain ⟨y,hy⟩ : ∃ y,N.po[j]? = some y := ⟨_,List.getElem?_eq_getElem hj1⟩
      have hyk : N.po[j] = y := by rw [List.getElem?_eq_getElem hj1] at hy; injection hy
      have hym := List.mem_of_getElem? hy;obtain ⟨hyb,hyq⟩ := h.pp j y hy;obtain ⟨rb,rc,hre⟩ := Zbr hpr (j := j) (by rw [List.length_range]; exact hj1);have hrow := Zby hpr hre;have hys := hs y hym;have hov := overdrawn_c h hy y.sum (hw.rm y hym) (by omega);have hql := hw.ql y hym;refine Zab (Zaa.go (ZbB hre (j) rfl rfl rfl hj1 Tryz.underlying105 sz117 rfl) (Zaa.go (Zca (f := 40) (e := j) (off := 0) rfl (by omega) rfl (hrow) ((by rw [List.getElem?_map,List.getElem?_range hj1]; rfl)) rfl on117 rfl) ?_));refine Zaj.go (ZaQ 4 zl117 rfl rfl rfl rfl) (Zaj.go (Zaz rfl rfl rfl rfl rfl rfl rfl sz117) (Zac (Zad (Zad (ZaT [[],[],[1],[1,2],[1,2,3],[0,1,2,3,4],[0,1,2,3,4,5]] mixed rfl (dws ?_))))));refine Zaf [9] [4] rfl rfl (fun _ => Zae (Zah rfl rfl rfl on117 rfl)) (Zaf [9] [4] rfl rfl (fun _ => Zae (Zah rfl rfl rfl on117 rfl)) (Zaf [45] [] rfl rfl (fun _ => Zae (Zax rfl rfl)) (Zaf [46] [] rfl rfl (fun _ => Zae (Zav rfl fi121_2 rfl rfl rfl)) (Zaf [47] [40] rfl rfl (fun _ => Zae (ZaV (f := 40) rfl rfl (hyb) rfl on2 rfl)) (dwc 5 rfl rfl rfl (dw1 6 rfl rfl (Zaj.go (Zbh hov rfl [40] ⟨rfl,trivial⟩ rfl rfl rfl rfl rfl rfl rfl rfl rfl) (Zac ⟨rfl, ?_⟩))))))));refine dw1 7 rfl rfl ?_
      cases hovy : ovP y y.sum
      · refine Zaa.go (st_not rfl rfl) (Zac ⟨rfl, ?_⟩);refine dwe (ZaU rfl (rfl) (ZaL ?_));have hpnone : poX N y = none := by unfold poX; first | (rw [if_neg (by rw [hovy]; decide)]) | (rw [if_pos hovy, ← ho]; rfl)
        refine Zab (Zaa.go (Zay rfl rfl (wrapS (j + 1) (by omega)) rfl) (goMv rfl rfl (Zac ?_)));exact ⟨j + 1,⟨by show j + 1 ≤ _; omega,by rw [List.take_succ_eq_append_getElem hj1]; intro e he; rcases List.mem_append.1 he with he | he; exact hjb e he; rw [List.mem_singleton.1 he,hyk]; exact hpnone⟩,by show N.po.length - (j + 1) < N.po.length - j; omega,Zaq hF [1,2,40,50,51] rfl (rfl) ⟨rfl,rfl,rfl,rfl,rfl,trivial⟩⟩
      · refine Zaa.go (st_not rfl rfl) (Zac ⟨rfl, ?_⟩);refine dwe (Za9 rfl (rfl) (Zap ?_));refine Zad (Zab (Zaa.go (Zah rfl rfl rfl on117 rfl) (Zaa.go (Zax rfl rfl) (Zaa.go (Zav rfl fi121_3 rfl rfl rfl) (Zaa.go (ZaV (f := 40) rfl rfl (hyb) rfl on104 rfl) (Zaj.go (Zbh (backF_c y.qh y.q.length) rfl [] trivial rfl rfl rfl rfl rfl rfl rfl rfl rfl) (Zac (Zam ?_))))))));refine a_keep [2,3,9,38,39,40,55] rfl ?_;refine a_range (γ := Option Nat) hFl 900 rfl rfl rfl rfl rfl [1,2,4,40,50,51] (CHr := hBk N y (pb j) mv bs L M none) (fun o => o = y.q.reverse.find? (onN N)) (fun o => hBk N y (pb j) mv bs L M o) (fun o => stR o.isSome) (fun o => pdR o.isSome) ⟨rfl,rfl,rfl,rfl,rfl,rfl,trivial⟩ rfl rfl rfl (fun _ => rfl) (fun _ => rfl) rfl (fun o _ => by cases o <;> simp [stR]) (fun _ _ => ⟨rfl,rfl⟩) [1,2,4,40,50,51] hF rfl rfl (fun _ _ => rfl) (fun l A B hA hB => ?_) (fun o ho => ?_)
        · refine (back1_c nb y.q (by omega) hyq l (fun o : Option Nat => (900,[.loop ⟨l,74,[(2, .ptr 1 0 0),(3, .ptr 2 0 0),(9, .ptr 4 0 0),(38, .d (hdr N.mh N.po.length)),(39, .d (intD (N.po.length : Int))),(40, .d (intD (j : Int))),(55, .fn fBack [.d (.ptr (hdr y.qh y.q.length))])],stR o.isSome,pdR o.isSome, #[56,57],A,B⟩]) :: hBk N y (pb j) mv bs L M o) [900,1,2,4,40,50,51] (stepB N) none (fun _ => rfl) (fun _ => rfl) (fun _ => rfl) (fun _ => rfl) ?_).mono (fun r H' ⟨e1,e2⟩ => ⟨e1,_,rfl,by rw [e2,feed_B N y.q y.q.length (Nat.le_refl _),List.take_length]⟩);refine feeds_B N y.q (fun k2 hk2 => ?_) y.q.length (Nat.le_refl _);have hni : y.q[k2] < N.nd.length := h.q y hym _ (List.getElem_mem hk2)
          obtain ⟨x,hx⟩ : ∃ x,N.nd[y.q[k2]]? = some x := ⟨_,List.getElem?_eq_getElem hni⟩
          obtain ⟨hxb,_,_⟩ := h.nn _ x hx;have hgx : N.nd.getD y.q[k2] nd0 = x := by rw [List.getD_eq_getElem?_getD,hx]; rfl
          have hon : onN N y.q[k2] = x.on := by unfold onN; rw [hgx]
          refine yc_round (lf := 900) rfl rfl rfl rfl fun F hF hr => (Awp.code hA (Zab (goAs rfl rfl (Zac (⟨rfl,_,_,rfl,rfl,rfl,rfl, ?_⟩)))));refine Awp.code hB ?_;refine Zam (Zad (Zab (goMv rfl rfl (Zaa.go (Zax rfl rfl) (Zaa.go (Zav rfl Zb5 rfl rfl rfl) (Zaa.go (ZaV (f := 40) rfl rfl (hxb) rfl on4 rfl) (Zac (Zbm rfl (fun h61 => ?_) (fun h61 => ?_)))))))))
          · refine Zad (ZaT [[],[0],[0,1],[0,1,2],[0,1,2,3],[],[5],[5,6],[5,6,7],[0,1,2,3,4,5,6,7,8],[0,1,2,3,4,5,6,7,8,9],[0,1,2,3,4,5,6,7,8,9,10]] mixed rfl (dws (Zaf [11] [] rfl rfl (fun _ => Zae (Zar rfl rfl)) (Zaf [62] [] rfl rfl (fun _ => Zae (Zax rfl rfl)) (Zaf [63] [] rfl rfl (fun _ => Zae (Zav rfl fi112_0 rfl rfl rfl)) (Zaf [64] [] rfl rfl (fun _ => Zae (Zav rfl Zbz rfl rfl rfl)) ?_))))));refine Zaf [65] [40] rfl rfl (fun _ => Zae (ZaV (f := 40) rfl rfl (hxb) rfl on3 rfl)) (Zaf [9] [4] rfl rfl (fun _ => Zae (Zah rfl rfl rfl on117 rfl)) (Zaf [67] [] rfl rfl (fun _ => Zae (Zax rfl rfl)) (Zaf [68] [] rfl rfl (fun _ => Zae (Zav rfl fi121_0 rfl rfl rfl)) (Zaf [69] [40] rfl rfl (fun _ => Zae (st_loadNS (f := 40) rfl rfl (hyb) rw51 rfl rfl (by simp [D.one]) rfl)) (dwc 9 rfl rfl rfl (dw1 10 rfl rfl (Zaa.go (Za0 zl53 pl53 rfl rfl rfl) (Zac ⟨rfl, ?_⟩))))))));refine dw1 11 rfl rfl (Zaj.go (Zaz rfl rfl rfl rfl rfl rfl rfl sz53) (Zac ⟨rfl, ?_⟩));refine dw1 12 rfl rfl (Zaj.go (Zaz rfl rfl rfl rfl rfl rfl rfl sz4) (Zac ⟨rfl, ?_⟩));refine dwe (Zao ?_);have ho1 : onN N y.q[k2] = true := by rw [hon]; simpa using h61
            exact ⟨some .ret,_,_,[900,1,2,4,40,50,51],_,rfl,rfl,rfl,rfl,rfl,rfl,by rw [ho1]; rfl,by rw [if_pos ho1]; simp only [hBk,fndE,hgx]; rfl⟩
          · refine Zap ?_;have ho1 : onN N y.q[k2] = false := by rw [hon]; simpa using h61
            exact ⟨none,_,_,[900,1,2,4,40,50,51],_,rfl,rfl,rfl,rfl,rfl,rfl,by rw [ho1]; rfl,by rw [if_neg (by rw [ho1]; decide)]; rfl⟩
        · rcases o with _ | i0
          · have hpnone : poX N y = none := by unfold poX; first | (rw [if_neg (by rw [hovy]; decide)]) | (rw [if_pos hovy, ← ho]; rfl)
            refine Zab (Zaa.go (Zay rfl rfl (wrapS (j + 1) (by omega)) rfl) (goMv rfl rfl (Zac ?_)));exact ⟨j + 1,⟨by show j + 1 ≤ _; omega,by rw [List.take_succ_eq_append_getElem hj1]; intro e he; rcases List.mem_append.1 he with he | he; exact hjb e he; rw [List.mem_singleton.1 he,hyk]; exact hpnone⟩,by show N.po.length - (j + 1) < N.po.length - j; omega,Zaq hF [1,2,40,50,51] rfl (rfl) ⟨rfl,rfl,rfl,rfl,rfl,trivial⟩⟩
          · show Awp _ _ .ret _ _;refine Zao ?_;exact ⟨_,[40,50,51],_,Zak rfl,rfl,rfl,by unfold nextN; rw [hnn]; dsimp only; rw [findSome_at hj1 hjb (by rw [hyk]; unfold poX; rw [if_pos hovy, ← ho]; rfl)]; rfl,rfl⟩
    · refine ZaL (Zad (Zab (Zaa.go (Za0 zl53 pl53 rfl rfl rfl) (Zaj.go (Zaz rfl rfl rfl rfl rfl rfl rfl sz53) (Zaj.go (Zaz rfl rfl rfl rfl rfl rfl rfl sz4) (Zac (Zao ?_)))))));exact ⟨_,[40,50,51],_,Zak rfl,rfl,rfl,by unfold nextN; rw [hnn]; dsimp only; rw [findSome_no (by have e : j = N.po.length := (by have h := h41; omega); rw [e,List.take_length] at hjb; exact hjb)]; rfl,rfl⟩
theorem SR.splitH {F : Fr} {s : AS} {ρ : Nat → Nat → Value} {act : Act} {w : World} (hs : SR F s ρ act w) (t g f : Nat) {M : MF} {T : TypeId} {kk m : Nat} {h : Hd} {xs : List D} {env' : List (Nat × AV)} {hp1 hp' : Hp} (hne : Nat.beq g f = false)
    (ht : get s.env t = some (.d (hdr h m))) (hn : m = xs.length) (hM : hfam s.hp f = some [.multi M]) (hr : rowAt M h T kk xs) (hE : killE? g s.env = some env') (hH : killH? g s.hp = some hp1) (hz : hfam hp1 g = none) (hm : hmul? hp1 f (mdelH M h) = some hp') :
    ∃ v,SR F ⟨s.n,(t, .own g 0 m) :: env',(g,[.rowD T kk xs]) :: hp'⟩ (upd ρ g 0 v) act w := by
  match h,ht,hr,hm with
  | some (b,cap),ht,hr,hm => exact ⟨_,hs.splitR t g f (cap := cap) (b := b) hne ht hn hM hr.2 hE hH hz hm⟩
  | none,ht,hr,hm =>
    have hxs : xs = [] := hr;subst hxs hn;have hgf : g ≠ f := Nat.ne_of_beq_eq_false hne;refine ⟨.slice none 0 0, ?_⟩
    have hhp : hp' = hp1 := by
      have key : ∀ (H H' : Hp),hfam H f = some [.multi M] → hmul? H f M = some H' → H' = H := by
        intro H
        induction H with
        | nil => intro H' h; cases h
        | cons p r ih =>
          obtain ⟨k,l⟩ := p;intro H' h1 h2;simp only [hfam] at h1;simp only [hmul?] at h2
          cases hk : Nat.beq k f with
          | true =>
            rw [hk] at h1 h2;injection h1 with h1
            subst h1;simp only [isM] at h2;injection h2 with h2; exact h2.symm
          | false =>
            rw [hk] at h1 h2;dsimp only at h1 h2
            cases hr : hmul? r f M with
            | none => rw [hr] at h2; cases h2
            | some r' =>
              rw [hr] at h2; injection h2 with h2
              rw [← h2,ih r' h1 hr]
      obtain ⟨a1,a2⟩ := killH?_spec hH
      have hM1 : hfam hp1 f = some [.multi M] := by
        have key2 : ∀ (H H' : Hp),keepH? (notFam g) H = some H' → hfam H f = some [.multi M] → hfam H' f = some [.multi M] := by
          intro H
          induction H with
          | nil => intro H' _ h; cases h
          | cons p r ih =>
            obtain ⟨k,l⟩ := p;intro H' h1 h2;simp only [keepH?] at h1
            cases hr : keepH? (notFam g) r with
            | none => rw [hr] at h1; cases h1
            | some r' =>
              rw [hr] at h1
              cases hl : keepOs? (notFam g) l with
              | none => rw [hl] at h1; cases h1
              | some l' =>
                rw [hl] at h1; injection h1 with h1; subst h1
                simp only [hfam] at h2 ⊢
                cases hk : Nat.beq k f with
                | true =>
                  rw [hk] at h2; injection h2 with h2; subst h2
                  simp only [keepOs?,keepO?] at hl;injection hl with hl; rw [← hl]
                | false => rw [hk] at h2; exact ih r' hr h2
        exact key2 _ _ hH hM
      exact key hp1 hp' hM1 hm
    rw [hhp]
    have h1 : SR F ⟨s.n,(t, .d (.sl (some true) [])) :: s.env,s.hp⟩ ρ act w := ⟨hs.size,hs.defs,fun t' a ha => by
      rcases Zbd ha with ⟨rfl,rfl⟩ | ⟨_,ha⟩
      · have hr := hs.env t _ ht
        generalize act.tmps.getD t undef = x at hr ⊢
        cases hr with
        | d h => cases h with
          | raw _ => exact .d (.sl 0 (fun b hb => by cases hb; rfl) (fun _ => rfl) rfl (Nat.le_refl _) (Nat.zero_le _) (fun x hx => by cases hx) (fun h => absurd rfl h) (fun b o hb => by cases hb))
      · exact hs.env t' a ha,hs.heap⟩
    obtain ⟨k1,k2⟩ := killH?_spec hH
    have hz' : ∀ i,hget s.hp g i = none := fun i => by
      cases hq : hget s.hp g i with
      | none => rfl
      | some o =>
        obtain ⟨o2,q1,_⟩ := k2 _ _ _ hq;unfold hget at q1; rw [hz] at q1; cases q1
    have h2 := hs.set g 0 (.rowD T kk []) (.slice none 0 0) (hp' := (g,[.rowD T kk []]) :: hp1) hE hH (fun f' i => by
      by_cases e : g = f'
      · subst e;simp only [hget,hfam,Nat.beq_refl,Option.bind_some,true_and,gl_one (o := .rowD T kk []) rfl,hz,Option.bind_none]
        cases i <;> simp
      · simp only [hget,hfam,Za7 e]
        rw [if_neg (fun hh => e hh.1.symm)]) (fun t cs e => by rw [hz'] at e; cases e) (fun b hb => by cases hb) rfl rfl rfl (Nat.le_refl _) (fun _ _ _ => rfl) (fun _ => ⟨[],World.ownsRow_nil w 0 T kk,⟨by simp,by simp,fun i x hx => by simp at hx⟩,by simp⟩)
    refine ⟨h2.size,h2.defs,fun t' a ha => ?_,h2.heap⟩;rcases Zbd ha with ⟨rfl,rfl⟩ | ⟨_,ha⟩
    · have hr := hs.env t _ ht
      generalize act.tmps.getD t undef = x at hr ⊢
      cases hr with
      | d h => cases h with | raw _ => exact .own Zbx (Nat.le_refl _)
    · exact h2.env t' a ha
section
variable {P : Program} {F : Fr} {Q : Exit → AS → Prop} {c : Code} {ops : Array Oper} {l : List Oper} {n : Nat} {env env1 env' : List (Nat × AV)} {hp hp1 hp2 hp3 : Hp}
theorem st_appH {o : Oper} (t g f : Nat) {M : MF} {T : TypeId} {kk m : Nat} {h : Hd} {xs : List D} {hp' : Hp} {s2 : AS} (hr : rowAt M h T kk xs) (hne : Nat.beq g f = false) (ht : get env t = some (.d (hdr h m))) (hn : m = xs.length) (hM : hfam hp f = some [.multi M]) (hE : killE? g env = some env') (hH : killH? g hp = some hp1) (hz : hfam hp1 g = none) (hm : hmul? hp1 f (mdelH M h) = some hp')
    (h2 : Zaj P F o ⟨n,(t, .own g 0 m) :: env',(g,[.rowD T kk xs]) :: hp'⟩ s2 (notFam g)) : Zaj P F o ⟨n,env,hp⟩ s2 (notFam g) := fun ρ act w hs => by
  obtain ⟨v,h1⟩ := hs.splitH t g f hne ht hn hM hr hE hH hz hm;exact Zb8 (fun a w' ⟨ρ',h3,h4⟩ => ⟨ρ',h3,fun f i hfi => (h4 f i hfi).trans (Zbk fun e => Zbu hfi e.1)⟩) (h2 _ act w h1)
end
theorem Rep.row {wb mv : Nat} {nb pb : Nat → Nat} {N N' : Net} {M : MF} (h : Rep wb mv nb pb N M) (r0 : RI) {w0 w1 : RowM} (e0 : rowOf nb pb N r0 = w0) (e1 : rowOf nb pb N' r0 = w1) (hR : ∀ r,r ≠ r0 → rowOf nb pb N' r = rowOf nb pb N r) {b cap : Nat} (hb : mdelH M w0.h b = none) (h0 : w1.h = some (b,cap)) (hl : w1.xs.length ≤ cap) :
    RowsM (Za2 (mdelH M w0.h) b (.row w1.t w1.k cap w1.xs)) (rowOf nb pb N') ∧ ∀ (b' : Nat) (t : TypeId) (cs : List D),M b' = some (.cells t cs) → Za2 (mdelH M w0.h) b (.row w1.t w1.k cap w1.xs) b' = some (.cells t cs) := by
  subst e0 e1;refine ⟨h.rs.upd r0 hR hb h0 hl,fun b' t cs hm => keepM hb hm fun c hc => ?_⟩;have := h.rs.blk hc;rw [hm] at this; cases this
theorem Rep.putNd {wb mv : Nat} {nb pb : Nat → Nat} {N : Net} {M M1 : MF} (h : Rep wb mv nb pb N M) {i : Nat} {x x' : Nd} (hx : N.nd[i]? = some x) (hc : ∀ (b' : Nat) (t : TypeId) (cs : List D),M b' = some (.cells t cs) → M1 b' = some (.cells t cs)) (hr : RowsM M1 (rowOf nb pb { N with nd := N.nd.set i x' })) (he : (∀ e ∈ x'.ef,e.1 < N.po.length) ∧ ∀ e ∈ x'.pl,e.1 < N.po.length) :
    Rep wb mv nb pb { N with nd := N.nd.set i x' } (Za2 M1 (nb i) (ndM x')) := by
  have hb := h.n i x hx;have hil := (List.getElem?_eq_some_iff.1 hx).1
  have hne : ∀ (b : Nat) (t : TypeId) (cs : List D),t ≠ 112 → M b = some (.cells t cs) → Za2 M1 (nb i) (ndM x') b = some (.cells t cs) := fun b t cs ht hm => by
    rw [ZbD]
    · exact hc _ _ _ hm
    · rintro rfl; rw [hb] at hm; injection hm with hm; injection hm with hm; exact ht hm.symm
  refine ⟨fun j z hz => ?_,fun j y hy => hne _ _ _ (by decide) (h.p j y hy),hr.cells (hc _ _ _ hb), ?_,fun j k hj hk => h.ni j k (by simpa using hj) (by simpa using hk),h.pi,fun z hz => ?_,fun y hy => ?_⟩
  · have hz2 : (N.nd.set i x')[j]? = some z := hz
    clear hz
    have hjl : j < N.nd.length := by have := (List.getElem?_eq_some_iff.1 hz2).1; rw [List.length_set] at this; exact this
    rw [List.getElem?_set] at hz2
    split at hz2
    · rename_i e; subst e
      have e2 : z = x' := by first | exact (Option.some.inj hz2).symm | (rw [if_pos hil] at hz2; exact (Option.some.inj hz2).symm)
      rw [e2]; exact Zbt _ _ _
    · rename_i e
      rw [ZbD]
      · exact hc _ _ _ (h.n j z hz2)
      · intro e2; exact e (h.ni j i hjl hil e2).symm
  · show Za2 M1 (nb i) (ndM x') wb = some (.cells _ [hdr N.nh (N.nd.set i x').length,hdr N.mh N.po.length,_]);rw [List.length_set];exact hne _ _ _ (by decide) h.w
  · rcases List.mem_or_eq_of_mem_set hz with hz | rfl
    · exact h.e z hz
    · exact he
  · have := h.q y hy
    simpa using this
theorem Rep.putPo {wb mv : Nat} {nb pb : Nat → Nat} {N : Net} {M M1 : MF} (h : Rep wb mv nb pb N M) {j : Nat} {y y' : Po} (hy : N.po[j]? = some y) (hc : ∀ (b' : Nat) (t : TypeId) (cs : List D),M b' = some (.cells t cs) → M1 b' = some (.cells t cs)) (hr : RowsM M1 (rowOf nb pb { N with po := N.po.set j y' })) (hq : ∀ i ∈ y'.q,i < N.nd.length) :
    Rep wb mv nb pb { N with po := N.po.set j y' } (Za2 M1 (pb j) (poM y')) := by
  have hb := h.p j y hy;have hjl := (List.getElem?_eq_some_iff.1 hy).1
  have hne : ∀ (b : Nat) (t : TypeId) (cs : List D),t ≠ 121 → M b = some (.cells t cs) → Za2 M1 (pb j) (poM y') b = some (.cells t cs) := fun b t cs ht hm => by
    rw [ZbD]
    · exact hc _ _ _ hm
    · rintro rfl; rw [hb] at hm; injection hm with hm; injection hm with hm; exact ht hm.symm
  refine ⟨fun i x hx => hne _ _ _ (by decide) (h.n i x hx),fun i z hz => ?_,hr.cells (hc _ _ _ hb), ?_,h.ni,fun i k hi hk => h.pi i k (by simpa using hi) (by simpa using hk),fun x hx => ?_,fun z hz => ?_⟩
  · have hz2 : (N.po.set j y')[i]? = some z := hz
    clear hz
    have hil : i < N.po.length := by have := (List.getElem?_eq_some_iff.1 hz2).1; rw [List.length_set] at this; exact this
    rw [List.getElem?_set] at hz2
    split at hz2
    · rename_i e; subst e
      have e2 : z = y' := by first | exact (Option.some.inj hz2).symm | (rw [if_pos hjl] at hz2; exact (Option.some.inj hz2).symm)
      rw [e2]; exact Zbt _ _ _
    · rename_i e
      rw [ZbD]
      · exact hc _ _ _ (h.p i z hz2)
      · intro e2; exact e (h.pi i j hil hjl e2).symm
  · show Za2 M1 (pb j) (poM y') wb = some (.cells _ [hdr N.nh N.nd.length,hdr N.mh (N.po.set j y').length,_]);rw [List.length_set];exact hne _ _ _ (by decide) h.w
  · have := h.e x hx
    simpa using this
  · rcases List.mem_or_eq_of_mem_set hz with hz | rfl
    · exact h.q z hz
    · exact hq
abbrev effT : TypeId := 119
abbrev plaT : TypeId := 165
abbrev pnT : TypeId := 103
abbrev ppT : TypeId := 117
def addEf (x : Nd) (b cap : Nat) (e : Nat × Int) : Nd := { x with eh := some (b,cap),ef := x.ef ++ [e] }
def addPl (x : Nd) (b cap : Nat) (e : Nat × Nat) : Nd := { x with ph := some (b,cap),pl := x.pl ++ [e] }
def addQu (y : Po) (b cap : Nat) (i : Nat) : Po := { y with qh := some (b,cap),q := y.q ++ [i] }
theorem Rep.addE {wb mv : Nat} {nb pb : Nat → Nat} {N : Net} {M : MF} (h : Rep wb mv nb pb N M) {i : Nat} {x : Nd} (hx : N.nd[i]? = some x) (e : Nat × Int) (he : e.1 < N.po.length) {b cap : Nat} (hb : mdelH M x.eh b = none) (hl : ((x.ef ++ [e]).map (efD pb)).length ≤ cap) :
    Rep wb mv nb pb { N with nd := N.nd.set i (addEf x b cap e) } (Za2 (Za2 (mdelH M x.eh) b (.row effT 2 cap ((x.ef ++ [e]).map (efD pb)))) (nb i) (ndM (addEf x b cap e))) := by
  have hil := (List.getElem?_eq_some_iff.1 hx).1
  obtain ⟨h1,h2⟩ := h.row (N' := { N with nd := N.nd.set i (addEf x b cap e) }) (.e i) (w0 := ⟨x.eh,effT,2,x.ef.map (efD pb)⟩) (w1 := ⟨some (b,cap),effT,2,(x.ef ++ [e]).map (efD pb)⟩)
    (by show (⟨(N.nd.getD i nd0).eh,_,_,(N.nd.getD i nd0).ef.map _⟩ : RowM) = _; rw [getD_of hx])
    (by show (⟨((N.nd.set i (addEf x b cap e)).getD i nd0).eh,_,_,((N.nd.set i (addEf x b cap e)).getD i nd0).ef.map _⟩ : RowM) = _; rw [Zcf hil,if_pos rfl]; rfl)
    (fun r hr => by
      cases r with
      | q j => rfl
      | m => rfl
      | n => show (⟨_,_,_,(List.range (N.nd.set i (addEf x b cap e)).length).map _⟩ : RowM) = _; rw [List.length_set]; rfl
      | e k =>
        show (⟨((N.nd.set i (addEf x b cap e)).getD k nd0).eh,_,_,((N.nd.set i (addEf x b cap e)).getD k nd0).ef.map _⟩ : RowM) = ⟨(N.nd.getD k nd0).eh,_,_,(N.nd.getD k nd0).ef.map _⟩
        rw [Zcf hil,if_neg (fun e => hr (by rw [e]))]
      | p k =>
        show (⟨((N.nd.set i (addEf x b cap e)).getD k nd0).ph,_,_,((N.nd.set i (addEf x b cap e)).getD k nd0).pl.map _⟩ : RowM) = ⟨(N.nd.getD k nd0).ph,_,_,(N.nd.getD k nd0).pl.map _⟩
        rw [Zcf hil,getD_self hx k nd0]
        split <;> rfl) hb rfl hl
  refine h.putNd hx h2 h1 ⟨fun z hz => ?_,(h.e x (List.mem_of_getElem? hx)).2⟩;rcases List.mem_append.1 hz with hz | hz
  · exact (h.e x (List.mem_of_getElem? hx)).1 z hz
  · rw [List.mem_singleton.1 hz]; exact he
theorem Rep.addP {wb mv : Nat} {nb pb : Nat → Nat} {N : Net} {M : MF} (h : Rep wb mv nb pb N M) {i : Nat} {x : Nd} (hx : N.nd[i]? = some x) (e : Nat × Nat) (he : e.1 < N.po.length) {b cap : Nat} (hb : mdelH M x.ph b = none) (hl : ((x.pl ++ [e]).map (plD pb)).length ≤ cap) :
    Rep wb mv nb pb { N with nd := N.nd.set i (addPl x b cap e) } (Za2 (Za2 (mdelH M x.ph) b (.row plaT 2 cap ((x.pl ++ [e]).map (plD pb)))) (nb i) (ndM (addPl x b cap e))) := by
  have hil := (List.getElem?_eq_some_iff.1 hx).1
  obtain ⟨h1,h2⟩ := h.row (N' := { N with nd := N.nd.set i (addPl x b cap e) }) (.p i) (w0 := ⟨x.ph,plaT,2,x.pl.map (plD pb)⟩) (w1 := ⟨some (b,cap),plaT,2,(x.pl ++ [e]).map (plD pb)⟩)
    (by show (⟨(N.nd.getD i nd0).ph,_,_,(N.nd.getD i nd0).pl.map _⟩ : RowM) = _; rw [getD_of hx])
    (by show (⟨((N.nd.set i (addPl x b cap e)).getD i nd0).ph,_,_,((N.nd.set i (addPl x b cap e)).getD i nd0).pl.map _⟩ : RowM) = _; rw [Zcf hil,if_pos rfl]; rfl)
    (fun r hr => by
      cases r with
      | q j => rfl
      | m => rfl
      | n => show (⟨_,_,_,(List.range (N.nd.set i (addPl x b cap e)).length).map _⟩ : RowM) = _; rw [List.length_set]; rfl
      | p k =>
        show (⟨((N.nd.set i (addPl x b cap e)).getD k nd0).ph,_,_,((N.nd.set i (addPl x b cap e)).getD k nd0).pl.map _⟩ : RowM) = ⟨(N.nd.getD k nd0).ph,_,_,(N.nd.getD k nd0).pl.map _⟩
        rw [Zcf hil,if_neg (fun e => hr (by rw [e]))]
      | e k =>
        show (⟨((N.nd.set i (addPl x b cap e)).getD k nd0).eh,_,_,((N.nd.set i (addPl x b cap e)).getD k nd0).ef.map _⟩ : RowM) = ⟨(N.nd.getD k nd0).eh,_,_,(N.nd.getD k nd0).ef.map _⟩
        rw [Zcf hil,getD_self hx k nd0]
        split <;> rfl) hb rfl hl
  refine h.putNd hx h2 h1 ⟨(h.e x (List.mem_of_getElem? hx)).1,fun z hz => ?_⟩;rcases List.mem_append.1 hz with hz | hz
  · exact (h.e x (List.mem_of_getElem? hx)).2 z hz
  · rw [List.mem_singleton.1 hz]; exact he
theorem Rep.addQ {wb mv : Nat} {nb pb : Nat → Nat} {N : Net} {M : MF} (h : Rep wb mv nb pb N M) {j : Nat} {y : Po} (hy : N.po[j]? = some y) {i : Nat} (hi : i < N.nd.length) {b cap : Nat} (hb : mdelH M y.qh b = none) (hl : ((y.q ++ [i]).map fun i => ptrD (nb i)).length ≤ cap) :
    Rep wb mv nb pb { N with po := N.po.set j (addQu y b cap i) } (Za2 (Za2 (mdelH M y.qh) b (.row pnT 1 cap ((y.q ++ [i]).map fun i => ptrD (nb i)))) (pb j) (poM (addQu y b cap i))) := by
  have hjl := (List.getElem?_eq_some_iff.1 hy).1
  obtain ⟨h1,h2⟩ := h.row (N' := { N with po := N.po.set j (addQu y b cap i) }) (.q j) (w0 := ⟨y.qh,pnT,1,y.q.map fun i => ptrD (nb i)⟩) (w1 := ⟨some (b,cap),pnT,1,(y.q ++ [i]).map fun i => ptrD (nb i)⟩)
    (by show (⟨(N.po.getD j po0).qh,_,_,(N.po.getD j po0).q.map _⟩ : RowM) = _; rw [getD_of hy])
    (by show (⟨((N.po.set j (addQu y b cap i)).getD j po0).qh,_,_,((N.po.set j (addQu y b cap i)).getD j po0).q.map _⟩ : RowM) = _; rw [Zcf hjl,if_pos rfl]; rfl)
    (fun r hr => by
      cases r with
      | e k => rfl
      | p k => rfl
      | n => rfl
      | m => show (⟨_,_,_,(List.range (N.po.set j (addQu y b cap i)).length).map _⟩ : RowM) = _; rw [List.length_set]; rfl
      | q k =>
        show (⟨((N.po.set j (addQu y b cap i)).getD k po0).qh,_,_,((N.po.set j (addQu y b cap i)).getD k po0).q.map _⟩ : RowM) = ⟨(N.po.getD k po0).qh,_,_,(N.po.getD k po0).q.map _⟩
        rw [Zcf hjl,if_neg (fun e => hr (by rw [e]))]) hb rfl hl
  refine h.putPo hy h2 h1 fun z hz => ?_;rcases List.mem_append.1 hz with hz | hz
  · exact h.q y (List.mem_of_getElem? hy) z hz
  · rw [List.mem_singleton.1 hz]; exact hi
def ers (x : Nd) : Nd := { x with eh := none,ph := none }
def ersP (y : Po) : Po := { y with qh := none }
def ersN (N : Net) : Net := ⟨N.nd.map ers,N.po.map ersP,none,none⟩
def jnX (x : Nd) (j : Nat) (n : Nat) (a : Int) : Nd := { x with ef := x.ef ++ [(j,a)],pl := if a < 0 then x.pl ++ [(j,n)] else x.pl }
def jnY (y : Po) (i : Nat) (a : Int) : Po := { y with sum := y.sum + a,q := if a < 0 then y.q ++ [i] else y.q }
theorem Rep.keepE {wb mv : Nat} {nb pb : Nat → Nat} {N : Net} {M : MF} (h : Rep wb mv nb pb N M) {i : Nat} {x : Nd} (hx : N.nd[i]? = some x) {b : Nat} (hb : mdelH M x.eh b = none) {v : MObj} {b' : Nat} {t : TypeId} {cs : List D} (hm : M b' = some (.cells t cs)) : Za2 (mdelH M x.eh) b v b' = some (.cells t cs) :=
  keepM hb hm fun c hc => by have := Zby (h.nn i x hx).2.1 hc; rw [hm] at this; cases this
theorem Rep.keepP {wb mv : Nat} {nb pb : Nat → Nat} {N : Net} {M : MF} (h : Rep wb mv nb pb N M) {i : Nat} {x : Nd} (hx : N.nd[i]? = some x) {b : Nat} (hb : mdelH M x.ph b = none) {v : MObj} {b' : Nat} {t : TypeId} {cs : List D} (hm : M b' = some (.cells t cs)) : Za2 (mdelH M x.ph) b v b' = some (.cells t cs) :=
  keepM hb hm fun c hc => by have := Zby (h.nn i x hx).2.2 hc; rw [hm] at this; cases this
theorem Rep.keepQ {wb mv : Nat} {nb pb : Nat → Nat} {N : Net} {M : MF} (h : Rep wb mv nb pb N M) {j : Nat} {y : Po} (hy : N.po[j]? = some y) {b : Nat} (hb : mdelH M y.qh b = none) {v : MObj} {b' : Nat} {t : TypeId} {cs : List D} (hm : M b' = some (.cells t cs)) : Za2 (mdelH M y.qh) b v b' = some (.cells t cs) :=
  keepM hb hm fun c hc => by have := Zby (h.pp j y hy).2 hc; rw [hm] at this; cases this
set_option maxHeartbeats 1000000 in
theorem join_c {wb mv : Nat} {nb pb : Nat → Nat} {N : Net} {M : MF} (h : Rep wb mv nb pb N M) {i j : Nat} {x : Nd} {y : Po} (hx : N.nd[i]? = some x) (hy : N.po[j]? = some y) (a : Int) (ha : -100000000000000000 ≤ a ∧ a ≤ 100000000000000000) (hs : -1000000000000000000 ≤ y.sum ∧ y.sum ≤ 1000000000000000000) (he : x.ef.length ≤ 100000) (hp : x.pl.length ≤ 100000) (hq : y.q.length ≤ 100000) :
    ACalls Tryz.prog 77 [.d (pD (nb i) 0), .d (pD (pb j) 0), .d (intD a)] (HN M) fun r H' => r = .tup [] ∧ ∃ N' M',H' = HN M' ∧ Rep wb mv nb pb N' M' ∧ N'.nh = N.nh ∧ N'.mh = N.mh ∧ (∃ x',N'.nd = N.nd.set i x' ∧ ers x' = ers (jnX x j y.q.length a)) ∧ ∃ y',N'.po = N.po.set j y' ∧ ersP y' = ersP (jnY y i a) := by
  have hxb := h.n i x hx;have hre := (h.nn i x hx).2.1;have hrp := (h.nn i x hx).2.2;have hil := (List.getElem?_eq_some_iff.1 hx).1;have hjl := (List.getElem?_eq_some_iff.1 hy).1;have hqz := Zbs (h.pp j y hy).2;refine ZaB Tryz.func77 rfl rfl Tryz.ntmps77 rfl rfl rfl fun F hF => ?_;refine Zad (Zab (goMv rfl rfl (goMv rfl rfl (Zaa.go (Zax rfl rfl) (Zaa.go (Zav rfl fi112_1 rfl rfl rfl) (Zaa.go (ZaV (f := 40) rfl rfl (hxb) rfl on109 rfl) (goMv rfl rfl (goMv rfl rfl ?_))))))));refine Zaa.go (Za0 zl119 pl119 rfl rfl rfl) (Zaj.go (ZaD 1 sl109 rfl rfl rfl rfl rfl rfl rfl rfl) (Zaj.go (st_appH 10 60 40 hre rfl rfl (by simp) rfl rfl rfl rfl rfl (Zbc (emb := efD pb) x.ef [(j,a)] rfl rfl rfl rfl rfl rfl rfl rfl sl109 (by simp only [List.length_singleton]; omega) rfl rfl rfl rfl)) (o_absorbR 15 60 40 hF rfl rfl rfl (by simp) (by simp) rfl rfl rfl rfl rfl rfl rfl (fun _ _ => rfl) fun b1 c1 hb1 hc1 => (Zaa.go (Zax rfl rfl) (Zaa.go (Zav rfl fi112_1 rfl rfl rfl) (Zaj.go (Zb3 (f := 40) rfl rfl rfl rfl (h.keepE hx hb1 hxb) ((by show _ < 9; omega)) rfl sz109) (Zac (Zad ?_))))))));have hR1 := h.addE hx (j,a) hjl hb1 hc1;have hyb := hR1.p j y hy;refine Zab (goMv rfl rfl (Zaa.go (Zax rfl rfl) ?_));refine Zaa.go (Zav rfl fi121_2 rfl rfl rfl) (Zaa.go (ZaV (f := 40) rfl rfl (hyb) rfl on2 rfl) (goMv rfl rfl (Zaa.go (Zay rfl rfl (IntWalk.i64_in _ (by omega)) rfl) (Zaa.go (Zax rfl rfl) (Zaa.go (Zav rfl fi121_2 rfl rfl rfl) (Zaj.go (Zb3 (f := 40) rfl rfl rfl rfl (hyb) ((by show _ < 10; omega)) rfl sz2) (Zac (Zad ?_))))))));have hR2 := hR1.setPo (y' := { y with sum := y.sum + a }) hy rfl rfl;have hx2 : (N.nd.set i (addEf x b1 c1 (j,a)))[i]? = some (addEf x b1 c1 (j,a)) := List.getElem?_set_self hil;have hy2 : (N.po.set j { y with sum := y.sum + a })[j]? = some { y with sum := y.sum + a } := List.getElem?_set_self hjl;have hx2b := hR2.n i _ hx2;have hy2b := hR2.p j _ hy2;have hrp2 := (hR2.nn i _ hx2).2.2;refine Zab (goMv rfl rfl (Zaa.go (ZaI rfl rfl rfl) (Zac (ZaF rfl (fun h27 => ?_) (fun h27 => ?_)))))
  · refine Zad (ZaT [[],[],[1],[1,2],[1,2,3],[],[],[6],[6,7],[6,7,8],[6,7,8,9],[5,6,7,8,9,10],[5,6,7,8,9,10,11],[1,2,3,4,5,6,7,8,9,10,11,12],[0,1,2,3,4,5,6,7,8,9,10,11,12,13],[0,1,2,3,4,5,6,7,8,9,10,11,12,13,14],[0,1,2,3,4,5,6,7,8,9,10,11,12,13,14,15]] mixed rfl (dws (Zaf [0] [] rfl rfl (fun _ => Zae (Zar rfl rfl)) ?_)));refine Zaf [0] [] rfl rfl (fun _ => Zae (Zar rfl rfl)) (Zaf [29] [] rfl rfl (fun _ => Zae (Zax rfl rfl)) (Zaf [30] [] rfl rfl (fun _ => Zae (Zav rfl fi112_2 rfl rfl rfl)) (Zaf [31] [40] rfl rfl (fun _ => Zae (ZaV (f := 40) rfl rfl (hx2b) rfl on110 rfl)) (Zaf [1] [] rfl rfl (fun _ => Zae (Zar rfl rfl)) (Zaf [1] [] rfl rfl (fun _ => Zae (Zar rfl rfl)) (Zaf [34] [] rfl rfl (fun _ => Zae (Zax rfl rfl)) (Zaf [35] [] rfl rfl (fun _ => Zae (Zav rfl fi121_3 rfl rfl rfl)) (Zaf [36] [40] rfl rfl (fun _ => Zae (ZaV (f := 40) rfl rfl (hy2b) rfl on104 rfl)) ?_))))))));refine Zaf [37] [] rfl rfl (fun _ => Zae (ZbV hqz rfl Tryz.underlying104 rfl)) (Zaf [33,38] [] rfl rfl (fun _ => Zae (Za0 zl165 pl165 rfl rfl rfl)) (Zbf [39] [2] [(40,_)] rfl rfl (fun _ => Za5 (ZaD 2 sl110 rfl rfl rfl rfl rfl rfl rfl rfl)) (.inr ⟨40,_,rfl,rfl,rfl,rfl,rfl⟩) rfl rfl rfl rfl rfl (Zbf [32,40] [61,40,2] [(41,_)] rfl rfl (fun _ => Za5 (st_appH 32 61 40 hrp2 rfl rfl (by simp [addEf]) rfl rfl rfl rfl rfl (Zbc (emb := plD pb) x.pl [(j,y.q.length)] rfl rfl rfl rfl rfl rfl rfl rfl sl110 (by simp only [List.length_singleton]; omega) rfl rfl rfl rfl))) (.inr ⟨41,_,rfl,rfl,rfl,rfl,rfl⟩) rfl rfl rfl rfl rfl (dwc 14 rfl rfl rfl (dw1 15 rfl rfl (o_absorbR 41 61 40 hF rfl rfl rfl (by simp) (by simp) rfl rfl rfl rfl rfl rfl rfl (fun _ _ => rfl) fun b2 c2 hb2 hc2 => (Zaa.go (Zax rfl rfl) (Zac ⟨rfl, ?_⟩))))))));refine dw1 16 rfl rfl (Zaa.go (Zav rfl fi112_2 rfl rfl rfl) (Zac ⟨rfl, ?_⟩));refine dw1 17 rfl rfl (Zaj.go (Zb3 (f := 40) rfl rfl rfl rfl (hR2.keepP hx2 hb2 hx2b) ((by show _ < 9; omega)) rfl sz110) (Zac ⟨rfl, ?_⟩));refine dwe ?_;have hR3 := hR2.addP hx2 (j,y.q.length) (by show j < (N.po.set j _).length; rw [List.length_set]; exact hjl) hb2 hc2;have hy3b := hR3.p j _ hy2;have hrq3 := (hR3.pp j _ hy2).2;refine Zab (goMv rfl rfl (goMv rfl rfl (Zaa.go (Zax rfl rfl) (Zaa.go (Zav rfl fi121_3 rfl rfl rfl) ?_))));refine Zaa.go (ZaV (f := 40) rfl rfl (hy3b) rfl on104 rfl) (goMv rfl rfl (Zaj.go (ZaD 3 sl104 rfl rfl rfl rfl rfl rfl rfl rfl) (Zaj.go (st_appH 48 62 40 hrq3 rfl rfl (by simp) rfl rfl rfl rfl rfl (Zbc (emb := fun i => ptrD (nb i)) y.q [i] rfl rfl rfl rfl rfl rfl rfl rfl sl104 (by simp only [List.length_singleton]; omega) rfl rfl rfl rfl)) (o_absorbR 51 62 40 hF rfl rfl rfl (by simp) (by simp) rfl rfl rfl rfl rfl rfl rfl (fun _ _ => rfl) fun b3 c3 hb3 hc3 => (Zaa.go (Zax rfl rfl) (Zaa.go (Zav rfl fi121_3 rfl rfl rfl) (Zaj.go (Zb3 (f := 40) rfl rfl rfl rfl (hR3.keepQ hy2 hb3 hy3b) ((by show _ < 10; omega)) rfl sz104) (Zac ?_))))))));have hR4 := hR3.addQ hy2 (i := i) (by show i < ((N.nd.set i _).set i _).length; rw [List.length_set,List.length_set]; exact hil) hb3 hc3;exact ⟨_,[40],_,Zak rfl,rfl,rfl,rfl,_,_,rfl,hR4,rfl,rfl,⟨_,List.set_set _,by unfold ers addPl addEf jnX; simp [h27]⟩,⟨_,List.set_set _,by unfold ersP addQu jnY; simp [h27]⟩⟩
  · refine Zap ?_;exact ⟨_,[40],_,Zak rfl,rfl,rfl,rfl,_,_,rfl,hR2,rfl,rfl,⟨_,rfl,by unfold ers addEf jnX; simp [h27]⟩,⟨_,rfl,by unfold ersP jnY; simp [h27]⟩⟩
end Go.Proofs.YtneihdahboilnaaGreat
