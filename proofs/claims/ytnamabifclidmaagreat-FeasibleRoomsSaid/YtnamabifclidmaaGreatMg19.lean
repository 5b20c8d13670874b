/- Layer 28: what slices.Values feeds to a loop. -/
import Derived.Test.YtnamabifclidmaaGreatMg18
namespace Go.Proofs.YtnamabifclidmaaGreat
open Go.RowKit

theorem hnewN {hp : Hp} {f : Nat} {o : AObj} (h : hfam hp f = none) : hnew? hp f o = some ((f, [o]) :: hp) := by simp only [hnew?]; rw [h]
theorem partN {hp : Hp} {f : Nat} {x : List AObj} : ∀ {nm : List Nat}, memB f nm = false → part? ((f, x) :: hp) nm = part? hp nm
  | [], _ => rfl
  | g :: r, h => by
    have h1 : Nat.beq f g = false := by
      cases hb : Nat.beq f g with
      | false => rfl
      | true =>
        have e := Nat.eq_of_beq_eq_true hb;subst e
        simp [memB] at h
    have h2 : memB f r = false := by
      cases hb : memB f r with
      | false => rfl
      | true => simp [memB, hb] at h
    simp only [part?];rw [partN h2];simp only [hfam, h1]
theorem subB_refl (l : List Nat) : subB l l = true := by
  have key : ∀ (l m : List Nat), (∀ x ∈ l, x ∈ m) → subB l m = true := fun l => by
    induction l with
    | nil => intro m _; rfl
    | cons a r ih => intro m h; simp only [subB, Bool.and_eq_true]; exact ⟨ZaS.2 (h a (by simp)), ih m fun x hx => h x (by simp [hx])⟩
  exact key l l fun x hx => hx
theorem ZbJ {α β : Type} {step : β → α → β × Bool} {b : β} {x : α} {r : List α} : feed step b (x :: r) = if (step b x).2 = true then feed step (step b x).1 r else (step b x).1 := by
  simp only [feed]
  generalize step b x = y
  obtain ⟨y1, y2⟩ := y
  cases y2 <;> rfl
def encI (x : Itm) : List AV := [.d (itmD x)]
section
variable {β : Type}
set_option maxRecDepth 100000 in
theorem seqV_c (its : List Itm) (hits : its.length ≤ 1000000) (l : Nat) (H : β → Hp) (N : List Nat) (step : β → Itm → β × Bool) (st0 : β) (hN : ∀ st, hpN (H st) = N) (hI : ∀ st, hpIn N (H st) = true) (hP : ∀ st, part? (H st) N = some (H st))
    (hk : ∀ st, killH? 990 (H st) = some (H st)) (hz : ∀ st, hfam (H st) 990 = none) (hm : memB 990 N = false)
    (hfe : Feeds Tryz.prog l encI H step st0 its) :
    ACalls Tryz.prog 162 [.d (.raw (yieldV l)), .d (.ptr (.sl none (its.map itmD)))] (H st0) fun r H' => r = .tup [] ∧ H' = H (feed step st0 its) := by
  refine ZaH Tryz.func162 rfl rfl Tryz.ntmps162 rfl rfl rfl fun F hF => ?_;refine Zag ?_;refine Zab ?_;refine Zaa.go (Zau rfl rfl on33 rfl) ?_;refine Zaa.go (ZaA rfl Tryz.underlying33 rfl) ?_;refine Zaa.go (Zad rfl rfl) ?_;refine Zaf ?_;refine Zar ?_;refine a_loop (α := Nat × β) (fun p => ⟨16, [(0, .d (.raw (yieldV l))), (5, (.d (.sl none (its.map itmD)))), (6, (.d (intD (its.length : Int)))), (7, (.d (intD (p.1 : Int))))], H p.2⟩) (fun p => p.1 ≤ its.length ∧ Feeds Tryz.prog l encI H step p.2 (its.drop p.1) ∧ feed step p.2 (its.drop p.1) = feed step st0 its) (fun p => its.length - p.1) ((0, st0)) (⟨Nat.zero_le _, hfe, rfl⟩) (ZbK ⟨rfl, rfl, rfl, rfl, trivial⟩) ?_;rintro ⟨k, st⟩ ⟨hk0, hfd, hfin⟩;dsimp only at hk0 hfd hfin ⊢;refine Zag ?_;refine Zab ?_;refine Zaa.go (ZaO rfl rfl rfl) ?_;refine Zaf ?_;refine Zag ?_;refine ZaJ rfl (fun h8 => ?_) (fun h8 => ?_)
  · have hk1 : k < its.length := ZaQ h8;refine Zaq ?_;refine Zag ?_;refine Zar ?_;refine Zag ?_;refine Zab ?_;have hA : its.drop k = its[k] :: its.drop (k + 1) := List.drop_eq_getElem_cons hk1;rw [hA] at hfd;refine Zaa.go (Zaw (k) rfl rfl (rfl) (getm hk1) Tryz.underlying33 rfl sz100 rfl) ?_;refine Zaa.go (ZaD rfl rfl rw100 rfl) ?_;refine Zan.go (ZaX 990 zl100 rfl (hk _) (hnewN (hz _)) rfl) ?_;refine Zan.go (ZaK rfl rfl rfl rfl rfl rfl rfl sz100) ?_;refine Zaf ?_;refine Zag ?_;refine Zab ?_;refine Zaa.go (Zad rfl rfl) ?_;refine Zaa.go (Zat rfl rfl rw100 rfl rfl rfl) ?_;refine o_keep [0, 5, 6, 7, 11, 12] rfl ?_;refine o_only N (hF.trans (hN st0)) (subB_refl N) ((partN hm).trans (hP _)) ?_;refine o_yieldW hfd.1 rfl rfl (by rw [hN, hN]) (by rw [hN]; exact hI _) rfl rfl ?_;refine Zaa.go (ZbH rfl rfl) ?_;refine Zaf ?_;refine Zbc rfl (fun h14 => ?_) (fun h14 => ?_)
    · have hgo : (step st its[k]).2 = false := by simpa using h14
      refine Zap ?_;exact ⟨_, N, _, Zao rfl, hP _, by rw [← hN st0]; exact ZbN _, rfl, by rw [← hfin, hA, ZbJ, if_neg (by rw [hgo]; decide)]⟩
    · have hgo : (step st its[k]).2 = true := by simpa using h14
      refine Zaq ?_;refine Zab ?_;refine Zaa.go (ZaE rfl rfl (wrapS (k + 1) (by omega)) rfl) ?_;refine Zaa.go (Zad rfl rfl) ?_;refine Zaf ?_;exact ⟨(k + 1, (step st its[k]).1), ⟨by show k + 1 ≤ _; omega, hfd.2 hgo, by rw [← hfin, hA, ZbJ, if_pos hgo]⟩, by show its.length - (k + 1) < its.length - k; omega, ⟨rfl, rfl, fun _ _ => Has.get (l := [(0, _), (5, _), (6, _), (7, _)]) ⟨rfl, rfl, rfl, rfl, trivial⟩⟩⟩
  · refine ZaR ?_;exact ⟨_, N, _, Zao rfl, hP _, by rw [← hN st0]; exact ZbN _, rfl, by rw [← hfin, List.drop_of_length_le (by have h := h8; omega)]; rfl⟩
end
end Go.Proofs.YtnamabifclidmaaGreat

/- Layer 28: the items in order. -/
namespace Go.Proofs.YtnamabifclidmaaGreat
open Go.RowKit

theorem SR.freezeB {F : Fr} {s : AS} {ρ : Nat → Nat → Value} {act : Act} {w : World} (h : SR F s ρ act w) (t f : Nat) (x : D) {T : TypeId} {cs : List AV} {hp' : Hp} (nm : List Nat) {pn : List Nat} (hF : F.pn = pn) (ht : get s.env t = some (.ptr f 0 0)) (hone : hfam s.hp f = some [.blk T cs]) (hcs : cs = x.cells.map .d) (hx1 : ∀ c ∈ x.cells, c.one = true) (hf : memB f nm = false) (hsub : subB pn nm = true) (hpt : part? s.hp nm = some hp') : SR F ⟨s.n, (t, .d (.ptr x)) :: s.env, hp'⟩ ρ act w := by
  have h1 := h.only nm hF hsub hpt;refine ⟨h1.size, h1.defs, fun t' a ha => ?_, h1.heap⟩;rcases Zbm ha with ⟨rfl, rfl⟩ | ⟨_, ha⟩
  · have hr := h.env t _ ht;have ho : hget s.hp f 0 = some (.blk T cs) := by simp [hget, hone]
    obtain ⟨b, us, e1, e2, e3, e4, e5⟩ := h.heap.sim f 0 _ ho;show RepA _ _ _ _ (act.tmps.getD t undef)
    generalize act.tmps.getD t undef = v at hr
    cases hr with
    | @ptr _ _ _ b' hb =>
      rw [e1] at hb; injection hb with hb; injection hb with hb; injection hb with hb; subst hb
      have hO : ∀ b', F.O ρ hp' b' → F.O ρ s.hp b' := fun b' hb' => hb'.imp id fun ⟨f', i', o', q1, q2⟩ => by
        obtain ⟨m1, _⟩ := part?_mem hpt;refine ⟨f', i', o', ?_, q2⟩;simp only [hget] at q1 ⊢
        cases hh : hfam hp' f' with
        | none => rw [hh] at q1; cases q1
        | some l => rw [(m1 f' l hh).2]; rw [hh] at q1; exact q1
      have hnO : ¬ F.O ρ hp' b := fun hb' => by
        rcases hb' with hb' | ⟨f', i', o', q1, q2⟩
        · exact h.heap.notOf ⟨f, 0, _, ho, by rw [e1]; rfl⟩ hb'
        · obtain ⟨m1, _⟩ := part?_mem hpt;simp only [hget] at q1
          cases hh : hfam hp' f' with
          | none => rw [hh] at q1; cases q1
          | some l =>
            have q3 : hget s.hp f' i' = some o' := by simp only [hget]; rw [(m1 f' l hh).2]; rw [hh] at q1; exact q1
            obtain ⟨e1', _⟩ := h.heap.inj f' i' f 0 _ _ b q3 ho q2 (by rw [e1]; rfl);have := ZaS.2 (m1 f' l hh).1;rw [e1', hf] at this; cases this
      have hlen : us.length = x.cells.length := by rw [e3, hcs, List.length_map]
      refine .d (.ptr (fun j => us.getD j undef) (h.heap.ltO (.inr ⟨f, 0, _, ho, by rw [e1]; rfl⟩)) hnO hx1 (fun j c hj => ?_) (fun j c hj => ?_))
      · have hj' : j < us.length := by rw [hlen]; exact (List.getElem?_eq_some_iff.1 hj).1
        rw [Nat.zero_add, cell_of_row w b j us.toArray T (0, 0) e2]
        simp [hj']
      · have hj' : j < us.length := by rw [hlen]; exact (List.getElem?_eq_some_iff.1 hj).1
        have hc := e4 j (.d c) us[j] (by rw [hcs, List.getElem?_map, hj]; rfl) (List.getElem?_eq_getElem hj');have hg : us.getD j undef = us[j] := by simp [hj']
        rw [hg]
        cases hc with
        | d hc => exact hc.mono (Nat.le_refl _) (fun _ _ _ => rfl) fun b' _ => hO b'
  · exact h1.env t' a ha
theorem o_freezeB {P : Program} {F : Fr} {Q : Exit → AS → Prop} {ops : Array Oper} {l' : List Oper} {sn : Nat} {env : List (Nat × AV)} {hp hp' : Hp} (t f : Nat) (x : D) {T : TypeId} {cs : List AV} (nm : List Nat) {pn : List Nat} (hF : F.pn = pn) (ht : get env t = some (.ptr f 0 0)) (hone : hfam hp f = some [.blk T cs]) (hcs : cs = x.cells.map .d) (hx1 : ∀ c ∈ x.cells, c.one = true) (hf : memB f nm = false) (hsub : subB pn nm = true) (hpt : part? hp nm = some hp')
    (h : Aops P F ops l' Q ⟨sn, (t, .d (.ptr x)) :: env, hp'⟩) : Aops P F ops l' Q ⟨sn, env, hp⟩ := fun ρ act w hs => h ρ act w (hs.freezeB t f x nm hF ht hone hcs hx1 hf hsub hpt)


theorem a_freezeB {P : Program} {F : Fr} {Q : Exit → AS → Prop} {c : Code} {sn : Nat} {env : List (Nat × AV)} {hp hp' : Hp} (t f : Nat) (x : D) {T : TypeId} {cs : List AV} (nm : List Nat) {pn : List Nat} (hF : F.pn = pn) (ht : get env t = some (.ptr f 0 0)) (hone : hfam hp f = some [.blk T cs]) (hcs : cs = x.cells.map .d) (hx1 : ∀ c ∈ x.cells, c.one = true) (hf : memB f nm = false) (hsub : subB pn nm = true) (hpt : part? hp nm = some hp')
    (h : Awp P F c Q ⟨sn, (t, .d (.ptr x)) :: env, hp'⟩) : Awp P F c Q ⟨sn, env, hp⟩ := fun ρ act w hs => h ρ act w (hs.freezeB t f x nm hF ht hone hcs hx1 hf hsub hpt)
theorem values_c (its : List Itm) : ACalls Tryz.prog 142 [.d (.sl none (its.map itmD))] [] fun r H' => r = .fn 162 [.d (.ptr (.sl none (its.map itmD)))] ∧ H' = [] := by
  refine ZaH Tryz.func142 rfl rfl Tryz.ntmps142 rfl rfl rfl fun F hF => ?_;refine Zag ?_;refine Zab ?_;refine Zan.go (ZaW 1 rfl rfl rfl rfl rfl rfl rfl) ?_;refine Zaa.go (Zae rfl rfl) ?_;refine Zaf ?_;refine Zag ?_;refine Zab ?_;refine o_freezeB 1 1 (.sl none (its.map itmD)) [] hF rfl rfl rfl (by intro c hc; simp [D.cells] at hc; subst hc; rfl) rfl rfl rfl ?_;refine Zaa.go (st_makeFunc rfl rfl) ?_;refine Zaa.go (Zae rfl rfl) ?_;refine Zaf ?_;refine Zap ?_;exact ⟨_, [], [], Zao rfl, rfl, rfl, rfl, rfl⟩
abbrev hV (q : List Itm) : Hp := [(920, [.rowD 100 6 (q.map itmD)]), (1, [.blk 33 [.own 920 0 q.length]])]
def stepI (q : List Itm) (x : Itm) : List Itm × Bool := (q ++ [x], true)
theorem feed_app : ∀ (l q : List Itm), feed stepI q l = q ++ l
  | [], q => by simp [feed]
  | x :: l, q => by rw [ZbJ]; show (if true = true then feed stepI (q ++ [x]) l else _) = _; rw [if_pos rfl, feed_app l]; simp
theorem feeds_app {P : Program} {l : Nat} {H : List Itm → Hp} {n : Nat} (hY : ∀ q x, q.length < n → YCalls P l (encI x) (H q) fun v H' => v = .d (.raw (.bool true)) ∧ H' = H (q ++ [x])) : ∀ (xs q : List Itm), q.length + xs.length ≤ n → Feeds P l encI H stepI q xs
  | [], _, _ => trivial
  | x :: xs, q, h => ⟨hY q x (by simp at h; omega), fun _ => feeds_app hY xs (q ++ [x]) (by simp at h ⊢; omega)⟩
set_option maxRecDepth 100000 in
theorem appseq_c (its : List Itm) (hits : its.length ≤ 1000000) : ACalls Tryz.prog 167 [.d (.sl (some true) []), .fn 162 [.d (.ptr (.sl none (its.map itmD)))]] [] fun r H' => r = .own 920 0 its.length ∧ H' = [(920, [.rowD 100 6 (its.map itmD)])] := by
  refine a_enterR Tryz.func167 rfl rfl Tryz.ntmps167 rfl rfl rfl fun F hF hFl => ?_;refine Zag ?_;refine Zab ?_;refine Zan.go (ZaW 1 rfl rfl rfl rfl rfl rfl rfl) ?_;refine Zaa.go (Zae rfl rfl) ?_;refine Zaf ?_;refine Zag ?_;refine Zag ?_;refine ZbT 1 0 0 920 sl33 rfl rfl rfl rfl rfl rfl rfl ?_;refine Zab ?_;refine Zaa.go (Zad rfl rfl) ?_;refine Zaf ?_;refine Zar ?_;refine a_keep [2, 6] rfl ?_;refine a_range (γ := Unit) hFl 900 rfl rfl rfl rfl rfl [1, 920] (CHr := hV []) (fun _ => True) (fun _ => hV its) (fun _ => .ready) (fun _ => none) ⟨rfl, rfl, trivial⟩ rfl rfl rfl (fun _ => rfl) (fun _ => rfl) rfl (fun _ _ => by simp) (fun _ _ => ⟨rfl, rfl⟩) [920, 1] hF rfl rfl (fun _ _ => rfl) (fun l A B hA hB => ?_) (fun _ _ => ?_)
  · refine (seqV_c its hits l (fun q : List Itm => (900, [.loop ⟨l, 13, [(2, .ptr 1 0 0), (6, .fn 162 [.d (.ptr (.sl none (its.map itmD)))])], .ready, none, #[7], A, B⟩]) :: hV q) [900, 920, 1] stepI [] (fun _ => rfl) (fun _ => rfl) (fun _ => rfl) (fun _ => rfl) (fun _ => rfl) rfl ?_).mono (fun r H' ⟨e1, e2⟩ => ⟨e1, (), trivial, by rw [e2, feed_app]; rfl⟩);refine feeds_app (n := its.length) (fun q x hq => ?_) its [] (by simp);refine yc_round (lf := 900) rfl rfl rfl rfl fun F hF hr => ?_;show Awp _ _ A _ _;rw [hA];refine Zab ?_;refine Zan.go (ZaX 2 zl100 rfl rfl rfl rfl) ?_;refine Zan.go (ZaK rfl rfl rfl rfl rfl rfl rfl sz100) ?_;refine Zaf ?_;refine ⟨rfl, _, _, rfl, rfl, rfl, rfl, ?_⟩;show Awp _ _ B _ _;rw [hB];refine Zar ?_;refine Zab ?_;refine Zaa.go (Zaj rfl rfl rfl on33 rfl) ?_;refine Zaa.go (Zat rfl rfl rw100 rfl rfl rfl) ?_;refine Zan.go (ZaN 30 sl33 rfl rfl rfl rfl rfl rfl rfl rfl) ?_;refine Zan.go (Zbk (q) ([x]) rfl rfl rfl rfl rfl rfl rfl rfl sl33 (by simp only [List.length_singleton]; omega) rfl rfl rfl rfl) ?_;refine Zan.go (ZaK rfl rfl rfl rfl rfl rfl rfl sz33) ?_;refine Zaf ?_;exact ⟨none, _, _, [900, 920, 1], _, rfl, rfl, rfl, rfl, rfl, rfl, rfl, rfl⟩
  · refine Zag ?_;refine Zab ?_;refine Zaa.go (Zaj rfl rfl rfl on33 rfl) ?_;refine Zaa.go (Zae rfl rfl) ?_;refine Zaf ?_;refine Zap ?_;exact ⟨_, [920], _, Zao rfl, rfl, rfl, rfl, rfl⟩
end Go.Proofs.YtnamabifclidmaaGreat

/- Layer 28: a problem's items in order. -/
namespace Go.Proofs.YtnamabifclidmaaGreat
open Go.RowKit

theorem insO_perm (l : List Itm) (x : Itm) : (insO l x).Perm (x :: l) := by
  induction l with
  | nil => exact List.Perm.refl _
  | cons a l ih =>
    simp only [insO]; split
    · exact List.Perm.refl _
    · exact (List.Perm.cons a ih).trans (List.Perm.swap x a l)
theorem insO_sorted {l : List Itm} (h : l.Pairwise fun a b => ¬ ordI b a < 0) (x : Itm) : (insO l x).Pairwise fun a b => ¬ ordI b a < 0 := by
  induction l with
  | nil => simp [insO]
  | cons a l ih =>
    rw [List.pairwise_cons] at h;simp only [insO]
    split
    · rename_i hall
      exact List.pairwise_cons.2 ⟨fun y hy => by have h1 := hall y hy; have h2 := ordI_pc.anti x y; omega, List.pairwise_cons.2 h⟩
    · rename_i hn
      refine List.pairwise_cons.2 ⟨fun y hy => ?_, ih h.2⟩;rcases List.mem_cons.1 ((insO_perm l x).mem_iff.1 hy) with rfl | hy
      · intro hlt;refine hn fun z hz => ?_;rcases List.mem_cons.1 hz with rfl | hz
        · exact hlt
        · have h1 := h.1 z hz;have h2 := ordI_pc.anti a z
          by_cases e : ordI a z = 0
          · have h3 := ordI_pc.eqv a z y e;have h4 := ordI_pc.anti a y; have h5 := ordI_pc.anti z y; omega
          · exact ordI_pc.trans _ _ _ hlt (by omega)
      · exact h.1 y hy
theorem sortO_perm (l : List Itm) : (sortO l).Perm l := by
  induction l using snoc_ind with
  | h0 => exact List.Perm.refl _
  | h1 l x ih =>
    rw [sortO_snoc];exact (insO_perm _ x).trans ((List.Perm.cons x ih).trans (List.perm_append_comm (l₁ := [x]) (l₂ := l)))
theorem sortO_sorted (l : List Itm) : (sortO l).Pairwise fun a b => ¬ ordI b a < 0 := by
  induction l using snoc_ind with
  | h0 => exact List.Pairwise.nil
  | h1 l x ih => rw [sortO_snoc]; exact insO_sorted ih x
theorem ordI_zero {a b : Itm} (h : ordI a b = 0) : a.sq = b.sq := by
  unfold ordI at h;simp only [fst0] at h
  split at h
  · split at h
    · rename_i h2; exact cmpI_zero.1 h2
    · contradiction
  · contradiction
theorem strict_of {l : List Itm} (hn : (l.map Itm.sq).Nodup) (h : l.Pairwise fun a b => ¬ ordI b a < 0) : l.Pairwise fun a b => ordI a b < 0 := by
  rw [List.Nodup, List.pairwise_map] at hn;refine (h.and hn).imp fun {a b} ⟨g1, g2⟩ => ?_;have h1 := ordI_pc.anti a b;have h2 : ordI a b ≠ 0 := fun e => g2 (ordI_zero e);omega
theorem ord_one {its ys : List Itm} (hn : (its.map Itm.sq).Nodup) (h1 : ys.Perm its) (h2 : ys.Pairwise fun a b => ¬ ordI b a < 0) : ys = sortO its :=
  strict_one (R := fun a b => ordI a b < 0) (fun x => by rw [ordI_pc.refl]; omega) (fun x y z => ordI_pc.trans x y z) (strict_of ((h1.map _).nodup_iff.2 hn) h2) (strict_of (((sortO_perm its).map _).nodup_iff.2 hn) (sortO_sorted its)) fun x => by rw [h1.mem_iff, (sortO_perm its).mem_iff]
theorem itmD_agg (x : Itm) : ∃ cs, itmD x = .agg cs := ⟨_, rfl⟩
abbrev seqA (its : List Itm) : AV := .fn 162 [.d (.ptr (.sl none (its.map itmD)))]
set_option maxRecDepth 100000 in
theorem collect_c (its : List Itm) (hits : its.length ≤ 1000000) : ACalls Tryz.prog 160 [seqA its] [] fun r H' => r = .own 920 0 its.length ∧ H' = [(920, [.rowD 100 6 (its.map itmD)])] := by
  refine ZaH Tryz.func160 rfl rfl Tryz.ntmps160 rfl rfl rfl fun F hF => ?_;refine Zag ?_;refine Zab ?_;refine Zaa.go (Zae rfl rfl) ?_;refine Zaf ?_;refine Zag ?_;refine Zab ?_;refine Zaa.go (Zad rfl rfl) ?_;refine Zan.go (Zbf (appseq_c its hits) rfl [920] ⟨rfl, trivial⟩ rfl rfl rfl rfl rfl rfl rfl rfl rfl) ?_;refine Zaa.go (Zae rfl rfl) ?_;refine Zaf ?_;refine Zap ?_;exact ⟨_, [920], _, Zao rfl, rfl, rfl, rfl, rfl⟩
set_option maxRecDepth 100000 in
theorem sortedF_p (its : List Itm) (hits : its.length ≤ 1000000) (hn : (its.map Itm.sq).Nodup) : PCalls Tryz.prog 141 [seqA its, .d (.raw (.func (.func 143) #[] #[]))] (.sl none ((sortO its).map itmD)) := by
  refine ZaH Tryz.func141 rfl rfl Tryz.ntmps141 rfl rfl rfl fun F hF => ?_;refine Zag ?_;refine Zab ?_;refine Zaa.go (Zae rfl rfl) ?_;refine Zaf ?_;refine Zag ?_;refine Zab ?_;refine Zaa.go (Zad rfl rfl) ?_;refine Zan.go (Zbf (collect_c its hits) rfl [920] ⟨rfl, trivial⟩ rfl rfl rfl rfl rfl rfl rfl rfl rfl) ?_;refine Zaa.go (Zae rfl rfl) ?_;refine Zaf ?_;refine Zag ?_;refine Zab ?_;refine Zaa.go (Zad rfl rfl) ?_;refine Zaa.go (Zad rfl rfl) ?_;refine Zan.go (st_sort laysI (k := 6) (by decide) Tryz.isAgg100 Tryz.sizeOf100 Tryz.func143 rfl rfl itmD_agg ordI ordI_pc.swo its (sortO its) (by omega) (fun x _ y _ => order_p x y) (fun ys g1 g2 => ord_one hn g1 g2) rfl rfl rfl fa_raw rfl rfl rfl rfl rfl) ?_;refine Zaf ?_;refine Zag ?_;refine ZbR (emb := itmD) 5 920 (sortO its) rfl rfl rfl (sortO_len its).symm rfl rfl rfl ?_;refine Zab ?_;refine Zaa.go (Zad rfl rfl) ?_;refine Zaa.go (Zae rfl rfl) ?_;refine Zaf ?_;refine Zap ?_;exact ⟨_, [], [], Zao rfl, rfl, rfl, rfl, rfl⟩
theorem items_nodup {l : List Itm} (h : itemsE l = 0) : (l.map Itm.sq).Nodup := by
  have h0 := ZbL.1 h;rw [List.Nodup, List.pairwise_map, List.pairwise_iff_getElem];intro i j hi hj hij e;have := h0 j (List.mem_range.2 hj);unfold iErr at this;rw [Zbw itm0 hj] at this
  split at this
  · contradiction
  · split at this
    · cases this
    · rename_i hn
      exact hn (.inr (mem_tk hj hij e))
theorem prb_ok {p : Prb} (h : prbE p = 0) : roomsE p.ro = 0 ∧ itemsE p.it = 0 ∧ afterE p.it = 0 := by
  unfold prbE at h
  split at h; · cases h
  have h3 := fst0_all h;exact ⟨h3 _ (by simp), h3 _ (by simp), h3 _ (by simp)⟩
def ordP (p : Prb) : List Itm := if prbE p = 0 then sortO p.it else []
set_option maxRecDepth 100000 in
theorem psorted_p (p : Prb) (hb : PrbB p) : PCalls Tryz.prog 116 [.d (prbD p)] (.sl none ((ordP p).map itmD)) := by
  have hck := pcheck_p p hb;obtain ⟨_, g2, _⟩ := hb
  by_cases hE : prbE p = 0
  · rw [hE] at hck;have hR : ordP p = sortO p.it := if_pos hE;rw [hR];refine ZaH Tryz.func116 rfl rfl Tryz.ntmps116 rfl rfl rfl fun F hF => ?_;refine Zag ?_;refine Zab ?_;refine Zan.go (ZaW 1 rfl rfl rfl rfl rfl rfl rfl) ?_;refine Zaa.go (Zae rfl rfl) ?_;refine Zaf ?_;refine Zag ?_;refine Zag ?_;refine Zab ?_;refine Zaa.go (Zat rfl rfl rw35 rfl rfl rfl) ?_;refine Zaa.go (Zas (hck) rfl rfl) ?_;refine Zaa.go (Za1 rfl rfl rfl) ?_;refine Zaf ?_;refine Za4 rfl ((by decide)) ?_;refine Zaq ?_;refine Zag ?_;refine Zab ?_;refine Zaa.go (Zai rfl Zbx rfl rfl rfl) ?_;refine Zaa.go (Zaj rfl rfl rfl on33 rfl) ?_;refine Zan.go (Zbf (values_c p.it) rfl [] trivial rfl rfl rfl rfl rfl rfl rfl rfl rfl) ?_;refine Zaa.go (Zas (sortedF_p p.it (by omega) (items_nodup (prb_ok hE).2.1)) rfl rfl) ?_;refine Zaa.go (Zae rfl rfl) ?_;refine Zaf ?_;refine Zap ?_;exact ⟨_, [], [], Zao rfl, rfl, rfl, rfl, rfl⟩
  · have hR : ordP p = [] := if_neg hE;rw [hR];refine ZaH Tryz.func116 rfl rfl Tryz.ntmps116 rfl rfl rfl fun F hF => ?_;refine Zag ?_;refine Zab ?_;refine Zan.go (ZaW 1 rfl rfl rfl rfl rfl rfl rfl) ?_;refine Zaa.go (Zae rfl rfl) ?_;refine o_anyNil 2 rfl ?_;refine Zaf ?_;refine Zag ?_;refine Zag ?_;refine Zab ?_;refine Zaa.go (Zat rfl rfl rw35 rfl rfl rfl) ?_;refine Zaa.go (Zas (hck) rfl rfl) ?_;refine Zaa.go (Za1 rfl rfl rfl) ?_;refine Zaf ?_;refine ZaV rfl ((by simpa using hE)) ?_;refine Zag ?_;refine Zab ?_;refine Zaa.go (Zae rfl rfl) ?_;refine o_anyNil 2 rfl ?_;refine Zaf ?_;refine Zap ?_;exact ⟨_, [], [], Zao rfl, rfl, rfl, rfl, rfl⟩
end Go.Proofs.YtnamabifclidmaaGreat
/- Layer 28: Order, Queue, Item. -/
namespace Go.Proofs.YtnamabifclidmaaGreat
open Go.RowKit

theorem ordP_len (p : Prb) : (ordP p).length ≤ p.it.length := by unfold ordP; split <;> simp [sortO_len]
theorem ordP_mem {p : Prb} {i : Itm} (h : i ∈ ordP p) : i ∈ p.it := by
  unfold ordP at h; split at h
  · exact (sortO_perm _).mem_iff.1 h
  · cases h
set_option maxRecDepth 100000 in
theorem order_ids_p (p : Prb) (hb : PrbB p) : PCalls Tryz.prog 97 [.d (prbD p)] (.sl none (((ordP p).map Itm.id).map intD)) := by
  have hso := psorted_p p hb;have hlen := ordP_len p;have hb2 := hb.2.1
  obtain ⟨S, hS⟩ : ∃ S, ordP p = S := ⟨_, rfl⟩
  rw [hS] at hso hlen ⊢;refine ZaH Tryz.func97 rfl rfl Tryz.ntmps97 rfl rfl rfl fun F hF => ?_;refine Zag ?_;refine Zab ?_;refine Zan.go (ZaW 1 rfl rfl rfl rfl rfl rfl rfl) ?_;refine Zaa.go (Zae rfl rfl) ?_;refine Zaf ?_;refine Zag ?_;refine Zab ?_;refine Zaa.go (Zae rfl rfl) ?_;refine Zaf ?_;refine Zag ?_;refine Zag ?_;refine a_adopt 3 900 sl26 rfl rfl rfl rfl ?_;refine Zab ?_
  first | refine Zaa.go (ZaD rfl rfl rw35 rfl) ?_ | refine Zaa.go (Zat rfl rfl rw35 rfl rfl rfl) ?_ | refine Zaa.go (ZaU rfl rfl (rfl) rfl rw35 rfl) ?_
  refine Zaa.go (Zas (hso) rfl rfl) ?_
  first | refine Zaa.go (ZaA rfl Tryz.underlying33 rfl) ?_ | refine Zaa.go (ZbB rfl rfl Tryz.underlying33 rfl) ?_ | refine Zaa.go (ZbA rfl Tryz.underlying33 rfl) ?_ | refine Zaa.go (Zbu rfl Tryz.underlying33 rfl) ?_ | refine Zaa.go (Zbz rfl Tryz.underlying33 rfl) ?_
  refine Zaa.go (Zad rfl rfl) ?_;refine Zaf ?_;refine Zar ?_;refine ZaT (α := Nat × List Int) (fun q => ⟨20, [(3, (.own 900 0 q.2.length)), (7, (.d (.sl none (S.map itmD)))), (8, (.d (intD (S.length : Int)))), (9, (.d (intD (q.1 : Int))))], [(900, [.rowD 3 1 (q.2.map intD)])]⟩) (fun q => q.1 ≤ S.length ∧ q.2 = (S.take q.1).map Itm.id) (fun q => S.length - q.1) ((0, [])) (⟨Nat.zero_le _, rfl⟩) (Zaz hF [900] rfl rfl ⟨rfl, rfl, rfl, rfl, trivial⟩) ?_;rintro ⟨k, acc⟩ ⟨hk0, hA⟩;dsimp only at hk0 hA ⊢;refine Zag ?_;refine Zab ?_
  first | refine Zaa.go (ZaO rfl rfl rfl) ?_ | refine Zaa.go (Zbr rfl rfl rfl) ?_
  refine Zaf ?_;refine Zag ?_
  first | refine ZaJ rfl (fun h10 => ?_) (fun h10 => ?_) | refine Zbc rfl (fun h10 => ?_) (fun h10 => ?_)
  · have hk1 : k < S.length := ZaQ h10;refine Zaq ?_;refine Zag ?_;refine Zar ?_;refine Zag ?_;refine Zab ?_;have hal : acc.length ≤ 100000 := by rw [hA, List.length_map, List.length_take]; omega
    first | refine Zaa.go (Zaw (k) rfl rfl (rfl) (getm hk1) Tryz.underlying33 rfl sz100 rfl) ?_ | refine Zaa.go (Za2 (k) rfl rfl (rfl) (getm hk1) rfl Tryz.underlying33 sz100 rfl) ?_
    first | refine Zaa.go (ZaD rfl rfl rw100 rfl) ?_ | refine Zaa.go (Zat rfl rfl rw100 rfl rfl rfl) ?_ | refine Zaa.go (ZaU rfl rfl (rfl) rfl rw100 rfl) ?_
    refine Zan.go (ZaX 2 zl100 rfl rfl rfl rfl) ?_;refine Zan.go (ZaK rfl rfl rfl rfl rfl rfl rfl sz100) ?_;refine Zaf ?_;refine Zab ?_;refine Zaa.go (Zad rfl rfl) ?_
    first | refine Zaa.go (Zai rfl fi100_0 rfl rfl rfl) ?_ | refine Zaa.go (Zay rfl fi100_0 rfl rfl rfl) ?_ | refine Zaa.go (ZaB rfl fi100_0 rfl rfl rfl) ?_ | refine Zaa.go (ZaI rfl fi100_0 rfl rfl rfl) ?_
    first | refine Zaa.go (Zau rfl rfl on3 rfl) ?_ | refine Zaa.go (Zaj rfl rfl rfl on3 rfl) ?_ | refine Zaa.go (ZaL rfl rfl (rfl) rfl on3 rfl) ?_
    refine Zan.go (ZaN 3 sl26 rfl rfl rfl rfl rfl rfl rfl rfl) ?_
    first | refine Zan.go (Zbk (acc) ([S[k].id]) rfl rfl rfl rfl rfl rfl rfl rfl sl26 (by simp only [List.length_singleton]; omega) rfl rfl rfl rfl) ?_ | refine Zan.go (ZbE (acc) ([S[k].id]) rfl rfl rfl rfl rfl rfl (fun _ => rfl) sl26 (by simp only [List.length_singleton]; omega) rfl rfl rfl rfl) ?_
    refine Zaa.go (Zae rfl rfl) ?_;refine Zaf ?_;refine Zab ?_;refine Zaa.go (ZaE rfl rfl (wrapS (k + 1) (by omega)) rfl) ?_;refine Zaa.go (Zad rfl rfl) ?_;refine Zaf ?_;exact ⟨(k + 1, _), ⟨by show k + 1 ≤ _; omega, by show _ = (S.take (k + 1)).map Itm.id; rw [tk_map hk1, ← hA]⟩, by show S.length - (k + 1) < S.length - k; omega, Zaz hF [900] rfl (rfl) ⟨rfl, rfl, rfl, rfl, trivial⟩⟩
  · refine ZaR ?_;refine Zag ?_;refine ZbR (emb := intD) 3 900 acc rfl rfl rfl rfl rfl rfl rfl ?_;refine Zab ?_;refine Zaa.go (Zad rfl rfl) ?_;refine Zaa.go (Zae rfl rfl) ?_;refine Zaf ?_;refine Zap ?_;exact ⟨_, [], [], Zao rfl, rfl, rfl, by rw [hA, List.take_of_length_le (by have h := h10; omega)], rfl⟩
set_option maxRecDepth 100000 in
theorem queue_p (p : Prb) (r : Rsc) (hb : PrbB p) : PCalls Tryz.prog 98 [.d (prbD p), .d (rscD r)] (.sl none ((qIds (ordP p) r).map intD)) := by
  have hso := psorted_p p hb;have hlen := ordP_len p;have hb2 := hb.2.1;have hmem : ∀ i ∈ ordP p, i.po.length ≤ 100000 ∧ i.pa.length ≤ 100000 ∧ i.af.length ≤ 100000 := fun i hi => hb.2.2 i (ordP_mem hi)
  obtain ⟨S, hS⟩ : ∃ S, ordP p = S := ⟨_, rfl⟩
  rw [hS] at hso hlen hmem ⊢;refine ZaH Tryz.func98 rfl rfl Tryz.ntmps98 rfl rfl rfl fun F hF => ?_;refine Zag ?_;refine Zab ?_;refine Zan.go (ZaW 1 rfl rfl rfl rfl rfl rfl rfl) ?_;refine Zan.go (ZaW 2 rfl rfl rfl rfl rfl rfl rfl) ?_;refine Zaa.go (Zae rfl rfl) ?_;refine Zaf ?_;refine Zag ?_;refine Zab ?_;refine Zaa.go (Zae rfl rfl) ?_;refine Zaf ?_;refine Zag ?_;refine Zag ?_;refine a_adopt 5 900 sl26 rfl rfl rfl rfl ?_;refine Zab ?_
  first | refine Zaa.go (ZaD rfl rfl rw35 rfl) ?_ | refine Zaa.go (Zat rfl rfl rw35 rfl rfl rfl) ?_ | refine Zaa.go (ZaU rfl rfl (rfl) rfl rw35 rfl) ?_
  refine Zaa.go (Zas (hso) rfl rfl) ?_
  first | refine Zaa.go (ZaA rfl Tryz.underlying33 rfl) ?_ | refine Zaa.go (ZbB rfl rfl Tryz.underlying33 rfl) ?_ | refine Zaa.go (ZbA rfl Tryz.underlying33 rfl) ?_ | refine Zaa.go (Zbu rfl Tryz.underlying33 rfl) ?_ | refine Zaa.go (Zbz rfl Tryz.underlying33 rfl) ?_
  refine Zaa.go (Zad rfl rfl) ?_;refine Zaf ?_;refine Zar ?_;refine ZaT (α := Nat × List Int) (fun q => ⟨26, [(3, (.ptr 2 0 0)), (5, (.own 900 0 q.2.length)), (9, (.d (.sl none (S.map itmD)))), (10, (.d (intD (S.length : Int)))), (11, (.d (intD (q.1 : Int))))], [(2, [.blk 47 [.d (intD r.k), .d (strD r.acc.o), .d (intD r.acc.k), .d (strD r.acc.a), .d (strD r.f), .d (strD r.t)]]), (900, [.rowD 3 1 (q.2.map intD)])]⟩) (fun q => q.1 ≤ S.length ∧ q.2 = qIds (S.take q.1) r) (fun q => S.length - q.1) ((0, [])) (⟨Nat.zero_le _, rfl⟩) (Zaz hF [2, 900] rfl rfl ⟨rfl, rfl, rfl, rfl, rfl, trivial⟩) ?_;rintro ⟨k, acc⟩ ⟨hk0, hA⟩;dsimp only at hk0 hA ⊢;refine Zag ?_;refine Zab ?_
  first | refine Zaa.go (ZaO rfl rfl rfl) ?_ | refine Zaa.go (Zbr rfl rfl rfl) ?_
  refine Zaf ?_;refine Zag ?_
  first | refine ZaJ rfl (fun h12 => ?_) (fun h12 => ?_) | refine Zbc rfl (fun h12 => ?_) (fun h12 => ?_)
  · have hk1 : k < S.length := ZaQ h12;refine Zaq ?_;refine Zag ?_;refine Zar ?_;refine Zag ?_;refine Zab ?_;have hgi := hmem _ (List.getElem_mem hk1);have hal : acc.length ≤ 100000 := by rw [hA]; unfold qIds; rw [List.length_map]; have := List.length_filter_le (fun i => decide (dltE i r < 0)) (S.take k); rw [List.length_take] at this; omega
    first | refine Zaa.go (Zaw (k) rfl rfl (rfl) (getm hk1) Tryz.underlying33 rfl sz100 rfl) ?_ | refine Zaa.go (Za2 (k) rfl rfl (rfl) (getm hk1) rfl Tryz.underlying33 sz100 rfl) ?_
    first | refine Zaa.go (ZaD rfl rfl rw100 rfl) ?_ | refine Zaa.go (Zat rfl rfl rw100 rfl rfl rfl) ?_ | refine Zaa.go (ZaU rfl rfl (rfl) rfl rw100 rfl) ?_
    refine Zan.go (ZaX 3 zl100 rfl rfl rfl rfl) ?_;refine Zan.go (ZaK rfl rfl rfl rfl rfl rfl rfl sz100) ?_;refine Zaf ?_;refine Zag ?_;refine Zab ?_
    first | refine Zaa.go (ZaD rfl rfl rw100 rfl) ?_ | refine Zaa.go (Zat rfl rfl rw100 rfl rfl rfl) ?_ | refine Zaa.go (ZaU rfl rfl (rfl) rfl rw100 rfl) ?_
    first | refine Zaa.go (ZaD rfl rfl rw47 rfl) ?_ | refine Zaa.go (Zat rfl rfl rw47 rfl rfl rfl) ?_ | refine Zaa.go (ZaU rfl rfl (rfl) rfl rw47 rfl) ?_
    refine Zaa.go (Zas (delta_p S[k] r (by omega) (by omega) (by omega)) rfl rfl) ?_
    first | refine Zaa.go (ZaO rfl rfl rfl) ?_ | refine Zaa.go (Zbr rfl rfl rfl) ?_
    refine Zaf ?_
    first | refine ZaJ rfl (fun h18 => ?_) (fun h18 => ?_) | refine Zbc rfl (fun h18 => ?_) (fun h18 => ?_)
    · refine Zab ?_;refine Zaa.go (Zad rfl rfl) ?_
      first | refine Zaa.go (Zai rfl fi100_0 rfl rfl rfl) ?_ | refine Zaa.go (Zay rfl fi100_0 rfl rfl rfl) ?_ | refine Zaa.go (ZaB rfl fi100_0 rfl rfl rfl) ?_ | refine Zaa.go (ZaI rfl fi100_0 rfl rfl rfl) ?_
      first | refine Zaa.go (Zau rfl rfl on3 rfl) ?_ | refine Zaa.go (Zaj rfl rfl rfl on3 rfl) ?_ | refine Zaa.go (ZaL rfl rfl (rfl) rfl on3 rfl) ?_
      refine Zan.go (ZaN 4 sl26 rfl rfl rfl rfl rfl rfl rfl rfl) ?_
      first | refine Zan.go (Zbk (acc) ([S[k].id]) rfl rfl rfl rfl rfl rfl rfl rfl sl26 (by simp only [List.length_singleton]; omega) rfl rfl rfl rfl) ?_ | refine Zan.go (ZbE (acc) ([S[k].id]) rfl rfl rfl rfl rfl rfl (fun _ => rfl) sl26 (by simp only [List.length_singleton]; omega) rfl rfl rfl rfl) ?_
      refine Zaa.go (Zae rfl rfl) ?_;refine Zaf ?_;refine Zab ?_;refine Zaa.go (ZaE rfl rfl (wrapS (k + 1) (by omega)) rfl) ?_;refine Zaa.go (Zad rfl rfl) ?_;refine Zaf ?_;exact ⟨(k + 1, _), ⟨by show k + 1 ≤ _; omega, by show _ = qIds (S.take (k + 1)) r; unfold qIds; rw [flt_snoc hk1, if_pos (by simpa using h18), List.map_append, hA]; rfl⟩, by show S.length - (k + 1) < S.length - k; omega, Zaz hF [2, 900] rfl (rfl) ⟨rfl, rfl, rfl, rfl, rfl, trivial⟩⟩
    · refine Zaq ?_;refine Zab ?_;refine Zaa.go (ZaE rfl rfl (wrapS (k + 1) (by omega)) rfl) ?_;refine Zaa.go (Zad rfl rfl) ?_;refine Zaf ?_;exact ⟨(k + 1, _), ⟨by show k + 1 ≤ _; omega, by show _ = qIds (S.take (k + 1)) r; unfold qIds; rw [flt_snoc hk1, if_neg (by simpa using h18), List.append_nil, hA]; rfl⟩, by show S.length - (k + 1) < S.length - k; omega, Zaz hF [2, 900] rfl (rfl) ⟨rfl, rfl, rfl, rfl, rfl, trivial⟩⟩
  · refine ZaR ?_;refine Zag ?_;refine ZbR (emb := intD) 5 900 acc rfl rfl rfl rfl rfl rfl rfl ?_;refine Zab ?_;refine Zaa.go (Zad rfl rfl) ?_;refine Zaa.go (Zae rfl rfl) ?_;refine Zaf ?_;refine Zap ?_;exact ⟨_, [], [], Zao rfl, rfl, rfl, by rw [hA, List.take_of_length_le (by have h := h12; omega)], rfl⟩
end Go.Proofs.YtnamabifclidmaaGreat

/- Layer 28: Item. -/
namespace Go.Proofs.YtnamabifclidmaaGreat
open Go.RowKit

end Go.Proofs.YtnamabifclidmaaGreat

/- Layer 28, plain: items by id. -/
namespace Go.Proofs.YtnamabifclidmaaGreat
open Go.RowKit

theorem items_ids {l : List Itm} (h : itemsE l = 0) : (l.map Itm.id).Nodup := by
  have h0 := ZbL.1 h;rw [List.Nodup, List.pairwise_map, List.pairwise_iff_getElem];intro i j hi hj hij e;have := h0 j (List.mem_range.2 hj);unfold iErr at this;rw [Zbw itm0 hj] at this
  split at this
  · contradiction
  · split at this
    · cases this
    · rename_i hn
      exact hn (.inl (mem_tk hj hij e))
end Go.Proofs.YtnamabifclidmaaGreat
/- Layer 28: conversion of problems; the law of problems' checks. -/
namespace Go.Proofs.YtnamabifclidmaaGreat
open Go.RowKit

set_option maxRecDepth 100000 in
theorem own_p (p : Prb) (h : Sml p) : PCalls Tryz.prog 16 [.d (prbD p)] (prbD p) := by
  obtain ⟨g1, g2, g3⟩ := h;refine ZaH Tryz.func16 rfl rfl Tryz.ntmps16 rfl rfl rfl fun F hF => ?_;refine Zag ?_;refine Zab ?_;refine Zan.go (ZaW 1 rfl rfl rfl rfl rfl rfl rfl) ?_;refine Zan.go (ZaX 2 zl35 rfl rfl rfl rfl) ?_;refine Zaf ?_;refine Zag ?_;refine Zab ?_;refine Zan.go (ZaX 3 zl35 rfl rfl rfl rfl) ?_;refine Zaf ?_;refine Zag ?_;refine Zag ?_;refine ZbT 3 0 0 901 sl32 rfl rfl rfl rfl rfl rfl rfl ?_;refine Zab ?_;refine Zaa.go (Zae rfl rfl) ?_;refine Zaf ?_;refine Zar ?_;refine ZaT (α := List Roo) (fun acc => ⟨51, [(1, (.ptr 1 0 0)), (2, (.ptr 2 0 0)), (3, (.ptr 3 0 0)), (4, (.d (intD (acc.length : Int))))], [(901, [.rowD 70 7 (acc.map rooD)]), (1, [prbB2 25 p]), (2, [.blk 35 [nilC, nilC]]), (3, [.blk 35 [.own 901 0 acc.length, nilC]])]⟩) (fun acc => acc = p.ro.take acc.length ∧ acc.length ≤ p.ro.length) (fun acc => p.ro.length - acc.length) ([]) (⟨by simp, Nat.zero_le _⟩) (Zaz hF [901, 1, 2, 3] rfl rfl ⟨rfl, rfl, rfl, rfl, trivial⟩) ?_;rintro acc ⟨hI, hk0⟩;refine Zag ?_;refine Zag ?_;refine Zab ?_;refine Zaa.go (Zad rfl rfl) ?_;refine Zaa.go (Zai rfl Zbj rfl rfl rfl) ?_;refine Zaa.go (Zaj rfl rfl rfl on22 rfl) ?_;refine Zaa.go (ZaA rfl Tryz.underlying22 rfl) ?_;refine Zaa.go (ZaO rfl rfl rfl) ?_;refine Zaf ?_;refine ZaJ rfl (fun h10 => ?_) (fun h10 => ?_)
  · have hk1 : acc.length < p.ro.length := ZaQ h10;refine Zaq ?_;refine Zag ?_;refine Zar ?_;refine ZaY [[], [0], [], [2], [], [2, 3, 4], [2, 3, 4, 5], [2, 3, 4, 5, 6], [2, 3, 4, 5, 6, 7], [], [9], [], [9, 10, 11], [9, 10, 11, 12], [9, 10, 11, 12, 13], [2, 3, 4, 5, 6, 7, 8, 9, 10, 11, 12, 13, 14], [2, 3, 4, 5, 6, 7, 8, 9, 10, 11, 12, 13, 14, 15], [0, 1, 2, 3, 4, 5, 6, 7, 8, 9, 10, 11, 12, 13, 14, 15, 16], [0, 1, 2, 3, 4, 5, 6, 7, 8, 9, 10, 11, 12, 13, 14, 15, 16, 17], [0, 1, 2, 3, 4, 5, 6, 7, 8, 9, 10, 11, 12, 13, 14, 15, 16, 17, 18]] mixed rfl ?_;refine dws ?_;refine Zah [3] [] rfl rfl (fun _ => Zac (Zai rfl ZaC rfl rfl rfl)) ?_;refine Zal [13] rfl rfl (fun _ => Zac (Zaj rfl rfl rfl on32 rfl)) ?_;refine Zah [1] [] rfl rfl (fun _ => Zac (Zai rfl Zbj rfl rfl rfl)) ?_;refine Zal [15] rfl rfl (fun _ => Zac (Zaj rfl rfl rfl on22 rfl)) ?_;refine Zah [4] [] rfl rfl (fun _ => Zac (Zad rfl rfl)) ?_;refine Zah [16, 17] [] rfl rfl (fun _ => Zac (Zaw (acc.length) rfl rfl (rfl) (getm hk1) Tryz.underlying22 rfl sz104 rfl)) ?_;refine Zah [18] [] rfl rfl (fun _ => Zac (ZaB rfl fi104_0 rfl rfl rfl)) ?_;refine Zah [19] [] rfl rfl (fun _ => Zac (ZaD rfl rfl rw52 rfl)) ?_;refine Zah [20] [] rfl rfl (fun _ => Zac (Zas (ownres_p p.ro[acc.length].r) rfl rfl)) ?_;refine Zah [1] [] rfl rfl (fun _ => Zac (Zai rfl Zbj rfl rfl rfl)) ?_;refine Zal [22] rfl rfl (fun _ => Zac (Zaj rfl rfl rfl on22 rfl)) ?_;refine Zah [4] [] rfl rfl (fun _ => Zac (Zad rfl rfl)) ?_;refine Zah [23, 24] [] rfl rfl (fun _ => Zac (Zaw (acc.length) rfl rfl (rfl) (getm hk1) Tryz.underlying22 rfl sz104 rfl)) ?_;refine Zah [25] [] rfl rfl (fun _ => Zac (Zay rfl fi104_1 rfl rfl rfl)) ?_;refine Zah [26] [] rfl rfl (fun _ => Zac (Zau rfl rfl on2 rfl)) ?_;refine Zah [21, 27] [] rfl rfl (fun _ => Zac (Za3 zl70 pl70 rfl rfl rfl)) ?_;refine Zbl [28] [50] [(29, _)] rfl rfl (fun _ => Zba (ZaN 50 sl32 rfl rfl rfl rfl rfl rfl rfl rfl)) (.inr ⟨29, _, rfl, rfl, rfl, rfl, rfl⟩) rfl rfl rfl rfl rfl ?_;refine dwc 17 rfl rfl rfl ?_;refine dw1 18 rfl rfl ?_;refine Zan.go (Zbk (acc) ([p.ro[acc.length]]) rfl rfl rfl rfl rfl rfl rfl rfl sl32 (by simp only [List.length_singleton]; omega) rfl rfl rfl rfl) ?_;refine Zaf ⟨rfl, ?_⟩;refine dw1 19 rfl rfl ?_;refine Zaa.go (Zai rfl ZaC rfl rfl rfl) ?_;refine Zaf ⟨rfl, ?_⟩;refine dw1 20 rfl rfl ?_;refine Zan.go (ZaK rfl rfl rfl rfl rfl rfl rfl sz32) ?_;refine Zaf ⟨rfl, ?_⟩;refine dwe ?_;refine Zab ?_;refine Zaa.go (Zad rfl rfl) ?_;refine Zaa.go (ZaE rfl rfl (wrapA acc p.ro[acc.length] (by omega)) rfl) ?_;refine Zaa.go (Zae rfl rfl) ?_;refine Zaf ?_;exact ⟨acc ++ [p.ro[acc.length]], ⟨tk_next hI hk1, by rw [List.length_append]; show acc.length + 1 ≤ _; omega⟩, by rw [List.length_append]; show p.ro.length - (acc.length + 1) < p.ro.length - acc.length; omega, Zaz hF [901, 1, 2, 3] rfl (rfl) ⟨rfl, rfl, rfl, rfl, trivial⟩⟩
  · refine ZaR ?_;refine Zag ?_;refine Zag ?_;have hacc := tk_end hI (fun h => h10 (by omega));refine ZbC (ys := p.ro.map rooD) 3 0 0 901 rfl rfl rfl (by simp) (by rw [hacc]; exact List.take_of_length_le (by simp)) rfl rfl rfl rfl rfl rfl ?_;refine ZbT 3 0 1 902 sl33 rfl rfl rfl rfl rfl rfl rfl ?_;refine Zab ?_;refine Zaa.go (Zae rfl rfl) ?_;refine Zaf ?_;refine Zar ?_;refine ZaT (α := List Itm) (fun acc2 => ⟨51, [(1, (.ptr 1 0 0)), (2, (.ptr 2 0 0)), (3, (.ptr 3 0 0)), (5, (.d (intD (acc2.length : Int))))], [(902, [.rowD 100 6 (acc2.map itmD)]), (1, [prbB2 25 p]), (2, [.blk 35 [nilC, nilC]]), (3, [.blk 35 [.d (.sl none (p.ro.map rooD)), .own 902 0 acc2.length]])]⟩) (fun acc2 => acc2 = p.it.take acc2.length ∧ acc2.length ≤ p.it.length) (fun acc2 => p.it.length - acc2.length) ([]) (⟨by simp, Nat.zero_le _⟩) (Zaz hF [902, 1, 2, 3] rfl rfl ⟨rfl, rfl, rfl, rfl, trivial⟩) ?_;rintro acc2 ⟨hJ, hk2⟩;refine Zag ?_;refine Zag ?_;refine Zab ?_;refine Zaa.go (Zad rfl rfl) ?_;refine Zaa.go (Zai rfl Zbg rfl rfl rfl) ?_;refine Zaa.go (Zaj rfl rfl rfl on23 rfl) ?_;refine Zaa.go (ZaA rfl Tryz.underlying23 rfl) ?_;refine Zaa.go (ZaO rfl rfl rfl) ?_;refine Zaf ?_;refine ZaJ rfl (fun h36 => ?_) (fun h36 => ?_)
    · have hk3 : acc2.length < p.it.length := ZaQ h36;refine Zaq ?_;refine Zag ?_;refine Zar ?_;refine ZaY [[], [0], [], [2], [], [2, 3, 4], [2, 3, 4, 5], [2, 3, 4, 5, 6], [2, 3, 4, 5, 6, 7], [0, 1, 2, 3, 4, 5, 6, 7, 8], [0, 1, 2, 3, 4, 5, 6, 7, 8, 9], [0, 1, 2, 3, 4, 5, 6, 7, 8, 9, 10]] mixed rfl ?_;refine dws ?_;refine Zah [3] [] rfl rfl (fun _ => Zac (Zai rfl Zbx rfl rfl rfl)) ?_;refine Zal [39] rfl rfl (fun _ => Zac (Zaj rfl rfl rfl on33 rfl)) ?_;refine Zah [1] [] rfl rfl (fun _ => Zac (Zai rfl Zbg rfl rfl rfl)) ?_;refine Zal [41] rfl rfl (fun _ => Zac (Zaj rfl rfl rfl on23 rfl)) ?_;refine Zah [5] [] rfl rfl (fun _ => Zac (Zad rfl rfl)) ?_;have hgi := g3 _ (List.getElem_mem hk3);refine Zah [42, 43] [] rfl rfl (fun _ => Zac (Zaw (acc2.length) rfl rfl (rfl) (getm hk3) Tryz.underlying23 rfl sz80 rfl)) ?_;refine Zah [44] [] rfl rfl (fun _ => Zac (ZaD rfl rfl rw80 rfl)) ?_;refine Zah [45] [] rfl rfl (fun _ => Zac (Zas (ownitem_p p.it[acc2.length] (by omega) (by omega) (by omega)) rfl rfl)) ?_;refine Zbl [46] [51] [(47, _)] rfl rfl (fun _ => Zba (ZaN 51 sl33 rfl rfl rfl rfl rfl rfl rfl rfl)) (.inr ⟨47, _, rfl, rfl, rfl, rfl, rfl⟩) rfl rfl rfl rfl rfl ?_;refine dwc 9 rfl rfl rfl ?_;refine dw1 10 rfl rfl ?_;refine Zan.go (Zbk (acc2) ([p.it[acc2.length]]) rfl rfl rfl rfl rfl rfl rfl rfl sl33 (by simp only [List.length_singleton]; omega) rfl rfl rfl rfl) ?_;refine Zaf ⟨rfl, ?_⟩;refine dw1 11 rfl rfl ?_;refine Zaa.go (Zai rfl Zbx rfl rfl rfl) ?_;refine Zaf ⟨rfl, ?_⟩;refine dw1 12 rfl rfl ?_;refine Zan.go (ZaK rfl rfl rfl rfl rfl rfl rfl sz33) ?_;refine Zaf ⟨rfl, ?_⟩;refine dwe ?_;refine Zab ?_;refine Zaa.go (Zad rfl rfl) ?_;refine Zaa.go (ZaE rfl rfl (wrapA acc2 p.it[acc2.length] (by omega)) rfl) ?_;refine Zaa.go (Zae rfl rfl) ?_;refine Zaf ?_;exact ⟨acc2 ++ [p.it[acc2.length]], ⟨tk_next hJ hk3, by rw [List.length_append]; show acc2.length + 1 ≤ _; omega⟩, by rw [List.length_append]; show p.it.length - (acc2.length + 1) < p.it.length - acc2.length; omega, Zaz hF [902, 1, 2, 3] rfl (rfl) ⟨rfl, rfl, rfl, rfl, trivial⟩⟩
    · refine ZaR ?_;refine Zag ?_;have hacc2 := tk_end hJ (fun h => h36 (by omega));refine ZbC (ys := p.it.map itmD) 3 0 1 902 rfl rfl rfl (by simp) (by rw [hacc2]; exact List.take_of_length_le (by simp)) rfl rfl rfl rfl rfl rfl ?_;refine Zab ?_;refine Zaa.go (Zat rfl rfl rw35 rfl rfl rfl) ?_;refine Zan.go (ZaK rfl rfl rfl rfl rfl rfl rfl sz35) ?_;refine Zaf ?_;refine Zap ?_;exact ⟨_, [], [], Zao rfl, rfl, rfl, rfl, rfl⟩
theorem sml_B {p : Prb} (h : Sml p) : PrbB p := ⟨by have := h.2.1; omega, by have := h.1; omega, fun i hi => by have := h.2.2 i hi; omega⟩
end Go.Proofs.YtnamabifclidmaaGreat
/- Layer 28: chosen sets; the rooms after a set has settled. -/
namespace Go.Proofs.YtnamabifclidmaaGreat
open Go.RowKit

def chErr (ids l : List Int) (k : Nat) : Int := if l.getD k 0 ∉ ids then 9 else if l.getD k 0 ∈ l.take k then 7 else 0
def setE (ids l : List Int) : Int := fst0 ((List.range l.length).map (chErr ids l))
def choE (p : Prb) (l : List Int) : Int := if prbE p ≠ 0 then prbE p else setE (p.it.map Itm.id) l
theorem set_ok {ids l : List Int} (h : setE ids l = 0) : l.Nodup ∧ ∀ x ∈ l, x ∈ ids := by
  have h0 := ZbL.1 h;refine ⟨List.pairwise_iff_getElem.2 fun i j hi hj hij e => ?_, fun x hx => ?_⟩
  · have := h0 j (List.mem_range.2 hj);unfold chErr at this;rw [Zbw 0 hj] at this
    split at this
    · cases this
    · split at this
      · cases this
      · rename_i hn; exact hn (by rw [← e, List.mem_take_iff_getElem]; exact ⟨i, by omega, rfl⟩)
  · obtain ⟨j, hj, rfl⟩ := List.getElem_of_mem hx;have := h0 j (List.mem_range.2 hj);unfold chErr at this;rw [Zbw 0 hj] at this
    split at this
    · cases this
    · rename_i hn; exact Decidable.not_not.1 hn
end Go.Proofs.YtnamabifclidmaaGreat
/- Layer 28: Totals. -/
namespace Go.Proofs.YtnamabifclidmaaGreat
open Go.RowKit

theorem ctrSum_cons (x : Rsc × Int) (l : List (Rsc × Int)) (r : Rsc) : ctrSum (x :: l) r = (if x.1 = r then x.2 else 0) + ctrSum l r := by simp [ctrSum]
theorem ctrSum_none {l : List (Rsc × Int)} {r : Rsc} (h : r ∉ l.map Prod.fst) : ctrSum l r = 0 := by
  induction l with
  | nil => rfl
  | cons x l ih =>
    rw [List.map_cons, List.mem_cons] at h;rw [ctrSum_cons, if_neg (fun e => h (.inl e.symm)), ih (fun h' => h (.inr h'))]; rfl
theorem lft_len {α β : Type} {m : List (α × β)} {B seen : List Nat} : (lft m B seen).length ≤ m.length := by
  unfold lft;rw [List.length_map];refine Nat.le_trans (List.length_filter_le _ _) ?_;rw [List.length_zip]; omega
theorem bnd_sum {i : Itm} (h : checkE i = 0) (r : Rsc) : -Mx ≤ ctrSum (ctr i) r ∧ ctrSum (ctr i) r ≤ Mx := by
  have hb := (check_ok h).2.2.2.2.2.2.2.2;unfold bndE at hb
  split at hb
  · cases hb
  · rename_i hn
    by_cases hr : r ∈ (sumL (ctr i)).map Prod.fst
    · obtain ⟨⟨r', v⟩, hx, e⟩ := List.mem_map.1 hr;have e : r' = r := e;subst e;have hv := ((sumL_mem _ _ _).1 hx).2;rw [← hv];exact Decidable.not_not.1 fun hh => hn ⟨_, hx, hh⟩
    · rw [ctrSum_none fun h' => hr ((sumL_keys _ r).2 h')]; simp only [Mx]; omega
theorem rooms_amt {l : List Roo} (h : roomsE l = 0) : ∀ x ∈ l, -4000000000000000 ≤ x.n ∧ x.n ≤ 4000000000000000 := fun x hx => by
  have h0 := ZbL.1 h;obtain ⟨j, hj, rfl⟩ := List.getElem_of_mem hx;have := h0 j (List.mem_range.2 hj);unfold rErr at this;rw [Zbw roo0 hj] at this
  split at this
  · contradiction
  · split at this
    · cases this
    · rename_i hn; simp only [Mx] at hn; omega
end Go.Proofs.YtnamabifclidmaaGreat
/- Layer 28: Settle. -/
namespace Go.Proofs.YtnamabifclidmaaGreat
open Go.RowKit

end Go.Proofs.YtnamabifclidmaaGreat
/- Layer 28: Settle, continued. -/
namespace Go.Proofs.YtnamabifclidmaaGreat
open Go.RowKit

set_option maxRecDepth 100000 in
theorem cloneI_c (l : List Int) (hl : l.length ≤ 1000000) : ACalls Tryz.prog 94 [.d (.sl none (l.map intD))] [] fun r H' => r = .own 20 0 l.length ∧ H' = [(20, [.rowD 3 1 (l.map intD)])] := by
  refine ZaH Tryz.func94 rfl rfl Tryz.ntmps94 rfl rfl rfl fun F hF => ?_;refine Zag ?_;refine Zab ?_;refine Zaa.go (Zae rfl rfl) ?_;skip;refine Zaf ?_;refine Zag ?_;refine Zag ?_;refine Zab ?_;refine Zaa.go (Zad rfl rfl) ?_;refine o_nilSplit 3 rfl (fun h0 => ?_) ?_
  · first | refine Zaa.go (Zbd rfl rfl rfl) ?_ | refine Zaa.go (Za6 rfl rfl rfl) ?_ | refine Zaa.go (st_eqlS rfl rfl rfl) ?_ | refine Zaa.go (st_eqlB Tryz.underlying26 rfl rfl rfl) ?_ | refine Zaa.go (st_eqlP Tryz.underlying26 rfl rfl rfl) ?_ | refine Zaa.go (st_eqlN Tryz.underlying26 rfl rfl) ?_ | refine Zaa.go (st_eqlF Tryz.underlying26 rfl rfl rfl) ?_ | refine Zaa.go (st_eqlFN Tryz.underlying26 rfl rfl) ?_
    refine Zaf ?_;refine ZaV rfl (rfl) ?_;refine Zag ?_;refine Zab ?_;refine Zaa.go (Zae rfl rfl) ?_;refine o_adopt 2 20 sl26 rfl rfl rfl rfl ?_;refine Zaf ?_;refine Zap ?_;exact ⟨_, [20], _, Zao rfl, rfl, rfl, by rw [← List.length_map (f := intD), h0]; rfl, by rw [h0]⟩
  · first | refine Zaa.go (Zbd rfl rfl rfl) ?_ | refine Zaa.go (Za6 rfl rfl rfl) ?_ | refine Zaa.go (st_eqlS rfl rfl rfl) ?_ | refine Zaa.go (st_eqlB Tryz.underlying26 rfl rfl rfl) ?_ | refine Zaa.go (st_eqlP Tryz.underlying26 rfl rfl rfl) ?_ | refine Zaa.go (st_eqlN Tryz.underlying26 rfl rfl) ?_ | refine Zaa.go (st_eqlF Tryz.underlying26 rfl rfl rfl) ?_ | refine Zaa.go (st_eqlFN Tryz.underlying26 rfl rfl) ?_
    refine Zaf ?_;refine Za4 rfl (rfl) ?_;refine Zaq ?_;refine Zag ?_;refine Zab ?_;refine Zan.go (ZaN 20 sl26 rfl rfl rfl rfl rfl rfl rfl rfl) ?_;refine Zaa.go (Zad rfl rfl) ?_
    first | refine Zan.go (Zbk (([] : List Int)) (l) rfl rfl rfl rfl rfl rfl rfl rfl sl26 (by simp only [List.length_nil]; omega) rfl rfl rfl rfl) ?_ | refine Zan.go (ZbE (([] : List Int)) (l) rfl rfl rfl rfl rfl rfl (fun _ => rfl) sl26 (by simp only [List.length_nil]; omega) rfl rfl rfl rfl) ?_
    refine Zaa.go (Zae rfl rfl) ?_;skip;refine Zaf ?_;refine Zap ?_;exact ⟨_, [20], _, Zao rfl, rfl, rfl, by simp, by simp⟩
end Go.Proofs.YtnamabifclidmaaGreat
/- Layer 28: the reference's Totals and Settle; conversion back. -/
namespace Go.Proofs.YtnamabifclidmaaGreat
open Go.RowKit

def itmOf (p : Prb) (id : Int) : Itm := p.it.getD ((p.it.map Itm.id).idxOf id) itm0
theorem itmOf_at {p : Prb} {id : Int} (h : id ∈ p.it.map Itm.id) : ∃ hk : (p.it.map Itm.id).idxOf id < p.it.length, ixI id (p.it.map Itm.id) = (((p.it.map Itm.id).idxOf id : Nat) : Int) ∧ itmOf p id = p.it[(p.it.map Itm.id).idxOf id] ∧ (itmOf p id).id = id := by
  have hk : (p.it.map Itm.id).idxOf id < (p.it.map Itm.id).length := List.idxOf_lt_length_iff.2 h;have hk' : (p.it.map Itm.id).idxOf id < p.it.length := by simpa using hk
  have he : itmOf p id = p.it[(p.it.map Itm.id).idxOf id] := Zbw itm0 hk';refine ⟨hk', if_pos h, he, ?_⟩;have h1 := List.getElem_idxOf hk;rw [List.getElem_map] at h1;rw [he]; exact h1
theorem rooms_valid {l : List Roo} (h : roomsE l = 0) : ∀ x ∈ l, validE x.r = 0 := fun x hx => by
  have h0 := ZbL.1 h;obtain ⟨j, hj, rfl⟩ := List.getElem_of_mem hx;have := h0 j (List.mem_range.2 hj);unfold rErr at this;rw [Zbw roo0 hj] at this
  split at this
  · contradiction
  · rename_i hn; simpa using hn
theorem perm_sum {α : Type} {l m : List α} (h : l.Perm m) (f : α → Int) : (l.map f).sum = (m.map f).sum := by
  induction h with
  | nil => rfl
  | cons x _ ih => simp [ih]
  | swap x y l => simp; omega
  | trans _ _ ih1 ih2 => rw [ih1, ih2]
end Go.Proofs.YtnamabifclidmaaGreat
