/- Layer 28: what slices.Values feeds to a loop. -/
import Derived.Test.YtnamabifclidmaaGreatMg18
namespace Go.Proofs.YtnamabifclidmaaGreat
open Go.RowKit

theorem hnewN {hp : Hp} {f : Nat} {o : AObj} (h : hfam hp f = none) : hnew? hp f o = some ((f, [o]) :: hp) := by simp only [hnew?]; rw [h]
theorem partN {hp : Hp} {f : Nat} {x : List AObj} : ∀ {nm : List Nat}, memB f nm = false → part? ((f, x) :: hp) nm = part? hp nm
  | [], _ => rfl
  | g :: r, h => by
    have h1 : Nat.beq f g = false := by
      cases hb : Nat.beq f g with
      | false => rfl
      | true =>
        have e := Nat.eq_of_beq_eq_true hb;subst e
        simp [memB] at h
    have h2 : memB f r = false := by
      cases hb : memB f r with
      | false => rfl
      | true => simp [memB, hb] at h
    simp only [part?];rw [partN h2];simp only [hfam, h1]
theorem subB_refl (l : List Nat) : subB l l = true := by
  have key : ∀ (l m : List Nat), (∀ x ∈ l, x ∈ m) → subB l m = true := fun l => by
    induction l with
    | nil => intro m _; rfl
    | cons a r ih => intro m h; simp only [subB, Bool.and_eq_true]; exact ⟨ZaV.2 (h a (by simp)), ih m fun x hx => h x (by simp [hx])⟩
  exact key l l fun x hx => hx
theorem ZbA {α β : Type} {step : β → α → β × Bool} {b : β} {x : α} {r : List α} : feed step b (x :: r) = if (step b x).2 = true then feed step (step b x).1 r else (step b x).1 := by
  simp only [feed]
  generalize step b x = y
  obtain ⟨y1, y2⟩ := y
  cases y2 <;> rfl
def encI (x : Itm) : List AV := [.d (itmD x)]
section
variable {β : Type}
set_option maxRecDepth 100000 in
theorem seqV_c (its : List Itm) (hits : its.length ≤ 1000000) (l : Nat) (H : β → Hp) (N : List Nat) (step : β → Itm → β × Bool) (st0 : β) (hN : ∀ st, hpN (H st) = N) (hI : ∀ st, hpIn N (H st) = true) (hP : ∀ st, part? (H st) N = some (H st))
    (hk : ∀ st, killH? 990 (H st) = some (H st)) (hz : ∀ st, hfam (H st) 990 = none) (hm : memB 990 N = false)
    (hfe : Feeds Tryz.prog l encI H step st0 its) :
    ACalls Tryz.prog 162 [.d (.raw (yieldV l)), .d (.ptr (.sl none (its.map itmD)))] (H st0) fun r H' => r = .tup [] ∧ H' = H (feed step st0 its) := by
  refine ZaB Tryz.func162 rfl rfl Tryz.ntmps162 rfl rfl rfl fun F hF => ?_;refine Zaf ?_;refine Zab ?_;refine Zaa.go (Zas rfl rfl on33 rfl) ?_;refine Zaa.go (Zax rfl Tryz.underlying33 rfl) ?_;refine Zaa.go (Zad rfl rfl) ?_;refine Zae ?_;refine Zaq ?_;refine a_loop (α := Nat × β) (fun p => ⟨16, [(0, .d (.raw (yieldV l))), (5, (.d (.sl none (its.map itmD)))), (6, (.d (intD (its.length : Int)))), (7, (.d (intD (p.1 : Int))))], H p.2⟩) (fun p => p.1 ≤ its.length ∧ Feeds Tryz.prog l encI H step p.2 (its.drop p.1) ∧ feed step p.2 (its.drop p.1) = feed step st0 its) (fun p => its.length - p.1) ((0, st0)) (⟨Nat.zero_le _, hfe, rfl⟩) (ZbE ⟨rfl, rfl, rfl, rfl, trivial⟩) ?_;rintro ⟨k, st⟩ ⟨hk0, hfd, hfin⟩;dsimp only at hk0 hfd hfin ⊢;refine Zaf ?_;refine Zab ?_;refine Zaa.go (ZaK rfl rfl rfl) ?_;refine Zae ?_;refine Zaf ?_;refine ZaG rfl (fun h8 => ?_) (fun h8 => ?_)
  · have hk1 : k < its.length := ZaM h8;refine Zap ?_;refine Zaf ?_;refine Zaq ?_;refine Zaf ?_;refine Zab ?_;have hA : its.drop k = its[k] :: its.drop (k + 1) := List.drop_eq_getElem_cons hk1;rw [hA] at hfd;refine Zaa.go (Zay (k) rfl rfl (rfl) (getm hk1) Tryz.underlying33 rfl sz100 rfl) ?_;refine Zaa.go (ZaA rfl rfl rw100 rfl) ?_;refine Zal.go (ZaR 990 zl100 rfl (hk _) (hnewN (hz _)) rfl) ?_;refine Zal.go (ZaD rfl rfl rfl rfl rfl rfl rfl sz100) ?_;refine Zae ?_;refine Zaf ?_;refine Zab ?_;refine Zaa.go (Zad rfl rfl) ?_;refine Zaa.go (Zar rfl rfl rw100 rfl rfl rfl) ?_;refine o_keep [0, 5, 6, 7, 11, 12] rfl ?_;refine o_only N (hF.trans (hN st0)) (subB_refl N) ((partN hm).trans (hP _)) ?_;refine o_yieldW hfd.1 rfl rfl (by rw [hN, hN]) (by rw [hN]; exact hI _) rfl rfl ?_;refine Zaa.go (Zbu rfl rfl) ?_;refine Zae ?_;refine Za1 rfl (fun h14 => ?_) (fun h14 => ?_)
    · have hgo : (step st its[k]).2 = false := by simpa using h14
      refine Zao ?_;exact ⟨_, N, _, Zan rfl, hP _, by rw [← hN st0]; exact ZbK _, rfl, by rw [← hfin, hA, ZbA, if_neg (by rw [hgo]; decide)]⟩
    · have hgo : (step st its[k]).2 = true := by simpa using h14
      refine Zap ?_;refine Zab ?_;refine Zaa.go (Zaz rfl rfl (wrapS (k + 1) (by omega)) rfl) ?_;refine Zaa.go (Zad rfl rfl) ?_;refine Zae ?_;exact ⟨(k + 1, (step st its[k]).1), ⟨by show k + 1 ≤ _; omega, hfd.2 hgo, by rw [← hfin, hA, ZbA, if_pos hgo]⟩, by show its.length - (k + 1) < its.length - k; omega, ⟨rfl, rfl, fun _ _ => Has.get (l := [(0, _), (5, _), (6, _), (7, _)]) ⟨rfl, rfl, rfl, rfl, trivial⟩⟩⟩
  · refine ZaQ ?_;exact ⟨_, N, _, Zan rfl, hP _, by rw [← hN st0]; exact ZbK _, rfl, by rw [← hfin, List.drop_of_length_le (by have h := h8; omega)]; rfl⟩
end
end Go.Proofs.YtnamabifclidmaaGreat

/- Layer 28: the items in order. -/
namespace Go.Proofs.YtnamabifclidmaaGreat
open Go.RowKit

theorem SR.freezeB {F : Fr} {s : AS} {ρ : Nat → Nat → Value} {act : Act} {w : World} (h : SR F s ρ act w) (t f : Nat) (x : D) {T : TypeId} {cs : List AV} {hp' : Hp} (nm : List Nat) {pn : List Nat} (hF : F.pn = pn) (ht : get s.env t = some (.ptr f 0 0)) (hone : hfam s.hp f = some [.blk T cs]) (hcs : cs = x.cells.map .d) (hx1 : ∀ c ∈ x.cells, c.one = true) (hf : memB f nm = false) (hsub : subB pn nm = true) (hpt : part? s.hp nm = some hp') : SR F ⟨s.n, (t, .d (.ptr x)) :: s.env, hp'⟩ ρ act w := by
  have h1 := h.only nm hF hsub hpt;refine ⟨h1.size, h1.defs, fun t' a ha => ?_, h1.heap⟩;rcases Zbo ha with ⟨rfl, rfl⟩ | ⟨_, ha⟩
  · have hr := h.env t _ ht;have ho : hget s.hp f 0 = some (.blk T cs) := by simp [hget, hone]
    obtain ⟨b, us, e1, e2, e3, e4, e5⟩ := h.heap.sim f 0 _ ho;show RepA _ _ _ _ (act.tmps.getD t undef)
    generalize act.tmps.getD t undef = v at hr
    cases hr with
    | @ptr _ _ _ b' hb =>
      rw [e1] at hb; injection hb with hb; injection hb with hb; injection hb with hb; subst hb
      have hO : ∀ b', F.O ρ hp' b' → F.O ρ s.hp b' := fun b' hb' => hb'.imp id fun ⟨f', i', o', q1, q2⟩ => by
        obtain ⟨m1, _⟩ := part?_mem hpt;refine ⟨f', i', o', ?_, q2⟩;simp only [hget] at q1 ⊢
        cases hh : hfam hp' f' with
        | none => rw [hh] at q1; cases q1
        | some l => rw [(m1 f' l hh).2]; rw [hh] at q1; exact q1
      have hnO : ¬ F.O ρ hp' b := fun hb' => by
        rcases hb' with hb' | ⟨f', i', o', q1, q2⟩
        · exact h.heap.notOf ⟨f, 0, _, ho, by rw [e1]; rfl⟩ hb'
        · obtain ⟨m1, _⟩ := part?_mem hpt;simp only [hget] at q1
          cases hh : hfam hp' f' with
          | none => rw [hh] at q1; cases q1
          | some l =>
            have q3 : hget s.hp f' i' = some o' := by simp only [hget]; rw [(m1 f' l hh).2]; rw [hh] at q1; exact q1
            obtain ⟨e1', _⟩ := h.heap.inj f' i' f 0 _ _ b q3 ho q2 (by rw [e1]; rfl);have := ZaV.2 (m1 f' l hh).1;rw [e1', hf] at this; cases this
      have hlen : us.length = x.cells.length := by rw [e3, hcs, List.length_map]
      refine .d (.ptr (fun j => us.getD j undef) (h.heap.ltO (.inr ⟨f, 0, _, ho, by rw [e1]; rfl⟩)) hnO hx1 (fun j c hj => ?_) (fun j c hj => ?_))
      · have hj' : j < us.length := by rw [hlen]; exact (List.getElem?_eq_some_iff.1 hj).1
        rw [Nat.zero_add, cell_of_row w b j us.toArray T (0, 0) e2]
        simp [hj']
      · have hj' : j < us.length := by rw [hlen]; exact (List.getElem?_eq_some_iff.1 hj).1
        have hc := e4 j (.d c) us[j] (by rw [hcs, List.getElem?_map, hj]; rfl) (List.getElem?_eq_getElem hj');have hg : us.getD j undef = us[j] := by simp [hj']
        rw [hg]
        cases hc with
        | d hc => exact hc.mono (Nat.le_refl _) (fun _ _ _ => rfl) fun b' _ => hO b'
  · exact h1.env t' a ha
theorem o_freezeB {P : Program} {F : Fr} {Q : Exit → AS → Prop} {ops : Array Oper} {l' : List Oper} {sn : Nat} {env : List (Nat × AV)} {hp hp' : Hp} (t f : Nat) (x : D) {T : TypeId} {cs : List AV} (nm : List Nat) {pn : List Nat} (hF : F.pn = pn) (ht : get env t = some (.ptr f 0 0)) (hone : hfam hp f = some [.blk T cs]) (hcs : cs = x.cells.map .d) (hx1 : ∀ c ∈ x.cells, c.one = true) (hf : memB f nm = false) (hsub : subB pn nm = true) (hpt : part? hp nm = some hp')
    (h : Aops P F ops l' Q ⟨sn, (t, .d (.ptr x)) :: env, hp'⟩) : Aops P F ops l' Q ⟨sn, env, hp⟩ := fun ρ act w hs => h ρ act w (hs.freezeB t f x nm hF ht hone hcs hx1 hf hsub hpt)


theorem a_freezeB {P : Program} {F : Fr} {Q : Exit → AS → Prop} {c : Code} {sn : Nat} {env : List (Nat × AV)} {hp hp' : Hp} (t f : Nat) (x : D) {T : TypeId} {cs : List AV} (nm : List Nat) {pn : List Nat} (hF : F.pn = pn) (ht : get env t = some (.ptr f 0 0)) (hone : hfam hp f = some [.blk T cs]) (hcs : cs = x.cells.map .d) (hx1 : ∀ c ∈ x.cells, c.one = true) (hf : memB f nm = false) (hsub : subB pn nm = true) (hpt : part? hp nm = some hp')
    (h : Awp P F c Q ⟨sn, (t, .d (.ptr x)) :: env, hp'⟩) : Awp P F c Q ⟨sn, env, hp⟩ := fun ρ act w hs => h ρ act w (hs.freezeB t f x nm hF ht hone hcs hx1 hf hsub hpt)
theorem values_c (its : List Itm) : ACalls Tryz.prog 142 [.d (.sl none (its.map itmD))] [] fun r H' => r = .fn 162 [.d (.ptr (.sl none (its.map itmD)))] ∧ H' = [] := by
  refine ZaB Tryz.func142 rfl rfl Tryz.ntmps142 rfl rfl rfl fun F hF => ?_;refine Zaf ?_;refine Zab ?_;refine Zal.go (ZaP 1 rfl rfl rfl rfl rfl rfl rfl) ?_;refine Zaa.go (Zac rfl rfl) ?_;refine Zae ?_;refine Zaf ?_;refine Zab ?_;refine o_freezeB 1 1 (.sl none (its.map itmD)) [] hF rfl rfl rfl (by intro c hc; simp [D.cells] at hc; subst hc; rfl) rfl rfl rfl ?_;refine Zaa.go (Zcj rfl rfl) ?_;refine Zaa.go (Zac rfl rfl) ?_;refine Zae ?_;refine Zao ?_;exact ⟨_, [], [], Zan rfl, rfl, rfl, rfl, rfl⟩
abbrev hV (q : List Itm) : Hp := [(920, [.rowD 100 6 (q.map itmD)]), (1, [.blk 33 [.own 920 0 q.length]])]
def stepI (q : List Itm) (x : Itm) : List Itm × Bool := (q ++ [x], true)
theorem feed_app : ∀ (l q : List Itm), feed stepI q l = q ++ l
  | [], q => by simp [feed]
  | x :: l, q => by rw [ZbA]; show (if true = true then feed stepI (q ++ [x]) l else _) = _; rw [if_pos rfl, feed_app l]; simp
theorem feeds_app {P : Program} {l : Nat} {H : List Itm → Hp} {n : Nat} (hY : ∀ q x, q.length < n → YCalls P l (encI x) (H q) fun v H' => v = .d (.raw (.bool true)) ∧ H' = H (q ++ [x])) : ∀ (xs q : List Itm), q.length + xs.length ≤ n → Feeds P l encI H stepI q xs
  | [], _, _ => trivial
  | x :: xs, q, h => ⟨hY q x (by simp at h; omega), fun _ => feeds_app hY xs (q ++ [x]) (by simp at h ⊢; omega)⟩
set_option maxRecDepth 100000 in
theorem appseq_c (its : List Itm) (hits : its.length ≤ 1000000) : ACalls Tryz.prog 167 [.d (.sl (some true) []), .fn 162 [.d (.ptr (.sl none (its.map itmD)))]] [] fun r H' => r = .own 920 0 its.length ∧ H' = [(920, [.rowD 100 6 (its.map itmD)])] := by
  refine a_enterR Tryz.func167 rfl rfl Tryz.ntmps167 rfl rfl rfl fun F hF hFl => ?_;refine Zaf ?_;refine Zab ?_;refine Zal.go (ZaP 1 rfl rfl rfl rfl rfl rfl rfl) ?_;refine Zaa.go (Zac rfl rfl) ?_;refine Zae ?_;refine Zaf ?_;refine Zaf ?_;refine Zcf 1 0 0 920 sl33 rfl rfl rfl rfl rfl rfl rfl ?_;refine Zab ?_;refine Zaa.go (Zad rfl rfl) ?_;refine Zae ?_;refine Zaq ?_;refine a_keep [2, 6] rfl ?_;refine a_range (γ := Unit) hFl 900 rfl rfl rfl rfl rfl [1, 920] (CHr := hV []) (fun _ => True) (fun _ => hV its) (fun _ => .ready) (fun _ => none) ⟨rfl, rfl, trivial⟩ rfl rfl rfl (fun _ => rfl) (fun _ => rfl) rfl (fun _ _ => by simp) (fun _ _ => ⟨rfl, rfl⟩) [920, 1] hF rfl rfl (fun _ _ => rfl) (fun l A B hA hB => ?_) (fun _ _ => ?_)
  · refine (seqV_c its hits l (fun q : List Itm => (900, [.loop ⟨l, 13, [(2, .ptr 1 0 0), (6, .fn 162 [.d (.ptr (.sl none (its.map itmD)))])], .ready, none, #[7], A, B⟩]) :: hV q) [900, 920, 1] stepI [] (fun _ => rfl) (fun _ => rfl) (fun _ => rfl) (fun _ => rfl) (fun _ => rfl) rfl ?_).mono (fun r H' ⟨e1, e2⟩ => ⟨e1, (), trivial, by rw [e2, feed_app]; rfl⟩);refine feeds_app (n := its.length) (fun q x hq => ?_) its [] (by simp);refine yc_round (lf := 900) rfl rfl rfl rfl fun F hF hr => ?_;show Awp _ _ A _ _;rw [hA];refine Zab ?_;refine Zal.go (ZaR 2 zl100 rfl rfl rfl rfl) ?_;refine Zal.go (ZaD rfl rfl rfl rfl rfl rfl rfl sz100) ?_;refine Zae ?_;refine ⟨rfl, _, _, rfl, rfl, rfl, rfl, ?_⟩;show Awp _ _ B _ _;rw [hB];refine Zaq ?_;refine Zab ?_;refine Zaa.go (Zai rfl rfl rfl on33 rfl) ?_;refine Zaa.go (Zar rfl rfl rw100 rfl rfl rfl) ?_;refine Zal.go (ZaJ 30 sl33 rfl rfl rfl rfl rfl rfl rfl rfl) ?_;refine Zal.go (Zbn (q) ([x]) rfl rfl rfl rfl rfl rfl rfl rfl sl33 (by simp only [List.length_singleton]; omega) rfl rfl rfl rfl) ?_;refine Zal.go (ZaD rfl rfl rfl rfl rfl rfl rfl sz33) ?_;refine Zae ?_;exact ⟨none, _, _, [900, 920, 1], _, rfl, rfl, rfl, rfl, rfl, rfl, rfl, rfl⟩
  · refine Zaf ?_;refine Zab ?_;refine Zaa.go (Zai rfl rfl rfl on33 rfl) ?_;refine Zaa.go (Zac rfl rfl) ?_;refine Zae ?_;refine Zao ?_;exact ⟨_, [920], _, Zan rfl, rfl, rfl, rfl, rfl⟩
end Go.Proofs.YtnamabifclidmaaGreat

/- Layer 28: a problem's items in order. -/
namespace Go.Proofs.YtnamabifclidmaaGreat
open Go.RowKit

theorem insO_perm (l : List Itm) (x : Itm) : (insO l x).Perm (x :: l) := by
  induction l with
  | nil => exact List.Perm.refl _
  | cons a l ih =>
    simp only [insO]; split
    · exact List.Perm.refl _
    · exact (List.Perm.cons a ih).trans (List.Perm.swap x a l)
theorem insO_sorted {l : List Itm} (h : l.Pairwise fun a b => ¬ ordI b a < 0) (x : Itm) : (insO l x).Pairwise fun a b => ¬ ordI b a < 0 := by
  induction l with
  | nil => simp [insO]
  | cons a l ih =>
    rw [List.pairwise_cons] at h;simp only [insO]
    split
    · rename_i hall
      exact List.pairwise_cons.2 ⟨fun y hy => by have h1 := hall y hy; have h2 := ordI_pc.anti x y; omega, List.pairwise_cons.2 h⟩
    · rename_i hn
      refine List.pairwise_cons.2 ⟨fun y hy => ?_, ih h.2⟩;rcases List.mem_cons.1 ((insO_perm l x).mem_iff.1 hy) with rfl | hy
      · intro hlt;refine hn fun z hz => ?_;rcases List.mem_cons.1 hz with rfl | hz
        · exact hlt
        · have h1 := h.1 z hz;have h2 := ordI_pc.anti a z
          by_cases e : ordI a z = 0
          · have h3 := ordI_pc.eqv a z y e;have h4 := ordI_pc.anti a y; have h5 := ordI_pc.anti z y; omega
          · exact ordI_pc.trans _ _ _ hlt (by omega)
      · exact h.1 y hy
theorem sortO_perm (l : List Itm) : (sortO l).Perm l := by
  induction l using snoc_ind with
  | h0 => exact List.Perm.refl _
  | h1 l x ih =>
    rw [sortO_snoc];exact (insO_perm _ x).trans ((List.Perm.cons x ih).trans (List.perm_append_comm (l₁ := [x]) (l₂ := l)))
theorem sortO_sorted (l : List Itm) : (sortO l).Pairwise fun a b => ¬ ordI b a < 0 := by
  induction l using snoc_ind with
  | h0 => exact List.Pairwise.nil
  | h1 l x ih => rw [sortO_snoc]; exact insO_sorted ih x
theorem ordI_zero {a b : Itm} (h : ordI a b = 0) : a.sq = b.sq := by
  unfold ordI at h;simp only [fst0] at h
  split at h
  · split at h
    · rename_i h2; exact cmpI_zero.1 h2
    · contradiction
  · contradiction
theorem strict_of {l : List Itm} (hn : (l.map Itm.sq).Nodup) (h : l.Pairwise fun a b => ¬ ordI b a < 0) : l.Pairwise fun a b => ordI a b < 0 := by
  rw [List.Nodup, List.pairwise_map] at hn;refine (h.and hn).imp fun {a b} ⟨g1, g2⟩ => ?_;have h1 := ordI_pc.anti a b;have h2 : ordI a b ≠ 0 := fun e => g2 (ordI_zero e);omega
theorem ord_one {its ys : List Itm} (hn : (its.map Itm.sq).Nodup) (h1 : ys.Perm its) (h2 : ys.Pairwise fun a b => ¬ ordI b a < 0) : ys = sortO its :=
  strict_one (R := fun a b => ordI a b < 0) (fun x => by rw [ordI_pc.refl]; omega) (fun x y z => ordI_pc.trans x y z) (strict_of ((h1.map _).nodup_iff.2 hn) h2) (strict_of (((sortO_perm its).map _).nodup_iff.2 hn) (sortO_sorted its)) fun x => by rw [h1.mem_iff, (sortO_perm its).mem_iff]
theorem itmD_agg (x : Itm) : ∃ cs, itmD x = .agg cs := ⟨_, rfl⟩
abbrev seqA (its : List Itm) : AV := .fn 162 [.d (.ptr (.sl none (its.map itmD)))]
set_option maxRecDepth 100000 in
theorem collect_c (its : List Itm) (hits : its.length ≤ 1000000) : ACalls Tryz.prog 160 [seqA its] [] fun r H' => r = .own 920 0 its.length ∧ H' = [(920, [.rowD 100 6 (its.map itmD)])] := by
  refine ZaB Tryz.func160 rfl rfl Tryz.ntmps160 rfl rfl rfl fun F hF => ?_;refine Zaf ?_;refine Zab ?_;refine Zaa.go (Zac rfl rfl) ?_;refine Zae ?_;refine Zaf ?_;refine Zab ?_;refine Zaa.go (Zad rfl rfl) ?_;refine Zal.go (Za8 (appseq_c its hits) rfl [920] ⟨rfl, trivial⟩ rfl rfl rfl rfl rfl rfl rfl rfl rfl) ?_;refine Zaa.go (Zac rfl rfl) ?_;refine Zae ?_;refine Zao ?_;exact ⟨_, [920], _, Zan rfl, rfl, rfl, rfl, rfl⟩
set_option maxRecDepth 100000 in
theorem sortedF_p (its : List Itm) (hits : its.length ≤ 1000000) (hn : (its.map Itm.sq).Nodup) : PCalls Tryz.prog 141 [seqA its, .d (.raw (.func (.func 143) #[] #[]))] (.sl none ((sortO its).map itmD)) := by
  refine ZaB Tryz.func141 rfl rfl Tryz.ntmps141 rfl rfl rfl fun F hF => ?_;refine Zaf ?_;refine Zab ?_;refine Zaa.go (Zac rfl rfl) ?_;refine Zae ?_;refine Zaf ?_;refine Zab ?_;refine Zaa.go (Zad rfl rfl) ?_;refine Zal.go (Za8 (collect_c its hits) rfl [920] ⟨rfl, trivial⟩ rfl rfl rfl rfl rfl rfl rfl rfl rfl) ?_;refine Zaa.go (Zac rfl rfl) ?_;refine Zae ?_;refine Zaf ?_;refine Zab ?_;refine Zaa.go (Zad rfl rfl) ?_;refine Zaa.go (Zad rfl rfl) ?_;refine Zal.go (st_sort laysI (k := 6) (by decide) Tryz.isAgg100 Tryz.sizeOf100 Tryz.func143 rfl rfl itmD_agg ordI ordI_pc.swo its (sortO its) (by omega) (fun x _ y _ => order_p x y) (fun ys g1 g2 => ord_one hn g1 g2) rfl rfl rfl fa_raw rfl rfl rfl rfl rfl) ?_;refine Zae ?_;refine Zaf ?_;refine Zb3 (emb := itmD) 5 920 (sortO its) rfl rfl rfl (sortO_len its).symm rfl rfl rfl ?_;refine Zab ?_;refine Zaa.go (Zad rfl rfl) ?_;refine Zaa.go (Zac rfl rfl) ?_;refine Zae ?_;refine Zao ?_;exact ⟨_, [], [], Zan rfl, rfl, rfl, rfl, rfl⟩
theorem items_nodup {l : List Itm} (h : itemsE l = 0) : (l.map Itm.sq).Nodup := by
  have h0 := Zbt.1 h;rw [List.Nodup, List.pairwise_map, List.pairwise_iff_getElem];intro i j hi hj hij e;have := h0 j (List.mem_range.2 hj);unfold iErr at this;rw [Za5 itm0 hj] at this
  split at this
  · contradiction
  · split at this
    · cases this
    · rename_i hn
      exact hn (.inr (mem_tk hj hij e))
theorem ZbJ {p : Prb} (h : prbE p = 0) : roomsE p.ro = 0 ∧ itemsE p.it = 0 ∧ afterE p.it = 0 := by
  unfold prbE at h
  split at h; · cases h
  have h3 := fst0_all h;exact ⟨h3 _ (by simp), h3 _ (by simp), h3 _ (by simp)⟩
def ordP (p : Prb) : List Itm := if prbE p = 0 then sortO p.it else []
set_option maxRecDepth 100000 in
theorem psorted_p (p : Prb) (hb : PrbB p) : PCalls Tryz.prog 116 [.d (prbD p)] (.sl none ((ordP p).map itmD)) := by
  have hck := pcheck_p p hb;obtain ⟨_, g2, _⟩ := hb
  by_cases hE : prbE p = 0
  · rw [hE] at hck;have hR : ordP p = sortO p.it := if_pos hE;rw [hR];refine ZaB Tryz.func116 rfl rfl Tryz.ntmps116 rfl rfl rfl fun F hF => ?_;refine Zaf ?_;refine Zab ?_;refine Zal.go (ZaP 1 rfl rfl rfl rfl rfl rfl rfl) ?_;refine Zaa.go (Zac rfl rfl) ?_;refine Zae ?_;refine Zaf ?_;refine Zaf ?_;refine Zab ?_;refine Zaa.go (Zar rfl rfl rw35 rfl rfl rfl) ?_;refine Zaa.go (Zau (hck) rfl rfl) ?_;refine Zaa.go (Za3 rfl rfl rfl) ?_;refine Zae ?_;refine ZaX rfl ((by decide)) ?_;refine Zap ?_;refine Zaf ?_;refine Zab ?_;refine Zaa.go (Zah rfl Zbf rfl rfl rfl) ?_;refine Zaa.go (Zai rfl rfl rfl on33 rfl) ?_;refine Zal.go (Za8 (values_c p.it) rfl [] trivial rfl rfl rfl rfl rfl rfl rfl rfl rfl) ?_;refine Zaa.go (Zau (sortedF_p p.it (by omega) (items_nodup (ZbJ hE).2.1)) rfl rfl) ?_;refine Zaa.go (Zac rfl rfl) ?_;refine Zae ?_;refine Zao ?_;exact ⟨_, [], [], Zan rfl, rfl, rfl, rfl, rfl⟩
  · have hR : ordP p = [] := if_neg hE;rw [hR];refine ZaB Tryz.func116 rfl rfl Tryz.ntmps116 rfl rfl rfl fun F hF => ?_;refine Zaf ?_;refine Zab ?_;refine Zal.go (ZaP 1 rfl rfl rfl rfl rfl rfl rfl) ?_;refine Zaa.go (Zac rfl rfl) ?_;refine Zb5 2 rfl ?_;refine Zae ?_;refine Zaf ?_;refine Zaf ?_;refine Zab ?_;refine Zaa.go (Zar rfl rfl rw35 rfl rfl rfl) ?_;refine Zaa.go (Zau (hck) rfl rfl) ?_;refine Zaa.go (Za3 rfl rfl rfl) ?_;refine Zae ?_;refine ZaS rfl ((by simpa using hE)) ?_;refine Zaf ?_;refine Zab ?_;refine Zaa.go (Zac rfl rfl) ?_;refine Zb5 2 rfl ?_;refine Zae ?_;refine Zao ?_;exact ⟨_, [], [], Zan rfl, rfl, rfl, rfl, rfl⟩
end Go.Proofs.YtnamabifclidmaaGreat
/- Layer 28: Order, Queue, Item. -/
namespace Go.Proofs.YtnamabifclidmaaGreat
open Go.RowKit

theorem ordP_len (p : Prb) : (ordP p).length ≤ p.it.length := by unfold ordP; split <;> simp [sortO_len]
theorem ordP_mem {p : Prb} {i : Itm} (h : i ∈ ordP p) : i ∈ p.it := by
  unfold ordP at h; split at h
  · exact (sortO_perm _).mem_iff.1 h
  · cases h
set_option maxRecDepth 100000 in
theorem order_ids_p (p : Prb) (hb : PrbB p) : PCalls Tryz.prog 97 [.d (prbD p)] (.sl none (((ordP p).map Itm.id).map intD)) := by
  have hso := psorted_p p hb;have hlen := ordP_len p;have hb2 := hb.2.1
  obtain ⟨S, hS⟩ : ∃ S, ordP p = S := ⟨_, rfl⟩
  rw [hS] at hso hlen ⊢;refine ZaB Tryz.func97 rfl rfl Tryz.ntmps97 rfl rfl rfl fun F hF => ?_;refine Zaf ?_;refine Zab ?_;refine Zal.go (ZaP 1 rfl rfl rfl rfl rfl rfl rfl) ?_;refine Zaa.go (Zac rfl rfl) ?_;refine Zae ?_;refine Zaf ?_;refine Zab ?_;refine Zaa.go (Zac rfl rfl) ?_;refine Zae ?_;refine Zaf ?_;refine Zaf ?_;refine a_adopt 3 900 sl26 rfl rfl rfl rfl ?_;refine Zab ?_
  first | refine Zaa.go (ZaA rfl rfl rw35 rfl) ?_ | refine Zaa.go (Zar rfl rfl rw35 rfl rfl rfl) ?_ | refine Zaa.go (ZaT rfl rfl (rfl) rfl rw35 rfl) ?_
  refine Zaa.go (Zau (hso) rfl rfl) ?_
  first | refine Zaa.go (Zax rfl Tryz.underlying33 rfl) ?_ | refine Zaa.go (Zbr rfl rfl Tryz.underlying33 rfl) ?_ | refine Zaa.go (Zbq rfl Tryz.underlying33 rfl) ?_ | refine Zaa.go (Zbj rfl Tryz.underlying33 rfl) ?_ | refine Zaa.go (Zbp rfl Tryz.underlying33 rfl) ?_
  refine Zaa.go (Zad rfl rfl) ?_;refine Zae ?_;refine Zaq ?_;refine ZaU (α := Nat × List Int) (fun q => ⟨20, [(3, (.own 900 0 q.2.length)), (7, (.d (.sl none (S.map itmD)))), (8, (.d (intD (S.length : Int)))), (9, (.d (intD (q.1 : Int))))], [(900, [.rowD 3 1 (q.2.map intD)])]⟩) (fun q => q.1 ≤ S.length ∧ q.2 = (S.take q.1).map Itm.id) (fun q => S.length - q.1) ((0, [])) (⟨Nat.zero_le _, rfl⟩) (Zaw hF [900] rfl rfl ⟨rfl, rfl, rfl, rfl, trivial⟩) ?_;rintro ⟨k, acc⟩ ⟨hk0, hA⟩;dsimp only at hk0 hA ⊢;refine Zaf ?_;refine Zab ?_
  first | refine Zaa.go (ZaK rfl rfl rfl) ?_ | refine Zaa.go (Zbm rfl rfl rfl) ?_
  refine Zae ?_;refine Zaf ?_
  first | refine ZaG rfl (fun h10 => ?_) (fun h10 => ?_) | refine Za1 rfl (fun h10 => ?_) (fun h10 => ?_)
  · have hk1 : k < S.length := ZaM h10;refine Zap ?_;refine Zaf ?_;refine Zaq ?_;refine Zaf ?_;refine Zab ?_;have hal : acc.length ≤ 100000 := by rw [hA, List.length_map, List.length_take]; omega
    first | refine Zaa.go (Zay (k) rfl rfl (rfl) (getm hk1) Tryz.underlying33 rfl sz100 rfl) ?_ | refine Zaa.go (Zbe (k) rfl rfl (rfl) (getm hk1) rfl Tryz.underlying33 sz100 rfl) ?_
    first | refine Zaa.go (ZaA rfl rfl rw100 rfl) ?_ | refine Zaa.go (Zar rfl rfl rw100 rfl rfl rfl) ?_ | refine Zaa.go (ZaT rfl rfl (rfl) rfl rw100 rfl) ?_
    refine Zal.go (ZaR 2 zl100 rfl rfl rfl rfl) ?_;refine Zal.go (ZaD rfl rfl rfl rfl rfl rfl rfl sz100) ?_;refine Zae ?_;refine Zab ?_;refine Zaa.go (Zad rfl rfl) ?_
    first | refine Zaa.go (Zah rfl Zbi rfl rfl rfl) ?_ | refine Zaa.go (ZaH rfl Zbi rfl rfl rfl) ?_ | refine Zaa.go (ZaN rfl Zbi rfl rfl rfl) ?_ | refine Zaa.go (ZaW rfl Zbi rfl rfl rfl) ?_
    first | refine Zaa.go (Zas rfl rfl on3 rfl) ?_ | refine Zaa.go (Zai rfl rfl rfl on3 rfl) ?_ | refine Zaa.go (ZaI rfl rfl (rfl) rfl on3 rfl) ?_
    refine Zal.go (ZaJ 3 sl26 rfl rfl rfl rfl rfl rfl rfl rfl) ?_
    first | refine Zal.go (Zbn (acc) ([S[k].id]) rfl rfl rfl rfl rfl rfl rfl rfl sl26 (by simp only [List.length_singleton]; omega) rfl rfl rfl rfl) ?_ | refine Zal.go (Zbz (acc) ([S[k].id]) rfl rfl rfl rfl rfl rfl (fun _ => rfl) sl26 (by simp only [List.length_singleton]; omega) rfl rfl rfl rfl) ?_
    refine Zaa.go (Zac rfl rfl) ?_;refine Zae ?_;refine Zab ?_;refine Zaa.go (Zaz rfl rfl (wrapS (k + 1) (by omega)) rfl) ?_;refine Zaa.go (Zad rfl rfl) ?_;refine Zae ?_;exact ⟨(k + 1, _), ⟨by show k + 1 ≤ _; omega, by show _ = (S.take (k + 1)).map Itm.id; rw [tk_map hk1, ← hA]⟩, by show S.length - (k + 1) < S.length - k; omega, Zaw hF [900] rfl (rfl) ⟨rfl, rfl, rfl, rfl, trivial⟩⟩
  · refine ZaQ ?_;refine Zaf ?_;refine Zb3 (emb := intD) 3 900 acc rfl rfl rfl rfl rfl rfl rfl ?_;refine Zab ?_;refine Zaa.go (Zad rfl rfl) ?_;refine Zaa.go (Zac rfl rfl) ?_;refine Zae ?_;refine Zao ?_;exact ⟨_, [], [], Zan rfl, rfl, rfl, by rw [hA, List.take_of_length_le (by have h := h10; omega)], rfl⟩
set_option maxRecDepth 100000 in
theorem queue_p (p : Prb) (r : Rsc) (hb : PrbB p) : PCalls Tryz.prog 98 [.d (prbD p), .d (rscD r)] (.sl none ((qIds (ordP p) r).map intD)) := by
  have hso := psorted_p p hb;have hlen := ordP_len p;have hb2 := hb.2.1;have hmem : ∀ i ∈ ordP p, i.po.length ≤ 100000 ∧ i.pa.length ≤ 100000 ∧ i.af.length ≤ 100000 := fun i hi => hb.2.2 i (ordP_mem hi)
  obtain ⟨S, hS⟩ : ∃ S, ordP p = S := ⟨_, rfl⟩
  rw [hS] at hso hlen hmem ⊢;refine ZaB Tryz.func98 rfl rfl Tryz.ntmps98 rfl rfl rfl fun F hF => ?_;refine Zaf ?_;refine Zab ?_;refine Zal.go (ZaP 1 rfl rfl rfl rfl rfl rfl rfl) ?_;refine Zal.go (ZaP 2 rfl rfl rfl rfl rfl rfl rfl) ?_;refine Zaa.go (Zac rfl rfl) ?_;refine Zae ?_;refine Zaf ?_;refine Zab ?_;refine Zaa.go (Zac rfl rfl) ?_;refine Zae ?_;refine Zaf ?_;refine Zaf ?_;refine a_adopt 5 900 sl26 rfl rfl rfl rfl ?_;refine Zab ?_
  first | refine Zaa.go (ZaA rfl rfl rw35 rfl) ?_ | refine Zaa.go (Zar rfl rfl rw35 rfl rfl rfl) ?_ | refine Zaa.go (ZaT rfl rfl (rfl) rfl rw35 rfl) ?_
  refine Zaa.go (Zau (hso) rfl rfl) ?_
  first | refine Zaa.go (Zax rfl Tryz.underlying33 rfl) ?_ | refine Zaa.go (Zbr rfl rfl Tryz.underlying33 rfl) ?_ | refine Zaa.go (Zbq rfl Tryz.underlying33 rfl) ?_ | refine Zaa.go (Zbj rfl Tryz.underlying33 rfl) ?_ | refine Zaa.go (Zbp rfl Tryz.underlying33 rfl) ?_
  refine Zaa.go (Zad rfl rfl) ?_;refine Zae ?_;refine Zaq ?_;refine ZaU (α := Nat × List Int) (fun q => ⟨26, [(3, (.ptr 2 0 0)), (5, (.own 900 0 q.2.length)), (9, (.d (.sl none (S.map itmD)))), (10, (.d (intD (S.length : Int)))), (11, (.d (intD (q.1 : Int))))], [(2, [.blk 47 [.d (intD r.k), .d (strD r.acc.o), .d (intD r.acc.k), .d (strD r.acc.a), .d (strD r.f), .d (strD r.t)]]), (900, [.rowD 3 1 (q.2.map intD)])]⟩) (fun q => q.1 ≤ S.length ∧ q.2 = qIds (S.take q.1) r) (fun q => S.length - q.1) ((0, [])) (⟨Nat.zero_le _, rfl⟩) (Zaw hF [2, 900] rfl rfl ⟨rfl, rfl, rfl, rfl, rfl, trivial⟩) ?_;rintro ⟨k, acc⟩ ⟨hk0, hA⟩;dsimp only at hk0 hA ⊢;refine Zaf ?_;refine Zab ?_
  first | refine Zaa.go (ZaK rfl rfl rfl) ?_ | refine Zaa.go (Zbm rfl rfl rfl) ?_
  refine Zae ?_;refine Zaf ?_
  first | refine ZaG rfl (fun h12 => ?_) (fun h12 => ?_) | refine Za1 rfl (fun h12 => ?_) (fun h12 => ?_)
  · have hk1 : k < S.length := ZaM h12;refine Zap ?_;refine Zaf ?_;refine Zaq ?_;refine Zaf ?_;refine Zab ?_;have hgi := hmem _ (List.getElem_mem hk1);have hal : acc.length ≤ 100000 := by rw [hA]; unfold qIds; rw [List.length_map]; have := List.length_filter_le (fun i => decide (dltE i r < 0)) (S.take k); rw [List.length_take] at this; omega
    first | refine Zaa.go (Zay (k) rfl rfl (rfl) (getm hk1) Tryz.underlying33 rfl sz100 rfl) ?_ | refine Zaa.go (Zbe (k) rfl rfl (rfl) (getm hk1) rfl Tryz.underlying33 sz100 rfl) ?_
    first | refine Zaa.go (ZaA rfl rfl rw100 rfl) ?_ | refine Zaa.go (Zar rfl rfl rw100 rfl rfl rfl) ?_ | refine Zaa.go (ZaT rfl rfl (rfl) rfl rw100 rfl) ?_
    refine Zal.go (ZaR 3 zl100 rfl rfl rfl rfl) ?_;refine Zal.go (ZaD rfl rfl rfl rfl rfl rfl rfl sz100) ?_;refine Zae ?_;refine Zaf ?_;refine Zab ?_
    first | refine Zaa.go (ZaA rfl rfl rw100 rfl) ?_ | refine Zaa.go (Zar rfl rfl rw100 rfl rfl rfl) ?_ | refine Zaa.go (ZaT rfl rfl (rfl) rfl rw100 rfl) ?_
    first | refine Zaa.go (ZaA rfl rfl rw47 rfl) ?_ | refine Zaa.go (Zar rfl rfl rw47 rfl rfl rfl) ?_ | refine Zaa.go (ZaT rfl rfl (rfl) rfl rw47 rfl) ?_
    refine Zaa.go (Zau (delta_p S[k] r (by omega) (by omega) (by omega)) rfl rfl) ?_
    first | refine Zaa.go (ZaK rfl rfl rfl) ?_ | refine Zaa.go (Zbm rfl rfl rfl) ?_
    refine Zae ?_
    first | refine ZaG rfl (fun h18 => ?_) (fun h18 => ?_) | refine Za1 rfl (fun h18 => ?_) (fun h18 => ?_)
    · refine Zab ?_;refine Zaa.go (Zad rfl rfl) ?_
      first | refine Zaa.go (Zah rfl Zbi rfl rfl rfl) ?_ | refine Zaa.go (ZaH rfl Zbi rfl rfl rfl) ?_ | refine Zaa.go (ZaN rfl Zbi rfl rfl rfl) ?_ | refine Zaa.go (ZaW rfl Zbi rfl rfl rfl) ?_
      first | refine Zaa.go (Zas rfl rfl on3 rfl) ?_ | refine Zaa.go (Zai rfl rfl rfl on3 rfl) ?_ | refine Zaa.go (ZaI rfl rfl (rfl) rfl on3 rfl) ?_
      refine Zal.go (ZaJ 4 sl26 rfl rfl rfl rfl rfl rfl rfl rfl) ?_
      first | refine Zal.go (Zbn (acc) ([S[k].id]) rfl rfl rfl rfl rfl rfl rfl rfl sl26 (by simp only [List.length_singleton]; omega) rfl rfl rfl rfl) ?_ | refine Zal.go (Zbz (acc) ([S[k].id]) rfl rfl rfl rfl rfl rfl (fun _ => rfl) sl26 (by simp only [List.length_singleton]; omega) rfl rfl rfl rfl) ?_
      refine Zaa.go (Zac rfl rfl) ?_;refine Zae ?_;refine Zab ?_;refine Zaa.go (Zaz rfl rfl (wrapS (k + 1) (by omega)) rfl) ?_;refine Zaa.go (Zad rfl rfl) ?_;refine Zae ?_;exact ⟨(k + 1, _), ⟨by show k + 1 ≤ _; omega, by show _ = qIds (S.take (k + 1)) r; unfold qIds; rw [flt_snoc hk1, if_pos (by simpa using h18), List.map_append, hA]; rfl⟩, by show S.length - (k + 1) < S.length - k; omega, Zaw hF [2, 900] rfl (rfl) ⟨rfl, rfl, rfl, rfl, rfl, trivial⟩⟩
    · refine Zap ?_;refine Zab ?_;refine Zaa.go (Zaz rfl rfl (wrapS (k + 1) (by omega)) rfl) ?_;refine Zaa.go (Zad rfl rfl) ?_;refine Zae ?_;exact ⟨(k + 1, _), ⟨by show k + 1 ≤ _; omega, by show _ = qIds (S.take (k + 1)) r; unfold qIds; rw [flt_snoc hk1, if_neg (by simpa using h18), List.append_nil, hA]; rfl⟩, by show S.length - (k + 1) < S.length - k; omega, Zaw hF [2, 900] rfl (rfl) ⟨rfl, rfl, rfl, rfl, rfl, trivial⟩⟩
  · refine ZaQ ?_;refine Zaf ?_;refine Zb3 (emb := intD) 5 900 acc rfl rfl rfl rfl rfl rfl rfl ?_;refine Zab ?_;refine Zaa.go (Zad rfl rfl) ?_;refine Zaa.go (Zac rfl rfl) ?_;refine Zae ?_;refine Zao ?_;exact ⟨_, [], [], Zan rfl, rfl, rfl, by rw [hA, List.take_of_length_le (by have h := h12; omega)], rfl⟩
end Go.Proofs.YtnamabifclidmaaGreat

/- Layer 28: Item. -/
namespace Go.Proofs.YtnamabifclidmaaGreat
open Go.RowKit

end Go.Proofs.YtnamabifclidmaaGreat

/- Layer 28, plain: items by id. -/
namespace Go.Proofs.YtnamabifclidmaaGreat
open Go.RowKit

theorem ids_inj {l : List Itm} (hn : (l.map Itm.id).Nodup) {x y : Itm} (hx : x ∈ l) (hy : y ∈ l) (h : x.id = y.id) : x = y := by
  induction l with
  | nil => cases hx
  | cons a l ih =>
    rw [List.map_cons, List.nodup_cons] at hn;rcases List.mem_cons.1 hx with e1 | hx' <;> rcases List.mem_cons.1 hy with e2 | hy'
    · rw [e1, e2]
    · exact absurd (List.mem_map.2 ⟨y, hy', by rw [← h, e1]⟩) hn.1
    · exact absurd (List.mem_map.2 ⟨x, hx', by rw [h, e2]⟩) hn.1
    · exact ih hn.2 hx' hy'
theorem Zb2 {l : List Itm} (h : itemsE l = 0) : (l.map Itm.id).Nodup := by
  have h0 := Zbt.1 h;rw [List.Nodup, List.pairwise_map, List.pairwise_iff_getElem];intro i j hi hj hij e;have := h0 j (List.mem_range.2 hj);unfold iErr at this;rw [Za5 itm0 hj] at this
  split at this
  · contradiction
  · split at this
    · cases this
    · rename_i hn
      exact hn (.inl (mem_tk hj hij e))
end Go.Proofs.YtnamabifclidmaaGreat
/- Layer 28: conversion of problems; the law of problems' checks. -/
namespace Go.Proofs.YtnamabifclidmaaGreat
open Go.RowKit

set_option maxRecDepth 100000 in
theorem own_p (p : Prb) (h : Sml p) : PCalls Tryz.prog 16 [.d (prbD p)] (prbD p) := by
  obtain ⟨g1, g2, g3⟩ := h;refine ZaB Tryz.func16 rfl rfl Tryz.ntmps16 rfl rfl rfl fun F hF => ?_;refine Zaf ?_;refine Zab ?_;refine Zal.go (ZaP 1 rfl rfl rfl rfl rfl rfl rfl) ?_;refine Zal.go (ZaR 2 zl35 rfl rfl rfl rfl) ?_;refine Zae ?_;refine Zaf ?_;refine Zab ?_;refine Zal.go (ZaR 3 zl35 rfl rfl rfl rfl) ?_;refine Zae ?_;refine Zaf ?_;refine Zaf ?_;refine Zcf 3 0 0 901 sl32 rfl rfl rfl rfl rfl rfl rfl ?_;refine Zab ?_;refine Zaa.go (Zac rfl rfl) ?_;refine Zae ?_;refine Zaq ?_;refine ZaU (α := List Roo) (fun acc => ⟨51, [(1, (.ptr 1 0 0)), (2, (.ptr 2 0 0)), (3, (.ptr 3 0 0)), (4, (.d (intD (acc.length : Int))))], [(901, [.rowD 70 7 (acc.map rooD)]), (1, [prbB2 25 p]), (2, [.blk 35 [nilC, nilC]]), (3, [.blk 35 [.own 901 0 acc.length, nilC]])]⟩) (fun acc => acc = p.ro.take acc.length ∧ acc.length ≤ p.ro.length) (fun acc => p.ro.length - acc.length) ([]) (⟨by simp, Nat.zero_le _⟩) (Zaw hF [901, 1, 2, 3] rfl rfl ⟨rfl, rfl, rfl, rfl, trivial⟩) ?_;rintro acc ⟨hI, hk0⟩;refine Zaf ?_;refine Zaf ?_;refine Zab ?_;refine Zaa.go (Zad rfl rfl) ?_;refine Zaa.go (Zah rfl fi25_0 rfl rfl rfl) ?_;refine Zaa.go (Zai rfl rfl rfl on22 rfl) ?_;refine Zaa.go (Zax rfl Tryz.underlying22 rfl) ?_;refine Zaa.go (ZaK rfl rfl rfl) ?_;refine Zae ?_;refine ZaG rfl (fun h10 => ?_) (fun h10 => ?_)
  · have hk1 : acc.length < p.ro.length := ZaM h10;refine Zap ?_;refine Zaf ?_;refine Zaq ?_;refine Za4 [[], [0], [], [2], [], [2, 3, 4], [2, 3, 4, 5], [2, 3, 4, 5, 6], [2, 3, 4, 5, 6, 7], [], [9], [], [9, 10, 11], [9, 10, 11, 12], [9, 10, 11, 12, 13], [2, 3, 4, 5, 6, 7, 8, 9, 10, 11, 12, 13, 14], [2, 3, 4, 5, 6, 7, 8, 9, 10, 11, 12, 13, 14, 15], [0, 1, 2, 3, 4, 5, 6, 7, 8, 9, 10, 11, 12, 13, 14, 15, 16], [0, 1, 2, 3, 4, 5, 6, 7, 8, 9, 10, 11, 12, 13, 14, 15, 16, 17], [0, 1, 2, 3, 4, 5, 6, 7, 8, 9, 10, 11, 12, 13, 14, 15, 16, 17, 18]] mixed rfl ?_;refine dws ?_;refine Zaj [3] [] rfl rfl (fun _ => Zag (Zah rfl fi35_0 rfl rfl rfl)) ?_;refine Zat [13] rfl rfl (fun _ => Zag (Zai rfl rfl rfl on32 rfl)) ?_;refine Zaj [1] [] rfl rfl (fun _ => Zag (Zah rfl fi25_0 rfl rfl rfl)) ?_;refine Zat [15] rfl rfl (fun _ => Zag (Zai rfl rfl rfl on22 rfl)) ?_;refine Zaj [4] [] rfl rfl (fun _ => Zag (Zad rfl rfl)) ?_;refine Zaj [16, 17] [] rfl rfl (fun _ => Zag (Zay (acc.length) rfl rfl (rfl) (getm hk1) Tryz.underlying22 rfl sz104 rfl)) ?_;refine Zaj [18] [] rfl rfl (fun _ => Zag (ZaN rfl fi104_0 rfl rfl rfl)) ?_;refine Zaj [19] [] rfl rfl (fun _ => Zag (ZaA rfl rfl rw52 rfl)) ?_;refine Zaj [20] [] rfl rfl (fun _ => Zag (Zau (ownres_p p.ro[acc.length].r) rfl rfl)) ?_;refine Zaj [1] [] rfl rfl (fun _ => Zag (Zah rfl fi25_0 rfl rfl rfl)) ?_;refine Zat [22] rfl rfl (fun _ => Zag (Zai rfl rfl rfl on22 rfl)) ?_;refine Zaj [4] [] rfl rfl (fun _ => Zag (Zad rfl rfl)) ?_;refine Zaj [23, 24] [] rfl rfl (fun _ => Zag (Zay (acc.length) rfl rfl (rfl) (getm hk1) Tryz.underlying22 rfl sz104 rfl)) ?_;refine Zaj [25] [] rfl rfl (fun _ => Zag (ZaH rfl fi104_1 rfl rfl rfl)) ?_;refine Zaj [26] [] rfl rfl (fun _ => Zag (Zas rfl rfl on2 rfl)) ?_;refine Zaj [21, 27] [] rfl rfl (fun _ => Zag (Za0 zl70 pl70 rfl rfl rfl)) ?_;refine ZbH [28] [50] [(29, _)] rfl rfl (fun _ => Zbh (ZaJ 50 sl32 rfl rfl rfl rfl rfl rfl rfl rfl)) (.inr ⟨29, _, rfl, rfl, rfl, rfl, rfl⟩) rfl rfl rfl rfl rfl ?_;refine dwc 17 rfl rfl rfl ?_;refine dw1 18 rfl rfl ?_;refine Zal.go (Zbn (acc) ([p.ro[acc.length]]) rfl rfl rfl rfl rfl rfl rfl rfl sl32 (by simp only [List.length_singleton]; omega) rfl rfl rfl rfl) ?_;refine Zae ⟨rfl, ?_⟩;refine dw1 19 rfl rfl ?_;refine Zaa.go (Zah rfl fi35_0 rfl rfl rfl) ?_;refine Zae ⟨rfl, ?_⟩;refine dw1 20 rfl rfl ?_;refine Zal.go (ZaD rfl rfl rfl rfl rfl rfl rfl sz32) ?_;refine Zae ⟨rfl, ?_⟩;refine dwe ?_;refine Zab ?_;refine Zaa.go (Zad rfl rfl) ?_;refine Zaa.go (Zaz rfl rfl (wrapA acc p.ro[acc.length] (by omega)) rfl) ?_;refine Zaa.go (Zac rfl rfl) ?_;refine Zae ?_;exact ⟨acc ++ [p.ro[acc.length]], ⟨tk_next hI hk1, by rw [List.length_append]; show acc.length + 1 ≤ _; omega⟩, by rw [List.length_append]; show p.ro.length - (acc.length + 1) < p.ro.length - acc.length; omega, Zaw hF [901, 1, 2, 3] rfl (rfl) ⟨rfl, rfl, rfl, rfl, trivial⟩⟩
  · refine ZaQ ?_;refine Zaf ?_;refine Zaf ?_;have hacc := tk_end hI (fun h => h10 (by omega));refine ZbP (ys := p.ro.map rooD) 3 0 0 901 rfl rfl rfl (by simp) (by rw [hacc]; exact List.take_of_length_le (by simp)) rfl rfl rfl rfl rfl rfl ?_;refine Zcf 3 0 1 902 sl33 rfl rfl rfl rfl rfl rfl rfl ?_;refine Zab ?_;refine Zaa.go (Zac rfl rfl) ?_;refine Zae ?_;refine Zaq ?_;refine ZaU (α := List Itm) (fun acc2 => ⟨51, [(1, (.ptr 1 0 0)), (2, (.ptr 2 0 0)), (3, (.ptr 3 0 0)), (5, (.d (intD (acc2.length : Int))))], [(902, [.rowD 100 6 (acc2.map itmD)]), (1, [prbB2 25 p]), (2, [.blk 35 [nilC, nilC]]), (3, [.blk 35 [.d (.sl none (p.ro.map rooD)), .own 902 0 acc2.length]])]⟩) (fun acc2 => acc2 = p.it.take acc2.length ∧ acc2.length ≤ p.it.length) (fun acc2 => p.it.length - acc2.length) ([]) (⟨by simp, Nat.zero_le _⟩) (Zaw hF [902, 1, 2, 3] rfl rfl ⟨rfl, rfl, rfl, rfl, trivial⟩) ?_;rintro acc2 ⟨hJ, hk2⟩;refine Zaf ?_;refine Zaf ?_;refine Zab ?_;refine Zaa.go (Zad rfl rfl) ?_;refine Zaa.go (Zah rfl Zbl rfl rfl rfl) ?_;refine Zaa.go (Zai rfl rfl rfl on23 rfl) ?_;refine Zaa.go (Zax rfl Tryz.underlying23 rfl) ?_;refine Zaa.go (ZaK rfl rfl rfl) ?_;refine Zae ?_;refine ZaG rfl (fun h36 => ?_) (fun h36 => ?_)
    · have hk3 : acc2.length < p.it.length := ZaM h36;refine Zap ?_;refine Zaf ?_;refine Zaq ?_;refine Za4 [[], [0], [], [2], [], [2, 3, 4], [2, 3, 4, 5], [2, 3, 4, 5, 6], [2, 3, 4, 5, 6, 7], [0, 1, 2, 3, 4, 5, 6, 7, 8], [0, 1, 2, 3, 4, 5, 6, 7, 8, 9], [0, 1, 2, 3, 4, 5, 6, 7, 8, 9, 10]] mixed rfl ?_;refine dws ?_;refine Zaj [3] [] rfl rfl (fun _ => Zag (Zah rfl Zbf rfl rfl rfl)) ?_;refine Zat [39] rfl rfl (fun _ => Zag (Zai rfl rfl rfl on33 rfl)) ?_;refine Zaj [1] [] rfl rfl (fun _ => Zag (Zah rfl Zbl rfl rfl rfl)) ?_;refine Zat [41] rfl rfl (fun _ => Zag (Zai rfl rfl rfl on23 rfl)) ?_;refine Zaj [5] [] rfl rfl (fun _ => Zag (Zad rfl rfl)) ?_;have hgi := g3 _ (List.getElem_mem hk3);refine Zaj [42, 43] [] rfl rfl (fun _ => Zag (Zay (acc2.length) rfl rfl (rfl) (getm hk3) Tryz.underlying23 rfl sz80 rfl)) ?_;refine Zaj [44] [] rfl rfl (fun _ => Zag (ZaA rfl rfl rw80 rfl)) ?_;refine Zaj [45] [] rfl rfl (fun _ => Zag (Zau (ownitem_p p.it[acc2.length] (by omega) (by omega) (by omega)) rfl rfl)) ?_;refine ZbH [46] [51] [(47, _)] rfl rfl (fun _ => Zbh (ZaJ 51 sl33 rfl rfl rfl rfl rfl rfl rfl rfl)) (.inr ⟨47, _, rfl, rfl, rfl, rfl, rfl⟩) rfl rfl rfl rfl rfl ?_;refine dwc 9 rfl rfl rfl ?_;refine dw1 10 rfl rfl ?_;refine Zal.go (Zbn (acc2) ([p.it[acc2.length]]) rfl rfl rfl rfl rfl rfl rfl rfl sl33 (by simp only [List.length_singleton]; omega) rfl rfl rfl rfl) ?_;refine Zae ⟨rfl, ?_⟩;refine dw1 11 rfl rfl ?_;refine Zaa.go (Zah rfl Zbf rfl rfl rfl) ?_;refine Zae ⟨rfl, ?_⟩;refine dw1 12 rfl rfl ?_;refine Zal.go (ZaD rfl rfl rfl rfl rfl rfl rfl sz33) ?_;refine Zae ⟨rfl, ?_⟩;refine dwe ?_;refine Zab ?_;refine Zaa.go (Zad rfl rfl) ?_;refine Zaa.go (Zaz rfl rfl (wrapA acc2 p.it[acc2.length] (by omega)) rfl) ?_;refine Zaa.go (Zac rfl rfl) ?_;refine Zae ?_;exact ⟨acc2 ++ [p.it[acc2.length]], ⟨tk_next hJ hk3, by rw [List.length_append]; show acc2.length + 1 ≤ _; omega⟩, by rw [List.length_append]; show p.it.length - (acc2.length + 1) < p.it.length - acc2.length; omega, Zaw hF [902, 1, 2, 3] rfl (rfl) ⟨rfl, rfl, rfl, rfl, trivial⟩⟩
    · refine ZaQ ?_;refine Zaf ?_;have hacc2 := tk_end hJ (fun h => h36 (by omega));refine ZbP (ys := p.it.map itmD) 3 0 1 902 rfl rfl rfl (by simp) (by rw [hacc2]; exact List.take_of_length_le (by simp)) rfl rfl rfl rfl rfl rfl ?_;refine Zab ?_;refine Zaa.go (Zar rfl rfl rw35 rfl rfl rfl) ?_;refine Zal.go (ZaD rfl rfl rfl rfl rfl rfl rfl sz35) ?_;refine Zae ?_;refine Zao ?_;exact ⟨_, [], [], Zan rfl, rfl, rfl, rfl, rfl⟩
theorem sml_B {p : Prb} (h : Sml p) : PrbB p := ⟨by have := h.2.1; omega, by have := h.1; omega, fun i hi => by have := h.2.2 i hi; omega⟩
end Go.Proofs.YtnamabifclidmaaGreat
/- Layer 28: chosen sets; the rooms after a set has settled. -/
namespace Go.Proofs.YtnamabifclidmaaGreat
open Go.RowKit

def chErr (ids l : List Int) (k : Nat) : Int := if l.getD k 0 ∉ ids then 9 else if l.getD k 0 ∈ l.take k then 7 else 0
def setE (ids l : List Int) : Int := fst0 ((List.range l.length).map (chErr ids l))
def choE (p : Prb) (l : List Int) : Int := if prbE p ≠ 0 then prbE p else setE (p.it.map Itm.id) l
theorem set_ok {ids l : List Int} (h : setE ids l = 0) : l.Nodup ∧ ∀ x ∈ l, x ∈ ids := by
  have h0 := Zbt.1 h;refine ⟨List.pairwise_iff_getElem.2 fun i j hi hj hij e => ?_, fun x hx => ?_⟩
  · have := h0 j (List.mem_range.2 hj);unfold chErr at this;rw [Za5 0 hj] at this
    split at this
    · cases this
    · split at this
      · cases this
      · rename_i hn; exact hn (by rw [← e, List.mem_take_iff_getElem]; exact ⟨i, by omega, rfl⟩)
  · obtain ⟨j, hj, rfl⟩ := List.getElem_of_mem hx;have := h0 j (List.mem_range.2 hj);unfold chErr at this;rw [Za5 0 hj] at this
    split at this
    · cases this
    · rename_i hn; exact Decidable.not_not.1 hn
set_option maxRecDepth 100000 in
theorem chosen_bad (p : Prb) (l : List Int) (hb : PrbB p) (hl : l.length ≤ 100000) (hE : choE p l ≠ 0) : PCalls Tryz.prog 88 [.d (prbD p), .d (.sl none (l.map intD))] (.tup [.raw (.map none), intD (choE p l)]) := by
  have hck := pcheck_p p hb;have hb2 := hb.2.1
  by_cases h0 : prbE p = 0
  · have hnd := Zb2 (ZbJ h0).2.1;rw [h0] at hck;have hC : choE p l = setE (p.it.map Itm.id) l := if_neg (fun h => h h0);rw [hC] at hE ⊢
    obtain ⟨E0, hE0⟩ : ∃ e, setE (p.it.map Itm.id) l = e := ⟨_, rfl⟩
    rw [hE0] at hE ⊢;refine ZaB Tryz.func88 rfl rfl Tryz.ntmps88 rfl rfl rfl fun F hF => ?_;refine Zaf ?_;refine Zab ?_;refine Zal.go (ZaP 1 rfl rfl rfl rfl rfl rfl rfl) ?_;refine Zaa.go (Zac rfl rfl) ?_;refine Zaa.go (Zac rfl rfl) ?_;refine Zae ?_;refine Zaf ?_;refine Zaf ?_;refine Zab ?_
    first | refine Zaa.go (ZaA rfl rfl rw35 rfl) ?_ | refine Zaa.go (Zar rfl rfl rw35 rfl rfl rfl) ?_ | refine Zaa.go (ZaT rfl rfl (rfl) rfl rw35 rfl) ?_
    refine Zaa.go (Zau (hck) rfl rfl) ?_;refine Zaa.go (Zac rfl rfl) ?_;refine Zae ?_;refine Zaf ?_;refine Zab ?_;refine Zaa.go (Zad rfl rfl) ?_
    first | refine Zaa.go (Za3 rfl rfl rfl) ?_ | refine Zaa.go (Zbb rfl rfl rfl) ?_ | refine Zaa.go (Zbx rfl rfl rfl) ?_ | refine Zaa.go (ZbD Tryz.underlying29 rfl rfl rfl) ?_ | refine Zaa.go (ZbB Tryz.underlying29 rfl rfl rfl) ?_ | refine Zaa.go (st_neqN Tryz.underlying29 rfl rfl) ?_ | refine Zaa.go (ZbC Tryz.underlying29 rfl rfl rfl) ?_ | refine Zaa.go (st_neqFN Tryz.underlying29 rfl rfl) ?_
    refine Zae ?_;refine ZaX rfl ((by decide)) ?_;refine Zap ?_;refine Zaf ?_;refine Zab ?_;refine Zal.go (ZbG 2 rfl rfl rfl rfl) ?_;refine Zaa.go (Zac rfl rfl) ?_;refine Zae ?_;refine Zaf ?_;refine Zaf ?_;refine Zab ?_
    first | refine Zaa.go (Zah rfl Zbf rfl rfl rfl) ?_ | refine Zaa.go (ZaH rfl Zbf rfl rfl rfl) ?_ | refine Zaa.go (ZaN rfl Zbf rfl rfl rfl) ?_ | refine Zaa.go (ZaW rfl Zbf rfl rfl rfl) ?_
    first | refine Zaa.go (Zas rfl rfl on33 rfl) ?_ | refine Zaa.go (Zai rfl rfl rfl on33 rfl) ?_ | refine Zaa.go (ZaI rfl rfl (rfl) rfl on33 rfl) ?_
    first | refine Zaa.go (Zax rfl Tryz.underlying33 rfl) ?_ | refine Zaa.go (Zbr rfl rfl Tryz.underlying33 rfl) ?_ | refine Zaa.go (Zbq rfl Tryz.underlying33 rfl) ?_ | refine Zaa.go (Zbj rfl Tryz.underlying33 rfl) ?_ | refine Zaa.go (Zbp rfl Tryz.underlying33 rfl) ?_
    refine Zaa.go (Zad rfl rfl) ?_;refine Zae ?_;refine Zaq ?_;refine ZaU (α := Nat) (fun k => ⟨50, [(1, .d (.sl none (l.map intD))), (7, (.map 2 0)), (20, (.d (.sl none (p.it.map itmD)))), (21, (.d (intD (p.it.length : Int)))), (22, (.d (intD (k : Int))))], [(2, [mapC intD boolD (setM ((p.it.take k).map Itm.id))])]⟩) (fun k => k ≤ p.it.length) (fun k => p.it.length - k) (0) (Nat.zero_le _) (Zaw hF [2] rfl rfl ⟨rfl, rfl, rfl, rfl, rfl, trivial⟩) ?_;rintro k hk0;refine Zaf ?_;refine Zab ?_
    first | refine Zaa.go (ZaK rfl rfl rfl) ?_ | refine Zaa.go (Zbm rfl rfl rfl) ?_
    refine Zae ?_;refine Zaf ?_
    first | refine ZaG rfl (fun h23 => ?_) (fun h23 => ?_) | refine Za1 rfl (fun h23 => ?_) (fun h23 => ?_)
    · have hk1 : k < p.it.length := ZaM h23;refine Zap ?_;refine Zaf ?_;refine Zaq ?_;refine Zaf ?_;refine Zab ?_;have hnk : p.it[k].id ∉ (p.it.take k).map Itm.id := fun h => by rw [List.Nodup, List.pairwise_map, List.pairwise_iff_getElem] at hnd; obtain ⟨x, hx, e⟩ := List.mem_map.1 h; obtain ⟨j, hj, rfl⟩ := List.mem_take_iff_getElem.1 hx; exact hnd j k (by omega) hk1 (by omega) e
      first | refine Zaa.go (Zay (k) rfl rfl (rfl) (getm hk1) Tryz.underlying33 rfl sz100 rfl) ?_ | refine Zaa.go (Zbe (k) rfl rfl (rfl) (getm hk1) rfl Tryz.underlying33 sz100 rfl) ?_
      first | refine Zaa.go (ZaA rfl rfl rw100 rfl) ?_ | refine Zaa.go (Zar rfl rfl rw100 rfl rfl rfl) ?_ | refine Zaa.go (ZaT rfl rfl (rfl) rfl rw100 rfl) ?_
      refine Zal.go (ZaR 3 zl100 rfl rfl rfl rfl) ?_;refine Zal.go (ZaD rfl rfl rfl rfl rfl rfl rfl sz100) ?_;refine Zae ?_;refine Zab ?_;refine Zaa.go (Zad rfl rfl) ?_
      first | refine Zaa.go (Zah rfl Zbi rfl rfl rfl) ?_ | refine Zaa.go (ZaH rfl Zbi rfl rfl rfl) ?_ | refine Zaa.go (ZaN rfl Zbi rfl rfl rfl) ?_ | refine Zaa.go (ZaW rfl Zbi rfl rfl rfl) ?_
      first | refine Zaa.go (Zas rfl rfl on3 rfl) ?_ | refine Zaa.go (Zai rfl rfl rfl on3 rfl) ?_ | refine Zaa.go (ZaI rfl rfl (rfl) rfl on3 rfl) ?_
      first | refine Zal.go (st_mapU (setM ((p.it.take k).map Itm.id)) (p.it[k].id) (true) rfl rfl rfl mt107 kt3 rfl rfl) ?_ | refine Zal.go (st_mapUH (setM ((p.it.take k).map Itm.id)) (p.it[k].id) (true) rfl rfl rfl mt107 kt3 rfl rfl) ?_
      refine Zae ?_;refine Zab ?_;refine Zaa.go (Zaz rfl rfl (wrapS (k + 1) (by omega)) rfl) ?_;refine Zaa.go (Zad rfl rfl) ?_;refine Zae ?_;exact ⟨k + 1, by show k + 1 ≤ _; omega, by show p.it.length - (k + 1) < p.it.length - k; omega, Zaw hF [2] rfl (by rw [tk_map hk1, ← setM_put hnk]; rfl) ⟨rfl, rfl, rfl, rfl, rfl, trivial⟩⟩
    · refine ZaQ ?_;refine Zaf ?_;rw [List.take_of_length_le (show p.it.length ≤ k by have h := h23; omega)];refine Zab ?_;refine Zal.go (ZbG 4 rfl rfl rfl rfl) ?_;refine Zaa.go (Zac rfl rfl) ?_;refine Zae ?_;refine Zaf ?_;refine Zaf ?_;refine Zab ?_;refine Zaa.go (Zad rfl rfl) ?_
      first | refine Zaa.go (Zax rfl Tryz.underlying26 rfl) ?_ | refine Zaa.go (Zbr rfl rfl Tryz.underlying26 rfl) ?_ | refine Zaa.go (Zbq rfl Tryz.underlying26 rfl) ?_ | refine Zaa.go (Zbj rfl Tryz.underlying26 rfl) ?_ | refine Zaa.go (Zbp rfl Tryz.underlying26 rfl) ?_
      refine Zaa.go (Zad rfl rfl) ?_;refine Zae ?_;refine Zaq ?_;refine ZaU (α := Nat) (fun k => ⟨50, [(7, (.map 2 0)), (10, (.map 4 0)), (31, (.d (.sl none (l.map intD)))), (32, (.d (intD (l.length : Int)))), (33, (.d (intD (k : Int))))], [(2, [mapC intD boolD (setM (p.it.map Itm.id))]), (4, [mapC intD boolD (setM (l.take k))])]⟩) (fun k => k ≤ l.length ∧ E0 = fst0 (((List.range l.length).drop k).map (chErr (p.it.map Itm.id) l))) (fun k => l.length - k) (0) (⟨Nat.zero_le _, hE0.symm⟩) (Zaw hF [2, 4] rfl rfl ⟨rfl, rfl, rfl, rfl, rfl, trivial⟩) ?_;rintro k ⟨hk0, hk⟩;refine Zaf ?_;refine Zab ?_
      first | refine Zaa.go (ZaK rfl rfl rfl) ?_ | refine Zaa.go (Zbm rfl rfl rfl) ?_
      refine Zae ?_;refine Zaf ?_
      first | refine ZaG rfl (fun h34 => ?_) (fun h34 => ?_) | refine Za1 rfl (fun h34 => ?_) (fun h34 => ?_)
      · have hk1 : k < l.length := ZaM h34;refine Zap ?_;refine Zaf ?_;refine Zaq ?_;refine Zaf ?_;refine Zab ?_;have hEc := Zb7 hk1 hk;have hgd := Za5 0 hk1
        first | refine Zaa.go (Zay (k) rfl rfl (rfl) (getm hk1) Tryz.underlying26 rfl sz3 rfl) ?_ | refine Zaa.go (Zbe (k) rfl rfl (rfl) (getm hk1) rfl Tryz.underlying26 sz3 rfl) ?_
        first | refine Zaa.go (Zas rfl rfl on3 rfl) ?_ | refine Zaa.go (Zai rfl rfl rfl on3 rfl) ?_ | refine Zaa.go (ZaI rfl rfl (rfl) rfl on3 rfl) ?_
        refine Zaa.go (Zac rfl rfl) ?_;refine Zae ?_;refine Zaf ?_;refine Zaq ?_;refine Zaf ?_;refine Zab ?_;refine Zaa.go (Zad rfl rfl) ?_;refine Zaa.go (Zad rfl rfl) ?_;refine Zaa.go (Zbg (setM (p.it.map Itm.id)) (l[k]) (false) _ rfl rfl rfl mt107 kt3 za4 rfl rfl) ?_;rw [ZbZ]
        first | refine Zaa.go (Zbd rfl rfl) ?_ | refine Zaa.go (Zbu rfl rfl) ?_
        refine Zaa.go (Zac rfl rfl) ?_;refine Zae ?_
        first | refine ZaG rfl (fun h37 => ?_) (fun h37 => ?_) | refine Za1 rfl (fun h37 => ?_) (fun h37 => ?_)
        · refine Zaf ?_;refine Zab ?_;refine Zaa.go (Zac rfl rfl) ?_;refine Zaa.go (Zac rfl rfl) ?_;refine Zae ?_;refine Zao ?_;exact ⟨_, [], [], Zan rfl, rfl, rfl, by rw [hEc.2 9 (by unfold chErr; rw [hgd, if_pos (by simp_all)]) (by decide)], rfl⟩
        · refine Zaf ?_;refine Zab ?_;refine Zaa.go (Zad rfl rfl) ?_;refine Zaa.go (Zad rfl rfl) ?_;refine Zaa.go (Zbg (setM (l.take k)) (l[k]) (false) _ rfl rfl rfl mt107 kt3 za4 rfl rfl) ?_;rw [ZbZ];refine Zaa.go (Zac rfl rfl) ?_;refine Zae ?_
          first | refine ZaG rfl (fun h42 => ?_) (fun h42 => ?_) | refine Za1 rfl (fun h42 => ?_) (fun h42 => ?_)
          · refine Zaf ?_;refine Zab ?_;refine Zaa.go (Zac rfl rfl) ?_;refine Zaa.go (Zac rfl rfl) ?_;refine Zae ?_;refine Zao ?_;exact ⟨_, [], [], Zan rfl, rfl, rfl, by rw [hEc.2 7 (by unfold chErr; rw [hgd, if_neg (by simp_all), if_pos (by simp_all)]) (by decide)], rfl⟩
          · refine Zap ?_;refine Zab ?_;refine Zaa.go (Zad rfl rfl) ?_;refine Zaa.go (Zad rfl rfl) ?_
            first | refine Zal.go (st_mapU (setM (l.take k)) (l[k]) (true) rfl rfl rfl mt107 kt3 rfl rfl) ?_ | refine Zal.go (st_mapUH (setM (l.take k)) (l[k]) (true) rfl rfl rfl mt107 kt3 rfl rfl) ?_
            refine Zae ?_;refine Zab ?_;refine Zaa.go (Zaz rfl rfl (wrapS (k + 1) (by omega)) rfl) ?_;refine Zaa.go (Zad rfl rfl) ?_;refine Zae ?_;exact ⟨k + 1, ⟨by show k + 1 ≤ _; omega, hEc.1 (by unfold chErr; rw [hgd, if_neg (by simp_all), if_neg (by simp_all)])⟩, by show l.length - (k + 1) < l.length - k; omega, Zaw hF [2, 4] rfl (by rw [List.take_succ_eq_append_getElem hk1, ← setM_put (by simp_all)]; rfl) ⟨rfl, rfl, rfl, rfl, rfl, trivial⟩⟩
      · refine ZaQ ?_;refine Zaf ?_;refine Zab ?_;refine Zaa.go (Zad rfl rfl) ?_;refine Zaa.go (Zac rfl rfl) ?_;refine Zaa.go (Zac rfl rfl) ?_;refine Zae ?_;refine Zao ?_;exact absurd (by rw [hk, List.drop_of_length_le (by have h := h34; simp only [List.length_range]; omega)]; rfl) hE
  · have hC : choE p l = prbE p := if_pos h0;rw [hC];refine ZaB Tryz.func88 rfl rfl Tryz.ntmps88 rfl rfl rfl fun F hF => ?_;refine Zaf ?_;refine Zab ?_;refine Zal.go (ZaP 1 rfl rfl rfl rfl rfl rfl rfl) ?_;refine Zaa.go (Zac rfl rfl) ?_;refine Zaa.go (Zac rfl rfl) ?_;refine Zae ?_;refine Zaf ?_;refine Zaf ?_;refine Zab ?_
    first | refine Zaa.go (ZaA rfl rfl rw35 rfl) ?_ | refine Zaa.go (Zar rfl rfl rw35 rfl rfl rfl) ?_ | refine Zaa.go (ZaT rfl rfl (rfl) rfl rw35 rfl) ?_
    refine Zaa.go (Zau (hck) rfl rfl) ?_;refine Zaa.go (Zac rfl rfl) ?_;refine Zae ?_;refine Zaf ?_;refine Zab ?_;refine Zaa.go (Zad rfl rfl) ?_
    first | refine Zaa.go (Za3 rfl rfl rfl) ?_ | refine Zaa.go (Zbb rfl rfl rfl) ?_ | refine Zaa.go (Zbx rfl rfl rfl) ?_ | refine Zaa.go (ZbD Tryz.underlying29 rfl rfl rfl) ?_ | refine Zaa.go (ZbB Tryz.underlying29 rfl rfl rfl) ?_ | refine Zaa.go (st_neqN Tryz.underlying29 rfl rfl) ?_ | refine Zaa.go (ZbC Tryz.underlying29 rfl rfl rfl) ?_ | refine Zaa.go (st_neqFN Tryz.underlying29 rfl rfl) ?_
    refine Zae ?_;refine ZaS rfl ((decide_eq_true h0)) ?_;refine Zaf ?_;refine Zab ?_;refine Zaa.go (Zad rfl rfl) ?_;refine Zaa.go (Zac rfl rfl) ?_;refine Zaa.go (Zac rfl rfl) ?_;refine Zae ?_;refine Zao ?_;exact ⟨_, [], [], Zan rfl, rfl, rfl, rfl, rfl⟩
set_option maxRecDepth 100000 in
theorem chosen_ok (p : Prb) (l : List Int) (hb : PrbB p) (hl : l.length ≤ 100000) (hE : choE p l = 0) : ACalls Tryz.prog 88 [.d (prbD p), .d (.sl none (l.map intD))] [] fun r H' => r = .tup [.map 4 0, .d (intD 0)] ∧ H' = [(4, [mapC intD boolD (setM l)])] := by
  have hck := pcheck_p p hb;have hb2 := hb.2.1
  have h0 : prbE p = 0 := by
    unfold choE at hE; split at hE
    · exact hE
    · rename_i h; simpa using h
  have hnd := Zb2 (ZbJ h0).2.1;rw [h0] at hck;have hC : choE p l = setE (p.it.map Itm.id) l := if_neg (fun h => h h0);rw [hC] at hE;refine ZaB Tryz.func88 rfl rfl Tryz.ntmps88 rfl rfl rfl fun F hF => ?_;refine Zaf ?_;refine Zab ?_;refine Zal.go (ZaP 1 rfl rfl rfl rfl rfl rfl rfl) ?_;refine Zaa.go (Zac rfl rfl) ?_;refine Zaa.go (Zac rfl rfl) ?_;refine Zae ?_;refine Zaf ?_;refine Zaf ?_;refine Zab ?_
  first | refine Zaa.go (ZaA rfl rfl rw35 rfl) ?_ | refine Zaa.go (Zar rfl rfl rw35 rfl rfl rfl) ?_ | refine Zaa.go (ZaT rfl rfl (rfl) rfl rw35 rfl) ?_
  refine Zaa.go (Zau (hck) rfl rfl) ?_;refine Zaa.go (Zac rfl rfl) ?_;refine Zae ?_;refine Zaf ?_;refine Zab ?_;refine Zaa.go (Zad rfl rfl) ?_
  first | refine Zaa.go (Za3 rfl rfl rfl) ?_ | refine Zaa.go (Zbb rfl rfl rfl) ?_ | refine Zaa.go (Zbx rfl rfl rfl) ?_ | refine Zaa.go (ZbD Tryz.underlying29 rfl rfl rfl) ?_ | refine Zaa.go (ZbB Tryz.underlying29 rfl rfl rfl) ?_ | refine Zaa.go (st_neqN Tryz.underlying29 rfl rfl) ?_ | refine Zaa.go (ZbC Tryz.underlying29 rfl rfl rfl) ?_ | refine Zaa.go (st_neqFN Tryz.underlying29 rfl rfl) ?_
  refine Zae ?_;refine ZaX rfl ((by decide)) ?_;refine Zap ?_;refine Zaf ?_;refine Zab ?_;refine Zal.go (ZbG 2 rfl rfl rfl rfl) ?_;refine Zaa.go (Zac rfl rfl) ?_;refine Zae ?_;refine Zaf ?_;refine Zaf ?_;refine Zab ?_
  first | refine Zaa.go (Zah rfl Zbf rfl rfl rfl) ?_ | refine Zaa.go (ZaH rfl Zbf rfl rfl rfl) ?_ | refine Zaa.go (ZaN rfl Zbf rfl rfl rfl) ?_ | refine Zaa.go (ZaW rfl Zbf rfl rfl rfl) ?_
  first | refine Zaa.go (Zas rfl rfl on33 rfl) ?_ | refine Zaa.go (Zai rfl rfl rfl on33 rfl) ?_ | refine Zaa.go (ZaI rfl rfl (rfl) rfl on33 rfl) ?_
  first | refine Zaa.go (Zax rfl Tryz.underlying33 rfl) ?_ | refine Zaa.go (Zbr rfl rfl Tryz.underlying33 rfl) ?_ | refine Zaa.go (Zbq rfl Tryz.underlying33 rfl) ?_ | refine Zaa.go (Zbj rfl Tryz.underlying33 rfl) ?_ | refine Zaa.go (Zbp rfl Tryz.underlying33 rfl) ?_
  refine Zaa.go (Zad rfl rfl) ?_;refine Zae ?_;refine Zaq ?_;refine ZaU (α := Nat) (fun k => ⟨50, [(1, .d (.sl none (l.map intD))), (7, (.map 2 0)), (20, (.d (.sl none (p.it.map itmD)))), (21, (.d (intD (p.it.length : Int)))), (22, (.d (intD (k : Int))))], [(2, [mapC intD boolD (setM ((p.it.take k).map Itm.id))])]⟩) (fun k => k ≤ p.it.length) (fun k => p.it.length - k) (0) (Nat.zero_le _) (Zaw hF [2] rfl rfl ⟨rfl, rfl, rfl, rfl, rfl, trivial⟩) ?_;rintro k hk0;refine Zaf ?_;refine Zab ?_
  first | refine Zaa.go (ZaK rfl rfl rfl) ?_ | refine Zaa.go (Zbm rfl rfl rfl) ?_
  refine Zae ?_;refine Zaf ?_
  first | refine ZaG rfl (fun h23 => ?_) (fun h23 => ?_) | refine Za1 rfl (fun h23 => ?_) (fun h23 => ?_)
  · have hk1 : k < p.it.length := ZaM h23;refine Zap ?_;refine Zaf ?_;refine Zaq ?_;refine Zaf ?_;refine Zab ?_;have hnk : p.it[k].id ∉ (p.it.take k).map Itm.id := fun h => by rw [List.Nodup, List.pairwise_map, List.pairwise_iff_getElem] at hnd; obtain ⟨x, hx, e⟩ := List.mem_map.1 h; obtain ⟨j, hj, rfl⟩ := List.mem_take_iff_getElem.1 hx; exact hnd j k (by omega) hk1 (by omega) e
    first | refine Zaa.go (Zay (k) rfl rfl (rfl) (getm hk1) Tryz.underlying33 rfl sz100 rfl) ?_ | refine Zaa.go (Zbe (k) rfl rfl (rfl) (getm hk1) rfl Tryz.underlying33 sz100 rfl) ?_
    first | refine Zaa.go (ZaA rfl rfl rw100 rfl) ?_ | refine Zaa.go (Zar rfl rfl rw100 rfl rfl rfl) ?_ | refine Zaa.go (ZaT rfl rfl (rfl) rfl rw100 rfl) ?_
    refine Zal.go (ZaR 3 zl100 rfl rfl rfl rfl) ?_;refine Zal.go (ZaD rfl rfl rfl rfl rfl rfl rfl sz100) ?_;refine Zae ?_;refine Zab ?_;refine Zaa.go (Zad rfl rfl) ?_
    first | refine Zaa.go (Zah rfl Zbi rfl rfl rfl) ?_ | refine Zaa.go (ZaH rfl Zbi rfl rfl rfl) ?_ | refine Zaa.go (ZaN rfl Zbi rfl rfl rfl) ?_ | refine Zaa.go (ZaW rfl Zbi rfl rfl rfl) ?_
    first | refine Zaa.go (Zas rfl rfl on3 rfl) ?_ | refine Zaa.go (Zai rfl rfl rfl on3 rfl) ?_ | refine Zaa.go (ZaI rfl rfl (rfl) rfl on3 rfl) ?_
    first | refine Zal.go (st_mapU (setM ((p.it.take k).map Itm.id)) (p.it[k].id) (true) rfl rfl rfl mt107 kt3 rfl rfl) ?_ | refine Zal.go (st_mapUH (setM ((p.it.take k).map Itm.id)) (p.it[k].id) (true) rfl rfl rfl mt107 kt3 rfl rfl) ?_
    refine Zae ?_;refine Zab ?_;refine Zaa.go (Zaz rfl rfl (wrapS (k + 1) (by omega)) rfl) ?_;refine Zaa.go (Zad rfl rfl) ?_;refine Zae ?_;exact ⟨k + 1, by show k + 1 ≤ _; omega, by show p.it.length - (k + 1) < p.it.length - k; omega, Zaw hF [2] rfl (by rw [tk_map hk1, ← setM_put hnk]; rfl) ⟨rfl, rfl, rfl, rfl, rfl, trivial⟩⟩
  · refine ZaQ ?_;refine Zaf ?_;rw [List.take_of_length_le (show p.it.length ≤ k by have h := h23; omega)];refine Zab ?_;refine Zal.go (ZbG 4 rfl rfl rfl rfl) ?_;refine Zaa.go (Zac rfl rfl) ?_;refine Zae ?_;refine Zaf ?_;refine Zaf ?_;refine Zab ?_;refine Zaa.go (Zad rfl rfl) ?_
    first | refine Zaa.go (Zax rfl Tryz.underlying26 rfl) ?_ | refine Zaa.go (Zbr rfl rfl Tryz.underlying26 rfl) ?_ | refine Zaa.go (Zbq rfl Tryz.underlying26 rfl) ?_ | refine Zaa.go (Zbj rfl Tryz.underlying26 rfl) ?_ | refine Zaa.go (Zbp rfl Tryz.underlying26 rfl) ?_
    refine Zaa.go (Zad rfl rfl) ?_;refine Zae ?_;refine Zaq ?_;refine ZaU (α := Nat) (fun k => ⟨50, [(7, (.map 2 0)), (10, (.map 4 0)), (31, (.d (.sl none (l.map intD)))), (32, (.d (intD (l.length : Int)))), (33, (.d (intD (k : Int))))], [(2, [mapC intD boolD (setM (p.it.map Itm.id))]), (4, [mapC intD boolD (setM (l.take k))])]⟩) (fun k => k ≤ l.length) (fun k => l.length - k) (0) (Nat.zero_le _) (Zaw hF [2, 4] rfl rfl ⟨rfl, rfl, rfl, rfl, rfl, trivial⟩) ?_;rintro k hk0;refine Zaf ?_;refine Zab ?_
    first | refine Zaa.go (ZaK rfl rfl rfl) ?_ | refine Zaa.go (Zbm rfl rfl rfl) ?_
    refine Zae ?_;refine Zaf ?_
    first | refine ZaG rfl (fun h34 => ?_) (fun h34 => ?_) | refine Za1 rfl (fun h34 => ?_) (fun h34 => ?_)
    · have hk1 : k < l.length := ZaM h34;refine Zap ?_;refine Zaf ?_;refine Zaq ?_;refine Zaf ?_;refine Zab ?_;have hz := Zbt.1 hE k (List.mem_range.2 hk1);have hgd := Za5 0 hk1;have hin : l[k] ∈ p.it.map Itm.id := (set_ok hE).2 _ (List.getElem_mem hk1);have hnk : l[k] ∉ l.take k := fun h => by have hn2 := (set_ok hE).1; rw [List.Nodup, List.pairwise_iff_getElem] at hn2; obtain ⟨j, hj, e⟩ := List.mem_take_iff_getElem.1 h; exact hn2 j k (by omega) hk1 (by omega) e
      first | refine Zaa.go (Zay (k) rfl rfl (rfl) (getm hk1) Tryz.underlying26 rfl sz3 rfl) ?_ | refine Zaa.go (Zbe (k) rfl rfl (rfl) (getm hk1) rfl Tryz.underlying26 sz3 rfl) ?_
      first | refine Zaa.go (Zas rfl rfl on3 rfl) ?_ | refine Zaa.go (Zai rfl rfl rfl on3 rfl) ?_ | refine Zaa.go (ZaI rfl rfl (rfl) rfl on3 rfl) ?_
      refine Zaa.go (Zac rfl rfl) ?_;refine Zae ?_;refine Zaf ?_;refine Zaq ?_;refine Zaf ?_;refine Zab ?_;refine Zaa.go (Zad rfl rfl) ?_;refine Zaa.go (Zad rfl rfl) ?_;refine Zaa.go (Zbg (setM (p.it.map Itm.id)) (l[k]) (false) _ rfl rfl rfl mt107 kt3 za4 rfl rfl) ?_;rw [ZbZ]
      first | refine Zaa.go (Zbd rfl rfl) ?_ | refine Zaa.go (Zbu rfl rfl) ?_
      refine Zaa.go (Zac rfl rfl) ?_;refine Zae ?_
      first | refine ZaG rfl (fun h37 => ?_) (fun h37 => ?_) | refine Za1 rfl (fun h37 => ?_) (fun h37 => ?_)
      · refine Zaf ?_;refine Zab ?_;refine Zaa.go (Zac rfl rfl) ?_;refine Zaa.go (Zac rfl rfl) ?_;refine Zae ?_;refine Zao ?_;exact absurd hin (by simp_all)
      · refine Zaf ?_;refine Zab ?_;refine Zaa.go (Zad rfl rfl) ?_;refine Zaa.go (Zad rfl rfl) ?_;refine Zaa.go (Zbg (setM (l.take k)) (l[k]) (false) _ rfl rfl rfl mt107 kt3 za4 rfl rfl) ?_;rw [ZbZ];refine Zaa.go (Zac rfl rfl) ?_;refine Zae ?_
        first | refine ZaG rfl (fun h42 => ?_) (fun h42 => ?_) | refine Za1 rfl (fun h42 => ?_) (fun h42 => ?_)
        · refine Zaf ?_;refine Zab ?_;refine Zaa.go (Zac rfl rfl) ?_;refine Zaa.go (Zac rfl rfl) ?_;refine Zae ?_;refine Zao ?_;exact absurd hnk (by simp_all)
        · refine Zap ?_;refine Zab ?_;refine Zaa.go (Zad rfl rfl) ?_;refine Zaa.go (Zad rfl rfl) ?_
          first | refine Zal.go (st_mapU (setM (l.take k)) (l[k]) (true) rfl rfl rfl mt107 kt3 rfl rfl) ?_ | refine Zal.go (st_mapUH (setM (l.take k)) (l[k]) (true) rfl rfl rfl mt107 kt3 rfl rfl) ?_
          refine Zae ?_;refine Zab ?_;refine Zaa.go (Zaz rfl rfl (wrapS (k + 1) (by omega)) rfl) ?_;refine Zaa.go (Zad rfl rfl) ?_;refine Zae ?_;exact ⟨k + 1, by show k + 1 ≤ _; omega, by show l.length - (k + 1) < l.length - k; omega, Zaw hF [2, 4] rfl (by rw [List.take_succ_eq_append_getElem hk1, ← setM_put hnk]; rfl) ⟨rfl, rfl, rfl, rfl, rfl, trivial⟩⟩
    · refine ZaQ ?_;refine Zaf ?_;refine Zab ?_;refine Zaa.go (Zad rfl rfl) ?_;refine Zaa.go (Zac rfl rfl) ?_;refine Zaa.go (Zac rfl rfl) ?_;refine Zae ?_;refine Zao ?_;exact ⟨_, [4], _, Zan rfl, rfl, rfl, rfl, by rw [List.take_of_length_le (show l.length ≤ k by have h := h34; omega)] <;> rfl⟩
end Go.Proofs.YtnamabifclidmaaGreat
/- Layer 28: Totals. -/
namespace Go.Proofs.YtnamabifclidmaaGreat
open Go.RowKit

theorem ctrSum_cons (x : Rsc × Int) (l : List (Rsc × Int)) (r : Rsc) : ctrSum (x :: l) r = (if x.1 = r then x.2 else 0) + ctrSum l r := by simp [ctrSum]
theorem ctrSum_perm {l m : List (Rsc × Int)} (h : l.Perm m) (r : Rsc) : ctrSum l r = ctrSum m r := by
  induction h with
  | nil => rfl
  | cons x _ ih => rw [ctrSum_cons, ctrSum_cons, ih]
  | swap x y l => simp only [ctrSum_cons]; omega
  | trans _ _ ih1 ih2 => rw [ih1, ih2]
theorem ctrSum_none {l : List (Rsc × Int)} {r : Rsc} (h : r ∉ l.map Prod.fst) : ctrSum l r = 0 := by
  induction l with
  | nil => rfl
  | cons x l ih =>
    rw [List.map_cons, List.mem_cons] at h;rw [ctrSum_cons, if_neg (fun e => h (.inl e.symm)), ih (fun h' => h (.inr h'))]; rfl
theorem ctrSum_mem {l : List (Rsc × Int)} (hn : (l.map Prod.fst).Nodup) {r : Rsc} {v : Int} (h : (r, v) ∈ l) : ctrSum l r = v := by
  induction l with
  | nil => cases h
  | cons x l ih =>
    rw [List.map_cons, List.nodup_cons] at hn;rw [ctrSum_cons];rcases List.mem_cons.1 h with h | h
    · subst h;rw [if_pos rfl, ctrSum_none hn.1]; show v + 0 = v; omega
    · rw [if_neg (fun e => hn.1 (by rw [e]; exact List.mem_map.2 ⟨_, h, rfl⟩)), ih hn.2 h]; omega
theorem ctrSum_sumL (c : List (Rsc × Int)) (r : Rsc) : ctrSum (sumL c) r = ctrSum c r := by
  by_cases h : r ∈ (sumL c).map Prod.fst
  · obtain ⟨⟨r', v⟩, hx, e⟩ := List.mem_map.1 h;have e : r' = r := e;subst e;rw [ctrSum_mem (sumL_nodup c) hx, ((sumL_mem c r' v).1 hx).2]
  · rw [ctrSum_none h, ctrSum_none fun h' => h ((sumL_keys c r).2 h')]
theorem lft_sub {α β : Type} {m : List (α × β)} {B seen : List Nat} {x : α × β} (h : x ∈ lft m B seen) : x ∈ m := by
  unfold lft at h;obtain ⟨y, hy, rfl⟩ := List.mem_map.1 h;exact (List.of_mem_zip (a := y.1) (b := y.2) (List.mem_filter.1 hy).1).1
theorem lft_len {α β : Type} {m : List (α × β)} {B seen : List Nat} : (lft m B seen).length ≤ m.length := by
  unfold lft;rw [List.length_map];refine Nat.le_trans (List.length_filter_le _ _) ?_;rw [List.length_zip]; omega
def totQ (l : List Itm) (r : Rsc) : Int := (l.map fun i => ctrSum (ctr i) r).sum
theorem totQ_snoc (l : List Itm) (i : Itm) (r : Rsc) : totQ (l ++ [i]) r = totQ l r + ctrSum (ctr i) r := by simp [totQ]
def inB (l : List Int) (i : Itm) : Bool := decide (i.id ∈ l)
theorem items_check {l : List Itm} (h : itemsE l = 0) : ∀ i ∈ l, checkE i = 0 := fun i hi => by
  have h0 := Zbt.1 h;obtain ⟨j, hj, rfl⟩ := List.getElem_of_mem hi;have := h0 j (List.mem_range.2 hj);unfold iErr at this;rw [Za5 itm0 hj] at this
  split at this
  · contradiction
  · rename_i hn; simpa using hn
theorem bnd_sum {i : Itm} (h : checkE i = 0) (r : Rsc) : -Mx ≤ ctrSum (ctr i) r ∧ ctrSum (ctr i) r ≤ Mx := by
  have hb := (check_ok h).2.2.2.2.2.2.2.2;unfold bndE at hb
  split at hb
  · cases hb
  · rename_i hn
    by_cases hr : r ∈ (sumL (ctr i)).map Prod.fst
    · obtain ⟨⟨r', v⟩, hx, e⟩ := List.mem_map.1 hr;have e : r' = r := e;subst e;have hv := ((sumL_mem _ _ _).1 hx).2;rw [← hv];exact Decidable.not_not.1 fun hh => hn ⟨_, hx, hh⟩
    · rw [ctrSum_none fun h' => hr ((sumL_keys _ r).2 h')]; simp only [Mx]; omega
theorem bnd_E {i : Itm} (h : checkE i = 0) : Bnd (sumL (ctr i)) := fun x hx => by
  have hv := ((sumL_mem (ctr i) x.1 x.2).1 hx).2;rw [hv]; simpa [Mx] using bnd_sum h x.1
theorem len_E {i : Itm} (h : checkE i = 0) : (sumL (ctr i)).length ≤ 1280 := by
  have hb := (check_ok h).1;have h1 := hb.po; have h2 := hb.pa;have := sumL_length (ctr i);rw [ctr_length] at this; omega
theorem totQ_bound {l : List Itm} (h : ∀ i ∈ l, checkE i = 0) (hl : l.length ≤ 1000) (r : Rsc) : -1000000000000000000 ≤ totQ l r ∧ totQ l r ≤ 1000000000000000000 := by
  have := sum_bound (l := l) (f := fun i => ctrSum (ctr i) r) (B := 1000000000000000) (fun i hi => by simpa [Mx] using bnd_sum (h i hi) r) 1000 hl (by omega);unfold totQ; omega
def totR (p : Prb) (l : List Int) : List Roo := p.ro.map fun x => ⟨x.r, x.n + totQ (p.it.filter (inB l)) x.r⟩
theorem rooms_amt {l : List Roo} (h : roomsE l = 0) : ∀ x ∈ l, -4000000000000000 ≤ x.n ∧ x.n ≤ 4000000000000000 := fun x hx => by
  have h0 := Zbt.1 h;obtain ⟨j, hj, rfl⟩ := List.getElem_of_mem hx;have := h0 j (List.mem_range.2 hj);unfold rErr at this;rw [Za5 roo0 hj] at this
  split at this
  · contradiction
  · split at this
    · cases this
    · rename_i hn; simp only [Mx] at hn; omega
theorem fil_snoc {α : Type} {p : α → Bool} {l : List α} {k : Nat} (hk : k < l.length) : (l.take (k + 1)).filter p = (l.take k).filter p ++ (if p l[k] then [l[k]] else []) := flt_snoc hk
set_option maxRecDepth 100000 in
theorem totals_p (p : Prb) (l : List Int) (hb : PrbB p) (hl : l.length ≤ 100000) (h1000 : p.it.length ≤ 1000) : PCalls Tryz.prog 65 [.d (prbD p), .d (.sl none (l.map intD))] (.tup [.sl none ((if choE p l = 0 then totR p l else []).map rooD), intD (choE p l)]) := by
  by_cases hE : choE p l = 0
  · have hc := (chosen_ok p l hb hl hE).by [(4, 40)] rfl
    have h0 : prbE p = 0 := by
      unfold choE at hE; split at hE
      · exact hE
      · rename_i h; simpa using h
    have hck := items_check (ZbJ h0).2.1;have hram := rooms_amt (ZbJ h0).1;have hb1 := hb.1;rw [if_pos hE, hE];refine ZaB Tryz.func65 rfl rfl Tryz.ntmps65 rfl rfl rfl fun F hF => ?_;refine Zaf ?_;refine Zab ?_;refine Zal.go (ZaP 1 rfl rfl rfl rfl rfl rfl rfl) ?_;refine Zaa.go (Zac rfl rfl) ?_;refine Zaa.go (Zac rfl rfl) ?_;refine Zae ?_;refine Zaf ?_;refine Zab ?_
    first | refine Zaa.go (ZaA rfl rfl rw35 rfl) ?_ | refine Zaa.go (Zar rfl rfl rw35 rfl rfl rfl) ?_ | refine Zaa.go (ZaT rfl rfl (rfl) rfl rw35 rfl) ?_
    refine Zaa.go (Zad rfl rfl) ?_;refine Zal.go (Za8 hc rfl [40] ⟨rfl, trivial⟩ rfl rfl rfl rfl rfl rfl rfl rfl rfl) ?_;refine Zaa.go (Zad rfl rfl) ?_
    first | refine Zaa.go (ZaE rfl rfl rfl) ?_ | refine Zaa.go (ZaF rfl rfl rfl) ?_
    first | refine Zaa.go (ZaE rfl rfl rfl) ?_ | refine Zaa.go (ZaF rfl rfl rfl) ?_
    refine Zaa.go (Zac rfl rfl) ?_;refine Zaa.go (Zac rfl rfl) ?_;refine Zae ?_;refine Zaf ?_;refine Zaf ?_;refine Zab ?_;refine Zaa.go (Zad rfl rfl) ?_
    first | refine Zaa.go (Za3 rfl rfl rfl) ?_ | refine Zaa.go (Zbb rfl rfl rfl) ?_ | refine Zaa.go (Zbx rfl rfl rfl) ?_ | refine Zaa.go (ZbD Tryz.underlying29 rfl rfl rfl) ?_ | refine Zaa.go (ZbB Tryz.underlying29 rfl rfl rfl) ?_ | refine Zaa.go (st_neqN Tryz.underlying29 rfl rfl) ?_ | refine Zaa.go (ZbC Tryz.underlying29 rfl rfl rfl) ?_ | refine Zaa.go (st_neqFN Tryz.underlying29 rfl rfl) ?_
    refine Zae ?_;refine ZaX rfl ((by decide)) ?_;refine Zap ?_;refine Zaf ?_;refine Zab ?_;refine Zal.go (ZbG 2 rfl rfl rfl rfl) ?_;refine Zaa.go (Zac rfl rfl) ?_;refine Zae ?_;refine Zaf ?_;refine Zaf ?_;refine Zab ?_
    first | refine Zaa.go (Zah rfl Zbf rfl rfl rfl) ?_ | refine Zaa.go (ZaH rfl Zbf rfl rfl rfl) ?_ | refine Zaa.go (ZaN rfl Zbf rfl rfl rfl) ?_ | refine Zaa.go (ZaW rfl Zbf rfl rfl rfl) ?_
    first | refine Zaa.go (Zas rfl rfl on33 rfl) ?_ | refine Zaa.go (Zai rfl rfl rfl on33 rfl) ?_ | refine Zaa.go (ZaI rfl rfl (rfl) rfl on33 rfl) ?_
    first | refine Zaa.go (Zax rfl Tryz.underlying33 rfl) ?_ | refine Zaa.go (Zbr rfl rfl Tryz.underlying33 rfl) ?_ | refine Zaa.go (Zbq rfl Tryz.underlying33 rfl) ?_ | refine Zaa.go (Zbj rfl Tryz.underlying33 rfl) ?_ | refine Zaa.go (Zbp rfl Tryz.underlying33 rfl) ?_
    refine Zaa.go (Zad rfl rfl) ?_;refine Zae ?_;refine Zaq ?_;refine ZaU (α := Nat × List (Rsc × Int)) (fun q => ⟨76, [(2, (.ptr 1 0 0)), (6, (.map 40 0)), (8, (.map 2 0)), (27, (.d (.sl none (p.it.map itmD)))), (28, (.d (intD (p.it.length : Int)))), (29, (.d (intD (q.1 : Int))))], [(1, [prbB2 35 p]), (40, [mapC intD boolD (setM l)]), (2, [mapC rscD intD q.2])]⟩) (fun q => q.1 ≤ p.it.length ∧ ∀ r, mget q.2 r 0 = totQ ((p.it.take q.1).filter (inB l)) r) (fun q => p.it.length - q.1) ((0, [])) (⟨Nat.zero_le _, fun _ => rfl⟩) (Zaw hF [1, 40, 2] rfl rfl ⟨rfl, rfl, rfl, rfl, rfl, rfl, trivial⟩) ?_;rintro ⟨k, M⟩ ⟨hk0, hM⟩;dsimp only at hk0 hM ⊢;refine Zaf ?_;refine Zab ?_
    first | refine Zaa.go (ZaK rfl rfl rfl) ?_ | refine Zaa.go (Zbm rfl rfl rfl) ?_
    refine Zae ?_;refine Zaf ?_
    first | refine ZaG rfl (fun h30 => ?_) (fun h30 => ?_) | refine Za1 rfl (fun h30 => ?_) (fun h30 => ?_)
    · have hk1 : k < p.it.length := ZaM h30;refine Zap ?_;refine Zaf ?_;refine Zaq ?_;refine Zaf ?_;refine Zab ?_;have hci := hck _ (List.getElem_mem hk1);have hs := (sums_c p.it[k] (check_ok hci).1).by [(2, 41)] rfl;have hEb := bnd_E hci;have hEl := len_E hci;have hEs := fun r => ctrSum_sumL (ctr p.it[k]) r;have hEn := sumL_nodup (ctr p.it[k]);have hT := totQ_bound (l := (p.it.take k).filter (inB l)) (fun i hi => hck i (List.mem_of_mem_take (List.mem_filter.1 hi).1)) (Nat.le_trans (List.length_filter_le _ _) (by rw [List.length_take]; omega))
      obtain ⟨E, hEE⟩ : ∃ E, sumL (ctr p.it[k]) = E := ⟨_, rfl⟩
      rw [hEE] at hs hEb hEl hEs hEn
      first | refine Zaa.go (Zay (k) rfl rfl (rfl) (getm hk1) Tryz.underlying33 rfl sz100 rfl) ?_ | refine Zaa.go (Zbe (k) rfl rfl (rfl) (getm hk1) rfl Tryz.underlying33 sz100 rfl) ?_
      first | refine Zaa.go (ZaA rfl rfl rw100 rfl) ?_ | refine Zaa.go (Zar rfl rfl rw100 rfl rfl rfl) ?_ | refine Zaa.go (ZaT rfl rfl (rfl) rfl rw100 rfl) ?_
      refine Zal.go (ZaR 3 zl100 rfl rfl rfl rfl) ?_;refine Zal.go (ZaD rfl rfl rfl rfl rfl rfl rfl sz100) ?_;refine Zae ?_;refine Zaf ?_;refine Zaf ?_;refine Zab ?_;refine Zaa.go (Zad rfl rfl) ?_
      first | refine Zaa.go (Zah rfl Zbi rfl rfl rfl) ?_ | refine Zaa.go (ZaH rfl Zbi rfl rfl rfl) ?_ | refine Zaa.go (ZaN rfl Zbi rfl rfl rfl) ?_ | refine Zaa.go (ZaW rfl Zbi rfl rfl rfl) ?_
      first | refine Zaa.go (Zas rfl rfl on3 rfl) ?_ | refine Zaa.go (Zai rfl rfl rfl on3 rfl) ?_ | refine Zaa.go (ZaI rfl rfl (rfl) rfl on3 rfl) ?_
      refine Zaa.go (Zbg (setM l) (p.it[k].id) (false) _ rfl rfl rfl mt107 kt3 za4 rfl rfl) ?_;rw [ZbZ]
      first | refine Zaa.go (Zbd rfl rfl) ?_ | refine Zaa.go (Zbu rfl rfl) ?_
      refine Zae ?_
      first | refine ZaG rfl (fun h37 => ?_) (fun h37 => ?_) | refine Za1 rfl (fun h37 => ?_) (fun h37 => ?_)
      · refine ZaQ ?_;refine Zab ?_;refine Zaa.go (Zaz rfl rfl (wrapS (k + 1) (by omega)) rfl) ?_;refine Zaa.go (Zad rfl rfl) ?_;refine Zae ?_;exact ⟨(k + 1, M), ⟨by show k + 1 ≤ _; omega, fun r => by show mget M r 0 = totQ ((p.it.take (k + 1)).filter (inB l)) r; rw [fil_snoc hk1, if_neg (by unfold inB; simpa using h37), List.append_nil]; exact hM r⟩, by show p.it.length - (k + 1) < p.it.length - k; omega, Zaw hF [1, 40, 2] rfl (rfl) ⟨rfl, rfl, rfl, rfl, rfl, rfl, trivial⟩⟩
      · refine Zap ?_;refine Zaf ?_;refine Zab ?_
        first | refine Zaa.go (ZaA rfl rfl rw100 rfl) ?_ | refine Zaa.go (Zar rfl rfl rw100 rfl rfl rfl) ?_ | refine Zaa.go (ZaT rfl rfl (rfl) rfl rw100 rfl) ?_
        refine Zal.go (Za8 hs rfl [41] ⟨rfl, trivial⟩ rfl rfl rfl rfl rfl rfl rfl rfl rfl) ?_;refine Zal.go (st_range 4 rfl rfl rfl mt173 rfl rfl rfl rfl) ?_;refine Zae ?_;refine Zaq ?_;refine ZaU (α := List Nat × List (Rsc × Int)) (fun q => ⟨76, [(2, (.ptr 1 0 0)), (6, (.map 40 0)), (8, (.map 2 0)), (27, (.d (.sl none (p.it.map itmD)))), (28, (.d (intD (p.it.length : Int)))), (29, (.d (intD (k : Int)))), (40, (.ptr 4 0 0))], [(4, [.iter 41 0 E.length q.1]), (41, [mapC rscD intD E]), (1, [prbB2 35 p]), (40, [mapC intD boolD (setM l)]), (2, [mapC rscD intD q.2])]⟩) (fun q => ∀ r, mget q.2 r 0 + ctrSum (lft E (List.range E.length) q.1) r = totQ ((p.it.take k).filter (inB l)) r + ctrSum E r) (fun q => (lft E (List.range E.length) q.1).length) (([], M)) (fun r => by show mget M r 0 + ctrSum (lft E (List.range E.length) []) r = _; rw [lft_start (by simp), hM r]) (Zaw hF [4, 41, 1, 40, 2] rfl rfl ⟨rfl, rfl, rfl, rfl, rfl, rfl, rfl, trivial⟩) ?_;rintro ⟨seen, N⟩ hI;dsimp only at hI ⊢;refine Zaf ?_;refine Zab ?_;refine o_next (E) rfl rfl rfl rfl (fun hl41 => ?_) (fun j41 b41 k41 v41 hm41 hb41 hB41 hp41 => ⟨_, rfl, ?_⟩)
        · have hfin : ∀ r, mget N r 0 = totQ ((p.it.take k).filter (inB l)) r + ctrSum (ctr p.it[k]) r := fun r => by have h1 := hI r; rw [hl41] at h1; rw [← hEs r]; have h2 : ctrSum ([] : List (Rsc × Int)) r = 0 := rfl; omega
          first | refine Zaa.go (ZaE rfl rfl rfl) ?_ | refine Zaa.go (ZaF rfl rfl rfl) ?_
          refine Zae ?_;refine Zaf ?_;refine ZaX rfl rfl ?_;refine ZaQ ?_;refine Zab ?_;refine Zaa.go (Zaz rfl rfl (wrapS (k + 1) (by omega)) rfl) ?_;refine Zaa.go (Zad rfl rfl) ?_;refine Zae ?_;exact ⟨(k + 1, N), ⟨by show k + 1 ≤ _; omega, fun r => by show mget N r 0 = totQ ((p.it.take (k + 1)).filter (inB l)) r; rw [fil_snoc hk1, if_pos (by unfold inB; simpa using h37), totQ_snoc]; exact hfin r⟩, by show p.it.length - (k + 1) < p.it.length - k; omega, Zaw hF [1, 40, 2] rfl (rfl) ⟨rfl, rfl, rfl, rfl, rfl, rfl, trivial⟩⟩
        · first | refine Zaa.go (ZaE rfl rfl rfl) ?_ | refine Zaa.go (ZaF rfl rfl rfl) ?_
          refine Zae ?_;refine Zaf ?_;refine ZaS rfl rfl ?_;refine Zap ?_;refine Zaq ?_;refine Zaf ?_;refine Zab ?_;refine Zaa.go (st_entry (E) j41 b41 rfl rfl rfl hm41 hb41 rfl) ?_
          first | refine Zaa.go (ZaE rfl rfl rfl) ?_ | refine Zaa.go (ZaF rfl rfl rfl) ?_
          first | refine Zaa.go (ZaE rfl rfl rfl) ?_ | refine Zaa.go (ZaF rfl rfl rfl) ?_
          refine Zal.go (ZaR 5 zl47 rfl rfl rfl rfl) ?_;refine Zal.go (ZaD rfl rfl rfl rfl rfl rfl rfl sz47) ?_;refine Zaa.go (Zac rfl rfl) ?_;refine Zae ?_;refine Za4 [[], [], [0, 1], [], [0, 1, 2, 3], [0, 1, 3], [0, 1, 3, 5], [0, 1, 2, 3, 4, 5, 6]] mixed rfl ?_;refine dws2 2 ([mapC rscD intD (mtouch N k41 0)]) rfl ?_
          first | refine Zaj [8] [] rfl rfl (fun _ => Zag (Zad rfl rfl)) ?_ | refine Zat [8] rfl rfl (fun _ => Zag (Zad rfl rfl)) ?_
          first | refine Zaj [11] [] rfl rfl (fun _ => Zag (ZaA rfl rfl rw47 rfl)) ?_ | refine Zat [11] rfl rfl (fun _ => Zag (ZaA rfl rfl rw47 rfl)) ?_ | refine Zaj [11] [] rfl rfl (fun _ => Zag (Zar rfl rfl rw47 rfl rfl rfl)) ?_ | refine Zat [11] rfl rfl (fun _ => Zag (Zar rfl rfl rw47 rfl rfl rfl)) ?_ | refine Zaj [11] [] rfl rfl (fun _ => Zag (ZaT rfl rfl (rfl) rfl rw47 rfl)) ?_ | refine Zat [11] rfl rfl (fun _ => Zag (ZaT rfl rfl (rfl) rfl rw47 rfl)) ?_
          refine d_pure2 [46, 47] [] rfl rfl rfl (fun _ => Zag (Zbg (N) (k41) (0) _ rfl rfl rfl mt173 kt47 za2 rfl rfl)) (fun _ => Zag (Zbg (mtouch (N) (k41) (0)) (k41) (0) _ rfl rfl rfl mt173 kt47 za2 (mget_touch _ _ _ _) rfl)) ?_
          first | refine Zaj [12] [] rfl rfl (fun _ => Zag (Zad rfl rfl)) ?_ | refine Zat [12] rfl rfl (fun _ => Zag (Zad rfl rfl)) ?_
          have hNb : -6000000000000000000 ≤ mget N k41 0 + v41 ∧ mget N k41 0 + v41 ≤ 6000000000000000000 := by { have h1 := hI k41; have h2 := ctrSum_bound (l := lft E (List.range E.length) seen) (fun x hx => hEb x (lft_sub hx)) k41; have h3 := ctrSum_bound hEb k41; have h4 := lft_len (m := E) (B := List.range E.length) (seen := seen); have h5 := hT k41; have h6 := hEb (k41, v41) (List.mem_of_getElem? hm41); simp only at h6; omega }
          first | refine Zaj [48, 49] [] rfl rfl (fun _ => Zag (Zaz rfl rfl (IntWalk.i64_in _ (by omega)) rfl)) ?_ | refine Zat [48, 49] rfl rfl (fun _ => Zag (Zaz rfl rfl (IntWalk.i64_in _ (by omega)) rfl)) ?_
          refine ZbH [46, 47] [2] [(51, _)] rfl rfl (fun _ => Zbh (st_mapE (N) (k41) (0) rfl rfl rfl mt173 kt47 za2 rfl rfl)) (.inr ⟨51, _, rfl, rfl, rfl, rfl, rfl⟩) rfl rfl rfl rfl rfl ?_ (hCn := c2_wr rfl)
          first | refine Zaj [51] [] rfl rfl (fun _ => Zag (ZaE rfl rfl rfl)) ?_ | refine Zat [51] rfl rfl (fun _ => Zag (ZaE rfl rfl rfl)) ?_ | refine Zaj [51] [] rfl rfl (fun _ => Zag (ZaF rfl rfl rfl)) ?_ | refine Zat [51] rfl rfl (fun _ => Zag (ZaF rfl rfl rfl)) ?_
          refine dwc 7 rfl rfl rfl ?_;refine dw1 8 rfl rfl ?_;refine Zal.go (st_entS (N) (k41) (0) (mget N k41 0 + v41) rfl rfl rfl kt47 rfl rfl) ?_;refine Zae ⟨rfl, ?_⟩;refine dwe ?_;exact ⟨(seen ++ [b41], _), (fun r => by show mget (mput N k41 (mget N k41 0 + v41)) r 0 + ctrSum (lft E (List.range E.length) (seen ++ [b41])) r = _; have h1 := hI r; rw [ctrSum_perm hp41, ctrSum_cons] at h1; rw [mget_put]; by_cases e : r = k41; · { rw [if_pos e]; rw [if_pos e.symm] at h1; rw [e] at h1 ⊢; omega }; · { rw [if_neg e]; rw [if_neg (fun h => e h.symm)] at h1; omega }), by show (lft E (List.range E.length) (seen ++ [b41])).length < (lft E (List.range E.length) seen).length; rw [hp41.length_eq]; exact Nat.lt_succ_self _, Zaw hF [4, 41, 1, 40, 2] rfl (rfl) ⟨rfl, rfl, rfl, rfl, rfl, rfl, rfl, trivial⟩⟩
    · refine ZaQ ?_;refine Zaf ?_;have hfull : p.it.take k = p.it := List.take_of_length_le (by have h := h30; omega);rw [hfull] at hM;have hTb := totQ_bound (l := p.it.filter (inB l)) (fun i hi => hck i (List.mem_filter.1 hi).1) (Nat.le_trans (List.length_filter_le _ _) h1000);refine Zab ?_;refine Zaa.go (Zac rfl rfl) ?_;refine Zae ?_;refine Zaf ?_;refine Zaf ?_;refine a_adopt 13 900 sl32 rfl rfl rfl rfl ?_;refine Zab ?_
      first | refine Zaa.go (Zah rfl fi35_0 rfl rfl rfl) ?_ | refine Zaa.go (ZaH rfl fi35_0 rfl rfl rfl) ?_ | refine Zaa.go (ZaN rfl fi35_0 rfl rfl rfl) ?_ | refine Zaa.go (ZaW rfl fi35_0 rfl rfl rfl) ?_
      first | refine Zaa.go (Zas rfl rfl on32 rfl) ?_ | refine Zaa.go (Zai rfl rfl rfl on32 rfl) ?_ | refine Zaa.go (ZaI rfl rfl (rfl) rfl on32 rfl) ?_
      first | refine Zaa.go (Zax rfl Tryz.underlying32 rfl) ?_ | refine Zaa.go (Zbr rfl rfl Tryz.underlying32 rfl) ?_ | refine Zaa.go (Zbq rfl Tryz.underlying32 rfl) ?_ | refine Zaa.go (Zbj rfl Tryz.underlying32 rfl) ?_ | refine Zaa.go (Zbp rfl Tryz.underlying32 rfl) ?_
      refine Zaa.go (Zad rfl rfl) ?_;refine Zae ?_;refine Zaq ?_;refine ZaU (α := List Roo) (fun acc => ⟨76, [(8, (.map 2 0)), (13, (.own 900 0 acc.length)), (55, (.d (.sl none (p.ro.map rooD)))), (56, (.d (intD (p.ro.length : Int)))), (57, (.d (intD (acc.length : Int))))], [(900, [.rowD 70 7 (acc.map rooD)]), (2, [mapC rscD intD M])]⟩) (fun acc => acc.length ≤ p.ro.length ∧ acc = (totR p l).take acc.length) (fun acc => p.ro.length - acc.length) ([]) (⟨Nat.zero_le _, by simp⟩) (Zaw hF [900, 2] rfl rfl ⟨rfl, rfl, rfl, rfl, rfl, trivial⟩) ?_;rintro acc ⟨ha0, hA⟩;refine Zaf ?_;refine Zab ?_
      first | refine Zaa.go (ZaK rfl rfl rfl) ?_ | refine Zaa.go (Zbm rfl rfl rfl) ?_
      refine Zae ?_;refine Zaf ?_
      first | refine ZaG rfl (fun h58 => ?_) (fun h58 => ?_) | refine Za1 rfl (fun h58 => ?_) (fun h58 => ?_)
      · have ha1 : acc.length < p.ro.length := ZaM h58;refine Zap ?_;refine Zaf ?_;refine Zaq ?_;refine Zaf ?_;refine Zab ?_
        first | refine Zaa.go (Zay (acc.length) rfl rfl (rfl) (getm ha1) Tryz.underlying32 rfl sz70 rfl) ?_ | refine Zaa.go (Zbe (acc.length) rfl rfl (rfl) (getm ha1) rfl Tryz.underlying32 sz70 rfl) ?_
        first | refine Zaa.go (ZaA rfl rfl rw70 rfl) ?_ | refine Zaa.go (Zar rfl rfl rw70 rfl rfl rfl) ?_ | refine Zaa.go (ZaT rfl rfl (rfl) rfl rw70 rfl) ?_
        refine Zal.go (ZaR 6 zl70 rfl rfl rfl rfl) ?_;refine Zal.go (ZaD rfl rfl rfl rfl rfl rfl rfl sz70) ?_;refine Zae ?_;refine Za4 [[], [], [1], [], [3], [], [], [6], [5, 6, 7], [3, 4, 5, 6, 7, 8], [1, 2, 3, 4, 5, 6, 7, 8, 9], [1, 2, 3, 4, 5, 6, 7, 8, 9, 10], [0, 1, 2, 3, 4, 5, 6, 7, 8, 9, 10, 11], [0, 1, 2, 3, 4, 5, 6, 7, 8, 9, 10, 11, 12]] mixed rfl ?_;refine dws ?_
        first | refine Zaj [13] [] rfl rfl (fun _ => Zag (Zad rfl rfl)) ?_ | refine Zat [13] rfl rfl (fun _ => Zag (Zad rfl rfl)) ?_
        first | refine Zaj [15] [] rfl rfl (fun _ => Zag (Zah rfl ZbN rfl rfl rfl)) ?_ | refine Zat [15] rfl rfl (fun _ => Zag (Zah rfl ZbN rfl rfl rfl)) ?_ | refine Zaj [15] [] rfl rfl (fun _ => Zag (ZaH rfl ZbN rfl rfl rfl)) ?_ | refine Zat [15] rfl rfl (fun _ => Zag (ZaH rfl ZbN rfl rfl rfl)) ?_ | refine Zaj [15] [] rfl rfl (fun _ => Zag (ZaN rfl ZbN rfl rfl rfl)) ?_ | refine Zat [15] rfl rfl (fun _ => Zag (ZaN rfl ZbN rfl rfl rfl)) ?_ | refine Zaj [15] [] rfl rfl (fun _ => Zag (ZaW rfl ZbN rfl rfl rfl)) ?_ | refine Zat [15] rfl rfl (fun _ => Zag (ZaW rfl ZbN rfl rfl rfl)) ?_
        first | refine Zaj [62] [] rfl rfl (fun _ => Zag (ZaA rfl rfl rw47 rfl)) ?_ | refine Zat [62] rfl rfl (fun _ => Zag (ZaA rfl rfl rw47 rfl)) ?_ | refine Zaj [62] [] rfl rfl (fun _ => Zag (Zar rfl rfl rw47 rfl rfl rfl)) ?_ | refine Zat [62] rfl rfl (fun _ => Zag (Zar rfl rfl rw47 rfl rfl rfl)) ?_ | refine Zaj [62] [] rfl rfl (fun _ => Zag (ZaT rfl rfl (rfl) rfl rw47 rfl)) ?_ | refine Zat [62] rfl rfl (fun _ => Zag (ZaT rfl rfl (rfl) rfl rw47 rfl)) ?_
        first | refine Zaj [15] [] rfl rfl (fun _ => Zag (Zah rfl fi70_1 rfl rfl rfl)) ?_ | refine Zat [15] rfl rfl (fun _ => Zag (Zah rfl fi70_1 rfl rfl rfl)) ?_ | refine Zaj [15] [] rfl rfl (fun _ => Zag (ZaH rfl fi70_1 rfl rfl rfl)) ?_ | refine Zat [15] rfl rfl (fun _ => Zag (ZaH rfl fi70_1 rfl rfl rfl)) ?_ | refine Zaj [15] [] rfl rfl (fun _ => Zag (ZaN rfl fi70_1 rfl rfl rfl)) ?_ | refine Zat [15] rfl rfl (fun _ => Zag (ZaN rfl fi70_1 rfl rfl rfl)) ?_ | refine Zaj [15] [] rfl rfl (fun _ => Zag (ZaW rfl fi70_1 rfl rfl rfl)) ?_ | refine Zat [15] rfl rfl (fun _ => Zag (ZaW rfl fi70_1 rfl rfl rfl)) ?_
        first | refine Zaj [64] [] rfl rfl (fun _ => Zag (Zas rfl rfl on2 rfl)) ?_ | refine Zat [64] rfl rfl (fun _ => Zag (Zas rfl rfl on2 rfl)) ?_ | refine Zaj [64] [] rfl rfl (fun _ => Zag (Zai rfl rfl rfl on2 rfl)) ?_ | refine Zat [64] rfl rfl (fun _ => Zag (Zai rfl rfl rfl on2 rfl)) ?_ | refine Zaj [64] [] rfl rfl (fun _ => Zag (ZaI rfl rfl (rfl) rfl on2 rfl)) ?_ | refine Zat [64] rfl rfl (fun _ => Zag (ZaI rfl rfl (rfl) rfl on2 rfl)) ?_
        first | refine Zaj [8] [] rfl rfl (fun _ => Zag (Zad rfl rfl)) ?_ | refine Zat [8] rfl rfl (fun _ => Zag (Zad rfl rfl)) ?_
        first | refine Zaj [15] [] rfl rfl (fun _ => Zag (Zah rfl ZbN rfl rfl rfl)) ?_ | refine Zat [15] rfl rfl (fun _ => Zag (Zah rfl ZbN rfl rfl rfl)) ?_ | refine Zaj [15] [] rfl rfl (fun _ => Zag (ZaH rfl ZbN rfl rfl rfl)) ?_ | refine Zat [15] rfl rfl (fun _ => Zag (ZaH rfl ZbN rfl rfl rfl)) ?_ | refine Zaj [15] [] rfl rfl (fun _ => Zag (ZaN rfl ZbN rfl rfl rfl)) ?_ | refine Zat [15] rfl rfl (fun _ => Zag (ZaN rfl ZbN rfl rfl rfl)) ?_ | refine Zaj [15] [] rfl rfl (fun _ => Zag (ZaW rfl ZbN rfl rfl rfl)) ?_ | refine Zat [15] rfl rfl (fun _ => Zag (ZaW rfl ZbN rfl rfl rfl)) ?_
        first | refine Zaj [67] [] rfl rfl (fun _ => Zag (ZaA rfl rfl rw47 rfl)) ?_ | refine Zat [67] rfl rfl (fun _ => Zag (ZaA rfl rfl rw47 rfl)) ?_ | refine Zaj [67] [] rfl rfl (fun _ => Zag (Zar rfl rfl rw47 rfl rfl rfl)) ?_ | refine Zat [67] rfl rfl (fun _ => Zag (Zar rfl rfl rw47 rfl rfl rfl)) ?_ | refine Zaj [67] [] rfl rfl (fun _ => Zag (ZaT rfl rfl (rfl) rfl rw47 rfl)) ?_ | refine Zat [67] rfl rfl (fun _ => Zag (ZaT rfl rfl (rfl) rfl rw47 rfl)) ?_
        first | refine Zaj [66, 68] [] rfl rfl (fun _ => Zag (Zbg (M) (p.ro[acc.length].r) (0) _ rfl rfl rfl mt173 kt47 za2 rfl rfl)) ?_ | refine Zat [66, 68] rfl rfl (fun _ => Zag (Zbg (M) (p.ro[acc.length].r) (0) _ rfl rfl rfl mt173 kt47 za2 rfl rfl)) ?_
        have hr1 := hram _ (List.getElem_mem ha1);have hr2 := hTb p.ro[acc.length].r;have hr3 := hM p.ro[acc.length].r
        first | refine Zaj [65, 69] [] rfl rfl (fun _ => Zag (Zaz rfl rfl (IntWalk.i64_in _ (by omega)) rfl)) ?_ | refine Zat [65, 69] rfl rfl (fun _ => Zag (Zaz rfl rfl (IntWalk.i64_in _ (by omega)) rfl)) ?_
        first | refine Zaj [63, 70] [] rfl rfl (fun _ => Zag (Za0 zl70 pl70 rfl rfl rfl)) ?_ | refine Zat [63, 70] rfl rfl (fun _ => Zag (Za0 zl70 pl70 rfl rfl rfl)) ?_
        refine ZbH [71] [50] [(72, _)] rfl rfl (fun _ => Zbh (ZaJ 50 sl32 rfl rfl rfl rfl rfl rfl rfl rfl)) (.inr ⟨72, _, rfl, rfl, rfl, rfl, rfl⟩) rfl rfl rfl rfl rfl ?_;refine dwc 12 rfl rfl rfl ?_;refine dw1 13 rfl rfl ?_
        first | refine Zal.go (Zbn (acc) ([⟨p.ro[acc.length].r, p.ro[acc.length].n + mget M p.ro[acc.length].r 0⟩]) rfl rfl rfl rfl rfl rfl rfl rfl sl32 (by simp only [List.length_singleton]; omega) rfl rfl rfl rfl) ?_ | refine Zal.go (Zbz (acc) ([⟨p.ro[acc.length].r, p.ro[acc.length].n + mget M p.ro[acc.length].r 0⟩]) rfl rfl rfl rfl rfl rfl (fun _ => rfl) sl32 (by simp only [List.length_singleton]; omega) rfl rfl rfl rfl) ?_
        refine Zae ⟨rfl, ?_⟩;refine dw1 14 rfl rfl ?_;refine Zaa.go (Zac rfl rfl) ?_;refine Zae ⟨rfl, ?_⟩;refine dwe ?_;refine Zab ?_;refine Zaa.go (Zaz rfl rfl (wrapA acc (⟨p.ro[acc.length].r, p.ro[acc.length].n + mget M p.ro[acc.length].r 0⟩ : Roo) (by omega)) rfl) ?_;refine Zaa.go (Zad rfl rfl) ?_;refine Zae ?_;exact ⟨acc ++ [⟨p.ro[acc.length].r, p.ro[acc.length].n + mget M p.ro[acc.length].r 0⟩], ⟨by rw [List.length_append]; show acc.length + 1 ≤ _; omega, by rw [List.length_append]; show _ = (totR p l).take (acc.length + 1); rw [List.take_succ_eq_append_getElem (by unfold totR; simpa using ha1), ← hA]; congr 1; unfold totR; simp [hM]⟩, by rw [List.length_append]; show p.ro.length - (acc.length + 1) < p.ro.length - acc.length; omega, Zaw hF [900, 2] rfl (rfl) ⟨rfl, rfl, rfl, rfl, rfl, trivial⟩⟩
      · refine ZaQ ?_;refine Zaf ?_;have hfa : acc = totR p l := by rw [hA]; exact List.take_of_length_le (by unfold totR; rw [List.length_map]; have h := h58; omega)
        refine Zb3 (emb := rooD) 13 900 acc rfl rfl rfl rfl rfl rfl rfl ?_;refine Zab ?_;refine Zaa.go (Zad rfl rfl) ?_;refine Zaa.go (Zac rfl rfl) ?_;refine Zaa.go (Zac rfl rfl) ?_;refine Zae ?_;refine Zao ?_;exact ⟨_, [], [], Zan rfl, rfl, rfl, by rw [hfa], rfl⟩
  · have hc := chosen_bad p l hb hl hE;rw [if_neg hE];refine ZaB Tryz.func65 rfl rfl Tryz.ntmps65 rfl rfl rfl fun F hF => ?_;refine Zaf ?_;refine Zab ?_;refine Zal.go (ZaP 1 rfl rfl rfl rfl rfl rfl rfl) ?_;refine Zaa.go (Zac rfl rfl) ?_;refine Zb5 4 rfl ?_;refine Zaa.go (Zac rfl rfl) ?_;refine Zae ?_;refine Zaf ?_;refine Zab ?_
    first | refine Zaa.go (ZaA rfl rfl rw35 rfl) ?_ | refine Zaa.go (Zar rfl rfl rw35 rfl rfl rfl) ?_ | refine Zaa.go (ZaT rfl rfl (rfl) rfl rw35 rfl) ?_
    refine Zaa.go (Zad rfl rfl) ?_;refine Zaa.go (Zau (hc) rfl rfl) ?_;refine Zaa.go (Zad rfl rfl) ?_
    first | refine Zaa.go (ZaE rfl rfl rfl) ?_ | refine Zaa.go (ZaF rfl rfl rfl) ?_
    first | refine Zaa.go (ZaE rfl rfl rfl) ?_ | refine Zaa.go (ZaF rfl rfl rfl) ?_
    refine Zaa.go (Zac rfl rfl) ?_;refine Zaa.go (Zac rfl rfl) ?_;refine Zae ?_;refine Zaf ?_;refine Zaf ?_;refine Zab ?_;refine Zaa.go (Zad rfl rfl) ?_
    first | refine Zaa.go (Za3 rfl rfl rfl) ?_ | refine Zaa.go (Zbb rfl rfl rfl) ?_ | refine Zaa.go (Zbx rfl rfl rfl) ?_ | refine Zaa.go (ZbD Tryz.underlying29 rfl rfl rfl) ?_ | refine Zaa.go (ZbB Tryz.underlying29 rfl rfl rfl) ?_ | refine Zaa.go (st_neqN Tryz.underlying29 rfl rfl) ?_ | refine Zaa.go (ZbC Tryz.underlying29 rfl rfl rfl) ?_ | refine Zaa.go (st_neqFN Tryz.underlying29 rfl rfl) ?_
    refine Zae ?_;refine ZaS rfl ((decide_eq_true hE)) ?_;refine Zaf ?_;refine Zab ?_;refine Zaa.go (Zad rfl rfl) ?_;refine Zaa.go (Zac rfl rfl) ?_;refine Zb5 4 rfl ?_;refine Zaa.go (Zac rfl rfl) ?_;refine Zae ?_;refine Zao ?_;exact ⟨_, [], [], Zan rfl, rfl, rfl, rfl, rfl⟩
end Go.Proofs.YtnamabifclidmaaGreat
