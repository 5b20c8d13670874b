/- Layer 28: what slices.Values feeds to a loop. -/
import Derived.Test.YtfmpiabmnjmobaaRes7
namespace Go.Proofs.Ytfmpiabmnjmobaa
open Go.RowKit

theorem hnewN {hp : Hp} {f : Nat} {o : AObj} (h : hfam hp f = none) : hnew? hp f o = some ((f, [o]) :: hp) := by simp only [hnew?]; rw [h]
theorem partN {hp : Hp} {f : Nat} {x : List AObj} : ∀ {nm : List Nat}, memB f nm = false → part? ((f, x) :: hp) nm = part? hp nm
  | [], _ => rfl
  | g :: r, h => by
    have h1 : Nat.beq f g = false := by
      cases hb : Nat.beq f g with
      | false => rfl
      | true =>
        have e := Nat.eq_of_beq_eq_true hb
        subst e
        simp [memB] at h
    have h2 : memB f r = false := by
      cases hb : memB f r with
      | false => rfl
      | true => simp [memB, hb] at h
    simp only [part?]
    rw [partN h2]
    simp only [hfam, h1]
theorem subB_refl (l : List Nat) : subB l l = true := by
  have key : ∀ (l m : List Nat), (∀ x ∈ l, x ∈ m) → subB l m = true := fun l => by
    induction l with
    | nil => intro m _; rfl
    | cons a r ih => intro m h; simp only [subB, Bool.and_eq_true]; exact ⟨memB_spec.2 (h a (by simp)), ih m fun x hx => h x (by simp [hx])⟩
  exact key l l fun x hx => hx
theorem feed_cons' {α β : Type} {step : β → α → β × Bool} {b : β} {x : α} {r : List α} : feed step b (x :: r) = if (step b x).2 = true then feed step (step b x).1 r else (step b x).1 := by
  simp only [feed]
  generalize step b x = y
  obtain ⟨y1, y2⟩ := y
  cases y2 <;> rfl
def encI (x : Itm) : List AV := [.d (itmD x)]
section
variable {β : Type}
set_option maxRecDepth 100000 in
theorem seqV_c (its : List Itm) (hits : its.length ≤ 1000000) (l : Nat) (H : β → Hp) (N : List Nat) (step : β → Itm → β × Bool) (st0 : β) (hN : ∀ st, hpN (H st) = N) (hI : ∀ st, hpIn N (H st) = true) (hP : ∀ st, part? (H st) N = some (H st))
    (hk : ∀ st, killH? 990 (H st) = some (H st)) (hz : ∀ st, hfam (H st) 990 = none) (hm : memB 990 N = false)
    (hfe : Feeds Try.prog l encI H step st0 its) :
    ACalls Try.prog 115 [.d (.raw (yieldV l)), .d (.ptr (.sl none (its.map itmD)))] (H st0) fun r H' => r = .tup [] ∧ H' = H (feed step st0 its) := by
  refine a_enter Try.func115 rfl rfl Try.ntmps115 rfl rfl rfl fun F hF => ?_
  refine a_seq ?_
  refine a_region ?_
  first | refine Pstep.go (st_loadD1 rfl rfl on70 rfl) ?_ | refine Pstep.go (st_loadP rfl rfl rfl on70 rfl) ?_ | refine Pstep.go (st_loadR rfl rfl (rfl) rfl on70 rfl) ?_
  first | refine Pstep.go (st_lenMap rfl Try.underlying70 rfl) ?_ | refine Pstep.go (st_lenD rfl rfl Try.underlying70 rfl) ?_ | refine Pstep.go (st_lenO rfl Try.underlying70 rfl) ?_ | refine Pstep.go (st_lenSL rfl Try.underlying70 rfl) ?_ | refine Pstep.go (st_lenS rfl Try.underlying70 rfl) ?_
  refine Pstep.go (st_move rfl rfl) ?_
  refine o_nil ?_
  refine a_block ?_
  refine a_loop (α := Nat × β) (fun p => ⟨16, [(0, .d (.raw (yieldV l))), (5, (.d (.sl none (its.map itmD)))), (6, (.d (intD (its.length : Int)))), (7, (.d (intD (p.1 : Int))))], H p.2⟩) (fun p => p.1 ≤ its.length ∧ Feeds Try.prog l encI H step p.2 (its.drop p.1) ∧ feed step p.2 (its.drop p.1) = feed step st0 its) (fun p => its.length - p.1) ((0, st0)) (⟨Nat.zero_le _, hfe, rfl⟩) (le_of_has ⟨rfl, rfl, rfl, rfl, trivial⟩) ?_
  rintro ⟨k, st⟩ ⟨hk0, hfd, hfin⟩
  dsimp only at hk0 hfd hfin ⊢
  refine a_seq ?_
  refine a_region ?_
  first | refine Pstep.go (st_lss rfl rfl rfl) ?_ | refine Pstep.go (st_lssS rfl rfl rfl) ?_
  refine o_nil ?_
  refine a_seq ?_
  first | refine a_if rfl (fun h8 => ?_) (fun h8 => ?_) | refine a_cond rfl (fun h8 => ?_) (fun h8 => ?_)
  · have hk1 : k < its.length := lt_cast h8
    refine a_skip ?_
    refine a_seq ?_
    refine a_block ?_
    refine a_seq ?_
    refine a_region ?_
    have hA : its.drop k = its[k] :: its.drop (k + 1) := List.drop_eq_getElem_cons hk1
    rw [hA] at hfd
    first | refine Pstep.go (st_indexD (k) rfl rfl (rfl) (getm hk1) Try.underlying70 rfl sz33 rfl) ?_ | refine Pstep.go (st_indexO (k) rfl rfl (rfl) (getm hk1) rfl Try.underlying70 sz33 rfl) ?_
    first | refine Pstep.go (st_loadDS rfl rfl rw33 rfl) ?_ | refine Pstep.go (st_loadPS rfl rfl rw33 rfl rfl rfl) ?_ | refine Pstep.go (st_loadRS rfl rfl (rfl) rfl rw33 rfl) ?_
    refine Estep.go (st_alloc 990 zl33 rfl (hk _) (hnewN (hz _)) rfl) ?_
    refine Estep.go (st_storeP rfl rfl rfl rfl rfl rfl rfl sz33) ?_
    refine o_nil ?_
    refine a_seq ?_
    refine a_region ?_
    refine Pstep.go (st_move rfl rfl) ?_
    first | refine Pstep.go (st_loadDS rfl rfl rw33 rfl) ?_ | refine Pstep.go (st_loadPS rfl rfl rw33 rfl rfl rfl) ?_ | refine Pstep.go (st_loadRS rfl rfl (rfl) rfl rw33 rfl) ?_
    refine o_keep [0, 5, 6, 7, 11, 12] rfl ?_
    refine o_only N (hF.trans (hN st0)) (subB_refl N) ((partN hm).trans (hP _)) ?_
    refine o_yieldW hfd.1 rfl rfl (by rw [hN, hN]) (by rw [hN]; exact hI _) rfl rfl ?_
    first | refine Pstep.go (st_notP rfl rfl) ?_ | refine Pstep.go (st_not rfl rfl) ?_
    refine o_nil ?_
    first | refine a_if rfl (fun h14 => ?_) (fun h14 => ?_) | refine a_cond rfl (fun h14 => ?_) (fun h14 => ?_)
    · have hgo : (step st its[k]).2 = false := by simpa using h14
      refine a_ret ?_
      exact ⟨_, N, _, res_of rfl, hP _, by rw [← hN st0]; exact namesIn_all _, rfl, by rw [← hfin, hA, feed_cons', if_neg (by rw [hgo]; decide)]⟩
    · have hgo : (step st its[k]).2 = true := by simpa using h14
      refine a_skip ?_
      refine a_region ?_
      refine Pstep.go (st_add rfl rfl (wrapS (k + 1) (by omega)) rfl) ?_
      refine Pstep.go (st_move rfl rfl) ?_
      refine o_nil ?_
      exact ⟨(k + 1, (step st its[k]).1), ⟨by show k + 1 ≤ _; omega, hfd.2 hgo, by rw [← hfin, hA, feed_cons', if_pos hgo]⟩, by show its.length - (k + 1) < its.length - k; omega, ⟨rfl, rfl, fun _ _ => Has.get (l := [(0, _), (5, _), (6, _), (7, _)]) ⟨rfl, rfl, rfl, rfl, trivial⟩⟩⟩
  · refine a_exit ?_
    exact ⟨_, N, _, res_of rfl, hP _, by rw [← hN st0]; exact namesIn_all _, rfl, by rw [← hfin, List.drop_of_length_le (by have h := h8; omega)]; rfl⟩
end
end Go.Proofs.Ytfmpiabmnjmobaa

/- Layer 28: the items in order. -/
namespace Go.Proofs.Ytfmpiabmnjmobaa
open Go.RowKit

/-- A variable of one's own that nobody writes any more. -/
theorem SR.freezeB {F : Fr} {s : AS} {ρ : Nat → Nat → Value} {act : Act} {w : World} (h : SR F s ρ act w) (t f : Nat) (x : D) {T : TypeId} {cs : List AV} {hp' : Hp} (nm : List Nat) {pn : List Nat} (hF : F.pn = pn) (ht : get s.env t = some (.ptr f 0 0)) (hone : hfam s.hp f = some [.blk T cs]) (hcs : cs = x.cells.map .d) (hx1 : ∀ c ∈ x.cells, c.one = true) (hf : memB f nm = false) (hsub : subB pn nm = true) (hpt : part? s.hp nm = some hp') : SR F ⟨s.n, (t, .d (.ptr x)) :: s.env, hp'⟩ ρ act w := by
  have h1 := h.only nm hF hsub hpt
  refine ⟨h1.size, h1.defs, fun t' a ha => ?_, h1.heap⟩
  rcases get_cons ha with ⟨rfl, rfl⟩ | ⟨_, ha⟩
  · have hr := h.env t _ ht
    have ho : hget s.hp f 0 = some (.blk T cs) := by simp [hget, hone]
    obtain ⟨b, us, e1, e2, e3, e4, e5⟩ := h.heap.sim f 0 _ ho
    show RepA _ _ _ _ (act.tmps.getD t undef)
    generalize act.tmps.getD t undef = v at hr
    cases hr with
    | @ptr _ _ _ b' hb =>
      rw [e1] at hb; injection hb with hb; injection hb with hb; injection hb with hb; subst hb
      have hO : ∀ b', F.O ρ hp' b' → F.O ρ s.hp b' := fun b' hb' => hb'.imp id fun ⟨f', i', o', q1, q2⟩ => by
        obtain ⟨m1, _⟩ := part?_mem hpt
        refine ⟨f', i', o', ?_, q2⟩
        simp only [hget] at q1 ⊢
        cases hh : hfam hp' f' with
        | none => rw [hh] at q1; cases q1
        | some l => rw [(m1 f' l hh).2]; rw [hh] at q1; exact q1
      have hnO : ¬ F.O ρ hp' b := fun hb' => by
        rcases hb' with hb' | ⟨f', i', o', q1, q2⟩
        · exact h.heap.notOf ⟨f, 0, _, ho, by rw [e1]; rfl⟩ hb'
        · obtain ⟨m1, _⟩ := part?_mem hpt
          simp only [hget] at q1
          cases hh : hfam hp' f' with
          | none => rw [hh] at q1; cases q1
          | some l =>
            have q3 : hget s.hp f' i' = some o' := by simp only [hget]; rw [(m1 f' l hh).2]; rw [hh] at q1; exact q1
            obtain ⟨e1', _⟩ := h.heap.inj f' i' f 0 _ _ b q3 ho q2 (by rw [e1]; rfl)
            have := memB_spec.2 (m1 f' l hh).1
            rw [e1', hf] at this; cases this
      have hlen : us.length = x.cells.length := by rw [e3, hcs, List.length_map]
      refine .d (.ptr (fun j => us.getD j undef) (h.heap.ltO (.inr ⟨f, 0, _, ho, by rw [e1]; rfl⟩)) hnO hx1 (fun j c hj => ?_) (fun j c hj => ?_))
      · have hj' : j < us.length := by rw [hlen]; exact (List.getElem?_eq_some_iff.1 hj).1
        rw [Nat.zero_add, cell_of_row w b j us.toArray T (0, 0) e2]
        simp [hj']
      · have hj' : j < us.length := by rw [hlen]; exact (List.getElem?_eq_some_iff.1 hj).1
        have hc := e4 j (.d c) us[j] (by rw [hcs, List.getElem?_map, hj]; rfl) (List.getElem?_eq_getElem hj')
        have hg : us.getD j undef = us[j] := by simp [hj']
        rw [hg]
        cases hc with
        | d hc => exact hc.mono (Nat.le_refl _) (fun _ _ _ => rfl) fun b' _ => hO b'
  · exact h1.env t' a ha
theorem o_freezeB {P : Program} {F : Fr} {Q : Exit → AS → Prop} {ops : Array Oper} {l' : List Oper} {sn : Nat} {env : List (Nat × AV)} {hp hp' : Hp} (t f : Nat) (x : D) {T : TypeId} {cs : List AV} (nm : List Nat) {pn : List Nat} (hF : F.pn = pn) (ht : get env t = some (.ptr f 0 0)) (hone : hfam hp f = some [.blk T cs]) (hcs : cs = x.cells.map .d) (hx1 : ∀ c ∈ x.cells, c.one = true) (hf : memB f nm = false) (hsub : subB pn nm = true) (hpt : part? hp nm = some hp')
    (h : Aops P F ops l' Q ⟨sn, (t, .d (.ptr x)) :: env, hp'⟩) : Aops P F ops l' Q ⟨sn, env, hp⟩ := fun ρ act w hs => h ρ act w (hs.freezeB t f x nm hF ht hone hcs hx1 hf hsub hpt)


theorem values_c (its : List Itm) : ACalls Try.prog 97 [.d (.sl none (its.map itmD))] [] fun r H' => r = .fn 115 [.d (.ptr (.sl none (its.map itmD)))] ∧ H' = [] := by
  refine a_enter Try.func97 rfl rfl Try.ntmps97 rfl rfl rfl fun F hF => ?_
  refine a_seq ?_
  refine a_region ?_
  refine Estep.go (st_box 1 rfl rfl rfl rfl rfl rfl rfl) ?_
  refine Pstep.go (st_assign rfl rfl) ?_
  refine o_nil ?_
  refine a_seq ?_
  refine a_region ?_
  refine o_freezeB 1 1 (.sl none (its.map itmD)) [] hF rfl rfl rfl (by intro c hc; simp [D.cells] at hc; subst hc; rfl) rfl rfl rfl ?_
  refine Pstep.go (st_makeFunc rfl rfl) ?_
  refine Pstep.go (st_assign rfl rfl) ?_
  refine o_nil ?_
  refine a_ret ?_
  exact ⟨_, [], [], res_of rfl, rfl, rfl, rfl, rfl⟩
abbrev hV (q : List Itm) : Hp := [(920, [.rowD 33 6 (q.map itmD)]), (1, [.blk 70 [.own 920 0 q.length]])]
def stepI (q : List Itm) (x : Itm) : List Itm × Bool := (q ++ [x], true)
theorem feed_app : ∀ (l q : List Itm), feed stepI q l = q ++ l
  | [], q => by simp [feed]
  | x :: l, q => by rw [feed_cons']; show (if true = true then feed stepI (q ++ [x]) l else _) = _; rw [if_pos rfl, feed_app l]; simp
theorem feeds_app {P : Program} {l : Nat} {H : List Itm → Hp} {n : Nat} (hY : ∀ q x, q.length < n → YCalls P l (encI x) (H q) fun v H' => v = .d (.raw (.bool true)) ∧ H' = H (q ++ [x])) : ∀ (xs q : List Itm), q.length + xs.length ≤ n → Feeds P l encI H stepI q xs
  | [], _, _ => trivial
  | x :: xs, q, h => ⟨hY q x (by simp at h; omega), fun _ => feeds_app hY xs (q ++ [x]) (by simp at h ⊢; omega)⟩
set_option maxRecDepth 100000 in
theorem appseq_c (its : List Itm) (hits : its.length ≤ 1000000) : ACalls Try.prog 121 [.d (.sl (some true) []), .fn 115 [.d (.ptr (.sl none (its.map itmD)))]] [] fun r H' => r = .own 920 0 its.length ∧ H' = [(920, [.rowD 33 6 (its.map itmD)])] := by
  refine a_enterR Try.func121 rfl rfl Try.ntmps121 rfl rfl rfl fun F hF hFl => ?_
  refine a_seq ?_
  refine a_region ?_
  refine Estep.go (st_box 1 rfl rfl rfl rfl rfl rfl rfl) ?_
  refine Pstep.go (st_assign rfl rfl) ?_
  refine o_nil ?_
  refine a_seq ?_
  refine a_seq ?_
  refine a_adoptC 1 0 0 920 sl70 rfl rfl rfl rfl rfl rfl rfl ?_
  refine a_region ?_
  refine Pstep.go (st_move rfl rfl) ?_
  refine o_nil ?_
  refine a_block ?_
  refine a_keep [2, 6] rfl ?_
  refine a_range (γ := Unit) hFl 900 rfl rfl rfl rfl rfl [1, 920] (CHr := hV []) (fun _ => True) (fun _ => hV its) (fun _ => .ready) (fun _ => none) ⟨rfl, rfl, trivial⟩ rfl rfl rfl (fun _ => rfl) (fun _ => rfl) rfl (fun _ _ => by simp) (fun _ _ => ⟨rfl, rfl⟩) [920, 1] hF rfl rfl (fun _ _ => rfl) (fun l A B hA hB => ?_) (fun _ _ => ?_)
  · refine (seqV_c its hits l (fun q : List Itm => (900, [.loop ⟨l, 13, [(2, .ptr 1 0 0), (6, .fn 115 [.d (.ptr (.sl none (its.map itmD)))])], .ready, none, #[7], A, B⟩]) :: hV q) [900, 920, 1] stepI [] (fun _ => rfl) (fun _ => rfl) (fun _ => rfl) (fun _ => rfl) (fun _ => rfl) rfl ?_).mono (fun r H' ⟨e1, e2⟩ => ⟨e1, (), trivial, by rw [e2, feed_app]; rfl⟩)
    refine feeds_app (n := its.length) (fun q x hq => ?_) its [] (by simp)
    refine yc_round (lf := 900) rfl rfl rfl rfl fun F hF hr => ?_
    show Awp _ _ A _ _
    rw [hA]
    refine a_region ?_
    refine Estep.go (st_alloc 2 zl33 rfl rfl rfl rfl) ?_
    refine Estep.go (st_storeP rfl rfl rfl rfl rfl rfl rfl sz33) ?_
    refine o_nil ?_
    refine ⟨rfl, _, _, rfl, rfl, rfl, rfl, ?_⟩
    show Awp _ _ B _ _
    rw [hB]
    refine a_block ?_
    refine a_region ?_
    first | refine Pstep.go (st_loadD1 rfl rfl on70 rfl) ?_ | refine Pstep.go (st_loadP rfl rfl rfl on70 rfl) ?_ | refine Pstep.go (st_loadR rfl rfl (rfl) rfl on70 rfl) ?_
    first | refine Pstep.go (st_loadDS rfl rfl rw33 rfl) ?_ | refine Pstep.go (st_loadPS rfl rfl rw33 rfl rfl rfl) ?_ | refine Pstep.go (st_loadRS rfl rfl (rfl) rfl rw33 rfl) ?_
    refine Estep.go (st_buildSlice 30 sl70 rfl rfl rfl rfl rfl rfl rfl rfl) ?_
    first | refine Estep.go (st_appM (q) ([x]) rfl rfl rfl rfl rfl rfl rfl rfl sl70 (by simp only [List.length_singleton]; omega) rfl rfl rfl rfl) ?_ | refine Estep.go (st_appMD (q) ([x]) rfl rfl rfl rfl rfl rfl (fun _ => rfl) sl70 (by simp only [List.length_singleton]; omega) rfl rfl rfl rfl) ?_
    refine Estep.go (st_storeP rfl rfl rfl rfl rfl rfl rfl sz70) ?_
    refine o_nil ?_
    exact ⟨none, _, _, [900, 920, 1], _, rfl, rfl, rfl, rfl, rfl, rfl, rfl, rfl⟩
  · refine a_seq ?_
    refine a_region ?_
    first | refine Pstep.go (st_loadD1 rfl rfl on70 rfl) ?_ | refine Pstep.go (st_loadP rfl rfl rfl on70 rfl) ?_ | refine Pstep.go (st_loadR rfl rfl (rfl) rfl on70 rfl) ?_
    refine Pstep.go (st_assign rfl rfl) ?_
    refine o_nil ?_
    refine a_ret ?_
    exact ⟨_, [920], _, res_of rfl, rfl, rfl, rfl, rfl⟩
end Go.Proofs.Ytfmpiabmnjmobaa

/- Layer 28: a problem's items in order. -/
namespace Go.Proofs.Ytfmpiabmnjmobaa
open Go.RowKit

theorem insO_perm (l : List Itm) (x : Itm) : (insO l x).Perm (x :: l) := by
  induction l with
  | nil => exact List.Perm.refl _
  | cons a l ih =>
    simp only [insO]; split
    · exact List.Perm.refl _
    · exact (List.Perm.cons a ih).trans (List.Perm.swap x a l)
theorem insO_sorted {l : List Itm} (h : l.Pairwise fun a b => ¬ ordI b a < 0) (x : Itm) : (insO l x).Pairwise fun a b => ¬ ordI b a < 0 := by
  induction l with
  | nil => simp [insO]
  | cons a l ih =>
    rw [List.pairwise_cons] at h
    simp only [insO]
    split
    · rename_i hall
      exact List.pairwise_cons.2 ⟨fun y hy => by have h1 := hall y hy; have h2 := ordI_pc.anti x y; omega, List.pairwise_cons.2 h⟩
    · rename_i hn
      refine List.pairwise_cons.2 ⟨fun y hy => ?_, ih h.2⟩
      rcases List.mem_cons.1 ((insO_perm l x).mem_iff.1 hy) with rfl | hy
      · intro hlt
        refine hn fun z hz => ?_
        rcases List.mem_cons.1 hz with rfl | hz
        · exact hlt
        · have h1 := h.1 z hz
          have h2 := ordI_pc.anti a z
          by_cases e : ordI a z = 0
          · have h3 := ordI_pc.eqv a z y e
            have h4 := ordI_pc.anti a y; have h5 := ordI_pc.anti z y; omega
          · exact ordI_pc.trans _ _ _ hlt (by omega)
      · exact h.1 y hy
theorem sortO_perm (l : List Itm) : (sortO l).Perm l := by
  induction l using snoc_ind with
  | h0 => exact List.Perm.refl _
  | h1 l x ih =>
    rw [sortO_snoc]
    exact (insO_perm _ x).trans ((List.Perm.cons x ih).trans (List.perm_append_comm (l₁ := [x]) (l₂ := l)))
theorem sortO_sorted (l : List Itm) : (sortO l).Pairwise fun a b => ¬ ordI b a < 0 := by
  induction l using snoc_ind with
  | h0 => exact List.Pairwise.nil
  | h1 l x ih => rw [sortO_snoc]; exact insO_sorted ih x
theorem ordI_zero {a b : Itm} (h : ordI a b = 0) : a.sq = b.sq := by
  unfold ordI at h
  simp only [fst0] at h
  split at h
  · split at h
    · rename_i h2; exact cmpI_zero.1 h2
    · contradiction
  · contradiction
theorem strict_of {l : List Itm} (hn : (l.map Itm.sq).Nodup) (h : l.Pairwise fun a b => ¬ ordI b a < 0) : l.Pairwise fun a b => ordI a b < 0 := by
  rw [List.Nodup, List.pairwise_map] at hn
  refine (h.and hn).imp fun {a b} ⟨g1, g2⟩ => ?_
  have h1 := ordI_pc.anti a b
  have h2 : ordI a b ≠ 0 := fun e => g2 (ordI_zero e)
  omega
theorem ord_one {its ys : List Itm} (hn : (its.map Itm.sq).Nodup) (h1 : ys.Perm its) (h2 : ys.Pairwise fun a b => ¬ ordI b a < 0) : ys = sortO its :=
  strict_one (R := fun a b => ordI a b < 0) (fun x => by rw [ordI_pc.refl]; omega) (fun x y z => ordI_pc.trans x y z) (strict_of ((h1.map _).nodup_iff.2 hn) h2) (strict_of (((sortO_perm its).map _).nodup_iff.2 hn) (sortO_sorted its)) fun x => by rw [h1.mem_iff, (sortO_perm its).mem_iff]
theorem itmD_agg (x : Itm) : ∃ cs, itmD x = .agg cs := ⟨_, rfl⟩
abbrev seqA (its : List Itm) : AV := .fn 115 [.d (.ptr (.sl none (its.map itmD)))]
set_option maxRecDepth 100000 in
theorem collect_c (its : List Itm) (hits : its.length ≤ 1000000) : ACalls Try.prog 113 [seqA its] [] fun r H' => r = .own 920 0 its.length ∧ H' = [(920, [.rowD 33 6 (its.map itmD)])] := by
  refine a_enter Try.func113 rfl rfl Try.ntmps113 rfl rfl rfl fun F hF => ?_
  refine a_seq ?_
  refine a_region ?_
  refine Pstep.go (st_assign rfl rfl) ?_
  refine o_nil ?_
  refine a_seq ?_
  refine a_region ?_
  refine Pstep.go (st_move rfl rfl) ?_
  refine Estep.go (st_callD (appseq_c its hits) rfl [920] ⟨rfl, trivial⟩ rfl rfl rfl rfl rfl rfl rfl rfl rfl) ?_
  refine Pstep.go (st_assign rfl rfl) ?_
  refine o_nil ?_
  refine a_ret ?_
  exact ⟨_, [920], _, res_of rfl, rfl, rfl, rfl, rfl⟩
set_option maxRecDepth 100000 in
theorem sortedF_p (its : List Itm) (hits : its.length ≤ 1000000) (hn : (its.map Itm.sq).Nodup) : PCalls Try.prog 96 [seqA its, .d (.raw (.func (.func 68) #[] #[]))] (.sl none ((sortO its).map itmD)) := by
  refine a_enter Try.func96 rfl rfl Try.ntmps96 rfl rfl rfl fun F hF => ?_
  refine a_seq ?_
  refine a_region ?_
  refine Pstep.go (st_assign rfl rfl) ?_
  refine o_nil ?_
  refine a_seq ?_
  refine a_region ?_
  refine Pstep.go (st_move rfl rfl) ?_
  refine Estep.go (st_callD (collect_c its hits) rfl [920] ⟨rfl, trivial⟩ rfl rfl rfl rfl rfl rfl rfl rfl rfl) ?_
  refine Pstep.go (st_assign rfl rfl) ?_
  refine o_nil ?_
  refine a_seq ?_
  refine a_region ?_
  refine Pstep.go (st_move rfl rfl) ?_
  refine Pstep.go (st_move rfl rfl) ?_
  refine Estep.go (st_sort laysI (k := 6) (by decide) Try.isAgg33 Try.sizeOf33 Try.func68 rfl rfl itmD_agg ordI ordI_pc.swo its (sortO its) (by omega) (fun x _ y _ => order_p x y) (fun ys g1 g2 => ord_one hn g1 g2) rfl rfl rfl fa_raw rfl rfl rfl rfl rfl) ?_
  refine o_nil ?_
  refine a_seq ?_
  refine a_freezeM (emb := itmD) 5 920 (sortO its) rfl rfl rfl (sortO_len its).symm rfl rfl rfl ?_
  refine a_region ?_
  refine Pstep.go (st_move rfl rfl) ?_
  refine Pstep.go (st_assign rfl rfl) ?_
  refine o_nil ?_
  refine a_ret ?_
  exact ⟨_, [], [], res_of rfl, rfl, rfl, rfl, rfl⟩
theorem items_nodup {l : List Itm} (h : itemsE l = 0) : (l.map Itm.sq).Nodup := by
  have h0 := fst0_zero.1 h
  rw [List.Nodup, List.pairwise_map, List.pairwise_iff_getElem]
  intro i j hi hj hij e
  have := h0 j (List.mem_range.2 hj)
  unfold iErr at this
  rw [getD_at itm0 hj] at this
  split at this
  · contradiction
  · split at this
    · cases this
    · rename_i hn
      exact hn (.inr (mem_tk hj hij e))
theorem prb_ok {p : Prb} (h : prbE p = 0) : roomsE p.ro = 0 ∧ itemsE p.it = 0 ∧ afterE p.it = 0 := by
  unfold prbE at h
  split at h; · cases h
  have h3 := fst0_all h
  exact ⟨h3 _ (by simp), h3 _ (by simp), h3 _ (by simp)⟩
def ordP (p : Prb) : List Itm := if prbE p = 0 then sortO p.it else []
set_option maxRecDepth 100000 in
theorem psorted_p (p : Prb) (hb : PrbB p) : PCalls Try.prog 74 [.d (prbD p)] (.sl none ((ordP p).map itmD)) := by
  have hck := pcheck_p p hb
  obtain ⟨_, g2, _⟩ := hb
  by_cases hE : prbE p = 0
  · rw [hE] at hck
    have hR : ordP p = sortO p.it := if_pos hE
    rw [hR]
    refine a_enter Try.func74 rfl rfl Try.ntmps74 rfl rfl rfl fun F hF => ?_
    refine a_seq ?_
    refine a_region ?_
    refine Estep.go (st_box 1 rfl rfl rfl rfl rfl rfl rfl) ?_
    refine Pstep.go (st_assign rfl rfl) ?_
    refine o_nil ?_
    refine a_seq ?_
    refine a_seq ?_
    refine a_region ?_
    first | refine Pstep.go (st_loadDS rfl rfl rw72 rfl) ?_ | refine Pstep.go (st_loadPS rfl rfl rw72 rfl rfl rfl) ?_ | refine Pstep.go (st_loadRS rfl rfl (rfl) rfl rw72 rfl) ?_
    refine Pstep.go (st_callP (hck) rfl rfl) ?_
    first | refine Pstep.go (st_neq rfl rfl rfl) ?_ | refine Pstep.go (st_neqSL rfl rfl rfl) ?_ | refine Pstep.go (st_neqS rfl rfl rfl) ?_ | refine Pstep.go (st_neqB Try.underlying29 rfl rfl rfl) ?_ | refine Pstep.go (st_neqP Try.underlying29 rfl rfl rfl) ?_ | refine Pstep.go (st_neqN Try.underlying29 rfl rfl) ?_ | refine Pstep.go (st_neqF Try.underlying29 rfl rfl rfl) ?_ | refine Pstep.go (st_neqFN Try.underlying29 rfl rfl) ?_
    refine o_nil ?_
    refine a_false rfl ((by decide)) ?_
    refine a_skip ?_
    refine a_seq ?_
    refine a_region ?_
    first | refine Pstep.go (st_fieldP rfl fi72_1 rfl rfl rfl) ?_ | refine Pstep.go (st_fieldF1 rfl fi72_1 rfl rfl rfl) ?_ | refine Pstep.go (st_fieldFS rfl fi72_1 rfl rfl rfl) ?_ | refine Pstep.go (st_fieldR rfl fi72_1 rfl rfl rfl) ?_
    first | refine Pstep.go (st_loadD1 rfl rfl on70 rfl) ?_ | refine Pstep.go (st_loadP rfl rfl rfl on70 rfl) ?_ | refine Pstep.go (st_loadR rfl rfl (rfl) rfl on70 rfl) ?_
    refine Estep.go (st_callD (values_c p.it) rfl [] trivial rfl rfl rfl rfl rfl rfl rfl rfl rfl) ?_
    refine Pstep.go (st_callP (sortedF_p p.it (by omega) (items_nodup (prb_ok hE).2.1)) rfl rfl) ?_
    refine Pstep.go (st_assign rfl rfl) ?_
    refine o_nil ?_
    refine a_ret ?_
    exact ⟨_, [], [], res_of rfl, rfl, rfl, rfl, rfl⟩
  · have hR : ordP p = [] := if_neg hE
    rw [hR]
    refine a_enter Try.func74 rfl rfl Try.ntmps74 rfl rfl rfl fun F hF => ?_
    refine a_seq ?_
    refine a_region ?_
    refine Estep.go (st_box 1 rfl rfl rfl rfl rfl rfl rfl) ?_
    refine Pstep.go (st_assign rfl rfl) ?_
    refine o_anyNil 2 rfl ?_
    refine o_nil ?_
    refine a_seq ?_
    refine a_seq ?_
    refine a_region ?_
    first | refine Pstep.go (st_loadDS rfl rfl rw72 rfl) ?_ | refine Pstep.go (st_loadPS rfl rfl rw72 rfl rfl rfl) ?_ | refine Pstep.go (st_loadRS rfl rfl (rfl) rfl rw72 rfl) ?_
    refine Pstep.go (st_callP (hck) rfl rfl) ?_
    first | refine Pstep.go (st_neq rfl rfl rfl) ?_ | refine Pstep.go (st_neqSL rfl rfl rfl) ?_ | refine Pstep.go (st_neqS rfl rfl rfl) ?_ | refine Pstep.go (st_neqB Try.underlying29 rfl rfl rfl) ?_ | refine Pstep.go (st_neqP Try.underlying29 rfl rfl rfl) ?_ | refine Pstep.go (st_neqN Try.underlying29 rfl rfl) ?_ | refine Pstep.go (st_neqF Try.underlying29 rfl rfl rfl) ?_ | refine Pstep.go (st_neqFN Try.underlying29 rfl rfl) ?_
    refine o_nil ?_
    refine a_true rfl ((by simpa using hE)) ?_
    refine a_seq ?_
    refine a_region ?_
    refine Pstep.go (st_assign rfl rfl) ?_
    refine o_anyNil 2 rfl ?_
    refine o_nil ?_
    refine a_ret ?_
    exact ⟨_, [], [], res_of rfl, rfl, rfl, rfl, rfl⟩
end Go.Proofs.Ytfmpiabmnjmobaa
