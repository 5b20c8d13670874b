/- record.All: what it feeds to a loop. -/
import Derived.Test.YtnflcmpdaoobcaaRecO
import Derived.Test.YtnflcmpdaoobcaaRng
import Derived.Test.YtnflcmpdaoobcaaTy
import Derived.Test.YtnflcmpdaoobcaaLaw
namespace Go.Proofs.Ytnflcmpdaoobcaa
open Go.RowKit

theorem wrapS (n : Nat) (h : n ≤ 9223372036854775807) : IntKind.i64.wrap (n : Int) = (n : Int) := IntWalk.i64_in _ (by omega)
/-- A variable of one's own that nobody writes any more. -/
theorem SR.freezeB {F : Fr} {s : AS} {ρ : Nat → Nat → Value} {act : Act} {w : World} (h : SR F s ρ act w) (t f : Nat) (x : D) {T : TypeId} {cs : List AV} {hp' : Hp} (nm : List Nat) {pn : List Nat} (hF : F.pn = pn) (ht : get s.env t = some (.ptr f 0 0)) (hone : hfam s.hp f = some [.blk T cs]) (hcs : cs = x.cells.map .d) (hx1 : ∀ c ∈ x.cells, c.one = true) (hf : memB f nm = false) (hsub : subB pn nm = true) (hpt : part? s.hp nm = some hp') : SR F ⟨s.n, (t, .d (.ptr x)) :: s.env, hp'⟩ ρ act w := by
  have h1 := h.only nm hF hsub hpt
  refine ⟨h1.size, h1.defs, fun t' a ha => ?_, h1.heap⟩
  rcases get_cons ha with ⟨rfl, rfl⟩ | ⟨_, ha⟩
  · have hr := h.env t _ ht
    have ho : hget s.hp f 0 = some (.blk T cs) := by simp [hget, hone]
    obtain ⟨b, us, e1, e2, e3, e4, e5⟩ := h.heap.sim f 0 _ ho
    show RepA _ _ _ _ (act.tmps.getD t undef)
    generalize act.tmps.getD t undef = v at hr
    cases hr with
    | @ptr _ _ _ b' hb =>
      rw [e1] at hb; injection hb with hb; injection hb with hb; injection hb with hb; subst hb
      have hO : ∀ b', F.O ρ hp' b' → F.O ρ s.hp b' := fun b' hb' => hb'.imp id fun ⟨f', i', o', q1, q2⟩ => by
        obtain ⟨m1, _⟩ := part?_mem hpt
        refine ⟨f', i', o', ?_, q2⟩
        simp only [hget] at q1 ⊢
        cases hh : hfam hp' f' with
        | none => rw [hh] at q1; cases q1
        | some l => rw [(m1 f' l hh).2]; rw [hh] at q1; exact q1
      have hnO : ¬ F.O ρ hp' b := fun hb' => by
        rcases hb' with hb' | ⟨f', i', o', q1, q2⟩
        · exact h.heap.notOf ⟨f, 0, _, ho, by rw [e1]; rfl⟩ hb'
        · obtain ⟨m1, _⟩ := part?_mem hpt
          simp only [hget] at q1
          cases hh : hfam hp' f' with
          | none => rw [hh] at q1; cases q1
          | some l =>
            have q3 : hget s.hp f' i' = some o' := by simp only [hget]; rw [(m1 f' l hh).2]; rw [hh] at q1; exact q1
            obtain ⟨e1', _⟩ := h.heap.inj f' i' f 0 _ _ b q3 ho q2 (by rw [e1]; rfl)
            have := memB_spec.2 (m1 f' l hh).1
            rw [e1', hf] at this; cases this
      have hlen : us.length = x.cells.length := by rw [e3, hcs, List.length_map]
      refine .d (.ptr (fun j => us.getD j undef) (h.heap.ltO (.inr ⟨f, 0, _, ho, by rw [e1]; rfl⟩)) hnO hx1 (fun j c hj => ?_) (fun j c hj => ?_))
      · have hj' : j < us.length := by rw [hlen]; exact (List.getElem?_eq_some_iff.1 hj).1
        rw [Nat.zero_add, cell_of_row w b j us.toArray T (0, 0) e2]
        simp [hj']
      · have hj' : j < us.length := by rw [hlen]; exact (List.getElem?_eq_some_iff.1 hj).1
        have hc := e4 j (.d c) us[j] (by rw [hcs, List.getElem?_map, hj]; rfl) (List.getElem?_eq_getElem hj')
        have hg : us.getD j undef = us[j] := by simp [hj']
        rw [hg]
        cases hc with
        | d hc => exact hc.mono (Nat.le_refl _) (fun _ _ _ => rfl) fun b' _ => hO b'
  · exact h1.env t' a ha
theorem o_freezeB {P : Program} {F : Fr} {Q : Exit → AS → Prop} {ops : Array Oper} {l' : List Oper} {sn : Nat} {env : List (Nat × AV)} {hp hp' : Hp} (t f : Nat) (x : D) {T : TypeId} {cs : List AV} (nm : List Nat) {pn : List Nat} (hF : F.pn = pn) (ht : get env t = some (.ptr f 0 0)) (hone : hfam hp f = some [.blk T cs]) (hcs : cs = x.cells.map .d) (hx1 : ∀ c ∈ x.cells, c.one = true) (hf : memB f nm = false) (hsub : subB pn nm = true) (hpt : part? hp nm = some hp')
    (h : Aops P F ops l' Q ⟨sn, (t, .d (.ptr x)) :: env, hp'⟩) : Aops P F ops l' Q ⟨sn, env, hp⟩ := fun ρ act w hs => h ρ act w (hs.freezeB t f x nm hF ht hone hcs hx1 hf hsub hpt)

/-- An answer of one's own among others, seen frozen. -/
theorem next_p (l : List UInt8) (hn : l.length ≤ 140737488355328) (p : List UInt8) (x y : Nat) (hx : nextL l = (p, x, y)) : PCalls Try.prog 22 [.d (bytesD l)] (.tup [bytesD p, .raw (.int .i64 (x : Int)), .raw (.int .i64 (y : Int))]) := by
  have h := next_o l hn p x y hx 0
  refine ⟨h.1, fun F ρ vs h1 h2 h2' h3 h4 h5 => (h.2 F ρ vs h1 h2 h2' h3 h4 h5).mono fun e w' ⟨v, r, H', ρ', e1, ⟨e2, e3⟩, hrep, hh⟩ => ?_⟩
  subst e2 e3
  cases hrep with
  | @tup _ us hl hu =>
    match us, hl with
    | [v0, v1, v2], _ =>
    have hsr : SR F ⟨1, [(0, .own 0 0 p.length)], [(0, [.rowD 5 1 (p.map byteD)])]⟩ ρ' { tmps := #[v0], defers := [] } w' := by
      refine ⟨rfl, .nil, fun t a ha => ?_, hh⟩
      rcases get_cons ha with ⟨rfl, rfl⟩ | ⟨_, ha⟩
      · exact hu 0 _ v0 rfl rfl
      · cases ha
    have hfr := hsr.freeze (E := 5) (kk := 1) (xs := p.map byteD) (ys := p.map byteD) (env' := [(0, .top)]) (hp1 := [(0, [.rowD 5 1 (p.map byteD)])]) (hp' := []) 0 0 rfl (by simp [hget, hfam]) (by simp) (by rw [List.take_of_length_le (by simp)]) rfl rfl rfl rfl
    refine ⟨_, _, [], ρ', e1, ⟨rfl, rfl⟩, tupD (l := [bytesD p, .raw (.int .i64 (x : Int)), .raw (.int .i64 (y : Int))]) rfl fun i a v ha hv => ?_, hfr.heap⟩
    have k1 := hu 1 _ v1 rfl rfl
    have k2 := hu 2 _ v2 rfl rfl
    rcases i with _ | _ | _ | i
    · simp at ha hv; subst ha hv; exact hfr.env 0 _ rfl
    · simp at ha hv; subst ha hv; cases k1 with | d k1 => cases k1 with | raw _ => exact .d (.raw rfl)
    · simp at ha hv; subst ha hv; cases k2 with | d k2 => cases k2 with | raw _ => exact .d (.raw rfl)
    · simp at ha

/-- The records from i on: where each begins, and its payload. -/
def allL (b : List UInt8) : Nat → Nat → List (Nat × List UInt8)
  | 0, _ => []
  | f + 1, i => if i < b.length then (if (nextL (b.drop i)).2.2 = 0 then (i, (nextL (b.drop i)).1) :: allL b f (i + (nextL (b.drop i)).2.1) else []) else []
def encAP (x : Nat × List UInt8) : List AV := [.d (.raw (.int .i64 (x.1 : Int))), .d (bytesD x.2)]

theorem all_c (b : List UInt8) : ACalls Try.prog 27 [.d (bytesD b)] [] fun r H' => r = .fn 35 [.d (.ptr (bytesD b))] ∧ H' = [] := by
  refine a_enter Try.func27 rfl rfl Try.ntmps27 rfl rfl rfl fun F hF => ?_
  refine a_seq ?_
  refine a_region ?_
  refine Estep.go (st_box 1 rfl rfl rfl rfl rfl rfl rfl) ?_
  refine Pstep.go (st_assign rfl rfl) ?_
  refine o_nil ?_
  refine a_seq ?_
  refine a_region ?_
  refine o_freezeB 1 1 (bytesD b) [] hF rfl rfl rfl (by intro c hc; simp [D.cells] at hc; subst hc; rfl) rfl rfl rfl ?_
  refine Pstep.go (st_makeFunc rfl rfl) ?_
  refine Pstep.go (st_assign rfl rfl) ?_
  refine o_nil ?_
  refine a_ret ?_
  exact ⟨_, [], [], res_of rfl, rfl, rfl, rfl, rfl⟩

section
variable {α β : Type} {P : Program}
theorem allL_next {b p : List UInt8} {f i x y : Nat} (hx : nextL (b.drop i) = (p, x, y)) (h : i < b.length) (hz : (y : Int) = 0) : allL b (f + 1) i = (i, p) :: allL b f (i + x) := by
  have hz' : y = 0 := by omega
  simp only [allL, if_pos h, hx, if_pos hz']
theorem allL_err {b p : List UInt8} {f i x y : Nat} (hx : nextL (b.drop i) = (p, x, y)) (hz : (y : Int) ≠ 0) : allL b f i = [] := by
  have hz' : ¬ y = 0 := by omega
  cases f with
  | zero => rfl
  | succ f => simp only [allL, hx, if_neg hz', ite_self]
theorem next_size3 {b p : List UInt8} {i x y : Nat} (hx : nextL (b.drop i) = (p, x, y)) (hz : (y : Int) = 0) : 8 ≤ x ∧ x ≤ b.length - i := by
  have h := next_size (b.drop i) (by rw [hx]; show y = 0; omega)
  rw [hx, List.length_drop] at h
  exact ⟨h.1, h.2.1⟩
theorem allL_end {b : List UInt8} {f i : Nat} (h : ¬ i < b.length) : allL b f i = [] := by
  cases f with
  | zero => rfl
  | succ f => simp only [allL, if_neg h]
theorem feed_cons {step : β → α → β × Bool} {b : β} {x : α} {r : List α} : feed step b (x :: r) = if (step b x).2 = true then feed step (step b x).1 r else (step b x).1 := by
  simp only [feed]
  generalize step b x = y
  obtain ⟨y1, y2⟩ := y
  cases y2 <;> rfl
theorem seq1_c (b : List UInt8) (hb : b.length ≤ 140737488355328) (l : Nat) (H : β → Hp) (N : List Nat) (step : β → Nat × List UInt8 → β × Bool) (st0 : β) (hN : ∀ st, hpN (H st) = N) (hI : ∀ st, hpIn N (H st) = true) (hP : ∀ st, part? (H st) N = some (H st))
    (hfe : Feeds Try.prog l encAP H step st0 (allL b (b.length + 1) 0)) :
    ACalls Try.prog 35 [.d (.raw (yieldV l)), .d (.ptr (bytesD b))] (H st0) fun r H' => r = .tup [] ∧ H' = H (feed step st0 (allL b (b.length + 1) 0)) := by
  refine a_enter Try.func35 rfl rfl Try.ntmps35 rfl rfl rfl fun F hF => ?_
  refine a_scope ?_
  refine a_seq ?_
  refine a_region ?_
  refine Pstep.go (st_assign rfl rfl) ?_
  refine o_nil ?_
  refine a_seq ?_
  refine a_label ?_
  refine a_block ?_
  refine a_loop (α := Nat × Nat × β) (fun p => ⟨31, [(0, .d (.raw (yieldV l))), (1, .d (.ptr (bytesD b))), (3, (.d (.raw (.int .i64 (p.2.1 : Int)))))], H p.2.2⟩) (fun p => p.2.1 ≤ b.length ∧ b.length < p.2.1 + p.1 ∧ Feeds Try.prog l encAP H step p.2.2 (allL b p.1 p.2.1) ∧ feed step p.2.2 (allL b p.1 p.2.1) = feed step st0 (allL b (b.length + 1) 0)) (fun p => p.1) ((b.length + 1, 0, st0)) (⟨Nat.zero_le _, by show _ < 0 + (_ + 1); omega, hfe, rfl⟩) (le_of_has ⟨rfl, rfl, rfl, trivial⟩) ?_
  rintro ⟨f, i, st⟩ ⟨hi, hf, hfd, hfin⟩
  dsimp only at hi hf hfd hfin ⊢
  refine a_seq ?_
  refine a_seq ?_
  refine a_region ?_
  refine Pstep.go (st_move rfl rfl) ?_
  first | refine Pstep.go (st_loadD1 rfl rfl on22 rfl) ?_ | refine Pstep.go (st_loadP rfl rfl rfl on22 rfl) ?_ | refine Pstep.go (st_loadR rfl rfl (rfl) rfl on22 rfl) ?_
  first | refine Pstep.go (st_lenMap rfl Try.underlying22 rfl) ?_ | refine Pstep.go (st_lenD rfl rfl Try.underlying22 rfl) ?_ | refine Pstep.go (st_lenO rfl Try.underlying22 rfl) ?_ | refine Pstep.go (st_lenSL rfl Try.underlying22 rfl) ?_ | refine Pstep.go (st_lenS rfl Try.underlying22 rfl) ?_
  first | refine Pstep.go (st_lss rfl rfl rfl) ?_ | refine Pstep.go (st_lssS rfl rfl rfl) ?_
  refine o_nil ?_
  first | refine a_if rfl (fun h10 => ?_) (fun h10 => ?_) | refine a_cond rfl (fun h10 => ?_) (fun h10 => ?_)
  · have hlt : i < b.length := by omega
    refine a_skip ?_
    refine a_block ?_
    refine a_seq ?_
    refine a_region ?_
    first | refine Pstep.go (st_loadD1 rfl rfl on22 rfl) ?_ | refine Pstep.go (st_loadP rfl rfl rfl on22 rfl) ?_ | refine Pstep.go (st_loadR rfl rfl (rfl) rfl on22 rfl) ?_
    refine Pstep.go (st_move rfl rfl) ?_
    refine Pstep.go (st_sliceLoM (b) (i) rfl rfl rfl (rfl) (by omega) Try.underlying22 sz5 (fun _ => rfl) rfl) ?_
    have hxy0 : ∃ p x y, nextL (b.drop i) = (p, x, y) := ⟨_, _, _, rfl⟩
    obtain ⟨p, x, y, hxy⟩ := hxy0
    refine Pstep.go (st_callP (next_p (b.drop i) (by simp; omega) p x y hxy) rfl rfl) ?_
    refine Pstep.go (st_move rfl rfl) ?_
    first | refine Pstep.go (st_extractD rfl rfl rfl) ?_ | refine Pstep.go (st_extract rfl rfl rfl) ?_
    first | refine Pstep.go (st_extractD rfl rfl rfl) ?_ | refine Pstep.go (st_extract rfl rfl rfl) ?_
    first | refine Pstep.go (st_extractD rfl rfl rfl) ?_ | refine Pstep.go (st_extract rfl rfl rfl) ?_
    refine Pstep.go (st_assign rfl rfl) ?_
    refine Pstep.go (st_assign rfl rfl) ?_
    refine Pstep.go (st_assign rfl rfl) ?_
    refine o_nil ?_
    refine a_seq ?_
    refine a_seq ?_
    refine a_region ?_
    refine Pstep.go (st_move rfl rfl) ?_
    first | refine Pstep.go (st_neq rfl rfl rfl) ?_ | refine Pstep.go (st_neqSL rfl rfl rfl) ?_ | refine Pstep.go (st_neqS rfl rfl rfl) ?_ | refine Pstep.go (st_neqB Try.underlying31 rfl rfl rfl) ?_ | refine Pstep.go (st_neqP Try.underlying31 rfl rfl rfl) ?_ | refine Pstep.go (st_neqN Try.underlying31 rfl rfl) ?_ | refine Pstep.go (st_neqF Try.underlying31 rfl rfl rfl) ?_ | refine Pstep.go (st_neqFN Try.underlying31 rfl rfl) ?_
    refine Pstep.go (st_move rfl rfl) ?_
    skip
    first | refine o_splitP 21 rfl (fun h21 => ?_) (fun h21 => ?_) | refine o_splitB 21 rfl (fun h21 => ?_) (fun h21 => ?_)
    · skip
      refine o_pass rfl rfl rfl rfl ?_
      refine o_pass rfl rfl rfl rfl ?_
      refine o_pass rfl rfl rfl rfl ?_
      refine o_pass rfl rfl rfl rfl ?_
      refine o_pass rfl rfl rfl rfl ?_
      refine Pstep.go (st_pickT rfl rfl rfl rfl) ?_
      refine o_nil ?_
      refine a_true rfl rfl ?_
      refine a_exit ?_
      exact ⟨_, N, _, res_of rfl, hP _, by rw [← hN st0]; exact namesIn_all _, rfl, by rw [← hfin, allL_err hxy h21]; rfl⟩
    · have hf1 : f = (f - 1) + 1 := by omega
      have hz0 : (y : Int) = 0 := Classical.byContradiction fun h => h21 h
      have hA : allL b f i = (i, p) :: allL b (f - 1) (i + x) := by have h := allL_next (f := f - 1) hxy hlt hz0; rwa [← hf1] at h
      have hfd' := hfd
      rw [hA] at hfd'
      refine o_run rfl rfl rfl ?_
      refine Pstep.go (st_move rfl rfl) ?_
      refine o_run rfl rfl rfl ?_
      refine Pstep.go (st_move rfl rfl) ?_
      refine o_run rfl rfl rfl ?_
      refine Pstep.go (st_move rfl rfl) ?_
      refine o_run rfl rfl rfl ?_
      refine o_yieldW hfd'.1 rfl rfl (by rw [hN, hN]) (by rw [hN]; exact hI _) rfl rfl ?_
      refine o_run rfl rfl rfl ?_
      first | refine Pstep.go (st_notP rfl rfl) ?_ | refine Pstep.go (st_not rfl rfl) ?_
      refine Pstep.go (st_pickF rfl rfl rfl rfl) ?_
      refine o_nil ?_
      first | refine a_if rfl (fun h27 => ?_) (fun h27 => ?_) | refine a_cond rfl (fun h27 => ?_) (fun h27 => ?_)
      · have hgo : (step st (i, p)).2 = false := by simpa using h27
        refine a_exit ?_
        exact ⟨_, N, _, res_of rfl, hP _, by rw [← hN st0]; exact namesIn_all _, rfl, by rw [← hfin, hA, feed_cons, if_neg (by rw [hgo]; decide)]⟩
      · have hgo : (step st (i, p)).2 = true := by simpa using h27
        refine a_skip ?_
        refine a_region ?_
        refine Pstep.go (st_move rfl rfl) ?_
        refine Pstep.go (st_move rfl rfl) ?_
        refine Pstep.go (st_add rfl rfl (wrapS _ (by have h := next_size3 hxy hz0; omega)) rfl) ?_
        refine Pstep.go (st_assign rfl rfl) ?_
        refine o_nil ?_
        exact ⟨(f - 1, i + x, (step st (i, p)).1), ⟨by have h := next_size3 hxy hz0; show i + x ≤ b.length; omega, by have h := next_size3 hxy hz0; show b.length < i + x + (f - 1); omega, hfd'.2 hgo, by rw [← hfin, hA, feed_cons, if_pos hgo]⟩, by show f - 1 < f; omega, ⟨rfl, rfl, fun _ _ => Has.get (l := [(0, _), (1, _), (3, _)]) ⟨rfl, rfl, rfl, trivial⟩⟩⟩
  · refine a_exit ?_
    exact ⟨_, N, _, res_of rfl, hP _, by rw [← hN st0]; exact namesIn_all _, rfl, by rw [← hfin, allL_end (by omega)]; rfl⟩
end
end Go.Proofs.Ytnflcmpdaoobcaa
