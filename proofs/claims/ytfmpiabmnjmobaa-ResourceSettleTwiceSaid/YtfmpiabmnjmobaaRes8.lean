/- Layer 28: what slices.Values feeds to a loop. -/
import Derived.Test.YtfmpiabmnjmobaaRes7
namespace Go.Proofs.Ytfmpiabmnjmobaa
open Go.RowKit

section
variable {β : Type}
end
end Go.Proofs.Ytfmpiabmnjmobaa

/- Layer 28: the items in order. -/
namespace Go.Proofs.Ytfmpiabmnjmobaa
open Go.RowKit

/-- A variable of one's own that nobody writes any more. -/
theorem SR.freezeB {F : Fr} {s : AS} {ρ : Nat → Nat → Value} {act : Act} {w : World} (h : SR F s ρ act w) (t f : Nat) (x : D) {T : TypeId} {cs : List AV} {hp' : Hp} (nm : List Nat) {pn : List Nat} (hF : F.pn = pn) (ht : get s.env t = some (.ptr f 0 0)) (hone : hfam s.hp f = some [.blk T cs]) (hcs : cs = x.cells.map .d) (hx1 : ∀ c ∈ x.cells, c.one = true) (hf : memB f nm = false) (hsub : subB pn nm = true) (hpt : part? s.hp nm = some hp') : SR F ⟨s.n, (t, .d (.ptr x)) :: s.env, hp'⟩ ρ act w := by
  have h1 := h.only nm hF hsub hpt
  refine ⟨h1.size, h1.defs, fun t' a ha => ?_, h1.heap⟩
  rcases get_cons ha with ⟨rfl, rfl⟩ | ⟨_, ha⟩
  · have hr := h.env t _ ht
    have ho : hget s.hp f 0 = some (.blk T cs) := by simp [hget, hone]
    obtain ⟨b, us, e1, e2, e3, e4, e5⟩ := h.heap.sim f 0 _ ho
    show RepA _ _ _ _ (act.tmps.getD t undef)
    generalize act.tmps.getD t undef = v at hr
    cases hr with
    | @ptr _ _ _ b' hb =>
      rw [e1] at hb; injection hb with hb; injection hb with hb; injection hb with hb; subst hb
      have hO : ∀ b', F.O ρ hp' b' → F.O ρ s.hp b' := fun b' hb' => hb'.imp id fun ⟨f', i', o', q1, q2⟩ => by
        obtain ⟨m1, _⟩ := part?_mem hpt
        refine ⟨f', i', o', ?_, q2⟩
        simp only [hget] at q1 ⊢
        cases hh : hfam hp' f' with
        | none => rw [hh] at q1; cases q1
        | some l => rw [(m1 f' l hh).2]; rw [hh] at q1; exact q1
      have hnO : ¬ F.O ρ hp' b := fun hb' => by
        rcases hb' with hb' | ⟨f', i', o', q1, q2⟩
        · exact h.heap.notOf ⟨f, 0, _, ho, by rw [e1]; rfl⟩ hb'
        · obtain ⟨m1, _⟩ := part?_mem hpt
          simp only [hget] at q1
          cases hh : hfam hp' f' with
          | none => rw [hh] at q1; cases q1
          | some l =>
            have q3 : hget s.hp f' i' = some o' := by simp only [hget]; rw [(m1 f' l hh).2]; rw [hh] at q1; exact q1
            obtain ⟨e1', _⟩ := h.heap.inj f' i' f 0 _ _ b q3 ho q2 (by rw [e1]; rfl)
            have := memB_spec.2 (m1 f' l hh).1
            rw [e1', hf] at this; cases this
      have hlen : us.length = x.cells.length := by rw [e3, hcs, List.length_map]
      refine .d (.ptr (fun j => us.getD j undef) (h.heap.ltO (.inr ⟨f, 0, _, ho, by rw [e1]; rfl⟩)) hnO hx1 (fun j c hj => ?_) (fun j c hj => ?_))
      · have hj' : j < us.length := by rw [hlen]; exact (List.getElem?_eq_some_iff.1 hj).1
        rw [Nat.zero_add, cell_of_row w b j us.toArray T (0, 0) e2]
        simp [hj']
      · have hj' : j < us.length := by rw [hlen]; exact (List.getElem?_eq_some_iff.1 hj).1
        have hc := e4 j (.d c) us[j] (by rw [hcs, List.getElem?_map, hj]; rfl) (List.getElem?_eq_getElem hj')
        have hg : us.getD j undef = us[j] := by simp [hj']
        rw [hg]
        cases hc with
        | d hc => exact hc.mono (Nat.le_refl _) (fun _ _ _ => rfl) fun b' _ => hO b'
  · exact h1.env t' a ha
theorem o_freezeB {P : Program} {F : Fr} {Q : Exit → AS → Prop} {ops : Array Oper} {l' : List Oper} {sn : Nat} {env : List (Nat × AV)} {hp hp' : Hp} (t f : Nat) (x : D) {T : TypeId} {cs : List AV} (nm : List Nat) {pn : List Nat} (hF : F.pn = pn) (ht : get env t = some (.ptr f 0 0)) (hone : hfam hp f = some [.blk T cs]) (hcs : cs = x.cells.map .d) (hx1 : ∀ c ∈ x.cells, c.one = true) (hf : memB f nm = false) (hsub : subB pn nm = true) (hpt : part? hp nm = some hp')
    (h : Aops P F ops l' Q ⟨sn, (t, .d (.ptr x)) :: env, hp'⟩) : Aops P F ops l' Q ⟨sn, env, hp⟩ := fun ρ act w hs => h ρ act w (hs.freezeB t f x nm hF ht hone hcs hx1 hf hsub hpt)


abbrev hV (q : List Itm) : Hp := [(920, [.rowD 33 6 (q.map itmD)]), (1, [.blk 70 [.own 920 0 q.length]])]
end Go.Proofs.Ytfmpiabmnjmobaa

/- Layer 28: a problem's items in order. -/
namespace Go.Proofs.Ytfmpiabmnjmobaa
open Go.RowKit

theorem prb_ok {p : Prb} (h : prbE p = 0) : roomsE p.ro = 0 ∧ itemsE p.it = 0 ∧ afterE p.it = 0 := by
  unfold prbE at h
  split at h; · cases h
  have h3 := fst0_all h
  exact ⟨h3 _ (by simp), h3 _ (by simp), h3 _ (by simp)⟩
end Go.Proofs.Ytfmpiabmnjmobaa
