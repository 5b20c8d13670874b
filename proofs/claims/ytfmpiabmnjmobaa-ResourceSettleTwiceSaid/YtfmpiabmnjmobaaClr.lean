/- The tail of an owned row is cleared: 'clear(s[k:])'. No program in sight. -/
import Derived.Test.YtfmpiabmnjmobaaRng
import Derived.Lib.SliceRun
namespace Go.Proofs.Ytfmpiabmnjmobaa
open Go.RowKit

theorem o_clearTail {P : Program} {F : Fr} {Q : Exit → AS → Prop} {n : Nat} {env : List (Nat × AV)} {hp hp' : List (Nat × List AObj)} {ops : Array Oper} {rest : List Oper} {d d' : Nat} {T E ty ty2 : TypeId} {pos pos2 : String} {aft aft2 : Array Edge} {x lo : Operand} {α : Type} {emb : α → D}
    (l : List α) (k : Nat) {z : Value} {zd : α} {f j m : Nat} {t : TypeId} {xs : List D} {kl : IntKind} {il : Int}
    (hx : AS.ev ⟨n, env, hp⟩ x = some (.own f j m)) (hlo : AS.ev ⟨n, env, hp⟩ lo = some (.d (.raw (.int kl il)))) (ho : hget hp f j = some (.rowD t 1 xs)) (hl : xs = l.map emb) (hm : m = l.length) (hk : il = (k : Int)) (hkl : k < l.length)
    (hT : P.underlying T = some (.slice E)) (hE : sizeTy P E 1 = true) (hz : ∀ w, (zeroValue E).run P w = .ok z w) (hz1 : z.oneCell' = true) (hzc : z.cells = #[z]) (hzd : emb zd = .raw z)
    (hh : hset? hp f j (.rowD t 1 ((l.take k ++ List.replicate (l.length - k) zd).map emb)) = some hp') (hd : Nat.blt d n = true) (hd' : d' = d)
    (hK : Aops P F ops rest Q ⟨n, (d, .top) :: env, hp'⟩) :
    Aops P F ops (⟨some d, .slice T x (some lo) none none, ty, pos, aft, none⟩ :: ⟨none, .call { callee := .builtin .clear, args := #[.tmp d'], argTypes := #[T] }, ty2, pos2, aft2, none⟩ :: rest) Q ⟨n, env, hp⟩ := fun ρ act w hs => by
  subst hl hm hk hd'
  have hr := hs.ev hx
  generalize hv : act.eval x = u at hr
  obtain ⟨us, a, cap, e1, h1, h2, h3, h4, h5⟩ := hs.rowD ho
  cases hr with
  | own hρ hn' =>
    rw [e1] at hρ
    injection hρ with e2 e3 e4
    subst e2 e3 e4
    have hlen : (l.map emb).length = l.length := List.length_map _
    obtain ⟨b, e5, cur, h6, h7, h8⟩ := h5 (by omega)
    have e5 : a = some ⟨b, 0, none⟩ := e5
    subst e5
    have hcap := h4.1
    have hne : ¬ cap = k := by omega
    have hus : us.length = l.length * 1 := by rw [← hlen]; exact h2.1
    have hcl : us.length ≤ cur.toList.length := by rw [← h8, List.length_take]; omega
    have h6' : w.heap[b]? = some (.cells cur.toList.toArray t (0, 0)) := by simpa using h6
    refine wpListIn_plain rfl fun K1 hk1 => wpIn_of_wp rfl ?_
    unfold Oper.wp
    have hex : (execOp act.eval ⟨some d', .slice T x (some lo) none none, ty, pos, aft, none⟩).run P w = .ok (.value (.slice (some ⟨b, k * 1, none⟩) (l.length - k) (cap - k))) w := by
      simp only [execOp, hv, Option.map_some, Option.map_none, hs.raw hlo, Sem.run_bind, run_slice_lo hT (sizeTy_spec hE) (Nat.le_of_lt hkl), Result.andThen_ok, Sem.run_pure, if_neg hne, Addr.add, Nat.zero_add]
      by_cases h0 : k * 1 = 0
      · rw [if_pos h0, h0]
      · rw [if_neg h0]
    rw [hex]
    refine hk1 _ _ ?_
    have hs1 : SR F ⟨n, (d', .top) :: env, hp⟩ ρ (act.put (some d') (.slice (some ⟨b, k * 1, none⟩) (l.length - k) (cap - k))) w := hs.put (lt_of_blt hd) .top
    have hev : (act.put (some d') (.slice (some ⟨b, k * 1, none⟩) (l.length - k) (cap - k))).eval (.tmp d') = .slice (some ⟨b, k * 1, none⟩) (l.length - k) (cap - k) := getD_put_same (by rw [hs.size]; exact lt_of_blt hd)
    refine wpListIn_plain rfl fun K2 hk2 => wpIn_of_wp rfl ?_
    unfold Oper.wp
    have hcell : ∀ j, j < l.length - k → (w.cell? ⟨b, k * 1 + j, none⟩).isSome = true := fun j hj => by
      have hjl : k * 1 + j < us.length := by omega
      rw [row_cell h6 h8 (List.getElem?_eq_getElem hjl)]; rfl
    have hfr : ∀ j, j < l.length - k → w.frozen? ⟨b, k * 1 + j, none⟩ = false := fun j hj => by
      simp only [World.frozen?, h6]; simp
    have hrun := Lib.run_clear_slice (P := P) w T E ty2 z hT hz hzc hz1 b (k * 1) (l.length - k) (cap - k) (by omega) hcell hfr
    have hex2 : (execOp (act.put (some d') (.slice (some ⟨b, k * 1, none⟩) (l.length - k) (cap - k))).eval ⟨none, .call { callee := .builtin .clear, args := #[.tmp d'], argTypes := #[T] }, ty2, pos2, aft2, none⟩).run P w = .ok (.value (.tuple #[])) (w.setCells b (k * 1) (List.replicate (l.length - k) z)) := by
      have hev' := hev
      generalize hV : (Value.slice (some ⟨b, k * 1, none⟩) (l.length - k) (cap - k)) = V at hev' hrun
      simp [execOp, resolve, invoke, builtin, hV, hev', hrun]
    rw [hex2]
    refine hk2 _ _ ?_
    obtain ⟨g1, g2, g3, g4⟩ := setCells_same (b := b) (List.replicate (l.length - k) z) (k * 1) w
    refine hK ρ _ _ ?_
    have hlz : (List.replicate (l.length - k) z).length = l.length - k := List.length_replicate
    refine hs1.write f j _ _ ho (hset?_spec hh) g1 g2 g3 g4 (fun b' hb' => heap_setCells_other _ _ _ _ (fun e => hb' (by rw [e1, e]; rfl))) (fun _ _ e => by cases e) (fun hrep => ?_) (Nat.le_of_eq (setCells_drawn _ _ _ _).symm)
    have hrepD : ∀ c u, RepD w (F.O ρ hp) c u → RepD (w.setCells b (k * 1) (List.replicate (l.length - k) z)) (F.O ρ hp') c u := fun c u hr => by
      have := hrep (.d c) u (.d hr)
      cases this with | d h => exact h
    have hnl : ((l.take k ++ List.replicate (l.length - k) zd).map emb).length = l.length := by simp; omega
    have hset : setL us (k * 1) (List.replicate (l.length - k) z) = us.take k ++ List.replicate (l.length - k) z := by
      apply List.ext_getElem?
      intro i
      rw [setL_get _ _ _ (by omega), hlz, List.getElem?_append, List.length_take]
      by_cases hi : i < k
      · rw [if_neg (by omega), if_pos (by omega), List.getElem?_take_of_lt hi]
      · rw [if_neg (c := i < min k us.length) (by omega)]
        by_cases hi2 : i < l.length
        · rw [if_pos (by omega)]; congr 1; omega
        · rw [if_neg (by omega), List.getElem?_eq_none (by omega), List.getElem?_eq_none (by rw [hlz]; omega)]
    rw [e1]
    refine ⟨setL us (k * 1) (List.replicate (l.length - k) z), ?_, ⟨?_, fun x' hx' => ?_, fun i' x' hx' q c hc => ?_⟩, fun x' hx' c hc => ?_⟩
    · refine ⟨by rw [setL_length, hnl, hus], .inr ⟨b, cap, (setL cur.toList (k * 1) (List.replicate (l.length - k) z)).toArray, by rw [hnl, hlen], by omega, ?_, by rw [hnl]; omega, h4.2.1, by simp [setL_length, h7], ?_⟩⟩
      · simpa using heap_setCells_block (fr := (0, 0)) (List.replicate (l.length - k) z) cur.toList (k * 1) w h6'
      · rw [hnl]
        show (setL cur.toList (k * 1) (List.replicate (l.length - k) z)).take (l.length * 1) = _
        rw [← hus, setL_take _ _ _ _ (by omega) hcl]
        have : cur.toList.take us.length = us := by rw [hus, ← hlen]; exact h8
        rw [this]
    · rw [setL_length, hnl, hus]
    · obtain ⟨y, hy, rfl⟩ := List.mem_map.1 hx'
      rcases List.mem_append.1 hy with hy | hy
      · exact h2.2.1 _ (List.mem_map.2 ⟨y, List.mem_of_mem_take hy, rfl⟩)
      · rw [List.eq_of_mem_replicate hy, hzd]; rfl
    · have hc1 : x'.cells.length = 1 := by
        obtain ⟨y, hy, rfl⟩ := List.mem_map.1 (List.mem_of_getElem? hx')
        rcases List.mem_append.1 hy with hy | hy
        · exact h2.2.1 _ (List.mem_map.2 ⟨y, List.mem_of_mem_take hy, rfl⟩)
        · rw [List.eq_of_mem_replicate hy, hzd]; rfl
      have hq0 : q = 0 := by have := (List.getElem?_eq_some_iff.1 hc).1; omega
      subst hq0
      rw [hset]
      rw [List.getElem?_map] at hx'
      by_cases hi : i' < k
      · rw [List.getElem?_append_left (by rw [List.length_take]; omega), List.getElem?_take_of_lt hi] at hx'
        have hx2 : (l.map emb)[i']? = some x' := by rw [List.getElem?_map]; exact hx'
        obtain ⟨u, a1, a2, a3⟩ := h2.2.2 i' x' hx2 0 c hc
        refine ⟨u, ?_, a2, hrepD _ _ a3⟩
        rw [List.getElem?_append_left (by rw [List.length_take]; omega), List.getElem?_take_of_lt (by omega)]
        exact a1
      · rw [List.getElem?_append_right (by rw [List.length_take]; omega), List.length_take, Nat.min_eq_left (by omega)] at hx'
        have hir : i' - k < l.length - k := by
          have : ((List.replicate (l.length - k) zd)[i' - k]?).isSome := by
            cases hq : (List.replicate (l.length - k) zd)[i' - k]? with
            | none => rw [hq] at hx'; cases hx'
            | some _ => rfl
          simpa using this
        rw [List.getElem?_replicate, if_pos hir] at hx'
        injection hx' with hx'
        rw [hzd] at hx'
        subst hx'
        simp only [D.cells, List.getElem?_cons_zero, Option.some.injEq] at hc
        subst hc
        refine ⟨z, ?_, hz1, .raw hz1⟩
        rw [List.getElem?_append_right (by rw [List.length_take]; omega), List.length_take, List.getElem?_replicate, if_pos (by omega)]
    · obtain ⟨y, hy, rfl⟩ := List.mem_map.1 hx'
      rcases List.mem_append.1 hy with hy | hy
      · exact h3 _ (List.mem_map.2 ⟨y, List.mem_of_mem_take hy, rfl⟩) c hc
      · rw [List.eq_of_mem_replicate hy, hzd] at hc
        simp only [D.cells, List.mem_singleton] at hc
        subst hc; rfl
end Go.Proofs.Ytfmpiabmnjmobaa

