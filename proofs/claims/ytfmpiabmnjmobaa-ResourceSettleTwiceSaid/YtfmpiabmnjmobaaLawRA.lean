/- Layer 28: the law of settling twice. -/
import Derived.Test.YtfmpiabmnjmobaaLawR9
namespace Go.Proofs.Ytfmpiabmnjmobaa
open Go.RowKit

theorem ids_next {p : Prb} (hn : (p.it.map Itm.id).Nodup) {k : Nat} (hk : k < p.it.length) {l : List Int} (h1 : l.Nodup) (h2 : ∀ x ∈ l, x ∈ (p.it.take k).map Itm.id) : p.it[k].id ∉ l := fun h => by
  obtain ⟨x, hx, e⟩ := List.mem_map.1 (h2 _ h)
  obtain ⟨j, hj, rfl⟩ := List.mem_take_iff_getElem.1 hx
  rw [List.Nodup, List.pairwise_map, List.pairwise_iff_getElem] at hn
  exact hn j k (by omega) hk (by omega) e
theorem take_sub {p : Prb} {k : Nat} {x : Int} (h : x ∈ (p.it.take k).map Itm.id) : x ∈ (p.it.take (k + 1)).map Itm.id := by
  obtain ⟨y, hy, e⟩ := List.mem_map.1 h
  obtain ⟨j, hj, rfl⟩ := List.mem_take_iff_getElem.1 hy
  exact List.mem_map.2 ⟨_, List.mem_take_iff_getElem.2 ⟨j, by omega, rfl⟩, e⟩
theorem take_new {p : Prb} {k : Nat} (hk : k < p.it.length) : p.it[k].id ∈ (p.it.take (k + 1)).map Itm.id := List.mem_map.2 ⟨_, List.mem_take_iff_getElem.2 ⟨k, by omega, rfl⟩, rfl⟩
/-- What the two sets are known by. -/
def Two (p : Prb) (k : Nat) (a b : List Int) : Prop := k ≤ p.it.length ∧ (a ++ b).Nodup ∧ (∀ x ∈ a ++ b, x ∈ (p.it.take k).map Itm.id) ∧ a.length ≤ k ∧ b.length ≤ k
theorem Two.skip {p : Prb} {k : Nat} {a b : List Int} (h : Two p k a b) (hk : k < p.it.length) : Two p (k + 1) a b := ⟨hk, h.2.1, fun x hx => take_sub (h.2.2.1 x hx), by have := h.2.2.2.1; omega, by have := h.2.2.2.2; omega⟩
theorem Two.fst {p : Prb} (hn : (p.it.map Itm.id).Nodup) {k : Nat} {a b : List Int} (h : Two p k a b) (hk : k < p.it.length) : Two p (k + 1) (a ++ [p.it[k].id]) b := by
  have hp : ((a ++ [p.it[k].id]) ++ b).Perm (p.it[k].id :: (a ++ b)) := by rw [List.append_assoc]; exact List.perm_middle
  refine ⟨hk, (hp.nodup_iff).2 (List.nodup_cons.2 ⟨ids_next hn hk h.2.1 h.2.2.1, h.2.1⟩), fun x hx => ?_, by rw [List.length_append]; have := h.2.2.2.1; simp; omega, by have := h.2.2.2.2; omega⟩
  rcases List.mem_cons.1 (hp.mem_iff.1 hx) with hx | hx
  · rw [hx]; exact take_new hk
  · exact take_sub (h.2.2.1 x hx)
theorem Two.snd {p : Prb} (hn : (p.it.map Itm.id).Nodup) {k : Nat} {a b : List Int} (h : Two p k a b) (hk : k < p.it.length) : Two p (k + 1) a (b ++ [p.it[k].id]) := by
  have hp : (a ++ (b ++ [p.it[k].id])).Perm (p.it[k].id :: (a ++ b)) := by rw [← List.append_assoc]; exact List.perm_append_singleton _ _
  refine ⟨hk, (hp.nodup_iff).2 (List.nodup_cons.2 ⟨ids_next hn hk h.2.1 h.2.2.1, h.2.1⟩), fun x hx => ?_, by have := h.2.2.2.1; omega, by rw [List.length_append]; have := h.2.2.2.2; simp; omega⟩
  rcases List.mem_cons.1 (hp.mem_iff.1 hx) with hx | hx
  · rw [hx]; exact take_new hk
  · exact take_sub (h.2.2.1 x hx)
set_option maxRecDepth 100000 in
theorem lawRA_p (p : Prb) (which : List UInt8) (o : Prb) : PCalls Try.prog 10 [.d (prbD p), .d (.sl none (which.map byteD)), .d (prbD o)] (.raw (.bool true)) := by
  have hk := known_p
  have hs := small_p p
  have hso := small_p o
  by_cases hf : Sml p
  · rw [decide_eq_true hf] at hs
    have cc := refpcheck_p p (by have := hf.2.1; omega) (by have := hf.1; omega) (fun i hi => by have := hf.2.2 i hi; omega)
    by_cases hfo : Sml o
    · rw [decide_eq_true hfo] at hso
      by_cases hE : prbE p = 0
      · rw [hE] at cc
        by_cases hw : which.length ≤ 20
        · have c1 := own_p p hf
          have c2 := own_p o hfo
          have hb := sml_B hf
          have hl12 := hf.1
          have hn := items_ids (prb_ok hE).2.1
          have ce := equalP_p p o (sml_few hf)
          have cs := same_p p o (sml_few hf)
          refine a_enter Try.func10 rfl rfl Try.ntmps10 rfl rfl rfl fun F hF => ?_
          refine a_seq ?_
          refine a_region ?_
          refine Estep.go (st_box 1 rfl rfl rfl rfl rfl rfl rfl) ?_
          refine Estep.go (st_box 2 rfl rfl rfl rfl rfl rfl rfl) ?_
          refine Pstep.go (st_assign rfl rfl) ?_
          refine o_nil ?_
          refine a_seq ?_
          refine a_seq ?_
          refine a_region ?_
          refine Pstep.go (st_callP (hk) rfl rfl) ?_
          refine Pstep.go (st_not rfl rfl) ?_
          refine Pstep.go (st_move rfl rfl) ?_
          refine o_setF 18 rfl (rfl) ?_
          refine o_run rfl rfl rfl ?_
          refine Pstep.go (st_loadPS rfl rfl rw67 rfl rfl rfl) ?_
          refine o_run rfl rfl rfl ?_
          refine Pstep.go (st_callP (hs) rfl rfl) ?_
          refine o_run rfl rfl rfl ?_
          refine Pstep.go (st_not rfl rfl) ?_
          refine Pstep.go (st_pickF rfl rfl rfl rfl) ?_
          refine Pstep.go (st_move rfl rfl) ?_
          refine o_setF 23 rfl (rfl) ?_
          refine o_run rfl rfl rfl ?_
          refine Pstep.go (st_loadPS rfl rfl rw67 rfl rfl rfl) ?_
          refine o_run rfl rfl rfl ?_
          refine Pstep.go (st_callP (hso) rfl rfl) ?_
          refine o_run rfl rfl rfl ?_
          refine Pstep.go (st_not rfl rfl) ?_
          refine Pstep.go (st_pickF rfl rfl rfl rfl) ?_
          refine Pstep.go (st_move rfl rfl) ?_
          refine o_setF 28 rfl (rfl) ?_
          refine o_run rfl rfl rfl ?_
          refine Pstep.go (st_loadPS rfl rfl rw67 rfl rfl rfl) ?_
          refine o_run rfl rfl rfl ?_
          refine Pstep.go (st_callP (cc) rfl rfl) ?_
          refine o_run rfl rfl rfl ?_
          refine Pstep.go (st_neq rfl rfl rfl) ?_
          refine Pstep.go (st_pickF rfl rfl rfl rfl) ?_
          refine Pstep.go (st_move rfl rfl) ?_
          refine o_setF 33 rfl ((by simp)) ?_
          refine o_run rfl rfl rfl ?_
          refine Pstep.go (st_move rfl rfl) ?_
          refine o_run rfl rfl rfl ?_
          refine Pstep.go (st_lenMap rfl Try.underlying100 rfl) ?_
          refine o_run rfl rfl rfl ?_
          refine Pstep.go (st_gtr rfl rfl rfl) ?_
          refine Pstep.go (st_pickF rfl rfl rfl rfl) ?_
          refine o_nil ?_
          refine a_false rfl ((decide_eq_false (by omega))) ?_
          refine a_skip ?_
          refine a_seq ?_
          refine a_region ?_
          refine Pstep.go (st_assign rfl rfl) ?_
          refine Pstep.go (st_assign rfl rfl) ?_
          refine o_nil ?_
          refine a_seq ?_
          refine a_seq ?_
          refine a_adopt 7 900 sl24 rfl rfl rfl rfl ?_
          refine a_adopt 8 901 sl24 rfl rfl rfl rfl ?_
          refine a_region ?_
          refine Pstep.go (st_assign rfl rfl) ?_
          refine o_nil ?_
          refine a_block ?_
          refine a_loopP (α := Nat × List Int × List Int) (fun q => ⟨141, [(1, .d (.sl none (which.map byteD))), (3, (.ptr 1 0 0)), (5, (.ptr 2 0 0)), (7, (.own 900 0 q.2.1.length)), (8, (.own 901 0 q.2.2.length)), (9, (.d (intD (q.1 : Int))))], [(900, [.rowD 3 1 (q.2.1.map intD)]), (901, [.rowD 3 1 (q.2.2.map intD)]), (1, [prbB2 67 p]), (2, [prbB2 67 o])]⟩) (fun q => Two p q.1 q.2.1 q.2.2) (fun q => p.it.length - q.1) ((0, [], [])) (⟨Nat.zero_le _, by simp, by simp, Nat.le_refl _, Nat.le_refl _⟩) (lep_of hF [900, 901, 1, 2] rfl rfl ⟨rfl, rfl, rfl, rfl, rfl, rfl, trivial⟩) ?_
          rintro ⟨k, a, b⟩ hT
          dsimp only at hT ⊢
          refine a_seq ?_
          refine a_seq ?_
          refine a_region ?_
          refine Pstep.go (st_move rfl rfl) ?_
          refine Pstep.go (st_fieldP rfl fi67_1 rfl rfl rfl) ?_
          refine Pstep.go (st_loadP rfl rfl rfl on65 rfl) ?_
          refine Pstep.go (st_lenMap rfl Try.underlying65 rfl) ?_
          refine Pstep.go (st_lss rfl rfl rfl) ?_
          refine Pstep.go (st_move rfl rfl) ?_
          try have hk1 : k < p.it.length := lt_cast h44
          refine o_splitP 44 rfl (fun h44 => ?_) (fun h44 => ?_)
          · try have hk1 : k < p.it.length := lt_cast h44
            refine o_run rfl rfl rfl ?_
            refine Pstep.go (st_move rfl rfl) ?_
            refine o_run rfl rfl rfl ?_
            refine Pstep.go (st_move rfl rfl) ?_
            refine o_run rfl rfl rfl ?_
            refine Pstep.go (st_lenMap rfl Try.underlying100 rfl) ?_
            refine o_run rfl rfl rfl ?_
            refine Pstep.go (st_lss rfl rfl rfl) ?_
            refine Pstep.go (st_pickT rfl rfl rfl rfl) ?_
            refine o_nil ?_
            refine a_if rfl (fun h49 => ?_) (fun h49 => ?_)
            · have hw1 : k < which.length := lt_cast h49
              refine a_skip ?_
              refine a_seq ?_
              refine a_block ?_
              refine a_seq ?_
              refine a_region ?_
              refine Pstep.go (st_move rfl rfl) ?_
              refine Pstep.go (st_move rfl rfl) ?_
              refine Pstep.go (st_indexD (k) rfl rfl (rfl) (getm hw1) Try.underlying100 rfl sz5 rfl) ?_
              refine Pstep.go (st_loadD1 rfl rfl on5 rfl) ?_
              refine Pstep.go (st_rem rfl rfl (by omega) (rfl) rfl) ?_
              refine o_nil ?_
              refine a_block ?_
              refine a_seq ?_
              refine a_region ?_
              refine Pstep.go (st_eql rfl rfl rfl) ?_
              refine Pstep.go (st_assign rfl rfl) ?_
              refine o_nil ?_
              refine a_if rfl (fun h57 => ?_) (fun h57 => ?_)
              · refine a_region ?_
                have hT2 := hT.2.2.2
                refine Pstep.go (st_move rfl rfl) ?_
                refine Pstep.go (st_fieldP rfl fi67_1 rfl rfl rfl) ?_
                refine Pstep.go (st_loadP rfl rfl rfl on65 rfl) ?_
                refine Pstep.go (st_move rfl rfl) ?_
                refine Pstep.go (st_indexD (k) rfl rfl (rfl) (getm hk1) Try.underlying65 rfl sz26 rfl) ?_
                refine Pstep.go (st_fieldF1 rfl fi26_0 rfl rfl rfl) ?_
                refine Pstep.go (st_loadD1 rfl rfl on3 rfl) ?_
                refine Estep.go (st_buildSlice 3 sl24 rfl rfl rfl rfl rfl rfl rfl rfl) ?_
                refine Estep.go (st_appM (a) ([p.it[k].id]) rfl rfl rfl rfl rfl rfl rfl rfl sl24 (by simp only [List.length_singleton]; omega) rfl rfl rfl rfl) ?_
                refine Pstep.go (st_assign rfl rfl) ?_
                refine o_nil ?_
                refine a_region ?_
                refine Pstep.go (st_move rfl rfl) ?_
                refine Pstep.go (st_add rfl rfl (wrapS (k + 1) (by omega)) rfl) ?_
                refine Pstep.go (st_assign rfl rfl) ?_
                refine o_nil ?_
                exact ⟨(k + 1, a ++ [p.it[k].id], b), hT.fst hn hk1, by show p.it.length - (k + 1) < p.it.length - k; omega, lep_of hF [900, 901, 1, 2] rfl (rfl) ⟨rfl, rfl, rfl, rfl, rfl, rfl, trivial⟩⟩
              · refine a_seq ?_
                refine a_region ?_
                refine Pstep.go (st_eql rfl rfl rfl) ?_
                refine Pstep.go (st_assign rfl rfl) ?_
                refine o_nil ?_
                refine a_if rfl (fun h68 => ?_) (fun h68 => ?_)
                · refine a_region ?_
                  have hT2 := hT.2.2.2
                  refine Pstep.go (st_move rfl rfl) ?_
                  refine Pstep.go (st_fieldP rfl fi67_1 rfl rfl rfl) ?_
                  refine Pstep.go (st_loadP rfl rfl rfl on65 rfl) ?_
                  refine Pstep.go (st_move rfl rfl) ?_
                  refine Pstep.go (st_indexD (k) rfl rfl (rfl) (getm hk1) Try.underlying65 rfl sz26 rfl) ?_
                  refine Pstep.go (st_fieldF1 rfl fi26_0 rfl rfl rfl) ?_
                  refine Pstep.go (st_loadD1 rfl rfl on3 rfl) ?_
                  refine Estep.go (st_buildSlice 4 sl24 rfl rfl rfl rfl rfl rfl rfl rfl) ?_
                  refine Estep.go (st_appM (b) ([p.it[k].id]) rfl rfl rfl rfl rfl rfl rfl rfl sl24 (by simp only [List.length_singleton]; omega) rfl rfl rfl rfl) ?_
                  refine Pstep.go (st_assign rfl rfl) ?_
                  refine o_nil ?_
                  refine a_region ?_
                  refine Pstep.go (st_move rfl rfl) ?_
                  refine Pstep.go (st_add rfl rfl (wrapS (k + 1) (by omega)) rfl) ?_
                  refine Pstep.go (st_assign rfl rfl) ?_
                  refine o_nil ?_
                  exact ⟨(k + 1, a, b ++ [p.it[k].id]), hT.snd hn hk1, by show p.it.length - (k + 1) < p.it.length - k; omega, lep_of hF [900, 901, 1, 2] rfl (rfl) ⟨rfl, rfl, rfl, rfl, rfl, rfl, trivial⟩⟩
                · refine a_skip ?_
                  refine a_region ?_
                  refine Pstep.go (st_move rfl rfl) ?_
                  refine Pstep.go (st_add rfl rfl (wrapS (k + 1) (by omega)) rfl) ?_
                  refine Pstep.go (st_assign rfl rfl) ?_
                  refine o_nil ?_
                  exact ⟨(k + 1, a, b), hT.skip hk1, by show p.it.length - (k + 1) < p.it.length - k; omega, lep_of hF [900, 901, 1, 2] rfl (rfl) ⟨rfl, rfl, rfl, rfl, rfl, rfl, trivial⟩⟩
            · refine a_exit ?_
              refine a_seq ?_
              have hT0 := hT.1
              have hT2 := hT.2.2.2
              have hnd := hT.2.1
              have hin : ∀ x ∈ a ++ b, x ∈ p.it.map Itm.id := fun x hx => (List.Sublist.map Itm.id (List.take_sublist _ _)).subset (hT.2.2.1 x hx)
              have ca := setlE_12 hE (l := a) (List.nodup_append.1 hnd).1 (fun x hx => hin x (List.mem_append_left _ hx))
              have cab := setlE_12 hE (l := ([] ++ a) ++ b) hnd hin
              have hsa := setlP_sml hf a
              have htw := settle_twice (p := p) hnd
              have s1 := settle_p p a hb (by omega) (by omega)
              have s2 := settle_p (setlP p a) b (sml_B hsa) (by omega) (by have := hsa.1; omega)
              have s3 := settle_p p (([] ++ a) ++ b) hb (by simp only [List.nil_append, List.length_append]; omega) (by omega)
              have ceq := equalP_p (setlP (setlP p a) b) (setlP p (([] ++ a) ++ b)) (sml_few (setlP_sml hsa b))
              refine a_freezeM (emb := intD) 7 900 a rfl rfl rfl rfl rfl rfl rfl ?_
              refine a_freezeM (emb := intD) 8 901 b rfl rfl rfl rfl rfl rfl rfl ?_
              refine a_region ?_
              refine Pstep.go (st_loadPS rfl rfl rw67 rfl rfl rfl) ?_
              refine Pstep.go (st_callP (c1) rfl rfl) ?_
              refine Pstep.go (st_move rfl rfl) ?_
              refine Pstep.go (st_callP (s1) rfl rfl) ?_
              refine Pstep.go (st_move rfl rfl) ?_
              refine Pstep.go (st_extractD rfl rfl rfl) ?_
              refine Pstep.go (st_extractD rfl rfl rfl) ?_
              refine Estep.go (st_alloc 5 zl72 rfl rfl rfl rfl) ?_
              refine Estep.go (st_storeP rfl rfl rfl rfl rfl rfl rfl sz72) ?_
              refine Pstep.go (st_assign rfl rfl) ?_
              refine o_nil ?_
              refine a_seq ?_
              refine a_region ?_
              refine Pstep.go (st_loadPS rfl rfl rw72 rfl rfl rfl) ?_
              refine Pstep.go (st_move rfl rfl) ?_
              refine Pstep.go (st_callP (s2) rfl rfl) ?_
              refine Pstep.go (st_move rfl rfl) ?_
              refine Pstep.go (st_extractD rfl rfl rfl) ?_
              refine Pstep.go (st_extractD rfl rfl rfl) ?_
              refine Estep.go (st_alloc 6 zl72 rfl rfl rfl rfl) ?_
              refine Estep.go (st_storeP rfl rfl rfl rfl rfl rfl rfl sz72) ?_
              refine Pstep.go (st_assign rfl rfl) ?_
              refine o_nil ?_
              refine a_seq ?_
              refine a_region ?_
              refine Pstep.go (st_loadPS rfl rfl rw67 rfl rfl rfl) ?_
              refine Pstep.go (st_callP (c1) rfl rfl) ?_
              refine Estep.go (st_buildSlice 60 sl24 rfl rfl rfl rfl rfl rfl rfl rfl) ?_
              refine Pstep.go (st_move rfl rfl) ?_
              refine Estep.go (st_appMD (([] : List Int)) (a) rfl rfl rfl rfl rfl rfl (fun _ => rfl) sl24 (by simp only [List.length_nil]; omega) rfl rfl rfl rfl) ?_
              refine Pstep.go (st_move rfl rfl) ?_
              refine Estep.go (st_appMD (([] ++ a)) (b) rfl rfl rfl rfl rfl rfl (fun _ => rfl) sl24 (by simp only [List.nil_append]; omega) rfl rfl rfl rfl) ?_
              refine o_freezeM (emb := intD) 99 60 (([] ++ a) ++ b) rfl rfl rfl rfl rfl rfl rfl ?_
              refine Pstep.go (st_callP (s3) rfl rfl) ?_
              refine Pstep.go (st_move rfl rfl) ?_
              refine Pstep.go (st_extractD rfl rfl rfl) ?_
              refine Pstep.go (st_extractD rfl rfl rfl) ?_
              refine Estep.go (st_alloc 8 zl72 rfl rfl rfl rfl) ?_
              refine Estep.go (st_storeP rfl rfl rfl rfl rfl rfl rfl sz72) ?_
              refine Pstep.go (st_assign rfl rfl) ?_
              refine o_nil ?_
              refine a_seq ?_
              refine a_seq ?_
              refine a_region ?_
              refine Pstep.go (st_move rfl rfl) ?_
              refine Pstep.go (st_neq rfl rfl rfl) ?_
              refine Pstep.go (st_move rfl rfl) ?_
              refine o_splitP 105 rfl (fun h105 => ?_) (fun h105 => ?_)
              · refine o_pass rfl rfl rfl rfl ?_
                refine o_pass rfl rfl rfl rfl ?_
                refine Pstep.go (st_pickT rfl rfl rfl rfl) ?_
                refine Pstep.go (st_move rfl rfl) ?_
                refine o_pass rfl rfl rfl rfl ?_
                refine o_pass rfl rfl rfl rfl ?_
                refine Pstep.go (st_pickT rfl rfl rfl rfl) ?_
                refine o_nil ?_
                refine a_true rfl rfl ?_
                refine a_seq ?_
                refine a_region ?_
                refine Pstep.go (st_move rfl rfl) ?_
                refine Pstep.go (st_eql rfl rfl rfl) ?_
                refine Pstep.go (st_move rfl rfl) ?_
                refine o_splitP 115 rfl (fun h115 => ?_) (fun h115 => ?_)
                · refine o_pass rfl rfl rfl rfl ?_
                  refine o_pass rfl rfl rfl rfl ?_
                  refine Pstep.go (st_pickT rfl rfl rfl rfl) ?_
                  refine Pstep.go (st_move rfl rfl) ?_
                  refine o_run rfl rfl rfl ?_
                  refine Pstep.go (st_move rfl rfl) ?_
                  refine o_run rfl rfl rfl ?_
                  refine Pstep.go (st_eql rfl rfl rfl) ?_
                  refine o_run rfl rfl rfl ?_
                  refine Pstep.go (st_move rfl rfl) ?_
                  refine o_splitP 122 rfl (fun h122 => ?_) (fun h122 => ?_)
                  · refine o_pass rfl rfl rfl rfl ?_
                    refine o_pass rfl rfl rfl rfl ?_
                    refine o_run rfl rfl rfl ?_
                    refine Pstep.go (st_pickT rfl rfl rfl rfl) ?_
                    refine Pstep.go (st_pickT rfl rfl rfl rfl) ?_
                    refine Pstep.go (st_assign rfl rfl) ?_
                    refine o_nil ?_
                    refine a_ret ?_
                    exact ⟨_, [], [], res_of rfl, rfl, rfl, retB' (by first | rfl | simp_all), rfl⟩
                  · refine o_run rfl rfl rfl ?_
                    refine Pstep.go (st_move rfl rfl) ?_
                    refine o_run rfl rfl rfl ?_
                    refine Pstep.go (st_eql rfl rfl rfl) ?_
                    refine o_run rfl rfl rfl ?_
                    refine Pstep.go (st_pickF rfl rfl rfl rfl) ?_
                    refine Pstep.go (st_pickT rfl rfl rfl rfl) ?_
                    refine Pstep.go (st_assign rfl rfl) ?_
                    refine o_nil ?_
                    refine a_ret ?_
                    exact ⟨_, [], [], res_of rfl, rfl, rfl, retB' (by first | rfl | simp_all), rfl⟩
                · refine o_run rfl rfl rfl ?_
                  refine Pstep.go (st_move rfl rfl) ?_
                  refine o_run rfl rfl rfl ?_
                  refine Pstep.go (st_eql rfl rfl rfl) ?_
                  refine Pstep.go (st_pickF rfl rfl rfl rfl) ?_
                  refine Pstep.go (st_move rfl rfl) ?_
                  refine o_splitP 119 rfl (fun h119 => ?_) (fun h119 => ?_)
                  · refine o_run rfl rfl rfl ?_
                    refine Pstep.go (st_move rfl rfl) ?_
                    refine o_run rfl rfl rfl ?_
                    refine Pstep.go (st_eql rfl rfl rfl) ?_
                    refine o_run rfl rfl rfl ?_
                    refine Pstep.go (st_move rfl rfl) ?_
                    refine o_splitP 122 rfl (fun h122 => ?_) (fun h122 => ?_)
                    · refine o_pass rfl rfl rfl rfl ?_
                      refine o_pass rfl rfl rfl rfl ?_
                      refine o_run rfl rfl rfl ?_
                      refine Pstep.go (st_pickT rfl rfl rfl rfl) ?_
                      refine Pstep.go (st_pickT rfl rfl rfl rfl) ?_
                      refine Pstep.go (st_assign rfl rfl) ?_
                      refine o_nil ?_
                      refine a_ret ?_
                      exact ⟨_, [], [], res_of rfl, rfl, rfl, retB' (by first | rfl | simp_all), rfl⟩
                    · refine o_run rfl rfl rfl ?_
                      refine Pstep.go (st_move rfl rfl) ?_
                      refine o_run rfl rfl rfl ?_
                      refine Pstep.go (st_eql rfl rfl rfl) ?_
                      refine o_run rfl rfl rfl ?_
                      refine Pstep.go (st_pickF rfl rfl rfl rfl) ?_
                      refine Pstep.go (st_pickT rfl rfl rfl rfl) ?_
                      refine Pstep.go (st_assign rfl rfl) ?_
                      refine o_nil ?_
                      refine a_ret ?_
                      exact ⟨_, [], [], res_of rfl, rfl, rfl, retB' (by first | rfl | simp_all), rfl⟩
                  · refine o_pass rfl rfl rfl rfl ?_
                    refine o_pass rfl rfl rfl rfl ?_
                    refine o_pass rfl rfl rfl rfl ?_
                    refine o_passU rfl rfl rfl ?_
                    refine o_passU rfl rfl rfl ?_
                    refine o_pass rfl rfl rfl rfl ?_
                    refine Pstep.go (st_pickF rfl rfl rfl rfl) ?_
                    refine Pstep.go (st_assign rfl rfl) ?_
                    refine o_nil ?_
                    refine a_ret ?_
                    exact ⟨_, [], [], res_of rfl, rfl, rfl, retB' (by first | rfl | simp_all), rfl⟩
              · refine o_run rfl rfl rfl ?_
                refine Pstep.go (st_move rfl rfl) ?_
                refine o_run rfl rfl rfl ?_
                refine Pstep.go (st_neq rfl rfl rfl) ?_
                refine Pstep.go (st_pickF rfl rfl rfl rfl) ?_
                refine Pstep.go (st_move rfl rfl) ?_
                refine o_splitP 109 rfl (fun h109 => ?_) (fun h109 => ?_)
                · refine o_pass rfl rfl rfl rfl ?_
                  refine o_pass rfl rfl rfl rfl ?_
                  refine Pstep.go (st_pickT rfl rfl rfl rfl) ?_
                  refine o_nil ?_
                  refine a_true rfl rfl ?_
                  refine a_seq ?_
                  refine a_region ?_
                  refine Pstep.go (st_move rfl rfl) ?_
                  refine Pstep.go (st_eql rfl rfl rfl) ?_
                  refine Pstep.go (st_move rfl rfl) ?_
                  refine o_splitP 115 rfl (fun h115 => ?_) (fun h115 => ?_)
                  · refine o_pass rfl rfl rfl rfl ?_
                    refine o_pass rfl rfl rfl rfl ?_
                    refine Pstep.go (st_pickT rfl rfl rfl rfl) ?_
                    refine Pstep.go (st_move rfl rfl) ?_
                    refine o_run rfl rfl rfl ?_
                    refine Pstep.go (st_move rfl rfl) ?_
                    refine o_run rfl rfl rfl ?_
                    refine Pstep.go (st_eql rfl rfl rfl) ?_
                    refine o_run rfl rfl rfl ?_
                    refine Pstep.go (st_move rfl rfl) ?_
                    refine o_splitP 122 rfl (fun h122 => ?_) (fun h122 => ?_)
                    · refine o_pass rfl rfl rfl rfl ?_
                      refine o_pass rfl rfl rfl rfl ?_
                      refine o_run rfl rfl rfl ?_
                      refine Pstep.go (st_pickT rfl rfl rfl rfl) ?_
                      refine Pstep.go (st_pickT rfl rfl rfl rfl) ?_
                      refine Pstep.go (st_assign rfl rfl) ?_
                      refine o_nil ?_
                      refine a_ret ?_
                      exact ⟨_, [], [], res_of rfl, rfl, rfl, retB' (by first | rfl | simp_all), rfl⟩
                    · refine o_run rfl rfl rfl ?_
                      refine Pstep.go (st_move rfl rfl) ?_
                      refine o_run rfl rfl rfl ?_
                      refine Pstep.go (st_eql rfl rfl rfl) ?_
                      refine o_run rfl rfl rfl ?_
                      refine Pstep.go (st_pickF rfl rfl rfl rfl) ?_
                      refine Pstep.go (st_pickT rfl rfl rfl rfl) ?_
                      refine Pstep.go (st_assign rfl rfl) ?_
                      refine o_nil ?_
                      refine a_ret ?_
                      exact ⟨_, [], [], res_of rfl, rfl, rfl, retB' (by first | rfl | simp_all), rfl⟩
                  · refine o_run rfl rfl rfl ?_
                    refine Pstep.go (st_move rfl rfl) ?_
                    refine o_run rfl rfl rfl ?_
                    refine Pstep.go (st_eql rfl rfl rfl) ?_
                    refine Pstep.go (st_pickF rfl rfl rfl rfl) ?_
                    refine Pstep.go (st_move rfl rfl) ?_
                    refine o_splitP 119 rfl (fun h119 => ?_) (fun h119 => ?_)
                    · refine o_run rfl rfl rfl ?_
                      refine Pstep.go (st_move rfl rfl) ?_
                      refine o_run rfl rfl rfl ?_
                      refine Pstep.go (st_eql rfl rfl rfl) ?_
                      refine o_run rfl rfl rfl ?_
                      refine Pstep.go (st_move rfl rfl) ?_
                      refine o_splitP 122 rfl (fun h122 => ?_) (fun h122 => ?_)
                      · refine o_pass rfl rfl rfl rfl ?_
                        refine o_pass rfl rfl rfl rfl ?_
                        refine o_run rfl rfl rfl ?_
                        refine Pstep.go (st_pickT rfl rfl rfl rfl) ?_
                        refine Pstep.go (st_pickT rfl rfl rfl rfl) ?_
                        refine Pstep.go (st_assign rfl rfl) ?_
                        refine o_nil ?_
                        refine a_ret ?_
                        exact ⟨_, [], [], res_of rfl, rfl, rfl, retB' (by first | rfl | simp_all), rfl⟩
                      · refine o_run rfl rfl rfl ?_
                        refine Pstep.go (st_move rfl rfl) ?_
                        refine o_run rfl rfl rfl ?_
                        refine Pstep.go (st_eql rfl rfl rfl) ?_
                        refine o_run rfl rfl rfl ?_
                        refine Pstep.go (st_pickF rfl rfl rfl rfl) ?_
                        refine Pstep.go (st_pickT rfl rfl rfl rfl) ?_
                        refine Pstep.go (st_assign rfl rfl) ?_
                        refine o_nil ?_
                        refine a_ret ?_
                        exact ⟨_, [], [], res_of rfl, rfl, rfl, retB' (by first | rfl | simp_all), rfl⟩
                    · refine o_pass rfl rfl rfl rfl ?_
                      refine o_pass rfl rfl rfl rfl ?_
                      refine o_pass rfl rfl rfl rfl ?_
                      refine o_passU rfl rfl rfl ?_
                      refine o_passU rfl rfl rfl ?_
                      refine o_pass rfl rfl rfl rfl ?_
                      refine Pstep.go (st_pickF rfl rfl rfl rfl) ?_
                      refine Pstep.go (st_assign rfl rfl) ?_
                      refine o_nil ?_
                      refine a_ret ?_
                      exact ⟨_, [], [], res_of rfl, rfl, rfl, retB' (by first | rfl | simp_all), rfl⟩
                · refine o_run rfl rfl rfl ?_
                  refine Pstep.go (st_move rfl rfl) ?_
                  refine o_run rfl rfl rfl ?_
                  refine Pstep.go (st_neq rfl rfl rfl) ?_
                  refine Pstep.go (st_pickF rfl rfl rfl rfl) ?_
                  refine o_nil ?_
                  refine a_if rfl (fun h112 => ?_) (fun h112 => ?_)
                  · refine a_seq ?_
                    refine a_region ?_
                    refine Pstep.go (st_move rfl rfl) ?_
                    refine Pstep.go (st_eql rfl rfl rfl) ?_
                    refine Pstep.go (st_move rfl rfl) ?_
                    refine o_splitP 115 rfl (fun h115 => ?_) (fun h115 => ?_)
                    · refine o_pass rfl rfl rfl rfl ?_
                      refine o_pass rfl rfl rfl rfl ?_
                      refine Pstep.go (st_pickT rfl rfl rfl rfl) ?_
                      refine Pstep.go (st_move rfl rfl) ?_
                      refine o_run rfl rfl rfl ?_
                      refine Pstep.go (st_move rfl rfl) ?_
                      refine o_run rfl rfl rfl ?_
                      refine Pstep.go (st_eql rfl rfl rfl) ?_
                      refine o_run rfl rfl rfl ?_
                      refine Pstep.go (st_move rfl rfl) ?_
                      refine o_splitP 122 rfl (fun h122 => ?_) (fun h122 => ?_)
                      · refine o_pass rfl rfl rfl rfl ?_
                        refine o_pass rfl rfl rfl rfl ?_
                        refine o_run rfl rfl rfl ?_
                        refine Pstep.go (st_pickT rfl rfl rfl rfl) ?_
                        refine Pstep.go (st_pickT rfl rfl rfl rfl) ?_
                        refine Pstep.go (st_assign rfl rfl) ?_
                        refine o_nil ?_
                        refine a_ret ?_
                        exact ⟨_, [], [], res_of rfl, rfl, rfl, retB' (by first | rfl | simp_all), rfl⟩
                      · refine o_run rfl rfl rfl ?_
                        refine Pstep.go (st_move rfl rfl) ?_
                        refine o_run rfl rfl rfl ?_
                        refine Pstep.go (st_eql rfl rfl rfl) ?_
                        refine o_run rfl rfl rfl ?_
                        refine Pstep.go (st_pickF rfl rfl rfl rfl) ?_
                        refine Pstep.go (st_pickT rfl rfl rfl rfl) ?_
                        refine Pstep.go (st_assign rfl rfl) ?_
                        refine o_nil ?_
                        refine a_ret ?_
                        exact ⟨_, [], [], res_of rfl, rfl, rfl, retB' (by first | rfl | simp_all), rfl⟩
                    · refine o_run rfl rfl rfl ?_
                      refine Pstep.go (st_move rfl rfl) ?_
                      refine o_run rfl rfl rfl ?_
                      refine Pstep.go (st_eql rfl rfl rfl) ?_
                      refine Pstep.go (st_pickF rfl rfl rfl rfl) ?_
                      refine Pstep.go (st_move rfl rfl) ?_
                      refine o_splitP 119 rfl (fun h119 => ?_) (fun h119 => ?_)
                      · refine o_run rfl rfl rfl ?_
                        refine Pstep.go (st_move rfl rfl) ?_
                        refine o_run rfl rfl rfl ?_
                        refine Pstep.go (st_eql rfl rfl rfl) ?_
                        refine o_run rfl rfl rfl ?_
                        refine Pstep.go (st_move rfl rfl) ?_
                        refine o_splitP 122 rfl (fun h122 => ?_) (fun h122 => ?_)
                        · refine o_pass rfl rfl rfl rfl ?_
                          refine o_pass rfl rfl rfl rfl ?_
                          refine o_run rfl rfl rfl ?_
                          refine Pstep.go (st_pickT rfl rfl rfl rfl) ?_
                          refine Pstep.go (st_pickT rfl rfl rfl rfl) ?_
                          refine Pstep.go (st_assign rfl rfl) ?_
                          refine o_nil ?_
                          refine a_ret ?_
                          exact ⟨_, [], [], res_of rfl, rfl, rfl, retB' (by first | rfl | simp_all), rfl⟩
                        · refine o_run rfl rfl rfl ?_
                          refine Pstep.go (st_move rfl rfl) ?_
                          refine o_run rfl rfl rfl ?_
                          refine Pstep.go (st_eql rfl rfl rfl) ?_
                          refine o_run rfl rfl rfl ?_
                          refine Pstep.go (st_pickF rfl rfl rfl rfl) ?_
                          refine Pstep.go (st_pickT rfl rfl rfl rfl) ?_
                          refine Pstep.go (st_assign rfl rfl) ?_
                          refine o_nil ?_
                          refine a_ret ?_
                          exact ⟨_, [], [], res_of rfl, rfl, rfl, retB' (by first | rfl | simp_all), rfl⟩
                      · refine o_pass rfl rfl rfl rfl ?_
                        refine o_pass rfl rfl rfl rfl ?_
                        refine o_pass rfl rfl rfl rfl ?_
                        refine o_passU rfl rfl rfl ?_
                        refine o_passU rfl rfl rfl ?_
                        refine o_pass rfl rfl rfl rfl ?_
                        refine Pstep.go (st_pickF rfl rfl rfl rfl) ?_
                        refine Pstep.go (st_assign rfl rfl) ?_
                        refine o_nil ?_
                        refine a_ret ?_
                        exact ⟨_, [], [], res_of rfl, rfl, rfl, retB' (by first | rfl | simp_all), rfl⟩
                  · refine a_skip ?_
                    refine a_seq ?_
                    have e1 : setlE p a = 0 := by simp_all
                    have e2 : setlE (setlP p a) b = 0 := by simp_all
                    have e3 : setlE p (([] ++ a) ++ b) = 0 := by simp_all
                    have e4 : setlP (setlP p a) b = setlP p (([] ++ a) ++ b) := htw e1 e2 e3
                    refine a_drawn [[], [], [0, 1], [0, 1, 2], [0, 1, 2, 3], [0, 1, 2, 3, 4], [0, 1, 2, 3], [0, 1, 2, 3, 4, 5, 6], [0, 1, 2, 3, 4, 5, 6, 7], [0, 1, 2, 3], [0, 1, 2, 3], [0, 1, 2, 3, 4, 5, 6, 7, 8, 9, 10], [0, 1, 2, 3, 4, 5, 6, 7, 8, 9, 10, 11], [0, 1, 2, 3, 4, 5, 6, 7, 8, 9, 10, 11, 12], [0, 1, 2, 3, 4, 5, 6, 7, 8, 9, 10, 11, 12, 13]] mixed rfl ?_
                    refine dws ?_
                    refine d_pureA [12] rfl rfl (fun _ => gp_none (st_loadPS rfl rfl rw72 rfl rfl rfl)) ?_
                    refine d_pureA [14] rfl rfl (fun _ => gp_none (st_loadPS rfl rfl rw72 rfl rfl rfl)) ?_
                    refine dwc 2 rfl rfl rfl ?_
                    refine dw1 3 rfl rfl ?_
                    refine Pstep.go (st_callP (ceq) rfl rfl) ?_
                    refine o_nil ⟨rfl, ?_⟩
                    refine dw1 4 rfl rfl ?_
                    refine Pstep.go (st_move rfl rfl) ?_
                    refine o_setT 130 rfl ((by rw [e4]; simp)) ?_
                    refine o_nil ⟨rfl, ?_⟩
                    refine dws ?_
                    refine d_pureA [3, 130] rfl rfl (fun _ => gp_run rfl rfl rfl (st_loadPS rfl rfl rw67 rfl rfl rfl)) ?_
                    refine d_pure [131, 130] [] rfl rfl (fun _ => gp_run rfl rfl rfl (st_callP (c1) rfl rfl)) ?_
                    refine d_pureA [5, 130] rfl rfl (fun _ => gp_run rfl rfl rfl (st_loadPS rfl rfl rw67 rfl rfl rfl)) ?_
                    refine d_pure [133, 130] [] rfl rfl (fun _ => gp_run rfl rfl rfl (st_callP (c2) rfl rfl)) ?_
                    refine d_pure [132, 134, 130] [] rfl rfl (fun _ => gp_run rfl rfl rfl (st_callP (ce) rfl rfl)) ?_
                    refine d_pureA [3, 130] rfl rfl (fun _ => gp_run rfl rfl rfl (st_loadPS rfl rfl rw67 rfl rfl rfl)) ?_
                    refine d_pureA [5, 130] rfl rfl (fun _ => gp_run rfl rfl rfl (st_loadPS rfl rfl rw67 rfl rfl rfl)) ?_
                    refine dwc 11 rfl rfl rfl ?_
                    refine dw1 12 rfl rfl ?_
                    refine o_run rfl rfl rfl ?_
                    refine Pstep.go (st_callP (cs) rfl rfl) ?_
                    refine o_nil ⟨rfl, ?_⟩
                    refine dw1 13 rfl rfl ?_
                    refine o_run rfl rfl rfl ?_
                    refine Pstep.go (st_eqlB Try.underlying4 rfl rfl rfl) ?_
                    refine o_nil ⟨rfl, ?_⟩
                    refine dw1 14 rfl rfl ?_
                    refine Pstep.go (st_pickT rfl rfl rfl rfl) ?_
                    refine o_nil ⟨rfl, ?_⟩
                    refine dw1 15 rfl rfl ?_
                    refine Pstep.go (st_assign rfl rfl) ?_
                    refine o_nil ⟨rfl, ?_⟩
                    refine dwe ?_
                    refine a_ret ?_
                    exact ⟨_, [], [], res_of rfl, rfl, rfl, retB' (by simp), rfl⟩
          · try have hk1 : k < p.it.length := lt_cast h44
            refine o_pass rfl rfl rfl rfl ?_
            refine o_pass rfl rfl rfl rfl ?_
            refine o_pass rfl rfl rfl rfl ?_
            refine o_pass rfl rfl rfl rfl ?_
            refine Pstep.go (st_pickF rfl rfl rfl rfl) ?_
            refine o_nil ?_
            refine a_false rfl rfl ?_
            refine a_exit ?_
            refine a_seq ?_
            have hT0 := hT.1
            have hT2 := hT.2.2.2
            have hnd := hT.2.1
            have hin : ∀ x ∈ a ++ b, x ∈ p.it.map Itm.id := fun x hx => (List.Sublist.map Itm.id (List.take_sublist _ _)).subset (hT.2.2.1 x hx)
            have ca := setlE_12 hE (l := a) (List.nodup_append.1 hnd).1 (fun x hx => hin x (List.mem_append_left _ hx))
            have cab := setlE_12 hE (l := ([] ++ a) ++ b) hnd hin
            have hsa := setlP_sml hf a
            have htw := settle_twice (p := p) hnd
            have s1 := settle_p p a hb (by omega) (by omega)
            have s2 := settle_p (setlP p a) b (sml_B hsa) (by omega) (by have := hsa.1; omega)
            have s3 := settle_p p (([] ++ a) ++ b) hb (by simp only [List.nil_append, List.length_append]; omega) (by omega)
            have ceq := equalP_p (setlP (setlP p a) b) (setlP p (([] ++ a) ++ b)) (sml_few (setlP_sml hsa b))
            refine a_freezeM (emb := intD) 7 900 a rfl rfl rfl rfl rfl rfl rfl ?_
            refine a_freezeM (emb := intD) 8 901 b rfl rfl rfl rfl rfl rfl rfl ?_
            refine a_region ?_
            refine Pstep.go (st_loadPS rfl rfl rw67 rfl rfl rfl) ?_
            refine Pstep.go (st_callP (c1) rfl rfl) ?_
            refine Pstep.go (st_move rfl rfl) ?_
            refine Pstep.go (st_callP (s1) rfl rfl) ?_
            refine Pstep.go (st_move rfl rfl) ?_
            refine Pstep.go (st_extractD rfl rfl rfl) ?_
            refine Pstep.go (st_extractD rfl rfl rfl) ?_
            refine Estep.go (st_alloc 9 zl72 rfl rfl rfl rfl) ?_
            refine Estep.go (st_storeP rfl rfl rfl rfl rfl rfl rfl sz72) ?_
            refine Pstep.go (st_assign rfl rfl) ?_
            refine o_nil ?_
            refine a_seq ?_
            refine a_region ?_
            refine Pstep.go (st_loadPS rfl rfl rw72 rfl rfl rfl) ?_
            refine Pstep.go (st_move rfl rfl) ?_
            refine Pstep.go (st_callP (s2) rfl rfl) ?_
            refine Pstep.go (st_move rfl rfl) ?_
            refine Pstep.go (st_extractD rfl rfl rfl) ?_
            refine Pstep.go (st_extractD rfl rfl rfl) ?_
            refine Estep.go (st_alloc 10 zl72 rfl rfl rfl rfl) ?_
            refine Estep.go (st_storeP rfl rfl rfl rfl rfl rfl rfl sz72) ?_
            refine Pstep.go (st_assign rfl rfl) ?_
            refine o_nil ?_
            refine a_seq ?_
            refine a_region ?_
            refine Pstep.go (st_loadPS rfl rfl rw67 rfl rfl rfl) ?_
            refine Pstep.go (st_callP (c1) rfl rfl) ?_
            refine Estep.go (st_buildSlice 60 sl24 rfl rfl rfl rfl rfl rfl rfl rfl) ?_
            refine Pstep.go (st_move rfl rfl) ?_
            refine Estep.go (st_appMD (([] : List Int)) (a) rfl rfl rfl rfl rfl rfl (fun _ => rfl) sl24 (by simp only [List.length_nil]; omega) rfl rfl rfl rfl) ?_
            refine Pstep.go (st_move rfl rfl) ?_
            refine Estep.go (st_appMD (([] ++ a)) (b) rfl rfl rfl rfl rfl rfl (fun _ => rfl) sl24 (by simp only [List.nil_append]; omega) rfl rfl rfl rfl) ?_
            refine o_freezeM (emb := intD) 99 60 (([] ++ a) ++ b) rfl rfl rfl rfl rfl rfl rfl ?_
            refine Pstep.go (st_callP (s3) rfl rfl) ?_
            refine Pstep.go (st_move rfl rfl) ?_
            refine Pstep.go (st_extractD rfl rfl rfl) ?_
            refine Pstep.go (st_extractD rfl rfl rfl) ?_
            refine Estep.go (st_alloc 12 zl72 rfl rfl rfl rfl) ?_
            refine Estep.go (st_storeP rfl rfl rfl rfl rfl rfl rfl sz72) ?_
            refine Pstep.go (st_assign rfl rfl) ?_
            refine o_nil ?_
            refine a_seq ?_
            refine a_seq ?_
            refine a_region ?_
            refine Pstep.go (st_move rfl rfl) ?_
            refine Pstep.go (st_neq rfl rfl rfl) ?_
            refine Pstep.go (st_move rfl rfl) ?_
            refine o_splitP 105 rfl (fun h105 => ?_) (fun h105 => ?_)
            · refine o_pass rfl rfl rfl rfl ?_
              refine o_pass rfl rfl rfl rfl ?_
              refine Pstep.go (st_pickT rfl rfl rfl rfl) ?_
              refine Pstep.go (st_move rfl rfl) ?_
              refine o_pass rfl rfl rfl rfl ?_
              refine o_pass rfl rfl rfl rfl ?_
              refine Pstep.go (st_pickT rfl rfl rfl rfl) ?_
              refine o_nil ?_
              refine a_true rfl rfl ?_
              refine a_seq ?_
              refine a_region ?_
              refine Pstep.go (st_move rfl rfl) ?_
              refine Pstep.go (st_eql rfl rfl rfl) ?_
              refine Pstep.go (st_move rfl rfl) ?_
              refine o_splitP 115 rfl (fun h115 => ?_) (fun h115 => ?_)
              · refine o_pass rfl rfl rfl rfl ?_
                refine o_pass rfl rfl rfl rfl ?_
                refine Pstep.go (st_pickT rfl rfl rfl rfl) ?_
                refine Pstep.go (st_move rfl rfl) ?_
                refine o_run rfl rfl rfl ?_
                refine Pstep.go (st_move rfl rfl) ?_
                refine o_run rfl rfl rfl ?_
                refine Pstep.go (st_eql rfl rfl rfl) ?_
                refine o_run rfl rfl rfl ?_
                refine Pstep.go (st_move rfl rfl) ?_
                refine o_splitP 122 rfl (fun h122 => ?_) (fun h122 => ?_)
                · refine o_pass rfl rfl rfl rfl ?_
                  refine o_pass rfl rfl rfl rfl ?_
                  refine o_run rfl rfl rfl ?_
                  refine Pstep.go (st_pickT rfl rfl rfl rfl) ?_
                  refine Pstep.go (st_pickT rfl rfl rfl rfl) ?_
                  refine Pstep.go (st_assign rfl rfl) ?_
                  refine o_nil ?_
                  refine a_ret ?_
                  exact ⟨_, [], [], res_of rfl, rfl, rfl, retB' (by first | rfl | simp_all), rfl⟩
                · refine o_run rfl rfl rfl ?_
                  refine Pstep.go (st_move rfl rfl) ?_
                  refine o_run rfl rfl rfl ?_
                  refine Pstep.go (st_eql rfl rfl rfl) ?_
                  refine o_run rfl rfl rfl ?_
                  refine Pstep.go (st_pickF rfl rfl rfl rfl) ?_
                  refine Pstep.go (st_pickT rfl rfl rfl rfl) ?_
                  refine Pstep.go (st_assign rfl rfl) ?_
                  refine o_nil ?_
                  refine a_ret ?_
                  exact ⟨_, [], [], res_of rfl, rfl, rfl, retB' (by first | rfl | simp_all), rfl⟩
              · refine o_run rfl rfl rfl ?_
                refine Pstep.go (st_move rfl rfl) ?_
                refine o_run rfl rfl rfl ?_
                refine Pstep.go (st_eql rfl rfl rfl) ?_
                refine Pstep.go (st_pickF rfl rfl rfl rfl) ?_
                refine Pstep.go (st_move rfl rfl) ?_
                refine o_splitP 119 rfl (fun h119 => ?_) (fun h119 => ?_)
                · refine o_run rfl rfl rfl ?_
                  refine Pstep.go (st_move rfl rfl) ?_
                  refine o_run rfl rfl rfl ?_
                  refine Pstep.go (st_eql rfl rfl rfl) ?_
                  refine o_run rfl rfl rfl ?_
                  refine Pstep.go (st_move rfl rfl) ?_
                  refine o_splitP 122 rfl (fun h122 => ?_) (fun h122 => ?_)
                  · refine o_pass rfl rfl rfl rfl ?_
                    refine o_pass rfl rfl rfl rfl ?_
                    refine o_run rfl rfl rfl ?_
                    refine Pstep.go (st_pickT rfl rfl rfl rfl) ?_
                    refine Pstep.go (st_pickT rfl rfl rfl rfl) ?_
                    refine Pstep.go (st_assign rfl rfl) ?_
                    refine o_nil ?_
                    refine a_ret ?_
                    exact ⟨_, [], [], res_of rfl, rfl, rfl, retB' (by first | rfl | simp_all), rfl⟩
                  · refine o_run rfl rfl rfl ?_
                    refine Pstep.go (st_move rfl rfl) ?_
                    refine o_run rfl rfl rfl ?_
                    refine Pstep.go (st_eql rfl rfl rfl) ?_
                    refine o_run rfl rfl rfl ?_
                    refine Pstep.go (st_pickF rfl rfl rfl rfl) ?_
                    refine Pstep.go (st_pickT rfl rfl rfl rfl) ?_
                    refine Pstep.go (st_assign rfl rfl) ?_
                    refine o_nil ?_
                    refine a_ret ?_
                    exact ⟨_, [], [], res_of rfl, rfl, rfl, retB' (by first | rfl | simp_all), rfl⟩
                · refine o_pass rfl rfl rfl rfl ?_
                  refine o_pass rfl rfl rfl rfl ?_
                  refine o_pass rfl rfl rfl rfl ?_
                  refine o_passU rfl rfl rfl ?_
                  refine o_passU rfl rfl rfl ?_
                  refine o_pass rfl rfl rfl rfl ?_
                  refine Pstep.go (st_pickF rfl rfl rfl rfl) ?_
                  refine Pstep.go (st_assign rfl rfl) ?_
                  refine o_nil ?_
                  refine a_ret ?_
                  exact ⟨_, [], [], res_of rfl, rfl, rfl, retB' (by first | rfl | simp_all), rfl⟩
            · refine o_run rfl rfl rfl ?_
              refine Pstep.go (st_move rfl rfl) ?_
              refine o_run rfl rfl rfl ?_
              refine Pstep.go (st_neq rfl rfl rfl) ?_
              refine Pstep.go (st_pickF rfl rfl rfl rfl) ?_
              refine Pstep.go (st_move rfl rfl) ?_
              refine o_splitP 109 rfl (fun h109 => ?_) (fun h109 => ?_)
              · refine o_pass rfl rfl rfl rfl ?_
                refine o_pass rfl rfl rfl rfl ?_
                refine Pstep.go (st_pickT rfl rfl rfl rfl) ?_
                refine o_nil ?_
                refine a_true rfl rfl ?_
                refine a_seq ?_
                refine a_region ?_
                refine Pstep.go (st_move rfl rfl) ?_
                refine Pstep.go (st_eql rfl rfl rfl) ?_
                refine Pstep.go (st_move rfl rfl) ?_
                refine o_splitP 115 rfl (fun h115 => ?_) (fun h115 => ?_)
                · refine o_pass rfl rfl rfl rfl ?_
                  refine o_pass rfl rfl rfl rfl ?_
                  refine Pstep.go (st_pickT rfl rfl rfl rfl) ?_
                  refine Pstep.go (st_move rfl rfl) ?_
                  refine o_run rfl rfl rfl ?_
                  refine Pstep.go (st_move rfl rfl) ?_
                  refine o_run rfl rfl rfl ?_
                  refine Pstep.go (st_eql rfl rfl rfl) ?_
                  refine o_run rfl rfl rfl ?_
                  refine Pstep.go (st_move rfl rfl) ?_
                  refine o_splitP 122 rfl (fun h122 => ?_) (fun h122 => ?_)
                  · refine o_pass rfl rfl rfl rfl ?_
                    refine o_pass rfl rfl rfl rfl ?_
                    refine o_run rfl rfl rfl ?_
                    refine Pstep.go (st_pickT rfl rfl rfl rfl) ?_
                    refine Pstep.go (st_pickT rfl rfl rfl rfl) ?_
                    refine Pstep.go (st_assign rfl rfl) ?_
                    refine o_nil ?_
                    refine a_ret ?_
                    exact ⟨_, [], [], res_of rfl, rfl, rfl, retB' (by first | rfl | simp_all), rfl⟩
                  · refine o_run rfl rfl rfl ?_
                    refine Pstep.go (st_move rfl rfl) ?_
                    refine o_run rfl rfl rfl ?_
                    refine Pstep.go (st_eql rfl rfl rfl) ?_
                    refine o_run rfl rfl rfl ?_
                    refine Pstep.go (st_pickF rfl rfl rfl rfl) ?_
                    refine Pstep.go (st_pickT rfl rfl rfl rfl) ?_
                    refine Pstep.go (st_assign rfl rfl) ?_
                    refine o_nil ?_
                    refine a_ret ?_
                    exact ⟨_, [], [], res_of rfl, rfl, rfl, retB' (by first | rfl | simp_all), rfl⟩
                · refine o_run rfl rfl rfl ?_
                  refine Pstep.go (st_move rfl rfl) ?_
                  refine o_run rfl rfl rfl ?_
                  refine Pstep.go (st_eql rfl rfl rfl) ?_
                  refine Pstep.go (st_pickF rfl rfl rfl rfl) ?_
                  refine Pstep.go (st_move rfl rfl) ?_
                  refine o_splitP 119 rfl (fun h119 => ?_) (fun h119 => ?_)
                  · refine o_run rfl rfl rfl ?_
                    refine Pstep.go (st_move rfl rfl) ?_
                    refine o_run rfl rfl rfl ?_
                    refine Pstep.go (st_eql rfl rfl rfl) ?_
                    refine o_run rfl rfl rfl ?_
                    refine Pstep.go (st_move rfl rfl) ?_
                    refine o_splitP 122 rfl (fun h122 => ?_) (fun h122 => ?_)
                    · refine o_pass rfl rfl rfl rfl ?_
                      refine o_pass rfl rfl rfl rfl ?_
                      refine o_run rfl rfl rfl ?_
                      refine Pstep.go (st_pickT rfl rfl rfl rfl) ?_
                      refine Pstep.go (st_pickT rfl rfl rfl rfl) ?_
                      refine Pstep.go (st_assign rfl rfl) ?_
                      refine o_nil ?_
                      refine a_ret ?_
                      exact ⟨_, [], [], res_of rfl, rfl, rfl, retB' (by first | rfl | simp_all), rfl⟩
                    · refine o_run rfl rfl rfl ?_
                      refine Pstep.go (st_move rfl rfl) ?_
                      refine o_run rfl rfl rfl ?_
                      refine Pstep.go (st_eql rfl rfl rfl) ?_
                      refine o_run rfl rfl rfl ?_
                      refine Pstep.go (st_pickF rfl rfl rfl rfl) ?_
                      refine Pstep.go (st_pickT rfl rfl rfl rfl) ?_
                      refine Pstep.go (st_assign rfl rfl) ?_
                      refine o_nil ?_
                      refine a_ret ?_
                      exact ⟨_, [], [], res_of rfl, rfl, rfl, retB' (by first | rfl | simp_all), rfl⟩
                  · refine o_pass rfl rfl rfl rfl ?_
                    refine o_pass rfl rfl rfl rfl ?_
                    refine o_pass rfl rfl rfl rfl ?_
                    refine o_passU rfl rfl rfl ?_
                    refine o_passU rfl rfl rfl ?_
                    refine o_pass rfl rfl rfl rfl ?_
                    refine Pstep.go (st_pickF rfl rfl rfl rfl) ?_
                    refine Pstep.go (st_assign rfl rfl) ?_
                    refine o_nil ?_
                    refine a_ret ?_
                    exact ⟨_, [], [], res_of rfl, rfl, rfl, retB' (by first | rfl | simp_all), rfl⟩
              · refine o_run rfl rfl rfl ?_
                refine Pstep.go (st_move rfl rfl) ?_
                refine o_run rfl rfl rfl ?_
                refine Pstep.go (st_neq rfl rfl rfl) ?_
                refine Pstep.go (st_pickF rfl rfl rfl rfl) ?_
                refine o_nil ?_
                refine a_if rfl (fun h112 => ?_) (fun h112 => ?_)
                · refine a_seq ?_
                  refine a_region ?_
                  refine Pstep.go (st_move rfl rfl) ?_
                  refine Pstep.go (st_eql rfl rfl rfl) ?_
                  refine Pstep.go (st_move rfl rfl) ?_
                  refine o_splitP 115 rfl (fun h115 => ?_) (fun h115 => ?_)
                  · refine o_pass rfl rfl rfl rfl ?_
                    refine o_pass rfl rfl rfl rfl ?_
                    refine Pstep.go (st_pickT rfl rfl rfl rfl) ?_
                    refine Pstep.go (st_move rfl rfl) ?_
                    refine o_run rfl rfl rfl ?_
                    refine Pstep.go (st_move rfl rfl) ?_
                    refine o_run rfl rfl rfl ?_
                    refine Pstep.go (st_eql rfl rfl rfl) ?_
                    refine o_run rfl rfl rfl ?_
                    refine Pstep.go (st_move rfl rfl) ?_
                    refine o_splitP 122 rfl (fun h122 => ?_) (fun h122 => ?_)
                    · refine o_pass rfl rfl rfl rfl ?_
                      refine o_pass rfl rfl rfl rfl ?_
                      refine o_run rfl rfl rfl ?_
                      refine Pstep.go (st_pickT rfl rfl rfl rfl) ?_
                      refine Pstep.go (st_pickT rfl rfl rfl rfl) ?_
                      refine Pstep.go (st_assign rfl rfl) ?_
                      refine o_nil ?_
                      refine a_ret ?_
                      exact ⟨_, [], [], res_of rfl, rfl, rfl, retB' (by first | rfl | simp_all), rfl⟩
                    · refine o_run rfl rfl rfl ?_
                      refine Pstep.go (st_move rfl rfl) ?_
                      refine o_run rfl rfl rfl ?_
                      refine Pstep.go (st_eql rfl rfl rfl) ?_
                      refine o_run rfl rfl rfl ?_
                      refine Pstep.go (st_pickF rfl rfl rfl rfl) ?_
                      refine Pstep.go (st_pickT rfl rfl rfl rfl) ?_
                      refine Pstep.go (st_assign rfl rfl) ?_
                      refine o_nil ?_
                      refine a_ret ?_
                      exact ⟨_, [], [], res_of rfl, rfl, rfl, retB' (by first | rfl | simp_all), rfl⟩
                  · refine o_run rfl rfl rfl ?_
                    refine Pstep.go (st_move rfl rfl) ?_
                    refine o_run rfl rfl rfl ?_
                    refine Pstep.go (st_eql rfl rfl rfl) ?_
                    refine Pstep.go (st_pickF rfl rfl rfl rfl) ?_
                    refine Pstep.go (st_move rfl rfl) ?_
                    refine o_splitP 119 rfl (fun h119 => ?_) (fun h119 => ?_)
                    · refine o_run rfl rfl rfl ?_
                      refine Pstep.go (st_move rfl rfl) ?_
                      refine o_run rfl rfl rfl ?_
                      refine Pstep.go (st_eql rfl rfl rfl) ?_
                      refine o_run rfl rfl rfl ?_
                      refine Pstep.go (st_move rfl rfl) ?_
                      refine o_splitP 122 rfl (fun h122 => ?_) (fun h122 => ?_)
                      · refine o_pass rfl rfl rfl rfl ?_
                        refine o_pass rfl rfl rfl rfl ?_
                        refine o_run rfl rfl rfl ?_
                        refine Pstep.go (st_pickT rfl rfl rfl rfl) ?_
                        refine Pstep.go (st_pickT rfl rfl rfl rfl) ?_
                        refine Pstep.go (st_assign rfl rfl) ?_
                        refine o_nil ?_
                        refine a_ret ?_
                        exact ⟨_, [], [], res_of rfl, rfl, rfl, retB' (by first | rfl | simp_all), rfl⟩
                      · refine o_run rfl rfl rfl ?_
                        refine Pstep.go (st_move rfl rfl) ?_
                        refine o_run rfl rfl rfl ?_
                        refine Pstep.go (st_eql rfl rfl rfl) ?_
                        refine o_run rfl rfl rfl ?_
                        refine Pstep.go (st_pickF rfl rfl rfl rfl) ?_
                        refine Pstep.go (st_pickT rfl rfl rfl rfl) ?_
                        refine Pstep.go (st_assign rfl rfl) ?_
                        refine o_nil ?_
                        refine a_ret ?_
                        exact ⟨_, [], [], res_of rfl, rfl, rfl, retB' (by first | rfl | simp_all), rfl⟩
                    · refine o_pass rfl rfl rfl rfl ?_
                      refine o_pass rfl rfl rfl rfl ?_
                      refine o_pass rfl rfl rfl rfl ?_
                      refine o_passU rfl rfl rfl ?_
                      refine o_passU rfl rfl rfl ?_
                      refine o_pass rfl rfl rfl rfl ?_
                      refine Pstep.go (st_pickF rfl rfl rfl rfl) ?_
                      refine Pstep.go (st_assign rfl rfl) ?_
                      refine o_nil ?_
                      refine a_ret ?_
                      exact ⟨_, [], [], res_of rfl, rfl, rfl, retB' (by first | rfl | simp_all), rfl⟩
                · refine a_skip ?_
                  refine a_seq ?_
                  have e1 : setlE p a = 0 := by simp_all
                  have e2 : setlE (setlP p a) b = 0 := by simp_all
                  have e3 : setlE p (([] ++ a) ++ b) = 0 := by simp_all
                  have e4 : setlP (setlP p a) b = setlP p (([] ++ a) ++ b) := htw e1 e2 e3
                  refine a_drawn [[], [], [0, 1], [0, 1, 2], [0, 1, 2, 3], [0, 1, 2, 3, 4], [0, 1, 2, 3], [0, 1, 2, 3, 4, 5, 6], [0, 1, 2, 3, 4, 5, 6, 7], [0, 1, 2, 3], [0, 1, 2, 3], [0, 1, 2, 3, 4, 5, 6, 7, 8, 9, 10], [0, 1, 2, 3, 4, 5, 6, 7, 8, 9, 10, 11], [0, 1, 2, 3, 4, 5, 6, 7, 8, 9, 10, 11, 12], [0, 1, 2, 3, 4, 5, 6, 7, 8, 9, 10, 11, 12, 13]] mixed rfl ?_
                  refine dws ?_
                  refine d_pureA [12] rfl rfl (fun _ => gp_none (st_loadPS rfl rfl rw72 rfl rfl rfl)) ?_
                  refine d_pureA [14] rfl rfl (fun _ => gp_none (st_loadPS rfl rfl rw72 rfl rfl rfl)) ?_
                  refine dwc 2 rfl rfl rfl ?_
                  refine dw1 3 rfl rfl ?_
                  refine Pstep.go (st_callP (ceq) rfl rfl) ?_
                  refine o_nil ⟨rfl, ?_⟩
                  refine dw1 4 rfl rfl ?_
                  refine Pstep.go (st_move rfl rfl) ?_
                  refine o_setT 130 rfl ((by rw [e4]; simp)) ?_
                  refine o_nil ⟨rfl, ?_⟩
                  refine dws ?_
                  refine d_pureA [3, 130] rfl rfl (fun _ => gp_run rfl rfl rfl (st_loadPS rfl rfl rw67 rfl rfl rfl)) ?_
                  refine d_pure [131, 130] [] rfl rfl (fun _ => gp_run rfl rfl rfl (st_callP (c1) rfl rfl)) ?_
                  refine d_pureA [5, 130] rfl rfl (fun _ => gp_run rfl rfl rfl (st_loadPS rfl rfl rw67 rfl rfl rfl)) ?_
                  refine d_pure [133, 130] [] rfl rfl (fun _ => gp_run rfl rfl rfl (st_callP (c2) rfl rfl)) ?_
                  refine d_pure [132, 134, 130] [] rfl rfl (fun _ => gp_run rfl rfl rfl (st_callP (ce) rfl rfl)) ?_
                  refine d_pureA [3, 130] rfl rfl (fun _ => gp_run rfl rfl rfl (st_loadPS rfl rfl rw67 rfl rfl rfl)) ?_
                  refine d_pureA [5, 130] rfl rfl (fun _ => gp_run rfl rfl rfl (st_loadPS rfl rfl rw67 rfl rfl rfl)) ?_
                  refine dwc 11 rfl rfl rfl ?_
                  refine dw1 12 rfl rfl ?_
                  refine o_run rfl rfl rfl ?_
                  refine Pstep.go (st_callP (cs) rfl rfl) ?_
                  refine o_nil ⟨rfl, ?_⟩
                  refine dw1 13 rfl rfl ?_
                  refine o_run rfl rfl rfl ?_
                  refine Pstep.go (st_eqlB Try.underlying4 rfl rfl rfl) ?_
                  refine o_nil ⟨rfl, ?_⟩
                  refine dw1 14 rfl rfl ?_
                  refine Pstep.go (st_pickT rfl rfl rfl rfl) ?_
                  refine o_nil ⟨rfl, ?_⟩
                  refine dw1 15 rfl rfl ?_
                  refine Pstep.go (st_assign rfl rfl) ?_
                  refine o_nil ⟨rfl, ?_⟩
                  refine dwe ?_
                  refine a_ret ?_
                  exact ⟨_, [], [], res_of rfl, rfl, rfl, retB' (by simp), rfl⟩
        · have hw2 : 20 < which.length := by omega
          refine a_enter Try.func10 rfl rfl Try.ntmps10 rfl rfl rfl fun F hF => ?_
          refine a_seq ?_
          refine a_region ?_
          refine Estep.go (st_box 1 rfl rfl rfl rfl rfl rfl rfl) ?_
          refine Estep.go (st_box 2 rfl rfl rfl rfl rfl rfl rfl) ?_
          refine Pstep.go (st_assign rfl rfl) ?_
          refine o_nil ?_
          refine a_seq ?_
          refine a_seq ?_
          refine a_region ?_
          refine Pstep.go (st_callP (hk) rfl rfl) ?_
          refine Pstep.go (st_not rfl rfl) ?_
          refine Pstep.go (st_move rfl rfl) ?_
          refine o_setF 18 rfl (rfl) ?_
          refine o_run rfl rfl rfl ?_
          refine Pstep.go (st_loadPS rfl rfl rw67 rfl rfl rfl) ?_
          refine o_run rfl rfl rfl ?_
          refine Pstep.go (st_callP (hs) rfl rfl) ?_
          refine o_run rfl rfl rfl ?_
          refine Pstep.go (st_not rfl rfl) ?_
          refine Pstep.go (st_pickF rfl rfl rfl rfl) ?_
          refine Pstep.go (st_move rfl rfl) ?_
          refine o_setF 23 rfl (rfl) ?_
          refine o_run rfl rfl rfl ?_
          refine Pstep.go (st_loadPS rfl rfl rw67 rfl rfl rfl) ?_
          refine o_run rfl rfl rfl ?_
          refine Pstep.go (st_callP (hso) rfl rfl) ?_
          refine o_run rfl rfl rfl ?_
          refine Pstep.go (st_not rfl rfl) ?_
          refine Pstep.go (st_pickF rfl rfl rfl rfl) ?_
          refine Pstep.go (st_move rfl rfl) ?_
          refine o_setF 28 rfl (rfl) ?_
          refine o_run rfl rfl rfl ?_
          refine Pstep.go (st_loadPS rfl rfl rw67 rfl rfl rfl) ?_
          refine o_run rfl rfl rfl ?_
          refine Pstep.go (st_callP (cc) rfl rfl) ?_
          refine o_run rfl rfl rfl ?_
          refine Pstep.go (st_neq rfl rfl rfl) ?_
          refine Pstep.go (st_pickF rfl rfl rfl rfl) ?_
          refine Pstep.go (st_move rfl rfl) ?_
          refine o_setF 33 rfl ((by simp)) ?_
          refine o_run rfl rfl rfl ?_
          refine Pstep.go (st_move rfl rfl) ?_
          refine o_run rfl rfl rfl ?_
          refine Pstep.go (st_lenMap rfl Try.underlying100 rfl) ?_
          refine o_run rfl rfl rfl ?_
          refine Pstep.go (st_gtr rfl rfl rfl) ?_
          refine Pstep.go (st_pickF rfl rfl rfl rfl) ?_
          refine o_nil ?_
          refine a_true rfl ((decide_eq_true (by omega))) ?_
          refine a_seq ?_
          refine a_region ?_
          refine Pstep.go (st_callP (hk) rfl rfl) ?_
          refine Pstep.go (st_assign rfl rfl) ?_
          refine o_nil ?_
          refine a_ret ?_
          exact ⟨_, [], [], res_of rfl, rfl, rfl, rfl, rfl⟩
      · have _h := hE
        refine a_enter Try.func10 rfl rfl Try.ntmps10 rfl rfl rfl fun F hF => ?_
        refine a_seq ?_
        refine a_region ?_
        refine Estep.go (st_box 1 rfl rfl rfl rfl rfl rfl rfl) ?_
        refine Estep.go (st_box 2 rfl rfl rfl rfl rfl rfl rfl) ?_
        refine Pstep.go (st_assign rfl rfl) ?_
        refine o_nil ?_
        refine a_seq ?_
        refine a_seq ?_
        refine a_region ?_
        refine Pstep.go (st_callP (hk) rfl rfl) ?_
        refine Pstep.go (st_not rfl rfl) ?_
        refine Pstep.go (st_move rfl rfl) ?_
        refine o_setF 18 rfl (rfl) ?_
        refine o_run rfl rfl rfl ?_
        refine Pstep.go (st_loadPS rfl rfl rw67 rfl rfl rfl) ?_
        refine o_run rfl rfl rfl ?_
        refine Pstep.go (st_callP (hs) rfl rfl) ?_
        refine o_run rfl rfl rfl ?_
        refine Pstep.go (st_not rfl rfl) ?_
        refine Pstep.go (st_pickF rfl rfl rfl rfl) ?_
        refine Pstep.go (st_move rfl rfl) ?_
        refine o_setF 23 rfl (rfl) ?_
        refine o_run rfl rfl rfl ?_
        refine Pstep.go (st_loadPS rfl rfl rw67 rfl rfl rfl) ?_
        refine o_run rfl rfl rfl ?_
        refine Pstep.go (st_callP (hso) rfl rfl) ?_
        refine o_run rfl rfl rfl ?_
        refine Pstep.go (st_not rfl rfl) ?_
        refine Pstep.go (st_pickF rfl rfl rfl rfl) ?_
        refine Pstep.go (st_move rfl rfl) ?_
        refine o_setF 28 rfl (rfl) ?_
        refine o_run rfl rfl rfl ?_
        refine Pstep.go (st_loadPS rfl rfl rw67 rfl rfl rfl) ?_
        refine o_run rfl rfl rfl ?_
        refine Pstep.go (st_callP (cc) rfl rfl) ?_
        refine o_run rfl rfl rfl ?_
        refine Pstep.go (st_neq rfl rfl rfl) ?_
        refine Pstep.go (st_pickF rfl rfl rfl rfl) ?_
        refine Pstep.go (st_move rfl rfl) ?_
        refine o_setT 33 rfl ((decide_eq_true hE)) ?_
        refine o_pass rfl rfl rfl rfl ?_
        refine o_pass rfl rfl rfl rfl ?_
        refine o_pass rfl rfl rfl rfl ?_
        refine Pstep.go (st_pickT rfl rfl rfl rfl) ?_
        refine o_nil ?_
        refine a_true rfl rfl ?_
        refine a_seq ?_
        refine a_region ?_
        refine Pstep.go (st_callP (hk) rfl rfl) ?_
        refine Pstep.go (st_assign rfl rfl) ?_
        refine o_nil ?_
        refine a_ret ?_
        exact ⟨_, [], [], res_of rfl, rfl, rfl, rfl, rfl⟩
    · rw [decide_eq_false hfo] at hso
      refine a_enter Try.func10 rfl rfl Try.ntmps10 rfl rfl rfl fun F hF => ?_
      refine a_seq ?_
      refine a_region ?_
      refine Estep.go (st_box 1 rfl rfl rfl rfl rfl rfl rfl) ?_
      refine Estep.go (st_box 2 rfl rfl rfl rfl rfl rfl rfl) ?_
      refine Pstep.go (st_assign rfl rfl) ?_
      refine o_nil ?_
      refine a_seq ?_
      refine a_seq ?_
      refine a_region ?_
      refine Pstep.go (st_callP (hk) rfl rfl) ?_
      refine Pstep.go (st_not rfl rfl) ?_
      refine Pstep.go (st_move rfl rfl) ?_
      refine o_setF 18 rfl (rfl) ?_
      refine o_run rfl rfl rfl ?_
      refine Pstep.go (st_loadPS rfl rfl rw67 rfl rfl rfl) ?_
      refine o_run rfl rfl rfl ?_
      refine Pstep.go (st_callP (hs) rfl rfl) ?_
      refine o_run rfl rfl rfl ?_
      refine Pstep.go (st_not rfl rfl) ?_
      refine Pstep.go (st_pickF rfl rfl rfl rfl) ?_
      refine Pstep.go (st_move rfl rfl) ?_
      refine o_setF 23 rfl (rfl) ?_
      refine o_run rfl rfl rfl ?_
      refine Pstep.go (st_loadPS rfl rfl rw67 rfl rfl rfl) ?_
      refine o_run rfl rfl rfl ?_
      refine Pstep.go (st_callP (hso) rfl rfl) ?_
      refine o_run rfl rfl rfl ?_
      refine Pstep.go (st_not rfl rfl) ?_
      refine Pstep.go (st_pickF rfl rfl rfl rfl) ?_
      refine Pstep.go (st_move rfl rfl) ?_
      refine o_setT 28 rfl (rfl) ?_
      refine o_pass rfl rfl rfl rfl ?_
      refine o_pass rfl rfl rfl rfl ?_
      refine o_pass rfl rfl rfl rfl ?_
      refine Pstep.go (st_pickT rfl rfl rfl rfl) ?_
      refine Pstep.go (st_move rfl rfl) ?_
      refine o_pass rfl rfl rfl rfl ?_
      refine o_pass rfl rfl rfl rfl ?_
      refine o_pass rfl rfl rfl rfl ?_
      refine Pstep.go (st_pickT rfl rfl rfl rfl) ?_
      refine o_nil ?_
      refine a_true rfl rfl ?_
      refine a_seq ?_
      refine a_region ?_
      refine Pstep.go (st_callP (hk) rfl rfl) ?_
      refine Pstep.go (st_assign rfl rfl) ?_
      refine o_nil ?_
      refine a_ret ?_
      exact ⟨_, [], [], res_of rfl, rfl, rfl, rfl, rfl⟩
  · rw [decide_eq_false hf] at hs
    refine a_enter Try.func10 rfl rfl Try.ntmps10 rfl rfl rfl fun F hF => ?_
    refine a_seq ?_
    refine a_region ?_
    refine Estep.go (st_box 1 rfl rfl rfl rfl rfl rfl rfl) ?_
    refine Estep.go (st_box 2 rfl rfl rfl rfl rfl rfl rfl) ?_
    refine Pstep.go (st_assign rfl rfl) ?_
    refine o_nil ?_
    refine a_seq ?_
    refine a_seq ?_
    refine a_region ?_
    refine Pstep.go (st_callP (hk) rfl rfl) ?_
    refine Pstep.go (st_not rfl rfl) ?_
    refine Pstep.go (st_move rfl rfl) ?_
    refine o_setF 18 rfl (rfl) ?_
    refine o_run rfl rfl rfl ?_
    refine Pstep.go (st_loadPS rfl rfl rw67 rfl rfl rfl) ?_
    refine o_run rfl rfl rfl ?_
    refine Pstep.go (st_callP (hs) rfl rfl) ?_
    refine o_run rfl rfl rfl ?_
    refine Pstep.go (st_not rfl rfl) ?_
    refine Pstep.go (st_pickF rfl rfl rfl rfl) ?_
    refine Pstep.go (st_move rfl rfl) ?_
    refine o_setT 23 rfl (rfl) ?_
    refine o_pass rfl rfl rfl rfl ?_
    refine o_pass rfl rfl rfl rfl ?_
    refine o_pass rfl rfl rfl rfl ?_
    refine Pstep.go (st_pickT rfl rfl rfl rfl) ?_
    refine Pstep.go (st_move rfl rfl) ?_
    refine o_pass rfl rfl rfl rfl ?_
    refine o_pass rfl rfl rfl rfl ?_
    refine o_pass rfl rfl rfl rfl ?_
    refine Pstep.go (st_pickT rfl rfl rfl rfl) ?_
    refine Pstep.go (st_move rfl rfl) ?_
    refine o_pass rfl rfl rfl rfl ?_
    refine o_pass rfl rfl rfl rfl ?_
    refine o_pass rfl rfl rfl rfl ?_
    refine Pstep.go (st_pickT rfl rfl rfl rfl) ?_
    refine o_nil ?_
    refine a_true rfl rfl ?_
    refine a_seq ?_
    refine a_region ?_
    refine Pstep.go (st_callP (hk) rfl rfl) ?_
    refine Pstep.go (st_assign rfl rfl) ?_
    refine o_nil ?_
    refine a_ret ?_
    exact ⟨_, [], [], res_of rfl, rfl, rfl, rfl, rfl⟩
end Go.Proofs.Ytfmpiabmnjmobaa
