/- record.Scan, the reference's Scan and Sames, as contracts over frozen data. -/
import Derived.Test.YtnflcmpdaoobcaaSeq
import Derived.Test.YtnflcmpdaoobcaaSames
namespace Go.Proofs.Ytnflcmpdaoobcaa
open Go.RowKit

theorem next_gen {f : FuncId} {fn : Func} (hf : Try.prog.funcs[f]? = some fn) (hname : (fn.name == "runtime.NumGoroutine") = false) (hb : fn.body.isSome = true) (l p : List UInt8) (x y : Nat) (hx : nextL l = (p, x, y))
    (hc : ∀ (A : Option Addr) (c : Nat) (w : World), Reads w w.heap.size 1 A l.length (l.map bv) → l.length ≤ c → Calls Try.prog f #[.slice A l.length c] w (NextPost w l)) : PCalls Try.prog f [.d (bytesD l)] (.tup [bytesD p, .raw (.int .i64 (x : Int)), .raw (.int .i64 (y : Int))]) := by
  refine ⟨⟨fn, hf, hname, hb⟩, fun F ρ vs h1 h2 h2' h3 h4 h5 => ?_⟩
  obtain ⟨v, rfl⟩ := List.length_eq_one_iff.1 h4
  have h0 := h5 0 _ v rfl rfl
  cases h0 with
  | d h0 =>
    obtain ⟨A, c, rfl, q1, q2, q3⟩ := bytesD_reads h0
    refine (hc A c F.w0 q3 q1).mono ?_
    unfold NextPost
    rw [hx]
    rintro e w' ⟨u, rfl, hown, hb⟩
    obtain ⟨A', c', rfl, hc'⟩ := own_slice_eq hown
    have hh : Heap F [(0, [.rowD 5 1 (p.map byteD)])] (upd ρ 0 0 (.slice A' p.length c')) w' := Heap.gain h3 h2 0 rfl rfl hown hb
    have hsr : SR F ⟨1, [(0, .own 0 0 p.length)], [(0, [.rowD 5 1 (p.map byteD)])]⟩ (upd ρ 0 0 (.slice A' p.length c')) { tmps := #[.slice A' p.length c'], defers := [] } w' := by
      refine ⟨rfl, .nil, fun t a ha => ?_, hh⟩
      rcases get_cons ha with ⟨rfl, rfl⟩ | ⟨_, ha⟩
      · exact .own upd_same (Nat.le_refl _)
      · cases ha
    have hfr := hsr.freeze (E := 5) (kk := 1) (xs := p.map byteD) (ys := p.map byteD) (env' := [(0, .top)]) (hp1 := [(0, [.rowD 5 1 (p.map byteD)])]) (hp' := []) 0 0 rfl (by simp [hget, hfam]) (by simp) (by rw [List.take_of_length_le (by simp)]) rfl rfl rfl rfl
    refine ⟨_, _, [], upd ρ 0 0 (.slice A' p.length c'), rfl, ⟨rfl, rfl⟩, ?_, hfr.heap⟩
    show RepA _ _ _ _ (.tuple [Value.slice A' p.length c', Value.int .i64 (x : Int), Value.int .i64 (y : Int)].toArray)
    refine tupD (l := [bytesD p, .raw (.int .i64 (x : Int)), .raw (.int .i64 (y : Int))]) rfl fun i a v ha hv => ?_
    rcases i with _ | _ | _ | i
    · simp at ha hv; subst ha hv; exact hfr.env 0 _ rfl
    · simp at ha hv; subst ha hv; exact .d (.raw rfl)
    · simp at ha hv; subst ha hv; exact .d (.raw rfl)
    · simp at ha
theorem refnext_p (l : List UInt8) (hn : l.length ≤ 140737488355328) (p : List UInt8) (x y : Nat) (hx : nextL l = (p, x, y)) : PCalls Try.prog 23 [.d (bytesD l)] (.tup [bytesD p, .raw (.int .i64 (x : Int)), .raw (.int .i64 (y : Int))]) :=
  next_gen Try.func23 rfl rfl l p x y hx fun A c w hr hc => refnext_any l A c _ w (Nat.le_refl _) hr hn hc

/-- Where a scan stands. -/
def ScSt (b : List UInt8) (f i : Nat) (acc : List (List UInt8)) : Prop := i ≤ b.length ∧ b.length ≤ i + f ∧ acc.length ≤ i ∧ acc ++ (scanL f (b.drop i)).1 = (scanL b.length b).1 ∧ i + (scanL f (b.drop i)).2.1 = (scanL b.length b).2.1 ∧ (scanL f (b.drop i)).2.2 = (scanL b.length b).2.2
theorem ScSt.start (b : List UInt8) : ScSt b b.length 0 [] := ⟨Nat.zero_le _, by omega, Nat.le_refl _, by simp, by simp, by simp⟩
theorem ScSt.next {b p : List UInt8} {f i x y : Nat} {acc : List (List UInt8)} (h : ScSt b f i acc) (hx : nextL (b.drop i) = (p, x, y)) (hi : i < b.length) (hy : (y : Int) = 0) : ScSt b (f - 1) (i + x) (acc ++ [p]) := by
  obtain ⟨h1, h2, h3, h4, h5, h6⟩ := h
  have hs := next_size3 hx hy
  have hf : f = (f - 1) + 1 := by omega
  have hd : scanL f (b.drop i) = (p :: (scanL (f - 1) (b.drop (i + x))).1, x + (scanL (f - 1) (b.drop (i + x))).2.1, (scanL (f - 1) (b.drop (i + x))).2.2) := by
    have hy' : y = 0 := by omega
    have hl : ¬ (b.drop i).length = 0 := by rw [List.length_drop]; omega
    rw [hf, scanL, if_neg hl, hx]
    simp only [hy', if_true, List.drop_drop, Nat.add_sub_cancel]
  rw [hd] at h4 h5 h6
  exact ⟨by omega, by omega, by simp; omega, by rw [← h4]; simp, by rw [← h5]; simp only []; omega, h6⟩
theorem ScSt.stop {b p : List UInt8} {f i x y : Nat} {acc : List (List UInt8)} (h : ScSt b f i acc) (hx : nextL (b.drop i) = (p, x, y)) (hi : i < b.length) (hy : ¬ (y : Int) = 0) : scanL b.length b = (acc, i, y) := by
  obtain ⟨h1, h2, h3, h4, h5, h6⟩ := h
  have hf : f = (f - 1) + 1 := by omega
  have hd : scanL f (b.drop i) = ([], 0, y) := by
    have hy' : ¬ y = 0 := by omega
    have hl : ¬ (b.drop i).length = 0 := by rw [List.length_drop]; omega
    rw [hf, scanL, if_neg hl, hx]
    simp only [hy', if_false]
  rw [hd] at h4 h5 h6
  simp only [List.append_nil, Nat.add_zero] at h4 h5 h6
  rw [h4, h5, h6]
theorem ScSt.done {b : List UInt8} {f i : Nat} {acc : List (List UInt8)} (h : ScSt b f i acc) (hi : ¬ i < b.length) : scanL b.length b = (acc, i, 0) := by
  obtain ⟨h1, h2, h3, h4, h5, h6⟩ := h
  have hd : scanL f (b.drop i) = ([], 0, 0) := by
    have hl : (b.drop i).length = 0 := by rw [List.length_drop]; omega
    cases f with
    | zero => rfl
    | succ f => rw [scanL, if_pos hl]
  rw [hd] at h4 h5 h6
  simp only [List.append_nil, Nat.add_zero] at h4 h5 h6
  rw [h4, h5, h6]

theorem scan_p (b : List UInt8) (hb : b.length ≤ 1000000000) : PCalls Try.prog 24 [.d (bytesD b)] (.tup [.sl none ((scanL b.length b).1.map bytesD), .raw (.int .i64 ((scanL b.length b).2.1 : Int)), .raw (.int .i64 ((scanL b.length b).2.2 : Int))]) := by
  refine a_enter Try.func24 rfl rfl Try.ntmps24 rfl rfl rfl fun F hF => ?_
  refine a_seq ?_
  refine a_region ?_
  refine Pstep.go (st_assign rfl rfl) ?_
  refine Pstep.go (st_assign rfl rfl) ?_
  refine Pstep.go (st_assign rfl rfl) ?_
  refine o_nil ?_
  refine a_seq ?_
  refine a_region ?_
  refine Pstep.go (st_assign rfl rfl) ?_
  refine o_nil ?_
  refine a_seq ?_
  refine a_region ?_
  refine Pstep.go (st_assign rfl rfl) ?_
  refine o_nil ?_
  refine a_seq ?_
  refine a_block ?_
  refine a_adopt 5 900 sl29 rfl rfl rfl rfl ?_
  refine a_loopP (α := Nat × Nat × List (List UInt8)) (fun q => ⟨36, [(0, .d (bytesD b)), (5, (.own 900 0 q.2.2.length)), (6, (.d (.raw (.int .i64 (q.2.1 : Int)))))], [(900, [.rowD 22 1 (q.2.2.map bytesD)])]⟩) (fun q => ScSt b q.1 q.2.1 q.2.2) (fun q => b.length - q.2.1) ((b.length, 0, [])) (ScSt.start b) (lep_of hF [900] rfl rfl ⟨rfl, rfl, rfl, trivial⟩) ?_
  rintro ⟨f, i, acc⟩ hst
  dsimp only at hst ⊢
  have hac := hst.2.2.1
  have hi0 := hst.1
  refine a_seq ?_
  refine a_seq ?_
  refine a_region ?_
  refine Pstep.go (st_move rfl rfl) ?_
  refine Pstep.go (st_move rfl rfl) ?_
  first | refine Pstep.go (st_lenMap rfl Try.underlying22 rfl) ?_ | refine Pstep.go (st_lenD rfl rfl Try.underlying22 rfl) ?_ | refine Pstep.go (st_lenO rfl Try.underlying22 rfl) ?_ | refine Pstep.go (st_lenSL rfl Try.underlying22 rfl) ?_ | refine Pstep.go (st_lenS rfl Try.underlying22 rfl) ?_
  first | refine Pstep.go (st_lss rfl rfl rfl) ?_ | refine Pstep.go (st_lssS rfl rfl rfl) ?_
  refine o_nil ?_
  first | refine a_if rfl (fun h13 => ?_) (fun h13 => ?_) | refine a_cond rfl (fun h13 => ?_) (fun h13 => ?_)
  · have hlt : i < b.length := by have h := h13; omega
    refine a_skip ?_
    refine a_block ?_
    refine a_seq ?_
    refine a_region ?_
    refine Pstep.go (st_move rfl rfl) ?_
    refine Pstep.go (st_move rfl rfl) ?_
    refine Pstep.go (st_sliceLoM (b) (i) rfl rfl rfl (rfl) (by omega) Try.underlying22 sz5 (fun _ => rfl) rfl) ?_
    have hxy0 : ∃ p x y, nextL (b.drop i) = (p, x, y) := ⟨_, _, _, rfl⟩
    obtain ⟨p, x, y, hxy⟩ := hxy0
    refine Pstep.go (st_callP (next_p (b.drop i) (by simp; omega) p x y hxy) rfl rfl) ?_
    refine Pstep.go (st_move rfl rfl) ?_
    first | refine Pstep.go (st_extractD rfl rfl rfl) ?_ | refine Pstep.go (st_extract rfl rfl rfl) ?_
    first | refine Pstep.go (st_extractD rfl rfl rfl) ?_ | refine Pstep.go (st_extract rfl rfl rfl) ?_
    first | refine Pstep.go (st_extractD rfl rfl rfl) ?_ | refine Pstep.go (st_extract rfl rfl rfl) ?_
    refine Pstep.go (st_assign rfl rfl) ?_
    refine Pstep.go (st_assign rfl rfl) ?_
    refine Pstep.go (st_assign rfl rfl) ?_
    refine o_nil ?_
    refine a_seq ?_
    refine a_seq ?_
    refine a_region ?_
    refine Pstep.go (st_move rfl rfl) ?_
    first | refine Pstep.go (st_neq rfl rfl rfl) ?_ | refine Pstep.go (st_neqSL rfl rfl rfl) ?_ | refine Pstep.go (st_neqS rfl rfl rfl) ?_ | refine Pstep.go (st_neqB Try.underlying31 rfl rfl rfl) ?_ | refine Pstep.go (st_neqP Try.underlying31 rfl rfl rfl) ?_ | refine Pstep.go (st_neqN Try.underlying31 rfl rfl) ?_ | refine Pstep.go (st_neqF Try.underlying31 rfl rfl rfl) ?_ | refine Pstep.go (st_neqFN Try.underlying31 rfl rfl) ?_
    refine o_nil ?_
    first | refine a_if rfl (fun h23 => ?_) (fun h23 => ?_) | refine a_cond rfl (fun h23 => ?_) (fun h23 => ?_)
    · refine a_seq ?_
      have hres := hst.stop hxy hlt h23
      refine a_freezeM (emb := bytesD) 5 900 acc rfl rfl rfl rfl rfl rfl rfl ?_
      refine a_region ?_
      refine Pstep.go (st_move rfl rfl) ?_
      refine Pstep.go (st_move rfl rfl) ?_
      refine Pstep.go (st_move rfl rfl) ?_
      refine Pstep.go (st_assign rfl rfl) ?_
      refine Pstep.go (st_assign rfl rfl) ?_
      refine Pstep.go (st_assign rfl rfl) ?_
      refine o_nil ?_
      refine a_ret ?_
      exact ⟨_, [], [], res_of rfl, rfl, rfl, by rw [hres] <;> rfl, rfl⟩
    · have hy0 : (y : Int) = 0 := Classical.byContradiction fun h => h23 h
      refine a_skip ?_
      refine a_seq ?_
      refine a_region ?_
      refine Pstep.go (st_move rfl rfl) ?_
      refine Pstep.go (st_move rfl rfl) ?_
      refine Estep.go (st_buildSlice 1 sl29 rfl rfl rfl rfl rfl rfl rfl rfl) ?_
      first | refine Estep.go (st_appM (acc) ([p]) rfl rfl rfl rfl rfl rfl rfl rfl sl29 (by show (acc.length + 1) * 24 ≤ _; omega) rfl rfl rfl rfl) ?_ | refine Estep.go (st_appMD (acc) ([p]) rfl rfl rfl rfl rfl rfl (fun _ => rfl) sl29 (by show (acc.length + 1) * 24 ≤ _; omega) rfl rfl rfl rfl) ?_
      refine Pstep.go (st_assign rfl rfl) ?_
      refine o_nil ?_
      refine a_region ?_
      refine Pstep.go (st_move rfl rfl) ?_
      refine Pstep.go (st_move rfl rfl) ?_
      refine Pstep.go (st_add rfl rfl (wrapS _ (by have h := next_size3 hxy hy0; omega)) rfl) ?_
      refine Pstep.go (st_assign rfl rfl) ?_
      refine o_nil ?_
      exact ⟨(f - 1, i + x, acc ++ [p]), hst.next hxy hlt hy0, by have h := next_size3 hxy hy0; show b.length - (i + x) < b.length - i; omega, lep_of hF [900] rfl (rfl) ⟨rfl, rfl, rfl, trivial⟩⟩
  · refine a_exit ?_
    refine a_seq ?_
    have hres := hst.done (by have h := h13; omega)
    refine a_freezeM (emb := bytesD) 5 900 acc rfl rfl rfl rfl rfl rfl rfl ?_
    refine a_region ?_
    refine Pstep.go (st_move rfl rfl) ?_
    refine Pstep.go (st_move rfl rfl) ?_
    refine Pstep.go (st_assign rfl rfl) ?_
    refine Pstep.go (st_assign rfl rfl) ?_
    refine Pstep.go (st_assign rfl rfl) ?_
    refine o_nil ?_
    refine a_ret ?_
    exact ⟨_, [], [], res_of rfl, rfl, rfl, by rw [hres] <;> rfl, rfl⟩
theorem refscan_p (b : List UInt8) (hb : b.length ≤ 1000000000) : PCalls Try.prog 26 [.d (bytesD b)] (.tup [.sl none ((scanL b.length b).1.map bytesD), .raw (.int .i64 ((scanL b.length b).2.1 : Int)), .raw (.int .i64 ((scanL b.length b).2.2 : Int))]) := by
  refine a_enter Try.func26 rfl rfl Try.ntmps26 rfl rfl rfl fun F hF => ?_
  refine a_seq ?_
  refine a_region ?_
  refine Pstep.go (st_assign rfl rfl) ?_
  refine Pstep.go (st_assign rfl rfl) ?_
  refine Pstep.go (st_assign rfl rfl) ?_
  refine o_nil ?_
  refine a_seq ?_
  refine a_region ?_
  refine Pstep.go (st_assign rfl rfl) ?_
  refine o_nil ?_
  refine a_seq ?_
  refine a_region ?_
  refine Pstep.go (st_assign rfl rfl) ?_
  refine o_nil ?_
  refine a_seq ?_
  refine a_block ?_
  refine a_adopt 5 900 sl29 rfl rfl rfl rfl ?_
  refine a_loopP (α := Nat × Nat × List (List UInt8)) (fun q => ⟨36, [(0, .d (bytesD b)), (5, (.own 900 0 q.2.2.length)), (6, (.d (.raw (.int .i64 (q.2.1 : Int)))))], [(900, [.rowD 22 1 (q.2.2.map bytesD)])]⟩) (fun q => ScSt b q.1 q.2.1 q.2.2) (fun q => b.length - q.2.1) ((b.length, 0, [])) (ScSt.start b) (lep_of hF [900] rfl rfl ⟨rfl, rfl, rfl, trivial⟩) ?_
  rintro ⟨f, i, acc⟩ hst
  dsimp only at hst ⊢
  have hac := hst.2.2.1
  have hi0 := hst.1
  refine a_seq ?_
  refine a_seq ?_
  refine a_region ?_
  refine Pstep.go (st_move rfl rfl) ?_
  refine Pstep.go (st_move rfl rfl) ?_
  first | refine Pstep.go (st_lenMap rfl Try.underlying22 rfl) ?_ | refine Pstep.go (st_lenD rfl rfl Try.underlying22 rfl) ?_ | refine Pstep.go (st_lenO rfl Try.underlying22 rfl) ?_ | refine Pstep.go (st_lenSL rfl Try.underlying22 rfl) ?_ | refine Pstep.go (st_lenS rfl Try.underlying22 rfl) ?_
  first | refine Pstep.go (st_lss rfl rfl rfl) ?_ | refine Pstep.go (st_lssS rfl rfl rfl) ?_
  refine o_nil ?_
  first | refine a_if rfl (fun h13 => ?_) (fun h13 => ?_) | refine a_cond rfl (fun h13 => ?_) (fun h13 => ?_)
  · have hlt : i < b.length := by have h := h13; omega
    refine a_skip ?_
    refine a_block ?_
    refine a_seq ?_
    refine a_region ?_
    refine Pstep.go (st_move rfl rfl) ?_
    refine Pstep.go (st_move rfl rfl) ?_
    refine Pstep.go (st_sliceLoM (b) (i) rfl rfl rfl (rfl) (by omega) Try.underlying22 sz5 (fun _ => rfl) rfl) ?_
    have hxy0 : ∃ p x y, nextL (b.drop i) = (p, x, y) := ⟨_, _, _, rfl⟩
    obtain ⟨p, x, y, hxy⟩ := hxy0
    refine Pstep.go (st_callP (refnext_p (b.drop i) (by simp; omega) p x y hxy) rfl rfl) ?_
    refine Pstep.go (st_move rfl rfl) ?_
    first | refine Pstep.go (st_extractD rfl rfl rfl) ?_ | refine Pstep.go (st_extract rfl rfl rfl) ?_
    first | refine Pstep.go (st_extractD rfl rfl rfl) ?_ | refine Pstep.go (st_extract rfl rfl rfl) ?_
    first | refine Pstep.go (st_extractD rfl rfl rfl) ?_ | refine Pstep.go (st_extract rfl rfl rfl) ?_
    refine Pstep.go (st_assign rfl rfl) ?_
    refine Pstep.go (st_assign rfl rfl) ?_
    refine Pstep.go (st_assign rfl rfl) ?_
    refine o_nil ?_
    refine a_seq ?_
    refine a_seq ?_
    refine a_region ?_
    refine Pstep.go (st_move rfl rfl) ?_
    first | refine Pstep.go (st_neq rfl rfl rfl) ?_ | refine Pstep.go (st_neqSL rfl rfl rfl) ?_ | refine Pstep.go (st_neqS rfl rfl rfl) ?_ | refine Pstep.go (st_neqB Try.underlying3 rfl rfl rfl) ?_ | refine Pstep.go (st_neqP Try.underlying3 rfl rfl rfl) ?_ | refine Pstep.go (st_neqN Try.underlying3 rfl rfl) ?_ | refine Pstep.go (st_neqF Try.underlying3 rfl rfl rfl) ?_ | refine Pstep.go (st_neqFN Try.underlying3 rfl rfl) ?_
    refine o_nil ?_
    first | refine a_if rfl (fun h23 => ?_) (fun h23 => ?_) | refine a_cond rfl (fun h23 => ?_) (fun h23 => ?_)
    · refine a_seq ?_
      have hres := hst.stop hxy hlt h23
      refine a_freezeM (emb := bytesD) 5 900 acc rfl rfl rfl rfl rfl rfl rfl ?_
      refine a_region ?_
      refine Pstep.go (st_move rfl rfl) ?_
      refine Pstep.go (st_move rfl rfl) ?_
      refine Pstep.go (st_move rfl rfl) ?_
      refine Pstep.go (st_assign rfl rfl) ?_
      refine Pstep.go (st_assign rfl rfl) ?_
      refine Pstep.go (st_assign rfl rfl) ?_
      refine o_nil ?_
      refine a_ret ?_
      exact ⟨_, [], [], res_of rfl, rfl, rfl, by rw [hres] <;> rfl, rfl⟩
    · have hy0 : (y : Int) = 0 := Classical.byContradiction fun h => h23 h
      refine a_skip ?_
      refine a_seq ?_
      refine a_region ?_
      refine Pstep.go (st_move rfl rfl) ?_
      refine Pstep.go (st_move rfl rfl) ?_
      refine Estep.go (st_buildSlice 1 sl29 rfl rfl rfl rfl rfl rfl rfl rfl) ?_
      first | refine Estep.go (st_appM (acc) ([p]) rfl rfl rfl rfl rfl rfl rfl rfl sl29 (by show (acc.length + 1) * 24 ≤ _; omega) rfl rfl rfl rfl) ?_ | refine Estep.go (st_appMD (acc) ([p]) rfl rfl rfl rfl rfl rfl (fun _ => rfl) sl29 (by show (acc.length + 1) * 24 ≤ _; omega) rfl rfl rfl rfl) ?_
      refine Pstep.go (st_assign rfl rfl) ?_
      refine o_nil ?_
      refine a_region ?_
      refine Pstep.go (st_move rfl rfl) ?_
      refine Pstep.go (st_move rfl rfl) ?_
      refine Pstep.go (st_add rfl rfl (wrapS _ (by have h := next_size3 hxy hy0; omega)) rfl) ?_
      refine Pstep.go (st_assign rfl rfl) ?_
      refine o_nil ?_
      exact ⟨(f - 1, i + x, acc ++ [p]), hst.next hxy hlt hy0, by have h := next_size3 hxy hy0; show b.length - (i + x) < b.length - i; omega, lep_of hF [900] rfl (rfl) ⟨rfl, rfl, rfl, trivial⟩⟩
  · refine a_exit ?_
    refine a_seq ?_
    have hres := hst.done (by have h := h13; omega)
    refine a_freezeM (emb := bytesD) 5 900 acc rfl rfl rfl rfl rfl rfl rfl ?_
    refine a_region ?_
    refine Pstep.go (st_move rfl rfl) ?_
    refine Pstep.go (st_move rfl rfl) ?_
    refine Pstep.go (st_assign rfl rfl) ?_
    refine Pstep.go (st_assign rfl rfl) ?_
    refine Pstep.go (st_assign rfl rfl) ?_
    refine o_nil ?_
    refine a_ret ?_
    exact ⟨_, [], [], res_of rfl, rfl, rfl, by rw [hres] <;> rfl, rfl⟩

theorem getb {ls : List (List UInt8)} {k : Nat} (h : k < ls.length) : (ls.map bytesD)[k]? = some (bytesD ls[k]) := by rw [List.getElem?_map, List.getElem?_eq_getElem h]; rfl
theorem sames_p (la lb : List (List UInt8)) (ha : la.length ≤ 1000000000) (hb : lb.length ≤ 1000000000) : PCalls Try.prog 25 [.d (.sl none (la.map bytesD)), .d (.sl none (lb.map bytesD))] (.raw (.bool (decide (la = lb)))) := by
  refine a_enter Try.func25 rfl rfl Try.ntmps25 rfl rfl rfl fun F hF => ?_
  refine a_seq ?_
  refine a_region ?_
  refine Pstep.go (st_assign rfl rfl) ?_
  refine o_nil ?_
  refine a_seq ?_
  refine a_seq ?_
  refine a_region ?_
  refine Pstep.go (st_move rfl rfl) ?_
  first | refine Pstep.go (st_lenMap rfl Try.underlying29 rfl) ?_ | refine Pstep.go (st_lenD rfl rfl Try.underlying29 rfl) ?_ | refine Pstep.go (st_lenO rfl Try.underlying29 rfl) ?_ | refine Pstep.go (st_lenSL rfl Try.underlying29 rfl) ?_ | refine Pstep.go (st_lenS rfl Try.underlying29 rfl) ?_
  refine Pstep.go (st_move rfl rfl) ?_
  first | refine Pstep.go (st_lenMap rfl Try.underlying29 rfl) ?_ | refine Pstep.go (st_lenD rfl rfl Try.underlying29 rfl) ?_ | refine Pstep.go (st_lenO rfl Try.underlying29 rfl) ?_ | refine Pstep.go (st_lenSL rfl Try.underlying29 rfl) ?_ | refine Pstep.go (st_lenS rfl Try.underlying29 rfl) ?_
  first | refine Pstep.go (st_neq rfl rfl rfl) ?_ | refine Pstep.go (st_neqSL rfl rfl rfl) ?_ | refine Pstep.go (st_neqS rfl rfl rfl) ?_ | refine Pstep.go (st_neqB Try.underlying3 rfl rfl rfl) ?_ | refine Pstep.go (st_neqP Try.underlying3 rfl rfl rfl) ?_ | refine Pstep.go (st_neqN Try.underlying3 rfl rfl) ?_ | refine Pstep.go (st_neqF Try.underlying3 rfl rfl rfl) ?_ | refine Pstep.go (st_neqFN Try.underlying3 rfl rfl) ?_
  refine o_nil ?_
  first | refine a_if rfl (fun h10 => ?_) (fun h10 => ?_) | refine a_cond rfl (fun h10 => ?_) (fun h10 => ?_)
  · refine a_seq ?_
    refine a_region ?_
    refine Pstep.go (st_assign rfl rfl) ?_
    refine o_nil ?_
    refine a_ret ?_
    exact ⟨_, [], [], res_of rfl, rfl, rfl, by rw [decide_eq_false (fun e => h10 (by rw [e]))] <;> rfl, rfl⟩
  · refine a_skip ?_
    refine a_seq ?_
    refine a_seq ?_
    refine a_region ?_
    refine Pstep.go (st_assign rfl rfl) ?_
    refine o_nil ?_
    refine a_block ?_
    have hl : la.length = lb.length := by have h := h10; omega
    refine a_loop (α := Nat) (fun k => ⟨27, [(0, .d (.sl none (la.map bytesD))), (1, .d (.sl none (lb.map bytesD))), (5, (.d (.raw (.int .i64 (k : Int)))))], []⟩) (fun k => k ≤ la.length ∧ la.take k = lb.take k) (fun k => la.length - k) (0) (⟨Nat.zero_le _, rfl⟩) (le_of_has ⟨rfl, rfl, rfl, trivial⟩) ?_
    rintro k ⟨hk0, hk⟩
    refine a_seq ?_
    refine a_seq ?_
    refine a_region ?_
    refine Pstep.go (st_move rfl rfl) ?_
    refine Pstep.go (st_move rfl rfl) ?_
    first | refine Pstep.go (st_lenMap rfl Try.underlying29 rfl) ?_ | refine Pstep.go (st_lenD rfl rfl Try.underlying29 rfl) ?_ | refine Pstep.go (st_lenO rfl Try.underlying29 rfl) ?_ | refine Pstep.go (st_lenSL rfl Try.underlying29 rfl) ?_ | refine Pstep.go (st_lenS rfl Try.underlying29 rfl) ?_
    first | refine Pstep.go (st_lss rfl rfl rfl) ?_ | refine Pstep.go (st_lssS rfl rfl rfl) ?_
    refine o_nil ?_
    first | refine a_if rfl (fun h14 => ?_) (fun h14 => ?_) | refine a_cond rfl (fun h14 => ?_) (fun h14 => ?_)
    · have hka : k < la.length := by have h := h14; omega
      refine a_skip ?_
      refine a_seq ?_
      refine a_block ?_
      refine a_seq ?_
      have hkb : k < lb.length := by omega
      refine a_drawn [[], [], [0, 1], [0, 1, 2], [], [], [4, 5], [4, 5, 6], [0, 1, 2, 3, 4, 5, 6, 7], [0, 1, 2, 3, 4, 5, 6, 7, 8]] mixed rfl ?_
      refine dws ?_
      first | refine d_pure [0] [] rfl rfl (fun _ => gp_none (st_move rfl rfl)) ?_ | refine d_pureA [0] rfl rfl (fun _ => gp_none (st_move rfl rfl)) ?_
      first | refine d_pure [5] [] rfl rfl (fun _ => gp_none (st_move rfl rfl)) ?_ | refine d_pureA [5] rfl rfl (fun _ => gp_none (st_move rfl rfl)) ?_
      first | refine d_pure [17, 18] [] rfl rfl (fun _ => gp_none (st_indexD (k) rfl rfl (rfl) (getb hka) Try.underlying29 rfl sz22 rfl)) ?_ | refine d_pureA [17, 18] rfl rfl (fun _ => gp_none (st_indexD (k) rfl rfl (rfl) (getb hka) Try.underlying29 rfl sz22 rfl)) ?_ | refine d_pure [17, 18] [] rfl rfl (fun _ => gp_none (st_indexO (k) rfl rfl (rfl) (getb hka) rfl Try.underlying29 sz22 rfl)) ?_ | refine d_pureA [17, 18] rfl rfl (fun _ => gp_none (st_indexO (k) rfl rfl (rfl) (getb hka) rfl Try.underlying29 sz22 rfl)) ?_
      first | refine d_pure [19] [] rfl rfl (fun _ => gp_none (st_loadD1 rfl rfl on22 rfl)) ?_ | refine d_pureA [19] rfl rfl (fun _ => gp_none (st_loadD1 rfl rfl on22 rfl)) ?_ | refine d_pure [19] [] rfl rfl (fun _ => gp_none (st_loadP rfl rfl rfl on22 rfl)) ?_ | refine d_pureA [19] rfl rfl (fun _ => gp_none (st_loadP rfl rfl rfl on22 rfl)) ?_ | refine d_pure [19] [] rfl rfl (fun _ => gp_none (st_loadR rfl rfl (rfl) rfl on22 rfl)) ?_ | refine d_pureA [19] rfl rfl (fun _ => gp_none (st_loadR rfl rfl (rfl) rfl on22 rfl)) ?_
      first | refine d_pure [1] [] rfl rfl (fun _ => gp_none (st_move rfl rfl)) ?_ | refine d_pureA [1] rfl rfl (fun _ => gp_none (st_move rfl rfl)) ?_
      first | refine d_pure [5] [] rfl rfl (fun _ => gp_none (st_move rfl rfl)) ?_ | refine d_pureA [5] rfl rfl (fun _ => gp_none (st_move rfl rfl)) ?_
      first | refine d_pure [21, 22] [] rfl rfl (fun _ => gp_none (st_indexD (k) rfl rfl (rfl) (getb hkb) Try.underlying29 rfl sz22 rfl)) ?_ | refine d_pureA [21, 22] rfl rfl (fun _ => gp_none (st_indexD (k) rfl rfl (rfl) (getb hkb) Try.underlying29 rfl sz22 rfl)) ?_ | refine d_pure [21, 22] [] rfl rfl (fun _ => gp_none (st_indexO (k) rfl rfl (rfl) (getb hkb) rfl Try.underlying29 sz22 rfl)) ?_ | refine d_pureA [21, 22] rfl rfl (fun _ => gp_none (st_indexO (k) rfl rfl (rfl) (getb hkb) rfl Try.underlying29 sz22 rfl)) ?_
      first | refine d_pure [23] [] rfl rfl (fun _ => gp_none (st_loadD1 rfl rfl on22 rfl)) ?_ | refine d_pureA [23] rfl rfl (fun _ => gp_none (st_loadD1 rfl rfl on22 rfl)) ?_ | refine d_pure [23] [] rfl rfl (fun _ => gp_none (st_loadP rfl rfl rfl on22 rfl)) ?_ | refine d_pureA [23] rfl rfl (fun _ => gp_none (st_loadP rfl rfl rfl on22 rfl)) ?_ | refine d_pure [23] [] rfl rfl (fun _ => gp_none (st_loadR rfl rfl (rfl) rfl on22 rfl)) ?_ | refine d_pureA [23] rfl rfl (fun _ => gp_none (st_loadR rfl rfl (rfl) rfl on22 rfl)) ?_
      refine dwc 8 rfl rfl rfl ?_
      refine dw1 9 rfl rfl ?_
      refine Pstep.go (st_callP (same_p la[k] lb[k] _ rfl) rfl rfl) ?_
      refine o_nil ⟨rfl, ?_⟩
      refine dw1 10 rfl rfl ?_
      first | refine Pstep.go (st_notP rfl rfl) ?_ | refine Pstep.go (st_not rfl rfl) ?_
      refine o_nil ⟨rfl, ?_⟩
      refine dwe ?_
      first | refine a_if rfl (fun h26 => ?_) (fun h26 => ?_) | refine a_cond rfl (fun h26 => ?_) (fun h26 => ?_)
      · have hne : ¬ la = lb := fun e => by subst e; simp at h26
        refine a_seq ?_
        refine a_region ?_
        refine Pstep.go (st_assign rfl rfl) ?_
        refine o_nil ?_
        refine a_ret ?_
        exact ⟨_, [], [], res_of rfl, rfl, rfl, by rw [decide_eq_false hne] <;> rfl, rfl⟩
      · have hee : la[k] = lb[k] := by simpa using h26
        refine a_skip ?_
        refine a_region ?_
        refine Pstep.go (st_move rfl rfl) ?_
        refine Pstep.go (st_add rfl rfl (wrapS (k + 1) (by omega)) rfl) ?_
        refine Pstep.go (st_assign rfl rfl) ?_
        refine o_nil ?_
        exact ⟨k + 1, ⟨by show k + 1 ≤ _; omega, take_eq_snoc hka hkb hk hee⟩, by show la.length - (k + 1) < la.length - k; omega, ⟨rfl, rfl, fun _ _ => Has.get (l := [(0, _), (1, _), (5, _)]) ⟨rfl, rfl, rfl, trivial⟩⟩⟩
    · refine a_exit ?_
      refine a_seq ?_
      refine a_region ?_
      refine Pstep.go (st_assign rfl rfl) ?_
      refine o_nil ?_
      refine a_ret ?_
      exact ⟨_, [], [], res_of rfl, rfl, rfl, by rw [decide_eq_true (by have h := h14; have hkk : k = la.length := (by omega); rw [hkk, List.take_length, hl, List.take_length] at hk; exact hk)] <;> rfl, rfl⟩
end Go.Proofs.Ytnflcmpdaoobcaa
