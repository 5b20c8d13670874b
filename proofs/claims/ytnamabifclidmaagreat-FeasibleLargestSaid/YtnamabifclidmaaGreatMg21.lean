/- The kit's contract of slices.Sort at integers as a contract over an owned row. No program in sight. -/
import Derived.Test.YtnamabifclidmaaGreatMg20
import Derived.Shelf.SortG.Plain
import Derived.Shelf.SortG.SortNone
namespace Go.Proofs.YtnamabifclidmaaGreat
open Go.RowKit Go.Shelf
open Go.Sort (putRow Holds putCells)

def sortI (l : List Int) : List Int := l.mergeSort fun x y => decide (x ≤ y)
theorem Zcg (l : List Int) : (sortI l).Perm l := List.mergeSort_perm l _
theorem sortI_len (l : List Int) : (sortI l).length = l.length := (Zcg l).length_eq
theorem sortI_sorted (l : List Int) : (sortI l).Pairwise (· ≤ ·) := by
  have := List.pairwise_mergeSort (le := fun x y : Int => decide (x ≤ y)) (fun a b c h1 h2 => by simp only [decide_eq_true_eq] at *; omega) (fun a b => by simp only [Bool.or_eq_true, decide_eq_true_eq]; omega) l;exact this.imp fun h => by simpa using h
abbrev zD (z : Int) : D := .raw (.int .i64 z)
variable {P : Program} {ρr : Ren}
theorem st_sortI (L : SlLaysN.n53 P ρr) {E : TypeId} {g53 : FuncId} (xs : List Int) (hsz : xs.length < 4611686018427387904) {F : Fr} {s : AS} {d : Nat} {x : Operand} {ty : TypeId} {pos : String} {aft : Array Edge} {gd : Option (Nat × Bool)} {at_ : Array TypeId} {f n : Nat} {row : List D} {hp' : Hp}
    (hg : ρr.f 53 = g53) (hx : s.ev x = some (.own f 0 n)) (ho : hget s.hp f 0 = some (.rowD E 1 row)) (hrow : row = xs.map zD) (hn : n = xs.length) (hh : hset? s.hp f 0 (.rowD E 1 ((sortI xs).map zD)) = some hp') (hd : Nat.blt d s.n = true) :
    Zal P F ⟨some d, .call { callee := .value (.func g53), args := #[x], argTypes := at_ }, ty, pos, aft, gd⟩ s ⟨s.n, (d, .d (.tup [])) :: s.env, hp'⟩ (fun _ _ => true) := by
  subst hg hrow hn;intro ρ act w hs
  obtain ⟨fn6, hf1, hf2, hf3⟩ : ∃ fn, P.funcs[ρr.f 53]? = some fn ∧ (fn.name == "runtime.NumGoroutine") = false ∧ fn.body.isSome = true := by
    obtain ⟨nm, hn, hf⟩ := L.f53;exact ⟨_, hf, hn, rfl⟩
  unfold Oper.wp;rw [show (#[x] : Array Operand) = [x].toArray from rfl, run_call hf1 hf2 hf3, Oper.upon_enter]
  suffices key : Calls P (ρr.f 53) ([x].map act.eval).toArray w fun e w' => e = .returned (.tuple #[]) ∧ SR F ⟨s.n, s.env, hp'⟩ ρ act w' by
    refine key.mono fun e w' ⟨e1, hsr⟩ => ?_;subst e1;exact ⟨ρ, hsr.put (Za9 hd) (.d (.tup rfl fun i c v hc => by cases hc)), fun _ _ _ => rfl⟩
  have r0 := hs.ev hx;have hg0 := ho;have h3 := hs.heap;have hset := hset?_spec hh;obtain ⟨us, q1, q2, q3⟩ := h3.sim f 0 _ hg0;show Calls P (ρr.f 53) #[act.eval x] w _
  generalize act.eval x = V0 at r0
  cases r0 with
  | own hρ hle =>
    rename_i N cap a
    by_cases hx : xs = []
    · subst hx;refine (AnyG.slices_Sort_int_none L a cap w).mono fun e w' ⟨e1, e2⟩ => ?_;subst e1 e2;refine ⟨rfl, hs.writeG f 0 _ _ ho hset rfl rfl rfl (Nat.le_refl _) (Nat.le_refl _) (fun _ _ _ => rfl) (fun _ _ e => by cases e) fun hrep => ?_⟩;have h0 : sortI [] = [] := by simp [sortI]
      rw [h0];exact ⟨us, q1, ⟨by simpa using q2.1, fun x hx => (by cases hx), fun i x hx => by simp at hx⟩, fun x hx => (by cases hx)⟩
    · have hn : 0 < xs.length := List.length_pos_iff.2 hx;have hul : us.length = xs.length := by have := q2.1; rw [List.length_map] at this; omega
      have hblkeq : ∃ b cur, a = some ⟨b, 0, none⟩ ∧ w.heap[b]? = some (.cells cur E (0, 0)) ∧ cur.size = cap ∧ xs.length ≤ cap ∧ cap ≤ maxLen ∧ cur.toList.take xs.length = us ∧ N = xs.length := by
        rcases q1.2 with ⟨_, h⟩ | ⟨b, cap', cur, e1, _, e2, e3, e4, e5, e6⟩
        · rw [List.length_map] at h; omega
        · rw [hρ] at e1;injection e1 with e1 e7 e8
          subst e1 e8;rw [List.length_map] at e3 e6 e7;exact ⟨b, cur, rfl, e2, by omega, e3, e4, by rw [Nat.mul_one] at e6; exact e6, e7⟩
      obtain ⟨b, cur, rfl, p1, p2, p3, p3', p4, rfl⟩ := hblkeq;have hb : blkOf (ρ f 0) = some b := by rw [hρ]; rfl
      have hlt : b < w.heap.size := (Array.getElem?_eq_some_iff.1 p1).1
      have hus : ∀ i (hi : i < xs.length), us[i]? = some (.int .i64 xs[i]) := fun i hi => by
        have hm : (xs.map zD)[i]? = some (zD xs[i]) := by rw [List.getElem?_map, List.getElem?_eq_getElem hi]; rfl
        obtain ⟨u, hu, _, hr⟩ := q2.2.2 i _ hm 0 (zD xs[i]) rfl;rw [Nat.mul_one, Nat.add_zero] at hu
        cases hr with
        | raw _ => exact hu
      have hH : Holds (Value.int .i64) w b 0 xs.toArray := by
        intro j hj;have hj : j < xs.length := by simpa using hj
        refine ⟨?_, ?_⟩
        · have hju : us[j]? = cur.toList[j]? := by rw [← p4, List.getElem?_take_of_lt hj]
          simp only [World.cell?, p1, Nat.zero_add];have h1 := hus j hj;rw [hju] at h1;rw [getElem!_pos _ j (by simpa using hj)];have hjc : j < cur.size := by simpa using (List.getElem?_eq_some_iff.1 h1).1
          simp only [List.getElem_toArray]
          simp [hjc] at h1 ⊢
          exact h1
        · simp only [World.frozen?, p1]; simp
      have key := AnyG.slices_Sort_int L b 0 cap xs w hH hlt hsz;refine key.mono fun e w' ⟨e1, nd, os, hw⟩ => ?_;subst e1 hw
      obtain ⟨ys, hys⟩ : ∃ ys, sortI xs = ys := ⟨_, rfl⟩
      have hys' : (xs.mergeSort fun x y => decide (x ≤ y)) = ys := hys;have hyl : ys.length = xs.length := by rw [← hys, sortI_len]
      rw [hys] at hset hh;rw [hys'];refine ⟨rfl, ?_⟩;have hsz2 : ((putRow (Value.int .i64) (Go.Sort.ahead w nd) b 0 ys.toArray)).heap.size = w.heap.size := by rw [Go.Sort.size_putRow]; rfl
      have hoth : ∀ b', b' < w.heap.size → b' ≠ b → (Go.Sort.grow (putRow (Value.int .i64) (Go.Sort.ahead w nd) b 0 ys.toArray) os).heap[b']? = w.heap[b']? := fun b' hl hne => by
        rw [Go.Sort.heap_grow_old _ _ (by rw [hsz2]; exact hl)];show (w.heap.modify b _)[b']? = _;rw [Array.getElem?_modify, if_neg (Ne.symm hne)]
      refine hs.writeG f 0 _ _ ho hset rfl rfl rfl (by rw [Go.Sort.size_grow, hsz2]; exact Nat.le_add_right _ _) (Nat.le_add_right _ _) (fun b' hl hno => hoth b' hl (fun e => hno (by rw [e]; exact hb))) (fun _ _ e => by cases e) fun hrep => ?_
      have hheap : (Go.Sort.grow (putRow (Value.int .i64) (Go.Sort.ahead w nd) b 0 ys.toArray) os).heap[b]? = some (.cells (putCells (Value.int .i64) 0 ys.toArray cur) E (0, 0)) := by
        rw [Go.Sort.heap_grow_old _ _ (by rw [hsz2]; exact hlt)];show (w.heap.modify b _)[b]? = _;rw [Array.getElem?_modify, if_pos rfl, p1]; rfl
      have hcs : (putCells (Value.int .i64) 0 ys.toArray cur).size = cap := by simp only [putCells, Array.size_mapIdx]; exact p2
      have hyl2 : (ys.map zD).length = xs.length := by rw [List.length_map, hyl]
      refine ⟨ys.map (Value.int .i64), ⟨by rw [List.length_map, hyl2, hyl, Nat.mul_one], .inr ⟨b, cap, _, by rw [hρ, hyl2], Nat.zero_le _, hheap, by rw [hyl2]; exact p3, p3', by omega, ?_⟩⟩, ⟨by rw [List.length_map, hyl2, hyl, Nat.mul_one], fun x hx2 => ?_, fun i x hx2 j c hc2 => ?_⟩, fun x hx2 c hc2 => ?_⟩
      · rw [hyl2, Nat.mul_one]
        apply List.ext_getElem?
        intro i
        by_cases hi : i < xs.length
        · rw [List.getElem?_take_of_lt hi, Array.getElem?_toList, List.getElem?_map, List.getElem?_eq_getElem (by omega), Array.getElem?_eq_getElem (by omega)];simp only [putCells, Array.getElem_mapIdx];rw [if_pos ⟨Nat.zero_le _, by simp; omega⟩];simp only [Nat.sub_zero, Option.map_some];rw [getElem!_pos _ i (by simp; omega)]
          simp
        · rw [List.getElem?_eq_none (by rw [List.length_take]; omega), List.getElem?_eq_none (by rw [List.length_map]; omega)]
      · obtain ⟨y, _, rfl⟩ := List.mem_map.1 hx2; rfl
      · rw [List.getElem?_map] at hx2
        cases hyi : ys[i]? with
        | none => rw [hyi] at hx2; cases hx2
        | some y =>
          rw [hyi] at hx2;injection hx2 with hx2; subst hx2
          have hj0 : j = 0 := by have := (List.getElem?_eq_some_iff.1 hc2).1; simp [D.cells] at this; exact this
          subst hj0;simp only [D.cells, List.getElem?_cons_zero, Option.some.injEq] at hc2;subst hc2;exact ⟨.int .i64 y, by rw [Nat.mul_one, Nat.add_zero, List.getElem?_map, hyi]; rfl, rfl, .raw rfl⟩
      · obtain ⟨y, _, rfl⟩ := List.mem_map.1 hx2;simp only [D.cells, List.mem_singleton] at hc2;subst hc2; rfl
end Go.Proofs.YtnamabifclidmaaGreat
/- Layer 29: the analysis of a problem; sets of its items. -/
namespace Go.Proofs.YtnamabifclidmaaGreat
open Go.RowKit

section
variable {P : Program} {F : Fr} {s : AS} {α β : Type} [DecidableEq α] {eK : α → D} {eV : β → D} {K : TypeId} {kv : α → Value} {d : Nat} {ty T E : TypeId} {pos : String} {aft : Array Edge} {g : Option (Nat × Bool)} {x y z : Operand} {bs : Option (List Nat × Nat)}
theorem st_lookW (m : List (α × β)) (a : α) (b0 v : β) {x0 : D} {f i : Nat} (hx : s.ev x = some (.map f i)) (ho : hget s.hp f i = some (.map bs (ents eK eV m))) (hy : s.ev y = some (.d (eK a))) (hT : mapTyB P T K E = true) (KT : KeyTy P K eK kv) (hz : zeroA? P E = some (.d x0)) (hw : ∀ w O v, RepD w O x0 v → RepD w O (eV b0) v) (hv : mget m a b0 = v) (hd : Nat.blt d s.n = true) :
    Zaa P F ⟨some d, .lookup T x y false, ty, pos, aft, g⟩ s d (.d (eV v)) :=
  ZaO _ hd fun ρ act w hs => by
    obtain ⟨mb, arr, c, e1, _, h1, h2, h3, _⟩ := hs.mapAt hx ho;have hk : act.eval y = kv a := (hs.repD hy).val (KT.val a);obtain ⟨zv, hz1, hz2⟩ := zeroA?_spec hz w
    have hz3 : ∀ w' O ρ, RepA w' O ρ (.d (eV b0)) zv := fun w' O ρ => by
      have := hz2 w' O ρ
      cases this with
      | d h => exact .d (hw _ _ _ h)
    subst hv;rcases hit_get KT h2 h3 a b0 with ⟨g1, _, g3, _⟩ | ⟨j, e, g1, g2, _, _, _, _, g7⟩
    · refine ⟨zv, ?_, by rw [g3]; exact hz3 _ _ _⟩
      simp [execOp, Instr.lookup, run_underlying (ZbT hT), e1, hk, MapKept.run_getObj_map h1, KT.check, KT.find w a _ _ (Zca KT h2 h3), g1, hz1, Result.andThen]
    · refine ⟨e.val, ?_, .d g7⟩
      simp [execOp, Instr.lookup, run_underlying (ZbT hT), e1, hk, MapKept.run_getObj_map h1, KT.check, KT.find w a _ _ (Zca KT h2 h3), g1, Result.andThen]
theorem st_lookOkW (m : List (α × β)) (a : α) (b0 : β) {x0 : D} {f i : Nat} (hx : s.ev x = some (.map f i)) (ho : hget s.hp f i = some (.map bs (ents eK eV m))) (hy : s.ev y = some (.d (eK a))) (hT : mapTyB P T K E = true) (KT : KeyTy P K eK kv) (hz : zeroA? P E = some (.d x0)) (hw : ∀ w O v, RepD w O x0 v → RepD w O (eV b0) v) (hd : Nat.blt d s.n = true) :
    Zaa P F ⟨some d, .lookup T x y true, ty, pos, aft, g⟩ s d (.tup [.d (eV (mget m a b0)), .d (.raw (.bool (mhas m a)))]) :=
  ZaO _ hd fun ρ act w hs => by
    obtain ⟨mb, arr, c, e1, _, h1, h2, h3, _⟩ := hs.mapAt hx ho;have hk : act.eval y = kv a := (hs.repD hy).val (KT.val a);obtain ⟨zv, hz1, hz2⟩ := zeroA?_spec hz w
    have hz3 : ∀ w' O ρ, RepA w' O ρ (.d (eV b0)) zv := fun w' O ρ => by
      have := hz2 w' O ρ
      cases this with
      | d h => exact .d (hw _ _ _ h)
    have tup2 : ∀ {v1 v2 : Value} {a1 a2 : AV}, RepA w (F.O ρ s.hp) ρ a1 v1 → RepA w (F.O ρ s.hp) ρ a2 v2 → RepA w (F.O ρ s.hp) ρ (.tup [a1, a2]) (.tuple #[v1, v2]) := fun {v1 v2 a1 a2} h1 h2 => by
      refine .tup (vs := [v1, v2]) rfl fun i a v ha hv => ?_;rcases i with _ | _ | i
      · simp at ha hv; subst ha hv; exact h1
      · simp at ha hv; subst ha hv; exact h2
      · simp at ha
    rcases hit_get KT h2 h3 a b0 with ⟨g1, g2, g3, _⟩ | ⟨j, e, g1, g2, _, g4, _, _, g7⟩
    · refine ⟨.tuple #[zv, .bool false], ?_, tup2 (by rw [g3]; exact hz3 _ _ _) (by rw [g2]; exact .d (.raw rfl))⟩
      simp [execOp, Instr.lookup, run_underlying (ZbT hT), e1, hk, MapKept.run_getObj_map h1, KT.check, KT.find w a _ _ (Zca KT h2 h3), g1, hz1, Result.andThen]
    · refine ⟨.tuple #[e.val, .bool true], ?_, tup2 (.d g7) (by rw [g4]; exact .d (.raw rfl))⟩
      simp [execOp, Instr.lookup, run_underlying (ZbT hT), e1, hk, MapKept.run_getObj_map h1, KT.check, KT.find w a _ _ (Zca KT h2 h3), g1, Result.andThen]
end
theorem itm0_weakD : ∀ w O v, RepD w O (.agg [intD 0, intD 0, intD 0, .sl (some true) [], .sl (some true) [], .sl (some true) []]) v → RepD w O (itmD itm0) v := fun w O v h => h.aggMono rfl (by simp [D.one]) fun i c c' hc hc' v hv => by
  match i, hc, hc' with
  | 0, hc, hc' => injection hc with hc; injection hc' with hc'; subst hc hc'; exact hv
  | 1, hc, hc' => injection hc with hc; injection hc' with hc'; subst hc hc'; exact hv
  | 2, hc, hc' => injection hc with hc; injection hc' with hc'; subst hc hc'; exact hv
  | 3, hc, hc' => injection hc with hc; injection hc' with hc'; subst hc hc'; exact hv.anyNil
  | 4, hc, hc' => injection hc with hc; injection hc' with hc'; subst hc hc'; exact hv.anyNil
  | 5, hc, hc' => injection hc with hc; injection hc' with hc'; subst hc hc'; exact hv.anyNil

def linR (l : List Roo) : List Roo := l.mergeSort fun a b => decide (cmpR a.r b.r ≤ 0)
theorem linR_perm (l : List Roo) : (linR l).Perm l := List.mergeSort_perm l _
theorem linR_len (l : List Roo) : (linR l).length = l.length := (linR_perm l).length_eq
theorem cmpR_le {a b c : Rsc} (h1 : cmpR a b ≤ 0) (h2 : cmpR b c ≤ 0) : cmpR a c ≤ 0 := by
  by_cases e1 : cmpR a b = 0
  · rw [cmpR_zero.1 e1]; exact h2
  · by_cases e2 : cmpR b c = 0
    · rw [← cmpR_zero.1 e2]; exact h1
    · have := cmpR_pc.trans a b c (by omega) (by omega); omega
theorem linR_sorted (l : List Roo) : (linR l).Pairwise fun a b => ¬ cmpR b.r a.r < 0 := by
  have := List.pairwise_mergeSort (le := fun a b : Roo => decide (cmpR a.r b.r ≤ 0)) (fun a b c h1 h2 => by simp only [decide_eq_true_eq] at *; exact cmpR_le h1 h2) (fun a b => by simp only [Bool.or_eq_true, decide_eq_true_eq]; have := cmpR_pc.anti a.r b.r; omega) l
  exact this.imp fun {a b} h => by have h' : cmpR a.r b.r ≤ 0 := by simpa using h
                                   have := cmpR_pc.anti a.r b.r; omega
theorem rsc_one {γ : Type} (f : γ → Rsc) {l m ys : List γ} (hn : (l.map f).Nodup) (hm : m.Perm l) (hms : m.Pairwise fun a b => ¬ cmpR (f b) (f a) < 0) (h1 : ys.Perm l) (h2 : ys.Pairwise fun a b => ¬ cmpR (f b) (f a) < 0) : ys = m := by
  have st : ∀ {k : List γ}, (k.map f).Nodup → (k.Pairwise fun a b => ¬ cmpR (f b) (f a) < 0) → k.Pairwise fun a b => cmpR (f a) (f b) < 0 := fun {k} hn h => by
    rw [List.Nodup, List.pairwise_map] at hn;refine (h.and hn).imp fun {a b} ⟨g1, g2⟩ => ?_;have h1 := cmpR_pc.anti (f a) (f b);have h2 : cmpR (f a) (f b) ≠ 0 := fun e => g2 (cmpR_zero.1 e);omega
  exact strict_one (R := fun a b => cmpR (f a) (f b) < 0) (fun x => by rw [cmpR_pc.refl]; omega) (fun x y z => cmpR_pc.trans _ _ _) (st ((h1.map f).nodup_iff.2 hn) h2) (st ((hm.map f).nodup_iff.2 hn) hms) fun x => by rw [h1.mem_iff, hm.mem_iff]
structure Lin where
  r : Rsc
  n : Int
  q : List Int
abbrev linD (x : Lin) : D := .agg [intD x.r.k, strD x.r.acc.o, intD x.r.acc.k, strD x.r.acc.a, strD x.r.f, strD x.r.t, intD x.n, .sl none (x.q.map intD)]
theorem linD_agg (x : Lin) : ∃ cs, linD x = .agg cs := ⟨_, rfl⟩
def toLin (p : Prb) (x : Roo) : Lin := ⟨x.r, max x.n 0, qIds (ordP p) x.r⟩
def linL (p : Prb) : List Lin := (linR p.ro).map (toLin p)
theorem linL_len (p : Prb) : (linL p).length = p.ro.length := by unfold linL; rw [List.length_map, linR_len]
theorem rooms_nodup {l : List Roo} (h : roomsE l = 0) : (l.map Roo.r).Nodup := by
  have h0 := Zbt.1 h;rw [List.Nodup, List.pairwise_map, List.pairwise_iff_getElem];intro i j hi hj hij e;have := h0 j (List.mem_range.2 hj);unfold rErr at this;rw [Za5 roo0 hj] at this
  split at this
  · contradiction
  · split at this
    · cases this
    · split at this
      · cases this
      · rename_i hn; exact hn (mem_tk hj hij e)
theorem lin_one {p : Prb} (hp : prbE p = 0) {ys : List Lin} (h1 : ys.Perm (p.ro.map (toLin p))) (h2 : ys.Pairwise fun a b => ¬ cmpR b.r a.r < 0) : ys = linL p := by
  refine rsc_one Lin.r (l := p.ro.map (toLin p)) ?_ ((linR_perm p.ro).map _) ?_ h1 h2
  · rw [List.map_map]; exact rooms_nodup (ZbJ hp).1
  · unfold linL; rw [List.pairwise_map]; exact linR_sorted p.ro
set_option maxRecDepth 100000 in
theorem ana1_p (a b : Lin) : PCalls Tryz.prog 100 [.d (linD a), .d (linD b)] (intD (cmpR a.r b.r)) := by
  refine ZaB Tryz.func100 rfl rfl Tryz.ntmps100 rfl rfl rfl fun F hF => ?_;refine Zaf ?_;refine Zab ?_;refine Zal.go (ZaP 1 rfl rfl rfl rfl rfl rfl rfl) ?_;refine Zal.go (ZaP 2 rfl rfl rfl rfl rfl rfl rfl) ?_;refine Zaa.go (Zac rfl rfl) ?_;refine Zae ?_;refine Zaf ?_;refine Zab ?_
  first | refine Zaa.go (Zah rfl fi157_0 rfl rfl rfl) ?_ | refine Zaa.go (ZaH rfl fi157_0 rfl rfl rfl) ?_ | refine Zaa.go (ZaN rfl fi157_0 rfl rfl rfl) ?_ | refine Zaa.go (ZaW rfl fi157_0 rfl rfl rfl) ?_
  first | refine Zaa.go (ZaA rfl rfl rw47 rfl) ?_ | refine Zaa.go (Zar rfl rfl rw47 rfl rfl rfl) ?_ | refine Zaa.go (ZaT rfl rfl (rfl) rfl rw47 rfl) ?_
  first | refine Zaa.go (Zah rfl fi157_0 rfl rfl rfl) ?_ | refine Zaa.go (ZaH rfl fi157_0 rfl rfl rfl) ?_ | refine Zaa.go (ZaN rfl fi157_0 rfl rfl rfl) ?_ | refine Zaa.go (ZaW rfl fi157_0 rfl rfl rfl) ?_
  first | refine Zaa.go (ZaA rfl rfl rw47 rfl) ?_ | refine Zaa.go (Zar rfl rfl rw47 rfl rfl rfl) ?_ | refine Zaa.go (ZaT rfl rfl (rfl) rfl rw47 rfl) ?_
  refine Zaa.go (Zau (compare_p a.r b.r) rfl rfl) ?_;refine Zaa.go (Zac rfl rfl) ?_;refine Zae ?_;refine Zao ?_;exact ⟨_, [], [], Zan rfl, rfl, rfl, rfl, rfl⟩
def itemsM (l : List Itm) : List (Int × Itm) := l.map fun i => (i.id, i)
theorem itemsM_put {l : List Itm} {i : Itm} (h : i.id ∉ l.map Itm.id) : mput (itemsM l) i.id i = itemsM (l ++ [i]) := by
  induction l with
  | nil => rfl
  | cons a l ih =>
    rw [List.map_cons, List.mem_cons] at h;show mput ((a.id, a) :: itemsM l) i.id i = (a.id, a) :: itemsM (l ++ [i]);rw [← ih (fun h' => h (.inr h'))];simp only [mput];rw [if_neg (fun e => h (.inl e))]
end Go.Proofs.YtnamabifclidmaaGreat
/- Sequences of integers: slices.Values, Collect, Sorted; BinarySearch. -/
namespace Go.Proofs.YtnamabifclidmaaGreat
open Go.RowKit

def encZ (x : Int) : List AV := [.d (intD x)]
section
variable {β : Type}
set_option maxRecDepth 100000 in
theorem seqZ_c (its : List Int) (hits : its.length ≤ 1000000) (l : Nat) (H : β → Hp) (N : List Nat) (step : β → Int → β × Bool) (st0 : β) (hN : ∀ st, hpN (H st) = N) (hI : ∀ st, hpIn N (H st) = true) (hP : ∀ st, part? (H st) N = some (H st))
    (hfe : Feeds Tryz.prog l encZ H step st0 its) :
    ACalls Tryz.prog 139 [.d (.raw (yieldV l)), .d (.ptr (.sl none (its.map intD)))] (H st0) fun r H' => r = .tup [] ∧ H' = H (feed step st0 its) := by
  refine ZaB Tryz.func139 rfl rfl Tryz.ntmps139 rfl rfl rfl fun F hF => ?_;refine Zaf ?_;refine Zab ?_
  first | refine Zaa.go (Zas rfl rfl on26 rfl) ?_ | refine Zaa.go (Zai rfl rfl rfl on26 rfl) ?_ | refine Zaa.go (ZaI rfl rfl (rfl) rfl on26 rfl) ?_
  first | refine Zaa.go (Zax rfl Tryz.underlying26 rfl) ?_ | refine Zaa.go (Zbr rfl rfl Tryz.underlying26 rfl) ?_ | refine Zaa.go (Zbq rfl Tryz.underlying26 rfl) ?_ | refine Zaa.go (Zbj rfl Tryz.underlying26 rfl) ?_ | refine Zaa.go (Zbp rfl Tryz.underlying26 rfl) ?_
  refine Zaa.go (Zad rfl rfl) ?_;refine Zae ?_;refine Zaq ?_;refine a_loop (α := Nat × β) (fun p => ⟨16, [(0, .d (.raw (yieldV l))), (5, (.d (.sl none (its.map intD)))), (6, (.d (intD (its.length : Int)))), (7, (.d (intD (p.1 : Int))))], H p.2⟩) (fun p => p.1 ≤ its.length ∧ Feeds Tryz.prog l encZ H step p.2 (its.drop p.1) ∧ feed step p.2 (its.drop p.1) = feed step st0 its) (fun p => its.length - p.1) ((0, st0)) (⟨Nat.zero_le _, hfe, rfl⟩) (ZbE ⟨rfl, rfl, rfl, rfl, trivial⟩) ?_;rintro ⟨k, st⟩ ⟨hk0, hfd, hfin⟩;dsimp only at hk0 hfd hfin ⊢;refine Zaf ?_;refine Zab ?_
  first | refine Zaa.go (ZaK rfl rfl rfl) ?_ | refine Zaa.go (Zbm rfl rfl rfl) ?_
  refine Zae ?_;refine Zaf ?_
  first | refine ZaG rfl (fun h8 => ?_) (fun h8 => ?_) | refine Za1 rfl (fun h8 => ?_) (fun h8 => ?_)
  · have hk1 : k < its.length := ZaM h8;refine Zap ?_;refine Zaf ?_;refine Zaq ?_;refine Zaf ?_;refine Zab ?_;have hA : its.drop k = its[k] :: its.drop (k + 1) := List.drop_eq_getElem_cons hk1;rw [hA] at hfd
    first | refine Zaa.go (Zay (k) rfl rfl (rfl) (getm hk1) Tryz.underlying26 rfl sz3 rfl) ?_ | refine Zaa.go (Zbe (k) rfl rfl (rfl) (getm hk1) rfl Tryz.underlying26 sz3 rfl) ?_
    first | refine Zaa.go (Zas rfl rfl on3 rfl) ?_ | refine Zaa.go (Zai rfl rfl rfl on3 rfl) ?_ | refine Zaa.go (ZaI rfl rfl (rfl) rfl on3 rfl) ?_
    refine Zaa.go (Zac rfl rfl) ?_;refine Zae ?_;refine Zaf ?_;refine Zab ?_;refine Zaa.go (Zad rfl rfl) ?_;refine Zaa.go (Zad rfl rfl) ?_;refine o_keep [0, 5, 6, 7, 11, 12] rfl ?_;refine o_yieldW hfd.1 rfl rfl (by rw [hN, hN]) (by rw [hN]; exact hI _) rfl rfl ?_
    first | refine Zaa.go (Zbd rfl rfl) ?_ | refine Zaa.go (Zbu rfl rfl) ?_
    refine Zae ?_
    first | refine ZaG rfl (fun h14 => ?_) (fun h14 => ?_) | refine Za1 rfl (fun h14 => ?_) (fun h14 => ?_)
    · have hgo : (step st its[k]).2 = false := by simpa using h14
      refine Zao ?_;exact ⟨_, N, _, Zan rfl, hP _, by rw [← hN st0]; exact ZbK _, rfl, by rw [← hfin, hA, ZbA, if_neg (by rw [hgo]; decide)]⟩
    · have hgo : (step st its[k]).2 = true := by simpa using h14
      refine Zap ?_;refine Zab ?_;refine Zaa.go (Zaz rfl rfl (wrapS (k + 1) (by omega)) rfl) ?_;refine Zaa.go (Zad rfl rfl) ?_;refine Zae ?_;exact ⟨(k + 1, (step st its[k]).1), ⟨by show k + 1 ≤ _; omega, hfd.2 hgo, by rw [← hfin, hA, ZbA, if_pos hgo]⟩, by show its.length - (k + 1) < its.length - k; omega, ⟨rfl, rfl, fun _ _ => Has.get (l := [(0, _), (5, _), (6, _), (7, _)]) ⟨rfl, rfl, rfl, rfl, trivial⟩⟩⟩
  · refine ZaQ ?_;exact ⟨_, N, _, Zan rfl, hP _, by rw [← hN st0]; exact ZbK _, rfl, by rw [← hfin, List.drop_of_length_le (by have h := h8; omega)]; rfl⟩
end
theorem valuesZ_c (its : List Int) : ACalls Tryz.prog 111 [.d (.sl none (its.map intD))] [] fun r H' => r = .fn 139 [.d (.ptr (.sl none (its.map intD)))] ∧ H' = [] := by
  refine ZaB Tryz.func111 rfl rfl Tryz.ntmps111 rfl rfl rfl fun F hF => ?_;refine Zaf ?_;refine Zab ?_;refine Zal.go (ZaP 1 rfl rfl rfl rfl rfl rfl rfl) ?_;refine Zaa.go (Zac rfl rfl) ?_;refine Zae ?_;refine Zaf ?_;refine Zab ?_;refine o_freezeB 1 1 (.sl none (its.map intD)) [] hF rfl rfl rfl (by intro c hc; simp [D.cells] at hc; subst hc; rfl) rfl rfl rfl ?_;refine Zaa.go (Zcj rfl rfl) ?_;refine Zaa.go (Zac rfl rfl) ?_;refine Zae ?_;refine Zao ?_;exact ⟨_, [], [], Zan rfl, rfl, rfl, rfl, rfl⟩
abbrev hZ (q : List Int) : Hp := [(920, [.rowD 3 1 (q.map intD)]), (1, [.blk 26 [.own 920 0 q.length]])]
def stepZ (q : List Int) (x : Int) : List Int × Bool := (q ++ [x], true)
theorem feed_appZ : ∀ (l q : List Int), feed stepZ q l = q ++ l
  | [], q => by simp [feed]
  | x :: l, q => by rw [ZbA]; show (if true = true then feed stepZ (q ++ [x]) l else _) = _; rw [if_pos rfl, feed_appZ l]; simp
theorem feeds_appZ {P : Program} {l : Nat} {H : List Int → Hp} {n : Nat} (hY : ∀ q x, q.length < n → YCalls P l (encZ x) (H q) fun v H' => v = .d (.raw (.bool true)) ∧ H' = H (q ++ [x])) : ∀ (xs q : List Int), q.length + xs.length ≤ n → Feeds P l encZ H stepZ q xs
  | [], _, _ => trivial
  | x :: xs, q, h => ⟨hY q x (by simp at h; omega), fun _ => feeds_appZ hY xs (q ++ [x]) (by simp at h ⊢; omega)⟩
set_option maxRecDepth 100000 in
theorem appseqZ_c (its : List Int) (hits : its.length ≤ 1000000) : ACalls Tryz.prog 159 [.d (.sl (some true) []), .fn 139 [.d (.ptr (.sl none (its.map intD)))]] [] fun r H' => r = .own 920 0 its.length ∧ H' = [(920, [.rowD 3 1 (its.map intD)])] := by
  refine a_enterR Tryz.func159 rfl rfl Tryz.ntmps159 rfl rfl rfl fun F hF hFl => ?_;refine Zaf ?_;refine Zab ?_;refine Zal.go (ZaP 1 rfl rfl rfl rfl rfl rfl rfl) ?_;refine Zaa.go (Zac rfl rfl) ?_;refine Zae ?_;refine Zaf ?_;refine Zaf ?_;refine Zcf 1 0 0 920 sl26 rfl rfl rfl rfl rfl rfl rfl ?_;refine Zab ?_;refine Zaa.go (Zad rfl rfl) ?_;refine Zae ?_;refine Zaq ?_;refine a_keep [2, 6] rfl ?_;refine a_range (γ := Unit) hFl 900 rfl rfl rfl rfl rfl [1, 920] (CHr := hZ []) (fun _ => True) (fun _ => hZ its) (fun _ => .ready) (fun _ => none) ⟨rfl, rfl, trivial⟩ rfl rfl rfl (fun _ => rfl) (fun _ => rfl) rfl (fun _ _ => by simp) (fun _ _ => ⟨rfl, rfl⟩) [920, 1] hF rfl rfl (fun _ _ => rfl) (fun l A B hA hB => ?_) (fun _ _ => ?_)
  · refine (seqZ_c its hits l (fun q : List Int => (900, [.loop ⟨l, 13, [(2, .ptr 1 0 0), (6, .fn 139 [.d (.ptr (.sl none (its.map intD)))])], .ready, none, #[7], A, B⟩]) :: hZ q) [900, 920, 1] stepZ [] (fun _ => rfl) (fun _ => rfl) (fun _ => rfl) ?_).mono (fun r H' ⟨e1, e2⟩ => ⟨e1, (), trivial, by rw [e2, feed_appZ]; rfl⟩);refine feeds_appZ (n := its.length) (fun q x hq => ?_) its [] (by simp);refine yc_round (lf := 900) rfl rfl rfl rfl fun F hF hr => ?_;show Awp _ _ A _ _;rw [hA];refine Zab ?_;refine Zaa.go (Zac rfl rfl) ?_;refine Zae ?_;refine ⟨rfl, _, _, rfl, rfl, rfl, rfl, ?_⟩;show Awp _ _ B _ _;rw [hB];refine Zaq ?_;refine Zab ?_
    first | refine Zaa.go (Zas rfl rfl on26 rfl) ?_ | refine Zaa.go (Zai rfl rfl rfl on26 rfl) ?_ | refine Zaa.go (ZaI rfl rfl (rfl) rfl on26 rfl) ?_
    refine Zaa.go (Zad rfl rfl) ?_;refine Zal.go (ZaJ 30 sl26 rfl rfl rfl rfl rfl rfl rfl rfl) ?_
    first | refine Zal.go (Zbn (q) ([x]) rfl rfl rfl rfl rfl rfl rfl rfl sl26 (by simp only [List.length_singleton]; omega) rfl rfl rfl rfl) ?_ | refine Zal.go (Zbz (q) ([x]) rfl rfl rfl rfl rfl rfl (fun _ => rfl) sl26 (by simp only [List.length_singleton]; omega) rfl rfl rfl rfl) ?_
    refine Zal.go (ZaD rfl rfl rfl rfl rfl rfl rfl sz26) ?_;refine Zae ?_;exact ⟨none, _, _, [900, 920, 1], _, rfl, rfl, rfl, rfl, rfl, rfl, rfl, rfl⟩
  · refine Zaf ?_;refine Zab ?_
    first | refine Zaa.go (Zas rfl rfl on26 rfl) ?_ | refine Zaa.go (Zai rfl rfl rfl on26 rfl) ?_ | refine Zaa.go (ZaI rfl rfl (rfl) rfl on26 rfl) ?_
    refine Zaa.go (Zac rfl rfl) ?_;refine Zae ?_;refine Zao ?_;exact ⟨_, [920], _, Zan rfl, rfl, rfl, rfl, rfl⟩
set_option maxRecDepth 100000 in
theorem collectZ_c (its : List Int) (hits : its.length ≤ 1000000) : ACalls Tryz.prog 138 [.fn 139 [.d (.ptr (.sl none (its.map intD)))]] [] fun r H' => r = .own 920 0 its.length ∧ H' = [(920, [.rowD 3 1 (its.map intD)])] := by
  refine ZaB Tryz.func138 rfl rfl Tryz.ntmps138 rfl rfl rfl fun F hF => ?_;refine Zaf ?_;refine Zab ?_;refine Zaa.go (Zac rfl rfl) ?_;refine Zae ?_;refine Zaf ?_;refine Zab ?_;refine Zaa.go (Zad rfl rfl) ?_;refine Zal.go (Za8 (appseqZ_c its hits) rfl [920] ⟨rfl, trivial⟩ rfl rfl rfl rfl rfl rfl rfl rfl rfl) ?_;refine Zaa.go (Zac rfl rfl) ?_;refine Zae ?_;refine Zao ?_;exact ⟨_, [920], _, Zan rfl, rfl, rfl, rfl, rfl⟩
set_option maxRecDepth 100000 in
theorem sortedZ_p (its : List Int) (hits : its.length ≤ 1000000) : PCalls Tryz.prog 110 [.fn 139 [.d (.ptr (.sl none (its.map intD)))]] (.sl none ((sortI its).map intD)) := by
  have hsl := sortI_len its;refine ZaB Tryz.func110 rfl rfl Tryz.ntmps110 rfl rfl rfl fun F hF => ?_;refine Zaf ?_;refine Zab ?_;refine Zaa.go (Zac rfl rfl) ?_;refine Zae ?_;refine Zaf ?_;refine Zab ?_;refine Zaa.go (Zad rfl rfl) ?_;refine Zal.go (Za8 (collectZ_c its hits) rfl [920] ⟨rfl, trivial⟩ rfl rfl rfl rfl rfl rfl rfl rfl rfl) ?_;refine Zaa.go (Zac rfl rfl) ?_;refine Zae ?_;refine Zaf ?_;refine Zab ?_;refine Zaa.go (Zad rfl rfl) ?_;refine Zal.go (st_sortI laysS its (by omega) rfl rfl rfl rfl rfl rfl rfl) ?_;refine Zae ?_;refine Zaf ?_;refine Zb3 (emb := intD) 3 920 (sortI its) rfl rfl rfl hsl.symm rfl rfl rfl ?_;refine Zab ?_;refine Zaa.go (Zad rfl rfl) ?_;refine Zaa.go (Zac rfl rfl) ?_;refine Zae ?_;refine Zao ?_;exact ⟨_, [], [], Zan rfl, rfl, rfl, rfl, rfl⟩
theorem less_p (a b : Int) : PCalls Tryz.prog 133 [.d (intD a), .d (intD b)] (.raw (.bool (decide (a < b)))) := by
  refine ZaB Tryz.func133 rfl rfl Tryz.ntmps133 rfl rfl rfl fun F hF => ?_;refine Zaf ?_;refine Zab ?_;refine Zaa.go (Zac rfl rfl) ?_;refine Zae ?_;refine Zaf ?_;refine Zab ?_;refine Zaa.go (Zad rfl rfl) ?_;refine Zaa.go (Zau (nan_p a) rfl rfl) ?_;refine Zaa.go (Zad rfl rfl) ?_;refine o_setF 7 rfl (rfl) ?_;refine Zak rfl rfl rfl rfl ?_;refine Zak rfl rfl rfl rfl ?_;refine Zak rfl rfl rfl rfl ?_;refine Zaa.go (ZaC rfl rfl rfl rfl) ?_;refine Zaa.go (Zad rfl rfl) ?_;refine Zam rfl rfl rfl ?_;refine Zaa.go (Zad rfl rfl) ?_;refine Zam rfl rfl rfl ?_;refine Zaa.go (Zad rfl rfl) ?_;refine Zam rfl rfl rfl ?_
  first | refine Zaa.go (ZaK rfl rfl rfl) ?_ | refine Zaa.go (Zbm rfl rfl rfl) ?_
  refine Zaa.go (ZaC rfl rfl rfl rfl) ?_;refine Zaa.go (Zac rfl rfl) ?_;refine Zae ?_;refine Zao ?_;exact ⟨_, [], [], Zan rfl, rfl, rfl, rfl, rfl⟩
end Go.Proofs.YtnamabifclidmaaGreat
/- Layer 29: the analysis of a problem; sets of its items; why they are not admissible. -/
namespace Go.Proofs.YtnamabifclidmaaGreat
open Go.RowKit

def Za2 (p : Prb) : List Int := (ordP p).map Itm.id
abbrev HA (p : Prb) : Hp := [(10, [.blk 154 [.map 11 0, .d (.sl none ((Za2 p).map intD)), .d (.sl none ((linL p).map linD))]]), (11, [mapC intD itmD (itemsM p.it)])]
theorem maxI (a : Int) : (if 0 > a then 0 else a) = max a 0 := by rw [Int.max_def]; split <;> split <;> omega
set_option maxRecDepth 100000 in
theorem analyze_ok (p : Prb) (hb : PrbB p) (hE : prbE p = 0) : ACalls Tryz.prog 73 [.d (prbD p)] [] fun r H' => r = .tup [.ptr 3 0 0, .d (intD 0)] ∧ H' = [(3, [.blk 154 [.map 2 0, .d (.sl none ((Za2 p).map intD)), .d (.sl none ((linL p).map linD))]]), (2, [mapC intD itmD (itemsM p.it)])] := by
  have hck := pcheck_p p hb;rw [hE] at hck;have hid := Zb2 (ZbJ hE).2.1;have hor := order_ids_p p hb;have hb1 := hb.1;have hb2 := hb.2.1;refine ZaB Tryz.func73 rfl rfl Tryz.ntmps73 rfl rfl rfl fun F hF => ?_;refine Zaf ?_;refine Zab ?_;refine Zal.go (ZaP 1 rfl rfl rfl rfl rfl rfl rfl) ?_;refine Zaa.go (Zac rfl rfl) ?_;refine Zaa.go (Zac rfl rfl) ?_;refine Zae ?_;refine Zaf ?_;refine Zaf ?_;refine Zab ?_;refine Zaa.go (Zar rfl rfl rw35 rfl rfl rfl) ?_;refine Zaa.go (Zau (hck) rfl rfl) ?_;refine Zaa.go (Zac rfl rfl) ?_;refine Zae ?_;refine Zaf ?_;refine Zab ?_;refine Zaa.go (Zad rfl rfl) ?_;refine Zaa.go (Za3 rfl rfl rfl) ?_;refine Zae ?_;refine ZaX rfl ((by decide)) ?_;refine Zap ?_;refine Zaf ?_;refine Zab ?_;refine Zal.go (ZbG 2 rfl rfl rfl rfl) ?_;refine Zaa.go (Zar rfl rfl rw35 rfl rfl rfl) ?_;refine Zaa.go (Zau (hor) rfl rfl) ?_;refine Zaa.go (Za0 zl154 pl154 rfl rfl rfl) ?_;refine Zal.go (ZaP 3 rfl rfl rfl rfl rfl rfl rfl) ?_;refine Zaa.go (Zac rfl rfl) ?_;refine Zae ?_;refine Zaf ?_;refine Zaf ?_;refine Zab ?_;refine Zaa.go (Zah rfl Zbf rfl rfl rfl) ?_;refine Zaa.go (Zai rfl rfl rfl on33 rfl) ?_;refine Zaa.go (Zax rfl Tryz.underlying33 rfl) ?_;refine Zaa.go (Zad rfl rfl) ?_;refine Zae ?_;refine Zaq ?_;refine ZaU (α := Nat) (fun k => ⟨68, [(1, (.ptr 1 0 0)), (5, (.ptr 3 0 0)), (21, (.d (.sl none (p.it.map itmD)))), (22, (.d (intD (p.it.length : Int)))), (23, (.d (intD (k : Int))))], [(1, [prbB2 35 p]), (3, [.blk 154 [.map 2 0, .d (.sl none ((Za2 p).map intD)), nilC]]), (2, [mapC intD itmD (itemsM (p.it.take k))])]⟩) (fun k => k ≤ p.it.length) (fun k => p.it.length - k) (0) (Nat.zero_le _) (Zaw hF [1, 3, 2] rfl rfl ⟨rfl, rfl, rfl, rfl, rfl, trivial⟩) ?_;rintro k hk0;refine Zaf ?_;refine Zab ?_;refine Zaa.go (ZaK rfl rfl rfl) ?_;refine Zae ?_;refine Zaf ?_;refine ZaG rfl (fun h24 => ?_) (fun h24 => ?_)
  · have hk1 : k < p.it.length := ZaM h24;refine Zap ?_;refine Zaf ?_;refine Zaq ?_;refine Zaf ?_;refine Zab ?_;have hnk : p.it[k].id ∉ (p.it.take k).map Itm.id := fun h => by have hn := hid; rw [List.Nodup, List.pairwise_map, List.pairwise_iff_getElem] at hn; obtain ⟨x, hx, e⟩ := List.mem_map.1 h; obtain ⟨j, hj, rfl⟩ := List.mem_take_iff_getElem.1 hx; exact hn j k (by omega) hk1 (by omega) e
    refine Zaa.go (Zay (k) rfl rfl (rfl) (getm hk1) Tryz.underlying33 rfl sz100 rfl) ?_;refine Zaa.go (ZaA rfl rfl rw100 rfl) ?_;refine Zal.go (ZaR 4 zl100 rfl rfl rfl rfl) ?_;refine Zal.go (ZaD rfl rfl rfl rfl rfl rfl rfl sz100) ?_;refine Zae ?_;refine Za4 [[], [0], [0, 1], [0, 1, 2], [], [4], [], [0, 1, 2, 3, 4, 5, 6]] mixed rfl ?_;refine dws ?_;refine Zaj [5] [] rfl rfl (fun _ => Zag (Zad rfl rfl)) ?_;refine Zaj [27] [] rfl rfl (fun _ => Zag (ZaY rfl rfl)) ?_;refine Zaj [28] [] rfl rfl (fun _ => Zag (Zah rfl fi154_0 rfl rfl rfl)) ?_;refine Zat [29] rfl rfl (fun _ => Zag (Zai rfl rfl rfl on151 rfl)) ?_;refine Zaj [7] [] rfl rfl (fun _ => Zag (Zah rfl Zbi rfl rfl rfl)) ?_;refine Zat [31] rfl rfl (fun _ => Zag (Zai rfl rfl rfl on3 rfl)) ?_;refine Zat [7] rfl rfl (fun _ => Zag (Zar rfl rfl rw100 rfl rfl rfl)) ?_;refine dwc 7 rfl rfl rfl ?_;refine dw1 8 rfl rfl ?_;refine Zal.go (st_mapU (itemsM (p.it.take k)) (p.it[k].id) (p.it[k]) rfl rfl rfl mt151 kt3 rfl rfl) ?_;refine Zae ⟨rfl, ?_⟩;refine dwe ?_;refine Zab ?_;refine Zaa.go (Zaz rfl rfl (wrapS (k + 1) (by omega)) rfl) ?_;refine Zaa.go (Zad rfl rfl) ?_;refine Zae ?_;exact ⟨k + 1, by show k + 1 ≤ _; omega, by show p.it.length - (k + 1) < p.it.length - k; omega, Zaw hF [1, 3, 2] rfl (by rw [List.take_succ_eq_append_getElem hk1, ← itemsM_put hnk]; rfl) ⟨rfl, rfl, rfl, rfl, rfl, trivial⟩⟩
  · refine ZaQ ?_;refine Zaf ?_;refine Zaf ?_;rw [List.take_of_length_le (show p.it.length ≤ k by have h := h24; omega)];refine Zcf 3 0 2 900 sl152 rfl rfl rfl rfl rfl rfl rfl ?_;refine Zab ?_;refine Zaa.go (Zah rfl fi35_0 rfl rfl rfl) ?_;refine Zaa.go (Zai rfl rfl rfl on32 rfl) ?_;refine Zaa.go (Zax rfl Tryz.underlying32 rfl) ?_;refine Zaa.go (Zad rfl rfl) ?_;refine Zae ?_;refine Zaq ?_;refine ZaU (α := Nat × List Lin) (fun q => ⟨68, [(1, (.ptr 1 0 0)), (5, (.ptr 3 0 0)), (36, (.d (.sl none (p.ro.map rooD)))), (37, (.d (intD (p.ro.length : Int)))), (38, (.d (intD (q.1 : Int))))], [(900, [.rowD 157 8 (q.2.map linD)]), (1, [prbB2 35 p]), (3, [.blk 154 [.map 2 0, .d (.sl none ((Za2 p).map intD)), .own 900 0 q.2.length]]), (2, [mapC intD itmD (itemsM p.it)])]⟩) (fun q => q.1 ≤ p.ro.length ∧ q.2 = (p.ro.take q.1).map (toLin p)) (fun q => p.ro.length - q.1) ((0, [])) (⟨Nat.zero_le _, rfl⟩) (Zaw hF [900, 1, 3, 2] rfl rfl ⟨rfl, rfl, rfl, rfl, rfl, trivial⟩) ?_;rintro ⟨m, acc⟩ ⟨hm0, hA⟩;dsimp only at hm0 hA ⊢;refine Zaf ?_;refine Zab ?_;refine Zaa.go (ZaK rfl rfl rfl) ?_;refine Zae ?_;refine Zaf ?_;refine ZaG rfl (fun h39 => ?_) (fun h39 => ?_)
    · have hm1 : m < p.ro.length := ZaM h39;refine Zap ?_;refine Zaf ?_;refine Zaq ?_;refine Zaf ?_;refine Zab ?_;have hal : acc.length ≤ 100000 := by rw [hA, List.length_map, List.length_take]; omega
      refine Zaa.go (Zay (m) rfl rfl (rfl) (getm hm1) Tryz.underlying32 rfl sz70 rfl) ?_;refine Zaa.go (ZaA rfl rfl rw70 rfl) ?_;refine Zal.go (ZaR 5 zl70 rfl rfl rfl rfl) ?_;refine Zal.go (ZaD rfl rfl rfl rfl rfl rfl rfl sz70) ?_;refine Zae ?_;refine Za4 [[], [], [1], [1, 2], [1, 2, 3], [], [5], [], [7], [7, 8], [], [], [11], [10, 11, 12], [5, 6, 7, 8, 9, 10, 11, 12, 13], [5, 6, 7, 8, 9, 10, 11, 12, 13, 14], [1, 2, 3, 4, 5, 6, 7, 8, 9, 10, 11, 12, 13, 14, 15], [0, 1, 2, 3, 4, 5, 6, 7, 8, 9, 10, 11, 12, 13, 14, 15, 16], [0, 1, 2, 3, 4, 5, 6, 7, 8, 9, 10, 11, 12, 13, 14, 15, 16, 17], [0, 1, 2, 3, 4, 5, 6, 7, 8, 9, 10, 11, 12, 13, 14, 15, 16, 17, 18]] mixed rfl ?_;refine dws ?_;refine Zaj [5] [] rfl rfl (fun _ => Zag (Zad rfl rfl)) ?_;refine Zaj [5] [] rfl rfl (fun _ => Zag (Zad rfl rfl)) ?_;refine Zaj [43] [] rfl rfl (fun _ => Zag (ZaY rfl rfl)) ?_;refine Zaj [44] [] rfl rfl (fun _ => Zag (Zah rfl fi154_2 rfl rfl rfl)) ?_;refine Zaj [45] [3] rfl rfl (fun _ => Zag (Zai rfl rfl rfl on152 rfl)) ?_;refine Zaj [9] [] rfl rfl (fun _ => Zag (Zah rfl ZbN rfl rfl rfl)) ?_;refine Zaj [47] [5] rfl rfl (fun _ => Zag (Zar rfl rfl rw47 rfl rfl rfl)) ?_;refine Zaj [9] [] rfl rfl (fun _ => Zag (Zah rfl fi70_1 rfl rfl rfl)) ?_;refine Zaj [49] [5] rfl rfl (fun _ => Zag (Zai rfl rfl rfl on2 rfl)) ?_;refine Zaj [50] [] rfl rfl (fun _ => Zag (st_max rfl rfl (maxI _) rfl)) ?_;refine Zaj [1] [1] rfl rfl (fun _ => Zag (Zar rfl rfl rw35 rfl rfl rfl)) ?_;refine Zaj [9] [] rfl rfl (fun _ => Zag (Zah rfl ZbN rfl rfl rfl)) ?_;refine Zaj [53] [5] rfl rfl (fun _ => Zag (Zar rfl rfl rw47 rfl rfl rfl)) ?_;refine Zaj [52, 54] [] rfl rfl (fun _ => Zag (Zau (queue_p p p.ro[m].r hb) rfl rfl)) ?_;refine Zaj [48, 51, 55] [] rfl rfl (fun _ => Zag (Za0 zl157 pl157 rfl rfl rfl)) ?_;refine ZbH [56] [50] [(57, _)] rfl rfl (fun _ => Zbh (ZaJ 50 sl152 rfl rfl rfl rfl rfl rfl rfl rfl)) (.inr ⟨57, _, rfl, rfl, rfl, rfl, rfl⟩) rfl rfl rfl rfl rfl ?_;refine ZbH [46, 57] [900, 50, 3, 2] [(58, _)] rfl rfl (fun _ => Zbh (Zbn (acc) ([toLin p p.ro[m]]) rfl rfl rfl rfl rfl rfl rfl rfl sl152 (by simp only [List.length_singleton]; omega) rfl rfl rfl rfl)) (.inr ⟨58, _, rfl, rfl, rfl, rfl, rfl⟩) rfl rfl rfl rfl rfl ?_;refine dwc 17 rfl rfl rfl ?_;refine dw1 18 rfl rfl ?_;refine Zaa.go (ZaY rfl rfl) ?_;refine Zae ⟨rfl, ?_⟩;refine dw1 19 rfl rfl ?_;refine Zaa.go (Zah rfl fi154_2 rfl rfl rfl) ?_;refine Zae ⟨rfl, ?_⟩;refine dw1 20 rfl rfl ?_;refine Zal.go (ZaD rfl rfl rfl rfl rfl rfl rfl sz152) ?_;refine Zae ⟨rfl, ?_⟩;refine dwe ?_;refine Zab ?_;refine Zaa.go (Zaz rfl rfl (wrapS (m + 1) (by omega)) rfl) ?_;refine Zaa.go (Zad rfl rfl) ?_;refine Zae ?_;exact ⟨(m + 1, acc ++ [toLin p p.ro[m]]), ⟨by show m + 1 ≤ _; omega, by show acc ++ [toLin p p.ro[m]] = (p.ro.take (m + 1)).map (toLin p); rw [tk_map hm1, hA]⟩, by show p.ro.length - (m + 1) < p.ro.length - m; omega, Zaw hF [900, 1, 3, 2] rfl (rfl) ⟨rfl, rfl, rfl, rfl, rfl, trivial⟩⟩
    · refine ZaQ ?_;refine Zaf ?_;have hfa : acc = p.ro.map (toLin p) := by rw [hA, List.take_of_length_le (by have h := h39; omega)]
      refine Zab ?_;refine Zaa.go (Zad rfl rfl) ?_;refine Zaa.go (ZaY rfl rfl) ?_;refine Zaa.go (Zah rfl fi154_2 rfl rfl rfl) ?_;refine Zaa.go (Zai rfl rfl rfl on152 rfl) ?_;refine Zal.go (st_sort laysLn (k := 8) (by decide) Tryz.isAgg157 Tryz.sizeOf157 Tryz.func100 rfl rfl linD_agg (fun a b => cmpR a.r b.r) ((cmpR_pc.comap Lin.r).swo) acc (linL p) (by rw [hfa, List.length_map]; omega) (fun x _ y _ => ana1_p x y) (fun ys g1 g2 => lin_one hE (by rw [← hfa]; exact g1) g2) rfl rfl rfl fa_raw rfl rfl rfl rfl rfl) ?_;refine Zae ?_;refine Zaf ?_;refine ZbP (ys := (linL p).map linD) 3 0 2 900 rfl rfl rfl (by rw [List.length_map, linL_len, hfa, List.length_map]; exact Nat.le_refl _) (List.take_of_length_le (by rw [List.length_map, linL_len, hfa, List.length_map]; exact Nat.le_refl _)) rfl rfl rfl rfl rfl rfl ?_;refine Zab ?_;refine Zaa.go (Zad rfl rfl) ?_;refine Zaa.go (Zac rfl rfl) ?_;refine Zaa.go (Zac rfl rfl) ?_;refine Zae ?_;refine Zao ?_;exact ⟨_, [3, 2], _, Zan rfl, rfl, rfl, rfl, rfl⟩
set_option maxRecDepth 100000 in
theorem analyze_bad (p : Prb) (hb : PrbB p) (hE : prbE p ≠ 0) : PCalls Tryz.prog 73 [.d (prbD p)] (.tup [.raw (.pointer none), intD (prbE p)]) := by
  have hck := pcheck_p p hb;refine ZaB Tryz.func73 rfl rfl Tryz.ntmps73 rfl rfl rfl fun F hF => ?_;refine Zaf ?_;refine Zab ?_;refine Zal.go (ZaP 1 rfl rfl rfl rfl rfl rfl rfl) ?_;refine Zaa.go (Zac rfl rfl) ?_;refine Zaa.go (Zac rfl rfl) ?_;refine Zae ?_;refine Zaf ?_;refine Zaf ?_;refine Zab ?_;refine Zaa.go (Zar rfl rfl rw35 rfl rfl rfl) ?_;refine Zaa.go (Zau (hck) rfl rfl) ?_;refine Zaa.go (Zac rfl rfl) ?_;refine Zae ?_;refine Zaf ?_;refine Zab ?_;refine Zaa.go (Zad rfl rfl) ?_;refine Zaa.go (Za3 rfl rfl rfl) ?_;refine Zae ?_;refine ZaS rfl ((decide_eq_true hE)) ?_;refine Zaf ?_;refine Zab ?_;refine Zaa.go (Zad rfl rfl) ?_;refine Zaa.go (Zac rfl rfl) ?_;refine Zaa.go (Zac rfl rfl) ?_;refine Zae ?_;refine Zao ?_;exact ⟨_, [], [], Zan rfl, rfl, rfl, rfl, rfl⟩
end Go.Proofs.YtnamabifclidmaaGreat
/- Layer 29: sets of items; why they are not admissible; overdrawn resources. -/
namespace Go.Proofs.YtnamabifclidmaaGreat
open Go.RowKit

theorem itemsM_get (l : List Itm) (i : Int) : mget (itemsM l) i itm0 = l.getD ((l.map Itm.id).idxOf i) itm0 := by
  induction l with
  | nil => rfl
  | cons a l ih =>
    show (if i = a.id then a else mget (itemsM l) i itm0) = _;rw [List.map_cons, List.idxOf_cons]
    by_cases h : a.id = i
    · rw [if_pos h.symm]; simp [h]
    · rw [if_neg (fun e => h e.symm), ih];have hb : (a.id == i) = false := by simp [h]
      rw [hb]; simp
theorem itemsM_has (l : List Itm) (i : Int) : mhas (itemsM l) i = decide (i ∈ l.map Itm.id) := by
  rw [Bool.eq_iff_iff, mhas_iff, decide_eq_true_eq];unfold itemsM;rw [List.map_map]; rfl
theorem itmOf_get (p : Prb) (i : Int) : mget (itemsM p.it) i itm0 = itmOf p i := itemsM_get p.it i
theorem itmOf_B {p : Prb} (hb : PrbB p) (i : Int) : (itmOf p i).po.length ≤ 100000 ∧ (itmOf p i).pa.length ≤ 100000 ∧ (itmOf p i).af.length ≤ 100000 := by
  unfold itmOf;rw [List.getD_eq_getElem?_getD]
  cases h : p.it[(p.it.map Itm.id).idxOf i]? with
  | none => exact ⟨by simp [itm0], by simp [itm0], by simp [itm0]⟩
  | some x => exact hb.2.2 _ (List.mem_of_getElem? h)
set_option maxRecDepth 100000 in
theorem prepare_ok (p : Prb) (l : List Int) (hb : PrbB p) (hl : l.length ≤ 100000) (hE : choE p l = 0) : ACalls Tryz.prog 45 [.d (prbD p), .d (.sl none (l.map intD))] [] fun r H' => r = .tup [.ptr 10 0 0, .map 2 0, .d (intD 0)] ∧ H' = HA p ++ [(2, [mapC intD boolD (setM l)])] := by
  have h0 : prbE p = 0 := by
    unfold choE at hE; split at hE
    · exact hE
    · rename_i h; simpa using h
  have han := (analyze_ok p hb h0).by [(3, 10), (2, 11)] rfl;have hC : choE p l = setE (p.it.map Itm.id) l := if_neg (fun h => h h0);rw [hC] at hE;refine ZaB Tryz.func45 rfl rfl Tryz.ntmps45 rfl rfl rfl fun F hF => ?_;refine Zaf ?_;refine Zab ?_;refine Zal.go (ZaP 1 rfl rfl rfl rfl rfl rfl rfl) ?_;refine Zaa.go (Zac rfl rfl) ?_;refine Zaa.go (Zac rfl rfl) ?_;refine Zaa.go (Zac rfl rfl) ?_;refine Zae ?_;refine Zaf ?_;refine Zab ?_;refine Zaa.go (Zar rfl rfl rw35 rfl rfl rfl) ?_;refine Zal.go (Za8 han rfl [10, 11] ⟨rfl, rfl, trivial⟩ rfl rfl rfl rfl rfl rfl rfl rfl rfl) ?_;refine Zaa.go (Zad rfl rfl) ?_;refine Zaa.go (ZaF rfl rfl rfl) ?_;refine Zaa.go (ZaF rfl rfl rfl) ?_;refine Zaa.go (Zac rfl rfl) ?_;refine Zaa.go (Zac rfl rfl) ?_;refine Zae ?_;refine Zaf ?_;refine Zaf ?_;refine Zab ?_;refine Zaa.go (Zad rfl rfl) ?_;refine Zaa.go (Za3 rfl rfl rfl) ?_;refine Zae ?_;refine ZaX rfl ((by decide)) ?_;refine Zap ?_;refine Zaf ?_;refine Zab ?_;refine Zal.go (ZbG 2 rfl rfl rfl rfl) ?_;refine Zaa.go (Zac rfl rfl) ?_;refine Zae ?_;refine Zaf ?_;refine Zaf ?_;refine Zab ?_;refine Zaa.go (Zad rfl rfl) ?_;refine Zaa.go (Zax rfl Tryz.underlying26 rfl) ?_;refine Zaa.go (Zad rfl rfl) ?_;refine Zae ?_;refine Zaq ?_;refine ZaU (α := Nat) (fun k => ⟨48, [(7, (.ptr 10 0 0)), (9, (.map 2 0)), (23, (.d (.sl none (l.map intD)))), (24, (.d (intD (l.length : Int)))), (25, (.d (intD (k : Int))))], HA p ++ [(2, [mapC intD boolD (setM (l.take k))])]⟩) (fun k => k ≤ l.length) (fun k => l.length - k) (0) (Nat.zero_le _) (Zaw hF [10, 11, 2] rfl rfl ⟨rfl, rfl, rfl, rfl, rfl, trivial⟩) ?_;rintro k hk0;refine Zaf ?_;refine Zab ?_;refine Zaa.go (ZaK rfl rfl rfl) ?_;refine Zae ?_;refine Zaf ?_;refine ZaG rfl (fun h26 => ?_) (fun h26 => ?_)
  · have hk1 : k < l.length := ZaM h26;refine Zap ?_;refine Zaf ?_;refine Zaq ?_;refine Zaf ?_;refine Zab ?_;have hin : l[k] ∈ p.it.map Itm.id := (set_ok hE).2 _ (List.getElem_mem hk1);have hnk : l[k] ∉ l.take k := fun h => by have hn2 := (set_ok hE).1; rw [List.Nodup, List.pairwise_iff_getElem] at hn2; obtain ⟨j, hj, e⟩ := List.mem_take_iff_getElem.1 h; exact hn2 j k (by omega) hk1 (by omega) e
    refine Zaa.go (Zay (k) rfl rfl (rfl) (getm hk1) Tryz.underlying26 rfl sz3 rfl) ?_;refine Zaa.go (Zas rfl rfl on3 rfl) ?_;refine Zaa.go (Zac rfl rfl) ?_;refine Zae ?_;refine Zaf ?_;refine Zaf ?_;refine Zab ?_;refine Zaa.go (Zad rfl rfl) ?_;refine Zaa.go (ZaY rfl rfl) ?_;refine Zaa.go (Zah rfl fi154_0 rfl rfl rfl) ?_;refine Zaa.go (Zai rfl rfl rfl on151 rfl) ?_;refine Zaa.go (Zad rfl rfl) ?_;refine Zaa.go (st_lookOkW (itemsM p.it) l[k] itm0 rfl rfl rfl mt151 kt3 za100 itm0_weakD rfl) ?_;refine Zaa.go (Zad rfl rfl) ?_;refine Zaa.go (ZaF rfl rfl rfl) ?_;refine Zaa.go (ZaF rfl rfl rfl) ?_;refine Zal.go (ZaR 3 zl100 rfl rfl rfl rfl) ?_;refine Zal.go (ZaD rfl rfl rfl rfl rfl rfl rfl sz100) ?_;refine Zaa.go (Zac rfl rfl) ?_;refine Zae ?_;refine Zaf ?_;refine Zab ?_;refine Zaa.go (Zad rfl rfl) ?_;refine Zaa.go (Zbu rfl rfl) ?_;refine Zae ?_;refine ZaX rfl ((by rw [itemsM_has, decide_eq_true hin]; rfl)) ?_;refine Zap ?_;refine Zaf ?_;refine Zaf ?_;refine Zab ?_;refine Zaa.go (Zad rfl rfl) ?_;refine Zaa.go (Zad rfl rfl) ?_;refine Zaa.go (Zbg (setM (l.take k)) (l[k]) (false) _ rfl rfl rfl mt108 kt3 za4 rfl rfl) ?_;refine Zae ?_;refine ZaX rfl ((by rw [ZbZ]; exact decide_eq_false hnk)) ?_;refine Zap ?_;refine Zab ?_;refine Zaa.go (Zad rfl rfl) ?_;refine Zaa.go (Zad rfl rfl) ?_;refine Zal.go (st_mapU (setM (l.take k)) (l[k]) (true) rfl rfl rfl mt108 kt3 rfl rfl) ?_;refine Zae ?_;refine Zab ?_;refine Zaa.go (Zaz rfl rfl (wrapS (k + 1) (by omega)) rfl) ?_;refine Zaa.go (Zad rfl rfl) ?_;refine Zae ?_;exact ⟨k + 1, by show k + 1 ≤ _; omega, by show l.length - (k + 1) < l.length - k; omega, Zaw hF [10, 11, 2] rfl (by rw [List.take_succ_eq_append_getElem hk1, ← setM_put hnk]; rfl) ⟨rfl, rfl, rfl, rfl, rfl, trivial⟩⟩
  · refine ZaQ ?_;refine Zaf ?_;refine Zab ?_;refine Zaa.go (Zad rfl rfl) ?_;refine Zaa.go (Zad rfl rfl) ?_;refine Zaa.go (Zac rfl rfl) ?_;refine Zaa.go (Zac rfl rfl) ?_;refine Zaa.go (Zac rfl rfl) ?_;refine Zae ?_;refine Zao ?_;exact ⟨_, [10, 11, 2], _, Zan rfl, rfl, rfl, rfl, by rw [List.take_of_length_le (show l.length ≤ k by have h := h26; omega)]; rfl⟩
set_option maxRecDepth 100000 in
theorem prepare_bad (p : Prb) (l : List Int) (hb : PrbB p) (hl : l.length ≤ 100000) (hE : choE p l ≠ 0) : PCalls Tryz.prog 45 [.d (prbD p), .d (.sl none (l.map intD))] (.tup [.raw (.pointer none), .raw (.map none), intD (choE p l)]) := by
  by_cases h0 : prbE p = 0
  · have han := (analyze_ok p hb h0).by [(3, 10), (2, 11)] rfl;have hC : choE p l = setE (p.it.map Itm.id) l := if_neg (fun h => h h0);rw [hC] at hE ⊢
    obtain ⟨E0, hE0⟩ : ∃ e, setE (p.it.map Itm.id) l = e := ⟨_, rfl⟩
    rw [hE0] at hE ⊢;refine ZaB Tryz.func45 rfl rfl Tryz.ntmps45 rfl rfl rfl fun F hF => ?_;refine Zaf ?_;refine Zab ?_;refine Zal.go (ZaP 1 rfl rfl rfl rfl rfl rfl rfl) ?_;refine Zaa.go (Zac rfl rfl) ?_;refine Zaa.go (Zac rfl rfl) ?_;refine Zaa.go (Zac rfl rfl) ?_;refine Zae ?_;refine Zaf ?_;refine Zab ?_;refine Zaa.go (Zar rfl rfl rw35 rfl rfl rfl) ?_;refine Zal.go (Za8 han rfl [10, 11] ⟨rfl, rfl, trivial⟩ rfl rfl rfl rfl rfl rfl rfl rfl rfl) ?_;refine Zaa.go (Zad rfl rfl) ?_;refine Zaa.go (ZaF rfl rfl rfl) ?_;refine Zaa.go (ZaF rfl rfl rfl) ?_;refine Zaa.go (Zac rfl rfl) ?_;refine Zaa.go (Zac rfl rfl) ?_;refine Zae ?_;refine Zaf ?_;refine Zaf ?_;refine Zab ?_;refine Zaa.go (Zad rfl rfl) ?_;refine Zaa.go (Za3 rfl rfl rfl) ?_;refine Zae ?_;refine ZaX rfl ((by decide)) ?_;refine Zap ?_;refine Zaf ?_;refine Zab ?_;refine Zal.go (ZbG 2 rfl rfl rfl rfl) ?_;refine Zaa.go (Zac rfl rfl) ?_;refine Zae ?_;refine Zaf ?_;refine Zaf ?_;refine Zab ?_;refine Zaa.go (Zad rfl rfl) ?_;refine Zaa.go (Zax rfl Tryz.underlying26 rfl) ?_;refine Zaa.go (Zad rfl rfl) ?_;refine Zae ?_;refine Zaq ?_;refine ZaU (α := Nat) (fun k => ⟨48, [(7, (.ptr 10 0 0)), (9, (.map 2 0)), (23, (.d (.sl none (l.map intD)))), (24, (.d (intD (l.length : Int)))), (25, (.d (intD (k : Int))))], HA p ++ [(2, [mapC intD boolD (setM (l.take k))])]⟩) (fun k => k ≤ l.length ∧ E0 = fst0 (((List.range l.length).drop k).map (chErr (p.it.map Itm.id) l))) (fun k => l.length - k) (0) (⟨Nat.zero_le _, hE0.symm⟩) (Zaw hF [10, 11, 2] rfl rfl ⟨rfl, rfl, rfl, rfl, rfl, trivial⟩) ?_;rintro k ⟨hk0, hk⟩;refine Zaf ?_;refine Zab ?_;refine Zaa.go (ZaK rfl rfl rfl) ?_;refine Zae ?_;refine Zaf ?_;refine ZaG rfl (fun h26 => ?_) (fun h26 => ?_)
    · have hk1 : k < l.length := ZaM h26;refine Zap ?_;refine Zaf ?_;refine Zaq ?_;refine Zaf ?_;refine Zab ?_;have hEc := Zb7 hk1 hk;have hgd := Za5 0 hk1;refine Zaa.go (Zay (k) rfl rfl (rfl) (getm hk1) Tryz.underlying26 rfl sz3 rfl) ?_;refine Zaa.go (Zas rfl rfl on3 rfl) ?_;refine Zaa.go (Zac rfl rfl) ?_;refine Zae ?_;refine Zaf ?_;refine Zaf ?_;refine Zab ?_;refine Zaa.go (Zad rfl rfl) ?_;refine Zaa.go (ZaY rfl rfl) ?_;refine Zaa.go (Zah rfl fi154_0 rfl rfl rfl) ?_;refine Zaa.go (Zai rfl rfl rfl on151 rfl) ?_;refine Zaa.go (Zad rfl rfl) ?_;refine Zaa.go (st_lookOkW (itemsM p.it) l[k] itm0 rfl rfl rfl mt151 kt3 za100 itm0_weakD rfl) ?_;refine Zaa.go (Zad rfl rfl) ?_;refine Zaa.go (ZaF rfl rfl rfl) ?_;refine Zaa.go (ZaF rfl rfl rfl) ?_;refine Zal.go (ZaR 3 zl100 rfl rfl rfl rfl) ?_;refine Zal.go (ZaD rfl rfl rfl rfl rfl rfl rfl sz100) ?_;refine Zaa.go (Zac rfl rfl) ?_;refine Zae ?_;refine Zaf ?_;refine Zab ?_;refine Zaa.go (Zad rfl rfl) ?_;refine Zaa.go (Zbu rfl rfl) ?_;refine Zae ?_;refine Za1 rfl (fun h39 => ?_) (fun h39 => ?_)
      · have hin : ¬ l[k] ∈ p.it.map Itm.id := by rw [itemsM_has] at h39; simpa using h39
        refine Zaf ?_;refine Zab ?_;refine Zaa.go (Zac rfl rfl) ?_;refine Zaa.go (Zac rfl rfl) ?_;refine Zaa.go (Zac rfl rfl) ?_;refine Zae ?_;refine Zao ?_;exact ⟨_, [], [], Zan rfl, rfl, rfl, by rw [hEc.2 9 (by unfold chErr; rw [hgd, if_pos hin]) (by decide)], rfl⟩
      · have hin : l[k] ∈ p.it.map Itm.id := by rw [itemsM_has] at h39; simpa using h39
        refine Zap ?_;refine Zaf ?_;refine Zaf ?_;refine Zab ?_;refine Zaa.go (Zad rfl rfl) ?_;refine Zaa.go (Zad rfl rfl) ?_;refine Zaa.go (Zbg (setM (l.take k)) (l[k]) (false) _ rfl rfl rfl mt108 kt3 za4 rfl rfl) ?_;refine Zae ?_;refine Za1 rfl (fun h42 => ?_) (fun h42 => ?_)
        · have hnk : l[k] ∈ l.take k := by rw [ZbZ] at h42; simpa using h42
          refine Zaf ?_;refine Zab ?_;refine Zaa.go (Zac rfl rfl) ?_;refine Zaa.go (Zac rfl rfl) ?_;refine Zaa.go (Zac rfl rfl) ?_;refine Zae ?_;refine Zao ?_;exact ⟨_, [], [], Zan rfl, rfl, rfl, by rw [hEc.2 7 (by unfold chErr; rw [hgd, if_neg (fun h => h hin), if_pos hnk]) (by decide)], rfl⟩
        · have hnk : ¬ l[k] ∈ l.take k := by rw [ZbZ] at h42; simpa using h42
          refine Zap ?_;refine Zab ?_;refine Zaa.go (Zad rfl rfl) ?_;refine Zaa.go (Zad rfl rfl) ?_;refine Zal.go (st_mapU (setM (l.take k)) (l[k]) (true) rfl rfl rfl mt108 kt3 rfl rfl) ?_;refine Zae ?_;refine Zab ?_;refine Zaa.go (Zaz rfl rfl (wrapS (k + 1) (by omega)) rfl) ?_;refine Zaa.go (Zad rfl rfl) ?_;refine Zae ?_;exact ⟨k + 1, ⟨by show k + 1 ≤ _; omega, hEc.1 (by unfold chErr; rw [hgd, if_neg (fun h => h hin), if_neg hnk])⟩, by show l.length - (k + 1) < l.length - k; omega, Zaw hF [10, 11, 2] rfl (by rw [List.take_succ_eq_append_getElem hk1, ← setM_put hnk]; rfl) ⟨rfl, rfl, rfl, rfl, rfl, trivial⟩⟩
    · refine ZaQ ?_;refine Zaf ?_;refine Zab ?_;refine Zaa.go (Zad rfl rfl) ?_;refine Zaa.go (Zad rfl rfl) ?_;refine Zaa.go (Zac rfl rfl) ?_;refine Zaa.go (Zac rfl rfl) ?_;refine Zaa.go (Zac rfl rfl) ?_;refine Zae ?_;refine Zao ?_;exact absurd (by rw [hk, List.drop_of_length_le (by have h := h26; simp only [List.length_range]; omega)]; rfl) hE
  · have hC : choE p l = prbE p := if_pos h0;have hab := analyze_bad p hb h0;rw [hC];refine ZaB Tryz.func45 rfl rfl Tryz.ntmps45 rfl rfl rfl fun F hF => ?_;refine Zaf ?_;refine Zab ?_;refine Zal.go (ZaP 1 rfl rfl rfl rfl rfl rfl rfl) ?_;refine Zaa.go (Zac rfl rfl) ?_;refine Zaa.go (Zac rfl rfl) ?_;refine Zaa.go (Zac rfl rfl) ?_;refine Zae ?_;refine Zaf ?_;refine Zab ?_;refine Zaa.go (Zar rfl rfl rw35 rfl rfl rfl) ?_;refine Zaa.go (Zau (hab) rfl rfl) ?_;refine Zaa.go (Zad rfl rfl) ?_;refine Zaa.go (ZaE rfl rfl rfl) ?_;refine Zaa.go (ZaE rfl rfl rfl) ?_;refine Zaa.go (Zac rfl rfl) ?_;refine Zaa.go (Zac rfl rfl) ?_;refine Zae ?_;refine Zaf ?_;refine Zaf ?_;refine Zab ?_;refine Zaa.go (Zad rfl rfl) ?_;refine Zaa.go (Za3 rfl rfl rfl) ?_;refine Zae ?_;refine ZaS rfl ((decide_eq_true h0)) ?_;refine Zaf ?_;refine Zab ?_;refine Zaa.go (Zad rfl rfl) ?_;refine Zaa.go (Zac rfl rfl) ?_;refine Zaa.go (Zac rfl rfl) ?_;refine Zaa.go (Zac rfl rfl) ?_;refine Zae ?_;refine Zao ?_;exact ⟨_, [], [], Zan rfl, rfl, rfl, rfl, rfl⟩
end Go.Proofs.YtnamabifclidmaaGreat
/- Layer 29: why a set is not admissible; overdrawn resources. -/
namespace Go.Proofs.YtnamabifclidmaaGreat
open Go.RowKit

structure Bkd where
  i : Int
  m : Int
  r : Rsc
  deriving DecidableEq
abbrev rsc0 : Rsc := ⟨0, accZ, [], []⟩
abbrev bkdD (x : Bkd) : D := .agg [intD x.i, intD x.m, intD x.r.k, strD x.r.acc.o, intD x.r.acc.k, strD x.r.acc.a, strD x.r.f, strD x.r.t]
def prefN (i : Int) (q : List Int) : Nat := (max (ixI i q) 0).toNat
def prefQ (i : Int) (q : List Int) : List Int := q.take (prefN i q)
def reqA (i : Int) (af : List Int) : List Bkd := (sortI af).map fun x => ⟨i, x, rsc0⟩
def reqL (i : Int) (x : Lin) : List Bkd := (prefQ i x.q).map fun y => ⟨i, y, x.r⟩
def req (p : Prb) (i : Int) : List Bkd := reqA i (itmOf p i).af ++ (linL p).flatMap (reqL i)
def blkF (inM : Int → Bool) (l : List Bkd) : List Bkd := l.filter fun b => !inM b.m
def inM (M : List (Int × Bool)) (x : Int) : Bool := mget M x false
theorem prefN_le (i : Int) (q : List Int) : prefN i q ≤ q.length := by
  unfold prefN ixI
  split
  · rename_i h
    have := List.idxOf_lt_length_iff.2 h;omega
  · omega
theorem prefN_eq (i : Int) (q : List Int) : max (ixI i q) 0 = (prefN i q : Int) := by unfold prefN; omega
theorem blkF_app (f : Int → Bool) (l m : List Bkd) : blkF f (l ++ m) = blkF f l ++ blkF f m := List.filter_append _ _
theorem blkF_len (f : Int → Bool) (l : List Bkd) : (blkF f l).length ≤ l.length := List.length_filter_le _ _
theorem blkF_snoc {f : Int → Bool} {l : List Bkd} {k : Nat} (hk : k < l.length) : blkF f (l.take (k + 1)) = blkF f (l.take k) ++ (if !f l[k].m then [l[k]] else []) := flt_snoc hk
theorem flat_snoc {α β : Type} {f : α → List β} {l : List α} {k : Nat} (hk : k < l.length) : (l.take (k + 1)).flatMap f = (l.take k).flatMap f ++ f l[k] := by
  rw [List.take_succ_eq_append_getElem hk, List.flatMap_append]; simp
theorem flat_len {α β : Type} {f : α → List β} {n : Nat} : ∀ {l : List α}, (∀ x ∈ l, (f x).length ≤ n) → (l.flatMap f).length ≤ l.length * n
  | [], _ => by simp
  | a :: l, h => by
    have h1 := h a (by simp);have h2 := flat_len (l := l) (fun x hx => h x (by simp [hx]));rw [List.flatMap_cons, List.length_append, List.length_cons, Nat.add_mul]; omega
theorem linL_q {p : Prb} (x : Lin) (hx : x ∈ linL p) : x.q.length ≤ p.it.length := by
  unfold linL at hx;obtain ⟨y, _, rfl⟩ := List.mem_map.1 hx;show (qIds (ordP p) y.r).length ≤ _;unfold qIds;rw [List.length_map];exact Nat.le_trans (List.length_filter_le _ _) (ordP_len p)
theorem reqL_len {p : Prb} (i : Int) (x : Lin) (hx : x ∈ linL p) : (reqL i x).length ≤ p.it.length := by
  unfold reqL prefQ; rw [List.length_map, List.length_take]; have := linL_q x hx; omega
abbrev mapV (mv : Nat) : AV := .d (.raw (.map (some mv)))
abbrev HM2 (p : Prb) (mv : Nat) (bs : Option (List Nat × Nat)) (M : List (Int × Bool)) : Hp := HA p ++ [(12, [.map bs (ents intD boolD M)]), (13, [.addr 12 0 (.map (some mv))])]
set_option maxRecDepth 100000 in
theorem blockers_c (p : Prb) (mv : Nat) (bs : Option (List Nat × Nat)) (M : List (Int × Bool)) (i : Int) (hb : PrbB p) (h1 : p.it.length ≤ 1000) (h2 : p.ro.length ≤ 1000) : ACalls Tryz.prog 74 [.ptr 10 0 0, mapV mv, .d (intD i)] (HM2 p mv bs M) fun r H' => r = .d (.sl none ((blkF (inM M) (req p i)).map bkdD)) ∧ H' = HM2 p mv bs M := by
  have hI := itmOf_get p i;have hIb := itmOf_B hb i;have hLl := linL_len p;have hcl := (cloneI_c (itmOf p i).af (by omega)).by [(20, 21)] rfl;have hRl : ∀ x ∈ linL p, (reqL i x).length ≤ 1000 := fun x hx => Nat.le_trans (reqL_len i x hx) h1;have hsl := sortI_len (itmOf p i).af
  obtain ⟨S, hS⟩ : ∃ S, sortI (itmOf p i).af = S := ⟨_, rfl⟩
  have hreq : req p i = (S.map fun x => (⟨i, x, rsc0⟩ : Bkd)) ++ (linL p).flatMap (reqL i) := by unfold req reqA; rw [hS]
  rw [hreq];rw [hS] at hsl;refine ZaB Tryz.func74 rfl rfl Tryz.ntmps74 rfl rfl rfl fun F hF => ?_;refine Zaf ?_;refine Zab ?_;refine Zaa.go (Zac rfl rfl) ?_;refine Zae ?_;refine Zaf ?_;refine Zab ?_;refine Zaa.go (Zac rfl rfl) ?_;refine Zae ?_;refine Zaf ?_;refine a_adopt 7 900 sl39 rfl rfl rfl rfl ?_;refine Zab ?_;refine Zaa.go (Zad rfl rfl) ?_;refine Zaa.go (ZaY rfl rfl) ?_;refine Zaa.go (Zah rfl fi154_0 rfl rfl rfl) ?_;refine Zaa.go (Zai rfl rfl rfl on151 rfl) ?_;refine Zaa.go (Zad rfl rfl) ?_;refine Zaa.go (st_lookW (itemsM p.it) i itm0 (itmOf p i) rfl rfl rfl mt151 kt3 za100 itm0_weakD hI rfl) ?_;refine Zaa.go (st_fieldD1 rfl Zbs rfl rfl) ?_;refine Zal.go (Za8 hcl rfl [21] ⟨rfl, trivial⟩ rfl rfl rfl rfl rfl rfl rfl rfl rfl) ?_;refine Zaa.go (Zac rfl rfl) ?_;refine Zae ?_;refine Zaf ?_;refine Zab ?_;refine Zaa.go (Zad rfl rfl) ?_;refine Zal.go (st_sortI laysS (itmOf p i).af (by omega) rfl rfl rfl rfl rfl rfl rfl) ?_;refine Zae ?_;refine Zaf ?_;refine Zaf ?_;rw [hS];refine Zb3 (emb := intD) 8 21 S rfl rfl rfl hsl.symm rfl rfl rfl ?_;refine Zab ?_;refine Zaa.go (Zad rfl rfl) ?_;refine Zaa.go (Zax rfl Tryz.underlying26 rfl) ?_;refine Zaa.go (Zad rfl rfl) ?_;refine Zae ?_;refine Zaq ?_;refine ZaU (α := Nat × List Bkd) (fun q => ⟨81, [(0, .ptr 10 0 0), (1, mapV mv), (2, .d (intD i)), (7, (.own 900 0 q.2.length)), (26, (.d (.sl none (S.map intD)))), (27, (.d (intD (S.length : Int)))), (28, (.d (intD (q.1 : Int))))], HM2 p mv bs M ++ [(900, [.rowD 49 8 (q.2.map bkdD)])]⟩) (fun q => q.1 ≤ S.length ∧ q.2 = blkF (inM M) ((S.map fun x => (⟨i, x, rsc0⟩ : Bkd)).take q.1)) (fun q => S.length - q.1) ((0, [])) (⟨Nat.zero_le _, rfl⟩) (Zaw hF [10, 11, 12, 13, 900] rfl rfl ⟨rfl, rfl, rfl, rfl, rfl, rfl, rfl, trivial⟩) ?_;rintro ⟨k, acc⟩ ⟨hk0, hA⟩;dsimp only at hk0 hA ⊢;refine Zaf ?_;refine Zab ?_;refine Zaa.go (ZaK rfl rfl rfl) ?_;refine Zae ?_;refine Zaf ?_;refine ZaG rfl (fun h29 => ?_) (fun h29 => ?_)
  · have hk1 : k < S.length := ZaM h29;refine Zap ?_;refine Zaf ?_;refine Zaq ?_;refine Zaf ?_;refine Zab ?_;refine Zaa.go (Zay (k) rfl rfl (rfl) (getm hk1) Tryz.underlying26 rfl sz3 rfl) ?_;refine Zaa.go (Zas rfl rfl on3 rfl) ?_;refine Zaa.go (Zac rfl rfl) ?_;refine Zae ?_;refine Zaf ?_;refine Zab ?_;refine Zaa.go (Zad rfl rfl) ?_;refine o_rawMap 32 13 0 rfl rfl ?_;refine Zaa.go (Zad rfl rfl) ?_;refine Zaa.go (Zbg M S[k] false (inM M S[k]) rfl rfl rfl mt108 kt3 za4 rfl rfl) ?_;refine Zaa.go (Zbu rfl rfl) ?_;refine Zae ?_;refine Za1 rfl (fun h35 => ?_) (fun h35 => ?_)
    · refine Zab ?_;have hal : acc.length ≤ 100000 := by rw [hA]; refine Nat.le_trans (blkF_len _ _) ?_; rw [List.length_take, List.length_map]; omega
      refine Zaa.go (Zad rfl rfl) ?_;refine Zaa.go (Zad rfl rfl) ?_;refine Zaa.go (Zad rfl rfl) ?_;refine Zaa.go (Za0 zl49 pl49 rfl rfl rfl) ?_;refine Zal.go (ZaJ 1 sl39 rfl rfl rfl rfl rfl rfl rfl rfl) ?_;refine Zal.go (Zbn (acc) ([⟨i, S[k], rsc0⟩]) rfl rfl rfl rfl rfl rfl rfl rfl sl39 (by simp only [List.length_singleton]; omega) rfl rfl rfl rfl) ?_;refine Zaa.go (Zac rfl rfl) ?_;refine Zae ?_;refine Zab ?_;refine Zaa.go (Zaz rfl rfl (wrapS (k + 1) (by omega)) rfl) ?_;refine Zaa.go (Zad rfl rfl) ?_;refine Zae ?_;exact ⟨(k + 1, acc ++ [⟨i, S[k], rsc0⟩]), ⟨by show k + 1 ≤ _; omega, by show acc ++ [⟨i, S[k], rsc0⟩] = blkF (inM M) ((S.map fun x => (⟨i, x, rsc0⟩ : Bkd)).take (k + 1)); rw [blkF_snoc (by simpa using hk1), List.getElem_map, if_pos (by show (!inM M S[k]) = true; simpa using h35), hA]⟩, by show S.length - (k + 1) < S.length - k; omega, Zaw hF [10, 11, 12, 13, 900] rfl (rfl) ⟨rfl, rfl, rfl, rfl, rfl, rfl, rfl, trivial⟩⟩
    · refine Zap ?_;refine Zab ?_;refine Zaa.go (Zaz rfl rfl (wrapS (k + 1) (by omega)) rfl) ?_;refine Zaa.go (Zad rfl rfl) ?_;refine Zae ?_;exact ⟨(k + 1, acc), ⟨by show k + 1 ≤ _; omega, by show acc = blkF (inM M) ((S.map fun x => (⟨i, x, rsc0⟩ : Bkd)).take (k + 1)); rw [blkF_snoc (by simpa using hk1), List.getElem_map, if_neg (by show ¬ (!inM M S[k]) = true; simpa using h35), List.append_nil, hA]⟩, by show S.length - (k + 1) < S.length - k; omega, Zaw hF [10, 11, 12, 13, 900] rfl (rfl) ⟨rfl, rfl, rfl, rfl, rfl, rfl, rfl, trivial⟩⟩
  · refine ZaQ ?_;refine Zaf ?_;refine Zaf ?_;have hA1 : acc = blkF (inM M) (S.map fun x => (⟨i, x, rsc0⟩ : Bkd)) := by rw [hA, List.take_of_length_le (by rw [List.length_map]; have h := h29; omega)]
    have hal1 : acc.length ≤ 100000 := by rw [hA1]; refine Nat.le_trans (blkF_len _ _) ?_; rw [List.length_map]; omega
    refine Zab ?_;refine Zaa.go (Zad rfl rfl) ?_;refine Zaa.go (ZaY rfl rfl) ?_;refine Zaa.go (Zah rfl fi154_2 rfl rfl rfl) ?_;refine Zaa.go (Zai rfl rfl rfl on152 rfl) ?_;refine Zaa.go (Zax rfl Tryz.underlying152 rfl) ?_;refine Zaa.go (Zad rfl rfl) ?_;refine Zae ?_;refine Zaq ?_;refine ZaU (α := Nat × List Bkd) (fun q => ⟨81, [(0, .ptr 10 0 0), (1, mapV mv), (2, .d (intD i)), (7, (.own 900 0 q.2.length)), (46, (.d (.sl none ((linL p).map linD)))), (47, (.d (intD ((linL p).length : Int)))), (48, (.d (intD (q.1 : Int))))], HM2 p mv bs M ++ [(900, [.rowD 49 8 (q.2.map bkdD)])]⟩) (fun q => q.1 ≤ (linL p).length ∧ q.2 = acc ++ blkF (inM M) (((linL p).take q.1).flatMap (reqL i))) (fun q => (linL p).length - q.1) ((0, acc)) (⟨Nat.zero_le _, by simp [blkF]⟩) (Zaw hF [10, 11, 12, 13, 900] rfl rfl ⟨rfl, rfl, rfl, rfl, rfl, rfl, rfl, trivial⟩) ?_;rintro ⟨m, acc2⟩ ⟨hm0, hB⟩;dsimp only at hm0 hB ⊢;refine Zaf ?_;refine Zab ?_;refine Zaa.go (ZaK rfl rfl rfl) ?_;refine Zae ?_;refine Zaf ?_;refine ZaG rfl (fun h49 => ?_) (fun h49 => ?_)
    · have hm1 : m < (linL p).length := ZaM h49;refine Zap ?_;refine Zaf ?_;refine Zaq ?_;refine Zaf ?_;refine Zab ?_;have hql := linL_q _ (List.getElem_mem hm1);have hfl := flat_len (f := reqL i) (n := 1000) (l := (linL p).take m) (fun x hx => hRl x (List.mem_of_mem_take hx));have hbl : acc2.length ≤ 1200000 := by rw [hB, List.length_append]; have := blkF_len (inM M) (((linL p).take m).flatMap (reqL i)); rw [List.length_take] at hfl; have h3 : min m (linL p).length * 1000 ≤ 1000 * 1000 := Nat.mul_le_mul_right _ (by omega); omega
      refine Zaa.go (Zay (m) rfl rfl (rfl) (getm hm1) Tryz.underlying152 rfl sz157 rfl) ?_;refine Zaa.go (ZaA rfl rfl rw157 rfl) ?_;refine Zal.go (ZaR 2 zl157 rfl rfl rfl rfl) ?_;refine Zal.go (ZaD rfl rfl rfl rfl rfl rfl rfl sz157) ?_;refine Zae ?_;refine Zaf ?_;refine Zab ?_;refine Zaa.go (Zah rfl fi157_2 rfl rfl rfl) ?_;refine Zaa.go (Zai rfl rfl rfl on26 rfl) ?_;refine Zaa.go (Zad rfl rfl) ?_;refine Zaa.go (Zau (index_p (linL p)[m].q i (by omega)) rfl rfl) ?_;refine Zaa.go (Zac rfl rfl) ?_;refine Zae ?_;refine Zaf ?_;refine Zab ?_;refine Zaa.go (Zah rfl fi157_2 rfl rfl rfl) ?_;refine Zaa.go (Zai rfl rfl rfl on26 rfl) ?_;refine Zaa.go (Zad rfl rfl) ?_;refine Zaa.go (st_max rfl rfl (maxI _) rfl) ?_;refine Zaa.go (Zci ((linL p)[m].q) (prefN i (linL p)[m].q) rfl rfl rfl (prefN_eq _ _) (prefN_le _ _) Tryz.underlying26 sz3 (fun _ => rfl) rfl) ?_;refine Zaa.go (Zax rfl Tryz.underlying26 rfl) ?_;refine Zaa.go (Zad rfl rfl) ?_;refine Zae ?_;refine Zaq ?_;refine ZaU (α := Nat × List Bkd) (fun q => ⟨81, [(0, .ptr 10 0 0), (1, mapV mv), (2, .d (intD i)), (7, (.own 900 0 q.2.length)), (12, (.ptr 2 0 0)), (46, (.d (.sl none ((linL p).map linD)))), (47, (.d (intD ((linL p).length : Int)))), (48, (.d (intD (m : Int)))), (60, (.d (.sl none ((prefQ i (linL p)[m].q).map intD)))), (61, (.d (intD ((prefQ i (linL p)[m].q).length : Int)))), (62, (.d (intD (q.1 : Int))))], HM2 p mv bs M ++ [(900, [.rowD 49 8 (q.2.map bkdD)]), (2, [.blk 157 [.d (intD (linL p)[m].r.k), .d (strD (linL p)[m].r.acc.o), .d (intD (linL p)[m].r.acc.k), .d (strD (linL p)[m].r.acc.a), .d (strD (linL p)[m].r.f), .d (strD (linL p)[m].r.t), .d (intD (linL p)[m].n), .d (.sl none ((linL p)[m].q.map intD))]])]⟩) (fun q => q.1 ≤ (prefQ i (linL p)[m].q).length ∧ q.2 = acc2 ++ blkF (inM M) ((reqL i (linL p)[m]).take q.1)) (fun q => (prefQ i (linL p)[m].q).length - q.1) ((0, acc2)) (⟨Nat.zero_le _, by simp [blkF]⟩) (Zaw hF [10, 11, 12, 13, 900, 2] rfl rfl ⟨rfl, rfl, rfl, rfl, rfl, rfl, rfl, rfl, rfl, rfl, rfl, trivial⟩) ?_;rintro ⟨j, acc3⟩ ⟨hj0, hC⟩;dsimp only at hj0 hC ⊢;refine Zaf ?_;refine Zab ?_;refine Zaa.go (ZaK rfl rfl rfl) ?_;refine Zae ?_;refine Zaf ?_;refine ZaG rfl (fun h63 => ?_) (fun h63 => ?_)
      · have hj1 : j < (prefQ i (linL p)[m].q).length := ZaM h63;refine Zap ?_;refine Zaf ?_;refine Zaq ?_;refine Zaf ?_;refine Zab ?_;refine Zaa.go (Zay (j) rfl rfl (rfl) (getm hj1) Tryz.underlying26 rfl sz3 rfl) ?_;refine Zaa.go (Zas rfl rfl on3 rfl) ?_;refine Zaa.go (Zac rfl rfl) ?_;refine Zae ?_;refine Zaf ?_;refine Zab ?_;refine Zaa.go (Zad rfl rfl) ?_;refine o_rawMap 66 13 0 rfl rfl ?_;refine Zaa.go (Zad rfl rfl) ?_;refine Zaa.go (Zbg M (prefQ i (linL p)[m].q)[j] false (inM M (prefQ i (linL p)[m].q)[j]) rfl rfl rfl mt108 kt3 za4 rfl rfl) ?_;refine Zaa.go (Zbu rfl rfl) ?_;refine Zae ?_;refine Za1 rfl (fun h69 => ?_) (fun h69 => ?_)
        · refine Zab ?_;have hcl3 : acc3.length ≤ 1300000 := by rw [hC, List.length_append]; have h3 := blkF_len (inM M) ((reqL i (linL p)[m]).take j); have h4 := hRl _ (List.getElem_mem hm1); rw [List.length_take] at h3; omega
          refine Zaa.go (Zad rfl rfl) ?_;refine Zaa.go (Zad rfl rfl) ?_;refine Zaa.go (Zad rfl rfl) ?_;refine Zaa.go (Zah rfl fi157_0 rfl rfl rfl) ?_;refine Zaa.go (Zar rfl rfl rw47 rfl rfl rfl) ?_;refine Zaa.go (Za0 zl49 pl49 rfl rfl rfl) ?_;refine Zal.go (ZaJ 3 sl39 rfl rfl rfl rfl rfl rfl rfl rfl) ?_;refine Zal.go (Zbn (acc3) ([⟨i, (prefQ i (linL p)[m].q)[j], (linL p)[m].r⟩]) rfl rfl rfl rfl rfl rfl rfl rfl sl39 (by simp only [List.length_singleton]; omega) rfl rfl rfl rfl) ?_;refine Zaa.go (Zac rfl rfl) ?_;refine Zae ?_;refine Zab ?_;refine Zaa.go (Zaz rfl rfl (wrapS (j + 1) (by have h5 : (prefQ i (linL p)[m].q).length ≤ 1000 := by { unfold prefQ; rw [List.length_take]; omega }; omega)) rfl) ?_;refine Zaa.go (Zad rfl rfl) ?_;refine Zae ?_;exact ⟨(j + 1, acc3 ++ [⟨i, (prefQ i (linL p)[m].q)[j], (linL p)[m].r⟩]), ⟨by show j + 1 ≤ _; omega, by show acc3 ++ [⟨i, (prefQ i (linL p)[m].q)[j], (linL p)[m].r⟩] = acc2 ++ blkF (inM M) ((reqL i (linL p)[m]).take (j + 1)); rw [blkF_snoc (by unfold reqL; simpa using hj1), hC, List.append_assoc]; congr 2; unfold reqL; rw [List.getElem_map, if_pos (by show (!inM M (prefQ i (linL p)[m].q)[j]) = true; simpa using h69)]⟩, by show (prefQ i (linL p)[m].q).length - (j + 1) < (prefQ i (linL p)[m].q).length - j; omega, Zaw hF [10, 11, 12, 13, 900, 2] rfl (rfl) ⟨rfl, rfl, rfl, rfl, rfl, rfl, rfl, rfl, rfl, rfl, rfl, trivial⟩⟩
        · refine Zap ?_;refine Zab ?_;refine Zaa.go (Zaz rfl rfl (wrapS (j + 1) (by have h5 : (prefQ i (linL p)[m].q).length ≤ 1000 := by { unfold prefQ; rw [List.length_take]; omega }; omega)) rfl) ?_;refine Zaa.go (Zad rfl rfl) ?_;refine Zae ?_;exact ⟨(j + 1, acc3), ⟨by show j + 1 ≤ _; omega, by show acc3 = acc2 ++ blkF (inM M) ((reqL i (linL p)[m]).take (j + 1)); rw [blkF_snoc (by unfold reqL; simpa using hj1), hC]; unfold reqL; rw [List.getElem_map, if_neg (by show ¬ (!inM M (prefQ i (linL p)[m].q)[j]) = true; simpa using h69), List.append_nil]⟩, by show (prefQ i (linL p)[m].q).length - (j + 1) < (prefQ i (linL p)[m].q).length - j; omega, Zaw hF [10, 11, 12, 13, 900, 2] rfl (rfl) ⟨rfl, rfl, rfl, rfl, rfl, rfl, rfl, rfl, rfl, rfl, rfl, trivial⟩⟩
      · have hfin : acc3 = acc2 ++ blkF (inM M) (reqL i (linL p)[m]) := by rw [hC, List.take_of_length_le (by unfold reqL; rw [List.length_map]; have h := h63; omega)]
        refine ZaQ ?_;refine Zab ?_;refine Zaa.go (Zaz rfl rfl (wrapS (m + 1) (by omega)) rfl) ?_;refine Zaa.go (Zad rfl rfl) ?_;refine Zae ?_;exact ⟨(m + 1, acc3), ⟨by show m + 1 ≤ _; omega, by show acc3 = acc ++ blkF (inM M) (((linL p).take (m + 1)).flatMap (reqL i)); rw [flat_snoc hm1, blkF_app, ← List.append_assoc, ← hB]; exact hfin⟩, by show (linL p).length - (m + 1) < (linL p).length - m; omega, Zaw hF [10, 11, 12, 13, 900] rfl (rfl) ⟨rfl, rfl, rfl, rfl, rfl, rfl, rfl, trivial⟩⟩
    · refine ZaQ ?_;refine Zaf ?_;have hfa : acc2 = blkF (inM M) ((S.map fun x => (⟨i, x, rsc0⟩ : Bkd)) ++ (linL p).flatMap (reqL i)) := by rw [hB, hA1, List.take_of_length_le (by have h := h49; omega), blkF_app]
      refine Zb3 (emb := bkdD) 7 900 acc2 rfl rfl rfl rfl rfl rfl rfl ?_;refine Zab ?_;refine Zaa.go (Zad rfl rfl) ?_;refine Zaa.go (Zac rfl rfl) ?_;refine Zae ?_;refine Zao ?_;exact ⟨_, [10, 11, 12, 13], _, Zan rfl, rfl, rfl, by rw [hfa], rfl⟩
end Go.Proofs.YtnamabifclidmaaGreat
/- Layer 29: why a set is not admissible; overdrawn resources, continued. -/
namespace Go.Proofs.YtnamabifclidmaaGreat
open Go.RowKit

def blk1 (p : Prb) (f : Int → Bool) (i : Int) : List Bkd := if f i then blkF f (req p i) else []
def blks (p : Prb) (f : Int → Bool) : List Bkd := (Za2 p).flatMap (blk1 p f)
theorem req_len {p : Prb} (hb : PrbB p) (h1 : p.it.length ≤ 1000) (h2 : p.ro.length ≤ 1000) (i : Int) : (req p i).length ≤ 1100000 := by
  unfold req reqA;rw [List.length_append, List.length_map, sortI_len];have h3 := itmOf_B hb i;have h4 := flat_len (f := reqL i) (n := 1000) (l := linL p) (fun x hx => Nat.le_trans (reqL_len i x hx) h1);have h5 := linL_len p;have h6 : (linL p).length * 1000 ≤ 1000 * 1000 := Nat.mul_le_mul_right _ (by omega);omega
theorem blk1_len {p : Prb} (hb : PrbB p) (h1 : p.it.length ≤ 1000) (h2 : p.ro.length ≤ 1000) (f : Int → Bool) (i : Int) : (blk1 p f i).length ≤ 1100000 := by
  unfold blk1; split
  · exact Nat.le_trans (blkF_len _ _) (req_len hb h1 h2 i)
  · simp
theorem le_step {a k N : Nat} (h : a ≤ k * N) : a ≤ (k + 1) * N := Nat.le_trans h (Nat.mul_le_mul_right _ (Nat.le_succ _))
theorem le_step2 {α : Type} {a b : List α} {k N : Nat} (h : a.length ≤ k * N) (h2 : b.length ≤ N) : (a ++ b).length ≤ (k + 1) * N := by rw [List.length_append, Nat.add_mul, Nat.one_mul]; exact Nat.add_le_add h h2
set_option maxRecDepth 100000 in
theorem blocks_c (p : Prb) (mv : Nat) (bs : Option (List Nat × Nat)) (M : List (Int × Bool)) (hb : PrbB p) (h1 : p.it.length ≤ 1000) (h2 : p.ro.length ≤ 1000) : ACalls Tryz.prog 46 [.ptr 10 0 0, mapV mv] (HM2 p mv bs M) fun r H' => r = .d (.sl none ((blks p (inM M)).map bkdD)) ∧ H' = HM2 p mv bs M := by
  have hbl : ∀ i, (blk1 p (inM M) i).length ≤ 1100000 := blk1_len hb h1 h2 _;have hor : (Za2 p).length ≤ 1000 := by unfold Za2; rw [List.length_map]; exact Nat.le_trans (ordP_len p) h1
  have hbs : blks p (inM M) = (Za2 p).flatMap (blk1 p (inM M)) := rfl;rw [hbs];refine ZaB Tryz.func46 rfl rfl Tryz.ntmps46 rfl rfl rfl fun F hF => ?_;refine Zaf ?_;refine Zab ?_;refine Zaa.go (Zac rfl rfl) ?_;refine Zae ?_;refine Zaf ?_;refine Zab ?_;refine Zaa.go (Zac rfl rfl) ?_;refine Zae ?_;refine Zaf ?_;refine Zaf ?_;refine a_adopt 5 900 sl39 rfl rfl rfl rfl ?_;refine Zab ?_;refine Zaa.go (Zad rfl rfl) ?_
  first | refine Zaa.go (ZaY rfl rfl) ?_ | refine Zaa.go (Zcd rfl rfl) ?_ | refine Zaa.go (st_nilCheckR rfl rfl) ?_
  first | refine Zaa.go (Zah rfl fi154_1 rfl rfl rfl) ?_ | refine Zaa.go (ZaH rfl fi154_1 rfl rfl rfl) ?_ | refine Zaa.go (ZaN rfl fi154_1 rfl rfl rfl) ?_ | refine Zaa.go (ZaW rfl fi154_1 rfl rfl rfl) ?_
  first | refine Zaa.go (Zas rfl rfl on26 rfl) ?_ | refine Zaa.go (Zai rfl rfl rfl on26 rfl) ?_ | refine Zaa.go (ZaI rfl rfl (rfl) rfl on26 rfl) ?_
  first | refine Zaa.go (Zax rfl Tryz.underlying26 rfl) ?_ | refine Zaa.go (Zbr rfl rfl Tryz.underlying26 rfl) ?_ | refine Zaa.go (Zbq rfl Tryz.underlying26 rfl) ?_ | refine Zaa.go (Zbj rfl Tryz.underlying26 rfl) ?_ | refine Zaa.go (Zbp rfl Tryz.underlying26 rfl) ?_
  refine Zaa.go (Zad rfl rfl) ?_;refine Zae ?_;refine Zaq ?_;refine ZaU (α := Nat × List Bkd) (fun q => ⟨28, [(0, .ptr 10 0 0), (1, mapV mv), (5, (.own 900 0 q.2.length)), (11, (.d (.sl none ((Za2 p).map intD)))), (12, (.d (intD ((Za2 p).length : Int)))), (13, (.d (intD (q.1 : Int))))], HM2 p mv bs M ++ [(900, [.rowD 49 8 (q.2.map bkdD)])]⟩) (fun q => q.1 ≤ (Za2 p).length ∧ q.2 = ((Za2 p).take q.1).flatMap (blk1 p (inM M)) ∧ q.2.length ≤ q.1 * 1100000) (fun q => (Za2 p).length - q.1) ((0, [])) (⟨Nat.zero_le _, rfl, Nat.le_refl _⟩) (Zaw hF [10, 11, 12, 13, 900] rfl rfl ⟨rfl, rfl, rfl, rfl, rfl, rfl, trivial⟩) ?_;rintro ⟨k, acc⟩ ⟨hk0, hA, hL⟩;dsimp only at hk0 hA hL ⊢;refine Zaf ?_;refine Zab ?_
  first | refine Zaa.go (ZaK rfl rfl rfl) ?_ | refine Zaa.go (Zbm rfl rfl rfl) ?_
  refine Zae ?_;refine Zaf ?_
  first | refine ZaG rfl (fun h14 => ?_) (fun h14 => ?_) | refine Za1 rfl (fun h14 => ?_) (fun h14 => ?_)
  · have hk1 : k < (Za2 p).length := ZaM h14;refine Zap ?_;refine Zaf ?_;refine Zaq ?_;refine Zaf ?_;refine Zab ?_
    first | refine Zaa.go (Zay (k) rfl rfl (rfl) (getm hk1) Tryz.underlying26 rfl sz3 rfl) ?_ | refine Zaa.go (Zbe (k) rfl rfl (rfl) (getm hk1) rfl Tryz.underlying26 sz3 rfl) ?_
    first | refine Zaa.go (Zas rfl rfl on3 rfl) ?_ | refine Zaa.go (Zai rfl rfl rfl on3 rfl) ?_ | refine Zaa.go (ZaI rfl rfl (rfl) rfl on3 rfl) ?_
    refine Zaa.go (Zac rfl rfl) ?_;refine Zae ?_;refine Zaf ?_;refine Zab ?_;refine Zaa.go (Zad rfl rfl) ?_;refine o_rawMap 17 13 0 rfl rfl ?_;refine Zaa.go (Zad rfl rfl) ?_;refine Zaa.go (Zbg M (Za2 p)[k] false (inM M (Za2 p)[k]) rfl rfl rfl mt108 kt3 za4 rfl rfl) ?_;refine Zae ?_
    first | refine ZaG rfl (fun h19 => ?_) (fun h19 => ?_) | refine Za1 rfl (fun h19 => ?_) (fun h19 => ?_)
    · refine Zab ?_;refine Zaa.go (Zad rfl rfl) ?_;refine Zaa.go (Zad rfl rfl) ?_;refine Zaa.go (Zad rfl rfl) ?_;refine Zaa.go (Zad rfl rfl) ?_;refine Zal.go (Za8 (blockers_c p mv bs M (Za2 p)[k] hb h1 h2) rfl [10, 11, 12, 13] ⟨rfl, rfl, rfl, rfl, trivial⟩ rfl rfl rfl rfl rfl rfl rfl rfl rfl) ?_;have hrl := Nat.le_trans (blkF_len (inM M) _) (req_len hb h1 h2 (Za2 p)[k])
      first | refine Zal.go (Zbn (acc) (blkF (inM M) (req p (Za2 p)[k])) rfl rfl rfl rfl rfl rfl rfl rfl sl39 (by omega) rfl rfl rfl rfl) ?_ | refine Zal.go (Zbz (acc) (blkF (inM M) (req p (Za2 p)[k])) rfl rfl rfl rfl rfl rfl (fun _ => rfl) sl39 (by omega) rfl rfl rfl rfl) ?_
      refine Zaa.go (Zac rfl rfl) ?_;refine Zae ?_;refine Zab ?_;refine Zaa.go (Zaz rfl rfl (wrapS (k + 1) (by have h := hor; omega)) rfl) ?_;refine Zaa.go (Zad rfl rfl) ?_;refine Zae ?_;exact ⟨(k + 1, acc ++ blkF (inM M) (req p (Za2 p)[k])), ⟨by show k + 1 ≤ _; omega, by show acc ++ blkF (inM M) (req p (Za2 p)[k]) = ((Za2 p).take (k + 1)).flatMap (blk1 p (inM M)); rw [flat_snoc hk1, ← hA]; unfold blk1; rw [if_pos (by simpa using h19)], le_step2 hL (Nat.le_trans (blkF_len (inM M) _) (req_len hb h1 h2 (Za2 p)[k]))⟩, by show (Za2 p).length - (k + 1) < (Za2 p).length - k; omega, Zaw hF [10, 11, 12, 13, 900] rfl (rfl) ⟨rfl, rfl, rfl, rfl, rfl, rfl, trivial⟩⟩
    · refine Zap ?_;refine Zab ?_;refine Zaa.go (Zaz rfl rfl (wrapS (k + 1) (by have h := hor; omega)) rfl) ?_;refine Zaa.go (Zad rfl rfl) ?_;refine Zae ?_;exact ⟨(k + 1, acc), ⟨by show k + 1 ≤ _; omega, by show acc = ((Za2 p).take (k + 1)).flatMap (blk1 p (inM M)); rw [flat_snoc hk1, ← hA]; unfold blk1; rw [if_neg (by simpa using h19), List.append_nil], le_step hL⟩, by show (Za2 p).length - (k + 1) < (Za2 p).length - k; omega, Zaw hF [10, 11, 12, 13, 900] rfl (rfl) ⟨rfl, rfl, rfl, rfl, rfl, rfl, trivial⟩⟩
  · refine ZaQ ?_;refine Zaf ?_;have hfa : acc = (Za2 p).flatMap (blk1 p (inM M)) := by rw [hA, List.take_of_length_le (by have h := h14; omega)]
    refine Zb3 (emb := bkdD) 5 900 acc rfl rfl rfl rfl rfl rfl rfl ?_;refine Zab ?_;refine Zaa.go (Zad rfl rfl) ?_;refine Zaa.go (Zac rfl rfl) ?_;refine Zae ?_;refine Zao ?_;exact ⟨_, [10, 11, 12, 13], _, Zan rfl, rfl, rfl, by rw [hfa], rfl⟩
end Go.Proofs.YtnamabifclidmaaGreat
