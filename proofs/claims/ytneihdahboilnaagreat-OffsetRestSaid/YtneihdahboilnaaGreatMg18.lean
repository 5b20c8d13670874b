/- The kit's contract of slices.Sort at integers as a contract over an owned row. No program in sight. -/
import Derived.Test.YtneihdahboilnaaGreatMg17
import Derived.Shelf.SortG.Plain
import Derived.Shelf.SortG.SortNone
namespace Go.Proofs.YtneihdahboilnaaGreat
open Go.RowKit Go.Shelf
open Go.Sort (putRow Holds putCells)

def sortI (l : List Int) : List Int := l.mergeSort fun x y => decide (x ≤ y)
theorem sortI_perm (l : List Int) : (sortI l).Perm l := List.mergeSort_perm l _
theorem sortI_len (l : List Int) : (sortI l).length = l.length := (sortI_perm l).length_eq
theorem sortI_sorted (l : List Int) : (sortI l).Pairwise (· ≤ ·) := by
  have := List.pairwise_mergeSort (le := fun x y : Int => decide (x ≤ y)) (fun a b c h1 h2 => by simp only [decide_eq_true_eq] at *; omega) (fun a b => by simp only [Bool.or_eq_true, decide_eq_true_eq]; omega) l;exact this.imp fun h => by simpa using h
abbrev zD (z : Int) : D := .raw (.int .i64 z)
variable {P : Program} {ρr : Ren}
theorem st_sortI (L : SlLaysN.n53 P ρr) {E : TypeId} {g53 : FuncId} (xs : List Int) (hsz : xs.length < 4611686018427387904) {F : Fr} {s : AS} {d : Nat} {x : Operand} {ty : TypeId} {pos : String} {aft : Array Edge} {gd : Option (Nat × Bool)} {at_ : Array TypeId} {f n : Nat} {row : List D} {hp' : Hp}
    (hg : ρr.f 53 = g53) (hx : s.ev x = some (.own f 0 n)) (ho : hget s.hp f 0 = some (.rowD E 1 row)) (hrow : row = xs.map zD) (hn : n = xs.length) (hh : hset? s.hp f 0 (.rowD E 1 ((sortI xs).map zD)) = some hp') (hd : Nat.blt d s.n = true) :
    Zal P F ⟨some d, .call { callee := .value (.func g53), args := #[x], argTypes := at_ }, ty, pos, aft, gd⟩ s ⟨s.n, (d, .d (.tup [])) :: s.env, hp'⟩ (fun _ _ => true) := by
  subst hg hrow hn;intro ρ act w hs
  obtain ⟨fn6, hf1, hf2, hf3⟩ : ∃ fn, P.funcs[ρr.f 53]? = some fn ∧ (fn.name == "runtime.NumGoroutine") = false ∧ fn.body.isSome = true := by
    obtain ⟨nm, hn, hf⟩ := L.f53;exact ⟨_, hf, hn, rfl⟩
  unfold Oper.wp;rw [show (#[x] : Array Operand) = [x].toArray from rfl, run_call hf1 hf2 hf3, Oper.upon_enter]
  suffices key : Calls P (ρr.f 53) ([x].map act.eval).toArray w fun e w' => e = .returned (.tuple #[]) ∧ SR F ⟨s.n, s.env, hp'⟩ ρ act w' by
    refine key.mono fun e w' ⟨e1, hsr⟩ => ?_;subst e1;exact ⟨ρ, hsr.put (Zbc hd) (.d (.tup rfl fun i c v hc => by cases hc)), fun _ _ _ => rfl⟩
  have r0 := hs.ev hx;have hg0 := ho;have h3 := hs.heap;have hset := hset?_spec hh;obtain ⟨us, q1, q2, q3⟩ := h3.sim f 0 _ hg0;show Calls P (ρr.f 53) #[act.eval x] w _
  generalize act.eval x = V0 at r0
  cases r0 with
  | own hρ hle =>
    rename_i N cap a
    by_cases hx : xs = []
    · subst hx;refine (AnyG.slices_Sort_int_none L a cap w).mono fun e w' ⟨e1, e2⟩ => ?_;subst e1 e2;refine ⟨rfl, hs.writeG f 0 _ _ ho hset rfl rfl rfl (Nat.le_refl _) (Nat.le_refl _) (fun _ _ _ => rfl) (fun _ _ e => by cases e) fun hrep => ?_⟩;have h0 : sortI [] = [] := by simp [sortI]
      rw [h0];exact ⟨us, q1, ⟨by simpa using q2.1, fun x hx => (by cases hx), fun i x hx => by simp at hx⟩, fun x hx => (by cases hx)⟩
    · have hn : 0 < xs.length := List.length_pos_iff.2 hx;have hul : us.length = xs.length := by have := q2.1; rw [List.length_map] at this; omega
      have hblkeq : ∃ b cur, a = some ⟨b, 0, none⟩ ∧ w.heap[b]? = some (.cells cur E (0, 0)) ∧ cur.size = cap ∧ xs.length ≤ cap ∧ cap ≤ maxLen ∧ cur.toList.take xs.length = us ∧ N = xs.length := by
        rcases q1.2 with ⟨_, h⟩ | ⟨b, cap', cur, e1, _, e2, e3, e4, e5, e6⟩
        · rw [List.length_map] at h; omega
        · rw [hρ] at e1;injection e1 with e1 e7 e8
          subst e1 e8;rw [List.length_map] at e3 e6 e7;exact ⟨b, cur, rfl, e2, by omega, e3, e4, by rw [Nat.mul_one] at e6; exact e6, e7⟩
      obtain ⟨b, cur, rfl, p1, p2, p3, p3', p4, rfl⟩ := hblkeq;have hb : blkOf (ρ f 0) = some b := by rw [hρ]; rfl
      have hlt : b < w.heap.size := (Array.getElem?_eq_some_iff.1 p1).1
      have hus : ∀ i (hi : i < xs.length), us[i]? = some (.int .i64 xs[i]) := fun i hi => by
        have hm : (xs.map zD)[i]? = some (zD xs[i]) := by rw [List.getElem?_map, List.getElem?_eq_getElem hi]; rfl
        obtain ⟨u, hu, _, hr⟩ := q2.2.2 i _ hm 0 (zD xs[i]) rfl;rw [Nat.mul_one, Nat.add_zero] at hu
        cases hr with
        | raw _ => exact hu
      have hH : Holds (Value.int .i64) w b 0 xs.toArray := by
        intro j hj;have hj : j < xs.length := by simpa using hj
        refine ⟨?_, ?_⟩
        · have hju : us[j]? = cur.toList[j]? := by rw [← p4, List.getElem?_take_of_lt hj]
          simp only [World.cell?, p1, Nat.zero_add];have h1 := hus j hj;rw [hju] at h1;rw [getElem!_pos _ j (by simpa using hj)];have hjc : j < cur.size := by simpa using (List.getElem?_eq_some_iff.1 h1).1
          simp only [List.getElem_toArray]
          simp [hjc] at h1 ⊢
          exact h1
        · simp only [World.frozen?, p1]; simp
      have key := AnyG.slices_Sort_int L b 0 cap xs w hH hlt hsz;refine key.mono fun e w' ⟨e1, nd, os, hw⟩ => ?_;subst e1 hw
      obtain ⟨ys, hys⟩ : ∃ ys, sortI xs = ys := ⟨_, rfl⟩
      have hys' : (xs.mergeSort fun x y => decide (x ≤ y)) = ys := hys;have hyl : ys.length = xs.length := by rw [← hys, sortI_len]
      rw [hys] at hset hh;rw [hys'];refine ⟨rfl, ?_⟩;have hsz2 : ((putRow (Value.int .i64) (Go.Sort.ahead w nd) b 0 ys.toArray)).heap.size = w.heap.size := by rw [Go.Sort.size_putRow]; rfl
      have hoth : ∀ b', b' < w.heap.size → b' ≠ b → (Go.Sort.grow (putRow (Value.int .i64) (Go.Sort.ahead w nd) b 0 ys.toArray) os).heap[b']? = w.heap[b']? := fun b' hl hne => by
        rw [Go.Sort.heap_grow_old _ _ (by rw [hsz2]; exact hl)];show (w.heap.modify b _)[b']? = _;rw [Array.getElem?_modify, if_neg (Ne.symm hne)]
      refine hs.writeG f 0 _ _ ho hset rfl rfl rfl (by rw [Go.Sort.size_grow, hsz2]; exact Nat.le_add_right _ _) (Nat.le_add_right _ _) (fun b' hl hno => hoth b' hl (fun e => hno (by rw [e]; exact hb))) (fun _ _ e => by cases e) fun hrep => ?_
      have hheap : (Go.Sort.grow (putRow (Value.int .i64) (Go.Sort.ahead w nd) b 0 ys.toArray) os).heap[b]? = some (.cells (putCells (Value.int .i64) 0 ys.toArray cur) E (0, 0)) := by
        rw [Go.Sort.heap_grow_old _ _ (by rw [hsz2]; exact hlt)];show (w.heap.modify b _)[b]? = _;rw [Array.getElem?_modify, if_pos rfl, p1]; rfl
      have hcs : (putCells (Value.int .i64) 0 ys.toArray cur).size = cap := by simp only [putCells, Array.size_mapIdx]; exact p2
      have hyl2 : (ys.map zD).length = xs.length := by rw [List.length_map, hyl]
      refine ⟨ys.map (Value.int .i64), ⟨by rw [List.length_map, hyl2, hyl, Nat.mul_one], .inr ⟨b, cap, _, by rw [hρ, hyl2], Nat.zero_le _, hheap, by rw [hyl2]; exact p3, p3', by omega, ?_⟩⟩, ⟨by rw [List.length_map, hyl2, hyl, Nat.mul_one], fun x hx2 => ?_, fun i x hx2 j c hc2 => ?_⟩, fun x hx2 c hc2 => ?_⟩
      · rw [hyl2, Nat.mul_one]
        apply List.ext_getElem?
        intro i
        by_cases hi : i < xs.length
        · rw [List.getElem?_take_of_lt hi, Array.getElem?_toList, List.getElem?_map, List.getElem?_eq_getElem (by omega), Array.getElem?_eq_getElem (by omega)];simp only [putCells, Array.getElem_mapIdx];rw [if_pos ⟨Nat.zero_le _, by simp; omega⟩];simp only [Nat.sub_zero, Option.map_some];rw [getElem!_pos _ i (by simp; omega)]
          simp
        · rw [List.getElem?_eq_none (by rw [List.length_take]; omega), List.getElem?_eq_none (by rw [List.length_map]; omega)]
      · obtain ⟨y, _, rfl⟩ := List.mem_map.1 hx2; rfl
      · rw [List.getElem?_map] at hx2
        cases hyi : ys[i]? with
        | none => rw [hyi] at hx2; cases hx2
        | some y =>
          rw [hyi] at hx2;injection hx2 with hx2; subst hx2
          have hj0 : j = 0 := by have := (List.getElem?_eq_some_iff.1 hc2).1; simp [D.cells] at this; exact this
          subst hj0;simp only [D.cells, List.getElem?_cons_zero, Option.some.injEq] at hc2;subst hc2;exact ⟨.int .i64 y, by rw [Nat.mul_one, Nat.add_zero, List.getElem?_map, hyi]; rfl, rfl, .raw rfl⟩
      · obtain ⟨y, _, rfl⟩ := List.mem_map.1 hx2;simp only [D.cells, List.mem_singleton] at hc2;subst hc2; rfl
end Go.Proofs.YtneihdahboilnaaGreat
